import JvmDerived
import JvmDerived.Pilot.@@N@@Statement
import JvmDerived.Pilot.@@N@@Code
set_option linter.unusedVariables false
set_option linter.unusedSimpArgs false
namespace Jvm.RoadKit
open Sem ClassFile Op Lib Jvm.Stand Jvm.Free Jvm.LawKit
section New
variable {p : Program} {l : Launch} {e : Env} {R : Room} {s : State} {m : MethodId} {args : Array Value} {below : List Frame} {meth : Method} {c : Code} {T : State} {locs : List Loc} {cells slots : Nat}
theorem retI (X : Stand p l e R s m args below meth c T locs cells slots) (hx : p.tables.exec = Jvm.exec) {pc : Nat} {Ls : Array Slot} {z : Int32} {rest : List Value} (hret : meth.sig.returnType = some .int) (hd : decode c.code pc = .ok (.ireturn, 1)) {fs : List Frame}
    (hl : ∀ (f : JFrame) (acts : List Action), f.method = m → f.locked = none → f.entered = [] → (doReturn e (T.setTop f) acts (some (.int z))).1 = T.setFrames fs) : Steps p.tables e below (T.setTop (mkF m pc Ls (.int z :: rest))) (T.setFrames fs) := by
  have hm' : T.vm.method? m = some meth := X.method'
  have hn : narrow .int (.int z) = .int z := rfl
  show Steps p.tables e below (T.setTop { method := m, pc := pc, locals := Ls, stack := _ :: rest, locked := none }) _
  jvm_step X.here [X.here.top, hx, hd, hm', hret, hn]
  first | (intro acts; rw [hl _ acts rfl rfl rfl]) | rw [hl _ _ rfl rfl rfl]
  exact Steps.refl _
end New
end Jvm.RoadKit
namespace Jvm.Pilot.@@N@@
open Jvm Jvm.ClassFile Sem Op Lib Jvm.Free Jvm.Stand Jvm.LawKit Jvm.RoadKit Bundle Jvm.Pilot.@@N@@.Jvm.D
theorem own_ext_refl (h : Heap) : Ext h h := ⟨Nat.le_refl _, fun _ _ q => q⟩
theorem own_ext_trans {h h' h2 : Heap} (A : Ext h h') (B : Ext h' h2) : Ext h h2 := ⟨Nat.le_trans A.1 B.1, fun a c q => B.2 a c (A.2 a c q)⟩
theorem own_ext_keep {h h' h2 : Heap} {ws : List Addr} (A : Ext h h') (K : Keep h' h2 ws) (q : ∀ x ∈ ws, h.size ≤ x) : Ext h h2 := ⟨Nat.le_trans A.1 K.1, fun a c r => K.2.1 a c (A.2 a c r) fun z => absurd (Array.getElem?_eq_some_iff.mp r).1 (Nat.not_lt.mpr (q a z))⟩
theorem own_pin {args : Array Value} {Z : State} {t : Term} {C : String} (h : (Jvm.Cond.exactly t C).value args Z none Z [] = some true) : ∃ a, t.eval args Z none [] Z = some (.ref a) ∧ Exa Z Z.heap a C := by
  obtain ⟨a, ev⟩ := exa_v h
  exact ⟨a, ev, Exa.start ev h⟩
theorem own_fld {args : Array Value} {Z : State} {t : Term} {a : Addr} {C n d : String} {k : Int32} (ev : t.eval args Z none [] Z = some (.ref a)) (h : (Jvm.Cond.eq (.field t C n d) (.int k)).value args Z none Z [] = some true) : Fld Z Z.heap a C n d (.int k) := by
  obtain ⟨x, y, h1, h2, hk, -⟩ := cmp_v (Or.inl h)
  have h2' : y = .int k := (Option.some.inj h2).symm
  subst h2'
  have hx : ∃ z, x = .int z := by cases x <;> simp [Kin, Value.isRef] at hk ⊢
  obtain ⟨z, rfl⟩ := hx
  have hv : (Jvm.Cond.eq (.field t C n d) (.int k)).value args Z none Z [] = some (decide (z = k)) := by simp only [Jvm.Cond.value, h1, h2]
  have e : z = k := gotT hv h
  subst e
  exact Fld.start (by rw [← fld_at ev]; exact h1)
def Pins (Z : State) (w_EQUAL w_ONE_AND_ONLY w_ADD w_IN w_SUBTRACT w_GREATER_THAN_OR_EQUAL w_GREATER_THAN w_LESS_THAN_OR_EQUAL w_MULTIPLY w_DIVIDE : Addr) : Prop := Sta Z Z.heap "com/example/usage_verdict/usageverdict/language/Function" "EQUAL" "Lcom/example/usage_verdict/usageverdict/language/Function;" (.ref w_EQUAL) ∧ Sta Z Z.heap "com/example/usage_verdict/usageverdict/language/Function" "ONE_AND_ONLY" "Lcom/example/usage_verdict/usageverdict/language/Function;" (.ref w_ONE_AND_ONLY) ∧ Sta Z Z.heap "com/example/usage_verdict/usageverdict/language/Function" "ADD" "Lcom/example/usage_verdict/usageverdict/language/Function;" (.ref w_ADD) ∧ Sta Z Z.heap "com/example/usage_verdict/usageverdict/language/Function" "IN" "Lcom/example/usage_verdict/usageverdict/language/Function;" (.ref w_IN) ∧ Sta Z Z.heap "com/example/usage_verdict/usageverdict/language/Function" "SUBTRACT" "Lcom/example/usage_verdict/usageverdict/language/Function;" (.ref w_SUBTRACT) ∧ Sta Z Z.heap "com/example/usage_verdict/usageverdict/language/Function" "GREATER_THAN_OR_EQUAL" "Lcom/example/usage_verdict/usageverdict/language/Function;" (.ref w_GREATER_THAN_OR_EQUAL) ∧ Sta Z Z.heap "com/example/usage_verdict/usageverdict/language/Function" "GREATER_THAN" "Lcom/example/usage_verdict/usageverdict/language/Function;" (.ref w_GREATER_THAN) ∧ Sta Z Z.heap "com/example/usage_verdict/usageverdict/language/Function" "LESS_THAN_OR_EQUAL" "Lcom/example/usage_verdict/usageverdict/language/Function;" (.ref w_LESS_THAN_OR_EQUAL) ∧ Sta Z Z.heap "com/example/usage_verdict/usageverdict/language/Function" "MULTIPLY" "Lcom/example/usage_verdict/usageverdict/language/Function;" (.ref w_MULTIPLY) ∧ Sta Z Z.heap "com/example/usage_verdict/usageverdict/language/Function" "DIVIDE" "Lcom/example/usage_verdict/usageverdict/language/Function;" (.ref w_DIVIDE) ∧ Exa Z Z.heap w_EQUAL "com/example/usage_verdict/usageverdict/language/Function" ∧ Exa Z Z.heap w_ONE_AND_ONLY "com/example/usage_verdict/usageverdict/language/Function" ∧ Exa Z Z.heap w_ADD "com/example/usage_verdict/usageverdict/language/Function" ∧ Exa Z Z.heap w_IN "com/example/usage_verdict/usageverdict/language/Function" ∧ Exa Z Z.heap w_SUBTRACT "com/example/usage_verdict/usageverdict/language/Function" ∧ Exa Z Z.heap w_GREATER_THAN_OR_EQUAL "com/example/usage_verdict/usageverdict/language/Function" ∧ Exa Z Z.heap w_GREATER_THAN "com/example/usage_verdict/usageverdict/language/Function" ∧ Exa Z Z.heap w_LESS_THAN_OR_EQUAL "com/example/usage_verdict/usageverdict/language/Function" ∧ Exa Z Z.heap w_MULTIPLY "com/example/usage_verdict/usageverdict/language/Function" ∧ Exa Z Z.heap w_DIVIDE "com/example/usage_verdict/usageverdict/language/Function" ∧ Fld Z Z.heap w_EQUAL "java/lang/Enum" "ordinal" "I" (.int (0 : Int32)) ∧ Fld Z Z.heap w_ONE_AND_ONLY "java/lang/Enum" "ordinal" "I" (.int (9 : Int32)) ∧ Fld Z Z.heap w_ADD "java/lang/Enum" "ordinal" "I" (.int (3 : Int32)) ∧ Fld Z Z.heap w_IN "java/lang/Enum" "ordinal" "I" (.int (1 : Int32)) ∧ Fld Z Z.heap w_SUBTRACT "java/lang/Enum" "ordinal" "I" (.int (4 : Int32)) ∧ Fld Z Z.heap w_GREATER_THAN_OR_EQUAL "java/lang/Enum" "ordinal" "I" (.int (7 : Int32)) ∧ Fld Z Z.heap w_GREATER_THAN "java/lang/Enum" "ordinal" "I" (.int (2 : Int32)) ∧ Fld Z Z.heap w_LESS_THAN_OR_EQUAL "java/lang/Enum" "ordinal" "I" (.int (8 : Int32)) ∧ Fld Z Z.heap w_ONE_AND_ONLY "com/example/usage_verdict/usageverdict/language/Function" "arity" "I" (.int (1 : Int32)) ∧ Fld Z Z.heap w_MULTIPLY "java/lang/Enum" "ordinal" "I" (.int (5 : Int32)) ∧ Fld Z Z.heap w_DIVIDE "java/lang/Enum" "ordinal" "I" (.int (6 : Int32)) ∧ Fld Z Z.heap w_EQUAL "com/example/usage_verdict/usageverdict/language/Function" "arity" "I" (.int (2 : Int32)) ∧ Fld Z Z.heap w_ADD "com/example/usage_verdict/usageverdict/language/Function" "arity" "I" (.int (2 : Int32)) ∧ Fld Z Z.heap w_IN "com/example/usage_verdict/usageverdict/language/Function" "arity" "I" (.int (2 : Int32)) ∧ Fld Z Z.heap w_SUBTRACT "com/example/usage_verdict/usageverdict/language/Function" "arity" "I" (.int (2 : Int32)) ∧ Fld Z Z.heap w_GREATER_THAN_OR_EQUAL "com/example/usage_verdict/usageverdict/language/Function" "arity" "I" (.int (2 : Int32)) ∧ Fld Z Z.heap w_GREATER_THAN "com/example/usage_verdict/usageverdict/language/Function" "arity" "I" (.int (2 : Int32)) ∧ Fld Z Z.heap w_LESS_THAN_OR_EQUAL "com/example/usage_verdict/usageverdict/language/Function" "arity" "I" (.int (2 : Int32)) ∧ Fld Z Z.heap w_MULTIPLY "com/example/usage_verdict/usageverdict/language/Function" "arity" "I" (.int (2 : Int32)) ∧ Fld Z Z.heap w_DIVIDE "com/example/usage_verdict/usageverdict/language/Function" "arity" "I" (.int (2 : Int32))
def pickF (k : Int32) (w_EQUAL w_ONE_AND_ONLY w_ADD w_IN w_SUBTRACT w_GREATER_THAN_OR_EQUAL w_GREATER_THAN w_LESS_THAN_OR_EQUAL w_MULTIPLY w_DIVIDE : Addr) : Addr := if k = (0 : Int32) then w_EQUAL else if k = (1 : Int32) then w_IN else if k = (2 : Int32) then w_GREATER_THAN else if k = (3 : Int32) then w_ADD else if k = (4 : Int32) then w_SUBTRACT else if k = (5 : Int32) then w_MULTIPLY else if k = (6 : Int32) then w_DIVIDE else if k = (7 : Int32) then w_GREATER_THAN_OR_EQUAL else if k = (8 : Int32) then w_LESS_THAN_OR_EQUAL else w_ONE_AND_ONLY
theorem own_ne_EQUAL_ONE_AND_ONLY {Z : State} {w_EQUAL w_ONE_AND_ONLY w_ADD w_IN w_SUBTRACT w_GREATER_THAN_OR_EQUAL w_GREATER_THAN w_LESS_THAN_OR_EQUAL w_MULTIPLY w_DIVIDE : Addr} (P : Pins Z w_EQUAL w_ONE_AND_ONLY w_ADD w_IN w_SUBTRACT w_GREATER_THAN_OR_EQUAL w_GREATER_THAN w_LESS_THAN_OR_EQUAL w_MULTIPLY w_DIVIDE) : w_EQUAL ≠ w_ONE_AND_ONLY := by
  obtain ⟨S_EQUAL, S_ONE_AND_ONLY, S_ADD, S_IN, S_SUBTRACT, S_GREATER_THAN_OR_EQUAL, S_GREATER_THAN, S_LESS_THAN_OR_EQUAL, S_MULTIPLY, S_DIVIDE, E_EQUAL, E_ONE_AND_ONLY, E_ADD, E_IN, E_SUBTRACT, E_GREATER_THAN_OR_EQUAL, E_GREATER_THAN, E_LESS_THAN_OR_EQUAL, E_MULTIPLY, E_DIVIDE, F_ordinal_EQUAL, F_ordinal_ONE_AND_ONLY, F_ordinal_ADD, F_ordinal_IN, F_ordinal_SUBTRACT, F_ordinal_GREATER_THAN_OR_EQUAL, F_ordinal_GREATER_THAN, F_ordinal_LESS_THAN_OR_EQUAL, F_arity_ONE_AND_ONLY, F_ordinal_MULTIPLY, F_ordinal_DIVIDE, F_arity_EQUAL, F_arity_ADD, F_arity_IN, F_arity_SUBTRACT, F_arity_GREATER_THAN_OR_EQUAL, F_arity_GREATER_THAN, F_arity_LESS_THAN_OR_EQUAL, F_arity_MULTIPLY, F_arity_DIVIDE⟩ := P
  exact Fld.ne F_ordinal_EQUAL F_ordinal_ONE_AND_ONLY (by decide)
theorem own_ne_EQUAL_ADD {Z : State} {w_EQUAL w_ONE_AND_ONLY w_ADD w_IN w_SUBTRACT w_GREATER_THAN_OR_EQUAL w_GREATER_THAN w_LESS_THAN_OR_EQUAL w_MULTIPLY w_DIVIDE : Addr} (P : Pins Z w_EQUAL w_ONE_AND_ONLY w_ADD w_IN w_SUBTRACT w_GREATER_THAN_OR_EQUAL w_GREATER_THAN w_LESS_THAN_OR_EQUAL w_MULTIPLY w_DIVIDE) : w_EQUAL ≠ w_ADD := by
  obtain ⟨S_EQUAL, S_ONE_AND_ONLY, S_ADD, S_IN, S_SUBTRACT, S_GREATER_THAN_OR_EQUAL, S_GREATER_THAN, S_LESS_THAN_OR_EQUAL, S_MULTIPLY, S_DIVIDE, E_EQUAL, E_ONE_AND_ONLY, E_ADD, E_IN, E_SUBTRACT, E_GREATER_THAN_OR_EQUAL, E_GREATER_THAN, E_LESS_THAN_OR_EQUAL, E_MULTIPLY, E_DIVIDE, F_ordinal_EQUAL, F_ordinal_ONE_AND_ONLY, F_ordinal_ADD, F_ordinal_IN, F_ordinal_SUBTRACT, F_ordinal_GREATER_THAN_OR_EQUAL, F_ordinal_GREATER_THAN, F_ordinal_LESS_THAN_OR_EQUAL, F_arity_ONE_AND_ONLY, F_ordinal_MULTIPLY, F_ordinal_DIVIDE, F_arity_EQUAL, F_arity_ADD, F_arity_IN, F_arity_SUBTRACT, F_arity_GREATER_THAN_OR_EQUAL, F_arity_GREATER_THAN, F_arity_LESS_THAN_OR_EQUAL, F_arity_MULTIPLY, F_arity_DIVIDE⟩ := P
  exact Fld.ne F_ordinal_EQUAL F_ordinal_ADD (by decide)
theorem own_ne_EQUAL_IN {Z : State} {w_EQUAL w_ONE_AND_ONLY w_ADD w_IN w_SUBTRACT w_GREATER_THAN_OR_EQUAL w_GREATER_THAN w_LESS_THAN_OR_EQUAL w_MULTIPLY w_DIVIDE : Addr} (P : Pins Z w_EQUAL w_ONE_AND_ONLY w_ADD w_IN w_SUBTRACT w_GREATER_THAN_OR_EQUAL w_GREATER_THAN w_LESS_THAN_OR_EQUAL w_MULTIPLY w_DIVIDE) : w_EQUAL ≠ w_IN := by
  obtain ⟨S_EQUAL, S_ONE_AND_ONLY, S_ADD, S_IN, S_SUBTRACT, S_GREATER_THAN_OR_EQUAL, S_GREATER_THAN, S_LESS_THAN_OR_EQUAL, S_MULTIPLY, S_DIVIDE, E_EQUAL, E_ONE_AND_ONLY, E_ADD, E_IN, E_SUBTRACT, E_GREATER_THAN_OR_EQUAL, E_GREATER_THAN, E_LESS_THAN_OR_EQUAL, E_MULTIPLY, E_DIVIDE, F_ordinal_EQUAL, F_ordinal_ONE_AND_ONLY, F_ordinal_ADD, F_ordinal_IN, F_ordinal_SUBTRACT, F_ordinal_GREATER_THAN_OR_EQUAL, F_ordinal_GREATER_THAN, F_ordinal_LESS_THAN_OR_EQUAL, F_arity_ONE_AND_ONLY, F_ordinal_MULTIPLY, F_ordinal_DIVIDE, F_arity_EQUAL, F_arity_ADD, F_arity_IN, F_arity_SUBTRACT, F_arity_GREATER_THAN_OR_EQUAL, F_arity_GREATER_THAN, F_arity_LESS_THAN_OR_EQUAL, F_arity_MULTIPLY, F_arity_DIVIDE⟩ := P
  exact Fld.ne F_ordinal_EQUAL F_ordinal_IN (by decide)
theorem own_ne_EQUAL_SUBTRACT {Z : State} {w_EQUAL w_ONE_AND_ONLY w_ADD w_IN w_SUBTRACT w_GREATER_THAN_OR_EQUAL w_GREATER_THAN w_LESS_THAN_OR_EQUAL w_MULTIPLY w_DIVIDE : Addr} (P : Pins Z w_EQUAL w_ONE_AND_ONLY w_ADD w_IN w_SUBTRACT w_GREATER_THAN_OR_EQUAL w_GREATER_THAN w_LESS_THAN_OR_EQUAL w_MULTIPLY w_DIVIDE) : w_EQUAL ≠ w_SUBTRACT := by
  obtain ⟨S_EQUAL, S_ONE_AND_ONLY, S_ADD, S_IN, S_SUBTRACT, S_GREATER_THAN_OR_EQUAL, S_GREATER_THAN, S_LESS_THAN_OR_EQUAL, S_MULTIPLY, S_DIVIDE, E_EQUAL, E_ONE_AND_ONLY, E_ADD, E_IN, E_SUBTRACT, E_GREATER_THAN_OR_EQUAL, E_GREATER_THAN, E_LESS_THAN_OR_EQUAL, E_MULTIPLY, E_DIVIDE, F_ordinal_EQUAL, F_ordinal_ONE_AND_ONLY, F_ordinal_ADD, F_ordinal_IN, F_ordinal_SUBTRACT, F_ordinal_GREATER_THAN_OR_EQUAL, F_ordinal_GREATER_THAN, F_ordinal_LESS_THAN_OR_EQUAL, F_arity_ONE_AND_ONLY, F_ordinal_MULTIPLY, F_ordinal_DIVIDE, F_arity_EQUAL, F_arity_ADD, F_arity_IN, F_arity_SUBTRACT, F_arity_GREATER_THAN_OR_EQUAL, F_arity_GREATER_THAN, F_arity_LESS_THAN_OR_EQUAL, F_arity_MULTIPLY, F_arity_DIVIDE⟩ := P
  exact Fld.ne F_ordinal_EQUAL F_ordinal_SUBTRACT (by decide)
theorem own_ne_EQUAL_GREATER_THAN_OR_EQUAL {Z : State} {w_EQUAL w_ONE_AND_ONLY w_ADD w_IN w_SUBTRACT w_GREATER_THAN_OR_EQUAL w_GREATER_THAN w_LESS_THAN_OR_EQUAL w_MULTIPLY w_DIVIDE : Addr} (P : Pins Z w_EQUAL w_ONE_AND_ONLY w_ADD w_IN w_SUBTRACT w_GREATER_THAN_OR_EQUAL w_GREATER_THAN w_LESS_THAN_OR_EQUAL w_MULTIPLY w_DIVIDE) : w_EQUAL ≠ w_GREATER_THAN_OR_EQUAL := by
  obtain ⟨S_EQUAL, S_ONE_AND_ONLY, S_ADD, S_IN, S_SUBTRACT, S_GREATER_THAN_OR_EQUAL, S_GREATER_THAN, S_LESS_THAN_OR_EQUAL, S_MULTIPLY, S_DIVIDE, E_EQUAL, E_ONE_AND_ONLY, E_ADD, E_IN, E_SUBTRACT, E_GREATER_THAN_OR_EQUAL, E_GREATER_THAN, E_LESS_THAN_OR_EQUAL, E_MULTIPLY, E_DIVIDE, F_ordinal_EQUAL, F_ordinal_ONE_AND_ONLY, F_ordinal_ADD, F_ordinal_IN, F_ordinal_SUBTRACT, F_ordinal_GREATER_THAN_OR_EQUAL, F_ordinal_GREATER_THAN, F_ordinal_LESS_THAN_OR_EQUAL, F_arity_ONE_AND_ONLY, F_ordinal_MULTIPLY, F_ordinal_DIVIDE, F_arity_EQUAL, F_arity_ADD, F_arity_IN, F_arity_SUBTRACT, F_arity_GREATER_THAN_OR_EQUAL, F_arity_GREATER_THAN, F_arity_LESS_THAN_OR_EQUAL, F_arity_MULTIPLY, F_arity_DIVIDE⟩ := P
  exact Fld.ne F_ordinal_EQUAL F_ordinal_GREATER_THAN_OR_EQUAL (by decide)
theorem own_ne_EQUAL_GREATER_THAN {Z : State} {w_EQUAL w_ONE_AND_ONLY w_ADD w_IN w_SUBTRACT w_GREATER_THAN_OR_EQUAL w_GREATER_THAN w_LESS_THAN_OR_EQUAL w_MULTIPLY w_DIVIDE : Addr} (P : Pins Z w_EQUAL w_ONE_AND_ONLY w_ADD w_IN w_SUBTRACT w_GREATER_THAN_OR_EQUAL w_GREATER_THAN w_LESS_THAN_OR_EQUAL w_MULTIPLY w_DIVIDE) : w_EQUAL ≠ w_GREATER_THAN := by
  obtain ⟨S_EQUAL, S_ONE_AND_ONLY, S_ADD, S_IN, S_SUBTRACT, S_GREATER_THAN_OR_EQUAL, S_GREATER_THAN, S_LESS_THAN_OR_EQUAL, S_MULTIPLY, S_DIVIDE, E_EQUAL, E_ONE_AND_ONLY, E_ADD, E_IN, E_SUBTRACT, E_GREATER_THAN_OR_EQUAL, E_GREATER_THAN, E_LESS_THAN_OR_EQUAL, E_MULTIPLY, E_DIVIDE, F_ordinal_EQUAL, F_ordinal_ONE_AND_ONLY, F_ordinal_ADD, F_ordinal_IN, F_ordinal_SUBTRACT, F_ordinal_GREATER_THAN_OR_EQUAL, F_ordinal_GREATER_THAN, F_ordinal_LESS_THAN_OR_EQUAL, F_arity_ONE_AND_ONLY, F_ordinal_MULTIPLY, F_ordinal_DIVIDE, F_arity_EQUAL, F_arity_ADD, F_arity_IN, F_arity_SUBTRACT, F_arity_GREATER_THAN_OR_EQUAL, F_arity_GREATER_THAN, F_arity_LESS_THAN_OR_EQUAL, F_arity_MULTIPLY, F_arity_DIVIDE⟩ := P
  exact Fld.ne F_ordinal_EQUAL F_ordinal_GREATER_THAN (by decide)
theorem own_ne_EQUAL_LESS_THAN_OR_EQUAL {Z : State} {w_EQUAL w_ONE_AND_ONLY w_ADD w_IN w_SUBTRACT w_GREATER_THAN_OR_EQUAL w_GREATER_THAN w_LESS_THAN_OR_EQUAL w_MULTIPLY w_DIVIDE : Addr} (P : Pins Z w_EQUAL w_ONE_AND_ONLY w_ADD w_IN w_SUBTRACT w_GREATER_THAN_OR_EQUAL w_GREATER_THAN w_LESS_THAN_OR_EQUAL w_MULTIPLY w_DIVIDE) : w_EQUAL ≠ w_LESS_THAN_OR_EQUAL := by
  obtain ⟨S_EQUAL, S_ONE_AND_ONLY, S_ADD, S_IN, S_SUBTRACT, S_GREATER_THAN_OR_EQUAL, S_GREATER_THAN, S_LESS_THAN_OR_EQUAL, S_MULTIPLY, S_DIVIDE, E_EQUAL, E_ONE_AND_ONLY, E_ADD, E_IN, E_SUBTRACT, E_GREATER_THAN_OR_EQUAL, E_GREATER_THAN, E_LESS_THAN_OR_EQUAL, E_MULTIPLY, E_DIVIDE, F_ordinal_EQUAL, F_ordinal_ONE_AND_ONLY, F_ordinal_ADD, F_ordinal_IN, F_ordinal_SUBTRACT, F_ordinal_GREATER_THAN_OR_EQUAL, F_ordinal_GREATER_THAN, F_ordinal_LESS_THAN_OR_EQUAL, F_arity_ONE_AND_ONLY, F_ordinal_MULTIPLY, F_ordinal_DIVIDE, F_arity_EQUAL, F_arity_ADD, F_arity_IN, F_arity_SUBTRACT, F_arity_GREATER_THAN_OR_EQUAL, F_arity_GREATER_THAN, F_arity_LESS_THAN_OR_EQUAL, F_arity_MULTIPLY, F_arity_DIVIDE⟩ := P
  exact Fld.ne F_ordinal_EQUAL F_ordinal_LESS_THAN_OR_EQUAL (by decide)
theorem own_ne_EQUAL_MULTIPLY {Z : State} {w_EQUAL w_ONE_AND_ONLY w_ADD w_IN w_SUBTRACT w_GREATER_THAN_OR_EQUAL w_GREATER_THAN w_LESS_THAN_OR_EQUAL w_MULTIPLY w_DIVIDE : Addr} (P : Pins Z w_EQUAL w_ONE_AND_ONLY w_ADD w_IN w_SUBTRACT w_GREATER_THAN_OR_EQUAL w_GREATER_THAN w_LESS_THAN_OR_EQUAL w_MULTIPLY w_DIVIDE) : w_EQUAL ≠ w_MULTIPLY := by
  obtain ⟨S_EQUAL, S_ONE_AND_ONLY, S_ADD, S_IN, S_SUBTRACT, S_GREATER_THAN_OR_EQUAL, S_GREATER_THAN, S_LESS_THAN_OR_EQUAL, S_MULTIPLY, S_DIVIDE, E_EQUAL, E_ONE_AND_ONLY, E_ADD, E_IN, E_SUBTRACT, E_GREATER_THAN_OR_EQUAL, E_GREATER_THAN, E_LESS_THAN_OR_EQUAL, E_MULTIPLY, E_DIVIDE, F_ordinal_EQUAL, F_ordinal_ONE_AND_ONLY, F_ordinal_ADD, F_ordinal_IN, F_ordinal_SUBTRACT, F_ordinal_GREATER_THAN_OR_EQUAL, F_ordinal_GREATER_THAN, F_ordinal_LESS_THAN_OR_EQUAL, F_arity_ONE_AND_ONLY, F_ordinal_MULTIPLY, F_ordinal_DIVIDE, F_arity_EQUAL, F_arity_ADD, F_arity_IN, F_arity_SUBTRACT, F_arity_GREATER_THAN_OR_EQUAL, F_arity_GREATER_THAN, F_arity_LESS_THAN_OR_EQUAL, F_arity_MULTIPLY, F_arity_DIVIDE⟩ := P
  exact Fld.ne F_ordinal_EQUAL F_ordinal_MULTIPLY (by decide)
theorem own_ne_EQUAL_DIVIDE {Z : State} {w_EQUAL w_ONE_AND_ONLY w_ADD w_IN w_SUBTRACT w_GREATER_THAN_OR_EQUAL w_GREATER_THAN w_LESS_THAN_OR_EQUAL w_MULTIPLY w_DIVIDE : Addr} (P : Pins Z w_EQUAL w_ONE_AND_ONLY w_ADD w_IN w_SUBTRACT w_GREATER_THAN_OR_EQUAL w_GREATER_THAN w_LESS_THAN_OR_EQUAL w_MULTIPLY w_DIVIDE) : w_EQUAL ≠ w_DIVIDE := by
  obtain ⟨S_EQUAL, S_ONE_AND_ONLY, S_ADD, S_IN, S_SUBTRACT, S_GREATER_THAN_OR_EQUAL, S_GREATER_THAN, S_LESS_THAN_OR_EQUAL, S_MULTIPLY, S_DIVIDE, E_EQUAL, E_ONE_AND_ONLY, E_ADD, E_IN, E_SUBTRACT, E_GREATER_THAN_OR_EQUAL, E_GREATER_THAN, E_LESS_THAN_OR_EQUAL, E_MULTIPLY, E_DIVIDE, F_ordinal_EQUAL, F_ordinal_ONE_AND_ONLY, F_ordinal_ADD, F_ordinal_IN, F_ordinal_SUBTRACT, F_ordinal_GREATER_THAN_OR_EQUAL, F_ordinal_GREATER_THAN, F_ordinal_LESS_THAN_OR_EQUAL, F_arity_ONE_AND_ONLY, F_ordinal_MULTIPLY, F_ordinal_DIVIDE, F_arity_EQUAL, F_arity_ADD, F_arity_IN, F_arity_SUBTRACT, F_arity_GREATER_THAN_OR_EQUAL, F_arity_GREATER_THAN, F_arity_LESS_THAN_OR_EQUAL, F_arity_MULTIPLY, F_arity_DIVIDE⟩ := P
  exact Fld.ne F_ordinal_EQUAL F_ordinal_DIVIDE (by decide)
theorem own_ne_ONE_AND_ONLY_ADD {Z : State} {w_EQUAL w_ONE_AND_ONLY w_ADD w_IN w_SUBTRACT w_GREATER_THAN_OR_EQUAL w_GREATER_THAN w_LESS_THAN_OR_EQUAL w_MULTIPLY w_DIVIDE : Addr} (P : Pins Z w_EQUAL w_ONE_AND_ONLY w_ADD w_IN w_SUBTRACT w_GREATER_THAN_OR_EQUAL w_GREATER_THAN w_LESS_THAN_OR_EQUAL w_MULTIPLY w_DIVIDE) : w_ONE_AND_ONLY ≠ w_ADD := by
  obtain ⟨S_EQUAL, S_ONE_AND_ONLY, S_ADD, S_IN, S_SUBTRACT, S_GREATER_THAN_OR_EQUAL, S_GREATER_THAN, S_LESS_THAN_OR_EQUAL, S_MULTIPLY, S_DIVIDE, E_EQUAL, E_ONE_AND_ONLY, E_ADD, E_IN, E_SUBTRACT, E_GREATER_THAN_OR_EQUAL, E_GREATER_THAN, E_LESS_THAN_OR_EQUAL, E_MULTIPLY, E_DIVIDE, F_ordinal_EQUAL, F_ordinal_ONE_AND_ONLY, F_ordinal_ADD, F_ordinal_IN, F_ordinal_SUBTRACT, F_ordinal_GREATER_THAN_OR_EQUAL, F_ordinal_GREATER_THAN, F_ordinal_LESS_THAN_OR_EQUAL, F_arity_ONE_AND_ONLY, F_ordinal_MULTIPLY, F_ordinal_DIVIDE, F_arity_EQUAL, F_arity_ADD, F_arity_IN, F_arity_SUBTRACT, F_arity_GREATER_THAN_OR_EQUAL, F_arity_GREATER_THAN, F_arity_LESS_THAN_OR_EQUAL, F_arity_MULTIPLY, F_arity_DIVIDE⟩ := P
  exact Fld.ne F_ordinal_ONE_AND_ONLY F_ordinal_ADD (by decide)
theorem own_ne_ONE_AND_ONLY_IN {Z : State} {w_EQUAL w_ONE_AND_ONLY w_ADD w_IN w_SUBTRACT w_GREATER_THAN_OR_EQUAL w_GREATER_THAN w_LESS_THAN_OR_EQUAL w_MULTIPLY w_DIVIDE : Addr} (P : Pins Z w_EQUAL w_ONE_AND_ONLY w_ADD w_IN w_SUBTRACT w_GREATER_THAN_OR_EQUAL w_GREATER_THAN w_LESS_THAN_OR_EQUAL w_MULTIPLY w_DIVIDE) : w_ONE_AND_ONLY ≠ w_IN := by
  obtain ⟨S_EQUAL, S_ONE_AND_ONLY, S_ADD, S_IN, S_SUBTRACT, S_GREATER_THAN_OR_EQUAL, S_GREATER_THAN, S_LESS_THAN_OR_EQUAL, S_MULTIPLY, S_DIVIDE, E_EQUAL, E_ONE_AND_ONLY, E_ADD, E_IN, E_SUBTRACT, E_GREATER_THAN_OR_EQUAL, E_GREATER_THAN, E_LESS_THAN_OR_EQUAL, E_MULTIPLY, E_DIVIDE, F_ordinal_EQUAL, F_ordinal_ONE_AND_ONLY, F_ordinal_ADD, F_ordinal_IN, F_ordinal_SUBTRACT, F_ordinal_GREATER_THAN_OR_EQUAL, F_ordinal_GREATER_THAN, F_ordinal_LESS_THAN_OR_EQUAL, F_arity_ONE_AND_ONLY, F_ordinal_MULTIPLY, F_ordinal_DIVIDE, F_arity_EQUAL, F_arity_ADD, F_arity_IN, F_arity_SUBTRACT, F_arity_GREATER_THAN_OR_EQUAL, F_arity_GREATER_THAN, F_arity_LESS_THAN_OR_EQUAL, F_arity_MULTIPLY, F_arity_DIVIDE⟩ := P
  exact Fld.ne F_ordinal_ONE_AND_ONLY F_ordinal_IN (by decide)
theorem own_ne_ONE_AND_ONLY_SUBTRACT {Z : State} {w_EQUAL w_ONE_AND_ONLY w_ADD w_IN w_SUBTRACT w_GREATER_THAN_OR_EQUAL w_GREATER_THAN w_LESS_THAN_OR_EQUAL w_MULTIPLY w_DIVIDE : Addr} (P : Pins Z w_EQUAL w_ONE_AND_ONLY w_ADD w_IN w_SUBTRACT w_GREATER_THAN_OR_EQUAL w_GREATER_THAN w_LESS_THAN_OR_EQUAL w_MULTIPLY w_DIVIDE) : w_ONE_AND_ONLY ≠ w_SUBTRACT := by
  obtain ⟨S_EQUAL, S_ONE_AND_ONLY, S_ADD, S_IN, S_SUBTRACT, S_GREATER_THAN_OR_EQUAL, S_GREATER_THAN, S_LESS_THAN_OR_EQUAL, S_MULTIPLY, S_DIVIDE, E_EQUAL, E_ONE_AND_ONLY, E_ADD, E_IN, E_SUBTRACT, E_GREATER_THAN_OR_EQUAL, E_GREATER_THAN, E_LESS_THAN_OR_EQUAL, E_MULTIPLY, E_DIVIDE, F_ordinal_EQUAL, F_ordinal_ONE_AND_ONLY, F_ordinal_ADD, F_ordinal_IN, F_ordinal_SUBTRACT, F_ordinal_GREATER_THAN_OR_EQUAL, F_ordinal_GREATER_THAN, F_ordinal_LESS_THAN_OR_EQUAL, F_arity_ONE_AND_ONLY, F_ordinal_MULTIPLY, F_ordinal_DIVIDE, F_arity_EQUAL, F_arity_ADD, F_arity_IN, F_arity_SUBTRACT, F_arity_GREATER_THAN_OR_EQUAL, F_arity_GREATER_THAN, F_arity_LESS_THAN_OR_EQUAL, F_arity_MULTIPLY, F_arity_DIVIDE⟩ := P
  exact Fld.ne F_ordinal_ONE_AND_ONLY F_ordinal_SUBTRACT (by decide)
theorem own_ne_ONE_AND_ONLY_GREATER_THAN_OR_EQUAL {Z : State} {w_EQUAL w_ONE_AND_ONLY w_ADD w_IN w_SUBTRACT w_GREATER_THAN_OR_EQUAL w_GREATER_THAN w_LESS_THAN_OR_EQUAL w_MULTIPLY w_DIVIDE : Addr} (P : Pins Z w_EQUAL w_ONE_AND_ONLY w_ADD w_IN w_SUBTRACT w_GREATER_THAN_OR_EQUAL w_GREATER_THAN w_LESS_THAN_OR_EQUAL w_MULTIPLY w_DIVIDE) : w_ONE_AND_ONLY ≠ w_GREATER_THAN_OR_EQUAL := by
  obtain ⟨S_EQUAL, S_ONE_AND_ONLY, S_ADD, S_IN, S_SUBTRACT, S_GREATER_THAN_OR_EQUAL, S_GREATER_THAN, S_LESS_THAN_OR_EQUAL, S_MULTIPLY, S_DIVIDE, E_EQUAL, E_ONE_AND_ONLY, E_ADD, E_IN, E_SUBTRACT, E_GREATER_THAN_OR_EQUAL, E_GREATER_THAN, E_LESS_THAN_OR_EQUAL, E_MULTIPLY, E_DIVIDE, F_ordinal_EQUAL, F_ordinal_ONE_AND_ONLY, F_ordinal_ADD, F_ordinal_IN, F_ordinal_SUBTRACT, F_ordinal_GREATER_THAN_OR_EQUAL, F_ordinal_GREATER_THAN, F_ordinal_LESS_THAN_OR_EQUAL, F_arity_ONE_AND_ONLY, F_ordinal_MULTIPLY, F_ordinal_DIVIDE, F_arity_EQUAL, F_arity_ADD, F_arity_IN, F_arity_SUBTRACT, F_arity_GREATER_THAN_OR_EQUAL, F_arity_GREATER_THAN, F_arity_LESS_THAN_OR_EQUAL, F_arity_MULTIPLY, F_arity_DIVIDE⟩ := P
  exact Fld.ne F_ordinal_ONE_AND_ONLY F_ordinal_GREATER_THAN_OR_EQUAL (by decide)
theorem own_ne_ONE_AND_ONLY_GREATER_THAN {Z : State} {w_EQUAL w_ONE_AND_ONLY w_ADD w_IN w_SUBTRACT w_GREATER_THAN_OR_EQUAL w_GREATER_THAN w_LESS_THAN_OR_EQUAL w_MULTIPLY w_DIVIDE : Addr} (P : Pins Z w_EQUAL w_ONE_AND_ONLY w_ADD w_IN w_SUBTRACT w_GREATER_THAN_OR_EQUAL w_GREATER_THAN w_LESS_THAN_OR_EQUAL w_MULTIPLY w_DIVIDE) : w_ONE_AND_ONLY ≠ w_GREATER_THAN := by
  obtain ⟨S_EQUAL, S_ONE_AND_ONLY, S_ADD, S_IN, S_SUBTRACT, S_GREATER_THAN_OR_EQUAL, S_GREATER_THAN, S_LESS_THAN_OR_EQUAL, S_MULTIPLY, S_DIVIDE, E_EQUAL, E_ONE_AND_ONLY, E_ADD, E_IN, E_SUBTRACT, E_GREATER_THAN_OR_EQUAL, E_GREATER_THAN, E_LESS_THAN_OR_EQUAL, E_MULTIPLY, E_DIVIDE, F_ordinal_EQUAL, F_ordinal_ONE_AND_ONLY, F_ordinal_ADD, F_ordinal_IN, F_ordinal_SUBTRACT, F_ordinal_GREATER_THAN_OR_EQUAL, F_ordinal_GREATER_THAN, F_ordinal_LESS_THAN_OR_EQUAL, F_arity_ONE_AND_ONLY, F_ordinal_MULTIPLY, F_ordinal_DIVIDE, F_arity_EQUAL, F_arity_ADD, F_arity_IN, F_arity_SUBTRACT, F_arity_GREATER_THAN_OR_EQUAL, F_arity_GREATER_THAN, F_arity_LESS_THAN_OR_EQUAL, F_arity_MULTIPLY, F_arity_DIVIDE⟩ := P
  exact Fld.ne F_ordinal_ONE_AND_ONLY F_ordinal_GREATER_THAN (by decide)
theorem own_ne_ONE_AND_ONLY_LESS_THAN_OR_EQUAL {Z : State} {w_EQUAL w_ONE_AND_ONLY w_ADD w_IN w_SUBTRACT w_GREATER_THAN_OR_EQUAL w_GREATER_THAN w_LESS_THAN_OR_EQUAL w_MULTIPLY w_DIVIDE : Addr} (P : Pins Z w_EQUAL w_ONE_AND_ONLY w_ADD w_IN w_SUBTRACT w_GREATER_THAN_OR_EQUAL w_GREATER_THAN w_LESS_THAN_OR_EQUAL w_MULTIPLY w_DIVIDE) : w_ONE_AND_ONLY ≠ w_LESS_THAN_OR_EQUAL := by
  obtain ⟨S_EQUAL, S_ONE_AND_ONLY, S_ADD, S_IN, S_SUBTRACT, S_GREATER_THAN_OR_EQUAL, S_GREATER_THAN, S_LESS_THAN_OR_EQUAL, S_MULTIPLY, S_DIVIDE, E_EQUAL, E_ONE_AND_ONLY, E_ADD, E_IN, E_SUBTRACT, E_GREATER_THAN_OR_EQUAL, E_GREATER_THAN, E_LESS_THAN_OR_EQUAL, E_MULTIPLY, E_DIVIDE, F_ordinal_EQUAL, F_ordinal_ONE_AND_ONLY, F_ordinal_ADD, F_ordinal_IN, F_ordinal_SUBTRACT, F_ordinal_GREATER_THAN_OR_EQUAL, F_ordinal_GREATER_THAN, F_ordinal_LESS_THAN_OR_EQUAL, F_arity_ONE_AND_ONLY, F_ordinal_MULTIPLY, F_ordinal_DIVIDE, F_arity_EQUAL, F_arity_ADD, F_arity_IN, F_arity_SUBTRACT, F_arity_GREATER_THAN_OR_EQUAL, F_arity_GREATER_THAN, F_arity_LESS_THAN_OR_EQUAL, F_arity_MULTIPLY, F_arity_DIVIDE⟩ := P
  exact Fld.ne F_ordinal_ONE_AND_ONLY F_ordinal_LESS_THAN_OR_EQUAL (by decide)
theorem own_ne_ONE_AND_ONLY_MULTIPLY {Z : State} {w_EQUAL w_ONE_AND_ONLY w_ADD w_IN w_SUBTRACT w_GREATER_THAN_OR_EQUAL w_GREATER_THAN w_LESS_THAN_OR_EQUAL w_MULTIPLY w_DIVIDE : Addr} (P : Pins Z w_EQUAL w_ONE_AND_ONLY w_ADD w_IN w_SUBTRACT w_GREATER_THAN_OR_EQUAL w_GREATER_THAN w_LESS_THAN_OR_EQUAL w_MULTIPLY w_DIVIDE) : w_ONE_AND_ONLY ≠ w_MULTIPLY := by
  obtain ⟨S_EQUAL, S_ONE_AND_ONLY, S_ADD, S_IN, S_SUBTRACT, S_GREATER_THAN_OR_EQUAL, S_GREATER_THAN, S_LESS_THAN_OR_EQUAL, S_MULTIPLY, S_DIVIDE, E_EQUAL, E_ONE_AND_ONLY, E_ADD, E_IN, E_SUBTRACT, E_GREATER_THAN_OR_EQUAL, E_GREATER_THAN, E_LESS_THAN_OR_EQUAL, E_MULTIPLY, E_DIVIDE, F_ordinal_EQUAL, F_ordinal_ONE_AND_ONLY, F_ordinal_ADD, F_ordinal_IN, F_ordinal_SUBTRACT, F_ordinal_GREATER_THAN_OR_EQUAL, F_ordinal_GREATER_THAN, F_ordinal_LESS_THAN_OR_EQUAL, F_arity_ONE_AND_ONLY, F_ordinal_MULTIPLY, F_ordinal_DIVIDE, F_arity_EQUAL, F_arity_ADD, F_arity_IN, F_arity_SUBTRACT, F_arity_GREATER_THAN_OR_EQUAL, F_arity_GREATER_THAN, F_arity_LESS_THAN_OR_EQUAL, F_arity_MULTIPLY, F_arity_DIVIDE⟩ := P
  exact Fld.ne F_ordinal_ONE_AND_ONLY F_ordinal_MULTIPLY (by decide)
theorem own_ne_ONE_AND_ONLY_DIVIDE {Z : State} {w_EQUAL w_ONE_AND_ONLY w_ADD w_IN w_SUBTRACT w_GREATER_THAN_OR_EQUAL w_GREATER_THAN w_LESS_THAN_OR_EQUAL w_MULTIPLY w_DIVIDE : Addr} (P : Pins Z w_EQUAL w_ONE_AND_ONLY w_ADD w_IN w_SUBTRACT w_GREATER_THAN_OR_EQUAL w_GREATER_THAN w_LESS_THAN_OR_EQUAL w_MULTIPLY w_DIVIDE) : w_ONE_AND_ONLY ≠ w_DIVIDE := by
  obtain ⟨S_EQUAL, S_ONE_AND_ONLY, S_ADD, S_IN, S_SUBTRACT, S_GREATER_THAN_OR_EQUAL, S_GREATER_THAN, S_LESS_THAN_OR_EQUAL, S_MULTIPLY, S_DIVIDE, E_EQUAL, E_ONE_AND_ONLY, E_ADD, E_IN, E_SUBTRACT, E_GREATER_THAN_OR_EQUAL, E_GREATER_THAN, E_LESS_THAN_OR_EQUAL, E_MULTIPLY, E_DIVIDE, F_ordinal_EQUAL, F_ordinal_ONE_AND_ONLY, F_ordinal_ADD, F_ordinal_IN, F_ordinal_SUBTRACT, F_ordinal_GREATER_THAN_OR_EQUAL, F_ordinal_GREATER_THAN, F_ordinal_LESS_THAN_OR_EQUAL, F_arity_ONE_AND_ONLY, F_ordinal_MULTIPLY, F_ordinal_DIVIDE, F_arity_EQUAL, F_arity_ADD, F_arity_IN, F_arity_SUBTRACT, F_arity_GREATER_THAN_OR_EQUAL, F_arity_GREATER_THAN, F_arity_LESS_THAN_OR_EQUAL, F_arity_MULTIPLY, F_arity_DIVIDE⟩ := P
  exact Fld.ne F_ordinal_ONE_AND_ONLY F_ordinal_DIVIDE (by decide)
theorem own_ne_ADD_IN {Z : State} {w_EQUAL w_ONE_AND_ONLY w_ADD w_IN w_SUBTRACT w_GREATER_THAN_OR_EQUAL w_GREATER_THAN w_LESS_THAN_OR_EQUAL w_MULTIPLY w_DIVIDE : Addr} (P : Pins Z w_EQUAL w_ONE_AND_ONLY w_ADD w_IN w_SUBTRACT w_GREATER_THAN_OR_EQUAL w_GREATER_THAN w_LESS_THAN_OR_EQUAL w_MULTIPLY w_DIVIDE) : w_ADD ≠ w_IN := by
  obtain ⟨S_EQUAL, S_ONE_AND_ONLY, S_ADD, S_IN, S_SUBTRACT, S_GREATER_THAN_OR_EQUAL, S_GREATER_THAN, S_LESS_THAN_OR_EQUAL, S_MULTIPLY, S_DIVIDE, E_EQUAL, E_ONE_AND_ONLY, E_ADD, E_IN, E_SUBTRACT, E_GREATER_THAN_OR_EQUAL, E_GREATER_THAN, E_LESS_THAN_OR_EQUAL, E_MULTIPLY, E_DIVIDE, F_ordinal_EQUAL, F_ordinal_ONE_AND_ONLY, F_ordinal_ADD, F_ordinal_IN, F_ordinal_SUBTRACT, F_ordinal_GREATER_THAN_OR_EQUAL, F_ordinal_GREATER_THAN, F_ordinal_LESS_THAN_OR_EQUAL, F_arity_ONE_AND_ONLY, F_ordinal_MULTIPLY, F_ordinal_DIVIDE, F_arity_EQUAL, F_arity_ADD, F_arity_IN, F_arity_SUBTRACT, F_arity_GREATER_THAN_OR_EQUAL, F_arity_GREATER_THAN, F_arity_LESS_THAN_OR_EQUAL, F_arity_MULTIPLY, F_arity_DIVIDE⟩ := P
  exact Fld.ne F_ordinal_ADD F_ordinal_IN (by decide)
theorem own_ne_ADD_SUBTRACT {Z : State} {w_EQUAL w_ONE_AND_ONLY w_ADD w_IN w_SUBTRACT w_GREATER_THAN_OR_EQUAL w_GREATER_THAN w_LESS_THAN_OR_EQUAL w_MULTIPLY w_DIVIDE : Addr} (P : Pins Z w_EQUAL w_ONE_AND_ONLY w_ADD w_IN w_SUBTRACT w_GREATER_THAN_OR_EQUAL w_GREATER_THAN w_LESS_THAN_OR_EQUAL w_MULTIPLY w_DIVIDE) : w_ADD ≠ w_SUBTRACT := by
  obtain ⟨S_EQUAL, S_ONE_AND_ONLY, S_ADD, S_IN, S_SUBTRACT, S_GREATER_THAN_OR_EQUAL, S_GREATER_THAN, S_LESS_THAN_OR_EQUAL, S_MULTIPLY, S_DIVIDE, E_EQUAL, E_ONE_AND_ONLY, E_ADD, E_IN, E_SUBTRACT, E_GREATER_THAN_OR_EQUAL, E_GREATER_THAN, E_LESS_THAN_OR_EQUAL, E_MULTIPLY, E_DIVIDE, F_ordinal_EQUAL, F_ordinal_ONE_AND_ONLY, F_ordinal_ADD, F_ordinal_IN, F_ordinal_SUBTRACT, F_ordinal_GREATER_THAN_OR_EQUAL, F_ordinal_GREATER_THAN, F_ordinal_LESS_THAN_OR_EQUAL, F_arity_ONE_AND_ONLY, F_ordinal_MULTIPLY, F_ordinal_DIVIDE, F_arity_EQUAL, F_arity_ADD, F_arity_IN, F_arity_SUBTRACT, F_arity_GREATER_THAN_OR_EQUAL, F_arity_GREATER_THAN, F_arity_LESS_THAN_OR_EQUAL, F_arity_MULTIPLY, F_arity_DIVIDE⟩ := P
  exact Fld.ne F_ordinal_ADD F_ordinal_SUBTRACT (by decide)
theorem own_ne_ADD_GREATER_THAN_OR_EQUAL {Z : State} {w_EQUAL w_ONE_AND_ONLY w_ADD w_IN w_SUBTRACT w_GREATER_THAN_OR_EQUAL w_GREATER_THAN w_LESS_THAN_OR_EQUAL w_MULTIPLY w_DIVIDE : Addr} (P : Pins Z w_EQUAL w_ONE_AND_ONLY w_ADD w_IN w_SUBTRACT w_GREATER_THAN_OR_EQUAL w_GREATER_THAN w_LESS_THAN_OR_EQUAL w_MULTIPLY w_DIVIDE) : w_ADD ≠ w_GREATER_THAN_OR_EQUAL := by
  obtain ⟨S_EQUAL, S_ONE_AND_ONLY, S_ADD, S_IN, S_SUBTRACT, S_GREATER_THAN_OR_EQUAL, S_GREATER_THAN, S_LESS_THAN_OR_EQUAL, S_MULTIPLY, S_DIVIDE, E_EQUAL, E_ONE_AND_ONLY, E_ADD, E_IN, E_SUBTRACT, E_GREATER_THAN_OR_EQUAL, E_GREATER_THAN, E_LESS_THAN_OR_EQUAL, E_MULTIPLY, E_DIVIDE, F_ordinal_EQUAL, F_ordinal_ONE_AND_ONLY, F_ordinal_ADD, F_ordinal_IN, F_ordinal_SUBTRACT, F_ordinal_GREATER_THAN_OR_EQUAL, F_ordinal_GREATER_THAN, F_ordinal_LESS_THAN_OR_EQUAL, F_arity_ONE_AND_ONLY, F_ordinal_MULTIPLY, F_ordinal_DIVIDE, F_arity_EQUAL, F_arity_ADD, F_arity_IN, F_arity_SUBTRACT, F_arity_GREATER_THAN_OR_EQUAL, F_arity_GREATER_THAN, F_arity_LESS_THAN_OR_EQUAL, F_arity_MULTIPLY, F_arity_DIVIDE⟩ := P
  exact Fld.ne F_ordinal_ADD F_ordinal_GREATER_THAN_OR_EQUAL (by decide)
theorem own_ne_ADD_GREATER_THAN {Z : State} {w_EQUAL w_ONE_AND_ONLY w_ADD w_IN w_SUBTRACT w_GREATER_THAN_OR_EQUAL w_GREATER_THAN w_LESS_THAN_OR_EQUAL w_MULTIPLY w_DIVIDE : Addr} (P : Pins Z w_EQUAL w_ONE_AND_ONLY w_ADD w_IN w_SUBTRACT w_GREATER_THAN_OR_EQUAL w_GREATER_THAN w_LESS_THAN_OR_EQUAL w_MULTIPLY w_DIVIDE) : w_ADD ≠ w_GREATER_THAN := by
  obtain ⟨S_EQUAL, S_ONE_AND_ONLY, S_ADD, S_IN, S_SUBTRACT, S_GREATER_THAN_OR_EQUAL, S_GREATER_THAN, S_LESS_THAN_OR_EQUAL, S_MULTIPLY, S_DIVIDE, E_EQUAL, E_ONE_AND_ONLY, E_ADD, E_IN, E_SUBTRACT, E_GREATER_THAN_OR_EQUAL, E_GREATER_THAN, E_LESS_THAN_OR_EQUAL, E_MULTIPLY, E_DIVIDE, F_ordinal_EQUAL, F_ordinal_ONE_AND_ONLY, F_ordinal_ADD, F_ordinal_IN, F_ordinal_SUBTRACT, F_ordinal_GREATER_THAN_OR_EQUAL, F_ordinal_GREATER_THAN, F_ordinal_LESS_THAN_OR_EQUAL, F_arity_ONE_AND_ONLY, F_ordinal_MULTIPLY, F_ordinal_DIVIDE, F_arity_EQUAL, F_arity_ADD, F_arity_IN, F_arity_SUBTRACT, F_arity_GREATER_THAN_OR_EQUAL, F_arity_GREATER_THAN, F_arity_LESS_THAN_OR_EQUAL, F_arity_MULTIPLY, F_arity_DIVIDE⟩ := P
  exact Fld.ne F_ordinal_ADD F_ordinal_GREATER_THAN (by decide)
theorem own_ne_ADD_LESS_THAN_OR_EQUAL {Z : State} {w_EQUAL w_ONE_AND_ONLY w_ADD w_IN w_SUBTRACT w_GREATER_THAN_OR_EQUAL w_GREATER_THAN w_LESS_THAN_OR_EQUAL w_MULTIPLY w_DIVIDE : Addr} (P : Pins Z w_EQUAL w_ONE_AND_ONLY w_ADD w_IN w_SUBTRACT w_GREATER_THAN_OR_EQUAL w_GREATER_THAN w_LESS_THAN_OR_EQUAL w_MULTIPLY w_DIVIDE) : w_ADD ≠ w_LESS_THAN_OR_EQUAL := by
  obtain ⟨S_EQUAL, S_ONE_AND_ONLY, S_ADD, S_IN, S_SUBTRACT, S_GREATER_THAN_OR_EQUAL, S_GREATER_THAN, S_LESS_THAN_OR_EQUAL, S_MULTIPLY, S_DIVIDE, E_EQUAL, E_ONE_AND_ONLY, E_ADD, E_IN, E_SUBTRACT, E_GREATER_THAN_OR_EQUAL, E_GREATER_THAN, E_LESS_THAN_OR_EQUAL, E_MULTIPLY, E_DIVIDE, F_ordinal_EQUAL, F_ordinal_ONE_AND_ONLY, F_ordinal_ADD, F_ordinal_IN, F_ordinal_SUBTRACT, F_ordinal_GREATER_THAN_OR_EQUAL, F_ordinal_GREATER_THAN, F_ordinal_LESS_THAN_OR_EQUAL, F_arity_ONE_AND_ONLY, F_ordinal_MULTIPLY, F_ordinal_DIVIDE, F_arity_EQUAL, F_arity_ADD, F_arity_IN, F_arity_SUBTRACT, F_arity_GREATER_THAN_OR_EQUAL, F_arity_GREATER_THAN, F_arity_LESS_THAN_OR_EQUAL, F_arity_MULTIPLY, F_arity_DIVIDE⟩ := P
  exact Fld.ne F_ordinal_ADD F_ordinal_LESS_THAN_OR_EQUAL (by decide)
theorem own_ne_ADD_MULTIPLY {Z : State} {w_EQUAL w_ONE_AND_ONLY w_ADD w_IN w_SUBTRACT w_GREATER_THAN_OR_EQUAL w_GREATER_THAN w_LESS_THAN_OR_EQUAL w_MULTIPLY w_DIVIDE : Addr} (P : Pins Z w_EQUAL w_ONE_AND_ONLY w_ADD w_IN w_SUBTRACT w_GREATER_THAN_OR_EQUAL w_GREATER_THAN w_LESS_THAN_OR_EQUAL w_MULTIPLY w_DIVIDE) : w_ADD ≠ w_MULTIPLY := by
  obtain ⟨S_EQUAL, S_ONE_AND_ONLY, S_ADD, S_IN, S_SUBTRACT, S_GREATER_THAN_OR_EQUAL, S_GREATER_THAN, S_LESS_THAN_OR_EQUAL, S_MULTIPLY, S_DIVIDE, E_EQUAL, E_ONE_AND_ONLY, E_ADD, E_IN, E_SUBTRACT, E_GREATER_THAN_OR_EQUAL, E_GREATER_THAN, E_LESS_THAN_OR_EQUAL, E_MULTIPLY, E_DIVIDE, F_ordinal_EQUAL, F_ordinal_ONE_AND_ONLY, F_ordinal_ADD, F_ordinal_IN, F_ordinal_SUBTRACT, F_ordinal_GREATER_THAN_OR_EQUAL, F_ordinal_GREATER_THAN, F_ordinal_LESS_THAN_OR_EQUAL, F_arity_ONE_AND_ONLY, F_ordinal_MULTIPLY, F_ordinal_DIVIDE, F_arity_EQUAL, F_arity_ADD, F_arity_IN, F_arity_SUBTRACT, F_arity_GREATER_THAN_OR_EQUAL, F_arity_GREATER_THAN, F_arity_LESS_THAN_OR_EQUAL, F_arity_MULTIPLY, F_arity_DIVIDE⟩ := P
  exact Fld.ne F_ordinal_ADD F_ordinal_MULTIPLY (by decide)
theorem own_ne_ADD_DIVIDE {Z : State} {w_EQUAL w_ONE_AND_ONLY w_ADD w_IN w_SUBTRACT w_GREATER_THAN_OR_EQUAL w_GREATER_THAN w_LESS_THAN_OR_EQUAL w_MULTIPLY w_DIVIDE : Addr} (P : Pins Z w_EQUAL w_ONE_AND_ONLY w_ADD w_IN w_SUBTRACT w_GREATER_THAN_OR_EQUAL w_GREATER_THAN w_LESS_THAN_OR_EQUAL w_MULTIPLY w_DIVIDE) : w_ADD ≠ w_DIVIDE := by
  obtain ⟨S_EQUAL, S_ONE_AND_ONLY, S_ADD, S_IN, S_SUBTRACT, S_GREATER_THAN_OR_EQUAL, S_GREATER_THAN, S_LESS_THAN_OR_EQUAL, S_MULTIPLY, S_DIVIDE, E_EQUAL, E_ONE_AND_ONLY, E_ADD, E_IN, E_SUBTRACT, E_GREATER_THAN_OR_EQUAL, E_GREATER_THAN, E_LESS_THAN_OR_EQUAL, E_MULTIPLY, E_DIVIDE, F_ordinal_EQUAL, F_ordinal_ONE_AND_ONLY, F_ordinal_ADD, F_ordinal_IN, F_ordinal_SUBTRACT, F_ordinal_GREATER_THAN_OR_EQUAL, F_ordinal_GREATER_THAN, F_ordinal_LESS_THAN_OR_EQUAL, F_arity_ONE_AND_ONLY, F_ordinal_MULTIPLY, F_ordinal_DIVIDE, F_arity_EQUAL, F_arity_ADD, F_arity_IN, F_arity_SUBTRACT, F_arity_GREATER_THAN_OR_EQUAL, F_arity_GREATER_THAN, F_arity_LESS_THAN_OR_EQUAL, F_arity_MULTIPLY, F_arity_DIVIDE⟩ := P
  exact Fld.ne F_ordinal_ADD F_ordinal_DIVIDE (by decide)
theorem own_ne_IN_SUBTRACT {Z : State} {w_EQUAL w_ONE_AND_ONLY w_ADD w_IN w_SUBTRACT w_GREATER_THAN_OR_EQUAL w_GREATER_THAN w_LESS_THAN_OR_EQUAL w_MULTIPLY w_DIVIDE : Addr} (P : Pins Z w_EQUAL w_ONE_AND_ONLY w_ADD w_IN w_SUBTRACT w_GREATER_THAN_OR_EQUAL w_GREATER_THAN w_LESS_THAN_OR_EQUAL w_MULTIPLY w_DIVIDE) : w_IN ≠ w_SUBTRACT := by
  obtain ⟨S_EQUAL, S_ONE_AND_ONLY, S_ADD, S_IN, S_SUBTRACT, S_GREATER_THAN_OR_EQUAL, S_GREATER_THAN, S_LESS_THAN_OR_EQUAL, S_MULTIPLY, S_DIVIDE, E_EQUAL, E_ONE_AND_ONLY, E_ADD, E_IN, E_SUBTRACT, E_GREATER_THAN_OR_EQUAL, E_GREATER_THAN, E_LESS_THAN_OR_EQUAL, E_MULTIPLY, E_DIVIDE, F_ordinal_EQUAL, F_ordinal_ONE_AND_ONLY, F_ordinal_ADD, F_ordinal_IN, F_ordinal_SUBTRACT, F_ordinal_GREATER_THAN_OR_EQUAL, F_ordinal_GREATER_THAN, F_ordinal_LESS_THAN_OR_EQUAL, F_arity_ONE_AND_ONLY, F_ordinal_MULTIPLY, F_ordinal_DIVIDE, F_arity_EQUAL, F_arity_ADD, F_arity_IN, F_arity_SUBTRACT, F_arity_GREATER_THAN_OR_EQUAL, F_arity_GREATER_THAN, F_arity_LESS_THAN_OR_EQUAL, F_arity_MULTIPLY, F_arity_DIVIDE⟩ := P
  exact Fld.ne F_ordinal_IN F_ordinal_SUBTRACT (by decide)
theorem own_ne_IN_GREATER_THAN_OR_EQUAL {Z : State} {w_EQUAL w_ONE_AND_ONLY w_ADD w_IN w_SUBTRACT w_GREATER_THAN_OR_EQUAL w_GREATER_THAN w_LESS_THAN_OR_EQUAL w_MULTIPLY w_DIVIDE : Addr} (P : Pins Z w_EQUAL w_ONE_AND_ONLY w_ADD w_IN w_SUBTRACT w_GREATER_THAN_OR_EQUAL w_GREATER_THAN w_LESS_THAN_OR_EQUAL w_MULTIPLY w_DIVIDE) : w_IN ≠ w_GREATER_THAN_OR_EQUAL := by
  obtain ⟨S_EQUAL, S_ONE_AND_ONLY, S_ADD, S_IN, S_SUBTRACT, S_GREATER_THAN_OR_EQUAL, S_GREATER_THAN, S_LESS_THAN_OR_EQUAL, S_MULTIPLY, S_DIVIDE, E_EQUAL, E_ONE_AND_ONLY, E_ADD, E_IN, E_SUBTRACT, E_GREATER_THAN_OR_EQUAL, E_GREATER_THAN, E_LESS_THAN_OR_EQUAL, E_MULTIPLY, E_DIVIDE, F_ordinal_EQUAL, F_ordinal_ONE_AND_ONLY, F_ordinal_ADD, F_ordinal_IN, F_ordinal_SUBTRACT, F_ordinal_GREATER_THAN_OR_EQUAL, F_ordinal_GREATER_THAN, F_ordinal_LESS_THAN_OR_EQUAL, F_arity_ONE_AND_ONLY, F_ordinal_MULTIPLY, F_ordinal_DIVIDE, F_arity_EQUAL, F_arity_ADD, F_arity_IN, F_arity_SUBTRACT, F_arity_GREATER_THAN_OR_EQUAL, F_arity_GREATER_THAN, F_arity_LESS_THAN_OR_EQUAL, F_arity_MULTIPLY, F_arity_DIVIDE⟩ := P
  exact Fld.ne F_ordinal_IN F_ordinal_GREATER_THAN_OR_EQUAL (by decide)
theorem own_ne_IN_GREATER_THAN {Z : State} {w_EQUAL w_ONE_AND_ONLY w_ADD w_IN w_SUBTRACT w_GREATER_THAN_OR_EQUAL w_GREATER_THAN w_LESS_THAN_OR_EQUAL w_MULTIPLY w_DIVIDE : Addr} (P : Pins Z w_EQUAL w_ONE_AND_ONLY w_ADD w_IN w_SUBTRACT w_GREATER_THAN_OR_EQUAL w_GREATER_THAN w_LESS_THAN_OR_EQUAL w_MULTIPLY w_DIVIDE) : w_IN ≠ w_GREATER_THAN := by
  obtain ⟨S_EQUAL, S_ONE_AND_ONLY, S_ADD, S_IN, S_SUBTRACT, S_GREATER_THAN_OR_EQUAL, S_GREATER_THAN, S_LESS_THAN_OR_EQUAL, S_MULTIPLY, S_DIVIDE, E_EQUAL, E_ONE_AND_ONLY, E_ADD, E_IN, E_SUBTRACT, E_GREATER_THAN_OR_EQUAL, E_GREATER_THAN, E_LESS_THAN_OR_EQUAL, E_MULTIPLY, E_DIVIDE, F_ordinal_EQUAL, F_ordinal_ONE_AND_ONLY, F_ordinal_ADD, F_ordinal_IN, F_ordinal_SUBTRACT, F_ordinal_GREATER_THAN_OR_EQUAL, F_ordinal_GREATER_THAN, F_ordinal_LESS_THAN_OR_EQUAL, F_arity_ONE_AND_ONLY, F_ordinal_MULTIPLY, F_ordinal_DIVIDE, F_arity_EQUAL, F_arity_ADD, F_arity_IN, F_arity_SUBTRACT, F_arity_GREATER_THAN_OR_EQUAL, F_arity_GREATER_THAN, F_arity_LESS_THAN_OR_EQUAL, F_arity_MULTIPLY, F_arity_DIVIDE⟩ := P
  exact Fld.ne F_ordinal_IN F_ordinal_GREATER_THAN (by decide)
theorem own_ne_IN_LESS_THAN_OR_EQUAL {Z : State} {w_EQUAL w_ONE_AND_ONLY w_ADD w_IN w_SUBTRACT w_GREATER_THAN_OR_EQUAL w_GREATER_THAN w_LESS_THAN_OR_EQUAL w_MULTIPLY w_DIVIDE : Addr} (P : Pins Z w_EQUAL w_ONE_AND_ONLY w_ADD w_IN w_SUBTRACT w_GREATER_THAN_OR_EQUAL w_GREATER_THAN w_LESS_THAN_OR_EQUAL w_MULTIPLY w_DIVIDE) : w_IN ≠ w_LESS_THAN_OR_EQUAL := by
  obtain ⟨S_EQUAL, S_ONE_AND_ONLY, S_ADD, S_IN, S_SUBTRACT, S_GREATER_THAN_OR_EQUAL, S_GREATER_THAN, S_LESS_THAN_OR_EQUAL, S_MULTIPLY, S_DIVIDE, E_EQUAL, E_ONE_AND_ONLY, E_ADD, E_IN, E_SUBTRACT, E_GREATER_THAN_OR_EQUAL, E_GREATER_THAN, E_LESS_THAN_OR_EQUAL, E_MULTIPLY, E_DIVIDE, F_ordinal_EQUAL, F_ordinal_ONE_AND_ONLY, F_ordinal_ADD, F_ordinal_IN, F_ordinal_SUBTRACT, F_ordinal_GREATER_THAN_OR_EQUAL, F_ordinal_GREATER_THAN, F_ordinal_LESS_THAN_OR_EQUAL, F_arity_ONE_AND_ONLY, F_ordinal_MULTIPLY, F_ordinal_DIVIDE, F_arity_EQUAL, F_arity_ADD, F_arity_IN, F_arity_SUBTRACT, F_arity_GREATER_THAN_OR_EQUAL, F_arity_GREATER_THAN, F_arity_LESS_THAN_OR_EQUAL, F_arity_MULTIPLY, F_arity_DIVIDE⟩ := P
  exact Fld.ne F_ordinal_IN F_ordinal_LESS_THAN_OR_EQUAL (by decide)
theorem own_ne_IN_MULTIPLY {Z : State} {w_EQUAL w_ONE_AND_ONLY w_ADD w_IN w_SUBTRACT w_GREATER_THAN_OR_EQUAL w_GREATER_THAN w_LESS_THAN_OR_EQUAL w_MULTIPLY w_DIVIDE : Addr} (P : Pins Z w_EQUAL w_ONE_AND_ONLY w_ADD w_IN w_SUBTRACT w_GREATER_THAN_OR_EQUAL w_GREATER_THAN w_LESS_THAN_OR_EQUAL w_MULTIPLY w_DIVIDE) : w_IN ≠ w_MULTIPLY := by
  obtain ⟨S_EQUAL, S_ONE_AND_ONLY, S_ADD, S_IN, S_SUBTRACT, S_GREATER_THAN_OR_EQUAL, S_GREATER_THAN, S_LESS_THAN_OR_EQUAL, S_MULTIPLY, S_DIVIDE, E_EQUAL, E_ONE_AND_ONLY, E_ADD, E_IN, E_SUBTRACT, E_GREATER_THAN_OR_EQUAL, E_GREATER_THAN, E_LESS_THAN_OR_EQUAL, E_MULTIPLY, E_DIVIDE, F_ordinal_EQUAL, F_ordinal_ONE_AND_ONLY, F_ordinal_ADD, F_ordinal_IN, F_ordinal_SUBTRACT, F_ordinal_GREATER_THAN_OR_EQUAL, F_ordinal_GREATER_THAN, F_ordinal_LESS_THAN_OR_EQUAL, F_arity_ONE_AND_ONLY, F_ordinal_MULTIPLY, F_ordinal_DIVIDE, F_arity_EQUAL, F_arity_ADD, F_arity_IN, F_arity_SUBTRACT, F_arity_GREATER_THAN_OR_EQUAL, F_arity_GREATER_THAN, F_arity_LESS_THAN_OR_EQUAL, F_arity_MULTIPLY, F_arity_DIVIDE⟩ := P
  exact Fld.ne F_ordinal_IN F_ordinal_MULTIPLY (by decide)
theorem own_ne_IN_DIVIDE {Z : State} {w_EQUAL w_ONE_AND_ONLY w_ADD w_IN w_SUBTRACT w_GREATER_THAN_OR_EQUAL w_GREATER_THAN w_LESS_THAN_OR_EQUAL w_MULTIPLY w_DIVIDE : Addr} (P : Pins Z w_EQUAL w_ONE_AND_ONLY w_ADD w_IN w_SUBTRACT w_GREATER_THAN_OR_EQUAL w_GREATER_THAN w_LESS_THAN_OR_EQUAL w_MULTIPLY w_DIVIDE) : w_IN ≠ w_DIVIDE := by
  obtain ⟨S_EQUAL, S_ONE_AND_ONLY, S_ADD, S_IN, S_SUBTRACT, S_GREATER_THAN_OR_EQUAL, S_GREATER_THAN, S_LESS_THAN_OR_EQUAL, S_MULTIPLY, S_DIVIDE, E_EQUAL, E_ONE_AND_ONLY, E_ADD, E_IN, E_SUBTRACT, E_GREATER_THAN_OR_EQUAL, E_GREATER_THAN, E_LESS_THAN_OR_EQUAL, E_MULTIPLY, E_DIVIDE, F_ordinal_EQUAL, F_ordinal_ONE_AND_ONLY, F_ordinal_ADD, F_ordinal_IN, F_ordinal_SUBTRACT, F_ordinal_GREATER_THAN_OR_EQUAL, F_ordinal_GREATER_THAN, F_ordinal_LESS_THAN_OR_EQUAL, F_arity_ONE_AND_ONLY, F_ordinal_MULTIPLY, F_ordinal_DIVIDE, F_arity_EQUAL, F_arity_ADD, F_arity_IN, F_arity_SUBTRACT, F_arity_GREATER_THAN_OR_EQUAL, F_arity_GREATER_THAN, F_arity_LESS_THAN_OR_EQUAL, F_arity_MULTIPLY, F_arity_DIVIDE⟩ := P
  exact Fld.ne F_ordinal_IN F_ordinal_DIVIDE (by decide)
theorem own_ne_SUBTRACT_GREATER_THAN_OR_EQUAL {Z : State} {w_EQUAL w_ONE_AND_ONLY w_ADD w_IN w_SUBTRACT w_GREATER_THAN_OR_EQUAL w_GREATER_THAN w_LESS_THAN_OR_EQUAL w_MULTIPLY w_DIVIDE : Addr} (P : Pins Z w_EQUAL w_ONE_AND_ONLY w_ADD w_IN w_SUBTRACT w_GREATER_THAN_OR_EQUAL w_GREATER_THAN w_LESS_THAN_OR_EQUAL w_MULTIPLY w_DIVIDE) : w_SUBTRACT ≠ w_GREATER_THAN_OR_EQUAL := by
  obtain ⟨S_EQUAL, S_ONE_AND_ONLY, S_ADD, S_IN, S_SUBTRACT, S_GREATER_THAN_OR_EQUAL, S_GREATER_THAN, S_LESS_THAN_OR_EQUAL, S_MULTIPLY, S_DIVIDE, E_EQUAL, E_ONE_AND_ONLY, E_ADD, E_IN, E_SUBTRACT, E_GREATER_THAN_OR_EQUAL, E_GREATER_THAN, E_LESS_THAN_OR_EQUAL, E_MULTIPLY, E_DIVIDE, F_ordinal_EQUAL, F_ordinal_ONE_AND_ONLY, F_ordinal_ADD, F_ordinal_IN, F_ordinal_SUBTRACT, F_ordinal_GREATER_THAN_OR_EQUAL, F_ordinal_GREATER_THAN, F_ordinal_LESS_THAN_OR_EQUAL, F_arity_ONE_AND_ONLY, F_ordinal_MULTIPLY, F_ordinal_DIVIDE, F_arity_EQUAL, F_arity_ADD, F_arity_IN, F_arity_SUBTRACT, F_arity_GREATER_THAN_OR_EQUAL, F_arity_GREATER_THAN, F_arity_LESS_THAN_OR_EQUAL, F_arity_MULTIPLY, F_arity_DIVIDE⟩ := P
  exact Fld.ne F_ordinal_SUBTRACT F_ordinal_GREATER_THAN_OR_EQUAL (by decide)
theorem own_ne_SUBTRACT_GREATER_THAN {Z : State} {w_EQUAL w_ONE_AND_ONLY w_ADD w_IN w_SUBTRACT w_GREATER_THAN_OR_EQUAL w_GREATER_THAN w_LESS_THAN_OR_EQUAL w_MULTIPLY w_DIVIDE : Addr} (P : Pins Z w_EQUAL w_ONE_AND_ONLY w_ADD w_IN w_SUBTRACT w_GREATER_THAN_OR_EQUAL w_GREATER_THAN w_LESS_THAN_OR_EQUAL w_MULTIPLY w_DIVIDE) : w_SUBTRACT ≠ w_GREATER_THAN := by
  obtain ⟨S_EQUAL, S_ONE_AND_ONLY, S_ADD, S_IN, S_SUBTRACT, S_GREATER_THAN_OR_EQUAL, S_GREATER_THAN, S_LESS_THAN_OR_EQUAL, S_MULTIPLY, S_DIVIDE, E_EQUAL, E_ONE_AND_ONLY, E_ADD, E_IN, E_SUBTRACT, E_GREATER_THAN_OR_EQUAL, E_GREATER_THAN, E_LESS_THAN_OR_EQUAL, E_MULTIPLY, E_DIVIDE, F_ordinal_EQUAL, F_ordinal_ONE_AND_ONLY, F_ordinal_ADD, F_ordinal_IN, F_ordinal_SUBTRACT, F_ordinal_GREATER_THAN_OR_EQUAL, F_ordinal_GREATER_THAN, F_ordinal_LESS_THAN_OR_EQUAL, F_arity_ONE_AND_ONLY, F_ordinal_MULTIPLY, F_ordinal_DIVIDE, F_arity_EQUAL, F_arity_ADD, F_arity_IN, F_arity_SUBTRACT, F_arity_GREATER_THAN_OR_EQUAL, F_arity_GREATER_THAN, F_arity_LESS_THAN_OR_EQUAL, F_arity_MULTIPLY, F_arity_DIVIDE⟩ := P
  exact Fld.ne F_ordinal_SUBTRACT F_ordinal_GREATER_THAN (by decide)
theorem own_ne_SUBTRACT_LESS_THAN_OR_EQUAL {Z : State} {w_EQUAL w_ONE_AND_ONLY w_ADD w_IN w_SUBTRACT w_GREATER_THAN_OR_EQUAL w_GREATER_THAN w_LESS_THAN_OR_EQUAL w_MULTIPLY w_DIVIDE : Addr} (P : Pins Z w_EQUAL w_ONE_AND_ONLY w_ADD w_IN w_SUBTRACT w_GREATER_THAN_OR_EQUAL w_GREATER_THAN w_LESS_THAN_OR_EQUAL w_MULTIPLY w_DIVIDE) : w_SUBTRACT ≠ w_LESS_THAN_OR_EQUAL := by
  obtain ⟨S_EQUAL, S_ONE_AND_ONLY, S_ADD, S_IN, S_SUBTRACT, S_GREATER_THAN_OR_EQUAL, S_GREATER_THAN, S_LESS_THAN_OR_EQUAL, S_MULTIPLY, S_DIVIDE, E_EQUAL, E_ONE_AND_ONLY, E_ADD, E_IN, E_SUBTRACT, E_GREATER_THAN_OR_EQUAL, E_GREATER_THAN, E_LESS_THAN_OR_EQUAL, E_MULTIPLY, E_DIVIDE, F_ordinal_EQUAL, F_ordinal_ONE_AND_ONLY, F_ordinal_ADD, F_ordinal_IN, F_ordinal_SUBTRACT, F_ordinal_GREATER_THAN_OR_EQUAL, F_ordinal_GREATER_THAN, F_ordinal_LESS_THAN_OR_EQUAL, F_arity_ONE_AND_ONLY, F_ordinal_MULTIPLY, F_ordinal_DIVIDE, F_arity_EQUAL, F_arity_ADD, F_arity_IN, F_arity_SUBTRACT, F_arity_GREATER_THAN_OR_EQUAL, F_arity_GREATER_THAN, F_arity_LESS_THAN_OR_EQUAL, F_arity_MULTIPLY, F_arity_DIVIDE⟩ := P
  exact Fld.ne F_ordinal_SUBTRACT F_ordinal_LESS_THAN_OR_EQUAL (by decide)
theorem own_ne_SUBTRACT_MULTIPLY {Z : State} {w_EQUAL w_ONE_AND_ONLY w_ADD w_IN w_SUBTRACT w_GREATER_THAN_OR_EQUAL w_GREATER_THAN w_LESS_THAN_OR_EQUAL w_MULTIPLY w_DIVIDE : Addr} (P : Pins Z w_EQUAL w_ONE_AND_ONLY w_ADD w_IN w_SUBTRACT w_GREATER_THAN_OR_EQUAL w_GREATER_THAN w_LESS_THAN_OR_EQUAL w_MULTIPLY w_DIVIDE) : w_SUBTRACT ≠ w_MULTIPLY := by
  obtain ⟨S_EQUAL, S_ONE_AND_ONLY, S_ADD, S_IN, S_SUBTRACT, S_GREATER_THAN_OR_EQUAL, S_GREATER_THAN, S_LESS_THAN_OR_EQUAL, S_MULTIPLY, S_DIVIDE, E_EQUAL, E_ONE_AND_ONLY, E_ADD, E_IN, E_SUBTRACT, E_GREATER_THAN_OR_EQUAL, E_GREATER_THAN, E_LESS_THAN_OR_EQUAL, E_MULTIPLY, E_DIVIDE, F_ordinal_EQUAL, F_ordinal_ONE_AND_ONLY, F_ordinal_ADD, F_ordinal_IN, F_ordinal_SUBTRACT, F_ordinal_GREATER_THAN_OR_EQUAL, F_ordinal_GREATER_THAN, F_ordinal_LESS_THAN_OR_EQUAL, F_arity_ONE_AND_ONLY, F_ordinal_MULTIPLY, F_ordinal_DIVIDE, F_arity_EQUAL, F_arity_ADD, F_arity_IN, F_arity_SUBTRACT, F_arity_GREATER_THAN_OR_EQUAL, F_arity_GREATER_THAN, F_arity_LESS_THAN_OR_EQUAL, F_arity_MULTIPLY, F_arity_DIVIDE⟩ := P
  exact Fld.ne F_ordinal_SUBTRACT F_ordinal_MULTIPLY (by decide)
theorem own_ne_SUBTRACT_DIVIDE {Z : State} {w_EQUAL w_ONE_AND_ONLY w_ADD w_IN w_SUBTRACT w_GREATER_THAN_OR_EQUAL w_GREATER_THAN w_LESS_THAN_OR_EQUAL w_MULTIPLY w_DIVIDE : Addr} (P : Pins Z w_EQUAL w_ONE_AND_ONLY w_ADD w_IN w_SUBTRACT w_GREATER_THAN_OR_EQUAL w_GREATER_THAN w_LESS_THAN_OR_EQUAL w_MULTIPLY w_DIVIDE) : w_SUBTRACT ≠ w_DIVIDE := by
  obtain ⟨S_EQUAL, S_ONE_AND_ONLY, S_ADD, S_IN, S_SUBTRACT, S_GREATER_THAN_OR_EQUAL, S_GREATER_THAN, S_LESS_THAN_OR_EQUAL, S_MULTIPLY, S_DIVIDE, E_EQUAL, E_ONE_AND_ONLY, E_ADD, E_IN, E_SUBTRACT, E_GREATER_THAN_OR_EQUAL, E_GREATER_THAN, E_LESS_THAN_OR_EQUAL, E_MULTIPLY, E_DIVIDE, F_ordinal_EQUAL, F_ordinal_ONE_AND_ONLY, F_ordinal_ADD, F_ordinal_IN, F_ordinal_SUBTRACT, F_ordinal_GREATER_THAN_OR_EQUAL, F_ordinal_GREATER_THAN, F_ordinal_LESS_THAN_OR_EQUAL, F_arity_ONE_AND_ONLY, F_ordinal_MULTIPLY, F_ordinal_DIVIDE, F_arity_EQUAL, F_arity_ADD, F_arity_IN, F_arity_SUBTRACT, F_arity_GREATER_THAN_OR_EQUAL, F_arity_GREATER_THAN, F_arity_LESS_THAN_OR_EQUAL, F_arity_MULTIPLY, F_arity_DIVIDE⟩ := P
  exact Fld.ne F_ordinal_SUBTRACT F_ordinal_DIVIDE (by decide)
theorem own_ne_GREATER_THAN_OR_EQUAL_GREATER_THAN {Z : State} {w_EQUAL w_ONE_AND_ONLY w_ADD w_IN w_SUBTRACT w_GREATER_THAN_OR_EQUAL w_GREATER_THAN w_LESS_THAN_OR_EQUAL w_MULTIPLY w_DIVIDE : Addr} (P : Pins Z w_EQUAL w_ONE_AND_ONLY w_ADD w_IN w_SUBTRACT w_GREATER_THAN_OR_EQUAL w_GREATER_THAN w_LESS_THAN_OR_EQUAL w_MULTIPLY w_DIVIDE) : w_GREATER_THAN_OR_EQUAL ≠ w_GREATER_THAN := by
  obtain ⟨S_EQUAL, S_ONE_AND_ONLY, S_ADD, S_IN, S_SUBTRACT, S_GREATER_THAN_OR_EQUAL, S_GREATER_THAN, S_LESS_THAN_OR_EQUAL, S_MULTIPLY, S_DIVIDE, E_EQUAL, E_ONE_AND_ONLY, E_ADD, E_IN, E_SUBTRACT, E_GREATER_THAN_OR_EQUAL, E_GREATER_THAN, E_LESS_THAN_OR_EQUAL, E_MULTIPLY, E_DIVIDE, F_ordinal_EQUAL, F_ordinal_ONE_AND_ONLY, F_ordinal_ADD, F_ordinal_IN, F_ordinal_SUBTRACT, F_ordinal_GREATER_THAN_OR_EQUAL, F_ordinal_GREATER_THAN, F_ordinal_LESS_THAN_OR_EQUAL, F_arity_ONE_AND_ONLY, F_ordinal_MULTIPLY, F_ordinal_DIVIDE, F_arity_EQUAL, F_arity_ADD, F_arity_IN, F_arity_SUBTRACT, F_arity_GREATER_THAN_OR_EQUAL, F_arity_GREATER_THAN, F_arity_LESS_THAN_OR_EQUAL, F_arity_MULTIPLY, F_arity_DIVIDE⟩ := P
  exact Fld.ne F_ordinal_GREATER_THAN_OR_EQUAL F_ordinal_GREATER_THAN (by decide)
theorem own_ne_GREATER_THAN_OR_EQUAL_LESS_THAN_OR_EQUAL {Z : State} {w_EQUAL w_ONE_AND_ONLY w_ADD w_IN w_SUBTRACT w_GREATER_THAN_OR_EQUAL w_GREATER_THAN w_LESS_THAN_OR_EQUAL w_MULTIPLY w_DIVIDE : Addr} (P : Pins Z w_EQUAL w_ONE_AND_ONLY w_ADD w_IN w_SUBTRACT w_GREATER_THAN_OR_EQUAL w_GREATER_THAN w_LESS_THAN_OR_EQUAL w_MULTIPLY w_DIVIDE) : w_GREATER_THAN_OR_EQUAL ≠ w_LESS_THAN_OR_EQUAL := by
  obtain ⟨S_EQUAL, S_ONE_AND_ONLY, S_ADD, S_IN, S_SUBTRACT, S_GREATER_THAN_OR_EQUAL, S_GREATER_THAN, S_LESS_THAN_OR_EQUAL, S_MULTIPLY, S_DIVIDE, E_EQUAL, E_ONE_AND_ONLY, E_ADD, E_IN, E_SUBTRACT, E_GREATER_THAN_OR_EQUAL, E_GREATER_THAN, E_LESS_THAN_OR_EQUAL, E_MULTIPLY, E_DIVIDE, F_ordinal_EQUAL, F_ordinal_ONE_AND_ONLY, F_ordinal_ADD, F_ordinal_IN, F_ordinal_SUBTRACT, F_ordinal_GREATER_THAN_OR_EQUAL, F_ordinal_GREATER_THAN, F_ordinal_LESS_THAN_OR_EQUAL, F_arity_ONE_AND_ONLY, F_ordinal_MULTIPLY, F_ordinal_DIVIDE, F_arity_EQUAL, F_arity_ADD, F_arity_IN, F_arity_SUBTRACT, F_arity_GREATER_THAN_OR_EQUAL, F_arity_GREATER_THAN, F_arity_LESS_THAN_OR_EQUAL, F_arity_MULTIPLY, F_arity_DIVIDE⟩ := P
  exact Fld.ne F_ordinal_GREATER_THAN_OR_EQUAL F_ordinal_LESS_THAN_OR_EQUAL (by decide)
theorem own_ne_GREATER_THAN_OR_EQUAL_MULTIPLY {Z : State} {w_EQUAL w_ONE_AND_ONLY w_ADD w_IN w_SUBTRACT w_GREATER_THAN_OR_EQUAL w_GREATER_THAN w_LESS_THAN_OR_EQUAL w_MULTIPLY w_DIVIDE : Addr} (P : Pins Z w_EQUAL w_ONE_AND_ONLY w_ADD w_IN w_SUBTRACT w_GREATER_THAN_OR_EQUAL w_GREATER_THAN w_LESS_THAN_OR_EQUAL w_MULTIPLY w_DIVIDE) : w_GREATER_THAN_OR_EQUAL ≠ w_MULTIPLY := by
  obtain ⟨S_EQUAL, S_ONE_AND_ONLY, S_ADD, S_IN, S_SUBTRACT, S_GREATER_THAN_OR_EQUAL, S_GREATER_THAN, S_LESS_THAN_OR_EQUAL, S_MULTIPLY, S_DIVIDE, E_EQUAL, E_ONE_AND_ONLY, E_ADD, E_IN, E_SUBTRACT, E_GREATER_THAN_OR_EQUAL, E_GREATER_THAN, E_LESS_THAN_OR_EQUAL, E_MULTIPLY, E_DIVIDE, F_ordinal_EQUAL, F_ordinal_ONE_AND_ONLY, F_ordinal_ADD, F_ordinal_IN, F_ordinal_SUBTRACT, F_ordinal_GREATER_THAN_OR_EQUAL, F_ordinal_GREATER_THAN, F_ordinal_LESS_THAN_OR_EQUAL, F_arity_ONE_AND_ONLY, F_ordinal_MULTIPLY, F_ordinal_DIVIDE, F_arity_EQUAL, F_arity_ADD, F_arity_IN, F_arity_SUBTRACT, F_arity_GREATER_THAN_OR_EQUAL, F_arity_GREATER_THAN, F_arity_LESS_THAN_OR_EQUAL, F_arity_MULTIPLY, F_arity_DIVIDE⟩ := P
  exact Fld.ne F_ordinal_GREATER_THAN_OR_EQUAL F_ordinal_MULTIPLY (by decide)
theorem own_ne_GREATER_THAN_OR_EQUAL_DIVIDE {Z : State} {w_EQUAL w_ONE_AND_ONLY w_ADD w_IN w_SUBTRACT w_GREATER_THAN_OR_EQUAL w_GREATER_THAN w_LESS_THAN_OR_EQUAL w_MULTIPLY w_DIVIDE : Addr} (P : Pins Z w_EQUAL w_ONE_AND_ONLY w_ADD w_IN w_SUBTRACT w_GREATER_THAN_OR_EQUAL w_GREATER_THAN w_LESS_THAN_OR_EQUAL w_MULTIPLY w_DIVIDE) : w_GREATER_THAN_OR_EQUAL ≠ w_DIVIDE := by
  obtain ⟨S_EQUAL, S_ONE_AND_ONLY, S_ADD, S_IN, S_SUBTRACT, S_GREATER_THAN_OR_EQUAL, S_GREATER_THAN, S_LESS_THAN_OR_EQUAL, S_MULTIPLY, S_DIVIDE, E_EQUAL, E_ONE_AND_ONLY, E_ADD, E_IN, E_SUBTRACT, E_GREATER_THAN_OR_EQUAL, E_GREATER_THAN, E_LESS_THAN_OR_EQUAL, E_MULTIPLY, E_DIVIDE, F_ordinal_EQUAL, F_ordinal_ONE_AND_ONLY, F_ordinal_ADD, F_ordinal_IN, F_ordinal_SUBTRACT, F_ordinal_GREATER_THAN_OR_EQUAL, F_ordinal_GREATER_THAN, F_ordinal_LESS_THAN_OR_EQUAL, F_arity_ONE_AND_ONLY, F_ordinal_MULTIPLY, F_ordinal_DIVIDE, F_arity_EQUAL, F_arity_ADD, F_arity_IN, F_arity_SUBTRACT, F_arity_GREATER_THAN_OR_EQUAL, F_arity_GREATER_THAN, F_arity_LESS_THAN_OR_EQUAL, F_arity_MULTIPLY, F_arity_DIVIDE⟩ := P
  exact Fld.ne F_ordinal_GREATER_THAN_OR_EQUAL F_ordinal_DIVIDE (by decide)
theorem own_ne_GREATER_THAN_LESS_THAN_OR_EQUAL {Z : State} {w_EQUAL w_ONE_AND_ONLY w_ADD w_IN w_SUBTRACT w_GREATER_THAN_OR_EQUAL w_GREATER_THAN w_LESS_THAN_OR_EQUAL w_MULTIPLY w_DIVIDE : Addr} (P : Pins Z w_EQUAL w_ONE_AND_ONLY w_ADD w_IN w_SUBTRACT w_GREATER_THAN_OR_EQUAL w_GREATER_THAN w_LESS_THAN_OR_EQUAL w_MULTIPLY w_DIVIDE) : w_GREATER_THAN ≠ w_LESS_THAN_OR_EQUAL := by
  obtain ⟨S_EQUAL, S_ONE_AND_ONLY, S_ADD, S_IN, S_SUBTRACT, S_GREATER_THAN_OR_EQUAL, S_GREATER_THAN, S_LESS_THAN_OR_EQUAL, S_MULTIPLY, S_DIVIDE, E_EQUAL, E_ONE_AND_ONLY, E_ADD, E_IN, E_SUBTRACT, E_GREATER_THAN_OR_EQUAL, E_GREATER_THAN, E_LESS_THAN_OR_EQUAL, E_MULTIPLY, E_DIVIDE, F_ordinal_EQUAL, F_ordinal_ONE_AND_ONLY, F_ordinal_ADD, F_ordinal_IN, F_ordinal_SUBTRACT, F_ordinal_GREATER_THAN_OR_EQUAL, F_ordinal_GREATER_THAN, F_ordinal_LESS_THAN_OR_EQUAL, F_arity_ONE_AND_ONLY, F_ordinal_MULTIPLY, F_ordinal_DIVIDE, F_arity_EQUAL, F_arity_ADD, F_arity_IN, F_arity_SUBTRACT, F_arity_GREATER_THAN_OR_EQUAL, F_arity_GREATER_THAN, F_arity_LESS_THAN_OR_EQUAL, F_arity_MULTIPLY, F_arity_DIVIDE⟩ := P
  exact Fld.ne F_ordinal_GREATER_THAN F_ordinal_LESS_THAN_OR_EQUAL (by decide)
theorem own_ne_GREATER_THAN_MULTIPLY {Z : State} {w_EQUAL w_ONE_AND_ONLY w_ADD w_IN w_SUBTRACT w_GREATER_THAN_OR_EQUAL w_GREATER_THAN w_LESS_THAN_OR_EQUAL w_MULTIPLY w_DIVIDE : Addr} (P : Pins Z w_EQUAL w_ONE_AND_ONLY w_ADD w_IN w_SUBTRACT w_GREATER_THAN_OR_EQUAL w_GREATER_THAN w_LESS_THAN_OR_EQUAL w_MULTIPLY w_DIVIDE) : w_GREATER_THAN ≠ w_MULTIPLY := by
  obtain ⟨S_EQUAL, S_ONE_AND_ONLY, S_ADD, S_IN, S_SUBTRACT, S_GREATER_THAN_OR_EQUAL, S_GREATER_THAN, S_LESS_THAN_OR_EQUAL, S_MULTIPLY, S_DIVIDE, E_EQUAL, E_ONE_AND_ONLY, E_ADD, E_IN, E_SUBTRACT, E_GREATER_THAN_OR_EQUAL, E_GREATER_THAN, E_LESS_THAN_OR_EQUAL, E_MULTIPLY, E_DIVIDE, F_ordinal_EQUAL, F_ordinal_ONE_AND_ONLY, F_ordinal_ADD, F_ordinal_IN, F_ordinal_SUBTRACT, F_ordinal_GREATER_THAN_OR_EQUAL, F_ordinal_GREATER_THAN, F_ordinal_LESS_THAN_OR_EQUAL, F_arity_ONE_AND_ONLY, F_ordinal_MULTIPLY, F_ordinal_DIVIDE, F_arity_EQUAL, F_arity_ADD, F_arity_IN, F_arity_SUBTRACT, F_arity_GREATER_THAN_OR_EQUAL, F_arity_GREATER_THAN, F_arity_LESS_THAN_OR_EQUAL, F_arity_MULTIPLY, F_arity_DIVIDE⟩ := P
  exact Fld.ne F_ordinal_GREATER_THAN F_ordinal_MULTIPLY (by decide)
theorem own_ne_GREATER_THAN_DIVIDE {Z : State} {w_EQUAL w_ONE_AND_ONLY w_ADD w_IN w_SUBTRACT w_GREATER_THAN_OR_EQUAL w_GREATER_THAN w_LESS_THAN_OR_EQUAL w_MULTIPLY w_DIVIDE : Addr} (P : Pins Z w_EQUAL w_ONE_AND_ONLY w_ADD w_IN w_SUBTRACT w_GREATER_THAN_OR_EQUAL w_GREATER_THAN w_LESS_THAN_OR_EQUAL w_MULTIPLY w_DIVIDE) : w_GREATER_THAN ≠ w_DIVIDE := by
  obtain ⟨S_EQUAL, S_ONE_AND_ONLY, S_ADD, S_IN, S_SUBTRACT, S_GREATER_THAN_OR_EQUAL, S_GREATER_THAN, S_LESS_THAN_OR_EQUAL, S_MULTIPLY, S_DIVIDE, E_EQUAL, E_ONE_AND_ONLY, E_ADD, E_IN, E_SUBTRACT, E_GREATER_THAN_OR_EQUAL, E_GREATER_THAN, E_LESS_THAN_OR_EQUAL, E_MULTIPLY, E_DIVIDE, F_ordinal_EQUAL, F_ordinal_ONE_AND_ONLY, F_ordinal_ADD, F_ordinal_IN, F_ordinal_SUBTRACT, F_ordinal_GREATER_THAN_OR_EQUAL, F_ordinal_GREATER_THAN, F_ordinal_LESS_THAN_OR_EQUAL, F_arity_ONE_AND_ONLY, F_ordinal_MULTIPLY, F_ordinal_DIVIDE, F_arity_EQUAL, F_arity_ADD, F_arity_IN, F_arity_SUBTRACT, F_arity_GREATER_THAN_OR_EQUAL, F_arity_GREATER_THAN, F_arity_LESS_THAN_OR_EQUAL, F_arity_MULTIPLY, F_arity_DIVIDE⟩ := P
  exact Fld.ne F_ordinal_GREATER_THAN F_ordinal_DIVIDE (by decide)
theorem own_ne_LESS_THAN_OR_EQUAL_MULTIPLY {Z : State} {w_EQUAL w_ONE_AND_ONLY w_ADD w_IN w_SUBTRACT w_GREATER_THAN_OR_EQUAL w_GREATER_THAN w_LESS_THAN_OR_EQUAL w_MULTIPLY w_DIVIDE : Addr} (P : Pins Z w_EQUAL w_ONE_AND_ONLY w_ADD w_IN w_SUBTRACT w_GREATER_THAN_OR_EQUAL w_GREATER_THAN w_LESS_THAN_OR_EQUAL w_MULTIPLY w_DIVIDE) : w_LESS_THAN_OR_EQUAL ≠ w_MULTIPLY := by
  obtain ⟨S_EQUAL, S_ONE_AND_ONLY, S_ADD, S_IN, S_SUBTRACT, S_GREATER_THAN_OR_EQUAL, S_GREATER_THAN, S_LESS_THAN_OR_EQUAL, S_MULTIPLY, S_DIVIDE, E_EQUAL, E_ONE_AND_ONLY, E_ADD, E_IN, E_SUBTRACT, E_GREATER_THAN_OR_EQUAL, E_GREATER_THAN, E_LESS_THAN_OR_EQUAL, E_MULTIPLY, E_DIVIDE, F_ordinal_EQUAL, F_ordinal_ONE_AND_ONLY, F_ordinal_ADD, F_ordinal_IN, F_ordinal_SUBTRACT, F_ordinal_GREATER_THAN_OR_EQUAL, F_ordinal_GREATER_THAN, F_ordinal_LESS_THAN_OR_EQUAL, F_arity_ONE_AND_ONLY, F_ordinal_MULTIPLY, F_ordinal_DIVIDE, F_arity_EQUAL, F_arity_ADD, F_arity_IN, F_arity_SUBTRACT, F_arity_GREATER_THAN_OR_EQUAL, F_arity_GREATER_THAN, F_arity_LESS_THAN_OR_EQUAL, F_arity_MULTIPLY, F_arity_DIVIDE⟩ := P
  exact Fld.ne F_ordinal_LESS_THAN_OR_EQUAL F_ordinal_MULTIPLY (by decide)
theorem own_ne_LESS_THAN_OR_EQUAL_DIVIDE {Z : State} {w_EQUAL w_ONE_AND_ONLY w_ADD w_IN w_SUBTRACT w_GREATER_THAN_OR_EQUAL w_GREATER_THAN w_LESS_THAN_OR_EQUAL w_MULTIPLY w_DIVIDE : Addr} (P : Pins Z w_EQUAL w_ONE_AND_ONLY w_ADD w_IN w_SUBTRACT w_GREATER_THAN_OR_EQUAL w_GREATER_THAN w_LESS_THAN_OR_EQUAL w_MULTIPLY w_DIVIDE) : w_LESS_THAN_OR_EQUAL ≠ w_DIVIDE := by
  obtain ⟨S_EQUAL, S_ONE_AND_ONLY, S_ADD, S_IN, S_SUBTRACT, S_GREATER_THAN_OR_EQUAL, S_GREATER_THAN, S_LESS_THAN_OR_EQUAL, S_MULTIPLY, S_DIVIDE, E_EQUAL, E_ONE_AND_ONLY, E_ADD, E_IN, E_SUBTRACT, E_GREATER_THAN_OR_EQUAL, E_GREATER_THAN, E_LESS_THAN_OR_EQUAL, E_MULTIPLY, E_DIVIDE, F_ordinal_EQUAL, F_ordinal_ONE_AND_ONLY, F_ordinal_ADD, F_ordinal_IN, F_ordinal_SUBTRACT, F_ordinal_GREATER_THAN_OR_EQUAL, F_ordinal_GREATER_THAN, F_ordinal_LESS_THAN_OR_EQUAL, F_arity_ONE_AND_ONLY, F_ordinal_MULTIPLY, F_ordinal_DIVIDE, F_arity_EQUAL, F_arity_ADD, F_arity_IN, F_arity_SUBTRACT, F_arity_GREATER_THAN_OR_EQUAL, F_arity_GREATER_THAN, F_arity_LESS_THAN_OR_EQUAL, F_arity_MULTIPLY, F_arity_DIVIDE⟩ := P
  exact Fld.ne F_ordinal_LESS_THAN_OR_EQUAL F_ordinal_DIVIDE (by decide)
theorem own_ne_MULTIPLY_DIVIDE {Z : State} {w_EQUAL w_ONE_AND_ONLY w_ADD w_IN w_SUBTRACT w_GREATER_THAN_OR_EQUAL w_GREATER_THAN w_LESS_THAN_OR_EQUAL w_MULTIPLY w_DIVIDE : Addr} (P : Pins Z w_EQUAL w_ONE_AND_ONLY w_ADD w_IN w_SUBTRACT w_GREATER_THAN_OR_EQUAL w_GREATER_THAN w_LESS_THAN_OR_EQUAL w_MULTIPLY w_DIVIDE) : w_MULTIPLY ≠ w_DIVIDE := by
  obtain ⟨S_EQUAL, S_ONE_AND_ONLY, S_ADD, S_IN, S_SUBTRACT, S_GREATER_THAN_OR_EQUAL, S_GREATER_THAN, S_LESS_THAN_OR_EQUAL, S_MULTIPLY, S_DIVIDE, E_EQUAL, E_ONE_AND_ONLY, E_ADD, E_IN, E_SUBTRACT, E_GREATER_THAN_OR_EQUAL, E_GREATER_THAN, E_LESS_THAN_OR_EQUAL, E_MULTIPLY, E_DIVIDE, F_ordinal_EQUAL, F_ordinal_ONE_AND_ONLY, F_ordinal_ADD, F_ordinal_IN, F_ordinal_SUBTRACT, F_ordinal_GREATER_THAN_OR_EQUAL, F_ordinal_GREATER_THAN, F_ordinal_LESS_THAN_OR_EQUAL, F_arity_ONE_AND_ONLY, F_ordinal_MULTIPLY, F_ordinal_DIVIDE, F_arity_EQUAL, F_arity_ADD, F_arity_IN, F_arity_SUBTRACT, F_arity_GREATER_THAN_OR_EQUAL, F_arity_GREATER_THAN, F_arity_LESS_THAN_OR_EQUAL, F_arity_MULTIPLY, F_arity_DIVIDE⟩ := P
  exact Fld.ne F_ordinal_MULTIPLY F_ordinal_DIVIDE (by decide)
theorem own_pick9 {w_EQUAL w_ONE_AND_ONLY w_ADD w_IN w_SUBTRACT w_GREATER_THAN_OR_EQUAL w_GREATER_THAN w_LESS_THAN_OR_EQUAL w_MULTIPLY w_DIVIDE : Addr} : pickF (9 : Int32) w_EQUAL w_ONE_AND_ONLY w_ADD w_IN w_SUBTRACT w_GREATER_THAN_OR_EQUAL w_GREATER_THAN w_LESS_THAN_OR_EQUAL w_MULTIPLY w_DIVIDE = w_ONE_AND_ONLY := by simp [pickF]
theorem own_range (x : Int32) : 0 ≤ ((x &&& (2147483647 : Int32)) % (10 : Int32)).toInt ∧ ((x &&& (2147483647 : Int32)) % (10 : Int32)).toInt < 10 := by
  have h := c_mask x 2147483647 31 (by decide) (by decide)
  have h0 : 0 ≤ (x &&& (2147483647 : Int32)).toInt := by omega
  have h1 := (c_irem (x &&& (2147483647 : Int32)) 10 10 (by decide)).1 h0
  omega
theorem own_not9 {Z : State} {w_EQUAL w_ONE_AND_ONLY w_ADD w_IN w_SUBTRACT w_GREATER_THAN_OR_EQUAL w_GREATER_THAN w_LESS_THAN_OR_EQUAL w_MULTIPLY w_DIVIDE : Addr} (P : Pins Z w_EQUAL w_ONE_AND_ONLY w_ADD w_IN w_SUBTRACT w_GREATER_THAN_OR_EQUAL w_GREATER_THAN w_LESS_THAN_OR_EQUAL w_MULTIPLY w_DIVIDE) (x : Int32) (h9 : ¬ ((x &&& (2147483647 : Int32)) % (10 : Int32)) = (9 : Int32)) : pickF ((x &&& (2147483647 : Int32)) % (10 : Int32)) w_EQUAL w_ONE_AND_ONLY w_ADD w_IN w_SUBTRACT w_GREATER_THAN_OR_EQUAL w_GREATER_THAN w_LESS_THAN_OR_EQUAL w_MULTIPLY w_DIVIDE ≠ w_ONE_AND_ONLY := by
  have hr := own_range x
  generalize ((x &&& (2147483647 : Int32)) % (10 : Int32)) = k at *
  by_cases h0 : k = (0 : Int32)
  · subst h0
    have e1 : pickF (0 : Int32) w_EQUAL w_ONE_AND_ONLY w_ADD w_IN w_SUBTRACT w_GREATER_THAN_OR_EQUAL w_GREATER_THAN w_LESS_THAN_OR_EQUAL w_MULTIPLY w_DIVIDE = w_EQUAL := by simp [pickF]
    rw [e1]
    exact (own_ne_EQUAL_ONE_AND_ONLY P)
  · skip
    by_cases h1 : k = (1 : Int32)
    · subst h1
      have e1 : pickF (1 : Int32) w_EQUAL w_ONE_AND_ONLY w_ADD w_IN w_SUBTRACT w_GREATER_THAN_OR_EQUAL w_GREATER_THAN w_LESS_THAN_OR_EQUAL w_MULTIPLY w_DIVIDE = w_IN := by simp [pickF]
      rw [e1]
      exact (Ne.symm (own_ne_ONE_AND_ONLY_IN P))
    · skip
      by_cases h2 : k = (2 : Int32)
      · subst h2
        have e1 : pickF (2 : Int32) w_EQUAL w_ONE_AND_ONLY w_ADD w_IN w_SUBTRACT w_GREATER_THAN_OR_EQUAL w_GREATER_THAN w_LESS_THAN_OR_EQUAL w_MULTIPLY w_DIVIDE = w_GREATER_THAN := by simp [pickF]
        rw [e1]
        exact (Ne.symm (own_ne_ONE_AND_ONLY_GREATER_THAN P))
      · skip
        by_cases h3 : k = (3 : Int32)
        · subst h3
          have e1 : pickF (3 : Int32) w_EQUAL w_ONE_AND_ONLY w_ADD w_IN w_SUBTRACT w_GREATER_THAN_OR_EQUAL w_GREATER_THAN w_LESS_THAN_OR_EQUAL w_MULTIPLY w_DIVIDE = w_ADD := by simp [pickF]
          rw [e1]
          exact (Ne.symm (own_ne_ONE_AND_ONLY_ADD P))
        · skip
          by_cases h4 : k = (4 : Int32)
          · subst h4
            have e1 : pickF (4 : Int32) w_EQUAL w_ONE_AND_ONLY w_ADD w_IN w_SUBTRACT w_GREATER_THAN_OR_EQUAL w_GREATER_THAN w_LESS_THAN_OR_EQUAL w_MULTIPLY w_DIVIDE = w_SUBTRACT := by simp [pickF]
            rw [e1]
            exact (Ne.symm (own_ne_ONE_AND_ONLY_SUBTRACT P))
          · skip
            by_cases h5 : k = (5 : Int32)
            · subst h5
              have e1 : pickF (5 : Int32) w_EQUAL w_ONE_AND_ONLY w_ADD w_IN w_SUBTRACT w_GREATER_THAN_OR_EQUAL w_GREATER_THAN w_LESS_THAN_OR_EQUAL w_MULTIPLY w_DIVIDE = w_MULTIPLY := by simp [pickF]
              rw [e1]
              exact (Ne.symm (own_ne_ONE_AND_ONLY_MULTIPLY P))
            · skip
              by_cases h6 : k = (6 : Int32)
              · subst h6
                have e1 : pickF (6 : Int32) w_EQUAL w_ONE_AND_ONLY w_ADD w_IN w_SUBTRACT w_GREATER_THAN_OR_EQUAL w_GREATER_THAN w_LESS_THAN_OR_EQUAL w_MULTIPLY w_DIVIDE = w_DIVIDE := by simp [pickF]
                rw [e1]
                exact (Ne.symm (own_ne_ONE_AND_ONLY_DIVIDE P))
              · skip
                by_cases h7 : k = (7 : Int32)
                · subst h7
                  have e1 : pickF (7 : Int32) w_EQUAL w_ONE_AND_ONLY w_ADD w_IN w_SUBTRACT w_GREATER_THAN_OR_EQUAL w_GREATER_THAN w_LESS_THAN_OR_EQUAL w_MULTIPLY w_DIVIDE = w_GREATER_THAN_OR_EQUAL := by simp [pickF]
                  rw [e1]
                  exact (Ne.symm (own_ne_ONE_AND_ONLY_GREATER_THAN_OR_EQUAL P))
                · skip
                  by_cases h8 : k = (8 : Int32)
                  · subst h8
                    have e1 : pickF (8 : Int32) w_EQUAL w_ONE_AND_ONLY w_ADD w_IN w_SUBTRACT w_GREATER_THAN_OR_EQUAL w_GREATER_THAN w_LESS_THAN_OR_EQUAL w_MULTIPLY w_DIVIDE = w_LESS_THAN_OR_EQUAL := by simp [pickF]
                    rw [e1]
                    exact (Ne.symm (own_ne_ONE_AND_ONLY_LESS_THAN_OR_EQUAL P))
                  · skip
                    exfalso
                    have k0 : ¬ k.toInt = 0 := fun q => h0 (Int32.toInt_inj.mp (by rw [q]; decide))
                    have k1 : ¬ k.toInt = 1 := fun q => h1 (Int32.toInt_inj.mp (by rw [q]; decide))
                    have k2 : ¬ k.toInt = 2 := fun q => h2 (Int32.toInt_inj.mp (by rw [q]; decide))
                    have k3 : ¬ k.toInt = 3 := fun q => h3 (Int32.toInt_inj.mp (by rw [q]; decide))
                    have k4 : ¬ k.toInt = 4 := fun q => h4 (Int32.toInt_inj.mp (by rw [q]; decide))
                    have k5 : ¬ k.toInt = 5 := fun q => h5 (Int32.toInt_inj.mp (by rw [q]; decide))
                    have k6 : ¬ k.toInt = 6 := fun q => h6 (Int32.toInt_inj.mp (by rw [q]; decide))
                    have k7 : ¬ k.toInt = 7 := fun q => h7 (Int32.toInt_inj.mp (by rw [q]; decide))
                    have k8 : ¬ k.toInt = 8 := fun q => h8 (Int32.toInt_inj.mp (by rw [q]; decide))
                    have k9 : ¬ k.toInt = 9 := fun q => h9 (Int32.toInt_inj.mp (by rw [q]; decide))
                    omega
theorem own_exa {Z : State} {w_EQUAL w_ONE_AND_ONLY w_ADD w_IN w_SUBTRACT w_GREATER_THAN_OR_EQUAL w_GREATER_THAN w_LESS_THAN_OR_EQUAL w_MULTIPLY w_DIVIDE : Addr} (P : Pins Z w_EQUAL w_ONE_AND_ONLY w_ADD w_IN w_SUBTRACT w_GREATER_THAN_OR_EQUAL w_GREATER_THAN w_LESS_THAN_OR_EQUAL w_MULTIPLY w_DIVIDE) (k : Int32) : Exa Z Z.heap (pickF k w_EQUAL w_ONE_AND_ONLY w_ADD w_IN w_SUBTRACT w_GREATER_THAN_OR_EQUAL w_GREATER_THAN w_LESS_THAN_OR_EQUAL w_MULTIPLY w_DIVIDE) "com/example/usage_verdict/usageverdict/language/Function" := by
  obtain ⟨S_EQUAL, S_ONE_AND_ONLY, S_ADD, S_IN, S_SUBTRACT, S_GREATER_THAN_OR_EQUAL, S_GREATER_THAN, S_LESS_THAN_OR_EQUAL, S_MULTIPLY, S_DIVIDE, E_EQUAL, E_ONE_AND_ONLY, E_ADD, E_IN, E_SUBTRACT, E_GREATER_THAN_OR_EQUAL, E_GREATER_THAN, E_LESS_THAN_OR_EQUAL, E_MULTIPLY, E_DIVIDE, F_ordinal_EQUAL, F_ordinal_ONE_AND_ONLY, F_ordinal_ADD, F_ordinal_IN, F_ordinal_SUBTRACT, F_ordinal_GREATER_THAN_OR_EQUAL, F_ordinal_GREATER_THAN, F_ordinal_LESS_THAN_OR_EQUAL, F_arity_ONE_AND_ONLY, F_ordinal_MULTIPLY, F_ordinal_DIVIDE, F_arity_EQUAL, F_arity_ADD, F_arity_IN, F_arity_SUBTRACT, F_arity_GREATER_THAN_OR_EQUAL, F_arity_GREATER_THAN, F_arity_LESS_THAN_OR_EQUAL, F_arity_MULTIPLY, F_arity_DIVIDE⟩ := P
  unfold pickF
  repeat' split
  all_goals assumption
theorem ef_1 (m : MethodId) (x0 : Int32) : entryFrame m #[(.int x0)] 1 = mkF m 0 #[.val (.int x0)] [] := by first | (simp [entryFrame, mkF, argsToLocals, Value.category]; done) | rfl
theorem pn_com_example_usage_verdict_usageverdict_language_FunctionTakesBagsPinLaw : plainName "com/example/usage_verdict/usageverdict/language/FunctionTakesBagsPinLaw" = true := by first | (simp [plainName, overriddenIn]; done) | decide +kernel
theorem d1_0 : decode method_2_code 0 = .ok (.iload_n 0, 1) := by decide +kernel
theorem d1_1 : decode method_2_code 1 = .ok (.ifCond .ne 7, 3) := by decide +kernel
theorem d1_4 : decode method_2_code 4 = .ok (.getstatic 7, 3) := by decide +kernel
theorem d1_7 : decode method_2_code 7 = .ok (.areturn, 1) := by decide +kernel
theorem d1_8 : decode method_2_code 8 = .ok (.iload_n 0, 1) := by decide +kernel
theorem d1_9 : decode method_2_code 9 = .ok (.iconst 1, 1) := by decide +kernel
theorem d1_10 : decode method_2_code 10 = .ok (.if_icmp .ne 7, 3) := by decide +kernel
theorem d1_13 : decode method_2_code 13 = .ok (.getstatic 13, 3) := by decide +kernel
theorem d1_16 : decode method_2_code 16 = .ok (.areturn, 1) := by decide +kernel
theorem d1_17 : decode method_2_code 17 = .ok (.iload_n 0, 1) := by decide +kernel
theorem d1_18 : decode method_2_code 18 = .ok (.iconst 2, 1) := by decide +kernel
theorem d1_19 : decode method_2_code 19 = .ok (.if_icmp .ne 7, 3) := by decide +kernel
theorem d1_22 : decode method_2_code 22 = .ok (.getstatic 16, 3) := by decide +kernel
theorem d1_25 : decode method_2_code 25 = .ok (.areturn, 1) := by decide +kernel
theorem d1_26 : decode method_2_code 26 = .ok (.iload_n 0, 1) := by decide +kernel
theorem d1_27 : decode method_2_code 27 = .ok (.iconst 3, 1) := by decide +kernel
theorem d1_28 : decode method_2_code 28 = .ok (.if_icmp .ne 7, 3) := by decide +kernel
theorem d1_31 : decode method_2_code 31 = .ok (.getstatic 19, 3) := by decide +kernel
theorem d1_34 : decode method_2_code 34 = .ok (.areturn, 1) := by decide +kernel
theorem d1_35 : decode method_2_code 35 = .ok (.iload_n 0, 1) := by decide +kernel
theorem d1_36 : decode method_2_code 36 = .ok (.iconst 4, 1) := by decide +kernel
theorem d1_37 : decode method_2_code 37 = .ok (.if_icmp .ne 7, 3) := by decide +kernel
theorem d1_40 : decode method_2_code 40 = .ok (.getstatic 22, 3) := by decide +kernel
theorem d1_43 : decode method_2_code 43 = .ok (.areturn, 1) := by decide +kernel
theorem d1_44 : decode method_2_code 44 = .ok (.iload_n 0, 1) := by decide +kernel
theorem d1_45 : decode method_2_code 45 = .ok (.iconst 5, 1) := by decide +kernel
theorem d1_46 : decode method_2_code 46 = .ok (.if_icmp .ne 7, 3) := by decide +kernel
theorem d1_49 : decode method_2_code 49 = .ok (.getstatic 25, 3) := by decide +kernel
theorem d1_52 : decode method_2_code 52 = .ok (.areturn, 1) := by decide +kernel
theorem d1_53 : decode method_2_code 53 = .ok (.iload_n 0, 1) := by decide +kernel
theorem d1_54 : decode method_2_code 54 = .ok (.bipush 6, 2) := by decide +kernel
theorem d1_56 : decode method_2_code 56 = .ok (.if_icmp .ne 7, 3) := by decide +kernel
theorem d1_59 : decode method_2_code 59 = .ok (.getstatic 28, 3) := by decide +kernel
theorem d1_62 : decode method_2_code 62 = .ok (.areturn, 1) := by decide +kernel
theorem d1_63 : decode method_2_code 63 = .ok (.iload_n 0, 1) := by decide +kernel
theorem d1_64 : decode method_2_code 64 = .ok (.bipush 7, 2) := by decide +kernel
theorem d1_66 : decode method_2_code 66 = .ok (.if_icmp .ne 7, 3) := by decide +kernel
theorem d1_69 : decode method_2_code 69 = .ok (.getstatic 31, 3) := by decide +kernel
theorem d1_72 : decode method_2_code 72 = .ok (.areturn, 1) := by decide +kernel
theorem d1_73 : decode method_2_code 73 = .ok (.iload_n 0, 1) := by decide +kernel
theorem d1_74 : decode method_2_code 74 = .ok (.bipush 8, 2) := by decide +kernel
theorem d1_76 : decode method_2_code 76 = .ok (.if_icmp .ne 7, 3) := by decide +kernel
theorem d1_79 : decode method_2_code 79 = .ok (.getstatic 34, 3) := by decide +kernel
theorem d1_82 : decode method_2_code 82 = .ok (.areturn, 1) := by decide +kernel
theorem d1_83 : decode method_2_code 83 = .ok (.getstatic 37, 3) := by decide +kernel
theorem d1_86 : decode method_2_code 86 = .ok (.areturn, 1) := by decide +kernel
def Q_rm_pick (Z : State) (p1 : Int32) (w_EQUAL w_ONE_AND_ONLY w_ADD w_IN w_SUBTRACT w_GREATER_THAN_OR_EQUAL w_GREATER_THAN w_LESS_THAN_OR_EQUAL w_MULTIPLY w_DIVIDE : Addr) (h0 : Heap) (n0 : Nat) (v : Option Value) (h : Heap) (L : List Loc) : Prop := v = some (.ref (pickF p1 w_EQUAL w_ONE_AND_ONLY w_ADD w_IN w_SUBTRACT w_GREATER_THAN_OR_EQUAL w_GREATER_THAN w_LESS_THAN_OR_EQUAL w_MULTIPLY w_DIVIDE)) ∧ Fr n0 L ∧ h = h0
set_option maxRecDepth 65536 in
set_option maxHeartbeats 40000000 in
theorem rm_pick (l : Launch) (Z : State) (a0 : Array Value) (hw : ∀ d ∈ tables_1, d.before a0 Z = true) (ws : List Jvm.Cond) (p1 : Int32) (w_EQUAL w_ONE_AND_ONLY w_ADD w_IN w_SUBTRACT w_GREATER_THAN_OR_EQUAL w_GREATER_THAN w_LESS_THAN_OR_EQUAL w_MULTIPLY w_DIVIDE : Addr) (h0 : Heap) (n0 : Nat) (Z0 : n0 ≤ h0.size) (O0 : Ext Z.heap h0) (P : Pins Z w_EQUAL w_ONE_AND_ONLY w_ADD w_IN w_SUBTRACT w_GREATER_THAN_OR_EQUAL w_GREATER_THAN w_LESS_THAN_OR_EQUAL w_MULTIPLY w_DIVIDE) :
    MetFree l (⟨"com/example/usage_verdict/usageverdict/language/FunctionTakesBagsPinLaw", "pick", "(I)Lcom/example/usage_verdict/usageverdict/language/Function;"⟩ : MethodName) (head1 (Jvm.Cond.code (⟨"com/example/usage_verdict/usageverdict/language/FunctionTakesBagsPinLaw", "pick", "(I)Lcom/example/usage_verdict/usageverdict/language/Function;"⟩ : MethodName) method_2_code 1 (some (.object "com/example/usage_verdict/usageverdict/language/Function")) :: ws) ({ frames := 0, cells := 0, slots := 0, locals := 0 } : Room)) (fun a U => a = #[(.int p1)] ∧ Z.Warmed39 U.vm ∧ U.heap = h0) (fun _ _ _ _ _ => True) (fun _ U o U' => ∃ v L, o = .returned v ∧ Q_rm_pick Z p1 w_EQUAL w_ONE_AND_ONLY w_ADD w_IN w_SUBTRACT w_GREATER_THAN_OR_EQUAL w_GREATER_THAN w_LESS_THAN_OR_EQUAL w_MULTIPLY w_DIVIDE h0 n0 v U'.heap L ∧ FrameEnd U o U' L ({ frames := 0, cells := 0, slots := 0, locals := 0 } : Room).cells ({ frames := 0, cells := 0, slots := 0, locals := 0 } : Room).slots) := by
  refine MetFree.of_bodySF (plainFor_of_name pn_com_example_usage_verdict_usageverdict_language_FunctionTakesBagsPinLaw) hisR ?_
  intro p e s m args below meth c s₁ Bd hml0 hP hK
  obtain ⟨rfl, hZ, hh⟩ := hP
  have hx := Bd.exec
  have hby := Bd.bytes
  have hml : c.maxLocals = 1 := hml0
  have hown : s.vm.findClass "com/example/usage_verdict/usageverdict/language/FunctionTakesBagsPinLaw" = some m.cls := findClass_of_methodNamed Bd.named
  have hnm := (name_of_methodNamed Bd.named Bd.method).1
  have X0 : Stand p l e ({ frames := 0, cells := 0, slots := 0, locals := 0 } : Room) s m #[(.int p1)] below meth c s₁ [] 0 0 := Stand.of_body Bd
  have e0 : s₁.heap = h0 := by rw [← hh, Bd.state]; rfl
  have N0 := Fr.nil n0
  have pre0 : ∀ t, Steps p.tables e below (s₁.setTop (mkF m 0 #[.val (.int p1)] [])) t → Steps p.tables e below (s₁.setTop (entryFrame m #[(.int p1)] 1)) t := fun t k => castTop (ef_1 m p1) k
  obtain ⟨S_EQUAL, S_ONE_AND_ONLY, S_ADD, S_IN, S_SUBTRACT, S_GREATER_THAN_OR_EQUAL, S_GREATER_THAN, S_LESS_THAN_OR_EQUAL, S_MULTIPLY, S_DIVIDE, E_EQUAL, E_ONE_AND_ONLY, E_ADD, E_IN, E_SUBTRACT, E_GREATER_THAN_OR_EQUAL, E_GREATER_THAN, E_LESS_THAN_OR_EQUAL, E_MULTIPLY, E_DIVIDE, F_ordinal_EQUAL, F_ordinal_ONE_AND_ONLY, F_ordinal_ADD, F_ordinal_IN, F_ordinal_SUBTRACT, F_ordinal_GREATER_THAN_OR_EQUAL, F_ordinal_GREATER_THAN, F_ordinal_LESS_THAN_OR_EQUAL, F_arity_ONE_AND_ONLY, F_ordinal_MULTIPLY, F_ordinal_DIVIDE, F_arity_EQUAL, F_arity_ADD, F_arity_IN, F_arity_SUBTRACT, F_arity_GREATER_THAN_OR_EQUAL, F_arity_GREATER_THAN, F_arity_LESS_THAN_OR_EQUAL, F_arity_MULTIPLY, F_arity_DIVIDE⟩ := P
  have pre1 : ∀ t, Steps p.tables e below (s₁.setTop (mkF m 1 #[.val (.int p1)] [(.int p1)])) t → Steps p.tables e below (s₁.setTop (entryFrame m #[(.int p1)] 1)) t := fun t k => pre0 t (by
    show Steps p.tables e below (s₁.setTop (mkF m 0 #[.val (.int p1)] [])) _
    refine XS.iloadN X0.here hx rfl (hb hby d1_0) rfl ?_
    exact k)
  by_cases hc1_2 : p1 = (0 : Int32)
  · have pre3 : ∀ t, Steps p.tables e below (s₁.setTop (mkF m 4 #[.val (.int p1)] [])) t → Steps p.tables e below (s₁.setTop (entryFrame m #[(.int p1)] 1)) t := fun t k => pre1 t (by
      show Steps p.tables e below (s₁.setTop (mkF m 1 #[.val (.int p1)] [(.int p1)])) _
      refine XS.ifNo X0.here hx rfl (hb hby d1_1) rfl ((if0 _ _).trans (teq hc1_2).2) ?_
      exact k)
    obtain ⟨T4, X4, e4, st4⟩ := getS2 X0 hx hZ hown (host := "") (Or.inl (hw _ (List.mem_of_getElem? (i := 5) rfl))) Via.refl e0 (Sta.ext O0 S_EQUAL) (g := (mkF m 4 #[.val (.int p1)] [])) rfl (hb hby d1_4)
    have pre5 : ∀ t, Steps p.tables e below (T4.setTop (mkF m 7 #[.val (.int p1)] [(.ref w_EQUAL)])) t → Steps p.tables e below (s₁.setTop (entryFrame m #[(.int p1)] 1)) t := fun t k => pre3 t (st4 t k)
    obtain ⟨fs, hr, hrun, hended, hW, hsame⟩ := X4.leave (v := some (.ref w_EQUAL)) (fun h => by rw [Bd.returns] at h; cases h)
    refine ⟨_, _, pre5 _ ?_, hrun, hended, _, _, rfl, ?_, ⟨_, rfl⟩, hW, hsame.mono (by decide) (by decide)⟩
    · show Steps p.tables e below (T4.setTop (mkF m 7 #[.val (.int p1)] [(.ref w_EQUAL)])) _
      jvm_step X4.here [X4.here.top, hx, (hb hby d1_7), X4.method', Bd.returns, Value.isRef, FieldType.isReference]
      first | (intro acts; rw [hr _ acts rfl rfl rfl]) | rw [hr _ _ rfl rfl rfl]
      exact Steps.refl _
    · show Q_rm_pick Z p1 w_EQUAL w_ONE_AND_ONLY w_ADD w_IN w_SUBTRACT w_GREATER_THAN_OR_EQUAL w_GREATER_THAN w_LESS_THAN_OR_EQUAL w_MULTIPLY w_DIVIDE h0 n0 _ T4.heap _
      rw [e4]
      exact ⟨(by simp [pickF, hc1_2]), N0, rfl⟩
  · have pre6 : ∀ t, Steps p.tables e below (s₁.setTop (mkF m 10 #[.val (.int p1)] [(.int (1 : Int32)), (.int p1)])) t → Steps p.tables e below (s₁.setTop (entryFrame m #[(.int p1)] 1)) t := fun t k => pre1 t (by
      show Steps p.tables e below (s₁.setTop (mkF m 1 #[.val (.int p1)] [(.int p1)])) _
      refine XS.ifYes X0.here hx rfl (pc0 := 1) (pc' := 8) rfl (hb hby d1_1) rfl ((if0 _ _).trans (feq hc1_2).2) (by decide) (by decide) ?_
      show Steps p.tables e below (s₁.setTop (mkF m 8 #[.val (.int p1)] [])) _
      refine XS.iloadN X0.here hx rfl (hb hby d1_8) rfl ?_
      show Steps p.tables e below (s₁.setTop (mkF m 9 #[.val (.int p1)] [(.int p1)])) _
      refine XS.iconst X0.here hx rfl (hb hby d1_9) ?_
      exact k)
    by_cases hc10_7 : p1 = (1 : Int32)
    · have pre8 : ∀ t, Steps p.tables e below (s₁.setTop (mkF m 13 #[.val (.int p1)] [])) t → Steps p.tables e below (s₁.setTop (entryFrame m #[(.int p1)] 1)) t := fun t k => pre6 t (by
        show Steps p.tables e below (s₁.setTop (mkF m 10 #[.val (.int p1)] [(.int (1 : Int32)), (.int p1)])) _
        refine XS.icmpNo X0.here hx rfl (hb hby d1_10) rfl (teq hc10_7).2 ?_
        exact k)
      obtain ⟨T9, X9, e9, st9⟩ := getS2 X0 hx hZ hown (host := "") (Or.inl (hw _ (List.mem_of_getElem? (i := 17) rfl))) Via.refl e0 (Sta.ext O0 S_IN) (g := (mkF m 13 #[.val (.int p1)] [])) rfl (hb hby d1_13)
      have pre10 : ∀ t, Steps p.tables e below (T9.setTop (mkF m 16 #[.val (.int p1)] [(.ref w_IN)])) t → Steps p.tables e below (s₁.setTop (entryFrame m #[(.int p1)] 1)) t := fun t k => pre8 t (st9 t k)
      obtain ⟨fs, hr, hrun, hended, hW, hsame⟩ := X9.leave (v := some (.ref w_IN)) (fun h => by rw [Bd.returns] at h; cases h)
      refine ⟨_, _, pre10 _ ?_, hrun, hended, _, _, rfl, ?_, ⟨_, rfl⟩, hW, hsame.mono (by decide) (by decide)⟩
      · show Steps p.tables e below (T9.setTop (mkF m 16 #[.val (.int p1)] [(.ref w_IN)])) _
        jvm_step X9.here [X9.here.top, hx, (hb hby d1_16), X9.method', Bd.returns, Value.isRef, FieldType.isReference]
        first | (intro acts; rw [hr _ acts rfl rfl rfl]) | rw [hr _ _ rfl rfl rfl]
        exact Steps.refl _
      · show Q_rm_pick Z p1 w_EQUAL w_ONE_AND_ONLY w_ADD w_IN w_SUBTRACT w_GREATER_THAN_OR_EQUAL w_GREATER_THAN w_LESS_THAN_OR_EQUAL w_MULTIPLY w_DIVIDE h0 n0 _ T9.heap _
        rw [e9]
        exact ⟨(by simp [pickF, hc1_2, hc10_7]), N0, rfl⟩
    · have pre11 : ∀ t, Steps p.tables e below (s₁.setTop (mkF m 19 #[.val (.int p1)] [(.int (2 : Int32)), (.int p1)])) t → Steps p.tables e below (s₁.setTop (entryFrame m #[(.int p1)] 1)) t := fun t k => pre6 t (by
        show Steps p.tables e below (s₁.setTop (mkF m 10 #[.val (.int p1)] [(.int (1 : Int32)), (.int p1)])) _
        refine XS.icmpYes X0.here hx rfl (pc0 := 10) (pc' := 17) rfl (hb hby d1_10) rfl (feq hc10_7).2 (by decide) (by decide) ?_
        show Steps p.tables e below (s₁.setTop (mkF m 17 #[.val (.int p1)] [])) _
        refine XS.iloadN X0.here hx rfl (hb hby d1_17) rfl ?_
        show Steps p.tables e below (s₁.setTop (mkF m 18 #[.val (.int p1)] [(.int p1)])) _
        refine XS.iconst X0.here hx rfl (hb hby d1_18) ?_
        exact k)
      by_cases hc19_12 : p1 = (2 : Int32)
      · have pre13 : ∀ t, Steps p.tables e below (s₁.setTop (mkF m 22 #[.val (.int p1)] [])) t → Steps p.tables e below (s₁.setTop (entryFrame m #[(.int p1)] 1)) t := fun t k => pre11 t (by
          show Steps p.tables e below (s₁.setTop (mkF m 19 #[.val (.int p1)] [(.int (2 : Int32)), (.int p1)])) _
          refine XS.icmpNo X0.here hx rfl (hb hby d1_19) rfl (teq hc19_12).2 ?_
          exact k)
        obtain ⟨T14, X14, e14, st14⟩ := getS2 X0 hx hZ hown (host := "") (Or.inl (hw _ (List.mem_of_getElem? (i := 23) rfl))) Via.refl e0 (Sta.ext O0 S_GREATER_THAN) (g := (mkF m 22 #[.val (.int p1)] [])) rfl (hb hby d1_22)
        have pre15 : ∀ t, Steps p.tables e below (T14.setTop (mkF m 25 #[.val (.int p1)] [(.ref w_GREATER_THAN)])) t → Steps p.tables e below (s₁.setTop (entryFrame m #[(.int p1)] 1)) t := fun t k => pre13 t (st14 t k)
        obtain ⟨fs, hr, hrun, hended, hW, hsame⟩ := X14.leave (v := some (.ref w_GREATER_THAN)) (fun h => by rw [Bd.returns] at h; cases h)
        refine ⟨_, _, pre15 _ ?_, hrun, hended, _, _, rfl, ?_, ⟨_, rfl⟩, hW, hsame.mono (by decide) (by decide)⟩
        · show Steps p.tables e below (T14.setTop (mkF m 25 #[.val (.int p1)] [(.ref w_GREATER_THAN)])) _
          jvm_step X14.here [X14.here.top, hx, (hb hby d1_25), X14.method', Bd.returns, Value.isRef, FieldType.isReference]
          first | (intro acts; rw [hr _ acts rfl rfl rfl]) | rw [hr _ _ rfl rfl rfl]
          exact Steps.refl _
        · show Q_rm_pick Z p1 w_EQUAL w_ONE_AND_ONLY w_ADD w_IN w_SUBTRACT w_GREATER_THAN_OR_EQUAL w_GREATER_THAN w_LESS_THAN_OR_EQUAL w_MULTIPLY w_DIVIDE h0 n0 _ T14.heap _
          rw [e14]
          exact ⟨(by simp [pickF, hc1_2, hc10_7, hc19_12]), N0, rfl⟩
      · have pre16 : ∀ t, Steps p.tables e below (s₁.setTop (mkF m 28 #[.val (.int p1)] [(.int (3 : Int32)), (.int p1)])) t → Steps p.tables e below (s₁.setTop (entryFrame m #[(.int p1)] 1)) t := fun t k => pre11 t (by
          show Steps p.tables e below (s₁.setTop (mkF m 19 #[.val (.int p1)] [(.int (2 : Int32)), (.int p1)])) _
          refine XS.icmpYes X0.here hx rfl (pc0 := 19) (pc' := 26) rfl (hb hby d1_19) rfl (feq hc19_12).2 (by decide) (by decide) ?_
          show Steps p.tables e below (s₁.setTop (mkF m 26 #[.val (.int p1)] [])) _
          refine XS.iloadN X0.here hx rfl (hb hby d1_26) rfl ?_
          show Steps p.tables e below (s₁.setTop (mkF m 27 #[.val (.int p1)] [(.int p1)])) _
          refine XS.iconst X0.here hx rfl (hb hby d1_27) ?_
          exact k)
        by_cases hc28_17 : p1 = (3 : Int32)
        · have pre18 : ∀ t, Steps p.tables e below (s₁.setTop (mkF m 31 #[.val (.int p1)] [])) t → Steps p.tables e below (s₁.setTop (entryFrame m #[(.int p1)] 1)) t := fun t k => pre16 t (by
            show Steps p.tables e below (s₁.setTop (mkF m 28 #[.val (.int p1)] [(.int (3 : Int32)), (.int p1)])) _
            refine XS.icmpNo X0.here hx rfl (hb hby d1_28) rfl (teq hc28_17).2 ?_
            exact k)
          obtain ⟨T19, X19, e19, st19⟩ := getS2 X0 hx hZ hown (host := "") (Or.inl (hw _ (List.mem_of_getElem? (i := 15) rfl))) Via.refl e0 (Sta.ext O0 S_ADD) (g := (mkF m 31 #[.val (.int p1)] [])) rfl (hb hby d1_31)
          have pre20 : ∀ t, Steps p.tables e below (T19.setTop (mkF m 34 #[.val (.int p1)] [(.ref w_ADD)])) t → Steps p.tables e below (s₁.setTop (entryFrame m #[(.int p1)] 1)) t := fun t k => pre18 t (st19 t k)
          obtain ⟨fs, hr, hrun, hended, hW, hsame⟩ := X19.leave (v := some (.ref w_ADD)) (fun h => by rw [Bd.returns] at h; cases h)
          refine ⟨_, _, pre20 _ ?_, hrun, hended, _, _, rfl, ?_, ⟨_, rfl⟩, hW, hsame.mono (by decide) (by decide)⟩
          · show Steps p.tables e below (T19.setTop (mkF m 34 #[.val (.int p1)] [(.ref w_ADD)])) _
            jvm_step X19.here [X19.here.top, hx, (hb hby d1_34), X19.method', Bd.returns, Value.isRef, FieldType.isReference]
            first | (intro acts; rw [hr _ acts rfl rfl rfl]) | rw [hr _ _ rfl rfl rfl]
            exact Steps.refl _
          · show Q_rm_pick Z p1 w_EQUAL w_ONE_AND_ONLY w_ADD w_IN w_SUBTRACT w_GREATER_THAN_OR_EQUAL w_GREATER_THAN w_LESS_THAN_OR_EQUAL w_MULTIPLY w_DIVIDE h0 n0 _ T19.heap _
            rw [e19]
            exact ⟨(by simp [pickF, hc1_2, hc10_7, hc19_12, hc28_17]), N0, rfl⟩
        · have pre21 : ∀ t, Steps p.tables e below (s₁.setTop (mkF m 37 #[.val (.int p1)] [(.int (4 : Int32)), (.int p1)])) t → Steps p.tables e below (s₁.setTop (entryFrame m #[(.int p1)] 1)) t := fun t k => pre16 t (by
            show Steps p.tables e below (s₁.setTop (mkF m 28 #[.val (.int p1)] [(.int (3 : Int32)), (.int p1)])) _
            refine XS.icmpYes X0.here hx rfl (pc0 := 28) (pc' := 35) rfl (hb hby d1_28) rfl (feq hc28_17).2 (by decide) (by decide) ?_
            show Steps p.tables e below (s₁.setTop (mkF m 35 #[.val (.int p1)] [])) _
            refine XS.iloadN X0.here hx rfl (hb hby d1_35) rfl ?_
            show Steps p.tables e below (s₁.setTop (mkF m 36 #[.val (.int p1)] [(.int p1)])) _
            refine XS.iconst X0.here hx rfl (hb hby d1_36) ?_
            exact k)
          by_cases hc37_22 : p1 = (4 : Int32)
          · have pre23 : ∀ t, Steps p.tables e below (s₁.setTop (mkF m 40 #[.val (.int p1)] [])) t → Steps p.tables e below (s₁.setTop (entryFrame m #[(.int p1)] 1)) t := fun t k => pre21 t (by
              show Steps p.tables e below (s₁.setTop (mkF m 37 #[.val (.int p1)] [(.int (4 : Int32)), (.int p1)])) _
              refine XS.icmpNo X0.here hx rfl (hb hby d1_37) rfl (teq hc37_22).2 ?_
              exact k)
            obtain ⟨T24, X24, e24, st24⟩ := getS2 X0 hx hZ hown (host := "") (Or.inl (hw _ (List.mem_of_getElem? (i := 19) rfl))) Via.refl e0 (Sta.ext O0 S_SUBTRACT) (g := (mkF m 40 #[.val (.int p1)] [])) rfl (hb hby d1_40)
            have pre25 : ∀ t, Steps p.tables e below (T24.setTop (mkF m 43 #[.val (.int p1)] [(.ref w_SUBTRACT)])) t → Steps p.tables e below (s₁.setTop (entryFrame m #[(.int p1)] 1)) t := fun t k => pre23 t (st24 t k)
            obtain ⟨fs, hr, hrun, hended, hW, hsame⟩ := X24.leave (v := some (.ref w_SUBTRACT)) (fun h => by rw [Bd.returns] at h; cases h)
            refine ⟨_, _, pre25 _ ?_, hrun, hended, _, _, rfl, ?_, ⟨_, rfl⟩, hW, hsame.mono (by decide) (by decide)⟩
            · show Steps p.tables e below (T24.setTop (mkF m 43 #[.val (.int p1)] [(.ref w_SUBTRACT)])) _
              jvm_step X24.here [X24.here.top, hx, (hb hby d1_43), X24.method', Bd.returns, Value.isRef, FieldType.isReference]
              first | (intro acts; rw [hr _ acts rfl rfl rfl]) | rw [hr _ _ rfl rfl rfl]
              exact Steps.refl _
            · show Q_rm_pick Z p1 w_EQUAL w_ONE_AND_ONLY w_ADD w_IN w_SUBTRACT w_GREATER_THAN_OR_EQUAL w_GREATER_THAN w_LESS_THAN_OR_EQUAL w_MULTIPLY w_DIVIDE h0 n0 _ T24.heap _
              rw [e24]
              exact ⟨(by simp [pickF, hc1_2, hc10_7, hc19_12, hc28_17, hc37_22]), N0, rfl⟩
          · have pre26 : ∀ t, Steps p.tables e below (s₁.setTop (mkF m 46 #[.val (.int p1)] [(.int (5 : Int32)), (.int p1)])) t → Steps p.tables e below (s₁.setTop (entryFrame m #[(.int p1)] 1)) t := fun t k => pre21 t (by
              show Steps p.tables e below (s₁.setTop (mkF m 37 #[.val (.int p1)] [(.int (4 : Int32)), (.int p1)])) _
              refine XS.icmpYes X0.here hx rfl (pc0 := 37) (pc' := 44) rfl (hb hby d1_37) rfl (feq hc37_22).2 (by decide) (by decide) ?_
              show Steps p.tables e below (s₁.setTop (mkF m 44 #[.val (.int p1)] [])) _
              refine XS.iloadN X0.here hx rfl (hb hby d1_44) rfl ?_
              show Steps p.tables e below (s₁.setTop (mkF m 45 #[.val (.int p1)] [(.int p1)])) _
              refine XS.iconst X0.here hx rfl (hb hby d1_45) ?_
              exact k)
            by_cases hc46_27 : p1 = (5 : Int32)
            · have pre28 : ∀ t, Steps p.tables e below (s₁.setTop (mkF m 49 #[.val (.int p1)] [])) t → Steps p.tables e below (s₁.setTop (entryFrame m #[(.int p1)] 1)) t := fun t k => pre26 t (by
                show Steps p.tables e below (s₁.setTop (mkF m 46 #[.val (.int p1)] [(.int (5 : Int32)), (.int p1)])) _
                refine XS.icmpNo X0.here hx rfl (hb hby d1_46) rfl (teq hc46_27).2 ?_
                exact k)
              obtain ⟨T29, X29, e29, st29⟩ := getS2 X0 hx hZ hown (host := "") (Or.inl (hw _ (List.mem_of_getElem? (i := 35) rfl))) Via.refl e0 (Sta.ext O0 S_MULTIPLY) (g := (mkF m 49 #[.val (.int p1)] [])) rfl (hb hby d1_49)
              have pre30 : ∀ t, Steps p.tables e below (T29.setTop (mkF m 52 #[.val (.int p1)] [(.ref w_MULTIPLY)])) t → Steps p.tables e below (s₁.setTop (entryFrame m #[(.int p1)] 1)) t := fun t k => pre28 t (st29 t k)
              obtain ⟨fs, hr, hrun, hended, hW, hsame⟩ := X29.leave (v := some (.ref w_MULTIPLY)) (fun h => by rw [Bd.returns] at h; cases h)
              refine ⟨_, _, pre30 _ ?_, hrun, hended, _, _, rfl, ?_, ⟨_, rfl⟩, hW, hsame.mono (by decide) (by decide)⟩
              · show Steps p.tables e below (T29.setTop (mkF m 52 #[.val (.int p1)] [(.ref w_MULTIPLY)])) _
                jvm_step X29.here [X29.here.top, hx, (hb hby d1_52), X29.method', Bd.returns, Value.isRef, FieldType.isReference]
                first | (intro acts; rw [hr _ acts rfl rfl rfl]) | rw [hr _ _ rfl rfl rfl]
                exact Steps.refl _
              · show Q_rm_pick Z p1 w_EQUAL w_ONE_AND_ONLY w_ADD w_IN w_SUBTRACT w_GREATER_THAN_OR_EQUAL w_GREATER_THAN w_LESS_THAN_OR_EQUAL w_MULTIPLY w_DIVIDE h0 n0 _ T29.heap _
                rw [e29]
                exact ⟨(by simp [pickF, hc1_2, hc10_7, hc19_12, hc28_17, hc37_22, hc46_27]), N0, rfl⟩
            · have pre31 : ∀ t, Steps p.tables e below (s₁.setTop (mkF m 56 #[.val (.int p1)] [(.int (6 : Int32)), (.int p1)])) t → Steps p.tables e below (s₁.setTop (entryFrame m #[(.int p1)] 1)) t := fun t k => pre26 t (by
                show Steps p.tables e below (s₁.setTop (mkF m 46 #[.val (.int p1)] [(.int (5 : Int32)), (.int p1)])) _
                refine XS.icmpYes X0.here hx rfl (pc0 := 46) (pc' := 53) rfl (hb hby d1_46) rfl (feq hc46_27).2 (by decide) (by decide) ?_
                show Steps p.tables e below (s₁.setTop (mkF m 53 #[.val (.int p1)] [])) _
                refine XS.iloadN X0.here hx rfl (hb hby d1_53) rfl ?_
                show Steps p.tables e below (s₁.setTop (mkF m 54 #[.val (.int p1)] [(.int p1)])) _
                refine XS.bipush X0.here hx rfl (hb hby d1_54) ?_
                exact k)
              by_cases hc56_32 : p1 = (6 : Int32)
              · have pre33 : ∀ t, Steps p.tables e below (s₁.setTop (mkF m 59 #[.val (.int p1)] [])) t → Steps p.tables e below (s₁.setTop (entryFrame m #[(.int p1)] 1)) t := fun t k => pre31 t (by
                  show Steps p.tables e below (s₁.setTop (mkF m 56 #[.val (.int p1)] [(.int (6 : Int32)), (.int p1)])) _
                  refine XS.icmpNo X0.here hx rfl (hb hby d1_56) rfl (teq hc56_32).2 ?_
                  exact k)
                obtain ⟨T34, X34, e34, st34⟩ := getS2 X0 hx hZ hown (host := "") (Or.inl (hw _ (List.mem_of_getElem? (i := 37) rfl))) Via.refl e0 (Sta.ext O0 S_DIVIDE) (g := (mkF m 59 #[.val (.int p1)] [])) rfl (hb hby d1_59)
                have pre35 : ∀ t, Steps p.tables e below (T34.setTop (mkF m 62 #[.val (.int p1)] [(.ref w_DIVIDE)])) t → Steps p.tables e below (s₁.setTop (entryFrame m #[(.int p1)] 1)) t := fun t k => pre33 t (st34 t k)
                obtain ⟨fs, hr, hrun, hended, hW, hsame⟩ := X34.leave (v := some (.ref w_DIVIDE)) (fun h => by rw [Bd.returns] at h; cases h)
                refine ⟨_, _, pre35 _ ?_, hrun, hended, _, _, rfl, ?_, ⟨_, rfl⟩, hW, hsame.mono (by decide) (by decide)⟩
                · show Steps p.tables e below (T34.setTop (mkF m 62 #[.val (.int p1)] [(.ref w_DIVIDE)])) _
                  jvm_step X34.here [X34.here.top, hx, (hb hby d1_62), X34.method', Bd.returns, Value.isRef, FieldType.isReference]
                  first | (intro acts; rw [hr _ acts rfl rfl rfl]) | rw [hr _ _ rfl rfl rfl]
                  exact Steps.refl _
                · show Q_rm_pick Z p1 w_EQUAL w_ONE_AND_ONLY w_ADD w_IN w_SUBTRACT w_GREATER_THAN_OR_EQUAL w_GREATER_THAN w_LESS_THAN_OR_EQUAL w_MULTIPLY w_DIVIDE h0 n0 _ T34.heap _
                  rw [e34]
                  exact ⟨(by simp [pickF, hc1_2, hc10_7, hc19_12, hc28_17, hc37_22, hc46_27, hc56_32]), N0, rfl⟩
              · have pre36 : ∀ t, Steps p.tables e below (s₁.setTop (mkF m 66 #[.val (.int p1)] [(.int (7 : Int32)), (.int p1)])) t → Steps p.tables e below (s₁.setTop (entryFrame m #[(.int p1)] 1)) t := fun t k => pre31 t (by
                  show Steps p.tables e below (s₁.setTop (mkF m 56 #[.val (.int p1)] [(.int (6 : Int32)), (.int p1)])) _
                  refine XS.icmpYes X0.here hx rfl (pc0 := 56) (pc' := 63) rfl (hb hby d1_56) rfl (feq hc56_32).2 (by decide) (by decide) ?_
                  show Steps p.tables e below (s₁.setTop (mkF m 63 #[.val (.int p1)] [])) _
                  refine XS.iloadN X0.here hx rfl (hb hby d1_63) rfl ?_
                  show Steps p.tables e below (s₁.setTop (mkF m 64 #[.val (.int p1)] [(.int p1)])) _
                  refine XS.bipush X0.here hx rfl (hb hby d1_64) ?_
                  exact k)
                by_cases hc66_37 : p1 = (7 : Int32)
                · have pre38 : ∀ t, Steps p.tables e below (s₁.setTop (mkF m 69 #[.val (.int p1)] [])) t → Steps p.tables e below (s₁.setTop (entryFrame m #[(.int p1)] 1)) t := fun t k => pre36 t (by
                    show Steps p.tables e below (s₁.setTop (mkF m 66 #[.val (.int p1)] [(.int (7 : Int32)), (.int p1)])) _
                    refine XS.icmpNo X0.here hx rfl (hb hby d1_66) rfl (teq hc66_37).2 ?_
                    exact k)
                  obtain ⟨T39, X39, e39, st39⟩ := getS2 X0 hx hZ hown (host := "") (Or.inl (hw _ (List.mem_of_getElem? (i := 21) rfl))) Via.refl e0 (Sta.ext O0 S_GREATER_THAN_OR_EQUAL) (g := (mkF m 69 #[.val (.int p1)] [])) rfl (hb hby d1_69)
                  have pre40 : ∀ t, Steps p.tables e below (T39.setTop (mkF m 72 #[.val (.int p1)] [(.ref w_GREATER_THAN_OR_EQUAL)])) t → Steps p.tables e below (s₁.setTop (entryFrame m #[(.int p1)] 1)) t := fun t k => pre38 t (st39 t k)
                  obtain ⟨fs, hr, hrun, hended, hW, hsame⟩ := X39.leave (v := some (.ref w_GREATER_THAN_OR_EQUAL)) (fun h => by rw [Bd.returns] at h; cases h)
                  refine ⟨_, _, pre40 _ ?_, hrun, hended, _, _, rfl, ?_, ⟨_, rfl⟩, hW, hsame.mono (by decide) (by decide)⟩
                  · show Steps p.tables e below (T39.setTop (mkF m 72 #[.val (.int p1)] [(.ref w_GREATER_THAN_OR_EQUAL)])) _
                    jvm_step X39.here [X39.here.top, hx, (hb hby d1_72), X39.method', Bd.returns, Value.isRef, FieldType.isReference]
                    first | (intro acts; rw [hr _ acts rfl rfl rfl]) | rw [hr _ _ rfl rfl rfl]
                    exact Steps.refl _
                  · show Q_rm_pick Z p1 w_EQUAL w_ONE_AND_ONLY w_ADD w_IN w_SUBTRACT w_GREATER_THAN_OR_EQUAL w_GREATER_THAN w_LESS_THAN_OR_EQUAL w_MULTIPLY w_DIVIDE h0 n0 _ T39.heap _
                    rw [e39]
                    exact ⟨(by simp [pickF, hc1_2, hc10_7, hc19_12, hc28_17, hc37_22, hc46_27, hc56_32, hc66_37]), N0, rfl⟩
                · have pre41 : ∀ t, Steps p.tables e below (s₁.setTop (mkF m 76 #[.val (.int p1)] [(.int (8 : Int32)), (.int p1)])) t → Steps p.tables e below (s₁.setTop (entryFrame m #[(.int p1)] 1)) t := fun t k => pre36 t (by
                    show Steps p.tables e below (s₁.setTop (mkF m 66 #[.val (.int p1)] [(.int (7 : Int32)), (.int p1)])) _
                    refine XS.icmpYes X0.here hx rfl (pc0 := 66) (pc' := 73) rfl (hb hby d1_66) rfl (feq hc66_37).2 (by decide) (by decide) ?_
                    show Steps p.tables e below (s₁.setTop (mkF m 73 #[.val (.int p1)] [])) _
                    refine XS.iloadN X0.here hx rfl (hb hby d1_73) rfl ?_
                    show Steps p.tables e below (s₁.setTop (mkF m 74 #[.val (.int p1)] [(.int p1)])) _
                    refine XS.bipush X0.here hx rfl (hb hby d1_74) ?_
                    exact k)
                  by_cases hc76_42 : p1 = (8 : Int32)
                  · have pre43 : ∀ t, Steps p.tables e below (s₁.setTop (mkF m 79 #[.val (.int p1)] [])) t → Steps p.tables e below (s₁.setTop (entryFrame m #[(.int p1)] 1)) t := fun t k => pre41 t (by
                      show Steps p.tables e below (s₁.setTop (mkF m 76 #[.val (.int p1)] [(.int (8 : Int32)), (.int p1)])) _
                      refine XS.icmpNo X0.here hx rfl (hb hby d1_76) rfl (teq hc76_42).2 ?_
                      exact k)
                    obtain ⟨T44, X44, e44, st44⟩ := getS2 X0 hx hZ hown (host := "") (Or.inl (hw _ (List.mem_of_getElem? (i := 25) rfl))) Via.refl e0 (Sta.ext O0 S_LESS_THAN_OR_EQUAL) (g := (mkF m 79 #[.val (.int p1)] [])) rfl (hb hby d1_79)
                    have pre45 : ∀ t, Steps p.tables e below (T44.setTop (mkF m 82 #[.val (.int p1)] [(.ref w_LESS_THAN_OR_EQUAL)])) t → Steps p.tables e below (s₁.setTop (entryFrame m #[(.int p1)] 1)) t := fun t k => pre43 t (st44 t k)
                    obtain ⟨fs, hr, hrun, hended, hW, hsame⟩ := X44.leave (v := some (.ref w_LESS_THAN_OR_EQUAL)) (fun h => by rw [Bd.returns] at h; cases h)
                    refine ⟨_, _, pre45 _ ?_, hrun, hended, _, _, rfl, ?_, ⟨_, rfl⟩, hW, hsame.mono (by decide) (by decide)⟩
                    · show Steps p.tables e below (T44.setTop (mkF m 82 #[.val (.int p1)] [(.ref w_LESS_THAN_OR_EQUAL)])) _
                      jvm_step X44.here [X44.here.top, hx, (hb hby d1_82), X44.method', Bd.returns, Value.isRef, FieldType.isReference]
                      first | (intro acts; rw [hr _ acts rfl rfl rfl]) | rw [hr _ _ rfl rfl rfl]
                      exact Steps.refl _
                    · show Q_rm_pick Z p1 w_EQUAL w_ONE_AND_ONLY w_ADD w_IN w_SUBTRACT w_GREATER_THAN_OR_EQUAL w_GREATER_THAN w_LESS_THAN_OR_EQUAL w_MULTIPLY w_DIVIDE h0 n0 _ T44.heap _
                      rw [e44]
                      exact ⟨(by simp [pickF, hc1_2, hc10_7, hc19_12, hc28_17, hc37_22, hc46_27, hc56_32, hc66_37, hc76_42]), N0, rfl⟩
                  · have pre46 : ∀ t, Steps p.tables e below (s₁.setTop (mkF m 83 #[.val (.int p1)] [])) t → Steps p.tables e below (s₁.setTop (entryFrame m #[(.int p1)] 1)) t := fun t k => pre41 t (by
                      show Steps p.tables e below (s₁.setTop (mkF m 76 #[.val (.int p1)] [(.int (8 : Int32)), (.int p1)])) _
                      refine XS.icmpYes X0.here hx rfl (pc0 := 76) (pc' := 83) rfl (hb hby d1_76) rfl (feq hc76_42).2 (by decide) (by decide) ?_
                      exact k)
                    obtain ⟨T47, X47, e47, st47⟩ := getS2 X0 hx hZ hown (host := "") (Or.inl (hw _ (List.mem_of_getElem? (i := 27) rfl))) Via.refl e0 (Sta.ext O0 S_ONE_AND_ONLY) (g := (mkF m 83 #[.val (.int p1)] [])) rfl (hb hby d1_83)
                    have pre48 : ∀ t, Steps p.tables e below (T47.setTop (mkF m 86 #[.val (.int p1)] [(.ref w_ONE_AND_ONLY)])) t → Steps p.tables e below (s₁.setTop (entryFrame m #[(.int p1)] 1)) t := fun t k => pre46 t (st47 t k)
                    obtain ⟨fs, hr, hrun, hended, hW, hsame⟩ := X47.leave (v := some (.ref w_ONE_AND_ONLY)) (fun h => by rw [Bd.returns] at h; cases h)
                    refine ⟨_, _, pre48 _ ?_, hrun, hended, _, _, rfl, ?_, ⟨_, rfl⟩, hW, hsame.mono (by decide) (by decide)⟩
                    · show Steps p.tables e below (T47.setTop (mkF m 86 #[.val (.int p1)] [(.ref w_ONE_AND_ONLY)])) _
                      jvm_step X47.here [X47.here.top, hx, (hb hby d1_86), X47.method', Bd.returns, Value.isRef, FieldType.isReference]
                      first | (intro acts; rw [hr _ acts rfl rfl rfl]) | rw [hr _ _ rfl rfl rfl]
                      exact Steps.refl _
                    · show Q_rm_pick Z p1 w_EQUAL w_ONE_AND_ONLY w_ADD w_IN w_SUBTRACT w_GREATER_THAN_OR_EQUAL w_GREATER_THAN w_LESS_THAN_OR_EQUAL w_MULTIPLY w_DIVIDE h0 n0 _ T47.heap _
                      rw [e47]
                      exact ⟨(by simp [pickF, hc1_2, hc10_7, hc19_12, hc28_17, hc37_22, hc46_27, hc56_32, hc66_37, hc76_42]), N0, rfl⟩
theorem ef_2 (m : MethodId) (x0 : Addr) : entryFrame m #[(.ref x0)] 1 = mkF m 0 #[.val (.ref x0)] [] := by first | (simp [entryFrame, mkF, argsToLocals, Value.category]; done) | rfl
theorem pn_com_example_usage_verdict_usageverdict_language_Function : plainName "com/example/usage_verdict/usageverdict/language/Function" = true := by first | (simp [plainName, overriddenIn]; done) | decide +kernel
theorem d2_0 : decode prog_41_method_6_code 0 = .ok (.aload_n 0, 1) := by decide +kernel
theorem d2_1 : decode prog_41_method_6_code 1 = .ok (.getstatic 31, 3) := by decide +kernel
theorem d2_4 : decode prog_41_method_6_code 4 = .ok (.if_acmp .ne 7, 3) := by decide +kernel
theorem d2_7 : decode prog_41_method_6_code 7 = .ok (.iconst 1, 1) := by decide +kernel
theorem d2_8 : decode prog_41_method_6_code 8 = .ok (.goto 4, 3) := by decide +kernel
theorem d2_12 : decode prog_41_method_6_code 12 = .ok (.ireturn, 1) := by decide +kernel
theorem d2_11 : decode prog_41_method_6_code 11 = .ok (.iconst 0, 1) := by decide +kernel
def Q_rm_bags (Z : State) (a1 : Addr) (w_EQUAL w_ONE_AND_ONLY w_ADD w_IN w_SUBTRACT w_GREATER_THAN_OR_EQUAL w_GREATER_THAN w_LESS_THAN_OR_EQUAL w_MULTIPLY w_DIVIDE : Addr) (h0 : Heap) (n0 : Nat) (v : Option Value) (h : Heap) (L : List Loc) : Prop := v = some (.int (if a1 = w_ONE_AND_ONLY then (1 : Int32) else (0 : Int32))) ∧ Fr n0 L ∧ h = h0
set_option maxRecDepth 65536 in
set_option maxHeartbeats 40000000 in
theorem rm_bags (l : Launch) (Z : State) (a0 : Array Value) (hw : ∀ d ∈ tables_1, d.before a0 Z = true) (ws : List Jvm.Cond) (a1 : Addr) (w_EQUAL w_ONE_AND_ONLY w_ADD w_IN w_SUBTRACT w_GREATER_THAN_OR_EQUAL w_GREATER_THAN w_LESS_THAN_OR_EQUAL w_MULTIPLY w_DIVIDE : Addr) (h0 : Heap) (n0 : Nat) (Z0 : n0 ≤ h0.size) (O0 : Ext Z.heap h0) (P : Pins Z w_EQUAL w_ONE_AND_ONLY w_ADD w_IN w_SUBTRACT w_GREATER_THAN_OR_EQUAL w_GREATER_THAN w_LESS_THAN_OR_EQUAL w_MULTIPLY w_DIVIDE) :
    MetFree l (⟨"com/example/usage_verdict/usageverdict/language/Function", "takesBags", "()Z"⟩ : MethodName) (head1 (Jvm.Cond.code (⟨"com/example/usage_verdict/usageverdict/language/Function", "takesBags", "()Z"⟩ : MethodName) prog_41_method_6_code 1 (some .boolean) :: ws) ({ frames := 0, cells := 0, slots := 0, locals := 0 } : Room)) (fun a U => a = #[(.ref a1)] ∧ Z.Warmed39 U.vm ∧ U.heap = h0) (fun _ _ _ _ _ => True) (fun _ U o U' => ∃ v L, o = .returned v ∧ Q_rm_bags Z a1 w_EQUAL w_ONE_AND_ONLY w_ADD w_IN w_SUBTRACT w_GREATER_THAN_OR_EQUAL w_GREATER_THAN w_LESS_THAN_OR_EQUAL w_MULTIPLY w_DIVIDE h0 n0 v U'.heap L ∧ FrameEnd U o U' L ({ frames := 0, cells := 0, slots := 0, locals := 0 } : Room).cells ({ frames := 0, cells := 0, slots := 0, locals := 0 } : Room).slots) := by
  refine MetFree.of_bodySF (plainFor_of_name pn_com_example_usage_verdict_usageverdict_language_Function) hisR ?_
  intro p e s m args below meth c s₁ Bd hml0 hP hK
  obtain ⟨rfl, hZ, hh⟩ := hP
  have hx := Bd.exec
  have hby := Bd.bytes
  have hml : c.maxLocals = 1 := hml0
  have hown : s.vm.findClass "com/example/usage_verdict/usageverdict/language/Function" = some m.cls := findClass_of_methodNamed Bd.named
  have hnm := (name_of_methodNamed Bd.named Bd.method).1
  have X0 : Stand p l e ({ frames := 0, cells := 0, slots := 0, locals := 0 } : Room) s m #[(.ref a1)] below meth c s₁ [] 0 0 := Stand.of_body Bd
  have e0 : s₁.heap = h0 := by rw [← hh, Bd.state]; rfl
  have N0 := Fr.nil n0
  have pre0 : ∀ t, Steps p.tables e below (s₁.setTop (mkF m 0 #[.val (.ref a1)] [])) t → Steps p.tables e below (s₁.setTop (entryFrame m #[(.ref a1)] 1)) t := fun t k => castTop (ef_2 m a1) k
  obtain ⟨S_EQUAL, S_ONE_AND_ONLY, S_ADD, S_IN, S_SUBTRACT, S_GREATER_THAN_OR_EQUAL, S_GREATER_THAN, S_LESS_THAN_OR_EQUAL, S_MULTIPLY, S_DIVIDE, E_EQUAL, E_ONE_AND_ONLY, E_ADD, E_IN, E_SUBTRACT, E_GREATER_THAN_OR_EQUAL, E_GREATER_THAN, E_LESS_THAN_OR_EQUAL, E_MULTIPLY, E_DIVIDE, F_ordinal_EQUAL, F_ordinal_ONE_AND_ONLY, F_ordinal_ADD, F_ordinal_IN, F_ordinal_SUBTRACT, F_ordinal_GREATER_THAN_OR_EQUAL, F_ordinal_GREATER_THAN, F_ordinal_LESS_THAN_OR_EQUAL, F_arity_ONE_AND_ONLY, F_ordinal_MULTIPLY, F_ordinal_DIVIDE, F_arity_EQUAL, F_arity_ADD, F_arity_IN, F_arity_SUBTRACT, F_arity_GREATER_THAN_OR_EQUAL, F_arity_GREATER_THAN, F_arity_LESS_THAN_OR_EQUAL, F_arity_MULTIPLY, F_arity_DIVIDE⟩ := P
  have pre1 : ∀ t, Steps p.tables e below (s₁.setTop (mkF m 1 #[.val (.ref a1)] [(.ref a1)])) t → Steps p.tables e below (s₁.setTop (entryFrame m #[(.ref a1)] 1)) t := fun t k => pre0 t (by
    show Steps p.tables e below (s₁.setTop (mkF m 0 #[.val (.ref a1)] [])) _
    refine XS.aloadN X0.here hx rfl (hb hby d2_0) rfl rfl ?_
    exact k)
  obtain ⟨T2, X2, e2, st2⟩ := getS2 X0 hx hZ hown (host := "") (Or.inl (hw _ (List.mem_of_getElem? (i := 13) rfl))) Via.refl e0 (Sta.ext O0 S_ONE_AND_ONLY) (g := (mkF m 1 #[.val (.ref a1)] [(.ref a1)])) rfl (hb hby d2_1)
  have pre3 : ∀ t, Steps p.tables e below (T2.setTop (mkF m 4 #[.val (.ref a1)] [(.ref w_ONE_AND_ONLY), (.ref a1)])) t → Steps p.tables e below (s₁.setTop (entryFrame m #[(.ref a1)] 1)) t := fun t k => pre1 t (st2 t k)
  by_cases hc4_4 : a1 = w_ONE_AND_ONLY
  · have pre5 : ∀ t, Steps p.tables e below (T2.setTop (mkF m 12 #[.val (.ref a1)] [(.int (1 : Int32))])) t → Steps p.tables e below (s₁.setTop (entryFrame m #[(.ref a1)] 1)) t := fun t k => pre3 t (by
      show Steps p.tables e below (T2.setTop (mkF m 4 #[.val (.ref a1)] [(.ref w_ONE_AND_ONLY), (.ref a1)])) _
      refine Jvm.RoadKit.acmp (g := (mkF m 4 #[.val (.ref a1)] [(.ref w_ONE_AND_ONLY), (.ref a1)])) X2 hx rfl rfl rfl (pc0 := 4) (pc' := 7) (same := true) rfl (hb hby d2_4) rfl (decide_eq_true (congrArg Value.ref hc4_4)) (by decide) (by decide) ?_
      show Steps p.tables e below (T2.setTop (mkF m 7 #[.val (.ref a1)] [])) _
      refine XS.iconst X2.here hx rfl (hb hby d2_7) ?_
      show Steps p.tables e below (T2.setTop (mkF m 8 #[.val (.ref a1)] [(.int (1 : Int32))])) _
      refine XS.goto X2.here hx rfl (pc0 := 8) (pc' := 12) rfl (hb hby d2_8) (by decide) (by decide) ?_
      exact k)
    obtain ⟨fs, hr, hrun, hended, hW, hsame⟩ := X2.leave (v := some (.int (1 : Int32))) (fun h => by rw [Bd.returns] at h; cases h)
    refine ⟨_, _, pre5 _ ?_, hrun, hended, _, _, rfl, ?_, ⟨_, rfl⟩, hW, hsame.mono (by decide) (by decide)⟩
    · exact retN X2 hx (t := .boolean) Bd.returns (by simp) (hb hby d2_12) hr
    · show Q_rm_bags Z a1 w_EQUAL w_ONE_AND_ONLY w_ADD w_IN w_SUBTRACT w_GREATER_THAN_OR_EQUAL w_GREATER_THAN w_LESS_THAN_OR_EQUAL w_MULTIPLY w_DIVIDE h0 n0 _ T2.heap _
      rw [e2]
      exact ⟨(by simp [hc4_4]), N0, rfl⟩
  · have pre6 : ∀ t, Steps p.tables e below (T2.setTop (mkF m 12 #[.val (.ref a1)] [(.int (0 : Int32))])) t → Steps p.tables e below (s₁.setTop (entryFrame m #[(.ref a1)] 1)) t := fun t k => pre3 t (by
      show Steps p.tables e below (T2.setTop (mkF m 4 #[.val (.ref a1)] [(.ref w_ONE_AND_ONLY), (.ref a1)])) _
      refine Jvm.RoadKit.acmp (g := (mkF m 4 #[.val (.ref a1)] [(.ref w_ONE_AND_ONLY), (.ref a1)])) X2 hx rfl rfl rfl (pc0 := 4) (pc' := 11) (same := false) rfl (hb hby d2_4) rfl (decide_eq_false fun q => hc4_4 (Value.ref.inj q)) (by decide) (by decide) ?_
      show Steps p.tables e below (T2.setTop (mkF m 11 #[.val (.ref a1)] [])) _
      refine XS.iconst X2.here hx rfl (hb hby d2_11) ?_
      exact k)
    obtain ⟨fs, hr, hrun, hended, hW, hsame⟩ := X2.leave (v := some (.int (0 : Int32))) (fun h => by rw [Bd.returns] at h; cases h)
    refine ⟨_, _, pre6 _ ?_, hrun, hended, _, _, rfl, ?_, ⟨_, rfl⟩, hW, hsame.mono (by decide) (by decide)⟩
    · exact retN X2 hx (t := .boolean) Bd.returns (by simp) (hb hby d2_12) hr
    · show Q_rm_bags Z a1 w_EQUAL w_ONE_AND_ONLY w_ADD w_IN w_SUBTRACT w_GREATER_THAN_OR_EQUAL w_GREATER_THAN w_LESS_THAN_OR_EQUAL w_MULTIPLY w_DIVIDE h0 n0 _ T2.heap _
      rw [e2]
      exact ⟨(by simp [hc4_4]), N0, rfl⟩
theorem ef_3 (m : MethodId) (x0 : Addr) : entryFrame m #[(.ref x0)] 1 = mkF m 0 #[.val (.ref x0)] [] := by first | (simp [entryFrame, mkF, argsToLocals, Value.category]; done) | rfl
theorem d3_0 : decode prog_41_method_5_code 0 = .ok (.aload_n 0, 1) := by decide +kernel
theorem d3_1 : decode prog_41_method_5_code 1 = .ok (.getfield 57, 3) := by decide +kernel
theorem d3_4 : decode prog_41_method_5_code 4 = .ok (.ireturn, 1) := by decide +kernel
def Q_rm_arity (Z : State) (a1 : Addr) (v1 : Int32) (h0 : Heap) (n0 : Nat) (v : Option Value) (h : Heap) (L : List Loc) : Prop := v = some (.int v1) ∧ Fr n0 L ∧ h = h0
set_option maxRecDepth 65536 in
set_option maxHeartbeats 40000000 in
theorem rm_arity (l : Launch) (Z : State) (a0 : Array Value) (hw : ∀ d ∈ tables_1, d.before a0 Z = true) (ws : List Jvm.Cond) (a1 : Addr) (v1 : Int32) (h0 : Heap) (n0 : Nat) (Z0 : n0 ≤ h0.size) (O0 : Ext Z.heap h0) (F1 : Fld Z h0 a1 "com/example/usage_verdict/usageverdict/language/Function" "arity" "I" (.int v1)) :
    MetFree l (⟨"com/example/usage_verdict/usageverdict/language/Function", "arity", "()I"⟩ : MethodName) (head1 (Jvm.Cond.code (⟨"com/example/usage_verdict/usageverdict/language/Function", "arity", "()I"⟩ : MethodName) prog_41_method_5_code 1 (some .int) :: ws) ({ frames := 0, cells := 0, slots := 0, locals := 0 } : Room)) (fun a U => a = #[(.ref a1)] ∧ Z.Warmed39 U.vm ∧ U.heap = h0) (fun _ _ _ _ _ => True) (fun _ U o U' => ∃ v L, o = .returned v ∧ Q_rm_arity Z a1 v1 h0 n0 v U'.heap L ∧ FrameEnd U o U' L ({ frames := 0, cells := 0, slots := 0, locals := 0 } : Room).cells ({ frames := 0, cells := 0, slots := 0, locals := 0 } : Room).slots) := by
  refine MetFree.of_bodySF (plainFor_of_name pn_com_example_usage_verdict_usageverdict_language_Function) hisR ?_
  intro p e s m args below meth c s₁ Bd hml0 hP hK
  obtain ⟨rfl, hZ, hh⟩ := hP
  have hx := Bd.exec
  have hby := Bd.bytes
  have hml : c.maxLocals = 1 := hml0
  have hown : s.vm.findClass "com/example/usage_verdict/usageverdict/language/Function" = some m.cls := findClass_of_methodNamed Bd.named
  have hnm := (name_of_methodNamed Bd.named Bd.method).1
  have X0 : Stand p l e ({ frames := 0, cells := 0, slots := 0, locals := 0 } : Room) s m #[(.ref a1)] below meth c s₁ [] 0 0 := Stand.of_body Bd
  have e0 : s₁.heap = h0 := by rw [← hh, Bd.state]; rfl
  have N0 := Fr.nil n0
  have pre0 : ∀ t, Steps p.tables e below (s₁.setTop (mkF m 0 #[.val (.ref a1)] [])) t → Steps p.tables e below (s₁.setTop (entryFrame m #[(.ref a1)] 1)) t := fun t k => castTop (ef_3 m a1) k
  have pre1 : ∀ t, Steps p.tables e below (s₁.setTop (mkF m 1 #[.val (.ref a1)] [(.ref a1)])) t → Steps p.tables e below (s₁.setTop (entryFrame m #[(.ref a1)] 1)) t := fun t k => pre0 t (by
    show Steps p.tables e below (s₁.setTop (mkF m 0 #[.val (.ref a1)] [])) _
    refine XS.aloadN X0.here hx rfl (hb hby d3_0) rfl rfl ?_
    exact k)
  obtain ⟨T2, X2, e2, st2⟩ := getF X0 hx hZ hown (host := "") (Or.inl (hw _ (List.mem_of_getElem? (i := 33) rfl))) Via.refl e0 F1 (g := (mkF m 1 #[.val (.ref a1)] [(.ref a1)])) rfl rfl (hb hby d3_1)
  have pre3 : ∀ t, Steps p.tables e below (T2.setTop (mkF m 4 #[.val (.ref a1)] [(.int v1)])) t → Steps p.tables e below (s₁.setTop (entryFrame m #[(.ref a1)] 1)) t := fun t k => pre1 t (st2 t k)
  obtain ⟨fs, hr, hrun, hended, hW, hsame⟩ := X2.leave (v := some (.int v1)) (fun h => by rw [Bd.returns] at h; cases h)
  refine ⟨_, _, pre3 _ ?_, hrun, hended, _, _, rfl, ?_, ⟨_, rfl⟩, hW, hsame.mono (by decide) (by decide)⟩
  · exact retI X2 hx Bd.returns (hb hby d3_4) hr
  · show Q_rm_arity Z a1 v1 h0 n0 _ T2.heap _
    rw [e2]
    exact ⟨rfl, N0, rfl⟩
theorem ef_0 (m : MethodId) (x0 : Int32) : entryFrame m #[(.int x0)] maxLocals = mkF m 0 #[.val (.int x0), .unset, .unset, .unset, .unset] [] := by first | (simp [entryFrame, mkF, argsToLocals, Value.category, maxLocals]; done) | rfl
theorem pd_0 : parseMethodDescriptor "(I)Lcom/example/usage_verdict/usageverdict/language/Function;" = some ⟨[.int], some (.object "com/example/usage_verdict/usageverdict/language/Function")⟩ := by decide +kernel
theorem pd_1 : parseMethodDescriptor "()Z" = some ⟨[], some .boolean⟩ := by decide +kernel
theorem pd_2 : parseMethodDescriptor "()I" = some ⟨[], some .int⟩ := by decide +kernel
def Q_rm_law (Z : State) (p1 : Int32) (w_EQUAL w_ONE_AND_ONLY w_ADD w_IN w_SUBTRACT w_GREATER_THAN_OR_EQUAL w_GREATER_THAN w_LESS_THAN_OR_EQUAL w_MULTIPLY w_DIVIDE : Addr) (h0 : Heap) (n0 : Nat) (v : Option Value) (h : Heap) (L : List Loc) : Prop := v = some (.int (1 : Int32)) ∧ Fr n0 L
set_option maxRecDepth 65536 in
set_option maxHeartbeats 40000000 in
theorem rm_law (l : Launch) (Z : State) (a0 : Array Value) (hw : ∀ d ∈ tables_1, d.before a0 Z = true) (ws : List Jvm.Cond) (p1 : Int32) (w_EQUAL w_ONE_AND_ONLY w_ADD w_IN w_SUBTRACT w_GREATER_THAN_OR_EQUAL w_GREATER_THAN w_LESS_THAN_OR_EQUAL w_MULTIPLY w_DIVIDE : Addr) (h0 : Heap) (n0 : Nat) (Z0 : n0 ≤ h0.size) (O0 : Ext Z.heap h0) (P : Pins Z w_EQUAL w_ONE_AND_ONLY w_ADD w_IN w_SUBTRACT w_GREATER_THAN_OR_EQUAL w_GREATER_THAN w_LESS_THAN_OR_EQUAL w_MULTIPLY w_DIVIDE) :
    MetFree l x (head1 (Jvm.Cond.code x code maxLocals ret :: ws) room_1) (fun a U => a = #[(.int p1)] ∧ Z.Warmed39 U.vm ∧ U.heap = h0) (fun _ _ _ _ _ => True) (fun _ U o U' => ∃ v L, o = .returned v ∧ Q_rm_law Z p1 w_EQUAL w_ONE_AND_ONLY w_ADD w_IN w_SUBTRACT w_GREATER_THAN_OR_EQUAL w_GREATER_THAN w_LESS_THAN_OR_EQUAL w_MULTIPLY w_DIVIDE h0 n0 v U'.heap L ∧ FrameEnd U o U' L room_1.cells room_1.slots) := by
  refine MetFree.of_bodySF (plainFor_of_name pn_com_example_usage_verdict_usageverdict_language_FunctionTakesBagsPinLaw) hisR ?_
  intro p e s m args below meth c s₁ Bd hml0 hP hK
  obtain ⟨rfl, hZ, hh⟩ := hP
  have hx := Bd.exec
  have hby := Bd.bytes
  have hml : c.maxLocals = 5 := hml0
  have hown : s.vm.findClass "com/example/usage_verdict/usageverdict/language/FunctionTakesBagsPinLaw" = some m.cls := findClass_of_methodNamed Bd.named
  have hnm := (name_of_methodNamed Bd.named Bd.method).1
  have X0 : Stand p l e room_1 s m #[(.int p1)] below meth c s₁ [] 0 0 := Stand.of_body Bd
  have e0 : s₁.heap = h0 := by rw [← hh, Bd.state]; rfl
  have N0 := Fr.nil n0
  have pre0 : ∀ t, Steps p.tables e below (s₁.setTop (mkF m 0 #[.val (.int p1), .unset, .unset, .unset, .unset] [])) t → Steps p.tables e below (s₁.setTop (entryFrame m #[(.int p1)] maxLocals)) t := fun t k => castTop (ef_0 m p1) k
  have P' := P
  obtain ⟨S_EQUAL, S_ONE_AND_ONLY, S_ADD, S_IN, S_SUBTRACT, S_GREATER_THAN_OR_EQUAL, S_GREATER_THAN, S_LESS_THAN_OR_EQUAL, S_MULTIPLY, S_DIVIDE, E_EQUAL, E_ONE_AND_ONLY, E_ADD, E_IN, E_SUBTRACT, E_GREATER_THAN_OR_EQUAL, E_GREATER_THAN, E_LESS_THAN_OR_EQUAL, E_MULTIPLY, E_DIVIDE, F_ordinal_EQUAL, F_ordinal_ONE_AND_ONLY, F_ordinal_ADD, F_ordinal_IN, F_ordinal_SUBTRACT, F_ordinal_GREATER_THAN_OR_EQUAL, F_ordinal_GREATER_THAN, F_ordinal_LESS_THAN_OR_EQUAL, F_arity_ONE_AND_ONLY, F_ordinal_MULTIPLY, F_ordinal_DIVIDE, F_arity_EQUAL, F_arity_ADD, F_arity_IN, F_arity_SUBTRACT, F_arity_GREATER_THAN_OR_EQUAL, F_arity_GREATER_THAN, F_arity_LESS_THAN_OR_EQUAL, F_arity_MULTIPLY, F_arity_DIVIDE⟩ := P
  have pre1 : ∀ t, Steps p.tables e below (s₁.setTop (mkF m 9 #[.val (.int p1), .val (.int ((p1 &&& (2147483647 : Int32)) % (10 : Int32))), .unset, .unset, .unset] [(.int ((p1 &&& (2147483647 : Int32)) % (10 : Int32)))])) t → Steps p.tables e below (s₁.setTop (entryFrame m #[(.int p1)] maxLocals)) t := fun t k => pre0 t (by
    show Steps p.tables e below (s₁.setTop (mkF m 0 #[.val (.int p1), .unset, .unset, .unset, .unset] [])) _
    refine XS.iloadN X0.here hx rfl (hb hby at_0) rfl ?_
    show Steps p.tables e below (s₁.setTop (mkF m 1 #[.val (.int p1), .unset, .unset, .unset, .unset] [(.int p1)])) _
    refine X0.ldcInt hx hown (mvT hZ (hw _ (List.mem_of_getElem? (i := 0) rfl))) (g := (mkF m 1 #[.val (.int p1), .unset, .unset, .unset, .unset] [(.int p1)])) rfl (hb hby at_1) _ ?_
    show Steps p.tables e below (s₁.setTop (mkF m 3 #[.val (.int p1), .unset, .unset, .unset, .unset] [(.int (2147483647 : Int32)), (.int p1)])) _
    refine XS.iand X0.here hx rfl (hb hby at_3) rfl ?_
    show Steps p.tables e below (s₁.setTop (mkF m 4 #[.val (.int p1), .unset, .unset, .unset, .unset] [(.int (p1 &&& (2147483647 : Int32)))])) _
    refine XS.bipush X0.here hx rfl (hb hby at_4) ?_
    show Steps p.tables e below (s₁.setTop (mkF m 6 #[.val (.int p1), .unset, .unset, .unset, .unset] [(.int (10 : Int32)), (.int (p1 &&& (2147483647 : Int32)))])) _
    refine iremM X0 hx rfl (hb hby at_6) rfl (by decide) ?_
    show Steps p.tables e below (s₁.setTop (mkF m 7 #[.val (.int p1), .unset, .unset, .unset, .unset] [(.int ((p1 &&& (2147483647 : Int32)) % (10 : Int32)))])) _
    refine XS.istoreN X0.here hx rfl (hb hby at_7) rfl (l' := #[.val (.int p1), .val (.int ((p1 &&& (2147483647 : Int32)) % (10 : Int32))), .unset, .unset, .unset]) rfl ?_
    show Steps p.tables e below (s₁.setTop (mkF m 8 #[.val (.int p1), .val (.int ((p1 &&& (2147483647 : Int32)) % (10 : Int32))), .unset, .unset, .unset] [])) _
    refine XS.iloadN X0.here hx rfl (hb hby at_8) rfl ?_
    exact k)
  by_cases h9 : ((p1 &&& (2147483647 : Int32)) % (10 : Int32)) = (9 : Int32)
  · obtain ⟨_, _, ⟨T2, L2, k2, n2⟩, -, X2, ⟨Lc2, hQ2, l2, y2, z2⟩, st2⟩ := Jvm.LawKit.callS X0 hx (y := (⟨"com/example/usage_verdict/usageverdict/language/FunctionTakesBagsPinLaw", "pick", "(I)Lcom/example/usage_verdict/usageverdict/language/Function;"⟩ : MethodName)) hown (mvT hZ (hw _ (List.mem_of_getElem? (i := 1) rfl))) (mvT hZ (hw _ (List.mem_of_getElem? (i := 2) rfl))) (mvT hZ (hw _ (List.mem_of_getElem? (i := 3) rfl))) (mvT hZ (hw _ (List.mem_of_getElem? (i := 4) rfl))) (by decide) (backOf (W := 0) (rm_pick l Z a0 hw [] ((p1 &&& (2147483647 : Int32)) % (10 : Int32)) w_EQUAL w_ONE_AND_ONLY w_ADD w_IN w_SUBTRACT w_GREATER_THAN_OR_EQUAL w_GREATER_THAN w_LESS_THAN_OR_EQUAL w_MULTIPLY w_DIVIDE h0 n0 Z0 O0 P') hZ (hw _ (List.mem_of_getElem? (i := 4) rfl)) (hw _ (List.mem_of_getElem? (i := 3) rfl)) (by decide) (by decide)) (g := (mkF m 9 #[.val (.int p1), .val (.int ((p1 &&& (2147483647 : Int32)) % (10 : Int32))), .unset, .unset, .unset] [(.int ((p1 &&& (2147483647 : Int32)) % (10 : Int32)))])) rfl (by rw [hml]; rfl) (argsL := [(.int ((p1 &&& (2147483647 : Int32)) % (10 : Int32)))]) (rest := []) (lenOf pd_0 rfl) rfl (by show 2 * 0 + _ ≤ _; exact Nat.le_of_eq rfl) (hb hby at_9) (fun _ _ => ⟨rfl, e0, (by decide : 0 + 0 ≤ _), (by decide : 0 + 0 ≤ _)⟩)
    dsimp only [Pt.U, Pt.locs, Pt.cells, Pt.slots] at X2 l2 y2 z2 st2 hQ2
    subst l2 y2 z2
    obtain ⟨hv2, N2q, e2⟩ := hQ2
    rw [h9, own_pick9] at hv2
    subst hv2
    have N2 := Fr.app N0 N2q
    have pre3 : ∀ t, Steps p.tables e below (T2.setTop (mkF m 12 #[.val (.int p1), .val (.int ((p1 &&& (2147483647 : Int32)) % (10 : Int32))), .unset, .unset, .unset] [(.ref w_ONE_AND_ONLY)])) t → Steps p.tables e below (s₁.setTop (entryFrame m #[(.int p1)] maxLocals)) t := fun t k => pre1 t (st2 t k)
    have pre4 : ∀ t, Steps p.tables e below (T2.setTop (mkF m 26 #[.val (.int p1), .val (.int ((p1 &&& (2147483647 : Int32)) % (10 : Int32))), .val (.ref w_ONE_AND_ONLY), .val (.int (1 : Int32)), .unset] [(.ref w_ONE_AND_ONLY)])) t → Steps p.tables e below (s₁.setTop (entryFrame m #[(.int p1)] maxLocals)) t := fun t k => pre3 t (by
      show Steps p.tables e below (T2.setTop (mkF m 12 #[.val (.int p1), .val (.int ((p1 &&& (2147483647 : Int32)) % (10 : Int32))), .unset, .unset, .unset] [(.ref w_ONE_AND_ONLY)])) _
      refine XS.astoreN X2.here hx rfl (hb hby at_12) rfl rfl (l' := #[.val (.int p1), .val (.int ((p1 &&& (2147483647 : Int32)) % (10 : Int32))), .val (.ref w_ONE_AND_ONLY), .unset, .unset]) rfl ?_
      show Steps p.tables e below (T2.setTop (mkF m 13 #[.val (.int p1), .val (.int ((p1 &&& (2147483647 : Int32)) % (10 : Int32))), .val (.ref w_ONE_AND_ONLY), .unset, .unset] [])) _
      refine XS.iloadN X2.here hx rfl (hb hby at_13) rfl ?_
      show Steps p.tables e below (T2.setTop (mkF m 14 #[.val (.int p1), .val (.int ((p1 &&& (2147483647 : Int32)) % (10 : Int32))), .val (.ref w_ONE_AND_ONLY), .unset, .unset] [(.int ((p1 &&& (2147483647 : Int32)) % (10 : Int32)))])) _
      refine XS.bipush X2.here hx rfl (hb hby at_14) ?_
      show Steps p.tables e below (T2.setTop (mkF m 16 #[.val (.int p1), .val (.int ((p1 &&& (2147483647 : Int32)) % (10 : Int32))), .val (.ref w_ONE_AND_ONLY), .unset, .unset] [(.int (9 : Int32)), (.int ((p1 &&& (2147483647 : Int32)) % (10 : Int32)))])) _
      refine XS.icmpNo X2.here hx rfl (hb hby at_16) rfl (teq h9).2 ?_
      show Steps p.tables e below (T2.setTop (mkF m 19 #[.val (.int p1), .val (.int ((p1 &&& (2147483647 : Int32)) % (10 : Int32))), .val (.ref w_ONE_AND_ONLY), .unset, .unset] [])) _
      refine XS.iconst X2.here hx rfl (hb hby at_19) ?_
      show Steps p.tables e below (T2.setTop (mkF m 20 #[.val (.int p1), .val (.int ((p1 &&& (2147483647 : Int32)) % (10 : Int32))), .val (.ref w_ONE_AND_ONLY), .unset, .unset] [(.int (1 : Int32))])) _
      refine XS.goto X2.here hx rfl (pc0 := 20) (pc' := 24) rfl (hb hby at_20) (by decide) (by decide) ?_
      show Steps p.tables e below (T2.setTop (mkF m 24 #[.val (.int p1), .val (.int ((p1 &&& (2147483647 : Int32)) % (10 : Int32))), .val (.ref w_ONE_AND_ONLY), .unset, .unset] [(.int (1 : Int32))])) _
      refine XS.istoreN X2.here hx rfl (hb hby at_24) rfl (l' := #[.val (.int p1), .val (.int ((p1 &&& (2147483647 : Int32)) % (10 : Int32))), .val (.ref w_ONE_AND_ONLY), .val (.int (1 : Int32)), .unset]) rfl ?_
      show Steps p.tables e below (T2.setTop (mkF m 25 #[.val (.int p1), .val (.int ((p1 &&& (2147483647 : Int32)) % (10 : Int32))), .val (.ref w_ONE_AND_ONLY), .val (.int (1 : Int32)), .unset] [])) _
      refine XS.aloadN X2.here hx rfl (hb hby at_25) rfl rfl ?_
      exact k)
    obtain ⟨cq5, kq5, q5a, q5b, q5c⟩ := isOf hZ e2 (Exa.ext O0 E_ONE_AND_ONLY)
    obtain ⟨_, _, ⟨T5, L5, k5, n5⟩, -, X5, ⟨Lc5, hQ5, l5, y5, z5⟩, st5⟩ := X2.virtualBack hx (y := (⟨"com/example/usage_verdict/usageverdict/language/Function", "takesBags", "()Z"⟩ : MethodName)) (z := (⟨"com/example/usage_verdict/usageverdict/language/Function", "takesBags", "()Z"⟩ : MethodName)) hown (mvT hZ (hw _ (List.mem_of_getElem? (i := 8) rfl))) (mvT hZ (hw _ (List.mem_of_getElem? (i := 9) rfl))) (notFace_of_selects (args := #[]) (mvT hZ (hw _ (List.mem_of_getElem? (i := 11) rfl)))) (mvT hZ (hw _ (List.mem_of_getElem? (i := 11) rfl))) (mvT hZ (hw _ (List.mem_of_getElem? (i := 10) rfl))) (by decide) (backOf (W := 0) (rm_bags l Z a0 hw [] w_ONE_AND_ONLY w_EQUAL w_ONE_AND_ONLY w_ADD w_IN w_SUBTRACT w_GREATER_THAN_OR_EQUAL w_GREATER_THAN w_LESS_THAN_OR_EQUAL w_MULTIPLY w_DIVIDE h0 n0 Z0 O0 P') hZ (hw _ (List.mem_of_getElem? (i := 12) rfl)) (hw _ (List.mem_of_getElem? (i := 6) rfl)) (by decide) (by decide)) q5a q5c (g := (mkF m 26 #[.val (.int p1), .val (.int ((p1 &&& (2147483647 : Int32)) % (10 : Int32))), .val (.ref w_ONE_AND_ONLY), .val (.int (1 : Int32)), .unset] [(.ref w_ONE_AND_ONLY)])) rfl (by rw [hml]; rfl) (Steps.refl _) (argsL := []) (rest := []) (lenOf pd_1 rfl) rfl (by show 2 * 0 + _ ≤ _; exact Nat.le_of_eq rfl) (hb hby at_26) (fun _ _ => ⟨rfl, e2, (by decide : 0 + 0 ≤ _), (by decide : 0 + 0 ≤ _)⟩)
    dsimp only [Pt.U, Pt.locs, Pt.cells, Pt.slots] at X5 l5 y5 z5 st5 hQ5
    subst l5 y5 z5
    obtain ⟨hv5, N5q, e5⟩ := hQ5
    rw [if_pos rfl] at hv5
    subst hv5
    have N5 := Fr.app N2 N5q
    have pre6 : ∀ t, Steps p.tables e below (T5.setTop (mkF m 29 #[.val (.int p1), .val (.int ((p1 &&& (2147483647 : Int32)) % (10 : Int32))), .val (.ref w_ONE_AND_ONLY), .val (.int (1 : Int32)), .unset] [(.int (1 : Int32))])) t → Steps p.tables e below (s₁.setTop (entryFrame m #[(.int p1)] maxLocals)) t := fun t k => pre4 t (st5.trans k)
    have pre7 : ∀ t, Steps p.tables e below (T5.setTop (mkF m 45 #[.val (.int p1), .val (.int ((p1 &&& (2147483647 : Int32)) % (10 : Int32))), .val (.ref w_ONE_AND_ONLY), .val (.int (1 : Int32)), .val (.int (1 : Int32))] [(.ref w_ONE_AND_ONLY)])) t → Steps p.tables e below (s₁.setTop (entryFrame m #[(.int p1)] maxLocals)) t := fun t k => pre6 t (by
      show Steps p.tables e below (T5.setTop (mkF m 29 #[.val (.int p1), .val (.int ((p1 &&& (2147483647 : Int32)) % (10 : Int32))), .val (.ref w_ONE_AND_ONLY), .val (.int (1 : Int32)), .unset] [(.int (1 : Int32))])) _
      refine XS.istore X5.here hx rfl (hb hby at_29) rfl (l' := #[.val (.int p1), .val (.int ((p1 &&& (2147483647 : Int32)) % (10 : Int32))), .val (.ref w_ONE_AND_ONLY), .val (.int (1 : Int32)), .val (.int (1 : Int32))]) rfl ?_
      show Steps p.tables e below (T5.setTop (mkF m 31 #[.val (.int p1), .val (.int ((p1 &&& (2147483647 : Int32)) % (10 : Int32))), .val (.ref w_ONE_AND_ONLY), .val (.int (1 : Int32)), .val (.int (1 : Int32))] [])) _
      refine XS.iload X5.here hx rfl (hb hby at_31) rfl ?_
      show Steps p.tables e below (T5.setTop (mkF m 33 #[.val (.int p1), .val (.int ((p1 &&& (2147483647 : Int32)) % (10 : Int32))), .val (.ref w_ONE_AND_ONLY), .val (.int (1 : Int32)), .val (.int (1 : Int32))] [(.int (1 : Int32))])) _
      refine XS.iloadN X5.here hx rfl (hb hby at_33) rfl ?_
      show Steps p.tables e below (T5.setTop (mkF m 34 #[.val (.int p1), .val (.int ((p1 &&& (2147483647 : Int32)) % (10 : Int32))), .val (.ref w_ONE_AND_ONLY), .val (.int (1 : Int32)), .val (.int (1 : Int32))] [(.int (1 : Int32)), (.int (1 : Int32))])) _
      refine XS.icmpYes X5.here hx rfl (pc0 := 34) (pc' := 39) rfl (hb hby at_34) rfl (teq (by decide : (1 : Int32) = (1 : Int32))).1 (by decide) (by decide) ?_
      show Steps p.tables e below (T5.setTop (mkF m 39 #[.val (.int p1), .val (.int ((p1 &&& (2147483647 : Int32)) % (10 : Int32))), .val (.ref w_ONE_AND_ONLY), .val (.int (1 : Int32)), .val (.int (1 : Int32))] [])) _
      refine XS.iload X5.here hx rfl (hb hby at_39) rfl ?_
      show Steps p.tables e below (T5.setTop (mkF m 41 #[.val (.int p1), .val (.int ((p1 &&& (2147483647 : Int32)) % (10 : Int32))), .val (.ref w_ONE_AND_ONLY), .val (.int (1 : Int32)), .val (.int (1 : Int32))] [(.int (1 : Int32))])) _
      refine XS.ifNo X5.here hx rfl (hb hby at_41) rfl ((if0 _ _).trans (feq (by decide : ¬ ((1 : Int32) = (0 : Int32)))).1) ?_
      show Steps p.tables e below (T5.setTop (mkF m 44 #[.val (.int p1), .val (.int ((p1 &&& (2147483647 : Int32)) % (10 : Int32))), .val (.ref w_ONE_AND_ONLY), .val (.int (1 : Int32)), .val (.int (1 : Int32))] [])) _
      refine XS.aloadN X5.here hx rfl (hb hby at_44) rfl rfl ?_
      exact k)
    obtain ⟨cq8, kq8, q8a, q8b, q8c⟩ := isOf hZ e5 (Exa.ext O0 E_ONE_AND_ONLY)
    obtain ⟨_, _, ⟨T8, L8, k8, n8⟩, -, X8, ⟨Lc8, hQ8, l8, y8, z8⟩, st8⟩ := X5.virtualBack hx (y := (⟨"com/example/usage_verdict/usageverdict/language/Function", "arity", "()I"⟩ : MethodName)) (z := (⟨"com/example/usage_verdict/usageverdict/language/Function", "arity", "()I"⟩ : MethodName)) hown (mvT hZ (hw _ (List.mem_of_getElem? (i := 28) rfl))) (mvT hZ (hw _ (List.mem_of_getElem? (i := 29) rfl))) (notFace_of_selects (args := #[]) (mvT hZ (hw _ (List.mem_of_getElem? (i := 31) rfl)))) (mvT hZ (hw _ (List.mem_of_getElem? (i := 31) rfl))) (mvT hZ (hw _ (List.mem_of_getElem? (i := 30) rfl))) (by decide) (backOf (W := 0) (rm_arity l Z a0 hw [] w_ONE_AND_ONLY (1 : Int32) h0 n0 Z0 O0 (Fld.ext O0 F_arity_ONE_AND_ONLY)) hZ (hw _ (List.mem_of_getElem? (i := 32) rfl)) (hw _ (List.mem_of_getElem? (i := 6) rfl)) (by decide) (by decide)) q8a q8c (g := (mkF m 45 #[.val (.int p1), .val (.int ((p1 &&& (2147483647 : Int32)) % (10 : Int32))), .val (.ref w_ONE_AND_ONLY), .val (.int (1 : Int32)), .val (.int (1 : Int32))] [(.ref w_ONE_AND_ONLY)])) rfl (by rw [hml]; rfl) (Steps.refl _) (argsL := []) (rest := []) (lenOf pd_2 rfl) rfl (by show 2 * 0 + _ ≤ _; exact Nat.le_of_eq rfl) (hb hby at_45) (fun _ _ => ⟨rfl, e5, (by decide : 0 + 0 ≤ _), (by decide : 0 + 0 ≤ _)⟩)
    dsimp only [Pt.U, Pt.locs, Pt.cells, Pt.slots] at X8 l8 y8 z8 st8 hQ8
    subst l8 y8 z8
    obtain ⟨rfl, N8q, e8⟩ := hQ8
    have N8 := Fr.app N5 N8q
    have pre9 : ∀ t, Steps p.tables e below (T8.setTop (mkF m 48 #[.val (.int p1), .val (.int ((p1 &&& (2147483647 : Int32)) % (10 : Int32))), .val (.ref w_ONE_AND_ONLY), .val (.int (1 : Int32)), .val (.int (1 : Int32))] [(.int (1 : Int32))])) t → Steps p.tables e below (s₁.setTop (entryFrame m #[(.int p1)] maxLocals)) t := fun t k => pre7 t (st8.trans k)
    have pre10 : ∀ t, Steps p.tables e below (T8.setTop (mkF m 55 #[.val (.int p1), .val (.int ((p1 &&& (2147483647 : Int32)) % (10 : Int32))), .val (.ref w_ONE_AND_ONLY), .val (.int (1 : Int32)), .val (.int (1 : Int32))] [(.int (1 : Int32))])) t → Steps p.tables e below (s₁.setTop (entryFrame m #[(.int p1)] maxLocals)) t := fun t k => pre9 t (by
      show Steps p.tables e below (T8.setTop (mkF m 48 #[.val (.int p1), .val (.int ((p1 &&& (2147483647 : Int32)) % (10 : Int32))), .val (.ref w_ONE_AND_ONLY), .val (.int (1 : Int32)), .val (.int (1 : Int32))] [(.int (1 : Int32))])) _
      refine XS.iconst X8.here hx rfl (hb hby at_48) ?_
      show Steps p.tables e below (T8.setTop (mkF m 49 #[.val (.int p1), .val (.int ((p1 &&& (2147483647 : Int32)) % (10 : Int32))), .val (.ref w_ONE_AND_ONLY), .val (.int (1 : Int32)), .val (.int (1 : Int32))] [(.int (1 : Int32)), (.int (1 : Int32))])) _
      refine XS.icmpYes X8.here hx rfl (pc0 := 49) (pc' := 54) rfl (hb hby at_49) rfl (teq (by decide : (1 : Int32) = (1 : Int32))).1 (by decide) (by decide) ?_
      show Steps p.tables e below (T8.setTop (mkF m 54 #[.val (.int p1), .val (.int ((p1 &&& (2147483647 : Int32)) % (10 : Int32))), .val (.ref w_ONE_AND_ONLY), .val (.int (1 : Int32)), .val (.int (1 : Int32))] [])) _
      refine XS.iconst X8.here hx rfl (hb hby at_54) ?_
      exact k)
    obtain ⟨fs, hr, hrun, hended, hW, hsame⟩ := X8.leave (v := some (.int (1 : Int32))) (fun h => by rw [Bd.returns] at h; cases h)
    refine ⟨_, _, pre10 _ ?_, hrun, hended, _, _, rfl, ?_, ⟨_, rfl⟩, hW, hsame.mono (by decide) (by decide)⟩
    · exact retN X8 hx (t := .boolean) Bd.returns (by simp) (hb hby at_55) hr
    · show Q_rm_law Z p1 w_EQUAL w_ONE_AND_ONLY w_ADD w_IN w_SUBTRACT w_GREATER_THAN_OR_EQUAL w_GREATER_THAN w_LESS_THAN_OR_EQUAL w_MULTIPLY w_DIVIDE h0 n0 _ T8.heap _
      rw [e8]
      exact ⟨rfl, N8⟩
  · obtain ⟨_, _, ⟨T11, L11, k11, n11⟩, -, X11, ⟨Lc11, hQ11, l11, y11, z11⟩, st11⟩ := Jvm.LawKit.callS X0 hx (y := (⟨"com/example/usage_verdict/usageverdict/language/FunctionTakesBagsPinLaw", "pick", "(I)Lcom/example/usage_verdict/usageverdict/language/Function;"⟩ : MethodName)) hown (mvT hZ (hw _ (List.mem_of_getElem? (i := 1) rfl))) (mvT hZ (hw _ (List.mem_of_getElem? (i := 2) rfl))) (mvT hZ (hw _ (List.mem_of_getElem? (i := 3) rfl))) (mvT hZ (hw _ (List.mem_of_getElem? (i := 4) rfl))) (by decide) (backOf (W := 0) (rm_pick l Z a0 hw [] ((p1 &&& (2147483647 : Int32)) % (10 : Int32)) w_EQUAL w_ONE_AND_ONLY w_ADD w_IN w_SUBTRACT w_GREATER_THAN_OR_EQUAL w_GREATER_THAN w_LESS_THAN_OR_EQUAL w_MULTIPLY w_DIVIDE h0 n0 Z0 O0 P') hZ (hw _ (List.mem_of_getElem? (i := 4) rfl)) (hw _ (List.mem_of_getElem? (i := 3) rfl)) (by decide) (by decide)) (g := (mkF m 9 #[.val (.int p1), .val (.int ((p1 &&& (2147483647 : Int32)) % (10 : Int32))), .unset, .unset, .unset] [(.int ((p1 &&& (2147483647 : Int32)) % (10 : Int32)))])) rfl (by rw [hml]; rfl) (argsL := [(.int ((p1 &&& (2147483647 : Int32)) % (10 : Int32)))]) (rest := []) (lenOf pd_0 rfl) rfl (by show 2 * 0 + _ ≤ _; exact Nat.le_of_eq rfl) (hb hby at_9) (fun _ _ => ⟨rfl, e0, (by decide : 0 + 0 ≤ _), (by decide : 0 + 0 ≤ _)⟩)
    dsimp only [Pt.U, Pt.locs, Pt.cells, Pt.slots] at X11 l11 y11 z11 st11 hQ11
    subst l11 y11 z11
    obtain ⟨rfl, N11q, e11⟩ := hQ11
    have N11 := Fr.app N0 N11q
    have pre12 : ∀ t, Steps p.tables e below (T11.setTop (mkF m 12 #[.val (.int p1), .val (.int ((p1 &&& (2147483647 : Int32)) % (10 : Int32))), .unset, .unset, .unset] [(.ref (pickF ((p1 &&& (2147483647 : Int32)) % (10 : Int32)) w_EQUAL w_ONE_AND_ONLY w_ADD w_IN w_SUBTRACT w_GREATER_THAN_OR_EQUAL w_GREATER_THAN w_LESS_THAN_OR_EQUAL w_MULTIPLY w_DIVIDE))])) t → Steps p.tables e below (s₁.setTop (entryFrame m #[(.int p1)] maxLocals)) t := fun t k => pre1 t (st11 t k)
    have pre13 : ∀ t, Steps p.tables e below (T11.setTop (mkF m 26 #[.val (.int p1), .val (.int ((p1 &&& (2147483647 : Int32)) % (10 : Int32))), .val (.ref (pickF ((p1 &&& (2147483647 : Int32)) % (10 : Int32)) w_EQUAL w_ONE_AND_ONLY w_ADD w_IN w_SUBTRACT w_GREATER_THAN_OR_EQUAL w_GREATER_THAN w_LESS_THAN_OR_EQUAL w_MULTIPLY w_DIVIDE)), .val (.int (0 : Int32)), .unset] [(.ref (pickF ((p1 &&& (2147483647 : Int32)) % (10 : Int32)) w_EQUAL w_ONE_AND_ONLY w_ADD w_IN w_SUBTRACT w_GREATER_THAN_OR_EQUAL w_GREATER_THAN w_LESS_THAN_OR_EQUAL w_MULTIPLY w_DIVIDE))])) t → Steps p.tables e below (s₁.setTop (entryFrame m #[(.int p1)] maxLocals)) t := fun t k => pre12 t (by
      show Steps p.tables e below (T11.setTop (mkF m 12 #[.val (.int p1), .val (.int ((p1 &&& (2147483647 : Int32)) % (10 : Int32))), .unset, .unset, .unset] [(.ref (pickF ((p1 &&& (2147483647 : Int32)) % (10 : Int32)) w_EQUAL w_ONE_AND_ONLY w_ADD w_IN w_SUBTRACT w_GREATER_THAN_OR_EQUAL w_GREATER_THAN w_LESS_THAN_OR_EQUAL w_MULTIPLY w_DIVIDE))])) _
      refine XS.astoreN X11.here hx rfl (hb hby at_12) rfl rfl (l' := #[.val (.int p1), .val (.int ((p1 &&& (2147483647 : Int32)) % (10 : Int32))), .val (.ref (pickF ((p1 &&& (2147483647 : Int32)) % (10 : Int32)) w_EQUAL w_ONE_AND_ONLY w_ADD w_IN w_SUBTRACT w_GREATER_THAN_OR_EQUAL w_GREATER_THAN w_LESS_THAN_OR_EQUAL w_MULTIPLY w_DIVIDE)), .unset, .unset]) rfl ?_
      show Steps p.tables e below (T11.setTop (mkF m 13 #[.val (.int p1), .val (.int ((p1 &&& (2147483647 : Int32)) % (10 : Int32))), .val (.ref (pickF ((p1 &&& (2147483647 : Int32)) % (10 : Int32)) w_EQUAL w_ONE_AND_ONLY w_ADD w_IN w_SUBTRACT w_GREATER_THAN_OR_EQUAL w_GREATER_THAN w_LESS_THAN_OR_EQUAL w_MULTIPLY w_DIVIDE)), .unset, .unset] [])) _
      refine XS.iloadN X11.here hx rfl (hb hby at_13) rfl ?_
      show Steps p.tables e below (T11.setTop (mkF m 14 #[.val (.int p1), .val (.int ((p1 &&& (2147483647 : Int32)) % (10 : Int32))), .val (.ref (pickF ((p1 &&& (2147483647 : Int32)) % (10 : Int32)) w_EQUAL w_ONE_AND_ONLY w_ADD w_IN w_SUBTRACT w_GREATER_THAN_OR_EQUAL w_GREATER_THAN w_LESS_THAN_OR_EQUAL w_MULTIPLY w_DIVIDE)), .unset, .unset] [(.int ((p1 &&& (2147483647 : Int32)) % (10 : Int32)))])) _
      refine XS.bipush X11.here hx rfl (hb hby at_14) ?_
      show Steps p.tables e below (T11.setTop (mkF m 16 #[.val (.int p1), .val (.int ((p1 &&& (2147483647 : Int32)) % (10 : Int32))), .val (.ref (pickF ((p1 &&& (2147483647 : Int32)) % (10 : Int32)) w_EQUAL w_ONE_AND_ONLY w_ADD w_IN w_SUBTRACT w_GREATER_THAN_OR_EQUAL w_GREATER_THAN w_LESS_THAN_OR_EQUAL w_MULTIPLY w_DIVIDE)), .unset, .unset] [(.int (9 : Int32)), (.int ((p1 &&& (2147483647 : Int32)) % (10 : Int32)))])) _
      refine XS.icmpYes X11.here hx rfl (pc0 := 16) (pc' := 23) rfl (hb hby at_16) rfl (feq h9).2 (by decide) (by decide) ?_
      show Steps p.tables e below (T11.setTop (mkF m 23 #[.val (.int p1), .val (.int ((p1 &&& (2147483647 : Int32)) % (10 : Int32))), .val (.ref (pickF ((p1 &&& (2147483647 : Int32)) % (10 : Int32)) w_EQUAL w_ONE_AND_ONLY w_ADD w_IN w_SUBTRACT w_GREATER_THAN_OR_EQUAL w_GREATER_THAN w_LESS_THAN_OR_EQUAL w_MULTIPLY w_DIVIDE)), .unset, .unset] [])) _
      refine XS.iconst X11.here hx rfl (hb hby at_23) ?_
      show Steps p.tables e below (T11.setTop (mkF m 24 #[.val (.int p1), .val (.int ((p1 &&& (2147483647 : Int32)) % (10 : Int32))), .val (.ref (pickF ((p1 &&& (2147483647 : Int32)) % (10 : Int32)) w_EQUAL w_ONE_AND_ONLY w_ADD w_IN w_SUBTRACT w_GREATER_THAN_OR_EQUAL w_GREATER_THAN w_LESS_THAN_OR_EQUAL w_MULTIPLY w_DIVIDE)), .unset, .unset] [(.int (0 : Int32))])) _
      refine XS.istoreN X11.here hx rfl (hb hby at_24) rfl (l' := #[.val (.int p1), .val (.int ((p1 &&& (2147483647 : Int32)) % (10 : Int32))), .val (.ref (pickF ((p1 &&& (2147483647 : Int32)) % (10 : Int32)) w_EQUAL w_ONE_AND_ONLY w_ADD w_IN w_SUBTRACT w_GREATER_THAN_OR_EQUAL w_GREATER_THAN w_LESS_THAN_OR_EQUAL w_MULTIPLY w_DIVIDE)), .val (.int (0 : Int32)), .unset]) rfl ?_
      show Steps p.tables e below (T11.setTop (mkF m 25 #[.val (.int p1), .val (.int ((p1 &&& (2147483647 : Int32)) % (10 : Int32))), .val (.ref (pickF ((p1 &&& (2147483647 : Int32)) % (10 : Int32)) w_EQUAL w_ONE_AND_ONLY w_ADD w_IN w_SUBTRACT w_GREATER_THAN_OR_EQUAL w_GREATER_THAN w_LESS_THAN_OR_EQUAL w_MULTIPLY w_DIVIDE)), .val (.int (0 : Int32)), .unset] [])) _
      refine XS.aloadN X11.here hx rfl (hb hby at_25) rfl rfl ?_
      exact k)
    obtain ⟨cq14, kq14, q14a, q14b, q14c⟩ := isOf hZ e11 (Exa.ext O0 (own_exa P' _))
    obtain ⟨_, _, ⟨T14, L14, k14, n14⟩, -, X14, ⟨Lc14, hQ14, l14, y14, z14⟩, st14⟩ := X11.virtualBack hx (y := (⟨"com/example/usage_verdict/usageverdict/language/Function", "takesBags", "()Z"⟩ : MethodName)) (z := (⟨"com/example/usage_verdict/usageverdict/language/Function", "takesBags", "()Z"⟩ : MethodName)) hown (mvT hZ (hw _ (List.mem_of_getElem? (i := 8) rfl))) (mvT hZ (hw _ (List.mem_of_getElem? (i := 9) rfl))) (notFace_of_selects (args := #[]) (mvT hZ (hw _ (List.mem_of_getElem? (i := 11) rfl)))) (mvT hZ (hw _ (List.mem_of_getElem? (i := 11) rfl))) (mvT hZ (hw _ (List.mem_of_getElem? (i := 10) rfl))) (by decide) (backOf (W := 0) (rm_bags l Z a0 hw [] (pickF ((p1 &&& (2147483647 : Int32)) % (10 : Int32)) w_EQUAL w_ONE_AND_ONLY w_ADD w_IN w_SUBTRACT w_GREATER_THAN_OR_EQUAL w_GREATER_THAN w_LESS_THAN_OR_EQUAL w_MULTIPLY w_DIVIDE) w_EQUAL w_ONE_AND_ONLY w_ADD w_IN w_SUBTRACT w_GREATER_THAN_OR_EQUAL w_GREATER_THAN w_LESS_THAN_OR_EQUAL w_MULTIPLY w_DIVIDE h0 n0 Z0 O0 P') hZ (hw _ (List.mem_of_getElem? (i := 12) rfl)) (hw _ (List.mem_of_getElem? (i := 6) rfl)) (by decide) (by decide)) q14a q14c (g := (mkF m 26 #[.val (.int p1), .val (.int ((p1 &&& (2147483647 : Int32)) % (10 : Int32))), .val (.ref (pickF ((p1 &&& (2147483647 : Int32)) % (10 : Int32)) w_EQUAL w_ONE_AND_ONLY w_ADD w_IN w_SUBTRACT w_GREATER_THAN_OR_EQUAL w_GREATER_THAN w_LESS_THAN_OR_EQUAL w_MULTIPLY w_DIVIDE)), .val (.int (0 : Int32)), .unset] [(.ref (pickF ((p1 &&& (2147483647 : Int32)) % (10 : Int32)) w_EQUAL w_ONE_AND_ONLY w_ADD w_IN w_SUBTRACT w_GREATER_THAN_OR_EQUAL w_GREATER_THAN w_LESS_THAN_OR_EQUAL w_MULTIPLY w_DIVIDE))])) rfl (by rw [hml]; rfl) (Steps.refl _) (argsL := []) (rest := []) (lenOf pd_1 rfl) rfl (by show 2 * 0 + _ ≤ _; exact Nat.le_of_eq rfl) (hb hby at_26) (fun _ _ => ⟨rfl, e11, (by decide : 0 + 0 ≤ _), (by decide : 0 + 0 ≤ _)⟩)
    dsimp only [Pt.U, Pt.locs, Pt.cells, Pt.slots] at X14 l14 y14 z14 st14 hQ14
    subst l14 y14 z14
    obtain ⟨hv14, N14q, e14⟩ := hQ14
    rw [if_neg (own_not9 P' p1 h9)] at hv14
    subst hv14
    have N14 := Fr.app N11 N14q
    have pre15 : ∀ t, Steps p.tables e below (T14.setTop (mkF m 29 #[.val (.int p1), .val (.int ((p1 &&& (2147483647 : Int32)) % (10 : Int32))), .val (.ref (pickF ((p1 &&& (2147483647 : Int32)) % (10 : Int32)) w_EQUAL w_ONE_AND_ONLY w_ADD w_IN w_SUBTRACT w_GREATER_THAN_OR_EQUAL w_GREATER_THAN w_LESS_THAN_OR_EQUAL w_MULTIPLY w_DIVIDE)), .val (.int (0 : Int32)), .unset] [(.int (0 : Int32))])) t → Steps p.tables e below (s₁.setTop (entryFrame m #[(.int p1)] maxLocals)) t := fun t k => pre13 t (st14.trans k)
    have pre16 : ∀ t, Steps p.tables e below (T14.setTop (mkF m 55 #[.val (.int p1), .val (.int ((p1 &&& (2147483647 : Int32)) % (10 : Int32))), .val (.ref (pickF ((p1 &&& (2147483647 : Int32)) % (10 : Int32)) w_EQUAL w_ONE_AND_ONLY w_ADD w_IN w_SUBTRACT w_GREATER_THAN_OR_EQUAL w_GREATER_THAN w_LESS_THAN_OR_EQUAL w_MULTIPLY w_DIVIDE)), .val (.int (0 : Int32)), .val (.int (0 : Int32))] [(.int (1 : Int32))])) t → Steps p.tables e below (s₁.setTop (entryFrame m #[(.int p1)] maxLocals)) t := fun t k => pre15 t (by
      show Steps p.tables e below (T14.setTop (mkF m 29 #[.val (.int p1), .val (.int ((p1 &&& (2147483647 : Int32)) % (10 : Int32))), .val (.ref (pickF ((p1 &&& (2147483647 : Int32)) % (10 : Int32)) w_EQUAL w_ONE_AND_ONLY w_ADD w_IN w_SUBTRACT w_GREATER_THAN_OR_EQUAL w_GREATER_THAN w_LESS_THAN_OR_EQUAL w_MULTIPLY w_DIVIDE)), .val (.int (0 : Int32)), .unset] [(.int (0 : Int32))])) _
      refine XS.istore X14.here hx rfl (hb hby at_29) rfl (l' := #[.val (.int p1), .val (.int ((p1 &&& (2147483647 : Int32)) % (10 : Int32))), .val (.ref (pickF ((p1 &&& (2147483647 : Int32)) % (10 : Int32)) w_EQUAL w_ONE_AND_ONLY w_ADD w_IN w_SUBTRACT w_GREATER_THAN_OR_EQUAL w_GREATER_THAN w_LESS_THAN_OR_EQUAL w_MULTIPLY w_DIVIDE)), .val (.int (0 : Int32)), .val (.int (0 : Int32))]) rfl ?_
      show Steps p.tables e below (T14.setTop (mkF m 31 #[.val (.int p1), .val (.int ((p1 &&& (2147483647 : Int32)) % (10 : Int32))), .val (.ref (pickF ((p1 &&& (2147483647 : Int32)) % (10 : Int32)) w_EQUAL w_ONE_AND_ONLY w_ADD w_IN w_SUBTRACT w_GREATER_THAN_OR_EQUAL w_GREATER_THAN w_LESS_THAN_OR_EQUAL w_MULTIPLY w_DIVIDE)), .val (.int (0 : Int32)), .val (.int (0 : Int32))] [])) _
      refine XS.iload X14.here hx rfl (hb hby at_31) rfl ?_
      show Steps p.tables e below (T14.setTop (mkF m 33 #[.val (.int p1), .val (.int ((p1 &&& (2147483647 : Int32)) % (10 : Int32))), .val (.ref (pickF ((p1 &&& (2147483647 : Int32)) % (10 : Int32)) w_EQUAL w_ONE_AND_ONLY w_ADD w_IN w_SUBTRACT w_GREATER_THAN_OR_EQUAL w_GREATER_THAN w_LESS_THAN_OR_EQUAL w_MULTIPLY w_DIVIDE)), .val (.int (0 : Int32)), .val (.int (0 : Int32))] [(.int (0 : Int32))])) _
      refine XS.iloadN X14.here hx rfl (hb hby at_33) rfl ?_
      show Steps p.tables e below (T14.setTop (mkF m 34 #[.val (.int p1), .val (.int ((p1 &&& (2147483647 : Int32)) % (10 : Int32))), .val (.ref (pickF ((p1 &&& (2147483647 : Int32)) % (10 : Int32)) w_EQUAL w_ONE_AND_ONLY w_ADD w_IN w_SUBTRACT w_GREATER_THAN_OR_EQUAL w_GREATER_THAN w_LESS_THAN_OR_EQUAL w_MULTIPLY w_DIVIDE)), .val (.int (0 : Int32)), .val (.int (0 : Int32))] [(.int (0 : Int32)), (.int (0 : Int32))])) _
      refine XS.icmpYes X14.here hx rfl (pc0 := 34) (pc' := 39) rfl (hb hby at_34) rfl (teq (by decide : (0 : Int32) = (0 : Int32))).1 (by decide) (by decide) ?_
      show Steps p.tables e below (T14.setTop (mkF m 39 #[.val (.int p1), .val (.int ((p1 &&& (2147483647 : Int32)) % (10 : Int32))), .val (.ref (pickF ((p1 &&& (2147483647 : Int32)) % (10 : Int32)) w_EQUAL w_ONE_AND_ONLY w_ADD w_IN w_SUBTRACT w_GREATER_THAN_OR_EQUAL w_GREATER_THAN w_LESS_THAN_OR_EQUAL w_MULTIPLY w_DIVIDE)), .val (.int (0 : Int32)), .val (.int (0 : Int32))] [])) _
      refine XS.iload X14.here hx rfl (hb hby at_39) rfl ?_
      show Steps p.tables e below (T14.setTop (mkF m 41 #[.val (.int p1), .val (.int ((p1 &&& (2147483647 : Int32)) % (10 : Int32))), .val (.ref (pickF ((p1 &&& (2147483647 : Int32)) % (10 : Int32)) w_EQUAL w_ONE_AND_ONLY w_ADD w_IN w_SUBTRACT w_GREATER_THAN_OR_EQUAL w_GREATER_THAN w_LESS_THAN_OR_EQUAL w_MULTIPLY w_DIVIDE)), .val (.int (0 : Int32)), .val (.int (0 : Int32))] [(.int (0 : Int32))])) _
      refine XS.ifYes X14.here hx rfl (pc0 := 41) (pc' := 54) rfl (hb hby at_41) rfl ((if0 _ _).trans (teq (by decide : (0 : Int32) = (0 : Int32))).1) (by decide) (by decide) ?_
      show Steps p.tables e below (T14.setTop (mkF m 54 #[.val (.int p1), .val (.int ((p1 &&& (2147483647 : Int32)) % (10 : Int32))), .val (.ref (pickF ((p1 &&& (2147483647 : Int32)) % (10 : Int32)) w_EQUAL w_ONE_AND_ONLY w_ADD w_IN w_SUBTRACT w_GREATER_THAN_OR_EQUAL w_GREATER_THAN w_LESS_THAN_OR_EQUAL w_MULTIPLY w_DIVIDE)), .val (.int (0 : Int32)), .val (.int (0 : Int32))] [])) _
      refine XS.iconst X14.here hx rfl (hb hby at_54) ?_
      exact k)
    obtain ⟨fs, hr, hrun, hended, hW, hsame⟩ := X14.leave (v := some (.int (1 : Int32))) (fun h => by rw [Bd.returns] at h; cases h)
    refine ⟨_, _, pre16 _ ?_, hrun, hended, _, _, rfl, ?_, ⟨_, rfl⟩, hW, hsame.mono (by decide) (by decide)⟩
    · exact retN X14 hx (t := .boolean) Bd.returns (by simp) (hb hby at_55) hr
    · show Q_rm_law Z p1 w_EQUAL w_ONE_AND_ONLY w_ADD w_IN w_SUBTRACT w_GREATER_THAN_OR_EQUAL w_GREATER_THAN w_LESS_THAN_OR_EQUAL w_MULTIPLY w_DIVIDE h0 n0 _ T14.heap _
      rw [e14]
      exact ⟨rfl, N14⟩
set_option maxRecDepth 65536 in
set_option maxHeartbeats 40000000 in
theorem comes_1 {Post : Tables → Env → Array Value → State → Outcome → State → Prop} (hpost : ∀ tb e args s v u, (limb_1_1.after args s (.returned v) u = true ∧ limb_1_2.after args s (.returned v) u = true ∧ True) → FrameEnd s (.returned v) u (Jvm.fieldLocs frame_1_writes args s ++ Jvm.arrayLocs frame_1_arrays args s ++ Jvm.staticLocs frame_1_statics s) 0 0 → Post tb e args s (.returned v) u) :
    ArmFor flags0 classFile x code maxLocals ret World_1 tables_1 room_1 Calls_1 rest_1 Pre_1 Post := by
  intro l hfl _ _ p e ha hc hk s m args below hf hA hF happ hP0
  obtain ⟨hcalls, hrest, hpre⟩ := hP0
  obtain ⟨-, -, -, hnamed, -, -, -, hat⟩ := (Spec.applies_iff hf).mp happ
  obtain ⟨hg, hn⟩ := and_e (Cond.before_iff.mp (show (Jvm.Cond.and given_1 narrow_1).before args s = true from hpre))
  obtain ⟨g0a, g0b⟩ := and_e hg
  obtain ⟨w0, rfl⟩ : ∃ w0 : Value, args = #[w0] := by
    have hs : args.size = 1 := by simpa [Cond.value, given_1] using g0a
    obtain ⟨L⟩ := args
    match L, hs with
    | [w0], _ => exact ⟨w0, rfl⟩
  have hw := fun d (hd : d ∈ tables_1) => atoms_spec (ws := Jvm.Cond.code x code maxLocals ret :: tables_1) hat d (List.mem_cons_of_mem _ hd)
  have hfit : Fit s := fun {y c} hc i hi => by
    obtain ⟨ha, rfl⟩ := Array.getElem?_eq_some_iff.mp hc
    have q := List.all_eq_true.mp ((Array.all_eq_true_iff_forall_mem.mp hF) _ (Array.getElem_mem ha)) i (List.mem_range.mpr hi)
    simpa [Array.getElem?_eq_getElem hi] using q
  obtain ⟨i0, ei0⟩ := is_v g0b
  obtain rfl : w0 = (.int i0) := Option.some.inj ei0
  have hn' := hn
  obtain ⟨na0, nb0⟩ := and_e hn
  obtain ⟨na1, nb1⟩ := and_e nb0
  obtain ⟨na2, nb2⟩ := and_e nb1
  obtain ⟨na3, nb3⟩ := and_e nb2
  obtain ⟨na4, nb4⟩ := and_e nb3
  obtain ⟨na5, nb5⟩ := and_e nb4
  obtain ⟨na6, nb6⟩ := and_e nb5
  obtain ⟨na7, nb7⟩ := and_e nb6
  obtain ⟨na8, nb8⟩ := and_e nb7
  obtain ⟨na9, nb9⟩ := and_e nb8
  obtain ⟨na10, nb10⟩ := and_e nb9
  obtain ⟨na11, nb11⟩ := and_e nb10
  obtain ⟨na12, nb12⟩ := and_e nb11
  obtain ⟨na13, nb13⟩ := and_e nb12
  obtain ⟨na14, nb14⟩ := and_e nb13
  obtain ⟨na15, nb15⟩ := and_e nb14
  obtain ⟨na16, nb16⟩ := and_e nb15
  obtain ⟨na17, nb17⟩ := and_e nb16
  obtain ⟨na18, nb18⟩ := and_e nb17
  obtain ⟨na19, nb19⟩ := and_e nb18
  obtain ⟨na20, nb20⟩ := and_e nb19
  obtain ⟨na21, nb21⟩ := and_e nb20
  obtain ⟨na22, nb22⟩ := and_e nb21
  obtain ⟨na23, nb23⟩ := and_e nb22
  obtain ⟨na24, nb24⟩ := and_e nb23
  obtain ⟨na25, nb25⟩ := and_e nb24
  obtain ⟨na26, nb26⟩ := and_e nb25
  obtain ⟨na27, nb27⟩ := and_e nb26
  obtain ⟨na28, nb28⟩ := and_e nb27
  obtain ⟨w_EQUAL, ev_EQUAL, E_EQUAL⟩ := own_pin na0
  have S_EQUAL := Sta.start ev_EQUAL (Or.inr ⟨(hw _ (List.mem_of_getElem? (i := 6) rfl)), (hw _ (List.mem_of_getElem? (i := 7) rfl))⟩)
  obtain ⟨w_ONE_AND_ONLY, ev_ONE_AND_ONLY, E_ONE_AND_ONLY⟩ := own_pin na1
  have S_ONE_AND_ONLY := Sta.start ev_ONE_AND_ONLY (Or.inr ⟨(hw _ (List.mem_of_getElem? (i := 6) rfl)), (hw _ (List.mem_of_getElem? (i := 14) rfl))⟩)
  obtain ⟨w_ADD, ev_ADD, E_ADD⟩ := own_pin na4
  have S_ADD := Sta.start ev_ADD (Or.inr ⟨(hw _ (List.mem_of_getElem? (i := 6) rfl)), (hw _ (List.mem_of_getElem? (i := 16) rfl))⟩)
  obtain ⟨w_IN, ev_IN, E_IN⟩ := own_pin na6
  have S_IN := Sta.start ev_IN (Or.inr ⟨(hw _ (List.mem_of_getElem? (i := 6) rfl)), (hw _ (List.mem_of_getElem? (i := 18) rfl))⟩)
  obtain ⟨w_SUBTRACT, ev_SUBTRACT, E_SUBTRACT⟩ := own_pin na8
  have S_SUBTRACT := Sta.start ev_SUBTRACT (Or.inr ⟨(hw _ (List.mem_of_getElem? (i := 6) rfl)), (hw _ (List.mem_of_getElem? (i := 20) rfl))⟩)
  obtain ⟨w_GREATER_THAN_OR_EQUAL, ev_GREATER_THAN_OR_EQUAL, E_GREATER_THAN_OR_EQUAL⟩ := own_pin na10
  have S_GREATER_THAN_OR_EQUAL := Sta.start ev_GREATER_THAN_OR_EQUAL (Or.inr ⟨(hw _ (List.mem_of_getElem? (i := 6) rfl)), (hw _ (List.mem_of_getElem? (i := 22) rfl))⟩)
  obtain ⟨w_GREATER_THAN, ev_GREATER_THAN, E_GREATER_THAN⟩ := own_pin na12
  have S_GREATER_THAN := Sta.start ev_GREATER_THAN (Or.inr ⟨(hw _ (List.mem_of_getElem? (i := 6) rfl)), (hw _ (List.mem_of_getElem? (i := 24) rfl))⟩)
  obtain ⟨w_LESS_THAN_OR_EQUAL, ev_LESS_THAN_OR_EQUAL, E_LESS_THAN_OR_EQUAL⟩ := own_pin na14
  have S_LESS_THAN_OR_EQUAL := Sta.start ev_LESS_THAN_OR_EQUAL (Or.inr ⟨(hw _ (List.mem_of_getElem? (i := 6) rfl)), (hw _ (List.mem_of_getElem? (i := 26) rfl))⟩)
  obtain ⟨w_MULTIPLY, ev_MULTIPLY, E_MULTIPLY⟩ := own_pin na17
  have S_MULTIPLY := Sta.start ev_MULTIPLY (Or.inr ⟨(hw _ (List.mem_of_getElem? (i := 6) rfl)), (hw _ (List.mem_of_getElem? (i := 36) rfl))⟩)
  obtain ⟨w_DIVIDE, ev_DIVIDE, E_DIVIDE⟩ := own_pin na19
  have S_DIVIDE := Sta.start ev_DIVIDE (Or.inr ⟨(hw _ (List.mem_of_getElem? (i := 6) rfl)), (hw _ (List.mem_of_getElem? (i := 38) rfl))⟩)
  have F_ordinal_EQUAL := own_fld ev_EQUAL na2
  have F_ordinal_ONE_AND_ONLY := own_fld ev_ONE_AND_ONLY na3
  have F_ordinal_ADD := own_fld ev_ADD na5
  have F_ordinal_IN := own_fld ev_IN na7
  have F_ordinal_SUBTRACT := own_fld ev_SUBTRACT na9
  have F_ordinal_GREATER_THAN_OR_EQUAL := own_fld ev_GREATER_THAN_OR_EQUAL na11
  have F_ordinal_GREATER_THAN := own_fld ev_GREATER_THAN na13
  have F_ordinal_LESS_THAN_OR_EQUAL := own_fld ev_LESS_THAN_OR_EQUAL na15
  have F_arity_ONE_AND_ONLY := own_fld ev_ONE_AND_ONLY na16
  have F_ordinal_MULTIPLY := own_fld ev_MULTIPLY na18
  have F_ordinal_DIVIDE := own_fld ev_DIVIDE na20
  have F_arity_EQUAL := own_fld ev_EQUAL na21
  have F_arity_ADD := own_fld ev_ADD na22
  have F_arity_IN := own_fld ev_IN na23
  have F_arity_SUBTRACT := own_fld ev_SUBTRACT na24
  have F_arity_GREATER_THAN_OR_EQUAL := own_fld ev_GREATER_THAN_OR_EQUAL na25
  have F_arity_GREATER_THAN := own_fld ev_GREATER_THAN na26
  have F_arity_LESS_THAN_OR_EQUAL := own_fld ev_LESS_THAN_OR_EQUAL na27
  have F_arity_MULTIPLY := own_fld ev_MULTIPLY na28
  have F_arity_DIVIDE := own_fld ev_DIVIDE nb28
  have hP : Pins s w_EQUAL w_ONE_AND_ONLY w_ADD w_IN w_SUBTRACT w_GREATER_THAN_OR_EQUAL w_GREATER_THAN w_LESS_THAN_OR_EQUAL w_MULTIPLY w_DIVIDE := ⟨S_EQUAL, S_ONE_AND_ONLY, S_ADD, S_IN, S_SUBTRACT, S_GREATER_THAN_OR_EQUAL, S_GREATER_THAN, S_LESS_THAN_OR_EQUAL, S_MULTIPLY, S_DIVIDE, E_EQUAL, E_ONE_AND_ONLY, E_ADD, E_IN, E_SUBTRACT, E_GREATER_THAN_OR_EQUAL, E_GREATER_THAN, E_LESS_THAN_OR_EQUAL, E_MULTIPLY, E_DIVIDE, F_ordinal_EQUAL, F_ordinal_ONE_AND_ONLY, F_ordinal_ADD, F_ordinal_IN, F_ordinal_SUBTRACT, F_ordinal_GREATER_THAN_OR_EQUAL, F_ordinal_GREATER_THAN, F_ordinal_LESS_THAN_OR_EQUAL, F_arity_ONE_AND_ONLY, F_ordinal_MULTIPLY, F_ordinal_DIVIDE, F_arity_EQUAL, F_arity_ADD, F_arity_IN, F_arity_SUBTRACT, F_arity_GREATER_THAN_OR_EQUAL, F_arity_GREATER_THAN, F_arity_LESS_THAN_OR_EQUAL, F_arity_MULTIPLY, F_arity_DIVIDE⟩
  obtain ⟨n, o, h1, h2, h3, _, L, rfl, ⟨rfl, N⟩, hq⟩ := rm_law l s _ hw tables_1 i0 w_EQUAL w_ONE_AND_ONLY w_ADD w_IN w_SUBTRACT w_GREATER_THAN_OR_EQUAL w_GREATER_THAN w_LESS_THAN_OR_EQUAL w_MULTIPLY w_DIVIDE s.heap s.heap.size (Nat.le_refl _) (own_ext_refl _) hP p e ha hc hk s m _ below hf ((Spec.applies_iff_loose hf).mp happ).1 ⟨rfl, State.Warmed39.refl s, rfl⟩ trivial
  refine ⟨n, _, h1, h2, h3, hpost _ _ _ _ _ _ ⟨Cond.after_iff.mpr rfl, Cond.after_iff.mpr (eq_i res_at (Term.int_eval (1)) rfl), trivial⟩ ⟨hq.1, hq.2.1, (hq.2.2.sift fun y hy => Or.inr (N y hy)).mono (by decide) (by decide)⟩⟩
theorem main_1_1 : Claimed_1_1 := comes_1 fun _ _ _ _ _ _ h hF => ⟨h.1, hF⟩
theorem main_1_2 : Claimed_1_2 := comes_1 fun _ _ _ _ _ _ h hF => ⟨h.2.1, hF⟩
end Jvm.Pilot.@@N@@
namespace Jvm.Pilot.@@N@@
open Jvm Jvm.ClassFile Sem Op Lib Jvm.Free Jvm.Stand Jvm.Pilot.@@N@@.Jvm.D
/-! MADE BY PROGRAM (witnessworld.py) out of the Statement's table words and the real class files: 12 classes; the members and pool entries that the words name. The judged class is class 1, her method 2. -/
namespace start1
open Jvm.ClassFile
def u (s : String) : CpInfo := .utf8 (stringToUtf16 s)
/-- a pool by its gaps: so many unusable entries, then the entry; so many at the end -/
def gap : Nat → List CpInfo → List CpInfo
  | 0, r => r
  | n + 1, r => .unusable :: gap n r
def poolList (es : List (Nat × CpInfo)) (last : Nat) : List CpInfo := es.foldr (fun e r => gap e.1 (e.2 :: r)) (gap last [])
def pool (es : List (Nat × CpInfo)) (last : Nat) : Array CpInfo := ⟨poolList es last⟩
def fileOf (pool : Array CpInfo) (this : Nat) (attrs : Array Attribute := #[]) (ms : Array MethodInfo := #[]) (fl : Nat := 33) (sup : Nat := 0) (ifs : Array Nat := #[]) (fds : Array FieldInfo := #[]) : ClassFile where
  minorVersion := 0
  majorVersion := 65
  constantPool := pool
  accessFlags := fl
  thisClass := this
  superClass := sup
  interfaces := ifs
  fields := fds
  methods := ms
  attributes := attrs
def plain (name : String) (sup : Option ClassId) : Class where
  name := name
  kind := .ordinary
  loader := none
  accessFlags := 33
  super := sup
  interfaces := #[]
  cf := none
  fields := #[]
  methods := #[]
  instanceTypes := #[]
  staticTypes := #[]
  resolved := #[]
  callSites := []
  init := .initialized
  statics := none
  mirror := none

def pool0 : Array CpInfo := pool [(5, u "<init>"), (0, u "()V"), (1, .class_ 10), (1, u "java/lang/Object")] 113

def k0m0 : Method := { name := "<init>", desc := "()V", sig := { parameters := [], returnType := none }, accessFlags := 1, code := none }
/-- java/lang/Object -/
def k0 : Class := { plain "java/lang/Object" none with
  accessFlags := 33
  interfaces := #[]
  cf := some (fileOf pool0 8 #[] #[{ accessFlags := 1, nameIndex := 5, descriptorIndex := 6, attributes := #[] }] 33 0 #[] #[])
  fields := #[]
  methods := #[k0m0]
  instanceTypes := #[]
  staticTypes := #[]
  resolved := Array.replicate 124 none
  statics := none }

def pool1 : Array CpInfo := pool [(2, .class_ 4), (1, u "java/lang/Object"), (0, u "<init>"), (0, u "()V"), (0, .fieldref 8 9), (0, .class_ 10), (0, .nameAndType 11 12), (0, u "com/example/usage_verdict/usageverdict/language/Function"), (0, u "EQUAL"), (0, u "Lcom/example/usage_verdict/usageverdict/language/Function;"), (0, .fieldref 8 14), (0, .nameAndType 15 12), (0, u "IN"), (0, .fieldref 8 17), (0, .nameAndType 18 12), (0, u "GREATER_THAN"), (0, .fieldref 8 20), (0, .nameAndType 21 12), (0, u "ADD"), (0, .fieldref 8 23), (0, .nameAndType 24 12), (0, u "SUBTRACT"), (0, .fieldref 8 26), (0, .nameAndType 27 12), (0, u "MULTIPLY"), (0, .fieldref 8 29), (0, .nameAndType 30 12), (0, u "DIVIDE"), (0, .fieldref 8 32), (0, .nameAndType 33 12), (0, u "GREATER_THAN_OR_EQUAL"), (0, .fieldref 8 35), (0, .nameAndType 36 12), (0, u "LESS_THAN_OR_EQUAL"), (0, .fieldref 8 38), (0, .nameAndType 39 12), (0, u "ONE_AND_ONLY"), (0, .integer 2147483647), (0, .methodref 42 43), (0, .class_ 44), (0, .nameAndType 45 46), (0, u "com/example/usage_verdict/usageverdict/language/FunctionTakesBagsPinLaw"), (0, u "pick"), (0, u "(I)Lcom/example/usage_verdict/usageverdict/language/Function;"), (0, .methodref 8 48), (0, .nameAndType 49 50), (0, u "takesBags"), (0, u "()Z"), (0, .methodref 8 52), (0, .nameAndType 53 54), (0, u "arity"), (0, u "()I"), (3, u "law"), (0, u "(I)Z")] 2

def k1m0 : Method := { name := "<init>", desc := "()V", sig := { parameters := [], returnType := none }, accessFlags := 1, code := none }
def k1c1 : Code := { maxStack := 2, maxLocals := 1, code := method_2_code, exceptionTable := #[], attributes := #[] }
def k1m1 : Method := { name := "pick", desc := "(I)Lcom/example/usage_verdict/usageverdict/language/Function;", sig := { parameters := [.int], returnType := some (.object "com/example/usage_verdict/usageverdict/language/Function") }, accessFlags := 10, code := some k1c1 }
def k1c2 : Code := { maxStack := 2, maxLocals := 5, code := code, exceptionTable := #[], attributes := #[] }
def k1m2 : Method := { name := "law", desc := "(I)Z", sig := { parameters := [.int], returnType := some .boolean }, accessFlags := 9, code := some k1c2 }
/-- com/example/usage_verdict/usageverdict/language/FunctionTakesBagsPinLaw -/
def k1 : Class := { plain "com/example/usage_verdict/usageverdict/language/FunctionTakesBagsPinLaw" (some 0) with
  accessFlags := 49
  interfaces := #[]
  cf := some (fileOf pool1 42 #[] #[{ accessFlags := 1, nameIndex := 5, descriptorIndex := 6, attributes := #[] }, { accessFlags := 10, nameIndex := 45, descriptorIndex := 46, attributes := #[] }, { accessFlags := 9, nameIndex := 58, descriptorIndex := 59, attributes := #[] }] 49 2 #[] #[])
  fields := #[]
  methods := #[k1m0, k1m1, k1m2]
  instanceTypes := #[]
  staticTypes := #[]
  resolved := Array.replicate 62 none
  statics := none }

def pool2 : Array CpInfo := pool [(1, .class_ 2), (0, u "java/lang/constant/Constable"), (0, .class_ 4), (0, u "java/lang/Object")] 6

/-- java/lang/constant/Constable -/
def k2 : Class := { plain "java/lang/constant/Constable" (some 0) with
  accessFlags := 1537
  interfaces := #[]
  cf := some (fileOf pool2 1 #[] #[] 1537 3 #[] #[])
  fields := #[]
  methods := #[]
  instanceTypes := #[]
  staticTypes := #[]
  resolved := Array.replicate 11 none
  statics := none }

def pool3 : Array CpInfo := pool [(1, .class_ 2), (0, u "java/lang/Comparable"), (0, .class_ 4), (0, u "java/lang/Object")] 7

/-- java/lang/Comparable -/
def k3 : Class := { plain "java/lang/Comparable" (some 0) with
  accessFlags := 1537
  interfaces := #[]
  cf := some (fileOf pool3 1 #[] #[] 1537 3 #[] #[])
  fields := #[]
  methods := #[]
  instanceTypes := #[]
  staticTypes := #[]
  resolved := Array.replicate 12 none
  statics := none }

def pool4 : Array CpInfo := pool [(1, .class_ 2), (0, u "java/io/Serializable"), (0, .class_ 4), (0, u "java/lang/Object")] 2

/-- java/io/Serializable -/
def k4 : Class := { plain "java/io/Serializable" (some 0) with
  accessFlags := 1537
  interfaces := #[]
  cf := some (fileOf pool4 1 #[] #[] 1537 3 #[] #[])
  fields := #[]
  methods := #[]
  instanceTypes := #[]
  staticTypes := #[]
  resolved := Array.replicate 7 none
  statics := none }

def pool5 : Array CpInfo := pool [(2, .class_ 4), (1, u "java/lang/Enum"), (0, u "name"), (0, u "Ljava/lang/String;"), (2, u "ordinal"), (0, u "I"), (1, .class_ 14), (1, u "java/lang/Object"), (4, u "hash"), (86, .class_ 108), (1, u "java/lang/Enum$EnumDesc"), (2, .class_ 112), (0, u "java/lang/constant/Constable"), (0, .class_ 114), (0, u "java/lang/Comparable"), (0, .class_ 116), (0, u "java/io/Serializable")] 87

/-- java/lang/Enum -/
def k5 : Class := { plain "java/lang/Enum" (some 0) with
  accessFlags := 1057
  interfaces := #[2, 3, 4]
  cf := some (fileOf pool5 2 #[.nestMembers #[106]] #[] 1057 12 #[111, 113, 115] #[{ accessFlags := 18, nameIndex := 5, descriptorIndex := 6, attributes := #[] }, { accessFlags := 18, nameIndex := 9, descriptorIndex := 10, attributes := #[] }, { accessFlags := 2, nameIndex := 19, descriptorIndex := 10, attributes := #[] }])
  fields := #[{ name := "name", type := (.object "java/lang/String"), accessFlags := 18, slot := 0, constantValue := 0 }, { name := "ordinal", type := .int, accessFlags := 18, slot := 1, constantValue := 0 }, { name := "hash", type := .int, accessFlags := 2, slot := 2, constantValue := 0 }]
  methods := #[]
  instanceTypes := #[(.object "java/lang/String"), .int, .int]
  staticTypes := #[]
  resolved := Array.replicate 204 none
  statics := none }

def pool6 : Array CpInfo := pool [(1, .class_ 2), (0, u "com/example/usage_verdict/usageverdict/language/Function"), (2, u "EQUAL"), (0, u "Lcom/example/usage_verdict/usageverdict/language/Function;"), (2, u "IN"), (2, u "GREATER_THAN"), (2, u "ADD"), (2, u "SUBTRACT"), (2, u "MULTIPLY"), (2, u "DIVIDE"), (2, u "GREATER_THAN_OR_EQUAL"), (2, u "LESS_THAN_OR_EQUAL"), (0, .fieldref 1 32), (0, .nameAndType 33 6), (0, u "ONE_AND_ONLY"), (2, u "$VALUES"), (0, u "[Lcom/example/usage_verdict/usageverdict/language/Function;"), (6, .class_ 46), (1, u "java/lang/Enum"), (8, u "spelling"), (0, u "Ljava/lang/String;"), (0, .fieldref 1 58), (0, .nameAndType 59 60), (0, u "arity"), (0, u "I"), (72, u "()I"), (0, u "takesBags"), (0, u "()Z")] 31

def k6c0 : Code := { maxStack := 1, maxLocals := 1, code := prog_41_method_5_code, exceptionTable := #[], attributes := #[] }
def k6m0 : Method := { name := "arity", desc := "()I", sig := { parameters := [], returnType := some .int }, accessFlags := 1, code := some k6c0 }
def k6c1 : Code := { maxStack := 2, maxLocals := 1, code := prog_41_method_6_code, exceptionTable := #[], attributes := #[] }
def k6m1 : Method := { name := "takesBags", desc := "()Z", sig := { parameters := [], returnType := some .boolean }, accessFlags := 1, code := some k6c1 }
/-- com/example/usage_verdict/usageverdict/language/Function -/
def k6 : Class := { plain "com/example/usage_verdict/usageverdict/language/Function" (some 5) with
  accessFlags := 16433
  interfaces := #[]
  cf := some (fileOf pool6 1 #[] #[{ accessFlags := 1, nameIndex := 59, descriptorIndex := 133, attributes := #[] }, { accessFlags := 1, nameIndex := 134, descriptorIndex := 135, attributes := #[] }] 16433 44 #[] #[{ accessFlags := 16409, nameIndex := 5, descriptorIndex := 6, attributes := #[] }, { accessFlags := 16409, nameIndex := 9, descriptorIndex := 6, attributes := #[] }, { accessFlags := 16409, nameIndex := 12, descriptorIndex := 6, attributes := #[] }, { accessFlags := 16409, nameIndex := 15, descriptorIndex := 6, attributes := #[] }, { accessFlags := 16409, nameIndex := 18, descriptorIndex := 6, attributes := #[] }, { accessFlags := 16409, nameIndex := 21, descriptorIndex := 6, attributes := #[] }, { accessFlags := 16409, nameIndex := 24, descriptorIndex := 6, attributes := #[] }, { accessFlags := 16409, nameIndex := 27, descriptorIndex := 6, attributes := #[] }, { accessFlags := 16409, nameIndex := 30, descriptorIndex := 6, attributes := #[] }, { accessFlags := 16409, nameIndex := 33, descriptorIndex := 6, attributes := #[] }, { accessFlags := 18, nameIndex := 55, descriptorIndex := 56, attributes := #[] }, { accessFlags := 18, nameIndex := 59, descriptorIndex := 60, attributes := #[] }, { accessFlags := 4122, nameIndex := 36, descriptorIndex := 37, attributes := #[] }])
  fields := #[{ name := "EQUAL", type := (.object "com/example/usage_verdict/usageverdict/language/Function"), accessFlags := 16409, slot := 0, constantValue := 0 }, { name := "IN", type := (.object "com/example/usage_verdict/usageverdict/language/Function"), accessFlags := 16409, slot := 1, constantValue := 0 }, { name := "GREATER_THAN", type := (.object "com/example/usage_verdict/usageverdict/language/Function"), accessFlags := 16409, slot := 2, constantValue := 0 }, { name := "ADD", type := (.object "com/example/usage_verdict/usageverdict/language/Function"), accessFlags := 16409, slot := 3, constantValue := 0 }, { name := "SUBTRACT", type := (.object "com/example/usage_verdict/usageverdict/language/Function"), accessFlags := 16409, slot := 4, constantValue := 0 }, { name := "MULTIPLY", type := (.object "com/example/usage_verdict/usageverdict/language/Function"), accessFlags := 16409, slot := 5, constantValue := 0 }, { name := "DIVIDE", type := (.object "com/example/usage_verdict/usageverdict/language/Function"), accessFlags := 16409, slot := 6, constantValue := 0 }, { name := "GREATER_THAN_OR_EQUAL", type := (.object "com/example/usage_verdict/usageverdict/language/Function"), accessFlags := 16409, slot := 7, constantValue := 0 }, { name := "LESS_THAN_OR_EQUAL", type := (.object "com/example/usage_verdict/usageverdict/language/Function"), accessFlags := 16409, slot := 8, constantValue := 0 }, { name := "ONE_AND_ONLY", type := (.object "com/example/usage_verdict/usageverdict/language/Function"), accessFlags := 16409, slot := 9, constantValue := 0 }, { name := "spelling", type := (.object "java/lang/String"), accessFlags := 18, slot := 3, constantValue := 0 }, { name := "arity", type := .int, accessFlags := 18, slot := 4, constantValue := 0 }, { name := "$VALUES", type := (.array (.object "com/example/usage_verdict/usageverdict/language/Function")), accessFlags := 4122, slot := 10, constantValue := 0 }]
  methods := #[k6m0, k6m1]
  instanceTypes := #[(.object "java/lang/String"), .int, .int, (.object "java/lang/String"), .int]
  staticTypes := #[(.object "com/example/usage_verdict/usageverdict/language/Function"), (.object "com/example/usage_verdict/usageverdict/language/Function"), (.object "com/example/usage_verdict/usageverdict/language/Function"), (.object "com/example/usage_verdict/usageverdict/language/Function"), (.object "com/example/usage_verdict/usageverdict/language/Function"), (.object "com/example/usage_verdict/usageverdict/language/Function"), (.object "com/example/usage_verdict/usageverdict/language/Function"), (.object "com/example/usage_verdict/usageverdict/language/Function"), (.object "com/example/usage_verdict/usageverdict/language/Function"), (.object "com/example/usage_verdict/usageverdict/language/Function"), (.array (.object "com/example/usage_verdict/usageverdict/language/Function"))]
  resolved := Array.replicate 167 none
  statics := some 0 }

def pool7 : Array CpInfo := pool [(1, u "java/lang/Cloneable"), (0, .class_ 1), (0, u "java/lang/Object"), (0, .class_ 3)] 3

/-- java/lang/Cloneable -/
def k7 : Class := { plain "java/lang/Cloneable" (some 0) with
  accessFlags := 1537
  interfaces := #[]
  cf := some (fileOf pool7 2 #[] #[] 1537 4 #[] #[])
  fields := #[]
  methods := #[]
  instanceTypes := #[]
  staticTypes := #[]
  resolved := Array.replicate 8 none
  statics := none }

/-- the primitive byte -/
def k8 : Class := { plain "byte" none with kind := .primitive 'B', accessFlags := 0x411 }
/-- [B -/
def k9 : Class := { plain "[B" (some 0) with kind := .array 8 .byte, interfaces := #[7, 4], accessFlags := 1041 }

/-- the primitive int -/
def k10 : Class := { plain "int" none with kind := .primitive 'I', accessFlags := 0x411 }
/-- [I -/
def k11 : Class := { plain "[I" (some 0) with kind := .array 10 .int, interfaces := #[7, 4], accessFlags := 1041 }

def heap : Heap := #[{ cls := 6, slots := #[.ref 1, .ref 4, .ref 7, .ref 3, .ref 5, .ref 9, .ref 10, .ref 6, .ref 8, .ref 2, .null], vm := .statics 6 },
  { cls := 6, slots := #[.null, .int 0, .int 0, .null, .int 2], vm := .none },
  { cls := 6, slots := #[.null, .int 9, .int 0, .null, .int 1], vm := .none },
  { cls := 6, slots := #[.null, .int 3, .int 0, .null, .int 2], vm := .none },
  { cls := 6, slots := #[.null, .int 1, .int 0, .null, .int 2], vm := .none },
  { cls := 6, slots := #[.null, .int 4, .int 0, .null, .int 2], vm := .none },
  { cls := 6, slots := #[.null, .int 7, .int 0, .null, .int 2], vm := .none },
  { cls := 6, slots := #[.null, .int 2, .int 0, .null, .int 2], vm := .none },
  { cls := 6, slots := #[.null, .int 8, .int 0, .null, .int 2], vm := .none },
  { cls := 6, slots := #[.null, .int 5, .int 0, .null, .int 2], vm := .none },
  { cls := 6, slots := #[.null, .int 6, .int 0, .null, .int 2], vm := .none }]
def classes : Array Class := #[k0, k1, k2, k3, k4, k5, k6, k7, k8, k9, k10, k11]
def interned : List (Array UInt16 × Addr) := []
def slotsUsed : Nat := 61
def theMethod : MethodId := ⟨1, 2⟩
def args0 : Array Value := #[.int 5]
def aboutOver (below : List Frame) : State where
  vm := { classes := classes, interned := interned.toArray }
  heap := heap
  slotsUsed := slotsUsed
  threads := #[{ frames := .invoking theMethod args0 :: below }]
def below0 : List Frame := [.native { method := ⟨0, 0⟩, args := #[] }]
def about1 : State := aboutOver below0
def p0 : Program := .bare "" "" ""
def e0 : Env := launch0.env 0 0 0
theorem w_frames : about1.frames = Frame.invoking theMethod args0 :: below0 := rfl
set_option maxRecDepth 65536 in
theorem w_args : argsFit about1.vm theMethod args0 = true := by decide +kernel
set_option maxRecDepth 65536 in
theorem w_heap : heapFits about1 = true := by decide +kernel
set_option maxRecDepth 65536 in
theorem w_runnable : about1.curStatus? = some .runnable := by decide +kernel
set_option maxRecDepth 65536 in
theorem w_alone : about1.alone = true := by decide +kernel
set_option maxRecDepth 65536 in
theorem w_named : about1.methodNamed? x = some theMethod := by decide +kernel
set_option maxRecDepth 65536 in
theorem w_hears : about1.hears theMethod below0 = true := by decide +kernel
set_option maxRecDepth 65536 in
theorem w_ripe : about1.ripe theMethod args0 below0 = true := by decide +kernel
theorem w_running : about1.status = .running := rfl
set_option maxRecDepth 65536 in
theorem w_room : about1.hasRoom e0.platform room_1 = true :=
  launch0.hasRoom_least _ room_1 (by decide +kernel) (by decide +kernel) (by decide +kernel) (by decide +kernel) (by decide +kernel) (by decide +kernel)
theorem allAtoms_all (ts : List Jvm.Cond) (a : Array Jvm.Value) (st : Jvm.State) : (allAtoms ts).before a st = ts.all (fun c => c.before a st) := by
  induction ts with
  | nil => rfl
  | cons c t ih =>
    show (Jvm.Cond.and c (allAtoms t)).before a st = _
    rw [Jvm.Cond.before_and, ih, List.all_cons]
def words1 : List Jvm.Cond := Jvm.Cond.code x code maxLocals ret :: tables_1
/-- a 'code' word, met by the world's own term for the bytes: nothing is compared byte by byte -/
theorem code_word {y : MethodName} {bytes : ByteArray} {mx : Nat} {rt : Option FieldType} {a : Array Value} {s : State} {m : MethodId} {meth : Method} {c : Code} (h1 : s.methodNamed? y = some m) (h2 : s.vm.method? m = some meth) (h3 : meth.code = some c) (h4 : c.code = bytes)
    (h5 : (c.maxLocals == mx && c.exceptionTable.isEmpty && decide (c.maxStack ≤ mostOperands) && decide (meth.sig.returnType = rt) && !meth.locks && decide (parseMethodDescriptor y.desc = some meth.sig)) = true) : (Jvm.Cond.code y bytes mx rt).before a s = true := by
  simp only [Bool.and_eq_true, beq_iff_eq, Bool.not_eq_true', decide_eq_true_eq] at h5
  obtain ⟨⟨⟨⟨⟨g1, g2⟩, g3⟩, g4⟩, g5⟩, g6⟩ := h5
  simp [Cond.before, Cond.holds, Cond.value, h1, h2, h3, h4, g1, g2, g3, g4, g5, g6]
def isCode : Jvm.Cond → Bool
  | .code _ _ _ _ => true
  | _ => false
theorem all_split {L : List Jvm.Cond} {P : Jvm.Cond → Bool} (h1 : L.all (fun c => isCode c || P c) = true) (h2 : ∀ c ∈ L.filter isCode, P c = true) : L.all P = true := by
  refine List.all_eq_true.mpr fun c hc => ?_
  have h := List.all_eq_true.mp h1 c hc
  rcases Bool.eq_false_or_eq_true (isCode c) with hi | hi
  · exact h2 c (List.mem_filter.mpr ⟨hc, hi⟩)
  · simpa [hi] using h
set_option maxRecDepth 65536 in
theorem w_c0 : (Jvm.Cond.code x code maxLocals ret).before args0 about1 = true := code_word (m := ⟨1, 2⟩) (meth := k1m2) (c := k1c2) (by decide +kernel) rfl rfl rfl (by decide +kernel)
set_option maxRecDepth 65536 in
theorem w_c1 : (Jvm.Cond.code ({ cls := "com/example/usage_verdict/usageverdict/language/FunctionTakesBagsPinLaw", name := "pick", desc := "(I)Lcom/example/usage_verdict/usageverdict/language/Function;" } : Jvm.MethodName) method_2_code (1 : Nat) (Option.some (Jvm.ClassFile.FieldType.object "com/example/usage_verdict/usageverdict/language/Function"))).before args0 about1 = true := code_word (m := ⟨1, 1⟩) (meth := k1m1) (c := k1c1) (by decide +kernel) rfl rfl rfl (by decide +kernel)
set_option maxRecDepth 65536 in
theorem w_c2 : (Jvm.Cond.code ({ cls := "com/example/usage_verdict/usageverdict/language/Function", name := "takesBags", desc := "()Z" } : Jvm.MethodName) prog_41_method_6_code (1 : Nat) (Option.some Jvm.ClassFile.FieldType.boolean)).before args0 about1 = true := code_word (m := ⟨6, 1⟩) (meth := k6m1) (c := k6c1) (by decide +kernel) rfl rfl rfl (by decide +kernel)
set_option maxRecDepth 65536 in
theorem w_c3 : (Jvm.Cond.code ({ cls := "com/example/usage_verdict/usageverdict/language/Function", name := "arity", desc := "()I" } : Jvm.MethodName) prog_41_method_5_code (1 : Nat) (Option.some Jvm.ClassFile.FieldType.int)).before args0 about1 = true := code_word (m := ⟨6, 0⟩) (meth := k6m0) (c := k6c0) (by decide +kernel) rfl rfl rfl (by decide +kernel)
def codes1 : List Jvm.Cond := [Jvm.Cond.code x code maxLocals ret, Jvm.Cond.code ({ cls := "com/example/usage_verdict/usageverdict/language/FunctionTakesBagsPinLaw", name := "pick", desc := "(I)Lcom/example/usage_verdict/usageverdict/language/Function;" } : Jvm.MethodName) method_2_code (1 : Nat) (Option.some (Jvm.ClassFile.FieldType.object "com/example/usage_verdict/usageverdict/language/Function")), Jvm.Cond.code ({ cls := "com/example/usage_verdict/usageverdict/language/Function", name := "takesBags", desc := "()Z" } : Jvm.MethodName) prog_41_method_6_code (1 : Nat) (Option.some Jvm.ClassFile.FieldType.boolean), Jvm.Cond.code ({ cls := "com/example/usage_verdict/usageverdict/language/Function", name := "arity", desc := "()I" } : Jvm.MethodName) prog_41_method_5_code (1 : Nat) (Option.some Jvm.ClassFile.FieldType.int)]
set_option maxRecDepth 65536 in
theorem codes_eq : words1.filter isCode = codes1 := rfl
theorem w_codes : ∀ c ∈ words1.filter isCode, c.before args0 about1 = true := by
  rw [codes_eq]
  intro c hc
  simp only [codes1, List.mem_cons, List.not_mem_nil, or_false] at hc
  rcases hc with rfl | rfl | rfl | rfl
  · exact w_c0
  · exact w_c1
  · exact w_c2
  · exact w_c3
set_option maxRecDepth 65536 in
theorem w_t1 : (words1.take 24).all (fun c => isCode c || c.before args0 about1) = true := by decide +kernel
set_option maxRecDepth 65536 in
theorem w_t2 : (words1.drop 24).all (fun c => isCode c || c.before args0 about1) = true := by decide +kernel
theorem w_tables : (allAtoms (Jvm.Cond.code x code maxLocals ret :: tables_1)).before args0 about1 = true := by
  rw [allAtoms_all]
  show words1.all (fun c => c.before args0 about1) = true
  refine all_split ?_ w_codes
  rw [← List.take_append_drop 24 words1, List.all_append, w_t1, w_t2]
  rfl
set_option maxRecDepth 65536 in
theorem w_case : (Jvm.Cond.and given_1 narrow_1).before args0 about1 = true := by decide +kernel
theorem w_applies : (headSpec (Jvm.Cond.code x code maxLocals ret :: tables_1) room_1).applies x e0.platform about1 = true :=
  (Spec.applies_iff w_frames).mpr ⟨w_running, w_runnable, w_alone, w_named, w_hears, w_ripe, w_room, w_tables⟩
theorem atStart : AtStart classFile x code maxLocals ret World_1 tables_1 room_1 Calls_1 rest_1 Pre_1 launch0 p0 e0 about1 theMethod args0 below0 :=
  ⟨lists_1, trivial, launch0.admits_env _ _ _, launch0.least_env, fairChoices_fair.cas, fairChoices_fair.clock, w_frames, w_args, w_heap, w_applies, trivial, trivial, w_case⟩
end start1
theorem witness_1 : WitnessClaimed_1 := ⟨start1.p0, start1.e0, start1.about1, start1.theMethod, start1.args0, start1.below0, start1.atStart⟩
end Jvm.Pilot.@@N@@
