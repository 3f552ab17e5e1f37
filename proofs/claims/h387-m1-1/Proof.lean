import JvmDerived
import JvmDerived.Pilot.@@N@@Statement
import JvmDerived.Pilot.@@N@@Code
set_option linter.unusedVariables false
set_option linter.unusedSimpArgs false
namespace Jvm.RoadKit
open Sem ClassFile Op Lib Jvm.Stand Jvm.Free Jvm.LawKit
section New
variable {p : Program} {l : Launch} {e : Env} {R : Room} {s : State} {m : MethodId} {args : Array Value} {below : List Frame} {meth : Method} {c : Code} {T : State} {locs : List Loc} {cells slots : Nat}
theorem retI (X : Stand p l e R s m args below meth c T locs cells slots) (hx : p.tables.exec = Jvm.exec) {pc : Nat} {Ls : Array Slot} {z : Int32} {rest : List Value} (hret : meth.sig.returnType = some .int) (hd : decode c.code pc = .ok (.ireturn, 1)) {fs : List Frame}
    (hl : ∀ (f : JFrame) (acts : List Action), f.method = m → f.locked = none → f.entered = [] → (doReturn e (T.setTop f) acts (some (.int z))).1 = T.setFrames fs) : Steps p.tables e below (T.setTop (mkF m pc Ls (.int z :: rest))) (T.setFrames fs) := by
  have hm' : T.vm.method? m = some meth := X.method'
  have hn : narrow .int (.int z) = .int z := rfl
  show Steps p.tables e below (T.setTop { method := m, pc := pc, locals := Ls, stack := _ :: rest, locked := none }) _
  jvm_step X.here [X.here.top, hx, hd, hm', hret, hn]
  first | (intro acts; rw [hl _ acts rfl rfl rfl]) | rw [hl _ _ rfl rfl rfl]
  exact Steps.refl _
end New
end Jvm.RoadKit
namespace Jvm.Pilot.@@N@@
open Jvm Jvm.ClassFile Sem Op Lib Jvm.Free Jvm.Stand Jvm.LawKit Jvm.RoadKit Bundle Jvm.Pilot.@@N@@.Jvm.D
theorem ww {a0 : Array Value} {Z : State} (hw : ∀ d ∈ tables_1, d.before a0 Z = true) (i : Nat) {d : Jvm.Cond} (h : tables_1[i]? = some d) : d.before a0 Z = true := hw d (List.mem_of_getElem? h)
abbrev vi (x : Int32) : Slot := .val (.int x)
abbrev vj (x : Int64) : Slot := .val (.long x)
abbrev vr (x : Addr) : Slot := .val (.ref x)
abbrev vn : Slot := .val .null
abbrev vu : Slot := .unset
abbrev xi (x : Int32) : Value := .int x
abbrev xj (x : Int64) : Value := .long x
abbrev xr (x : Addr) : Value := .ref x
abbrev own_S (p : Program) (e : Env) (below : List Frame) (T : State) (g : JFrame) (t : State) : Prop := Steps p.tables e below (T.setTop g) t
/-- a body's contract: at these arguments and this heap it returns as Q says -/
abbrev own_Met (l : Launch) (Z : State) (y : MethodName) (bytes : ByteArray) (maxL : Nat) (rt : Option FieldType) (rm : Room) (as' : Array Value) (h0 : Heap) (Qy : Option Value → Heap → List Loc → Prop) : Prop :=
  ∀ ws : List Jvm.Cond, MetFree l y (head1 (Jvm.Cond.code y bytes maxL rt :: ws) rm) (fun a U => a = as' ∧ Z.Warmed39 U.vm ∧ U.heap = h0) (fun _ _ _ _ _ => True) (fun _ U o U' => ∃ v L, o = .returned v ∧ Qy v U'.heap L ∧ FrameEnd U o U' L rm.cells rm.slots)
/-- it returns r and leaves the heap -/
def own_QR (r : Option Value) (h0 : Heap) (n0 : Nat) (v : Option Value) (h : Heap) (L : List Loc) : Prop := v = r ∧ Fr n0 L ∧ h = h0
/-- it returns r and writes nothing that stood at the start -/
def own_QL (r : Option Value) (n0 : Nat) (v : Option Value) (h : Heap) (L : List Loc) : Prop := v = r ∧ Fr n0 L
theorem own_le {Z : State} {n0 : Nat} {h : Heap} (O : Old Z n0 h) : n0 ≤ h.size := O.1 ▸ O.2.1
theorem own_fresh {Z : State} {n0 : Nat} {h : Heap} {a : Addr} (O : Old Z n0 h) (g : a = h.size) : n0 ≤ a := g ▸ own_le O
theorem own_fld {s : State} {args : Array Value} {t : Term} {C n d : String} {a : Addr} {k : Int32} (ht : t.eval args s none [] s = some (.ref a)) (h : (Jvm.Cond.eq (.field t C n d) (.int k)).value args s none s [] = some true) : Fld s s.heap a C n d (.int k) := by
  refine Fld.start ?_
  simp only [Cond.value, Term.eval, ht] at h
  cases hv : s.fieldOf? a C n d with
  | none => simp [hv] at h
  | some v => cases v <;> simp [hv] at h; subst h; rfl
theorem own_fldN {s : State} {args : Array Value} {t : Term} {C n d : String} {a : Addr} (ht : t.eval args s none [] s = some (.ref a)) (h : (Jvm.Cond.eq (.field t C n d) .null).value args s none s [] = some true) : Fld s s.heap a C n d .null :=
  Fld.start ((fld_at ht).symm.trans (null_v h))
theorem own_fldX {s : State} {args : Array Value} {t : Term} {C n d K : String} {a : Addr} (ht : t.eval args s none [] s = some (.ref a)) (h : (Jvm.Cond.exactly (.field t C n d) K).value args s none s [] = some true) : ∃ b, Fld s s.heap a C n d (.ref b) ∧ Exa s s.heap b K := by
  obtain ⟨b, eb⟩ := exa_v h
  exact ⟨b, Fld.start ((fld_at ht).symm.trans eb), Exa.start eb h⟩
theorem own_len {s : State} {args : Array Value} {t : Term} {a : Addr} {cl : Cell} {ty : FieldType} {k : Int32} {k' : Nat} (ht : t.eval args s none [] s = some (.ref a)) (A : Arr s s.heap a cl ty) (h : (Jvm.Cond.eq (.length t) (.int k)).value args s none s [] = some true) (hk : k.toInt = k') : cl.slots.size = k' := by
  obtain ⟨v, hv⟩ : ∃ v, (Term.length t).eval args s none [] s = some v := by
    cases hq : (Term.length t).eval args s none [] s with
    | none => simp [Cond.value, hq] at h
    | some v => exact ⟨v, rfl⟩
  have ha : s.arrayAt? a = some cl := Arr.fin (Vm.Alike.refl _) A
  by_cases hl : cl.slots.size < 2 ^ 31
  · rw [len_f ht ha hl] at hv
    have h2 := len_f ht ha hl
    have h3 : cl.slots.size.toInt32 = k := gotT (Cond.eq_ints h2 (Term.int_eval k)) h
    have h4 := len_toInt hl
    rw [h3, hk] at h4
    omega
  · simp [Term.eval, ht, ha, hl] at hv
theorem own_ref {x y : Addr} (h : x ≠ y) : decide ((Value.ref x : Value) = .ref y) = false := by simp [h]
theorem own_mask (x : Int32) : 0 ≤ (x &&& (2147483647 : Int32)).toInt := by
  have := c_mask x 2147483647 31 (by decide) (by decide); omega
def own_St (Z : State) (u0 u1 u2 u3 u4 u5 u6 u7 : Addr) : Prop := (Sta Z Z.heap "com/example/mibwright/mibwright/mib/Kind" "NODE" "Lcom/example/mibwright/mibwright/mib/Kind;" (.ref u0)) ∧ (Exa Z Z.heap u0 "com/example/mibwright/mibwright/mib/Kind") ∧ (Sta Z Z.heap "com/example/mibwright/mibwright/mib/Kind" "SCALAR" "Lcom/example/mibwright/mibwright/mib/Kind;" (.ref u1)) ∧ (Exa Z Z.heap u1 "com/example/mibwright/mibwright/mib/Kind") ∧ (Sta Z Z.heap "com/example/mibwright/mibwright/mib/Kind" "COLUMN" "Lcom/example/mibwright/mibwright/mib/Kind;" (.ref u2)) ∧ (Exa Z Z.heap u2 "com/example/mibwright/mibwright/mib/Kind") ∧ (Sta Z Z.heap "com/example/mibwright/mibwright/mib/Kind" "ROW" "Lcom/example/mibwright/mibwright/mib/Kind;" (.ref u3)) ∧ (Exa Z Z.heap u3 "com/example/mibwright/mibwright/mib/Kind") ∧ (Sta Z Z.heap "com/example/mibwright/mibwright/mib/Kind" "GROUP" "Lcom/example/mibwright/mibwright/mib/Kind;" (.ref u4)) ∧ (Exa Z Z.heap u4 "com/example/mibwright/mibwright/mib/Kind") ∧ (Sta Z Z.heap "com/example/mibwright/mibwright/mib/Kind" "COMPLIANCE" "Lcom/example/mibwright/mibwright/mib/Kind;" (.ref u5)) ∧ (Exa Z Z.heap u5 "com/example/mibwright/mibwright/mib/Kind") ∧ (Sta Z Z.heap "com/example/mibwright/mibwright/mib/Kind" "TABLE" "Lcom/example/mibwright/mibwright/mib/Kind;" (.ref u6)) ∧ (Exa Z Z.heap u6 "com/example/mibwright/mibwright/mib/Kind") ∧ (Sta Z Z.heap "com/example/mibwright/mibwright/mib/Kind" "NOTIFICATION" "Lcom/example/mibwright/mibwright/mib/Kind;" (.ref u7)) ∧ (Exa Z Z.heap u7 "com/example/mibwright/mibwright/mib/Kind") ∧ (Fld Z Z.heap u0 "java/lang/Enum" "ordinal" "I" (.int (0 : Int32))) ∧ (Fld Z Z.heap u1 "java/lang/Enum" "ordinal" "I" (.int (1 : Int32))) ∧ (Fld Z Z.heap u2 "java/lang/Enum" "ordinal" "I" (.int (4 : Int32))) ∧ (Fld Z Z.heap u3 "java/lang/Enum" "ordinal" "I" (.int (3 : Int32))) ∧ (Fld Z Z.heap u4 "java/lang/Enum" "ordinal" "I" (.int (6 : Int32))) ∧ (Fld Z Z.heap u5 "java/lang/Enum" "ordinal" "I" (.int (7 : Int32))) ∧ (Fld Z Z.heap u6 "java/lang/Enum" "ordinal" "I" (.int (2 : Int32))) ∧ (Fld Z Z.heap u7 "java/lang/Enum" "ordinal" "I" (.int (5 : Int32)))
theorem own_S_u0 {Z : State} {u0 u1 u2 u3 u4 u5 u6 u7 : Addr} (G : own_St Z u0 u1 u2 u3 u4 u5 u6 u7) : Sta Z Z.heap "com/example/mibwright/mibwright/mib/Kind" "NODE" "Lcom/example/mibwright/mibwright/mib/Kind;" (.ref u0) := G.1
theorem own_X_u0 {Z : State} {u0 u1 u2 u3 u4 u5 u6 u7 : Addr} (G : own_St Z u0 u1 u2 u3 u4 u5 u6 u7) : Exa Z Z.heap u0 "com/example/mibwright/mibwright/mib/Kind" := G.2.1
theorem own_S_u1 {Z : State} {u0 u1 u2 u3 u4 u5 u6 u7 : Addr} (G : own_St Z u0 u1 u2 u3 u4 u5 u6 u7) : Sta Z Z.heap "com/example/mibwright/mibwright/mib/Kind" "SCALAR" "Lcom/example/mibwright/mibwright/mib/Kind;" (.ref u1) := G.2.2.1
theorem own_X_u1 {Z : State} {u0 u1 u2 u3 u4 u5 u6 u7 : Addr} (G : own_St Z u0 u1 u2 u3 u4 u5 u6 u7) : Exa Z Z.heap u1 "com/example/mibwright/mibwright/mib/Kind" := G.2.2.2.1
theorem own_S_u2 {Z : State} {u0 u1 u2 u3 u4 u5 u6 u7 : Addr} (G : own_St Z u0 u1 u2 u3 u4 u5 u6 u7) : Sta Z Z.heap "com/example/mibwright/mibwright/mib/Kind" "COLUMN" "Lcom/example/mibwright/mibwright/mib/Kind;" (.ref u2) := G.2.2.2.2.1
theorem own_X_u2 {Z : State} {u0 u1 u2 u3 u4 u5 u6 u7 : Addr} (G : own_St Z u0 u1 u2 u3 u4 u5 u6 u7) : Exa Z Z.heap u2 "com/example/mibwright/mibwright/mib/Kind" := G.2.2.2.2.2.1
theorem own_S_u3 {Z : State} {u0 u1 u2 u3 u4 u5 u6 u7 : Addr} (G : own_St Z u0 u1 u2 u3 u4 u5 u6 u7) : Sta Z Z.heap "com/example/mibwright/mibwright/mib/Kind" "ROW" "Lcom/example/mibwright/mibwright/mib/Kind;" (.ref u3) := G.2.2.2.2.2.2.1
theorem own_X_u3 {Z : State} {u0 u1 u2 u3 u4 u5 u6 u7 : Addr} (G : own_St Z u0 u1 u2 u3 u4 u5 u6 u7) : Exa Z Z.heap u3 "com/example/mibwright/mibwright/mib/Kind" := G.2.2.2.2.2.2.2.1
theorem own_S_u4 {Z : State} {u0 u1 u2 u3 u4 u5 u6 u7 : Addr} (G : own_St Z u0 u1 u2 u3 u4 u5 u6 u7) : Sta Z Z.heap "com/example/mibwright/mibwright/mib/Kind" "GROUP" "Lcom/example/mibwright/mibwright/mib/Kind;" (.ref u4) := G.2.2.2.2.2.2.2.2.1
theorem own_X_u4 {Z : State} {u0 u1 u2 u3 u4 u5 u6 u7 : Addr} (G : own_St Z u0 u1 u2 u3 u4 u5 u6 u7) : Exa Z Z.heap u4 "com/example/mibwright/mibwright/mib/Kind" := G.2.2.2.2.2.2.2.2.2.1
theorem own_S_u5 {Z : State} {u0 u1 u2 u3 u4 u5 u6 u7 : Addr} (G : own_St Z u0 u1 u2 u3 u4 u5 u6 u7) : Sta Z Z.heap "com/example/mibwright/mibwright/mib/Kind" "COMPLIANCE" "Lcom/example/mibwright/mibwright/mib/Kind;" (.ref u5) := G.2.2.2.2.2.2.2.2.2.2.1
theorem own_X_u5 {Z : State} {u0 u1 u2 u3 u4 u5 u6 u7 : Addr} (G : own_St Z u0 u1 u2 u3 u4 u5 u6 u7) : Exa Z Z.heap u5 "com/example/mibwright/mibwright/mib/Kind" := G.2.2.2.2.2.2.2.2.2.2.2.1
theorem own_S_u6 {Z : State} {u0 u1 u2 u3 u4 u5 u6 u7 : Addr} (G : own_St Z u0 u1 u2 u3 u4 u5 u6 u7) : Sta Z Z.heap "com/example/mibwright/mibwright/mib/Kind" "TABLE" "Lcom/example/mibwright/mibwright/mib/Kind;" (.ref u6) := G.2.2.2.2.2.2.2.2.2.2.2.2.1
theorem own_X_u6 {Z : State} {u0 u1 u2 u3 u4 u5 u6 u7 : Addr} (G : own_St Z u0 u1 u2 u3 u4 u5 u6 u7) : Exa Z Z.heap u6 "com/example/mibwright/mibwright/mib/Kind" := G.2.2.2.2.2.2.2.2.2.2.2.2.2.1
theorem own_S_u7 {Z : State} {u0 u1 u2 u3 u4 u5 u6 u7 : Addr} (G : own_St Z u0 u1 u2 u3 u4 u5 u6 u7) : Sta Z Z.heap "com/example/mibwright/mibwright/mib/Kind" "NOTIFICATION" "Lcom/example/mibwright/mibwright/mib/Kind;" (.ref u7) := G.2.2.2.2.2.2.2.2.2.2.2.2.2.2.1
theorem own_X_u7 {Z : State} {u0 u1 u2 u3 u4 u5 u6 u7 : Addr} (G : own_St Z u0 u1 u2 u3 u4 u5 u6 u7) : Exa Z Z.heap u7 "com/example/mibwright/mibwright/mib/Kind" := G.2.2.2.2.2.2.2.2.2.2.2.2.2.2.2.1
theorem own_F_u0_ordinal {Z : State} {u0 u1 u2 u3 u4 u5 u6 u7 : Addr} (G : own_St Z u0 u1 u2 u3 u4 u5 u6 u7) : Fld Z Z.heap u0 "java/lang/Enum" "ordinal" "I" (.int (0 : Int32)) := G.2.2.2.2.2.2.2.2.2.2.2.2.2.2.2.2.1
theorem own_F_u1_ordinal {Z : State} {u0 u1 u2 u3 u4 u5 u6 u7 : Addr} (G : own_St Z u0 u1 u2 u3 u4 u5 u6 u7) : Fld Z Z.heap u1 "java/lang/Enum" "ordinal" "I" (.int (1 : Int32)) := G.2.2.2.2.2.2.2.2.2.2.2.2.2.2.2.2.2.1
theorem own_F_u2_ordinal {Z : State} {u0 u1 u2 u3 u4 u5 u6 u7 : Addr} (G : own_St Z u0 u1 u2 u3 u4 u5 u6 u7) : Fld Z Z.heap u2 "java/lang/Enum" "ordinal" "I" (.int (4 : Int32)) := G.2.2.2.2.2.2.2.2.2.2.2.2.2.2.2.2.2.2.1
theorem own_F_u3_ordinal {Z : State} {u0 u1 u2 u3 u4 u5 u6 u7 : Addr} (G : own_St Z u0 u1 u2 u3 u4 u5 u6 u7) : Fld Z Z.heap u3 "java/lang/Enum" "ordinal" "I" (.int (3 : Int32)) := G.2.2.2.2.2.2.2.2.2.2.2.2.2.2.2.2.2.2.2.1
theorem own_F_u4_ordinal {Z : State} {u0 u1 u2 u3 u4 u5 u6 u7 : Addr} (G : own_St Z u0 u1 u2 u3 u4 u5 u6 u7) : Fld Z Z.heap u4 "java/lang/Enum" "ordinal" "I" (.int (6 : Int32)) := G.2.2.2.2.2.2.2.2.2.2.2.2.2.2.2.2.2.2.2.2.1
theorem own_F_u5_ordinal {Z : State} {u0 u1 u2 u3 u4 u5 u6 u7 : Addr} (G : own_St Z u0 u1 u2 u3 u4 u5 u6 u7) : Fld Z Z.heap u5 "java/lang/Enum" "ordinal" "I" (.int (7 : Int32)) := G.2.2.2.2.2.2.2.2.2.2.2.2.2.2.2.2.2.2.2.2.2.1
theorem own_F_u6_ordinal {Z : State} {u0 u1 u2 u3 u4 u5 u6 u7 : Addr} (G : own_St Z u0 u1 u2 u3 u4 u5 u6 u7) : Fld Z Z.heap u6 "java/lang/Enum" "ordinal" "I" (.int (2 : Int32)) := G.2.2.2.2.2.2.2.2.2.2.2.2.2.2.2.2.2.2.2.2.2.2.1
theorem own_F_u7_ordinal {Z : State} {u0 u1 u2 u3 u4 u5 u6 u7 : Addr} (G : own_St Z u0 u1 u2 u3 u4 u5 u6 u7) : Fld Z Z.heap u7 "java/lang/Enum" "ordinal" "I" (.int (5 : Int32)) := G.2.2.2.2.2.2.2.2.2.2.2.2.2.2.2.2.2.2.2.2.2.2.2
theorem own_mask7 (x : Int32) : (x &&& (7 : Int32)) = (0 : Int32) ∨ (x &&& (7 : Int32)) = (1 : Int32) ∨ (x &&& (7 : Int32)) = (2 : Int32) ∨ (x &&& (7 : Int32)) = (3 : Int32) ∨ (x &&& (7 : Int32)) = (4 : Int32) ∨ (x &&& (7 : Int32)) = (5 : Int32) ∨ (x &&& (7 : Int32)) = (6 : Int32) ∨ (x &&& (7 : Int32)) = (7 : Int32) := by
  have h1 := c_mask x 7 3 (by decide) (by decide)
  have h3 : (x &&& (7 : Int32)).toInt = 0 ∨ (x &&& (7 : Int32)).toInt = 1 ∨ (x &&& (7 : Int32)).toInt = 2 ∨ (x &&& (7 : Int32)).toInt = 3 ∨ (x &&& (7 : Int32)).toInt = 4 ∨ (x &&& (7 : Int32)).toInt = 5 ∨ (x &&& (7 : Int32)).toInt = 6 ∨ (x &&& (7 : Int32)).toInt = 7 := by omega
  rcases h3 with h | h | h | h | h | h | h | h
  · exact Or.inl (Int32.toInt_inj.mp (h.trans (by decide)))
  · exact Or.inr <| Or.inl (Int32.toInt_inj.mp (h.trans (by decide)))
  · exact Or.inr <| Or.inr <| Or.inl (Int32.toInt_inj.mp (h.trans (by decide)))
  · exact Or.inr <| Or.inr <| Or.inr <| Or.inl (Int32.toInt_inj.mp (h.trans (by decide)))
  · exact Or.inr <| Or.inr <| Or.inr <| Or.inr <| Or.inl (Int32.toInt_inj.mp (h.trans (by decide)))
  · exact Or.inr <| Or.inr <| Or.inr <| Or.inr <| Or.inr <| Or.inl (Int32.toInt_inj.mp (h.trans (by decide)))
  · exact Or.inr <| Or.inr <| Or.inr <| Or.inr <| Or.inr <| Or.inr <| Or.inl (Int32.toInt_inj.mp (h.trans (by decide)))
  · exact Or.inr <| Or.inr <| Or.inr <| Or.inr <| Or.inr <| Or.inr <| Or.inr <| (Int32.toInt_inj.mp (h.trans (by decide)))
theorem d1_0 : decode method_2_code 0 = .ok (.iload_n 0, 1) := by decide +kernel
theorem d1_1 : decode method_2_code 1 = .ok (.ifCond .ne 7, 3) := by decide +kernel
theorem d1_4 : decode method_2_code 4 = .ok (.getstatic 7, 3) := by decide +kernel
theorem d1_7 : decode method_2_code 7 = .ok (.areturn, 1) := by decide +kernel
abbrev Y0 : MethodName := (⟨"com/example/mibwright/mibwright/mib/KindHasValuePinLaw", "kindOf", "(I)Lcom/example/mibwright/mibwright/mib/Kind;"⟩ : MethodName)
theorem pn0 : plainName "com/example/mibwright/mibwright/mib/KindHasValuePinLaw" = true := by first | (simp [plainName, overriddenIn]; done) | decide +kernel
theorem ef_own_c0_kindOf (m : MethodId) (u0 u1 u2 u3 u4 u5 u6 u7 : Addr) : entryFrame m #[xi (0 : Int32)] 1 = (mkF m 0 #[vi (0 : Int32)] []) := by first | (simp [entryFrame, mkF, argsToLocals, Value.category]; done) | rfl
set_option maxRecDepth 65536 in
set_option maxHeartbeats 40000000 in
theorem own_c0_kindOf (l : Launch) (Z : State) (a0 : Array Value) (hw : ∀ d ∈ tables_1, d.before a0 Z = true) (u0 u1 u2 u3 u4 u5 u6 u7 : Addr) (G : own_St Z u0 u1 u2 u3 u4 u5 u6 u7) (h0 : Heap) (n0 : Nat) (O0 : Old Z n0 h0) : own_Met l Z Y0 method_2_code 1 (some (.object "com/example/mibwright/mibwright/mib/Kind")) ({ frames := 0, cells := 0, slots := 0, locals := 0 } : Room) #[xi (0 : Int32)] h0 (own_QR (some (xr u0)) h0 n0) := by
  intro ws
  refine MetFree.of_bodySF (plainFor_of_name pn0) hisR ?_
  intro p e s m args below meth c s₁ Bd hml0 hP hK
  obtain ⟨rfl, hZ, hh⟩ := hP
  have hx := Bd.exec
  have hby := Bd.bytes
  have hml : c.maxLocals = 1 := hml0
  have hown : s.vm.findClass "com/example/mibwright/mibwright/mib/KindHasValuePinLaw" = some m.cls := findClass_of_methodNamed Bd.named
  have hnm := (name_of_methodNamed Bd.named Bd.method).1
  have X0 : Stand p l e ({ frames := 0, cells := 0, slots := 0, locals := 0 } : Room) s m #[xi (0 : Int32)] below meth c s₁ [] 0 0 := Stand.of_body Bd
  have e0 : s₁.heap = h0 := by rw [← hh, Bd.state]; rfl
  have N0 := Fr.nil n0
  have pre0 : ∀ t, Steps p.tables e below (s₁.setTop (mkF m 0 #[vi (0 : Int32)] [])) t → Steps p.tables e below (s₁.setTop (entryFrame m #[xi (0 : Int32)] 1)) t := fun t k => castTop (ef_own_c0_kindOf m u0 u1 u2 u3 u4 u5 u6 u7) k
  obtain ⟨T1, X1, e1, st1⟩ := getS2 X0 hx hZ hown (host := "") (Or.inl (ww hw 5 rfl)) Via.refl e0 ((own_S_u0 G).ext O0.2) (g := (mkF m 4 #[vi (0 : Int32)] [])) rfl (hb hby d1_4)
  obtain ⟨fs, hr, hrun, hended, hW, hsame⟩ := X1.leave (v := some (xr u0)) (fun h => by rw [Bd.returns] at h; cases h)
  refine ⟨_, _, pre0 _ ?_, hrun, hended, _, _, rfl, ?_, ⟨_, rfl⟩, hW, hsame.mono (by decide) (by decide)⟩
  · show own_S p e below s₁ (mkF m 0 #[vi (0 : Int32)] []) _
    refine XS.iloadN X0.here hx rfl (hb hby d1_0) rfl ?_
    show own_S p e below s₁ (mkF m 1 #[vi (0 : Int32)] [xi (0 : Int32)]) _
    refine XS.ifNo X0.here hx rfl (hb hby d1_1) rfl (by decide) ?_
    show own_S p e below s₁ (mkF m 4 #[vi (0 : Int32)] []) _
    refine st1 _ ?_
    show own_S p e below T1 (mkF m 7 #[vi (0 : Int32)] [xr u0]) _
    exact X1.areturnOut hx rfl Bd.returns rfl (hb hby d1_7) hr
  · exact ⟨rfl, N0, e1⟩
theorem pd0 : parseMethodDescriptor "(I)Lcom/example/mibwright/mibwright/mib/Kind;" = some ⟨[.int], some (.object "com/example/mibwright/mibwright/mib/Kind")⟩ := by decide +kernel
theorem d2_0 : decode prog_29_method_5_code 0 = .ok (.aload_n 0, 1) := by decide +kernel
theorem d2_1 : decode prog_29_method_5_code 1 = .ok (.getstatic 7, 3) := by decide +kernel
theorem d2_4 : decode prog_29_method_5_code 4 = .ok (.if_acmp .eq 10, 3) := by decide +kernel
theorem own_ne_u0_u1 {Z : State} {u0 u1 u2 u3 u4 u5 u6 u7 : Addr} (G : own_St Z u0 u1 u2 u3 u4 u5 u6 u7) : u0 ≠ u1 := Fld.ne (own_F_u0_ordinal G) (own_F_u1_ordinal G) (by decide)
theorem d2_7 : decode prog_29_method_5_code 7 = .ok (.aload_n 0, 1) := by decide +kernel
theorem d2_8 : decode prog_29_method_5_code 8 = .ok (.getstatic 16, 3) := by decide +kernel
theorem d2_11 : decode prog_29_method_5_code 11 = .ok (.if_acmp .ne 7, 3) := by decide +kernel
theorem own_ne_u0_u2 {Z : State} {u0 u1 u2 u3 u4 u5 u6 u7 : Addr} (G : own_St Z u0 u1 u2 u3 u4 u5 u6 u7) : u0 ≠ u2 := Fld.ne (own_F_u0_ordinal G) (own_F_u2_ordinal G) (by decide)
theorem d2_18 : decode prog_29_method_5_code 18 = .ok (.iconst 0, 1) := by decide +kernel
theorem d2_19 : decode prog_29_method_5_code 19 = .ok (.ireturn, 1) := by decide +kernel
abbrev Y1 : MethodName := (⟨"com/example/mibwright/mibwright/mib/Kind", "hasValue", "()Z"⟩ : MethodName)
theorem pn1 : plainName "com/example/mibwright/mibwright/mib/Kind" = true := by first | (simp [plainName, overriddenIn]; done) | decide +kernel
theorem ef_own_c1_hasValue (m : MethodId) (u0 u1 u2 u3 u4 u5 u6 u7 : Addr) : entryFrame m #[xr u0] 1 = (mkF m 0 #[vr u0] []) := by first | (simp [entryFrame, mkF, argsToLocals, Value.category]; done) | rfl
set_option maxRecDepth 65536 in
set_option maxHeartbeats 40000000 in
theorem own_c1_hasValue (l : Launch) (Z : State) (a0 : Array Value) (hw : ∀ d ∈ tables_1, d.before a0 Z = true) (u0 u1 u2 u3 u4 u5 u6 u7 : Addr) (G : own_St Z u0 u1 u2 u3 u4 u5 u6 u7) (h0 : Heap) (n0 : Nat) (O0 : Old Z n0 h0) : own_Met l Z Y1 prog_29_method_5_code 1 (some .boolean) ({ frames := 0, cells := 0, slots := 0, locals := 0 } : Room) #[xr u0] h0 (own_QR (some (xi (0 : Int32))) h0 n0) := by
  intro ws
  refine MetFree.of_bodySF (plainFor_of_name pn1) hisR ?_
  intro p e s m args below meth c s₁ Bd hml0 hP hK
  obtain ⟨rfl, hZ, hh⟩ := hP
  have hx := Bd.exec
  have hby := Bd.bytes
  have hml : c.maxLocals = 1 := hml0
  have hown : s.vm.findClass "com/example/mibwright/mibwright/mib/Kind" = some m.cls := findClass_of_methodNamed Bd.named
  have hnm := (name_of_methodNamed Bd.named Bd.method).1
  have X0 : Stand p l e ({ frames := 0, cells := 0, slots := 0, locals := 0 } : Room) s m #[xr u0] below meth c s₁ [] 0 0 := Stand.of_body Bd
  have e0 : s₁.heap = h0 := by rw [← hh, Bd.state]; rfl
  have N0 := Fr.nil n0
  have pre0 : ∀ t, Steps p.tables e below (s₁.setTop (mkF m 0 #[vr u0] [])) t → Steps p.tables e below (s₁.setTop (entryFrame m #[xr u0] 1)) t := fun t k => castTop (ef_own_c1_hasValue m u0 u1 u2 u3 u4 u5 u6 u7) k
  obtain ⟨T1, X1, e1, st1⟩ := getS2 X0 hx hZ hown (host := "") (Or.inl (ww hw 13 rfl)) Via.refl e0 ((own_S_u1 G).ext O0.2) (g := (mkF m 1 #[vr u0] [xr u0])) rfl (hb hby d2_1)
  obtain ⟨T2, X2, e2, st2⟩ := getS2 X1 hx hZ hown (host := "") (Or.inl (ww hw 15 rfl)) Via.refl e1 ((own_S_u2 G).ext O0.2) (g := (mkF m 8 #[vr u0] [xr u0])) rfl (hb hby d2_8)
  obtain ⟨fs, hr, hrun, hended, hW, hsame⟩ := X2.leave (v := some (xi (0 : Int32))) (fun h => by rw [Bd.returns] at h; cases h)
  refine ⟨_, _, pre0 _ ?_, hrun, hended, _, _, rfl, ?_, ⟨_, rfl⟩, hW, hsame.mono (by decide) (by decide)⟩
  · show own_S p e below s₁ (mkF m 0 #[vr u0] []) _
    refine XS.aloadN X0.here hx rfl (hb hby d2_0) rfl rfl ?_
    show own_S p e below s₁ (mkF m 1 #[vr u0] [xr u0]) _
    refine st1 _ ?_
    show own_S p e below T1 (mkF m 4 #[vr u0] [xr u1, xr u0]) _
    refine Jvm.RoadKit.acmp (g := (mkF m 4 #[vr u0] [xr u1, xr u0])) X1 hx rfl rfl rfl (pc0 := 4) (pc' := 7) (same := false) rfl (hb hby d2_4) rfl (own_ref (own_ne_u0_u1 G)) (by decide) (by decide) ?_
    show own_S p e below T1 (mkF m 7 #[vr u0] []) _
    refine XS.aloadN X1.here hx rfl (hb hby d2_7) rfl rfl ?_
    show own_S p e below T1 (mkF m 8 #[vr u0] [xr u0]) _
    refine st2 _ ?_
    show own_S p e below T2 (mkF m 11 #[vr u0] [xr u2, xr u0]) _
    refine Jvm.RoadKit.acmp (g := (mkF m 11 #[vr u0] [xr u2, xr u0])) X2 hx rfl rfl rfl (pc0 := 11) (pc' := 18) (same := false) rfl (hb hby d2_11) rfl (own_ref (own_ne_u0_u2 G)) (by decide) (by decide) ?_
    show own_S p e below T2 (mkF m 18 #[vr u0] []) _
    refine XS.iconst X2.here hx rfl (hb hby d2_18) ?_
    show own_S p e below T2 (mkF m 19 #[vr u0] [xi (0 : Int32)]) _
    exact retN X2 hx (t := .boolean) Bd.returns (by simp) (hb hby d2_19) hr
  · exact ⟨rfl, N0, e2⟩
theorem pd1 : parseMethodDescriptor "()Z" = some ⟨[], some .boolean⟩ := by decide +kernel
theorem ef_own_l0 (m : MethodId) (u0 u1 u2 u3 u4 u5 u6 u7 : Addr) (p1 : Int32) : entryFrame m #[xi p1] maxLocals = (mkF m 0 #[vi p1, vu, vu, vu] []) := by first | (simp [entryFrame, mkF, argsToLocals, Value.category, maxLocals]; done) | rfl
set_option maxRecDepth 65536 in
set_option maxHeartbeats 40000000 in
theorem own_l0 (l : Launch) (Z : State) (a0 : Array Value) (hw : ∀ d ∈ tables_1, d.before a0 Z = true) (u0 u1 u2 u3 u4 u5 u6 u7 : Addr) (G : own_St Z u0 u1 u2 u3 u4 u5 u6 u7) (p1 : Int32) (as0 : (p1 &&& (7 : Int32)) = (0 : Int32)) (h0 : Heap) (n0 : Nat) (O0 : Old Z n0 h0) : own_Met l Z x code maxLocals ret room_1 #[xi p1] h0 (own_QL (some (xi (1 : Int32))) n0) := by
  intro ws
  refine MetFree.of_bodySF (plainFor_of_name pn0) hisR ?_
  intro p e s m args below meth c s₁ Bd hml0 hP hK
  obtain ⟨rfl, hZ, hh⟩ := hP
  have hx := Bd.exec
  have hby := Bd.bytes
  have hml : c.maxLocals = 4 := hml0
  have hown : s.vm.findClass "com/example/mibwright/mibwright/mib/KindHasValuePinLaw" = some m.cls := findClass_of_methodNamed Bd.named
  have hnm := (name_of_methodNamed Bd.named Bd.method).1
  have X0 : Stand p l e room_1 s m #[xi p1] below meth c s₁ [] 0 0 := Stand.of_body Bd
  have e0 : s₁.heap = h0 := by rw [← hh, Bd.state]; rfl
  have N0 := Fr.nil n0
  have pre0 : ∀ t, Steps p.tables e below (s₁.setTop (mkF m 0 #[vi p1, vu, vu, vu] [])) t → Steps p.tables e below (s₁.setTop (entryFrame m #[xi p1] maxLocals)) t := fun t k => castTop (ef_own_l0 m u0 u1 u2 u3 u4 u5 u6 u7 p1) k
  obtain ⟨T1, h1, k1, X1, e1, E1, A1, st1⟩ := newP X0 hx hZ (ww hw 0 rfl) e0 (g := (mkF m 7 #[vi p1, vi (0 : Int32), vu, vu] [xi (8 : Int32)])) rfl (hb hby at_7) rfl (by decide) (cap := 8) (by decide) (by decide) (by decide) (by decide)
  obtain ⟨b1, g1⟩ : ∃ z, z = h0.size := ⟨_, rfl⟩
  rw [← g1] at A1 st1
  have g_b1 : n0 ≤ b1 := own_fresh O0 g1
  have O1 : Old Z n0 h1 := O0.ext E1
  have V_b1 : Arv Z h1 b1 k1 .boolean (8 : Int32) [(.int (0 : Int32)), (.int (0 : Int32)), (.int (0 : Int32)), (.int (0 : Int32)), (.int (0 : Int32)), (.int (0 : Int32)), (.int (0 : Int32)), (.int (0 : Int32))] (.int (0 : Int32)) := (Arv.new A1 (by decide)).pad (pad_rep [] (.int (0 : Int32)) 8)
  obtain ⟨cl2, Ar2, q2, S2, N2_, H2, G2⟩ := V_b1
  have hin2 : ¬ ((0 : Int32) < 0 ∨ cl2.slots.size ≤ ((0 : Int32)).toNatClampNeg) := inb_of S2 ⟨by decide, by decide⟩
  obtain ⟨T3, h3, X3, e3, W3, st3⟩ := stZ X1 hx hZ e1 Ar2 (j := (0 : Int32)) hin2 (g := (mkF m 12 #[vi p1, vi (0 : Int32), vu, vu] [xi (0 : Int32), xi (0 : Int32), xr b1, xr b1])) rfl rfl (hb hby at_12)
  have V_b1_3 : Arv Z h3 b1 k1 .boolean (8 : Int32) [xi (0 : Int32), xi (0 : Int32), xi (0 : Int32), xi (0 : Int32), xi (0 : Int32), xi (0 : Int32), xi (0 : Int32), xi (0 : Int32)] (.int (0 : Int32)) := Arv.set Ar2 q2 S2 N2_ H2 G2 (fits_nar_bool _) W3 0 rfl (Nat.le_of_ble_eq_true rfl)
  have O3 : Old Z n0 h3 := O1.wr W3 g_b1
  have N3 := Fr.snoc X3 N0 g_b1
  obtain ⟨cl4, Ar4, q4, S4, N4_, H4, G4⟩ := V_b1_3
  have hin4 : ¬ ((1 : Int32) < 0 ∨ cl4.slots.size ≤ ((1 : Int32)).toNatClampNeg) := inb_of S4 ⟨by decide, by decide⟩
  obtain ⟨T5, h5, X5, e5, W5, st5⟩ := stZ X3 hx hZ e3 Ar4 (j := (1 : Int32)) hin4 (g := (mkF m 16 #[vi p1, vi (0 : Int32), vu, vu] [xi (1 : Int32), xi (1 : Int32), xr b1, xr b1])) rfl rfl (hb hby at_16)
  have V_b1_5 : Arv Z h5 b1 k1 .boolean (8 : Int32) [xi (0 : Int32), xi (1 : Int32), xi (0 : Int32), xi (0 : Int32), xi (0 : Int32), xi (0 : Int32), xi (0 : Int32), xi (0 : Int32)] (.int (0 : Int32)) := Arv.set Ar4 q4 S4 N4_ H4 G4 (fits_nar_bool _) W5 1 rfl (Nat.le_of_ble_eq_true rfl)
  have O5 : Old Z n0 h5 := O3.wr W5 g_b1
  have N5 := Fr.snoc X5 N3 g_b1
  obtain ⟨cl6, Ar6, q6, S6, N6_, H6, G6⟩ := V_b1_5
  have hin6 : ¬ ((2 : Int32) < 0 ∨ cl6.slots.size ≤ ((2 : Int32)).toNatClampNeg) := inb_of S6 ⟨by decide, by decide⟩
  obtain ⟨T7, h7, X7, e7, W7, st7⟩ := stZ X5 hx hZ e5 Ar6 (j := (2 : Int32)) hin6 (g := (mkF m 20 #[vi p1, vi (0 : Int32), vu, vu] [xi (0 : Int32), xi (2 : Int32), xr b1, xr b1])) rfl rfl (hb hby at_20)
  have V_b1_7 : Arv Z h7 b1 k1 .boolean (8 : Int32) [xi (0 : Int32), xi (1 : Int32), xi (0 : Int32), xi (0 : Int32), xi (0 : Int32), xi (0 : Int32), xi (0 : Int32), xi (0 : Int32)] (.int (0 : Int32)) := Arv.set Ar6 q6 S6 N6_ H6 G6 (fits_nar_bool _) W7 2 rfl (Nat.le_of_ble_eq_true rfl)
  have O7 : Old Z n0 h7 := O5.wr W7 g_b1
  have N7 := Fr.snoc X7 N5 g_b1
  obtain ⟨cl8, Ar8, q8, S8, N8_, H8, G8⟩ := V_b1_7
  have hin8 : ¬ ((3 : Int32) < 0 ∨ cl8.slots.size ≤ ((3 : Int32)).toNatClampNeg) := inb_of S8 ⟨by decide, by decide⟩
  obtain ⟨T9, h9, X9, e9, W9, st9⟩ := stZ X7 hx hZ e7 Ar8 (j := (3 : Int32)) hin8 (g := (mkF m 24 #[vi p1, vi (0 : Int32), vu, vu] [xi (0 : Int32), xi (3 : Int32), xr b1, xr b1])) rfl rfl (hb hby at_24)
  have V_b1_9 : Arv Z h9 b1 k1 .boolean (8 : Int32) [xi (0 : Int32), xi (1 : Int32), xi (0 : Int32), xi (0 : Int32), xi (0 : Int32), xi (0 : Int32), xi (0 : Int32), xi (0 : Int32)] (.int (0 : Int32)) := Arv.set Ar8 q8 S8 N8_ H8 G8 (fits_nar_bool _) W9 3 rfl (Nat.le_of_ble_eq_true rfl)
  have O9 : Old Z n0 h9 := O7.wr W9 g_b1
  have N9 := Fr.snoc X9 N7 g_b1
  obtain ⟨cl10, Ar10, q10, S10, N10_, H10, G10⟩ := V_b1_9
  have hin10 : ¬ ((4 : Int32) < 0 ∨ cl10.slots.size ≤ ((4 : Int32)).toNatClampNeg) := inb_of S10 ⟨by decide, by decide⟩
  obtain ⟨T11, h11, X11, e11, W11, st11⟩ := stZ X9 hx hZ e9 Ar10 (j := (4 : Int32)) hin10 (g := (mkF m 28 #[vi p1, vi (0 : Int32), vu, vu] [xi (1 : Int32), xi (4 : Int32), xr b1, xr b1])) rfl rfl (hb hby at_28)
  have V_b1_11 : Arv Z h11 b1 k1 .boolean (8 : Int32) [xi (0 : Int32), xi (1 : Int32), xi (0 : Int32), xi (0 : Int32), xi (1 : Int32), xi (0 : Int32), xi (0 : Int32), xi (0 : Int32)] (.int (0 : Int32)) := Arv.set Ar10 q10 S10 N10_ H10 G10 (fits_nar_bool _) W11 4 rfl (Nat.le_of_ble_eq_true rfl)
  have O11 : Old Z n0 h11 := O9.wr W11 g_b1
  have N11 := Fr.snoc X11 N9 g_b1
  obtain ⟨cl12, Ar12, q12, S12, N12_, H12, G12⟩ := V_b1_11
  have hin12 : ¬ ((5 : Int32) < 0 ∨ cl12.slots.size ≤ ((5 : Int32)).toNatClampNeg) := inb_of S12 ⟨by decide, by decide⟩
  obtain ⟨T13, h13, X13, e13, W13, st13⟩ := stZ X11 hx hZ e11 Ar12 (j := (5 : Int32)) hin12 (g := (mkF m 32 #[vi p1, vi (0 : Int32), vu, vu] [xi (0 : Int32), xi (5 : Int32), xr b1, xr b1])) rfl rfl (hb hby at_32)
  have V_b1_13 : Arv Z h13 b1 k1 .boolean (8 : Int32) [xi (0 : Int32), xi (1 : Int32), xi (0 : Int32), xi (0 : Int32), xi (1 : Int32), xi (0 : Int32), xi (0 : Int32), xi (0 : Int32)] (.int (0 : Int32)) := Arv.set Ar12 q12 S12 N12_ H12 G12 (fits_nar_bool _) W13 5 rfl (Nat.le_of_ble_eq_true rfl)
  have O13 : Old Z n0 h13 := O11.wr W13 g_b1
  have N13 := Fr.snoc X13 N11 g_b1
  obtain ⟨cl14, Ar14, q14, S14, N14_, H14, G14⟩ := V_b1_13
  have hin14 : ¬ ((6 : Int32) < 0 ∨ cl14.slots.size ≤ ((6 : Int32)).toNatClampNeg) := inb_of S14 ⟨by decide, by decide⟩
  obtain ⟨T15, h15, X15, e15, W15, st15⟩ := stZ X13 hx hZ e13 Ar14 (j := (6 : Int32)) hin14 (g := (mkF m 37 #[vi p1, vi (0 : Int32), vu, vu] [xi (0 : Int32), xi (6 : Int32), xr b1, xr b1])) rfl rfl (hb hby at_37)
  have V_b1_15 : Arv Z h15 b1 k1 .boolean (8 : Int32) [xi (0 : Int32), xi (1 : Int32), xi (0 : Int32), xi (0 : Int32), xi (1 : Int32), xi (0 : Int32), xi (0 : Int32), xi (0 : Int32)] (.int (0 : Int32)) := Arv.set Ar14 q14 S14 N14_ H14 G14 (fits_nar_bool _) W15 6 rfl (Nat.le_of_ble_eq_true rfl)
  have O15 : Old Z n0 h15 := O13.wr W15 g_b1
  have N15 := Fr.snoc X15 N13 g_b1
  obtain ⟨cl16, Ar16, q16, S16, N16_, H16, G16⟩ := V_b1_15
  have hin16 : ¬ ((7 : Int32) < 0 ∨ cl16.slots.size ≤ ((7 : Int32)).toNatClampNeg) := inb_of S16 ⟨by decide, by decide⟩
  obtain ⟨T17, h17, X17, e17, W17, st17⟩ := stZ X15 hx hZ e15 Ar16 (j := (7 : Int32)) hin16 (g := (mkF m 42 #[vi p1, vi (0 : Int32), vu, vu] [xi (0 : Int32), xi (7 : Int32), xr b1, xr b1])) rfl rfl (hb hby at_42)
  have V_b1_17 : Arv Z h17 b1 k1 .boolean (8 : Int32) [xi (0 : Int32), xi (1 : Int32), xi (0 : Int32), xi (0 : Int32), xi (1 : Int32), xi (0 : Int32), xi (0 : Int32), xi (0 : Int32)] (.int (0 : Int32)) := Arv.set Ar16 q16 S16 N16_ H16 G16 (fits_nar_bool _) W17 7 rfl (Nat.le_of_ble_eq_true rfl)
  have O17 : Old Z n0 h17 := O15.wr W17 g_b1
  have N17 := Fr.snoc X17 N15 g_b1
  obtain ⟨_, _, ⟨T18, L18, k18, n18⟩, -, X18, ⟨Lc18, hQ18, l18, y18, z18⟩, st18⟩ := Jvm.LawKit.callS X17 hx (y := Y0) hown (mvT hZ (ww hw 1 rfl)) (mvT hZ (ww hw 2 rfl)) (mvT hZ (ww hw 3 rfl)) (mvT hZ (ww hw 4 rfl)) (by decide) (backOf (W := 0) (own_c0_kindOf l Z a0 hw u0 u1 u2 u3 u4 u5 u6 u7 G h17 n0 O17 []) hZ (ww hw 4 rfl) (ww hw 3 rfl) (by decide) (by decide)) (g := (mkF m 45 #[vi p1, vi (0 : Int32), vr b1, vu] [xi (0 : Int32)])) rfl (by rw [hml]; rfl) (argsL := [xi (0 : Int32)]) (rest := []) (lenOf pd0 rfl) rfl (by show 2 * 0 + _ ≤ _; exact Nat.le_of_eq rfl) (hb hby at_45) (fun _ _ => ⟨rfl, e17, (by decide : 1 + 0 ≤ _), (by decide : 8 + 0 ≤ _)⟩)
  dsimp only [Pt.U, Pt.locs, Pt.cells, Pt.slots] at X18 l18 y18 z18 st18 hQ18
  subst l18 y18 z18
  obtain ⟨rfl, Nq18, e18⟩ := hQ18
  have N18 := Fr.app N17 Nq18
  obtain ⟨cq19, kq19, qa19, qb19, qc19⟩ := isOf hZ e18 ((own_X_u0 G).ext O17.2)
  obtain ⟨_, _, ⟨T19, L19, k19, n19⟩, -, X19, ⟨Lc19, hQ19, l19, y19, z19⟩, st19⟩ := X18.virtualBack hx (y := Y1) (z := Y1) hown (mvT hZ (ww hw 8 rfl)) (mvT hZ (ww hw 9 rfl)) (notFace_of_selects (args := #[]) (mvT hZ (ww hw 11 rfl))) (mvT hZ (ww hw 11 rfl)) (mvT hZ (ww hw 10 rfl)) (by decide) (backOf (W := 0) (own_c1_hasValue l Z a0 hw u0 u1 u2 u3 u4 u5 u6 u7 G h17 n0 O17 []) hZ (ww hw 12 rfl) (ww hw 6 rfl) (by decide) (by decide)) qa19 qc19 (g := (mkF m 50 #[vi p1, vi (0 : Int32), vr b1, vr u0] [xr u0])) rfl (by rw [hml]; rfl) (Steps.refl _) (argsL := []) (rest := []) (lenOf pd1 rfl) rfl (by show 2 * 0 + _ ≤ _; exact Nat.le_of_eq rfl) (hb hby at_50) (fun _ _ => ⟨rfl, e18, (by decide : 1 + 0 ≤ _), (by decide : 8 + 0 ≤ _)⟩)
  dsimp only [Pt.U, Pt.locs, Pt.cells, Pt.slots] at X19 l19 y19 z19 st19 hQ19
  subst l19 y19 z19
  obtain ⟨rfl, Nq19, e19⟩ := hQ19
  have N19 := Fr.app N18 Nq19
  obtain ⟨cl20, Ar20, q20, S20, N20_, H20, G20⟩ := V_b1_17
  have hin20 : ¬ ((0 : Int32) < 0 ∨ cl20.slots.size ≤ ((0 : Int32)).toNatClampNeg) := inb_of S20 ⟨by decide, by decide⟩
  have hat20 : cl20.slots[((0 : Int32)).toNatClampNeg]? = some (xi (0 : Int32)) := Has.at H20 hin20 rfl
  obtain ⟨fs, hr, hrun, hended, hW, hsame⟩ := X19.leave (v := some (xi (1 : Int32))) (fun h => by rw [Bd.returns] at h; cases h)
  refine ⟨_, _, pre0 _ ?_, hrun, hended, _, _, rfl, ?_, ⟨_, rfl⟩, hW, hsame.mono (by decide) (by decide)⟩
  · show own_S p e below s₁ (mkF m 0 #[vi p1, vu, vu, vu] []) _
    refine XS.iloadN X0.here hx rfl (hb hby at_0) rfl ?_
    show own_S p e below s₁ (mkF m 1 #[vi p1, vu, vu, vu] [xi p1]) _
    refine XS.bipush X0.here hx rfl (hb hby at_1) ?_
    show own_S p e below s₁ (mkF m 3 #[vi p1, vu, vu, vu] [xi (7 : Int32), xi p1]) _
    refine XS.iand X0.here hx rfl (hb hby at_3) rfl ?_
    show own_S p e below s₁ (mkF m 4 #[vi p1, vu, vu, vu] [xi (p1 &&& (7 : Int32))]) _
    refine castTop (show (mkF m 4 #[vi p1, vu, vu, vu] [xi (p1 &&& (7 : Int32))]) = (mkF m 4 #[vi p1, vu, vu, vu] [xi (0 : Int32)]) from by rw [as0]) ?_
    show own_S p e below s₁ (mkF m 4 #[vi p1, vu, vu, vu] [xi (0 : Int32)]) _
    refine XS.istoreN X0.here hx rfl (hb hby at_4) rfl (l' := #[vi p1, vi (0 : Int32), vu, vu]) rfl ?_
    show own_S p e below s₁ (mkF m 5 #[vi p1, vi (0 : Int32), vu, vu] []) _
    refine XS.bipush X0.here hx rfl (hb hby at_5) ?_
    show own_S p e below s₁ (mkF m 7 #[vi p1, vi (0 : Int32), vu, vu] [xi (8 : Int32)]) _
    refine st1 _ ?_
    show own_S p e below T1 (mkF m 9 #[vi p1, vi (0 : Int32), vu, vu] [xr b1]) _
    refine XS.dup X1.here hx rfl (hb hby at_9) rfl rfl ?_
    show own_S p e below T1 (mkF m 10 #[vi p1, vi (0 : Int32), vu, vu] [xr b1, xr b1]) _
    refine XS.iconst X1.here hx rfl (hb hby at_10) ?_
    show own_S p e below T1 (mkF m 11 #[vi p1, vi (0 : Int32), vu, vu] [xi (0 : Int32), xr b1, xr b1]) _
    refine XS.iconst X1.here hx rfl (hb hby at_11) ?_
    show own_S p e below T1 (mkF m 12 #[vi p1, vi (0 : Int32), vu, vu] [xi (0 : Int32), xi (0 : Int32), xr b1, xr b1]) _
    refine st3 _ ?_
    show own_S p e below T3 (mkF m 13 #[vi p1, vi (0 : Int32), vu, vu] [xr b1]) _
    refine XS.dup X3.here hx rfl (hb hby at_13) rfl rfl ?_
    show own_S p e below T3 (mkF m 14 #[vi p1, vi (0 : Int32), vu, vu] [xr b1, xr b1]) _
    refine XS.iconst X3.here hx rfl (hb hby at_14) ?_
    show own_S p e below T3 (mkF m 15 #[vi p1, vi (0 : Int32), vu, vu] [xi (1 : Int32), xr b1, xr b1]) _
    refine XS.iconst X3.here hx rfl (hb hby at_15) ?_
    show own_S p e below T3 (mkF m 16 #[vi p1, vi (0 : Int32), vu, vu] [xi (1 : Int32), xi (1 : Int32), xr b1, xr b1]) _
    refine st5 _ ?_
    show own_S p e below T5 (mkF m 17 #[vi p1, vi (0 : Int32), vu, vu] [xr b1]) _
    refine XS.dup X5.here hx rfl (hb hby at_17) rfl rfl ?_
    show own_S p e below T5 (mkF m 18 #[vi p1, vi (0 : Int32), vu, vu] [xr b1, xr b1]) _
    refine XS.iconst X5.here hx rfl (hb hby at_18) ?_
    show own_S p e below T5 (mkF m 19 #[vi p1, vi (0 : Int32), vu, vu] [xi (2 : Int32), xr b1, xr b1]) _
    refine XS.iconst X5.here hx rfl (hb hby at_19) ?_
    show own_S p e below T5 (mkF m 20 #[vi p1, vi (0 : Int32), vu, vu] [xi (0 : Int32), xi (2 : Int32), xr b1, xr b1]) _
    refine st7 _ ?_
    show own_S p e below T7 (mkF m 21 #[vi p1, vi (0 : Int32), vu, vu] [xr b1]) _
    refine XS.dup X7.here hx rfl (hb hby at_21) rfl rfl ?_
    show own_S p e below T7 (mkF m 22 #[vi p1, vi (0 : Int32), vu, vu] [xr b1, xr b1]) _
    refine XS.iconst X7.here hx rfl (hb hby at_22) ?_
    show own_S p e below T7 (mkF m 23 #[vi p1, vi (0 : Int32), vu, vu] [xi (3 : Int32), xr b1, xr b1]) _
    refine XS.iconst X7.here hx rfl (hb hby at_23) ?_
    show own_S p e below T7 (mkF m 24 #[vi p1, vi (0 : Int32), vu, vu] [xi (0 : Int32), xi (3 : Int32), xr b1, xr b1]) _
    refine st9 _ ?_
    show own_S p e below T9 (mkF m 25 #[vi p1, vi (0 : Int32), vu, vu] [xr b1]) _
    refine XS.dup X9.here hx rfl (hb hby at_25) rfl rfl ?_
    show own_S p e below T9 (mkF m 26 #[vi p1, vi (0 : Int32), vu, vu] [xr b1, xr b1]) _
    refine XS.iconst X9.here hx rfl (hb hby at_26) ?_
    show own_S p e below T9 (mkF m 27 #[vi p1, vi (0 : Int32), vu, vu] [xi (4 : Int32), xr b1, xr b1]) _
    refine XS.iconst X9.here hx rfl (hb hby at_27) ?_
    show own_S p e below T9 (mkF m 28 #[vi p1, vi (0 : Int32), vu, vu] [xi (1 : Int32), xi (4 : Int32), xr b1, xr b1]) _
    refine st11 _ ?_
    show own_S p e below T11 (mkF m 29 #[vi p1, vi (0 : Int32), vu, vu] [xr b1]) _
    refine XS.dup X11.here hx rfl (hb hby at_29) rfl rfl ?_
    show own_S p e below T11 (mkF m 30 #[vi p1, vi (0 : Int32), vu, vu] [xr b1, xr b1]) _
    refine XS.iconst X11.here hx rfl (hb hby at_30) ?_
    show own_S p e below T11 (mkF m 31 #[vi p1, vi (0 : Int32), vu, vu] [xi (5 : Int32), xr b1, xr b1]) _
    refine XS.iconst X11.here hx rfl (hb hby at_31) ?_
    show own_S p e below T11 (mkF m 32 #[vi p1, vi (0 : Int32), vu, vu] [xi (0 : Int32), xi (5 : Int32), xr b1, xr b1]) _
    refine st13 _ ?_
    show own_S p e below T13 (mkF m 33 #[vi p1, vi (0 : Int32), vu, vu] [xr b1]) _
    refine XS.dup X13.here hx rfl (hb hby at_33) rfl rfl ?_
    show own_S p e below T13 (mkF m 34 #[vi p1, vi (0 : Int32), vu, vu] [xr b1, xr b1]) _
    refine XS.bipush X13.here hx rfl (hb hby at_34) ?_
    show own_S p e below T13 (mkF m 36 #[vi p1, vi (0 : Int32), vu, vu] [xi (6 : Int32), xr b1, xr b1]) _
    refine XS.iconst X13.here hx rfl (hb hby at_36) ?_
    show own_S p e below T13 (mkF m 37 #[vi p1, vi (0 : Int32), vu, vu] [xi (0 : Int32), xi (6 : Int32), xr b1, xr b1]) _
    refine st15 _ ?_
    show own_S p e below T15 (mkF m 38 #[vi p1, vi (0 : Int32), vu, vu] [xr b1]) _
    refine XS.dup X15.here hx rfl (hb hby at_38) rfl rfl ?_
    show own_S p e below T15 (mkF m 39 #[vi p1, vi (0 : Int32), vu, vu] [xr b1, xr b1]) _
    refine XS.bipush X15.here hx rfl (hb hby at_39) ?_
    show own_S p e below T15 (mkF m 41 #[vi p1, vi (0 : Int32), vu, vu] [xi (7 : Int32), xr b1, xr b1]) _
    refine XS.iconst X15.here hx rfl (hb hby at_41) ?_
    show own_S p e below T15 (mkF m 42 #[vi p1, vi (0 : Int32), vu, vu] [xi (0 : Int32), xi (7 : Int32), xr b1, xr b1]) _
    refine st17 _ ?_
    show own_S p e below T17 (mkF m 43 #[vi p1, vi (0 : Int32), vu, vu] [xr b1]) _
    refine XS.astoreN X17.here hx rfl (hb hby at_43) rfl rfl (l' := #[vi p1, vi (0 : Int32), vr b1, vu]) rfl ?_
    show own_S p e below T17 (mkF m 44 #[vi p1, vi (0 : Int32), vr b1, vu] []) _
    refine XS.iloadN X17.here hx rfl (hb hby at_44) rfl ?_
    show own_S p e below T17 (mkF m 45 #[vi p1, vi (0 : Int32), vr b1, vu] [xi (0 : Int32)]) _
    refine st18 _ ?_
    show own_S p e below T18 (mkF m 48 #[vi p1, vi (0 : Int32), vr b1, vu] [xr u0]) _
    refine XS.astoreN X18.here hx rfl (hb hby at_48) rfl rfl (l' := #[vi p1, vi (0 : Int32), vr b1, vr u0]) rfl ?_
    show own_S p e below T18 (mkF m 49 #[vi p1, vi (0 : Int32), vr b1, vr u0] []) _
    refine XS.aloadN X18.here hx rfl (hb hby at_49) rfl rfl ?_
    show own_S p e below T18 (mkF m 50 #[vi p1, vi (0 : Int32), vr b1, vr u0] [xr u0]) _
    refine st19.trans ?_
    show own_S p e below T19 (mkF m 53 #[vi p1, vi (0 : Int32), vr b1, vr u0] [xi (0 : Int32)]) _
    refine XS.aloadN X19.here hx rfl (hb hby at_53) rfl rfl ?_
    show own_S p e below T19 (mkF m 54 #[vi p1, vi (0 : Int32), vr b1, vr u0] [xr b1, xi (0 : Int32)]) _
    refine XS.iloadN X19.here hx rfl (hb hby at_54) rfl ?_
    show own_S p e below T19 (mkF m 55 #[vi p1, vi (0 : Int32), vr b1, vr u0] [xi (0 : Int32), xr b1, xi (0 : Int32)]) _
    refine X19.baloadBooleans hx (j := (0 : Int32)) (v := (xi (0 : Int32))) (by rw [e19]; exact Ar20.1) (State.isArrayOf_alike hZ.alike Ar20.2.1) Ar20.2.2 hin20 hat20 (g := (mkF m 55 #[vi p1, vi (0 : Int32), vr b1, vr u0] [xi (0 : Int32), xr b1, xi (0 : Int32)])) rfl rfl (hb hby at_55) _ ?_
    show own_S p e below T19 (mkF m 56 #[vi p1, vi (0 : Int32), vr b1, vr u0] [xi (0 : Int32), xi (0 : Int32)]) _
    refine XS.icmpNo X19.here hx rfl (hb hby at_56) rfl (by decide) ?_
    show own_S p e below T19 (mkF m 59 #[vi p1, vi (0 : Int32), vr b1, vr u0] []) _
    refine XS.iconst X19.here hx rfl (hb hby at_59) ?_
    show own_S p e below T19 (mkF m 60 #[vi p1, vi (0 : Int32), vr b1, vr u0] [xi (1 : Int32)]) _
    refine XS.goto X19.here hx rfl (pc0 := 60) (pc' := 64) rfl (hb hby at_60) (by decide) (by decide) ?_
    show own_S p e below T19 (mkF m 64 #[vi p1, vi (0 : Int32), vr b1, vr u0] [xi (1 : Int32)]) _
    exact retN X19 hx (t := .boolean) Bd.returns (by simp) (hb hby at_64) hr
  · exact ⟨rfl, N19⟩
theorem d1_8 : decode method_2_code 8 = .ok (.iload_n 0, 1) := by decide +kernel
theorem d1_9 : decode method_2_code 9 = .ok (.iconst 1, 1) := by decide +kernel
theorem d1_10 : decode method_2_code 10 = .ok (.if_icmp .ne 7, 3) := by decide +kernel
theorem d1_13 : decode method_2_code 13 = .ok (.getstatic 13, 3) := by decide +kernel
theorem d1_16 : decode method_2_code 16 = .ok (.areturn, 1) := by decide +kernel
theorem ef_own_c2_kindOf (m : MethodId) (u0 u1 u2 u3 u4 u5 u6 u7 : Addr) : entryFrame m #[xi (1 : Int32)] 1 = (mkF m 0 #[vi (1 : Int32)] []) := by first | (simp [entryFrame, mkF, argsToLocals, Value.category]; done) | rfl
set_option maxRecDepth 65536 in
set_option maxHeartbeats 40000000 in
theorem own_c2_kindOf (l : Launch) (Z : State) (a0 : Array Value) (hw : ∀ d ∈ tables_1, d.before a0 Z = true) (u0 u1 u2 u3 u4 u5 u6 u7 : Addr) (G : own_St Z u0 u1 u2 u3 u4 u5 u6 u7) (h0 : Heap) (n0 : Nat) (O0 : Old Z n0 h0) : own_Met l Z Y0 method_2_code 1 (some (.object "com/example/mibwright/mibwright/mib/Kind")) ({ frames := 0, cells := 0, slots := 0, locals := 0 } : Room) #[xi (1 : Int32)] h0 (own_QR (some (xr u1)) h0 n0) := by
  intro ws
  refine MetFree.of_bodySF (plainFor_of_name pn0) hisR ?_
  intro p e s m args below meth c s₁ Bd hml0 hP hK
  obtain ⟨rfl, hZ, hh⟩ := hP
  have hx := Bd.exec
  have hby := Bd.bytes
  have hml : c.maxLocals = 1 := hml0
  have hown : s.vm.findClass "com/example/mibwright/mibwright/mib/KindHasValuePinLaw" = some m.cls := findClass_of_methodNamed Bd.named
  have hnm := (name_of_methodNamed Bd.named Bd.method).1
  have X0 : Stand p l e ({ frames := 0, cells := 0, slots := 0, locals := 0 } : Room) s m #[xi (1 : Int32)] below meth c s₁ [] 0 0 := Stand.of_body Bd
  have e0 : s₁.heap = h0 := by rw [← hh, Bd.state]; rfl
  have N0 := Fr.nil n0
  have pre0 : ∀ t, Steps p.tables e below (s₁.setTop (mkF m 0 #[vi (1 : Int32)] [])) t → Steps p.tables e below (s₁.setTop (entryFrame m #[xi (1 : Int32)] 1)) t := fun t k => castTop (ef_own_c2_kindOf m u0 u1 u2 u3 u4 u5 u6 u7) k
  obtain ⟨T1, X1, e1, st1⟩ := getS2 X0 hx hZ hown (host := "") (Or.inl (ww hw 25 rfl)) Via.refl e0 ((own_S_u1 G).ext O0.2) (g := (mkF m 13 #[vi (1 : Int32)] [])) rfl (hb hby d1_13)
  obtain ⟨fs, hr, hrun, hended, hW, hsame⟩ := X1.leave (v := some (xr u1)) (fun h => by rw [Bd.returns] at h; cases h)
  refine ⟨_, _, pre0 _ ?_, hrun, hended, _, _, rfl, ?_, ⟨_, rfl⟩, hW, hsame.mono (by decide) (by decide)⟩
  · show own_S p e below s₁ (mkF m 0 #[vi (1 : Int32)] []) _
    refine XS.iloadN X0.here hx rfl (hb hby d1_0) rfl ?_
    show own_S p e below s₁ (mkF m 1 #[vi (1 : Int32)] [xi (1 : Int32)]) _
    refine XS.ifYes X0.here hx rfl (pc0 := 1) (pc' := 8) rfl (hb hby d1_1) rfl (by decide) (by decide) (by decide) ?_
    show own_S p e below s₁ (mkF m 8 #[vi (1 : Int32)] []) _
    refine XS.iloadN X0.here hx rfl (hb hby d1_8) rfl ?_
    show own_S p e below s₁ (mkF m 9 #[vi (1 : Int32)] [xi (1 : Int32)]) _
    refine XS.iconst X0.here hx rfl (hb hby d1_9) ?_
    show own_S p e below s₁ (mkF m 10 #[vi (1 : Int32)] [xi (1 : Int32), xi (1 : Int32)]) _
    refine XS.icmpNo X0.here hx rfl (hb hby d1_10) rfl (by decide) ?_
    show own_S p e below s₁ (mkF m 13 #[vi (1 : Int32)] []) _
    refine st1 _ ?_
    show own_S p e below T1 (mkF m 16 #[vi (1 : Int32)] [xr u1]) _
    exact X1.areturnOut hx rfl Bd.returns rfl (hb hby d1_16) hr
  · exact ⟨rfl, N0, e1⟩
theorem d2_14 : decode prog_29_method_5_code 14 = .ok (.iconst 1, 1) := by decide +kernel
theorem d2_15 : decode prog_29_method_5_code 15 = .ok (.goto 4, 3) := by decide +kernel
theorem ef_own_c3_hasValue (m : MethodId) (u0 u1 u2 u3 u4 u5 u6 u7 : Addr) : entryFrame m #[xr u1] 1 = (mkF m 0 #[vr u1] []) := by first | (simp [entryFrame, mkF, argsToLocals, Value.category]; done) | rfl
set_option maxRecDepth 65536 in
set_option maxHeartbeats 40000000 in
theorem own_c3_hasValue (l : Launch) (Z : State) (a0 : Array Value) (hw : ∀ d ∈ tables_1, d.before a0 Z = true) (u0 u1 u2 u3 u4 u5 u6 u7 : Addr) (G : own_St Z u0 u1 u2 u3 u4 u5 u6 u7) (h0 : Heap) (n0 : Nat) (O0 : Old Z n0 h0) : own_Met l Z Y1 prog_29_method_5_code 1 (some .boolean) ({ frames := 0, cells := 0, slots := 0, locals := 0 } : Room) #[xr u1] h0 (own_QR (some (xi (1 : Int32))) h0 n0) := by
  intro ws
  refine MetFree.of_bodySF (plainFor_of_name pn1) hisR ?_
  intro p e s m args below meth c s₁ Bd hml0 hP hK
  obtain ⟨rfl, hZ, hh⟩ := hP
  have hx := Bd.exec
  have hby := Bd.bytes
  have hml : c.maxLocals = 1 := hml0
  have hown : s.vm.findClass "com/example/mibwright/mibwright/mib/Kind" = some m.cls := findClass_of_methodNamed Bd.named
  have hnm := (name_of_methodNamed Bd.named Bd.method).1
  have X0 : Stand p l e ({ frames := 0, cells := 0, slots := 0, locals := 0 } : Room) s m #[xr u1] below meth c s₁ [] 0 0 := Stand.of_body Bd
  have e0 : s₁.heap = h0 := by rw [← hh, Bd.state]; rfl
  have N0 := Fr.nil n0
  have pre0 : ∀ t, Steps p.tables e below (s₁.setTop (mkF m 0 #[vr u1] [])) t → Steps p.tables e below (s₁.setTop (entryFrame m #[xr u1] 1)) t := fun t k => castTop (ef_own_c3_hasValue m u0 u1 u2 u3 u4 u5 u6 u7) k
  obtain ⟨T1, X1, e1, st1⟩ := getS2 X0 hx hZ hown (host := "") (Or.inl (ww hw 13 rfl)) Via.refl e0 ((own_S_u1 G).ext O0.2) (g := (mkF m 1 #[vr u1] [xr u1])) rfl (hb hby d2_1)
  obtain ⟨fs, hr, hrun, hended, hW, hsame⟩ := X1.leave (v := some (xi (1 : Int32))) (fun h => by rw [Bd.returns] at h; cases h)
  refine ⟨_, _, pre0 _ ?_, hrun, hended, _, _, rfl, ?_, ⟨_, rfl⟩, hW, hsame.mono (by decide) (by decide)⟩
  · show own_S p e below s₁ (mkF m 0 #[vr u1] []) _
    refine XS.aloadN X0.here hx rfl (hb hby d2_0) rfl rfl ?_
    show own_S p e below s₁ (mkF m 1 #[vr u1] [xr u1]) _
    refine st1 _ ?_
    show own_S p e below T1 (mkF m 4 #[vr u1] [xr u1, xr u1]) _
    refine Jvm.RoadKit.acmp (g := (mkF m 4 #[vr u1] [xr u1, xr u1])) X1 hx rfl rfl rfl (pc0 := 4) (pc' := 14) (same := true) rfl (hb hby d2_4) rfl (decide_eq_true rfl) (by decide) (by decide) ?_
    show own_S p e below T1 (mkF m 14 #[vr u1] []) _
    refine XS.iconst X1.here hx rfl (hb hby d2_14) ?_
    show own_S p e below T1 (mkF m 15 #[vr u1] [xi (1 : Int32)]) _
    refine XS.goto X1.here hx rfl (pc0 := 15) (pc' := 19) rfl (hb hby d2_15) (by decide) (by decide) ?_
    show own_S p e below T1 (mkF m 19 #[vr u1] [xi (1 : Int32)]) _
    exact retN X1 hx (t := .boolean) Bd.returns (by simp) (hb hby d2_19) hr
  · exact ⟨rfl, N0, e1⟩
theorem ef_own_l1 (m : MethodId) (u0 u1 u2 u3 u4 u5 u6 u7 : Addr) (p1 : Int32) : entryFrame m #[xi p1] maxLocals = (mkF m 0 #[vi p1, vu, vu, vu] []) := by first | (simp [entryFrame, mkF, argsToLocals, Value.category, maxLocals]; done) | rfl
set_option maxRecDepth 65536 in
set_option maxHeartbeats 40000000 in
theorem own_l1 (l : Launch) (Z : State) (a0 : Array Value) (hw : ∀ d ∈ tables_1, d.before a0 Z = true) (u0 u1 u2 u3 u4 u5 u6 u7 : Addr) (G : own_St Z u0 u1 u2 u3 u4 u5 u6 u7) (p1 : Int32) (as1 : (p1 &&& (7 : Int32)) = (1 : Int32)) (h0 : Heap) (n0 : Nat) (O0 : Old Z n0 h0) : own_Met l Z x code maxLocals ret room_1 #[xi p1] h0 (own_QL (some (xi (1 : Int32))) n0) := by
  intro ws
  refine MetFree.of_bodySF (plainFor_of_name pn0) hisR ?_
  intro p e s m args below meth c s₁ Bd hml0 hP hK
  obtain ⟨rfl, hZ, hh⟩ := hP
  have hx := Bd.exec
  have hby := Bd.bytes
  have hml : c.maxLocals = 4 := hml0
  have hown : s.vm.findClass "com/example/mibwright/mibwright/mib/KindHasValuePinLaw" = some m.cls := findClass_of_methodNamed Bd.named
  have hnm := (name_of_methodNamed Bd.named Bd.method).1
  have X0 : Stand p l e room_1 s m #[xi p1] below meth c s₁ [] 0 0 := Stand.of_body Bd
  have e0 : s₁.heap = h0 := by rw [← hh, Bd.state]; rfl
  have N0 := Fr.nil n0
  have pre0 : ∀ t, Steps p.tables e below (s₁.setTop (mkF m 0 #[vi p1, vu, vu, vu] [])) t → Steps p.tables e below (s₁.setTop (entryFrame m #[xi p1] maxLocals)) t := fun t k => castTop (ef_own_l1 m u0 u1 u2 u3 u4 u5 u6 u7 p1) k
  obtain ⟨T1, h1, k1, X1, e1, E1, A1, st1⟩ := newP X0 hx hZ (ww hw 0 rfl) e0 (g := (mkF m 7 #[vi p1, vi (1 : Int32), vu, vu] [xi (8 : Int32)])) rfl (hb hby at_7) rfl (by decide) (cap := 8) (by decide) (by decide) (by decide) (by decide)
  obtain ⟨b1, g1⟩ : ∃ z, z = h0.size := ⟨_, rfl⟩
  rw [← g1] at A1 st1
  have g_b1 : n0 ≤ b1 := own_fresh O0 g1
  have O1 : Old Z n0 h1 := O0.ext E1
  have V_b1 : Arv Z h1 b1 k1 .boolean (8 : Int32) [(.int (0 : Int32)), (.int (0 : Int32)), (.int (0 : Int32)), (.int (0 : Int32)), (.int (0 : Int32)), (.int (0 : Int32)), (.int (0 : Int32)), (.int (0 : Int32))] (.int (0 : Int32)) := (Arv.new A1 (by decide)).pad (pad_rep [] (.int (0 : Int32)) 8)
  obtain ⟨cl2, Ar2, q2, S2, N2_, H2, G2⟩ := V_b1
  have hin2 : ¬ ((0 : Int32) < 0 ∨ cl2.slots.size ≤ ((0 : Int32)).toNatClampNeg) := inb_of S2 ⟨by decide, by decide⟩
  obtain ⟨T3, h3, X3, e3, W3, st3⟩ := stZ X1 hx hZ e1 Ar2 (j := (0 : Int32)) hin2 (g := (mkF m 12 #[vi p1, vi (1 : Int32), vu, vu] [xi (0 : Int32), xi (0 : Int32), xr b1, xr b1])) rfl rfl (hb hby at_12)
  have V_b1_3 : Arv Z h3 b1 k1 .boolean (8 : Int32) [xi (0 : Int32), xi (0 : Int32), xi (0 : Int32), xi (0 : Int32), xi (0 : Int32), xi (0 : Int32), xi (0 : Int32), xi (0 : Int32)] (.int (0 : Int32)) := Arv.set Ar2 q2 S2 N2_ H2 G2 (fits_nar_bool _) W3 0 rfl (Nat.le_of_ble_eq_true rfl)
  have O3 : Old Z n0 h3 := O1.wr W3 g_b1
  have N3 := Fr.snoc X3 N0 g_b1
  obtain ⟨cl4, Ar4, q4, S4, N4_, H4, G4⟩ := V_b1_3
  have hin4 : ¬ ((1 : Int32) < 0 ∨ cl4.slots.size ≤ ((1 : Int32)).toNatClampNeg) := inb_of S4 ⟨by decide, by decide⟩
  obtain ⟨T5, h5, X5, e5, W5, st5⟩ := stZ X3 hx hZ e3 Ar4 (j := (1 : Int32)) hin4 (g := (mkF m 16 #[vi p1, vi (1 : Int32), vu, vu] [xi (1 : Int32), xi (1 : Int32), xr b1, xr b1])) rfl rfl (hb hby at_16)
  have V_b1_5 : Arv Z h5 b1 k1 .boolean (8 : Int32) [xi (0 : Int32), xi (1 : Int32), xi (0 : Int32), xi (0 : Int32), xi (0 : Int32), xi (0 : Int32), xi (0 : Int32), xi (0 : Int32)] (.int (0 : Int32)) := Arv.set Ar4 q4 S4 N4_ H4 G4 (fits_nar_bool _) W5 1 rfl (Nat.le_of_ble_eq_true rfl)
  have O5 : Old Z n0 h5 := O3.wr W5 g_b1
  have N5 := Fr.snoc X5 N3 g_b1
  obtain ⟨cl6, Ar6, q6, S6, N6_, H6, G6⟩ := V_b1_5
  have hin6 : ¬ ((2 : Int32) < 0 ∨ cl6.slots.size ≤ ((2 : Int32)).toNatClampNeg) := inb_of S6 ⟨by decide, by decide⟩
  obtain ⟨T7, h7, X7, e7, W7, st7⟩ := stZ X5 hx hZ e5 Ar6 (j := (2 : Int32)) hin6 (g := (mkF m 20 #[vi p1, vi (1 : Int32), vu, vu] [xi (0 : Int32), xi (2 : Int32), xr b1, xr b1])) rfl rfl (hb hby at_20)
  have V_b1_7 : Arv Z h7 b1 k1 .boolean (8 : Int32) [xi (0 : Int32), xi (1 : Int32), xi (0 : Int32), xi (0 : Int32), xi (0 : Int32), xi (0 : Int32), xi (0 : Int32), xi (0 : Int32)] (.int (0 : Int32)) := Arv.set Ar6 q6 S6 N6_ H6 G6 (fits_nar_bool _) W7 2 rfl (Nat.le_of_ble_eq_true rfl)
  have O7 : Old Z n0 h7 := O5.wr W7 g_b1
  have N7 := Fr.snoc X7 N5 g_b1
  obtain ⟨cl8, Ar8, q8, S8, N8_, H8, G8⟩ := V_b1_7
  have hin8 : ¬ ((3 : Int32) < 0 ∨ cl8.slots.size ≤ ((3 : Int32)).toNatClampNeg) := inb_of S8 ⟨by decide, by decide⟩
  obtain ⟨T9, h9, X9, e9, W9, st9⟩ := stZ X7 hx hZ e7 Ar8 (j := (3 : Int32)) hin8 (g := (mkF m 24 #[vi p1, vi (1 : Int32), vu, vu] [xi (0 : Int32), xi (3 : Int32), xr b1, xr b1])) rfl rfl (hb hby at_24)
  have V_b1_9 : Arv Z h9 b1 k1 .boolean (8 : Int32) [xi (0 : Int32), xi (1 : Int32), xi (0 : Int32), xi (0 : Int32), xi (0 : Int32), xi (0 : Int32), xi (0 : Int32), xi (0 : Int32)] (.int (0 : Int32)) := Arv.set Ar8 q8 S8 N8_ H8 G8 (fits_nar_bool _) W9 3 rfl (Nat.le_of_ble_eq_true rfl)
  have O9 : Old Z n0 h9 := O7.wr W9 g_b1
  have N9 := Fr.snoc X9 N7 g_b1
  obtain ⟨cl10, Ar10, q10, S10, N10_, H10, G10⟩ := V_b1_9
  have hin10 : ¬ ((4 : Int32) < 0 ∨ cl10.slots.size ≤ ((4 : Int32)).toNatClampNeg) := inb_of S10 ⟨by decide, by decide⟩
  obtain ⟨T11, h11, X11, e11, W11, st11⟩ := stZ X9 hx hZ e9 Ar10 (j := (4 : Int32)) hin10 (g := (mkF m 28 #[vi p1, vi (1 : Int32), vu, vu] [xi (1 : Int32), xi (4 : Int32), xr b1, xr b1])) rfl rfl (hb hby at_28)
  have V_b1_11 : Arv Z h11 b1 k1 .boolean (8 : Int32) [xi (0 : Int32), xi (1 : Int32), xi (0 : Int32), xi (0 : Int32), xi (1 : Int32), xi (0 : Int32), xi (0 : Int32), xi (0 : Int32)] (.int (0 : Int32)) := Arv.set Ar10 q10 S10 N10_ H10 G10 (fits_nar_bool _) W11 4 rfl (Nat.le_of_ble_eq_true rfl)
  have O11 : Old Z n0 h11 := O9.wr W11 g_b1
  have N11 := Fr.snoc X11 N9 g_b1
  obtain ⟨cl12, Ar12, q12, S12, N12_, H12, G12⟩ := V_b1_11
  have hin12 : ¬ ((5 : Int32) < 0 ∨ cl12.slots.size ≤ ((5 : Int32)).toNatClampNeg) := inb_of S12 ⟨by decide, by decide⟩
  obtain ⟨T13, h13, X13, e13, W13, st13⟩ := stZ X11 hx hZ e11 Ar12 (j := (5 : Int32)) hin12 (g := (mkF m 32 #[vi p1, vi (1 : Int32), vu, vu] [xi (0 : Int32), xi (5 : Int32), xr b1, xr b1])) rfl rfl (hb hby at_32)
  have V_b1_13 : Arv Z h13 b1 k1 .boolean (8 : Int32) [xi (0 : Int32), xi (1 : Int32), xi (0 : Int32), xi (0 : Int32), xi (1 : Int32), xi (0 : Int32), xi (0 : Int32), xi (0 : Int32)] (.int (0 : Int32)) := Arv.set Ar12 q12 S12 N12_ H12 G12 (fits_nar_bool _) W13 5 rfl (Nat.le_of_ble_eq_true rfl)
  have O13 : Old Z n0 h13 := O11.wr W13 g_b1
  have N13 := Fr.snoc X13 N11 g_b1
  obtain ⟨cl14, Ar14, q14, S14, N14_, H14, G14⟩ := V_b1_13
  have hin14 : ¬ ((6 : Int32) < 0 ∨ cl14.slots.size ≤ ((6 : Int32)).toNatClampNeg) := inb_of S14 ⟨by decide, by decide⟩
  obtain ⟨T15, h15, X15, e15, W15, st15⟩ := stZ X13 hx hZ e13 Ar14 (j := (6 : Int32)) hin14 (g := (mkF m 37 #[vi p1, vi (1 : Int32), vu, vu] [xi (0 : Int32), xi (6 : Int32), xr b1, xr b1])) rfl rfl (hb hby at_37)
  have V_b1_15 : Arv Z h15 b1 k1 .boolean (8 : Int32) [xi (0 : Int32), xi (1 : Int32), xi (0 : Int32), xi (0 : Int32), xi (1 : Int32), xi (0 : Int32), xi (0 : Int32), xi (0 : Int32)] (.int (0 : Int32)) := Arv.set Ar14 q14 S14 N14_ H14 G14 (fits_nar_bool _) W15 6 rfl (Nat.le_of_ble_eq_true rfl)
  have O15 : Old Z n0 h15 := O13.wr W15 g_b1
  have N15 := Fr.snoc X15 N13 g_b1
  obtain ⟨cl16, Ar16, q16, S16, N16_, H16, G16⟩ := V_b1_15
  have hin16 : ¬ ((7 : Int32) < 0 ∨ cl16.slots.size ≤ ((7 : Int32)).toNatClampNeg) := inb_of S16 ⟨by decide, by decide⟩
  obtain ⟨T17, h17, X17, e17, W17, st17⟩ := stZ X15 hx hZ e15 Ar16 (j := (7 : Int32)) hin16 (g := (mkF m 42 #[vi p1, vi (1 : Int32), vu, vu] [xi (0 : Int32), xi (7 : Int32), xr b1, xr b1])) rfl rfl (hb hby at_42)
  have V_b1_17 : Arv Z h17 b1 k1 .boolean (8 : Int32) [xi (0 : Int32), xi (1 : Int32), xi (0 : Int32), xi (0 : Int32), xi (1 : Int32), xi (0 : Int32), xi (0 : Int32), xi (0 : Int32)] (.int (0 : Int32)) := Arv.set Ar16 q16 S16 N16_ H16 G16 (fits_nar_bool _) W17 7 rfl (Nat.le_of_ble_eq_true rfl)
  have O17 : Old Z n0 h17 := O15.wr W17 g_b1
  have N17 := Fr.snoc X17 N15 g_b1
  obtain ⟨_, _, ⟨T18, L18, k18, n18⟩, -, X18, ⟨Lc18, hQ18, l18, y18, z18⟩, st18⟩ := Jvm.LawKit.callS X17 hx (y := Y0) hown (mvT hZ (ww hw 1 rfl)) (mvT hZ (ww hw 2 rfl)) (mvT hZ (ww hw 3 rfl)) (mvT hZ (ww hw 4 rfl)) (by decide) (backOf (W := 0) (own_c2_kindOf l Z a0 hw u0 u1 u2 u3 u4 u5 u6 u7 G h17 n0 O17 []) hZ (ww hw 4 rfl) (ww hw 3 rfl) (by decide) (by decide)) (g := (mkF m 45 #[vi p1, vi (1 : Int32), vr b1, vu] [xi (1 : Int32)])) rfl (by rw [hml]; rfl) (argsL := [xi (1 : Int32)]) (rest := []) (lenOf pd0 rfl) rfl (by show 2 * 0 + _ ≤ _; exact Nat.le_of_eq rfl) (hb hby at_45) (fun _ _ => ⟨rfl, e17, (by decide : 1 + 0 ≤ _), (by decide : 8 + 0 ≤ _)⟩)
  dsimp only [Pt.U, Pt.locs, Pt.cells, Pt.slots] at X18 l18 y18 z18 st18 hQ18
  subst l18 y18 z18
  obtain ⟨rfl, Nq18, e18⟩ := hQ18
  have N18 := Fr.app N17 Nq18
  obtain ⟨cq19, kq19, qa19, qb19, qc19⟩ := isOf hZ e18 ((own_X_u1 G).ext O17.2)
  obtain ⟨_, _, ⟨T19, L19, k19, n19⟩, -, X19, ⟨Lc19, hQ19, l19, y19, z19⟩, st19⟩ := X18.virtualBack hx (y := Y1) (z := Y1) hown (mvT hZ (ww hw 8 rfl)) (mvT hZ (ww hw 9 rfl)) (notFace_of_selects (args := #[]) (mvT hZ (ww hw 11 rfl))) (mvT hZ (ww hw 11 rfl)) (mvT hZ (ww hw 10 rfl)) (by decide) (backOf (W := 0) (own_c3_hasValue l Z a0 hw u0 u1 u2 u3 u4 u5 u6 u7 G h17 n0 O17 []) hZ (ww hw 12 rfl) (ww hw 6 rfl) (by decide) (by decide)) qa19 qc19 (g := (mkF m 50 #[vi p1, vi (1 : Int32), vr b1, vr u1] [xr u1])) rfl (by rw [hml]; rfl) (Steps.refl _) (argsL := []) (rest := []) (lenOf pd1 rfl) rfl (by show 2 * 0 + _ ≤ _; exact Nat.le_of_eq rfl) (hb hby at_50) (fun _ _ => ⟨rfl, e18, (by decide : 1 + 0 ≤ _), (by decide : 8 + 0 ≤ _)⟩)
  dsimp only [Pt.U, Pt.locs, Pt.cells, Pt.slots] at X19 l19 y19 z19 st19 hQ19
  subst l19 y19 z19
  obtain ⟨rfl, Nq19, e19⟩ := hQ19
  have N19 := Fr.app N18 Nq19
  obtain ⟨cl20, Ar20, q20, S20, N20_, H20, G20⟩ := V_b1_17
  have hin20 : ¬ ((1 : Int32) < 0 ∨ cl20.slots.size ≤ ((1 : Int32)).toNatClampNeg) := inb_of S20 ⟨by decide, by decide⟩
  have hat20 : cl20.slots[((1 : Int32)).toNatClampNeg]? = some (xi (1 : Int32)) := Has.at H20 hin20 rfl
  obtain ⟨fs, hr, hrun, hended, hW, hsame⟩ := X19.leave (v := some (xi (1 : Int32))) (fun h => by rw [Bd.returns] at h; cases h)
  refine ⟨_, _, pre0 _ ?_, hrun, hended, _, _, rfl, ?_, ⟨_, rfl⟩, hW, hsame.mono (by decide) (by decide)⟩
  · show own_S p e below s₁ (mkF m 0 #[vi p1, vu, vu, vu] []) _
    refine XS.iloadN X0.here hx rfl (hb hby at_0) rfl ?_
    show own_S p e below s₁ (mkF m 1 #[vi p1, vu, vu, vu] [xi p1]) _
    refine XS.bipush X0.here hx rfl (hb hby at_1) ?_
    show own_S p e below s₁ (mkF m 3 #[vi p1, vu, vu, vu] [xi (7 : Int32), xi p1]) _
    refine XS.iand X0.here hx rfl (hb hby at_3) rfl ?_
    show own_S p e below s₁ (mkF m 4 #[vi p1, vu, vu, vu] [xi (p1 &&& (7 : Int32))]) _
    refine castTop (show (mkF m 4 #[vi p1, vu, vu, vu] [xi (p1 &&& (7 : Int32))]) = (mkF m 4 #[vi p1, vu, vu, vu] [xi (1 : Int32)]) from by rw [as1]) ?_
    show own_S p e below s₁ (mkF m 4 #[vi p1, vu, vu, vu] [xi (1 : Int32)]) _
    refine XS.istoreN X0.here hx rfl (hb hby at_4) rfl (l' := #[vi p1, vi (1 : Int32), vu, vu]) rfl ?_
    show own_S p e below s₁ (mkF m 5 #[vi p1, vi (1 : Int32), vu, vu] []) _
    refine XS.bipush X0.here hx rfl (hb hby at_5) ?_
    show own_S p e below s₁ (mkF m 7 #[vi p1, vi (1 : Int32), vu, vu] [xi (8 : Int32)]) _
    refine st1 _ ?_
    show own_S p e below T1 (mkF m 9 #[vi p1, vi (1 : Int32), vu, vu] [xr b1]) _
    refine XS.dup X1.here hx rfl (hb hby at_9) rfl rfl ?_
    show own_S p e below T1 (mkF m 10 #[vi p1, vi (1 : Int32), vu, vu] [xr b1, xr b1]) _
    refine XS.iconst X1.here hx rfl (hb hby at_10) ?_
    show own_S p e below T1 (mkF m 11 #[vi p1, vi (1 : Int32), vu, vu] [xi (0 : Int32), xr b1, xr b1]) _
    refine XS.iconst X1.here hx rfl (hb hby at_11) ?_
    show own_S p e below T1 (mkF m 12 #[vi p1, vi (1 : Int32), vu, vu] [xi (0 : Int32), xi (0 : Int32), xr b1, xr b1]) _
    refine st3 _ ?_
    show own_S p e below T3 (mkF m 13 #[vi p1, vi (1 : Int32), vu, vu] [xr b1]) _
    refine XS.dup X3.here hx rfl (hb hby at_13) rfl rfl ?_
    show own_S p e below T3 (mkF m 14 #[vi p1, vi (1 : Int32), vu, vu] [xr b1, xr b1]) _
    refine XS.iconst X3.here hx rfl (hb hby at_14) ?_
    show own_S p e below T3 (mkF m 15 #[vi p1, vi (1 : Int32), vu, vu] [xi (1 : Int32), xr b1, xr b1]) _
    refine XS.iconst X3.here hx rfl (hb hby at_15) ?_
    show own_S p e below T3 (mkF m 16 #[vi p1, vi (1 : Int32), vu, vu] [xi (1 : Int32), xi (1 : Int32), xr b1, xr b1]) _
    refine st5 _ ?_
    show own_S p e below T5 (mkF m 17 #[vi p1, vi (1 : Int32), vu, vu] [xr b1]) _
    refine XS.dup X5.here hx rfl (hb hby at_17) rfl rfl ?_
    show own_S p e below T5 (mkF m 18 #[vi p1, vi (1 : Int32), vu, vu] [xr b1, xr b1]) _
    refine XS.iconst X5.here hx rfl (hb hby at_18) ?_
    show own_S p e below T5 (mkF m 19 #[vi p1, vi (1 : Int32), vu, vu] [xi (2 : Int32), xr b1, xr b1]) _
    refine XS.iconst X5.here hx rfl (hb hby at_19) ?_
    show own_S p e below T5 (mkF m 20 #[vi p1, vi (1 : Int32), vu, vu] [xi (0 : Int32), xi (2 : Int32), xr b1, xr b1]) _
    refine st7 _ ?_
    show own_S p e below T7 (mkF m 21 #[vi p1, vi (1 : Int32), vu, vu] [xr b1]) _
    refine XS.dup X7.here hx rfl (hb hby at_21) rfl rfl ?_
    show own_S p e below T7 (mkF m 22 #[vi p1, vi (1 : Int32), vu, vu] [xr b1, xr b1]) _
    refine XS.iconst X7.here hx rfl (hb hby at_22) ?_
    show own_S p e below T7 (mkF m 23 #[vi p1, vi (1 : Int32), vu, vu] [xi (3 : Int32), xr b1, xr b1]) _
    refine XS.iconst X7.here hx rfl (hb hby at_23) ?_
    show own_S p e below T7 (mkF m 24 #[vi p1, vi (1 : Int32), vu, vu] [xi (0 : Int32), xi (3 : Int32), xr b1, xr b1]) _
    refine st9 _ ?_
    show own_S p e below T9 (mkF m 25 #[vi p1, vi (1 : Int32), vu, vu] [xr b1]) _
    refine XS.dup X9.here hx rfl (hb hby at_25) rfl rfl ?_
    show own_S p e below T9 (mkF m 26 #[vi p1, vi (1 : Int32), vu, vu] [xr b1, xr b1]) _
    refine XS.iconst X9.here hx rfl (hb hby at_26) ?_
    show own_S p e below T9 (mkF m 27 #[vi p1, vi (1 : Int32), vu, vu] [xi (4 : Int32), xr b1, xr b1]) _
    refine XS.iconst X9.here hx rfl (hb hby at_27) ?_
    show own_S p e below T9 (mkF m 28 #[vi p1, vi (1 : Int32), vu, vu] [xi (1 : Int32), xi (4 : Int32), xr b1, xr b1]) _
    refine st11 _ ?_
    show own_S p e below T11 (mkF m 29 #[vi p1, vi (1 : Int32), vu, vu] [xr b1]) _
    refine XS.dup X11.here hx rfl (hb hby at_29) rfl rfl ?_
    show own_S p e below T11 (mkF m 30 #[vi p1, vi (1 : Int32), vu, vu] [xr b1, xr b1]) _
    refine XS.iconst X11.here hx rfl (hb hby at_30) ?_
    show own_S p e below T11 (mkF m 31 #[vi p1, vi (1 : Int32), vu, vu] [xi (5 : Int32), xr b1, xr b1]) _
    refine XS.iconst X11.here hx rfl (hb hby at_31) ?_
    show own_S p e below T11 (mkF m 32 #[vi p1, vi (1 : Int32), vu, vu] [xi (0 : Int32), xi (5 : Int32), xr b1, xr b1]) _
    refine st13 _ ?_
    show own_S p e below T13 (mkF m 33 #[vi p1, vi (1 : Int32), vu, vu] [xr b1]) _
    refine XS.dup X13.here hx rfl (hb hby at_33) rfl rfl ?_
    show own_S p e below T13 (mkF m 34 #[vi p1, vi (1 : Int32), vu, vu] [xr b1, xr b1]) _
    refine XS.bipush X13.here hx rfl (hb hby at_34) ?_
    show own_S p e below T13 (mkF m 36 #[vi p1, vi (1 : Int32), vu, vu] [xi (6 : Int32), xr b1, xr b1]) _
    refine XS.iconst X13.here hx rfl (hb hby at_36) ?_
    show own_S p e below T13 (mkF m 37 #[vi p1, vi (1 : Int32), vu, vu] [xi (0 : Int32), xi (6 : Int32), xr b1, xr b1]) _
    refine st15 _ ?_
    show own_S p e below T15 (mkF m 38 #[vi p1, vi (1 : Int32), vu, vu] [xr b1]) _
    refine XS.dup X15.here hx rfl (hb hby at_38) rfl rfl ?_
    show own_S p e below T15 (mkF m 39 #[vi p1, vi (1 : Int32), vu, vu] [xr b1, xr b1]) _
    refine XS.bipush X15.here hx rfl (hb hby at_39) ?_
    show own_S p e below T15 (mkF m 41 #[vi p1, vi (1 : Int32), vu, vu] [xi (7 : Int32), xr b1, xr b1]) _
    refine XS.iconst X15.here hx rfl (hb hby at_41) ?_
    show own_S p e below T15 (mkF m 42 #[vi p1, vi (1 : Int32), vu, vu] [xi (0 : Int32), xi (7 : Int32), xr b1, xr b1]) _
    refine st17 _ ?_
    show own_S p e below T17 (mkF m 43 #[vi p1, vi (1 : Int32), vu, vu] [xr b1]) _
    refine XS.astoreN X17.here hx rfl (hb hby at_43) rfl rfl (l' := #[vi p1, vi (1 : Int32), vr b1, vu]) rfl ?_
    show own_S p e below T17 (mkF m 44 #[vi p1, vi (1 : Int32), vr b1, vu] []) _
    refine XS.iloadN X17.here hx rfl (hb hby at_44) rfl ?_
    show own_S p e below T17 (mkF m 45 #[vi p1, vi (1 : Int32), vr b1, vu] [xi (1 : Int32)]) _
    refine st18 _ ?_
    show own_S p e below T18 (mkF m 48 #[vi p1, vi (1 : Int32), vr b1, vu] [xr u1]) _
    refine XS.astoreN X18.here hx rfl (hb hby at_48) rfl rfl (l' := #[vi p1, vi (1 : Int32), vr b1, vr u1]) rfl ?_
    show own_S p e below T18 (mkF m 49 #[vi p1, vi (1 : Int32), vr b1, vr u1] []) _
    refine XS.aloadN X18.here hx rfl (hb hby at_49) rfl rfl ?_
    show own_S p e below T18 (mkF m 50 #[vi p1, vi (1 : Int32), vr b1, vr u1] [xr u1]) _
    refine st19.trans ?_
    show own_S p e below T19 (mkF m 53 #[vi p1, vi (1 : Int32), vr b1, vr u1] [xi (1 : Int32)]) _
    refine XS.aloadN X19.here hx rfl (hb hby at_53) rfl rfl ?_
    show own_S p e below T19 (mkF m 54 #[vi p1, vi (1 : Int32), vr b1, vr u1] [xr b1, xi (1 : Int32)]) _
    refine XS.iloadN X19.here hx rfl (hb hby at_54) rfl ?_
    show own_S p e below T19 (mkF m 55 #[vi p1, vi (1 : Int32), vr b1, vr u1] [xi (1 : Int32), xr b1, xi (1 : Int32)]) _
    refine X19.baloadBooleans hx (j := (1 : Int32)) (v := (xi (1 : Int32))) (by rw [e19]; exact Ar20.1) (State.isArrayOf_alike hZ.alike Ar20.2.1) Ar20.2.2 hin20 hat20 (g := (mkF m 55 #[vi p1, vi (1 : Int32), vr b1, vr u1] [xi (1 : Int32), xr b1, xi (1 : Int32)])) rfl rfl (hb hby at_55) _ ?_
    show own_S p e below T19 (mkF m 56 #[vi p1, vi (1 : Int32), vr b1, vr u1] [xi (1 : Int32), xi (1 : Int32)]) _
    refine XS.icmpNo X19.here hx rfl (hb hby at_56) rfl (by decide) ?_
    show own_S p e below T19 (mkF m 59 #[vi p1, vi (1 : Int32), vr b1, vr u1] []) _
    refine XS.iconst X19.here hx rfl (hb hby at_59) ?_
    show own_S p e below T19 (mkF m 60 #[vi p1, vi (1 : Int32), vr b1, vr u1] [xi (1 : Int32)]) _
    refine XS.goto X19.here hx rfl (pc0 := 60) (pc' := 64) rfl (hb hby at_60) (by decide) (by decide) ?_
    show own_S p e below T19 (mkF m 64 #[vi p1, vi (1 : Int32), vr b1, vr u1] [xi (1 : Int32)]) _
    exact retN X19 hx (t := .boolean) Bd.returns (by simp) (hb hby at_64) hr
  · exact ⟨rfl, N19⟩
theorem d1_17 : decode method_2_code 17 = .ok (.iload_n 0, 1) := by decide +kernel
theorem d1_18 : decode method_2_code 18 = .ok (.iconst 2, 1) := by decide +kernel
theorem d1_19 : decode method_2_code 19 = .ok (.if_icmp .ne 7, 3) := by decide +kernel
theorem d1_22 : decode method_2_code 22 = .ok (.getstatic 16, 3) := by decide +kernel
theorem d1_25 : decode method_2_code 25 = .ok (.areturn, 1) := by decide +kernel
theorem ef_own_c4_kindOf (m : MethodId) (u0 u1 u2 u3 u4 u5 u6 u7 : Addr) : entryFrame m #[xi (2 : Int32)] 1 = (mkF m 0 #[vi (2 : Int32)] []) := by first | (simp [entryFrame, mkF, argsToLocals, Value.category]; done) | rfl
set_option maxRecDepth 65536 in
set_option maxHeartbeats 40000000 in
theorem own_c4_kindOf (l : Launch) (Z : State) (a0 : Array Value) (hw : ∀ d ∈ tables_1, d.before a0 Z = true) (u0 u1 u2 u3 u4 u5 u6 u7 : Addr) (G : own_St Z u0 u1 u2 u3 u4 u5 u6 u7) (h0 : Heap) (n0 : Nat) (O0 : Old Z n0 h0) : own_Met l Z Y0 method_2_code 1 (some (.object "com/example/mibwright/mibwright/mib/Kind")) ({ frames := 0, cells := 0, slots := 0, locals := 0 } : Room) #[xi (2 : Int32)] h0 (own_QR (some (xr u6)) h0 n0) := by
  intro ws
  refine MetFree.of_bodySF (plainFor_of_name pn0) hisR ?_
  intro p e s m args below meth c s₁ Bd hml0 hP hK
  obtain ⟨rfl, hZ, hh⟩ := hP
  have hx := Bd.exec
  have hby := Bd.bytes
  have hml : c.maxLocals = 1 := hml0
  have hown : s.vm.findClass "com/example/mibwright/mibwright/mib/KindHasValuePinLaw" = some m.cls := findClass_of_methodNamed Bd.named
  have hnm := (name_of_methodNamed Bd.named Bd.method).1
  have X0 : Stand p l e ({ frames := 0, cells := 0, slots := 0, locals := 0 } : Room) s m #[xi (2 : Int32)] below meth c s₁ [] 0 0 := Stand.of_body Bd
  have e0 : s₁.heap = h0 := by rw [← hh, Bd.state]; rfl
  have N0 := Fr.nil n0
  have pre0 : ∀ t, Steps p.tables e below (s₁.setTop (mkF m 0 #[vi (2 : Int32)] [])) t → Steps p.tables e below (s₁.setTop (entryFrame m #[xi (2 : Int32)] 1)) t := fun t k => castTop (ef_own_c4_kindOf m u0 u1 u2 u3 u4 u5 u6 u7) k
  obtain ⟨T1, X1, e1, st1⟩ := getS2 X0 hx hZ hown (host := "") (Or.inl (ww hw 23 rfl)) Via.refl e0 ((own_S_u6 G).ext O0.2) (g := (mkF m 22 #[vi (2 : Int32)] [])) rfl (hb hby d1_22)
  obtain ⟨fs, hr, hrun, hended, hW, hsame⟩ := X1.leave (v := some (xr u6)) (fun h => by rw [Bd.returns] at h; cases h)
  refine ⟨_, _, pre0 _ ?_, hrun, hended, _, _, rfl, ?_, ⟨_, rfl⟩, hW, hsame.mono (by decide) (by decide)⟩
  · show own_S p e below s₁ (mkF m 0 #[vi (2 : Int32)] []) _
    refine XS.iloadN X0.here hx rfl (hb hby d1_0) rfl ?_
    show own_S p e below s₁ (mkF m 1 #[vi (2 : Int32)] [xi (2 : Int32)]) _
    refine XS.ifYes X0.here hx rfl (pc0 := 1) (pc' := 8) rfl (hb hby d1_1) rfl (by decide) (by decide) (by decide) ?_
    show own_S p e below s₁ (mkF m 8 #[vi (2 : Int32)] []) _
    refine XS.iloadN X0.here hx rfl (hb hby d1_8) rfl ?_
    show own_S p e below s₁ (mkF m 9 #[vi (2 : Int32)] [xi (2 : Int32)]) _
    refine XS.iconst X0.here hx rfl (hb hby d1_9) ?_
    show own_S p e below s₁ (mkF m 10 #[vi (2 : Int32)] [xi (1 : Int32), xi (2 : Int32)]) _
    refine XS.icmpYes X0.here hx rfl (pc0 := 10) (pc' := 17) rfl (hb hby d1_10) rfl (by decide) (by decide) (by decide) ?_
    show own_S p e below s₁ (mkF m 17 #[vi (2 : Int32)] []) _
    refine XS.iloadN X0.here hx rfl (hb hby d1_17) rfl ?_
    show own_S p e below s₁ (mkF m 18 #[vi (2 : Int32)] [xi (2 : Int32)]) _
    refine XS.iconst X0.here hx rfl (hb hby d1_18) ?_
    show own_S p e below s₁ (mkF m 19 #[vi (2 : Int32)] [xi (2 : Int32), xi (2 : Int32)]) _
    refine XS.icmpNo X0.here hx rfl (hb hby d1_19) rfl (by decide) ?_
    show own_S p e below s₁ (mkF m 22 #[vi (2 : Int32)] []) _
    refine st1 _ ?_
    show own_S p e below T1 (mkF m 25 #[vi (2 : Int32)] [xr u6]) _
    exact X1.areturnOut hx rfl Bd.returns rfl (hb hby d1_25) hr
  · exact ⟨rfl, N0, e1⟩
theorem own_ne_u6_u1 {Z : State} {u0 u1 u2 u3 u4 u5 u6 u7 : Addr} (G : own_St Z u0 u1 u2 u3 u4 u5 u6 u7) : u6 ≠ u1 := Fld.ne (own_F_u6_ordinal G) (own_F_u1_ordinal G) (by decide)
theorem own_ne_u6_u2 {Z : State} {u0 u1 u2 u3 u4 u5 u6 u7 : Addr} (G : own_St Z u0 u1 u2 u3 u4 u5 u6 u7) : u6 ≠ u2 := Fld.ne (own_F_u6_ordinal G) (own_F_u2_ordinal G) (by decide)
theorem ef_own_c5_hasValue (m : MethodId) (u0 u1 u2 u3 u4 u5 u6 u7 : Addr) : entryFrame m #[xr u6] 1 = (mkF m 0 #[vr u6] []) := by first | (simp [entryFrame, mkF, argsToLocals, Value.category]; done) | rfl
set_option maxRecDepth 65536 in
set_option maxHeartbeats 40000000 in
theorem own_c5_hasValue (l : Launch) (Z : State) (a0 : Array Value) (hw : ∀ d ∈ tables_1, d.before a0 Z = true) (u0 u1 u2 u3 u4 u5 u6 u7 : Addr) (G : own_St Z u0 u1 u2 u3 u4 u5 u6 u7) (h0 : Heap) (n0 : Nat) (O0 : Old Z n0 h0) : own_Met l Z Y1 prog_29_method_5_code 1 (some .boolean) ({ frames := 0, cells := 0, slots := 0, locals := 0 } : Room) #[xr u6] h0 (own_QR (some (xi (0 : Int32))) h0 n0) := by
  intro ws
  refine MetFree.of_bodySF (plainFor_of_name pn1) hisR ?_
  intro p e s m args below meth c s₁ Bd hml0 hP hK
  obtain ⟨rfl, hZ, hh⟩ := hP
  have hx := Bd.exec
  have hby := Bd.bytes
  have hml : c.maxLocals = 1 := hml0
  have hown : s.vm.findClass "com/example/mibwright/mibwright/mib/Kind" = some m.cls := findClass_of_methodNamed Bd.named
  have hnm := (name_of_methodNamed Bd.named Bd.method).1
  have X0 : Stand p l e ({ frames := 0, cells := 0, slots := 0, locals := 0 } : Room) s m #[xr u6] below meth c s₁ [] 0 0 := Stand.of_body Bd
  have e0 : s₁.heap = h0 := by rw [← hh, Bd.state]; rfl
  have N0 := Fr.nil n0
  have pre0 : ∀ t, Steps p.tables e below (s₁.setTop (mkF m 0 #[vr u6] [])) t → Steps p.tables e below (s₁.setTop (entryFrame m #[xr u6] 1)) t := fun t k => castTop (ef_own_c5_hasValue m u0 u1 u2 u3 u4 u5 u6 u7) k
  obtain ⟨T1, X1, e1, st1⟩ := getS2 X0 hx hZ hown (host := "") (Or.inl (ww hw 13 rfl)) Via.refl e0 ((own_S_u1 G).ext O0.2) (g := (mkF m 1 #[vr u6] [xr u6])) rfl (hb hby d2_1)
  obtain ⟨T2, X2, e2, st2⟩ := getS2 X1 hx hZ hown (host := "") (Or.inl (ww hw 15 rfl)) Via.refl e1 ((own_S_u2 G).ext O0.2) (g := (mkF m 8 #[vr u6] [xr u6])) rfl (hb hby d2_8)
  obtain ⟨fs, hr, hrun, hended, hW, hsame⟩ := X2.leave (v := some (xi (0 : Int32))) (fun h => by rw [Bd.returns] at h; cases h)
  refine ⟨_, _, pre0 _ ?_, hrun, hended, _, _, rfl, ?_, ⟨_, rfl⟩, hW, hsame.mono (by decide) (by decide)⟩
  · show own_S p e below s₁ (mkF m 0 #[vr u6] []) _
    refine XS.aloadN X0.here hx rfl (hb hby d2_0) rfl rfl ?_
    show own_S p e below s₁ (mkF m 1 #[vr u6] [xr u6]) _
    refine st1 _ ?_
    show own_S p e below T1 (mkF m 4 #[vr u6] [xr u1, xr u6]) _
    refine Jvm.RoadKit.acmp (g := (mkF m 4 #[vr u6] [xr u1, xr u6])) X1 hx rfl rfl rfl (pc0 := 4) (pc' := 7) (same := false) rfl (hb hby d2_4) rfl (own_ref (own_ne_u6_u1 G)) (by decide) (by decide) ?_
    show own_S p e below T1 (mkF m 7 #[vr u6] []) _
    refine XS.aloadN X1.here hx rfl (hb hby d2_7) rfl rfl ?_
    show own_S p e below T1 (mkF m 8 #[vr u6] [xr u6]) _
    refine st2 _ ?_
    show own_S p e below T2 (mkF m 11 #[vr u6] [xr u2, xr u6]) _
    refine Jvm.RoadKit.acmp (g := (mkF m 11 #[vr u6] [xr u2, xr u6])) X2 hx rfl rfl rfl (pc0 := 11) (pc' := 18) (same := false) rfl (hb hby d2_11) rfl (own_ref (own_ne_u6_u2 G)) (by decide) (by decide) ?_
    show own_S p e below T2 (mkF m 18 #[vr u6] []) _
    refine XS.iconst X2.here hx rfl (hb hby d2_18) ?_
    show own_S p e below T2 (mkF m 19 #[vr u6] [xi (0 : Int32)]) _
    exact retN X2 hx (t := .boolean) Bd.returns (by simp) (hb hby d2_19) hr
  · exact ⟨rfl, N0, e2⟩
theorem ef_own_l2 (m : MethodId) (u0 u1 u2 u3 u4 u5 u6 u7 : Addr) (p1 : Int32) : entryFrame m #[xi p1] maxLocals = (mkF m 0 #[vi p1, vu, vu, vu] []) := by first | (simp [entryFrame, mkF, argsToLocals, Value.category, maxLocals]; done) | rfl
set_option maxRecDepth 65536 in
set_option maxHeartbeats 40000000 in
theorem own_l2 (l : Launch) (Z : State) (a0 : Array Value) (hw : ∀ d ∈ tables_1, d.before a0 Z = true) (u0 u1 u2 u3 u4 u5 u6 u7 : Addr) (G : own_St Z u0 u1 u2 u3 u4 u5 u6 u7) (p1 : Int32) (as2 : (p1 &&& (7 : Int32)) = (2 : Int32)) (h0 : Heap) (n0 : Nat) (O0 : Old Z n0 h0) : own_Met l Z x code maxLocals ret room_1 #[xi p1] h0 (own_QL (some (xi (1 : Int32))) n0) := by
  intro ws
  refine MetFree.of_bodySF (plainFor_of_name pn0) hisR ?_
  intro p e s m args below meth c s₁ Bd hml0 hP hK
  obtain ⟨rfl, hZ, hh⟩ := hP
  have hx := Bd.exec
  have hby := Bd.bytes
  have hml : c.maxLocals = 4 := hml0
  have hown : s.vm.findClass "com/example/mibwright/mibwright/mib/KindHasValuePinLaw" = some m.cls := findClass_of_methodNamed Bd.named
  have hnm := (name_of_methodNamed Bd.named Bd.method).1
  have X0 : Stand p l e room_1 s m #[xi p1] below meth c s₁ [] 0 0 := Stand.of_body Bd
  have e0 : s₁.heap = h0 := by rw [← hh, Bd.state]; rfl
  have N0 := Fr.nil n0
  have pre0 : ∀ t, Steps p.tables e below (s₁.setTop (mkF m 0 #[vi p1, vu, vu, vu] [])) t → Steps p.tables e below (s₁.setTop (entryFrame m #[xi p1] maxLocals)) t := fun t k => castTop (ef_own_l2 m u0 u1 u2 u3 u4 u5 u6 u7 p1) k
  obtain ⟨T1, h1, k1, X1, e1, E1, A1, st1⟩ := newP X0 hx hZ (ww hw 0 rfl) e0 (g := (mkF m 7 #[vi p1, vi (2 : Int32), vu, vu] [xi (8 : Int32)])) rfl (hb hby at_7) rfl (by decide) (cap := 8) (by decide) (by decide) (by decide) (by decide)
  obtain ⟨b1, g1⟩ : ∃ z, z = h0.size := ⟨_, rfl⟩
  rw [← g1] at A1 st1
  have g_b1 : n0 ≤ b1 := own_fresh O0 g1
  have O1 : Old Z n0 h1 := O0.ext E1
  have V_b1 : Arv Z h1 b1 k1 .boolean (8 : Int32) [(.int (0 : Int32)), (.int (0 : Int32)), (.int (0 : Int32)), (.int (0 : Int32)), (.int (0 : Int32)), (.int (0 : Int32)), (.int (0 : Int32)), (.int (0 : Int32))] (.int (0 : Int32)) := (Arv.new A1 (by decide)).pad (pad_rep [] (.int (0 : Int32)) 8)
  obtain ⟨cl2, Ar2, q2, S2, N2_, H2, G2⟩ := V_b1
  have hin2 : ¬ ((0 : Int32) < 0 ∨ cl2.slots.size ≤ ((0 : Int32)).toNatClampNeg) := inb_of S2 ⟨by decide, by decide⟩
  obtain ⟨T3, h3, X3, e3, W3, st3⟩ := stZ X1 hx hZ e1 Ar2 (j := (0 : Int32)) hin2 (g := (mkF m 12 #[vi p1, vi (2 : Int32), vu, vu] [xi (0 : Int32), xi (0 : Int32), xr b1, xr b1])) rfl rfl (hb hby at_12)
  have V_b1_3 : Arv Z h3 b1 k1 .boolean (8 : Int32) [xi (0 : Int32), xi (0 : Int32), xi (0 : Int32), xi (0 : Int32), xi (0 : Int32), xi (0 : Int32), xi (0 : Int32), xi (0 : Int32)] (.int (0 : Int32)) := Arv.set Ar2 q2 S2 N2_ H2 G2 (fits_nar_bool _) W3 0 rfl (Nat.le_of_ble_eq_true rfl)
  have O3 : Old Z n0 h3 := O1.wr W3 g_b1
  have N3 := Fr.snoc X3 N0 g_b1
  obtain ⟨cl4, Ar4, q4, S4, N4_, H4, G4⟩ := V_b1_3
  have hin4 : ¬ ((1 : Int32) < 0 ∨ cl4.slots.size ≤ ((1 : Int32)).toNatClampNeg) := inb_of S4 ⟨by decide, by decide⟩
  obtain ⟨T5, h5, X5, e5, W5, st5⟩ := stZ X3 hx hZ e3 Ar4 (j := (1 : Int32)) hin4 (g := (mkF m 16 #[vi p1, vi (2 : Int32), vu, vu] [xi (1 : Int32), xi (1 : Int32), xr b1, xr b1])) rfl rfl (hb hby at_16)
  have V_b1_5 : Arv Z h5 b1 k1 .boolean (8 : Int32) [xi (0 : Int32), xi (1 : Int32), xi (0 : Int32), xi (0 : Int32), xi (0 : Int32), xi (0 : Int32), xi (0 : Int32), xi (0 : Int32)] (.int (0 : Int32)) := Arv.set Ar4 q4 S4 N4_ H4 G4 (fits_nar_bool _) W5 1 rfl (Nat.le_of_ble_eq_true rfl)
  have O5 : Old Z n0 h5 := O3.wr W5 g_b1
  have N5 := Fr.snoc X5 N3 g_b1
  obtain ⟨cl6, Ar6, q6, S6, N6_, H6, G6⟩ := V_b1_5
  have hin6 : ¬ ((2 : Int32) < 0 ∨ cl6.slots.size ≤ ((2 : Int32)).toNatClampNeg) := inb_of S6 ⟨by decide, by decide⟩
  obtain ⟨T7, h7, X7, e7, W7, st7⟩ := stZ X5 hx hZ e5 Ar6 (j := (2 : Int32)) hin6 (g := (mkF m 20 #[vi p1, vi (2 : Int32), vu, vu] [xi (0 : Int32), xi (2 : Int32), xr b1, xr b1])) rfl rfl (hb hby at_20)
  have V_b1_7 : Arv Z h7 b1 k1 .boolean (8 : Int32) [xi (0 : Int32), xi (1 : Int32), xi (0 : Int32), xi (0 : Int32), xi (0 : Int32), xi (0 : Int32), xi (0 : Int32), xi (0 : Int32)] (.int (0 : Int32)) := Arv.set Ar6 q6 S6 N6_ H6 G6 (fits_nar_bool _) W7 2 rfl (Nat.le_of_ble_eq_true rfl)
  have O7 : Old Z n0 h7 := O5.wr W7 g_b1
  have N7 := Fr.snoc X7 N5 g_b1
  obtain ⟨cl8, Ar8, q8, S8, N8_, H8, G8⟩ := V_b1_7
  have hin8 : ¬ ((3 : Int32) < 0 ∨ cl8.slots.size ≤ ((3 : Int32)).toNatClampNeg) := inb_of S8 ⟨by decide, by decide⟩
  obtain ⟨T9, h9, X9, e9, W9, st9⟩ := stZ X7 hx hZ e7 Ar8 (j := (3 : Int32)) hin8 (g := (mkF m 24 #[vi p1, vi (2 : Int32), vu, vu] [xi (0 : Int32), xi (3 : Int32), xr b1, xr b1])) rfl rfl (hb hby at_24)
  have V_b1_9 : Arv Z h9 b1 k1 .boolean (8 : Int32) [xi (0 : Int32), xi (1 : Int32), xi (0 : Int32), xi (0 : Int32), xi (0 : Int32), xi (0 : Int32), xi (0 : Int32), xi (0 : Int32)] (.int (0 : Int32)) := Arv.set Ar8 q8 S8 N8_ H8 G8 (fits_nar_bool _) W9 3 rfl (Nat.le_of_ble_eq_true rfl)
  have O9 : Old Z n0 h9 := O7.wr W9 g_b1
  have N9 := Fr.snoc X9 N7 g_b1
  obtain ⟨cl10, Ar10, q10, S10, N10_, H10, G10⟩ := V_b1_9
  have hin10 : ¬ ((4 : Int32) < 0 ∨ cl10.slots.size ≤ ((4 : Int32)).toNatClampNeg) := inb_of S10 ⟨by decide, by decide⟩
  obtain ⟨T11, h11, X11, e11, W11, st11⟩ := stZ X9 hx hZ e9 Ar10 (j := (4 : Int32)) hin10 (g := (mkF m 28 #[vi p1, vi (2 : Int32), vu, vu] [xi (1 : Int32), xi (4 : Int32), xr b1, xr b1])) rfl rfl (hb hby at_28)
  have V_b1_11 : Arv Z h11 b1 k1 .boolean (8 : Int32) [xi (0 : Int32), xi (1 : Int32), xi (0 : Int32), xi (0 : Int32), xi (1 : Int32), xi (0 : Int32), xi (0 : Int32), xi (0 : Int32)] (.int (0 : Int32)) := Arv.set Ar10 q10 S10 N10_ H10 G10 (fits_nar_bool _) W11 4 rfl (Nat.le_of_ble_eq_true rfl)
  have O11 : Old Z n0 h11 := O9.wr W11 g_b1
  have N11 := Fr.snoc X11 N9 g_b1
  obtain ⟨cl12, Ar12, q12, S12, N12_, H12, G12⟩ := V_b1_11
  have hin12 : ¬ ((5 : Int32) < 0 ∨ cl12.slots.size ≤ ((5 : Int32)).toNatClampNeg) := inb_of S12 ⟨by decide, by decide⟩
  obtain ⟨T13, h13, X13, e13, W13, st13⟩ := stZ X11 hx hZ e11 Ar12 (j := (5 : Int32)) hin12 (g := (mkF m 32 #[vi p1, vi (2 : Int32), vu, vu] [xi (0 : Int32), xi (5 : Int32), xr b1, xr b1])) rfl rfl (hb hby at_32)
  have V_b1_13 : Arv Z h13 b1 k1 .boolean (8 : Int32) [xi (0 : Int32), xi (1 : Int32), xi (0 : Int32), xi (0 : Int32), xi (1 : Int32), xi (0 : Int32), xi (0 : Int32), xi (0 : Int32)] (.int (0 : Int32)) := Arv.set Ar12 q12 S12 N12_ H12 G12 (fits_nar_bool _) W13 5 rfl (Nat.le_of_ble_eq_true rfl)
  have O13 : Old Z n0 h13 := O11.wr W13 g_b1
  have N13 := Fr.snoc X13 N11 g_b1
  obtain ⟨cl14, Ar14, q14, S14, N14_, H14, G14⟩ := V_b1_13
  have hin14 : ¬ ((6 : Int32) < 0 ∨ cl14.slots.size ≤ ((6 : Int32)).toNatClampNeg) := inb_of S14 ⟨by decide, by decide⟩
  obtain ⟨T15, h15, X15, e15, W15, st15⟩ := stZ X13 hx hZ e13 Ar14 (j := (6 : Int32)) hin14 (g := (mkF m 37 #[vi p1, vi (2 : Int32), vu, vu] [xi (0 : Int32), xi (6 : Int32), xr b1, xr b1])) rfl rfl (hb hby at_37)
  have V_b1_15 : Arv Z h15 b1 k1 .boolean (8 : Int32) [xi (0 : Int32), xi (1 : Int32), xi (0 : Int32), xi (0 : Int32), xi (1 : Int32), xi (0 : Int32), xi (0 : Int32), xi (0 : Int32)] (.int (0 : Int32)) := Arv.set Ar14 q14 S14 N14_ H14 G14 (fits_nar_bool _) W15 6 rfl (Nat.le_of_ble_eq_true rfl)
  have O15 : Old Z n0 h15 := O13.wr W15 g_b1
  have N15 := Fr.snoc X15 N13 g_b1
  obtain ⟨cl16, Ar16, q16, S16, N16_, H16, G16⟩ := V_b1_15
  have hin16 : ¬ ((7 : Int32) < 0 ∨ cl16.slots.size ≤ ((7 : Int32)).toNatClampNeg) := inb_of S16 ⟨by decide, by decide⟩
  obtain ⟨T17, h17, X17, e17, W17, st17⟩ := stZ X15 hx hZ e15 Ar16 (j := (7 : Int32)) hin16 (g := (mkF m 42 #[vi p1, vi (2 : Int32), vu, vu] [xi (0 : Int32), xi (7 : Int32), xr b1, xr b1])) rfl rfl (hb hby at_42)
  have V_b1_17 : Arv Z h17 b1 k1 .boolean (8 : Int32) [xi (0 : Int32), xi (1 : Int32), xi (0 : Int32), xi (0 : Int32), xi (1 : Int32), xi (0 : Int32), xi (0 : Int32), xi (0 : Int32)] (.int (0 : Int32)) := Arv.set Ar16 q16 S16 N16_ H16 G16 (fits_nar_bool _) W17 7 rfl (Nat.le_of_ble_eq_true rfl)
  have O17 : Old Z n0 h17 := O15.wr W17 g_b1
  have N17 := Fr.snoc X17 N15 g_b1
  obtain ⟨_, _, ⟨T18, L18, k18, n18⟩, -, X18, ⟨Lc18, hQ18, l18, y18, z18⟩, st18⟩ := Jvm.LawKit.callS X17 hx (y := Y0) hown (mvT hZ (ww hw 1 rfl)) (mvT hZ (ww hw 2 rfl)) (mvT hZ (ww hw 3 rfl)) (mvT hZ (ww hw 4 rfl)) (by decide) (backOf (W := 0) (own_c4_kindOf l Z a0 hw u0 u1 u2 u3 u4 u5 u6 u7 G h17 n0 O17 []) hZ (ww hw 4 rfl) (ww hw 3 rfl) (by decide) (by decide)) (g := (mkF m 45 #[vi p1, vi (2 : Int32), vr b1, vu] [xi (2 : Int32)])) rfl (by rw [hml]; rfl) (argsL := [xi (2 : Int32)]) (rest := []) (lenOf pd0 rfl) rfl (by show 2 * 0 + _ ≤ _; exact Nat.le_of_eq rfl) (hb hby at_45) (fun _ _ => ⟨rfl, e17, (by decide : 1 + 0 ≤ _), (by decide : 8 + 0 ≤ _)⟩)
  dsimp only [Pt.U, Pt.locs, Pt.cells, Pt.slots] at X18 l18 y18 z18 st18 hQ18
  subst l18 y18 z18
  obtain ⟨rfl, Nq18, e18⟩ := hQ18
  have N18 := Fr.app N17 Nq18
  obtain ⟨cq19, kq19, qa19, qb19, qc19⟩ := isOf hZ e18 ((own_X_u6 G).ext O17.2)
  obtain ⟨_, _, ⟨T19, L19, k19, n19⟩, -, X19, ⟨Lc19, hQ19, l19, y19, z19⟩, st19⟩ := X18.virtualBack hx (y := Y1) (z := Y1) hown (mvT hZ (ww hw 8 rfl)) (mvT hZ (ww hw 9 rfl)) (notFace_of_selects (args := #[]) (mvT hZ (ww hw 11 rfl))) (mvT hZ (ww hw 11 rfl)) (mvT hZ (ww hw 10 rfl)) (by decide) (backOf (W := 0) (own_c5_hasValue l Z a0 hw u0 u1 u2 u3 u4 u5 u6 u7 G h17 n0 O17 []) hZ (ww hw 12 rfl) (ww hw 6 rfl) (by decide) (by decide)) qa19 qc19 (g := (mkF m 50 #[vi p1, vi (2 : Int32), vr b1, vr u6] [xr u6])) rfl (by rw [hml]; rfl) (Steps.refl _) (argsL := []) (rest := []) (lenOf pd1 rfl) rfl (by show 2 * 0 + _ ≤ _; exact Nat.le_of_eq rfl) (hb hby at_50) (fun _ _ => ⟨rfl, e18, (by decide : 1 + 0 ≤ _), (by decide : 8 + 0 ≤ _)⟩)
  dsimp only [Pt.U, Pt.locs, Pt.cells, Pt.slots] at X19 l19 y19 z19 st19 hQ19
  subst l19 y19 z19
  obtain ⟨rfl, Nq19, e19⟩ := hQ19
  have N19 := Fr.app N18 Nq19
  obtain ⟨cl20, Ar20, q20, S20, N20_, H20, G20⟩ := V_b1_17
  have hin20 : ¬ ((2 : Int32) < 0 ∨ cl20.slots.size ≤ ((2 : Int32)).toNatClampNeg) := inb_of S20 ⟨by decide, by decide⟩
  have hat20 : cl20.slots[((2 : Int32)).toNatClampNeg]? = some (xi (0 : Int32)) := Has.at H20 hin20 rfl
  obtain ⟨fs, hr, hrun, hended, hW, hsame⟩ := X19.leave (v := some (xi (1 : Int32))) (fun h => by rw [Bd.returns] at h; cases h)
  refine ⟨_, _, pre0 _ ?_, hrun, hended, _, _, rfl, ?_, ⟨_, rfl⟩, hW, hsame.mono (by decide) (by decide)⟩
  · show own_S p e below s₁ (mkF m 0 #[vi p1, vu, vu, vu] []) _
    refine XS.iloadN X0.here hx rfl (hb hby at_0) rfl ?_
    show own_S p e below s₁ (mkF m 1 #[vi p1, vu, vu, vu] [xi p1]) _
    refine XS.bipush X0.here hx rfl (hb hby at_1) ?_
    show own_S p e below s₁ (mkF m 3 #[vi p1, vu, vu, vu] [xi (7 : Int32), xi p1]) _
    refine XS.iand X0.here hx rfl (hb hby at_3) rfl ?_
    show own_S p e below s₁ (mkF m 4 #[vi p1, vu, vu, vu] [xi (p1 &&& (7 : Int32))]) _
    refine castTop (show (mkF m 4 #[vi p1, vu, vu, vu] [xi (p1 &&& (7 : Int32))]) = (mkF m 4 #[vi p1, vu, vu, vu] [xi (2 : Int32)]) from by rw [as2]) ?_
    show own_S p e below s₁ (mkF m 4 #[vi p1, vu, vu, vu] [xi (2 : Int32)]) _
    refine XS.istoreN X0.here hx rfl (hb hby at_4) rfl (l' := #[vi p1, vi (2 : Int32), vu, vu]) rfl ?_
    show own_S p e below s₁ (mkF m 5 #[vi p1, vi (2 : Int32), vu, vu] []) _
    refine XS.bipush X0.here hx rfl (hb hby at_5) ?_
    show own_S p e below s₁ (mkF m 7 #[vi p1, vi (2 : Int32), vu, vu] [xi (8 : Int32)]) _
    refine st1 _ ?_
    show own_S p e below T1 (mkF m 9 #[vi p1, vi (2 : Int32), vu, vu] [xr b1]) _
    refine XS.dup X1.here hx rfl (hb hby at_9) rfl rfl ?_
    show own_S p e below T1 (mkF m 10 #[vi p1, vi (2 : Int32), vu, vu] [xr b1, xr b1]) _
    refine XS.iconst X1.here hx rfl (hb hby at_10) ?_
    show own_S p e below T1 (mkF m 11 #[vi p1, vi (2 : Int32), vu, vu] [xi (0 : Int32), xr b1, xr b1]) _
    refine XS.iconst X1.here hx rfl (hb hby at_11) ?_
    show own_S p e below T1 (mkF m 12 #[vi p1, vi (2 : Int32), vu, vu] [xi (0 : Int32), xi (0 : Int32), xr b1, xr b1]) _
    refine st3 _ ?_
    show own_S p e below T3 (mkF m 13 #[vi p1, vi (2 : Int32), vu, vu] [xr b1]) _
    refine XS.dup X3.here hx rfl (hb hby at_13) rfl rfl ?_
    show own_S p e below T3 (mkF m 14 #[vi p1, vi (2 : Int32), vu, vu] [xr b1, xr b1]) _
    refine XS.iconst X3.here hx rfl (hb hby at_14) ?_
    show own_S p e below T3 (mkF m 15 #[vi p1, vi (2 : Int32), vu, vu] [xi (1 : Int32), xr b1, xr b1]) _
    refine XS.iconst X3.here hx rfl (hb hby at_15) ?_
    show own_S p e below T3 (mkF m 16 #[vi p1, vi (2 : Int32), vu, vu] [xi (1 : Int32), xi (1 : Int32), xr b1, xr b1]) _
    refine st5 _ ?_
    show own_S p e below T5 (mkF m 17 #[vi p1, vi (2 : Int32), vu, vu] [xr b1]) _
    refine XS.dup X5.here hx rfl (hb hby at_17) rfl rfl ?_
    show own_S p e below T5 (mkF m 18 #[vi p1, vi (2 : Int32), vu, vu] [xr b1, xr b1]) _
    refine XS.iconst X5.here hx rfl (hb hby at_18) ?_
    show own_S p e below T5 (mkF m 19 #[vi p1, vi (2 : Int32), vu, vu] [xi (2 : Int32), xr b1, xr b1]) _
    refine XS.iconst X5.here hx rfl (hb hby at_19) ?_
    show own_S p e below T5 (mkF m 20 #[vi p1, vi (2 : Int32), vu, vu] [xi (0 : Int32), xi (2 : Int32), xr b1, xr b1]) _
    refine st7 _ ?_
    show own_S p e below T7 (mkF m 21 #[vi p1, vi (2 : Int32), vu, vu] [xr b1]) _
    refine XS.dup X7.here hx rfl (hb hby at_21) rfl rfl ?_
    show own_S p e below T7 (mkF m 22 #[vi p1, vi (2 : Int32), vu, vu] [xr b1, xr b1]) _
    refine XS.iconst X7.here hx rfl (hb hby at_22) ?_
    show own_S p e below T7 (mkF m 23 #[vi p1, vi (2 : Int32), vu, vu] [xi (3 : Int32), xr b1, xr b1]) _
    refine XS.iconst X7.here hx rfl (hb hby at_23) ?_
    show own_S p e below T7 (mkF m 24 #[vi p1, vi (2 : Int32), vu, vu] [xi (0 : Int32), xi (3 : Int32), xr b1, xr b1]) _
    refine st9 _ ?_
    show own_S p e below T9 (mkF m 25 #[vi p1, vi (2 : Int32), vu, vu] [xr b1]) _
    refine XS.dup X9.here hx rfl (hb hby at_25) rfl rfl ?_
    show own_S p e below T9 (mkF m 26 #[vi p1, vi (2 : Int32), vu, vu] [xr b1, xr b1]) _
    refine XS.iconst X9.here hx rfl (hb hby at_26) ?_
    show own_S p e below T9 (mkF m 27 #[vi p1, vi (2 : Int32), vu, vu] [xi (4 : Int32), xr b1, xr b1]) _
    refine XS.iconst X9.here hx rfl (hb hby at_27) ?_
    show own_S p e below T9 (mkF m 28 #[vi p1, vi (2 : Int32), vu, vu] [xi (1 : Int32), xi (4 : Int32), xr b1, xr b1]) _
    refine st11 _ ?_
    show own_S p e below T11 (mkF m 29 #[vi p1, vi (2 : Int32), vu, vu] [xr b1]) _
    refine XS.dup X11.here hx rfl (hb hby at_29) rfl rfl ?_
    show own_S p e below T11 (mkF m 30 #[vi p1, vi (2 : Int32), vu, vu] [xr b1, xr b1]) _
    refine XS.iconst X11.here hx rfl (hb hby at_30) ?_
    show own_S p e below T11 (mkF m 31 #[vi p1, vi (2 : Int32), vu, vu] [xi (5 : Int32), xr b1, xr b1]) _
    refine XS.iconst X11.here hx rfl (hb hby at_31) ?_
    show own_S p e below T11 (mkF m 32 #[vi p1, vi (2 : Int32), vu, vu] [xi (0 : Int32), xi (5 : Int32), xr b1, xr b1]) _
    refine st13 _ ?_
    show own_S p e below T13 (mkF m 33 #[vi p1, vi (2 : Int32), vu, vu] [xr b1]) _
    refine XS.dup X13.here hx rfl (hb hby at_33) rfl rfl ?_
    show own_S p e below T13 (mkF m 34 #[vi p1, vi (2 : Int32), vu, vu] [xr b1, xr b1]) _
    refine XS.bipush X13.here hx rfl (hb hby at_34) ?_
    show own_S p e below T13 (mkF m 36 #[vi p1, vi (2 : Int32), vu, vu] [xi (6 : Int32), xr b1, xr b1]) _
    refine XS.iconst X13.here hx rfl (hb hby at_36) ?_
    show own_S p e below T13 (mkF m 37 #[vi p1, vi (2 : Int32), vu, vu] [xi (0 : Int32), xi (6 : Int32), xr b1, xr b1]) _
    refine st15 _ ?_
    show own_S p e below T15 (mkF m 38 #[vi p1, vi (2 : Int32), vu, vu] [xr b1]) _
    refine XS.dup X15.here hx rfl (hb hby at_38) rfl rfl ?_
    show own_S p e below T15 (mkF m 39 #[vi p1, vi (2 : Int32), vu, vu] [xr b1, xr b1]) _
    refine XS.bipush X15.here hx rfl (hb hby at_39) ?_
    show own_S p e below T15 (mkF m 41 #[vi p1, vi (2 : Int32), vu, vu] [xi (7 : Int32), xr b1, xr b1]) _
    refine XS.iconst X15.here hx rfl (hb hby at_41) ?_
    show own_S p e below T15 (mkF m 42 #[vi p1, vi (2 : Int32), vu, vu] [xi (0 : Int32), xi (7 : Int32), xr b1, xr b1]) _
    refine st17 _ ?_
    show own_S p e below T17 (mkF m 43 #[vi p1, vi (2 : Int32), vu, vu] [xr b1]) _
    refine XS.astoreN X17.here hx rfl (hb hby at_43) rfl rfl (l' := #[vi p1, vi (2 : Int32), vr b1, vu]) rfl ?_
    show own_S p e below T17 (mkF m 44 #[vi p1, vi (2 : Int32), vr b1, vu] []) _
    refine XS.iloadN X17.here hx rfl (hb hby at_44) rfl ?_
    show own_S p e below T17 (mkF m 45 #[vi p1, vi (2 : Int32), vr b1, vu] [xi (2 : Int32)]) _
    refine st18 _ ?_
    show own_S p e below T18 (mkF m 48 #[vi p1, vi (2 : Int32), vr b1, vu] [xr u6]) _
    refine XS.astoreN X18.here hx rfl (hb hby at_48) rfl rfl (l' := #[vi p1, vi (2 : Int32), vr b1, vr u6]) rfl ?_
    show own_S p e below T18 (mkF m 49 #[vi p1, vi (2 : Int32), vr b1, vr u6] []) _
    refine XS.aloadN X18.here hx rfl (hb hby at_49) rfl rfl ?_
    show own_S p e below T18 (mkF m 50 #[vi p1, vi (2 : Int32), vr b1, vr u6] [xr u6]) _
    refine st19.trans ?_
    show own_S p e below T19 (mkF m 53 #[vi p1, vi (2 : Int32), vr b1, vr u6] [xi (0 : Int32)]) _
    refine XS.aloadN X19.here hx rfl (hb hby at_53) rfl rfl ?_
    show own_S p e below T19 (mkF m 54 #[vi p1, vi (2 : Int32), vr b1, vr u6] [xr b1, xi (0 : Int32)]) _
    refine XS.iloadN X19.here hx rfl (hb hby at_54) rfl ?_
    show own_S p e below T19 (mkF m 55 #[vi p1, vi (2 : Int32), vr b1, vr u6] [xi (2 : Int32), xr b1, xi (0 : Int32)]) _
    refine X19.baloadBooleans hx (j := (2 : Int32)) (v := (xi (0 : Int32))) (by rw [e19]; exact Ar20.1) (State.isArrayOf_alike hZ.alike Ar20.2.1) Ar20.2.2 hin20 hat20 (g := (mkF m 55 #[vi p1, vi (2 : Int32), vr b1, vr u6] [xi (2 : Int32), xr b1, xi (0 : Int32)])) rfl rfl (hb hby at_55) _ ?_
    show own_S p e below T19 (mkF m 56 #[vi p1, vi (2 : Int32), vr b1, vr u6] [xi (0 : Int32), xi (0 : Int32)]) _
    refine XS.icmpNo X19.here hx rfl (hb hby at_56) rfl (by decide) ?_
    show own_S p e below T19 (mkF m 59 #[vi p1, vi (2 : Int32), vr b1, vr u6] []) _
    refine XS.iconst X19.here hx rfl (hb hby at_59) ?_
    show own_S p e below T19 (mkF m 60 #[vi p1, vi (2 : Int32), vr b1, vr u6] [xi (1 : Int32)]) _
    refine XS.goto X19.here hx rfl (pc0 := 60) (pc' := 64) rfl (hb hby at_60) (by decide) (by decide) ?_
    show own_S p e below T19 (mkF m 64 #[vi p1, vi (2 : Int32), vr b1, vr u6] [xi (1 : Int32)]) _
    exact retN X19 hx (t := .boolean) Bd.returns (by simp) (hb hby at_64) hr
  · exact ⟨rfl, N19⟩
theorem d1_26 : decode method_2_code 26 = .ok (.iload_n 0, 1) := by decide +kernel
theorem d1_27 : decode method_2_code 27 = .ok (.iconst 3, 1) := by decide +kernel
theorem d1_28 : decode method_2_code 28 = .ok (.if_icmp .ne 7, 3) := by decide +kernel
theorem d1_31 : decode method_2_code 31 = .ok (.getstatic 19, 3) := by decide +kernel
theorem d1_34 : decode method_2_code 34 = .ok (.areturn, 1) := by decide +kernel
theorem ef_own_c6_kindOf (m : MethodId) (u0 u1 u2 u3 u4 u5 u6 u7 : Addr) : entryFrame m #[xi (3 : Int32)] 1 = (mkF m 0 #[vi (3 : Int32)] []) := by first | (simp [entryFrame, mkF, argsToLocals, Value.category]; done) | rfl
set_option maxRecDepth 65536 in
set_option maxHeartbeats 40000000 in
theorem own_c6_kindOf (l : Launch) (Z : State) (a0 : Array Value) (hw : ∀ d ∈ tables_1, d.before a0 Z = true) (u0 u1 u2 u3 u4 u5 u6 u7 : Addr) (G : own_St Z u0 u1 u2 u3 u4 u5 u6 u7) (h0 : Heap) (n0 : Nat) (O0 : Old Z n0 h0) : own_Met l Z Y0 method_2_code 1 (some (.object "com/example/mibwright/mibwright/mib/Kind")) ({ frames := 0, cells := 0, slots := 0, locals := 0 } : Room) #[xi (3 : Int32)] h0 (own_QR (some (xr u3)) h0 n0) := by
  intro ws
  refine MetFree.of_bodySF (plainFor_of_name pn0) hisR ?_
  intro p e s m args below meth c s₁ Bd hml0 hP hK
  obtain ⟨rfl, hZ, hh⟩ := hP
  have hx := Bd.exec
  have hby := Bd.bytes
  have hml : c.maxLocals = 1 := hml0
  have hown : s.vm.findClass "com/example/mibwright/mibwright/mib/KindHasValuePinLaw" = some m.cls := findClass_of_methodNamed Bd.named
  have hnm := (name_of_methodNamed Bd.named Bd.method).1
  have X0 : Stand p l e ({ frames := 0, cells := 0, slots := 0, locals := 0 } : Room) s m #[xi (3 : Int32)] below meth c s₁ [] 0 0 := Stand.of_body Bd
  have e0 : s₁.heap = h0 := by rw [← hh, Bd.state]; rfl
  have N0 := Fr.nil n0
  have pre0 : ∀ t, Steps p.tables e below (s₁.setTop (mkF m 0 #[vi (3 : Int32)] [])) t → Steps p.tables e below (s₁.setTop (entryFrame m #[xi (3 : Int32)] 1)) t := fun t k => castTop (ef_own_c6_kindOf m u0 u1 u2 u3 u4 u5 u6 u7) k
  obtain ⟨T1, X1, e1, st1⟩ := getS2 X0 hx hZ hown (host := "") (Or.inl (ww hw 17 rfl)) Via.refl e0 ((own_S_u3 G).ext O0.2) (g := (mkF m 31 #[vi (3 : Int32)] [])) rfl (hb hby d1_31)
  obtain ⟨fs, hr, hrun, hended, hW, hsame⟩ := X1.leave (v := some (xr u3)) (fun h => by rw [Bd.returns] at h; cases h)
  refine ⟨_, _, pre0 _ ?_, hrun, hended, _, _, rfl, ?_, ⟨_, rfl⟩, hW, hsame.mono (by decide) (by decide)⟩
  · show own_S p e below s₁ (mkF m 0 #[vi (3 : Int32)] []) _
    refine XS.iloadN X0.here hx rfl (hb hby d1_0) rfl ?_
    show own_S p e below s₁ (mkF m 1 #[vi (3 : Int32)] [xi (3 : Int32)]) _
    refine XS.ifYes X0.here hx rfl (pc0 := 1) (pc' := 8) rfl (hb hby d1_1) rfl (by decide) (by decide) (by decide) ?_
    show own_S p e below s₁ (mkF m 8 #[vi (3 : Int32)] []) _
    refine XS.iloadN X0.here hx rfl (hb hby d1_8) rfl ?_
    show own_S p e below s₁ (mkF m 9 #[vi (3 : Int32)] [xi (3 : Int32)]) _
    refine XS.iconst X0.here hx rfl (hb hby d1_9) ?_
    show own_S p e below s₁ (mkF m 10 #[vi (3 : Int32)] [xi (1 : Int32), xi (3 : Int32)]) _
    refine XS.icmpYes X0.here hx rfl (pc0 := 10) (pc' := 17) rfl (hb hby d1_10) rfl (by decide) (by decide) (by decide) ?_
    show own_S p e below s₁ (mkF m 17 #[vi (3 : Int32)] []) _
    refine XS.iloadN X0.here hx rfl (hb hby d1_17) rfl ?_
    show own_S p e below s₁ (mkF m 18 #[vi (3 : Int32)] [xi (3 : Int32)]) _
    refine XS.iconst X0.here hx rfl (hb hby d1_18) ?_
    show own_S p e below s₁ (mkF m 19 #[vi (3 : Int32)] [xi (2 : Int32), xi (3 : Int32)]) _
    refine XS.icmpYes X0.here hx rfl (pc0 := 19) (pc' := 26) rfl (hb hby d1_19) rfl (by decide) (by decide) (by decide) ?_
    show own_S p e below s₁ (mkF m 26 #[vi (3 : Int32)] []) _
    refine XS.iloadN X0.here hx rfl (hb hby d1_26) rfl ?_
    show own_S p e below s₁ (mkF m 27 #[vi (3 : Int32)] [xi (3 : Int32)]) _
    refine XS.iconst X0.here hx rfl (hb hby d1_27) ?_
    show own_S p e below s₁ (mkF m 28 #[vi (3 : Int32)] [xi (3 : Int32), xi (3 : Int32)]) _
    refine XS.icmpNo X0.here hx rfl (hb hby d1_28) rfl (by decide) ?_
    show own_S p e below s₁ (mkF m 31 #[vi (3 : Int32)] []) _
    refine st1 _ ?_
    show own_S p e below T1 (mkF m 34 #[vi (3 : Int32)] [xr u3]) _
    exact X1.areturnOut hx rfl Bd.returns rfl (hb hby d1_34) hr
  · exact ⟨rfl, N0, e1⟩
theorem own_ne_u3_u1 {Z : State} {u0 u1 u2 u3 u4 u5 u6 u7 : Addr} (G : own_St Z u0 u1 u2 u3 u4 u5 u6 u7) : u3 ≠ u1 := Fld.ne (own_F_u3_ordinal G) (own_F_u1_ordinal G) (by decide)
theorem own_ne_u3_u2 {Z : State} {u0 u1 u2 u3 u4 u5 u6 u7 : Addr} (G : own_St Z u0 u1 u2 u3 u4 u5 u6 u7) : u3 ≠ u2 := Fld.ne (own_F_u3_ordinal G) (own_F_u2_ordinal G) (by decide)
theorem ef_own_c7_hasValue (m : MethodId) (u0 u1 u2 u3 u4 u5 u6 u7 : Addr) : entryFrame m #[xr u3] 1 = (mkF m 0 #[vr u3] []) := by first | (simp [entryFrame, mkF, argsToLocals, Value.category]; done) | rfl
set_option maxRecDepth 65536 in
set_option maxHeartbeats 40000000 in
theorem own_c7_hasValue (l : Launch) (Z : State) (a0 : Array Value) (hw : ∀ d ∈ tables_1, d.before a0 Z = true) (u0 u1 u2 u3 u4 u5 u6 u7 : Addr) (G : own_St Z u0 u1 u2 u3 u4 u5 u6 u7) (h0 : Heap) (n0 : Nat) (O0 : Old Z n0 h0) : own_Met l Z Y1 prog_29_method_5_code 1 (some .boolean) ({ frames := 0, cells := 0, slots := 0, locals := 0 } : Room) #[xr u3] h0 (own_QR (some (xi (0 : Int32))) h0 n0) := by
  intro ws
  refine MetFree.of_bodySF (plainFor_of_name pn1) hisR ?_
  intro p e s m args below meth c s₁ Bd hml0 hP hK
  obtain ⟨rfl, hZ, hh⟩ := hP
  have hx := Bd.exec
  have hby := Bd.bytes
  have hml : c.maxLocals = 1 := hml0
  have hown : s.vm.findClass "com/example/mibwright/mibwright/mib/Kind" = some m.cls := findClass_of_methodNamed Bd.named
  have hnm := (name_of_methodNamed Bd.named Bd.method).1
  have X0 : Stand p l e ({ frames := 0, cells := 0, slots := 0, locals := 0 } : Room) s m #[xr u3] below meth c s₁ [] 0 0 := Stand.of_body Bd
  have e0 : s₁.heap = h0 := by rw [← hh, Bd.state]; rfl
  have N0 := Fr.nil n0
  have pre0 : ∀ t, Steps p.tables e below (s₁.setTop (mkF m 0 #[vr u3] [])) t → Steps p.tables e below (s₁.setTop (entryFrame m #[xr u3] 1)) t := fun t k => castTop (ef_own_c7_hasValue m u0 u1 u2 u3 u4 u5 u6 u7) k
  obtain ⟨T1, X1, e1, st1⟩ := getS2 X0 hx hZ hown (host := "") (Or.inl (ww hw 13 rfl)) Via.refl e0 ((own_S_u1 G).ext O0.2) (g := (mkF m 1 #[vr u3] [xr u3])) rfl (hb hby d2_1)
  obtain ⟨T2, X2, e2, st2⟩ := getS2 X1 hx hZ hown (host := "") (Or.inl (ww hw 15 rfl)) Via.refl e1 ((own_S_u2 G).ext O0.2) (g := (mkF m 8 #[vr u3] [xr u3])) rfl (hb hby d2_8)
  obtain ⟨fs, hr, hrun, hended, hW, hsame⟩ := X2.leave (v := some (xi (0 : Int32))) (fun h => by rw [Bd.returns] at h; cases h)
  refine ⟨_, _, pre0 _ ?_, hrun, hended, _, _, rfl, ?_, ⟨_, rfl⟩, hW, hsame.mono (by decide) (by decide)⟩
  · show own_S p e below s₁ (mkF m 0 #[vr u3] []) _
    refine XS.aloadN X0.here hx rfl (hb hby d2_0) rfl rfl ?_
    show own_S p e below s₁ (mkF m 1 #[vr u3] [xr u3]) _
    refine st1 _ ?_
    show own_S p e below T1 (mkF m 4 #[vr u3] [xr u1, xr u3]) _
    refine Jvm.RoadKit.acmp (g := (mkF m 4 #[vr u3] [xr u1, xr u3])) X1 hx rfl rfl rfl (pc0 := 4) (pc' := 7) (same := false) rfl (hb hby d2_4) rfl (own_ref (own_ne_u3_u1 G)) (by decide) (by decide) ?_
    show own_S p e below T1 (mkF m 7 #[vr u3] []) _
    refine XS.aloadN X1.here hx rfl (hb hby d2_7) rfl rfl ?_
    show own_S p e below T1 (mkF m 8 #[vr u3] [xr u3]) _
    refine st2 _ ?_
    show own_S p e below T2 (mkF m 11 #[vr u3] [xr u2, xr u3]) _
    refine Jvm.RoadKit.acmp (g := (mkF m 11 #[vr u3] [xr u2, xr u3])) X2 hx rfl rfl rfl (pc0 := 11) (pc' := 18) (same := false) rfl (hb hby d2_11) rfl (own_ref (own_ne_u3_u2 G)) (by decide) (by decide) ?_
    show own_S p e below T2 (mkF m 18 #[vr u3] []) _
    refine XS.iconst X2.here hx rfl (hb hby d2_18) ?_
    show own_S p e below T2 (mkF m 19 #[vr u3] [xi (0 : Int32)]) _
    exact retN X2 hx (t := .boolean) Bd.returns (by simp) (hb hby d2_19) hr
  · exact ⟨rfl, N0, e2⟩
theorem ef_own_l3 (m : MethodId) (u0 u1 u2 u3 u4 u5 u6 u7 : Addr) (p1 : Int32) : entryFrame m #[xi p1] maxLocals = (mkF m 0 #[vi p1, vu, vu, vu] []) := by first | (simp [entryFrame, mkF, argsToLocals, Value.category, maxLocals]; done) | rfl
set_option maxRecDepth 65536 in
set_option maxHeartbeats 40000000 in
theorem own_l3 (l : Launch) (Z : State) (a0 : Array Value) (hw : ∀ d ∈ tables_1, d.before a0 Z = true) (u0 u1 u2 u3 u4 u5 u6 u7 : Addr) (G : own_St Z u0 u1 u2 u3 u4 u5 u6 u7) (p1 : Int32) (as3 : (p1 &&& (7 : Int32)) = (3 : Int32)) (h0 : Heap) (n0 : Nat) (O0 : Old Z n0 h0) : own_Met l Z x code maxLocals ret room_1 #[xi p1] h0 (own_QL (some (xi (1 : Int32))) n0) := by
  intro ws
  refine MetFree.of_bodySF (plainFor_of_name pn0) hisR ?_
  intro p e s m args below meth c s₁ Bd hml0 hP hK
  obtain ⟨rfl, hZ, hh⟩ := hP
  have hx := Bd.exec
  have hby := Bd.bytes
  have hml : c.maxLocals = 4 := hml0
  have hown : s.vm.findClass "com/example/mibwright/mibwright/mib/KindHasValuePinLaw" = some m.cls := findClass_of_methodNamed Bd.named
  have hnm := (name_of_methodNamed Bd.named Bd.method).1
  have X0 : Stand p l e room_1 s m #[xi p1] below meth c s₁ [] 0 0 := Stand.of_body Bd
  have e0 : s₁.heap = h0 := by rw [← hh, Bd.state]; rfl
  have N0 := Fr.nil n0
  have pre0 : ∀ t, Steps p.tables e below (s₁.setTop (mkF m 0 #[vi p1, vu, vu, vu] [])) t → Steps p.tables e below (s₁.setTop (entryFrame m #[xi p1] maxLocals)) t := fun t k => castTop (ef_own_l3 m u0 u1 u2 u3 u4 u5 u6 u7 p1) k
  obtain ⟨T1, h1, k1, X1, e1, E1, A1, st1⟩ := newP X0 hx hZ (ww hw 0 rfl) e0 (g := (mkF m 7 #[vi p1, vi (3 : Int32), vu, vu] [xi (8 : Int32)])) rfl (hb hby at_7) rfl (by decide) (cap := 8) (by decide) (by decide) (by decide) (by decide)
  obtain ⟨b1, g1⟩ : ∃ z, z = h0.size := ⟨_, rfl⟩
  rw [← g1] at A1 st1
  have g_b1 : n0 ≤ b1 := own_fresh O0 g1
  have O1 : Old Z n0 h1 := O0.ext E1
  have V_b1 : Arv Z h1 b1 k1 .boolean (8 : Int32) [(.int (0 : Int32)), (.int (0 : Int32)), (.int (0 : Int32)), (.int (0 : Int32)), (.int (0 : Int32)), (.int (0 : Int32)), (.int (0 : Int32)), (.int (0 : Int32))] (.int (0 : Int32)) := (Arv.new A1 (by decide)).pad (pad_rep [] (.int (0 : Int32)) 8)
  obtain ⟨cl2, Ar2, q2, S2, N2_, H2, G2⟩ := V_b1
  have hin2 : ¬ ((0 : Int32) < 0 ∨ cl2.slots.size ≤ ((0 : Int32)).toNatClampNeg) := inb_of S2 ⟨by decide, by decide⟩
  obtain ⟨T3, h3, X3, e3, W3, st3⟩ := stZ X1 hx hZ e1 Ar2 (j := (0 : Int32)) hin2 (g := (mkF m 12 #[vi p1, vi (3 : Int32), vu, vu] [xi (0 : Int32), xi (0 : Int32), xr b1, xr b1])) rfl rfl (hb hby at_12)
  have V_b1_3 : Arv Z h3 b1 k1 .boolean (8 : Int32) [xi (0 : Int32), xi (0 : Int32), xi (0 : Int32), xi (0 : Int32), xi (0 : Int32), xi (0 : Int32), xi (0 : Int32), xi (0 : Int32)] (.int (0 : Int32)) := Arv.set Ar2 q2 S2 N2_ H2 G2 (fits_nar_bool _) W3 0 rfl (Nat.le_of_ble_eq_true rfl)
  have O3 : Old Z n0 h3 := O1.wr W3 g_b1
  have N3 := Fr.snoc X3 N0 g_b1
  obtain ⟨cl4, Ar4, q4, S4, N4_, H4, G4⟩ := V_b1_3
  have hin4 : ¬ ((1 : Int32) < 0 ∨ cl4.slots.size ≤ ((1 : Int32)).toNatClampNeg) := inb_of S4 ⟨by decide, by decide⟩
  obtain ⟨T5, h5, X5, e5, W5, st5⟩ := stZ X3 hx hZ e3 Ar4 (j := (1 : Int32)) hin4 (g := (mkF m 16 #[vi p1, vi (3 : Int32), vu, vu] [xi (1 : Int32), xi (1 : Int32), xr b1, xr b1])) rfl rfl (hb hby at_16)
  have V_b1_5 : Arv Z h5 b1 k1 .boolean (8 : Int32) [xi (0 : Int32), xi (1 : Int32), xi (0 : Int32), xi (0 : Int32), xi (0 : Int32), xi (0 : Int32), xi (0 : Int32), xi (0 : Int32)] (.int (0 : Int32)) := Arv.set Ar4 q4 S4 N4_ H4 G4 (fits_nar_bool _) W5 1 rfl (Nat.le_of_ble_eq_true rfl)
  have O5 : Old Z n0 h5 := O3.wr W5 g_b1
  have N5 := Fr.snoc X5 N3 g_b1
  obtain ⟨cl6, Ar6, q6, S6, N6_, H6, G6⟩ := V_b1_5
  have hin6 : ¬ ((2 : Int32) < 0 ∨ cl6.slots.size ≤ ((2 : Int32)).toNatClampNeg) := inb_of S6 ⟨by decide, by decide⟩
  obtain ⟨T7, h7, X7, e7, W7, st7⟩ := stZ X5 hx hZ e5 Ar6 (j := (2 : Int32)) hin6 (g := (mkF m 20 #[vi p1, vi (3 : Int32), vu, vu] [xi (0 : Int32), xi (2 : Int32), xr b1, xr b1])) rfl rfl (hb hby at_20)
  have V_b1_7 : Arv Z h7 b1 k1 .boolean (8 : Int32) [xi (0 : Int32), xi (1 : Int32), xi (0 : Int32), xi (0 : Int32), xi (0 : Int32), xi (0 : Int32), xi (0 : Int32), xi (0 : Int32)] (.int (0 : Int32)) := Arv.set Ar6 q6 S6 N6_ H6 G6 (fits_nar_bool _) W7 2 rfl (Nat.le_of_ble_eq_true rfl)
  have O7 : Old Z n0 h7 := O5.wr W7 g_b1
  have N7 := Fr.snoc X7 N5 g_b1
  obtain ⟨cl8, Ar8, q8, S8, N8_, H8, G8⟩ := V_b1_7
  have hin8 : ¬ ((3 : Int32) < 0 ∨ cl8.slots.size ≤ ((3 : Int32)).toNatClampNeg) := inb_of S8 ⟨by decide, by decide⟩
  obtain ⟨T9, h9, X9, e9, W9, st9⟩ := stZ X7 hx hZ e7 Ar8 (j := (3 : Int32)) hin8 (g := (mkF m 24 #[vi p1, vi (3 : Int32), vu, vu] [xi (0 : Int32), xi (3 : Int32), xr b1, xr b1])) rfl rfl (hb hby at_24)
  have V_b1_9 : Arv Z h9 b1 k1 .boolean (8 : Int32) [xi (0 : Int32), xi (1 : Int32), xi (0 : Int32), xi (0 : Int32), xi (0 : Int32), xi (0 : Int32), xi (0 : Int32), xi (0 : Int32)] (.int (0 : Int32)) := Arv.set Ar8 q8 S8 N8_ H8 G8 (fits_nar_bool _) W9 3 rfl (Nat.le_of_ble_eq_true rfl)
  have O9 : Old Z n0 h9 := O7.wr W9 g_b1
  have N9 := Fr.snoc X9 N7 g_b1
  obtain ⟨cl10, Ar10, q10, S10, N10_, H10, G10⟩ := V_b1_9
  have hin10 : ¬ ((4 : Int32) < 0 ∨ cl10.slots.size ≤ ((4 : Int32)).toNatClampNeg) := inb_of S10 ⟨by decide, by decide⟩
  obtain ⟨T11, h11, X11, e11, W11, st11⟩ := stZ X9 hx hZ e9 Ar10 (j := (4 : Int32)) hin10 (g := (mkF m 28 #[vi p1, vi (3 : Int32), vu, vu] [xi (1 : Int32), xi (4 : Int32), xr b1, xr b1])) rfl rfl (hb hby at_28)
  have V_b1_11 : Arv Z h11 b1 k1 .boolean (8 : Int32) [xi (0 : Int32), xi (1 : Int32), xi (0 : Int32), xi (0 : Int32), xi (1 : Int32), xi (0 : Int32), xi (0 : Int32), xi (0 : Int32)] (.int (0 : Int32)) := Arv.set Ar10 q10 S10 N10_ H10 G10 (fits_nar_bool _) W11 4 rfl (Nat.le_of_ble_eq_true rfl)
  have O11 : Old Z n0 h11 := O9.wr W11 g_b1
  have N11 := Fr.snoc X11 N9 g_b1
  obtain ⟨cl12, Ar12, q12, S12, N12_, H12, G12⟩ := V_b1_11
  have hin12 : ¬ ((5 : Int32) < 0 ∨ cl12.slots.size ≤ ((5 : Int32)).toNatClampNeg) := inb_of S12 ⟨by decide, by decide⟩
  obtain ⟨T13, h13, X13, e13, W13, st13⟩ := stZ X11 hx hZ e11 Ar12 (j := (5 : Int32)) hin12 (g := (mkF m 32 #[vi p1, vi (3 : Int32), vu, vu] [xi (0 : Int32), xi (5 : Int32), xr b1, xr b1])) rfl rfl (hb hby at_32)
  have V_b1_13 : Arv Z h13 b1 k1 .boolean (8 : Int32) [xi (0 : Int32), xi (1 : Int32), xi (0 : Int32), xi (0 : Int32), xi (1 : Int32), xi (0 : Int32), xi (0 : Int32), xi (0 : Int32)] (.int (0 : Int32)) := Arv.set Ar12 q12 S12 N12_ H12 G12 (fits_nar_bool _) W13 5 rfl (Nat.le_of_ble_eq_true rfl)
  have O13 : Old Z n0 h13 := O11.wr W13 g_b1
  have N13 := Fr.snoc X13 N11 g_b1
  obtain ⟨cl14, Ar14, q14, S14, N14_, H14, G14⟩ := V_b1_13
  have hin14 : ¬ ((6 : Int32) < 0 ∨ cl14.slots.size ≤ ((6 : Int32)).toNatClampNeg) := inb_of S14 ⟨by decide, by decide⟩
  obtain ⟨T15, h15, X15, e15, W15, st15⟩ := stZ X13 hx hZ e13 Ar14 (j := (6 : Int32)) hin14 (g := (mkF m 37 #[vi p1, vi (3 : Int32), vu, vu] [xi (0 : Int32), xi (6 : Int32), xr b1, xr b1])) rfl rfl (hb hby at_37)
  have V_b1_15 : Arv Z h15 b1 k1 .boolean (8 : Int32) [xi (0 : Int32), xi (1 : Int32), xi (0 : Int32), xi (0 : Int32), xi (1 : Int32), xi (0 : Int32), xi (0 : Int32), xi (0 : Int32)] (.int (0 : Int32)) := Arv.set Ar14 q14 S14 N14_ H14 G14 (fits_nar_bool _) W15 6 rfl (Nat.le_of_ble_eq_true rfl)
  have O15 : Old Z n0 h15 := O13.wr W15 g_b1
  have N15 := Fr.snoc X15 N13 g_b1
  obtain ⟨cl16, Ar16, q16, S16, N16_, H16, G16⟩ := V_b1_15
  have hin16 : ¬ ((7 : Int32) < 0 ∨ cl16.slots.size ≤ ((7 : Int32)).toNatClampNeg) := inb_of S16 ⟨by decide, by decide⟩
  obtain ⟨T17, h17, X17, e17, W17, st17⟩ := stZ X15 hx hZ e15 Ar16 (j := (7 : Int32)) hin16 (g := (mkF m 42 #[vi p1, vi (3 : Int32), vu, vu] [xi (0 : Int32), xi (7 : Int32), xr b1, xr b1])) rfl rfl (hb hby at_42)
  have V_b1_17 : Arv Z h17 b1 k1 .boolean (8 : Int32) [xi (0 : Int32), xi (1 : Int32), xi (0 : Int32), xi (0 : Int32), xi (1 : Int32), xi (0 : Int32), xi (0 : Int32), xi (0 : Int32)] (.int (0 : Int32)) := Arv.set Ar16 q16 S16 N16_ H16 G16 (fits_nar_bool _) W17 7 rfl (Nat.le_of_ble_eq_true rfl)
  have O17 : Old Z n0 h17 := O15.wr W17 g_b1
  have N17 := Fr.snoc X17 N15 g_b1
  obtain ⟨_, _, ⟨T18, L18, k18, n18⟩, -, X18, ⟨Lc18, hQ18, l18, y18, z18⟩, st18⟩ := Jvm.LawKit.callS X17 hx (y := Y0) hown (mvT hZ (ww hw 1 rfl)) (mvT hZ (ww hw 2 rfl)) (mvT hZ (ww hw 3 rfl)) (mvT hZ (ww hw 4 rfl)) (by decide) (backOf (W := 0) (own_c6_kindOf l Z a0 hw u0 u1 u2 u3 u4 u5 u6 u7 G h17 n0 O17 []) hZ (ww hw 4 rfl) (ww hw 3 rfl) (by decide) (by decide)) (g := (mkF m 45 #[vi p1, vi (3 : Int32), vr b1, vu] [xi (3 : Int32)])) rfl (by rw [hml]; rfl) (argsL := [xi (3 : Int32)]) (rest := []) (lenOf pd0 rfl) rfl (by show 2 * 0 + _ ≤ _; exact Nat.le_of_eq rfl) (hb hby at_45) (fun _ _ => ⟨rfl, e17, (by decide : 1 + 0 ≤ _), (by decide : 8 + 0 ≤ _)⟩)
  dsimp only [Pt.U, Pt.locs, Pt.cells, Pt.slots] at X18 l18 y18 z18 st18 hQ18
  subst l18 y18 z18
  obtain ⟨rfl, Nq18, e18⟩ := hQ18
  have N18 := Fr.app N17 Nq18
  obtain ⟨cq19, kq19, qa19, qb19, qc19⟩ := isOf hZ e18 ((own_X_u3 G).ext O17.2)
  obtain ⟨_, _, ⟨T19, L19, k19, n19⟩, -, X19, ⟨Lc19, hQ19, l19, y19, z19⟩, st19⟩ := X18.virtualBack hx (y := Y1) (z := Y1) hown (mvT hZ (ww hw 8 rfl)) (mvT hZ (ww hw 9 rfl)) (notFace_of_selects (args := #[]) (mvT hZ (ww hw 11 rfl))) (mvT hZ (ww hw 11 rfl)) (mvT hZ (ww hw 10 rfl)) (by decide) (backOf (W := 0) (own_c7_hasValue l Z a0 hw u0 u1 u2 u3 u4 u5 u6 u7 G h17 n0 O17 []) hZ (ww hw 12 rfl) (ww hw 6 rfl) (by decide) (by decide)) qa19 qc19 (g := (mkF m 50 #[vi p1, vi (3 : Int32), vr b1, vr u3] [xr u3])) rfl (by rw [hml]; rfl) (Steps.refl _) (argsL := []) (rest := []) (lenOf pd1 rfl) rfl (by show 2 * 0 + _ ≤ _; exact Nat.le_of_eq rfl) (hb hby at_50) (fun _ _ => ⟨rfl, e18, (by decide : 1 + 0 ≤ _), (by decide : 8 + 0 ≤ _)⟩)
  dsimp only [Pt.U, Pt.locs, Pt.cells, Pt.slots] at X19 l19 y19 z19 st19 hQ19
  subst l19 y19 z19
  obtain ⟨rfl, Nq19, e19⟩ := hQ19
  have N19 := Fr.app N18 Nq19
  obtain ⟨cl20, Ar20, q20, S20, N20_, H20, G20⟩ := V_b1_17
  have hin20 : ¬ ((3 : Int32) < 0 ∨ cl20.slots.size ≤ ((3 : Int32)).toNatClampNeg) := inb_of S20 ⟨by decide, by decide⟩
  have hat20 : cl20.slots[((3 : Int32)).toNatClampNeg]? = some (xi (0 : Int32)) := Has.at H20 hin20 rfl
  obtain ⟨fs, hr, hrun, hended, hW, hsame⟩ := X19.leave (v := some (xi (1 : Int32))) (fun h => by rw [Bd.returns] at h; cases h)
  refine ⟨_, _, pre0 _ ?_, hrun, hended, _, _, rfl, ?_, ⟨_, rfl⟩, hW, hsame.mono (by decide) (by decide)⟩
  · show own_S p e below s₁ (mkF m 0 #[vi p1, vu, vu, vu] []) _
    refine XS.iloadN X0.here hx rfl (hb hby at_0) rfl ?_
    show own_S p e below s₁ (mkF m 1 #[vi p1, vu, vu, vu] [xi p1]) _
    refine XS.bipush X0.here hx rfl (hb hby at_1) ?_
    show own_S p e below s₁ (mkF m 3 #[vi p1, vu, vu, vu] [xi (7 : Int32), xi p1]) _
    refine XS.iand X0.here hx rfl (hb hby at_3) rfl ?_
    show own_S p e below s₁ (mkF m 4 #[vi p1, vu, vu, vu] [xi (p1 &&& (7 : Int32))]) _
    refine castTop (show (mkF m 4 #[vi p1, vu, vu, vu] [xi (p1 &&& (7 : Int32))]) = (mkF m 4 #[vi p1, vu, vu, vu] [xi (3 : Int32)]) from by rw [as3]) ?_
    show own_S p e below s₁ (mkF m 4 #[vi p1, vu, vu, vu] [xi (3 : Int32)]) _
    refine XS.istoreN X0.here hx rfl (hb hby at_4) rfl (l' := #[vi p1, vi (3 : Int32), vu, vu]) rfl ?_
    show own_S p e below s₁ (mkF m 5 #[vi p1, vi (3 : Int32), vu, vu] []) _
    refine XS.bipush X0.here hx rfl (hb hby at_5) ?_
    show own_S p e below s₁ (mkF m 7 #[vi p1, vi (3 : Int32), vu, vu] [xi (8 : Int32)]) _
    refine st1 _ ?_
    show own_S p e below T1 (mkF m 9 #[vi p1, vi (3 : Int32), vu, vu] [xr b1]) _
    refine XS.dup X1.here hx rfl (hb hby at_9) rfl rfl ?_
    show own_S p e below T1 (mkF m 10 #[vi p1, vi (3 : Int32), vu, vu] [xr b1, xr b1]) _
    refine XS.iconst X1.here hx rfl (hb hby at_10) ?_
    show own_S p e below T1 (mkF m 11 #[vi p1, vi (3 : Int32), vu, vu] [xi (0 : Int32), xr b1, xr b1]) _
    refine XS.iconst X1.here hx rfl (hb hby at_11) ?_
    show own_S p e below T1 (mkF m 12 #[vi p1, vi (3 : Int32), vu, vu] [xi (0 : Int32), xi (0 : Int32), xr b1, xr b1]) _
    refine st3 _ ?_
    show own_S p e below T3 (mkF m 13 #[vi p1, vi (3 : Int32), vu, vu] [xr b1]) _
    refine XS.dup X3.here hx rfl (hb hby at_13) rfl rfl ?_
    show own_S p e below T3 (mkF m 14 #[vi p1, vi (3 : Int32), vu, vu] [xr b1, xr b1]) _
    refine XS.iconst X3.here hx rfl (hb hby at_14) ?_
    show own_S p e below T3 (mkF m 15 #[vi p1, vi (3 : Int32), vu, vu] [xi (1 : Int32), xr b1, xr b1]) _
    refine XS.iconst X3.here hx rfl (hb hby at_15) ?_
    show own_S p e below T3 (mkF m 16 #[vi p1, vi (3 : Int32), vu, vu] [xi (1 : Int32), xi (1 : Int32), xr b1, xr b1]) _
    refine st5 _ ?_
    show own_S p e below T5 (mkF m 17 #[vi p1, vi (3 : Int32), vu, vu] [xr b1]) _
    refine XS.dup X5.here hx rfl (hb hby at_17) rfl rfl ?_
    show own_S p e below T5 (mkF m 18 #[vi p1, vi (3 : Int32), vu, vu] [xr b1, xr b1]) _
    refine XS.iconst X5.here hx rfl (hb hby at_18) ?_
    show own_S p e below T5 (mkF m 19 #[vi p1, vi (3 : Int32), vu, vu] [xi (2 : Int32), xr b1, xr b1]) _
    refine XS.iconst X5.here hx rfl (hb hby at_19) ?_
    show own_S p e below T5 (mkF m 20 #[vi p1, vi (3 : Int32), vu, vu] [xi (0 : Int32), xi (2 : Int32), xr b1, xr b1]) _
    refine st7 _ ?_
    show own_S p e below T7 (mkF m 21 #[vi p1, vi (3 : Int32), vu, vu] [xr b1]) _
    refine XS.dup X7.here hx rfl (hb hby at_21) rfl rfl ?_
    show own_S p e below T7 (mkF m 22 #[vi p1, vi (3 : Int32), vu, vu] [xr b1, xr b1]) _
    refine XS.iconst X7.here hx rfl (hb hby at_22) ?_
    show own_S p e below T7 (mkF m 23 #[vi p1, vi (3 : Int32), vu, vu] [xi (3 : Int32), xr b1, xr b1]) _
    refine XS.iconst X7.here hx rfl (hb hby at_23) ?_
    show own_S p e below T7 (mkF m 24 #[vi p1, vi (3 : Int32), vu, vu] [xi (0 : Int32), xi (3 : Int32), xr b1, xr b1]) _
    refine st9 _ ?_
    show own_S p e below T9 (mkF m 25 #[vi p1, vi (3 : Int32), vu, vu] [xr b1]) _
    refine XS.dup X9.here hx rfl (hb hby at_25) rfl rfl ?_
    show own_S p e below T9 (mkF m 26 #[vi p1, vi (3 : Int32), vu, vu] [xr b1, xr b1]) _
    refine XS.iconst X9.here hx rfl (hb hby at_26) ?_
    show own_S p e below T9 (mkF m 27 #[vi p1, vi (3 : Int32), vu, vu] [xi (4 : Int32), xr b1, xr b1]) _
    refine XS.iconst X9.here hx rfl (hb hby at_27) ?_
    show own_S p e below T9 (mkF m 28 #[vi p1, vi (3 : Int32), vu, vu] [xi (1 : Int32), xi (4 : Int32), xr b1, xr b1]) _
    refine st11 _ ?_
    show own_S p e below T11 (mkF m 29 #[vi p1, vi (3 : Int32), vu, vu] [xr b1]) _
    refine XS.dup X11.here hx rfl (hb hby at_29) rfl rfl ?_
    show own_S p e below T11 (mkF m 30 #[vi p1, vi (3 : Int32), vu, vu] [xr b1, xr b1]) _
    refine XS.iconst X11.here hx rfl (hb hby at_30) ?_
    show own_S p e below T11 (mkF m 31 #[vi p1, vi (3 : Int32), vu, vu] [xi (5 : Int32), xr b1, xr b1]) _
    refine XS.iconst X11.here hx rfl (hb hby at_31) ?_
    show own_S p e below T11 (mkF m 32 #[vi p1, vi (3 : Int32), vu, vu] [xi (0 : Int32), xi (5 : Int32), xr b1, xr b1]) _
    refine st13 _ ?_
    show own_S p e below T13 (mkF m 33 #[vi p1, vi (3 : Int32), vu, vu] [xr b1]) _
    refine XS.dup X13.here hx rfl (hb hby at_33) rfl rfl ?_
    show own_S p e below T13 (mkF m 34 #[vi p1, vi (3 : Int32), vu, vu] [xr b1, xr b1]) _
    refine XS.bipush X13.here hx rfl (hb hby at_34) ?_
    show own_S p e below T13 (mkF m 36 #[vi p1, vi (3 : Int32), vu, vu] [xi (6 : Int32), xr b1, xr b1]) _
    refine XS.iconst X13.here hx rfl (hb hby at_36) ?_
    show own_S p e below T13 (mkF m 37 #[vi p1, vi (3 : Int32), vu, vu] [xi (0 : Int32), xi (6 : Int32), xr b1, xr b1]) _
    refine st15 _ ?_
    show own_S p e below T15 (mkF m 38 #[vi p1, vi (3 : Int32), vu, vu] [xr b1]) _
    refine XS.dup X15.here hx rfl (hb hby at_38) rfl rfl ?_
    show own_S p e below T15 (mkF m 39 #[vi p1, vi (3 : Int32), vu, vu] [xr b1, xr b1]) _
    refine XS.bipush X15.here hx rfl (hb hby at_39) ?_
    show own_S p e below T15 (mkF m 41 #[vi p1, vi (3 : Int32), vu, vu] [xi (7 : Int32), xr b1, xr b1]) _
    refine XS.iconst X15.here hx rfl (hb hby at_41) ?_
    show own_S p e below T15 (mkF m 42 #[vi p1, vi (3 : Int32), vu, vu] [xi (0 : Int32), xi (7 : Int32), xr b1, xr b1]) _
    refine st17 _ ?_
    show own_S p e below T17 (mkF m 43 #[vi p1, vi (3 : Int32), vu, vu] [xr b1]) _
    refine XS.astoreN X17.here hx rfl (hb hby at_43) rfl rfl (l' := #[vi p1, vi (3 : Int32), vr b1, vu]) rfl ?_
    show own_S p e below T17 (mkF m 44 #[vi p1, vi (3 : Int32), vr b1, vu] []) _
    refine XS.iloadN X17.here hx rfl (hb hby at_44) rfl ?_
    show own_S p e below T17 (mkF m 45 #[vi p1, vi (3 : Int32), vr b1, vu] [xi (3 : Int32)]) _
    refine st18 _ ?_
    show own_S p e below T18 (mkF m 48 #[vi p1, vi (3 : Int32), vr b1, vu] [xr u3]) _
    refine XS.astoreN X18.here hx rfl (hb hby at_48) rfl rfl (l' := #[vi p1, vi (3 : Int32), vr b1, vr u3]) rfl ?_
    show own_S p e below T18 (mkF m 49 #[vi p1, vi (3 : Int32), vr b1, vr u3] []) _
    refine XS.aloadN X18.here hx rfl (hb hby at_49) rfl rfl ?_
    show own_S p e below T18 (mkF m 50 #[vi p1, vi (3 : Int32), vr b1, vr u3] [xr u3]) _
    refine st19.trans ?_
    show own_S p e below T19 (mkF m 53 #[vi p1, vi (3 : Int32), vr b1, vr u3] [xi (0 : Int32)]) _
    refine XS.aloadN X19.here hx rfl (hb hby at_53) rfl rfl ?_
    show own_S p e below T19 (mkF m 54 #[vi p1, vi (3 : Int32), vr b1, vr u3] [xr b1, xi (0 : Int32)]) _
    refine XS.iloadN X19.here hx rfl (hb hby at_54) rfl ?_
    show own_S p e below T19 (mkF m 55 #[vi p1, vi (3 : Int32), vr b1, vr u3] [xi (3 : Int32), xr b1, xi (0 : Int32)]) _
    refine X19.baloadBooleans hx (j := (3 : Int32)) (v := (xi (0 : Int32))) (by rw [e19]; exact Ar20.1) (State.isArrayOf_alike hZ.alike Ar20.2.1) Ar20.2.2 hin20 hat20 (g := (mkF m 55 #[vi p1, vi (3 : Int32), vr b1, vr u3] [xi (3 : Int32), xr b1, xi (0 : Int32)])) rfl rfl (hb hby at_55) _ ?_
    show own_S p e below T19 (mkF m 56 #[vi p1, vi (3 : Int32), vr b1, vr u3] [xi (0 : Int32), xi (0 : Int32)]) _
    refine XS.icmpNo X19.here hx rfl (hb hby at_56) rfl (by decide) ?_
    show own_S p e below T19 (mkF m 59 #[vi p1, vi (3 : Int32), vr b1, vr u3] []) _
    refine XS.iconst X19.here hx rfl (hb hby at_59) ?_
    show own_S p e below T19 (mkF m 60 #[vi p1, vi (3 : Int32), vr b1, vr u3] [xi (1 : Int32)]) _
    refine XS.goto X19.here hx rfl (pc0 := 60) (pc' := 64) rfl (hb hby at_60) (by decide) (by decide) ?_
    show own_S p e below T19 (mkF m 64 #[vi p1, vi (3 : Int32), vr b1, vr u3] [xi (1 : Int32)]) _
    exact retN X19 hx (t := .boolean) Bd.returns (by simp) (hb hby at_64) hr
  · exact ⟨rfl, N19⟩
theorem d1_35 : decode method_2_code 35 = .ok (.iload_n 0, 1) := by decide +kernel
theorem d1_36 : decode method_2_code 36 = .ok (.iconst 4, 1) := by decide +kernel
theorem d1_37 : decode method_2_code 37 = .ok (.if_icmp .ne 7, 3) := by decide +kernel
theorem d1_40 : decode method_2_code 40 = .ok (.getstatic 22, 3) := by decide +kernel
theorem d1_43 : decode method_2_code 43 = .ok (.areturn, 1) := by decide +kernel
theorem ef_own_c8_kindOf (m : MethodId) (u0 u1 u2 u3 u4 u5 u6 u7 : Addr) : entryFrame m #[xi (4 : Int32)] 1 = (mkF m 0 #[vi (4 : Int32)] []) := by first | (simp [entryFrame, mkF, argsToLocals, Value.category]; done) | rfl
set_option maxRecDepth 65536 in
set_option maxHeartbeats 40000000 in
theorem own_c8_kindOf (l : Launch) (Z : State) (a0 : Array Value) (hw : ∀ d ∈ tables_1, d.before a0 Z = true) (u0 u1 u2 u3 u4 u5 u6 u7 : Addr) (G : own_St Z u0 u1 u2 u3 u4 u5 u6 u7) (h0 : Heap) (n0 : Nat) (O0 : Old Z n0 h0) : own_Met l Z Y0 method_2_code 1 (some (.object "com/example/mibwright/mibwright/mib/Kind")) ({ frames := 0, cells := 0, slots := 0, locals := 0 } : Room) #[xi (4 : Int32)] h0 (own_QR (some (xr u2)) h0 n0) := by
  intro ws
  refine MetFree.of_bodySF (plainFor_of_name pn0) hisR ?_
  intro p e s m args below meth c s₁ Bd hml0 hP hK
  obtain ⟨rfl, hZ, hh⟩ := hP
  have hx := Bd.exec
  have hby := Bd.bytes
  have hml : c.maxLocals = 1 := hml0
  have hown : s.vm.findClass "com/example/mibwright/mibwright/mib/KindHasValuePinLaw" = some m.cls := findClass_of_methodNamed Bd.named
  have hnm := (name_of_methodNamed Bd.named Bd.method).1
  have X0 : Stand p l e ({ frames := 0, cells := 0, slots := 0, locals := 0 } : Room) s m #[xi (4 : Int32)] below meth c s₁ [] 0 0 := Stand.of_body Bd
  have e0 : s₁.heap = h0 := by rw [← hh, Bd.state]; rfl
  have N0 := Fr.nil n0
  have pre0 : ∀ t, Steps p.tables e below (s₁.setTop (mkF m 0 #[vi (4 : Int32)] [])) t → Steps p.tables e below (s₁.setTop (entryFrame m #[xi (4 : Int32)] 1)) t := fun t k => castTop (ef_own_c8_kindOf m u0 u1 u2 u3 u4 u5 u6 u7) k
  obtain ⟨T1, X1, e1, st1⟩ := getS2 X0 hx hZ hown (host := "") (Or.inl (ww hw 26 rfl)) Via.refl e0 ((own_S_u2 G).ext O0.2) (g := (mkF m 40 #[vi (4 : Int32)] [])) rfl (hb hby d1_40)
  obtain ⟨fs, hr, hrun, hended, hW, hsame⟩ := X1.leave (v := some (xr u2)) (fun h => by rw [Bd.returns] at h; cases h)
  refine ⟨_, _, pre0 _ ?_, hrun, hended, _, _, rfl, ?_, ⟨_, rfl⟩, hW, hsame.mono (by decide) (by decide)⟩
  · show own_S p e below s₁ (mkF m 0 #[vi (4 : Int32)] []) _
    refine XS.iloadN X0.here hx rfl (hb hby d1_0) rfl ?_
    show own_S p e below s₁ (mkF m 1 #[vi (4 : Int32)] [xi (4 : Int32)]) _
    refine XS.ifYes X0.here hx rfl (pc0 := 1) (pc' := 8) rfl (hb hby d1_1) rfl (by decide) (by decide) (by decide) ?_
    show own_S p e below s₁ (mkF m 8 #[vi (4 : Int32)] []) _
    refine XS.iloadN X0.here hx rfl (hb hby d1_8) rfl ?_
    show own_S p e below s₁ (mkF m 9 #[vi (4 : Int32)] [xi (4 : Int32)]) _
    refine XS.iconst X0.here hx rfl (hb hby d1_9) ?_
    show own_S p e below s₁ (mkF m 10 #[vi (4 : Int32)] [xi (1 : Int32), xi (4 : Int32)]) _
    refine XS.icmpYes X0.here hx rfl (pc0 := 10) (pc' := 17) rfl (hb hby d1_10) rfl (by decide) (by decide) (by decide) ?_
    show own_S p e below s₁ (mkF m 17 #[vi (4 : Int32)] []) _
    refine XS.iloadN X0.here hx rfl (hb hby d1_17) rfl ?_
    show own_S p e below s₁ (mkF m 18 #[vi (4 : Int32)] [xi (4 : Int32)]) _
    refine XS.iconst X0.here hx rfl (hb hby d1_18) ?_
    show own_S p e below s₁ (mkF m 19 #[vi (4 : Int32)] [xi (2 : Int32), xi (4 : Int32)]) _
    refine XS.icmpYes X0.here hx rfl (pc0 := 19) (pc' := 26) rfl (hb hby d1_19) rfl (by decide) (by decide) (by decide) ?_
    show own_S p e below s₁ (mkF m 26 #[vi (4 : Int32)] []) _
    refine XS.iloadN X0.here hx rfl (hb hby d1_26) rfl ?_
    show own_S p e below s₁ (mkF m 27 #[vi (4 : Int32)] [xi (4 : Int32)]) _
    refine XS.iconst X0.here hx rfl (hb hby d1_27) ?_
    show own_S p e below s₁ (mkF m 28 #[vi (4 : Int32)] [xi (3 : Int32), xi (4 : Int32)]) _
    refine XS.icmpYes X0.here hx rfl (pc0 := 28) (pc' := 35) rfl (hb hby d1_28) rfl (by decide) (by decide) (by decide) ?_
    show own_S p e below s₁ (mkF m 35 #[vi (4 : Int32)] []) _
    refine XS.iloadN X0.here hx rfl (hb hby d1_35) rfl ?_
    show own_S p e below s₁ (mkF m 36 #[vi (4 : Int32)] [xi (4 : Int32)]) _
    refine XS.iconst X0.here hx rfl (hb hby d1_36) ?_
    show own_S p e below s₁ (mkF m 37 #[vi (4 : Int32)] [xi (4 : Int32), xi (4 : Int32)]) _
    refine XS.icmpNo X0.here hx rfl (hb hby d1_37) rfl (by decide) ?_
    show own_S p e below s₁ (mkF m 40 #[vi (4 : Int32)] []) _
    refine st1 _ ?_
    show own_S p e below T1 (mkF m 43 #[vi (4 : Int32)] [xr u2]) _
    exact X1.areturnOut hx rfl Bd.returns rfl (hb hby d1_43) hr
  · exact ⟨rfl, N0, e1⟩
theorem own_ne_u2_u1 {Z : State} {u0 u1 u2 u3 u4 u5 u6 u7 : Addr} (G : own_St Z u0 u1 u2 u3 u4 u5 u6 u7) : u2 ≠ u1 := Fld.ne (own_F_u2_ordinal G) (own_F_u1_ordinal G) (by decide)
theorem ef_own_c9_hasValue (m : MethodId) (u0 u1 u2 u3 u4 u5 u6 u7 : Addr) : entryFrame m #[xr u2] 1 = (mkF m 0 #[vr u2] []) := by first | (simp [entryFrame, mkF, argsToLocals, Value.category]; done) | rfl
set_option maxRecDepth 65536 in
set_option maxHeartbeats 40000000 in
theorem own_c9_hasValue (l : Launch) (Z : State) (a0 : Array Value) (hw : ∀ d ∈ tables_1, d.before a0 Z = true) (u0 u1 u2 u3 u4 u5 u6 u7 : Addr) (G : own_St Z u0 u1 u2 u3 u4 u5 u6 u7) (h0 : Heap) (n0 : Nat) (O0 : Old Z n0 h0) : own_Met l Z Y1 prog_29_method_5_code 1 (some .boolean) ({ frames := 0, cells := 0, slots := 0, locals := 0 } : Room) #[xr u2] h0 (own_QR (some (xi (1 : Int32))) h0 n0) := by
  intro ws
  refine MetFree.of_bodySF (plainFor_of_name pn1) hisR ?_
  intro p e s m args below meth c s₁ Bd hml0 hP hK
  obtain ⟨rfl, hZ, hh⟩ := hP
  have hx := Bd.exec
  have hby := Bd.bytes
  have hml : c.maxLocals = 1 := hml0
  have hown : s.vm.findClass "com/example/mibwright/mibwright/mib/Kind" = some m.cls := findClass_of_methodNamed Bd.named
  have hnm := (name_of_methodNamed Bd.named Bd.method).1
  have X0 : Stand p l e ({ frames := 0, cells := 0, slots := 0, locals := 0 } : Room) s m #[xr u2] below meth c s₁ [] 0 0 := Stand.of_body Bd
  have e0 : s₁.heap = h0 := by rw [← hh, Bd.state]; rfl
  have N0 := Fr.nil n0
  have pre0 : ∀ t, Steps p.tables e below (s₁.setTop (mkF m 0 #[vr u2] [])) t → Steps p.tables e below (s₁.setTop (entryFrame m #[xr u2] 1)) t := fun t k => castTop (ef_own_c9_hasValue m u0 u1 u2 u3 u4 u5 u6 u7) k
  obtain ⟨T1, X1, e1, st1⟩ := getS2 X0 hx hZ hown (host := "") (Or.inl (ww hw 13 rfl)) Via.refl e0 ((own_S_u1 G).ext O0.2) (g := (mkF m 1 #[vr u2] [xr u2])) rfl (hb hby d2_1)
  obtain ⟨T2, X2, e2, st2⟩ := getS2 X1 hx hZ hown (host := "") (Or.inl (ww hw 15 rfl)) Via.refl e1 ((own_S_u2 G).ext O0.2) (g := (mkF m 8 #[vr u2] [xr u2])) rfl (hb hby d2_8)
  obtain ⟨fs, hr, hrun, hended, hW, hsame⟩ := X2.leave (v := some (xi (1 : Int32))) (fun h => by rw [Bd.returns] at h; cases h)
  refine ⟨_, _, pre0 _ ?_, hrun, hended, _, _, rfl, ?_, ⟨_, rfl⟩, hW, hsame.mono (by decide) (by decide)⟩
  · show own_S p e below s₁ (mkF m 0 #[vr u2] []) _
    refine XS.aloadN X0.here hx rfl (hb hby d2_0) rfl rfl ?_
    show own_S p e below s₁ (mkF m 1 #[vr u2] [xr u2]) _
    refine st1 _ ?_
    show own_S p e below T1 (mkF m 4 #[vr u2] [xr u1, xr u2]) _
    refine Jvm.RoadKit.acmp (g := (mkF m 4 #[vr u2] [xr u1, xr u2])) X1 hx rfl rfl rfl (pc0 := 4) (pc' := 7) (same := false) rfl (hb hby d2_4) rfl (own_ref (own_ne_u2_u1 G)) (by decide) (by decide) ?_
    show own_S p e below T1 (mkF m 7 #[vr u2] []) _
    refine XS.aloadN X1.here hx rfl (hb hby d2_7) rfl rfl ?_
    show own_S p e below T1 (mkF m 8 #[vr u2] [xr u2]) _
    refine st2 _ ?_
    show own_S p e below T2 (mkF m 11 #[vr u2] [xr u2, xr u2]) _
    refine Jvm.RoadKit.acmp (g := (mkF m 11 #[vr u2] [xr u2, xr u2])) X2 hx rfl rfl rfl (pc0 := 11) (pc' := 14) (same := true) rfl (hb hby d2_11) rfl (decide_eq_true rfl) (by decide) (by decide) ?_
    show own_S p e below T2 (mkF m 14 #[vr u2] []) _
    refine XS.iconst X2.here hx rfl (hb hby d2_14) ?_
    show own_S p e below T2 (mkF m 15 #[vr u2] [xi (1 : Int32)]) _
    refine XS.goto X2.here hx rfl (pc0 := 15) (pc' := 19) rfl (hb hby d2_15) (by decide) (by decide) ?_
    show own_S p e below T2 (mkF m 19 #[vr u2] [xi (1 : Int32)]) _
    exact retN X2 hx (t := .boolean) Bd.returns (by simp) (hb hby d2_19) hr
  · exact ⟨rfl, N0, e2⟩
theorem ef_own_l4 (m : MethodId) (u0 u1 u2 u3 u4 u5 u6 u7 : Addr) (p1 : Int32) : entryFrame m #[xi p1] maxLocals = (mkF m 0 #[vi p1, vu, vu, vu] []) := by first | (simp [entryFrame, mkF, argsToLocals, Value.category, maxLocals]; done) | rfl
set_option maxRecDepth 65536 in
set_option maxHeartbeats 40000000 in
theorem own_l4 (l : Launch) (Z : State) (a0 : Array Value) (hw : ∀ d ∈ tables_1, d.before a0 Z = true) (u0 u1 u2 u3 u4 u5 u6 u7 : Addr) (G : own_St Z u0 u1 u2 u3 u4 u5 u6 u7) (p1 : Int32) (as4 : (p1 &&& (7 : Int32)) = (4 : Int32)) (h0 : Heap) (n0 : Nat) (O0 : Old Z n0 h0) : own_Met l Z x code maxLocals ret room_1 #[xi p1] h0 (own_QL (some (xi (1 : Int32))) n0) := by
  intro ws
  refine MetFree.of_bodySF (plainFor_of_name pn0) hisR ?_
  intro p e s m args below meth c s₁ Bd hml0 hP hK
  obtain ⟨rfl, hZ, hh⟩ := hP
  have hx := Bd.exec
  have hby := Bd.bytes
  have hml : c.maxLocals = 4 := hml0
  have hown : s.vm.findClass "com/example/mibwright/mibwright/mib/KindHasValuePinLaw" = some m.cls := findClass_of_methodNamed Bd.named
  have hnm := (name_of_methodNamed Bd.named Bd.method).1
  have X0 : Stand p l e room_1 s m #[xi p1] below meth c s₁ [] 0 0 := Stand.of_body Bd
  have e0 : s₁.heap = h0 := by rw [← hh, Bd.state]; rfl
  have N0 := Fr.nil n0
  have pre0 : ∀ t, Steps p.tables e below (s₁.setTop (mkF m 0 #[vi p1, vu, vu, vu] [])) t → Steps p.tables e below (s₁.setTop (entryFrame m #[xi p1] maxLocals)) t := fun t k => castTop (ef_own_l4 m u0 u1 u2 u3 u4 u5 u6 u7 p1) k
  obtain ⟨T1, h1, k1, X1, e1, E1, A1, st1⟩ := newP X0 hx hZ (ww hw 0 rfl) e0 (g := (mkF m 7 #[vi p1, vi (4 : Int32), vu, vu] [xi (8 : Int32)])) rfl (hb hby at_7) rfl (by decide) (cap := 8) (by decide) (by decide) (by decide) (by decide)
  obtain ⟨b1, g1⟩ : ∃ z, z = h0.size := ⟨_, rfl⟩
  rw [← g1] at A1 st1
  have g_b1 : n0 ≤ b1 := own_fresh O0 g1
  have O1 : Old Z n0 h1 := O0.ext E1
  have V_b1 : Arv Z h1 b1 k1 .boolean (8 : Int32) [(.int (0 : Int32)), (.int (0 : Int32)), (.int (0 : Int32)), (.int (0 : Int32)), (.int (0 : Int32)), (.int (0 : Int32)), (.int (0 : Int32)), (.int (0 : Int32))] (.int (0 : Int32)) := (Arv.new A1 (by decide)).pad (pad_rep [] (.int (0 : Int32)) 8)
  obtain ⟨cl2, Ar2, q2, S2, N2_, H2, G2⟩ := V_b1
  have hin2 : ¬ ((0 : Int32) < 0 ∨ cl2.slots.size ≤ ((0 : Int32)).toNatClampNeg) := inb_of S2 ⟨by decide, by decide⟩
  obtain ⟨T3, h3, X3, e3, W3, st3⟩ := stZ X1 hx hZ e1 Ar2 (j := (0 : Int32)) hin2 (g := (mkF m 12 #[vi p1, vi (4 : Int32), vu, vu] [xi (0 : Int32), xi (0 : Int32), xr b1, xr b1])) rfl rfl (hb hby at_12)
  have V_b1_3 : Arv Z h3 b1 k1 .boolean (8 : Int32) [xi (0 : Int32), xi (0 : Int32), xi (0 : Int32), xi (0 : Int32), xi (0 : Int32), xi (0 : Int32), xi (0 : Int32), xi (0 : Int32)] (.int (0 : Int32)) := Arv.set Ar2 q2 S2 N2_ H2 G2 (fits_nar_bool _) W3 0 rfl (Nat.le_of_ble_eq_true rfl)
  have O3 : Old Z n0 h3 := O1.wr W3 g_b1
  have N3 := Fr.snoc X3 N0 g_b1
  obtain ⟨cl4, Ar4, q4, S4, N4_, H4, G4⟩ := V_b1_3
  have hin4 : ¬ ((1 : Int32) < 0 ∨ cl4.slots.size ≤ ((1 : Int32)).toNatClampNeg) := inb_of S4 ⟨by decide, by decide⟩
  obtain ⟨T5, h5, X5, e5, W5, st5⟩ := stZ X3 hx hZ e3 Ar4 (j := (1 : Int32)) hin4 (g := (mkF m 16 #[vi p1, vi (4 : Int32), vu, vu] [xi (1 : Int32), xi (1 : Int32), xr b1, xr b1])) rfl rfl (hb hby at_16)
  have V_b1_5 : Arv Z h5 b1 k1 .boolean (8 : Int32) [xi (0 : Int32), xi (1 : Int32), xi (0 : Int32), xi (0 : Int32), xi (0 : Int32), xi (0 : Int32), xi (0 : Int32), xi (0 : Int32)] (.int (0 : Int32)) := Arv.set Ar4 q4 S4 N4_ H4 G4 (fits_nar_bool _) W5 1 rfl (Nat.le_of_ble_eq_true rfl)
  have O5 : Old Z n0 h5 := O3.wr W5 g_b1
  have N5 := Fr.snoc X5 N3 g_b1
  obtain ⟨cl6, Ar6, q6, S6, N6_, H6, G6⟩ := V_b1_5
  have hin6 : ¬ ((2 : Int32) < 0 ∨ cl6.slots.size ≤ ((2 : Int32)).toNatClampNeg) := inb_of S6 ⟨by decide, by decide⟩
  obtain ⟨T7, h7, X7, e7, W7, st7⟩ := stZ X5 hx hZ e5 Ar6 (j := (2 : Int32)) hin6 (g := (mkF m 20 #[vi p1, vi (4 : Int32), vu, vu] [xi (0 : Int32), xi (2 : Int32), xr b1, xr b1])) rfl rfl (hb hby at_20)
  have V_b1_7 : Arv Z h7 b1 k1 .boolean (8 : Int32) [xi (0 : Int32), xi (1 : Int32), xi (0 : Int32), xi (0 : Int32), xi (0 : Int32), xi (0 : Int32), xi (0 : Int32), xi (0 : Int32)] (.int (0 : Int32)) := Arv.set Ar6 q6 S6 N6_ H6 G6 (fits_nar_bool _) W7 2 rfl (Nat.le_of_ble_eq_true rfl)
  have O7 : Old Z n0 h7 := O5.wr W7 g_b1
  have N7 := Fr.snoc X7 N5 g_b1
  obtain ⟨cl8, Ar8, q8, S8, N8_, H8, G8⟩ := V_b1_7
  have hin8 : ¬ ((3 : Int32) < 0 ∨ cl8.slots.size ≤ ((3 : Int32)).toNatClampNeg) := inb_of S8 ⟨by decide, by decide⟩
  obtain ⟨T9, h9, X9, e9, W9, st9⟩ := stZ X7 hx hZ e7 Ar8 (j := (3 : Int32)) hin8 (g := (mkF m 24 #[vi p1, vi (4 : Int32), vu, vu] [xi (0 : Int32), xi (3 : Int32), xr b1, xr b1])) rfl rfl (hb hby at_24)
  have V_b1_9 : Arv Z h9 b1 k1 .boolean (8 : Int32) [xi (0 : Int32), xi (1 : Int32), xi (0 : Int32), xi (0 : Int32), xi (0 : Int32), xi (0 : Int32), xi (0 : Int32), xi (0 : Int32)] (.int (0 : Int32)) := Arv.set Ar8 q8 S8 N8_ H8 G8 (fits_nar_bool _) W9 3 rfl (Nat.le_of_ble_eq_true rfl)
  have O9 : Old Z n0 h9 := O7.wr W9 g_b1
  have N9 := Fr.snoc X9 N7 g_b1
  obtain ⟨cl10, Ar10, q10, S10, N10_, H10, G10⟩ := V_b1_9
  have hin10 : ¬ ((4 : Int32) < 0 ∨ cl10.slots.size ≤ ((4 : Int32)).toNatClampNeg) := inb_of S10 ⟨by decide, by decide⟩
  obtain ⟨T11, h11, X11, e11, W11, st11⟩ := stZ X9 hx hZ e9 Ar10 (j := (4 : Int32)) hin10 (g := (mkF m 28 #[vi p1, vi (4 : Int32), vu, vu] [xi (1 : Int32), xi (4 : Int32), xr b1, xr b1])) rfl rfl (hb hby at_28)
  have V_b1_11 : Arv Z h11 b1 k1 .boolean (8 : Int32) [xi (0 : Int32), xi (1 : Int32), xi (0 : Int32), xi (0 : Int32), xi (1 : Int32), xi (0 : Int32), xi (0 : Int32), xi (0 : Int32)] (.int (0 : Int32)) := Arv.set Ar10 q10 S10 N10_ H10 G10 (fits_nar_bool _) W11 4 rfl (Nat.le_of_ble_eq_true rfl)
  have O11 : Old Z n0 h11 := O9.wr W11 g_b1
  have N11 := Fr.snoc X11 N9 g_b1
  obtain ⟨cl12, Ar12, q12, S12, N12_, H12, G12⟩ := V_b1_11
  have hin12 : ¬ ((5 : Int32) < 0 ∨ cl12.slots.size ≤ ((5 : Int32)).toNatClampNeg) := inb_of S12 ⟨by decide, by decide⟩
  obtain ⟨T13, h13, X13, e13, W13, st13⟩ := stZ X11 hx hZ e11 Ar12 (j := (5 : Int32)) hin12 (g := (mkF m 32 #[vi p1, vi (4 : Int32), vu, vu] [xi (0 : Int32), xi (5 : Int32), xr b1, xr b1])) rfl rfl (hb hby at_32)
  have V_b1_13 : Arv Z h13 b1 k1 .boolean (8 : Int32) [xi (0 : Int32), xi (1 : Int32), xi (0 : Int32), xi (0 : Int32), xi (1 : Int32), xi (0 : Int32), xi (0 : Int32), xi (0 : Int32)] (.int (0 : Int32)) := Arv.set Ar12 q12 S12 N12_ H12 G12 (fits_nar_bool _) W13 5 rfl (Nat.le_of_ble_eq_true rfl)
  have O13 : Old Z n0 h13 := O11.wr W13 g_b1
  have N13 := Fr.snoc X13 N11 g_b1
  obtain ⟨cl14, Ar14, q14, S14, N14_, H14, G14⟩ := V_b1_13
  have hin14 : ¬ ((6 : Int32) < 0 ∨ cl14.slots.size ≤ ((6 : Int32)).toNatClampNeg) := inb_of S14 ⟨by decide, by decide⟩
  obtain ⟨T15, h15, X15, e15, W15, st15⟩ := stZ X13 hx hZ e13 Ar14 (j := (6 : Int32)) hin14 (g := (mkF m 37 #[vi p1, vi (4 : Int32), vu, vu] [xi (0 : Int32), xi (6 : Int32), xr b1, xr b1])) rfl rfl (hb hby at_37)
  have V_b1_15 : Arv Z h15 b1 k1 .boolean (8 : Int32) [xi (0 : Int32), xi (1 : Int32), xi (0 : Int32), xi (0 : Int32), xi (1 : Int32), xi (0 : Int32), xi (0 : Int32), xi (0 : Int32)] (.int (0 : Int32)) := Arv.set Ar14 q14 S14 N14_ H14 G14 (fits_nar_bool _) W15 6 rfl (Nat.le_of_ble_eq_true rfl)
  have O15 : Old Z n0 h15 := O13.wr W15 g_b1
  have N15 := Fr.snoc X15 N13 g_b1
  obtain ⟨cl16, Ar16, q16, S16, N16_, H16, G16⟩ := V_b1_15
  have hin16 : ¬ ((7 : Int32) < 0 ∨ cl16.slots.size ≤ ((7 : Int32)).toNatClampNeg) := inb_of S16 ⟨by decide, by decide⟩
  obtain ⟨T17, h17, X17, e17, W17, st17⟩ := stZ X15 hx hZ e15 Ar16 (j := (7 : Int32)) hin16 (g := (mkF m 42 #[vi p1, vi (4 : Int32), vu, vu] [xi (0 : Int32), xi (7 : Int32), xr b1, xr b1])) rfl rfl (hb hby at_42)
  have V_b1_17 : Arv Z h17 b1 k1 .boolean (8 : Int32) [xi (0 : Int32), xi (1 : Int32), xi (0 : Int32), xi (0 : Int32), xi (1 : Int32), xi (0 : Int32), xi (0 : Int32), xi (0 : Int32)] (.int (0 : Int32)) := Arv.set Ar16 q16 S16 N16_ H16 G16 (fits_nar_bool _) W17 7 rfl (Nat.le_of_ble_eq_true rfl)
  have O17 : Old Z n0 h17 := O15.wr W17 g_b1
  have N17 := Fr.snoc X17 N15 g_b1
  obtain ⟨_, _, ⟨T18, L18, k18, n18⟩, -, X18, ⟨Lc18, hQ18, l18, y18, z18⟩, st18⟩ := Jvm.LawKit.callS X17 hx (y := Y0) hown (mvT hZ (ww hw 1 rfl)) (mvT hZ (ww hw 2 rfl)) (mvT hZ (ww hw 3 rfl)) (mvT hZ (ww hw 4 rfl)) (by decide) (backOf (W := 0) (own_c8_kindOf l Z a0 hw u0 u1 u2 u3 u4 u5 u6 u7 G h17 n0 O17 []) hZ (ww hw 4 rfl) (ww hw 3 rfl) (by decide) (by decide)) (g := (mkF m 45 #[vi p1, vi (4 : Int32), vr b1, vu] [xi (4 : Int32)])) rfl (by rw [hml]; rfl) (argsL := [xi (4 : Int32)]) (rest := []) (lenOf pd0 rfl) rfl (by show 2 * 0 + _ ≤ _; exact Nat.le_of_eq rfl) (hb hby at_45) (fun _ _ => ⟨rfl, e17, (by decide : 1 + 0 ≤ _), (by decide : 8 + 0 ≤ _)⟩)
  dsimp only [Pt.U, Pt.locs, Pt.cells, Pt.slots] at X18 l18 y18 z18 st18 hQ18
  subst l18 y18 z18
  obtain ⟨rfl, Nq18, e18⟩ := hQ18
  have N18 := Fr.app N17 Nq18
  obtain ⟨cq19, kq19, qa19, qb19, qc19⟩ := isOf hZ e18 ((own_X_u2 G).ext O17.2)
  obtain ⟨_, _, ⟨T19, L19, k19, n19⟩, -, X19, ⟨Lc19, hQ19, l19, y19, z19⟩, st19⟩ := X18.virtualBack hx (y := Y1) (z := Y1) hown (mvT hZ (ww hw 8 rfl)) (mvT hZ (ww hw 9 rfl)) (notFace_of_selects (args := #[]) (mvT hZ (ww hw 11 rfl))) (mvT hZ (ww hw 11 rfl)) (mvT hZ (ww hw 10 rfl)) (by decide) (backOf (W := 0) (own_c9_hasValue l Z a0 hw u0 u1 u2 u3 u4 u5 u6 u7 G h17 n0 O17 []) hZ (ww hw 12 rfl) (ww hw 6 rfl) (by decide) (by decide)) qa19 qc19 (g := (mkF m 50 #[vi p1, vi (4 : Int32), vr b1, vr u2] [xr u2])) rfl (by rw [hml]; rfl) (Steps.refl _) (argsL := []) (rest := []) (lenOf pd1 rfl) rfl (by show 2 * 0 + _ ≤ _; exact Nat.le_of_eq rfl) (hb hby at_50) (fun _ _ => ⟨rfl, e18, (by decide : 1 + 0 ≤ _), (by decide : 8 + 0 ≤ _)⟩)
  dsimp only [Pt.U, Pt.locs, Pt.cells, Pt.slots] at X19 l19 y19 z19 st19 hQ19
  subst l19 y19 z19
  obtain ⟨rfl, Nq19, e19⟩ := hQ19
  have N19 := Fr.app N18 Nq19
  obtain ⟨cl20, Ar20, q20, S20, N20_, H20, G20⟩ := V_b1_17
  have hin20 : ¬ ((4 : Int32) < 0 ∨ cl20.slots.size ≤ ((4 : Int32)).toNatClampNeg) := inb_of S20 ⟨by decide, by decide⟩
  have hat20 : cl20.slots[((4 : Int32)).toNatClampNeg]? = some (xi (1 : Int32)) := Has.at H20 hin20 rfl
  obtain ⟨fs, hr, hrun, hended, hW, hsame⟩ := X19.leave (v := some (xi (1 : Int32))) (fun h => by rw [Bd.returns] at h; cases h)
  refine ⟨_, _, pre0 _ ?_, hrun, hended, _, _, rfl, ?_, ⟨_, rfl⟩, hW, hsame.mono (by decide) (by decide)⟩
  · show own_S p e below s₁ (mkF m 0 #[vi p1, vu, vu, vu] []) _
    refine XS.iloadN X0.here hx rfl (hb hby at_0) rfl ?_
    show own_S p e below s₁ (mkF m 1 #[vi p1, vu, vu, vu] [xi p1]) _
    refine XS.bipush X0.here hx rfl (hb hby at_1) ?_
    show own_S p e below s₁ (mkF m 3 #[vi p1, vu, vu, vu] [xi (7 : Int32), xi p1]) _
    refine XS.iand X0.here hx rfl (hb hby at_3) rfl ?_
    show own_S p e below s₁ (mkF m 4 #[vi p1, vu, vu, vu] [xi (p1 &&& (7 : Int32))]) _
    refine castTop (show (mkF m 4 #[vi p1, vu, vu, vu] [xi (p1 &&& (7 : Int32))]) = (mkF m 4 #[vi p1, vu, vu, vu] [xi (4 : Int32)]) from by rw [as4]) ?_
    show own_S p e below s₁ (mkF m 4 #[vi p1, vu, vu, vu] [xi (4 : Int32)]) _
    refine XS.istoreN X0.here hx rfl (hb hby at_4) rfl (l' := #[vi p1, vi (4 : Int32), vu, vu]) rfl ?_
    show own_S p e below s₁ (mkF m 5 #[vi p1, vi (4 : Int32), vu, vu] []) _
    refine XS.bipush X0.here hx rfl (hb hby at_5) ?_
    show own_S p e below s₁ (mkF m 7 #[vi p1, vi (4 : Int32), vu, vu] [xi (8 : Int32)]) _
    refine st1 _ ?_
    show own_S p e below T1 (mkF m 9 #[vi p1, vi (4 : Int32), vu, vu] [xr b1]) _
    refine XS.dup X1.here hx rfl (hb hby at_9) rfl rfl ?_
    show own_S p e below T1 (mkF m 10 #[vi p1, vi (4 : Int32), vu, vu] [xr b1, xr b1]) _
    refine XS.iconst X1.here hx rfl (hb hby at_10) ?_
    show own_S p e below T1 (mkF m 11 #[vi p1, vi (4 : Int32), vu, vu] [xi (0 : Int32), xr b1, xr b1]) _
    refine XS.iconst X1.here hx rfl (hb hby at_11) ?_
    show own_S p e below T1 (mkF m 12 #[vi p1, vi (4 : Int32), vu, vu] [xi (0 : Int32), xi (0 : Int32), xr b1, xr b1]) _
    refine st3 _ ?_
    show own_S p e below T3 (mkF m 13 #[vi p1, vi (4 : Int32), vu, vu] [xr b1]) _
    refine XS.dup X3.here hx rfl (hb hby at_13) rfl rfl ?_
    show own_S p e below T3 (mkF m 14 #[vi p1, vi (4 : Int32), vu, vu] [xr b1, xr b1]) _
    refine XS.iconst X3.here hx rfl (hb hby at_14) ?_
    show own_S p e below T3 (mkF m 15 #[vi p1, vi (4 : Int32), vu, vu] [xi (1 : Int32), xr b1, xr b1]) _
    refine XS.iconst X3.here hx rfl (hb hby at_15) ?_
    show own_S p e below T3 (mkF m 16 #[vi p1, vi (4 : Int32), vu, vu] [xi (1 : Int32), xi (1 : Int32), xr b1, xr b1]) _
    refine st5 _ ?_
    show own_S p e below T5 (mkF m 17 #[vi p1, vi (4 : Int32), vu, vu] [xr b1]) _
    refine XS.dup X5.here hx rfl (hb hby at_17) rfl rfl ?_
    show own_S p e below T5 (mkF m 18 #[vi p1, vi (4 : Int32), vu, vu] [xr b1, xr b1]) _
    refine XS.iconst X5.here hx rfl (hb hby at_18) ?_
    show own_S p e below T5 (mkF m 19 #[vi p1, vi (4 : Int32), vu, vu] [xi (2 : Int32), xr b1, xr b1]) _
    refine XS.iconst X5.here hx rfl (hb hby at_19) ?_
    show own_S p e below T5 (mkF m 20 #[vi p1, vi (4 : Int32), vu, vu] [xi (0 : Int32), xi (2 : Int32), xr b1, xr b1]) _
    refine st7 _ ?_
    show own_S p e below T7 (mkF m 21 #[vi p1, vi (4 : Int32), vu, vu] [xr b1]) _
    refine XS.dup X7.here hx rfl (hb hby at_21) rfl rfl ?_
    show own_S p e below T7 (mkF m 22 #[vi p1, vi (4 : Int32), vu, vu] [xr b1, xr b1]) _
    refine XS.iconst X7.here hx rfl (hb hby at_22) ?_
    show own_S p e below T7 (mkF m 23 #[vi p1, vi (4 : Int32), vu, vu] [xi (3 : Int32), xr b1, xr b1]) _
    refine XS.iconst X7.here hx rfl (hb hby at_23) ?_
    show own_S p e below T7 (mkF m 24 #[vi p1, vi (4 : Int32), vu, vu] [xi (0 : Int32), xi (3 : Int32), xr b1, xr b1]) _
    refine st9 _ ?_
    show own_S p e below T9 (mkF m 25 #[vi p1, vi (4 : Int32), vu, vu] [xr b1]) _
    refine XS.dup X9.here hx rfl (hb hby at_25) rfl rfl ?_
    show own_S p e below T9 (mkF m 26 #[vi p1, vi (4 : Int32), vu, vu] [xr b1, xr b1]) _
    refine XS.iconst X9.here hx rfl (hb hby at_26) ?_
    show own_S p e below T9 (mkF m 27 #[vi p1, vi (4 : Int32), vu, vu] [xi (4 : Int32), xr b1, xr b1]) _
    refine XS.iconst X9.here hx rfl (hb hby at_27) ?_
    show own_S p e below T9 (mkF m 28 #[vi p1, vi (4 : Int32), vu, vu] [xi (1 : Int32), xi (4 : Int32), xr b1, xr b1]) _
    refine st11 _ ?_
    show own_S p e below T11 (mkF m 29 #[vi p1, vi (4 : Int32), vu, vu] [xr b1]) _
    refine XS.dup X11.here hx rfl (hb hby at_29) rfl rfl ?_
    show own_S p e below T11 (mkF m 30 #[vi p1, vi (4 : Int32), vu, vu] [xr b1, xr b1]) _
    refine XS.iconst X11.here hx rfl (hb hby at_30) ?_
    show own_S p e below T11 (mkF m 31 #[vi p1, vi (4 : Int32), vu, vu] [xi (5 : Int32), xr b1, xr b1]) _
    refine XS.iconst X11.here hx rfl (hb hby at_31) ?_
    show own_S p e below T11 (mkF m 32 #[vi p1, vi (4 : Int32), vu, vu] [xi (0 : Int32), xi (5 : Int32), xr b1, xr b1]) _
    refine st13 _ ?_
    show own_S p e below T13 (mkF m 33 #[vi p1, vi (4 : Int32), vu, vu] [xr b1]) _
    refine XS.dup X13.here hx rfl (hb hby at_33) rfl rfl ?_
    show own_S p e below T13 (mkF m 34 #[vi p1, vi (4 : Int32), vu, vu] [xr b1, xr b1]) _
    refine XS.bipush X13.here hx rfl (hb hby at_34) ?_
    show own_S p e below T13 (mkF m 36 #[vi p1, vi (4 : Int32), vu, vu] [xi (6 : Int32), xr b1, xr b1]) _
    refine XS.iconst X13.here hx rfl (hb hby at_36) ?_
    show own_S p e below T13 (mkF m 37 #[vi p1, vi (4 : Int32), vu, vu] [xi (0 : Int32), xi (6 : Int32), xr b1, xr b1]) _
    refine st15 _ ?_
    show own_S p e below T15 (mkF m 38 #[vi p1, vi (4 : Int32), vu, vu] [xr b1]) _
    refine XS.dup X15.here hx rfl (hb hby at_38) rfl rfl ?_
    show own_S p e below T15 (mkF m 39 #[vi p1, vi (4 : Int32), vu, vu] [xr b1, xr b1]) _
    refine XS.bipush X15.here hx rfl (hb hby at_39) ?_
    show own_S p e below T15 (mkF m 41 #[vi p1, vi (4 : Int32), vu, vu] [xi (7 : Int32), xr b1, xr b1]) _
    refine XS.iconst X15.here hx rfl (hb hby at_41) ?_
    show own_S p e below T15 (mkF m 42 #[vi p1, vi (4 : Int32), vu, vu] [xi (0 : Int32), xi (7 : Int32), xr b1, xr b1]) _
    refine st17 _ ?_
    show own_S p e below T17 (mkF m 43 #[vi p1, vi (4 : Int32), vu, vu] [xr b1]) _
    refine XS.astoreN X17.here hx rfl (hb hby at_43) rfl rfl (l' := #[vi p1, vi (4 : Int32), vr b1, vu]) rfl ?_
    show own_S p e below T17 (mkF m 44 #[vi p1, vi (4 : Int32), vr b1, vu] []) _
    refine XS.iloadN X17.here hx rfl (hb hby at_44) rfl ?_
    show own_S p e below T17 (mkF m 45 #[vi p1, vi (4 : Int32), vr b1, vu] [xi (4 : Int32)]) _
    refine st18 _ ?_
    show own_S p e below T18 (mkF m 48 #[vi p1, vi (4 : Int32), vr b1, vu] [xr u2]) _
    refine XS.astoreN X18.here hx rfl (hb hby at_48) rfl rfl (l' := #[vi p1, vi (4 : Int32), vr b1, vr u2]) rfl ?_
    show own_S p e below T18 (mkF m 49 #[vi p1, vi (4 : Int32), vr b1, vr u2] []) _
    refine XS.aloadN X18.here hx rfl (hb hby at_49) rfl rfl ?_
    show own_S p e below T18 (mkF m 50 #[vi p1, vi (4 : Int32), vr b1, vr u2] [xr u2]) _
    refine st19.trans ?_
    show own_S p e below T19 (mkF m 53 #[vi p1, vi (4 : Int32), vr b1, vr u2] [xi (1 : Int32)]) _
    refine XS.aloadN X19.here hx rfl (hb hby at_53) rfl rfl ?_
    show own_S p e below T19 (mkF m 54 #[vi p1, vi (4 : Int32), vr b1, vr u2] [xr b1, xi (1 : Int32)]) _
    refine XS.iloadN X19.here hx rfl (hb hby at_54) rfl ?_
    show own_S p e below T19 (mkF m 55 #[vi p1, vi (4 : Int32), vr b1, vr u2] [xi (4 : Int32), xr b1, xi (1 : Int32)]) _
    refine X19.baloadBooleans hx (j := (4 : Int32)) (v := (xi (1 : Int32))) (by rw [e19]; exact Ar20.1) (State.isArrayOf_alike hZ.alike Ar20.2.1) Ar20.2.2 hin20 hat20 (g := (mkF m 55 #[vi p1, vi (4 : Int32), vr b1, vr u2] [xi (4 : Int32), xr b1, xi (1 : Int32)])) rfl rfl (hb hby at_55) _ ?_
    show own_S p e below T19 (mkF m 56 #[vi p1, vi (4 : Int32), vr b1, vr u2] [xi (1 : Int32), xi (1 : Int32)]) _
    refine XS.icmpNo X19.here hx rfl (hb hby at_56) rfl (by decide) ?_
    show own_S p e below T19 (mkF m 59 #[vi p1, vi (4 : Int32), vr b1, vr u2] []) _
    refine XS.iconst X19.here hx rfl (hb hby at_59) ?_
    show own_S p e below T19 (mkF m 60 #[vi p1, vi (4 : Int32), vr b1, vr u2] [xi (1 : Int32)]) _
    refine XS.goto X19.here hx rfl (pc0 := 60) (pc' := 64) rfl (hb hby at_60) (by decide) (by decide) ?_
    show own_S p e below T19 (mkF m 64 #[vi p1, vi (4 : Int32), vr b1, vr u2] [xi (1 : Int32)]) _
    exact retN X19 hx (t := .boolean) Bd.returns (by simp) (hb hby at_64) hr
  · exact ⟨rfl, N19⟩
theorem d1_44 : decode method_2_code 44 = .ok (.iload_n 0, 1) := by decide +kernel
theorem d1_45 : decode method_2_code 45 = .ok (.iconst 5, 1) := by decide +kernel
theorem d1_46 : decode method_2_code 46 = .ok (.if_icmp .ne 7, 3) := by decide +kernel
theorem d1_49 : decode method_2_code 49 = .ok (.getstatic 25, 3) := by decide +kernel
theorem d1_52 : decode method_2_code 52 = .ok (.areturn, 1) := by decide +kernel
theorem ef_own_c10_kindOf (m : MethodId) (u0 u1 u2 u3 u4 u5 u6 u7 : Addr) : entryFrame m #[xi (5 : Int32)] 1 = (mkF m 0 #[vi (5 : Int32)] []) := by first | (simp [entryFrame, mkF, argsToLocals, Value.category]; done) | rfl
set_option maxRecDepth 65536 in
set_option maxHeartbeats 40000000 in
theorem own_c10_kindOf (l : Launch) (Z : State) (a0 : Array Value) (hw : ∀ d ∈ tables_1, d.before a0 Z = true) (u0 u1 u2 u3 u4 u5 u6 u7 : Addr) (G : own_St Z u0 u1 u2 u3 u4 u5 u6 u7) (h0 : Heap) (n0 : Nat) (O0 : Old Z n0 h0) : own_Met l Z Y0 method_2_code 1 (some (.object "com/example/mibwright/mibwright/mib/Kind")) ({ frames := 0, cells := 0, slots := 0, locals := 0 } : Room) #[xi (5 : Int32)] h0 (own_QR (some (xr u7)) h0 n0) := by
  intro ws
  refine MetFree.of_bodySF (plainFor_of_name pn0) hisR ?_
  intro p e s m args below meth c s₁ Bd hml0 hP hK
  obtain ⟨rfl, hZ, hh⟩ := hP
  have hx := Bd.exec
  have hby := Bd.bytes
  have hml : c.maxLocals = 1 := hml0
  have hown : s.vm.findClass "com/example/mibwright/mibwright/mib/KindHasValuePinLaw" = some m.cls := findClass_of_methodNamed Bd.named
  have hnm := (name_of_methodNamed Bd.named Bd.method).1
  have X0 : Stand p l e ({ frames := 0, cells := 0, slots := 0, locals := 0 } : Room) s m #[xi (5 : Int32)] below meth c s₁ [] 0 0 := Stand.of_body Bd
  have e0 : s₁.heap = h0 := by rw [← hh, Bd.state]; rfl
  have N0 := Fr.nil n0
  have pre0 : ∀ t, Steps p.tables e below (s₁.setTop (mkF m 0 #[vi (5 : Int32)] [])) t → Steps p.tables e below (s₁.setTop (entryFrame m #[xi (5 : Int32)] 1)) t := fun t k => castTop (ef_own_c10_kindOf m u0 u1 u2 u3 u4 u5 u6 u7) k
  obtain ⟨T1, X1, e1, st1⟩ := getS2 X0 hx hZ hown (host := "") (Or.inl (ww hw 27 rfl)) Via.refl e0 ((own_S_u7 G).ext O0.2) (g := (mkF m 49 #[vi (5 : Int32)] [])) rfl (hb hby d1_49)
  obtain ⟨fs, hr, hrun, hended, hW, hsame⟩ := X1.leave (v := some (xr u7)) (fun h => by rw [Bd.returns] at h; cases h)
  refine ⟨_, _, pre0 _ ?_, hrun, hended, _, _, rfl, ?_, ⟨_, rfl⟩, hW, hsame.mono (by decide) (by decide)⟩
  · show own_S p e below s₁ (mkF m 0 #[vi (5 : Int32)] []) _
    refine XS.iloadN X0.here hx rfl (hb hby d1_0) rfl ?_
    show own_S p e below s₁ (mkF m 1 #[vi (5 : Int32)] [xi (5 : Int32)]) _
    refine XS.ifYes X0.here hx rfl (pc0 := 1) (pc' := 8) rfl (hb hby d1_1) rfl (by decide) (by decide) (by decide) ?_
    show own_S p e below s₁ (mkF m 8 #[vi (5 : Int32)] []) _
    refine XS.iloadN X0.here hx rfl (hb hby d1_8) rfl ?_
    show own_S p e below s₁ (mkF m 9 #[vi (5 : Int32)] [xi (5 : Int32)]) _
    refine XS.iconst X0.here hx rfl (hb hby d1_9) ?_
    show own_S p e below s₁ (mkF m 10 #[vi (5 : Int32)] [xi (1 : Int32), xi (5 : Int32)]) _
    refine XS.icmpYes X0.here hx rfl (pc0 := 10) (pc' := 17) rfl (hb hby d1_10) rfl (by decide) (by decide) (by decide) ?_
    show own_S p e below s₁ (mkF m 17 #[vi (5 : Int32)] []) _
    refine XS.iloadN X0.here hx rfl (hb hby d1_17) rfl ?_
    show own_S p e below s₁ (mkF m 18 #[vi (5 : Int32)] [xi (5 : Int32)]) _
    refine XS.iconst X0.here hx rfl (hb hby d1_18) ?_
    show own_S p e below s₁ (mkF m 19 #[vi (5 : Int32)] [xi (2 : Int32), xi (5 : Int32)]) _
    refine XS.icmpYes X0.here hx rfl (pc0 := 19) (pc' := 26) rfl (hb hby d1_19) rfl (by decide) (by decide) (by decide) ?_
    show own_S p e below s₁ (mkF m 26 #[vi (5 : Int32)] []) _
    refine XS.iloadN X0.here hx rfl (hb hby d1_26) rfl ?_
    show own_S p e below s₁ (mkF m 27 #[vi (5 : Int32)] [xi (5 : Int32)]) _
    refine XS.iconst X0.here hx rfl (hb hby d1_27) ?_
    show own_S p e below s₁ (mkF m 28 #[vi (5 : Int32)] [xi (3 : Int32), xi (5 : Int32)]) _
    refine XS.icmpYes X0.here hx rfl (pc0 := 28) (pc' := 35) rfl (hb hby d1_28) rfl (by decide) (by decide) (by decide) ?_
    show own_S p e below s₁ (mkF m 35 #[vi (5 : Int32)] []) _
    refine XS.iloadN X0.here hx rfl (hb hby d1_35) rfl ?_
    show own_S p e below s₁ (mkF m 36 #[vi (5 : Int32)] [xi (5 : Int32)]) _
    refine XS.iconst X0.here hx rfl (hb hby d1_36) ?_
    show own_S p e below s₁ (mkF m 37 #[vi (5 : Int32)] [xi (4 : Int32), xi (5 : Int32)]) _
    refine XS.icmpYes X0.here hx rfl (pc0 := 37) (pc' := 44) rfl (hb hby d1_37) rfl (by decide) (by decide) (by decide) ?_
    show own_S p e below s₁ (mkF m 44 #[vi (5 : Int32)] []) _
    refine XS.iloadN X0.here hx rfl (hb hby d1_44) rfl ?_
    show own_S p e below s₁ (mkF m 45 #[vi (5 : Int32)] [xi (5 : Int32)]) _
    refine XS.iconst X0.here hx rfl (hb hby d1_45) ?_
    show own_S p e below s₁ (mkF m 46 #[vi (5 : Int32)] [xi (5 : Int32), xi (5 : Int32)]) _
    refine XS.icmpNo X0.here hx rfl (hb hby d1_46) rfl (by decide) ?_
    show own_S p e below s₁ (mkF m 49 #[vi (5 : Int32)] []) _
    refine st1 _ ?_
    show own_S p e below T1 (mkF m 52 #[vi (5 : Int32)] [xr u7]) _
    exact X1.areturnOut hx rfl Bd.returns rfl (hb hby d1_52) hr
  · exact ⟨rfl, N0, e1⟩
theorem own_ne_u7_u1 {Z : State} {u0 u1 u2 u3 u4 u5 u6 u7 : Addr} (G : own_St Z u0 u1 u2 u3 u4 u5 u6 u7) : u7 ≠ u1 := Fld.ne (own_F_u7_ordinal G) (own_F_u1_ordinal G) (by decide)
theorem own_ne_u7_u2 {Z : State} {u0 u1 u2 u3 u4 u5 u6 u7 : Addr} (G : own_St Z u0 u1 u2 u3 u4 u5 u6 u7) : u7 ≠ u2 := Fld.ne (own_F_u7_ordinal G) (own_F_u2_ordinal G) (by decide)
theorem ef_own_c11_hasValue (m : MethodId) (u0 u1 u2 u3 u4 u5 u6 u7 : Addr) : entryFrame m #[xr u7] 1 = (mkF m 0 #[vr u7] []) := by first | (simp [entryFrame, mkF, argsToLocals, Value.category]; done) | rfl
set_option maxRecDepth 65536 in
set_option maxHeartbeats 40000000 in
theorem own_c11_hasValue (l : Launch) (Z : State) (a0 : Array Value) (hw : ∀ d ∈ tables_1, d.before a0 Z = true) (u0 u1 u2 u3 u4 u5 u6 u7 : Addr) (G : own_St Z u0 u1 u2 u3 u4 u5 u6 u7) (h0 : Heap) (n0 : Nat) (O0 : Old Z n0 h0) : own_Met l Z Y1 prog_29_method_5_code 1 (some .boolean) ({ frames := 0, cells := 0, slots := 0, locals := 0 } : Room) #[xr u7] h0 (own_QR (some (xi (0 : Int32))) h0 n0) := by
  intro ws
  refine MetFree.of_bodySF (plainFor_of_name pn1) hisR ?_
  intro p e s m args below meth c s₁ Bd hml0 hP hK
  obtain ⟨rfl, hZ, hh⟩ := hP
  have hx := Bd.exec
  have hby := Bd.bytes
  have hml : c.maxLocals = 1 := hml0
  have hown : s.vm.findClass "com/example/mibwright/mibwright/mib/Kind" = some m.cls := findClass_of_methodNamed Bd.named
  have hnm := (name_of_methodNamed Bd.named Bd.method).1
  have X0 : Stand p l e ({ frames := 0, cells := 0, slots := 0, locals := 0 } : Room) s m #[xr u7] below meth c s₁ [] 0 0 := Stand.of_body Bd
  have e0 : s₁.heap = h0 := by rw [← hh, Bd.state]; rfl
  have N0 := Fr.nil n0
  have pre0 : ∀ t, Steps p.tables e below (s₁.setTop (mkF m 0 #[vr u7] [])) t → Steps p.tables e below (s₁.setTop (entryFrame m #[xr u7] 1)) t := fun t k => castTop (ef_own_c11_hasValue m u0 u1 u2 u3 u4 u5 u6 u7) k
  obtain ⟨T1, X1, e1, st1⟩ := getS2 X0 hx hZ hown (host := "") (Or.inl (ww hw 13 rfl)) Via.refl e0 ((own_S_u1 G).ext O0.2) (g := (mkF m 1 #[vr u7] [xr u7])) rfl (hb hby d2_1)
  obtain ⟨T2, X2, e2, st2⟩ := getS2 X1 hx hZ hown (host := "") (Or.inl (ww hw 15 rfl)) Via.refl e1 ((own_S_u2 G).ext O0.2) (g := (mkF m 8 #[vr u7] [xr u7])) rfl (hb hby d2_8)
  obtain ⟨fs, hr, hrun, hended, hW, hsame⟩ := X2.leave (v := some (xi (0 : Int32))) (fun h => by rw [Bd.returns] at h; cases h)
  refine ⟨_, _, pre0 _ ?_, hrun, hended, _, _, rfl, ?_, ⟨_, rfl⟩, hW, hsame.mono (by decide) (by decide)⟩
  · show own_S p e below s₁ (mkF m 0 #[vr u7] []) _
    refine XS.aloadN X0.here hx rfl (hb hby d2_0) rfl rfl ?_
    show own_S p e below s₁ (mkF m 1 #[vr u7] [xr u7]) _
    refine st1 _ ?_
    show own_S p e below T1 (mkF m 4 #[vr u7] [xr u1, xr u7]) _
    refine Jvm.RoadKit.acmp (g := (mkF m 4 #[vr u7] [xr u1, xr u7])) X1 hx rfl rfl rfl (pc0 := 4) (pc' := 7) (same := false) rfl (hb hby d2_4) rfl (own_ref (own_ne_u7_u1 G)) (by decide) (by decide) ?_
    show own_S p e below T1 (mkF m 7 #[vr u7] []) _
    refine XS.aloadN X1.here hx rfl (hb hby d2_7) rfl rfl ?_
    show own_S p e below T1 (mkF m 8 #[vr u7] [xr u7]) _
    refine st2 _ ?_
    show own_S p e below T2 (mkF m 11 #[vr u7] [xr u2, xr u7]) _
    refine Jvm.RoadKit.acmp (g := (mkF m 11 #[vr u7] [xr u2, xr u7])) X2 hx rfl rfl rfl (pc0 := 11) (pc' := 18) (same := false) rfl (hb hby d2_11) rfl (own_ref (own_ne_u7_u2 G)) (by decide) (by decide) ?_
    show own_S p e below T2 (mkF m 18 #[vr u7] []) _
    refine XS.iconst X2.here hx rfl (hb hby d2_18) ?_
    show own_S p e below T2 (mkF m 19 #[vr u7] [xi (0 : Int32)]) _
    exact retN X2 hx (t := .boolean) Bd.returns (by simp) (hb hby d2_19) hr
  · exact ⟨rfl, N0, e2⟩
theorem ef_own_l5 (m : MethodId) (u0 u1 u2 u3 u4 u5 u6 u7 : Addr) (p1 : Int32) : entryFrame m #[xi p1] maxLocals = (mkF m 0 #[vi p1, vu, vu, vu] []) := by first | (simp [entryFrame, mkF, argsToLocals, Value.category, maxLocals]; done) | rfl
set_option maxRecDepth 65536 in
set_option maxHeartbeats 40000000 in
theorem own_l5 (l : Launch) (Z : State) (a0 : Array Value) (hw : ∀ d ∈ tables_1, d.before a0 Z = true) (u0 u1 u2 u3 u4 u5 u6 u7 : Addr) (G : own_St Z u0 u1 u2 u3 u4 u5 u6 u7) (p1 : Int32) (as5 : (p1 &&& (7 : Int32)) = (5 : Int32)) (h0 : Heap) (n0 : Nat) (O0 : Old Z n0 h0) : own_Met l Z x code maxLocals ret room_1 #[xi p1] h0 (own_QL (some (xi (1 : Int32))) n0) := by
  intro ws
  refine MetFree.of_bodySF (plainFor_of_name pn0) hisR ?_
  intro p e s m args below meth c s₁ Bd hml0 hP hK
  obtain ⟨rfl, hZ, hh⟩ := hP
  have hx := Bd.exec
  have hby := Bd.bytes
  have hml : c.maxLocals = 4 := hml0
  have hown : s.vm.findClass "com/example/mibwright/mibwright/mib/KindHasValuePinLaw" = some m.cls := findClass_of_methodNamed Bd.named
  have hnm := (name_of_methodNamed Bd.named Bd.method).1
  have X0 : Stand p l e room_1 s m #[xi p1] below meth c s₁ [] 0 0 := Stand.of_body Bd
  have e0 : s₁.heap = h0 := by rw [← hh, Bd.state]; rfl
  have N0 := Fr.nil n0
  have pre0 : ∀ t, Steps p.tables e below (s₁.setTop (mkF m 0 #[vi p1, vu, vu, vu] [])) t → Steps p.tables e below (s₁.setTop (entryFrame m #[xi p1] maxLocals)) t := fun t k => castTop (ef_own_l5 m u0 u1 u2 u3 u4 u5 u6 u7 p1) k
  obtain ⟨T1, h1, k1, X1, e1, E1, A1, st1⟩ := newP X0 hx hZ (ww hw 0 rfl) e0 (g := (mkF m 7 #[vi p1, vi (5 : Int32), vu, vu] [xi (8 : Int32)])) rfl (hb hby at_7) rfl (by decide) (cap := 8) (by decide) (by decide) (by decide) (by decide)
  obtain ⟨b1, g1⟩ : ∃ z, z = h0.size := ⟨_, rfl⟩
  rw [← g1] at A1 st1
  have g_b1 : n0 ≤ b1 := own_fresh O0 g1
  have O1 : Old Z n0 h1 := O0.ext E1
  have V_b1 : Arv Z h1 b1 k1 .boolean (8 : Int32) [(.int (0 : Int32)), (.int (0 : Int32)), (.int (0 : Int32)), (.int (0 : Int32)), (.int (0 : Int32)), (.int (0 : Int32)), (.int (0 : Int32)), (.int (0 : Int32))] (.int (0 : Int32)) := (Arv.new A1 (by decide)).pad (pad_rep [] (.int (0 : Int32)) 8)
  obtain ⟨cl2, Ar2, q2, S2, N2_, H2, G2⟩ := V_b1
  have hin2 : ¬ ((0 : Int32) < 0 ∨ cl2.slots.size ≤ ((0 : Int32)).toNatClampNeg) := inb_of S2 ⟨by decide, by decide⟩
  obtain ⟨T3, h3, X3, e3, W3, st3⟩ := stZ X1 hx hZ e1 Ar2 (j := (0 : Int32)) hin2 (g := (mkF m 12 #[vi p1, vi (5 : Int32), vu, vu] [xi (0 : Int32), xi (0 : Int32), xr b1, xr b1])) rfl rfl (hb hby at_12)
  have V_b1_3 : Arv Z h3 b1 k1 .boolean (8 : Int32) [xi (0 : Int32), xi (0 : Int32), xi (0 : Int32), xi (0 : Int32), xi (0 : Int32), xi (0 : Int32), xi (0 : Int32), xi (0 : Int32)] (.int (0 : Int32)) := Arv.set Ar2 q2 S2 N2_ H2 G2 (fits_nar_bool _) W3 0 rfl (Nat.le_of_ble_eq_true rfl)
  have O3 : Old Z n0 h3 := O1.wr W3 g_b1
  have N3 := Fr.snoc X3 N0 g_b1
  obtain ⟨cl4, Ar4, q4, S4, N4_, H4, G4⟩ := V_b1_3
  have hin4 : ¬ ((1 : Int32) < 0 ∨ cl4.slots.size ≤ ((1 : Int32)).toNatClampNeg) := inb_of S4 ⟨by decide, by decide⟩
  obtain ⟨T5, h5, X5, e5, W5, st5⟩ := stZ X3 hx hZ e3 Ar4 (j := (1 : Int32)) hin4 (g := (mkF m 16 #[vi p1, vi (5 : Int32), vu, vu] [xi (1 : Int32), xi (1 : Int32), xr b1, xr b1])) rfl rfl (hb hby at_16)
  have V_b1_5 : Arv Z h5 b1 k1 .boolean (8 : Int32) [xi (0 : Int32), xi (1 : Int32), xi (0 : Int32), xi (0 : Int32), xi (0 : Int32), xi (0 : Int32), xi (0 : Int32), xi (0 : Int32)] (.int (0 : Int32)) := Arv.set Ar4 q4 S4 N4_ H4 G4 (fits_nar_bool _) W5 1 rfl (Nat.le_of_ble_eq_true rfl)
  have O5 : Old Z n0 h5 := O3.wr W5 g_b1
  have N5 := Fr.snoc X5 N3 g_b1
  obtain ⟨cl6, Ar6, q6, S6, N6_, H6, G6⟩ := V_b1_5
  have hin6 : ¬ ((2 : Int32) < 0 ∨ cl6.slots.size ≤ ((2 : Int32)).toNatClampNeg) := inb_of S6 ⟨by decide, by decide⟩
  obtain ⟨T7, h7, X7, e7, W7, st7⟩ := stZ X5 hx hZ e5 Ar6 (j := (2 : Int32)) hin6 (g := (mkF m 20 #[vi p1, vi (5 : Int32), vu, vu] [xi (0 : Int32), xi (2 : Int32), xr b1, xr b1])) rfl rfl (hb hby at_20)
  have V_b1_7 : Arv Z h7 b1 k1 .boolean (8 : Int32) [xi (0 : Int32), xi (1 : Int32), xi (0 : Int32), xi (0 : Int32), xi (0 : Int32), xi (0 : Int32), xi (0 : Int32), xi (0 : Int32)] (.int (0 : Int32)) := Arv.set Ar6 q6 S6 N6_ H6 G6 (fits_nar_bool _) W7 2 rfl (Nat.le_of_ble_eq_true rfl)
  have O7 : Old Z n0 h7 := O5.wr W7 g_b1
  have N7 := Fr.snoc X7 N5 g_b1
  obtain ⟨cl8, Ar8, q8, S8, N8_, H8, G8⟩ := V_b1_7
  have hin8 : ¬ ((3 : Int32) < 0 ∨ cl8.slots.size ≤ ((3 : Int32)).toNatClampNeg) := inb_of S8 ⟨by decide, by decide⟩
  obtain ⟨T9, h9, X9, e9, W9, st9⟩ := stZ X7 hx hZ e7 Ar8 (j := (3 : Int32)) hin8 (g := (mkF m 24 #[vi p1, vi (5 : Int32), vu, vu] [xi (0 : Int32), xi (3 : Int32), xr b1, xr b1])) rfl rfl (hb hby at_24)
  have V_b1_9 : Arv Z h9 b1 k1 .boolean (8 : Int32) [xi (0 : Int32), xi (1 : Int32), xi (0 : Int32), xi (0 : Int32), xi (0 : Int32), xi (0 : Int32), xi (0 : Int32), xi (0 : Int32)] (.int (0 : Int32)) := Arv.set Ar8 q8 S8 N8_ H8 G8 (fits_nar_bool _) W9 3 rfl (Nat.le_of_ble_eq_true rfl)
  have O9 : Old Z n0 h9 := O7.wr W9 g_b1
  have N9 := Fr.snoc X9 N7 g_b1
  obtain ⟨cl10, Ar10, q10, S10, N10_, H10, G10⟩ := V_b1_9
  have hin10 : ¬ ((4 : Int32) < 0 ∨ cl10.slots.size ≤ ((4 : Int32)).toNatClampNeg) := inb_of S10 ⟨by decide, by decide⟩
  obtain ⟨T11, h11, X11, e11, W11, st11⟩ := stZ X9 hx hZ e9 Ar10 (j := (4 : Int32)) hin10 (g := (mkF m 28 #[vi p1, vi (5 : Int32), vu, vu] [xi (1 : Int32), xi (4 : Int32), xr b1, xr b1])) rfl rfl (hb hby at_28)
  have V_b1_11 : Arv Z h11 b1 k1 .boolean (8 : Int32) [xi (0 : Int32), xi (1 : Int32), xi (0 : Int32), xi (0 : Int32), xi (1 : Int32), xi (0 : Int32), xi (0 : Int32), xi (0 : Int32)] (.int (0 : Int32)) := Arv.set Ar10 q10 S10 N10_ H10 G10 (fits_nar_bool _) W11 4 rfl (Nat.le_of_ble_eq_true rfl)
  have O11 : Old Z n0 h11 := O9.wr W11 g_b1
  have N11 := Fr.snoc X11 N9 g_b1
  obtain ⟨cl12, Ar12, q12, S12, N12_, H12, G12⟩ := V_b1_11
  have hin12 : ¬ ((5 : Int32) < 0 ∨ cl12.slots.size ≤ ((5 : Int32)).toNatClampNeg) := inb_of S12 ⟨by decide, by decide⟩
  obtain ⟨T13, h13, X13, e13, W13, st13⟩ := stZ X11 hx hZ e11 Ar12 (j := (5 : Int32)) hin12 (g := (mkF m 32 #[vi p1, vi (5 : Int32), vu, vu] [xi (0 : Int32), xi (5 : Int32), xr b1, xr b1])) rfl rfl (hb hby at_32)
  have V_b1_13 : Arv Z h13 b1 k1 .boolean (8 : Int32) [xi (0 : Int32), xi (1 : Int32), xi (0 : Int32), xi (0 : Int32), xi (1 : Int32), xi (0 : Int32), xi (0 : Int32), xi (0 : Int32)] (.int (0 : Int32)) := Arv.set Ar12 q12 S12 N12_ H12 G12 (fits_nar_bool _) W13 5 rfl (Nat.le_of_ble_eq_true rfl)
  have O13 : Old Z n0 h13 := O11.wr W13 g_b1
  have N13 := Fr.snoc X13 N11 g_b1
  obtain ⟨cl14, Ar14, q14, S14, N14_, H14, G14⟩ := V_b1_13
  have hin14 : ¬ ((6 : Int32) < 0 ∨ cl14.slots.size ≤ ((6 : Int32)).toNatClampNeg) := inb_of S14 ⟨by decide, by decide⟩
  obtain ⟨T15, h15, X15, e15, W15, st15⟩ := stZ X13 hx hZ e13 Ar14 (j := (6 : Int32)) hin14 (g := (mkF m 37 #[vi p1, vi (5 : Int32), vu, vu] [xi (0 : Int32), xi (6 : Int32), xr b1, xr b1])) rfl rfl (hb hby at_37)
  have V_b1_15 : Arv Z h15 b1 k1 .boolean (8 : Int32) [xi (0 : Int32), xi (1 : Int32), xi (0 : Int32), xi (0 : Int32), xi (1 : Int32), xi (0 : Int32), xi (0 : Int32), xi (0 : Int32)] (.int (0 : Int32)) := Arv.set Ar14 q14 S14 N14_ H14 G14 (fits_nar_bool _) W15 6 rfl (Nat.le_of_ble_eq_true rfl)
  have O15 : Old Z n0 h15 := O13.wr W15 g_b1
  have N15 := Fr.snoc X15 N13 g_b1
  obtain ⟨cl16, Ar16, q16, S16, N16_, H16, G16⟩ := V_b1_15
  have hin16 : ¬ ((7 : Int32) < 0 ∨ cl16.slots.size ≤ ((7 : Int32)).toNatClampNeg) := inb_of S16 ⟨by decide, by decide⟩
  obtain ⟨T17, h17, X17, e17, W17, st17⟩ := stZ X15 hx hZ e15 Ar16 (j := (7 : Int32)) hin16 (g := (mkF m 42 #[vi p1, vi (5 : Int32), vu, vu] [xi (0 : Int32), xi (7 : Int32), xr b1, xr b1])) rfl rfl (hb hby at_42)
  have V_b1_17 : Arv Z h17 b1 k1 .boolean (8 : Int32) [xi (0 : Int32), xi (1 : Int32), xi (0 : Int32), xi (0 : Int32), xi (1 : Int32), xi (0 : Int32), xi (0 : Int32), xi (0 : Int32)] (.int (0 : Int32)) := Arv.set Ar16 q16 S16 N16_ H16 G16 (fits_nar_bool _) W17 7 rfl (Nat.le_of_ble_eq_true rfl)
  have O17 : Old Z n0 h17 := O15.wr W17 g_b1
  have N17 := Fr.snoc X17 N15 g_b1
  obtain ⟨_, _, ⟨T18, L18, k18, n18⟩, -, X18, ⟨Lc18, hQ18, l18, y18, z18⟩, st18⟩ := Jvm.LawKit.callS X17 hx (y := Y0) hown (mvT hZ (ww hw 1 rfl)) (mvT hZ (ww hw 2 rfl)) (mvT hZ (ww hw 3 rfl)) (mvT hZ (ww hw 4 rfl)) (by decide) (backOf (W := 0) (own_c10_kindOf l Z a0 hw u0 u1 u2 u3 u4 u5 u6 u7 G h17 n0 O17 []) hZ (ww hw 4 rfl) (ww hw 3 rfl) (by decide) (by decide)) (g := (mkF m 45 #[vi p1, vi (5 : Int32), vr b1, vu] [xi (5 : Int32)])) rfl (by rw [hml]; rfl) (argsL := [xi (5 : Int32)]) (rest := []) (lenOf pd0 rfl) rfl (by show 2 * 0 + _ ≤ _; exact Nat.le_of_eq rfl) (hb hby at_45) (fun _ _ => ⟨rfl, e17, (by decide : 1 + 0 ≤ _), (by decide : 8 + 0 ≤ _)⟩)
  dsimp only [Pt.U, Pt.locs, Pt.cells, Pt.slots] at X18 l18 y18 z18 st18 hQ18
  subst l18 y18 z18
  obtain ⟨rfl, Nq18, e18⟩ := hQ18
  have N18 := Fr.app N17 Nq18
  obtain ⟨cq19, kq19, qa19, qb19, qc19⟩ := isOf hZ e18 ((own_X_u7 G).ext O17.2)
  obtain ⟨_, _, ⟨T19, L19, k19, n19⟩, -, X19, ⟨Lc19, hQ19, l19, y19, z19⟩, st19⟩ := X18.virtualBack hx (y := Y1) (z := Y1) hown (mvT hZ (ww hw 8 rfl)) (mvT hZ (ww hw 9 rfl)) (notFace_of_selects (args := #[]) (mvT hZ (ww hw 11 rfl))) (mvT hZ (ww hw 11 rfl)) (mvT hZ (ww hw 10 rfl)) (by decide) (backOf (W := 0) (own_c11_hasValue l Z a0 hw u0 u1 u2 u3 u4 u5 u6 u7 G h17 n0 O17 []) hZ (ww hw 12 rfl) (ww hw 6 rfl) (by decide) (by decide)) qa19 qc19 (g := (mkF m 50 #[vi p1, vi (5 : Int32), vr b1, vr u7] [xr u7])) rfl (by rw [hml]; rfl) (Steps.refl _) (argsL := []) (rest := []) (lenOf pd1 rfl) rfl (by show 2 * 0 + _ ≤ _; exact Nat.le_of_eq rfl) (hb hby at_50) (fun _ _ => ⟨rfl, e18, (by decide : 1 + 0 ≤ _), (by decide : 8 + 0 ≤ _)⟩)
  dsimp only [Pt.U, Pt.locs, Pt.cells, Pt.slots] at X19 l19 y19 z19 st19 hQ19
  subst l19 y19 z19
  obtain ⟨rfl, Nq19, e19⟩ := hQ19
  have N19 := Fr.app N18 Nq19
  obtain ⟨cl20, Ar20, q20, S20, N20_, H20, G20⟩ := V_b1_17
  have hin20 : ¬ ((5 : Int32) < 0 ∨ cl20.slots.size ≤ ((5 : Int32)).toNatClampNeg) := inb_of S20 ⟨by decide, by decide⟩
  have hat20 : cl20.slots[((5 : Int32)).toNatClampNeg]? = some (xi (0 : Int32)) := Has.at H20 hin20 rfl
  obtain ⟨fs, hr, hrun, hended, hW, hsame⟩ := X19.leave (v := some (xi (1 : Int32))) (fun h => by rw [Bd.returns] at h; cases h)
  refine ⟨_, _, pre0 _ ?_, hrun, hended, _, _, rfl, ?_, ⟨_, rfl⟩, hW, hsame.mono (by decide) (by decide)⟩
  · show own_S p e below s₁ (mkF m 0 #[vi p1, vu, vu, vu] []) _
    refine XS.iloadN X0.here hx rfl (hb hby at_0) rfl ?_
    show own_S p e below s₁ (mkF m 1 #[vi p1, vu, vu, vu] [xi p1]) _
    refine XS.bipush X0.here hx rfl (hb hby at_1) ?_
    show own_S p e below s₁ (mkF m 3 #[vi p1, vu, vu, vu] [xi (7 : Int32), xi p1]) _
    refine XS.iand X0.here hx rfl (hb hby at_3) rfl ?_
    show own_S p e below s₁ (mkF m 4 #[vi p1, vu, vu, vu] [xi (p1 &&& (7 : Int32))]) _
    refine castTop (show (mkF m 4 #[vi p1, vu, vu, vu] [xi (p1 &&& (7 : Int32))]) = (mkF m 4 #[vi p1, vu, vu, vu] [xi (5 : Int32)]) from by rw [as5]) ?_
    show own_S p e below s₁ (mkF m 4 #[vi p1, vu, vu, vu] [xi (5 : Int32)]) _
    refine XS.istoreN X0.here hx rfl (hb hby at_4) rfl (l' := #[vi p1, vi (5 : Int32), vu, vu]) rfl ?_
    show own_S p e below s₁ (mkF m 5 #[vi p1, vi (5 : Int32), vu, vu] []) _
    refine XS.bipush X0.here hx rfl (hb hby at_5) ?_
    show own_S p e below s₁ (mkF m 7 #[vi p1, vi (5 : Int32), vu, vu] [xi (8 : Int32)]) _
    refine st1 _ ?_
    show own_S p e below T1 (mkF m 9 #[vi p1, vi (5 : Int32), vu, vu] [xr b1]) _
    refine XS.dup X1.here hx rfl (hb hby at_9) rfl rfl ?_
    show own_S p e below T1 (mkF m 10 #[vi p1, vi (5 : Int32), vu, vu] [xr b1, xr b1]) _
    refine XS.iconst X1.here hx rfl (hb hby at_10) ?_
    show own_S p e below T1 (mkF m 11 #[vi p1, vi (5 : Int32), vu, vu] [xi (0 : Int32), xr b1, xr b1]) _
    refine XS.iconst X1.here hx rfl (hb hby at_11) ?_
    show own_S p e below T1 (mkF m 12 #[vi p1, vi (5 : Int32), vu, vu] [xi (0 : Int32), xi (0 : Int32), xr b1, xr b1]) _
    refine st3 _ ?_
    show own_S p e below T3 (mkF m 13 #[vi p1, vi (5 : Int32), vu, vu] [xr b1]) _
    refine XS.dup X3.here hx rfl (hb hby at_13) rfl rfl ?_
    show own_S p e below T3 (mkF m 14 #[vi p1, vi (5 : Int32), vu, vu] [xr b1, xr b1]) _
    refine XS.iconst X3.here hx rfl (hb hby at_14) ?_
    show own_S p e below T3 (mkF m 15 #[vi p1, vi (5 : Int32), vu, vu] [xi (1 : Int32), xr b1, xr b1]) _
    refine XS.iconst X3.here hx rfl (hb hby at_15) ?_
    show own_S p e below T3 (mkF m 16 #[vi p1, vi (5 : Int32), vu, vu] [xi (1 : Int32), xi (1 : Int32), xr b1, xr b1]) _
    refine st5 _ ?_
    show own_S p e below T5 (mkF m 17 #[vi p1, vi (5 : Int32), vu, vu] [xr b1]) _
    refine XS.dup X5.here hx rfl (hb hby at_17) rfl rfl ?_
    show own_S p e below T5 (mkF m 18 #[vi p1, vi (5 : Int32), vu, vu] [xr b1, xr b1]) _
    refine XS.iconst X5.here hx rfl (hb hby at_18) ?_
    show own_S p e below T5 (mkF m 19 #[vi p1, vi (5 : Int32), vu, vu] [xi (2 : Int32), xr b1, xr b1]) _
    refine XS.iconst X5.here hx rfl (hb hby at_19) ?_
    show own_S p e below T5 (mkF m 20 #[vi p1, vi (5 : Int32), vu, vu] [xi (0 : Int32), xi (2 : Int32), xr b1, xr b1]) _
    refine st7 _ ?_
    show own_S p e below T7 (mkF m 21 #[vi p1, vi (5 : Int32), vu, vu] [xr b1]) _
    refine XS.dup X7.here hx rfl (hb hby at_21) rfl rfl ?_
    show own_S p e below T7 (mkF m 22 #[vi p1, vi (5 : Int32), vu, vu] [xr b1, xr b1]) _
    refine XS.iconst X7.here hx rfl (hb hby at_22) ?_
    show own_S p e below T7 (mkF m 23 #[vi p1, vi (5 : Int32), vu, vu] [xi (3 : Int32), xr b1, xr b1]) _
    refine XS.iconst X7.here hx rfl (hb hby at_23) ?_
    show own_S p e below T7 (mkF m 24 #[vi p1, vi (5 : Int32), vu, vu] [xi (0 : Int32), xi (3 : Int32), xr b1, xr b1]) _
    refine st9 _ ?_
    show own_S p e below T9 (mkF m 25 #[vi p1, vi (5 : Int32), vu, vu] [xr b1]) _
    refine XS.dup X9.here hx rfl (hb hby at_25) rfl rfl ?_
    show own_S p e below T9 (mkF m 26 #[vi p1, vi (5 : Int32), vu, vu] [xr b1, xr b1]) _
    refine XS.iconst X9.here hx rfl (hb hby at_26) ?_
    show own_S p e below T9 (mkF m 27 #[vi p1, vi (5 : Int32), vu, vu] [xi (4 : Int32), xr b1, xr b1]) _
    refine XS.iconst X9.here hx rfl (hb hby at_27) ?_
    show own_S p e below T9 (mkF m 28 #[vi p1, vi (5 : Int32), vu, vu] [xi (1 : Int32), xi (4 : Int32), xr b1, xr b1]) _
    refine st11 _ ?_
    show own_S p e below T11 (mkF m 29 #[vi p1, vi (5 : Int32), vu, vu] [xr b1]) _
    refine XS.dup X11.here hx rfl (hb hby at_29) rfl rfl ?_
    show own_S p e below T11 (mkF m 30 #[vi p1, vi (5 : Int32), vu, vu] [xr b1, xr b1]) _
    refine XS.iconst X11.here hx rfl (hb hby at_30) ?_
    show own_S p e below T11 (mkF m 31 #[vi p1, vi (5 : Int32), vu, vu] [xi (5 : Int32), xr b1, xr b1]) _
    refine XS.iconst X11.here hx rfl (hb hby at_31) ?_
    show own_S p e below T11 (mkF m 32 #[vi p1, vi (5 : Int32), vu, vu] [xi (0 : Int32), xi (5 : Int32), xr b1, xr b1]) _
    refine st13 _ ?_
    show own_S p e below T13 (mkF m 33 #[vi p1, vi (5 : Int32), vu, vu] [xr b1]) _
    refine XS.dup X13.here hx rfl (hb hby at_33) rfl rfl ?_
    show own_S p e below T13 (mkF m 34 #[vi p1, vi (5 : Int32), vu, vu] [xr b1, xr b1]) _
    refine XS.bipush X13.here hx rfl (hb hby at_34) ?_
    show own_S p e below T13 (mkF m 36 #[vi p1, vi (5 : Int32), vu, vu] [xi (6 : Int32), xr b1, xr b1]) _
    refine XS.iconst X13.here hx rfl (hb hby at_36) ?_
    show own_S p e below T13 (mkF m 37 #[vi p1, vi (5 : Int32), vu, vu] [xi (0 : Int32), xi (6 : Int32), xr b1, xr b1]) _
    refine st15 _ ?_
    show own_S p e below T15 (mkF m 38 #[vi p1, vi (5 : Int32), vu, vu] [xr b1]) _
    refine XS.dup X15.here hx rfl (hb hby at_38) rfl rfl ?_
    show own_S p e below T15 (mkF m 39 #[vi p1, vi (5 : Int32), vu, vu] [xr b1, xr b1]) _
    refine XS.bipush X15.here hx rfl (hb hby at_39) ?_
    show own_S p e below T15 (mkF m 41 #[vi p1, vi (5 : Int32), vu, vu] [xi (7 : Int32), xr b1, xr b1]) _
    refine XS.iconst X15.here hx rfl (hb hby at_41) ?_
    show own_S p e below T15 (mkF m 42 #[vi p1, vi (5 : Int32), vu, vu] [xi (0 : Int32), xi (7 : Int32), xr b1, xr b1]) _
    refine st17 _ ?_
    show own_S p e below T17 (mkF m 43 #[vi p1, vi (5 : Int32), vu, vu] [xr b1]) _
    refine XS.astoreN X17.here hx rfl (hb hby at_43) rfl rfl (l' := #[vi p1, vi (5 : Int32), vr b1, vu]) rfl ?_
    show own_S p e below T17 (mkF m 44 #[vi p1, vi (5 : Int32), vr b1, vu] []) _
    refine XS.iloadN X17.here hx rfl (hb hby at_44) rfl ?_
    show own_S p e below T17 (mkF m 45 #[vi p1, vi (5 : Int32), vr b1, vu] [xi (5 : Int32)]) _
    refine st18 _ ?_
    show own_S p e below T18 (mkF m 48 #[vi p1, vi (5 : Int32), vr b1, vu] [xr u7]) _
    refine XS.astoreN X18.here hx rfl (hb hby at_48) rfl rfl (l' := #[vi p1, vi (5 : Int32), vr b1, vr u7]) rfl ?_
    show own_S p e below T18 (mkF m 49 #[vi p1, vi (5 : Int32), vr b1, vr u7] []) _
    refine XS.aloadN X18.here hx rfl (hb hby at_49) rfl rfl ?_
    show own_S p e below T18 (mkF m 50 #[vi p1, vi (5 : Int32), vr b1, vr u7] [xr u7]) _
    refine st19.trans ?_
    show own_S p e below T19 (mkF m 53 #[vi p1, vi (5 : Int32), vr b1, vr u7] [xi (0 : Int32)]) _
    refine XS.aloadN X19.here hx rfl (hb hby at_53) rfl rfl ?_
    show own_S p e below T19 (mkF m 54 #[vi p1, vi (5 : Int32), vr b1, vr u7] [xr b1, xi (0 : Int32)]) _
    refine XS.iloadN X19.here hx rfl (hb hby at_54) rfl ?_
    show own_S p e below T19 (mkF m 55 #[vi p1, vi (5 : Int32), vr b1, vr u7] [xi (5 : Int32), xr b1, xi (0 : Int32)]) _
    refine X19.baloadBooleans hx (j := (5 : Int32)) (v := (xi (0 : Int32))) (by rw [e19]; exact Ar20.1) (State.isArrayOf_alike hZ.alike Ar20.2.1) Ar20.2.2 hin20 hat20 (g := (mkF m 55 #[vi p1, vi (5 : Int32), vr b1, vr u7] [xi (5 : Int32), xr b1, xi (0 : Int32)])) rfl rfl (hb hby at_55) _ ?_
    show own_S p e below T19 (mkF m 56 #[vi p1, vi (5 : Int32), vr b1, vr u7] [xi (0 : Int32), xi (0 : Int32)]) _
    refine XS.icmpNo X19.here hx rfl (hb hby at_56) rfl (by decide) ?_
    show own_S p e below T19 (mkF m 59 #[vi p1, vi (5 : Int32), vr b1, vr u7] []) _
    refine XS.iconst X19.here hx rfl (hb hby at_59) ?_
    show own_S p e below T19 (mkF m 60 #[vi p1, vi (5 : Int32), vr b1, vr u7] [xi (1 : Int32)]) _
    refine XS.goto X19.here hx rfl (pc0 := 60) (pc' := 64) rfl (hb hby at_60) (by decide) (by decide) ?_
    show own_S p e below T19 (mkF m 64 #[vi p1, vi (5 : Int32), vr b1, vr u7] [xi (1 : Int32)]) _
    exact retN X19 hx (t := .boolean) Bd.returns (by simp) (hb hby at_64) hr
  · exact ⟨rfl, N19⟩
theorem d1_53 : decode method_2_code 53 = .ok (.iload_n 0, 1) := by decide +kernel
theorem d1_54 : decode method_2_code 54 = .ok (.bipush 6, 2) := by decide +kernel
theorem d1_56 : decode method_2_code 56 = .ok (.if_icmp .ne 7, 3) := by decide +kernel
theorem d1_59 : decode method_2_code 59 = .ok (.getstatic 28, 3) := by decide +kernel
theorem d1_62 : decode method_2_code 62 = .ok (.areturn, 1) := by decide +kernel
theorem ef_own_c12_kindOf (m : MethodId) (u0 u1 u2 u3 u4 u5 u6 u7 : Addr) : entryFrame m #[xi (6 : Int32)] 1 = (mkF m 0 #[vi (6 : Int32)] []) := by first | (simp [entryFrame, mkF, argsToLocals, Value.category]; done) | rfl
set_option maxRecDepth 65536 in
set_option maxHeartbeats 40000000 in
theorem own_c12_kindOf (l : Launch) (Z : State) (a0 : Array Value) (hw : ∀ d ∈ tables_1, d.before a0 Z = true) (u0 u1 u2 u3 u4 u5 u6 u7 : Addr) (G : own_St Z u0 u1 u2 u3 u4 u5 u6 u7) (h0 : Heap) (n0 : Nat) (O0 : Old Z n0 h0) : own_Met l Z Y0 method_2_code 1 (some (.object "com/example/mibwright/mibwright/mib/Kind")) ({ frames := 0, cells := 0, slots := 0, locals := 0 } : Room) #[xi (6 : Int32)] h0 (own_QR (some (xr u4)) h0 n0) := by
  intro ws
  refine MetFree.of_bodySF (plainFor_of_name pn0) hisR ?_
  intro p e s m args below meth c s₁ Bd hml0 hP hK
  obtain ⟨rfl, hZ, hh⟩ := hP
  have hx := Bd.exec
  have hby := Bd.bytes
  have hml : c.maxLocals = 1 := hml0
  have hown : s.vm.findClass "com/example/mibwright/mibwright/mib/KindHasValuePinLaw" = some m.cls := findClass_of_methodNamed Bd.named
  have hnm := (name_of_methodNamed Bd.named Bd.method).1
  have X0 : Stand p l e ({ frames := 0, cells := 0, slots := 0, locals := 0 } : Room) s m #[xi (6 : Int32)] below meth c s₁ [] 0 0 := Stand.of_body Bd
  have e0 : s₁.heap = h0 := by rw [← hh, Bd.state]; rfl
  have N0 := Fr.nil n0
  have pre0 : ∀ t, Steps p.tables e below (s₁.setTop (mkF m 0 #[vi (6 : Int32)] [])) t → Steps p.tables e below (s₁.setTop (entryFrame m #[xi (6 : Int32)] 1)) t := fun t k => castTop (ef_own_c12_kindOf m u0 u1 u2 u3 u4 u5 u6 u7) k
  obtain ⟨T1, X1, e1, st1⟩ := getS2 X0 hx hZ hown (host := "") (Or.inl (ww hw 19 rfl)) Via.refl e0 ((own_S_u4 G).ext O0.2) (g := (mkF m 59 #[vi (6 : Int32)] [])) rfl (hb hby d1_59)
  obtain ⟨fs, hr, hrun, hended, hW, hsame⟩ := X1.leave (v := some (xr u4)) (fun h => by rw [Bd.returns] at h; cases h)
  refine ⟨_, _, pre0 _ ?_, hrun, hended, _, _, rfl, ?_, ⟨_, rfl⟩, hW, hsame.mono (by decide) (by decide)⟩
  · show own_S p e below s₁ (mkF m 0 #[vi (6 : Int32)] []) _
    refine XS.iloadN X0.here hx rfl (hb hby d1_0) rfl ?_
    show own_S p e below s₁ (mkF m 1 #[vi (6 : Int32)] [xi (6 : Int32)]) _
    refine XS.ifYes X0.here hx rfl (pc0 := 1) (pc' := 8) rfl (hb hby d1_1) rfl (by decide) (by decide) (by decide) ?_
    show own_S p e below s₁ (mkF m 8 #[vi (6 : Int32)] []) _
    refine XS.iloadN X0.here hx rfl (hb hby d1_8) rfl ?_
    show own_S p e below s₁ (mkF m 9 #[vi (6 : Int32)] [xi (6 : Int32)]) _
    refine XS.iconst X0.here hx rfl (hb hby d1_9) ?_
    show own_S p e below s₁ (mkF m 10 #[vi (6 : Int32)] [xi (1 : Int32), xi (6 : Int32)]) _
    refine XS.icmpYes X0.here hx rfl (pc0 := 10) (pc' := 17) rfl (hb hby d1_10) rfl (by decide) (by decide) (by decide) ?_
    show own_S p e below s₁ (mkF m 17 #[vi (6 : Int32)] []) _
    refine XS.iloadN X0.here hx rfl (hb hby d1_17) rfl ?_
    show own_S p e below s₁ (mkF m 18 #[vi (6 : Int32)] [xi (6 : Int32)]) _
    refine XS.iconst X0.here hx rfl (hb hby d1_18) ?_
    show own_S p e below s₁ (mkF m 19 #[vi (6 : Int32)] [xi (2 : Int32), xi (6 : Int32)]) _
    refine XS.icmpYes X0.here hx rfl (pc0 := 19) (pc' := 26) rfl (hb hby d1_19) rfl (by decide) (by decide) (by decide) ?_
    show own_S p e below s₁ (mkF m 26 #[vi (6 : Int32)] []) _
    refine XS.iloadN X0.here hx rfl (hb hby d1_26) rfl ?_
    show own_S p e below s₁ (mkF m 27 #[vi (6 : Int32)] [xi (6 : Int32)]) _
    refine XS.iconst X0.here hx rfl (hb hby d1_27) ?_
    show own_S p e below s₁ (mkF m 28 #[vi (6 : Int32)] [xi (3 : Int32), xi (6 : Int32)]) _
    refine XS.icmpYes X0.here hx rfl (pc0 := 28) (pc' := 35) rfl (hb hby d1_28) rfl (by decide) (by decide) (by decide) ?_
    show own_S p e below s₁ (mkF m 35 #[vi (6 : Int32)] []) _
    refine XS.iloadN X0.here hx rfl (hb hby d1_35) rfl ?_
    show own_S p e below s₁ (mkF m 36 #[vi (6 : Int32)] [xi (6 : Int32)]) _
    refine XS.iconst X0.here hx rfl (hb hby d1_36) ?_
    show own_S p e below s₁ (mkF m 37 #[vi (6 : Int32)] [xi (4 : Int32), xi (6 : Int32)]) _
    refine XS.icmpYes X0.here hx rfl (pc0 := 37) (pc' := 44) rfl (hb hby d1_37) rfl (by decide) (by decide) (by decide) ?_
    show own_S p e below s₁ (mkF m 44 #[vi (6 : Int32)] []) _
    refine XS.iloadN X0.here hx rfl (hb hby d1_44) rfl ?_
    show own_S p e below s₁ (mkF m 45 #[vi (6 : Int32)] [xi (6 : Int32)]) _
    refine XS.iconst X0.here hx rfl (hb hby d1_45) ?_
    show own_S p e below s₁ (mkF m 46 #[vi (6 : Int32)] [xi (5 : Int32), xi (6 : Int32)]) _
    refine XS.icmpYes X0.here hx rfl (pc0 := 46) (pc' := 53) rfl (hb hby d1_46) rfl (by decide) (by decide) (by decide) ?_
    show own_S p e below s₁ (mkF m 53 #[vi (6 : Int32)] []) _
    refine XS.iloadN X0.here hx rfl (hb hby d1_53) rfl ?_
    show own_S p e below s₁ (mkF m 54 #[vi (6 : Int32)] [xi (6 : Int32)]) _
    refine XS.bipush X0.here hx rfl (hb hby d1_54) ?_
    show own_S p e below s₁ (mkF m 56 #[vi (6 : Int32)] [xi (6 : Int32), xi (6 : Int32)]) _
    refine XS.icmpNo X0.here hx rfl (hb hby d1_56) rfl (by decide) ?_
    show own_S p e below s₁ (mkF m 59 #[vi (6 : Int32)] []) _
    refine st1 _ ?_
    show own_S p e below T1 (mkF m 62 #[vi (6 : Int32)] [xr u4]) _
    exact X1.areturnOut hx rfl Bd.returns rfl (hb hby d1_62) hr
  · exact ⟨rfl, N0, e1⟩
theorem own_ne_u4_u1 {Z : State} {u0 u1 u2 u3 u4 u5 u6 u7 : Addr} (G : own_St Z u0 u1 u2 u3 u4 u5 u6 u7) : u4 ≠ u1 := Fld.ne (own_F_u4_ordinal G) (own_F_u1_ordinal G) (by decide)
theorem own_ne_u4_u2 {Z : State} {u0 u1 u2 u3 u4 u5 u6 u7 : Addr} (G : own_St Z u0 u1 u2 u3 u4 u5 u6 u7) : u4 ≠ u2 := Fld.ne (own_F_u4_ordinal G) (own_F_u2_ordinal G) (by decide)
theorem ef_own_c13_hasValue (m : MethodId) (u0 u1 u2 u3 u4 u5 u6 u7 : Addr) : entryFrame m #[xr u4] 1 = (mkF m 0 #[vr u4] []) := by first | (simp [entryFrame, mkF, argsToLocals, Value.category]; done) | rfl
set_option maxRecDepth 65536 in
set_option maxHeartbeats 40000000 in
theorem own_c13_hasValue (l : Launch) (Z : State) (a0 : Array Value) (hw : ∀ d ∈ tables_1, d.before a0 Z = true) (u0 u1 u2 u3 u4 u5 u6 u7 : Addr) (G : own_St Z u0 u1 u2 u3 u4 u5 u6 u7) (h0 : Heap) (n0 : Nat) (O0 : Old Z n0 h0) : own_Met l Z Y1 prog_29_method_5_code 1 (some .boolean) ({ frames := 0, cells := 0, slots := 0, locals := 0 } : Room) #[xr u4] h0 (own_QR (some (xi (0 : Int32))) h0 n0) := by
  intro ws
  refine MetFree.of_bodySF (plainFor_of_name pn1) hisR ?_
  intro p e s m args below meth c s₁ Bd hml0 hP hK
  obtain ⟨rfl, hZ, hh⟩ := hP
  have hx := Bd.exec
  have hby := Bd.bytes
  have hml : c.maxLocals = 1 := hml0
  have hown : s.vm.findClass "com/example/mibwright/mibwright/mib/Kind" = some m.cls := findClass_of_methodNamed Bd.named
  have hnm := (name_of_methodNamed Bd.named Bd.method).1
  have X0 : Stand p l e ({ frames := 0, cells := 0, slots := 0, locals := 0 } : Room) s m #[xr u4] below meth c s₁ [] 0 0 := Stand.of_body Bd
  have e0 : s₁.heap = h0 := by rw [← hh, Bd.state]; rfl
  have N0 := Fr.nil n0
  have pre0 : ∀ t, Steps p.tables e below (s₁.setTop (mkF m 0 #[vr u4] [])) t → Steps p.tables e below (s₁.setTop (entryFrame m #[xr u4] 1)) t := fun t k => castTop (ef_own_c13_hasValue m u0 u1 u2 u3 u4 u5 u6 u7) k
  obtain ⟨T1, X1, e1, st1⟩ := getS2 X0 hx hZ hown (host := "") (Or.inl (ww hw 13 rfl)) Via.refl e0 ((own_S_u1 G).ext O0.2) (g := (mkF m 1 #[vr u4] [xr u4])) rfl (hb hby d2_1)
  obtain ⟨T2, X2, e2, st2⟩ := getS2 X1 hx hZ hown (host := "") (Or.inl (ww hw 15 rfl)) Via.refl e1 ((own_S_u2 G).ext O0.2) (g := (mkF m 8 #[vr u4] [xr u4])) rfl (hb hby d2_8)
  obtain ⟨fs, hr, hrun, hended, hW, hsame⟩ := X2.leave (v := some (xi (0 : Int32))) (fun h => by rw [Bd.returns] at h; cases h)
  refine ⟨_, _, pre0 _ ?_, hrun, hended, _, _, rfl, ?_, ⟨_, rfl⟩, hW, hsame.mono (by decide) (by decide)⟩
  · show own_S p e below s₁ (mkF m 0 #[vr u4] []) _
    refine XS.aloadN X0.here hx rfl (hb hby d2_0) rfl rfl ?_
    show own_S p e below s₁ (mkF m 1 #[vr u4] [xr u4]) _
    refine st1 _ ?_
    show own_S p e below T1 (mkF m 4 #[vr u4] [xr u1, xr u4]) _
    refine Jvm.RoadKit.acmp (g := (mkF m 4 #[vr u4] [xr u1, xr u4])) X1 hx rfl rfl rfl (pc0 := 4) (pc' := 7) (same := false) rfl (hb hby d2_4) rfl (own_ref (own_ne_u4_u1 G)) (by decide) (by decide) ?_
    show own_S p e below T1 (mkF m 7 #[vr u4] []) _
    refine XS.aloadN X1.here hx rfl (hb hby d2_7) rfl rfl ?_
    show own_S p e below T1 (mkF m 8 #[vr u4] [xr u4]) _
    refine st2 _ ?_
    show own_S p e below T2 (mkF m 11 #[vr u4] [xr u2, xr u4]) _
    refine Jvm.RoadKit.acmp (g := (mkF m 11 #[vr u4] [xr u2, xr u4])) X2 hx rfl rfl rfl (pc0 := 11) (pc' := 18) (same := false) rfl (hb hby d2_11) rfl (own_ref (own_ne_u4_u2 G)) (by decide) (by decide) ?_
    show own_S p e below T2 (mkF m 18 #[vr u4] []) _
    refine XS.iconst X2.here hx rfl (hb hby d2_18) ?_
    show own_S p e below T2 (mkF m 19 #[vr u4] [xi (0 : Int32)]) _
    exact retN X2 hx (t := .boolean) Bd.returns (by simp) (hb hby d2_19) hr
  · exact ⟨rfl, N0, e2⟩
theorem ef_own_l6 (m : MethodId) (u0 u1 u2 u3 u4 u5 u6 u7 : Addr) (p1 : Int32) : entryFrame m #[xi p1] maxLocals = (mkF m 0 #[vi p1, vu, vu, vu] []) := by first | (simp [entryFrame, mkF, argsToLocals, Value.category, maxLocals]; done) | rfl
set_option maxRecDepth 65536 in
set_option maxHeartbeats 40000000 in
theorem own_l6 (l : Launch) (Z : State) (a0 : Array Value) (hw : ∀ d ∈ tables_1, d.before a0 Z = true) (u0 u1 u2 u3 u4 u5 u6 u7 : Addr) (G : own_St Z u0 u1 u2 u3 u4 u5 u6 u7) (p1 : Int32) (as6 : (p1 &&& (7 : Int32)) = (6 : Int32)) (h0 : Heap) (n0 : Nat) (O0 : Old Z n0 h0) : own_Met l Z x code maxLocals ret room_1 #[xi p1] h0 (own_QL (some (xi (1 : Int32))) n0) := by
  intro ws
  refine MetFree.of_bodySF (plainFor_of_name pn0) hisR ?_
  intro p e s m args below meth c s₁ Bd hml0 hP hK
  obtain ⟨rfl, hZ, hh⟩ := hP
  have hx := Bd.exec
  have hby := Bd.bytes
  have hml : c.maxLocals = 4 := hml0
  have hown : s.vm.findClass "com/example/mibwright/mibwright/mib/KindHasValuePinLaw" = some m.cls := findClass_of_methodNamed Bd.named
  have hnm := (name_of_methodNamed Bd.named Bd.method).1
  have X0 : Stand p l e room_1 s m #[xi p1] below meth c s₁ [] 0 0 := Stand.of_body Bd
  have e0 : s₁.heap = h0 := by rw [← hh, Bd.state]; rfl
  have N0 := Fr.nil n0
  have pre0 : ∀ t, Steps p.tables e below (s₁.setTop (mkF m 0 #[vi p1, vu, vu, vu] [])) t → Steps p.tables e below (s₁.setTop (entryFrame m #[xi p1] maxLocals)) t := fun t k => castTop (ef_own_l6 m u0 u1 u2 u3 u4 u5 u6 u7 p1) k
  obtain ⟨T1, h1, k1, X1, e1, E1, A1, st1⟩ := newP X0 hx hZ (ww hw 0 rfl) e0 (g := (mkF m 7 #[vi p1, vi (6 : Int32), vu, vu] [xi (8 : Int32)])) rfl (hb hby at_7) rfl (by decide) (cap := 8) (by decide) (by decide) (by decide) (by decide)
  obtain ⟨b1, g1⟩ : ∃ z, z = h0.size := ⟨_, rfl⟩
  rw [← g1] at A1 st1
  have g_b1 : n0 ≤ b1 := own_fresh O0 g1
  have O1 : Old Z n0 h1 := O0.ext E1
  have V_b1 : Arv Z h1 b1 k1 .boolean (8 : Int32) [(.int (0 : Int32)), (.int (0 : Int32)), (.int (0 : Int32)), (.int (0 : Int32)), (.int (0 : Int32)), (.int (0 : Int32)), (.int (0 : Int32)), (.int (0 : Int32))] (.int (0 : Int32)) := (Arv.new A1 (by decide)).pad (pad_rep [] (.int (0 : Int32)) 8)
  obtain ⟨cl2, Ar2, q2, S2, N2_, H2, G2⟩ := V_b1
  have hin2 : ¬ ((0 : Int32) < 0 ∨ cl2.slots.size ≤ ((0 : Int32)).toNatClampNeg) := inb_of S2 ⟨by decide, by decide⟩
  obtain ⟨T3, h3, X3, e3, W3, st3⟩ := stZ X1 hx hZ e1 Ar2 (j := (0 : Int32)) hin2 (g := (mkF m 12 #[vi p1, vi (6 : Int32), vu, vu] [xi (0 : Int32), xi (0 : Int32), xr b1, xr b1])) rfl rfl (hb hby at_12)
  have V_b1_3 : Arv Z h3 b1 k1 .boolean (8 : Int32) [xi (0 : Int32), xi (0 : Int32), xi (0 : Int32), xi (0 : Int32), xi (0 : Int32), xi (0 : Int32), xi (0 : Int32), xi (0 : Int32)] (.int (0 : Int32)) := Arv.set Ar2 q2 S2 N2_ H2 G2 (fits_nar_bool _) W3 0 rfl (Nat.le_of_ble_eq_true rfl)
  have O3 : Old Z n0 h3 := O1.wr W3 g_b1
  have N3 := Fr.snoc X3 N0 g_b1
  obtain ⟨cl4, Ar4, q4, S4, N4_, H4, G4⟩ := V_b1_3
  have hin4 : ¬ ((1 : Int32) < 0 ∨ cl4.slots.size ≤ ((1 : Int32)).toNatClampNeg) := inb_of S4 ⟨by decide, by decide⟩
  obtain ⟨T5, h5, X5, e5, W5, st5⟩ := stZ X3 hx hZ e3 Ar4 (j := (1 : Int32)) hin4 (g := (mkF m 16 #[vi p1, vi (6 : Int32), vu, vu] [xi (1 : Int32), xi (1 : Int32), xr b1, xr b1])) rfl rfl (hb hby at_16)
  have V_b1_5 : Arv Z h5 b1 k1 .boolean (8 : Int32) [xi (0 : Int32), xi (1 : Int32), xi (0 : Int32), xi (0 : Int32), xi (0 : Int32), xi (0 : Int32), xi (0 : Int32), xi (0 : Int32)] (.int (0 : Int32)) := Arv.set Ar4 q4 S4 N4_ H4 G4 (fits_nar_bool _) W5 1 rfl (Nat.le_of_ble_eq_true rfl)
  have O5 : Old Z n0 h5 := O3.wr W5 g_b1
  have N5 := Fr.snoc X5 N3 g_b1
  obtain ⟨cl6, Ar6, q6, S6, N6_, H6, G6⟩ := V_b1_5
  have hin6 : ¬ ((2 : Int32) < 0 ∨ cl6.slots.size ≤ ((2 : Int32)).toNatClampNeg) := inb_of S6 ⟨by decide, by decide⟩
  obtain ⟨T7, h7, X7, e7, W7, st7⟩ := stZ X5 hx hZ e5 Ar6 (j := (2 : Int32)) hin6 (g := (mkF m 20 #[vi p1, vi (6 : Int32), vu, vu] [xi (0 : Int32), xi (2 : Int32), xr b1, xr b1])) rfl rfl (hb hby at_20)
  have V_b1_7 : Arv Z h7 b1 k1 .boolean (8 : Int32) [xi (0 : Int32), xi (1 : Int32), xi (0 : Int32), xi (0 : Int32), xi (0 : Int32), xi (0 : Int32), xi (0 : Int32), xi (0 : Int32)] (.int (0 : Int32)) := Arv.set Ar6 q6 S6 N6_ H6 G6 (fits_nar_bool _) W7 2 rfl (Nat.le_of_ble_eq_true rfl)
  have O7 : Old Z n0 h7 := O5.wr W7 g_b1
  have N7 := Fr.snoc X7 N5 g_b1
  obtain ⟨cl8, Ar8, q8, S8, N8_, H8, G8⟩ := V_b1_7
  have hin8 : ¬ ((3 : Int32) < 0 ∨ cl8.slots.size ≤ ((3 : Int32)).toNatClampNeg) := inb_of S8 ⟨by decide, by decide⟩
  obtain ⟨T9, h9, X9, e9, W9, st9⟩ := stZ X7 hx hZ e7 Ar8 (j := (3 : Int32)) hin8 (g := (mkF m 24 #[vi p1, vi (6 : Int32), vu, vu] [xi (0 : Int32), xi (3 : Int32), xr b1, xr b1])) rfl rfl (hb hby at_24)
  have V_b1_9 : Arv Z h9 b1 k1 .boolean (8 : Int32) [xi (0 : Int32), xi (1 : Int32), xi (0 : Int32), xi (0 : Int32), xi (0 : Int32), xi (0 : Int32), xi (0 : Int32), xi (0 : Int32)] (.int (0 : Int32)) := Arv.set Ar8 q8 S8 N8_ H8 G8 (fits_nar_bool _) W9 3 rfl (Nat.le_of_ble_eq_true rfl)
  have O9 : Old Z n0 h9 := O7.wr W9 g_b1
  have N9 := Fr.snoc X9 N7 g_b1
  obtain ⟨cl10, Ar10, q10, S10, N10_, H10, G10⟩ := V_b1_9
  have hin10 : ¬ ((4 : Int32) < 0 ∨ cl10.slots.size ≤ ((4 : Int32)).toNatClampNeg) := inb_of S10 ⟨by decide, by decide⟩
  obtain ⟨T11, h11, X11, e11, W11, st11⟩ := stZ X9 hx hZ e9 Ar10 (j := (4 : Int32)) hin10 (g := (mkF m 28 #[vi p1, vi (6 : Int32), vu, vu] [xi (1 : Int32), xi (4 : Int32), xr b1, xr b1])) rfl rfl (hb hby at_28)
  have V_b1_11 : Arv Z h11 b1 k1 .boolean (8 : Int32) [xi (0 : Int32), xi (1 : Int32), xi (0 : Int32), xi (0 : Int32), xi (1 : Int32), xi (0 : Int32), xi (0 : Int32), xi (0 : Int32)] (.int (0 : Int32)) := Arv.set Ar10 q10 S10 N10_ H10 G10 (fits_nar_bool _) W11 4 rfl (Nat.le_of_ble_eq_true rfl)
  have O11 : Old Z n0 h11 := O9.wr W11 g_b1
  have N11 := Fr.snoc X11 N9 g_b1
  obtain ⟨cl12, Ar12, q12, S12, N12_, H12, G12⟩ := V_b1_11
  have hin12 : ¬ ((5 : Int32) < 0 ∨ cl12.slots.size ≤ ((5 : Int32)).toNatClampNeg) := inb_of S12 ⟨by decide, by decide⟩
  obtain ⟨T13, h13, X13, e13, W13, st13⟩ := stZ X11 hx hZ e11 Ar12 (j := (5 : Int32)) hin12 (g := (mkF m 32 #[vi p1, vi (6 : Int32), vu, vu] [xi (0 : Int32), xi (5 : Int32), xr b1, xr b1])) rfl rfl (hb hby at_32)
  have V_b1_13 : Arv Z h13 b1 k1 .boolean (8 : Int32) [xi (0 : Int32), xi (1 : Int32), xi (0 : Int32), xi (0 : Int32), xi (1 : Int32), xi (0 : Int32), xi (0 : Int32), xi (0 : Int32)] (.int (0 : Int32)) := Arv.set Ar12 q12 S12 N12_ H12 G12 (fits_nar_bool _) W13 5 rfl (Nat.le_of_ble_eq_true rfl)
  have O13 : Old Z n0 h13 := O11.wr W13 g_b1
  have N13 := Fr.snoc X13 N11 g_b1
  obtain ⟨cl14, Ar14, q14, S14, N14_, H14, G14⟩ := V_b1_13
  have hin14 : ¬ ((6 : Int32) < 0 ∨ cl14.slots.size ≤ ((6 : Int32)).toNatClampNeg) := inb_of S14 ⟨by decide, by decide⟩
  obtain ⟨T15, h15, X15, e15, W15, st15⟩ := stZ X13 hx hZ e13 Ar14 (j := (6 : Int32)) hin14 (g := (mkF m 37 #[vi p1, vi (6 : Int32), vu, vu] [xi (0 : Int32), xi (6 : Int32), xr b1, xr b1])) rfl rfl (hb hby at_37)
  have V_b1_15 : Arv Z h15 b1 k1 .boolean (8 : Int32) [xi (0 : Int32), xi (1 : Int32), xi (0 : Int32), xi (0 : Int32), xi (1 : Int32), xi (0 : Int32), xi (0 : Int32), xi (0 : Int32)] (.int (0 : Int32)) := Arv.set Ar14 q14 S14 N14_ H14 G14 (fits_nar_bool _) W15 6 rfl (Nat.le_of_ble_eq_true rfl)
  have O15 : Old Z n0 h15 := O13.wr W15 g_b1
  have N15 := Fr.snoc X15 N13 g_b1
  obtain ⟨cl16, Ar16, q16, S16, N16_, H16, G16⟩ := V_b1_15
  have hin16 : ¬ ((7 : Int32) < 0 ∨ cl16.slots.size ≤ ((7 : Int32)).toNatClampNeg) := inb_of S16 ⟨by decide, by decide⟩
  obtain ⟨T17, h17, X17, e17, W17, st17⟩ := stZ X15 hx hZ e15 Ar16 (j := (7 : Int32)) hin16 (g := (mkF m 42 #[vi p1, vi (6 : Int32), vu, vu] [xi (0 : Int32), xi (7 : Int32), xr b1, xr b1])) rfl rfl (hb hby at_42)
  have V_b1_17 : Arv Z h17 b1 k1 .boolean (8 : Int32) [xi (0 : Int32), xi (1 : Int32), xi (0 : Int32), xi (0 : Int32), xi (1 : Int32), xi (0 : Int32), xi (0 : Int32), xi (0 : Int32)] (.int (0 : Int32)) := Arv.set Ar16 q16 S16 N16_ H16 G16 (fits_nar_bool _) W17 7 rfl (Nat.le_of_ble_eq_true rfl)
  have O17 : Old Z n0 h17 := O15.wr W17 g_b1
  have N17 := Fr.snoc X17 N15 g_b1
  obtain ⟨_, _, ⟨T18, L18, k18, n18⟩, -, X18, ⟨Lc18, hQ18, l18, y18, z18⟩, st18⟩ := Jvm.LawKit.callS X17 hx (y := Y0) hown (mvT hZ (ww hw 1 rfl)) (mvT hZ (ww hw 2 rfl)) (mvT hZ (ww hw 3 rfl)) (mvT hZ (ww hw 4 rfl)) (by decide) (backOf (W := 0) (own_c12_kindOf l Z a0 hw u0 u1 u2 u3 u4 u5 u6 u7 G h17 n0 O17 []) hZ (ww hw 4 rfl) (ww hw 3 rfl) (by decide) (by decide)) (g := (mkF m 45 #[vi p1, vi (6 : Int32), vr b1, vu] [xi (6 : Int32)])) rfl (by rw [hml]; rfl) (argsL := [xi (6 : Int32)]) (rest := []) (lenOf pd0 rfl) rfl (by show 2 * 0 + _ ≤ _; exact Nat.le_of_eq rfl) (hb hby at_45) (fun _ _ => ⟨rfl, e17, (by decide : 1 + 0 ≤ _), (by decide : 8 + 0 ≤ _)⟩)
  dsimp only [Pt.U, Pt.locs, Pt.cells, Pt.slots] at X18 l18 y18 z18 st18 hQ18
  subst l18 y18 z18
  obtain ⟨rfl, Nq18, e18⟩ := hQ18
  have N18 := Fr.app N17 Nq18
  obtain ⟨cq19, kq19, qa19, qb19, qc19⟩ := isOf hZ e18 ((own_X_u4 G).ext O17.2)
  obtain ⟨_, _, ⟨T19, L19, k19, n19⟩, -, X19, ⟨Lc19, hQ19, l19, y19, z19⟩, st19⟩ := X18.virtualBack hx (y := Y1) (z := Y1) hown (mvT hZ (ww hw 8 rfl)) (mvT hZ (ww hw 9 rfl)) (notFace_of_selects (args := #[]) (mvT hZ (ww hw 11 rfl))) (mvT hZ (ww hw 11 rfl)) (mvT hZ (ww hw 10 rfl)) (by decide) (backOf (W := 0) (own_c13_hasValue l Z a0 hw u0 u1 u2 u3 u4 u5 u6 u7 G h17 n0 O17 []) hZ (ww hw 12 rfl) (ww hw 6 rfl) (by decide) (by decide)) qa19 qc19 (g := (mkF m 50 #[vi p1, vi (6 : Int32), vr b1, vr u4] [xr u4])) rfl (by rw [hml]; rfl) (Steps.refl _) (argsL := []) (rest := []) (lenOf pd1 rfl) rfl (by show 2 * 0 + _ ≤ _; exact Nat.le_of_eq rfl) (hb hby at_50) (fun _ _ => ⟨rfl, e18, (by decide : 1 + 0 ≤ _), (by decide : 8 + 0 ≤ _)⟩)
  dsimp only [Pt.U, Pt.locs, Pt.cells, Pt.slots] at X19 l19 y19 z19 st19 hQ19
  subst l19 y19 z19
  obtain ⟨rfl, Nq19, e19⟩ := hQ19
  have N19 := Fr.app N18 Nq19
  obtain ⟨cl20, Ar20, q20, S20, N20_, H20, G20⟩ := V_b1_17
  have hin20 : ¬ ((6 : Int32) < 0 ∨ cl20.slots.size ≤ ((6 : Int32)).toNatClampNeg) := inb_of S20 ⟨by decide, by decide⟩
  have hat20 : cl20.slots[((6 : Int32)).toNatClampNeg]? = some (xi (0 : Int32)) := Has.at H20 hin20 rfl
  obtain ⟨fs, hr, hrun, hended, hW, hsame⟩ := X19.leave (v := some (xi (1 : Int32))) (fun h => by rw [Bd.returns] at h; cases h)
  refine ⟨_, _, pre0 _ ?_, hrun, hended, _, _, rfl, ?_, ⟨_, rfl⟩, hW, hsame.mono (by decide) (by decide)⟩
  · show own_S p e below s₁ (mkF m 0 #[vi p1, vu, vu, vu] []) _
    refine XS.iloadN X0.here hx rfl (hb hby at_0) rfl ?_
    show own_S p e below s₁ (mkF m 1 #[vi p1, vu, vu, vu] [xi p1]) _
    refine XS.bipush X0.here hx rfl (hb hby at_1) ?_
    show own_S p e below s₁ (mkF m 3 #[vi p1, vu, vu, vu] [xi (7 : Int32), xi p1]) _
    refine XS.iand X0.here hx rfl (hb hby at_3) rfl ?_
    show own_S p e below s₁ (mkF m 4 #[vi p1, vu, vu, vu] [xi (p1 &&& (7 : Int32))]) _
    refine castTop (show (mkF m 4 #[vi p1, vu, vu, vu] [xi (p1 &&& (7 : Int32))]) = (mkF m 4 #[vi p1, vu, vu, vu] [xi (6 : Int32)]) from by rw [as6]) ?_
    show own_S p e below s₁ (mkF m 4 #[vi p1, vu, vu, vu] [xi (6 : Int32)]) _
    refine XS.istoreN X0.here hx rfl (hb hby at_4) rfl (l' := #[vi p1, vi (6 : Int32), vu, vu]) rfl ?_
    show own_S p e below s₁ (mkF m 5 #[vi p1, vi (6 : Int32), vu, vu] []) _
    refine XS.bipush X0.here hx rfl (hb hby at_5) ?_
    show own_S p e below s₁ (mkF m 7 #[vi p1, vi (6 : Int32), vu, vu] [xi (8 : Int32)]) _
    refine st1 _ ?_
    show own_S p e below T1 (mkF m 9 #[vi p1, vi (6 : Int32), vu, vu] [xr b1]) _
    refine XS.dup X1.here hx rfl (hb hby at_9) rfl rfl ?_
    show own_S p e below T1 (mkF m 10 #[vi p1, vi (6 : Int32), vu, vu] [xr b1, xr b1]) _
    refine XS.iconst X1.here hx rfl (hb hby at_10) ?_
    show own_S p e below T1 (mkF m 11 #[vi p1, vi (6 : Int32), vu, vu] [xi (0 : Int32), xr b1, xr b1]) _
    refine XS.iconst X1.here hx rfl (hb hby at_11) ?_
    show own_S p e below T1 (mkF m 12 #[vi p1, vi (6 : Int32), vu, vu] [xi (0 : Int32), xi (0 : Int32), xr b1, xr b1]) _
    refine st3 _ ?_
    show own_S p e below T3 (mkF m 13 #[vi p1, vi (6 : Int32), vu, vu] [xr b1]) _
    refine XS.dup X3.here hx rfl (hb hby at_13) rfl rfl ?_
    show own_S p e below T3 (mkF m 14 #[vi p1, vi (6 : Int32), vu, vu] [xr b1, xr b1]) _
    refine XS.iconst X3.here hx rfl (hb hby at_14) ?_
    show own_S p e below T3 (mkF m 15 #[vi p1, vi (6 : Int32), vu, vu] [xi (1 : Int32), xr b1, xr b1]) _
    refine XS.iconst X3.here hx rfl (hb hby at_15) ?_
    show own_S p e below T3 (mkF m 16 #[vi p1, vi (6 : Int32), vu, vu] [xi (1 : Int32), xi (1 : Int32), xr b1, xr b1]) _
    refine st5 _ ?_
    show own_S p e below T5 (mkF m 17 #[vi p1, vi (6 : Int32), vu, vu] [xr b1]) _
    refine XS.dup X5.here hx rfl (hb hby at_17) rfl rfl ?_
    show own_S p e below T5 (mkF m 18 #[vi p1, vi (6 : Int32), vu, vu] [xr b1, xr b1]) _
    refine XS.iconst X5.here hx rfl (hb hby at_18) ?_
    show own_S p e below T5 (mkF m 19 #[vi p1, vi (6 : Int32), vu, vu] [xi (2 : Int32), xr b1, xr b1]) _
    refine XS.iconst X5.here hx rfl (hb hby at_19) ?_
    show own_S p e below T5 (mkF m 20 #[vi p1, vi (6 : Int32), vu, vu] [xi (0 : Int32), xi (2 : Int32), xr b1, xr b1]) _
    refine st7 _ ?_
    show own_S p e below T7 (mkF m 21 #[vi p1, vi (6 : Int32), vu, vu] [xr b1]) _
    refine XS.dup X7.here hx rfl (hb hby at_21) rfl rfl ?_
    show own_S p e below T7 (mkF m 22 #[vi p1, vi (6 : Int32), vu, vu] [xr b1, xr b1]) _
    refine XS.iconst X7.here hx rfl (hb hby at_22) ?_
    show own_S p e below T7 (mkF m 23 #[vi p1, vi (6 : Int32), vu, vu] [xi (3 : Int32), xr b1, xr b1]) _
    refine XS.iconst X7.here hx rfl (hb hby at_23) ?_
    show own_S p e below T7 (mkF m 24 #[vi p1, vi (6 : Int32), vu, vu] [xi (0 : Int32), xi (3 : Int32), xr b1, xr b1]) _
    refine st9 _ ?_
    show own_S p e below T9 (mkF m 25 #[vi p1, vi (6 : Int32), vu, vu] [xr b1]) _
    refine XS.dup X9.here hx rfl (hb hby at_25) rfl rfl ?_
    show own_S p e below T9 (mkF m 26 #[vi p1, vi (6 : Int32), vu, vu] [xr b1, xr b1]) _
    refine XS.iconst X9.here hx rfl (hb hby at_26) ?_
    show own_S p e below T9 (mkF m 27 #[vi p1, vi (6 : Int32), vu, vu] [xi (4 : Int32), xr b1, xr b1]) _
    refine XS.iconst X9.here hx rfl (hb hby at_27) ?_
    show own_S p e below T9 (mkF m 28 #[vi p1, vi (6 : Int32), vu, vu] [xi (1 : Int32), xi (4 : Int32), xr b1, xr b1]) _
    refine st11 _ ?_
    show own_S p e below T11 (mkF m 29 #[vi p1, vi (6 : Int32), vu, vu] [xr b1]) _
    refine XS.dup X11.here hx rfl (hb hby at_29) rfl rfl ?_
    show own_S p e below T11 (mkF m 30 #[vi p1, vi (6 : Int32), vu, vu] [xr b1, xr b1]) _
    refine XS.iconst X11.here hx rfl (hb hby at_30) ?_
    show own_S p e below T11 (mkF m 31 #[vi p1, vi (6 : Int32), vu, vu] [xi (5 : Int32), xr b1, xr b1]) _
    refine XS.iconst X11.here hx rfl (hb hby at_31) ?_
    show own_S p e below T11 (mkF m 32 #[vi p1, vi (6 : Int32), vu, vu] [xi (0 : Int32), xi (5 : Int32), xr b1, xr b1]) _
    refine st13 _ ?_
    show own_S p e below T13 (mkF m 33 #[vi p1, vi (6 : Int32), vu, vu] [xr b1]) _
    refine XS.dup X13.here hx rfl (hb hby at_33) rfl rfl ?_
    show own_S p e below T13 (mkF m 34 #[vi p1, vi (6 : Int32), vu, vu] [xr b1, xr b1]) _
    refine XS.bipush X13.here hx rfl (hb hby at_34) ?_
    show own_S p e below T13 (mkF m 36 #[vi p1, vi (6 : Int32), vu, vu] [xi (6 : Int32), xr b1, xr b1]) _
    refine XS.iconst X13.here hx rfl (hb hby at_36) ?_
    show own_S p e below T13 (mkF m 37 #[vi p1, vi (6 : Int32), vu, vu] [xi (0 : Int32), xi (6 : Int32), xr b1, xr b1]) _
    refine st15 _ ?_
    show own_S p e below T15 (mkF m 38 #[vi p1, vi (6 : Int32), vu, vu] [xr b1]) _
    refine XS.dup X15.here hx rfl (hb hby at_38) rfl rfl ?_
    show own_S p e below T15 (mkF m 39 #[vi p1, vi (6 : Int32), vu, vu] [xr b1, xr b1]) _
    refine XS.bipush X15.here hx rfl (hb hby at_39) ?_
    show own_S p e below T15 (mkF m 41 #[vi p1, vi (6 : Int32), vu, vu] [xi (7 : Int32), xr b1, xr b1]) _
    refine XS.iconst X15.here hx rfl (hb hby at_41) ?_
    show own_S p e below T15 (mkF m 42 #[vi p1, vi (6 : Int32), vu, vu] [xi (0 : Int32), xi (7 : Int32), xr b1, xr b1]) _
    refine st17 _ ?_
    show own_S p e below T17 (mkF m 43 #[vi p1, vi (6 : Int32), vu, vu] [xr b1]) _
    refine XS.astoreN X17.here hx rfl (hb hby at_43) rfl rfl (l' := #[vi p1, vi (6 : Int32), vr b1, vu]) rfl ?_
    show own_S p e below T17 (mkF m 44 #[vi p1, vi (6 : Int32), vr b1, vu] []) _
    refine XS.iloadN X17.here hx rfl (hb hby at_44) rfl ?_
    show own_S p e below T17 (mkF m 45 #[vi p1, vi (6 : Int32), vr b1, vu] [xi (6 : Int32)]) _
    refine st18 _ ?_
    show own_S p e below T18 (mkF m 48 #[vi p1, vi (6 : Int32), vr b1, vu] [xr u4]) _
    refine XS.astoreN X18.here hx rfl (hb hby at_48) rfl rfl (l' := #[vi p1, vi (6 : Int32), vr b1, vr u4]) rfl ?_
    show own_S p e below T18 (mkF m 49 #[vi p1, vi (6 : Int32), vr b1, vr u4] []) _
    refine XS.aloadN X18.here hx rfl (hb hby at_49) rfl rfl ?_
    show own_S p e below T18 (mkF m 50 #[vi p1, vi (6 : Int32), vr b1, vr u4] [xr u4]) _
    refine st19.trans ?_
    show own_S p e below T19 (mkF m 53 #[vi p1, vi (6 : Int32), vr b1, vr u4] [xi (0 : Int32)]) _
    refine XS.aloadN X19.here hx rfl (hb hby at_53) rfl rfl ?_
    show own_S p e below T19 (mkF m 54 #[vi p1, vi (6 : Int32), vr b1, vr u4] [xr b1, xi (0 : Int32)]) _
    refine XS.iloadN X19.here hx rfl (hb hby at_54) rfl ?_
    show own_S p e below T19 (mkF m 55 #[vi p1, vi (6 : Int32), vr b1, vr u4] [xi (6 : Int32), xr b1, xi (0 : Int32)]) _
    refine X19.baloadBooleans hx (j := (6 : Int32)) (v := (xi (0 : Int32))) (by rw [e19]; exact Ar20.1) (State.isArrayOf_alike hZ.alike Ar20.2.1) Ar20.2.2 hin20 hat20 (g := (mkF m 55 #[vi p1, vi (6 : Int32), vr b1, vr u4] [xi (6 : Int32), xr b1, xi (0 : Int32)])) rfl rfl (hb hby at_55) _ ?_
    show own_S p e below T19 (mkF m 56 #[vi p1, vi (6 : Int32), vr b1, vr u4] [xi (0 : Int32), xi (0 : Int32)]) _
    refine XS.icmpNo X19.here hx rfl (hb hby at_56) rfl (by decide) ?_
    show own_S p e below T19 (mkF m 59 #[vi p1, vi (6 : Int32), vr b1, vr u4] []) _
    refine XS.iconst X19.here hx rfl (hb hby at_59) ?_
    show own_S p e below T19 (mkF m 60 #[vi p1, vi (6 : Int32), vr b1, vr u4] [xi (1 : Int32)]) _
    refine XS.goto X19.here hx rfl (pc0 := 60) (pc' := 64) rfl (hb hby at_60) (by decide) (by decide) ?_
    show own_S p e below T19 (mkF m 64 #[vi p1, vi (6 : Int32), vr b1, vr u4] [xi (1 : Int32)]) _
    exact retN X19 hx (t := .boolean) Bd.returns (by simp) (hb hby at_64) hr
  · exact ⟨rfl, N19⟩
theorem d1_63 : decode method_2_code 63 = .ok (.getstatic 31, 3) := by decide +kernel
theorem d1_66 : decode method_2_code 66 = .ok (.areturn, 1) := by decide +kernel
theorem ef_own_c14_kindOf (m : MethodId) (u0 u1 u2 u3 u4 u5 u6 u7 : Addr) : entryFrame m #[xi (7 : Int32)] 1 = (mkF m 0 #[vi (7 : Int32)] []) := by first | (simp [entryFrame, mkF, argsToLocals, Value.category]; done) | rfl
set_option maxRecDepth 65536 in
set_option maxHeartbeats 40000000 in
theorem own_c14_kindOf (l : Launch) (Z : State) (a0 : Array Value) (hw : ∀ d ∈ tables_1, d.before a0 Z = true) (u0 u1 u2 u3 u4 u5 u6 u7 : Addr) (G : own_St Z u0 u1 u2 u3 u4 u5 u6 u7) (h0 : Heap) (n0 : Nat) (O0 : Old Z n0 h0) : own_Met l Z Y0 method_2_code 1 (some (.object "com/example/mibwright/mibwright/mib/Kind")) ({ frames := 0, cells := 0, slots := 0, locals := 0 } : Room) #[xi (7 : Int32)] h0 (own_QR (some (xr u5)) h0 n0) := by
  intro ws
  refine MetFree.of_bodySF (plainFor_of_name pn0) hisR ?_
  intro p e s m args below meth c s₁ Bd hml0 hP hK
  obtain ⟨rfl, hZ, hh⟩ := hP
  have hx := Bd.exec
  have hby := Bd.bytes
  have hml : c.maxLocals = 1 := hml0
  have hown : s.vm.findClass "com/example/mibwright/mibwright/mib/KindHasValuePinLaw" = some m.cls := findClass_of_methodNamed Bd.named
  have hnm := (name_of_methodNamed Bd.named Bd.method).1
  have X0 : Stand p l e ({ frames := 0, cells := 0, slots := 0, locals := 0 } : Room) s m #[xi (7 : Int32)] below meth c s₁ [] 0 0 := Stand.of_body Bd
  have e0 : s₁.heap = h0 := by rw [← hh, Bd.state]; rfl
  have N0 := Fr.nil n0
  have pre0 : ∀ t, Steps p.tables e below (s₁.setTop (mkF m 0 #[vi (7 : Int32)] [])) t → Steps p.tables e below (s₁.setTop (entryFrame m #[xi (7 : Int32)] 1)) t := fun t k => castTop (ef_own_c14_kindOf m u0 u1 u2 u3 u4 u5 u6 u7) k
  obtain ⟨T1, X1, e1, st1⟩ := getS2 X0 hx hZ hown (host := "") (Or.inl (ww hw 21 rfl)) Via.refl e0 ((own_S_u5 G).ext O0.2) (g := (mkF m 63 #[vi (7 : Int32)] [])) rfl (hb hby d1_63)
  obtain ⟨fs, hr, hrun, hended, hW, hsame⟩ := X1.leave (v := some (xr u5)) (fun h => by rw [Bd.returns] at h; cases h)
  refine ⟨_, _, pre0 _ ?_, hrun, hended, _, _, rfl, ?_, ⟨_, rfl⟩, hW, hsame.mono (by decide) (by decide)⟩
  · show own_S p e below s₁ (mkF m 0 #[vi (7 : Int32)] []) _
    refine XS.iloadN X0.here hx rfl (hb hby d1_0) rfl ?_
    show own_S p e below s₁ (mkF m 1 #[vi (7 : Int32)] [xi (7 : Int32)]) _
    refine XS.ifYes X0.here hx rfl (pc0 := 1) (pc' := 8) rfl (hb hby d1_1) rfl (by decide) (by decide) (by decide) ?_
    show own_S p e below s₁ (mkF m 8 #[vi (7 : Int32)] []) _
    refine XS.iloadN X0.here hx rfl (hb hby d1_8) rfl ?_
    show own_S p e below s₁ (mkF m 9 #[vi (7 : Int32)] [xi (7 : Int32)]) _
    refine XS.iconst X0.here hx rfl (hb hby d1_9) ?_
    show own_S p e below s₁ (mkF m 10 #[vi (7 : Int32)] [xi (1 : Int32), xi (7 : Int32)]) _
    refine XS.icmpYes X0.here hx rfl (pc0 := 10) (pc' := 17) rfl (hb hby d1_10) rfl (by decide) (by decide) (by decide) ?_
    show own_S p e below s₁ (mkF m 17 #[vi (7 : Int32)] []) _
    refine XS.iloadN X0.here hx rfl (hb hby d1_17) rfl ?_
    show own_S p e below s₁ (mkF m 18 #[vi (7 : Int32)] [xi (7 : Int32)]) _
    refine XS.iconst X0.here hx rfl (hb hby d1_18) ?_
    show own_S p e below s₁ (mkF m 19 #[vi (7 : Int32)] [xi (2 : Int32), xi (7 : Int32)]) _
    refine XS.icmpYes X0.here hx rfl (pc0 := 19) (pc' := 26) rfl (hb hby d1_19) rfl (by decide) (by decide) (by decide) ?_
    show own_S p e below s₁ (mkF m 26 #[vi (7 : Int32)] []) _
    refine XS.iloadN X0.here hx rfl (hb hby d1_26) rfl ?_
    show own_S p e below s₁ (mkF m 27 #[vi (7 : Int32)] [xi (7 : Int32)]) _
    refine XS.iconst X0.here hx rfl (hb hby d1_27) ?_
    show own_S p e below s₁ (mkF m 28 #[vi (7 : Int32)] [xi (3 : Int32), xi (7 : Int32)]) _
    refine XS.icmpYes X0.here hx rfl (pc0 := 28) (pc' := 35) rfl (hb hby d1_28) rfl (by decide) (by decide) (by decide) ?_
    show own_S p e below s₁ (mkF m 35 #[vi (7 : Int32)] []) _
    refine XS.iloadN X0.here hx rfl (hb hby d1_35) rfl ?_
    show own_S p e below s₁ (mkF m 36 #[vi (7 : Int32)] [xi (7 : Int32)]) _
    refine XS.iconst X0.here hx rfl (hb hby d1_36) ?_
    show own_S p e below s₁ (mkF m 37 #[vi (7 : Int32)] [xi (4 : Int32), xi (7 : Int32)]) _
    refine XS.icmpYes X0.here hx rfl (pc0 := 37) (pc' := 44) rfl (hb hby d1_37) rfl (by decide) (by decide) (by decide) ?_
    show own_S p e below s₁ (mkF m 44 #[vi (7 : Int32)] []) _
    refine XS.iloadN X0.here hx rfl (hb hby d1_44) rfl ?_
    show own_S p e below s₁ (mkF m 45 #[vi (7 : Int32)] [xi (7 : Int32)]) _
    refine XS.iconst X0.here hx rfl (hb hby d1_45) ?_
    show own_S p e below s₁ (mkF m 46 #[vi (7 : Int32)] [xi (5 : Int32), xi (7 : Int32)]) _
    refine XS.icmpYes X0.here hx rfl (pc0 := 46) (pc' := 53) rfl (hb hby d1_46) rfl (by decide) (by decide) (by decide) ?_
    show own_S p e below s₁ (mkF m 53 #[vi (7 : Int32)] []) _
    refine XS.iloadN X0.here hx rfl (hb hby d1_53) rfl ?_
    show own_S p e below s₁ (mkF m 54 #[vi (7 : Int32)] [xi (7 : Int32)]) _
    refine XS.bipush X0.here hx rfl (hb hby d1_54) ?_
    show own_S p e below s₁ (mkF m 56 #[vi (7 : Int32)] [xi (6 : Int32), xi (7 : Int32)]) _
    refine XS.icmpYes X0.here hx rfl (pc0 := 56) (pc' := 63) rfl (hb hby d1_56) rfl (by decide) (by decide) (by decide) ?_
    show own_S p e below s₁ (mkF m 63 #[vi (7 : Int32)] []) _
    refine st1 _ ?_
    show own_S p e below T1 (mkF m 66 #[vi (7 : Int32)] [xr u5]) _
    exact X1.areturnOut hx rfl Bd.returns rfl (hb hby d1_66) hr
  · exact ⟨rfl, N0, e1⟩
theorem own_ne_u5_u1 {Z : State} {u0 u1 u2 u3 u4 u5 u6 u7 : Addr} (G : own_St Z u0 u1 u2 u3 u4 u5 u6 u7) : u5 ≠ u1 := Fld.ne (own_F_u5_ordinal G) (own_F_u1_ordinal G) (by decide)
theorem own_ne_u5_u2 {Z : State} {u0 u1 u2 u3 u4 u5 u6 u7 : Addr} (G : own_St Z u0 u1 u2 u3 u4 u5 u6 u7) : u5 ≠ u2 := Fld.ne (own_F_u5_ordinal G) (own_F_u2_ordinal G) (by decide)
theorem ef_own_c15_hasValue (m : MethodId) (u0 u1 u2 u3 u4 u5 u6 u7 : Addr) : entryFrame m #[xr u5] 1 = (mkF m 0 #[vr u5] []) := by first | (simp [entryFrame, mkF, argsToLocals, Value.category]; done) | rfl
set_option maxRecDepth 65536 in
set_option maxHeartbeats 40000000 in
theorem own_c15_hasValue (l : Launch) (Z : State) (a0 : Array Value) (hw : ∀ d ∈ tables_1, d.before a0 Z = true) (u0 u1 u2 u3 u4 u5 u6 u7 : Addr) (G : own_St Z u0 u1 u2 u3 u4 u5 u6 u7) (h0 : Heap) (n0 : Nat) (O0 : Old Z n0 h0) : own_Met l Z Y1 prog_29_method_5_code 1 (some .boolean) ({ frames := 0, cells := 0, slots := 0, locals := 0 } : Room) #[xr u5] h0 (own_QR (some (xi (0 : Int32))) h0 n0) := by
  intro ws
  refine MetFree.of_bodySF (plainFor_of_name pn1) hisR ?_
  intro p e s m args below meth c s₁ Bd hml0 hP hK
  obtain ⟨rfl, hZ, hh⟩ := hP
  have hx := Bd.exec
  have hby := Bd.bytes
  have hml : c.maxLocals = 1 := hml0
  have hown : s.vm.findClass "com/example/mibwright/mibwright/mib/Kind" = some m.cls := findClass_of_methodNamed Bd.named
  have hnm := (name_of_methodNamed Bd.named Bd.method).1
  have X0 : Stand p l e ({ frames := 0, cells := 0, slots := 0, locals := 0 } : Room) s m #[xr u5] below meth c s₁ [] 0 0 := Stand.of_body Bd
  have e0 : s₁.heap = h0 := by rw [← hh, Bd.state]; rfl
  have N0 := Fr.nil n0
  have pre0 : ∀ t, Steps p.tables e below (s₁.setTop (mkF m 0 #[vr u5] [])) t → Steps p.tables e below (s₁.setTop (entryFrame m #[xr u5] 1)) t := fun t k => castTop (ef_own_c15_hasValue m u0 u1 u2 u3 u4 u5 u6 u7) k
  obtain ⟨T1, X1, e1, st1⟩ := getS2 X0 hx hZ hown (host := "") (Or.inl (ww hw 13 rfl)) Via.refl e0 ((own_S_u1 G).ext O0.2) (g := (mkF m 1 #[vr u5] [xr u5])) rfl (hb hby d2_1)
  obtain ⟨T2, X2, e2, st2⟩ := getS2 X1 hx hZ hown (host := "") (Or.inl (ww hw 15 rfl)) Via.refl e1 ((own_S_u2 G).ext O0.2) (g := (mkF m 8 #[vr u5] [xr u5])) rfl (hb hby d2_8)
  obtain ⟨fs, hr, hrun, hended, hW, hsame⟩ := X2.leave (v := some (xi (0 : Int32))) (fun h => by rw [Bd.returns] at h; cases h)
  refine ⟨_, _, pre0 _ ?_, hrun, hended, _, _, rfl, ?_, ⟨_, rfl⟩, hW, hsame.mono (by decide) (by decide)⟩
  · show own_S p e below s₁ (mkF m 0 #[vr u5] []) _
    refine XS.aloadN X0.here hx rfl (hb hby d2_0) rfl rfl ?_
    show own_S p e below s₁ (mkF m 1 #[vr u5] [xr u5]) _
    refine st1 _ ?_
    show own_S p e below T1 (mkF m 4 #[vr u5] [xr u1, xr u5]) _
    refine Jvm.RoadKit.acmp (g := (mkF m 4 #[vr u5] [xr u1, xr u5])) X1 hx rfl rfl rfl (pc0 := 4) (pc' := 7) (same := false) rfl (hb hby d2_4) rfl (own_ref (own_ne_u5_u1 G)) (by decide) (by decide) ?_
    show own_S p e below T1 (mkF m 7 #[vr u5] []) _
    refine XS.aloadN X1.here hx rfl (hb hby d2_7) rfl rfl ?_
    show own_S p e below T1 (mkF m 8 #[vr u5] [xr u5]) _
    refine st2 _ ?_
    show own_S p e below T2 (mkF m 11 #[vr u5] [xr u2, xr u5]) _
    refine Jvm.RoadKit.acmp (g := (mkF m 11 #[vr u5] [xr u2, xr u5])) X2 hx rfl rfl rfl (pc0 := 11) (pc' := 18) (same := false) rfl (hb hby d2_11) rfl (own_ref (own_ne_u5_u2 G)) (by decide) (by decide) ?_
    show own_S p e below T2 (mkF m 18 #[vr u5] []) _
    refine XS.iconst X2.here hx rfl (hb hby d2_18) ?_
    show own_S p e below T2 (mkF m 19 #[vr u5] [xi (0 : Int32)]) _
    exact retN X2 hx (t := .boolean) Bd.returns (by simp) (hb hby d2_19) hr
  · exact ⟨rfl, N0, e2⟩
theorem ef_own_l7 (m : MethodId) (u0 u1 u2 u3 u4 u5 u6 u7 : Addr) (p1 : Int32) : entryFrame m #[xi p1] maxLocals = (mkF m 0 #[vi p1, vu, vu, vu] []) := by first | (simp [entryFrame, mkF, argsToLocals, Value.category, maxLocals]; done) | rfl
set_option maxRecDepth 65536 in
set_option maxHeartbeats 40000000 in
theorem own_l7 (l : Launch) (Z : State) (a0 : Array Value) (hw : ∀ d ∈ tables_1, d.before a0 Z = true) (u0 u1 u2 u3 u4 u5 u6 u7 : Addr) (G : own_St Z u0 u1 u2 u3 u4 u5 u6 u7) (p1 : Int32) (as7 : (p1 &&& (7 : Int32)) = (7 : Int32)) (h0 : Heap) (n0 : Nat) (O0 : Old Z n0 h0) : own_Met l Z x code maxLocals ret room_1 #[xi p1] h0 (own_QL (some (xi (1 : Int32))) n0) := by
  intro ws
  refine MetFree.of_bodySF (plainFor_of_name pn0) hisR ?_
  intro p e s m args below meth c s₁ Bd hml0 hP hK
  obtain ⟨rfl, hZ, hh⟩ := hP
  have hx := Bd.exec
  have hby := Bd.bytes
  have hml : c.maxLocals = 4 := hml0
  have hown : s.vm.findClass "com/example/mibwright/mibwright/mib/KindHasValuePinLaw" = some m.cls := findClass_of_methodNamed Bd.named
  have hnm := (name_of_methodNamed Bd.named Bd.method).1
  have X0 : Stand p l e room_1 s m #[xi p1] below meth c s₁ [] 0 0 := Stand.of_body Bd
  have e0 : s₁.heap = h0 := by rw [← hh, Bd.state]; rfl
  have N0 := Fr.nil n0
  have pre0 : ∀ t, Steps p.tables e below (s₁.setTop (mkF m 0 #[vi p1, vu, vu, vu] [])) t → Steps p.tables e below (s₁.setTop (entryFrame m #[xi p1] maxLocals)) t := fun t k => castTop (ef_own_l7 m u0 u1 u2 u3 u4 u5 u6 u7 p1) k
  obtain ⟨T1, h1, k1, X1, e1, E1, A1, st1⟩ := newP X0 hx hZ (ww hw 0 rfl) e0 (g := (mkF m 7 #[vi p1, vi (7 : Int32), vu, vu] [xi (8 : Int32)])) rfl (hb hby at_7) rfl (by decide) (cap := 8) (by decide) (by decide) (by decide) (by decide)
  obtain ⟨b1, g1⟩ : ∃ z, z = h0.size := ⟨_, rfl⟩
  rw [← g1] at A1 st1
  have g_b1 : n0 ≤ b1 := own_fresh O0 g1
  have O1 : Old Z n0 h1 := O0.ext E1
  have V_b1 : Arv Z h1 b1 k1 .boolean (8 : Int32) [(.int (0 : Int32)), (.int (0 : Int32)), (.int (0 : Int32)), (.int (0 : Int32)), (.int (0 : Int32)), (.int (0 : Int32)), (.int (0 : Int32)), (.int (0 : Int32))] (.int (0 : Int32)) := (Arv.new A1 (by decide)).pad (pad_rep [] (.int (0 : Int32)) 8)
  obtain ⟨cl2, Ar2, q2, S2, N2_, H2, G2⟩ := V_b1
  have hin2 : ¬ ((0 : Int32) < 0 ∨ cl2.slots.size ≤ ((0 : Int32)).toNatClampNeg) := inb_of S2 ⟨by decide, by decide⟩
  obtain ⟨T3, h3, X3, e3, W3, st3⟩ := stZ X1 hx hZ e1 Ar2 (j := (0 : Int32)) hin2 (g := (mkF m 12 #[vi p1, vi (7 : Int32), vu, vu] [xi (0 : Int32), xi (0 : Int32), xr b1, xr b1])) rfl rfl (hb hby at_12)
  have V_b1_3 : Arv Z h3 b1 k1 .boolean (8 : Int32) [xi (0 : Int32), xi (0 : Int32), xi (0 : Int32), xi (0 : Int32), xi (0 : Int32), xi (0 : Int32), xi (0 : Int32), xi (0 : Int32)] (.int (0 : Int32)) := Arv.set Ar2 q2 S2 N2_ H2 G2 (fits_nar_bool _) W3 0 rfl (Nat.le_of_ble_eq_true rfl)
  have O3 : Old Z n0 h3 := O1.wr W3 g_b1
  have N3 := Fr.snoc X3 N0 g_b1
  obtain ⟨cl4, Ar4, q4, S4, N4_, H4, G4⟩ := V_b1_3
  have hin4 : ¬ ((1 : Int32) < 0 ∨ cl4.slots.size ≤ ((1 : Int32)).toNatClampNeg) := inb_of S4 ⟨by decide, by decide⟩
  obtain ⟨T5, h5, X5, e5, W5, st5⟩ := stZ X3 hx hZ e3 Ar4 (j := (1 : Int32)) hin4 (g := (mkF m 16 #[vi p1, vi (7 : Int32), vu, vu] [xi (1 : Int32), xi (1 : Int32), xr b1, xr b1])) rfl rfl (hb hby at_16)
  have V_b1_5 : Arv Z h5 b1 k1 .boolean (8 : Int32) [xi (0 : Int32), xi (1 : Int32), xi (0 : Int32), xi (0 : Int32), xi (0 : Int32), xi (0 : Int32), xi (0 : Int32), xi (0 : Int32)] (.int (0 : Int32)) := Arv.set Ar4 q4 S4 N4_ H4 G4 (fits_nar_bool _) W5 1 rfl (Nat.le_of_ble_eq_true rfl)
  have O5 : Old Z n0 h5 := O3.wr W5 g_b1
  have N5 := Fr.snoc X5 N3 g_b1
  obtain ⟨cl6, Ar6, q6, S6, N6_, H6, G6⟩ := V_b1_5
  have hin6 : ¬ ((2 : Int32) < 0 ∨ cl6.slots.size ≤ ((2 : Int32)).toNatClampNeg) := inb_of S6 ⟨by decide, by decide⟩
  obtain ⟨T7, h7, X7, e7, W7, st7⟩ := stZ X5 hx hZ e5 Ar6 (j := (2 : Int32)) hin6 (g := (mkF m 20 #[vi p1, vi (7 : Int32), vu, vu] [xi (0 : Int32), xi (2 : Int32), xr b1, xr b1])) rfl rfl (hb hby at_20)
  have V_b1_7 : Arv Z h7 b1 k1 .boolean (8 : Int32) [xi (0 : Int32), xi (1 : Int32), xi (0 : Int32), xi (0 : Int32), xi (0 : Int32), xi (0 : Int32), xi (0 : Int32), xi (0 : Int32)] (.int (0 : Int32)) := Arv.set Ar6 q6 S6 N6_ H6 G6 (fits_nar_bool _) W7 2 rfl (Nat.le_of_ble_eq_true rfl)
  have O7 : Old Z n0 h7 := O5.wr W7 g_b1
  have N7 := Fr.snoc X7 N5 g_b1
  obtain ⟨cl8, Ar8, q8, S8, N8_, H8, G8⟩ := V_b1_7
  have hin8 : ¬ ((3 : Int32) < 0 ∨ cl8.slots.size ≤ ((3 : Int32)).toNatClampNeg) := inb_of S8 ⟨by decide, by decide⟩
  obtain ⟨T9, h9, X9, e9, W9, st9⟩ := stZ X7 hx hZ e7 Ar8 (j := (3 : Int32)) hin8 (g := (mkF m 24 #[vi p1, vi (7 : Int32), vu, vu] [xi (0 : Int32), xi (3 : Int32), xr b1, xr b1])) rfl rfl (hb hby at_24)
  have V_b1_9 : Arv Z h9 b1 k1 .boolean (8 : Int32) [xi (0 : Int32), xi (1 : Int32), xi (0 : Int32), xi (0 : Int32), xi (0 : Int32), xi (0 : Int32), xi (0 : Int32), xi (0 : Int32)] (.int (0 : Int32)) := Arv.set Ar8 q8 S8 N8_ H8 G8 (fits_nar_bool _) W9 3 rfl (Nat.le_of_ble_eq_true rfl)
  have O9 : Old Z n0 h9 := O7.wr W9 g_b1
  have N9 := Fr.snoc X9 N7 g_b1
  obtain ⟨cl10, Ar10, q10, S10, N10_, H10, G10⟩ := V_b1_9
  have hin10 : ¬ ((4 : Int32) < 0 ∨ cl10.slots.size ≤ ((4 : Int32)).toNatClampNeg) := inb_of S10 ⟨by decide, by decide⟩
  obtain ⟨T11, h11, X11, e11, W11, st11⟩ := stZ X9 hx hZ e9 Ar10 (j := (4 : Int32)) hin10 (g := (mkF m 28 #[vi p1, vi (7 : Int32), vu, vu] [xi (1 : Int32), xi (4 : Int32), xr b1, xr b1])) rfl rfl (hb hby at_28)
  have V_b1_11 : Arv Z h11 b1 k1 .boolean (8 : Int32) [xi (0 : Int32), xi (1 : Int32), xi (0 : Int32), xi (0 : Int32), xi (1 : Int32), xi (0 : Int32), xi (0 : Int32), xi (0 : Int32)] (.int (0 : Int32)) := Arv.set Ar10 q10 S10 N10_ H10 G10 (fits_nar_bool _) W11 4 rfl (Nat.le_of_ble_eq_true rfl)
  have O11 : Old Z n0 h11 := O9.wr W11 g_b1
  have N11 := Fr.snoc X11 N9 g_b1
  obtain ⟨cl12, Ar12, q12, S12, N12_, H12, G12⟩ := V_b1_11
  have hin12 : ¬ ((5 : Int32) < 0 ∨ cl12.slots.size ≤ ((5 : Int32)).toNatClampNeg) := inb_of S12 ⟨by decide, by decide⟩
  obtain ⟨T13, h13, X13, e13, W13, st13⟩ := stZ X11 hx hZ e11 Ar12 (j := (5 : Int32)) hin12 (g := (mkF m 32 #[vi p1, vi (7 : Int32), vu, vu] [xi (0 : Int32), xi (5 : Int32), xr b1, xr b1])) rfl rfl (hb hby at_32)
  have V_b1_13 : Arv Z h13 b1 k1 .boolean (8 : Int32) [xi (0 : Int32), xi (1 : Int32), xi (0 : Int32), xi (0 : Int32), xi (1 : Int32), xi (0 : Int32), xi (0 : Int32), xi (0 : Int32)] (.int (0 : Int32)) := Arv.set Ar12 q12 S12 N12_ H12 G12 (fits_nar_bool _) W13 5 rfl (Nat.le_of_ble_eq_true rfl)
  have O13 : Old Z n0 h13 := O11.wr W13 g_b1
  have N13 := Fr.snoc X13 N11 g_b1
  obtain ⟨cl14, Ar14, q14, S14, N14_, H14, G14⟩ := V_b1_13
  have hin14 : ¬ ((6 : Int32) < 0 ∨ cl14.slots.size ≤ ((6 : Int32)).toNatClampNeg) := inb_of S14 ⟨by decide, by decide⟩
  obtain ⟨T15, h15, X15, e15, W15, st15⟩ := stZ X13 hx hZ e13 Ar14 (j := (6 : Int32)) hin14 (g := (mkF m 37 #[vi p1, vi (7 : Int32), vu, vu] [xi (0 : Int32), xi (6 : Int32), xr b1, xr b1])) rfl rfl (hb hby at_37)
  have V_b1_15 : Arv Z h15 b1 k1 .boolean (8 : Int32) [xi (0 : Int32), xi (1 : Int32), xi (0 : Int32), xi (0 : Int32), xi (1 : Int32), xi (0 : Int32), xi (0 : Int32), xi (0 : Int32)] (.int (0 : Int32)) := Arv.set Ar14 q14 S14 N14_ H14 G14 (fits_nar_bool _) W15 6 rfl (Nat.le_of_ble_eq_true rfl)
  have O15 : Old Z n0 h15 := O13.wr W15 g_b1
  have N15 := Fr.snoc X15 N13 g_b1
  obtain ⟨cl16, Ar16, q16, S16, N16_, H16, G16⟩ := V_b1_15
  have hin16 : ¬ ((7 : Int32) < 0 ∨ cl16.slots.size ≤ ((7 : Int32)).toNatClampNeg) := inb_of S16 ⟨by decide, by decide⟩
  obtain ⟨T17, h17, X17, e17, W17, st17⟩ := stZ X15 hx hZ e15 Ar16 (j := (7 : Int32)) hin16 (g := (mkF m 42 #[vi p1, vi (7 : Int32), vu, vu] [xi (0 : Int32), xi (7 : Int32), xr b1, xr b1])) rfl rfl (hb hby at_42)
  have V_b1_17 : Arv Z h17 b1 k1 .boolean (8 : Int32) [xi (0 : Int32), xi (1 : Int32), xi (0 : Int32), xi (0 : Int32), xi (1 : Int32), xi (0 : Int32), xi (0 : Int32), xi (0 : Int32)] (.int (0 : Int32)) := Arv.set Ar16 q16 S16 N16_ H16 G16 (fits_nar_bool _) W17 7 rfl (Nat.le_of_ble_eq_true rfl)
  have O17 : Old Z n0 h17 := O15.wr W17 g_b1
  have N17 := Fr.snoc X17 N15 g_b1
  obtain ⟨_, _, ⟨T18, L18, k18, n18⟩, -, X18, ⟨Lc18, hQ18, l18, y18, z18⟩, st18⟩ := Jvm.LawKit.callS X17 hx (y := Y0) hown (mvT hZ (ww hw 1 rfl)) (mvT hZ (ww hw 2 rfl)) (mvT hZ (ww hw 3 rfl)) (mvT hZ (ww hw 4 rfl)) (by decide) (backOf (W := 0) (own_c14_kindOf l Z a0 hw u0 u1 u2 u3 u4 u5 u6 u7 G h17 n0 O17 []) hZ (ww hw 4 rfl) (ww hw 3 rfl) (by decide) (by decide)) (g := (mkF m 45 #[vi p1, vi (7 : Int32), vr b1, vu] [xi (7 : Int32)])) rfl (by rw [hml]; rfl) (argsL := [xi (7 : Int32)]) (rest := []) (lenOf pd0 rfl) rfl (by show 2 * 0 + _ ≤ _; exact Nat.le_of_eq rfl) (hb hby at_45) (fun _ _ => ⟨rfl, e17, (by decide : 1 + 0 ≤ _), (by decide : 8 + 0 ≤ _)⟩)
  dsimp only [Pt.U, Pt.locs, Pt.cells, Pt.slots] at X18 l18 y18 z18 st18 hQ18
  subst l18 y18 z18
  obtain ⟨rfl, Nq18, e18⟩ := hQ18
  have N18 := Fr.app N17 Nq18
  obtain ⟨cq19, kq19, qa19, qb19, qc19⟩ := isOf hZ e18 ((own_X_u5 G).ext O17.2)
  obtain ⟨_, _, ⟨T19, L19, k19, n19⟩, -, X19, ⟨Lc19, hQ19, l19, y19, z19⟩, st19⟩ := X18.virtualBack hx (y := Y1) (z := Y1) hown (mvT hZ (ww hw 8 rfl)) (mvT hZ (ww hw 9 rfl)) (notFace_of_selects (args := #[]) (mvT hZ (ww hw 11 rfl))) (mvT hZ (ww hw 11 rfl)) (mvT hZ (ww hw 10 rfl)) (by decide) (backOf (W := 0) (own_c15_hasValue l Z a0 hw u0 u1 u2 u3 u4 u5 u6 u7 G h17 n0 O17 []) hZ (ww hw 12 rfl) (ww hw 6 rfl) (by decide) (by decide)) qa19 qc19 (g := (mkF m 50 #[vi p1, vi (7 : Int32), vr b1, vr u5] [xr u5])) rfl (by rw [hml]; rfl) (Steps.refl _) (argsL := []) (rest := []) (lenOf pd1 rfl) rfl (by show 2 * 0 + _ ≤ _; exact Nat.le_of_eq rfl) (hb hby at_50) (fun _ _ => ⟨rfl, e18, (by decide : 1 + 0 ≤ _), (by decide : 8 + 0 ≤ _)⟩)
  dsimp only [Pt.U, Pt.locs, Pt.cells, Pt.slots] at X19 l19 y19 z19 st19 hQ19
  subst l19 y19 z19
  obtain ⟨rfl, Nq19, e19⟩ := hQ19
  have N19 := Fr.app N18 Nq19
  obtain ⟨cl20, Ar20, q20, S20, N20_, H20, G20⟩ := V_b1_17
  have hin20 : ¬ ((7 : Int32) < 0 ∨ cl20.slots.size ≤ ((7 : Int32)).toNatClampNeg) := inb_of S20 ⟨by decide, by decide⟩
  have hat20 : cl20.slots[((7 : Int32)).toNatClampNeg]? = some (xi (0 : Int32)) := Has.at H20 hin20 rfl
  obtain ⟨fs, hr, hrun, hended, hW, hsame⟩ := X19.leave (v := some (xi (1 : Int32))) (fun h => by rw [Bd.returns] at h; cases h)
  refine ⟨_, _, pre0 _ ?_, hrun, hended, _, _, rfl, ?_, ⟨_, rfl⟩, hW, hsame.mono (by decide) (by decide)⟩
  · show own_S p e below s₁ (mkF m 0 #[vi p1, vu, vu, vu] []) _
    refine XS.iloadN X0.here hx rfl (hb hby at_0) rfl ?_
    show own_S p e below s₁ (mkF m 1 #[vi p1, vu, vu, vu] [xi p1]) _
    refine XS.bipush X0.here hx rfl (hb hby at_1) ?_
    show own_S p e below s₁ (mkF m 3 #[vi p1, vu, vu, vu] [xi (7 : Int32), xi p1]) _
    refine XS.iand X0.here hx rfl (hb hby at_3) rfl ?_
    show own_S p e below s₁ (mkF m 4 #[vi p1, vu, vu, vu] [xi (p1 &&& (7 : Int32))]) _
    refine castTop (show (mkF m 4 #[vi p1, vu, vu, vu] [xi (p1 &&& (7 : Int32))]) = (mkF m 4 #[vi p1, vu, vu, vu] [xi (7 : Int32)]) from by rw [as7]) ?_
    show own_S p e below s₁ (mkF m 4 #[vi p1, vu, vu, vu] [xi (7 : Int32)]) _
    refine XS.istoreN X0.here hx rfl (hb hby at_4) rfl (l' := #[vi p1, vi (7 : Int32), vu, vu]) rfl ?_
    show own_S p e below s₁ (mkF m 5 #[vi p1, vi (7 : Int32), vu, vu] []) _
    refine XS.bipush X0.here hx rfl (hb hby at_5) ?_
    show own_S p e below s₁ (mkF m 7 #[vi p1, vi (7 : Int32), vu, vu] [xi (8 : Int32)]) _
    refine st1 _ ?_
    show own_S p e below T1 (mkF m 9 #[vi p1, vi (7 : Int32), vu, vu] [xr b1]) _
    refine XS.dup X1.here hx rfl (hb hby at_9) rfl rfl ?_
    show own_S p e below T1 (mkF m 10 #[vi p1, vi (7 : Int32), vu, vu] [xr b1, xr b1]) _
    refine XS.iconst X1.here hx rfl (hb hby at_10) ?_
    show own_S p e below T1 (mkF m 11 #[vi p1, vi (7 : Int32), vu, vu] [xi (0 : Int32), xr b1, xr b1]) _
    refine XS.iconst X1.here hx rfl (hb hby at_11) ?_
    show own_S p e below T1 (mkF m 12 #[vi p1, vi (7 : Int32), vu, vu] [xi (0 : Int32), xi (0 : Int32), xr b1, xr b1]) _
    refine st3 _ ?_
    show own_S p e below T3 (mkF m 13 #[vi p1, vi (7 : Int32), vu, vu] [xr b1]) _
    refine XS.dup X3.here hx rfl (hb hby at_13) rfl rfl ?_
    show own_S p e below T3 (mkF m 14 #[vi p1, vi (7 : Int32), vu, vu] [xr b1, xr b1]) _
    refine XS.iconst X3.here hx rfl (hb hby at_14) ?_
    show own_S p e below T3 (mkF m 15 #[vi p1, vi (7 : Int32), vu, vu] [xi (1 : Int32), xr b1, xr b1]) _
    refine XS.iconst X3.here hx rfl (hb hby at_15) ?_
    show own_S p e below T3 (mkF m 16 #[vi p1, vi (7 : Int32), vu, vu] [xi (1 : Int32), xi (1 : Int32), xr b1, xr b1]) _
    refine st5 _ ?_
    show own_S p e below T5 (mkF m 17 #[vi p1, vi (7 : Int32), vu, vu] [xr b1]) _
    refine XS.dup X5.here hx rfl (hb hby at_17) rfl rfl ?_
    show own_S p e below T5 (mkF m 18 #[vi p1, vi (7 : Int32), vu, vu] [xr b1, xr b1]) _
    refine XS.iconst X5.here hx rfl (hb hby at_18) ?_
    show own_S p e below T5 (mkF m 19 #[vi p1, vi (7 : Int32), vu, vu] [xi (2 : Int32), xr b1, xr b1]) _
    refine XS.iconst X5.here hx rfl (hb hby at_19) ?_
    show own_S p e below T5 (mkF m 20 #[vi p1, vi (7 : Int32), vu, vu] [xi (0 : Int32), xi (2 : Int32), xr b1, xr b1]) _
    refine st7 _ ?_
    show own_S p e below T7 (mkF m 21 #[vi p1, vi (7 : Int32), vu, vu] [xr b1]) _
    refine XS.dup X7.here hx rfl (hb hby at_21) rfl rfl ?_
    show own_S p e below T7 (mkF m 22 #[vi p1, vi (7 : Int32), vu, vu] [xr b1, xr b1]) _
    refine XS.iconst X7.here hx rfl (hb hby at_22) ?_
    show own_S p e below T7 (mkF m 23 #[vi p1, vi (7 : Int32), vu, vu] [xi (3 : Int32), xr b1, xr b1]) _
    refine XS.iconst X7.here hx rfl (hb hby at_23) ?_
    show own_S p e below T7 (mkF m 24 #[vi p1, vi (7 : Int32), vu, vu] [xi (0 : Int32), xi (3 : Int32), xr b1, xr b1]) _
    refine st9 _ ?_
    show own_S p e below T9 (mkF m 25 #[vi p1, vi (7 : Int32), vu, vu] [xr b1]) _
    refine XS.dup X9.here hx rfl (hb hby at_25) rfl rfl ?_
    show own_S p e below T9 (mkF m 26 #[vi p1, vi (7 : Int32), vu, vu] [xr b1, xr b1]) _
    refine XS.iconst X9.here hx rfl (hb hby at_26) ?_
    show own_S p e below T9 (mkF m 27 #[vi p1, vi (7 : Int32), vu, vu] [xi (4 : Int32), xr b1, xr b1]) _
    refine XS.iconst X9.here hx rfl (hb hby at_27) ?_
    show own_S p e below T9 (mkF m 28 #[vi p1, vi (7 : Int32), vu, vu] [xi (1 : Int32), xi (4 : Int32), xr b1, xr b1]) _
    refine st11 _ ?_
    show own_S p e below T11 (mkF m 29 #[vi p1, vi (7 : Int32), vu, vu] [xr b1]) _
    refine XS.dup X11.here hx rfl (hb hby at_29) rfl rfl ?_
    show own_S p e below T11 (mkF m 30 #[vi p1, vi (7 : Int32), vu, vu] [xr b1, xr b1]) _
    refine XS.iconst X11.here hx rfl (hb hby at_30) ?_
    show own_S p e below T11 (mkF m 31 #[vi p1, vi (7 : Int32), vu, vu] [xi (5 : Int32), xr b1, xr b1]) _
    refine XS.iconst X11.here hx rfl (hb hby at_31) ?_
    show own_S p e below T11 (mkF m 32 #[vi p1, vi (7 : Int32), vu, vu] [xi (0 : Int32), xi (5 : Int32), xr b1, xr b1]) _
    refine st13 _ ?_
    show own_S p e below T13 (mkF m 33 #[vi p1, vi (7 : Int32), vu, vu] [xr b1]) _
    refine XS.dup X13.here hx rfl (hb hby at_33) rfl rfl ?_
    show own_S p e below T13 (mkF m 34 #[vi p1, vi (7 : Int32), vu, vu] [xr b1, xr b1]) _
    refine XS.bipush X13.here hx rfl (hb hby at_34) ?_
    show own_S p e below T13 (mkF m 36 #[vi p1, vi (7 : Int32), vu, vu] [xi (6 : Int32), xr b1, xr b1]) _
    refine XS.iconst X13.here hx rfl (hb hby at_36) ?_
    show own_S p e below T13 (mkF m 37 #[vi p1, vi (7 : Int32), vu, vu] [xi (0 : Int32), xi (6 : Int32), xr b1, xr b1]) _
    refine st15 _ ?_
    show own_S p e below T15 (mkF m 38 #[vi p1, vi (7 : Int32), vu, vu] [xr b1]) _
    refine XS.dup X15.here hx rfl (hb hby at_38) rfl rfl ?_
    show own_S p e below T15 (mkF m 39 #[vi p1, vi (7 : Int32), vu, vu] [xr b1, xr b1]) _
    refine XS.bipush X15.here hx rfl (hb hby at_39) ?_
    show own_S p e below T15 (mkF m 41 #[vi p1, vi (7 : Int32), vu, vu] [xi (7 : Int32), xr b1, xr b1]) _
    refine XS.iconst X15.here hx rfl (hb hby at_41) ?_
    show own_S p e below T15 (mkF m 42 #[vi p1, vi (7 : Int32), vu, vu] [xi (0 : Int32), xi (7 : Int32), xr b1, xr b1]) _
    refine st17 _ ?_
    show own_S p e below T17 (mkF m 43 #[vi p1, vi (7 : Int32), vu, vu] [xr b1]) _
    refine XS.astoreN X17.here hx rfl (hb hby at_43) rfl rfl (l' := #[vi p1, vi (7 : Int32), vr b1, vu]) rfl ?_
    show own_S p e below T17 (mkF m 44 #[vi p1, vi (7 : Int32), vr b1, vu] []) _
    refine XS.iloadN X17.here hx rfl (hb hby at_44) rfl ?_
    show own_S p e below T17 (mkF m 45 #[vi p1, vi (7 : Int32), vr b1, vu] [xi (7 : Int32)]) _
    refine st18 _ ?_
    show own_S p e below T18 (mkF m 48 #[vi p1, vi (7 : Int32), vr b1, vu] [xr u5]) _
    refine XS.astoreN X18.here hx rfl (hb hby at_48) rfl rfl (l' := #[vi p1, vi (7 : Int32), vr b1, vr u5]) rfl ?_
    show own_S p e below T18 (mkF m 49 #[vi p1, vi (7 : Int32), vr b1, vr u5] []) _
    refine XS.aloadN X18.here hx rfl (hb hby at_49) rfl rfl ?_
    show own_S p e below T18 (mkF m 50 #[vi p1, vi (7 : Int32), vr b1, vr u5] [xr u5]) _
    refine st19.trans ?_
    show own_S p e below T19 (mkF m 53 #[vi p1, vi (7 : Int32), vr b1, vr u5] [xi (0 : Int32)]) _
    refine XS.aloadN X19.here hx rfl (hb hby at_53) rfl rfl ?_
    show own_S p e below T19 (mkF m 54 #[vi p1, vi (7 : Int32), vr b1, vr u5] [xr b1, xi (0 : Int32)]) _
    refine XS.iloadN X19.here hx rfl (hb hby at_54) rfl ?_
    show own_S p e below T19 (mkF m 55 #[vi p1, vi (7 : Int32), vr b1, vr u5] [xi (7 : Int32), xr b1, xi (0 : Int32)]) _
    refine X19.baloadBooleans hx (j := (7 : Int32)) (v := (xi (0 : Int32))) (by rw [e19]; exact Ar20.1) (State.isArrayOf_alike hZ.alike Ar20.2.1) Ar20.2.2 hin20 hat20 (g := (mkF m 55 #[vi p1, vi (7 : Int32), vr b1, vr u5] [xi (7 : Int32), xr b1, xi (0 : Int32)])) rfl rfl (hb hby at_55) _ ?_
    show own_S p e below T19 (mkF m 56 #[vi p1, vi (7 : Int32), vr b1, vr u5] [xi (0 : Int32), xi (0 : Int32)]) _
    refine XS.icmpNo X19.here hx rfl (hb hby at_56) rfl (by decide) ?_
    show own_S p e below T19 (mkF m 59 #[vi p1, vi (7 : Int32), vr b1, vr u5] []) _
    refine XS.iconst X19.here hx rfl (hb hby at_59) ?_
    show own_S p e below T19 (mkF m 60 #[vi p1, vi (7 : Int32), vr b1, vr u5] [xi (1 : Int32)]) _
    refine XS.goto X19.here hx rfl (pc0 := 60) (pc' := 64) rfl (hb hby at_60) (by decide) (by decide) ?_
    show own_S p e below T19 (mkF m 64 #[vi p1, vi (7 : Int32), vr b1, vr u5] [xi (1 : Int32)]) _
    exact retN X19 hx (t := .boolean) Bd.returns (by simp) (hb hby at_64) hr
  · exact ⟨rfl, N19⟩
theorem own_law (l : Launch) (Z : State) (a0 : Array Value) (hw : ∀ d ∈ tables_1, d.before a0 Z = true) (u0 u1 u2 u3 u4 u5 u6 u7 : Addr) (G : own_St Z u0 u1 u2 u3 u4 u5 u6 u7) (p1 : Int32) (h0 : Heap) (n0 : Nat) (O0 : Old Z n0 h0) : own_Met l Z x code maxLocals ret room_1 #[(.int p1)] h0 (own_QL (some (.int (1 : Int32))) n0) := by
  rcases own_mask7 p1 with as0 | as1 | as2 | as3 | as4 | as5 | as6 | as7
  · exact own_l0 l Z a0 hw u0 u1 u2 u3 u4 u5 u6 u7 G p1 as0 h0 n0 O0
  · exact own_l1 l Z a0 hw u0 u1 u2 u3 u4 u5 u6 u7 G p1 as1 h0 n0 O0
  · exact own_l2 l Z a0 hw u0 u1 u2 u3 u4 u5 u6 u7 G p1 as2 h0 n0 O0
  · exact own_l3 l Z a0 hw u0 u1 u2 u3 u4 u5 u6 u7 G p1 as3 h0 n0 O0
  · exact own_l4 l Z a0 hw u0 u1 u2 u3 u4 u5 u6 u7 G p1 as4 h0 n0 O0
  · exact own_l5 l Z a0 hw u0 u1 u2 u3 u4 u5 u6 u7 G p1 as5 h0 n0 O0
  · exact own_l6 l Z a0 hw u0 u1 u2 u3 u4 u5 u6 u7 G p1 as6 h0 n0 O0
  · exact own_l7 l Z a0 hw u0 u1 u2 u3 u4 u5 u6 u7 G p1 as7 h0 n0 O0
set_option maxRecDepth 65536 in
set_option maxHeartbeats 40000000 in
theorem comes_1 {Post : Tables → Env → Array Value → State → Outcome → State → Prop} (hpost : ∀ tb e args s v u, (limb_1_1.after args s (.returned v) u = true ∧ limb_1_2.after args s (.returned v) u = true ∧ True) → FrameEnd s (.returned v) u (Jvm.fieldLocs frame_1_writes args s ++ Jvm.arrayLocs frame_1_arrays args s ++ Jvm.staticLocs frame_1_statics s) 16 128 → Post tb e args s (.returned v) u) :
    ArmFor flags0 classFile x code maxLocals ret World_1 tables_1 room_1 Calls_1 rest_1 Pre_1 Post := by
  intro l hfl _ _ p e ha hc hk s m args below hf hA hF happ hP
  obtain ⟨hcalls, hrest, hpre⟩ := hP
  obtain ⟨-, -, -, hnamed, -, -, -, hat⟩ := (Spec.applies_iff hf).mp happ
  obtain ⟨hg, hn⟩ := and_e (Cond.before_iff.mp (show (Jvm.Cond.and given_1 narrow_1).before args s = true from hpre))
  obtain ⟨hcount, hg0⟩ := and_e hg
  have ga0 := hg0
  obtain ⟨w0, rfl⟩ : ∃ w0 : Value, args = #[w0] := by
    have hs : args.size = 1 := by simpa [Cond.value, given_1] using hcount
    obtain ⟨L⟩ := args
    match L, hs with
    | [w0], _ => exact ⟨w0, rfl⟩
  have hw := fun d (hd : d ∈ tables_1) => atoms_spec (ws := Jvm.Cond.code x code maxLocals ret :: tables_1) hat d (List.mem_cons_of_mem _ hd)
  have hfit : Fit s := fun {y c} hc i hi => by
    obtain ⟨ha, rfl⟩ := Array.getElem?_eq_some_iff.mp hc
    have q := List.all_eq_true.mp ((Array.all_eq_true_iff_forall_mem.mp hF) _ (Array.getElem_mem ha)) i (List.mem_range.mpr hi)
    simpa [Array.getElem?_eq_getElem hi] using q
  obtain ⟨p1, ei0⟩ := is_v ga0
  obtain rfl : w0 = (.int p1) := Option.some.inj ei0
  have hc0 := hn
  obtain ⟨ca0, hc1⟩ := and_e hc0
  obtain ⟨ca1, hc2⟩ := and_e hc1
  obtain ⟨ca2, hc3⟩ := and_e hc2
  obtain ⟨ca3, hc4⟩ := and_e hc3
  obtain ⟨ca4, hc5⟩ := and_e hc4
  obtain ⟨ca5, hc6⟩ := and_e hc5
  obtain ⟨ca6, hc7⟩ := and_e hc6
  obtain ⟨ca7, hc8⟩ := and_e hc7
  obtain ⟨ca8, hc9⟩ := and_e hc8
  obtain ⟨ca9, hc10⟩ := and_e hc9
  obtain ⟨ca10, hc11⟩ := and_e hc10
  obtain ⟨ca11, hc12⟩ := and_e hc11
  obtain ⟨ca12, hc13⟩ := and_e hc12
  obtain ⟨ca13, hc14⟩ := and_e hc13
  obtain ⟨ca14, hc15⟩ := and_e hc14
  have ca15 := hc15
  obtain ⟨u0, ev_u0⟩ := exa_v ca0
  have pX_u0 := Exa.start ev_u0 ca0
  have pS_u0 : Sta s s.heap "com/example/mibwright/mibwright/mib/Kind" "NODE" "Lcom/example/mibwright/mibwright/mib/Kind;" (.ref u0) := Sta.start ev_u0 (Or.inr ⟨(ww hw 6 rfl), (ww hw 7 rfl)⟩)
  obtain ⟨u1, ev_u1⟩ := exa_v ca1
  have pX_u1 := Exa.start ev_u1 ca1
  have pS_u1 : Sta s s.heap "com/example/mibwright/mibwright/mib/Kind" "SCALAR" "Lcom/example/mibwright/mibwright/mib/Kind;" (.ref u1) := Sta.start ev_u1 (Or.inr ⟨(ww hw 6 rfl), (ww hw 14 rfl)⟩)
  obtain ⟨u2, ev_u2⟩ := exa_v ca4
  have pX_u2 := Exa.start ev_u2 ca4
  have pS_u2 : Sta s s.heap "com/example/mibwright/mibwright/mib/Kind" "COLUMN" "Lcom/example/mibwright/mibwright/mib/Kind;" (.ref u2) := Sta.start ev_u2 (Or.inr ⟨(ww hw 6 rfl), (ww hw 16 rfl)⟩)
  obtain ⟨u3, ev_u3⟩ := exa_v ca6
  have pX_u3 := Exa.start ev_u3 ca6
  have pS_u3 : Sta s s.heap "com/example/mibwright/mibwright/mib/Kind" "ROW" "Lcom/example/mibwright/mibwright/mib/Kind;" (.ref u3) := Sta.start ev_u3 (Or.inr ⟨(ww hw 6 rfl), (ww hw 18 rfl)⟩)
  obtain ⟨u4, ev_u4⟩ := exa_v ca8
  have pX_u4 := Exa.start ev_u4 ca8
  have pS_u4 : Sta s s.heap "com/example/mibwright/mibwright/mib/Kind" "GROUP" "Lcom/example/mibwright/mibwright/mib/Kind;" (.ref u4) := Sta.start ev_u4 (Or.inr ⟨(ww hw 6 rfl), (ww hw 20 rfl)⟩)
  obtain ⟨u5, ev_u5⟩ := exa_v ca10
  have pX_u5 := Exa.start ev_u5 ca10
  have pS_u5 : Sta s s.heap "com/example/mibwright/mibwright/mib/Kind" "COMPLIANCE" "Lcom/example/mibwright/mibwright/mib/Kind;" (.ref u5) := Sta.start ev_u5 (Or.inr ⟨(ww hw 6 rfl), (ww hw 22 rfl)⟩)
  obtain ⟨u6, ev_u6⟩ := exa_v ca12
  have pX_u6 := Exa.start ev_u6 ca12
  have pS_u6 : Sta s s.heap "com/example/mibwright/mibwright/mib/Kind" "TABLE" "Lcom/example/mibwright/mibwright/mib/Kind;" (.ref u6) := Sta.start ev_u6 (Or.inr ⟨(ww hw 6 rfl), (ww hw 24 rfl)⟩)
  obtain ⟨u7, ev_u7⟩ := exa_v ca14
  have pX_u7 := Exa.start ev_u7 ca14
  have pS_u7 : Sta s s.heap "com/example/mibwright/mibwright/mib/Kind" "NOTIFICATION" "Lcom/example/mibwright/mibwright/mib/Kind;" (.ref u7) := Sta.start ev_u7 (Or.inr ⟨(ww hw 6 rfl), (ww hw 28 rfl)⟩)
  have pF_u0_ordinal := own_fld ev_u0 ca2
  have pF_u1_ordinal := own_fld ev_u1 ca3
  have pF_u2_ordinal := own_fld ev_u2 ca5
  have pF_u3_ordinal := own_fld ev_u3 ca7
  have pF_u4_ordinal := own_fld ev_u4 ca9
  have pF_u5_ordinal := own_fld ev_u5 ca11
  have pF_u6_ordinal := own_fld ev_u6 ca13
  have pF_u7_ordinal := own_fld ev_u7 ca15
  have G : own_St s u0 u1 u2 u3 u4 u5 u6 u7 := ⟨pS_u0, pX_u0, pS_u1, pX_u1, pS_u2, pX_u2, pS_u3, pX_u3, pS_u4, pX_u4, pS_u5, pX_u5, pS_u6, pX_u6, pS_u7, pX_u7, pF_u0_ordinal, pF_u1_ordinal, pF_u2_ordinal, pF_u3_ordinal, pF_u4_ordinal, pF_u5_ordinal, pF_u6_ordinal, pF_u7_ordinal⟩
  obtain ⟨n, o, h1, h2, h3, _, L, rfl, ⟨rfl, N⟩, hq⟩ := own_law l s _ hw u0 u1 u2 u3 u4 u5 u6 u7 G p1 s.heap s.heap.size (Old.start s) tables_1 p e ha hc hk s m _ below hf ((Spec.applies_iff_loose hf).mp happ).1 ⟨rfl, State.Warmed39.refl s, rfl⟩ trivial
  refine ⟨n, _, h1, h2, h3, hpost _ _ _ _ _ _ ⟨Cond.after_iff.mpr rfl, Cond.after_iff.mpr (eq_i res_at (Term.int_eval (1)) rfl), trivial⟩ ⟨hq.1, hq.2.1, (hq.2.2.sift fun y hy => Or.inr (N y hy)).mono (by decide) (by decide)⟩⟩
theorem main_1_1 : Claimed_1_1 := comes_1 fun _ _ _ _ _ _ h hF => ⟨h.1, hF⟩
theorem main_1_2 : Claimed_1_2 := comes_1 fun _ _ _ _ _ _ h hF => ⟨h.2.1, hF⟩
end Jvm.Pilot.@@N@@
namespace Jvm.Pilot.@@N@@
open Jvm Jvm.ClassFile Sem Op Lib Jvm.Free Jvm.Stand Jvm.Pilot.@@N@@.Jvm.D
/-! MADE BY PROGRAM (witnessworld.py) out of the Statement's table words and the real class files: 14 classes; the members and pool entries that the words name. The judged class is class 1, her method 2. -/
namespace start1
open Jvm.ClassFile
def u (s : String) : CpInfo := .utf8 (stringToUtf16 s)
/-- a pool by its gaps: so many unusable entries, then the entry; so many at the end -/
def gap : Nat → List CpInfo → List CpInfo
  | 0, r => r
  | n + 1, r => .unusable :: gap n r
def poolList (es : List (Nat × CpInfo)) (last : Nat) : List CpInfo := es.foldr (fun e r => gap e.1 (e.2 :: r)) (gap last [])
def pool (es : List (Nat × CpInfo)) (last : Nat) : Array CpInfo := ⟨poolList es last⟩
def fileOf (pool : Array CpInfo) (this : Nat) (attrs : Array Attribute := #[]) (ms : Array MethodInfo := #[]) (fl : Nat := 33) (sup : Nat := 0) (ifs : Array Nat := #[]) (fds : Array FieldInfo := #[]) : ClassFile where
  minorVersion := 0
  majorVersion := 65
  constantPool := pool
  accessFlags := fl
  thisClass := this
  superClass := sup
  interfaces := ifs
  fields := fds
  methods := ms
  attributes := attrs
def plain (name : String) (sup : Option ClassId) : Class where
  name := name
  kind := .ordinary
  loader := none
  accessFlags := 33
  super := sup
  interfaces := #[]
  cf := none
  fields := #[]
  methods := #[]
  instanceTypes := #[]
  staticTypes := #[]
  resolved := #[]
  callSites := []
  init := .initialized
  statics := none
  mirror := none

def pool0 : Array CpInfo := pool [(5, u "<init>"), (0, u "()V"), (1, .class_ 10), (1, u "java/lang/Object")] 113

def k0m0 : Method := { name := "<init>", desc := "()V", sig := { parameters := [], returnType := none }, accessFlags := 1, code := none }
/-- java/lang/Object -/
def k0 : Class := { plain "java/lang/Object" none with
  accessFlags := 33
  interfaces := #[]
  cf := some (fileOf pool0 8 #[] #[{ accessFlags := 1, nameIndex := 5, descriptorIndex := 6, attributes := #[] }] 33 0 #[] #[])
  fields := #[]
  methods := #[k0m0]
  instanceTypes := #[]
  staticTypes := #[]
  resolved := Array.replicate 124 none
  statics := none }

def pool1 : Array CpInfo := pool [(2, .class_ 4), (1, u "java/lang/Object"), (0, u "<init>"), (0, u "()V"), (0, .fieldref 8 9), (0, .class_ 10), (0, .nameAndType 11 12), (0, u "com/example/mibwright/mibwright/mib/Kind"), (0, u "NODE"), (0, u "Lcom/example/mibwright/mibwright/mib/Kind;"), (0, .fieldref 8 14), (0, .nameAndType 15 12), (0, u "SCALAR"), (0, .fieldref 8 17), (0, .nameAndType 18 12), (0, u "TABLE"), (0, .fieldref 8 20), (0, .nameAndType 21 12), (0, u "ROW"), (0, .fieldref 8 23), (0, .nameAndType 24 12), (0, u "COLUMN"), (0, .fieldref 8 26), (0, .nameAndType 27 12), (0, u "NOTIFICATION"), (0, .fieldref 8 29), (0, .nameAndType 30 12), (0, u "GROUP"), (0, .fieldref 8 32), (0, .nameAndType 33 12), (0, u "COMPLIANCE"), (0, .methodref 35 36), (0, .class_ 37), (0, .nameAndType 38 39), (0, u "com/example/mibwright/mibwright/mib/KindHasValuePinLaw"), (0, u "kindOf"), (0, u "(I)Lcom/example/mibwright/mibwright/mib/Kind;"), (0, .methodref 8 41), (0, .nameAndType 42 43), (0, u "hasValue"), (0, u "()Z"), (3, u "law"), (0, u "(I)Z")] 4

def k1m0 : Method := { name := "<init>", desc := "()V", sig := { parameters := [], returnType := none }, accessFlags := 2, code := none }
def k1c1 : Code := { maxStack := 2, maxLocals := 1, code := method_2_code, exceptionTable := #[], attributes := #[] }
def k1m1 : Method := { name := "kindOf", desc := "(I)Lcom/example/mibwright/mibwright/mib/Kind;", sig := { parameters := [.int], returnType := some (.object "com/example/mibwright/mibwright/mib/Kind") }, accessFlags := 10, code := some k1c1 }
def k1c2 : Code := { maxStack := 4, maxLocals := 4, code := code, exceptionTable := #[], attributes := #[] }
def k1m2 : Method := { name := "law", desc := "(I)Z", sig := { parameters := [.int], returnType := some .boolean }, accessFlags := 9, code := some k1c2 }
/-- com/example/mibwright/mibwright/mib/KindHasValuePinLaw -/
def k1 : Class := { plain "com/example/mibwright/mibwright/mib/KindHasValuePinLaw" (some 0) with
  accessFlags := 49
  interfaces := #[]
  cf := some (fileOf pool1 35 #[] #[{ accessFlags := 2, nameIndex := 5, descriptorIndex := 6, attributes := #[] }, { accessFlags := 10, nameIndex := 38, descriptorIndex := 39, attributes := #[] }, { accessFlags := 9, nameIndex := 47, descriptorIndex := 48, attributes := #[] }] 49 2 #[] #[])
  fields := #[]
  methods := #[k1m0, k1m1, k1m2]
  instanceTypes := #[]
  staticTypes := #[]
  resolved := Array.replicate 53 none
  statics := none }

def pool2 : Array CpInfo := pool [(1, .class_ 2), (0, u "java/lang/constant/Constable"), (0, .class_ 4), (0, u "java/lang/Object")] 6

/-- java/lang/constant/Constable -/
def k2 : Class := { plain "java/lang/constant/Constable" (some 0) with
  accessFlags := 1537
  interfaces := #[]
  cf := some (fileOf pool2 1 #[] #[] 1537 3 #[] #[])
  fields := #[]
  methods := #[]
  instanceTypes := #[]
  staticTypes := #[]
  resolved := Array.replicate 11 none
  statics := none }

def pool3 : Array CpInfo := pool [(1, .class_ 2), (0, u "java/lang/Comparable"), (0, .class_ 4), (0, u "java/lang/Object")] 7

/-- java/lang/Comparable -/
def k3 : Class := { plain "java/lang/Comparable" (some 0) with
  accessFlags := 1537
  interfaces := #[]
  cf := some (fileOf pool3 1 #[] #[] 1537 3 #[] #[])
  fields := #[]
  methods := #[]
  instanceTypes := #[]
  staticTypes := #[]
  resolved := Array.replicate 12 none
  statics := none }

def pool4 : Array CpInfo := pool [(1, .class_ 2), (0, u "java/io/Serializable"), (0, .class_ 4), (0, u "java/lang/Object")] 2

/-- java/io/Serializable -/
def k4 : Class := { plain "java/io/Serializable" (some 0) with
  accessFlags := 1537
  interfaces := #[]
  cf := some (fileOf pool4 1 #[] #[] 1537 3 #[] #[])
  fields := #[]
  methods := #[]
  instanceTypes := #[]
  staticTypes := #[]
  resolved := Array.replicate 7 none
  statics := none }

def pool5 : Array CpInfo := pool [(2, .class_ 4), (1, u "java/lang/Enum"), (0, u "name"), (0, u "Ljava/lang/String;"), (2, u "ordinal"), (0, u "I"), (1, .class_ 14), (1, u "java/lang/Object"), (4, u "hash"), (86, .class_ 108), (1, u "java/lang/Enum$EnumDesc"), (2, .class_ 112), (0, u "java/lang/constant/Constable"), (0, .class_ 114), (0, u "java/lang/Comparable"), (0, .class_ 116), (0, u "java/io/Serializable")] 87

/-- java/lang/Enum -/
def k5 : Class := { plain "java/lang/Enum" (some 0) with
  accessFlags := 1057
  interfaces := #[2, 3, 4]
  cf := some (fileOf pool5 2 #[.nestMembers #[106]] #[] 1057 12 #[111, 113, 115] #[{ accessFlags := 18, nameIndex := 5, descriptorIndex := 6, attributes := #[] }, { accessFlags := 18, nameIndex := 9, descriptorIndex := 10, attributes := #[] }, { accessFlags := 2, nameIndex := 19, descriptorIndex := 10, attributes := #[] }])
  fields := #[{ name := "name", type := (.object "java/lang/String"), accessFlags := 18, slot := 0, constantValue := 0 }, { name := "ordinal", type := .int, accessFlags := 18, slot := 1, constantValue := 0 }, { name := "hash", type := .int, accessFlags := 2, slot := 2, constantValue := 0 }]
  methods := #[]
  instanceTypes := #[(.object "java/lang/String"), .int, .int]
  staticTypes := #[]
  resolved := Array.replicate 204 none
  statics := none }

def pool6 : Array CpInfo := pool [(1, .class_ 2), (0, u "com/example/mibwright/mibwright/mib/Kind"), (2, u "NODE"), (0, u "Lcom/example/mibwright/mibwright/mib/Kind;"), (0, .fieldref 1 8), (0, .nameAndType 9 6), (0, u "SCALAR"), (2, u "TABLE"), (2, u "ROW"), (0, .fieldref 1 17), (0, .nameAndType 18 6), (0, u "COLUMN"), (2, u "NOTIFICATION"), (2, u "GROUP"), (2, u "COMPLIANCE"), (2, u "$VALUES"), (0, u "[Lcom/example/mibwright/mibwright/mib/Kind;"), (6, .class_ 40), (1, u "java/lang/Enum"), (8, u "word"), (0, u "Ljava/lang/String;"), (39, u "hasValue"), (0, u "()Z")] 6

def k6c0 : Code := { maxStack := 2, maxLocals := 1, code := prog_29_method_5_code, exceptionTable := #[], attributes := #[] }
def k6m0 : Method := { name := "hasValue", desc := "()Z", sig := { parameters := [], returnType := some .boolean }, accessFlags := 1, code := some k6c0 }
/-- com/example/mibwright/mibwright/mib/Kind -/
def k6 : Class := { plain "com/example/mibwright/mibwright/mib/Kind" (some 5) with
  accessFlags := 16433
  interfaces := #[]
  cf := some (fileOf pool6 1 #[] #[{ accessFlags := 1, nameIndex := 90, descriptorIndex := 91, attributes := #[] }] 16433 38 #[] #[{ accessFlags := 16409, nameIndex := 5, descriptorIndex := 6, attributes := #[] }, { accessFlags := 16409, nameIndex := 9, descriptorIndex := 6, attributes := #[] }, { accessFlags := 16409, nameIndex := 12, descriptorIndex := 6, attributes := #[] }, { accessFlags := 16409, nameIndex := 15, descriptorIndex := 6, attributes := #[] }, { accessFlags := 16409, nameIndex := 18, descriptorIndex := 6, attributes := #[] }, { accessFlags := 16409, nameIndex := 21, descriptorIndex := 6, attributes := #[] }, { accessFlags := 16409, nameIndex := 24, descriptorIndex := 6, attributes := #[] }, { accessFlags := 16409, nameIndex := 27, descriptorIndex := 6, attributes := #[] }, { accessFlags := 18, nameIndex := 49, descriptorIndex := 50, attributes := #[] }, { accessFlags := 4122, nameIndex := 30, descriptorIndex := 31, attributes := #[] }])
  fields := #[{ name := "NODE", type := (.object "com/example/mibwright/mibwright/mib/Kind"), accessFlags := 16409, slot := 0, constantValue := 0 }, { name := "SCALAR", type := (.object "com/example/mibwright/mibwright/mib/Kind"), accessFlags := 16409, slot := 1, constantValue := 0 }, { name := "TABLE", type := (.object "com/example/mibwright/mibwright/mib/Kind"), accessFlags := 16409, slot := 2, constantValue := 0 }, { name := "ROW", type := (.object "com/example/mibwright/mibwright/mib/Kind"), accessFlags := 16409, slot := 3, constantValue := 0 }, { name := "COLUMN", type := (.object "com/example/mibwright/mibwright/mib/Kind"), accessFlags := 16409, slot := 4, constantValue := 0 }, { name := "NOTIFICATION", type := (.object "com/example/mibwright/mibwright/mib/Kind"), accessFlags := 16409, slot := 5, constantValue := 0 }, { name := "GROUP", type := (.object "com/example/mibwright/mibwright/mib/Kind"), accessFlags := 16409, slot := 6, constantValue := 0 }, { name := "COMPLIANCE", type := (.object "com/example/mibwright/mibwright/mib/Kind"), accessFlags := 16409, slot := 7, constantValue := 0 }, { name := "word", type := (.object "java/lang/String"), accessFlags := 18, slot := 3, constantValue := 0 }, { name := "$VALUES", type := (.array (.object "com/example/mibwright/mibwright/mib/Kind")), accessFlags := 4122, slot := 8, constantValue := 0 }]
  methods := #[k6m0]
  instanceTypes := #[(.object "java/lang/String"), .int, .int, (.object "java/lang/String")]
  staticTypes := #[(.object "com/example/mibwright/mibwright/mib/Kind"), (.object "com/example/mibwright/mibwright/mib/Kind"), (.object "com/example/mibwright/mibwright/mib/Kind"), (.object "com/example/mibwright/mibwright/mib/Kind"), (.object "com/example/mibwright/mibwright/mib/Kind"), (.object "com/example/mibwright/mibwright/mib/Kind"), (.object "com/example/mibwright/mibwright/mib/Kind"), (.object "com/example/mibwright/mibwright/mib/Kind"), (.array (.object "com/example/mibwright/mibwright/mib/Kind"))]
  resolved := Array.replicate 98 none
  statics := some 0 }

def pool7 : Array CpInfo := pool [(1, u "java/lang/Cloneable"), (0, .class_ 1), (0, u "java/lang/Object"), (0, .class_ 3)] 3

/-- java/lang/Cloneable -/
def k7 : Class := { plain "java/lang/Cloneable" (some 0) with
  accessFlags := 1537
  interfaces := #[]
  cf := some (fileOf pool7 2 #[] #[] 1537 4 #[] #[])
  fields := #[]
  methods := #[]
  instanceTypes := #[]
  staticTypes := #[]
  resolved := Array.replicate 8 none
  statics := none }

/-- the primitive boolean -/
def k8 : Class := { plain "boolean" none with kind := .primitive 'Z', accessFlags := 0x411 }
/-- [Z -/
def k9 : Class := { plain "[Z" (some 0) with kind := .array 8 .boolean, interfaces := #[7, 4], accessFlags := 1041 }

/-- the primitive byte -/
def k10 : Class := { plain "byte" none with kind := .primitive 'B', accessFlags := 0x411 }
/-- [B -/
def k11 : Class := { plain "[B" (some 0) with kind := .array 10 .byte, interfaces := #[7, 4], accessFlags := 1041 }

/-- the primitive int -/
def k12 : Class := { plain "int" none with kind := .primitive 'I', accessFlags := 0x411 }
/-- [I -/
def k13 : Class := { plain "[I" (some 0) with kind := .array 12 .int, interfaces := #[7, 4], accessFlags := 1041 }

def heap : Heap := #[{ cls := 6, slots := #[.ref 1, .ref 2, .ref 7, .ref 4, .ref 3, .ref 8, .ref 5, .ref 6, .null], vm := .statics 6 },
  { cls := 6, slots := #[.null, .int 0, .int 0, .null], vm := .none },
  { cls := 6, slots := #[.null, .int 1, .int 0, .null], vm := .none },
  { cls := 6, slots := #[.null, .int 4, .int 0, .null], vm := .none },
  { cls := 6, slots := #[.null, .int 3, .int 0, .null], vm := .none },
  { cls := 6, slots := #[.null, .int 6, .int 0, .null], vm := .none },
  { cls := 6, slots := #[.null, .int 7, .int 0, .null], vm := .none },
  { cls := 6, slots := #[.null, .int 2, .int 0, .null], vm := .none },
  { cls := 6, slots := #[.null, .int 5, .int 0, .null], vm := .none }]
def classes : Array Class := #[k0, k1, k2, k3, k4, k5, k6, k7, k8, k9, k10, k11, k12, k13]
def interned : List (Array UInt16 × Addr) := []
def slotsUsed : Nat := 41
def theMethod : MethodId := ⟨1, 2⟩
def args0 : Array Value := #[.int 5]
def aboutOver (below : List Frame) : State where
  vm := { classes := classes, interned := interned.toArray }
  heap := heap
  slotsUsed := slotsUsed
  threads := #[{ frames := .invoking theMethod args0 :: below }]
def below0 : List Frame := [.native { method := ⟨0, 0⟩, args := #[] }]
def about1 : State := aboutOver below0
def p0 : Program := .bare "" "" ""
def e0 : Env := launch0.env 0 0 0
theorem w_frames : about1.frames = Frame.invoking theMethod args0 :: below0 := rfl
set_option maxRecDepth 65536 in
theorem w_args : argsFit about1.vm theMethod args0 = true := by decide +kernel
set_option maxRecDepth 65536 in
theorem w_heap : heapFits about1 = true := by decide +kernel
set_option maxRecDepth 65536 in
theorem w_runnable : about1.curStatus? = some .runnable := by decide +kernel
set_option maxRecDepth 65536 in
theorem w_alone : about1.alone = true := by decide +kernel
set_option maxRecDepth 65536 in
theorem w_named : about1.methodNamed? x = some theMethod := by decide +kernel
set_option maxRecDepth 65536 in
theorem w_hears : about1.hears theMethod below0 = true := by decide +kernel
set_option maxRecDepth 65536 in
theorem w_ripe : about1.ripe theMethod args0 below0 = true := by decide +kernel
theorem w_running : about1.status = .running := rfl
set_option maxRecDepth 65536 in
theorem w_room : about1.hasRoom e0.platform room_1 = true :=
  launch0.hasRoom_least _ room_1 (by decide +kernel) (by decide +kernel) (by decide +kernel) (by decide +kernel) (by decide +kernel) (by decide +kernel)
theorem allAtoms_all (ts : List Jvm.Cond) (a : Array Jvm.Value) (st : Jvm.State) : (allAtoms ts).before a st = ts.all (fun c => c.before a st) := by
  induction ts with
  | nil => rfl
  | cons c t ih =>
    show (Jvm.Cond.and c (allAtoms t)).before a st = _
    rw [Jvm.Cond.before_and, ih, List.all_cons]
def words1 : List Jvm.Cond := Jvm.Cond.code x code maxLocals ret :: tables_1
/-- a 'code' word, met by the world's own term for the bytes: nothing is compared byte by byte -/
theorem code_word {y : MethodName} {bytes : ByteArray} {mx : Nat} {rt : Option FieldType} {a : Array Value} {s : State} {m : MethodId} {meth : Method} {c : Code} (h1 : s.methodNamed? y = some m) (h2 : s.vm.method? m = some meth) (h3 : meth.code = some c) (h4 : c.code = bytes)
    (h5 : (c.maxLocals == mx && c.exceptionTable.isEmpty && decide (c.maxStack ≤ mostOperands) && decide (meth.sig.returnType = rt) && !meth.locks && decide (parseMethodDescriptor y.desc = some meth.sig)) = true) : (Jvm.Cond.code y bytes mx rt).before a s = true := by
  simp only [Bool.and_eq_true, beq_iff_eq, Bool.not_eq_true', decide_eq_true_eq] at h5
  obtain ⟨⟨⟨⟨⟨g1, g2⟩, g3⟩, g4⟩, g5⟩, g6⟩ := h5
  simp [Cond.before, Cond.holds, Cond.value, h1, h2, h3, h4, g1, g2, g3, g4, g5, g6]
def isCode : Jvm.Cond → Bool
  | .code _ _ _ _ => true
  | _ => false
theorem all_split {L : List Jvm.Cond} {P : Jvm.Cond → Bool} (h1 : L.all (fun c => isCode c || P c) = true) (h2 : ∀ c ∈ L.filter isCode, P c = true) : L.all P = true := by
  refine List.all_eq_true.mpr fun c hc => ?_
  have h := List.all_eq_true.mp h1 c hc
  rcases Bool.eq_false_or_eq_true (isCode c) with hi | hi
  · exact h2 c (List.mem_filter.mpr ⟨hc, hi⟩)
  · simpa [hi] using h
set_option maxRecDepth 65536 in
theorem w_c0 : (Jvm.Cond.code x code maxLocals ret).before args0 about1 = true := code_word (m := ⟨1, 2⟩) (meth := k1m2) (c := k1c2) (by decide +kernel) rfl rfl rfl (by decide +kernel)
set_option maxRecDepth 65536 in
theorem w_c1 : (Jvm.Cond.code ({ cls := "com/example/mibwright/mibwright/mib/KindHasValuePinLaw", name := "kindOf", desc := "(I)Lcom/example/mibwright/mibwright/mib/Kind;" } : Jvm.MethodName) method_2_code (1 : Nat) (Option.some (Jvm.ClassFile.FieldType.object "com/example/mibwright/mibwright/mib/Kind"))).before args0 about1 = true := code_word (m := ⟨1, 1⟩) (meth := k1m1) (c := k1c1) (by decide +kernel) rfl rfl rfl (by decide +kernel)
set_option maxRecDepth 65536 in
theorem w_c2 : (Jvm.Cond.code ({ cls := "com/example/mibwright/mibwright/mib/Kind", name := "hasValue", desc := "()Z" } : Jvm.MethodName) prog_29_method_5_code (1 : Nat) (Option.some Jvm.ClassFile.FieldType.boolean)).before args0 about1 = true := code_word (m := ⟨6, 0⟩) (meth := k6m0) (c := k6c0) (by decide +kernel) rfl rfl rfl (by decide +kernel)
def codes1 : List Jvm.Cond := [Jvm.Cond.code x code maxLocals ret, Jvm.Cond.code ({ cls := "com/example/mibwright/mibwright/mib/KindHasValuePinLaw", name := "kindOf", desc := "(I)Lcom/example/mibwright/mibwright/mib/Kind;" } : Jvm.MethodName) method_2_code (1 : Nat) (Option.some (Jvm.ClassFile.FieldType.object "com/example/mibwright/mibwright/mib/Kind")), Jvm.Cond.code ({ cls := "com/example/mibwright/mibwright/mib/Kind", name := "hasValue", desc := "()Z" } : Jvm.MethodName) prog_29_method_5_code (1 : Nat) (Option.some Jvm.ClassFile.FieldType.boolean)]
set_option maxRecDepth 65536 in
theorem codes_eq : words1.filter isCode = codes1 := rfl
theorem w_codes : ∀ c ∈ words1.filter isCode, c.before args0 about1 = true := by
  rw [codes_eq]
  intro c hc
  simp only [codes1, List.mem_cons, List.not_mem_nil, or_false] at hc
  rcases hc with rfl | rfl | rfl
  · exact w_c0
  · exact w_c1
  · exact w_c2
set_option maxRecDepth 65536 in
theorem w_t1 : (words1.take 24).all (fun c => isCode c || c.before args0 about1) = true := by decide +kernel
set_option maxRecDepth 65536 in
theorem w_t2 : (words1.drop 24).all (fun c => isCode c || c.before args0 about1) = true := by decide +kernel
theorem w_tables : (allAtoms (Jvm.Cond.code x code maxLocals ret :: tables_1)).before args0 about1 = true := by
  rw [allAtoms_all]
  show words1.all (fun c => c.before args0 about1) = true
  refine all_split ?_ w_codes
  rw [← List.take_append_drop 24 words1, List.all_append, w_t1, w_t2]
  rfl
set_option maxRecDepth 65536 in
theorem w_case : (Jvm.Cond.and given_1 narrow_1).before args0 about1 = true := by decide +kernel
theorem w_applies : (headSpec (Jvm.Cond.code x code maxLocals ret :: tables_1) room_1).applies x e0.platform about1 = true :=
  (Spec.applies_iff w_frames).mpr ⟨w_running, w_runnable, w_alone, w_named, w_hears, w_ripe, w_room, w_tables⟩
theorem atStart : AtStart classFile x code maxLocals ret World_1 tables_1 room_1 Calls_1 rest_1 Pre_1 launch0 p0 e0 about1 theMethod args0 below0 :=
  ⟨lists_1, trivial, launch0.admits_env _ _ _, launch0.least_env, fairChoices_fair.cas, fairChoices_fair.clock, w_frames, w_args, w_heap, w_applies, trivial, trivial, w_case⟩
end start1
theorem witness_1 : WitnessClaimed_1 := ⟨start1.p0, start1.e0, start1.about1, start1.theMethod, start1.args0, start1.below0, start1.atStart⟩
end Jvm.Pilot.@@N@@
