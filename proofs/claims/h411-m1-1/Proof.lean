import JvmDerived
import JvmDerived.Pilot.@@N@@Statement
import JvmDerived.Pilot.@@N@@Code
set_option linter.unusedVariables false
set_option linter.unusedSimpArgs false
namespace Jvm.RoadKit
open Sem ClassFile Op Lib Jvm.Stand Jvm.Free Jvm.LawKit
section New
variable {p : Program} {l : Launch} {e : Env} {R : Room} {s : State} {m : MethodId} {args : Array Value} {below : List Frame} {meth : Method} {c : Code} {T : State} {locs : List Loc} {cells slots : Nat}
theorem retI (X : Stand p l e R s m args below meth c T locs cells slots) (hx : p.tables.exec = Jvm.exec) {pc : Nat} {Ls : Array Slot} {z : Int32} {rest : List Value} (hret : meth.sig.returnType = some .int) (hd : decode c.code pc = .ok (.ireturn, 1)) {fs : List Frame}
    (hl : ∀ (f : JFrame) (acts : List Action), f.method = m → f.locked = none → f.entered = [] → (doReturn e (T.setTop f) acts (some (.int z))).1 = T.setFrames fs) : Steps p.tables e below (T.setTop (mkF m pc Ls (.int z :: rest))) (T.setFrames fs) := by
  have hm' : T.vm.method? m = some meth := X.method'
  have hn : narrow .int (.int z) = .int z := rfl
  show Steps p.tables e below (T.setTop { method := m, pc := pc, locals := Ls, stack := _ :: rest, locked := none }) _
  jvm_step X.here [X.here.top, hx, hd, hm', hret, hn]
  first | (intro acts; rw [hl _ acts rfl rfl rfl]) | rw [hl _ _ rfl rfl rfl]
  exact Steps.refl _
end New
end Jvm.RoadKit
namespace Jvm.Pilot.@@N@@
open Jvm Jvm.ClassFile Sem Op Lib Jvm.Free Jvm.Stand Jvm.LawKit Jvm.RoadKit Bundle Jvm.Pilot.@@N@@.Jvm.D
theorem ww {a0 : Array Value} {Z : State} (hw : ∀ d ∈ tables_1, d.before a0 Z = true) (i : Nat) {d : Jvm.Cond} (h : tables_1[i]? = some d) : d.before a0 Z = true := hw d (List.mem_of_getElem? h)
abbrev vi (x : Int32) : Slot := .val (.int x)
abbrev vj (x : Int64) : Slot := .val (.long x)
abbrev vr (x : Addr) : Slot := .val (.ref x)
abbrev vn : Slot := .val .null
abbrev vu : Slot := .unset
abbrev xi (x : Int32) : Value := .int x
abbrev xj (x : Int64) : Value := .long x
abbrev xr (x : Addr) : Value := .ref x
abbrev own_S (p : Program) (e : Env) (below : List Frame) (T : State) (g : JFrame) (t : State) : Prop := Steps p.tables e below (T.setTop g) t
/-- a body's contract: at these arguments and this heap it returns as Q says -/
abbrev own_Met (l : Launch) (Z : State) (y : MethodName) (bytes : ByteArray) (maxL : Nat) (rt : Option FieldType) (rm : Room) (as' : Array Value) (h0 : Heap) (Qy : Option Value → Heap → List Loc → Prop) : Prop :=
  ∀ ws : List Jvm.Cond, MetFree l y (head1 (Jvm.Cond.code y bytes maxL rt :: ws) rm) (fun a U => a = as' ∧ Z.Warmed39 U.vm ∧ U.heap = h0) (fun _ _ _ _ _ => True) (fun _ U o U' => ∃ v L, o = .returned v ∧ Qy v U'.heap L ∧ FrameEnd U o U' L rm.cells rm.slots)
/-- it returns r and leaves the heap -/
def own_QR (r : Option Value) (h0 : Heap) (n0 : Nat) (v : Option Value) (h : Heap) (L : List Loc) : Prop := v = r ∧ Fr n0 L ∧ h = h0
/-- it returns r and writes nothing that stood at the start -/
def own_QL (r : Option Value) (n0 : Nat) (v : Option Value) (h : Heap) (L : List Loc) : Prop := v = r ∧ Fr n0 L
theorem own_le {Z : State} {n0 : Nat} {h : Heap} (O : Old Z n0 h) : n0 ≤ h.size := O.1 ▸ O.2.1
theorem own_fresh {Z : State} {n0 : Nat} {h : Heap} {a : Addr} (O : Old Z n0 h) (g : a = h.size) : n0 ≤ a := g ▸ own_le O
theorem own_fld {s : State} {args : Array Value} {t : Term} {C n d : String} {a : Addr} {k : Int32} (ht : t.eval args s none [] s = some (.ref a)) (h : (Jvm.Cond.eq (.field t C n d) (.int k)).value args s none s [] = some true) : Fld s s.heap a C n d (.int k) := by
  refine Fld.start ?_
  simp only [Cond.value, Term.eval, ht] at h
  cases hv : s.fieldOf? a C n d with
  | none => simp [hv] at h
  | some v => cases v <;> simp [hv] at h; subst h; rfl
theorem own_fldN {s : State} {args : Array Value} {t : Term} {C n d : String} {a : Addr} (ht : t.eval args s none [] s = some (.ref a)) (h : (Jvm.Cond.eq (.field t C n d) .null).value args s none s [] = some true) : Fld s s.heap a C n d .null :=
  Fld.start ((fld_at ht).symm.trans (null_v h))
theorem own_fldX {s : State} {args : Array Value} {t : Term} {C n d K : String} {a : Addr} (ht : t.eval args s none [] s = some (.ref a)) (h : (Jvm.Cond.exactly (.field t C n d) K).value args s none s [] = some true) : ∃ b, Fld s s.heap a C n d (.ref b) ∧ Exa s s.heap b K := by
  obtain ⟨b, eb⟩ := exa_v h
  exact ⟨b, Fld.start ((fld_at ht).symm.trans eb), Exa.start eb h⟩
theorem own_len {s : State} {args : Array Value} {t : Term} {a : Addr} {cl : Cell} {ty : FieldType} {k : Int32} {k' : Nat} (ht : t.eval args s none [] s = some (.ref a)) (A : Arr s s.heap a cl ty) (h : (Jvm.Cond.eq (.length t) (.int k)).value args s none s [] = some true) (hk : k.toInt = k') : cl.slots.size = k' := by
  obtain ⟨v, hv⟩ : ∃ v, (Term.length t).eval args s none [] s = some v := by
    cases hq : (Term.length t).eval args s none [] s with
    | none => simp [Cond.value, hq] at h
    | some v => exact ⟨v, rfl⟩
  have ha : s.arrayAt? a = some cl := Arr.fin (Vm.Alike.refl _) A
  by_cases hl : cl.slots.size < 2 ^ 31
  · rw [len_f ht ha hl] at hv
    have h2 := len_f ht ha hl
    have h3 : cl.slots.size.toInt32 = k := gotT (Cond.eq_ints h2 (Term.int_eval k)) h
    have h4 := len_toInt hl
    rw [h3, hk] at h4
    omega
  · simp [Term.eval, ht, ha, hl] at hv
theorem own_ref {x y : Addr} (h : x ≠ y) : decide ((Value.ref x : Value) = .ref y) = false := by simp [h]
theorem own_mask (x : Int32) : 0 ≤ (x &&& (2147483647 : Int32)).toInt := by
  have := c_mask x 2147483647 31 (by decide) (by decide); omega
def own_St (Z : State) (u0 u1 u2 u3 u4 u5 u6 : Addr) : Prop := (Sta Z Z.heap "com/example/stackwright/stackwright/engine/ManaType" "$VALUES" "[Lcom/example/stackwright/stackwright/engine/ManaType;" (.ref u0)) ∧ (Exa Z Z.heap u0 "[Lcom/example/stackwright/stackwright/engine/ManaType;") ∧ (Sta Z Z.heap "com/example/stackwright/stackwright/engine/ManaType" "WHITE" "Lcom/example/stackwright/stackwright/engine/ManaType;" (.ref u1)) ∧ (Exa Z Z.heap u1 "com/example/stackwright/stackwright/engine/ManaType") ∧ (Sta Z Z.heap "com/example/stackwright/stackwright/engine/ManaType" "BLUE" "Lcom/example/stackwright/stackwright/engine/ManaType;" (.ref u2)) ∧ (Exa Z Z.heap u2 "com/example/stackwright/stackwright/engine/ManaType") ∧ (Sta Z Z.heap "com/example/stackwright/stackwright/engine/ManaType" "BLACK" "Lcom/example/stackwright/stackwright/engine/ManaType;" (.ref u3)) ∧ (Exa Z Z.heap u3 "com/example/stackwright/stackwright/engine/ManaType") ∧ (Sta Z Z.heap "com/example/stackwright/stackwright/engine/ManaType" "RED" "Lcom/example/stackwright/stackwright/engine/ManaType;" (.ref u4)) ∧ (Exa Z Z.heap u4 "com/example/stackwright/stackwright/engine/ManaType") ∧ (Sta Z Z.heap "com/example/stackwright/stackwright/engine/ManaType" "GREEN" "Lcom/example/stackwright/stackwright/engine/ManaType;" (.ref u5)) ∧ (Exa Z Z.heap u5 "com/example/stackwright/stackwright/engine/ManaType") ∧ (Sta Z Z.heap "com/example/stackwright/stackwright/engine/ManaType" "COLORLESS" "Lcom/example/stackwright/stackwright/engine/ManaType;" (.ref u6)) ∧ (Exa Z Z.heap u6 "com/example/stackwright/stackwright/engine/ManaType") ∧ (Fld Z Z.heap u1 "java/lang/Enum" "ordinal" "I" (.int (0 : Int32))) ∧ (Fld Z Z.heap u2 "java/lang/Enum" "ordinal" "I" (.int (1 : Int32))) ∧ (Fld Z Z.heap u3 "java/lang/Enum" "ordinal" "I" (.int (2 : Int32))) ∧ (Fld Z Z.heap u4 "java/lang/Enum" "ordinal" "I" (.int (3 : Int32))) ∧ (Fld Z Z.heap u5 "java/lang/Enum" "ordinal" "I" (.int (4 : Int32))) ∧ (Fld Z Z.heap u6 "java/lang/Enum" "ordinal" "I" (.int (5 : Int32))) ∧ (∃ cl : Cell, Arr Z Z.heap u0 cl (.object "com/example/stackwright/stackwright/engine/ManaType") ∧ cl.slots.size = 6 ∧ FitC Z cl)
theorem own_S_u0 {Z : State} {u0 u1 u2 u3 u4 u5 u6 : Addr} (G : own_St Z u0 u1 u2 u3 u4 u5 u6) : Sta Z Z.heap "com/example/stackwright/stackwright/engine/ManaType" "$VALUES" "[Lcom/example/stackwright/stackwright/engine/ManaType;" (.ref u0) := G.1
theorem own_X_u0 {Z : State} {u0 u1 u2 u3 u4 u5 u6 : Addr} (G : own_St Z u0 u1 u2 u3 u4 u5 u6) : Exa Z Z.heap u0 "[Lcom/example/stackwright/stackwright/engine/ManaType;" := G.2.1
theorem own_S_u1 {Z : State} {u0 u1 u2 u3 u4 u5 u6 : Addr} (G : own_St Z u0 u1 u2 u3 u4 u5 u6) : Sta Z Z.heap "com/example/stackwright/stackwright/engine/ManaType" "WHITE" "Lcom/example/stackwright/stackwright/engine/ManaType;" (.ref u1) := G.2.2.1
theorem own_X_u1 {Z : State} {u0 u1 u2 u3 u4 u5 u6 : Addr} (G : own_St Z u0 u1 u2 u3 u4 u5 u6) : Exa Z Z.heap u1 "com/example/stackwright/stackwright/engine/ManaType" := G.2.2.2.1
theorem own_S_u2 {Z : State} {u0 u1 u2 u3 u4 u5 u6 : Addr} (G : own_St Z u0 u1 u2 u3 u4 u5 u6) : Sta Z Z.heap "com/example/stackwright/stackwright/engine/ManaType" "BLUE" "Lcom/example/stackwright/stackwright/engine/ManaType;" (.ref u2) := G.2.2.2.2.1
theorem own_X_u2 {Z : State} {u0 u1 u2 u3 u4 u5 u6 : Addr} (G : own_St Z u0 u1 u2 u3 u4 u5 u6) : Exa Z Z.heap u2 "com/example/stackwright/stackwright/engine/ManaType" := G.2.2.2.2.2.1
theorem own_S_u3 {Z : State} {u0 u1 u2 u3 u4 u5 u6 : Addr} (G : own_St Z u0 u1 u2 u3 u4 u5 u6) : Sta Z Z.heap "com/example/stackwright/stackwright/engine/ManaType" "BLACK" "Lcom/example/stackwright/stackwright/engine/ManaType;" (.ref u3) := G.2.2.2.2.2.2.1
theorem own_X_u3 {Z : State} {u0 u1 u2 u3 u4 u5 u6 : Addr} (G : own_St Z u0 u1 u2 u3 u4 u5 u6) : Exa Z Z.heap u3 "com/example/stackwright/stackwright/engine/ManaType" := G.2.2.2.2.2.2.2.1
theorem own_S_u4 {Z : State} {u0 u1 u2 u3 u4 u5 u6 : Addr} (G : own_St Z u0 u1 u2 u3 u4 u5 u6) : Sta Z Z.heap "com/example/stackwright/stackwright/engine/ManaType" "RED" "Lcom/example/stackwright/stackwright/engine/ManaType;" (.ref u4) := G.2.2.2.2.2.2.2.2.1
theorem own_X_u4 {Z : State} {u0 u1 u2 u3 u4 u5 u6 : Addr} (G : own_St Z u0 u1 u2 u3 u4 u5 u6) : Exa Z Z.heap u4 "com/example/stackwright/stackwright/engine/ManaType" := G.2.2.2.2.2.2.2.2.2.1
theorem own_S_u5 {Z : State} {u0 u1 u2 u3 u4 u5 u6 : Addr} (G : own_St Z u0 u1 u2 u3 u4 u5 u6) : Sta Z Z.heap "com/example/stackwright/stackwright/engine/ManaType" "GREEN" "Lcom/example/stackwright/stackwright/engine/ManaType;" (.ref u5) := G.2.2.2.2.2.2.2.2.2.2.1
theorem own_X_u5 {Z : State} {u0 u1 u2 u3 u4 u5 u6 : Addr} (G : own_St Z u0 u1 u2 u3 u4 u5 u6) : Exa Z Z.heap u5 "com/example/stackwright/stackwright/engine/ManaType" := G.2.2.2.2.2.2.2.2.2.2.2.1
theorem own_S_u6 {Z : State} {u0 u1 u2 u3 u4 u5 u6 : Addr} (G : own_St Z u0 u1 u2 u3 u4 u5 u6) : Sta Z Z.heap "com/example/stackwright/stackwright/engine/ManaType" "COLORLESS" "Lcom/example/stackwright/stackwright/engine/ManaType;" (.ref u6) := G.2.2.2.2.2.2.2.2.2.2.2.2.1
theorem own_X_u6 {Z : State} {u0 u1 u2 u3 u4 u5 u6 : Addr} (G : own_St Z u0 u1 u2 u3 u4 u5 u6) : Exa Z Z.heap u6 "com/example/stackwright/stackwright/engine/ManaType" := G.2.2.2.2.2.2.2.2.2.2.2.2.2.1
theorem own_F_u1_ordinal {Z : State} {u0 u1 u2 u3 u4 u5 u6 : Addr} (G : own_St Z u0 u1 u2 u3 u4 u5 u6) : Fld Z Z.heap u1 "java/lang/Enum" "ordinal" "I" (.int (0 : Int32)) := G.2.2.2.2.2.2.2.2.2.2.2.2.2.2.1
theorem own_F_u2_ordinal {Z : State} {u0 u1 u2 u3 u4 u5 u6 : Addr} (G : own_St Z u0 u1 u2 u3 u4 u5 u6) : Fld Z Z.heap u2 "java/lang/Enum" "ordinal" "I" (.int (1 : Int32)) := G.2.2.2.2.2.2.2.2.2.2.2.2.2.2.2.1
theorem own_F_u3_ordinal {Z : State} {u0 u1 u2 u3 u4 u5 u6 : Addr} (G : own_St Z u0 u1 u2 u3 u4 u5 u6) : Fld Z Z.heap u3 "java/lang/Enum" "ordinal" "I" (.int (2 : Int32)) := G.2.2.2.2.2.2.2.2.2.2.2.2.2.2.2.2.1
theorem own_F_u4_ordinal {Z : State} {u0 u1 u2 u3 u4 u5 u6 : Addr} (G : own_St Z u0 u1 u2 u3 u4 u5 u6) : Fld Z Z.heap u4 "java/lang/Enum" "ordinal" "I" (.int (3 : Int32)) := G.2.2.2.2.2.2.2.2.2.2.2.2.2.2.2.2.2.1
theorem own_F_u5_ordinal {Z : State} {u0 u1 u2 u3 u4 u5 u6 : Addr} (G : own_St Z u0 u1 u2 u3 u4 u5 u6) : Fld Z Z.heap u5 "java/lang/Enum" "ordinal" "I" (.int (4 : Int32)) := G.2.2.2.2.2.2.2.2.2.2.2.2.2.2.2.2.2.2.1
theorem own_F_u6_ordinal {Z : State} {u0 u1 u2 u3 u4 u5 u6 : Addr} (G : own_St Z u0 u1 u2 u3 u4 u5 u6) : Fld Z Z.heap u6 "java/lang/Enum" "ordinal" "I" (.int (5 : Int32)) := G.2.2.2.2.2.2.2.2.2.2.2.2.2.2.2.2.2.2.2.1
theorem own_VA_u0 {Z : State} {u0 u1 u2 u3 u4 u5 u6 : Addr} (G : own_St Z u0 u1 u2 u3 u4 u5 u6) : ∃ cl : Cell, Arr Z Z.heap u0 cl (.object "com/example/stackwright/stackwright/engine/ManaType") ∧ cl.slots.size = 6 ∧ FitC Z cl := G.2.2.2.2.2.2.2.2.2.2.2.2.2.2.2.2.2.2.2.2
def own_LS (Z : State) (h : Heap) (n0 : Nat) (a b : Addr) (k : ClassId) (c0 c1 c2 c3 c4 c5 : Int64) : Prop := Exa Z h a "com/example/stackwright/stackwright/engine/ManaPool" ∧ Fld Z h a "com/example/stackwright/stackwright/engine/ManaPool" "amounts" "[J" (.ref b) ∧ Arv Z h b k .long (6 : Int32) [(.long c0), (.long c1), (.long c2), (.long c3), (.long c4), (.long c5)] (.long (0 : Int64)) ∧ a ≠ b ∧ n0 ≤ a ∧ n0 ≤ b
def own_QV (Z : State) (h0 : Heap) (n0 : Nat) (v : Option Value) (h : Heap) (L : List Loc) : Prop := ∃ b c, v = some (.ref b) ∧ Fr n0 L ∧ Ext h0 h ∧ Arr Z h b c (.object "com/example/stackwright/stackwright/engine/ManaType") ∧ c.slots.size = 6
def own_QI (Z : State) (h0 : Heap) (n0 : Nat) (a : Addr) (v : Option Value) (h : Heap) (L : List Loc) : Prop := v = none ∧ Fr n0 L ∧ Keep h0 h [a] ∧ ∃ b k, own_LS Z h n0 a b k 0 0 0 0 0 0
def own_QA (Z : State) (h0 : Heap) (n0 : Nat) (a b : Addr) (k : ClassId) (c0 c1 c2 c3 c4 c5 : Int64) (v : Option Value) (h : Heap) (L : List Loc) : Prop := v = none ∧ Fr n0 L ∧ Keep h0 h [b] ∧ own_LS Z h n0 a b k c0 c1 c2 c3 c4 c5
theorem d3_0 : decode prog_48_method_1_code 0 = .ok (.getstatic 22, 3) := by decide +kernel
theorem d3_3 : decode prog_48_method_1_code 3 = .ok (.invokevirtual 26, 3) := by decide +kernel
theorem d3_6 : decode prog_48_method_1_code 6 = .ok (.checkcast 27, 3) := by decide +kernel
theorem d3_9 : decode prog_48_method_1_code 9 = .ok (.areturn, 1) := by decide +kernel
abbrev Y0 : MethodName := (⟨"com/example/stackwright/stackwright/engine/ManaType", "values", "()[Lcom/example/stackwright/stackwright/engine/ManaType;"⟩ : MethodName)
theorem pn0 : plainName "com/example/stackwright/stackwright/engine/ManaType" = true := by first | (simp [plainName, overriddenIn]; done) | decide +kernel
theorem ef_own_values (m : MethodId) (u0 u1 u2 u3 u4 u5 u6 : Addr) : entryFrame m #[] 0 = (mkF m 0 #[] []) := by first | (simp [entryFrame, mkF, argsToLocals, Value.category]; done) | rfl
set_option maxRecDepth 65536 in
set_option maxHeartbeats 40000000 in
theorem own_values (l : Launch) (Z : State) (a0 : Array Value) (hw : ∀ d ∈ tables_1, d.before a0 Z = true) (u0 u1 u2 u3 u4 u5 u6 : Addr) (G : own_St Z u0 u1 u2 u3 u4 u5 u6) (h0 : Heap) (n0 : Nat) (O0 : Old Z n0 h0) : own_Met l Z Y0 prog_48_method_1_code 0 (some (.array (.object "com/example/stackwright/stackwright/engine/ManaType"))) ({ frames := 1, cells := 1, slots := 6, locals := 14 } : Room) #[] h0 (own_QV Z h0 n0) := by
  intro ws
  refine MetFree.of_bodySF (plainFor_of_name pn0) hisR ?_
  intro p e s m args below meth c s₁ Bd hml0 hP hK
  obtain ⟨rfl, hZ, hh⟩ := hP
  have hx := Bd.exec
  have hby := Bd.bytes
  have hml : c.maxLocals = 0 := hml0
  have hown : s.vm.findClass "com/example/stackwright/stackwright/engine/ManaType" = some m.cls := findClass_of_methodNamed Bd.named
  have hnm := (name_of_methodNamed Bd.named Bd.method).1
  have X0 : Stand p l e ({ frames := 1, cells := 1, slots := 6, locals := 14 } : Room) s m #[] below meth c s₁ [] 0 0 := Stand.of_body Bd
  have e0 : s₁.heap = h0 := by rw [← hh, Bd.state]; rfl
  have N0 := Fr.nil n0
  have pre0 : ∀ t, Steps p.tables e below (s₁.setTop (mkF m 0 #[] [])) t → Steps p.tables e below (s₁.setTop (entryFrame m #[] 0)) t := fun t st => castTop (ef_own_values m u0 u1 u2 u3 u4 u5 u6) st
  obtain ⟨T1, X1, e1, st1⟩ := getS2 X0 hx hZ hown (host := "") (Or.inl (ww hw 14 rfl)) Via.refl e0 ((own_S_u0 G).ext O0.2) (g := (mkF m 0 #[] [])) rfl (hb hby d3_0)
  obtain ⟨clv, Arv, Slv, Fcv⟩ := own_VA_u0 G
  obtain ⟨T2, h2, X2, e2, E2, A2, Ax2, st2⟩ := cloneA X1 hx hZ hown (ww hw 16 rfl) (ww hw 17 rfl) (ww hw 21 rfl) (ww hw 19 rfl) (ww hw 20 rfl) (ww hw 22 rfl) e1 (Arv.ext O0.2) ((own_X_u0 G).ext O0.2) Fcv (g := (mkF m 3 #[] [xr u0])) rfl (by rw [hml]; rfl) rfl (hb hby d3_3) (by decide) (W := 0) (cap := 6) (by show 2 * 0 + _ ≤ _; exact Nat.le_of_eq rfl) (by decide) (Nat.le_of_eq Slv) (by decide) (by decide)
  obtain ⟨b2, g2⟩ : ∃ z, z = h0.size := ⟨_, rfl⟩
  rw [← g2] at A2 Ax2 st2
  have g_b2 : n0 ≤ b2 := own_fresh O0 g2
  have O2 : Old Z n0 h2 := O0.ext E2
  obtain ⟨T3, X3, e3, st3⟩ := castY X2 hx hZ hown (ww hw 30 rfl) e2 (Ins.self Ax2) (g := (mkF m 6 #[] [xr b2])) rfl rfl (hb hby d3_6)
  obtain ⟨fs, hr, hrun, hended, hW, hsame⟩ := X3.leave (v := some (xr b2)) (fun h => by rw [Bd.returns] at h; cases h)
  refine ⟨_, _, pre0 _ ?_, hrun, hended, _, _, rfl, ?_, ⟨_, rfl⟩, hW, hsame.mono (by decide) (by decide)⟩
  · show own_S p e below s₁ (mkF m 0 #[] []) _
    refine st1 _ ?_
    show own_S p e below T1 (mkF m 3 #[] [xr u0]) _
    refine st2 _ ?_
    show own_S p e below T2 (mkF m 6 #[] [xr b2]) _
    refine st3 _ ?_
    show own_S p e below T3 (mkF m 9 #[] [xr b2]) _
    exact X3.areturnOut hx rfl Bd.returns rfl (hb hby d3_9) hr
  · show (own_QV Z h0 n0) _ T3.heap _
    rw [e3]
    exact ⟨_, _, rfl, N0, E2, A2, Slv⟩
theorem d1_0 : decode prog_46_method_1_code 0 = .ok (.aload_n 0, 1) := by decide +kernel
theorem d1_1 : decode prog_46_method_1_code 1 = .ok (.invokespecial 1, 3) := by decide +kernel
theorem d1_4 : decode prog_46_method_1_code 4 = .ok (.aload_n 0, 1) := by decide +kernel
theorem d1_5 : decode prog_46_method_1_code 5 = .ok (.invokestatic 7, 3) := by decide +kernel
theorem pd0 : parseMethodDescriptor "()[Lcom/example/stackwright/stackwright/engine/ManaType;" = some ⟨[], some (.array (.object "com/example/stackwright/stackwright/engine/ManaType"))⟩ := by decide +kernel
theorem d1_8 : decode prog_46_method_1_code 8 = .ok (.arraylength, 1) := by decide +kernel
theorem d1_9 : decode prog_46_method_1_code 9 = .ok (.newarray .long, 2) := by decide +kernel
theorem d1_11 : decode prog_46_method_1_code 11 = .ok (.putfield 13, 3) := by decide +kernel
theorem d1_14 : decode prog_46_method_1_code 14 = .ok (.return_, 1) := by decide +kernel
abbrev Y1 : MethodName := (⟨"com/example/stackwright/stackwright/engine/ManaPool", "<init>", "()V"⟩ : MethodName)
theorem pn1 : plainName "com/example/stackwright/stackwright/engine/ManaPool" = true := by first | (simp [plainName, overriddenIn]; done) | decide +kernel
theorem ef_own_init (m : MethodId) (u0 u1 u2 u3 u4 u5 u6 : Addr) (a : Addr) : entryFrame m #[xr a] 1 = (mkF m 0 #[vr a] []) := by first | (simp [entryFrame, mkF, argsToLocals, Value.category]; done) | rfl
set_option maxRecDepth 65536 in
set_option maxHeartbeats 40000000 in
theorem own_init (l : Launch) (Z : State) (a0 : Array Value) (hw : ∀ d ∈ tables_1, d.before a0 Z = true) (u0 u1 u2 u3 u4 u5 u6 : Addr) (G : own_St Z u0 u1 u2 u3 u4 u5 u6) (a : Addr) (h0 : Heap) (n0 : Nat) (O0 : Old Z n0 h0) (EA : Exa Z h0 a "com/example/stackwright/stackwright/engine/ManaPool") (FA : Fld Z h0 a "com/example/stackwright/stackwright/engine/ManaPool" "amounts" "[J" .null) (g_a : n0 ≤ a) : own_Met l Z Y1 prog_46_method_1_code 1 none ({ frames := 2, cells := 2, slots := 12, locals := 26 } : Room) #[xr a] h0 (own_QI Z h0 n0 a) := by
  intro ws
  refine MetFree.of_bodySF (plainFor_of_name pn1) hisR ?_
  intro p e s m args below meth c s₁ Bd hml0 hP hK
  obtain ⟨rfl, hZ, hh⟩ := hP
  have hx := Bd.exec
  have hby := Bd.bytes
  have hml : c.maxLocals = 1 := hml0
  have hown : s.vm.findClass "com/example/stackwright/stackwright/engine/ManaPool" = some m.cls := findClass_of_methodNamed Bd.named
  have hnm := (name_of_methodNamed Bd.named Bd.method).1
  have X0 : Stand p l e ({ frames := 2, cells := 2, slots := 12, locals := 26 } : Room) s m #[xr a] below meth c s₁ [] 0 0 := Stand.of_body Bd
  have e0 : s₁.heap = h0 := by rw [← hh, Bd.state]; rfl
  have N0 := Fr.nil n0
  have pre0 : ∀ t, Steps p.tables e below (s₁.setTop (mkF m 0 #[vr a] [])) t → Steps p.tables e below (s₁.setTop (entryFrame m #[xr a] 1)) t := fun t st => castTop (ef_own_init m u0 u1 u2 u3 u4 u5 u6 a) st
  obtain ⟨T1, X1, e1, st1⟩ := initO X0 hx hZ hown (ww hw 7 rfl) (ww hw 8 rfl) (ww hw 9 rfl) e0 (g := (mkF m 1 #[vr a] [xr a])) rfl (by rw [hml]; rfl) rfl (hb hby d1_1) (by decide) (W := 0) (by show 2 * 0 + _ ≤ _; exact Nat.le_of_eq rfl) (by decide)
  obtain ⟨_, _, ⟨T2, L2, k2, n2⟩, -, X2, ⟨Lc2, hQ2, l2, y2, z2⟩, st2⟩ := Jvm.LawKit.callS X1 hx (y := Y0) hown (mvT hZ (ww hw 10 rfl)) (mvT hZ (ww hw 11 rfl)) (mvT hZ (ww hw 12 rfl)) (mvT hZ (ww hw 13 rfl)) (by decide) (backOf (W := 1) (own_values l Z a0 hw u0 u1 u2 u3 u4 u5 u6 G h0 n0 O0 []) hZ (ww hw 13 rfl) (ww hw 12 rfl) (by decide) (by decide)) (g := (mkF m 5 #[vr a] [xr a])) rfl (by rw [hml]; rfl) (argsL := []) (rest := [xr a]) (lenOf pd0 rfl) rfl (by show 2 * 0 + _ ≤ _; exact Nat.le_of_eq rfl) (hb hby d1_5) (fun _ _ => ⟨rfl, e1, (by decide : 0 + 1 ≤ _), (by decide : 0 + 6 ≤ _)⟩)
  dsimp only [Pt.U, Pt.locs, Pt.cells, Pt.slots] at X2 l2 y2 z2 st2 hQ2
  subst l2 y2 z2
  obtain ⟨h2, e2⟩ : ∃ z, T2.heap = z := ⟨_, rfl⟩
  rw [e2] at hQ2
  obtain ⟨bq2, cc2, rfl, Nq2, E2, Aq2, Sq2⟩ := hQ2
  have N2 := Fr.app N0 Nq2
  have O2 : Old Z n0 h2 := O0.ext E2
  have Kp2 : Keep h0 h2 [a] := (Keep.refl h0 [a]).ext E2
  have X_a_2 := EA.ext E2
  have F_a_amounts_2 := FA.ext E2
  obtain ⟨T4, h4, k4, X4, e4, E4, A4, st4⟩ := newP X2 hx hZ (ww hw 32 rfl) e2 (g := (mkF m 9 #[vr a] [xi (6 : Int32), xr a])) rfl (hb hby d1_9) rfl (by decide) (cap := 6) (by decide) (by decide) (by decide) (by decide)
  obtain ⟨b4, g4⟩ : ∃ z, z = h2.size := ⟨_, rfl⟩
  rw [← g4] at A4 st4
  have g_b4 : n0 ≤ b4 := own_fresh O2 g4
  have ne_a_b4 : a ≠ b4 := Nat.ne_of_lt (Nat.lt_of_lt_of_le (X_a_2).lt (Nat.le_of_eq g4.symm))
  have sz_b4 : h0.size ≤ b4 := Nat.le_trans Kp2.1 (Nat.le_of_eq g4.symm)
  have O4 : Old Z n0 h4 := O2.ext E4
  have Kp4 : Keep h0 h4 [a] := Kp2.ext E4
  have X_a_4 := X_a_2.ext E4
  have F_a_amounts_4 := F_a_amounts_2.ext E4
  have V_b4 : Arv Z h4 b4 k4 .long (6 : Int32) [(.long (0 : Int64)), (.long (0 : Int64)), (.long (0 : Int64)), (.long (0 : Int64)), (.long (0 : Int64)), (.long (0 : Int64))] (.long (0 : Int64)) := (Arv.new A4 (by decide)).pad (pad_rep [] (.long (0 : Int64)) 6)
  obtain ⟨T5, h5, X5, e5, W5, st5⟩ := putF X4 hx hZ hown (host := "") (Or.inl (ww hw 33 rfl)) Via.refl e4 F_a_amounts_4 X_a_4 (Or.inr ⟨(ww hw 34 rfl), rfl, hnm⟩) (ww hw 2 rfl) (ty := (.array .long)) (by decide) (by first | rfl | decide) (by first | rfl | decide) (g := (mkF m 11 #[vr a] [xr b4, xr a])) rfl rfl (hb hby d1_11)
  have O5 : Old Z n0 h5 := O4.wr W5 g_a
  have Kp5 : Keep h0 h5 [a] := Kp4.wr W5 (Or.inl (by simp))
  have V_b4_5 := V_b4.other W5 (Ne.symm ne_a_b4)
  have X_a_5 := X_a_4.wr W5
  have F_a_amounts_5 := F_a_amounts_4.same W5
  have N5 := Fr.snoc X5 N2 g_a
  obtain ⟨fs, hr, hrun, hended, hW, hsame⟩ := X5.leave (v := none) (fun _ => rfl)
  refine ⟨_, _, pre0 _ ?_, hrun, hended, _, _, rfl, ?_, ⟨_, rfl⟩, hW, hsame.mono (by decide) (by decide)⟩
  · show own_S p e below s₁ (mkF m 0 #[vr a] []) _
    refine XS.aloadN X0.here hx rfl (hb hby d1_0) rfl rfl ?_
    show own_S p e below s₁ (mkF m 1 #[vr a] [xr a]) _
    refine st1 _ ?_
    show own_S p e below T1 (mkF m 4 #[vr a] []) _
    refine XS.aloadN X1.here hx rfl (hb hby d1_4) rfl rfl ?_
    show own_S p e below T1 (mkF m 5 #[vr a] [xr a]) _
    refine st2 _ ?_
    show own_S p e below T2 (mkF m 8 #[vr a] [xr bq2, xr a]) _
    refine X2.arraylength hx (by rw [e2]; exact Aq2.1) (State.isArrayOf_alike hZ.alike Aq2.2.1) (g := (mkF m 8 #[vr a] [xr bq2, xr a])) rfl rfl (hb hby d1_8) _ ?_
    refine castTop (show (mkF m 9 #[vr a] [xi cc2.slots.size.toInt32, xr a]) = (mkF m 9 #[vr a] [xi (6 : Int32), xr a]) from by rw [Sq2]; rfl) ?_
    show own_S p e below T2 (mkF m 9 #[vr a] [xi (6 : Int32), xr a]) _
    refine st4 _ ?_
    show own_S p e below T4 (mkF m 11 #[vr a] [xr b4, xr a]) _
    refine st5 _ ?_
    show own_S p e below T5 (mkF m 14 #[vr a] []) _
    exact X5.returnOut hx Bd.returns (hb hby d1_14) hr
  · show (own_QI Z h0 n0 a) _ T5.heap _
    rw [e5]
    exact ⟨rfl, N5, Kp5, b4, k4, X_a_5, F_a_amounts_5, V_b4_5, ne_a_b4, g_a, g_b4⟩
theorem own_nov (q : Int64) : ifCond.holds .ge (lcmpW (((0 : Int64) ^^^ q) &&& (q ^^^ q)) (0 : Int64)) = true := by
  rw [Int64.xor_self, Int64.and_zero]; decide
theorem d4_0 : decode prog_46_method_2_code 0 = .ok (.lload_n 2, 1) := by decide +kernel
theorem d4_1 : decode prog_46_method_2_code 1 = .ok (.lconst 0, 1) := by decide +kernel
theorem d4_2 : decode prog_46_method_2_code 2 = .ok (.lcmp, 1) := by decide +kernel
theorem d4_3 : decode prog_46_method_2_code 3 = .ok (.ifCond .ge 17, 3) := by decide +kernel
theorem d4_20 : decode prog_46_method_2_code 20 = .ok (.aload_n 0, 1) := by decide +kernel
theorem d4_21 : decode prog_46_method_2_code 21 = .ok (.getfield 13, 3) := by decide +kernel
theorem d4_24 : decode prog_46_method_2_code 24 = .ok (.aload_n 1, 1) := by decide +kernel
theorem d4_25 : decode prog_46_method_2_code 25 = .ok (.invokevirtual 28, 3) := by decide +kernel
theorem d5_0 : decode jdk_37_method_2_code 0 = .ok (.aload_n 0, 1) := by decide +kernel
theorem d5_1 : decode jdk_37_method_2_code 1 = .ok (.getfield 7, 3) := by decide +kernel
theorem d5_4 : decode jdk_37_method_2_code 4 = .ok (.ireturn, 1) := by decide +kernel
abbrev Y2 : MethodName := (⟨"java/lang/Enum", "ordinal", "()I"⟩ : MethodName)
theorem pn2 : plainName "java/lang/Enum" = true := by first | (simp [plainName, overriddenIn]; done) | decide +kernel
theorem ef_own_c0_ordinal (m : MethodId) (u0 u1 u2 u3 u4 u5 u6 : Addr) : entryFrame m #[xr u1] 1 = (mkF m 0 #[vr u1] []) := by first | (simp [entryFrame, mkF, argsToLocals, Value.category]; done) | rfl
set_option maxRecDepth 65536 in
set_option maxHeartbeats 40000000 in
theorem own_c0_ordinal (l : Launch) (Z : State) (a0 : Array Value) (hw : ∀ d ∈ tables_1, d.before a0 Z = true) (u0 u1 u2 u3 u4 u5 u6 : Addr) (G : own_St Z u0 u1 u2 u3 u4 u5 u6) (h0 : Heap) (n0 : Nat) (O0 : Old Z n0 h0) : own_Met l Z Y2 jdk_37_method_2_code 1 (some .int) ({ frames := 0, cells := 0, slots := 0, locals := 0 } : Room) #[xr u1] h0 (own_QR (some (xi (0 : Int32))) h0 n0) := by
  intro ws
  refine MetFree.of_bodySF (plainFor_of_name pn2) hisR ?_
  intro p e s m args below meth c s₁ Bd hml0 hP hK
  obtain ⟨rfl, hZ, hh⟩ := hP
  have hx := Bd.exec
  have hby := Bd.bytes
  have hml : c.maxLocals = 1 := hml0
  have hown : s.vm.findClass "java/lang/Enum" = some m.cls := findClass_of_methodNamed Bd.named
  have hnm := (name_of_methodNamed Bd.named Bd.method).1
  have X0 : Stand p l e ({ frames := 0, cells := 0, slots := 0, locals := 0 } : Room) s m #[xr u1] below meth c s₁ [] 0 0 := Stand.of_body Bd
  have e0 : s₁.heap = h0 := by rw [← hh, Bd.state]; rfl
  have N0 := Fr.nil n0
  have pre0 : ∀ t, Steps p.tables e below (s₁.setTop (mkF m 0 #[vr u1] [])) t → Steps p.tables e below (s₁.setTop (entryFrame m #[xr u1] 1)) t := fun t st => castTop (ef_own_c0_ordinal m u0 u1 u2 u3 u4 u5 u6) st
  obtain ⟨T1, X1, e1, st1⟩ := getF X0 hx hZ hown (host := "") (Or.inl (ww hw 48 rfl)) Via.refl e0 ((own_F_u1_ordinal G).ext O0.2) (g := (mkF m 1 #[vr u1] [xr u1])) rfl rfl (hb hby d5_1)
  obtain ⟨fs, hr, hrun, hended, hW, hsame⟩ := X1.leave (v := some (xi (0 : Int32))) (fun h => by rw [Bd.returns] at h; cases h)
  refine ⟨_, _, pre0 _ ?_, hrun, hended, _, _, rfl, ?_, ⟨_, rfl⟩, hW, hsame.mono (by decide) (by decide)⟩
  · show own_S p e below s₁ (mkF m 0 #[vr u1] []) _
    refine XS.aloadN X0.here hx rfl (hb hby d5_0) rfl rfl ?_
    show own_S p e below s₁ (mkF m 1 #[vr u1] [xr u1]) _
    refine st1 _ ?_
    show own_S p e below T1 (mkF m 4 #[vr u1] [xi (0 : Int32)]) _
    exact retI X1 hx Bd.returns (hb hby d5_4) hr
  · exact ⟨rfl, N0, e1⟩
theorem pd1 : parseMethodDescriptor "()I" = some ⟨[], some .int⟩ := by decide +kernel
abbrev Y3 : MethodName := (⟨"com/example/stackwright/stackwright/engine/ManaType", "ordinal", "()I"⟩ : MethodName)
theorem d4_28 : decode prog_46_method_2_code 28 = .ok (.aload_n 0, 1) := by decide +kernel
theorem d4_29 : decode prog_46_method_2_code 29 = .ok (.getfield 13, 3) := by decide +kernel
theorem d4_32 : decode prog_46_method_2_code 32 = .ok (.aload_n 1, 1) := by decide +kernel
theorem d4_33 : decode prog_46_method_2_code 33 = .ok (.invokevirtual 28, 3) := by decide +kernel
theorem d4_36 : decode prog_46_method_2_code 36 = .ok (.laload, 1) := by decide +kernel
theorem d4_37 : decode prog_46_method_2_code 37 = .ok (.lload_n 2, 1) := by decide +kernel
theorem d4_38 : decode prog_46_method_2_code 38 = .ok (.invokestatic 32, 3) := by decide +kernel
theorem d6_0 : decode jdk_29_method_25_code 0 = .ok (.lload_n 0, 1) := by decide +kernel
theorem d6_1 : decode jdk_29_method_25_code 1 = .ok (.lload_n 2, 1) := by decide +kernel
theorem d6_2 : decode jdk_29_method_25_code 2 = .ok (.ladd, 1) := by decide +kernel
theorem d6_3 : decode jdk_29_method_25_code 3 = .ok (.lstore 4, 2) := by decide +kernel
theorem d6_5 : decode jdk_29_method_25_code 5 = .ok (.lload_n 0, 1) := by decide +kernel
theorem d6_6 : decode jdk_29_method_25_code 6 = .ok (.lload 4, 2) := by decide +kernel
theorem d6_8 : decode jdk_29_method_25_code 8 = .ok (.lxor, 1) := by decide +kernel
theorem d6_9 : decode jdk_29_method_25_code 9 = .ok (.lload_n 2, 1) := by decide +kernel
theorem d6_10 : decode jdk_29_method_25_code 10 = .ok (.lload 4, 2) := by decide +kernel
theorem d6_12 : decode jdk_29_method_25_code 12 = .ok (.lxor, 1) := by decide +kernel
theorem d6_13 : decode jdk_29_method_25_code 13 = .ok (.land, 1) := by decide +kernel
theorem d6_14 : decode jdk_29_method_25_code 14 = .ok (.lconst 0, 1) := by decide +kernel
theorem d6_15 : decode jdk_29_method_25_code 15 = .ok (.lcmp, 1) := by decide +kernel
theorem d6_16 : decode jdk_29_method_25_code 16 = .ok (.ifCond .ge 13, 3) := by decide +kernel
theorem d6_29 : decode jdk_29_method_25_code 29 = .ok (.lload 4, 2) := by decide +kernel
theorem d6_31 : decode jdk_29_method_25_code 31 = .ok (.lreturn, 1) := by decide +kernel
abbrev Y4 : MethodName := (⟨"java/lang/Math", "addExact", "(JJ)J"⟩ : MethodName)
theorem pn3 : plainFor (⟨"java/lang/Math", "addExact", "(JJ)J"⟩ : MethodName) = true := by decide +kernel
theorem ef_own_c1_addExact (m : MethodId) (u0 u1 u2 u3 u4 u5 u6 : Addr) (q : Int64) : entryFrame m #[xj (0 : Int64), xj q] 6 = (mkF m 0 #[vj (0 : Int64), .second, vj q, .second, vu, vu] []) := by first | (simp [entryFrame, mkF, argsToLocals, Value.category]; done) | rfl
set_option maxRecDepth 65536 in
set_option maxHeartbeats 40000000 in
theorem own_c1_addExact (l : Launch) (Z : State) (a0 : Array Value) (hw : ∀ d ∈ tables_1, d.before a0 Z = true) (u0 u1 u2 u3 u4 u5 u6 : Addr) (G : own_St Z u0 u1 u2 u3 u4 u5 u6) (q : Int64) (h0 : Heap) (n0 : Nat) (O0 : Old Z n0 h0) : own_Met l Z Y4 jdk_29_method_25_code 6 (some .long) ({ frames := 0, cells := 0, slots := 0, locals := 0 } : Room) #[xj (0 : Int64), xj q] h0 (own_QR (some (xj q)) h0 n0) := by
  intro ws
  refine MetFree.of_bodySF pn3 hisR ?_
  intro p e s m args below meth c s₁ Bd hml0 hP hK
  obtain ⟨rfl, hZ, hh⟩ := hP
  have hx := Bd.exec
  have hby := Bd.bytes
  have hml : c.maxLocals = 6 := hml0
  have hown : s.vm.findClass "java/lang/Math" = some m.cls := findClass_of_methodNamed Bd.named
  have hnm := (name_of_methodNamed Bd.named Bd.method).1
  have X0 : Stand p l e ({ frames := 0, cells := 0, slots := 0, locals := 0 } : Room) s m #[xj (0 : Int64), xj q] below meth c s₁ [] 0 0 := Stand.of_body Bd
  have e0 : s₁.heap = h0 := by rw [← hh, Bd.state]; rfl
  have N0 := Fr.nil n0
  have pre0 : ∀ t, Steps p.tables e below (s₁.setTop (mkF m 0 #[vj (0 : Int64), .second, vj q, .second, vu, vu] [])) t → Steps p.tables e below (s₁.setTop (entryFrame m #[xj (0 : Int64), xj q] 6)) t := fun t st => castTop (ef_own_c1_addExact m u0 u1 u2 u3 u4 u5 u6 q) st
  obtain ⟨fs, hr, hrun, hended, hW, hsame⟩ := X0.leave (v := some (xj q)) (fun h => by rw [Bd.returns] at h; cases h)
  refine ⟨_, _, pre0 _ ?_, hrun, hended, _, _, rfl, ?_, ⟨_, rfl⟩, hW, hsame.mono (by decide) (by decide)⟩
  · show own_S p e below s₁ (mkF m 0 #[vj (0 : Int64), .second, vj q, .second, vu, vu] []) _
    refine XS.lloadN X0.here hx rfl (hb hby d6_0) rfl ?_
    show own_S p e below s₁ (mkF m 1 #[vj (0 : Int64), .second, vj q, .second, vu, vu] [xj (0 : Int64)]) _
    refine XS.lloadN X0.here hx rfl (hb hby d6_1) rfl ?_
    show own_S p e below s₁ (mkF m 2 #[vj (0 : Int64), .second, vj q, .second, vu, vu] [xj q, xj (0 : Int64)]) _
    refine XS.ladd X0.here hx rfl (hb hby d6_2) rfl ?_
    show own_S p e below s₁ (mkF m 3 #[vj (0 : Int64), .second, vj q, .second, vu, vu] [xj ((0 : Int64) + q)]) _
    refine castTop (show (mkF m 3 #[vj (0 : Int64), .second, vj q, .second, vu, vu] [xj ((0 : Int64) + q)]) = (mkF m 3 #[vj (0 : Int64), .second, vj q, .second, vu, vu] [xj q]) from by rw [Int64.zero_add]) ?_
    show own_S p e below s₁ (mkF m 3 #[vj (0 : Int64), .second, vj q, .second, vu, vu] [xj q]) _
    refine XS.lstore X0.here hx rfl (hb hby d6_3) rfl (l' := #[vj (0 : Int64), .second, vj q, .second, vj q, .second]) rfl ?_
    show own_S p e below s₁ (mkF m 5 #[vj (0 : Int64), .second, vj q, .second, vj q, .second] []) _
    refine XS.lloadN X0.here hx rfl (hb hby d6_5) rfl ?_
    show own_S p e below s₁ (mkF m 6 #[vj (0 : Int64), .second, vj q, .second, vj q, .second] [xj (0 : Int64)]) _
    refine XS.lload X0.here hx rfl (hb hby d6_6) rfl ?_
    show own_S p e below s₁ (mkF m 8 #[vj (0 : Int64), .second, vj q, .second, vj q, .second] [xj q, xj (0 : Int64)]) _
    refine XS.lxor X0.here hx rfl (hb hby d6_8) rfl ?_
    show own_S p e below s₁ (mkF m 9 #[vj (0 : Int64), .second, vj q, .second, vj q, .second] [xj ((0 : Int64) ^^^ q)]) _
    show own_S p e below s₁ (mkF m 9 #[vj (0 : Int64), .second, vj q, .second, vj q, .second] [xj ((0 : Int64) ^^^ q)]) _
    refine XS.lloadN X0.here hx rfl (hb hby d6_9) rfl ?_
    show own_S p e below s₁ (mkF m 10 #[vj (0 : Int64), .second, vj q, .second, vj q, .second] [xj q, xj ((0 : Int64) ^^^ q)]) _
    refine XS.lload X0.here hx rfl (hb hby d6_10) rfl ?_
    show own_S p e below s₁ (mkF m 12 #[vj (0 : Int64), .second, vj q, .second, vj q, .second] [xj q, xj q, xj ((0 : Int64) ^^^ q)]) _
    refine XS.lxor X0.here hx rfl (hb hby d6_12) rfl ?_
    show own_S p e below s₁ (mkF m 13 #[vj (0 : Int64), .second, vj q, .second, vj q, .second] [xj (q ^^^ q), xj ((0 : Int64) ^^^ q)]) _
    show own_S p e below s₁ (mkF m 13 #[vj (0 : Int64), .second, vj q, .second, vj q, .second] [xj (q ^^^ q), xj ((0 : Int64) ^^^ q)]) _
    refine XS.land X0.here hx rfl (hb hby d6_13) rfl ?_
    show own_S p e below s₁ (mkF m 14 #[vj (0 : Int64), .second, vj q, .second, vj q, .second] [xj (((0 : Int64) ^^^ q) &&& (q ^^^ q))]) _
    show own_S p e below s₁ (mkF m 14 #[vj (0 : Int64), .second, vj q, .second, vj q, .second] [xj (((0 : Int64) ^^^ q) &&& (q ^^^ q))]) _
    refine XS.lconst X0.here hx rfl (hb hby d6_14) ?_
    show own_S p e below s₁ (mkF m 15 #[vj (0 : Int64), .second, vj q, .second, vj q, .second] [xj (0 : Int64), xj (((0 : Int64) ^^^ q) &&& (q ^^^ q))]) _
    refine XS.lcmp X0.here hx rfl (hb hby d6_15) rfl ?_
    show own_S p e below s₁ (mkF m 16 #[vj (0 : Int64), .second, vj q, .second, vj q, .second] [xi (lcmpW (((0 : Int64) ^^^ q) &&& (q ^^^ q)) (0 : Int64))]) _
    show own_S p e below s₁ (mkF m 16 #[vj (0 : Int64), .second, vj q, .second, vj q, .second] [xi (lcmpW (((0 : Int64) ^^^ q) &&& (q ^^^ q)) (0 : Int64))]) _
    refine XS.ifYes X0.here hx rfl (pc0 := 16) (pc' := 29) rfl (hb hby d6_16) rfl (own_nov q) (by decide) (by decide) ?_
    show own_S p e below s₁ (mkF m 29 #[vj (0 : Int64), .second, vj q, .second, vj q, .second] []) _
    refine XS.lload X0.here hx rfl (hb hby d6_29) rfl ?_
    show own_S p e below s₁ (mkF m 31 #[vj (0 : Int64), .second, vj q, .second, vj q, .second] [xj q]) _
    exact X0.lreturnOut hx Bd.returns (hb hby d6_31) hr
  · exact ⟨rfl, N0, e0⟩
theorem pd2 : parseMethodDescriptor "(JJ)J" = some ⟨[.long, .long], some .long⟩ := by decide +kernel
theorem d4_41 : decode prog_46_method_2_code 41 = .ok (.lastore, 1) := by decide +kernel
theorem d4_42 : decode prog_46_method_2_code 42 = .ok (.return_, 1) := by decide +kernel
abbrev Y5 : MethodName := (⟨"com/example/stackwright/stackwright/engine/ManaPool", "add", "(Lcom/example/stackwright/stackwright/engine/ManaType;J)V"⟩ : MethodName)
theorem ef_own_add0 (m : MethodId) (u0 u1 u2 u3 u4 u5 u6 : Addr) (a : Addr) (b : Addr) (k : ClassId) (c1 : Int64) (c2 : Int64) (c3 : Int64) (c4 : Int64) (c5 : Int64) (q : Int64) : entryFrame m #[xr a, xr u1, xj q] 4 = (mkF m 0 #[vr a, vr u1, vj q, .second] []) := by first | (simp [entryFrame, mkF, argsToLocals, Value.category]; done) | rfl
set_option maxRecDepth 65536 in
set_option maxHeartbeats 40000000 in
theorem own_add0 (l : Launch) (Z : State) (a0 : Array Value) (hw : ∀ d ∈ tables_1, d.before a0 Z = true) (u0 u1 u2 u3 u4 u5 u6 : Addr) (G : own_St Z u0 u1 u2 u3 u4 u5 u6) (a : Addr) (b : Addr) (k : ClassId) (c1 : Int64) (c2 : Int64) (c3 : Int64) (c4 : Int64) (c5 : Int64) (q : Int64) (as0 : ifCond.holds .ge (lcmpW q (0 : Int64)) = true) (h0 : Heap) (n0 : Nat) (O0 : Old Z n0 h0) (gL : own_LS Z h0 n0 a b k (0 : Int64) c1 c2 c3 c4 c5) : own_Met l Z Y5 prog_46_method_2_code 4 none ({ frames := 1, cells := 0, slots := 0, locals := 19 } : Room) #[xr a, xr u1, xj q] h0 (own_QA Z h0 n0 a b k q c1 c2 c3 c4 c5) := by
  intro ws
  refine MetFree.of_bodySF (plainFor_of_name pn1) hisR ?_
  intro p e s m args below meth c s₁ Bd hml0 hP hK
  obtain ⟨rfl, hZ, hh⟩ := hP
  have hx := Bd.exec
  have hby := Bd.bytes
  have hml : c.maxLocals = 4 := hml0
  have hown : s.vm.findClass "com/example/stackwright/stackwright/engine/ManaPool" = some m.cls := findClass_of_methodNamed Bd.named
  have hnm := (name_of_methodNamed Bd.named Bd.method).1
  have X0 : Stand p l e ({ frames := 1, cells := 0, slots := 0, locals := 19 } : Room) s m #[xr a, xr u1, xj q] below meth c s₁ [] 0 0 := Stand.of_body Bd
  have e0 : s₁.heap = h0 := by rw [← hh, Bd.state]; rfl
  have N0 := Fr.nil n0
  have pre0 : ∀ t, Steps p.tables e below (s₁.setTop (mkF m 0 #[vr a, vr u1, vj q, .second] [])) t → Steps p.tables e below (s₁.setTop (entryFrame m #[xr a, xr u1, xj q] 4)) t := fun t st => castTop (ef_own_add0 m u0 u1 u2 u3 u4 u5 u6 a b k c1 c2 c3 c4 c5 q) st
  obtain ⟨EA, FA, VA, ne_a_b, g_a, g_b⟩ := gL
  obtain ⟨T1, X1, e1, st1⟩ := getF X0 hx hZ hown (host := "") (Or.inl (ww hw 33 rfl)) Via.refl e0 FA (g := (mkF m 21 #[vr a, vr u1, vj q, .second] [xr a])) rfl rfl (hb hby d4_21)
  obtain ⟨cq2, kq2, qa2, qb2, qc2⟩ := isOf hZ e1 ((own_X_u1 G).ext O0.2)
  obtain ⟨_, _, ⟨T2, L2, k2, n2⟩, -, X2, ⟨Lc2, hQ2, l2, y2, z2⟩, st2⟩ := X1.virtualBackUp hx (x := Y3) (y := Y2) hown (mvT hZ (ww hw 41 rfl)) (mvT hZ (ww hw 42 rfl)) (mvT hZ (ww hw 43 rfl)) (by decide) (mvT hZ (ww hw 45 rfl)) (mvT hZ (ww hw 44 rfl)) (backOf (W := 1) (own_c0_ordinal l Z a0 hw u0 u1 u2 u3 u4 u5 u6 G h0 n0 O0 []) hZ (ww hw 47 rfl) (ww hw 46 rfl) (by decide) (by decide)) qa2 qc2 (g := (mkF m 25 #[vr a, vr u1, vj q, .second] [xr u1, xr b])) rfl (by rw [hml]; rfl) (Steps.refl _) (argsL := []) (rest := [xr b]) (lenOf pd1 rfl) rfl (by show 2 * 0 + _ ≤ _; exact Nat.le_of_eq rfl) (hb hby d4_25) (fun _ _ => ⟨rfl, e1, (by decide : 0 + 0 ≤ _), (by decide : 0 + 0 ≤ _)⟩)
  dsimp only [Pt.U, Pt.locs, Pt.cells, Pt.slots] at X2 l2 y2 z2 st2 hQ2
  subst l2 y2 z2
  obtain ⟨rfl, Nq2, e2⟩ := hQ2
  have N2 := Fr.app N0 Nq2
  obtain ⟨T3, X3, e3, st3⟩ := getF X2 hx hZ hown (host := "") (Or.inl (ww hw 33 rfl)) Via.refl e2 FA (g := (mkF m 29 #[vr a, vr u1, vj q, .second] [xr a, xi (0 : Int32), xr b])) rfl rfl (hb hby d4_29)
  obtain ⟨cq4, kq4, qa4, qb4, qc4⟩ := isOf hZ e3 ((own_X_u1 G).ext O0.2)
  obtain ⟨_, _, ⟨T4, L4, k4, n4⟩, -, X4, ⟨Lc4, hQ4, l4, y4, z4⟩, st4⟩ := X3.virtualBackUp hx (x := Y3) (y := Y2) hown (mvT hZ (ww hw 41 rfl)) (mvT hZ (ww hw 42 rfl)) (mvT hZ (ww hw 43 rfl)) (by decide) (mvT hZ (ww hw 45 rfl)) (mvT hZ (ww hw 44 rfl)) (backOf (W := 3) (own_c0_ordinal l Z a0 hw u0 u1 u2 u3 u4 u5 u6 G h0 n0 O0 []) hZ (ww hw 47 rfl) (ww hw 46 rfl) (by decide) (by decide)) qa4 qc4 (g := (mkF m 33 #[vr a, vr u1, vj q, .second] [xr u1, xr b, xi (0 : Int32), xr b])) rfl (by rw [hml]; rfl) (Steps.refl _) (argsL := []) (rest := [xr b, xi (0 : Int32), xr b]) (lenOf pd1 rfl) rfl (by show 2 * 0 + _ ≤ _; exact Nat.le_of_eq rfl) (hb hby d4_33) (fun _ _ => ⟨rfl, e3, (by decide : 0 + 0 ≤ _), (by decide : 0 + 0 ≤ _)⟩)
  dsimp only [Pt.U, Pt.locs, Pt.cells, Pt.slots] at X4 l4 y4 z4 st4 hQ4
  subst l4 y4 z4
  obtain ⟨rfl, Nq4, e4⟩ := hQ4
  have N4 := Fr.app N2 Nq4
  obtain ⟨cl5, Ar5, q5, S5, N5_, H5, G5⟩ := id VA
  have hin5 : ¬ ((0 : Int32) < 0 ∨ cl5.slots.size ≤ ((0 : Int32)).toNatClampNeg) := inb_of S5 ⟨by decide, by decide⟩
  have hat5 : cl5.slots[((0 : Int32)).toNatClampNeg]? = some (xj (0 : Int64)) := Has.at H5 hin5 rfl
  obtain ⟨_, _, ⟨T6, L6, k6, n6⟩, -, X6, ⟨Lc6, hQ6, l6, y6, z6⟩, st6⟩ := Jvm.LawKit.callS X4 hx (y := Y4) hown (mvT hZ (ww hw 50 rfl)) (mvT hZ (ww hw 51 rfl)) (mvT hZ (ww hw 52 rfl)) (mvT hZ (ww hw 53 rfl)) (by decide) (backOf (W := 2) (own_c1_addExact l Z a0 hw u0 u1 u2 u3 u4 u5 u6 G q h0 n0 O0 []) hZ (ww hw 53 rfl) (ww hw 52 rfl) (by decide) (by decide)) (g := (mkF m 38 #[vr a, vr u1, vj q, .second] [xj q, xj (0 : Int64), xi (0 : Int32), xr b])) rfl (by rw [hml]; rfl) (argsL := [xj (0 : Int64), xj q]) (rest := [xi (0 : Int32), xr b]) (lenOf pd2 rfl) rfl (by show 2 * 0 + _ ≤ _; exact Nat.le_of_eq rfl) (hb hby d4_38) (fun _ _ => ⟨rfl, e4, (by decide : 0 + 0 ≤ _), (by decide : 0 + 0 ≤ _)⟩)
  dsimp only [Pt.U, Pt.locs, Pt.cells, Pt.slots] at X6 l6 y6 z6 st6 hQ6
  subst l6 y6 z6
  obtain ⟨rfl, Nq6, e6⟩ := hQ6
  have N6 := Fr.app N4 Nq6
  obtain ⟨cl7, Ar7, q7, S7, N7_, H7, G7⟩ := id VA
  have hin7 : ¬ ((0 : Int32) < 0 ∨ cl7.slots.size ≤ ((0 : Int32)).toNatClampNeg) := inb_of S7 ⟨by decide, by decide⟩
  obtain ⟨T8, h8, X8, e8, W8, st8⟩ := stJ X6 hx hZ e6 Ar7 (j := (0 : Int32)) hin7 (g := (mkF m 41 #[vr a, vr u1, vj q, .second] [xj q, xi (0 : Int32), xr b])) rfl rfl (hb hby d4_41)
  have V_b_8 : Arv Z h8 b k .long (6 : Int32) [xj q, xj c1, xj c2, xj c3, xj c4, xj c5] (.long (0 : Int64)) := Arv.set Ar7 q7 S7 N7_ H7 G7 rfl W8 0 rfl (Nat.le_of_ble_eq_true rfl)
  have O8 : Old Z n0 h8 := O0.wr W8 g_b
  have Kp8 : Keep h0 h8 [b] := (Keep.refl h0 [b]).wr W8 (Or.inl (by simp))
  have X_a_8 := EA.wr W8
  have F_a_amounts_8 := FA.other W8 (Or.inl ne_a_b)
  have N8 := Fr.snoc X8 N6 g_b
  obtain ⟨fs, hr, hrun, hended, hW, hsame⟩ := X8.leave (v := none) (fun _ => rfl)
  refine ⟨_, _, pre0 _ ?_, hrun, hended, _, _, rfl, ?_, ⟨_, rfl⟩, hW, hsame.mono (by decide) (by decide)⟩
  · show own_S p e below s₁ (mkF m 0 #[vr a, vr u1, vj q, .second] []) _
    refine XS.lloadN X0.here hx rfl (hb hby d4_0) rfl ?_
    show own_S p e below s₁ (mkF m 1 #[vr a, vr u1, vj q, .second] [xj q]) _
    refine XS.lconst X0.here hx rfl (hb hby d4_1) ?_
    show own_S p e below s₁ (mkF m 2 #[vr a, vr u1, vj q, .second] [xj (0 : Int64), xj q]) _
    refine XS.lcmp X0.here hx rfl (hb hby d4_2) rfl ?_
    show own_S p e below s₁ (mkF m 3 #[vr a, vr u1, vj q, .second] [xi (lcmpW q (0 : Int64))]) _
    show own_S p e below s₁ (mkF m 3 #[vr a, vr u1, vj q, .second] [xi (lcmpW q (0 : Int64))]) _
    refine XS.ifYes X0.here hx rfl (pc0 := 3) (pc' := 20) rfl (hb hby d4_3) rfl as0 (by decide) (by decide) ?_
    show own_S p e below s₁ (mkF m 20 #[vr a, vr u1, vj q, .second] []) _
    refine XS.aloadN X0.here hx rfl (hb hby d4_20) rfl rfl ?_
    show own_S p e below s₁ (mkF m 21 #[vr a, vr u1, vj q, .second] [xr a]) _
    refine st1 _ ?_
    show own_S p e below T1 (mkF m 24 #[vr a, vr u1, vj q, .second] [xr b]) _
    refine XS.aloadN X1.here hx rfl (hb hby d4_24) rfl rfl ?_
    show own_S p e below T1 (mkF m 25 #[vr a, vr u1, vj q, .second] [xr u1, xr b]) _
    refine st2.trans ?_
    show own_S p e below T2 (mkF m 28 #[vr a, vr u1, vj q, .second] [xi (0 : Int32), xr b]) _
    refine XS.aloadN X2.here hx rfl (hb hby d4_28) rfl rfl ?_
    show own_S p e below T2 (mkF m 29 #[vr a, vr u1, vj q, .second] [xr a, xi (0 : Int32), xr b]) _
    refine st3 _ ?_
    show own_S p e below T3 (mkF m 32 #[vr a, vr u1, vj q, .second] [xr b, xi (0 : Int32), xr b]) _
    refine XS.aloadN X3.here hx rfl (hb hby d4_32) rfl rfl ?_
    show own_S p e below T3 (mkF m 33 #[vr a, vr u1, vj q, .second] [xr u1, xr b, xi (0 : Int32), xr b]) _
    refine st4.trans ?_
    show own_S p e below T4 (mkF m 36 #[vr a, vr u1, vj q, .second] [xi (0 : Int32), xr b, xi (0 : Int32), xr b]) _
    refine X4.laload hx (j := (0 : Int32)) (v := (xj (0 : Int64))) (by rw [e4]; exact Ar5.1) (State.isArrayOf_alike hZ.alike Ar5.2.1) Ar5.2.2 hin5 hat5 (g := (mkF m 36 #[vr a, vr u1, vj q, .second] [xi (0 : Int32), xr b, xi (0 : Int32), xr b])) rfl rfl (hb hby d4_36) _ ?_
    show own_S p e below T4 (mkF m 37 #[vr a, vr u1, vj q, .second] [xj (0 : Int64), xi (0 : Int32), xr b]) _
    refine XS.lloadN X4.here hx rfl (hb hby d4_37) rfl ?_
    show own_S p e below T4 (mkF m 38 #[vr a, vr u1, vj q, .second] [xj q, xj (0 : Int64), xi (0 : Int32), xr b]) _
    refine st6 _ ?_
    show own_S p e below T6 (mkF m 41 #[vr a, vr u1, vj q, .second] [xj q, xi (0 : Int32), xr b]) _
    refine st8 _ ?_
    show own_S p e below T8 (mkF m 42 #[vr a, vr u1, vj q, .second] []) _
    exact X8.returnOut hx Bd.returns (hb hby d4_42) hr
  · show (own_QA Z h0 n0 a b k q c1 c2 c3 c4 c5) _ T8.heap _
    rw [e8]
    exact ⟨rfl, N8, Kp8, ⟨X_a_8, F_a_amounts_8, V_b_8, ne_a_b, g_a, g_b⟩⟩
theorem ef_own_c2_ordinal (m : MethodId) (u0 u1 u2 u3 u4 u5 u6 : Addr) : entryFrame m #[xr u2] 1 = (mkF m 0 #[vr u2] []) := by first | (simp [entryFrame, mkF, argsToLocals, Value.category]; done) | rfl
set_option maxRecDepth 65536 in
set_option maxHeartbeats 40000000 in
theorem own_c2_ordinal (l : Launch) (Z : State) (a0 : Array Value) (hw : ∀ d ∈ tables_1, d.before a0 Z = true) (u0 u1 u2 u3 u4 u5 u6 : Addr) (G : own_St Z u0 u1 u2 u3 u4 u5 u6) (h0 : Heap) (n0 : Nat) (O0 : Old Z n0 h0) : own_Met l Z Y2 jdk_37_method_2_code 1 (some .int) ({ frames := 0, cells := 0, slots := 0, locals := 0 } : Room) #[xr u2] h0 (own_QR (some (xi (1 : Int32))) h0 n0) := by
  intro ws
  refine MetFree.of_bodySF (plainFor_of_name pn2) hisR ?_
  intro p e s m args below meth c s₁ Bd hml0 hP hK
  obtain ⟨rfl, hZ, hh⟩ := hP
  have hx := Bd.exec
  have hby := Bd.bytes
  have hml : c.maxLocals = 1 := hml0
  have hown : s.vm.findClass "java/lang/Enum" = some m.cls := findClass_of_methodNamed Bd.named
  have hnm := (name_of_methodNamed Bd.named Bd.method).1
  have X0 : Stand p l e ({ frames := 0, cells := 0, slots := 0, locals := 0 } : Room) s m #[xr u2] below meth c s₁ [] 0 0 := Stand.of_body Bd
  have e0 : s₁.heap = h0 := by rw [← hh, Bd.state]; rfl
  have N0 := Fr.nil n0
  have pre0 : ∀ t, Steps p.tables e below (s₁.setTop (mkF m 0 #[vr u2] [])) t → Steps p.tables e below (s₁.setTop (entryFrame m #[xr u2] 1)) t := fun t st => castTop (ef_own_c2_ordinal m u0 u1 u2 u3 u4 u5 u6) st
  obtain ⟨T1, X1, e1, st1⟩ := getF X0 hx hZ hown (host := "") (Or.inl (ww hw 48 rfl)) Via.refl e0 ((own_F_u2_ordinal G).ext O0.2) (g := (mkF m 1 #[vr u2] [xr u2])) rfl rfl (hb hby d5_1)
  obtain ⟨fs, hr, hrun, hended, hW, hsame⟩ := X1.leave (v := some (xi (1 : Int32))) (fun h => by rw [Bd.returns] at h; cases h)
  refine ⟨_, _, pre0 _ ?_, hrun, hended, _, _, rfl, ?_, ⟨_, rfl⟩, hW, hsame.mono (by decide) (by decide)⟩
  · show own_S p e below s₁ (mkF m 0 #[vr u2] []) _
    refine XS.aloadN X0.here hx rfl (hb hby d5_0) rfl rfl ?_
    show own_S p e below s₁ (mkF m 1 #[vr u2] [xr u2]) _
    refine st1 _ ?_
    show own_S p e below T1 (mkF m 4 #[vr u2] [xi (1 : Int32)]) _
    exact retI X1 hx Bd.returns (hb hby d5_4) hr
  · exact ⟨rfl, N0, e1⟩
theorem ef_own_add1 (m : MethodId) (u0 u1 u2 u3 u4 u5 u6 : Addr) (a : Addr) (b : Addr) (k : ClassId) (c0 : Int64) (c2 : Int64) (c3 : Int64) (c4 : Int64) (c5 : Int64) (q : Int64) : entryFrame m #[xr a, xr u2, xj q] 4 = (mkF m 0 #[vr a, vr u2, vj q, .second] []) := by first | (simp [entryFrame, mkF, argsToLocals, Value.category]; done) | rfl
set_option maxRecDepth 65536 in
set_option maxHeartbeats 40000000 in
theorem own_add1 (l : Launch) (Z : State) (a0 : Array Value) (hw : ∀ d ∈ tables_1, d.before a0 Z = true) (u0 u1 u2 u3 u4 u5 u6 : Addr) (G : own_St Z u0 u1 u2 u3 u4 u5 u6) (a : Addr) (b : Addr) (k : ClassId) (c0 : Int64) (c2 : Int64) (c3 : Int64) (c4 : Int64) (c5 : Int64) (q : Int64) (as0 : ifCond.holds .ge (lcmpW q (0 : Int64)) = true) (h0 : Heap) (n0 : Nat) (O0 : Old Z n0 h0) (gL : own_LS Z h0 n0 a b k c0 (0 : Int64) c2 c3 c4 c5) : own_Met l Z Y5 prog_46_method_2_code 4 none ({ frames := 1, cells := 0, slots := 0, locals := 19 } : Room) #[xr a, xr u2, xj q] h0 (own_QA Z h0 n0 a b k c0 q c2 c3 c4 c5) := by
  intro ws
  refine MetFree.of_bodySF (plainFor_of_name pn1) hisR ?_
  intro p e s m args below meth c s₁ Bd hml0 hP hK
  obtain ⟨rfl, hZ, hh⟩ := hP
  have hx := Bd.exec
  have hby := Bd.bytes
  have hml : c.maxLocals = 4 := hml0
  have hown : s.vm.findClass "com/example/stackwright/stackwright/engine/ManaPool" = some m.cls := findClass_of_methodNamed Bd.named
  have hnm := (name_of_methodNamed Bd.named Bd.method).1
  have X0 : Stand p l e ({ frames := 1, cells := 0, slots := 0, locals := 19 } : Room) s m #[xr a, xr u2, xj q] below meth c s₁ [] 0 0 := Stand.of_body Bd
  have e0 : s₁.heap = h0 := by rw [← hh, Bd.state]; rfl
  have N0 := Fr.nil n0
  have pre0 : ∀ t, Steps p.tables e below (s₁.setTop (mkF m 0 #[vr a, vr u2, vj q, .second] [])) t → Steps p.tables e below (s₁.setTop (entryFrame m #[xr a, xr u2, xj q] 4)) t := fun t st => castTop (ef_own_add1 m u0 u1 u2 u3 u4 u5 u6 a b k c0 c2 c3 c4 c5 q) st
  obtain ⟨EA, FA, VA, ne_a_b, g_a, g_b⟩ := gL
  obtain ⟨T1, X1, e1, st1⟩ := getF X0 hx hZ hown (host := "") (Or.inl (ww hw 33 rfl)) Via.refl e0 FA (g := (mkF m 21 #[vr a, vr u2, vj q, .second] [xr a])) rfl rfl (hb hby d4_21)
  obtain ⟨cq2, kq2, qa2, qb2, qc2⟩ := isOf hZ e1 ((own_X_u2 G).ext O0.2)
  obtain ⟨_, _, ⟨T2, L2, k2, n2⟩, -, X2, ⟨Lc2, hQ2, l2, y2, z2⟩, st2⟩ := X1.virtualBackUp hx (x := Y3) (y := Y2) hown (mvT hZ (ww hw 41 rfl)) (mvT hZ (ww hw 42 rfl)) (mvT hZ (ww hw 43 rfl)) (by decide) (mvT hZ (ww hw 45 rfl)) (mvT hZ (ww hw 44 rfl)) (backOf (W := 1) (own_c2_ordinal l Z a0 hw u0 u1 u2 u3 u4 u5 u6 G h0 n0 O0 []) hZ (ww hw 47 rfl) (ww hw 46 rfl) (by decide) (by decide)) qa2 qc2 (g := (mkF m 25 #[vr a, vr u2, vj q, .second] [xr u2, xr b])) rfl (by rw [hml]; rfl) (Steps.refl _) (argsL := []) (rest := [xr b]) (lenOf pd1 rfl) rfl (by show 2 * 0 + _ ≤ _; exact Nat.le_of_eq rfl) (hb hby d4_25) (fun _ _ => ⟨rfl, e1, (by decide : 0 + 0 ≤ _), (by decide : 0 + 0 ≤ _)⟩)
  dsimp only [Pt.U, Pt.locs, Pt.cells, Pt.slots] at X2 l2 y2 z2 st2 hQ2
  subst l2 y2 z2
  obtain ⟨rfl, Nq2, e2⟩ := hQ2
  have N2 := Fr.app N0 Nq2
  obtain ⟨T3, X3, e3, st3⟩ := getF X2 hx hZ hown (host := "") (Or.inl (ww hw 33 rfl)) Via.refl e2 FA (g := (mkF m 29 #[vr a, vr u2, vj q, .second] [xr a, xi (1 : Int32), xr b])) rfl rfl (hb hby d4_29)
  obtain ⟨cq4, kq4, qa4, qb4, qc4⟩ := isOf hZ e3 ((own_X_u2 G).ext O0.2)
  obtain ⟨_, _, ⟨T4, L4, k4, n4⟩, -, X4, ⟨Lc4, hQ4, l4, y4, z4⟩, st4⟩ := X3.virtualBackUp hx (x := Y3) (y := Y2) hown (mvT hZ (ww hw 41 rfl)) (mvT hZ (ww hw 42 rfl)) (mvT hZ (ww hw 43 rfl)) (by decide) (mvT hZ (ww hw 45 rfl)) (mvT hZ (ww hw 44 rfl)) (backOf (W := 3) (own_c2_ordinal l Z a0 hw u0 u1 u2 u3 u4 u5 u6 G h0 n0 O0 []) hZ (ww hw 47 rfl) (ww hw 46 rfl) (by decide) (by decide)) qa4 qc4 (g := (mkF m 33 #[vr a, vr u2, vj q, .second] [xr u2, xr b, xi (1 : Int32), xr b])) rfl (by rw [hml]; rfl) (Steps.refl _) (argsL := []) (rest := [xr b, xi (1 : Int32), xr b]) (lenOf pd1 rfl) rfl (by show 2 * 0 + _ ≤ _; exact Nat.le_of_eq rfl) (hb hby d4_33) (fun _ _ => ⟨rfl, e3, (by decide : 0 + 0 ≤ _), (by decide : 0 + 0 ≤ _)⟩)
  dsimp only [Pt.U, Pt.locs, Pt.cells, Pt.slots] at X4 l4 y4 z4 st4 hQ4
  subst l4 y4 z4
  obtain ⟨rfl, Nq4, e4⟩ := hQ4
  have N4 := Fr.app N2 Nq4
  obtain ⟨cl5, Ar5, q5, S5, N5_, H5, G5⟩ := id VA
  have hin5 : ¬ ((1 : Int32) < 0 ∨ cl5.slots.size ≤ ((1 : Int32)).toNatClampNeg) := inb_of S5 ⟨by decide, by decide⟩
  have hat5 : cl5.slots[((1 : Int32)).toNatClampNeg]? = some (xj (0 : Int64)) := Has.at H5 hin5 rfl
  obtain ⟨_, _, ⟨T6, L6, k6, n6⟩, -, X6, ⟨Lc6, hQ6, l6, y6, z6⟩, st6⟩ := Jvm.LawKit.callS X4 hx (y := Y4) hown (mvT hZ (ww hw 50 rfl)) (mvT hZ (ww hw 51 rfl)) (mvT hZ (ww hw 52 rfl)) (mvT hZ (ww hw 53 rfl)) (by decide) (backOf (W := 2) (own_c1_addExact l Z a0 hw u0 u1 u2 u3 u4 u5 u6 G q h0 n0 O0 []) hZ (ww hw 53 rfl) (ww hw 52 rfl) (by decide) (by decide)) (g := (mkF m 38 #[vr a, vr u2, vj q, .second] [xj q, xj (0 : Int64), xi (1 : Int32), xr b])) rfl (by rw [hml]; rfl) (argsL := [xj (0 : Int64), xj q]) (rest := [xi (1 : Int32), xr b]) (lenOf pd2 rfl) rfl (by show 2 * 0 + _ ≤ _; exact Nat.le_of_eq rfl) (hb hby d4_38) (fun _ _ => ⟨rfl, e4, (by decide : 0 + 0 ≤ _), (by decide : 0 + 0 ≤ _)⟩)
  dsimp only [Pt.U, Pt.locs, Pt.cells, Pt.slots] at X6 l6 y6 z6 st6 hQ6
  subst l6 y6 z6
  obtain ⟨rfl, Nq6, e6⟩ := hQ6
  have N6 := Fr.app N4 Nq6
  obtain ⟨cl7, Ar7, q7, S7, N7_, H7, G7⟩ := id VA
  have hin7 : ¬ ((1 : Int32) < 0 ∨ cl7.slots.size ≤ ((1 : Int32)).toNatClampNeg) := inb_of S7 ⟨by decide, by decide⟩
  obtain ⟨T8, h8, X8, e8, W8, st8⟩ := stJ X6 hx hZ e6 Ar7 (j := (1 : Int32)) hin7 (g := (mkF m 41 #[vr a, vr u2, vj q, .second] [xj q, xi (1 : Int32), xr b])) rfl rfl (hb hby d4_41)
  have V_b_8 : Arv Z h8 b k .long (6 : Int32) [xj c0, xj q, xj c2, xj c3, xj c4, xj c5] (.long (0 : Int64)) := Arv.set Ar7 q7 S7 N7_ H7 G7 rfl W8 1 rfl (Nat.le_of_ble_eq_true rfl)
  have O8 : Old Z n0 h8 := O0.wr W8 g_b
  have Kp8 : Keep h0 h8 [b] := (Keep.refl h0 [b]).wr W8 (Or.inl (by simp))
  have X_a_8 := EA.wr W8
  have F_a_amounts_8 := FA.other W8 (Or.inl ne_a_b)
  have N8 := Fr.snoc X8 N6 g_b
  obtain ⟨fs, hr, hrun, hended, hW, hsame⟩ := X8.leave (v := none) (fun _ => rfl)
  refine ⟨_, _, pre0 _ ?_, hrun, hended, _, _, rfl, ?_, ⟨_, rfl⟩, hW, hsame.mono (by decide) (by decide)⟩
  · show own_S p e below s₁ (mkF m 0 #[vr a, vr u2, vj q, .second] []) _
    refine XS.lloadN X0.here hx rfl (hb hby d4_0) rfl ?_
    show own_S p e below s₁ (mkF m 1 #[vr a, vr u2, vj q, .second] [xj q]) _
    refine XS.lconst X0.here hx rfl (hb hby d4_1) ?_
    show own_S p e below s₁ (mkF m 2 #[vr a, vr u2, vj q, .second] [xj (0 : Int64), xj q]) _
    refine XS.lcmp X0.here hx rfl (hb hby d4_2) rfl ?_
    show own_S p e below s₁ (mkF m 3 #[vr a, vr u2, vj q, .second] [xi (lcmpW q (0 : Int64))]) _
    show own_S p e below s₁ (mkF m 3 #[vr a, vr u2, vj q, .second] [xi (lcmpW q (0 : Int64))]) _
    refine XS.ifYes X0.here hx rfl (pc0 := 3) (pc' := 20) rfl (hb hby d4_3) rfl as0 (by decide) (by decide) ?_
    show own_S p e below s₁ (mkF m 20 #[vr a, vr u2, vj q, .second] []) _
    refine XS.aloadN X0.here hx rfl (hb hby d4_20) rfl rfl ?_
    show own_S p e below s₁ (mkF m 21 #[vr a, vr u2, vj q, .second] [xr a]) _
    refine st1 _ ?_
    show own_S p e below T1 (mkF m 24 #[vr a, vr u2, vj q, .second] [xr b]) _
    refine XS.aloadN X1.here hx rfl (hb hby d4_24) rfl rfl ?_
    show own_S p e below T1 (mkF m 25 #[vr a, vr u2, vj q, .second] [xr u2, xr b]) _
    refine st2.trans ?_
    show own_S p e below T2 (mkF m 28 #[vr a, vr u2, vj q, .second] [xi (1 : Int32), xr b]) _
    refine XS.aloadN X2.here hx rfl (hb hby d4_28) rfl rfl ?_
    show own_S p e below T2 (mkF m 29 #[vr a, vr u2, vj q, .second] [xr a, xi (1 : Int32), xr b]) _
    refine st3 _ ?_
    show own_S p e below T3 (mkF m 32 #[vr a, vr u2, vj q, .second] [xr b, xi (1 : Int32), xr b]) _
    refine XS.aloadN X3.here hx rfl (hb hby d4_32) rfl rfl ?_
    show own_S p e below T3 (mkF m 33 #[vr a, vr u2, vj q, .second] [xr u2, xr b, xi (1 : Int32), xr b]) _
    refine st4.trans ?_
    show own_S p e below T4 (mkF m 36 #[vr a, vr u2, vj q, .second] [xi (1 : Int32), xr b, xi (1 : Int32), xr b]) _
    refine X4.laload hx (j := (1 : Int32)) (v := (xj (0 : Int64))) (by rw [e4]; exact Ar5.1) (State.isArrayOf_alike hZ.alike Ar5.2.1) Ar5.2.2 hin5 hat5 (g := (mkF m 36 #[vr a, vr u2, vj q, .second] [xi (1 : Int32), xr b, xi (1 : Int32), xr b])) rfl rfl (hb hby d4_36) _ ?_
    show own_S p e below T4 (mkF m 37 #[vr a, vr u2, vj q, .second] [xj (0 : Int64), xi (1 : Int32), xr b]) _
    refine XS.lloadN X4.here hx rfl (hb hby d4_37) rfl ?_
    show own_S p e below T4 (mkF m 38 #[vr a, vr u2, vj q, .second] [xj q, xj (0 : Int64), xi (1 : Int32), xr b]) _
    refine st6 _ ?_
    show own_S p e below T6 (mkF m 41 #[vr a, vr u2, vj q, .second] [xj q, xi (1 : Int32), xr b]) _
    refine st8 _ ?_
    show own_S p e below T8 (mkF m 42 #[vr a, vr u2, vj q, .second] []) _
    exact X8.returnOut hx Bd.returns (hb hby d4_42) hr
  · show (own_QA Z h0 n0 a b k c0 q c2 c3 c4 c5) _ T8.heap _
    rw [e8]
    exact ⟨rfl, N8, Kp8, ⟨X_a_8, F_a_amounts_8, V_b_8, ne_a_b, g_a, g_b⟩⟩
theorem ef_own_c3_ordinal (m : MethodId) (u0 u1 u2 u3 u4 u5 u6 : Addr) : entryFrame m #[xr u3] 1 = (mkF m 0 #[vr u3] []) := by first | (simp [entryFrame, mkF, argsToLocals, Value.category]; done) | rfl
set_option maxRecDepth 65536 in
set_option maxHeartbeats 40000000 in
theorem own_c3_ordinal (l : Launch) (Z : State) (a0 : Array Value) (hw : ∀ d ∈ tables_1, d.before a0 Z = true) (u0 u1 u2 u3 u4 u5 u6 : Addr) (G : own_St Z u0 u1 u2 u3 u4 u5 u6) (h0 : Heap) (n0 : Nat) (O0 : Old Z n0 h0) : own_Met l Z Y2 jdk_37_method_2_code 1 (some .int) ({ frames := 0, cells := 0, slots := 0, locals := 0 } : Room) #[xr u3] h0 (own_QR (some (xi (2 : Int32))) h0 n0) := by
  intro ws
  refine MetFree.of_bodySF (plainFor_of_name pn2) hisR ?_
  intro p e s m args below meth c s₁ Bd hml0 hP hK
  obtain ⟨rfl, hZ, hh⟩ := hP
  have hx := Bd.exec
  have hby := Bd.bytes
  have hml : c.maxLocals = 1 := hml0
  have hown : s.vm.findClass "java/lang/Enum" = some m.cls := findClass_of_methodNamed Bd.named
  have hnm := (name_of_methodNamed Bd.named Bd.method).1
  have X0 : Stand p l e ({ frames := 0, cells := 0, slots := 0, locals := 0 } : Room) s m #[xr u3] below meth c s₁ [] 0 0 := Stand.of_body Bd
  have e0 : s₁.heap = h0 := by rw [← hh, Bd.state]; rfl
  have N0 := Fr.nil n0
  have pre0 : ∀ t, Steps p.tables e below (s₁.setTop (mkF m 0 #[vr u3] [])) t → Steps p.tables e below (s₁.setTop (entryFrame m #[xr u3] 1)) t := fun t st => castTop (ef_own_c3_ordinal m u0 u1 u2 u3 u4 u5 u6) st
  obtain ⟨T1, X1, e1, st1⟩ := getF X0 hx hZ hown (host := "") (Or.inl (ww hw 48 rfl)) Via.refl e0 ((own_F_u3_ordinal G).ext O0.2) (g := (mkF m 1 #[vr u3] [xr u3])) rfl rfl (hb hby d5_1)
  obtain ⟨fs, hr, hrun, hended, hW, hsame⟩ := X1.leave (v := some (xi (2 : Int32))) (fun h => by rw [Bd.returns] at h; cases h)
  refine ⟨_, _, pre0 _ ?_, hrun, hended, _, _, rfl, ?_, ⟨_, rfl⟩, hW, hsame.mono (by decide) (by decide)⟩
  · show own_S p e below s₁ (mkF m 0 #[vr u3] []) _
    refine XS.aloadN X0.here hx rfl (hb hby d5_0) rfl rfl ?_
    show own_S p e below s₁ (mkF m 1 #[vr u3] [xr u3]) _
    refine st1 _ ?_
    show own_S p e below T1 (mkF m 4 #[vr u3] [xi (2 : Int32)]) _
    exact retI X1 hx Bd.returns (hb hby d5_4) hr
  · exact ⟨rfl, N0, e1⟩
theorem ef_own_add2 (m : MethodId) (u0 u1 u2 u3 u4 u5 u6 : Addr) (a : Addr) (b : Addr) (k : ClassId) (c0 : Int64) (c1 : Int64) (c3 : Int64) (c4 : Int64) (c5 : Int64) (q : Int64) : entryFrame m #[xr a, xr u3, xj q] 4 = (mkF m 0 #[vr a, vr u3, vj q, .second] []) := by first | (simp [entryFrame, mkF, argsToLocals, Value.category]; done) | rfl
set_option maxRecDepth 65536 in
set_option maxHeartbeats 40000000 in
theorem own_add2 (l : Launch) (Z : State) (a0 : Array Value) (hw : ∀ d ∈ tables_1, d.before a0 Z = true) (u0 u1 u2 u3 u4 u5 u6 : Addr) (G : own_St Z u0 u1 u2 u3 u4 u5 u6) (a : Addr) (b : Addr) (k : ClassId) (c0 : Int64) (c1 : Int64) (c3 : Int64) (c4 : Int64) (c5 : Int64) (q : Int64) (as0 : ifCond.holds .ge (lcmpW q (0 : Int64)) = true) (h0 : Heap) (n0 : Nat) (O0 : Old Z n0 h0) (gL : own_LS Z h0 n0 a b k c0 c1 (0 : Int64) c3 c4 c5) : own_Met l Z Y5 prog_46_method_2_code 4 none ({ frames := 1, cells := 0, slots := 0, locals := 19 } : Room) #[xr a, xr u3, xj q] h0 (own_QA Z h0 n0 a b k c0 c1 q c3 c4 c5) := by
  intro ws
  refine MetFree.of_bodySF (plainFor_of_name pn1) hisR ?_
  intro p e s m args below meth c s₁ Bd hml0 hP hK
  obtain ⟨rfl, hZ, hh⟩ := hP
  have hx := Bd.exec
  have hby := Bd.bytes
  have hml : c.maxLocals = 4 := hml0
  have hown : s.vm.findClass "com/example/stackwright/stackwright/engine/ManaPool" = some m.cls := findClass_of_methodNamed Bd.named
  have hnm := (name_of_methodNamed Bd.named Bd.method).1
  have X0 : Stand p l e ({ frames := 1, cells := 0, slots := 0, locals := 19 } : Room) s m #[xr a, xr u3, xj q] below meth c s₁ [] 0 0 := Stand.of_body Bd
  have e0 : s₁.heap = h0 := by rw [← hh, Bd.state]; rfl
  have N0 := Fr.nil n0
  have pre0 : ∀ t, Steps p.tables e below (s₁.setTop (mkF m 0 #[vr a, vr u3, vj q, .second] [])) t → Steps p.tables e below (s₁.setTop (entryFrame m #[xr a, xr u3, xj q] 4)) t := fun t st => castTop (ef_own_add2 m u0 u1 u2 u3 u4 u5 u6 a b k c0 c1 c3 c4 c5 q) st
  obtain ⟨EA, FA, VA, ne_a_b, g_a, g_b⟩ := gL
  obtain ⟨T1, X1, e1, st1⟩ := getF X0 hx hZ hown (host := "") (Or.inl (ww hw 33 rfl)) Via.refl e0 FA (g := (mkF m 21 #[vr a, vr u3, vj q, .second] [xr a])) rfl rfl (hb hby d4_21)
  obtain ⟨cq2, kq2, qa2, qb2, qc2⟩ := isOf hZ e1 ((own_X_u3 G).ext O0.2)
  obtain ⟨_, _, ⟨T2, L2, k2, n2⟩, -, X2, ⟨Lc2, hQ2, l2, y2, z2⟩, st2⟩ := X1.virtualBackUp hx (x := Y3) (y := Y2) hown (mvT hZ (ww hw 41 rfl)) (mvT hZ (ww hw 42 rfl)) (mvT hZ (ww hw 43 rfl)) (by decide) (mvT hZ (ww hw 45 rfl)) (mvT hZ (ww hw 44 rfl)) (backOf (W := 1) (own_c3_ordinal l Z a0 hw u0 u1 u2 u3 u4 u5 u6 G h0 n0 O0 []) hZ (ww hw 47 rfl) (ww hw 46 rfl) (by decide) (by decide)) qa2 qc2 (g := (mkF m 25 #[vr a, vr u3, vj q, .second] [xr u3, xr b])) rfl (by rw [hml]; rfl) (Steps.refl _) (argsL := []) (rest := [xr b]) (lenOf pd1 rfl) rfl (by show 2 * 0 + _ ≤ _; exact Nat.le_of_eq rfl) (hb hby d4_25) (fun _ _ => ⟨rfl, e1, (by decide : 0 + 0 ≤ _), (by decide : 0 + 0 ≤ _)⟩)
  dsimp only [Pt.U, Pt.locs, Pt.cells, Pt.slots] at X2 l2 y2 z2 st2 hQ2
  subst l2 y2 z2
  obtain ⟨rfl, Nq2, e2⟩ := hQ2
  have N2 := Fr.app N0 Nq2
  obtain ⟨T3, X3, e3, st3⟩ := getF X2 hx hZ hown (host := "") (Or.inl (ww hw 33 rfl)) Via.refl e2 FA (g := (mkF m 29 #[vr a, vr u3, vj q, .second] [xr a, xi (2 : Int32), xr b])) rfl rfl (hb hby d4_29)
  obtain ⟨cq4, kq4, qa4, qb4, qc4⟩ := isOf hZ e3 ((own_X_u3 G).ext O0.2)
  obtain ⟨_, _, ⟨T4, L4, k4, n4⟩, -, X4, ⟨Lc4, hQ4, l4, y4, z4⟩, st4⟩ := X3.virtualBackUp hx (x := Y3) (y := Y2) hown (mvT hZ (ww hw 41 rfl)) (mvT hZ (ww hw 42 rfl)) (mvT hZ (ww hw 43 rfl)) (by decide) (mvT hZ (ww hw 45 rfl)) (mvT hZ (ww hw 44 rfl)) (backOf (W := 3) (own_c3_ordinal l Z a0 hw u0 u1 u2 u3 u4 u5 u6 G h0 n0 O0 []) hZ (ww hw 47 rfl) (ww hw 46 rfl) (by decide) (by decide)) qa4 qc4 (g := (mkF m 33 #[vr a, vr u3, vj q, .second] [xr u3, xr b, xi (2 : Int32), xr b])) rfl (by rw [hml]; rfl) (Steps.refl _) (argsL := []) (rest := [xr b, xi (2 : Int32), xr b]) (lenOf pd1 rfl) rfl (by show 2 * 0 + _ ≤ _; exact Nat.le_of_eq rfl) (hb hby d4_33) (fun _ _ => ⟨rfl, e3, (by decide : 0 + 0 ≤ _), (by decide : 0 + 0 ≤ _)⟩)
  dsimp only [Pt.U, Pt.locs, Pt.cells, Pt.slots] at X4 l4 y4 z4 st4 hQ4
  subst l4 y4 z4
  obtain ⟨rfl, Nq4, e4⟩ := hQ4
  have N4 := Fr.app N2 Nq4
  obtain ⟨cl5, Ar5, q5, S5, N5_, H5, G5⟩ := id VA
  have hin5 : ¬ ((2 : Int32) < 0 ∨ cl5.slots.size ≤ ((2 : Int32)).toNatClampNeg) := inb_of S5 ⟨by decide, by decide⟩
  have hat5 : cl5.slots[((2 : Int32)).toNatClampNeg]? = some (xj (0 : Int64)) := Has.at H5 hin5 rfl
  obtain ⟨_, _, ⟨T6, L6, k6, n6⟩, -, X6, ⟨Lc6, hQ6, l6, y6, z6⟩, st6⟩ := Jvm.LawKit.callS X4 hx (y := Y4) hown (mvT hZ (ww hw 50 rfl)) (mvT hZ (ww hw 51 rfl)) (mvT hZ (ww hw 52 rfl)) (mvT hZ (ww hw 53 rfl)) (by decide) (backOf (W := 2) (own_c1_addExact l Z a0 hw u0 u1 u2 u3 u4 u5 u6 G q h0 n0 O0 []) hZ (ww hw 53 rfl) (ww hw 52 rfl) (by decide) (by decide)) (g := (mkF m 38 #[vr a, vr u3, vj q, .second] [xj q, xj (0 : Int64), xi (2 : Int32), xr b])) rfl (by rw [hml]; rfl) (argsL := [xj (0 : Int64), xj q]) (rest := [xi (2 : Int32), xr b]) (lenOf pd2 rfl) rfl (by show 2 * 0 + _ ≤ _; exact Nat.le_of_eq rfl) (hb hby d4_38) (fun _ _ => ⟨rfl, e4, (by decide : 0 + 0 ≤ _), (by decide : 0 + 0 ≤ _)⟩)
  dsimp only [Pt.U, Pt.locs, Pt.cells, Pt.slots] at X6 l6 y6 z6 st6 hQ6
  subst l6 y6 z6
  obtain ⟨rfl, Nq6, e6⟩ := hQ6
  have N6 := Fr.app N4 Nq6
  obtain ⟨cl7, Ar7, q7, S7, N7_, H7, G7⟩ := id VA
  have hin7 : ¬ ((2 : Int32) < 0 ∨ cl7.slots.size ≤ ((2 : Int32)).toNatClampNeg) := inb_of S7 ⟨by decide, by decide⟩
  obtain ⟨T8, h8, X8, e8, W8, st8⟩ := stJ X6 hx hZ e6 Ar7 (j := (2 : Int32)) hin7 (g := (mkF m 41 #[vr a, vr u3, vj q, .second] [xj q, xi (2 : Int32), xr b])) rfl rfl (hb hby d4_41)
  have V_b_8 : Arv Z h8 b k .long (6 : Int32) [xj c0, xj c1, xj q, xj c3, xj c4, xj c5] (.long (0 : Int64)) := Arv.set Ar7 q7 S7 N7_ H7 G7 rfl W8 2 rfl (Nat.le_of_ble_eq_true rfl)
  have O8 : Old Z n0 h8 := O0.wr W8 g_b
  have Kp8 : Keep h0 h8 [b] := (Keep.refl h0 [b]).wr W8 (Or.inl (by simp))
  have X_a_8 := EA.wr W8
  have F_a_amounts_8 := FA.other W8 (Or.inl ne_a_b)
  have N8 := Fr.snoc X8 N6 g_b
  obtain ⟨fs, hr, hrun, hended, hW, hsame⟩ := X8.leave (v := none) (fun _ => rfl)
  refine ⟨_, _, pre0 _ ?_, hrun, hended, _, _, rfl, ?_, ⟨_, rfl⟩, hW, hsame.mono (by decide) (by decide)⟩
  · show own_S p e below s₁ (mkF m 0 #[vr a, vr u3, vj q, .second] []) _
    refine XS.lloadN X0.here hx rfl (hb hby d4_0) rfl ?_
    show own_S p e below s₁ (mkF m 1 #[vr a, vr u3, vj q, .second] [xj q]) _
    refine XS.lconst X0.here hx rfl (hb hby d4_1) ?_
    show own_S p e below s₁ (mkF m 2 #[vr a, vr u3, vj q, .second] [xj (0 : Int64), xj q]) _
    refine XS.lcmp X0.here hx rfl (hb hby d4_2) rfl ?_
    show own_S p e below s₁ (mkF m 3 #[vr a, vr u3, vj q, .second] [xi (lcmpW q (0 : Int64))]) _
    show own_S p e below s₁ (mkF m 3 #[vr a, vr u3, vj q, .second] [xi (lcmpW q (0 : Int64))]) _
    refine XS.ifYes X0.here hx rfl (pc0 := 3) (pc' := 20) rfl (hb hby d4_3) rfl as0 (by decide) (by decide) ?_
    show own_S p e below s₁ (mkF m 20 #[vr a, vr u3, vj q, .second] []) _
    refine XS.aloadN X0.here hx rfl (hb hby d4_20) rfl rfl ?_
    show own_S p e below s₁ (mkF m 21 #[vr a, vr u3, vj q, .second] [xr a]) _
    refine st1 _ ?_
    show own_S p e below T1 (mkF m 24 #[vr a, vr u3, vj q, .second] [xr b]) _
    refine XS.aloadN X1.here hx rfl (hb hby d4_24) rfl rfl ?_
    show own_S p e below T1 (mkF m 25 #[vr a, vr u3, vj q, .second] [xr u3, xr b]) _
    refine st2.trans ?_
    show own_S p e below T2 (mkF m 28 #[vr a, vr u3, vj q, .second] [xi (2 : Int32), xr b]) _
    refine XS.aloadN X2.here hx rfl (hb hby d4_28) rfl rfl ?_
    show own_S p e below T2 (mkF m 29 #[vr a, vr u3, vj q, .second] [xr a, xi (2 : Int32), xr b]) _
    refine st3 _ ?_
    show own_S p e below T3 (mkF m 32 #[vr a, vr u3, vj q, .second] [xr b, xi (2 : Int32), xr b]) _
    refine XS.aloadN X3.here hx rfl (hb hby d4_32) rfl rfl ?_
    show own_S p e below T3 (mkF m 33 #[vr a, vr u3, vj q, .second] [xr u3, xr b, xi (2 : Int32), xr b]) _
    refine st4.trans ?_
    show own_S p e below T4 (mkF m 36 #[vr a, vr u3, vj q, .second] [xi (2 : Int32), xr b, xi (2 : Int32), xr b]) _
    refine X4.laload hx (j := (2 : Int32)) (v := (xj (0 : Int64))) (by rw [e4]; exact Ar5.1) (State.isArrayOf_alike hZ.alike Ar5.2.1) Ar5.2.2 hin5 hat5 (g := (mkF m 36 #[vr a, vr u3, vj q, .second] [xi (2 : Int32), xr b, xi (2 : Int32), xr b])) rfl rfl (hb hby d4_36) _ ?_
    show own_S p e below T4 (mkF m 37 #[vr a, vr u3, vj q, .second] [xj (0 : Int64), xi (2 : Int32), xr b]) _
    refine XS.lloadN X4.here hx rfl (hb hby d4_37) rfl ?_
    show own_S p e below T4 (mkF m 38 #[vr a, vr u3, vj q, .second] [xj q, xj (0 : Int64), xi (2 : Int32), xr b]) _
    refine st6 _ ?_
    show own_S p e below T6 (mkF m 41 #[vr a, vr u3, vj q, .second] [xj q, xi (2 : Int32), xr b]) _
    refine st8 _ ?_
    show own_S p e below T8 (mkF m 42 #[vr a, vr u3, vj q, .second] []) _
    exact X8.returnOut hx Bd.returns (hb hby d4_42) hr
  · show (own_QA Z h0 n0 a b k c0 c1 q c3 c4 c5) _ T8.heap _
    rw [e8]
    exact ⟨rfl, N8, Kp8, ⟨X_a_8, F_a_amounts_8, V_b_8, ne_a_b, g_a, g_b⟩⟩
theorem ef_own_c4_ordinal (m : MethodId) (u0 u1 u2 u3 u4 u5 u6 : Addr) : entryFrame m #[xr u4] 1 = (mkF m 0 #[vr u4] []) := by first | (simp [entryFrame, mkF, argsToLocals, Value.category]; done) | rfl
set_option maxRecDepth 65536 in
set_option maxHeartbeats 40000000 in
theorem own_c4_ordinal (l : Launch) (Z : State) (a0 : Array Value) (hw : ∀ d ∈ tables_1, d.before a0 Z = true) (u0 u1 u2 u3 u4 u5 u6 : Addr) (G : own_St Z u0 u1 u2 u3 u4 u5 u6) (h0 : Heap) (n0 : Nat) (O0 : Old Z n0 h0) : own_Met l Z Y2 jdk_37_method_2_code 1 (some .int) ({ frames := 0, cells := 0, slots := 0, locals := 0 } : Room) #[xr u4] h0 (own_QR (some (xi (3 : Int32))) h0 n0) := by
  intro ws
  refine MetFree.of_bodySF (plainFor_of_name pn2) hisR ?_
  intro p e s m args below meth c s₁ Bd hml0 hP hK
  obtain ⟨rfl, hZ, hh⟩ := hP
  have hx := Bd.exec
  have hby := Bd.bytes
  have hml : c.maxLocals = 1 := hml0
  have hown : s.vm.findClass "java/lang/Enum" = some m.cls := findClass_of_methodNamed Bd.named
  have hnm := (name_of_methodNamed Bd.named Bd.method).1
  have X0 : Stand p l e ({ frames := 0, cells := 0, slots := 0, locals := 0 } : Room) s m #[xr u4] below meth c s₁ [] 0 0 := Stand.of_body Bd
  have e0 : s₁.heap = h0 := by rw [← hh, Bd.state]; rfl
  have N0 := Fr.nil n0
  have pre0 : ∀ t, Steps p.tables e below (s₁.setTop (mkF m 0 #[vr u4] [])) t → Steps p.tables e below (s₁.setTop (entryFrame m #[xr u4] 1)) t := fun t st => castTop (ef_own_c4_ordinal m u0 u1 u2 u3 u4 u5 u6) st
  obtain ⟨T1, X1, e1, st1⟩ := getF X0 hx hZ hown (host := "") (Or.inl (ww hw 48 rfl)) Via.refl e0 ((own_F_u4_ordinal G).ext O0.2) (g := (mkF m 1 #[vr u4] [xr u4])) rfl rfl (hb hby d5_1)
  obtain ⟨fs, hr, hrun, hended, hW, hsame⟩ := X1.leave (v := some (xi (3 : Int32))) (fun h => by rw [Bd.returns] at h; cases h)
  refine ⟨_, _, pre0 _ ?_, hrun, hended, _, _, rfl, ?_, ⟨_, rfl⟩, hW, hsame.mono (by decide) (by decide)⟩
  · show own_S p e below s₁ (mkF m 0 #[vr u4] []) _
    refine XS.aloadN X0.here hx rfl (hb hby d5_0) rfl rfl ?_
    show own_S p e below s₁ (mkF m 1 #[vr u4] [xr u4]) _
    refine st1 _ ?_
    show own_S p e below T1 (mkF m 4 #[vr u4] [xi (3 : Int32)]) _
    exact retI X1 hx Bd.returns (hb hby d5_4) hr
  · exact ⟨rfl, N0, e1⟩
theorem ef_own_add3 (m : MethodId) (u0 u1 u2 u3 u4 u5 u6 : Addr) (a : Addr) (b : Addr) (k : ClassId) (c0 : Int64) (c1 : Int64) (c2 : Int64) (c4 : Int64) (c5 : Int64) (q : Int64) : entryFrame m #[xr a, xr u4, xj q] 4 = (mkF m 0 #[vr a, vr u4, vj q, .second] []) := by first | (simp [entryFrame, mkF, argsToLocals, Value.category]; done) | rfl
set_option maxRecDepth 65536 in
set_option maxHeartbeats 40000000 in
theorem own_add3 (l : Launch) (Z : State) (a0 : Array Value) (hw : ∀ d ∈ tables_1, d.before a0 Z = true) (u0 u1 u2 u3 u4 u5 u6 : Addr) (G : own_St Z u0 u1 u2 u3 u4 u5 u6) (a : Addr) (b : Addr) (k : ClassId) (c0 : Int64) (c1 : Int64) (c2 : Int64) (c4 : Int64) (c5 : Int64) (q : Int64) (as0 : ifCond.holds .ge (lcmpW q (0 : Int64)) = true) (h0 : Heap) (n0 : Nat) (O0 : Old Z n0 h0) (gL : own_LS Z h0 n0 a b k c0 c1 c2 (0 : Int64) c4 c5) : own_Met l Z Y5 prog_46_method_2_code 4 none ({ frames := 1, cells := 0, slots := 0, locals := 19 } : Room) #[xr a, xr u4, xj q] h0 (own_QA Z h0 n0 a b k c0 c1 c2 q c4 c5) := by
  intro ws
  refine MetFree.of_bodySF (plainFor_of_name pn1) hisR ?_
  intro p e s m args below meth c s₁ Bd hml0 hP hK
  obtain ⟨rfl, hZ, hh⟩ := hP
  have hx := Bd.exec
  have hby := Bd.bytes
  have hml : c.maxLocals = 4 := hml0
  have hown : s.vm.findClass "com/example/stackwright/stackwright/engine/ManaPool" = some m.cls := findClass_of_methodNamed Bd.named
  have hnm := (name_of_methodNamed Bd.named Bd.method).1
  have X0 : Stand p l e ({ frames := 1, cells := 0, slots := 0, locals := 19 } : Room) s m #[xr a, xr u4, xj q] below meth c s₁ [] 0 0 := Stand.of_body Bd
  have e0 : s₁.heap = h0 := by rw [← hh, Bd.state]; rfl
  have N0 := Fr.nil n0
  have pre0 : ∀ t, Steps p.tables e below (s₁.setTop (mkF m 0 #[vr a, vr u4, vj q, .second] [])) t → Steps p.tables e below (s₁.setTop (entryFrame m #[xr a, xr u4, xj q] 4)) t := fun t st => castTop (ef_own_add3 m u0 u1 u2 u3 u4 u5 u6 a b k c0 c1 c2 c4 c5 q) st
  obtain ⟨EA, FA, VA, ne_a_b, g_a, g_b⟩ := gL
  obtain ⟨T1, X1, e1, st1⟩ := getF X0 hx hZ hown (host := "") (Or.inl (ww hw 33 rfl)) Via.refl e0 FA (g := (mkF m 21 #[vr a, vr u4, vj q, .second] [xr a])) rfl rfl (hb hby d4_21)
  obtain ⟨cq2, kq2, qa2, qb2, qc2⟩ := isOf hZ e1 ((own_X_u4 G).ext O0.2)
  obtain ⟨_, _, ⟨T2, L2, k2, n2⟩, -, X2, ⟨Lc2, hQ2, l2, y2, z2⟩, st2⟩ := X1.virtualBackUp hx (x := Y3) (y := Y2) hown (mvT hZ (ww hw 41 rfl)) (mvT hZ (ww hw 42 rfl)) (mvT hZ (ww hw 43 rfl)) (by decide) (mvT hZ (ww hw 45 rfl)) (mvT hZ (ww hw 44 rfl)) (backOf (W := 1) (own_c4_ordinal l Z a0 hw u0 u1 u2 u3 u4 u5 u6 G h0 n0 O0 []) hZ (ww hw 47 rfl) (ww hw 46 rfl) (by decide) (by decide)) qa2 qc2 (g := (mkF m 25 #[vr a, vr u4, vj q, .second] [xr u4, xr b])) rfl (by rw [hml]; rfl) (Steps.refl _) (argsL := []) (rest := [xr b]) (lenOf pd1 rfl) rfl (by show 2 * 0 + _ ≤ _; exact Nat.le_of_eq rfl) (hb hby d4_25) (fun _ _ => ⟨rfl, e1, (by decide : 0 + 0 ≤ _), (by decide : 0 + 0 ≤ _)⟩)
  dsimp only [Pt.U, Pt.locs, Pt.cells, Pt.slots] at X2 l2 y2 z2 st2 hQ2
  subst l2 y2 z2
  obtain ⟨rfl, Nq2, e2⟩ := hQ2
  have N2 := Fr.app N0 Nq2
  obtain ⟨T3, X3, e3, st3⟩ := getF X2 hx hZ hown (host := "") (Or.inl (ww hw 33 rfl)) Via.refl e2 FA (g := (mkF m 29 #[vr a, vr u4, vj q, .second] [xr a, xi (3 : Int32), xr b])) rfl rfl (hb hby d4_29)
  obtain ⟨cq4, kq4, qa4, qb4, qc4⟩ := isOf hZ e3 ((own_X_u4 G).ext O0.2)
  obtain ⟨_, _, ⟨T4, L4, k4, n4⟩, -, X4, ⟨Lc4, hQ4, l4, y4, z4⟩, st4⟩ := X3.virtualBackUp hx (x := Y3) (y := Y2) hown (mvT hZ (ww hw 41 rfl)) (mvT hZ (ww hw 42 rfl)) (mvT hZ (ww hw 43 rfl)) (by decide) (mvT hZ (ww hw 45 rfl)) (mvT hZ (ww hw 44 rfl)) (backOf (W := 3) (own_c4_ordinal l Z a0 hw u0 u1 u2 u3 u4 u5 u6 G h0 n0 O0 []) hZ (ww hw 47 rfl) (ww hw 46 rfl) (by decide) (by decide)) qa4 qc4 (g := (mkF m 33 #[vr a, vr u4, vj q, .second] [xr u4, xr b, xi (3 : Int32), xr b])) rfl (by rw [hml]; rfl) (Steps.refl _) (argsL := []) (rest := [xr b, xi (3 : Int32), xr b]) (lenOf pd1 rfl) rfl (by show 2 * 0 + _ ≤ _; exact Nat.le_of_eq rfl) (hb hby d4_33) (fun _ _ => ⟨rfl, e3, (by decide : 0 + 0 ≤ _), (by decide : 0 + 0 ≤ _)⟩)
  dsimp only [Pt.U, Pt.locs, Pt.cells, Pt.slots] at X4 l4 y4 z4 st4 hQ4
  subst l4 y4 z4
  obtain ⟨rfl, Nq4, e4⟩ := hQ4
  have N4 := Fr.app N2 Nq4
  obtain ⟨cl5, Ar5, q5, S5, N5_, H5, G5⟩ := id VA
  have hin5 : ¬ ((3 : Int32) < 0 ∨ cl5.slots.size ≤ ((3 : Int32)).toNatClampNeg) := inb_of S5 ⟨by decide, by decide⟩
  have hat5 : cl5.slots[((3 : Int32)).toNatClampNeg]? = some (xj (0 : Int64)) := Has.at H5 hin5 rfl
  obtain ⟨_, _, ⟨T6, L6, k6, n6⟩, -, X6, ⟨Lc6, hQ6, l6, y6, z6⟩, st6⟩ := Jvm.LawKit.callS X4 hx (y := Y4) hown (mvT hZ (ww hw 50 rfl)) (mvT hZ (ww hw 51 rfl)) (mvT hZ (ww hw 52 rfl)) (mvT hZ (ww hw 53 rfl)) (by decide) (backOf (W := 2) (own_c1_addExact l Z a0 hw u0 u1 u2 u3 u4 u5 u6 G q h0 n0 O0 []) hZ (ww hw 53 rfl) (ww hw 52 rfl) (by decide) (by decide)) (g := (mkF m 38 #[vr a, vr u4, vj q, .second] [xj q, xj (0 : Int64), xi (3 : Int32), xr b])) rfl (by rw [hml]; rfl) (argsL := [xj (0 : Int64), xj q]) (rest := [xi (3 : Int32), xr b]) (lenOf pd2 rfl) rfl (by show 2 * 0 + _ ≤ _; exact Nat.le_of_eq rfl) (hb hby d4_38) (fun _ _ => ⟨rfl, e4, (by decide : 0 + 0 ≤ _), (by decide : 0 + 0 ≤ _)⟩)
  dsimp only [Pt.U, Pt.locs, Pt.cells, Pt.slots] at X6 l6 y6 z6 st6 hQ6
  subst l6 y6 z6
  obtain ⟨rfl, Nq6, e6⟩ := hQ6
  have N6 := Fr.app N4 Nq6
  obtain ⟨cl7, Ar7, q7, S7, N7_, H7, G7⟩ := id VA
  have hin7 : ¬ ((3 : Int32) < 0 ∨ cl7.slots.size ≤ ((3 : Int32)).toNatClampNeg) := inb_of S7 ⟨by decide, by decide⟩
  obtain ⟨T8, h8, X8, e8, W8, st8⟩ := stJ X6 hx hZ e6 Ar7 (j := (3 : Int32)) hin7 (g := (mkF m 41 #[vr a, vr u4, vj q, .second] [xj q, xi (3 : Int32), xr b])) rfl rfl (hb hby d4_41)
  have V_b_8 : Arv Z h8 b k .long (6 : Int32) [xj c0, xj c1, xj c2, xj q, xj c4, xj c5] (.long (0 : Int64)) := Arv.set Ar7 q7 S7 N7_ H7 G7 rfl W8 3 rfl (Nat.le_of_ble_eq_true rfl)
  have O8 : Old Z n0 h8 := O0.wr W8 g_b
  have Kp8 : Keep h0 h8 [b] := (Keep.refl h0 [b]).wr W8 (Or.inl (by simp))
  have X_a_8 := EA.wr W8
  have F_a_amounts_8 := FA.other W8 (Or.inl ne_a_b)
  have N8 := Fr.snoc X8 N6 g_b
  obtain ⟨fs, hr, hrun, hended, hW, hsame⟩ := X8.leave (v := none) (fun _ => rfl)
  refine ⟨_, _, pre0 _ ?_, hrun, hended, _, _, rfl, ?_, ⟨_, rfl⟩, hW, hsame.mono (by decide) (by decide)⟩
  · show own_S p e below s₁ (mkF m 0 #[vr a, vr u4, vj q, .second] []) _
    refine XS.lloadN X0.here hx rfl (hb hby d4_0) rfl ?_
    show own_S p e below s₁ (mkF m 1 #[vr a, vr u4, vj q, .second] [xj q]) _
    refine XS.lconst X0.here hx rfl (hb hby d4_1) ?_
    show own_S p e below s₁ (mkF m 2 #[vr a, vr u4, vj q, .second] [xj (0 : Int64), xj q]) _
    refine XS.lcmp X0.here hx rfl (hb hby d4_2) rfl ?_
    show own_S p e below s₁ (mkF m 3 #[vr a, vr u4, vj q, .second] [xi (lcmpW q (0 : Int64))]) _
    show own_S p e below s₁ (mkF m 3 #[vr a, vr u4, vj q, .second] [xi (lcmpW q (0 : Int64))]) _
    refine XS.ifYes X0.here hx rfl (pc0 := 3) (pc' := 20) rfl (hb hby d4_3) rfl as0 (by decide) (by decide) ?_
    show own_S p e below s₁ (mkF m 20 #[vr a, vr u4, vj q, .second] []) _
    refine XS.aloadN X0.here hx rfl (hb hby d4_20) rfl rfl ?_
    show own_S p e below s₁ (mkF m 21 #[vr a, vr u4, vj q, .second] [xr a]) _
    refine st1 _ ?_
    show own_S p e below T1 (mkF m 24 #[vr a, vr u4, vj q, .second] [xr b]) _
    refine XS.aloadN X1.here hx rfl (hb hby d4_24) rfl rfl ?_
    show own_S p e below T1 (mkF m 25 #[vr a, vr u4, vj q, .second] [xr u4, xr b]) _
    refine st2.trans ?_
    show own_S p e below T2 (mkF m 28 #[vr a, vr u4, vj q, .second] [xi (3 : Int32), xr b]) _
    refine XS.aloadN X2.here hx rfl (hb hby d4_28) rfl rfl ?_
    show own_S p e below T2 (mkF m 29 #[vr a, vr u4, vj q, .second] [xr a, xi (3 : Int32), xr b]) _
    refine st3 _ ?_
    show own_S p e below T3 (mkF m 32 #[vr a, vr u4, vj q, .second] [xr b, xi (3 : Int32), xr b]) _
    refine XS.aloadN X3.here hx rfl (hb hby d4_32) rfl rfl ?_
    show own_S p e below T3 (mkF m 33 #[vr a, vr u4, vj q, .second] [xr u4, xr b, xi (3 : Int32), xr b]) _
    refine st4.trans ?_
    show own_S p e below T4 (mkF m 36 #[vr a, vr u4, vj q, .second] [xi (3 : Int32), xr b, xi (3 : Int32), xr b]) _
    refine X4.laload hx (j := (3 : Int32)) (v := (xj (0 : Int64))) (by rw [e4]; exact Ar5.1) (State.isArrayOf_alike hZ.alike Ar5.2.1) Ar5.2.2 hin5 hat5 (g := (mkF m 36 #[vr a, vr u4, vj q, .second] [xi (3 : Int32), xr b, xi (3 : Int32), xr b])) rfl rfl (hb hby d4_36) _ ?_
    show own_S p e below T4 (mkF m 37 #[vr a, vr u4, vj q, .second] [xj (0 : Int64), xi (3 : Int32), xr b]) _
    refine XS.lloadN X4.here hx rfl (hb hby d4_37) rfl ?_
    show own_S p e below T4 (mkF m 38 #[vr a, vr u4, vj q, .second] [xj q, xj (0 : Int64), xi (3 : Int32), xr b]) _
    refine st6 _ ?_
    show own_S p e below T6 (mkF m 41 #[vr a, vr u4, vj q, .second] [xj q, xi (3 : Int32), xr b]) _
    refine st8 _ ?_
    show own_S p e below T8 (mkF m 42 #[vr a, vr u4, vj q, .second] []) _
    exact X8.returnOut hx Bd.returns (hb hby d4_42) hr
  · show (own_QA Z h0 n0 a b k c0 c1 c2 q c4 c5) _ T8.heap _
    rw [e8]
    exact ⟨rfl, N8, Kp8, ⟨X_a_8, F_a_amounts_8, V_b_8, ne_a_b, g_a, g_b⟩⟩
theorem ef_own_c5_ordinal (m : MethodId) (u0 u1 u2 u3 u4 u5 u6 : Addr) : entryFrame m #[xr u5] 1 = (mkF m 0 #[vr u5] []) := by first | (simp [entryFrame, mkF, argsToLocals, Value.category]; done) | rfl
set_option maxRecDepth 65536 in
set_option maxHeartbeats 40000000 in
theorem own_c5_ordinal (l : Launch) (Z : State) (a0 : Array Value) (hw : ∀ d ∈ tables_1, d.before a0 Z = true) (u0 u1 u2 u3 u4 u5 u6 : Addr) (G : own_St Z u0 u1 u2 u3 u4 u5 u6) (h0 : Heap) (n0 : Nat) (O0 : Old Z n0 h0) : own_Met l Z Y2 jdk_37_method_2_code 1 (some .int) ({ frames := 0, cells := 0, slots := 0, locals := 0 } : Room) #[xr u5] h0 (own_QR (some (xi (4 : Int32))) h0 n0) := by
  intro ws
  refine MetFree.of_bodySF (plainFor_of_name pn2) hisR ?_
  intro p e s m args below meth c s₁ Bd hml0 hP hK
  obtain ⟨rfl, hZ, hh⟩ := hP
  have hx := Bd.exec
  have hby := Bd.bytes
  have hml : c.maxLocals = 1 := hml0
  have hown : s.vm.findClass "java/lang/Enum" = some m.cls := findClass_of_methodNamed Bd.named
  have hnm := (name_of_methodNamed Bd.named Bd.method).1
  have X0 : Stand p l e ({ frames := 0, cells := 0, slots := 0, locals := 0 } : Room) s m #[xr u5] below meth c s₁ [] 0 0 := Stand.of_body Bd
  have e0 : s₁.heap = h0 := by rw [← hh, Bd.state]; rfl
  have N0 := Fr.nil n0
  have pre0 : ∀ t, Steps p.tables e below (s₁.setTop (mkF m 0 #[vr u5] [])) t → Steps p.tables e below (s₁.setTop (entryFrame m #[xr u5] 1)) t := fun t st => castTop (ef_own_c5_ordinal m u0 u1 u2 u3 u4 u5 u6) st
  obtain ⟨T1, X1, e1, st1⟩ := getF X0 hx hZ hown (host := "") (Or.inl (ww hw 48 rfl)) Via.refl e0 ((own_F_u5_ordinal G).ext O0.2) (g := (mkF m 1 #[vr u5] [xr u5])) rfl rfl (hb hby d5_1)
  obtain ⟨fs, hr, hrun, hended, hW, hsame⟩ := X1.leave (v := some (xi (4 : Int32))) (fun h => by rw [Bd.returns] at h; cases h)
  refine ⟨_, _, pre0 _ ?_, hrun, hended, _, _, rfl, ?_, ⟨_, rfl⟩, hW, hsame.mono (by decide) (by decide)⟩
  · show own_S p e below s₁ (mkF m 0 #[vr u5] []) _
    refine XS.aloadN X0.here hx rfl (hb hby d5_0) rfl rfl ?_
    show own_S p e below s₁ (mkF m 1 #[vr u5] [xr u5]) _
    refine st1 _ ?_
    show own_S p e below T1 (mkF m 4 #[vr u5] [xi (4 : Int32)]) _
    exact retI X1 hx Bd.returns (hb hby d5_4) hr
  · exact ⟨rfl, N0, e1⟩
theorem ef_own_add4 (m : MethodId) (u0 u1 u2 u3 u4 u5 u6 : Addr) (a : Addr) (b : Addr) (k : ClassId) (c0 : Int64) (c1 : Int64) (c2 : Int64) (c3 : Int64) (c5 : Int64) (q : Int64) : entryFrame m #[xr a, xr u5, xj q] 4 = (mkF m 0 #[vr a, vr u5, vj q, .second] []) := by first | (simp [entryFrame, mkF, argsToLocals, Value.category]; done) | rfl
set_option maxRecDepth 65536 in
set_option maxHeartbeats 40000000 in
theorem own_add4 (l : Launch) (Z : State) (a0 : Array Value) (hw : ∀ d ∈ tables_1, d.before a0 Z = true) (u0 u1 u2 u3 u4 u5 u6 : Addr) (G : own_St Z u0 u1 u2 u3 u4 u5 u6) (a : Addr) (b : Addr) (k : ClassId) (c0 : Int64) (c1 : Int64) (c2 : Int64) (c3 : Int64) (c5 : Int64) (q : Int64) (as0 : ifCond.holds .ge (lcmpW q (0 : Int64)) = true) (h0 : Heap) (n0 : Nat) (O0 : Old Z n0 h0) (gL : own_LS Z h0 n0 a b k c0 c1 c2 c3 (0 : Int64) c5) : own_Met l Z Y5 prog_46_method_2_code 4 none ({ frames := 1, cells := 0, slots := 0, locals := 19 } : Room) #[xr a, xr u5, xj q] h0 (own_QA Z h0 n0 a b k c0 c1 c2 c3 q c5) := by
  intro ws
  refine MetFree.of_bodySF (plainFor_of_name pn1) hisR ?_
  intro p e s m args below meth c s₁ Bd hml0 hP hK
  obtain ⟨rfl, hZ, hh⟩ := hP
  have hx := Bd.exec
  have hby := Bd.bytes
  have hml : c.maxLocals = 4 := hml0
  have hown : s.vm.findClass "com/example/stackwright/stackwright/engine/ManaPool" = some m.cls := findClass_of_methodNamed Bd.named
  have hnm := (name_of_methodNamed Bd.named Bd.method).1
  have X0 : Stand p l e ({ frames := 1, cells := 0, slots := 0, locals := 19 } : Room) s m #[xr a, xr u5, xj q] below meth c s₁ [] 0 0 := Stand.of_body Bd
  have e0 : s₁.heap = h0 := by rw [← hh, Bd.state]; rfl
  have N0 := Fr.nil n0
  have pre0 : ∀ t, Steps p.tables e below (s₁.setTop (mkF m 0 #[vr a, vr u5, vj q, .second] [])) t → Steps p.tables e below (s₁.setTop (entryFrame m #[xr a, xr u5, xj q] 4)) t := fun t st => castTop (ef_own_add4 m u0 u1 u2 u3 u4 u5 u6 a b k c0 c1 c2 c3 c5 q) st
  obtain ⟨EA, FA, VA, ne_a_b, g_a, g_b⟩ := gL
  obtain ⟨T1, X1, e1, st1⟩ := getF X0 hx hZ hown (host := "") (Or.inl (ww hw 33 rfl)) Via.refl e0 FA (g := (mkF m 21 #[vr a, vr u5, vj q, .second] [xr a])) rfl rfl (hb hby d4_21)
  obtain ⟨cq2, kq2, qa2, qb2, qc2⟩ := isOf hZ e1 ((own_X_u5 G).ext O0.2)
  obtain ⟨_, _, ⟨T2, L2, k2, n2⟩, -, X2, ⟨Lc2, hQ2, l2, y2, z2⟩, st2⟩ := X1.virtualBackUp hx (x := Y3) (y := Y2) hown (mvT hZ (ww hw 41 rfl)) (mvT hZ (ww hw 42 rfl)) (mvT hZ (ww hw 43 rfl)) (by decide) (mvT hZ (ww hw 45 rfl)) (mvT hZ (ww hw 44 rfl)) (backOf (W := 1) (own_c5_ordinal l Z a0 hw u0 u1 u2 u3 u4 u5 u6 G h0 n0 O0 []) hZ (ww hw 47 rfl) (ww hw 46 rfl) (by decide) (by decide)) qa2 qc2 (g := (mkF m 25 #[vr a, vr u5, vj q, .second] [xr u5, xr b])) rfl (by rw [hml]; rfl) (Steps.refl _) (argsL := []) (rest := [xr b]) (lenOf pd1 rfl) rfl (by show 2 * 0 + _ ≤ _; exact Nat.le_of_eq rfl) (hb hby d4_25) (fun _ _ => ⟨rfl, e1, (by decide : 0 + 0 ≤ _), (by decide : 0 + 0 ≤ _)⟩)
  dsimp only [Pt.U, Pt.locs, Pt.cells, Pt.slots] at X2 l2 y2 z2 st2 hQ2
  subst l2 y2 z2
  obtain ⟨rfl, Nq2, e2⟩ := hQ2
  have N2 := Fr.app N0 Nq2
  obtain ⟨T3, X3, e3, st3⟩ := getF X2 hx hZ hown (host := "") (Or.inl (ww hw 33 rfl)) Via.refl e2 FA (g := (mkF m 29 #[vr a, vr u5, vj q, .second] [xr a, xi (4 : Int32), xr b])) rfl rfl (hb hby d4_29)
  obtain ⟨cq4, kq4, qa4, qb4, qc4⟩ := isOf hZ e3 ((own_X_u5 G).ext O0.2)
  obtain ⟨_, _, ⟨T4, L4, k4, n4⟩, -, X4, ⟨Lc4, hQ4, l4, y4, z4⟩, st4⟩ := X3.virtualBackUp hx (x := Y3) (y := Y2) hown (mvT hZ (ww hw 41 rfl)) (mvT hZ (ww hw 42 rfl)) (mvT hZ (ww hw 43 rfl)) (by decide) (mvT hZ (ww hw 45 rfl)) (mvT hZ (ww hw 44 rfl)) (backOf (W := 3) (own_c5_ordinal l Z a0 hw u0 u1 u2 u3 u4 u5 u6 G h0 n0 O0 []) hZ (ww hw 47 rfl) (ww hw 46 rfl) (by decide) (by decide)) qa4 qc4 (g := (mkF m 33 #[vr a, vr u5, vj q, .second] [xr u5, xr b, xi (4 : Int32), xr b])) rfl (by rw [hml]; rfl) (Steps.refl _) (argsL := []) (rest := [xr b, xi (4 : Int32), xr b]) (lenOf pd1 rfl) rfl (by show 2 * 0 + _ ≤ _; exact Nat.le_of_eq rfl) (hb hby d4_33) (fun _ _ => ⟨rfl, e3, (by decide : 0 + 0 ≤ _), (by decide : 0 + 0 ≤ _)⟩)
  dsimp only [Pt.U, Pt.locs, Pt.cells, Pt.slots] at X4 l4 y4 z4 st4 hQ4
  subst l4 y4 z4
  obtain ⟨rfl, Nq4, e4⟩ := hQ4
  have N4 := Fr.app N2 Nq4
  obtain ⟨cl5, Ar5, q5, S5, N5_, H5, G5⟩ := id VA
  have hin5 : ¬ ((4 : Int32) < 0 ∨ cl5.slots.size ≤ ((4 : Int32)).toNatClampNeg) := inb_of S5 ⟨by decide, by decide⟩
  have hat5 : cl5.slots[((4 : Int32)).toNatClampNeg]? = some (xj (0 : Int64)) := Has.at H5 hin5 rfl
  obtain ⟨_, _, ⟨T6, L6, k6, n6⟩, -, X6, ⟨Lc6, hQ6, l6, y6, z6⟩, st6⟩ := Jvm.LawKit.callS X4 hx (y := Y4) hown (mvT hZ (ww hw 50 rfl)) (mvT hZ (ww hw 51 rfl)) (mvT hZ (ww hw 52 rfl)) (mvT hZ (ww hw 53 rfl)) (by decide) (backOf (W := 2) (own_c1_addExact l Z a0 hw u0 u1 u2 u3 u4 u5 u6 G q h0 n0 O0 []) hZ (ww hw 53 rfl) (ww hw 52 rfl) (by decide) (by decide)) (g := (mkF m 38 #[vr a, vr u5, vj q, .second] [xj q, xj (0 : Int64), xi (4 : Int32), xr b])) rfl (by rw [hml]; rfl) (argsL := [xj (0 : Int64), xj q]) (rest := [xi (4 : Int32), xr b]) (lenOf pd2 rfl) rfl (by show 2 * 0 + _ ≤ _; exact Nat.le_of_eq rfl) (hb hby d4_38) (fun _ _ => ⟨rfl, e4, (by decide : 0 + 0 ≤ _), (by decide : 0 + 0 ≤ _)⟩)
  dsimp only [Pt.U, Pt.locs, Pt.cells, Pt.slots] at X6 l6 y6 z6 st6 hQ6
  subst l6 y6 z6
  obtain ⟨rfl, Nq6, e6⟩ := hQ6
  have N6 := Fr.app N4 Nq6
  obtain ⟨cl7, Ar7, q7, S7, N7_, H7, G7⟩ := id VA
  have hin7 : ¬ ((4 : Int32) < 0 ∨ cl7.slots.size ≤ ((4 : Int32)).toNatClampNeg) := inb_of S7 ⟨by decide, by decide⟩
  obtain ⟨T8, h8, X8, e8, W8, st8⟩ := stJ X6 hx hZ e6 Ar7 (j := (4 : Int32)) hin7 (g := (mkF m 41 #[vr a, vr u5, vj q, .second] [xj q, xi (4 : Int32), xr b])) rfl rfl (hb hby d4_41)
  have V_b_8 : Arv Z h8 b k .long (6 : Int32) [xj c0, xj c1, xj c2, xj c3, xj q, xj c5] (.long (0 : Int64)) := Arv.set Ar7 q7 S7 N7_ H7 G7 rfl W8 4 rfl (Nat.le_of_ble_eq_true rfl)
  have O8 : Old Z n0 h8 := O0.wr W8 g_b
  have Kp8 : Keep h0 h8 [b] := (Keep.refl h0 [b]).wr W8 (Or.inl (by simp))
  have X_a_8 := EA.wr W8
  have F_a_amounts_8 := FA.other W8 (Or.inl ne_a_b)
  have N8 := Fr.snoc X8 N6 g_b
  obtain ⟨fs, hr, hrun, hended, hW, hsame⟩ := X8.leave (v := none) (fun _ => rfl)
  refine ⟨_, _, pre0 _ ?_, hrun, hended, _, _, rfl, ?_, ⟨_, rfl⟩, hW, hsame.mono (by decide) (by decide)⟩
  · show own_S p e below s₁ (mkF m 0 #[vr a, vr u5, vj q, .second] []) _
    refine XS.lloadN X0.here hx rfl (hb hby d4_0) rfl ?_
    show own_S p e below s₁ (mkF m 1 #[vr a, vr u5, vj q, .second] [xj q]) _
    refine XS.lconst X0.here hx rfl (hb hby d4_1) ?_
    show own_S p e below s₁ (mkF m 2 #[vr a, vr u5, vj q, .second] [xj (0 : Int64), xj q]) _
    refine XS.lcmp X0.here hx rfl (hb hby d4_2) rfl ?_
    show own_S p e below s₁ (mkF m 3 #[vr a, vr u5, vj q, .second] [xi (lcmpW q (0 : Int64))]) _
    show own_S p e below s₁ (mkF m 3 #[vr a, vr u5, vj q, .second] [xi (lcmpW q (0 : Int64))]) _
    refine XS.ifYes X0.here hx rfl (pc0 := 3) (pc' := 20) rfl (hb hby d4_3) rfl as0 (by decide) (by decide) ?_
    show own_S p e below s₁ (mkF m 20 #[vr a, vr u5, vj q, .second] []) _
    refine XS.aloadN X0.here hx rfl (hb hby d4_20) rfl rfl ?_
    show own_S p e below s₁ (mkF m 21 #[vr a, vr u5, vj q, .second] [xr a]) _
    refine st1 _ ?_
    show own_S p e below T1 (mkF m 24 #[vr a, vr u5, vj q, .second] [xr b]) _
    refine XS.aloadN X1.here hx rfl (hb hby d4_24) rfl rfl ?_
    show own_S p e below T1 (mkF m 25 #[vr a, vr u5, vj q, .second] [xr u5, xr b]) _
    refine st2.trans ?_
    show own_S p e below T2 (mkF m 28 #[vr a, vr u5, vj q, .second] [xi (4 : Int32), xr b]) _
    refine XS.aloadN X2.here hx rfl (hb hby d4_28) rfl rfl ?_
    show own_S p e below T2 (mkF m 29 #[vr a, vr u5, vj q, .second] [xr a, xi (4 : Int32), xr b]) _
    refine st3 _ ?_
    show own_S p e below T3 (mkF m 32 #[vr a, vr u5, vj q, .second] [xr b, xi (4 : Int32), xr b]) _
    refine XS.aloadN X3.here hx rfl (hb hby d4_32) rfl rfl ?_
    show own_S p e below T3 (mkF m 33 #[vr a, vr u5, vj q, .second] [xr u5, xr b, xi (4 : Int32), xr b]) _
    refine st4.trans ?_
    show own_S p e below T4 (mkF m 36 #[vr a, vr u5, vj q, .second] [xi (4 : Int32), xr b, xi (4 : Int32), xr b]) _
    refine X4.laload hx (j := (4 : Int32)) (v := (xj (0 : Int64))) (by rw [e4]; exact Ar5.1) (State.isArrayOf_alike hZ.alike Ar5.2.1) Ar5.2.2 hin5 hat5 (g := (mkF m 36 #[vr a, vr u5, vj q, .second] [xi (4 : Int32), xr b, xi (4 : Int32), xr b])) rfl rfl (hb hby d4_36) _ ?_
    show own_S p e below T4 (mkF m 37 #[vr a, vr u5, vj q, .second] [xj (0 : Int64), xi (4 : Int32), xr b]) _
    refine XS.lloadN X4.here hx rfl (hb hby d4_37) rfl ?_
    show own_S p e below T4 (mkF m 38 #[vr a, vr u5, vj q, .second] [xj q, xj (0 : Int64), xi (4 : Int32), xr b]) _
    refine st6 _ ?_
    show own_S p e below T6 (mkF m 41 #[vr a, vr u5, vj q, .second] [xj q, xi (4 : Int32), xr b]) _
    refine st8 _ ?_
    show own_S p e below T8 (mkF m 42 #[vr a, vr u5, vj q, .second] []) _
    exact X8.returnOut hx Bd.returns (hb hby d4_42) hr
  · show (own_QA Z h0 n0 a b k c0 c1 c2 c3 q c5) _ T8.heap _
    rw [e8]
    exact ⟨rfl, N8, Kp8, ⟨X_a_8, F_a_amounts_8, V_b_8, ne_a_b, g_a, g_b⟩⟩
theorem ef_own_c6_ordinal (m : MethodId) (u0 u1 u2 u3 u4 u5 u6 : Addr) : entryFrame m #[xr u6] 1 = (mkF m 0 #[vr u6] []) := by first | (simp [entryFrame, mkF, argsToLocals, Value.category]; done) | rfl
set_option maxRecDepth 65536 in
set_option maxHeartbeats 40000000 in
theorem own_c6_ordinal (l : Launch) (Z : State) (a0 : Array Value) (hw : ∀ d ∈ tables_1, d.before a0 Z = true) (u0 u1 u2 u3 u4 u5 u6 : Addr) (G : own_St Z u0 u1 u2 u3 u4 u5 u6) (h0 : Heap) (n0 : Nat) (O0 : Old Z n0 h0) : own_Met l Z Y2 jdk_37_method_2_code 1 (some .int) ({ frames := 0, cells := 0, slots := 0, locals := 0 } : Room) #[xr u6] h0 (own_QR (some (xi (5 : Int32))) h0 n0) := by
  intro ws
  refine MetFree.of_bodySF (plainFor_of_name pn2) hisR ?_
  intro p e s m args below meth c s₁ Bd hml0 hP hK
  obtain ⟨rfl, hZ, hh⟩ := hP
  have hx := Bd.exec
  have hby := Bd.bytes
  have hml : c.maxLocals = 1 := hml0
  have hown : s.vm.findClass "java/lang/Enum" = some m.cls := findClass_of_methodNamed Bd.named
  have hnm := (name_of_methodNamed Bd.named Bd.method).1
  have X0 : Stand p l e ({ frames := 0, cells := 0, slots := 0, locals := 0 } : Room) s m #[xr u6] below meth c s₁ [] 0 0 := Stand.of_body Bd
  have e0 : s₁.heap = h0 := by rw [← hh, Bd.state]; rfl
  have N0 := Fr.nil n0
  have pre0 : ∀ t, Steps p.tables e below (s₁.setTop (mkF m 0 #[vr u6] [])) t → Steps p.tables e below (s₁.setTop (entryFrame m #[xr u6] 1)) t := fun t st => castTop (ef_own_c6_ordinal m u0 u1 u2 u3 u4 u5 u6) st
  obtain ⟨T1, X1, e1, st1⟩ := getF X0 hx hZ hown (host := "") (Or.inl (ww hw 48 rfl)) Via.refl e0 ((own_F_u6_ordinal G).ext O0.2) (g := (mkF m 1 #[vr u6] [xr u6])) rfl rfl (hb hby d5_1)
  obtain ⟨fs, hr, hrun, hended, hW, hsame⟩ := X1.leave (v := some (xi (5 : Int32))) (fun h => by rw [Bd.returns] at h; cases h)
  refine ⟨_, _, pre0 _ ?_, hrun, hended, _, _, rfl, ?_, ⟨_, rfl⟩, hW, hsame.mono (by decide) (by decide)⟩
  · show own_S p e below s₁ (mkF m 0 #[vr u6] []) _
    refine XS.aloadN X0.here hx rfl (hb hby d5_0) rfl rfl ?_
    show own_S p e below s₁ (mkF m 1 #[vr u6] [xr u6]) _
    refine st1 _ ?_
    show own_S p e below T1 (mkF m 4 #[vr u6] [xi (5 : Int32)]) _
    exact retI X1 hx Bd.returns (hb hby d5_4) hr
  · exact ⟨rfl, N0, e1⟩
theorem ef_own_add5 (m : MethodId) (u0 u1 u2 u3 u4 u5 u6 : Addr) (a : Addr) (b : Addr) (k : ClassId) (c0 : Int64) (c1 : Int64) (c2 : Int64) (c3 : Int64) (c4 : Int64) (q : Int64) : entryFrame m #[xr a, xr u6, xj q] 4 = (mkF m 0 #[vr a, vr u6, vj q, .second] []) := by first | (simp [entryFrame, mkF, argsToLocals, Value.category]; done) | rfl
set_option maxRecDepth 65536 in
set_option maxHeartbeats 40000000 in
theorem own_add5 (l : Launch) (Z : State) (a0 : Array Value) (hw : ∀ d ∈ tables_1, d.before a0 Z = true) (u0 u1 u2 u3 u4 u5 u6 : Addr) (G : own_St Z u0 u1 u2 u3 u4 u5 u6) (a : Addr) (b : Addr) (k : ClassId) (c0 : Int64) (c1 : Int64) (c2 : Int64) (c3 : Int64) (c4 : Int64) (q : Int64) (as0 : ifCond.holds .ge (lcmpW q (0 : Int64)) = true) (h0 : Heap) (n0 : Nat) (O0 : Old Z n0 h0) (gL : own_LS Z h0 n0 a b k c0 c1 c2 c3 c4 (0 : Int64)) : own_Met l Z Y5 prog_46_method_2_code 4 none ({ frames := 1, cells := 0, slots := 0, locals := 19 } : Room) #[xr a, xr u6, xj q] h0 (own_QA Z h0 n0 a b k c0 c1 c2 c3 c4 q) := by
  intro ws
  refine MetFree.of_bodySF (plainFor_of_name pn1) hisR ?_
  intro p e s m args below meth c s₁ Bd hml0 hP hK
  obtain ⟨rfl, hZ, hh⟩ := hP
  have hx := Bd.exec
  have hby := Bd.bytes
  have hml : c.maxLocals = 4 := hml0
  have hown : s.vm.findClass "com/example/stackwright/stackwright/engine/ManaPool" = some m.cls := findClass_of_methodNamed Bd.named
  have hnm := (name_of_methodNamed Bd.named Bd.method).1
  have X0 : Stand p l e ({ frames := 1, cells := 0, slots := 0, locals := 19 } : Room) s m #[xr a, xr u6, xj q] below meth c s₁ [] 0 0 := Stand.of_body Bd
  have e0 : s₁.heap = h0 := by rw [← hh, Bd.state]; rfl
  have N0 := Fr.nil n0
  have pre0 : ∀ t, Steps p.tables e below (s₁.setTop (mkF m 0 #[vr a, vr u6, vj q, .second] [])) t → Steps p.tables e below (s₁.setTop (entryFrame m #[xr a, xr u6, xj q] 4)) t := fun t st => castTop (ef_own_add5 m u0 u1 u2 u3 u4 u5 u6 a b k c0 c1 c2 c3 c4 q) st
  obtain ⟨EA, FA, VA, ne_a_b, g_a, g_b⟩ := gL
  obtain ⟨T1, X1, e1, st1⟩ := getF X0 hx hZ hown (host := "") (Or.inl (ww hw 33 rfl)) Via.refl e0 FA (g := (mkF m 21 #[vr a, vr u6, vj q, .second] [xr a])) rfl rfl (hb hby d4_21)
  obtain ⟨cq2, kq2, qa2, qb2, qc2⟩ := isOf hZ e1 ((own_X_u6 G).ext O0.2)
  obtain ⟨_, _, ⟨T2, L2, k2, n2⟩, -, X2, ⟨Lc2, hQ2, l2, y2, z2⟩, st2⟩ := X1.virtualBackUp hx (x := Y3) (y := Y2) hown (mvT hZ (ww hw 41 rfl)) (mvT hZ (ww hw 42 rfl)) (mvT hZ (ww hw 43 rfl)) (by decide) (mvT hZ (ww hw 45 rfl)) (mvT hZ (ww hw 44 rfl)) (backOf (W := 1) (own_c6_ordinal l Z a0 hw u0 u1 u2 u3 u4 u5 u6 G h0 n0 O0 []) hZ (ww hw 47 rfl) (ww hw 46 rfl) (by decide) (by decide)) qa2 qc2 (g := (mkF m 25 #[vr a, vr u6, vj q, .second] [xr u6, xr b])) rfl (by rw [hml]; rfl) (Steps.refl _) (argsL := []) (rest := [xr b]) (lenOf pd1 rfl) rfl (by show 2 * 0 + _ ≤ _; exact Nat.le_of_eq rfl) (hb hby d4_25) (fun _ _ => ⟨rfl, e1, (by decide : 0 + 0 ≤ _), (by decide : 0 + 0 ≤ _)⟩)
  dsimp only [Pt.U, Pt.locs, Pt.cells, Pt.slots] at X2 l2 y2 z2 st2 hQ2
  subst l2 y2 z2
  obtain ⟨rfl, Nq2, e2⟩ := hQ2
  have N2 := Fr.app N0 Nq2
  obtain ⟨T3, X3, e3, st3⟩ := getF X2 hx hZ hown (host := "") (Or.inl (ww hw 33 rfl)) Via.refl e2 FA (g := (mkF m 29 #[vr a, vr u6, vj q, .second] [xr a, xi (5 : Int32), xr b])) rfl rfl (hb hby d4_29)
  obtain ⟨cq4, kq4, qa4, qb4, qc4⟩ := isOf hZ e3 ((own_X_u6 G).ext O0.2)
  obtain ⟨_, _, ⟨T4, L4, k4, n4⟩, -, X4, ⟨Lc4, hQ4, l4, y4, z4⟩, st4⟩ := X3.virtualBackUp hx (x := Y3) (y := Y2) hown (mvT hZ (ww hw 41 rfl)) (mvT hZ (ww hw 42 rfl)) (mvT hZ (ww hw 43 rfl)) (by decide) (mvT hZ (ww hw 45 rfl)) (mvT hZ (ww hw 44 rfl)) (backOf (W := 3) (own_c6_ordinal l Z a0 hw u0 u1 u2 u3 u4 u5 u6 G h0 n0 O0 []) hZ (ww hw 47 rfl) (ww hw 46 rfl) (by decide) (by decide)) qa4 qc4 (g := (mkF m 33 #[vr a, vr u6, vj q, .second] [xr u6, xr b, xi (5 : Int32), xr b])) rfl (by rw [hml]; rfl) (Steps.refl _) (argsL := []) (rest := [xr b, xi (5 : Int32), xr b]) (lenOf pd1 rfl) rfl (by show 2 * 0 + _ ≤ _; exact Nat.le_of_eq rfl) (hb hby d4_33) (fun _ _ => ⟨rfl, e3, (by decide : 0 + 0 ≤ _), (by decide : 0 + 0 ≤ _)⟩)
  dsimp only [Pt.U, Pt.locs, Pt.cells, Pt.slots] at X4 l4 y4 z4 st4 hQ4
  subst l4 y4 z4
  obtain ⟨rfl, Nq4, e4⟩ := hQ4
  have N4 := Fr.app N2 Nq4
  obtain ⟨cl5, Ar5, q5, S5, N5_, H5, G5⟩ := id VA
  have hin5 : ¬ ((5 : Int32) < 0 ∨ cl5.slots.size ≤ ((5 : Int32)).toNatClampNeg) := inb_of S5 ⟨by decide, by decide⟩
  have hat5 : cl5.slots[((5 : Int32)).toNatClampNeg]? = some (xj (0 : Int64)) := Has.at H5 hin5 rfl
  obtain ⟨_, _, ⟨T6, L6, k6, n6⟩, -, X6, ⟨Lc6, hQ6, l6, y6, z6⟩, st6⟩ := Jvm.LawKit.callS X4 hx (y := Y4) hown (mvT hZ (ww hw 50 rfl)) (mvT hZ (ww hw 51 rfl)) (mvT hZ (ww hw 52 rfl)) (mvT hZ (ww hw 53 rfl)) (by decide) (backOf (W := 2) (own_c1_addExact l Z a0 hw u0 u1 u2 u3 u4 u5 u6 G q h0 n0 O0 []) hZ (ww hw 53 rfl) (ww hw 52 rfl) (by decide) (by decide)) (g := (mkF m 38 #[vr a, vr u6, vj q, .second] [xj q, xj (0 : Int64), xi (5 : Int32), xr b])) rfl (by rw [hml]; rfl) (argsL := [xj (0 : Int64), xj q]) (rest := [xi (5 : Int32), xr b]) (lenOf pd2 rfl) rfl (by show 2 * 0 + _ ≤ _; exact Nat.le_of_eq rfl) (hb hby d4_38) (fun _ _ => ⟨rfl, e4, (by decide : 0 + 0 ≤ _), (by decide : 0 + 0 ≤ _)⟩)
  dsimp only [Pt.U, Pt.locs, Pt.cells, Pt.slots] at X6 l6 y6 z6 st6 hQ6
  subst l6 y6 z6
  obtain ⟨rfl, Nq6, e6⟩ := hQ6
  have N6 := Fr.app N4 Nq6
  obtain ⟨cl7, Ar7, q7, S7, N7_, H7, G7⟩ := id VA
  have hin7 : ¬ ((5 : Int32) < 0 ∨ cl7.slots.size ≤ ((5 : Int32)).toNatClampNeg) := inb_of S7 ⟨by decide, by decide⟩
  obtain ⟨T8, h8, X8, e8, W8, st8⟩ := stJ X6 hx hZ e6 Ar7 (j := (5 : Int32)) hin7 (g := (mkF m 41 #[vr a, vr u6, vj q, .second] [xj q, xi (5 : Int32), xr b])) rfl rfl (hb hby d4_41)
  have V_b_8 : Arv Z h8 b k .long (6 : Int32) [xj c0, xj c1, xj c2, xj c3, xj c4, xj q] (.long (0 : Int64)) := Arv.set Ar7 q7 S7 N7_ H7 G7 rfl W8 5 rfl (Nat.le_of_ble_eq_true rfl)
  have O8 : Old Z n0 h8 := O0.wr W8 g_b
  have Kp8 : Keep h0 h8 [b] := (Keep.refl h0 [b]).wr W8 (Or.inl (by simp))
  have X_a_8 := EA.wr W8
  have F_a_amounts_8 := FA.other W8 (Or.inl ne_a_b)
  have N8 := Fr.snoc X8 N6 g_b
  obtain ⟨fs, hr, hrun, hended, hW, hsame⟩ := X8.leave (v := none) (fun _ => rfl)
  refine ⟨_, _, pre0 _ ?_, hrun, hended, _, _, rfl, ?_, ⟨_, rfl⟩, hW, hsame.mono (by decide) (by decide)⟩
  · show own_S p e below s₁ (mkF m 0 #[vr a, vr u6, vj q, .second] []) _
    refine XS.lloadN X0.here hx rfl (hb hby d4_0) rfl ?_
    show own_S p e below s₁ (mkF m 1 #[vr a, vr u6, vj q, .second] [xj q]) _
    refine XS.lconst X0.here hx rfl (hb hby d4_1) ?_
    show own_S p e below s₁ (mkF m 2 #[vr a, vr u6, vj q, .second] [xj (0 : Int64), xj q]) _
    refine XS.lcmp X0.here hx rfl (hb hby d4_2) rfl ?_
    show own_S p e below s₁ (mkF m 3 #[vr a, vr u6, vj q, .second] [xi (lcmpW q (0 : Int64))]) _
    show own_S p e below s₁ (mkF m 3 #[vr a, vr u6, vj q, .second] [xi (lcmpW q (0 : Int64))]) _
    refine XS.ifYes X0.here hx rfl (pc0 := 3) (pc' := 20) rfl (hb hby d4_3) rfl as0 (by decide) (by decide) ?_
    show own_S p e below s₁ (mkF m 20 #[vr a, vr u6, vj q, .second] []) _
    refine XS.aloadN X0.here hx rfl (hb hby d4_20) rfl rfl ?_
    show own_S p e below s₁ (mkF m 21 #[vr a, vr u6, vj q, .second] [xr a]) _
    refine st1 _ ?_
    show own_S p e below T1 (mkF m 24 #[vr a, vr u6, vj q, .second] [xr b]) _
    refine XS.aloadN X1.here hx rfl (hb hby d4_24) rfl rfl ?_
    show own_S p e below T1 (mkF m 25 #[vr a, vr u6, vj q, .second] [xr u6, xr b]) _
    refine st2.trans ?_
    show own_S p e below T2 (mkF m 28 #[vr a, vr u6, vj q, .second] [xi (5 : Int32), xr b]) _
    refine XS.aloadN X2.here hx rfl (hb hby d4_28) rfl rfl ?_
    show own_S p e below T2 (mkF m 29 #[vr a, vr u6, vj q, .second] [xr a, xi (5 : Int32), xr b]) _
    refine st3 _ ?_
    show own_S p e below T3 (mkF m 32 #[vr a, vr u6, vj q, .second] [xr b, xi (5 : Int32), xr b]) _
    refine XS.aloadN X3.here hx rfl (hb hby d4_32) rfl rfl ?_
    show own_S p e below T3 (mkF m 33 #[vr a, vr u6, vj q, .second] [xr u6, xr b, xi (5 : Int32), xr b]) _
    refine st4.trans ?_
    show own_S p e below T4 (mkF m 36 #[vr a, vr u6, vj q, .second] [xi (5 : Int32), xr b, xi (5 : Int32), xr b]) _
    refine X4.laload hx (j := (5 : Int32)) (v := (xj (0 : Int64))) (by rw [e4]; exact Ar5.1) (State.isArrayOf_alike hZ.alike Ar5.2.1) Ar5.2.2 hin5 hat5 (g := (mkF m 36 #[vr a, vr u6, vj q, .second] [xi (5 : Int32), xr b, xi (5 : Int32), xr b])) rfl rfl (hb hby d4_36) _ ?_
    show own_S p e below T4 (mkF m 37 #[vr a, vr u6, vj q, .second] [xj (0 : Int64), xi (5 : Int32), xr b]) _
    refine XS.lloadN X4.here hx rfl (hb hby d4_37) rfl ?_
    show own_S p e below T4 (mkF m 38 #[vr a, vr u6, vj q, .second] [xj q, xj (0 : Int64), xi (5 : Int32), xr b]) _
    refine st6 _ ?_
    show own_S p e below T6 (mkF m 41 #[vr a, vr u6, vj q, .second] [xj q, xi (5 : Int32), xr b]) _
    refine st8 _ ?_
    show own_S p e below T8 (mkF m 42 #[vr a, vr u6, vj q, .second] []) _
    exact X8.returnOut hx Bd.returns (hb hby d4_42) hr
  · show (own_QA Z h0 n0 a b k c0 c1 c2 c3 c4 q) _ T8.heap _
    rw [e8]
    exact ⟨rfl, N8, Kp8, ⟨X_a_8, F_a_amounts_8, V_b_8, ne_a_b, g_a, g_b⟩⟩
theorem d7_0 : decode prog_46_method_4_code 0 = .ok (.aload_n 0, 1) := by decide +kernel
theorem d7_1 : decode prog_46_method_4_code 1 = .ok (.getfield 13, 3) := by decide +kernel
theorem d7_4 : decode prog_46_method_4_code 4 = .ok (.astore_n 1, 1) := by decide +kernel
theorem d7_5 : decode prog_46_method_4_code 5 = .ok (.aload_n 1, 1) := by decide +kernel
theorem d7_6 : decode prog_46_method_4_code 6 = .ok (.arraylength, 1) := by decide +kernel
theorem d7_7 : decode prog_46_method_4_code 7 = .ok (.istore_n 2, 1) := by decide +kernel
theorem d7_8 : decode prog_46_method_4_code 8 = .ok (.iconst 0, 1) := by decide +kernel
theorem d7_9 : decode prog_46_method_4_code 9 = .ok (.istore_n 3, 1) := by decide +kernel
theorem d7_10 : decode prog_46_method_4_code 10 = .ok (.iload_n 3, 1) := by decide +kernel
theorem d7_11 : decode prog_46_method_4_code 11 = .ok (.iload_n 2, 1) := by decide +kernel
theorem d7_12 : decode prog_46_method_4_code 12 = .ok (.if_icmp .ge 23, 3) := by decide +kernel
theorem d7_15 : decode prog_46_method_4_code 15 = .ok (.aload_n 1, 1) := by decide +kernel
theorem d7_16 : decode prog_46_method_4_code 16 = .ok (.iload_n 3, 1) := by decide +kernel
theorem d7_17 : decode prog_46_method_4_code 17 = .ok (.laload, 1) := by decide +kernel
theorem d7_18 : decode prog_46_method_4_code 18 = .ok (.lstore 4, 2) := by decide +kernel
theorem d7_20 : decode prog_46_method_4_code 20 = .ok (.lload 4, 2) := by decide +kernel
theorem d7_22 : decode prog_46_method_4_code 22 = .ok (.lconst 0, 1) := by decide +kernel
theorem d7_23 : decode prog_46_method_4_code 23 = .ok (.lcmp, 1) := by decide +kernel
theorem d7_24 : decode prog_46_method_4_code 24 = .ok (.ifCond .le 5, 3) := by decide +kernel
theorem d7_27 : decode prog_46_method_4_code 27 = .ok (.iconst 0, 1) := by decide +kernel
theorem d7_28 : decode prog_46_method_4_code 28 = .ok (.ireturn, 1) := by decide +kernel
abbrev Y6 : MethodName := (⟨"com/example/stackwright/stackwright/engine/ManaPool", "isEmpty", "()Z"⟩ : MethodName)
theorem ef_own_empty0 (m : MethodId) (u0 u1 u2 u3 u4 u5 u6 : Addr) (a : Addr) (b : Addr) (k : ClassId) (c0 : Int64) (c1 : Int64) (c2 : Int64) (c3 : Int64) (c4 : Int64) (c5 : Int64) : entryFrame m #[xr a] 6 = (mkF m 0 #[vr a, vu, vu, vu, vu, vu] []) := by first | (simp [entryFrame, mkF, argsToLocals, Value.category]; done) | rfl
set_option maxRecDepth 65536 in
set_option maxHeartbeats 40000000 in
theorem own_empty0 (l : Launch) (Z : State) (a0 : Array Value) (hw : ∀ d ∈ tables_1, d.before a0 Z = true) (u0 u1 u2 u3 u4 u5 u6 : Addr) (G : own_St Z u0 u1 u2 u3 u4 u5 u6) (a : Addr) (b : Addr) (k : ClassId) (c0 : Int64) (c1 : Int64) (c2 : Int64) (c3 : Int64) (c4 : Int64) (c5 : Int64) (as1 : ifCond.holds .le (lcmpW c0 (0 : Int64)) = false) (h0 : Heap) (n0 : Nat) (O0 : Old Z n0 h0) (gL : own_LS Z h0 n0 a b k c0 c1 c2 c3 c4 c5) : own_Met l Z Y6 prog_46_method_4_code 6 (some .boolean) ({ frames := 0, cells := 0, slots := 0, locals := 0 } : Room) #[xr a] h0 (own_QR (some (xi (0 : Int32))) h0 n0) := by
  intro ws
  refine MetFree.of_bodySF (plainFor_of_name pn1) hisR ?_
  intro p e s m args below meth c s₁ Bd hml0 hP hK
  obtain ⟨rfl, hZ, hh⟩ := hP
  have hx := Bd.exec
  have hby := Bd.bytes
  have hml : c.maxLocals = 6 := hml0
  have hown : s.vm.findClass "com/example/stackwright/stackwright/engine/ManaPool" = some m.cls := findClass_of_methodNamed Bd.named
  have hnm := (name_of_methodNamed Bd.named Bd.method).1
  have X0 : Stand p l e ({ frames := 0, cells := 0, slots := 0, locals := 0 } : Room) s m #[xr a] below meth c s₁ [] 0 0 := Stand.of_body Bd
  have e0 : s₁.heap = h0 := by rw [← hh, Bd.state]; rfl
  have N0 := Fr.nil n0
  have pre0 : ∀ t, Steps p.tables e below (s₁.setTop (mkF m 0 #[vr a, vu, vu, vu, vu, vu] [])) t → Steps p.tables e below (s₁.setTop (entryFrame m #[xr a] 6)) t := fun t st => castTop (ef_own_empty0 m u0 u1 u2 u3 u4 u5 u6 a b k c0 c1 c2 c3 c4 c5) st
  obtain ⟨EA, FA, VA, ne_a_b, g_a, g_b⟩ := gL
  obtain ⟨T1, X1, e1, st1⟩ := getF X0 hx hZ hown (host := "") (Or.inl (ww hw 33 rfl)) Via.refl e0 FA (g := (mkF m 1 #[vr a, vu, vu, vu, vu, vu] [xr a])) rfl rfl (hb hby d7_1)
  obtain ⟨cl2, Ar2, q2, S2, N2_, H2, G2⟩ := id VA
  obtain ⟨cl3, Ar3, q3, S3, N3_, H3, G3⟩ := id VA
  have hin3 : ¬ ((0 : Int32) < 0 ∨ cl3.slots.size ≤ ((0 : Int32)).toNatClampNeg) := inb_of S3 ⟨by decide, by decide⟩
  have hat3 : cl3.slots[((0 : Int32)).toNatClampNeg]? = some (xj c0) := Has.at H3 hin3 rfl
  obtain ⟨fs, hr, hrun, hended, hW, hsame⟩ := X1.leave (v := some (xi (0 : Int32))) (fun h => by rw [Bd.returns] at h; cases h)
  refine ⟨_, _, pre0 _ ?_, hrun, hended, _, _, rfl, ?_, ⟨_, rfl⟩, hW, hsame.mono (by decide) (by decide)⟩
  · show own_S p e below s₁ (mkF m 0 #[vr a, vu, vu, vu, vu, vu] []) _
    refine XS.aloadN X0.here hx rfl (hb hby d7_0) rfl rfl ?_
    show own_S p e below s₁ (mkF m 1 #[vr a, vu, vu, vu, vu, vu] [xr a]) _
    refine st1 _ ?_
    show own_S p e below T1 (mkF m 4 #[vr a, vu, vu, vu, vu, vu] [xr b]) _
    refine XS.astoreN X1.here hx rfl (hb hby d7_4) rfl rfl (l' := #[vr a, vr b, vu, vu, vu, vu]) rfl ?_
    show own_S p e below T1 (mkF m 5 #[vr a, vr b, vu, vu, vu, vu] []) _
    refine XS.aloadN X1.here hx rfl (hb hby d7_5) rfl rfl ?_
    show own_S p e below T1 (mkF m 6 #[vr a, vr b, vu, vu, vu, vu] [xr b]) _
    refine X1.arraylength hx (by rw [e1]; exact Ar2.1) (State.isArrayOf_alike hZ.alike Ar2.2.1) (g := (mkF m 6 #[vr a, vr b, vu, vu, vu, vu] [xr b])) rfl rfl (hb hby d7_6) _ ?_
    refine castTop (show (mkF m 7 #[vr a, vr b, vu, vu, vu, vu] [xi cl2.slots.size.toInt32]) = (mkF m 7 #[vr a, vr b, vu, vu, vu, vu] [xi (6 : Int32)]) from by rw [len_of S2 N2_]) ?_
    show own_S p e below T1 (mkF m 7 #[vr a, vr b, vu, vu, vu, vu] [xi (6 : Int32)]) _
    refine XS.istoreN X1.here hx rfl (hb hby d7_7) rfl (l' := #[vr a, vr b, vi (6 : Int32), vu, vu, vu]) rfl ?_
    show own_S p e below T1 (mkF m 8 #[vr a, vr b, vi (6 : Int32), vu, vu, vu] []) _
    refine XS.iconst X1.here hx rfl (hb hby d7_8) ?_
    show own_S p e below T1 (mkF m 9 #[vr a, vr b, vi (6 : Int32), vu, vu, vu] [xi (0 : Int32)]) _
    refine XS.istoreN X1.here hx rfl (hb hby d7_9) rfl (l' := #[vr a, vr b, vi (6 : Int32), vi (0 : Int32), vu, vu]) rfl ?_
    show own_S p e below T1 (mkF m 10 #[vr a, vr b, vi (6 : Int32), vi (0 : Int32), vu, vu] []) _
    refine XS.iloadN X1.here hx rfl (hb hby d7_10) rfl ?_
    show own_S p e below T1 (mkF m 11 #[vr a, vr b, vi (6 : Int32), vi (0 : Int32), vu, vu] [xi (0 : Int32)]) _
    refine XS.iloadN X1.here hx rfl (hb hby d7_11) rfl ?_
    show own_S p e below T1 (mkF m 12 #[vr a, vr b, vi (6 : Int32), vi (0 : Int32), vu, vu] [xi (6 : Int32), xi (0 : Int32)]) _
    refine XS.icmpNo X1.here hx rfl (hb hby d7_12) rfl (by decide) ?_
    show own_S p e below T1 (mkF m 15 #[vr a, vr b, vi (6 : Int32), vi (0 : Int32), vu, vu] []) _
    refine XS.aloadN X1.here hx rfl (hb hby d7_15) rfl rfl ?_
    show own_S p e below T1 (mkF m 16 #[vr a, vr b, vi (6 : Int32), vi (0 : Int32), vu, vu] [xr b]) _
    refine XS.iloadN X1.here hx rfl (hb hby d7_16) rfl ?_
    show own_S p e below T1 (mkF m 17 #[vr a, vr b, vi (6 : Int32), vi (0 : Int32), vu, vu] [xi (0 : Int32), xr b]) _
    refine X1.laload hx (j := (0 : Int32)) (v := (xj c0)) (by rw [e1]; exact Ar3.1) (State.isArrayOf_alike hZ.alike Ar3.2.1) Ar3.2.2 hin3 hat3 (g := (mkF m 17 #[vr a, vr b, vi (6 : Int32), vi (0 : Int32), vu, vu] [xi (0 : Int32), xr b])) rfl rfl (hb hby d7_17) _ ?_
    show own_S p e below T1 (mkF m 18 #[vr a, vr b, vi (6 : Int32), vi (0 : Int32), vu, vu] [xj c0]) _
    refine XS.lstore X1.here hx rfl (hb hby d7_18) rfl (l' := #[vr a, vr b, vi (6 : Int32), vi (0 : Int32), vj c0, .second]) rfl ?_
    show own_S p e below T1 (mkF m 20 #[vr a, vr b, vi (6 : Int32), vi (0 : Int32), vj c0, .second] []) _
    refine XS.lload X1.here hx rfl (hb hby d7_20) rfl ?_
    show own_S p e below T1 (mkF m 22 #[vr a, vr b, vi (6 : Int32), vi (0 : Int32), vj c0, .second] [xj c0]) _
    refine XS.lconst X1.here hx rfl (hb hby d7_22) ?_
    show own_S p e below T1 (mkF m 23 #[vr a, vr b, vi (6 : Int32), vi (0 : Int32), vj c0, .second] [xj (0 : Int64), xj c0]) _
    refine XS.lcmp X1.here hx rfl (hb hby d7_23) rfl ?_
    show own_S p e below T1 (mkF m 24 #[vr a, vr b, vi (6 : Int32), vi (0 : Int32), vj c0, .second] [xi (lcmpW c0 (0 : Int64))]) _
    show own_S p e below T1 (mkF m 24 #[vr a, vr b, vi (6 : Int32), vi (0 : Int32), vj c0, .second] [xi (lcmpW c0 (0 : Int64))]) _
    refine XS.ifNo X1.here hx rfl (hb hby d7_24) rfl as1 ?_
    show own_S p e below T1 (mkF m 27 #[vr a, vr b, vi (6 : Int32), vi (0 : Int32), vj c0, .second] []) _
    refine XS.iconst X1.here hx rfl (hb hby d7_27) ?_
    show own_S p e below T1 (mkF m 28 #[vr a, vr b, vi (6 : Int32), vi (0 : Int32), vj c0, .second] [xi (0 : Int32)]) _
    exact retN X1 hx (t := .boolean) Bd.returns (by simp) (hb hby d7_28) hr
  · exact ⟨rfl, N0, e1⟩
theorem d7_29 : decode prog_46_method_4_code 29 = .ok (.iinc 3 1, 3) := by decide +kernel
theorem d7_32 : decode prog_46_method_4_code 32 = .ok (.goto (-22), 3) := by decide +kernel
theorem ef_own_empty1 (m : MethodId) (u0 u1 u2 u3 u4 u5 u6 : Addr) (a : Addr) (b : Addr) (k : ClassId) (c0 : Int64) (c1 : Int64) (c2 : Int64) (c3 : Int64) (c4 : Int64) (c5 : Int64) : entryFrame m #[xr a] 6 = (mkF m 0 #[vr a, vu, vu, vu, vu, vu] []) := by first | (simp [entryFrame, mkF, argsToLocals, Value.category]; done) | rfl
set_option maxRecDepth 65536 in
set_option maxHeartbeats 40000000 in
theorem own_empty1 (l : Launch) (Z : State) (a0 : Array Value) (hw : ∀ d ∈ tables_1, d.before a0 Z = true) (u0 u1 u2 u3 u4 u5 u6 : Addr) (G : own_St Z u0 u1 u2 u3 u4 u5 u6) (a : Addr) (b : Addr) (k : ClassId) (c0 : Int64) (c1 : Int64) (c2 : Int64) (c3 : Int64) (c4 : Int64) (c5 : Int64) (as2 : ifCond.holds .le (lcmpW c0 (0 : Int64)) = true) (as3 : ifCond.holds .le (lcmpW c1 (0 : Int64)) = false) (h0 : Heap) (n0 : Nat) (O0 : Old Z n0 h0) (gL : own_LS Z h0 n0 a b k c0 c1 c2 c3 c4 c5) : own_Met l Z Y6 prog_46_method_4_code 6 (some .boolean) ({ frames := 0, cells := 0, slots := 0, locals := 0 } : Room) #[xr a] h0 (own_QR (some (xi (0 : Int32))) h0 n0) := by
  intro ws
  refine MetFree.of_bodySF (plainFor_of_name pn1) hisR ?_
  intro p e s m args below meth c s₁ Bd hml0 hP hK
  obtain ⟨rfl, hZ, hh⟩ := hP
  have hx := Bd.exec
  have hby := Bd.bytes
  have hml : c.maxLocals = 6 := hml0
  have hown : s.vm.findClass "com/example/stackwright/stackwright/engine/ManaPool" = some m.cls := findClass_of_methodNamed Bd.named
  have hnm := (name_of_methodNamed Bd.named Bd.method).1
  have X0 : Stand p l e ({ frames := 0, cells := 0, slots := 0, locals := 0 } : Room) s m #[xr a] below meth c s₁ [] 0 0 := Stand.of_body Bd
  have e0 : s₁.heap = h0 := by rw [← hh, Bd.state]; rfl
  have N0 := Fr.nil n0
  have pre0 : ∀ t, Steps p.tables e below (s₁.setTop (mkF m 0 #[vr a, vu, vu, vu, vu, vu] [])) t → Steps p.tables e below (s₁.setTop (entryFrame m #[xr a] 6)) t := fun t st => castTop (ef_own_empty1 m u0 u1 u2 u3 u4 u5 u6 a b k c0 c1 c2 c3 c4 c5) st
  obtain ⟨EA, FA, VA, ne_a_b, g_a, g_b⟩ := gL
  obtain ⟨T1, X1, e1, st1⟩ := getF X0 hx hZ hown (host := "") (Or.inl (ww hw 33 rfl)) Via.refl e0 FA (g := (mkF m 1 #[vr a, vu, vu, vu, vu, vu] [xr a])) rfl rfl (hb hby d7_1)
  obtain ⟨cl2, Ar2, q2, S2, N2_, H2, G2⟩ := id VA
  obtain ⟨cl3, Ar3, q3, S3, N3_, H3, G3⟩ := id VA
  have hin3 : ¬ ((0 : Int32) < 0 ∨ cl3.slots.size ≤ ((0 : Int32)).toNatClampNeg) := inb_of S3 ⟨by decide, by decide⟩
  have hat3 : cl3.slots[((0 : Int32)).toNatClampNeg]? = some (xj c0) := Has.at H3 hin3 rfl
  obtain ⟨cl4, Ar4, q4, S4, N4_, H4, G4⟩ := id VA
  have hin4 : ¬ ((1 : Int32) < 0 ∨ cl4.slots.size ≤ ((1 : Int32)).toNatClampNeg) := inb_of S4 ⟨by decide, by decide⟩
  have hat4 : cl4.slots[((1 : Int32)).toNatClampNeg]? = some (xj c1) := Has.at H4 hin4 rfl
  obtain ⟨fs, hr, hrun, hended, hW, hsame⟩ := X1.leave (v := some (xi (0 : Int32))) (fun h => by rw [Bd.returns] at h; cases h)
  refine ⟨_, _, pre0 _ ?_, hrun, hended, _, _, rfl, ?_, ⟨_, rfl⟩, hW, hsame.mono (by decide) (by decide)⟩
  · show own_S p e below s₁ (mkF m 0 #[vr a, vu, vu, vu, vu, vu] []) _
    refine XS.aloadN X0.here hx rfl (hb hby d7_0) rfl rfl ?_
    show own_S p e below s₁ (mkF m 1 #[vr a, vu, vu, vu, vu, vu] [xr a]) _
    refine st1 _ ?_
    show own_S p e below T1 (mkF m 4 #[vr a, vu, vu, vu, vu, vu] [xr b]) _
    refine XS.astoreN X1.here hx rfl (hb hby d7_4) rfl rfl (l' := #[vr a, vr b, vu, vu, vu, vu]) rfl ?_
    show own_S p e below T1 (mkF m 5 #[vr a, vr b, vu, vu, vu, vu] []) _
    refine XS.aloadN X1.here hx rfl (hb hby d7_5) rfl rfl ?_
    show own_S p e below T1 (mkF m 6 #[vr a, vr b, vu, vu, vu, vu] [xr b]) _
    refine X1.arraylength hx (by rw [e1]; exact Ar2.1) (State.isArrayOf_alike hZ.alike Ar2.2.1) (g := (mkF m 6 #[vr a, vr b, vu, vu, vu, vu] [xr b])) rfl rfl (hb hby d7_6) _ ?_
    refine castTop (show (mkF m 7 #[vr a, vr b, vu, vu, vu, vu] [xi cl2.slots.size.toInt32]) = (mkF m 7 #[vr a, vr b, vu, vu, vu, vu] [xi (6 : Int32)]) from by rw [len_of S2 N2_]) ?_
    show own_S p e below T1 (mkF m 7 #[vr a, vr b, vu, vu, vu, vu] [xi (6 : Int32)]) _
    refine XS.istoreN X1.here hx rfl (hb hby d7_7) rfl (l' := #[vr a, vr b, vi (6 : Int32), vu, vu, vu]) rfl ?_
    show own_S p e below T1 (mkF m 8 #[vr a, vr b, vi (6 : Int32), vu, vu, vu] []) _
    refine XS.iconst X1.here hx rfl (hb hby d7_8) ?_
    show own_S p e below T1 (mkF m 9 #[vr a, vr b, vi (6 : Int32), vu, vu, vu] [xi (0 : Int32)]) _
    refine XS.istoreN X1.here hx rfl (hb hby d7_9) rfl (l' := #[vr a, vr b, vi (6 : Int32), vi (0 : Int32), vu, vu]) rfl ?_
    show own_S p e below T1 (mkF m 10 #[vr a, vr b, vi (6 : Int32), vi (0 : Int32), vu, vu] []) _
    refine XS.iloadN X1.here hx rfl (hb hby d7_10) rfl ?_
    show own_S p e below T1 (mkF m 11 #[vr a, vr b, vi (6 : Int32), vi (0 : Int32), vu, vu] [xi (0 : Int32)]) _
    refine XS.iloadN X1.here hx rfl (hb hby d7_11) rfl ?_
    show own_S p e below T1 (mkF m 12 #[vr a, vr b, vi (6 : Int32), vi (0 : Int32), vu, vu] [xi (6 : Int32), xi (0 : Int32)]) _
    refine XS.icmpNo X1.here hx rfl (hb hby d7_12) rfl (by decide) ?_
    show own_S p e below T1 (mkF m 15 #[vr a, vr b, vi (6 : Int32), vi (0 : Int32), vu, vu] []) _
    refine XS.aloadN X1.here hx rfl (hb hby d7_15) rfl rfl ?_
    show own_S p e below T1 (mkF m 16 #[vr a, vr b, vi (6 : Int32), vi (0 : Int32), vu, vu] [xr b]) _
    refine XS.iloadN X1.here hx rfl (hb hby d7_16) rfl ?_
    show own_S p e below T1 (mkF m 17 #[vr a, vr b, vi (6 : Int32), vi (0 : Int32), vu, vu] [xi (0 : Int32), xr b]) _
    refine X1.laload hx (j := (0 : Int32)) (v := (xj c0)) (by rw [e1]; exact Ar3.1) (State.isArrayOf_alike hZ.alike Ar3.2.1) Ar3.2.2 hin3 hat3 (g := (mkF m 17 #[vr a, vr b, vi (6 : Int32), vi (0 : Int32), vu, vu] [xi (0 : Int32), xr b])) rfl rfl (hb hby d7_17) _ ?_
    show own_S p e below T1 (mkF m 18 #[vr a, vr b, vi (6 : Int32), vi (0 : Int32), vu, vu] [xj c0]) _
    refine XS.lstore X1.here hx rfl (hb hby d7_18) rfl (l' := #[vr a, vr b, vi (6 : Int32), vi (0 : Int32), vj c0, .second]) rfl ?_
    show own_S p e below T1 (mkF m 20 #[vr a, vr b, vi (6 : Int32), vi (0 : Int32), vj c0, .second] []) _
    refine XS.lload X1.here hx rfl (hb hby d7_20) rfl ?_
    show own_S p e below T1 (mkF m 22 #[vr a, vr b, vi (6 : Int32), vi (0 : Int32), vj c0, .second] [xj c0]) _
    refine XS.lconst X1.here hx rfl (hb hby d7_22) ?_
    show own_S p e below T1 (mkF m 23 #[vr a, vr b, vi (6 : Int32), vi (0 : Int32), vj c0, .second] [xj (0 : Int64), xj c0]) _
    refine XS.lcmp X1.here hx rfl (hb hby d7_23) rfl ?_
    show own_S p e below T1 (mkF m 24 #[vr a, vr b, vi (6 : Int32), vi (0 : Int32), vj c0, .second] [xi (lcmpW c0 (0 : Int64))]) _
    show own_S p e below T1 (mkF m 24 #[vr a, vr b, vi (6 : Int32), vi (0 : Int32), vj c0, .second] [xi (lcmpW c0 (0 : Int64))]) _
    refine XS.ifYes X1.here hx rfl (pc0 := 24) (pc' := 29) rfl (hb hby d7_24) rfl as2 (by decide) (by decide) ?_
    show own_S p e below T1 (mkF m 29 #[vr a, vr b, vi (6 : Int32), vi (0 : Int32), vj c0, .second] []) _
    refine XS.iinc X1.here hx rfl (hb hby d7_29) rfl (l' := #[vr a, vr b, vi (6 : Int32), vi ((0 : Int32) + (1 : Int32)), vj c0, .second]) rfl ?_
    refine castTop (show (mkF m 32 #[vr a, vr b, vi (6 : Int32), vi ((0 : Int32) + (1 : Int32)), vj c0, .second] []) = (mkF m 32 #[vr a, vr b, vi (6 : Int32), vi (1 : Int32), vj c0, .second] []) from by rw [show ((0 : Int32) + (1 : Int32)) = (1 : Int32) from by decide]) ?_
    show own_S p e below T1 (mkF m 32 #[vr a, vr b, vi (6 : Int32), vi (1 : Int32), vj c0, .second] []) _
    refine XS.goto X1.here hx rfl (pc0 := 32) (pc' := 10) rfl (hb hby d7_32) (by decide) (by decide) ?_
    show own_S p e below T1 (mkF m 10 #[vr a, vr b, vi (6 : Int32), vi (1 : Int32), vj c0, .second] []) _
    refine XS.iloadN X1.here hx rfl (hb hby d7_10) rfl ?_
    show own_S p e below T1 (mkF m 11 #[vr a, vr b, vi (6 : Int32), vi (1 : Int32), vj c0, .second] [xi (1 : Int32)]) _
    refine XS.iloadN X1.here hx rfl (hb hby d7_11) rfl ?_
    show own_S p e below T1 (mkF m 12 #[vr a, vr b, vi (6 : Int32), vi (1 : Int32), vj c0, .second] [xi (6 : Int32), xi (1 : Int32)]) _
    refine XS.icmpNo X1.here hx rfl (hb hby d7_12) rfl (by decide) ?_
    show own_S p e below T1 (mkF m 15 #[vr a, vr b, vi (6 : Int32), vi (1 : Int32), vj c0, .second] []) _
    refine XS.aloadN X1.here hx rfl (hb hby d7_15) rfl rfl ?_
    show own_S p e below T1 (mkF m 16 #[vr a, vr b, vi (6 : Int32), vi (1 : Int32), vj c0, .second] [xr b]) _
    refine XS.iloadN X1.here hx rfl (hb hby d7_16) rfl ?_
    show own_S p e below T1 (mkF m 17 #[vr a, vr b, vi (6 : Int32), vi (1 : Int32), vj c0, .second] [xi (1 : Int32), xr b]) _
    refine X1.laload hx (j := (1 : Int32)) (v := (xj c1)) (by rw [e1]; exact Ar4.1) (State.isArrayOf_alike hZ.alike Ar4.2.1) Ar4.2.2 hin4 hat4 (g := (mkF m 17 #[vr a, vr b, vi (6 : Int32), vi (1 : Int32), vj c0, .second] [xi (1 : Int32), xr b])) rfl rfl (hb hby d7_17) _ ?_
    show own_S p e below T1 (mkF m 18 #[vr a, vr b, vi (6 : Int32), vi (1 : Int32), vj c0, .second] [xj c1]) _
    refine XS.lstore X1.here hx rfl (hb hby d7_18) rfl (l' := #[vr a, vr b, vi (6 : Int32), vi (1 : Int32), vj c1, .second]) rfl ?_
    show own_S p e below T1 (mkF m 20 #[vr a, vr b, vi (6 : Int32), vi (1 : Int32), vj c1, .second] []) _
    refine XS.lload X1.here hx rfl (hb hby d7_20) rfl ?_
    show own_S p e below T1 (mkF m 22 #[vr a, vr b, vi (6 : Int32), vi (1 : Int32), vj c1, .second] [xj c1]) _
    refine XS.lconst X1.here hx rfl (hb hby d7_22) ?_
    show own_S p e below T1 (mkF m 23 #[vr a, vr b, vi (6 : Int32), vi (1 : Int32), vj c1, .second] [xj (0 : Int64), xj c1]) _
    refine XS.lcmp X1.here hx rfl (hb hby d7_23) rfl ?_
    show own_S p e below T1 (mkF m 24 #[vr a, vr b, vi (6 : Int32), vi (1 : Int32), vj c1, .second] [xi (lcmpW c1 (0 : Int64))]) _
    show own_S p e below T1 (mkF m 24 #[vr a, vr b, vi (6 : Int32), vi (1 : Int32), vj c1, .second] [xi (lcmpW c1 (0 : Int64))]) _
    refine XS.ifNo X1.here hx rfl (hb hby d7_24) rfl as3 ?_
    show own_S p e below T1 (mkF m 27 #[vr a, vr b, vi (6 : Int32), vi (1 : Int32), vj c1, .second] []) _
    refine XS.iconst X1.here hx rfl (hb hby d7_27) ?_
    show own_S p e below T1 (mkF m 28 #[vr a, vr b, vi (6 : Int32), vi (1 : Int32), vj c1, .second] [xi (0 : Int32)]) _
    exact retN X1 hx (t := .boolean) Bd.returns (by simp) (hb hby d7_28) hr
  · exact ⟨rfl, N0, e1⟩
theorem ef_own_empty2 (m : MethodId) (u0 u1 u2 u3 u4 u5 u6 : Addr) (a : Addr) (b : Addr) (k : ClassId) (c0 : Int64) (c1 : Int64) (c2 : Int64) (c3 : Int64) (c4 : Int64) (c5 : Int64) : entryFrame m #[xr a] 6 = (mkF m 0 #[vr a, vu, vu, vu, vu, vu] []) := by first | (simp [entryFrame, mkF, argsToLocals, Value.category]; done) | rfl
set_option maxRecDepth 65536 in
set_option maxHeartbeats 40000000 in
theorem own_empty2 (l : Launch) (Z : State) (a0 : Array Value) (hw : ∀ d ∈ tables_1, d.before a0 Z = true) (u0 u1 u2 u3 u4 u5 u6 : Addr) (G : own_St Z u0 u1 u2 u3 u4 u5 u6) (a : Addr) (b : Addr) (k : ClassId) (c0 : Int64) (c1 : Int64) (c2 : Int64) (c3 : Int64) (c4 : Int64) (c5 : Int64) (as2 : ifCond.holds .le (lcmpW c0 (0 : Int64)) = true) (as4 : ifCond.holds .le (lcmpW c1 (0 : Int64)) = true) (as5 : ifCond.holds .le (lcmpW c2 (0 : Int64)) = false) (h0 : Heap) (n0 : Nat) (O0 : Old Z n0 h0) (gL : own_LS Z h0 n0 a b k c0 c1 c2 c3 c4 c5) : own_Met l Z Y6 prog_46_method_4_code 6 (some .boolean) ({ frames := 0, cells := 0, slots := 0, locals := 0 } : Room) #[xr a] h0 (own_QR (some (xi (0 : Int32))) h0 n0) := by
  intro ws
  refine MetFree.of_bodySF (plainFor_of_name pn1) hisR ?_
  intro p e s m args below meth c s₁ Bd hml0 hP hK
  obtain ⟨rfl, hZ, hh⟩ := hP
  have hx := Bd.exec
  have hby := Bd.bytes
  have hml : c.maxLocals = 6 := hml0
  have hown : s.vm.findClass "com/example/stackwright/stackwright/engine/ManaPool" = some m.cls := findClass_of_methodNamed Bd.named
  have hnm := (name_of_methodNamed Bd.named Bd.method).1
  have X0 : Stand p l e ({ frames := 0, cells := 0, slots := 0, locals := 0 } : Room) s m #[xr a] below meth c s₁ [] 0 0 := Stand.of_body Bd
  have e0 : s₁.heap = h0 := by rw [← hh, Bd.state]; rfl
  have N0 := Fr.nil n0
  have pre0 : ∀ t, Steps p.tables e below (s₁.setTop (mkF m 0 #[vr a, vu, vu, vu, vu, vu] [])) t → Steps p.tables e below (s₁.setTop (entryFrame m #[xr a] 6)) t := fun t st => castTop (ef_own_empty2 m u0 u1 u2 u3 u4 u5 u6 a b k c0 c1 c2 c3 c4 c5) st
  obtain ⟨EA, FA, VA, ne_a_b, g_a, g_b⟩ := gL
  obtain ⟨T1, X1, e1, st1⟩ := getF X0 hx hZ hown (host := "") (Or.inl (ww hw 33 rfl)) Via.refl e0 FA (g := (mkF m 1 #[vr a, vu, vu, vu, vu, vu] [xr a])) rfl rfl (hb hby d7_1)
  obtain ⟨cl2, Ar2, q2, S2, N2_, H2, G2⟩ := id VA
  obtain ⟨cl3, Ar3, q3, S3, N3_, H3, G3⟩ := id VA
  have hin3 : ¬ ((0 : Int32) < 0 ∨ cl3.slots.size ≤ ((0 : Int32)).toNatClampNeg) := inb_of S3 ⟨by decide, by decide⟩
  have hat3 : cl3.slots[((0 : Int32)).toNatClampNeg]? = some (xj c0) := Has.at H3 hin3 rfl
  obtain ⟨cl4, Ar4, q4, S4, N4_, H4, G4⟩ := id VA
  have hin4 : ¬ ((1 : Int32) < 0 ∨ cl4.slots.size ≤ ((1 : Int32)).toNatClampNeg) := inb_of S4 ⟨by decide, by decide⟩
  have hat4 : cl4.slots[((1 : Int32)).toNatClampNeg]? = some (xj c1) := Has.at H4 hin4 rfl
  obtain ⟨cl5, Ar5, q5, S5, N5_, H5, G5⟩ := id VA
  have hin5 : ¬ ((2 : Int32) < 0 ∨ cl5.slots.size ≤ ((2 : Int32)).toNatClampNeg) := inb_of S5 ⟨by decide, by decide⟩
  have hat5 : cl5.slots[((2 : Int32)).toNatClampNeg]? = some (xj c2) := Has.at H5 hin5 rfl
  obtain ⟨fs, hr, hrun, hended, hW, hsame⟩ := X1.leave (v := some (xi (0 : Int32))) (fun h => by rw [Bd.returns] at h; cases h)
  refine ⟨_, _, pre0 _ ?_, hrun, hended, _, _, rfl, ?_, ⟨_, rfl⟩, hW, hsame.mono (by decide) (by decide)⟩
  · show own_S p e below s₁ (mkF m 0 #[vr a, vu, vu, vu, vu, vu] []) _
    refine XS.aloadN X0.here hx rfl (hb hby d7_0) rfl rfl ?_
    show own_S p e below s₁ (mkF m 1 #[vr a, vu, vu, vu, vu, vu] [xr a]) _
    refine st1 _ ?_
    show own_S p e below T1 (mkF m 4 #[vr a, vu, vu, vu, vu, vu] [xr b]) _
    refine XS.astoreN X1.here hx rfl (hb hby d7_4) rfl rfl (l' := #[vr a, vr b, vu, vu, vu, vu]) rfl ?_
    show own_S p e below T1 (mkF m 5 #[vr a, vr b, vu, vu, vu, vu] []) _
    refine XS.aloadN X1.here hx rfl (hb hby d7_5) rfl rfl ?_
    show own_S p e below T1 (mkF m 6 #[vr a, vr b, vu, vu, vu, vu] [xr b]) _
    refine X1.arraylength hx (by rw [e1]; exact Ar2.1) (State.isArrayOf_alike hZ.alike Ar2.2.1) (g := (mkF m 6 #[vr a, vr b, vu, vu, vu, vu] [xr b])) rfl rfl (hb hby d7_6) _ ?_
    refine castTop (show (mkF m 7 #[vr a, vr b, vu, vu, vu, vu] [xi cl2.slots.size.toInt32]) = (mkF m 7 #[vr a, vr b, vu, vu, vu, vu] [xi (6 : Int32)]) from by rw [len_of S2 N2_]) ?_
    show own_S p e below T1 (mkF m 7 #[vr a, vr b, vu, vu, vu, vu] [xi (6 : Int32)]) _
    refine XS.istoreN X1.here hx rfl (hb hby d7_7) rfl (l' := #[vr a, vr b, vi (6 : Int32), vu, vu, vu]) rfl ?_
    show own_S p e below T1 (mkF m 8 #[vr a, vr b, vi (6 : Int32), vu, vu, vu] []) _
    refine XS.iconst X1.here hx rfl (hb hby d7_8) ?_
    show own_S p e below T1 (mkF m 9 #[vr a, vr b, vi (6 : Int32), vu, vu, vu] [xi (0 : Int32)]) _
    refine XS.istoreN X1.here hx rfl (hb hby d7_9) rfl (l' := #[vr a, vr b, vi (6 : Int32), vi (0 : Int32), vu, vu]) rfl ?_
    show own_S p e below T1 (mkF m 10 #[vr a, vr b, vi (6 : Int32), vi (0 : Int32), vu, vu] []) _
    refine XS.iloadN X1.here hx rfl (hb hby d7_10) rfl ?_
    show own_S p e below T1 (mkF m 11 #[vr a, vr b, vi (6 : Int32), vi (0 : Int32), vu, vu] [xi (0 : Int32)]) _
    refine XS.iloadN X1.here hx rfl (hb hby d7_11) rfl ?_
    show own_S p e below T1 (mkF m 12 #[vr a, vr b, vi (6 : Int32), vi (0 : Int32), vu, vu] [xi (6 : Int32), xi (0 : Int32)]) _
    refine XS.icmpNo X1.here hx rfl (hb hby d7_12) rfl (by decide) ?_
    show own_S p e below T1 (mkF m 15 #[vr a, vr b, vi (6 : Int32), vi (0 : Int32), vu, vu] []) _
    refine XS.aloadN X1.here hx rfl (hb hby d7_15) rfl rfl ?_
    show own_S p e below T1 (mkF m 16 #[vr a, vr b, vi (6 : Int32), vi (0 : Int32), vu, vu] [xr b]) _
    refine XS.iloadN X1.here hx rfl (hb hby d7_16) rfl ?_
    show own_S p e below T1 (mkF m 17 #[vr a, vr b, vi (6 : Int32), vi (0 : Int32), vu, vu] [xi (0 : Int32), xr b]) _
    refine X1.laload hx (j := (0 : Int32)) (v := (xj c0)) (by rw [e1]; exact Ar3.1) (State.isArrayOf_alike hZ.alike Ar3.2.1) Ar3.2.2 hin3 hat3 (g := (mkF m 17 #[vr a, vr b, vi (6 : Int32), vi (0 : Int32), vu, vu] [xi (0 : Int32), xr b])) rfl rfl (hb hby d7_17) _ ?_
    show own_S p e below T1 (mkF m 18 #[vr a, vr b, vi (6 : Int32), vi (0 : Int32), vu, vu] [xj c0]) _
    refine XS.lstore X1.here hx rfl (hb hby d7_18) rfl (l' := #[vr a, vr b, vi (6 : Int32), vi (0 : Int32), vj c0, .second]) rfl ?_
    show own_S p e below T1 (mkF m 20 #[vr a, vr b, vi (6 : Int32), vi (0 : Int32), vj c0, .second] []) _
    refine XS.lload X1.here hx rfl (hb hby d7_20) rfl ?_
    show own_S p e below T1 (mkF m 22 #[vr a, vr b, vi (6 : Int32), vi (0 : Int32), vj c0, .second] [xj c0]) _
    refine XS.lconst X1.here hx rfl (hb hby d7_22) ?_
    show own_S p e below T1 (mkF m 23 #[vr a, vr b, vi (6 : Int32), vi (0 : Int32), vj c0, .second] [xj (0 : Int64), xj c0]) _
    refine XS.lcmp X1.here hx rfl (hb hby d7_23) rfl ?_
    show own_S p e below T1 (mkF m 24 #[vr a, vr b, vi (6 : Int32), vi (0 : Int32), vj c0, .second] [xi (lcmpW c0 (0 : Int64))]) _
    show own_S p e below T1 (mkF m 24 #[vr a, vr b, vi (6 : Int32), vi (0 : Int32), vj c0, .second] [xi (lcmpW c0 (0 : Int64))]) _
    refine XS.ifYes X1.here hx rfl (pc0 := 24) (pc' := 29) rfl (hb hby d7_24) rfl as2 (by decide) (by decide) ?_
    show own_S p e below T1 (mkF m 29 #[vr a, vr b, vi (6 : Int32), vi (0 : Int32), vj c0, .second] []) _
    refine XS.iinc X1.here hx rfl (hb hby d7_29) rfl (l' := #[vr a, vr b, vi (6 : Int32), vi ((0 : Int32) + (1 : Int32)), vj c0, .second]) rfl ?_
    refine castTop (show (mkF m 32 #[vr a, vr b, vi (6 : Int32), vi ((0 : Int32) + (1 : Int32)), vj c0, .second] []) = (mkF m 32 #[vr a, vr b, vi (6 : Int32), vi (1 : Int32), vj c0, .second] []) from by rw [show ((0 : Int32) + (1 : Int32)) = (1 : Int32) from by decide]) ?_
    show own_S p e below T1 (mkF m 32 #[vr a, vr b, vi (6 : Int32), vi (1 : Int32), vj c0, .second] []) _
    refine XS.goto X1.here hx rfl (pc0 := 32) (pc' := 10) rfl (hb hby d7_32) (by decide) (by decide) ?_
    show own_S p e below T1 (mkF m 10 #[vr a, vr b, vi (6 : Int32), vi (1 : Int32), vj c0, .second] []) _
    refine XS.iloadN X1.here hx rfl (hb hby d7_10) rfl ?_
    show own_S p e below T1 (mkF m 11 #[vr a, vr b, vi (6 : Int32), vi (1 : Int32), vj c0, .second] [xi (1 : Int32)]) _
    refine XS.iloadN X1.here hx rfl (hb hby d7_11) rfl ?_
    show own_S p e below T1 (mkF m 12 #[vr a, vr b, vi (6 : Int32), vi (1 : Int32), vj c0, .second] [xi (6 : Int32), xi (1 : Int32)]) _
    refine XS.icmpNo X1.here hx rfl (hb hby d7_12) rfl (by decide) ?_
    show own_S p e below T1 (mkF m 15 #[vr a, vr b, vi (6 : Int32), vi (1 : Int32), vj c0, .second] []) _
    refine XS.aloadN X1.here hx rfl (hb hby d7_15) rfl rfl ?_
    show own_S p e below T1 (mkF m 16 #[vr a, vr b, vi (6 : Int32), vi (1 : Int32), vj c0, .second] [xr b]) _
    refine XS.iloadN X1.here hx rfl (hb hby d7_16) rfl ?_
    show own_S p e below T1 (mkF m 17 #[vr a, vr b, vi (6 : Int32), vi (1 : Int32), vj c0, .second] [xi (1 : Int32), xr b]) _
    refine X1.laload hx (j := (1 : Int32)) (v := (xj c1)) (by rw [e1]; exact Ar4.1) (State.isArrayOf_alike hZ.alike Ar4.2.1) Ar4.2.2 hin4 hat4 (g := (mkF m 17 #[vr a, vr b, vi (6 : Int32), vi (1 : Int32), vj c0, .second] [xi (1 : Int32), xr b])) rfl rfl (hb hby d7_17) _ ?_
    show own_S p e below T1 (mkF m 18 #[vr a, vr b, vi (6 : Int32), vi (1 : Int32), vj c0, .second] [xj c1]) _
    refine XS.lstore X1.here hx rfl (hb hby d7_18) rfl (l' := #[vr a, vr b, vi (6 : Int32), vi (1 : Int32), vj c1, .second]) rfl ?_
    show own_S p e below T1 (mkF m 20 #[vr a, vr b, vi (6 : Int32), vi (1 : Int32), vj c1, .second] []) _
    refine XS.lload X1.here hx rfl (hb hby d7_20) rfl ?_
    show own_S p e below T1 (mkF m 22 #[vr a, vr b, vi (6 : Int32), vi (1 : Int32), vj c1, .second] [xj c1]) _
    refine XS.lconst X1.here hx rfl (hb hby d7_22) ?_
    show own_S p e below T1 (mkF m 23 #[vr a, vr b, vi (6 : Int32), vi (1 : Int32), vj c1, .second] [xj (0 : Int64), xj c1]) _
    refine XS.lcmp X1.here hx rfl (hb hby d7_23) rfl ?_
    show own_S p e below T1 (mkF m 24 #[vr a, vr b, vi (6 : Int32), vi (1 : Int32), vj c1, .second] [xi (lcmpW c1 (0 : Int64))]) _
    show own_S p e below T1 (mkF m 24 #[vr a, vr b, vi (6 : Int32), vi (1 : Int32), vj c1, .second] [xi (lcmpW c1 (0 : Int64))]) _
    refine XS.ifYes X1.here hx rfl (pc0 := 24) (pc' := 29) rfl (hb hby d7_24) rfl as4 (by decide) (by decide) ?_
    show own_S p e below T1 (mkF m 29 #[vr a, vr b, vi (6 : Int32), vi (1 : Int32), vj c1, .second] []) _
    refine XS.iinc X1.here hx rfl (hb hby d7_29) rfl (l' := #[vr a, vr b, vi (6 : Int32), vi ((1 : Int32) + (1 : Int32)), vj c1, .second]) rfl ?_
    refine castTop (show (mkF m 32 #[vr a, vr b, vi (6 : Int32), vi ((1 : Int32) + (1 : Int32)), vj c1, .second] []) = (mkF m 32 #[vr a, vr b, vi (6 : Int32), vi (2 : Int32), vj c1, .second] []) from by rw [show ((1 : Int32) + (1 : Int32)) = (2 : Int32) from by decide]) ?_
    show own_S p e below T1 (mkF m 32 #[vr a, vr b, vi (6 : Int32), vi (2 : Int32), vj c1, .second] []) _
    refine XS.goto X1.here hx rfl (pc0 := 32) (pc' := 10) rfl (hb hby d7_32) (by decide) (by decide) ?_
    show own_S p e below T1 (mkF m 10 #[vr a, vr b, vi (6 : Int32), vi (2 : Int32), vj c1, .second] []) _
    refine XS.iloadN X1.here hx rfl (hb hby d7_10) rfl ?_
    show own_S p e below T1 (mkF m 11 #[vr a, vr b, vi (6 : Int32), vi (2 : Int32), vj c1, .second] [xi (2 : Int32)]) _
    refine XS.iloadN X1.here hx rfl (hb hby d7_11) rfl ?_
    show own_S p e below T1 (mkF m 12 #[vr a, vr b, vi (6 : Int32), vi (2 : Int32), vj c1, .second] [xi (6 : Int32), xi (2 : Int32)]) _
    refine XS.icmpNo X1.here hx rfl (hb hby d7_12) rfl (by decide) ?_
    show own_S p e below T1 (mkF m 15 #[vr a, vr b, vi (6 : Int32), vi (2 : Int32), vj c1, .second] []) _
    refine XS.aloadN X1.here hx rfl (hb hby d7_15) rfl rfl ?_
    show own_S p e below T1 (mkF m 16 #[vr a, vr b, vi (6 : Int32), vi (2 : Int32), vj c1, .second] [xr b]) _
    refine XS.iloadN X1.here hx rfl (hb hby d7_16) rfl ?_
    show own_S p e below T1 (mkF m 17 #[vr a, vr b, vi (6 : Int32), vi (2 : Int32), vj c1, .second] [xi (2 : Int32), xr b]) _
    refine X1.laload hx (j := (2 : Int32)) (v := (xj c2)) (by rw [e1]; exact Ar5.1) (State.isArrayOf_alike hZ.alike Ar5.2.1) Ar5.2.2 hin5 hat5 (g := (mkF m 17 #[vr a, vr b, vi (6 : Int32), vi (2 : Int32), vj c1, .second] [xi (2 : Int32), xr b])) rfl rfl (hb hby d7_17) _ ?_
    show own_S p e below T1 (mkF m 18 #[vr a, vr b, vi (6 : Int32), vi (2 : Int32), vj c1, .second] [xj c2]) _
    refine XS.lstore X1.here hx rfl (hb hby d7_18) rfl (l' := #[vr a, vr b, vi (6 : Int32), vi (2 : Int32), vj c2, .second]) rfl ?_
    show own_S p e below T1 (mkF m 20 #[vr a, vr b, vi (6 : Int32), vi (2 : Int32), vj c2, .second] []) _
    refine XS.lload X1.here hx rfl (hb hby d7_20) rfl ?_
    show own_S p e below T1 (mkF m 22 #[vr a, vr b, vi (6 : Int32), vi (2 : Int32), vj c2, .second] [xj c2]) _
    refine XS.lconst X1.here hx rfl (hb hby d7_22) ?_
    show own_S p e below T1 (mkF m 23 #[vr a, vr b, vi (6 : Int32), vi (2 : Int32), vj c2, .second] [xj (0 : Int64), xj c2]) _
    refine XS.lcmp X1.here hx rfl (hb hby d7_23) rfl ?_
    show own_S p e below T1 (mkF m 24 #[vr a, vr b, vi (6 : Int32), vi (2 : Int32), vj c2, .second] [xi (lcmpW c2 (0 : Int64))]) _
    show own_S p e below T1 (mkF m 24 #[vr a, vr b, vi (6 : Int32), vi (2 : Int32), vj c2, .second] [xi (lcmpW c2 (0 : Int64))]) _
    refine XS.ifNo X1.here hx rfl (hb hby d7_24) rfl as5 ?_
    show own_S p e below T1 (mkF m 27 #[vr a, vr b, vi (6 : Int32), vi (2 : Int32), vj c2, .second] []) _
    refine XS.iconst X1.here hx rfl (hb hby d7_27) ?_
    show own_S p e below T1 (mkF m 28 #[vr a, vr b, vi (6 : Int32), vi (2 : Int32), vj c2, .second] [xi (0 : Int32)]) _
    exact retN X1 hx (t := .boolean) Bd.returns (by simp) (hb hby d7_28) hr
  · exact ⟨rfl, N0, e1⟩
theorem ef_own_empty3 (m : MethodId) (u0 u1 u2 u3 u4 u5 u6 : Addr) (a : Addr) (b : Addr) (k : ClassId) (c0 : Int64) (c1 : Int64) (c2 : Int64) (c3 : Int64) (c4 : Int64) (c5 : Int64) : entryFrame m #[xr a] 6 = (mkF m 0 #[vr a, vu, vu, vu, vu, vu] []) := by first | (simp [entryFrame, mkF, argsToLocals, Value.category]; done) | rfl
set_option maxRecDepth 65536 in
set_option maxHeartbeats 40000000 in
theorem own_empty3 (l : Launch) (Z : State) (a0 : Array Value) (hw : ∀ d ∈ tables_1, d.before a0 Z = true) (u0 u1 u2 u3 u4 u5 u6 : Addr) (G : own_St Z u0 u1 u2 u3 u4 u5 u6) (a : Addr) (b : Addr) (k : ClassId) (c0 : Int64) (c1 : Int64) (c2 : Int64) (c3 : Int64) (c4 : Int64) (c5 : Int64) (as2 : ifCond.holds .le (lcmpW c0 (0 : Int64)) = true) (as4 : ifCond.holds .le (lcmpW c1 (0 : Int64)) = true) (as6 : ifCond.holds .le (lcmpW c2 (0 : Int64)) = true) (as7 : ifCond.holds .le (lcmpW c3 (0 : Int64)) = false) (h0 : Heap) (n0 : Nat) (O0 : Old Z n0 h0) (gL : own_LS Z h0 n0 a b k c0 c1 c2 c3 c4 c5) : own_Met l Z Y6 prog_46_method_4_code 6 (some .boolean) ({ frames := 0, cells := 0, slots := 0, locals := 0 } : Room) #[xr a] h0 (own_QR (some (xi (0 : Int32))) h0 n0) := by
  intro ws
  refine MetFree.of_bodySF (plainFor_of_name pn1) hisR ?_
  intro p e s m args below meth c s₁ Bd hml0 hP hK
  obtain ⟨rfl, hZ, hh⟩ := hP
  have hx := Bd.exec
  have hby := Bd.bytes
  have hml : c.maxLocals = 6 := hml0
  have hown : s.vm.findClass "com/example/stackwright/stackwright/engine/ManaPool" = some m.cls := findClass_of_methodNamed Bd.named
  have hnm := (name_of_methodNamed Bd.named Bd.method).1
  have X0 : Stand p l e ({ frames := 0, cells := 0, slots := 0, locals := 0 } : Room) s m #[xr a] below meth c s₁ [] 0 0 := Stand.of_body Bd
  have e0 : s₁.heap = h0 := by rw [← hh, Bd.state]; rfl
  have N0 := Fr.nil n0
  have pre0 : ∀ t, Steps p.tables e below (s₁.setTop (mkF m 0 #[vr a, vu, vu, vu, vu, vu] [])) t → Steps p.tables e below (s₁.setTop (entryFrame m #[xr a] 6)) t := fun t st => castTop (ef_own_empty3 m u0 u1 u2 u3 u4 u5 u6 a b k c0 c1 c2 c3 c4 c5) st
  obtain ⟨EA, FA, VA, ne_a_b, g_a, g_b⟩ := gL
  obtain ⟨T1, X1, e1, st1⟩ := getF X0 hx hZ hown (host := "") (Or.inl (ww hw 33 rfl)) Via.refl e0 FA (g := (mkF m 1 #[vr a, vu, vu, vu, vu, vu] [xr a])) rfl rfl (hb hby d7_1)
  obtain ⟨cl2, Ar2, q2, S2, N2_, H2, G2⟩ := id VA
  obtain ⟨cl3, Ar3, q3, S3, N3_, H3, G3⟩ := id VA
  have hin3 : ¬ ((0 : Int32) < 0 ∨ cl3.slots.size ≤ ((0 : Int32)).toNatClampNeg) := inb_of S3 ⟨by decide, by decide⟩
  have hat3 : cl3.slots[((0 : Int32)).toNatClampNeg]? = some (xj c0) := Has.at H3 hin3 rfl
  obtain ⟨cl4, Ar4, q4, S4, N4_, H4, G4⟩ := id VA
  have hin4 : ¬ ((1 : Int32) < 0 ∨ cl4.slots.size ≤ ((1 : Int32)).toNatClampNeg) := inb_of S4 ⟨by decide, by decide⟩
  have hat4 : cl4.slots[((1 : Int32)).toNatClampNeg]? = some (xj c1) := Has.at H4 hin4 rfl
  obtain ⟨cl5, Ar5, q5, S5, N5_, H5, G5⟩ := id VA
  have hin5 : ¬ ((2 : Int32) < 0 ∨ cl5.slots.size ≤ ((2 : Int32)).toNatClampNeg) := inb_of S5 ⟨by decide, by decide⟩
  have hat5 : cl5.slots[((2 : Int32)).toNatClampNeg]? = some (xj c2) := Has.at H5 hin5 rfl
  obtain ⟨cl6, Ar6, q6, S6, N6_, H6, G6⟩ := id VA
  have hin6 : ¬ ((3 : Int32) < 0 ∨ cl6.slots.size ≤ ((3 : Int32)).toNatClampNeg) := inb_of S6 ⟨by decide, by decide⟩
  have hat6 : cl6.slots[((3 : Int32)).toNatClampNeg]? = some (xj c3) := Has.at H6 hin6 rfl
  obtain ⟨fs, hr, hrun, hended, hW, hsame⟩ := X1.leave (v := some (xi (0 : Int32))) (fun h => by rw [Bd.returns] at h; cases h)
  refine ⟨_, _, pre0 _ ?_, hrun, hended, _, _, rfl, ?_, ⟨_, rfl⟩, hW, hsame.mono (by decide) (by decide)⟩
  · show own_S p e below s₁ (mkF m 0 #[vr a, vu, vu, vu, vu, vu] []) _
    refine XS.aloadN X0.here hx rfl (hb hby d7_0) rfl rfl ?_
    show own_S p e below s₁ (mkF m 1 #[vr a, vu, vu, vu, vu, vu] [xr a]) _
    refine st1 _ ?_
    show own_S p e below T1 (mkF m 4 #[vr a, vu, vu, vu, vu, vu] [xr b]) _
    refine XS.astoreN X1.here hx rfl (hb hby d7_4) rfl rfl (l' := #[vr a, vr b, vu, vu, vu, vu]) rfl ?_
    show own_S p e below T1 (mkF m 5 #[vr a, vr b, vu, vu, vu, vu] []) _
    refine XS.aloadN X1.here hx rfl (hb hby d7_5) rfl rfl ?_
    show own_S p e below T1 (mkF m 6 #[vr a, vr b, vu, vu, vu, vu] [xr b]) _
    refine X1.arraylength hx (by rw [e1]; exact Ar2.1) (State.isArrayOf_alike hZ.alike Ar2.2.1) (g := (mkF m 6 #[vr a, vr b, vu, vu, vu, vu] [xr b])) rfl rfl (hb hby d7_6) _ ?_
    refine castTop (show (mkF m 7 #[vr a, vr b, vu, vu, vu, vu] [xi cl2.slots.size.toInt32]) = (mkF m 7 #[vr a, vr b, vu, vu, vu, vu] [xi (6 : Int32)]) from by rw [len_of S2 N2_]) ?_
    show own_S p e below T1 (mkF m 7 #[vr a, vr b, vu, vu, vu, vu] [xi (6 : Int32)]) _
    refine XS.istoreN X1.here hx rfl (hb hby d7_7) rfl (l' := #[vr a, vr b, vi (6 : Int32), vu, vu, vu]) rfl ?_
    show own_S p e below T1 (mkF m 8 #[vr a, vr b, vi (6 : Int32), vu, vu, vu] []) _
    refine XS.iconst X1.here hx rfl (hb hby d7_8) ?_
    show own_S p e below T1 (mkF m 9 #[vr a, vr b, vi (6 : Int32), vu, vu, vu] [xi (0 : Int32)]) _
    refine XS.istoreN X1.here hx rfl (hb hby d7_9) rfl (l' := #[vr a, vr b, vi (6 : Int32), vi (0 : Int32), vu, vu]) rfl ?_
    show own_S p e below T1 (mkF m 10 #[vr a, vr b, vi (6 : Int32), vi (0 : Int32), vu, vu] []) _
    refine XS.iloadN X1.here hx rfl (hb hby d7_10) rfl ?_
    show own_S p e below T1 (mkF m 11 #[vr a, vr b, vi (6 : Int32), vi (0 : Int32), vu, vu] [xi (0 : Int32)]) _
    refine XS.iloadN X1.here hx rfl (hb hby d7_11) rfl ?_
    show own_S p e below T1 (mkF m 12 #[vr a, vr b, vi (6 : Int32), vi (0 : Int32), vu, vu] [xi (6 : Int32), xi (0 : Int32)]) _
    refine XS.icmpNo X1.here hx rfl (hb hby d7_12) rfl (by decide) ?_
    show own_S p e below T1 (mkF m 15 #[vr a, vr b, vi (6 : Int32), vi (0 : Int32), vu, vu] []) _
    refine XS.aloadN X1.here hx rfl (hb hby d7_15) rfl rfl ?_
    show own_S p e below T1 (mkF m 16 #[vr a, vr b, vi (6 : Int32), vi (0 : Int32), vu, vu] [xr b]) _
    refine XS.iloadN X1.here hx rfl (hb hby d7_16) rfl ?_
    show own_S p e below T1 (mkF m 17 #[vr a, vr b, vi (6 : Int32), vi (0 : Int32), vu, vu] [xi (0 : Int32), xr b]) _
    refine X1.laload hx (j := (0 : Int32)) (v := (xj c0)) (by rw [e1]; exact Ar3.1) (State.isArrayOf_alike hZ.alike Ar3.2.1) Ar3.2.2 hin3 hat3 (g := (mkF m 17 #[vr a, vr b, vi (6 : Int32), vi (0 : Int32), vu, vu] [xi (0 : Int32), xr b])) rfl rfl (hb hby d7_17) _ ?_
    show own_S p e below T1 (mkF m 18 #[vr a, vr b, vi (6 : Int32), vi (0 : Int32), vu, vu] [xj c0]) _
    refine XS.lstore X1.here hx rfl (hb hby d7_18) rfl (l' := #[vr a, vr b, vi (6 : Int32), vi (0 : Int32), vj c0, .second]) rfl ?_
    show own_S p e below T1 (mkF m 20 #[vr a, vr b, vi (6 : Int32), vi (0 : Int32), vj c0, .second] []) _
    refine XS.lload X1.here hx rfl (hb hby d7_20) rfl ?_
    show own_S p e below T1 (mkF m 22 #[vr a, vr b, vi (6 : Int32), vi (0 : Int32), vj c0, .second] [xj c0]) _
    refine XS.lconst X1.here hx rfl (hb hby d7_22) ?_
    show own_S p e below T1 (mkF m 23 #[vr a, vr b, vi (6 : Int32), vi (0 : Int32), vj c0, .second] [xj (0 : Int64), xj c0]) _
    refine XS.lcmp X1.here hx rfl (hb hby d7_23) rfl ?_
    show own_S p e below T1 (mkF m 24 #[vr a, vr b, vi (6 : Int32), vi (0 : Int32), vj c0, .second] [xi (lcmpW c0 (0 : Int64))]) _
    show own_S p e below T1 (mkF m 24 #[vr a, vr b, vi (6 : Int32), vi (0 : Int32), vj c0, .second] [xi (lcmpW c0 (0 : Int64))]) _
    refine XS.ifYes X1.here hx rfl (pc0 := 24) (pc' := 29) rfl (hb hby d7_24) rfl as2 (by decide) (by decide) ?_
    show own_S p e below T1 (mkF m 29 #[vr a, vr b, vi (6 : Int32), vi (0 : Int32), vj c0, .second] []) _
    refine XS.iinc X1.here hx rfl (hb hby d7_29) rfl (l' := #[vr a, vr b, vi (6 : Int32), vi ((0 : Int32) + (1 : Int32)), vj c0, .second]) rfl ?_
    refine castTop (show (mkF m 32 #[vr a, vr b, vi (6 : Int32), vi ((0 : Int32) + (1 : Int32)), vj c0, .second] []) = (mkF m 32 #[vr a, vr b, vi (6 : Int32), vi (1 : Int32), vj c0, .second] []) from by rw [show ((0 : Int32) + (1 : Int32)) = (1 : Int32) from by decide]) ?_
    show own_S p e below T1 (mkF m 32 #[vr a, vr b, vi (6 : Int32), vi (1 : Int32), vj c0, .second] []) _
    refine XS.goto X1.here hx rfl (pc0 := 32) (pc' := 10) rfl (hb hby d7_32) (by decide) (by decide) ?_
    show own_S p e below T1 (mkF m 10 #[vr a, vr b, vi (6 : Int32), vi (1 : Int32), vj c0, .second] []) _
    refine XS.iloadN X1.here hx rfl (hb hby d7_10) rfl ?_
    show own_S p e below T1 (mkF m 11 #[vr a, vr b, vi (6 : Int32), vi (1 : Int32), vj c0, .second] [xi (1 : Int32)]) _
    refine XS.iloadN X1.here hx rfl (hb hby d7_11) rfl ?_
    show own_S p e below T1 (mkF m 12 #[vr a, vr b, vi (6 : Int32), vi (1 : Int32), vj c0, .second] [xi (6 : Int32), xi (1 : Int32)]) _
    refine XS.icmpNo X1.here hx rfl (hb hby d7_12) rfl (by decide) ?_
    show own_S p e below T1 (mkF m 15 #[vr a, vr b, vi (6 : Int32), vi (1 : Int32), vj c0, .second] []) _
    refine XS.aloadN X1.here hx rfl (hb hby d7_15) rfl rfl ?_
    show own_S p e below T1 (mkF m 16 #[vr a, vr b, vi (6 : Int32), vi (1 : Int32), vj c0, .second] [xr b]) _
    refine XS.iloadN X1.here hx rfl (hb hby d7_16) rfl ?_
    show own_S p e below T1 (mkF m 17 #[vr a, vr b, vi (6 : Int32), vi (1 : Int32), vj c0, .second] [xi (1 : Int32), xr b]) _
    refine X1.laload hx (j := (1 : Int32)) (v := (xj c1)) (by rw [e1]; exact Ar4.1) (State.isArrayOf_alike hZ.alike Ar4.2.1) Ar4.2.2 hin4 hat4 (g := (mkF m 17 #[vr a, vr b, vi (6 : Int32), vi (1 : Int32), vj c0, .second] [xi (1 : Int32), xr b])) rfl rfl (hb hby d7_17) _ ?_
    show own_S p e below T1 (mkF m 18 #[vr a, vr b, vi (6 : Int32), vi (1 : Int32), vj c0, .second] [xj c1]) _
    refine XS.lstore X1.here hx rfl (hb hby d7_18) rfl (l' := #[vr a, vr b, vi (6 : Int32), vi (1 : Int32), vj c1, .second]) rfl ?_
    show own_S p e below T1 (mkF m 20 #[vr a, vr b, vi (6 : Int32), vi (1 : Int32), vj c1, .second] []) _
    refine XS.lload X1.here hx rfl (hb hby d7_20) rfl ?_
    show own_S p e below T1 (mkF m 22 #[vr a, vr b, vi (6 : Int32), vi (1 : Int32), vj c1, .second] [xj c1]) _
    refine XS.lconst X1.here hx rfl (hb hby d7_22) ?_
    show own_S p e below T1 (mkF m 23 #[vr a, vr b, vi (6 : Int32), vi (1 : Int32), vj c1, .second] [xj (0 : Int64), xj c1]) _
    refine XS.lcmp X1.here hx rfl (hb hby d7_23) rfl ?_
    show own_S p e below T1 (mkF m 24 #[vr a, vr b, vi (6 : Int32), vi (1 : Int32), vj c1, .second] [xi (lcmpW c1 (0 : Int64))]) _
    show own_S p e below T1 (mkF m 24 #[vr a, vr b, vi (6 : Int32), vi (1 : Int32), vj c1, .second] [xi (lcmpW c1 (0 : Int64))]) _
    refine XS.ifYes X1.here hx rfl (pc0 := 24) (pc' := 29) rfl (hb hby d7_24) rfl as4 (by decide) (by decide) ?_
    show own_S p e below T1 (mkF m 29 #[vr a, vr b, vi (6 : Int32), vi (1 : Int32), vj c1, .second] []) _
    refine XS.iinc X1.here hx rfl (hb hby d7_29) rfl (l' := #[vr a, vr b, vi (6 : Int32), vi ((1 : Int32) + (1 : Int32)), vj c1, .second]) rfl ?_
    refine castTop (show (mkF m 32 #[vr a, vr b, vi (6 : Int32), vi ((1 : Int32) + (1 : Int32)), vj c1, .second] []) = (mkF m 32 #[vr a, vr b, vi (6 : Int32), vi (2 : Int32), vj c1, .second] []) from by rw [show ((1 : Int32) + (1 : Int32)) = (2 : Int32) from by decide]) ?_
    show own_S p e below T1 (mkF m 32 #[vr a, vr b, vi (6 : Int32), vi (2 : Int32), vj c1, .second] []) _
    refine XS.goto X1.here hx rfl (pc0 := 32) (pc' := 10) rfl (hb hby d7_32) (by decide) (by decide) ?_
    show own_S p e below T1 (mkF m 10 #[vr a, vr b, vi (6 : Int32), vi (2 : Int32), vj c1, .second] []) _
    refine XS.iloadN X1.here hx rfl (hb hby d7_10) rfl ?_
    show own_S p e below T1 (mkF m 11 #[vr a, vr b, vi (6 : Int32), vi (2 : Int32), vj c1, .second] [xi (2 : Int32)]) _
    refine XS.iloadN X1.here hx rfl (hb hby d7_11) rfl ?_
    show own_S p e below T1 (mkF m 12 #[vr a, vr b, vi (6 : Int32), vi (2 : Int32), vj c1, .second] [xi (6 : Int32), xi (2 : Int32)]) _
    refine XS.icmpNo X1.here hx rfl (hb hby d7_12) rfl (by decide) ?_
    show own_S p e below T1 (mkF m 15 #[vr a, vr b, vi (6 : Int32), vi (2 : Int32), vj c1, .second] []) _
    refine XS.aloadN X1.here hx rfl (hb hby d7_15) rfl rfl ?_
    show own_S p e below T1 (mkF m 16 #[vr a, vr b, vi (6 : Int32), vi (2 : Int32), vj c1, .second] [xr b]) _
    refine XS.iloadN X1.here hx rfl (hb hby d7_16) rfl ?_
    show own_S p e below T1 (mkF m 17 #[vr a, vr b, vi (6 : Int32), vi (2 : Int32), vj c1, .second] [xi (2 : Int32), xr b]) _
    refine X1.laload hx (j := (2 : Int32)) (v := (xj c2)) (by rw [e1]; exact Ar5.1) (State.isArrayOf_alike hZ.alike Ar5.2.1) Ar5.2.2 hin5 hat5 (g := (mkF m 17 #[vr a, vr b, vi (6 : Int32), vi (2 : Int32), vj c1, .second] [xi (2 : Int32), xr b])) rfl rfl (hb hby d7_17) _ ?_
    show own_S p e below T1 (mkF m 18 #[vr a, vr b, vi (6 : Int32), vi (2 : Int32), vj c1, .second] [xj c2]) _
    refine XS.lstore X1.here hx rfl (hb hby d7_18) rfl (l' := #[vr a, vr b, vi (6 : Int32), vi (2 : Int32), vj c2, .second]) rfl ?_
    show own_S p e below T1 (mkF m 20 #[vr a, vr b, vi (6 : Int32), vi (2 : Int32), vj c2, .second] []) _
    refine XS.lload X1.here hx rfl (hb hby d7_20) rfl ?_
    show own_S p e below T1 (mkF m 22 #[vr a, vr b, vi (6 : Int32), vi (2 : Int32), vj c2, .second] [xj c2]) _
    refine XS.lconst X1.here hx rfl (hb hby d7_22) ?_
    show own_S p e below T1 (mkF m 23 #[vr a, vr b, vi (6 : Int32), vi (2 : Int32), vj c2, .second] [xj (0 : Int64), xj c2]) _
    refine XS.lcmp X1.here hx rfl (hb hby d7_23) rfl ?_
    show own_S p e below T1 (mkF m 24 #[vr a, vr b, vi (6 : Int32), vi (2 : Int32), vj c2, .second] [xi (lcmpW c2 (0 : Int64))]) _
    show own_S p e below T1 (mkF m 24 #[vr a, vr b, vi (6 : Int32), vi (2 : Int32), vj c2, .second] [xi (lcmpW c2 (0 : Int64))]) _
    refine XS.ifYes X1.here hx rfl (pc0 := 24) (pc' := 29) rfl (hb hby d7_24) rfl as6 (by decide) (by decide) ?_
    show own_S p e below T1 (mkF m 29 #[vr a, vr b, vi (6 : Int32), vi (2 : Int32), vj c2, .second] []) _
    refine XS.iinc X1.here hx rfl (hb hby d7_29) rfl (l' := #[vr a, vr b, vi (6 : Int32), vi ((2 : Int32) + (1 : Int32)), vj c2, .second]) rfl ?_
    refine castTop (show (mkF m 32 #[vr a, vr b, vi (6 : Int32), vi ((2 : Int32) + (1 : Int32)), vj c2, .second] []) = (mkF m 32 #[vr a, vr b, vi (6 : Int32), vi (3 : Int32), vj c2, .second] []) from by rw [show ((2 : Int32) + (1 : Int32)) = (3 : Int32) from by decide]) ?_
    show own_S p e below T1 (mkF m 32 #[vr a, vr b, vi (6 : Int32), vi (3 : Int32), vj c2, .second] []) _
    refine XS.goto X1.here hx rfl (pc0 := 32) (pc' := 10) rfl (hb hby d7_32) (by decide) (by decide) ?_
    show own_S p e below T1 (mkF m 10 #[vr a, vr b, vi (6 : Int32), vi (3 : Int32), vj c2, .second] []) _
    refine XS.iloadN X1.here hx rfl (hb hby d7_10) rfl ?_
    show own_S p e below T1 (mkF m 11 #[vr a, vr b, vi (6 : Int32), vi (3 : Int32), vj c2, .second] [xi (3 : Int32)]) _
    refine XS.iloadN X1.here hx rfl (hb hby d7_11) rfl ?_
    show own_S p e below T1 (mkF m 12 #[vr a, vr b, vi (6 : Int32), vi (3 : Int32), vj c2, .second] [xi (6 : Int32), xi (3 : Int32)]) _
    refine XS.icmpNo X1.here hx rfl (hb hby d7_12) rfl (by decide) ?_
    show own_S p e below T1 (mkF m 15 #[vr a, vr b, vi (6 : Int32), vi (3 : Int32), vj c2, .second] []) _
    refine XS.aloadN X1.here hx rfl (hb hby d7_15) rfl rfl ?_
    show own_S p e below T1 (mkF m 16 #[vr a, vr b, vi (6 : Int32), vi (3 : Int32), vj c2, .second] [xr b]) _
    refine XS.iloadN X1.here hx rfl (hb hby d7_16) rfl ?_
    show own_S p e below T1 (mkF m 17 #[vr a, vr b, vi (6 : Int32), vi (3 : Int32), vj c2, .second] [xi (3 : Int32), xr b]) _
    refine X1.laload hx (j := (3 : Int32)) (v := (xj c3)) (by rw [e1]; exact Ar6.1) (State.isArrayOf_alike hZ.alike Ar6.2.1) Ar6.2.2 hin6 hat6 (g := (mkF m 17 #[vr a, vr b, vi (6 : Int32), vi (3 : Int32), vj c2, .second] [xi (3 : Int32), xr b])) rfl rfl (hb hby d7_17) _ ?_
    show own_S p e below T1 (mkF m 18 #[vr a, vr b, vi (6 : Int32), vi (3 : Int32), vj c2, .second] [xj c3]) _
    refine XS.lstore X1.here hx rfl (hb hby d7_18) rfl (l' := #[vr a, vr b, vi (6 : Int32), vi (3 : Int32), vj c3, .second]) rfl ?_
    show own_S p e below T1 (mkF m 20 #[vr a, vr b, vi (6 : Int32), vi (3 : Int32), vj c3, .second] []) _
    refine XS.lload X1.here hx rfl (hb hby d7_20) rfl ?_
    show own_S p e below T1 (mkF m 22 #[vr a, vr b, vi (6 : Int32), vi (3 : Int32), vj c3, .second] [xj c3]) _
    refine XS.lconst X1.here hx rfl (hb hby d7_22) ?_
    show own_S p e below T1 (mkF m 23 #[vr a, vr b, vi (6 : Int32), vi (3 : Int32), vj c3, .second] [xj (0 : Int64), xj c3]) _
    refine XS.lcmp X1.here hx rfl (hb hby d7_23) rfl ?_
    show own_S p e below T1 (mkF m 24 #[vr a, vr b, vi (6 : Int32), vi (3 : Int32), vj c3, .second] [xi (lcmpW c3 (0 : Int64))]) _
    show own_S p e below T1 (mkF m 24 #[vr a, vr b, vi (6 : Int32), vi (3 : Int32), vj c3, .second] [xi (lcmpW c3 (0 : Int64))]) _
    refine XS.ifNo X1.here hx rfl (hb hby d7_24) rfl as7 ?_
    show own_S p e below T1 (mkF m 27 #[vr a, vr b, vi (6 : Int32), vi (3 : Int32), vj c3, .second] []) _
    refine XS.iconst X1.here hx rfl (hb hby d7_27) ?_
    show own_S p e below T1 (mkF m 28 #[vr a, vr b, vi (6 : Int32), vi (3 : Int32), vj c3, .second] [xi (0 : Int32)]) _
    exact retN X1 hx (t := .boolean) Bd.returns (by simp) (hb hby d7_28) hr
  · exact ⟨rfl, N0, e1⟩
theorem ef_own_empty4 (m : MethodId) (u0 u1 u2 u3 u4 u5 u6 : Addr) (a : Addr) (b : Addr) (k : ClassId) (c0 : Int64) (c1 : Int64) (c2 : Int64) (c3 : Int64) (c4 : Int64) (c5 : Int64) : entryFrame m #[xr a] 6 = (mkF m 0 #[vr a, vu, vu, vu, vu, vu] []) := by first | (simp [entryFrame, mkF, argsToLocals, Value.category]; done) | rfl
set_option maxRecDepth 65536 in
set_option maxHeartbeats 40000000 in
theorem own_empty4 (l : Launch) (Z : State) (a0 : Array Value) (hw : ∀ d ∈ tables_1, d.before a0 Z = true) (u0 u1 u2 u3 u4 u5 u6 : Addr) (G : own_St Z u0 u1 u2 u3 u4 u5 u6) (a : Addr) (b : Addr) (k : ClassId) (c0 : Int64) (c1 : Int64) (c2 : Int64) (c3 : Int64) (c4 : Int64) (c5 : Int64) (as2 : ifCond.holds .le (lcmpW c0 (0 : Int64)) = true) (as4 : ifCond.holds .le (lcmpW c1 (0 : Int64)) = true) (as6 : ifCond.holds .le (lcmpW c2 (0 : Int64)) = true) (as8 : ifCond.holds .le (lcmpW c3 (0 : Int64)) = true) (as9 : ifCond.holds .le (lcmpW c4 (0 : Int64)) = false) (h0 : Heap) (n0 : Nat) (O0 : Old Z n0 h0) (gL : own_LS Z h0 n0 a b k c0 c1 c2 c3 c4 c5) : own_Met l Z Y6 prog_46_method_4_code 6 (some .boolean) ({ frames := 0, cells := 0, slots := 0, locals := 0 } : Room) #[xr a] h0 (own_QR (some (xi (0 : Int32))) h0 n0) := by
  intro ws
  refine MetFree.of_bodySF (plainFor_of_name pn1) hisR ?_
  intro p e s m args below meth c s₁ Bd hml0 hP hK
  obtain ⟨rfl, hZ, hh⟩ := hP
  have hx := Bd.exec
  have hby := Bd.bytes
  have hml : c.maxLocals = 6 := hml0
  have hown : s.vm.findClass "com/example/stackwright/stackwright/engine/ManaPool" = some m.cls := findClass_of_methodNamed Bd.named
  have hnm := (name_of_methodNamed Bd.named Bd.method).1
  have X0 : Stand p l e ({ frames := 0, cells := 0, slots := 0, locals := 0 } : Room) s m #[xr a] below meth c s₁ [] 0 0 := Stand.of_body Bd
  have e0 : s₁.heap = h0 := by rw [← hh, Bd.state]; rfl
  have N0 := Fr.nil n0
  have pre0 : ∀ t, Steps p.tables e below (s₁.setTop (mkF m 0 #[vr a, vu, vu, vu, vu, vu] [])) t → Steps p.tables e below (s₁.setTop (entryFrame m #[xr a] 6)) t := fun t st => castTop (ef_own_empty4 m u0 u1 u2 u3 u4 u5 u6 a b k c0 c1 c2 c3 c4 c5) st
  obtain ⟨EA, FA, VA, ne_a_b, g_a, g_b⟩ := gL
  obtain ⟨T1, X1, e1, st1⟩ := getF X0 hx hZ hown (host := "") (Or.inl (ww hw 33 rfl)) Via.refl e0 FA (g := (mkF m 1 #[vr a, vu, vu, vu, vu, vu] [xr a])) rfl rfl (hb hby d7_1)
  obtain ⟨cl2, Ar2, q2, S2, N2_, H2, G2⟩ := id VA
  obtain ⟨cl3, Ar3, q3, S3, N3_, H3, G3⟩ := id VA
  have hin3 : ¬ ((0 : Int32) < 0 ∨ cl3.slots.size ≤ ((0 : Int32)).toNatClampNeg) := inb_of S3 ⟨by decide, by decide⟩
  have hat3 : cl3.slots[((0 : Int32)).toNatClampNeg]? = some (xj c0) := Has.at H3 hin3 rfl
  obtain ⟨cl4, Ar4, q4, S4, N4_, H4, G4⟩ := id VA
  have hin4 : ¬ ((1 : Int32) < 0 ∨ cl4.slots.size ≤ ((1 : Int32)).toNatClampNeg) := inb_of S4 ⟨by decide, by decide⟩
  have hat4 : cl4.slots[((1 : Int32)).toNatClampNeg]? = some (xj c1) := Has.at H4 hin4 rfl
  obtain ⟨cl5, Ar5, q5, S5, N5_, H5, G5⟩ := id VA
  have hin5 : ¬ ((2 : Int32) < 0 ∨ cl5.slots.size ≤ ((2 : Int32)).toNatClampNeg) := inb_of S5 ⟨by decide, by decide⟩
  have hat5 : cl5.slots[((2 : Int32)).toNatClampNeg]? = some (xj c2) := Has.at H5 hin5 rfl
  obtain ⟨cl6, Ar6, q6, S6, N6_, H6, G6⟩ := id VA
  have hin6 : ¬ ((3 : Int32) < 0 ∨ cl6.slots.size ≤ ((3 : Int32)).toNatClampNeg) := inb_of S6 ⟨by decide, by decide⟩
  have hat6 : cl6.slots[((3 : Int32)).toNatClampNeg]? = some (xj c3) := Has.at H6 hin6 rfl
  obtain ⟨cl7, Ar7, q7, S7, N7_, H7, G7⟩ := id VA
  have hin7 : ¬ ((4 : Int32) < 0 ∨ cl7.slots.size ≤ ((4 : Int32)).toNatClampNeg) := inb_of S7 ⟨by decide, by decide⟩
  have hat7 : cl7.slots[((4 : Int32)).toNatClampNeg]? = some (xj c4) := Has.at H7 hin7 rfl
  obtain ⟨fs, hr, hrun, hended, hW, hsame⟩ := X1.leave (v := some (xi (0 : Int32))) (fun h => by rw [Bd.returns] at h; cases h)
  refine ⟨_, _, pre0 _ ?_, hrun, hended, _, _, rfl, ?_, ⟨_, rfl⟩, hW, hsame.mono (by decide) (by decide)⟩
  · show own_S p e below s₁ (mkF m 0 #[vr a, vu, vu, vu, vu, vu] []) _
    refine XS.aloadN X0.here hx rfl (hb hby d7_0) rfl rfl ?_
    show own_S p e below s₁ (mkF m 1 #[vr a, vu, vu, vu, vu, vu] [xr a]) _
    refine st1 _ ?_
    show own_S p e below T1 (mkF m 4 #[vr a, vu, vu, vu, vu, vu] [xr b]) _
    refine XS.astoreN X1.here hx rfl (hb hby d7_4) rfl rfl (l' := #[vr a, vr b, vu, vu, vu, vu]) rfl ?_
    show own_S p e below T1 (mkF m 5 #[vr a, vr b, vu, vu, vu, vu] []) _
    refine XS.aloadN X1.here hx rfl (hb hby d7_5) rfl rfl ?_
    show own_S p e below T1 (mkF m 6 #[vr a, vr b, vu, vu, vu, vu] [xr b]) _
    refine X1.arraylength hx (by rw [e1]; exact Ar2.1) (State.isArrayOf_alike hZ.alike Ar2.2.1) (g := (mkF m 6 #[vr a, vr b, vu, vu, vu, vu] [xr b])) rfl rfl (hb hby d7_6) _ ?_
    refine castTop (show (mkF m 7 #[vr a, vr b, vu, vu, vu, vu] [xi cl2.slots.size.toInt32]) = (mkF m 7 #[vr a, vr b, vu, vu, vu, vu] [xi (6 : Int32)]) from by rw [len_of S2 N2_]) ?_
    show own_S p e below T1 (mkF m 7 #[vr a, vr b, vu, vu, vu, vu] [xi (6 : Int32)]) _
    refine XS.istoreN X1.here hx rfl (hb hby d7_7) rfl (l' := #[vr a, vr b, vi (6 : Int32), vu, vu, vu]) rfl ?_
    show own_S p e below T1 (mkF m 8 #[vr a, vr b, vi (6 : Int32), vu, vu, vu] []) _
    refine XS.iconst X1.here hx rfl (hb hby d7_8) ?_
    show own_S p e below T1 (mkF m 9 #[vr a, vr b, vi (6 : Int32), vu, vu, vu] [xi (0 : Int32)]) _
    refine XS.istoreN X1.here hx rfl (hb hby d7_9) rfl (l' := #[vr a, vr b, vi (6 : Int32), vi (0 : Int32), vu, vu]) rfl ?_
    show own_S p e below T1 (mkF m 10 #[vr a, vr b, vi (6 : Int32), vi (0 : Int32), vu, vu] []) _
    refine XS.iloadN X1.here hx rfl (hb hby d7_10) rfl ?_
    show own_S p e below T1 (mkF m 11 #[vr a, vr b, vi (6 : Int32), vi (0 : Int32), vu, vu] [xi (0 : Int32)]) _
    refine XS.iloadN X1.here hx rfl (hb hby d7_11) rfl ?_
    show own_S p e below T1 (mkF m 12 #[vr a, vr b, vi (6 : Int32), vi (0 : Int32), vu, vu] [xi (6 : Int32), xi (0 : Int32)]) _
    refine XS.icmpNo X1.here hx rfl (hb hby d7_12) rfl (by decide) ?_
    show own_S p e below T1 (mkF m 15 #[vr a, vr b, vi (6 : Int32), vi (0 : Int32), vu, vu] []) _
    refine XS.aloadN X1.here hx rfl (hb hby d7_15) rfl rfl ?_
    show own_S p e below T1 (mkF m 16 #[vr a, vr b, vi (6 : Int32), vi (0 : Int32), vu, vu] [xr b]) _
    refine XS.iloadN X1.here hx rfl (hb hby d7_16) rfl ?_
    show own_S p e below T1 (mkF m 17 #[vr a, vr b, vi (6 : Int32), vi (0 : Int32), vu, vu] [xi (0 : Int32), xr b]) _
    refine X1.laload hx (j := (0 : Int32)) (v := (xj c0)) (by rw [e1]; exact Ar3.1) (State.isArrayOf_alike hZ.alike Ar3.2.1) Ar3.2.2 hin3 hat3 (g := (mkF m 17 #[vr a, vr b, vi (6 : Int32), vi (0 : Int32), vu, vu] [xi (0 : Int32), xr b])) rfl rfl (hb hby d7_17) _ ?_
    show own_S p e below T1 (mkF m 18 #[vr a, vr b, vi (6 : Int32), vi (0 : Int32), vu, vu] [xj c0]) _
    refine XS.lstore X1.here hx rfl (hb hby d7_18) rfl (l' := #[vr a, vr b, vi (6 : Int32), vi (0 : Int32), vj c0, .second]) rfl ?_
    show own_S p e below T1 (mkF m 20 #[vr a, vr b, vi (6 : Int32), vi (0 : Int32), vj c0, .second] []) _
    refine XS.lload X1.here hx rfl (hb hby d7_20) rfl ?_
    show own_S p e below T1 (mkF m 22 #[vr a, vr b, vi (6 : Int32), vi (0 : Int32), vj c0, .second] [xj c0]) _
    refine XS.lconst X1.here hx rfl (hb hby d7_22) ?_
    show own_S p e below T1 (mkF m 23 #[vr a, vr b, vi (6 : Int32), vi (0 : Int32), vj c0, .second] [xj (0 : Int64), xj c0]) _
    refine XS.lcmp X1.here hx rfl (hb hby d7_23) rfl ?_
    show own_S p e below T1 (mkF m 24 #[vr a, vr b, vi (6 : Int32), vi (0 : Int32), vj c0, .second] [xi (lcmpW c0 (0 : Int64))]) _
    show own_S p e below T1 (mkF m 24 #[vr a, vr b, vi (6 : Int32), vi (0 : Int32), vj c0, .second] [xi (lcmpW c0 (0 : Int64))]) _
    refine XS.ifYes X1.here hx rfl (pc0 := 24) (pc' := 29) rfl (hb hby d7_24) rfl as2 (by decide) (by decide) ?_
    show own_S p e below T1 (mkF m 29 #[vr a, vr b, vi (6 : Int32), vi (0 : Int32), vj c0, .second] []) _
    refine XS.iinc X1.here hx rfl (hb hby d7_29) rfl (l' := #[vr a, vr b, vi (6 : Int32), vi ((0 : Int32) + (1 : Int32)), vj c0, .second]) rfl ?_
    refine castTop (show (mkF m 32 #[vr a, vr b, vi (6 : Int32), vi ((0 : Int32) + (1 : Int32)), vj c0, .second] []) = (mkF m 32 #[vr a, vr b, vi (6 : Int32), vi (1 : Int32), vj c0, .second] []) from by rw [show ((0 : Int32) + (1 : Int32)) = (1 : Int32) from by decide]) ?_
    show own_S p e below T1 (mkF m 32 #[vr a, vr b, vi (6 : Int32), vi (1 : Int32), vj c0, .second] []) _
    refine XS.goto X1.here hx rfl (pc0 := 32) (pc' := 10) rfl (hb hby d7_32) (by decide) (by decide) ?_
    show own_S p e below T1 (mkF m 10 #[vr a, vr b, vi (6 : Int32), vi (1 : Int32), vj c0, .second] []) _
    refine XS.iloadN X1.here hx rfl (hb hby d7_10) rfl ?_
    show own_S p e below T1 (mkF m 11 #[vr a, vr b, vi (6 : Int32), vi (1 : Int32), vj c0, .second] [xi (1 : Int32)]) _
    refine XS.iloadN X1.here hx rfl (hb hby d7_11) rfl ?_
    show own_S p e below T1 (mkF m 12 #[vr a, vr b, vi (6 : Int32), vi (1 : Int32), vj c0, .second] [xi (6 : Int32), xi (1 : Int32)]) _
    refine XS.icmpNo X1.here hx rfl (hb hby d7_12) rfl (by decide) ?_
    show own_S p e below T1 (mkF m 15 #[vr a, vr b, vi (6 : Int32), vi (1 : Int32), vj c0, .second] []) _
    refine XS.aloadN X1.here hx rfl (hb hby d7_15) rfl rfl ?_
    show own_S p e below T1 (mkF m 16 #[vr a, vr b, vi (6 : Int32), vi (1 : Int32), vj c0, .second] [xr b]) _
    refine XS.iloadN X1.here hx rfl (hb hby d7_16) rfl ?_
    show own_S p e below T1 (mkF m 17 #[vr a, vr b, vi (6 : Int32), vi (1 : Int32), vj c0, .second] [xi (1 : Int32), xr b]) _
    refine X1.laload hx (j := (1 : Int32)) (v := (xj c1)) (by rw [e1]; exact Ar4.1) (State.isArrayOf_alike hZ.alike Ar4.2.1) Ar4.2.2 hin4 hat4 (g := (mkF m 17 #[vr a, vr b, vi (6 : Int32), vi (1 : Int32), vj c0, .second] [xi (1 : Int32), xr b])) rfl rfl (hb hby d7_17) _ ?_
    show own_S p e below T1 (mkF m 18 #[vr a, vr b, vi (6 : Int32), vi (1 : Int32), vj c0, .second] [xj c1]) _
    refine XS.lstore X1.here hx rfl (hb hby d7_18) rfl (l' := #[vr a, vr b, vi (6 : Int32), vi (1 : Int32), vj c1, .second]) rfl ?_
    show own_S p e below T1 (mkF m 20 #[vr a, vr b, vi (6 : Int32), vi (1 : Int32), vj c1, .second] []) _
    refine XS.lload X1.here hx rfl (hb hby d7_20) rfl ?_
    show own_S p e below T1 (mkF m 22 #[vr a, vr b, vi (6 : Int32), vi (1 : Int32), vj c1, .second] [xj c1]) _
    refine XS.lconst X1.here hx rfl (hb hby d7_22) ?_
    show own_S p e below T1 (mkF m 23 #[vr a, vr b, vi (6 : Int32), vi (1 : Int32), vj c1, .second] [xj (0 : Int64), xj c1]) _
    refine XS.lcmp X1.here hx rfl (hb hby d7_23) rfl ?_
    show own_S p e below T1 (mkF m 24 #[vr a, vr b, vi (6 : Int32), vi (1 : Int32), vj c1, .second] [xi (lcmpW c1 (0 : Int64))]) _
    show own_S p e below T1 (mkF m 24 #[vr a, vr b, vi (6 : Int32), vi (1 : Int32), vj c1, .second] [xi (lcmpW c1 (0 : Int64))]) _
    refine XS.ifYes X1.here hx rfl (pc0 := 24) (pc' := 29) rfl (hb hby d7_24) rfl as4 (by decide) (by decide) ?_
    show own_S p e below T1 (mkF m 29 #[vr a, vr b, vi (6 : Int32), vi (1 : Int32), vj c1, .second] []) _
    refine XS.iinc X1.here hx rfl (hb hby d7_29) rfl (l' := #[vr a, vr b, vi (6 : Int32), vi ((1 : Int32) + (1 : Int32)), vj c1, .second]) rfl ?_
    refine castTop (show (mkF m 32 #[vr a, vr b, vi (6 : Int32), vi ((1 : Int32) + (1 : Int32)), vj c1, .second] []) = (mkF m 32 #[vr a, vr b, vi (6 : Int32), vi (2 : Int32), vj c1, .second] []) from by rw [show ((1 : Int32) + (1 : Int32)) = (2 : Int32) from by decide]) ?_
    show own_S p e below T1 (mkF m 32 #[vr a, vr b, vi (6 : Int32), vi (2 : Int32), vj c1, .second] []) _
    refine XS.goto X1.here hx rfl (pc0 := 32) (pc' := 10) rfl (hb hby d7_32) (by decide) (by decide) ?_
    show own_S p e below T1 (mkF m 10 #[vr a, vr b, vi (6 : Int32), vi (2 : Int32), vj c1, .second] []) _
    refine XS.iloadN X1.here hx rfl (hb hby d7_10) rfl ?_
    show own_S p e below T1 (mkF m 11 #[vr a, vr b, vi (6 : Int32), vi (2 : Int32), vj c1, .second] [xi (2 : Int32)]) _
    refine XS.iloadN X1.here hx rfl (hb hby d7_11) rfl ?_
    show own_S p e below T1 (mkF m 12 #[vr a, vr b, vi (6 : Int32), vi (2 : Int32), vj c1, .second] [xi (6 : Int32), xi (2 : Int32)]) _
    refine XS.icmpNo X1.here hx rfl (hb hby d7_12) rfl (by decide) ?_
    show own_S p e below T1 (mkF m 15 #[vr a, vr b, vi (6 : Int32), vi (2 : Int32), vj c1, .second] []) _
    refine XS.aloadN X1.here hx rfl (hb hby d7_15) rfl rfl ?_
    show own_S p e below T1 (mkF m 16 #[vr a, vr b, vi (6 : Int32), vi (2 : Int32), vj c1, .second] [xr b]) _
    refine XS.iloadN X1.here hx rfl (hb hby d7_16) rfl ?_
    show own_S p e below T1 (mkF m 17 #[vr a, vr b, vi (6 : Int32), vi (2 : Int32), vj c1, .second] [xi (2 : Int32), xr b]) _
    refine X1.laload hx (j := (2 : Int32)) (v := (xj c2)) (by rw [e1]; exact Ar5.1) (State.isArrayOf_alike hZ.alike Ar5.2.1) Ar5.2.2 hin5 hat5 (g := (mkF m 17 #[vr a, vr b, vi (6 : Int32), vi (2 : Int32), vj c1, .second] [xi (2 : Int32), xr b])) rfl rfl (hb hby d7_17) _ ?_
    show own_S p e below T1 (mkF m 18 #[vr a, vr b, vi (6 : Int32), vi (2 : Int32), vj c1, .second] [xj c2]) _
    refine XS.lstore X1.here hx rfl (hb hby d7_18) rfl (l' := #[vr a, vr b, vi (6 : Int32), vi (2 : Int32), vj c2, .second]) rfl ?_
    show own_S p e below T1 (mkF m 20 #[vr a, vr b, vi (6 : Int32), vi (2 : Int32), vj c2, .second] []) _
    refine XS.lload X1.here hx rfl (hb hby d7_20) rfl ?_
    show own_S p e below T1 (mkF m 22 #[vr a, vr b, vi (6 : Int32), vi (2 : Int32), vj c2, .second] [xj c2]) _
    refine XS.lconst X1.here hx rfl (hb hby d7_22) ?_
    show own_S p e below T1 (mkF m 23 #[vr a, vr b, vi (6 : Int32), vi (2 : Int32), vj c2, .second] [xj (0 : Int64), xj c2]) _
    refine XS.lcmp X1.here hx rfl (hb hby d7_23) rfl ?_
    show own_S p e below T1 (mkF m 24 #[vr a, vr b, vi (6 : Int32), vi (2 : Int32), vj c2, .second] [xi (lcmpW c2 (0 : Int64))]) _
    show own_S p e below T1 (mkF m 24 #[vr a, vr b, vi (6 : Int32), vi (2 : Int32), vj c2, .second] [xi (lcmpW c2 (0 : Int64))]) _
    refine XS.ifYes X1.here hx rfl (pc0 := 24) (pc' := 29) rfl (hb hby d7_24) rfl as6 (by decide) (by decide) ?_
    show own_S p e below T1 (mkF m 29 #[vr a, vr b, vi (6 : Int32), vi (2 : Int32), vj c2, .second] []) _
    refine XS.iinc X1.here hx rfl (hb hby d7_29) rfl (l' := #[vr a, vr b, vi (6 : Int32), vi ((2 : Int32) + (1 : Int32)), vj c2, .second]) rfl ?_
    refine castTop (show (mkF m 32 #[vr a, vr b, vi (6 : Int32), vi ((2 : Int32) + (1 : Int32)), vj c2, .second] []) = (mkF m 32 #[vr a, vr b, vi (6 : Int32), vi (3 : Int32), vj c2, .second] []) from by rw [show ((2 : Int32) + (1 : Int32)) = (3 : Int32) from by decide]) ?_
    show own_S p e below T1 (mkF m 32 #[vr a, vr b, vi (6 : Int32), vi (3 : Int32), vj c2, .second] []) _
    refine XS.goto X1.here hx rfl (pc0 := 32) (pc' := 10) rfl (hb hby d7_32) (by decide) (by decide) ?_
    show own_S p e below T1 (mkF m 10 #[vr a, vr b, vi (6 : Int32), vi (3 : Int32), vj c2, .second] []) _
    refine XS.iloadN X1.here hx rfl (hb hby d7_10) rfl ?_
    show own_S p e below T1 (mkF m 11 #[vr a, vr b, vi (6 : Int32), vi (3 : Int32), vj c2, .second] [xi (3 : Int32)]) _
    refine XS.iloadN X1.here hx rfl (hb hby d7_11) rfl ?_
    show own_S p e below T1 (mkF m 12 #[vr a, vr b, vi (6 : Int32), vi (3 : Int32), vj c2, .second] [xi (6 : Int32), xi (3 : Int32)]) _
    refine XS.icmpNo X1.here hx rfl (hb hby d7_12) rfl (by decide) ?_
    show own_S p e below T1 (mkF m 15 #[vr a, vr b, vi (6 : Int32), vi (3 : Int32), vj c2, .second] []) _
    refine XS.aloadN X1.here hx rfl (hb hby d7_15) rfl rfl ?_
    show own_S p e below T1 (mkF m 16 #[vr a, vr b, vi (6 : Int32), vi (3 : Int32), vj c2, .second] [xr b]) _
    refine XS.iloadN X1.here hx rfl (hb hby d7_16) rfl ?_
    show own_S p e below T1 (mkF m 17 #[vr a, vr b, vi (6 : Int32), vi (3 : Int32), vj c2, .second] [xi (3 : Int32), xr b]) _
    refine X1.laload hx (j := (3 : Int32)) (v := (xj c3)) (by rw [e1]; exact Ar6.1) (State.isArrayOf_alike hZ.alike Ar6.2.1) Ar6.2.2 hin6 hat6 (g := (mkF m 17 #[vr a, vr b, vi (6 : Int32), vi (3 : Int32), vj c2, .second] [xi (3 : Int32), xr b])) rfl rfl (hb hby d7_17) _ ?_
    show own_S p e below T1 (mkF m 18 #[vr a, vr b, vi (6 : Int32), vi (3 : Int32), vj c2, .second] [xj c3]) _
    refine XS.lstore X1.here hx rfl (hb hby d7_18) rfl (l' := #[vr a, vr b, vi (6 : Int32), vi (3 : Int32), vj c3, .second]) rfl ?_
    show own_S p e below T1 (mkF m 20 #[vr a, vr b, vi (6 : Int32), vi (3 : Int32), vj c3, .second] []) _
    refine XS.lload X1.here hx rfl (hb hby d7_20) rfl ?_
    show own_S p e below T1 (mkF m 22 #[vr a, vr b, vi (6 : Int32), vi (3 : Int32), vj c3, .second] [xj c3]) _
    refine XS.lconst X1.here hx rfl (hb hby d7_22) ?_
    show own_S p e below T1 (mkF m 23 #[vr a, vr b, vi (6 : Int32), vi (3 : Int32), vj c3, .second] [xj (0 : Int64), xj c3]) _
    refine XS.lcmp X1.here hx rfl (hb hby d7_23) rfl ?_
    show own_S p e below T1 (mkF m 24 #[vr a, vr b, vi (6 : Int32), vi (3 : Int32), vj c3, .second] [xi (lcmpW c3 (0 : Int64))]) _
    show own_S p e below T1 (mkF m 24 #[vr a, vr b, vi (6 : Int32), vi (3 : Int32), vj c3, .second] [xi (lcmpW c3 (0 : Int64))]) _
    refine XS.ifYes X1.here hx rfl (pc0 := 24) (pc' := 29) rfl (hb hby d7_24) rfl as8 (by decide) (by decide) ?_
    show own_S p e below T1 (mkF m 29 #[vr a, vr b, vi (6 : Int32), vi (3 : Int32), vj c3, .second] []) _
    refine XS.iinc X1.here hx rfl (hb hby d7_29) rfl (l' := #[vr a, vr b, vi (6 : Int32), vi ((3 : Int32) + (1 : Int32)), vj c3, .second]) rfl ?_
    refine castTop (show (mkF m 32 #[vr a, vr b, vi (6 : Int32), vi ((3 : Int32) + (1 : Int32)), vj c3, .second] []) = (mkF m 32 #[vr a, vr b, vi (6 : Int32), vi (4 : Int32), vj c3, .second] []) from by rw [show ((3 : Int32) + (1 : Int32)) = (4 : Int32) from by decide]) ?_
    show own_S p e below T1 (mkF m 32 #[vr a, vr b, vi (6 : Int32), vi (4 : Int32), vj c3, .second] []) _
    refine XS.goto X1.here hx rfl (pc0 := 32) (pc' := 10) rfl (hb hby d7_32) (by decide) (by decide) ?_
    show own_S p e below T1 (mkF m 10 #[vr a, vr b, vi (6 : Int32), vi (4 : Int32), vj c3, .second] []) _
    refine XS.iloadN X1.here hx rfl (hb hby d7_10) rfl ?_
    show own_S p e below T1 (mkF m 11 #[vr a, vr b, vi (6 : Int32), vi (4 : Int32), vj c3, .second] [xi (4 : Int32)]) _
    refine XS.iloadN X1.here hx rfl (hb hby d7_11) rfl ?_
    show own_S p e below T1 (mkF m 12 #[vr a, vr b, vi (6 : Int32), vi (4 : Int32), vj c3, .second] [xi (6 : Int32), xi (4 : Int32)]) _
    refine XS.icmpNo X1.here hx rfl (hb hby d7_12) rfl (by decide) ?_
    show own_S p e below T1 (mkF m 15 #[vr a, vr b, vi (6 : Int32), vi (4 : Int32), vj c3, .second] []) _
    refine XS.aloadN X1.here hx rfl (hb hby d7_15) rfl rfl ?_
    show own_S p e below T1 (mkF m 16 #[vr a, vr b, vi (6 : Int32), vi (4 : Int32), vj c3, .second] [xr b]) _
    refine XS.iloadN X1.here hx rfl (hb hby d7_16) rfl ?_
    show own_S p e below T1 (mkF m 17 #[vr a, vr b, vi (6 : Int32), vi (4 : Int32), vj c3, .second] [xi (4 : Int32), xr b]) _
    refine X1.laload hx (j := (4 : Int32)) (v := (xj c4)) (by rw [e1]; exact Ar7.1) (State.isArrayOf_alike hZ.alike Ar7.2.1) Ar7.2.2 hin7 hat7 (g := (mkF m 17 #[vr a, vr b, vi (6 : Int32), vi (4 : Int32), vj c3, .second] [xi (4 : Int32), xr b])) rfl rfl (hb hby d7_17) _ ?_
    show own_S p e below T1 (mkF m 18 #[vr a, vr b, vi (6 : Int32), vi (4 : Int32), vj c3, .second] [xj c4]) _
    refine XS.lstore X1.here hx rfl (hb hby d7_18) rfl (l' := #[vr a, vr b, vi (6 : Int32), vi (4 : Int32), vj c4, .second]) rfl ?_
    show own_S p e below T1 (mkF m 20 #[vr a, vr b, vi (6 : Int32), vi (4 : Int32), vj c4, .second] []) _
    refine XS.lload X1.here hx rfl (hb hby d7_20) rfl ?_
    show own_S p e below T1 (mkF m 22 #[vr a, vr b, vi (6 : Int32), vi (4 : Int32), vj c4, .second] [xj c4]) _
    refine XS.lconst X1.here hx rfl (hb hby d7_22) ?_
    show own_S p e below T1 (mkF m 23 #[vr a, vr b, vi (6 : Int32), vi (4 : Int32), vj c4, .second] [xj (0 : Int64), xj c4]) _
    refine XS.lcmp X1.here hx rfl (hb hby d7_23) rfl ?_
    show own_S p e below T1 (mkF m 24 #[vr a, vr b, vi (6 : Int32), vi (4 : Int32), vj c4, .second] [xi (lcmpW c4 (0 : Int64))]) _
    show own_S p e below T1 (mkF m 24 #[vr a, vr b, vi (6 : Int32), vi (4 : Int32), vj c4, .second] [xi (lcmpW c4 (0 : Int64))]) _
    refine XS.ifNo X1.here hx rfl (hb hby d7_24) rfl as9 ?_
    show own_S p e below T1 (mkF m 27 #[vr a, vr b, vi (6 : Int32), vi (4 : Int32), vj c4, .second] []) _
    refine XS.iconst X1.here hx rfl (hb hby d7_27) ?_
    show own_S p e below T1 (mkF m 28 #[vr a, vr b, vi (6 : Int32), vi (4 : Int32), vj c4, .second] [xi (0 : Int32)]) _
    exact retN X1 hx (t := .boolean) Bd.returns (by simp) (hb hby d7_28) hr
  · exact ⟨rfl, N0, e1⟩
theorem ef_own_empty5 (m : MethodId) (u0 u1 u2 u3 u4 u5 u6 : Addr) (a : Addr) (b : Addr) (k : ClassId) (c0 : Int64) (c1 : Int64) (c2 : Int64) (c3 : Int64) (c4 : Int64) (c5 : Int64) : entryFrame m #[xr a] 6 = (mkF m 0 #[vr a, vu, vu, vu, vu, vu] []) := by first | (simp [entryFrame, mkF, argsToLocals, Value.category]; done) | rfl
set_option maxRecDepth 65536 in
set_option maxHeartbeats 40000000 in
theorem own_empty5 (l : Launch) (Z : State) (a0 : Array Value) (hw : ∀ d ∈ tables_1, d.before a0 Z = true) (u0 u1 u2 u3 u4 u5 u6 : Addr) (G : own_St Z u0 u1 u2 u3 u4 u5 u6) (a : Addr) (b : Addr) (k : ClassId) (c0 : Int64) (c1 : Int64) (c2 : Int64) (c3 : Int64) (c4 : Int64) (c5 : Int64) (as2 : ifCond.holds .le (lcmpW c0 (0 : Int64)) = true) (as4 : ifCond.holds .le (lcmpW c1 (0 : Int64)) = true) (as6 : ifCond.holds .le (lcmpW c2 (0 : Int64)) = true) (as8 : ifCond.holds .le (lcmpW c3 (0 : Int64)) = true) (as10 : ifCond.holds .le (lcmpW c4 (0 : Int64)) = true) (as11 : ifCond.holds .le (lcmpW c5 (0 : Int64)) = false) (h0 : Heap) (n0 : Nat) (O0 : Old Z n0 h0) (gL : own_LS Z h0 n0 a b k c0 c1 c2 c3 c4 c5) : own_Met l Z Y6 prog_46_method_4_code 6 (some .boolean) ({ frames := 0, cells := 0, slots := 0, locals := 0 } : Room) #[xr a] h0 (own_QR (some (xi (0 : Int32))) h0 n0) := by
  intro ws
  refine MetFree.of_bodySF (plainFor_of_name pn1) hisR ?_
  intro p e s m args below meth c s₁ Bd hml0 hP hK
  obtain ⟨rfl, hZ, hh⟩ := hP
  have hx := Bd.exec
  have hby := Bd.bytes
  have hml : c.maxLocals = 6 := hml0
  have hown : s.vm.findClass "com/example/stackwright/stackwright/engine/ManaPool" = some m.cls := findClass_of_methodNamed Bd.named
  have hnm := (name_of_methodNamed Bd.named Bd.method).1
  have X0 : Stand p l e ({ frames := 0, cells := 0, slots := 0, locals := 0 } : Room) s m #[xr a] below meth c s₁ [] 0 0 := Stand.of_body Bd
  have e0 : s₁.heap = h0 := by rw [← hh, Bd.state]; rfl
  have N0 := Fr.nil n0
  have pre0 : ∀ t, Steps p.tables e below (s₁.setTop (mkF m 0 #[vr a, vu, vu, vu, vu, vu] [])) t → Steps p.tables e below (s₁.setTop (entryFrame m #[xr a] 6)) t := fun t st => castTop (ef_own_empty5 m u0 u1 u2 u3 u4 u5 u6 a b k c0 c1 c2 c3 c4 c5) st
  obtain ⟨EA, FA, VA, ne_a_b, g_a, g_b⟩ := gL
  obtain ⟨T1, X1, e1, st1⟩ := getF X0 hx hZ hown (host := "") (Or.inl (ww hw 33 rfl)) Via.refl e0 FA (g := (mkF m 1 #[vr a, vu, vu, vu, vu, vu] [xr a])) rfl rfl (hb hby d7_1)
  obtain ⟨cl2, Ar2, q2, S2, N2_, H2, G2⟩ := id VA
  obtain ⟨cl3, Ar3, q3, S3, N3_, H3, G3⟩ := id VA
  have hin3 : ¬ ((0 : Int32) < 0 ∨ cl3.slots.size ≤ ((0 : Int32)).toNatClampNeg) := inb_of S3 ⟨by decide, by decide⟩
  have hat3 : cl3.slots[((0 : Int32)).toNatClampNeg]? = some (xj c0) := Has.at H3 hin3 rfl
  obtain ⟨cl4, Ar4, q4, S4, N4_, H4, G4⟩ := id VA
  have hin4 : ¬ ((1 : Int32) < 0 ∨ cl4.slots.size ≤ ((1 : Int32)).toNatClampNeg) := inb_of S4 ⟨by decide, by decide⟩
  have hat4 : cl4.slots[((1 : Int32)).toNatClampNeg]? = some (xj c1) := Has.at H4 hin4 rfl
  obtain ⟨cl5, Ar5, q5, S5, N5_, H5, G5⟩ := id VA
  have hin5 : ¬ ((2 : Int32) < 0 ∨ cl5.slots.size ≤ ((2 : Int32)).toNatClampNeg) := inb_of S5 ⟨by decide, by decide⟩
  have hat5 : cl5.slots[((2 : Int32)).toNatClampNeg]? = some (xj c2) := Has.at H5 hin5 rfl
  obtain ⟨cl6, Ar6, q6, S6, N6_, H6, G6⟩ := id VA
  have hin6 : ¬ ((3 : Int32) < 0 ∨ cl6.slots.size ≤ ((3 : Int32)).toNatClampNeg) := inb_of S6 ⟨by decide, by decide⟩
  have hat6 : cl6.slots[((3 : Int32)).toNatClampNeg]? = some (xj c3) := Has.at H6 hin6 rfl
  obtain ⟨cl7, Ar7, q7, S7, N7_, H7, G7⟩ := id VA
  have hin7 : ¬ ((4 : Int32) < 0 ∨ cl7.slots.size ≤ ((4 : Int32)).toNatClampNeg) := inb_of S7 ⟨by decide, by decide⟩
  have hat7 : cl7.slots[((4 : Int32)).toNatClampNeg]? = some (xj c4) := Has.at H7 hin7 rfl
  obtain ⟨cl8, Ar8, q8, S8, N8_, H8, G8⟩ := id VA
  have hin8 : ¬ ((5 : Int32) < 0 ∨ cl8.slots.size ≤ ((5 : Int32)).toNatClampNeg) := inb_of S8 ⟨by decide, by decide⟩
  have hat8 : cl8.slots[((5 : Int32)).toNatClampNeg]? = some (xj c5) := Has.at H8 hin8 rfl
  obtain ⟨fs, hr, hrun, hended, hW, hsame⟩ := X1.leave (v := some (xi (0 : Int32))) (fun h => by rw [Bd.returns] at h; cases h)
  refine ⟨_, _, pre0 _ ?_, hrun, hended, _, _, rfl, ?_, ⟨_, rfl⟩, hW, hsame.mono (by decide) (by decide)⟩
  · show own_S p e below s₁ (mkF m 0 #[vr a, vu, vu, vu, vu, vu] []) _
    refine XS.aloadN X0.here hx rfl (hb hby d7_0) rfl rfl ?_
    show own_S p e below s₁ (mkF m 1 #[vr a, vu, vu, vu, vu, vu] [xr a]) _
    refine st1 _ ?_
    show own_S p e below T1 (mkF m 4 #[vr a, vu, vu, vu, vu, vu] [xr b]) _
    refine XS.astoreN X1.here hx rfl (hb hby d7_4) rfl rfl (l' := #[vr a, vr b, vu, vu, vu, vu]) rfl ?_
    show own_S p e below T1 (mkF m 5 #[vr a, vr b, vu, vu, vu, vu] []) _
    refine XS.aloadN X1.here hx rfl (hb hby d7_5) rfl rfl ?_
    show own_S p e below T1 (mkF m 6 #[vr a, vr b, vu, vu, vu, vu] [xr b]) _
    refine X1.arraylength hx (by rw [e1]; exact Ar2.1) (State.isArrayOf_alike hZ.alike Ar2.2.1) (g := (mkF m 6 #[vr a, vr b, vu, vu, vu, vu] [xr b])) rfl rfl (hb hby d7_6) _ ?_
    refine castTop (show (mkF m 7 #[vr a, vr b, vu, vu, vu, vu] [xi cl2.slots.size.toInt32]) = (mkF m 7 #[vr a, vr b, vu, vu, vu, vu] [xi (6 : Int32)]) from by rw [len_of S2 N2_]) ?_
    show own_S p e below T1 (mkF m 7 #[vr a, vr b, vu, vu, vu, vu] [xi (6 : Int32)]) _
    refine XS.istoreN X1.here hx rfl (hb hby d7_7) rfl (l' := #[vr a, vr b, vi (6 : Int32), vu, vu, vu]) rfl ?_
    show own_S p e below T1 (mkF m 8 #[vr a, vr b, vi (6 : Int32), vu, vu, vu] []) _
    refine XS.iconst X1.here hx rfl (hb hby d7_8) ?_
    show own_S p e below T1 (mkF m 9 #[vr a, vr b, vi (6 : Int32), vu, vu, vu] [xi (0 : Int32)]) _
    refine XS.istoreN X1.here hx rfl (hb hby d7_9) rfl (l' := #[vr a, vr b, vi (6 : Int32), vi (0 : Int32), vu, vu]) rfl ?_
    show own_S p e below T1 (mkF m 10 #[vr a, vr b, vi (6 : Int32), vi (0 : Int32), vu, vu] []) _
    refine XS.iloadN X1.here hx rfl (hb hby d7_10) rfl ?_
    show own_S p e below T1 (mkF m 11 #[vr a, vr b, vi (6 : Int32), vi (0 : Int32), vu, vu] [xi (0 : Int32)]) _
    refine XS.iloadN X1.here hx rfl (hb hby d7_11) rfl ?_
    show own_S p e below T1 (mkF m 12 #[vr a, vr b, vi (6 : Int32), vi (0 : Int32), vu, vu] [xi (6 : Int32), xi (0 : Int32)]) _
    refine XS.icmpNo X1.here hx rfl (hb hby d7_12) rfl (by decide) ?_
    show own_S p e below T1 (mkF m 15 #[vr a, vr b, vi (6 : Int32), vi (0 : Int32), vu, vu] []) _
    refine XS.aloadN X1.here hx rfl (hb hby d7_15) rfl rfl ?_
    show own_S p e below T1 (mkF m 16 #[vr a, vr b, vi (6 : Int32), vi (0 : Int32), vu, vu] [xr b]) _
    refine XS.iloadN X1.here hx rfl (hb hby d7_16) rfl ?_
    show own_S p e below T1 (mkF m 17 #[vr a, vr b, vi (6 : Int32), vi (0 : Int32), vu, vu] [xi (0 : Int32), xr b]) _
    refine X1.laload hx (j := (0 : Int32)) (v := (xj c0)) (by rw [e1]; exact Ar3.1) (State.isArrayOf_alike hZ.alike Ar3.2.1) Ar3.2.2 hin3 hat3 (g := (mkF m 17 #[vr a, vr b, vi (6 : Int32), vi (0 : Int32), vu, vu] [xi (0 : Int32), xr b])) rfl rfl (hb hby d7_17) _ ?_
    show own_S p e below T1 (mkF m 18 #[vr a, vr b, vi (6 : Int32), vi (0 : Int32), vu, vu] [xj c0]) _
    refine XS.lstore X1.here hx rfl (hb hby d7_18) rfl (l' := #[vr a, vr b, vi (6 : Int32), vi (0 : Int32), vj c0, .second]) rfl ?_
    show own_S p e below T1 (mkF m 20 #[vr a, vr b, vi (6 : Int32), vi (0 : Int32), vj c0, .second] []) _
    refine XS.lload X1.here hx rfl (hb hby d7_20) rfl ?_
    show own_S p e below T1 (mkF m 22 #[vr a, vr b, vi (6 : Int32), vi (0 : Int32), vj c0, .second] [xj c0]) _
    refine XS.lconst X1.here hx rfl (hb hby d7_22) ?_
    show own_S p e below T1 (mkF m 23 #[vr a, vr b, vi (6 : Int32), vi (0 : Int32), vj c0, .second] [xj (0 : Int64), xj c0]) _
    refine XS.lcmp X1.here hx rfl (hb hby d7_23) rfl ?_
    show own_S p e below T1 (mkF m 24 #[vr a, vr b, vi (6 : Int32), vi (0 : Int32), vj c0, .second] [xi (lcmpW c0 (0 : Int64))]) _
    show own_S p e below T1 (mkF m 24 #[vr a, vr b, vi (6 : Int32), vi (0 : Int32), vj c0, .second] [xi (lcmpW c0 (0 : Int64))]) _
    refine XS.ifYes X1.here hx rfl (pc0 := 24) (pc' := 29) rfl (hb hby d7_24) rfl as2 (by decide) (by decide) ?_
    show own_S p e below T1 (mkF m 29 #[vr a, vr b, vi (6 : Int32), vi (0 : Int32), vj c0, .second] []) _
    refine XS.iinc X1.here hx rfl (hb hby d7_29) rfl (l' := #[vr a, vr b, vi (6 : Int32), vi ((0 : Int32) + (1 : Int32)), vj c0, .second]) rfl ?_
    refine castTop (show (mkF m 32 #[vr a, vr b, vi (6 : Int32), vi ((0 : Int32) + (1 : Int32)), vj c0, .second] []) = (mkF m 32 #[vr a, vr b, vi (6 : Int32), vi (1 : Int32), vj c0, .second] []) from by rw [show ((0 : Int32) + (1 : Int32)) = (1 : Int32) from by decide]) ?_
    show own_S p e below T1 (mkF m 32 #[vr a, vr b, vi (6 : Int32), vi (1 : Int32), vj c0, .second] []) _
    refine XS.goto X1.here hx rfl (pc0 := 32) (pc' := 10) rfl (hb hby d7_32) (by decide) (by decide) ?_
    show own_S p e below T1 (mkF m 10 #[vr a, vr b, vi (6 : Int32), vi (1 : Int32), vj c0, .second] []) _
    refine XS.iloadN X1.here hx rfl (hb hby d7_10) rfl ?_
    show own_S p e below T1 (mkF m 11 #[vr a, vr b, vi (6 : Int32), vi (1 : Int32), vj c0, .second] [xi (1 : Int32)]) _
    refine XS.iloadN X1.here hx rfl (hb hby d7_11) rfl ?_
    show own_S p e below T1 (mkF m 12 #[vr a, vr b, vi (6 : Int32), vi (1 : Int32), vj c0, .second] [xi (6 : Int32), xi (1 : Int32)]) _
    refine XS.icmpNo X1.here hx rfl (hb hby d7_12) rfl (by decide) ?_
    show own_S p e below T1 (mkF m 15 #[vr a, vr b, vi (6 : Int32), vi (1 : Int32), vj c0, .second] []) _
    refine XS.aloadN X1.here hx rfl (hb hby d7_15) rfl rfl ?_
    show own_S p e below T1 (mkF m 16 #[vr a, vr b, vi (6 : Int32), vi (1 : Int32), vj c0, .second] [xr b]) _
    refine XS.iloadN X1.here hx rfl (hb hby d7_16) rfl ?_
    show own_S p e below T1 (mkF m 17 #[vr a, vr b, vi (6 : Int32), vi (1 : Int32), vj c0, .second] [xi (1 : Int32), xr b]) _
    refine X1.laload hx (j := (1 : Int32)) (v := (xj c1)) (by rw [e1]; exact Ar4.1) (State.isArrayOf_alike hZ.alike Ar4.2.1) Ar4.2.2 hin4 hat4 (g := (mkF m 17 #[vr a, vr b, vi (6 : Int32), vi (1 : Int32), vj c0, .second] [xi (1 : Int32), xr b])) rfl rfl (hb hby d7_17) _ ?_
    show own_S p e below T1 (mkF m 18 #[vr a, vr b, vi (6 : Int32), vi (1 : Int32), vj c0, .second] [xj c1]) _
    refine XS.lstore X1.here hx rfl (hb hby d7_18) rfl (l' := #[vr a, vr b, vi (6 : Int32), vi (1 : Int32), vj c1, .second]) rfl ?_
    show own_S p e below T1 (mkF m 20 #[vr a, vr b, vi (6 : Int32), vi (1 : Int32), vj c1, .second] []) _
    refine XS.lload X1.here hx rfl (hb hby d7_20) rfl ?_
    show own_S p e below T1 (mkF m 22 #[vr a, vr b, vi (6 : Int32), vi (1 : Int32), vj c1, .second] [xj c1]) _
    refine XS.lconst X1.here hx rfl (hb hby d7_22) ?_
    show own_S p e below T1 (mkF m 23 #[vr a, vr b, vi (6 : Int32), vi (1 : Int32), vj c1, .second] [xj (0 : Int64), xj c1]) _
    refine XS.lcmp X1.here hx rfl (hb hby d7_23) rfl ?_
    show own_S p e below T1 (mkF m 24 #[vr a, vr b, vi (6 : Int32), vi (1 : Int32), vj c1, .second] [xi (lcmpW c1 (0 : Int64))]) _
    show own_S p e below T1 (mkF m 24 #[vr a, vr b, vi (6 : Int32), vi (1 : Int32), vj c1, .second] [xi (lcmpW c1 (0 : Int64))]) _
    refine XS.ifYes X1.here hx rfl (pc0 := 24) (pc' := 29) rfl (hb hby d7_24) rfl as4 (by decide) (by decide) ?_
    show own_S p e below T1 (mkF m 29 #[vr a, vr b, vi (6 : Int32), vi (1 : Int32), vj c1, .second] []) _
    refine XS.iinc X1.here hx rfl (hb hby d7_29) rfl (l' := #[vr a, vr b, vi (6 : Int32), vi ((1 : Int32) + (1 : Int32)), vj c1, .second]) rfl ?_
    refine castTop (show (mkF m 32 #[vr a, vr b, vi (6 : Int32), vi ((1 : Int32) + (1 : Int32)), vj c1, .second] []) = (mkF m 32 #[vr a, vr b, vi (6 : Int32), vi (2 : Int32), vj c1, .second] []) from by rw [show ((1 : Int32) + (1 : Int32)) = (2 : Int32) from by decide]) ?_
    show own_S p e below T1 (mkF m 32 #[vr a, vr b, vi (6 : Int32), vi (2 : Int32), vj c1, .second] []) _
    refine XS.goto X1.here hx rfl (pc0 := 32) (pc' := 10) rfl (hb hby d7_32) (by decide) (by decide) ?_
    show own_S p e below T1 (mkF m 10 #[vr a, vr b, vi (6 : Int32), vi (2 : Int32), vj c1, .second] []) _
    refine XS.iloadN X1.here hx rfl (hb hby d7_10) rfl ?_
    show own_S p e below T1 (mkF m 11 #[vr a, vr b, vi (6 : Int32), vi (2 : Int32), vj c1, .second] [xi (2 : Int32)]) _
    refine XS.iloadN X1.here hx rfl (hb hby d7_11) rfl ?_
    show own_S p e below T1 (mkF m 12 #[vr a, vr b, vi (6 : Int32), vi (2 : Int32), vj c1, .second] [xi (6 : Int32), xi (2 : Int32)]) _
    refine XS.icmpNo X1.here hx rfl (hb hby d7_12) rfl (by decide) ?_
    show own_S p e below T1 (mkF m 15 #[vr a, vr b, vi (6 : Int32), vi (2 : Int32), vj c1, .second] []) _
    refine XS.aloadN X1.here hx rfl (hb hby d7_15) rfl rfl ?_
    show own_S p e below T1 (mkF m 16 #[vr a, vr b, vi (6 : Int32), vi (2 : Int32), vj c1, .second] [xr b]) _
    refine XS.iloadN X1.here hx rfl (hb hby d7_16) rfl ?_
    show own_S p e below T1 (mkF m 17 #[vr a, vr b, vi (6 : Int32), vi (2 : Int32), vj c1, .second] [xi (2 : Int32), xr b]) _
    refine X1.laload hx (j := (2 : Int32)) (v := (xj c2)) (by rw [e1]; exact Ar5.1) (State.isArrayOf_alike hZ.alike Ar5.2.1) Ar5.2.2 hin5 hat5 (g := (mkF m 17 #[vr a, vr b, vi (6 : Int32), vi (2 : Int32), vj c1, .second] [xi (2 : Int32), xr b])) rfl rfl (hb hby d7_17) _ ?_
    show own_S p e below T1 (mkF m 18 #[vr a, vr b, vi (6 : Int32), vi (2 : Int32), vj c1, .second] [xj c2]) _
    refine XS.lstore X1.here hx rfl (hb hby d7_18) rfl (l' := #[vr a, vr b, vi (6 : Int32), vi (2 : Int32), vj c2, .second]) rfl ?_
    show own_S p e below T1 (mkF m 20 #[vr a, vr b, vi (6 : Int32), vi (2 : Int32), vj c2, .second] []) _
    refine XS.lload X1.here hx rfl (hb hby d7_20) rfl ?_
    show own_S p e below T1 (mkF m 22 #[vr a, vr b, vi (6 : Int32), vi (2 : Int32), vj c2, .second] [xj c2]) _
    refine XS.lconst X1.here hx rfl (hb hby d7_22) ?_
    show own_S p e below T1 (mkF m 23 #[vr a, vr b, vi (6 : Int32), vi (2 : Int32), vj c2, .second] [xj (0 : Int64), xj c2]) _
    refine XS.lcmp X1.here hx rfl (hb hby d7_23) rfl ?_
    show own_S p e below T1 (mkF m 24 #[vr a, vr b, vi (6 : Int32), vi (2 : Int32), vj c2, .second] [xi (lcmpW c2 (0 : Int64))]) _
    show own_S p e below T1 (mkF m 24 #[vr a, vr b, vi (6 : Int32), vi (2 : Int32), vj c2, .second] [xi (lcmpW c2 (0 : Int64))]) _
    refine XS.ifYes X1.here hx rfl (pc0 := 24) (pc' := 29) rfl (hb hby d7_24) rfl as6 (by decide) (by decide) ?_
    show own_S p e below T1 (mkF m 29 #[vr a, vr b, vi (6 : Int32), vi (2 : Int32), vj c2, .second] []) _
    refine XS.iinc X1.here hx rfl (hb hby d7_29) rfl (l' := #[vr a, vr b, vi (6 : Int32), vi ((2 : Int32) + (1 : Int32)), vj c2, .second]) rfl ?_
    refine castTop (show (mkF m 32 #[vr a, vr b, vi (6 : Int32), vi ((2 : Int32) + (1 : Int32)), vj c2, .second] []) = (mkF m 32 #[vr a, vr b, vi (6 : Int32), vi (3 : Int32), vj c2, .second] []) from by rw [show ((2 : Int32) + (1 : Int32)) = (3 : Int32) from by decide]) ?_
    show own_S p e below T1 (mkF m 32 #[vr a, vr b, vi (6 : Int32), vi (3 : Int32), vj c2, .second] []) _
    refine XS.goto X1.here hx rfl (pc0 := 32) (pc' := 10) rfl (hb hby d7_32) (by decide) (by decide) ?_
    show own_S p e below T1 (mkF m 10 #[vr a, vr b, vi (6 : Int32), vi (3 : Int32), vj c2, .second] []) _
    refine XS.iloadN X1.here hx rfl (hb hby d7_10) rfl ?_
    show own_S p e below T1 (mkF m 11 #[vr a, vr b, vi (6 : Int32), vi (3 : Int32), vj c2, .second] [xi (3 : Int32)]) _
    refine XS.iloadN X1.here hx rfl (hb hby d7_11) rfl ?_
    show own_S p e below T1 (mkF m 12 #[vr a, vr b, vi (6 : Int32), vi (3 : Int32), vj c2, .second] [xi (6 : Int32), xi (3 : Int32)]) _
    refine XS.icmpNo X1.here hx rfl (hb hby d7_12) rfl (by decide) ?_
    show own_S p e below T1 (mkF m 15 #[vr a, vr b, vi (6 : Int32), vi (3 : Int32), vj c2, .second] []) _
    refine XS.aloadN X1.here hx rfl (hb hby d7_15) rfl rfl ?_
    show own_S p e below T1 (mkF m 16 #[vr a, vr b, vi (6 : Int32), vi (3 : Int32), vj c2, .second] [xr b]) _
    refine XS.iloadN X1.here hx rfl (hb hby d7_16) rfl ?_
    show own_S p e below T1 (mkF m 17 #[vr a, vr b, vi (6 : Int32), vi (3 : Int32), vj c2, .second] [xi (3 : Int32), xr b]) _
    refine X1.laload hx (j := (3 : Int32)) (v := (xj c3)) (by rw [e1]; exact Ar6.1) (State.isArrayOf_alike hZ.alike Ar6.2.1) Ar6.2.2 hin6 hat6 (g := (mkF m 17 #[vr a, vr b, vi (6 : Int32), vi (3 : Int32), vj c2, .second] [xi (3 : Int32), xr b])) rfl rfl (hb hby d7_17) _ ?_
    show own_S p e below T1 (mkF m 18 #[vr a, vr b, vi (6 : Int32), vi (3 : Int32), vj c2, .second] [xj c3]) _
    refine XS.lstore X1.here hx rfl (hb hby d7_18) rfl (l' := #[vr a, vr b, vi (6 : Int32), vi (3 : Int32), vj c3, .second]) rfl ?_
    show own_S p e below T1 (mkF m 20 #[vr a, vr b, vi (6 : Int32), vi (3 : Int32), vj c3, .second] []) _
    refine XS.lload X1.here hx rfl (hb hby d7_20) rfl ?_
    show own_S p e below T1 (mkF m 22 #[vr a, vr b, vi (6 : Int32), vi (3 : Int32), vj c3, .second] [xj c3]) _
    refine XS.lconst X1.here hx rfl (hb hby d7_22) ?_
    show own_S p e below T1 (mkF m 23 #[vr a, vr b, vi (6 : Int32), vi (3 : Int32), vj c3, .second] [xj (0 : Int64), xj c3]) _
    refine XS.lcmp X1.here hx rfl (hb hby d7_23) rfl ?_
    show own_S p e below T1 (mkF m 24 #[vr a, vr b, vi (6 : Int32), vi (3 : Int32), vj c3, .second] [xi (lcmpW c3 (0 : Int64))]) _
    show own_S p e below T1 (mkF m 24 #[vr a, vr b, vi (6 : Int32), vi (3 : Int32), vj c3, .second] [xi (lcmpW c3 (0 : Int64))]) _
    refine XS.ifYes X1.here hx rfl (pc0 := 24) (pc' := 29) rfl (hb hby d7_24) rfl as8 (by decide) (by decide) ?_
    show own_S p e below T1 (mkF m 29 #[vr a, vr b, vi (6 : Int32), vi (3 : Int32), vj c3, .second] []) _
    refine XS.iinc X1.here hx rfl (hb hby d7_29) rfl (l' := #[vr a, vr b, vi (6 : Int32), vi ((3 : Int32) + (1 : Int32)), vj c3, .second]) rfl ?_
    refine castTop (show (mkF m 32 #[vr a, vr b, vi (6 : Int32), vi ((3 : Int32) + (1 : Int32)), vj c3, .second] []) = (mkF m 32 #[vr a, vr b, vi (6 : Int32), vi (4 : Int32), vj c3, .second] []) from by rw [show ((3 : Int32) + (1 : Int32)) = (4 : Int32) from by decide]) ?_
    show own_S p e below T1 (mkF m 32 #[vr a, vr b, vi (6 : Int32), vi (4 : Int32), vj c3, .second] []) _
    refine XS.goto X1.here hx rfl (pc0 := 32) (pc' := 10) rfl (hb hby d7_32) (by decide) (by decide) ?_
    show own_S p e below T1 (mkF m 10 #[vr a, vr b, vi (6 : Int32), vi (4 : Int32), vj c3, .second] []) _
    refine XS.iloadN X1.here hx rfl (hb hby d7_10) rfl ?_
    show own_S p e below T1 (mkF m 11 #[vr a, vr b, vi (6 : Int32), vi (4 : Int32), vj c3, .second] [xi (4 : Int32)]) _
    refine XS.iloadN X1.here hx rfl (hb hby d7_11) rfl ?_
    show own_S p e below T1 (mkF m 12 #[vr a, vr b, vi (6 : Int32), vi (4 : Int32), vj c3, .second] [xi (6 : Int32), xi (4 : Int32)]) _
    refine XS.icmpNo X1.here hx rfl (hb hby d7_12) rfl (by decide) ?_
    show own_S p e below T1 (mkF m 15 #[vr a, vr b, vi (6 : Int32), vi (4 : Int32), vj c3, .second] []) _
    refine XS.aloadN X1.here hx rfl (hb hby d7_15) rfl rfl ?_
    show own_S p e below T1 (mkF m 16 #[vr a, vr b, vi (6 : Int32), vi (4 : Int32), vj c3, .second] [xr b]) _
    refine XS.iloadN X1.here hx rfl (hb hby d7_16) rfl ?_
    show own_S p e below T1 (mkF m 17 #[vr a, vr b, vi (6 : Int32), vi (4 : Int32), vj c3, .second] [xi (4 : Int32), xr b]) _
    refine X1.laload hx (j := (4 : Int32)) (v := (xj c4)) (by rw [e1]; exact Ar7.1) (State.isArrayOf_alike hZ.alike Ar7.2.1) Ar7.2.2 hin7 hat7 (g := (mkF m 17 #[vr a, vr b, vi (6 : Int32), vi (4 : Int32), vj c3, .second] [xi (4 : Int32), xr b])) rfl rfl (hb hby d7_17) _ ?_
    show own_S p e below T1 (mkF m 18 #[vr a, vr b, vi (6 : Int32), vi (4 : Int32), vj c3, .second] [xj c4]) _
    refine XS.lstore X1.here hx rfl (hb hby d7_18) rfl (l' := #[vr a, vr b, vi (6 : Int32), vi (4 : Int32), vj c4, .second]) rfl ?_
    show own_S p e below T1 (mkF m 20 #[vr a, vr b, vi (6 : Int32), vi (4 : Int32), vj c4, .second] []) _
    refine XS.lload X1.here hx rfl (hb hby d7_20) rfl ?_
    show own_S p e below T1 (mkF m 22 #[vr a, vr b, vi (6 : Int32), vi (4 : Int32), vj c4, .second] [xj c4]) _
    refine XS.lconst X1.here hx rfl (hb hby d7_22) ?_
    show own_S p e below T1 (mkF m 23 #[vr a, vr b, vi (6 : Int32), vi (4 : Int32), vj c4, .second] [xj (0 : Int64), xj c4]) _
    refine XS.lcmp X1.here hx rfl (hb hby d7_23) rfl ?_
    show own_S p e below T1 (mkF m 24 #[vr a, vr b, vi (6 : Int32), vi (4 : Int32), vj c4, .second] [xi (lcmpW c4 (0 : Int64))]) _
    show own_S p e below T1 (mkF m 24 #[vr a, vr b, vi (6 : Int32), vi (4 : Int32), vj c4, .second] [xi (lcmpW c4 (0 : Int64))]) _
    refine XS.ifYes X1.here hx rfl (pc0 := 24) (pc' := 29) rfl (hb hby d7_24) rfl as10 (by decide) (by decide) ?_
    show own_S p e below T1 (mkF m 29 #[vr a, vr b, vi (6 : Int32), vi (4 : Int32), vj c4, .second] []) _
    refine XS.iinc X1.here hx rfl (hb hby d7_29) rfl (l' := #[vr a, vr b, vi (6 : Int32), vi ((4 : Int32) + (1 : Int32)), vj c4, .second]) rfl ?_
    refine castTop (show (mkF m 32 #[vr a, vr b, vi (6 : Int32), vi ((4 : Int32) + (1 : Int32)), vj c4, .second] []) = (mkF m 32 #[vr a, vr b, vi (6 : Int32), vi (5 : Int32), vj c4, .second] []) from by rw [show ((4 : Int32) + (1 : Int32)) = (5 : Int32) from by decide]) ?_
    show own_S p e below T1 (mkF m 32 #[vr a, vr b, vi (6 : Int32), vi (5 : Int32), vj c4, .second] []) _
    refine XS.goto X1.here hx rfl (pc0 := 32) (pc' := 10) rfl (hb hby d7_32) (by decide) (by decide) ?_
    show own_S p e below T1 (mkF m 10 #[vr a, vr b, vi (6 : Int32), vi (5 : Int32), vj c4, .second] []) _
    refine XS.iloadN X1.here hx rfl (hb hby d7_10) rfl ?_
    show own_S p e below T1 (mkF m 11 #[vr a, vr b, vi (6 : Int32), vi (5 : Int32), vj c4, .second] [xi (5 : Int32)]) _
    refine XS.iloadN X1.here hx rfl (hb hby d7_11) rfl ?_
    show own_S p e below T1 (mkF m 12 #[vr a, vr b, vi (6 : Int32), vi (5 : Int32), vj c4, .second] [xi (6 : Int32), xi (5 : Int32)]) _
    refine XS.icmpNo X1.here hx rfl (hb hby d7_12) rfl (by decide) ?_
    show own_S p e below T1 (mkF m 15 #[vr a, vr b, vi (6 : Int32), vi (5 : Int32), vj c4, .second] []) _
    refine XS.aloadN X1.here hx rfl (hb hby d7_15) rfl rfl ?_
    show own_S p e below T1 (mkF m 16 #[vr a, vr b, vi (6 : Int32), vi (5 : Int32), vj c4, .second] [xr b]) _
    refine XS.iloadN X1.here hx rfl (hb hby d7_16) rfl ?_
    show own_S p e below T1 (mkF m 17 #[vr a, vr b, vi (6 : Int32), vi (5 : Int32), vj c4, .second] [xi (5 : Int32), xr b]) _
    refine X1.laload hx (j := (5 : Int32)) (v := (xj c5)) (by rw [e1]; exact Ar8.1) (State.isArrayOf_alike hZ.alike Ar8.2.1) Ar8.2.2 hin8 hat8 (g := (mkF m 17 #[vr a, vr b, vi (6 : Int32), vi (5 : Int32), vj c4, .second] [xi (5 : Int32), xr b])) rfl rfl (hb hby d7_17) _ ?_
    show own_S p e below T1 (mkF m 18 #[vr a, vr b, vi (6 : Int32), vi (5 : Int32), vj c4, .second] [xj c5]) _
    refine XS.lstore X1.here hx rfl (hb hby d7_18) rfl (l' := #[vr a, vr b, vi (6 : Int32), vi (5 : Int32), vj c5, .second]) rfl ?_
    show own_S p e below T1 (mkF m 20 #[vr a, vr b, vi (6 : Int32), vi (5 : Int32), vj c5, .second] []) _
    refine XS.lload X1.here hx rfl (hb hby d7_20) rfl ?_
    show own_S p e below T1 (mkF m 22 #[vr a, vr b, vi (6 : Int32), vi (5 : Int32), vj c5, .second] [xj c5]) _
    refine XS.lconst X1.here hx rfl (hb hby d7_22) ?_
    show own_S p e below T1 (mkF m 23 #[vr a, vr b, vi (6 : Int32), vi (5 : Int32), vj c5, .second] [xj (0 : Int64), xj c5]) _
    refine XS.lcmp X1.here hx rfl (hb hby d7_23) rfl ?_
    show own_S p e below T1 (mkF m 24 #[vr a, vr b, vi (6 : Int32), vi (5 : Int32), vj c5, .second] [xi (lcmpW c5 (0 : Int64))]) _
    show own_S p e below T1 (mkF m 24 #[vr a, vr b, vi (6 : Int32), vi (5 : Int32), vj c5, .second] [xi (lcmpW c5 (0 : Int64))]) _
    refine XS.ifNo X1.here hx rfl (hb hby d7_24) rfl as11 ?_
    show own_S p e below T1 (mkF m 27 #[vr a, vr b, vi (6 : Int32), vi (5 : Int32), vj c5, .second] []) _
    refine XS.iconst X1.here hx rfl (hb hby d7_27) ?_
    show own_S p e below T1 (mkF m 28 #[vr a, vr b, vi (6 : Int32), vi (5 : Int32), vj c5, .second] [xi (0 : Int32)]) _
    exact retN X1 hx (t := .boolean) Bd.returns (by simp) (hb hby d7_28) hr
  · exact ⟨rfl, N0, e1⟩
theorem d7_35 : decode prog_46_method_4_code 35 = .ok (.iconst 1, 1) := by decide +kernel
theorem d7_36 : decode prog_46_method_4_code 36 = .ok (.ireturn, 1) := by decide +kernel
theorem ef_own_empty6 (m : MethodId) (u0 u1 u2 u3 u4 u5 u6 : Addr) (a : Addr) (b : Addr) (k : ClassId) (c0 : Int64) (c1 : Int64) (c2 : Int64) (c3 : Int64) (c4 : Int64) (c5 : Int64) : entryFrame m #[xr a] 6 = (mkF m 0 #[vr a, vu, vu, vu, vu, vu] []) := by first | (simp [entryFrame, mkF, argsToLocals, Value.category]; done) | rfl
set_option maxRecDepth 65536 in
set_option maxHeartbeats 40000000 in
theorem own_empty6 (l : Launch) (Z : State) (a0 : Array Value) (hw : ∀ d ∈ tables_1, d.before a0 Z = true) (u0 u1 u2 u3 u4 u5 u6 : Addr) (G : own_St Z u0 u1 u2 u3 u4 u5 u6) (a : Addr) (b : Addr) (k : ClassId) (c0 : Int64) (c1 : Int64) (c2 : Int64) (c3 : Int64) (c4 : Int64) (c5 : Int64) (as2 : ifCond.holds .le (lcmpW c0 (0 : Int64)) = true) (as4 : ifCond.holds .le (lcmpW c1 (0 : Int64)) = true) (as6 : ifCond.holds .le (lcmpW c2 (0 : Int64)) = true) (as8 : ifCond.holds .le (lcmpW c3 (0 : Int64)) = true) (as10 : ifCond.holds .le (lcmpW c4 (0 : Int64)) = true) (as12 : ifCond.holds .le (lcmpW c5 (0 : Int64)) = true) (h0 : Heap) (n0 : Nat) (O0 : Old Z n0 h0) (gL : own_LS Z h0 n0 a b k c0 c1 c2 c3 c4 c5) : own_Met l Z Y6 prog_46_method_4_code 6 (some .boolean) ({ frames := 0, cells := 0, slots := 0, locals := 0 } : Room) #[xr a] h0 (own_QR (some (xi (1 : Int32))) h0 n0) := by
  intro ws
  refine MetFree.of_bodySF (plainFor_of_name pn1) hisR ?_
  intro p e s m args below meth c s₁ Bd hml0 hP hK
  obtain ⟨rfl, hZ, hh⟩ := hP
  have hx := Bd.exec
  have hby := Bd.bytes
  have hml : c.maxLocals = 6 := hml0
  have hown : s.vm.findClass "com/example/stackwright/stackwright/engine/ManaPool" = some m.cls := findClass_of_methodNamed Bd.named
  have hnm := (name_of_methodNamed Bd.named Bd.method).1
  have X0 : Stand p l e ({ frames := 0, cells := 0, slots := 0, locals := 0 } : Room) s m #[xr a] below meth c s₁ [] 0 0 := Stand.of_body Bd
  have e0 : s₁.heap = h0 := by rw [← hh, Bd.state]; rfl
  have N0 := Fr.nil n0
  have pre0 : ∀ t, Steps p.tables e below (s₁.setTop (mkF m 0 #[vr a, vu, vu, vu, vu, vu] [])) t → Steps p.tables e below (s₁.setTop (entryFrame m #[xr a] 6)) t := fun t st => castTop (ef_own_empty6 m u0 u1 u2 u3 u4 u5 u6 a b k c0 c1 c2 c3 c4 c5) st
  obtain ⟨EA, FA, VA, ne_a_b, g_a, g_b⟩ := gL
  obtain ⟨T1, X1, e1, st1⟩ := getF X0 hx hZ hown (host := "") (Or.inl (ww hw 33 rfl)) Via.refl e0 FA (g := (mkF m 1 #[vr a, vu, vu, vu, vu, vu] [xr a])) rfl rfl (hb hby d7_1)
  obtain ⟨cl2, Ar2, q2, S2, N2_, H2, G2⟩ := id VA
  obtain ⟨cl3, Ar3, q3, S3, N3_, H3, G3⟩ := id VA
  have hin3 : ¬ ((0 : Int32) < 0 ∨ cl3.slots.size ≤ ((0 : Int32)).toNatClampNeg) := inb_of S3 ⟨by decide, by decide⟩
  have hat3 : cl3.slots[((0 : Int32)).toNatClampNeg]? = some (xj c0) := Has.at H3 hin3 rfl
  obtain ⟨cl4, Ar4, q4, S4, N4_, H4, G4⟩ := id VA
  have hin4 : ¬ ((1 : Int32) < 0 ∨ cl4.slots.size ≤ ((1 : Int32)).toNatClampNeg) := inb_of S4 ⟨by decide, by decide⟩
  have hat4 : cl4.slots[((1 : Int32)).toNatClampNeg]? = some (xj c1) := Has.at H4 hin4 rfl
  obtain ⟨cl5, Ar5, q5, S5, N5_, H5, G5⟩ := id VA
  have hin5 : ¬ ((2 : Int32) < 0 ∨ cl5.slots.size ≤ ((2 : Int32)).toNatClampNeg) := inb_of S5 ⟨by decide, by decide⟩
  have hat5 : cl5.slots[((2 : Int32)).toNatClampNeg]? = some (xj c2) := Has.at H5 hin5 rfl
  obtain ⟨cl6, Ar6, q6, S6, N6_, H6, G6⟩ := id VA
  have hin6 : ¬ ((3 : Int32) < 0 ∨ cl6.slots.size ≤ ((3 : Int32)).toNatClampNeg) := inb_of S6 ⟨by decide, by decide⟩
  have hat6 : cl6.slots[((3 : Int32)).toNatClampNeg]? = some (xj c3) := Has.at H6 hin6 rfl
  obtain ⟨cl7, Ar7, q7, S7, N7_, H7, G7⟩ := id VA
  have hin7 : ¬ ((4 : Int32) < 0 ∨ cl7.slots.size ≤ ((4 : Int32)).toNatClampNeg) := inb_of S7 ⟨by decide, by decide⟩
  have hat7 : cl7.slots[((4 : Int32)).toNatClampNeg]? = some (xj c4) := Has.at H7 hin7 rfl
  obtain ⟨cl8, Ar8, q8, S8, N8_, H8, G8⟩ := id VA
  have hin8 : ¬ ((5 : Int32) < 0 ∨ cl8.slots.size ≤ ((5 : Int32)).toNatClampNeg) := inb_of S8 ⟨by decide, by decide⟩
  have hat8 : cl8.slots[((5 : Int32)).toNatClampNeg]? = some (xj c5) := Has.at H8 hin8 rfl
  obtain ⟨fs, hr, hrun, hended, hW, hsame⟩ := X1.leave (v := some (xi (1 : Int32))) (fun h => by rw [Bd.returns] at h; cases h)
  refine ⟨_, _, pre0 _ ?_, hrun, hended, _, _, rfl, ?_, ⟨_, rfl⟩, hW, hsame.mono (by decide) (by decide)⟩
  · show own_S p e below s₁ (mkF m 0 #[vr a, vu, vu, vu, vu, vu] []) _
    refine XS.aloadN X0.here hx rfl (hb hby d7_0) rfl rfl ?_
    show own_S p e below s₁ (mkF m 1 #[vr a, vu, vu, vu, vu, vu] [xr a]) _
    refine st1 _ ?_
    show own_S p e below T1 (mkF m 4 #[vr a, vu, vu, vu, vu, vu] [xr b]) _
    refine XS.astoreN X1.here hx rfl (hb hby d7_4) rfl rfl (l' := #[vr a, vr b, vu, vu, vu, vu]) rfl ?_
    show own_S p e below T1 (mkF m 5 #[vr a, vr b, vu, vu, vu, vu] []) _
    refine XS.aloadN X1.here hx rfl (hb hby d7_5) rfl rfl ?_
    show own_S p e below T1 (mkF m 6 #[vr a, vr b, vu, vu, vu, vu] [xr b]) _
    refine X1.arraylength hx (by rw [e1]; exact Ar2.1) (State.isArrayOf_alike hZ.alike Ar2.2.1) (g := (mkF m 6 #[vr a, vr b, vu, vu, vu, vu] [xr b])) rfl rfl (hb hby d7_6) _ ?_
    refine castTop (show (mkF m 7 #[vr a, vr b, vu, vu, vu, vu] [xi cl2.slots.size.toInt32]) = (mkF m 7 #[vr a, vr b, vu, vu, vu, vu] [xi (6 : Int32)]) from by rw [len_of S2 N2_]) ?_
    show own_S p e below T1 (mkF m 7 #[vr a, vr b, vu, vu, vu, vu] [xi (6 : Int32)]) _
    refine XS.istoreN X1.here hx rfl (hb hby d7_7) rfl (l' := #[vr a, vr b, vi (6 : Int32), vu, vu, vu]) rfl ?_
    show own_S p e below T1 (mkF m 8 #[vr a, vr b, vi (6 : Int32), vu, vu, vu] []) _
    refine XS.iconst X1.here hx rfl (hb hby d7_8) ?_
    show own_S p e below T1 (mkF m 9 #[vr a, vr b, vi (6 : Int32), vu, vu, vu] [xi (0 : Int32)]) _
    refine XS.istoreN X1.here hx rfl (hb hby d7_9) rfl (l' := #[vr a, vr b, vi (6 : Int32), vi (0 : Int32), vu, vu]) rfl ?_
    show own_S p e below T1 (mkF m 10 #[vr a, vr b, vi (6 : Int32), vi (0 : Int32), vu, vu] []) _
    refine XS.iloadN X1.here hx rfl (hb hby d7_10) rfl ?_
    show own_S p e below T1 (mkF m 11 #[vr a, vr b, vi (6 : Int32), vi (0 : Int32), vu, vu] [xi (0 : Int32)]) _
    refine XS.iloadN X1.here hx rfl (hb hby d7_11) rfl ?_
    show own_S p e below T1 (mkF m 12 #[vr a, vr b, vi (6 : Int32), vi (0 : Int32), vu, vu] [xi (6 : Int32), xi (0 : Int32)]) _
    refine XS.icmpNo X1.here hx rfl (hb hby d7_12) rfl (by decide) ?_
    show own_S p e below T1 (mkF m 15 #[vr a, vr b, vi (6 : Int32), vi (0 : Int32), vu, vu] []) _
    refine XS.aloadN X1.here hx rfl (hb hby d7_15) rfl rfl ?_
    show own_S p e below T1 (mkF m 16 #[vr a, vr b, vi (6 : Int32), vi (0 : Int32), vu, vu] [xr b]) _
    refine XS.iloadN X1.here hx rfl (hb hby d7_16) rfl ?_
    show own_S p e below T1 (mkF m 17 #[vr a, vr b, vi (6 : Int32), vi (0 : Int32), vu, vu] [xi (0 : Int32), xr b]) _
    refine X1.laload hx (j := (0 : Int32)) (v := (xj c0)) (by rw [e1]; exact Ar3.1) (State.isArrayOf_alike hZ.alike Ar3.2.1) Ar3.2.2 hin3 hat3 (g := (mkF m 17 #[vr a, vr b, vi (6 : Int32), vi (0 : Int32), vu, vu] [xi (0 : Int32), xr b])) rfl rfl (hb hby d7_17) _ ?_
    show own_S p e below T1 (mkF m 18 #[vr a, vr b, vi (6 : Int32), vi (0 : Int32), vu, vu] [xj c0]) _
    refine XS.lstore X1.here hx rfl (hb hby d7_18) rfl (l' := #[vr a, vr b, vi (6 : Int32), vi (0 : Int32), vj c0, .second]) rfl ?_
    show own_S p e below T1 (mkF m 20 #[vr a, vr b, vi (6 : Int32), vi (0 : Int32), vj c0, .second] []) _
    refine XS.lload X1.here hx rfl (hb hby d7_20) rfl ?_
    show own_S p e below T1 (mkF m 22 #[vr a, vr b, vi (6 : Int32), vi (0 : Int32), vj c0, .second] [xj c0]) _
    refine XS.lconst X1.here hx rfl (hb hby d7_22) ?_
    show own_S p e below T1 (mkF m 23 #[vr a, vr b, vi (6 : Int32), vi (0 : Int32), vj c0, .second] [xj (0 : Int64), xj c0]) _
    refine XS.lcmp X1.here hx rfl (hb hby d7_23) rfl ?_
    show own_S p e below T1 (mkF m 24 #[vr a, vr b, vi (6 : Int32), vi (0 : Int32), vj c0, .second] [xi (lcmpW c0 (0 : Int64))]) _
    show own_S p e below T1 (mkF m 24 #[vr a, vr b, vi (6 : Int32), vi (0 : Int32), vj c0, .second] [xi (lcmpW c0 (0 : Int64))]) _
    refine XS.ifYes X1.here hx rfl (pc0 := 24) (pc' := 29) rfl (hb hby d7_24) rfl as2 (by decide) (by decide) ?_
    show own_S p e below T1 (mkF m 29 #[vr a, vr b, vi (6 : Int32), vi (0 : Int32), vj c0, .second] []) _
    refine XS.iinc X1.here hx rfl (hb hby d7_29) rfl (l' := #[vr a, vr b, vi (6 : Int32), vi ((0 : Int32) + (1 : Int32)), vj c0, .second]) rfl ?_
    refine castTop (show (mkF m 32 #[vr a, vr b, vi (6 : Int32), vi ((0 : Int32) + (1 : Int32)), vj c0, .second] []) = (mkF m 32 #[vr a, vr b, vi (6 : Int32), vi (1 : Int32), vj c0, .second] []) from by rw [show ((0 : Int32) + (1 : Int32)) = (1 : Int32) from by decide]) ?_
    show own_S p e below T1 (mkF m 32 #[vr a, vr b, vi (6 : Int32), vi (1 : Int32), vj c0, .second] []) _
    refine XS.goto X1.here hx rfl (pc0 := 32) (pc' := 10) rfl (hb hby d7_32) (by decide) (by decide) ?_
    show own_S p e below T1 (mkF m 10 #[vr a, vr b, vi (6 : Int32), vi (1 : Int32), vj c0, .second] []) _
    refine XS.iloadN X1.here hx rfl (hb hby d7_10) rfl ?_
    show own_S p e below T1 (mkF m 11 #[vr a, vr b, vi (6 : Int32), vi (1 : Int32), vj c0, .second] [xi (1 : Int32)]) _
    refine XS.iloadN X1.here hx rfl (hb hby d7_11) rfl ?_
    show own_S p e below T1 (mkF m 12 #[vr a, vr b, vi (6 : Int32), vi (1 : Int32), vj c0, .second] [xi (6 : Int32), xi (1 : Int32)]) _
    refine XS.icmpNo X1.here hx rfl (hb hby d7_12) rfl (by decide) ?_
    show own_S p e below T1 (mkF m 15 #[vr a, vr b, vi (6 : Int32), vi (1 : Int32), vj c0, .second] []) _
    refine XS.aloadN X1.here hx rfl (hb hby d7_15) rfl rfl ?_
    show own_S p e below T1 (mkF m 16 #[vr a, vr b, vi (6 : Int32), vi (1 : Int32), vj c0, .second] [xr b]) _
    refine XS.iloadN X1.here hx rfl (hb hby d7_16) rfl ?_
    show own_S p e below T1 (mkF m 17 #[vr a, vr b, vi (6 : Int32), vi (1 : Int32), vj c0, .second] [xi (1 : Int32), xr b]) _
    refine X1.laload hx (j := (1 : Int32)) (v := (xj c1)) (by rw [e1]; exact Ar4.1) (State.isArrayOf_alike hZ.alike Ar4.2.1) Ar4.2.2 hin4 hat4 (g := (mkF m 17 #[vr a, vr b, vi (6 : Int32), vi (1 : Int32), vj c0, .second] [xi (1 : Int32), xr b])) rfl rfl (hb hby d7_17) _ ?_
    show own_S p e below T1 (mkF m 18 #[vr a, vr b, vi (6 : Int32), vi (1 : Int32), vj c0, .second] [xj c1]) _
    refine XS.lstore X1.here hx rfl (hb hby d7_18) rfl (l' := #[vr a, vr b, vi (6 : Int32), vi (1 : Int32), vj c1, .second]) rfl ?_
    show own_S p e below T1 (mkF m 20 #[vr a, vr b, vi (6 : Int32), vi (1 : Int32), vj c1, .second] []) _
    refine XS.lload X1.here hx rfl (hb hby d7_20) rfl ?_
    show own_S p e below T1 (mkF m 22 #[vr a, vr b, vi (6 : Int32), vi (1 : Int32), vj c1, .second] [xj c1]) _
    refine XS.lconst X1.here hx rfl (hb hby d7_22) ?_
    show own_S p e below T1 (mkF m 23 #[vr a, vr b, vi (6 : Int32), vi (1 : Int32), vj c1, .second] [xj (0 : Int64), xj c1]) _
    refine XS.lcmp X1.here hx rfl (hb hby d7_23) rfl ?_
    show own_S p e below T1 (mkF m 24 #[vr a, vr b, vi (6 : Int32), vi (1 : Int32), vj c1, .second] [xi (lcmpW c1 (0 : Int64))]) _
    show own_S p e below T1 (mkF m 24 #[vr a, vr b, vi (6 : Int32), vi (1 : Int32), vj c1, .second] [xi (lcmpW c1 (0 : Int64))]) _
    refine XS.ifYes X1.here hx rfl (pc0 := 24) (pc' := 29) rfl (hb hby d7_24) rfl as4 (by decide) (by decide) ?_
    show own_S p e below T1 (mkF m 29 #[vr a, vr b, vi (6 : Int32), vi (1 : Int32), vj c1, .second] []) _
    refine XS.iinc X1.here hx rfl (hb hby d7_29) rfl (l' := #[vr a, vr b, vi (6 : Int32), vi ((1 : Int32) + (1 : Int32)), vj c1, .second]) rfl ?_
    refine castTop (show (mkF m 32 #[vr a, vr b, vi (6 : Int32), vi ((1 : Int32) + (1 : Int32)), vj c1, .second] []) = (mkF m 32 #[vr a, vr b, vi (6 : Int32), vi (2 : Int32), vj c1, .second] []) from by rw [show ((1 : Int32) + (1 : Int32)) = (2 : Int32) from by decide]) ?_
    show own_S p e below T1 (mkF m 32 #[vr a, vr b, vi (6 : Int32), vi (2 : Int32), vj c1, .second] []) _
    refine XS.goto X1.here hx rfl (pc0 := 32) (pc' := 10) rfl (hb hby d7_32) (by decide) (by decide) ?_
    show own_S p e below T1 (mkF m 10 #[vr a, vr b, vi (6 : Int32), vi (2 : Int32), vj c1, .second] []) _
    refine XS.iloadN X1.here hx rfl (hb hby d7_10) rfl ?_
    show own_S p e below T1 (mkF m 11 #[vr a, vr b, vi (6 : Int32), vi (2 : Int32), vj c1, .second] [xi (2 : Int32)]) _
    refine XS.iloadN X1.here hx rfl (hb hby d7_11) rfl ?_
    show own_S p e below T1 (mkF m 12 #[vr a, vr b, vi (6 : Int32), vi (2 : Int32), vj c1, .second] [xi (6 : Int32), xi (2 : Int32)]) _
    refine XS.icmpNo X1.here hx rfl (hb hby d7_12) rfl (by decide) ?_
    show own_S p e below T1 (mkF m 15 #[vr a, vr b, vi (6 : Int32), vi (2 : Int32), vj c1, .second] []) _
    refine XS.aloadN X1.here hx rfl (hb hby d7_15) rfl rfl ?_
    show own_S p e below T1 (mkF m 16 #[vr a, vr b, vi (6 : Int32), vi (2 : Int32), vj c1, .second] [xr b]) _
    refine XS.iloadN X1.here hx rfl (hb hby d7_16) rfl ?_
    show own_S p e below T1 (mkF m 17 #[vr a, vr b, vi (6 : Int32), vi (2 : Int32), vj c1, .second] [xi (2 : Int32), xr b]) _
    refine X1.laload hx (j := (2 : Int32)) (v := (xj c2)) (by rw [e1]; exact Ar5.1) (State.isArrayOf_alike hZ.alike Ar5.2.1) Ar5.2.2 hin5 hat5 (g := (mkF m 17 #[vr a, vr b, vi (6 : Int32), vi (2 : Int32), vj c1, .second] [xi (2 : Int32), xr b])) rfl rfl (hb hby d7_17) _ ?_
    show own_S p e below T1 (mkF m 18 #[vr a, vr b, vi (6 : Int32), vi (2 : Int32), vj c1, .second] [xj c2]) _
    refine XS.lstore X1.here hx rfl (hb hby d7_18) rfl (l' := #[vr a, vr b, vi (6 : Int32), vi (2 : Int32), vj c2, .second]) rfl ?_
    show own_S p e below T1 (mkF m 20 #[vr a, vr b, vi (6 : Int32), vi (2 : Int32), vj c2, .second] []) _
    refine XS.lload X1.here hx rfl (hb hby d7_20) rfl ?_
    show own_S p e below T1 (mkF m 22 #[vr a, vr b, vi (6 : Int32), vi (2 : Int32), vj c2, .second] [xj c2]) _
    refine XS.lconst X1.here hx rfl (hb hby d7_22) ?_
    show own_S p e below T1 (mkF m 23 #[vr a, vr b, vi (6 : Int32), vi (2 : Int32), vj c2, .second] [xj (0 : Int64), xj c2]) _
    refine XS.lcmp X1.here hx rfl (hb hby d7_23) rfl ?_
    show own_S p e below T1 (mkF m 24 #[vr a, vr b, vi (6 : Int32), vi (2 : Int32), vj c2, .second] [xi (lcmpW c2 (0 : Int64))]) _
    show own_S p e below T1 (mkF m 24 #[vr a, vr b, vi (6 : Int32), vi (2 : Int32), vj c2, .second] [xi (lcmpW c2 (0 : Int64))]) _
    refine XS.ifYes X1.here hx rfl (pc0 := 24) (pc' := 29) rfl (hb hby d7_24) rfl as6 (by decide) (by decide) ?_
    show own_S p e below T1 (mkF m 29 #[vr a, vr b, vi (6 : Int32), vi (2 : Int32), vj c2, .second] []) _
    refine XS.iinc X1.here hx rfl (hb hby d7_29) rfl (l' := #[vr a, vr b, vi (6 : Int32), vi ((2 : Int32) + (1 : Int32)), vj c2, .second]) rfl ?_
    refine castTop (show (mkF m 32 #[vr a, vr b, vi (6 : Int32), vi ((2 : Int32) + (1 : Int32)), vj c2, .second] []) = (mkF m 32 #[vr a, vr b, vi (6 : Int32), vi (3 : Int32), vj c2, .second] []) from by rw [show ((2 : Int32) + (1 : Int32)) = (3 : Int32) from by decide]) ?_
    show own_S p e below T1 (mkF m 32 #[vr a, vr b, vi (6 : Int32), vi (3 : Int32), vj c2, .second] []) _
    refine XS.goto X1.here hx rfl (pc0 := 32) (pc' := 10) rfl (hb hby d7_32) (by decide) (by decide) ?_
    show own_S p e below T1 (mkF m 10 #[vr a, vr b, vi (6 : Int32), vi (3 : Int32), vj c2, .second] []) _
    refine XS.iloadN X1.here hx rfl (hb hby d7_10) rfl ?_
    show own_S p e below T1 (mkF m 11 #[vr a, vr b, vi (6 : Int32), vi (3 : Int32), vj c2, .second] [xi (3 : Int32)]) _
    refine XS.iloadN X1.here hx rfl (hb hby d7_11) rfl ?_
    show own_S p e below T1 (mkF m 12 #[vr a, vr b, vi (6 : Int32), vi (3 : Int32), vj c2, .second] [xi (6 : Int32), xi (3 : Int32)]) _
    refine XS.icmpNo X1.here hx rfl (hb hby d7_12) rfl (by decide) ?_
    show own_S p e below T1 (mkF m 15 #[vr a, vr b, vi (6 : Int32), vi (3 : Int32), vj c2, .second] []) _
    refine XS.aloadN X1.here hx rfl (hb hby d7_15) rfl rfl ?_
    show own_S p e below T1 (mkF m 16 #[vr a, vr b, vi (6 : Int32), vi (3 : Int32), vj c2, .second] [xr b]) _
    refine XS.iloadN X1.here hx rfl (hb hby d7_16) rfl ?_
    show own_S p e below T1 (mkF m 17 #[vr a, vr b, vi (6 : Int32), vi (3 : Int32), vj c2, .second] [xi (3 : Int32), xr b]) _
    refine X1.laload hx (j := (3 : Int32)) (v := (xj c3)) (by rw [e1]; exact Ar6.1) (State.isArrayOf_alike hZ.alike Ar6.2.1) Ar6.2.2 hin6 hat6 (g := (mkF m 17 #[vr a, vr b, vi (6 : Int32), vi (3 : Int32), vj c2, .second] [xi (3 : Int32), xr b])) rfl rfl (hb hby d7_17) _ ?_
    show own_S p e below T1 (mkF m 18 #[vr a, vr b, vi (6 : Int32), vi (3 : Int32), vj c2, .second] [xj c3]) _
    refine XS.lstore X1.here hx rfl (hb hby d7_18) rfl (l' := #[vr a, vr b, vi (6 : Int32), vi (3 : Int32), vj c3, .second]) rfl ?_
    show own_S p e below T1 (mkF m 20 #[vr a, vr b, vi (6 : Int32), vi (3 : Int32), vj c3, .second] []) _
    refine XS.lload X1.here hx rfl (hb hby d7_20) rfl ?_
    show own_S p e below T1 (mkF m 22 #[vr a, vr b, vi (6 : Int32), vi (3 : Int32), vj c3, .second] [xj c3]) _
    refine XS.lconst X1.here hx rfl (hb hby d7_22) ?_
    show own_S p e below T1 (mkF m 23 #[vr a, vr b, vi (6 : Int32), vi (3 : Int32), vj c3, .second] [xj (0 : Int64), xj c3]) _
    refine XS.lcmp X1.here hx rfl (hb hby d7_23) rfl ?_
    show own_S p e below T1 (mkF m 24 #[vr a, vr b, vi (6 : Int32), vi (3 : Int32), vj c3, .second] [xi (lcmpW c3 (0 : Int64))]) _
    show own_S p e below T1 (mkF m 24 #[vr a, vr b, vi (6 : Int32), vi (3 : Int32), vj c3, .second] [xi (lcmpW c3 (0 : Int64))]) _
    refine XS.ifYes X1.here hx rfl (pc0 := 24) (pc' := 29) rfl (hb hby d7_24) rfl as8 (by decide) (by decide) ?_
    show own_S p e below T1 (mkF m 29 #[vr a, vr b, vi (6 : Int32), vi (3 : Int32), vj c3, .second] []) _
    refine XS.iinc X1.here hx rfl (hb hby d7_29) rfl (l' := #[vr a, vr b, vi (6 : Int32), vi ((3 : Int32) + (1 : Int32)), vj c3, .second]) rfl ?_
    refine castTop (show (mkF m 32 #[vr a, vr b, vi (6 : Int32), vi ((3 : Int32) + (1 : Int32)), vj c3, .second] []) = (mkF m 32 #[vr a, vr b, vi (6 : Int32), vi (4 : Int32), vj c3, .second] []) from by rw [show ((3 : Int32) + (1 : Int32)) = (4 : Int32) from by decide]) ?_
    show own_S p e below T1 (mkF m 32 #[vr a, vr b, vi (6 : Int32), vi (4 : Int32), vj c3, .second] []) _
    refine XS.goto X1.here hx rfl (pc0 := 32) (pc' := 10) rfl (hb hby d7_32) (by decide) (by decide) ?_
    show own_S p e below T1 (mkF m 10 #[vr a, vr b, vi (6 : Int32), vi (4 : Int32), vj c3, .second] []) _
    refine XS.iloadN X1.here hx rfl (hb hby d7_10) rfl ?_
    show own_S p e below T1 (mkF m 11 #[vr a, vr b, vi (6 : Int32), vi (4 : Int32), vj c3, .second] [xi (4 : Int32)]) _
    refine XS.iloadN X1.here hx rfl (hb hby d7_11) rfl ?_
    show own_S p e below T1 (mkF m 12 #[vr a, vr b, vi (6 : Int32), vi (4 : Int32), vj c3, .second] [xi (6 : Int32), xi (4 : Int32)]) _
    refine XS.icmpNo X1.here hx rfl (hb hby d7_12) rfl (by decide) ?_
    show own_S p e below T1 (mkF m 15 #[vr a, vr b, vi (6 : Int32), vi (4 : Int32), vj c3, .second] []) _
    refine XS.aloadN X1.here hx rfl (hb hby d7_15) rfl rfl ?_
    show own_S p e below T1 (mkF m 16 #[vr a, vr b, vi (6 : Int32), vi (4 : Int32), vj c3, .second] [xr b]) _
    refine XS.iloadN X1.here hx rfl (hb hby d7_16) rfl ?_
    show own_S p e below T1 (mkF m 17 #[vr a, vr b, vi (6 : Int32), vi (4 : Int32), vj c3, .second] [xi (4 : Int32), xr b]) _
    refine X1.laload hx (j := (4 : Int32)) (v := (xj c4)) (by rw [e1]; exact Ar7.1) (State.isArrayOf_alike hZ.alike Ar7.2.1) Ar7.2.2 hin7 hat7 (g := (mkF m 17 #[vr a, vr b, vi (6 : Int32), vi (4 : Int32), vj c3, .second] [xi (4 : Int32), xr b])) rfl rfl (hb hby d7_17) _ ?_
    show own_S p e below T1 (mkF m 18 #[vr a, vr b, vi (6 : Int32), vi (4 : Int32), vj c3, .second] [xj c4]) _
    refine XS.lstore X1.here hx rfl (hb hby d7_18) rfl (l' := #[vr a, vr b, vi (6 : Int32), vi (4 : Int32), vj c4, .second]) rfl ?_
    show own_S p e below T1 (mkF m 20 #[vr a, vr b, vi (6 : Int32), vi (4 : Int32), vj c4, .second] []) _
    refine XS.lload X1.here hx rfl (hb hby d7_20) rfl ?_
    show own_S p e below T1 (mkF m 22 #[vr a, vr b, vi (6 : Int32), vi (4 : Int32), vj c4, .second] [xj c4]) _
    refine XS.lconst X1.here hx rfl (hb hby d7_22) ?_
    show own_S p e below T1 (mkF m 23 #[vr a, vr b, vi (6 : Int32), vi (4 : Int32), vj c4, .second] [xj (0 : Int64), xj c4]) _
    refine XS.lcmp X1.here hx rfl (hb hby d7_23) rfl ?_
    show own_S p e below T1 (mkF m 24 #[vr a, vr b, vi (6 : Int32), vi (4 : Int32), vj c4, .second] [xi (lcmpW c4 (0 : Int64))]) _
    show own_S p e below T1 (mkF m 24 #[vr a, vr b, vi (6 : Int32), vi (4 : Int32), vj c4, .second] [xi (lcmpW c4 (0 : Int64))]) _
    refine XS.ifYes X1.here hx rfl (pc0 := 24) (pc' := 29) rfl (hb hby d7_24) rfl as10 (by decide) (by decide) ?_
    show own_S p e below T1 (mkF m 29 #[vr a, vr b, vi (6 : Int32), vi (4 : Int32), vj c4, .second] []) _
    refine XS.iinc X1.here hx rfl (hb hby d7_29) rfl (l' := #[vr a, vr b, vi (6 : Int32), vi ((4 : Int32) + (1 : Int32)), vj c4, .second]) rfl ?_
    refine castTop (show (mkF m 32 #[vr a, vr b, vi (6 : Int32), vi ((4 : Int32) + (1 : Int32)), vj c4, .second] []) = (mkF m 32 #[vr a, vr b, vi (6 : Int32), vi (5 : Int32), vj c4, .second] []) from by rw [show ((4 : Int32) + (1 : Int32)) = (5 : Int32) from by decide]) ?_
    show own_S p e below T1 (mkF m 32 #[vr a, vr b, vi (6 : Int32), vi (5 : Int32), vj c4, .second] []) _
    refine XS.goto X1.here hx rfl (pc0 := 32) (pc' := 10) rfl (hb hby d7_32) (by decide) (by decide) ?_
    show own_S p e below T1 (mkF m 10 #[vr a, vr b, vi (6 : Int32), vi (5 : Int32), vj c4, .second] []) _
    refine XS.iloadN X1.here hx rfl (hb hby d7_10) rfl ?_
    show own_S p e below T1 (mkF m 11 #[vr a, vr b, vi (6 : Int32), vi (5 : Int32), vj c4, .second] [xi (5 : Int32)]) _
    refine XS.iloadN X1.here hx rfl (hb hby d7_11) rfl ?_
    show own_S p e below T1 (mkF m 12 #[vr a, vr b, vi (6 : Int32), vi (5 : Int32), vj c4, .second] [xi (6 : Int32), xi (5 : Int32)]) _
    refine XS.icmpNo X1.here hx rfl (hb hby d7_12) rfl (by decide) ?_
    show own_S p e below T1 (mkF m 15 #[vr a, vr b, vi (6 : Int32), vi (5 : Int32), vj c4, .second] []) _
    refine XS.aloadN X1.here hx rfl (hb hby d7_15) rfl rfl ?_
    show own_S p e below T1 (mkF m 16 #[vr a, vr b, vi (6 : Int32), vi (5 : Int32), vj c4, .second] [xr b]) _
    refine XS.iloadN X1.here hx rfl (hb hby d7_16) rfl ?_
    show own_S p e below T1 (mkF m 17 #[vr a, vr b, vi (6 : Int32), vi (5 : Int32), vj c4, .second] [xi (5 : Int32), xr b]) _
    refine X1.laload hx (j := (5 : Int32)) (v := (xj c5)) (by rw [e1]; exact Ar8.1) (State.isArrayOf_alike hZ.alike Ar8.2.1) Ar8.2.2 hin8 hat8 (g := (mkF m 17 #[vr a, vr b, vi (6 : Int32), vi (5 : Int32), vj c4, .second] [xi (5 : Int32), xr b])) rfl rfl (hb hby d7_17) _ ?_
    show own_S p e below T1 (mkF m 18 #[vr a, vr b, vi (6 : Int32), vi (5 : Int32), vj c4, .second] [xj c5]) _
    refine XS.lstore X1.here hx rfl (hb hby d7_18) rfl (l' := #[vr a, vr b, vi (6 : Int32), vi (5 : Int32), vj c5, .second]) rfl ?_
    show own_S p e below T1 (mkF m 20 #[vr a, vr b, vi (6 : Int32), vi (5 : Int32), vj c5, .second] []) _
    refine XS.lload X1.here hx rfl (hb hby d7_20) rfl ?_
    show own_S p e below T1 (mkF m 22 #[vr a, vr b, vi (6 : Int32), vi (5 : Int32), vj c5, .second] [xj c5]) _
    refine XS.lconst X1.here hx rfl (hb hby d7_22) ?_
    show own_S p e below T1 (mkF m 23 #[vr a, vr b, vi (6 : Int32), vi (5 : Int32), vj c5, .second] [xj (0 : Int64), xj c5]) _
    refine XS.lcmp X1.here hx rfl (hb hby d7_23) rfl ?_
    show own_S p e below T1 (mkF m 24 #[vr a, vr b, vi (6 : Int32), vi (5 : Int32), vj c5, .second] [xi (lcmpW c5 (0 : Int64))]) _
    show own_S p e below T1 (mkF m 24 #[vr a, vr b, vi (6 : Int32), vi (5 : Int32), vj c5, .second] [xi (lcmpW c5 (0 : Int64))]) _
    refine XS.ifYes X1.here hx rfl (pc0 := 24) (pc' := 29) rfl (hb hby d7_24) rfl as12 (by decide) (by decide) ?_
    show own_S p e below T1 (mkF m 29 #[vr a, vr b, vi (6 : Int32), vi (5 : Int32), vj c5, .second] []) _
    refine XS.iinc X1.here hx rfl (hb hby d7_29) rfl (l' := #[vr a, vr b, vi (6 : Int32), vi ((5 : Int32) + (1 : Int32)), vj c5, .second]) rfl ?_
    refine castTop (show (mkF m 32 #[vr a, vr b, vi (6 : Int32), vi ((5 : Int32) + (1 : Int32)), vj c5, .second] []) = (mkF m 32 #[vr a, vr b, vi (6 : Int32), vi (6 : Int32), vj c5, .second] []) from by rw [show ((5 : Int32) + (1 : Int32)) = (6 : Int32) from by decide]) ?_
    show own_S p e below T1 (mkF m 32 #[vr a, vr b, vi (6 : Int32), vi (6 : Int32), vj c5, .second] []) _
    refine XS.goto X1.here hx rfl (pc0 := 32) (pc' := 10) rfl (hb hby d7_32) (by decide) (by decide) ?_
    show own_S p e below T1 (mkF m 10 #[vr a, vr b, vi (6 : Int32), vi (6 : Int32), vj c5, .second] []) _
    refine XS.iloadN X1.here hx rfl (hb hby d7_10) rfl ?_
    show own_S p e below T1 (mkF m 11 #[vr a, vr b, vi (6 : Int32), vi (6 : Int32), vj c5, .second] [xi (6 : Int32)]) _
    refine XS.iloadN X1.here hx rfl (hb hby d7_11) rfl ?_
    show own_S p e below T1 (mkF m 12 #[vr a, vr b, vi (6 : Int32), vi (6 : Int32), vj c5, .second] [xi (6 : Int32), xi (6 : Int32)]) _
    refine XS.icmpYes X1.here hx rfl (pc0 := 12) (pc' := 35) rfl (hb hby d7_12) rfl (by decide) (by decide) (by decide) ?_
    show own_S p e below T1 (mkF m 35 #[vr a, vr b, vi (6 : Int32), vi (6 : Int32), vj c5, .second] []) _
    refine XS.iconst X1.here hx rfl (hb hby d7_35) ?_
    show own_S p e below T1 (mkF m 36 #[vr a, vr b, vi (6 : Int32), vi (6 : Int32), vj c5, .second] [xi (1 : Int32)]) _
    exact retN X1 hx (t := .boolean) Bd.returns (by simp) (hb hby d7_36) hr
  · exact ⟨rfl, N0, e1⟩
theorem own_nn (p q : Int64) (z : (p &&& (9223372036854775807 : Int64)) = q) : ifCond.holds .ge (lcmpW q (0 : Int64)) = true := by
  have h1 := c_maskL p (9223372036854775807 : Int64) 63 (by decide) (by decide)
  rw [z] at h1
  have h2 : 0 ≤ q.toInt := by omega
  have h3 := c_lcmp q 0
  have h0 : ((0 : Int64)).toInt = 0 := by decide
  rw [if0]
  refine (flt (fun h => ?_)).2.1
  rw [Int32.lt_iff_toInt_lt] at h
  have hz : ((0 : Int32)).toInt = 0 := by decide
  rcases Int.lt_or_eq_of_le h2 with q | q
  · have := h3.2.2 (by omega); omega
  · have := h3.2.1 (by omega); omega
theorem own_z (p q : Int64) (z : (p &&& (9223372036854775807 : Int64)) = q) : (ifCond.holds .ne (lcmpW q (0 : Int64)) = false ∧ ifCond.holds .le (lcmpW q (0 : Int64)) = true) ∨ (ifCond.holds .ne (lcmpW q (0 : Int64)) = true ∧ ifCond.holds .le (lcmpW q (0 : Int64)) = false) := by
  have h1 := c_maskL p (9223372036854775807 : Int64) 63 (by decide) (by decide)
  rw [z] at h1
  have h2 : 0 ≤ q.toInt := by omega
  have h3 := c_lcmp q 0
  have h0 : ((0 : Int64)).toInt = 0 := by decide
  have hz : ((0 : Int32)).toInt = 0 := by decide
  rw [if0, if0]
  rcases Int.lt_or_eq_of_le h2 with q | q
  · have h4 := h3.2.2 (by omega)
    refine Or.inr ⟨(feq (fun h => ?_)).2, (tlt ?_).2.2.2⟩
    · rw [h] at h4; omega
    · rw [Int32.lt_iff_toInt_lt]; omega
  · have h4 := h3.2.1 (by omega)
    refine Or.inl ⟨(teq (Int32.toInt_inj.mp (h4.trans hz.symm))).2, (flt (fun h => ?_)).2.2.2⟩
    rw [Int32.lt_iff_toInt_lt] at h; omega
theorem pd3 : parseMethodDescriptor "()V" = some ⟨[], none⟩ := by decide +kernel
theorem pd4 : parseMethodDescriptor "(Lcom/example/stackwright/stackwright/engine/ManaType;J)V" = some ⟨[(.object "com/example/stackwright/stackwright/engine/ManaType"), .long], none⟩ := by decide +kernel
theorem pd5 : parseMethodDescriptor "()Z" = some ⟨[], some .boolean⟩ := by decide +kernel
theorem pn4 : plainName "com/example/stackwright/stackwright/engine/ManaPoolIsEmptyPinLaw" = true := by first | (simp [plainName, overriddenIn]; done) | decide +kernel
theorem ef_own_l0 (m : MethodId) (u0 u1 u2 u3 u4 u5 u6 : Addr) (p0 : Int64) (p1 : Int64) (p2 : Int64) (p3 : Int64) (p4 : Int64) (p5 : Int64) (q0_ : Int64) (q1_ : Int64) (q2_ : Int64) (q3_ : Int64) (q4_ : Int64) (q5_ : Int64) : entryFrame m #[xj p0, xj p1, xj p2, xj p3, xj p4, xj p5] maxLocals = (mkF m 0 #[vj p0, .second, vj p1, .second, vj p2, .second, vj p3, .second, vj p4, .second, vj p5, .second, vu, vu, vu, vu, vu, vu, vu, vu, vu, vu, vu, vu, vu, vu] []) := by first | (simp [entryFrame, mkF, argsToLocals, Value.category, maxLocals]; done) | rfl
set_option maxRecDepth 65536 in
set_option maxHeartbeats 40000000 in
theorem own_l0 (l : Launch) (Z : State) (a0 : Array Value) (hw : ∀ d ∈ tables_1, d.before a0 Z = true) (u0 u1 u2 u3 u4 u5 u6 : Addr) (G : own_St Z u0 u1 u2 u3 u4 u5 u6) (p0 : Int64) (p1 : Int64) (p2 : Int64) (p3 : Int64) (p4 : Int64) (p5 : Int64) (q0_ : Int64) (q1_ : Int64) (q2_ : Int64) (q3_ : Int64) (q4_ : Int64) (q5_ : Int64) (as13 : (p0 &&& (9223372036854775807 : Int64)) = q0_) (as14 : (p1 &&& (9223372036854775807 : Int64)) = q1_) (as15 : (p2 &&& (9223372036854775807 : Int64)) = q2_) (as16 : (p3 &&& (9223372036854775807 : Int64)) = q3_) (as17 : (p4 &&& (9223372036854775807 : Int64)) = q4_) (as18 : (p5 &&& (9223372036854775807 : Int64)) = q5_) (as19 : ifCond.holds .ne (lcmpW q0_ (0 : Int64)) = false) (as23 : ifCond.holds .ne (lcmpW q1_ (0 : Int64)) = false) (as27 : ifCond.holds .ne (lcmpW q2_ (0 : Int64)) = false) (as31 : ifCond.holds .ne (lcmpW q3_ (0 : Int64)) = false) (as35 : ifCond.holds .ne (lcmpW q4_ (0 : Int64)) = false) (as39 : ifCond.holds .ne (lcmpW q5_ (0 : Int64)) = false) (as20 : ifCond.holds .le (lcmpW q0_ (0 : Int64)) = true) (as24 : ifCond.holds .le (lcmpW q1_ (0 : Int64)) = true) (as28 : ifCond.holds .le (lcmpW q2_ (0 : Int64)) = true) (as32 : ifCond.holds .le (lcmpW q3_ (0 : Int64)) = true) (as36 : ifCond.holds .le (lcmpW q4_ (0 : Int64)) = true) (as40 : ifCond.holds .le (lcmpW q5_ (0 : Int64)) = true) (h0 : Heap) (n0 : Nat) (O0 : Old Z n0 h0) : own_Met l Z x code maxLocals ret room_1 #[xj p0, xj p1, xj p2, xj p3, xj p4, xj p5] h0 (own_QL (some (xi (1 : Int32))) n0) := by
  intro ws
  refine MetFree.of_bodySF (plainFor_of_name pn4) hisR ?_
  intro p e s m args below meth c s₁ Bd hml0 hP hK
  obtain ⟨rfl, hZ, hh⟩ := hP
  have hx := Bd.exec
  have hby := Bd.bytes
  have hml : c.maxLocals = 26 := hml0
  have hown : s.vm.findClass "com/example/stackwright/stackwright/engine/ManaPoolIsEmptyPinLaw" = some m.cls := findClass_of_methodNamed Bd.named
  have hnm := (name_of_methodNamed Bd.named Bd.method).1
  have X0 : Stand p l e room_1 s m #[xj p0, xj p1, xj p2, xj p3, xj p4, xj p5] below meth c s₁ [] 0 0 := Stand.of_body Bd
  have e0 : s₁.heap = h0 := by rw [← hh, Bd.state]; rfl
  have N0 := Fr.nil n0
  have pre0 : ∀ t, Steps p.tables e below (s₁.setTop (mkF m 0 #[vj p0, .second, vj p1, .second, vj p2, .second, vj p3, .second, vj p4, .second, vj p5, .second, vu, vu, vu, vu, vu, vu, vu, vu, vu, vu, vu, vu, vu, vu] [])) t → Steps p.tables e below (s₁.setTop (entryFrame m #[xj p0, xj p1, xj p2, xj p3, xj p4, xj p5] maxLocals)) t := fun t st => castTop (ef_own_l0 m u0 u1 u2 u3 u4 u5 u6 p0 p1 p2 p3 p4 p5 q0_ q1_ q2_ q3_ q4_ q5_) st
  obtain ⟨T1, h1, X1, e1, E1, A1, D1, -, st1⟩ := newO X0 hx hZ hown (ww hw 1 rfl) (ww hw 2 rfl) (ww hw 3 rfl) e0 (g := (mkF m 46 #[vj p0, .second, vj p1, .second, vj p2, .second, vj p3, .second, vj p4, .second, vj p5, .second, vj q0_, .second, vj q1_, .second, vj q2_, .second, vj q3_, .second, vj q4_, .second, vj q5_, .second, vu, vu] [])) rfl (hb hby at_46) (by decide) (by decide)
  obtain ⟨b1, g1⟩ : ∃ z, z = h0.size := ⟨_, rfl⟩
  rw [← g1] at A1 D1 st1
  have g_b1 : n0 ≤ b1 := own_fresh O0 g1
  have O1 : Old Z n0 h1 := O0.ext E1
  have F_b1_amounts : Fld Z h1 b1 "com/example/stackwright/stackwright/engine/ManaPool" "amounts" "[J" .null := D1 (Or.inr (ww hw 34 rfl)) (ty := (.array .long)) (by decide)
  obtain ⟨_, _, ⟨T2, L2, k2, n2⟩, -, X2, ⟨Lc2, hQ2, l2, y2, z2⟩, st2⟩ := X1.specialBack hx (y := Y1) rfl hown (mvT hZ (ww hw 4 rfl)) (mvT hZ (ww hw 5 rfl)) (mvT hZ (ww hw 6 rfl)) (by decide) (backOf (W := 1) (own_init l Z a0 hw u0 u1 u2 u3 u4 u5 u6 G b1 h1 n0 O1 A1 F_b1_amounts g_b1 []) hZ (ww hw 6 rfl) (ww hw 3 rfl) (by decide) (by decide)) (g := (mkF m 50 #[vj p0, .second, vj p1, .second, vj p2, .second, vj p3, .second, vj p4, .second, vj p5, .second, vj q0_, .second, vj q1_, .second, vj q2_, .second, vj q3_, .second, vj q4_, .second, vj q5_, .second, vu, vu] [xr b1, xr b1])) rfl (by rw [hml]; rfl) (Steps.refl _) (a := b1) (argsL := []) (rest := [xr b1]) (lenOf pd3 rfl) rfl (by show 2 * 0 + _ ≤ _; exact Nat.le_of_eq rfl) (hb hby at_50) (fun _ _ => ⟨rfl, e1, (by decide : 1 + 2 ≤ _), (by decide : 1 + 12 ≤ _)⟩)
  dsimp only [Pt.U, Pt.locs, Pt.cells, Pt.slots] at X2 l2 y2 z2 st2 hQ2
  subst l2 y2 z2
  obtain ⟨h2, e2⟩ : ∃ z, T2.heap = z := ⟨_, rfl⟩
  rw [e2] at hQ2
  obtain ⟨rfl, Nq2, K2, bb2, kk2, -, Fc2, Vb2, nb2, -, g_bb2⟩ := hQ2
  have N2 := Fr.app N0 Nq2
  have O2 : Old Z n0 h2 := O1.keep K2 (allS g_b1 all0)
  have X_b1_2 := A1.keep K2
  obtain ⟨T3, X3, e3, st3⟩ := getS2 X2 hx hZ hown (host := "") (Or.inl (ww hw 35 rfl)) Via.refl e2 ((own_S_u1 G).ext O2.2) (g := (mkF m 57 #[vj p0, .second, vj p1, .second, vj p2, .second, vj p3, .second, vj p4, .second, vj p5, .second, vj q0_, .second, vj q1_, .second, vj q2_, .second, vj q3_, .second, vj q4_, .second, vj q5_, .second, vr b1, vu] [xr b1])) rfl (hb hby at_57)
  obtain ⟨cq4, kq4, qa4, qb4, qc4⟩ := isOf hZ e3 X_b1_2
  obtain ⟨_, _, ⟨T4, L4, k4, n4⟩, -, X4, ⟨Lc4, hQ4, l4, y4, z4⟩, st4⟩ := X3.virtualBack hx (y := Y5) (z := Y5) hown (mvT hZ (ww hw 36 rfl)) (mvT hZ (ww hw 37 rfl)) (notFace_of_selects (args := #[]) (mvT hZ (ww hw 39 rfl))) (mvT hZ (ww hw 39 rfl)) (mvT hZ (ww hw 38 rfl)) (by decide) (backOf (W := 0) (own_add0 l Z a0 hw u0 u1 u2 u3 u4 u5 u6 G b1 bb2 kk2 (0 : Int64) (0 : Int64) (0 : Int64) (0 : Int64) (0 : Int64) q0_ (own_nn p0 q0_ as13) h2 n0 O2 ⟨X_b1_2, Fc2, Vb2, nb2, g_b1, g_bb2⟩ []) hZ (ww hw 40 rfl) (ww hw 3 rfl) (by decide) (by decide)) qa4 qc4 (g := (mkF m 62 #[vj p0, .second, vj p1, .second, vj p2, .second, vj p3, .second, vj p4, .second, vj p5, .second, vj q0_, .second, vj q1_, .second, vj q2_, .second, vj q3_, .second, vj q4_, .second, vj q5_, .second, vr b1, vu] [xj q0_, xr u1, xr b1])) rfl (by rw [hml]; rfl) (Steps.refl _) (argsL := [xr u1, xj q0_]) (rest := []) (lenOf pd4 rfl) rfl (by show 2 * 0 + _ ≤ _; exact Nat.le_of_eq rfl) (hb hby at_62) (fun _ _ => ⟨rfl, e3, (by decide : 3 + 0 ≤ _), (by decide : 13 + 0 ≤ _)⟩)
  dsimp only [Pt.U, Pt.locs, Pt.cells, Pt.slots] at X4 l4 y4 z4 st4 hQ4
  subst l4 y4 z4
  obtain ⟨h4, e4⟩ : ∃ z, T4.heap = z := ⟨_, rfl⟩
  rw [e4] at hQ4
  obtain ⟨rfl, Nq4, K4, -, -, Vn4, -⟩ := hQ4
  have N4 := Fr.app N2 Nq4
  have O4 : Old Z n0 h4 := O2.keep K4 (allS g_bb2 all0)
  have X_b1_4 := X_b1_2.keep K4
  have F_b1_amounts_4 := Fc2.keep K4 (ninS nb2 nin0)
  obtain ⟨T5, X5, e5, st5⟩ := getS2 X4 hx hZ hown (host := "") (Or.inl (ww hw 54 rfl)) Via.refl e4 ((own_S_u2 G).ext O4.2) (g := (mkF m 67 #[vj p0, .second, vj p1, .second, vj p2, .second, vj p3, .second, vj p4, .second, vj p5, .second, vj q0_, .second, vj q1_, .second, vj q2_, .second, vj q3_, .second, vj q4_, .second, vj q5_, .second, vr b1, vu] [xr b1])) rfl (hb hby at_67)
  obtain ⟨cq6, kq6, qa6, qb6, qc6⟩ := isOf hZ e5 X_b1_4
  obtain ⟨_, _, ⟨T6, L6, k6, n6⟩, -, X6, ⟨Lc6, hQ6, l6, y6, z6⟩, st6⟩ := X5.virtualBack hx (y := Y5) (z := Y5) hown (mvT hZ (ww hw 36 rfl)) (mvT hZ (ww hw 37 rfl)) (notFace_of_selects (args := #[]) (mvT hZ (ww hw 39 rfl))) (mvT hZ (ww hw 39 rfl)) (mvT hZ (ww hw 38 rfl)) (by decide) (backOf (W := 0) (own_add1 l Z a0 hw u0 u1 u2 u3 u4 u5 u6 G b1 bb2 kk2 q0_ (0 : Int64) (0 : Int64) (0 : Int64) (0 : Int64) q1_ (own_nn p1 q1_ as14) h4 n0 O4 ⟨X_b1_4, F_b1_amounts_4, Vn4, nb2, g_b1, g_bb2⟩ []) hZ (ww hw 40 rfl) (ww hw 3 rfl) (by decide) (by decide)) qa6 qc6 (g := (mkF m 72 #[vj p0, .second, vj p1, .second, vj p2, .second, vj p3, .second, vj p4, .second, vj p5, .second, vj q0_, .second, vj q1_, .second, vj q2_, .second, vj q3_, .second, vj q4_, .second, vj q5_, .second, vr b1, vu] [xj q1_, xr u2, xr b1])) rfl (by rw [hml]; rfl) (Steps.refl _) (argsL := [xr u2, xj q1_]) (rest := []) (lenOf pd4 rfl) rfl (by show 2 * 0 + _ ≤ _; exact Nat.le_of_eq rfl) (hb hby at_72) (fun _ _ => ⟨rfl, e5, (by decide : 3 + 0 ≤ _), (by decide : 13 + 0 ≤ _)⟩)
  dsimp only [Pt.U, Pt.locs, Pt.cells, Pt.slots] at X6 l6 y6 z6 st6 hQ6
  subst l6 y6 z6
  obtain ⟨h6, e6⟩ : ∃ z, T6.heap = z := ⟨_, rfl⟩
  rw [e6] at hQ6
  obtain ⟨rfl, Nq6, K6, -, -, Vn6, -⟩ := hQ6
  have N6 := Fr.app N4 Nq6
  have O6 : Old Z n0 h6 := O4.keep K6 (allS g_bb2 all0)
  have X_b1_6 := X_b1_4.keep K6
  have F_b1_amounts_6 := F_b1_amounts_4.keep K6 (ninS nb2 nin0)
  obtain ⟨T7, X7, e7, st7⟩ := getS2 X6 hx hZ hown (host := "") (Or.inl (ww hw 55 rfl)) Via.refl e6 ((own_S_u3 G).ext O6.2) (g := (mkF m 77 #[vj p0, .second, vj p1, .second, vj p2, .second, vj p3, .second, vj p4, .second, vj p5, .second, vj q0_, .second, vj q1_, .second, vj q2_, .second, vj q3_, .second, vj q4_, .second, vj q5_, .second, vr b1, vu] [xr b1])) rfl (hb hby at_77)
  obtain ⟨cq8, kq8, qa8, qb8, qc8⟩ := isOf hZ e7 X_b1_6
  obtain ⟨_, _, ⟨T8, L8, k8, n8⟩, -, X8, ⟨Lc8, hQ8, l8, y8, z8⟩, st8⟩ := X7.virtualBack hx (y := Y5) (z := Y5) hown (mvT hZ (ww hw 36 rfl)) (mvT hZ (ww hw 37 rfl)) (notFace_of_selects (args := #[]) (mvT hZ (ww hw 39 rfl))) (mvT hZ (ww hw 39 rfl)) (mvT hZ (ww hw 38 rfl)) (by decide) (backOf (W := 0) (own_add2 l Z a0 hw u0 u1 u2 u3 u4 u5 u6 G b1 bb2 kk2 q0_ q1_ (0 : Int64) (0 : Int64) (0 : Int64) q2_ (own_nn p2 q2_ as15) h6 n0 O6 ⟨X_b1_6, F_b1_amounts_6, Vn6, nb2, g_b1, g_bb2⟩ []) hZ (ww hw 40 rfl) (ww hw 3 rfl) (by decide) (by decide)) qa8 qc8 (g := (mkF m 82 #[vj p0, .second, vj p1, .second, vj p2, .second, vj p3, .second, vj p4, .second, vj p5, .second, vj q0_, .second, vj q1_, .second, vj q2_, .second, vj q3_, .second, vj q4_, .second, vj q5_, .second, vr b1, vu] [xj q2_, xr u3, xr b1])) rfl (by rw [hml]; rfl) (Steps.refl _) (argsL := [xr u3, xj q2_]) (rest := []) (lenOf pd4 rfl) rfl (by show 2 * 0 + _ ≤ _; exact Nat.le_of_eq rfl) (hb hby at_82) (fun _ _ => ⟨rfl, e7, (by decide : 3 + 0 ≤ _), (by decide : 13 + 0 ≤ _)⟩)
  dsimp only [Pt.U, Pt.locs, Pt.cells, Pt.slots] at X8 l8 y8 z8 st8 hQ8
  subst l8 y8 z8
  obtain ⟨h8, e8⟩ : ∃ z, T8.heap = z := ⟨_, rfl⟩
  rw [e8] at hQ8
  obtain ⟨rfl, Nq8, K8, -, -, Vn8, -⟩ := hQ8
  have N8 := Fr.app N6 Nq8
  have O8 : Old Z n0 h8 := O6.keep K8 (allS g_bb2 all0)
  have X_b1_8 := X_b1_6.keep K8
  have F_b1_amounts_8 := F_b1_amounts_6.keep K8 (ninS nb2 nin0)
  obtain ⟨T9, X9, e9, st9⟩ := getS2 X8 hx hZ hown (host := "") (Or.inl (ww hw 56 rfl)) Via.refl e8 ((own_S_u4 G).ext O8.2) (g := (mkF m 87 #[vj p0, .second, vj p1, .second, vj p2, .second, vj p3, .second, vj p4, .second, vj p5, .second, vj q0_, .second, vj q1_, .second, vj q2_, .second, vj q3_, .second, vj q4_, .second, vj q5_, .second, vr b1, vu] [xr b1])) rfl (hb hby at_87)
  obtain ⟨cq10, kq10, qa10, qb10, qc10⟩ := isOf hZ e9 X_b1_8
  obtain ⟨_, _, ⟨T10, L10, k10, n10⟩, -, X10, ⟨Lc10, hQ10, l10, y10, z10⟩, st10⟩ := X9.virtualBack hx (y := Y5) (z := Y5) hown (mvT hZ (ww hw 36 rfl)) (mvT hZ (ww hw 37 rfl)) (notFace_of_selects (args := #[]) (mvT hZ (ww hw 39 rfl))) (mvT hZ (ww hw 39 rfl)) (mvT hZ (ww hw 38 rfl)) (by decide) (backOf (W := 0) (own_add3 l Z a0 hw u0 u1 u2 u3 u4 u5 u6 G b1 bb2 kk2 q0_ q1_ q2_ (0 : Int64) (0 : Int64) q3_ (own_nn p3 q3_ as16) h8 n0 O8 ⟨X_b1_8, F_b1_amounts_8, Vn8, nb2, g_b1, g_bb2⟩ []) hZ (ww hw 40 rfl) (ww hw 3 rfl) (by decide) (by decide)) qa10 qc10 (g := (mkF m 92 #[vj p0, .second, vj p1, .second, vj p2, .second, vj p3, .second, vj p4, .second, vj p5, .second, vj q0_, .second, vj q1_, .second, vj q2_, .second, vj q3_, .second, vj q4_, .second, vj q5_, .second, vr b1, vu] [xj q3_, xr u4, xr b1])) rfl (by rw [hml]; rfl) (Steps.refl _) (argsL := [xr u4, xj q3_]) (rest := []) (lenOf pd4 rfl) rfl (by show 2 * 0 + _ ≤ _; exact Nat.le_of_eq rfl) (hb hby at_92) (fun _ _ => ⟨rfl, e9, (by decide : 3 + 0 ≤ _), (by decide : 13 + 0 ≤ _)⟩)
  dsimp only [Pt.U, Pt.locs, Pt.cells, Pt.slots] at X10 l10 y10 z10 st10 hQ10
  subst l10 y10 z10
  obtain ⟨h10, e10⟩ : ∃ z, T10.heap = z := ⟨_, rfl⟩
  rw [e10] at hQ10
  obtain ⟨rfl, Nq10, K10, -, -, Vn10, -⟩ := hQ10
  have N10 := Fr.app N8 Nq10
  have O10 : Old Z n0 h10 := O8.keep K10 (allS g_bb2 all0)
  have X_b1_10 := X_b1_8.keep K10
  have F_b1_amounts_10 := F_b1_amounts_8.keep K10 (ninS nb2 nin0)
  obtain ⟨T11, X11, e11, st11⟩ := getS2 X10 hx hZ hown (host := "") (Or.inl (ww hw 57 rfl)) Via.refl e10 ((own_S_u5 G).ext O10.2) (g := (mkF m 97 #[vj p0, .second, vj p1, .second, vj p2, .second, vj p3, .second, vj p4, .second, vj p5, .second, vj q0_, .second, vj q1_, .second, vj q2_, .second, vj q3_, .second, vj q4_, .second, vj q5_, .second, vr b1, vu] [xr b1])) rfl (hb hby at_97)
  obtain ⟨cq12, kq12, qa12, qb12, qc12⟩ := isOf hZ e11 X_b1_10
  obtain ⟨_, _, ⟨T12, L12, k12, n12⟩, -, X12, ⟨Lc12, hQ12, l12, y12, z12⟩, st12⟩ := X11.virtualBack hx (y := Y5) (z := Y5) hown (mvT hZ (ww hw 36 rfl)) (mvT hZ (ww hw 37 rfl)) (notFace_of_selects (args := #[]) (mvT hZ (ww hw 39 rfl))) (mvT hZ (ww hw 39 rfl)) (mvT hZ (ww hw 38 rfl)) (by decide) (backOf (W := 0) (own_add4 l Z a0 hw u0 u1 u2 u3 u4 u5 u6 G b1 bb2 kk2 q0_ q1_ q2_ q3_ (0 : Int64) q4_ (own_nn p4 q4_ as17) h10 n0 O10 ⟨X_b1_10, F_b1_amounts_10, Vn10, nb2, g_b1, g_bb2⟩ []) hZ (ww hw 40 rfl) (ww hw 3 rfl) (by decide) (by decide)) qa12 qc12 (g := (mkF m 102 #[vj p0, .second, vj p1, .second, vj p2, .second, vj p3, .second, vj p4, .second, vj p5, .second, vj q0_, .second, vj q1_, .second, vj q2_, .second, vj q3_, .second, vj q4_, .second, vj q5_, .second, vr b1, vu] [xj q4_, xr u5, xr b1])) rfl (by rw [hml]; rfl) (Steps.refl _) (argsL := [xr u5, xj q4_]) (rest := []) (lenOf pd4 rfl) rfl (by show 2 * 0 + _ ≤ _; exact Nat.le_of_eq rfl) (hb hby at_102) (fun _ _ => ⟨rfl, e11, (by decide : 3 + 0 ≤ _), (by decide : 13 + 0 ≤ _)⟩)
  dsimp only [Pt.U, Pt.locs, Pt.cells, Pt.slots] at X12 l12 y12 z12 st12 hQ12
  subst l12 y12 z12
  obtain ⟨h12, e12⟩ : ∃ z, T12.heap = z := ⟨_, rfl⟩
  rw [e12] at hQ12
  obtain ⟨rfl, Nq12, K12, -, -, Vn12, -⟩ := hQ12
  have N12 := Fr.app N10 Nq12
  have O12 : Old Z n0 h12 := O10.keep K12 (allS g_bb2 all0)
  have X_b1_12 := X_b1_10.keep K12
  have F_b1_amounts_12 := F_b1_amounts_10.keep K12 (ninS nb2 nin0)
  obtain ⟨T13, X13, e13, st13⟩ := getS2 X12 hx hZ hown (host := "") (Or.inl (ww hw 58 rfl)) Via.refl e12 ((own_S_u6 G).ext O12.2) (g := (mkF m 107 #[vj p0, .second, vj p1, .second, vj p2, .second, vj p3, .second, vj p4, .second, vj p5, .second, vj q0_, .second, vj q1_, .second, vj q2_, .second, vj q3_, .second, vj q4_, .second, vj q5_, .second, vr b1, vu] [xr b1])) rfl (hb hby at_107)
  obtain ⟨cq14, kq14, qa14, qb14, qc14⟩ := isOf hZ e13 X_b1_12
  obtain ⟨_, _, ⟨T14, L14, k14, n14⟩, -, X14, ⟨Lc14, hQ14, l14, y14, z14⟩, st14⟩ := X13.virtualBack hx (y := Y5) (z := Y5) hown (mvT hZ (ww hw 36 rfl)) (mvT hZ (ww hw 37 rfl)) (notFace_of_selects (args := #[]) (mvT hZ (ww hw 39 rfl))) (mvT hZ (ww hw 39 rfl)) (mvT hZ (ww hw 38 rfl)) (by decide) (backOf (W := 0) (own_add5 l Z a0 hw u0 u1 u2 u3 u4 u5 u6 G b1 bb2 kk2 q0_ q1_ q2_ q3_ q4_ q5_ (own_nn p5 q5_ as18) h12 n0 O12 ⟨X_b1_12, F_b1_amounts_12, Vn12, nb2, g_b1, g_bb2⟩ []) hZ (ww hw 40 rfl) (ww hw 3 rfl) (by decide) (by decide)) qa14 qc14 (g := (mkF m 112 #[vj p0, .second, vj p1, .second, vj p2, .second, vj p3, .second, vj p4, .second, vj p5, .second, vj q0_, .second, vj q1_, .second, vj q2_, .second, vj q3_, .second, vj q4_, .second, vj q5_, .second, vr b1, vu] [xj q5_, xr u6, xr b1])) rfl (by rw [hml]; rfl) (Steps.refl _) (argsL := [xr u6, xj q5_]) (rest := []) (lenOf pd4 rfl) rfl (by show 2 * 0 + _ ≤ _; exact Nat.le_of_eq rfl) (hb hby at_112) (fun _ _ => ⟨rfl, e13, (by decide : 3 + 0 ≤ _), (by decide : 13 + 0 ≤ _)⟩)
  dsimp only [Pt.U, Pt.locs, Pt.cells, Pt.slots] at X14 l14 y14 z14 st14 hQ14
  subst l14 y14 z14
  obtain ⟨h14, e14⟩ : ∃ z, T14.heap = z := ⟨_, rfl⟩
  rw [e14] at hQ14
  obtain ⟨rfl, Nq14, K14, -, -, Vn14, -⟩ := hQ14
  have N14 := Fr.app N12 Nq14
  have O14 : Old Z n0 h14 := O12.keep K14 (allS g_bb2 all0)
  have X_b1_14 := X_b1_12.keep K14
  have F_b1_amounts_14 := F_b1_amounts_12.keep K14 (ninS nb2 nin0)
  obtain ⟨cq15, kq15, qa15, qb15, qc15⟩ := isOf hZ e14 X_b1_14
  obtain ⟨_, _, ⟨T15, L15, k15, n15⟩, -, X15, ⟨Lc15, hQ15, l15, y15, z15⟩, st15⟩ := X14.virtualBack hx (y := Y6) (z := Y6) hown (mvT hZ (ww hw 59 rfl)) (mvT hZ (ww hw 60 rfl)) (notFace_of_selects (args := #[]) (mvT hZ (ww hw 62 rfl))) (mvT hZ (ww hw 62 rfl)) (mvT hZ (ww hw 61 rfl)) (by decide) (backOf (W := 0) (own_empty6 l Z a0 hw u0 u1 u2 u3 u4 u5 u6 G b1 bb2 kk2 q0_ q1_ q2_ q3_ q4_ q5_ as20 as24 as28 as32 as36 as40 h14 n0 O14 ⟨X_b1_14, F_b1_amounts_14, Vn14, nb2, g_b1, g_bb2⟩ []) hZ (ww hw 63 rfl) (ww hw 3 rfl) (by decide) (by decide)) qa15 qc15 (g := (mkF m 166 #[vj p0, .second, vj p1, .second, vj p2, .second, vj p3, .second, vj p4, .second, vj p5, .second, vj q0_, .second, vj q1_, .second, vj q2_, .second, vj q3_, .second, vj q4_, .second, vj q5_, .second, vr b1, vi (1 : Int32)] [xr b1])) rfl (by rw [hml]; rfl) (Steps.refl _) (argsL := []) (rest := []) (lenOf pd5 rfl) rfl (by show 2 * 0 + _ ≤ _; exact Nat.le_of_eq rfl) (hb hby at_166) (fun _ _ => ⟨rfl, e14, (by decide : 3 + 0 ≤ _), (by decide : 13 + 0 ≤ _)⟩)
  dsimp only [Pt.U, Pt.locs, Pt.cells, Pt.slots] at X15 l15 y15 z15 st15 hQ15
  subst l15 y15 z15
  obtain ⟨rfl, Nq15, e15⟩ := hQ15
  have N15 := Fr.app N14 Nq15
  obtain ⟨fs, hr, hrun, hended, hW, hsame⟩ := X15.leave (v := some (xi (1 : Int32))) (fun h => by rw [Bd.returns] at h; cases h)
  refine ⟨_, _, pre0 _ ?_, hrun, hended, _, _, rfl, ?_, ⟨_, rfl⟩, hW, hsame.mono (by decide) (by decide)⟩
  · show own_S p e below s₁ (mkF m 0 #[vj p0, .second, vj p1, .second, vj p2, .second, vj p3, .second, vj p4, .second, vj p5, .second, vu, vu, vu, vu, vu, vu, vu, vu, vu, vu, vu, vu, vu, vu] []) _
    refine XS.lloadN X0.here hx rfl (hb hby at_0) rfl ?_
    show own_S p e below s₁ (mkF m 1 #[vj p0, .second, vj p1, .second, vj p2, .second, vj p3, .second, vj p4, .second, vj p5, .second, vu, vu, vu, vu, vu, vu, vu, vu, vu, vu, vu, vu, vu, vu] [xj p0]) _
    refine X0.ldc2J hx hown (mvT hZ (ww hw 0 rfl)) (g := (mkF m 1 #[vj p0, .second, vj p1, .second, vj p2, .second, vj p3, .second, vj p4, .second, vj p5, .second, vu, vu, vu, vu, vu, vu, vu, vu, vu, vu, vu, vu, vu, vu] [xj p0])) rfl (hb hby at_1) ?_
    show own_S p e below s₁ (mkF m 4 #[vj p0, .second, vj p1, .second, vj p2, .second, vj p3, .second, vj p4, .second, vj p5, .second, vu, vu, vu, vu, vu, vu, vu, vu, vu, vu, vu, vu, vu, vu] [xj (9223372036854775807 : Int64), xj p0]) _
    refine XS.land X0.here hx rfl (hb hby at_4) rfl ?_
    show own_S p e below s₁ (mkF m 5 #[vj p0, .second, vj p1, .second, vj p2, .second, vj p3, .second, vj p4, .second, vj p5, .second, vu, vu, vu, vu, vu, vu, vu, vu, vu, vu, vu, vu, vu, vu] [xj (p0 &&& (9223372036854775807 : Int64))]) _
    refine castTop (show (mkF m 5 #[vj p0, .second, vj p1, .second, vj p2, .second, vj p3, .second, vj p4, .second, vj p5, .second, vu, vu, vu, vu, vu, vu, vu, vu, vu, vu, vu, vu, vu, vu] [xj (p0 &&& (9223372036854775807 : Int64))]) = (mkF m 5 #[vj p0, .second, vj p1, .second, vj p2, .second, vj p3, .second, vj p4, .second, vj p5, .second, vu, vu, vu, vu, vu, vu, vu, vu, vu, vu, vu, vu, vu, vu] [xj q0_]) from by rw [as13]) ?_
    show own_S p e below s₁ (mkF m 5 #[vj p0, .second, vj p1, .second, vj p2, .second, vj p3, .second, vj p4, .second, vj p5, .second, vu, vu, vu, vu, vu, vu, vu, vu, vu, vu, vu, vu, vu, vu] [xj q0_]) _
    refine XS.lstore X0.here hx rfl (hb hby at_5) rfl (l' := #[vj p0, .second, vj p1, .second, vj p2, .second, vj p3, .second, vj p4, .second, vj p5, .second, vj q0_, .second, vu, vu, vu, vu, vu, vu, vu, vu, vu, vu, vu, vu]) rfl ?_
    show own_S p e below s₁ (mkF m 7 #[vj p0, .second, vj p1, .second, vj p2, .second, vj p3, .second, vj p4, .second, vj p5, .second, vj q0_, .second, vu, vu, vu, vu, vu, vu, vu, vu, vu, vu, vu, vu] []) _
    refine XS.lloadN X0.here hx rfl (hb hby at_7) rfl ?_
    show own_S p e below s₁ (mkF m 8 #[vj p0, .second, vj p1, .second, vj p2, .second, vj p3, .second, vj p4, .second, vj p5, .second, vj q0_, .second, vu, vu, vu, vu, vu, vu, vu, vu, vu, vu, vu, vu] [xj p1]) _
    refine X0.ldc2J hx hown (mvT hZ (ww hw 0 rfl)) (g := (mkF m 8 #[vj p0, .second, vj p1, .second, vj p2, .second, vj p3, .second, vj p4, .second, vj p5, .second, vj q0_, .second, vu, vu, vu, vu, vu, vu, vu, vu, vu, vu, vu, vu] [xj p1])) rfl (hb hby at_8) ?_
    show own_S p e below s₁ (mkF m 11 #[vj p0, .second, vj p1, .second, vj p2, .second, vj p3, .second, vj p4, .second, vj p5, .second, vj q0_, .second, vu, vu, vu, vu, vu, vu, vu, vu, vu, vu, vu, vu] [xj (9223372036854775807 : Int64), xj p1]) _
    refine XS.land X0.here hx rfl (hb hby at_11) rfl ?_
    show own_S p e below s₁ (mkF m 12 #[vj p0, .second, vj p1, .second, vj p2, .second, vj p3, .second, vj p4, .second, vj p5, .second, vj q0_, .second, vu, vu, vu, vu, vu, vu, vu, vu, vu, vu, vu, vu] [xj (p1 &&& (9223372036854775807 : Int64))]) _
    refine castTop (show (mkF m 12 #[vj p0, .second, vj p1, .second, vj p2, .second, vj p3, .second, vj p4, .second, vj p5, .second, vj q0_, .second, vu, vu, vu, vu, vu, vu, vu, vu, vu, vu, vu, vu] [xj (p1 &&& (9223372036854775807 : Int64))]) = (mkF m 12 #[vj p0, .second, vj p1, .second, vj p2, .second, vj p3, .second, vj p4, .second, vj p5, .second, vj q0_, .second, vu, vu, vu, vu, vu, vu, vu, vu, vu, vu, vu, vu] [xj q1_]) from by rw [as14]) ?_
    show own_S p e below s₁ (mkF m 12 #[vj p0, .second, vj p1, .second, vj p2, .second, vj p3, .second, vj p4, .second, vj p5, .second, vj q0_, .second, vu, vu, vu, vu, vu, vu, vu, vu, vu, vu, vu, vu] [xj q1_]) _
    refine XS.lstore X0.here hx rfl (hb hby at_12) rfl (l' := #[vj p0, .second, vj p1, .second, vj p2, .second, vj p3, .second, vj p4, .second, vj p5, .second, vj q0_, .second, vj q1_, .second, vu, vu, vu, vu, vu, vu, vu, vu, vu, vu]) rfl ?_
    show own_S p e below s₁ (mkF m 14 #[vj p0, .second, vj p1, .second, vj p2, .second, vj p3, .second, vj p4, .second, vj p5, .second, vj q0_, .second, vj q1_, .second, vu, vu, vu, vu, vu, vu, vu, vu, vu, vu] []) _
    refine XS.lload X0.here hx rfl (hb hby at_14) rfl ?_
    show own_S p e below s₁ (mkF m 16 #[vj p0, .second, vj p1, .second, vj p2, .second, vj p3, .second, vj p4, .second, vj p5, .second, vj q0_, .second, vj q1_, .second, vu, vu, vu, vu, vu, vu, vu, vu, vu, vu] [xj p2]) _
    refine X0.ldc2J hx hown (mvT hZ (ww hw 0 rfl)) (g := (mkF m 16 #[vj p0, .second, vj p1, .second, vj p2, .second, vj p3, .second, vj p4, .second, vj p5, .second, vj q0_, .second, vj q1_, .second, vu, vu, vu, vu, vu, vu, vu, vu, vu, vu] [xj p2])) rfl (hb hby at_16) ?_
    show own_S p e below s₁ (mkF m 19 #[vj p0, .second, vj p1, .second, vj p2, .second, vj p3, .second, vj p4, .second, vj p5, .second, vj q0_, .second, vj q1_, .second, vu, vu, vu, vu, vu, vu, vu, vu, vu, vu] [xj (9223372036854775807 : Int64), xj p2]) _
    refine XS.land X0.here hx rfl (hb hby at_19) rfl ?_
    show own_S p e below s₁ (mkF m 20 #[vj p0, .second, vj p1, .second, vj p2, .second, vj p3, .second, vj p4, .second, vj p5, .second, vj q0_, .second, vj q1_, .second, vu, vu, vu, vu, vu, vu, vu, vu, vu, vu] [xj (p2 &&& (9223372036854775807 : Int64))]) _
    refine castTop (show (mkF m 20 #[vj p0, .second, vj p1, .second, vj p2, .second, vj p3, .second, vj p4, .second, vj p5, .second, vj q0_, .second, vj q1_, .second, vu, vu, vu, vu, vu, vu, vu, vu, vu, vu] [xj (p2 &&& (9223372036854775807 : Int64))]) = (mkF m 20 #[vj p0, .second, vj p1, .second, vj p2, .second, vj p3, .second, vj p4, .second, vj p5, .second, vj q0_, .second, vj q1_, .second, vu, vu, vu, vu, vu, vu, vu, vu, vu, vu] [xj q2_]) from by rw [as15]) ?_
    show own_S p e below s₁ (mkF m 20 #[vj p0, .second, vj p1, .second, vj p2, .second, vj p3, .second, vj p4, .second, vj p5, .second, vj q0_, .second, vj q1_, .second, vu, vu, vu, vu, vu, vu, vu, vu, vu, vu] [xj q2_]) _
    refine XS.lstore X0.here hx rfl (hb hby at_20) rfl (l' := #[vj p0, .second, vj p1, .second, vj p2, .second, vj p3, .second, vj p4, .second, vj p5, .second, vj q0_, .second, vj q1_, .second, vj q2_, .second, vu, vu, vu, vu, vu, vu, vu, vu]) rfl ?_
    show own_S p e below s₁ (mkF m 22 #[vj p0, .second, vj p1, .second, vj p2, .second, vj p3, .second, vj p4, .second, vj p5, .second, vj q0_, .second, vj q1_, .second, vj q2_, .second, vu, vu, vu, vu, vu, vu, vu, vu] []) _
    refine XS.lload X0.here hx rfl (hb hby at_22) rfl ?_
    show own_S p e below s₁ (mkF m 24 #[vj p0, .second, vj p1, .second, vj p2, .second, vj p3, .second, vj p4, .second, vj p5, .second, vj q0_, .second, vj q1_, .second, vj q2_, .second, vu, vu, vu, vu, vu, vu, vu, vu] [xj p3]) _
    refine X0.ldc2J hx hown (mvT hZ (ww hw 0 rfl)) (g := (mkF m 24 #[vj p0, .second, vj p1, .second, vj p2, .second, vj p3, .second, vj p4, .second, vj p5, .second, vj q0_, .second, vj q1_, .second, vj q2_, .second, vu, vu, vu, vu, vu, vu, vu, vu] [xj p3])) rfl (hb hby at_24) ?_
    show own_S p e below s₁ (mkF m 27 #[vj p0, .second, vj p1, .second, vj p2, .second, vj p3, .second, vj p4, .second, vj p5, .second, vj q0_, .second, vj q1_, .second, vj q2_, .second, vu, vu, vu, vu, vu, vu, vu, vu] [xj (9223372036854775807 : Int64), xj p3]) _
    refine XS.land X0.here hx rfl (hb hby at_27) rfl ?_
    show own_S p e below s₁ (mkF m 28 #[vj p0, .second, vj p1, .second, vj p2, .second, vj p3, .second, vj p4, .second, vj p5, .second, vj q0_, .second, vj q1_, .second, vj q2_, .second, vu, vu, vu, vu, vu, vu, vu, vu] [xj (p3 &&& (9223372036854775807 : Int64))]) _
    refine castTop (show (mkF m 28 #[vj p0, .second, vj p1, .second, vj p2, .second, vj p3, .second, vj p4, .second, vj p5, .second, vj q0_, .second, vj q1_, .second, vj q2_, .second, vu, vu, vu, vu, vu, vu, vu, vu] [xj (p3 &&& (9223372036854775807 : Int64))]) = (mkF m 28 #[vj p0, .second, vj p1, .second, vj p2, .second, vj p3, .second, vj p4, .second, vj p5, .second, vj q0_, .second, vj q1_, .second, vj q2_, .second, vu, vu, vu, vu, vu, vu, vu, vu] [xj q3_]) from by rw [as16]) ?_
    show own_S p e below s₁ (mkF m 28 #[vj p0, .second, vj p1, .second, vj p2, .second, vj p3, .second, vj p4, .second, vj p5, .second, vj q0_, .second, vj q1_, .second, vj q2_, .second, vu, vu, vu, vu, vu, vu, vu, vu] [xj q3_]) _
    refine XS.lstore X0.here hx rfl (hb hby at_28) rfl (l' := #[vj p0, .second, vj p1, .second, vj p2, .second, vj p3, .second, vj p4, .second, vj p5, .second, vj q0_, .second, vj q1_, .second, vj q2_, .second, vj q3_, .second, vu, vu, vu, vu, vu, vu]) rfl ?_
    show own_S p e below s₁ (mkF m 30 #[vj p0, .second, vj p1, .second, vj p2, .second, vj p3, .second, vj p4, .second, vj p5, .second, vj q0_, .second, vj q1_, .second, vj q2_, .second, vj q3_, .second, vu, vu, vu, vu, vu, vu] []) _
    refine XS.lload X0.here hx rfl (hb hby at_30) rfl ?_
    show own_S p e below s₁ (mkF m 32 #[vj p0, .second, vj p1, .second, vj p2, .second, vj p3, .second, vj p4, .second, vj p5, .second, vj q0_, .second, vj q1_, .second, vj q2_, .second, vj q3_, .second, vu, vu, vu, vu, vu, vu] [xj p4]) _
    refine X0.ldc2J hx hown (mvT hZ (ww hw 0 rfl)) (g := (mkF m 32 #[vj p0, .second, vj p1, .second, vj p2, .second, vj p3, .second, vj p4, .second, vj p5, .second, vj q0_, .second, vj q1_, .second, vj q2_, .second, vj q3_, .second, vu, vu, vu, vu, vu, vu] [xj p4])) rfl (hb hby at_32) ?_
    show own_S p e below s₁ (mkF m 35 #[vj p0, .second, vj p1, .second, vj p2, .second, vj p3, .second, vj p4, .second, vj p5, .second, vj q0_, .second, vj q1_, .second, vj q2_, .second, vj q3_, .second, vu, vu, vu, vu, vu, vu] [xj (9223372036854775807 : Int64), xj p4]) _
    refine XS.land X0.here hx rfl (hb hby at_35) rfl ?_
    show own_S p e below s₁ (mkF m 36 #[vj p0, .second, vj p1, .second, vj p2, .second, vj p3, .second, vj p4, .second, vj p5, .second, vj q0_, .second, vj q1_, .second, vj q2_, .second, vj q3_, .second, vu, vu, vu, vu, vu, vu] [xj (p4 &&& (9223372036854775807 : Int64))]) _
    refine castTop (show (mkF m 36 #[vj p0, .second, vj p1, .second, vj p2, .second, vj p3, .second, vj p4, .second, vj p5, .second, vj q0_, .second, vj q1_, .second, vj q2_, .second, vj q3_, .second, vu, vu, vu, vu, vu, vu] [xj (p4 &&& (9223372036854775807 : Int64))]) = (mkF m 36 #[vj p0, .second, vj p1, .second, vj p2, .second, vj p3, .second, vj p4, .second, vj p5, .second, vj q0_, .second, vj q1_, .second, vj q2_, .second, vj q3_, .second, vu, vu, vu, vu, vu, vu] [xj q4_]) from by rw [as17]) ?_
    show own_S p e below s₁ (mkF m 36 #[vj p0, .second, vj p1, .second, vj p2, .second, vj p3, .second, vj p4, .second, vj p5, .second, vj q0_, .second, vj q1_, .second, vj q2_, .second, vj q3_, .second, vu, vu, vu, vu, vu, vu] [xj q4_]) _
    refine XS.lstore X0.here hx rfl (hb hby at_36) rfl (l' := #[vj p0, .second, vj p1, .second, vj p2, .second, vj p3, .second, vj p4, .second, vj p5, .second, vj q0_, .second, vj q1_, .second, vj q2_, .second, vj q3_, .second, vj q4_, .second, vu, vu, vu, vu]) rfl ?_
    show own_S p e below s₁ (mkF m 38 #[vj p0, .second, vj p1, .second, vj p2, .second, vj p3, .second, vj p4, .second, vj p5, .second, vj q0_, .second, vj q1_, .second, vj q2_, .second, vj q3_, .second, vj q4_, .second, vu, vu, vu, vu] []) _
    refine XS.lload X0.here hx rfl (hb hby at_38) rfl ?_
    show own_S p e below s₁ (mkF m 40 #[vj p0, .second, vj p1, .second, vj p2, .second, vj p3, .second, vj p4, .second, vj p5, .second, vj q0_, .second, vj q1_, .second, vj q2_, .second, vj q3_, .second, vj q4_, .second, vu, vu, vu, vu] [xj p5]) _
    refine X0.ldc2J hx hown (mvT hZ (ww hw 0 rfl)) (g := (mkF m 40 #[vj p0, .second, vj p1, .second, vj p2, .second, vj p3, .second, vj p4, .second, vj p5, .second, vj q0_, .second, vj q1_, .second, vj q2_, .second, vj q3_, .second, vj q4_, .second, vu, vu, vu, vu] [xj p5])) rfl (hb hby at_40) ?_
    show own_S p e below s₁ (mkF m 43 #[vj p0, .second, vj p1, .second, vj p2, .second, vj p3, .second, vj p4, .second, vj p5, .second, vj q0_, .second, vj q1_, .second, vj q2_, .second, vj q3_, .second, vj q4_, .second, vu, vu, vu, vu] [xj (9223372036854775807 : Int64), xj p5]) _
    refine XS.land X0.here hx rfl (hb hby at_43) rfl ?_
    show own_S p e below s₁ (mkF m 44 #[vj p0, .second, vj p1, .second, vj p2, .second, vj p3, .second, vj p4, .second, vj p5, .second, vj q0_, .second, vj q1_, .second, vj q2_, .second, vj q3_, .second, vj q4_, .second, vu, vu, vu, vu] [xj (p5 &&& (9223372036854775807 : Int64))]) _
    refine castTop (show (mkF m 44 #[vj p0, .second, vj p1, .second, vj p2, .second, vj p3, .second, vj p4, .second, vj p5, .second, vj q0_, .second, vj q1_, .second, vj q2_, .second, vj q3_, .second, vj q4_, .second, vu, vu, vu, vu] [xj (p5 &&& (9223372036854775807 : Int64))]) = (mkF m 44 #[vj p0, .second, vj p1, .second, vj p2, .second, vj p3, .second, vj p4, .second, vj p5, .second, vj q0_, .second, vj q1_, .second, vj q2_, .second, vj q3_, .second, vj q4_, .second, vu, vu, vu, vu] [xj q5_]) from by rw [as18]) ?_
    show own_S p e below s₁ (mkF m 44 #[vj p0, .second, vj p1, .second, vj p2, .second, vj p3, .second, vj p4, .second, vj p5, .second, vj q0_, .second, vj q1_, .second, vj q2_, .second, vj q3_, .second, vj q4_, .second, vu, vu, vu, vu] [xj q5_]) _
    refine XS.lstore X0.here hx rfl (hb hby at_44) rfl (l' := #[vj p0, .second, vj p1, .second, vj p2, .second, vj p3, .second, vj p4, .second, vj p5, .second, vj q0_, .second, vj q1_, .second, vj q2_, .second, vj q3_, .second, vj q4_, .second, vj q5_, .second, vu, vu]) rfl ?_
    show own_S p e below s₁ (mkF m 46 #[vj p0, .second, vj p1, .second, vj p2, .second, vj p3, .second, vj p4, .second, vj p5, .second, vj q0_, .second, vj q1_, .second, vj q2_, .second, vj q3_, .second, vj q4_, .second, vj q5_, .second, vu, vu] []) _
    refine st1 _ ?_
    show own_S p e below T1 (mkF m 49 #[vj p0, .second, vj p1, .second, vj p2, .second, vj p3, .second, vj p4, .second, vj p5, .second, vj q0_, .second, vj q1_, .second, vj q2_, .second, vj q3_, .second, vj q4_, .second, vj q5_, .second, vu, vu] [xr b1]) _
    refine XS.dup X1.here hx rfl (hb hby at_49) rfl rfl ?_
    show own_S p e below T1 (mkF m 50 #[vj p0, .second, vj p1, .second, vj p2, .second, vj p3, .second, vj p4, .second, vj p5, .second, vj q0_, .second, vj q1_, .second, vj q2_, .second, vj q3_, .second, vj q4_, .second, vj q5_, .second, vu, vu] [xr b1, xr b1]) _
    refine st2.trans ?_
    show own_S p e below T2 (mkF m 53 #[vj p0, .second, vj p1, .second, vj p2, .second, vj p3, .second, vj p4, .second, vj p5, .second, vj q0_, .second, vj q1_, .second, vj q2_, .second, vj q3_, .second, vj q4_, .second, vj q5_, .second, vu, vu] [xr b1]) _
    refine XS.astore X2.here hx rfl (hb hby at_53) rfl rfl (l' := #[vj p0, .second, vj p1, .second, vj p2, .second, vj p3, .second, vj p4, .second, vj p5, .second, vj q0_, .second, vj q1_, .second, vj q2_, .second, vj q3_, .second, vj q4_, .second, vj q5_, .second, vr b1, vu]) rfl ?_
    show own_S p e below T2 (mkF m 55 #[vj p0, .second, vj p1, .second, vj p2, .second, vj p3, .second, vj p4, .second, vj p5, .second, vj q0_, .second, vj q1_, .second, vj q2_, .second, vj q3_, .second, vj q4_, .second, vj q5_, .second, vr b1, vu] []) _
    refine XS.aload X2.here hx rfl (hb hby at_55) rfl rfl ?_
    show own_S p e below T2 (mkF m 57 #[vj p0, .second, vj p1, .second, vj p2, .second, vj p3, .second, vj p4, .second, vj p5, .second, vj q0_, .second, vj q1_, .second, vj q2_, .second, vj q3_, .second, vj q4_, .second, vj q5_, .second, vr b1, vu] [xr b1]) _
    refine st3 _ ?_
    show own_S p e below T3 (mkF m 60 #[vj p0, .second, vj p1, .second, vj p2, .second, vj p3, .second, vj p4, .second, vj p5, .second, vj q0_, .second, vj q1_, .second, vj q2_, .second, vj q3_, .second, vj q4_, .second, vj q5_, .second, vr b1, vu] [xr u1, xr b1]) _
    refine XS.lload X3.here hx rfl (hb hby at_60) rfl ?_
    show own_S p e below T3 (mkF m 62 #[vj p0, .second, vj p1, .second, vj p2, .second, vj p3, .second, vj p4, .second, vj p5, .second, vj q0_, .second, vj q1_, .second, vj q2_, .second, vj q3_, .second, vj q4_, .second, vj q5_, .second, vr b1, vu] [xj q0_, xr u1, xr b1]) _
    refine st4.trans ?_
    show own_S p e below T4 (mkF m 65 #[vj p0, .second, vj p1, .second, vj p2, .second, vj p3, .second, vj p4, .second, vj p5, .second, vj q0_, .second, vj q1_, .second, vj q2_, .second, vj q3_, .second, vj q4_, .second, vj q5_, .second, vr b1, vu] []) _
    refine XS.aload X4.here hx rfl (hb hby at_65) rfl rfl ?_
    show own_S p e below T4 (mkF m 67 #[vj p0, .second, vj p1, .second, vj p2, .second, vj p3, .second, vj p4, .second, vj p5, .second, vj q0_, .second, vj q1_, .second, vj q2_, .second, vj q3_, .second, vj q4_, .second, vj q5_, .second, vr b1, vu] [xr b1]) _
    refine st5 _ ?_
    show own_S p e below T5 (mkF m 70 #[vj p0, .second, vj p1, .second, vj p2, .second, vj p3, .second, vj p4, .second, vj p5, .second, vj q0_, .second, vj q1_, .second, vj q2_, .second, vj q3_, .second, vj q4_, .second, vj q5_, .second, vr b1, vu] [xr u2, xr b1]) _
    refine XS.lload X5.here hx rfl (hb hby at_70) rfl ?_
    show own_S p e below T5 (mkF m 72 #[vj p0, .second, vj p1, .second, vj p2, .second, vj p3, .second, vj p4, .second, vj p5, .second, vj q0_, .second, vj q1_, .second, vj q2_, .second, vj q3_, .second, vj q4_, .second, vj q5_, .second, vr b1, vu] [xj q1_, xr u2, xr b1]) _
    refine st6.trans ?_
    show own_S p e below T6 (mkF m 75 #[vj p0, .second, vj p1, .second, vj p2, .second, vj p3, .second, vj p4, .second, vj p5, .second, vj q0_, .second, vj q1_, .second, vj q2_, .second, vj q3_, .second, vj q4_, .second, vj q5_, .second, vr b1, vu] []) _
    refine XS.aload X6.here hx rfl (hb hby at_75) rfl rfl ?_
    show own_S p e below T6 (mkF m 77 #[vj p0, .second, vj p1, .second, vj p2, .second, vj p3, .second, vj p4, .second, vj p5, .second, vj q0_, .second, vj q1_, .second, vj q2_, .second, vj q3_, .second, vj q4_, .second, vj q5_, .second, vr b1, vu] [xr b1]) _
    refine st7 _ ?_
    show own_S p e below T7 (mkF m 80 #[vj p0, .second, vj p1, .second, vj p2, .second, vj p3, .second, vj p4, .second, vj p5, .second, vj q0_, .second, vj q1_, .second, vj q2_, .second, vj q3_, .second, vj q4_, .second, vj q5_, .second, vr b1, vu] [xr u3, xr b1]) _
    refine XS.lload X7.here hx rfl (hb hby at_80) rfl ?_
    show own_S p e below T7 (mkF m 82 #[vj p0, .second, vj p1, .second, vj p2, .second, vj p3, .second, vj p4, .second, vj p5, .second, vj q0_, .second, vj q1_, .second, vj q2_, .second, vj q3_, .second, vj q4_, .second, vj q5_, .second, vr b1, vu] [xj q2_, xr u3, xr b1]) _
    refine st8.trans ?_
    show own_S p e below T8 (mkF m 85 #[vj p0, .second, vj p1, .second, vj p2, .second, vj p3, .second, vj p4, .second, vj p5, .second, vj q0_, .second, vj q1_, .second, vj q2_, .second, vj q3_, .second, vj q4_, .second, vj q5_, .second, vr b1, vu] []) _
    refine XS.aload X8.here hx rfl (hb hby at_85) rfl rfl ?_
    show own_S p e below T8 (mkF m 87 #[vj p0, .second, vj p1, .second, vj p2, .second, vj p3, .second, vj p4, .second, vj p5, .second, vj q0_, .second, vj q1_, .second, vj q2_, .second, vj q3_, .second, vj q4_, .second, vj q5_, .second, vr b1, vu] [xr b1]) _
    refine st9 _ ?_
    show own_S p e below T9 (mkF m 90 #[vj p0, .second, vj p1, .second, vj p2, .second, vj p3, .second, vj p4, .second, vj p5, .second, vj q0_, .second, vj q1_, .second, vj q2_, .second, vj q3_, .second, vj q4_, .second, vj q5_, .second, vr b1, vu] [xr u4, xr b1]) _
    refine XS.lload X9.here hx rfl (hb hby at_90) rfl ?_
    show own_S p e below T9 (mkF m 92 #[vj p0, .second, vj p1, .second, vj p2, .second, vj p3, .second, vj p4, .second, vj p5, .second, vj q0_, .second, vj q1_, .second, vj q2_, .second, vj q3_, .second, vj q4_, .second, vj q5_, .second, vr b1, vu] [xj q3_, xr u4, xr b1]) _
    refine st10.trans ?_
    show own_S p e below T10 (mkF m 95 #[vj p0, .second, vj p1, .second, vj p2, .second, vj p3, .second, vj p4, .second, vj p5, .second, vj q0_, .second, vj q1_, .second, vj q2_, .second, vj q3_, .second, vj q4_, .second, vj q5_, .second, vr b1, vu] []) _
    refine XS.aload X10.here hx rfl (hb hby at_95) rfl rfl ?_
    show own_S p e below T10 (mkF m 97 #[vj p0, .second, vj p1, .second, vj p2, .second, vj p3, .second, vj p4, .second, vj p5, .second, vj q0_, .second, vj q1_, .second, vj q2_, .second, vj q3_, .second, vj q4_, .second, vj q5_, .second, vr b1, vu] [xr b1]) _
    refine st11 _ ?_
    show own_S p e below T11 (mkF m 100 #[vj p0, .second, vj p1, .second, vj p2, .second, vj p3, .second, vj p4, .second, vj p5, .second, vj q0_, .second, vj q1_, .second, vj q2_, .second, vj q3_, .second, vj q4_, .second, vj q5_, .second, vr b1, vu] [xr u5, xr b1]) _
    refine XS.lload X11.here hx rfl (hb hby at_100) rfl ?_
    show own_S p e below T11 (mkF m 102 #[vj p0, .second, vj p1, .second, vj p2, .second, vj p3, .second, vj p4, .second, vj p5, .second, vj q0_, .second, vj q1_, .second, vj q2_, .second, vj q3_, .second, vj q4_, .second, vj q5_, .second, vr b1, vu] [xj q4_, xr u5, xr b1]) _
    refine st12.trans ?_
    show own_S p e below T12 (mkF m 105 #[vj p0, .second, vj p1, .second, vj p2, .second, vj p3, .second, vj p4, .second, vj p5, .second, vj q0_, .second, vj q1_, .second, vj q2_, .second, vj q3_, .second, vj q4_, .second, vj q5_, .second, vr b1, vu] []) _
    refine XS.aload X12.here hx rfl (hb hby at_105) rfl rfl ?_
    show own_S p e below T12 (mkF m 107 #[vj p0, .second, vj p1, .second, vj p2, .second, vj p3, .second, vj p4, .second, vj p5, .second, vj q0_, .second, vj q1_, .second, vj q2_, .second, vj q3_, .second, vj q4_, .second, vj q5_, .second, vr b1, vu] [xr b1]) _
    refine st13 _ ?_
    show own_S p e below T13 (mkF m 110 #[vj p0, .second, vj p1, .second, vj p2, .second, vj p3, .second, vj p4, .second, vj p5, .second, vj q0_, .second, vj q1_, .second, vj q2_, .second, vj q3_, .second, vj q4_, .second, vj q5_, .second, vr b1, vu] [xr u6, xr b1]) _
    refine XS.lload X13.here hx rfl (hb hby at_110) rfl ?_
    show own_S p e below T13 (mkF m 112 #[vj p0, .second, vj p1, .second, vj p2, .second, vj p3, .second, vj p4, .second, vj p5, .second, vj q0_, .second, vj q1_, .second, vj q2_, .second, vj q3_, .second, vj q4_, .second, vj q5_, .second, vr b1, vu] [xj q5_, xr u6, xr b1]) _
    refine st14.trans ?_
    show own_S p e below T14 (mkF m 115 #[vj p0, .second, vj p1, .second, vj p2, .second, vj p3, .second, vj p4, .second, vj p5, .second, vj q0_, .second, vj q1_, .second, vj q2_, .second, vj q3_, .second, vj q4_, .second, vj q5_, .second, vr b1, vu] []) _
    refine XS.lload X14.here hx rfl (hb hby at_115) rfl ?_
    show own_S p e below T14 (mkF m 117 #[vj p0, .second, vj p1, .second, vj p2, .second, vj p3, .second, vj p4, .second, vj p5, .second, vj q0_, .second, vj q1_, .second, vj q2_, .second, vj q3_, .second, vj q4_, .second, vj q5_, .second, vr b1, vu] [xj q0_]) _
    refine XS.lconst X14.here hx rfl (hb hby at_117) ?_
    show own_S p e below T14 (mkF m 118 #[vj p0, .second, vj p1, .second, vj p2, .second, vj p3, .second, vj p4, .second, vj p5, .second, vj q0_, .second, vj q1_, .second, vj q2_, .second, vj q3_, .second, vj q4_, .second, vj q5_, .second, vr b1, vu] [xj (0 : Int64), xj q0_]) _
    refine XS.lcmp X14.here hx rfl (hb hby at_118) rfl ?_
    show own_S p e below T14 (mkF m 119 #[vj p0, .second, vj p1, .second, vj p2, .second, vj p3, .second, vj p4, .second, vj p5, .second, vj q0_, .second, vj q1_, .second, vj q2_, .second, vj q3_, .second, vj q4_, .second, vj q5_, .second, vr b1, vu] [xi (lcmpW q0_ (0 : Int64))]) _
    show own_S p e below T14 (mkF m 119 #[vj p0, .second, vj p1, .second, vj p2, .second, vj p3, .second, vj p4, .second, vj p5, .second, vj q0_, .second, vj q1_, .second, vj q2_, .second, vj q3_, .second, vj q4_, .second, vj q5_, .second, vr b1, vu] [xi (lcmpW q0_ (0 : Int64))]) _
    refine XS.ifNo X14.here hx rfl (hb hby at_119) rfl as19 ?_
    show own_S p e below T14 (mkF m 122 #[vj p0, .second, vj p1, .second, vj p2, .second, vj p3, .second, vj p4, .second, vj p5, .second, vj q0_, .second, vj q1_, .second, vj q2_, .second, vj q3_, .second, vj q4_, .second, vj q5_, .second, vr b1, vu] []) _
    refine XS.lload X14.here hx rfl (hb hby at_122) rfl ?_
    show own_S p e below T14 (mkF m 124 #[vj p0, .second, vj p1, .second, vj p2, .second, vj p3, .second, vj p4, .second, vj p5, .second, vj q0_, .second, vj q1_, .second, vj q2_, .second, vj q3_, .second, vj q4_, .second, vj q5_, .second, vr b1, vu] [xj q1_]) _
    refine XS.lconst X14.here hx rfl (hb hby at_124) ?_
    show own_S p e below T14 (mkF m 125 #[vj p0, .second, vj p1, .second, vj p2, .second, vj p3, .second, vj p4, .second, vj p5, .second, vj q0_, .second, vj q1_, .second, vj q2_, .second, vj q3_, .second, vj q4_, .second, vj q5_, .second, vr b1, vu] [xj (0 : Int64), xj q1_]) _
    refine XS.lcmp X14.here hx rfl (hb hby at_125) rfl ?_
    show own_S p e below T14 (mkF m 126 #[vj p0, .second, vj p1, .second, vj p2, .second, vj p3, .second, vj p4, .second, vj p5, .second, vj q0_, .second, vj q1_, .second, vj q2_, .second, vj q3_, .second, vj q4_, .second, vj q5_, .second, vr b1, vu] [xi (lcmpW q1_ (0 : Int64))]) _
    show own_S p e below T14 (mkF m 126 #[vj p0, .second, vj p1, .second, vj p2, .second, vj p3, .second, vj p4, .second, vj p5, .second, vj q0_, .second, vj q1_, .second, vj q2_, .second, vj q3_, .second, vj q4_, .second, vj q5_, .second, vr b1, vu] [xi (lcmpW q1_ (0 : Int64))]) _
    refine XS.ifNo X14.here hx rfl (hb hby at_126) rfl as23 ?_
    show own_S p e below T14 (mkF m 129 #[vj p0, .second, vj p1, .second, vj p2, .second, vj p3, .second, vj p4, .second, vj p5, .second, vj q0_, .second, vj q1_, .second, vj q2_, .second, vj q3_, .second, vj q4_, .second, vj q5_, .second, vr b1, vu] []) _
    refine XS.lload X14.here hx rfl (hb hby at_129) rfl ?_
    show own_S p e below T14 (mkF m 131 #[vj p0, .second, vj p1, .second, vj p2, .second, vj p3, .second, vj p4, .second, vj p5, .second, vj q0_, .second, vj q1_, .second, vj q2_, .second, vj q3_, .second, vj q4_, .second, vj q5_, .second, vr b1, vu] [xj q2_]) _
    refine XS.lconst X14.here hx rfl (hb hby at_131) ?_
    show own_S p e below T14 (mkF m 132 #[vj p0, .second, vj p1, .second, vj p2, .second, vj p3, .second, vj p4, .second, vj p5, .second, vj q0_, .second, vj q1_, .second, vj q2_, .second, vj q3_, .second, vj q4_, .second, vj q5_, .second, vr b1, vu] [xj (0 : Int64), xj q2_]) _
    refine XS.lcmp X14.here hx rfl (hb hby at_132) rfl ?_
    show own_S p e below T14 (mkF m 133 #[vj p0, .second, vj p1, .second, vj p2, .second, vj p3, .second, vj p4, .second, vj p5, .second, vj q0_, .second, vj q1_, .second, vj q2_, .second, vj q3_, .second, vj q4_, .second, vj q5_, .second, vr b1, vu] [xi (lcmpW q2_ (0 : Int64))]) _
    show own_S p e below T14 (mkF m 133 #[vj p0, .second, vj p1, .second, vj p2, .second, vj p3, .second, vj p4, .second, vj p5, .second, vj q0_, .second, vj q1_, .second, vj q2_, .second, vj q3_, .second, vj q4_, .second, vj q5_, .second, vr b1, vu] [xi (lcmpW q2_ (0 : Int64))]) _
    refine XS.ifNo X14.here hx rfl (hb hby at_133) rfl as27 ?_
    show own_S p e below T14 (mkF m 136 #[vj p0, .second, vj p1, .second, vj p2, .second, vj p3, .second, vj p4, .second, vj p5, .second, vj q0_, .second, vj q1_, .second, vj q2_, .second, vj q3_, .second, vj q4_, .second, vj q5_, .second, vr b1, vu] []) _
    refine XS.lload X14.here hx rfl (hb hby at_136) rfl ?_
    show own_S p e below T14 (mkF m 138 #[vj p0, .second, vj p1, .second, vj p2, .second, vj p3, .second, vj p4, .second, vj p5, .second, vj q0_, .second, vj q1_, .second, vj q2_, .second, vj q3_, .second, vj q4_, .second, vj q5_, .second, vr b1, vu] [xj q3_]) _
    refine XS.lconst X14.here hx rfl (hb hby at_138) ?_
    show own_S p e below T14 (mkF m 139 #[vj p0, .second, vj p1, .second, vj p2, .second, vj p3, .second, vj p4, .second, vj p5, .second, vj q0_, .second, vj q1_, .second, vj q2_, .second, vj q3_, .second, vj q4_, .second, vj q5_, .second, vr b1, vu] [xj (0 : Int64), xj q3_]) _
    refine XS.lcmp X14.here hx rfl (hb hby at_139) rfl ?_
    show own_S p e below T14 (mkF m 140 #[vj p0, .second, vj p1, .second, vj p2, .second, vj p3, .second, vj p4, .second, vj p5, .second, vj q0_, .second, vj q1_, .second, vj q2_, .second, vj q3_, .second, vj q4_, .second, vj q5_, .second, vr b1, vu] [xi (lcmpW q3_ (0 : Int64))]) _
    show own_S p e below T14 (mkF m 140 #[vj p0, .second, vj p1, .second, vj p2, .second, vj p3, .second, vj p4, .second, vj p5, .second, vj q0_, .second, vj q1_, .second, vj q2_, .second, vj q3_, .second, vj q4_, .second, vj q5_, .second, vr b1, vu] [xi (lcmpW q3_ (0 : Int64))]) _
    refine XS.ifNo X14.here hx rfl (hb hby at_140) rfl as31 ?_
    show own_S p e below T14 (mkF m 143 #[vj p0, .second, vj p1, .second, vj p2, .second, vj p3, .second, vj p4, .second, vj p5, .second, vj q0_, .second, vj q1_, .second, vj q2_, .second, vj q3_, .second, vj q4_, .second, vj q5_, .second, vr b1, vu] []) _
    refine XS.lload X14.here hx rfl (hb hby at_143) rfl ?_
    show own_S p e below T14 (mkF m 145 #[vj p0, .second, vj p1, .second, vj p2, .second, vj p3, .second, vj p4, .second, vj p5, .second, vj q0_, .second, vj q1_, .second, vj q2_, .second, vj q3_, .second, vj q4_, .second, vj q5_, .second, vr b1, vu] [xj q4_]) _
    refine XS.lconst X14.here hx rfl (hb hby at_145) ?_
    show own_S p e below T14 (mkF m 146 #[vj p0, .second, vj p1, .second, vj p2, .second, vj p3, .second, vj p4, .second, vj p5, .second, vj q0_, .second, vj q1_, .second, vj q2_, .second, vj q3_, .second, vj q4_, .second, vj q5_, .second, vr b1, vu] [xj (0 : Int64), xj q4_]) _
    refine XS.lcmp X14.here hx rfl (hb hby at_146) rfl ?_
    show own_S p e below T14 (mkF m 147 #[vj p0, .second, vj p1, .second, vj p2, .second, vj p3, .second, vj p4, .second, vj p5, .second, vj q0_, .second, vj q1_, .second, vj q2_, .second, vj q3_, .second, vj q4_, .second, vj q5_, .second, vr b1, vu] [xi (lcmpW q4_ (0 : Int64))]) _
    show own_S p e below T14 (mkF m 147 #[vj p0, .second, vj p1, .second, vj p2, .second, vj p3, .second, vj p4, .second, vj p5, .second, vj q0_, .second, vj q1_, .second, vj q2_, .second, vj q3_, .second, vj q4_, .second, vj q5_, .second, vr b1, vu] [xi (lcmpW q4_ (0 : Int64))]) _
    refine XS.ifNo X14.here hx rfl (hb hby at_147) rfl as35 ?_
    show own_S p e below T14 (mkF m 150 #[vj p0, .second, vj p1, .second, vj p2, .second, vj p3, .second, vj p4, .second, vj p5, .second, vj q0_, .second, vj q1_, .second, vj q2_, .second, vj q3_, .second, vj q4_, .second, vj q5_, .second, vr b1, vu] []) _
    refine XS.lload X14.here hx rfl (hb hby at_150) rfl ?_
    show own_S p e below T14 (mkF m 152 #[vj p0, .second, vj p1, .second, vj p2, .second, vj p3, .second, vj p4, .second, vj p5, .second, vj q0_, .second, vj q1_, .second, vj q2_, .second, vj q3_, .second, vj q4_, .second, vj q5_, .second, vr b1, vu] [xj q5_]) _
    refine XS.lconst X14.here hx rfl (hb hby at_152) ?_
    show own_S p e below T14 (mkF m 153 #[vj p0, .second, vj p1, .second, vj p2, .second, vj p3, .second, vj p4, .second, vj p5, .second, vj q0_, .second, vj q1_, .second, vj q2_, .second, vj q3_, .second, vj q4_, .second, vj q5_, .second, vr b1, vu] [xj (0 : Int64), xj q5_]) _
    refine XS.lcmp X14.here hx rfl (hb hby at_153) rfl ?_
    show own_S p e below T14 (mkF m 154 #[vj p0, .second, vj p1, .second, vj p2, .second, vj p3, .second, vj p4, .second, vj p5, .second, vj q0_, .second, vj q1_, .second, vj q2_, .second, vj q3_, .second, vj q4_, .second, vj q5_, .second, vr b1, vu] [xi (lcmpW q5_ (0 : Int64))]) _
    show own_S p e below T14 (mkF m 154 #[vj p0, .second, vj p1, .second, vj p2, .second, vj p3, .second, vj p4, .second, vj p5, .second, vj q0_, .second, vj q1_, .second, vj q2_, .second, vj q3_, .second, vj q4_, .second, vj q5_, .second, vr b1, vu] [xi (lcmpW q5_ (0 : Int64))]) _
    refine XS.ifNo X14.here hx rfl (hb hby at_154) rfl as39 ?_
    show own_S p e below T14 (mkF m 157 #[vj p0, .second, vj p1, .second, vj p2, .second, vj p3, .second, vj p4, .second, vj p5, .second, vj q0_, .second, vj q1_, .second, vj q2_, .second, vj q3_, .second, vj q4_, .second, vj q5_, .second, vr b1, vu] []) _
    refine XS.iconst X14.here hx rfl (hb hby at_157) ?_
    show own_S p e below T14 (mkF m 158 #[vj p0, .second, vj p1, .second, vj p2, .second, vj p3, .second, vj p4, .second, vj p5, .second, vj q0_, .second, vj q1_, .second, vj q2_, .second, vj q3_, .second, vj q4_, .second, vj q5_, .second, vr b1, vu] [xi (1 : Int32)]) _
    refine XS.goto X14.here hx rfl (pc0 := 158) (pc' := 162) rfl (hb hby at_158) (by decide) (by decide) ?_
    show own_S p e below T14 (mkF m 162 #[vj p0, .second, vj p1, .second, vj p2, .second, vj p3, .second, vj p4, .second, vj p5, .second, vj q0_, .second, vj q1_, .second, vj q2_, .second, vj q3_, .second, vj q4_, .second, vj q5_, .second, vr b1, vu] [xi (1 : Int32)]) _
    refine XS.istore X14.here hx rfl (hb hby at_162) rfl (l' := #[vj p0, .second, vj p1, .second, vj p2, .second, vj p3, .second, vj p4, .second, vj p5, .second, vj q0_, .second, vj q1_, .second, vj q2_, .second, vj q3_, .second, vj q4_, .second, vj q5_, .second, vr b1, vi (1 : Int32)]) rfl ?_
    show own_S p e below T14 (mkF m 164 #[vj p0, .second, vj p1, .second, vj p2, .second, vj p3, .second, vj p4, .second, vj p5, .second, vj q0_, .second, vj q1_, .second, vj q2_, .second, vj q3_, .second, vj q4_, .second, vj q5_, .second, vr b1, vi (1 : Int32)] []) _
    refine XS.aload X14.here hx rfl (hb hby at_164) rfl rfl ?_
    show own_S p e below T14 (mkF m 166 #[vj p0, .second, vj p1, .second, vj p2, .second, vj p3, .second, vj p4, .second, vj p5, .second, vj q0_, .second, vj q1_, .second, vj q2_, .second, vj q3_, .second, vj q4_, .second, vj q5_, .second, vr b1, vi (1 : Int32)] [xr b1]) _
    refine st15.trans ?_
    show own_S p e below T15 (mkF m 169 #[vj p0, .second, vj p1, .second, vj p2, .second, vj p3, .second, vj p4, .second, vj p5, .second, vj q0_, .second, vj q1_, .second, vj q2_, .second, vj q3_, .second, vj q4_, .second, vj q5_, .second, vr b1, vi (1 : Int32)] [xi (1 : Int32)]) _
    refine XS.iload X15.here hx rfl (hb hby at_169) rfl ?_
    show own_S p e below T15 (mkF m 171 #[vj p0, .second, vj p1, .second, vj p2, .second, vj p3, .second, vj p4, .second, vj p5, .second, vj q0_, .second, vj q1_, .second, vj q2_, .second, vj q3_, .second, vj q4_, .second, vj q5_, .second, vr b1, vi (1 : Int32)] [xi (1 : Int32), xi (1 : Int32)]) _
    refine XS.icmpNo X15.here hx rfl (hb hby at_171) rfl (by decide) ?_
    show own_S p e below T15 (mkF m 174 #[vj p0, .second, vj p1, .second, vj p2, .second, vj p3, .second, vj p4, .second, vj p5, .second, vj q0_, .second, vj q1_, .second, vj q2_, .second, vj q3_, .second, vj q4_, .second, vj q5_, .second, vr b1, vi (1 : Int32)] []) _
    refine XS.iconst X15.here hx rfl (hb hby at_174) ?_
    show own_S p e below T15 (mkF m 175 #[vj p0, .second, vj p1, .second, vj p2, .second, vj p3, .second, vj p4, .second, vj p5, .second, vj q0_, .second, vj q1_, .second, vj q2_, .second, vj q3_, .second, vj q4_, .second, vj q5_, .second, vr b1, vi (1 : Int32)] [xi (1 : Int32)]) _
    refine XS.goto X15.here hx rfl (pc0 := 175) (pc' := 179) rfl (hb hby at_175) (by decide) (by decide) ?_
    show own_S p e below T15 (mkF m 179 #[vj p0, .second, vj p1, .second, vj p2, .second, vj p3, .second, vj p4, .second, vj p5, .second, vj q0_, .second, vj q1_, .second, vj q2_, .second, vj q3_, .second, vj q4_, .second, vj q5_, .second, vr b1, vi (1 : Int32)] [xi (1 : Int32)]) _
    exact retN X15 hx (t := .boolean) Bd.returns (by simp) (hb hby at_179) hr
  · exact ⟨rfl, N15⟩
theorem ef_own_l1 (m : MethodId) (u0 u1 u2 u3 u4 u5 u6 : Addr) (p0 : Int64) (p1 : Int64) (p2 : Int64) (p3 : Int64) (p4 : Int64) (p5 : Int64) (q0_ : Int64) (q1_ : Int64) (q2_ : Int64) (q3_ : Int64) (q4_ : Int64) (q5_ : Int64) : entryFrame m #[xj p0, xj p1, xj p2, xj p3, xj p4, xj p5] maxLocals = (mkF m 0 #[vj p0, .second, vj p1, .second, vj p2, .second, vj p3, .second, vj p4, .second, vj p5, .second, vu, vu, vu, vu, vu, vu, vu, vu, vu, vu, vu, vu, vu, vu] []) := by first | (simp [entryFrame, mkF, argsToLocals, Value.category, maxLocals]; done) | rfl
set_option maxRecDepth 65536 in
set_option maxHeartbeats 40000000 in
theorem own_l1 (l : Launch) (Z : State) (a0 : Array Value) (hw : ∀ d ∈ tables_1, d.before a0 Z = true) (u0 u1 u2 u3 u4 u5 u6 : Addr) (G : own_St Z u0 u1 u2 u3 u4 u5 u6) (p0 : Int64) (p1 : Int64) (p2 : Int64) (p3 : Int64) (p4 : Int64) (p5 : Int64) (q0_ : Int64) (q1_ : Int64) (q2_ : Int64) (q3_ : Int64) (q4_ : Int64) (q5_ : Int64) (as13 : (p0 &&& (9223372036854775807 : Int64)) = q0_) (as14 : (p1 &&& (9223372036854775807 : Int64)) = q1_) (as15 : (p2 &&& (9223372036854775807 : Int64)) = q2_) (as16 : (p3 &&& (9223372036854775807 : Int64)) = q3_) (as17 : (p4 &&& (9223372036854775807 : Int64)) = q4_) (as18 : (p5 &&& (9223372036854775807 : Int64)) = q5_) (as19 : ifCond.holds .ne (lcmpW q0_ (0 : Int64)) = false) (as23 : ifCond.holds .ne (lcmpW q1_ (0 : Int64)) = false) (as27 : ifCond.holds .ne (lcmpW q2_ (0 : Int64)) = false) (as31 : ifCond.holds .ne (lcmpW q3_ (0 : Int64)) = false) (as35 : ifCond.holds .ne (lcmpW q4_ (0 : Int64)) = false) (as41 : ifCond.holds .ne (lcmpW q5_ (0 : Int64)) = true) (as20 : ifCond.holds .le (lcmpW q0_ (0 : Int64)) = true) (as24 : ifCond.holds .le (lcmpW q1_ (0 : Int64)) = true) (as28 : ifCond.holds .le (lcmpW q2_ (0 : Int64)) = true) (as32 : ifCond.holds .le (lcmpW q3_ (0 : Int64)) = true) (as36 : ifCond.holds .le (lcmpW q4_ (0 : Int64)) = true) (as42 : ifCond.holds .le (lcmpW q5_ (0 : Int64)) = false) (h0 : Heap) (n0 : Nat) (O0 : Old Z n0 h0) : own_Met l Z x code maxLocals ret room_1 #[xj p0, xj p1, xj p2, xj p3, xj p4, xj p5] h0 (own_QL (some (xi (1 : Int32))) n0) := by
  intro ws
  refine MetFree.of_bodySF (plainFor_of_name pn4) hisR ?_
  intro p e s m args below meth c s₁ Bd hml0 hP hK
  obtain ⟨rfl, hZ, hh⟩ := hP
  have hx := Bd.exec
  have hby := Bd.bytes
  have hml : c.maxLocals = 26 := hml0
  have hown : s.vm.findClass "com/example/stackwright/stackwright/engine/ManaPoolIsEmptyPinLaw" = some m.cls := findClass_of_methodNamed Bd.named
  have hnm := (name_of_methodNamed Bd.named Bd.method).1
  have X0 : Stand p l e room_1 s m #[xj p0, xj p1, xj p2, xj p3, xj p4, xj p5] below meth c s₁ [] 0 0 := Stand.of_body Bd
  have e0 : s₁.heap = h0 := by rw [← hh, Bd.state]; rfl
  have N0 := Fr.nil n0
  have pre0 : ∀ t, Steps p.tables e below (s₁.setTop (mkF m 0 #[vj p0, .second, vj p1, .second, vj p2, .second, vj p3, .second, vj p4, .second, vj p5, .second, vu, vu, vu, vu, vu, vu, vu, vu, vu, vu, vu, vu, vu, vu] [])) t → Steps p.tables e below (s₁.setTop (entryFrame m #[xj p0, xj p1, xj p2, xj p3, xj p4, xj p5] maxLocals)) t := fun t st => castTop (ef_own_l1 m u0 u1 u2 u3 u4 u5 u6 p0 p1 p2 p3 p4 p5 q0_ q1_ q2_ q3_ q4_ q5_) st
  obtain ⟨T1, h1, X1, e1, E1, A1, D1, -, st1⟩ := newO X0 hx hZ hown (ww hw 1 rfl) (ww hw 2 rfl) (ww hw 3 rfl) e0 (g := (mkF m 46 #[vj p0, .second, vj p1, .second, vj p2, .second, vj p3, .second, vj p4, .second, vj p5, .second, vj q0_, .second, vj q1_, .second, vj q2_, .second, vj q3_, .second, vj q4_, .second, vj q5_, .second, vu, vu] [])) rfl (hb hby at_46) (by decide) (by decide)
  obtain ⟨b1, g1⟩ : ∃ z, z = h0.size := ⟨_, rfl⟩
  rw [← g1] at A1 D1 st1
  have g_b1 : n0 ≤ b1 := own_fresh O0 g1
  have O1 : Old Z n0 h1 := O0.ext E1
  have F_b1_amounts : Fld Z h1 b1 "com/example/stackwright/stackwright/engine/ManaPool" "amounts" "[J" .null := D1 (Or.inr (ww hw 34 rfl)) (ty := (.array .long)) (by decide)
  obtain ⟨_, _, ⟨T2, L2, k2, n2⟩, -, X2, ⟨Lc2, hQ2, l2, y2, z2⟩, st2⟩ := X1.specialBack hx (y := Y1) rfl hown (mvT hZ (ww hw 4 rfl)) (mvT hZ (ww hw 5 rfl)) (mvT hZ (ww hw 6 rfl)) (by decide) (backOf (W := 1) (own_init l Z a0 hw u0 u1 u2 u3 u4 u5 u6 G b1 h1 n0 O1 A1 F_b1_amounts g_b1 []) hZ (ww hw 6 rfl) (ww hw 3 rfl) (by decide) (by decide)) (g := (mkF m 50 #[vj p0, .second, vj p1, .second, vj p2, .second, vj p3, .second, vj p4, .second, vj p5, .second, vj q0_, .second, vj q1_, .second, vj q2_, .second, vj q3_, .second, vj q4_, .second, vj q5_, .second, vu, vu] [xr b1, xr b1])) rfl (by rw [hml]; rfl) (Steps.refl _) (a := b1) (argsL := []) (rest := [xr b1]) (lenOf pd3 rfl) rfl (by show 2 * 0 + _ ≤ _; exact Nat.le_of_eq rfl) (hb hby at_50) (fun _ _ => ⟨rfl, e1, (by decide : 1 + 2 ≤ _), (by decide : 1 + 12 ≤ _)⟩)
  dsimp only [Pt.U, Pt.locs, Pt.cells, Pt.slots] at X2 l2 y2 z2 st2 hQ2
  subst l2 y2 z2
  obtain ⟨h2, e2⟩ : ∃ z, T2.heap = z := ⟨_, rfl⟩
  rw [e2] at hQ2
  obtain ⟨rfl, Nq2, K2, bb2, kk2, -, Fc2, Vb2, nb2, -, g_bb2⟩ := hQ2
  have N2 := Fr.app N0 Nq2
  have O2 : Old Z n0 h2 := O1.keep K2 (allS g_b1 all0)
  have X_b1_2 := A1.keep K2
  obtain ⟨T3, X3, e3, st3⟩ := getS2 X2 hx hZ hown (host := "") (Or.inl (ww hw 35 rfl)) Via.refl e2 ((own_S_u1 G).ext O2.2) (g := (mkF m 57 #[vj p0, .second, vj p1, .second, vj p2, .second, vj p3, .second, vj p4, .second, vj p5, .second, vj q0_, .second, vj q1_, .second, vj q2_, .second, vj q3_, .second, vj q4_, .second, vj q5_, .second, vr b1, vu] [xr b1])) rfl (hb hby at_57)
  obtain ⟨cq4, kq4, qa4, qb4, qc4⟩ := isOf hZ e3 X_b1_2
  obtain ⟨_, _, ⟨T4, L4, k4, n4⟩, -, X4, ⟨Lc4, hQ4, l4, y4, z4⟩, st4⟩ := X3.virtualBack hx (y := Y5) (z := Y5) hown (mvT hZ (ww hw 36 rfl)) (mvT hZ (ww hw 37 rfl)) (notFace_of_selects (args := #[]) (mvT hZ (ww hw 39 rfl))) (mvT hZ (ww hw 39 rfl)) (mvT hZ (ww hw 38 rfl)) (by decide) (backOf (W := 0) (own_add0 l Z a0 hw u0 u1 u2 u3 u4 u5 u6 G b1 bb2 kk2 (0 : Int64) (0 : Int64) (0 : Int64) (0 : Int64) (0 : Int64) q0_ (own_nn p0 q0_ as13) h2 n0 O2 ⟨X_b1_2, Fc2, Vb2, nb2, g_b1, g_bb2⟩ []) hZ (ww hw 40 rfl) (ww hw 3 rfl) (by decide) (by decide)) qa4 qc4 (g := (mkF m 62 #[vj p0, .second, vj p1, .second, vj p2, .second, vj p3, .second, vj p4, .second, vj p5, .second, vj q0_, .second, vj q1_, .second, vj q2_, .second, vj q3_, .second, vj q4_, .second, vj q5_, .second, vr b1, vu] [xj q0_, xr u1, xr b1])) rfl (by rw [hml]; rfl) (Steps.refl _) (argsL := [xr u1, xj q0_]) (rest := []) (lenOf pd4 rfl) rfl (by show 2 * 0 + _ ≤ _; exact Nat.le_of_eq rfl) (hb hby at_62) (fun _ _ => ⟨rfl, e3, (by decide : 3 + 0 ≤ _), (by decide : 13 + 0 ≤ _)⟩)
  dsimp only [Pt.U, Pt.locs, Pt.cells, Pt.slots] at X4 l4 y4 z4 st4 hQ4
  subst l4 y4 z4
  obtain ⟨h4, e4⟩ : ∃ z, T4.heap = z := ⟨_, rfl⟩
  rw [e4] at hQ4
  obtain ⟨rfl, Nq4, K4, -, -, Vn4, -⟩ := hQ4
  have N4 := Fr.app N2 Nq4
  have O4 : Old Z n0 h4 := O2.keep K4 (allS g_bb2 all0)
  have X_b1_4 := X_b1_2.keep K4
  have F_b1_amounts_4 := Fc2.keep K4 (ninS nb2 nin0)
  obtain ⟨T5, X5, e5, st5⟩ := getS2 X4 hx hZ hown (host := "") (Or.inl (ww hw 54 rfl)) Via.refl e4 ((own_S_u2 G).ext O4.2) (g := (mkF m 67 #[vj p0, .second, vj p1, .second, vj p2, .second, vj p3, .second, vj p4, .second, vj p5, .second, vj q0_, .second, vj q1_, .second, vj q2_, .second, vj q3_, .second, vj q4_, .second, vj q5_, .second, vr b1, vu] [xr b1])) rfl (hb hby at_67)
  obtain ⟨cq6, kq6, qa6, qb6, qc6⟩ := isOf hZ e5 X_b1_4
  obtain ⟨_, _, ⟨T6, L6, k6, n6⟩, -, X6, ⟨Lc6, hQ6, l6, y6, z6⟩, st6⟩ := X5.virtualBack hx (y := Y5) (z := Y5) hown (mvT hZ (ww hw 36 rfl)) (mvT hZ (ww hw 37 rfl)) (notFace_of_selects (args := #[]) (mvT hZ (ww hw 39 rfl))) (mvT hZ (ww hw 39 rfl)) (mvT hZ (ww hw 38 rfl)) (by decide) (backOf (W := 0) (own_add1 l Z a0 hw u0 u1 u2 u3 u4 u5 u6 G b1 bb2 kk2 q0_ (0 : Int64) (0 : Int64) (0 : Int64) (0 : Int64) q1_ (own_nn p1 q1_ as14) h4 n0 O4 ⟨X_b1_4, F_b1_amounts_4, Vn4, nb2, g_b1, g_bb2⟩ []) hZ (ww hw 40 rfl) (ww hw 3 rfl) (by decide) (by decide)) qa6 qc6 (g := (mkF m 72 #[vj p0, .second, vj p1, .second, vj p2, .second, vj p3, .second, vj p4, .second, vj p5, .second, vj q0_, .second, vj q1_, .second, vj q2_, .second, vj q3_, .second, vj q4_, .second, vj q5_, .second, vr b1, vu] [xj q1_, xr u2, xr b1])) rfl (by rw [hml]; rfl) (Steps.refl _) (argsL := [xr u2, xj q1_]) (rest := []) (lenOf pd4 rfl) rfl (by show 2 * 0 + _ ≤ _; exact Nat.le_of_eq rfl) (hb hby at_72) (fun _ _ => ⟨rfl, e5, (by decide : 3 + 0 ≤ _), (by decide : 13 + 0 ≤ _)⟩)
  dsimp only [Pt.U, Pt.locs, Pt.cells, Pt.slots] at X6 l6 y6 z6 st6 hQ6
  subst l6 y6 z6
  obtain ⟨h6, e6⟩ : ∃ z, T6.heap = z := ⟨_, rfl⟩
  rw [e6] at hQ6
  obtain ⟨rfl, Nq6, K6, -, -, Vn6, -⟩ := hQ6
  have N6 := Fr.app N4 Nq6
  have O6 : Old Z n0 h6 := O4.keep K6 (allS g_bb2 all0)
  have X_b1_6 := X_b1_4.keep K6
  have F_b1_amounts_6 := F_b1_amounts_4.keep K6 (ninS nb2 nin0)
  obtain ⟨T7, X7, e7, st7⟩ := getS2 X6 hx hZ hown (host := "") (Or.inl (ww hw 55 rfl)) Via.refl e6 ((own_S_u3 G).ext O6.2) (g := (mkF m 77 #[vj p0, .second, vj p1, .second, vj p2, .second, vj p3, .second, vj p4, .second, vj p5, .second, vj q0_, .second, vj q1_, .second, vj q2_, .second, vj q3_, .second, vj q4_, .second, vj q5_, .second, vr b1, vu] [xr b1])) rfl (hb hby at_77)
  obtain ⟨cq8, kq8, qa8, qb8, qc8⟩ := isOf hZ e7 X_b1_6
  obtain ⟨_, _, ⟨T8, L8, k8, n8⟩, -, X8, ⟨Lc8, hQ8, l8, y8, z8⟩, st8⟩ := X7.virtualBack hx (y := Y5) (z := Y5) hown (mvT hZ (ww hw 36 rfl)) (mvT hZ (ww hw 37 rfl)) (notFace_of_selects (args := #[]) (mvT hZ (ww hw 39 rfl))) (mvT hZ (ww hw 39 rfl)) (mvT hZ (ww hw 38 rfl)) (by decide) (backOf (W := 0) (own_add2 l Z a0 hw u0 u1 u2 u3 u4 u5 u6 G b1 bb2 kk2 q0_ q1_ (0 : Int64) (0 : Int64) (0 : Int64) q2_ (own_nn p2 q2_ as15) h6 n0 O6 ⟨X_b1_6, F_b1_amounts_6, Vn6, nb2, g_b1, g_bb2⟩ []) hZ (ww hw 40 rfl) (ww hw 3 rfl) (by decide) (by decide)) qa8 qc8 (g := (mkF m 82 #[vj p0, .second, vj p1, .second, vj p2, .second, vj p3, .second, vj p4, .second, vj p5, .second, vj q0_, .second, vj q1_, .second, vj q2_, .second, vj q3_, .second, vj q4_, .second, vj q5_, .second, vr b1, vu] [xj q2_, xr u3, xr b1])) rfl (by rw [hml]; rfl) (Steps.refl _) (argsL := [xr u3, xj q2_]) (rest := []) (lenOf pd4 rfl) rfl (by show 2 * 0 + _ ≤ _; exact Nat.le_of_eq rfl) (hb hby at_82) (fun _ _ => ⟨rfl, e7, (by decide : 3 + 0 ≤ _), (by decide : 13 + 0 ≤ _)⟩)
  dsimp only [Pt.U, Pt.locs, Pt.cells, Pt.slots] at X8 l8 y8 z8 st8 hQ8
  subst l8 y8 z8
  obtain ⟨h8, e8⟩ : ∃ z, T8.heap = z := ⟨_, rfl⟩
  rw [e8] at hQ8
  obtain ⟨rfl, Nq8, K8, -, -, Vn8, -⟩ := hQ8
  have N8 := Fr.app N6 Nq8
  have O8 : Old Z n0 h8 := O6.keep K8 (allS g_bb2 all0)
  have X_b1_8 := X_b1_6.keep K8
  have F_b1_amounts_8 := F_b1_amounts_6.keep K8 (ninS nb2 nin0)
  obtain ⟨T9, X9, e9, st9⟩ := getS2 X8 hx hZ hown (host := "") (Or.inl (ww hw 56 rfl)) Via.refl e8 ((own_S_u4 G).ext O8.2) (g := (mkF m 87 #[vj p0, .second, vj p1, .second, vj p2, .second, vj p3, .second, vj p4, .second, vj p5, .second, vj q0_, .second, vj q1_, .second, vj q2_, .second, vj q3_, .second, vj q4_, .second, vj q5_, .second, vr b1, vu] [xr b1])) rfl (hb hby at_87)
  obtain ⟨cq10, kq10, qa10, qb10, qc10⟩ := isOf hZ e9 X_b1_8
  obtain ⟨_, _, ⟨T10, L10, k10, n10⟩, -, X10, ⟨Lc10, hQ10, l10, y10, z10⟩, st10⟩ := X9.virtualBack hx (y := Y5) (z := Y5) hown (mvT hZ (ww hw 36 rfl)) (mvT hZ (ww hw 37 rfl)) (notFace_of_selects (args := #[]) (mvT hZ (ww hw 39 rfl))) (mvT hZ (ww hw 39 rfl)) (mvT hZ (ww hw 38 rfl)) (by decide) (backOf (W := 0) (own_add3 l Z a0 hw u0 u1 u2 u3 u4 u5 u6 G b1 bb2 kk2 q0_ q1_ q2_ (0 : Int64) (0 : Int64) q3_ (own_nn p3 q3_ as16) h8 n0 O8 ⟨X_b1_8, F_b1_amounts_8, Vn8, nb2, g_b1, g_bb2⟩ []) hZ (ww hw 40 rfl) (ww hw 3 rfl) (by decide) (by decide)) qa10 qc10 (g := (mkF m 92 #[vj p0, .second, vj p1, .second, vj p2, .second, vj p3, .second, vj p4, .second, vj p5, .second, vj q0_, .second, vj q1_, .second, vj q2_, .second, vj q3_, .second, vj q4_, .second, vj q5_, .second, vr b1, vu] [xj q3_, xr u4, xr b1])) rfl (by rw [hml]; rfl) (Steps.refl _) (argsL := [xr u4, xj q3_]) (rest := []) (lenOf pd4 rfl) rfl (by show 2 * 0 + _ ≤ _; exact Nat.le_of_eq rfl) (hb hby at_92) (fun _ _ => ⟨rfl, e9, (by decide : 3 + 0 ≤ _), (by decide : 13 + 0 ≤ _)⟩)
  dsimp only [Pt.U, Pt.locs, Pt.cells, Pt.slots] at X10 l10 y10 z10 st10 hQ10
  subst l10 y10 z10
  obtain ⟨h10, e10⟩ : ∃ z, T10.heap = z := ⟨_, rfl⟩
  rw [e10] at hQ10
  obtain ⟨rfl, Nq10, K10, -, -, Vn10, -⟩ := hQ10
  have N10 := Fr.app N8 Nq10
  have O10 : Old Z n0 h10 := O8.keep K10 (allS g_bb2 all0)
  have X_b1_10 := X_b1_8.keep K10
  have F_b1_amounts_10 := F_b1_amounts_8.keep K10 (ninS nb2 nin0)
  obtain ⟨T11, X11, e11, st11⟩ := getS2 X10 hx hZ hown (host := "") (Or.inl (ww hw 57 rfl)) Via.refl e10 ((own_S_u5 G).ext O10.2) (g := (mkF m 97 #[vj p0, .second, vj p1, .second, vj p2, .second, vj p3, .second, vj p4, .second, vj p5, .second, vj q0_, .second, vj q1_, .second, vj q2_, .second, vj q3_, .second, vj q4_, .second, vj q5_, .second, vr b1, vu] [xr b1])) rfl (hb hby at_97)
  obtain ⟨cq12, kq12, qa12, qb12, qc12⟩ := isOf hZ e11 X_b1_10
  obtain ⟨_, _, ⟨T12, L12, k12, n12⟩, -, X12, ⟨Lc12, hQ12, l12, y12, z12⟩, st12⟩ := X11.virtualBack hx (y := Y5) (z := Y5) hown (mvT hZ (ww hw 36 rfl)) (mvT hZ (ww hw 37 rfl)) (notFace_of_selects (args := #[]) (mvT hZ (ww hw 39 rfl))) (mvT hZ (ww hw 39 rfl)) (mvT hZ (ww hw 38 rfl)) (by decide) (backOf (W := 0) (own_add4 l Z a0 hw u0 u1 u2 u3 u4 u5 u6 G b1 bb2 kk2 q0_ q1_ q2_ q3_ (0 : Int64) q4_ (own_nn p4 q4_ as17) h10 n0 O10 ⟨X_b1_10, F_b1_amounts_10, Vn10, nb2, g_b1, g_bb2⟩ []) hZ (ww hw 40 rfl) (ww hw 3 rfl) (by decide) (by decide)) qa12 qc12 (g := (mkF m 102 #[vj p0, .second, vj p1, .second, vj p2, .second, vj p3, .second, vj p4, .second, vj p5, .second, vj q0_, .second, vj q1_, .second, vj q2_, .second, vj q3_, .second, vj q4_, .second, vj q5_, .second, vr b1, vu] [xj q4_, xr u5, xr b1])) rfl (by rw [hml]; rfl) (Steps.refl _) (argsL := [xr u5, xj q4_]) (rest := []) (lenOf pd4 rfl) rfl (by show 2 * 0 + _ ≤ _; exact Nat.le_of_eq rfl) (hb hby at_102) (fun _ _ => ⟨rfl, e11, (by decide : 3 + 0 ≤ _), (by decide : 13 + 0 ≤ _)⟩)
  dsimp only [Pt.U, Pt.locs, Pt.cells, Pt.slots] at X12 l12 y12 z12 st12 hQ12
  subst l12 y12 z12
  obtain ⟨h12, e12⟩ : ∃ z, T12.heap = z := ⟨_, rfl⟩
  rw [e12] at hQ12
  obtain ⟨rfl, Nq12, K12, -, -, Vn12, -⟩ := hQ12
  have N12 := Fr.app N10 Nq12
  have O12 : Old Z n0 h12 := O10.keep K12 (allS g_bb2 all0)
  have X_b1_12 := X_b1_10.keep K12
  have F_b1_amounts_12 := F_b1_amounts_10.keep K12 (ninS nb2 nin0)
  obtain ⟨T13, X13, e13, st13⟩ := getS2 X12 hx hZ hown (host := "") (Or.inl (ww hw 58 rfl)) Via.refl e12 ((own_S_u6 G).ext O12.2) (g := (mkF m 107 #[vj p0, .second, vj p1, .second, vj p2, .second, vj p3, .second, vj p4, .second, vj p5, .second, vj q0_, .second, vj q1_, .second, vj q2_, .second, vj q3_, .second, vj q4_, .second, vj q5_, .second, vr b1, vu] [xr b1])) rfl (hb hby at_107)
  obtain ⟨cq14, kq14, qa14, qb14, qc14⟩ := isOf hZ e13 X_b1_12
  obtain ⟨_, _, ⟨T14, L14, k14, n14⟩, -, X14, ⟨Lc14, hQ14, l14, y14, z14⟩, st14⟩ := X13.virtualBack hx (y := Y5) (z := Y5) hown (mvT hZ (ww hw 36 rfl)) (mvT hZ (ww hw 37 rfl)) (notFace_of_selects (args := #[]) (mvT hZ (ww hw 39 rfl))) (mvT hZ (ww hw 39 rfl)) (mvT hZ (ww hw 38 rfl)) (by decide) (backOf (W := 0) (own_add5 l Z a0 hw u0 u1 u2 u3 u4 u5 u6 G b1 bb2 kk2 q0_ q1_ q2_ q3_ q4_ q5_ (own_nn p5 q5_ as18) h12 n0 O12 ⟨X_b1_12, F_b1_amounts_12, Vn12, nb2, g_b1, g_bb2⟩ []) hZ (ww hw 40 rfl) (ww hw 3 rfl) (by decide) (by decide)) qa14 qc14 (g := (mkF m 112 #[vj p0, .second, vj p1, .second, vj p2, .second, vj p3, .second, vj p4, .second, vj p5, .second, vj q0_, .second, vj q1_, .second, vj q2_, .second, vj q3_, .second, vj q4_, .second, vj q5_, .second, vr b1, vu] [xj q5_, xr u6, xr b1])) rfl (by rw [hml]; rfl) (Steps.refl _) (argsL := [xr u6, xj q5_]) (rest := []) (lenOf pd4 rfl) rfl (by show 2 * 0 + _ ≤ _; exact Nat.le_of_eq rfl) (hb hby at_112) (fun _ _ => ⟨rfl, e13, (by decide : 3 + 0 ≤ _), (by decide : 13 + 0 ≤ _)⟩)
  dsimp only [Pt.U, Pt.locs, Pt.cells, Pt.slots] at X14 l14 y14 z14 st14 hQ14
  subst l14 y14 z14
  obtain ⟨h14, e14⟩ : ∃ z, T14.heap = z := ⟨_, rfl⟩
  rw [e14] at hQ14
  obtain ⟨rfl, Nq14, K14, -, -, Vn14, -⟩ := hQ14
  have N14 := Fr.app N12 Nq14
  have O14 : Old Z n0 h14 := O12.keep K14 (allS g_bb2 all0)
  have X_b1_14 := X_b1_12.keep K14
  have F_b1_amounts_14 := F_b1_amounts_12.keep K14 (ninS nb2 nin0)
  obtain ⟨cq15, kq15, qa15, qb15, qc15⟩ := isOf hZ e14 X_b1_14
  obtain ⟨_, _, ⟨T15, L15, k15, n15⟩, -, X15, ⟨Lc15, hQ15, l15, y15, z15⟩, st15⟩ := X14.virtualBack hx (y := Y6) (z := Y6) hown (mvT hZ (ww hw 59 rfl)) (mvT hZ (ww hw 60 rfl)) (notFace_of_selects (args := #[]) (mvT hZ (ww hw 62 rfl))) (mvT hZ (ww hw 62 rfl)) (mvT hZ (ww hw 61 rfl)) (by decide) (backOf (W := 0) (own_empty5 l Z a0 hw u0 u1 u2 u3 u4 u5 u6 G b1 bb2 kk2 q0_ q1_ q2_ q3_ q4_ q5_ as20 as24 as28 as32 as36 as42 h14 n0 O14 ⟨X_b1_14, F_b1_amounts_14, Vn14, nb2, g_b1, g_bb2⟩ []) hZ (ww hw 63 rfl) (ww hw 3 rfl) (by decide) (by decide)) qa15 qc15 (g := (mkF m 166 #[vj p0, .second, vj p1, .second, vj p2, .second, vj p3, .second, vj p4, .second, vj p5, .second, vj q0_, .second, vj q1_, .second, vj q2_, .second, vj q3_, .second, vj q4_, .second, vj q5_, .second, vr b1, vi (0 : Int32)] [xr b1])) rfl (by rw [hml]; rfl) (Steps.refl _) (argsL := []) (rest := []) (lenOf pd5 rfl) rfl (by show 2 * 0 + _ ≤ _; exact Nat.le_of_eq rfl) (hb hby at_166) (fun _ _ => ⟨rfl, e14, (by decide : 3 + 0 ≤ _), (by decide : 13 + 0 ≤ _)⟩)
  dsimp only [Pt.U, Pt.locs, Pt.cells, Pt.slots] at X15 l15 y15 z15 st15 hQ15
  subst l15 y15 z15
  obtain ⟨rfl, Nq15, e15⟩ := hQ15
  have N15 := Fr.app N14 Nq15
  obtain ⟨fs, hr, hrun, hended, hW, hsame⟩ := X15.leave (v := some (xi (1 : Int32))) (fun h => by rw [Bd.returns] at h; cases h)
  refine ⟨_, _, pre0 _ ?_, hrun, hended, _, _, rfl, ?_, ⟨_, rfl⟩, hW, hsame.mono (by decide) (by decide)⟩
  · show own_S p e below s₁ (mkF m 0 #[vj p0, .second, vj p1, .second, vj p2, .second, vj p3, .second, vj p4, .second, vj p5, .second, vu, vu, vu, vu, vu, vu, vu, vu, vu, vu, vu, vu, vu, vu] []) _
    refine XS.lloadN X0.here hx rfl (hb hby at_0) rfl ?_
    show own_S p e below s₁ (mkF m 1 #[vj p0, .second, vj p1, .second, vj p2, .second, vj p3, .second, vj p4, .second, vj p5, .second, vu, vu, vu, vu, vu, vu, vu, vu, vu, vu, vu, vu, vu, vu] [xj p0]) _
    refine X0.ldc2J hx hown (mvT hZ (ww hw 0 rfl)) (g := (mkF m 1 #[vj p0, .second, vj p1, .second, vj p2, .second, vj p3, .second, vj p4, .second, vj p5, .second, vu, vu, vu, vu, vu, vu, vu, vu, vu, vu, vu, vu, vu, vu] [xj p0])) rfl (hb hby at_1) ?_
    show own_S p e below s₁ (mkF m 4 #[vj p0, .second, vj p1, .second, vj p2, .second, vj p3, .second, vj p4, .second, vj p5, .second, vu, vu, vu, vu, vu, vu, vu, vu, vu, vu, vu, vu, vu, vu] [xj (9223372036854775807 : Int64), xj p0]) _
    refine XS.land X0.here hx rfl (hb hby at_4) rfl ?_
    show own_S p e below s₁ (mkF m 5 #[vj p0, .second, vj p1, .second, vj p2, .second, vj p3, .second, vj p4, .second, vj p5, .second, vu, vu, vu, vu, vu, vu, vu, vu, vu, vu, vu, vu, vu, vu] [xj (p0 &&& (9223372036854775807 : Int64))]) _
    refine castTop (show (mkF m 5 #[vj p0, .second, vj p1, .second, vj p2, .second, vj p3, .second, vj p4, .second, vj p5, .second, vu, vu, vu, vu, vu, vu, vu, vu, vu, vu, vu, vu, vu, vu] [xj (p0 &&& (9223372036854775807 : Int64))]) = (mkF m 5 #[vj p0, .second, vj p1, .second, vj p2, .second, vj p3, .second, vj p4, .second, vj p5, .second, vu, vu, vu, vu, vu, vu, vu, vu, vu, vu, vu, vu, vu, vu] [xj q0_]) from by rw [as13]) ?_
    show own_S p e below s₁ (mkF m 5 #[vj p0, .second, vj p1, .second, vj p2, .second, vj p3, .second, vj p4, .second, vj p5, .second, vu, vu, vu, vu, vu, vu, vu, vu, vu, vu, vu, vu, vu, vu] [xj q0_]) _
    refine XS.lstore X0.here hx rfl (hb hby at_5) rfl (l' := #[vj p0, .second, vj p1, .second, vj p2, .second, vj p3, .second, vj p4, .second, vj p5, .second, vj q0_, .second, vu, vu, vu, vu, vu, vu, vu, vu, vu, vu, vu, vu]) rfl ?_
    show own_S p e below s₁ (mkF m 7 #[vj p0, .second, vj p1, .second, vj p2, .second, vj p3, .second, vj p4, .second, vj p5, .second, vj q0_, .second, vu, vu, vu, vu, vu, vu, vu, vu, vu, vu, vu, vu] []) _
    refine XS.lloadN X0.here hx rfl (hb hby at_7) rfl ?_
    show own_S p e below s₁ (mkF m 8 #[vj p0, .second, vj p1, .second, vj p2, .second, vj p3, .second, vj p4, .second, vj p5, .second, vj q0_, .second, vu, vu, vu, vu, vu, vu, vu, vu, vu, vu, vu, vu] [xj p1]) _
    refine X0.ldc2J hx hown (mvT hZ (ww hw 0 rfl)) (g := (mkF m 8 #[vj p0, .second, vj p1, .second, vj p2, .second, vj p3, .second, vj p4, .second, vj p5, .second, vj q0_, .second, vu, vu, vu, vu, vu, vu, vu, vu, vu, vu, vu, vu] [xj p1])) rfl (hb hby at_8) ?_
    show own_S p e below s₁ (mkF m 11 #[vj p0, .second, vj p1, .second, vj p2, .second, vj p3, .second, vj p4, .second, vj p5, .second, vj q0_, .second, vu, vu, vu, vu, vu, vu, vu, vu, vu, vu, vu, vu] [xj (9223372036854775807 : Int64), xj p1]) _
    refine XS.land X0.here hx rfl (hb hby at_11) rfl ?_
    show own_S p e below s₁ (mkF m 12 #[vj p0, .second, vj p1, .second, vj p2, .second, vj p3, .second, vj p4, .second, vj p5, .second, vj q0_, .second, vu, vu, vu, vu, vu, vu, vu, vu, vu, vu, vu, vu] [xj (p1 &&& (9223372036854775807 : Int64))]) _
    refine castTop (show (mkF m 12 #[vj p0, .second, vj p1, .second, vj p2, .second, vj p3, .second, vj p4, .second, vj p5, .second, vj q0_, .second, vu, vu, vu, vu, vu, vu, vu, vu, vu, vu, vu, vu] [xj (p1 &&& (9223372036854775807 : Int64))]) = (mkF m 12 #[vj p0, .second, vj p1, .second, vj p2, .second, vj p3, .second, vj p4, .second, vj p5, .second, vj q0_, .second, vu, vu, vu, vu, vu, vu, vu, vu, vu, vu, vu, vu] [xj q1_]) from by rw [as14]) ?_
    show own_S p e below s₁ (mkF m 12 #[vj p0, .second, vj p1, .second, vj p2, .second, vj p3, .second, vj p4, .second, vj p5, .second, vj q0_, .second, vu, vu, vu, vu, vu, vu, vu, vu, vu, vu, vu, vu] [xj q1_]) _
    refine XS.lstore X0.here hx rfl (hb hby at_12) rfl (l' := #[vj p0, .second, vj p1, .second, vj p2, .second, vj p3, .second, vj p4, .second, vj p5, .second, vj q0_, .second, vj q1_, .second, vu, vu, vu, vu, vu, vu, vu, vu, vu, vu]) rfl ?_
    show own_S p e below s₁ (mkF m 14 #[vj p0, .second, vj p1, .second, vj p2, .second, vj p3, .second, vj p4, .second, vj p5, .second, vj q0_, .second, vj q1_, .second, vu, vu, vu, vu, vu, vu, vu, vu, vu, vu] []) _
    refine XS.lload X0.here hx rfl (hb hby at_14) rfl ?_
    show own_S p e below s₁ (mkF m 16 #[vj p0, .second, vj p1, .second, vj p2, .second, vj p3, .second, vj p4, .second, vj p5, .second, vj q0_, .second, vj q1_, .second, vu, vu, vu, vu, vu, vu, vu, vu, vu, vu] [xj p2]) _
    refine X0.ldc2J hx hown (mvT hZ (ww hw 0 rfl)) (g := (mkF m 16 #[vj p0, .second, vj p1, .second, vj p2, .second, vj p3, .second, vj p4, .second, vj p5, .second, vj q0_, .second, vj q1_, .second, vu, vu, vu, vu, vu, vu, vu, vu, vu, vu] [xj p2])) rfl (hb hby at_16) ?_
    show own_S p e below s₁ (mkF m 19 #[vj p0, .second, vj p1, .second, vj p2, .second, vj p3, .second, vj p4, .second, vj p5, .second, vj q0_, .second, vj q1_, .second, vu, vu, vu, vu, vu, vu, vu, vu, vu, vu] [xj (9223372036854775807 : Int64), xj p2]) _
    refine XS.land X0.here hx rfl (hb hby at_19) rfl ?_
    show own_S p e below s₁ (mkF m 20 #[vj p0, .second, vj p1, .second, vj p2, .second, vj p3, .second, vj p4, .second, vj p5, .second, vj q0_, .second, vj q1_, .second, vu, vu, vu, vu, vu, vu, vu, vu, vu, vu] [xj (p2 &&& (9223372036854775807 : Int64))]) _
    refine castTop (show (mkF m 20 #[vj p0, .second, vj p1, .second, vj p2, .second, vj p3, .second, vj p4, .second, vj p5, .second, vj q0_, .second, vj q1_, .second, vu, vu, vu, vu, vu, vu, vu, vu, vu, vu] [xj (p2 &&& (9223372036854775807 : Int64))]) = (mkF m 20 #[vj p0, .second, vj p1, .second, vj p2, .second, vj p3, .second, vj p4, .second, vj p5, .second, vj q0_, .second, vj q1_, .second, vu, vu, vu, vu, vu, vu, vu, vu, vu, vu] [xj q2_]) from by rw [as15]) ?_
    show own_S p e below s₁ (mkF m 20 #[vj p0, .second, vj p1, .second, vj p2, .second, vj p3, .second, vj p4, .second, vj p5, .second, vj q0_, .second, vj q1_, .second, vu, vu, vu, vu, vu, vu, vu, vu, vu, vu] [xj q2_]) _
    refine XS.lstore X0.here hx rfl (hb hby at_20) rfl (l' := #[vj p0, .second, vj p1, .second, vj p2, .second, vj p3, .second, vj p4, .second, vj p5, .second, vj q0_, .second, vj q1_, .second, vj q2_, .second, vu, vu, vu, vu, vu, vu, vu, vu]) rfl ?_
    show own_S p e below s₁ (mkF m 22 #[vj p0, .second, vj p1, .second, vj p2, .second, vj p3, .second, vj p4, .second, vj p5, .second, vj q0_, .second, vj q1_, .second, vj q2_, .second, vu, vu, vu, vu, vu, vu, vu, vu] []) _
    refine XS.lload X0.here hx rfl (hb hby at_22) rfl ?_
    show own_S p e below s₁ (mkF m 24 #[vj p0, .second, vj p1, .second, vj p2, .second, vj p3, .second, vj p4, .second, vj p5, .second, vj q0_, .second, vj q1_, .second, vj q2_, .second, vu, vu, vu, vu, vu, vu, vu, vu] [xj p3]) _
    refine X0.ldc2J hx hown (mvT hZ (ww hw 0 rfl)) (g := (mkF m 24 #[vj p0, .second, vj p1, .second, vj p2, .second, vj p3, .second, vj p4, .second, vj p5, .second, vj q0_, .second, vj q1_, .second, vj q2_, .second, vu, vu, vu, vu, vu, vu, vu, vu] [xj p3])) rfl (hb hby at_24) ?_
    show own_S p e below s₁ (mkF m 27 #[vj p0, .second, vj p1, .second, vj p2, .second, vj p3, .second, vj p4, .second, vj p5, .second, vj q0_, .second, vj q1_, .second, vj q2_, .second, vu, vu, vu, vu, vu, vu, vu, vu] [xj (9223372036854775807 : Int64), xj p3]) _
    refine XS.land X0.here hx rfl (hb hby at_27) rfl ?_
    show own_S p e below s₁ (mkF m 28 #[vj p0, .second, vj p1, .second, vj p2, .second, vj p3, .second, vj p4, .second, vj p5, .second, vj q0_, .second, vj q1_, .second, vj q2_, .second, vu, vu, vu, vu, vu, vu, vu, vu] [xj (p3 &&& (9223372036854775807 : Int64))]) _
    refine castTop (show (mkF m 28 #[vj p0, .second, vj p1, .second, vj p2, .second, vj p3, .second, vj p4, .second, vj p5, .second, vj q0_, .second, vj q1_, .second, vj q2_, .second, vu, vu, vu, vu, vu, vu, vu, vu] [xj (p3 &&& (9223372036854775807 : Int64))]) = (mkF m 28 #[vj p0, .second, vj p1, .second, vj p2, .second, vj p3, .second, vj p4, .second, vj p5, .second, vj q0_, .second, vj q1_, .second, vj q2_, .second, vu, vu, vu, vu, vu, vu, vu, vu] [xj q3_]) from by rw [as16]) ?_
    show own_S p e below s₁ (mkF m 28 #[vj p0, .second, vj p1, .second, vj p2, .second, vj p3, .second, vj p4, .second, vj p5, .second, vj q0_, .second, vj q1_, .second, vj q2_, .second, vu, vu, vu, vu, vu, vu, vu, vu] [xj q3_]) _
    refine XS.lstore X0.here hx rfl (hb hby at_28) rfl (l' := #[vj p0, .second, vj p1, .second, vj p2, .second, vj p3, .second, vj p4, .second, vj p5, .second, vj q0_, .second, vj q1_, .second, vj q2_, .second, vj q3_, .second, vu, vu, vu, vu, vu, vu]) rfl ?_
    show own_S p e below s₁ (mkF m 30 #[vj p0, .second, vj p1, .second, vj p2, .second, vj p3, .second, vj p4, .second, vj p5, .second, vj q0_, .second, vj q1_, .second, vj q2_, .second, vj q3_, .second, vu, vu, vu, vu, vu, vu] []) _
    refine XS.lload X0.here hx rfl (hb hby at_30) rfl ?_
    show own_S p e below s₁ (mkF m 32 #[vj p0, .second, vj p1, .second, vj p2, .second, vj p3, .second, vj p4, .second, vj p5, .second, vj q0_, .second, vj q1_, .second, vj q2_, .second, vj q3_, .second, vu, vu, vu, vu, vu, vu] [xj p4]) _
    refine X0.ldc2J hx hown (mvT hZ (ww hw 0 rfl)) (g := (mkF m 32 #[vj p0, .second, vj p1, .second, vj p2, .second, vj p3, .second, vj p4, .second, vj p5, .second, vj q0_, .second, vj q1_, .second, vj q2_, .second, vj q3_, .second, vu, vu, vu, vu, vu, vu] [xj p4])) rfl (hb hby at_32) ?_
    show own_S p e below s₁ (mkF m 35 #[vj p0, .second, vj p1, .second, vj p2, .second, vj p3, .second, vj p4, .second, vj p5, .second, vj q0_, .second, vj q1_, .second, vj q2_, .second, vj q3_, .second, vu, vu, vu, vu, vu, vu] [xj (9223372036854775807 : Int64), xj p4]) _
    refine XS.land X0.here hx rfl (hb hby at_35) rfl ?_
    show own_S p e below s₁ (mkF m 36 #[vj p0, .second, vj p1, .second, vj p2, .second, vj p3, .second, vj p4, .second, vj p5, .second, vj q0_, .second, vj q1_, .second, vj q2_, .second, vj q3_, .second, vu, vu, vu, vu, vu, vu] [xj (p4 &&& (9223372036854775807 : Int64))]) _
    refine castTop (show (mkF m 36 #[vj p0, .second, vj p1, .second, vj p2, .second, vj p3, .second, vj p4, .second, vj p5, .second, vj q0_, .second, vj q1_, .second, vj q2_, .second, vj q3_, .second, vu, vu, vu, vu, vu, vu] [xj (p4 &&& (9223372036854775807 : Int64))]) = (mkF m 36 #[vj p0, .second, vj p1, .second, vj p2, .second, vj p3, .second, vj p4, .second, vj p5, .second, vj q0_, .second, vj q1_, .second, vj q2_, .second, vj q3_, .second, vu, vu, vu, vu, vu, vu] [xj q4_]) from by rw [as17]) ?_
    show own_S p e below s₁ (mkF m 36 #[vj p0, .second, vj p1, .second, vj p2, .second, vj p3, .second, vj p4, .second, vj p5, .second, vj q0_, .second, vj q1_, .second, vj q2_, .second, vj q3_, .second, vu, vu, vu, vu, vu, vu] [xj q4_]) _
    refine XS.lstore X0.here hx rfl (hb hby at_36) rfl (l' := #[vj p0, .second, vj p1, .second, vj p2, .second, vj p3, .second, vj p4, .second, vj p5, .second, vj q0_, .second, vj q1_, .second, vj q2_, .second, vj q3_, .second, vj q4_, .second, vu, vu, vu, vu]) rfl ?_
    show own_S p e below s₁ (mkF m 38 #[vj p0, .second, vj p1, .second, vj p2, .second, vj p3, .second, vj p4, .second, vj p5, .second, vj q0_, .second, vj q1_, .second, vj q2_, .second, vj q3_, .second, vj q4_, .second, vu, vu, vu, vu] []) _
    refine XS.lload X0.here hx rfl (hb hby at_38) rfl ?_
    show own_S p e below s₁ (mkF m 40 #[vj p0, .second, vj p1, .second, vj p2, .second, vj p3, .second, vj p4, .second, vj p5, .second, vj q0_, .second, vj q1_, .second, vj q2_, .second, vj q3_, .second, vj q4_, .second, vu, vu, vu, vu] [xj p5]) _
    refine X0.ldc2J hx hown (mvT hZ (ww hw 0 rfl)) (g := (mkF m 40 #[vj p0, .second, vj p1, .second, vj p2, .second, vj p3, .second, vj p4, .second, vj p5, .second, vj q0_, .second, vj q1_, .second, vj q2_, .second, vj q3_, .second, vj q4_, .second, vu, vu, vu, vu] [xj p5])) rfl (hb hby at_40) ?_
    show own_S p e below s₁ (mkF m 43 #[vj p0, .second, vj p1, .second, vj p2, .second, vj p3, .second, vj p4, .second, vj p5, .second, vj q0_, .second, vj q1_, .second, vj q2_, .second, vj q3_, .second, vj q4_, .second, vu, vu, vu, vu] [xj (9223372036854775807 : Int64), xj p5]) _
    refine XS.land X0.here hx rfl (hb hby at_43) rfl ?_
    show own_S p e below s₁ (mkF m 44 #[vj p0, .second, vj p1, .second, vj p2, .second, vj p3, .second, vj p4, .second, vj p5, .second, vj q0_, .second, vj q1_, .second, vj q2_, .second, vj q3_, .second, vj q4_, .second, vu, vu, vu, vu] [xj (p5 &&& (9223372036854775807 : Int64))]) _
    refine castTop (show (mkF m 44 #[vj p0, .second, vj p1, .second, vj p2, .second, vj p3, .second, vj p4, .second, vj p5, .second, vj q0_, .second, vj q1_, .second, vj q2_, .second, vj q3_, .second, vj q4_, .second, vu, vu, vu, vu] [xj (p5 &&& (9223372036854775807 : Int64))]) = (mkF m 44 #[vj p0, .second, vj p1, .second, vj p2, .second, vj p3, .second, vj p4, .second, vj p5, .second, vj q0_, .second, vj q1_, .second, vj q2_, .second, vj q3_, .second, vj q4_, .second, vu, vu, vu, vu] [xj q5_]) from by rw [as18]) ?_
    show own_S p e below s₁ (mkF m 44 #[vj p0, .second, vj p1, .second, vj p2, .second, vj p3, .second, vj p4, .second, vj p5, .second, vj q0_, .second, vj q1_, .second, vj q2_, .second, vj q3_, .second, vj q4_, .second, vu, vu, vu, vu] [xj q5_]) _
    refine XS.lstore X0.here hx rfl (hb hby at_44) rfl (l' := #[vj p0, .second, vj p1, .second, vj p2, .second, vj p3, .second, vj p4, .second, vj p5, .second, vj q0_, .second, vj q1_, .second, vj q2_, .second, vj q3_, .second, vj q4_, .second, vj q5_, .second, vu, vu]) rfl ?_
    show own_S p e below s₁ (mkF m 46 #[vj p0, .second, vj p1, .second, vj p2, .second, vj p3, .second, vj p4, .second, vj p5, .second, vj q0_, .second, vj q1_, .second, vj q2_, .second, vj q3_, .second, vj q4_, .second, vj q5_, .second, vu, vu] []) _
    refine st1 _ ?_
    show own_S p e below T1 (mkF m 49 #[vj p0, .second, vj p1, .second, vj p2, .second, vj p3, .second, vj p4, .second, vj p5, .second, vj q0_, .second, vj q1_, .second, vj q2_, .second, vj q3_, .second, vj q4_, .second, vj q5_, .second, vu, vu] [xr b1]) _
    refine XS.dup X1.here hx rfl (hb hby at_49) rfl rfl ?_
    show own_S p e below T1 (mkF m 50 #[vj p0, .second, vj p1, .second, vj p2, .second, vj p3, .second, vj p4, .second, vj p5, .second, vj q0_, .second, vj q1_, .second, vj q2_, .second, vj q3_, .second, vj q4_, .second, vj q5_, .second, vu, vu] [xr b1, xr b1]) _
    refine st2.trans ?_
    show own_S p e below T2 (mkF m 53 #[vj p0, .second, vj p1, .second, vj p2, .second, vj p3, .second, vj p4, .second, vj p5, .second, vj q0_, .second, vj q1_, .second, vj q2_, .second, vj q3_, .second, vj q4_, .second, vj q5_, .second, vu, vu] [xr b1]) _
    refine XS.astore X2.here hx rfl (hb hby at_53) rfl rfl (l' := #[vj p0, .second, vj p1, .second, vj p2, .second, vj p3, .second, vj p4, .second, vj p5, .second, vj q0_, .second, vj q1_, .second, vj q2_, .second, vj q3_, .second, vj q4_, .second, vj q5_, .second, vr b1, vu]) rfl ?_
    show own_S p e below T2 (mkF m 55 #[vj p0, .second, vj p1, .second, vj p2, .second, vj p3, .second, vj p4, .second, vj p5, .second, vj q0_, .second, vj q1_, .second, vj q2_, .second, vj q3_, .second, vj q4_, .second, vj q5_, .second, vr b1, vu] []) _
    refine XS.aload X2.here hx rfl (hb hby at_55) rfl rfl ?_
    show own_S p e below T2 (mkF m 57 #[vj p0, .second, vj p1, .second, vj p2, .second, vj p3, .second, vj p4, .second, vj p5, .second, vj q0_, .second, vj q1_, .second, vj q2_, .second, vj q3_, .second, vj q4_, .second, vj q5_, .second, vr b1, vu] [xr b1]) _
    refine st3 _ ?_
    show own_S p e below T3 (mkF m 60 #[vj p0, .second, vj p1, .second, vj p2, .second, vj p3, .second, vj p4, .second, vj p5, .second, vj q0_, .second, vj q1_, .second, vj q2_, .second, vj q3_, .second, vj q4_, .second, vj q5_, .second, vr b1, vu] [xr u1, xr b1]) _
    refine XS.lload X3.here hx rfl (hb hby at_60) rfl ?_
    show own_S p e below T3 (mkF m 62 #[vj p0, .second, vj p1, .second, vj p2, .second, vj p3, .second, vj p4, .second, vj p5, .second, vj q0_, .second, vj q1_, .second, vj q2_, .second, vj q3_, .second, vj q4_, .second, vj q5_, .second, vr b1, vu] [xj q0_, xr u1, xr b1]) _
    refine st4.trans ?_
    show own_S p e below T4 (mkF m 65 #[vj p0, .second, vj p1, .second, vj p2, .second, vj p3, .second, vj p4, .second, vj p5, .second, vj q0_, .second, vj q1_, .second, vj q2_, .second, vj q3_, .second, vj q4_, .second, vj q5_, .second, vr b1, vu] []) _
    refine XS.aload X4.here hx rfl (hb hby at_65) rfl rfl ?_
    show own_S p e below T4 (mkF m 67 #[vj p0, .second, vj p1, .second, vj p2, .second, vj p3, .second, vj p4, .second, vj p5, .second, vj q0_, .second, vj q1_, .second, vj q2_, .second, vj q3_, .second, vj q4_, .second, vj q5_, .second, vr b1, vu] [xr b1]) _
    refine st5 _ ?_
    show own_S p e below T5 (mkF m 70 #[vj p0, .second, vj p1, .second, vj p2, .second, vj p3, .second, vj p4, .second, vj p5, .second, vj q0_, .second, vj q1_, .second, vj q2_, .second, vj q3_, .second, vj q4_, .second, vj q5_, .second, vr b1, vu] [xr u2, xr b1]) _
    refine XS.lload X5.here hx rfl (hb hby at_70) rfl ?_
    show own_S p e below T5 (mkF m 72 #[vj p0, .second, vj p1, .second, vj p2, .second, vj p3, .second, vj p4, .second, vj p5, .second, vj q0_, .second, vj q1_, .second, vj q2_, .second, vj q3_, .second, vj q4_, .second, vj q5_, .second, vr b1, vu] [xj q1_, xr u2, xr b1]) _
    refine st6.trans ?_
    show own_S p e below T6 (mkF m 75 #[vj p0, .second, vj p1, .second, vj p2, .second, vj p3, .second, vj p4, .second, vj p5, .second, vj q0_, .second, vj q1_, .second, vj q2_, .second, vj q3_, .second, vj q4_, .second, vj q5_, .second, vr b1, vu] []) _
    refine XS.aload X6.here hx rfl (hb hby at_75) rfl rfl ?_
    show own_S p e below T6 (mkF m 77 #[vj p0, .second, vj p1, .second, vj p2, .second, vj p3, .second, vj p4, .second, vj p5, .second, vj q0_, .second, vj q1_, .second, vj q2_, .second, vj q3_, .second, vj q4_, .second, vj q5_, .second, vr b1, vu] [xr b1]) _
    refine st7 _ ?_
    show own_S p e below T7 (mkF m 80 #[vj p0, .second, vj p1, .second, vj p2, .second, vj p3, .second, vj p4, .second, vj p5, .second, vj q0_, .second, vj q1_, .second, vj q2_, .second, vj q3_, .second, vj q4_, .second, vj q5_, .second, vr b1, vu] [xr u3, xr b1]) _
    refine XS.lload X7.here hx rfl (hb hby at_80) rfl ?_
    show own_S p e below T7 (mkF m 82 #[vj p0, .second, vj p1, .second, vj p2, .second, vj p3, .second, vj p4, .second, vj p5, .second, vj q0_, .second, vj q1_, .second, vj q2_, .second, vj q3_, .second, vj q4_, .second, vj q5_, .second, vr b1, vu] [xj q2_, xr u3, xr b1]) _
    refine st8.trans ?_
    show own_S p e below T8 (mkF m 85 #[vj p0, .second, vj p1, .second, vj p2, .second, vj p3, .second, vj p4, .second, vj p5, .second, vj q0_, .second, vj q1_, .second, vj q2_, .second, vj q3_, .second, vj q4_, .second, vj q5_, .second, vr b1, vu] []) _
    refine XS.aload X8.here hx rfl (hb hby at_85) rfl rfl ?_
    show own_S p e below T8 (mkF m 87 #[vj p0, .second, vj p1, .second, vj p2, .second, vj p3, .second, vj p4, .second, vj p5, .second, vj q0_, .second, vj q1_, .second, vj q2_, .second, vj q3_, .second, vj q4_, .second, vj q5_, .second, vr b1, vu] [xr b1]) _
    refine st9 _ ?_
    show own_S p e below T9 (mkF m 90 #[vj p0, .second, vj p1, .second, vj p2, .second, vj p3, .second, vj p4, .second, vj p5, .second, vj q0_, .second, vj q1_, .second, vj q2_, .second, vj q3_, .second, vj q4_, .second, vj q5_, .second, vr b1, vu] [xr u4, xr b1]) _
    refine XS.lload X9.here hx rfl (hb hby at_90) rfl ?_
    show own_S p e below T9 (mkF m 92 #[vj p0, .second, vj p1, .second, vj p2, .second, vj p3, .second, vj p4, .second, vj p5, .second, vj q0_, .second, vj q1_, .second, vj q2_, .second, vj q3_, .second, vj q4_, .second, vj q5_, .second, vr b1, vu] [xj q3_, xr u4, xr b1]) _
    refine st10.trans ?_
    show own_S p e below T10 (mkF m 95 #[vj p0, .second, vj p1, .second, vj p2, .second, vj p3, .second, vj p4, .second, vj p5, .second, vj q0_, .second, vj q1_, .second, vj q2_, .second, vj q3_, .second, vj q4_, .second, vj q5_, .second, vr b1, vu] []) _
    refine XS.aload X10.here hx rfl (hb hby at_95) rfl rfl ?_
    show own_S p e below T10 (mkF m 97 #[vj p0, .second, vj p1, .second, vj p2, .second, vj p3, .second, vj p4, .second, vj p5, .second, vj q0_, .second, vj q1_, .second, vj q2_, .second, vj q3_, .second, vj q4_, .second, vj q5_, .second, vr b1, vu] [xr b1]) _
    refine st11 _ ?_
    show own_S p e below T11 (mkF m 100 #[vj p0, .second, vj p1, .second, vj p2, .second, vj p3, .second, vj p4, .second, vj p5, .second, vj q0_, .second, vj q1_, .second, vj q2_, .second, vj q3_, .second, vj q4_, .second, vj q5_, .second, vr b1, vu] [xr u5, xr b1]) _
    refine XS.lload X11.here hx rfl (hb hby at_100) rfl ?_
    show own_S p e below T11 (mkF m 102 #[vj p0, .second, vj p1, .second, vj p2, .second, vj p3, .second, vj p4, .second, vj p5, .second, vj q0_, .second, vj q1_, .second, vj q2_, .second, vj q3_, .second, vj q4_, .second, vj q5_, .second, vr b1, vu] [xj q4_, xr u5, xr b1]) _
    refine st12.trans ?_
    show own_S p e below T12 (mkF m 105 #[vj p0, .second, vj p1, .second, vj p2, .second, vj p3, .second, vj p4, .second, vj p5, .second, vj q0_, .second, vj q1_, .second, vj q2_, .second, vj q3_, .second, vj q4_, .second, vj q5_, .second, vr b1, vu] []) _
    refine XS.aload X12.here hx rfl (hb hby at_105) rfl rfl ?_
    show own_S p e below T12 (mkF m 107 #[vj p0, .second, vj p1, .second, vj p2, .second, vj p3, .second, vj p4, .second, vj p5, .second, vj q0_, .second, vj q1_, .second, vj q2_, .second, vj q3_, .second, vj q4_, .second, vj q5_, .second, vr b1, vu] [xr b1]) _
    refine st13 _ ?_
    show own_S p e below T13 (mkF m 110 #[vj p0, .second, vj p1, .second, vj p2, .second, vj p3, .second, vj p4, .second, vj p5, .second, vj q0_, .second, vj q1_, .second, vj q2_, .second, vj q3_, .second, vj q4_, .second, vj q5_, .second, vr b1, vu] [xr u6, xr b1]) _
    refine XS.lload X13.here hx rfl (hb hby at_110) rfl ?_
    show own_S p e below T13 (mkF m 112 #[vj p0, .second, vj p1, .second, vj p2, .second, vj p3, .second, vj p4, .second, vj p5, .second, vj q0_, .second, vj q1_, .second, vj q2_, .second, vj q3_, .second, vj q4_, .second, vj q5_, .second, vr b1, vu] [xj q5_, xr u6, xr b1]) _
    refine st14.trans ?_
    show own_S p e below T14 (mkF m 115 #[vj p0, .second, vj p1, .second, vj p2, .second, vj p3, .second, vj p4, .second, vj p5, .second, vj q0_, .second, vj q1_, .second, vj q2_, .second, vj q3_, .second, vj q4_, .second, vj q5_, .second, vr b1, vu] []) _
    refine XS.lload X14.here hx rfl (hb hby at_115) rfl ?_
    show own_S p e below T14 (mkF m 117 #[vj p0, .second, vj p1, .second, vj p2, .second, vj p3, .second, vj p4, .second, vj p5, .second, vj q0_, .second, vj q1_, .second, vj q2_, .second, vj q3_, .second, vj q4_, .second, vj q5_, .second, vr b1, vu] [xj q0_]) _
    refine XS.lconst X14.here hx rfl (hb hby at_117) ?_
    show own_S p e below T14 (mkF m 118 #[vj p0, .second, vj p1, .second, vj p2, .second, vj p3, .second, vj p4, .second, vj p5, .second, vj q0_, .second, vj q1_, .second, vj q2_, .second, vj q3_, .second, vj q4_, .second, vj q5_, .second, vr b1, vu] [xj (0 : Int64), xj q0_]) _
    refine XS.lcmp X14.here hx rfl (hb hby at_118) rfl ?_
    show own_S p e below T14 (mkF m 119 #[vj p0, .second, vj p1, .second, vj p2, .second, vj p3, .second, vj p4, .second, vj p5, .second, vj q0_, .second, vj q1_, .second, vj q2_, .second, vj q3_, .second, vj q4_, .second, vj q5_, .second, vr b1, vu] [xi (lcmpW q0_ (0 : Int64))]) _
    show own_S p e below T14 (mkF m 119 #[vj p0, .second, vj p1, .second, vj p2, .second, vj p3, .second, vj p4, .second, vj p5, .second, vj q0_, .second, vj q1_, .second, vj q2_, .second, vj q3_, .second, vj q4_, .second, vj q5_, .second, vr b1, vu] [xi (lcmpW q0_ (0 : Int64))]) _
    refine XS.ifNo X14.here hx rfl (hb hby at_119) rfl as19 ?_
    show own_S p e below T14 (mkF m 122 #[vj p0, .second, vj p1, .second, vj p2, .second, vj p3, .second, vj p4, .second, vj p5, .second, vj q0_, .second, vj q1_, .second, vj q2_, .second, vj q3_, .second, vj q4_, .second, vj q5_, .second, vr b1, vu] []) _
    refine XS.lload X14.here hx rfl (hb hby at_122) rfl ?_
    show own_S p e below T14 (mkF m 124 #[vj p0, .second, vj p1, .second, vj p2, .second, vj p3, .second, vj p4, .second, vj p5, .second, vj q0_, .second, vj q1_, .second, vj q2_, .second, vj q3_, .second, vj q4_, .second, vj q5_, .second, vr b1, vu] [xj q1_]) _
    refine XS.lconst X14.here hx rfl (hb hby at_124) ?_
    show own_S p e below T14 (mkF m 125 #[vj p0, .second, vj p1, .second, vj p2, .second, vj p3, .second, vj p4, .second, vj p5, .second, vj q0_, .second, vj q1_, .second, vj q2_, .second, vj q3_, .second, vj q4_, .second, vj q5_, .second, vr b1, vu] [xj (0 : Int64), xj q1_]) _
    refine XS.lcmp X14.here hx rfl (hb hby at_125) rfl ?_
    show own_S p e below T14 (mkF m 126 #[vj p0, .second, vj p1, .second, vj p2, .second, vj p3, .second, vj p4, .second, vj p5, .second, vj q0_, .second, vj q1_, .second, vj q2_, .second, vj q3_, .second, vj q4_, .second, vj q5_, .second, vr b1, vu] [xi (lcmpW q1_ (0 : Int64))]) _
    show own_S p e below T14 (mkF m 126 #[vj p0, .second, vj p1, .second, vj p2, .second, vj p3, .second, vj p4, .second, vj p5, .second, vj q0_, .second, vj q1_, .second, vj q2_, .second, vj q3_, .second, vj q4_, .second, vj q5_, .second, vr b1, vu] [xi (lcmpW q1_ (0 : Int64))]) _
    refine XS.ifNo X14.here hx rfl (hb hby at_126) rfl as23 ?_
    show own_S p e below T14 (mkF m 129 #[vj p0, .second, vj p1, .second, vj p2, .second, vj p3, .second, vj p4, .second, vj p5, .second, vj q0_, .second, vj q1_, .second, vj q2_, .second, vj q3_, .second, vj q4_, .second, vj q5_, .second, vr b1, vu] []) _
    refine XS.lload X14.here hx rfl (hb hby at_129) rfl ?_
    show own_S p e below T14 (mkF m 131 #[vj p0, .second, vj p1, .second, vj p2, .second, vj p3, .second, vj p4, .second, vj p5, .second, vj q0_, .second, vj q1_, .second, vj q2_, .second, vj q3_, .second, vj q4_, .second, vj q5_, .second, vr b1, vu] [xj q2_]) _
    refine XS.lconst X14.here hx rfl (hb hby at_131) ?_
    show own_S p e below T14 (mkF m 132 #[vj p0, .second, vj p1, .second, vj p2, .second, vj p3, .second, vj p4, .second, vj p5, .second, vj q0_, .second, vj q1_, .second, vj q2_, .second, vj q3_, .second, vj q4_, .second, vj q5_, .second, vr b1, vu] [xj (0 : Int64), xj q2_]) _
    refine XS.lcmp X14.here hx rfl (hb hby at_132) rfl ?_
    show own_S p e below T14 (mkF m 133 #[vj p0, .second, vj p1, .second, vj p2, .second, vj p3, .second, vj p4, .second, vj p5, .second, vj q0_, .second, vj q1_, .second, vj q2_, .second, vj q3_, .second, vj q4_, .second, vj q5_, .second, vr b1, vu] [xi (lcmpW q2_ (0 : Int64))]) _
    show own_S p e below T14 (mkF m 133 #[vj p0, .second, vj p1, .second, vj p2, .second, vj p3, .second, vj p4, .second, vj p5, .second, vj q0_, .second, vj q1_, .second, vj q2_, .second, vj q3_, .second, vj q4_, .second, vj q5_, .second, vr b1, vu] [xi (lcmpW q2_ (0 : Int64))]) _
    refine XS.ifNo X14.here hx rfl (hb hby at_133) rfl as27 ?_
    show own_S p e below T14 (mkF m 136 #[vj p0, .second, vj p1, .second, vj p2, .second, vj p3, .second, vj p4, .second, vj p5, .second, vj q0_, .second, vj q1_, .second, vj q2_, .second, vj q3_, .second, vj q4_, .second, vj q5_, .second, vr b1, vu] []) _
    refine XS.lload X14.here hx rfl (hb hby at_136) rfl ?_
    show own_S p e below T14 (mkF m 138 #[vj p0, .second, vj p1, .second, vj p2, .second, vj p3, .second, vj p4, .second, vj p5, .second, vj q0_, .second, vj q1_, .second, vj q2_, .second, vj q3_, .second, vj q4_, .second, vj q5_, .second, vr b1, vu] [xj q3_]) _
    refine XS.lconst X14.here hx rfl (hb hby at_138) ?_
    show own_S p e below T14 (mkF m 139 #[vj p0, .second, vj p1, .second, vj p2, .second, vj p3, .second, vj p4, .second, vj p5, .second, vj q0_, .second, vj q1_, .second, vj q2_, .second, vj q3_, .second, vj q4_, .second, vj q5_, .second, vr b1, vu] [xj (0 : Int64), xj q3_]) _
    refine XS.lcmp X14.here hx rfl (hb hby at_139) rfl ?_
    show own_S p e below T14 (mkF m 140 #[vj p0, .second, vj p1, .second, vj p2, .second, vj p3, .second, vj p4, .second, vj p5, .second, vj q0_, .second, vj q1_, .second, vj q2_, .second, vj q3_, .second, vj q4_, .second, vj q5_, .second, vr b1, vu] [xi (lcmpW q3_ (0 : Int64))]) _
    show own_S p e below T14 (mkF m 140 #[vj p0, .second, vj p1, .second, vj p2, .second, vj p3, .second, vj p4, .second, vj p5, .second, vj q0_, .second, vj q1_, .second, vj q2_, .second, vj q3_, .second, vj q4_, .second, vj q5_, .second, vr b1, vu] [xi (lcmpW q3_ (0 : Int64))]) _
    refine XS.ifNo X14.here hx rfl (hb hby at_140) rfl as31 ?_
    show own_S p e below T14 (mkF m 143 #[vj p0, .second, vj p1, .second, vj p2, .second, vj p3, .second, vj p4, .second, vj p5, .second, vj q0_, .second, vj q1_, .second, vj q2_, .second, vj q3_, .second, vj q4_, .second, vj q5_, .second, vr b1, vu] []) _
    refine XS.lload X14.here hx rfl (hb hby at_143) rfl ?_
    show own_S p e below T14 (mkF m 145 #[vj p0, .second, vj p1, .second, vj p2, .second, vj p3, .second, vj p4, .second, vj p5, .second, vj q0_, .second, vj q1_, .second, vj q2_, .second, vj q3_, .second, vj q4_, .second, vj q5_, .second, vr b1, vu] [xj q4_]) _
    refine XS.lconst X14.here hx rfl (hb hby at_145) ?_
    show own_S p e below T14 (mkF m 146 #[vj p0, .second, vj p1, .second, vj p2, .second, vj p3, .second, vj p4, .second, vj p5, .second, vj q0_, .second, vj q1_, .second, vj q2_, .second, vj q3_, .second, vj q4_, .second, vj q5_, .second, vr b1, vu] [xj (0 : Int64), xj q4_]) _
    refine XS.lcmp X14.here hx rfl (hb hby at_146) rfl ?_
    show own_S p e below T14 (mkF m 147 #[vj p0, .second, vj p1, .second, vj p2, .second, vj p3, .second, vj p4, .second, vj p5, .second, vj q0_, .second, vj q1_, .second, vj q2_, .second, vj q3_, .second, vj q4_, .second, vj q5_, .second, vr b1, vu] [xi (lcmpW q4_ (0 : Int64))]) _
    show own_S p e below T14 (mkF m 147 #[vj p0, .second, vj p1, .second, vj p2, .second, vj p3, .second, vj p4, .second, vj p5, .second, vj q0_, .second, vj q1_, .second, vj q2_, .second, vj q3_, .second, vj q4_, .second, vj q5_, .second, vr b1, vu] [xi (lcmpW q4_ (0 : Int64))]) _
    refine XS.ifNo X14.here hx rfl (hb hby at_147) rfl as35 ?_
    show own_S p e below T14 (mkF m 150 #[vj p0, .second, vj p1, .second, vj p2, .second, vj p3, .second, vj p4, .second, vj p5, .second, vj q0_, .second, vj q1_, .second, vj q2_, .second, vj q3_, .second, vj q4_, .second, vj q5_, .second, vr b1, vu] []) _
    refine XS.lload X14.here hx rfl (hb hby at_150) rfl ?_
    show own_S p e below T14 (mkF m 152 #[vj p0, .second, vj p1, .second, vj p2, .second, vj p3, .second, vj p4, .second, vj p5, .second, vj q0_, .second, vj q1_, .second, vj q2_, .second, vj q3_, .second, vj q4_, .second, vj q5_, .second, vr b1, vu] [xj q5_]) _
    refine XS.lconst X14.here hx rfl (hb hby at_152) ?_
    show own_S p e below T14 (mkF m 153 #[vj p0, .second, vj p1, .second, vj p2, .second, vj p3, .second, vj p4, .second, vj p5, .second, vj q0_, .second, vj q1_, .second, vj q2_, .second, vj q3_, .second, vj q4_, .second, vj q5_, .second, vr b1, vu] [xj (0 : Int64), xj q5_]) _
    refine XS.lcmp X14.here hx rfl (hb hby at_153) rfl ?_
    show own_S p e below T14 (mkF m 154 #[vj p0, .second, vj p1, .second, vj p2, .second, vj p3, .second, vj p4, .second, vj p5, .second, vj q0_, .second, vj q1_, .second, vj q2_, .second, vj q3_, .second, vj q4_, .second, vj q5_, .second, vr b1, vu] [xi (lcmpW q5_ (0 : Int64))]) _
    show own_S p e below T14 (mkF m 154 #[vj p0, .second, vj p1, .second, vj p2, .second, vj p3, .second, vj p4, .second, vj p5, .second, vj q0_, .second, vj q1_, .second, vj q2_, .second, vj q3_, .second, vj q4_, .second, vj q5_, .second, vr b1, vu] [xi (lcmpW q5_ (0 : Int64))]) _
    refine XS.ifYes X14.here hx rfl (pc0 := 154) (pc' := 161) rfl (hb hby at_154) rfl as41 (by decide) (by decide) ?_
    show own_S p e below T14 (mkF m 161 #[vj p0, .second, vj p1, .second, vj p2, .second, vj p3, .second, vj p4, .second, vj p5, .second, vj q0_, .second, vj q1_, .second, vj q2_, .second, vj q3_, .second, vj q4_, .second, vj q5_, .second, vr b1, vu] []) _
    refine XS.iconst X14.here hx rfl (hb hby at_161) ?_
    show own_S p e below T14 (mkF m 162 #[vj p0, .second, vj p1, .second, vj p2, .second, vj p3, .second, vj p4, .second, vj p5, .second, vj q0_, .second, vj q1_, .second, vj q2_, .second, vj q3_, .second, vj q4_, .second, vj q5_, .second, vr b1, vu] [xi (0 : Int32)]) _
    refine XS.istore X14.here hx rfl (hb hby at_162) rfl (l' := #[vj p0, .second, vj p1, .second, vj p2, .second, vj p3, .second, vj p4, .second, vj p5, .second, vj q0_, .second, vj q1_, .second, vj q2_, .second, vj q3_, .second, vj q4_, .second, vj q5_, .second, vr b1, vi (0 : Int32)]) rfl ?_
    show own_S p e below T14 (mkF m 164 #[vj p0, .second, vj p1, .second, vj p2, .second, vj p3, .second, vj p4, .second, vj p5, .second, vj q0_, .second, vj q1_, .second, vj q2_, .second, vj q3_, .second, vj q4_, .second, vj q5_, .second, vr b1, vi (0 : Int32)] []) _
    refine XS.aload X14.here hx rfl (hb hby at_164) rfl rfl ?_
    show own_S p e below T14 (mkF m 166 #[vj p0, .second, vj p1, .second, vj p2, .second, vj p3, .second, vj p4, .second, vj p5, .second, vj q0_, .second, vj q1_, .second, vj q2_, .second, vj q3_, .second, vj q4_, .second, vj q5_, .second, vr b1, vi (0 : Int32)] [xr b1]) _
    refine st15.trans ?_
    show own_S p e below T15 (mkF m 169 #[vj p0, .second, vj p1, .second, vj p2, .second, vj p3, .second, vj p4, .second, vj p5, .second, vj q0_, .second, vj q1_, .second, vj q2_, .second, vj q3_, .second, vj q4_, .second, vj q5_, .second, vr b1, vi (0 : Int32)] [xi (0 : Int32)]) _
    refine XS.iload X15.here hx rfl (hb hby at_169) rfl ?_
    show own_S p e below T15 (mkF m 171 #[vj p0, .second, vj p1, .second, vj p2, .second, vj p3, .second, vj p4, .second, vj p5, .second, vj q0_, .second, vj q1_, .second, vj q2_, .second, vj q3_, .second, vj q4_, .second, vj q5_, .second, vr b1, vi (0 : Int32)] [xi (0 : Int32), xi (0 : Int32)]) _
    refine XS.icmpNo X15.here hx rfl (hb hby at_171) rfl (by decide) ?_
    show own_S p e below T15 (mkF m 174 #[vj p0, .second, vj p1, .second, vj p2, .second, vj p3, .second, vj p4, .second, vj p5, .second, vj q0_, .second, vj q1_, .second, vj q2_, .second, vj q3_, .second, vj q4_, .second, vj q5_, .second, vr b1, vi (0 : Int32)] []) _
    refine XS.iconst X15.here hx rfl (hb hby at_174) ?_
    show own_S p e below T15 (mkF m 175 #[vj p0, .second, vj p1, .second, vj p2, .second, vj p3, .second, vj p4, .second, vj p5, .second, vj q0_, .second, vj q1_, .second, vj q2_, .second, vj q3_, .second, vj q4_, .second, vj q5_, .second, vr b1, vi (0 : Int32)] [xi (1 : Int32)]) _
    refine XS.goto X15.here hx rfl (pc0 := 175) (pc' := 179) rfl (hb hby at_175) (by decide) (by decide) ?_
    show own_S p e below T15 (mkF m 179 #[vj p0, .second, vj p1, .second, vj p2, .second, vj p3, .second, vj p4, .second, vj p5, .second, vj q0_, .second, vj q1_, .second, vj q2_, .second, vj q3_, .second, vj q4_, .second, vj q5_, .second, vr b1, vi (0 : Int32)] [xi (1 : Int32)]) _
    exact retN X15 hx (t := .boolean) Bd.returns (by simp) (hb hby at_179) hr
  · exact ⟨rfl, N15⟩
theorem ef_own_l2 (m : MethodId) (u0 u1 u2 u3 u4 u5 u6 : Addr) (p0 : Int64) (p1 : Int64) (p2 : Int64) (p3 : Int64) (p4 : Int64) (p5 : Int64) (q0_ : Int64) (q1_ : Int64) (q2_ : Int64) (q3_ : Int64) (q4_ : Int64) (q5_ : Int64) : entryFrame m #[xj p0, xj p1, xj p2, xj p3, xj p4, xj p5] maxLocals = (mkF m 0 #[vj p0, .second, vj p1, .second, vj p2, .second, vj p3, .second, vj p4, .second, vj p5, .second, vu, vu, vu, vu, vu, vu, vu, vu, vu, vu, vu, vu, vu, vu] []) := by first | (simp [entryFrame, mkF, argsToLocals, Value.category, maxLocals]; done) | rfl
set_option maxRecDepth 65536 in
set_option maxHeartbeats 40000000 in
theorem own_l2 (l : Launch) (Z : State) (a0 : Array Value) (hw : ∀ d ∈ tables_1, d.before a0 Z = true) (u0 u1 u2 u3 u4 u5 u6 : Addr) (G : own_St Z u0 u1 u2 u3 u4 u5 u6) (p0 : Int64) (p1 : Int64) (p2 : Int64) (p3 : Int64) (p4 : Int64) (p5 : Int64) (q0_ : Int64) (q1_ : Int64) (q2_ : Int64) (q3_ : Int64) (q4_ : Int64) (q5_ : Int64) (as13 : (p0 &&& (9223372036854775807 : Int64)) = q0_) (as14 : (p1 &&& (9223372036854775807 : Int64)) = q1_) (as15 : (p2 &&& (9223372036854775807 : Int64)) = q2_) (as16 : (p3 &&& (9223372036854775807 : Int64)) = q3_) (as17 : (p4 &&& (9223372036854775807 : Int64)) = q4_) (as18 : (p5 &&& (9223372036854775807 : Int64)) = q5_) (as19 : ifCond.holds .ne (lcmpW q0_ (0 : Int64)) = false) (as23 : ifCond.holds .ne (lcmpW q1_ (0 : Int64)) = false) (as27 : ifCond.holds .ne (lcmpW q2_ (0 : Int64)) = false) (as31 : ifCond.holds .ne (lcmpW q3_ (0 : Int64)) = false) (as37 : ifCond.holds .ne (lcmpW q4_ (0 : Int64)) = true) (as20 : ifCond.holds .le (lcmpW q0_ (0 : Int64)) = true) (as24 : ifCond.holds .le (lcmpW q1_ (0 : Int64)) = true) (as28 : ifCond.holds .le (lcmpW q2_ (0 : Int64)) = true) (as32 : ifCond.holds .le (lcmpW q3_ (0 : Int64)) = true) (as38 : ifCond.holds .le (lcmpW q4_ (0 : Int64)) = false) (h0 : Heap) (n0 : Nat) (O0 : Old Z n0 h0) : own_Met l Z x code maxLocals ret room_1 #[xj p0, xj p1, xj p2, xj p3, xj p4, xj p5] h0 (own_QL (some (xi (1 : Int32))) n0) := by
  intro ws
  refine MetFree.of_bodySF (plainFor_of_name pn4) hisR ?_
  intro p e s m args below meth c s₁ Bd hml0 hP hK
  obtain ⟨rfl, hZ, hh⟩ := hP
  have hx := Bd.exec
  have hby := Bd.bytes
  have hml : c.maxLocals = 26 := hml0
  have hown : s.vm.findClass "com/example/stackwright/stackwright/engine/ManaPoolIsEmptyPinLaw" = some m.cls := findClass_of_methodNamed Bd.named
  have hnm := (name_of_methodNamed Bd.named Bd.method).1
  have X0 : Stand p l e room_1 s m #[xj p0, xj p1, xj p2, xj p3, xj p4, xj p5] below meth c s₁ [] 0 0 := Stand.of_body Bd
  have e0 : s₁.heap = h0 := by rw [← hh, Bd.state]; rfl
  have N0 := Fr.nil n0
  have pre0 : ∀ t, Steps p.tables e below (s₁.setTop (mkF m 0 #[vj p0, .second, vj p1, .second, vj p2, .second, vj p3, .second, vj p4, .second, vj p5, .second, vu, vu, vu, vu, vu, vu, vu, vu, vu, vu, vu, vu, vu, vu] [])) t → Steps p.tables e below (s₁.setTop (entryFrame m #[xj p0, xj p1, xj p2, xj p3, xj p4, xj p5] maxLocals)) t := fun t st => castTop (ef_own_l2 m u0 u1 u2 u3 u4 u5 u6 p0 p1 p2 p3 p4 p5 q0_ q1_ q2_ q3_ q4_ q5_) st
  obtain ⟨T1, h1, X1, e1, E1, A1, D1, -, st1⟩ := newO X0 hx hZ hown (ww hw 1 rfl) (ww hw 2 rfl) (ww hw 3 rfl) e0 (g := (mkF m 46 #[vj p0, .second, vj p1, .second, vj p2, .second, vj p3, .second, vj p4, .second, vj p5, .second, vj q0_, .second, vj q1_, .second, vj q2_, .second, vj q3_, .second, vj q4_, .second, vj q5_, .second, vu, vu] [])) rfl (hb hby at_46) (by decide) (by decide)
  obtain ⟨b1, g1⟩ : ∃ z, z = h0.size := ⟨_, rfl⟩
  rw [← g1] at A1 D1 st1
  have g_b1 : n0 ≤ b1 := own_fresh O0 g1
  have O1 : Old Z n0 h1 := O0.ext E1
  have F_b1_amounts : Fld Z h1 b1 "com/example/stackwright/stackwright/engine/ManaPool" "amounts" "[J" .null := D1 (Or.inr (ww hw 34 rfl)) (ty := (.array .long)) (by decide)
  obtain ⟨_, _, ⟨T2, L2, k2, n2⟩, -, X2, ⟨Lc2, hQ2, l2, y2, z2⟩, st2⟩ := X1.specialBack hx (y := Y1) rfl hown (mvT hZ (ww hw 4 rfl)) (mvT hZ (ww hw 5 rfl)) (mvT hZ (ww hw 6 rfl)) (by decide) (backOf (W := 1) (own_init l Z a0 hw u0 u1 u2 u3 u4 u5 u6 G b1 h1 n0 O1 A1 F_b1_amounts g_b1 []) hZ (ww hw 6 rfl) (ww hw 3 rfl) (by decide) (by decide)) (g := (mkF m 50 #[vj p0, .second, vj p1, .second, vj p2, .second, vj p3, .second, vj p4, .second, vj p5, .second, vj q0_, .second, vj q1_, .second, vj q2_, .second, vj q3_, .second, vj q4_, .second, vj q5_, .second, vu, vu] [xr b1, xr b1])) rfl (by rw [hml]; rfl) (Steps.refl _) (a := b1) (argsL := []) (rest := [xr b1]) (lenOf pd3 rfl) rfl (by show 2 * 0 + _ ≤ _; exact Nat.le_of_eq rfl) (hb hby at_50) (fun _ _ => ⟨rfl, e1, (by decide : 1 + 2 ≤ _), (by decide : 1 + 12 ≤ _)⟩)
  dsimp only [Pt.U, Pt.locs, Pt.cells, Pt.slots] at X2 l2 y2 z2 st2 hQ2
  subst l2 y2 z2
  obtain ⟨h2, e2⟩ : ∃ z, T2.heap = z := ⟨_, rfl⟩
  rw [e2] at hQ2
  obtain ⟨rfl, Nq2, K2, bb2, kk2, -, Fc2, Vb2, nb2, -, g_bb2⟩ := hQ2
  have N2 := Fr.app N0 Nq2
  have O2 : Old Z n0 h2 := O1.keep K2 (allS g_b1 all0)
  have X_b1_2 := A1.keep K2
  obtain ⟨T3, X3, e3, st3⟩ := getS2 X2 hx hZ hown (host := "") (Or.inl (ww hw 35 rfl)) Via.refl e2 ((own_S_u1 G).ext O2.2) (g := (mkF m 57 #[vj p0, .second, vj p1, .second, vj p2, .second, vj p3, .second, vj p4, .second, vj p5, .second, vj q0_, .second, vj q1_, .second, vj q2_, .second, vj q3_, .second, vj q4_, .second, vj q5_, .second, vr b1, vu] [xr b1])) rfl (hb hby at_57)
  obtain ⟨cq4, kq4, qa4, qb4, qc4⟩ := isOf hZ e3 X_b1_2
  obtain ⟨_, _, ⟨T4, L4, k4, n4⟩, -, X4, ⟨Lc4, hQ4, l4, y4, z4⟩, st4⟩ := X3.virtualBack hx (y := Y5) (z := Y5) hown (mvT hZ (ww hw 36 rfl)) (mvT hZ (ww hw 37 rfl)) (notFace_of_selects (args := #[]) (mvT hZ (ww hw 39 rfl))) (mvT hZ (ww hw 39 rfl)) (mvT hZ (ww hw 38 rfl)) (by decide) (backOf (W := 0) (own_add0 l Z a0 hw u0 u1 u2 u3 u4 u5 u6 G b1 bb2 kk2 (0 : Int64) (0 : Int64) (0 : Int64) (0 : Int64) (0 : Int64) q0_ (own_nn p0 q0_ as13) h2 n0 O2 ⟨X_b1_2, Fc2, Vb2, nb2, g_b1, g_bb2⟩ []) hZ (ww hw 40 rfl) (ww hw 3 rfl) (by decide) (by decide)) qa4 qc4 (g := (mkF m 62 #[vj p0, .second, vj p1, .second, vj p2, .second, vj p3, .second, vj p4, .second, vj p5, .second, vj q0_, .second, vj q1_, .second, vj q2_, .second, vj q3_, .second, vj q4_, .second, vj q5_, .second, vr b1, vu] [xj q0_, xr u1, xr b1])) rfl (by rw [hml]; rfl) (Steps.refl _) (argsL := [xr u1, xj q0_]) (rest := []) (lenOf pd4 rfl) rfl (by show 2 * 0 + _ ≤ _; exact Nat.le_of_eq rfl) (hb hby at_62) (fun _ _ => ⟨rfl, e3, (by decide : 3 + 0 ≤ _), (by decide : 13 + 0 ≤ _)⟩)
  dsimp only [Pt.U, Pt.locs, Pt.cells, Pt.slots] at X4 l4 y4 z4 st4 hQ4
  subst l4 y4 z4
  obtain ⟨h4, e4⟩ : ∃ z, T4.heap = z := ⟨_, rfl⟩
  rw [e4] at hQ4
  obtain ⟨rfl, Nq4, K4, -, -, Vn4, -⟩ := hQ4
  have N4 := Fr.app N2 Nq4
  have O4 : Old Z n0 h4 := O2.keep K4 (allS g_bb2 all0)
  have X_b1_4 := X_b1_2.keep K4
  have F_b1_amounts_4 := Fc2.keep K4 (ninS nb2 nin0)
  obtain ⟨T5, X5, e5, st5⟩ := getS2 X4 hx hZ hown (host := "") (Or.inl (ww hw 54 rfl)) Via.refl e4 ((own_S_u2 G).ext O4.2) (g := (mkF m 67 #[vj p0, .second, vj p1, .second, vj p2, .second, vj p3, .second, vj p4, .second, vj p5, .second, vj q0_, .second, vj q1_, .second, vj q2_, .second, vj q3_, .second, vj q4_, .second, vj q5_, .second, vr b1, vu] [xr b1])) rfl (hb hby at_67)
  obtain ⟨cq6, kq6, qa6, qb6, qc6⟩ := isOf hZ e5 X_b1_4
  obtain ⟨_, _, ⟨T6, L6, k6, n6⟩, -, X6, ⟨Lc6, hQ6, l6, y6, z6⟩, st6⟩ := X5.virtualBack hx (y := Y5) (z := Y5) hown (mvT hZ (ww hw 36 rfl)) (mvT hZ (ww hw 37 rfl)) (notFace_of_selects (args := #[]) (mvT hZ (ww hw 39 rfl))) (mvT hZ (ww hw 39 rfl)) (mvT hZ (ww hw 38 rfl)) (by decide) (backOf (W := 0) (own_add1 l Z a0 hw u0 u1 u2 u3 u4 u5 u6 G b1 bb2 kk2 q0_ (0 : Int64) (0 : Int64) (0 : Int64) (0 : Int64) q1_ (own_nn p1 q1_ as14) h4 n0 O4 ⟨X_b1_4, F_b1_amounts_4, Vn4, nb2, g_b1, g_bb2⟩ []) hZ (ww hw 40 rfl) (ww hw 3 rfl) (by decide) (by decide)) qa6 qc6 (g := (mkF m 72 #[vj p0, .second, vj p1, .second, vj p2, .second, vj p3, .second, vj p4, .second, vj p5, .second, vj q0_, .second, vj q1_, .second, vj q2_, .second, vj q3_, .second, vj q4_, .second, vj q5_, .second, vr b1, vu] [xj q1_, xr u2, xr b1])) rfl (by rw [hml]; rfl) (Steps.refl _) (argsL := [xr u2, xj q1_]) (rest := []) (lenOf pd4 rfl) rfl (by show 2 * 0 + _ ≤ _; exact Nat.le_of_eq rfl) (hb hby at_72) (fun _ _ => ⟨rfl, e5, (by decide : 3 + 0 ≤ _), (by decide : 13 + 0 ≤ _)⟩)
  dsimp only [Pt.U, Pt.locs, Pt.cells, Pt.slots] at X6 l6 y6 z6 st6 hQ6
  subst l6 y6 z6
  obtain ⟨h6, e6⟩ : ∃ z, T6.heap = z := ⟨_, rfl⟩
  rw [e6] at hQ6
  obtain ⟨rfl, Nq6, K6, -, -, Vn6, -⟩ := hQ6
  have N6 := Fr.app N4 Nq6
  have O6 : Old Z n0 h6 := O4.keep K6 (allS g_bb2 all0)
  have X_b1_6 := X_b1_4.keep K6
  have F_b1_amounts_6 := F_b1_amounts_4.keep K6 (ninS nb2 nin0)
  obtain ⟨T7, X7, e7, st7⟩ := getS2 X6 hx hZ hown (host := "") (Or.inl (ww hw 55 rfl)) Via.refl e6 ((own_S_u3 G).ext O6.2) (g := (mkF m 77 #[vj p0, .second, vj p1, .second, vj p2, .second, vj p3, .second, vj p4, .second, vj p5, .second, vj q0_, .second, vj q1_, .second, vj q2_, .second, vj q3_, .second, vj q4_, .second, vj q5_, .second, vr b1, vu] [xr b1])) rfl (hb hby at_77)
  obtain ⟨cq8, kq8, qa8, qb8, qc8⟩ := isOf hZ e7 X_b1_6
  obtain ⟨_, _, ⟨T8, L8, k8, n8⟩, -, X8, ⟨Lc8, hQ8, l8, y8, z8⟩, st8⟩ := X7.virtualBack hx (y := Y5) (z := Y5) hown (mvT hZ (ww hw 36 rfl)) (mvT hZ (ww hw 37 rfl)) (notFace_of_selects (args := #[]) (mvT hZ (ww hw 39 rfl))) (mvT hZ (ww hw 39 rfl)) (mvT hZ (ww hw 38 rfl)) (by decide) (backOf (W := 0) (own_add2 l Z a0 hw u0 u1 u2 u3 u4 u5 u6 G b1 bb2 kk2 q0_ q1_ (0 : Int64) (0 : Int64) (0 : Int64) q2_ (own_nn p2 q2_ as15) h6 n0 O6 ⟨X_b1_6, F_b1_amounts_6, Vn6, nb2, g_b1, g_bb2⟩ []) hZ (ww hw 40 rfl) (ww hw 3 rfl) (by decide) (by decide)) qa8 qc8 (g := (mkF m 82 #[vj p0, .second, vj p1, .second, vj p2, .second, vj p3, .second, vj p4, .second, vj p5, .second, vj q0_, .second, vj q1_, .second, vj q2_, .second, vj q3_, .second, vj q4_, .second, vj q5_, .second, vr b1, vu] [xj q2_, xr u3, xr b1])) rfl (by rw [hml]; rfl) (Steps.refl _) (argsL := [xr u3, xj q2_]) (rest := []) (lenOf pd4 rfl) rfl (by show 2 * 0 + _ ≤ _; exact Nat.le_of_eq rfl) (hb hby at_82) (fun _ _ => ⟨rfl, e7, (by decide : 3 + 0 ≤ _), (by decide : 13 + 0 ≤ _)⟩)
  dsimp only [Pt.U, Pt.locs, Pt.cells, Pt.slots] at X8 l8 y8 z8 st8 hQ8
  subst l8 y8 z8
  obtain ⟨h8, e8⟩ : ∃ z, T8.heap = z := ⟨_, rfl⟩
  rw [e8] at hQ8
  obtain ⟨rfl, Nq8, K8, -, -, Vn8, -⟩ := hQ8
  have N8 := Fr.app N6 Nq8
  have O8 : Old Z n0 h8 := O6.keep K8 (allS g_bb2 all0)
  have X_b1_8 := X_b1_6.keep K8
  have F_b1_amounts_8 := F_b1_amounts_6.keep K8 (ninS nb2 nin0)
  obtain ⟨T9, X9, e9, st9⟩ := getS2 X8 hx hZ hown (host := "") (Or.inl (ww hw 56 rfl)) Via.refl e8 ((own_S_u4 G).ext O8.2) (g := (mkF m 87 #[vj p0, .second, vj p1, .second, vj p2, .second, vj p3, .second, vj p4, .second, vj p5, .second, vj q0_, .second, vj q1_, .second, vj q2_, .second, vj q3_, .second, vj q4_, .second, vj q5_, .second, vr b1, vu] [xr b1])) rfl (hb hby at_87)
  obtain ⟨cq10, kq10, qa10, qb10, qc10⟩ := isOf hZ e9 X_b1_8
  obtain ⟨_, _, ⟨T10, L10, k10, n10⟩, -, X10, ⟨Lc10, hQ10, l10, y10, z10⟩, st10⟩ := X9.virtualBack hx (y := Y5) (z := Y5) hown (mvT hZ (ww hw 36 rfl)) (mvT hZ (ww hw 37 rfl)) (notFace_of_selects (args := #[]) (mvT hZ (ww hw 39 rfl))) (mvT hZ (ww hw 39 rfl)) (mvT hZ (ww hw 38 rfl)) (by decide) (backOf (W := 0) (own_add3 l Z a0 hw u0 u1 u2 u3 u4 u5 u6 G b1 bb2 kk2 q0_ q1_ q2_ (0 : Int64) (0 : Int64) q3_ (own_nn p3 q3_ as16) h8 n0 O8 ⟨X_b1_8, F_b1_amounts_8, Vn8, nb2, g_b1, g_bb2⟩ []) hZ (ww hw 40 rfl) (ww hw 3 rfl) (by decide) (by decide)) qa10 qc10 (g := (mkF m 92 #[vj p0, .second, vj p1, .second, vj p2, .second, vj p3, .second, vj p4, .second, vj p5, .second, vj q0_, .second, vj q1_, .second, vj q2_, .second, vj q3_, .second, vj q4_, .second, vj q5_, .second, vr b1, vu] [xj q3_, xr u4, xr b1])) rfl (by rw [hml]; rfl) (Steps.refl _) (argsL := [xr u4, xj q3_]) (rest := []) (lenOf pd4 rfl) rfl (by show 2 * 0 + _ ≤ _; exact Nat.le_of_eq rfl) (hb hby at_92) (fun _ _ => ⟨rfl, e9, (by decide : 3 + 0 ≤ _), (by decide : 13 + 0 ≤ _)⟩)
  dsimp only [Pt.U, Pt.locs, Pt.cells, Pt.slots] at X10 l10 y10 z10 st10 hQ10
  subst l10 y10 z10
  obtain ⟨h10, e10⟩ : ∃ z, T10.heap = z := ⟨_, rfl⟩
  rw [e10] at hQ10
  obtain ⟨rfl, Nq10, K10, -, -, Vn10, -⟩ := hQ10
  have N10 := Fr.app N8 Nq10
  have O10 : Old Z n0 h10 := O8.keep K10 (allS g_bb2 all0)
  have X_b1_10 := X_b1_8.keep K10
  have F_b1_amounts_10 := F_b1_amounts_8.keep K10 (ninS nb2 nin0)
  obtain ⟨T11, X11, e11, st11⟩ := getS2 X10 hx hZ hown (host := "") (Or.inl (ww hw 57 rfl)) Via.refl e10 ((own_S_u5 G).ext O10.2) (g := (mkF m 97 #[vj p0, .second, vj p1, .second, vj p2, .second, vj p3, .second, vj p4, .second, vj p5, .second, vj q0_, .second, vj q1_, .second, vj q2_, .second, vj q3_, .second, vj q4_, .second, vj q5_, .second, vr b1, vu] [xr b1])) rfl (hb hby at_97)
  obtain ⟨cq12, kq12, qa12, qb12, qc12⟩ := isOf hZ e11 X_b1_10
  obtain ⟨_, _, ⟨T12, L12, k12, n12⟩, -, X12, ⟨Lc12, hQ12, l12, y12, z12⟩, st12⟩ := X11.virtualBack hx (y := Y5) (z := Y5) hown (mvT hZ (ww hw 36 rfl)) (mvT hZ (ww hw 37 rfl)) (notFace_of_selects (args := #[]) (mvT hZ (ww hw 39 rfl))) (mvT hZ (ww hw 39 rfl)) (mvT hZ (ww hw 38 rfl)) (by decide) (backOf (W := 0) (own_add4 l Z a0 hw u0 u1 u2 u3 u4 u5 u6 G b1 bb2 kk2 q0_ q1_ q2_ q3_ (0 : Int64) q4_ (own_nn p4 q4_ as17) h10 n0 O10 ⟨X_b1_10, F_b1_amounts_10, Vn10, nb2, g_b1, g_bb2⟩ []) hZ (ww hw 40 rfl) (ww hw 3 rfl) (by decide) (by decide)) qa12 qc12 (g := (mkF m 102 #[vj p0, .second, vj p1, .second, vj p2, .second, vj p3, .second, vj p4, .second, vj p5, .second, vj q0_, .second, vj q1_, .second, vj q2_, .second, vj q3_, .second, vj q4_, .second, vj q5_, .second, vr b1, vu] [xj q4_, xr u5, xr b1])) rfl (by rw [hml]; rfl) (Steps.refl _) (argsL := [xr u5, xj q4_]) (rest := []) (lenOf pd4 rfl) rfl (by show 2 * 0 + _ ≤ _; exact Nat.le_of_eq rfl) (hb hby at_102) (fun _ _ => ⟨rfl, e11, (by decide : 3 + 0 ≤ _), (by decide : 13 + 0 ≤ _)⟩)
  dsimp only [Pt.U, Pt.locs, Pt.cells, Pt.slots] at X12 l12 y12 z12 st12 hQ12
  subst l12 y12 z12
  obtain ⟨h12, e12⟩ : ∃ z, T12.heap = z := ⟨_, rfl⟩
  rw [e12] at hQ12
  obtain ⟨rfl, Nq12, K12, -, -, Vn12, -⟩ := hQ12
  have N12 := Fr.app N10 Nq12
  have O12 : Old Z n0 h12 := O10.keep K12 (allS g_bb2 all0)
  have X_b1_12 := X_b1_10.keep K12
  have F_b1_amounts_12 := F_b1_amounts_10.keep K12 (ninS nb2 nin0)
  obtain ⟨T13, X13, e13, st13⟩ := getS2 X12 hx hZ hown (host := "") (Or.inl (ww hw 58 rfl)) Via.refl e12 ((own_S_u6 G).ext O12.2) (g := (mkF m 107 #[vj p0, .second, vj p1, .second, vj p2, .second, vj p3, .second, vj p4, .second, vj p5, .second, vj q0_, .second, vj q1_, .second, vj q2_, .second, vj q3_, .second, vj q4_, .second, vj q5_, .second, vr b1, vu] [xr b1])) rfl (hb hby at_107)
  obtain ⟨cq14, kq14, qa14, qb14, qc14⟩ := isOf hZ e13 X_b1_12
  obtain ⟨_, _, ⟨T14, L14, k14, n14⟩, -, X14, ⟨Lc14, hQ14, l14, y14, z14⟩, st14⟩ := X13.virtualBack hx (y := Y5) (z := Y5) hown (mvT hZ (ww hw 36 rfl)) (mvT hZ (ww hw 37 rfl)) (notFace_of_selects (args := #[]) (mvT hZ (ww hw 39 rfl))) (mvT hZ (ww hw 39 rfl)) (mvT hZ (ww hw 38 rfl)) (by decide) (backOf (W := 0) (own_add5 l Z a0 hw u0 u1 u2 u3 u4 u5 u6 G b1 bb2 kk2 q0_ q1_ q2_ q3_ q4_ q5_ (own_nn p5 q5_ as18) h12 n0 O12 ⟨X_b1_12, F_b1_amounts_12, Vn12, nb2, g_b1, g_bb2⟩ []) hZ (ww hw 40 rfl) (ww hw 3 rfl) (by decide) (by decide)) qa14 qc14 (g := (mkF m 112 #[vj p0, .second, vj p1, .second, vj p2, .second, vj p3, .second, vj p4, .second, vj p5, .second, vj q0_, .second, vj q1_, .second, vj q2_, .second, vj q3_, .second, vj q4_, .second, vj q5_, .second, vr b1, vu] [xj q5_, xr u6, xr b1])) rfl (by rw [hml]; rfl) (Steps.refl _) (argsL := [xr u6, xj q5_]) (rest := []) (lenOf pd4 rfl) rfl (by show 2 * 0 + _ ≤ _; exact Nat.le_of_eq rfl) (hb hby at_112) (fun _ _ => ⟨rfl, e13, (by decide : 3 + 0 ≤ _), (by decide : 13 + 0 ≤ _)⟩)
  dsimp only [Pt.U, Pt.locs, Pt.cells, Pt.slots] at X14 l14 y14 z14 st14 hQ14
  subst l14 y14 z14
  obtain ⟨h14, e14⟩ : ∃ z, T14.heap = z := ⟨_, rfl⟩
  rw [e14] at hQ14
  obtain ⟨rfl, Nq14, K14, -, -, Vn14, -⟩ := hQ14
  have N14 := Fr.app N12 Nq14
  have O14 : Old Z n0 h14 := O12.keep K14 (allS g_bb2 all0)
  have X_b1_14 := X_b1_12.keep K14
  have F_b1_amounts_14 := F_b1_amounts_12.keep K14 (ninS nb2 nin0)
  obtain ⟨cq15, kq15, qa15, qb15, qc15⟩ := isOf hZ e14 X_b1_14
  obtain ⟨_, _, ⟨T15, L15, k15, n15⟩, -, X15, ⟨Lc15, hQ15, l15, y15, z15⟩, st15⟩ := X14.virtualBack hx (y := Y6) (z := Y6) hown (mvT hZ (ww hw 59 rfl)) (mvT hZ (ww hw 60 rfl)) (notFace_of_selects (args := #[]) (mvT hZ (ww hw 62 rfl))) (mvT hZ (ww hw 62 rfl)) (mvT hZ (ww hw 61 rfl)) (by decide) (backOf (W := 0) (own_empty4 l Z a0 hw u0 u1 u2 u3 u4 u5 u6 G b1 bb2 kk2 q0_ q1_ q2_ q3_ q4_ q5_ as20 as24 as28 as32 as38 h14 n0 O14 ⟨X_b1_14, F_b1_amounts_14, Vn14, nb2, g_b1, g_bb2⟩ []) hZ (ww hw 63 rfl) (ww hw 3 rfl) (by decide) (by decide)) qa15 qc15 (g := (mkF m 166 #[vj p0, .second, vj p1, .second, vj p2, .second, vj p3, .second, vj p4, .second, vj p5, .second, vj q0_, .second, vj q1_, .second, vj q2_, .second, vj q3_, .second, vj q4_, .second, vj q5_, .second, vr b1, vi (0 : Int32)] [xr b1])) rfl (by rw [hml]; rfl) (Steps.refl _) (argsL := []) (rest := []) (lenOf pd5 rfl) rfl (by show 2 * 0 + _ ≤ _; exact Nat.le_of_eq rfl) (hb hby at_166) (fun _ _ => ⟨rfl, e14, (by decide : 3 + 0 ≤ _), (by decide : 13 + 0 ≤ _)⟩)
  dsimp only [Pt.U, Pt.locs, Pt.cells, Pt.slots] at X15 l15 y15 z15 st15 hQ15
  subst l15 y15 z15
  obtain ⟨rfl, Nq15, e15⟩ := hQ15
  have N15 := Fr.app N14 Nq15
  obtain ⟨fs, hr, hrun, hended, hW, hsame⟩ := X15.leave (v := some (xi (1 : Int32))) (fun h => by rw [Bd.returns] at h; cases h)
  refine ⟨_, _, pre0 _ ?_, hrun, hended, _, _, rfl, ?_, ⟨_, rfl⟩, hW, hsame.mono (by decide) (by decide)⟩
  · show own_S p e below s₁ (mkF m 0 #[vj p0, .second, vj p1, .second, vj p2, .second, vj p3, .second, vj p4, .second, vj p5, .second, vu, vu, vu, vu, vu, vu, vu, vu, vu, vu, vu, vu, vu, vu] []) _
    refine XS.lloadN X0.here hx rfl (hb hby at_0) rfl ?_
    show own_S p e below s₁ (mkF m 1 #[vj p0, .second, vj p1, .second, vj p2, .second, vj p3, .second, vj p4, .second, vj p5, .second, vu, vu, vu, vu, vu, vu, vu, vu, vu, vu, vu, vu, vu, vu] [xj p0]) _
    refine X0.ldc2J hx hown (mvT hZ (ww hw 0 rfl)) (g := (mkF m 1 #[vj p0, .second, vj p1, .second, vj p2, .second, vj p3, .second, vj p4, .second, vj p5, .second, vu, vu, vu, vu, vu, vu, vu, vu, vu, vu, vu, vu, vu, vu] [xj p0])) rfl (hb hby at_1) ?_
    show own_S p e below s₁ (mkF m 4 #[vj p0, .second, vj p1, .second, vj p2, .second, vj p3, .second, vj p4, .second, vj p5, .second, vu, vu, vu, vu, vu, vu, vu, vu, vu, vu, vu, vu, vu, vu] [xj (9223372036854775807 : Int64), xj p0]) _
    refine XS.land X0.here hx rfl (hb hby at_4) rfl ?_
    show own_S p e below s₁ (mkF m 5 #[vj p0, .second, vj p1, .second, vj p2, .second, vj p3, .second, vj p4, .second, vj p5, .second, vu, vu, vu, vu, vu, vu, vu, vu, vu, vu, vu, vu, vu, vu] [xj (p0 &&& (9223372036854775807 : Int64))]) _
    refine castTop (show (mkF m 5 #[vj p0, .second, vj p1, .second, vj p2, .second, vj p3, .second, vj p4, .second, vj p5, .second, vu, vu, vu, vu, vu, vu, vu, vu, vu, vu, vu, vu, vu, vu] [xj (p0 &&& (9223372036854775807 : Int64))]) = (mkF m 5 #[vj p0, .second, vj p1, .second, vj p2, .second, vj p3, .second, vj p4, .second, vj p5, .second, vu, vu, vu, vu, vu, vu, vu, vu, vu, vu, vu, vu, vu, vu] [xj q0_]) from by rw [as13]) ?_
    show own_S p e below s₁ (mkF m 5 #[vj p0, .second, vj p1, .second, vj p2, .second, vj p3, .second, vj p4, .second, vj p5, .second, vu, vu, vu, vu, vu, vu, vu, vu, vu, vu, vu, vu, vu, vu] [xj q0_]) _
    refine XS.lstore X0.here hx rfl (hb hby at_5) rfl (l' := #[vj p0, .second, vj p1, .second, vj p2, .second, vj p3, .second, vj p4, .second, vj p5, .second, vj q0_, .second, vu, vu, vu, vu, vu, vu, vu, vu, vu, vu, vu, vu]) rfl ?_
    show own_S p e below s₁ (mkF m 7 #[vj p0, .second, vj p1, .second, vj p2, .second, vj p3, .second, vj p4, .second, vj p5, .second, vj q0_, .second, vu, vu, vu, vu, vu, vu, vu, vu, vu, vu, vu, vu] []) _
    refine XS.lloadN X0.here hx rfl (hb hby at_7) rfl ?_
    show own_S p e below s₁ (mkF m 8 #[vj p0, .second, vj p1, .second, vj p2, .second, vj p3, .second, vj p4, .second, vj p5, .second, vj q0_, .second, vu, vu, vu, vu, vu, vu, vu, vu, vu, vu, vu, vu] [xj p1]) _
    refine X0.ldc2J hx hown (mvT hZ (ww hw 0 rfl)) (g := (mkF m 8 #[vj p0, .second, vj p1, .second, vj p2, .second, vj p3, .second, vj p4, .second, vj p5, .second, vj q0_, .second, vu, vu, vu, vu, vu, vu, vu, vu, vu, vu, vu, vu] [xj p1])) rfl (hb hby at_8) ?_
    show own_S p e below s₁ (mkF m 11 #[vj p0, .second, vj p1, .second, vj p2, .second, vj p3, .second, vj p4, .second, vj p5, .second, vj q0_, .second, vu, vu, vu, vu, vu, vu, vu, vu, vu, vu, vu, vu] [xj (9223372036854775807 : Int64), xj p1]) _
    refine XS.land X0.here hx rfl (hb hby at_11) rfl ?_
    show own_S p e below s₁ (mkF m 12 #[vj p0, .second, vj p1, .second, vj p2, .second, vj p3, .second, vj p4, .second, vj p5, .second, vj q0_, .second, vu, vu, vu, vu, vu, vu, vu, vu, vu, vu, vu, vu] [xj (p1 &&& (9223372036854775807 : Int64))]) _
    refine castTop (show (mkF m 12 #[vj p0, .second, vj p1, .second, vj p2, .second, vj p3, .second, vj p4, .second, vj p5, .second, vj q0_, .second, vu, vu, vu, vu, vu, vu, vu, vu, vu, vu, vu, vu] [xj (p1 &&& (9223372036854775807 : Int64))]) = (mkF m 12 #[vj p0, .second, vj p1, .second, vj p2, .second, vj p3, .second, vj p4, .second, vj p5, .second, vj q0_, .second, vu, vu, vu, vu, vu, vu, vu, vu, vu, vu, vu, vu] [xj q1_]) from by rw [as14]) ?_
    show own_S p e below s₁ (mkF m 12 #[vj p0, .second, vj p1, .second, vj p2, .second, vj p3, .second, vj p4, .second, vj p5, .second, vj q0_, .second, vu, vu, vu, vu, vu, vu, vu, vu, vu, vu, vu, vu] [xj q1_]) _
    refine XS.lstore X0.here hx rfl (hb hby at_12) rfl (l' := #[vj p0, .second, vj p1, .second, vj p2, .second, vj p3, .second, vj p4, .second, vj p5, .second, vj q0_, .second, vj q1_, .second, vu, vu, vu, vu, vu, vu, vu, vu, vu, vu]) rfl ?_
    show own_S p e below s₁ (mkF m 14 #[vj p0, .second, vj p1, .second, vj p2, .second, vj p3, .second, vj p4, .second, vj p5, .second, vj q0_, .second, vj q1_, .second, vu, vu, vu, vu, vu, vu, vu, vu, vu, vu] []) _
    refine XS.lload X0.here hx rfl (hb hby at_14) rfl ?_
    show own_S p e below s₁ (mkF m 16 #[vj p0, .second, vj p1, .second, vj p2, .second, vj p3, .second, vj p4, .second, vj p5, .second, vj q0_, .second, vj q1_, .second, vu, vu, vu, vu, vu, vu, vu, vu, vu, vu] [xj p2]) _
    refine X0.ldc2J hx hown (mvT hZ (ww hw 0 rfl)) (g := (mkF m 16 #[vj p0, .second, vj p1, .second, vj p2, .second, vj p3, .second, vj p4, .second, vj p5, .second, vj q0_, .second, vj q1_, .second, vu, vu, vu, vu, vu, vu, vu, vu, vu, vu] [xj p2])) rfl (hb hby at_16) ?_
    show own_S p e below s₁ (mkF m 19 #[vj p0, .second, vj p1, .second, vj p2, .second, vj p3, .second, vj p4, .second, vj p5, .second, vj q0_, .second, vj q1_, .second, vu, vu, vu, vu, vu, vu, vu, vu, vu, vu] [xj (9223372036854775807 : Int64), xj p2]) _
    refine XS.land X0.here hx rfl (hb hby at_19) rfl ?_
    show own_S p e below s₁ (mkF m 20 #[vj p0, .second, vj p1, .second, vj p2, .second, vj p3, .second, vj p4, .second, vj p5, .second, vj q0_, .second, vj q1_, .second, vu, vu, vu, vu, vu, vu, vu, vu, vu, vu] [xj (p2 &&& (9223372036854775807 : Int64))]) _
    refine castTop (show (mkF m 20 #[vj p0, .second, vj p1, .second, vj p2, .second, vj p3, .second, vj p4, .second, vj p5, .second, vj q0_, .second, vj q1_, .second, vu, vu, vu, vu, vu, vu, vu, vu, vu, vu] [xj (p2 &&& (9223372036854775807 : Int64))]) = (mkF m 20 #[vj p0, .second, vj p1, .second, vj p2, .second, vj p3, .second, vj p4, .second, vj p5, .second, vj q0_, .second, vj q1_, .second, vu, vu, vu, vu, vu, vu, vu, vu, vu, vu] [xj q2_]) from by rw [as15]) ?_
    show own_S p e below s₁ (mkF m 20 #[vj p0, .second, vj p1, .second, vj p2, .second, vj p3, .second, vj p4, .second, vj p5, .second, vj q0_, .second, vj q1_, .second, vu, vu, vu, vu, vu, vu, vu, vu, vu, vu] [xj q2_]) _
    refine XS.lstore X0.here hx rfl (hb hby at_20) rfl (l' := #[vj p0, .second, vj p1, .second, vj p2, .second, vj p3, .second, vj p4, .second, vj p5, .second, vj q0_, .second, vj q1_, .second, vj q2_, .second, vu, vu, vu, vu, vu, vu, vu, vu]) rfl ?_
    show own_S p e below s₁ (mkF m 22 #[vj p0, .second, vj p1, .second, vj p2, .second, vj p3, .second, vj p4, .second, vj p5, .second, vj q0_, .second, vj q1_, .second, vj q2_, .second, vu, vu, vu, vu, vu, vu, vu, vu] []) _
    refine XS.lload X0.here hx rfl (hb hby at_22) rfl ?_
    show own_S p e below s₁ (mkF m 24 #[vj p0, .second, vj p1, .second, vj p2, .second, vj p3, .second, vj p4, .second, vj p5, .second, vj q0_, .second, vj q1_, .second, vj q2_, .second, vu, vu, vu, vu, vu, vu, vu, vu] [xj p3]) _
    refine X0.ldc2J hx hown (mvT hZ (ww hw 0 rfl)) (g := (mkF m 24 #[vj p0, .second, vj p1, .second, vj p2, .second, vj p3, .second, vj p4, .second, vj p5, .second, vj q0_, .second, vj q1_, .second, vj q2_, .second, vu, vu, vu, vu, vu, vu, vu, vu] [xj p3])) rfl (hb hby at_24) ?_
    show own_S p e below s₁ (mkF m 27 #[vj p0, .second, vj p1, .second, vj p2, .second, vj p3, .second, vj p4, .second, vj p5, .second, vj q0_, .second, vj q1_, .second, vj q2_, .second, vu, vu, vu, vu, vu, vu, vu, vu] [xj (9223372036854775807 : Int64), xj p3]) _
    refine XS.land X0.here hx rfl (hb hby at_27) rfl ?_
    show own_S p e below s₁ (mkF m 28 #[vj p0, .second, vj p1, .second, vj p2, .second, vj p3, .second, vj p4, .second, vj p5, .second, vj q0_, .second, vj q1_, .second, vj q2_, .second, vu, vu, vu, vu, vu, vu, vu, vu] [xj (p3 &&& (9223372036854775807 : Int64))]) _
    refine castTop (show (mkF m 28 #[vj p0, .second, vj p1, .second, vj p2, .second, vj p3, .second, vj p4, .second, vj p5, .second, vj q0_, .second, vj q1_, .second, vj q2_, .second, vu, vu, vu, vu, vu, vu, vu, vu] [xj (p3 &&& (9223372036854775807 : Int64))]) = (mkF m 28 #[vj p0, .second, vj p1, .second, vj p2, .second, vj p3, .second, vj p4, .second, vj p5, .second, vj q0_, .second, vj q1_, .second, vj q2_, .second, vu, vu, vu, vu, vu, vu, vu, vu] [xj q3_]) from by rw [as16]) ?_
    show own_S p e below s₁ (mkF m 28 #[vj p0, .second, vj p1, .second, vj p2, .second, vj p3, .second, vj p4, .second, vj p5, .second, vj q0_, .second, vj q1_, .second, vj q2_, .second, vu, vu, vu, vu, vu, vu, vu, vu] [xj q3_]) _
    refine XS.lstore X0.here hx rfl (hb hby at_28) rfl (l' := #[vj p0, .second, vj p1, .second, vj p2, .second, vj p3, .second, vj p4, .second, vj p5, .second, vj q0_, .second, vj q1_, .second, vj q2_, .second, vj q3_, .second, vu, vu, vu, vu, vu, vu]) rfl ?_
    show own_S p e below s₁ (mkF m 30 #[vj p0, .second, vj p1, .second, vj p2, .second, vj p3, .second, vj p4, .second, vj p5, .second, vj q0_, .second, vj q1_, .second, vj q2_, .second, vj q3_, .second, vu, vu, vu, vu, vu, vu] []) _
    refine XS.lload X0.here hx rfl (hb hby at_30) rfl ?_
    show own_S p e below s₁ (mkF m 32 #[vj p0, .second, vj p1, .second, vj p2, .second, vj p3, .second, vj p4, .second, vj p5, .second, vj q0_, .second, vj q1_, .second, vj q2_, .second, vj q3_, .second, vu, vu, vu, vu, vu, vu] [xj p4]) _
    refine X0.ldc2J hx hown (mvT hZ (ww hw 0 rfl)) (g := (mkF m 32 #[vj p0, .second, vj p1, .second, vj p2, .second, vj p3, .second, vj p4, .second, vj p5, .second, vj q0_, .second, vj q1_, .second, vj q2_, .second, vj q3_, .second, vu, vu, vu, vu, vu, vu] [xj p4])) rfl (hb hby at_32) ?_
    show own_S p e below s₁ (mkF m 35 #[vj p0, .second, vj p1, .second, vj p2, .second, vj p3, .second, vj p4, .second, vj p5, .second, vj q0_, .second, vj q1_, .second, vj q2_, .second, vj q3_, .second, vu, vu, vu, vu, vu, vu] [xj (9223372036854775807 : Int64), xj p4]) _
    refine XS.land X0.here hx rfl (hb hby at_35) rfl ?_
    show own_S p e below s₁ (mkF m 36 #[vj p0, .second, vj p1, .second, vj p2, .second, vj p3, .second, vj p4, .second, vj p5, .second, vj q0_, .second, vj q1_, .second, vj q2_, .second, vj q3_, .second, vu, vu, vu, vu, vu, vu] [xj (p4 &&& (9223372036854775807 : Int64))]) _
    refine castTop (show (mkF m 36 #[vj p0, .second, vj p1, .second, vj p2, .second, vj p3, .second, vj p4, .second, vj p5, .second, vj q0_, .second, vj q1_, .second, vj q2_, .second, vj q3_, .second, vu, vu, vu, vu, vu, vu] [xj (p4 &&& (9223372036854775807 : Int64))]) = (mkF m 36 #[vj p0, .second, vj p1, .second, vj p2, .second, vj p3, .second, vj p4, .second, vj p5, .second, vj q0_, .second, vj q1_, .second, vj q2_, .second, vj q3_, .second, vu, vu, vu, vu, vu, vu] [xj q4_]) from by rw [as17]) ?_
    show own_S p e below s₁ (mkF m 36 #[vj p0, .second, vj p1, .second, vj p2, .second, vj p3, .second, vj p4, .second, vj p5, .second, vj q0_, .second, vj q1_, .second, vj q2_, .second, vj q3_, .second, vu, vu, vu, vu, vu, vu] [xj q4_]) _
    refine XS.lstore X0.here hx rfl (hb hby at_36) rfl (l' := #[vj p0, .second, vj p1, .second, vj p2, .second, vj p3, .second, vj p4, .second, vj p5, .second, vj q0_, .second, vj q1_, .second, vj q2_, .second, vj q3_, .second, vj q4_, .second, vu, vu, vu, vu]) rfl ?_
    show own_S p e below s₁ (mkF m 38 #[vj p0, .second, vj p1, .second, vj p2, .second, vj p3, .second, vj p4, .second, vj p5, .second, vj q0_, .second, vj q1_, .second, vj q2_, .second, vj q3_, .second, vj q4_, .second, vu, vu, vu, vu] []) _
    refine XS.lload X0.here hx rfl (hb hby at_38) rfl ?_
    show own_S p e below s₁ (mkF m 40 #[vj p0, .second, vj p1, .second, vj p2, .second, vj p3, .second, vj p4, .second, vj p5, .second, vj q0_, .second, vj q1_, .second, vj q2_, .second, vj q3_, .second, vj q4_, .second, vu, vu, vu, vu] [xj p5]) _
    refine X0.ldc2J hx hown (mvT hZ (ww hw 0 rfl)) (g := (mkF m 40 #[vj p0, .second, vj p1, .second, vj p2, .second, vj p3, .second, vj p4, .second, vj p5, .second, vj q0_, .second, vj q1_, .second, vj q2_, .second, vj q3_, .second, vj q4_, .second, vu, vu, vu, vu] [xj p5])) rfl (hb hby at_40) ?_
    show own_S p e below s₁ (mkF m 43 #[vj p0, .second, vj p1, .second, vj p2, .second, vj p3, .second, vj p4, .second, vj p5, .second, vj q0_, .second, vj q1_, .second, vj q2_, .second, vj q3_, .second, vj q4_, .second, vu, vu, vu, vu] [xj (9223372036854775807 : Int64), xj p5]) _
    refine XS.land X0.here hx rfl (hb hby at_43) rfl ?_
    show own_S p e below s₁ (mkF m 44 #[vj p0, .second, vj p1, .second, vj p2, .second, vj p3, .second, vj p4, .second, vj p5, .second, vj q0_, .second, vj q1_, .second, vj q2_, .second, vj q3_, .second, vj q4_, .second, vu, vu, vu, vu] [xj (p5 &&& (9223372036854775807 : Int64))]) _
    refine castTop (show (mkF m 44 #[vj p0, .second, vj p1, .second, vj p2, .second, vj p3, .second, vj p4, .second, vj p5, .second, vj q0_, .second, vj q1_, .second, vj q2_, .second, vj q3_, .second, vj q4_, .second, vu, vu, vu, vu] [xj (p5 &&& (9223372036854775807 : Int64))]) = (mkF m 44 #[vj p0, .second, vj p1, .second, vj p2, .second, vj p3, .second, vj p4, .second, vj p5, .second, vj q0_, .second, vj q1_, .second, vj q2_, .second, vj q3_, .second, vj q4_, .second, vu, vu, vu, vu] [xj q5_]) from by rw [as18]) ?_
    show own_S p e below s₁ (mkF m 44 #[vj p0, .second, vj p1, .second, vj p2, .second, vj p3, .second, vj p4, .second, vj p5, .second, vj q0_, .second, vj q1_, .second, vj q2_, .second, vj q3_, .second, vj q4_, .second, vu, vu, vu, vu] [xj q5_]) _
    refine XS.lstore X0.here hx rfl (hb hby at_44) rfl (l' := #[vj p0, .second, vj p1, .second, vj p2, .second, vj p3, .second, vj p4, .second, vj p5, .second, vj q0_, .second, vj q1_, .second, vj q2_, .second, vj q3_, .second, vj q4_, .second, vj q5_, .second, vu, vu]) rfl ?_
    show own_S p e below s₁ (mkF m 46 #[vj p0, .second, vj p1, .second, vj p2, .second, vj p3, .second, vj p4, .second, vj p5, .second, vj q0_, .second, vj q1_, .second, vj q2_, .second, vj q3_, .second, vj q4_, .second, vj q5_, .second, vu, vu] []) _
    refine st1 _ ?_
    show own_S p e below T1 (mkF m 49 #[vj p0, .second, vj p1, .second, vj p2, .second, vj p3, .second, vj p4, .second, vj p5, .second, vj q0_, .second, vj q1_, .second, vj q2_, .second, vj q3_, .second, vj q4_, .second, vj q5_, .second, vu, vu] [xr b1]) _
    refine XS.dup X1.here hx rfl (hb hby at_49) rfl rfl ?_
    show own_S p e below T1 (mkF m 50 #[vj p0, .second, vj p1, .second, vj p2, .second, vj p3, .second, vj p4, .second, vj p5, .second, vj q0_, .second, vj q1_, .second, vj q2_, .second, vj q3_, .second, vj q4_, .second, vj q5_, .second, vu, vu] [xr b1, xr b1]) _
    refine st2.trans ?_
    show own_S p e below T2 (mkF m 53 #[vj p0, .second, vj p1, .second, vj p2, .second, vj p3, .second, vj p4, .second, vj p5, .second, vj q0_, .second, vj q1_, .second, vj q2_, .second, vj q3_, .second, vj q4_, .second, vj q5_, .second, vu, vu] [xr b1]) _
    refine XS.astore X2.here hx rfl (hb hby at_53) rfl rfl (l' := #[vj p0, .second, vj p1, .second, vj p2, .second, vj p3, .second, vj p4, .second, vj p5, .second, vj q0_, .second, vj q1_, .second, vj q2_, .second, vj q3_, .second, vj q4_, .second, vj q5_, .second, vr b1, vu]) rfl ?_
    show own_S p e below T2 (mkF m 55 #[vj p0, .second, vj p1, .second, vj p2, .second, vj p3, .second, vj p4, .second, vj p5, .second, vj q0_, .second, vj q1_, .second, vj q2_, .second, vj q3_, .second, vj q4_, .second, vj q5_, .second, vr b1, vu] []) _
    refine XS.aload X2.here hx rfl (hb hby at_55) rfl rfl ?_
    show own_S p e below T2 (mkF m 57 #[vj p0, .second, vj p1, .second, vj p2, .second, vj p3, .second, vj p4, .second, vj p5, .second, vj q0_, .second, vj q1_, .second, vj q2_, .second, vj q3_, .second, vj q4_, .second, vj q5_, .second, vr b1, vu] [xr b1]) _
    refine st3 _ ?_
    show own_S p e below T3 (mkF m 60 #[vj p0, .second, vj p1, .second, vj p2, .second, vj p3, .second, vj p4, .second, vj p5, .second, vj q0_, .second, vj q1_, .second, vj q2_, .second, vj q3_, .second, vj q4_, .second, vj q5_, .second, vr b1, vu] [xr u1, xr b1]) _
    refine XS.lload X3.here hx rfl (hb hby at_60) rfl ?_
    show own_S p e below T3 (mkF m 62 #[vj p0, .second, vj p1, .second, vj p2, .second, vj p3, .second, vj p4, .second, vj p5, .second, vj q0_, .second, vj q1_, .second, vj q2_, .second, vj q3_, .second, vj q4_, .second, vj q5_, .second, vr b1, vu] [xj q0_, xr u1, xr b1]) _
    refine st4.trans ?_
    show own_S p e below T4 (mkF m 65 #[vj p0, .second, vj p1, .second, vj p2, .second, vj p3, .second, vj p4, .second, vj p5, .second, vj q0_, .second, vj q1_, .second, vj q2_, .second, vj q3_, .second, vj q4_, .second, vj q5_, .second, vr b1, vu] []) _
    refine XS.aload X4.here hx rfl (hb hby at_65) rfl rfl ?_
    show own_S p e below T4 (mkF m 67 #[vj p0, .second, vj p1, .second, vj p2, .second, vj p3, .second, vj p4, .second, vj p5, .second, vj q0_, .second, vj q1_, .second, vj q2_, .second, vj q3_, .second, vj q4_, .second, vj q5_, .second, vr b1, vu] [xr b1]) _
    refine st5 _ ?_
    show own_S p e below T5 (mkF m 70 #[vj p0, .second, vj p1, .second, vj p2, .second, vj p3, .second, vj p4, .second, vj p5, .second, vj q0_, .second, vj q1_, .second, vj q2_, .second, vj q3_, .second, vj q4_, .second, vj q5_, .second, vr b1, vu] [xr u2, xr b1]) _
    refine XS.lload X5.here hx rfl (hb hby at_70) rfl ?_
    show own_S p e below T5 (mkF m 72 #[vj p0, .second, vj p1, .second, vj p2, .second, vj p3, .second, vj p4, .second, vj p5, .second, vj q0_, .second, vj q1_, .second, vj q2_, .second, vj q3_, .second, vj q4_, .second, vj q5_, .second, vr b1, vu] [xj q1_, xr u2, xr b1]) _
    refine st6.trans ?_
    show own_S p e below T6 (mkF m 75 #[vj p0, .second, vj p1, .second, vj p2, .second, vj p3, .second, vj p4, .second, vj p5, .second, vj q0_, .second, vj q1_, .second, vj q2_, .second, vj q3_, .second, vj q4_, .second, vj q5_, .second, vr b1, vu] []) _
    refine XS.aload X6.here hx rfl (hb hby at_75) rfl rfl ?_
    show own_S p e below T6 (mkF m 77 #[vj p0, .second, vj p1, .second, vj p2, .second, vj p3, .second, vj p4, .second, vj p5, .second, vj q0_, .second, vj q1_, .second, vj q2_, .second, vj q3_, .second, vj q4_, .second, vj q5_, .second, vr b1, vu] [xr b1]) _
    refine st7 _ ?_
    show own_S p e below T7 (mkF m 80 #[vj p0, .second, vj p1, .second, vj p2, .second, vj p3, .second, vj p4, .second, vj p5, .second, vj q0_, .second, vj q1_, .second, vj q2_, .second, vj q3_, .second, vj q4_, .second, vj q5_, .second, vr b1, vu] [xr u3, xr b1]) _
    refine XS.lload X7.here hx rfl (hb hby at_80) rfl ?_
    show own_S p e below T7 (mkF m 82 #[vj p0, .second, vj p1, .second, vj p2, .second, vj p3, .second, vj p4, .second, vj p5, .second, vj q0_, .second, vj q1_, .second, vj q2_, .second, vj q3_, .second, vj q4_, .second, vj q5_, .second, vr b1, vu] [xj q2_, xr u3, xr b1]) _
    refine st8.trans ?_
    show own_S p e below T8 (mkF m 85 #[vj p0, .second, vj p1, .second, vj p2, .second, vj p3, .second, vj p4, .second, vj p5, .second, vj q0_, .second, vj q1_, .second, vj q2_, .second, vj q3_, .second, vj q4_, .second, vj q5_, .second, vr b1, vu] []) _
    refine XS.aload X8.here hx rfl (hb hby at_85) rfl rfl ?_
    show own_S p e below T8 (mkF m 87 #[vj p0, .second, vj p1, .second, vj p2, .second, vj p3, .second, vj p4, .second, vj p5, .second, vj q0_, .second, vj q1_, .second, vj q2_, .second, vj q3_, .second, vj q4_, .second, vj q5_, .second, vr b1, vu] [xr b1]) _
    refine st9 _ ?_
    show own_S p e below T9 (mkF m 90 #[vj p0, .second, vj p1, .second, vj p2, .second, vj p3, .second, vj p4, .second, vj p5, .second, vj q0_, .second, vj q1_, .second, vj q2_, .second, vj q3_, .second, vj q4_, .second, vj q5_, .second, vr b1, vu] [xr u4, xr b1]) _
    refine XS.lload X9.here hx rfl (hb hby at_90) rfl ?_
    show own_S p e below T9 (mkF m 92 #[vj p0, .second, vj p1, .second, vj p2, .second, vj p3, .second, vj p4, .second, vj p5, .second, vj q0_, .second, vj q1_, .second, vj q2_, .second, vj q3_, .second, vj q4_, .second, vj q5_, .second, vr b1, vu] [xj q3_, xr u4, xr b1]) _
    refine st10.trans ?_
    show own_S p e below T10 (mkF m 95 #[vj p0, .second, vj p1, .second, vj p2, .second, vj p3, .second, vj p4, .second, vj p5, .second, vj q0_, .second, vj q1_, .second, vj q2_, .second, vj q3_, .second, vj q4_, .second, vj q5_, .second, vr b1, vu] []) _
    refine XS.aload X10.here hx rfl (hb hby at_95) rfl rfl ?_
    show own_S p e below T10 (mkF m 97 #[vj p0, .second, vj p1, .second, vj p2, .second, vj p3, .second, vj p4, .second, vj p5, .second, vj q0_, .second, vj q1_, .second, vj q2_, .second, vj q3_, .second, vj q4_, .second, vj q5_, .second, vr b1, vu] [xr b1]) _
    refine st11 _ ?_
    show own_S p e below T11 (mkF m 100 #[vj p0, .second, vj p1, .second, vj p2, .second, vj p3, .second, vj p4, .second, vj p5, .second, vj q0_, .second, vj q1_, .second, vj q2_, .second, vj q3_, .second, vj q4_, .second, vj q5_, .second, vr b1, vu] [xr u5, xr b1]) _
    refine XS.lload X11.here hx rfl (hb hby at_100) rfl ?_
    show own_S p e below T11 (mkF m 102 #[vj p0, .second, vj p1, .second, vj p2, .second, vj p3, .second, vj p4, .second, vj p5, .second, vj q0_, .second, vj q1_, .second, vj q2_, .second, vj q3_, .second, vj q4_, .second, vj q5_, .second, vr b1, vu] [xj q4_, xr u5, xr b1]) _
    refine st12.trans ?_
    show own_S p e below T12 (mkF m 105 #[vj p0, .second, vj p1, .second, vj p2, .second, vj p3, .second, vj p4, .second, vj p5, .second, vj q0_, .second, vj q1_, .second, vj q2_, .second, vj q3_, .second, vj q4_, .second, vj q5_, .second, vr b1, vu] []) _
    refine XS.aload X12.here hx rfl (hb hby at_105) rfl rfl ?_
    show own_S p e below T12 (mkF m 107 #[vj p0, .second, vj p1, .second, vj p2, .second, vj p3, .second, vj p4, .second, vj p5, .second, vj q0_, .second, vj q1_, .second, vj q2_, .second, vj q3_, .second, vj q4_, .second, vj q5_, .second, vr b1, vu] [xr b1]) _
    refine st13 _ ?_
    show own_S p e below T13 (mkF m 110 #[vj p0, .second, vj p1, .second, vj p2, .second, vj p3, .second, vj p4, .second, vj p5, .second, vj q0_, .second, vj q1_, .second, vj q2_, .second, vj q3_, .second, vj q4_, .second, vj q5_, .second, vr b1, vu] [xr u6, xr b1]) _
    refine XS.lload X13.here hx rfl (hb hby at_110) rfl ?_
    show own_S p e below T13 (mkF m 112 #[vj p0, .second, vj p1, .second, vj p2, .second, vj p3, .second, vj p4, .second, vj p5, .second, vj q0_, .second, vj q1_, .second, vj q2_, .second, vj q3_, .second, vj q4_, .second, vj q5_, .second, vr b1, vu] [xj q5_, xr u6, xr b1]) _
    refine st14.trans ?_
    show own_S p e below T14 (mkF m 115 #[vj p0, .second, vj p1, .second, vj p2, .second, vj p3, .second, vj p4, .second, vj p5, .second, vj q0_, .second, vj q1_, .second, vj q2_, .second, vj q3_, .second, vj q4_, .second, vj q5_, .second, vr b1, vu] []) _
    refine XS.lload X14.here hx rfl (hb hby at_115) rfl ?_
    show own_S p e below T14 (mkF m 117 #[vj p0, .second, vj p1, .second, vj p2, .second, vj p3, .second, vj p4, .second, vj p5, .second, vj q0_, .second, vj q1_, .second, vj q2_, .second, vj q3_, .second, vj q4_, .second, vj q5_, .second, vr b1, vu] [xj q0_]) _
    refine XS.lconst X14.here hx rfl (hb hby at_117) ?_
    show own_S p e below T14 (mkF m 118 #[vj p0, .second, vj p1, .second, vj p2, .second, vj p3, .second, vj p4, .second, vj p5, .second, vj q0_, .second, vj q1_, .second, vj q2_, .second, vj q3_, .second, vj q4_, .second, vj q5_, .second, vr b1, vu] [xj (0 : Int64), xj q0_]) _
    refine XS.lcmp X14.here hx rfl (hb hby at_118) rfl ?_
    show own_S p e below T14 (mkF m 119 #[vj p0, .second, vj p1, .second, vj p2, .second, vj p3, .second, vj p4, .second, vj p5, .second, vj q0_, .second, vj q1_, .second, vj q2_, .second, vj q3_, .second, vj q4_, .second, vj q5_, .second, vr b1, vu] [xi (lcmpW q0_ (0 : Int64))]) _
    show own_S p e below T14 (mkF m 119 #[vj p0, .second, vj p1, .second, vj p2, .second, vj p3, .second, vj p4, .second, vj p5, .second, vj q0_, .second, vj q1_, .second, vj q2_, .second, vj q3_, .second, vj q4_, .second, vj q5_, .second, vr b1, vu] [xi (lcmpW q0_ (0 : Int64))]) _
    refine XS.ifNo X14.here hx rfl (hb hby at_119) rfl as19 ?_
    show own_S p e below T14 (mkF m 122 #[vj p0, .second, vj p1, .second, vj p2, .second, vj p3, .second, vj p4, .second, vj p5, .second, vj q0_, .second, vj q1_, .second, vj q2_, .second, vj q3_, .second, vj q4_, .second, vj q5_, .second, vr b1, vu] []) _
    refine XS.lload X14.here hx rfl (hb hby at_122) rfl ?_
    show own_S p e below T14 (mkF m 124 #[vj p0, .second, vj p1, .second, vj p2, .second, vj p3, .second, vj p4, .second, vj p5, .second, vj q0_, .second, vj q1_, .second, vj q2_, .second, vj q3_, .second, vj q4_, .second, vj q5_, .second, vr b1, vu] [xj q1_]) _
    refine XS.lconst X14.here hx rfl (hb hby at_124) ?_
    show own_S p e below T14 (mkF m 125 #[vj p0, .second, vj p1, .second, vj p2, .second, vj p3, .second, vj p4, .second, vj p5, .second, vj q0_, .second, vj q1_, .second, vj q2_, .second, vj q3_, .second, vj q4_, .second, vj q5_, .second, vr b1, vu] [xj (0 : Int64), xj q1_]) _
    refine XS.lcmp X14.here hx rfl (hb hby at_125) rfl ?_
    show own_S p e below T14 (mkF m 126 #[vj p0, .second, vj p1, .second, vj p2, .second, vj p3, .second, vj p4, .second, vj p5, .second, vj q0_, .second, vj q1_, .second, vj q2_, .second, vj q3_, .second, vj q4_, .second, vj q5_, .second, vr b1, vu] [xi (lcmpW q1_ (0 : Int64))]) _
    show own_S p e below T14 (mkF m 126 #[vj p0, .second, vj p1, .second, vj p2, .second, vj p3, .second, vj p4, .second, vj p5, .second, vj q0_, .second, vj q1_, .second, vj q2_, .second, vj q3_, .second, vj q4_, .second, vj q5_, .second, vr b1, vu] [xi (lcmpW q1_ (0 : Int64))]) _
    refine XS.ifNo X14.here hx rfl (hb hby at_126) rfl as23 ?_
    show own_S p e below T14 (mkF m 129 #[vj p0, .second, vj p1, .second, vj p2, .second, vj p3, .second, vj p4, .second, vj p5, .second, vj q0_, .second, vj q1_, .second, vj q2_, .second, vj q3_, .second, vj q4_, .second, vj q5_, .second, vr b1, vu] []) _
    refine XS.lload X14.here hx rfl (hb hby at_129) rfl ?_
    show own_S p e below T14 (mkF m 131 #[vj p0, .second, vj p1, .second, vj p2, .second, vj p3, .second, vj p4, .second, vj p5, .second, vj q0_, .second, vj q1_, .second, vj q2_, .second, vj q3_, .second, vj q4_, .second, vj q5_, .second, vr b1, vu] [xj q2_]) _
    refine XS.lconst X14.here hx rfl (hb hby at_131) ?_
    show own_S p e below T14 (mkF m 132 #[vj p0, .second, vj p1, .second, vj p2, .second, vj p3, .second, vj p4, .second, vj p5, .second, vj q0_, .second, vj q1_, .second, vj q2_, .second, vj q3_, .second, vj q4_, .second, vj q5_, .second, vr b1, vu] [xj (0 : Int64), xj q2_]) _
    refine XS.lcmp X14.here hx rfl (hb hby at_132) rfl ?_
    show own_S p e below T14 (mkF m 133 #[vj p0, .second, vj p1, .second, vj p2, .second, vj p3, .second, vj p4, .second, vj p5, .second, vj q0_, .second, vj q1_, .second, vj q2_, .second, vj q3_, .second, vj q4_, .second, vj q5_, .second, vr b1, vu] [xi (lcmpW q2_ (0 : Int64))]) _
    show own_S p e below T14 (mkF m 133 #[vj p0, .second, vj p1, .second, vj p2, .second, vj p3, .second, vj p4, .second, vj p5, .second, vj q0_, .second, vj q1_, .second, vj q2_, .second, vj q3_, .second, vj q4_, .second, vj q5_, .second, vr b1, vu] [xi (lcmpW q2_ (0 : Int64))]) _
    refine XS.ifNo X14.here hx rfl (hb hby at_133) rfl as27 ?_
    show own_S p e below T14 (mkF m 136 #[vj p0, .second, vj p1, .second, vj p2, .second, vj p3, .second, vj p4, .second, vj p5, .second, vj q0_, .second, vj q1_, .second, vj q2_, .second, vj q3_, .second, vj q4_, .second, vj q5_, .second, vr b1, vu] []) _
    refine XS.lload X14.here hx rfl (hb hby at_136) rfl ?_
    show own_S p e below T14 (mkF m 138 #[vj p0, .second, vj p1, .second, vj p2, .second, vj p3, .second, vj p4, .second, vj p5, .second, vj q0_, .second, vj q1_, .second, vj q2_, .second, vj q3_, .second, vj q4_, .second, vj q5_, .second, vr b1, vu] [xj q3_]) _
    refine XS.lconst X14.here hx rfl (hb hby at_138) ?_
    show own_S p e below T14 (mkF m 139 #[vj p0, .second, vj p1, .second, vj p2, .second, vj p3, .second, vj p4, .second, vj p5, .second, vj q0_, .second, vj q1_, .second, vj q2_, .second, vj q3_, .second, vj q4_, .second, vj q5_, .second, vr b1, vu] [xj (0 : Int64), xj q3_]) _
    refine XS.lcmp X14.here hx rfl (hb hby at_139) rfl ?_
    show own_S p e below T14 (mkF m 140 #[vj p0, .second, vj p1, .second, vj p2, .second, vj p3, .second, vj p4, .second, vj p5, .second, vj q0_, .second, vj q1_, .second, vj q2_, .second, vj q3_, .second, vj q4_, .second, vj q5_, .second, vr b1, vu] [xi (lcmpW q3_ (0 : Int64))]) _
    show own_S p e below T14 (mkF m 140 #[vj p0, .second, vj p1, .second, vj p2, .second, vj p3, .second, vj p4, .second, vj p5, .second, vj q0_, .second, vj q1_, .second, vj q2_, .second, vj q3_, .second, vj q4_, .second, vj q5_, .second, vr b1, vu] [xi (lcmpW q3_ (0 : Int64))]) _
    refine XS.ifNo X14.here hx rfl (hb hby at_140) rfl as31 ?_
    show own_S p e below T14 (mkF m 143 #[vj p0, .second, vj p1, .second, vj p2, .second, vj p3, .second, vj p4, .second, vj p5, .second, vj q0_, .second, vj q1_, .second, vj q2_, .second, vj q3_, .second, vj q4_, .second, vj q5_, .second, vr b1, vu] []) _
    refine XS.lload X14.here hx rfl (hb hby at_143) rfl ?_
    show own_S p e below T14 (mkF m 145 #[vj p0, .second, vj p1, .second, vj p2, .second, vj p3, .second, vj p4, .second, vj p5, .second, vj q0_, .second, vj q1_, .second, vj q2_, .second, vj q3_, .second, vj q4_, .second, vj q5_, .second, vr b1, vu] [xj q4_]) _
    refine XS.lconst X14.here hx rfl (hb hby at_145) ?_
    show own_S p e below T14 (mkF m 146 #[vj p0, .second, vj p1, .second, vj p2, .second, vj p3, .second, vj p4, .second, vj p5, .second, vj q0_, .second, vj q1_, .second, vj q2_, .second, vj q3_, .second, vj q4_, .second, vj q5_, .second, vr b1, vu] [xj (0 : Int64), xj q4_]) _
    refine XS.lcmp X14.here hx rfl (hb hby at_146) rfl ?_
    show own_S p e below T14 (mkF m 147 #[vj p0, .second, vj p1, .second, vj p2, .second, vj p3, .second, vj p4, .second, vj p5, .second, vj q0_, .second, vj q1_, .second, vj q2_, .second, vj q3_, .second, vj q4_, .second, vj q5_, .second, vr b1, vu] [xi (lcmpW q4_ (0 : Int64))]) _
    show own_S p e below T14 (mkF m 147 #[vj p0, .second, vj p1, .second, vj p2, .second, vj p3, .second, vj p4, .second, vj p5, .second, vj q0_, .second, vj q1_, .second, vj q2_, .second, vj q3_, .second, vj q4_, .second, vj q5_, .second, vr b1, vu] [xi (lcmpW q4_ (0 : Int64))]) _
    refine XS.ifYes X14.here hx rfl (pc0 := 147) (pc' := 161) rfl (hb hby at_147) rfl as37 (by decide) (by decide) ?_
    show own_S p e below T14 (mkF m 161 #[vj p0, .second, vj p1, .second, vj p2, .second, vj p3, .second, vj p4, .second, vj p5, .second, vj q0_, .second, vj q1_, .second, vj q2_, .second, vj q3_, .second, vj q4_, .second, vj q5_, .second, vr b1, vu] []) _
    refine XS.iconst X14.here hx rfl (hb hby at_161) ?_
    show own_S p e below T14 (mkF m 162 #[vj p0, .second, vj p1, .second, vj p2, .second, vj p3, .second, vj p4, .second, vj p5, .second, vj q0_, .second, vj q1_, .second, vj q2_, .second, vj q3_, .second, vj q4_, .second, vj q5_, .second, vr b1, vu] [xi (0 : Int32)]) _
    refine XS.istore X14.here hx rfl (hb hby at_162) rfl (l' := #[vj p0, .second, vj p1, .second, vj p2, .second, vj p3, .second, vj p4, .second, vj p5, .second, vj q0_, .second, vj q1_, .second, vj q2_, .second, vj q3_, .second, vj q4_, .second, vj q5_, .second, vr b1, vi (0 : Int32)]) rfl ?_
    show own_S p e below T14 (mkF m 164 #[vj p0, .second, vj p1, .second, vj p2, .second, vj p3, .second, vj p4, .second, vj p5, .second, vj q0_, .second, vj q1_, .second, vj q2_, .second, vj q3_, .second, vj q4_, .second, vj q5_, .second, vr b1, vi (0 : Int32)] []) _
    refine XS.aload X14.here hx rfl (hb hby at_164) rfl rfl ?_
    show own_S p e below T14 (mkF m 166 #[vj p0, .second, vj p1, .second, vj p2, .second, vj p3, .second, vj p4, .second, vj p5, .second, vj q0_, .second, vj q1_, .second, vj q2_, .second, vj q3_, .second, vj q4_, .second, vj q5_, .second, vr b1, vi (0 : Int32)] [xr b1]) _
    refine st15.trans ?_
    show own_S p e below T15 (mkF m 169 #[vj p0, .second, vj p1, .second, vj p2, .second, vj p3, .second, vj p4, .second, vj p5, .second, vj q0_, .second, vj q1_, .second, vj q2_, .second, vj q3_, .second, vj q4_, .second, vj q5_, .second, vr b1, vi (0 : Int32)] [xi (0 : Int32)]) _
    refine XS.iload X15.here hx rfl (hb hby at_169) rfl ?_
    show own_S p e below T15 (mkF m 171 #[vj p0, .second, vj p1, .second, vj p2, .second, vj p3, .second, vj p4, .second, vj p5, .second, vj q0_, .second, vj q1_, .second, vj q2_, .second, vj q3_, .second, vj q4_, .second, vj q5_, .second, vr b1, vi (0 : Int32)] [xi (0 : Int32), xi (0 : Int32)]) _
    refine XS.icmpNo X15.here hx rfl (hb hby at_171) rfl (by decide) ?_
    show own_S p e below T15 (mkF m 174 #[vj p0, .second, vj p1, .second, vj p2, .second, vj p3, .second, vj p4, .second, vj p5, .second, vj q0_, .second, vj q1_, .second, vj q2_, .second, vj q3_, .second, vj q4_, .second, vj q5_, .second, vr b1, vi (0 : Int32)] []) _
    refine XS.iconst X15.here hx rfl (hb hby at_174) ?_
    show own_S p e below T15 (mkF m 175 #[vj p0, .second, vj p1, .second, vj p2, .second, vj p3, .second, vj p4, .second, vj p5, .second, vj q0_, .second, vj q1_, .second, vj q2_, .second, vj q3_, .second, vj q4_, .second, vj q5_, .second, vr b1, vi (0 : Int32)] [xi (1 : Int32)]) _
    refine XS.goto X15.here hx rfl (pc0 := 175) (pc' := 179) rfl (hb hby at_175) (by decide) (by decide) ?_
    show own_S p e below T15 (mkF m 179 #[vj p0, .second, vj p1, .second, vj p2, .second, vj p3, .second, vj p4, .second, vj p5, .second, vj q0_, .second, vj q1_, .second, vj q2_, .second, vj q3_, .second, vj q4_, .second, vj q5_, .second, vr b1, vi (0 : Int32)] [xi (1 : Int32)]) _
    exact retN X15 hx (t := .boolean) Bd.returns (by simp) (hb hby at_179) hr
  · exact ⟨rfl, N15⟩
theorem ef_own_l3 (m : MethodId) (u0 u1 u2 u3 u4 u5 u6 : Addr) (p0 : Int64) (p1 : Int64) (p2 : Int64) (p3 : Int64) (p4 : Int64) (p5 : Int64) (q0_ : Int64) (q1_ : Int64) (q2_ : Int64) (q3_ : Int64) (q4_ : Int64) (q5_ : Int64) : entryFrame m #[xj p0, xj p1, xj p2, xj p3, xj p4, xj p5] maxLocals = (mkF m 0 #[vj p0, .second, vj p1, .second, vj p2, .second, vj p3, .second, vj p4, .second, vj p5, .second, vu, vu, vu, vu, vu, vu, vu, vu, vu, vu, vu, vu, vu, vu] []) := by first | (simp [entryFrame, mkF, argsToLocals, Value.category, maxLocals]; done) | rfl
set_option maxRecDepth 65536 in
set_option maxHeartbeats 40000000 in
theorem own_l3 (l : Launch) (Z : State) (a0 : Array Value) (hw : ∀ d ∈ tables_1, d.before a0 Z = true) (u0 u1 u2 u3 u4 u5 u6 : Addr) (G : own_St Z u0 u1 u2 u3 u4 u5 u6) (p0 : Int64) (p1 : Int64) (p2 : Int64) (p3 : Int64) (p4 : Int64) (p5 : Int64) (q0_ : Int64) (q1_ : Int64) (q2_ : Int64) (q3_ : Int64) (q4_ : Int64) (q5_ : Int64) (as13 : (p0 &&& (9223372036854775807 : Int64)) = q0_) (as14 : (p1 &&& (9223372036854775807 : Int64)) = q1_) (as15 : (p2 &&& (9223372036854775807 : Int64)) = q2_) (as16 : (p3 &&& (9223372036854775807 : Int64)) = q3_) (as17 : (p4 &&& (9223372036854775807 : Int64)) = q4_) (as18 : (p5 &&& (9223372036854775807 : Int64)) = q5_) (as19 : ifCond.holds .ne (lcmpW q0_ (0 : Int64)) = false) (as23 : ifCond.holds .ne (lcmpW q1_ (0 : Int64)) = false) (as27 : ifCond.holds .ne (lcmpW q2_ (0 : Int64)) = false) (as33 : ifCond.holds .ne (lcmpW q3_ (0 : Int64)) = true) (as20 : ifCond.holds .le (lcmpW q0_ (0 : Int64)) = true) (as24 : ifCond.holds .le (lcmpW q1_ (0 : Int64)) = true) (as28 : ifCond.holds .le (lcmpW q2_ (0 : Int64)) = true) (as34 : ifCond.holds .le (lcmpW q3_ (0 : Int64)) = false) (h0 : Heap) (n0 : Nat) (O0 : Old Z n0 h0) : own_Met l Z x code maxLocals ret room_1 #[xj p0, xj p1, xj p2, xj p3, xj p4, xj p5] h0 (own_QL (some (xi (1 : Int32))) n0) := by
  intro ws
  refine MetFree.of_bodySF (plainFor_of_name pn4) hisR ?_
  intro p e s m args below meth c s₁ Bd hml0 hP hK
  obtain ⟨rfl, hZ, hh⟩ := hP
  have hx := Bd.exec
  have hby := Bd.bytes
  have hml : c.maxLocals = 26 := hml0
  have hown : s.vm.findClass "com/example/stackwright/stackwright/engine/ManaPoolIsEmptyPinLaw" = some m.cls := findClass_of_methodNamed Bd.named
  have hnm := (name_of_methodNamed Bd.named Bd.method).1
  have X0 : Stand p l e room_1 s m #[xj p0, xj p1, xj p2, xj p3, xj p4, xj p5] below meth c s₁ [] 0 0 := Stand.of_body Bd
  have e0 : s₁.heap = h0 := by rw [← hh, Bd.state]; rfl
  have N0 := Fr.nil n0
  have pre0 : ∀ t, Steps p.tables e below (s₁.setTop (mkF m 0 #[vj p0, .second, vj p1, .second, vj p2, .second, vj p3, .second, vj p4, .second, vj p5, .second, vu, vu, vu, vu, vu, vu, vu, vu, vu, vu, vu, vu, vu, vu] [])) t → Steps p.tables e below (s₁.setTop (entryFrame m #[xj p0, xj p1, xj p2, xj p3, xj p4, xj p5] maxLocals)) t := fun t st => castTop (ef_own_l3 m u0 u1 u2 u3 u4 u5 u6 p0 p1 p2 p3 p4 p5 q0_ q1_ q2_ q3_ q4_ q5_) st
  obtain ⟨T1, h1, X1, e1, E1, A1, D1, -, st1⟩ := newO X0 hx hZ hown (ww hw 1 rfl) (ww hw 2 rfl) (ww hw 3 rfl) e0 (g := (mkF m 46 #[vj p0, .second, vj p1, .second, vj p2, .second, vj p3, .second, vj p4, .second, vj p5, .second, vj q0_, .second, vj q1_, .second, vj q2_, .second, vj q3_, .second, vj q4_, .second, vj q5_, .second, vu, vu] [])) rfl (hb hby at_46) (by decide) (by decide)
  obtain ⟨b1, g1⟩ : ∃ z, z = h0.size := ⟨_, rfl⟩
  rw [← g1] at A1 D1 st1
  have g_b1 : n0 ≤ b1 := own_fresh O0 g1
  have O1 : Old Z n0 h1 := O0.ext E1
  have F_b1_amounts : Fld Z h1 b1 "com/example/stackwright/stackwright/engine/ManaPool" "amounts" "[J" .null := D1 (Or.inr (ww hw 34 rfl)) (ty := (.array .long)) (by decide)
  obtain ⟨_, _, ⟨T2, L2, k2, n2⟩, -, X2, ⟨Lc2, hQ2, l2, y2, z2⟩, st2⟩ := X1.specialBack hx (y := Y1) rfl hown (mvT hZ (ww hw 4 rfl)) (mvT hZ (ww hw 5 rfl)) (mvT hZ (ww hw 6 rfl)) (by decide) (backOf (W := 1) (own_init l Z a0 hw u0 u1 u2 u3 u4 u5 u6 G b1 h1 n0 O1 A1 F_b1_amounts g_b1 []) hZ (ww hw 6 rfl) (ww hw 3 rfl) (by decide) (by decide)) (g := (mkF m 50 #[vj p0, .second, vj p1, .second, vj p2, .second, vj p3, .second, vj p4, .second, vj p5, .second, vj q0_, .second, vj q1_, .second, vj q2_, .second, vj q3_, .second, vj q4_, .second, vj q5_, .second, vu, vu] [xr b1, xr b1])) rfl (by rw [hml]; rfl) (Steps.refl _) (a := b1) (argsL := []) (rest := [xr b1]) (lenOf pd3 rfl) rfl (by show 2 * 0 + _ ≤ _; exact Nat.le_of_eq rfl) (hb hby at_50) (fun _ _ => ⟨rfl, e1, (by decide : 1 + 2 ≤ _), (by decide : 1 + 12 ≤ _)⟩)
  dsimp only [Pt.U, Pt.locs, Pt.cells, Pt.slots] at X2 l2 y2 z2 st2 hQ2
  subst l2 y2 z2
  obtain ⟨h2, e2⟩ : ∃ z, T2.heap = z := ⟨_, rfl⟩
  rw [e2] at hQ2
  obtain ⟨rfl, Nq2, K2, bb2, kk2, -, Fc2, Vb2, nb2, -, g_bb2⟩ := hQ2
  have N2 := Fr.app N0 Nq2
  have O2 : Old Z n0 h2 := O1.keep K2 (allS g_b1 all0)
  have X_b1_2 := A1.keep K2
  obtain ⟨T3, X3, e3, st3⟩ := getS2 X2 hx hZ hown (host := "") (Or.inl (ww hw 35 rfl)) Via.refl e2 ((own_S_u1 G).ext O2.2) (g := (mkF m 57 #[vj p0, .second, vj p1, .second, vj p2, .second, vj p3, .second, vj p4, .second, vj p5, .second, vj q0_, .second, vj q1_, .second, vj q2_, .second, vj q3_, .second, vj q4_, .second, vj q5_, .second, vr b1, vu] [xr b1])) rfl (hb hby at_57)
  obtain ⟨cq4, kq4, qa4, qb4, qc4⟩ := isOf hZ e3 X_b1_2
  obtain ⟨_, _, ⟨T4, L4, k4, n4⟩, -, X4, ⟨Lc4, hQ4, l4, y4, z4⟩, st4⟩ := X3.virtualBack hx (y := Y5) (z := Y5) hown (mvT hZ (ww hw 36 rfl)) (mvT hZ (ww hw 37 rfl)) (notFace_of_selects (args := #[]) (mvT hZ (ww hw 39 rfl))) (mvT hZ (ww hw 39 rfl)) (mvT hZ (ww hw 38 rfl)) (by decide) (backOf (W := 0) (own_add0 l Z a0 hw u0 u1 u2 u3 u4 u5 u6 G b1 bb2 kk2 (0 : Int64) (0 : Int64) (0 : Int64) (0 : Int64) (0 : Int64) q0_ (own_nn p0 q0_ as13) h2 n0 O2 ⟨X_b1_2, Fc2, Vb2, nb2, g_b1, g_bb2⟩ []) hZ (ww hw 40 rfl) (ww hw 3 rfl) (by decide) (by decide)) qa4 qc4 (g := (mkF m 62 #[vj p0, .second, vj p1, .second, vj p2, .second, vj p3, .second, vj p4, .second, vj p5, .second, vj q0_, .second, vj q1_, .second, vj q2_, .second, vj q3_, .second, vj q4_, .second, vj q5_, .second, vr b1, vu] [xj q0_, xr u1, xr b1])) rfl (by rw [hml]; rfl) (Steps.refl _) (argsL := [xr u1, xj q0_]) (rest := []) (lenOf pd4 rfl) rfl (by show 2 * 0 + _ ≤ _; exact Nat.le_of_eq rfl) (hb hby at_62) (fun _ _ => ⟨rfl, e3, (by decide : 3 + 0 ≤ _), (by decide : 13 + 0 ≤ _)⟩)
  dsimp only [Pt.U, Pt.locs, Pt.cells, Pt.slots] at X4 l4 y4 z4 st4 hQ4
  subst l4 y4 z4
  obtain ⟨h4, e4⟩ : ∃ z, T4.heap = z := ⟨_, rfl⟩
  rw [e4] at hQ4
  obtain ⟨rfl, Nq4, K4, -, -, Vn4, -⟩ := hQ4
  have N4 := Fr.app N2 Nq4
  have O4 : Old Z n0 h4 := O2.keep K4 (allS g_bb2 all0)
  have X_b1_4 := X_b1_2.keep K4
  have F_b1_amounts_4 := Fc2.keep K4 (ninS nb2 nin0)
  obtain ⟨T5, X5, e5, st5⟩ := getS2 X4 hx hZ hown (host := "") (Or.inl (ww hw 54 rfl)) Via.refl e4 ((own_S_u2 G).ext O4.2) (g := (mkF m 67 #[vj p0, .second, vj p1, .second, vj p2, .second, vj p3, .second, vj p4, .second, vj p5, .second, vj q0_, .second, vj q1_, .second, vj q2_, .second, vj q3_, .second, vj q4_, .second, vj q5_, .second, vr b1, vu] [xr b1])) rfl (hb hby at_67)
  obtain ⟨cq6, kq6, qa6, qb6, qc6⟩ := isOf hZ e5 X_b1_4
  obtain ⟨_, _, ⟨T6, L6, k6, n6⟩, -, X6, ⟨Lc6, hQ6, l6, y6, z6⟩, st6⟩ := X5.virtualBack hx (y := Y5) (z := Y5) hown (mvT hZ (ww hw 36 rfl)) (mvT hZ (ww hw 37 rfl)) (notFace_of_selects (args := #[]) (mvT hZ (ww hw 39 rfl))) (mvT hZ (ww hw 39 rfl)) (mvT hZ (ww hw 38 rfl)) (by decide) (backOf (W := 0) (own_add1 l Z a0 hw u0 u1 u2 u3 u4 u5 u6 G b1 bb2 kk2 q0_ (0 : Int64) (0 : Int64) (0 : Int64) (0 : Int64) q1_ (own_nn p1 q1_ as14) h4 n0 O4 ⟨X_b1_4, F_b1_amounts_4, Vn4, nb2, g_b1, g_bb2⟩ []) hZ (ww hw 40 rfl) (ww hw 3 rfl) (by decide) (by decide)) qa6 qc6 (g := (mkF m 72 #[vj p0, .second, vj p1, .second, vj p2, .second, vj p3, .second, vj p4, .second, vj p5, .second, vj q0_, .second, vj q1_, .second, vj q2_, .second, vj q3_, .second, vj q4_, .second, vj q5_, .second, vr b1, vu] [xj q1_, xr u2, xr b1])) rfl (by rw [hml]; rfl) (Steps.refl _) (argsL := [xr u2, xj q1_]) (rest := []) (lenOf pd4 rfl) rfl (by show 2 * 0 + _ ≤ _; exact Nat.le_of_eq rfl) (hb hby at_72) (fun _ _ => ⟨rfl, e5, (by decide : 3 + 0 ≤ _), (by decide : 13 + 0 ≤ _)⟩)
  dsimp only [Pt.U, Pt.locs, Pt.cells, Pt.slots] at X6 l6 y6 z6 st6 hQ6
  subst l6 y6 z6
  obtain ⟨h6, e6⟩ : ∃ z, T6.heap = z := ⟨_, rfl⟩
  rw [e6] at hQ6
  obtain ⟨rfl, Nq6, K6, -, -, Vn6, -⟩ := hQ6
  have N6 := Fr.app N4 Nq6
  have O6 : Old Z n0 h6 := O4.keep K6 (allS g_bb2 all0)
  have X_b1_6 := X_b1_4.keep K6
  have F_b1_amounts_6 := F_b1_amounts_4.keep K6 (ninS nb2 nin0)
  obtain ⟨T7, X7, e7, st7⟩ := getS2 X6 hx hZ hown (host := "") (Or.inl (ww hw 55 rfl)) Via.refl e6 ((own_S_u3 G).ext O6.2) (g := (mkF m 77 #[vj p0, .second, vj p1, .second, vj p2, .second, vj p3, .second, vj p4, .second, vj p5, .second, vj q0_, .second, vj q1_, .second, vj q2_, .second, vj q3_, .second, vj q4_, .second, vj q5_, .second, vr b1, vu] [xr b1])) rfl (hb hby at_77)
  obtain ⟨cq8, kq8, qa8, qb8, qc8⟩ := isOf hZ e7 X_b1_6
  obtain ⟨_, _, ⟨T8, L8, k8, n8⟩, -, X8, ⟨Lc8, hQ8, l8, y8, z8⟩, st8⟩ := X7.virtualBack hx (y := Y5) (z := Y5) hown (mvT hZ (ww hw 36 rfl)) (mvT hZ (ww hw 37 rfl)) (notFace_of_selects (args := #[]) (mvT hZ (ww hw 39 rfl))) (mvT hZ (ww hw 39 rfl)) (mvT hZ (ww hw 38 rfl)) (by decide) (backOf (W := 0) (own_add2 l Z a0 hw u0 u1 u2 u3 u4 u5 u6 G b1 bb2 kk2 q0_ q1_ (0 : Int64) (0 : Int64) (0 : Int64) q2_ (own_nn p2 q2_ as15) h6 n0 O6 ⟨X_b1_6, F_b1_amounts_6, Vn6, nb2, g_b1, g_bb2⟩ []) hZ (ww hw 40 rfl) (ww hw 3 rfl) (by decide) (by decide)) qa8 qc8 (g := (mkF m 82 #[vj p0, .second, vj p1, .second, vj p2, .second, vj p3, .second, vj p4, .second, vj p5, .second, vj q0_, .second, vj q1_, .second, vj q2_, .second, vj q3_, .second, vj q4_, .second, vj q5_, .second, vr b1, vu] [xj q2_, xr u3, xr b1])) rfl (by rw [hml]; rfl) (Steps.refl _) (argsL := [xr u3, xj q2_]) (rest := []) (lenOf pd4 rfl) rfl (by show 2 * 0 + _ ≤ _; exact Nat.le_of_eq rfl) (hb hby at_82) (fun _ _ => ⟨rfl, e7, (by decide : 3 + 0 ≤ _), (by decide : 13 + 0 ≤ _)⟩)
  dsimp only [Pt.U, Pt.locs, Pt.cells, Pt.slots] at X8 l8 y8 z8 st8 hQ8
  subst l8 y8 z8
  obtain ⟨h8, e8⟩ : ∃ z, T8.heap = z := ⟨_, rfl⟩
  rw [e8] at hQ8
  obtain ⟨rfl, Nq8, K8, -, -, Vn8, -⟩ := hQ8
  have N8 := Fr.app N6 Nq8
  have O8 : Old Z n0 h8 := O6.keep K8 (allS g_bb2 all0)
  have X_b1_8 := X_b1_6.keep K8
  have F_b1_amounts_8 := F_b1_amounts_6.keep K8 (ninS nb2 nin0)
  obtain ⟨T9, X9, e9, st9⟩ := getS2 X8 hx hZ hown (host := "") (Or.inl (ww hw 56 rfl)) Via.refl e8 ((own_S_u4 G).ext O8.2) (g := (mkF m 87 #[vj p0, .second, vj p1, .second, vj p2, .second, vj p3, .second, vj p4, .second, vj p5, .second, vj q0_, .second, vj q1_, .second, vj q2_, .second, vj q3_, .second, vj q4_, .second, vj q5_, .second, vr b1, vu] [xr b1])) rfl (hb hby at_87)
  obtain ⟨cq10, kq10, qa10, qb10, qc10⟩ := isOf hZ e9 X_b1_8
  obtain ⟨_, _, ⟨T10, L10, k10, n10⟩, -, X10, ⟨Lc10, hQ10, l10, y10, z10⟩, st10⟩ := X9.virtualBack hx (y := Y5) (z := Y5) hown (mvT hZ (ww hw 36 rfl)) (mvT hZ (ww hw 37 rfl)) (notFace_of_selects (args := #[]) (mvT hZ (ww hw 39 rfl))) (mvT hZ (ww hw 39 rfl)) (mvT hZ (ww hw 38 rfl)) (by decide) (backOf (W := 0) (own_add3 l Z a0 hw u0 u1 u2 u3 u4 u5 u6 G b1 bb2 kk2 q0_ q1_ q2_ (0 : Int64) (0 : Int64) q3_ (own_nn p3 q3_ as16) h8 n0 O8 ⟨X_b1_8, F_b1_amounts_8, Vn8, nb2, g_b1, g_bb2⟩ []) hZ (ww hw 40 rfl) (ww hw 3 rfl) (by decide) (by decide)) qa10 qc10 (g := (mkF m 92 #[vj p0, .second, vj p1, .second, vj p2, .second, vj p3, .second, vj p4, .second, vj p5, .second, vj q0_, .second, vj q1_, .second, vj q2_, .second, vj q3_, .second, vj q4_, .second, vj q5_, .second, vr b1, vu] [xj q3_, xr u4, xr b1])) rfl (by rw [hml]; rfl) (Steps.refl _) (argsL := [xr u4, xj q3_]) (rest := []) (lenOf pd4 rfl) rfl (by show 2 * 0 + _ ≤ _; exact Nat.le_of_eq rfl) (hb hby at_92) (fun _ _ => ⟨rfl, e9, (by decide : 3 + 0 ≤ _), (by decide : 13 + 0 ≤ _)⟩)
  dsimp only [Pt.U, Pt.locs, Pt.cells, Pt.slots] at X10 l10 y10 z10 st10 hQ10
  subst l10 y10 z10
  obtain ⟨h10, e10⟩ : ∃ z, T10.heap = z := ⟨_, rfl⟩
  rw [e10] at hQ10
  obtain ⟨rfl, Nq10, K10, -, -, Vn10, -⟩ := hQ10
  have N10 := Fr.app N8 Nq10
  have O10 : Old Z n0 h10 := O8.keep K10 (allS g_bb2 all0)
  have X_b1_10 := X_b1_8.keep K10
  have F_b1_amounts_10 := F_b1_amounts_8.keep K10 (ninS nb2 nin0)
  obtain ⟨T11, X11, e11, st11⟩ := getS2 X10 hx hZ hown (host := "") (Or.inl (ww hw 57 rfl)) Via.refl e10 ((own_S_u5 G).ext O10.2) (g := (mkF m 97 #[vj p0, .second, vj p1, .second, vj p2, .second, vj p3, .second, vj p4, .second, vj p5, .second, vj q0_, .second, vj q1_, .second, vj q2_, .second, vj q3_, .second, vj q4_, .second, vj q5_, .second, vr b1, vu] [xr b1])) rfl (hb hby at_97)
  obtain ⟨cq12, kq12, qa12, qb12, qc12⟩ := isOf hZ e11 X_b1_10
  obtain ⟨_, _, ⟨T12, L12, k12, n12⟩, -, X12, ⟨Lc12, hQ12, l12, y12, z12⟩, st12⟩ := X11.virtualBack hx (y := Y5) (z := Y5) hown (mvT hZ (ww hw 36 rfl)) (mvT hZ (ww hw 37 rfl)) (notFace_of_selects (args := #[]) (mvT hZ (ww hw 39 rfl))) (mvT hZ (ww hw 39 rfl)) (mvT hZ (ww hw 38 rfl)) (by decide) (backOf (W := 0) (own_add4 l Z a0 hw u0 u1 u2 u3 u4 u5 u6 G b1 bb2 kk2 q0_ q1_ q2_ q3_ (0 : Int64) q4_ (own_nn p4 q4_ as17) h10 n0 O10 ⟨X_b1_10, F_b1_amounts_10, Vn10, nb2, g_b1, g_bb2⟩ []) hZ (ww hw 40 rfl) (ww hw 3 rfl) (by decide) (by decide)) qa12 qc12 (g := (mkF m 102 #[vj p0, .second, vj p1, .second, vj p2, .second, vj p3, .second, vj p4, .second, vj p5, .second, vj q0_, .second, vj q1_, .second, vj q2_, .second, vj q3_, .second, vj q4_, .second, vj q5_, .second, vr b1, vu] [xj q4_, xr u5, xr b1])) rfl (by rw [hml]; rfl) (Steps.refl _) (argsL := [xr u5, xj q4_]) (rest := []) (lenOf pd4 rfl) rfl (by show 2 * 0 + _ ≤ _; exact Nat.le_of_eq rfl) (hb hby at_102) (fun _ _ => ⟨rfl, e11, (by decide : 3 + 0 ≤ _), (by decide : 13 + 0 ≤ _)⟩)
  dsimp only [Pt.U, Pt.locs, Pt.cells, Pt.slots] at X12 l12 y12 z12 st12 hQ12
  subst l12 y12 z12
  obtain ⟨h12, e12⟩ : ∃ z, T12.heap = z := ⟨_, rfl⟩
  rw [e12] at hQ12
  obtain ⟨rfl, Nq12, K12, -, -, Vn12, -⟩ := hQ12
  have N12 := Fr.app N10 Nq12
  have O12 : Old Z n0 h12 := O10.keep K12 (allS g_bb2 all0)
  have X_b1_12 := X_b1_10.keep K12
  have F_b1_amounts_12 := F_b1_amounts_10.keep K12 (ninS nb2 nin0)
  obtain ⟨T13, X13, e13, st13⟩ := getS2 X12 hx hZ hown (host := "") (Or.inl (ww hw 58 rfl)) Via.refl e12 ((own_S_u6 G).ext O12.2) (g := (mkF m 107 #[vj p0, .second, vj p1, .second, vj p2, .second, vj p3, .second, vj p4, .second, vj p5, .second, vj q0_, .second, vj q1_, .second, vj q2_, .second, vj q3_, .second, vj q4_, .second, vj q5_, .second, vr b1, vu] [xr b1])) rfl (hb hby at_107)
  obtain ⟨cq14, kq14, qa14, qb14, qc14⟩ := isOf hZ e13 X_b1_12
  obtain ⟨_, _, ⟨T14, L14, k14, n14⟩, -, X14, ⟨Lc14, hQ14, l14, y14, z14⟩, st14⟩ := X13.virtualBack hx (y := Y5) (z := Y5) hown (mvT hZ (ww hw 36 rfl)) (mvT hZ (ww hw 37 rfl)) (notFace_of_selects (args := #[]) (mvT hZ (ww hw 39 rfl))) (mvT hZ (ww hw 39 rfl)) (mvT hZ (ww hw 38 rfl)) (by decide) (backOf (W := 0) (own_add5 l Z a0 hw u0 u1 u2 u3 u4 u5 u6 G b1 bb2 kk2 q0_ q1_ q2_ q3_ q4_ q5_ (own_nn p5 q5_ as18) h12 n0 O12 ⟨X_b1_12, F_b1_amounts_12, Vn12, nb2, g_b1, g_bb2⟩ []) hZ (ww hw 40 rfl) (ww hw 3 rfl) (by decide) (by decide)) qa14 qc14 (g := (mkF m 112 #[vj p0, .second, vj p1, .second, vj p2, .second, vj p3, .second, vj p4, .second, vj p5, .second, vj q0_, .second, vj q1_, .second, vj q2_, .second, vj q3_, .second, vj q4_, .second, vj q5_, .second, vr b1, vu] [xj q5_, xr u6, xr b1])) rfl (by rw [hml]; rfl) (Steps.refl _) (argsL := [xr u6, xj q5_]) (rest := []) (lenOf pd4 rfl) rfl (by show 2 * 0 + _ ≤ _; exact Nat.le_of_eq rfl) (hb hby at_112) (fun _ _ => ⟨rfl, e13, (by decide : 3 + 0 ≤ _), (by decide : 13 + 0 ≤ _)⟩)
  dsimp only [Pt.U, Pt.locs, Pt.cells, Pt.slots] at X14 l14 y14 z14 st14 hQ14
  subst l14 y14 z14
  obtain ⟨h14, e14⟩ : ∃ z, T14.heap = z := ⟨_, rfl⟩
  rw [e14] at hQ14
  obtain ⟨rfl, Nq14, K14, -, -, Vn14, -⟩ := hQ14
  have N14 := Fr.app N12 Nq14
  have O14 : Old Z n0 h14 := O12.keep K14 (allS g_bb2 all0)
  have X_b1_14 := X_b1_12.keep K14
  have F_b1_amounts_14 := F_b1_amounts_12.keep K14 (ninS nb2 nin0)
  obtain ⟨cq15, kq15, qa15, qb15, qc15⟩ := isOf hZ e14 X_b1_14
  obtain ⟨_, _, ⟨T15, L15, k15, n15⟩, -, X15, ⟨Lc15, hQ15, l15, y15, z15⟩, st15⟩ := X14.virtualBack hx (y := Y6) (z := Y6) hown (mvT hZ (ww hw 59 rfl)) (mvT hZ (ww hw 60 rfl)) (notFace_of_selects (args := #[]) (mvT hZ (ww hw 62 rfl))) (mvT hZ (ww hw 62 rfl)) (mvT hZ (ww hw 61 rfl)) (by decide) (backOf (W := 0) (own_empty3 l Z a0 hw u0 u1 u2 u3 u4 u5 u6 G b1 bb2 kk2 q0_ q1_ q2_ q3_ q4_ q5_ as20 as24 as28 as34 h14 n0 O14 ⟨X_b1_14, F_b1_amounts_14, Vn14, nb2, g_b1, g_bb2⟩ []) hZ (ww hw 63 rfl) (ww hw 3 rfl) (by decide) (by decide)) qa15 qc15 (g := (mkF m 166 #[vj p0, .second, vj p1, .second, vj p2, .second, vj p3, .second, vj p4, .second, vj p5, .second, vj q0_, .second, vj q1_, .second, vj q2_, .second, vj q3_, .second, vj q4_, .second, vj q5_, .second, vr b1, vi (0 : Int32)] [xr b1])) rfl (by rw [hml]; rfl) (Steps.refl _) (argsL := []) (rest := []) (lenOf pd5 rfl) rfl (by show 2 * 0 + _ ≤ _; exact Nat.le_of_eq rfl) (hb hby at_166) (fun _ _ => ⟨rfl, e14, (by decide : 3 + 0 ≤ _), (by decide : 13 + 0 ≤ _)⟩)
  dsimp only [Pt.U, Pt.locs, Pt.cells, Pt.slots] at X15 l15 y15 z15 st15 hQ15
  subst l15 y15 z15
  obtain ⟨rfl, Nq15, e15⟩ := hQ15
  have N15 := Fr.app N14 Nq15
  obtain ⟨fs, hr, hrun, hended, hW, hsame⟩ := X15.leave (v := some (xi (1 : Int32))) (fun h => by rw [Bd.returns] at h; cases h)
  refine ⟨_, _, pre0 _ ?_, hrun, hended, _, _, rfl, ?_, ⟨_, rfl⟩, hW, hsame.mono (by decide) (by decide)⟩
  · show own_S p e below s₁ (mkF m 0 #[vj p0, .second, vj p1, .second, vj p2, .second, vj p3, .second, vj p4, .second, vj p5, .second, vu, vu, vu, vu, vu, vu, vu, vu, vu, vu, vu, vu, vu, vu] []) _
    refine XS.lloadN X0.here hx rfl (hb hby at_0) rfl ?_
    show own_S p e below s₁ (mkF m 1 #[vj p0, .second, vj p1, .second, vj p2, .second, vj p3, .second, vj p4, .second, vj p5, .second, vu, vu, vu, vu, vu, vu, vu, vu, vu, vu, vu, vu, vu, vu] [xj p0]) _
    refine X0.ldc2J hx hown (mvT hZ (ww hw 0 rfl)) (g := (mkF m 1 #[vj p0, .second, vj p1, .second, vj p2, .second, vj p3, .second, vj p4, .second, vj p5, .second, vu, vu, vu, vu, vu, vu, vu, vu, vu, vu, vu, vu, vu, vu] [xj p0])) rfl (hb hby at_1) ?_
    show own_S p e below s₁ (mkF m 4 #[vj p0, .second, vj p1, .second, vj p2, .second, vj p3, .second, vj p4, .second, vj p5, .second, vu, vu, vu, vu, vu, vu, vu, vu, vu, vu, vu, vu, vu, vu] [xj (9223372036854775807 : Int64), xj p0]) _
    refine XS.land X0.here hx rfl (hb hby at_4) rfl ?_
    show own_S p e below s₁ (mkF m 5 #[vj p0, .second, vj p1, .second, vj p2, .second, vj p3, .second, vj p4, .second, vj p5, .second, vu, vu, vu, vu, vu, vu, vu, vu, vu, vu, vu, vu, vu, vu] [xj (p0 &&& (9223372036854775807 : Int64))]) _
    refine castTop (show (mkF m 5 #[vj p0, .second, vj p1, .second, vj p2, .second, vj p3, .second, vj p4, .second, vj p5, .second, vu, vu, vu, vu, vu, vu, vu, vu, vu, vu, vu, vu, vu, vu] [xj (p0 &&& (9223372036854775807 : Int64))]) = (mkF m 5 #[vj p0, .second, vj p1, .second, vj p2, .second, vj p3, .second, vj p4, .second, vj p5, .second, vu, vu, vu, vu, vu, vu, vu, vu, vu, vu, vu, vu, vu, vu] [xj q0_]) from by rw [as13]) ?_
    show own_S p e below s₁ (mkF m 5 #[vj p0, .second, vj p1, .second, vj p2, .second, vj p3, .second, vj p4, .second, vj p5, .second, vu, vu, vu, vu, vu, vu, vu, vu, vu, vu, vu, vu, vu, vu] [xj q0_]) _
    refine XS.lstore X0.here hx rfl (hb hby at_5) rfl (l' := #[vj p0, .second, vj p1, .second, vj p2, .second, vj p3, .second, vj p4, .second, vj p5, .second, vj q0_, .second, vu, vu, vu, vu, vu, vu, vu, vu, vu, vu, vu, vu]) rfl ?_
    show own_S p e below s₁ (mkF m 7 #[vj p0, .second, vj p1, .second, vj p2, .second, vj p3, .second, vj p4, .second, vj p5, .second, vj q0_, .second, vu, vu, vu, vu, vu, vu, vu, vu, vu, vu, vu, vu] []) _
    refine XS.lloadN X0.here hx rfl (hb hby at_7) rfl ?_
    show own_S p e below s₁ (mkF m 8 #[vj p0, .second, vj p1, .second, vj p2, .second, vj p3, .second, vj p4, .second, vj p5, .second, vj q0_, .second, vu, vu, vu, vu, vu, vu, vu, vu, vu, vu, vu, vu] [xj p1]) _
    refine X0.ldc2J hx hown (mvT hZ (ww hw 0 rfl)) (g := (mkF m 8 #[vj p0, .second, vj p1, .second, vj p2, .second, vj p3, .second, vj p4, .second, vj p5, .second, vj q0_, .second, vu, vu, vu, vu, vu, vu, vu, vu, vu, vu, vu, vu] [xj p1])) rfl (hb hby at_8) ?_
    show own_S p e below s₁ (mkF m 11 #[vj p0, .second, vj p1, .second, vj p2, .second, vj p3, .second, vj p4, .second, vj p5, .second, vj q0_, .second, vu, vu, vu, vu, vu, vu, vu, vu, vu, vu, vu, vu] [xj (9223372036854775807 : Int64), xj p1]) _
    refine XS.land X0.here hx rfl (hb hby at_11) rfl ?_
    show own_S p e below s₁ (mkF m 12 #[vj p0, .second, vj p1, .second, vj p2, .second, vj p3, .second, vj p4, .second, vj p5, .second, vj q0_, .second, vu, vu, vu, vu, vu, vu, vu, vu, vu, vu, vu, vu] [xj (p1 &&& (9223372036854775807 : Int64))]) _
    refine castTop (show (mkF m 12 #[vj p0, .second, vj p1, .second, vj p2, .second, vj p3, .second, vj p4, .second, vj p5, .second, vj q0_, .second, vu, vu, vu, vu, vu, vu, vu, vu, vu, vu, vu, vu] [xj (p1 &&& (9223372036854775807 : Int64))]) = (mkF m 12 #[vj p0, .second, vj p1, .second, vj p2, .second, vj p3, .second, vj p4, .second, vj p5, .second, vj q0_, .second, vu, vu, vu, vu, vu, vu, vu, vu, vu, vu, vu, vu] [xj q1_]) from by rw [as14]) ?_
    show own_S p e below s₁ (mkF m 12 #[vj p0, .second, vj p1, .second, vj p2, .second, vj p3, .second, vj p4, .second, vj p5, .second, vj q0_, .second, vu, vu, vu, vu, vu, vu, vu, vu, vu, vu, vu, vu] [xj q1_]) _
    refine XS.lstore X0.here hx rfl (hb hby at_12) rfl (l' := #[vj p0, .second, vj p1, .second, vj p2, .second, vj p3, .second, vj p4, .second, vj p5, .second, vj q0_, .second, vj q1_, .second, vu, vu, vu, vu, vu, vu, vu, vu, vu, vu]) rfl ?_
    show own_S p e below s₁ (mkF m 14 #[vj p0, .second, vj p1, .second, vj p2, .second, vj p3, .second, vj p4, .second, vj p5, .second, vj q0_, .second, vj q1_, .second, vu, vu, vu, vu, vu, vu, vu, vu, vu, vu] []) _
    refine XS.lload X0.here hx rfl (hb hby at_14) rfl ?_
    show own_S p e below s₁ (mkF m 16 #[vj p0, .second, vj p1, .second, vj p2, .second, vj p3, .second, vj p4, .second, vj p5, .second, vj q0_, .second, vj q1_, .second, vu, vu, vu, vu, vu, vu, vu, vu, vu, vu] [xj p2]) _
    refine X0.ldc2J hx hown (mvT hZ (ww hw 0 rfl)) (g := (mkF m 16 #[vj p0, .second, vj p1, .second, vj p2, .second, vj p3, .second, vj p4, .second, vj p5, .second, vj q0_, .second, vj q1_, .second, vu, vu, vu, vu, vu, vu, vu, vu, vu, vu] [xj p2])) rfl (hb hby at_16) ?_
    show own_S p e below s₁ (mkF m 19 #[vj p0, .second, vj p1, .second, vj p2, .second, vj p3, .second, vj p4, .second, vj p5, .second, vj q0_, .second, vj q1_, .second, vu, vu, vu, vu, vu, vu, vu, vu, vu, vu] [xj (9223372036854775807 : Int64), xj p2]) _
    refine XS.land X0.here hx rfl (hb hby at_19) rfl ?_
    show own_S p e below s₁ (mkF m 20 #[vj p0, .second, vj p1, .second, vj p2, .second, vj p3, .second, vj p4, .second, vj p5, .second, vj q0_, .second, vj q1_, .second, vu, vu, vu, vu, vu, vu, vu, vu, vu, vu] [xj (p2 &&& (9223372036854775807 : Int64))]) _
    refine castTop (show (mkF m 20 #[vj p0, .second, vj p1, .second, vj p2, .second, vj p3, .second, vj p4, .second, vj p5, .second, vj q0_, .second, vj q1_, .second, vu, vu, vu, vu, vu, vu, vu, vu, vu, vu] [xj (p2 &&& (9223372036854775807 : Int64))]) = (mkF m 20 #[vj p0, .second, vj p1, .second, vj p2, .second, vj p3, .second, vj p4, .second, vj p5, .second, vj q0_, .second, vj q1_, .second, vu, vu, vu, vu, vu, vu, vu, vu, vu, vu] [xj q2_]) from by rw [as15]) ?_
    show own_S p e below s₁ (mkF m 20 #[vj p0, .second, vj p1, .second, vj p2, .second, vj p3, .second, vj p4, .second, vj p5, .second, vj q0_, .second, vj q1_, .second, vu, vu, vu, vu, vu, vu, vu, vu, vu, vu] [xj q2_]) _
    refine XS.lstore X0.here hx rfl (hb hby at_20) rfl (l' := #[vj p0, .second, vj p1, .second, vj p2, .second, vj p3, .second, vj p4, .second, vj p5, .second, vj q0_, .second, vj q1_, .second, vj q2_, .second, vu, vu, vu, vu, vu, vu, vu, vu]) rfl ?_
    show own_S p e below s₁ (mkF m 22 #[vj p0, .second, vj p1, .second, vj p2, .second, vj p3, .second, vj p4, .second, vj p5, .second, vj q0_, .second, vj q1_, .second, vj q2_, .second, vu, vu, vu, vu, vu, vu, vu, vu] []) _
    refine XS.lload X0.here hx rfl (hb hby at_22) rfl ?_
    show own_S p e below s₁ (mkF m 24 #[vj p0, .second, vj p1, .second, vj p2, .second, vj p3, .second, vj p4, .second, vj p5, .second, vj q0_, .second, vj q1_, .second, vj q2_, .second, vu, vu, vu, vu, vu, vu, vu, vu] [xj p3]) _
    refine X0.ldc2J hx hown (mvT hZ (ww hw 0 rfl)) (g := (mkF m 24 #[vj p0, .second, vj p1, .second, vj p2, .second, vj p3, .second, vj p4, .second, vj p5, .second, vj q0_, .second, vj q1_, .second, vj q2_, .second, vu, vu, vu, vu, vu, vu, vu, vu] [xj p3])) rfl (hb hby at_24) ?_
    show own_S p e below s₁ (mkF m 27 #[vj p0, .second, vj p1, .second, vj p2, .second, vj p3, .second, vj p4, .second, vj p5, .second, vj q0_, .second, vj q1_, .second, vj q2_, .second, vu, vu, vu, vu, vu, vu, vu, vu] [xj (9223372036854775807 : Int64), xj p3]) _
    refine XS.land X0.here hx rfl (hb hby at_27) rfl ?_
    show own_S p e below s₁ (mkF m 28 #[vj p0, .second, vj p1, .second, vj p2, .second, vj p3, .second, vj p4, .second, vj p5, .second, vj q0_, .second, vj q1_, .second, vj q2_, .second, vu, vu, vu, vu, vu, vu, vu, vu] [xj (p3 &&& (9223372036854775807 : Int64))]) _
    refine castTop (show (mkF m 28 #[vj p0, .second, vj p1, .second, vj p2, .second, vj p3, .second, vj p4, .second, vj p5, .second, vj q0_, .second, vj q1_, .second, vj q2_, .second, vu, vu, vu, vu, vu, vu, vu, vu] [xj (p3 &&& (9223372036854775807 : Int64))]) = (mkF m 28 #[vj p0, .second, vj p1, .second, vj p2, .second, vj p3, .second, vj p4, .second, vj p5, .second, vj q0_, .second, vj q1_, .second, vj q2_, .second, vu, vu, vu, vu, vu, vu, vu, vu] [xj q3_]) from by rw [as16]) ?_
    show own_S p e below s₁ (mkF m 28 #[vj p0, .second, vj p1, .second, vj p2, .second, vj p3, .second, vj p4, .second, vj p5, .second, vj q0_, .second, vj q1_, .second, vj q2_, .second, vu, vu, vu, vu, vu, vu, vu, vu] [xj q3_]) _
    refine XS.lstore X0.here hx rfl (hb hby at_28) rfl (l' := #[vj p0, .second, vj p1, .second, vj p2, .second, vj p3, .second, vj p4, .second, vj p5, .second, vj q0_, .second, vj q1_, .second, vj q2_, .second, vj q3_, .second, vu, vu, vu, vu, vu, vu]) rfl ?_
    show own_S p e below s₁ (mkF m 30 #[vj p0, .second, vj p1, .second, vj p2, .second, vj p3, .second, vj p4, .second, vj p5, .second, vj q0_, .second, vj q1_, .second, vj q2_, .second, vj q3_, .second, vu, vu, vu, vu, vu, vu] []) _
    refine XS.lload X0.here hx rfl (hb hby at_30) rfl ?_
    show own_S p e below s₁ (mkF m 32 #[vj p0, .second, vj p1, .second, vj p2, .second, vj p3, .second, vj p4, .second, vj p5, .second, vj q0_, .second, vj q1_, .second, vj q2_, .second, vj q3_, .second, vu, vu, vu, vu, vu, vu] [xj p4]) _
    refine X0.ldc2J hx hown (mvT hZ (ww hw 0 rfl)) (g := (mkF m 32 #[vj p0, .second, vj p1, .second, vj p2, .second, vj p3, .second, vj p4, .second, vj p5, .second, vj q0_, .second, vj q1_, .second, vj q2_, .second, vj q3_, .second, vu, vu, vu, vu, vu, vu] [xj p4])) rfl (hb hby at_32) ?_
    show own_S p e below s₁ (mkF m 35 #[vj p0, .second, vj p1, .second, vj p2, .second, vj p3, .second, vj p4, .second, vj p5, .second, vj q0_, .second, vj q1_, .second, vj q2_, .second, vj q3_, .second, vu, vu, vu, vu, vu, vu] [xj (9223372036854775807 : Int64), xj p4]) _
    refine XS.land X0.here hx rfl (hb hby at_35) rfl ?_
    show own_S p e below s₁ (mkF m 36 #[vj p0, .second, vj p1, .second, vj p2, .second, vj p3, .second, vj p4, .second, vj p5, .second, vj q0_, .second, vj q1_, .second, vj q2_, .second, vj q3_, .second, vu, vu, vu, vu, vu, vu] [xj (p4 &&& (9223372036854775807 : Int64))]) _
    refine castTop (show (mkF m 36 #[vj p0, .second, vj p1, .second, vj p2, .second, vj p3, .second, vj p4, .second, vj p5, .second, vj q0_, .second, vj q1_, .second, vj q2_, .second, vj q3_, .second, vu, vu, vu, vu, vu, vu] [xj (p4 &&& (9223372036854775807 : Int64))]) = (mkF m 36 #[vj p0, .second, vj p1, .second, vj p2, .second, vj p3, .second, vj p4, .second, vj p5, .second, vj q0_, .second, vj q1_, .second, vj q2_, .second, vj q3_, .second, vu, vu, vu, vu, vu, vu] [xj q4_]) from by rw [as17]) ?_
    show own_S p e below s₁ (mkF m 36 #[vj p0, .second, vj p1, .second, vj p2, .second, vj p3, .second, vj p4, .second, vj p5, .second, vj q0_, .second, vj q1_, .second, vj q2_, .second, vj q3_, .second, vu, vu, vu, vu, vu, vu] [xj q4_]) _
    refine XS.lstore X0.here hx rfl (hb hby at_36) rfl (l' := #[vj p0, .second, vj p1, .second, vj p2, .second, vj p3, .second, vj p4, .second, vj p5, .second, vj q0_, .second, vj q1_, .second, vj q2_, .second, vj q3_, .second, vj q4_, .second, vu, vu, vu, vu]) rfl ?_
    show own_S p e below s₁ (mkF m 38 #[vj p0, .second, vj p1, .second, vj p2, .second, vj p3, .second, vj p4, .second, vj p5, .second, vj q0_, .second, vj q1_, .second, vj q2_, .second, vj q3_, .second, vj q4_, .second, vu, vu, vu, vu] []) _
    refine XS.lload X0.here hx rfl (hb hby at_38) rfl ?_
    show own_S p e below s₁ (mkF m 40 #[vj p0, .second, vj p1, .second, vj p2, .second, vj p3, .second, vj p4, .second, vj p5, .second, vj q0_, .second, vj q1_, .second, vj q2_, .second, vj q3_, .second, vj q4_, .second, vu, vu, vu, vu] [xj p5]) _
    refine X0.ldc2J hx hown (mvT hZ (ww hw 0 rfl)) (g := (mkF m 40 #[vj p0, .second, vj p1, .second, vj p2, .second, vj p3, .second, vj p4, .second, vj p5, .second, vj q0_, .second, vj q1_, .second, vj q2_, .second, vj q3_, .second, vj q4_, .second, vu, vu, vu, vu] [xj p5])) rfl (hb hby at_40) ?_
    show own_S p e below s₁ (mkF m 43 #[vj p0, .second, vj p1, .second, vj p2, .second, vj p3, .second, vj p4, .second, vj p5, .second, vj q0_, .second, vj q1_, .second, vj q2_, .second, vj q3_, .second, vj q4_, .second, vu, vu, vu, vu] [xj (9223372036854775807 : Int64), xj p5]) _
    refine XS.land X0.here hx rfl (hb hby at_43) rfl ?_
    show own_S p e below s₁ (mkF m 44 #[vj p0, .second, vj p1, .second, vj p2, .second, vj p3, .second, vj p4, .second, vj p5, .second, vj q0_, .second, vj q1_, .second, vj q2_, .second, vj q3_, .second, vj q4_, .second, vu, vu, vu, vu] [xj (p5 &&& (9223372036854775807 : Int64))]) _
    refine castTop (show (mkF m 44 #[vj p0, .second, vj p1, .second, vj p2, .second, vj p3, .second, vj p4, .second, vj p5, .second, vj q0_, .second, vj q1_, .second, vj q2_, .second, vj q3_, .second, vj q4_, .second, vu, vu, vu, vu] [xj (p5 &&& (9223372036854775807 : Int64))]) = (mkF m 44 #[vj p0, .second, vj p1, .second, vj p2, .second, vj p3, .second, vj p4, .second, vj p5, .second, vj q0_, .second, vj q1_, .second, vj q2_, .second, vj q3_, .second, vj q4_, .second, vu, vu, vu, vu] [xj q5_]) from by rw [as18]) ?_
    show own_S p e below s₁ (mkF m 44 #[vj p0, .second, vj p1, .second, vj p2, .second, vj p3, .second, vj p4, .second, vj p5, .second, vj q0_, .second, vj q1_, .second, vj q2_, .second, vj q3_, .second, vj q4_, .second, vu, vu, vu, vu] [xj q5_]) _
    refine XS.lstore X0.here hx rfl (hb hby at_44) rfl (l' := #[vj p0, .second, vj p1, .second, vj p2, .second, vj p3, .second, vj p4, .second, vj p5, .second, vj q0_, .second, vj q1_, .second, vj q2_, .second, vj q3_, .second, vj q4_, .second, vj q5_, .second, vu, vu]) rfl ?_
    show own_S p e below s₁ (mkF m 46 #[vj p0, .second, vj p1, .second, vj p2, .second, vj p3, .second, vj p4, .second, vj p5, .second, vj q0_, .second, vj q1_, .second, vj q2_, .second, vj q3_, .second, vj q4_, .second, vj q5_, .second, vu, vu] []) _
    refine st1 _ ?_
    show own_S p e below T1 (mkF m 49 #[vj p0, .second, vj p1, .second, vj p2, .second, vj p3, .second, vj p4, .second, vj p5, .second, vj q0_, .second, vj q1_, .second, vj q2_, .second, vj q3_, .second, vj q4_, .second, vj q5_, .second, vu, vu] [xr b1]) _
    refine XS.dup X1.here hx rfl (hb hby at_49) rfl rfl ?_
    show own_S p e below T1 (mkF m 50 #[vj p0, .second, vj p1, .second, vj p2, .second, vj p3, .second, vj p4, .second, vj p5, .second, vj q0_, .second, vj q1_, .second, vj q2_, .second, vj q3_, .second, vj q4_, .second, vj q5_, .second, vu, vu] [xr b1, xr b1]) _
    refine st2.trans ?_
    show own_S p e below T2 (mkF m 53 #[vj p0, .second, vj p1, .second, vj p2, .second, vj p3, .second, vj p4, .second, vj p5, .second, vj q0_, .second, vj q1_, .second, vj q2_, .second, vj q3_, .second, vj q4_, .second, vj q5_, .second, vu, vu] [xr b1]) _
    refine XS.astore X2.here hx rfl (hb hby at_53) rfl rfl (l' := #[vj p0, .second, vj p1, .second, vj p2, .second, vj p3, .second, vj p4, .second, vj p5, .second, vj q0_, .second, vj q1_, .second, vj q2_, .second, vj q3_, .second, vj q4_, .second, vj q5_, .second, vr b1, vu]) rfl ?_
    show own_S p e below T2 (mkF m 55 #[vj p0, .second, vj p1, .second, vj p2, .second, vj p3, .second, vj p4, .second, vj p5, .second, vj q0_, .second, vj q1_, .second, vj q2_, .second, vj q3_, .second, vj q4_, .second, vj q5_, .second, vr b1, vu] []) _
    refine XS.aload X2.here hx rfl (hb hby at_55) rfl rfl ?_
    show own_S p e below T2 (mkF m 57 #[vj p0, .second, vj p1, .second, vj p2, .second, vj p3, .second, vj p4, .second, vj p5, .second, vj q0_, .second, vj q1_, .second, vj q2_, .second, vj q3_, .second, vj q4_, .second, vj q5_, .second, vr b1, vu] [xr b1]) _
    refine st3 _ ?_
    show own_S p e below T3 (mkF m 60 #[vj p0, .second, vj p1, .second, vj p2, .second, vj p3, .second, vj p4, .second, vj p5, .second, vj q0_, .second, vj q1_, .second, vj q2_, .second, vj q3_, .second, vj q4_, .second, vj q5_, .second, vr b1, vu] [xr u1, xr b1]) _
    refine XS.lload X3.here hx rfl (hb hby at_60) rfl ?_
    show own_S p e below T3 (mkF m 62 #[vj p0, .second, vj p1, .second, vj p2, .second, vj p3, .second, vj p4, .second, vj p5, .second, vj q0_, .second, vj q1_, .second, vj q2_, .second, vj q3_, .second, vj q4_, .second, vj q5_, .second, vr b1, vu] [xj q0_, xr u1, xr b1]) _
    refine st4.trans ?_
    show own_S p e below T4 (mkF m 65 #[vj p0, .second, vj p1, .second, vj p2, .second, vj p3, .second, vj p4, .second, vj p5, .second, vj q0_, .second, vj q1_, .second, vj q2_, .second, vj q3_, .second, vj q4_, .second, vj q5_, .second, vr b1, vu] []) _
    refine XS.aload X4.here hx rfl (hb hby at_65) rfl rfl ?_
    show own_S p e below T4 (mkF m 67 #[vj p0, .second, vj p1, .second, vj p2, .second, vj p3, .second, vj p4, .second, vj p5, .second, vj q0_, .second, vj q1_, .second, vj q2_, .second, vj q3_, .second, vj q4_, .second, vj q5_, .second, vr b1, vu] [xr b1]) _
    refine st5 _ ?_
    show own_S p e below T5 (mkF m 70 #[vj p0, .second, vj p1, .second, vj p2, .second, vj p3, .second, vj p4, .second, vj p5, .second, vj q0_, .second, vj q1_, .second, vj q2_, .second, vj q3_, .second, vj q4_, .second, vj q5_, .second, vr b1, vu] [xr u2, xr b1]) _
    refine XS.lload X5.here hx rfl (hb hby at_70) rfl ?_
    show own_S p e below T5 (mkF m 72 #[vj p0, .second, vj p1, .second, vj p2, .second, vj p3, .second, vj p4, .second, vj p5, .second, vj q0_, .second, vj q1_, .second, vj q2_, .second, vj q3_, .second, vj q4_, .second, vj q5_, .second, vr b1, vu] [xj q1_, xr u2, xr b1]) _
    refine st6.trans ?_
    show own_S p e below T6 (mkF m 75 #[vj p0, .second, vj p1, .second, vj p2, .second, vj p3, .second, vj p4, .second, vj p5, .second, vj q0_, .second, vj q1_, .second, vj q2_, .second, vj q3_, .second, vj q4_, .second, vj q5_, .second, vr b1, vu] []) _
    refine XS.aload X6.here hx rfl (hb hby at_75) rfl rfl ?_
    show own_S p e below T6 (mkF m 77 #[vj p0, .second, vj p1, .second, vj p2, .second, vj p3, .second, vj p4, .second, vj p5, .second, vj q0_, .second, vj q1_, .second, vj q2_, .second, vj q3_, .second, vj q4_, .second, vj q5_, .second, vr b1, vu] [xr b1]) _
    refine st7 _ ?_
    show own_S p e below T7 (mkF m 80 #[vj p0, .second, vj p1, .second, vj p2, .second, vj p3, .second, vj p4, .second, vj p5, .second, vj q0_, .second, vj q1_, .second, vj q2_, .second, vj q3_, .second, vj q4_, .second, vj q5_, .second, vr b1, vu] [xr u3, xr b1]) _
    refine XS.lload X7.here hx rfl (hb hby at_80) rfl ?_
    show own_S p e below T7 (mkF m 82 #[vj p0, .second, vj p1, .second, vj p2, .second, vj p3, .second, vj p4, .second, vj p5, .second, vj q0_, .second, vj q1_, .second, vj q2_, .second, vj q3_, .second, vj q4_, .second, vj q5_, .second, vr b1, vu] [xj q2_, xr u3, xr b1]) _
    refine st8.trans ?_
    show own_S p e below T8 (mkF m 85 #[vj p0, .second, vj p1, .second, vj p2, .second, vj p3, .second, vj p4, .second, vj p5, .second, vj q0_, .second, vj q1_, .second, vj q2_, .second, vj q3_, .second, vj q4_, .second, vj q5_, .second, vr b1, vu] []) _
    refine XS.aload X8.here hx rfl (hb hby at_85) rfl rfl ?_
    show own_S p e below T8 (mkF m 87 #[vj p0, .second, vj p1, .second, vj p2, .second, vj p3, .second, vj p4, .second, vj p5, .second, vj q0_, .second, vj q1_, .second, vj q2_, .second, vj q3_, .second, vj q4_, .second, vj q5_, .second, vr b1, vu] [xr b1]) _
    refine st9 _ ?_
    show own_S p e below T9 (mkF m 90 #[vj p0, .second, vj p1, .second, vj p2, .second, vj p3, .second, vj p4, .second, vj p5, .second, vj q0_, .second, vj q1_, .second, vj q2_, .second, vj q3_, .second, vj q4_, .second, vj q5_, .second, vr b1, vu] [xr u4, xr b1]) _
    refine XS.lload X9.here hx rfl (hb hby at_90) rfl ?_
    show own_S p e below T9 (mkF m 92 #[vj p0, .second, vj p1, .second, vj p2, .second, vj p3, .second, vj p4, .second, vj p5, .second, vj q0_, .second, vj q1_, .second, vj q2_, .second, vj q3_, .second, vj q4_, .second, vj q5_, .second, vr b1, vu] [xj q3_, xr u4, xr b1]) _
    refine st10.trans ?_
    show own_S p e below T10 (mkF m 95 #[vj p0, .second, vj p1, .second, vj p2, .second, vj p3, .second, vj p4, .second, vj p5, .second, vj q0_, .second, vj q1_, .second, vj q2_, .second, vj q3_, .second, vj q4_, .second, vj q5_, .second, vr b1, vu] []) _
    refine XS.aload X10.here hx rfl (hb hby at_95) rfl rfl ?_
    show own_S p e below T10 (mkF m 97 #[vj p0, .second, vj p1, .second, vj p2, .second, vj p3, .second, vj p4, .second, vj p5, .second, vj q0_, .second, vj q1_, .second, vj q2_, .second, vj q3_, .second, vj q4_, .second, vj q5_, .second, vr b1, vu] [xr b1]) _
    refine st11 _ ?_
    show own_S p e below T11 (mkF m 100 #[vj p0, .second, vj p1, .second, vj p2, .second, vj p3, .second, vj p4, .second, vj p5, .second, vj q0_, .second, vj q1_, .second, vj q2_, .second, vj q3_, .second, vj q4_, .second, vj q5_, .second, vr b1, vu] [xr u5, xr b1]) _
    refine XS.lload X11.here hx rfl (hb hby at_100) rfl ?_
    show own_S p e below T11 (mkF m 102 #[vj p0, .second, vj p1, .second, vj p2, .second, vj p3, .second, vj p4, .second, vj p5, .second, vj q0_, .second, vj q1_, .second, vj q2_, .second, vj q3_, .second, vj q4_, .second, vj q5_, .second, vr b1, vu] [xj q4_, xr u5, xr b1]) _
    refine st12.trans ?_
    show own_S p e below T12 (mkF m 105 #[vj p0, .second, vj p1, .second, vj p2, .second, vj p3, .second, vj p4, .second, vj p5, .second, vj q0_, .second, vj q1_, .second, vj q2_, .second, vj q3_, .second, vj q4_, .second, vj q5_, .second, vr b1, vu] []) _
    refine XS.aload X12.here hx rfl (hb hby at_105) rfl rfl ?_
    show own_S p e below T12 (mkF m 107 #[vj p0, .second, vj p1, .second, vj p2, .second, vj p3, .second, vj p4, .second, vj p5, .second, vj q0_, .second, vj q1_, .second, vj q2_, .second, vj q3_, .second, vj q4_, .second, vj q5_, .second, vr b1, vu] [xr b1]) _
    refine st13 _ ?_
    show own_S p e below T13 (mkF m 110 #[vj p0, .second, vj p1, .second, vj p2, .second, vj p3, .second, vj p4, .second, vj p5, .second, vj q0_, .second, vj q1_, .second, vj q2_, .second, vj q3_, .second, vj q4_, .second, vj q5_, .second, vr b1, vu] [xr u6, xr b1]) _
    refine XS.lload X13.here hx rfl (hb hby at_110) rfl ?_
    show own_S p e below T13 (mkF m 112 #[vj p0, .second, vj p1, .second, vj p2, .second, vj p3, .second, vj p4, .second, vj p5, .second, vj q0_, .second, vj q1_, .second, vj q2_, .second, vj q3_, .second, vj q4_, .second, vj q5_, .second, vr b1, vu] [xj q5_, xr u6, xr b1]) _
    refine st14.trans ?_
    show own_S p e below T14 (mkF m 115 #[vj p0, .second, vj p1, .second, vj p2, .second, vj p3, .second, vj p4, .second, vj p5, .second, vj q0_, .second, vj q1_, .second, vj q2_, .second, vj q3_, .second, vj q4_, .second, vj q5_, .second, vr b1, vu] []) _
    refine XS.lload X14.here hx rfl (hb hby at_115) rfl ?_
    show own_S p e below T14 (mkF m 117 #[vj p0, .second, vj p1, .second, vj p2, .second, vj p3, .second, vj p4, .second, vj p5, .second, vj q0_, .second, vj q1_, .second, vj q2_, .second, vj q3_, .second, vj q4_, .second, vj q5_, .second, vr b1, vu] [xj q0_]) _
    refine XS.lconst X14.here hx rfl (hb hby at_117) ?_
    show own_S p e below T14 (mkF m 118 #[vj p0, .second, vj p1, .second, vj p2, .second, vj p3, .second, vj p4, .second, vj p5, .second, vj q0_, .second, vj q1_, .second, vj q2_, .second, vj q3_, .second, vj q4_, .second, vj q5_, .second, vr b1, vu] [xj (0 : Int64), xj q0_]) _
    refine XS.lcmp X14.here hx rfl (hb hby at_118) rfl ?_
    show own_S p e below T14 (mkF m 119 #[vj p0, .second, vj p1, .second, vj p2, .second, vj p3, .second, vj p4, .second, vj p5, .second, vj q0_, .second, vj q1_, .second, vj q2_, .second, vj q3_, .second, vj q4_, .second, vj q5_, .second, vr b1, vu] [xi (lcmpW q0_ (0 : Int64))]) _
    show own_S p e below T14 (mkF m 119 #[vj p0, .second, vj p1, .second, vj p2, .second, vj p3, .second, vj p4, .second, vj p5, .second, vj q0_, .second, vj q1_, .second, vj q2_, .second, vj q3_, .second, vj q4_, .second, vj q5_, .second, vr b1, vu] [xi (lcmpW q0_ (0 : Int64))]) _
    refine XS.ifNo X14.here hx rfl (hb hby at_119) rfl as19 ?_
    show own_S p e below T14 (mkF m 122 #[vj p0, .second, vj p1, .second, vj p2, .second, vj p3, .second, vj p4, .second, vj p5, .second, vj q0_, .second, vj q1_, .second, vj q2_, .second, vj q3_, .second, vj q4_, .second, vj q5_, .second, vr b1, vu] []) _
    refine XS.lload X14.here hx rfl (hb hby at_122) rfl ?_
    show own_S p e below T14 (mkF m 124 #[vj p0, .second, vj p1, .second, vj p2, .second, vj p3, .second, vj p4, .second, vj p5, .second, vj q0_, .second, vj q1_, .second, vj q2_, .second, vj q3_, .second, vj q4_, .second, vj q5_, .second, vr b1, vu] [xj q1_]) _
    refine XS.lconst X14.here hx rfl (hb hby at_124) ?_
    show own_S p e below T14 (mkF m 125 #[vj p0, .second, vj p1, .second, vj p2, .second, vj p3, .second, vj p4, .second, vj p5, .second, vj q0_, .second, vj q1_, .second, vj q2_, .second, vj q3_, .second, vj q4_, .second, vj q5_, .second, vr b1, vu] [xj (0 : Int64), xj q1_]) _
    refine XS.lcmp X14.here hx rfl (hb hby at_125) rfl ?_
    show own_S p e below T14 (mkF m 126 #[vj p0, .second, vj p1, .second, vj p2, .second, vj p3, .second, vj p4, .second, vj p5, .second, vj q0_, .second, vj q1_, .second, vj q2_, .second, vj q3_, .second, vj q4_, .second, vj q5_, .second, vr b1, vu] [xi (lcmpW q1_ (0 : Int64))]) _
    show own_S p e below T14 (mkF m 126 #[vj p0, .second, vj p1, .second, vj p2, .second, vj p3, .second, vj p4, .second, vj p5, .second, vj q0_, .second, vj q1_, .second, vj q2_, .second, vj q3_, .second, vj q4_, .second, vj q5_, .second, vr b1, vu] [xi (lcmpW q1_ (0 : Int64))]) _
    refine XS.ifNo X14.here hx rfl (hb hby at_126) rfl as23 ?_
    show own_S p e below T14 (mkF m 129 #[vj p0, .second, vj p1, .second, vj p2, .second, vj p3, .second, vj p4, .second, vj p5, .second, vj q0_, .second, vj q1_, .second, vj q2_, .second, vj q3_, .second, vj q4_, .second, vj q5_, .second, vr b1, vu] []) _
    refine XS.lload X14.here hx rfl (hb hby at_129) rfl ?_
    show own_S p e below T14 (mkF m 131 #[vj p0, .second, vj p1, .second, vj p2, .second, vj p3, .second, vj p4, .second, vj p5, .second, vj q0_, .second, vj q1_, .second, vj q2_, .second, vj q3_, .second, vj q4_, .second, vj q5_, .second, vr b1, vu] [xj q2_]) _
    refine XS.lconst X14.here hx rfl (hb hby at_131) ?_
    show own_S p e below T14 (mkF m 132 #[vj p0, .second, vj p1, .second, vj p2, .second, vj p3, .second, vj p4, .second, vj p5, .second, vj q0_, .second, vj q1_, .second, vj q2_, .second, vj q3_, .second, vj q4_, .second, vj q5_, .second, vr b1, vu] [xj (0 : Int64), xj q2_]) _
    refine XS.lcmp X14.here hx rfl (hb hby at_132) rfl ?_
    show own_S p e below T14 (mkF m 133 #[vj p0, .second, vj p1, .second, vj p2, .second, vj p3, .second, vj p4, .second, vj p5, .second, vj q0_, .second, vj q1_, .second, vj q2_, .second, vj q3_, .second, vj q4_, .second, vj q5_, .second, vr b1, vu] [xi (lcmpW q2_ (0 : Int64))]) _
    show own_S p e below T14 (mkF m 133 #[vj p0, .second, vj p1, .second, vj p2, .second, vj p3, .second, vj p4, .second, vj p5, .second, vj q0_, .second, vj q1_, .second, vj q2_, .second, vj q3_, .second, vj q4_, .second, vj q5_, .second, vr b1, vu] [xi (lcmpW q2_ (0 : Int64))]) _
    refine XS.ifNo X14.here hx rfl (hb hby at_133) rfl as27 ?_
    show own_S p e below T14 (mkF m 136 #[vj p0, .second, vj p1, .second, vj p2, .second, vj p3, .second, vj p4, .second, vj p5, .second, vj q0_, .second, vj q1_, .second, vj q2_, .second, vj q3_, .second, vj q4_, .second, vj q5_, .second, vr b1, vu] []) _
    refine XS.lload X14.here hx rfl (hb hby at_136) rfl ?_
    show own_S p e below T14 (mkF m 138 #[vj p0, .second, vj p1, .second, vj p2, .second, vj p3, .second, vj p4, .second, vj p5, .second, vj q0_, .second, vj q1_, .second, vj q2_, .second, vj q3_, .second, vj q4_, .second, vj q5_, .second, vr b1, vu] [xj q3_]) _
    refine XS.lconst X14.here hx rfl (hb hby at_138) ?_
    show own_S p e below T14 (mkF m 139 #[vj p0, .second, vj p1, .second, vj p2, .second, vj p3, .second, vj p4, .second, vj p5, .second, vj q0_, .second, vj q1_, .second, vj q2_, .second, vj q3_, .second, vj q4_, .second, vj q5_, .second, vr b1, vu] [xj (0 : Int64), xj q3_]) _
    refine XS.lcmp X14.here hx rfl (hb hby at_139) rfl ?_
    show own_S p e below T14 (mkF m 140 #[vj p0, .second, vj p1, .second, vj p2, .second, vj p3, .second, vj p4, .second, vj p5, .second, vj q0_, .second, vj q1_, .second, vj q2_, .second, vj q3_, .second, vj q4_, .second, vj q5_, .second, vr b1, vu] [xi (lcmpW q3_ (0 : Int64))]) _
    show own_S p e below T14 (mkF m 140 #[vj p0, .second, vj p1, .second, vj p2, .second, vj p3, .second, vj p4, .second, vj p5, .second, vj q0_, .second, vj q1_, .second, vj q2_, .second, vj q3_, .second, vj q4_, .second, vj q5_, .second, vr b1, vu] [xi (lcmpW q3_ (0 : Int64))]) _
    refine XS.ifYes X14.here hx rfl (pc0 := 140) (pc' := 161) rfl (hb hby at_140) rfl as33 (by decide) (by decide) ?_
    show own_S p e below T14 (mkF m 161 #[vj p0, .second, vj p1, .second, vj p2, .second, vj p3, .second, vj p4, .second, vj p5, .second, vj q0_, .second, vj q1_, .second, vj q2_, .second, vj q3_, .second, vj q4_, .second, vj q5_, .second, vr b1, vu] []) _
    refine XS.iconst X14.here hx rfl (hb hby at_161) ?_
    show own_S p e below T14 (mkF m 162 #[vj p0, .second, vj p1, .second, vj p2, .second, vj p3, .second, vj p4, .second, vj p5, .second, vj q0_, .second, vj q1_, .second, vj q2_, .second, vj q3_, .second, vj q4_, .second, vj q5_, .second, vr b1, vu] [xi (0 : Int32)]) _
    refine XS.istore X14.here hx rfl (hb hby at_162) rfl (l' := #[vj p0, .second, vj p1, .second, vj p2, .second, vj p3, .second, vj p4, .second, vj p5, .second, vj q0_, .second, vj q1_, .second, vj q2_, .second, vj q3_, .second, vj q4_, .second, vj q5_, .second, vr b1, vi (0 : Int32)]) rfl ?_
    show own_S p e below T14 (mkF m 164 #[vj p0, .second, vj p1, .second, vj p2, .second, vj p3, .second, vj p4, .second, vj p5, .second, vj q0_, .second, vj q1_, .second, vj q2_, .second, vj q3_, .second, vj q4_, .second, vj q5_, .second, vr b1, vi (0 : Int32)] []) _
    refine XS.aload X14.here hx rfl (hb hby at_164) rfl rfl ?_
    show own_S p e below T14 (mkF m 166 #[vj p0, .second, vj p1, .second, vj p2, .second, vj p3, .second, vj p4, .second, vj p5, .second, vj q0_, .second, vj q1_, .second, vj q2_, .second, vj q3_, .second, vj q4_, .second, vj q5_, .second, vr b1, vi (0 : Int32)] [xr b1]) _
    refine st15.trans ?_
    show own_S p e below T15 (mkF m 169 #[vj p0, .second, vj p1, .second, vj p2, .second, vj p3, .second, vj p4, .second, vj p5, .second, vj q0_, .second, vj q1_, .second, vj q2_, .second, vj q3_, .second, vj q4_, .second, vj q5_, .second, vr b1, vi (0 : Int32)] [xi (0 : Int32)]) _
    refine XS.iload X15.here hx rfl (hb hby at_169) rfl ?_
    show own_S p e below T15 (mkF m 171 #[vj p0, .second, vj p1, .second, vj p2, .second, vj p3, .second, vj p4, .second, vj p5, .second, vj q0_, .second, vj q1_, .second, vj q2_, .second, vj q3_, .second, vj q4_, .second, vj q5_, .second, vr b1, vi (0 : Int32)] [xi (0 : Int32), xi (0 : Int32)]) _
    refine XS.icmpNo X15.here hx rfl (hb hby at_171) rfl (by decide) ?_
    show own_S p e below T15 (mkF m 174 #[vj p0, .second, vj p1, .second, vj p2, .second, vj p3, .second, vj p4, .second, vj p5, .second, vj q0_, .second, vj q1_, .second, vj q2_, .second, vj q3_, .second, vj q4_, .second, vj q5_, .second, vr b1, vi (0 : Int32)] []) _
    refine XS.iconst X15.here hx rfl (hb hby at_174) ?_
    show own_S p e below T15 (mkF m 175 #[vj p0, .second, vj p1, .second, vj p2, .second, vj p3, .second, vj p4, .second, vj p5, .second, vj q0_, .second, vj q1_, .second, vj q2_, .second, vj q3_, .second, vj q4_, .second, vj q5_, .second, vr b1, vi (0 : Int32)] [xi (1 : Int32)]) _
    refine XS.goto X15.here hx rfl (pc0 := 175) (pc' := 179) rfl (hb hby at_175) (by decide) (by decide) ?_
    show own_S p e below T15 (mkF m 179 #[vj p0, .second, vj p1, .second, vj p2, .second, vj p3, .second, vj p4, .second, vj p5, .second, vj q0_, .second, vj q1_, .second, vj q2_, .second, vj q3_, .second, vj q4_, .second, vj q5_, .second, vr b1, vi (0 : Int32)] [xi (1 : Int32)]) _
    exact retN X15 hx (t := .boolean) Bd.returns (by simp) (hb hby at_179) hr
  · exact ⟨rfl, N15⟩
theorem ef_own_l4 (m : MethodId) (u0 u1 u2 u3 u4 u5 u6 : Addr) (p0 : Int64) (p1 : Int64) (p2 : Int64) (p3 : Int64) (p4 : Int64) (p5 : Int64) (q0_ : Int64) (q1_ : Int64) (q2_ : Int64) (q3_ : Int64) (q4_ : Int64) (q5_ : Int64) : entryFrame m #[xj p0, xj p1, xj p2, xj p3, xj p4, xj p5] maxLocals = (mkF m 0 #[vj p0, .second, vj p1, .second, vj p2, .second, vj p3, .second, vj p4, .second, vj p5, .second, vu, vu, vu, vu, vu, vu, vu, vu, vu, vu, vu, vu, vu, vu] []) := by first | (simp [entryFrame, mkF, argsToLocals, Value.category, maxLocals]; done) | rfl
set_option maxRecDepth 65536 in
set_option maxHeartbeats 40000000 in
theorem own_l4 (l : Launch) (Z : State) (a0 : Array Value) (hw : ∀ d ∈ tables_1, d.before a0 Z = true) (u0 u1 u2 u3 u4 u5 u6 : Addr) (G : own_St Z u0 u1 u2 u3 u4 u5 u6) (p0 : Int64) (p1 : Int64) (p2 : Int64) (p3 : Int64) (p4 : Int64) (p5 : Int64) (q0_ : Int64) (q1_ : Int64) (q2_ : Int64) (q3_ : Int64) (q4_ : Int64) (q5_ : Int64) (as13 : (p0 &&& (9223372036854775807 : Int64)) = q0_) (as14 : (p1 &&& (9223372036854775807 : Int64)) = q1_) (as15 : (p2 &&& (9223372036854775807 : Int64)) = q2_) (as16 : (p3 &&& (9223372036854775807 : Int64)) = q3_) (as17 : (p4 &&& (9223372036854775807 : Int64)) = q4_) (as18 : (p5 &&& (9223372036854775807 : Int64)) = q5_) (as19 : ifCond.holds .ne (lcmpW q0_ (0 : Int64)) = false) (as23 : ifCond.holds .ne (lcmpW q1_ (0 : Int64)) = false) (as29 : ifCond.holds .ne (lcmpW q2_ (0 : Int64)) = true) (as20 : ifCond.holds .le (lcmpW q0_ (0 : Int64)) = true) (as24 : ifCond.holds .le (lcmpW q1_ (0 : Int64)) = true) (as30 : ifCond.holds .le (lcmpW q2_ (0 : Int64)) = false) (h0 : Heap) (n0 : Nat) (O0 : Old Z n0 h0) : own_Met l Z x code maxLocals ret room_1 #[xj p0, xj p1, xj p2, xj p3, xj p4, xj p5] h0 (own_QL (some (xi (1 : Int32))) n0) := by
  intro ws
  refine MetFree.of_bodySF (plainFor_of_name pn4) hisR ?_
  intro p e s m args below meth c s₁ Bd hml0 hP hK
  obtain ⟨rfl, hZ, hh⟩ := hP
  have hx := Bd.exec
  have hby := Bd.bytes
  have hml : c.maxLocals = 26 := hml0
  have hown : s.vm.findClass "com/example/stackwright/stackwright/engine/ManaPoolIsEmptyPinLaw" = some m.cls := findClass_of_methodNamed Bd.named
  have hnm := (name_of_methodNamed Bd.named Bd.method).1
  have X0 : Stand p l e room_1 s m #[xj p0, xj p1, xj p2, xj p3, xj p4, xj p5] below meth c s₁ [] 0 0 := Stand.of_body Bd
  have e0 : s₁.heap = h0 := by rw [← hh, Bd.state]; rfl
  have N0 := Fr.nil n0
  have pre0 : ∀ t, Steps p.tables e below (s₁.setTop (mkF m 0 #[vj p0, .second, vj p1, .second, vj p2, .second, vj p3, .second, vj p4, .second, vj p5, .second, vu, vu, vu, vu, vu, vu, vu, vu, vu, vu, vu, vu, vu, vu] [])) t → Steps p.tables e below (s₁.setTop (entryFrame m #[xj p0, xj p1, xj p2, xj p3, xj p4, xj p5] maxLocals)) t := fun t st => castTop (ef_own_l4 m u0 u1 u2 u3 u4 u5 u6 p0 p1 p2 p3 p4 p5 q0_ q1_ q2_ q3_ q4_ q5_) st
  obtain ⟨T1, h1, X1, e1, E1, A1, D1, -, st1⟩ := newO X0 hx hZ hown (ww hw 1 rfl) (ww hw 2 rfl) (ww hw 3 rfl) e0 (g := (mkF m 46 #[vj p0, .second, vj p1, .second, vj p2, .second, vj p3, .second, vj p4, .second, vj p5, .second, vj q0_, .second, vj q1_, .second, vj q2_, .second, vj q3_, .second, vj q4_, .second, vj q5_, .second, vu, vu] [])) rfl (hb hby at_46) (by decide) (by decide)
  obtain ⟨b1, g1⟩ : ∃ z, z = h0.size := ⟨_, rfl⟩
  rw [← g1] at A1 D1 st1
  have g_b1 : n0 ≤ b1 := own_fresh O0 g1
  have O1 : Old Z n0 h1 := O0.ext E1
  have F_b1_amounts : Fld Z h1 b1 "com/example/stackwright/stackwright/engine/ManaPool" "amounts" "[J" .null := D1 (Or.inr (ww hw 34 rfl)) (ty := (.array .long)) (by decide)
  obtain ⟨_, _, ⟨T2, L2, k2, n2⟩, -, X2, ⟨Lc2, hQ2, l2, y2, z2⟩, st2⟩ := X1.specialBack hx (y := Y1) rfl hown (mvT hZ (ww hw 4 rfl)) (mvT hZ (ww hw 5 rfl)) (mvT hZ (ww hw 6 rfl)) (by decide) (backOf (W := 1) (own_init l Z a0 hw u0 u1 u2 u3 u4 u5 u6 G b1 h1 n0 O1 A1 F_b1_amounts g_b1 []) hZ (ww hw 6 rfl) (ww hw 3 rfl) (by decide) (by decide)) (g := (mkF m 50 #[vj p0, .second, vj p1, .second, vj p2, .second, vj p3, .second, vj p4, .second, vj p5, .second, vj q0_, .second, vj q1_, .second, vj q2_, .second, vj q3_, .second, vj q4_, .second, vj q5_, .second, vu, vu] [xr b1, xr b1])) rfl (by rw [hml]; rfl) (Steps.refl _) (a := b1) (argsL := []) (rest := [xr b1]) (lenOf pd3 rfl) rfl (by show 2 * 0 + _ ≤ _; exact Nat.le_of_eq rfl) (hb hby at_50) (fun _ _ => ⟨rfl, e1, (by decide : 1 + 2 ≤ _), (by decide : 1 + 12 ≤ _)⟩)
  dsimp only [Pt.U, Pt.locs, Pt.cells, Pt.slots] at X2 l2 y2 z2 st2 hQ2
  subst l2 y2 z2
  obtain ⟨h2, e2⟩ : ∃ z, T2.heap = z := ⟨_, rfl⟩
  rw [e2] at hQ2
  obtain ⟨rfl, Nq2, K2, bb2, kk2, -, Fc2, Vb2, nb2, -, g_bb2⟩ := hQ2
  have N2 := Fr.app N0 Nq2
  have O2 : Old Z n0 h2 := O1.keep K2 (allS g_b1 all0)
  have X_b1_2 := A1.keep K2
  obtain ⟨T3, X3, e3, st3⟩ := getS2 X2 hx hZ hown (host := "") (Or.inl (ww hw 35 rfl)) Via.refl e2 ((own_S_u1 G).ext O2.2) (g := (mkF m 57 #[vj p0, .second, vj p1, .second, vj p2, .second, vj p3, .second, vj p4, .second, vj p5, .second, vj q0_, .second, vj q1_, .second, vj q2_, .second, vj q3_, .second, vj q4_, .second, vj q5_, .second, vr b1, vu] [xr b1])) rfl (hb hby at_57)
  obtain ⟨cq4, kq4, qa4, qb4, qc4⟩ := isOf hZ e3 X_b1_2
  obtain ⟨_, _, ⟨T4, L4, k4, n4⟩, -, X4, ⟨Lc4, hQ4, l4, y4, z4⟩, st4⟩ := X3.virtualBack hx (y := Y5) (z := Y5) hown (mvT hZ (ww hw 36 rfl)) (mvT hZ (ww hw 37 rfl)) (notFace_of_selects (args := #[]) (mvT hZ (ww hw 39 rfl))) (mvT hZ (ww hw 39 rfl)) (mvT hZ (ww hw 38 rfl)) (by decide) (backOf (W := 0) (own_add0 l Z a0 hw u0 u1 u2 u3 u4 u5 u6 G b1 bb2 kk2 (0 : Int64) (0 : Int64) (0 : Int64) (0 : Int64) (0 : Int64) q0_ (own_nn p0 q0_ as13) h2 n0 O2 ⟨X_b1_2, Fc2, Vb2, nb2, g_b1, g_bb2⟩ []) hZ (ww hw 40 rfl) (ww hw 3 rfl) (by decide) (by decide)) qa4 qc4 (g := (mkF m 62 #[vj p0, .second, vj p1, .second, vj p2, .second, vj p3, .second, vj p4, .second, vj p5, .second, vj q0_, .second, vj q1_, .second, vj q2_, .second, vj q3_, .second, vj q4_, .second, vj q5_, .second, vr b1, vu] [xj q0_, xr u1, xr b1])) rfl (by rw [hml]; rfl) (Steps.refl _) (argsL := [xr u1, xj q0_]) (rest := []) (lenOf pd4 rfl) rfl (by show 2 * 0 + _ ≤ _; exact Nat.le_of_eq rfl) (hb hby at_62) (fun _ _ => ⟨rfl, e3, (by decide : 3 + 0 ≤ _), (by decide : 13 + 0 ≤ _)⟩)
  dsimp only [Pt.U, Pt.locs, Pt.cells, Pt.slots] at X4 l4 y4 z4 st4 hQ4
  subst l4 y4 z4
  obtain ⟨h4, e4⟩ : ∃ z, T4.heap = z := ⟨_, rfl⟩
  rw [e4] at hQ4
  obtain ⟨rfl, Nq4, K4, -, -, Vn4, -⟩ := hQ4
  have N4 := Fr.app N2 Nq4
  have O4 : Old Z n0 h4 := O2.keep K4 (allS g_bb2 all0)
  have X_b1_4 := X_b1_2.keep K4
  have F_b1_amounts_4 := Fc2.keep K4 (ninS nb2 nin0)
  obtain ⟨T5, X5, e5, st5⟩ := getS2 X4 hx hZ hown (host := "") (Or.inl (ww hw 54 rfl)) Via.refl e4 ((own_S_u2 G).ext O4.2) (g := (mkF m 67 #[vj p0, .second, vj p1, .second, vj p2, .second, vj p3, .second, vj p4, .second, vj p5, .second, vj q0_, .second, vj q1_, .second, vj q2_, .second, vj q3_, .second, vj q4_, .second, vj q5_, .second, vr b1, vu] [xr b1])) rfl (hb hby at_67)
  obtain ⟨cq6, kq6, qa6, qb6, qc6⟩ := isOf hZ e5 X_b1_4
  obtain ⟨_, _, ⟨T6, L6, k6, n6⟩, -, X6, ⟨Lc6, hQ6, l6, y6, z6⟩, st6⟩ := X5.virtualBack hx (y := Y5) (z := Y5) hown (mvT hZ (ww hw 36 rfl)) (mvT hZ (ww hw 37 rfl)) (notFace_of_selects (args := #[]) (mvT hZ (ww hw 39 rfl))) (mvT hZ (ww hw 39 rfl)) (mvT hZ (ww hw 38 rfl)) (by decide) (backOf (W := 0) (own_add1 l Z a0 hw u0 u1 u2 u3 u4 u5 u6 G b1 bb2 kk2 q0_ (0 : Int64) (0 : Int64) (0 : Int64) (0 : Int64) q1_ (own_nn p1 q1_ as14) h4 n0 O4 ⟨X_b1_4, F_b1_amounts_4, Vn4, nb2, g_b1, g_bb2⟩ []) hZ (ww hw 40 rfl) (ww hw 3 rfl) (by decide) (by decide)) qa6 qc6 (g := (mkF m 72 #[vj p0, .second, vj p1, .second, vj p2, .second, vj p3, .second, vj p4, .second, vj p5, .second, vj q0_, .second, vj q1_, .second, vj q2_, .second, vj q3_, .second, vj q4_, .second, vj q5_, .second, vr b1, vu] [xj q1_, xr u2, xr b1])) rfl (by rw [hml]; rfl) (Steps.refl _) (argsL := [xr u2, xj q1_]) (rest := []) (lenOf pd4 rfl) rfl (by show 2 * 0 + _ ≤ _; exact Nat.le_of_eq rfl) (hb hby at_72) (fun _ _ => ⟨rfl, e5, (by decide : 3 + 0 ≤ _), (by decide : 13 + 0 ≤ _)⟩)
  dsimp only [Pt.U, Pt.locs, Pt.cells, Pt.slots] at X6 l6 y6 z6 st6 hQ6
  subst l6 y6 z6
  obtain ⟨h6, e6⟩ : ∃ z, T6.heap = z := ⟨_, rfl⟩
  rw [e6] at hQ6
  obtain ⟨rfl, Nq6, K6, -, -, Vn6, -⟩ := hQ6
  have N6 := Fr.app N4 Nq6
  have O6 : Old Z n0 h6 := O4.keep K6 (allS g_bb2 all0)
  have X_b1_6 := X_b1_4.keep K6
  have F_b1_amounts_6 := F_b1_amounts_4.keep K6 (ninS nb2 nin0)
  obtain ⟨T7, X7, e7, st7⟩ := getS2 X6 hx hZ hown (host := "") (Or.inl (ww hw 55 rfl)) Via.refl e6 ((own_S_u3 G).ext O6.2) (g := (mkF m 77 #[vj p0, .second, vj p1, .second, vj p2, .second, vj p3, .second, vj p4, .second, vj p5, .second, vj q0_, .second, vj q1_, .second, vj q2_, .second, vj q3_, .second, vj q4_, .second, vj q5_, .second, vr b1, vu] [xr b1])) rfl (hb hby at_77)
  obtain ⟨cq8, kq8, qa8, qb8, qc8⟩ := isOf hZ e7 X_b1_6
  obtain ⟨_, _, ⟨T8, L8, k8, n8⟩, -, X8, ⟨Lc8, hQ8, l8, y8, z8⟩, st8⟩ := X7.virtualBack hx (y := Y5) (z := Y5) hown (mvT hZ (ww hw 36 rfl)) (mvT hZ (ww hw 37 rfl)) (notFace_of_selects (args := #[]) (mvT hZ (ww hw 39 rfl))) (mvT hZ (ww hw 39 rfl)) (mvT hZ (ww hw 38 rfl)) (by decide) (backOf (W := 0) (own_add2 l Z a0 hw u0 u1 u2 u3 u4 u5 u6 G b1 bb2 kk2 q0_ q1_ (0 : Int64) (0 : Int64) (0 : Int64) q2_ (own_nn p2 q2_ as15) h6 n0 O6 ⟨X_b1_6, F_b1_amounts_6, Vn6, nb2, g_b1, g_bb2⟩ []) hZ (ww hw 40 rfl) (ww hw 3 rfl) (by decide) (by decide)) qa8 qc8 (g := (mkF m 82 #[vj p0, .second, vj p1, .second, vj p2, .second, vj p3, .second, vj p4, .second, vj p5, .second, vj q0_, .second, vj q1_, .second, vj q2_, .second, vj q3_, .second, vj q4_, .second, vj q5_, .second, vr b1, vu] [xj q2_, xr u3, xr b1])) rfl (by rw [hml]; rfl) (Steps.refl _) (argsL := [xr u3, xj q2_]) (rest := []) (lenOf pd4 rfl) rfl (by show 2 * 0 + _ ≤ _; exact Nat.le_of_eq rfl) (hb hby at_82) (fun _ _ => ⟨rfl, e7, (by decide : 3 + 0 ≤ _), (by decide : 13 + 0 ≤ _)⟩)
  dsimp only [Pt.U, Pt.locs, Pt.cells, Pt.slots] at X8 l8 y8 z8 st8 hQ8
  subst l8 y8 z8
  obtain ⟨h8, e8⟩ : ∃ z, T8.heap = z := ⟨_, rfl⟩
  rw [e8] at hQ8
  obtain ⟨rfl, Nq8, K8, -, -, Vn8, -⟩ := hQ8
  have N8 := Fr.app N6 Nq8
  have O8 : Old Z n0 h8 := O6.keep K8 (allS g_bb2 all0)
  have X_b1_8 := X_b1_6.keep K8
  have F_b1_amounts_8 := F_b1_amounts_6.keep K8 (ninS nb2 nin0)
  obtain ⟨T9, X9, e9, st9⟩ := getS2 X8 hx hZ hown (host := "") (Or.inl (ww hw 56 rfl)) Via.refl e8 ((own_S_u4 G).ext O8.2) (g := (mkF m 87 #[vj p0, .second, vj p1, .second, vj p2, .second, vj p3, .second, vj p4, .second, vj p5, .second, vj q0_, .second, vj q1_, .second, vj q2_, .second, vj q3_, .second, vj q4_, .second, vj q5_, .second, vr b1, vu] [xr b1])) rfl (hb hby at_87)
  obtain ⟨cq10, kq10, qa10, qb10, qc10⟩ := isOf hZ e9 X_b1_8
  obtain ⟨_, _, ⟨T10, L10, k10, n10⟩, -, X10, ⟨Lc10, hQ10, l10, y10, z10⟩, st10⟩ := X9.virtualBack hx (y := Y5) (z := Y5) hown (mvT hZ (ww hw 36 rfl)) (mvT hZ (ww hw 37 rfl)) (notFace_of_selects (args := #[]) (mvT hZ (ww hw 39 rfl))) (mvT hZ (ww hw 39 rfl)) (mvT hZ (ww hw 38 rfl)) (by decide) (backOf (W := 0) (own_add3 l Z a0 hw u0 u1 u2 u3 u4 u5 u6 G b1 bb2 kk2 q0_ q1_ q2_ (0 : Int64) (0 : Int64) q3_ (own_nn p3 q3_ as16) h8 n0 O8 ⟨X_b1_8, F_b1_amounts_8, Vn8, nb2, g_b1, g_bb2⟩ []) hZ (ww hw 40 rfl) (ww hw 3 rfl) (by decide) (by decide)) qa10 qc10 (g := (mkF m 92 #[vj p0, .second, vj p1, .second, vj p2, .second, vj p3, .second, vj p4, .second, vj p5, .second, vj q0_, .second, vj q1_, .second, vj q2_, .second, vj q3_, .second, vj q4_, .second, vj q5_, .second, vr b1, vu] [xj q3_, xr u4, xr b1])) rfl (by rw [hml]; rfl) (Steps.refl _) (argsL := [xr u4, xj q3_]) (rest := []) (lenOf pd4 rfl) rfl (by show 2 * 0 + _ ≤ _; exact Nat.le_of_eq rfl) (hb hby at_92) (fun _ _ => ⟨rfl, e9, (by decide : 3 + 0 ≤ _), (by decide : 13 + 0 ≤ _)⟩)
  dsimp only [Pt.U, Pt.locs, Pt.cells, Pt.slots] at X10 l10 y10 z10 st10 hQ10
  subst l10 y10 z10
  obtain ⟨h10, e10⟩ : ∃ z, T10.heap = z := ⟨_, rfl⟩
  rw [e10] at hQ10
  obtain ⟨rfl, Nq10, K10, -, -, Vn10, -⟩ := hQ10
  have N10 := Fr.app N8 Nq10
  have O10 : Old Z n0 h10 := O8.keep K10 (allS g_bb2 all0)
  have X_b1_10 := X_b1_8.keep K10
  have F_b1_amounts_10 := F_b1_amounts_8.keep K10 (ninS nb2 nin0)
  obtain ⟨T11, X11, e11, st11⟩ := getS2 X10 hx hZ hown (host := "") (Or.inl (ww hw 57 rfl)) Via.refl e10 ((own_S_u5 G).ext O10.2) (g := (mkF m 97 #[vj p0, .second, vj p1, .second, vj p2, .second, vj p3, .second, vj p4, .second, vj p5, .second, vj q0_, .second, vj q1_, .second, vj q2_, .second, vj q3_, .second, vj q4_, .second, vj q5_, .second, vr b1, vu] [xr b1])) rfl (hb hby at_97)
  obtain ⟨cq12, kq12, qa12, qb12, qc12⟩ := isOf hZ e11 X_b1_10
  obtain ⟨_, _, ⟨T12, L12, k12, n12⟩, -, X12, ⟨Lc12, hQ12, l12, y12, z12⟩, st12⟩ := X11.virtualBack hx (y := Y5) (z := Y5) hown (mvT hZ (ww hw 36 rfl)) (mvT hZ (ww hw 37 rfl)) (notFace_of_selects (args := #[]) (mvT hZ (ww hw 39 rfl))) (mvT hZ (ww hw 39 rfl)) (mvT hZ (ww hw 38 rfl)) (by decide) (backOf (W := 0) (own_add4 l Z a0 hw u0 u1 u2 u3 u4 u5 u6 G b1 bb2 kk2 q0_ q1_ q2_ q3_ (0 : Int64) q4_ (own_nn p4 q4_ as17) h10 n0 O10 ⟨X_b1_10, F_b1_amounts_10, Vn10, nb2, g_b1, g_bb2⟩ []) hZ (ww hw 40 rfl) (ww hw 3 rfl) (by decide) (by decide)) qa12 qc12 (g := (mkF m 102 #[vj p0, .second, vj p1, .second, vj p2, .second, vj p3, .second, vj p4, .second, vj p5, .second, vj q0_, .second, vj q1_, .second, vj q2_, .second, vj q3_, .second, vj q4_, .second, vj q5_, .second, vr b1, vu] [xj q4_, xr u5, xr b1])) rfl (by rw [hml]; rfl) (Steps.refl _) (argsL := [xr u5, xj q4_]) (rest := []) (lenOf pd4 rfl) rfl (by show 2 * 0 + _ ≤ _; exact Nat.le_of_eq rfl) (hb hby at_102) (fun _ _ => ⟨rfl, e11, (by decide : 3 + 0 ≤ _), (by decide : 13 + 0 ≤ _)⟩)
  dsimp only [Pt.U, Pt.locs, Pt.cells, Pt.slots] at X12 l12 y12 z12 st12 hQ12
  subst l12 y12 z12
  obtain ⟨h12, e12⟩ : ∃ z, T12.heap = z := ⟨_, rfl⟩
  rw [e12] at hQ12
  obtain ⟨rfl, Nq12, K12, -, -, Vn12, -⟩ := hQ12
  have N12 := Fr.app N10 Nq12
  have O12 : Old Z n0 h12 := O10.keep K12 (allS g_bb2 all0)
  have X_b1_12 := X_b1_10.keep K12
  have F_b1_amounts_12 := F_b1_amounts_10.keep K12 (ninS nb2 nin0)
  obtain ⟨T13, X13, e13, st13⟩ := getS2 X12 hx hZ hown (host := "") (Or.inl (ww hw 58 rfl)) Via.refl e12 ((own_S_u6 G).ext O12.2) (g := (mkF m 107 #[vj p0, .second, vj p1, .second, vj p2, .second, vj p3, .second, vj p4, .second, vj p5, .second, vj q0_, .second, vj q1_, .second, vj q2_, .second, vj q3_, .second, vj q4_, .second, vj q5_, .second, vr b1, vu] [xr b1])) rfl (hb hby at_107)
  obtain ⟨cq14, kq14, qa14, qb14, qc14⟩ := isOf hZ e13 X_b1_12
  obtain ⟨_, _, ⟨T14, L14, k14, n14⟩, -, X14, ⟨Lc14, hQ14, l14, y14, z14⟩, st14⟩ := X13.virtualBack hx (y := Y5) (z := Y5) hown (mvT hZ (ww hw 36 rfl)) (mvT hZ (ww hw 37 rfl)) (notFace_of_selects (args := #[]) (mvT hZ (ww hw 39 rfl))) (mvT hZ (ww hw 39 rfl)) (mvT hZ (ww hw 38 rfl)) (by decide) (backOf (W := 0) (own_add5 l Z a0 hw u0 u1 u2 u3 u4 u5 u6 G b1 bb2 kk2 q0_ q1_ q2_ q3_ q4_ q5_ (own_nn p5 q5_ as18) h12 n0 O12 ⟨X_b1_12, F_b1_amounts_12, Vn12, nb2, g_b1, g_bb2⟩ []) hZ (ww hw 40 rfl) (ww hw 3 rfl) (by decide) (by decide)) qa14 qc14 (g := (mkF m 112 #[vj p0, .second, vj p1, .second, vj p2, .second, vj p3, .second, vj p4, .second, vj p5, .second, vj q0_, .second, vj q1_, .second, vj q2_, .second, vj q3_, .second, vj q4_, .second, vj q5_, .second, vr b1, vu] [xj q5_, xr u6, xr b1])) rfl (by rw [hml]; rfl) (Steps.refl _) (argsL := [xr u6, xj q5_]) (rest := []) (lenOf pd4 rfl) rfl (by show 2 * 0 + _ ≤ _; exact Nat.le_of_eq rfl) (hb hby at_112) (fun _ _ => ⟨rfl, e13, (by decide : 3 + 0 ≤ _), (by decide : 13 + 0 ≤ _)⟩)
  dsimp only [Pt.U, Pt.locs, Pt.cells, Pt.slots] at X14 l14 y14 z14 st14 hQ14
  subst l14 y14 z14
  obtain ⟨h14, e14⟩ : ∃ z, T14.heap = z := ⟨_, rfl⟩
  rw [e14] at hQ14
  obtain ⟨rfl, Nq14, K14, -, -, Vn14, -⟩ := hQ14
  have N14 := Fr.app N12 Nq14
  have O14 : Old Z n0 h14 := O12.keep K14 (allS g_bb2 all0)
  have X_b1_14 := X_b1_12.keep K14
  have F_b1_amounts_14 := F_b1_amounts_12.keep K14 (ninS nb2 nin0)
  obtain ⟨cq15, kq15, qa15, qb15, qc15⟩ := isOf hZ e14 X_b1_14
  obtain ⟨_, _, ⟨T15, L15, k15, n15⟩, -, X15, ⟨Lc15, hQ15, l15, y15, z15⟩, st15⟩ := X14.virtualBack hx (y := Y6) (z := Y6) hown (mvT hZ (ww hw 59 rfl)) (mvT hZ (ww hw 60 rfl)) (notFace_of_selects (args := #[]) (mvT hZ (ww hw 62 rfl))) (mvT hZ (ww hw 62 rfl)) (mvT hZ (ww hw 61 rfl)) (by decide) (backOf (W := 0) (own_empty2 l Z a0 hw u0 u1 u2 u3 u4 u5 u6 G b1 bb2 kk2 q0_ q1_ q2_ q3_ q4_ q5_ as20 as24 as30 h14 n0 O14 ⟨X_b1_14, F_b1_amounts_14, Vn14, nb2, g_b1, g_bb2⟩ []) hZ (ww hw 63 rfl) (ww hw 3 rfl) (by decide) (by decide)) qa15 qc15 (g := (mkF m 166 #[vj p0, .second, vj p1, .second, vj p2, .second, vj p3, .second, vj p4, .second, vj p5, .second, vj q0_, .second, vj q1_, .second, vj q2_, .second, vj q3_, .second, vj q4_, .second, vj q5_, .second, vr b1, vi (0 : Int32)] [xr b1])) rfl (by rw [hml]; rfl) (Steps.refl _) (argsL := []) (rest := []) (lenOf pd5 rfl) rfl (by show 2 * 0 + _ ≤ _; exact Nat.le_of_eq rfl) (hb hby at_166) (fun _ _ => ⟨rfl, e14, (by decide : 3 + 0 ≤ _), (by decide : 13 + 0 ≤ _)⟩)
  dsimp only [Pt.U, Pt.locs, Pt.cells, Pt.slots] at X15 l15 y15 z15 st15 hQ15
  subst l15 y15 z15
  obtain ⟨rfl, Nq15, e15⟩ := hQ15
  have N15 := Fr.app N14 Nq15
  obtain ⟨fs, hr, hrun, hended, hW, hsame⟩ := X15.leave (v := some (xi (1 : Int32))) (fun h => by rw [Bd.returns] at h; cases h)
  refine ⟨_, _, pre0 _ ?_, hrun, hended, _, _, rfl, ?_, ⟨_, rfl⟩, hW, hsame.mono (by decide) (by decide)⟩
  · show own_S p e below s₁ (mkF m 0 #[vj p0, .second, vj p1, .second, vj p2, .second, vj p3, .second, vj p4, .second, vj p5, .second, vu, vu, vu, vu, vu, vu, vu, vu, vu, vu, vu, vu, vu, vu] []) _
    refine XS.lloadN X0.here hx rfl (hb hby at_0) rfl ?_
    show own_S p e below s₁ (mkF m 1 #[vj p0, .second, vj p1, .second, vj p2, .second, vj p3, .second, vj p4, .second, vj p5, .second, vu, vu, vu, vu, vu, vu, vu, vu, vu, vu, vu, vu, vu, vu] [xj p0]) _
    refine X0.ldc2J hx hown (mvT hZ (ww hw 0 rfl)) (g := (mkF m 1 #[vj p0, .second, vj p1, .second, vj p2, .second, vj p3, .second, vj p4, .second, vj p5, .second, vu, vu, vu, vu, vu, vu, vu, vu, vu, vu, vu, vu, vu, vu] [xj p0])) rfl (hb hby at_1) ?_
    show own_S p e below s₁ (mkF m 4 #[vj p0, .second, vj p1, .second, vj p2, .second, vj p3, .second, vj p4, .second, vj p5, .second, vu, vu, vu, vu, vu, vu, vu, vu, vu, vu, vu, vu, vu, vu] [xj (9223372036854775807 : Int64), xj p0]) _
    refine XS.land X0.here hx rfl (hb hby at_4) rfl ?_
    show own_S p e below s₁ (mkF m 5 #[vj p0, .second, vj p1, .second, vj p2, .second, vj p3, .second, vj p4, .second, vj p5, .second, vu, vu, vu, vu, vu, vu, vu, vu, vu, vu, vu, vu, vu, vu] [xj (p0 &&& (9223372036854775807 : Int64))]) _
    refine castTop (show (mkF m 5 #[vj p0, .second, vj p1, .second, vj p2, .second, vj p3, .second, vj p4, .second, vj p5, .second, vu, vu, vu, vu, vu, vu, vu, vu, vu, vu, vu, vu, vu, vu] [xj (p0 &&& (9223372036854775807 : Int64))]) = (mkF m 5 #[vj p0, .second, vj p1, .second, vj p2, .second, vj p3, .second, vj p4, .second, vj p5, .second, vu, vu, vu, vu, vu, vu, vu, vu, vu, vu, vu, vu, vu, vu] [xj q0_]) from by rw [as13]) ?_
    show own_S p e below s₁ (mkF m 5 #[vj p0, .second, vj p1, .second, vj p2, .second, vj p3, .second, vj p4, .second, vj p5, .second, vu, vu, vu, vu, vu, vu, vu, vu, vu, vu, vu, vu, vu, vu] [xj q0_]) _
    refine XS.lstore X0.here hx rfl (hb hby at_5) rfl (l' := #[vj p0, .second, vj p1, .second, vj p2, .second, vj p3, .second, vj p4, .second, vj p5, .second, vj q0_, .second, vu, vu, vu, vu, vu, vu, vu, vu, vu, vu, vu, vu]) rfl ?_
    show own_S p e below s₁ (mkF m 7 #[vj p0, .second, vj p1, .second, vj p2, .second, vj p3, .second, vj p4, .second, vj p5, .second, vj q0_, .second, vu, vu, vu, vu, vu, vu, vu, vu, vu, vu, vu, vu] []) _
    refine XS.lloadN X0.here hx rfl (hb hby at_7) rfl ?_
    show own_S p e below s₁ (mkF m 8 #[vj p0, .second, vj p1, .second, vj p2, .second, vj p3, .second, vj p4, .second, vj p5, .second, vj q0_, .second, vu, vu, vu, vu, vu, vu, vu, vu, vu, vu, vu, vu] [xj p1]) _
    refine X0.ldc2J hx hown (mvT hZ (ww hw 0 rfl)) (g := (mkF m 8 #[vj p0, .second, vj p1, .second, vj p2, .second, vj p3, .second, vj p4, .second, vj p5, .second, vj q0_, .second, vu, vu, vu, vu, vu, vu, vu, vu, vu, vu, vu, vu] [xj p1])) rfl (hb hby at_8) ?_
    show own_S p e below s₁ (mkF m 11 #[vj p0, .second, vj p1, .second, vj p2, .second, vj p3, .second, vj p4, .second, vj p5, .second, vj q0_, .second, vu, vu, vu, vu, vu, vu, vu, vu, vu, vu, vu, vu] [xj (9223372036854775807 : Int64), xj p1]) _
    refine XS.land X0.here hx rfl (hb hby at_11) rfl ?_
    show own_S p e below s₁ (mkF m 12 #[vj p0, .second, vj p1, .second, vj p2, .second, vj p3, .second, vj p4, .second, vj p5, .second, vj q0_, .second, vu, vu, vu, vu, vu, vu, vu, vu, vu, vu, vu, vu] [xj (p1 &&& (9223372036854775807 : Int64))]) _
    refine castTop (show (mkF m 12 #[vj p0, .second, vj p1, .second, vj p2, .second, vj p3, .second, vj p4, .second, vj p5, .second, vj q0_, .second, vu, vu, vu, vu, vu, vu, vu, vu, vu, vu, vu, vu] [xj (p1 &&& (9223372036854775807 : Int64))]) = (mkF m 12 #[vj p0, .second, vj p1, .second, vj p2, .second, vj p3, .second, vj p4, .second, vj p5, .second, vj q0_, .second, vu, vu, vu, vu, vu, vu, vu, vu, vu, vu, vu, vu] [xj q1_]) from by rw [as14]) ?_
    show own_S p e below s₁ (mkF m 12 #[vj p0, .second, vj p1, .second, vj p2, .second, vj p3, .second, vj p4, .second, vj p5, .second, vj q0_, .second, vu, vu, vu, vu, vu, vu, vu, vu, vu, vu, vu, vu] [xj q1_]) _
    refine XS.lstore X0.here hx rfl (hb hby at_12) rfl (l' := #[vj p0, .second, vj p1, .second, vj p2, .second, vj p3, .second, vj p4, .second, vj p5, .second, vj q0_, .second, vj q1_, .second, vu, vu, vu, vu, vu, vu, vu, vu, vu, vu]) rfl ?_
    show own_S p e below s₁ (mkF m 14 #[vj p0, .second, vj p1, .second, vj p2, .second, vj p3, .second, vj p4, .second, vj p5, .second, vj q0_, .second, vj q1_, .second, vu, vu, vu, vu, vu, vu, vu, vu, vu, vu] []) _
    refine XS.lload X0.here hx rfl (hb hby at_14) rfl ?_
    show own_S p e below s₁ (mkF m 16 #[vj p0, .second, vj p1, .second, vj p2, .second, vj p3, .second, vj p4, .second, vj p5, .second, vj q0_, .second, vj q1_, .second, vu, vu, vu, vu, vu, vu, vu, vu, vu, vu] [xj p2]) _
    refine X0.ldc2J hx hown (mvT hZ (ww hw 0 rfl)) (g := (mkF m 16 #[vj p0, .second, vj p1, .second, vj p2, .second, vj p3, .second, vj p4, .second, vj p5, .second, vj q0_, .second, vj q1_, .second, vu, vu, vu, vu, vu, vu, vu, vu, vu, vu] [xj p2])) rfl (hb hby at_16) ?_
    show own_S p e below s₁ (mkF m 19 #[vj p0, .second, vj p1, .second, vj p2, .second, vj p3, .second, vj p4, .second, vj p5, .second, vj q0_, .second, vj q1_, .second, vu, vu, vu, vu, vu, vu, vu, vu, vu, vu] [xj (9223372036854775807 : Int64), xj p2]) _
    refine XS.land X0.here hx rfl (hb hby at_19) rfl ?_
    show own_S p e below s₁ (mkF m 20 #[vj p0, .second, vj p1, .second, vj p2, .second, vj p3, .second, vj p4, .second, vj p5, .second, vj q0_, .second, vj q1_, .second, vu, vu, vu, vu, vu, vu, vu, vu, vu, vu] [xj (p2 &&& (9223372036854775807 : Int64))]) _
    refine castTop (show (mkF m 20 #[vj p0, .second, vj p1, .second, vj p2, .second, vj p3, .second, vj p4, .second, vj p5, .second, vj q0_, .second, vj q1_, .second, vu, vu, vu, vu, vu, vu, vu, vu, vu, vu] [xj (p2 &&& (9223372036854775807 : Int64))]) = (mkF m 20 #[vj p0, .second, vj p1, .second, vj p2, .second, vj p3, .second, vj p4, .second, vj p5, .second, vj q0_, .second, vj q1_, .second, vu, vu, vu, vu, vu, vu, vu, vu, vu, vu] [xj q2_]) from by rw [as15]) ?_
    show own_S p e below s₁ (mkF m 20 #[vj p0, .second, vj p1, .second, vj p2, .second, vj p3, .second, vj p4, .second, vj p5, .second, vj q0_, .second, vj q1_, .second, vu, vu, vu, vu, vu, vu, vu, vu, vu, vu] [xj q2_]) _
    refine XS.lstore X0.here hx rfl (hb hby at_20) rfl (l' := #[vj p0, .second, vj p1, .second, vj p2, .second, vj p3, .second, vj p4, .second, vj p5, .second, vj q0_, .second, vj q1_, .second, vj q2_, .second, vu, vu, vu, vu, vu, vu, vu, vu]) rfl ?_
    show own_S p e below s₁ (mkF m 22 #[vj p0, .second, vj p1, .second, vj p2, .second, vj p3, .second, vj p4, .second, vj p5, .second, vj q0_, .second, vj q1_, .second, vj q2_, .second, vu, vu, vu, vu, vu, vu, vu, vu] []) _
    refine XS.lload X0.here hx rfl (hb hby at_22) rfl ?_
    show own_S p e below s₁ (mkF m 24 #[vj p0, .second, vj p1, .second, vj p2, .second, vj p3, .second, vj p4, .second, vj p5, .second, vj q0_, .second, vj q1_, .second, vj q2_, .second, vu, vu, vu, vu, vu, vu, vu, vu] [xj p3]) _
    refine X0.ldc2J hx hown (mvT hZ (ww hw 0 rfl)) (g := (mkF m 24 #[vj p0, .second, vj p1, .second, vj p2, .second, vj p3, .second, vj p4, .second, vj p5, .second, vj q0_, .second, vj q1_, .second, vj q2_, .second, vu, vu, vu, vu, vu, vu, vu, vu] [xj p3])) rfl (hb hby at_24) ?_
    show own_S p e below s₁ (mkF m 27 #[vj p0, .second, vj p1, .second, vj p2, .second, vj p3, .second, vj p4, .second, vj p5, .second, vj q0_, .second, vj q1_, .second, vj q2_, .second, vu, vu, vu, vu, vu, vu, vu, vu] [xj (9223372036854775807 : Int64), xj p3]) _
    refine XS.land X0.here hx rfl (hb hby at_27) rfl ?_
    show own_S p e below s₁ (mkF m 28 #[vj p0, .second, vj p1, .second, vj p2, .second, vj p3, .second, vj p4, .second, vj p5, .second, vj q0_, .second, vj q1_, .second, vj q2_, .second, vu, vu, vu, vu, vu, vu, vu, vu] [xj (p3 &&& (9223372036854775807 : Int64))]) _
    refine castTop (show (mkF m 28 #[vj p0, .second, vj p1, .second, vj p2, .second, vj p3, .second, vj p4, .second, vj p5, .second, vj q0_, .second, vj q1_, .second, vj q2_, .second, vu, vu, vu, vu, vu, vu, vu, vu] [xj (p3 &&& (9223372036854775807 : Int64))]) = (mkF m 28 #[vj p0, .second, vj p1, .second, vj p2, .second, vj p3, .second, vj p4, .second, vj p5, .second, vj q0_, .second, vj q1_, .second, vj q2_, .second, vu, vu, vu, vu, vu, vu, vu, vu] [xj q3_]) from by rw [as16]) ?_
    show own_S p e below s₁ (mkF m 28 #[vj p0, .second, vj p1, .second, vj p2, .second, vj p3, .second, vj p4, .second, vj p5, .second, vj q0_, .second, vj q1_, .second, vj q2_, .second, vu, vu, vu, vu, vu, vu, vu, vu] [xj q3_]) _
    refine XS.lstore X0.here hx rfl (hb hby at_28) rfl (l' := #[vj p0, .second, vj p1, .second, vj p2, .second, vj p3, .second, vj p4, .second, vj p5, .second, vj q0_, .second, vj q1_, .second, vj q2_, .second, vj q3_, .second, vu, vu, vu, vu, vu, vu]) rfl ?_
    show own_S p e below s₁ (mkF m 30 #[vj p0, .second, vj p1, .second, vj p2, .second, vj p3, .second, vj p4, .second, vj p5, .second, vj q0_, .second, vj q1_, .second, vj q2_, .second, vj q3_, .second, vu, vu, vu, vu, vu, vu] []) _
    refine XS.lload X0.here hx rfl (hb hby at_30) rfl ?_
    show own_S p e below s₁ (mkF m 32 #[vj p0, .second, vj p1, .second, vj p2, .second, vj p3, .second, vj p4, .second, vj p5, .second, vj q0_, .second, vj q1_, .second, vj q2_, .second, vj q3_, .second, vu, vu, vu, vu, vu, vu] [xj p4]) _
    refine X0.ldc2J hx hown (mvT hZ (ww hw 0 rfl)) (g := (mkF m 32 #[vj p0, .second, vj p1, .second, vj p2, .second, vj p3, .second, vj p4, .second, vj p5, .second, vj q0_, .second, vj q1_, .second, vj q2_, .second, vj q3_, .second, vu, vu, vu, vu, vu, vu] [xj p4])) rfl (hb hby at_32) ?_
    show own_S p e below s₁ (mkF m 35 #[vj p0, .second, vj p1, .second, vj p2, .second, vj p3, .second, vj p4, .second, vj p5, .second, vj q0_, .second, vj q1_, .second, vj q2_, .second, vj q3_, .second, vu, vu, vu, vu, vu, vu] [xj (9223372036854775807 : Int64), xj p4]) _
    refine XS.land X0.here hx rfl (hb hby at_35) rfl ?_
    show own_S p e below s₁ (mkF m 36 #[vj p0, .second, vj p1, .second, vj p2, .second, vj p3, .second, vj p4, .second, vj p5, .second, vj q0_, .second, vj q1_, .second, vj q2_, .second, vj q3_, .second, vu, vu, vu, vu, vu, vu] [xj (p4 &&& (9223372036854775807 : Int64))]) _
    refine castTop (show (mkF m 36 #[vj p0, .second, vj p1, .second, vj p2, .second, vj p3, .second, vj p4, .second, vj p5, .second, vj q0_, .second, vj q1_, .second, vj q2_, .second, vj q3_, .second, vu, vu, vu, vu, vu, vu] [xj (p4 &&& (9223372036854775807 : Int64))]) = (mkF m 36 #[vj p0, .second, vj p1, .second, vj p2, .second, vj p3, .second, vj p4, .second, vj p5, .second, vj q0_, .second, vj q1_, .second, vj q2_, .second, vj q3_, .second, vu, vu, vu, vu, vu, vu] [xj q4_]) from by rw [as17]) ?_
    show own_S p e below s₁ (mkF m 36 #[vj p0, .second, vj p1, .second, vj p2, .second, vj p3, .second, vj p4, .second, vj p5, .second, vj q0_, .second, vj q1_, .second, vj q2_, .second, vj q3_, .second, vu, vu, vu, vu, vu, vu] [xj q4_]) _
    refine XS.lstore X0.here hx rfl (hb hby at_36) rfl (l' := #[vj p0, .second, vj p1, .second, vj p2, .second, vj p3, .second, vj p4, .second, vj p5, .second, vj q0_, .second, vj q1_, .second, vj q2_, .second, vj q3_, .second, vj q4_, .second, vu, vu, vu, vu]) rfl ?_
    show own_S p e below s₁ (mkF m 38 #[vj p0, .second, vj p1, .second, vj p2, .second, vj p3, .second, vj p4, .second, vj p5, .second, vj q0_, .second, vj q1_, .second, vj q2_, .second, vj q3_, .second, vj q4_, .second, vu, vu, vu, vu] []) _
    refine XS.lload X0.here hx rfl (hb hby at_38) rfl ?_
    show own_S p e below s₁ (mkF m 40 #[vj p0, .second, vj p1, .second, vj p2, .second, vj p3, .second, vj p4, .second, vj p5, .second, vj q0_, .second, vj q1_, .second, vj q2_, .second, vj q3_, .second, vj q4_, .second, vu, vu, vu, vu] [xj p5]) _
    refine X0.ldc2J hx hown (mvT hZ (ww hw 0 rfl)) (g := (mkF m 40 #[vj p0, .second, vj p1, .second, vj p2, .second, vj p3, .second, vj p4, .second, vj p5, .second, vj q0_, .second, vj q1_, .second, vj q2_, .second, vj q3_, .second, vj q4_, .second, vu, vu, vu, vu] [xj p5])) rfl (hb hby at_40) ?_
    show own_S p e below s₁ (mkF m 43 #[vj p0, .second, vj p1, .second, vj p2, .second, vj p3, .second, vj p4, .second, vj p5, .second, vj q0_, .second, vj q1_, .second, vj q2_, .second, vj q3_, .second, vj q4_, .second, vu, vu, vu, vu] [xj (9223372036854775807 : Int64), xj p5]) _
    refine XS.land X0.here hx rfl (hb hby at_43) rfl ?_
    show own_S p e below s₁ (mkF m 44 #[vj p0, .second, vj p1, .second, vj p2, .second, vj p3, .second, vj p4, .second, vj p5, .second, vj q0_, .second, vj q1_, .second, vj q2_, .second, vj q3_, .second, vj q4_, .second, vu, vu, vu, vu] [xj (p5 &&& (9223372036854775807 : Int64))]) _
    refine castTop (show (mkF m 44 #[vj p0, .second, vj p1, .second, vj p2, .second, vj p3, .second, vj p4, .second, vj p5, .second, vj q0_, .second, vj q1_, .second, vj q2_, .second, vj q3_, .second, vj q4_, .second, vu, vu, vu, vu] [xj (p5 &&& (9223372036854775807 : Int64))]) = (mkF m 44 #[vj p0, .second, vj p1, .second, vj p2, .second, vj p3, .second, vj p4, .second, vj p5, .second, vj q0_, .second, vj q1_, .second, vj q2_, .second, vj q3_, .second, vj q4_, .second, vu, vu, vu, vu] [xj q5_]) from by rw [as18]) ?_
    show own_S p e below s₁ (mkF m 44 #[vj p0, .second, vj p1, .second, vj p2, .second, vj p3, .second, vj p4, .second, vj p5, .second, vj q0_, .second, vj q1_, .second, vj q2_, .second, vj q3_, .second, vj q4_, .second, vu, vu, vu, vu] [xj q5_]) _
    refine XS.lstore X0.here hx rfl (hb hby at_44) rfl (l' := #[vj p0, .second, vj p1, .second, vj p2, .second, vj p3, .second, vj p4, .second, vj p5, .second, vj q0_, .second, vj q1_, .second, vj q2_, .second, vj q3_, .second, vj q4_, .second, vj q5_, .second, vu, vu]) rfl ?_
    show own_S p e below s₁ (mkF m 46 #[vj p0, .second, vj p1, .second, vj p2, .second, vj p3, .second, vj p4, .second, vj p5, .second, vj q0_, .second, vj q1_, .second, vj q2_, .second, vj q3_, .second, vj q4_, .second, vj q5_, .second, vu, vu] []) _
    refine st1 _ ?_
    show own_S p e below T1 (mkF m 49 #[vj p0, .second, vj p1, .second, vj p2, .second, vj p3, .second, vj p4, .second, vj p5, .second, vj q0_, .second, vj q1_, .second, vj q2_, .second, vj q3_, .second, vj q4_, .second, vj q5_, .second, vu, vu] [xr b1]) _
    refine XS.dup X1.here hx rfl (hb hby at_49) rfl rfl ?_
    show own_S p e below T1 (mkF m 50 #[vj p0, .second, vj p1, .second, vj p2, .second, vj p3, .second, vj p4, .second, vj p5, .second, vj q0_, .second, vj q1_, .second, vj q2_, .second, vj q3_, .second, vj q4_, .second, vj q5_, .second, vu, vu] [xr b1, xr b1]) _
    refine st2.trans ?_
    show own_S p e below T2 (mkF m 53 #[vj p0, .second, vj p1, .second, vj p2, .second, vj p3, .second, vj p4, .second, vj p5, .second, vj q0_, .second, vj q1_, .second, vj q2_, .second, vj q3_, .second, vj q4_, .second, vj q5_, .second, vu, vu] [xr b1]) _
    refine XS.astore X2.here hx rfl (hb hby at_53) rfl rfl (l' := #[vj p0, .second, vj p1, .second, vj p2, .second, vj p3, .second, vj p4, .second, vj p5, .second, vj q0_, .second, vj q1_, .second, vj q2_, .second, vj q3_, .second, vj q4_, .second, vj q5_, .second, vr b1, vu]) rfl ?_
    show own_S p e below T2 (mkF m 55 #[vj p0, .second, vj p1, .second, vj p2, .second, vj p3, .second, vj p4, .second, vj p5, .second, vj q0_, .second, vj q1_, .second, vj q2_, .second, vj q3_, .second, vj q4_, .second, vj q5_, .second, vr b1, vu] []) _
    refine XS.aload X2.here hx rfl (hb hby at_55) rfl rfl ?_
    show own_S p e below T2 (mkF m 57 #[vj p0, .second, vj p1, .second, vj p2, .second, vj p3, .second, vj p4, .second, vj p5, .second, vj q0_, .second, vj q1_, .second, vj q2_, .second, vj q3_, .second, vj q4_, .second, vj q5_, .second, vr b1, vu] [xr b1]) _
    refine st3 _ ?_
    show own_S p e below T3 (mkF m 60 #[vj p0, .second, vj p1, .second, vj p2, .second, vj p3, .second, vj p4, .second, vj p5, .second, vj q0_, .second, vj q1_, .second, vj q2_, .second, vj q3_, .second, vj q4_, .second, vj q5_, .second, vr b1, vu] [xr u1, xr b1]) _
    refine XS.lload X3.here hx rfl (hb hby at_60) rfl ?_
    show own_S p e below T3 (mkF m 62 #[vj p0, .second, vj p1, .second, vj p2, .second, vj p3, .second, vj p4, .second, vj p5, .second, vj q0_, .second, vj q1_, .second, vj q2_, .second, vj q3_, .second, vj q4_, .second, vj q5_, .second, vr b1, vu] [xj q0_, xr u1, xr b1]) _
    refine st4.trans ?_
    show own_S p e below T4 (mkF m 65 #[vj p0, .second, vj p1, .second, vj p2, .second, vj p3, .second, vj p4, .second, vj p5, .second, vj q0_, .second, vj q1_, .second, vj q2_, .second, vj q3_, .second, vj q4_, .second, vj q5_, .second, vr b1, vu] []) _
    refine XS.aload X4.here hx rfl (hb hby at_65) rfl rfl ?_
    show own_S p e below T4 (mkF m 67 #[vj p0, .second, vj p1, .second, vj p2, .second, vj p3, .second, vj p4, .second, vj p5, .second, vj q0_, .second, vj q1_, .second, vj q2_, .second, vj q3_, .second, vj q4_, .second, vj q5_, .second, vr b1, vu] [xr b1]) _
    refine st5 _ ?_
    show own_S p e below T5 (mkF m 70 #[vj p0, .second, vj p1, .second, vj p2, .second, vj p3, .second, vj p4, .second, vj p5, .second, vj q0_, .second, vj q1_, .second, vj q2_, .second, vj q3_, .second, vj q4_, .second, vj q5_, .second, vr b1, vu] [xr u2, xr b1]) _
    refine XS.lload X5.here hx rfl (hb hby at_70) rfl ?_
    show own_S p e below T5 (mkF m 72 #[vj p0, .second, vj p1, .second, vj p2, .second, vj p3, .second, vj p4, .second, vj p5, .second, vj q0_, .second, vj q1_, .second, vj q2_, .second, vj q3_, .second, vj q4_, .second, vj q5_, .second, vr b1, vu] [xj q1_, xr u2, xr b1]) _
    refine st6.trans ?_
    show own_S p e below T6 (mkF m 75 #[vj p0, .second, vj p1, .second, vj p2, .second, vj p3, .second, vj p4, .second, vj p5, .second, vj q0_, .second, vj q1_, .second, vj q2_, .second, vj q3_, .second, vj q4_, .second, vj q5_, .second, vr b1, vu] []) _
    refine XS.aload X6.here hx rfl (hb hby at_75) rfl rfl ?_
    show own_S p e below T6 (mkF m 77 #[vj p0, .second, vj p1, .second, vj p2, .second, vj p3, .second, vj p4, .second, vj p5, .second, vj q0_, .second, vj q1_, .second, vj q2_, .second, vj q3_, .second, vj q4_, .second, vj q5_, .second, vr b1, vu] [xr b1]) _
    refine st7 _ ?_
    show own_S p e below T7 (mkF m 80 #[vj p0, .second, vj p1, .second, vj p2, .second, vj p3, .second, vj p4, .second, vj p5, .second, vj q0_, .second, vj q1_, .second, vj q2_, .second, vj q3_, .second, vj q4_, .second, vj q5_, .second, vr b1, vu] [xr u3, xr b1]) _
    refine XS.lload X7.here hx rfl (hb hby at_80) rfl ?_
    show own_S p e below T7 (mkF m 82 #[vj p0, .second, vj p1, .second, vj p2, .second, vj p3, .second, vj p4, .second, vj p5, .second, vj q0_, .second, vj q1_, .second, vj q2_, .second, vj q3_, .second, vj q4_, .second, vj q5_, .second, vr b1, vu] [xj q2_, xr u3, xr b1]) _
    refine st8.trans ?_
    show own_S p e below T8 (mkF m 85 #[vj p0, .second, vj p1, .second, vj p2, .second, vj p3, .second, vj p4, .second, vj p5, .second, vj q0_, .second, vj q1_, .second, vj q2_, .second, vj q3_, .second, vj q4_, .second, vj q5_, .second, vr b1, vu] []) _
    refine XS.aload X8.here hx rfl (hb hby at_85) rfl rfl ?_
    show own_S p e below T8 (mkF m 87 #[vj p0, .second, vj p1, .second, vj p2, .second, vj p3, .second, vj p4, .second, vj p5, .second, vj q0_, .second, vj q1_, .second, vj q2_, .second, vj q3_, .second, vj q4_, .second, vj q5_, .second, vr b1, vu] [xr b1]) _
    refine st9 _ ?_
    show own_S p e below T9 (mkF m 90 #[vj p0, .second, vj p1, .second, vj p2, .second, vj p3, .second, vj p4, .second, vj p5, .second, vj q0_, .second, vj q1_, .second, vj q2_, .second, vj q3_, .second, vj q4_, .second, vj q5_, .second, vr b1, vu] [xr u4, xr b1]) _
    refine XS.lload X9.here hx rfl (hb hby at_90) rfl ?_
    show own_S p e below T9 (mkF m 92 #[vj p0, .second, vj p1, .second, vj p2, .second, vj p3, .second, vj p4, .second, vj p5, .second, vj q0_, .second, vj q1_, .second, vj q2_, .second, vj q3_, .second, vj q4_, .second, vj q5_, .second, vr b1, vu] [xj q3_, xr u4, xr b1]) _
    refine st10.trans ?_
    show own_S p e below T10 (mkF m 95 #[vj p0, .second, vj p1, .second, vj p2, .second, vj p3, .second, vj p4, .second, vj p5, .second, vj q0_, .second, vj q1_, .second, vj q2_, .second, vj q3_, .second, vj q4_, .second, vj q5_, .second, vr b1, vu] []) _
    refine XS.aload X10.here hx rfl (hb hby at_95) rfl rfl ?_
    show own_S p e below T10 (mkF m 97 #[vj p0, .second, vj p1, .second, vj p2, .second, vj p3, .second, vj p4, .second, vj p5, .second, vj q0_, .second, vj q1_, .second, vj q2_, .second, vj q3_, .second, vj q4_, .second, vj q5_, .second, vr b1, vu] [xr b1]) _
    refine st11 _ ?_
    show own_S p e below T11 (mkF m 100 #[vj p0, .second, vj p1, .second, vj p2, .second, vj p3, .second, vj p4, .second, vj p5, .second, vj q0_, .second, vj q1_, .second, vj q2_, .second, vj q3_, .second, vj q4_, .second, vj q5_, .second, vr b1, vu] [xr u5, xr b1]) _
    refine XS.lload X11.here hx rfl (hb hby at_100) rfl ?_
    show own_S p e below T11 (mkF m 102 #[vj p0, .second, vj p1, .second, vj p2, .second, vj p3, .second, vj p4, .second, vj p5, .second, vj q0_, .second, vj q1_, .second, vj q2_, .second, vj q3_, .second, vj q4_, .second, vj q5_, .second, vr b1, vu] [xj q4_, xr u5, xr b1]) _
    refine st12.trans ?_
    show own_S p e below T12 (mkF m 105 #[vj p0, .second, vj p1, .second, vj p2, .second, vj p3, .second, vj p4, .second, vj p5, .second, vj q0_, .second, vj q1_, .second, vj q2_, .second, vj q3_, .second, vj q4_, .second, vj q5_, .second, vr b1, vu] []) _
    refine XS.aload X12.here hx rfl (hb hby at_105) rfl rfl ?_
    show own_S p e below T12 (mkF m 107 #[vj p0, .second, vj p1, .second, vj p2, .second, vj p3, .second, vj p4, .second, vj p5, .second, vj q0_, .second, vj q1_, .second, vj q2_, .second, vj q3_, .second, vj q4_, .second, vj q5_, .second, vr b1, vu] [xr b1]) _
    refine st13 _ ?_
    show own_S p e below T13 (mkF m 110 #[vj p0, .second, vj p1, .second, vj p2, .second, vj p3, .second, vj p4, .second, vj p5, .second, vj q0_, .second, vj q1_, .second, vj q2_, .second, vj q3_, .second, vj q4_, .second, vj q5_, .second, vr b1, vu] [xr u6, xr b1]) _
    refine XS.lload X13.here hx rfl (hb hby at_110) rfl ?_
    show own_S p e below T13 (mkF m 112 #[vj p0, .second, vj p1, .second, vj p2, .second, vj p3, .second, vj p4, .second, vj p5, .second, vj q0_, .second, vj q1_, .second, vj q2_, .second, vj q3_, .second, vj q4_, .second, vj q5_, .second, vr b1, vu] [xj q5_, xr u6, xr b1]) _
    refine st14.trans ?_
    show own_S p e below T14 (mkF m 115 #[vj p0, .second, vj p1, .second, vj p2, .second, vj p3, .second, vj p4, .second, vj p5, .second, vj q0_, .second, vj q1_, .second, vj q2_, .second, vj q3_, .second, vj q4_, .second, vj q5_, .second, vr b1, vu] []) _
    refine XS.lload X14.here hx rfl (hb hby at_115) rfl ?_
    show own_S p e below T14 (mkF m 117 #[vj p0, .second, vj p1, .second, vj p2, .second, vj p3, .second, vj p4, .second, vj p5, .second, vj q0_, .second, vj q1_, .second, vj q2_, .second, vj q3_, .second, vj q4_, .second, vj q5_, .second, vr b1, vu] [xj q0_]) _
    refine XS.lconst X14.here hx rfl (hb hby at_117) ?_
    show own_S p e below T14 (mkF m 118 #[vj p0, .second, vj p1, .second, vj p2, .second, vj p3, .second, vj p4, .second, vj p5, .second, vj q0_, .second, vj q1_, .second, vj q2_, .second, vj q3_, .second, vj q4_, .second, vj q5_, .second, vr b1, vu] [xj (0 : Int64), xj q0_]) _
    refine XS.lcmp X14.here hx rfl (hb hby at_118) rfl ?_
    show own_S p e below T14 (mkF m 119 #[vj p0, .second, vj p1, .second, vj p2, .second, vj p3, .second, vj p4, .second, vj p5, .second, vj q0_, .second, vj q1_, .second, vj q2_, .second, vj q3_, .second, vj q4_, .second, vj q5_, .second, vr b1, vu] [xi (lcmpW q0_ (0 : Int64))]) _
    show own_S p e below T14 (mkF m 119 #[vj p0, .second, vj p1, .second, vj p2, .second, vj p3, .second, vj p4, .second, vj p5, .second, vj q0_, .second, vj q1_, .second, vj q2_, .second, vj q3_, .second, vj q4_, .second, vj q5_, .second, vr b1, vu] [xi (lcmpW q0_ (0 : Int64))]) _
    refine XS.ifNo X14.here hx rfl (hb hby at_119) rfl as19 ?_
    show own_S p e below T14 (mkF m 122 #[vj p0, .second, vj p1, .second, vj p2, .second, vj p3, .second, vj p4, .second, vj p5, .second, vj q0_, .second, vj q1_, .second, vj q2_, .second, vj q3_, .second, vj q4_, .second, vj q5_, .second, vr b1, vu] []) _
    refine XS.lload X14.here hx rfl (hb hby at_122) rfl ?_
    show own_S p e below T14 (mkF m 124 #[vj p0, .second, vj p1, .second, vj p2, .second, vj p3, .second, vj p4, .second, vj p5, .second, vj q0_, .second, vj q1_, .second, vj q2_, .second, vj q3_, .second, vj q4_, .second, vj q5_, .second, vr b1, vu] [xj q1_]) _
    refine XS.lconst X14.here hx rfl (hb hby at_124) ?_
    show own_S p e below T14 (mkF m 125 #[vj p0, .second, vj p1, .second, vj p2, .second, vj p3, .second, vj p4, .second, vj p5, .second, vj q0_, .second, vj q1_, .second, vj q2_, .second, vj q3_, .second, vj q4_, .second, vj q5_, .second, vr b1, vu] [xj (0 : Int64), xj q1_]) _
    refine XS.lcmp X14.here hx rfl (hb hby at_125) rfl ?_
    show own_S p e below T14 (mkF m 126 #[vj p0, .second, vj p1, .second, vj p2, .second, vj p3, .second, vj p4, .second, vj p5, .second, vj q0_, .second, vj q1_, .second, vj q2_, .second, vj q3_, .second, vj q4_, .second, vj q5_, .second, vr b1, vu] [xi (lcmpW q1_ (0 : Int64))]) _
    show own_S p e below T14 (mkF m 126 #[vj p0, .second, vj p1, .second, vj p2, .second, vj p3, .second, vj p4, .second, vj p5, .second, vj q0_, .second, vj q1_, .second, vj q2_, .second, vj q3_, .second, vj q4_, .second, vj q5_, .second, vr b1, vu] [xi (lcmpW q1_ (0 : Int64))]) _
    refine XS.ifNo X14.here hx rfl (hb hby at_126) rfl as23 ?_
    show own_S p e below T14 (mkF m 129 #[vj p0, .second, vj p1, .second, vj p2, .second, vj p3, .second, vj p4, .second, vj p5, .second, vj q0_, .second, vj q1_, .second, vj q2_, .second, vj q3_, .second, vj q4_, .second, vj q5_, .second, vr b1, vu] []) _
    refine XS.lload X14.here hx rfl (hb hby at_129) rfl ?_
    show own_S p e below T14 (mkF m 131 #[vj p0, .second, vj p1, .second, vj p2, .second, vj p3, .second, vj p4, .second, vj p5, .second, vj q0_, .second, vj q1_, .second, vj q2_, .second, vj q3_, .second, vj q4_, .second, vj q5_, .second, vr b1, vu] [xj q2_]) _
    refine XS.lconst X14.here hx rfl (hb hby at_131) ?_
    show own_S p e below T14 (mkF m 132 #[vj p0, .second, vj p1, .second, vj p2, .second, vj p3, .second, vj p4, .second, vj p5, .second, vj q0_, .second, vj q1_, .second, vj q2_, .second, vj q3_, .second, vj q4_, .second, vj q5_, .second, vr b1, vu] [xj (0 : Int64), xj q2_]) _
    refine XS.lcmp X14.here hx rfl (hb hby at_132) rfl ?_
    show own_S p e below T14 (mkF m 133 #[vj p0, .second, vj p1, .second, vj p2, .second, vj p3, .second, vj p4, .second, vj p5, .second, vj q0_, .second, vj q1_, .second, vj q2_, .second, vj q3_, .second, vj q4_, .second, vj q5_, .second, vr b1, vu] [xi (lcmpW q2_ (0 : Int64))]) _
    show own_S p e below T14 (mkF m 133 #[vj p0, .second, vj p1, .second, vj p2, .second, vj p3, .second, vj p4, .second, vj p5, .second, vj q0_, .second, vj q1_, .second, vj q2_, .second, vj q3_, .second, vj q4_, .second, vj q5_, .second, vr b1, vu] [xi (lcmpW q2_ (0 : Int64))]) _
    refine XS.ifYes X14.here hx rfl (pc0 := 133) (pc' := 161) rfl (hb hby at_133) rfl as29 (by decide) (by decide) ?_
    show own_S p e below T14 (mkF m 161 #[vj p0, .second, vj p1, .second, vj p2, .second, vj p3, .second, vj p4, .second, vj p5, .second, vj q0_, .second, vj q1_, .second, vj q2_, .second, vj q3_, .second, vj q4_, .second, vj q5_, .second, vr b1, vu] []) _
    refine XS.iconst X14.here hx rfl (hb hby at_161) ?_
    show own_S p e below T14 (mkF m 162 #[vj p0, .second, vj p1, .second, vj p2, .second, vj p3, .second, vj p4, .second, vj p5, .second, vj q0_, .second, vj q1_, .second, vj q2_, .second, vj q3_, .second, vj q4_, .second, vj q5_, .second, vr b1, vu] [xi (0 : Int32)]) _
    refine XS.istore X14.here hx rfl (hb hby at_162) rfl (l' := #[vj p0, .second, vj p1, .second, vj p2, .second, vj p3, .second, vj p4, .second, vj p5, .second, vj q0_, .second, vj q1_, .second, vj q2_, .second, vj q3_, .second, vj q4_, .second, vj q5_, .second, vr b1, vi (0 : Int32)]) rfl ?_
    show own_S p e below T14 (mkF m 164 #[vj p0, .second, vj p1, .second, vj p2, .second, vj p3, .second, vj p4, .second, vj p5, .second, vj q0_, .second, vj q1_, .second, vj q2_, .second, vj q3_, .second, vj q4_, .second, vj q5_, .second, vr b1, vi (0 : Int32)] []) _
    refine XS.aload X14.here hx rfl (hb hby at_164) rfl rfl ?_
    show own_S p e below T14 (mkF m 166 #[vj p0, .second, vj p1, .second, vj p2, .second, vj p3, .second, vj p4, .second, vj p5, .second, vj q0_, .second, vj q1_, .second, vj q2_, .second, vj q3_, .second, vj q4_, .second, vj q5_, .second, vr b1, vi (0 : Int32)] [xr b1]) _
    refine st15.trans ?_
    show own_S p e below T15 (mkF m 169 #[vj p0, .second, vj p1, .second, vj p2, .second, vj p3, .second, vj p4, .second, vj p5, .second, vj q0_, .second, vj q1_, .second, vj q2_, .second, vj q3_, .second, vj q4_, .second, vj q5_, .second, vr b1, vi (0 : Int32)] [xi (0 : Int32)]) _
    refine XS.iload X15.here hx rfl (hb hby at_169) rfl ?_
    show own_S p e below T15 (mkF m 171 #[vj p0, .second, vj p1, .second, vj p2, .second, vj p3, .second, vj p4, .second, vj p5, .second, vj q0_, .second, vj q1_, .second, vj q2_, .second, vj q3_, .second, vj q4_, .second, vj q5_, .second, vr b1, vi (0 : Int32)] [xi (0 : Int32), xi (0 : Int32)]) _
    refine XS.icmpNo X15.here hx rfl (hb hby at_171) rfl (by decide) ?_
    show own_S p e below T15 (mkF m 174 #[vj p0, .second, vj p1, .second, vj p2, .second, vj p3, .second, vj p4, .second, vj p5, .second, vj q0_, .second, vj q1_, .second, vj q2_, .second, vj q3_, .second, vj q4_, .second, vj q5_, .second, vr b1, vi (0 : Int32)] []) _
    refine XS.iconst X15.here hx rfl (hb hby at_174) ?_
    show own_S p e below T15 (mkF m 175 #[vj p0, .second, vj p1, .second, vj p2, .second, vj p3, .second, vj p4, .second, vj p5, .second, vj q0_, .second, vj q1_, .second, vj q2_, .second, vj q3_, .second, vj q4_, .second, vj q5_, .second, vr b1, vi (0 : Int32)] [xi (1 : Int32)]) _
    refine XS.goto X15.here hx rfl (pc0 := 175) (pc' := 179) rfl (hb hby at_175) (by decide) (by decide) ?_
    show own_S p e below T15 (mkF m 179 #[vj p0, .second, vj p1, .second, vj p2, .second, vj p3, .second, vj p4, .second, vj p5, .second, vj q0_, .second, vj q1_, .second, vj q2_, .second, vj q3_, .second, vj q4_, .second, vj q5_, .second, vr b1, vi (0 : Int32)] [xi (1 : Int32)]) _
    exact retN X15 hx (t := .boolean) Bd.returns (by simp) (hb hby at_179) hr
  · exact ⟨rfl, N15⟩
theorem ef_own_l5 (m : MethodId) (u0 u1 u2 u3 u4 u5 u6 : Addr) (p0 : Int64) (p1 : Int64) (p2 : Int64) (p3 : Int64) (p4 : Int64) (p5 : Int64) (q0_ : Int64) (q1_ : Int64) (q2_ : Int64) (q3_ : Int64) (q4_ : Int64) (q5_ : Int64) : entryFrame m #[xj p0, xj p1, xj p2, xj p3, xj p4, xj p5] maxLocals = (mkF m 0 #[vj p0, .second, vj p1, .second, vj p2, .second, vj p3, .second, vj p4, .second, vj p5, .second, vu, vu, vu, vu, vu, vu, vu, vu, vu, vu, vu, vu, vu, vu] []) := by first | (simp [entryFrame, mkF, argsToLocals, Value.category, maxLocals]; done) | rfl
set_option maxRecDepth 65536 in
set_option maxHeartbeats 40000000 in
theorem own_l5 (l : Launch) (Z : State) (a0 : Array Value) (hw : ∀ d ∈ tables_1, d.before a0 Z = true) (u0 u1 u2 u3 u4 u5 u6 : Addr) (G : own_St Z u0 u1 u2 u3 u4 u5 u6) (p0 : Int64) (p1 : Int64) (p2 : Int64) (p3 : Int64) (p4 : Int64) (p5 : Int64) (q0_ : Int64) (q1_ : Int64) (q2_ : Int64) (q3_ : Int64) (q4_ : Int64) (q5_ : Int64) (as13 : (p0 &&& (9223372036854775807 : Int64)) = q0_) (as14 : (p1 &&& (9223372036854775807 : Int64)) = q1_) (as15 : (p2 &&& (9223372036854775807 : Int64)) = q2_) (as16 : (p3 &&& (9223372036854775807 : Int64)) = q3_) (as17 : (p4 &&& (9223372036854775807 : Int64)) = q4_) (as18 : (p5 &&& (9223372036854775807 : Int64)) = q5_) (as19 : ifCond.holds .ne (lcmpW q0_ (0 : Int64)) = false) (as25 : ifCond.holds .ne (lcmpW q1_ (0 : Int64)) = true) (as20 : ifCond.holds .le (lcmpW q0_ (0 : Int64)) = true) (as26 : ifCond.holds .le (lcmpW q1_ (0 : Int64)) = false) (h0 : Heap) (n0 : Nat) (O0 : Old Z n0 h0) : own_Met l Z x code maxLocals ret room_1 #[xj p0, xj p1, xj p2, xj p3, xj p4, xj p5] h0 (own_QL (some (xi (1 : Int32))) n0) := by
  intro ws
  refine MetFree.of_bodySF (plainFor_of_name pn4) hisR ?_
  intro p e s m args below meth c s₁ Bd hml0 hP hK
  obtain ⟨rfl, hZ, hh⟩ := hP
  have hx := Bd.exec
  have hby := Bd.bytes
  have hml : c.maxLocals = 26 := hml0
  have hown : s.vm.findClass "com/example/stackwright/stackwright/engine/ManaPoolIsEmptyPinLaw" = some m.cls := findClass_of_methodNamed Bd.named
  have hnm := (name_of_methodNamed Bd.named Bd.method).1
  have X0 : Stand p l e room_1 s m #[xj p0, xj p1, xj p2, xj p3, xj p4, xj p5] below meth c s₁ [] 0 0 := Stand.of_body Bd
  have e0 : s₁.heap = h0 := by rw [← hh, Bd.state]; rfl
  have N0 := Fr.nil n0
  have pre0 : ∀ t, Steps p.tables e below (s₁.setTop (mkF m 0 #[vj p0, .second, vj p1, .second, vj p2, .second, vj p3, .second, vj p4, .second, vj p5, .second, vu, vu, vu, vu, vu, vu, vu, vu, vu, vu, vu, vu, vu, vu] [])) t → Steps p.tables e below (s₁.setTop (entryFrame m #[xj p0, xj p1, xj p2, xj p3, xj p4, xj p5] maxLocals)) t := fun t st => castTop (ef_own_l5 m u0 u1 u2 u3 u4 u5 u6 p0 p1 p2 p3 p4 p5 q0_ q1_ q2_ q3_ q4_ q5_) st
  obtain ⟨T1, h1, X1, e1, E1, A1, D1, -, st1⟩ := newO X0 hx hZ hown (ww hw 1 rfl) (ww hw 2 rfl) (ww hw 3 rfl) e0 (g := (mkF m 46 #[vj p0, .second, vj p1, .second, vj p2, .second, vj p3, .second, vj p4, .second, vj p5, .second, vj q0_, .second, vj q1_, .second, vj q2_, .second, vj q3_, .second, vj q4_, .second, vj q5_, .second, vu, vu] [])) rfl (hb hby at_46) (by decide) (by decide)
  obtain ⟨b1, g1⟩ : ∃ z, z = h0.size := ⟨_, rfl⟩
  rw [← g1] at A1 D1 st1
  have g_b1 : n0 ≤ b1 := own_fresh O0 g1
  have O1 : Old Z n0 h1 := O0.ext E1
  have F_b1_amounts : Fld Z h1 b1 "com/example/stackwright/stackwright/engine/ManaPool" "amounts" "[J" .null := D1 (Or.inr (ww hw 34 rfl)) (ty := (.array .long)) (by decide)
  obtain ⟨_, _, ⟨T2, L2, k2, n2⟩, -, X2, ⟨Lc2, hQ2, l2, y2, z2⟩, st2⟩ := X1.specialBack hx (y := Y1) rfl hown (mvT hZ (ww hw 4 rfl)) (mvT hZ (ww hw 5 rfl)) (mvT hZ (ww hw 6 rfl)) (by decide) (backOf (W := 1) (own_init l Z a0 hw u0 u1 u2 u3 u4 u5 u6 G b1 h1 n0 O1 A1 F_b1_amounts g_b1 []) hZ (ww hw 6 rfl) (ww hw 3 rfl) (by decide) (by decide)) (g := (mkF m 50 #[vj p0, .second, vj p1, .second, vj p2, .second, vj p3, .second, vj p4, .second, vj p5, .second, vj q0_, .second, vj q1_, .second, vj q2_, .second, vj q3_, .second, vj q4_, .second, vj q5_, .second, vu, vu] [xr b1, xr b1])) rfl (by rw [hml]; rfl) (Steps.refl _) (a := b1) (argsL := []) (rest := [xr b1]) (lenOf pd3 rfl) rfl (by show 2 * 0 + _ ≤ _; exact Nat.le_of_eq rfl) (hb hby at_50) (fun _ _ => ⟨rfl, e1, (by decide : 1 + 2 ≤ _), (by decide : 1 + 12 ≤ _)⟩)
  dsimp only [Pt.U, Pt.locs, Pt.cells, Pt.slots] at X2 l2 y2 z2 st2 hQ2
  subst l2 y2 z2
  obtain ⟨h2, e2⟩ : ∃ z, T2.heap = z := ⟨_, rfl⟩
  rw [e2] at hQ2
  obtain ⟨rfl, Nq2, K2, bb2, kk2, -, Fc2, Vb2, nb2, -, g_bb2⟩ := hQ2
  have N2 := Fr.app N0 Nq2
  have O2 : Old Z n0 h2 := O1.keep K2 (allS g_b1 all0)
  have X_b1_2 := A1.keep K2
  obtain ⟨T3, X3, e3, st3⟩ := getS2 X2 hx hZ hown (host := "") (Or.inl (ww hw 35 rfl)) Via.refl e2 ((own_S_u1 G).ext O2.2) (g := (mkF m 57 #[vj p0, .second, vj p1, .second, vj p2, .second, vj p3, .second, vj p4, .second, vj p5, .second, vj q0_, .second, vj q1_, .second, vj q2_, .second, vj q3_, .second, vj q4_, .second, vj q5_, .second, vr b1, vu] [xr b1])) rfl (hb hby at_57)
  obtain ⟨cq4, kq4, qa4, qb4, qc4⟩ := isOf hZ e3 X_b1_2
  obtain ⟨_, _, ⟨T4, L4, k4, n4⟩, -, X4, ⟨Lc4, hQ4, l4, y4, z4⟩, st4⟩ := X3.virtualBack hx (y := Y5) (z := Y5) hown (mvT hZ (ww hw 36 rfl)) (mvT hZ (ww hw 37 rfl)) (notFace_of_selects (args := #[]) (mvT hZ (ww hw 39 rfl))) (mvT hZ (ww hw 39 rfl)) (mvT hZ (ww hw 38 rfl)) (by decide) (backOf (W := 0) (own_add0 l Z a0 hw u0 u1 u2 u3 u4 u5 u6 G b1 bb2 kk2 (0 : Int64) (0 : Int64) (0 : Int64) (0 : Int64) (0 : Int64) q0_ (own_nn p0 q0_ as13) h2 n0 O2 ⟨X_b1_2, Fc2, Vb2, nb2, g_b1, g_bb2⟩ []) hZ (ww hw 40 rfl) (ww hw 3 rfl) (by decide) (by decide)) qa4 qc4 (g := (mkF m 62 #[vj p0, .second, vj p1, .second, vj p2, .second, vj p3, .second, vj p4, .second, vj p5, .second, vj q0_, .second, vj q1_, .second, vj q2_, .second, vj q3_, .second, vj q4_, .second, vj q5_, .second, vr b1, vu] [xj q0_, xr u1, xr b1])) rfl (by rw [hml]; rfl) (Steps.refl _) (argsL := [xr u1, xj q0_]) (rest := []) (lenOf pd4 rfl) rfl (by show 2 * 0 + _ ≤ _; exact Nat.le_of_eq rfl) (hb hby at_62) (fun _ _ => ⟨rfl, e3, (by decide : 3 + 0 ≤ _), (by decide : 13 + 0 ≤ _)⟩)
  dsimp only [Pt.U, Pt.locs, Pt.cells, Pt.slots] at X4 l4 y4 z4 st4 hQ4
  subst l4 y4 z4
  obtain ⟨h4, e4⟩ : ∃ z, T4.heap = z := ⟨_, rfl⟩
  rw [e4] at hQ4
  obtain ⟨rfl, Nq4, K4, -, -, Vn4, -⟩ := hQ4
  have N4 := Fr.app N2 Nq4
  have O4 : Old Z n0 h4 := O2.keep K4 (allS g_bb2 all0)
  have X_b1_4 := X_b1_2.keep K4
  have F_b1_amounts_4 := Fc2.keep K4 (ninS nb2 nin0)
  obtain ⟨T5, X5, e5, st5⟩ := getS2 X4 hx hZ hown (host := "") (Or.inl (ww hw 54 rfl)) Via.refl e4 ((own_S_u2 G).ext O4.2) (g := (mkF m 67 #[vj p0, .second, vj p1, .second, vj p2, .second, vj p3, .second, vj p4, .second, vj p5, .second, vj q0_, .second, vj q1_, .second, vj q2_, .second, vj q3_, .second, vj q4_, .second, vj q5_, .second, vr b1, vu] [xr b1])) rfl (hb hby at_67)
  obtain ⟨cq6, kq6, qa6, qb6, qc6⟩ := isOf hZ e5 X_b1_4
  obtain ⟨_, _, ⟨T6, L6, k6, n6⟩, -, X6, ⟨Lc6, hQ6, l6, y6, z6⟩, st6⟩ := X5.virtualBack hx (y := Y5) (z := Y5) hown (mvT hZ (ww hw 36 rfl)) (mvT hZ (ww hw 37 rfl)) (notFace_of_selects (args := #[]) (mvT hZ (ww hw 39 rfl))) (mvT hZ (ww hw 39 rfl)) (mvT hZ (ww hw 38 rfl)) (by decide) (backOf (W := 0) (own_add1 l Z a0 hw u0 u1 u2 u3 u4 u5 u6 G b1 bb2 kk2 q0_ (0 : Int64) (0 : Int64) (0 : Int64) (0 : Int64) q1_ (own_nn p1 q1_ as14) h4 n0 O4 ⟨X_b1_4, F_b1_amounts_4, Vn4, nb2, g_b1, g_bb2⟩ []) hZ (ww hw 40 rfl) (ww hw 3 rfl) (by decide) (by decide)) qa6 qc6 (g := (mkF m 72 #[vj p0, .second, vj p1, .second, vj p2, .second, vj p3, .second, vj p4, .second, vj p5, .second, vj q0_, .second, vj q1_, .second, vj q2_, .second, vj q3_, .second, vj q4_, .second, vj q5_, .second, vr b1, vu] [xj q1_, xr u2, xr b1])) rfl (by rw [hml]; rfl) (Steps.refl _) (argsL := [xr u2, xj q1_]) (rest := []) (lenOf pd4 rfl) rfl (by show 2 * 0 + _ ≤ _; exact Nat.le_of_eq rfl) (hb hby at_72) (fun _ _ => ⟨rfl, e5, (by decide : 3 + 0 ≤ _), (by decide : 13 + 0 ≤ _)⟩)
  dsimp only [Pt.U, Pt.locs, Pt.cells, Pt.slots] at X6 l6 y6 z6 st6 hQ6
  subst l6 y6 z6
  obtain ⟨h6, e6⟩ : ∃ z, T6.heap = z := ⟨_, rfl⟩
  rw [e6] at hQ6
  obtain ⟨rfl, Nq6, K6, -, -, Vn6, -⟩ := hQ6
  have N6 := Fr.app N4 Nq6
  have O6 : Old Z n0 h6 := O4.keep K6 (allS g_bb2 all0)
  have X_b1_6 := X_b1_4.keep K6
  have F_b1_amounts_6 := F_b1_amounts_4.keep K6 (ninS nb2 nin0)
  obtain ⟨T7, X7, e7, st7⟩ := getS2 X6 hx hZ hown (host := "") (Or.inl (ww hw 55 rfl)) Via.refl e6 ((own_S_u3 G).ext O6.2) (g := (mkF m 77 #[vj p0, .second, vj p1, .second, vj p2, .second, vj p3, .second, vj p4, .second, vj p5, .second, vj q0_, .second, vj q1_, .second, vj q2_, .second, vj q3_, .second, vj q4_, .second, vj q5_, .second, vr b1, vu] [xr b1])) rfl (hb hby at_77)
  obtain ⟨cq8, kq8, qa8, qb8, qc8⟩ := isOf hZ e7 X_b1_6
  obtain ⟨_, _, ⟨T8, L8, k8, n8⟩, -, X8, ⟨Lc8, hQ8, l8, y8, z8⟩, st8⟩ := X7.virtualBack hx (y := Y5) (z := Y5) hown (mvT hZ (ww hw 36 rfl)) (mvT hZ (ww hw 37 rfl)) (notFace_of_selects (args := #[]) (mvT hZ (ww hw 39 rfl))) (mvT hZ (ww hw 39 rfl)) (mvT hZ (ww hw 38 rfl)) (by decide) (backOf (W := 0) (own_add2 l Z a0 hw u0 u1 u2 u3 u4 u5 u6 G b1 bb2 kk2 q0_ q1_ (0 : Int64) (0 : Int64) (0 : Int64) q2_ (own_nn p2 q2_ as15) h6 n0 O6 ⟨X_b1_6, F_b1_amounts_6, Vn6, nb2, g_b1, g_bb2⟩ []) hZ (ww hw 40 rfl) (ww hw 3 rfl) (by decide) (by decide)) qa8 qc8 (g := (mkF m 82 #[vj p0, .second, vj p1, .second, vj p2, .second, vj p3, .second, vj p4, .second, vj p5, .second, vj q0_, .second, vj q1_, .second, vj q2_, .second, vj q3_, .second, vj q4_, .second, vj q5_, .second, vr b1, vu] [xj q2_, xr u3, xr b1])) rfl (by rw [hml]; rfl) (Steps.refl _) (argsL := [xr u3, xj q2_]) (rest := []) (lenOf pd4 rfl) rfl (by show 2 * 0 + _ ≤ _; exact Nat.le_of_eq rfl) (hb hby at_82) (fun _ _ => ⟨rfl, e7, (by decide : 3 + 0 ≤ _), (by decide : 13 + 0 ≤ _)⟩)
  dsimp only [Pt.U, Pt.locs, Pt.cells, Pt.slots] at X8 l8 y8 z8 st8 hQ8
  subst l8 y8 z8
  obtain ⟨h8, e8⟩ : ∃ z, T8.heap = z := ⟨_, rfl⟩
  rw [e8] at hQ8
  obtain ⟨rfl, Nq8, K8, -, -, Vn8, -⟩ := hQ8
  have N8 := Fr.app N6 Nq8
  have O8 : Old Z n0 h8 := O6.keep K8 (allS g_bb2 all0)
  have X_b1_8 := X_b1_6.keep K8
  have F_b1_amounts_8 := F_b1_amounts_6.keep K8 (ninS nb2 nin0)
  obtain ⟨T9, X9, e9, st9⟩ := getS2 X8 hx hZ hown (host := "") (Or.inl (ww hw 56 rfl)) Via.refl e8 ((own_S_u4 G).ext O8.2) (g := (mkF m 87 #[vj p0, .second, vj p1, .second, vj p2, .second, vj p3, .second, vj p4, .second, vj p5, .second, vj q0_, .second, vj q1_, .second, vj q2_, .second, vj q3_, .second, vj q4_, .second, vj q5_, .second, vr b1, vu] [xr b1])) rfl (hb hby at_87)
  obtain ⟨cq10, kq10, qa10, qb10, qc10⟩ := isOf hZ e9 X_b1_8
  obtain ⟨_, _, ⟨T10, L10, k10, n10⟩, -, X10, ⟨Lc10, hQ10, l10, y10, z10⟩, st10⟩ := X9.virtualBack hx (y := Y5) (z := Y5) hown (mvT hZ (ww hw 36 rfl)) (mvT hZ (ww hw 37 rfl)) (notFace_of_selects (args := #[]) (mvT hZ (ww hw 39 rfl))) (mvT hZ (ww hw 39 rfl)) (mvT hZ (ww hw 38 rfl)) (by decide) (backOf (W := 0) (own_add3 l Z a0 hw u0 u1 u2 u3 u4 u5 u6 G b1 bb2 kk2 q0_ q1_ q2_ (0 : Int64) (0 : Int64) q3_ (own_nn p3 q3_ as16) h8 n0 O8 ⟨X_b1_8, F_b1_amounts_8, Vn8, nb2, g_b1, g_bb2⟩ []) hZ (ww hw 40 rfl) (ww hw 3 rfl) (by decide) (by decide)) qa10 qc10 (g := (mkF m 92 #[vj p0, .second, vj p1, .second, vj p2, .second, vj p3, .second, vj p4, .second, vj p5, .second, vj q0_, .second, vj q1_, .second, vj q2_, .second, vj q3_, .second, vj q4_, .second, vj q5_, .second, vr b1, vu] [xj q3_, xr u4, xr b1])) rfl (by rw [hml]; rfl) (Steps.refl _) (argsL := [xr u4, xj q3_]) (rest := []) (lenOf pd4 rfl) rfl (by show 2 * 0 + _ ≤ _; exact Nat.le_of_eq rfl) (hb hby at_92) (fun _ _ => ⟨rfl, e9, (by decide : 3 + 0 ≤ _), (by decide : 13 + 0 ≤ _)⟩)
  dsimp only [Pt.U, Pt.locs, Pt.cells, Pt.slots] at X10 l10 y10 z10 st10 hQ10
  subst l10 y10 z10
  obtain ⟨h10, e10⟩ : ∃ z, T10.heap = z := ⟨_, rfl⟩
  rw [e10] at hQ10
  obtain ⟨rfl, Nq10, K10, -, -, Vn10, -⟩ := hQ10
  have N10 := Fr.app N8 Nq10
  have O10 : Old Z n0 h10 := O8.keep K10 (allS g_bb2 all0)
  have X_b1_10 := X_b1_8.keep K10
  have F_b1_amounts_10 := F_b1_amounts_8.keep K10 (ninS nb2 nin0)
  obtain ⟨T11, X11, e11, st11⟩ := getS2 X10 hx hZ hown (host := "") (Or.inl (ww hw 57 rfl)) Via.refl e10 ((own_S_u5 G).ext O10.2) (g := (mkF m 97 #[vj p0, .second, vj p1, .second, vj p2, .second, vj p3, .second, vj p4, .second, vj p5, .second, vj q0_, .second, vj q1_, .second, vj q2_, .second, vj q3_, .second, vj q4_, .second, vj q5_, .second, vr b1, vu] [xr b1])) rfl (hb hby at_97)
  obtain ⟨cq12, kq12, qa12, qb12, qc12⟩ := isOf hZ e11 X_b1_10
  obtain ⟨_, _, ⟨T12, L12, k12, n12⟩, -, X12, ⟨Lc12, hQ12, l12, y12, z12⟩, st12⟩ := X11.virtualBack hx (y := Y5) (z := Y5) hown (mvT hZ (ww hw 36 rfl)) (mvT hZ (ww hw 37 rfl)) (notFace_of_selects (args := #[]) (mvT hZ (ww hw 39 rfl))) (mvT hZ (ww hw 39 rfl)) (mvT hZ (ww hw 38 rfl)) (by decide) (backOf (W := 0) (own_add4 l Z a0 hw u0 u1 u2 u3 u4 u5 u6 G b1 bb2 kk2 q0_ q1_ q2_ q3_ (0 : Int64) q4_ (own_nn p4 q4_ as17) h10 n0 O10 ⟨X_b1_10, F_b1_amounts_10, Vn10, nb2, g_b1, g_bb2⟩ []) hZ (ww hw 40 rfl) (ww hw 3 rfl) (by decide) (by decide)) qa12 qc12 (g := (mkF m 102 #[vj p0, .second, vj p1, .second, vj p2, .second, vj p3, .second, vj p4, .second, vj p5, .second, vj q0_, .second, vj q1_, .second, vj q2_, .second, vj q3_, .second, vj q4_, .second, vj q5_, .second, vr b1, vu] [xj q4_, xr u5, xr b1])) rfl (by rw [hml]; rfl) (Steps.refl _) (argsL := [xr u5, xj q4_]) (rest := []) (lenOf pd4 rfl) rfl (by show 2 * 0 + _ ≤ _; exact Nat.le_of_eq rfl) (hb hby at_102) (fun _ _ => ⟨rfl, e11, (by decide : 3 + 0 ≤ _), (by decide : 13 + 0 ≤ _)⟩)
  dsimp only [Pt.U, Pt.locs, Pt.cells, Pt.slots] at X12 l12 y12 z12 st12 hQ12
  subst l12 y12 z12
  obtain ⟨h12, e12⟩ : ∃ z, T12.heap = z := ⟨_, rfl⟩
  rw [e12] at hQ12
  obtain ⟨rfl, Nq12, K12, -, -, Vn12, -⟩ := hQ12
  have N12 := Fr.app N10 Nq12
  have O12 : Old Z n0 h12 := O10.keep K12 (allS g_bb2 all0)
  have X_b1_12 := X_b1_10.keep K12
  have F_b1_amounts_12 := F_b1_amounts_10.keep K12 (ninS nb2 nin0)
  obtain ⟨T13, X13, e13, st13⟩ := getS2 X12 hx hZ hown (host := "") (Or.inl (ww hw 58 rfl)) Via.refl e12 ((own_S_u6 G).ext O12.2) (g := (mkF m 107 #[vj p0, .second, vj p1, .second, vj p2, .second, vj p3, .second, vj p4, .second, vj p5, .second, vj q0_, .second, vj q1_, .second, vj q2_, .second, vj q3_, .second, vj q4_, .second, vj q5_, .second, vr b1, vu] [xr b1])) rfl (hb hby at_107)
  obtain ⟨cq14, kq14, qa14, qb14, qc14⟩ := isOf hZ e13 X_b1_12
  obtain ⟨_, _, ⟨T14, L14, k14, n14⟩, -, X14, ⟨Lc14, hQ14, l14, y14, z14⟩, st14⟩ := X13.virtualBack hx (y := Y5) (z := Y5) hown (mvT hZ (ww hw 36 rfl)) (mvT hZ (ww hw 37 rfl)) (notFace_of_selects (args := #[]) (mvT hZ (ww hw 39 rfl))) (mvT hZ (ww hw 39 rfl)) (mvT hZ (ww hw 38 rfl)) (by decide) (backOf (W := 0) (own_add5 l Z a0 hw u0 u1 u2 u3 u4 u5 u6 G b1 bb2 kk2 q0_ q1_ q2_ q3_ q4_ q5_ (own_nn p5 q5_ as18) h12 n0 O12 ⟨X_b1_12, F_b1_amounts_12, Vn12, nb2, g_b1, g_bb2⟩ []) hZ (ww hw 40 rfl) (ww hw 3 rfl) (by decide) (by decide)) qa14 qc14 (g := (mkF m 112 #[vj p0, .second, vj p1, .second, vj p2, .second, vj p3, .second, vj p4, .second, vj p5, .second, vj q0_, .second, vj q1_, .second, vj q2_, .second, vj q3_, .second, vj q4_, .second, vj q5_, .second, vr b1, vu] [xj q5_, xr u6, xr b1])) rfl (by rw [hml]; rfl) (Steps.refl _) (argsL := [xr u6, xj q5_]) (rest := []) (lenOf pd4 rfl) rfl (by show 2 * 0 + _ ≤ _; exact Nat.le_of_eq rfl) (hb hby at_112) (fun _ _ => ⟨rfl, e13, (by decide : 3 + 0 ≤ _), (by decide : 13 + 0 ≤ _)⟩)
  dsimp only [Pt.U, Pt.locs, Pt.cells, Pt.slots] at X14 l14 y14 z14 st14 hQ14
  subst l14 y14 z14
  obtain ⟨h14, e14⟩ : ∃ z, T14.heap = z := ⟨_, rfl⟩
  rw [e14] at hQ14
  obtain ⟨rfl, Nq14, K14, -, -, Vn14, -⟩ := hQ14
  have N14 := Fr.app N12 Nq14
  have O14 : Old Z n0 h14 := O12.keep K14 (allS g_bb2 all0)
  have X_b1_14 := X_b1_12.keep K14
  have F_b1_amounts_14 := F_b1_amounts_12.keep K14 (ninS nb2 nin0)
  obtain ⟨cq15, kq15, qa15, qb15, qc15⟩ := isOf hZ e14 X_b1_14
  obtain ⟨_, _, ⟨T15, L15, k15, n15⟩, -, X15, ⟨Lc15, hQ15, l15, y15, z15⟩, st15⟩ := X14.virtualBack hx (y := Y6) (z := Y6) hown (mvT hZ (ww hw 59 rfl)) (mvT hZ (ww hw 60 rfl)) (notFace_of_selects (args := #[]) (mvT hZ (ww hw 62 rfl))) (mvT hZ (ww hw 62 rfl)) (mvT hZ (ww hw 61 rfl)) (by decide) (backOf (W := 0) (own_empty1 l Z a0 hw u0 u1 u2 u3 u4 u5 u6 G b1 bb2 kk2 q0_ q1_ q2_ q3_ q4_ q5_ as20 as26 h14 n0 O14 ⟨X_b1_14, F_b1_amounts_14, Vn14, nb2, g_b1, g_bb2⟩ []) hZ (ww hw 63 rfl) (ww hw 3 rfl) (by decide) (by decide)) qa15 qc15 (g := (mkF m 166 #[vj p0, .second, vj p1, .second, vj p2, .second, vj p3, .second, vj p4, .second, vj p5, .second, vj q0_, .second, vj q1_, .second, vj q2_, .second, vj q3_, .second, vj q4_, .second, vj q5_, .second, vr b1, vi (0 : Int32)] [xr b1])) rfl (by rw [hml]; rfl) (Steps.refl _) (argsL := []) (rest := []) (lenOf pd5 rfl) rfl (by show 2 * 0 + _ ≤ _; exact Nat.le_of_eq rfl) (hb hby at_166) (fun _ _ => ⟨rfl, e14, (by decide : 3 + 0 ≤ _), (by decide : 13 + 0 ≤ _)⟩)
  dsimp only [Pt.U, Pt.locs, Pt.cells, Pt.slots] at X15 l15 y15 z15 st15 hQ15
  subst l15 y15 z15
  obtain ⟨rfl, Nq15, e15⟩ := hQ15
  have N15 := Fr.app N14 Nq15
  obtain ⟨fs, hr, hrun, hended, hW, hsame⟩ := X15.leave (v := some (xi (1 : Int32))) (fun h => by rw [Bd.returns] at h; cases h)
  refine ⟨_, _, pre0 _ ?_, hrun, hended, _, _, rfl, ?_, ⟨_, rfl⟩, hW, hsame.mono (by decide) (by decide)⟩
  · show own_S p e below s₁ (mkF m 0 #[vj p0, .second, vj p1, .second, vj p2, .second, vj p3, .second, vj p4, .second, vj p5, .second, vu, vu, vu, vu, vu, vu, vu, vu, vu, vu, vu, vu, vu, vu] []) _
    refine XS.lloadN X0.here hx rfl (hb hby at_0) rfl ?_
    show own_S p e below s₁ (mkF m 1 #[vj p0, .second, vj p1, .second, vj p2, .second, vj p3, .second, vj p4, .second, vj p5, .second, vu, vu, vu, vu, vu, vu, vu, vu, vu, vu, vu, vu, vu, vu] [xj p0]) _
    refine X0.ldc2J hx hown (mvT hZ (ww hw 0 rfl)) (g := (mkF m 1 #[vj p0, .second, vj p1, .second, vj p2, .second, vj p3, .second, vj p4, .second, vj p5, .second, vu, vu, vu, vu, vu, vu, vu, vu, vu, vu, vu, vu, vu, vu] [xj p0])) rfl (hb hby at_1) ?_
    show own_S p e below s₁ (mkF m 4 #[vj p0, .second, vj p1, .second, vj p2, .second, vj p3, .second, vj p4, .second, vj p5, .second, vu, vu, vu, vu, vu, vu, vu, vu, vu, vu, vu, vu, vu, vu] [xj (9223372036854775807 : Int64), xj p0]) _
    refine XS.land X0.here hx rfl (hb hby at_4) rfl ?_
    show own_S p e below s₁ (mkF m 5 #[vj p0, .second, vj p1, .second, vj p2, .second, vj p3, .second, vj p4, .second, vj p5, .second, vu, vu, vu, vu, vu, vu, vu, vu, vu, vu, vu, vu, vu, vu] [xj (p0 &&& (9223372036854775807 : Int64))]) _
    refine castTop (show (mkF m 5 #[vj p0, .second, vj p1, .second, vj p2, .second, vj p3, .second, vj p4, .second, vj p5, .second, vu, vu, vu, vu, vu, vu, vu, vu, vu, vu, vu, vu, vu, vu] [xj (p0 &&& (9223372036854775807 : Int64))]) = (mkF m 5 #[vj p0, .second, vj p1, .second, vj p2, .second, vj p3, .second, vj p4, .second, vj p5, .second, vu, vu, vu, vu, vu, vu, vu, vu, vu, vu, vu, vu, vu, vu] [xj q0_]) from by rw [as13]) ?_
    show own_S p e below s₁ (mkF m 5 #[vj p0, .second, vj p1, .second, vj p2, .second, vj p3, .second, vj p4, .second, vj p5, .second, vu, vu, vu, vu, vu, vu, vu, vu, vu, vu, vu, vu, vu, vu] [xj q0_]) _
    refine XS.lstore X0.here hx rfl (hb hby at_5) rfl (l' := #[vj p0, .second, vj p1, .second, vj p2, .second, vj p3, .second, vj p4, .second, vj p5, .second, vj q0_, .second, vu, vu, vu, vu, vu, vu, vu, vu, vu, vu, vu, vu]) rfl ?_
    show own_S p e below s₁ (mkF m 7 #[vj p0, .second, vj p1, .second, vj p2, .second, vj p3, .second, vj p4, .second, vj p5, .second, vj q0_, .second, vu, vu, vu, vu, vu, vu, vu, vu, vu, vu, vu, vu] []) _
    refine XS.lloadN X0.here hx rfl (hb hby at_7) rfl ?_
    show own_S p e below s₁ (mkF m 8 #[vj p0, .second, vj p1, .second, vj p2, .second, vj p3, .second, vj p4, .second, vj p5, .second, vj q0_, .second, vu, vu, vu, vu, vu, vu, vu, vu, vu, vu, vu, vu] [xj p1]) _
    refine X0.ldc2J hx hown (mvT hZ (ww hw 0 rfl)) (g := (mkF m 8 #[vj p0, .second, vj p1, .second, vj p2, .second, vj p3, .second, vj p4, .second, vj p5, .second, vj q0_, .second, vu, vu, vu, vu, vu, vu, vu, vu, vu, vu, vu, vu] [xj p1])) rfl (hb hby at_8) ?_
    show own_S p e below s₁ (mkF m 11 #[vj p0, .second, vj p1, .second, vj p2, .second, vj p3, .second, vj p4, .second, vj p5, .second, vj q0_, .second, vu, vu, vu, vu, vu, vu, vu, vu, vu, vu, vu, vu] [xj (9223372036854775807 : Int64), xj p1]) _
    refine XS.land X0.here hx rfl (hb hby at_11) rfl ?_
    show own_S p e below s₁ (mkF m 12 #[vj p0, .second, vj p1, .second, vj p2, .second, vj p3, .second, vj p4, .second, vj p5, .second, vj q0_, .second, vu, vu, vu, vu, vu, vu, vu, vu, vu, vu, vu, vu] [xj (p1 &&& (9223372036854775807 : Int64))]) _
    refine castTop (show (mkF m 12 #[vj p0, .second, vj p1, .second, vj p2, .second, vj p3, .second, vj p4, .second, vj p5, .second, vj q0_, .second, vu, vu, vu, vu, vu, vu, vu, vu, vu, vu, vu, vu] [xj (p1 &&& (9223372036854775807 : Int64))]) = (mkF m 12 #[vj p0, .second, vj p1, .second, vj p2, .second, vj p3, .second, vj p4, .second, vj p5, .second, vj q0_, .second, vu, vu, vu, vu, vu, vu, vu, vu, vu, vu, vu, vu] [xj q1_]) from by rw [as14]) ?_
    show own_S p e below s₁ (mkF m 12 #[vj p0, .second, vj p1, .second, vj p2, .second, vj p3, .second, vj p4, .second, vj p5, .second, vj q0_, .second, vu, vu, vu, vu, vu, vu, vu, vu, vu, vu, vu, vu] [xj q1_]) _
    refine XS.lstore X0.here hx rfl (hb hby at_12) rfl (l' := #[vj p0, .second, vj p1, .second, vj p2, .second, vj p3, .second, vj p4, .second, vj p5, .second, vj q0_, .second, vj q1_, .second, vu, vu, vu, vu, vu, vu, vu, vu, vu, vu]) rfl ?_
    show own_S p e below s₁ (mkF m 14 #[vj p0, .second, vj p1, .second, vj p2, .second, vj p3, .second, vj p4, .second, vj p5, .second, vj q0_, .second, vj q1_, .second, vu, vu, vu, vu, vu, vu, vu, vu, vu, vu] []) _
    refine XS.lload X0.here hx rfl (hb hby at_14) rfl ?_
    show own_S p e below s₁ (mkF m 16 #[vj p0, .second, vj p1, .second, vj p2, .second, vj p3, .second, vj p4, .second, vj p5, .second, vj q0_, .second, vj q1_, .second, vu, vu, vu, vu, vu, vu, vu, vu, vu, vu] [xj p2]) _
    refine X0.ldc2J hx hown (mvT hZ (ww hw 0 rfl)) (g := (mkF m 16 #[vj p0, .second, vj p1, .second, vj p2, .second, vj p3, .second, vj p4, .second, vj p5, .second, vj q0_, .second, vj q1_, .second, vu, vu, vu, vu, vu, vu, vu, vu, vu, vu] [xj p2])) rfl (hb hby at_16) ?_
    show own_S p e below s₁ (mkF m 19 #[vj p0, .second, vj p1, .second, vj p2, .second, vj p3, .second, vj p4, .second, vj p5, .second, vj q0_, .second, vj q1_, .second, vu, vu, vu, vu, vu, vu, vu, vu, vu, vu] [xj (9223372036854775807 : Int64), xj p2]) _
    refine XS.land X0.here hx rfl (hb hby at_19) rfl ?_
    show own_S p e below s₁ (mkF m 20 #[vj p0, .second, vj p1, .second, vj p2, .second, vj p3, .second, vj p4, .second, vj p5, .second, vj q0_, .second, vj q1_, .second, vu, vu, vu, vu, vu, vu, vu, vu, vu, vu] [xj (p2 &&& (9223372036854775807 : Int64))]) _
    refine castTop (show (mkF m 20 #[vj p0, .second, vj p1, .second, vj p2, .second, vj p3, .second, vj p4, .second, vj p5, .second, vj q0_, .second, vj q1_, .second, vu, vu, vu, vu, vu, vu, vu, vu, vu, vu] [xj (p2 &&& (9223372036854775807 : Int64))]) = (mkF m 20 #[vj p0, .second, vj p1, .second, vj p2, .second, vj p3, .second, vj p4, .second, vj p5, .second, vj q0_, .second, vj q1_, .second, vu, vu, vu, vu, vu, vu, vu, vu, vu, vu] [xj q2_]) from by rw [as15]) ?_
    show own_S p e below s₁ (mkF m 20 #[vj p0, .second, vj p1, .second, vj p2, .second, vj p3, .second, vj p4, .second, vj p5, .second, vj q0_, .second, vj q1_, .second, vu, vu, vu, vu, vu, vu, vu, vu, vu, vu] [xj q2_]) _
    refine XS.lstore X0.here hx rfl (hb hby at_20) rfl (l' := #[vj p0, .second, vj p1, .second, vj p2, .second, vj p3, .second, vj p4, .second, vj p5, .second, vj q0_, .second, vj q1_, .second, vj q2_, .second, vu, vu, vu, vu, vu, vu, vu, vu]) rfl ?_
    show own_S p e below s₁ (mkF m 22 #[vj p0, .second, vj p1, .second, vj p2, .second, vj p3, .second, vj p4, .second, vj p5, .second, vj q0_, .second, vj q1_, .second, vj q2_, .second, vu, vu, vu, vu, vu, vu, vu, vu] []) _
    refine XS.lload X0.here hx rfl (hb hby at_22) rfl ?_
    show own_S p e below s₁ (mkF m 24 #[vj p0, .second, vj p1, .second, vj p2, .second, vj p3, .second, vj p4, .second, vj p5, .second, vj q0_, .second, vj q1_, .second, vj q2_, .second, vu, vu, vu, vu, vu, vu, vu, vu] [xj p3]) _
    refine X0.ldc2J hx hown (mvT hZ (ww hw 0 rfl)) (g := (mkF m 24 #[vj p0, .second, vj p1, .second, vj p2, .second, vj p3, .second, vj p4, .second, vj p5, .second, vj q0_, .second, vj q1_, .second, vj q2_, .second, vu, vu, vu, vu, vu, vu, vu, vu] [xj p3])) rfl (hb hby at_24) ?_
    show own_S p e below s₁ (mkF m 27 #[vj p0, .second, vj p1, .second, vj p2, .second, vj p3, .second, vj p4, .second, vj p5, .second, vj q0_, .second, vj q1_, .second, vj q2_, .second, vu, vu, vu, vu, vu, vu, vu, vu] [xj (9223372036854775807 : Int64), xj p3]) _
    refine XS.land X0.here hx rfl (hb hby at_27) rfl ?_
    show own_S p e below s₁ (mkF m 28 #[vj p0, .second, vj p1, .second, vj p2, .second, vj p3, .second, vj p4, .second, vj p5, .second, vj q0_, .second, vj q1_, .second, vj q2_, .second, vu, vu, vu, vu, vu, vu, vu, vu] [xj (p3 &&& (9223372036854775807 : Int64))]) _
    refine castTop (show (mkF m 28 #[vj p0, .second, vj p1, .second, vj p2, .second, vj p3, .second, vj p4, .second, vj p5, .second, vj q0_, .second, vj q1_, .second, vj q2_, .second, vu, vu, vu, vu, vu, vu, vu, vu] [xj (p3 &&& (9223372036854775807 : Int64))]) = (mkF m 28 #[vj p0, .second, vj p1, .second, vj p2, .second, vj p3, .second, vj p4, .second, vj p5, .second, vj q0_, .second, vj q1_, .second, vj q2_, .second, vu, vu, vu, vu, vu, vu, vu, vu] [xj q3_]) from by rw [as16]) ?_
    show own_S p e below s₁ (mkF m 28 #[vj p0, .second, vj p1, .second, vj p2, .second, vj p3, .second, vj p4, .second, vj p5, .second, vj q0_, .second, vj q1_, .second, vj q2_, .second, vu, vu, vu, vu, vu, vu, vu, vu] [xj q3_]) _
    refine XS.lstore X0.here hx rfl (hb hby at_28) rfl (l' := #[vj p0, .second, vj p1, .second, vj p2, .second, vj p3, .second, vj p4, .second, vj p5, .second, vj q0_, .second, vj q1_, .second, vj q2_, .second, vj q3_, .second, vu, vu, vu, vu, vu, vu]) rfl ?_
    show own_S p e below s₁ (mkF m 30 #[vj p0, .second, vj p1, .second, vj p2, .second, vj p3, .second, vj p4, .second, vj p5, .second, vj q0_, .second, vj q1_, .second, vj q2_, .second, vj q3_, .second, vu, vu, vu, vu, vu, vu] []) _
    refine XS.lload X0.here hx rfl (hb hby at_30) rfl ?_
    show own_S p e below s₁ (mkF m 32 #[vj p0, .second, vj p1, .second, vj p2, .second, vj p3, .second, vj p4, .second, vj p5, .second, vj q0_, .second, vj q1_, .second, vj q2_, .second, vj q3_, .second, vu, vu, vu, vu, vu, vu] [xj p4]) _
    refine X0.ldc2J hx hown (mvT hZ (ww hw 0 rfl)) (g := (mkF m 32 #[vj p0, .second, vj p1, .second, vj p2, .second, vj p3, .second, vj p4, .second, vj p5, .second, vj q0_, .second, vj q1_, .second, vj q2_, .second, vj q3_, .second, vu, vu, vu, vu, vu, vu] [xj p4])) rfl (hb hby at_32) ?_
    show own_S p e below s₁ (mkF m 35 #[vj p0, .second, vj p1, .second, vj p2, .second, vj p3, .second, vj p4, .second, vj p5, .second, vj q0_, .second, vj q1_, .second, vj q2_, .second, vj q3_, .second, vu, vu, vu, vu, vu, vu] [xj (9223372036854775807 : Int64), xj p4]) _
    refine XS.land X0.here hx rfl (hb hby at_35) rfl ?_
    show own_S p e below s₁ (mkF m 36 #[vj p0, .second, vj p1, .second, vj p2, .second, vj p3, .second, vj p4, .second, vj p5, .second, vj q0_, .second, vj q1_, .second, vj q2_, .second, vj q3_, .second, vu, vu, vu, vu, vu, vu] [xj (p4 &&& (9223372036854775807 : Int64))]) _
    refine castTop (show (mkF m 36 #[vj p0, .second, vj p1, .second, vj p2, .second, vj p3, .second, vj p4, .second, vj p5, .second, vj q0_, .second, vj q1_, .second, vj q2_, .second, vj q3_, .second, vu, vu, vu, vu, vu, vu] [xj (p4 &&& (9223372036854775807 : Int64))]) = (mkF m 36 #[vj p0, .second, vj p1, .second, vj p2, .second, vj p3, .second, vj p4, .second, vj p5, .second, vj q0_, .second, vj q1_, .second, vj q2_, .second, vj q3_, .second, vu, vu, vu, vu, vu, vu] [xj q4_]) from by rw [as17]) ?_
    show own_S p e below s₁ (mkF m 36 #[vj p0, .second, vj p1, .second, vj p2, .second, vj p3, .second, vj p4, .second, vj p5, .second, vj q0_, .second, vj q1_, .second, vj q2_, .second, vj q3_, .second, vu, vu, vu, vu, vu, vu] [xj q4_]) _
    refine XS.lstore X0.here hx rfl (hb hby at_36) rfl (l' := #[vj p0, .second, vj p1, .second, vj p2, .second, vj p3, .second, vj p4, .second, vj p5, .second, vj q0_, .second, vj q1_, .second, vj q2_, .second, vj q3_, .second, vj q4_, .second, vu, vu, vu, vu]) rfl ?_
    show own_S p e below s₁ (mkF m 38 #[vj p0, .second, vj p1, .second, vj p2, .second, vj p3, .second, vj p4, .second, vj p5, .second, vj q0_, .second, vj q1_, .second, vj q2_, .second, vj q3_, .second, vj q4_, .second, vu, vu, vu, vu] []) _
    refine XS.lload X0.here hx rfl (hb hby at_38) rfl ?_
    show own_S p e below s₁ (mkF m 40 #[vj p0, .second, vj p1, .second, vj p2, .second, vj p3, .second, vj p4, .second, vj p5, .second, vj q0_, .second, vj q1_, .second, vj q2_, .second, vj q3_, .second, vj q4_, .second, vu, vu, vu, vu] [xj p5]) _
    refine X0.ldc2J hx hown (mvT hZ (ww hw 0 rfl)) (g := (mkF m 40 #[vj p0, .second, vj p1, .second, vj p2, .second, vj p3, .second, vj p4, .second, vj p5, .second, vj q0_, .second, vj q1_, .second, vj q2_, .second, vj q3_, .second, vj q4_, .second, vu, vu, vu, vu] [xj p5])) rfl (hb hby at_40) ?_
    show own_S p e below s₁ (mkF m 43 #[vj p0, .second, vj p1, .second, vj p2, .second, vj p3, .second, vj p4, .second, vj p5, .second, vj q0_, .second, vj q1_, .second, vj q2_, .second, vj q3_, .second, vj q4_, .second, vu, vu, vu, vu] [xj (9223372036854775807 : Int64), xj p5]) _
    refine XS.land X0.here hx rfl (hb hby at_43) rfl ?_
    show own_S p e below s₁ (mkF m 44 #[vj p0, .second, vj p1, .second, vj p2, .second, vj p3, .second, vj p4, .second, vj p5, .second, vj q0_, .second, vj q1_, .second, vj q2_, .second, vj q3_, .second, vj q4_, .second, vu, vu, vu, vu] [xj (p5 &&& (9223372036854775807 : Int64))]) _
    refine castTop (show (mkF m 44 #[vj p0, .second, vj p1, .second, vj p2, .second, vj p3, .second, vj p4, .second, vj p5, .second, vj q0_, .second, vj q1_, .second, vj q2_, .second, vj q3_, .second, vj q4_, .second, vu, vu, vu, vu] [xj (p5 &&& (9223372036854775807 : Int64))]) = (mkF m 44 #[vj p0, .second, vj p1, .second, vj p2, .second, vj p3, .second, vj p4, .second, vj p5, .second, vj q0_, .second, vj q1_, .second, vj q2_, .second, vj q3_, .second, vj q4_, .second, vu, vu, vu, vu] [xj q5_]) from by rw [as18]) ?_
    show own_S p e below s₁ (mkF m 44 #[vj p0, .second, vj p1, .second, vj p2, .second, vj p3, .second, vj p4, .second, vj p5, .second, vj q0_, .second, vj q1_, .second, vj q2_, .second, vj q3_, .second, vj q4_, .second, vu, vu, vu, vu] [xj q5_]) _
    refine XS.lstore X0.here hx rfl (hb hby at_44) rfl (l' := #[vj p0, .second, vj p1, .second, vj p2, .second, vj p3, .second, vj p4, .second, vj p5, .second, vj q0_, .second, vj q1_, .second, vj q2_, .second, vj q3_, .second, vj q4_, .second, vj q5_, .second, vu, vu]) rfl ?_
    show own_S p e below s₁ (mkF m 46 #[vj p0, .second, vj p1, .second, vj p2, .second, vj p3, .second, vj p4, .second, vj p5, .second, vj q0_, .second, vj q1_, .second, vj q2_, .second, vj q3_, .second, vj q4_, .second, vj q5_, .second, vu, vu] []) _
    refine st1 _ ?_
    show own_S p e below T1 (mkF m 49 #[vj p0, .second, vj p1, .second, vj p2, .second, vj p3, .second, vj p4, .second, vj p5, .second, vj q0_, .second, vj q1_, .second, vj q2_, .second, vj q3_, .second, vj q4_, .second, vj q5_, .second, vu, vu] [xr b1]) _
    refine XS.dup X1.here hx rfl (hb hby at_49) rfl rfl ?_
    show own_S p e below T1 (mkF m 50 #[vj p0, .second, vj p1, .second, vj p2, .second, vj p3, .second, vj p4, .second, vj p5, .second, vj q0_, .second, vj q1_, .second, vj q2_, .second, vj q3_, .second, vj q4_, .second, vj q5_, .second, vu, vu] [xr b1, xr b1]) _
    refine st2.trans ?_
    show own_S p e below T2 (mkF m 53 #[vj p0, .second, vj p1, .second, vj p2, .second, vj p3, .second, vj p4, .second, vj p5, .second, vj q0_, .second, vj q1_, .second, vj q2_, .second, vj q3_, .second, vj q4_, .second, vj q5_, .second, vu, vu] [xr b1]) _
    refine XS.astore X2.here hx rfl (hb hby at_53) rfl rfl (l' := #[vj p0, .second, vj p1, .second, vj p2, .second, vj p3, .second, vj p4, .second, vj p5, .second, vj q0_, .second, vj q1_, .second, vj q2_, .second, vj q3_, .second, vj q4_, .second, vj q5_, .second, vr b1, vu]) rfl ?_
    show own_S p e below T2 (mkF m 55 #[vj p0, .second, vj p1, .second, vj p2, .second, vj p3, .second, vj p4, .second, vj p5, .second, vj q0_, .second, vj q1_, .second, vj q2_, .second, vj q3_, .second, vj q4_, .second, vj q5_, .second, vr b1, vu] []) _
    refine XS.aload X2.here hx rfl (hb hby at_55) rfl rfl ?_
    show own_S p e below T2 (mkF m 57 #[vj p0, .second, vj p1, .second, vj p2, .second, vj p3, .second, vj p4, .second, vj p5, .second, vj q0_, .second, vj q1_, .second, vj q2_, .second, vj q3_, .second, vj q4_, .second, vj q5_, .second, vr b1, vu] [xr b1]) _
    refine st3 _ ?_
    show own_S p e below T3 (mkF m 60 #[vj p0, .second, vj p1, .second, vj p2, .second, vj p3, .second, vj p4, .second, vj p5, .second, vj q0_, .second, vj q1_, .second, vj q2_, .second, vj q3_, .second, vj q4_, .second, vj q5_, .second, vr b1, vu] [xr u1, xr b1]) _
    refine XS.lload X3.here hx rfl (hb hby at_60) rfl ?_
    show own_S p e below T3 (mkF m 62 #[vj p0, .second, vj p1, .second, vj p2, .second, vj p3, .second, vj p4, .second, vj p5, .second, vj q0_, .second, vj q1_, .second, vj q2_, .second, vj q3_, .second, vj q4_, .second, vj q5_, .second, vr b1, vu] [xj q0_, xr u1, xr b1]) _
    refine st4.trans ?_
    show own_S p e below T4 (mkF m 65 #[vj p0, .second, vj p1, .second, vj p2, .second, vj p3, .second, vj p4, .second, vj p5, .second, vj q0_, .second, vj q1_, .second, vj q2_, .second, vj q3_, .second, vj q4_, .second, vj q5_, .second, vr b1, vu] []) _
    refine XS.aload X4.here hx rfl (hb hby at_65) rfl rfl ?_
    show own_S p e below T4 (mkF m 67 #[vj p0, .second, vj p1, .second, vj p2, .second, vj p3, .second, vj p4, .second, vj p5, .second, vj q0_, .second, vj q1_, .second, vj q2_, .second, vj q3_, .second, vj q4_, .second, vj q5_, .second, vr b1, vu] [xr b1]) _
    refine st5 _ ?_
    show own_S p e below T5 (mkF m 70 #[vj p0, .second, vj p1, .second, vj p2, .second, vj p3, .second, vj p4, .second, vj p5, .second, vj q0_, .second, vj q1_, .second, vj q2_, .second, vj q3_, .second, vj q4_, .second, vj q5_, .second, vr b1, vu] [xr u2, xr b1]) _
    refine XS.lload X5.here hx rfl (hb hby at_70) rfl ?_
    show own_S p e below T5 (mkF m 72 #[vj p0, .second, vj p1, .second, vj p2, .second, vj p3, .second, vj p4, .second, vj p5, .second, vj q0_, .second, vj q1_, .second, vj q2_, .second, vj q3_, .second, vj q4_, .second, vj q5_, .second, vr b1, vu] [xj q1_, xr u2, xr b1]) _
    refine st6.trans ?_
    show own_S p e below T6 (mkF m 75 #[vj p0, .second, vj p1, .second, vj p2, .second, vj p3, .second, vj p4, .second, vj p5, .second, vj q0_, .second, vj q1_, .second, vj q2_, .second, vj q3_, .second, vj q4_, .second, vj q5_, .second, vr b1, vu] []) _
    refine XS.aload X6.here hx rfl (hb hby at_75) rfl rfl ?_
    show own_S p e below T6 (mkF m 77 #[vj p0, .second, vj p1, .second, vj p2, .second, vj p3, .second, vj p4, .second, vj p5, .second, vj q0_, .second, vj q1_, .second, vj q2_, .second, vj q3_, .second, vj q4_, .second, vj q5_, .second, vr b1, vu] [xr b1]) _
    refine st7 _ ?_
    show own_S p e below T7 (mkF m 80 #[vj p0, .second, vj p1, .second, vj p2, .second, vj p3, .second, vj p4, .second, vj p5, .second, vj q0_, .second, vj q1_, .second, vj q2_, .second, vj q3_, .second, vj q4_, .second, vj q5_, .second, vr b1, vu] [xr u3, xr b1]) _
    refine XS.lload X7.here hx rfl (hb hby at_80) rfl ?_
    show own_S p e below T7 (mkF m 82 #[vj p0, .second, vj p1, .second, vj p2, .second, vj p3, .second, vj p4, .second, vj p5, .second, vj q0_, .second, vj q1_, .second, vj q2_, .second, vj q3_, .second, vj q4_, .second, vj q5_, .second, vr b1, vu] [xj q2_, xr u3, xr b1]) _
    refine st8.trans ?_
    show own_S p e below T8 (mkF m 85 #[vj p0, .second, vj p1, .second, vj p2, .second, vj p3, .second, vj p4, .second, vj p5, .second, vj q0_, .second, vj q1_, .second, vj q2_, .second, vj q3_, .second, vj q4_, .second, vj q5_, .second, vr b1, vu] []) _
    refine XS.aload X8.here hx rfl (hb hby at_85) rfl rfl ?_
    show own_S p e below T8 (mkF m 87 #[vj p0, .second, vj p1, .second, vj p2, .second, vj p3, .second, vj p4, .second, vj p5, .second, vj q0_, .second, vj q1_, .second, vj q2_, .second, vj q3_, .second, vj q4_, .second, vj q5_, .second, vr b1, vu] [xr b1]) _
    refine st9 _ ?_
    show own_S p e below T9 (mkF m 90 #[vj p0, .second, vj p1, .second, vj p2, .second, vj p3, .second, vj p4, .second, vj p5, .second, vj q0_, .second, vj q1_, .second, vj q2_, .second, vj q3_, .second, vj q4_, .second, vj q5_, .second, vr b1, vu] [xr u4, xr b1]) _
    refine XS.lload X9.here hx rfl (hb hby at_90) rfl ?_
    show own_S p e below T9 (mkF m 92 #[vj p0, .second, vj p1, .second, vj p2, .second, vj p3, .second, vj p4, .second, vj p5, .second, vj q0_, .second, vj q1_, .second, vj q2_, .second, vj q3_, .second, vj q4_, .second, vj q5_, .second, vr b1, vu] [xj q3_, xr u4, xr b1]) _
    refine st10.trans ?_
    show own_S p e below T10 (mkF m 95 #[vj p0, .second, vj p1, .second, vj p2, .second, vj p3, .second, vj p4, .second, vj p5, .second, vj q0_, .second, vj q1_, .second, vj q2_, .second, vj q3_, .second, vj q4_, .second, vj q5_, .second, vr b1, vu] []) _
    refine XS.aload X10.here hx rfl (hb hby at_95) rfl rfl ?_
    show own_S p e below T10 (mkF m 97 #[vj p0, .second, vj p1, .second, vj p2, .second, vj p3, .second, vj p4, .second, vj p5, .second, vj q0_, .second, vj q1_, .second, vj q2_, .second, vj q3_, .second, vj q4_, .second, vj q5_, .second, vr b1, vu] [xr b1]) _
    refine st11 _ ?_
    show own_S p e below T11 (mkF m 100 #[vj p0, .second, vj p1, .second, vj p2, .second, vj p3, .second, vj p4, .second, vj p5, .second, vj q0_, .second, vj q1_, .second, vj q2_, .second, vj q3_, .second, vj q4_, .second, vj q5_, .second, vr b1, vu] [xr u5, xr b1]) _
    refine XS.lload X11.here hx rfl (hb hby at_100) rfl ?_
    show own_S p e below T11 (mkF m 102 #[vj p0, .second, vj p1, .second, vj p2, .second, vj p3, .second, vj p4, .second, vj p5, .second, vj q0_, .second, vj q1_, .second, vj q2_, .second, vj q3_, .second, vj q4_, .second, vj q5_, .second, vr b1, vu] [xj q4_, xr u5, xr b1]) _
    refine st12.trans ?_
    show own_S p e below T12 (mkF m 105 #[vj p0, .second, vj p1, .second, vj p2, .second, vj p3, .second, vj p4, .second, vj p5, .second, vj q0_, .second, vj q1_, .second, vj q2_, .second, vj q3_, .second, vj q4_, .second, vj q5_, .second, vr b1, vu] []) _
    refine XS.aload X12.here hx rfl (hb hby at_105) rfl rfl ?_
    show own_S p e below T12 (mkF m 107 #[vj p0, .second, vj p1, .second, vj p2, .second, vj p3, .second, vj p4, .second, vj p5, .second, vj q0_, .second, vj q1_, .second, vj q2_, .second, vj q3_, .second, vj q4_, .second, vj q5_, .second, vr b1, vu] [xr b1]) _
    refine st13 _ ?_
    show own_S p e below T13 (mkF m 110 #[vj p0, .second, vj p1, .second, vj p2, .second, vj p3, .second, vj p4, .second, vj p5, .second, vj q0_, .second, vj q1_, .second, vj q2_, .second, vj q3_, .second, vj q4_, .second, vj q5_, .second, vr b1, vu] [xr u6, xr b1]) _
    refine XS.lload X13.here hx rfl (hb hby at_110) rfl ?_
    show own_S p e below T13 (mkF m 112 #[vj p0, .second, vj p1, .second, vj p2, .second, vj p3, .second, vj p4, .second, vj p5, .second, vj q0_, .second, vj q1_, .second, vj q2_, .second, vj q3_, .second, vj q4_, .second, vj q5_, .second, vr b1, vu] [xj q5_, xr u6, xr b1]) _
    refine st14.trans ?_
    show own_S p e below T14 (mkF m 115 #[vj p0, .second, vj p1, .second, vj p2, .second, vj p3, .second, vj p4, .second, vj p5, .second, vj q0_, .second, vj q1_, .second, vj q2_, .second, vj q3_, .second, vj q4_, .second, vj q5_, .second, vr b1, vu] []) _
    refine XS.lload X14.here hx rfl (hb hby at_115) rfl ?_
    show own_S p e below T14 (mkF m 117 #[vj p0, .second, vj p1, .second, vj p2, .second, vj p3, .second, vj p4, .second, vj p5, .second, vj q0_, .second, vj q1_, .second, vj q2_, .second, vj q3_, .second, vj q4_, .second, vj q5_, .second, vr b1, vu] [xj q0_]) _
    refine XS.lconst X14.here hx rfl (hb hby at_117) ?_
    show own_S p e below T14 (mkF m 118 #[vj p0, .second, vj p1, .second, vj p2, .second, vj p3, .second, vj p4, .second, vj p5, .second, vj q0_, .second, vj q1_, .second, vj q2_, .second, vj q3_, .second, vj q4_, .second, vj q5_, .second, vr b1, vu] [xj (0 : Int64), xj q0_]) _
    refine XS.lcmp X14.here hx rfl (hb hby at_118) rfl ?_
    show own_S p e below T14 (mkF m 119 #[vj p0, .second, vj p1, .second, vj p2, .second, vj p3, .second, vj p4, .second, vj p5, .second, vj q0_, .second, vj q1_, .second, vj q2_, .second, vj q3_, .second, vj q4_, .second, vj q5_, .second, vr b1, vu] [xi (lcmpW q0_ (0 : Int64))]) _
    show own_S p e below T14 (mkF m 119 #[vj p0, .second, vj p1, .second, vj p2, .second, vj p3, .second, vj p4, .second, vj p5, .second, vj q0_, .second, vj q1_, .second, vj q2_, .second, vj q3_, .second, vj q4_, .second, vj q5_, .second, vr b1, vu] [xi (lcmpW q0_ (0 : Int64))]) _
    refine XS.ifNo X14.here hx rfl (hb hby at_119) rfl as19 ?_
    show own_S p e below T14 (mkF m 122 #[vj p0, .second, vj p1, .second, vj p2, .second, vj p3, .second, vj p4, .second, vj p5, .second, vj q0_, .second, vj q1_, .second, vj q2_, .second, vj q3_, .second, vj q4_, .second, vj q5_, .second, vr b1, vu] []) _
    refine XS.lload X14.here hx rfl (hb hby at_122) rfl ?_
    show own_S p e below T14 (mkF m 124 #[vj p0, .second, vj p1, .second, vj p2, .second, vj p3, .second, vj p4, .second, vj p5, .second, vj q0_, .second, vj q1_, .second, vj q2_, .second, vj q3_, .second, vj q4_, .second, vj q5_, .second, vr b1, vu] [xj q1_]) _
    refine XS.lconst X14.here hx rfl (hb hby at_124) ?_
    show own_S p e below T14 (mkF m 125 #[vj p0, .second, vj p1, .second, vj p2, .second, vj p3, .second, vj p4, .second, vj p5, .second, vj q0_, .second, vj q1_, .second, vj q2_, .second, vj q3_, .second, vj q4_, .second, vj q5_, .second, vr b1, vu] [xj (0 : Int64), xj q1_]) _
    refine XS.lcmp X14.here hx rfl (hb hby at_125) rfl ?_
    show own_S p e below T14 (mkF m 126 #[vj p0, .second, vj p1, .second, vj p2, .second, vj p3, .second, vj p4, .second, vj p5, .second, vj q0_, .second, vj q1_, .second, vj q2_, .second, vj q3_, .second, vj q4_, .second, vj q5_, .second, vr b1, vu] [xi (lcmpW q1_ (0 : Int64))]) _
    show own_S p e below T14 (mkF m 126 #[vj p0, .second, vj p1, .second, vj p2, .second, vj p3, .second, vj p4, .second, vj p5, .second, vj q0_, .second, vj q1_, .second, vj q2_, .second, vj q3_, .second, vj q4_, .second, vj q5_, .second, vr b1, vu] [xi (lcmpW q1_ (0 : Int64))]) _
    refine XS.ifYes X14.here hx rfl (pc0 := 126) (pc' := 161) rfl (hb hby at_126) rfl as25 (by decide) (by decide) ?_
    show own_S p e below T14 (mkF m 161 #[vj p0, .second, vj p1, .second, vj p2, .second, vj p3, .second, vj p4, .second, vj p5, .second, vj q0_, .second, vj q1_, .second, vj q2_, .second, vj q3_, .second, vj q4_, .second, vj q5_, .second, vr b1, vu] []) _
    refine XS.iconst X14.here hx rfl (hb hby at_161) ?_
    show own_S p e below T14 (mkF m 162 #[vj p0, .second, vj p1, .second, vj p2, .second, vj p3, .second, vj p4, .second, vj p5, .second, vj q0_, .second, vj q1_, .second, vj q2_, .second, vj q3_, .second, vj q4_, .second, vj q5_, .second, vr b1, vu] [xi (0 : Int32)]) _
    refine XS.istore X14.here hx rfl (hb hby at_162) rfl (l' := #[vj p0, .second, vj p1, .second, vj p2, .second, vj p3, .second, vj p4, .second, vj p5, .second, vj q0_, .second, vj q1_, .second, vj q2_, .second, vj q3_, .second, vj q4_, .second, vj q5_, .second, vr b1, vi (0 : Int32)]) rfl ?_
    show own_S p e below T14 (mkF m 164 #[vj p0, .second, vj p1, .second, vj p2, .second, vj p3, .second, vj p4, .second, vj p5, .second, vj q0_, .second, vj q1_, .second, vj q2_, .second, vj q3_, .second, vj q4_, .second, vj q5_, .second, vr b1, vi (0 : Int32)] []) _
    refine XS.aload X14.here hx rfl (hb hby at_164) rfl rfl ?_
    show own_S p e below T14 (mkF m 166 #[vj p0, .second, vj p1, .second, vj p2, .second, vj p3, .second, vj p4, .second, vj p5, .second, vj q0_, .second, vj q1_, .second, vj q2_, .second, vj q3_, .second, vj q4_, .second, vj q5_, .second, vr b1, vi (0 : Int32)] [xr b1]) _
    refine st15.trans ?_
    show own_S p e below T15 (mkF m 169 #[vj p0, .second, vj p1, .second, vj p2, .second, vj p3, .second, vj p4, .second, vj p5, .second, vj q0_, .second, vj q1_, .second, vj q2_, .second, vj q3_, .second, vj q4_, .second, vj q5_, .second, vr b1, vi (0 : Int32)] [xi (0 : Int32)]) _
    refine XS.iload X15.here hx rfl (hb hby at_169) rfl ?_
    show own_S p e below T15 (mkF m 171 #[vj p0, .second, vj p1, .second, vj p2, .second, vj p3, .second, vj p4, .second, vj p5, .second, vj q0_, .second, vj q1_, .second, vj q2_, .second, vj q3_, .second, vj q4_, .second, vj q5_, .second, vr b1, vi (0 : Int32)] [xi (0 : Int32), xi (0 : Int32)]) _
    refine XS.icmpNo X15.here hx rfl (hb hby at_171) rfl (by decide) ?_
    show own_S p e below T15 (mkF m 174 #[vj p0, .second, vj p1, .second, vj p2, .second, vj p3, .second, vj p4, .second, vj p5, .second, vj q0_, .second, vj q1_, .second, vj q2_, .second, vj q3_, .second, vj q4_, .second, vj q5_, .second, vr b1, vi (0 : Int32)] []) _
    refine XS.iconst X15.here hx rfl (hb hby at_174) ?_
    show own_S p e below T15 (mkF m 175 #[vj p0, .second, vj p1, .second, vj p2, .second, vj p3, .second, vj p4, .second, vj p5, .second, vj q0_, .second, vj q1_, .second, vj q2_, .second, vj q3_, .second, vj q4_, .second, vj q5_, .second, vr b1, vi (0 : Int32)] [xi (1 : Int32)]) _
    refine XS.goto X15.here hx rfl (pc0 := 175) (pc' := 179) rfl (hb hby at_175) (by decide) (by decide) ?_
    show own_S p e below T15 (mkF m 179 #[vj p0, .second, vj p1, .second, vj p2, .second, vj p3, .second, vj p4, .second, vj p5, .second, vj q0_, .second, vj q1_, .second, vj q2_, .second, vj q3_, .second, vj q4_, .second, vj q5_, .second, vr b1, vi (0 : Int32)] [xi (1 : Int32)]) _
    exact retN X15 hx (t := .boolean) Bd.returns (by simp) (hb hby at_179) hr
  · exact ⟨rfl, N15⟩
theorem ef_own_l6 (m : MethodId) (u0 u1 u2 u3 u4 u5 u6 : Addr) (p0 : Int64) (p1 : Int64) (p2 : Int64) (p3 : Int64) (p4 : Int64) (p5 : Int64) (q0_ : Int64) (q1_ : Int64) (q2_ : Int64) (q3_ : Int64) (q4_ : Int64) (q5_ : Int64) : entryFrame m #[xj p0, xj p1, xj p2, xj p3, xj p4, xj p5] maxLocals = (mkF m 0 #[vj p0, .second, vj p1, .second, vj p2, .second, vj p3, .second, vj p4, .second, vj p5, .second, vu, vu, vu, vu, vu, vu, vu, vu, vu, vu, vu, vu, vu, vu] []) := by first | (simp [entryFrame, mkF, argsToLocals, Value.category, maxLocals]; done) | rfl
set_option maxRecDepth 65536 in
set_option maxHeartbeats 40000000 in
theorem own_l6 (l : Launch) (Z : State) (a0 : Array Value) (hw : ∀ d ∈ tables_1, d.before a0 Z = true) (u0 u1 u2 u3 u4 u5 u6 : Addr) (G : own_St Z u0 u1 u2 u3 u4 u5 u6) (p0 : Int64) (p1 : Int64) (p2 : Int64) (p3 : Int64) (p4 : Int64) (p5 : Int64) (q0_ : Int64) (q1_ : Int64) (q2_ : Int64) (q3_ : Int64) (q4_ : Int64) (q5_ : Int64) (as13 : (p0 &&& (9223372036854775807 : Int64)) = q0_) (as14 : (p1 &&& (9223372036854775807 : Int64)) = q1_) (as15 : (p2 &&& (9223372036854775807 : Int64)) = q2_) (as16 : (p3 &&& (9223372036854775807 : Int64)) = q3_) (as17 : (p4 &&& (9223372036854775807 : Int64)) = q4_) (as18 : (p5 &&& (9223372036854775807 : Int64)) = q5_) (as21 : ifCond.holds .ne (lcmpW q0_ (0 : Int64)) = true) (as22 : ifCond.holds .le (lcmpW q0_ (0 : Int64)) = false) (h0 : Heap) (n0 : Nat) (O0 : Old Z n0 h0) : own_Met l Z x code maxLocals ret room_1 #[xj p0, xj p1, xj p2, xj p3, xj p4, xj p5] h0 (own_QL (some (xi (1 : Int32))) n0) := by
  intro ws
  refine MetFree.of_bodySF (plainFor_of_name pn4) hisR ?_
  intro p e s m args below meth c s₁ Bd hml0 hP hK
  obtain ⟨rfl, hZ, hh⟩ := hP
  have hx := Bd.exec
  have hby := Bd.bytes
  have hml : c.maxLocals = 26 := hml0
  have hown : s.vm.findClass "com/example/stackwright/stackwright/engine/ManaPoolIsEmptyPinLaw" = some m.cls := findClass_of_methodNamed Bd.named
  have hnm := (name_of_methodNamed Bd.named Bd.method).1
  have X0 : Stand p l e room_1 s m #[xj p0, xj p1, xj p2, xj p3, xj p4, xj p5] below meth c s₁ [] 0 0 := Stand.of_body Bd
  have e0 : s₁.heap = h0 := by rw [← hh, Bd.state]; rfl
  have N0 := Fr.nil n0
  have pre0 : ∀ t, Steps p.tables e below (s₁.setTop (mkF m 0 #[vj p0, .second, vj p1, .second, vj p2, .second, vj p3, .second, vj p4, .second, vj p5, .second, vu, vu, vu, vu, vu, vu, vu, vu, vu, vu, vu, vu, vu, vu] [])) t → Steps p.tables e below (s₁.setTop (entryFrame m #[xj p0, xj p1, xj p2, xj p3, xj p4, xj p5] maxLocals)) t := fun t st => castTop (ef_own_l6 m u0 u1 u2 u3 u4 u5 u6 p0 p1 p2 p3 p4 p5 q0_ q1_ q2_ q3_ q4_ q5_) st
  obtain ⟨T1, h1, X1, e1, E1, A1, D1, -, st1⟩ := newO X0 hx hZ hown (ww hw 1 rfl) (ww hw 2 rfl) (ww hw 3 rfl) e0 (g := (mkF m 46 #[vj p0, .second, vj p1, .second, vj p2, .second, vj p3, .second, vj p4, .second, vj p5, .second, vj q0_, .second, vj q1_, .second, vj q2_, .second, vj q3_, .second, vj q4_, .second, vj q5_, .second, vu, vu] [])) rfl (hb hby at_46) (by decide) (by decide)
  obtain ⟨b1, g1⟩ : ∃ z, z = h0.size := ⟨_, rfl⟩
  rw [← g1] at A1 D1 st1
  have g_b1 : n0 ≤ b1 := own_fresh O0 g1
  have O1 : Old Z n0 h1 := O0.ext E1
  have F_b1_amounts : Fld Z h1 b1 "com/example/stackwright/stackwright/engine/ManaPool" "amounts" "[J" .null := D1 (Or.inr (ww hw 34 rfl)) (ty := (.array .long)) (by decide)
  obtain ⟨_, _, ⟨T2, L2, k2, n2⟩, -, X2, ⟨Lc2, hQ2, l2, y2, z2⟩, st2⟩ := X1.specialBack hx (y := Y1) rfl hown (mvT hZ (ww hw 4 rfl)) (mvT hZ (ww hw 5 rfl)) (mvT hZ (ww hw 6 rfl)) (by decide) (backOf (W := 1) (own_init l Z a0 hw u0 u1 u2 u3 u4 u5 u6 G b1 h1 n0 O1 A1 F_b1_amounts g_b1 []) hZ (ww hw 6 rfl) (ww hw 3 rfl) (by decide) (by decide)) (g := (mkF m 50 #[vj p0, .second, vj p1, .second, vj p2, .second, vj p3, .second, vj p4, .second, vj p5, .second, vj q0_, .second, vj q1_, .second, vj q2_, .second, vj q3_, .second, vj q4_, .second, vj q5_, .second, vu, vu] [xr b1, xr b1])) rfl (by rw [hml]; rfl) (Steps.refl _) (a := b1) (argsL := []) (rest := [xr b1]) (lenOf pd3 rfl) rfl (by show 2 * 0 + _ ≤ _; exact Nat.le_of_eq rfl) (hb hby at_50) (fun _ _ => ⟨rfl, e1, (by decide : 1 + 2 ≤ _), (by decide : 1 + 12 ≤ _)⟩)
  dsimp only [Pt.U, Pt.locs, Pt.cells, Pt.slots] at X2 l2 y2 z2 st2 hQ2
  subst l2 y2 z2
  obtain ⟨h2, e2⟩ : ∃ z, T2.heap = z := ⟨_, rfl⟩
  rw [e2] at hQ2
  obtain ⟨rfl, Nq2, K2, bb2, kk2, -, Fc2, Vb2, nb2, -, g_bb2⟩ := hQ2
  have N2 := Fr.app N0 Nq2
  have O2 : Old Z n0 h2 := O1.keep K2 (allS g_b1 all0)
  have X_b1_2 := A1.keep K2
  obtain ⟨T3, X3, e3, st3⟩ := getS2 X2 hx hZ hown (host := "") (Or.inl (ww hw 35 rfl)) Via.refl e2 ((own_S_u1 G).ext O2.2) (g := (mkF m 57 #[vj p0, .second, vj p1, .second, vj p2, .second, vj p3, .second, vj p4, .second, vj p5, .second, vj q0_, .second, vj q1_, .second, vj q2_, .second, vj q3_, .second, vj q4_, .second, vj q5_, .second, vr b1, vu] [xr b1])) rfl (hb hby at_57)
  obtain ⟨cq4, kq4, qa4, qb4, qc4⟩ := isOf hZ e3 X_b1_2
  obtain ⟨_, _, ⟨T4, L4, k4, n4⟩, -, X4, ⟨Lc4, hQ4, l4, y4, z4⟩, st4⟩ := X3.virtualBack hx (y := Y5) (z := Y5) hown (mvT hZ (ww hw 36 rfl)) (mvT hZ (ww hw 37 rfl)) (notFace_of_selects (args := #[]) (mvT hZ (ww hw 39 rfl))) (mvT hZ (ww hw 39 rfl)) (mvT hZ (ww hw 38 rfl)) (by decide) (backOf (W := 0) (own_add0 l Z a0 hw u0 u1 u2 u3 u4 u5 u6 G b1 bb2 kk2 (0 : Int64) (0 : Int64) (0 : Int64) (0 : Int64) (0 : Int64) q0_ (own_nn p0 q0_ as13) h2 n0 O2 ⟨X_b1_2, Fc2, Vb2, nb2, g_b1, g_bb2⟩ []) hZ (ww hw 40 rfl) (ww hw 3 rfl) (by decide) (by decide)) qa4 qc4 (g := (mkF m 62 #[vj p0, .second, vj p1, .second, vj p2, .second, vj p3, .second, vj p4, .second, vj p5, .second, vj q0_, .second, vj q1_, .second, vj q2_, .second, vj q3_, .second, vj q4_, .second, vj q5_, .second, vr b1, vu] [xj q0_, xr u1, xr b1])) rfl (by rw [hml]; rfl) (Steps.refl _) (argsL := [xr u1, xj q0_]) (rest := []) (lenOf pd4 rfl) rfl (by show 2 * 0 + _ ≤ _; exact Nat.le_of_eq rfl) (hb hby at_62) (fun _ _ => ⟨rfl, e3, (by decide : 3 + 0 ≤ _), (by decide : 13 + 0 ≤ _)⟩)
  dsimp only [Pt.U, Pt.locs, Pt.cells, Pt.slots] at X4 l4 y4 z4 st4 hQ4
  subst l4 y4 z4
  obtain ⟨h4, e4⟩ : ∃ z, T4.heap = z := ⟨_, rfl⟩
  rw [e4] at hQ4
  obtain ⟨rfl, Nq4, K4, -, -, Vn4, -⟩ := hQ4
  have N4 := Fr.app N2 Nq4
  have O4 : Old Z n0 h4 := O2.keep K4 (allS g_bb2 all0)
  have X_b1_4 := X_b1_2.keep K4
  have F_b1_amounts_4 := Fc2.keep K4 (ninS nb2 nin0)
  obtain ⟨T5, X5, e5, st5⟩ := getS2 X4 hx hZ hown (host := "") (Or.inl (ww hw 54 rfl)) Via.refl e4 ((own_S_u2 G).ext O4.2) (g := (mkF m 67 #[vj p0, .second, vj p1, .second, vj p2, .second, vj p3, .second, vj p4, .second, vj p5, .second, vj q0_, .second, vj q1_, .second, vj q2_, .second, vj q3_, .second, vj q4_, .second, vj q5_, .second, vr b1, vu] [xr b1])) rfl (hb hby at_67)
  obtain ⟨cq6, kq6, qa6, qb6, qc6⟩ := isOf hZ e5 X_b1_4
  obtain ⟨_, _, ⟨T6, L6, k6, n6⟩, -, X6, ⟨Lc6, hQ6, l6, y6, z6⟩, st6⟩ := X5.virtualBack hx (y := Y5) (z := Y5) hown (mvT hZ (ww hw 36 rfl)) (mvT hZ (ww hw 37 rfl)) (notFace_of_selects (args := #[]) (mvT hZ (ww hw 39 rfl))) (mvT hZ (ww hw 39 rfl)) (mvT hZ (ww hw 38 rfl)) (by decide) (backOf (W := 0) (own_add1 l Z a0 hw u0 u1 u2 u3 u4 u5 u6 G b1 bb2 kk2 q0_ (0 : Int64) (0 : Int64) (0 : Int64) (0 : Int64) q1_ (own_nn p1 q1_ as14) h4 n0 O4 ⟨X_b1_4, F_b1_amounts_4, Vn4, nb2, g_b1, g_bb2⟩ []) hZ (ww hw 40 rfl) (ww hw 3 rfl) (by decide) (by decide)) qa6 qc6 (g := (mkF m 72 #[vj p0, .second, vj p1, .second, vj p2, .second, vj p3, .second, vj p4, .second, vj p5, .second, vj q0_, .second, vj q1_, .second, vj q2_, .second, vj q3_, .second, vj q4_, .second, vj q5_, .second, vr b1, vu] [xj q1_, xr u2, xr b1])) rfl (by rw [hml]; rfl) (Steps.refl _) (argsL := [xr u2, xj q1_]) (rest := []) (lenOf pd4 rfl) rfl (by show 2 * 0 + _ ≤ _; exact Nat.le_of_eq rfl) (hb hby at_72) (fun _ _ => ⟨rfl, e5, (by decide : 3 + 0 ≤ _), (by decide : 13 + 0 ≤ _)⟩)
  dsimp only [Pt.U, Pt.locs, Pt.cells, Pt.slots] at X6 l6 y6 z6 st6 hQ6
  subst l6 y6 z6
  obtain ⟨h6, e6⟩ : ∃ z, T6.heap = z := ⟨_, rfl⟩
  rw [e6] at hQ6
  obtain ⟨rfl, Nq6, K6, -, -, Vn6, -⟩ := hQ6
  have N6 := Fr.app N4 Nq6
  have O6 : Old Z n0 h6 := O4.keep K6 (allS g_bb2 all0)
  have X_b1_6 := X_b1_4.keep K6
  have F_b1_amounts_6 := F_b1_amounts_4.keep K6 (ninS nb2 nin0)
  obtain ⟨T7, X7, e7, st7⟩ := getS2 X6 hx hZ hown (host := "") (Or.inl (ww hw 55 rfl)) Via.refl e6 ((own_S_u3 G).ext O6.2) (g := (mkF m 77 #[vj p0, .second, vj p1, .second, vj p2, .second, vj p3, .second, vj p4, .second, vj p5, .second, vj q0_, .second, vj q1_, .second, vj q2_, .second, vj q3_, .second, vj q4_, .second, vj q5_, .second, vr b1, vu] [xr b1])) rfl (hb hby at_77)
  obtain ⟨cq8, kq8, qa8, qb8, qc8⟩ := isOf hZ e7 X_b1_6
  obtain ⟨_, _, ⟨T8, L8, k8, n8⟩, -, X8, ⟨Lc8, hQ8, l8, y8, z8⟩, st8⟩ := X7.virtualBack hx (y := Y5) (z := Y5) hown (mvT hZ (ww hw 36 rfl)) (mvT hZ (ww hw 37 rfl)) (notFace_of_selects (args := #[]) (mvT hZ (ww hw 39 rfl))) (mvT hZ (ww hw 39 rfl)) (mvT hZ (ww hw 38 rfl)) (by decide) (backOf (W := 0) (own_add2 l Z a0 hw u0 u1 u2 u3 u4 u5 u6 G b1 bb2 kk2 q0_ q1_ (0 : Int64) (0 : Int64) (0 : Int64) q2_ (own_nn p2 q2_ as15) h6 n0 O6 ⟨X_b1_6, F_b1_amounts_6, Vn6, nb2, g_b1, g_bb2⟩ []) hZ (ww hw 40 rfl) (ww hw 3 rfl) (by decide) (by decide)) qa8 qc8 (g := (mkF m 82 #[vj p0, .second, vj p1, .second, vj p2, .second, vj p3, .second, vj p4, .second, vj p5, .second, vj q0_, .second, vj q1_, .second, vj q2_, .second, vj q3_, .second, vj q4_, .second, vj q5_, .second, vr b1, vu] [xj q2_, xr u3, xr b1])) rfl (by rw [hml]; rfl) (Steps.refl _) (argsL := [xr u3, xj q2_]) (rest := []) (lenOf pd4 rfl) rfl (by show 2 * 0 + _ ≤ _; exact Nat.le_of_eq rfl) (hb hby at_82) (fun _ _ => ⟨rfl, e7, (by decide : 3 + 0 ≤ _), (by decide : 13 + 0 ≤ _)⟩)
  dsimp only [Pt.U, Pt.locs, Pt.cells, Pt.slots] at X8 l8 y8 z8 st8 hQ8
  subst l8 y8 z8
  obtain ⟨h8, e8⟩ : ∃ z, T8.heap = z := ⟨_, rfl⟩
  rw [e8] at hQ8
  obtain ⟨rfl, Nq8, K8, -, -, Vn8, -⟩ := hQ8
  have N8 := Fr.app N6 Nq8
  have O8 : Old Z n0 h8 := O6.keep K8 (allS g_bb2 all0)
  have X_b1_8 := X_b1_6.keep K8
  have F_b1_amounts_8 := F_b1_amounts_6.keep K8 (ninS nb2 nin0)
  obtain ⟨T9, X9, e9, st9⟩ := getS2 X8 hx hZ hown (host := "") (Or.inl (ww hw 56 rfl)) Via.refl e8 ((own_S_u4 G).ext O8.2) (g := (mkF m 87 #[vj p0, .second, vj p1, .second, vj p2, .second, vj p3, .second, vj p4, .second, vj p5, .second, vj q0_, .second, vj q1_, .second, vj q2_, .second, vj q3_, .second, vj q4_, .second, vj q5_, .second, vr b1, vu] [xr b1])) rfl (hb hby at_87)
  obtain ⟨cq10, kq10, qa10, qb10, qc10⟩ := isOf hZ e9 X_b1_8
  obtain ⟨_, _, ⟨T10, L10, k10, n10⟩, -, X10, ⟨Lc10, hQ10, l10, y10, z10⟩, st10⟩ := X9.virtualBack hx (y := Y5) (z := Y5) hown (mvT hZ (ww hw 36 rfl)) (mvT hZ (ww hw 37 rfl)) (notFace_of_selects (args := #[]) (mvT hZ (ww hw 39 rfl))) (mvT hZ (ww hw 39 rfl)) (mvT hZ (ww hw 38 rfl)) (by decide) (backOf (W := 0) (own_add3 l Z a0 hw u0 u1 u2 u3 u4 u5 u6 G b1 bb2 kk2 q0_ q1_ q2_ (0 : Int64) (0 : Int64) q3_ (own_nn p3 q3_ as16) h8 n0 O8 ⟨X_b1_8, F_b1_amounts_8, Vn8, nb2, g_b1, g_bb2⟩ []) hZ (ww hw 40 rfl) (ww hw 3 rfl) (by decide) (by decide)) qa10 qc10 (g := (mkF m 92 #[vj p0, .second, vj p1, .second, vj p2, .second, vj p3, .second, vj p4, .second, vj p5, .second, vj q0_, .second, vj q1_, .second, vj q2_, .second, vj q3_, .second, vj q4_, .second, vj q5_, .second, vr b1, vu] [xj q3_, xr u4, xr b1])) rfl (by rw [hml]; rfl) (Steps.refl _) (argsL := [xr u4, xj q3_]) (rest := []) (lenOf pd4 rfl) rfl (by show 2 * 0 + _ ≤ _; exact Nat.le_of_eq rfl) (hb hby at_92) (fun _ _ => ⟨rfl, e9, (by decide : 3 + 0 ≤ _), (by decide : 13 + 0 ≤ _)⟩)
  dsimp only [Pt.U, Pt.locs, Pt.cells, Pt.slots] at X10 l10 y10 z10 st10 hQ10
  subst l10 y10 z10
  obtain ⟨h10, e10⟩ : ∃ z, T10.heap = z := ⟨_, rfl⟩
  rw [e10] at hQ10
  obtain ⟨rfl, Nq10, K10, -, -, Vn10, -⟩ := hQ10
  have N10 := Fr.app N8 Nq10
  have O10 : Old Z n0 h10 := O8.keep K10 (allS g_bb2 all0)
  have X_b1_10 := X_b1_8.keep K10
  have F_b1_amounts_10 := F_b1_amounts_8.keep K10 (ninS nb2 nin0)
  obtain ⟨T11, X11, e11, st11⟩ := getS2 X10 hx hZ hown (host := "") (Or.inl (ww hw 57 rfl)) Via.refl e10 ((own_S_u5 G).ext O10.2) (g := (mkF m 97 #[vj p0, .second, vj p1, .second, vj p2, .second, vj p3, .second, vj p4, .second, vj p5, .second, vj q0_, .second, vj q1_, .second, vj q2_, .second, vj q3_, .second, vj q4_, .second, vj q5_, .second, vr b1, vu] [xr b1])) rfl (hb hby at_97)
  obtain ⟨cq12, kq12, qa12, qb12, qc12⟩ := isOf hZ e11 X_b1_10
  obtain ⟨_, _, ⟨T12, L12, k12, n12⟩, -, X12, ⟨Lc12, hQ12, l12, y12, z12⟩, st12⟩ := X11.virtualBack hx (y := Y5) (z := Y5) hown (mvT hZ (ww hw 36 rfl)) (mvT hZ (ww hw 37 rfl)) (notFace_of_selects (args := #[]) (mvT hZ (ww hw 39 rfl))) (mvT hZ (ww hw 39 rfl)) (mvT hZ (ww hw 38 rfl)) (by decide) (backOf (W := 0) (own_add4 l Z a0 hw u0 u1 u2 u3 u4 u5 u6 G b1 bb2 kk2 q0_ q1_ q2_ q3_ (0 : Int64) q4_ (own_nn p4 q4_ as17) h10 n0 O10 ⟨X_b1_10, F_b1_amounts_10, Vn10, nb2, g_b1, g_bb2⟩ []) hZ (ww hw 40 rfl) (ww hw 3 rfl) (by decide) (by decide)) qa12 qc12 (g := (mkF m 102 #[vj p0, .second, vj p1, .second, vj p2, .second, vj p3, .second, vj p4, .second, vj p5, .second, vj q0_, .second, vj q1_, .second, vj q2_, .second, vj q3_, .second, vj q4_, .second, vj q5_, .second, vr b1, vu] [xj q4_, xr u5, xr b1])) rfl (by rw [hml]; rfl) (Steps.refl _) (argsL := [xr u5, xj q4_]) (rest := []) (lenOf pd4 rfl) rfl (by show 2 * 0 + _ ≤ _; exact Nat.le_of_eq rfl) (hb hby at_102) (fun _ _ => ⟨rfl, e11, (by decide : 3 + 0 ≤ _), (by decide : 13 + 0 ≤ _)⟩)
  dsimp only [Pt.U, Pt.locs, Pt.cells, Pt.slots] at X12 l12 y12 z12 st12 hQ12
  subst l12 y12 z12
  obtain ⟨h12, e12⟩ : ∃ z, T12.heap = z := ⟨_, rfl⟩
  rw [e12] at hQ12
  obtain ⟨rfl, Nq12, K12, -, -, Vn12, -⟩ := hQ12
  have N12 := Fr.app N10 Nq12
  have O12 : Old Z n0 h12 := O10.keep K12 (allS g_bb2 all0)
  have X_b1_12 := X_b1_10.keep K12
  have F_b1_amounts_12 := F_b1_amounts_10.keep K12 (ninS nb2 nin0)
  obtain ⟨T13, X13, e13, st13⟩ := getS2 X12 hx hZ hown (host := "") (Or.inl (ww hw 58 rfl)) Via.refl e12 ((own_S_u6 G).ext O12.2) (g := (mkF m 107 #[vj p0, .second, vj p1, .second, vj p2, .second, vj p3, .second, vj p4, .second, vj p5, .second, vj q0_, .second, vj q1_, .second, vj q2_, .second, vj q3_, .second, vj q4_, .second, vj q5_, .second, vr b1, vu] [xr b1])) rfl (hb hby at_107)
  obtain ⟨cq14, kq14, qa14, qb14, qc14⟩ := isOf hZ e13 X_b1_12
  obtain ⟨_, _, ⟨T14, L14, k14, n14⟩, -, X14, ⟨Lc14, hQ14, l14, y14, z14⟩, st14⟩ := X13.virtualBack hx (y := Y5) (z := Y5) hown (mvT hZ (ww hw 36 rfl)) (mvT hZ (ww hw 37 rfl)) (notFace_of_selects (args := #[]) (mvT hZ (ww hw 39 rfl))) (mvT hZ (ww hw 39 rfl)) (mvT hZ (ww hw 38 rfl)) (by decide) (backOf (W := 0) (own_add5 l Z a0 hw u0 u1 u2 u3 u4 u5 u6 G b1 bb2 kk2 q0_ q1_ q2_ q3_ q4_ q5_ (own_nn p5 q5_ as18) h12 n0 O12 ⟨X_b1_12, F_b1_amounts_12, Vn12, nb2, g_b1, g_bb2⟩ []) hZ (ww hw 40 rfl) (ww hw 3 rfl) (by decide) (by decide)) qa14 qc14 (g := (mkF m 112 #[vj p0, .second, vj p1, .second, vj p2, .second, vj p3, .second, vj p4, .second, vj p5, .second, vj q0_, .second, vj q1_, .second, vj q2_, .second, vj q3_, .second, vj q4_, .second, vj q5_, .second, vr b1, vu] [xj q5_, xr u6, xr b1])) rfl (by rw [hml]; rfl) (Steps.refl _) (argsL := [xr u6, xj q5_]) (rest := []) (lenOf pd4 rfl) rfl (by show 2 * 0 + _ ≤ _; exact Nat.le_of_eq rfl) (hb hby at_112) (fun _ _ => ⟨rfl, e13, (by decide : 3 + 0 ≤ _), (by decide : 13 + 0 ≤ _)⟩)
  dsimp only [Pt.U, Pt.locs, Pt.cells, Pt.slots] at X14 l14 y14 z14 st14 hQ14
  subst l14 y14 z14
  obtain ⟨h14, e14⟩ : ∃ z, T14.heap = z := ⟨_, rfl⟩
  rw [e14] at hQ14
  obtain ⟨rfl, Nq14, K14, -, -, Vn14, -⟩ := hQ14
  have N14 := Fr.app N12 Nq14
  have O14 : Old Z n0 h14 := O12.keep K14 (allS g_bb2 all0)
  have X_b1_14 := X_b1_12.keep K14
  have F_b1_amounts_14 := F_b1_amounts_12.keep K14 (ninS nb2 nin0)
  obtain ⟨cq15, kq15, qa15, qb15, qc15⟩ := isOf hZ e14 X_b1_14
  obtain ⟨_, _, ⟨T15, L15, k15, n15⟩, -, X15, ⟨Lc15, hQ15, l15, y15, z15⟩, st15⟩ := X14.virtualBack hx (y := Y6) (z := Y6) hown (mvT hZ (ww hw 59 rfl)) (mvT hZ (ww hw 60 rfl)) (notFace_of_selects (args := #[]) (mvT hZ (ww hw 62 rfl))) (mvT hZ (ww hw 62 rfl)) (mvT hZ (ww hw 61 rfl)) (by decide) (backOf (W := 0) (own_empty0 l Z a0 hw u0 u1 u2 u3 u4 u5 u6 G b1 bb2 kk2 q0_ q1_ q2_ q3_ q4_ q5_ as22 h14 n0 O14 ⟨X_b1_14, F_b1_amounts_14, Vn14, nb2, g_b1, g_bb2⟩ []) hZ (ww hw 63 rfl) (ww hw 3 rfl) (by decide) (by decide)) qa15 qc15 (g := (mkF m 166 #[vj p0, .second, vj p1, .second, vj p2, .second, vj p3, .second, vj p4, .second, vj p5, .second, vj q0_, .second, vj q1_, .second, vj q2_, .second, vj q3_, .second, vj q4_, .second, vj q5_, .second, vr b1, vi (0 : Int32)] [xr b1])) rfl (by rw [hml]; rfl) (Steps.refl _) (argsL := []) (rest := []) (lenOf pd5 rfl) rfl (by show 2 * 0 + _ ≤ _; exact Nat.le_of_eq rfl) (hb hby at_166) (fun _ _ => ⟨rfl, e14, (by decide : 3 + 0 ≤ _), (by decide : 13 + 0 ≤ _)⟩)
  dsimp only [Pt.U, Pt.locs, Pt.cells, Pt.slots] at X15 l15 y15 z15 st15 hQ15
  subst l15 y15 z15
  obtain ⟨rfl, Nq15, e15⟩ := hQ15
  have N15 := Fr.app N14 Nq15
  obtain ⟨fs, hr, hrun, hended, hW, hsame⟩ := X15.leave (v := some (xi (1 : Int32))) (fun h => by rw [Bd.returns] at h; cases h)
  refine ⟨_, _, pre0 _ ?_, hrun, hended, _, _, rfl, ?_, ⟨_, rfl⟩, hW, hsame.mono (by decide) (by decide)⟩
  · show own_S p e below s₁ (mkF m 0 #[vj p0, .second, vj p1, .second, vj p2, .second, vj p3, .second, vj p4, .second, vj p5, .second, vu, vu, vu, vu, vu, vu, vu, vu, vu, vu, vu, vu, vu, vu] []) _
    refine XS.lloadN X0.here hx rfl (hb hby at_0) rfl ?_
    show own_S p e below s₁ (mkF m 1 #[vj p0, .second, vj p1, .second, vj p2, .second, vj p3, .second, vj p4, .second, vj p5, .second, vu, vu, vu, vu, vu, vu, vu, vu, vu, vu, vu, vu, vu, vu] [xj p0]) _
    refine X0.ldc2J hx hown (mvT hZ (ww hw 0 rfl)) (g := (mkF m 1 #[vj p0, .second, vj p1, .second, vj p2, .second, vj p3, .second, vj p4, .second, vj p5, .second, vu, vu, vu, vu, vu, vu, vu, vu, vu, vu, vu, vu, vu, vu] [xj p0])) rfl (hb hby at_1) ?_
    show own_S p e below s₁ (mkF m 4 #[vj p0, .second, vj p1, .second, vj p2, .second, vj p3, .second, vj p4, .second, vj p5, .second, vu, vu, vu, vu, vu, vu, vu, vu, vu, vu, vu, vu, vu, vu] [xj (9223372036854775807 : Int64), xj p0]) _
    refine XS.land X0.here hx rfl (hb hby at_4) rfl ?_
    show own_S p e below s₁ (mkF m 5 #[vj p0, .second, vj p1, .second, vj p2, .second, vj p3, .second, vj p4, .second, vj p5, .second, vu, vu, vu, vu, vu, vu, vu, vu, vu, vu, vu, vu, vu, vu] [xj (p0 &&& (9223372036854775807 : Int64))]) _
    refine castTop (show (mkF m 5 #[vj p0, .second, vj p1, .second, vj p2, .second, vj p3, .second, vj p4, .second, vj p5, .second, vu, vu, vu, vu, vu, vu, vu, vu, vu, vu, vu, vu, vu, vu] [xj (p0 &&& (9223372036854775807 : Int64))]) = (mkF m 5 #[vj p0, .second, vj p1, .second, vj p2, .second, vj p3, .second, vj p4, .second, vj p5, .second, vu, vu, vu, vu, vu, vu, vu, vu, vu, vu, vu, vu, vu, vu] [xj q0_]) from by rw [as13]) ?_
    show own_S p e below s₁ (mkF m 5 #[vj p0, .second, vj p1, .second, vj p2, .second, vj p3, .second, vj p4, .second, vj p5, .second, vu, vu, vu, vu, vu, vu, vu, vu, vu, vu, vu, vu, vu, vu] [xj q0_]) _
    refine XS.lstore X0.here hx rfl (hb hby at_5) rfl (l' := #[vj p0, .second, vj p1, .second, vj p2, .second, vj p3, .second, vj p4, .second, vj p5, .second, vj q0_, .second, vu, vu, vu, vu, vu, vu, vu, vu, vu, vu, vu, vu]) rfl ?_
    show own_S p e below s₁ (mkF m 7 #[vj p0, .second, vj p1, .second, vj p2, .second, vj p3, .second, vj p4, .second, vj p5, .second, vj q0_, .second, vu, vu, vu, vu, vu, vu, vu, vu, vu, vu, vu, vu] []) _
    refine XS.lloadN X0.here hx rfl (hb hby at_7) rfl ?_
    show own_S p e below s₁ (mkF m 8 #[vj p0, .second, vj p1, .second, vj p2, .second, vj p3, .second, vj p4, .second, vj p5, .second, vj q0_, .second, vu, vu, vu, vu, vu, vu, vu, vu, vu, vu, vu, vu] [xj p1]) _
    refine X0.ldc2J hx hown (mvT hZ (ww hw 0 rfl)) (g := (mkF m 8 #[vj p0, .second, vj p1, .second, vj p2, .second, vj p3, .second, vj p4, .second, vj p5, .second, vj q0_, .second, vu, vu, vu, vu, vu, vu, vu, vu, vu, vu, vu, vu] [xj p1])) rfl (hb hby at_8) ?_
    show own_S p e below s₁ (mkF m 11 #[vj p0, .second, vj p1, .second, vj p2, .second, vj p3, .second, vj p4, .second, vj p5, .second, vj q0_, .second, vu, vu, vu, vu, vu, vu, vu, vu, vu, vu, vu, vu] [xj (9223372036854775807 : Int64), xj p1]) _
    refine XS.land X0.here hx rfl (hb hby at_11) rfl ?_
    show own_S p e below s₁ (mkF m 12 #[vj p0, .second, vj p1, .second, vj p2, .second, vj p3, .second, vj p4, .second, vj p5, .second, vj q0_, .second, vu, vu, vu, vu, vu, vu, vu, vu, vu, vu, vu, vu] [xj (p1 &&& (9223372036854775807 : Int64))]) _
    refine castTop (show (mkF m 12 #[vj p0, .second, vj p1, .second, vj p2, .second, vj p3, .second, vj p4, .second, vj p5, .second, vj q0_, .second, vu, vu, vu, vu, vu, vu, vu, vu, vu, vu, vu, vu] [xj (p1 &&& (9223372036854775807 : Int64))]) = (mkF m 12 #[vj p0, .second, vj p1, .second, vj p2, .second, vj p3, .second, vj p4, .second, vj p5, .second, vj q0_, .second, vu, vu, vu, vu, vu, vu, vu, vu, vu, vu, vu, vu] [xj q1_]) from by rw [as14]) ?_
    show own_S p e below s₁ (mkF m 12 #[vj p0, .second, vj p1, .second, vj p2, .second, vj p3, .second, vj p4, .second, vj p5, .second, vj q0_, .second, vu, vu, vu, vu, vu, vu, vu, vu, vu, vu, vu, vu] [xj q1_]) _
    refine XS.lstore X0.here hx rfl (hb hby at_12) rfl (l' := #[vj p0, .second, vj p1, .second, vj p2, .second, vj p3, .second, vj p4, .second, vj p5, .second, vj q0_, .second, vj q1_, .second, vu, vu, vu, vu, vu, vu, vu, vu, vu, vu]) rfl ?_
    show own_S p e below s₁ (mkF m 14 #[vj p0, .second, vj p1, .second, vj p2, .second, vj p3, .second, vj p4, .second, vj p5, .second, vj q0_, .second, vj q1_, .second, vu, vu, vu, vu, vu, vu, vu, vu, vu, vu] []) _
    refine XS.lload X0.here hx rfl (hb hby at_14) rfl ?_
    show own_S p e below s₁ (mkF m 16 #[vj p0, .second, vj p1, .second, vj p2, .second, vj p3, .second, vj p4, .second, vj p5, .second, vj q0_, .second, vj q1_, .second, vu, vu, vu, vu, vu, vu, vu, vu, vu, vu] [xj p2]) _
    refine X0.ldc2J hx hown (mvT hZ (ww hw 0 rfl)) (g := (mkF m 16 #[vj p0, .second, vj p1, .second, vj p2, .second, vj p3, .second, vj p4, .second, vj p5, .second, vj q0_, .second, vj q1_, .second, vu, vu, vu, vu, vu, vu, vu, vu, vu, vu] [xj p2])) rfl (hb hby at_16) ?_
    show own_S p e below s₁ (mkF m 19 #[vj p0, .second, vj p1, .second, vj p2, .second, vj p3, .second, vj p4, .second, vj p5, .second, vj q0_, .second, vj q1_, .second, vu, vu, vu, vu, vu, vu, vu, vu, vu, vu] [xj (9223372036854775807 : Int64), xj p2]) _
    refine XS.land X0.here hx rfl (hb hby at_19) rfl ?_
    show own_S p e below s₁ (mkF m 20 #[vj p0, .second, vj p1, .second, vj p2, .second, vj p3, .second, vj p4, .second, vj p5, .second, vj q0_, .second, vj q1_, .second, vu, vu, vu, vu, vu, vu, vu, vu, vu, vu] [xj (p2 &&& (9223372036854775807 : Int64))]) _
    refine castTop (show (mkF m 20 #[vj p0, .second, vj p1, .second, vj p2, .second, vj p3, .second, vj p4, .second, vj p5, .second, vj q0_, .second, vj q1_, .second, vu, vu, vu, vu, vu, vu, vu, vu, vu, vu] [xj (p2 &&& (9223372036854775807 : Int64))]) = (mkF m 20 #[vj p0, .second, vj p1, .second, vj p2, .second, vj p3, .second, vj p4, .second, vj p5, .second, vj q0_, .second, vj q1_, .second, vu, vu, vu, vu, vu, vu, vu, vu, vu, vu] [xj q2_]) from by rw [as15]) ?_
    show own_S p e below s₁ (mkF m 20 #[vj p0, .second, vj p1, .second, vj p2, .second, vj p3, .second, vj p4, .second, vj p5, .second, vj q0_, .second, vj q1_, .second, vu, vu, vu, vu, vu, vu, vu, vu, vu, vu] [xj q2_]) _
    refine XS.lstore X0.here hx rfl (hb hby at_20) rfl (l' := #[vj p0, .second, vj p1, .second, vj p2, .second, vj p3, .second, vj p4, .second, vj p5, .second, vj q0_, .second, vj q1_, .second, vj q2_, .second, vu, vu, vu, vu, vu, vu, vu, vu]) rfl ?_
    show own_S p e below s₁ (mkF m 22 #[vj p0, .second, vj p1, .second, vj p2, .second, vj p3, .second, vj p4, .second, vj p5, .second, vj q0_, .second, vj q1_, .second, vj q2_, .second, vu, vu, vu, vu, vu, vu, vu, vu] []) _
    refine XS.lload X0.here hx rfl (hb hby at_22) rfl ?_
    show own_S p e below s₁ (mkF m 24 #[vj p0, .second, vj p1, .second, vj p2, .second, vj p3, .second, vj p4, .second, vj p5, .second, vj q0_, .second, vj q1_, .second, vj q2_, .second, vu, vu, vu, vu, vu, vu, vu, vu] [xj p3]) _
    refine X0.ldc2J hx hown (mvT hZ (ww hw 0 rfl)) (g := (mkF m 24 #[vj p0, .second, vj p1, .second, vj p2, .second, vj p3, .second, vj p4, .second, vj p5, .second, vj q0_, .second, vj q1_, .second, vj q2_, .second, vu, vu, vu, vu, vu, vu, vu, vu] [xj p3])) rfl (hb hby at_24) ?_
    show own_S p e below s₁ (mkF m 27 #[vj p0, .second, vj p1, .second, vj p2, .second, vj p3, .second, vj p4, .second, vj p5, .second, vj q0_, .second, vj q1_, .second, vj q2_, .second, vu, vu, vu, vu, vu, vu, vu, vu] [xj (9223372036854775807 : Int64), xj p3]) _
    refine XS.land X0.here hx rfl (hb hby at_27) rfl ?_
    show own_S p e below s₁ (mkF m 28 #[vj p0, .second, vj p1, .second, vj p2, .second, vj p3, .second, vj p4, .second, vj p5, .second, vj q0_, .second, vj q1_, .second, vj q2_, .second, vu, vu, vu, vu, vu, vu, vu, vu] [xj (p3 &&& (9223372036854775807 : Int64))]) _
    refine castTop (show (mkF m 28 #[vj p0, .second, vj p1, .second, vj p2, .second, vj p3, .second, vj p4, .second, vj p5, .second, vj q0_, .second, vj q1_, .second, vj q2_, .second, vu, vu, vu, vu, vu, vu, vu, vu] [xj (p3 &&& (9223372036854775807 : Int64))]) = (mkF m 28 #[vj p0, .second, vj p1, .second, vj p2, .second, vj p3, .second, vj p4, .second, vj p5, .second, vj q0_, .second, vj q1_, .second, vj q2_, .second, vu, vu, vu, vu, vu, vu, vu, vu] [xj q3_]) from by rw [as16]) ?_
    show own_S p e below s₁ (mkF m 28 #[vj p0, .second, vj p1, .second, vj p2, .second, vj p3, .second, vj p4, .second, vj p5, .second, vj q0_, .second, vj q1_, .second, vj q2_, .second, vu, vu, vu, vu, vu, vu, vu, vu] [xj q3_]) _
    refine XS.lstore X0.here hx rfl (hb hby at_28) rfl (l' := #[vj p0, .second, vj p1, .second, vj p2, .second, vj p3, .second, vj p4, .second, vj p5, .second, vj q0_, .second, vj q1_, .second, vj q2_, .second, vj q3_, .second, vu, vu, vu, vu, vu, vu]) rfl ?_
    show own_S p e below s₁ (mkF m 30 #[vj p0, .second, vj p1, .second, vj p2, .second, vj p3, .second, vj p4, .second, vj p5, .second, vj q0_, .second, vj q1_, .second, vj q2_, .second, vj q3_, .second, vu, vu, vu, vu, vu, vu] []) _
    refine XS.lload X0.here hx rfl (hb hby at_30) rfl ?_
    show own_S p e below s₁ (mkF m 32 #[vj p0, .second, vj p1, .second, vj p2, .second, vj p3, .second, vj p4, .second, vj p5, .second, vj q0_, .second, vj q1_, .second, vj q2_, .second, vj q3_, .second, vu, vu, vu, vu, vu, vu] [xj p4]) _
    refine X0.ldc2J hx hown (mvT hZ (ww hw 0 rfl)) (g := (mkF m 32 #[vj p0, .second, vj p1, .second, vj p2, .second, vj p3, .second, vj p4, .second, vj p5, .second, vj q0_, .second, vj q1_, .second, vj q2_, .second, vj q3_, .second, vu, vu, vu, vu, vu, vu] [xj p4])) rfl (hb hby at_32) ?_
    show own_S p e below s₁ (mkF m 35 #[vj p0, .second, vj p1, .second, vj p2, .second, vj p3, .second, vj p4, .second, vj p5, .second, vj q0_, .second, vj q1_, .second, vj q2_, .second, vj q3_, .second, vu, vu, vu, vu, vu, vu] [xj (9223372036854775807 : Int64), xj p4]) _
    refine XS.land X0.here hx rfl (hb hby at_35) rfl ?_
    show own_S p e below s₁ (mkF m 36 #[vj p0, .second, vj p1, .second, vj p2, .second, vj p3, .second, vj p4, .second, vj p5, .second, vj q0_, .second, vj q1_, .second, vj q2_, .second, vj q3_, .second, vu, vu, vu, vu, vu, vu] [xj (p4 &&& (9223372036854775807 : Int64))]) _
    refine castTop (show (mkF m 36 #[vj p0, .second, vj p1, .second, vj p2, .second, vj p3, .second, vj p4, .second, vj p5, .second, vj q0_, .second, vj q1_, .second, vj q2_, .second, vj q3_, .second, vu, vu, vu, vu, vu, vu] [xj (p4 &&& (9223372036854775807 : Int64))]) = (mkF m 36 #[vj p0, .second, vj p1, .second, vj p2, .second, vj p3, .second, vj p4, .second, vj p5, .second, vj q0_, .second, vj q1_, .second, vj q2_, .second, vj q3_, .second, vu, vu, vu, vu, vu, vu] [xj q4_]) from by rw [as17]) ?_
    show own_S p e below s₁ (mkF m 36 #[vj p0, .second, vj p1, .second, vj p2, .second, vj p3, .second, vj p4, .second, vj p5, .second, vj q0_, .second, vj q1_, .second, vj q2_, .second, vj q3_, .second, vu, vu, vu, vu, vu, vu] [xj q4_]) _
    refine XS.lstore X0.here hx rfl (hb hby at_36) rfl (l' := #[vj p0, .second, vj p1, .second, vj p2, .second, vj p3, .second, vj p4, .second, vj p5, .second, vj q0_, .second, vj q1_, .second, vj q2_, .second, vj q3_, .second, vj q4_, .second, vu, vu, vu, vu]) rfl ?_
    show own_S p e below s₁ (mkF m 38 #[vj p0, .second, vj p1, .second, vj p2, .second, vj p3, .second, vj p4, .second, vj p5, .second, vj q0_, .second, vj q1_, .second, vj q2_, .second, vj q3_, .second, vj q4_, .second, vu, vu, vu, vu] []) _
    refine XS.lload X0.here hx rfl (hb hby at_38) rfl ?_
    show own_S p e below s₁ (mkF m 40 #[vj p0, .second, vj p1, .second, vj p2, .second, vj p3, .second, vj p4, .second, vj p5, .second, vj q0_, .second, vj q1_, .second, vj q2_, .second, vj q3_, .second, vj q4_, .second, vu, vu, vu, vu] [xj p5]) _
    refine X0.ldc2J hx hown (mvT hZ (ww hw 0 rfl)) (g := (mkF m 40 #[vj p0, .second, vj p1, .second, vj p2, .second, vj p3, .second, vj p4, .second, vj p5, .second, vj q0_, .second, vj q1_, .second, vj q2_, .second, vj q3_, .second, vj q4_, .second, vu, vu, vu, vu] [xj p5])) rfl (hb hby at_40) ?_
    show own_S p e below s₁ (mkF m 43 #[vj p0, .second, vj p1, .second, vj p2, .second, vj p3, .second, vj p4, .second, vj p5, .second, vj q0_, .second, vj q1_, .second, vj q2_, .second, vj q3_, .second, vj q4_, .second, vu, vu, vu, vu] [xj (9223372036854775807 : Int64), xj p5]) _
    refine XS.land X0.here hx rfl (hb hby at_43) rfl ?_
    show own_S p e below s₁ (mkF m 44 #[vj p0, .second, vj p1, .second, vj p2, .second, vj p3, .second, vj p4, .second, vj p5, .second, vj q0_, .second, vj q1_, .second, vj q2_, .second, vj q3_, .second, vj q4_, .second, vu, vu, vu, vu] [xj (p5 &&& (9223372036854775807 : Int64))]) _
    refine castTop (show (mkF m 44 #[vj p0, .second, vj p1, .second, vj p2, .second, vj p3, .second, vj p4, .second, vj p5, .second, vj q0_, .second, vj q1_, .second, vj q2_, .second, vj q3_, .second, vj q4_, .second, vu, vu, vu, vu] [xj (p5 &&& (9223372036854775807 : Int64))]) = (mkF m 44 #[vj p0, .second, vj p1, .second, vj p2, .second, vj p3, .second, vj p4, .second, vj p5, .second, vj q0_, .second, vj q1_, .second, vj q2_, .second, vj q3_, .second, vj q4_, .second, vu, vu, vu, vu] [xj q5_]) from by rw [as18]) ?_
    show own_S p e below s₁ (mkF m 44 #[vj p0, .second, vj p1, .second, vj p2, .second, vj p3, .second, vj p4, .second, vj p5, .second, vj q0_, .second, vj q1_, .second, vj q2_, .second, vj q3_, .second, vj q4_, .second, vu, vu, vu, vu] [xj q5_]) _
    refine XS.lstore X0.here hx rfl (hb hby at_44) rfl (l' := #[vj p0, .second, vj p1, .second, vj p2, .second, vj p3, .second, vj p4, .second, vj p5, .second, vj q0_, .second, vj q1_, .second, vj q2_, .second, vj q3_, .second, vj q4_, .second, vj q5_, .second, vu, vu]) rfl ?_
    show own_S p e below s₁ (mkF m 46 #[vj p0, .second, vj p1, .second, vj p2, .second, vj p3, .second, vj p4, .second, vj p5, .second, vj q0_, .second, vj q1_, .second, vj q2_, .second, vj q3_, .second, vj q4_, .second, vj q5_, .second, vu, vu] []) _
    refine st1 _ ?_
    show own_S p e below T1 (mkF m 49 #[vj p0, .second, vj p1, .second, vj p2, .second, vj p3, .second, vj p4, .second, vj p5, .second, vj q0_, .second, vj q1_, .second, vj q2_, .second, vj q3_, .second, vj q4_, .second, vj q5_, .second, vu, vu] [xr b1]) _
    refine XS.dup X1.here hx rfl (hb hby at_49) rfl rfl ?_
    show own_S p e below T1 (mkF m 50 #[vj p0, .second, vj p1, .second, vj p2, .second, vj p3, .second, vj p4, .second, vj p5, .second, vj q0_, .second, vj q1_, .second, vj q2_, .second, vj q3_, .second, vj q4_, .second, vj q5_, .second, vu, vu] [xr b1, xr b1]) _
    refine st2.trans ?_
    show own_S p e below T2 (mkF m 53 #[vj p0, .second, vj p1, .second, vj p2, .second, vj p3, .second, vj p4, .second, vj p5, .second, vj q0_, .second, vj q1_, .second, vj q2_, .second, vj q3_, .second, vj q4_, .second, vj q5_, .second, vu, vu] [xr b1]) _
    refine XS.astore X2.here hx rfl (hb hby at_53) rfl rfl (l' := #[vj p0, .second, vj p1, .second, vj p2, .second, vj p3, .second, vj p4, .second, vj p5, .second, vj q0_, .second, vj q1_, .second, vj q2_, .second, vj q3_, .second, vj q4_, .second, vj q5_, .second, vr b1, vu]) rfl ?_
    show own_S p e below T2 (mkF m 55 #[vj p0, .second, vj p1, .second, vj p2, .second, vj p3, .second, vj p4, .second, vj p5, .second, vj q0_, .second, vj q1_, .second, vj q2_, .second, vj q3_, .second, vj q4_, .second, vj q5_, .second, vr b1, vu] []) _
    refine XS.aload X2.here hx rfl (hb hby at_55) rfl rfl ?_
    show own_S p e below T2 (mkF m 57 #[vj p0, .second, vj p1, .second, vj p2, .second, vj p3, .second, vj p4, .second, vj p5, .second, vj q0_, .second, vj q1_, .second, vj q2_, .second, vj q3_, .second, vj q4_, .second, vj q5_, .second, vr b1, vu] [xr b1]) _
    refine st3 _ ?_
    show own_S p e below T3 (mkF m 60 #[vj p0, .second, vj p1, .second, vj p2, .second, vj p3, .second, vj p4, .second, vj p5, .second, vj q0_, .second, vj q1_, .second, vj q2_, .second, vj q3_, .second, vj q4_, .second, vj q5_, .second, vr b1, vu] [xr u1, xr b1]) _
    refine XS.lload X3.here hx rfl (hb hby at_60) rfl ?_
    show own_S p e below T3 (mkF m 62 #[vj p0, .second, vj p1, .second, vj p2, .second, vj p3, .second, vj p4, .second, vj p5, .second, vj q0_, .second, vj q1_, .second, vj q2_, .second, vj q3_, .second, vj q4_, .second, vj q5_, .second, vr b1, vu] [xj q0_, xr u1, xr b1]) _
    refine st4.trans ?_
    show own_S p e below T4 (mkF m 65 #[vj p0, .second, vj p1, .second, vj p2, .second, vj p3, .second, vj p4, .second, vj p5, .second, vj q0_, .second, vj q1_, .second, vj q2_, .second, vj q3_, .second, vj q4_, .second, vj q5_, .second, vr b1, vu] []) _
    refine XS.aload X4.here hx rfl (hb hby at_65) rfl rfl ?_
    show own_S p e below T4 (mkF m 67 #[vj p0, .second, vj p1, .second, vj p2, .second, vj p3, .second, vj p4, .second, vj p5, .second, vj q0_, .second, vj q1_, .second, vj q2_, .second, vj q3_, .second, vj q4_, .second, vj q5_, .second, vr b1, vu] [xr b1]) _
    refine st5 _ ?_
    show own_S p e below T5 (mkF m 70 #[vj p0, .second, vj p1, .second, vj p2, .second, vj p3, .second, vj p4, .second, vj p5, .second, vj q0_, .second, vj q1_, .second, vj q2_, .second, vj q3_, .second, vj q4_, .second, vj q5_, .second, vr b1, vu] [xr u2, xr b1]) _
    refine XS.lload X5.here hx rfl (hb hby at_70) rfl ?_
    show own_S p e below T5 (mkF m 72 #[vj p0, .second, vj p1, .second, vj p2, .second, vj p3, .second, vj p4, .second, vj p5, .second, vj q0_, .second, vj q1_, .second, vj q2_, .second, vj q3_, .second, vj q4_, .second, vj q5_, .second, vr b1, vu] [xj q1_, xr u2, xr b1]) _
    refine st6.trans ?_
    show own_S p e below T6 (mkF m 75 #[vj p0, .second, vj p1, .second, vj p2, .second, vj p3, .second, vj p4, .second, vj p5, .second, vj q0_, .second, vj q1_, .second, vj q2_, .second, vj q3_, .second, vj q4_, .second, vj q5_, .second, vr b1, vu] []) _
    refine XS.aload X6.here hx rfl (hb hby at_75) rfl rfl ?_
    show own_S p e below T6 (mkF m 77 #[vj p0, .second, vj p1, .second, vj p2, .second, vj p3, .second, vj p4, .second, vj p5, .second, vj q0_, .second, vj q1_, .second, vj q2_, .second, vj q3_, .second, vj q4_, .second, vj q5_, .second, vr b1, vu] [xr b1]) _
    refine st7 _ ?_
    show own_S p e below T7 (mkF m 80 #[vj p0, .second, vj p1, .second, vj p2, .second, vj p3, .second, vj p4, .second, vj p5, .second, vj q0_, .second, vj q1_, .second, vj q2_, .second, vj q3_, .second, vj q4_, .second, vj q5_, .second, vr b1, vu] [xr u3, xr b1]) _
    refine XS.lload X7.here hx rfl (hb hby at_80) rfl ?_
    show own_S p e below T7 (mkF m 82 #[vj p0, .second, vj p1, .second, vj p2, .second, vj p3, .second, vj p4, .second, vj p5, .second, vj q0_, .second, vj q1_, .second, vj q2_, .second, vj q3_, .second, vj q4_, .second, vj q5_, .second, vr b1, vu] [xj q2_, xr u3, xr b1]) _
    refine st8.trans ?_
    show own_S p e below T8 (mkF m 85 #[vj p0, .second, vj p1, .second, vj p2, .second, vj p3, .second, vj p4, .second, vj p5, .second, vj q0_, .second, vj q1_, .second, vj q2_, .second, vj q3_, .second, vj q4_, .second, vj q5_, .second, vr b1, vu] []) _
    refine XS.aload X8.here hx rfl (hb hby at_85) rfl rfl ?_
    show own_S p e below T8 (mkF m 87 #[vj p0, .second, vj p1, .second, vj p2, .second, vj p3, .second, vj p4, .second, vj p5, .second, vj q0_, .second, vj q1_, .second, vj q2_, .second, vj q3_, .second, vj q4_, .second, vj q5_, .second, vr b1, vu] [xr b1]) _
    refine st9 _ ?_
    show own_S p e below T9 (mkF m 90 #[vj p0, .second, vj p1, .second, vj p2, .second, vj p3, .second, vj p4, .second, vj p5, .second, vj q0_, .second, vj q1_, .second, vj q2_, .second, vj q3_, .second, vj q4_, .second, vj q5_, .second, vr b1, vu] [xr u4, xr b1]) _
    refine XS.lload X9.here hx rfl (hb hby at_90) rfl ?_
    show own_S p e below T9 (mkF m 92 #[vj p0, .second, vj p1, .second, vj p2, .second, vj p3, .second, vj p4, .second, vj p5, .second, vj q0_, .second, vj q1_, .second, vj q2_, .second, vj q3_, .second, vj q4_, .second, vj q5_, .second, vr b1, vu] [xj q3_, xr u4, xr b1]) _
    refine st10.trans ?_
    show own_S p e below T10 (mkF m 95 #[vj p0, .second, vj p1, .second, vj p2, .second, vj p3, .second, vj p4, .second, vj p5, .second, vj q0_, .second, vj q1_, .second, vj q2_, .second, vj q3_, .second, vj q4_, .second, vj q5_, .second, vr b1, vu] []) _
    refine XS.aload X10.here hx rfl (hb hby at_95) rfl rfl ?_
    show own_S p e below T10 (mkF m 97 #[vj p0, .second, vj p1, .second, vj p2, .second, vj p3, .second, vj p4, .second, vj p5, .second, vj q0_, .second, vj q1_, .second, vj q2_, .second, vj q3_, .second, vj q4_, .second, vj q5_, .second, vr b1, vu] [xr b1]) _
    refine st11 _ ?_
    show own_S p e below T11 (mkF m 100 #[vj p0, .second, vj p1, .second, vj p2, .second, vj p3, .second, vj p4, .second, vj p5, .second, vj q0_, .second, vj q1_, .second, vj q2_, .second, vj q3_, .second, vj q4_, .second, vj q5_, .second, vr b1, vu] [xr u5, xr b1]) _
    refine XS.lload X11.here hx rfl (hb hby at_100) rfl ?_
    show own_S p e below T11 (mkF m 102 #[vj p0, .second, vj p1, .second, vj p2, .second, vj p3, .second, vj p4, .second, vj p5, .second, vj q0_, .second, vj q1_, .second, vj q2_, .second, vj q3_, .second, vj q4_, .second, vj q5_, .second, vr b1, vu] [xj q4_, xr u5, xr b1]) _
    refine st12.trans ?_
    show own_S p e below T12 (mkF m 105 #[vj p0, .second, vj p1, .second, vj p2, .second, vj p3, .second, vj p4, .second, vj p5, .second, vj q0_, .second, vj q1_, .second, vj q2_, .second, vj q3_, .second, vj q4_, .second, vj q5_, .second, vr b1, vu] []) _
    refine XS.aload X12.here hx rfl (hb hby at_105) rfl rfl ?_
    show own_S p e below T12 (mkF m 107 #[vj p0, .second, vj p1, .second, vj p2, .second, vj p3, .second, vj p4, .second, vj p5, .second, vj q0_, .second, vj q1_, .second, vj q2_, .second, vj q3_, .second, vj q4_, .second, vj q5_, .second, vr b1, vu] [xr b1]) _
    refine st13 _ ?_
    show own_S p e below T13 (mkF m 110 #[vj p0, .second, vj p1, .second, vj p2, .second, vj p3, .second, vj p4, .second, vj p5, .second, vj q0_, .second, vj q1_, .second, vj q2_, .second, vj q3_, .second, vj q4_, .second, vj q5_, .second, vr b1, vu] [xr u6, xr b1]) _
    refine XS.lload X13.here hx rfl (hb hby at_110) rfl ?_
    show own_S p e below T13 (mkF m 112 #[vj p0, .second, vj p1, .second, vj p2, .second, vj p3, .second, vj p4, .second, vj p5, .second, vj q0_, .second, vj q1_, .second, vj q2_, .second, vj q3_, .second, vj q4_, .second, vj q5_, .second, vr b1, vu] [xj q5_, xr u6, xr b1]) _
    refine st14.trans ?_
    show own_S p e below T14 (mkF m 115 #[vj p0, .second, vj p1, .second, vj p2, .second, vj p3, .second, vj p4, .second, vj p5, .second, vj q0_, .second, vj q1_, .second, vj q2_, .second, vj q3_, .second, vj q4_, .second, vj q5_, .second, vr b1, vu] []) _
    refine XS.lload X14.here hx rfl (hb hby at_115) rfl ?_
    show own_S p e below T14 (mkF m 117 #[vj p0, .second, vj p1, .second, vj p2, .second, vj p3, .second, vj p4, .second, vj p5, .second, vj q0_, .second, vj q1_, .second, vj q2_, .second, vj q3_, .second, vj q4_, .second, vj q5_, .second, vr b1, vu] [xj q0_]) _
    refine XS.lconst X14.here hx rfl (hb hby at_117) ?_
    show own_S p e below T14 (mkF m 118 #[vj p0, .second, vj p1, .second, vj p2, .second, vj p3, .second, vj p4, .second, vj p5, .second, vj q0_, .second, vj q1_, .second, vj q2_, .second, vj q3_, .second, vj q4_, .second, vj q5_, .second, vr b1, vu] [xj (0 : Int64), xj q0_]) _
    refine XS.lcmp X14.here hx rfl (hb hby at_118) rfl ?_
    show own_S p e below T14 (mkF m 119 #[vj p0, .second, vj p1, .second, vj p2, .second, vj p3, .second, vj p4, .second, vj p5, .second, vj q0_, .second, vj q1_, .second, vj q2_, .second, vj q3_, .second, vj q4_, .second, vj q5_, .second, vr b1, vu] [xi (lcmpW q0_ (0 : Int64))]) _
    show own_S p e below T14 (mkF m 119 #[vj p0, .second, vj p1, .second, vj p2, .second, vj p3, .second, vj p4, .second, vj p5, .second, vj q0_, .second, vj q1_, .second, vj q2_, .second, vj q3_, .second, vj q4_, .second, vj q5_, .second, vr b1, vu] [xi (lcmpW q0_ (0 : Int64))]) _
    refine XS.ifYes X14.here hx rfl (pc0 := 119) (pc' := 161) rfl (hb hby at_119) rfl as21 (by decide) (by decide) ?_
    show own_S p e below T14 (mkF m 161 #[vj p0, .second, vj p1, .second, vj p2, .second, vj p3, .second, vj p4, .second, vj p5, .second, vj q0_, .second, vj q1_, .second, vj q2_, .second, vj q3_, .second, vj q4_, .second, vj q5_, .second, vr b1, vu] []) _
    refine XS.iconst X14.here hx rfl (hb hby at_161) ?_
    show own_S p e below T14 (mkF m 162 #[vj p0, .second, vj p1, .second, vj p2, .second, vj p3, .second, vj p4, .second, vj p5, .second, vj q0_, .second, vj q1_, .second, vj q2_, .second, vj q3_, .second, vj q4_, .second, vj q5_, .second, vr b1, vu] [xi (0 : Int32)]) _
    refine XS.istore X14.here hx rfl (hb hby at_162) rfl (l' := #[vj p0, .second, vj p1, .second, vj p2, .second, vj p3, .second, vj p4, .second, vj p5, .second, vj q0_, .second, vj q1_, .second, vj q2_, .second, vj q3_, .second, vj q4_, .second, vj q5_, .second, vr b1, vi (0 : Int32)]) rfl ?_
    show own_S p e below T14 (mkF m 164 #[vj p0, .second, vj p1, .second, vj p2, .second, vj p3, .second, vj p4, .second, vj p5, .second, vj q0_, .second, vj q1_, .second, vj q2_, .second, vj q3_, .second, vj q4_, .second, vj q5_, .second, vr b1, vi (0 : Int32)] []) _
    refine XS.aload X14.here hx rfl (hb hby at_164) rfl rfl ?_
    show own_S p e below T14 (mkF m 166 #[vj p0, .second, vj p1, .second, vj p2, .second, vj p3, .second, vj p4, .second, vj p5, .second, vj q0_, .second, vj q1_, .second, vj q2_, .second, vj q3_, .second, vj q4_, .second, vj q5_, .second, vr b1, vi (0 : Int32)] [xr b1]) _
    refine st15.trans ?_
    show own_S p e below T15 (mkF m 169 #[vj p0, .second, vj p1, .second, vj p2, .second, vj p3, .second, vj p4, .second, vj p5, .second, vj q0_, .second, vj q1_, .second, vj q2_, .second, vj q3_, .second, vj q4_, .second, vj q5_, .second, vr b1, vi (0 : Int32)] [xi (0 : Int32)]) _
    refine XS.iload X15.here hx rfl (hb hby at_169) rfl ?_
    show own_S p e below T15 (mkF m 171 #[vj p0, .second, vj p1, .second, vj p2, .second, vj p3, .second, vj p4, .second, vj p5, .second, vj q0_, .second, vj q1_, .second, vj q2_, .second, vj q3_, .second, vj q4_, .second, vj q5_, .second, vr b1, vi (0 : Int32)] [xi (0 : Int32), xi (0 : Int32)]) _
    refine XS.icmpNo X15.here hx rfl (hb hby at_171) rfl (by decide) ?_
    show own_S p e below T15 (mkF m 174 #[vj p0, .second, vj p1, .second, vj p2, .second, vj p3, .second, vj p4, .second, vj p5, .second, vj q0_, .second, vj q1_, .second, vj q2_, .second, vj q3_, .second, vj q4_, .second, vj q5_, .second, vr b1, vi (0 : Int32)] []) _
    refine XS.iconst X15.here hx rfl (hb hby at_174) ?_
    show own_S p e below T15 (mkF m 175 #[vj p0, .second, vj p1, .second, vj p2, .second, vj p3, .second, vj p4, .second, vj p5, .second, vj q0_, .second, vj q1_, .second, vj q2_, .second, vj q3_, .second, vj q4_, .second, vj q5_, .second, vr b1, vi (0 : Int32)] [xi (1 : Int32)]) _
    refine XS.goto X15.here hx rfl (pc0 := 175) (pc' := 179) rfl (hb hby at_175) (by decide) (by decide) ?_
    show own_S p e below T15 (mkF m 179 #[vj p0, .second, vj p1, .second, vj p2, .second, vj p3, .second, vj p4, .second, vj p5, .second, vj q0_, .second, vj q1_, .second, vj q2_, .second, vj q3_, .second, vj q4_, .second, vj q5_, .second, vr b1, vi (0 : Int32)] [xi (1 : Int32)]) _
    exact retN X15 hx (t := .boolean) Bd.returns (by simp) (hb hby at_179) hr
  · exact ⟨rfl, N15⟩
theorem own_law (l : Launch) (Z : State) (a0 : Array Value) (hw : ∀ d ∈ tables_1, d.before a0 Z = true) (u0 u1 u2 u3 u4 u5 u6 : Addr) (G : own_St Z u0 u1 u2 u3 u4 u5 u6) (p0 : Int64) (p1 : Int64) (p2 : Int64) (p3 : Int64) (p4 : Int64) (p5 : Int64) (h0 : Heap) (n0 : Nat) (O0 : Old Z n0 h0) : own_Met l Z x code maxLocals ret room_1 #[(.long p0), (.long p1), (.long p2), (.long p3), (.long p4), (.long p5)] h0 (own_QL (some (.int (1 : Int32))) n0) := by
  obtain ⟨q0_, as13⟩ : ∃ z, (p0 &&& (9223372036854775807 : Int64)) = z := ⟨_, rfl⟩
  obtain ⟨q1_, as14⟩ : ∃ z, (p1 &&& (9223372036854775807 : Int64)) = z := ⟨_, rfl⟩
  obtain ⟨q2_, as15⟩ : ∃ z, (p2 &&& (9223372036854775807 : Int64)) = z := ⟨_, rfl⟩
  obtain ⟨q3_, as16⟩ : ∃ z, (p3 &&& (9223372036854775807 : Int64)) = z := ⟨_, rfl⟩
  obtain ⟨q4_, as17⟩ : ∃ z, (p4 &&& (9223372036854775807 : Int64)) = z := ⟨_, rfl⟩
  obtain ⟨q5_, as18⟩ : ∃ z, (p5 &&& (9223372036854775807 : Int64)) = z := ⟨_, rfl⟩
  rcases own_z p0 q0_ as13 with ⟨as19, as20⟩ | ⟨as21, as22⟩
  · rcases own_z p1 q1_ as14 with ⟨as23, as24⟩ | ⟨as25, as26⟩
    · rcases own_z p2 q2_ as15 with ⟨as27, as28⟩ | ⟨as29, as30⟩
      · rcases own_z p3 q3_ as16 with ⟨as31, as32⟩ | ⟨as33, as34⟩
        · rcases own_z p4 q4_ as17 with ⟨as35, as36⟩ | ⟨as37, as38⟩
          · rcases own_z p5 q5_ as18 with ⟨as39, as40⟩ | ⟨as41, as42⟩
            · exact own_l0 l Z a0 hw u0 u1 u2 u3 u4 u5 u6 G p0 p1 p2 p3 p4 p5 q0_ q1_ q2_ q3_ q4_ q5_ as13 as14 as15 as16 as17 as18 as19 as23 as27 as31 as35 as39 as20 as24 as28 as32 as36 as40 h0 n0 O0
            · exact own_l1 l Z a0 hw u0 u1 u2 u3 u4 u5 u6 G p0 p1 p2 p3 p4 p5 q0_ q1_ q2_ q3_ q4_ q5_ as13 as14 as15 as16 as17 as18 as19 as23 as27 as31 as35 as41 as20 as24 as28 as32 as36 as42 h0 n0 O0
          · exact own_l2 l Z a0 hw u0 u1 u2 u3 u4 u5 u6 G p0 p1 p2 p3 p4 p5 q0_ q1_ q2_ q3_ q4_ q5_ as13 as14 as15 as16 as17 as18 as19 as23 as27 as31 as37 as20 as24 as28 as32 as38 h0 n0 O0
        · exact own_l3 l Z a0 hw u0 u1 u2 u3 u4 u5 u6 G p0 p1 p2 p3 p4 p5 q0_ q1_ q2_ q3_ q4_ q5_ as13 as14 as15 as16 as17 as18 as19 as23 as27 as33 as20 as24 as28 as34 h0 n0 O0
      · exact own_l4 l Z a0 hw u0 u1 u2 u3 u4 u5 u6 G p0 p1 p2 p3 p4 p5 q0_ q1_ q2_ q3_ q4_ q5_ as13 as14 as15 as16 as17 as18 as19 as23 as29 as20 as24 as30 h0 n0 O0
    · exact own_l5 l Z a0 hw u0 u1 u2 u3 u4 u5 u6 G p0 p1 p2 p3 p4 p5 q0_ q1_ q2_ q3_ q4_ q5_ as13 as14 as15 as16 as17 as18 as19 as25 as20 as26 h0 n0 O0
  · exact own_l6 l Z a0 hw u0 u1 u2 u3 u4 u5 u6 G p0 p1 p2 p3 p4 p5 q0_ q1_ q2_ q3_ q4_ q5_ as13 as14 as15 as16 as17 as18 as21 as22 h0 n0 O0
set_option maxRecDepth 65536 in
set_option maxHeartbeats 40000000 in
theorem comes_1 {Post : Tables → Env → Array Value → State → Outcome → State → Prop} (hpost : ∀ tb e args s v u, (limb_1_1.after args s (.returned v) u = true ∧ limb_1_2.after args s (.returned v) u = true ∧ True) → FrameEnd s (.returned v) u (Jvm.fieldLocs frame_1_writes args s ++ Jvm.arrayLocs frame_1_arrays args s ++ Jvm.staticLocs frame_1_statics s) 16 128 → Post tb e args s (.returned v) u) :
    ArmFor flags0 classFile x code maxLocals ret World_1 tables_1 room_1 Calls_1 rest_1 Pre_1 Post := by
  intro l hfl _ _ p e ha hc hk s m args below hf hA hF happ hP
  obtain ⟨hcalls, hrest, hpre⟩ := hP
  obtain ⟨-, -, -, hnamed, -, -, -, hat⟩ := (Spec.applies_iff hf).mp happ
  obtain ⟨hg, hn⟩ := and_e (Cond.before_iff.mp (show (Jvm.Cond.and given_1 narrow_1).before args s = true from hpre))
  obtain ⟨hcount, hg0⟩ := and_e hg
  obtain ⟨ga0, hg1⟩ := and_e hg0
  obtain ⟨ga1, hg2⟩ := and_e hg1
  obtain ⟨ga2, hg3⟩ := and_e hg2
  obtain ⟨ga3, hg4⟩ := and_e hg3
  obtain ⟨ga4, hg5⟩ := and_e hg4
  have ga5 := hg5
  obtain ⟨w0, w1, w2, w3, w4, w5, rfl⟩ : ∃ w0 w1 w2 w3 w4 w5 : Value, args = #[w0, w1, w2, w3, w4, w5] := by
    have hs : args.size = 6 := by simpa [Cond.value, given_1] using hcount
    obtain ⟨L⟩ := args
    match L, hs with
    | [w0, w1, w2, w3, w4, w5], _ => exact ⟨w0, w1, w2, w3, w4, w5, rfl⟩
  have hw := fun d (hd : d ∈ tables_1) => atoms_spec (ws := Jvm.Cond.code x code maxLocals ret :: tables_1) hat d (List.mem_cons_of_mem _ hd)
  have hfit : Fit s := fun {y c} hc i hi => by
    obtain ⟨ha, rfl⟩ := Array.getElem?_eq_some_iff.mp hc
    have q := List.all_eq_true.mp ((Array.all_eq_true_iff_forall_mem.mp hF) _ (Array.getElem_mem ha)) i (List.mem_range.mpr hi)
    simpa [Array.getElem?_eq_getElem hi] using q
  obtain ⟨p0, ei0⟩ := isL_v ga0
  obtain rfl : w0 = (.long p0) := Option.some.inj ei0
  obtain ⟨p1, ei1⟩ := isL_v ga1
  obtain rfl : w1 = (.long p1) := Option.some.inj ei1
  obtain ⟨p2, ei2⟩ := isL_v ga2
  obtain rfl : w2 = (.long p2) := Option.some.inj ei2
  obtain ⟨p3, ei3⟩ := isL_v ga3
  obtain rfl : w3 = (.long p3) := Option.some.inj ei3
  obtain ⟨p4, ei4⟩ := isL_v ga4
  obtain rfl : w4 = (.long p4) := Option.some.inj ei4
  obtain ⟨p5, ei5⟩ := isL_v ga5
  obtain rfl : w5 = (.long p5) := Option.some.inj ei5
  have hc0 := hn
  obtain ⟨ca0, hc1⟩ := and_e hc0
  obtain ⟨ca1, hc2⟩ := and_e hc1
  obtain ⟨ca2, hc3⟩ := and_e hc2
  obtain ⟨ca3, hc4⟩ := and_e hc3
  obtain ⟨ca4, hc5⟩ := and_e hc4
  obtain ⟨ca5, hc6⟩ := and_e hc5
  obtain ⟨ca6, hc7⟩ := and_e hc6
  obtain ⟨ca7, hc8⟩ := and_e hc7
  obtain ⟨ca8, hc9⟩ := and_e hc8
  obtain ⟨ca9, hc10⟩ := and_e hc9
  obtain ⟨ca10, hc11⟩ := and_e hc10
  obtain ⟨ca11, hc12⟩ := and_e hc11
  obtain ⟨ca12, hc13⟩ := and_e hc12
  obtain ⟨ca13, hc14⟩ := and_e hc13
  obtain ⟨ca14, hc15⟩ := and_e hc14
  obtain ⟨ca15, hc16⟩ := and_e hc15
  obtain ⟨ca16, hc17⟩ := and_e hc16
  obtain ⟨ca17, hc18⟩ := and_e hc17
  obtain ⟨ca18, hc19⟩ := and_e hc18
  obtain ⟨ca19, hc20⟩ := and_e hc19
  have ca20 := hc20
  obtain ⟨u0, ev_u0⟩ := exa_v ca1
  have pX_u0 := Exa.start ev_u0 ca1
  have pS_u0 : Sta s s.heap "com/example/stackwright/stackwright/engine/ManaType" "$VALUES" "[Lcom/example/stackwright/stackwright/engine/ManaType;" (.ref u0) := Sta.start ev_u0 (Or.inr ⟨(ww hw 12 rfl), (ww hw 15 rfl)⟩)
  obtain ⟨u1, ev_u1⟩ := exa_v ca3
  have pX_u1 := Exa.start ev_u1 ca3
  have pS_u1 : Sta s s.heap "com/example/stackwright/stackwright/engine/ManaType" "WHITE" "Lcom/example/stackwright/stackwright/engine/ManaType;" (.ref u1) := Sta.start ev_u1 (Or.inr ⟨(ww hw 12 rfl), (ww hw 23 rfl)⟩)
  obtain ⟨u2, ev_u2⟩ := exa_v ca5
  have pX_u2 := Exa.start ev_u2 ca5
  have pS_u2 : Sta s s.heap "com/example/stackwright/stackwright/engine/ManaType" "BLUE" "Lcom/example/stackwright/stackwright/engine/ManaType;" (.ref u2) := Sta.start ev_u2 (Or.inr ⟨(ww hw 12 rfl), (ww hw 24 rfl)⟩)
  obtain ⟨u3, ev_u3⟩ := exa_v ca7
  have pX_u3 := Exa.start ev_u3 ca7
  have pS_u3 : Sta s s.heap "com/example/stackwright/stackwright/engine/ManaType" "BLACK" "Lcom/example/stackwright/stackwright/engine/ManaType;" (.ref u3) := Sta.start ev_u3 (Or.inr ⟨(ww hw 12 rfl), (ww hw 25 rfl)⟩)
  obtain ⟨u4, ev_u4⟩ := exa_v ca9
  have pX_u4 := Exa.start ev_u4 ca9
  have pS_u4 : Sta s s.heap "com/example/stackwright/stackwright/engine/ManaType" "RED" "Lcom/example/stackwright/stackwright/engine/ManaType;" (.ref u4) := Sta.start ev_u4 (Or.inr ⟨(ww hw 12 rfl), (ww hw 26 rfl)⟩)
  obtain ⟨u5, ev_u5⟩ := exa_v ca11
  have pX_u5 := Exa.start ev_u5 ca11
  have pS_u5 : Sta s s.heap "com/example/stackwright/stackwright/engine/ManaType" "GREEN" "Lcom/example/stackwright/stackwright/engine/ManaType;" (.ref u5) := Sta.start ev_u5 (Or.inr ⟨(ww hw 12 rfl), (ww hw 27 rfl)⟩)
  obtain ⟨u6, ev_u6⟩ := exa_v ca13
  have pX_u6 := Exa.start ev_u6 ca13
  have pS_u6 : Sta s s.heap "com/example/stackwright/stackwright/engine/ManaType" "COLORLESS" "Lcom/example/stackwright/stackwright/engine/ManaType;" (.ref u6) := Sta.start ev_u6 (Or.inr ⟨(ww hw 12 rfl), (ww hw 28 rfl)⟩)
  have pF_u1_ordinal := own_fld ev_u1 ca15
  have pF_u2_ordinal := own_fld ev_u2 ca16
  have pF_u3_ordinal := own_fld ev_u3 ca17
  have pF_u4_ordinal := own_fld ev_u4 ca18
  have pF_u5_ordinal := own_fld ev_u5 ca19
  have pF_u6_ordinal := own_fld ev_u6 ca20
  obtain ⟨cl_u0, pA_u0⟩ := Arr.start ev_u0 ca0
  have pl_u0 := own_len ev_u0 pA_u0 ca2 (k' := 6) (by decide)
  have pVA_u0 := FitC.start hfit pA_u0
  have G : own_St s u0 u1 u2 u3 u4 u5 u6 := ⟨pS_u0, pX_u0, pS_u1, pX_u1, pS_u2, pX_u2, pS_u3, pX_u3, pS_u4, pX_u4, pS_u5, pX_u5, pS_u6, pX_u6, pF_u1_ordinal, pF_u2_ordinal, pF_u3_ordinal, pF_u4_ordinal, pF_u5_ordinal, pF_u6_ordinal, ⟨cl_u0, pA_u0, pl_u0, pVA_u0⟩⟩
  obtain ⟨n, o, h1, h2, h3, _, L, rfl, ⟨rfl, N⟩, hq⟩ := own_law l s _ hw u0 u1 u2 u3 u4 u5 u6 G p0 p1 p2 p3 p4 p5 s.heap s.heap.size (Old.start s) tables_1 p e ha hc hk s m _ below hf ((Spec.applies_iff_loose hf).mp happ).1 ⟨rfl, State.Warmed39.refl s, rfl⟩ trivial
  refine ⟨n, _, h1, h2, h3, hpost _ _ _ _ _ _ ⟨Cond.after_iff.mpr rfl, Cond.after_iff.mpr (eq_i res_at (Term.int_eval (1)) rfl), trivial⟩ ⟨hq.1, hq.2.1, (hq.2.2.sift fun y hy => Or.inr (N y hy)).mono (by decide) (by decide)⟩⟩
theorem main_1_1 : Claimed_1_1 := comes_1 fun _ _ _ _ _ _ h hF => ⟨h.1, hF⟩
theorem main_1_2 : Claimed_1_2 := comes_1 fun _ _ _ _ _ _ h hF => ⟨h.2.1, hF⟩
end Jvm.Pilot.@@N@@
namespace Jvm.Pilot.@@N@@
open Jvm Jvm.ClassFile Sem Op Lib Jvm.Free Jvm.Stand Jvm.Pilot.@@N@@.Jvm.D
/-! MADE BY PROGRAM (witnessworld.py) out of the Statement's table words and the real class files: 17 classes; the members and pool entries that the words name. The judged class is class 1, her method 1. -/
namespace start1
open Jvm.ClassFile
def u (s : String) : CpInfo := .utf8 (stringToUtf16 s)
/-- a pool by its gaps: so many unusable entries, then the entry; so many at the end -/
def gap : Nat → List CpInfo → List CpInfo
  | 0, r => r
  | n + 1, r => .unusable :: gap n r
def poolList (es : List (Nat × CpInfo)) (last : Nat) : List CpInfo := es.foldr (fun e r => gap e.1 (e.2 :: r)) (gap last [])
def pool (es : List (Nat × CpInfo)) (last : Nat) : Array CpInfo := ⟨poolList es last⟩
def fileOf (pool : Array CpInfo) (this : Nat) (attrs : Array Attribute := #[]) (ms : Array MethodInfo := #[]) (fl : Nat := 33) (sup : Nat := 0) (ifs : Array Nat := #[]) (fds : Array FieldInfo := #[]) : ClassFile where
  minorVersion := 0
  majorVersion := 65
  constantPool := pool
  accessFlags := fl
  thisClass := this
  superClass := sup
  interfaces := ifs
  fields := fds
  methods := ms
  attributes := attrs
def plain (name : String) (sup : Option ClassId) : Class where
  name := name
  kind := .ordinary
  loader := none
  accessFlags := 33
  super := sup
  interfaces := #[]
  cf := none
  fields := #[]
  methods := #[]
  instanceTypes := #[]
  staticTypes := #[]
  resolved := #[]
  callSites := []
  init := .initialized
  statics := none
  mirror := none

def pool0 : Array CpInfo := pool [(5, u "<init>"), (0, u "()V"), (1, .class_ 10), (1, u "java/lang/Object"), (85, u "clone"), (0, u "()Ljava/lang/Object;")] 26

def k0c0 : Code := { maxStack := 0, maxLocals := 1, code := object_method_1_code, exceptionTable := #[], attributes := #[] }
def k0m0 : Method := { name := "<init>", desc := "()V", sig := { parameters := [], returnType := none }, accessFlags := 1, code := some k0c0 }
def k0m1 : Method := { name := "clone", desc := "()Ljava/lang/Object;", sig := { parameters := [], returnType := some (.object "java/lang/Object") }, accessFlags := 260, code := none }
/-- java/lang/Object -/
def k0 : Class := { plain "java/lang/Object" none with
  accessFlags := 33
  interfaces := #[]
  cf := some (fileOf pool0 8 #[] #[{ accessFlags := 1, nameIndex := 5, descriptorIndex := 6, attributes := #[] }, { accessFlags := 260, nameIndex := 96, descriptorIndex := 97, attributes := #[] }] 33 0 #[] #[])
  fields := #[]
  methods := #[k0m0, k0m1]
  instanceTypes := #[]
  staticTypes := #[]
  resolved := Array.replicate 124 none
  statics := none }

def pool1 : Array CpInfo := pool [(2, .class_ 4), (0, .nameAndType 5 6), (0, u "java/lang/Object"), (0, u "<init>"), (0, u "()V"), (2, .long 9223372036854775807), (1, .class_ 12), (0, u "com/example/stackwright/stackwright/engine/ManaPool"), (0, .methodref 11 3), (0, .fieldref 15 16), (0, .class_ 17), (0, .nameAndType 18 19), (0, u "com/example/stackwright/stackwright/engine/ManaType"), (0, u "WHITE"), (0, u "Lcom/example/stackwright/stackwright/engine/ManaType;"), (0, .methodref 11 21), (0, .nameAndType 22 23), (0, u "add"), (0, u "(Lcom/example/stackwright/stackwright/engine/ManaType;J)V"), (0, .fieldref 15 25), (0, .nameAndType 26 19), (0, u "BLUE"), (0, .fieldref 15 28), (0, .nameAndType 29 19), (0, u "BLACK"), (0, .fieldref 15 31), (0, .nameAndType 32 19), (0, u "RED"), (0, .fieldref 15 34), (0, .nameAndType 35 19), (0, u "GREEN"), (0, .fieldref 15 37), (0, .nameAndType 38 19), (0, u "COLORLESS"), (0, .methodref 11 40), (0, .nameAndType 41 42), (0, u "isEmpty"), (0, u "()Z"), (0, .class_ 44), (0, u "com/example/stackwright/stackwright/engine/ManaPoolIsEmptyPinLaw"), (2, u "law"), (0, u "(JJJJJJ)Z")] 3

def k1m0 : Method := { name := "<init>", desc := "()V", sig := { parameters := [], returnType := none }, accessFlags := 1, code := none }
def k1c1 : Code := { maxStack := 4, maxLocals := 26, code := code, exceptionTable := #[], attributes := #[] }
def k1m1 : Method := { name := "law", desc := "(JJJJJJ)Z", sig := { parameters := [.long, .long, .long, .long, .long, .long], returnType := some .boolean }, accessFlags := 9, code := some k1c1 }
/-- com/example/stackwright/stackwright/engine/ManaPoolIsEmptyPinLaw -/
def k1 : Class := { plain "com/example/stackwright/stackwright/engine/ManaPoolIsEmptyPinLaw" (some 0) with
  accessFlags := 49
  interfaces := #[]
  cf := some (fileOf pool1 43 #[] #[{ accessFlags := 1, nameIndex := 5, descriptorIndex := 6, attributes := #[] }, { accessFlags := 9, nameIndex := 47, descriptorIndex := 48, attributes := #[] }] 49 2 #[] #[])
  fields := #[]
  methods := #[k1m0, k1m1]
  instanceTypes := #[]
  staticTypes := #[]
  resolved := Array.replicate 52 none
  statics := none }

def pool2 : Array CpInfo := pool [(1, .methodref 2 3), (0, .class_ 4), (0, .nameAndType 5 6), (0, u "java/lang/Object"), (0, u "<init>"), (0, u "()V"), (0, .methodref 8 9), (0, .class_ 10), (0, .nameAndType 11 12), (0, u "com/example/stackwright/stackwright/engine/ManaType"), (0, u "values"), (0, u "()[Lcom/example/stackwright/stackwright/engine/ManaType;"), (0, .fieldref 14 15), (0, .class_ 16), (0, .nameAndType 17 18), (0, u "com/example/stackwright/stackwright/engine/ManaPool"), (0, u "amounts"), (0, u "[J"), (9, .methodref 8 29), (0, .nameAndType 30 31), (0, u "ordinal"), (0, u "()I"), (0, .methodref 33 34), (0, .class_ 35), (0, .nameAndType 36 37), (0, u "java/lang/Math"), (0, u "addExact"), (0, u "(JJ)J"), (28, u "GENERIC_PAYMENT_ORDER"), (0, u "Ljava/util/List;"), (11, u "()Z"), (45, u "add"), (0, u "(Lcom/example/stackwright/stackwright/engine/ManaType;J)V"), (1, u "isEmpty")] 26

def k2c0 : Code := { maxStack := 2, maxLocals := 1, code := prog_46_method_1_code, exceptionTable := #[], attributes := #[] }
def k2m0 : Method := { name := "<init>", desc := "()V", sig := { parameters := [], returnType := none }, accessFlags := 1, code := some k2c0 }
def k2c1 : Code := { maxStack := 6, maxLocals := 4, code := prog_46_method_2_code, exceptionTable := #[], attributes := #[] }
def k2m1 : Method := { name := "add", desc := "(Lcom/example/stackwright/stackwright/engine/ManaType;J)V", sig := { parameters := [(.object "com/example/stackwright/stackwright/engine/ManaType"), .long], returnType := none }, accessFlags := 1, code := some k2c1 }
def k2c2 : Code := { maxStack := 4, maxLocals := 6, code := prog_46_method_4_code, exceptionTable := #[], attributes := #[] }
def k2m2 : Method := { name := "isEmpty", desc := "()Z", sig := { parameters := [], returnType := some .boolean }, accessFlags := 1, code := some k2c2 }
/-- com/example/stackwright/stackwright/engine/ManaPool -/
def k2 : Class := { plain "com/example/stackwright/stackwright/engine/ManaPool" (some 0) with
  accessFlags := 49
  interfaces := #[]
  cf := some (fileOf pool2 14 #[] #[{ accessFlags := 1, nameIndex := 5, descriptorIndex := 6, attributes := #[] }, { accessFlags := 1, nameIndex := 125, descriptorIndex := 126, attributes := #[] }, { accessFlags := 1, nameIndex := 128, descriptorIndex := 79, attributes := #[] }] 49 2 #[] #[{ accessFlags := 26, nameIndex := 66, descriptorIndex := 67, attributes := #[] }, { accessFlags := 18, nameIndex := 17, descriptorIndex := 18, attributes := #[] }])
  fields := #[{ name := "GENERIC_PAYMENT_ORDER", type := (.object "java/util/List"), accessFlags := 26, slot := 0, constantValue := 0 }, { name := "amounts", type := (.array .long), accessFlags := 18, slot := 0, constantValue := 0 }]
  methods := #[k2m0, k2m1, k2m2]
  instanceTypes := #[(.array .long)]
  staticTypes := #[(.object "java/util/List")]
  resolved := Array.replicate 155 none
  statics := none }

def pool3 : Array CpInfo := pool [(1, .class_ 2), (0, u "java/lang/constant/Constable"), (0, .class_ 4), (0, u "java/lang/Object")] 6

/-- java/lang/constant/Constable -/
def k3 : Class := { plain "java/lang/constant/Constable" (some 0) with
  accessFlags := 1537
  interfaces := #[]
  cf := some (fileOf pool3 1 #[] #[] 1537 3 #[] #[])
  fields := #[]
  methods := #[]
  instanceTypes := #[]
  staticTypes := #[]
  resolved := Array.replicate 11 none
  statics := none }

def pool4 : Array CpInfo := pool [(1, .class_ 2), (0, u "java/lang/Comparable"), (0, .class_ 4), (0, u "java/lang/Object")] 7

/-- java/lang/Comparable -/
def k4 : Class := { plain "java/lang/Comparable" (some 0) with
  accessFlags := 1537
  interfaces := #[]
  cf := some (fileOf pool4 1 #[] #[] 1537 3 #[] #[])
  fields := #[]
  methods := #[]
  instanceTypes := #[]
  staticTypes := #[]
  resolved := Array.replicate 12 none
  statics := none }

def pool5 : Array CpInfo := pool [(1, .class_ 2), (0, u "java/io/Serializable"), (0, .class_ 4), (0, u "java/lang/Object")] 2

/-- java/io/Serializable -/
def k5 : Class := { plain "java/io/Serializable" (some 0) with
  accessFlags := 1537
  interfaces := #[]
  cf := some (fileOf pool5 1 #[] #[] 1537 3 #[] #[])
  fields := #[]
  methods := #[]
  instanceTypes := #[]
  staticTypes := #[]
  resolved := Array.replicate 7 none
  statics := none }

def pool6 : Array CpInfo := pool [(2, .class_ 4), (1, u "java/lang/Enum"), (0, u "name"), (0, u "Ljava/lang/String;"), (0, .fieldref 2 8), (0, .nameAndType 9 10), (0, u "ordinal"), (0, u "I"), (1, .class_ 14), (1, u "java/lang/Object"), (4, u "hash"), (86, .class_ 108), (1, u "java/lang/Enum$EnumDesc"), (2, .class_ 112), (0, u "java/lang/constant/Constable"), (0, .class_ 114), (0, u "java/lang/Comparable"), (0, .class_ 116), (0, u "java/io/Serializable"), (9, u "()I")] 77

def k6c0 : Code := { maxStack := 1, maxLocals := 1, code := jdk_37_method_2_code, exceptionTable := #[], attributes := #[] }
def k6m0 : Method := { name := "ordinal", desc := "()I", sig := { parameters := [], returnType := some .int }, accessFlags := 17, code := some k6c0 }
/-- java/lang/Enum -/
def k6 : Class := { plain "java/lang/Enum" (some 0) with
  accessFlags := 1057
  interfaces := #[3, 4, 5]
  cf := some (fileOf pool6 2 #[.nestMembers #[106]] #[{ accessFlags := 17, nameIndex := 9, descriptorIndex := 126, attributes := #[] }] 1057 12 #[111, 113, 115] #[{ accessFlags := 18, nameIndex := 5, descriptorIndex := 6, attributes := #[] }, { accessFlags := 18, nameIndex := 9, descriptorIndex := 10, attributes := #[] }, { accessFlags := 2, nameIndex := 19, descriptorIndex := 10, attributes := #[] }])
  fields := #[{ name := "name", type := (.object "java/lang/String"), accessFlags := 18, slot := 0, constantValue := 0 }, { name := "ordinal", type := .int, accessFlags := 18, slot := 1, constantValue := 0 }, { name := "hash", type := .int, accessFlags := 2, slot := 2, constantValue := 0 }]
  methods := #[k6m0]
  instanceTypes := #[(.object "java/lang/String"), .int, .int]
  staticTypes := #[]
  resolved := Array.replicate 204 none
  statics := none }

def pool7 : Array CpInfo := pool [(1, .class_ 2), (0, u "com/example/stackwright/stackwright/engine/ManaType"), (2, u "WHITE"), (0, u "Lcom/example/stackwright/stackwright/engine/ManaType;"), (2, u "BLUE"), (2, u "BLACK"), (2, u "RED"), (2, u "GREEN"), (2, u "COLORLESS"), (0, .fieldref 1 23), (0, .nameAndType 24 25), (0, u "$VALUES"), (0, u "[Lcom/example/stackwright/stackwright/engine/ManaType;"), (0, .methodref 27 28), (0, .class_ 25), (0, .nameAndType 29 30), (0, u "clone"), (0, u "()Ljava/lang/Object;"), (1, .class_ 34), (1, u "java/lang/Enum"), (8, u "letter"), (0, u "C"), (16, u "()[Lcom/example/stackwright/stackwright/engine/ManaType;"), (0, u "values")] 29

def k7c0 : Code := { maxStack := 1, maxLocals := 0, code := prog_48_method_1_code, exceptionTable := #[], attributes := #[] }
def k7m0 : Method := { name := "values", desc := "()[Lcom/example/stackwright/stackwright/engine/ManaType;", sig := { parameters := [], returnType := some (.array (.object "com/example/stackwright/stackwright/engine/ManaType")) }, accessFlags := 9, code := some k7c0 }
/-- com/example/stackwright/stackwright/engine/ManaType -/
def k7 : Class := { plain "com/example/stackwright/stackwright/engine/ManaType" (some 6) with
  accessFlags := 16433
  interfaces := #[]
  cf := some (fileOf pool7 1 #[] #[{ accessFlags := 9, nameIndex := 62, descriptorIndex := 61, attributes := #[] }] 16433 32 #[] #[{ accessFlags := 16409, nameIndex := 5, descriptorIndex := 6, attributes := #[] }, { accessFlags := 16409, nameIndex := 9, descriptorIndex := 6, attributes := #[] }, { accessFlags := 16409, nameIndex := 12, descriptorIndex := 6, attributes := #[] }, { accessFlags := 16409, nameIndex := 15, descriptorIndex := 6, attributes := #[] }, { accessFlags := 16409, nameIndex := 18, descriptorIndex := 6, attributes := #[] }, { accessFlags := 16409, nameIndex := 21, descriptorIndex := 6, attributes := #[] }, { accessFlags := 18, nameIndex := 43, descriptorIndex := 44, attributes := #[] }, { accessFlags := 4122, nameIndex := 24, descriptorIndex := 25, attributes := #[] }])
  fields := #[{ name := "WHITE", type := (.object "com/example/stackwright/stackwright/engine/ManaType"), accessFlags := 16409, slot := 0, constantValue := 0 }, { name := "BLUE", type := (.object "com/example/stackwright/stackwright/engine/ManaType"), accessFlags := 16409, slot := 1, constantValue := 0 }, { name := "BLACK", type := (.object "com/example/stackwright/stackwright/engine/ManaType"), accessFlags := 16409, slot := 2, constantValue := 0 }, { name := "RED", type := (.object "com/example/stackwright/stackwright/engine/ManaType"), accessFlags := 16409, slot := 3, constantValue := 0 }, { name := "GREEN", type := (.object "com/example/stackwright/stackwright/engine/ManaType"), accessFlags := 16409, slot := 4, constantValue := 0 }, { name := "COLORLESS", type := (.object "com/example/stackwright/stackwright/engine/ManaType"), accessFlags := 16409, slot := 5, constantValue := 0 }, { name := "letter", type := .char, accessFlags := 18, slot := 3, constantValue := 0 }, { name := "$VALUES", type := (.array (.object "com/example/stackwright/stackwright/engine/ManaType")), accessFlags := 4122, slot := 6, constantValue := 0 }]
  methods := #[k7m0]
  instanceTypes := #[(.object "java/lang/String"), .int, .int, .char]
  staticTypes := #[(.object "com/example/stackwright/stackwright/engine/ManaType"), (.object "com/example/stackwright/stackwright/engine/ManaType"), (.object "com/example/stackwright/stackwright/engine/ManaType"), (.object "com/example/stackwright/stackwright/engine/ManaType"), (.object "com/example/stackwright/stackwright/engine/ManaType"), (.object "com/example/stackwright/stackwright/engine/ManaType"), (.array (.object "com/example/stackwright/stackwright/engine/ManaType"))]
  resolved := Array.replicate 92 none
  statics := some 0 }

def pool8 : Array CpInfo := pool [(1, .class_ 2), (0, u "java/lang/Cloneable"), (0, .class_ 4), (0, u "java/lang/Object")] 2

/-- java/lang/Cloneable -/
def k8 : Class := { plain "java/lang/Cloneable" (some 0) with
  accessFlags := 1537
  interfaces := #[]
  cf := some (fileOf pool8 1 #[] #[] 1537 3 #[] #[])
  fields := #[]
  methods := #[]
  instanceTypes := #[]
  staticTypes := #[]
  resolved := Array.replicate 7 none
  statics := none }

def pool9 : Array CpInfo := pool [(1, .class_ 2), (0, u "java/lang/Math"), (1, .class_ 6), (1, u "java/lang/Object"), (0, u "<init>"), (0, u "()V"), (89, .class_ 100), (1, u "java/lang/Math$RandomNumberGeneratorHolder"), (20, u "(JJ)J"), (50, u "negativeZeroFloatBits"), (0, u "J"), (2, u "negativeZeroDoubleBits"), (68, u "$assertionsDisabled"), (0, u "Z"), (91, u "twoToTheDoubleScaleDown"), (0, u "D"), (4, u "twoToTheDoubleScaleUp"), (9, u "E"), (3, u "PI"), (2, u "TAU"), (2, u "DEGREES_TO_RADIANS"), (0, u "RADIANS_TO_DEGREES"), (27, u "addExact")] 66

def k9m0 : Method := { name := "<init>", desc := "()V", sig := { parameters := [], returnType := none }, accessFlags := 2, code := none }
def k9c1 : Code := { maxStack := 6, maxLocals := 6, code := jdk_29_method_25_code, exceptionTable := #[], attributes := #[] }
def k9m1 : Method := { name := "addExact", desc := "(JJ)J", sig := { parameters := [.long, .long], returnType := some .long }, accessFlags := 9, code := some k9c1 }
/-- java/lang/Math -/
def k9 : Class := { plain "java/lang/Math" (some 0) with
  accessFlags := 49
  interfaces := #[]
  cf := some (fileOf pool9 1 #[.nestMembers #[98]] #[{ accessFlags := 2, nameIndex := 7, descriptorIndex := 8, attributes := #[] }, { accessFlags := 9, nameIndex := 393, descriptorIndex := 121, attributes := #[] }] 49 4 #[] #[{ accessFlags := 25, nameIndex := 354, descriptorIndex := 339, attributes := #[] }, { accessFlags := 25, nameIndex := 358, descriptorIndex := 339, attributes := #[] }, { accessFlags := 25, nameIndex := 361, descriptorIndex := 339, attributes := #[] }, { accessFlags := 26, nameIndex := 364, descriptorIndex := 339, attributes := #[] }, { accessFlags := 26, nameIndex := 365, descriptorIndex := 339, attributes := #[] }, { accessFlags := 26, nameIndex := 172, descriptorIndex := 173, attributes := #[] }, { accessFlags := 26, nameIndex := 176, descriptorIndex := 173, attributes := #[] }, { accessFlags := 8, nameIndex := 344, descriptorIndex := 339, attributes := #[] }, { accessFlags := 8, nameIndex := 338, descriptorIndex := 339, attributes := #[] }, { accessFlags := 4120, nameIndex := 245, descriptorIndex := 246, attributes := #[] }])
  fields := #[{ name := "E", type := .double, accessFlags := 25, slot := 0, constantValue := 0 }, { name := "PI", type := .double, accessFlags := 25, slot := 1, constantValue := 0 }, { name := "TAU", type := .double, accessFlags := 25, slot := 2, constantValue := 0 }, { name := "DEGREES_TO_RADIANS", type := .double, accessFlags := 26, slot := 3, constantValue := 0 }, { name := "RADIANS_TO_DEGREES", type := .double, accessFlags := 26, slot := 4, constantValue := 0 }, { name := "negativeZeroFloatBits", type := .long, accessFlags := 26, slot := 5, constantValue := 0 }, { name := "negativeZeroDoubleBits", type := .long, accessFlags := 26, slot := 6, constantValue := 0 }, { name := "twoToTheDoubleScaleUp", type := .double, accessFlags := 8, slot := 7, constantValue := 0 }, { name := "twoToTheDoubleScaleDown", type := .double, accessFlags := 8, slot := 8, constantValue := 0 }, { name := "$assertionsDisabled", type := .boolean, accessFlags := 4120, slot := 9, constantValue := 0 }]
  methods := #[k9m0, k9m1]
  instanceTypes := #[]
  staticTypes := #[.double, .double, .double, .double, .double, .long, .long, .double, .double, .boolean]
  resolved := Array.replicate 460 none
  statics := none }

/-- the primitive byte -/
def k10 : Class := { plain "byte" none with kind := .primitive 'B', accessFlags := 0x411 }
/-- [B -/
def k11 : Class := { plain "[B" (some 0) with kind := .array 10 .byte, interfaces := #[8, 5], accessFlags := 1041 }

/-- the primitive int -/
def k12 : Class := { plain "int" none with kind := .primitive 'I', accessFlags := 0x411 }
/-- [I -/
def k13 : Class := { plain "[I" (some 0) with kind := .array 12 .int, interfaces := #[8, 5], accessFlags := 1041 }

/-- the primitive long -/
def k14 : Class := { plain "long" none with kind := .primitive 'J', accessFlags := 0x411 }
/-- [J -/
def k15 : Class := { plain "[J" (some 0) with kind := .array 14 .long, interfaces := #[8, 5], accessFlags := 1041 }

/-- [Lcom/example/stackwright/stackwright/engine/ManaType; -/
def k16 : Class := { plain "[Lcom/example/stackwright/stackwright/engine/ManaType;" (some 0) with kind := .array 7 (.object "com/example/stackwright/stackwright/engine/ManaType"), interfaces := #[8, 5], accessFlags := 1041 }

def heap : Heap := #[{ cls := 7, slots := #[.ref 2, .ref 3, .ref 4, .ref 5, .ref 6, .ref 7, .ref 1], vm := .statics 7 },
  { cls := 16, slots := #[.ref 2, .ref 3, .ref 4, .ref 5, .ref 6, .ref 7], vm := .none },
  { cls := 7, slots := #[.null, .int 0, .int 0, .int 0], vm := .none },
  { cls := 7, slots := #[.null, .int 1, .int 0, .int 0], vm := .none },
  { cls := 7, slots := #[.null, .int 2, .int 0, .int 0], vm := .none },
  { cls := 7, slots := #[.null, .int 3, .int 0, .int 0], vm := .none },
  { cls := 7, slots := #[.null, .int 4, .int 0, .int 0], vm := .none },
  { cls := 7, slots := #[.null, .int 5, .int 0, .int 0], vm := .none }]
def classes : Array Class := #[k0, k1, k2, k3, k4, k5, k6, k7, k8, k9, k10, k11, k12, k13, k14, k15, k16]
def interned : List (Array UInt16 × Addr) := []
def slotsUsed : Nat := 37
def theMethod : MethodId := ⟨1, 1⟩
def args0 : Array Value := #[.long 0, .long 0, .long 5, .long 7, .long 0, .long 1]
def aboutOver (below : List Frame) : State where
  vm := { classes := classes, interned := interned.toArray }
  heap := heap
  slotsUsed := slotsUsed
  threads := #[{ frames := .invoking theMethod args0 :: below }]
def below0 : List Frame := [.native { method := ⟨0, 0⟩, args := #[] }]
def about1 : State := aboutOver below0
def p0 : Program := .bare "" "" ""
def e0 : Env := launch0.env 0 0 0
theorem w_frames : about1.frames = Frame.invoking theMethod args0 :: below0 := rfl
set_option maxRecDepth 65536 in
theorem w_args : argsFit about1.vm theMethod args0 = true := by decide +kernel
set_option maxRecDepth 65536 in
theorem w_heap : heapFits about1 = true := by decide +kernel
set_option maxRecDepth 65536 in
theorem w_runnable : about1.curStatus? = some .runnable := by decide +kernel
set_option maxRecDepth 65536 in
theorem w_alone : about1.alone = true := by decide +kernel
set_option maxRecDepth 65536 in
theorem w_named : about1.methodNamed? x = some theMethod := by decide +kernel
set_option maxRecDepth 65536 in
theorem w_hears : about1.hears theMethod below0 = true := by decide +kernel
set_option maxRecDepth 65536 in
theorem w_ripe : about1.ripe theMethod args0 below0 = true := by decide +kernel
theorem w_running : about1.status = .running := rfl
set_option maxRecDepth 65536 in
theorem w_room : about1.hasRoom e0.platform room_1 = true :=
  launch0.hasRoom_least _ room_1 (by decide +kernel) (by decide +kernel) (by decide +kernel) (by decide +kernel) (by decide +kernel) (by decide +kernel)
theorem allAtoms_all (ts : List Jvm.Cond) (a : Array Jvm.Value) (st : Jvm.State) : (allAtoms ts).before a st = ts.all (fun c => c.before a st) := by
  induction ts with
  | nil => rfl
  | cons c t ih =>
    show (Jvm.Cond.and c (allAtoms t)).before a st = _
    rw [Jvm.Cond.before_and, ih, List.all_cons]
def words1 : List Jvm.Cond := Jvm.Cond.code x code maxLocals ret :: tables_1
/-- a 'code' word, met by the world's own term for the bytes: nothing is compared byte by byte -/
theorem code_word {y : MethodName} {bytes : ByteArray} {mx : Nat} {rt : Option FieldType} {a : Array Value} {s : State} {m : MethodId} {meth : Method} {c : Code} (h1 : s.methodNamed? y = some m) (h2 : s.vm.method? m = some meth) (h3 : meth.code = some c) (h4 : c.code = bytes)
    (h5 : (c.maxLocals == mx && c.exceptionTable.isEmpty && decide (c.maxStack ≤ mostOperands) && decide (meth.sig.returnType = rt) && !meth.locks && decide (parseMethodDescriptor y.desc = some meth.sig)) = true) : (Jvm.Cond.code y bytes mx rt).before a s = true := by
  simp only [Bool.and_eq_true, beq_iff_eq, Bool.not_eq_true', decide_eq_true_eq] at h5
  obtain ⟨⟨⟨⟨⟨g1, g2⟩, g3⟩, g4⟩, g5⟩, g6⟩ := h5
  simp [Cond.before, Cond.holds, Cond.value, h1, h2, h3, h4, g1, g2, g3, g4, g5, g6]
def isCode : Jvm.Cond → Bool
  | .code _ _ _ _ => true
  | _ => false
theorem all_split {L : List Jvm.Cond} {P : Jvm.Cond → Bool} (h1 : L.all (fun c => isCode c || P c) = true) (h2 : ∀ c ∈ L.filter isCode, P c = true) : L.all P = true := by
  refine List.all_eq_true.mpr fun c hc => ?_
  have h := List.all_eq_true.mp h1 c hc
  rcases Bool.eq_false_or_eq_true (isCode c) with hi | hi
  · exact h2 c (List.mem_filter.mpr ⟨hc, hi⟩)
  · simpa [hi] using h
set_option maxRecDepth 65536 in
theorem w_c0 : (Jvm.Cond.code x code maxLocals ret).before args0 about1 = true := code_word (m := ⟨1, 1⟩) (meth := k1m1) (c := k1c1) (by decide +kernel) rfl rfl rfl (by decide +kernel)
set_option maxRecDepth 65536 in
theorem w_c1 : (Jvm.Cond.code ({ cls := "com/example/stackwright/stackwright/engine/ManaPool", name := "<init>", desc := "()V" } : Jvm.MethodName) prog_46_method_1_code (1 : Nat) (Option.none : Option Jvm.ClassFile.FieldType)).before args0 about1 = true := code_word (m := ⟨2, 0⟩) (meth := k2m0) (c := k2c0) (by decide +kernel) rfl rfl rfl (by decide +kernel)
set_option maxRecDepth 65536 in
theorem w_c2 : (Jvm.Cond.code ({ cls := "java/lang/Object", name := "<init>", desc := "()V" } : Jvm.MethodName) object_method_1_code (1 : Nat) (Option.none : Option Jvm.ClassFile.FieldType)).before args0 about1 = true := code_word (m := ⟨0, 0⟩) (meth := k0m0) (c := k0c0) (by decide +kernel) rfl rfl rfl (by decide +kernel)
set_option maxRecDepth 65536 in
theorem w_c3 : (Jvm.Cond.code ({ cls := "com/example/stackwright/stackwright/engine/ManaType", name := "values", desc := "()[Lcom/example/stackwright/stackwright/engine/ManaType;" } : Jvm.MethodName) prog_48_method_1_code (0 : Nat) (Option.some (Jvm.ClassFile.FieldType.array (Jvm.ClassFile.FieldType.object "com/example/stackwright/stackwright/engine/ManaType")))).before args0 about1 = true := code_word (m := ⟨7, 0⟩) (meth := k7m0) (c := k7c0) (by decide +kernel) rfl rfl rfl (by decide +kernel)
set_option maxRecDepth 65536 in
theorem w_c4 : (Jvm.Cond.code ({ cls := "com/example/stackwright/stackwright/engine/ManaPool", name := "add", desc := "(Lcom/example/stackwright/stackwright/engine/ManaType;J)V" } : Jvm.MethodName) prog_46_method_2_code (4 : Nat) (Option.none : Option Jvm.ClassFile.FieldType)).before args0 about1 = true := code_word (m := ⟨2, 1⟩) (meth := k2m1) (c := k2c1) (by decide +kernel) rfl rfl rfl (by decide +kernel)
set_option maxRecDepth 65536 in
theorem w_c5 : (Jvm.Cond.code ({ cls := "java/lang/Enum", name := "ordinal", desc := "()I" } : Jvm.MethodName) jdk_37_method_2_code (1 : Nat) (Option.some Jvm.ClassFile.FieldType.int)).before args0 about1 = true := code_word (m := ⟨6, 0⟩) (meth := k6m0) (c := k6c0) (by decide +kernel) rfl rfl rfl (by decide +kernel)
set_option maxRecDepth 65536 in
theorem w_c6 : (Jvm.Cond.code ({ cls := "java/lang/Math", name := "addExact", desc := "(JJ)J" } : Jvm.MethodName) jdk_29_method_25_code (6 : Nat) (Option.some Jvm.ClassFile.FieldType.long)).before args0 about1 = true := code_word (m := ⟨9, 1⟩) (meth := k9m1) (c := k9c1) (by decide +kernel) rfl rfl rfl (by decide +kernel)
set_option maxRecDepth 65536 in
theorem w_c7 : (Jvm.Cond.code ({ cls := "com/example/stackwright/stackwright/engine/ManaPool", name := "isEmpty", desc := "()Z" } : Jvm.MethodName) prog_46_method_4_code (6 : Nat) (Option.some Jvm.ClassFile.FieldType.boolean)).before args0 about1 = true := code_word (m := ⟨2, 2⟩) (meth := k2m2) (c := k2c2) (by decide +kernel) rfl rfl rfl (by decide +kernel)
def codes1 : List Jvm.Cond := [Jvm.Cond.code x code maxLocals ret, Jvm.Cond.code ({ cls := "com/example/stackwright/stackwright/engine/ManaPool", name := "<init>", desc := "()V" } : Jvm.MethodName) prog_46_method_1_code (1 : Nat) (Option.none : Option Jvm.ClassFile.FieldType), Jvm.Cond.code ({ cls := "java/lang/Object", name := "<init>", desc := "()V" } : Jvm.MethodName) object_method_1_code (1 : Nat) (Option.none : Option Jvm.ClassFile.FieldType), Jvm.Cond.code ({ cls := "com/example/stackwright/stackwright/engine/ManaType", name := "values", desc := "()[Lcom/example/stackwright/stackwright/engine/ManaType;" } : Jvm.MethodName) prog_48_method_1_code (0 : Nat) (Option.some (Jvm.ClassFile.FieldType.array (Jvm.ClassFile.FieldType.object "com/example/stackwright/stackwright/engine/ManaType"))), Jvm.Cond.code ({ cls := "com/example/stackwright/stackwright/engine/ManaPool", name := "add", desc := "(Lcom/example/stackwright/stackwright/engine/ManaType;J)V" } : Jvm.MethodName) prog_46_method_2_code (4 : Nat) (Option.none : Option Jvm.ClassFile.FieldType), Jvm.Cond.code ({ cls := "java/lang/Enum", name := "ordinal", desc := "()I" } : Jvm.MethodName) jdk_37_method_2_code (1 : Nat) (Option.some Jvm.ClassFile.FieldType.int), Jvm.Cond.code ({ cls := "java/lang/Math", name := "addExact", desc := "(JJ)J" } : Jvm.MethodName) jdk_29_method_25_code (6 : Nat) (Option.some Jvm.ClassFile.FieldType.long), Jvm.Cond.code ({ cls := "com/example/stackwright/stackwright/engine/ManaPool", name := "isEmpty", desc := "()Z" } : Jvm.MethodName) prog_46_method_4_code (6 : Nat) (Option.some Jvm.ClassFile.FieldType.boolean)]
set_option maxRecDepth 65536 in
theorem codes_eq : words1.filter isCode = codes1 := rfl
theorem w_codes : ∀ c ∈ words1.filter isCode, c.before args0 about1 = true := by
  rw [codes_eq]
  intro c hc
  simp only [codes1, List.mem_cons, List.not_mem_nil, or_false] at hc
  rcases hc with rfl | rfl | rfl | rfl | rfl | rfl | rfl | rfl
  · exact w_c0
  · exact w_c1
  · exact w_c2
  · exact w_c3
  · exact w_c4
  · exact w_c5
  · exact w_c6
  · exact w_c7
set_option maxRecDepth 65536 in
theorem w_t1 : (words1.take 24).all (fun c => isCode c || c.before args0 about1) = true := by decide +kernel
set_option maxRecDepth 65536 in
theorem w_t2 : ((words1.drop 24).take 24).all (fun c => isCode c || c.before args0 about1) = true := by decide +kernel
set_option maxRecDepth 65536 in
theorem w_t3 : ((words1.drop 24).drop 24).all (fun c => isCode c || c.before args0 about1) = true := by decide +kernel
theorem w_tables : (allAtoms (Jvm.Cond.code x code maxLocals ret :: tables_1)).before args0 about1 = true := by
  rw [allAtoms_all]
  show words1.all (fun c => c.before args0 about1) = true
  refine all_split ?_ w_codes
  rw [← List.take_append_drop 24 words1, List.all_append, w_t1, ← List.take_append_drop 24 (words1.drop 24), List.all_append, w_t2, w_t3]
  rfl
set_option maxRecDepth 65536 in
theorem w_case : (Jvm.Cond.and given_1 narrow_1).before args0 about1 = true := by decide +kernel
theorem w_applies : (headSpec (Jvm.Cond.code x code maxLocals ret :: tables_1) room_1).applies x e0.platform about1 = true :=
  (Spec.applies_iff w_frames).mpr ⟨w_running, w_runnable, w_alone, w_named, w_hears, w_ripe, w_room, w_tables⟩
theorem atStart : AtStart classFile x code maxLocals ret World_1 tables_1 room_1 Calls_1 rest_1 Pre_1 launch0 p0 e0 about1 theMethod args0 below0 :=
  ⟨lists_1, trivial, launch0.admits_env _ _ _, launch0.least_env, fairChoices_fair.cas, fairChoices_fair.clock, w_frames, w_args, w_heap, w_applies, trivial, trivial, w_case⟩
end start1
theorem witness_1 : WitnessClaimed_1 := ⟨start1.p0, start1.e0, start1.about1, start1.theMethod, start1.args0, start1.below0, start1.atStart⟩
end Jvm.Pilot.@@N@@
