import JvmDerived
import JvmDerived.Pilot.@@N@@Statement
import JvmDerived.Pilot.@@N@@Code
set_option linter.unusedVariables false
set_option linter.unusedSimpArgs false
namespace Jvm.RoadKit
open Sem ClassFile Op Lib Jvm.Stand Jvm.Free Jvm.LawKit
section New
variable {p : Program} {l : Launch} {e : Env} {R : Room} {s : State} {m : MethodId} {args : Array Value} {below : List Frame} {meth : Method} {c : Code} {T : State} {locs : List Loc} {cells slots : Nat}
theorem retI (X : Stand p l e R s m args below meth c T locs cells slots) (hx : p.tables.exec = Jvm.exec) {pc : Nat} {Ls : Array Slot} {z : Int32} {rest : List Value} (hret : meth.sig.returnType = some .int) (hd : decode c.code pc = .ok (.ireturn, 1)) {fs : List Frame}
    (hl : ∀ (f : JFrame) (acts : List Action), f.method = m → f.locked = none → f.entered = [] → (doReturn e (T.setTop f) acts (some (.int z))).1 = T.setFrames fs) : Steps p.tables e below (T.setTop (mkF m pc Ls (.int z :: rest))) (T.setFrames fs) := by
  have hm' : T.vm.method? m = some meth := X.method'
  have hn : narrow .int (.int z) = .int z := rfl
  show Steps p.tables e below (T.setTop { method := m, pc := pc, locals := Ls, stack := _ :: rest, locked := none }) _
  jvm_step X.here [X.here.top, hx, hd, hm', hret, hn]
  first | (intro acts; rw [hl _ acts rfl rfl rfl]) | rw [hl _ _ rfl rfl rfl]
  exact Steps.refl _
end New
end Jvm.RoadKit
namespace Jvm.Pilot.@@N@@
open Jvm Jvm.ClassFile Sem Op Lib Jvm.Free Jvm.Stand Jvm.LawKit Jvm.RoadKit Bundle Jvm.Pilot.@@N@@.Jvm.D
theorem ww {a0 : Array Value} {Z : State} (hw : ∀ d ∈ tables_1, d.before a0 Z = true) (i : Nat) {d : Jvm.Cond} (h : tables_1[i]? = some d) : d.before a0 Z = true := hw d (List.mem_of_getElem? h)
abbrev vi (x : Int32) : Slot := .val (.int x)
abbrev vj (x : Int64) : Slot := .val (.long x)
abbrev vr (x : Addr) : Slot := .val (.ref x)
abbrev vn : Slot := .val .null
abbrev vu : Slot := .unset
abbrev xi (x : Int32) : Value := .int x
abbrev xj (x : Int64) : Value := .long x
abbrev xr (x : Addr) : Value := .ref x
abbrev own_S (p : Program) (e : Env) (below : List Frame) (T : State) (g : JFrame) (t : State) : Prop := Steps p.tables e below (T.setTop g) t
/-- a body's contract: at these arguments and this heap it returns as Q says -/
abbrev own_Met (l : Launch) (Z : State) (y : MethodName) (bytes : ByteArray) (maxL : Nat) (rt : Option FieldType) (rm : Room) (as' : Array Value) (h0 : Heap) (Qy : Option Value → Heap → List Loc → Prop) : Prop :=
  ∀ ws : List Jvm.Cond, MetFree l y (head1 (Jvm.Cond.code y bytes maxL rt :: ws) rm) (fun a U => a = as' ∧ Z.Warmed39 U.vm ∧ U.heap = h0) (fun _ _ _ _ _ => True) (fun _ U o U' => ∃ v L, o = .returned v ∧ Qy v U'.heap L ∧ FrameEnd U o U' L rm.cells rm.slots)
/-- it returns r and leaves the heap -/
def own_QR (r : Option Value) (h0 : Heap) (n0 : Nat) (v : Option Value) (h : Heap) (L : List Loc) : Prop := v = r ∧ Fr n0 L ∧ h = h0
/-- it returns r and writes nothing that stood at the start -/
def own_QL (r : Option Value) (n0 : Nat) (v : Option Value) (h : Heap) (L : List Loc) : Prop := v = r ∧ Fr n0 L
theorem own_le {Z : State} {n0 : Nat} {h : Heap} (O : Old Z n0 h) : n0 ≤ h.size := O.1 ▸ O.2.1
theorem own_fresh {Z : State} {n0 : Nat} {h : Heap} {a : Addr} (O : Old Z n0 h) (g : a = h.size) : n0 ≤ a := g ▸ own_le O
theorem own_fld {s : State} {args : Array Value} {t : Term} {C n d : String} {a : Addr} {k : Int32} (ht : t.eval args s none [] s = some (.ref a)) (h : (Jvm.Cond.eq (.field t C n d) (.int k)).value args s none s [] = some true) : Fld s s.heap a C n d (.int k) := by
  refine Fld.start ?_
  simp only [Cond.value, Term.eval, ht] at h
  cases hv : s.fieldOf? a C n d with
  | none => simp [hv] at h
  | some v => cases v <;> simp [hv] at h; subst h; rfl
theorem own_fldN {s : State} {args : Array Value} {t : Term} {C n d : String} {a : Addr} (ht : t.eval args s none [] s = some (.ref a)) (h : (Jvm.Cond.eq (.field t C n d) .null).value args s none s [] = some true) : Fld s s.heap a C n d .null :=
  Fld.start ((fld_at ht).symm.trans (null_v h))
theorem own_fldX {s : State} {args : Array Value} {t : Term} {C n d K : String} {a : Addr} (ht : t.eval args s none [] s = some (.ref a)) (h : (Jvm.Cond.exactly (.field t C n d) K).value args s none s [] = some true) : ∃ b, Fld s s.heap a C n d (.ref b) ∧ Exa s s.heap b K := by
  obtain ⟨b, eb⟩ := exa_v h
  exact ⟨b, Fld.start ((fld_at ht).symm.trans eb), Exa.start eb h⟩
theorem own_len {s : State} {args : Array Value} {t : Term} {a : Addr} {cl : Cell} {ty : FieldType} {k : Int32} {k' : Nat} (ht : t.eval args s none [] s = some (.ref a)) (A : Arr s s.heap a cl ty) (h : (Jvm.Cond.eq (.length t) (.int k)).value args s none s [] = some true) (hk : k.toInt = k') : cl.slots.size = k' := by
  obtain ⟨v, hv⟩ : ∃ v, (Term.length t).eval args s none [] s = some v := by
    cases hq : (Term.length t).eval args s none [] s with
    | none => simp [Cond.value, hq] at h
    | some v => exact ⟨v, rfl⟩
  have ha : s.arrayAt? a = some cl := Arr.fin (Vm.Alike.refl _) A
  by_cases hl : cl.slots.size < 2 ^ 31
  · rw [len_f ht ha hl] at hv
    have h2 := len_f ht ha hl
    have h3 : cl.slots.size.toInt32 = k := gotT (Cond.eq_ints h2 (Term.int_eval k)) h
    have h4 := len_toInt hl
    rw [h3, hk] at h4
    omega
  · simp [Term.eval, ht, ha, hl] at hv
theorem own_ref {x y : Addr} (h : x ≠ y) : decide ((Value.ref x : Value) = .ref y) = false := by simp [h]
theorem own_mask (x : Int32) : 0 ≤ (x &&& (2147483647 : Int32)).toInt := by
  have := c_mask x 2147483647 31 (by decide) (by decide); omega
def own_St (Z : State) (u0 u1 u2 u3 u4 u5 u6 u7 u8 u9 u10 u11 : Addr) : Prop := (Sta Z Z.heap "com/example/mibwright/mibwright/mib/BaseType" "INTEGER32" "Lcom/example/mibwright/mibwright/mib/BaseType;" (.ref u0)) ∧ (Exa Z Z.heap u0 "com/example/mibwright/mibwright/mib/BaseType") ∧ (Sta Z Z.heap "com/example/mibwright/mibwright/mib/BaseType" "OBJECT_IDENTIFIER" "Lcom/example/mibwright/mibwright/mib/BaseType;" (.ref u1)) ∧ (Exa Z Z.heap u1 "com/example/mibwright/mibwright/mib/BaseType") ∧ (Sta Z Z.heap "com/example/mibwright/mibwright/mib/BaseType" "OCTET_STRING" "Lcom/example/mibwright/mibwright/mib/BaseType;" (.ref u2)) ∧ (Exa Z Z.heap u2 "com/example/mibwright/mibwright/mib/BaseType") ∧ (Sta Z Z.heap "com/example/mibwright/mibwright/mib/BaseType" "GAUGE32" "Lcom/example/mibwright/mibwright/mib/BaseType;" (.ref u3)) ∧ (Exa Z Z.heap u3 "com/example/mibwright/mibwright/mib/BaseType") ∧ (Sta Z Z.heap "com/example/mibwright/mibwright/mib/BaseType" "UNSIGNED32" "Lcom/example/mibwright/mibwright/mib/BaseType;" (.ref u4)) ∧ (Exa Z Z.heap u4 "com/example/mibwright/mibwright/mib/BaseType") ∧ (Sta Z Z.heap "com/example/mibwright/mibwright/mib/BaseType" "BITS" "Lcom/example/mibwright/mibwright/mib/BaseType;" (.ref u5)) ∧ (Exa Z Z.heap u5 "com/example/mibwright/mibwright/mib/BaseType") ∧ (Sta Z Z.heap "com/example/mibwright/mibwright/mib/BaseType" "TIME_TICKS" "Lcom/example/mibwright/mibwright/mib/BaseType;" (.ref u6)) ∧ (Exa Z Z.heap u6 "com/example/mibwright/mibwright/mib/BaseType") ∧ (Sta Z Z.heap "com/example/mibwright/mibwright/mib/BaseType" "ENUMERATION" "Lcom/example/mibwright/mibwright/mib/BaseType;" (.ref u7)) ∧ (Exa Z Z.heap u7 "com/example/mibwright/mibwright/mib/BaseType") ∧ (Sta Z Z.heap "com/example/mibwright/mibwright/mib/BaseType" "COUNTER64" "Lcom/example/mibwright/mibwright/mib/BaseType;" (.ref u8)) ∧ (Exa Z Z.heap u8 "com/example/mibwright/mibwright/mib/BaseType") ∧ (Sta Z Z.heap "com/example/mibwright/mibwright/mib/BaseType" "OPAQUE" "Lcom/example/mibwright/mibwright/mib/BaseType;" (.ref u9)) ∧ (Exa Z Z.heap u9 "com/example/mibwright/mibwright/mib/BaseType") ∧ (Sta Z Z.heap "com/example/mibwright/mibwright/mib/BaseType" "COUNTER32" "Lcom/example/mibwright/mibwright/mib/BaseType;" (.ref u10)) ∧ (Exa Z Z.heap u10 "com/example/mibwright/mibwright/mib/BaseType") ∧ (Sta Z Z.heap "com/example/mibwright/mibwright/mib/BaseType" "IP_ADDRESS" "Lcom/example/mibwright/mibwright/mib/BaseType;" (.ref u11)) ∧ (Exa Z Z.heap u11 "com/example/mibwright/mibwright/mib/BaseType") ∧ (Fld Z Z.heap u0 "java/lang/Enum" "ordinal" "I" (.int (0 : Int32))) ∧ (Fld Z Z.heap u1 "java/lang/Enum" "ordinal" "I" (.int (3 : Int32))) ∧ (Fld Z Z.heap u2 "java/lang/Enum" "ordinal" "I" (.int (2 : Int32))) ∧ (Fld Z Z.heap u3 "java/lang/Enum" "ordinal" "I" (.int (7 : Int32))) ∧ (Fld Z Z.heap u4 "java/lang/Enum" "ordinal" "I" (.int (11 : Int32))) ∧ (Fld Z Z.heap u5 "java/lang/Enum" "ordinal" "I" (.int (4 : Int32))) ∧ (Fld Z Z.heap u6 "java/lang/Enum" "ordinal" "I" (.int (8 : Int32))) ∧ (Fld Z Z.heap u7 "java/lang/Enum" "ordinal" "I" (.int (1 : Int32))) ∧ (Fld Z Z.heap u8 "java/lang/Enum" "ordinal" "I" (.int (10 : Int32))) ∧ (Fld Z Z.heap u9 "java/lang/Enum" "ordinal" "I" (.int (9 : Int32))) ∧ (Fld Z Z.heap u10 "java/lang/Enum" "ordinal" "I" (.int (6 : Int32))) ∧ (Fld Z Z.heap u11 "java/lang/Enum" "ordinal" "I" (.int (5 : Int32)))
theorem own_S_u0 {Z : State} {u0 u1 u2 u3 u4 u5 u6 u7 u8 u9 u10 u11 : Addr} (G : own_St Z u0 u1 u2 u3 u4 u5 u6 u7 u8 u9 u10 u11) : Sta Z Z.heap "com/example/mibwright/mibwright/mib/BaseType" "INTEGER32" "Lcom/example/mibwright/mibwright/mib/BaseType;" (.ref u0) := G.1
theorem own_X_u0 {Z : State} {u0 u1 u2 u3 u4 u5 u6 u7 u8 u9 u10 u11 : Addr} (G : own_St Z u0 u1 u2 u3 u4 u5 u6 u7 u8 u9 u10 u11) : Exa Z Z.heap u0 "com/example/mibwright/mibwright/mib/BaseType" := G.2.1
theorem own_S_u1 {Z : State} {u0 u1 u2 u3 u4 u5 u6 u7 u8 u9 u10 u11 : Addr} (G : own_St Z u0 u1 u2 u3 u4 u5 u6 u7 u8 u9 u10 u11) : Sta Z Z.heap "com/example/mibwright/mibwright/mib/BaseType" "OBJECT_IDENTIFIER" "Lcom/example/mibwright/mibwright/mib/BaseType;" (.ref u1) := G.2.2.1
theorem own_X_u1 {Z : State} {u0 u1 u2 u3 u4 u5 u6 u7 u8 u9 u10 u11 : Addr} (G : own_St Z u0 u1 u2 u3 u4 u5 u6 u7 u8 u9 u10 u11) : Exa Z Z.heap u1 "com/example/mibwright/mibwright/mib/BaseType" := G.2.2.2.1
theorem own_S_u2 {Z : State} {u0 u1 u2 u3 u4 u5 u6 u7 u8 u9 u10 u11 : Addr} (G : own_St Z u0 u1 u2 u3 u4 u5 u6 u7 u8 u9 u10 u11) : Sta Z Z.heap "com/example/mibwright/mibwright/mib/BaseType" "OCTET_STRING" "Lcom/example/mibwright/mibwright/mib/BaseType;" (.ref u2) := G.2.2.2.2.1
theorem own_X_u2 {Z : State} {u0 u1 u2 u3 u4 u5 u6 u7 u8 u9 u10 u11 : Addr} (G : own_St Z u0 u1 u2 u3 u4 u5 u6 u7 u8 u9 u10 u11) : Exa Z Z.heap u2 "com/example/mibwright/mibwright/mib/BaseType" := G.2.2.2.2.2.1
theorem own_S_u3 {Z : State} {u0 u1 u2 u3 u4 u5 u6 u7 u8 u9 u10 u11 : Addr} (G : own_St Z u0 u1 u2 u3 u4 u5 u6 u7 u8 u9 u10 u11) : Sta Z Z.heap "com/example/mibwright/mibwright/mib/BaseType" "GAUGE32" "Lcom/example/mibwright/mibwright/mib/BaseType;" (.ref u3) := G.2.2.2.2.2.2.1
theorem own_X_u3 {Z : State} {u0 u1 u2 u3 u4 u5 u6 u7 u8 u9 u10 u11 : Addr} (G : own_St Z u0 u1 u2 u3 u4 u5 u6 u7 u8 u9 u10 u11) : Exa Z Z.heap u3 "com/example/mibwright/mibwright/mib/BaseType" := G.2.2.2.2.2.2.2.1
theorem own_S_u4 {Z : State} {u0 u1 u2 u3 u4 u5 u6 u7 u8 u9 u10 u11 : Addr} (G : own_St Z u0 u1 u2 u3 u4 u5 u6 u7 u8 u9 u10 u11) : Sta Z Z.heap "com/example/mibwright/mibwright/mib/BaseType" "UNSIGNED32" "Lcom/example/mibwright/mibwright/mib/BaseType;" (.ref u4) := G.2.2.2.2.2.2.2.2.1
theorem own_X_u4 {Z : State} {u0 u1 u2 u3 u4 u5 u6 u7 u8 u9 u10 u11 : Addr} (G : own_St Z u0 u1 u2 u3 u4 u5 u6 u7 u8 u9 u10 u11) : Exa Z Z.heap u4 "com/example/mibwright/mibwright/mib/BaseType" := G.2.2.2.2.2.2.2.2.2.1
theorem own_S_u5 {Z : State} {u0 u1 u2 u3 u4 u5 u6 u7 u8 u9 u10 u11 : Addr} (G : own_St Z u0 u1 u2 u3 u4 u5 u6 u7 u8 u9 u10 u11) : Sta Z Z.heap "com/example/mibwright/mibwright/mib/BaseType" "BITS" "Lcom/example/mibwright/mibwright/mib/BaseType;" (.ref u5) := G.2.2.2.2.2.2.2.2.2.2.1
theorem own_X_u5 {Z : State} {u0 u1 u2 u3 u4 u5 u6 u7 u8 u9 u10 u11 : Addr} (G : own_St Z u0 u1 u2 u3 u4 u5 u6 u7 u8 u9 u10 u11) : Exa Z Z.heap u5 "com/example/mibwright/mibwright/mib/BaseType" := G.2.2.2.2.2.2.2.2.2.2.2.1
theorem own_S_u6 {Z : State} {u0 u1 u2 u3 u4 u5 u6 u7 u8 u9 u10 u11 : Addr} (G : own_St Z u0 u1 u2 u3 u4 u5 u6 u7 u8 u9 u10 u11) : Sta Z Z.heap "com/example/mibwright/mibwright/mib/BaseType" "TIME_TICKS" "Lcom/example/mibwright/mibwright/mib/BaseType;" (.ref u6) := G.2.2.2.2.2.2.2.2.2.2.2.2.1
theorem own_X_u6 {Z : State} {u0 u1 u2 u3 u4 u5 u6 u7 u8 u9 u10 u11 : Addr} (G : own_St Z u0 u1 u2 u3 u4 u5 u6 u7 u8 u9 u10 u11) : Exa Z Z.heap u6 "com/example/mibwright/mibwright/mib/BaseType" := G.2.2.2.2.2.2.2.2.2.2.2.2.2.1
theorem own_S_u7 {Z : State} {u0 u1 u2 u3 u4 u5 u6 u7 u8 u9 u10 u11 : Addr} (G : own_St Z u0 u1 u2 u3 u4 u5 u6 u7 u8 u9 u10 u11) : Sta Z Z.heap "com/example/mibwright/mibwright/mib/BaseType" "ENUMERATION" "Lcom/example/mibwright/mibwright/mib/BaseType;" (.ref u7) := G.2.2.2.2.2.2.2.2.2.2.2.2.2.2.1
theorem own_X_u7 {Z : State} {u0 u1 u2 u3 u4 u5 u6 u7 u8 u9 u10 u11 : Addr} (G : own_St Z u0 u1 u2 u3 u4 u5 u6 u7 u8 u9 u10 u11) : Exa Z Z.heap u7 "com/example/mibwright/mibwright/mib/BaseType" := G.2.2.2.2.2.2.2.2.2.2.2.2.2.2.2.1
theorem own_S_u8 {Z : State} {u0 u1 u2 u3 u4 u5 u6 u7 u8 u9 u10 u11 : Addr} (G : own_St Z u0 u1 u2 u3 u4 u5 u6 u7 u8 u9 u10 u11) : Sta Z Z.heap "com/example/mibwright/mibwright/mib/BaseType" "COUNTER64" "Lcom/example/mibwright/mibwright/mib/BaseType;" (.ref u8) := G.2.2.2.2.2.2.2.2.2.2.2.2.2.2.2.2.1
theorem own_X_u8 {Z : State} {u0 u1 u2 u3 u4 u5 u6 u7 u8 u9 u10 u11 : Addr} (G : own_St Z u0 u1 u2 u3 u4 u5 u6 u7 u8 u9 u10 u11) : Exa Z Z.heap u8 "com/example/mibwright/mibwright/mib/BaseType" := G.2.2.2.2.2.2.2.2.2.2.2.2.2.2.2.2.2.1
theorem own_S_u9 {Z : State} {u0 u1 u2 u3 u4 u5 u6 u7 u8 u9 u10 u11 : Addr} (G : own_St Z u0 u1 u2 u3 u4 u5 u6 u7 u8 u9 u10 u11) : Sta Z Z.heap "com/example/mibwright/mibwright/mib/BaseType" "OPAQUE" "Lcom/example/mibwright/mibwright/mib/BaseType;" (.ref u9) := G.2.2.2.2.2.2.2.2.2.2.2.2.2.2.2.2.2.2.1
theorem own_X_u9 {Z : State} {u0 u1 u2 u3 u4 u5 u6 u7 u8 u9 u10 u11 : Addr} (G : own_St Z u0 u1 u2 u3 u4 u5 u6 u7 u8 u9 u10 u11) : Exa Z Z.heap u9 "com/example/mibwright/mibwright/mib/BaseType" := G.2.2.2.2.2.2.2.2.2.2.2.2.2.2.2.2.2.2.2.1
theorem own_S_u10 {Z : State} {u0 u1 u2 u3 u4 u5 u6 u7 u8 u9 u10 u11 : Addr} (G : own_St Z u0 u1 u2 u3 u4 u5 u6 u7 u8 u9 u10 u11) : Sta Z Z.heap "com/example/mibwright/mibwright/mib/BaseType" "COUNTER32" "Lcom/example/mibwright/mibwright/mib/BaseType;" (.ref u10) := G.2.2.2.2.2.2.2.2.2.2.2.2.2.2.2.2.2.2.2.2.1
theorem own_X_u10 {Z : State} {u0 u1 u2 u3 u4 u5 u6 u7 u8 u9 u10 u11 : Addr} (G : own_St Z u0 u1 u2 u3 u4 u5 u6 u7 u8 u9 u10 u11) : Exa Z Z.heap u10 "com/example/mibwright/mibwright/mib/BaseType" := G.2.2.2.2.2.2.2.2.2.2.2.2.2.2.2.2.2.2.2.2.2.1
theorem own_S_u11 {Z : State} {u0 u1 u2 u3 u4 u5 u6 u7 u8 u9 u10 u11 : Addr} (G : own_St Z u0 u1 u2 u3 u4 u5 u6 u7 u8 u9 u10 u11) : Sta Z Z.heap "com/example/mibwright/mibwright/mib/BaseType" "IP_ADDRESS" "Lcom/example/mibwright/mibwright/mib/BaseType;" (.ref u11) := G.2.2.2.2.2.2.2.2.2.2.2.2.2.2.2.2.2.2.2.2.2.2.1
theorem own_X_u11 {Z : State} {u0 u1 u2 u3 u4 u5 u6 u7 u8 u9 u10 u11 : Addr} (G : own_St Z u0 u1 u2 u3 u4 u5 u6 u7 u8 u9 u10 u11) : Exa Z Z.heap u11 "com/example/mibwright/mibwright/mib/BaseType" := G.2.2.2.2.2.2.2.2.2.2.2.2.2.2.2.2.2.2.2.2.2.2.2.1
theorem own_F_u0_ordinal {Z : State} {u0 u1 u2 u3 u4 u5 u6 u7 u8 u9 u10 u11 : Addr} (G : own_St Z u0 u1 u2 u3 u4 u5 u6 u7 u8 u9 u10 u11) : Fld Z Z.heap u0 "java/lang/Enum" "ordinal" "I" (.int (0 : Int32)) := G.2.2.2.2.2.2.2.2.2.2.2.2.2.2.2.2.2.2.2.2.2.2.2.2.1
theorem own_F_u1_ordinal {Z : State} {u0 u1 u2 u3 u4 u5 u6 u7 u8 u9 u10 u11 : Addr} (G : own_St Z u0 u1 u2 u3 u4 u5 u6 u7 u8 u9 u10 u11) : Fld Z Z.heap u1 "java/lang/Enum" "ordinal" "I" (.int (3 : Int32)) := G.2.2.2.2.2.2.2.2.2.2.2.2.2.2.2.2.2.2.2.2.2.2.2.2.2.1
theorem own_F_u2_ordinal {Z : State} {u0 u1 u2 u3 u4 u5 u6 u7 u8 u9 u10 u11 : Addr} (G : own_St Z u0 u1 u2 u3 u4 u5 u6 u7 u8 u9 u10 u11) : Fld Z Z.heap u2 "java/lang/Enum" "ordinal" "I" (.int (2 : Int32)) := G.2.2.2.2.2.2.2.2.2.2.2.2.2.2.2.2.2.2.2.2.2.2.2.2.2.2.1
theorem own_F_u3_ordinal {Z : State} {u0 u1 u2 u3 u4 u5 u6 u7 u8 u9 u10 u11 : Addr} (G : own_St Z u0 u1 u2 u3 u4 u5 u6 u7 u8 u9 u10 u11) : Fld Z Z.heap u3 "java/lang/Enum" "ordinal" "I" (.int (7 : Int32)) := G.2.2.2.2.2.2.2.2.2.2.2.2.2.2.2.2.2.2.2.2.2.2.2.2.2.2.2.1
theorem own_F_u4_ordinal {Z : State} {u0 u1 u2 u3 u4 u5 u6 u7 u8 u9 u10 u11 : Addr} (G : own_St Z u0 u1 u2 u3 u4 u5 u6 u7 u8 u9 u10 u11) : Fld Z Z.heap u4 "java/lang/Enum" "ordinal" "I" (.int (11 : Int32)) := G.2.2.2.2.2.2.2.2.2.2.2.2.2.2.2.2.2.2.2.2.2.2.2.2.2.2.2.2.1
theorem own_F_u5_ordinal {Z : State} {u0 u1 u2 u3 u4 u5 u6 u7 u8 u9 u10 u11 : Addr} (G : own_St Z u0 u1 u2 u3 u4 u5 u6 u7 u8 u9 u10 u11) : Fld Z Z.heap u5 "java/lang/Enum" "ordinal" "I" (.int (4 : Int32)) := G.2.2.2.2.2.2.2.2.2.2.2.2.2.2.2.2.2.2.2.2.2.2.2.2.2.2.2.2.2.1
theorem own_F_u6_ordinal {Z : State} {u0 u1 u2 u3 u4 u5 u6 u7 u8 u9 u10 u11 : Addr} (G : own_St Z u0 u1 u2 u3 u4 u5 u6 u7 u8 u9 u10 u11) : Fld Z Z.heap u6 "java/lang/Enum" "ordinal" "I" (.int (8 : Int32)) := G.2.2.2.2.2.2.2.2.2.2.2.2.2.2.2.2.2.2.2.2.2.2.2.2.2.2.2.2.2.2.1
theorem own_F_u7_ordinal {Z : State} {u0 u1 u2 u3 u4 u5 u6 u7 u8 u9 u10 u11 : Addr} (G : own_St Z u0 u1 u2 u3 u4 u5 u6 u7 u8 u9 u10 u11) : Fld Z Z.heap u7 "java/lang/Enum" "ordinal" "I" (.int (1 : Int32)) := G.2.2.2.2.2.2.2.2.2.2.2.2.2.2.2.2.2.2.2.2.2.2.2.2.2.2.2.2.2.2.2.1
theorem own_F_u8_ordinal {Z : State} {u0 u1 u2 u3 u4 u5 u6 u7 u8 u9 u10 u11 : Addr} (G : own_St Z u0 u1 u2 u3 u4 u5 u6 u7 u8 u9 u10 u11) : Fld Z Z.heap u8 "java/lang/Enum" "ordinal" "I" (.int (10 : Int32)) := G.2.2.2.2.2.2.2.2.2.2.2.2.2.2.2.2.2.2.2.2.2.2.2.2.2.2.2.2.2.2.2.2.1
theorem own_F_u9_ordinal {Z : State} {u0 u1 u2 u3 u4 u5 u6 u7 u8 u9 u10 u11 : Addr} (G : own_St Z u0 u1 u2 u3 u4 u5 u6 u7 u8 u9 u10 u11) : Fld Z Z.heap u9 "java/lang/Enum" "ordinal" "I" (.int (9 : Int32)) := G.2.2.2.2.2.2.2.2.2.2.2.2.2.2.2.2.2.2.2.2.2.2.2.2.2.2.2.2.2.2.2.2.2.1
theorem own_F_u10_ordinal {Z : State} {u0 u1 u2 u3 u4 u5 u6 u7 u8 u9 u10 u11 : Addr} (G : own_St Z u0 u1 u2 u3 u4 u5 u6 u7 u8 u9 u10 u11) : Fld Z Z.heap u10 "java/lang/Enum" "ordinal" "I" (.int (6 : Int32)) := G.2.2.2.2.2.2.2.2.2.2.2.2.2.2.2.2.2.2.2.2.2.2.2.2.2.2.2.2.2.2.2.2.2.2.1
theorem own_F_u11_ordinal {Z : State} {u0 u1 u2 u3 u4 u5 u6 u7 u8 u9 u10 u11 : Addr} (G : own_St Z u0 u1 u2 u3 u4 u5 u6 u7 u8 u9 u10 u11) : Fld Z Z.heap u11 "java/lang/Enum" "ordinal" "I" (.int (5 : Int32)) := G.2.2.2.2.2.2.2.2.2.2.2.2.2.2.2.2.2.2.2.2.2.2.2.2.2.2.2.2.2.2.2.2.2.2.2
theorem own_rem12 (x : Int32) : ((x &&& (2147483647 : Int32)) - ((x &&& (2147483647 : Int32)) / (12 : Int32)) * (12 : Int32)) = (0 : Int32) ∨ ((x &&& (2147483647 : Int32)) - ((x &&& (2147483647 : Int32)) / (12 : Int32)) * (12 : Int32)) = (1 : Int32) ∨ ((x &&& (2147483647 : Int32)) - ((x &&& (2147483647 : Int32)) / (12 : Int32)) * (12 : Int32)) = (2 : Int32) ∨ ((x &&& (2147483647 : Int32)) - ((x &&& (2147483647 : Int32)) / (12 : Int32)) * (12 : Int32)) = (3 : Int32) ∨ ((x &&& (2147483647 : Int32)) - ((x &&& (2147483647 : Int32)) / (12 : Int32)) * (12 : Int32)) = (4 : Int32) ∨ ((x &&& (2147483647 : Int32)) - ((x &&& (2147483647 : Int32)) / (12 : Int32)) * (12 : Int32)) = (5 : Int32) ∨ ((x &&& (2147483647 : Int32)) - ((x &&& (2147483647 : Int32)) / (12 : Int32)) * (12 : Int32)) = (6 : Int32) ∨ ((x &&& (2147483647 : Int32)) - ((x &&& (2147483647 : Int32)) / (12 : Int32)) * (12 : Int32)) = (7 : Int32) ∨ ((x &&& (2147483647 : Int32)) - ((x &&& (2147483647 : Int32)) / (12 : Int32)) * (12 : Int32)) = (8 : Int32) ∨ ((x &&& (2147483647 : Int32)) - ((x &&& (2147483647 : Int32)) / (12 : Int32)) * (12 : Int32)) = (9 : Int32) ∨ ((x &&& (2147483647 : Int32)) - ((x &&& (2147483647 : Int32)) / (12 : Int32)) * (12 : Int32)) = (10 : Int32) ∨ ((x &&& (2147483647 : Int32)) - ((x &&& (2147483647 : Int32)) / (12 : Int32)) * (12 : Int32)) = (11 : Int32) := by
  have h0 := own_mask x
  have h1 := Jvm.LawKit.rem_toInt (x &&& (2147483647 : Int32)) (12 : Int32)
  have h2 : ((12 : Int32)).toInt = 12 := by decide
  rw [h2, Int.tmod_eq_emod_of_nonneg h0] at h1
  have h3 : ((x &&& (2147483647 : Int32)) - ((x &&& (2147483647 : Int32)) / (12 : Int32)) * (12 : Int32)).toInt = 0 ∨ ((x &&& (2147483647 : Int32)) - ((x &&& (2147483647 : Int32)) / (12 : Int32)) * (12 : Int32)).toInt = 1 ∨ ((x &&& (2147483647 : Int32)) - ((x &&& (2147483647 : Int32)) / (12 : Int32)) * (12 : Int32)).toInt = 2 ∨ ((x &&& (2147483647 : Int32)) - ((x &&& (2147483647 : Int32)) / (12 : Int32)) * (12 : Int32)).toInt = 3 ∨ ((x &&& (2147483647 : Int32)) - ((x &&& (2147483647 : Int32)) / (12 : Int32)) * (12 : Int32)).toInt = 4 ∨ ((x &&& (2147483647 : Int32)) - ((x &&& (2147483647 : Int32)) / (12 : Int32)) * (12 : Int32)).toInt = 5 ∨ ((x &&& (2147483647 : Int32)) - ((x &&& (2147483647 : Int32)) / (12 : Int32)) * (12 : Int32)).toInt = 6 ∨ ((x &&& (2147483647 : Int32)) - ((x &&& (2147483647 : Int32)) / (12 : Int32)) * (12 : Int32)).toInt = 7 ∨ ((x &&& (2147483647 : Int32)) - ((x &&& (2147483647 : Int32)) / (12 : Int32)) * (12 : Int32)).toInt = 8 ∨ ((x &&& (2147483647 : Int32)) - ((x &&& (2147483647 : Int32)) / (12 : Int32)) * (12 : Int32)).toInt = 9 ∨ ((x &&& (2147483647 : Int32)) - ((x &&& (2147483647 : Int32)) / (12 : Int32)) * (12 : Int32)).toInt = 10 ∨ ((x &&& (2147483647 : Int32)) - ((x &&& (2147483647 : Int32)) / (12 : Int32)) * (12 : Int32)).toInt = 11 := by omega
  rcases h3 with h | h | h | h | h | h | h | h | h | h | h | h
  · exact Or.inl (Int32.toInt_inj.mp (h.trans (by decide)))
  · exact Or.inr <| Or.inl (Int32.toInt_inj.mp (h.trans (by decide)))
  · exact Or.inr <| Or.inr <| Or.inl (Int32.toInt_inj.mp (h.trans (by decide)))
  · exact Or.inr <| Or.inr <| Or.inr <| Or.inl (Int32.toInt_inj.mp (h.trans (by decide)))
  · exact Or.inr <| Or.inr <| Or.inr <| Or.inr <| Or.inl (Int32.toInt_inj.mp (h.trans (by decide)))
  · exact Or.inr <| Or.inr <| Or.inr <| Or.inr <| Or.inr <| Or.inl (Int32.toInt_inj.mp (h.trans (by decide)))
  · exact Or.inr <| Or.inr <| Or.inr <| Or.inr <| Or.inr <| Or.inr <| Or.inl (Int32.toInt_inj.mp (h.trans (by decide)))
  · exact Or.inr <| Or.inr <| Or.inr <| Or.inr <| Or.inr <| Or.inr <| Or.inr <| Or.inl (Int32.toInt_inj.mp (h.trans (by decide)))
  · exact Or.inr <| Or.inr <| Or.inr <| Or.inr <| Or.inr <| Or.inr <| Or.inr <| Or.inr <| Or.inl (Int32.toInt_inj.mp (h.trans (by decide)))
  · exact Or.inr <| Or.inr <| Or.inr <| Or.inr <| Or.inr <| Or.inr <| Or.inr <| Or.inr <| Or.inr <| Or.inl (Int32.toInt_inj.mp (h.trans (by decide)))
  · exact Or.inr <| Or.inr <| Or.inr <| Or.inr <| Or.inr <| Or.inr <| Or.inr <| Or.inr <| Or.inr <| Or.inr <| Or.inl (Int32.toInt_inj.mp (h.trans (by decide)))
  · exact Or.inr <| Or.inr <| Or.inr <| Or.inr <| Or.inr <| Or.inr <| Or.inr <| Or.inr <| Or.inr <| Or.inr <| Or.inr <| (Int32.toInt_inj.mp (h.trans (by decide)))
theorem d1_0 : decode method_2_code 0 = .ok (.iload_n 0, 1) := by decide +kernel
theorem d1_1 : decode method_2_code 1 = .ok (.ifCond .ne 7, 3) := by decide +kernel
theorem d1_4 : decode method_2_code 4 = .ok (.getstatic 7, 3) := by decide +kernel
theorem d1_7 : decode method_2_code 7 = .ok (.areturn, 1) := by decide +kernel
abbrev Y0 : MethodName := (⟨"com/example/mibwright/mibwright/mib/BaseTypeIsIntegerPinLaw", "pick", "(I)Lcom/example/mibwright/mibwright/mib/BaseType;"⟩ : MethodName)
theorem pn0 : plainName "com/example/mibwright/mibwright/mib/BaseTypeIsIntegerPinLaw" = true := by first | (simp [plainName, overriddenIn]; done) | decide +kernel
theorem ef_own_c0_pick (m : MethodId) (u0 u1 u2 u3 u4 u5 u6 u7 u8 u9 u10 u11 : Addr) : entryFrame m #[xi (0 : Int32)] 1 = (mkF m 0 #[vi (0 : Int32)] []) := by first | (simp [entryFrame, mkF, argsToLocals, Value.category]; done) | rfl
set_option maxRecDepth 65536 in
set_option maxHeartbeats 40000000 in
theorem own_c0_pick (l : Launch) (Z : State) (a0 : Array Value) (hw : ∀ d ∈ tables_1, d.before a0 Z = true) (u0 u1 u2 u3 u4 u5 u6 u7 u8 u9 u10 u11 : Addr) (G : own_St Z u0 u1 u2 u3 u4 u5 u6 u7 u8 u9 u10 u11) (h0 : Heap) (n0 : Nat) (O0 : Old Z n0 h0) : own_Met l Z Y0 method_2_code 1 (some (.object "com/example/mibwright/mibwright/mib/BaseType")) ({ frames := 0, cells := 0, slots := 0, locals := 0 } : Room) #[xi (0 : Int32)] h0 (own_QR (some (xr u0)) h0 n0) := by
  intro ws
  refine MetFree.of_bodySF (plainFor_of_name pn0) hisR ?_
  intro p e s m args below meth c s₁ Bd hml0 hP hK
  obtain ⟨rfl, hZ, hh⟩ := hP
  have hx := Bd.exec
  have hby := Bd.bytes
  have hml : c.maxLocals = 1 := hml0
  have hown : s.vm.findClass "com/example/mibwright/mibwright/mib/BaseTypeIsIntegerPinLaw" = some m.cls := findClass_of_methodNamed Bd.named
  have hnm := (name_of_methodNamed Bd.named Bd.method).1
  have X0 : Stand p l e ({ frames := 0, cells := 0, slots := 0, locals := 0 } : Room) s m #[xi (0 : Int32)] below meth c s₁ [] 0 0 := Stand.of_body Bd
  have e0 : s₁.heap = h0 := by rw [← hh, Bd.state]; rfl
  have N0 := Fr.nil n0
  have pre0 : ∀ t, Steps p.tables e below (s₁.setTop (mkF m 0 #[vi (0 : Int32)] [])) t → Steps p.tables e below (s₁.setTop (entryFrame m #[xi (0 : Int32)] 1)) t := fun t k => castTop (ef_own_c0_pick m u0 u1 u2 u3 u4 u5 u6 u7 u8 u9 u10 u11) k
  obtain ⟨T1, X1, e1, st1⟩ := getS2 X0 hx hZ hown (host := "") (Or.inl (ww hw 5 rfl)) Via.refl e0 ((own_S_u0 G).ext O0.2) (g := (mkF m 4 #[vi (0 : Int32)] [])) rfl (hb hby d1_4)
  obtain ⟨fs, hr, hrun, hended, hW, hsame⟩ := X1.leave (v := some (xr u0)) (fun h => by rw [Bd.returns] at h; cases h)
  refine ⟨_, _, pre0 _ ?_, hrun, hended, _, _, rfl, ?_, ⟨_, rfl⟩, hW, hsame.mono (by decide) (by decide)⟩
  · show own_S p e below s₁ (mkF m 0 #[vi (0 : Int32)] []) _
    refine XS.iloadN X0.here hx rfl (hb hby d1_0) rfl ?_
    show own_S p e below s₁ (mkF m 1 #[vi (0 : Int32)] [xi (0 : Int32)]) _
    refine XS.ifNo X0.here hx rfl (hb hby d1_1) rfl (by decide) ?_
    show own_S p e below s₁ (mkF m 4 #[vi (0 : Int32)] []) _
    refine st1 _ ?_
    show own_S p e below T1 (mkF m 7 #[vi (0 : Int32)] [xr u0]) _
    exact X1.areturnOut hx rfl Bd.returns rfl (hb hby d1_7) hr
  · exact ⟨rfl, N0, e1⟩
theorem pd0 : parseMethodDescriptor "(I)Lcom/example/mibwright/mibwright/mib/BaseType;" = some ⟨[.int], some (.object "com/example/mibwright/mibwright/mib/BaseType")⟩ := by decide +kernel
theorem d2_0 : decode prog_26_method_5_code 0 = .ok (.aload_n 0, 1) := by decide +kernel
theorem d2_1 : decode prog_26_method_5_code 1 = .ok (.invokevirtual 63, 3) := by decide +kernel
theorem d3_0 : decode jdk_37_method_2_code 0 = .ok (.aload_n 0, 1) := by decide +kernel
theorem d3_1 : decode jdk_37_method_2_code 1 = .ok (.getfield 7, 3) := by decide +kernel
theorem d3_4 : decode jdk_37_method_2_code 4 = .ok (.ireturn, 1) := by decide +kernel
abbrev Y1 : MethodName := (⟨"java/lang/Enum", "ordinal", "()I"⟩ : MethodName)
theorem pn1 : plainName "java/lang/Enum" = true := by first | (simp [plainName, overriddenIn]; done) | decide +kernel
theorem ef_own_c1_ordinal (m : MethodId) (u0 u1 u2 u3 u4 u5 u6 u7 u8 u9 u10 u11 : Addr) : entryFrame m #[xr u0] 1 = (mkF m 0 #[vr u0] []) := by first | (simp [entryFrame, mkF, argsToLocals, Value.category]; done) | rfl
set_option maxRecDepth 65536 in
set_option maxHeartbeats 40000000 in
theorem own_c1_ordinal (l : Launch) (Z : State) (a0 : Array Value) (hw : ∀ d ∈ tables_1, d.before a0 Z = true) (u0 u1 u2 u3 u4 u5 u6 u7 u8 u9 u10 u11 : Addr) (G : own_St Z u0 u1 u2 u3 u4 u5 u6 u7 u8 u9 u10 u11) (h0 : Heap) (n0 : Nat) (O0 : Old Z n0 h0) : own_Met l Z Y1 jdk_37_method_2_code 1 (some .int) ({ frames := 0, cells := 0, slots := 0, locals := 0 } : Room) #[xr u0] h0 (own_QR (some (xi (0 : Int32))) h0 n0) := by
  intro ws
  refine MetFree.of_bodySF (plainFor_of_name pn1) hisR ?_
  intro p e s m args below meth c s₁ Bd hml0 hP hK
  obtain ⟨rfl, hZ, hh⟩ := hP
  have hx := Bd.exec
  have hby := Bd.bytes
  have hml : c.maxLocals = 1 := hml0
  have hown : s.vm.findClass "java/lang/Enum" = some m.cls := findClass_of_methodNamed Bd.named
  have hnm := (name_of_methodNamed Bd.named Bd.method).1
  have X0 : Stand p l e ({ frames := 0, cells := 0, slots := 0, locals := 0 } : Room) s m #[xr u0] below meth c s₁ [] 0 0 := Stand.of_body Bd
  have e0 : s₁.heap = h0 := by rw [← hh, Bd.state]; rfl
  have N0 := Fr.nil n0
  have pre0 : ∀ t, Steps p.tables e below (s₁.setTop (mkF m 0 #[vr u0] [])) t → Steps p.tables e below (s₁.setTop (entryFrame m #[xr u0] 1)) t := fun t k => castTop (ef_own_c1_ordinal m u0 u1 u2 u3 u4 u5 u6 u7 u8 u9 u10 u11) k
  obtain ⟨T1, X1, e1, st1⟩ := getF X0 hx hZ hown (host := "") (Or.inl (ww hw 20 rfl)) Via.refl e0 ((own_F_u0_ordinal G).ext O0.2) (g := (mkF m 1 #[vr u0] [xr u0])) rfl rfl (hb hby d3_1)
  obtain ⟨fs, hr, hrun, hended, hW, hsame⟩ := X1.leave (v := some (xi (0 : Int32))) (fun h => by rw [Bd.returns] at h; cases h)
  refine ⟨_, _, pre0 _ ?_, hrun, hended, _, _, rfl, ?_, ⟨_, rfl⟩, hW, hsame.mono (by decide) (by decide)⟩
  · show own_S p e below s₁ (mkF m 0 #[vr u0] []) _
    refine XS.aloadN X0.here hx rfl (hb hby d3_0) rfl rfl ?_
    show own_S p e below s₁ (mkF m 1 #[vr u0] [xr u0]) _
    refine st1 _ ?_
    show own_S p e below T1 (mkF m 4 #[vr u0] [xi (0 : Int32)]) _
    exact retI X1 hx Bd.returns (hb hby d3_4) hr
  · exact ⟨rfl, N0, e1⟩
theorem pd1 : parseMethodDescriptor "()I" = some ⟨[], some .int⟩ := by decide +kernel
abbrev Y2 : MethodName := (⟨"com/example/mibwright/mibwright/mib/BaseType", "ordinal", "()I"⟩ : MethodName)
theorem d2_4 : decode prog_26_method_5_code 4 = .ok (.tableswitch 64 0 11 #[74, 74, 78, 78, 78, 78, 74, 74, 74, 78, 74, 74], 64) := by decide +kernel
theorem d2_78 : decode prog_26_method_5_code 78 = .ok (.iconst 1, 1) := by decide +kernel
theorem d2_79 : decode prog_26_method_5_code 79 = .ok (.goto 4, 3) := by decide +kernel
theorem d2_83 : decode prog_26_method_5_code 83 = .ok (.ireturn, 1) := by decide +kernel
abbrev Y3 : MethodName := (⟨"com/example/mibwright/mibwright/mib/BaseType", "isInteger", "()Z"⟩ : MethodName)
theorem pn2 : plainName "com/example/mibwright/mibwright/mib/BaseType" = true := by first | (simp [plainName, overriddenIn]; done) | decide +kernel
theorem ef_own_c1_isInteger (m : MethodId) (u0 u1 u2 u3 u4 u5 u6 u7 u8 u9 u10 u11 : Addr) : entryFrame m #[xr u0] 1 = (mkF m 0 #[vr u0] []) := by first | (simp [entryFrame, mkF, argsToLocals, Value.category]; done) | rfl
set_option maxRecDepth 65536 in
set_option maxHeartbeats 40000000 in
theorem own_c1_isInteger (l : Launch) (Z : State) (a0 : Array Value) (hw : ∀ d ∈ tables_1, d.before a0 Z = true) (u0 u1 u2 u3 u4 u5 u6 u7 u8 u9 u10 u11 : Addr) (G : own_St Z u0 u1 u2 u3 u4 u5 u6 u7 u8 u9 u10 u11) (h0 : Heap) (n0 : Nat) (O0 : Old Z n0 h0) : own_Met l Z Y3 prog_26_method_5_code 1 (some .boolean) ({ frames := 1, cells := 0, slots := 0, locals := 12 } : Room) #[xr u0] h0 (own_QR (some (xi (1 : Int32))) h0 n0) := by
  intro ws
  refine MetFree.of_bodySF (plainFor_of_name pn2) hisR ?_
  intro p e s m args below meth c s₁ Bd hml0 hP hK
  obtain ⟨rfl, hZ, hh⟩ := hP
  have hx := Bd.exec
  have hby := Bd.bytes
  have hml : c.maxLocals = 1 := hml0
  have hown : s.vm.findClass "com/example/mibwright/mibwright/mib/BaseType" = some m.cls := findClass_of_methodNamed Bd.named
  have hnm := (name_of_methodNamed Bd.named Bd.method).1
  have X0 : Stand p l e ({ frames := 1, cells := 0, slots := 0, locals := 12 } : Room) s m #[xr u0] below meth c s₁ [] 0 0 := Stand.of_body Bd
  have e0 : s₁.heap = h0 := by rw [← hh, Bd.state]; rfl
  have N0 := Fr.nil n0
  have pre0 : ∀ t, Steps p.tables e below (s₁.setTop (mkF m 0 #[vr u0] [])) t → Steps p.tables e below (s₁.setTop (entryFrame m #[xr u0] 1)) t := fun t k => castTop (ef_own_c1_isInteger m u0 u1 u2 u3 u4 u5 u6 u7 u8 u9 u10 u11) k
  obtain ⟨cq1, kq1, qa1, qb1, qc1⟩ := isOf hZ e0 ((own_X_u0 G).ext O0.2)
  obtain ⟨_, _, ⟨T1, L1, k1, n1⟩, -, X1, ⟨Lc1, hQ1, l1, y1, z1⟩, st1⟩ := X0.virtualBackUp hx (x := Y2) (y := Y1) hown (mvT hZ (ww hw 13 rfl)) (mvT hZ (ww hw 14 rfl)) (mvT hZ (ww hw 15 rfl)) (by decide) (mvT hZ (ww hw 17 rfl)) (mvT hZ (ww hw 16 rfl)) (backOf (W := 0) (own_c1_ordinal l Z a0 hw u0 u1 u2 u3 u4 u5 u6 u7 u8 u9 u10 u11 G h0 n0 O0 []) hZ (ww hw 19 rfl) (ww hw 18 rfl) (by decide) (by decide)) qa1 qc1 (g := (mkF m 1 #[vr u0] [xr u0])) rfl (by rw [hml]; rfl) (Steps.refl _) (argsL := []) (rest := []) (lenOf pd1 rfl) rfl (by show 2 * 0 + _ ≤ _; exact Nat.le_of_eq rfl) (hb hby d2_1) (fun _ _ => ⟨rfl, e0, (by decide : 0 + 0 ≤ _), (by decide : 0 + 0 ≤ _)⟩)
  dsimp only [Pt.U, Pt.locs, Pt.cells, Pt.slots] at X1 l1 y1 z1 st1 hQ1
  subst l1 y1 z1
  obtain ⟨rfl, Nq1, e1⟩ := hQ1
  have N1 := Fr.app N0 Nq1
  obtain ⟨fs, hr, hrun, hended, hW, hsame⟩ := X1.leave (v := some (xi (1 : Int32))) (fun h => by rw [Bd.returns] at h; cases h)
  refine ⟨_, _, pre0 _ ?_, hrun, hended, _, _, rfl, ?_, ⟨_, rfl⟩, hW, hsame.mono (by decide) (by decide)⟩
  · show own_S p e below s₁ (mkF m 0 #[vr u0] []) _
    refine XS.aloadN X0.here hx rfl (hb hby d2_0) rfl rfl ?_
    show own_S p e below s₁ (mkF m 1 #[vr u0] [xr u0]) _
    refine st1.trans ?_
    show own_S p e below T1 (mkF m 4 #[vr u0] [xi (0 : Int32)]) _
    refine XS.tswIn X1.here hx rfl (pc0 := 4) (pc' := 78) (o := 74) rfl (hb hby d2_4) rfl (by decide) (by decide) (by decide) (by decide) ?_
    show own_S p e below T1 (mkF m 78 #[vr u0] []) _
    refine XS.iconst X1.here hx rfl (hb hby d2_78) ?_
    show own_S p e below T1 (mkF m 79 #[vr u0] [xi (1 : Int32)]) _
    refine XS.goto X1.here hx rfl (pc0 := 79) (pc' := 83) rfl (hb hby d2_79) (by decide) (by decide) ?_
    show own_S p e below T1 (mkF m 83 #[vr u0] [xi (1 : Int32)]) _
    exact retN X1 hx (t := .boolean) Bd.returns (by simp) (hb hby d2_83) hr
  · exact ⟨rfl, N1, e1⟩
theorem pd2 : parseMethodDescriptor "()Z" = some ⟨[], some .boolean⟩ := by decide +kernel
theorem d4_0 : decode method_3_code 0 = .ok (.iload_n 0, 1) := by decide +kernel
theorem d4_1 : decode method_3_code 1 = .ok (.iconst 2, 1) := by decide +kernel
theorem d4_2 : decode method_3_code 2 = .ok (.if_icmp .eq 24, 3) := by decide +kernel
theorem d4_5 : decode method_3_code 5 = .ok (.iload_n 0, 1) := by decide +kernel
theorem d4_6 : decode method_3_code 6 = .ok (.iconst 3, 1) := by decide +kernel
theorem d4_7 : decode method_3_code 7 = .ok (.if_icmp .eq 19, 3) := by decide +kernel
theorem d4_10 : decode method_3_code 10 = .ok (.iload_n 0, 1) := by decide +kernel
theorem d4_11 : decode method_3_code 11 = .ok (.iconst 4, 1) := by decide +kernel
theorem d4_12 : decode method_3_code 12 = .ok (.if_icmp .eq 14, 3) := by decide +kernel
theorem d4_15 : decode method_3_code 15 = .ok (.iload_n 0, 1) := by decide +kernel
theorem d4_16 : decode method_3_code 16 = .ok (.iconst 5, 1) := by decide +kernel
theorem d4_17 : decode method_3_code 17 = .ok (.if_icmp .eq 9, 3) := by decide +kernel
theorem d4_20 : decode method_3_code 20 = .ok (.iload_n 0, 1) := by decide +kernel
theorem d4_21 : decode method_3_code 21 = .ok (.bipush 9, 2) := by decide +kernel
theorem d4_23 : decode method_3_code 23 = .ok (.if_icmp .ne 5, 3) := by decide +kernel
theorem d4_28 : decode method_3_code 28 = .ok (.iconst 1, 1) := by decide +kernel
theorem d4_29 : decode method_3_code 29 = .ok (.ireturn, 1) := by decide +kernel
abbrev Y4 : MethodName := (⟨"com/example/mibwright/mibwright/mib/BaseTypeIsIntegerPinLaw", "holdsIntegers", "(I)Z"⟩ : MethodName)
theorem ef_own_c3_holdsIntegers (m : MethodId) (u0 u1 u2 u3 u4 u5 u6 u7 u8 u9 u10 u11 : Addr) : entryFrame m #[xi (0 : Int32)] 1 = (mkF m 0 #[vi (0 : Int32)] []) := by first | (simp [entryFrame, mkF, argsToLocals, Value.category]; done) | rfl
set_option maxRecDepth 65536 in
set_option maxHeartbeats 40000000 in
theorem own_c3_holdsIntegers (l : Launch) (Z : State) (a0 : Array Value) (hw : ∀ d ∈ tables_1, d.before a0 Z = true) (u0 u1 u2 u3 u4 u5 u6 u7 u8 u9 u10 u11 : Addr) (G : own_St Z u0 u1 u2 u3 u4 u5 u6 u7 u8 u9 u10 u11) (h0 : Heap) (n0 : Nat) (O0 : Old Z n0 h0) : own_Met l Z Y4 method_3_code 1 (some .boolean) ({ frames := 0, cells := 0, slots := 0, locals := 0 } : Room) #[xi (0 : Int32)] h0 (own_QR (some (xi (1 : Int32))) h0 n0) := by
  intro ws
  refine MetFree.of_bodySF (plainFor_of_name pn0) hisR ?_
  intro p e s m args below meth c s₁ Bd hml0 hP hK
  obtain ⟨rfl, hZ, hh⟩ := hP
  have hx := Bd.exec
  have hby := Bd.bytes
  have hml : c.maxLocals = 1 := hml0
  have hown : s.vm.findClass "com/example/mibwright/mibwright/mib/BaseTypeIsIntegerPinLaw" = some m.cls := findClass_of_methodNamed Bd.named
  have hnm := (name_of_methodNamed Bd.named Bd.method).1
  have X0 : Stand p l e ({ frames := 0, cells := 0, slots := 0, locals := 0 } : Room) s m #[xi (0 : Int32)] below meth c s₁ [] 0 0 := Stand.of_body Bd
  have e0 : s₁.heap = h0 := by rw [← hh, Bd.state]; rfl
  have N0 := Fr.nil n0
  have pre0 : ∀ t, Steps p.tables e below (s₁.setTop (mkF m 0 #[vi (0 : Int32)] [])) t → Steps p.tables e below (s₁.setTop (entryFrame m #[xi (0 : Int32)] 1)) t := fun t k => castTop (ef_own_c3_holdsIntegers m u0 u1 u2 u3 u4 u5 u6 u7 u8 u9 u10 u11) k
  obtain ⟨fs, hr, hrun, hended, hW, hsame⟩ := X0.leave (v := some (xi (1 : Int32))) (fun h => by rw [Bd.returns] at h; cases h)
  refine ⟨_, _, pre0 _ ?_, hrun, hended, _, _, rfl, ?_, ⟨_, rfl⟩, hW, hsame.mono (by decide) (by decide)⟩
  · show own_S p e below s₁ (mkF m 0 #[vi (0 : Int32)] []) _
    refine XS.iloadN X0.here hx rfl (hb hby d4_0) rfl ?_
    show own_S p e below s₁ (mkF m 1 #[vi (0 : Int32)] [xi (0 : Int32)]) _
    refine XS.iconst X0.here hx rfl (hb hby d4_1) ?_
    show own_S p e below s₁ (mkF m 2 #[vi (0 : Int32)] [xi (2 : Int32), xi (0 : Int32)]) _
    refine XS.icmpNo X0.here hx rfl (hb hby d4_2) rfl (by decide) ?_
    show own_S p e below s₁ (mkF m 5 #[vi (0 : Int32)] []) _
    refine XS.iloadN X0.here hx rfl (hb hby d4_5) rfl ?_
    show own_S p e below s₁ (mkF m 6 #[vi (0 : Int32)] [xi (0 : Int32)]) _
    refine XS.iconst X0.here hx rfl (hb hby d4_6) ?_
    show own_S p e below s₁ (mkF m 7 #[vi (0 : Int32)] [xi (3 : Int32), xi (0 : Int32)]) _
    refine XS.icmpNo X0.here hx rfl (hb hby d4_7) rfl (by decide) ?_
    show own_S p e below s₁ (mkF m 10 #[vi (0 : Int32)] []) _
    refine XS.iloadN X0.here hx rfl (hb hby d4_10) rfl ?_
    show own_S p e below s₁ (mkF m 11 #[vi (0 : Int32)] [xi (0 : Int32)]) _
    refine XS.iconst X0.here hx rfl (hb hby d4_11) ?_
    show own_S p e below s₁ (mkF m 12 #[vi (0 : Int32)] [xi (4 : Int32), xi (0 : Int32)]) _
    refine XS.icmpNo X0.here hx rfl (hb hby d4_12) rfl (by decide) ?_
    show own_S p e below s₁ (mkF m 15 #[vi (0 : Int32)] []) _
    refine XS.iloadN X0.here hx rfl (hb hby d4_15) rfl ?_
    show own_S p e below s₁ (mkF m 16 #[vi (0 : Int32)] [xi (0 : Int32)]) _
    refine XS.iconst X0.here hx rfl (hb hby d4_16) ?_
    show own_S p e below s₁ (mkF m 17 #[vi (0 : Int32)] [xi (5 : Int32), xi (0 : Int32)]) _
    refine XS.icmpNo X0.here hx rfl (hb hby d4_17) rfl (by decide) ?_
    show own_S p e below s₁ (mkF m 20 #[vi (0 : Int32)] []) _
    refine XS.iloadN X0.here hx rfl (hb hby d4_20) rfl ?_
    show own_S p e below s₁ (mkF m 21 #[vi (0 : Int32)] [xi (0 : Int32)]) _
    refine XS.bipush X0.here hx rfl (hb hby d4_21) ?_
    show own_S p e below s₁ (mkF m 23 #[vi (0 : Int32)] [xi (9 : Int32), xi (0 : Int32)]) _
    refine XS.icmpYes X0.here hx rfl (pc0 := 23) (pc' := 28) rfl (hb hby d4_23) rfl (by decide) (by decide) (by decide) ?_
    show own_S p e below s₁ (mkF m 28 #[vi (0 : Int32)] []) _
    refine XS.iconst X0.here hx rfl (hb hby d4_28) ?_
    show own_S p e below s₁ (mkF m 29 #[vi (0 : Int32)] [xi (1 : Int32)]) _
    exact retN X0 hx (t := .boolean) Bd.returns (by simp) (hb hby d4_29) hr
  · exact ⟨rfl, N0, e0⟩
theorem pd3 : parseMethodDescriptor "(I)Z" = some ⟨[.int], some .boolean⟩ := by decide +kernel
theorem ef_own_l0 (m : MethodId) (u0 u1 u2 u3 u4 u5 u6 u7 u8 u9 u10 u11 : Addr) (p1 : Int32) : entryFrame m #[xi p1] maxLocals = (mkF m 0 #[vi p1, vu, vu] []) := by first | (simp [entryFrame, mkF, argsToLocals, Value.category, maxLocals]; done) | rfl
set_option maxRecDepth 65536 in
set_option maxHeartbeats 40000000 in
theorem own_l0 (l : Launch) (Z : State) (a0 : Array Value) (hw : ∀ d ∈ tables_1, d.before a0 Z = true) (u0 u1 u2 u3 u4 u5 u6 u7 u8 u9 u10 u11 : Addr) (G : own_St Z u0 u1 u2 u3 u4 u5 u6 u7 u8 u9 u10 u11) (p1 : Int32) (as0 : ((p1 &&& (2147483647 : Int32)) - ((p1 &&& (2147483647 : Int32)) / (12 : Int32)) * (12 : Int32)) = (0 : Int32)) (h0 : Heap) (n0 : Nat) (O0 : Old Z n0 h0) : own_Met l Z x code maxLocals ret room_1 #[xi p1] h0 (own_QL (some (xi (1 : Int32))) n0) := by
  intro ws
  refine MetFree.of_bodySF (plainFor_of_name pn0) hisR ?_
  intro p e s m args below meth c s₁ Bd hml0 hP hK
  obtain ⟨rfl, hZ, hh⟩ := hP
  have hx := Bd.exec
  have hby := Bd.bytes
  have hml : c.maxLocals = 3 := hml0
  have hown : s.vm.findClass "com/example/mibwright/mibwright/mib/BaseTypeIsIntegerPinLaw" = some m.cls := findClass_of_methodNamed Bd.named
  have hnm := (name_of_methodNamed Bd.named Bd.method).1
  have X0 : Stand p l e room_1 s m #[xi p1] below meth c s₁ [] 0 0 := Stand.of_body Bd
  have e0 : s₁.heap = h0 := by rw [← hh, Bd.state]; rfl
  have N0 := Fr.nil n0
  have pre0 : ∀ t, Steps p.tables e below (s₁.setTop (mkF m 0 #[vi p1, vu, vu] [])) t → Steps p.tables e below (s₁.setTop (entryFrame m #[xi p1] maxLocals)) t := fun t k => castTop (ef_own_l0 m u0 u1 u2 u3 u4 u5 u6 u7 u8 u9 u10 u11 p1) k
  obtain ⟨_, _, ⟨T1, L1, k1, n1⟩, -, X1, ⟨Lc1, hQ1, l1, y1, z1⟩, st1⟩ := Jvm.LawKit.callS X0 hx (y := Y0) hown (mvT hZ (ww hw 1 rfl)) (mvT hZ (ww hw 2 rfl)) (mvT hZ (ww hw 3 rfl)) (mvT hZ (ww hw 4 rfl)) (by decide) (backOf (W := 0) (own_c0_pick l Z a0 hw u0 u1 u2 u3 u4 u5 u6 u7 u8 u9 u10 u11 G h0 n0 O0 []) hZ (ww hw 4 rfl) (ww hw 3 rfl) (by decide) (by decide)) (g := (mkF m 9 #[vi p1, vi (0 : Int32), vu] [xi (0 : Int32)])) rfl (by rw [hml]; rfl) (argsL := [xi (0 : Int32)]) (rest := []) (lenOf pd0 rfl) rfl (by show 2 * 0 + _ ≤ _; exact Nat.le_of_eq rfl) (hb hby at_9) (fun _ _ => ⟨rfl, e0, (by decide : 0 + 0 ≤ _), (by decide : 0 + 0 ≤ _)⟩)
  dsimp only [Pt.U, Pt.locs, Pt.cells, Pt.slots] at X1 l1 y1 z1 st1 hQ1
  subst l1 y1 z1
  obtain ⟨rfl, Nq1, e1⟩ := hQ1
  have N1 := Fr.app N0 Nq1
  obtain ⟨cq2, kq2, qa2, qb2, qc2⟩ := isOf hZ e1 ((own_X_u0 G).ext O0.2)
  obtain ⟨_, _, ⟨T2, L2, k2, n2⟩, -, X2, ⟨Lc2, hQ2, l2, y2, z2⟩, st2⟩ := X1.virtualBack hx (y := Y3) (z := Y3) hown (mvT hZ (ww hw 8 rfl)) (mvT hZ (ww hw 9 rfl)) (notFace_of_selects (args := #[]) (mvT hZ (ww hw 11 rfl))) (mvT hZ (ww hw 11 rfl)) (mvT hZ (ww hw 10 rfl)) (by decide) (backOf (W := 0) (own_c1_isInteger l Z a0 hw u0 u1 u2 u3 u4 u5 u6 u7 u8 u9 u10 u11 G h0 n0 O0 []) hZ (ww hw 12 rfl) (ww hw 6 rfl) (by decide) (by decide)) qa2 qc2 (g := (mkF m 14 #[vi p1, vi (0 : Int32), vr u0] [xr u0])) rfl (by rw [hml]; rfl) (Steps.refl _) (argsL := []) (rest := []) (lenOf pd2 rfl) rfl (by show 2 * 0 + _ ≤ _; exact Nat.le_of_eq rfl) (hb hby at_14) (fun _ _ => ⟨rfl, e1, (by decide : 0 + 0 ≤ _), (by decide : 0 + 0 ≤ _)⟩)
  dsimp only [Pt.U, Pt.locs, Pt.cells, Pt.slots] at X2 l2 y2 z2 st2 hQ2
  subst l2 y2 z2
  obtain ⟨rfl, Nq2, e2⟩ := hQ2
  have N2 := Fr.app N1 Nq2
  obtain ⟨_, _, ⟨T3, L3, k3, n3⟩, -, X3, ⟨Lc3, hQ3, l3, y3, z3⟩, st3⟩ := Jvm.LawKit.callS X2 hx (y := Y4) hown (mvT hZ (ww hw 22 rfl)) (mvT hZ (ww hw 23 rfl)) (mvT hZ (ww hw 3 rfl)) (mvT hZ (ww hw 24 rfl)) (by decide) (backOf (W := 1) (own_c3_holdsIntegers l Z a0 hw u0 u1 u2 u3 u4 u5 u6 u7 u8 u9 u10 u11 G h0 n0 O0 []) hZ (ww hw 24 rfl) (ww hw 3 rfl) (by decide) (by decide)) (g := (mkF m 18 #[vi p1, vi (0 : Int32), vr u0] [xi (0 : Int32), xi (1 : Int32)])) rfl (by rw [hml]; rfl) (argsL := [xi (0 : Int32)]) (rest := [xi (1 : Int32)]) (lenOf pd3 rfl) rfl (by show 2 * 0 + _ ≤ _; exact Nat.le_of_eq rfl) (hb hby at_18) (fun _ _ => ⟨rfl, e2, (by decide : 0 + 0 ≤ _), (by decide : 0 + 0 ≤ _)⟩)
  dsimp only [Pt.U, Pt.locs, Pt.cells, Pt.slots] at X3 l3 y3 z3 st3 hQ3
  subst l3 y3 z3
  obtain ⟨rfl, Nq3, e3⟩ := hQ3
  have N3 := Fr.app N2 Nq3
  obtain ⟨fs, hr, hrun, hended, hW, hsame⟩ := X3.leave (v := some (xi (1 : Int32))) (fun h => by rw [Bd.returns] at h; cases h)
  refine ⟨_, _, pre0 _ ?_, hrun, hended, _, _, rfl, ?_, ⟨_, rfl⟩, hW, hsame.mono (by decide) (by decide)⟩
  · show own_S p e below s₁ (mkF m 0 #[vi p1, vu, vu] []) _
    refine XS.iloadN X0.here hx rfl (hb hby at_0) rfl ?_
    show own_S p e below s₁ (mkF m 1 #[vi p1, vu, vu] [xi p1]) _
    refine X0.ldcI hx hown (mvT hZ (ww hw 0 rfl)) (g := (mkF m 1 #[vi p1, vu, vu] [xi p1])) rfl (hb hby at_1) ?_
    show own_S p e below s₁ (mkF m 3 #[vi p1, vu, vu] [xi (2147483647 : Int32), xi p1]) _
    refine XS.iand X0.here hx rfl (hb hby at_3) rfl ?_
    show own_S p e below s₁ (mkF m 4 #[vi p1, vu, vu] [xi (p1 &&& (2147483647 : Int32))]) _
    show own_S p e below s₁ (mkF m 4 #[vi p1, vu, vu] [xi (p1 &&& (2147483647 : Int32))]) _
    refine XS.bipush X0.here hx rfl (hb hby at_4) ?_
    show own_S p e below s₁ (mkF m 6 #[vi p1, vu, vu] [xi (12 : Int32), xi (p1 &&& (2147483647 : Int32))]) _
    refine XS.irem X0.here hx rfl (hb hby at_6) rfl (by decide) ?_
    show own_S p e below s₁ (mkF m 7 #[vi p1, vu, vu] [xi ((p1 &&& (2147483647 : Int32)) - ((p1 &&& (2147483647 : Int32)) / (12 : Int32)) * (12 : Int32))]) _
    refine castTop (show (mkF m 7 #[vi p1, vu, vu] [xi ((p1 &&& (2147483647 : Int32)) - ((p1 &&& (2147483647 : Int32)) / (12 : Int32)) * (12 : Int32))]) = (mkF m 7 #[vi p1, vu, vu] [xi (0 : Int32)]) from by rw [as0]) ?_
    show own_S p e below s₁ (mkF m 7 #[vi p1, vu, vu] [xi (0 : Int32)]) _
    refine XS.istoreN X0.here hx rfl (hb hby at_7) rfl (l' := #[vi p1, vi (0 : Int32), vu]) rfl ?_
    show own_S p e below s₁ (mkF m 8 #[vi p1, vi (0 : Int32), vu] []) _
    refine XS.iloadN X0.here hx rfl (hb hby at_8) rfl ?_
    show own_S p e below s₁ (mkF m 9 #[vi p1, vi (0 : Int32), vu] [xi (0 : Int32)]) _
    refine st1 _ ?_
    show own_S p e below T1 (mkF m 12 #[vi p1, vi (0 : Int32), vu] [xr u0]) _
    refine XS.astoreN X1.here hx rfl (hb hby at_12) rfl rfl (l' := #[vi p1, vi (0 : Int32), vr u0]) rfl ?_
    show own_S p e below T1 (mkF m 13 #[vi p1, vi (0 : Int32), vr u0] []) _
    refine XS.aloadN X1.here hx rfl (hb hby at_13) rfl rfl ?_
    show own_S p e below T1 (mkF m 14 #[vi p1, vi (0 : Int32), vr u0] [xr u0]) _
    refine st2.trans ?_
    show own_S p e below T2 (mkF m 17 #[vi p1, vi (0 : Int32), vr u0] [xi (1 : Int32)]) _
    refine XS.iloadN X2.here hx rfl (hb hby at_17) rfl ?_
    show own_S p e below T2 (mkF m 18 #[vi p1, vi (0 : Int32), vr u0] [xi (0 : Int32), xi (1 : Int32)]) _
    refine st3 _ ?_
    show own_S p e below T3 (mkF m 21 #[vi p1, vi (0 : Int32), vr u0] [xi (1 : Int32), xi (1 : Int32)]) _
    refine XS.icmpNo X3.here hx rfl (hb hby at_21) rfl (by decide) ?_
    show own_S p e below T3 (mkF m 24 #[vi p1, vi (0 : Int32), vr u0] []) _
    refine XS.iconst X3.here hx rfl (hb hby at_24) ?_
    show own_S p e below T3 (mkF m 25 #[vi p1, vi (0 : Int32), vr u0] [xi (1 : Int32)]) _
    refine XS.goto X3.here hx rfl (pc0 := 25) (pc' := 29) rfl (hb hby at_25) (by decide) (by decide) ?_
    show own_S p e below T3 (mkF m 29 #[vi p1, vi (0 : Int32), vr u0] [xi (1 : Int32)]) _
    exact retN X3 hx (t := .boolean) Bd.returns (by simp) (hb hby at_29) hr
  · exact ⟨rfl, N3⟩
theorem d1_8 : decode method_2_code 8 = .ok (.iload_n 0, 1) := by decide +kernel
theorem d1_9 : decode method_2_code 9 = .ok (.iconst 1, 1) := by decide +kernel
theorem d1_10 : decode method_2_code 10 = .ok (.if_icmp .ne 7, 3) := by decide +kernel
theorem d1_13 : decode method_2_code 13 = .ok (.getstatic 13, 3) := by decide +kernel
theorem d1_16 : decode method_2_code 16 = .ok (.areturn, 1) := by decide +kernel
theorem ef_own_c4_pick (m : MethodId) (u0 u1 u2 u3 u4 u5 u6 u7 u8 u9 u10 u11 : Addr) : entryFrame m #[xi (1 : Int32)] 1 = (mkF m 0 #[vi (1 : Int32)] []) := by first | (simp [entryFrame, mkF, argsToLocals, Value.category]; done) | rfl
set_option maxRecDepth 65536 in
set_option maxHeartbeats 40000000 in
theorem own_c4_pick (l : Launch) (Z : State) (a0 : Array Value) (hw : ∀ d ∈ tables_1, d.before a0 Z = true) (u0 u1 u2 u3 u4 u5 u6 u7 u8 u9 u10 u11 : Addr) (G : own_St Z u0 u1 u2 u3 u4 u5 u6 u7 u8 u9 u10 u11) (h0 : Heap) (n0 : Nat) (O0 : Old Z n0 h0) : own_Met l Z Y0 method_2_code 1 (some (.object "com/example/mibwright/mibwright/mib/BaseType")) ({ frames := 0, cells := 0, slots := 0, locals := 0 } : Room) #[xi (1 : Int32)] h0 (own_QR (some (xr u7)) h0 n0) := by
  intro ws
  refine MetFree.of_bodySF (plainFor_of_name pn0) hisR ?_
  intro p e s m args below meth c s₁ Bd hml0 hP hK
  obtain ⟨rfl, hZ, hh⟩ := hP
  have hx := Bd.exec
  have hby := Bd.bytes
  have hml : c.maxLocals = 1 := hml0
  have hown : s.vm.findClass "com/example/mibwright/mibwright/mib/BaseTypeIsIntegerPinLaw" = some m.cls := findClass_of_methodNamed Bd.named
  have hnm := (name_of_methodNamed Bd.named Bd.method).1
  have X0 : Stand p l e ({ frames := 0, cells := 0, slots := 0, locals := 0 } : Room) s m #[xi (1 : Int32)] below meth c s₁ [] 0 0 := Stand.of_body Bd
  have e0 : s₁.heap = h0 := by rw [← hh, Bd.state]; rfl
  have N0 := Fr.nil n0
  have pre0 : ∀ t, Steps p.tables e below (s₁.setTop (mkF m 0 #[vi (1 : Int32)] [])) t → Steps p.tables e below (s₁.setTop (entryFrame m #[xi (1 : Int32)] 1)) t := fun t k => castTop (ef_own_c4_pick m u0 u1 u2 u3 u4 u5 u6 u7 u8 u9 u10 u11) k
  obtain ⟨T1, X1, e1, st1⟩ := getS2 X0 hx hZ hown (host := "") (Or.inl (ww hw 37 rfl)) Via.refl e0 ((own_S_u7 G).ext O0.2) (g := (mkF m 13 #[vi (1 : Int32)] [])) rfl (hb hby d1_13)
  obtain ⟨fs, hr, hrun, hended, hW, hsame⟩ := X1.leave (v := some (xr u7)) (fun h => by rw [Bd.returns] at h; cases h)
  refine ⟨_, _, pre0 _ ?_, hrun, hended, _, _, rfl, ?_, ⟨_, rfl⟩, hW, hsame.mono (by decide) (by decide)⟩
  · show own_S p e below s₁ (mkF m 0 #[vi (1 : Int32)] []) _
    refine XS.iloadN X0.here hx rfl (hb hby d1_0) rfl ?_
    show own_S p e below s₁ (mkF m 1 #[vi (1 : Int32)] [xi (1 : Int32)]) _
    refine XS.ifYes X0.here hx rfl (pc0 := 1) (pc' := 8) rfl (hb hby d1_1) rfl (by decide) (by decide) (by decide) ?_
    show own_S p e below s₁ (mkF m 8 #[vi (1 : Int32)] []) _
    refine XS.iloadN X0.here hx rfl (hb hby d1_8) rfl ?_
    show own_S p e below s₁ (mkF m 9 #[vi (1 : Int32)] [xi (1 : Int32)]) _
    refine XS.iconst X0.here hx rfl (hb hby d1_9) ?_
    show own_S p e below s₁ (mkF m 10 #[vi (1 : Int32)] [xi (1 : Int32), xi (1 : Int32)]) _
    refine XS.icmpNo X0.here hx rfl (hb hby d1_10) rfl (by decide) ?_
    show own_S p e below s₁ (mkF m 13 #[vi (1 : Int32)] []) _
    refine st1 _ ?_
    show own_S p e below T1 (mkF m 16 #[vi (1 : Int32)] [xr u7]) _
    exact X1.areturnOut hx rfl Bd.returns rfl (hb hby d1_16) hr
  · exact ⟨rfl, N0, e1⟩
theorem ef_own_c5_ordinal (m : MethodId) (u0 u1 u2 u3 u4 u5 u6 u7 u8 u9 u10 u11 : Addr) : entryFrame m #[xr u7] 1 = (mkF m 0 #[vr u7] []) := by first | (simp [entryFrame, mkF, argsToLocals, Value.category]; done) | rfl
set_option maxRecDepth 65536 in
set_option maxHeartbeats 40000000 in
theorem own_c5_ordinal (l : Launch) (Z : State) (a0 : Array Value) (hw : ∀ d ∈ tables_1, d.before a0 Z = true) (u0 u1 u2 u3 u4 u5 u6 u7 u8 u9 u10 u11 : Addr) (G : own_St Z u0 u1 u2 u3 u4 u5 u6 u7 u8 u9 u10 u11) (h0 : Heap) (n0 : Nat) (O0 : Old Z n0 h0) : own_Met l Z Y1 jdk_37_method_2_code 1 (some .int) ({ frames := 0, cells := 0, slots := 0, locals := 0 } : Room) #[xr u7] h0 (own_QR (some (xi (1 : Int32))) h0 n0) := by
  intro ws
  refine MetFree.of_bodySF (plainFor_of_name pn1) hisR ?_
  intro p e s m args below meth c s₁ Bd hml0 hP hK
  obtain ⟨rfl, hZ, hh⟩ := hP
  have hx := Bd.exec
  have hby := Bd.bytes
  have hml : c.maxLocals = 1 := hml0
  have hown : s.vm.findClass "java/lang/Enum" = some m.cls := findClass_of_methodNamed Bd.named
  have hnm := (name_of_methodNamed Bd.named Bd.method).1
  have X0 : Stand p l e ({ frames := 0, cells := 0, slots := 0, locals := 0 } : Room) s m #[xr u7] below meth c s₁ [] 0 0 := Stand.of_body Bd
  have e0 : s₁.heap = h0 := by rw [← hh, Bd.state]; rfl
  have N0 := Fr.nil n0
  have pre0 : ∀ t, Steps p.tables e below (s₁.setTop (mkF m 0 #[vr u7] [])) t → Steps p.tables e below (s₁.setTop (entryFrame m #[xr u7] 1)) t := fun t k => castTop (ef_own_c5_ordinal m u0 u1 u2 u3 u4 u5 u6 u7 u8 u9 u10 u11) k
  obtain ⟨T1, X1, e1, st1⟩ := getF X0 hx hZ hown (host := "") (Or.inl (ww hw 20 rfl)) Via.refl e0 ((own_F_u7_ordinal G).ext O0.2) (g := (mkF m 1 #[vr u7] [xr u7])) rfl rfl (hb hby d3_1)
  obtain ⟨fs, hr, hrun, hended, hW, hsame⟩ := X1.leave (v := some (xi (1 : Int32))) (fun h => by rw [Bd.returns] at h; cases h)
  refine ⟨_, _, pre0 _ ?_, hrun, hended, _, _, rfl, ?_, ⟨_, rfl⟩, hW, hsame.mono (by decide) (by decide)⟩
  · show own_S p e below s₁ (mkF m 0 #[vr u7] []) _
    refine XS.aloadN X0.here hx rfl (hb hby d3_0) rfl rfl ?_
    show own_S p e below s₁ (mkF m 1 #[vr u7] [xr u7]) _
    refine st1 _ ?_
    show own_S p e below T1 (mkF m 4 #[vr u7] [xi (1 : Int32)]) _
    exact retI X1 hx Bd.returns (hb hby d3_4) hr
  · exact ⟨rfl, N0, e1⟩
theorem ef_own_c5_isInteger (m : MethodId) (u0 u1 u2 u3 u4 u5 u6 u7 u8 u9 u10 u11 : Addr) : entryFrame m #[xr u7] 1 = (mkF m 0 #[vr u7] []) := by first | (simp [entryFrame, mkF, argsToLocals, Value.category]; done) | rfl
set_option maxRecDepth 65536 in
set_option maxHeartbeats 40000000 in
theorem own_c5_isInteger (l : Launch) (Z : State) (a0 : Array Value) (hw : ∀ d ∈ tables_1, d.before a0 Z = true) (u0 u1 u2 u3 u4 u5 u6 u7 u8 u9 u10 u11 : Addr) (G : own_St Z u0 u1 u2 u3 u4 u5 u6 u7 u8 u9 u10 u11) (h0 : Heap) (n0 : Nat) (O0 : Old Z n0 h0) : own_Met l Z Y3 prog_26_method_5_code 1 (some .boolean) ({ frames := 1, cells := 0, slots := 0, locals := 12 } : Room) #[xr u7] h0 (own_QR (some (xi (1 : Int32))) h0 n0) := by
  intro ws
  refine MetFree.of_bodySF (plainFor_of_name pn2) hisR ?_
  intro p e s m args below meth c s₁ Bd hml0 hP hK
  obtain ⟨rfl, hZ, hh⟩ := hP
  have hx := Bd.exec
  have hby := Bd.bytes
  have hml : c.maxLocals = 1 := hml0
  have hown : s.vm.findClass "com/example/mibwright/mibwright/mib/BaseType" = some m.cls := findClass_of_methodNamed Bd.named
  have hnm := (name_of_methodNamed Bd.named Bd.method).1
  have X0 : Stand p l e ({ frames := 1, cells := 0, slots := 0, locals := 12 } : Room) s m #[xr u7] below meth c s₁ [] 0 0 := Stand.of_body Bd
  have e0 : s₁.heap = h0 := by rw [← hh, Bd.state]; rfl
  have N0 := Fr.nil n0
  have pre0 : ∀ t, Steps p.tables e below (s₁.setTop (mkF m 0 #[vr u7] [])) t → Steps p.tables e below (s₁.setTop (entryFrame m #[xr u7] 1)) t := fun t k => castTop (ef_own_c5_isInteger m u0 u1 u2 u3 u4 u5 u6 u7 u8 u9 u10 u11) k
  obtain ⟨cq1, kq1, qa1, qb1, qc1⟩ := isOf hZ e0 ((own_X_u7 G).ext O0.2)
  obtain ⟨_, _, ⟨T1, L1, k1, n1⟩, -, X1, ⟨Lc1, hQ1, l1, y1, z1⟩, st1⟩ := X0.virtualBackUp hx (x := Y2) (y := Y1) hown (mvT hZ (ww hw 13 rfl)) (mvT hZ (ww hw 14 rfl)) (mvT hZ (ww hw 15 rfl)) (by decide) (mvT hZ (ww hw 17 rfl)) (mvT hZ (ww hw 16 rfl)) (backOf (W := 0) (own_c5_ordinal l Z a0 hw u0 u1 u2 u3 u4 u5 u6 u7 u8 u9 u10 u11 G h0 n0 O0 []) hZ (ww hw 19 rfl) (ww hw 18 rfl) (by decide) (by decide)) qa1 qc1 (g := (mkF m 1 #[vr u7] [xr u7])) rfl (by rw [hml]; rfl) (Steps.refl _) (argsL := []) (rest := []) (lenOf pd1 rfl) rfl (by show 2 * 0 + _ ≤ _; exact Nat.le_of_eq rfl) (hb hby d2_1) (fun _ _ => ⟨rfl, e0, (by decide : 0 + 0 ≤ _), (by decide : 0 + 0 ≤ _)⟩)
  dsimp only [Pt.U, Pt.locs, Pt.cells, Pt.slots] at X1 l1 y1 z1 st1 hQ1
  subst l1 y1 z1
  obtain ⟨rfl, Nq1, e1⟩ := hQ1
  have N1 := Fr.app N0 Nq1
  obtain ⟨fs, hr, hrun, hended, hW, hsame⟩ := X1.leave (v := some (xi (1 : Int32))) (fun h => by rw [Bd.returns] at h; cases h)
  refine ⟨_, _, pre0 _ ?_, hrun, hended, _, _, rfl, ?_, ⟨_, rfl⟩, hW, hsame.mono (by decide) (by decide)⟩
  · show own_S p e below s₁ (mkF m 0 #[vr u7] []) _
    refine XS.aloadN X0.here hx rfl (hb hby d2_0) rfl rfl ?_
    show own_S p e below s₁ (mkF m 1 #[vr u7] [xr u7]) _
    refine st1.trans ?_
    show own_S p e below T1 (mkF m 4 #[vr u7] [xi (1 : Int32)]) _
    refine XS.tswIn X1.here hx rfl (pc0 := 4) (pc' := 78) (o := 74) rfl (hb hby d2_4) rfl (by decide) (by decide) (by decide) (by decide) ?_
    show own_S p e below T1 (mkF m 78 #[vr u7] []) _
    refine XS.iconst X1.here hx rfl (hb hby d2_78) ?_
    show own_S p e below T1 (mkF m 79 #[vr u7] [xi (1 : Int32)]) _
    refine XS.goto X1.here hx rfl (pc0 := 79) (pc' := 83) rfl (hb hby d2_79) (by decide) (by decide) ?_
    show own_S p e below T1 (mkF m 83 #[vr u7] [xi (1 : Int32)]) _
    exact retN X1 hx (t := .boolean) Bd.returns (by simp) (hb hby d2_83) hr
  · exact ⟨rfl, N1, e1⟩
theorem ef_own_c7_holdsIntegers (m : MethodId) (u0 u1 u2 u3 u4 u5 u6 u7 u8 u9 u10 u11 : Addr) : entryFrame m #[xi (1 : Int32)] 1 = (mkF m 0 #[vi (1 : Int32)] []) := by first | (simp [entryFrame, mkF, argsToLocals, Value.category]; done) | rfl
set_option maxRecDepth 65536 in
set_option maxHeartbeats 40000000 in
theorem own_c7_holdsIntegers (l : Launch) (Z : State) (a0 : Array Value) (hw : ∀ d ∈ tables_1, d.before a0 Z = true) (u0 u1 u2 u3 u4 u5 u6 u7 u8 u9 u10 u11 : Addr) (G : own_St Z u0 u1 u2 u3 u4 u5 u6 u7 u8 u9 u10 u11) (h0 : Heap) (n0 : Nat) (O0 : Old Z n0 h0) : own_Met l Z Y4 method_3_code 1 (some .boolean) ({ frames := 0, cells := 0, slots := 0, locals := 0 } : Room) #[xi (1 : Int32)] h0 (own_QR (some (xi (1 : Int32))) h0 n0) := by
  intro ws
  refine MetFree.of_bodySF (plainFor_of_name pn0) hisR ?_
  intro p e s m args below meth c s₁ Bd hml0 hP hK
  obtain ⟨rfl, hZ, hh⟩ := hP
  have hx := Bd.exec
  have hby := Bd.bytes
  have hml : c.maxLocals = 1 := hml0
  have hown : s.vm.findClass "com/example/mibwright/mibwright/mib/BaseTypeIsIntegerPinLaw" = some m.cls := findClass_of_methodNamed Bd.named
  have hnm := (name_of_methodNamed Bd.named Bd.method).1
  have X0 : Stand p l e ({ frames := 0, cells := 0, slots := 0, locals := 0 } : Room) s m #[xi (1 : Int32)] below meth c s₁ [] 0 0 := Stand.of_body Bd
  have e0 : s₁.heap = h0 := by rw [← hh, Bd.state]; rfl
  have N0 := Fr.nil n0
  have pre0 : ∀ t, Steps p.tables e below (s₁.setTop (mkF m 0 #[vi (1 : Int32)] [])) t → Steps p.tables e below (s₁.setTop (entryFrame m #[xi (1 : Int32)] 1)) t := fun t k => castTop (ef_own_c7_holdsIntegers m u0 u1 u2 u3 u4 u5 u6 u7 u8 u9 u10 u11) k
  obtain ⟨fs, hr, hrun, hended, hW, hsame⟩ := X0.leave (v := some (xi (1 : Int32))) (fun h => by rw [Bd.returns] at h; cases h)
  refine ⟨_, _, pre0 _ ?_, hrun, hended, _, _, rfl, ?_, ⟨_, rfl⟩, hW, hsame.mono (by decide) (by decide)⟩
  · show own_S p e below s₁ (mkF m 0 #[vi (1 : Int32)] []) _
    refine XS.iloadN X0.here hx rfl (hb hby d4_0) rfl ?_
    show own_S p e below s₁ (mkF m 1 #[vi (1 : Int32)] [xi (1 : Int32)]) _
    refine XS.iconst X0.here hx rfl (hb hby d4_1) ?_
    show own_S p e below s₁ (mkF m 2 #[vi (1 : Int32)] [xi (2 : Int32), xi (1 : Int32)]) _
    refine XS.icmpNo X0.here hx rfl (hb hby d4_2) rfl (by decide) ?_
    show own_S p e below s₁ (mkF m 5 #[vi (1 : Int32)] []) _
    refine XS.iloadN X0.here hx rfl (hb hby d4_5) rfl ?_
    show own_S p e below s₁ (mkF m 6 #[vi (1 : Int32)] [xi (1 : Int32)]) _
    refine XS.iconst X0.here hx rfl (hb hby d4_6) ?_
    show own_S p e below s₁ (mkF m 7 #[vi (1 : Int32)] [xi (3 : Int32), xi (1 : Int32)]) _
    refine XS.icmpNo X0.here hx rfl (hb hby d4_7) rfl (by decide) ?_
    show own_S p e below s₁ (mkF m 10 #[vi (1 : Int32)] []) _
    refine XS.iloadN X0.here hx rfl (hb hby d4_10) rfl ?_
    show own_S p e below s₁ (mkF m 11 #[vi (1 : Int32)] [xi (1 : Int32)]) _
    refine XS.iconst X0.here hx rfl (hb hby d4_11) ?_
    show own_S p e below s₁ (mkF m 12 #[vi (1 : Int32)] [xi (4 : Int32), xi (1 : Int32)]) _
    refine XS.icmpNo X0.here hx rfl (hb hby d4_12) rfl (by decide) ?_
    show own_S p e below s₁ (mkF m 15 #[vi (1 : Int32)] []) _
    refine XS.iloadN X0.here hx rfl (hb hby d4_15) rfl ?_
    show own_S p e below s₁ (mkF m 16 #[vi (1 : Int32)] [xi (1 : Int32)]) _
    refine XS.iconst X0.here hx rfl (hb hby d4_16) ?_
    show own_S p e below s₁ (mkF m 17 #[vi (1 : Int32)] [xi (5 : Int32), xi (1 : Int32)]) _
    refine XS.icmpNo X0.here hx rfl (hb hby d4_17) rfl (by decide) ?_
    show own_S p e below s₁ (mkF m 20 #[vi (1 : Int32)] []) _
    refine XS.iloadN X0.here hx rfl (hb hby d4_20) rfl ?_
    show own_S p e below s₁ (mkF m 21 #[vi (1 : Int32)] [xi (1 : Int32)]) _
    refine XS.bipush X0.here hx rfl (hb hby d4_21) ?_
    show own_S p e below s₁ (mkF m 23 #[vi (1 : Int32)] [xi (9 : Int32), xi (1 : Int32)]) _
    refine XS.icmpYes X0.here hx rfl (pc0 := 23) (pc' := 28) rfl (hb hby d4_23) rfl (by decide) (by decide) (by decide) ?_
    show own_S p e below s₁ (mkF m 28 #[vi (1 : Int32)] []) _
    refine XS.iconst X0.here hx rfl (hb hby d4_28) ?_
    show own_S p e below s₁ (mkF m 29 #[vi (1 : Int32)] [xi (1 : Int32)]) _
    exact retN X0 hx (t := .boolean) Bd.returns (by simp) (hb hby d4_29) hr
  · exact ⟨rfl, N0, e0⟩
theorem ef_own_l1 (m : MethodId) (u0 u1 u2 u3 u4 u5 u6 u7 u8 u9 u10 u11 : Addr) (p1 : Int32) : entryFrame m #[xi p1] maxLocals = (mkF m 0 #[vi p1, vu, vu] []) := by first | (simp [entryFrame, mkF, argsToLocals, Value.category, maxLocals]; done) | rfl
set_option maxRecDepth 65536 in
set_option maxHeartbeats 40000000 in
theorem own_l1 (l : Launch) (Z : State) (a0 : Array Value) (hw : ∀ d ∈ tables_1, d.before a0 Z = true) (u0 u1 u2 u3 u4 u5 u6 u7 u8 u9 u10 u11 : Addr) (G : own_St Z u0 u1 u2 u3 u4 u5 u6 u7 u8 u9 u10 u11) (p1 : Int32) (as1 : ((p1 &&& (2147483647 : Int32)) - ((p1 &&& (2147483647 : Int32)) / (12 : Int32)) * (12 : Int32)) = (1 : Int32)) (h0 : Heap) (n0 : Nat) (O0 : Old Z n0 h0) : own_Met l Z x code maxLocals ret room_1 #[xi p1] h0 (own_QL (some (xi (1 : Int32))) n0) := by
  intro ws
  refine MetFree.of_bodySF (plainFor_of_name pn0) hisR ?_
  intro p e s m args below meth c s₁ Bd hml0 hP hK
  obtain ⟨rfl, hZ, hh⟩ := hP
  have hx := Bd.exec
  have hby := Bd.bytes
  have hml : c.maxLocals = 3 := hml0
  have hown : s.vm.findClass "com/example/mibwright/mibwright/mib/BaseTypeIsIntegerPinLaw" = some m.cls := findClass_of_methodNamed Bd.named
  have hnm := (name_of_methodNamed Bd.named Bd.method).1
  have X0 : Stand p l e room_1 s m #[xi p1] below meth c s₁ [] 0 0 := Stand.of_body Bd
  have e0 : s₁.heap = h0 := by rw [← hh, Bd.state]; rfl
  have N0 := Fr.nil n0
  have pre0 : ∀ t, Steps p.tables e below (s₁.setTop (mkF m 0 #[vi p1, vu, vu] [])) t → Steps p.tables e below (s₁.setTop (entryFrame m #[xi p1] maxLocals)) t := fun t k => castTop (ef_own_l1 m u0 u1 u2 u3 u4 u5 u6 u7 u8 u9 u10 u11 p1) k
  obtain ⟨_, _, ⟨T1, L1, k1, n1⟩, -, X1, ⟨Lc1, hQ1, l1, y1, z1⟩, st1⟩ := Jvm.LawKit.callS X0 hx (y := Y0) hown (mvT hZ (ww hw 1 rfl)) (mvT hZ (ww hw 2 rfl)) (mvT hZ (ww hw 3 rfl)) (mvT hZ (ww hw 4 rfl)) (by decide) (backOf (W := 0) (own_c4_pick l Z a0 hw u0 u1 u2 u3 u4 u5 u6 u7 u8 u9 u10 u11 G h0 n0 O0 []) hZ (ww hw 4 rfl) (ww hw 3 rfl) (by decide) (by decide)) (g := (mkF m 9 #[vi p1, vi (1 : Int32), vu] [xi (1 : Int32)])) rfl (by rw [hml]; rfl) (argsL := [xi (1 : Int32)]) (rest := []) (lenOf pd0 rfl) rfl (by show 2 * 0 + _ ≤ _; exact Nat.le_of_eq rfl) (hb hby at_9) (fun _ _ => ⟨rfl, e0, (by decide : 0 + 0 ≤ _), (by decide : 0 + 0 ≤ _)⟩)
  dsimp only [Pt.U, Pt.locs, Pt.cells, Pt.slots] at X1 l1 y1 z1 st1 hQ1
  subst l1 y1 z1
  obtain ⟨rfl, Nq1, e1⟩ := hQ1
  have N1 := Fr.app N0 Nq1
  obtain ⟨cq2, kq2, qa2, qb2, qc2⟩ := isOf hZ e1 ((own_X_u7 G).ext O0.2)
  obtain ⟨_, _, ⟨T2, L2, k2, n2⟩, -, X2, ⟨Lc2, hQ2, l2, y2, z2⟩, st2⟩ := X1.virtualBack hx (y := Y3) (z := Y3) hown (mvT hZ (ww hw 8 rfl)) (mvT hZ (ww hw 9 rfl)) (notFace_of_selects (args := #[]) (mvT hZ (ww hw 11 rfl))) (mvT hZ (ww hw 11 rfl)) (mvT hZ (ww hw 10 rfl)) (by decide) (backOf (W := 0) (own_c5_isInteger l Z a0 hw u0 u1 u2 u3 u4 u5 u6 u7 u8 u9 u10 u11 G h0 n0 O0 []) hZ (ww hw 12 rfl) (ww hw 6 rfl) (by decide) (by decide)) qa2 qc2 (g := (mkF m 14 #[vi p1, vi (1 : Int32), vr u7] [xr u7])) rfl (by rw [hml]; rfl) (Steps.refl _) (argsL := []) (rest := []) (lenOf pd2 rfl) rfl (by show 2 * 0 + _ ≤ _; exact Nat.le_of_eq rfl) (hb hby at_14) (fun _ _ => ⟨rfl, e1, (by decide : 0 + 0 ≤ _), (by decide : 0 + 0 ≤ _)⟩)
  dsimp only [Pt.U, Pt.locs, Pt.cells, Pt.slots] at X2 l2 y2 z2 st2 hQ2
  subst l2 y2 z2
  obtain ⟨rfl, Nq2, e2⟩ := hQ2
  have N2 := Fr.app N1 Nq2
  obtain ⟨_, _, ⟨T3, L3, k3, n3⟩, -, X3, ⟨Lc3, hQ3, l3, y3, z3⟩, st3⟩ := Jvm.LawKit.callS X2 hx (y := Y4) hown (mvT hZ (ww hw 22 rfl)) (mvT hZ (ww hw 23 rfl)) (mvT hZ (ww hw 3 rfl)) (mvT hZ (ww hw 24 rfl)) (by decide) (backOf (W := 1) (own_c7_holdsIntegers l Z a0 hw u0 u1 u2 u3 u4 u5 u6 u7 u8 u9 u10 u11 G h0 n0 O0 []) hZ (ww hw 24 rfl) (ww hw 3 rfl) (by decide) (by decide)) (g := (mkF m 18 #[vi p1, vi (1 : Int32), vr u7] [xi (1 : Int32), xi (1 : Int32)])) rfl (by rw [hml]; rfl) (argsL := [xi (1 : Int32)]) (rest := [xi (1 : Int32)]) (lenOf pd3 rfl) rfl (by show 2 * 0 + _ ≤ _; exact Nat.le_of_eq rfl) (hb hby at_18) (fun _ _ => ⟨rfl, e2, (by decide : 0 + 0 ≤ _), (by decide : 0 + 0 ≤ _)⟩)
  dsimp only [Pt.U, Pt.locs, Pt.cells, Pt.slots] at X3 l3 y3 z3 st3 hQ3
  subst l3 y3 z3
  obtain ⟨rfl, Nq3, e3⟩ := hQ3
  have N3 := Fr.app N2 Nq3
  obtain ⟨fs, hr, hrun, hended, hW, hsame⟩ := X3.leave (v := some (xi (1 : Int32))) (fun h => by rw [Bd.returns] at h; cases h)
  refine ⟨_, _, pre0 _ ?_, hrun, hended, _, _, rfl, ?_, ⟨_, rfl⟩, hW, hsame.mono (by decide) (by decide)⟩
  · show own_S p e below s₁ (mkF m 0 #[vi p1, vu, vu] []) _
    refine XS.iloadN X0.here hx rfl (hb hby at_0) rfl ?_
    show own_S p e below s₁ (mkF m 1 #[vi p1, vu, vu] [xi p1]) _
    refine X0.ldcI hx hown (mvT hZ (ww hw 0 rfl)) (g := (mkF m 1 #[vi p1, vu, vu] [xi p1])) rfl (hb hby at_1) ?_
    show own_S p e below s₁ (mkF m 3 #[vi p1, vu, vu] [xi (2147483647 : Int32), xi p1]) _
    refine XS.iand X0.here hx rfl (hb hby at_3) rfl ?_
    show own_S p e below s₁ (mkF m 4 #[vi p1, vu, vu] [xi (p1 &&& (2147483647 : Int32))]) _
    show own_S p e below s₁ (mkF m 4 #[vi p1, vu, vu] [xi (p1 &&& (2147483647 : Int32))]) _
    refine XS.bipush X0.here hx rfl (hb hby at_4) ?_
    show own_S p e below s₁ (mkF m 6 #[vi p1, vu, vu] [xi (12 : Int32), xi (p1 &&& (2147483647 : Int32))]) _
    refine XS.irem X0.here hx rfl (hb hby at_6) rfl (by decide) ?_
    show own_S p e below s₁ (mkF m 7 #[vi p1, vu, vu] [xi ((p1 &&& (2147483647 : Int32)) - ((p1 &&& (2147483647 : Int32)) / (12 : Int32)) * (12 : Int32))]) _
    refine castTop (show (mkF m 7 #[vi p1, vu, vu] [xi ((p1 &&& (2147483647 : Int32)) - ((p1 &&& (2147483647 : Int32)) / (12 : Int32)) * (12 : Int32))]) = (mkF m 7 #[vi p1, vu, vu] [xi (1 : Int32)]) from by rw [as1]) ?_
    show own_S p e below s₁ (mkF m 7 #[vi p1, vu, vu] [xi (1 : Int32)]) _
    refine XS.istoreN X0.here hx rfl (hb hby at_7) rfl (l' := #[vi p1, vi (1 : Int32), vu]) rfl ?_
    show own_S p e below s₁ (mkF m 8 #[vi p1, vi (1 : Int32), vu] []) _
    refine XS.iloadN X0.here hx rfl (hb hby at_8) rfl ?_
    show own_S p e below s₁ (mkF m 9 #[vi p1, vi (1 : Int32), vu] [xi (1 : Int32)]) _
    refine st1 _ ?_
    show own_S p e below T1 (mkF m 12 #[vi p1, vi (1 : Int32), vu] [xr u7]) _
    refine XS.astoreN X1.here hx rfl (hb hby at_12) rfl rfl (l' := #[vi p1, vi (1 : Int32), vr u7]) rfl ?_
    show own_S p e below T1 (mkF m 13 #[vi p1, vi (1 : Int32), vr u7] []) _
    refine XS.aloadN X1.here hx rfl (hb hby at_13) rfl rfl ?_
    show own_S p e below T1 (mkF m 14 #[vi p1, vi (1 : Int32), vr u7] [xr u7]) _
    refine st2.trans ?_
    show own_S p e below T2 (mkF m 17 #[vi p1, vi (1 : Int32), vr u7] [xi (1 : Int32)]) _
    refine XS.iloadN X2.here hx rfl (hb hby at_17) rfl ?_
    show own_S p e below T2 (mkF m 18 #[vi p1, vi (1 : Int32), vr u7] [xi (1 : Int32), xi (1 : Int32)]) _
    refine st3 _ ?_
    show own_S p e below T3 (mkF m 21 #[vi p1, vi (1 : Int32), vr u7] [xi (1 : Int32), xi (1 : Int32)]) _
    refine XS.icmpNo X3.here hx rfl (hb hby at_21) rfl (by decide) ?_
    show own_S p e below T3 (mkF m 24 #[vi p1, vi (1 : Int32), vr u7] []) _
    refine XS.iconst X3.here hx rfl (hb hby at_24) ?_
    show own_S p e below T3 (mkF m 25 #[vi p1, vi (1 : Int32), vr u7] [xi (1 : Int32)]) _
    refine XS.goto X3.here hx rfl (pc0 := 25) (pc' := 29) rfl (hb hby at_25) (by decide) (by decide) ?_
    show own_S p e below T3 (mkF m 29 #[vi p1, vi (1 : Int32), vr u7] [xi (1 : Int32)]) _
    exact retN X3 hx (t := .boolean) Bd.returns (by simp) (hb hby at_29) hr
  · exact ⟨rfl, N3⟩
theorem d1_17 : decode method_2_code 17 = .ok (.iload_n 0, 1) := by decide +kernel
theorem d1_18 : decode method_2_code 18 = .ok (.iconst 2, 1) := by decide +kernel
theorem d1_19 : decode method_2_code 19 = .ok (.if_icmp .ne 7, 3) := by decide +kernel
theorem d1_22 : decode method_2_code 22 = .ok (.getstatic 16, 3) := by decide +kernel
theorem d1_25 : decode method_2_code 25 = .ok (.areturn, 1) := by decide +kernel
theorem ef_own_c8_pick (m : MethodId) (u0 u1 u2 u3 u4 u5 u6 u7 u8 u9 u10 u11 : Addr) : entryFrame m #[xi (2 : Int32)] 1 = (mkF m 0 #[vi (2 : Int32)] []) := by first | (simp [entryFrame, mkF, argsToLocals, Value.category]; done) | rfl
set_option maxRecDepth 65536 in
set_option maxHeartbeats 40000000 in
theorem own_c8_pick (l : Launch) (Z : State) (a0 : Array Value) (hw : ∀ d ∈ tables_1, d.before a0 Z = true) (u0 u1 u2 u3 u4 u5 u6 u7 u8 u9 u10 u11 : Addr) (G : own_St Z u0 u1 u2 u3 u4 u5 u6 u7 u8 u9 u10 u11) (h0 : Heap) (n0 : Nat) (O0 : Old Z n0 h0) : own_Met l Z Y0 method_2_code 1 (some (.object "com/example/mibwright/mibwright/mib/BaseType")) ({ frames := 0, cells := 0, slots := 0, locals := 0 } : Room) #[xi (2 : Int32)] h0 (own_QR (some (xr u2)) h0 n0) := by
  intro ws
  refine MetFree.of_bodySF (plainFor_of_name pn0) hisR ?_
  intro p e s m args below meth c s₁ Bd hml0 hP hK
  obtain ⟨rfl, hZ, hh⟩ := hP
  have hx := Bd.exec
  have hby := Bd.bytes
  have hml : c.maxLocals = 1 := hml0
  have hown : s.vm.findClass "com/example/mibwright/mibwright/mib/BaseTypeIsIntegerPinLaw" = some m.cls := findClass_of_methodNamed Bd.named
  have hnm := (name_of_methodNamed Bd.named Bd.method).1
  have X0 : Stand p l e ({ frames := 0, cells := 0, slots := 0, locals := 0 } : Room) s m #[xi (2 : Int32)] below meth c s₁ [] 0 0 := Stand.of_body Bd
  have e0 : s₁.heap = h0 := by rw [← hh, Bd.state]; rfl
  have N0 := Fr.nil n0
  have pre0 : ∀ t, Steps p.tables e below (s₁.setTop (mkF m 0 #[vi (2 : Int32)] [])) t → Steps p.tables e below (s₁.setTop (entryFrame m #[xi (2 : Int32)] 1)) t := fun t k => castTop (ef_own_c8_pick m u0 u1 u2 u3 u4 u5 u6 u7 u8 u9 u10 u11) k
  obtain ⟨T1, X1, e1, st1⟩ := getS2 X0 hx hZ hown (host := "") (Or.inl (ww hw 27 rfl)) Via.refl e0 ((own_S_u2 G).ext O0.2) (g := (mkF m 22 #[vi (2 : Int32)] [])) rfl (hb hby d1_22)
  obtain ⟨fs, hr, hrun, hended, hW, hsame⟩ := X1.leave (v := some (xr u2)) (fun h => by rw [Bd.returns] at h; cases h)
  refine ⟨_, _, pre0 _ ?_, hrun, hended, _, _, rfl, ?_, ⟨_, rfl⟩, hW, hsame.mono (by decide) (by decide)⟩
  · show own_S p e below s₁ (mkF m 0 #[vi (2 : Int32)] []) _
    refine XS.iloadN X0.here hx rfl (hb hby d1_0) rfl ?_
    show own_S p e below s₁ (mkF m 1 #[vi (2 : Int32)] [xi (2 : Int32)]) _
    refine XS.ifYes X0.here hx rfl (pc0 := 1) (pc' := 8) rfl (hb hby d1_1) rfl (by decide) (by decide) (by decide) ?_
    show own_S p e below s₁ (mkF m 8 #[vi (2 : Int32)] []) _
    refine XS.iloadN X0.here hx rfl (hb hby d1_8) rfl ?_
    show own_S p e below s₁ (mkF m 9 #[vi (2 : Int32)] [xi (2 : Int32)]) _
    refine XS.iconst X0.here hx rfl (hb hby d1_9) ?_
    show own_S p e below s₁ (mkF m 10 #[vi (2 : Int32)] [xi (1 : Int32), xi (2 : Int32)]) _
    refine XS.icmpYes X0.here hx rfl (pc0 := 10) (pc' := 17) rfl (hb hby d1_10) rfl (by decide) (by decide) (by decide) ?_
    show own_S p e below s₁ (mkF m 17 #[vi (2 : Int32)] []) _
    refine XS.iloadN X0.here hx rfl (hb hby d1_17) rfl ?_
    show own_S p e below s₁ (mkF m 18 #[vi (2 : Int32)] [xi (2 : Int32)]) _
    refine XS.iconst X0.here hx rfl (hb hby d1_18) ?_
    show own_S p e below s₁ (mkF m 19 #[vi (2 : Int32)] [xi (2 : Int32), xi (2 : Int32)]) _
    refine XS.icmpNo X0.here hx rfl (hb hby d1_19) rfl (by decide) ?_
    show own_S p e below s₁ (mkF m 22 #[vi (2 : Int32)] []) _
    refine st1 _ ?_
    show own_S p e below T1 (mkF m 25 #[vi (2 : Int32)] [xr u2]) _
    exact X1.areturnOut hx rfl Bd.returns rfl (hb hby d1_25) hr
  · exact ⟨rfl, N0, e1⟩
theorem ef_own_c9_ordinal (m : MethodId) (u0 u1 u2 u3 u4 u5 u6 u7 u8 u9 u10 u11 : Addr) : entryFrame m #[xr u2] 1 = (mkF m 0 #[vr u2] []) := by first | (simp [entryFrame, mkF, argsToLocals, Value.category]; done) | rfl
set_option maxRecDepth 65536 in
set_option maxHeartbeats 40000000 in
theorem own_c9_ordinal (l : Launch) (Z : State) (a0 : Array Value) (hw : ∀ d ∈ tables_1, d.before a0 Z = true) (u0 u1 u2 u3 u4 u5 u6 u7 u8 u9 u10 u11 : Addr) (G : own_St Z u0 u1 u2 u3 u4 u5 u6 u7 u8 u9 u10 u11) (h0 : Heap) (n0 : Nat) (O0 : Old Z n0 h0) : own_Met l Z Y1 jdk_37_method_2_code 1 (some .int) ({ frames := 0, cells := 0, slots := 0, locals := 0 } : Room) #[xr u2] h0 (own_QR (some (xi (2 : Int32))) h0 n0) := by
  intro ws
  refine MetFree.of_bodySF (plainFor_of_name pn1) hisR ?_
  intro p e s m args below meth c s₁ Bd hml0 hP hK
  obtain ⟨rfl, hZ, hh⟩ := hP
  have hx := Bd.exec
  have hby := Bd.bytes
  have hml : c.maxLocals = 1 := hml0
  have hown : s.vm.findClass "java/lang/Enum" = some m.cls := findClass_of_methodNamed Bd.named
  have hnm := (name_of_methodNamed Bd.named Bd.method).1
  have X0 : Stand p l e ({ frames := 0, cells := 0, slots := 0, locals := 0 } : Room) s m #[xr u2] below meth c s₁ [] 0 0 := Stand.of_body Bd
  have e0 : s₁.heap = h0 := by rw [← hh, Bd.state]; rfl
  have N0 := Fr.nil n0
  have pre0 : ∀ t, Steps p.tables e below (s₁.setTop (mkF m 0 #[vr u2] [])) t → Steps p.tables e below (s₁.setTop (entryFrame m #[xr u2] 1)) t := fun t k => castTop (ef_own_c9_ordinal m u0 u1 u2 u3 u4 u5 u6 u7 u8 u9 u10 u11) k
  obtain ⟨T1, X1, e1, st1⟩ := getF X0 hx hZ hown (host := "") (Or.inl (ww hw 20 rfl)) Via.refl e0 ((own_F_u2_ordinal G).ext O0.2) (g := (mkF m 1 #[vr u2] [xr u2])) rfl rfl (hb hby d3_1)
  obtain ⟨fs, hr, hrun, hended, hW, hsame⟩ := X1.leave (v := some (xi (2 : Int32))) (fun h => by rw [Bd.returns] at h; cases h)
  refine ⟨_, _, pre0 _ ?_, hrun, hended, _, _, rfl, ?_, ⟨_, rfl⟩, hW, hsame.mono (by decide) (by decide)⟩
  · show own_S p e below s₁ (mkF m 0 #[vr u2] []) _
    refine XS.aloadN X0.here hx rfl (hb hby d3_0) rfl rfl ?_
    show own_S p e below s₁ (mkF m 1 #[vr u2] [xr u2]) _
    refine st1 _ ?_
    show own_S p e below T1 (mkF m 4 #[vr u2] [xi (2 : Int32)]) _
    exact retI X1 hx Bd.returns (hb hby d3_4) hr
  · exact ⟨rfl, N0, e1⟩
theorem d2_82 : decode prog_26_method_5_code 82 = .ok (.iconst 0, 1) := by decide +kernel
theorem ef_own_c9_isInteger (m : MethodId) (u0 u1 u2 u3 u4 u5 u6 u7 u8 u9 u10 u11 : Addr) : entryFrame m #[xr u2] 1 = (mkF m 0 #[vr u2] []) := by first | (simp [entryFrame, mkF, argsToLocals, Value.category]; done) | rfl
set_option maxRecDepth 65536 in
set_option maxHeartbeats 40000000 in
theorem own_c9_isInteger (l : Launch) (Z : State) (a0 : Array Value) (hw : ∀ d ∈ tables_1, d.before a0 Z = true) (u0 u1 u2 u3 u4 u5 u6 u7 u8 u9 u10 u11 : Addr) (G : own_St Z u0 u1 u2 u3 u4 u5 u6 u7 u8 u9 u10 u11) (h0 : Heap) (n0 : Nat) (O0 : Old Z n0 h0) : own_Met l Z Y3 prog_26_method_5_code 1 (some .boolean) ({ frames := 1, cells := 0, slots := 0, locals := 12 } : Room) #[xr u2] h0 (own_QR (some (xi (0 : Int32))) h0 n0) := by
  intro ws
  refine MetFree.of_bodySF (plainFor_of_name pn2) hisR ?_
  intro p e s m args below meth c s₁ Bd hml0 hP hK
  obtain ⟨rfl, hZ, hh⟩ := hP
  have hx := Bd.exec
  have hby := Bd.bytes
  have hml : c.maxLocals = 1 := hml0
  have hown : s.vm.findClass "com/example/mibwright/mibwright/mib/BaseType" = some m.cls := findClass_of_methodNamed Bd.named
  have hnm := (name_of_methodNamed Bd.named Bd.method).1
  have X0 : Stand p l e ({ frames := 1, cells := 0, slots := 0, locals := 12 } : Room) s m #[xr u2] below meth c s₁ [] 0 0 := Stand.of_body Bd
  have e0 : s₁.heap = h0 := by rw [← hh, Bd.state]; rfl
  have N0 := Fr.nil n0
  have pre0 : ∀ t, Steps p.tables e below (s₁.setTop (mkF m 0 #[vr u2] [])) t → Steps p.tables e below (s₁.setTop (entryFrame m #[xr u2] 1)) t := fun t k => castTop (ef_own_c9_isInteger m u0 u1 u2 u3 u4 u5 u6 u7 u8 u9 u10 u11) k
  obtain ⟨cq1, kq1, qa1, qb1, qc1⟩ := isOf hZ e0 ((own_X_u2 G).ext O0.2)
  obtain ⟨_, _, ⟨T1, L1, k1, n1⟩, -, X1, ⟨Lc1, hQ1, l1, y1, z1⟩, st1⟩ := X0.virtualBackUp hx (x := Y2) (y := Y1) hown (mvT hZ (ww hw 13 rfl)) (mvT hZ (ww hw 14 rfl)) (mvT hZ (ww hw 15 rfl)) (by decide) (mvT hZ (ww hw 17 rfl)) (mvT hZ (ww hw 16 rfl)) (backOf (W := 0) (own_c9_ordinal l Z a0 hw u0 u1 u2 u3 u4 u5 u6 u7 u8 u9 u10 u11 G h0 n0 O0 []) hZ (ww hw 19 rfl) (ww hw 18 rfl) (by decide) (by decide)) qa1 qc1 (g := (mkF m 1 #[vr u2] [xr u2])) rfl (by rw [hml]; rfl) (Steps.refl _) (argsL := []) (rest := []) (lenOf pd1 rfl) rfl (by show 2 * 0 + _ ≤ _; exact Nat.le_of_eq rfl) (hb hby d2_1) (fun _ _ => ⟨rfl, e0, (by decide : 0 + 0 ≤ _), (by decide : 0 + 0 ≤ _)⟩)
  dsimp only [Pt.U, Pt.locs, Pt.cells, Pt.slots] at X1 l1 y1 z1 st1 hQ1
  subst l1 y1 z1
  obtain ⟨rfl, Nq1, e1⟩ := hQ1
  have N1 := Fr.app N0 Nq1
  obtain ⟨fs, hr, hrun, hended, hW, hsame⟩ := X1.leave (v := some (xi (0 : Int32))) (fun h => by rw [Bd.returns] at h; cases h)
  refine ⟨_, _, pre0 _ ?_, hrun, hended, _, _, rfl, ?_, ⟨_, rfl⟩, hW, hsame.mono (by decide) (by decide)⟩
  · show own_S p e below s₁ (mkF m 0 #[vr u2] []) _
    refine XS.aloadN X0.here hx rfl (hb hby d2_0) rfl rfl ?_
    show own_S p e below s₁ (mkF m 1 #[vr u2] [xr u2]) _
    refine st1.trans ?_
    show own_S p e below T1 (mkF m 4 #[vr u2] [xi (2 : Int32)]) _
    refine XS.tswIn X1.here hx rfl (pc0 := 4) (pc' := 82) (o := 78) rfl (hb hby d2_4) rfl (by decide) (by decide) (by decide) (by decide) ?_
    show own_S p e below T1 (mkF m 82 #[vr u2] []) _
    refine XS.iconst X1.here hx rfl (hb hby d2_82) ?_
    show own_S p e below T1 (mkF m 83 #[vr u2] [xi (0 : Int32)]) _
    exact retN X1 hx (t := .boolean) Bd.returns (by simp) (hb hby d2_83) hr
  · exact ⟨rfl, N1, e1⟩
theorem d4_26 : decode method_3_code 26 = .ok (.iconst 0, 1) := by decide +kernel
theorem d4_27 : decode method_3_code 27 = .ok (.ireturn, 1) := by decide +kernel
theorem ef_own_c11_holdsIntegers (m : MethodId) (u0 u1 u2 u3 u4 u5 u6 u7 u8 u9 u10 u11 : Addr) : entryFrame m #[xi (2 : Int32)] 1 = (mkF m 0 #[vi (2 : Int32)] []) := by first | (simp [entryFrame, mkF, argsToLocals, Value.category]; done) | rfl
set_option maxRecDepth 65536 in
set_option maxHeartbeats 40000000 in
theorem own_c11_holdsIntegers (l : Launch) (Z : State) (a0 : Array Value) (hw : ∀ d ∈ tables_1, d.before a0 Z = true) (u0 u1 u2 u3 u4 u5 u6 u7 u8 u9 u10 u11 : Addr) (G : own_St Z u0 u1 u2 u3 u4 u5 u6 u7 u8 u9 u10 u11) (h0 : Heap) (n0 : Nat) (O0 : Old Z n0 h0) : own_Met l Z Y4 method_3_code 1 (some .boolean) ({ frames := 0, cells := 0, slots := 0, locals := 0 } : Room) #[xi (2 : Int32)] h0 (own_QR (some (xi (0 : Int32))) h0 n0) := by
  intro ws
  refine MetFree.of_bodySF (plainFor_of_name pn0) hisR ?_
  intro p e s m args below meth c s₁ Bd hml0 hP hK
  obtain ⟨rfl, hZ, hh⟩ := hP
  have hx := Bd.exec
  have hby := Bd.bytes
  have hml : c.maxLocals = 1 := hml0
  have hown : s.vm.findClass "com/example/mibwright/mibwright/mib/BaseTypeIsIntegerPinLaw" = some m.cls := findClass_of_methodNamed Bd.named
  have hnm := (name_of_methodNamed Bd.named Bd.method).1
  have X0 : Stand p l e ({ frames := 0, cells := 0, slots := 0, locals := 0 } : Room) s m #[xi (2 : Int32)] below meth c s₁ [] 0 0 := Stand.of_body Bd
  have e0 : s₁.heap = h0 := by rw [← hh, Bd.state]; rfl
  have N0 := Fr.nil n0
  have pre0 : ∀ t, Steps p.tables e below (s₁.setTop (mkF m 0 #[vi (2 : Int32)] [])) t → Steps p.tables e below (s₁.setTop (entryFrame m #[xi (2 : Int32)] 1)) t := fun t k => castTop (ef_own_c11_holdsIntegers m u0 u1 u2 u3 u4 u5 u6 u7 u8 u9 u10 u11) k
  obtain ⟨fs, hr, hrun, hended, hW, hsame⟩ := X0.leave (v := some (xi (0 : Int32))) (fun h => by rw [Bd.returns] at h; cases h)
  refine ⟨_, _, pre0 _ ?_, hrun, hended, _, _, rfl, ?_, ⟨_, rfl⟩, hW, hsame.mono (by decide) (by decide)⟩
  · show own_S p e below s₁ (mkF m 0 #[vi (2 : Int32)] []) _
    refine XS.iloadN X0.here hx rfl (hb hby d4_0) rfl ?_
    show own_S p e below s₁ (mkF m 1 #[vi (2 : Int32)] [xi (2 : Int32)]) _
    refine XS.iconst X0.here hx rfl (hb hby d4_1) ?_
    show own_S p e below s₁ (mkF m 2 #[vi (2 : Int32)] [xi (2 : Int32), xi (2 : Int32)]) _
    refine XS.icmpYes X0.here hx rfl (pc0 := 2) (pc' := 26) rfl (hb hby d4_2) rfl (by decide) (by decide) (by decide) ?_
    show own_S p e below s₁ (mkF m 26 #[vi (2 : Int32)] []) _
    refine XS.iconst X0.here hx rfl (hb hby d4_26) ?_
    show own_S p e below s₁ (mkF m 27 #[vi (2 : Int32)] [xi (0 : Int32)]) _
    exact retN X0 hx (t := .boolean) Bd.returns (by simp) (hb hby d4_27) hr
  · exact ⟨rfl, N0, e0⟩
theorem ef_own_l2 (m : MethodId) (u0 u1 u2 u3 u4 u5 u6 u7 u8 u9 u10 u11 : Addr) (p1 : Int32) : entryFrame m #[xi p1] maxLocals = (mkF m 0 #[vi p1, vu, vu] []) := by first | (simp [entryFrame, mkF, argsToLocals, Value.category, maxLocals]; done) | rfl
set_option maxRecDepth 65536 in
set_option maxHeartbeats 40000000 in
theorem own_l2 (l : Launch) (Z : State) (a0 : Array Value) (hw : ∀ d ∈ tables_1, d.before a0 Z = true) (u0 u1 u2 u3 u4 u5 u6 u7 u8 u9 u10 u11 : Addr) (G : own_St Z u0 u1 u2 u3 u4 u5 u6 u7 u8 u9 u10 u11) (p1 : Int32) (as2 : ((p1 &&& (2147483647 : Int32)) - ((p1 &&& (2147483647 : Int32)) / (12 : Int32)) * (12 : Int32)) = (2 : Int32)) (h0 : Heap) (n0 : Nat) (O0 : Old Z n0 h0) : own_Met l Z x code maxLocals ret room_1 #[xi p1] h0 (own_QL (some (xi (1 : Int32))) n0) := by
  intro ws
  refine MetFree.of_bodySF (plainFor_of_name pn0) hisR ?_
  intro p e s m args below meth c s₁ Bd hml0 hP hK
  obtain ⟨rfl, hZ, hh⟩ := hP
  have hx := Bd.exec
  have hby := Bd.bytes
  have hml : c.maxLocals = 3 := hml0
  have hown : s.vm.findClass "com/example/mibwright/mibwright/mib/BaseTypeIsIntegerPinLaw" = some m.cls := findClass_of_methodNamed Bd.named
  have hnm := (name_of_methodNamed Bd.named Bd.method).1
  have X0 : Stand p l e room_1 s m #[xi p1] below meth c s₁ [] 0 0 := Stand.of_body Bd
  have e0 : s₁.heap = h0 := by rw [← hh, Bd.state]; rfl
  have N0 := Fr.nil n0
  have pre0 : ∀ t, Steps p.tables e below (s₁.setTop (mkF m 0 #[vi p1, vu, vu] [])) t → Steps p.tables e below (s₁.setTop (entryFrame m #[xi p1] maxLocals)) t := fun t k => castTop (ef_own_l2 m u0 u1 u2 u3 u4 u5 u6 u7 u8 u9 u10 u11 p1) k
  obtain ⟨_, _, ⟨T1, L1, k1, n1⟩, -, X1, ⟨Lc1, hQ1, l1, y1, z1⟩, st1⟩ := Jvm.LawKit.callS X0 hx (y := Y0) hown (mvT hZ (ww hw 1 rfl)) (mvT hZ (ww hw 2 rfl)) (mvT hZ (ww hw 3 rfl)) (mvT hZ (ww hw 4 rfl)) (by decide) (backOf (W := 0) (own_c8_pick l Z a0 hw u0 u1 u2 u3 u4 u5 u6 u7 u8 u9 u10 u11 G h0 n0 O0 []) hZ (ww hw 4 rfl) (ww hw 3 rfl) (by decide) (by decide)) (g := (mkF m 9 #[vi p1, vi (2 : Int32), vu] [xi (2 : Int32)])) rfl (by rw [hml]; rfl) (argsL := [xi (2 : Int32)]) (rest := []) (lenOf pd0 rfl) rfl (by show 2 * 0 + _ ≤ _; exact Nat.le_of_eq rfl) (hb hby at_9) (fun _ _ => ⟨rfl, e0, (by decide : 0 + 0 ≤ _), (by decide : 0 + 0 ≤ _)⟩)
  dsimp only [Pt.U, Pt.locs, Pt.cells, Pt.slots] at X1 l1 y1 z1 st1 hQ1
  subst l1 y1 z1
  obtain ⟨rfl, Nq1, e1⟩ := hQ1
  have N1 := Fr.app N0 Nq1
  obtain ⟨cq2, kq2, qa2, qb2, qc2⟩ := isOf hZ e1 ((own_X_u2 G).ext O0.2)
  obtain ⟨_, _, ⟨T2, L2, k2, n2⟩, -, X2, ⟨Lc2, hQ2, l2, y2, z2⟩, st2⟩ := X1.virtualBack hx (y := Y3) (z := Y3) hown (mvT hZ (ww hw 8 rfl)) (mvT hZ (ww hw 9 rfl)) (notFace_of_selects (args := #[]) (mvT hZ (ww hw 11 rfl))) (mvT hZ (ww hw 11 rfl)) (mvT hZ (ww hw 10 rfl)) (by decide) (backOf (W := 0) (own_c9_isInteger l Z a0 hw u0 u1 u2 u3 u4 u5 u6 u7 u8 u9 u10 u11 G h0 n0 O0 []) hZ (ww hw 12 rfl) (ww hw 6 rfl) (by decide) (by decide)) qa2 qc2 (g := (mkF m 14 #[vi p1, vi (2 : Int32), vr u2] [xr u2])) rfl (by rw [hml]; rfl) (Steps.refl _) (argsL := []) (rest := []) (lenOf pd2 rfl) rfl (by show 2 * 0 + _ ≤ _; exact Nat.le_of_eq rfl) (hb hby at_14) (fun _ _ => ⟨rfl, e1, (by decide : 0 + 0 ≤ _), (by decide : 0 + 0 ≤ _)⟩)
  dsimp only [Pt.U, Pt.locs, Pt.cells, Pt.slots] at X2 l2 y2 z2 st2 hQ2
  subst l2 y2 z2
  obtain ⟨rfl, Nq2, e2⟩ := hQ2
  have N2 := Fr.app N1 Nq2
  obtain ⟨_, _, ⟨T3, L3, k3, n3⟩, -, X3, ⟨Lc3, hQ3, l3, y3, z3⟩, st3⟩ := Jvm.LawKit.callS X2 hx (y := Y4) hown (mvT hZ (ww hw 22 rfl)) (mvT hZ (ww hw 23 rfl)) (mvT hZ (ww hw 3 rfl)) (mvT hZ (ww hw 24 rfl)) (by decide) (backOf (W := 1) (own_c11_holdsIntegers l Z a0 hw u0 u1 u2 u3 u4 u5 u6 u7 u8 u9 u10 u11 G h0 n0 O0 []) hZ (ww hw 24 rfl) (ww hw 3 rfl) (by decide) (by decide)) (g := (mkF m 18 #[vi p1, vi (2 : Int32), vr u2] [xi (2 : Int32), xi (0 : Int32)])) rfl (by rw [hml]; rfl) (argsL := [xi (2 : Int32)]) (rest := [xi (0 : Int32)]) (lenOf pd3 rfl) rfl (by show 2 * 0 + _ ≤ _; exact Nat.le_of_eq rfl) (hb hby at_18) (fun _ _ => ⟨rfl, e2, (by decide : 0 + 0 ≤ _), (by decide : 0 + 0 ≤ _)⟩)
  dsimp only [Pt.U, Pt.locs, Pt.cells, Pt.slots] at X3 l3 y3 z3 st3 hQ3
  subst l3 y3 z3
  obtain ⟨rfl, Nq3, e3⟩ := hQ3
  have N3 := Fr.app N2 Nq3
  obtain ⟨fs, hr, hrun, hended, hW, hsame⟩ := X3.leave (v := some (xi (1 : Int32))) (fun h => by rw [Bd.returns] at h; cases h)
  refine ⟨_, _, pre0 _ ?_, hrun, hended, _, _, rfl, ?_, ⟨_, rfl⟩, hW, hsame.mono (by decide) (by decide)⟩
  · show own_S p e below s₁ (mkF m 0 #[vi p1, vu, vu] []) _
    refine XS.iloadN X0.here hx rfl (hb hby at_0) rfl ?_
    show own_S p e below s₁ (mkF m 1 #[vi p1, vu, vu] [xi p1]) _
    refine X0.ldcI hx hown (mvT hZ (ww hw 0 rfl)) (g := (mkF m 1 #[vi p1, vu, vu] [xi p1])) rfl (hb hby at_1) ?_
    show own_S p e below s₁ (mkF m 3 #[vi p1, vu, vu] [xi (2147483647 : Int32), xi p1]) _
    refine XS.iand X0.here hx rfl (hb hby at_3) rfl ?_
    show own_S p e below s₁ (mkF m 4 #[vi p1, vu, vu] [xi (p1 &&& (2147483647 : Int32))]) _
    show own_S p e below s₁ (mkF m 4 #[vi p1, vu, vu] [xi (p1 &&& (2147483647 : Int32))]) _
    refine XS.bipush X0.here hx rfl (hb hby at_4) ?_
    show own_S p e below s₁ (mkF m 6 #[vi p1, vu, vu] [xi (12 : Int32), xi (p1 &&& (2147483647 : Int32))]) _
    refine XS.irem X0.here hx rfl (hb hby at_6) rfl (by decide) ?_
    show own_S p e below s₁ (mkF m 7 #[vi p1, vu, vu] [xi ((p1 &&& (2147483647 : Int32)) - ((p1 &&& (2147483647 : Int32)) / (12 : Int32)) * (12 : Int32))]) _
    refine castTop (show (mkF m 7 #[vi p1, vu, vu] [xi ((p1 &&& (2147483647 : Int32)) - ((p1 &&& (2147483647 : Int32)) / (12 : Int32)) * (12 : Int32))]) = (mkF m 7 #[vi p1, vu, vu] [xi (2 : Int32)]) from by rw [as2]) ?_
    show own_S p e below s₁ (mkF m 7 #[vi p1, vu, vu] [xi (2 : Int32)]) _
    refine XS.istoreN X0.here hx rfl (hb hby at_7) rfl (l' := #[vi p1, vi (2 : Int32), vu]) rfl ?_
    show own_S p e below s₁ (mkF m 8 #[vi p1, vi (2 : Int32), vu] []) _
    refine XS.iloadN X0.here hx rfl (hb hby at_8) rfl ?_
    show own_S p e below s₁ (mkF m 9 #[vi p1, vi (2 : Int32), vu] [xi (2 : Int32)]) _
    refine st1 _ ?_
    show own_S p e below T1 (mkF m 12 #[vi p1, vi (2 : Int32), vu] [xr u2]) _
    refine XS.astoreN X1.here hx rfl (hb hby at_12) rfl rfl (l' := #[vi p1, vi (2 : Int32), vr u2]) rfl ?_
    show own_S p e below T1 (mkF m 13 #[vi p1, vi (2 : Int32), vr u2] []) _
    refine XS.aloadN X1.here hx rfl (hb hby at_13) rfl rfl ?_
    show own_S p e below T1 (mkF m 14 #[vi p1, vi (2 : Int32), vr u2] [xr u2]) _
    refine st2.trans ?_
    show own_S p e below T2 (mkF m 17 #[vi p1, vi (2 : Int32), vr u2] [xi (0 : Int32)]) _
    refine XS.iloadN X2.here hx rfl (hb hby at_17) rfl ?_
    show own_S p e below T2 (mkF m 18 #[vi p1, vi (2 : Int32), vr u2] [xi (2 : Int32), xi (0 : Int32)]) _
    refine st3 _ ?_
    show own_S p e below T3 (mkF m 21 #[vi p1, vi (2 : Int32), vr u2] [xi (0 : Int32), xi (0 : Int32)]) _
    refine XS.icmpNo X3.here hx rfl (hb hby at_21) rfl (by decide) ?_
    show own_S p e below T3 (mkF m 24 #[vi p1, vi (2 : Int32), vr u2] []) _
    refine XS.iconst X3.here hx rfl (hb hby at_24) ?_
    show own_S p e below T3 (mkF m 25 #[vi p1, vi (2 : Int32), vr u2] [xi (1 : Int32)]) _
    refine XS.goto X3.here hx rfl (pc0 := 25) (pc' := 29) rfl (hb hby at_25) (by decide) (by decide) ?_
    show own_S p e below T3 (mkF m 29 #[vi p1, vi (2 : Int32), vr u2] [xi (1 : Int32)]) _
    exact retN X3 hx (t := .boolean) Bd.returns (by simp) (hb hby at_29) hr
  · exact ⟨rfl, N3⟩
theorem d1_26 : decode method_2_code 26 = .ok (.iload_n 0, 1) := by decide +kernel
theorem d1_27 : decode method_2_code 27 = .ok (.iconst 3, 1) := by decide +kernel
theorem d1_28 : decode method_2_code 28 = .ok (.if_icmp .ne 7, 3) := by decide +kernel
theorem d1_31 : decode method_2_code 31 = .ok (.getstatic 19, 3) := by decide +kernel
theorem d1_34 : decode method_2_code 34 = .ok (.areturn, 1) := by decide +kernel
theorem ef_own_c12_pick (m : MethodId) (u0 u1 u2 u3 u4 u5 u6 u7 u8 u9 u10 u11 : Addr) : entryFrame m #[xi (3 : Int32)] 1 = (mkF m 0 #[vi (3 : Int32)] []) := by first | (simp [entryFrame, mkF, argsToLocals, Value.category]; done) | rfl
set_option maxRecDepth 65536 in
set_option maxHeartbeats 40000000 in
theorem own_c12_pick (l : Launch) (Z : State) (a0 : Array Value) (hw : ∀ d ∈ tables_1, d.before a0 Z = true) (u0 u1 u2 u3 u4 u5 u6 u7 u8 u9 u10 u11 : Addr) (G : own_St Z u0 u1 u2 u3 u4 u5 u6 u7 u8 u9 u10 u11) (h0 : Heap) (n0 : Nat) (O0 : Old Z n0 h0) : own_Met l Z Y0 method_2_code 1 (some (.object "com/example/mibwright/mibwright/mib/BaseType")) ({ frames := 0, cells := 0, slots := 0, locals := 0 } : Room) #[xi (3 : Int32)] h0 (own_QR (some (xr u1)) h0 n0) := by
  intro ws
  refine MetFree.of_bodySF (plainFor_of_name pn0) hisR ?_
  intro p e s m args below meth c s₁ Bd hml0 hP hK
  obtain ⟨rfl, hZ, hh⟩ := hP
  have hx := Bd.exec
  have hby := Bd.bytes
  have hml : c.maxLocals = 1 := hml0
  have hown : s.vm.findClass "com/example/mibwright/mibwright/mib/BaseTypeIsIntegerPinLaw" = some m.cls := findClass_of_methodNamed Bd.named
  have hnm := (name_of_methodNamed Bd.named Bd.method).1
  have X0 : Stand p l e ({ frames := 0, cells := 0, slots := 0, locals := 0 } : Room) s m #[xi (3 : Int32)] below meth c s₁ [] 0 0 := Stand.of_body Bd
  have e0 : s₁.heap = h0 := by rw [← hh, Bd.state]; rfl
  have N0 := Fr.nil n0
  have pre0 : ∀ t, Steps p.tables e below (s₁.setTop (mkF m 0 #[vi (3 : Int32)] [])) t → Steps p.tables e below (s₁.setTop (entryFrame m #[xi (3 : Int32)] 1)) t := fun t k => castTop (ef_own_c12_pick m u0 u1 u2 u3 u4 u5 u6 u7 u8 u9 u10 u11) k
  obtain ⟨T1, X1, e1, st1⟩ := getS2 X0 hx hZ hown (host := "") (Or.inl (ww hw 25 rfl)) Via.refl e0 ((own_S_u1 G).ext O0.2) (g := (mkF m 31 #[vi (3 : Int32)] [])) rfl (hb hby d1_31)
  obtain ⟨fs, hr, hrun, hended, hW, hsame⟩ := X1.leave (v := some (xr u1)) (fun h => by rw [Bd.returns] at h; cases h)
  refine ⟨_, _, pre0 _ ?_, hrun, hended, _, _, rfl, ?_, ⟨_, rfl⟩, hW, hsame.mono (by decide) (by decide)⟩
  · show own_S p e below s₁ (mkF m 0 #[vi (3 : Int32)] []) _
    refine XS.iloadN X0.here hx rfl (hb hby d1_0) rfl ?_
    show own_S p e below s₁ (mkF m 1 #[vi (3 : Int32)] [xi (3 : Int32)]) _
    refine XS.ifYes X0.here hx rfl (pc0 := 1) (pc' := 8) rfl (hb hby d1_1) rfl (by decide) (by decide) (by decide) ?_
    show own_S p e below s₁ (mkF m 8 #[vi (3 : Int32)] []) _
    refine XS.iloadN X0.here hx rfl (hb hby d1_8) rfl ?_
    show own_S p e below s₁ (mkF m 9 #[vi (3 : Int32)] [xi (3 : Int32)]) _
    refine XS.iconst X0.here hx rfl (hb hby d1_9) ?_
    show own_S p e below s₁ (mkF m 10 #[vi (3 : Int32)] [xi (1 : Int32), xi (3 : Int32)]) _
    refine XS.icmpYes X0.here hx rfl (pc0 := 10) (pc' := 17) rfl (hb hby d1_10) rfl (by decide) (by decide) (by decide) ?_
    show own_S p e below s₁ (mkF m 17 #[vi (3 : Int32)] []) _
    refine XS.iloadN X0.here hx rfl (hb hby d1_17) rfl ?_
    show own_S p e below s₁ (mkF m 18 #[vi (3 : Int32)] [xi (3 : Int32)]) _
    refine XS.iconst X0.here hx rfl (hb hby d1_18) ?_
    show own_S p e below s₁ (mkF m 19 #[vi (3 : Int32)] [xi (2 : Int32), xi (3 : Int32)]) _
    refine XS.icmpYes X0.here hx rfl (pc0 := 19) (pc' := 26) rfl (hb hby d1_19) rfl (by decide) (by decide) (by decide) ?_
    show own_S p e below s₁ (mkF m 26 #[vi (3 : Int32)] []) _
    refine XS.iloadN X0.here hx rfl (hb hby d1_26) rfl ?_
    show own_S p e below s₁ (mkF m 27 #[vi (3 : Int32)] [xi (3 : Int32)]) _
    refine XS.iconst X0.here hx rfl (hb hby d1_27) ?_
    show own_S p e below s₁ (mkF m 28 #[vi (3 : Int32)] [xi (3 : Int32), xi (3 : Int32)]) _
    refine XS.icmpNo X0.here hx rfl (hb hby d1_28) rfl (by decide) ?_
    show own_S p e below s₁ (mkF m 31 #[vi (3 : Int32)] []) _
    refine st1 _ ?_
    show own_S p e below T1 (mkF m 34 #[vi (3 : Int32)] [xr u1]) _
    exact X1.areturnOut hx rfl Bd.returns rfl (hb hby d1_34) hr
  · exact ⟨rfl, N0, e1⟩
theorem ef_own_c13_ordinal (m : MethodId) (u0 u1 u2 u3 u4 u5 u6 u7 u8 u9 u10 u11 : Addr) : entryFrame m #[xr u1] 1 = (mkF m 0 #[vr u1] []) := by first | (simp [entryFrame, mkF, argsToLocals, Value.category]; done) | rfl
set_option maxRecDepth 65536 in
set_option maxHeartbeats 40000000 in
theorem own_c13_ordinal (l : Launch) (Z : State) (a0 : Array Value) (hw : ∀ d ∈ tables_1, d.before a0 Z = true) (u0 u1 u2 u3 u4 u5 u6 u7 u8 u9 u10 u11 : Addr) (G : own_St Z u0 u1 u2 u3 u4 u5 u6 u7 u8 u9 u10 u11) (h0 : Heap) (n0 : Nat) (O0 : Old Z n0 h0) : own_Met l Z Y1 jdk_37_method_2_code 1 (some .int) ({ frames := 0, cells := 0, slots := 0, locals := 0 } : Room) #[xr u1] h0 (own_QR (some (xi (3 : Int32))) h0 n0) := by
  intro ws
  refine MetFree.of_bodySF (plainFor_of_name pn1) hisR ?_
  intro p e s m args below meth c s₁ Bd hml0 hP hK
  obtain ⟨rfl, hZ, hh⟩ := hP
  have hx := Bd.exec
  have hby := Bd.bytes
  have hml : c.maxLocals = 1 := hml0
  have hown : s.vm.findClass "java/lang/Enum" = some m.cls := findClass_of_methodNamed Bd.named
  have hnm := (name_of_methodNamed Bd.named Bd.method).1
  have X0 : Stand p l e ({ frames := 0, cells := 0, slots := 0, locals := 0 } : Room) s m #[xr u1] below meth c s₁ [] 0 0 := Stand.of_body Bd
  have e0 : s₁.heap = h0 := by rw [← hh, Bd.state]; rfl
  have N0 := Fr.nil n0
  have pre0 : ∀ t, Steps p.tables e below (s₁.setTop (mkF m 0 #[vr u1] [])) t → Steps p.tables e below (s₁.setTop (entryFrame m #[xr u1] 1)) t := fun t k => castTop (ef_own_c13_ordinal m u0 u1 u2 u3 u4 u5 u6 u7 u8 u9 u10 u11) k
  obtain ⟨T1, X1, e1, st1⟩ := getF X0 hx hZ hown (host := "") (Or.inl (ww hw 20 rfl)) Via.refl e0 ((own_F_u1_ordinal G).ext O0.2) (g := (mkF m 1 #[vr u1] [xr u1])) rfl rfl (hb hby d3_1)
  obtain ⟨fs, hr, hrun, hended, hW, hsame⟩ := X1.leave (v := some (xi (3 : Int32))) (fun h => by rw [Bd.returns] at h; cases h)
  refine ⟨_, _, pre0 _ ?_, hrun, hended, _, _, rfl, ?_, ⟨_, rfl⟩, hW, hsame.mono (by decide) (by decide)⟩
  · show own_S p e below s₁ (mkF m 0 #[vr u1] []) _
    refine XS.aloadN X0.here hx rfl (hb hby d3_0) rfl rfl ?_
    show own_S p e below s₁ (mkF m 1 #[vr u1] [xr u1]) _
    refine st1 _ ?_
    show own_S p e below T1 (mkF m 4 #[vr u1] [xi (3 : Int32)]) _
    exact retI X1 hx Bd.returns (hb hby d3_4) hr
  · exact ⟨rfl, N0, e1⟩
theorem ef_own_c13_isInteger (m : MethodId) (u0 u1 u2 u3 u4 u5 u6 u7 u8 u9 u10 u11 : Addr) : entryFrame m #[xr u1] 1 = (mkF m 0 #[vr u1] []) := by first | (simp [entryFrame, mkF, argsToLocals, Value.category]; done) | rfl
set_option maxRecDepth 65536 in
set_option maxHeartbeats 40000000 in
theorem own_c13_isInteger (l : Launch) (Z : State) (a0 : Array Value) (hw : ∀ d ∈ tables_1, d.before a0 Z = true) (u0 u1 u2 u3 u4 u5 u6 u7 u8 u9 u10 u11 : Addr) (G : own_St Z u0 u1 u2 u3 u4 u5 u6 u7 u8 u9 u10 u11) (h0 : Heap) (n0 : Nat) (O0 : Old Z n0 h0) : own_Met l Z Y3 prog_26_method_5_code 1 (some .boolean) ({ frames := 1, cells := 0, slots := 0, locals := 12 } : Room) #[xr u1] h0 (own_QR (some (xi (0 : Int32))) h0 n0) := by
  intro ws
  refine MetFree.of_bodySF (plainFor_of_name pn2) hisR ?_
  intro p e s m args below meth c s₁ Bd hml0 hP hK
  obtain ⟨rfl, hZ, hh⟩ := hP
  have hx := Bd.exec
  have hby := Bd.bytes
  have hml : c.maxLocals = 1 := hml0
  have hown : s.vm.findClass "com/example/mibwright/mibwright/mib/BaseType" = some m.cls := findClass_of_methodNamed Bd.named
  have hnm := (name_of_methodNamed Bd.named Bd.method).1
  have X0 : Stand p l e ({ frames := 1, cells := 0, slots := 0, locals := 12 } : Room) s m #[xr u1] below meth c s₁ [] 0 0 := Stand.of_body Bd
  have e0 : s₁.heap = h0 := by rw [← hh, Bd.state]; rfl
  have N0 := Fr.nil n0
  have pre0 : ∀ t, Steps p.tables e below (s₁.setTop (mkF m 0 #[vr u1] [])) t → Steps p.tables e below (s₁.setTop (entryFrame m #[xr u1] 1)) t := fun t k => castTop (ef_own_c13_isInteger m u0 u1 u2 u3 u4 u5 u6 u7 u8 u9 u10 u11) k
  obtain ⟨cq1, kq1, qa1, qb1, qc1⟩ := isOf hZ e0 ((own_X_u1 G).ext O0.2)
  obtain ⟨_, _, ⟨T1, L1, k1, n1⟩, -, X1, ⟨Lc1, hQ1, l1, y1, z1⟩, st1⟩ := X0.virtualBackUp hx (x := Y2) (y := Y1) hown (mvT hZ (ww hw 13 rfl)) (mvT hZ (ww hw 14 rfl)) (mvT hZ (ww hw 15 rfl)) (by decide) (mvT hZ (ww hw 17 rfl)) (mvT hZ (ww hw 16 rfl)) (backOf (W := 0) (own_c13_ordinal l Z a0 hw u0 u1 u2 u3 u4 u5 u6 u7 u8 u9 u10 u11 G h0 n0 O0 []) hZ (ww hw 19 rfl) (ww hw 18 rfl) (by decide) (by decide)) qa1 qc1 (g := (mkF m 1 #[vr u1] [xr u1])) rfl (by rw [hml]; rfl) (Steps.refl _) (argsL := []) (rest := []) (lenOf pd1 rfl) rfl (by show 2 * 0 + _ ≤ _; exact Nat.le_of_eq rfl) (hb hby d2_1) (fun _ _ => ⟨rfl, e0, (by decide : 0 + 0 ≤ _), (by decide : 0 + 0 ≤ _)⟩)
  dsimp only [Pt.U, Pt.locs, Pt.cells, Pt.slots] at X1 l1 y1 z1 st1 hQ1
  subst l1 y1 z1
  obtain ⟨rfl, Nq1, e1⟩ := hQ1
  have N1 := Fr.app N0 Nq1
  obtain ⟨fs, hr, hrun, hended, hW, hsame⟩ := X1.leave (v := some (xi (0 : Int32))) (fun h => by rw [Bd.returns] at h; cases h)
  refine ⟨_, _, pre0 _ ?_, hrun, hended, _, _, rfl, ?_, ⟨_, rfl⟩, hW, hsame.mono (by decide) (by decide)⟩
  · show own_S p e below s₁ (mkF m 0 #[vr u1] []) _
    refine XS.aloadN X0.here hx rfl (hb hby d2_0) rfl rfl ?_
    show own_S p e below s₁ (mkF m 1 #[vr u1] [xr u1]) _
    refine st1.trans ?_
    show own_S p e below T1 (mkF m 4 #[vr u1] [xi (3 : Int32)]) _
    refine XS.tswIn X1.here hx rfl (pc0 := 4) (pc' := 82) (o := 78) rfl (hb hby d2_4) rfl (by decide) (by decide) (by decide) (by decide) ?_
    show own_S p e below T1 (mkF m 82 #[vr u1] []) _
    refine XS.iconst X1.here hx rfl (hb hby d2_82) ?_
    show own_S p e below T1 (mkF m 83 #[vr u1] [xi (0 : Int32)]) _
    exact retN X1 hx (t := .boolean) Bd.returns (by simp) (hb hby d2_83) hr
  · exact ⟨rfl, N1, e1⟩
theorem ef_own_c15_holdsIntegers (m : MethodId) (u0 u1 u2 u3 u4 u5 u6 u7 u8 u9 u10 u11 : Addr) : entryFrame m #[xi (3 : Int32)] 1 = (mkF m 0 #[vi (3 : Int32)] []) := by first | (simp [entryFrame, mkF, argsToLocals, Value.category]; done) | rfl
set_option maxRecDepth 65536 in
set_option maxHeartbeats 40000000 in
theorem own_c15_holdsIntegers (l : Launch) (Z : State) (a0 : Array Value) (hw : ∀ d ∈ tables_1, d.before a0 Z = true) (u0 u1 u2 u3 u4 u5 u6 u7 u8 u9 u10 u11 : Addr) (G : own_St Z u0 u1 u2 u3 u4 u5 u6 u7 u8 u9 u10 u11) (h0 : Heap) (n0 : Nat) (O0 : Old Z n0 h0) : own_Met l Z Y4 method_3_code 1 (some .boolean) ({ frames := 0, cells := 0, slots := 0, locals := 0 } : Room) #[xi (3 : Int32)] h0 (own_QR (some (xi (0 : Int32))) h0 n0) := by
  intro ws
  refine MetFree.of_bodySF (plainFor_of_name pn0) hisR ?_
  intro p e s m args below meth c s₁ Bd hml0 hP hK
  obtain ⟨rfl, hZ, hh⟩ := hP
  have hx := Bd.exec
  have hby := Bd.bytes
  have hml : c.maxLocals = 1 := hml0
  have hown : s.vm.findClass "com/example/mibwright/mibwright/mib/BaseTypeIsIntegerPinLaw" = some m.cls := findClass_of_methodNamed Bd.named
  have hnm := (name_of_methodNamed Bd.named Bd.method).1
  have X0 : Stand p l e ({ frames := 0, cells := 0, slots := 0, locals := 0 } : Room) s m #[xi (3 : Int32)] below meth c s₁ [] 0 0 := Stand.of_body Bd
  have e0 : s₁.heap = h0 := by rw [← hh, Bd.state]; rfl
  have N0 := Fr.nil n0
  have pre0 : ∀ t, Steps p.tables e below (s₁.setTop (mkF m 0 #[vi (3 : Int32)] [])) t → Steps p.tables e below (s₁.setTop (entryFrame m #[xi (3 : Int32)] 1)) t := fun t k => castTop (ef_own_c15_holdsIntegers m u0 u1 u2 u3 u4 u5 u6 u7 u8 u9 u10 u11) k
  obtain ⟨fs, hr, hrun, hended, hW, hsame⟩ := X0.leave (v := some (xi (0 : Int32))) (fun h => by rw [Bd.returns] at h; cases h)
  refine ⟨_, _, pre0 _ ?_, hrun, hended, _, _, rfl, ?_, ⟨_, rfl⟩, hW, hsame.mono (by decide) (by decide)⟩
  · show own_S p e below s₁ (mkF m 0 #[vi (3 : Int32)] []) _
    refine XS.iloadN X0.here hx rfl (hb hby d4_0) rfl ?_
    show own_S p e below s₁ (mkF m 1 #[vi (3 : Int32)] [xi (3 : Int32)]) _
    refine XS.iconst X0.here hx rfl (hb hby d4_1) ?_
    show own_S p e below s₁ (mkF m 2 #[vi (3 : Int32)] [xi (2 : Int32), xi (3 : Int32)]) _
    refine XS.icmpNo X0.here hx rfl (hb hby d4_2) rfl (by decide) ?_
    show own_S p e below s₁ (mkF m 5 #[vi (3 : Int32)] []) _
    refine XS.iloadN X0.here hx rfl (hb hby d4_5) rfl ?_
    show own_S p e below s₁ (mkF m 6 #[vi (3 : Int32)] [xi (3 : Int32)]) _
    refine XS.iconst X0.here hx rfl (hb hby d4_6) ?_
    show own_S p e below s₁ (mkF m 7 #[vi (3 : Int32)] [xi (3 : Int32), xi (3 : Int32)]) _
    refine XS.icmpYes X0.here hx rfl (pc0 := 7) (pc' := 26) rfl (hb hby d4_7) rfl (by decide) (by decide) (by decide) ?_
    show own_S p e below s₁ (mkF m 26 #[vi (3 : Int32)] []) _
    refine XS.iconst X0.here hx rfl (hb hby d4_26) ?_
    show own_S p e below s₁ (mkF m 27 #[vi (3 : Int32)] [xi (0 : Int32)]) _
    exact retN X0 hx (t := .boolean) Bd.returns (by simp) (hb hby d4_27) hr
  · exact ⟨rfl, N0, e0⟩
theorem ef_own_l3 (m : MethodId) (u0 u1 u2 u3 u4 u5 u6 u7 u8 u9 u10 u11 : Addr) (p1 : Int32) : entryFrame m #[xi p1] maxLocals = (mkF m 0 #[vi p1, vu, vu] []) := by first | (simp [entryFrame, mkF, argsToLocals, Value.category, maxLocals]; done) | rfl
set_option maxRecDepth 65536 in
set_option maxHeartbeats 40000000 in
theorem own_l3 (l : Launch) (Z : State) (a0 : Array Value) (hw : ∀ d ∈ tables_1, d.before a0 Z = true) (u0 u1 u2 u3 u4 u5 u6 u7 u8 u9 u10 u11 : Addr) (G : own_St Z u0 u1 u2 u3 u4 u5 u6 u7 u8 u9 u10 u11) (p1 : Int32) (as3 : ((p1 &&& (2147483647 : Int32)) - ((p1 &&& (2147483647 : Int32)) / (12 : Int32)) * (12 : Int32)) = (3 : Int32)) (h0 : Heap) (n0 : Nat) (O0 : Old Z n0 h0) : own_Met l Z x code maxLocals ret room_1 #[xi p1] h0 (own_QL (some (xi (1 : Int32))) n0) := by
  intro ws
  refine MetFree.of_bodySF (plainFor_of_name pn0) hisR ?_
  intro p e s m args below meth c s₁ Bd hml0 hP hK
  obtain ⟨rfl, hZ, hh⟩ := hP
  have hx := Bd.exec
  have hby := Bd.bytes
  have hml : c.maxLocals = 3 := hml0
  have hown : s.vm.findClass "com/example/mibwright/mibwright/mib/BaseTypeIsIntegerPinLaw" = some m.cls := findClass_of_methodNamed Bd.named
  have hnm := (name_of_methodNamed Bd.named Bd.method).1
  have X0 : Stand p l e room_1 s m #[xi p1] below meth c s₁ [] 0 0 := Stand.of_body Bd
  have e0 : s₁.heap = h0 := by rw [← hh, Bd.state]; rfl
  have N0 := Fr.nil n0
  have pre0 : ∀ t, Steps p.tables e below (s₁.setTop (mkF m 0 #[vi p1, vu, vu] [])) t → Steps p.tables e below (s₁.setTop (entryFrame m #[xi p1] maxLocals)) t := fun t k => castTop (ef_own_l3 m u0 u1 u2 u3 u4 u5 u6 u7 u8 u9 u10 u11 p1) k
  obtain ⟨_, _, ⟨T1, L1, k1, n1⟩, -, X1, ⟨Lc1, hQ1, l1, y1, z1⟩, st1⟩ := Jvm.LawKit.callS X0 hx (y := Y0) hown (mvT hZ (ww hw 1 rfl)) (mvT hZ (ww hw 2 rfl)) (mvT hZ (ww hw 3 rfl)) (mvT hZ (ww hw 4 rfl)) (by decide) (backOf (W := 0) (own_c12_pick l Z a0 hw u0 u1 u2 u3 u4 u5 u6 u7 u8 u9 u10 u11 G h0 n0 O0 []) hZ (ww hw 4 rfl) (ww hw 3 rfl) (by decide) (by decide)) (g := (mkF m 9 #[vi p1, vi (3 : Int32), vu] [xi (3 : Int32)])) rfl (by rw [hml]; rfl) (argsL := [xi (3 : Int32)]) (rest := []) (lenOf pd0 rfl) rfl (by show 2 * 0 + _ ≤ _; exact Nat.le_of_eq rfl) (hb hby at_9) (fun _ _ => ⟨rfl, e0, (by decide : 0 + 0 ≤ _), (by decide : 0 + 0 ≤ _)⟩)
  dsimp only [Pt.U, Pt.locs, Pt.cells, Pt.slots] at X1 l1 y1 z1 st1 hQ1
  subst l1 y1 z1
  obtain ⟨rfl, Nq1, e1⟩ := hQ1
  have N1 := Fr.app N0 Nq1
  obtain ⟨cq2, kq2, qa2, qb2, qc2⟩ := isOf hZ e1 ((own_X_u1 G).ext O0.2)
  obtain ⟨_, _, ⟨T2, L2, k2, n2⟩, -, X2, ⟨Lc2, hQ2, l2, y2, z2⟩, st2⟩ := X1.virtualBack hx (y := Y3) (z := Y3) hown (mvT hZ (ww hw 8 rfl)) (mvT hZ (ww hw 9 rfl)) (notFace_of_selects (args := #[]) (mvT hZ (ww hw 11 rfl))) (mvT hZ (ww hw 11 rfl)) (mvT hZ (ww hw 10 rfl)) (by decide) (backOf (W := 0) (own_c13_isInteger l Z a0 hw u0 u1 u2 u3 u4 u5 u6 u7 u8 u9 u10 u11 G h0 n0 O0 []) hZ (ww hw 12 rfl) (ww hw 6 rfl) (by decide) (by decide)) qa2 qc2 (g := (mkF m 14 #[vi p1, vi (3 : Int32), vr u1] [xr u1])) rfl (by rw [hml]; rfl) (Steps.refl _) (argsL := []) (rest := []) (lenOf pd2 rfl) rfl (by show 2 * 0 + _ ≤ _; exact Nat.le_of_eq rfl) (hb hby at_14) (fun _ _ => ⟨rfl, e1, (by decide : 0 + 0 ≤ _), (by decide : 0 + 0 ≤ _)⟩)
  dsimp only [Pt.U, Pt.locs, Pt.cells, Pt.slots] at X2 l2 y2 z2 st2 hQ2
  subst l2 y2 z2
  obtain ⟨rfl, Nq2, e2⟩ := hQ2
  have N2 := Fr.app N1 Nq2
  obtain ⟨_, _, ⟨T3, L3, k3, n3⟩, -, X3, ⟨Lc3, hQ3, l3, y3, z3⟩, st3⟩ := Jvm.LawKit.callS X2 hx (y := Y4) hown (mvT hZ (ww hw 22 rfl)) (mvT hZ (ww hw 23 rfl)) (mvT hZ (ww hw 3 rfl)) (mvT hZ (ww hw 24 rfl)) (by decide) (backOf (W := 1) (own_c15_holdsIntegers l Z a0 hw u0 u1 u2 u3 u4 u5 u6 u7 u8 u9 u10 u11 G h0 n0 O0 []) hZ (ww hw 24 rfl) (ww hw 3 rfl) (by decide) (by decide)) (g := (mkF m 18 #[vi p1, vi (3 : Int32), vr u1] [xi (3 : Int32), xi (0 : Int32)])) rfl (by rw [hml]; rfl) (argsL := [xi (3 : Int32)]) (rest := [xi (0 : Int32)]) (lenOf pd3 rfl) rfl (by show 2 * 0 + _ ≤ _; exact Nat.le_of_eq rfl) (hb hby at_18) (fun _ _ => ⟨rfl, e2, (by decide : 0 + 0 ≤ _), (by decide : 0 + 0 ≤ _)⟩)
  dsimp only [Pt.U, Pt.locs, Pt.cells, Pt.slots] at X3 l3 y3 z3 st3 hQ3
  subst l3 y3 z3
  obtain ⟨rfl, Nq3, e3⟩ := hQ3
  have N3 := Fr.app N2 Nq3
  obtain ⟨fs, hr, hrun, hended, hW, hsame⟩ := X3.leave (v := some (xi (1 : Int32))) (fun h => by rw [Bd.returns] at h; cases h)
  refine ⟨_, _, pre0 _ ?_, hrun, hended, _, _, rfl, ?_, ⟨_, rfl⟩, hW, hsame.mono (by decide) (by decide)⟩
  · show own_S p e below s₁ (mkF m 0 #[vi p1, vu, vu] []) _
    refine XS.iloadN X0.here hx rfl (hb hby at_0) rfl ?_
    show own_S p e below s₁ (mkF m 1 #[vi p1, vu, vu] [xi p1]) _
    refine X0.ldcI hx hown (mvT hZ (ww hw 0 rfl)) (g := (mkF m 1 #[vi p1, vu, vu] [xi p1])) rfl (hb hby at_1) ?_
    show own_S p e below s₁ (mkF m 3 #[vi p1, vu, vu] [xi (2147483647 : Int32), xi p1]) _
    refine XS.iand X0.here hx rfl (hb hby at_3) rfl ?_
    show own_S p e below s₁ (mkF m 4 #[vi p1, vu, vu] [xi (p1 &&& (2147483647 : Int32))]) _
    show own_S p e below s₁ (mkF m 4 #[vi p1, vu, vu] [xi (p1 &&& (2147483647 : Int32))]) _
    refine XS.bipush X0.here hx rfl (hb hby at_4) ?_
    show own_S p e below s₁ (mkF m 6 #[vi p1, vu, vu] [xi (12 : Int32), xi (p1 &&& (2147483647 : Int32))]) _
    refine XS.irem X0.here hx rfl (hb hby at_6) rfl (by decide) ?_
    show own_S p e below s₁ (mkF m 7 #[vi p1, vu, vu] [xi ((p1 &&& (2147483647 : Int32)) - ((p1 &&& (2147483647 : Int32)) / (12 : Int32)) * (12 : Int32))]) _
    refine castTop (show (mkF m 7 #[vi p1, vu, vu] [xi ((p1 &&& (2147483647 : Int32)) - ((p1 &&& (2147483647 : Int32)) / (12 : Int32)) * (12 : Int32))]) = (mkF m 7 #[vi p1, vu, vu] [xi (3 : Int32)]) from by rw [as3]) ?_
    show own_S p e below s₁ (mkF m 7 #[vi p1, vu, vu] [xi (3 : Int32)]) _
    refine XS.istoreN X0.here hx rfl (hb hby at_7) rfl (l' := #[vi p1, vi (3 : Int32), vu]) rfl ?_
    show own_S p e below s₁ (mkF m 8 #[vi p1, vi (3 : Int32), vu] []) _
    refine XS.iloadN X0.here hx rfl (hb hby at_8) rfl ?_
    show own_S p e below s₁ (mkF m 9 #[vi p1, vi (3 : Int32), vu] [xi (3 : Int32)]) _
    refine st1 _ ?_
    show own_S p e below T1 (mkF m 12 #[vi p1, vi (3 : Int32), vu] [xr u1]) _
    refine XS.astoreN X1.here hx rfl (hb hby at_12) rfl rfl (l' := #[vi p1, vi (3 : Int32), vr u1]) rfl ?_
    show own_S p e below T1 (mkF m 13 #[vi p1, vi (3 : Int32), vr u1] []) _
    refine XS.aloadN X1.here hx rfl (hb hby at_13) rfl rfl ?_
    show own_S p e below T1 (mkF m 14 #[vi p1, vi (3 : Int32), vr u1] [xr u1]) _
    refine st2.trans ?_
    show own_S p e below T2 (mkF m 17 #[vi p1, vi (3 : Int32), vr u1] [xi (0 : Int32)]) _
    refine XS.iloadN X2.here hx rfl (hb hby at_17) rfl ?_
    show own_S p e below T2 (mkF m 18 #[vi p1, vi (3 : Int32), vr u1] [xi (3 : Int32), xi (0 : Int32)]) _
    refine st3 _ ?_
    show own_S p e below T3 (mkF m 21 #[vi p1, vi (3 : Int32), vr u1] [xi (0 : Int32), xi (0 : Int32)]) _
    refine XS.icmpNo X3.here hx rfl (hb hby at_21) rfl (by decide) ?_
    show own_S p e below T3 (mkF m 24 #[vi p1, vi (3 : Int32), vr u1] []) _
    refine XS.iconst X3.here hx rfl (hb hby at_24) ?_
    show own_S p e below T3 (mkF m 25 #[vi p1, vi (3 : Int32), vr u1] [xi (1 : Int32)]) _
    refine XS.goto X3.here hx rfl (pc0 := 25) (pc' := 29) rfl (hb hby at_25) (by decide) (by decide) ?_
    show own_S p e below T3 (mkF m 29 #[vi p1, vi (3 : Int32), vr u1] [xi (1 : Int32)]) _
    exact retN X3 hx (t := .boolean) Bd.returns (by simp) (hb hby at_29) hr
  · exact ⟨rfl, N3⟩
theorem d1_35 : decode method_2_code 35 = .ok (.iload_n 0, 1) := by decide +kernel
theorem d1_36 : decode method_2_code 36 = .ok (.iconst 4, 1) := by decide +kernel
theorem d1_37 : decode method_2_code 37 = .ok (.if_icmp .ne 7, 3) := by decide +kernel
theorem d1_40 : decode method_2_code 40 = .ok (.getstatic 22, 3) := by decide +kernel
theorem d1_43 : decode method_2_code 43 = .ok (.areturn, 1) := by decide +kernel
theorem ef_own_c16_pick (m : MethodId) (u0 u1 u2 u3 u4 u5 u6 u7 u8 u9 u10 u11 : Addr) : entryFrame m #[xi (4 : Int32)] 1 = (mkF m 0 #[vi (4 : Int32)] []) := by first | (simp [entryFrame, mkF, argsToLocals, Value.category]; done) | rfl
set_option maxRecDepth 65536 in
set_option maxHeartbeats 40000000 in
theorem own_c16_pick (l : Launch) (Z : State) (a0 : Array Value) (hw : ∀ d ∈ tables_1, d.before a0 Z = true) (u0 u1 u2 u3 u4 u5 u6 u7 u8 u9 u10 u11 : Addr) (G : own_St Z u0 u1 u2 u3 u4 u5 u6 u7 u8 u9 u10 u11) (h0 : Heap) (n0 : Nat) (O0 : Old Z n0 h0) : own_Met l Z Y0 method_2_code 1 (some (.object "com/example/mibwright/mibwright/mib/BaseType")) ({ frames := 0, cells := 0, slots := 0, locals := 0 } : Room) #[xi (4 : Int32)] h0 (own_QR (some (xr u5)) h0 n0) := by
  intro ws
  refine MetFree.of_bodySF (plainFor_of_name pn0) hisR ?_
  intro p e s m args below meth c s₁ Bd hml0 hP hK
  obtain ⟨rfl, hZ, hh⟩ := hP
  have hx := Bd.exec
  have hby := Bd.bytes
  have hml : c.maxLocals = 1 := hml0
  have hown : s.vm.findClass "com/example/mibwright/mibwright/mib/BaseTypeIsIntegerPinLaw" = some m.cls := findClass_of_methodNamed Bd.named
  have hnm := (name_of_methodNamed Bd.named Bd.method).1
  have X0 : Stand p l e ({ frames := 0, cells := 0, slots := 0, locals := 0 } : Room) s m #[xi (4 : Int32)] below meth c s₁ [] 0 0 := Stand.of_body Bd
  have e0 : s₁.heap = h0 := by rw [← hh, Bd.state]; rfl
  have N0 := Fr.nil n0
  have pre0 : ∀ t, Steps p.tables e below (s₁.setTop (mkF m 0 #[vi (4 : Int32)] [])) t → Steps p.tables e below (s₁.setTop (entryFrame m #[xi (4 : Int32)] 1)) t := fun t k => castTop (ef_own_c16_pick m u0 u1 u2 u3 u4 u5 u6 u7 u8 u9 u10 u11) k
  obtain ⟨T1, X1, e1, st1⟩ := getS2 X0 hx hZ hown (host := "") (Or.inl (ww hw 33 rfl)) Via.refl e0 ((own_S_u5 G).ext O0.2) (g := (mkF m 40 #[vi (4 : Int32)] [])) rfl (hb hby d1_40)
  obtain ⟨fs, hr, hrun, hended, hW, hsame⟩ := X1.leave (v := some (xr u5)) (fun h => by rw [Bd.returns] at h; cases h)
  refine ⟨_, _, pre0 _ ?_, hrun, hended, _, _, rfl, ?_, ⟨_, rfl⟩, hW, hsame.mono (by decide) (by decide)⟩
  · show own_S p e below s₁ (mkF m 0 #[vi (4 : Int32)] []) _
    refine XS.iloadN X0.here hx rfl (hb hby d1_0) rfl ?_
    show own_S p e below s₁ (mkF m 1 #[vi (4 : Int32)] [xi (4 : Int32)]) _
    refine XS.ifYes X0.here hx rfl (pc0 := 1) (pc' := 8) rfl (hb hby d1_1) rfl (by decide) (by decide) (by decide) ?_
    show own_S p e below s₁ (mkF m 8 #[vi (4 : Int32)] []) _
    refine XS.iloadN X0.here hx rfl (hb hby d1_8) rfl ?_
    show own_S p e below s₁ (mkF m 9 #[vi (4 : Int32)] [xi (4 : Int32)]) _
    refine XS.iconst X0.here hx rfl (hb hby d1_9) ?_
    show own_S p e below s₁ (mkF m 10 #[vi (4 : Int32)] [xi (1 : Int32), xi (4 : Int32)]) _
    refine XS.icmpYes X0.here hx rfl (pc0 := 10) (pc' := 17) rfl (hb hby d1_10) rfl (by decide) (by decide) (by decide) ?_
    show own_S p e below s₁ (mkF m 17 #[vi (4 : Int32)] []) _
    refine XS.iloadN X0.here hx rfl (hb hby d1_17) rfl ?_
    show own_S p e below s₁ (mkF m 18 #[vi (4 : Int32)] [xi (4 : Int32)]) _
    refine XS.iconst X0.here hx rfl (hb hby d1_18) ?_
    show own_S p e below s₁ (mkF m 19 #[vi (4 : Int32)] [xi (2 : Int32), xi (4 : Int32)]) _
    refine XS.icmpYes X0.here hx rfl (pc0 := 19) (pc' := 26) rfl (hb hby d1_19) rfl (by decide) (by decide) (by decide) ?_
    show own_S p e below s₁ (mkF m 26 #[vi (4 : Int32)] []) _
    refine XS.iloadN X0.here hx rfl (hb hby d1_26) rfl ?_
    show own_S p e below s₁ (mkF m 27 #[vi (4 : Int32)] [xi (4 : Int32)]) _
    refine XS.iconst X0.here hx rfl (hb hby d1_27) ?_
    show own_S p e below s₁ (mkF m 28 #[vi (4 : Int32)] [xi (3 : Int32), xi (4 : Int32)]) _
    refine XS.icmpYes X0.here hx rfl (pc0 := 28) (pc' := 35) rfl (hb hby d1_28) rfl (by decide) (by decide) (by decide) ?_
    show own_S p e below s₁ (mkF m 35 #[vi (4 : Int32)] []) _
    refine XS.iloadN X0.here hx rfl (hb hby d1_35) rfl ?_
    show own_S p e below s₁ (mkF m 36 #[vi (4 : Int32)] [xi (4 : Int32)]) _
    refine XS.iconst X0.here hx rfl (hb hby d1_36) ?_
    show own_S p e below s₁ (mkF m 37 #[vi (4 : Int32)] [xi (4 : Int32), xi (4 : Int32)]) _
    refine XS.icmpNo X0.here hx rfl (hb hby d1_37) rfl (by decide) ?_
    show own_S p e below s₁ (mkF m 40 #[vi (4 : Int32)] []) _
    refine st1 _ ?_
    show own_S p e below T1 (mkF m 43 #[vi (4 : Int32)] [xr u5]) _
    exact X1.areturnOut hx rfl Bd.returns rfl (hb hby d1_43) hr
  · exact ⟨rfl, N0, e1⟩
theorem ef_own_c17_ordinal (m : MethodId) (u0 u1 u2 u3 u4 u5 u6 u7 u8 u9 u10 u11 : Addr) : entryFrame m #[xr u5] 1 = (mkF m 0 #[vr u5] []) := by first | (simp [entryFrame, mkF, argsToLocals, Value.category]; done) | rfl
set_option maxRecDepth 65536 in
set_option maxHeartbeats 40000000 in
theorem own_c17_ordinal (l : Launch) (Z : State) (a0 : Array Value) (hw : ∀ d ∈ tables_1, d.before a0 Z = true) (u0 u1 u2 u3 u4 u5 u6 u7 u8 u9 u10 u11 : Addr) (G : own_St Z u0 u1 u2 u3 u4 u5 u6 u7 u8 u9 u10 u11) (h0 : Heap) (n0 : Nat) (O0 : Old Z n0 h0) : own_Met l Z Y1 jdk_37_method_2_code 1 (some .int) ({ frames := 0, cells := 0, slots := 0, locals := 0 } : Room) #[xr u5] h0 (own_QR (some (xi (4 : Int32))) h0 n0) := by
  intro ws
  refine MetFree.of_bodySF (plainFor_of_name pn1) hisR ?_
  intro p e s m args below meth c s₁ Bd hml0 hP hK
  obtain ⟨rfl, hZ, hh⟩ := hP
  have hx := Bd.exec
  have hby := Bd.bytes
  have hml : c.maxLocals = 1 := hml0
  have hown : s.vm.findClass "java/lang/Enum" = some m.cls := findClass_of_methodNamed Bd.named
  have hnm := (name_of_methodNamed Bd.named Bd.method).1
  have X0 : Stand p l e ({ frames := 0, cells := 0, slots := 0, locals := 0 } : Room) s m #[xr u5] below meth c s₁ [] 0 0 := Stand.of_body Bd
  have e0 : s₁.heap = h0 := by rw [← hh, Bd.state]; rfl
  have N0 := Fr.nil n0
  have pre0 : ∀ t, Steps p.tables e below (s₁.setTop (mkF m 0 #[vr u5] [])) t → Steps p.tables e below (s₁.setTop (entryFrame m #[xr u5] 1)) t := fun t k => castTop (ef_own_c17_ordinal m u0 u1 u2 u3 u4 u5 u6 u7 u8 u9 u10 u11) k
  obtain ⟨T1, X1, e1, st1⟩ := getF X0 hx hZ hown (host := "") (Or.inl (ww hw 20 rfl)) Via.refl e0 ((own_F_u5_ordinal G).ext O0.2) (g := (mkF m 1 #[vr u5] [xr u5])) rfl rfl (hb hby d3_1)
  obtain ⟨fs, hr, hrun, hended, hW, hsame⟩ := X1.leave (v := some (xi (4 : Int32))) (fun h => by rw [Bd.returns] at h; cases h)
  refine ⟨_, _, pre0 _ ?_, hrun, hended, _, _, rfl, ?_, ⟨_, rfl⟩, hW, hsame.mono (by decide) (by decide)⟩
  · show own_S p e below s₁ (mkF m 0 #[vr u5] []) _
    refine XS.aloadN X0.here hx rfl (hb hby d3_0) rfl rfl ?_
    show own_S p e below s₁ (mkF m 1 #[vr u5] [xr u5]) _
    refine st1 _ ?_
    show own_S p e below T1 (mkF m 4 #[vr u5] [xi (4 : Int32)]) _
    exact retI X1 hx Bd.returns (hb hby d3_4) hr
  · exact ⟨rfl, N0, e1⟩
theorem ef_own_c17_isInteger (m : MethodId) (u0 u1 u2 u3 u4 u5 u6 u7 u8 u9 u10 u11 : Addr) : entryFrame m #[xr u5] 1 = (mkF m 0 #[vr u5] []) := by first | (simp [entryFrame, mkF, argsToLocals, Value.category]; done) | rfl
set_option maxRecDepth 65536 in
set_option maxHeartbeats 40000000 in
theorem own_c17_isInteger (l : Launch) (Z : State) (a0 : Array Value) (hw : ∀ d ∈ tables_1, d.before a0 Z = true) (u0 u1 u2 u3 u4 u5 u6 u7 u8 u9 u10 u11 : Addr) (G : own_St Z u0 u1 u2 u3 u4 u5 u6 u7 u8 u9 u10 u11) (h0 : Heap) (n0 : Nat) (O0 : Old Z n0 h0) : own_Met l Z Y3 prog_26_method_5_code 1 (some .boolean) ({ frames := 1, cells := 0, slots := 0, locals := 12 } : Room) #[xr u5] h0 (own_QR (some (xi (0 : Int32))) h0 n0) := by
  intro ws
  refine MetFree.of_bodySF (plainFor_of_name pn2) hisR ?_
  intro p e s m args below meth c s₁ Bd hml0 hP hK
  obtain ⟨rfl, hZ, hh⟩ := hP
  have hx := Bd.exec
  have hby := Bd.bytes
  have hml : c.maxLocals = 1 := hml0
  have hown : s.vm.findClass "com/example/mibwright/mibwright/mib/BaseType" = some m.cls := findClass_of_methodNamed Bd.named
  have hnm := (name_of_methodNamed Bd.named Bd.method).1
  have X0 : Stand p l e ({ frames := 1, cells := 0, slots := 0, locals := 12 } : Room) s m #[xr u5] below meth c s₁ [] 0 0 := Stand.of_body Bd
  have e0 : s₁.heap = h0 := by rw [← hh, Bd.state]; rfl
  have N0 := Fr.nil n0
  have pre0 : ∀ t, Steps p.tables e below (s₁.setTop (mkF m 0 #[vr u5] [])) t → Steps p.tables e below (s₁.setTop (entryFrame m #[xr u5] 1)) t := fun t k => castTop (ef_own_c17_isInteger m u0 u1 u2 u3 u4 u5 u6 u7 u8 u9 u10 u11) k
  obtain ⟨cq1, kq1, qa1, qb1, qc1⟩ := isOf hZ e0 ((own_X_u5 G).ext O0.2)
  obtain ⟨_, _, ⟨T1, L1, k1, n1⟩, -, X1, ⟨Lc1, hQ1, l1, y1, z1⟩, st1⟩ := X0.virtualBackUp hx (x := Y2) (y := Y1) hown (mvT hZ (ww hw 13 rfl)) (mvT hZ (ww hw 14 rfl)) (mvT hZ (ww hw 15 rfl)) (by decide) (mvT hZ (ww hw 17 rfl)) (mvT hZ (ww hw 16 rfl)) (backOf (W := 0) (own_c17_ordinal l Z a0 hw u0 u1 u2 u3 u4 u5 u6 u7 u8 u9 u10 u11 G h0 n0 O0 []) hZ (ww hw 19 rfl) (ww hw 18 rfl) (by decide) (by decide)) qa1 qc1 (g := (mkF m 1 #[vr u5] [xr u5])) rfl (by rw [hml]; rfl) (Steps.refl _) (argsL := []) (rest := []) (lenOf pd1 rfl) rfl (by show 2 * 0 + _ ≤ _; exact Nat.le_of_eq rfl) (hb hby d2_1) (fun _ _ => ⟨rfl, e0, (by decide : 0 + 0 ≤ _), (by decide : 0 + 0 ≤ _)⟩)
  dsimp only [Pt.U, Pt.locs, Pt.cells, Pt.slots] at X1 l1 y1 z1 st1 hQ1
  subst l1 y1 z1
  obtain ⟨rfl, Nq1, e1⟩ := hQ1
  have N1 := Fr.app N0 Nq1
  obtain ⟨fs, hr, hrun, hended, hW, hsame⟩ := X1.leave (v := some (xi (0 : Int32))) (fun h => by rw [Bd.returns] at h; cases h)
  refine ⟨_, _, pre0 _ ?_, hrun, hended, _, _, rfl, ?_, ⟨_, rfl⟩, hW, hsame.mono (by decide) (by decide)⟩
  · show own_S p e below s₁ (mkF m 0 #[vr u5] []) _
    refine XS.aloadN X0.here hx rfl (hb hby d2_0) rfl rfl ?_
    show own_S p e below s₁ (mkF m 1 #[vr u5] [xr u5]) _
    refine st1.trans ?_
    show own_S p e below T1 (mkF m 4 #[vr u5] [xi (4 : Int32)]) _
    refine XS.tswIn X1.here hx rfl (pc0 := 4) (pc' := 82) (o := 78) rfl (hb hby d2_4) rfl (by decide) (by decide) (by decide) (by decide) ?_
    show own_S p e below T1 (mkF m 82 #[vr u5] []) _
    refine XS.iconst X1.here hx rfl (hb hby d2_82) ?_
    show own_S p e below T1 (mkF m 83 #[vr u5] [xi (0 : Int32)]) _
    exact retN X1 hx (t := .boolean) Bd.returns (by simp) (hb hby d2_83) hr
  · exact ⟨rfl, N1, e1⟩
theorem ef_own_c19_holdsIntegers (m : MethodId) (u0 u1 u2 u3 u4 u5 u6 u7 u8 u9 u10 u11 : Addr) : entryFrame m #[xi (4 : Int32)] 1 = (mkF m 0 #[vi (4 : Int32)] []) := by first | (simp [entryFrame, mkF, argsToLocals, Value.category]; done) | rfl
set_option maxRecDepth 65536 in
set_option maxHeartbeats 40000000 in
theorem own_c19_holdsIntegers (l : Launch) (Z : State) (a0 : Array Value) (hw : ∀ d ∈ tables_1, d.before a0 Z = true) (u0 u1 u2 u3 u4 u5 u6 u7 u8 u9 u10 u11 : Addr) (G : own_St Z u0 u1 u2 u3 u4 u5 u6 u7 u8 u9 u10 u11) (h0 : Heap) (n0 : Nat) (O0 : Old Z n0 h0) : own_Met l Z Y4 method_3_code 1 (some .boolean) ({ frames := 0, cells := 0, slots := 0, locals := 0 } : Room) #[xi (4 : Int32)] h0 (own_QR (some (xi (0 : Int32))) h0 n0) := by
  intro ws
  refine MetFree.of_bodySF (plainFor_of_name pn0) hisR ?_
  intro p e s m args below meth c s₁ Bd hml0 hP hK
  obtain ⟨rfl, hZ, hh⟩ := hP
  have hx := Bd.exec
  have hby := Bd.bytes
  have hml : c.maxLocals = 1 := hml0
  have hown : s.vm.findClass "com/example/mibwright/mibwright/mib/BaseTypeIsIntegerPinLaw" = some m.cls := findClass_of_methodNamed Bd.named
  have hnm := (name_of_methodNamed Bd.named Bd.method).1
  have X0 : Stand p l e ({ frames := 0, cells := 0, slots := 0, locals := 0 } : Room) s m #[xi (4 : Int32)] below meth c s₁ [] 0 0 := Stand.of_body Bd
  have e0 : s₁.heap = h0 := by rw [← hh, Bd.state]; rfl
  have N0 := Fr.nil n0
  have pre0 : ∀ t, Steps p.tables e below (s₁.setTop (mkF m 0 #[vi (4 : Int32)] [])) t → Steps p.tables e below (s₁.setTop (entryFrame m #[xi (4 : Int32)] 1)) t := fun t k => castTop (ef_own_c19_holdsIntegers m u0 u1 u2 u3 u4 u5 u6 u7 u8 u9 u10 u11) k
  obtain ⟨fs, hr, hrun, hended, hW, hsame⟩ := X0.leave (v := some (xi (0 : Int32))) (fun h => by rw [Bd.returns] at h; cases h)
  refine ⟨_, _, pre0 _ ?_, hrun, hended, _, _, rfl, ?_, ⟨_, rfl⟩, hW, hsame.mono (by decide) (by decide)⟩
  · show own_S p e below s₁ (mkF m 0 #[vi (4 : Int32)] []) _
    refine XS.iloadN X0.here hx rfl (hb hby d4_0) rfl ?_
    show own_S p e below s₁ (mkF m 1 #[vi (4 : Int32)] [xi (4 : Int32)]) _
    refine XS.iconst X0.here hx rfl (hb hby d4_1) ?_
    show own_S p e below s₁ (mkF m 2 #[vi (4 : Int32)] [xi (2 : Int32), xi (4 : Int32)]) _
    refine XS.icmpNo X0.here hx rfl (hb hby d4_2) rfl (by decide) ?_
    show own_S p e below s₁ (mkF m 5 #[vi (4 : Int32)] []) _
    refine XS.iloadN X0.here hx rfl (hb hby d4_5) rfl ?_
    show own_S p e below s₁ (mkF m 6 #[vi (4 : Int32)] [xi (4 : Int32)]) _
    refine XS.iconst X0.here hx rfl (hb hby d4_6) ?_
    show own_S p e below s₁ (mkF m 7 #[vi (4 : Int32)] [xi (3 : Int32), xi (4 : Int32)]) _
    refine XS.icmpNo X0.here hx rfl (hb hby d4_7) rfl (by decide) ?_
    show own_S p e below s₁ (mkF m 10 #[vi (4 : Int32)] []) _
    refine XS.iloadN X0.here hx rfl (hb hby d4_10) rfl ?_
    show own_S p e below s₁ (mkF m 11 #[vi (4 : Int32)] [xi (4 : Int32)]) _
    refine XS.iconst X0.here hx rfl (hb hby d4_11) ?_
    show own_S p e below s₁ (mkF m 12 #[vi (4 : Int32)] [xi (4 : Int32), xi (4 : Int32)]) _
    refine XS.icmpYes X0.here hx rfl (pc0 := 12) (pc' := 26) rfl (hb hby d4_12) rfl (by decide) (by decide) (by decide) ?_
    show own_S p e below s₁ (mkF m 26 #[vi (4 : Int32)] []) _
    refine XS.iconst X0.here hx rfl (hb hby d4_26) ?_
    show own_S p e below s₁ (mkF m 27 #[vi (4 : Int32)] [xi (0 : Int32)]) _
    exact retN X0 hx (t := .boolean) Bd.returns (by simp) (hb hby d4_27) hr
  · exact ⟨rfl, N0, e0⟩
theorem ef_own_l4 (m : MethodId) (u0 u1 u2 u3 u4 u5 u6 u7 u8 u9 u10 u11 : Addr) (p1 : Int32) : entryFrame m #[xi p1] maxLocals = (mkF m 0 #[vi p1, vu, vu] []) := by first | (simp [entryFrame, mkF, argsToLocals, Value.category, maxLocals]; done) | rfl
set_option maxRecDepth 65536 in
set_option maxHeartbeats 40000000 in
theorem own_l4 (l : Launch) (Z : State) (a0 : Array Value) (hw : ∀ d ∈ tables_1, d.before a0 Z = true) (u0 u1 u2 u3 u4 u5 u6 u7 u8 u9 u10 u11 : Addr) (G : own_St Z u0 u1 u2 u3 u4 u5 u6 u7 u8 u9 u10 u11) (p1 : Int32) (as4 : ((p1 &&& (2147483647 : Int32)) - ((p1 &&& (2147483647 : Int32)) / (12 : Int32)) * (12 : Int32)) = (4 : Int32)) (h0 : Heap) (n0 : Nat) (O0 : Old Z n0 h0) : own_Met l Z x code maxLocals ret room_1 #[xi p1] h0 (own_QL (some (xi (1 : Int32))) n0) := by
  intro ws
  refine MetFree.of_bodySF (plainFor_of_name pn0) hisR ?_
  intro p e s m args below meth c s₁ Bd hml0 hP hK
  obtain ⟨rfl, hZ, hh⟩ := hP
  have hx := Bd.exec
  have hby := Bd.bytes
  have hml : c.maxLocals = 3 := hml0
  have hown : s.vm.findClass "com/example/mibwright/mibwright/mib/BaseTypeIsIntegerPinLaw" = some m.cls := findClass_of_methodNamed Bd.named
  have hnm := (name_of_methodNamed Bd.named Bd.method).1
  have X0 : Stand p l e room_1 s m #[xi p1] below meth c s₁ [] 0 0 := Stand.of_body Bd
  have e0 : s₁.heap = h0 := by rw [← hh, Bd.state]; rfl
  have N0 := Fr.nil n0
  have pre0 : ∀ t, Steps p.tables e below (s₁.setTop (mkF m 0 #[vi p1, vu, vu] [])) t → Steps p.tables e below (s₁.setTop (entryFrame m #[xi p1] maxLocals)) t := fun t k => castTop (ef_own_l4 m u0 u1 u2 u3 u4 u5 u6 u7 u8 u9 u10 u11 p1) k
  obtain ⟨_, _, ⟨T1, L1, k1, n1⟩, -, X1, ⟨Lc1, hQ1, l1, y1, z1⟩, st1⟩ := Jvm.LawKit.callS X0 hx (y := Y0) hown (mvT hZ (ww hw 1 rfl)) (mvT hZ (ww hw 2 rfl)) (mvT hZ (ww hw 3 rfl)) (mvT hZ (ww hw 4 rfl)) (by decide) (backOf (W := 0) (own_c16_pick l Z a0 hw u0 u1 u2 u3 u4 u5 u6 u7 u8 u9 u10 u11 G h0 n0 O0 []) hZ (ww hw 4 rfl) (ww hw 3 rfl) (by decide) (by decide)) (g := (mkF m 9 #[vi p1, vi (4 : Int32), vu] [xi (4 : Int32)])) rfl (by rw [hml]; rfl) (argsL := [xi (4 : Int32)]) (rest := []) (lenOf pd0 rfl) rfl (by show 2 * 0 + _ ≤ _; exact Nat.le_of_eq rfl) (hb hby at_9) (fun _ _ => ⟨rfl, e0, (by decide : 0 + 0 ≤ _), (by decide : 0 + 0 ≤ _)⟩)
  dsimp only [Pt.U, Pt.locs, Pt.cells, Pt.slots] at X1 l1 y1 z1 st1 hQ1
  subst l1 y1 z1
  obtain ⟨rfl, Nq1, e1⟩ := hQ1
  have N1 := Fr.app N0 Nq1
  obtain ⟨cq2, kq2, qa2, qb2, qc2⟩ := isOf hZ e1 ((own_X_u5 G).ext O0.2)
  obtain ⟨_, _, ⟨T2, L2, k2, n2⟩, -, X2, ⟨Lc2, hQ2, l2, y2, z2⟩, st2⟩ := X1.virtualBack hx (y := Y3) (z := Y3) hown (mvT hZ (ww hw 8 rfl)) (mvT hZ (ww hw 9 rfl)) (notFace_of_selects (args := #[]) (mvT hZ (ww hw 11 rfl))) (mvT hZ (ww hw 11 rfl)) (mvT hZ (ww hw 10 rfl)) (by decide) (backOf (W := 0) (own_c17_isInteger l Z a0 hw u0 u1 u2 u3 u4 u5 u6 u7 u8 u9 u10 u11 G h0 n0 O0 []) hZ (ww hw 12 rfl) (ww hw 6 rfl) (by decide) (by decide)) qa2 qc2 (g := (mkF m 14 #[vi p1, vi (4 : Int32), vr u5] [xr u5])) rfl (by rw [hml]; rfl) (Steps.refl _) (argsL := []) (rest := []) (lenOf pd2 rfl) rfl (by show 2 * 0 + _ ≤ _; exact Nat.le_of_eq rfl) (hb hby at_14) (fun _ _ => ⟨rfl, e1, (by decide : 0 + 0 ≤ _), (by decide : 0 + 0 ≤ _)⟩)
  dsimp only [Pt.U, Pt.locs, Pt.cells, Pt.slots] at X2 l2 y2 z2 st2 hQ2
  subst l2 y2 z2
  obtain ⟨rfl, Nq2, e2⟩ := hQ2
  have N2 := Fr.app N1 Nq2
  obtain ⟨_, _, ⟨T3, L3, k3, n3⟩, -, X3, ⟨Lc3, hQ3, l3, y3, z3⟩, st3⟩ := Jvm.LawKit.callS X2 hx (y := Y4) hown (mvT hZ (ww hw 22 rfl)) (mvT hZ (ww hw 23 rfl)) (mvT hZ (ww hw 3 rfl)) (mvT hZ (ww hw 24 rfl)) (by decide) (backOf (W := 1) (own_c19_holdsIntegers l Z a0 hw u0 u1 u2 u3 u4 u5 u6 u7 u8 u9 u10 u11 G h0 n0 O0 []) hZ (ww hw 24 rfl) (ww hw 3 rfl) (by decide) (by decide)) (g := (mkF m 18 #[vi p1, vi (4 : Int32), vr u5] [xi (4 : Int32), xi (0 : Int32)])) rfl (by rw [hml]; rfl) (argsL := [xi (4 : Int32)]) (rest := [xi (0 : Int32)]) (lenOf pd3 rfl) rfl (by show 2 * 0 + _ ≤ _; exact Nat.le_of_eq rfl) (hb hby at_18) (fun _ _ => ⟨rfl, e2, (by decide : 0 + 0 ≤ _), (by decide : 0 + 0 ≤ _)⟩)
  dsimp only [Pt.U, Pt.locs, Pt.cells, Pt.slots] at X3 l3 y3 z3 st3 hQ3
  subst l3 y3 z3
  obtain ⟨rfl, Nq3, e3⟩ := hQ3
  have N3 := Fr.app N2 Nq3
  obtain ⟨fs, hr, hrun, hended, hW, hsame⟩ := X3.leave (v := some (xi (1 : Int32))) (fun h => by rw [Bd.returns] at h; cases h)
  refine ⟨_, _, pre0 _ ?_, hrun, hended, _, _, rfl, ?_, ⟨_, rfl⟩, hW, hsame.mono (by decide) (by decide)⟩
  · show own_S p e below s₁ (mkF m 0 #[vi p1, vu, vu] []) _
    refine XS.iloadN X0.here hx rfl (hb hby at_0) rfl ?_
    show own_S p e below s₁ (mkF m 1 #[vi p1, vu, vu] [xi p1]) _
    refine X0.ldcI hx hown (mvT hZ (ww hw 0 rfl)) (g := (mkF m 1 #[vi p1, vu, vu] [xi p1])) rfl (hb hby at_1) ?_
    show own_S p e below s₁ (mkF m 3 #[vi p1, vu, vu] [xi (2147483647 : Int32), xi p1]) _
    refine XS.iand X0.here hx rfl (hb hby at_3) rfl ?_
    show own_S p e below s₁ (mkF m 4 #[vi p1, vu, vu] [xi (p1 &&& (2147483647 : Int32))]) _
    show own_S p e below s₁ (mkF m 4 #[vi p1, vu, vu] [xi (p1 &&& (2147483647 : Int32))]) _
    refine XS.bipush X0.here hx rfl (hb hby at_4) ?_
    show own_S p e below s₁ (mkF m 6 #[vi p1, vu, vu] [xi (12 : Int32), xi (p1 &&& (2147483647 : Int32))]) _
    refine XS.irem X0.here hx rfl (hb hby at_6) rfl (by decide) ?_
    show own_S p e below s₁ (mkF m 7 #[vi p1, vu, vu] [xi ((p1 &&& (2147483647 : Int32)) - ((p1 &&& (2147483647 : Int32)) / (12 : Int32)) * (12 : Int32))]) _
    refine castTop (show (mkF m 7 #[vi p1, vu, vu] [xi ((p1 &&& (2147483647 : Int32)) - ((p1 &&& (2147483647 : Int32)) / (12 : Int32)) * (12 : Int32))]) = (mkF m 7 #[vi p1, vu, vu] [xi (4 : Int32)]) from by rw [as4]) ?_
    show own_S p e below s₁ (mkF m 7 #[vi p1, vu, vu] [xi (4 : Int32)]) _
    refine XS.istoreN X0.here hx rfl (hb hby at_7) rfl (l' := #[vi p1, vi (4 : Int32), vu]) rfl ?_
    show own_S p e below s₁ (mkF m 8 #[vi p1, vi (4 : Int32), vu] []) _
    refine XS.iloadN X0.here hx rfl (hb hby at_8) rfl ?_
    show own_S p e below s₁ (mkF m 9 #[vi p1, vi (4 : Int32), vu] [xi (4 : Int32)]) _
    refine st1 _ ?_
    show own_S p e below T1 (mkF m 12 #[vi p1, vi (4 : Int32), vu] [xr u5]) _
    refine XS.astoreN X1.here hx rfl (hb hby at_12) rfl rfl (l' := #[vi p1, vi (4 : Int32), vr u5]) rfl ?_
    show own_S p e below T1 (mkF m 13 #[vi p1, vi (4 : Int32), vr u5] []) _
    refine XS.aloadN X1.here hx rfl (hb hby at_13) rfl rfl ?_
    show own_S p e below T1 (mkF m 14 #[vi p1, vi (4 : Int32), vr u5] [xr u5]) _
    refine st2.trans ?_
    show own_S p e below T2 (mkF m 17 #[vi p1, vi (4 : Int32), vr u5] [xi (0 : Int32)]) _
    refine XS.iloadN X2.here hx rfl (hb hby at_17) rfl ?_
    show own_S p e below T2 (mkF m 18 #[vi p1, vi (4 : Int32), vr u5] [xi (4 : Int32), xi (0 : Int32)]) _
    refine st3 _ ?_
    show own_S p e below T3 (mkF m 21 #[vi p1, vi (4 : Int32), vr u5] [xi (0 : Int32), xi (0 : Int32)]) _
    refine XS.icmpNo X3.here hx rfl (hb hby at_21) rfl (by decide) ?_
    show own_S p e below T3 (mkF m 24 #[vi p1, vi (4 : Int32), vr u5] []) _
    refine XS.iconst X3.here hx rfl (hb hby at_24) ?_
    show own_S p e below T3 (mkF m 25 #[vi p1, vi (4 : Int32), vr u5] [xi (1 : Int32)]) _
    refine XS.goto X3.here hx rfl (pc0 := 25) (pc' := 29) rfl (hb hby at_25) (by decide) (by decide) ?_
    show own_S p e below T3 (mkF m 29 #[vi p1, vi (4 : Int32), vr u5] [xi (1 : Int32)]) _
    exact retN X3 hx (t := .boolean) Bd.returns (by simp) (hb hby at_29) hr
  · exact ⟨rfl, N3⟩
theorem d1_44 : decode method_2_code 44 = .ok (.iload_n 0, 1) := by decide +kernel
theorem d1_45 : decode method_2_code 45 = .ok (.iconst 5, 1) := by decide +kernel
theorem d1_46 : decode method_2_code 46 = .ok (.if_icmp .ne 7, 3) := by decide +kernel
theorem d1_49 : decode method_2_code 49 = .ok (.getstatic 25, 3) := by decide +kernel
theorem d1_52 : decode method_2_code 52 = .ok (.areturn, 1) := by decide +kernel
theorem ef_own_c20_pick (m : MethodId) (u0 u1 u2 u3 u4 u5 u6 u7 u8 u9 u10 u11 : Addr) : entryFrame m #[xi (5 : Int32)] 1 = (mkF m 0 #[vi (5 : Int32)] []) := by first | (simp [entryFrame, mkF, argsToLocals, Value.category]; done) | rfl
set_option maxRecDepth 65536 in
set_option maxHeartbeats 40000000 in
theorem own_c20_pick (l : Launch) (Z : State) (a0 : Array Value) (hw : ∀ d ∈ tables_1, d.before a0 Z = true) (u0 u1 u2 u3 u4 u5 u6 u7 u8 u9 u10 u11 : Addr) (G : own_St Z u0 u1 u2 u3 u4 u5 u6 u7 u8 u9 u10 u11) (h0 : Heap) (n0 : Nat) (O0 : Old Z n0 h0) : own_Met l Z Y0 method_2_code 1 (some (.object "com/example/mibwright/mibwright/mib/BaseType")) ({ frames := 0, cells := 0, slots := 0, locals := 0 } : Room) #[xi (5 : Int32)] h0 (own_QR (some (xr u11)) h0 n0) := by
  intro ws
  refine MetFree.of_bodySF (plainFor_of_name pn0) hisR ?_
  intro p e s m args below meth c s₁ Bd hml0 hP hK
  obtain ⟨rfl, hZ, hh⟩ := hP
  have hx := Bd.exec
  have hby := Bd.bytes
  have hml : c.maxLocals = 1 := hml0
  have hown : s.vm.findClass "com/example/mibwright/mibwright/mib/BaseTypeIsIntegerPinLaw" = some m.cls := findClass_of_methodNamed Bd.named
  have hnm := (name_of_methodNamed Bd.named Bd.method).1
  have X0 : Stand p l e ({ frames := 0, cells := 0, slots := 0, locals := 0 } : Room) s m #[xi (5 : Int32)] below meth c s₁ [] 0 0 := Stand.of_body Bd
  have e0 : s₁.heap = h0 := by rw [← hh, Bd.state]; rfl
  have N0 := Fr.nil n0
  have pre0 : ∀ t, Steps p.tables e below (s₁.setTop (mkF m 0 #[vi (5 : Int32)] [])) t → Steps p.tables e below (s₁.setTop (entryFrame m #[xi (5 : Int32)] 1)) t := fun t k => castTop (ef_own_c20_pick m u0 u1 u2 u3 u4 u5 u6 u7 u8 u9 u10 u11) k
  obtain ⟨T1, X1, e1, st1⟩ := getS2 X0 hx hZ hown (host := "") (Or.inl (ww hw 45 rfl)) Via.refl e0 ((own_S_u11 G).ext O0.2) (g := (mkF m 49 #[vi (5 : Int32)] [])) rfl (hb hby d1_49)
  obtain ⟨fs, hr, hrun, hended, hW, hsame⟩ := X1.leave (v := some (xr u11)) (fun h => by rw [Bd.returns] at h; cases h)
  refine ⟨_, _, pre0 _ ?_, hrun, hended, _, _, rfl, ?_, ⟨_, rfl⟩, hW, hsame.mono (by decide) (by decide)⟩
  · show own_S p e below s₁ (mkF m 0 #[vi (5 : Int32)] []) _
    refine XS.iloadN X0.here hx rfl (hb hby d1_0) rfl ?_
    show own_S p e below s₁ (mkF m 1 #[vi (5 : Int32)] [xi (5 : Int32)]) _
    refine XS.ifYes X0.here hx rfl (pc0 := 1) (pc' := 8) rfl (hb hby d1_1) rfl (by decide) (by decide) (by decide) ?_
    show own_S p e below s₁ (mkF m 8 #[vi (5 : Int32)] []) _
    refine XS.iloadN X0.here hx rfl (hb hby d1_8) rfl ?_
    show own_S p e below s₁ (mkF m 9 #[vi (5 : Int32)] [xi (5 : Int32)]) _
    refine XS.iconst X0.here hx rfl (hb hby d1_9) ?_
    show own_S p e below s₁ (mkF m 10 #[vi (5 : Int32)] [xi (1 : Int32), xi (5 : Int32)]) _
    refine XS.icmpYes X0.here hx rfl (pc0 := 10) (pc' := 17) rfl (hb hby d1_10) rfl (by decide) (by decide) (by decide) ?_
    show own_S p e below s₁ (mkF m 17 #[vi (5 : Int32)] []) _
    refine XS.iloadN X0.here hx rfl (hb hby d1_17) rfl ?_
    show own_S p e below s₁ (mkF m 18 #[vi (5 : Int32)] [xi (5 : Int32)]) _
    refine XS.iconst X0.here hx rfl (hb hby d1_18) ?_
    show own_S p e below s₁ (mkF m 19 #[vi (5 : Int32)] [xi (2 : Int32), xi (5 : Int32)]) _
    refine XS.icmpYes X0.here hx rfl (pc0 := 19) (pc' := 26) rfl (hb hby d1_19) rfl (by decide) (by decide) (by decide) ?_
    show own_S p e below s₁ (mkF m 26 #[vi (5 : Int32)] []) _
    refine XS.iloadN X0.here hx rfl (hb hby d1_26) rfl ?_
    show own_S p e below s₁ (mkF m 27 #[vi (5 : Int32)] [xi (5 : Int32)]) _
    refine XS.iconst X0.here hx rfl (hb hby d1_27) ?_
    show own_S p e below s₁ (mkF m 28 #[vi (5 : Int32)] [xi (3 : Int32), xi (5 : Int32)]) _
    refine XS.icmpYes X0.here hx rfl (pc0 := 28) (pc' := 35) rfl (hb hby d1_28) rfl (by decide) (by decide) (by decide) ?_
    show own_S p e below s₁ (mkF m 35 #[vi (5 : Int32)] []) _
    refine XS.iloadN X0.here hx rfl (hb hby d1_35) rfl ?_
    show own_S p e below s₁ (mkF m 36 #[vi (5 : Int32)] [xi (5 : Int32)]) _
    refine XS.iconst X0.here hx rfl (hb hby d1_36) ?_
    show own_S p e below s₁ (mkF m 37 #[vi (5 : Int32)] [xi (4 : Int32), xi (5 : Int32)]) _
    refine XS.icmpYes X0.here hx rfl (pc0 := 37) (pc' := 44) rfl (hb hby d1_37) rfl (by decide) (by decide) (by decide) ?_
    show own_S p e below s₁ (mkF m 44 #[vi (5 : Int32)] []) _
    refine XS.iloadN X0.here hx rfl (hb hby d1_44) rfl ?_
    show own_S p e below s₁ (mkF m 45 #[vi (5 : Int32)] [xi (5 : Int32)]) _
    refine XS.iconst X0.here hx rfl (hb hby d1_45) ?_
    show own_S p e below s₁ (mkF m 46 #[vi (5 : Int32)] [xi (5 : Int32), xi (5 : Int32)]) _
    refine XS.icmpNo X0.here hx rfl (hb hby d1_46) rfl (by decide) ?_
    show own_S p e below s₁ (mkF m 49 #[vi (5 : Int32)] []) _
    refine st1 _ ?_
    show own_S p e below T1 (mkF m 52 #[vi (5 : Int32)] [xr u11]) _
    exact X1.areturnOut hx rfl Bd.returns rfl (hb hby d1_52) hr
  · exact ⟨rfl, N0, e1⟩
theorem ef_own_c21_ordinal (m : MethodId) (u0 u1 u2 u3 u4 u5 u6 u7 u8 u9 u10 u11 : Addr) : entryFrame m #[xr u11] 1 = (mkF m 0 #[vr u11] []) := by first | (simp [entryFrame, mkF, argsToLocals, Value.category]; done) | rfl
set_option maxRecDepth 65536 in
set_option maxHeartbeats 40000000 in
theorem own_c21_ordinal (l : Launch) (Z : State) (a0 : Array Value) (hw : ∀ d ∈ tables_1, d.before a0 Z = true) (u0 u1 u2 u3 u4 u5 u6 u7 u8 u9 u10 u11 : Addr) (G : own_St Z u0 u1 u2 u3 u4 u5 u6 u7 u8 u9 u10 u11) (h0 : Heap) (n0 : Nat) (O0 : Old Z n0 h0) : own_Met l Z Y1 jdk_37_method_2_code 1 (some .int) ({ frames := 0, cells := 0, slots := 0, locals := 0 } : Room) #[xr u11] h0 (own_QR (some (xi (5 : Int32))) h0 n0) := by
  intro ws
  refine MetFree.of_bodySF (plainFor_of_name pn1) hisR ?_
  intro p e s m args below meth c s₁ Bd hml0 hP hK
  obtain ⟨rfl, hZ, hh⟩ := hP
  have hx := Bd.exec
  have hby := Bd.bytes
  have hml : c.maxLocals = 1 := hml0
  have hown : s.vm.findClass "java/lang/Enum" = some m.cls := findClass_of_methodNamed Bd.named
  have hnm := (name_of_methodNamed Bd.named Bd.method).1
  have X0 : Stand p l e ({ frames := 0, cells := 0, slots := 0, locals := 0 } : Room) s m #[xr u11] below meth c s₁ [] 0 0 := Stand.of_body Bd
  have e0 : s₁.heap = h0 := by rw [← hh, Bd.state]; rfl
  have N0 := Fr.nil n0
  have pre0 : ∀ t, Steps p.tables e below (s₁.setTop (mkF m 0 #[vr u11] [])) t → Steps p.tables e below (s₁.setTop (entryFrame m #[xr u11] 1)) t := fun t k => castTop (ef_own_c21_ordinal m u0 u1 u2 u3 u4 u5 u6 u7 u8 u9 u10 u11) k
  obtain ⟨T1, X1, e1, st1⟩ := getF X0 hx hZ hown (host := "") (Or.inl (ww hw 20 rfl)) Via.refl e0 ((own_F_u11_ordinal G).ext O0.2) (g := (mkF m 1 #[vr u11] [xr u11])) rfl rfl (hb hby d3_1)
  obtain ⟨fs, hr, hrun, hended, hW, hsame⟩ := X1.leave (v := some (xi (5 : Int32))) (fun h => by rw [Bd.returns] at h; cases h)
  refine ⟨_, _, pre0 _ ?_, hrun, hended, _, _, rfl, ?_, ⟨_, rfl⟩, hW, hsame.mono (by decide) (by decide)⟩
  · show own_S p e below s₁ (mkF m 0 #[vr u11] []) _
    refine XS.aloadN X0.here hx rfl (hb hby d3_0) rfl rfl ?_
    show own_S p e below s₁ (mkF m 1 #[vr u11] [xr u11]) _
    refine st1 _ ?_
    show own_S p e below T1 (mkF m 4 #[vr u11] [xi (5 : Int32)]) _
    exact retI X1 hx Bd.returns (hb hby d3_4) hr
  · exact ⟨rfl, N0, e1⟩
theorem ef_own_c21_isInteger (m : MethodId) (u0 u1 u2 u3 u4 u5 u6 u7 u8 u9 u10 u11 : Addr) : entryFrame m #[xr u11] 1 = (mkF m 0 #[vr u11] []) := by first | (simp [entryFrame, mkF, argsToLocals, Value.category]; done) | rfl
set_option maxRecDepth 65536 in
set_option maxHeartbeats 40000000 in
theorem own_c21_isInteger (l : Launch) (Z : State) (a0 : Array Value) (hw : ∀ d ∈ tables_1, d.before a0 Z = true) (u0 u1 u2 u3 u4 u5 u6 u7 u8 u9 u10 u11 : Addr) (G : own_St Z u0 u1 u2 u3 u4 u5 u6 u7 u8 u9 u10 u11) (h0 : Heap) (n0 : Nat) (O0 : Old Z n0 h0) : own_Met l Z Y3 prog_26_method_5_code 1 (some .boolean) ({ frames := 1, cells := 0, slots := 0, locals := 12 } : Room) #[xr u11] h0 (own_QR (some (xi (0 : Int32))) h0 n0) := by
  intro ws
  refine MetFree.of_bodySF (plainFor_of_name pn2) hisR ?_
  intro p e s m args below meth c s₁ Bd hml0 hP hK
  obtain ⟨rfl, hZ, hh⟩ := hP
  have hx := Bd.exec
  have hby := Bd.bytes
  have hml : c.maxLocals = 1 := hml0
  have hown : s.vm.findClass "com/example/mibwright/mibwright/mib/BaseType" = some m.cls := findClass_of_methodNamed Bd.named
  have hnm := (name_of_methodNamed Bd.named Bd.method).1
  have X0 : Stand p l e ({ frames := 1, cells := 0, slots := 0, locals := 12 } : Room) s m #[xr u11] below meth c s₁ [] 0 0 := Stand.of_body Bd
  have e0 : s₁.heap = h0 := by rw [← hh, Bd.state]; rfl
  have N0 := Fr.nil n0
  have pre0 : ∀ t, Steps p.tables e below (s₁.setTop (mkF m 0 #[vr u11] [])) t → Steps p.tables e below (s₁.setTop (entryFrame m #[xr u11] 1)) t := fun t k => castTop (ef_own_c21_isInteger m u0 u1 u2 u3 u4 u5 u6 u7 u8 u9 u10 u11) k
  obtain ⟨cq1, kq1, qa1, qb1, qc1⟩ := isOf hZ e0 ((own_X_u11 G).ext O0.2)
  obtain ⟨_, _, ⟨T1, L1, k1, n1⟩, -, X1, ⟨Lc1, hQ1, l1, y1, z1⟩, st1⟩ := X0.virtualBackUp hx (x := Y2) (y := Y1) hown (mvT hZ (ww hw 13 rfl)) (mvT hZ (ww hw 14 rfl)) (mvT hZ (ww hw 15 rfl)) (by decide) (mvT hZ (ww hw 17 rfl)) (mvT hZ (ww hw 16 rfl)) (backOf (W := 0) (own_c21_ordinal l Z a0 hw u0 u1 u2 u3 u4 u5 u6 u7 u8 u9 u10 u11 G h0 n0 O0 []) hZ (ww hw 19 rfl) (ww hw 18 rfl) (by decide) (by decide)) qa1 qc1 (g := (mkF m 1 #[vr u11] [xr u11])) rfl (by rw [hml]; rfl) (Steps.refl _) (argsL := []) (rest := []) (lenOf pd1 rfl) rfl (by show 2 * 0 + _ ≤ _; exact Nat.le_of_eq rfl) (hb hby d2_1) (fun _ _ => ⟨rfl, e0, (by decide : 0 + 0 ≤ _), (by decide : 0 + 0 ≤ _)⟩)
  dsimp only [Pt.U, Pt.locs, Pt.cells, Pt.slots] at X1 l1 y1 z1 st1 hQ1
  subst l1 y1 z1
  obtain ⟨rfl, Nq1, e1⟩ := hQ1
  have N1 := Fr.app N0 Nq1
  obtain ⟨fs, hr, hrun, hended, hW, hsame⟩ := X1.leave (v := some (xi (0 : Int32))) (fun h => by rw [Bd.returns] at h; cases h)
  refine ⟨_, _, pre0 _ ?_, hrun, hended, _, _, rfl, ?_, ⟨_, rfl⟩, hW, hsame.mono (by decide) (by decide)⟩
  · show own_S p e below s₁ (mkF m 0 #[vr u11] []) _
    refine XS.aloadN X0.here hx rfl (hb hby d2_0) rfl rfl ?_
    show own_S p e below s₁ (mkF m 1 #[vr u11] [xr u11]) _
    refine st1.trans ?_
    show own_S p e below T1 (mkF m 4 #[vr u11] [xi (5 : Int32)]) _
    refine XS.tswIn X1.here hx rfl (pc0 := 4) (pc' := 82) (o := 78) rfl (hb hby d2_4) rfl (by decide) (by decide) (by decide) (by decide) ?_
    show own_S p e below T1 (mkF m 82 #[vr u11] []) _
    refine XS.iconst X1.here hx rfl (hb hby d2_82) ?_
    show own_S p e below T1 (mkF m 83 #[vr u11] [xi (0 : Int32)]) _
    exact retN X1 hx (t := .boolean) Bd.returns (by simp) (hb hby d2_83) hr
  · exact ⟨rfl, N1, e1⟩
theorem ef_own_c23_holdsIntegers (m : MethodId) (u0 u1 u2 u3 u4 u5 u6 u7 u8 u9 u10 u11 : Addr) : entryFrame m #[xi (5 : Int32)] 1 = (mkF m 0 #[vi (5 : Int32)] []) := by first | (simp [entryFrame, mkF, argsToLocals, Value.category]; done) | rfl
set_option maxRecDepth 65536 in
set_option maxHeartbeats 40000000 in
theorem own_c23_holdsIntegers (l : Launch) (Z : State) (a0 : Array Value) (hw : ∀ d ∈ tables_1, d.before a0 Z = true) (u0 u1 u2 u3 u4 u5 u6 u7 u8 u9 u10 u11 : Addr) (G : own_St Z u0 u1 u2 u3 u4 u5 u6 u7 u8 u9 u10 u11) (h0 : Heap) (n0 : Nat) (O0 : Old Z n0 h0) : own_Met l Z Y4 method_3_code 1 (some .boolean) ({ frames := 0, cells := 0, slots := 0, locals := 0 } : Room) #[xi (5 : Int32)] h0 (own_QR (some (xi (0 : Int32))) h0 n0) := by
  intro ws
  refine MetFree.of_bodySF (plainFor_of_name pn0) hisR ?_
  intro p e s m args below meth c s₁ Bd hml0 hP hK
  obtain ⟨rfl, hZ, hh⟩ := hP
  have hx := Bd.exec
  have hby := Bd.bytes
  have hml : c.maxLocals = 1 := hml0
  have hown : s.vm.findClass "com/example/mibwright/mibwright/mib/BaseTypeIsIntegerPinLaw" = some m.cls := findClass_of_methodNamed Bd.named
  have hnm := (name_of_methodNamed Bd.named Bd.method).1
  have X0 : Stand p l e ({ frames := 0, cells := 0, slots := 0, locals := 0 } : Room) s m #[xi (5 : Int32)] below meth c s₁ [] 0 0 := Stand.of_body Bd
  have e0 : s₁.heap = h0 := by rw [← hh, Bd.state]; rfl
  have N0 := Fr.nil n0
  have pre0 : ∀ t, Steps p.tables e below (s₁.setTop (mkF m 0 #[vi (5 : Int32)] [])) t → Steps p.tables e below (s₁.setTop (entryFrame m #[xi (5 : Int32)] 1)) t := fun t k => castTop (ef_own_c23_holdsIntegers m u0 u1 u2 u3 u4 u5 u6 u7 u8 u9 u10 u11) k
  obtain ⟨fs, hr, hrun, hended, hW, hsame⟩ := X0.leave (v := some (xi (0 : Int32))) (fun h => by rw [Bd.returns] at h; cases h)
  refine ⟨_, _, pre0 _ ?_, hrun, hended, _, _, rfl, ?_, ⟨_, rfl⟩, hW, hsame.mono (by decide) (by decide)⟩
  · show own_S p e below s₁ (mkF m 0 #[vi (5 : Int32)] []) _
    refine XS.iloadN X0.here hx rfl (hb hby d4_0) rfl ?_
    show own_S p e below s₁ (mkF m 1 #[vi (5 : Int32)] [xi (5 : Int32)]) _
    refine XS.iconst X0.here hx rfl (hb hby d4_1) ?_
    show own_S p e below s₁ (mkF m 2 #[vi (5 : Int32)] [xi (2 : Int32), xi (5 : Int32)]) _
    refine XS.icmpNo X0.here hx rfl (hb hby d4_2) rfl (by decide) ?_
    show own_S p e below s₁ (mkF m 5 #[vi (5 : Int32)] []) _
    refine XS.iloadN X0.here hx rfl (hb hby d4_5) rfl ?_
    show own_S p e below s₁ (mkF m 6 #[vi (5 : Int32)] [xi (5 : Int32)]) _
    refine XS.iconst X0.here hx rfl (hb hby d4_6) ?_
    show own_S p e below s₁ (mkF m 7 #[vi (5 : Int32)] [xi (3 : Int32), xi (5 : Int32)]) _
    refine XS.icmpNo X0.here hx rfl (hb hby d4_7) rfl (by decide) ?_
    show own_S p e below s₁ (mkF m 10 #[vi (5 : Int32)] []) _
    refine XS.iloadN X0.here hx rfl (hb hby d4_10) rfl ?_
    show own_S p e below s₁ (mkF m 11 #[vi (5 : Int32)] [xi (5 : Int32)]) _
    refine XS.iconst X0.here hx rfl (hb hby d4_11) ?_
    show own_S p e below s₁ (mkF m 12 #[vi (5 : Int32)] [xi (4 : Int32), xi (5 : Int32)]) _
    refine XS.icmpNo X0.here hx rfl (hb hby d4_12) rfl (by decide) ?_
    show own_S p e below s₁ (mkF m 15 #[vi (5 : Int32)] []) _
    refine XS.iloadN X0.here hx rfl (hb hby d4_15) rfl ?_
    show own_S p e below s₁ (mkF m 16 #[vi (5 : Int32)] [xi (5 : Int32)]) _
    refine XS.iconst X0.here hx rfl (hb hby d4_16) ?_
    show own_S p e below s₁ (mkF m 17 #[vi (5 : Int32)] [xi (5 : Int32), xi (5 : Int32)]) _
    refine XS.icmpYes X0.here hx rfl (pc0 := 17) (pc' := 26) rfl (hb hby d4_17) rfl (by decide) (by decide) (by decide) ?_
    show own_S p e below s₁ (mkF m 26 #[vi (5 : Int32)] []) _
    refine XS.iconst X0.here hx rfl (hb hby d4_26) ?_
    show own_S p e below s₁ (mkF m 27 #[vi (5 : Int32)] [xi (0 : Int32)]) _
    exact retN X0 hx (t := .boolean) Bd.returns (by simp) (hb hby d4_27) hr
  · exact ⟨rfl, N0, e0⟩
theorem ef_own_l5 (m : MethodId) (u0 u1 u2 u3 u4 u5 u6 u7 u8 u9 u10 u11 : Addr) (p1 : Int32) : entryFrame m #[xi p1] maxLocals = (mkF m 0 #[vi p1, vu, vu] []) := by first | (simp [entryFrame, mkF, argsToLocals, Value.category, maxLocals]; done) | rfl
set_option maxRecDepth 65536 in
set_option maxHeartbeats 40000000 in
theorem own_l5 (l : Launch) (Z : State) (a0 : Array Value) (hw : ∀ d ∈ tables_1, d.before a0 Z = true) (u0 u1 u2 u3 u4 u5 u6 u7 u8 u9 u10 u11 : Addr) (G : own_St Z u0 u1 u2 u3 u4 u5 u6 u7 u8 u9 u10 u11) (p1 : Int32) (as5 : ((p1 &&& (2147483647 : Int32)) - ((p1 &&& (2147483647 : Int32)) / (12 : Int32)) * (12 : Int32)) = (5 : Int32)) (h0 : Heap) (n0 : Nat) (O0 : Old Z n0 h0) : own_Met l Z x code maxLocals ret room_1 #[xi p1] h0 (own_QL (some (xi (1 : Int32))) n0) := by
  intro ws
  refine MetFree.of_bodySF (plainFor_of_name pn0) hisR ?_
  intro p e s m args below meth c s₁ Bd hml0 hP hK
  obtain ⟨rfl, hZ, hh⟩ := hP
  have hx := Bd.exec
  have hby := Bd.bytes
  have hml : c.maxLocals = 3 := hml0
  have hown : s.vm.findClass "com/example/mibwright/mibwright/mib/BaseTypeIsIntegerPinLaw" = some m.cls := findClass_of_methodNamed Bd.named
  have hnm := (name_of_methodNamed Bd.named Bd.method).1
  have X0 : Stand p l e room_1 s m #[xi p1] below meth c s₁ [] 0 0 := Stand.of_body Bd
  have e0 : s₁.heap = h0 := by rw [← hh, Bd.state]; rfl
  have N0 := Fr.nil n0
  have pre0 : ∀ t, Steps p.tables e below (s₁.setTop (mkF m 0 #[vi p1, vu, vu] [])) t → Steps p.tables e below (s₁.setTop (entryFrame m #[xi p1] maxLocals)) t := fun t k => castTop (ef_own_l5 m u0 u1 u2 u3 u4 u5 u6 u7 u8 u9 u10 u11 p1) k
  obtain ⟨_, _, ⟨T1, L1, k1, n1⟩, -, X1, ⟨Lc1, hQ1, l1, y1, z1⟩, st1⟩ := Jvm.LawKit.callS X0 hx (y := Y0) hown (mvT hZ (ww hw 1 rfl)) (mvT hZ (ww hw 2 rfl)) (mvT hZ (ww hw 3 rfl)) (mvT hZ (ww hw 4 rfl)) (by decide) (backOf (W := 0) (own_c20_pick l Z a0 hw u0 u1 u2 u3 u4 u5 u6 u7 u8 u9 u10 u11 G h0 n0 O0 []) hZ (ww hw 4 rfl) (ww hw 3 rfl) (by decide) (by decide)) (g := (mkF m 9 #[vi p1, vi (5 : Int32), vu] [xi (5 : Int32)])) rfl (by rw [hml]; rfl) (argsL := [xi (5 : Int32)]) (rest := []) (lenOf pd0 rfl) rfl (by show 2 * 0 + _ ≤ _; exact Nat.le_of_eq rfl) (hb hby at_9) (fun _ _ => ⟨rfl, e0, (by decide : 0 + 0 ≤ _), (by decide : 0 + 0 ≤ _)⟩)
  dsimp only [Pt.U, Pt.locs, Pt.cells, Pt.slots] at X1 l1 y1 z1 st1 hQ1
  subst l1 y1 z1
  obtain ⟨rfl, Nq1, e1⟩ := hQ1
  have N1 := Fr.app N0 Nq1
  obtain ⟨cq2, kq2, qa2, qb2, qc2⟩ := isOf hZ e1 ((own_X_u11 G).ext O0.2)
  obtain ⟨_, _, ⟨T2, L2, k2, n2⟩, -, X2, ⟨Lc2, hQ2, l2, y2, z2⟩, st2⟩ := X1.virtualBack hx (y := Y3) (z := Y3) hown (mvT hZ (ww hw 8 rfl)) (mvT hZ (ww hw 9 rfl)) (notFace_of_selects (args := #[]) (mvT hZ (ww hw 11 rfl))) (mvT hZ (ww hw 11 rfl)) (mvT hZ (ww hw 10 rfl)) (by decide) (backOf (W := 0) (own_c21_isInteger l Z a0 hw u0 u1 u2 u3 u4 u5 u6 u7 u8 u9 u10 u11 G h0 n0 O0 []) hZ (ww hw 12 rfl) (ww hw 6 rfl) (by decide) (by decide)) qa2 qc2 (g := (mkF m 14 #[vi p1, vi (5 : Int32), vr u11] [xr u11])) rfl (by rw [hml]; rfl) (Steps.refl _) (argsL := []) (rest := []) (lenOf pd2 rfl) rfl (by show 2 * 0 + _ ≤ _; exact Nat.le_of_eq rfl) (hb hby at_14) (fun _ _ => ⟨rfl, e1, (by decide : 0 + 0 ≤ _), (by decide : 0 + 0 ≤ _)⟩)
  dsimp only [Pt.U, Pt.locs, Pt.cells, Pt.slots] at X2 l2 y2 z2 st2 hQ2
  subst l2 y2 z2
  obtain ⟨rfl, Nq2, e2⟩ := hQ2
  have N2 := Fr.app N1 Nq2
  obtain ⟨_, _, ⟨T3, L3, k3, n3⟩, -, X3, ⟨Lc3, hQ3, l3, y3, z3⟩, st3⟩ := Jvm.LawKit.callS X2 hx (y := Y4) hown (mvT hZ (ww hw 22 rfl)) (mvT hZ (ww hw 23 rfl)) (mvT hZ (ww hw 3 rfl)) (mvT hZ (ww hw 24 rfl)) (by decide) (backOf (W := 1) (own_c23_holdsIntegers l Z a0 hw u0 u1 u2 u3 u4 u5 u6 u7 u8 u9 u10 u11 G h0 n0 O0 []) hZ (ww hw 24 rfl) (ww hw 3 rfl) (by decide) (by decide)) (g := (mkF m 18 #[vi p1, vi (5 : Int32), vr u11] [xi (5 : Int32), xi (0 : Int32)])) rfl (by rw [hml]; rfl) (argsL := [xi (5 : Int32)]) (rest := [xi (0 : Int32)]) (lenOf pd3 rfl) rfl (by show 2 * 0 + _ ≤ _; exact Nat.le_of_eq rfl) (hb hby at_18) (fun _ _ => ⟨rfl, e2, (by decide : 0 + 0 ≤ _), (by decide : 0 + 0 ≤ _)⟩)
  dsimp only [Pt.U, Pt.locs, Pt.cells, Pt.slots] at X3 l3 y3 z3 st3 hQ3
  subst l3 y3 z3
  obtain ⟨rfl, Nq3, e3⟩ := hQ3
  have N3 := Fr.app N2 Nq3
  obtain ⟨fs, hr, hrun, hended, hW, hsame⟩ := X3.leave (v := some (xi (1 : Int32))) (fun h => by rw [Bd.returns] at h; cases h)
  refine ⟨_, _, pre0 _ ?_, hrun, hended, _, _, rfl, ?_, ⟨_, rfl⟩, hW, hsame.mono (by decide) (by decide)⟩
  · show own_S p e below s₁ (mkF m 0 #[vi p1, vu, vu] []) _
    refine XS.iloadN X0.here hx rfl (hb hby at_0) rfl ?_
    show own_S p e below s₁ (mkF m 1 #[vi p1, vu, vu] [xi p1]) _
    refine X0.ldcI hx hown (mvT hZ (ww hw 0 rfl)) (g := (mkF m 1 #[vi p1, vu, vu] [xi p1])) rfl (hb hby at_1) ?_
    show own_S p e below s₁ (mkF m 3 #[vi p1, vu, vu] [xi (2147483647 : Int32), xi p1]) _
    refine XS.iand X0.here hx rfl (hb hby at_3) rfl ?_
    show own_S p e below s₁ (mkF m 4 #[vi p1, vu, vu] [xi (p1 &&& (2147483647 : Int32))]) _
    show own_S p e below s₁ (mkF m 4 #[vi p1, vu, vu] [xi (p1 &&& (2147483647 : Int32))]) _
    refine XS.bipush X0.here hx rfl (hb hby at_4) ?_
    show own_S p e below s₁ (mkF m 6 #[vi p1, vu, vu] [xi (12 : Int32), xi (p1 &&& (2147483647 : Int32))]) _
    refine XS.irem X0.here hx rfl (hb hby at_6) rfl (by decide) ?_
    show own_S p e below s₁ (mkF m 7 #[vi p1, vu, vu] [xi ((p1 &&& (2147483647 : Int32)) - ((p1 &&& (2147483647 : Int32)) / (12 : Int32)) * (12 : Int32))]) _
    refine castTop (show (mkF m 7 #[vi p1, vu, vu] [xi ((p1 &&& (2147483647 : Int32)) - ((p1 &&& (2147483647 : Int32)) / (12 : Int32)) * (12 : Int32))]) = (mkF m 7 #[vi p1, vu, vu] [xi (5 : Int32)]) from by rw [as5]) ?_
    show own_S p e below s₁ (mkF m 7 #[vi p1, vu, vu] [xi (5 : Int32)]) _
    refine XS.istoreN X0.here hx rfl (hb hby at_7) rfl (l' := #[vi p1, vi (5 : Int32), vu]) rfl ?_
    show own_S p e below s₁ (mkF m 8 #[vi p1, vi (5 : Int32), vu] []) _
    refine XS.iloadN X0.here hx rfl (hb hby at_8) rfl ?_
    show own_S p e below s₁ (mkF m 9 #[vi p1, vi (5 : Int32), vu] [xi (5 : Int32)]) _
    refine st1 _ ?_
    show own_S p e below T1 (mkF m 12 #[vi p1, vi (5 : Int32), vu] [xr u11]) _
    refine XS.astoreN X1.here hx rfl (hb hby at_12) rfl rfl (l' := #[vi p1, vi (5 : Int32), vr u11]) rfl ?_
    show own_S p e below T1 (mkF m 13 #[vi p1, vi (5 : Int32), vr u11] []) _
    refine XS.aloadN X1.here hx rfl (hb hby at_13) rfl rfl ?_
    show own_S p e below T1 (mkF m 14 #[vi p1, vi (5 : Int32), vr u11] [xr u11]) _
    refine st2.trans ?_
    show own_S p e below T2 (mkF m 17 #[vi p1, vi (5 : Int32), vr u11] [xi (0 : Int32)]) _
    refine XS.iloadN X2.here hx rfl (hb hby at_17) rfl ?_
    show own_S p e below T2 (mkF m 18 #[vi p1, vi (5 : Int32), vr u11] [xi (5 : Int32), xi (0 : Int32)]) _
    refine st3 _ ?_
    show own_S p e below T3 (mkF m 21 #[vi p1, vi (5 : Int32), vr u11] [xi (0 : Int32), xi (0 : Int32)]) _
    refine XS.icmpNo X3.here hx rfl (hb hby at_21) rfl (by decide) ?_
    show own_S p e below T3 (mkF m 24 #[vi p1, vi (5 : Int32), vr u11] []) _
    refine XS.iconst X3.here hx rfl (hb hby at_24) ?_
    show own_S p e below T3 (mkF m 25 #[vi p1, vi (5 : Int32), vr u11] [xi (1 : Int32)]) _
    refine XS.goto X3.here hx rfl (pc0 := 25) (pc' := 29) rfl (hb hby at_25) (by decide) (by decide) ?_
    show own_S p e below T3 (mkF m 29 #[vi p1, vi (5 : Int32), vr u11] [xi (1 : Int32)]) _
    exact retN X3 hx (t := .boolean) Bd.returns (by simp) (hb hby at_29) hr
  · exact ⟨rfl, N3⟩
theorem d1_53 : decode method_2_code 53 = .ok (.iload_n 0, 1) := by decide +kernel
theorem d1_54 : decode method_2_code 54 = .ok (.bipush 6, 2) := by decide +kernel
theorem d1_56 : decode method_2_code 56 = .ok (.if_icmp .ne 7, 3) := by decide +kernel
theorem d1_59 : decode method_2_code 59 = .ok (.getstatic 28, 3) := by decide +kernel
theorem d1_62 : decode method_2_code 62 = .ok (.areturn, 1) := by decide +kernel
theorem ef_own_c24_pick (m : MethodId) (u0 u1 u2 u3 u4 u5 u6 u7 u8 u9 u10 u11 : Addr) : entryFrame m #[xi (6 : Int32)] 1 = (mkF m 0 #[vi (6 : Int32)] []) := by first | (simp [entryFrame, mkF, argsToLocals, Value.category]; done) | rfl
set_option maxRecDepth 65536 in
set_option maxHeartbeats 40000000 in
theorem own_c24_pick (l : Launch) (Z : State) (a0 : Array Value) (hw : ∀ d ∈ tables_1, d.before a0 Z = true) (u0 u1 u2 u3 u4 u5 u6 u7 u8 u9 u10 u11 : Addr) (G : own_St Z u0 u1 u2 u3 u4 u5 u6 u7 u8 u9 u10 u11) (h0 : Heap) (n0 : Nat) (O0 : Old Z n0 h0) : own_Met l Z Y0 method_2_code 1 (some (.object "com/example/mibwright/mibwright/mib/BaseType")) ({ frames := 0, cells := 0, slots := 0, locals := 0 } : Room) #[xi (6 : Int32)] h0 (own_QR (some (xr u10)) h0 n0) := by
  intro ws
  refine MetFree.of_bodySF (plainFor_of_name pn0) hisR ?_
  intro p e s m args below meth c s₁ Bd hml0 hP hK
  obtain ⟨rfl, hZ, hh⟩ := hP
  have hx := Bd.exec
  have hby := Bd.bytes
  have hml : c.maxLocals = 1 := hml0
  have hown : s.vm.findClass "com/example/mibwright/mibwright/mib/BaseTypeIsIntegerPinLaw" = some m.cls := findClass_of_methodNamed Bd.named
  have hnm := (name_of_methodNamed Bd.named Bd.method).1
  have X0 : Stand p l e ({ frames := 0, cells := 0, slots := 0, locals := 0 } : Room) s m #[xi (6 : Int32)] below meth c s₁ [] 0 0 := Stand.of_body Bd
  have e0 : s₁.heap = h0 := by rw [← hh, Bd.state]; rfl
  have N0 := Fr.nil n0
  have pre0 : ∀ t, Steps p.tables e below (s₁.setTop (mkF m 0 #[vi (6 : Int32)] [])) t → Steps p.tables e below (s₁.setTop (entryFrame m #[xi (6 : Int32)] 1)) t := fun t k => castTop (ef_own_c24_pick m u0 u1 u2 u3 u4 u5 u6 u7 u8 u9 u10 u11) k
  obtain ⟨T1, X1, e1, st1⟩ := getS2 X0 hx hZ hown (host := "") (Or.inl (ww hw 43 rfl)) Via.refl e0 ((own_S_u10 G).ext O0.2) (g := (mkF m 59 #[vi (6 : Int32)] [])) rfl (hb hby d1_59)
  obtain ⟨fs, hr, hrun, hended, hW, hsame⟩ := X1.leave (v := some (xr u10)) (fun h => by rw [Bd.returns] at h; cases h)
  refine ⟨_, _, pre0 _ ?_, hrun, hended, _, _, rfl, ?_, ⟨_, rfl⟩, hW, hsame.mono (by decide) (by decide)⟩
  · show own_S p e below s₁ (mkF m 0 #[vi (6 : Int32)] []) _
    refine XS.iloadN X0.here hx rfl (hb hby d1_0) rfl ?_
    show own_S p e below s₁ (mkF m 1 #[vi (6 : Int32)] [xi (6 : Int32)]) _
    refine XS.ifYes X0.here hx rfl (pc0 := 1) (pc' := 8) rfl (hb hby d1_1) rfl (by decide) (by decide) (by decide) ?_
    show own_S p e below s₁ (mkF m 8 #[vi (6 : Int32)] []) _
    refine XS.iloadN X0.here hx rfl (hb hby d1_8) rfl ?_
    show own_S p e below s₁ (mkF m 9 #[vi (6 : Int32)] [xi (6 : Int32)]) _
    refine XS.iconst X0.here hx rfl (hb hby d1_9) ?_
    show own_S p e below s₁ (mkF m 10 #[vi (6 : Int32)] [xi (1 : Int32), xi (6 : Int32)]) _
    refine XS.icmpYes X0.here hx rfl (pc0 := 10) (pc' := 17) rfl (hb hby d1_10) rfl (by decide) (by decide) (by decide) ?_
    show own_S p e below s₁ (mkF m 17 #[vi (6 : Int32)] []) _
    refine XS.iloadN X0.here hx rfl (hb hby d1_17) rfl ?_
    show own_S p e below s₁ (mkF m 18 #[vi (6 : Int32)] [xi (6 : Int32)]) _
    refine XS.iconst X0.here hx rfl (hb hby d1_18) ?_
    show own_S p e below s₁ (mkF m 19 #[vi (6 : Int32)] [xi (2 : Int32), xi (6 : Int32)]) _
    refine XS.icmpYes X0.here hx rfl (pc0 := 19) (pc' := 26) rfl (hb hby d1_19) rfl (by decide) (by decide) (by decide) ?_
    show own_S p e below s₁ (mkF m 26 #[vi (6 : Int32)] []) _
    refine XS.iloadN X0.here hx rfl (hb hby d1_26) rfl ?_
    show own_S p e below s₁ (mkF m 27 #[vi (6 : Int32)] [xi (6 : Int32)]) _
    refine XS.iconst X0.here hx rfl (hb hby d1_27) ?_
    show own_S p e below s₁ (mkF m 28 #[vi (6 : Int32)] [xi (3 : Int32), xi (6 : Int32)]) _
    refine XS.icmpYes X0.here hx rfl (pc0 := 28) (pc' := 35) rfl (hb hby d1_28) rfl (by decide) (by decide) (by decide) ?_
    show own_S p e below s₁ (mkF m 35 #[vi (6 : Int32)] []) _
    refine XS.iloadN X0.here hx rfl (hb hby d1_35) rfl ?_
    show own_S p e below s₁ (mkF m 36 #[vi (6 : Int32)] [xi (6 : Int32)]) _
    refine XS.iconst X0.here hx rfl (hb hby d1_36) ?_
    show own_S p e below s₁ (mkF m 37 #[vi (6 : Int32)] [xi (4 : Int32), xi (6 : Int32)]) _
    refine XS.icmpYes X0.here hx rfl (pc0 := 37) (pc' := 44) rfl (hb hby d1_37) rfl (by decide) (by decide) (by decide) ?_
    show own_S p e below s₁ (mkF m 44 #[vi (6 : Int32)] []) _
    refine XS.iloadN X0.here hx rfl (hb hby d1_44) rfl ?_
    show own_S p e below s₁ (mkF m 45 #[vi (6 : Int32)] [xi (6 : Int32)]) _
    refine XS.iconst X0.here hx rfl (hb hby d1_45) ?_
    show own_S p e below s₁ (mkF m 46 #[vi (6 : Int32)] [xi (5 : Int32), xi (6 : Int32)]) _
    refine XS.icmpYes X0.here hx rfl (pc0 := 46) (pc' := 53) rfl (hb hby d1_46) rfl (by decide) (by decide) (by decide) ?_
    show own_S p e below s₁ (mkF m 53 #[vi (6 : Int32)] []) _
    refine XS.iloadN X0.here hx rfl (hb hby d1_53) rfl ?_
    show own_S p e below s₁ (mkF m 54 #[vi (6 : Int32)] [xi (6 : Int32)]) _
    refine XS.bipush X0.here hx rfl (hb hby d1_54) ?_
    show own_S p e below s₁ (mkF m 56 #[vi (6 : Int32)] [xi (6 : Int32), xi (6 : Int32)]) _
    refine XS.icmpNo X0.here hx rfl (hb hby d1_56) rfl (by decide) ?_
    show own_S p e below s₁ (mkF m 59 #[vi (6 : Int32)] []) _
    refine st1 _ ?_
    show own_S p e below T1 (mkF m 62 #[vi (6 : Int32)] [xr u10]) _
    exact X1.areturnOut hx rfl Bd.returns rfl (hb hby d1_62) hr
  · exact ⟨rfl, N0, e1⟩
theorem ef_own_c25_ordinal (m : MethodId) (u0 u1 u2 u3 u4 u5 u6 u7 u8 u9 u10 u11 : Addr) : entryFrame m #[xr u10] 1 = (mkF m 0 #[vr u10] []) := by first | (simp [entryFrame, mkF, argsToLocals, Value.category]; done) | rfl
set_option maxRecDepth 65536 in
set_option maxHeartbeats 40000000 in
theorem own_c25_ordinal (l : Launch) (Z : State) (a0 : Array Value) (hw : ∀ d ∈ tables_1, d.before a0 Z = true) (u0 u1 u2 u3 u4 u5 u6 u7 u8 u9 u10 u11 : Addr) (G : own_St Z u0 u1 u2 u3 u4 u5 u6 u7 u8 u9 u10 u11) (h0 : Heap) (n0 : Nat) (O0 : Old Z n0 h0) : own_Met l Z Y1 jdk_37_method_2_code 1 (some .int) ({ frames := 0, cells := 0, slots := 0, locals := 0 } : Room) #[xr u10] h0 (own_QR (some (xi (6 : Int32))) h0 n0) := by
  intro ws
  refine MetFree.of_bodySF (plainFor_of_name pn1) hisR ?_
  intro p e s m args below meth c s₁ Bd hml0 hP hK
  obtain ⟨rfl, hZ, hh⟩ := hP
  have hx := Bd.exec
  have hby := Bd.bytes
  have hml : c.maxLocals = 1 := hml0
  have hown : s.vm.findClass "java/lang/Enum" = some m.cls := findClass_of_methodNamed Bd.named
  have hnm := (name_of_methodNamed Bd.named Bd.method).1
  have X0 : Stand p l e ({ frames := 0, cells := 0, slots := 0, locals := 0 } : Room) s m #[xr u10] below meth c s₁ [] 0 0 := Stand.of_body Bd
  have e0 : s₁.heap = h0 := by rw [← hh, Bd.state]; rfl
  have N0 := Fr.nil n0
  have pre0 : ∀ t, Steps p.tables e below (s₁.setTop (mkF m 0 #[vr u10] [])) t → Steps p.tables e below (s₁.setTop (entryFrame m #[xr u10] 1)) t := fun t k => castTop (ef_own_c25_ordinal m u0 u1 u2 u3 u4 u5 u6 u7 u8 u9 u10 u11) k
  obtain ⟨T1, X1, e1, st1⟩ := getF X0 hx hZ hown (host := "") (Or.inl (ww hw 20 rfl)) Via.refl e0 ((own_F_u10_ordinal G).ext O0.2) (g := (mkF m 1 #[vr u10] [xr u10])) rfl rfl (hb hby d3_1)
  obtain ⟨fs, hr, hrun, hended, hW, hsame⟩ := X1.leave (v := some (xi (6 : Int32))) (fun h => by rw [Bd.returns] at h; cases h)
  refine ⟨_, _, pre0 _ ?_, hrun, hended, _, _, rfl, ?_, ⟨_, rfl⟩, hW, hsame.mono (by decide) (by decide)⟩
  · show own_S p e below s₁ (mkF m 0 #[vr u10] []) _
    refine XS.aloadN X0.here hx rfl (hb hby d3_0) rfl rfl ?_
    show own_S p e below s₁ (mkF m 1 #[vr u10] [xr u10]) _
    refine st1 _ ?_
    show own_S p e below T1 (mkF m 4 #[vr u10] [xi (6 : Int32)]) _
    exact retI X1 hx Bd.returns (hb hby d3_4) hr
  · exact ⟨rfl, N0, e1⟩
theorem ef_own_c25_isInteger (m : MethodId) (u0 u1 u2 u3 u4 u5 u6 u7 u8 u9 u10 u11 : Addr) : entryFrame m #[xr u10] 1 = (mkF m 0 #[vr u10] []) := by first | (simp [entryFrame, mkF, argsToLocals, Value.category]; done) | rfl
set_option maxRecDepth 65536 in
set_option maxHeartbeats 40000000 in
theorem own_c25_isInteger (l : Launch) (Z : State) (a0 : Array Value) (hw : ∀ d ∈ tables_1, d.before a0 Z = true) (u0 u1 u2 u3 u4 u5 u6 u7 u8 u9 u10 u11 : Addr) (G : own_St Z u0 u1 u2 u3 u4 u5 u6 u7 u8 u9 u10 u11) (h0 : Heap) (n0 : Nat) (O0 : Old Z n0 h0) : own_Met l Z Y3 prog_26_method_5_code 1 (some .boolean) ({ frames := 1, cells := 0, slots := 0, locals := 12 } : Room) #[xr u10] h0 (own_QR (some (xi (1 : Int32))) h0 n0) := by
  intro ws
  refine MetFree.of_bodySF (plainFor_of_name pn2) hisR ?_
  intro p e s m args below meth c s₁ Bd hml0 hP hK
  obtain ⟨rfl, hZ, hh⟩ := hP
  have hx := Bd.exec
  have hby := Bd.bytes
  have hml : c.maxLocals = 1 := hml0
  have hown : s.vm.findClass "com/example/mibwright/mibwright/mib/BaseType" = some m.cls := findClass_of_methodNamed Bd.named
  have hnm := (name_of_methodNamed Bd.named Bd.method).1
  have X0 : Stand p l e ({ frames := 1, cells := 0, slots := 0, locals := 12 } : Room) s m #[xr u10] below meth c s₁ [] 0 0 := Stand.of_body Bd
  have e0 : s₁.heap = h0 := by rw [← hh, Bd.state]; rfl
  have N0 := Fr.nil n0
  have pre0 : ∀ t, Steps p.tables e below (s₁.setTop (mkF m 0 #[vr u10] [])) t → Steps p.tables e below (s₁.setTop (entryFrame m #[xr u10] 1)) t := fun t k => castTop (ef_own_c25_isInteger m u0 u1 u2 u3 u4 u5 u6 u7 u8 u9 u10 u11) k
  obtain ⟨cq1, kq1, qa1, qb1, qc1⟩ := isOf hZ e0 ((own_X_u10 G).ext O0.2)
  obtain ⟨_, _, ⟨T1, L1, k1, n1⟩, -, X1, ⟨Lc1, hQ1, l1, y1, z1⟩, st1⟩ := X0.virtualBackUp hx (x := Y2) (y := Y1) hown (mvT hZ (ww hw 13 rfl)) (mvT hZ (ww hw 14 rfl)) (mvT hZ (ww hw 15 rfl)) (by decide) (mvT hZ (ww hw 17 rfl)) (mvT hZ (ww hw 16 rfl)) (backOf (W := 0) (own_c25_ordinal l Z a0 hw u0 u1 u2 u3 u4 u5 u6 u7 u8 u9 u10 u11 G h0 n0 O0 []) hZ (ww hw 19 rfl) (ww hw 18 rfl) (by decide) (by decide)) qa1 qc1 (g := (mkF m 1 #[vr u10] [xr u10])) rfl (by rw [hml]; rfl) (Steps.refl _) (argsL := []) (rest := []) (lenOf pd1 rfl) rfl (by show 2 * 0 + _ ≤ _; exact Nat.le_of_eq rfl) (hb hby d2_1) (fun _ _ => ⟨rfl, e0, (by decide : 0 + 0 ≤ _), (by decide : 0 + 0 ≤ _)⟩)
  dsimp only [Pt.U, Pt.locs, Pt.cells, Pt.slots] at X1 l1 y1 z1 st1 hQ1
  subst l1 y1 z1
  obtain ⟨rfl, Nq1, e1⟩ := hQ1
  have N1 := Fr.app N0 Nq1
  obtain ⟨fs, hr, hrun, hended, hW, hsame⟩ := X1.leave (v := some (xi (1 : Int32))) (fun h => by rw [Bd.returns] at h; cases h)
  refine ⟨_, _, pre0 _ ?_, hrun, hended, _, _, rfl, ?_, ⟨_, rfl⟩, hW, hsame.mono (by decide) (by decide)⟩
  · show own_S p e below s₁ (mkF m 0 #[vr u10] []) _
    refine XS.aloadN X0.here hx rfl (hb hby d2_0) rfl rfl ?_
    show own_S p e below s₁ (mkF m 1 #[vr u10] [xr u10]) _
    refine st1.trans ?_
    show own_S p e below T1 (mkF m 4 #[vr u10] [xi (6 : Int32)]) _
    refine XS.tswIn X1.here hx rfl (pc0 := 4) (pc' := 78) (o := 74) rfl (hb hby d2_4) rfl (by decide) (by decide) (by decide) (by decide) ?_
    show own_S p e below T1 (mkF m 78 #[vr u10] []) _
    refine XS.iconst X1.here hx rfl (hb hby d2_78) ?_
    show own_S p e below T1 (mkF m 79 #[vr u10] [xi (1 : Int32)]) _
    refine XS.goto X1.here hx rfl (pc0 := 79) (pc' := 83) rfl (hb hby d2_79) (by decide) (by decide) ?_
    show own_S p e below T1 (mkF m 83 #[vr u10] [xi (1 : Int32)]) _
    exact retN X1 hx (t := .boolean) Bd.returns (by simp) (hb hby d2_83) hr
  · exact ⟨rfl, N1, e1⟩
theorem ef_own_c27_holdsIntegers (m : MethodId) (u0 u1 u2 u3 u4 u5 u6 u7 u8 u9 u10 u11 : Addr) : entryFrame m #[xi (6 : Int32)] 1 = (mkF m 0 #[vi (6 : Int32)] []) := by first | (simp [entryFrame, mkF, argsToLocals, Value.category]; done) | rfl
set_option maxRecDepth 65536 in
set_option maxHeartbeats 40000000 in
theorem own_c27_holdsIntegers (l : Launch) (Z : State) (a0 : Array Value) (hw : ∀ d ∈ tables_1, d.before a0 Z = true) (u0 u1 u2 u3 u4 u5 u6 u7 u8 u9 u10 u11 : Addr) (G : own_St Z u0 u1 u2 u3 u4 u5 u6 u7 u8 u9 u10 u11) (h0 : Heap) (n0 : Nat) (O0 : Old Z n0 h0) : own_Met l Z Y4 method_3_code 1 (some .boolean) ({ frames := 0, cells := 0, slots := 0, locals := 0 } : Room) #[xi (6 : Int32)] h0 (own_QR (some (xi (1 : Int32))) h0 n0) := by
  intro ws
  refine MetFree.of_bodySF (plainFor_of_name pn0) hisR ?_
  intro p e s m args below meth c s₁ Bd hml0 hP hK
  obtain ⟨rfl, hZ, hh⟩ := hP
  have hx := Bd.exec
  have hby := Bd.bytes
  have hml : c.maxLocals = 1 := hml0
  have hown : s.vm.findClass "com/example/mibwright/mibwright/mib/BaseTypeIsIntegerPinLaw" = some m.cls := findClass_of_methodNamed Bd.named
  have hnm := (name_of_methodNamed Bd.named Bd.method).1
  have X0 : Stand p l e ({ frames := 0, cells := 0, slots := 0, locals := 0 } : Room) s m #[xi (6 : Int32)] below meth c s₁ [] 0 0 := Stand.of_body Bd
  have e0 : s₁.heap = h0 := by rw [← hh, Bd.state]; rfl
  have N0 := Fr.nil n0
  have pre0 : ∀ t, Steps p.tables e below (s₁.setTop (mkF m 0 #[vi (6 : Int32)] [])) t → Steps p.tables e below (s₁.setTop (entryFrame m #[xi (6 : Int32)] 1)) t := fun t k => castTop (ef_own_c27_holdsIntegers m u0 u1 u2 u3 u4 u5 u6 u7 u8 u9 u10 u11) k
  obtain ⟨fs, hr, hrun, hended, hW, hsame⟩ := X0.leave (v := some (xi (1 : Int32))) (fun h => by rw [Bd.returns] at h; cases h)
  refine ⟨_, _, pre0 _ ?_, hrun, hended, _, _, rfl, ?_, ⟨_, rfl⟩, hW, hsame.mono (by decide) (by decide)⟩
  · show own_S p e below s₁ (mkF m 0 #[vi (6 : Int32)] []) _
    refine XS.iloadN X0.here hx rfl (hb hby d4_0) rfl ?_
    show own_S p e below s₁ (mkF m 1 #[vi (6 : Int32)] [xi (6 : Int32)]) _
    refine XS.iconst X0.here hx rfl (hb hby d4_1) ?_
    show own_S p e below s₁ (mkF m 2 #[vi (6 : Int32)] [xi (2 : Int32), xi (6 : Int32)]) _
    refine XS.icmpNo X0.here hx rfl (hb hby d4_2) rfl (by decide) ?_
    show own_S p e below s₁ (mkF m 5 #[vi (6 : Int32)] []) _
    refine XS.iloadN X0.here hx rfl (hb hby d4_5) rfl ?_
    show own_S p e below s₁ (mkF m 6 #[vi (6 : Int32)] [xi (6 : Int32)]) _
    refine XS.iconst X0.here hx rfl (hb hby d4_6) ?_
    show own_S p e below s₁ (mkF m 7 #[vi (6 : Int32)] [xi (3 : Int32), xi (6 : Int32)]) _
    refine XS.icmpNo X0.here hx rfl (hb hby d4_7) rfl (by decide) ?_
    show own_S p e below s₁ (mkF m 10 #[vi (6 : Int32)] []) _
    refine XS.iloadN X0.here hx rfl (hb hby d4_10) rfl ?_
    show own_S p e below s₁ (mkF m 11 #[vi (6 : Int32)] [xi (6 : Int32)]) _
    refine XS.iconst X0.here hx rfl (hb hby d4_11) ?_
    show own_S p e below s₁ (mkF m 12 #[vi (6 : Int32)] [xi (4 : Int32), xi (6 : Int32)]) _
    refine XS.icmpNo X0.here hx rfl (hb hby d4_12) rfl (by decide) ?_
    show own_S p e below s₁ (mkF m 15 #[vi (6 : Int32)] []) _
    refine XS.iloadN X0.here hx rfl (hb hby d4_15) rfl ?_
    show own_S p e below s₁ (mkF m 16 #[vi (6 : Int32)] [xi (6 : Int32)]) _
    refine XS.iconst X0.here hx rfl (hb hby d4_16) ?_
    show own_S p e below s₁ (mkF m 17 #[vi (6 : Int32)] [xi (5 : Int32), xi (6 : Int32)]) _
    refine XS.icmpNo X0.here hx rfl (hb hby d4_17) rfl (by decide) ?_
    show own_S p e below s₁ (mkF m 20 #[vi (6 : Int32)] []) _
    refine XS.iloadN X0.here hx rfl (hb hby d4_20) rfl ?_
    show own_S p e below s₁ (mkF m 21 #[vi (6 : Int32)] [xi (6 : Int32)]) _
    refine XS.bipush X0.here hx rfl (hb hby d4_21) ?_
    show own_S p e below s₁ (mkF m 23 #[vi (6 : Int32)] [xi (9 : Int32), xi (6 : Int32)]) _
    refine XS.icmpYes X0.here hx rfl (pc0 := 23) (pc' := 28) rfl (hb hby d4_23) rfl (by decide) (by decide) (by decide) ?_
    show own_S p e below s₁ (mkF m 28 #[vi (6 : Int32)] []) _
    refine XS.iconst X0.here hx rfl (hb hby d4_28) ?_
    show own_S p e below s₁ (mkF m 29 #[vi (6 : Int32)] [xi (1 : Int32)]) _
    exact retN X0 hx (t := .boolean) Bd.returns (by simp) (hb hby d4_29) hr
  · exact ⟨rfl, N0, e0⟩
theorem ef_own_l6 (m : MethodId) (u0 u1 u2 u3 u4 u5 u6 u7 u8 u9 u10 u11 : Addr) (p1 : Int32) : entryFrame m #[xi p1] maxLocals = (mkF m 0 #[vi p1, vu, vu] []) := by first | (simp [entryFrame, mkF, argsToLocals, Value.category, maxLocals]; done) | rfl
set_option maxRecDepth 65536 in
set_option maxHeartbeats 40000000 in
theorem own_l6 (l : Launch) (Z : State) (a0 : Array Value) (hw : ∀ d ∈ tables_1, d.before a0 Z = true) (u0 u1 u2 u3 u4 u5 u6 u7 u8 u9 u10 u11 : Addr) (G : own_St Z u0 u1 u2 u3 u4 u5 u6 u7 u8 u9 u10 u11) (p1 : Int32) (as6 : ((p1 &&& (2147483647 : Int32)) - ((p1 &&& (2147483647 : Int32)) / (12 : Int32)) * (12 : Int32)) = (6 : Int32)) (h0 : Heap) (n0 : Nat) (O0 : Old Z n0 h0) : own_Met l Z x code maxLocals ret room_1 #[xi p1] h0 (own_QL (some (xi (1 : Int32))) n0) := by
  intro ws
  refine MetFree.of_bodySF (plainFor_of_name pn0) hisR ?_
  intro p e s m args below meth c s₁ Bd hml0 hP hK
  obtain ⟨rfl, hZ, hh⟩ := hP
  have hx := Bd.exec
  have hby := Bd.bytes
  have hml : c.maxLocals = 3 := hml0
  have hown : s.vm.findClass "com/example/mibwright/mibwright/mib/BaseTypeIsIntegerPinLaw" = some m.cls := findClass_of_methodNamed Bd.named
  have hnm := (name_of_methodNamed Bd.named Bd.method).1
  have X0 : Stand p l e room_1 s m #[xi p1] below meth c s₁ [] 0 0 := Stand.of_body Bd
  have e0 : s₁.heap = h0 := by rw [← hh, Bd.state]; rfl
  have N0 := Fr.nil n0
  have pre0 : ∀ t, Steps p.tables e below (s₁.setTop (mkF m 0 #[vi p1, vu, vu] [])) t → Steps p.tables e below (s₁.setTop (entryFrame m #[xi p1] maxLocals)) t := fun t k => castTop (ef_own_l6 m u0 u1 u2 u3 u4 u5 u6 u7 u8 u9 u10 u11 p1) k
  obtain ⟨_, _, ⟨T1, L1, k1, n1⟩, -, X1, ⟨Lc1, hQ1, l1, y1, z1⟩, st1⟩ := Jvm.LawKit.callS X0 hx (y := Y0) hown (mvT hZ (ww hw 1 rfl)) (mvT hZ (ww hw 2 rfl)) (mvT hZ (ww hw 3 rfl)) (mvT hZ (ww hw 4 rfl)) (by decide) (backOf (W := 0) (own_c24_pick l Z a0 hw u0 u1 u2 u3 u4 u5 u6 u7 u8 u9 u10 u11 G h0 n0 O0 []) hZ (ww hw 4 rfl) (ww hw 3 rfl) (by decide) (by decide)) (g := (mkF m 9 #[vi p1, vi (6 : Int32), vu] [xi (6 : Int32)])) rfl (by rw [hml]; rfl) (argsL := [xi (6 : Int32)]) (rest := []) (lenOf pd0 rfl) rfl (by show 2 * 0 + _ ≤ _; exact Nat.le_of_eq rfl) (hb hby at_9) (fun _ _ => ⟨rfl, e0, (by decide : 0 + 0 ≤ _), (by decide : 0 + 0 ≤ _)⟩)
  dsimp only [Pt.U, Pt.locs, Pt.cells, Pt.slots] at X1 l1 y1 z1 st1 hQ1
  subst l1 y1 z1
  obtain ⟨rfl, Nq1, e1⟩ := hQ1
  have N1 := Fr.app N0 Nq1
  obtain ⟨cq2, kq2, qa2, qb2, qc2⟩ := isOf hZ e1 ((own_X_u10 G).ext O0.2)
  obtain ⟨_, _, ⟨T2, L2, k2, n2⟩, -, X2, ⟨Lc2, hQ2, l2, y2, z2⟩, st2⟩ := X1.virtualBack hx (y := Y3) (z := Y3) hown (mvT hZ (ww hw 8 rfl)) (mvT hZ (ww hw 9 rfl)) (notFace_of_selects (args := #[]) (mvT hZ (ww hw 11 rfl))) (mvT hZ (ww hw 11 rfl)) (mvT hZ (ww hw 10 rfl)) (by decide) (backOf (W := 0) (own_c25_isInteger l Z a0 hw u0 u1 u2 u3 u4 u5 u6 u7 u8 u9 u10 u11 G h0 n0 O0 []) hZ (ww hw 12 rfl) (ww hw 6 rfl) (by decide) (by decide)) qa2 qc2 (g := (mkF m 14 #[vi p1, vi (6 : Int32), vr u10] [xr u10])) rfl (by rw [hml]; rfl) (Steps.refl _) (argsL := []) (rest := []) (lenOf pd2 rfl) rfl (by show 2 * 0 + _ ≤ _; exact Nat.le_of_eq rfl) (hb hby at_14) (fun _ _ => ⟨rfl, e1, (by decide : 0 + 0 ≤ _), (by decide : 0 + 0 ≤ _)⟩)
  dsimp only [Pt.U, Pt.locs, Pt.cells, Pt.slots] at X2 l2 y2 z2 st2 hQ2
  subst l2 y2 z2
  obtain ⟨rfl, Nq2, e2⟩ := hQ2
  have N2 := Fr.app N1 Nq2
  obtain ⟨_, _, ⟨T3, L3, k3, n3⟩, -, X3, ⟨Lc3, hQ3, l3, y3, z3⟩, st3⟩ := Jvm.LawKit.callS X2 hx (y := Y4) hown (mvT hZ (ww hw 22 rfl)) (mvT hZ (ww hw 23 rfl)) (mvT hZ (ww hw 3 rfl)) (mvT hZ (ww hw 24 rfl)) (by decide) (backOf (W := 1) (own_c27_holdsIntegers l Z a0 hw u0 u1 u2 u3 u4 u5 u6 u7 u8 u9 u10 u11 G h0 n0 O0 []) hZ (ww hw 24 rfl) (ww hw 3 rfl) (by decide) (by decide)) (g := (mkF m 18 #[vi p1, vi (6 : Int32), vr u10] [xi (6 : Int32), xi (1 : Int32)])) rfl (by rw [hml]; rfl) (argsL := [xi (6 : Int32)]) (rest := [xi (1 : Int32)]) (lenOf pd3 rfl) rfl (by show 2 * 0 + _ ≤ _; exact Nat.le_of_eq rfl) (hb hby at_18) (fun _ _ => ⟨rfl, e2, (by decide : 0 + 0 ≤ _), (by decide : 0 + 0 ≤ _)⟩)
  dsimp only [Pt.U, Pt.locs, Pt.cells, Pt.slots] at X3 l3 y3 z3 st3 hQ3
  subst l3 y3 z3
  obtain ⟨rfl, Nq3, e3⟩ := hQ3
  have N3 := Fr.app N2 Nq3
  obtain ⟨fs, hr, hrun, hended, hW, hsame⟩ := X3.leave (v := some (xi (1 : Int32))) (fun h => by rw [Bd.returns] at h; cases h)
  refine ⟨_, _, pre0 _ ?_, hrun, hended, _, _, rfl, ?_, ⟨_, rfl⟩, hW, hsame.mono (by decide) (by decide)⟩
  · show own_S p e below s₁ (mkF m 0 #[vi p1, vu, vu] []) _
    refine XS.iloadN X0.here hx rfl (hb hby at_0) rfl ?_
    show own_S p e below s₁ (mkF m 1 #[vi p1, vu, vu] [xi p1]) _
    refine X0.ldcI hx hown (mvT hZ (ww hw 0 rfl)) (g := (mkF m 1 #[vi p1, vu, vu] [xi p1])) rfl (hb hby at_1) ?_
    show own_S p e below s₁ (mkF m 3 #[vi p1, vu, vu] [xi (2147483647 : Int32), xi p1]) _
    refine XS.iand X0.here hx rfl (hb hby at_3) rfl ?_
    show own_S p e below s₁ (mkF m 4 #[vi p1, vu, vu] [xi (p1 &&& (2147483647 : Int32))]) _
    show own_S p e below s₁ (mkF m 4 #[vi p1, vu, vu] [xi (p1 &&& (2147483647 : Int32))]) _
    refine XS.bipush X0.here hx rfl (hb hby at_4) ?_
    show own_S p e below s₁ (mkF m 6 #[vi p1, vu, vu] [xi (12 : Int32), xi (p1 &&& (2147483647 : Int32))]) _
    refine XS.irem X0.here hx rfl (hb hby at_6) rfl (by decide) ?_
    show own_S p e below s₁ (mkF m 7 #[vi p1, vu, vu] [xi ((p1 &&& (2147483647 : Int32)) - ((p1 &&& (2147483647 : Int32)) / (12 : Int32)) * (12 : Int32))]) _
    refine castTop (show (mkF m 7 #[vi p1, vu, vu] [xi ((p1 &&& (2147483647 : Int32)) - ((p1 &&& (2147483647 : Int32)) / (12 : Int32)) * (12 : Int32))]) = (mkF m 7 #[vi p1, vu, vu] [xi (6 : Int32)]) from by rw [as6]) ?_
    show own_S p e below s₁ (mkF m 7 #[vi p1, vu, vu] [xi (6 : Int32)]) _
    refine XS.istoreN X0.here hx rfl (hb hby at_7) rfl (l' := #[vi p1, vi (6 : Int32), vu]) rfl ?_
    show own_S p e below s₁ (mkF m 8 #[vi p1, vi (6 : Int32), vu] []) _
    refine XS.iloadN X0.here hx rfl (hb hby at_8) rfl ?_
    show own_S p e below s₁ (mkF m 9 #[vi p1, vi (6 : Int32), vu] [xi (6 : Int32)]) _
    refine st1 _ ?_
    show own_S p e below T1 (mkF m 12 #[vi p1, vi (6 : Int32), vu] [xr u10]) _
    refine XS.astoreN X1.here hx rfl (hb hby at_12) rfl rfl (l' := #[vi p1, vi (6 : Int32), vr u10]) rfl ?_
    show own_S p e below T1 (mkF m 13 #[vi p1, vi (6 : Int32), vr u10] []) _
    refine XS.aloadN X1.here hx rfl (hb hby at_13) rfl rfl ?_
    show own_S p e below T1 (mkF m 14 #[vi p1, vi (6 : Int32), vr u10] [xr u10]) _
    refine st2.trans ?_
    show own_S p e below T2 (mkF m 17 #[vi p1, vi (6 : Int32), vr u10] [xi (1 : Int32)]) _
    refine XS.iloadN X2.here hx rfl (hb hby at_17) rfl ?_
    show own_S p e below T2 (mkF m 18 #[vi p1, vi (6 : Int32), vr u10] [xi (6 : Int32), xi (1 : Int32)]) _
    refine st3 _ ?_
    show own_S p e below T3 (mkF m 21 #[vi p1, vi (6 : Int32), vr u10] [xi (1 : Int32), xi (1 : Int32)]) _
    refine XS.icmpNo X3.here hx rfl (hb hby at_21) rfl (by decide) ?_
    show own_S p e below T3 (mkF m 24 #[vi p1, vi (6 : Int32), vr u10] []) _
    refine XS.iconst X3.here hx rfl (hb hby at_24) ?_
    show own_S p e below T3 (mkF m 25 #[vi p1, vi (6 : Int32), vr u10] [xi (1 : Int32)]) _
    refine XS.goto X3.here hx rfl (pc0 := 25) (pc' := 29) rfl (hb hby at_25) (by decide) (by decide) ?_
    show own_S p e below T3 (mkF m 29 #[vi p1, vi (6 : Int32), vr u10] [xi (1 : Int32)]) _
    exact retN X3 hx (t := .boolean) Bd.returns (by simp) (hb hby at_29) hr
  · exact ⟨rfl, N3⟩
theorem d1_63 : decode method_2_code 63 = .ok (.iload_n 0, 1) := by decide +kernel
theorem d1_64 : decode method_2_code 64 = .ok (.bipush 7, 2) := by decide +kernel
theorem d1_66 : decode method_2_code 66 = .ok (.if_icmp .ne 7, 3) := by decide +kernel
theorem d1_69 : decode method_2_code 69 = .ok (.getstatic 31, 3) := by decide +kernel
theorem d1_72 : decode method_2_code 72 = .ok (.areturn, 1) := by decide +kernel
theorem ef_own_c28_pick (m : MethodId) (u0 u1 u2 u3 u4 u5 u6 u7 u8 u9 u10 u11 : Addr) : entryFrame m #[xi (7 : Int32)] 1 = (mkF m 0 #[vi (7 : Int32)] []) := by first | (simp [entryFrame, mkF, argsToLocals, Value.category]; done) | rfl
set_option maxRecDepth 65536 in
set_option maxHeartbeats 40000000 in
theorem own_c28_pick (l : Launch) (Z : State) (a0 : Array Value) (hw : ∀ d ∈ tables_1, d.before a0 Z = true) (u0 u1 u2 u3 u4 u5 u6 u7 u8 u9 u10 u11 : Addr) (G : own_St Z u0 u1 u2 u3 u4 u5 u6 u7 u8 u9 u10 u11) (h0 : Heap) (n0 : Nat) (O0 : Old Z n0 h0) : own_Met l Z Y0 method_2_code 1 (some (.object "com/example/mibwright/mibwright/mib/BaseType")) ({ frames := 0, cells := 0, slots := 0, locals := 0 } : Room) #[xi (7 : Int32)] h0 (own_QR (some (xr u3)) h0 n0) := by
  intro ws
  refine MetFree.of_bodySF (plainFor_of_name pn0) hisR ?_
  intro p e s m args below meth c s₁ Bd hml0 hP hK
  obtain ⟨rfl, hZ, hh⟩ := hP
  have hx := Bd.exec
  have hby := Bd.bytes
  have hml : c.maxLocals = 1 := hml0
  have hown : s.vm.findClass "com/example/mibwright/mibwright/mib/BaseTypeIsIntegerPinLaw" = some m.cls := findClass_of_methodNamed Bd.named
  have hnm := (name_of_methodNamed Bd.named Bd.method).1
  have X0 : Stand p l e ({ frames := 0, cells := 0, slots := 0, locals := 0 } : Room) s m #[xi (7 : Int32)] below meth c s₁ [] 0 0 := Stand.of_body Bd
  have e0 : s₁.heap = h0 := by rw [← hh, Bd.state]; rfl
  have N0 := Fr.nil n0
  have pre0 : ∀ t, Steps p.tables e below (s₁.setTop (mkF m 0 #[vi (7 : Int32)] [])) t → Steps p.tables e below (s₁.setTop (entryFrame m #[xi (7 : Int32)] 1)) t := fun t k => castTop (ef_own_c28_pick m u0 u1 u2 u3 u4 u5 u6 u7 u8 u9 u10 u11) k
  obtain ⟨T1, X1, e1, st1⟩ := getS2 X0 hx hZ hown (host := "") (Or.inl (ww hw 29 rfl)) Via.refl e0 ((own_S_u3 G).ext O0.2) (g := (mkF m 69 #[vi (7 : Int32)] [])) rfl (hb hby d1_69)
  obtain ⟨fs, hr, hrun, hended, hW, hsame⟩ := X1.leave (v := some (xr u3)) (fun h => by rw [Bd.returns] at h; cases h)
  refine ⟨_, _, pre0 _ ?_, hrun, hended, _, _, rfl, ?_, ⟨_, rfl⟩, hW, hsame.mono (by decide) (by decide)⟩
  · show own_S p e below s₁ (mkF m 0 #[vi (7 : Int32)] []) _
    refine XS.iloadN X0.here hx rfl (hb hby d1_0) rfl ?_
    show own_S p e below s₁ (mkF m 1 #[vi (7 : Int32)] [xi (7 : Int32)]) _
    refine XS.ifYes X0.here hx rfl (pc0 := 1) (pc' := 8) rfl (hb hby d1_1) rfl (by decide) (by decide) (by decide) ?_
    show own_S p e below s₁ (mkF m 8 #[vi (7 : Int32)] []) _
    refine XS.iloadN X0.here hx rfl (hb hby d1_8) rfl ?_
    show own_S p e below s₁ (mkF m 9 #[vi (7 : Int32)] [xi (7 : Int32)]) _
    refine XS.iconst X0.here hx rfl (hb hby d1_9) ?_
    show own_S p e below s₁ (mkF m 10 #[vi (7 : Int32)] [xi (1 : Int32), xi (7 : Int32)]) _
    refine XS.icmpYes X0.here hx rfl (pc0 := 10) (pc' := 17) rfl (hb hby d1_10) rfl (by decide) (by decide) (by decide) ?_
    show own_S p e below s₁ (mkF m 17 #[vi (7 : Int32)] []) _
    refine XS.iloadN X0.here hx rfl (hb hby d1_17) rfl ?_
    show own_S p e below s₁ (mkF m 18 #[vi (7 : Int32)] [xi (7 : Int32)]) _
    refine XS.iconst X0.here hx rfl (hb hby d1_18) ?_
    show own_S p e below s₁ (mkF m 19 #[vi (7 : Int32)] [xi (2 : Int32), xi (7 : Int32)]) _
    refine XS.icmpYes X0.here hx rfl (pc0 := 19) (pc' := 26) rfl (hb hby d1_19) rfl (by decide) (by decide) (by decide) ?_
    show own_S p e below s₁ (mkF m 26 #[vi (7 : Int32)] []) _
    refine XS.iloadN X0.here hx rfl (hb hby d1_26) rfl ?_
    show own_S p e below s₁ (mkF m 27 #[vi (7 : Int32)] [xi (7 : Int32)]) _
    refine XS.iconst X0.here hx rfl (hb hby d1_27) ?_
    show own_S p e below s₁ (mkF m 28 #[vi (7 : Int32)] [xi (3 : Int32), xi (7 : Int32)]) _
    refine XS.icmpYes X0.here hx rfl (pc0 := 28) (pc' := 35) rfl (hb hby d1_28) rfl (by decide) (by decide) (by decide) ?_
    show own_S p e below s₁ (mkF m 35 #[vi (7 : Int32)] []) _
    refine XS.iloadN X0.here hx rfl (hb hby d1_35) rfl ?_
    show own_S p e below s₁ (mkF m 36 #[vi (7 : Int32)] [xi (7 : Int32)]) _
    refine XS.iconst X0.here hx rfl (hb hby d1_36) ?_
    show own_S p e below s₁ (mkF m 37 #[vi (7 : Int32)] [xi (4 : Int32), xi (7 : Int32)]) _
    refine XS.icmpYes X0.here hx rfl (pc0 := 37) (pc' := 44) rfl (hb hby d1_37) rfl (by decide) (by decide) (by decide) ?_
    show own_S p e below s₁ (mkF m 44 #[vi (7 : Int32)] []) _
    refine XS.iloadN X0.here hx rfl (hb hby d1_44) rfl ?_
    show own_S p e below s₁ (mkF m 45 #[vi (7 : Int32)] [xi (7 : Int32)]) _
    refine XS.iconst X0.here hx rfl (hb hby d1_45) ?_
    show own_S p e below s₁ (mkF m 46 #[vi (7 : Int32)] [xi (5 : Int32), xi (7 : Int32)]) _
    refine XS.icmpYes X0.here hx rfl (pc0 := 46) (pc' := 53) rfl (hb hby d1_46) rfl (by decide) (by decide) (by decide) ?_
    show own_S p e below s₁ (mkF m 53 #[vi (7 : Int32)] []) _
    refine XS.iloadN X0.here hx rfl (hb hby d1_53) rfl ?_
    show own_S p e below s₁ (mkF m 54 #[vi (7 : Int32)] [xi (7 : Int32)]) _
    refine XS.bipush X0.here hx rfl (hb hby d1_54) ?_
    show own_S p e below s₁ (mkF m 56 #[vi (7 : Int32)] [xi (6 : Int32), xi (7 : Int32)]) _
    refine XS.icmpYes X0.here hx rfl (pc0 := 56) (pc' := 63) rfl (hb hby d1_56) rfl (by decide) (by decide) (by decide) ?_
    show own_S p e below s₁ (mkF m 63 #[vi (7 : Int32)] []) _
    refine XS.iloadN X0.here hx rfl (hb hby d1_63) rfl ?_
    show own_S p e below s₁ (mkF m 64 #[vi (7 : Int32)] [xi (7 : Int32)]) _
    refine XS.bipush X0.here hx rfl (hb hby d1_64) ?_
    show own_S p e below s₁ (mkF m 66 #[vi (7 : Int32)] [xi (7 : Int32), xi (7 : Int32)]) _
    refine XS.icmpNo X0.here hx rfl (hb hby d1_66) rfl (by decide) ?_
    show own_S p e below s₁ (mkF m 69 #[vi (7 : Int32)] []) _
    refine st1 _ ?_
    show own_S p e below T1 (mkF m 72 #[vi (7 : Int32)] [xr u3]) _
    exact X1.areturnOut hx rfl Bd.returns rfl (hb hby d1_72) hr
  · exact ⟨rfl, N0, e1⟩
theorem ef_own_c29_ordinal (m : MethodId) (u0 u1 u2 u3 u4 u5 u6 u7 u8 u9 u10 u11 : Addr) : entryFrame m #[xr u3] 1 = (mkF m 0 #[vr u3] []) := by first | (simp [entryFrame, mkF, argsToLocals, Value.category]; done) | rfl
set_option maxRecDepth 65536 in
set_option maxHeartbeats 40000000 in
theorem own_c29_ordinal (l : Launch) (Z : State) (a0 : Array Value) (hw : ∀ d ∈ tables_1, d.before a0 Z = true) (u0 u1 u2 u3 u4 u5 u6 u7 u8 u9 u10 u11 : Addr) (G : own_St Z u0 u1 u2 u3 u4 u5 u6 u7 u8 u9 u10 u11) (h0 : Heap) (n0 : Nat) (O0 : Old Z n0 h0) : own_Met l Z Y1 jdk_37_method_2_code 1 (some .int) ({ frames := 0, cells := 0, slots := 0, locals := 0 } : Room) #[xr u3] h0 (own_QR (some (xi (7 : Int32))) h0 n0) := by
  intro ws
  refine MetFree.of_bodySF (plainFor_of_name pn1) hisR ?_
  intro p e s m args below meth c s₁ Bd hml0 hP hK
  obtain ⟨rfl, hZ, hh⟩ := hP
  have hx := Bd.exec
  have hby := Bd.bytes
  have hml : c.maxLocals = 1 := hml0
  have hown : s.vm.findClass "java/lang/Enum" = some m.cls := findClass_of_methodNamed Bd.named
  have hnm := (name_of_methodNamed Bd.named Bd.method).1
  have X0 : Stand p l e ({ frames := 0, cells := 0, slots := 0, locals := 0 } : Room) s m #[xr u3] below meth c s₁ [] 0 0 := Stand.of_body Bd
  have e0 : s₁.heap = h0 := by rw [← hh, Bd.state]; rfl
  have N0 := Fr.nil n0
  have pre0 : ∀ t, Steps p.tables e below (s₁.setTop (mkF m 0 #[vr u3] [])) t → Steps p.tables e below (s₁.setTop (entryFrame m #[xr u3] 1)) t := fun t k => castTop (ef_own_c29_ordinal m u0 u1 u2 u3 u4 u5 u6 u7 u8 u9 u10 u11) k
  obtain ⟨T1, X1, e1, st1⟩ := getF X0 hx hZ hown (host := "") (Or.inl (ww hw 20 rfl)) Via.refl e0 ((own_F_u3_ordinal G).ext O0.2) (g := (mkF m 1 #[vr u3] [xr u3])) rfl rfl (hb hby d3_1)
  obtain ⟨fs, hr, hrun, hended, hW, hsame⟩ := X1.leave (v := some (xi (7 : Int32))) (fun h => by rw [Bd.returns] at h; cases h)
  refine ⟨_, _, pre0 _ ?_, hrun, hended, _, _, rfl, ?_, ⟨_, rfl⟩, hW, hsame.mono (by decide) (by decide)⟩
  · show own_S p e below s₁ (mkF m 0 #[vr u3] []) _
    refine XS.aloadN X0.here hx rfl (hb hby d3_0) rfl rfl ?_
    show own_S p e below s₁ (mkF m 1 #[vr u3] [xr u3]) _
    refine st1 _ ?_
    show own_S p e below T1 (mkF m 4 #[vr u3] [xi (7 : Int32)]) _
    exact retI X1 hx Bd.returns (hb hby d3_4) hr
  · exact ⟨rfl, N0, e1⟩
theorem ef_own_c29_isInteger (m : MethodId) (u0 u1 u2 u3 u4 u5 u6 u7 u8 u9 u10 u11 : Addr) : entryFrame m #[xr u3] 1 = (mkF m 0 #[vr u3] []) := by first | (simp [entryFrame, mkF, argsToLocals, Value.category]; done) | rfl
set_option maxRecDepth 65536 in
set_option maxHeartbeats 40000000 in
theorem own_c29_isInteger (l : Launch) (Z : State) (a0 : Array Value) (hw : ∀ d ∈ tables_1, d.before a0 Z = true) (u0 u1 u2 u3 u4 u5 u6 u7 u8 u9 u10 u11 : Addr) (G : own_St Z u0 u1 u2 u3 u4 u5 u6 u7 u8 u9 u10 u11) (h0 : Heap) (n0 : Nat) (O0 : Old Z n0 h0) : own_Met l Z Y3 prog_26_method_5_code 1 (some .boolean) ({ frames := 1, cells := 0, slots := 0, locals := 12 } : Room) #[xr u3] h0 (own_QR (some (xi (1 : Int32))) h0 n0) := by
  intro ws
  refine MetFree.of_bodySF (plainFor_of_name pn2) hisR ?_
  intro p e s m args below meth c s₁ Bd hml0 hP hK
  obtain ⟨rfl, hZ, hh⟩ := hP
  have hx := Bd.exec
  have hby := Bd.bytes
  have hml : c.maxLocals = 1 := hml0
  have hown : s.vm.findClass "com/example/mibwright/mibwright/mib/BaseType" = some m.cls := findClass_of_methodNamed Bd.named
  have hnm := (name_of_methodNamed Bd.named Bd.method).1
  have X0 : Stand p l e ({ frames := 1, cells := 0, slots := 0, locals := 12 } : Room) s m #[xr u3] below meth c s₁ [] 0 0 := Stand.of_body Bd
  have e0 : s₁.heap = h0 := by rw [← hh, Bd.state]; rfl
  have N0 := Fr.nil n0
  have pre0 : ∀ t, Steps p.tables e below (s₁.setTop (mkF m 0 #[vr u3] [])) t → Steps p.tables e below (s₁.setTop (entryFrame m #[xr u3] 1)) t := fun t k => castTop (ef_own_c29_isInteger m u0 u1 u2 u3 u4 u5 u6 u7 u8 u9 u10 u11) k
  obtain ⟨cq1, kq1, qa1, qb1, qc1⟩ := isOf hZ e0 ((own_X_u3 G).ext O0.2)
  obtain ⟨_, _, ⟨T1, L1, k1, n1⟩, -, X1, ⟨Lc1, hQ1, l1, y1, z1⟩, st1⟩ := X0.virtualBackUp hx (x := Y2) (y := Y1) hown (mvT hZ (ww hw 13 rfl)) (mvT hZ (ww hw 14 rfl)) (mvT hZ (ww hw 15 rfl)) (by decide) (mvT hZ (ww hw 17 rfl)) (mvT hZ (ww hw 16 rfl)) (backOf (W := 0) (own_c29_ordinal l Z a0 hw u0 u1 u2 u3 u4 u5 u6 u7 u8 u9 u10 u11 G h0 n0 O0 []) hZ (ww hw 19 rfl) (ww hw 18 rfl) (by decide) (by decide)) qa1 qc1 (g := (mkF m 1 #[vr u3] [xr u3])) rfl (by rw [hml]; rfl) (Steps.refl _) (argsL := []) (rest := []) (lenOf pd1 rfl) rfl (by show 2 * 0 + _ ≤ _; exact Nat.le_of_eq rfl) (hb hby d2_1) (fun _ _ => ⟨rfl, e0, (by decide : 0 + 0 ≤ _), (by decide : 0 + 0 ≤ _)⟩)
  dsimp only [Pt.U, Pt.locs, Pt.cells, Pt.slots] at X1 l1 y1 z1 st1 hQ1
  subst l1 y1 z1
  obtain ⟨rfl, Nq1, e1⟩ := hQ1
  have N1 := Fr.app N0 Nq1
  obtain ⟨fs, hr, hrun, hended, hW, hsame⟩ := X1.leave (v := some (xi (1 : Int32))) (fun h => by rw [Bd.returns] at h; cases h)
  refine ⟨_, _, pre0 _ ?_, hrun, hended, _, _, rfl, ?_, ⟨_, rfl⟩, hW, hsame.mono (by decide) (by decide)⟩
  · show own_S p e below s₁ (mkF m 0 #[vr u3] []) _
    refine XS.aloadN X0.here hx rfl (hb hby d2_0) rfl rfl ?_
    show own_S p e below s₁ (mkF m 1 #[vr u3] [xr u3]) _
    refine st1.trans ?_
    show own_S p e below T1 (mkF m 4 #[vr u3] [xi (7 : Int32)]) _
    refine XS.tswIn X1.here hx rfl (pc0 := 4) (pc' := 78) (o := 74) rfl (hb hby d2_4) rfl (by decide) (by decide) (by decide) (by decide) ?_
    show own_S p e below T1 (mkF m 78 #[vr u3] []) _
    refine XS.iconst X1.here hx rfl (hb hby d2_78) ?_
    show own_S p e below T1 (mkF m 79 #[vr u3] [xi (1 : Int32)]) _
    refine XS.goto X1.here hx rfl (pc0 := 79) (pc' := 83) rfl (hb hby d2_79) (by decide) (by decide) ?_
    show own_S p e below T1 (mkF m 83 #[vr u3] [xi (1 : Int32)]) _
    exact retN X1 hx (t := .boolean) Bd.returns (by simp) (hb hby d2_83) hr
  · exact ⟨rfl, N1, e1⟩
theorem ef_own_c31_holdsIntegers (m : MethodId) (u0 u1 u2 u3 u4 u5 u6 u7 u8 u9 u10 u11 : Addr) : entryFrame m #[xi (7 : Int32)] 1 = (mkF m 0 #[vi (7 : Int32)] []) := by first | (simp [entryFrame, mkF, argsToLocals, Value.category]; done) | rfl
set_option maxRecDepth 65536 in
set_option maxHeartbeats 40000000 in
theorem own_c31_holdsIntegers (l : Launch) (Z : State) (a0 : Array Value) (hw : ∀ d ∈ tables_1, d.before a0 Z = true) (u0 u1 u2 u3 u4 u5 u6 u7 u8 u9 u10 u11 : Addr) (G : own_St Z u0 u1 u2 u3 u4 u5 u6 u7 u8 u9 u10 u11) (h0 : Heap) (n0 : Nat) (O0 : Old Z n0 h0) : own_Met l Z Y4 method_3_code 1 (some .boolean) ({ frames := 0, cells := 0, slots := 0, locals := 0 } : Room) #[xi (7 : Int32)] h0 (own_QR (some (xi (1 : Int32))) h0 n0) := by
  intro ws
  refine MetFree.of_bodySF (plainFor_of_name pn0) hisR ?_
  intro p e s m args below meth c s₁ Bd hml0 hP hK
  obtain ⟨rfl, hZ, hh⟩ := hP
  have hx := Bd.exec
  have hby := Bd.bytes
  have hml : c.maxLocals = 1 := hml0
  have hown : s.vm.findClass "com/example/mibwright/mibwright/mib/BaseTypeIsIntegerPinLaw" = some m.cls := findClass_of_methodNamed Bd.named
  have hnm := (name_of_methodNamed Bd.named Bd.method).1
  have X0 : Stand p l e ({ frames := 0, cells := 0, slots := 0, locals := 0 } : Room) s m #[xi (7 : Int32)] below meth c s₁ [] 0 0 := Stand.of_body Bd
  have e0 : s₁.heap = h0 := by rw [← hh, Bd.state]; rfl
  have N0 := Fr.nil n0
  have pre0 : ∀ t, Steps p.tables e below (s₁.setTop (mkF m 0 #[vi (7 : Int32)] [])) t → Steps p.tables e below (s₁.setTop (entryFrame m #[xi (7 : Int32)] 1)) t := fun t k => castTop (ef_own_c31_holdsIntegers m u0 u1 u2 u3 u4 u5 u6 u7 u8 u9 u10 u11) k
  obtain ⟨fs, hr, hrun, hended, hW, hsame⟩ := X0.leave (v := some (xi (1 : Int32))) (fun h => by rw [Bd.returns] at h; cases h)
  refine ⟨_, _, pre0 _ ?_, hrun, hended, _, _, rfl, ?_, ⟨_, rfl⟩, hW, hsame.mono (by decide) (by decide)⟩
  · show own_S p e below s₁ (mkF m 0 #[vi (7 : Int32)] []) _
    refine XS.iloadN X0.here hx rfl (hb hby d4_0) rfl ?_
    show own_S p e below s₁ (mkF m 1 #[vi (7 : Int32)] [xi (7 : Int32)]) _
    refine XS.iconst X0.here hx rfl (hb hby d4_1) ?_
    show own_S p e below s₁ (mkF m 2 #[vi (7 : Int32)] [xi (2 : Int32), xi (7 : Int32)]) _
    refine XS.icmpNo X0.here hx rfl (hb hby d4_2) rfl (by decide) ?_
    show own_S p e below s₁ (mkF m 5 #[vi (7 : Int32)] []) _
    refine XS.iloadN X0.here hx rfl (hb hby d4_5) rfl ?_
    show own_S p e below s₁ (mkF m 6 #[vi (7 : Int32)] [xi (7 : Int32)]) _
    refine XS.iconst X0.here hx rfl (hb hby d4_6) ?_
    show own_S p e below s₁ (mkF m 7 #[vi (7 : Int32)] [xi (3 : Int32), xi (7 : Int32)]) _
    refine XS.icmpNo X0.here hx rfl (hb hby d4_7) rfl (by decide) ?_
    show own_S p e below s₁ (mkF m 10 #[vi (7 : Int32)] []) _
    refine XS.iloadN X0.here hx rfl (hb hby d4_10) rfl ?_
    show own_S p e below s₁ (mkF m 11 #[vi (7 : Int32)] [xi (7 : Int32)]) _
    refine XS.iconst X0.here hx rfl (hb hby d4_11) ?_
    show own_S p e below s₁ (mkF m 12 #[vi (7 : Int32)] [xi (4 : Int32), xi (7 : Int32)]) _
    refine XS.icmpNo X0.here hx rfl (hb hby d4_12) rfl (by decide) ?_
    show own_S p e below s₁ (mkF m 15 #[vi (7 : Int32)] []) _
    refine XS.iloadN X0.here hx rfl (hb hby d4_15) rfl ?_
    show own_S p e below s₁ (mkF m 16 #[vi (7 : Int32)] [xi (7 : Int32)]) _
    refine XS.iconst X0.here hx rfl (hb hby d4_16) ?_
    show own_S p e below s₁ (mkF m 17 #[vi (7 : Int32)] [xi (5 : Int32), xi (7 : Int32)]) _
    refine XS.icmpNo X0.here hx rfl (hb hby d4_17) rfl (by decide) ?_
    show own_S p e below s₁ (mkF m 20 #[vi (7 : Int32)] []) _
    refine XS.iloadN X0.here hx rfl (hb hby d4_20) rfl ?_
    show own_S p e below s₁ (mkF m 21 #[vi (7 : Int32)] [xi (7 : Int32)]) _
    refine XS.bipush X0.here hx rfl (hb hby d4_21) ?_
    show own_S p e below s₁ (mkF m 23 #[vi (7 : Int32)] [xi (9 : Int32), xi (7 : Int32)]) _
    refine XS.icmpYes X0.here hx rfl (pc0 := 23) (pc' := 28) rfl (hb hby d4_23) rfl (by decide) (by decide) (by decide) ?_
    show own_S p e below s₁ (mkF m 28 #[vi (7 : Int32)] []) _
    refine XS.iconst X0.here hx rfl (hb hby d4_28) ?_
    show own_S p e below s₁ (mkF m 29 #[vi (7 : Int32)] [xi (1 : Int32)]) _
    exact retN X0 hx (t := .boolean) Bd.returns (by simp) (hb hby d4_29) hr
  · exact ⟨rfl, N0, e0⟩
theorem ef_own_l7 (m : MethodId) (u0 u1 u2 u3 u4 u5 u6 u7 u8 u9 u10 u11 : Addr) (p1 : Int32) : entryFrame m #[xi p1] maxLocals = (mkF m 0 #[vi p1, vu, vu] []) := by first | (simp [entryFrame, mkF, argsToLocals, Value.category, maxLocals]; done) | rfl
set_option maxRecDepth 65536 in
set_option maxHeartbeats 40000000 in
theorem own_l7 (l : Launch) (Z : State) (a0 : Array Value) (hw : ∀ d ∈ tables_1, d.before a0 Z = true) (u0 u1 u2 u3 u4 u5 u6 u7 u8 u9 u10 u11 : Addr) (G : own_St Z u0 u1 u2 u3 u4 u5 u6 u7 u8 u9 u10 u11) (p1 : Int32) (as7 : ((p1 &&& (2147483647 : Int32)) - ((p1 &&& (2147483647 : Int32)) / (12 : Int32)) * (12 : Int32)) = (7 : Int32)) (h0 : Heap) (n0 : Nat) (O0 : Old Z n0 h0) : own_Met l Z x code maxLocals ret room_1 #[xi p1] h0 (own_QL (some (xi (1 : Int32))) n0) := by
  intro ws
  refine MetFree.of_bodySF (plainFor_of_name pn0) hisR ?_
  intro p e s m args below meth c s₁ Bd hml0 hP hK
  obtain ⟨rfl, hZ, hh⟩ := hP
  have hx := Bd.exec
  have hby := Bd.bytes
  have hml : c.maxLocals = 3 := hml0
  have hown : s.vm.findClass "com/example/mibwright/mibwright/mib/BaseTypeIsIntegerPinLaw" = some m.cls := findClass_of_methodNamed Bd.named
  have hnm := (name_of_methodNamed Bd.named Bd.method).1
  have X0 : Stand p l e room_1 s m #[xi p1] below meth c s₁ [] 0 0 := Stand.of_body Bd
  have e0 : s₁.heap = h0 := by rw [← hh, Bd.state]; rfl
  have N0 := Fr.nil n0
  have pre0 : ∀ t, Steps p.tables e below (s₁.setTop (mkF m 0 #[vi p1, vu, vu] [])) t → Steps p.tables e below (s₁.setTop (entryFrame m #[xi p1] maxLocals)) t := fun t k => castTop (ef_own_l7 m u0 u1 u2 u3 u4 u5 u6 u7 u8 u9 u10 u11 p1) k
  obtain ⟨_, _, ⟨T1, L1, k1, n1⟩, -, X1, ⟨Lc1, hQ1, l1, y1, z1⟩, st1⟩ := Jvm.LawKit.callS X0 hx (y := Y0) hown (mvT hZ (ww hw 1 rfl)) (mvT hZ (ww hw 2 rfl)) (mvT hZ (ww hw 3 rfl)) (mvT hZ (ww hw 4 rfl)) (by decide) (backOf (W := 0) (own_c28_pick l Z a0 hw u0 u1 u2 u3 u4 u5 u6 u7 u8 u9 u10 u11 G h0 n0 O0 []) hZ (ww hw 4 rfl) (ww hw 3 rfl) (by decide) (by decide)) (g := (mkF m 9 #[vi p1, vi (7 : Int32), vu] [xi (7 : Int32)])) rfl (by rw [hml]; rfl) (argsL := [xi (7 : Int32)]) (rest := []) (lenOf pd0 rfl) rfl (by show 2 * 0 + _ ≤ _; exact Nat.le_of_eq rfl) (hb hby at_9) (fun _ _ => ⟨rfl, e0, (by decide : 0 + 0 ≤ _), (by decide : 0 + 0 ≤ _)⟩)
  dsimp only [Pt.U, Pt.locs, Pt.cells, Pt.slots] at X1 l1 y1 z1 st1 hQ1
  subst l1 y1 z1
  obtain ⟨rfl, Nq1, e1⟩ := hQ1
  have N1 := Fr.app N0 Nq1
  obtain ⟨cq2, kq2, qa2, qb2, qc2⟩ := isOf hZ e1 ((own_X_u3 G).ext O0.2)
  obtain ⟨_, _, ⟨T2, L2, k2, n2⟩, -, X2, ⟨Lc2, hQ2, l2, y2, z2⟩, st2⟩ := X1.virtualBack hx (y := Y3) (z := Y3) hown (mvT hZ (ww hw 8 rfl)) (mvT hZ (ww hw 9 rfl)) (notFace_of_selects (args := #[]) (mvT hZ (ww hw 11 rfl))) (mvT hZ (ww hw 11 rfl)) (mvT hZ (ww hw 10 rfl)) (by decide) (backOf (W := 0) (own_c29_isInteger l Z a0 hw u0 u1 u2 u3 u4 u5 u6 u7 u8 u9 u10 u11 G h0 n0 O0 []) hZ (ww hw 12 rfl) (ww hw 6 rfl) (by decide) (by decide)) qa2 qc2 (g := (mkF m 14 #[vi p1, vi (7 : Int32), vr u3] [xr u3])) rfl (by rw [hml]; rfl) (Steps.refl _) (argsL := []) (rest := []) (lenOf pd2 rfl) rfl (by show 2 * 0 + _ ≤ _; exact Nat.le_of_eq rfl) (hb hby at_14) (fun _ _ => ⟨rfl, e1, (by decide : 0 + 0 ≤ _), (by decide : 0 + 0 ≤ _)⟩)
  dsimp only [Pt.U, Pt.locs, Pt.cells, Pt.slots] at X2 l2 y2 z2 st2 hQ2
  subst l2 y2 z2
  obtain ⟨rfl, Nq2, e2⟩ := hQ2
  have N2 := Fr.app N1 Nq2
  obtain ⟨_, _, ⟨T3, L3, k3, n3⟩, -, X3, ⟨Lc3, hQ3, l3, y3, z3⟩, st3⟩ := Jvm.LawKit.callS X2 hx (y := Y4) hown (mvT hZ (ww hw 22 rfl)) (mvT hZ (ww hw 23 rfl)) (mvT hZ (ww hw 3 rfl)) (mvT hZ (ww hw 24 rfl)) (by decide) (backOf (W := 1) (own_c31_holdsIntegers l Z a0 hw u0 u1 u2 u3 u4 u5 u6 u7 u8 u9 u10 u11 G h0 n0 O0 []) hZ (ww hw 24 rfl) (ww hw 3 rfl) (by decide) (by decide)) (g := (mkF m 18 #[vi p1, vi (7 : Int32), vr u3] [xi (7 : Int32), xi (1 : Int32)])) rfl (by rw [hml]; rfl) (argsL := [xi (7 : Int32)]) (rest := [xi (1 : Int32)]) (lenOf pd3 rfl) rfl (by show 2 * 0 + _ ≤ _; exact Nat.le_of_eq rfl) (hb hby at_18) (fun _ _ => ⟨rfl, e2, (by decide : 0 + 0 ≤ _), (by decide : 0 + 0 ≤ _)⟩)
  dsimp only [Pt.U, Pt.locs, Pt.cells, Pt.slots] at X3 l3 y3 z3 st3 hQ3
  subst l3 y3 z3
  obtain ⟨rfl, Nq3, e3⟩ := hQ3
  have N3 := Fr.app N2 Nq3
  obtain ⟨fs, hr, hrun, hended, hW, hsame⟩ := X3.leave (v := some (xi (1 : Int32))) (fun h => by rw [Bd.returns] at h; cases h)
  refine ⟨_, _, pre0 _ ?_, hrun, hended, _, _, rfl, ?_, ⟨_, rfl⟩, hW, hsame.mono (by decide) (by decide)⟩
  · show own_S p e below s₁ (mkF m 0 #[vi p1, vu, vu] []) _
    refine XS.iloadN X0.here hx rfl (hb hby at_0) rfl ?_
    show own_S p e below s₁ (mkF m 1 #[vi p1, vu, vu] [xi p1]) _
    refine X0.ldcI hx hown (mvT hZ (ww hw 0 rfl)) (g := (mkF m 1 #[vi p1, vu, vu] [xi p1])) rfl (hb hby at_1) ?_
    show own_S p e below s₁ (mkF m 3 #[vi p1, vu, vu] [xi (2147483647 : Int32), xi p1]) _
    refine XS.iand X0.here hx rfl (hb hby at_3) rfl ?_
    show own_S p e below s₁ (mkF m 4 #[vi p1, vu, vu] [xi (p1 &&& (2147483647 : Int32))]) _
    show own_S p e below s₁ (mkF m 4 #[vi p1, vu, vu] [xi (p1 &&& (2147483647 : Int32))]) _
    refine XS.bipush X0.here hx rfl (hb hby at_4) ?_
    show own_S p e below s₁ (mkF m 6 #[vi p1, vu, vu] [xi (12 : Int32), xi (p1 &&& (2147483647 : Int32))]) _
    refine XS.irem X0.here hx rfl (hb hby at_6) rfl (by decide) ?_
    show own_S p e below s₁ (mkF m 7 #[vi p1, vu, vu] [xi ((p1 &&& (2147483647 : Int32)) - ((p1 &&& (2147483647 : Int32)) / (12 : Int32)) * (12 : Int32))]) _
    refine castTop (show (mkF m 7 #[vi p1, vu, vu] [xi ((p1 &&& (2147483647 : Int32)) - ((p1 &&& (2147483647 : Int32)) / (12 : Int32)) * (12 : Int32))]) = (mkF m 7 #[vi p1, vu, vu] [xi (7 : Int32)]) from by rw [as7]) ?_
    show own_S p e below s₁ (mkF m 7 #[vi p1, vu, vu] [xi (7 : Int32)]) _
    refine XS.istoreN X0.here hx rfl (hb hby at_7) rfl (l' := #[vi p1, vi (7 : Int32), vu]) rfl ?_
    show own_S p e below s₁ (mkF m 8 #[vi p1, vi (7 : Int32), vu] []) _
    refine XS.iloadN X0.here hx rfl (hb hby at_8) rfl ?_
    show own_S p e below s₁ (mkF m 9 #[vi p1, vi (7 : Int32), vu] [xi (7 : Int32)]) _
    refine st1 _ ?_
    show own_S p e below T1 (mkF m 12 #[vi p1, vi (7 : Int32), vu] [xr u3]) _
    refine XS.astoreN X1.here hx rfl (hb hby at_12) rfl rfl (l' := #[vi p1, vi (7 : Int32), vr u3]) rfl ?_
    show own_S p e below T1 (mkF m 13 #[vi p1, vi (7 : Int32), vr u3] []) _
    refine XS.aloadN X1.here hx rfl (hb hby at_13) rfl rfl ?_
    show own_S p e below T1 (mkF m 14 #[vi p1, vi (7 : Int32), vr u3] [xr u3]) _
    refine st2.trans ?_
    show own_S p e below T2 (mkF m 17 #[vi p1, vi (7 : Int32), vr u3] [xi (1 : Int32)]) _
    refine XS.iloadN X2.here hx rfl (hb hby at_17) rfl ?_
    show own_S p e below T2 (mkF m 18 #[vi p1, vi (7 : Int32), vr u3] [xi (7 : Int32), xi (1 : Int32)]) _
    refine st3 _ ?_
    show own_S p e below T3 (mkF m 21 #[vi p1, vi (7 : Int32), vr u3] [xi (1 : Int32), xi (1 : Int32)]) _
    refine XS.icmpNo X3.here hx rfl (hb hby at_21) rfl (by decide) ?_
    show own_S p e below T3 (mkF m 24 #[vi p1, vi (7 : Int32), vr u3] []) _
    refine XS.iconst X3.here hx rfl (hb hby at_24) ?_
    show own_S p e below T3 (mkF m 25 #[vi p1, vi (7 : Int32), vr u3] [xi (1 : Int32)]) _
    refine XS.goto X3.here hx rfl (pc0 := 25) (pc' := 29) rfl (hb hby at_25) (by decide) (by decide) ?_
    show own_S p e below T3 (mkF m 29 #[vi p1, vi (7 : Int32), vr u3] [xi (1 : Int32)]) _
    exact retN X3 hx (t := .boolean) Bd.returns (by simp) (hb hby at_29) hr
  · exact ⟨rfl, N3⟩
theorem d1_73 : decode method_2_code 73 = .ok (.iload_n 0, 1) := by decide +kernel
theorem d1_74 : decode method_2_code 74 = .ok (.bipush 8, 2) := by decide +kernel
theorem d1_76 : decode method_2_code 76 = .ok (.if_icmp .ne 7, 3) := by decide +kernel
theorem d1_79 : decode method_2_code 79 = .ok (.getstatic 34, 3) := by decide +kernel
theorem d1_82 : decode method_2_code 82 = .ok (.areturn, 1) := by decide +kernel
theorem ef_own_c32_pick (m : MethodId) (u0 u1 u2 u3 u4 u5 u6 u7 u8 u9 u10 u11 : Addr) : entryFrame m #[xi (8 : Int32)] 1 = (mkF m 0 #[vi (8 : Int32)] []) := by first | (simp [entryFrame, mkF, argsToLocals, Value.category]; done) | rfl
set_option maxRecDepth 65536 in
set_option maxHeartbeats 40000000 in
theorem own_c32_pick (l : Launch) (Z : State) (a0 : Array Value) (hw : ∀ d ∈ tables_1, d.before a0 Z = true) (u0 u1 u2 u3 u4 u5 u6 u7 u8 u9 u10 u11 : Addr) (G : own_St Z u0 u1 u2 u3 u4 u5 u6 u7 u8 u9 u10 u11) (h0 : Heap) (n0 : Nat) (O0 : Old Z n0 h0) : own_Met l Z Y0 method_2_code 1 (some (.object "com/example/mibwright/mibwright/mib/BaseType")) ({ frames := 0, cells := 0, slots := 0, locals := 0 } : Room) #[xi (8 : Int32)] h0 (own_QR (some (xr u6)) h0 n0) := by
  intro ws
  refine MetFree.of_bodySF (plainFor_of_name pn0) hisR ?_
  intro p e s m args below meth c s₁ Bd hml0 hP hK
  obtain ⟨rfl, hZ, hh⟩ := hP
  have hx := Bd.exec
  have hby := Bd.bytes
  have hml : c.maxLocals = 1 := hml0
  have hown : s.vm.findClass "com/example/mibwright/mibwright/mib/BaseTypeIsIntegerPinLaw" = some m.cls := findClass_of_methodNamed Bd.named
  have hnm := (name_of_methodNamed Bd.named Bd.method).1
  have X0 : Stand p l e ({ frames := 0, cells := 0, slots := 0, locals := 0 } : Room) s m #[xi (8 : Int32)] below meth c s₁ [] 0 0 := Stand.of_body Bd
  have e0 : s₁.heap = h0 := by rw [← hh, Bd.state]; rfl
  have N0 := Fr.nil n0
  have pre0 : ∀ t, Steps p.tables e below (s₁.setTop (mkF m 0 #[vi (8 : Int32)] [])) t → Steps p.tables e below (s₁.setTop (entryFrame m #[xi (8 : Int32)] 1)) t := fun t k => castTop (ef_own_c32_pick m u0 u1 u2 u3 u4 u5 u6 u7 u8 u9 u10 u11) k
  obtain ⟨T1, X1, e1, st1⟩ := getS2 X0 hx hZ hown (host := "") (Or.inl (ww hw 35 rfl)) Via.refl e0 ((own_S_u6 G).ext O0.2) (g := (mkF m 79 #[vi (8 : Int32)] [])) rfl (hb hby d1_79)
  obtain ⟨fs, hr, hrun, hended, hW, hsame⟩ := X1.leave (v := some (xr u6)) (fun h => by rw [Bd.returns] at h; cases h)
  refine ⟨_, _, pre0 _ ?_, hrun, hended, _, _, rfl, ?_, ⟨_, rfl⟩, hW, hsame.mono (by decide) (by decide)⟩
  · show own_S p e below s₁ (mkF m 0 #[vi (8 : Int32)] []) _
    refine XS.iloadN X0.here hx rfl (hb hby d1_0) rfl ?_
    show own_S p e below s₁ (mkF m 1 #[vi (8 : Int32)] [xi (8 : Int32)]) _
    refine XS.ifYes X0.here hx rfl (pc0 := 1) (pc' := 8) rfl (hb hby d1_1) rfl (by decide) (by decide) (by decide) ?_
    show own_S p e below s₁ (mkF m 8 #[vi (8 : Int32)] []) _
    refine XS.iloadN X0.here hx rfl (hb hby d1_8) rfl ?_
    show own_S p e below s₁ (mkF m 9 #[vi (8 : Int32)] [xi (8 : Int32)]) _
    refine XS.iconst X0.here hx rfl (hb hby d1_9) ?_
    show own_S p e below s₁ (mkF m 10 #[vi (8 : Int32)] [xi (1 : Int32), xi (8 : Int32)]) _
    refine XS.icmpYes X0.here hx rfl (pc0 := 10) (pc' := 17) rfl (hb hby d1_10) rfl (by decide) (by decide) (by decide) ?_
    show own_S p e below s₁ (mkF m 17 #[vi (8 : Int32)] []) _
    refine XS.iloadN X0.here hx rfl (hb hby d1_17) rfl ?_
    show own_S p e below s₁ (mkF m 18 #[vi (8 : Int32)] [xi (8 : Int32)]) _
    refine XS.iconst X0.here hx rfl (hb hby d1_18) ?_
    show own_S p e below s₁ (mkF m 19 #[vi (8 : Int32)] [xi (2 : Int32), xi (8 : Int32)]) _
    refine XS.icmpYes X0.here hx rfl (pc0 := 19) (pc' := 26) rfl (hb hby d1_19) rfl (by decide) (by decide) (by decide) ?_
    show own_S p e below s₁ (mkF m 26 #[vi (8 : Int32)] []) _
    refine XS.iloadN X0.here hx rfl (hb hby d1_26) rfl ?_
    show own_S p e below s₁ (mkF m 27 #[vi (8 : Int32)] [xi (8 : Int32)]) _
    refine XS.iconst X0.here hx rfl (hb hby d1_27) ?_
    show own_S p e below s₁ (mkF m 28 #[vi (8 : Int32)] [xi (3 : Int32), xi (8 : Int32)]) _
    refine XS.icmpYes X0.here hx rfl (pc0 := 28) (pc' := 35) rfl (hb hby d1_28) rfl (by decide) (by decide) (by decide) ?_
    show own_S p e below s₁ (mkF m 35 #[vi (8 : Int32)] []) _
    refine XS.iloadN X0.here hx rfl (hb hby d1_35) rfl ?_
    show own_S p e below s₁ (mkF m 36 #[vi (8 : Int32)] [xi (8 : Int32)]) _
    refine XS.iconst X0.here hx rfl (hb hby d1_36) ?_
    show own_S p e below s₁ (mkF m 37 #[vi (8 : Int32)] [xi (4 : Int32), xi (8 : Int32)]) _
    refine XS.icmpYes X0.here hx rfl (pc0 := 37) (pc' := 44) rfl (hb hby d1_37) rfl (by decide) (by decide) (by decide) ?_
    show own_S p e below s₁ (mkF m 44 #[vi (8 : Int32)] []) _
    refine XS.iloadN X0.here hx rfl (hb hby d1_44) rfl ?_
    show own_S p e below s₁ (mkF m 45 #[vi (8 : Int32)] [xi (8 : Int32)]) _
    refine XS.iconst X0.here hx rfl (hb hby d1_45) ?_
    show own_S p e below s₁ (mkF m 46 #[vi (8 : Int32)] [xi (5 : Int32), xi (8 : Int32)]) _
    refine XS.icmpYes X0.here hx rfl (pc0 := 46) (pc' := 53) rfl (hb hby d1_46) rfl (by decide) (by decide) (by decide) ?_
    show own_S p e below s₁ (mkF m 53 #[vi (8 : Int32)] []) _
    refine XS.iloadN X0.here hx rfl (hb hby d1_53) rfl ?_
    show own_S p e below s₁ (mkF m 54 #[vi (8 : Int32)] [xi (8 : Int32)]) _
    refine XS.bipush X0.here hx rfl (hb hby d1_54) ?_
    show own_S p e below s₁ (mkF m 56 #[vi (8 : Int32)] [xi (6 : Int32), xi (8 : Int32)]) _
    refine XS.icmpYes X0.here hx rfl (pc0 := 56) (pc' := 63) rfl (hb hby d1_56) rfl (by decide) (by decide) (by decide) ?_
    show own_S p e below s₁ (mkF m 63 #[vi (8 : Int32)] []) _
    refine XS.iloadN X0.here hx rfl (hb hby d1_63) rfl ?_
    show own_S p e below s₁ (mkF m 64 #[vi (8 : Int32)] [xi (8 : Int32)]) _
    refine XS.bipush X0.here hx rfl (hb hby d1_64) ?_
    show own_S p e below s₁ (mkF m 66 #[vi (8 : Int32)] [xi (7 : Int32), xi (8 : Int32)]) _
    refine XS.icmpYes X0.here hx rfl (pc0 := 66) (pc' := 73) rfl (hb hby d1_66) rfl (by decide) (by decide) (by decide) ?_
    show own_S p e below s₁ (mkF m 73 #[vi (8 : Int32)] []) _
    refine XS.iloadN X0.here hx rfl (hb hby d1_73) rfl ?_
    show own_S p e below s₁ (mkF m 74 #[vi (8 : Int32)] [xi (8 : Int32)]) _
    refine XS.bipush X0.here hx rfl (hb hby d1_74) ?_
    show own_S p e below s₁ (mkF m 76 #[vi (8 : Int32)] [xi (8 : Int32), xi (8 : Int32)]) _
    refine XS.icmpNo X0.here hx rfl (hb hby d1_76) rfl (by decide) ?_
    show own_S p e below s₁ (mkF m 79 #[vi (8 : Int32)] []) _
    refine st1 _ ?_
    show own_S p e below T1 (mkF m 82 #[vi (8 : Int32)] [xr u6]) _
    exact X1.areturnOut hx rfl Bd.returns rfl (hb hby d1_82) hr
  · exact ⟨rfl, N0, e1⟩
theorem ef_own_c33_ordinal (m : MethodId) (u0 u1 u2 u3 u4 u5 u6 u7 u8 u9 u10 u11 : Addr) : entryFrame m #[xr u6] 1 = (mkF m 0 #[vr u6] []) := by first | (simp [entryFrame, mkF, argsToLocals, Value.category]; done) | rfl
set_option maxRecDepth 65536 in
set_option maxHeartbeats 40000000 in
theorem own_c33_ordinal (l : Launch) (Z : State) (a0 : Array Value) (hw : ∀ d ∈ tables_1, d.before a0 Z = true) (u0 u1 u2 u3 u4 u5 u6 u7 u8 u9 u10 u11 : Addr) (G : own_St Z u0 u1 u2 u3 u4 u5 u6 u7 u8 u9 u10 u11) (h0 : Heap) (n0 : Nat) (O0 : Old Z n0 h0) : own_Met l Z Y1 jdk_37_method_2_code 1 (some .int) ({ frames := 0, cells := 0, slots := 0, locals := 0 } : Room) #[xr u6] h0 (own_QR (some (xi (8 : Int32))) h0 n0) := by
  intro ws
  refine MetFree.of_bodySF (plainFor_of_name pn1) hisR ?_
  intro p e s m args below meth c s₁ Bd hml0 hP hK
  obtain ⟨rfl, hZ, hh⟩ := hP
  have hx := Bd.exec
  have hby := Bd.bytes
  have hml : c.maxLocals = 1 := hml0
  have hown : s.vm.findClass "java/lang/Enum" = some m.cls := findClass_of_methodNamed Bd.named
  have hnm := (name_of_methodNamed Bd.named Bd.method).1
  have X0 : Stand p l e ({ frames := 0, cells := 0, slots := 0, locals := 0 } : Room) s m #[xr u6] below meth c s₁ [] 0 0 := Stand.of_body Bd
  have e0 : s₁.heap = h0 := by rw [← hh, Bd.state]; rfl
  have N0 := Fr.nil n0
  have pre0 : ∀ t, Steps p.tables e below (s₁.setTop (mkF m 0 #[vr u6] [])) t → Steps p.tables e below (s₁.setTop (entryFrame m #[xr u6] 1)) t := fun t k => castTop (ef_own_c33_ordinal m u0 u1 u2 u3 u4 u5 u6 u7 u8 u9 u10 u11) k
  obtain ⟨T1, X1, e1, st1⟩ := getF X0 hx hZ hown (host := "") (Or.inl (ww hw 20 rfl)) Via.refl e0 ((own_F_u6_ordinal G).ext O0.2) (g := (mkF m 1 #[vr u6] [xr u6])) rfl rfl (hb hby d3_1)
  obtain ⟨fs, hr, hrun, hended, hW, hsame⟩ := X1.leave (v := some (xi (8 : Int32))) (fun h => by rw [Bd.returns] at h; cases h)
  refine ⟨_, _, pre0 _ ?_, hrun, hended, _, _, rfl, ?_, ⟨_, rfl⟩, hW, hsame.mono (by decide) (by decide)⟩
  · show own_S p e below s₁ (mkF m 0 #[vr u6] []) _
    refine XS.aloadN X0.here hx rfl (hb hby d3_0) rfl rfl ?_
    show own_S p e below s₁ (mkF m 1 #[vr u6] [xr u6]) _
    refine st1 _ ?_
    show own_S p e below T1 (mkF m 4 #[vr u6] [xi (8 : Int32)]) _
    exact retI X1 hx Bd.returns (hb hby d3_4) hr
  · exact ⟨rfl, N0, e1⟩
theorem ef_own_c33_isInteger (m : MethodId) (u0 u1 u2 u3 u4 u5 u6 u7 u8 u9 u10 u11 : Addr) : entryFrame m #[xr u6] 1 = (mkF m 0 #[vr u6] []) := by first | (simp [entryFrame, mkF, argsToLocals, Value.category]; done) | rfl
set_option maxRecDepth 65536 in
set_option maxHeartbeats 40000000 in
theorem own_c33_isInteger (l : Launch) (Z : State) (a0 : Array Value) (hw : ∀ d ∈ tables_1, d.before a0 Z = true) (u0 u1 u2 u3 u4 u5 u6 u7 u8 u9 u10 u11 : Addr) (G : own_St Z u0 u1 u2 u3 u4 u5 u6 u7 u8 u9 u10 u11) (h0 : Heap) (n0 : Nat) (O0 : Old Z n0 h0) : own_Met l Z Y3 prog_26_method_5_code 1 (some .boolean) ({ frames := 1, cells := 0, slots := 0, locals := 12 } : Room) #[xr u6] h0 (own_QR (some (xi (1 : Int32))) h0 n0) := by
  intro ws
  refine MetFree.of_bodySF (plainFor_of_name pn2) hisR ?_
  intro p e s m args below meth c s₁ Bd hml0 hP hK
  obtain ⟨rfl, hZ, hh⟩ := hP
  have hx := Bd.exec
  have hby := Bd.bytes
  have hml : c.maxLocals = 1 := hml0
  have hown : s.vm.findClass "com/example/mibwright/mibwright/mib/BaseType" = some m.cls := findClass_of_methodNamed Bd.named
  have hnm := (name_of_methodNamed Bd.named Bd.method).1
  have X0 : Stand p l e ({ frames := 1, cells := 0, slots := 0, locals := 12 } : Room) s m #[xr u6] below meth c s₁ [] 0 0 := Stand.of_body Bd
  have e0 : s₁.heap = h0 := by rw [← hh, Bd.state]; rfl
  have N0 := Fr.nil n0
  have pre0 : ∀ t, Steps p.tables e below (s₁.setTop (mkF m 0 #[vr u6] [])) t → Steps p.tables e below (s₁.setTop (entryFrame m #[xr u6] 1)) t := fun t k => castTop (ef_own_c33_isInteger m u0 u1 u2 u3 u4 u5 u6 u7 u8 u9 u10 u11) k
  obtain ⟨cq1, kq1, qa1, qb1, qc1⟩ := isOf hZ e0 ((own_X_u6 G).ext O0.2)
  obtain ⟨_, _, ⟨T1, L1, k1, n1⟩, -, X1, ⟨Lc1, hQ1, l1, y1, z1⟩, st1⟩ := X0.virtualBackUp hx (x := Y2) (y := Y1) hown (mvT hZ (ww hw 13 rfl)) (mvT hZ (ww hw 14 rfl)) (mvT hZ (ww hw 15 rfl)) (by decide) (mvT hZ (ww hw 17 rfl)) (mvT hZ (ww hw 16 rfl)) (backOf (W := 0) (own_c33_ordinal l Z a0 hw u0 u1 u2 u3 u4 u5 u6 u7 u8 u9 u10 u11 G h0 n0 O0 []) hZ (ww hw 19 rfl) (ww hw 18 rfl) (by decide) (by decide)) qa1 qc1 (g := (mkF m 1 #[vr u6] [xr u6])) rfl (by rw [hml]; rfl) (Steps.refl _) (argsL := []) (rest := []) (lenOf pd1 rfl) rfl (by show 2 * 0 + _ ≤ _; exact Nat.le_of_eq rfl) (hb hby d2_1) (fun _ _ => ⟨rfl, e0, (by decide : 0 + 0 ≤ _), (by decide : 0 + 0 ≤ _)⟩)
  dsimp only [Pt.U, Pt.locs, Pt.cells, Pt.slots] at X1 l1 y1 z1 st1 hQ1
  subst l1 y1 z1
  obtain ⟨rfl, Nq1, e1⟩ := hQ1
  have N1 := Fr.app N0 Nq1
  obtain ⟨fs, hr, hrun, hended, hW, hsame⟩ := X1.leave (v := some (xi (1 : Int32))) (fun h => by rw [Bd.returns] at h; cases h)
  refine ⟨_, _, pre0 _ ?_, hrun, hended, _, _, rfl, ?_, ⟨_, rfl⟩, hW, hsame.mono (by decide) (by decide)⟩
  · show own_S p e below s₁ (mkF m 0 #[vr u6] []) _
    refine XS.aloadN X0.here hx rfl (hb hby d2_0) rfl rfl ?_
    show own_S p e below s₁ (mkF m 1 #[vr u6] [xr u6]) _
    refine st1.trans ?_
    show own_S p e below T1 (mkF m 4 #[vr u6] [xi (8 : Int32)]) _
    refine XS.tswIn X1.here hx rfl (pc0 := 4) (pc' := 78) (o := 74) rfl (hb hby d2_4) rfl (by decide) (by decide) (by decide) (by decide) ?_
    show own_S p e below T1 (mkF m 78 #[vr u6] []) _
    refine XS.iconst X1.here hx rfl (hb hby d2_78) ?_
    show own_S p e below T1 (mkF m 79 #[vr u6] [xi (1 : Int32)]) _
    refine XS.goto X1.here hx rfl (pc0 := 79) (pc' := 83) rfl (hb hby d2_79) (by decide) (by decide) ?_
    show own_S p e below T1 (mkF m 83 #[vr u6] [xi (1 : Int32)]) _
    exact retN X1 hx (t := .boolean) Bd.returns (by simp) (hb hby d2_83) hr
  · exact ⟨rfl, N1, e1⟩
theorem ef_own_c35_holdsIntegers (m : MethodId) (u0 u1 u2 u3 u4 u5 u6 u7 u8 u9 u10 u11 : Addr) : entryFrame m #[xi (8 : Int32)] 1 = (mkF m 0 #[vi (8 : Int32)] []) := by first | (simp [entryFrame, mkF, argsToLocals, Value.category]; done) | rfl
set_option maxRecDepth 65536 in
set_option maxHeartbeats 40000000 in
theorem own_c35_holdsIntegers (l : Launch) (Z : State) (a0 : Array Value) (hw : ∀ d ∈ tables_1, d.before a0 Z = true) (u0 u1 u2 u3 u4 u5 u6 u7 u8 u9 u10 u11 : Addr) (G : own_St Z u0 u1 u2 u3 u4 u5 u6 u7 u8 u9 u10 u11) (h0 : Heap) (n0 : Nat) (O0 : Old Z n0 h0) : own_Met l Z Y4 method_3_code 1 (some .boolean) ({ frames := 0, cells := 0, slots := 0, locals := 0 } : Room) #[xi (8 : Int32)] h0 (own_QR (some (xi (1 : Int32))) h0 n0) := by
  intro ws
  refine MetFree.of_bodySF (plainFor_of_name pn0) hisR ?_
  intro p e s m args below meth c s₁ Bd hml0 hP hK
  obtain ⟨rfl, hZ, hh⟩ := hP
  have hx := Bd.exec
  have hby := Bd.bytes
  have hml : c.maxLocals = 1 := hml0
  have hown : s.vm.findClass "com/example/mibwright/mibwright/mib/BaseTypeIsIntegerPinLaw" = some m.cls := findClass_of_methodNamed Bd.named
  have hnm := (name_of_methodNamed Bd.named Bd.method).1
  have X0 : Stand p l e ({ frames := 0, cells := 0, slots := 0, locals := 0 } : Room) s m #[xi (8 : Int32)] below meth c s₁ [] 0 0 := Stand.of_body Bd
  have e0 : s₁.heap = h0 := by rw [← hh, Bd.state]; rfl
  have N0 := Fr.nil n0
  have pre0 : ∀ t, Steps p.tables e below (s₁.setTop (mkF m 0 #[vi (8 : Int32)] [])) t → Steps p.tables e below (s₁.setTop (entryFrame m #[xi (8 : Int32)] 1)) t := fun t k => castTop (ef_own_c35_holdsIntegers m u0 u1 u2 u3 u4 u5 u6 u7 u8 u9 u10 u11) k
  obtain ⟨fs, hr, hrun, hended, hW, hsame⟩ := X0.leave (v := some (xi (1 : Int32))) (fun h => by rw [Bd.returns] at h; cases h)
  refine ⟨_, _, pre0 _ ?_, hrun, hended, _, _, rfl, ?_, ⟨_, rfl⟩, hW, hsame.mono (by decide) (by decide)⟩
  · show own_S p e below s₁ (mkF m 0 #[vi (8 : Int32)] []) _
    refine XS.iloadN X0.here hx rfl (hb hby d4_0) rfl ?_
    show own_S p e below s₁ (mkF m 1 #[vi (8 : Int32)] [xi (8 : Int32)]) _
    refine XS.iconst X0.here hx rfl (hb hby d4_1) ?_
    show own_S p e below s₁ (mkF m 2 #[vi (8 : Int32)] [xi (2 : Int32), xi (8 : Int32)]) _
    refine XS.icmpNo X0.here hx rfl (hb hby d4_2) rfl (by decide) ?_
    show own_S p e below s₁ (mkF m 5 #[vi (8 : Int32)] []) _
    refine XS.iloadN X0.here hx rfl (hb hby d4_5) rfl ?_
    show own_S p e below s₁ (mkF m 6 #[vi (8 : Int32)] [xi (8 : Int32)]) _
    refine XS.iconst X0.here hx rfl (hb hby d4_6) ?_
    show own_S p e below s₁ (mkF m 7 #[vi (8 : Int32)] [xi (3 : Int32), xi (8 : Int32)]) _
    refine XS.icmpNo X0.here hx rfl (hb hby d4_7) rfl (by decide) ?_
    show own_S p e below s₁ (mkF m 10 #[vi (8 : Int32)] []) _
    refine XS.iloadN X0.here hx rfl (hb hby d4_10) rfl ?_
    show own_S p e below s₁ (mkF m 11 #[vi (8 : Int32)] [xi (8 : Int32)]) _
    refine XS.iconst X0.here hx rfl (hb hby d4_11) ?_
    show own_S p e below s₁ (mkF m 12 #[vi (8 : Int32)] [xi (4 : Int32), xi (8 : Int32)]) _
    refine XS.icmpNo X0.here hx rfl (hb hby d4_12) rfl (by decide) ?_
    show own_S p e below s₁ (mkF m 15 #[vi (8 : Int32)] []) _
    refine XS.iloadN X0.here hx rfl (hb hby d4_15) rfl ?_
    show own_S p e below s₁ (mkF m 16 #[vi (8 : Int32)] [xi (8 : Int32)]) _
    refine XS.iconst X0.here hx rfl (hb hby d4_16) ?_
    show own_S p e below s₁ (mkF m 17 #[vi (8 : Int32)] [xi (5 : Int32), xi (8 : Int32)]) _
    refine XS.icmpNo X0.here hx rfl (hb hby d4_17) rfl (by decide) ?_
    show own_S p e below s₁ (mkF m 20 #[vi (8 : Int32)] []) _
    refine XS.iloadN X0.here hx rfl (hb hby d4_20) rfl ?_
    show own_S p e below s₁ (mkF m 21 #[vi (8 : Int32)] [xi (8 : Int32)]) _
    refine XS.bipush X0.here hx rfl (hb hby d4_21) ?_
    show own_S p e below s₁ (mkF m 23 #[vi (8 : Int32)] [xi (9 : Int32), xi (8 : Int32)]) _
    refine XS.icmpYes X0.here hx rfl (pc0 := 23) (pc' := 28) rfl (hb hby d4_23) rfl (by decide) (by decide) (by decide) ?_
    show own_S p e below s₁ (mkF m 28 #[vi (8 : Int32)] []) _
    refine XS.iconst X0.here hx rfl (hb hby d4_28) ?_
    show own_S p e below s₁ (mkF m 29 #[vi (8 : Int32)] [xi (1 : Int32)]) _
    exact retN X0 hx (t := .boolean) Bd.returns (by simp) (hb hby d4_29) hr
  · exact ⟨rfl, N0, e0⟩
theorem ef_own_l8 (m : MethodId) (u0 u1 u2 u3 u4 u5 u6 u7 u8 u9 u10 u11 : Addr) (p1 : Int32) : entryFrame m #[xi p1] maxLocals = (mkF m 0 #[vi p1, vu, vu] []) := by first | (simp [entryFrame, mkF, argsToLocals, Value.category, maxLocals]; done) | rfl
set_option maxRecDepth 65536 in
set_option maxHeartbeats 40000000 in
theorem own_l8 (l : Launch) (Z : State) (a0 : Array Value) (hw : ∀ d ∈ tables_1, d.before a0 Z = true) (u0 u1 u2 u3 u4 u5 u6 u7 u8 u9 u10 u11 : Addr) (G : own_St Z u0 u1 u2 u3 u4 u5 u6 u7 u8 u9 u10 u11) (p1 : Int32) (as8 : ((p1 &&& (2147483647 : Int32)) - ((p1 &&& (2147483647 : Int32)) / (12 : Int32)) * (12 : Int32)) = (8 : Int32)) (h0 : Heap) (n0 : Nat) (O0 : Old Z n0 h0) : own_Met l Z x code maxLocals ret room_1 #[xi p1] h0 (own_QL (some (xi (1 : Int32))) n0) := by
  intro ws
  refine MetFree.of_bodySF (plainFor_of_name pn0) hisR ?_
  intro p e s m args below meth c s₁ Bd hml0 hP hK
  obtain ⟨rfl, hZ, hh⟩ := hP
  have hx := Bd.exec
  have hby := Bd.bytes
  have hml : c.maxLocals = 3 := hml0
  have hown : s.vm.findClass "com/example/mibwright/mibwright/mib/BaseTypeIsIntegerPinLaw" = some m.cls := findClass_of_methodNamed Bd.named
  have hnm := (name_of_methodNamed Bd.named Bd.method).1
  have X0 : Stand p l e room_1 s m #[xi p1] below meth c s₁ [] 0 0 := Stand.of_body Bd
  have e0 : s₁.heap = h0 := by rw [← hh, Bd.state]; rfl
  have N0 := Fr.nil n0
  have pre0 : ∀ t, Steps p.tables e below (s₁.setTop (mkF m 0 #[vi p1, vu, vu] [])) t → Steps p.tables e below (s₁.setTop (entryFrame m #[xi p1] maxLocals)) t := fun t k => castTop (ef_own_l8 m u0 u1 u2 u3 u4 u5 u6 u7 u8 u9 u10 u11 p1) k
  obtain ⟨_, _, ⟨T1, L1, k1, n1⟩, -, X1, ⟨Lc1, hQ1, l1, y1, z1⟩, st1⟩ := Jvm.LawKit.callS X0 hx (y := Y0) hown (mvT hZ (ww hw 1 rfl)) (mvT hZ (ww hw 2 rfl)) (mvT hZ (ww hw 3 rfl)) (mvT hZ (ww hw 4 rfl)) (by decide) (backOf (W := 0) (own_c32_pick l Z a0 hw u0 u1 u2 u3 u4 u5 u6 u7 u8 u9 u10 u11 G h0 n0 O0 []) hZ (ww hw 4 rfl) (ww hw 3 rfl) (by decide) (by decide)) (g := (mkF m 9 #[vi p1, vi (8 : Int32), vu] [xi (8 : Int32)])) rfl (by rw [hml]; rfl) (argsL := [xi (8 : Int32)]) (rest := []) (lenOf pd0 rfl) rfl (by show 2 * 0 + _ ≤ _; exact Nat.le_of_eq rfl) (hb hby at_9) (fun _ _ => ⟨rfl, e0, (by decide : 0 + 0 ≤ _), (by decide : 0 + 0 ≤ _)⟩)
  dsimp only [Pt.U, Pt.locs, Pt.cells, Pt.slots] at X1 l1 y1 z1 st1 hQ1
  subst l1 y1 z1
  obtain ⟨rfl, Nq1, e1⟩ := hQ1
  have N1 := Fr.app N0 Nq1
  obtain ⟨cq2, kq2, qa2, qb2, qc2⟩ := isOf hZ e1 ((own_X_u6 G).ext O0.2)
  obtain ⟨_, _, ⟨T2, L2, k2, n2⟩, -, X2, ⟨Lc2, hQ2, l2, y2, z2⟩, st2⟩ := X1.virtualBack hx (y := Y3) (z := Y3) hown (mvT hZ (ww hw 8 rfl)) (mvT hZ (ww hw 9 rfl)) (notFace_of_selects (args := #[]) (mvT hZ (ww hw 11 rfl))) (mvT hZ (ww hw 11 rfl)) (mvT hZ (ww hw 10 rfl)) (by decide) (backOf (W := 0) (own_c33_isInteger l Z a0 hw u0 u1 u2 u3 u4 u5 u6 u7 u8 u9 u10 u11 G h0 n0 O0 []) hZ (ww hw 12 rfl) (ww hw 6 rfl) (by decide) (by decide)) qa2 qc2 (g := (mkF m 14 #[vi p1, vi (8 : Int32), vr u6] [xr u6])) rfl (by rw [hml]; rfl) (Steps.refl _) (argsL := []) (rest := []) (lenOf pd2 rfl) rfl (by show 2 * 0 + _ ≤ _; exact Nat.le_of_eq rfl) (hb hby at_14) (fun _ _ => ⟨rfl, e1, (by decide : 0 + 0 ≤ _), (by decide : 0 + 0 ≤ _)⟩)
  dsimp only [Pt.U, Pt.locs, Pt.cells, Pt.slots] at X2 l2 y2 z2 st2 hQ2
  subst l2 y2 z2
  obtain ⟨rfl, Nq2, e2⟩ := hQ2
  have N2 := Fr.app N1 Nq2
  obtain ⟨_, _, ⟨T3, L3, k3, n3⟩, -, X3, ⟨Lc3, hQ3, l3, y3, z3⟩, st3⟩ := Jvm.LawKit.callS X2 hx (y := Y4) hown (mvT hZ (ww hw 22 rfl)) (mvT hZ (ww hw 23 rfl)) (mvT hZ (ww hw 3 rfl)) (mvT hZ (ww hw 24 rfl)) (by decide) (backOf (W := 1) (own_c35_holdsIntegers l Z a0 hw u0 u1 u2 u3 u4 u5 u6 u7 u8 u9 u10 u11 G h0 n0 O0 []) hZ (ww hw 24 rfl) (ww hw 3 rfl) (by decide) (by decide)) (g := (mkF m 18 #[vi p1, vi (8 : Int32), vr u6] [xi (8 : Int32), xi (1 : Int32)])) rfl (by rw [hml]; rfl) (argsL := [xi (8 : Int32)]) (rest := [xi (1 : Int32)]) (lenOf pd3 rfl) rfl (by show 2 * 0 + _ ≤ _; exact Nat.le_of_eq rfl) (hb hby at_18) (fun _ _ => ⟨rfl, e2, (by decide : 0 + 0 ≤ _), (by decide : 0 + 0 ≤ _)⟩)
  dsimp only [Pt.U, Pt.locs, Pt.cells, Pt.slots] at X3 l3 y3 z3 st3 hQ3
  subst l3 y3 z3
  obtain ⟨rfl, Nq3, e3⟩ := hQ3
  have N3 := Fr.app N2 Nq3
  obtain ⟨fs, hr, hrun, hended, hW, hsame⟩ := X3.leave (v := some (xi (1 : Int32))) (fun h => by rw [Bd.returns] at h; cases h)
  refine ⟨_, _, pre0 _ ?_, hrun, hended, _, _, rfl, ?_, ⟨_, rfl⟩, hW, hsame.mono (by decide) (by decide)⟩
  · show own_S p e below s₁ (mkF m 0 #[vi p1, vu, vu] []) _
    refine XS.iloadN X0.here hx rfl (hb hby at_0) rfl ?_
    show own_S p e below s₁ (mkF m 1 #[vi p1, vu, vu] [xi p1]) _
    refine X0.ldcI hx hown (mvT hZ (ww hw 0 rfl)) (g := (mkF m 1 #[vi p1, vu, vu] [xi p1])) rfl (hb hby at_1) ?_
    show own_S p e below s₁ (mkF m 3 #[vi p1, vu, vu] [xi (2147483647 : Int32), xi p1]) _
    refine XS.iand X0.here hx rfl (hb hby at_3) rfl ?_
    show own_S p e below s₁ (mkF m 4 #[vi p1, vu, vu] [xi (p1 &&& (2147483647 : Int32))]) _
    show own_S p e below s₁ (mkF m 4 #[vi p1, vu, vu] [xi (p1 &&& (2147483647 : Int32))]) _
    refine XS.bipush X0.here hx rfl (hb hby at_4) ?_
    show own_S p e below s₁ (mkF m 6 #[vi p1, vu, vu] [xi (12 : Int32), xi (p1 &&& (2147483647 : Int32))]) _
    refine XS.irem X0.here hx rfl (hb hby at_6) rfl (by decide) ?_
    show own_S p e below s₁ (mkF m 7 #[vi p1, vu, vu] [xi ((p1 &&& (2147483647 : Int32)) - ((p1 &&& (2147483647 : Int32)) / (12 : Int32)) * (12 : Int32))]) _
    refine castTop (show (mkF m 7 #[vi p1, vu, vu] [xi ((p1 &&& (2147483647 : Int32)) - ((p1 &&& (2147483647 : Int32)) / (12 : Int32)) * (12 : Int32))]) = (mkF m 7 #[vi p1, vu, vu] [xi (8 : Int32)]) from by rw [as8]) ?_
    show own_S p e below s₁ (mkF m 7 #[vi p1, vu, vu] [xi (8 : Int32)]) _
    refine XS.istoreN X0.here hx rfl (hb hby at_7) rfl (l' := #[vi p1, vi (8 : Int32), vu]) rfl ?_
    show own_S p e below s₁ (mkF m 8 #[vi p1, vi (8 : Int32), vu] []) _
    refine XS.iloadN X0.here hx rfl (hb hby at_8) rfl ?_
    show own_S p e below s₁ (mkF m 9 #[vi p1, vi (8 : Int32), vu] [xi (8 : Int32)]) _
    refine st1 _ ?_
    show own_S p e below T1 (mkF m 12 #[vi p1, vi (8 : Int32), vu] [xr u6]) _
    refine XS.astoreN X1.here hx rfl (hb hby at_12) rfl rfl (l' := #[vi p1, vi (8 : Int32), vr u6]) rfl ?_
    show own_S p e below T1 (mkF m 13 #[vi p1, vi (8 : Int32), vr u6] []) _
    refine XS.aloadN X1.here hx rfl (hb hby at_13) rfl rfl ?_
    show own_S p e below T1 (mkF m 14 #[vi p1, vi (8 : Int32), vr u6] [xr u6]) _
    refine st2.trans ?_
    show own_S p e below T2 (mkF m 17 #[vi p1, vi (8 : Int32), vr u6] [xi (1 : Int32)]) _
    refine XS.iloadN X2.here hx rfl (hb hby at_17) rfl ?_
    show own_S p e below T2 (mkF m 18 #[vi p1, vi (8 : Int32), vr u6] [xi (8 : Int32), xi (1 : Int32)]) _
    refine st3 _ ?_
    show own_S p e below T3 (mkF m 21 #[vi p1, vi (8 : Int32), vr u6] [xi (1 : Int32), xi (1 : Int32)]) _
    refine XS.icmpNo X3.here hx rfl (hb hby at_21) rfl (by decide) ?_
    show own_S p e below T3 (mkF m 24 #[vi p1, vi (8 : Int32), vr u6] []) _
    refine XS.iconst X3.here hx rfl (hb hby at_24) ?_
    show own_S p e below T3 (mkF m 25 #[vi p1, vi (8 : Int32), vr u6] [xi (1 : Int32)]) _
    refine XS.goto X3.here hx rfl (pc0 := 25) (pc' := 29) rfl (hb hby at_25) (by decide) (by decide) ?_
    show own_S p e below T3 (mkF m 29 #[vi p1, vi (8 : Int32), vr u6] [xi (1 : Int32)]) _
    exact retN X3 hx (t := .boolean) Bd.returns (by simp) (hb hby at_29) hr
  · exact ⟨rfl, N3⟩
theorem d1_83 : decode method_2_code 83 = .ok (.iload_n 0, 1) := by decide +kernel
theorem d1_84 : decode method_2_code 84 = .ok (.bipush 9, 2) := by decide +kernel
theorem d1_86 : decode method_2_code 86 = .ok (.if_icmp .ne 7, 3) := by decide +kernel
theorem d1_89 : decode method_2_code 89 = .ok (.getstatic 37, 3) := by decide +kernel
theorem d1_92 : decode method_2_code 92 = .ok (.areturn, 1) := by decide +kernel
theorem ef_own_c36_pick (m : MethodId) (u0 u1 u2 u3 u4 u5 u6 u7 u8 u9 u10 u11 : Addr) : entryFrame m #[xi (9 : Int32)] 1 = (mkF m 0 #[vi (9 : Int32)] []) := by first | (simp [entryFrame, mkF, argsToLocals, Value.category]; done) | rfl
set_option maxRecDepth 65536 in
set_option maxHeartbeats 40000000 in
theorem own_c36_pick (l : Launch) (Z : State) (a0 : Array Value) (hw : ∀ d ∈ tables_1, d.before a0 Z = true) (u0 u1 u2 u3 u4 u5 u6 u7 u8 u9 u10 u11 : Addr) (G : own_St Z u0 u1 u2 u3 u4 u5 u6 u7 u8 u9 u10 u11) (h0 : Heap) (n0 : Nat) (O0 : Old Z n0 h0) : own_Met l Z Y0 method_2_code 1 (some (.object "com/example/mibwright/mibwright/mib/BaseType")) ({ frames := 0, cells := 0, slots := 0, locals := 0 } : Room) #[xi (9 : Int32)] h0 (own_QR (some (xr u9)) h0 n0) := by
  intro ws
  refine MetFree.of_bodySF (plainFor_of_name pn0) hisR ?_
  intro p e s m args below meth c s₁ Bd hml0 hP hK
  obtain ⟨rfl, hZ, hh⟩ := hP
  have hx := Bd.exec
  have hby := Bd.bytes
  have hml : c.maxLocals = 1 := hml0
  have hown : s.vm.findClass "com/example/mibwright/mibwright/mib/BaseTypeIsIntegerPinLaw" = some m.cls := findClass_of_methodNamed Bd.named
  have hnm := (name_of_methodNamed Bd.named Bd.method).1
  have X0 : Stand p l e ({ frames := 0, cells := 0, slots := 0, locals := 0 } : Room) s m #[xi (9 : Int32)] below meth c s₁ [] 0 0 := Stand.of_body Bd
  have e0 : s₁.heap = h0 := by rw [← hh, Bd.state]; rfl
  have N0 := Fr.nil n0
  have pre0 : ∀ t, Steps p.tables e below (s₁.setTop (mkF m 0 #[vi (9 : Int32)] [])) t → Steps p.tables e below (s₁.setTop (entryFrame m #[xi (9 : Int32)] 1)) t := fun t k => castTop (ef_own_c36_pick m u0 u1 u2 u3 u4 u5 u6 u7 u8 u9 u10 u11) k
  obtain ⟨T1, X1, e1, st1⟩ := getS2 X0 hx hZ hown (host := "") (Or.inl (ww hw 41 rfl)) Via.refl e0 ((own_S_u9 G).ext O0.2) (g := (mkF m 89 #[vi (9 : Int32)] [])) rfl (hb hby d1_89)
  obtain ⟨fs, hr, hrun, hended, hW, hsame⟩ := X1.leave (v := some (xr u9)) (fun h => by rw [Bd.returns] at h; cases h)
  refine ⟨_, _, pre0 _ ?_, hrun, hended, _, _, rfl, ?_, ⟨_, rfl⟩, hW, hsame.mono (by decide) (by decide)⟩
  · show own_S p e below s₁ (mkF m 0 #[vi (9 : Int32)] []) _
    refine XS.iloadN X0.here hx rfl (hb hby d1_0) rfl ?_
    show own_S p e below s₁ (mkF m 1 #[vi (9 : Int32)] [xi (9 : Int32)]) _
    refine XS.ifYes X0.here hx rfl (pc0 := 1) (pc' := 8) rfl (hb hby d1_1) rfl (by decide) (by decide) (by decide) ?_
    show own_S p e below s₁ (mkF m 8 #[vi (9 : Int32)] []) _
    refine XS.iloadN X0.here hx rfl (hb hby d1_8) rfl ?_
    show own_S p e below s₁ (mkF m 9 #[vi (9 : Int32)] [xi (9 : Int32)]) _
    refine XS.iconst X0.here hx rfl (hb hby d1_9) ?_
    show own_S p e below s₁ (mkF m 10 #[vi (9 : Int32)] [xi (1 : Int32), xi (9 : Int32)]) _
    refine XS.icmpYes X0.here hx rfl (pc0 := 10) (pc' := 17) rfl (hb hby d1_10) rfl (by decide) (by decide) (by decide) ?_
    show own_S p e below s₁ (mkF m 17 #[vi (9 : Int32)] []) _
    refine XS.iloadN X0.here hx rfl (hb hby d1_17) rfl ?_
    show own_S p e below s₁ (mkF m 18 #[vi (9 : Int32)] [xi (9 : Int32)]) _
    refine XS.iconst X0.here hx rfl (hb hby d1_18) ?_
    show own_S p e below s₁ (mkF m 19 #[vi (9 : Int32)] [xi (2 : Int32), xi (9 : Int32)]) _
    refine XS.icmpYes X0.here hx rfl (pc0 := 19) (pc' := 26) rfl (hb hby d1_19) rfl (by decide) (by decide) (by decide) ?_
    show own_S p e below s₁ (mkF m 26 #[vi (9 : Int32)] []) _
    refine XS.iloadN X0.here hx rfl (hb hby d1_26) rfl ?_
    show own_S p e below s₁ (mkF m 27 #[vi (9 : Int32)] [xi (9 : Int32)]) _
    refine XS.iconst X0.here hx rfl (hb hby d1_27) ?_
    show own_S p e below s₁ (mkF m 28 #[vi (9 : Int32)] [xi (3 : Int32), xi (9 : Int32)]) _
    refine XS.icmpYes X0.here hx rfl (pc0 := 28) (pc' := 35) rfl (hb hby d1_28) rfl (by decide) (by decide) (by decide) ?_
    show own_S p e below s₁ (mkF m 35 #[vi (9 : Int32)] []) _
    refine XS.iloadN X0.here hx rfl (hb hby d1_35) rfl ?_
    show own_S p e below s₁ (mkF m 36 #[vi (9 : Int32)] [xi (9 : Int32)]) _
    refine XS.iconst X0.here hx rfl (hb hby d1_36) ?_
    show own_S p e below s₁ (mkF m 37 #[vi (9 : Int32)] [xi (4 : Int32), xi (9 : Int32)]) _
    refine XS.icmpYes X0.here hx rfl (pc0 := 37) (pc' := 44) rfl (hb hby d1_37) rfl (by decide) (by decide) (by decide) ?_
    show own_S p e below s₁ (mkF m 44 #[vi (9 : Int32)] []) _
    refine XS.iloadN X0.here hx rfl (hb hby d1_44) rfl ?_
    show own_S p e below s₁ (mkF m 45 #[vi (9 : Int32)] [xi (9 : Int32)]) _
    refine XS.iconst X0.here hx rfl (hb hby d1_45) ?_
    show own_S p e below s₁ (mkF m 46 #[vi (9 : Int32)] [xi (5 : Int32), xi (9 : Int32)]) _
    refine XS.icmpYes X0.here hx rfl (pc0 := 46) (pc' := 53) rfl (hb hby d1_46) rfl (by decide) (by decide) (by decide) ?_
    show own_S p e below s₁ (mkF m 53 #[vi (9 : Int32)] []) _
    refine XS.iloadN X0.here hx rfl (hb hby d1_53) rfl ?_
    show own_S p e below s₁ (mkF m 54 #[vi (9 : Int32)] [xi (9 : Int32)]) _
    refine XS.bipush X0.here hx rfl (hb hby d1_54) ?_
    show own_S p e below s₁ (mkF m 56 #[vi (9 : Int32)] [xi (6 : Int32), xi (9 : Int32)]) _
    refine XS.icmpYes X0.here hx rfl (pc0 := 56) (pc' := 63) rfl (hb hby d1_56) rfl (by decide) (by decide) (by decide) ?_
    show own_S p e below s₁ (mkF m 63 #[vi (9 : Int32)] []) _
    refine XS.iloadN X0.here hx rfl (hb hby d1_63) rfl ?_
    show own_S p e below s₁ (mkF m 64 #[vi (9 : Int32)] [xi (9 : Int32)]) _
    refine XS.bipush X0.here hx rfl (hb hby d1_64) ?_
    show own_S p e below s₁ (mkF m 66 #[vi (9 : Int32)] [xi (7 : Int32), xi (9 : Int32)]) _
    refine XS.icmpYes X0.here hx rfl (pc0 := 66) (pc' := 73) rfl (hb hby d1_66) rfl (by decide) (by decide) (by decide) ?_
    show own_S p e below s₁ (mkF m 73 #[vi (9 : Int32)] []) _
    refine XS.iloadN X0.here hx rfl (hb hby d1_73) rfl ?_
    show own_S p e below s₁ (mkF m 74 #[vi (9 : Int32)] [xi (9 : Int32)]) _
    refine XS.bipush X0.here hx rfl (hb hby d1_74) ?_
    show own_S p e below s₁ (mkF m 76 #[vi (9 : Int32)] [xi (8 : Int32), xi (9 : Int32)]) _
    refine XS.icmpYes X0.here hx rfl (pc0 := 76) (pc' := 83) rfl (hb hby d1_76) rfl (by decide) (by decide) (by decide) ?_
    show own_S p e below s₁ (mkF m 83 #[vi (9 : Int32)] []) _
    refine XS.iloadN X0.here hx rfl (hb hby d1_83) rfl ?_
    show own_S p e below s₁ (mkF m 84 #[vi (9 : Int32)] [xi (9 : Int32)]) _
    refine XS.bipush X0.here hx rfl (hb hby d1_84) ?_
    show own_S p e below s₁ (mkF m 86 #[vi (9 : Int32)] [xi (9 : Int32), xi (9 : Int32)]) _
    refine XS.icmpNo X0.here hx rfl (hb hby d1_86) rfl (by decide) ?_
    show own_S p e below s₁ (mkF m 89 #[vi (9 : Int32)] []) _
    refine st1 _ ?_
    show own_S p e below T1 (mkF m 92 #[vi (9 : Int32)] [xr u9]) _
    exact X1.areturnOut hx rfl Bd.returns rfl (hb hby d1_92) hr
  · exact ⟨rfl, N0, e1⟩
theorem ef_own_c37_ordinal (m : MethodId) (u0 u1 u2 u3 u4 u5 u6 u7 u8 u9 u10 u11 : Addr) : entryFrame m #[xr u9] 1 = (mkF m 0 #[vr u9] []) := by first | (simp [entryFrame, mkF, argsToLocals, Value.category]; done) | rfl
set_option maxRecDepth 65536 in
set_option maxHeartbeats 40000000 in
theorem own_c37_ordinal (l : Launch) (Z : State) (a0 : Array Value) (hw : ∀ d ∈ tables_1, d.before a0 Z = true) (u0 u1 u2 u3 u4 u5 u6 u7 u8 u9 u10 u11 : Addr) (G : own_St Z u0 u1 u2 u3 u4 u5 u6 u7 u8 u9 u10 u11) (h0 : Heap) (n0 : Nat) (O0 : Old Z n0 h0) : own_Met l Z Y1 jdk_37_method_2_code 1 (some .int) ({ frames := 0, cells := 0, slots := 0, locals := 0 } : Room) #[xr u9] h0 (own_QR (some (xi (9 : Int32))) h0 n0) := by
  intro ws
  refine MetFree.of_bodySF (plainFor_of_name pn1) hisR ?_
  intro p e s m args below meth c s₁ Bd hml0 hP hK
  obtain ⟨rfl, hZ, hh⟩ := hP
  have hx := Bd.exec
  have hby := Bd.bytes
  have hml : c.maxLocals = 1 := hml0
  have hown : s.vm.findClass "java/lang/Enum" = some m.cls := findClass_of_methodNamed Bd.named
  have hnm := (name_of_methodNamed Bd.named Bd.method).1
  have X0 : Stand p l e ({ frames := 0, cells := 0, slots := 0, locals := 0 } : Room) s m #[xr u9] below meth c s₁ [] 0 0 := Stand.of_body Bd
  have e0 : s₁.heap = h0 := by rw [← hh, Bd.state]; rfl
  have N0 := Fr.nil n0
  have pre0 : ∀ t, Steps p.tables e below (s₁.setTop (mkF m 0 #[vr u9] [])) t → Steps p.tables e below (s₁.setTop (entryFrame m #[xr u9] 1)) t := fun t k => castTop (ef_own_c37_ordinal m u0 u1 u2 u3 u4 u5 u6 u7 u8 u9 u10 u11) k
  obtain ⟨T1, X1, e1, st1⟩ := getF X0 hx hZ hown (host := "") (Or.inl (ww hw 20 rfl)) Via.refl e0 ((own_F_u9_ordinal G).ext O0.2) (g := (mkF m 1 #[vr u9] [xr u9])) rfl rfl (hb hby d3_1)
  obtain ⟨fs, hr, hrun, hended, hW, hsame⟩ := X1.leave (v := some (xi (9 : Int32))) (fun h => by rw [Bd.returns] at h; cases h)
  refine ⟨_, _, pre0 _ ?_, hrun, hended, _, _, rfl, ?_, ⟨_, rfl⟩, hW, hsame.mono (by decide) (by decide)⟩
  · show own_S p e below s₁ (mkF m 0 #[vr u9] []) _
    refine XS.aloadN X0.here hx rfl (hb hby d3_0) rfl rfl ?_
    show own_S p e below s₁ (mkF m 1 #[vr u9] [xr u9]) _
    refine st1 _ ?_
    show own_S p e below T1 (mkF m 4 #[vr u9] [xi (9 : Int32)]) _
    exact retI X1 hx Bd.returns (hb hby d3_4) hr
  · exact ⟨rfl, N0, e1⟩
theorem ef_own_c37_isInteger (m : MethodId) (u0 u1 u2 u3 u4 u5 u6 u7 u8 u9 u10 u11 : Addr) : entryFrame m #[xr u9] 1 = (mkF m 0 #[vr u9] []) := by first | (simp [entryFrame, mkF, argsToLocals, Value.category]; done) | rfl
set_option maxRecDepth 65536 in
set_option maxHeartbeats 40000000 in
theorem own_c37_isInteger (l : Launch) (Z : State) (a0 : Array Value) (hw : ∀ d ∈ tables_1, d.before a0 Z = true) (u0 u1 u2 u3 u4 u5 u6 u7 u8 u9 u10 u11 : Addr) (G : own_St Z u0 u1 u2 u3 u4 u5 u6 u7 u8 u9 u10 u11) (h0 : Heap) (n0 : Nat) (O0 : Old Z n0 h0) : own_Met l Z Y3 prog_26_method_5_code 1 (some .boolean) ({ frames := 1, cells := 0, slots := 0, locals := 12 } : Room) #[xr u9] h0 (own_QR (some (xi (0 : Int32))) h0 n0) := by
  intro ws
  refine MetFree.of_bodySF (plainFor_of_name pn2) hisR ?_
  intro p e s m args below meth c s₁ Bd hml0 hP hK
  obtain ⟨rfl, hZ, hh⟩ := hP
  have hx := Bd.exec
  have hby := Bd.bytes
  have hml : c.maxLocals = 1 := hml0
  have hown : s.vm.findClass "com/example/mibwright/mibwright/mib/BaseType" = some m.cls := findClass_of_methodNamed Bd.named
  have hnm := (name_of_methodNamed Bd.named Bd.method).1
  have X0 : Stand p l e ({ frames := 1, cells := 0, slots := 0, locals := 12 } : Room) s m #[xr u9] below meth c s₁ [] 0 0 := Stand.of_body Bd
  have e0 : s₁.heap = h0 := by rw [← hh, Bd.state]; rfl
  have N0 := Fr.nil n0
  have pre0 : ∀ t, Steps p.tables e below (s₁.setTop (mkF m 0 #[vr u9] [])) t → Steps p.tables e below (s₁.setTop (entryFrame m #[xr u9] 1)) t := fun t k => castTop (ef_own_c37_isInteger m u0 u1 u2 u3 u4 u5 u6 u7 u8 u9 u10 u11) k
  obtain ⟨cq1, kq1, qa1, qb1, qc1⟩ := isOf hZ e0 ((own_X_u9 G).ext O0.2)
  obtain ⟨_, _, ⟨T1, L1, k1, n1⟩, -, X1, ⟨Lc1, hQ1, l1, y1, z1⟩, st1⟩ := X0.virtualBackUp hx (x := Y2) (y := Y1) hown (mvT hZ (ww hw 13 rfl)) (mvT hZ (ww hw 14 rfl)) (mvT hZ (ww hw 15 rfl)) (by decide) (mvT hZ (ww hw 17 rfl)) (mvT hZ (ww hw 16 rfl)) (backOf (W := 0) (own_c37_ordinal l Z a0 hw u0 u1 u2 u3 u4 u5 u6 u7 u8 u9 u10 u11 G h0 n0 O0 []) hZ (ww hw 19 rfl) (ww hw 18 rfl) (by decide) (by decide)) qa1 qc1 (g := (mkF m 1 #[vr u9] [xr u9])) rfl (by rw [hml]; rfl) (Steps.refl _) (argsL := []) (rest := []) (lenOf pd1 rfl) rfl (by show 2 * 0 + _ ≤ _; exact Nat.le_of_eq rfl) (hb hby d2_1) (fun _ _ => ⟨rfl, e0, (by decide : 0 + 0 ≤ _), (by decide : 0 + 0 ≤ _)⟩)
  dsimp only [Pt.U, Pt.locs, Pt.cells, Pt.slots] at X1 l1 y1 z1 st1 hQ1
  subst l1 y1 z1
  obtain ⟨rfl, Nq1, e1⟩ := hQ1
  have N1 := Fr.app N0 Nq1
  obtain ⟨fs, hr, hrun, hended, hW, hsame⟩ := X1.leave (v := some (xi (0 : Int32))) (fun h => by rw [Bd.returns] at h; cases h)
  refine ⟨_, _, pre0 _ ?_, hrun, hended, _, _, rfl, ?_, ⟨_, rfl⟩, hW, hsame.mono (by decide) (by decide)⟩
  · show own_S p e below s₁ (mkF m 0 #[vr u9] []) _
    refine XS.aloadN X0.here hx rfl (hb hby d2_0) rfl rfl ?_
    show own_S p e below s₁ (mkF m 1 #[vr u9] [xr u9]) _
    refine st1.trans ?_
    show own_S p e below T1 (mkF m 4 #[vr u9] [xi (9 : Int32)]) _
    refine XS.tswIn X1.here hx rfl (pc0 := 4) (pc' := 82) (o := 78) rfl (hb hby d2_4) rfl (by decide) (by decide) (by decide) (by decide) ?_
    show own_S p e below T1 (mkF m 82 #[vr u9] []) _
    refine XS.iconst X1.here hx rfl (hb hby d2_82) ?_
    show own_S p e below T1 (mkF m 83 #[vr u9] [xi (0 : Int32)]) _
    exact retN X1 hx (t := .boolean) Bd.returns (by simp) (hb hby d2_83) hr
  · exact ⟨rfl, N1, e1⟩
theorem ef_own_c39_holdsIntegers (m : MethodId) (u0 u1 u2 u3 u4 u5 u6 u7 u8 u9 u10 u11 : Addr) : entryFrame m #[xi (9 : Int32)] 1 = (mkF m 0 #[vi (9 : Int32)] []) := by first | (simp [entryFrame, mkF, argsToLocals, Value.category]; done) | rfl
set_option maxRecDepth 65536 in
set_option maxHeartbeats 40000000 in
theorem own_c39_holdsIntegers (l : Launch) (Z : State) (a0 : Array Value) (hw : ∀ d ∈ tables_1, d.before a0 Z = true) (u0 u1 u2 u3 u4 u5 u6 u7 u8 u9 u10 u11 : Addr) (G : own_St Z u0 u1 u2 u3 u4 u5 u6 u7 u8 u9 u10 u11) (h0 : Heap) (n0 : Nat) (O0 : Old Z n0 h0) : own_Met l Z Y4 method_3_code 1 (some .boolean) ({ frames := 0, cells := 0, slots := 0, locals := 0 } : Room) #[xi (9 : Int32)] h0 (own_QR (some (xi (0 : Int32))) h0 n0) := by
  intro ws
  refine MetFree.of_bodySF (plainFor_of_name pn0) hisR ?_
  intro p e s m args below meth c s₁ Bd hml0 hP hK
  obtain ⟨rfl, hZ, hh⟩ := hP
  have hx := Bd.exec
  have hby := Bd.bytes
  have hml : c.maxLocals = 1 := hml0
  have hown : s.vm.findClass "com/example/mibwright/mibwright/mib/BaseTypeIsIntegerPinLaw" = some m.cls := findClass_of_methodNamed Bd.named
  have hnm := (name_of_methodNamed Bd.named Bd.method).1
  have X0 : Stand p l e ({ frames := 0, cells := 0, slots := 0, locals := 0 } : Room) s m #[xi (9 : Int32)] below meth c s₁ [] 0 0 := Stand.of_body Bd
  have e0 : s₁.heap = h0 := by rw [← hh, Bd.state]; rfl
  have N0 := Fr.nil n0
  have pre0 : ∀ t, Steps p.tables e below (s₁.setTop (mkF m 0 #[vi (9 : Int32)] [])) t → Steps p.tables e below (s₁.setTop (entryFrame m #[xi (9 : Int32)] 1)) t := fun t k => castTop (ef_own_c39_holdsIntegers m u0 u1 u2 u3 u4 u5 u6 u7 u8 u9 u10 u11) k
  obtain ⟨fs, hr, hrun, hended, hW, hsame⟩ := X0.leave (v := some (xi (0 : Int32))) (fun h => by rw [Bd.returns] at h; cases h)
  refine ⟨_, _, pre0 _ ?_, hrun, hended, _, _, rfl, ?_, ⟨_, rfl⟩, hW, hsame.mono (by decide) (by decide)⟩
  · show own_S p e below s₁ (mkF m 0 #[vi (9 : Int32)] []) _
    refine XS.iloadN X0.here hx rfl (hb hby d4_0) rfl ?_
    show own_S p e below s₁ (mkF m 1 #[vi (9 : Int32)] [xi (9 : Int32)]) _
    refine XS.iconst X0.here hx rfl (hb hby d4_1) ?_
    show own_S p e below s₁ (mkF m 2 #[vi (9 : Int32)] [xi (2 : Int32), xi (9 : Int32)]) _
    refine XS.icmpNo X0.here hx rfl (hb hby d4_2) rfl (by decide) ?_
    show own_S p e below s₁ (mkF m 5 #[vi (9 : Int32)] []) _
    refine XS.iloadN X0.here hx rfl (hb hby d4_5) rfl ?_
    show own_S p e below s₁ (mkF m 6 #[vi (9 : Int32)] [xi (9 : Int32)]) _
    refine XS.iconst X0.here hx rfl (hb hby d4_6) ?_
    show own_S p e below s₁ (mkF m 7 #[vi (9 : Int32)] [xi (3 : Int32), xi (9 : Int32)]) _
    refine XS.icmpNo X0.here hx rfl (hb hby d4_7) rfl (by decide) ?_
    show own_S p e below s₁ (mkF m 10 #[vi (9 : Int32)] []) _
    refine XS.iloadN X0.here hx rfl (hb hby d4_10) rfl ?_
    show own_S p e below s₁ (mkF m 11 #[vi (9 : Int32)] [xi (9 : Int32)]) _
    refine XS.iconst X0.here hx rfl (hb hby d4_11) ?_
    show own_S p e below s₁ (mkF m 12 #[vi (9 : Int32)] [xi (4 : Int32), xi (9 : Int32)]) _
    refine XS.icmpNo X0.here hx rfl (hb hby d4_12) rfl (by decide) ?_
    show own_S p e below s₁ (mkF m 15 #[vi (9 : Int32)] []) _
    refine XS.iloadN X0.here hx rfl (hb hby d4_15) rfl ?_
    show own_S p e below s₁ (mkF m 16 #[vi (9 : Int32)] [xi (9 : Int32)]) _
    refine XS.iconst X0.here hx rfl (hb hby d4_16) ?_
    show own_S p e below s₁ (mkF m 17 #[vi (9 : Int32)] [xi (5 : Int32), xi (9 : Int32)]) _
    refine XS.icmpNo X0.here hx rfl (hb hby d4_17) rfl (by decide) ?_
    show own_S p e below s₁ (mkF m 20 #[vi (9 : Int32)] []) _
    refine XS.iloadN X0.here hx rfl (hb hby d4_20) rfl ?_
    show own_S p e below s₁ (mkF m 21 #[vi (9 : Int32)] [xi (9 : Int32)]) _
    refine XS.bipush X0.here hx rfl (hb hby d4_21) ?_
    show own_S p e below s₁ (mkF m 23 #[vi (9 : Int32)] [xi (9 : Int32), xi (9 : Int32)]) _
    refine XS.icmpNo X0.here hx rfl (hb hby d4_23) rfl (by decide) ?_
    show own_S p e below s₁ (mkF m 26 #[vi (9 : Int32)] []) _
    refine XS.iconst X0.here hx rfl (hb hby d4_26) ?_
    show own_S p e below s₁ (mkF m 27 #[vi (9 : Int32)] [xi (0 : Int32)]) _
    exact retN X0 hx (t := .boolean) Bd.returns (by simp) (hb hby d4_27) hr
  · exact ⟨rfl, N0, e0⟩
theorem ef_own_l9 (m : MethodId) (u0 u1 u2 u3 u4 u5 u6 u7 u8 u9 u10 u11 : Addr) (p1 : Int32) : entryFrame m #[xi p1] maxLocals = (mkF m 0 #[vi p1, vu, vu] []) := by first | (simp [entryFrame, mkF, argsToLocals, Value.category, maxLocals]; done) | rfl
set_option maxRecDepth 65536 in
set_option maxHeartbeats 40000000 in
theorem own_l9 (l : Launch) (Z : State) (a0 : Array Value) (hw : ∀ d ∈ tables_1, d.before a0 Z = true) (u0 u1 u2 u3 u4 u5 u6 u7 u8 u9 u10 u11 : Addr) (G : own_St Z u0 u1 u2 u3 u4 u5 u6 u7 u8 u9 u10 u11) (p1 : Int32) (as9 : ((p1 &&& (2147483647 : Int32)) - ((p1 &&& (2147483647 : Int32)) / (12 : Int32)) * (12 : Int32)) = (9 : Int32)) (h0 : Heap) (n0 : Nat) (O0 : Old Z n0 h0) : own_Met l Z x code maxLocals ret room_1 #[xi p1] h0 (own_QL (some (xi (1 : Int32))) n0) := by
  intro ws
  refine MetFree.of_bodySF (plainFor_of_name pn0) hisR ?_
  intro p e s m args below meth c s₁ Bd hml0 hP hK
  obtain ⟨rfl, hZ, hh⟩ := hP
  have hx := Bd.exec
  have hby := Bd.bytes
  have hml : c.maxLocals = 3 := hml0
  have hown : s.vm.findClass "com/example/mibwright/mibwright/mib/BaseTypeIsIntegerPinLaw" = some m.cls := findClass_of_methodNamed Bd.named
  have hnm := (name_of_methodNamed Bd.named Bd.method).1
  have X0 : Stand p l e room_1 s m #[xi p1] below meth c s₁ [] 0 0 := Stand.of_body Bd
  have e0 : s₁.heap = h0 := by rw [← hh, Bd.state]; rfl
  have N0 := Fr.nil n0
  have pre0 : ∀ t, Steps p.tables e below (s₁.setTop (mkF m 0 #[vi p1, vu, vu] [])) t → Steps p.tables e below (s₁.setTop (entryFrame m #[xi p1] maxLocals)) t := fun t k => castTop (ef_own_l9 m u0 u1 u2 u3 u4 u5 u6 u7 u8 u9 u10 u11 p1) k
  obtain ⟨_, _, ⟨T1, L1, k1, n1⟩, -, X1, ⟨Lc1, hQ1, l1, y1, z1⟩, st1⟩ := Jvm.LawKit.callS X0 hx (y := Y0) hown (mvT hZ (ww hw 1 rfl)) (mvT hZ (ww hw 2 rfl)) (mvT hZ (ww hw 3 rfl)) (mvT hZ (ww hw 4 rfl)) (by decide) (backOf (W := 0) (own_c36_pick l Z a0 hw u0 u1 u2 u3 u4 u5 u6 u7 u8 u9 u10 u11 G h0 n0 O0 []) hZ (ww hw 4 rfl) (ww hw 3 rfl) (by decide) (by decide)) (g := (mkF m 9 #[vi p1, vi (9 : Int32), vu] [xi (9 : Int32)])) rfl (by rw [hml]; rfl) (argsL := [xi (9 : Int32)]) (rest := []) (lenOf pd0 rfl) rfl (by show 2 * 0 + _ ≤ _; exact Nat.le_of_eq rfl) (hb hby at_9) (fun _ _ => ⟨rfl, e0, (by decide : 0 + 0 ≤ _), (by decide : 0 + 0 ≤ _)⟩)
  dsimp only [Pt.U, Pt.locs, Pt.cells, Pt.slots] at X1 l1 y1 z1 st1 hQ1
  subst l1 y1 z1
  obtain ⟨rfl, Nq1, e1⟩ := hQ1
  have N1 := Fr.app N0 Nq1
  obtain ⟨cq2, kq2, qa2, qb2, qc2⟩ := isOf hZ e1 ((own_X_u9 G).ext O0.2)
  obtain ⟨_, _, ⟨T2, L2, k2, n2⟩, -, X2, ⟨Lc2, hQ2, l2, y2, z2⟩, st2⟩ := X1.virtualBack hx (y := Y3) (z := Y3) hown (mvT hZ (ww hw 8 rfl)) (mvT hZ (ww hw 9 rfl)) (notFace_of_selects (args := #[]) (mvT hZ (ww hw 11 rfl))) (mvT hZ (ww hw 11 rfl)) (mvT hZ (ww hw 10 rfl)) (by decide) (backOf (W := 0) (own_c37_isInteger l Z a0 hw u0 u1 u2 u3 u4 u5 u6 u7 u8 u9 u10 u11 G h0 n0 O0 []) hZ (ww hw 12 rfl) (ww hw 6 rfl) (by decide) (by decide)) qa2 qc2 (g := (mkF m 14 #[vi p1, vi (9 : Int32), vr u9] [xr u9])) rfl (by rw [hml]; rfl) (Steps.refl _) (argsL := []) (rest := []) (lenOf pd2 rfl) rfl (by show 2 * 0 + _ ≤ _; exact Nat.le_of_eq rfl) (hb hby at_14) (fun _ _ => ⟨rfl, e1, (by decide : 0 + 0 ≤ _), (by decide : 0 + 0 ≤ _)⟩)
  dsimp only [Pt.U, Pt.locs, Pt.cells, Pt.slots] at X2 l2 y2 z2 st2 hQ2
  subst l2 y2 z2
  obtain ⟨rfl, Nq2, e2⟩ := hQ2
  have N2 := Fr.app N1 Nq2
  obtain ⟨_, _, ⟨T3, L3, k3, n3⟩, -, X3, ⟨Lc3, hQ3, l3, y3, z3⟩, st3⟩ := Jvm.LawKit.callS X2 hx (y := Y4) hown (mvT hZ (ww hw 22 rfl)) (mvT hZ (ww hw 23 rfl)) (mvT hZ (ww hw 3 rfl)) (mvT hZ (ww hw 24 rfl)) (by decide) (backOf (W := 1) (own_c39_holdsIntegers l Z a0 hw u0 u1 u2 u3 u4 u5 u6 u7 u8 u9 u10 u11 G h0 n0 O0 []) hZ (ww hw 24 rfl) (ww hw 3 rfl) (by decide) (by decide)) (g := (mkF m 18 #[vi p1, vi (9 : Int32), vr u9] [xi (9 : Int32), xi (0 : Int32)])) rfl (by rw [hml]; rfl) (argsL := [xi (9 : Int32)]) (rest := [xi (0 : Int32)]) (lenOf pd3 rfl) rfl (by show 2 * 0 + _ ≤ _; exact Nat.le_of_eq rfl) (hb hby at_18) (fun _ _ => ⟨rfl, e2, (by decide : 0 + 0 ≤ _), (by decide : 0 + 0 ≤ _)⟩)
  dsimp only [Pt.U, Pt.locs, Pt.cells, Pt.slots] at X3 l3 y3 z3 st3 hQ3
  subst l3 y3 z3
  obtain ⟨rfl, Nq3, e3⟩ := hQ3
  have N3 := Fr.app N2 Nq3
  obtain ⟨fs, hr, hrun, hended, hW, hsame⟩ := X3.leave (v := some (xi (1 : Int32))) (fun h => by rw [Bd.returns] at h; cases h)
  refine ⟨_, _, pre0 _ ?_, hrun, hended, _, _, rfl, ?_, ⟨_, rfl⟩, hW, hsame.mono (by decide) (by decide)⟩
  · show own_S p e below s₁ (mkF m 0 #[vi p1, vu, vu] []) _
    refine XS.iloadN X0.here hx rfl (hb hby at_0) rfl ?_
    show own_S p e below s₁ (mkF m 1 #[vi p1, vu, vu] [xi p1]) _
    refine X0.ldcI hx hown (mvT hZ (ww hw 0 rfl)) (g := (mkF m 1 #[vi p1, vu, vu] [xi p1])) rfl (hb hby at_1) ?_
    show own_S p e below s₁ (mkF m 3 #[vi p1, vu, vu] [xi (2147483647 : Int32), xi p1]) _
    refine XS.iand X0.here hx rfl (hb hby at_3) rfl ?_
    show own_S p e below s₁ (mkF m 4 #[vi p1, vu, vu] [xi (p1 &&& (2147483647 : Int32))]) _
    show own_S p e below s₁ (mkF m 4 #[vi p1, vu, vu] [xi (p1 &&& (2147483647 : Int32))]) _
    refine XS.bipush X0.here hx rfl (hb hby at_4) ?_
    show own_S p e below s₁ (mkF m 6 #[vi p1, vu, vu] [xi (12 : Int32), xi (p1 &&& (2147483647 : Int32))]) _
    refine XS.irem X0.here hx rfl (hb hby at_6) rfl (by decide) ?_
    show own_S p e below s₁ (mkF m 7 #[vi p1, vu, vu] [xi ((p1 &&& (2147483647 : Int32)) - ((p1 &&& (2147483647 : Int32)) / (12 : Int32)) * (12 : Int32))]) _
    refine castTop (show (mkF m 7 #[vi p1, vu, vu] [xi ((p1 &&& (2147483647 : Int32)) - ((p1 &&& (2147483647 : Int32)) / (12 : Int32)) * (12 : Int32))]) = (mkF m 7 #[vi p1, vu, vu] [xi (9 : Int32)]) from by rw [as9]) ?_
    show own_S p e below s₁ (mkF m 7 #[vi p1, vu, vu] [xi (9 : Int32)]) _
    refine XS.istoreN X0.here hx rfl (hb hby at_7) rfl (l' := #[vi p1, vi (9 : Int32), vu]) rfl ?_
    show own_S p e below s₁ (mkF m 8 #[vi p1, vi (9 : Int32), vu] []) _
    refine XS.iloadN X0.here hx rfl (hb hby at_8) rfl ?_
    show own_S p e below s₁ (mkF m 9 #[vi p1, vi (9 : Int32), vu] [xi (9 : Int32)]) _
    refine st1 _ ?_
    show own_S p e below T1 (mkF m 12 #[vi p1, vi (9 : Int32), vu] [xr u9]) _
    refine XS.astoreN X1.here hx rfl (hb hby at_12) rfl rfl (l' := #[vi p1, vi (9 : Int32), vr u9]) rfl ?_
    show own_S p e below T1 (mkF m 13 #[vi p1, vi (9 : Int32), vr u9] []) _
    refine XS.aloadN X1.here hx rfl (hb hby at_13) rfl rfl ?_
    show own_S p e below T1 (mkF m 14 #[vi p1, vi (9 : Int32), vr u9] [xr u9]) _
    refine st2.trans ?_
    show own_S p e below T2 (mkF m 17 #[vi p1, vi (9 : Int32), vr u9] [xi (0 : Int32)]) _
    refine XS.iloadN X2.here hx rfl (hb hby at_17) rfl ?_
    show own_S p e below T2 (mkF m 18 #[vi p1, vi (9 : Int32), vr u9] [xi (9 : Int32), xi (0 : Int32)]) _
    refine st3 _ ?_
    show own_S p e below T3 (mkF m 21 #[vi p1, vi (9 : Int32), vr u9] [xi (0 : Int32), xi (0 : Int32)]) _
    refine XS.icmpNo X3.here hx rfl (hb hby at_21) rfl (by decide) ?_
    show own_S p e below T3 (mkF m 24 #[vi p1, vi (9 : Int32), vr u9] []) _
    refine XS.iconst X3.here hx rfl (hb hby at_24) ?_
    show own_S p e below T3 (mkF m 25 #[vi p1, vi (9 : Int32), vr u9] [xi (1 : Int32)]) _
    refine XS.goto X3.here hx rfl (pc0 := 25) (pc' := 29) rfl (hb hby at_25) (by decide) (by decide) ?_
    show own_S p e below T3 (mkF m 29 #[vi p1, vi (9 : Int32), vr u9] [xi (1 : Int32)]) _
    exact retN X3 hx (t := .boolean) Bd.returns (by simp) (hb hby at_29) hr
  · exact ⟨rfl, N3⟩
theorem d1_93 : decode method_2_code 93 = .ok (.iload_n 0, 1) := by decide +kernel
theorem d1_94 : decode method_2_code 94 = .ok (.bipush 10, 2) := by decide +kernel
theorem d1_96 : decode method_2_code 96 = .ok (.if_icmp .ne 7, 3) := by decide +kernel
theorem d1_99 : decode method_2_code 99 = .ok (.getstatic 40, 3) := by decide +kernel
theorem d1_102 : decode method_2_code 102 = .ok (.areturn, 1) := by decide +kernel
theorem ef_own_c40_pick (m : MethodId) (u0 u1 u2 u3 u4 u5 u6 u7 u8 u9 u10 u11 : Addr) : entryFrame m #[xi (10 : Int32)] 1 = (mkF m 0 #[vi (10 : Int32)] []) := by first | (simp [entryFrame, mkF, argsToLocals, Value.category]; done) | rfl
set_option maxRecDepth 65536 in
set_option maxHeartbeats 40000000 in
theorem own_c40_pick (l : Launch) (Z : State) (a0 : Array Value) (hw : ∀ d ∈ tables_1, d.before a0 Z = true) (u0 u1 u2 u3 u4 u5 u6 u7 u8 u9 u10 u11 : Addr) (G : own_St Z u0 u1 u2 u3 u4 u5 u6 u7 u8 u9 u10 u11) (h0 : Heap) (n0 : Nat) (O0 : Old Z n0 h0) : own_Met l Z Y0 method_2_code 1 (some (.object "com/example/mibwright/mibwright/mib/BaseType")) ({ frames := 0, cells := 0, slots := 0, locals := 0 } : Room) #[xi (10 : Int32)] h0 (own_QR (some (xr u8)) h0 n0) := by
  intro ws
  refine MetFree.of_bodySF (plainFor_of_name pn0) hisR ?_
  intro p e s m args below meth c s₁ Bd hml0 hP hK
  obtain ⟨rfl, hZ, hh⟩ := hP
  have hx := Bd.exec
  have hby := Bd.bytes
  have hml : c.maxLocals = 1 := hml0
  have hown : s.vm.findClass "com/example/mibwright/mibwright/mib/BaseTypeIsIntegerPinLaw" = some m.cls := findClass_of_methodNamed Bd.named
  have hnm := (name_of_methodNamed Bd.named Bd.method).1
  have X0 : Stand p l e ({ frames := 0, cells := 0, slots := 0, locals := 0 } : Room) s m #[xi (10 : Int32)] below meth c s₁ [] 0 0 := Stand.of_body Bd
  have e0 : s₁.heap = h0 := by rw [← hh, Bd.state]; rfl
  have N0 := Fr.nil n0
  have pre0 : ∀ t, Steps p.tables e below (s₁.setTop (mkF m 0 #[vi (10 : Int32)] [])) t → Steps p.tables e below (s₁.setTop (entryFrame m #[xi (10 : Int32)] 1)) t := fun t k => castTop (ef_own_c40_pick m u0 u1 u2 u3 u4 u5 u6 u7 u8 u9 u10 u11) k
  obtain ⟨T1, X1, e1, st1⟩ := getS2 X0 hx hZ hown (host := "") (Or.inl (ww hw 39 rfl)) Via.refl e0 ((own_S_u8 G).ext O0.2) (g := (mkF m 99 #[vi (10 : Int32)] [])) rfl (hb hby d1_99)
  obtain ⟨fs, hr, hrun, hended, hW, hsame⟩ := X1.leave (v := some (xr u8)) (fun h => by rw [Bd.returns] at h; cases h)
  refine ⟨_, _, pre0 _ ?_, hrun, hended, _, _, rfl, ?_, ⟨_, rfl⟩, hW, hsame.mono (by decide) (by decide)⟩
  · show own_S p e below s₁ (mkF m 0 #[vi (10 : Int32)] []) _
    refine XS.iloadN X0.here hx rfl (hb hby d1_0) rfl ?_
    show own_S p e below s₁ (mkF m 1 #[vi (10 : Int32)] [xi (10 : Int32)]) _
    refine XS.ifYes X0.here hx rfl (pc0 := 1) (pc' := 8) rfl (hb hby d1_1) rfl (by decide) (by decide) (by decide) ?_
    show own_S p e below s₁ (mkF m 8 #[vi (10 : Int32)] []) _
    refine XS.iloadN X0.here hx rfl (hb hby d1_8) rfl ?_
    show own_S p e below s₁ (mkF m 9 #[vi (10 : Int32)] [xi (10 : Int32)]) _
    refine XS.iconst X0.here hx rfl (hb hby d1_9) ?_
    show own_S p e below s₁ (mkF m 10 #[vi (10 : Int32)] [xi (1 : Int32), xi (10 : Int32)]) _
    refine XS.icmpYes X0.here hx rfl (pc0 := 10) (pc' := 17) rfl (hb hby d1_10) rfl (by decide) (by decide) (by decide) ?_
    show own_S p e below s₁ (mkF m 17 #[vi (10 : Int32)] []) _
    refine XS.iloadN X0.here hx rfl (hb hby d1_17) rfl ?_
    show own_S p e below s₁ (mkF m 18 #[vi (10 : Int32)] [xi (10 : Int32)]) _
    refine XS.iconst X0.here hx rfl (hb hby d1_18) ?_
    show own_S p e below s₁ (mkF m 19 #[vi (10 : Int32)] [xi (2 : Int32), xi (10 : Int32)]) _
    refine XS.icmpYes X0.here hx rfl (pc0 := 19) (pc' := 26) rfl (hb hby d1_19) rfl (by decide) (by decide) (by decide) ?_
    show own_S p e below s₁ (mkF m 26 #[vi (10 : Int32)] []) _
    refine XS.iloadN X0.here hx rfl (hb hby d1_26) rfl ?_
    show own_S p e below s₁ (mkF m 27 #[vi (10 : Int32)] [xi (10 : Int32)]) _
    refine XS.iconst X0.here hx rfl (hb hby d1_27) ?_
    show own_S p e below s₁ (mkF m 28 #[vi (10 : Int32)] [xi (3 : Int32), xi (10 : Int32)]) _
    refine XS.icmpYes X0.here hx rfl (pc0 := 28) (pc' := 35) rfl (hb hby d1_28) rfl (by decide) (by decide) (by decide) ?_
    show own_S p e below s₁ (mkF m 35 #[vi (10 : Int32)] []) _
    refine XS.iloadN X0.here hx rfl (hb hby d1_35) rfl ?_
    show own_S p e below s₁ (mkF m 36 #[vi (10 : Int32)] [xi (10 : Int32)]) _
    refine XS.iconst X0.here hx rfl (hb hby d1_36) ?_
    show own_S p e below s₁ (mkF m 37 #[vi (10 : Int32)] [xi (4 : Int32), xi (10 : Int32)]) _
    refine XS.icmpYes X0.here hx rfl (pc0 := 37) (pc' := 44) rfl (hb hby d1_37) rfl (by decide) (by decide) (by decide) ?_
    show own_S p e below s₁ (mkF m 44 #[vi (10 : Int32)] []) _
    refine XS.iloadN X0.here hx rfl (hb hby d1_44) rfl ?_
    show own_S p e below s₁ (mkF m 45 #[vi (10 : Int32)] [xi (10 : Int32)]) _
    refine XS.iconst X0.here hx rfl (hb hby d1_45) ?_
    show own_S p e below s₁ (mkF m 46 #[vi (10 : Int32)] [xi (5 : Int32), xi (10 : Int32)]) _
    refine XS.icmpYes X0.here hx rfl (pc0 := 46) (pc' := 53) rfl (hb hby d1_46) rfl (by decide) (by decide) (by decide) ?_
    show own_S p e below s₁ (mkF m 53 #[vi (10 : Int32)] []) _
    refine XS.iloadN X0.here hx rfl (hb hby d1_53) rfl ?_
    show own_S p e below s₁ (mkF m 54 #[vi (10 : Int32)] [xi (10 : Int32)]) _
    refine XS.bipush X0.here hx rfl (hb hby d1_54) ?_
    show own_S p e below s₁ (mkF m 56 #[vi (10 : Int32)] [xi (6 : Int32), xi (10 : Int32)]) _
    refine XS.icmpYes X0.here hx rfl (pc0 := 56) (pc' := 63) rfl (hb hby d1_56) rfl (by decide) (by decide) (by decide) ?_
    show own_S p e below s₁ (mkF m 63 #[vi (10 : Int32)] []) _
    refine XS.iloadN X0.here hx rfl (hb hby d1_63) rfl ?_
    show own_S p e below s₁ (mkF m 64 #[vi (10 : Int32)] [xi (10 : Int32)]) _
    refine XS.bipush X0.here hx rfl (hb hby d1_64) ?_
    show own_S p e below s₁ (mkF m 66 #[vi (10 : Int32)] [xi (7 : Int32), xi (10 : Int32)]) _
    refine XS.icmpYes X0.here hx rfl (pc0 := 66) (pc' := 73) rfl (hb hby d1_66) rfl (by decide) (by decide) (by decide) ?_
    show own_S p e below s₁ (mkF m 73 #[vi (10 : Int32)] []) _
    refine XS.iloadN X0.here hx rfl (hb hby d1_73) rfl ?_
    show own_S p e below s₁ (mkF m 74 #[vi (10 : Int32)] [xi (10 : Int32)]) _
    refine XS.bipush X0.here hx rfl (hb hby d1_74) ?_
    show own_S p e below s₁ (mkF m 76 #[vi (10 : Int32)] [xi (8 : Int32), xi (10 : Int32)]) _
    refine XS.icmpYes X0.here hx rfl (pc0 := 76) (pc' := 83) rfl (hb hby d1_76) rfl (by decide) (by decide) (by decide) ?_
    show own_S p e below s₁ (mkF m 83 #[vi (10 : Int32)] []) _
    refine XS.iloadN X0.here hx rfl (hb hby d1_83) rfl ?_
    show own_S p e below s₁ (mkF m 84 #[vi (10 : Int32)] [xi (10 : Int32)]) _
    refine XS.bipush X0.here hx rfl (hb hby d1_84) ?_
    show own_S p e below s₁ (mkF m 86 #[vi (10 : Int32)] [xi (9 : Int32), xi (10 : Int32)]) _
    refine XS.icmpYes X0.here hx rfl (pc0 := 86) (pc' := 93) rfl (hb hby d1_86) rfl (by decide) (by decide) (by decide) ?_
    show own_S p e below s₁ (mkF m 93 #[vi (10 : Int32)] []) _
    refine XS.iloadN X0.here hx rfl (hb hby d1_93) rfl ?_
    show own_S p e below s₁ (mkF m 94 #[vi (10 : Int32)] [xi (10 : Int32)]) _
    refine XS.bipush X0.here hx rfl (hb hby d1_94) ?_
    show own_S p e below s₁ (mkF m 96 #[vi (10 : Int32)] [xi (10 : Int32), xi (10 : Int32)]) _
    refine XS.icmpNo X0.here hx rfl (hb hby d1_96) rfl (by decide) ?_
    show own_S p e below s₁ (mkF m 99 #[vi (10 : Int32)] []) _
    refine st1 _ ?_
    show own_S p e below T1 (mkF m 102 #[vi (10 : Int32)] [xr u8]) _
    exact X1.areturnOut hx rfl Bd.returns rfl (hb hby d1_102) hr
  · exact ⟨rfl, N0, e1⟩
theorem ef_own_c41_ordinal (m : MethodId) (u0 u1 u2 u3 u4 u5 u6 u7 u8 u9 u10 u11 : Addr) : entryFrame m #[xr u8] 1 = (mkF m 0 #[vr u8] []) := by first | (simp [entryFrame, mkF, argsToLocals, Value.category]; done) | rfl
set_option maxRecDepth 65536 in
set_option maxHeartbeats 40000000 in
theorem own_c41_ordinal (l : Launch) (Z : State) (a0 : Array Value) (hw : ∀ d ∈ tables_1, d.before a0 Z = true) (u0 u1 u2 u3 u4 u5 u6 u7 u8 u9 u10 u11 : Addr) (G : own_St Z u0 u1 u2 u3 u4 u5 u6 u7 u8 u9 u10 u11) (h0 : Heap) (n0 : Nat) (O0 : Old Z n0 h0) : own_Met l Z Y1 jdk_37_method_2_code 1 (some .int) ({ frames := 0, cells := 0, slots := 0, locals := 0 } : Room) #[xr u8] h0 (own_QR (some (xi (10 : Int32))) h0 n0) := by
  intro ws
  refine MetFree.of_bodySF (plainFor_of_name pn1) hisR ?_
  intro p e s m args below meth c s₁ Bd hml0 hP hK
  obtain ⟨rfl, hZ, hh⟩ := hP
  have hx := Bd.exec
  have hby := Bd.bytes
  have hml : c.maxLocals = 1 := hml0
  have hown : s.vm.findClass "java/lang/Enum" = some m.cls := findClass_of_methodNamed Bd.named
  have hnm := (name_of_methodNamed Bd.named Bd.method).1
  have X0 : Stand p l e ({ frames := 0, cells := 0, slots := 0, locals := 0 } : Room) s m #[xr u8] below meth c s₁ [] 0 0 := Stand.of_body Bd
  have e0 : s₁.heap = h0 := by rw [← hh, Bd.state]; rfl
  have N0 := Fr.nil n0
  have pre0 : ∀ t, Steps p.tables e below (s₁.setTop (mkF m 0 #[vr u8] [])) t → Steps p.tables e below (s₁.setTop (entryFrame m #[xr u8] 1)) t := fun t k => castTop (ef_own_c41_ordinal m u0 u1 u2 u3 u4 u5 u6 u7 u8 u9 u10 u11) k
  obtain ⟨T1, X1, e1, st1⟩ := getF X0 hx hZ hown (host := "") (Or.inl (ww hw 20 rfl)) Via.refl e0 ((own_F_u8_ordinal G).ext O0.2) (g := (mkF m 1 #[vr u8] [xr u8])) rfl rfl (hb hby d3_1)
  obtain ⟨fs, hr, hrun, hended, hW, hsame⟩ := X1.leave (v := some (xi (10 : Int32))) (fun h => by rw [Bd.returns] at h; cases h)
  refine ⟨_, _, pre0 _ ?_, hrun, hended, _, _, rfl, ?_, ⟨_, rfl⟩, hW, hsame.mono (by decide) (by decide)⟩
  · show own_S p e below s₁ (mkF m 0 #[vr u8] []) _
    refine XS.aloadN X0.here hx rfl (hb hby d3_0) rfl rfl ?_
    show own_S p e below s₁ (mkF m 1 #[vr u8] [xr u8]) _
    refine st1 _ ?_
    show own_S p e below T1 (mkF m 4 #[vr u8] [xi (10 : Int32)]) _
    exact retI X1 hx Bd.returns (hb hby d3_4) hr
  · exact ⟨rfl, N0, e1⟩
theorem ef_own_c41_isInteger (m : MethodId) (u0 u1 u2 u3 u4 u5 u6 u7 u8 u9 u10 u11 : Addr) : entryFrame m #[xr u8] 1 = (mkF m 0 #[vr u8] []) := by first | (simp [entryFrame, mkF, argsToLocals, Value.category]; done) | rfl
set_option maxRecDepth 65536 in
set_option maxHeartbeats 40000000 in
theorem own_c41_isInteger (l : Launch) (Z : State) (a0 : Array Value) (hw : ∀ d ∈ tables_1, d.before a0 Z = true) (u0 u1 u2 u3 u4 u5 u6 u7 u8 u9 u10 u11 : Addr) (G : own_St Z u0 u1 u2 u3 u4 u5 u6 u7 u8 u9 u10 u11) (h0 : Heap) (n0 : Nat) (O0 : Old Z n0 h0) : own_Met l Z Y3 prog_26_method_5_code 1 (some .boolean) ({ frames := 1, cells := 0, slots := 0, locals := 12 } : Room) #[xr u8] h0 (own_QR (some (xi (1 : Int32))) h0 n0) := by
  intro ws
  refine MetFree.of_bodySF (plainFor_of_name pn2) hisR ?_
  intro p e s m args below meth c s₁ Bd hml0 hP hK
  obtain ⟨rfl, hZ, hh⟩ := hP
  have hx := Bd.exec
  have hby := Bd.bytes
  have hml : c.maxLocals = 1 := hml0
  have hown : s.vm.findClass "com/example/mibwright/mibwright/mib/BaseType" = some m.cls := findClass_of_methodNamed Bd.named
  have hnm := (name_of_methodNamed Bd.named Bd.method).1
  have X0 : Stand p l e ({ frames := 1, cells := 0, slots := 0, locals := 12 } : Room) s m #[xr u8] below meth c s₁ [] 0 0 := Stand.of_body Bd
  have e0 : s₁.heap = h0 := by rw [← hh, Bd.state]; rfl
  have N0 := Fr.nil n0
  have pre0 : ∀ t, Steps p.tables e below (s₁.setTop (mkF m 0 #[vr u8] [])) t → Steps p.tables e below (s₁.setTop (entryFrame m #[xr u8] 1)) t := fun t k => castTop (ef_own_c41_isInteger m u0 u1 u2 u3 u4 u5 u6 u7 u8 u9 u10 u11) k
  obtain ⟨cq1, kq1, qa1, qb1, qc1⟩ := isOf hZ e0 ((own_X_u8 G).ext O0.2)
  obtain ⟨_, _, ⟨T1, L1, k1, n1⟩, -, X1, ⟨Lc1, hQ1, l1, y1, z1⟩, st1⟩ := X0.virtualBackUp hx (x := Y2) (y := Y1) hown (mvT hZ (ww hw 13 rfl)) (mvT hZ (ww hw 14 rfl)) (mvT hZ (ww hw 15 rfl)) (by decide) (mvT hZ (ww hw 17 rfl)) (mvT hZ (ww hw 16 rfl)) (backOf (W := 0) (own_c41_ordinal l Z a0 hw u0 u1 u2 u3 u4 u5 u6 u7 u8 u9 u10 u11 G h0 n0 O0 []) hZ (ww hw 19 rfl) (ww hw 18 rfl) (by decide) (by decide)) qa1 qc1 (g := (mkF m 1 #[vr u8] [xr u8])) rfl (by rw [hml]; rfl) (Steps.refl _) (argsL := []) (rest := []) (lenOf pd1 rfl) rfl (by show 2 * 0 + _ ≤ _; exact Nat.le_of_eq rfl) (hb hby d2_1) (fun _ _ => ⟨rfl, e0, (by decide : 0 + 0 ≤ _), (by decide : 0 + 0 ≤ _)⟩)
  dsimp only [Pt.U, Pt.locs, Pt.cells, Pt.slots] at X1 l1 y1 z1 st1 hQ1
  subst l1 y1 z1
  obtain ⟨rfl, Nq1, e1⟩ := hQ1
  have N1 := Fr.app N0 Nq1
  obtain ⟨fs, hr, hrun, hended, hW, hsame⟩ := X1.leave (v := some (xi (1 : Int32))) (fun h => by rw [Bd.returns] at h; cases h)
  refine ⟨_, _, pre0 _ ?_, hrun, hended, _, _, rfl, ?_, ⟨_, rfl⟩, hW, hsame.mono (by decide) (by decide)⟩
  · show own_S p e below s₁ (mkF m 0 #[vr u8] []) _
    refine XS.aloadN X0.here hx rfl (hb hby d2_0) rfl rfl ?_
    show own_S p e below s₁ (mkF m 1 #[vr u8] [xr u8]) _
    refine st1.trans ?_
    show own_S p e below T1 (mkF m 4 #[vr u8] [xi (10 : Int32)]) _
    refine XS.tswIn X1.here hx rfl (pc0 := 4) (pc' := 78) (o := 74) rfl (hb hby d2_4) rfl (by decide) (by decide) (by decide) (by decide) ?_
    show own_S p e below T1 (mkF m 78 #[vr u8] []) _
    refine XS.iconst X1.here hx rfl (hb hby d2_78) ?_
    show own_S p e below T1 (mkF m 79 #[vr u8] [xi (1 : Int32)]) _
    refine XS.goto X1.here hx rfl (pc0 := 79) (pc' := 83) rfl (hb hby d2_79) (by decide) (by decide) ?_
    show own_S p e below T1 (mkF m 83 #[vr u8] [xi (1 : Int32)]) _
    exact retN X1 hx (t := .boolean) Bd.returns (by simp) (hb hby d2_83) hr
  · exact ⟨rfl, N1, e1⟩
theorem ef_own_c43_holdsIntegers (m : MethodId) (u0 u1 u2 u3 u4 u5 u6 u7 u8 u9 u10 u11 : Addr) : entryFrame m #[xi (10 : Int32)] 1 = (mkF m 0 #[vi (10 : Int32)] []) := by first | (simp [entryFrame, mkF, argsToLocals, Value.category]; done) | rfl
set_option maxRecDepth 65536 in
set_option maxHeartbeats 40000000 in
theorem own_c43_holdsIntegers (l : Launch) (Z : State) (a0 : Array Value) (hw : ∀ d ∈ tables_1, d.before a0 Z = true) (u0 u1 u2 u3 u4 u5 u6 u7 u8 u9 u10 u11 : Addr) (G : own_St Z u0 u1 u2 u3 u4 u5 u6 u7 u8 u9 u10 u11) (h0 : Heap) (n0 : Nat) (O0 : Old Z n0 h0) : own_Met l Z Y4 method_3_code 1 (some .boolean) ({ frames := 0, cells := 0, slots := 0, locals := 0 } : Room) #[xi (10 : Int32)] h0 (own_QR (some (xi (1 : Int32))) h0 n0) := by
  intro ws
  refine MetFree.of_bodySF (plainFor_of_name pn0) hisR ?_
  intro p e s m args below meth c s₁ Bd hml0 hP hK
  obtain ⟨rfl, hZ, hh⟩ := hP
  have hx := Bd.exec
  have hby := Bd.bytes
  have hml : c.maxLocals = 1 := hml0
  have hown : s.vm.findClass "com/example/mibwright/mibwright/mib/BaseTypeIsIntegerPinLaw" = some m.cls := findClass_of_methodNamed Bd.named
  have hnm := (name_of_methodNamed Bd.named Bd.method).1
  have X0 : Stand p l e ({ frames := 0, cells := 0, slots := 0, locals := 0 } : Room) s m #[xi (10 : Int32)] below meth c s₁ [] 0 0 := Stand.of_body Bd
  have e0 : s₁.heap = h0 := by rw [← hh, Bd.state]; rfl
  have N0 := Fr.nil n0
  have pre0 : ∀ t, Steps p.tables e below (s₁.setTop (mkF m 0 #[vi (10 : Int32)] [])) t → Steps p.tables e below (s₁.setTop (entryFrame m #[xi (10 : Int32)] 1)) t := fun t k => castTop (ef_own_c43_holdsIntegers m u0 u1 u2 u3 u4 u5 u6 u7 u8 u9 u10 u11) k
  obtain ⟨fs, hr, hrun, hended, hW, hsame⟩ := X0.leave (v := some (xi (1 : Int32))) (fun h => by rw [Bd.returns] at h; cases h)
  refine ⟨_, _, pre0 _ ?_, hrun, hended, _, _, rfl, ?_, ⟨_, rfl⟩, hW, hsame.mono (by decide) (by decide)⟩
  · show own_S p e below s₁ (mkF m 0 #[vi (10 : Int32)] []) _
    refine XS.iloadN X0.here hx rfl (hb hby d4_0) rfl ?_
    show own_S p e below s₁ (mkF m 1 #[vi (10 : Int32)] [xi (10 : Int32)]) _
    refine XS.iconst X0.here hx rfl (hb hby d4_1) ?_
    show own_S p e below s₁ (mkF m 2 #[vi (10 : Int32)] [xi (2 : Int32), xi (10 : Int32)]) _
    refine XS.icmpNo X0.here hx rfl (hb hby d4_2) rfl (by decide) ?_
    show own_S p e below s₁ (mkF m 5 #[vi (10 : Int32)] []) _
    refine XS.iloadN X0.here hx rfl (hb hby d4_5) rfl ?_
    show own_S p e below s₁ (mkF m 6 #[vi (10 : Int32)] [xi (10 : Int32)]) _
    refine XS.iconst X0.here hx rfl (hb hby d4_6) ?_
    show own_S p e below s₁ (mkF m 7 #[vi (10 : Int32)] [xi (3 : Int32), xi (10 : Int32)]) _
    refine XS.icmpNo X0.here hx rfl (hb hby d4_7) rfl (by decide) ?_
    show own_S p e below s₁ (mkF m 10 #[vi (10 : Int32)] []) _
    refine XS.iloadN X0.here hx rfl (hb hby d4_10) rfl ?_
    show own_S p e below s₁ (mkF m 11 #[vi (10 : Int32)] [xi (10 : Int32)]) _
    refine XS.iconst X0.here hx rfl (hb hby d4_11) ?_
    show own_S p e below s₁ (mkF m 12 #[vi (10 : Int32)] [xi (4 : Int32), xi (10 : Int32)]) _
    refine XS.icmpNo X0.here hx rfl (hb hby d4_12) rfl (by decide) ?_
    show own_S p e below s₁ (mkF m 15 #[vi (10 : Int32)] []) _
    refine XS.iloadN X0.here hx rfl (hb hby d4_15) rfl ?_
    show own_S p e below s₁ (mkF m 16 #[vi (10 : Int32)] [xi (10 : Int32)]) _
    refine XS.iconst X0.here hx rfl (hb hby d4_16) ?_
    show own_S p e below s₁ (mkF m 17 #[vi (10 : Int32)] [xi (5 : Int32), xi (10 : Int32)]) _
    refine XS.icmpNo X0.here hx rfl (hb hby d4_17) rfl (by decide) ?_
    show own_S p e below s₁ (mkF m 20 #[vi (10 : Int32)] []) _
    refine XS.iloadN X0.here hx rfl (hb hby d4_20) rfl ?_
    show own_S p e below s₁ (mkF m 21 #[vi (10 : Int32)] [xi (10 : Int32)]) _
    refine XS.bipush X0.here hx rfl (hb hby d4_21) ?_
    show own_S p e below s₁ (mkF m 23 #[vi (10 : Int32)] [xi (9 : Int32), xi (10 : Int32)]) _
    refine XS.icmpYes X0.here hx rfl (pc0 := 23) (pc' := 28) rfl (hb hby d4_23) rfl (by decide) (by decide) (by decide) ?_
    show own_S p e below s₁ (mkF m 28 #[vi (10 : Int32)] []) _
    refine XS.iconst X0.here hx rfl (hb hby d4_28) ?_
    show own_S p e below s₁ (mkF m 29 #[vi (10 : Int32)] [xi (1 : Int32)]) _
    exact retN X0 hx (t := .boolean) Bd.returns (by simp) (hb hby d4_29) hr
  · exact ⟨rfl, N0, e0⟩
theorem ef_own_l10 (m : MethodId) (u0 u1 u2 u3 u4 u5 u6 u7 u8 u9 u10 u11 : Addr) (p1 : Int32) : entryFrame m #[xi p1] maxLocals = (mkF m 0 #[vi p1, vu, vu] []) := by first | (simp [entryFrame, mkF, argsToLocals, Value.category, maxLocals]; done) | rfl
set_option maxRecDepth 65536 in
set_option maxHeartbeats 40000000 in
theorem own_l10 (l : Launch) (Z : State) (a0 : Array Value) (hw : ∀ d ∈ tables_1, d.before a0 Z = true) (u0 u1 u2 u3 u4 u5 u6 u7 u8 u9 u10 u11 : Addr) (G : own_St Z u0 u1 u2 u3 u4 u5 u6 u7 u8 u9 u10 u11) (p1 : Int32) (as10 : ((p1 &&& (2147483647 : Int32)) - ((p1 &&& (2147483647 : Int32)) / (12 : Int32)) * (12 : Int32)) = (10 : Int32)) (h0 : Heap) (n0 : Nat) (O0 : Old Z n0 h0) : own_Met l Z x code maxLocals ret room_1 #[xi p1] h0 (own_QL (some (xi (1 : Int32))) n0) := by
  intro ws
  refine MetFree.of_bodySF (plainFor_of_name pn0) hisR ?_
  intro p e s m args below meth c s₁ Bd hml0 hP hK
  obtain ⟨rfl, hZ, hh⟩ := hP
  have hx := Bd.exec
  have hby := Bd.bytes
  have hml : c.maxLocals = 3 := hml0
  have hown : s.vm.findClass "com/example/mibwright/mibwright/mib/BaseTypeIsIntegerPinLaw" = some m.cls := findClass_of_methodNamed Bd.named
  have hnm := (name_of_methodNamed Bd.named Bd.method).1
  have X0 : Stand p l e room_1 s m #[xi p1] below meth c s₁ [] 0 0 := Stand.of_body Bd
  have e0 : s₁.heap = h0 := by rw [← hh, Bd.state]; rfl
  have N0 := Fr.nil n0
  have pre0 : ∀ t, Steps p.tables e below (s₁.setTop (mkF m 0 #[vi p1, vu, vu] [])) t → Steps p.tables e below (s₁.setTop (entryFrame m #[xi p1] maxLocals)) t := fun t k => castTop (ef_own_l10 m u0 u1 u2 u3 u4 u5 u6 u7 u8 u9 u10 u11 p1) k
  obtain ⟨_, _, ⟨T1, L1, k1, n1⟩, -, X1, ⟨Lc1, hQ1, l1, y1, z1⟩, st1⟩ := Jvm.LawKit.callS X0 hx (y := Y0) hown (mvT hZ (ww hw 1 rfl)) (mvT hZ (ww hw 2 rfl)) (mvT hZ (ww hw 3 rfl)) (mvT hZ (ww hw 4 rfl)) (by decide) (backOf (W := 0) (own_c40_pick l Z a0 hw u0 u1 u2 u3 u4 u5 u6 u7 u8 u9 u10 u11 G h0 n0 O0 []) hZ (ww hw 4 rfl) (ww hw 3 rfl) (by decide) (by decide)) (g := (mkF m 9 #[vi p1, vi (10 : Int32), vu] [xi (10 : Int32)])) rfl (by rw [hml]; rfl) (argsL := [xi (10 : Int32)]) (rest := []) (lenOf pd0 rfl) rfl (by show 2 * 0 + _ ≤ _; exact Nat.le_of_eq rfl) (hb hby at_9) (fun _ _ => ⟨rfl, e0, (by decide : 0 + 0 ≤ _), (by decide : 0 + 0 ≤ _)⟩)
  dsimp only [Pt.U, Pt.locs, Pt.cells, Pt.slots] at X1 l1 y1 z1 st1 hQ1
  subst l1 y1 z1
  obtain ⟨rfl, Nq1, e1⟩ := hQ1
  have N1 := Fr.app N0 Nq1
  obtain ⟨cq2, kq2, qa2, qb2, qc2⟩ := isOf hZ e1 ((own_X_u8 G).ext O0.2)
  obtain ⟨_, _, ⟨T2, L2, k2, n2⟩, -, X2, ⟨Lc2, hQ2, l2, y2, z2⟩, st2⟩ := X1.virtualBack hx (y := Y3) (z := Y3) hown (mvT hZ (ww hw 8 rfl)) (mvT hZ (ww hw 9 rfl)) (notFace_of_selects (args := #[]) (mvT hZ (ww hw 11 rfl))) (mvT hZ (ww hw 11 rfl)) (mvT hZ (ww hw 10 rfl)) (by decide) (backOf (W := 0) (own_c41_isInteger l Z a0 hw u0 u1 u2 u3 u4 u5 u6 u7 u8 u9 u10 u11 G h0 n0 O0 []) hZ (ww hw 12 rfl) (ww hw 6 rfl) (by decide) (by decide)) qa2 qc2 (g := (mkF m 14 #[vi p1, vi (10 : Int32), vr u8] [xr u8])) rfl (by rw [hml]; rfl) (Steps.refl _) (argsL := []) (rest := []) (lenOf pd2 rfl) rfl (by show 2 * 0 + _ ≤ _; exact Nat.le_of_eq rfl) (hb hby at_14) (fun _ _ => ⟨rfl, e1, (by decide : 0 + 0 ≤ _), (by decide : 0 + 0 ≤ _)⟩)
  dsimp only [Pt.U, Pt.locs, Pt.cells, Pt.slots] at X2 l2 y2 z2 st2 hQ2
  subst l2 y2 z2
  obtain ⟨rfl, Nq2, e2⟩ := hQ2
  have N2 := Fr.app N1 Nq2
  obtain ⟨_, _, ⟨T3, L3, k3, n3⟩, -, X3, ⟨Lc3, hQ3, l3, y3, z3⟩, st3⟩ := Jvm.LawKit.callS X2 hx (y := Y4) hown (mvT hZ (ww hw 22 rfl)) (mvT hZ (ww hw 23 rfl)) (mvT hZ (ww hw 3 rfl)) (mvT hZ (ww hw 24 rfl)) (by decide) (backOf (W := 1) (own_c43_holdsIntegers l Z a0 hw u0 u1 u2 u3 u4 u5 u6 u7 u8 u9 u10 u11 G h0 n0 O0 []) hZ (ww hw 24 rfl) (ww hw 3 rfl) (by decide) (by decide)) (g := (mkF m 18 #[vi p1, vi (10 : Int32), vr u8] [xi (10 : Int32), xi (1 : Int32)])) rfl (by rw [hml]; rfl) (argsL := [xi (10 : Int32)]) (rest := [xi (1 : Int32)]) (lenOf pd3 rfl) rfl (by show 2 * 0 + _ ≤ _; exact Nat.le_of_eq rfl) (hb hby at_18) (fun _ _ => ⟨rfl, e2, (by decide : 0 + 0 ≤ _), (by decide : 0 + 0 ≤ _)⟩)
  dsimp only [Pt.U, Pt.locs, Pt.cells, Pt.slots] at X3 l3 y3 z3 st3 hQ3
  subst l3 y3 z3
  obtain ⟨rfl, Nq3, e3⟩ := hQ3
  have N3 := Fr.app N2 Nq3
  obtain ⟨fs, hr, hrun, hended, hW, hsame⟩ := X3.leave (v := some (xi (1 : Int32))) (fun h => by rw [Bd.returns] at h; cases h)
  refine ⟨_, _, pre0 _ ?_, hrun, hended, _, _, rfl, ?_, ⟨_, rfl⟩, hW, hsame.mono (by decide) (by decide)⟩
  · show own_S p e below s₁ (mkF m 0 #[vi p1, vu, vu] []) _
    refine XS.iloadN X0.here hx rfl (hb hby at_0) rfl ?_
    show own_S p e below s₁ (mkF m 1 #[vi p1, vu, vu] [xi p1]) _
    refine X0.ldcI hx hown (mvT hZ (ww hw 0 rfl)) (g := (mkF m 1 #[vi p1, vu, vu] [xi p1])) rfl (hb hby at_1) ?_
    show own_S p e below s₁ (mkF m 3 #[vi p1, vu, vu] [xi (2147483647 : Int32), xi p1]) _
    refine XS.iand X0.here hx rfl (hb hby at_3) rfl ?_
    show own_S p e below s₁ (mkF m 4 #[vi p1, vu, vu] [xi (p1 &&& (2147483647 : Int32))]) _
    show own_S p e below s₁ (mkF m 4 #[vi p1, vu, vu] [xi (p1 &&& (2147483647 : Int32))]) _
    refine XS.bipush X0.here hx rfl (hb hby at_4) ?_
    show own_S p e below s₁ (mkF m 6 #[vi p1, vu, vu] [xi (12 : Int32), xi (p1 &&& (2147483647 : Int32))]) _
    refine XS.irem X0.here hx rfl (hb hby at_6) rfl (by decide) ?_
    show own_S p e below s₁ (mkF m 7 #[vi p1, vu, vu] [xi ((p1 &&& (2147483647 : Int32)) - ((p1 &&& (2147483647 : Int32)) / (12 : Int32)) * (12 : Int32))]) _
    refine castTop (show (mkF m 7 #[vi p1, vu, vu] [xi ((p1 &&& (2147483647 : Int32)) - ((p1 &&& (2147483647 : Int32)) / (12 : Int32)) * (12 : Int32))]) = (mkF m 7 #[vi p1, vu, vu] [xi (10 : Int32)]) from by rw [as10]) ?_
    show own_S p e below s₁ (mkF m 7 #[vi p1, vu, vu] [xi (10 : Int32)]) _
    refine XS.istoreN X0.here hx rfl (hb hby at_7) rfl (l' := #[vi p1, vi (10 : Int32), vu]) rfl ?_
    show own_S p e below s₁ (mkF m 8 #[vi p1, vi (10 : Int32), vu] []) _
    refine XS.iloadN X0.here hx rfl (hb hby at_8) rfl ?_
    show own_S p e below s₁ (mkF m 9 #[vi p1, vi (10 : Int32), vu] [xi (10 : Int32)]) _
    refine st1 _ ?_
    show own_S p e below T1 (mkF m 12 #[vi p1, vi (10 : Int32), vu] [xr u8]) _
    refine XS.astoreN X1.here hx rfl (hb hby at_12) rfl rfl (l' := #[vi p1, vi (10 : Int32), vr u8]) rfl ?_
    show own_S p e below T1 (mkF m 13 #[vi p1, vi (10 : Int32), vr u8] []) _
    refine XS.aloadN X1.here hx rfl (hb hby at_13) rfl rfl ?_
    show own_S p e below T1 (mkF m 14 #[vi p1, vi (10 : Int32), vr u8] [xr u8]) _
    refine st2.trans ?_
    show own_S p e below T2 (mkF m 17 #[vi p1, vi (10 : Int32), vr u8] [xi (1 : Int32)]) _
    refine XS.iloadN X2.here hx rfl (hb hby at_17) rfl ?_
    show own_S p e below T2 (mkF m 18 #[vi p1, vi (10 : Int32), vr u8] [xi (10 : Int32), xi (1 : Int32)]) _
    refine st3 _ ?_
    show own_S p e below T3 (mkF m 21 #[vi p1, vi (10 : Int32), vr u8] [xi (1 : Int32), xi (1 : Int32)]) _
    refine XS.icmpNo X3.here hx rfl (hb hby at_21) rfl (by decide) ?_
    show own_S p e below T3 (mkF m 24 #[vi p1, vi (10 : Int32), vr u8] []) _
    refine XS.iconst X3.here hx rfl (hb hby at_24) ?_
    show own_S p e below T3 (mkF m 25 #[vi p1, vi (10 : Int32), vr u8] [xi (1 : Int32)]) _
    refine XS.goto X3.here hx rfl (pc0 := 25) (pc' := 29) rfl (hb hby at_25) (by decide) (by decide) ?_
    show own_S p e below T3 (mkF m 29 #[vi p1, vi (10 : Int32), vr u8] [xi (1 : Int32)]) _
    exact retN X3 hx (t := .boolean) Bd.returns (by simp) (hb hby at_29) hr
  · exact ⟨rfl, N3⟩
theorem d1_103 : decode method_2_code 103 = .ok (.getstatic 43, 3) := by decide +kernel
theorem d1_106 : decode method_2_code 106 = .ok (.areturn, 1) := by decide +kernel
theorem ef_own_c44_pick (m : MethodId) (u0 u1 u2 u3 u4 u5 u6 u7 u8 u9 u10 u11 : Addr) : entryFrame m #[xi (11 : Int32)] 1 = (mkF m 0 #[vi (11 : Int32)] []) := by first | (simp [entryFrame, mkF, argsToLocals, Value.category]; done) | rfl
set_option maxRecDepth 65536 in
set_option maxHeartbeats 40000000 in
theorem own_c44_pick (l : Launch) (Z : State) (a0 : Array Value) (hw : ∀ d ∈ tables_1, d.before a0 Z = true) (u0 u1 u2 u3 u4 u5 u6 u7 u8 u9 u10 u11 : Addr) (G : own_St Z u0 u1 u2 u3 u4 u5 u6 u7 u8 u9 u10 u11) (h0 : Heap) (n0 : Nat) (O0 : Old Z n0 h0) : own_Met l Z Y0 method_2_code 1 (some (.object "com/example/mibwright/mibwright/mib/BaseType")) ({ frames := 0, cells := 0, slots := 0, locals := 0 } : Room) #[xi (11 : Int32)] h0 (own_QR (some (xr u4)) h0 n0) := by
  intro ws
  refine MetFree.of_bodySF (plainFor_of_name pn0) hisR ?_
  intro p e s m args below meth c s₁ Bd hml0 hP hK
  obtain ⟨rfl, hZ, hh⟩ := hP
  have hx := Bd.exec
  have hby := Bd.bytes
  have hml : c.maxLocals = 1 := hml0
  have hown : s.vm.findClass "com/example/mibwright/mibwright/mib/BaseTypeIsIntegerPinLaw" = some m.cls := findClass_of_methodNamed Bd.named
  have hnm := (name_of_methodNamed Bd.named Bd.method).1
  have X0 : Stand p l e ({ frames := 0, cells := 0, slots := 0, locals := 0 } : Room) s m #[xi (11 : Int32)] below meth c s₁ [] 0 0 := Stand.of_body Bd
  have e0 : s₁.heap = h0 := by rw [← hh, Bd.state]; rfl
  have N0 := Fr.nil n0
  have pre0 : ∀ t, Steps p.tables e below (s₁.setTop (mkF m 0 #[vi (11 : Int32)] [])) t → Steps p.tables e below (s₁.setTop (entryFrame m #[xi (11 : Int32)] 1)) t := fun t k => castTop (ef_own_c44_pick m u0 u1 u2 u3 u4 u5 u6 u7 u8 u9 u10 u11) k
  obtain ⟨T1, X1, e1, st1⟩ := getS2 X0 hx hZ hown (host := "") (Or.inl (ww hw 31 rfl)) Via.refl e0 ((own_S_u4 G).ext O0.2) (g := (mkF m 103 #[vi (11 : Int32)] [])) rfl (hb hby d1_103)
  obtain ⟨fs, hr, hrun, hended, hW, hsame⟩ := X1.leave (v := some (xr u4)) (fun h => by rw [Bd.returns] at h; cases h)
  refine ⟨_, _, pre0 _ ?_, hrun, hended, _, _, rfl, ?_, ⟨_, rfl⟩, hW, hsame.mono (by decide) (by decide)⟩
  · show own_S p e below s₁ (mkF m 0 #[vi (11 : Int32)] []) _
    refine XS.iloadN X0.here hx rfl (hb hby d1_0) rfl ?_
    show own_S p e below s₁ (mkF m 1 #[vi (11 : Int32)] [xi (11 : Int32)]) _
    refine XS.ifYes X0.here hx rfl (pc0 := 1) (pc' := 8) rfl (hb hby d1_1) rfl (by decide) (by decide) (by decide) ?_
    show own_S p e below s₁ (mkF m 8 #[vi (11 : Int32)] []) _
    refine XS.iloadN X0.here hx rfl (hb hby d1_8) rfl ?_
    show own_S p e below s₁ (mkF m 9 #[vi (11 : Int32)] [xi (11 : Int32)]) _
    refine XS.iconst X0.here hx rfl (hb hby d1_9) ?_
    show own_S p e below s₁ (mkF m 10 #[vi (11 : Int32)] [xi (1 : Int32), xi (11 : Int32)]) _
    refine XS.icmpYes X0.here hx rfl (pc0 := 10) (pc' := 17) rfl (hb hby d1_10) rfl (by decide) (by decide) (by decide) ?_
    show own_S p e below s₁ (mkF m 17 #[vi (11 : Int32)] []) _
    refine XS.iloadN X0.here hx rfl (hb hby d1_17) rfl ?_
    show own_S p e below s₁ (mkF m 18 #[vi (11 : Int32)] [xi (11 : Int32)]) _
    refine XS.iconst X0.here hx rfl (hb hby d1_18) ?_
    show own_S p e below s₁ (mkF m 19 #[vi (11 : Int32)] [xi (2 : Int32), xi (11 : Int32)]) _
    refine XS.icmpYes X0.here hx rfl (pc0 := 19) (pc' := 26) rfl (hb hby d1_19) rfl (by decide) (by decide) (by decide) ?_
    show own_S p e below s₁ (mkF m 26 #[vi (11 : Int32)] []) _
    refine XS.iloadN X0.here hx rfl (hb hby d1_26) rfl ?_
    show own_S p e below s₁ (mkF m 27 #[vi (11 : Int32)] [xi (11 : Int32)]) _
    refine XS.iconst X0.here hx rfl (hb hby d1_27) ?_
    show own_S p e below s₁ (mkF m 28 #[vi (11 : Int32)] [xi (3 : Int32), xi (11 : Int32)]) _
    refine XS.icmpYes X0.here hx rfl (pc0 := 28) (pc' := 35) rfl (hb hby d1_28) rfl (by decide) (by decide) (by decide) ?_
    show own_S p e below s₁ (mkF m 35 #[vi (11 : Int32)] []) _
    refine XS.iloadN X0.here hx rfl (hb hby d1_35) rfl ?_
    show own_S p e below s₁ (mkF m 36 #[vi (11 : Int32)] [xi (11 : Int32)]) _
    refine XS.iconst X0.here hx rfl (hb hby d1_36) ?_
    show own_S p e below s₁ (mkF m 37 #[vi (11 : Int32)] [xi (4 : Int32), xi (11 : Int32)]) _
    refine XS.icmpYes X0.here hx rfl (pc0 := 37) (pc' := 44) rfl (hb hby d1_37) rfl (by decide) (by decide) (by decide) ?_
    show own_S p e below s₁ (mkF m 44 #[vi (11 : Int32)] []) _
    refine XS.iloadN X0.here hx rfl (hb hby d1_44) rfl ?_
    show own_S p e below s₁ (mkF m 45 #[vi (11 : Int32)] [xi (11 : Int32)]) _
    refine XS.iconst X0.here hx rfl (hb hby d1_45) ?_
    show own_S p e below s₁ (mkF m 46 #[vi (11 : Int32)] [xi (5 : Int32), xi (11 : Int32)]) _
    refine XS.icmpYes X0.here hx rfl (pc0 := 46) (pc' := 53) rfl (hb hby d1_46) rfl (by decide) (by decide) (by decide) ?_
    show own_S p e below s₁ (mkF m 53 #[vi (11 : Int32)] []) _
    refine XS.iloadN X0.here hx rfl (hb hby d1_53) rfl ?_
    show own_S p e below s₁ (mkF m 54 #[vi (11 : Int32)] [xi (11 : Int32)]) _
    refine XS.bipush X0.here hx rfl (hb hby d1_54) ?_
    show own_S p e below s₁ (mkF m 56 #[vi (11 : Int32)] [xi (6 : Int32), xi (11 : Int32)]) _
    refine XS.icmpYes X0.here hx rfl (pc0 := 56) (pc' := 63) rfl (hb hby d1_56) rfl (by decide) (by decide) (by decide) ?_
    show own_S p e below s₁ (mkF m 63 #[vi (11 : Int32)] []) _
    refine XS.iloadN X0.here hx rfl (hb hby d1_63) rfl ?_
    show own_S p e below s₁ (mkF m 64 #[vi (11 : Int32)] [xi (11 : Int32)]) _
    refine XS.bipush X0.here hx rfl (hb hby d1_64) ?_
    show own_S p e below s₁ (mkF m 66 #[vi (11 : Int32)] [xi (7 : Int32), xi (11 : Int32)]) _
    refine XS.icmpYes X0.here hx rfl (pc0 := 66) (pc' := 73) rfl (hb hby d1_66) rfl (by decide) (by decide) (by decide) ?_
    show own_S p e below s₁ (mkF m 73 #[vi (11 : Int32)] []) _
    refine XS.iloadN X0.here hx rfl (hb hby d1_73) rfl ?_
    show own_S p e below s₁ (mkF m 74 #[vi (11 : Int32)] [xi (11 : Int32)]) _
    refine XS.bipush X0.here hx rfl (hb hby d1_74) ?_
    show own_S p e below s₁ (mkF m 76 #[vi (11 : Int32)] [xi (8 : Int32), xi (11 : Int32)]) _
    refine XS.icmpYes X0.here hx rfl (pc0 := 76) (pc' := 83) rfl (hb hby d1_76) rfl (by decide) (by decide) (by decide) ?_
    show own_S p e below s₁ (mkF m 83 #[vi (11 : Int32)] []) _
    refine XS.iloadN X0.here hx rfl (hb hby d1_83) rfl ?_
    show own_S p e below s₁ (mkF m 84 #[vi (11 : Int32)] [xi (11 : Int32)]) _
    refine XS.bipush X0.here hx rfl (hb hby d1_84) ?_
    show own_S p e below s₁ (mkF m 86 #[vi (11 : Int32)] [xi (9 : Int32), xi (11 : Int32)]) _
    refine XS.icmpYes X0.here hx rfl (pc0 := 86) (pc' := 93) rfl (hb hby d1_86) rfl (by decide) (by decide) (by decide) ?_
    show own_S p e below s₁ (mkF m 93 #[vi (11 : Int32)] []) _
    refine XS.iloadN X0.here hx rfl (hb hby d1_93) rfl ?_
    show own_S p e below s₁ (mkF m 94 #[vi (11 : Int32)] [xi (11 : Int32)]) _
    refine XS.bipush X0.here hx rfl (hb hby d1_94) ?_
    show own_S p e below s₁ (mkF m 96 #[vi (11 : Int32)] [xi (10 : Int32), xi (11 : Int32)]) _
    refine XS.icmpYes X0.here hx rfl (pc0 := 96) (pc' := 103) rfl (hb hby d1_96) rfl (by decide) (by decide) (by decide) ?_
    show own_S p e below s₁ (mkF m 103 #[vi (11 : Int32)] []) _
    refine st1 _ ?_
    show own_S p e below T1 (mkF m 106 #[vi (11 : Int32)] [xr u4]) _
    exact X1.areturnOut hx rfl Bd.returns rfl (hb hby d1_106) hr
  · exact ⟨rfl, N0, e1⟩
theorem ef_own_c45_ordinal (m : MethodId) (u0 u1 u2 u3 u4 u5 u6 u7 u8 u9 u10 u11 : Addr) : entryFrame m #[xr u4] 1 = (mkF m 0 #[vr u4] []) := by first | (simp [entryFrame, mkF, argsToLocals, Value.category]; done) | rfl
set_option maxRecDepth 65536 in
set_option maxHeartbeats 40000000 in
theorem own_c45_ordinal (l : Launch) (Z : State) (a0 : Array Value) (hw : ∀ d ∈ tables_1, d.before a0 Z = true) (u0 u1 u2 u3 u4 u5 u6 u7 u8 u9 u10 u11 : Addr) (G : own_St Z u0 u1 u2 u3 u4 u5 u6 u7 u8 u9 u10 u11) (h0 : Heap) (n0 : Nat) (O0 : Old Z n0 h0) : own_Met l Z Y1 jdk_37_method_2_code 1 (some .int) ({ frames := 0, cells := 0, slots := 0, locals := 0 } : Room) #[xr u4] h0 (own_QR (some (xi (11 : Int32))) h0 n0) := by
  intro ws
  refine MetFree.of_bodySF (plainFor_of_name pn1) hisR ?_
  intro p e s m args below meth c s₁ Bd hml0 hP hK
  obtain ⟨rfl, hZ, hh⟩ := hP
  have hx := Bd.exec
  have hby := Bd.bytes
  have hml : c.maxLocals = 1 := hml0
  have hown : s.vm.findClass "java/lang/Enum" = some m.cls := findClass_of_methodNamed Bd.named
  have hnm := (name_of_methodNamed Bd.named Bd.method).1
  have X0 : Stand p l e ({ frames := 0, cells := 0, slots := 0, locals := 0 } : Room) s m #[xr u4] below meth c s₁ [] 0 0 := Stand.of_body Bd
  have e0 : s₁.heap = h0 := by rw [← hh, Bd.state]; rfl
  have N0 := Fr.nil n0
  have pre0 : ∀ t, Steps p.tables e below (s₁.setTop (mkF m 0 #[vr u4] [])) t → Steps p.tables e below (s₁.setTop (entryFrame m #[xr u4] 1)) t := fun t k => castTop (ef_own_c45_ordinal m u0 u1 u2 u3 u4 u5 u6 u7 u8 u9 u10 u11) k
  obtain ⟨T1, X1, e1, st1⟩ := getF X0 hx hZ hown (host := "") (Or.inl (ww hw 20 rfl)) Via.refl e0 ((own_F_u4_ordinal G).ext O0.2) (g := (mkF m 1 #[vr u4] [xr u4])) rfl rfl (hb hby d3_1)
  obtain ⟨fs, hr, hrun, hended, hW, hsame⟩ := X1.leave (v := some (xi (11 : Int32))) (fun h => by rw [Bd.returns] at h; cases h)
  refine ⟨_, _, pre0 _ ?_, hrun, hended, _, _, rfl, ?_, ⟨_, rfl⟩, hW, hsame.mono (by decide) (by decide)⟩
  · show own_S p e below s₁ (mkF m 0 #[vr u4] []) _
    refine XS.aloadN X0.here hx rfl (hb hby d3_0) rfl rfl ?_
    show own_S p e below s₁ (mkF m 1 #[vr u4] [xr u4]) _
    refine st1 _ ?_
    show own_S p e below T1 (mkF m 4 #[vr u4] [xi (11 : Int32)]) _
    exact retI X1 hx Bd.returns (hb hby d3_4) hr
  · exact ⟨rfl, N0, e1⟩
theorem ef_own_c45_isInteger (m : MethodId) (u0 u1 u2 u3 u4 u5 u6 u7 u8 u9 u10 u11 : Addr) : entryFrame m #[xr u4] 1 = (mkF m 0 #[vr u4] []) := by first | (simp [entryFrame, mkF, argsToLocals, Value.category]; done) | rfl
set_option maxRecDepth 65536 in
set_option maxHeartbeats 40000000 in
theorem own_c45_isInteger (l : Launch) (Z : State) (a0 : Array Value) (hw : ∀ d ∈ tables_1, d.before a0 Z = true) (u0 u1 u2 u3 u4 u5 u6 u7 u8 u9 u10 u11 : Addr) (G : own_St Z u0 u1 u2 u3 u4 u5 u6 u7 u8 u9 u10 u11) (h0 : Heap) (n0 : Nat) (O0 : Old Z n0 h0) : own_Met l Z Y3 prog_26_method_5_code 1 (some .boolean) ({ frames := 1, cells := 0, slots := 0, locals := 12 } : Room) #[xr u4] h0 (own_QR (some (xi (1 : Int32))) h0 n0) := by
  intro ws
  refine MetFree.of_bodySF (plainFor_of_name pn2) hisR ?_
  intro p e s m args below meth c s₁ Bd hml0 hP hK
  obtain ⟨rfl, hZ, hh⟩ := hP
  have hx := Bd.exec
  have hby := Bd.bytes
  have hml : c.maxLocals = 1 := hml0
  have hown : s.vm.findClass "com/example/mibwright/mibwright/mib/BaseType" = some m.cls := findClass_of_methodNamed Bd.named
  have hnm := (name_of_methodNamed Bd.named Bd.method).1
  have X0 : Stand p l e ({ frames := 1, cells := 0, slots := 0, locals := 12 } : Room) s m #[xr u4] below meth c s₁ [] 0 0 := Stand.of_body Bd
  have e0 : s₁.heap = h0 := by rw [← hh, Bd.state]; rfl
  have N0 := Fr.nil n0
  have pre0 : ∀ t, Steps p.tables e below (s₁.setTop (mkF m 0 #[vr u4] [])) t → Steps p.tables e below (s₁.setTop (entryFrame m #[xr u4] 1)) t := fun t k => castTop (ef_own_c45_isInteger m u0 u1 u2 u3 u4 u5 u6 u7 u8 u9 u10 u11) k
  obtain ⟨cq1, kq1, qa1, qb1, qc1⟩ := isOf hZ e0 ((own_X_u4 G).ext O0.2)
  obtain ⟨_, _, ⟨T1, L1, k1, n1⟩, -, X1, ⟨Lc1, hQ1, l1, y1, z1⟩, st1⟩ := X0.virtualBackUp hx (x := Y2) (y := Y1) hown (mvT hZ (ww hw 13 rfl)) (mvT hZ (ww hw 14 rfl)) (mvT hZ (ww hw 15 rfl)) (by decide) (mvT hZ (ww hw 17 rfl)) (mvT hZ (ww hw 16 rfl)) (backOf (W := 0) (own_c45_ordinal l Z a0 hw u0 u1 u2 u3 u4 u5 u6 u7 u8 u9 u10 u11 G h0 n0 O0 []) hZ (ww hw 19 rfl) (ww hw 18 rfl) (by decide) (by decide)) qa1 qc1 (g := (mkF m 1 #[vr u4] [xr u4])) rfl (by rw [hml]; rfl) (Steps.refl _) (argsL := []) (rest := []) (lenOf pd1 rfl) rfl (by show 2 * 0 + _ ≤ _; exact Nat.le_of_eq rfl) (hb hby d2_1) (fun _ _ => ⟨rfl, e0, (by decide : 0 + 0 ≤ _), (by decide : 0 + 0 ≤ _)⟩)
  dsimp only [Pt.U, Pt.locs, Pt.cells, Pt.slots] at X1 l1 y1 z1 st1 hQ1
  subst l1 y1 z1
  obtain ⟨rfl, Nq1, e1⟩ := hQ1
  have N1 := Fr.app N0 Nq1
  obtain ⟨fs, hr, hrun, hended, hW, hsame⟩ := X1.leave (v := some (xi (1 : Int32))) (fun h => by rw [Bd.returns] at h; cases h)
  refine ⟨_, _, pre0 _ ?_, hrun, hended, _, _, rfl, ?_, ⟨_, rfl⟩, hW, hsame.mono (by decide) (by decide)⟩
  · show own_S p e below s₁ (mkF m 0 #[vr u4] []) _
    refine XS.aloadN X0.here hx rfl (hb hby d2_0) rfl rfl ?_
    show own_S p e below s₁ (mkF m 1 #[vr u4] [xr u4]) _
    refine st1.trans ?_
    show own_S p e below T1 (mkF m 4 #[vr u4] [xi (11 : Int32)]) _
    refine XS.tswIn X1.here hx rfl (pc0 := 4) (pc' := 78) (o := 74) rfl (hb hby d2_4) rfl (by decide) (by decide) (by decide) (by decide) ?_
    show own_S p e below T1 (mkF m 78 #[vr u4] []) _
    refine XS.iconst X1.here hx rfl (hb hby d2_78) ?_
    show own_S p e below T1 (mkF m 79 #[vr u4] [xi (1 : Int32)]) _
    refine XS.goto X1.here hx rfl (pc0 := 79) (pc' := 83) rfl (hb hby d2_79) (by decide) (by decide) ?_
    show own_S p e below T1 (mkF m 83 #[vr u4] [xi (1 : Int32)]) _
    exact retN X1 hx (t := .boolean) Bd.returns (by simp) (hb hby d2_83) hr
  · exact ⟨rfl, N1, e1⟩
theorem ef_own_c47_holdsIntegers (m : MethodId) (u0 u1 u2 u3 u4 u5 u6 u7 u8 u9 u10 u11 : Addr) : entryFrame m #[xi (11 : Int32)] 1 = (mkF m 0 #[vi (11 : Int32)] []) := by first | (simp [entryFrame, mkF, argsToLocals, Value.category]; done) | rfl
set_option maxRecDepth 65536 in
set_option maxHeartbeats 40000000 in
theorem own_c47_holdsIntegers (l : Launch) (Z : State) (a0 : Array Value) (hw : ∀ d ∈ tables_1, d.before a0 Z = true) (u0 u1 u2 u3 u4 u5 u6 u7 u8 u9 u10 u11 : Addr) (G : own_St Z u0 u1 u2 u3 u4 u5 u6 u7 u8 u9 u10 u11) (h0 : Heap) (n0 : Nat) (O0 : Old Z n0 h0) : own_Met l Z Y4 method_3_code 1 (some .boolean) ({ frames := 0, cells := 0, slots := 0, locals := 0 } : Room) #[xi (11 : Int32)] h0 (own_QR (some (xi (1 : Int32))) h0 n0) := by
  intro ws
  refine MetFree.of_bodySF (plainFor_of_name pn0) hisR ?_
  intro p e s m args below meth c s₁ Bd hml0 hP hK
  obtain ⟨rfl, hZ, hh⟩ := hP
  have hx := Bd.exec
  have hby := Bd.bytes
  have hml : c.maxLocals = 1 := hml0
  have hown : s.vm.findClass "com/example/mibwright/mibwright/mib/BaseTypeIsIntegerPinLaw" = some m.cls := findClass_of_methodNamed Bd.named
  have hnm := (name_of_methodNamed Bd.named Bd.method).1
  have X0 : Stand p l e ({ frames := 0, cells := 0, slots := 0, locals := 0 } : Room) s m #[xi (11 : Int32)] below meth c s₁ [] 0 0 := Stand.of_body Bd
  have e0 : s₁.heap = h0 := by rw [← hh, Bd.state]; rfl
  have N0 := Fr.nil n0
  have pre0 : ∀ t, Steps p.tables e below (s₁.setTop (mkF m 0 #[vi (11 : Int32)] [])) t → Steps p.tables e below (s₁.setTop (entryFrame m #[xi (11 : Int32)] 1)) t := fun t k => castTop (ef_own_c47_holdsIntegers m u0 u1 u2 u3 u4 u5 u6 u7 u8 u9 u10 u11) k
  obtain ⟨fs, hr, hrun, hended, hW, hsame⟩ := X0.leave (v := some (xi (1 : Int32))) (fun h => by rw [Bd.returns] at h; cases h)
  refine ⟨_, _, pre0 _ ?_, hrun, hended, _, _, rfl, ?_, ⟨_, rfl⟩, hW, hsame.mono (by decide) (by decide)⟩
  · show own_S p e below s₁ (mkF m 0 #[vi (11 : Int32)] []) _
    refine XS.iloadN X0.here hx rfl (hb hby d4_0) rfl ?_
    show own_S p e below s₁ (mkF m 1 #[vi (11 : Int32)] [xi (11 : Int32)]) _
    refine XS.iconst X0.here hx rfl (hb hby d4_1) ?_
    show own_S p e below s₁ (mkF m 2 #[vi (11 : Int32)] [xi (2 : Int32), xi (11 : Int32)]) _
    refine XS.icmpNo X0.here hx rfl (hb hby d4_2) rfl (by decide) ?_
    show own_S p e below s₁ (mkF m 5 #[vi (11 : Int32)] []) _
    refine XS.iloadN X0.here hx rfl (hb hby d4_5) rfl ?_
    show own_S p e below s₁ (mkF m 6 #[vi (11 : Int32)] [xi (11 : Int32)]) _
    refine XS.iconst X0.here hx rfl (hb hby d4_6) ?_
    show own_S p e below s₁ (mkF m 7 #[vi (11 : Int32)] [xi (3 : Int32), xi (11 : Int32)]) _
    refine XS.icmpNo X0.here hx rfl (hb hby d4_7) rfl (by decide) ?_
    show own_S p e below s₁ (mkF m 10 #[vi (11 : Int32)] []) _
    refine XS.iloadN X0.here hx rfl (hb hby d4_10) rfl ?_
    show own_S p e below s₁ (mkF m 11 #[vi (11 : Int32)] [xi (11 : Int32)]) _
    refine XS.iconst X0.here hx rfl (hb hby d4_11) ?_
    show own_S p e below s₁ (mkF m 12 #[vi (11 : Int32)] [xi (4 : Int32), xi (11 : Int32)]) _
    refine XS.icmpNo X0.here hx rfl (hb hby d4_12) rfl (by decide) ?_
    show own_S p e below s₁ (mkF m 15 #[vi (11 : Int32)] []) _
    refine XS.iloadN X0.here hx rfl (hb hby d4_15) rfl ?_
    show own_S p e below s₁ (mkF m 16 #[vi (11 : Int32)] [xi (11 : Int32)]) _
    refine XS.iconst X0.here hx rfl (hb hby d4_16) ?_
    show own_S p e below s₁ (mkF m 17 #[vi (11 : Int32)] [xi (5 : Int32), xi (11 : Int32)]) _
    refine XS.icmpNo X0.here hx rfl (hb hby d4_17) rfl (by decide) ?_
    show own_S p e below s₁ (mkF m 20 #[vi (11 : Int32)] []) _
    refine XS.iloadN X0.here hx rfl (hb hby d4_20) rfl ?_
    show own_S p e below s₁ (mkF m 21 #[vi (11 : Int32)] [xi (11 : Int32)]) _
    refine XS.bipush X0.here hx rfl (hb hby d4_21) ?_
    show own_S p e below s₁ (mkF m 23 #[vi (11 : Int32)] [xi (9 : Int32), xi (11 : Int32)]) _
    refine XS.icmpYes X0.here hx rfl (pc0 := 23) (pc' := 28) rfl (hb hby d4_23) rfl (by decide) (by decide) (by decide) ?_
    show own_S p e below s₁ (mkF m 28 #[vi (11 : Int32)] []) _
    refine XS.iconst X0.here hx rfl (hb hby d4_28) ?_
    show own_S p e below s₁ (mkF m 29 #[vi (11 : Int32)] [xi (1 : Int32)]) _
    exact retN X0 hx (t := .boolean) Bd.returns (by simp) (hb hby d4_29) hr
  · exact ⟨rfl, N0, e0⟩
theorem ef_own_l11 (m : MethodId) (u0 u1 u2 u3 u4 u5 u6 u7 u8 u9 u10 u11 : Addr) (p1 : Int32) : entryFrame m #[xi p1] maxLocals = (mkF m 0 #[vi p1, vu, vu] []) := by first | (simp [entryFrame, mkF, argsToLocals, Value.category, maxLocals]; done) | rfl
set_option maxRecDepth 65536 in
set_option maxHeartbeats 40000000 in
theorem own_l11 (l : Launch) (Z : State) (a0 : Array Value) (hw : ∀ d ∈ tables_1, d.before a0 Z = true) (u0 u1 u2 u3 u4 u5 u6 u7 u8 u9 u10 u11 : Addr) (G : own_St Z u0 u1 u2 u3 u4 u5 u6 u7 u8 u9 u10 u11) (p1 : Int32) (as11 : ((p1 &&& (2147483647 : Int32)) - ((p1 &&& (2147483647 : Int32)) / (12 : Int32)) * (12 : Int32)) = (11 : Int32)) (h0 : Heap) (n0 : Nat) (O0 : Old Z n0 h0) : own_Met l Z x code maxLocals ret room_1 #[xi p1] h0 (own_QL (some (xi (1 : Int32))) n0) := by
  intro ws
  refine MetFree.of_bodySF (plainFor_of_name pn0) hisR ?_
  intro p e s m args below meth c s₁ Bd hml0 hP hK
  obtain ⟨rfl, hZ, hh⟩ := hP
  have hx := Bd.exec
  have hby := Bd.bytes
  have hml : c.maxLocals = 3 := hml0
  have hown : s.vm.findClass "com/example/mibwright/mibwright/mib/BaseTypeIsIntegerPinLaw" = some m.cls := findClass_of_methodNamed Bd.named
  have hnm := (name_of_methodNamed Bd.named Bd.method).1
  have X0 : Stand p l e room_1 s m #[xi p1] below meth c s₁ [] 0 0 := Stand.of_body Bd
  have e0 : s₁.heap = h0 := by rw [← hh, Bd.state]; rfl
  have N0 := Fr.nil n0
  have pre0 : ∀ t, Steps p.tables e below (s₁.setTop (mkF m 0 #[vi p1, vu, vu] [])) t → Steps p.tables e below (s₁.setTop (entryFrame m #[xi p1] maxLocals)) t := fun t k => castTop (ef_own_l11 m u0 u1 u2 u3 u4 u5 u6 u7 u8 u9 u10 u11 p1) k
  obtain ⟨_, _, ⟨T1, L1, k1, n1⟩, -, X1, ⟨Lc1, hQ1, l1, y1, z1⟩, st1⟩ := Jvm.LawKit.callS X0 hx (y := Y0) hown (mvT hZ (ww hw 1 rfl)) (mvT hZ (ww hw 2 rfl)) (mvT hZ (ww hw 3 rfl)) (mvT hZ (ww hw 4 rfl)) (by decide) (backOf (W := 0) (own_c44_pick l Z a0 hw u0 u1 u2 u3 u4 u5 u6 u7 u8 u9 u10 u11 G h0 n0 O0 []) hZ (ww hw 4 rfl) (ww hw 3 rfl) (by decide) (by decide)) (g := (mkF m 9 #[vi p1, vi (11 : Int32), vu] [xi (11 : Int32)])) rfl (by rw [hml]; rfl) (argsL := [xi (11 : Int32)]) (rest := []) (lenOf pd0 rfl) rfl (by show 2 * 0 + _ ≤ _; exact Nat.le_of_eq rfl) (hb hby at_9) (fun _ _ => ⟨rfl, e0, (by decide : 0 + 0 ≤ _), (by decide : 0 + 0 ≤ _)⟩)
  dsimp only [Pt.U, Pt.locs, Pt.cells, Pt.slots] at X1 l1 y1 z1 st1 hQ1
  subst l1 y1 z1
  obtain ⟨rfl, Nq1, e1⟩ := hQ1
  have N1 := Fr.app N0 Nq1
  obtain ⟨cq2, kq2, qa2, qb2, qc2⟩ := isOf hZ e1 ((own_X_u4 G).ext O0.2)
  obtain ⟨_, _, ⟨T2, L2, k2, n2⟩, -, X2, ⟨Lc2, hQ2, l2, y2, z2⟩, st2⟩ := X1.virtualBack hx (y := Y3) (z := Y3) hown (mvT hZ (ww hw 8 rfl)) (mvT hZ (ww hw 9 rfl)) (notFace_of_selects (args := #[]) (mvT hZ (ww hw 11 rfl))) (mvT hZ (ww hw 11 rfl)) (mvT hZ (ww hw 10 rfl)) (by decide) (backOf (W := 0) (own_c45_isInteger l Z a0 hw u0 u1 u2 u3 u4 u5 u6 u7 u8 u9 u10 u11 G h0 n0 O0 []) hZ (ww hw 12 rfl) (ww hw 6 rfl) (by decide) (by decide)) qa2 qc2 (g := (mkF m 14 #[vi p1, vi (11 : Int32), vr u4] [xr u4])) rfl (by rw [hml]; rfl) (Steps.refl _) (argsL := []) (rest := []) (lenOf pd2 rfl) rfl (by show 2 * 0 + _ ≤ _; exact Nat.le_of_eq rfl) (hb hby at_14) (fun _ _ => ⟨rfl, e1, (by decide : 0 + 0 ≤ _), (by decide : 0 + 0 ≤ _)⟩)
  dsimp only [Pt.U, Pt.locs, Pt.cells, Pt.slots] at X2 l2 y2 z2 st2 hQ2
  subst l2 y2 z2
  obtain ⟨rfl, Nq2, e2⟩ := hQ2
  have N2 := Fr.app N1 Nq2
  obtain ⟨_, _, ⟨T3, L3, k3, n3⟩, -, X3, ⟨Lc3, hQ3, l3, y3, z3⟩, st3⟩ := Jvm.LawKit.callS X2 hx (y := Y4) hown (mvT hZ (ww hw 22 rfl)) (mvT hZ (ww hw 23 rfl)) (mvT hZ (ww hw 3 rfl)) (mvT hZ (ww hw 24 rfl)) (by decide) (backOf (W := 1) (own_c47_holdsIntegers l Z a0 hw u0 u1 u2 u3 u4 u5 u6 u7 u8 u9 u10 u11 G h0 n0 O0 []) hZ (ww hw 24 rfl) (ww hw 3 rfl) (by decide) (by decide)) (g := (mkF m 18 #[vi p1, vi (11 : Int32), vr u4] [xi (11 : Int32), xi (1 : Int32)])) rfl (by rw [hml]; rfl) (argsL := [xi (11 : Int32)]) (rest := [xi (1 : Int32)]) (lenOf pd3 rfl) rfl (by show 2 * 0 + _ ≤ _; exact Nat.le_of_eq rfl) (hb hby at_18) (fun _ _ => ⟨rfl, e2, (by decide : 0 + 0 ≤ _), (by decide : 0 + 0 ≤ _)⟩)
  dsimp only [Pt.U, Pt.locs, Pt.cells, Pt.slots] at X3 l3 y3 z3 st3 hQ3
  subst l3 y3 z3
  obtain ⟨rfl, Nq3, e3⟩ := hQ3
  have N3 := Fr.app N2 Nq3
  obtain ⟨fs, hr, hrun, hended, hW, hsame⟩ := X3.leave (v := some (xi (1 : Int32))) (fun h => by rw [Bd.returns] at h; cases h)
  refine ⟨_, _, pre0 _ ?_, hrun, hended, _, _, rfl, ?_, ⟨_, rfl⟩, hW, hsame.mono (by decide) (by decide)⟩
  · show own_S p e below s₁ (mkF m 0 #[vi p1, vu, vu] []) _
    refine XS.iloadN X0.here hx rfl (hb hby at_0) rfl ?_
    show own_S p e below s₁ (mkF m 1 #[vi p1, vu, vu] [xi p1]) _
    refine X0.ldcI hx hown (mvT hZ (ww hw 0 rfl)) (g := (mkF m 1 #[vi p1, vu, vu] [xi p1])) rfl (hb hby at_1) ?_
    show own_S p e below s₁ (mkF m 3 #[vi p1, vu, vu] [xi (2147483647 : Int32), xi p1]) _
    refine XS.iand X0.here hx rfl (hb hby at_3) rfl ?_
    show own_S p e below s₁ (mkF m 4 #[vi p1, vu, vu] [xi (p1 &&& (2147483647 : Int32))]) _
    show own_S p e below s₁ (mkF m 4 #[vi p1, vu, vu] [xi (p1 &&& (2147483647 : Int32))]) _
    refine XS.bipush X0.here hx rfl (hb hby at_4) ?_
    show own_S p e below s₁ (mkF m 6 #[vi p1, vu, vu] [xi (12 : Int32), xi (p1 &&& (2147483647 : Int32))]) _
    refine XS.irem X0.here hx rfl (hb hby at_6) rfl (by decide) ?_
    show own_S p e below s₁ (mkF m 7 #[vi p1, vu, vu] [xi ((p1 &&& (2147483647 : Int32)) - ((p1 &&& (2147483647 : Int32)) / (12 : Int32)) * (12 : Int32))]) _
    refine castTop (show (mkF m 7 #[vi p1, vu, vu] [xi ((p1 &&& (2147483647 : Int32)) - ((p1 &&& (2147483647 : Int32)) / (12 : Int32)) * (12 : Int32))]) = (mkF m 7 #[vi p1, vu, vu] [xi (11 : Int32)]) from by rw [as11]) ?_
    show own_S p e below s₁ (mkF m 7 #[vi p1, vu, vu] [xi (11 : Int32)]) _
    refine XS.istoreN X0.here hx rfl (hb hby at_7) rfl (l' := #[vi p1, vi (11 : Int32), vu]) rfl ?_
    show own_S p e below s₁ (mkF m 8 #[vi p1, vi (11 : Int32), vu] []) _
    refine XS.iloadN X0.here hx rfl (hb hby at_8) rfl ?_
    show own_S p e below s₁ (mkF m 9 #[vi p1, vi (11 : Int32), vu] [xi (11 : Int32)]) _
    refine st1 _ ?_
    show own_S p e below T1 (mkF m 12 #[vi p1, vi (11 : Int32), vu] [xr u4]) _
    refine XS.astoreN X1.here hx rfl (hb hby at_12) rfl rfl (l' := #[vi p1, vi (11 : Int32), vr u4]) rfl ?_
    show own_S p e below T1 (mkF m 13 #[vi p1, vi (11 : Int32), vr u4] []) _
    refine XS.aloadN X1.here hx rfl (hb hby at_13) rfl rfl ?_
    show own_S p e below T1 (mkF m 14 #[vi p1, vi (11 : Int32), vr u4] [xr u4]) _
    refine st2.trans ?_
    show own_S p e below T2 (mkF m 17 #[vi p1, vi (11 : Int32), vr u4] [xi (1 : Int32)]) _
    refine XS.iloadN X2.here hx rfl (hb hby at_17) rfl ?_
    show own_S p e below T2 (mkF m 18 #[vi p1, vi (11 : Int32), vr u4] [xi (11 : Int32), xi (1 : Int32)]) _
    refine st3 _ ?_
    show own_S p e below T3 (mkF m 21 #[vi p1, vi (11 : Int32), vr u4] [xi (1 : Int32), xi (1 : Int32)]) _
    refine XS.icmpNo X3.here hx rfl (hb hby at_21) rfl (by decide) ?_
    show own_S p e below T3 (mkF m 24 #[vi p1, vi (11 : Int32), vr u4] []) _
    refine XS.iconst X3.here hx rfl (hb hby at_24) ?_
    show own_S p e below T3 (mkF m 25 #[vi p1, vi (11 : Int32), vr u4] [xi (1 : Int32)]) _
    refine XS.goto X3.here hx rfl (pc0 := 25) (pc' := 29) rfl (hb hby at_25) (by decide) (by decide) ?_
    show own_S p e below T3 (mkF m 29 #[vi p1, vi (11 : Int32), vr u4] [xi (1 : Int32)]) _
    exact retN X3 hx (t := .boolean) Bd.returns (by simp) (hb hby at_29) hr
  · exact ⟨rfl, N3⟩
theorem own_law (l : Launch) (Z : State) (a0 : Array Value) (hw : ∀ d ∈ tables_1, d.before a0 Z = true) (u0 u1 u2 u3 u4 u5 u6 u7 u8 u9 u10 u11 : Addr) (G : own_St Z u0 u1 u2 u3 u4 u5 u6 u7 u8 u9 u10 u11) (p1 : Int32) (h0 : Heap) (n0 : Nat) (O0 : Old Z n0 h0) : own_Met l Z x code maxLocals ret room_1 #[(.int p1)] h0 (own_QL (some (.int (1 : Int32))) n0) := by
  rcases own_rem12 p1 with as0 | as1 | as2 | as3 | as4 | as5 | as6 | as7 | as8 | as9 | as10 | as11
  · exact own_l0 l Z a0 hw u0 u1 u2 u3 u4 u5 u6 u7 u8 u9 u10 u11 G p1 as0 h0 n0 O0
  · exact own_l1 l Z a0 hw u0 u1 u2 u3 u4 u5 u6 u7 u8 u9 u10 u11 G p1 as1 h0 n0 O0
  · exact own_l2 l Z a0 hw u0 u1 u2 u3 u4 u5 u6 u7 u8 u9 u10 u11 G p1 as2 h0 n0 O0
  · exact own_l3 l Z a0 hw u0 u1 u2 u3 u4 u5 u6 u7 u8 u9 u10 u11 G p1 as3 h0 n0 O0
  · exact own_l4 l Z a0 hw u0 u1 u2 u3 u4 u5 u6 u7 u8 u9 u10 u11 G p1 as4 h0 n0 O0
  · exact own_l5 l Z a0 hw u0 u1 u2 u3 u4 u5 u6 u7 u8 u9 u10 u11 G p1 as5 h0 n0 O0
  · exact own_l6 l Z a0 hw u0 u1 u2 u3 u4 u5 u6 u7 u8 u9 u10 u11 G p1 as6 h0 n0 O0
  · exact own_l7 l Z a0 hw u0 u1 u2 u3 u4 u5 u6 u7 u8 u9 u10 u11 G p1 as7 h0 n0 O0
  · exact own_l8 l Z a0 hw u0 u1 u2 u3 u4 u5 u6 u7 u8 u9 u10 u11 G p1 as8 h0 n0 O0
  · exact own_l9 l Z a0 hw u0 u1 u2 u3 u4 u5 u6 u7 u8 u9 u10 u11 G p1 as9 h0 n0 O0
  · exact own_l10 l Z a0 hw u0 u1 u2 u3 u4 u5 u6 u7 u8 u9 u10 u11 G p1 as10 h0 n0 O0
  · exact own_l11 l Z a0 hw u0 u1 u2 u3 u4 u5 u6 u7 u8 u9 u10 u11 G p1 as11 h0 n0 O0
set_option maxRecDepth 65536 in
set_option maxHeartbeats 40000000 in
theorem comes_1 {Post : Tables → Env → Array Value → State → Outcome → State → Prop} (hpost : ∀ tb e args s v u, (limb_1_1.after args s (.returned v) u = true ∧ limb_1_2.after args s (.returned v) u = true ∧ True) → FrameEnd s (.returned v) u (Jvm.fieldLocs frame_1_writes args s ++ Jvm.arrayLocs frame_1_arrays args s ++ Jvm.staticLocs frame_1_statics s) 0 0 → Post tb e args s (.returned v) u) :
    ArmFor flags0 classFile x code maxLocals ret World_1 tables_1 room_1 Calls_1 rest_1 Pre_1 Post := by
  intro l hfl _ _ p e ha hc hk s m args below hf hA hF happ hP
  obtain ⟨hcalls, hrest, hpre⟩ := hP
  obtain ⟨-, -, -, hnamed, -, -, -, hat⟩ := (Spec.applies_iff hf).mp happ
  obtain ⟨hg, hn⟩ := and_e (Cond.before_iff.mp (show (Jvm.Cond.and given_1 narrow_1).before args s = true from hpre))
  obtain ⟨hcount, hg0⟩ := and_e hg
  have ga0 := hg0
  obtain ⟨w0, rfl⟩ : ∃ w0 : Value, args = #[w0] := by
    have hs : args.size = 1 := by simpa [Cond.value, given_1] using hcount
    obtain ⟨L⟩ := args
    match L, hs with
    | [w0], _ => exact ⟨w0, rfl⟩
  have hw := fun d (hd : d ∈ tables_1) => atoms_spec (ws := Jvm.Cond.code x code maxLocals ret :: tables_1) hat d (List.mem_cons_of_mem _ hd)
  have hfit : Fit s := fun {y c} hc i hi => by
    obtain ⟨ha, rfl⟩ := Array.getElem?_eq_some_iff.mp hc
    have q := List.all_eq_true.mp ((Array.all_eq_true_iff_forall_mem.mp hF) _ (Array.getElem_mem ha)) i (List.mem_range.mpr hi)
    simpa [Array.getElem?_eq_getElem hi] using q
  obtain ⟨p1, ei0⟩ := is_v ga0
  obtain rfl : w0 = (.int p1) := Option.some.inj ei0
  have hc0 := hn
  obtain ⟨ca0, hc1⟩ := and_e hc0
  obtain ⟨ca1, hc2⟩ := and_e hc1
  obtain ⟨ca2, hc3⟩ := and_e hc2
  obtain ⟨ca3, hc4⟩ := and_e hc3
  obtain ⟨ca4, hc5⟩ := and_e hc4
  obtain ⟨ca5, hc6⟩ := and_e hc5
  obtain ⟨ca6, hc7⟩ := and_e hc6
  obtain ⟨ca7, hc8⟩ := and_e hc7
  obtain ⟨ca8, hc9⟩ := and_e hc8
  obtain ⟨ca9, hc10⟩ := and_e hc9
  obtain ⟨ca10, hc11⟩ := and_e hc10
  obtain ⟨ca11, hc12⟩ := and_e hc11
  obtain ⟨ca12, hc13⟩ := and_e hc12
  obtain ⟨ca13, hc14⟩ := and_e hc13
  obtain ⟨ca14, hc15⟩ := and_e hc14
  obtain ⟨ca15, hc16⟩ := and_e hc15
  obtain ⟨ca16, hc17⟩ := and_e hc16
  obtain ⟨ca17, hc18⟩ := and_e hc17
  obtain ⟨ca18, hc19⟩ := and_e hc18
  obtain ⟨ca19, hc20⟩ := and_e hc19
  obtain ⟨ca20, hc21⟩ := and_e hc20
  obtain ⟨ca21, hc22⟩ := and_e hc21
  obtain ⟨ca22, hc23⟩ := and_e hc22
  have ca23 := hc23
  obtain ⟨u0, ev_u0⟩ := exa_v ca0
  have pX_u0 := Exa.start ev_u0 ca0
  have pS_u0 : Sta s s.heap "com/example/mibwright/mibwright/mib/BaseType" "INTEGER32" "Lcom/example/mibwright/mibwright/mib/BaseType;" (.ref u0) := Sta.start ev_u0 (Or.inr ⟨(ww hw 6 rfl), (ww hw 7 rfl)⟩)
  obtain ⟨u1, ev_u1⟩ := exa_v ca2
  have pX_u1 := Exa.start ev_u1 ca2
  have pS_u1 : Sta s s.heap "com/example/mibwright/mibwright/mib/BaseType" "OBJECT_IDENTIFIER" "Lcom/example/mibwright/mibwright/mib/BaseType;" (.ref u1) := Sta.start ev_u1 (Or.inr ⟨(ww hw 6 rfl), (ww hw 26 rfl)⟩)
  obtain ⟨u2, ev_u2⟩ := exa_v ca4
  have pX_u2 := Exa.start ev_u2 ca4
  have pS_u2 : Sta s s.heap "com/example/mibwright/mibwright/mib/BaseType" "OCTET_STRING" "Lcom/example/mibwright/mibwright/mib/BaseType;" (.ref u2) := Sta.start ev_u2 (Or.inr ⟨(ww hw 6 rfl), (ww hw 28 rfl)⟩)
  obtain ⟨u3, ev_u3⟩ := exa_v ca6
  have pX_u3 := Exa.start ev_u3 ca6
  have pS_u3 : Sta s s.heap "com/example/mibwright/mibwright/mib/BaseType" "GAUGE32" "Lcom/example/mibwright/mibwright/mib/BaseType;" (.ref u3) := Sta.start ev_u3 (Or.inr ⟨(ww hw 6 rfl), (ww hw 30 rfl)⟩)
  obtain ⟨u4, ev_u4⟩ := exa_v ca8
  have pX_u4 := Exa.start ev_u4 ca8
  have pS_u4 : Sta s s.heap "com/example/mibwright/mibwright/mib/BaseType" "UNSIGNED32" "Lcom/example/mibwright/mibwright/mib/BaseType;" (.ref u4) := Sta.start ev_u4 (Or.inr ⟨(ww hw 6 rfl), (ww hw 32 rfl)⟩)
  obtain ⟨u5, ev_u5⟩ := exa_v ca10
  have pX_u5 := Exa.start ev_u5 ca10
  have pS_u5 : Sta s s.heap "com/example/mibwright/mibwright/mib/BaseType" "BITS" "Lcom/example/mibwright/mibwright/mib/BaseType;" (.ref u5) := Sta.start ev_u5 (Or.inr ⟨(ww hw 6 rfl), (ww hw 34 rfl)⟩)
  obtain ⟨u6, ev_u6⟩ := exa_v ca12
  have pX_u6 := Exa.start ev_u6 ca12
  have pS_u6 : Sta s s.heap "com/example/mibwright/mibwright/mib/BaseType" "TIME_TICKS" "Lcom/example/mibwright/mibwright/mib/BaseType;" (.ref u6) := Sta.start ev_u6 (Or.inr ⟨(ww hw 6 rfl), (ww hw 36 rfl)⟩)
  obtain ⟨u7, ev_u7⟩ := exa_v ca14
  have pX_u7 := Exa.start ev_u7 ca14
  have pS_u7 : Sta s s.heap "com/example/mibwright/mibwright/mib/BaseType" "ENUMERATION" "Lcom/example/mibwright/mibwright/mib/BaseType;" (.ref u7) := Sta.start ev_u7 (Or.inr ⟨(ww hw 6 rfl), (ww hw 38 rfl)⟩)
  obtain ⟨u8, ev_u8⟩ := exa_v ca16
  have pX_u8 := Exa.start ev_u8 ca16
  have pS_u8 : Sta s s.heap "com/example/mibwright/mibwright/mib/BaseType" "COUNTER64" "Lcom/example/mibwright/mibwright/mib/BaseType;" (.ref u8) := Sta.start ev_u8 (Or.inr ⟨(ww hw 6 rfl), (ww hw 40 rfl)⟩)
  obtain ⟨u9, ev_u9⟩ := exa_v ca18
  have pX_u9 := Exa.start ev_u9 ca18
  have pS_u9 : Sta s s.heap "com/example/mibwright/mibwright/mib/BaseType" "OPAQUE" "Lcom/example/mibwright/mibwright/mib/BaseType;" (.ref u9) := Sta.start ev_u9 (Or.inr ⟨(ww hw 6 rfl), (ww hw 42 rfl)⟩)
  obtain ⟨u10, ev_u10⟩ := exa_v ca20
  have pX_u10 := Exa.start ev_u10 ca20
  have pS_u10 : Sta s s.heap "com/example/mibwright/mibwright/mib/BaseType" "COUNTER32" "Lcom/example/mibwright/mibwright/mib/BaseType;" (.ref u10) := Sta.start ev_u10 (Or.inr ⟨(ww hw 6 rfl), (ww hw 44 rfl)⟩)
  obtain ⟨u11, ev_u11⟩ := exa_v ca22
  have pX_u11 := Exa.start ev_u11 ca22
  have pS_u11 : Sta s s.heap "com/example/mibwright/mibwright/mib/BaseType" "IP_ADDRESS" "Lcom/example/mibwright/mibwright/mib/BaseType;" (.ref u11) := Sta.start ev_u11 (Or.inr ⟨(ww hw 6 rfl), (ww hw 46 rfl)⟩)
  have pF_u0_ordinal := own_fld ev_u0 ca1
  have pF_u1_ordinal := own_fld ev_u1 ca3
  have pF_u2_ordinal := own_fld ev_u2 ca5
  have pF_u3_ordinal := own_fld ev_u3 ca7
  have pF_u4_ordinal := own_fld ev_u4 ca9
  have pF_u5_ordinal := own_fld ev_u5 ca11
  have pF_u6_ordinal := own_fld ev_u6 ca13
  have pF_u7_ordinal := own_fld ev_u7 ca15
  have pF_u8_ordinal := own_fld ev_u8 ca17
  have pF_u9_ordinal := own_fld ev_u9 ca19
  have pF_u10_ordinal := own_fld ev_u10 ca21
  have pF_u11_ordinal := own_fld ev_u11 ca23
  have G : own_St s u0 u1 u2 u3 u4 u5 u6 u7 u8 u9 u10 u11 := ⟨pS_u0, pX_u0, pS_u1, pX_u1, pS_u2, pX_u2, pS_u3, pX_u3, pS_u4, pX_u4, pS_u5, pX_u5, pS_u6, pX_u6, pS_u7, pX_u7, pS_u8, pX_u8, pS_u9, pX_u9, pS_u10, pX_u10, pS_u11, pX_u11, pF_u0_ordinal, pF_u1_ordinal, pF_u2_ordinal, pF_u3_ordinal, pF_u4_ordinal, pF_u5_ordinal, pF_u6_ordinal, pF_u7_ordinal, pF_u8_ordinal, pF_u9_ordinal, pF_u10_ordinal, pF_u11_ordinal⟩
  obtain ⟨n, o, h1, h2, h3, _, L, rfl, ⟨rfl, N⟩, hq⟩ := own_law l s _ hw u0 u1 u2 u3 u4 u5 u6 u7 u8 u9 u10 u11 G p1 s.heap s.heap.size (Old.start s) tables_1 p e ha hc hk s m _ below hf ((Spec.applies_iff_loose hf).mp happ).1 ⟨rfl, State.Warmed39.refl s, rfl⟩ trivial
  refine ⟨n, _, h1, h2, h3, hpost _ _ _ _ _ _ ⟨Cond.after_iff.mpr rfl, Cond.after_iff.mpr (eq_i res_at (Term.int_eval (1)) rfl), trivial⟩ ⟨hq.1, hq.2.1, (hq.2.2.sift fun y hy => Or.inr (N y hy)).mono (by decide) (by decide)⟩⟩
theorem main_1_1 : Claimed_1_1 := comes_1 fun _ _ _ _ _ _ h hF => ⟨h.1, hF⟩
theorem main_1_2 : Claimed_1_2 := comes_1 fun _ _ _ _ _ _ h hF => ⟨h.2.1, hF⟩
end Jvm.Pilot.@@N@@
namespace Jvm.Pilot.@@N@@
open Jvm Jvm.ClassFile Sem Op Lib Jvm.Free Jvm.Stand Jvm.Pilot.@@N@@.Jvm.D
/-! MADE BY PROGRAM (witnessworld.py) out of the Statement's table words and the real class files: 12 classes; the members and pool entries that the words name. The judged class is class 1, her method 3. -/
namespace start1
open Jvm.ClassFile
def u (s : String) : CpInfo := .utf8 (stringToUtf16 s)
/-- a pool by its gaps: so many unusable entries, then the entry; so many at the end -/
def gap : Nat → List CpInfo → List CpInfo
  | 0, r => r
  | n + 1, r => .unusable :: gap n r
def poolList (es : List (Nat × CpInfo)) (last : Nat) : List CpInfo := es.foldr (fun e r => gap e.1 (e.2 :: r)) (gap last [])
def pool (es : List (Nat × CpInfo)) (last : Nat) : Array CpInfo := ⟨poolList es last⟩
def fileOf (pool : Array CpInfo) (this : Nat) (attrs : Array Attribute := #[]) (ms : Array MethodInfo := #[]) (fl : Nat := 33) (sup : Nat := 0) (ifs : Array Nat := #[]) (fds : Array FieldInfo := #[]) : ClassFile where
  minorVersion := 0
  majorVersion := 65
  constantPool := pool
  accessFlags := fl
  thisClass := this
  superClass := sup
  interfaces := ifs
  fields := fds
  methods := ms
  attributes := attrs
def plain (name : String) (sup : Option ClassId) : Class where
  name := name
  kind := .ordinary
  loader := none
  accessFlags := 33
  super := sup
  interfaces := #[]
  cf := none
  fields := #[]
  methods := #[]
  instanceTypes := #[]
  staticTypes := #[]
  resolved := #[]
  callSites := []
  init := .initialized
  statics := none
  mirror := none

def pool0 : Array CpInfo := pool [(5, u "<init>"), (0, u "()V"), (1, .class_ 10), (1, u "java/lang/Object")] 113

def k0m0 : Method := { name := "<init>", desc := "()V", sig := { parameters := [], returnType := none }, accessFlags := 1, code := none }
/-- java/lang/Object -/
def k0 : Class := { plain "java/lang/Object" none with
  accessFlags := 33
  interfaces := #[]
  cf := some (fileOf pool0 8 #[] #[{ accessFlags := 1, nameIndex := 5, descriptorIndex := 6, attributes := #[] }] 33 0 #[] #[])
  fields := #[]
  methods := #[k0m0]
  instanceTypes := #[]
  staticTypes := #[]
  resolved := Array.replicate 124 none
  statics := none }

def pool1 : Array CpInfo := pool [(2, .class_ 4), (1, u "java/lang/Object"), (0, u "<init>"), (0, u "()V"), (0, .fieldref 8 9), (0, .class_ 10), (0, .nameAndType 11 12), (0, u "com/example/mibwright/mibwright/mib/BaseType"), (0, u "INTEGER32"), (0, u "Lcom/example/mibwright/mibwright/mib/BaseType;"), (0, .fieldref 8 14), (0, .nameAndType 15 12), (0, u "ENUMERATION"), (0, .fieldref 8 17), (0, .nameAndType 18 12), (0, u "OCTET_STRING"), (0, .fieldref 8 20), (0, .nameAndType 21 12), (0, u "OBJECT_IDENTIFIER"), (0, .fieldref 8 23), (0, .nameAndType 24 12), (0, u "BITS"), (0, .fieldref 8 26), (0, .nameAndType 27 12), (0, u "IP_ADDRESS"), (0, .fieldref 8 29), (0, .nameAndType 30 12), (0, u "COUNTER32"), (0, .fieldref 8 32), (0, .nameAndType 33 12), (0, u "GAUGE32"), (0, .fieldref 8 35), (0, .nameAndType 36 12), (0, u "TIME_TICKS"), (0, .fieldref 8 38), (0, .nameAndType 39 12), (0, u "OPAQUE"), (0, .fieldref 8 41), (0, .nameAndType 42 12), (0, u "COUNTER64"), (0, .fieldref 8 44), (0, .nameAndType 45 12), (0, u "UNSIGNED32"), (0, .integer 2147483647), (0, .methodref 48 49), (0, .class_ 50), (0, .nameAndType 51 52), (0, u "com/example/mibwright/mibwright/mib/BaseTypeIsIntegerPinLaw"), (0, u "pick"), (0, u "(I)Lcom/example/mibwright/mibwright/mib/BaseType;"), (0, .methodref 8 54), (0, .nameAndType 55 56), (0, u "isInteger"), (0, u "()Z"), (0, .methodref 48 58), (0, .nameAndType 59 60), (0, u "holdsIntegers"), (0, u "(I)Z"), (3, u "law")] 2

def k1m0 : Method := { name := "<init>", desc := "()V", sig := { parameters := [], returnType := none }, accessFlags := 2, code := none }
def k1c1 : Code := { maxStack := 2, maxLocals := 1, code := method_2_code, exceptionTable := #[], attributes := #[] }
def k1m1 : Method := { name := "pick", desc := "(I)Lcom/example/mibwright/mibwright/mib/BaseType;", sig := { parameters := [.int], returnType := some (.object "com/example/mibwright/mibwright/mib/BaseType") }, accessFlags := 10, code := some k1c1 }
def k1c2 : Code := { maxStack := 2, maxLocals := 1, code := method_3_code, exceptionTable := #[], attributes := #[] }
def k1m2 : Method := { name := "holdsIntegers", desc := "(I)Z", sig := { parameters := [.int], returnType := some .boolean }, accessFlags := 10, code := some k1c2 }
def k1c3 : Code := { maxStack := 2, maxLocals := 3, code := code, exceptionTable := #[], attributes := #[] }
def k1m3 : Method := { name := "law", desc := "(I)Z", sig := { parameters := [.int], returnType := some .boolean }, accessFlags := 9, code := some k1c3 }
/-- com/example/mibwright/mibwright/mib/BaseTypeIsIntegerPinLaw -/
def k1 : Class := { plain "com/example/mibwright/mibwright/mib/BaseTypeIsIntegerPinLaw" (some 0) with
  accessFlags := 49
  interfaces := #[]
  cf := some (fileOf pool1 48 #[] #[{ accessFlags := 2, nameIndex := 5, descriptorIndex := 6, attributes := #[] }, { accessFlags := 10, nameIndex := 51, descriptorIndex := 52, attributes := #[] }, { accessFlags := 10, nameIndex := 59, descriptorIndex := 60, attributes := #[] }, { accessFlags := 9, nameIndex := 64, descriptorIndex := 60, attributes := #[] }] 49 2 #[] #[])
  fields := #[]
  methods := #[k1m0, k1m1, k1m2, k1m3]
  instanceTypes := #[]
  staticTypes := #[]
  resolved := Array.replicate 67 none
  statics := none }

def pool2 : Array CpInfo := pool [(1, .class_ 2), (0, u "java/lang/constant/Constable"), (0, .class_ 4), (0, u "java/lang/Object")] 6

/-- java/lang/constant/Constable -/
def k2 : Class := { plain "java/lang/constant/Constable" (some 0) with
  accessFlags := 1537
  interfaces := #[]
  cf := some (fileOf pool2 1 #[] #[] 1537 3 #[] #[])
  fields := #[]
  methods := #[]
  instanceTypes := #[]
  staticTypes := #[]
  resolved := Array.replicate 11 none
  statics := none }

def pool3 : Array CpInfo := pool [(1, .class_ 2), (0, u "java/lang/Comparable"), (0, .class_ 4), (0, u "java/lang/Object")] 7

/-- java/lang/Comparable -/
def k3 : Class := { plain "java/lang/Comparable" (some 0) with
  accessFlags := 1537
  interfaces := #[]
  cf := some (fileOf pool3 1 #[] #[] 1537 3 #[] #[])
  fields := #[]
  methods := #[]
  instanceTypes := #[]
  staticTypes := #[]
  resolved := Array.replicate 12 none
  statics := none }

def pool4 : Array CpInfo := pool [(1, .class_ 2), (0, u "java/io/Serializable"), (0, .class_ 4), (0, u "java/lang/Object")] 2

/-- java/io/Serializable -/
def k4 : Class := { plain "java/io/Serializable" (some 0) with
  accessFlags := 1537
  interfaces := #[]
  cf := some (fileOf pool4 1 #[] #[] 1537 3 #[] #[])
  fields := #[]
  methods := #[]
  instanceTypes := #[]
  staticTypes := #[]
  resolved := Array.replicate 7 none
  statics := none }

def pool5 : Array CpInfo := pool [(2, .class_ 4), (1, u "java/lang/Enum"), (0, u "name"), (0, u "Ljava/lang/String;"), (0, .fieldref 2 8), (0, .nameAndType 9 10), (0, u "ordinal"), (0, u "I"), (1, .class_ 14), (1, u "java/lang/Object"), (4, u "hash"), (86, .class_ 108), (1, u "java/lang/Enum$EnumDesc"), (2, .class_ 112), (0, u "java/lang/constant/Constable"), (0, .class_ 114), (0, u "java/lang/Comparable"), (0, .class_ 116), (0, u "java/io/Serializable"), (9, u "()I")] 77

def k5c0 : Code := { maxStack := 1, maxLocals := 1, code := jdk_37_method_2_code, exceptionTable := #[], attributes := #[] }
def k5m0 : Method := { name := "ordinal", desc := "()I", sig := { parameters := [], returnType := some .int }, accessFlags := 17, code := some k5c0 }
/-- java/lang/Enum -/
def k5 : Class := { plain "java/lang/Enum" (some 0) with
  accessFlags := 1057
  interfaces := #[2, 3, 4]
  cf := some (fileOf pool5 2 #[.nestMembers #[106]] #[{ accessFlags := 17, nameIndex := 9, descriptorIndex := 126, attributes := #[] }] 1057 12 #[111, 113, 115] #[{ accessFlags := 18, nameIndex := 5, descriptorIndex := 6, attributes := #[] }, { accessFlags := 18, nameIndex := 9, descriptorIndex := 10, attributes := #[] }, { accessFlags := 2, nameIndex := 19, descriptorIndex := 10, attributes := #[] }])
  fields := #[{ name := "name", type := (.object "java/lang/String"), accessFlags := 18, slot := 0, constantValue := 0 }, { name := "ordinal", type := .int, accessFlags := 18, slot := 1, constantValue := 0 }, { name := "hash", type := .int, accessFlags := 2, slot := 2, constantValue := 0 }]
  methods := #[k5m0]
  instanceTypes := #[(.object "java/lang/String"), .int, .int]
  staticTypes := #[]
  resolved := Array.replicate 204 none
  statics := none }

def pool6 : Array CpInfo := pool [(1, .class_ 2), (0, u "com/example/mibwright/mibwright/mib/BaseType"), (2, u "INTEGER32"), (0, u "Lcom/example/mibwright/mibwright/mib/BaseType;"), (2, u "ENUMERATION"), (2, u "OCTET_STRING"), (2, u "OBJECT_IDENTIFIER"), (2, u "BITS"), (2, u "IP_ADDRESS"), (2, u "COUNTER32"), (2, u "GAUGE32"), (2, u "TIME_TICKS"), (2, u "OPAQUE"), (2, u "COUNTER64"), (2, u "UNSIGNED32"), (2, u "$VALUES"), (0, u "[Lcom/example/mibwright/mibwright/mib/BaseType;"), (6, .class_ 52), (1, u "java/lang/Enum"), (8, u "word"), (0, u "Ljava/lang/String;"), (0, .methodref 1 64), (0, .nameAndType 65 66), (0, u "ordinal"), (0, u "()I"), (57, u "LEAST_VALUE"), (0, u "Ljava/math/BigInteger;"), (16, u "GREATEST_VALUE"), (8, u "isInteger"), (0, u "()Z")] 6

def k6c0 : Code := { maxStack := 4, maxLocals := 1, code := prog_26_method_5_code, exceptionTable := #[], attributes := #[] }
def k6m0 : Method := { name := "isInteger", desc := "()Z", sig := { parameters := [], returnType := some .boolean }, accessFlags := 1, code := some k6c0 }
/-- com/example/mibwright/mibwright/mib/BaseType -/
def k6 : Class := { plain "com/example/mibwright/mibwright/mib/BaseType" (some 5) with
  accessFlags := 16433
  interfaces := #[]
  cf := some (fileOf pool6 1 #[] #[{ accessFlags := 1, nameIndex := 151, descriptorIndex := 152, attributes := #[] }] 16433 50 #[] #[{ accessFlags := 16409, nameIndex := 5, descriptorIndex := 6, attributes := #[] }, { accessFlags := 16409, nameIndex := 9, descriptorIndex := 6, attributes := #[] }, { accessFlags := 16409, nameIndex := 12, descriptorIndex := 6, attributes := #[] }, { accessFlags := 16409, nameIndex := 15, descriptorIndex := 6, attributes := #[] }, { accessFlags := 16409, nameIndex := 18, descriptorIndex := 6, attributes := #[] }, { accessFlags := 16409, nameIndex := 21, descriptorIndex := 6, attributes := #[] }, { accessFlags := 16409, nameIndex := 24, descriptorIndex := 6, attributes := #[] }, { accessFlags := 16409, nameIndex := 27, descriptorIndex := 6, attributes := #[] }, { accessFlags := 16409, nameIndex := 30, descriptorIndex := 6, attributes := #[] }, { accessFlags := 16409, nameIndex := 33, descriptorIndex := 6, attributes := #[] }, { accessFlags := 16409, nameIndex := 36, descriptorIndex := 6, attributes := #[] }, { accessFlags := 16409, nameIndex := 39, descriptorIndex := 6, attributes := #[] }, { accessFlags := 25, nameIndex := 124, descriptorIndex := 125, attributes := #[] }, { accessFlags := 25, nameIndex := 142, descriptorIndex := 125, attributes := #[] }, { accessFlags := 18, nameIndex := 61, descriptorIndex := 62, attributes := #[] }, { accessFlags := 4122, nameIndex := 42, descriptorIndex := 43, attributes := #[] }])
  fields := #[{ name := "INTEGER32", type := (.object "com/example/mibwright/mibwright/mib/BaseType"), accessFlags := 16409, slot := 0, constantValue := 0 }, { name := "ENUMERATION", type := (.object "com/example/mibwright/mibwright/mib/BaseType"), accessFlags := 16409, slot := 1, constantValue := 0 }, { name := "OCTET_STRING", type := (.object "com/example/mibwright/mibwright/mib/BaseType"), accessFlags := 16409, slot := 2, constantValue := 0 }, { name := "OBJECT_IDENTIFIER", type := (.object "com/example/mibwright/mibwright/mib/BaseType"), accessFlags := 16409, slot := 3, constantValue := 0 }, { name := "BITS", type := (.object "com/example/mibwright/mibwright/mib/BaseType"), accessFlags := 16409, slot := 4, constantValue := 0 }, { name := "IP_ADDRESS", type := (.object "com/example/mibwright/mibwright/mib/BaseType"), accessFlags := 16409, slot := 5, constantValue := 0 }, { name := "COUNTER32", type := (.object "com/example/mibwright/mibwright/mib/BaseType"), accessFlags := 16409, slot := 6, constantValue := 0 }, { name := "GAUGE32", type := (.object "com/example/mibwright/mibwright/mib/BaseType"), accessFlags := 16409, slot := 7, constantValue := 0 }, { name := "TIME_TICKS", type := (.object "com/example/mibwright/mibwright/mib/BaseType"), accessFlags := 16409, slot := 8, constantValue := 0 }, { name := "OPAQUE", type := (.object "com/example/mibwright/mibwright/mib/BaseType"), accessFlags := 16409, slot := 9, constantValue := 0 }, { name := "COUNTER64", type := (.object "com/example/mibwright/mibwright/mib/BaseType"), accessFlags := 16409, slot := 10, constantValue := 0 }, { name := "UNSIGNED32", type := (.object "com/example/mibwright/mibwright/mib/BaseType"), accessFlags := 16409, slot := 11, constantValue := 0 }, { name := "LEAST_VALUE", type := (.object "java/math/BigInteger"), accessFlags := 25, slot := 12, constantValue := 0 }, { name := "GREATEST_VALUE", type := (.object "java/math/BigInteger"), accessFlags := 25, slot := 13, constantValue := 0 }, { name := "word", type := (.object "java/lang/String"), accessFlags := 18, slot := 3, constantValue := 0 }, { name := "$VALUES", type := (.array (.object "com/example/mibwright/mibwright/mib/BaseType")), accessFlags := 4122, slot := 14, constantValue := 0 }]
  methods := #[k6m0]
  instanceTypes := #[(.object "java/lang/String"), .int, .int, (.object "java/lang/String")]
  staticTypes := #[(.object "com/example/mibwright/mibwright/mib/BaseType"), (.object "com/example/mibwright/mibwright/mib/BaseType"), (.object "com/example/mibwright/mibwright/mib/BaseType"), (.object "com/example/mibwright/mibwright/mib/BaseType"), (.object "com/example/mibwright/mibwright/mib/BaseType"), (.object "com/example/mibwright/mibwright/mib/BaseType"), (.object "com/example/mibwright/mibwright/mib/BaseType"), (.object "com/example/mibwright/mibwright/mib/BaseType"), (.object "com/example/mibwright/mibwright/mib/BaseType"), (.object "com/example/mibwright/mibwright/mib/BaseType"), (.object "com/example/mibwright/mibwright/mib/BaseType"), (.object "com/example/mibwright/mibwright/mib/BaseType"), (.object "java/math/BigInteger"), (.object "java/math/BigInteger"), (.array (.object "com/example/mibwright/mibwright/mib/BaseType"))]
  resolved := Array.replicate 159 none
  statics := some 0 }

def pool7 : Array CpInfo := pool [(1, u "java/lang/Cloneable"), (0, .class_ 1), (0, u "java/lang/Object"), (0, .class_ 3)] 3

/-- java/lang/Cloneable -/
def k7 : Class := { plain "java/lang/Cloneable" (some 0) with
  accessFlags := 1537
  interfaces := #[]
  cf := some (fileOf pool7 2 #[] #[] 1537 4 #[] #[])
  fields := #[]
  methods := #[]
  instanceTypes := #[]
  staticTypes := #[]
  resolved := Array.replicate 8 none
  statics := none }

/-- the primitive byte -/
def k8 : Class := { plain "byte" none with kind := .primitive 'B', accessFlags := 0x411 }
/-- [B -/
def k9 : Class := { plain "[B" (some 0) with kind := .array 8 .byte, interfaces := #[7, 4], accessFlags := 1041 }

/-- the primitive int -/
def k10 : Class := { plain "int" none with kind := .primitive 'I', accessFlags := 0x411 }
/-- [I -/
def k11 : Class := { plain "[I" (some 0) with kind := .array 10 .int, interfaces := #[7, 4], accessFlags := 1041 }

def heap : Heap := #[{ cls := 6, slots := #[.ref 1, .ref 8, .ref 3, .ref 2, .ref 6, .ref 12, .ref 11, .ref 4, .ref 7, .ref 10, .ref 9, .ref 5, .null, .null, .null], vm := .statics 6 },
  { cls := 6, slots := #[.null, .int 0, .int 0, .null], vm := .none },
  { cls := 6, slots := #[.null, .int 3, .int 0, .null], vm := .none },
  { cls := 6, slots := #[.null, .int 2, .int 0, .null], vm := .none },
  { cls := 6, slots := #[.null, .int 7, .int 0, .null], vm := .none },
  { cls := 6, slots := #[.null, .int 11, .int 0, .null], vm := .none },
  { cls := 6, slots := #[.null, .int 4, .int 0, .null], vm := .none },
  { cls := 6, slots := #[.null, .int 8, .int 0, .null], vm := .none },
  { cls := 6, slots := #[.null, .int 1, .int 0, .null], vm := .none },
  { cls := 6, slots := #[.null, .int 10, .int 0, .null], vm := .none },
  { cls := 6, slots := #[.null, .int 9, .int 0, .null], vm := .none },
  { cls := 6, slots := #[.null, .int 6, .int 0, .null], vm := .none },
  { cls := 6, slots := #[.null, .int 5, .int 0, .null], vm := .none }]
def classes : Array Class := #[k0, k1, k2, k3, k4, k5, k6, k7, k8, k9, k10, k11]
def interned : List (Array UInt16 × Addr) := []
def slotsUsed : Nat := 63
def theMethod : MethodId := ⟨1, 3⟩
def args0 : Array Value := #[.int 5]
def aboutOver (below : List Frame) : State where
  vm := { classes := classes, interned := interned.toArray }
  heap := heap
  slotsUsed := slotsUsed
  threads := #[{ frames := .invoking theMethod args0 :: below }]
def below0 : List Frame := [.native { method := ⟨0, 0⟩, args := #[] }]
def about1 : State := aboutOver below0
def p0 : Program := .bare "" "" ""
def e0 : Env := launch0.env 0 0 0
theorem w_frames : about1.frames = Frame.invoking theMethod args0 :: below0 := rfl
set_option maxRecDepth 65536 in
theorem w_args : argsFit about1.vm theMethod args0 = true := by decide +kernel
set_option maxRecDepth 65536 in
theorem w_heap : heapFits about1 = true := by decide +kernel
set_option maxRecDepth 65536 in
theorem w_runnable : about1.curStatus? = some .runnable := by decide +kernel
set_option maxRecDepth 65536 in
theorem w_alone : about1.alone = true := by decide +kernel
set_option maxRecDepth 65536 in
theorem w_named : about1.methodNamed? x = some theMethod := by decide +kernel
set_option maxRecDepth 65536 in
theorem w_hears : about1.hears theMethod below0 = true := by decide +kernel
set_option maxRecDepth 65536 in
theorem w_ripe : about1.ripe theMethod args0 below0 = true := by decide +kernel
theorem w_running : about1.status = .running := rfl
set_option maxRecDepth 65536 in
theorem w_room : about1.hasRoom e0.platform room_1 = true :=
  launch0.hasRoom_least _ room_1 (by decide +kernel) (by decide +kernel) (by decide +kernel) (by decide +kernel) (by decide +kernel) (by decide +kernel)
theorem allAtoms_all (ts : List Jvm.Cond) (a : Array Jvm.Value) (st : Jvm.State) : (allAtoms ts).before a st = ts.all (fun c => c.before a st) := by
  induction ts with
  | nil => rfl
  | cons c t ih =>
    show (Jvm.Cond.and c (allAtoms t)).before a st = _
    rw [Jvm.Cond.before_and, ih, List.all_cons]
def words1 : List Jvm.Cond := Jvm.Cond.code x code maxLocals ret :: tables_1
/-- a 'code' word, met by the world's own term for the bytes: nothing is compared byte by byte -/
theorem code_word {y : MethodName} {bytes : ByteArray} {mx : Nat} {rt : Option FieldType} {a : Array Value} {s : State} {m : MethodId} {meth : Method} {c : Code} (h1 : s.methodNamed? y = some m) (h2 : s.vm.method? m = some meth) (h3 : meth.code = some c) (h4 : c.code = bytes)
    (h5 : (c.maxLocals == mx && c.exceptionTable.isEmpty && decide (c.maxStack ≤ mostOperands) && decide (meth.sig.returnType = rt) && !meth.locks && decide (parseMethodDescriptor y.desc = some meth.sig)) = true) : (Jvm.Cond.code y bytes mx rt).before a s = true := by
  simp only [Bool.and_eq_true, beq_iff_eq, Bool.not_eq_true', decide_eq_true_eq] at h5
  obtain ⟨⟨⟨⟨⟨g1, g2⟩, g3⟩, g4⟩, g5⟩, g6⟩ := h5
  simp [Cond.before, Cond.holds, Cond.value, h1, h2, h3, h4, g1, g2, g3, g4, g5, g6]
def isCode : Jvm.Cond → Bool
  | .code _ _ _ _ => true
  | _ => false
theorem all_split {L : List Jvm.Cond} {P : Jvm.Cond → Bool} (h1 : L.all (fun c => isCode c || P c) = true) (h2 : ∀ c ∈ L.filter isCode, P c = true) : L.all P = true := by
  refine List.all_eq_true.mpr fun c hc => ?_
  have h := List.all_eq_true.mp h1 c hc
  rcases Bool.eq_false_or_eq_true (isCode c) with hi | hi
  · exact h2 c (List.mem_filter.mpr ⟨hc, hi⟩)
  · simpa [hi] using h
set_option maxRecDepth 65536 in
theorem w_c0 : (Jvm.Cond.code x code maxLocals ret).before args0 about1 = true := code_word (m := ⟨1, 3⟩) (meth := k1m3) (c := k1c3) (by decide +kernel) rfl rfl rfl (by decide +kernel)
set_option maxRecDepth 65536 in
theorem w_c1 : (Jvm.Cond.code ({ cls := "com/example/mibwright/mibwright/mib/BaseTypeIsIntegerPinLaw", name := "pick", desc := "(I)Lcom/example/mibwright/mibwright/mib/BaseType;" } : Jvm.MethodName) method_2_code (1 : Nat) (Option.some (Jvm.ClassFile.FieldType.object "com/example/mibwright/mibwright/mib/BaseType"))).before args0 about1 = true := code_word (m := ⟨1, 1⟩) (meth := k1m1) (c := k1c1) (by decide +kernel) rfl rfl rfl (by decide +kernel)
set_option maxRecDepth 65536 in
theorem w_c2 : (Jvm.Cond.code ({ cls := "com/example/mibwright/mibwright/mib/BaseType", name := "isInteger", desc := "()Z" } : Jvm.MethodName) prog_26_method_5_code (1 : Nat) (Option.some Jvm.ClassFile.FieldType.boolean)).before args0 about1 = true := code_word (m := ⟨6, 0⟩) (meth := k6m0) (c := k6c0) (by decide +kernel) rfl rfl rfl (by decide +kernel)
set_option maxRecDepth 65536 in
theorem w_c3 : (Jvm.Cond.code ({ cls := "java/lang/Enum", name := "ordinal", desc := "()I" } : Jvm.MethodName) jdk_37_method_2_code (1 : Nat) (Option.some Jvm.ClassFile.FieldType.int)).before args0 about1 = true := code_word (m := ⟨5, 0⟩) (meth := k5m0) (c := k5c0) (by decide +kernel) rfl rfl rfl (by decide +kernel)
set_option maxRecDepth 65536 in
theorem w_c4 : (Jvm.Cond.code ({ cls := "com/example/mibwright/mibwright/mib/BaseTypeIsIntegerPinLaw", name := "holdsIntegers", desc := "(I)Z" } : Jvm.MethodName) method_3_code (1 : Nat) (Option.some Jvm.ClassFile.FieldType.boolean)).before args0 about1 = true := code_word (m := ⟨1, 2⟩) (meth := k1m2) (c := k1c2) (by decide +kernel) rfl rfl rfl (by decide +kernel)
def codes1 : List Jvm.Cond := [Jvm.Cond.code x code maxLocals ret, Jvm.Cond.code ({ cls := "com/example/mibwright/mibwright/mib/BaseTypeIsIntegerPinLaw", name := "pick", desc := "(I)Lcom/example/mibwright/mibwright/mib/BaseType;" } : Jvm.MethodName) method_2_code (1 : Nat) (Option.some (Jvm.ClassFile.FieldType.object "com/example/mibwright/mibwright/mib/BaseType")), Jvm.Cond.code ({ cls := "com/example/mibwright/mibwright/mib/BaseType", name := "isInteger", desc := "()Z" } : Jvm.MethodName) prog_26_method_5_code (1 : Nat) (Option.some Jvm.ClassFile.FieldType.boolean), Jvm.Cond.code ({ cls := "java/lang/Enum", name := "ordinal", desc := "()I" } : Jvm.MethodName) jdk_37_method_2_code (1 : Nat) (Option.some Jvm.ClassFile.FieldType.int), Jvm.Cond.code ({ cls := "com/example/mibwright/mibwright/mib/BaseTypeIsIntegerPinLaw", name := "holdsIntegers", desc := "(I)Z" } : Jvm.MethodName) method_3_code (1 : Nat) (Option.some Jvm.ClassFile.FieldType.boolean)]
set_option maxRecDepth 65536 in
theorem codes_eq : words1.filter isCode = codes1 := rfl
theorem w_codes : ∀ c ∈ words1.filter isCode, c.before args0 about1 = true := by
  rw [codes_eq]
  intro c hc
  simp only [codes1, List.mem_cons, List.not_mem_nil, or_false] at hc
  rcases hc with rfl | rfl | rfl | rfl | rfl
  · exact w_c0
  · exact w_c1
  · exact w_c2
  · exact w_c3
  · exact w_c4
set_option maxRecDepth 65536 in
theorem w_t1 : (words1.take 24).all (fun c => isCode c || c.before args0 about1) = true := by decide +kernel
set_option maxRecDepth 65536 in
theorem w_t2 : (words1.drop 24).all (fun c => isCode c || c.before args0 about1) = true := by decide +kernel
theorem w_tables : (allAtoms (Jvm.Cond.code x code maxLocals ret :: tables_1)).before args0 about1 = true := by
  rw [allAtoms_all]
  show words1.all (fun c => c.before args0 about1) = true
  refine all_split ?_ w_codes
  rw [← List.take_append_drop 24 words1, List.all_append, w_t1, w_t2]
  rfl
set_option maxRecDepth 65536 in
theorem w_case : (Jvm.Cond.and given_1 narrow_1).before args0 about1 = true := by decide +kernel
theorem w_applies : (headSpec (Jvm.Cond.code x code maxLocals ret :: tables_1) room_1).applies x e0.platform about1 = true :=
  (Spec.applies_iff w_frames).mpr ⟨w_running, w_runnable, w_alone, w_named, w_hears, w_ripe, w_room, w_tables⟩
theorem atStart : AtStart classFile x code maxLocals ret World_1 tables_1 room_1 Calls_1 rest_1 Pre_1 launch0 p0 e0 about1 theMethod args0 below0 :=
  ⟨lists_1, trivial, launch0.admits_env _ _ _, launch0.least_env, fairChoices_fair.cas, fairChoices_fair.clock, w_frames, w_args, w_heap, w_applies, trivial, trivial, w_case⟩
end start1
theorem witness_1 : WitnessClaimed_1 := ⟨start1.p0, start1.e0, start1.about1, start1.theMethod, start1.args0, start1.below0, start1.atStart⟩
end Jvm.Pilot.@@N@@
