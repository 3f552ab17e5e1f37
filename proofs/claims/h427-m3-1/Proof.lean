import JvmDerived
import JvmDerived.Pilot.@@N@@Statement
import JvmDerived.Pilot.@@N@@Code
set_option linter.unusedVariables false
set_option linter.unusedSimpArgs false
namespace Jvm.RoadKit
open Sem ClassFile Op Lib Jvm.Stand Jvm.Free Jvm.LawKit
section New
variable {p : Program} {l : Launch} {e : Env} {R : Room} {s : State} {m : MethodId} {args : Array Value} {below : List Frame} {meth : Method} {c : Code} {T : State} {locs : List Loc} {cells slots : Nat}
theorem retI (X : Stand p l e R s m args below meth c T locs cells slots) (hx : p.tables.exec = Jvm.exec) {pc : Nat} {Ls : Array Slot} {z : Int32} {rest : List Value} (hret : meth.sig.returnType = some .int) (hd : decode c.code pc = .ok (.ireturn, 1)) {fs : List Frame}
    (hl : ∀ (f : JFrame) (acts : List Action), f.method = m → f.locked = none → f.entered = [] → (doReturn e (T.setTop f) acts (some (.int z))).1 = T.setFrames fs) : Steps p.tables e below (T.setTop (mkF m pc Ls (.int z :: rest))) (T.setFrames fs) := by
  have hm' : T.vm.method? m = some meth := X.method'
  have hn : narrow .int (.int z) = .int z := rfl
  show Steps p.tables e below (T.setTop { method := m, pc := pc, locals := Ls, stack := _ :: rest, locked := none }) _
  jvm_step X.here [X.here.top, hx, hd, hm', hret, hn]
  first | (intro acts; rw [hl _ acts rfl rfl rfl]) | rw [hl _ _ rfl rfl rfl]
  exact Steps.refl _
end New
end Jvm.RoadKit
namespace Jvm.Pilot.@@N@@
open Jvm Jvm.ClassFile Sem Op Lib Jvm.Free Jvm.Stand Jvm.LawKit Jvm.RoadKit Bundle Jvm.Pilot.@@N@@.Jvm.D
theorem ww {a0 : Array Value} {Z : State} (hw : ∀ d ∈ tables_1, d.before a0 Z = true) (i : Nat) {d : Jvm.Cond} (h : tables_1[i]? = some d) : d.before a0 Z = true := hw d (List.mem_of_getElem? h)
abbrev vi (x : Int32) : Slot := .val (.int x)
abbrev vj (x : Int64) : Slot := .val (.long x)
abbrev vr (x : Addr) : Slot := .val (.ref x)
abbrev vn : Slot := .val .null
abbrev vu : Slot := .unset
abbrev xi (x : Int32) : Value := .int x
abbrev xj (x : Int64) : Value := .long x
abbrev xr (x : Addr) : Value := .ref x
abbrev own_S (p : Program) (e : Env) (below : List Frame) (T : State) (g : JFrame) (t : State) : Prop := Steps p.tables e below (T.setTop g) t
/-- a body's contract: at these arguments and this heap it returns as Q says -/
abbrev own_Met (l : Launch) (Z : State) (y : MethodName) (bytes : ByteArray) (maxL : Nat) (rt : Option FieldType) (rm : Room) (as' : Array Value) (h0 : Heap) (Qy : Option Value → Heap → List Loc → Prop) : Prop :=
  ∀ ws : List Jvm.Cond, MetFree l y (head1 (Jvm.Cond.code y bytes maxL rt :: ws) rm) (fun a U => a = as' ∧ Z.Warmed39 U.vm ∧ U.heap = h0) (fun _ _ _ _ _ => True) (fun _ U o U' => ∃ v L, o = .returned v ∧ Qy v U'.heap L ∧ FrameEnd U o U' L rm.cells rm.slots)
/-- it returns r and leaves the heap -/
def own_QR (r : Option Value) (h0 : Heap) (n0 : Nat) (v : Option Value) (h : Heap) (L : List Loc) : Prop := v = r ∧ Fr n0 L ∧ h = h0
/-- it returns r and writes nothing that stood at the start -/
def own_QL (r : Option Value) (n0 : Nat) (v : Option Value) (h : Heap) (L : List Loc) : Prop := v = r ∧ Fr n0 L
theorem own_le {Z : State} {n0 : Nat} {h : Heap} (O : Old Z n0 h) : n0 ≤ h.size := O.1 ▸ O.2.1
theorem own_fresh {Z : State} {n0 : Nat} {h : Heap} {a : Addr} (O : Old Z n0 h) (g : a = h.size) : n0 ≤ a := g ▸ own_le O
theorem own_fld {s : State} {args : Array Value} {t : Term} {C n d : String} {a : Addr} {k : Int32} (ht : t.eval args s none [] s = some (.ref a)) (h : (Jvm.Cond.eq (.field t C n d) (.int k)).value args s none s [] = some true) : Fld s s.heap a C n d (.int k) := by
  refine Fld.start ?_
  simp only [Cond.value, Term.eval, ht] at h
  cases hv : s.fieldOf? a C n d with
  | none => simp [hv] at h
  | some v => cases v <;> simp [hv] at h; subst h; rfl
theorem own_fldN {s : State} {args : Array Value} {t : Term} {C n d : String} {a : Addr} (ht : t.eval args s none [] s = some (.ref a)) (h : (Jvm.Cond.eq (.field t C n d) .null).value args s none s [] = some true) : Fld s s.heap a C n d .null :=
  Fld.start ((fld_at ht).symm.trans (null_v h))
theorem own_fldX {s : State} {args : Array Value} {t : Term} {C n d K : String} {a : Addr} (ht : t.eval args s none [] s = some (.ref a)) (h : (Jvm.Cond.exactly (.field t C n d) K).value args s none s [] = some true) : ∃ b, Fld s s.heap a C n d (.ref b) ∧ Exa s s.heap b K := by
  obtain ⟨b, eb⟩ := exa_v h
  exact ⟨b, Fld.start ((fld_at ht).symm.trans eb), Exa.start eb h⟩
theorem own_len {s : State} {args : Array Value} {t : Term} {a : Addr} {cl : Cell} {ty : FieldType} {k : Int32} {k' : Nat} (ht : t.eval args s none [] s = some (.ref a)) (A : Arr s s.heap a cl ty) (h : (Jvm.Cond.eq (.length t) (.int k)).value args s none s [] = some true) (hk : k.toInt = k') : cl.slots.size = k' := by
  obtain ⟨v, hv⟩ : ∃ v, (Term.length t).eval args s none [] s = some v := by
    cases hq : (Term.length t).eval args s none [] s with
    | none => simp [Cond.value, hq] at h
    | some v => exact ⟨v, rfl⟩
  have ha : s.arrayAt? a = some cl := Arr.fin (Vm.Alike.refl _) A
  by_cases hl : cl.slots.size < 2 ^ 31
  · rw [len_f ht ha hl] at hv
    have h2 := len_f ht ha hl
    have h3 : cl.slots.size.toInt32 = k := gotT (Cond.eq_ints h2 (Term.int_eval k)) h
    have h4 := len_toInt hl
    rw [h3, hk] at h4
    omega
  · simp [Term.eval, ht, ha, hl] at hv
theorem own_ref {x y : Addr} (h : x ≠ y) : decide ((Value.ref x : Value) = .ref y) = false := by simp [h]
theorem own_mask (x : Int32) : 0 ≤ (x &&& (2147483647 : Int32)).toInt := by
  have := c_mask x 2147483647 31 (by decide) (by decide); omega
theorem wj {a0 : Array Value} {Z : State} (hj : ∀ d ∈ jdkStatics_1, d.before a0 Z = true) (i : Nat) {d : Jvm.Cond} (h : jdkStatics_1[i]? = some d) : d.before a0 Z = true := hj d (List.mem_of_getElem? h)
def own_St (Z : State) {a0 : Array Value} (hj : ∀ d ∈ jdkStatics_1, d.before a0 Z = true) (u0 u1 u2 u3 u4 u5 u6 u7 u8 u9 u10 u11 u12 u13 : Addr) (ki0 : Int32) : Prop := (Sta Z Z.heap "com/example/feedwright/feedwright/Level" "WARN" "Lcom/example/feedwright/feedwright/Level;" (.ref u0)) ∧ (Exa Z Z.heap u0 "com/example/feedwright/feedwright/Level") ∧ (Sta Z Z.heap "com/example/feedwright/feedwright/Rule" "PRICE" "Lcom/example/feedwright/feedwright/Rule;" (.ref u1)) ∧ (Exa Z Z.heap u1 "com/example/feedwright/feedwright/Rule") ∧ (Sta Z Z.heap "com/example/feedwright/feedwright/Level" "REFUSE" "Lcom/example/feedwright/feedwright/Level;" (.ref u2)) ∧ (Exa Z Z.heap u2 "com/example/feedwright/feedwright/Level") ∧ (Sta Z Z.heap "com/example/feedwright/feedwright/Rule" "BOOLEAN" "Lcom/example/feedwright/feedwright/Rule;" (.ref u3)) ∧ (Exa Z Z.heap u3 "com/example/feedwright/feedwright/Rule") ∧ (Sta Z Z.heap "com/example/feedwright/feedwright/Rule" "DUPLICATE_ID" "Lcom/example/feedwright/feedwright/Rule;" (.ref u4)) ∧ (Exa Z Z.heap u4 "com/example/feedwright/feedwright/Rule") ∧ (Sta Z Z.heap "com/example/feedwright/feedwright/Rule" "COUNTRY" "Lcom/example/feedwright/feedwright/Rule;" (.ref u5)) ∧ (Exa Z Z.heap u5 "com/example/feedwright/feedwright/Rule") ∧ (Sta Z Z.heap "com/example/feedwright/feedwright/Rule" "GTIN" "Lcom/example/feedwright/feedwright/Rule;" (.ref u6)) ∧ (Exa Z Z.heap u6 "com/example/feedwright/feedwright/Rule") ∧ (Sta Z Z.heap "com/example/feedwright/feedwright/Rule" "MAX_LENGTH" "Lcom/example/feedwright/feedwright/Rule;" (.ref u7)) ∧ (Exa Z Z.heap u7 "com/example/feedwright/feedwright/Rule") ∧ (Sta Z Z.heap "com/example/feedwright/feedwright/Rule" "URL" "Lcom/example/feedwright/feedwright/Rule;" (.ref u8)) ∧ (Exa Z Z.heap u8 "com/example/feedwright/feedwright/Rule") ∧ (Sta Z Z.heap "com/example/feedwright/feedwright/Rule" "REQUIRED" "Lcom/example/feedwright/feedwright/Rule;" (.ref u9)) ∧ (Exa Z Z.heap u9 "com/example/feedwright/feedwright/Rule") ∧ (Sta Z Z.heap "com/example/feedwright/feedwright/Rule" "ENUM" "Lcom/example/feedwright/feedwright/Rule;" (.ref u10)) ∧ (Exa Z Z.heap u10 "com/example/feedwright/feedwright/Rule") ∧ (Sta Z Z.heap "com/example/feedwright/feedwright/Rule" "NONZERO" "Lcom/example/feedwright/feedwright/Rule;" (.ref u11)) ∧ (Exa Z Z.heap u11 "com/example/feedwright/feedwright/Rule") ∧ (Sta Z Z.heap "com/example/feedwright/feedwright/Rule" "KEPT" "Lcom/example/feedwright/feedwright/Rule;" (.ref u12)) ∧ (Exa Z Z.heap u12 "com/example/feedwright/feedwright/Rule") ∧ (Sta Z Z.heap "com/example/feedwright/feedwright/Rule" "DECIMAL" "Lcom/example/feedwright/feedwright/Rule;" (.ref u13)) ∧ (Exa Z Z.heap u13 "com/example/feedwright/feedwright/Rule") ∧ (Sta Z Z.heap "java/lang/String" "COMPACT_STRINGS" "Z" (.int ki0)) ∧ (¬ ki0 = (0 : Int32)) ∧ (Fld Z Z.heap u0 "java/lang/Enum" "ordinal" "I" (.int (1 : Int32))) ∧ (Fld Z Z.heap u2 "java/lang/Enum" "ordinal" "I" (.int (0 : Int32)))
theorem own_S_u0 {Z : State} {a0 : Array Value} {hj : ∀ d ∈ jdkStatics_1, d.before a0 Z = true} {u0 u1 u2 u3 u4 u5 u6 u7 u8 u9 u10 u11 u12 u13 : Addr} {ki0 : Int32} (G : own_St Z hj u0 u1 u2 u3 u4 u5 u6 u7 u8 u9 u10 u11 u12 u13 ki0) : Sta Z Z.heap "com/example/feedwright/feedwright/Level" "WARN" "Lcom/example/feedwright/feedwright/Level;" (.ref u0) := G.1
theorem own_X_u0 {Z : State} {a0 : Array Value} {hj : ∀ d ∈ jdkStatics_1, d.before a0 Z = true} {u0 u1 u2 u3 u4 u5 u6 u7 u8 u9 u10 u11 u12 u13 : Addr} {ki0 : Int32} (G : own_St Z hj u0 u1 u2 u3 u4 u5 u6 u7 u8 u9 u10 u11 u12 u13 ki0) : Exa Z Z.heap u0 "com/example/feedwright/feedwright/Level" := G.2.1
theorem own_S_u1 {Z : State} {a0 : Array Value} {hj : ∀ d ∈ jdkStatics_1, d.before a0 Z = true} {u0 u1 u2 u3 u4 u5 u6 u7 u8 u9 u10 u11 u12 u13 : Addr} {ki0 : Int32} (G : own_St Z hj u0 u1 u2 u3 u4 u5 u6 u7 u8 u9 u10 u11 u12 u13 ki0) : Sta Z Z.heap "com/example/feedwright/feedwright/Rule" "PRICE" "Lcom/example/feedwright/feedwright/Rule;" (.ref u1) := G.2.2.1
theorem own_X_u1 {Z : State} {a0 : Array Value} {hj : ∀ d ∈ jdkStatics_1, d.before a0 Z = true} {u0 u1 u2 u3 u4 u5 u6 u7 u8 u9 u10 u11 u12 u13 : Addr} {ki0 : Int32} (G : own_St Z hj u0 u1 u2 u3 u4 u5 u6 u7 u8 u9 u10 u11 u12 u13 ki0) : Exa Z Z.heap u1 "com/example/feedwright/feedwright/Rule" := G.2.2.2.1
theorem own_S_u2 {Z : State} {a0 : Array Value} {hj : ∀ d ∈ jdkStatics_1, d.before a0 Z = true} {u0 u1 u2 u3 u4 u5 u6 u7 u8 u9 u10 u11 u12 u13 : Addr} {ki0 : Int32} (G : own_St Z hj u0 u1 u2 u3 u4 u5 u6 u7 u8 u9 u10 u11 u12 u13 ki0) : Sta Z Z.heap "com/example/feedwright/feedwright/Level" "REFUSE" "Lcom/example/feedwright/feedwright/Level;" (.ref u2) := G.2.2.2.2.1
theorem own_X_u2 {Z : State} {a0 : Array Value} {hj : ∀ d ∈ jdkStatics_1, d.before a0 Z = true} {u0 u1 u2 u3 u4 u5 u6 u7 u8 u9 u10 u11 u12 u13 : Addr} {ki0 : Int32} (G : own_St Z hj u0 u1 u2 u3 u4 u5 u6 u7 u8 u9 u10 u11 u12 u13 ki0) : Exa Z Z.heap u2 "com/example/feedwright/feedwright/Level" := G.2.2.2.2.2.1
theorem own_S_u3 {Z : State} {a0 : Array Value} {hj : ∀ d ∈ jdkStatics_1, d.before a0 Z = true} {u0 u1 u2 u3 u4 u5 u6 u7 u8 u9 u10 u11 u12 u13 : Addr} {ki0 : Int32} (G : own_St Z hj u0 u1 u2 u3 u4 u5 u6 u7 u8 u9 u10 u11 u12 u13 ki0) : Sta Z Z.heap "com/example/feedwright/feedwright/Rule" "BOOLEAN" "Lcom/example/feedwright/feedwright/Rule;" (.ref u3) := G.2.2.2.2.2.2.1
theorem own_X_u3 {Z : State} {a0 : Array Value} {hj : ∀ d ∈ jdkStatics_1, d.before a0 Z = true} {u0 u1 u2 u3 u4 u5 u6 u7 u8 u9 u10 u11 u12 u13 : Addr} {ki0 : Int32} (G : own_St Z hj u0 u1 u2 u3 u4 u5 u6 u7 u8 u9 u10 u11 u12 u13 ki0) : Exa Z Z.heap u3 "com/example/feedwright/feedwright/Rule" := G.2.2.2.2.2.2.2.1
theorem own_S_u4 {Z : State} {a0 : Array Value} {hj : ∀ d ∈ jdkStatics_1, d.before a0 Z = true} {u0 u1 u2 u3 u4 u5 u6 u7 u8 u9 u10 u11 u12 u13 : Addr} {ki0 : Int32} (G : own_St Z hj u0 u1 u2 u3 u4 u5 u6 u7 u8 u9 u10 u11 u12 u13 ki0) : Sta Z Z.heap "com/example/feedwright/feedwright/Rule" "DUPLICATE_ID" "Lcom/example/feedwright/feedwright/Rule;" (.ref u4) := G.2.2.2.2.2.2.2.2.1
theorem own_X_u4 {Z : State} {a0 : Array Value} {hj : ∀ d ∈ jdkStatics_1, d.before a0 Z = true} {u0 u1 u2 u3 u4 u5 u6 u7 u8 u9 u10 u11 u12 u13 : Addr} {ki0 : Int32} (G : own_St Z hj u0 u1 u2 u3 u4 u5 u6 u7 u8 u9 u10 u11 u12 u13 ki0) : Exa Z Z.heap u4 "com/example/feedwright/feedwright/Rule" := G.2.2.2.2.2.2.2.2.2.1
theorem own_S_u5 {Z : State} {a0 : Array Value} {hj : ∀ d ∈ jdkStatics_1, d.before a0 Z = true} {u0 u1 u2 u3 u4 u5 u6 u7 u8 u9 u10 u11 u12 u13 : Addr} {ki0 : Int32} (G : own_St Z hj u0 u1 u2 u3 u4 u5 u6 u7 u8 u9 u10 u11 u12 u13 ki0) : Sta Z Z.heap "com/example/feedwright/feedwright/Rule" "COUNTRY" "Lcom/example/feedwright/feedwright/Rule;" (.ref u5) := G.2.2.2.2.2.2.2.2.2.2.1
theorem own_X_u5 {Z : State} {a0 : Array Value} {hj : ∀ d ∈ jdkStatics_1, d.before a0 Z = true} {u0 u1 u2 u3 u4 u5 u6 u7 u8 u9 u10 u11 u12 u13 : Addr} {ki0 : Int32} (G : own_St Z hj u0 u1 u2 u3 u4 u5 u6 u7 u8 u9 u10 u11 u12 u13 ki0) : Exa Z Z.heap u5 "com/example/feedwright/feedwright/Rule" := G.2.2.2.2.2.2.2.2.2.2.2.1
theorem own_S_u6 {Z : State} {a0 : Array Value} {hj : ∀ d ∈ jdkStatics_1, d.before a0 Z = true} {u0 u1 u2 u3 u4 u5 u6 u7 u8 u9 u10 u11 u12 u13 : Addr} {ki0 : Int32} (G : own_St Z hj u0 u1 u2 u3 u4 u5 u6 u7 u8 u9 u10 u11 u12 u13 ki0) : Sta Z Z.heap "com/example/feedwright/feedwright/Rule" "GTIN" "Lcom/example/feedwright/feedwright/Rule;" (.ref u6) := G.2.2.2.2.2.2.2.2.2.2.2.2.1
theorem own_X_u6 {Z : State} {a0 : Array Value} {hj : ∀ d ∈ jdkStatics_1, d.before a0 Z = true} {u0 u1 u2 u3 u4 u5 u6 u7 u8 u9 u10 u11 u12 u13 : Addr} {ki0 : Int32} (G : own_St Z hj u0 u1 u2 u3 u4 u5 u6 u7 u8 u9 u10 u11 u12 u13 ki0) : Exa Z Z.heap u6 "com/example/feedwright/feedwright/Rule" := G.2.2.2.2.2.2.2.2.2.2.2.2.2.1
theorem own_S_u7 {Z : State} {a0 : Array Value} {hj : ∀ d ∈ jdkStatics_1, d.before a0 Z = true} {u0 u1 u2 u3 u4 u5 u6 u7 u8 u9 u10 u11 u12 u13 : Addr} {ki0 : Int32} (G : own_St Z hj u0 u1 u2 u3 u4 u5 u6 u7 u8 u9 u10 u11 u12 u13 ki0) : Sta Z Z.heap "com/example/feedwright/feedwright/Rule" "MAX_LENGTH" "Lcom/example/feedwright/feedwright/Rule;" (.ref u7) := G.2.2.2.2.2.2.2.2.2.2.2.2.2.2.1
theorem own_X_u7 {Z : State} {a0 : Array Value} {hj : ∀ d ∈ jdkStatics_1, d.before a0 Z = true} {u0 u1 u2 u3 u4 u5 u6 u7 u8 u9 u10 u11 u12 u13 : Addr} {ki0 : Int32} (G : own_St Z hj u0 u1 u2 u3 u4 u5 u6 u7 u8 u9 u10 u11 u12 u13 ki0) : Exa Z Z.heap u7 "com/example/feedwright/feedwright/Rule" := G.2.2.2.2.2.2.2.2.2.2.2.2.2.2.2.1
theorem own_S_u8 {Z : State} {a0 : Array Value} {hj : ∀ d ∈ jdkStatics_1, d.before a0 Z = true} {u0 u1 u2 u3 u4 u5 u6 u7 u8 u9 u10 u11 u12 u13 : Addr} {ki0 : Int32} (G : own_St Z hj u0 u1 u2 u3 u4 u5 u6 u7 u8 u9 u10 u11 u12 u13 ki0) : Sta Z Z.heap "com/example/feedwright/feedwright/Rule" "URL" "Lcom/example/feedwright/feedwright/Rule;" (.ref u8) := G.2.2.2.2.2.2.2.2.2.2.2.2.2.2.2.2.1
theorem own_X_u8 {Z : State} {a0 : Array Value} {hj : ∀ d ∈ jdkStatics_1, d.before a0 Z = true} {u0 u1 u2 u3 u4 u5 u6 u7 u8 u9 u10 u11 u12 u13 : Addr} {ki0 : Int32} (G : own_St Z hj u0 u1 u2 u3 u4 u5 u6 u7 u8 u9 u10 u11 u12 u13 ki0) : Exa Z Z.heap u8 "com/example/feedwright/feedwright/Rule" := G.2.2.2.2.2.2.2.2.2.2.2.2.2.2.2.2.2.1
theorem own_S_u9 {Z : State} {a0 : Array Value} {hj : ∀ d ∈ jdkStatics_1, d.before a0 Z = true} {u0 u1 u2 u3 u4 u5 u6 u7 u8 u9 u10 u11 u12 u13 : Addr} {ki0 : Int32} (G : own_St Z hj u0 u1 u2 u3 u4 u5 u6 u7 u8 u9 u10 u11 u12 u13 ki0) : Sta Z Z.heap "com/example/feedwright/feedwright/Rule" "REQUIRED" "Lcom/example/feedwright/feedwright/Rule;" (.ref u9) := G.2.2.2.2.2.2.2.2.2.2.2.2.2.2.2.2.2.2.1
theorem own_X_u9 {Z : State} {a0 : Array Value} {hj : ∀ d ∈ jdkStatics_1, d.before a0 Z = true} {u0 u1 u2 u3 u4 u5 u6 u7 u8 u9 u10 u11 u12 u13 : Addr} {ki0 : Int32} (G : own_St Z hj u0 u1 u2 u3 u4 u5 u6 u7 u8 u9 u10 u11 u12 u13 ki0) : Exa Z Z.heap u9 "com/example/feedwright/feedwright/Rule" := G.2.2.2.2.2.2.2.2.2.2.2.2.2.2.2.2.2.2.2.1
theorem own_S_u10 {Z : State} {a0 : Array Value} {hj : ∀ d ∈ jdkStatics_1, d.before a0 Z = true} {u0 u1 u2 u3 u4 u5 u6 u7 u8 u9 u10 u11 u12 u13 : Addr} {ki0 : Int32} (G : own_St Z hj u0 u1 u2 u3 u4 u5 u6 u7 u8 u9 u10 u11 u12 u13 ki0) : Sta Z Z.heap "com/example/feedwright/feedwright/Rule" "ENUM" "Lcom/example/feedwright/feedwright/Rule;" (.ref u10) := G.2.2.2.2.2.2.2.2.2.2.2.2.2.2.2.2.2.2.2.2.1
theorem own_X_u10 {Z : State} {a0 : Array Value} {hj : ∀ d ∈ jdkStatics_1, d.before a0 Z = true} {u0 u1 u2 u3 u4 u5 u6 u7 u8 u9 u10 u11 u12 u13 : Addr} {ki0 : Int32} (G : own_St Z hj u0 u1 u2 u3 u4 u5 u6 u7 u8 u9 u10 u11 u12 u13 ki0) : Exa Z Z.heap u10 "com/example/feedwright/feedwright/Rule" := G.2.2.2.2.2.2.2.2.2.2.2.2.2.2.2.2.2.2.2.2.2.1
theorem own_S_u11 {Z : State} {a0 : Array Value} {hj : ∀ d ∈ jdkStatics_1, d.before a0 Z = true} {u0 u1 u2 u3 u4 u5 u6 u7 u8 u9 u10 u11 u12 u13 : Addr} {ki0 : Int32} (G : own_St Z hj u0 u1 u2 u3 u4 u5 u6 u7 u8 u9 u10 u11 u12 u13 ki0) : Sta Z Z.heap "com/example/feedwright/feedwright/Rule" "NONZERO" "Lcom/example/feedwright/feedwright/Rule;" (.ref u11) := G.2.2.2.2.2.2.2.2.2.2.2.2.2.2.2.2.2.2.2.2.2.2.1
theorem own_X_u11 {Z : State} {a0 : Array Value} {hj : ∀ d ∈ jdkStatics_1, d.before a0 Z = true} {u0 u1 u2 u3 u4 u5 u6 u7 u8 u9 u10 u11 u12 u13 : Addr} {ki0 : Int32} (G : own_St Z hj u0 u1 u2 u3 u4 u5 u6 u7 u8 u9 u10 u11 u12 u13 ki0) : Exa Z Z.heap u11 "com/example/feedwright/feedwright/Rule" := G.2.2.2.2.2.2.2.2.2.2.2.2.2.2.2.2.2.2.2.2.2.2.2.1
theorem own_S_u12 {Z : State} {a0 : Array Value} {hj : ∀ d ∈ jdkStatics_1, d.before a0 Z = true} {u0 u1 u2 u3 u4 u5 u6 u7 u8 u9 u10 u11 u12 u13 : Addr} {ki0 : Int32} (G : own_St Z hj u0 u1 u2 u3 u4 u5 u6 u7 u8 u9 u10 u11 u12 u13 ki0) : Sta Z Z.heap "com/example/feedwright/feedwright/Rule" "KEPT" "Lcom/example/feedwright/feedwright/Rule;" (.ref u12) := G.2.2.2.2.2.2.2.2.2.2.2.2.2.2.2.2.2.2.2.2.2.2.2.2.1
theorem own_X_u12 {Z : State} {a0 : Array Value} {hj : ∀ d ∈ jdkStatics_1, d.before a0 Z = true} {u0 u1 u2 u3 u4 u5 u6 u7 u8 u9 u10 u11 u12 u13 : Addr} {ki0 : Int32} (G : own_St Z hj u0 u1 u2 u3 u4 u5 u6 u7 u8 u9 u10 u11 u12 u13 ki0) : Exa Z Z.heap u12 "com/example/feedwright/feedwright/Rule" := G.2.2.2.2.2.2.2.2.2.2.2.2.2.2.2.2.2.2.2.2.2.2.2.2.2.1
theorem own_S_u13 {Z : State} {a0 : Array Value} {hj : ∀ d ∈ jdkStatics_1, d.before a0 Z = true} {u0 u1 u2 u3 u4 u5 u6 u7 u8 u9 u10 u11 u12 u13 : Addr} {ki0 : Int32} (G : own_St Z hj u0 u1 u2 u3 u4 u5 u6 u7 u8 u9 u10 u11 u12 u13 ki0) : Sta Z Z.heap "com/example/feedwright/feedwright/Rule" "DECIMAL" "Lcom/example/feedwright/feedwright/Rule;" (.ref u13) := G.2.2.2.2.2.2.2.2.2.2.2.2.2.2.2.2.2.2.2.2.2.2.2.2.2.2.1
theorem own_X_u13 {Z : State} {a0 : Array Value} {hj : ∀ d ∈ jdkStatics_1, d.before a0 Z = true} {u0 u1 u2 u3 u4 u5 u6 u7 u8 u9 u10 u11 u12 u13 : Addr} {ki0 : Int32} (G : own_St Z hj u0 u1 u2 u3 u4 u5 u6 u7 u8 u9 u10 u11 u12 u13 ki0) : Exa Z Z.heap u13 "com/example/feedwright/feedwright/Rule" := G.2.2.2.2.2.2.2.2.2.2.2.2.2.2.2.2.2.2.2.2.2.2.2.2.2.2.2.1
theorem own_S_ki0 {Z : State} {a0 : Array Value} {hj : ∀ d ∈ jdkStatics_1, d.before a0 Z = true} {u0 u1 u2 u3 u4 u5 u6 u7 u8 u9 u10 u11 u12 u13 : Addr} {ki0 : Int32} (G : own_St Z hj u0 u1 u2 u3 u4 u5 u6 u7 u8 u9 u10 u11 u12 u13 ki0) : Sta Z Z.heap "java/lang/String" "COMPACT_STRINGS" "Z" (.int ki0) := G.2.2.2.2.2.2.2.2.2.2.2.2.2.2.2.2.2.2.2.2.2.2.2.2.2.2.2.2.1
theorem own_nz_ki0 {Z : State} {a0 : Array Value} {hj : ∀ d ∈ jdkStatics_1, d.before a0 Z = true} {u0 u1 u2 u3 u4 u5 u6 u7 u8 u9 u10 u11 u12 u13 : Addr} {ki0 : Int32} (G : own_St Z hj u0 u1 u2 u3 u4 u5 u6 u7 u8 u9 u10 u11 u12 u13 ki0) : ¬ ki0 = (0 : Int32) := G.2.2.2.2.2.2.2.2.2.2.2.2.2.2.2.2.2.2.2.2.2.2.2.2.2.2.2.2.2.1
theorem own_F_u0_ordinal {Z : State} {a0 : Array Value} {hj : ∀ d ∈ jdkStatics_1, d.before a0 Z = true} {u0 u1 u2 u3 u4 u5 u6 u7 u8 u9 u10 u11 u12 u13 : Addr} {ki0 : Int32} (G : own_St Z hj u0 u1 u2 u3 u4 u5 u6 u7 u8 u9 u10 u11 u12 u13 ki0) : Fld Z Z.heap u0 "java/lang/Enum" "ordinal" "I" (.int (1 : Int32)) := G.2.2.2.2.2.2.2.2.2.2.2.2.2.2.2.2.2.2.2.2.2.2.2.2.2.2.2.2.2.2.1
theorem own_F_u2_ordinal {Z : State} {a0 : Array Value} {hj : ∀ d ∈ jdkStatics_1, d.before a0 Z = true} {u0 u1 u2 u3 u4 u5 u6 u7 u8 u9 u10 u11 u12 u13 : Addr} {ki0 : Int32} (G : own_St Z hj u0 u1 u2 u3 u4 u5 u6 u7 u8 u9 u10 u11 u12 u13 ki0) : Fld Z Z.heap u2 "java/lang/Enum" "ordinal" "I" (.int (0 : Int32)) := G.2.2.2.2.2.2.2.2.2.2.2.2.2.2.2.2.2.2.2.2.2.2.2.2.2.2.2.2.2.2.2
theorem own_mask1 (x : Int32) : (x &&& (1 : Int32)) = (0 : Int32) ∨ (x &&& (1 : Int32)) = (1 : Int32) := by
  have h1 := c_mask x 1 1 (by decide) (by decide)
  have h3 : (x &&& (1 : Int32)).toInt = 0 ∨ (x &&& (1 : Int32)).toInt = 1 := by omega
  rcases h3 with h | h
  · exact Or.inl (Int32.toInt_inj.mp (h.trans (by decide)))
  · exact Or.inr <| (Int32.toInt_inj.mp (h.trans (by decide)))
theorem own_rem12 (x : Int32) : ((x &&& (2147483647 : Int32)) - ((x &&& (2147483647 : Int32)) / (12 : Int32)) * (12 : Int32)) = (0 : Int32) ∨ ((x &&& (2147483647 : Int32)) - ((x &&& (2147483647 : Int32)) / (12 : Int32)) * (12 : Int32)) = (1 : Int32) ∨ ((x &&& (2147483647 : Int32)) - ((x &&& (2147483647 : Int32)) / (12 : Int32)) * (12 : Int32)) = (2 : Int32) ∨ ((x &&& (2147483647 : Int32)) - ((x &&& (2147483647 : Int32)) / (12 : Int32)) * (12 : Int32)) = (3 : Int32) ∨ ((x &&& (2147483647 : Int32)) - ((x &&& (2147483647 : Int32)) / (12 : Int32)) * (12 : Int32)) = (4 : Int32) ∨ ((x &&& (2147483647 : Int32)) - ((x &&& (2147483647 : Int32)) / (12 : Int32)) * (12 : Int32)) = (5 : Int32) ∨ ((x &&& (2147483647 : Int32)) - ((x &&& (2147483647 : Int32)) / (12 : Int32)) * (12 : Int32)) = (6 : Int32) ∨ ((x &&& (2147483647 : Int32)) - ((x &&& (2147483647 : Int32)) / (12 : Int32)) * (12 : Int32)) = (7 : Int32) ∨ ((x &&& (2147483647 : Int32)) - ((x &&& (2147483647 : Int32)) / (12 : Int32)) * (12 : Int32)) = (8 : Int32) ∨ ((x &&& (2147483647 : Int32)) - ((x &&& (2147483647 : Int32)) / (12 : Int32)) * (12 : Int32)) = (9 : Int32) ∨ ((x &&& (2147483647 : Int32)) - ((x &&& (2147483647 : Int32)) / (12 : Int32)) * (12 : Int32)) = (10 : Int32) ∨ ((x &&& (2147483647 : Int32)) - ((x &&& (2147483647 : Int32)) / (12 : Int32)) * (12 : Int32)) = (11 : Int32) := by
  have h0 := own_mask x
  have h1 := Jvm.LawKit.rem_toInt (x &&& (2147483647 : Int32)) (12 : Int32)
  have h2 : ((12 : Int32)).toInt = 12 := by decide
  rw [h2, Int.tmod_eq_emod_of_nonneg h0] at h1
  have h3 : ((x &&& (2147483647 : Int32)) - ((x &&& (2147483647 : Int32)) / (12 : Int32)) * (12 : Int32)).toInt = 0 ∨ ((x &&& (2147483647 : Int32)) - ((x &&& (2147483647 : Int32)) / (12 : Int32)) * (12 : Int32)).toInt = 1 ∨ ((x &&& (2147483647 : Int32)) - ((x &&& (2147483647 : Int32)) / (12 : Int32)) * (12 : Int32)).toInt = 2 ∨ ((x &&& (2147483647 : Int32)) - ((x &&& (2147483647 : Int32)) / (12 : Int32)) * (12 : Int32)).toInt = 3 ∨ ((x &&& (2147483647 : Int32)) - ((x &&& (2147483647 : Int32)) / (12 : Int32)) * (12 : Int32)).toInt = 4 ∨ ((x &&& (2147483647 : Int32)) - ((x &&& (2147483647 : Int32)) / (12 : Int32)) * (12 : Int32)).toInt = 5 ∨ ((x &&& (2147483647 : Int32)) - ((x &&& (2147483647 : Int32)) / (12 : Int32)) * (12 : Int32)).toInt = 6 ∨ ((x &&& (2147483647 : Int32)) - ((x &&& (2147483647 : Int32)) / (12 : Int32)) * (12 : Int32)).toInt = 7 ∨ ((x &&& (2147483647 : Int32)) - ((x &&& (2147483647 : Int32)) / (12 : Int32)) * (12 : Int32)).toInt = 8 ∨ ((x &&& (2147483647 : Int32)) - ((x &&& (2147483647 : Int32)) / (12 : Int32)) * (12 : Int32)).toInt = 9 ∨ ((x &&& (2147483647 : Int32)) - ((x &&& (2147483647 : Int32)) / (12 : Int32)) * (12 : Int32)).toInt = 10 ∨ ((x &&& (2147483647 : Int32)) - ((x &&& (2147483647 : Int32)) / (12 : Int32)) * (12 : Int32)).toInt = 11 := by omega
  rcases h3 with h | h | h | h | h | h | h | h | h | h | h | h
  · exact Or.inl (Int32.toInt_inj.mp (h.trans (by decide)))
  · exact Or.inr <| Or.inl (Int32.toInt_inj.mp (h.trans (by decide)))
  · exact Or.inr <| Or.inr <| Or.inl (Int32.toInt_inj.mp (h.trans (by decide)))
  · exact Or.inr <| Or.inr <| Or.inr <| Or.inl (Int32.toInt_inj.mp (h.trans (by decide)))
  · exact Or.inr <| Or.inr <| Or.inr <| Or.inr <| Or.inl (Int32.toInt_inj.mp (h.trans (by decide)))
  · exact Or.inr <| Or.inr <| Or.inr <| Or.inr <| Or.inr <| Or.inl (Int32.toInt_inj.mp (h.trans (by decide)))
  · exact Or.inr <| Or.inr <| Or.inr <| Or.inr <| Or.inr <| Or.inr <| Or.inl (Int32.toInt_inj.mp (h.trans (by decide)))
  · exact Or.inr <| Or.inr <| Or.inr <| Or.inr <| Or.inr <| Or.inr <| Or.inr <| Or.inl (Int32.toInt_inj.mp (h.trans (by decide)))
  · exact Or.inr <| Or.inr <| Or.inr <| Or.inr <| Or.inr <| Or.inr <| Or.inr <| Or.inr <| Or.inl (Int32.toInt_inj.mp (h.trans (by decide)))
  · exact Or.inr <| Or.inr <| Or.inr <| Or.inr <| Or.inr <| Or.inr <| Or.inr <| Or.inr <| Or.inr <| Or.inl (Int32.toInt_inj.mp (h.trans (by decide)))
  · exact Or.inr <| Or.inr <| Or.inr <| Or.inr <| Or.inr <| Or.inr <| Or.inr <| Or.inr <| Or.inr <| Or.inr <| Or.inl (Int32.toInt_inj.mp (h.trans (by decide)))
  · exact Or.inr <| Or.inr <| Or.inr <| Or.inr <| Or.inr <| Or.inr <| Or.inr <| Or.inr <| Or.inr <| Or.inr <| Or.inr <| (Int32.toInt_inj.mp (h.trans (by decide)))
def own_QF (h0 : Heap) (n0 : Nat) (v : Option Value) (h : Heap) (L : List Loc) : Prop := ∃ b, v = some (.ref b) ∧ Fr n0 L ∧ Keep h0 h []
def own_QK (h0 : Heap) (n0 : Nat) (a : Addr) (v : Option Value) (h : Heap) (L : List Loc) : Prop := v = none ∧ Fr n0 L ∧ Keep h0 h [a]
theorem d4_0 : decode jdk_43_method_46_code 0 = .ok (.iconst 1, 1) := by decide +kernel
theorem d4_1 : decode jdk_43_method_46_code 1 = .ok (.newarray .byte, 2) := by decide +kernel
theorem d4_3 : decode jdk_43_method_46_code 3 = .ok (.dup, 1) := by decide +kernel
theorem d4_4 : decode jdk_43_method_46_code 4 = .ok (.iconst 0, 1) := by decide +kernel
theorem d4_5 : decode jdk_43_method_46_code 5 = .ok (.iload_n 0, 1) := by decide +kernel
theorem d4_6 : decode jdk_43_method_46_code 6 = .ok (.i2b, 1) := by decide +kernel
theorem d4_7 : decode jdk_43_method_46_code 7 = .ok (.bastore, 1) := by decide +kernel
theorem d4_8 : decode jdk_43_method_46_code 8 = .ok (.areturn, 1) := by decide +kernel
abbrev Y0 : MethodName := (⟨"java/lang/StringLatin1", "toBytes", "(C)[B"⟩ : MethodName)
theorem pn0 : plainName "java/lang/StringLatin1" = true := by first | (simp [plainName, overriddenIn]; done) | decide +kernel
theorem ef_own_toBytes (m : MethodId) (u0 u1 u2 u3 u4 u5 u6 u7 u8 u9 u10 u11 u12 u13 : Addr) (ki0 : Int32) (ch : Int32) : entryFrame m #[xi ch] 1 = (mkF m 0 #[vi ch] []) := by first | (simp [entryFrame, mkF, argsToLocals, Value.category]; done) | rfl
set_option maxRecDepth 65536 in
set_option maxHeartbeats 40000000 in
theorem own_toBytes (l : Launch) (Z : State) (a0 : Array Value) (hw : ∀ d ∈ tables_1, d.before a0 Z = true) (hj : ∀ d ∈ jdkStatics_1, d.before a0 Z = true) (u0 u1 u2 u3 u4 u5 u6 u7 u8 u9 u10 u11 u12 u13 : Addr) (ki0 : Int32) (G : own_St Z hj u0 u1 u2 u3 u4 u5 u6 u7 u8 u9 u10 u11 u12 u13 ki0) (ch : Int32) (h0 : Heap) (n0 : Nat) (O0 : Old Z n0 h0) : own_Met l Z Y0 jdk_43_method_46_code 1 (some (.array .byte)) ({ frames := 0, cells := 1, slots := 1, locals := 0 } : Room) #[xi ch] h0 (own_QF h0 n0) := by
  intro ws
  refine MetFree.of_bodySF (plainFor_of_name pn0) hisR ?_
  intro p e s m args below meth c s₁ Bd hml0 hP hK
  obtain ⟨rfl, hZ, hh⟩ := hP
  have hx := Bd.exec
  have hby := Bd.bytes
  have hml : c.maxLocals = 1 := hml0
  have hown : s.vm.findClass "java/lang/StringLatin1" = some m.cls := findClass_of_methodNamed Bd.named
  have hnm := (name_of_methodNamed Bd.named Bd.method).1
  have X0 : Stand p l e ({ frames := 0, cells := 1, slots := 1, locals := 0 } : Room) s m #[xi ch] below meth c s₁ [] 0 0 := Stand.of_body Bd
  have e0 : s₁.heap = h0 := by rw [← hh, Bd.state]; rfl
  have N0 := Fr.nil n0
  have pre0 : ∀ t, Steps p.tables e below (s₁.setTop (mkF m 0 #[vi ch] [])) t → Steps p.tables e below (s₁.setTop (entryFrame m #[xi ch] 1)) t := fun t st => castTop (ef_own_toBytes m u0 u1 u2 u3 u4 u5 u6 u7 u8 u9 u10 u11 u12 u13 ki0 ch) st
  obtain ⟨T1, h1, k1, X1, e1, E1, A1, st1⟩ := newP X0 hx hZ (ww hw 25 rfl) e0 (g := (mkF m 1 #[vi ch] [xi (1 : Int32)])) rfl (hb hby d4_1) rfl (by decide) (cap := 1) (by decide) (by decide) (by decide) (by decide)
  obtain ⟨b1, g1⟩ : ∃ z, z = h0.size := ⟨_, rfl⟩
  rw [← g1] at A1 st1
  have g_b1 : n0 ≤ b1 := own_fresh O0 g1
  have sz_b1 : h0.size ≤ b1 := Nat.le_trans (Keep.refl h0 []).1 (Nat.le_of_eq g1.symm)
  have O1 : Old Z n0 h1 := O0.ext E1
  have Kp1 : Keep h0 h1 [] := (Keep.refl h0 []).ext E1
  have V_b1 : Arv Z h1 b1 k1 .byte (1 : Int32) [(.int (0 : Int32))] (.int (0 : Int32)) := (Arv.new A1 (by decide)).pad (pad_rep [] (.int (0 : Int32)) 1)
  obtain ⟨cl2, Ar2, q2, S2, N2_, H2, G2⟩ := id V_b1
  have hin2 : ¬ ((0 : Int32) < 0 ∨ cl2.slots.size ≤ ((0 : Int32)).toNatClampNeg) := inb_of S2 ⟨by decide, by decide⟩
  obtain ⟨T3, h3, X3, e3, W3, st3⟩ := stB X1 hx hZ e1 Ar2 (j := (0 : Int32)) hin2 (g := (mkF m 7 #[vi ch] [xi (ch.toInt8.toInt32), xi (0 : Int32), xr b1, xr b1])) rfl rfl (hb hby d4_7)
  have O3 : Old Z n0 h3 := O1.wr W3 g_b1
  have Kp3 : Keep h0 h3 [] := Kp1.wr W3 (Or.inr sz_b1)
  have N3 := Fr.snoc X3 N0 g_b1
  obtain ⟨fs, hr, hrun, hended, hW, hsame⟩ := X3.leave (v := some (xr b1)) (fun h => by rw [Bd.returns] at h; cases h)
  refine ⟨_, _, pre0 _ ?_, hrun, hended, _, _, rfl, ?_, ⟨_, rfl⟩, hW, hsame.mono (by decide) (by decide)⟩
  · show own_S p e below s₁ (mkF m 0 #[vi ch] []) _
    refine XS.iconst X0.here hx rfl (hb hby d4_0) ?_
    show own_S p e below s₁ (mkF m 1 #[vi ch] [xi (1 : Int32)]) _
    refine st1 _ ?_
    show own_S p e below T1 (mkF m 3 #[vi ch] [xr b1]) _
    refine XS.dup X1.here hx rfl (hb hby d4_3) rfl rfl ?_
    show own_S p e below T1 (mkF m 4 #[vi ch] [xr b1, xr b1]) _
    refine XS.iconst X1.here hx rfl (hb hby d4_4) ?_
    show own_S p e below T1 (mkF m 5 #[vi ch] [xi (0 : Int32), xr b1, xr b1]) _
    refine XS.iloadN X1.here hx rfl (hb hby d4_5) rfl ?_
    show own_S p e below T1 (mkF m 6 #[vi ch] [xi ch, xi (0 : Int32), xr b1, xr b1]) _
    refine XS.i2b X1.here hx rfl (hb hby d4_6) rfl ?_
    show own_S p e below T1 (mkF m 7 #[vi ch] [xi (ch.toInt8.toInt32), xi (0 : Int32), xr b1, xr b1]) _
    refine st3 _ ?_
    show own_S p e below T3 (mkF m 8 #[vi ch] [xr b1]) _
    exact X3.areturnOut hx rfl Bd.returns rfl (hb hby d4_8) hr
  · show (own_QF h0 n0) _ T3.heap _
    rw [e3]
    exact ⟨_, rfl, N3, Kp3⟩
theorem d5_0 : decode jdk_42_method_151_code 0 = .ok (.aload_n 0, 1) := by decide +kernel
theorem d5_1 : decode jdk_42_method_151_code 1 = .ok (.invokespecial 1, 3) := by decide +kernel
theorem d5_4 : decode jdk_42_method_151_code 4 = .ok (.aload_n 0, 1) := by decide +kernel
theorem d5_5 : decode jdk_42_method_151_code 5 = .ok (.aload_n 1, 1) := by decide +kernel
theorem d5_6 : decode jdk_42_method_151_code 6 = .ok (.putfield 9, 3) := by decide +kernel
theorem d5_9 : decode jdk_42_method_151_code 9 = .ok (.aload_n 0, 1) := by decide +kernel
theorem d5_10 : decode jdk_42_method_151_code 10 = .ok (.iload_n 2, 1) := by decide +kernel
theorem d5_11 : decode jdk_42_method_151_code 11 = .ok (.putfield 15, 3) := by decide +kernel
theorem d5_14 : decode jdk_42_method_151_code 14 = .ok (.return_, 1) := by decide +kernel
abbrev Y1 : MethodName := (⟨"java/lang/String", "<init>", "([BB)V"⟩ : MethodName)
theorem pn1 : plainName "java/lang/String" = true := by first | (simp [plainName, overriddenIn]; done) | decide +kernel
theorem ef_own_strinit (m : MethodId) (u0 u1 u2 u3 u4 u5 u6 u7 u8 u9 u10 u11 u12 u13 : Addr) (ki0 : Int32) (a : Addr) (b : Addr) : entryFrame m #[xr a, xr b, xi (0 : Int32)] 3 = (mkF m 0 #[vr a, vr b, vi (0 : Int32)] []) := by first | (simp [entryFrame, mkF, argsToLocals, Value.category]; done) | rfl
set_option maxRecDepth 65536 in
set_option maxHeartbeats 40000000 in
theorem own_strinit (l : Launch) (Z : State) (a0 : Array Value) (hw : ∀ d ∈ tables_1, d.before a0 Z = true) (hj : ∀ d ∈ jdkStatics_1, d.before a0 Z = true) (u0 u1 u2 u3 u4 u5 u6 u7 u8 u9 u10 u11 u12 u13 : Addr) (ki0 : Int32) (G : own_St Z hj u0 u1 u2 u3 u4 u5 u6 u7 u8 u9 u10 u11 u12 u13 ki0) (a : Addr) (b : Addr) (h0 : Heap) (n0 : Nat) (O0 : Old Z n0 h0) (EA : Exa Z h0 a "java/lang/String") (FV : Fld Z h0 a "java/lang/String" "value" "[B" .null) (FC : Fld Z h0 a "java/lang/String" "coder" "B" (.int (0 : Int32))) (g_a : n0 ≤ a) : own_Met l Z Y1 jdk_42_method_151_code 3 none ({ frames := 1, cells := 0, slots := 0, locals := 12 } : Room) #[xr a, xr b, xi (0 : Int32)] h0 (own_QK h0 n0 a) := by
  intro ws
  refine MetFree.of_bodySF (plainFor_of_name pn1) hisR ?_
  intro p e s m args below meth c s₁ Bd hml0 hP hK
  obtain ⟨rfl, hZ, hh⟩ := hP
  have hx := Bd.exec
  have hby := Bd.bytes
  have hml : c.maxLocals = 3 := hml0
  have hown : s.vm.findClass "java/lang/String" = some m.cls := findClass_of_methodNamed Bd.named
  have hnm := (name_of_methodNamed Bd.named Bd.method).1
  have X0 : Stand p l e ({ frames := 1, cells := 0, slots := 0, locals := 12 } : Room) s m #[xr a, xr b, xi (0 : Int32)] below meth c s₁ [] 0 0 := Stand.of_body Bd
  have e0 : s₁.heap = h0 := by rw [← hh, Bd.state]; rfl
  have N0 := Fr.nil n0
  have pre0 : ∀ t, Steps p.tables e below (s₁.setTop (mkF m 0 #[vr a, vr b, vi (0 : Int32)] [])) t → Steps p.tables e below (s₁.setTop (entryFrame m #[xr a, xr b, xi (0 : Int32)] 3)) t := fun t st => castTop (ef_own_strinit m u0 u1 u2 u3 u4 u5 u6 u7 u8 u9 u10 u11 u12 u13 ki0 a b) st
  obtain ⟨T1, X1, e1, st1⟩ := initO X0 hx hZ hown (ww hw 30 rfl) (ww hw 31 rfl) (ww hw 32 rfl) e0 (g := (mkF m 1 #[vr a, vr b, vi (0 : Int32)] [xr a])) rfl (by rw [hml]; rfl) rfl (hb hby d5_1) (by decide) (W := 0) (by show 2 * 0 + _ ≤ _; exact Nat.le_of_eq rfl) (by decide)
  obtain ⟨T2, h2, X2, e2, W2, st2⟩ := putF X1 hx hZ hown (host := "") (Or.inl (ww hw 33 rfl)) Via.refl e1 FV EA (Or.inr ⟨(ww hw 34 rfl), rfl, hnm⟩) (ww hw 21 rfl) (ty := (.array .byte)) (by decide) (by first | rfl | decide) (by first | rfl | decide) (g := (mkF m 6 #[vr a, vr b, vi (0 : Int32)] [xr b, xr a])) rfl rfl (hb hby d5_6)
  have O2 : Old Z n0 h2 := O0.wr W2 g_a
  have Kp2 : Keep h0 h2 [a] := (Keep.refl h0 [a]).wr W2 (Or.inl (by simp))
  have X_a_2 := EA.wr W2
  have F_a_value_2 := FV.same W2
  have F_a_coder_2 := FC.other W2 (Or.inr (slot_ne (Or.inr (ww hw 36 rfl)) (Or.inr (ww hw 34 rfl)) (by decide) (t := .byte) (t' := (.array .byte)) (by decide) (by decide)))
  have N2 := Fr.snoc X2 N0 g_a
  obtain ⟨T3, h3, X3, e3, W3, st3⟩ := putF X2 hx hZ hown (host := "") (Or.inl (ww hw 35 rfl)) Via.refl e2 F_a_coder_2 X_a_2 (Or.inr ⟨(ww hw 36 rfl), rfl, hnm⟩) (ww hw 21 rfl) (ty := .byte) (by decide) (by first | rfl | decide) (by first | rfl | decide) (g := (mkF m 11 #[vr a, vr b, vi (0 : Int32)] [xi (0 : Int32), xr a])) rfl rfl (hb hby d5_11)
  have O3 : Old Z n0 h3 := O2.wr W3 g_a
  have Kp3 : Keep h0 h3 [a] := Kp2.wr W3 (Or.inl (by simp))
  have X_a_3 := X_a_2.wr W3
  have F_a_value_3 := F_a_value_2.other W3 (Or.inr (slot_ne (Or.inr (ww hw 34 rfl)) (Or.inr (ww hw 36 rfl)) (by decide) (t := (.array .byte)) (t' := .byte) (by decide) (by decide)))
  have F_a_coder_3 := F_a_coder_2.same W3
  have N3 := Fr.snoc X3 N2 g_a
  obtain ⟨fs, hr, hrun, hended, hW, hsame⟩ := X3.leave (v := none) (fun _ => rfl)
  refine ⟨_, _, pre0 _ ?_, hrun, hended, _, _, rfl, ?_, ⟨_, rfl⟩, hW, hsame.mono (by decide) (by decide)⟩
  · show own_S p e below s₁ (mkF m 0 #[vr a, vr b, vi (0 : Int32)] []) _
    refine XS.aloadN X0.here hx rfl (hb hby d5_0) rfl rfl ?_
    show own_S p e below s₁ (mkF m 1 #[vr a, vr b, vi (0 : Int32)] [xr a]) _
    refine st1 _ ?_
    show own_S p e below T1 (mkF m 4 #[vr a, vr b, vi (0 : Int32)] []) _
    refine XS.aloadN X1.here hx rfl (hb hby d5_4) rfl rfl ?_
    show own_S p e below T1 (mkF m 5 #[vr a, vr b, vi (0 : Int32)] [xr a]) _
    refine XS.aloadN X1.here hx rfl (hb hby d5_5) rfl rfl ?_
    show own_S p e below T1 (mkF m 6 #[vr a, vr b, vi (0 : Int32)] [xr b, xr a]) _
    refine st2 _ ?_
    show own_S p e below T2 (mkF m 9 #[vr a, vr b, vi (0 : Int32)] []) _
    refine XS.aloadN X2.here hx rfl (hb hby d5_9) rfl rfl ?_
    show own_S p e below T2 (mkF m 10 #[vr a, vr b, vi (0 : Int32)] [xr a]) _
    refine XS.iloadN X2.here hx rfl (hb hby d5_10) rfl ?_
    show own_S p e below T2 (mkF m 11 #[vr a, vr b, vi (0 : Int32)] [xi (0 : Int32), xr a]) _
    refine st3 _ ?_
    show own_S p e below T3 (mkF m 14 #[vr a, vr b, vi (0 : Int32)] []) _
    exact X3.returnOut hx Bd.returns (hb hby d5_14) hr
  · show (own_QK h0 n0 a) _ T3.heap _
    rw [e3]
    exact ⟨rfl, N3, Kp3⟩
theorem own_cse {Z : State} {a0 : Array Value} {hj : ∀ d ∈ jdkStatics_1, d.before a0 Z = true} {u0 u1 u2 u3 u4 u5 u6 u7 u8 u9 u10 u11 u12 u13 : Addr} {ki0 : Int32} (G : own_St Z hj u0 u1 u2 u3 u4 u5 u6 u7 u8 u9 u10 u11 u12 u13 ki0) : ifCond.holds .eq ki0 = false := by
  rw [if0]; exact (feq (own_nz_ki0 G)).1
theorem d2_0 : decode jdk_42_method_139_code 0 = .ok (.getstatic 38, 3) := by decide +kernel
theorem d2_3 : decode jdk_42_method_139_code 3 = .ok (.ifCond .eq 23, 3) := by decide +kernel
theorem d2_6 : decode jdk_42_method_139_code 6 = .ok (.iload_n 0, 1) := by decide +kernel
theorem d2_7 : decode jdk_42_method_139_code 7 = .ok (.invokestatic 1015, 3) := by decide +kernel
theorem d3_0 : decode jdk_43_method_3_code 0 = .ok (.iload_n 0, 1) := by decide +kernel
theorem d3_1 : decode jdk_43_method_3_code 1 = .ok (.sipush 255, 3) := by decide +kernel
theorem d3_4 : decode jdk_43_method_3_code 4 = .ok (.if_icmp .gt 7, 3) := by decide +kernel
theorem d3_7 : decode jdk_43_method_3_code 7 = .ok (.iconst 1, 1) := by decide +kernel
theorem d3_8 : decode jdk_43_method_3_code 8 = .ok (.goto 4, 3) := by decide +kernel
theorem d3_12 : decode jdk_43_method_3_code 12 = .ok (.ireturn, 1) := by decide +kernel
abbrev Y2 : MethodName := (⟨"java/lang/StringLatin1", "canEncode", "(C)Z"⟩ : MethodName)
theorem ef_own_c0_canEncode (m : MethodId) (u0 u1 u2 u3 u4 u5 u6 u7 u8 u9 u10 u11 u12 u13 : Addr) (ki0 : Int32) (ch : Int32) : entryFrame m #[xi ch] 1 = (mkF m 0 #[vi ch] []) := by first | (simp [entryFrame, mkF, argsToLocals, Value.category]; done) | rfl
set_option maxRecDepth 65536 in
set_option maxHeartbeats 40000000 in
theorem own_c0_canEncode (l : Launch) (Z : State) (a0 : Array Value) (hw : ∀ d ∈ tables_1, d.before a0 Z = true) (hj : ∀ d ∈ jdkStatics_1, d.before a0 Z = true) (u0 u1 u2 u3 u4 u5 u6 u7 u8 u9 u10 u11 u12 u13 : Addr) (ki0 : Int32) (G : own_St Z hj u0 u1 u2 u3 u4 u5 u6 u7 u8 u9 u10 u11 u12 u13 ki0) (ch : Int32) (as0 : if_icmp.holds .gt ch (255 : Int32) = false) (h0 : Heap) (n0 : Nat) (O0 : Old Z n0 h0) : own_Met l Z Y2 jdk_43_method_3_code 1 (some .boolean) ({ frames := 0, cells := 0, slots := 0, locals := 0 } : Room) #[xi ch] h0 (own_QR (some (xi (1 : Int32))) h0 n0) := by
  intro ws
  refine MetFree.of_bodySF (plainFor_of_name pn0) hisR ?_
  intro p e s m args below meth c s₁ Bd hml0 hP hK
  obtain ⟨rfl, hZ, hh⟩ := hP
  have hx := Bd.exec
  have hby := Bd.bytes
  have hml : c.maxLocals = 1 := hml0
  have hown : s.vm.findClass "java/lang/StringLatin1" = some m.cls := findClass_of_methodNamed Bd.named
  have hnm := (name_of_methodNamed Bd.named Bd.method).1
  have X0 : Stand p l e ({ frames := 0, cells := 0, slots := 0, locals := 0 } : Room) s m #[xi ch] below meth c s₁ [] 0 0 := Stand.of_body Bd
  have e0 : s₁.heap = h0 := by rw [← hh, Bd.state]; rfl
  have N0 := Fr.nil n0
  have pre0 : ∀ t, Steps p.tables e below (s₁.setTop (mkF m 0 #[vi ch] [])) t → Steps p.tables e below (s₁.setTop (entryFrame m #[xi ch] 1)) t := fun t st => castTop (ef_own_c0_canEncode m u0 u1 u2 u3 u4 u5 u6 u7 u8 u9 u10 u11 u12 u13 ki0 ch) st
  obtain ⟨fs, hr, hrun, hended, hW, hsame⟩ := X0.leave (v := some (xi (1 : Int32))) (fun h => by rw [Bd.returns] at h; cases h)
  refine ⟨_, _, pre0 _ ?_, hrun, hended, _, _, rfl, ?_, ⟨_, rfl⟩, hW, hsame.mono (by decide) (by decide)⟩
  · show own_S p e below s₁ (mkF m 0 #[vi ch] []) _
    refine XS.iloadN X0.here hx rfl (hb hby d3_0) rfl ?_
    show own_S p e below s₁ (mkF m 1 #[vi ch] [xi ch]) _
    refine XS.sipush X0.here hx rfl (hb hby d3_1) ?_
    show own_S p e below s₁ (mkF m 4 #[vi ch] [xi (255 : Int32), xi ch]) _
    refine XS.icmpNo X0.here hx rfl (hb hby d3_4) rfl as0 ?_
    show own_S p e below s₁ (mkF m 7 #[vi ch] []) _
    refine XS.iconst X0.here hx rfl (hb hby d3_7) ?_
    show own_S p e below s₁ (mkF m 8 #[vi ch] [xi (1 : Int32)]) _
    refine XS.goto X0.here hx rfl (pc0 := 8) (pc' := 12) rfl (hb hby d3_8) (by decide) (by decide) ?_
    show own_S p e below s₁ (mkF m 12 #[vi ch] [xi (1 : Int32)]) _
    exact retN X0 hx (t := .boolean) Bd.returns (by simp) (hb hby d3_12) hr
  · exact ⟨rfl, N0, e0⟩
theorem pd0 : parseMethodDescriptor "(C)Z" = some ⟨[.char], some .boolean⟩ := by decide +kernel
theorem d2_10 : decode jdk_42_method_139_code 10 = .ok (.ifCond .eq 16, 3) := by decide +kernel
theorem d2_13 : decode jdk_42_method_139_code 13 = .ok (.new 10, 3) := by decide +kernel
theorem d2_16 : decode jdk_42_method_139_code 16 = .ok (.dup, 1) := by decide +kernel
theorem d2_17 : decode jdk_42_method_139_code 17 = .ok (.iload_n 0, 1) := by decide +kernel
theorem d2_18 : decode jdk_42_method_139_code 18 = .ok (.invokestatic 1018, 3) := by decide +kernel
theorem pd1 : parseMethodDescriptor "(C)[B" = some ⟨[.char], some (.array .byte)⟩ := by decide +kernel
theorem d2_21 : decode jdk_42_method_139_code 21 = .ok (.iconst 0, 1) := by decide +kernel
theorem d2_22 : decode jdk_42_method_139_code 22 = .ok (.invokespecial 209, 3) := by decide +kernel
theorem pd2 : parseMethodDescriptor "([BB)V" = some ⟨[(.array .byte), .byte], none⟩ := by decide +kernel
theorem d2_25 : decode jdk_42_method_139_code 25 = .ok (.areturn, 1) := by decide +kernel
abbrev Y3 : MethodName := (⟨"java/lang/String", "valueOf", "(C)Ljava/lang/String;"⟩ : MethodName)
theorem ef_own_valueOf (m : MethodId) (u0 u1 u2 u3 u4 u5 u6 u7 u8 u9 u10 u11 u12 u13 : Addr) (ki0 : Int32) (ch : Int32) : entryFrame m #[xi ch] 1 = (mkF m 0 #[vi ch] []) := by first | (simp [entryFrame, mkF, argsToLocals, Value.category]; done) | rfl
set_option maxRecDepth 65536 in
set_option maxHeartbeats 40000000 in
theorem own_valueOf (l : Launch) (Z : State) (a0 : Array Value) (hw : ∀ d ∈ tables_1, d.before a0 Z = true) (hj : ∀ d ∈ jdkStatics_1, d.before a0 Z = true) (u0 u1 u2 u3 u4 u5 u6 u7 u8 u9 u10 u11 u12 u13 : Addr) (ki0 : Int32) (G : own_St Z hj u0 u1 u2 u3 u4 u5 u6 u7 u8 u9 u10 u11 u12 u13 ki0) (ch : Int32) (as0 : if_icmp.holds .gt ch (255 : Int32) = false) (h0 : Heap) (n0 : Nat) (O0 : Old Z n0 h0) : own_Met l Z Y3 jdk_42_method_139_code 1 (some (.object "java/lang/String")) ({ frames := 2, cells := 2, slots := 5, locals := 27 } : Room) #[xi ch] h0 (own_QF h0 n0) := by
  intro ws
  refine MetFree.of_bodySF (plainFor_of_name pn1) hisR ?_
  intro p e s m args below meth c s₁ Bd hml0 hP hK
  obtain ⟨rfl, hZ, hh⟩ := hP
  have hx := Bd.exec
  have hby := Bd.bytes
  have hml : c.maxLocals = 1 := hml0
  have hown : s.vm.findClass "java/lang/String" = some m.cls := findClass_of_methodNamed Bd.named
  have hnm := (name_of_methodNamed Bd.named Bd.method).1
  have X0 : Stand p l e ({ frames := 2, cells := 2, slots := 5, locals := 27 } : Room) s m #[xi ch] below meth c s₁ [] 0 0 := Stand.of_body Bd
  have e0 : s₁.heap = h0 := by rw [← hh, Bd.state]; rfl
  have N0 := Fr.nil n0
  have pre0 : ∀ t, Steps p.tables e below (s₁.setTop (mkF m 0 #[vi ch] [])) t → Steps p.tables e below (s₁.setTop (entryFrame m #[xi ch] 1)) t := fun t st => castTop (ef_own_valueOf m u0 u1 u2 u3 u4 u5 u6 u7 u8 u9 u10 u11 u12 u13 ki0 ch) st
  obtain ⟨T1, X1, e1, st1⟩ := getS2 X0 hx hZ hown (host := "") (Or.inl (ww hw 15 rfl)) Via.refl e0 ((own_S_ki0 G).ext O0.2) (g := (mkF m 0 #[vi ch] [])) rfl (hb hby d2_0)
  obtain ⟨_, _, ⟨T2, L2, k2, n2⟩, -, X2, ⟨Lc2, hQ2, l2, y2, z2⟩, st2⟩ := Jvm.LawKit.callS X1 hx (y := Y2) hown (mvT hZ (ww hw 16 rfl)) (mvT hZ (ww hw 17 rfl)) (mvT hZ (ww hw 18 rfl)) (mvT hZ (ww hw 19 rfl)) (by decide) (backOf (W := 0) (own_c0_canEncode l Z a0 hw hj u0 u1 u2 u3 u4 u5 u6 u7 u8 u9 u10 u11 u12 u13 ki0 G ch as0 h0 n0 O0 []) hZ (ww hw 19 rfl) (ww hw 18 rfl) (by decide) (by decide)) (g := (mkF m 7 #[vi ch] [xi ch])) rfl (by rw [hml]; rfl) (argsL := [xi ch]) (rest := []) (lenOf pd0 rfl) rfl (by show 2 * 0 + _ ≤ _; exact Nat.le_of_eq rfl) (hb hby d2_7) (fun _ _ => ⟨rfl, e1, (by decide : 0 + 0 ≤ _), (by decide : 0 + 0 ≤ _)⟩)
  dsimp only [Pt.U, Pt.locs, Pt.cells, Pt.slots] at X2 l2 y2 z2 st2 hQ2
  subst l2 y2 z2
  obtain ⟨rfl, Nq2, e2⟩ := hQ2
  have N2 := Fr.app N0 Nq2
  obtain ⟨T3, h3, X3, e3, E3, A3, D3, -, st3⟩ := newO X2 hx hZ hown (ww hw 20 rfl) (ww hw 21 rfl) (ww hw 13 rfl) e2 (g := (mkF m 13 #[vi ch] [])) rfl (hb hby d2_13) (by decide) (by decide)
  obtain ⟨b3, g3⟩ : ∃ z, z = h0.size := ⟨_, rfl⟩
  rw [← g3] at A3 D3 st3
  have g_b3 : n0 ≤ b3 := own_fresh O0 g3
  have sz_b3 : h0.size ≤ b3 := Nat.le_trans (Keep.refl h0 []).1 (Nat.le_of_eq g3.symm)
  have O3 : Old Z n0 h3 := O0.ext E3
  have Kp3 : Keep h0 h3 [] := (Keep.refl h0 []).ext E3
  have F_b3_value : Fld Z h3 b3 "java/lang/String" "value" "[B" .null := D3 (Or.inr (ww hw 34 rfl)) (ty := (.array .byte)) (by decide)
  have F_b3_coder : Fld Z h3 b3 "java/lang/String" "coder" "B" (xi (0 : Int32)) := D3 (Or.inr (ww hw 36 rfl)) (ty := .byte) (by decide)
  obtain ⟨_, _, ⟨T4, L4, k4, n4⟩, -, X4, ⟨Lc4, hQ4, l4, y4, z4⟩, st4⟩ := Jvm.LawKit.callS X3 hx (y := Y0) hown (mvT hZ (ww hw 22 rfl)) (mvT hZ (ww hw 23 rfl)) (mvT hZ (ww hw 18 rfl)) (mvT hZ (ww hw 24 rfl)) (by decide) (backOf (W := 2) (own_toBytes l Z a0 hw hj u0 u1 u2 u3 u4 u5 u6 u7 u8 u9 u10 u11 u12 u13 ki0 G ch h3 n0 O3 []) hZ (ww hw 24 rfl) (ww hw 18 rfl) (by decide) (by decide)) (g := (mkF m 18 #[vi ch] [xi ch, xr b3, xr b3])) rfl (by rw [hml]; rfl) (argsL := [xi ch]) (rest := [xr b3, xr b3]) (lenOf pd1 rfl) rfl (by show 2 * 0 + _ ≤ _; exact Nat.le_of_eq rfl) (hb hby d2_18) (fun _ _ => ⟨rfl, e3, (by decide : 1 + 1 ≤ _), (by decide : 4 + 1 ≤ _)⟩)
  dsimp only [Pt.U, Pt.locs, Pt.cells, Pt.slots] at X4 l4 y4 z4 st4 hQ4
  subst l4 y4 z4
  obtain ⟨h4, e4⟩ : ∃ z, T4.heap = z := ⟨_, rfl⟩
  rw [e4] at hQ4
  obtain ⟨bq4, rfl, Nq4, K4⟩ := hQ4
  have N4 := Fr.app N2 Nq4
  have O4 : Old Z n0 h4 := O3.keep K4 all0
  have Kp4 : Keep h0 h4 [] := Kp3.trans K4 all0
  have X_b3_4 := A3.keep K4
  have F_b3_value_4 := F_b3_value.keep K4 nin0
  have F_b3_coder_4 := F_b3_coder.keep K4 nin0
  obtain ⟨_, _, ⟨T5, L5, k5, n5⟩, -, X5, ⟨Lc5, hQ5, l5, y5, z5⟩, st5⟩ := X4.specialBack hx (y := Y1) rfl hown (mvT hZ (ww hw 26 rfl)) (mvT hZ (ww hw 27 rfl)) (mvT hZ (ww hw 29 rfl)) (by decide) (backOf (W := 1) (own_strinit l Z a0 hw hj u0 u1 u2 u3 u4 u5 u6 u7 u8 u9 u10 u11 u12 u13 ki0 G b3 bq4 h4 n0 O4 X_b3_4 F_b3_value_4 F_b3_coder_4 g_b3 []) hZ (ww hw 29 rfl) (ww hw 13 rfl) (by decide) (by decide)) (g := (mkF m 22 #[vi ch] [xi (0 : Int32), xr bq4, xr b3, xr b3])) rfl (by rw [hml]; rfl) (Steps.refl _) (a := b3) (argsL := [xr bq4, xi (0 : Int32)]) (rest := [xr b3]) (lenOf pd2 rfl) rfl (by show 2 * 0 + _ ≤ _; exact Nat.le_of_eq rfl) (hb hby d2_22) (fun _ _ => ⟨rfl, e4, (by decide : 2 + 0 ≤ _), (by decide : 5 + 0 ≤ _)⟩)
  dsimp only [Pt.U, Pt.locs, Pt.cells, Pt.slots] at X5 l5 y5 z5 st5 hQ5
  subst l5 y5 z5
  obtain ⟨h5, e5⟩ : ∃ z, T5.heap = z := ⟨_, rfl⟩
  rw [e5] at hQ5
  obtain ⟨rfl, Nq5, K5⟩ := hQ5
  have N5 := Fr.app N4 Nq5
  have O5 : Old Z n0 h5 := O4.keep K5 (allS g_b3 all0)
  have Kp5 : Keep h0 h5 [] := Kp4.trans K5 (allS (Or.inr sz_b3) all0)
  have X_b3_5 := X_b3_4.keep K5
  obtain ⟨fs, hr, hrun, hended, hW, hsame⟩ := X5.leave (v := some (xr b3)) (fun h => by rw [Bd.returns] at h; cases h)
  refine ⟨_, _, pre0 _ ?_, hrun, hended, _, _, rfl, ?_, ⟨_, rfl⟩, hW, hsame.mono (by decide) (by decide)⟩
  · show own_S p e below s₁ (mkF m 0 #[vi ch] []) _
    refine st1 _ ?_
    show own_S p e below T1 (mkF m 3 #[vi ch] [xi ki0]) _
    refine XS.ifNo X1.here hx rfl (hb hby d2_3) rfl (own_cse G) ?_
    show own_S p e below T1 (mkF m 6 #[vi ch] []) _
    refine XS.iloadN X1.here hx rfl (hb hby d2_6) rfl ?_
    show own_S p e below T1 (mkF m 7 #[vi ch] [xi ch]) _
    refine st2 _ ?_
    show own_S p e below T2 (mkF m 10 #[vi ch] [xi (1 : Int32)]) _
    refine XS.ifNo X2.here hx rfl (hb hby d2_10) rfl (by decide) ?_
    show own_S p e below T2 (mkF m 13 #[vi ch] []) _
    refine st3 _ ?_
    show own_S p e below T3 (mkF m 16 #[vi ch] [xr b3]) _
    refine XS.dup X3.here hx rfl (hb hby d2_16) rfl rfl ?_
    show own_S p e below T3 (mkF m 17 #[vi ch] [xr b3, xr b3]) _
    refine XS.iloadN X3.here hx rfl (hb hby d2_17) rfl ?_
    show own_S p e below T3 (mkF m 18 #[vi ch] [xi ch, xr b3, xr b3]) _
    refine st4 _ ?_
    show own_S p e below T4 (mkF m 21 #[vi ch] [xr bq4, xr b3, xr b3]) _
    refine XS.iconst X4.here hx rfl (hb hby d2_21) ?_
    show own_S p e below T4 (mkF m 22 #[vi ch] [xi (0 : Int32), xr bq4, xr b3, xr b3]) _
    refine st5.trans ?_
    show own_S p e below T5 (mkF m 25 #[vi ch] [xr b3]) _
    exact X5.areturnOut hx rfl Bd.returns rfl (hb hby d2_25) hr
  · show (own_QF h0 n0) _ T5.heap _
    rw [e5]
    exact ⟨_, rfl, N5, Kp5⟩
theorem own_ch (p : Int32) : if_icmp.holds .gt (p &&& (255 : Int32)) (255 : Int32) = false := by
  have h1 := c_mask p 255 8 (by decide) (by decide)
  have h2 : ((255 : Int32)).toInt = 255 := by decide
  exact (flt (x := 255) (y := p &&& (255 : Int32)) (fun h => by rw [Int32.lt_iff_toInt_lt] at h; omega)).2.2.1
theorem d1_0 : decode method_2_code 0 = .ok (.iload_n 0, 1) := by decide +kernel
theorem d1_1 : decode method_2_code 1 = .ok (.ifCond .ne 7, 3) := by decide +kernel
theorem d1_4 : decode method_2_code 4 = .ok (.getstatic 7, 3) := by decide +kernel
theorem d1_7 : decode method_2_code 7 = .ok (.areturn, 1) := by decide +kernel
abbrev Y4 : MethodName := (⟨"com/example/feedwright/feedwright/FaultRefusesPinLaw", "ruleAt", "(I)Lcom/example/feedwright/feedwright/Rule;"⟩ : MethodName)
theorem pn2 : plainName "com/example/feedwright/feedwright/FaultRefusesPinLaw" = true := by first | (simp [plainName, overriddenIn]; done) | decide +kernel
theorem ef_own_rule0 (m : MethodId) (u0 u1 u2 u3 u4 u5 u6 u7 u8 u9 u10 u11 u12 u13 : Addr) (ki0 : Int32) : entryFrame m #[xi (0 : Int32)] 1 = (mkF m 0 #[vi (0 : Int32)] []) := by first | (simp [entryFrame, mkF, argsToLocals, Value.category]; done) | rfl
set_option maxRecDepth 65536 in
set_option maxHeartbeats 40000000 in
theorem own_rule0 (l : Launch) (Z : State) (a0 : Array Value) (hw : ∀ d ∈ tables_1, d.before a0 Z = true) (hj : ∀ d ∈ jdkStatics_1, d.before a0 Z = true) (u0 u1 u2 u3 u4 u5 u6 u7 u8 u9 u10 u11 u12 u13 : Addr) (ki0 : Int32) (G : own_St Z hj u0 u1 u2 u3 u4 u5 u6 u7 u8 u9 u10 u11 u12 u13 ki0) (h0 : Heap) (n0 : Nat) (O0 : Old Z n0 h0) : own_Met l Z Y4 method_2_code 1 (some (.object "com/example/feedwright/feedwright/Rule")) ({ frames := 0, cells := 0, slots := 0, locals := 0 } : Room) #[xi (0 : Int32)] h0 (own_QR (some (xr u9)) h0 n0) := by
  intro ws
  refine MetFree.of_bodySF (plainFor_of_name pn2) hisR ?_
  intro p e s m args below meth c s₁ Bd hml0 hP hK
  obtain ⟨rfl, hZ, hh⟩ := hP
  have hx := Bd.exec
  have hby := Bd.bytes
  have hml : c.maxLocals = 1 := hml0
  have hown : s.vm.findClass "com/example/feedwright/feedwright/FaultRefusesPinLaw" = some m.cls := findClass_of_methodNamed Bd.named
  have hnm := (name_of_methodNamed Bd.named Bd.method).1
  have X0 : Stand p l e ({ frames := 0, cells := 0, slots := 0, locals := 0 } : Room) s m #[xi (0 : Int32)] below meth c s₁ [] 0 0 := Stand.of_body Bd
  have e0 : s₁.heap = h0 := by rw [← hh, Bd.state]; rfl
  have N0 := Fr.nil n0
  have pre0 : ∀ t, Steps p.tables e below (s₁.setTop (mkF m 0 #[vi (0 : Int32)] [])) t → Steps p.tables e below (s₁.setTop (entryFrame m #[xi (0 : Int32)] 1)) t := fun t st => castTop (ef_own_rule0 m u0 u1 u2 u3 u4 u5 u6 u7 u8 u9 u10 u11 u12 u13 ki0) st
  obtain ⟨T1, X1, e1, st1⟩ := getS2 X0 hx hZ hown (host := "") (Or.inl (ww hw 87 rfl)) Via.refl e0 ((own_S_u9 G).ext O0.2) (g := (mkF m 4 #[vi (0 : Int32)] [])) rfl (hb hby d1_4)
  obtain ⟨fs, hr, hrun, hended, hW, hsame⟩ := X1.leave (v := some (xr u9)) (fun h => by rw [Bd.returns] at h; cases h)
  refine ⟨_, _, pre0 _ ?_, hrun, hended, _, _, rfl, ?_, ⟨_, rfl⟩, hW, hsame.mono (by decide) (by decide)⟩
  · show own_S p e below s₁ (mkF m 0 #[vi (0 : Int32)] []) _
    refine XS.iloadN X0.here hx rfl (hb hby d1_0) rfl ?_
    show own_S p e below s₁ (mkF m 1 #[vi (0 : Int32)] [xi (0 : Int32)]) _
    refine XS.ifNo X0.here hx rfl (hb hby d1_1) rfl (by decide) ?_
    show own_S p e below s₁ (mkF m 4 #[vi (0 : Int32)] []) _
    refine st1 _ ?_
    show own_S p e below T1 (mkF m 7 #[vi (0 : Int32)] [xr u9]) _
    exact X1.areturnOut hx rfl Bd.returns rfl (hb hby d1_7) hr
  · exact ⟨rfl, N0, e1⟩
theorem d1_8 : decode method_2_code 8 = .ok (.iload_n 0, 1) := by decide +kernel
theorem d1_9 : decode method_2_code 9 = .ok (.iconst 1, 1) := by decide +kernel
theorem d1_10 : decode method_2_code 10 = .ok (.if_icmp .ne 7, 3) := by decide +kernel
theorem d1_13 : decode method_2_code 13 = .ok (.getstatic 13, 3) := by decide +kernel
theorem d1_16 : decode method_2_code 16 = .ok (.areturn, 1) := by decide +kernel
theorem ef_own_rule1 (m : MethodId) (u0 u1 u2 u3 u4 u5 u6 u7 u8 u9 u10 u11 u12 u13 : Addr) (ki0 : Int32) : entryFrame m #[xi (1 : Int32)] 1 = (mkF m 0 #[vi (1 : Int32)] []) := by first | (simp [entryFrame, mkF, argsToLocals, Value.category]; done) | rfl
set_option maxRecDepth 65536 in
set_option maxHeartbeats 40000000 in
theorem own_rule1 (l : Launch) (Z : State) (a0 : Array Value) (hw : ∀ d ∈ tables_1, d.before a0 Z = true) (hj : ∀ d ∈ jdkStatics_1, d.before a0 Z = true) (u0 u1 u2 u3 u4 u5 u6 u7 u8 u9 u10 u11 u12 u13 : Addr) (ki0 : Int32) (G : own_St Z hj u0 u1 u2 u3 u4 u5 u6 u7 u8 u9 u10 u11 u12 u13 ki0) (h0 : Heap) (n0 : Nat) (O0 : Old Z n0 h0) : own_Met l Z Y4 method_2_code 1 (some (.object "com/example/feedwright/feedwright/Rule")) ({ frames := 0, cells := 0, slots := 0, locals := 0 } : Room) #[xi (1 : Int32)] h0 (own_QR (some (xr u7)) h0 n0) := by
  intro ws
  refine MetFree.of_bodySF (plainFor_of_name pn2) hisR ?_
  intro p e s m args below meth c s₁ Bd hml0 hP hK
  obtain ⟨rfl, hZ, hh⟩ := hP
  have hx := Bd.exec
  have hby := Bd.bytes
  have hml : c.maxLocals = 1 := hml0
  have hown : s.vm.findClass "com/example/feedwright/feedwright/FaultRefusesPinLaw" = some m.cls := findClass_of_methodNamed Bd.named
  have hnm := (name_of_methodNamed Bd.named Bd.method).1
  have X0 : Stand p l e ({ frames := 0, cells := 0, slots := 0, locals := 0 } : Room) s m #[xi (1 : Int32)] below meth c s₁ [] 0 0 := Stand.of_body Bd
  have e0 : s₁.heap = h0 := by rw [← hh, Bd.state]; rfl
  have N0 := Fr.nil n0
  have pre0 : ∀ t, Steps p.tables e below (s₁.setTop (mkF m 0 #[vi (1 : Int32)] [])) t → Steps p.tables e below (s₁.setTop (entryFrame m #[xi (1 : Int32)] 1)) t := fun t st => castTop (ef_own_rule1 m u0 u1 u2 u3 u4 u5 u6 u7 u8 u9 u10 u11 u12 u13 ki0) st
  obtain ⟨T1, X1, e1, st1⟩ := getS2 X0 hx hZ hown (host := "") (Or.inl (ww hw 83 rfl)) Via.refl e0 ((own_S_u7 G).ext O0.2) (g := (mkF m 13 #[vi (1 : Int32)] [])) rfl (hb hby d1_13)
  obtain ⟨fs, hr, hrun, hended, hW, hsame⟩ := X1.leave (v := some (xr u7)) (fun h => by rw [Bd.returns] at h; cases h)
  refine ⟨_, _, pre0 _ ?_, hrun, hended, _, _, rfl, ?_, ⟨_, rfl⟩, hW, hsame.mono (by decide) (by decide)⟩
  · show own_S p e below s₁ (mkF m 0 #[vi (1 : Int32)] []) _
    refine XS.iloadN X0.here hx rfl (hb hby d1_0) rfl ?_
    show own_S p e below s₁ (mkF m 1 #[vi (1 : Int32)] [xi (1 : Int32)]) _
    refine XS.ifYes X0.here hx rfl (pc0 := 1) (pc' := 8) rfl (hb hby d1_1) rfl (by decide) (by decide) (by decide) ?_
    show own_S p e below s₁ (mkF m 8 #[vi (1 : Int32)] []) _
    refine XS.iloadN X0.here hx rfl (hb hby d1_8) rfl ?_
    show own_S p e below s₁ (mkF m 9 #[vi (1 : Int32)] [xi (1 : Int32)]) _
    refine XS.iconst X0.here hx rfl (hb hby d1_9) ?_
    show own_S p e below s₁ (mkF m 10 #[vi (1 : Int32)] [xi (1 : Int32), xi (1 : Int32)]) _
    refine XS.icmpNo X0.here hx rfl (hb hby d1_10) rfl (by decide) ?_
    show own_S p e below s₁ (mkF m 13 #[vi (1 : Int32)] []) _
    refine st1 _ ?_
    show own_S p e below T1 (mkF m 16 #[vi (1 : Int32)] [xr u7]) _
    exact X1.areturnOut hx rfl Bd.returns rfl (hb hby d1_16) hr
  · exact ⟨rfl, N0, e1⟩
theorem d1_17 : decode method_2_code 17 = .ok (.iload_n 0, 1) := by decide +kernel
theorem d1_18 : decode method_2_code 18 = .ok (.iconst 2, 1) := by decide +kernel
theorem d1_19 : decode method_2_code 19 = .ok (.if_icmp .ne 7, 3) := by decide +kernel
theorem d1_22 : decode method_2_code 22 = .ok (.getstatic 16, 3) := by decide +kernel
theorem d1_25 : decode method_2_code 25 = .ok (.areturn, 1) := by decide +kernel
theorem ef_own_rule2 (m : MethodId) (u0 u1 u2 u3 u4 u5 u6 u7 u8 u9 u10 u11 u12 u13 : Addr) (ki0 : Int32) : entryFrame m #[xi (2 : Int32)] 1 = (mkF m 0 #[vi (2 : Int32)] []) := by first | (simp [entryFrame, mkF, argsToLocals, Value.category]; done) | rfl
set_option maxRecDepth 65536 in
set_option maxHeartbeats 40000000 in
theorem own_rule2 (l : Launch) (Z : State) (a0 : Array Value) (hw : ∀ d ∈ tables_1, d.before a0 Z = true) (hj : ∀ d ∈ jdkStatics_1, d.before a0 Z = true) (u0 u1 u2 u3 u4 u5 u6 u7 u8 u9 u10 u11 u12 u13 : Addr) (ki0 : Int32) (G : own_St Z hj u0 u1 u2 u3 u4 u5 u6 u7 u8 u9 u10 u11 u12 u13 ki0) (h0 : Heap) (n0 : Nat) (O0 : Old Z n0 h0) : own_Met l Z Y4 method_2_code 1 (some (.object "com/example/feedwright/feedwright/Rule")) ({ frames := 0, cells := 0, slots := 0, locals := 0 } : Room) #[xi (2 : Int32)] h0 (own_QR (some (xr u8)) h0 n0) := by
  intro ws
  refine MetFree.of_bodySF (plainFor_of_name pn2) hisR ?_
  intro p e s m args below meth c s₁ Bd hml0 hP hK
  obtain ⟨rfl, hZ, hh⟩ := hP
  have hx := Bd.exec
  have hby := Bd.bytes
  have hml : c.maxLocals = 1 := hml0
  have hown : s.vm.findClass "com/example/feedwright/feedwright/FaultRefusesPinLaw" = some m.cls := findClass_of_methodNamed Bd.named
  have hnm := (name_of_methodNamed Bd.named Bd.method).1
  have X0 : Stand p l e ({ frames := 0, cells := 0, slots := 0, locals := 0 } : Room) s m #[xi (2 : Int32)] below meth c s₁ [] 0 0 := Stand.of_body Bd
  have e0 : s₁.heap = h0 := by rw [← hh, Bd.state]; rfl
  have N0 := Fr.nil n0
  have pre0 : ∀ t, Steps p.tables e below (s₁.setTop (mkF m 0 #[vi (2 : Int32)] [])) t → Steps p.tables e below (s₁.setTop (entryFrame m #[xi (2 : Int32)] 1)) t := fun t st => castTop (ef_own_rule2 m u0 u1 u2 u3 u4 u5 u6 u7 u8 u9 u10 u11 u12 u13 ki0) st
  obtain ⟨T1, X1, e1, st1⟩ := getS2 X0 hx hZ hown (host := "") (Or.inl (ww hw 85 rfl)) Via.refl e0 ((own_S_u8 G).ext O0.2) (g := (mkF m 22 #[vi (2 : Int32)] [])) rfl (hb hby d1_22)
  obtain ⟨fs, hr, hrun, hended, hW, hsame⟩ := X1.leave (v := some (xr u8)) (fun h => by rw [Bd.returns] at h; cases h)
  refine ⟨_, _, pre0 _ ?_, hrun, hended, _, _, rfl, ?_, ⟨_, rfl⟩, hW, hsame.mono (by decide) (by decide)⟩
  · show own_S p e below s₁ (mkF m 0 #[vi (2 : Int32)] []) _
    refine XS.iloadN X0.here hx rfl (hb hby d1_0) rfl ?_
    show own_S p e below s₁ (mkF m 1 #[vi (2 : Int32)] [xi (2 : Int32)]) _
    refine XS.ifYes X0.here hx rfl (pc0 := 1) (pc' := 8) rfl (hb hby d1_1) rfl (by decide) (by decide) (by decide) ?_
    show own_S p e below s₁ (mkF m 8 #[vi (2 : Int32)] []) _
    refine XS.iloadN X0.here hx rfl (hb hby d1_8) rfl ?_
    show own_S p e below s₁ (mkF m 9 #[vi (2 : Int32)] [xi (2 : Int32)]) _
    refine XS.iconst X0.here hx rfl (hb hby d1_9) ?_
    show own_S p e below s₁ (mkF m 10 #[vi (2 : Int32)] [xi (1 : Int32), xi (2 : Int32)]) _
    refine XS.icmpYes X0.here hx rfl (pc0 := 10) (pc' := 17) rfl (hb hby d1_10) rfl (by decide) (by decide) (by decide) ?_
    show own_S p e below s₁ (mkF m 17 #[vi (2 : Int32)] []) _
    refine XS.iloadN X0.here hx rfl (hb hby d1_17) rfl ?_
    show own_S p e below s₁ (mkF m 18 #[vi (2 : Int32)] [xi (2 : Int32)]) _
    refine XS.iconst X0.here hx rfl (hb hby d1_18) ?_
    show own_S p e below s₁ (mkF m 19 #[vi (2 : Int32)] [xi (2 : Int32), xi (2 : Int32)]) _
    refine XS.icmpNo X0.here hx rfl (hb hby d1_19) rfl (by decide) ?_
    show own_S p e below s₁ (mkF m 22 #[vi (2 : Int32)] []) _
    refine st1 _ ?_
    show own_S p e below T1 (mkF m 25 #[vi (2 : Int32)] [xr u8]) _
    exact X1.areturnOut hx rfl Bd.returns rfl (hb hby d1_25) hr
  · exact ⟨rfl, N0, e1⟩
theorem d1_26 : decode method_2_code 26 = .ok (.iload_n 0, 1) := by decide +kernel
theorem d1_27 : decode method_2_code 27 = .ok (.iconst 3, 1) := by decide +kernel
theorem d1_28 : decode method_2_code 28 = .ok (.if_icmp .ne 7, 3) := by decide +kernel
theorem d1_31 : decode method_2_code 31 = .ok (.getstatic 19, 3) := by decide +kernel
theorem d1_34 : decode method_2_code 34 = .ok (.areturn, 1) := by decide +kernel
theorem ef_own_rule3 (m : MethodId) (u0 u1 u2 u3 u4 u5 u6 u7 u8 u9 u10 u11 u12 u13 : Addr) (ki0 : Int32) : entryFrame m #[xi (3 : Int32)] 1 = (mkF m 0 #[vi (3 : Int32)] []) := by first | (simp [entryFrame, mkF, argsToLocals, Value.category]; done) | rfl
set_option maxRecDepth 65536 in
set_option maxHeartbeats 40000000 in
theorem own_rule3 (l : Launch) (Z : State) (a0 : Array Value) (hw : ∀ d ∈ tables_1, d.before a0 Z = true) (hj : ∀ d ∈ jdkStatics_1, d.before a0 Z = true) (u0 u1 u2 u3 u4 u5 u6 u7 u8 u9 u10 u11 u12 u13 : Addr) (ki0 : Int32) (G : own_St Z hj u0 u1 u2 u3 u4 u5 u6 u7 u8 u9 u10 u11 u12 u13 ki0) (h0 : Heap) (n0 : Nat) (O0 : Old Z n0 h0) : own_Met l Z Y4 method_2_code 1 (some (.object "com/example/feedwright/feedwright/Rule")) ({ frames := 0, cells := 0, slots := 0, locals := 0 } : Room) #[xi (3 : Int32)] h0 (own_QR (some (xr u1)) h0 n0) := by
  intro ws
  refine MetFree.of_bodySF (plainFor_of_name pn2) hisR ?_
  intro p e s m args below meth c s₁ Bd hml0 hP hK
  obtain ⟨rfl, hZ, hh⟩ := hP
  have hx := Bd.exec
  have hby := Bd.bytes
  have hml : c.maxLocals = 1 := hml0
  have hown : s.vm.findClass "com/example/feedwright/feedwright/FaultRefusesPinLaw" = some m.cls := findClass_of_methodNamed Bd.named
  have hnm := (name_of_methodNamed Bd.named Bd.method).1
  have X0 : Stand p l e ({ frames := 0, cells := 0, slots := 0, locals := 0 } : Room) s m #[xi (3 : Int32)] below meth c s₁ [] 0 0 := Stand.of_body Bd
  have e0 : s₁.heap = h0 := by rw [← hh, Bd.state]; rfl
  have N0 := Fr.nil n0
  have pre0 : ∀ t, Steps p.tables e below (s₁.setTop (mkF m 0 #[vi (3 : Int32)] [])) t → Steps p.tables e below (s₁.setTop (entryFrame m #[xi (3 : Int32)] 1)) t := fun t st => castTop (ef_own_rule3 m u0 u1 u2 u3 u4 u5 u6 u7 u8 u9 u10 u11 u12 u13 ki0) st
  obtain ⟨T1, X1, e1, st1⟩ := getS2 X0 hx hZ hown (host := "") (Or.inl (ww hw 8 rfl)) Via.refl e0 ((own_S_u1 G).ext O0.2) (g := (mkF m 31 #[vi (3 : Int32)] [])) rfl (hb hby d1_31)
  obtain ⟨fs, hr, hrun, hended, hW, hsame⟩ := X1.leave (v := some (xr u1)) (fun h => by rw [Bd.returns] at h; cases h)
  refine ⟨_, _, pre0 _ ?_, hrun, hended, _, _, rfl, ?_, ⟨_, rfl⟩, hW, hsame.mono (by decide) (by decide)⟩
  · show own_S p e below s₁ (mkF m 0 #[vi (3 : Int32)] []) _
    refine XS.iloadN X0.here hx rfl (hb hby d1_0) rfl ?_
    show own_S p e below s₁ (mkF m 1 #[vi (3 : Int32)] [xi (3 : Int32)]) _
    refine XS.ifYes X0.here hx rfl (pc0 := 1) (pc' := 8) rfl (hb hby d1_1) rfl (by decide) (by decide) (by decide) ?_
    show own_S p e below s₁ (mkF m 8 #[vi (3 : Int32)] []) _
    refine XS.iloadN X0.here hx rfl (hb hby d1_8) rfl ?_
    show own_S p e below s₁ (mkF m 9 #[vi (3 : Int32)] [xi (3 : Int32)]) _
    refine XS.iconst X0.here hx rfl (hb hby d1_9) ?_
    show own_S p e below s₁ (mkF m 10 #[vi (3 : Int32)] [xi (1 : Int32), xi (3 : Int32)]) _
    refine XS.icmpYes X0.here hx rfl (pc0 := 10) (pc' := 17) rfl (hb hby d1_10) rfl (by decide) (by decide) (by decide) ?_
    show own_S p e below s₁ (mkF m 17 #[vi (3 : Int32)] []) _
    refine XS.iloadN X0.here hx rfl (hb hby d1_17) rfl ?_
    show own_S p e below s₁ (mkF m 18 #[vi (3 : Int32)] [xi (3 : Int32)]) _
    refine XS.iconst X0.here hx rfl (hb hby d1_18) ?_
    show own_S p e below s₁ (mkF m 19 #[vi (3 : Int32)] [xi (2 : Int32), xi (3 : Int32)]) _
    refine XS.icmpYes X0.here hx rfl (pc0 := 19) (pc' := 26) rfl (hb hby d1_19) rfl (by decide) (by decide) (by decide) ?_
    show own_S p e below s₁ (mkF m 26 #[vi (3 : Int32)] []) _
    refine XS.iloadN X0.here hx rfl (hb hby d1_26) rfl ?_
    show own_S p e below s₁ (mkF m 27 #[vi (3 : Int32)] [xi (3 : Int32)]) _
    refine XS.iconst X0.here hx rfl (hb hby d1_27) ?_
    show own_S p e below s₁ (mkF m 28 #[vi (3 : Int32)] [xi (3 : Int32), xi (3 : Int32)]) _
    refine XS.icmpNo X0.here hx rfl (hb hby d1_28) rfl (by decide) ?_
    show own_S p e below s₁ (mkF m 31 #[vi (3 : Int32)] []) _
    refine st1 _ ?_
    show own_S p e below T1 (mkF m 34 #[vi (3 : Int32)] [xr u1]) _
    exact X1.areturnOut hx rfl Bd.returns rfl (hb hby d1_34) hr
  · exact ⟨rfl, N0, e1⟩
theorem d1_35 : decode method_2_code 35 = .ok (.iload_n 0, 1) := by decide +kernel
theorem d1_36 : decode method_2_code 36 = .ok (.iconst 4, 1) := by decide +kernel
theorem d1_37 : decode method_2_code 37 = .ok (.if_icmp .ne 7, 3) := by decide +kernel
theorem d1_40 : decode method_2_code 40 = .ok (.getstatic 22, 3) := by decide +kernel
theorem d1_43 : decode method_2_code 43 = .ok (.areturn, 1) := by decide +kernel
theorem ef_own_rule4 (m : MethodId) (u0 u1 u2 u3 u4 u5 u6 u7 u8 u9 u10 u11 u12 u13 : Addr) (ki0 : Int32) : entryFrame m #[xi (4 : Int32)] 1 = (mkF m 0 #[vi (4 : Int32)] []) := by first | (simp [entryFrame, mkF, argsToLocals, Value.category]; done) | rfl
set_option maxRecDepth 65536 in
set_option maxHeartbeats 40000000 in
theorem own_rule4 (l : Launch) (Z : State) (a0 : Array Value) (hw : ∀ d ∈ tables_1, d.before a0 Z = true) (hj : ∀ d ∈ jdkStatics_1, d.before a0 Z = true) (u0 u1 u2 u3 u4 u5 u6 u7 u8 u9 u10 u11 u12 u13 : Addr) (ki0 : Int32) (G : own_St Z hj u0 u1 u2 u3 u4 u5 u6 u7 u8 u9 u10 u11 u12 u13 ki0) (h0 : Heap) (n0 : Nat) (O0 : Old Z n0 h0) : own_Met l Z Y4 method_2_code 1 (some (.object "com/example/feedwright/feedwright/Rule")) ({ frames := 0, cells := 0, slots := 0, locals := 0 } : Room) #[xi (4 : Int32)] h0 (own_QR (some (xr u10)) h0 n0) := by
  intro ws
  refine MetFree.of_bodySF (plainFor_of_name pn2) hisR ?_
  intro p e s m args below meth c s₁ Bd hml0 hP hK
  obtain ⟨rfl, hZ, hh⟩ := hP
  have hx := Bd.exec
  have hby := Bd.bytes
  have hml : c.maxLocals = 1 := hml0
  have hown : s.vm.findClass "com/example/feedwright/feedwright/FaultRefusesPinLaw" = some m.cls := findClass_of_methodNamed Bd.named
  have hnm := (name_of_methodNamed Bd.named Bd.method).1
  have X0 : Stand p l e ({ frames := 0, cells := 0, slots := 0, locals := 0 } : Room) s m #[xi (4 : Int32)] below meth c s₁ [] 0 0 := Stand.of_body Bd
  have e0 : s₁.heap = h0 := by rw [← hh, Bd.state]; rfl
  have N0 := Fr.nil n0
  have pre0 : ∀ t, Steps p.tables e below (s₁.setTop (mkF m 0 #[vi (4 : Int32)] [])) t → Steps p.tables e below (s₁.setTop (entryFrame m #[xi (4 : Int32)] 1)) t := fun t st => castTop (ef_own_rule4 m u0 u1 u2 u3 u4 u5 u6 u7 u8 u9 u10 u11 u12 u13 ki0) st
  obtain ⟨T1, X1, e1, st1⟩ := getS2 X0 hx hZ hown (host := "") (Or.inl (ww hw 89 rfl)) Via.refl e0 ((own_S_u10 G).ext O0.2) (g := (mkF m 40 #[vi (4 : Int32)] [])) rfl (hb hby d1_40)
  obtain ⟨fs, hr, hrun, hended, hW, hsame⟩ := X1.leave (v := some (xr u10)) (fun h => by rw [Bd.returns] at h; cases h)
  refine ⟨_, _, pre0 _ ?_, hrun, hended, _, _, rfl, ?_, ⟨_, rfl⟩, hW, hsame.mono (by decide) (by decide)⟩
  · show own_S p e below s₁ (mkF m 0 #[vi (4 : Int32)] []) _
    refine XS.iloadN X0.here hx rfl (hb hby d1_0) rfl ?_
    show own_S p e below s₁ (mkF m 1 #[vi (4 : Int32)] [xi (4 : Int32)]) _
    refine XS.ifYes X0.here hx rfl (pc0 := 1) (pc' := 8) rfl (hb hby d1_1) rfl (by decide) (by decide) (by decide) ?_
    show own_S p e below s₁ (mkF m 8 #[vi (4 : Int32)] []) _
    refine XS.iloadN X0.here hx rfl (hb hby d1_8) rfl ?_
    show own_S p e below s₁ (mkF m 9 #[vi (4 : Int32)] [xi (4 : Int32)]) _
    refine XS.iconst X0.here hx rfl (hb hby d1_9) ?_
    show own_S p e below s₁ (mkF m 10 #[vi (4 : Int32)] [xi (1 : Int32), xi (4 : Int32)]) _
    refine XS.icmpYes X0.here hx rfl (pc0 := 10) (pc' := 17) rfl (hb hby d1_10) rfl (by decide) (by decide) (by decide) ?_
    show own_S p e below s₁ (mkF m 17 #[vi (4 : Int32)] []) _
    refine XS.iloadN X0.here hx rfl (hb hby d1_17) rfl ?_
    show own_S p e below s₁ (mkF m 18 #[vi (4 : Int32)] [xi (4 : Int32)]) _
    refine XS.iconst X0.here hx rfl (hb hby d1_18) ?_
    show own_S p e below s₁ (mkF m 19 #[vi (4 : Int32)] [xi (2 : Int32), xi (4 : Int32)]) _
    refine XS.icmpYes X0.here hx rfl (pc0 := 19) (pc' := 26) rfl (hb hby d1_19) rfl (by decide) (by decide) (by decide) ?_
    show own_S p e below s₁ (mkF m 26 #[vi (4 : Int32)] []) _
    refine XS.iloadN X0.here hx rfl (hb hby d1_26) rfl ?_
    show own_S p e below s₁ (mkF m 27 #[vi (4 : Int32)] [xi (4 : Int32)]) _
    refine XS.iconst X0.here hx rfl (hb hby d1_27) ?_
    show own_S p e below s₁ (mkF m 28 #[vi (4 : Int32)] [xi (3 : Int32), xi (4 : Int32)]) _
    refine XS.icmpYes X0.here hx rfl (pc0 := 28) (pc' := 35) rfl (hb hby d1_28) rfl (by decide) (by decide) (by decide) ?_
    show own_S p e below s₁ (mkF m 35 #[vi (4 : Int32)] []) _
    refine XS.iloadN X0.here hx rfl (hb hby d1_35) rfl ?_
    show own_S p e below s₁ (mkF m 36 #[vi (4 : Int32)] [xi (4 : Int32)]) _
    refine XS.iconst X0.here hx rfl (hb hby d1_36) ?_
    show own_S p e below s₁ (mkF m 37 #[vi (4 : Int32)] [xi (4 : Int32), xi (4 : Int32)]) _
    refine XS.icmpNo X0.here hx rfl (hb hby d1_37) rfl (by decide) ?_
    show own_S p e below s₁ (mkF m 40 #[vi (4 : Int32)] []) _
    refine st1 _ ?_
    show own_S p e below T1 (mkF m 43 #[vi (4 : Int32)] [xr u10]) _
    exact X1.areturnOut hx rfl Bd.returns rfl (hb hby d1_43) hr
  · exact ⟨rfl, N0, e1⟩
theorem d1_44 : decode method_2_code 44 = .ok (.iload_n 0, 1) := by decide +kernel
theorem d1_45 : decode method_2_code 45 = .ok (.iconst 5, 1) := by decide +kernel
theorem d1_46 : decode method_2_code 46 = .ok (.if_icmp .ne 7, 3) := by decide +kernel
theorem d1_49 : decode method_2_code 49 = .ok (.getstatic 25, 3) := by decide +kernel
theorem d1_52 : decode method_2_code 52 = .ok (.areturn, 1) := by decide +kernel
theorem ef_own_rule5 (m : MethodId) (u0 u1 u2 u3 u4 u5 u6 u7 u8 u9 u10 u11 u12 u13 : Addr) (ki0 : Int32) : entryFrame m #[xi (5 : Int32)] 1 = (mkF m 0 #[vi (5 : Int32)] []) := by first | (simp [entryFrame, mkF, argsToLocals, Value.category]; done) | rfl
set_option maxRecDepth 65536 in
set_option maxHeartbeats 40000000 in
theorem own_rule5 (l : Launch) (Z : State) (a0 : Array Value) (hw : ∀ d ∈ tables_1, d.before a0 Z = true) (hj : ∀ d ∈ jdkStatics_1, d.before a0 Z = true) (u0 u1 u2 u3 u4 u5 u6 u7 u8 u9 u10 u11 u12 u13 : Addr) (ki0 : Int32) (G : own_St Z hj u0 u1 u2 u3 u4 u5 u6 u7 u8 u9 u10 u11 u12 u13 ki0) (h0 : Heap) (n0 : Nat) (O0 : Old Z n0 h0) : own_Met l Z Y4 method_2_code 1 (some (.object "com/example/feedwright/feedwright/Rule")) ({ frames := 0, cells := 0, slots := 0, locals := 0 } : Room) #[xi (5 : Int32)] h0 (own_QR (some (xr u6)) h0 n0) := by
  intro ws
  refine MetFree.of_bodySF (plainFor_of_name pn2) hisR ?_
  intro p e s m args below meth c s₁ Bd hml0 hP hK
  obtain ⟨rfl, hZ, hh⟩ := hP
  have hx := Bd.exec
  have hby := Bd.bytes
  have hml : c.maxLocals = 1 := hml0
  have hown : s.vm.findClass "com/example/feedwright/feedwright/FaultRefusesPinLaw" = some m.cls := findClass_of_methodNamed Bd.named
  have hnm := (name_of_methodNamed Bd.named Bd.method).1
  have X0 : Stand p l e ({ frames := 0, cells := 0, slots := 0, locals := 0 } : Room) s m #[xi (5 : Int32)] below meth c s₁ [] 0 0 := Stand.of_body Bd
  have e0 : s₁.heap = h0 := by rw [← hh, Bd.state]; rfl
  have N0 := Fr.nil n0
  have pre0 : ∀ t, Steps p.tables e below (s₁.setTop (mkF m 0 #[vi (5 : Int32)] [])) t → Steps p.tables e below (s₁.setTop (entryFrame m #[xi (5 : Int32)] 1)) t := fun t st => castTop (ef_own_rule5 m u0 u1 u2 u3 u4 u5 u6 u7 u8 u9 u10 u11 u12 u13 ki0) st
  obtain ⟨T1, X1, e1, st1⟩ := getS2 X0 hx hZ hown (host := "") (Or.inl (ww hw 81 rfl)) Via.refl e0 ((own_S_u6 G).ext O0.2) (g := (mkF m 49 #[vi (5 : Int32)] [])) rfl (hb hby d1_49)
  obtain ⟨fs, hr, hrun, hended, hW, hsame⟩ := X1.leave (v := some (xr u6)) (fun h => by rw [Bd.returns] at h; cases h)
  refine ⟨_, _, pre0 _ ?_, hrun, hended, _, _, rfl, ?_, ⟨_, rfl⟩, hW, hsame.mono (by decide) (by decide)⟩
  · show own_S p e below s₁ (mkF m 0 #[vi (5 : Int32)] []) _
    refine XS.iloadN X0.here hx rfl (hb hby d1_0) rfl ?_
    show own_S p e below s₁ (mkF m 1 #[vi (5 : Int32)] [xi (5 : Int32)]) _
    refine XS.ifYes X0.here hx rfl (pc0 := 1) (pc' := 8) rfl (hb hby d1_1) rfl (by decide) (by decide) (by decide) ?_
    show own_S p e below s₁ (mkF m 8 #[vi (5 : Int32)] []) _
    refine XS.iloadN X0.here hx rfl (hb hby d1_8) rfl ?_
    show own_S p e below s₁ (mkF m 9 #[vi (5 : Int32)] [xi (5 : Int32)]) _
    refine XS.iconst X0.here hx rfl (hb hby d1_9) ?_
    show own_S p e below s₁ (mkF m 10 #[vi (5 : Int32)] [xi (1 : Int32), xi (5 : Int32)]) _
    refine XS.icmpYes X0.here hx rfl (pc0 := 10) (pc' := 17) rfl (hb hby d1_10) rfl (by decide) (by decide) (by decide) ?_
    show own_S p e below s₁ (mkF m 17 #[vi (5 : Int32)] []) _
    refine XS.iloadN X0.here hx rfl (hb hby d1_17) rfl ?_
    show own_S p e below s₁ (mkF m 18 #[vi (5 : Int32)] [xi (5 : Int32)]) _
    refine XS.iconst X0.here hx rfl (hb hby d1_18) ?_
    show own_S p e below s₁ (mkF m 19 #[vi (5 : Int32)] [xi (2 : Int32), xi (5 : Int32)]) _
    refine XS.icmpYes X0.here hx rfl (pc0 := 19) (pc' := 26) rfl (hb hby d1_19) rfl (by decide) (by decide) (by decide) ?_
    show own_S p e below s₁ (mkF m 26 #[vi (5 : Int32)] []) _
    refine XS.iloadN X0.here hx rfl (hb hby d1_26) rfl ?_
    show own_S p e below s₁ (mkF m 27 #[vi (5 : Int32)] [xi (5 : Int32)]) _
    refine XS.iconst X0.here hx rfl (hb hby d1_27) ?_
    show own_S p e below s₁ (mkF m 28 #[vi (5 : Int32)] [xi (3 : Int32), xi (5 : Int32)]) _
    refine XS.icmpYes X0.here hx rfl (pc0 := 28) (pc' := 35) rfl (hb hby d1_28) rfl (by decide) (by decide) (by decide) ?_
    show own_S p e below s₁ (mkF m 35 #[vi (5 : Int32)] []) _
    refine XS.iloadN X0.here hx rfl (hb hby d1_35) rfl ?_
    show own_S p e below s₁ (mkF m 36 #[vi (5 : Int32)] [xi (5 : Int32)]) _
    refine XS.iconst X0.here hx rfl (hb hby d1_36) ?_
    show own_S p e below s₁ (mkF m 37 #[vi (5 : Int32)] [xi (4 : Int32), xi (5 : Int32)]) _
    refine XS.icmpYes X0.here hx rfl (pc0 := 37) (pc' := 44) rfl (hb hby d1_37) rfl (by decide) (by decide) (by decide) ?_
    show own_S p e below s₁ (mkF m 44 #[vi (5 : Int32)] []) _
    refine XS.iloadN X0.here hx rfl (hb hby d1_44) rfl ?_
    show own_S p e below s₁ (mkF m 45 #[vi (5 : Int32)] [xi (5 : Int32)]) _
    refine XS.iconst X0.here hx rfl (hb hby d1_45) ?_
    show own_S p e below s₁ (mkF m 46 #[vi (5 : Int32)] [xi (5 : Int32), xi (5 : Int32)]) _
    refine XS.icmpNo X0.here hx rfl (hb hby d1_46) rfl (by decide) ?_
    show own_S p e below s₁ (mkF m 49 #[vi (5 : Int32)] []) _
    refine st1 _ ?_
    show own_S p e below T1 (mkF m 52 #[vi (5 : Int32)] [xr u6]) _
    exact X1.areturnOut hx rfl Bd.returns rfl (hb hby d1_52) hr
  · exact ⟨rfl, N0, e1⟩
theorem d1_53 : decode method_2_code 53 = .ok (.iload_n 0, 1) := by decide +kernel
theorem d1_54 : decode method_2_code 54 = .ok (.bipush 6, 2) := by decide +kernel
theorem d1_56 : decode method_2_code 56 = .ok (.if_icmp .ne 7, 3) := by decide +kernel
theorem d1_59 : decode method_2_code 59 = .ok (.getstatic 28, 3) := by decide +kernel
theorem d1_62 : decode method_2_code 62 = .ok (.areturn, 1) := by decide +kernel
theorem ef_own_rule6 (m : MethodId) (u0 u1 u2 u3 u4 u5 u6 u7 u8 u9 u10 u11 u12 u13 : Addr) (ki0 : Int32) : entryFrame m #[xi (6 : Int32)] 1 = (mkF m 0 #[vi (6 : Int32)] []) := by first | (simp [entryFrame, mkF, argsToLocals, Value.category]; done) | rfl
set_option maxRecDepth 65536 in
set_option maxHeartbeats 40000000 in
theorem own_rule6 (l : Launch) (Z : State) (a0 : Array Value) (hw : ∀ d ∈ tables_1, d.before a0 Z = true) (hj : ∀ d ∈ jdkStatics_1, d.before a0 Z = true) (u0 u1 u2 u3 u4 u5 u6 u7 u8 u9 u10 u11 u12 u13 : Addr) (ki0 : Int32) (G : own_St Z hj u0 u1 u2 u3 u4 u5 u6 u7 u8 u9 u10 u11 u12 u13 ki0) (h0 : Heap) (n0 : Nat) (O0 : Old Z n0 h0) : own_Met l Z Y4 method_2_code 1 (some (.object "com/example/feedwright/feedwright/Rule")) ({ frames := 0, cells := 0, slots := 0, locals := 0 } : Room) #[xi (6 : Int32)] h0 (own_QR (some (xr u13)) h0 n0) := by
  intro ws
  refine MetFree.of_bodySF (plainFor_of_name pn2) hisR ?_
  intro p e s m args below meth c s₁ Bd hml0 hP hK
  obtain ⟨rfl, hZ, hh⟩ := hP
  have hx := Bd.exec
  have hby := Bd.bytes
  have hml : c.maxLocals = 1 := hml0
  have hown : s.vm.findClass "com/example/feedwright/feedwright/FaultRefusesPinLaw" = some m.cls := findClass_of_methodNamed Bd.named
  have hnm := (name_of_methodNamed Bd.named Bd.method).1
  have X0 : Stand p l e ({ frames := 0, cells := 0, slots := 0, locals := 0 } : Room) s m #[xi (6 : Int32)] below meth c s₁ [] 0 0 := Stand.of_body Bd
  have e0 : s₁.heap = h0 := by rw [← hh, Bd.state]; rfl
  have N0 := Fr.nil n0
  have pre0 : ∀ t, Steps p.tables e below (s₁.setTop (mkF m 0 #[vi (6 : Int32)] [])) t → Steps p.tables e below (s₁.setTop (entryFrame m #[xi (6 : Int32)] 1)) t := fun t st => castTop (ef_own_rule6 m u0 u1 u2 u3 u4 u5 u6 u7 u8 u9 u10 u11 u12 u13 ki0) st
  obtain ⟨T1, X1, e1, st1⟩ := getS2 X0 hx hZ hown (host := "") (Or.inl (ww hw 95 rfl)) Via.refl e0 ((own_S_u13 G).ext O0.2) (g := (mkF m 59 #[vi (6 : Int32)] [])) rfl (hb hby d1_59)
  obtain ⟨fs, hr, hrun, hended, hW, hsame⟩ := X1.leave (v := some (xr u13)) (fun h => by rw [Bd.returns] at h; cases h)
  refine ⟨_, _, pre0 _ ?_, hrun, hended, _, _, rfl, ?_, ⟨_, rfl⟩, hW, hsame.mono (by decide) (by decide)⟩
  · show own_S p e below s₁ (mkF m 0 #[vi (6 : Int32)] []) _
    refine XS.iloadN X0.here hx rfl (hb hby d1_0) rfl ?_
    show own_S p e below s₁ (mkF m 1 #[vi (6 : Int32)] [xi (6 : Int32)]) _
    refine XS.ifYes X0.here hx rfl (pc0 := 1) (pc' := 8) rfl (hb hby d1_1) rfl (by decide) (by decide) (by decide) ?_
    show own_S p e below s₁ (mkF m 8 #[vi (6 : Int32)] []) _
    refine XS.iloadN X0.here hx rfl (hb hby d1_8) rfl ?_
    show own_S p e below s₁ (mkF m 9 #[vi (6 : Int32)] [xi (6 : Int32)]) _
    refine XS.iconst X0.here hx rfl (hb hby d1_9) ?_
    show own_S p e below s₁ (mkF m 10 #[vi (6 : Int32)] [xi (1 : Int32), xi (6 : Int32)]) _
    refine XS.icmpYes X0.here hx rfl (pc0 := 10) (pc' := 17) rfl (hb hby d1_10) rfl (by decide) (by decide) (by decide) ?_
    show own_S p e below s₁ (mkF m 17 #[vi (6 : Int32)] []) _
    refine XS.iloadN X0.here hx rfl (hb hby d1_17) rfl ?_
    show own_S p e below s₁ (mkF m 18 #[vi (6 : Int32)] [xi (6 : Int32)]) _
    refine XS.iconst X0.here hx rfl (hb hby d1_18) ?_
    show own_S p e below s₁ (mkF m 19 #[vi (6 : Int32)] [xi (2 : Int32), xi (6 : Int32)]) _
    refine XS.icmpYes X0.here hx rfl (pc0 := 19) (pc' := 26) rfl (hb hby d1_19) rfl (by decide) (by decide) (by decide) ?_
    show own_S p e below s₁ (mkF m 26 #[vi (6 : Int32)] []) _
    refine XS.iloadN X0.here hx rfl (hb hby d1_26) rfl ?_
    show own_S p e below s₁ (mkF m 27 #[vi (6 : Int32)] [xi (6 : Int32)]) _
    refine XS.iconst X0.here hx rfl (hb hby d1_27) ?_
    show own_S p e below s₁ (mkF m 28 #[vi (6 : Int32)] [xi (3 : Int32), xi (6 : Int32)]) _
    refine XS.icmpYes X0.here hx rfl (pc0 := 28) (pc' := 35) rfl (hb hby d1_28) rfl (by decide) (by decide) (by decide) ?_
    show own_S p e below s₁ (mkF m 35 #[vi (6 : Int32)] []) _
    refine XS.iloadN X0.here hx rfl (hb hby d1_35) rfl ?_
    show own_S p e below s₁ (mkF m 36 #[vi (6 : Int32)] [xi (6 : Int32)]) _
    refine XS.iconst X0.here hx rfl (hb hby d1_36) ?_
    show own_S p e below s₁ (mkF m 37 #[vi (6 : Int32)] [xi (4 : Int32), xi (6 : Int32)]) _
    refine XS.icmpYes X0.here hx rfl (pc0 := 37) (pc' := 44) rfl (hb hby d1_37) rfl (by decide) (by decide) (by decide) ?_
    show own_S p e below s₁ (mkF m 44 #[vi (6 : Int32)] []) _
    refine XS.iloadN X0.here hx rfl (hb hby d1_44) rfl ?_
    show own_S p e below s₁ (mkF m 45 #[vi (6 : Int32)] [xi (6 : Int32)]) _
    refine XS.iconst X0.here hx rfl (hb hby d1_45) ?_
    show own_S p e below s₁ (mkF m 46 #[vi (6 : Int32)] [xi (5 : Int32), xi (6 : Int32)]) _
    refine XS.icmpYes X0.here hx rfl (pc0 := 46) (pc' := 53) rfl (hb hby d1_46) rfl (by decide) (by decide) (by decide) ?_
    show own_S p e below s₁ (mkF m 53 #[vi (6 : Int32)] []) _
    refine XS.iloadN X0.here hx rfl (hb hby d1_53) rfl ?_
    show own_S p e below s₁ (mkF m 54 #[vi (6 : Int32)] [xi (6 : Int32)]) _
    refine XS.bipush X0.here hx rfl (hb hby d1_54) ?_
    show own_S p e below s₁ (mkF m 56 #[vi (6 : Int32)] [xi (6 : Int32), xi (6 : Int32)]) _
    refine XS.icmpNo X0.here hx rfl (hb hby d1_56) rfl (by decide) ?_
    show own_S p e below s₁ (mkF m 59 #[vi (6 : Int32)] []) _
    refine st1 _ ?_
    show own_S p e below T1 (mkF m 62 #[vi (6 : Int32)] [xr u13]) _
    exact X1.areturnOut hx rfl Bd.returns rfl (hb hby d1_62) hr
  · exact ⟨rfl, N0, e1⟩
theorem d1_63 : decode method_2_code 63 = .ok (.iload_n 0, 1) := by decide +kernel
theorem d1_64 : decode method_2_code 64 = .ok (.bipush 7, 2) := by decide +kernel
theorem d1_66 : decode method_2_code 66 = .ok (.if_icmp .ne 7, 3) := by decide +kernel
theorem d1_69 : decode method_2_code 69 = .ok (.getstatic 31, 3) := by decide +kernel
theorem d1_72 : decode method_2_code 72 = .ok (.areturn, 1) := by decide +kernel
theorem ef_own_rule7 (m : MethodId) (u0 u1 u2 u3 u4 u5 u6 u7 u8 u9 u10 u11 u12 u13 : Addr) (ki0 : Int32) : entryFrame m #[xi (7 : Int32)] 1 = (mkF m 0 #[vi (7 : Int32)] []) := by first | (simp [entryFrame, mkF, argsToLocals, Value.category]; done) | rfl
set_option maxRecDepth 65536 in
set_option maxHeartbeats 40000000 in
theorem own_rule7 (l : Launch) (Z : State) (a0 : Array Value) (hw : ∀ d ∈ tables_1, d.before a0 Z = true) (hj : ∀ d ∈ jdkStatics_1, d.before a0 Z = true) (u0 u1 u2 u3 u4 u5 u6 u7 u8 u9 u10 u11 u12 u13 : Addr) (ki0 : Int32) (G : own_St Z hj u0 u1 u2 u3 u4 u5 u6 u7 u8 u9 u10 u11 u12 u13 ki0) (h0 : Heap) (n0 : Nat) (O0 : Old Z n0 h0) : own_Met l Z Y4 method_2_code 1 (some (.object "com/example/feedwright/feedwright/Rule")) ({ frames := 0, cells := 0, slots := 0, locals := 0 } : Room) #[xi (7 : Int32)] h0 (own_QR (some (xr u3)) h0 n0) := by
  intro ws
  refine MetFree.of_bodySF (plainFor_of_name pn2) hisR ?_
  intro p e s m args below meth c s₁ Bd hml0 hP hK
  obtain ⟨rfl, hZ, hh⟩ := hP
  have hx := Bd.exec
  have hby := Bd.bytes
  have hml : c.maxLocals = 1 := hml0
  have hown : s.vm.findClass "com/example/feedwright/feedwright/FaultRefusesPinLaw" = some m.cls := findClass_of_methodNamed Bd.named
  have hnm := (name_of_methodNamed Bd.named Bd.method).1
  have X0 : Stand p l e ({ frames := 0, cells := 0, slots := 0, locals := 0 } : Room) s m #[xi (7 : Int32)] below meth c s₁ [] 0 0 := Stand.of_body Bd
  have e0 : s₁.heap = h0 := by rw [← hh, Bd.state]; rfl
  have N0 := Fr.nil n0
  have pre0 : ∀ t, Steps p.tables e below (s₁.setTop (mkF m 0 #[vi (7 : Int32)] [])) t → Steps p.tables e below (s₁.setTop (entryFrame m #[xi (7 : Int32)] 1)) t := fun t st => castTop (ef_own_rule7 m u0 u1 u2 u3 u4 u5 u6 u7 u8 u9 u10 u11 u12 u13 ki0) st
  obtain ⟨T1, X1, e1, st1⟩ := getS2 X0 hx hZ hown (host := "") (Or.inl (ww hw 75 rfl)) Via.refl e0 ((own_S_u3 G).ext O0.2) (g := (mkF m 69 #[vi (7 : Int32)] [])) rfl (hb hby d1_69)
  obtain ⟨fs, hr, hrun, hended, hW, hsame⟩ := X1.leave (v := some (xr u3)) (fun h => by rw [Bd.returns] at h; cases h)
  refine ⟨_, _, pre0 _ ?_, hrun, hended, _, _, rfl, ?_, ⟨_, rfl⟩, hW, hsame.mono (by decide) (by decide)⟩
  · show own_S p e below s₁ (mkF m 0 #[vi (7 : Int32)] []) _
    refine XS.iloadN X0.here hx rfl (hb hby d1_0) rfl ?_
    show own_S p e below s₁ (mkF m 1 #[vi (7 : Int32)] [xi (7 : Int32)]) _
    refine XS.ifYes X0.here hx rfl (pc0 := 1) (pc' := 8) rfl (hb hby d1_1) rfl (by decide) (by decide) (by decide) ?_
    show own_S p e below s₁ (mkF m 8 #[vi (7 : Int32)] []) _
    refine XS.iloadN X0.here hx rfl (hb hby d1_8) rfl ?_
    show own_S p e below s₁ (mkF m 9 #[vi (7 : Int32)] [xi (7 : Int32)]) _
    refine XS.iconst X0.here hx rfl (hb hby d1_9) ?_
    show own_S p e below s₁ (mkF m 10 #[vi (7 : Int32)] [xi (1 : Int32), xi (7 : Int32)]) _
    refine XS.icmpYes X0.here hx rfl (pc0 := 10) (pc' := 17) rfl (hb hby d1_10) rfl (by decide) (by decide) (by decide) ?_
    show own_S p e below s₁ (mkF m 17 #[vi (7 : Int32)] []) _
    refine XS.iloadN X0.here hx rfl (hb hby d1_17) rfl ?_
    show own_S p e below s₁ (mkF m 18 #[vi (7 : Int32)] [xi (7 : Int32)]) _
    refine XS.iconst X0.here hx rfl (hb hby d1_18) ?_
    show own_S p e below s₁ (mkF m 19 #[vi (7 : Int32)] [xi (2 : Int32), xi (7 : Int32)]) _
    refine XS.icmpYes X0.here hx rfl (pc0 := 19) (pc' := 26) rfl (hb hby d1_19) rfl (by decide) (by decide) (by decide) ?_
    show own_S p e below s₁ (mkF m 26 #[vi (7 : Int32)] []) _
    refine XS.iloadN X0.here hx rfl (hb hby d1_26) rfl ?_
    show own_S p e below s₁ (mkF m 27 #[vi (7 : Int32)] [xi (7 : Int32)]) _
    refine XS.iconst X0.here hx rfl (hb hby d1_27) ?_
    show own_S p e below s₁ (mkF m 28 #[vi (7 : Int32)] [xi (3 : Int32), xi (7 : Int32)]) _
    refine XS.icmpYes X0.here hx rfl (pc0 := 28) (pc' := 35) rfl (hb hby d1_28) rfl (by decide) (by decide) (by decide) ?_
    show own_S p e below s₁ (mkF m 35 #[vi (7 : Int32)] []) _
    refine XS.iloadN X0.here hx rfl (hb hby d1_35) rfl ?_
    show own_S p e below s₁ (mkF m 36 #[vi (7 : Int32)] [xi (7 : Int32)]) _
    refine XS.iconst X0.here hx rfl (hb hby d1_36) ?_
    show own_S p e below s₁ (mkF m 37 #[vi (7 : Int32)] [xi (4 : Int32), xi (7 : Int32)]) _
    refine XS.icmpYes X0.here hx rfl (pc0 := 37) (pc' := 44) rfl (hb hby d1_37) rfl (by decide) (by decide) (by decide) ?_
    show own_S p e below s₁ (mkF m 44 #[vi (7 : Int32)] []) _
    refine XS.iloadN X0.here hx rfl (hb hby d1_44) rfl ?_
    show own_S p e below s₁ (mkF m 45 #[vi (7 : Int32)] [xi (7 : Int32)]) _
    refine XS.iconst X0.here hx rfl (hb hby d1_45) ?_
    show own_S p e below s₁ (mkF m 46 #[vi (7 : Int32)] [xi (5 : Int32), xi (7 : Int32)]) _
    refine XS.icmpYes X0.here hx rfl (pc0 := 46) (pc' := 53) rfl (hb hby d1_46) rfl (by decide) (by decide) (by decide) ?_
    show own_S p e below s₁ (mkF m 53 #[vi (7 : Int32)] []) _
    refine XS.iloadN X0.here hx rfl (hb hby d1_53) rfl ?_
    show own_S p e below s₁ (mkF m 54 #[vi (7 : Int32)] [xi (7 : Int32)]) _
    refine XS.bipush X0.here hx rfl (hb hby d1_54) ?_
    show own_S p e below s₁ (mkF m 56 #[vi (7 : Int32)] [xi (6 : Int32), xi (7 : Int32)]) _
    refine XS.icmpYes X0.here hx rfl (pc0 := 56) (pc' := 63) rfl (hb hby d1_56) rfl (by decide) (by decide) (by decide) ?_
    show own_S p e below s₁ (mkF m 63 #[vi (7 : Int32)] []) _
    refine XS.iloadN X0.here hx rfl (hb hby d1_63) rfl ?_
    show own_S p e below s₁ (mkF m 64 #[vi (7 : Int32)] [xi (7 : Int32)]) _
    refine XS.bipush X0.here hx rfl (hb hby d1_64) ?_
    show own_S p e below s₁ (mkF m 66 #[vi (7 : Int32)] [xi (7 : Int32), xi (7 : Int32)]) _
    refine XS.icmpNo X0.here hx rfl (hb hby d1_66) rfl (by decide) ?_
    show own_S p e below s₁ (mkF m 69 #[vi (7 : Int32)] []) _
    refine st1 _ ?_
    show own_S p e below T1 (mkF m 72 #[vi (7 : Int32)] [xr u3]) _
    exact X1.areturnOut hx rfl Bd.returns rfl (hb hby d1_72) hr
  · exact ⟨rfl, N0, e1⟩
theorem d1_73 : decode method_2_code 73 = .ok (.iload_n 0, 1) := by decide +kernel
theorem d1_74 : decode method_2_code 74 = .ok (.bipush 8, 2) := by decide +kernel
theorem d1_76 : decode method_2_code 76 = .ok (.if_icmp .ne 7, 3) := by decide +kernel
theorem d1_79 : decode method_2_code 79 = .ok (.getstatic 34, 3) := by decide +kernel
theorem d1_82 : decode method_2_code 82 = .ok (.areturn, 1) := by decide +kernel
theorem ef_own_rule8 (m : MethodId) (u0 u1 u2 u3 u4 u5 u6 u7 u8 u9 u10 u11 u12 u13 : Addr) (ki0 : Int32) : entryFrame m #[xi (8 : Int32)] 1 = (mkF m 0 #[vi (8 : Int32)] []) := by first | (simp [entryFrame, mkF, argsToLocals, Value.category]; done) | rfl
set_option maxRecDepth 65536 in
set_option maxHeartbeats 40000000 in
theorem own_rule8 (l : Launch) (Z : State) (a0 : Array Value) (hw : ∀ d ∈ tables_1, d.before a0 Z = true) (hj : ∀ d ∈ jdkStatics_1, d.before a0 Z = true) (u0 u1 u2 u3 u4 u5 u6 u7 u8 u9 u10 u11 u12 u13 : Addr) (ki0 : Int32) (G : own_St Z hj u0 u1 u2 u3 u4 u5 u6 u7 u8 u9 u10 u11 u12 u13 ki0) (h0 : Heap) (n0 : Nat) (O0 : Old Z n0 h0) : own_Met l Z Y4 method_2_code 1 (some (.object "com/example/feedwright/feedwright/Rule")) ({ frames := 0, cells := 0, slots := 0, locals := 0 } : Room) #[xi (8 : Int32)] h0 (own_QR (some (xr u5)) h0 n0) := by
  intro ws
  refine MetFree.of_bodySF (plainFor_of_name pn2) hisR ?_
  intro p e s m args below meth c s₁ Bd hml0 hP hK
  obtain ⟨rfl, hZ, hh⟩ := hP
  have hx := Bd.exec
  have hby := Bd.bytes
  have hml : c.maxLocals = 1 := hml0
  have hown : s.vm.findClass "com/example/feedwright/feedwright/FaultRefusesPinLaw" = some m.cls := findClass_of_methodNamed Bd.named
  have hnm := (name_of_methodNamed Bd.named Bd.method).1
  have X0 : Stand p l e ({ frames := 0, cells := 0, slots := 0, locals := 0 } : Room) s m #[xi (8 : Int32)] below meth c s₁ [] 0 0 := Stand.of_body Bd
  have e0 : s₁.heap = h0 := by rw [← hh, Bd.state]; rfl
  have N0 := Fr.nil n0
  have pre0 : ∀ t, Steps p.tables e below (s₁.setTop (mkF m 0 #[vi (8 : Int32)] [])) t → Steps p.tables e below (s₁.setTop (entryFrame m #[xi (8 : Int32)] 1)) t := fun t st => castTop (ef_own_rule8 m u0 u1 u2 u3 u4 u5 u6 u7 u8 u9 u10 u11 u12 u13 ki0) st
  obtain ⟨T1, X1, e1, st1⟩ := getS2 X0 hx hZ hown (host := "") (Or.inl (ww hw 79 rfl)) Via.refl e0 ((own_S_u5 G).ext O0.2) (g := (mkF m 79 #[vi (8 : Int32)] [])) rfl (hb hby d1_79)
  obtain ⟨fs, hr, hrun, hended, hW, hsame⟩ := X1.leave (v := some (xr u5)) (fun h => by rw [Bd.returns] at h; cases h)
  refine ⟨_, _, pre0 _ ?_, hrun, hended, _, _, rfl, ?_, ⟨_, rfl⟩, hW, hsame.mono (by decide) (by decide)⟩
  · show own_S p e below s₁ (mkF m 0 #[vi (8 : Int32)] []) _
    refine XS.iloadN X0.here hx rfl (hb hby d1_0) rfl ?_
    show own_S p e below s₁ (mkF m 1 #[vi (8 : Int32)] [xi (8 : Int32)]) _
    refine XS.ifYes X0.here hx rfl (pc0 := 1) (pc' := 8) rfl (hb hby d1_1) rfl (by decide) (by decide) (by decide) ?_
    show own_S p e below s₁ (mkF m 8 #[vi (8 : Int32)] []) _
    refine XS.iloadN X0.here hx rfl (hb hby d1_8) rfl ?_
    show own_S p e below s₁ (mkF m 9 #[vi (8 : Int32)] [xi (8 : Int32)]) _
    refine XS.iconst X0.here hx rfl (hb hby d1_9) ?_
    show own_S p e below s₁ (mkF m 10 #[vi (8 : Int32)] [xi (1 : Int32), xi (8 : Int32)]) _
    refine XS.icmpYes X0.here hx rfl (pc0 := 10) (pc' := 17) rfl (hb hby d1_10) rfl (by decide) (by decide) (by decide) ?_
    show own_S p e below s₁ (mkF m 17 #[vi (8 : Int32)] []) _
    refine XS.iloadN X0.here hx rfl (hb hby d1_17) rfl ?_
    show own_S p e below s₁ (mkF m 18 #[vi (8 : Int32)] [xi (8 : Int32)]) _
    refine XS.iconst X0.here hx rfl (hb hby d1_18) ?_
    show own_S p e below s₁ (mkF m 19 #[vi (8 : Int32)] [xi (2 : Int32), xi (8 : Int32)]) _
    refine XS.icmpYes X0.here hx rfl (pc0 := 19) (pc' := 26) rfl (hb hby d1_19) rfl (by decide) (by decide) (by decide) ?_
    show own_S p e below s₁ (mkF m 26 #[vi (8 : Int32)] []) _
    refine XS.iloadN X0.here hx rfl (hb hby d1_26) rfl ?_
    show own_S p e below s₁ (mkF m 27 #[vi (8 : Int32)] [xi (8 : Int32)]) _
    refine XS.iconst X0.here hx rfl (hb hby d1_27) ?_
    show own_S p e below s₁ (mkF m 28 #[vi (8 : Int32)] [xi (3 : Int32), xi (8 : Int32)]) _
    refine XS.icmpYes X0.here hx rfl (pc0 := 28) (pc' := 35) rfl (hb hby d1_28) rfl (by decide) (by decide) (by decide) ?_
    show own_S p e below s₁ (mkF m 35 #[vi (8 : Int32)] []) _
    refine XS.iloadN X0.here hx rfl (hb hby d1_35) rfl ?_
    show own_S p e below s₁ (mkF m 36 #[vi (8 : Int32)] [xi (8 : Int32)]) _
    refine XS.iconst X0.here hx rfl (hb hby d1_36) ?_
    show own_S p e below s₁ (mkF m 37 #[vi (8 : Int32)] [xi (4 : Int32), xi (8 : Int32)]) _
    refine XS.icmpYes X0.here hx rfl (pc0 := 37) (pc' := 44) rfl (hb hby d1_37) rfl (by decide) (by decide) (by decide) ?_
    show own_S p e below s₁ (mkF m 44 #[vi (8 : Int32)] []) _
    refine XS.iloadN X0.here hx rfl (hb hby d1_44) rfl ?_
    show own_S p e below s₁ (mkF m 45 #[vi (8 : Int32)] [xi (8 : Int32)]) _
    refine XS.iconst X0.here hx rfl (hb hby d1_45) ?_
    show own_S p e below s₁ (mkF m 46 #[vi (8 : Int32)] [xi (5 : Int32), xi (8 : Int32)]) _
    refine XS.icmpYes X0.here hx rfl (pc0 := 46) (pc' := 53) rfl (hb hby d1_46) rfl (by decide) (by decide) (by decide) ?_
    show own_S p e below s₁ (mkF m 53 #[vi (8 : Int32)] []) _
    refine XS.iloadN X0.here hx rfl (hb hby d1_53) rfl ?_
    show own_S p e below s₁ (mkF m 54 #[vi (8 : Int32)] [xi (8 : Int32)]) _
    refine XS.bipush X0.here hx rfl (hb hby d1_54) ?_
    show own_S p e below s₁ (mkF m 56 #[vi (8 : Int32)] [xi (6 : Int32), xi (8 : Int32)]) _
    refine XS.icmpYes X0.here hx rfl (pc0 := 56) (pc' := 63) rfl (hb hby d1_56) rfl (by decide) (by decide) (by decide) ?_
    show own_S p e below s₁ (mkF m 63 #[vi (8 : Int32)] []) _
    refine XS.iloadN X0.here hx rfl (hb hby d1_63) rfl ?_
    show own_S p e below s₁ (mkF m 64 #[vi (8 : Int32)] [xi (8 : Int32)]) _
    refine XS.bipush X0.here hx rfl (hb hby d1_64) ?_
    show own_S p e below s₁ (mkF m 66 #[vi (8 : Int32)] [xi (7 : Int32), xi (8 : Int32)]) _
    refine XS.icmpYes X0.here hx rfl (pc0 := 66) (pc' := 73) rfl (hb hby d1_66) rfl (by decide) (by decide) (by decide) ?_
    show own_S p e below s₁ (mkF m 73 #[vi (8 : Int32)] []) _
    refine XS.iloadN X0.here hx rfl (hb hby d1_73) rfl ?_
    show own_S p e below s₁ (mkF m 74 #[vi (8 : Int32)] [xi (8 : Int32)]) _
    refine XS.bipush X0.here hx rfl (hb hby d1_74) ?_
    show own_S p e below s₁ (mkF m 76 #[vi (8 : Int32)] [xi (8 : Int32), xi (8 : Int32)]) _
    refine XS.icmpNo X0.here hx rfl (hb hby d1_76) rfl (by decide) ?_
    show own_S p e below s₁ (mkF m 79 #[vi (8 : Int32)] []) _
    refine st1 _ ?_
    show own_S p e below T1 (mkF m 82 #[vi (8 : Int32)] [xr u5]) _
    exact X1.areturnOut hx rfl Bd.returns rfl (hb hby d1_82) hr
  · exact ⟨rfl, N0, e1⟩
theorem d1_83 : decode method_2_code 83 = .ok (.iload_n 0, 1) := by decide +kernel
theorem d1_84 : decode method_2_code 84 = .ok (.bipush 9, 2) := by decide +kernel
theorem d1_86 : decode method_2_code 86 = .ok (.if_icmp .ne 7, 3) := by decide +kernel
theorem d1_89 : decode method_2_code 89 = .ok (.getstatic 37, 3) := by decide +kernel
theorem d1_92 : decode method_2_code 92 = .ok (.areturn, 1) := by decide +kernel
theorem ef_own_rule9 (m : MethodId) (u0 u1 u2 u3 u4 u5 u6 u7 u8 u9 u10 u11 u12 u13 : Addr) (ki0 : Int32) : entryFrame m #[xi (9 : Int32)] 1 = (mkF m 0 #[vi (9 : Int32)] []) := by first | (simp [entryFrame, mkF, argsToLocals, Value.category]; done) | rfl
set_option maxRecDepth 65536 in
set_option maxHeartbeats 40000000 in
theorem own_rule9 (l : Launch) (Z : State) (a0 : Array Value) (hw : ∀ d ∈ tables_1, d.before a0 Z = true) (hj : ∀ d ∈ jdkStatics_1, d.before a0 Z = true) (u0 u1 u2 u3 u4 u5 u6 u7 u8 u9 u10 u11 u12 u13 : Addr) (ki0 : Int32) (G : own_St Z hj u0 u1 u2 u3 u4 u5 u6 u7 u8 u9 u10 u11 u12 u13 ki0) (h0 : Heap) (n0 : Nat) (O0 : Old Z n0 h0) : own_Met l Z Y4 method_2_code 1 (some (.object "com/example/feedwright/feedwright/Rule")) ({ frames := 0, cells := 0, slots := 0, locals := 0 } : Room) #[xi (9 : Int32)] h0 (own_QR (some (xr u11)) h0 n0) := by
  intro ws
  refine MetFree.of_bodySF (plainFor_of_name pn2) hisR ?_
  intro p e s m args below meth c s₁ Bd hml0 hP hK
  obtain ⟨rfl, hZ, hh⟩ := hP
  have hx := Bd.exec
  have hby := Bd.bytes
  have hml : c.maxLocals = 1 := hml0
  have hown : s.vm.findClass "com/example/feedwright/feedwright/FaultRefusesPinLaw" = some m.cls := findClass_of_methodNamed Bd.named
  have hnm := (name_of_methodNamed Bd.named Bd.method).1
  have X0 : Stand p l e ({ frames := 0, cells := 0, slots := 0, locals := 0 } : Room) s m #[xi (9 : Int32)] below meth c s₁ [] 0 0 := Stand.of_body Bd
  have e0 : s₁.heap = h0 := by rw [← hh, Bd.state]; rfl
  have N0 := Fr.nil n0
  have pre0 : ∀ t, Steps p.tables e below (s₁.setTop (mkF m 0 #[vi (9 : Int32)] [])) t → Steps p.tables e below (s₁.setTop (entryFrame m #[xi (9 : Int32)] 1)) t := fun t st => castTop (ef_own_rule9 m u0 u1 u2 u3 u4 u5 u6 u7 u8 u9 u10 u11 u12 u13 ki0) st
  obtain ⟨T1, X1, e1, st1⟩ := getS2 X0 hx hZ hown (host := "") (Or.inl (ww hw 91 rfl)) Via.refl e0 ((own_S_u11 G).ext O0.2) (g := (mkF m 89 #[vi (9 : Int32)] [])) rfl (hb hby d1_89)
  obtain ⟨fs, hr, hrun, hended, hW, hsame⟩ := X1.leave (v := some (xr u11)) (fun h => by rw [Bd.returns] at h; cases h)
  refine ⟨_, _, pre0 _ ?_, hrun, hended, _, _, rfl, ?_, ⟨_, rfl⟩, hW, hsame.mono (by decide) (by decide)⟩
  · show own_S p e below s₁ (mkF m 0 #[vi (9 : Int32)] []) _
    refine XS.iloadN X0.here hx rfl (hb hby d1_0) rfl ?_
    show own_S p e below s₁ (mkF m 1 #[vi (9 : Int32)] [xi (9 : Int32)]) _
    refine XS.ifYes X0.here hx rfl (pc0 := 1) (pc' := 8) rfl (hb hby d1_1) rfl (by decide) (by decide) (by decide) ?_
    show own_S p e below s₁ (mkF m 8 #[vi (9 : Int32)] []) _
    refine XS.iloadN X0.here hx rfl (hb hby d1_8) rfl ?_
    show own_S p e below s₁ (mkF m 9 #[vi (9 : Int32)] [xi (9 : Int32)]) _
    refine XS.iconst X0.here hx rfl (hb hby d1_9) ?_
    show own_S p e below s₁ (mkF m 10 #[vi (9 : Int32)] [xi (1 : Int32), xi (9 : Int32)]) _
    refine XS.icmpYes X0.here hx rfl (pc0 := 10) (pc' := 17) rfl (hb hby d1_10) rfl (by decide) (by decide) (by decide) ?_
    show own_S p e below s₁ (mkF m 17 #[vi (9 : Int32)] []) _
    refine XS.iloadN X0.here hx rfl (hb hby d1_17) rfl ?_
    show own_S p e below s₁ (mkF m 18 #[vi (9 : Int32)] [xi (9 : Int32)]) _
    refine XS.iconst X0.here hx rfl (hb hby d1_18) ?_
    show own_S p e below s₁ (mkF m 19 #[vi (9 : Int32)] [xi (2 : Int32), xi (9 : Int32)]) _
    refine XS.icmpYes X0.here hx rfl (pc0 := 19) (pc' := 26) rfl (hb hby d1_19) rfl (by decide) (by decide) (by decide) ?_
    show own_S p e below s₁ (mkF m 26 #[vi (9 : Int32)] []) _
    refine XS.iloadN X0.here hx rfl (hb hby d1_26) rfl ?_
    show own_S p e below s₁ (mkF m 27 #[vi (9 : Int32)] [xi (9 : Int32)]) _
    refine XS.iconst X0.here hx rfl (hb hby d1_27) ?_
    show own_S p e below s₁ (mkF m 28 #[vi (9 : Int32)] [xi (3 : Int32), xi (9 : Int32)]) _
    refine XS.icmpYes X0.here hx rfl (pc0 := 28) (pc' := 35) rfl (hb hby d1_28) rfl (by decide) (by decide) (by decide) ?_
    show own_S p e below s₁ (mkF m 35 #[vi (9 : Int32)] []) _
    refine XS.iloadN X0.here hx rfl (hb hby d1_35) rfl ?_
    show own_S p e below s₁ (mkF m 36 #[vi (9 : Int32)] [xi (9 : Int32)]) _
    refine XS.iconst X0.here hx rfl (hb hby d1_36) ?_
    show own_S p e below s₁ (mkF m 37 #[vi (9 : Int32)] [xi (4 : Int32), xi (9 : Int32)]) _
    refine XS.icmpYes X0.here hx rfl (pc0 := 37) (pc' := 44) rfl (hb hby d1_37) rfl (by decide) (by decide) (by decide) ?_
    show own_S p e below s₁ (mkF m 44 #[vi (9 : Int32)] []) _
    refine XS.iloadN X0.here hx rfl (hb hby d1_44) rfl ?_
    show own_S p e below s₁ (mkF m 45 #[vi (9 : Int32)] [xi (9 : Int32)]) _
    refine XS.iconst X0.here hx rfl (hb hby d1_45) ?_
    show own_S p e below s₁ (mkF m 46 #[vi (9 : Int32)] [xi (5 : Int32), xi (9 : Int32)]) _
    refine XS.icmpYes X0.here hx rfl (pc0 := 46) (pc' := 53) rfl (hb hby d1_46) rfl (by decide) (by decide) (by decide) ?_
    show own_S p e below s₁ (mkF m 53 #[vi (9 : Int32)] []) _
    refine XS.iloadN X0.here hx rfl (hb hby d1_53) rfl ?_
    show own_S p e below s₁ (mkF m 54 #[vi (9 : Int32)] [xi (9 : Int32)]) _
    refine XS.bipush X0.here hx rfl (hb hby d1_54) ?_
    show own_S p e below s₁ (mkF m 56 #[vi (9 : Int32)] [xi (6 : Int32), xi (9 : Int32)]) _
    refine XS.icmpYes X0.here hx rfl (pc0 := 56) (pc' := 63) rfl (hb hby d1_56) rfl (by decide) (by decide) (by decide) ?_
    show own_S p e below s₁ (mkF m 63 #[vi (9 : Int32)] []) _
    refine XS.iloadN X0.here hx rfl (hb hby d1_63) rfl ?_
    show own_S p e below s₁ (mkF m 64 #[vi (9 : Int32)] [xi (9 : Int32)]) _
    refine XS.bipush X0.here hx rfl (hb hby d1_64) ?_
    show own_S p e below s₁ (mkF m 66 #[vi (9 : Int32)] [xi (7 : Int32), xi (9 : Int32)]) _
    refine XS.icmpYes X0.here hx rfl (pc0 := 66) (pc' := 73) rfl (hb hby d1_66) rfl (by decide) (by decide) (by decide) ?_
    show own_S p e below s₁ (mkF m 73 #[vi (9 : Int32)] []) _
    refine XS.iloadN X0.here hx rfl (hb hby d1_73) rfl ?_
    show own_S p e below s₁ (mkF m 74 #[vi (9 : Int32)] [xi (9 : Int32)]) _
    refine XS.bipush X0.here hx rfl (hb hby d1_74) ?_
    show own_S p e below s₁ (mkF m 76 #[vi (9 : Int32)] [xi (8 : Int32), xi (9 : Int32)]) _
    refine XS.icmpYes X0.here hx rfl (pc0 := 76) (pc' := 83) rfl (hb hby d1_76) rfl (by decide) (by decide) (by decide) ?_
    show own_S p e below s₁ (mkF m 83 #[vi (9 : Int32)] []) _
    refine XS.iloadN X0.here hx rfl (hb hby d1_83) rfl ?_
    show own_S p e below s₁ (mkF m 84 #[vi (9 : Int32)] [xi (9 : Int32)]) _
    refine XS.bipush X0.here hx rfl (hb hby d1_84) ?_
    show own_S p e below s₁ (mkF m 86 #[vi (9 : Int32)] [xi (9 : Int32), xi (9 : Int32)]) _
    refine XS.icmpNo X0.here hx rfl (hb hby d1_86) rfl (by decide) ?_
    show own_S p e below s₁ (mkF m 89 #[vi (9 : Int32)] []) _
    refine st1 _ ?_
    show own_S p e below T1 (mkF m 92 #[vi (9 : Int32)] [xr u11]) _
    exact X1.areturnOut hx rfl Bd.returns rfl (hb hby d1_92) hr
  · exact ⟨rfl, N0, e1⟩
theorem d1_93 : decode method_2_code 93 = .ok (.iload_n 0, 1) := by decide +kernel
theorem d1_94 : decode method_2_code 94 = .ok (.bipush 10, 2) := by decide +kernel
theorem d1_96 : decode method_2_code 96 = .ok (.if_icmp .ne 7, 3) := by decide +kernel
theorem d1_99 : decode method_2_code 99 = .ok (.getstatic 40, 3) := by decide +kernel
theorem d1_102 : decode method_2_code 102 = .ok (.areturn, 1) := by decide +kernel
theorem ef_own_rule10 (m : MethodId) (u0 u1 u2 u3 u4 u5 u6 u7 u8 u9 u10 u11 u12 u13 : Addr) (ki0 : Int32) : entryFrame m #[xi (10 : Int32)] 1 = (mkF m 0 #[vi (10 : Int32)] []) := by first | (simp [entryFrame, mkF, argsToLocals, Value.category]; done) | rfl
set_option maxRecDepth 65536 in
set_option maxHeartbeats 40000000 in
theorem own_rule10 (l : Launch) (Z : State) (a0 : Array Value) (hw : ∀ d ∈ tables_1, d.before a0 Z = true) (hj : ∀ d ∈ jdkStatics_1, d.before a0 Z = true) (u0 u1 u2 u3 u4 u5 u6 u7 u8 u9 u10 u11 u12 u13 : Addr) (ki0 : Int32) (G : own_St Z hj u0 u1 u2 u3 u4 u5 u6 u7 u8 u9 u10 u11 u12 u13 ki0) (h0 : Heap) (n0 : Nat) (O0 : Old Z n0 h0) : own_Met l Z Y4 method_2_code 1 (some (.object "com/example/feedwright/feedwright/Rule")) ({ frames := 0, cells := 0, slots := 0, locals := 0 } : Room) #[xi (10 : Int32)] h0 (own_QR (some (xr u4)) h0 n0) := by
  intro ws
  refine MetFree.of_bodySF (plainFor_of_name pn2) hisR ?_
  intro p e s m args below meth c s₁ Bd hml0 hP hK
  obtain ⟨rfl, hZ, hh⟩ := hP
  have hx := Bd.exec
  have hby := Bd.bytes
  have hml : c.maxLocals = 1 := hml0
  have hown : s.vm.findClass "com/example/feedwright/feedwright/FaultRefusesPinLaw" = some m.cls := findClass_of_methodNamed Bd.named
  have hnm := (name_of_methodNamed Bd.named Bd.method).1
  have X0 : Stand p l e ({ frames := 0, cells := 0, slots := 0, locals := 0 } : Room) s m #[xi (10 : Int32)] below meth c s₁ [] 0 0 := Stand.of_body Bd
  have e0 : s₁.heap = h0 := by rw [← hh, Bd.state]; rfl
  have N0 := Fr.nil n0
  have pre0 : ∀ t, Steps p.tables e below (s₁.setTop (mkF m 0 #[vi (10 : Int32)] [])) t → Steps p.tables e below (s₁.setTop (entryFrame m #[xi (10 : Int32)] 1)) t := fun t st => castTop (ef_own_rule10 m u0 u1 u2 u3 u4 u5 u6 u7 u8 u9 u10 u11 u12 u13 ki0) st
  obtain ⟨T1, X1, e1, st1⟩ := getS2 X0 hx hZ hown (host := "") (Or.inl (ww hw 77 rfl)) Via.refl e0 ((own_S_u4 G).ext O0.2) (g := (mkF m 99 #[vi (10 : Int32)] [])) rfl (hb hby d1_99)
  obtain ⟨fs, hr, hrun, hended, hW, hsame⟩ := X1.leave (v := some (xr u4)) (fun h => by rw [Bd.returns] at h; cases h)
  refine ⟨_, _, pre0 _ ?_, hrun, hended, _, _, rfl, ?_, ⟨_, rfl⟩, hW, hsame.mono (by decide) (by decide)⟩
  · show own_S p e below s₁ (mkF m 0 #[vi (10 : Int32)] []) _
    refine XS.iloadN X0.here hx rfl (hb hby d1_0) rfl ?_
    show own_S p e below s₁ (mkF m 1 #[vi (10 : Int32)] [xi (10 : Int32)]) _
    refine XS.ifYes X0.here hx rfl (pc0 := 1) (pc' := 8) rfl (hb hby d1_1) rfl (by decide) (by decide) (by decide) ?_
    show own_S p e below s₁ (mkF m 8 #[vi (10 : Int32)] []) _
    refine XS.iloadN X0.here hx rfl (hb hby d1_8) rfl ?_
    show own_S p e below s₁ (mkF m 9 #[vi (10 : Int32)] [xi (10 : Int32)]) _
    refine XS.iconst X0.here hx rfl (hb hby d1_9) ?_
    show own_S p e below s₁ (mkF m 10 #[vi (10 : Int32)] [xi (1 : Int32), xi (10 : Int32)]) _
    refine XS.icmpYes X0.here hx rfl (pc0 := 10) (pc' := 17) rfl (hb hby d1_10) rfl (by decide) (by decide) (by decide) ?_
    show own_S p e below s₁ (mkF m 17 #[vi (10 : Int32)] []) _
    refine XS.iloadN X0.here hx rfl (hb hby d1_17) rfl ?_
    show own_S p e below s₁ (mkF m 18 #[vi (10 : Int32)] [xi (10 : Int32)]) _
    refine XS.iconst X0.here hx rfl (hb hby d1_18) ?_
    show own_S p e below s₁ (mkF m 19 #[vi (10 : Int32)] [xi (2 : Int32), xi (10 : Int32)]) _
    refine XS.icmpYes X0.here hx rfl (pc0 := 19) (pc' := 26) rfl (hb hby d1_19) rfl (by decide) (by decide) (by decide) ?_
    show own_S p e below s₁ (mkF m 26 #[vi (10 : Int32)] []) _
    refine XS.iloadN X0.here hx rfl (hb hby d1_26) rfl ?_
    show own_S p e below s₁ (mkF m 27 #[vi (10 : Int32)] [xi (10 : Int32)]) _
    refine XS.iconst X0.here hx rfl (hb hby d1_27) ?_
    show own_S p e below s₁ (mkF m 28 #[vi (10 : Int32)] [xi (3 : Int32), xi (10 : Int32)]) _
    refine XS.icmpYes X0.here hx rfl (pc0 := 28) (pc' := 35) rfl (hb hby d1_28) rfl (by decide) (by decide) (by decide) ?_
    show own_S p e below s₁ (mkF m 35 #[vi (10 : Int32)] []) _
    refine XS.iloadN X0.here hx rfl (hb hby d1_35) rfl ?_
    show own_S p e below s₁ (mkF m 36 #[vi (10 : Int32)] [xi (10 : Int32)]) _
    refine XS.iconst X0.here hx rfl (hb hby d1_36) ?_
    show own_S p e below s₁ (mkF m 37 #[vi (10 : Int32)] [xi (4 : Int32), xi (10 : Int32)]) _
    refine XS.icmpYes X0.here hx rfl (pc0 := 37) (pc' := 44) rfl (hb hby d1_37) rfl (by decide) (by decide) (by decide) ?_
    show own_S p e below s₁ (mkF m 44 #[vi (10 : Int32)] []) _
    refine XS.iloadN X0.here hx rfl (hb hby d1_44) rfl ?_
    show own_S p e below s₁ (mkF m 45 #[vi (10 : Int32)] [xi (10 : Int32)]) _
    refine XS.iconst X0.here hx rfl (hb hby d1_45) ?_
    show own_S p e below s₁ (mkF m 46 #[vi (10 : Int32)] [xi (5 : Int32), xi (10 : Int32)]) _
    refine XS.icmpYes X0.here hx rfl (pc0 := 46) (pc' := 53) rfl (hb hby d1_46) rfl (by decide) (by decide) (by decide) ?_
    show own_S p e below s₁ (mkF m 53 #[vi (10 : Int32)] []) _
    refine XS.iloadN X0.here hx rfl (hb hby d1_53) rfl ?_
    show own_S p e below s₁ (mkF m 54 #[vi (10 : Int32)] [xi (10 : Int32)]) _
    refine XS.bipush X0.here hx rfl (hb hby d1_54) ?_
    show own_S p e below s₁ (mkF m 56 #[vi (10 : Int32)] [xi (6 : Int32), xi (10 : Int32)]) _
    refine XS.icmpYes X0.here hx rfl (pc0 := 56) (pc' := 63) rfl (hb hby d1_56) rfl (by decide) (by decide) (by decide) ?_
    show own_S p e below s₁ (mkF m 63 #[vi (10 : Int32)] []) _
    refine XS.iloadN X0.here hx rfl (hb hby d1_63) rfl ?_
    show own_S p e below s₁ (mkF m 64 #[vi (10 : Int32)] [xi (10 : Int32)]) _
    refine XS.bipush X0.here hx rfl (hb hby d1_64) ?_
    show own_S p e below s₁ (mkF m 66 #[vi (10 : Int32)] [xi (7 : Int32), xi (10 : Int32)]) _
    refine XS.icmpYes X0.here hx rfl (pc0 := 66) (pc' := 73) rfl (hb hby d1_66) rfl (by decide) (by decide) (by decide) ?_
    show own_S p e below s₁ (mkF m 73 #[vi (10 : Int32)] []) _
    refine XS.iloadN X0.here hx rfl (hb hby d1_73) rfl ?_
    show own_S p e below s₁ (mkF m 74 #[vi (10 : Int32)] [xi (10 : Int32)]) _
    refine XS.bipush X0.here hx rfl (hb hby d1_74) ?_
    show own_S p e below s₁ (mkF m 76 #[vi (10 : Int32)] [xi (8 : Int32), xi (10 : Int32)]) _
    refine XS.icmpYes X0.here hx rfl (pc0 := 76) (pc' := 83) rfl (hb hby d1_76) rfl (by decide) (by decide) (by decide) ?_
    show own_S p e below s₁ (mkF m 83 #[vi (10 : Int32)] []) _
    refine XS.iloadN X0.here hx rfl (hb hby d1_83) rfl ?_
    show own_S p e below s₁ (mkF m 84 #[vi (10 : Int32)] [xi (10 : Int32)]) _
    refine XS.bipush X0.here hx rfl (hb hby d1_84) ?_
    show own_S p e below s₁ (mkF m 86 #[vi (10 : Int32)] [xi (9 : Int32), xi (10 : Int32)]) _
    refine XS.icmpYes X0.here hx rfl (pc0 := 86) (pc' := 93) rfl (hb hby d1_86) rfl (by decide) (by decide) (by decide) ?_
    show own_S p e below s₁ (mkF m 93 #[vi (10 : Int32)] []) _
    refine XS.iloadN X0.here hx rfl (hb hby d1_93) rfl ?_
    show own_S p e below s₁ (mkF m 94 #[vi (10 : Int32)] [xi (10 : Int32)]) _
    refine XS.bipush X0.here hx rfl (hb hby d1_94) ?_
    show own_S p e below s₁ (mkF m 96 #[vi (10 : Int32)] [xi (10 : Int32), xi (10 : Int32)]) _
    refine XS.icmpNo X0.here hx rfl (hb hby d1_96) rfl (by decide) ?_
    show own_S p e below s₁ (mkF m 99 #[vi (10 : Int32)] []) _
    refine st1 _ ?_
    show own_S p e below T1 (mkF m 102 #[vi (10 : Int32)] [xr u4]) _
    exact X1.areturnOut hx rfl Bd.returns rfl (hb hby d1_102) hr
  · exact ⟨rfl, N0, e1⟩
theorem d1_103 : decode method_2_code 103 = .ok (.getstatic 43, 3) := by decide +kernel
theorem d1_106 : decode method_2_code 106 = .ok (.areturn, 1) := by decide +kernel
theorem ef_own_rule11 (m : MethodId) (u0 u1 u2 u3 u4 u5 u6 u7 u8 u9 u10 u11 u12 u13 : Addr) (ki0 : Int32) : entryFrame m #[xi (11 : Int32)] 1 = (mkF m 0 #[vi (11 : Int32)] []) := by first | (simp [entryFrame, mkF, argsToLocals, Value.category]; done) | rfl
set_option maxRecDepth 65536 in
set_option maxHeartbeats 40000000 in
theorem own_rule11 (l : Launch) (Z : State) (a0 : Array Value) (hw : ∀ d ∈ tables_1, d.before a0 Z = true) (hj : ∀ d ∈ jdkStatics_1, d.before a0 Z = true) (u0 u1 u2 u3 u4 u5 u6 u7 u8 u9 u10 u11 u12 u13 : Addr) (ki0 : Int32) (G : own_St Z hj u0 u1 u2 u3 u4 u5 u6 u7 u8 u9 u10 u11 u12 u13 ki0) (h0 : Heap) (n0 : Nat) (O0 : Old Z n0 h0) : own_Met l Z Y4 method_2_code 1 (some (.object "com/example/feedwright/feedwright/Rule")) ({ frames := 0, cells := 0, slots := 0, locals := 0 } : Room) #[xi (11 : Int32)] h0 (own_QR (some (xr u12)) h0 n0) := by
  intro ws
  refine MetFree.of_bodySF (plainFor_of_name pn2) hisR ?_
  intro p e s m args below meth c s₁ Bd hml0 hP hK
  obtain ⟨rfl, hZ, hh⟩ := hP
  have hx := Bd.exec
  have hby := Bd.bytes
  have hml : c.maxLocals = 1 := hml0
  have hown : s.vm.findClass "com/example/feedwright/feedwright/FaultRefusesPinLaw" = some m.cls := findClass_of_methodNamed Bd.named
  have hnm := (name_of_methodNamed Bd.named Bd.method).1
  have X0 : Stand p l e ({ frames := 0, cells := 0, slots := 0, locals := 0 } : Room) s m #[xi (11 : Int32)] below meth c s₁ [] 0 0 := Stand.of_body Bd
  have e0 : s₁.heap = h0 := by rw [← hh, Bd.state]; rfl
  have N0 := Fr.nil n0
  have pre0 : ∀ t, Steps p.tables e below (s₁.setTop (mkF m 0 #[vi (11 : Int32)] [])) t → Steps p.tables e below (s₁.setTop (entryFrame m #[xi (11 : Int32)] 1)) t := fun t st => castTop (ef_own_rule11 m u0 u1 u2 u3 u4 u5 u6 u7 u8 u9 u10 u11 u12 u13 ki0) st
  obtain ⟨T1, X1, e1, st1⟩ := getS2 X0 hx hZ hown (host := "") (Or.inl (ww hw 93 rfl)) Via.refl e0 ((own_S_u12 G).ext O0.2) (g := (mkF m 103 #[vi (11 : Int32)] [])) rfl (hb hby d1_103)
  obtain ⟨fs, hr, hrun, hended, hW, hsame⟩ := X1.leave (v := some (xr u12)) (fun h => by rw [Bd.returns] at h; cases h)
  refine ⟨_, _, pre0 _ ?_, hrun, hended, _, _, rfl, ?_, ⟨_, rfl⟩, hW, hsame.mono (by decide) (by decide)⟩
  · show own_S p e below s₁ (mkF m 0 #[vi (11 : Int32)] []) _
    refine XS.iloadN X0.here hx rfl (hb hby d1_0) rfl ?_
    show own_S p e below s₁ (mkF m 1 #[vi (11 : Int32)] [xi (11 : Int32)]) _
    refine XS.ifYes X0.here hx rfl (pc0 := 1) (pc' := 8) rfl (hb hby d1_1) rfl (by decide) (by decide) (by decide) ?_
    show own_S p e below s₁ (mkF m 8 #[vi (11 : Int32)] []) _
    refine XS.iloadN X0.here hx rfl (hb hby d1_8) rfl ?_
    show own_S p e below s₁ (mkF m 9 #[vi (11 : Int32)] [xi (11 : Int32)]) _
    refine XS.iconst X0.here hx rfl (hb hby d1_9) ?_
    show own_S p e below s₁ (mkF m 10 #[vi (11 : Int32)] [xi (1 : Int32), xi (11 : Int32)]) _
    refine XS.icmpYes X0.here hx rfl (pc0 := 10) (pc' := 17) rfl (hb hby d1_10) rfl (by decide) (by decide) (by decide) ?_
    show own_S p e below s₁ (mkF m 17 #[vi (11 : Int32)] []) _
    refine XS.iloadN X0.here hx rfl (hb hby d1_17) rfl ?_
    show own_S p e below s₁ (mkF m 18 #[vi (11 : Int32)] [xi (11 : Int32)]) _
    refine XS.iconst X0.here hx rfl (hb hby d1_18) ?_
    show own_S p e below s₁ (mkF m 19 #[vi (11 : Int32)] [xi (2 : Int32), xi (11 : Int32)]) _
    refine XS.icmpYes X0.here hx rfl (pc0 := 19) (pc' := 26) rfl (hb hby d1_19) rfl (by decide) (by decide) (by decide) ?_
    show own_S p e below s₁ (mkF m 26 #[vi (11 : Int32)] []) _
    refine XS.iloadN X0.here hx rfl (hb hby d1_26) rfl ?_
    show own_S p e below s₁ (mkF m 27 #[vi (11 : Int32)] [xi (11 : Int32)]) _
    refine XS.iconst X0.here hx rfl (hb hby d1_27) ?_
    show own_S p e below s₁ (mkF m 28 #[vi (11 : Int32)] [xi (3 : Int32), xi (11 : Int32)]) _
    refine XS.icmpYes X0.here hx rfl (pc0 := 28) (pc' := 35) rfl (hb hby d1_28) rfl (by decide) (by decide) (by decide) ?_
    show own_S p e below s₁ (mkF m 35 #[vi (11 : Int32)] []) _
    refine XS.iloadN X0.here hx rfl (hb hby d1_35) rfl ?_
    show own_S p e below s₁ (mkF m 36 #[vi (11 : Int32)] [xi (11 : Int32)]) _
    refine XS.iconst X0.here hx rfl (hb hby d1_36) ?_
    show own_S p e below s₁ (mkF m 37 #[vi (11 : Int32)] [xi (4 : Int32), xi (11 : Int32)]) _
    refine XS.icmpYes X0.here hx rfl (pc0 := 37) (pc' := 44) rfl (hb hby d1_37) rfl (by decide) (by decide) (by decide) ?_
    show own_S p e below s₁ (mkF m 44 #[vi (11 : Int32)] []) _
    refine XS.iloadN X0.here hx rfl (hb hby d1_44) rfl ?_
    show own_S p e below s₁ (mkF m 45 #[vi (11 : Int32)] [xi (11 : Int32)]) _
    refine XS.iconst X0.here hx rfl (hb hby d1_45) ?_
    show own_S p e below s₁ (mkF m 46 #[vi (11 : Int32)] [xi (5 : Int32), xi (11 : Int32)]) _
    refine XS.icmpYes X0.here hx rfl (pc0 := 46) (pc' := 53) rfl (hb hby d1_46) rfl (by decide) (by decide) (by decide) ?_
    show own_S p e below s₁ (mkF m 53 #[vi (11 : Int32)] []) _
    refine XS.iloadN X0.here hx rfl (hb hby d1_53) rfl ?_
    show own_S p e below s₁ (mkF m 54 #[vi (11 : Int32)] [xi (11 : Int32)]) _
    refine XS.bipush X0.here hx rfl (hb hby d1_54) ?_
    show own_S p e below s₁ (mkF m 56 #[vi (11 : Int32)] [xi (6 : Int32), xi (11 : Int32)]) _
    refine XS.icmpYes X0.here hx rfl (pc0 := 56) (pc' := 63) rfl (hb hby d1_56) rfl (by decide) (by decide) (by decide) ?_
    show own_S p e below s₁ (mkF m 63 #[vi (11 : Int32)] []) _
    refine XS.iloadN X0.here hx rfl (hb hby d1_63) rfl ?_
    show own_S p e below s₁ (mkF m 64 #[vi (11 : Int32)] [xi (11 : Int32)]) _
    refine XS.bipush X0.here hx rfl (hb hby d1_64) ?_
    show own_S p e below s₁ (mkF m 66 #[vi (11 : Int32)] [xi (7 : Int32), xi (11 : Int32)]) _
    refine XS.icmpYes X0.here hx rfl (pc0 := 66) (pc' := 73) rfl (hb hby d1_66) rfl (by decide) (by decide) (by decide) ?_
    show own_S p e below s₁ (mkF m 73 #[vi (11 : Int32)] []) _
    refine XS.iloadN X0.here hx rfl (hb hby d1_73) rfl ?_
    show own_S p e below s₁ (mkF m 74 #[vi (11 : Int32)] [xi (11 : Int32)]) _
    refine XS.bipush X0.here hx rfl (hb hby d1_74) ?_
    show own_S p e below s₁ (mkF m 76 #[vi (11 : Int32)] [xi (8 : Int32), xi (11 : Int32)]) _
    refine XS.icmpYes X0.here hx rfl (pc0 := 76) (pc' := 83) rfl (hb hby d1_76) rfl (by decide) (by decide) (by decide) ?_
    show own_S p e below s₁ (mkF m 83 #[vi (11 : Int32)] []) _
    refine XS.iloadN X0.here hx rfl (hb hby d1_83) rfl ?_
    show own_S p e below s₁ (mkF m 84 #[vi (11 : Int32)] [xi (11 : Int32)]) _
    refine XS.bipush X0.here hx rfl (hb hby d1_84) ?_
    show own_S p e below s₁ (mkF m 86 #[vi (11 : Int32)] [xi (9 : Int32), xi (11 : Int32)]) _
    refine XS.icmpYes X0.here hx rfl (pc0 := 86) (pc' := 93) rfl (hb hby d1_86) rfl (by decide) (by decide) (by decide) ?_
    show own_S p e below s₁ (mkF m 93 #[vi (11 : Int32)] []) _
    refine XS.iloadN X0.here hx rfl (hb hby d1_93) rfl ?_
    show own_S p e below s₁ (mkF m 94 #[vi (11 : Int32)] [xi (11 : Int32)]) _
    refine XS.bipush X0.here hx rfl (hb hby d1_94) ?_
    show own_S p e below s₁ (mkF m 96 #[vi (11 : Int32)] [xi (10 : Int32), xi (11 : Int32)]) _
    refine XS.icmpYes X0.here hx rfl (pc0 := 96) (pc' := 103) rfl (hb hby d1_96) rfl (by decide) (by decide) (by decide) ?_
    show own_S p e below s₁ (mkF m 103 #[vi (11 : Int32)] []) _
    refine st1 _ ?_
    show own_S p e below T1 (mkF m 106 #[vi (11 : Int32)] [xr u12]) _
    exact X1.areturnOut hx rfl Bd.returns rfl (hb hby d1_106) hr
  · exact ⟨rfl, N0, e1⟩
def own_isr (u0 u1 u2 u3 u4 u5 u6 u7 u8 u9 u10 u11 u12 u13 : Addr) (ki0 : Int32) (i : Int32) (ru : Addr) : Prop := (i = (0 : Int32) ∧ ru = u9) ∨ (i = (1 : Int32) ∧ ru = u7) ∨ (i = (2 : Int32) ∧ ru = u8) ∨ (i = (3 : Int32) ∧ ru = u1) ∨ (i = (4 : Int32) ∧ ru = u10) ∨ (i = (5 : Int32) ∧ ru = u6) ∨ (i = (6 : Int32) ∧ ru = u13) ∨ (i = (7 : Int32) ∧ ru = u3) ∨ (i = (8 : Int32) ∧ ru = u5) ∨ (i = (9 : Int32) ∧ ru = u11) ∨ (i = (10 : Int32) ∧ ru = u4) ∨ (i = (11 : Int32) ∧ ru = u12)
theorem own_rule (l : Launch) (Z : State) (a0 : Array Value) (hw : ∀ d ∈ tables_1, d.before a0 Z = true) (hj : ∀ d ∈ jdkStatics_1, d.before a0 Z = true) (u0 u1 u2 u3 u4 u5 u6 u7 u8 u9 u10 u11 u12 u13 : Addr) (ki0 : Int32) (G : own_St Z hj u0 u1 u2 u3 u4 u5 u6 u7 u8 u9 u10 u11 u12 u13 ki0) (i : Int32) (ru : Addr) (hv : own_isr u0 u1 u2 u3 u4 u5 u6 u7 u8 u9 u10 u11 u12 u13 ki0 i ru) (h0 : Heap) (n0 : Nat) (O0 : Old Z n0 h0) : own_Met l Z Y4 method_2_code 1 (some (.object "com/example/feedwright/feedwright/Rule")) ({ frames := 0, cells := 0, slots := 0, locals := 0 } : Room) #[(.int i)] h0 (own_QR (some (.ref ru)) h0 n0) := by
  rcases hv with ⟨hi, hu⟩ | ⟨hi, hu⟩ | ⟨hi, hu⟩ | ⟨hi, hu⟩ | ⟨hi, hu⟩ | ⟨hi, hu⟩ | ⟨hi, hu⟩ | ⟨hi, hu⟩ | ⟨hi, hu⟩ | ⟨hi, hu⟩ | ⟨hi, hu⟩ | ⟨hi, hu⟩
  · rw [hi, hu]; exact own_rule0 l Z a0 hw hj u0 u1 u2 u3 u4 u5 u6 u7 u8 u9 u10 u11 u12 u13 ki0 G h0 n0 O0
  · rw [hi, hu]; exact own_rule1 l Z a0 hw hj u0 u1 u2 u3 u4 u5 u6 u7 u8 u9 u10 u11 u12 u13 ki0 G h0 n0 O0
  · rw [hi, hu]; exact own_rule2 l Z a0 hw hj u0 u1 u2 u3 u4 u5 u6 u7 u8 u9 u10 u11 u12 u13 ki0 G h0 n0 O0
  · rw [hi, hu]; exact own_rule3 l Z a0 hw hj u0 u1 u2 u3 u4 u5 u6 u7 u8 u9 u10 u11 u12 u13 ki0 G h0 n0 O0
  · rw [hi, hu]; exact own_rule4 l Z a0 hw hj u0 u1 u2 u3 u4 u5 u6 u7 u8 u9 u10 u11 u12 u13 ki0 G h0 n0 O0
  · rw [hi, hu]; exact own_rule5 l Z a0 hw hj u0 u1 u2 u3 u4 u5 u6 u7 u8 u9 u10 u11 u12 u13 ki0 G h0 n0 O0
  · rw [hi, hu]; exact own_rule6 l Z a0 hw hj u0 u1 u2 u3 u4 u5 u6 u7 u8 u9 u10 u11 u12 u13 ki0 G h0 n0 O0
  · rw [hi, hu]; exact own_rule7 l Z a0 hw hj u0 u1 u2 u3 u4 u5 u6 u7 u8 u9 u10 u11 u12 u13 ki0 G h0 n0 O0
  · rw [hi, hu]; exact own_rule8 l Z a0 hw hj u0 u1 u2 u3 u4 u5 u6 u7 u8 u9 u10 u11 u12 u13 ki0 G h0 n0 O0
  · rw [hi, hu]; exact own_rule9 l Z a0 hw hj u0 u1 u2 u3 u4 u5 u6 u7 u8 u9 u10 u11 u12 u13 ki0 G h0 n0 O0
  · rw [hi, hu]; exact own_rule10 l Z a0 hw hj u0 u1 u2 u3 u4 u5 u6 u7 u8 u9 u10 u11 u12 u13 ki0 G h0 n0 O0
  · rw [hi, hu]; exact own_rule11 l Z a0 hw hj u0 u1 u2 u3 u4 u5 u6 u7 u8 u9 u10 u11 u12 u13 ki0 G h0 n0 O0
def own_FT (Z : State) (h : Heap) (a f r l m : Addr) : Prop := Exa Z h a "com/example/feedwright/feedwright/Fault" ∧ Fld Z h a "com/example/feedwright/feedwright/Fault" "field" "Ljava/lang/String;" (.ref f) ∧ Fld Z h a "com/example/feedwright/feedwright/Fault" "rule" "Lcom/example/feedwright/feedwright/Rule;" (.ref r) ∧ Fld Z h a "com/example/feedwright/feedwright/Fault" "level" "Lcom/example/feedwright/feedwright/Level;" (.ref l) ∧ Fld Z h a "com/example/feedwright/feedwright/Fault" "message" "Ljava/lang/String;" (.ref m)
def own_QI (Z : State) (h0 : Heap) (n0 : Nat) (a f r l m : Addr) (v : Option Value) (h : Heap) (L : List Loc) : Prop := v = none ∧ Fr n0 L ∧ Keep h0 h [a] ∧ own_FT Z h a f r l m
theorem d7_0 : decode prog_9_method_1_code 0 = .ok (.aload_n 0, 1) := by decide +kernel
theorem d7_1 : decode prog_9_method_1_code 1 = .ok (.invokespecial 1, 3) := by decide +kernel
theorem d7_4 : decode prog_9_method_1_code 4 = .ok (.aload_n 0, 1) := by decide +kernel
theorem d7_5 : decode prog_9_method_1_code 5 = .ok (.aload_n 1, 1) := by decide +kernel
theorem d7_6 : decode prog_9_method_1_code 6 = .ok (.putfield 7, 3) := by decide +kernel
theorem d7_9 : decode prog_9_method_1_code 9 = .ok (.aload_n 0, 1) := by decide +kernel
theorem d7_10 : decode prog_9_method_1_code 10 = .ok (.aload_n 2, 1) := by decide +kernel
theorem d7_11 : decode prog_9_method_1_code 11 = .ok (.putfield 13, 3) := by decide +kernel
theorem d7_14 : decode prog_9_method_1_code 14 = .ok (.aload_n 0, 1) := by decide +kernel
theorem d7_15 : decode prog_9_method_1_code 15 = .ok (.aload_n 3, 1) := by decide +kernel
theorem d7_16 : decode prog_9_method_1_code 16 = .ok (.putfield 17, 3) := by decide +kernel
theorem d7_19 : decode prog_9_method_1_code 19 = .ok (.aload_n 0, 1) := by decide +kernel
theorem d7_20 : decode prog_9_method_1_code 20 = .ok (.aload 4, 2) := by decide +kernel
theorem d7_22 : decode prog_9_method_1_code 22 = .ok (.putfield 21, 3) := by decide +kernel
theorem d7_25 : decode prog_9_method_1_code 25 = .ok (.return_, 1) := by decide +kernel
abbrev Y5 : MethodName := (⟨"com/example/feedwright/feedwright/Fault", "<init>", "(Ljava/lang/String;Lcom/example/feedwright/feedwright/Rule;Lcom/example/feedwright/feedwright/Level;Ljava/lang/String;)V"⟩ : MethodName)
theorem pn3 : plainName "com/example/feedwright/feedwright/Fault" = true := by first | (simp [plainName, overriddenIn]; done) | decide +kernel
theorem ef_own_init (m : MethodId) (u0 u1 u2 u3 u4 u5 u6 u7 u8 u9 u10 u11 u12 u13 : Addr) (ki0 : Int32) (a : Addr) (af : Addr) (ar : Addr) (al : Addr) (am : Addr) : entryFrame m #[xr a, xr af, xr ar, xr al, xr am] 5 = (mkF m 0 #[vr a, vr af, vr ar, vr al, vr am] []) := by first | (simp [entryFrame, mkF, argsToLocals, Value.category]; done) | rfl
set_option maxRecDepth 65536 in
set_option maxHeartbeats 40000000 in
theorem own_init (l : Launch) (Z : State) (a0 : Array Value) (hw : ∀ d ∈ tables_1, d.before a0 Z = true) (hj : ∀ d ∈ jdkStatics_1, d.before a0 Z = true) (u0 u1 u2 u3 u4 u5 u6 u7 u8 u9 u10 u11 u12 u13 : Addr) (ki0 : Int32) (G : own_St Z hj u0 u1 u2 u3 u4 u5 u6 u7 u8 u9 u10 u11 u12 u13 ki0) (a : Addr) (af : Addr) (ar : Addr) (al : Addr) (am : Addr) (h0 : Heap) (n0 : Nat) (O0 : Old Z n0 h0) (EA : Exa Z h0 a "com/example/feedwright/feedwright/Fault") (F0 : Fld Z h0 a "com/example/feedwright/feedwright/Fault" "field" "Ljava/lang/String;" .null) (F1 : Fld Z h0 a "com/example/feedwright/feedwright/Fault" "rule" "Lcom/example/feedwright/feedwright/Rule;" .null) (F2 : Fld Z h0 a "com/example/feedwright/feedwright/Fault" "level" "Lcom/example/feedwright/feedwright/Level;" .null) (F3 : Fld Z h0 a "com/example/feedwright/feedwright/Fault" "message" "Ljava/lang/String;" .null) (g_a : n0 ≤ a) : own_Met l Z Y5 prog_9_method_1_code 5 none ({ frames := 1, cells := 0, slots := 0, locals := 12 } : Room) #[xr a, xr af, xr ar, xr al, xr am] h0 (own_QI Z h0 n0 a af ar al am) := by
  intro ws
  refine MetFree.of_bodySF (plainFor_of_name pn3) hisR ?_
  intro p e s m args below meth c s₁ Bd hml0 hP hK
  obtain ⟨rfl, hZ, hh⟩ := hP
  have hx := Bd.exec
  have hby := Bd.bytes
  have hml : c.maxLocals = 5 := hml0
  have hown : s.vm.findClass "com/example/feedwright/feedwright/Fault" = some m.cls := findClass_of_methodNamed Bd.named
  have hnm := (name_of_methodNamed Bd.named Bd.method).1
  have X0 : Stand p l e ({ frames := 1, cells := 0, slots := 0, locals := 12 } : Room) s m #[xr a, xr af, xr ar, xr al, xr am] below meth c s₁ [] 0 0 := Stand.of_body Bd
  have e0 : s₁.heap = h0 := by rw [← hh, Bd.state]; rfl
  have N0 := Fr.nil n0
  have pre0 : ∀ t, Steps p.tables e below (s₁.setTop (mkF m 0 #[vr a, vr af, vr ar, vr al, vr am] [])) t → Steps p.tables e below (s₁.setTop (entryFrame m #[xr a, xr af, xr ar, xr al, xr am] 5)) t := fun t st => castTop (ef_own_init m u0 u1 u2 u3 u4 u5 u6 u7 u8 u9 u10 u11 u12 u13 ki0 a af ar al am) st
  obtain ⟨T1, X1, e1, st1⟩ := initO X0 hx hZ hown (ww hw 43 rfl) (ww hw 31 rfl) (ww hw 32 rfl) e0 (g := (mkF m 1 #[vr a, vr af, vr ar, vr al, vr am] [xr a])) rfl (by rw [hml]; rfl) rfl (hb hby d7_1) (by decide) (W := 0) (by show 2 * 0 + _ ≤ _; exact Nat.le_of_eq rfl) (by decide)
  obtain ⟨T2, h2, X2, e2, W2, st2⟩ := putF X1 hx hZ hown (host := "") (Or.inl (ww hw 44 rfl)) Via.refl e1 F0 EA (Or.inr ⟨(ww hw 45 rfl), rfl, hnm⟩) (ww hw 38 rfl) (ty := (.object "java/lang/String")) (by decide) (by first | rfl | decide) (by first | rfl | decide) (g := (mkF m 6 #[vr a, vr af, vr ar, vr al, vr am] [xr af, xr a])) rfl rfl (hb hby d7_6)
  have O2 : Old Z n0 h2 := O0.wr W2 g_a
  have Kp2 : Keep h0 h2 [a] := (Keep.refl h0 [a]).wr W2 (Or.inl (by simp))
  have X_a_2 := EA.wr W2
  have F_a_field_2 := F0.same W2
  have F_a_rule_2 := F1.other W2 (Or.inr (slot_ne (Or.inr (ww hw 47 rfl)) (Or.inr (ww hw 45 rfl)) (by decide) (t := (.object "com/example/feedwright/feedwright/Rule")) (t' := (.object "java/lang/String")) (by decide) (by decide)))
  have F_a_level_2 := F2.other W2 (Or.inr (slot_ne (Or.inr (ww hw 49 rfl)) (Or.inr (ww hw 45 rfl)) (by decide) (t := (.object "com/example/feedwright/feedwright/Level")) (t' := (.object "java/lang/String")) (by decide) (by decide)))
  have F_a_message_2 := F3.other W2 (Or.inr (slot_ne (Or.inr (ww hw 51 rfl)) (Or.inr (ww hw 45 rfl)) (by decide) (t := (.object "java/lang/String")) (t' := (.object "java/lang/String")) (by decide) (by decide)))
  have N2 := Fr.snoc X2 N0 g_a
  obtain ⟨T3, h3, X3, e3, W3, st3⟩ := putF X2 hx hZ hown (host := "") (Or.inl (ww hw 46 rfl)) Via.refl e2 F_a_rule_2 X_a_2 (Or.inr ⟨(ww hw 47 rfl), rfl, hnm⟩) (ww hw 38 rfl) (ty := (.object "com/example/feedwright/feedwright/Rule")) (by decide) (by first | rfl | decide) (by first | rfl | decide) (g := (mkF m 11 #[vr a, vr af, vr ar, vr al, vr am] [xr ar, xr a])) rfl rfl (hb hby d7_11)
  have O3 : Old Z n0 h3 := O2.wr W3 g_a
  have Kp3 : Keep h0 h3 [a] := Kp2.wr W3 (Or.inl (by simp))
  have X_a_3 := X_a_2.wr W3
  have F_a_field_3 := F_a_field_2.other W3 (Or.inr (slot_ne (Or.inr (ww hw 45 rfl)) (Or.inr (ww hw 47 rfl)) (by decide) (t := (.object "java/lang/String")) (t' := (.object "com/example/feedwright/feedwright/Rule")) (by decide) (by decide)))
  have F_a_rule_3 := F_a_rule_2.same W3
  have F_a_level_3 := F_a_level_2.other W3 (Or.inr (slot_ne (Or.inr (ww hw 49 rfl)) (Or.inr (ww hw 47 rfl)) (by decide) (t := (.object "com/example/feedwright/feedwright/Level")) (t' := (.object "com/example/feedwright/feedwright/Rule")) (by decide) (by decide)))
  have F_a_message_3 := F_a_message_2.other W3 (Or.inr (slot_ne (Or.inr (ww hw 51 rfl)) (Or.inr (ww hw 47 rfl)) (by decide) (t := (.object "java/lang/String")) (t' := (.object "com/example/feedwright/feedwright/Rule")) (by decide) (by decide)))
  have N3 := Fr.snoc X3 N2 g_a
  obtain ⟨T4, h4, X4, e4, W4, st4⟩ := putF X3 hx hZ hown (host := "") (Or.inl (ww hw 48 rfl)) Via.refl e3 F_a_level_3 X_a_3 (Or.inr ⟨(ww hw 49 rfl), rfl, hnm⟩) (ww hw 38 rfl) (ty := (.object "com/example/feedwright/feedwright/Level")) (by decide) (by first | rfl | decide) (by first | rfl | decide) (g := (mkF m 16 #[vr a, vr af, vr ar, vr al, vr am] [xr al, xr a])) rfl rfl (hb hby d7_16)
  have O4 : Old Z n0 h4 := O3.wr W4 g_a
  have Kp4 : Keep h0 h4 [a] := Kp3.wr W4 (Or.inl (by simp))
  have X_a_4 := X_a_3.wr W4
  have F_a_field_4 := F_a_field_3.other W4 (Or.inr (slot_ne (Or.inr (ww hw 45 rfl)) (Or.inr (ww hw 49 rfl)) (by decide) (t := (.object "java/lang/String")) (t' := (.object "com/example/feedwright/feedwright/Level")) (by decide) (by decide)))
  have F_a_rule_4 := F_a_rule_3.other W4 (Or.inr (slot_ne (Or.inr (ww hw 47 rfl)) (Or.inr (ww hw 49 rfl)) (by decide) (t := (.object "com/example/feedwright/feedwright/Rule")) (t' := (.object "com/example/feedwright/feedwright/Level")) (by decide) (by decide)))
  have F_a_level_4 := F_a_level_3.same W4
  have F_a_message_4 := F_a_message_3.other W4 (Or.inr (slot_ne (Or.inr (ww hw 51 rfl)) (Or.inr (ww hw 49 rfl)) (by decide) (t := (.object "java/lang/String")) (t' := (.object "com/example/feedwright/feedwright/Level")) (by decide) (by decide)))
  have N4 := Fr.snoc X4 N3 g_a
  obtain ⟨T5, h5, X5, e5, W5, st5⟩ := putF X4 hx hZ hown (host := "") (Or.inl (ww hw 50 rfl)) Via.refl e4 F_a_message_4 X_a_4 (Or.inr ⟨(ww hw 51 rfl), rfl, hnm⟩) (ww hw 38 rfl) (ty := (.object "java/lang/String")) (by decide) (by first | rfl | decide) (by first | rfl | decide) (g := (mkF m 22 #[vr a, vr af, vr ar, vr al, vr am] [xr am, xr a])) rfl rfl (hb hby d7_22)
  have O5 : Old Z n0 h5 := O4.wr W5 g_a
  have Kp5 : Keep h0 h5 [a] := Kp4.wr W5 (Or.inl (by simp))
  have X_a_5 := X_a_4.wr W5
  have F_a_field_5 := F_a_field_4.other W5 (Or.inr (slot_ne (Or.inr (ww hw 45 rfl)) (Or.inr (ww hw 51 rfl)) (by decide) (t := (.object "java/lang/String")) (t' := (.object "java/lang/String")) (by decide) (by decide)))
  have F_a_rule_5 := F_a_rule_4.other W5 (Or.inr (slot_ne (Or.inr (ww hw 47 rfl)) (Or.inr (ww hw 51 rfl)) (by decide) (t := (.object "com/example/feedwright/feedwright/Rule")) (t' := (.object "java/lang/String")) (by decide) (by decide)))
  have F_a_level_5 := F_a_level_4.other W5 (Or.inr (slot_ne (Or.inr (ww hw 49 rfl)) (Or.inr (ww hw 51 rfl)) (by decide) (t := (.object "com/example/feedwright/feedwright/Level")) (t' := (.object "java/lang/String")) (by decide) (by decide)))
  have F_a_message_5 := F_a_message_4.same W5
  have N5 := Fr.snoc X5 N4 g_a
  obtain ⟨fs, hr, hrun, hended, hW, hsame⟩ := X5.leave (v := none) (fun _ => rfl)
  refine ⟨_, _, pre0 _ ?_, hrun, hended, _, _, rfl, ?_, ⟨_, rfl⟩, hW, hsame.mono (by decide) (by decide)⟩
  · show own_S p e below s₁ (mkF m 0 #[vr a, vr af, vr ar, vr al, vr am] []) _
    refine XS.aloadN X0.here hx rfl (hb hby d7_0) rfl rfl ?_
    show own_S p e below s₁ (mkF m 1 #[vr a, vr af, vr ar, vr al, vr am] [xr a]) _
    refine st1 _ ?_
    show own_S p e below T1 (mkF m 4 #[vr a, vr af, vr ar, vr al, vr am] []) _
    refine XS.aloadN X1.here hx rfl (hb hby d7_4) rfl rfl ?_
    show own_S p e below T1 (mkF m 5 #[vr a, vr af, vr ar, vr al, vr am] [xr a]) _
    refine XS.aloadN X1.here hx rfl (hb hby d7_5) rfl rfl ?_
    show own_S p e below T1 (mkF m 6 #[vr a, vr af, vr ar, vr al, vr am] [xr af, xr a]) _
    refine st2 _ ?_
    show own_S p e below T2 (mkF m 9 #[vr a, vr af, vr ar, vr al, vr am] []) _
    refine XS.aloadN X2.here hx rfl (hb hby d7_9) rfl rfl ?_
    show own_S p e below T2 (mkF m 10 #[vr a, vr af, vr ar, vr al, vr am] [xr a]) _
    refine XS.aloadN X2.here hx rfl (hb hby d7_10) rfl rfl ?_
    show own_S p e below T2 (mkF m 11 #[vr a, vr af, vr ar, vr al, vr am] [xr ar, xr a]) _
    refine st3 _ ?_
    show own_S p e below T3 (mkF m 14 #[vr a, vr af, vr ar, vr al, vr am] []) _
    refine XS.aloadN X3.here hx rfl (hb hby d7_14) rfl rfl ?_
    show own_S p e below T3 (mkF m 15 #[vr a, vr af, vr ar, vr al, vr am] [xr a]) _
    refine XS.aloadN X3.here hx rfl (hb hby d7_15) rfl rfl ?_
    show own_S p e below T3 (mkF m 16 #[vr a, vr af, vr ar, vr al, vr am] [xr al, xr a]) _
    refine st4 _ ?_
    show own_S p e below T4 (mkF m 19 #[vr a, vr af, vr ar, vr al, vr am] []) _
    refine XS.aloadN X4.here hx rfl (hb hby d7_19) rfl rfl ?_
    show own_S p e below T4 (mkF m 20 #[vr a, vr af, vr ar, vr al, vr am] [xr a]) _
    refine XS.aload X4.here hx rfl (hb hby d7_20) rfl rfl ?_
    show own_S p e below T4 (mkF m 22 #[vr a, vr af, vr ar, vr al, vr am] [xr am, xr a]) _
    refine st5 _ ?_
    show own_S p e below T5 (mkF m 25 #[vr a, vr af, vr ar, vr al, vr am] []) _
    exact X5.returnOut hx Bd.returns (hb hby d7_25) hr
  · show (own_QI Z h0 n0 a af ar al am) _ T5.heap _
    rw [e5]
    exact ⟨rfl, N5, Kp5, X_a_5, F_a_field_5, F_a_rule_5, F_a_level_5, F_a_message_5⟩
theorem d8_0 : decode prog_9_method_4_code 0 = .ok (.aload_n 0, 1) := by decide +kernel
theorem d8_1 : decode prog_9_method_4_code 1 = .ok (.getfield 17, 3) := by decide +kernel
theorem d8_4 : decode prog_9_method_4_code 4 = .ok (.getstatic 24, 3) := by decide +kernel
theorem d8_7 : decode prog_9_method_4_code 7 = .ok (.if_acmp .ne 7, 3) := by decide +kernel
theorem own_ne_u0_u2 {Z : State} {a0 : Array Value} {hj : ∀ d ∈ jdkStatics_1, d.before a0 Z = true} {u0 u1 u2 u3 u4 u5 u6 u7 u8 u9 u10 u11 u12 u13 : Addr} {ki0 : Int32} (G : own_St Z hj u0 u1 u2 u3 u4 u5 u6 u7 u8 u9 u10 u11 u12 u13 ki0) : u0 ≠ u2 := Fld.ne (own_F_u0_ordinal G) (own_F_u2_ordinal G) (by decide)
theorem d8_14 : decode prog_9_method_4_code 14 = .ok (.iconst 0, 1) := by decide +kernel
theorem d8_15 : decode prog_9_method_4_code 15 = .ok (.ireturn, 1) := by decide +kernel
abbrev Y6 : MethodName := (⟨"com/example/feedwright/feedwright/Fault", "refuses", "()Z"⟩ : MethodName)
theorem ef_own_refuses_WARN (m : MethodId) (u0 u1 u2 u3 u4 u5 u6 u7 u8 u9 u10 u11 u12 u13 : Addr) (ki0 : Int32) (a : Addr) (af : Addr) (ar : Addr) (am : Addr) : entryFrame m #[xr a] 1 = (mkF m 0 #[vr a] []) := by first | (simp [entryFrame, mkF, argsToLocals, Value.category]; done) | rfl
set_option maxRecDepth 65536 in
set_option maxHeartbeats 40000000 in
theorem own_refuses_WARN (l : Launch) (Z : State) (a0 : Array Value) (hw : ∀ d ∈ tables_1, d.before a0 Z = true) (hj : ∀ d ∈ jdkStatics_1, d.before a0 Z = true) (u0 u1 u2 u3 u4 u5 u6 u7 u8 u9 u10 u11 u12 u13 : Addr) (ki0 : Int32) (G : own_St Z hj u0 u1 u2 u3 u4 u5 u6 u7 u8 u9 u10 u11 u12 u13 ki0) (a : Addr) (af : Addr) (ar : Addr) (am : Addr) (h0 : Heap) (n0 : Nat) (O0 : Old Z n0 h0) (gF : own_FT Z h0 a af ar u0 am) : own_Met l Z Y6 prog_9_method_4_code 1 (some .boolean) ({ frames := 0, cells := 0, slots := 0, locals := 0 } : Room) #[xr a] h0 (own_QR (some (xi (0 : Int32))) h0 n0) := by
  intro ws
  refine MetFree.of_bodySF (plainFor_of_name pn3) hisR ?_
  intro p e s m args below meth c s₁ Bd hml0 hP hK
  obtain ⟨rfl, hZ, hh⟩ := hP
  have hx := Bd.exec
  have hby := Bd.bytes
  have hml : c.maxLocals = 1 := hml0
  have hown : s.vm.findClass "com/example/feedwright/feedwright/Fault" = some m.cls := findClass_of_methodNamed Bd.named
  have hnm := (name_of_methodNamed Bd.named Bd.method).1
  have X0 : Stand p l e ({ frames := 0, cells := 0, slots := 0, locals := 0 } : Room) s m #[xr a] below meth c s₁ [] 0 0 := Stand.of_body Bd
  have e0 : s₁.heap = h0 := by rw [← hh, Bd.state]; rfl
  have N0 := Fr.nil n0
  have pre0 : ∀ t, Steps p.tables e below (s₁.setTop (mkF m 0 #[vr a] [])) t → Steps p.tables e below (s₁.setTop (entryFrame m #[xr a] 1)) t := fun t st => castTop (ef_own_refuses_WARN m u0 u1 u2 u3 u4 u5 u6 u7 u8 u9 u10 u11 u12 u13 ki0 a af ar am) st
  obtain ⟨EA, F0, F1, F2, F3⟩ := gF
  obtain ⟨T1, X1, e1, st1⟩ := getF X0 hx hZ hown (host := "") (Or.inl (ww hw 48 rfl)) Via.refl e0 F2 (g := (mkF m 1 #[vr a] [xr a])) rfl rfl (hb hby d8_1)
  obtain ⟨T2, X2, e2, st2⟩ := getS2 X1 hx hZ hown (host := "") (Or.inl (ww hw 57 rfl)) Via.refl e1 ((own_S_u2 G).ext O0.2) (g := (mkF m 4 #[vr a] [xr u0])) rfl (hb hby d8_4)
  obtain ⟨fs, hr, hrun, hended, hW, hsame⟩ := X2.leave (v := some (xi (0 : Int32))) (fun h => by rw [Bd.returns] at h; cases h)
  refine ⟨_, _, pre0 _ ?_, hrun, hended, _, _, rfl, ?_, ⟨_, rfl⟩, hW, hsame.mono (by decide) (by decide)⟩
  · show own_S p e below s₁ (mkF m 0 #[vr a] []) _
    refine XS.aloadN X0.here hx rfl (hb hby d8_0) rfl rfl ?_
    show own_S p e below s₁ (mkF m 1 #[vr a] [xr a]) _
    refine st1 _ ?_
    show own_S p e below T1 (mkF m 4 #[vr a] [xr u0]) _
    refine st2 _ ?_
    show own_S p e below T2 (mkF m 7 #[vr a] [xr u2, xr u0]) _
    refine Jvm.RoadKit.acmp (g := (mkF m 7 #[vr a] [xr u2, xr u0])) X2 hx rfl rfl rfl (pc0 := 7) (pc' := 14) (same := false) rfl (hb hby d8_7) rfl (own_ref (own_ne_u0_u2 G)) (by decide) (by decide) ?_
    show own_S p e below T2 (mkF m 14 #[vr a] []) _
    refine XS.iconst X2.here hx rfl (hb hby d8_14) ?_
    show own_S p e below T2 (mkF m 15 #[vr a] [xi (0 : Int32)]) _
    exact retN X2 hx (t := .boolean) Bd.returns (by simp) (hb hby d8_15) hr
  · exact ⟨rfl, N0, e2⟩
theorem d8_10 : decode prog_9_method_4_code 10 = .ok (.iconst 1, 1) := by decide +kernel
theorem d8_11 : decode prog_9_method_4_code 11 = .ok (.goto 4, 3) := by decide +kernel
theorem ef_own_refuses_REFUSE (m : MethodId) (u0 u1 u2 u3 u4 u5 u6 u7 u8 u9 u10 u11 u12 u13 : Addr) (ki0 : Int32) (a : Addr) (af : Addr) (ar : Addr) (am : Addr) : entryFrame m #[xr a] 1 = (mkF m 0 #[vr a] []) := by first | (simp [entryFrame, mkF, argsToLocals, Value.category]; done) | rfl
set_option maxRecDepth 65536 in
set_option maxHeartbeats 40000000 in
theorem own_refuses_REFUSE (l : Launch) (Z : State) (a0 : Array Value) (hw : ∀ d ∈ tables_1, d.before a0 Z = true) (hj : ∀ d ∈ jdkStatics_1, d.before a0 Z = true) (u0 u1 u2 u3 u4 u5 u6 u7 u8 u9 u10 u11 u12 u13 : Addr) (ki0 : Int32) (G : own_St Z hj u0 u1 u2 u3 u4 u5 u6 u7 u8 u9 u10 u11 u12 u13 ki0) (a : Addr) (af : Addr) (ar : Addr) (am : Addr) (h0 : Heap) (n0 : Nat) (O0 : Old Z n0 h0) (gF : own_FT Z h0 a af ar u2 am) : own_Met l Z Y6 prog_9_method_4_code 1 (some .boolean) ({ frames := 0, cells := 0, slots := 0, locals := 0 } : Room) #[xr a] h0 (own_QR (some (xi (1 : Int32))) h0 n0) := by
  intro ws
  refine MetFree.of_bodySF (plainFor_of_name pn3) hisR ?_
  intro p e s m args below meth c s₁ Bd hml0 hP hK
  obtain ⟨rfl, hZ, hh⟩ := hP
  have hx := Bd.exec
  have hby := Bd.bytes
  have hml : c.maxLocals = 1 := hml0
  have hown : s.vm.findClass "com/example/feedwright/feedwright/Fault" = some m.cls := findClass_of_methodNamed Bd.named
  have hnm := (name_of_methodNamed Bd.named Bd.method).1
  have X0 : Stand p l e ({ frames := 0, cells := 0, slots := 0, locals := 0 } : Room) s m #[xr a] below meth c s₁ [] 0 0 := Stand.of_body Bd
  have e0 : s₁.heap = h0 := by rw [← hh, Bd.state]; rfl
  have N0 := Fr.nil n0
  have pre0 : ∀ t, Steps p.tables e below (s₁.setTop (mkF m 0 #[vr a] [])) t → Steps p.tables e below (s₁.setTop (entryFrame m #[xr a] 1)) t := fun t st => castTop (ef_own_refuses_REFUSE m u0 u1 u2 u3 u4 u5 u6 u7 u8 u9 u10 u11 u12 u13 ki0 a af ar am) st
  obtain ⟨EA, F0, F1, F2, F3⟩ := gF
  obtain ⟨T1, X1, e1, st1⟩ := getF X0 hx hZ hown (host := "") (Or.inl (ww hw 48 rfl)) Via.refl e0 F2 (g := (mkF m 1 #[vr a] [xr a])) rfl rfl (hb hby d8_1)
  obtain ⟨T2, X2, e2, st2⟩ := getS2 X1 hx hZ hown (host := "") (Or.inl (ww hw 57 rfl)) Via.refl e1 ((own_S_u2 G).ext O0.2) (g := (mkF m 4 #[vr a] [xr u2])) rfl (hb hby d8_4)
  obtain ⟨fs, hr, hrun, hended, hW, hsame⟩ := X2.leave (v := some (xi (1 : Int32))) (fun h => by rw [Bd.returns] at h; cases h)
  refine ⟨_, _, pre0 _ ?_, hrun, hended, _, _, rfl, ?_, ⟨_, rfl⟩, hW, hsame.mono (by decide) (by decide)⟩
  · show own_S p e below s₁ (mkF m 0 #[vr a] []) _
    refine XS.aloadN X0.here hx rfl (hb hby d8_0) rfl rfl ?_
    show own_S p e below s₁ (mkF m 1 #[vr a] [xr a]) _
    refine st1 _ ?_
    show own_S p e below T1 (mkF m 4 #[vr a] [xr u2]) _
    refine st2 _ ?_
    show own_S p e below T2 (mkF m 7 #[vr a] [xr u2, xr u2]) _
    refine Jvm.RoadKit.acmp (g := (mkF m 7 #[vr a] [xr u2, xr u2])) X2 hx rfl rfl rfl (pc0 := 7) (pc' := 10) (same := true) rfl (hb hby d8_7) rfl (decide_eq_true rfl) (by decide) (by decide) ?_
    show own_S p e below T2 (mkF m 10 #[vr a] []) _
    refine XS.iconst X2.here hx rfl (hb hby d8_10) ?_
    show own_S p e below T2 (mkF m 11 #[vr a] [xi (1 : Int32)]) _
    refine XS.goto X2.here hx rfl (pc0 := 11) (pc' := 15) rfl (hb hby d8_11) (by decide) (by decide) ?_
    show own_S p e below T2 (mkF m 15 #[vr a] [xi (1 : Int32)]) _
    exact retN X2 hx (t := .boolean) Bd.returns (by simp) (hb hby d8_15) hr
  · exact ⟨rfl, N0, e2⟩
theorem d9_0 : decode prog_9_method_3_code 0 = .ok (.aload_n 0, 1) := by decide +kernel
theorem d9_1 : decode prog_9_method_3_code 1 = .ok (.getfield 13, 3) := by decide +kernel
theorem d9_4 : decode prog_9_method_3_code 4 = .ok (.areturn, 1) := by decide +kernel
abbrev Y7 : MethodName := (⟨"com/example/feedwright/feedwright/Fault", "rule", "()Lcom/example/feedwright/feedwright/Rule;"⟩ : MethodName)
theorem ef_own_rule_ (m : MethodId) (u0 u1 u2 u3 u4 u5 u6 u7 u8 u9 u10 u11 u12 u13 : Addr) (ki0 : Int32) (a : Addr) (af : Addr) (ar : Addr) (am : Addr) (al : Addr) : entryFrame m #[xr a] 1 = (mkF m 0 #[vr a] []) := by first | (simp [entryFrame, mkF, argsToLocals, Value.category]; done) | rfl
set_option maxRecDepth 65536 in
set_option maxHeartbeats 40000000 in
theorem own_rule_ (l : Launch) (Z : State) (a0 : Array Value) (hw : ∀ d ∈ tables_1, d.before a0 Z = true) (hj : ∀ d ∈ jdkStatics_1, d.before a0 Z = true) (u0 u1 u2 u3 u4 u5 u6 u7 u8 u9 u10 u11 u12 u13 : Addr) (ki0 : Int32) (G : own_St Z hj u0 u1 u2 u3 u4 u5 u6 u7 u8 u9 u10 u11 u12 u13 ki0) (a : Addr) (af : Addr) (ar : Addr) (am : Addr) (al : Addr) (h0 : Heap) (n0 : Nat) (O0 : Old Z n0 h0) (gF : own_FT Z h0 a af ar al am) : own_Met l Z Y7 prog_9_method_3_code 1 (some (.object "com/example/feedwright/feedwright/Rule")) ({ frames := 0, cells := 0, slots := 0, locals := 0 } : Room) #[xr a] h0 (own_QR (some (xr ar)) h0 n0) := by
  intro ws
  refine MetFree.of_bodySF (plainFor_of_name pn3) hisR ?_
  intro p e s m args below meth c s₁ Bd hml0 hP hK
  obtain ⟨rfl, hZ, hh⟩ := hP
  have hx := Bd.exec
  have hby := Bd.bytes
  have hml : c.maxLocals = 1 := hml0
  have hown : s.vm.findClass "com/example/feedwright/feedwright/Fault" = some m.cls := findClass_of_methodNamed Bd.named
  have hnm := (name_of_methodNamed Bd.named Bd.method).1
  have X0 : Stand p l e ({ frames := 0, cells := 0, slots := 0, locals := 0 } : Room) s m #[xr a] below meth c s₁ [] 0 0 := Stand.of_body Bd
  have e0 : s₁.heap = h0 := by rw [← hh, Bd.state]; rfl
  have N0 := Fr.nil n0
  have pre0 : ∀ t, Steps p.tables e below (s₁.setTop (mkF m 0 #[vr a] [])) t → Steps p.tables e below (s₁.setTop (entryFrame m #[xr a] 1)) t := fun t st => castTop (ef_own_rule_ m u0 u1 u2 u3 u4 u5 u6 u7 u8 u9 u10 u11 u12 u13 ki0 a af ar am al) st
  obtain ⟨EA, F0, F1, F2, F3⟩ := gF
  obtain ⟨T1, X1, e1, st1⟩ := getF X0 hx hZ hown (host := "") (Or.inl (ww hw 46 rfl)) Via.refl e0 F1 (g := (mkF m 1 #[vr a] [xr a])) rfl rfl (hb hby d9_1)
  obtain ⟨fs, hr, hrun, hended, hW, hsame⟩ := X1.leave (v := some (xr ar)) (fun h => by rw [Bd.returns] at h; cases h)
  refine ⟨_, _, pre0 _ ?_, hrun, hended, _, _, rfl, ?_, ⟨_, rfl⟩, hW, hsame.mono (by decide) (by decide)⟩
  · show own_S p e below s₁ (mkF m 0 #[vr a] []) _
    refine XS.aloadN X0.here hx rfl (hb hby d9_0) rfl rfl ?_
    show own_S p e below s₁ (mkF m 1 #[vr a] [xr a]) _
    refine st1 _ ?_
    show own_S p e below T1 (mkF m 4 #[vr a] [xr ar]) _
    exact X1.areturnOut hx rfl Bd.returns rfl (hb hby d9_4) hr
  · exact ⟨rfl, N0, e1⟩
theorem d10_0 : decode prog_9_method_2_code 0 = .ok (.aload_n 0, 1) := by decide +kernel
theorem d10_1 : decode prog_9_method_2_code 1 = .ok (.getfield 7, 3) := by decide +kernel
theorem d10_4 : decode prog_9_method_2_code 4 = .ok (.areturn, 1) := by decide +kernel
abbrev Y8 : MethodName := (⟨"com/example/feedwright/feedwright/Fault", "field", "()Ljava/lang/String;"⟩ : MethodName)
theorem ef_own_field_ (m : MethodId) (u0 u1 u2 u3 u4 u5 u6 u7 u8 u9 u10 u11 u12 u13 : Addr) (ki0 : Int32) (a : Addr) (af : Addr) (ar : Addr) (am : Addr) (al : Addr) : entryFrame m #[xr a] 1 = (mkF m 0 #[vr a] []) := by first | (simp [entryFrame, mkF, argsToLocals, Value.category]; done) | rfl
set_option maxRecDepth 65536 in
set_option maxHeartbeats 40000000 in
theorem own_field_ (l : Launch) (Z : State) (a0 : Array Value) (hw : ∀ d ∈ tables_1, d.before a0 Z = true) (hj : ∀ d ∈ jdkStatics_1, d.before a0 Z = true) (u0 u1 u2 u3 u4 u5 u6 u7 u8 u9 u10 u11 u12 u13 : Addr) (ki0 : Int32) (G : own_St Z hj u0 u1 u2 u3 u4 u5 u6 u7 u8 u9 u10 u11 u12 u13 ki0) (a : Addr) (af : Addr) (ar : Addr) (am : Addr) (al : Addr) (h0 : Heap) (n0 : Nat) (O0 : Old Z n0 h0) (gF : own_FT Z h0 a af ar al am) : own_Met l Z Y8 prog_9_method_2_code 1 (some (.object "java/lang/String")) ({ frames := 0, cells := 0, slots := 0, locals := 0 } : Room) #[xr a] h0 (own_QR (some (xr af)) h0 n0) := by
  intro ws
  refine MetFree.of_bodySF (plainFor_of_name pn3) hisR ?_
  intro p e s m args below meth c s₁ Bd hml0 hP hK
  obtain ⟨rfl, hZ, hh⟩ := hP
  have hx := Bd.exec
  have hby := Bd.bytes
  have hml : c.maxLocals = 1 := hml0
  have hown : s.vm.findClass "com/example/feedwright/feedwright/Fault" = some m.cls := findClass_of_methodNamed Bd.named
  have hnm := (name_of_methodNamed Bd.named Bd.method).1
  have X0 : Stand p l e ({ frames := 0, cells := 0, slots := 0, locals := 0 } : Room) s m #[xr a] below meth c s₁ [] 0 0 := Stand.of_body Bd
  have e0 : s₁.heap = h0 := by rw [← hh, Bd.state]; rfl
  have N0 := Fr.nil n0
  have pre0 : ∀ t, Steps p.tables e below (s₁.setTop (mkF m 0 #[vr a] [])) t → Steps p.tables e below (s₁.setTop (entryFrame m #[xr a] 1)) t := fun t st => castTop (ef_own_field_ m u0 u1 u2 u3 u4 u5 u6 u7 u8 u9 u10 u11 u12 u13 ki0 a af ar am al) st
  obtain ⟨EA, F0, F1, F2, F3⟩ := gF
  obtain ⟨T1, X1, e1, st1⟩ := getF X0 hx hZ hown (host := "") (Or.inl (ww hw 44 rfl)) Via.refl e0 F0 (g := (mkF m 1 #[vr a] [xr a])) rfl rfl (hb hby d10_1)
  obtain ⟨fs, hr, hrun, hended, hW, hsame⟩ := X1.leave (v := some (xr af)) (fun h => by rw [Bd.returns] at h; cases h)
  refine ⟨_, _, pre0 _ ?_, hrun, hended, _, _, rfl, ?_, ⟨_, rfl⟩, hW, hsame.mono (by decide) (by decide)⟩
  · show own_S p e below s₁ (mkF m 0 #[vr a] []) _
    refine XS.aloadN X0.here hx rfl (hb hby d10_0) rfl rfl ?_
    show own_S p e below s₁ (mkF m 1 #[vr a] [xr a]) _
    refine st1 _ ?_
    show own_S p e below T1 (mkF m 4 #[vr a] [xr af]) _
    exact X1.areturnOut hx rfl Bd.returns rfl (hb hby d10_4) hr
  · exact ⟨rfl, N0, e1⟩
theorem d11_0 : decode prog_9_method_5_code 0 = .ok (.aload_n 0, 1) := by decide +kernel
theorem d11_1 : decode prog_9_method_5_code 1 = .ok (.getfield 21, 3) := by decide +kernel
theorem d11_4 : decode prog_9_method_5_code 4 = .ok (.areturn, 1) := by decide +kernel
abbrev Y9 : MethodName := (⟨"com/example/feedwright/feedwright/Fault", "message", "()Ljava/lang/String;"⟩ : MethodName)
theorem ef_own_message_ (m : MethodId) (u0 u1 u2 u3 u4 u5 u6 u7 u8 u9 u10 u11 u12 u13 : Addr) (ki0 : Int32) (a : Addr) (af : Addr) (ar : Addr) (am : Addr) (al : Addr) : entryFrame m #[xr a] 1 = (mkF m 0 #[vr a] []) := by first | (simp [entryFrame, mkF, argsToLocals, Value.category]; done) | rfl
set_option maxRecDepth 65536 in
set_option maxHeartbeats 40000000 in
theorem own_message_ (l : Launch) (Z : State) (a0 : Array Value) (hw : ∀ d ∈ tables_1, d.before a0 Z = true) (hj : ∀ d ∈ jdkStatics_1, d.before a0 Z = true) (u0 u1 u2 u3 u4 u5 u6 u7 u8 u9 u10 u11 u12 u13 : Addr) (ki0 : Int32) (G : own_St Z hj u0 u1 u2 u3 u4 u5 u6 u7 u8 u9 u10 u11 u12 u13 ki0) (a : Addr) (af : Addr) (ar : Addr) (am : Addr) (al : Addr) (h0 : Heap) (n0 : Nat) (O0 : Old Z n0 h0) (gF : own_FT Z h0 a af ar al am) : own_Met l Z Y9 prog_9_method_5_code 1 (some (.object "java/lang/String")) ({ frames := 0, cells := 0, slots := 0, locals := 0 } : Room) #[xr a] h0 (own_QR (some (xr am)) h0 n0) := by
  intro ws
  refine MetFree.of_bodySF (plainFor_of_name pn3) hisR ?_
  intro p e s m args below meth c s₁ Bd hml0 hP hK
  obtain ⟨rfl, hZ, hh⟩ := hP
  have hx := Bd.exec
  have hby := Bd.bytes
  have hml : c.maxLocals = 1 := hml0
  have hown : s.vm.findClass "com/example/feedwright/feedwright/Fault" = some m.cls := findClass_of_methodNamed Bd.named
  have hnm := (name_of_methodNamed Bd.named Bd.method).1
  have X0 : Stand p l e ({ frames := 0, cells := 0, slots := 0, locals := 0 } : Room) s m #[xr a] below meth c s₁ [] 0 0 := Stand.of_body Bd
  have e0 : s₁.heap = h0 := by rw [← hh, Bd.state]; rfl
  have N0 := Fr.nil n0
  have pre0 : ∀ t, Steps p.tables e below (s₁.setTop (mkF m 0 #[vr a] [])) t → Steps p.tables e below (s₁.setTop (entryFrame m #[xr a] 1)) t := fun t st => castTop (ef_own_message_ m u0 u1 u2 u3 u4 u5 u6 u7 u8 u9 u10 u11 u12 u13 ki0 a af ar am al) st
  obtain ⟨EA, F0, F1, F2, F3⟩ := gF
  obtain ⟨T1, X1, e1, st1⟩ := getF X0 hx hZ hown (host := "") (Or.inl (ww hw 50 rfl)) Via.refl e0 F3 (g := (mkF m 1 #[vr a] [xr a])) rfl rfl (hb hby d11_1)
  obtain ⟨fs, hr, hrun, hended, hW, hsame⟩ := X1.leave (v := some (xr am)) (fun h => by rw [Bd.returns] at h; cases h)
  refine ⟨_, _, pre0 _ ?_, hrun, hended, _, _, rfl, ?_, ⟨_, rfl⟩, hW, hsame.mono (by decide) (by decide)⟩
  · show own_S p e below s₁ (mkF m 0 #[vr a] []) _
    refine XS.aloadN X0.here hx rfl (hb hby d11_0) rfl rfl ?_
    show own_S p e below s₁ (mkF m 1 #[vr a] [xr a]) _
    refine st1 _ ?_
    show own_S p e below T1 (mkF m 4 #[vr a] [xr am]) _
    exact X1.areturnOut hx rfl Bd.returns rfl (hb hby d11_4) hr
  · exact ⟨rfl, N0, e1⟩
theorem pd3 : parseMethodDescriptor "(I)Lcom/example/feedwright/feedwright/Rule;" = some ⟨[.int], some (.object "com/example/feedwright/feedwright/Rule")⟩ := by decide +kernel
theorem pd4 : parseMethodDescriptor "(C)Ljava/lang/String;" = some ⟨[.char], some (.object "java/lang/String")⟩ := by decide +kernel
theorem pd5 : parseMethodDescriptor "(Ljava/lang/String;Lcom/example/feedwright/feedwright/Rule;Lcom/example/feedwright/feedwright/Level;Ljava/lang/String;)V" = some ⟨[(.object "java/lang/String"), (.object "com/example/feedwright/feedwright/Rule"), (.object "com/example/feedwright/feedwright/Level"), (.object "java/lang/String")], none⟩ := by decide +kernel
theorem pd6 : parseMethodDescriptor "()Z" = some ⟨[], some .boolean⟩ := by decide +kernel
theorem pd7 : parseMethodDescriptor "()Lcom/example/feedwright/feedwright/Rule;" = some ⟨[], some (.object "com/example/feedwright/feedwright/Rule")⟩ := by decide +kernel
theorem pd8 : parseMethodDescriptor "()Ljava/lang/String;" = some ⟨[], some (.object "java/lang/String")⟩ := by decide +kernel
theorem ef_own_l0 (m : MethodId) (u0 u1 u2 u3 u4 u5 u6 u7 u8 u9 u10 u11 u12 u13 : Addr) (ki0 : Int32) (p1 : Int32) (p2 : Int32) (p3 : Int32) (p4 : Int32) (ri : Int32) (ru : Addr) : entryFrame m #[xi p1, xi p2, xi p3, xi p4] maxLocals = (mkF m 0 #[vi p1, vi p2, vi p3, vi p4, vu, vu, vu, vu, vu, vu, vu, vu] []) := by first | (simp [entryFrame, mkF, argsToLocals, Value.category, maxLocals]; done) | rfl
set_option maxRecDepth 65536 in
set_option maxHeartbeats 40000000 in
theorem own_l0 (l : Launch) (Z : State) (a0 : Array Value) (hw : ∀ d ∈ tables_1, d.before a0 Z = true) (hj : ∀ d ∈ jdkStatics_1, d.before a0 Z = true) (u0 u1 u2 u3 u4 u5 u6 u7 u8 u9 u10 u11 u12 u13 : Addr) (ki0 : Int32) (G : own_St Z hj u0 u1 u2 u3 u4 u5 u6 u7 u8 u9 u10 u11 u12 u13 ki0) (p1 : Int32) (p2 : Int32) (p3 : Int32) (p4 : Int32) (ri : Int32) (ru : Addr) (as14 : (p1 &&& (1 : Int32)) = (0 : Int32)) (as13 : ((p2 &&& (2147483647 : Int32)) - ((p2 &&& (2147483647 : Int32)) / (12 : Int32)) * (12 : Int32)) = ri) (hvr : own_isr u0 u1 u2 u3 u4 u5 u6 u7 u8 u9 u10 u11 u12 u13 ki0 ri ru) (h0 : Heap) (n0 : Nat) (O0 : Old Z n0 h0) : own_Met l Z x code maxLocals ret room_1 #[xi p1, xi p2, xi p3, xi p4] h0 (own_QL (some (xi (1 : Int32))) n0) := by
  intro ws
  refine MetFree.of_bodySF (plainFor_of_name pn2) hisR ?_
  intro p e s m args below meth c s₁ Bd hml0 hP hK
  obtain ⟨rfl, hZ, hh⟩ := hP
  have hx := Bd.exec
  have hby := Bd.bytes
  have hml : c.maxLocals = 12 := hml0
  have hown : s.vm.findClass "com/example/feedwright/feedwright/FaultRefusesPinLaw" = some m.cls := findClass_of_methodNamed Bd.named
  have hnm := (name_of_methodNamed Bd.named Bd.method).1
  have X0 : Stand p l e room_1 s m #[xi p1, xi p2, xi p3, xi p4] below meth c s₁ [] 0 0 := Stand.of_body Bd
  have e0 : s₁.heap = h0 := by rw [← hh, Bd.state]; rfl
  have N0 := Fr.nil n0
  have pre0 : ∀ t, Steps p.tables e below (s₁.setTop (mkF m 0 #[vi p1, vi p2, vi p3, vi p4, vu, vu, vu, vu, vu, vu, vu, vu] [])) t → Steps p.tables e below (s₁.setTop (entryFrame m #[xi p1, xi p2, xi p3, xi p4] maxLocals)) t := fun t st => castTop (ef_own_l0 m u0 u1 u2 u3 u4 u5 u6 u7 u8 u9 u10 u11 u12 u13 ki0 p1 p2 p3 p4 ri ru) st
  obtain ⟨T1, X1, e1, st1⟩ := getS2 X0 hx hZ hown (host := "") (Or.inl (ww hw 0 rfl)) Via.refl e0 ((own_S_u0 G).ext O0.2) (g := (mkF m 24 #[vi p1, vi p2, vi p3, vi p4, vi (0 : Int32), vu, vu, vu, vu, vu, vu, vu] [])) rfl (hb hby at_24)
  obtain ⟨_, _, ⟨T2, L2, k2, n2⟩, -, X2, ⟨Lc2, hQ2, l2, y2, z2⟩, st2⟩ := Jvm.LawKit.callS X1 hx (y := Y4) hown (mvT hZ (ww hw 4 rfl)) (mvT hZ (ww hw 5 rfl)) (mvT hZ (ww hw 6 rfl)) (mvT hZ (ww hw 7 rfl)) (by decide) (backOf (W := 0) (own_rule l Z a0 hw hj u0 u1 u2 u3 u4 u5 u6 u7 u8 u9 u10 u11 u12 u13 ki0 G ri ru hvr h0 n0 O0 []) hZ (ww hw 7 rfl) (ww hw 6 rfl) (by decide) (by decide)) (g := (mkF m 36 #[vi p1, vi p2, vi p3, vi p4, vi (0 : Int32), vr u0, vu, vu, vu, vu, vu, vu] [xi ri])) rfl (by rw [hml]; rfl) (argsL := [xi ri]) (rest := []) (lenOf pd3 rfl) rfl (by show 2 * 0 + _ ≤ _; exact Nat.le_of_eq rfl) (hb hby at_36) (fun _ _ => ⟨rfl, e1, (by decide : 0 + 0 ≤ _), (by decide : 0 + 0 ≤ _)⟩)
  dsimp only [Pt.U, Pt.locs, Pt.cells, Pt.slots] at X2 l2 y2 z2 st2 hQ2
  subst l2 y2 z2
  obtain ⟨rfl, Nq2, e2⟩ := hQ2
  have N2 := Fr.app N0 Nq2
  obtain ⟨_, _, ⟨T3, L3, k3, n3⟩, -, X3, ⟨Lc3, hQ3, l3, y3, z3⟩, st3⟩ := Jvm.LawKit.callS X2 hx (y := Y3) hown (mvT hZ (ww hw 11 rfl)) (mvT hZ (ww hw 12 rfl)) (mvT hZ (ww hw 13 rfl)) (mvT hZ (ww hw 14 rfl)) (by decide) (backOf (W := 0) (own_valueOf l Z a0 hw hj u0 u1 u2 u3 u4 u5 u6 u7 u8 u9 u10 u11 u12 u13 ki0 G (p3 &&& (255 : Int32)) (own_ch p3) h0 n0 O0 []) hZ (ww hw 14 rfl) (ww hw 13 rfl) (by decide) (by decide)) (g := (mkF m 47 #[vi p1, vi p2, vi p3, vi p4, vi (0 : Int32), vr u0, vr ru, vu, vu, vu, vu, vu] [xi (p3 &&& (255 : Int32))])) rfl (by rw [hml]; rfl) (argsL := [xi (p3 &&& (255 : Int32))]) (rest := []) (lenOf pd4 rfl) rfl (by show 2 * 0 + _ ≤ _; exact Nat.le_of_eq rfl) (hb hby at_47) (fun _ _ => ⟨rfl, e2, (by decide : 0 + 2 ≤ _), (by decide : 0 + 5 ≤ _)⟩)
  dsimp only [Pt.U, Pt.locs, Pt.cells, Pt.slots] at X3 l3 y3 z3 st3 hQ3
  subst l3 y3 z3
  obtain ⟨h3, e3⟩ : ∃ z, T3.heap = z := ⟨_, rfl⟩
  rw [e3] at hQ3
  obtain ⟨bq3, rfl, Nq3, K3⟩ := hQ3
  have N3 := Fr.app N2 Nq3
  have O3 : Old Z n0 h3 := O0.keep K3 all0
  obtain ⟨_, _, ⟨T4, L4, k4, n4⟩, -, X4, ⟨Lc4, hQ4, l4, y4, z4⟩, st4⟩ := Jvm.LawKit.callS X3 hx (y := Y3) hown (mvT hZ (ww hw 11 rfl)) (mvT hZ (ww hw 12 rfl)) (mvT hZ (ww hw 13 rfl)) (mvT hZ (ww hw 14 rfl)) (by decide) (backOf (W := 0) (own_valueOf l Z a0 hw hj u0 u1 u2 u3 u4 u5 u6 u7 u8 u9 u10 u11 u12 u13 ki0 G (p4 &&& (255 : Int32)) (own_ch p4) h3 n0 O3 []) hZ (ww hw 14 rfl) (ww hw 13 rfl) (by decide) (by decide)) (g := (mkF m 58 #[vi p1, vi p2, vi p3, vi p4, vi (0 : Int32), vr u0, vr ru, vr bq3, vu, vu, vu, vu] [xi (p4 &&& (255 : Int32))])) rfl (by rw [hml]; rfl) (argsL := [xi (p4 &&& (255 : Int32))]) (rest := []) (lenOf pd4 rfl) rfl (by show 2 * 0 + _ ≤ _; exact Nat.le_of_eq rfl) (hb hby at_58) (fun _ _ => ⟨rfl, e3, (by decide : 2 + 2 ≤ _), (by decide : 5 + 5 ≤ _)⟩)
  dsimp only [Pt.U, Pt.locs, Pt.cells, Pt.slots] at X4 l4 y4 z4 st4 hQ4
  subst l4 y4 z4
  obtain ⟨h4, e4⟩ : ∃ z, T4.heap = z := ⟨_, rfl⟩
  rw [e4] at hQ4
  obtain ⟨bq4, rfl, Nq4, K4⟩ := hQ4
  have N4 := Fr.app N3 Nq4
  have O4 : Old Z n0 h4 := O3.keep K4 all0
  obtain ⟨T5, h5, X5, e5, E5, A5, D5, -, st5⟩ := newO X4 hx hZ hown (ww hw 37 rfl) (ww hw 38 rfl) (ww hw 39 rfl) e4 (g := (mkF m 63 #[vi p1, vi p2, vi p3, vi p4, vi (0 : Int32), vr u0, vr ru, vr bq3, vr bq4, vu, vu, vu] [])) rfl (hb hby at_63) (by decide) (by decide)
  obtain ⟨b5, g5⟩ : ∃ z, z = h4.size := ⟨_, rfl⟩
  rw [← g5] at A5 D5 st5
  have g_b5 : n0 ≤ b5 := own_fresh O4 g5
  have O5 : Old Z n0 h5 := O4.ext E5
  have F_b5_field : Fld Z h5 b5 "com/example/feedwright/feedwright/Fault" "field" "Ljava/lang/String;" .null := D5 (Or.inr (ww hw 45 rfl)) (ty := (.object "java/lang/String")) (by decide)
  have F_b5_rule : Fld Z h5 b5 "com/example/feedwright/feedwright/Fault" "rule" "Lcom/example/feedwright/feedwright/Rule;" .null := D5 (Or.inr (ww hw 47 rfl)) (ty := (.object "com/example/feedwright/feedwright/Rule")) (by decide)
  have F_b5_level : Fld Z h5 b5 "com/example/feedwright/feedwright/Fault" "level" "Lcom/example/feedwright/feedwright/Level;" .null := D5 (Or.inr (ww hw 49 rfl)) (ty := (.object "com/example/feedwright/feedwright/Level")) (by decide)
  have F_b5_message : Fld Z h5 b5 "com/example/feedwright/feedwright/Fault" "message" "Ljava/lang/String;" .null := D5 (Or.inr (ww hw 51 rfl)) (ty := (.object "java/lang/String")) (by decide)
  obtain ⟨_, _, ⟨T6, L6, k6, n6⟩, -, X6, ⟨Lc6, hQ6, l6, y6, z6⟩, st6⟩ := X5.specialBack hx (y := Y5) rfl hown (mvT hZ (ww hw 40 rfl)) (mvT hZ (ww hw 41 rfl)) (mvT hZ (ww hw 42 rfl)) (by decide) (backOf (W := 1) (own_init l Z a0 hw hj u0 u1 u2 u3 u4 u5 u6 u7 u8 u9 u10 u11 u12 u13 ki0 G b5 bq3 ru u0 bq4 h5 n0 O5 A5 F_b5_field F_b5_rule F_b5_level F_b5_message g_b5 []) hZ (ww hw 42 rfl) (ww hw 39 rfl) (by decide) (by decide)) (g := (mkF m 75 #[vi p1, vi p2, vi p3, vi p4, vi (0 : Int32), vr u0, vr ru, vr bq3, vr bq4, vu, vu, vu] [xr bq4, xr u0, xr ru, xr bq3, xr b5, xr b5])) rfl (by rw [hml]; rfl) (Steps.refl _) (a := b5) (argsL := [xr bq3, xr ru, xr u0, xr bq4]) (rest := [xr b5]) (lenOf pd5 rfl) rfl (by show 2 * 0 + _ ≤ _; exact Nat.le_of_eq rfl) (hb hby at_75) (fun _ _ => ⟨rfl, e5, (by decide : 5 + 0 ≤ _), (by decide : 14 + 0 ≤ _)⟩)
  dsimp only [Pt.U, Pt.locs, Pt.cells, Pt.slots] at X6 l6 y6 z6 st6 hQ6
  subst l6 y6 z6
  obtain ⟨h6, e6⟩ : ∃ z, T6.heap = z := ⟨_, rfl⟩
  rw [e6] at hQ6
  obtain ⟨rfl, Nq6, K6, -, G0_6, G1_6, G2_6, G3_6⟩ := hQ6
  have N6 := Fr.app N4 Nq6
  have O6 : Old Z n0 h6 := O5.keep K6 (allS g_b5 all0)
  have X_b5_6 := A5.keep K6
  obtain ⟨cq7, kq7, qa7, qb7, qc7⟩ := isOf hZ e6 X_b5_6
  obtain ⟨_, _, ⟨T7, L7, k7, n7⟩, -, X7, ⟨Lc7, hQ7, l7, y7, z7⟩, st7⟩ := X6.virtualBack hx (y := Y6) (z := Y6) hown (mvT hZ (ww hw 52 rfl)) (mvT hZ (ww hw 53 rfl)) (notFace_of_selects (args := #[]) (mvT hZ (ww hw 55 rfl))) (mvT hZ (ww hw 55 rfl)) (mvT hZ (ww hw 54 rfl)) (by decide) (backOf (W := 0) (own_refuses_WARN l Z a0 hw hj u0 u1 u2 u3 u4 u5 u6 u7 u8 u9 u10 u11 u12 u13 ki0 G b5 bq3 ru bq4 h6 n0 O6 ⟨X_b5_6, G0_6, G1_6, G2_6, G3_6⟩ []) hZ (ww hw 56 rfl) (ww hw 39 rfl) (by decide) (by decide)) qa7 qc7 (g := (mkF m 82 #[vi p1, vi p2, vi p3, vi p4, vi (0 : Int32), vr u0, vr ru, vr bq3, vr bq4, vr b5, vu, vu] [xr b5])) rfl (by rw [hml]; rfl) (Steps.refl _) (argsL := []) (rest := []) (lenOf pd6 rfl) rfl (by show 2 * 0 + _ ≤ _; exact Nat.le_of_eq rfl) (hb hby at_82) (fun _ _ => ⟨rfl, e6, (by decide : 5 + 0 ≤ _), (by decide : 14 + 0 ≤ _)⟩)
  dsimp only [Pt.U, Pt.locs, Pt.cells, Pt.slots] at X7 l7 y7 z7 st7 hQ7
  subst l7 y7 z7
  obtain ⟨rfl, Nq7, e7⟩ := hQ7
  have N7 := Fr.app N6 Nq7
  obtain ⟨cq8, kq8, qa8, qb8, qc8⟩ := isOf hZ e7 X_b5_6
  obtain ⟨_, _, ⟨T8, L8, k8, n8⟩, -, X8, ⟨Lc8, hQ8, l8, y8, z8⟩, st8⟩ := X7.virtualBack hx (y := Y6) (z := Y6) hown (mvT hZ (ww hw 52 rfl)) (mvT hZ (ww hw 53 rfl)) (notFace_of_selects (args := #[]) (mvT hZ (ww hw 55 rfl))) (mvT hZ (ww hw 55 rfl)) (mvT hZ (ww hw 54 rfl)) (by decide) (backOf (W := 0) (own_refuses_WARN l Z a0 hw hj u0 u1 u2 u3 u4 u5 u6 u7 u8 u9 u10 u11 u12 u13 ki0 G b5 bq3 ru bq4 h6 n0 O6 ⟨X_b5_6, G0_6, G1_6, G2_6, G3_6⟩ []) hZ (ww hw 56 rfl) (ww hw 39 rfl) (by decide) (by decide)) qa8 qc8 (g := (mkF m 89 #[vi p1, vi p2, vi p3, vi p4, vi (0 : Int32), vr u0, vr ru, vr bq3, vr bq4, vr b5, vi (0 : Int32), vu] [xr b5])) rfl (by rw [hml]; rfl) (Steps.refl _) (argsL := []) (rest := []) (lenOf pd6 rfl) rfl (by show 2 * 0 + _ ≤ _; exact Nat.le_of_eq rfl) (hb hby at_89) (fun _ _ => ⟨rfl, e7, (by decide : 5 + 0 ≤ _), (by decide : 14 + 0 ≤ _)⟩)
  dsimp only [Pt.U, Pt.locs, Pt.cells, Pt.slots] at X8 l8 y8 z8 st8 hQ8
  subst l8 y8 z8
  obtain ⟨rfl, Nq8, e8⟩ := hQ8
  have N8 := Fr.app N7 Nq8
  obtain ⟨cq9, kq9, qa9, qb9, qc9⟩ := isOf hZ e8 X_b5_6
  obtain ⟨_, _, ⟨T9, L9, k9, n9⟩, -, X9, ⟨Lc9, hQ9, l9, y9, z9⟩, st9⟩ := X8.virtualBack hx (y := Y7) (z := Y7) hown (mvT hZ (ww hw 59 rfl)) (mvT hZ (ww hw 60 rfl)) (notFace_of_selects (args := #[]) (mvT hZ (ww hw 62 rfl))) (mvT hZ (ww hw 62 rfl)) (mvT hZ (ww hw 61 rfl)) (by decide) (backOf (W := 0) (own_rule_ l Z a0 hw hj u0 u1 u2 u3 u4 u5 u6 u7 u8 u9 u10 u11 u12 u13 ki0 G b5 bq3 ru bq4 u0 h6 n0 O6 ⟨X_b5_6, G0_6, G1_6, G2_6, G3_6⟩ []) hZ (ww hw 63 rfl) (ww hw 39 rfl) (by decide) (by decide)) qa9 qc9 (g := (mkF m 110 #[vi p1, vi p2, vi p3, vi p4, vi (0 : Int32), vr u0, vr ru, vr bq3, vr bq4, vr b5, vi (0 : Int32), vi (0 : Int32)] [xr b5])) rfl (by rw [hml]; rfl) (Steps.refl _) (argsL := []) (rest := []) (lenOf pd7 rfl) rfl (by show 2 * 0 + _ ≤ _; exact Nat.le_of_eq rfl) (hb hby at_110) (fun _ _ => ⟨rfl, e8, (by decide : 5 + 0 ≤ _), (by decide : 14 + 0 ≤ _)⟩)
  dsimp only [Pt.U, Pt.locs, Pt.cells, Pt.slots] at X9 l9 y9 z9 st9 hQ9
  subst l9 y9 z9
  obtain ⟨rfl, Nq9, e9⟩ := hQ9
  have N9 := Fr.app N8 Nq9
  obtain ⟨cq10, kq10, qa10, qb10, qc10⟩ := isOf hZ e9 X_b5_6
  obtain ⟨_, _, ⟨T10, L10, k10, n10⟩, -, X10, ⟨Lc10, hQ10, l10, y10, z10⟩, st10⟩ := X9.virtualBack hx (y := Y8) (z := Y8) hown (mvT hZ (ww hw 64 rfl)) (mvT hZ (ww hw 65 rfl)) (notFace_of_selects (args := #[]) (mvT hZ (ww hw 67 rfl))) (mvT hZ (ww hw 67 rfl)) (mvT hZ (ww hw 66 rfl)) (by decide) (backOf (W := 0) (own_field_ l Z a0 hw hj u0 u1 u2 u3 u4 u5 u6 u7 u8 u9 u10 u11 u12 u13 ki0 G b5 bq3 ru bq4 u0 h6 n0 O6 ⟨X_b5_6, G0_6, G1_6, G2_6, G3_6⟩ []) hZ (ww hw 68 rfl) (ww hw 39 rfl) (by decide) (by decide)) qa10 qc10 (g := (mkF m 120 #[vi p1, vi p2, vi p3, vi p4, vi (0 : Int32), vr u0, vr ru, vr bq3, vr bq4, vr b5, vi (0 : Int32), vi (0 : Int32)] [xr b5])) rfl (by rw [hml]; rfl) (Steps.refl _) (argsL := []) (rest := []) (lenOf pd8 rfl) rfl (by show 2 * 0 + _ ≤ _; exact Nat.le_of_eq rfl) (hb hby at_120) (fun _ _ => ⟨rfl, e9, (by decide : 5 + 0 ≤ _), (by decide : 14 + 0 ≤ _)⟩)
  dsimp only [Pt.U, Pt.locs, Pt.cells, Pt.slots] at X10 l10 y10 z10 st10 hQ10
  subst l10 y10 z10
  obtain ⟨rfl, Nq10, e10⟩ := hQ10
  have N10 := Fr.app N9 Nq10
  obtain ⟨cq11, kq11, qa11, qb11, qc11⟩ := isOf hZ e10 X_b5_6
  obtain ⟨_, _, ⟨T11, L11, k11, n11⟩, -, X11, ⟨Lc11, hQ11, l11, y11, z11⟩, st11⟩ := X10.virtualBack hx (y := Y9) (z := Y9) hown (mvT hZ (ww hw 69 rfl)) (mvT hZ (ww hw 70 rfl)) (notFace_of_selects (args := #[]) (mvT hZ (ww hw 72 rfl))) (mvT hZ (ww hw 72 rfl)) (mvT hZ (ww hw 71 rfl)) (by decide) (backOf (W := 0) (own_message_ l Z a0 hw hj u0 u1 u2 u3 u4 u5 u6 u7 u8 u9 u10 u11 u12 u13 ki0 G b5 bq3 ru bq4 u0 h6 n0 O6 ⟨X_b5_6, G0_6, G1_6, G2_6, G3_6⟩ []) hZ (ww hw 73 rfl) (ww hw 39 rfl) (by decide) (by decide)) qa11 qc11 (g := (mkF m 130 #[vi p1, vi p2, vi p3, vi p4, vi (0 : Int32), vr u0, vr ru, vr bq3, vr bq4, vr b5, vi (0 : Int32), vi (0 : Int32)] [xr b5])) rfl (by rw [hml]; rfl) (Steps.refl _) (argsL := []) (rest := []) (lenOf pd8 rfl) rfl (by show 2 * 0 + _ ≤ _; exact Nat.le_of_eq rfl) (hb hby at_130) (fun _ _ => ⟨rfl, e10, (by decide : 5 + 0 ≤ _), (by decide : 14 + 0 ≤ _)⟩)
  dsimp only [Pt.U, Pt.locs, Pt.cells, Pt.slots] at X11 l11 y11 z11 st11 hQ11
  subst l11 y11 z11
  obtain ⟨rfl, Nq11, e11⟩ := hQ11
  have N11 := Fr.app N10 Nq11
  obtain ⟨fs, hr, hrun, hended, hW, hsame⟩ := X11.leave (v := some (xi (1 : Int32))) (fun h => by rw [Bd.returns] at h; cases h)
  refine ⟨_, _, pre0 _ ?_, hrun, hended, _, _, rfl, ?_, ⟨_, rfl⟩, hW, hsame.mono (by decide) (by decide)⟩
  · show own_S p e below s₁ (mkF m 0 #[vi p1, vi p2, vi p3, vi p4, vu, vu, vu, vu, vu, vu, vu, vu] []) _
    refine XS.iloadN X0.here hx rfl (hb hby at_0) rfl ?_
    show own_S p e below s₁ (mkF m 1 #[vi p1, vi p2, vi p3, vi p4, vu, vu, vu, vu, vu, vu, vu, vu] [xi p1]) _
    refine XS.iconst X0.here hx rfl (hb hby at_1) ?_
    show own_S p e below s₁ (mkF m 2 #[vi p1, vi p2, vi p3, vi p4, vu, vu, vu, vu, vu, vu, vu, vu] [xi (1 : Int32), xi p1]) _
    refine XS.iand X0.here hx rfl (hb hby at_2) rfl ?_
    show own_S p e below s₁ (mkF m 3 #[vi p1, vi p2, vi p3, vi p4, vu, vu, vu, vu, vu, vu, vu, vu] [xi (p1 &&& (1 : Int32))]) _
    refine castTop (show (mkF m 3 #[vi p1, vi p2, vi p3, vi p4, vu, vu, vu, vu, vu, vu, vu, vu] [xi (p1 &&& (1 : Int32))]) = (mkF m 3 #[vi p1, vi p2, vi p3, vi p4, vu, vu, vu, vu, vu, vu, vu, vu] [xi (0 : Int32)]) from by rw [as14]) ?_
    show own_S p e below s₁ (mkF m 3 #[vi p1, vi p2, vi p3, vi p4, vu, vu, vu, vu, vu, vu, vu, vu] [xi (0 : Int32)]) _
    refine XS.ifYes X0.here hx rfl (pc0 := 3) (pc' := 10) rfl (hb hby at_3) rfl (by decide) (by decide) (by decide) ?_
    show own_S p e below s₁ (mkF m 10 #[vi p1, vi p2, vi p3, vi p4, vu, vu, vu, vu, vu, vu, vu, vu] []) _
    refine XS.iconst X0.here hx rfl (hb hby at_10) ?_
    show own_S p e below s₁ (mkF m 11 #[vi p1, vi p2, vi p3, vi p4, vu, vu, vu, vu, vu, vu, vu, vu] [xi (0 : Int32)]) _
    refine XS.istore X0.here hx rfl (hb hby at_11) rfl (l' := #[vi p1, vi p2, vi p3, vi p4, vi (0 : Int32), vu, vu, vu, vu, vu, vu, vu]) rfl ?_
    show own_S p e below s₁ (mkF m 13 #[vi p1, vi p2, vi p3, vi p4, vi (0 : Int32), vu, vu, vu, vu, vu, vu, vu] []) _
    refine XS.iload X0.here hx rfl (hb hby at_13) rfl ?_
    show own_S p e below s₁ (mkF m 15 #[vi p1, vi p2, vi p3, vi p4, vi (0 : Int32), vu, vu, vu, vu, vu, vu, vu] [xi (0 : Int32)]) _
    refine XS.ifYes X0.here hx rfl (pc0 := 15) (pc' := 24) rfl (hb hby at_15) rfl (by decide) (by decide) (by decide) ?_
    show own_S p e below s₁ (mkF m 24 #[vi p1, vi p2, vi p3, vi p4, vi (0 : Int32), vu, vu, vu, vu, vu, vu, vu] []) _
    refine st1 _ ?_
    show own_S p e below T1 (mkF m 27 #[vi p1, vi p2, vi p3, vi p4, vi (0 : Int32), vu, vu, vu, vu, vu, vu, vu] [xr u0]) _
    refine XS.astore X1.here hx rfl (hb hby at_27) rfl rfl (l' := #[vi p1, vi p2, vi p3, vi p4, vi (0 : Int32), vr u0, vu, vu, vu, vu, vu, vu]) rfl ?_
    show own_S p e below T1 (mkF m 29 #[vi p1, vi p2, vi p3, vi p4, vi (0 : Int32), vr u0, vu, vu, vu, vu, vu, vu] []) _
    refine XS.iloadN X1.here hx rfl (hb hby at_29) rfl ?_
    show own_S p e below T1 (mkF m 30 #[vi p1, vi p2, vi p3, vi p4, vi (0 : Int32), vr u0, vu, vu, vu, vu, vu, vu] [xi p2]) _
    refine X1.ldcI hx hown (mvT hZ (ww hw 3 rfl)) (g := (mkF m 30 #[vi p1, vi p2, vi p3, vi p4, vi (0 : Int32), vr u0, vu, vu, vu, vu, vu, vu] [xi p2])) rfl (hb hby at_30) ?_
    show own_S p e below T1 (mkF m 32 #[vi p1, vi p2, vi p3, vi p4, vi (0 : Int32), vr u0, vu, vu, vu, vu, vu, vu] [xi (2147483647 : Int32), xi p2]) _
    refine XS.iand X1.here hx rfl (hb hby at_32) rfl ?_
    show own_S p e below T1 (mkF m 33 #[vi p1, vi p2, vi p3, vi p4, vi (0 : Int32), vr u0, vu, vu, vu, vu, vu, vu] [xi (p2 &&& (2147483647 : Int32))]) _
    show own_S p e below T1 (mkF m 33 #[vi p1, vi p2, vi p3, vi p4, vi (0 : Int32), vr u0, vu, vu, vu, vu, vu, vu] [xi (p2 &&& (2147483647 : Int32))]) _
    refine XS.bipush X1.here hx rfl (hb hby at_33) ?_
    show own_S p e below T1 (mkF m 35 #[vi p1, vi p2, vi p3, vi p4, vi (0 : Int32), vr u0, vu, vu, vu, vu, vu, vu] [xi (12 : Int32), xi (p2 &&& (2147483647 : Int32))]) _
    refine XS.irem X1.here hx rfl (hb hby at_35) rfl (by decide) ?_
    show own_S p e below T1 (mkF m 36 #[vi p1, vi p2, vi p3, vi p4, vi (0 : Int32), vr u0, vu, vu, vu, vu, vu, vu] [xi ((p2 &&& (2147483647 : Int32)) - ((p2 &&& (2147483647 : Int32)) / (12 : Int32)) * (12 : Int32))]) _
    refine castTop (show (mkF m 36 #[vi p1, vi p2, vi p3, vi p4, vi (0 : Int32), vr u0, vu, vu, vu, vu, vu, vu] [xi ((p2 &&& (2147483647 : Int32)) - ((p2 &&& (2147483647 : Int32)) / (12 : Int32)) * (12 : Int32))]) = (mkF m 36 #[vi p1, vi p2, vi p3, vi p4, vi (0 : Int32), vr u0, vu, vu, vu, vu, vu, vu] [xi ri]) from by rw [as13]) ?_
    show own_S p e below T1 (mkF m 36 #[vi p1, vi p2, vi p3, vi p4, vi (0 : Int32), vr u0, vu, vu, vu, vu, vu, vu] [xi ri]) _
    refine st2 _ ?_
    show own_S p e below T2 (mkF m 39 #[vi p1, vi p2, vi p3, vi p4, vi (0 : Int32), vr u0, vu, vu, vu, vu, vu, vu] [xr ru]) _
    refine XS.astore X2.here hx rfl (hb hby at_39) rfl rfl (l' := #[vi p1, vi p2, vi p3, vi p4, vi (0 : Int32), vr u0, vr ru, vu, vu, vu, vu, vu]) rfl ?_
    show own_S p e below T2 (mkF m 41 #[vi p1, vi p2, vi p3, vi p4, vi (0 : Int32), vr u0, vr ru, vu, vu, vu, vu, vu] []) _
    refine XS.iloadN X2.here hx rfl (hb hby at_41) rfl ?_
    show own_S p e below T2 (mkF m 42 #[vi p1, vi p2, vi p3, vi p4, vi (0 : Int32), vr u0, vr ru, vu, vu, vu, vu, vu] [xi p3]) _
    refine XS.sipush X2.here hx rfl (hb hby at_42) ?_
    show own_S p e below T2 (mkF m 45 #[vi p1, vi p2, vi p3, vi p4, vi (0 : Int32), vr u0, vr ru, vu, vu, vu, vu, vu] [xi (255 : Int32), xi p3]) _
    refine XS.iand X2.here hx rfl (hb hby at_45) rfl ?_
    show own_S p e below T2 (mkF m 46 #[vi p1, vi p2, vi p3, vi p4, vi (0 : Int32), vr u0, vr ru, vu, vu, vu, vu, vu] [xi (p3 &&& (255 : Int32))]) _
    show own_S p e below T2 (mkF m 46 #[vi p1, vi p2, vi p3, vi p4, vi (0 : Int32), vr u0, vr ru, vu, vu, vu, vu, vu] [xi (p3 &&& (255 : Int32))]) _
    refine XS.i2c X2.here hx rfl (hb hby at_46) rfl ?_
    show own_S p e below T2 (mkF m 47 #[vi p1, vi p2, vi p3, vi p4, vi (0 : Int32), vr u0, vr ru, vu, vu, vu, vu, vu] [xi ((p3 &&& (255 : Int32)).toUInt32.toUInt16.toUInt32.toInt32)]) _
    refine castTop (show (mkF m 47 #[vi p1, vi p2, vi p3, vi p4, vi (0 : Int32), vr u0, vr ru, vu, vu, vu, vu, vu] [xi ((p3 &&& (255 : Int32)).toUInt32.toUInt16.toUInt32.toInt32)]) = (mkF m 47 #[vi p1, vi p2, vi p3, vi p4, vi (0 : Int32), vr u0, vr ru, vu, vu, vu, vu, vu] [xi (p3 &&& (255 : Int32))]) from by rw [i2c_mask]) ?_
    show own_S p e below T2 (mkF m 47 #[vi p1, vi p2, vi p3, vi p4, vi (0 : Int32), vr u0, vr ru, vu, vu, vu, vu, vu] [xi (p3 &&& (255 : Int32))]) _
    refine st3 _ ?_
    show own_S p e below T3 (mkF m 50 #[vi p1, vi p2, vi p3, vi p4, vi (0 : Int32), vr u0, vr ru, vu, vu, vu, vu, vu] [xr bq3]) _
    refine XS.astore X3.here hx rfl (hb hby at_50) rfl rfl (l' := #[vi p1, vi p2, vi p3, vi p4, vi (0 : Int32), vr u0, vr ru, vr bq3, vu, vu, vu, vu]) rfl ?_
    show own_S p e below T3 (mkF m 52 #[vi p1, vi p2, vi p3, vi p4, vi (0 : Int32), vr u0, vr ru, vr bq3, vu, vu, vu, vu] []) _
    refine XS.iloadN X3.here hx rfl (hb hby at_52) rfl ?_
    show own_S p e below T3 (mkF m 53 #[vi p1, vi p2, vi p3, vi p4, vi (0 : Int32), vr u0, vr ru, vr bq3, vu, vu, vu, vu] [xi p4]) _
    refine XS.sipush X3.here hx rfl (hb hby at_53) ?_
    show own_S p e below T3 (mkF m 56 #[vi p1, vi p2, vi p3, vi p4, vi (0 : Int32), vr u0, vr ru, vr bq3, vu, vu, vu, vu] [xi (255 : Int32), xi p4]) _
    refine XS.iand X3.here hx rfl (hb hby at_56) rfl ?_
    show own_S p e below T3 (mkF m 57 #[vi p1, vi p2, vi p3, vi p4, vi (0 : Int32), vr u0, vr ru, vr bq3, vu, vu, vu, vu] [xi (p4 &&& (255 : Int32))]) _
    show own_S p e below T3 (mkF m 57 #[vi p1, vi p2, vi p3, vi p4, vi (0 : Int32), vr u0, vr ru, vr bq3, vu, vu, vu, vu] [xi (p4 &&& (255 : Int32))]) _
    refine XS.i2c X3.here hx rfl (hb hby at_57) rfl ?_
    show own_S p e below T3 (mkF m 58 #[vi p1, vi p2, vi p3, vi p4, vi (0 : Int32), vr u0, vr ru, vr bq3, vu, vu, vu, vu] [xi ((p4 &&& (255 : Int32)).toUInt32.toUInt16.toUInt32.toInt32)]) _
    refine castTop (show (mkF m 58 #[vi p1, vi p2, vi p3, vi p4, vi (0 : Int32), vr u0, vr ru, vr bq3, vu, vu, vu, vu] [xi ((p4 &&& (255 : Int32)).toUInt32.toUInt16.toUInt32.toInt32)]) = (mkF m 58 #[vi p1, vi p2, vi p3, vi p4, vi (0 : Int32), vr u0, vr ru, vr bq3, vu, vu, vu, vu] [xi (p4 &&& (255 : Int32))]) from by rw [i2c_mask]) ?_
    show own_S p e below T3 (mkF m 58 #[vi p1, vi p2, vi p3, vi p4, vi (0 : Int32), vr u0, vr ru, vr bq3, vu, vu, vu, vu] [xi (p4 &&& (255 : Int32))]) _
    refine st4 _ ?_
    show own_S p e below T4 (mkF m 61 #[vi p1, vi p2, vi p3, vi p4, vi (0 : Int32), vr u0, vr ru, vr bq3, vu, vu, vu, vu] [xr bq4]) _
    refine XS.astore X4.here hx rfl (hb hby at_61) rfl rfl (l' := #[vi p1, vi p2, vi p3, vi p4, vi (0 : Int32), vr u0, vr ru, vr bq3, vr bq4, vu, vu, vu]) rfl ?_
    show own_S p e below T4 (mkF m 63 #[vi p1, vi p2, vi p3, vi p4, vi (0 : Int32), vr u0, vr ru, vr bq3, vr bq4, vu, vu, vu] []) _
    refine st5 _ ?_
    show own_S p e below T5 (mkF m 66 #[vi p1, vi p2, vi p3, vi p4, vi (0 : Int32), vr u0, vr ru, vr bq3, vr bq4, vu, vu, vu] [xr b5]) _
    refine XS.dup X5.here hx rfl (hb hby at_66) rfl rfl ?_
    show own_S p e below T5 (mkF m 67 #[vi p1, vi p2, vi p3, vi p4, vi (0 : Int32), vr u0, vr ru, vr bq3, vr bq4, vu, vu, vu] [xr b5, xr b5]) _
    refine XS.aload X5.here hx rfl (hb hby at_67) rfl rfl ?_
    show own_S p e below T5 (mkF m 69 #[vi p1, vi p2, vi p3, vi p4, vi (0 : Int32), vr u0, vr ru, vr bq3, vr bq4, vu, vu, vu] [xr bq3, xr b5, xr b5]) _
    refine XS.aload X5.here hx rfl (hb hby at_69) rfl rfl ?_
    show own_S p e below T5 (mkF m 71 #[vi p1, vi p2, vi p3, vi p4, vi (0 : Int32), vr u0, vr ru, vr bq3, vr bq4, vu, vu, vu] [xr ru, xr bq3, xr b5, xr b5]) _
    refine XS.aload X5.here hx rfl (hb hby at_71) rfl rfl ?_
    show own_S p e below T5 (mkF m 73 #[vi p1, vi p2, vi p3, vi p4, vi (0 : Int32), vr u0, vr ru, vr bq3, vr bq4, vu, vu, vu] [xr u0, xr ru, xr bq3, xr b5, xr b5]) _
    refine XS.aload X5.here hx rfl (hb hby at_73) rfl rfl ?_
    show own_S p e below T5 (mkF m 75 #[vi p1, vi p2, vi p3, vi p4, vi (0 : Int32), vr u0, vr ru, vr bq3, vr bq4, vu, vu, vu] [xr bq4, xr u0, xr ru, xr bq3, xr b5, xr b5]) _
    refine st6.trans ?_
    show own_S p e below T6 (mkF m 78 #[vi p1, vi p2, vi p3, vi p4, vi (0 : Int32), vr u0, vr ru, vr bq3, vr bq4, vu, vu, vu] [xr b5]) _
    refine XS.astore X6.here hx rfl (hb hby at_78) rfl rfl (l' := #[vi p1, vi p2, vi p3, vi p4, vi (0 : Int32), vr u0, vr ru, vr bq3, vr bq4, vr b5, vu, vu]) rfl ?_
    show own_S p e below T6 (mkF m 80 #[vi p1, vi p2, vi p3, vi p4, vi (0 : Int32), vr u0, vr ru, vr bq3, vr bq4, vr b5, vu, vu] []) _
    refine XS.aload X6.here hx rfl (hb hby at_80) rfl rfl ?_
    show own_S p e below T6 (mkF m 82 #[vi p1, vi p2, vi p3, vi p4, vi (0 : Int32), vr u0, vr ru, vr bq3, vr bq4, vr b5, vu, vu] [xr b5]) _
    refine st7.trans ?_
    show own_S p e below T7 (mkF m 85 #[vi p1, vi p2, vi p3, vi p4, vi (0 : Int32), vr u0, vr ru, vr bq3, vr bq4, vr b5, vu, vu] [xi (0 : Int32)]) _
    refine XS.istore X7.here hx rfl (hb hby at_85) rfl (l' := #[vi p1, vi p2, vi p3, vi p4, vi (0 : Int32), vr u0, vr ru, vr bq3, vr bq4, vr b5, vi (0 : Int32), vu]) rfl ?_
    show own_S p e below T7 (mkF m 87 #[vi p1, vi p2, vi p3, vi p4, vi (0 : Int32), vr u0, vr ru, vr bq3, vr bq4, vr b5, vi (0 : Int32), vu] []) _
    refine XS.aload X7.here hx rfl (hb hby at_87) rfl rfl ?_
    show own_S p e below T7 (mkF m 89 #[vi p1, vi p2, vi p3, vi p4, vi (0 : Int32), vr u0, vr ru, vr bq3, vr bq4, vr b5, vi (0 : Int32), vu] [xr b5]) _
    refine st8.trans ?_
    show own_S p e below T8 (mkF m 92 #[vi p1, vi p2, vi p3, vi p4, vi (0 : Int32), vr u0, vr ru, vr bq3, vr bq4, vr b5, vi (0 : Int32), vu] [xi (0 : Int32)]) _
    refine XS.istore X8.here hx rfl (hb hby at_92) rfl (l' := #[vi p1, vi p2, vi p3, vi p4, vi (0 : Int32), vr u0, vr ru, vr bq3, vr bq4, vr b5, vi (0 : Int32), vi (0 : Int32)]) rfl ?_
    show own_S p e below T8 (mkF m 94 #[vi p1, vi p2, vi p3, vi p4, vi (0 : Int32), vr u0, vr ru, vr bq3, vr bq4, vr b5, vi (0 : Int32), vi (0 : Int32)] []) _
    refine XS.iload X8.here hx rfl (hb hby at_94) rfl ?_
    show own_S p e below T8 (mkF m 96 #[vi p1, vi p2, vi p3, vi p4, vi (0 : Int32), vr u0, vr ru, vr bq3, vr bq4, vr b5, vi (0 : Int32), vi (0 : Int32)] [xi (0 : Int32)]) _
    refine XS.iload X8.here hx rfl (hb hby at_96) rfl ?_
    show own_S p e below T8 (mkF m 98 #[vi p1, vi p2, vi p3, vi p4, vi (0 : Int32), vr u0, vr ru, vr bq3, vr bq4, vr b5, vi (0 : Int32), vi (0 : Int32)] [xi (0 : Int32), xi (0 : Int32)]) _
    refine XS.icmpNo X8.here hx rfl (hb hby at_98) rfl (by decide) ?_
    show own_S p e below T8 (mkF m 101 #[vi p1, vi p2, vi p3, vi p4, vi (0 : Int32), vr u0, vr ru, vr bq3, vr bq4, vr b5, vi (0 : Int32), vi (0 : Int32)] []) _
    refine XS.iload X8.here hx rfl (hb hby at_101) rfl ?_
    show own_S p e below T8 (mkF m 103 #[vi p1, vi p2, vi p3, vi p4, vi (0 : Int32), vr u0, vr ru, vr bq3, vr bq4, vr b5, vi (0 : Int32), vi (0 : Int32)] [xi (0 : Int32)]) _
    refine XS.iload X8.here hx rfl (hb hby at_103) rfl ?_
    show own_S p e below T8 (mkF m 105 #[vi p1, vi p2, vi p3, vi p4, vi (0 : Int32), vr u0, vr ru, vr bq3, vr bq4, vr b5, vi (0 : Int32), vi (0 : Int32)] [xi (0 : Int32), xi (0 : Int32)]) _
    refine XS.icmpNo X8.here hx rfl (hb hby at_105) rfl (by decide) ?_
    show own_S p e below T8 (mkF m 108 #[vi p1, vi p2, vi p3, vi p4, vi (0 : Int32), vr u0, vr ru, vr bq3, vr bq4, vr b5, vi (0 : Int32), vi (0 : Int32)] []) _
    refine XS.aload X8.here hx rfl (hb hby at_108) rfl rfl ?_
    show own_S p e below T8 (mkF m 110 #[vi p1, vi p2, vi p3, vi p4, vi (0 : Int32), vr u0, vr ru, vr bq3, vr bq4, vr b5, vi (0 : Int32), vi (0 : Int32)] [xr b5]) _
    refine st9.trans ?_
    show own_S p e below T9 (mkF m 113 #[vi p1, vi p2, vi p3, vi p4, vi (0 : Int32), vr u0, vr ru, vr bq3, vr bq4, vr b5, vi (0 : Int32), vi (0 : Int32)] [xr ru]) _
    refine XS.aload X9.here hx rfl (hb hby at_113) rfl rfl ?_
    show own_S p e below T9 (mkF m 115 #[vi p1, vi p2, vi p3, vi p4, vi (0 : Int32), vr u0, vr ru, vr bq3, vr bq4, vr b5, vi (0 : Int32), vi (0 : Int32)] [xr ru, xr ru]) _
    refine Jvm.RoadKit.acmp (g := (mkF m 115 #[vi p1, vi p2, vi p3, vi p4, vi (0 : Int32), vr u0, vr ru, vr bq3, vr bq4, vr b5, vi (0 : Int32), vi (0 : Int32)] [xr ru, xr ru])) X9 hx rfl rfl rfl (pc0 := 115) (pc' := 118) (same := true) rfl (hb hby at_115) rfl (decide_eq_true rfl) (by decide) (by decide) ?_
    show own_S p e below T9 (mkF m 118 #[vi p1, vi p2, vi p3, vi p4, vi (0 : Int32), vr u0, vr ru, vr bq3, vr bq4, vr b5, vi (0 : Int32), vi (0 : Int32)] []) _
    refine XS.aload X9.here hx rfl (hb hby at_118) rfl rfl ?_
    show own_S p e below T9 (mkF m 120 #[vi p1, vi p2, vi p3, vi p4, vi (0 : Int32), vr u0, vr ru, vr bq3, vr bq4, vr b5, vi (0 : Int32), vi (0 : Int32)] [xr b5]) _
    refine st10.trans ?_
    show own_S p e below T10 (mkF m 123 #[vi p1, vi p2, vi p3, vi p4, vi (0 : Int32), vr u0, vr ru, vr bq3, vr bq4, vr b5, vi (0 : Int32), vi (0 : Int32)] [xr bq3]) _
    refine XS.aload X10.here hx rfl (hb hby at_123) rfl rfl ?_
    show own_S p e below T10 (mkF m 125 #[vi p1, vi p2, vi p3, vi p4, vi (0 : Int32), vr u0, vr ru, vr bq3, vr bq4, vr b5, vi (0 : Int32), vi (0 : Int32)] [xr bq3, xr bq3]) _
    refine Jvm.RoadKit.acmp (g := (mkF m 125 #[vi p1, vi p2, vi p3, vi p4, vi (0 : Int32), vr u0, vr ru, vr bq3, vr bq4, vr b5, vi (0 : Int32), vi (0 : Int32)] [xr bq3, xr bq3])) X10 hx rfl rfl rfl (pc0 := 125) (pc' := 128) (same := true) rfl (hb hby at_125) rfl (decide_eq_true rfl) (by decide) (by decide) ?_
    show own_S p e below T10 (mkF m 128 #[vi p1, vi p2, vi p3, vi p4, vi (0 : Int32), vr u0, vr ru, vr bq3, vr bq4, vr b5, vi (0 : Int32), vi (0 : Int32)] []) _
    refine XS.aload X10.here hx rfl (hb hby at_128) rfl rfl ?_
    show own_S p e below T10 (mkF m 130 #[vi p1, vi p2, vi p3, vi p4, vi (0 : Int32), vr u0, vr ru, vr bq3, vr bq4, vr b5, vi (0 : Int32), vi (0 : Int32)] [xr b5]) _
    refine st11.trans ?_
    show own_S p e below T11 (mkF m 133 #[vi p1, vi p2, vi p3, vi p4, vi (0 : Int32), vr u0, vr ru, vr bq3, vr bq4, vr b5, vi (0 : Int32), vi (0 : Int32)] [xr bq4]) _
    refine XS.aload X11.here hx rfl (hb hby at_133) rfl rfl ?_
    show own_S p e below T11 (mkF m 135 #[vi p1, vi p2, vi p3, vi p4, vi (0 : Int32), vr u0, vr ru, vr bq3, vr bq4, vr b5, vi (0 : Int32), vi (0 : Int32)] [xr bq4, xr bq4]) _
    refine Jvm.RoadKit.acmp (g := (mkF m 135 #[vi p1, vi p2, vi p3, vi p4, vi (0 : Int32), vr u0, vr ru, vr bq3, vr bq4, vr b5, vi (0 : Int32), vi (0 : Int32)] [xr bq4, xr bq4])) X11 hx rfl rfl rfl (pc0 := 135) (pc' := 138) (same := true) rfl (hb hby at_135) rfl (decide_eq_true rfl) (by decide) (by decide) ?_
    show own_S p e below T11 (mkF m 138 #[vi p1, vi p2, vi p3, vi p4, vi (0 : Int32), vr u0, vr ru, vr bq3, vr bq4, vr b5, vi (0 : Int32), vi (0 : Int32)] []) _
    refine XS.iconst X11.here hx rfl (hb hby at_138) ?_
    show own_S p e below T11 (mkF m 139 #[vi p1, vi p2, vi p3, vi p4, vi (0 : Int32), vr u0, vr ru, vr bq3, vr bq4, vr b5, vi (0 : Int32), vi (0 : Int32)] [xi (1 : Int32)]) _
    refine XS.goto X11.here hx rfl (pc0 := 139) (pc' := 143) rfl (hb hby at_139) (by decide) (by decide) ?_
    show own_S p e below T11 (mkF m 143 #[vi p1, vi p2, vi p3, vi p4, vi (0 : Int32), vr u0, vr ru, vr bq3, vr bq4, vr b5, vi (0 : Int32), vi (0 : Int32)] [xi (1 : Int32)]) _
    exact retN X11 hx (t := .boolean) Bd.returns (by simp) (hb hby at_143) hr
  · exact ⟨rfl, N11⟩
theorem ef_own_l1 (m : MethodId) (u0 u1 u2 u3 u4 u5 u6 u7 u8 u9 u10 u11 u12 u13 : Addr) (ki0 : Int32) (p1 : Int32) (p2 : Int32) (p3 : Int32) (p4 : Int32) (ri : Int32) (ru : Addr) : entryFrame m #[xi p1, xi p2, xi p3, xi p4] maxLocals = (mkF m 0 #[vi p1, vi p2, vi p3, vi p4, vu, vu, vu, vu, vu, vu, vu, vu] []) := by first | (simp [entryFrame, mkF, argsToLocals, Value.category, maxLocals]; done) | rfl
set_option maxRecDepth 65536 in
set_option maxHeartbeats 40000000 in
theorem own_l1 (l : Launch) (Z : State) (a0 : Array Value) (hw : ∀ d ∈ tables_1, d.before a0 Z = true) (hj : ∀ d ∈ jdkStatics_1, d.before a0 Z = true) (u0 u1 u2 u3 u4 u5 u6 u7 u8 u9 u10 u11 u12 u13 : Addr) (ki0 : Int32) (G : own_St Z hj u0 u1 u2 u3 u4 u5 u6 u7 u8 u9 u10 u11 u12 u13 ki0) (p1 : Int32) (p2 : Int32) (p3 : Int32) (p4 : Int32) (ri : Int32) (ru : Addr) (as15 : (p1 &&& (1 : Int32)) = (1 : Int32)) (as13 : ((p2 &&& (2147483647 : Int32)) - ((p2 &&& (2147483647 : Int32)) / (12 : Int32)) * (12 : Int32)) = ri) (hvr : own_isr u0 u1 u2 u3 u4 u5 u6 u7 u8 u9 u10 u11 u12 u13 ki0 ri ru) (h0 : Heap) (n0 : Nat) (O0 : Old Z n0 h0) : own_Met l Z x code maxLocals ret room_1 #[xi p1, xi p2, xi p3, xi p4] h0 (own_QL (some (xi (1 : Int32))) n0) := by
  intro ws
  refine MetFree.of_bodySF (plainFor_of_name pn2) hisR ?_
  intro p e s m args below meth c s₁ Bd hml0 hP hK
  obtain ⟨rfl, hZ, hh⟩ := hP
  have hx := Bd.exec
  have hby := Bd.bytes
  have hml : c.maxLocals = 12 := hml0
  have hown : s.vm.findClass "com/example/feedwright/feedwright/FaultRefusesPinLaw" = some m.cls := findClass_of_methodNamed Bd.named
  have hnm := (name_of_methodNamed Bd.named Bd.method).1
  have X0 : Stand p l e room_1 s m #[xi p1, xi p2, xi p3, xi p4] below meth c s₁ [] 0 0 := Stand.of_body Bd
  have e0 : s₁.heap = h0 := by rw [← hh, Bd.state]; rfl
  have N0 := Fr.nil n0
  have pre0 : ∀ t, Steps p.tables e below (s₁.setTop (mkF m 0 #[vi p1, vi p2, vi p3, vi p4, vu, vu, vu, vu, vu, vu, vu, vu] [])) t → Steps p.tables e below (s₁.setTop (entryFrame m #[xi p1, xi p2, xi p3, xi p4] maxLocals)) t := fun t st => castTop (ef_own_l1 m u0 u1 u2 u3 u4 u5 u6 u7 u8 u9 u10 u11 u12 u13 ki0 p1 p2 p3 p4 ri ru) st
  obtain ⟨T1, X1, e1, st1⟩ := getS2 X0 hx hZ hown (host := "") (Or.inl (ww hw 74 rfl)) Via.refl e0 ((own_S_u2 G).ext O0.2) (g := (mkF m 18 #[vi p1, vi p2, vi p3, vi p4, vi (1 : Int32), vu, vu, vu, vu, vu, vu, vu] [])) rfl (hb hby at_18)
  obtain ⟨_, _, ⟨T2, L2, k2, n2⟩, -, X2, ⟨Lc2, hQ2, l2, y2, z2⟩, st2⟩ := Jvm.LawKit.callS X1 hx (y := Y4) hown (mvT hZ (ww hw 4 rfl)) (mvT hZ (ww hw 5 rfl)) (mvT hZ (ww hw 6 rfl)) (mvT hZ (ww hw 7 rfl)) (by decide) (backOf (W := 0) (own_rule l Z a0 hw hj u0 u1 u2 u3 u4 u5 u6 u7 u8 u9 u10 u11 u12 u13 ki0 G ri ru hvr h0 n0 O0 []) hZ (ww hw 7 rfl) (ww hw 6 rfl) (by decide) (by decide)) (g := (mkF m 36 #[vi p1, vi p2, vi p3, vi p4, vi (1 : Int32), vr u2, vu, vu, vu, vu, vu, vu] [xi ri])) rfl (by rw [hml]; rfl) (argsL := [xi ri]) (rest := []) (lenOf pd3 rfl) rfl (by show 2 * 0 + _ ≤ _; exact Nat.le_of_eq rfl) (hb hby at_36) (fun _ _ => ⟨rfl, e1, (by decide : 0 + 0 ≤ _), (by decide : 0 + 0 ≤ _)⟩)
  dsimp only [Pt.U, Pt.locs, Pt.cells, Pt.slots] at X2 l2 y2 z2 st2 hQ2
  subst l2 y2 z2
  obtain ⟨rfl, Nq2, e2⟩ := hQ2
  have N2 := Fr.app N0 Nq2
  obtain ⟨_, _, ⟨T3, L3, k3, n3⟩, -, X3, ⟨Lc3, hQ3, l3, y3, z3⟩, st3⟩ := Jvm.LawKit.callS X2 hx (y := Y3) hown (mvT hZ (ww hw 11 rfl)) (mvT hZ (ww hw 12 rfl)) (mvT hZ (ww hw 13 rfl)) (mvT hZ (ww hw 14 rfl)) (by decide) (backOf (W := 0) (own_valueOf l Z a0 hw hj u0 u1 u2 u3 u4 u5 u6 u7 u8 u9 u10 u11 u12 u13 ki0 G (p3 &&& (255 : Int32)) (own_ch p3) h0 n0 O0 []) hZ (ww hw 14 rfl) (ww hw 13 rfl) (by decide) (by decide)) (g := (mkF m 47 #[vi p1, vi p2, vi p3, vi p4, vi (1 : Int32), vr u2, vr ru, vu, vu, vu, vu, vu] [xi (p3 &&& (255 : Int32))])) rfl (by rw [hml]; rfl) (argsL := [xi (p3 &&& (255 : Int32))]) (rest := []) (lenOf pd4 rfl) rfl (by show 2 * 0 + _ ≤ _; exact Nat.le_of_eq rfl) (hb hby at_47) (fun _ _ => ⟨rfl, e2, (by decide : 0 + 2 ≤ _), (by decide : 0 + 5 ≤ _)⟩)
  dsimp only [Pt.U, Pt.locs, Pt.cells, Pt.slots] at X3 l3 y3 z3 st3 hQ3
  subst l3 y3 z3
  obtain ⟨h3, e3⟩ : ∃ z, T3.heap = z := ⟨_, rfl⟩
  rw [e3] at hQ3
  obtain ⟨bq3, rfl, Nq3, K3⟩ := hQ3
  have N3 := Fr.app N2 Nq3
  have O3 : Old Z n0 h3 := O0.keep K3 all0
  obtain ⟨_, _, ⟨T4, L4, k4, n4⟩, -, X4, ⟨Lc4, hQ4, l4, y4, z4⟩, st4⟩ := Jvm.LawKit.callS X3 hx (y := Y3) hown (mvT hZ (ww hw 11 rfl)) (mvT hZ (ww hw 12 rfl)) (mvT hZ (ww hw 13 rfl)) (mvT hZ (ww hw 14 rfl)) (by decide) (backOf (W := 0) (own_valueOf l Z a0 hw hj u0 u1 u2 u3 u4 u5 u6 u7 u8 u9 u10 u11 u12 u13 ki0 G (p4 &&& (255 : Int32)) (own_ch p4) h3 n0 O3 []) hZ (ww hw 14 rfl) (ww hw 13 rfl) (by decide) (by decide)) (g := (mkF m 58 #[vi p1, vi p2, vi p3, vi p4, vi (1 : Int32), vr u2, vr ru, vr bq3, vu, vu, vu, vu] [xi (p4 &&& (255 : Int32))])) rfl (by rw [hml]; rfl) (argsL := [xi (p4 &&& (255 : Int32))]) (rest := []) (lenOf pd4 rfl) rfl (by show 2 * 0 + _ ≤ _; exact Nat.le_of_eq rfl) (hb hby at_58) (fun _ _ => ⟨rfl, e3, (by decide : 2 + 2 ≤ _), (by decide : 5 + 5 ≤ _)⟩)
  dsimp only [Pt.U, Pt.locs, Pt.cells, Pt.slots] at X4 l4 y4 z4 st4 hQ4
  subst l4 y4 z4
  obtain ⟨h4, e4⟩ : ∃ z, T4.heap = z := ⟨_, rfl⟩
  rw [e4] at hQ4
  obtain ⟨bq4, rfl, Nq4, K4⟩ := hQ4
  have N4 := Fr.app N3 Nq4
  have O4 : Old Z n0 h4 := O3.keep K4 all0
  obtain ⟨T5, h5, X5, e5, E5, A5, D5, -, st5⟩ := newO X4 hx hZ hown (ww hw 37 rfl) (ww hw 38 rfl) (ww hw 39 rfl) e4 (g := (mkF m 63 #[vi p1, vi p2, vi p3, vi p4, vi (1 : Int32), vr u2, vr ru, vr bq3, vr bq4, vu, vu, vu] [])) rfl (hb hby at_63) (by decide) (by decide)
  obtain ⟨b5, g5⟩ : ∃ z, z = h4.size := ⟨_, rfl⟩
  rw [← g5] at A5 D5 st5
  have g_b5 : n0 ≤ b5 := own_fresh O4 g5
  have O5 : Old Z n0 h5 := O4.ext E5
  have F_b5_field : Fld Z h5 b5 "com/example/feedwright/feedwright/Fault" "field" "Ljava/lang/String;" .null := D5 (Or.inr (ww hw 45 rfl)) (ty := (.object "java/lang/String")) (by decide)
  have F_b5_rule : Fld Z h5 b5 "com/example/feedwright/feedwright/Fault" "rule" "Lcom/example/feedwright/feedwright/Rule;" .null := D5 (Or.inr (ww hw 47 rfl)) (ty := (.object "com/example/feedwright/feedwright/Rule")) (by decide)
  have F_b5_level : Fld Z h5 b5 "com/example/feedwright/feedwright/Fault" "level" "Lcom/example/feedwright/feedwright/Level;" .null := D5 (Or.inr (ww hw 49 rfl)) (ty := (.object "com/example/feedwright/feedwright/Level")) (by decide)
  have F_b5_message : Fld Z h5 b5 "com/example/feedwright/feedwright/Fault" "message" "Ljava/lang/String;" .null := D5 (Or.inr (ww hw 51 rfl)) (ty := (.object "java/lang/String")) (by decide)
  obtain ⟨_, _, ⟨T6, L6, k6, n6⟩, -, X6, ⟨Lc6, hQ6, l6, y6, z6⟩, st6⟩ := X5.specialBack hx (y := Y5) rfl hown (mvT hZ (ww hw 40 rfl)) (mvT hZ (ww hw 41 rfl)) (mvT hZ (ww hw 42 rfl)) (by decide) (backOf (W := 1) (own_init l Z a0 hw hj u0 u1 u2 u3 u4 u5 u6 u7 u8 u9 u10 u11 u12 u13 ki0 G b5 bq3 ru u2 bq4 h5 n0 O5 A5 F_b5_field F_b5_rule F_b5_level F_b5_message g_b5 []) hZ (ww hw 42 rfl) (ww hw 39 rfl) (by decide) (by decide)) (g := (mkF m 75 #[vi p1, vi p2, vi p3, vi p4, vi (1 : Int32), vr u2, vr ru, vr bq3, vr bq4, vu, vu, vu] [xr bq4, xr u2, xr ru, xr bq3, xr b5, xr b5])) rfl (by rw [hml]; rfl) (Steps.refl _) (a := b5) (argsL := [xr bq3, xr ru, xr u2, xr bq4]) (rest := [xr b5]) (lenOf pd5 rfl) rfl (by show 2 * 0 + _ ≤ _; exact Nat.le_of_eq rfl) (hb hby at_75) (fun _ _ => ⟨rfl, e5, (by decide : 5 + 0 ≤ _), (by decide : 14 + 0 ≤ _)⟩)
  dsimp only [Pt.U, Pt.locs, Pt.cells, Pt.slots] at X6 l6 y6 z6 st6 hQ6
  subst l6 y6 z6
  obtain ⟨h6, e6⟩ : ∃ z, T6.heap = z := ⟨_, rfl⟩
  rw [e6] at hQ6
  obtain ⟨rfl, Nq6, K6, -, G0_6, G1_6, G2_6, G3_6⟩ := hQ6
  have N6 := Fr.app N4 Nq6
  have O6 : Old Z n0 h6 := O5.keep K6 (allS g_b5 all0)
  have X_b5_6 := A5.keep K6
  obtain ⟨cq7, kq7, qa7, qb7, qc7⟩ := isOf hZ e6 X_b5_6
  obtain ⟨_, _, ⟨T7, L7, k7, n7⟩, -, X7, ⟨Lc7, hQ7, l7, y7, z7⟩, st7⟩ := X6.virtualBack hx (y := Y6) (z := Y6) hown (mvT hZ (ww hw 52 rfl)) (mvT hZ (ww hw 53 rfl)) (notFace_of_selects (args := #[]) (mvT hZ (ww hw 55 rfl))) (mvT hZ (ww hw 55 rfl)) (mvT hZ (ww hw 54 rfl)) (by decide) (backOf (W := 0) (own_refuses_REFUSE l Z a0 hw hj u0 u1 u2 u3 u4 u5 u6 u7 u8 u9 u10 u11 u12 u13 ki0 G b5 bq3 ru bq4 h6 n0 O6 ⟨X_b5_6, G0_6, G1_6, G2_6, G3_6⟩ []) hZ (ww hw 56 rfl) (ww hw 39 rfl) (by decide) (by decide)) qa7 qc7 (g := (mkF m 82 #[vi p1, vi p2, vi p3, vi p4, vi (1 : Int32), vr u2, vr ru, vr bq3, vr bq4, vr b5, vu, vu] [xr b5])) rfl (by rw [hml]; rfl) (Steps.refl _) (argsL := []) (rest := []) (lenOf pd6 rfl) rfl (by show 2 * 0 + _ ≤ _; exact Nat.le_of_eq rfl) (hb hby at_82) (fun _ _ => ⟨rfl, e6, (by decide : 5 + 0 ≤ _), (by decide : 14 + 0 ≤ _)⟩)
  dsimp only [Pt.U, Pt.locs, Pt.cells, Pt.slots] at X7 l7 y7 z7 st7 hQ7
  subst l7 y7 z7
  obtain ⟨rfl, Nq7, e7⟩ := hQ7
  have N7 := Fr.app N6 Nq7
  obtain ⟨cq8, kq8, qa8, qb8, qc8⟩ := isOf hZ e7 X_b5_6
  obtain ⟨_, _, ⟨T8, L8, k8, n8⟩, -, X8, ⟨Lc8, hQ8, l8, y8, z8⟩, st8⟩ := X7.virtualBack hx (y := Y6) (z := Y6) hown (mvT hZ (ww hw 52 rfl)) (mvT hZ (ww hw 53 rfl)) (notFace_of_selects (args := #[]) (mvT hZ (ww hw 55 rfl))) (mvT hZ (ww hw 55 rfl)) (mvT hZ (ww hw 54 rfl)) (by decide) (backOf (W := 0) (own_refuses_REFUSE l Z a0 hw hj u0 u1 u2 u3 u4 u5 u6 u7 u8 u9 u10 u11 u12 u13 ki0 G b5 bq3 ru bq4 h6 n0 O6 ⟨X_b5_6, G0_6, G1_6, G2_6, G3_6⟩ []) hZ (ww hw 56 rfl) (ww hw 39 rfl) (by decide) (by decide)) qa8 qc8 (g := (mkF m 89 #[vi p1, vi p2, vi p3, vi p4, vi (1 : Int32), vr u2, vr ru, vr bq3, vr bq4, vr b5, vi (1 : Int32), vu] [xr b5])) rfl (by rw [hml]; rfl) (Steps.refl _) (argsL := []) (rest := []) (lenOf pd6 rfl) rfl (by show 2 * 0 + _ ≤ _; exact Nat.le_of_eq rfl) (hb hby at_89) (fun _ _ => ⟨rfl, e7, (by decide : 5 + 0 ≤ _), (by decide : 14 + 0 ≤ _)⟩)
  dsimp only [Pt.U, Pt.locs, Pt.cells, Pt.slots] at X8 l8 y8 z8 st8 hQ8
  subst l8 y8 z8
  obtain ⟨rfl, Nq8, e8⟩ := hQ8
  have N8 := Fr.app N7 Nq8
  obtain ⟨cq9, kq9, qa9, qb9, qc9⟩ := isOf hZ e8 X_b5_6
  obtain ⟨_, _, ⟨T9, L9, k9, n9⟩, -, X9, ⟨Lc9, hQ9, l9, y9, z9⟩, st9⟩ := X8.virtualBack hx (y := Y7) (z := Y7) hown (mvT hZ (ww hw 59 rfl)) (mvT hZ (ww hw 60 rfl)) (notFace_of_selects (args := #[]) (mvT hZ (ww hw 62 rfl))) (mvT hZ (ww hw 62 rfl)) (mvT hZ (ww hw 61 rfl)) (by decide) (backOf (W := 0) (own_rule_ l Z a0 hw hj u0 u1 u2 u3 u4 u5 u6 u7 u8 u9 u10 u11 u12 u13 ki0 G b5 bq3 ru bq4 u2 h6 n0 O6 ⟨X_b5_6, G0_6, G1_6, G2_6, G3_6⟩ []) hZ (ww hw 63 rfl) (ww hw 39 rfl) (by decide) (by decide)) qa9 qc9 (g := (mkF m 110 #[vi p1, vi p2, vi p3, vi p4, vi (1 : Int32), vr u2, vr ru, vr bq3, vr bq4, vr b5, vi (1 : Int32), vi (1 : Int32)] [xr b5])) rfl (by rw [hml]; rfl) (Steps.refl _) (argsL := []) (rest := []) (lenOf pd7 rfl) rfl (by show 2 * 0 + _ ≤ _; exact Nat.le_of_eq rfl) (hb hby at_110) (fun _ _ => ⟨rfl, e8, (by decide : 5 + 0 ≤ _), (by decide : 14 + 0 ≤ _)⟩)
  dsimp only [Pt.U, Pt.locs, Pt.cells, Pt.slots] at X9 l9 y9 z9 st9 hQ9
  subst l9 y9 z9
  obtain ⟨rfl, Nq9, e9⟩ := hQ9
  have N9 := Fr.app N8 Nq9
  obtain ⟨cq10, kq10, qa10, qb10, qc10⟩ := isOf hZ e9 X_b5_6
  obtain ⟨_, _, ⟨T10, L10, k10, n10⟩, -, X10, ⟨Lc10, hQ10, l10, y10, z10⟩, st10⟩ := X9.virtualBack hx (y := Y8) (z := Y8) hown (mvT hZ (ww hw 64 rfl)) (mvT hZ (ww hw 65 rfl)) (notFace_of_selects (args := #[]) (mvT hZ (ww hw 67 rfl))) (mvT hZ (ww hw 67 rfl)) (mvT hZ (ww hw 66 rfl)) (by decide) (backOf (W := 0) (own_field_ l Z a0 hw hj u0 u1 u2 u3 u4 u5 u6 u7 u8 u9 u10 u11 u12 u13 ki0 G b5 bq3 ru bq4 u2 h6 n0 O6 ⟨X_b5_6, G0_6, G1_6, G2_6, G3_6⟩ []) hZ (ww hw 68 rfl) (ww hw 39 rfl) (by decide) (by decide)) qa10 qc10 (g := (mkF m 120 #[vi p1, vi p2, vi p3, vi p4, vi (1 : Int32), vr u2, vr ru, vr bq3, vr bq4, vr b5, vi (1 : Int32), vi (1 : Int32)] [xr b5])) rfl (by rw [hml]; rfl) (Steps.refl _) (argsL := []) (rest := []) (lenOf pd8 rfl) rfl (by show 2 * 0 + _ ≤ _; exact Nat.le_of_eq rfl) (hb hby at_120) (fun _ _ => ⟨rfl, e9, (by decide : 5 + 0 ≤ _), (by decide : 14 + 0 ≤ _)⟩)
  dsimp only [Pt.U, Pt.locs, Pt.cells, Pt.slots] at X10 l10 y10 z10 st10 hQ10
  subst l10 y10 z10
  obtain ⟨rfl, Nq10, e10⟩ := hQ10
  have N10 := Fr.app N9 Nq10
  obtain ⟨cq11, kq11, qa11, qb11, qc11⟩ := isOf hZ e10 X_b5_6
  obtain ⟨_, _, ⟨T11, L11, k11, n11⟩, -, X11, ⟨Lc11, hQ11, l11, y11, z11⟩, st11⟩ := X10.virtualBack hx (y := Y9) (z := Y9) hown (mvT hZ (ww hw 69 rfl)) (mvT hZ (ww hw 70 rfl)) (notFace_of_selects (args := #[]) (mvT hZ (ww hw 72 rfl))) (mvT hZ (ww hw 72 rfl)) (mvT hZ (ww hw 71 rfl)) (by decide) (backOf (W := 0) (own_message_ l Z a0 hw hj u0 u1 u2 u3 u4 u5 u6 u7 u8 u9 u10 u11 u12 u13 ki0 G b5 bq3 ru bq4 u2 h6 n0 O6 ⟨X_b5_6, G0_6, G1_6, G2_6, G3_6⟩ []) hZ (ww hw 73 rfl) (ww hw 39 rfl) (by decide) (by decide)) qa11 qc11 (g := (mkF m 130 #[vi p1, vi p2, vi p3, vi p4, vi (1 : Int32), vr u2, vr ru, vr bq3, vr bq4, vr b5, vi (1 : Int32), vi (1 : Int32)] [xr b5])) rfl (by rw [hml]; rfl) (Steps.refl _) (argsL := []) (rest := []) (lenOf pd8 rfl) rfl (by show 2 * 0 + _ ≤ _; exact Nat.le_of_eq rfl) (hb hby at_130) (fun _ _ => ⟨rfl, e10, (by decide : 5 + 0 ≤ _), (by decide : 14 + 0 ≤ _)⟩)
  dsimp only [Pt.U, Pt.locs, Pt.cells, Pt.slots] at X11 l11 y11 z11 st11 hQ11
  subst l11 y11 z11
  obtain ⟨rfl, Nq11, e11⟩ := hQ11
  have N11 := Fr.app N10 Nq11
  obtain ⟨fs, hr, hrun, hended, hW, hsame⟩ := X11.leave (v := some (xi (1 : Int32))) (fun h => by rw [Bd.returns] at h; cases h)
  refine ⟨_, _, pre0 _ ?_, hrun, hended, _, _, rfl, ?_, ⟨_, rfl⟩, hW, hsame.mono (by decide) (by decide)⟩
  · show own_S p e below s₁ (mkF m 0 #[vi p1, vi p2, vi p3, vi p4, vu, vu, vu, vu, vu, vu, vu, vu] []) _
    refine XS.iloadN X0.here hx rfl (hb hby at_0) rfl ?_
    show own_S p e below s₁ (mkF m 1 #[vi p1, vi p2, vi p3, vi p4, vu, vu, vu, vu, vu, vu, vu, vu] [xi p1]) _
    refine XS.iconst X0.here hx rfl (hb hby at_1) ?_
    show own_S p e below s₁ (mkF m 2 #[vi p1, vi p2, vi p3, vi p4, vu, vu, vu, vu, vu, vu, vu, vu] [xi (1 : Int32), xi p1]) _
    refine XS.iand X0.here hx rfl (hb hby at_2) rfl ?_
    show own_S p e below s₁ (mkF m 3 #[vi p1, vi p2, vi p3, vi p4, vu, vu, vu, vu, vu, vu, vu, vu] [xi (p1 &&& (1 : Int32))]) _
    refine castTop (show (mkF m 3 #[vi p1, vi p2, vi p3, vi p4, vu, vu, vu, vu, vu, vu, vu, vu] [xi (p1 &&& (1 : Int32))]) = (mkF m 3 #[vi p1, vi p2, vi p3, vi p4, vu, vu, vu, vu, vu, vu, vu, vu] [xi (1 : Int32)]) from by rw [as15]) ?_
    show own_S p e below s₁ (mkF m 3 #[vi p1, vi p2, vi p3, vi p4, vu, vu, vu, vu, vu, vu, vu, vu] [xi (1 : Int32)]) _
    refine XS.ifNo X0.here hx rfl (hb hby at_3) rfl (by decide) ?_
    show own_S p e below s₁ (mkF m 6 #[vi p1, vi p2, vi p3, vi p4, vu, vu, vu, vu, vu, vu, vu, vu] []) _
    refine XS.iconst X0.here hx rfl (hb hby at_6) ?_
    show own_S p e below s₁ (mkF m 7 #[vi p1, vi p2, vi p3, vi p4, vu, vu, vu, vu, vu, vu, vu, vu] [xi (1 : Int32)]) _
    refine XS.goto X0.here hx rfl (pc0 := 7) (pc' := 11) rfl (hb hby at_7) (by decide) (by decide) ?_
    show own_S p e below s₁ (mkF m 11 #[vi p1, vi p2, vi p3, vi p4, vu, vu, vu, vu, vu, vu, vu, vu] [xi (1 : Int32)]) _
    refine XS.istore X0.here hx rfl (hb hby at_11) rfl (l' := #[vi p1, vi p2, vi p3, vi p4, vi (1 : Int32), vu, vu, vu, vu, vu, vu, vu]) rfl ?_
    show own_S p e below s₁ (mkF m 13 #[vi p1, vi p2, vi p3, vi p4, vi (1 : Int32), vu, vu, vu, vu, vu, vu, vu] []) _
    refine XS.iload X0.here hx rfl (hb hby at_13) rfl ?_
    show own_S p e below s₁ (mkF m 15 #[vi p1, vi p2, vi p3, vi p4, vi (1 : Int32), vu, vu, vu, vu, vu, vu, vu] [xi (1 : Int32)]) _
    refine XS.ifNo X0.here hx rfl (hb hby at_15) rfl (by decide) ?_
    show own_S p e below s₁ (mkF m 18 #[vi p1, vi p2, vi p3, vi p4, vi (1 : Int32), vu, vu, vu, vu, vu, vu, vu] []) _
    refine st1 _ ?_
    show own_S p e below T1 (mkF m 21 #[vi p1, vi p2, vi p3, vi p4, vi (1 : Int32), vu, vu, vu, vu, vu, vu, vu] [xr u2]) _
    refine XS.goto X1.here hx rfl (pc0 := 21) (pc' := 27) rfl (hb hby at_21) (by decide) (by decide) ?_
    show own_S p e below T1 (mkF m 27 #[vi p1, vi p2, vi p3, vi p4, vi (1 : Int32), vu, vu, vu, vu, vu, vu, vu] [xr u2]) _
    refine XS.astore X1.here hx rfl (hb hby at_27) rfl rfl (l' := #[vi p1, vi p2, vi p3, vi p4, vi (1 : Int32), vr u2, vu, vu, vu, vu, vu, vu]) rfl ?_
    show own_S p e below T1 (mkF m 29 #[vi p1, vi p2, vi p3, vi p4, vi (1 : Int32), vr u2, vu, vu, vu, vu, vu, vu] []) _
    refine XS.iloadN X1.here hx rfl (hb hby at_29) rfl ?_
    show own_S p e below T1 (mkF m 30 #[vi p1, vi p2, vi p3, vi p4, vi (1 : Int32), vr u2, vu, vu, vu, vu, vu, vu] [xi p2]) _
    refine X1.ldcI hx hown (mvT hZ (ww hw 3 rfl)) (g := (mkF m 30 #[vi p1, vi p2, vi p3, vi p4, vi (1 : Int32), vr u2, vu, vu, vu, vu, vu, vu] [xi p2])) rfl (hb hby at_30) ?_
    show own_S p e below T1 (mkF m 32 #[vi p1, vi p2, vi p3, vi p4, vi (1 : Int32), vr u2, vu, vu, vu, vu, vu, vu] [xi (2147483647 : Int32), xi p2]) _
    refine XS.iand X1.here hx rfl (hb hby at_32) rfl ?_
    show own_S p e below T1 (mkF m 33 #[vi p1, vi p2, vi p3, vi p4, vi (1 : Int32), vr u2, vu, vu, vu, vu, vu, vu] [xi (p2 &&& (2147483647 : Int32))]) _
    show own_S p e below T1 (mkF m 33 #[vi p1, vi p2, vi p3, vi p4, vi (1 : Int32), vr u2, vu, vu, vu, vu, vu, vu] [xi (p2 &&& (2147483647 : Int32))]) _
    refine XS.bipush X1.here hx rfl (hb hby at_33) ?_
    show own_S p e below T1 (mkF m 35 #[vi p1, vi p2, vi p3, vi p4, vi (1 : Int32), vr u2, vu, vu, vu, vu, vu, vu] [xi (12 : Int32), xi (p2 &&& (2147483647 : Int32))]) _
    refine XS.irem X1.here hx rfl (hb hby at_35) rfl (by decide) ?_
    show own_S p e below T1 (mkF m 36 #[vi p1, vi p2, vi p3, vi p4, vi (1 : Int32), vr u2, vu, vu, vu, vu, vu, vu] [xi ((p2 &&& (2147483647 : Int32)) - ((p2 &&& (2147483647 : Int32)) / (12 : Int32)) * (12 : Int32))]) _
    refine castTop (show (mkF m 36 #[vi p1, vi p2, vi p3, vi p4, vi (1 : Int32), vr u2, vu, vu, vu, vu, vu, vu] [xi ((p2 &&& (2147483647 : Int32)) - ((p2 &&& (2147483647 : Int32)) / (12 : Int32)) * (12 : Int32))]) = (mkF m 36 #[vi p1, vi p2, vi p3, vi p4, vi (1 : Int32), vr u2, vu, vu, vu, vu, vu, vu] [xi ri]) from by rw [as13]) ?_
    show own_S p e below T1 (mkF m 36 #[vi p1, vi p2, vi p3, vi p4, vi (1 : Int32), vr u2, vu, vu, vu, vu, vu, vu] [xi ri]) _
    refine st2 _ ?_
    show own_S p e below T2 (mkF m 39 #[vi p1, vi p2, vi p3, vi p4, vi (1 : Int32), vr u2, vu, vu, vu, vu, vu, vu] [xr ru]) _
    refine XS.astore X2.here hx rfl (hb hby at_39) rfl rfl (l' := #[vi p1, vi p2, vi p3, vi p4, vi (1 : Int32), vr u2, vr ru, vu, vu, vu, vu, vu]) rfl ?_
    show own_S p e below T2 (mkF m 41 #[vi p1, vi p2, vi p3, vi p4, vi (1 : Int32), vr u2, vr ru, vu, vu, vu, vu, vu] []) _
    refine XS.iloadN X2.here hx rfl (hb hby at_41) rfl ?_
    show own_S p e below T2 (mkF m 42 #[vi p1, vi p2, vi p3, vi p4, vi (1 : Int32), vr u2, vr ru, vu, vu, vu, vu, vu] [xi p3]) _
    refine XS.sipush X2.here hx rfl (hb hby at_42) ?_
    show own_S p e below T2 (mkF m 45 #[vi p1, vi p2, vi p3, vi p4, vi (1 : Int32), vr u2, vr ru, vu, vu, vu, vu, vu] [xi (255 : Int32), xi p3]) _
    refine XS.iand X2.here hx rfl (hb hby at_45) rfl ?_
    show own_S p e below T2 (mkF m 46 #[vi p1, vi p2, vi p3, vi p4, vi (1 : Int32), vr u2, vr ru, vu, vu, vu, vu, vu] [xi (p3 &&& (255 : Int32))]) _
    show own_S p e below T2 (mkF m 46 #[vi p1, vi p2, vi p3, vi p4, vi (1 : Int32), vr u2, vr ru, vu, vu, vu, vu, vu] [xi (p3 &&& (255 : Int32))]) _
    refine XS.i2c X2.here hx rfl (hb hby at_46) rfl ?_
    show own_S p e below T2 (mkF m 47 #[vi p1, vi p2, vi p3, vi p4, vi (1 : Int32), vr u2, vr ru, vu, vu, vu, vu, vu] [xi ((p3 &&& (255 : Int32)).toUInt32.toUInt16.toUInt32.toInt32)]) _
    refine castTop (show (mkF m 47 #[vi p1, vi p2, vi p3, vi p4, vi (1 : Int32), vr u2, vr ru, vu, vu, vu, vu, vu] [xi ((p3 &&& (255 : Int32)).toUInt32.toUInt16.toUInt32.toInt32)]) = (mkF m 47 #[vi p1, vi p2, vi p3, vi p4, vi (1 : Int32), vr u2, vr ru, vu, vu, vu, vu, vu] [xi (p3 &&& (255 : Int32))]) from by rw [i2c_mask]) ?_
    show own_S p e below T2 (mkF m 47 #[vi p1, vi p2, vi p3, vi p4, vi (1 : Int32), vr u2, vr ru, vu, vu, vu, vu, vu] [xi (p3 &&& (255 : Int32))]) _
    refine st3 _ ?_
    show own_S p e below T3 (mkF m 50 #[vi p1, vi p2, vi p3, vi p4, vi (1 : Int32), vr u2, vr ru, vu, vu, vu, vu, vu] [xr bq3]) _
    refine XS.astore X3.here hx rfl (hb hby at_50) rfl rfl (l' := #[vi p1, vi p2, vi p3, vi p4, vi (1 : Int32), vr u2, vr ru, vr bq3, vu, vu, vu, vu]) rfl ?_
    show own_S p e below T3 (mkF m 52 #[vi p1, vi p2, vi p3, vi p4, vi (1 : Int32), vr u2, vr ru, vr bq3, vu, vu, vu, vu] []) _
    refine XS.iloadN X3.here hx rfl (hb hby at_52) rfl ?_
    show own_S p e below T3 (mkF m 53 #[vi p1, vi p2, vi p3, vi p4, vi (1 : Int32), vr u2, vr ru, vr bq3, vu, vu, vu, vu] [xi p4]) _
    refine XS.sipush X3.here hx rfl (hb hby at_53) ?_
    show own_S p e below T3 (mkF m 56 #[vi p1, vi p2, vi p3, vi p4, vi (1 : Int32), vr u2, vr ru, vr bq3, vu, vu, vu, vu] [xi (255 : Int32), xi p4]) _
    refine XS.iand X3.here hx rfl (hb hby at_56) rfl ?_
    show own_S p e below T3 (mkF m 57 #[vi p1, vi p2, vi p3, vi p4, vi (1 : Int32), vr u2, vr ru, vr bq3, vu, vu, vu, vu] [xi (p4 &&& (255 : Int32))]) _
    show own_S p e below T3 (mkF m 57 #[vi p1, vi p2, vi p3, vi p4, vi (1 : Int32), vr u2, vr ru, vr bq3, vu, vu, vu, vu] [xi (p4 &&& (255 : Int32))]) _
    refine XS.i2c X3.here hx rfl (hb hby at_57) rfl ?_
    show own_S p e below T3 (mkF m 58 #[vi p1, vi p2, vi p3, vi p4, vi (1 : Int32), vr u2, vr ru, vr bq3, vu, vu, vu, vu] [xi ((p4 &&& (255 : Int32)).toUInt32.toUInt16.toUInt32.toInt32)]) _
    refine castTop (show (mkF m 58 #[vi p1, vi p2, vi p3, vi p4, vi (1 : Int32), vr u2, vr ru, vr bq3, vu, vu, vu, vu] [xi ((p4 &&& (255 : Int32)).toUInt32.toUInt16.toUInt32.toInt32)]) = (mkF m 58 #[vi p1, vi p2, vi p3, vi p4, vi (1 : Int32), vr u2, vr ru, vr bq3, vu, vu, vu, vu] [xi (p4 &&& (255 : Int32))]) from by rw [i2c_mask]) ?_
    show own_S p e below T3 (mkF m 58 #[vi p1, vi p2, vi p3, vi p4, vi (1 : Int32), vr u2, vr ru, vr bq3, vu, vu, vu, vu] [xi (p4 &&& (255 : Int32))]) _
    refine st4 _ ?_
    show own_S p e below T4 (mkF m 61 #[vi p1, vi p2, vi p3, vi p4, vi (1 : Int32), vr u2, vr ru, vr bq3, vu, vu, vu, vu] [xr bq4]) _
    refine XS.astore X4.here hx rfl (hb hby at_61) rfl rfl (l' := #[vi p1, vi p2, vi p3, vi p4, vi (1 : Int32), vr u2, vr ru, vr bq3, vr bq4, vu, vu, vu]) rfl ?_
    show own_S p e below T4 (mkF m 63 #[vi p1, vi p2, vi p3, vi p4, vi (1 : Int32), vr u2, vr ru, vr bq3, vr bq4, vu, vu, vu] []) _
    refine st5 _ ?_
    show own_S p e below T5 (mkF m 66 #[vi p1, vi p2, vi p3, vi p4, vi (1 : Int32), vr u2, vr ru, vr bq3, vr bq4, vu, vu, vu] [xr b5]) _
    refine XS.dup X5.here hx rfl (hb hby at_66) rfl rfl ?_
    show own_S p e below T5 (mkF m 67 #[vi p1, vi p2, vi p3, vi p4, vi (1 : Int32), vr u2, vr ru, vr bq3, vr bq4, vu, vu, vu] [xr b5, xr b5]) _
    refine XS.aload X5.here hx rfl (hb hby at_67) rfl rfl ?_
    show own_S p e below T5 (mkF m 69 #[vi p1, vi p2, vi p3, vi p4, vi (1 : Int32), vr u2, vr ru, vr bq3, vr bq4, vu, vu, vu] [xr bq3, xr b5, xr b5]) _
    refine XS.aload X5.here hx rfl (hb hby at_69) rfl rfl ?_
    show own_S p e below T5 (mkF m 71 #[vi p1, vi p2, vi p3, vi p4, vi (1 : Int32), vr u2, vr ru, vr bq3, vr bq4, vu, vu, vu] [xr ru, xr bq3, xr b5, xr b5]) _
    refine XS.aload X5.here hx rfl (hb hby at_71) rfl rfl ?_
    show own_S p e below T5 (mkF m 73 #[vi p1, vi p2, vi p3, vi p4, vi (1 : Int32), vr u2, vr ru, vr bq3, vr bq4, vu, vu, vu] [xr u2, xr ru, xr bq3, xr b5, xr b5]) _
    refine XS.aload X5.here hx rfl (hb hby at_73) rfl rfl ?_
    show own_S p e below T5 (mkF m 75 #[vi p1, vi p2, vi p3, vi p4, vi (1 : Int32), vr u2, vr ru, vr bq3, vr bq4, vu, vu, vu] [xr bq4, xr u2, xr ru, xr bq3, xr b5, xr b5]) _
    refine st6.trans ?_
    show own_S p e below T6 (mkF m 78 #[vi p1, vi p2, vi p3, vi p4, vi (1 : Int32), vr u2, vr ru, vr bq3, vr bq4, vu, vu, vu] [xr b5]) _
    refine XS.astore X6.here hx rfl (hb hby at_78) rfl rfl (l' := #[vi p1, vi p2, vi p3, vi p4, vi (1 : Int32), vr u2, vr ru, vr bq3, vr bq4, vr b5, vu, vu]) rfl ?_
    show own_S p e below T6 (mkF m 80 #[vi p1, vi p2, vi p3, vi p4, vi (1 : Int32), vr u2, vr ru, vr bq3, vr bq4, vr b5, vu, vu] []) _
    refine XS.aload X6.here hx rfl (hb hby at_80) rfl rfl ?_
    show own_S p e below T6 (mkF m 82 #[vi p1, vi p2, vi p3, vi p4, vi (1 : Int32), vr u2, vr ru, vr bq3, vr bq4, vr b5, vu, vu] [xr b5]) _
    refine st7.trans ?_
    show own_S p e below T7 (mkF m 85 #[vi p1, vi p2, vi p3, vi p4, vi (1 : Int32), vr u2, vr ru, vr bq3, vr bq4, vr b5, vu, vu] [xi (1 : Int32)]) _
    refine XS.istore X7.here hx rfl (hb hby at_85) rfl (l' := #[vi p1, vi p2, vi p3, vi p4, vi (1 : Int32), vr u2, vr ru, vr bq3, vr bq4, vr b5, vi (1 : Int32), vu]) rfl ?_
    show own_S p e below T7 (mkF m 87 #[vi p1, vi p2, vi p3, vi p4, vi (1 : Int32), vr u2, vr ru, vr bq3, vr bq4, vr b5, vi (1 : Int32), vu] []) _
    refine XS.aload X7.here hx rfl (hb hby at_87) rfl rfl ?_
    show own_S p e below T7 (mkF m 89 #[vi p1, vi p2, vi p3, vi p4, vi (1 : Int32), vr u2, vr ru, vr bq3, vr bq4, vr b5, vi (1 : Int32), vu] [xr b5]) _
    refine st8.trans ?_
    show own_S p e below T8 (mkF m 92 #[vi p1, vi p2, vi p3, vi p4, vi (1 : Int32), vr u2, vr ru, vr bq3, vr bq4, vr b5, vi (1 : Int32), vu] [xi (1 : Int32)]) _
    refine XS.istore X8.here hx rfl (hb hby at_92) rfl (l' := #[vi p1, vi p2, vi p3, vi p4, vi (1 : Int32), vr u2, vr ru, vr bq3, vr bq4, vr b5, vi (1 : Int32), vi (1 : Int32)]) rfl ?_
    show own_S p e below T8 (mkF m 94 #[vi p1, vi p2, vi p3, vi p4, vi (1 : Int32), vr u2, vr ru, vr bq3, vr bq4, vr b5, vi (1 : Int32), vi (1 : Int32)] []) _
    refine XS.iload X8.here hx rfl (hb hby at_94) rfl ?_
    show own_S p e below T8 (mkF m 96 #[vi p1, vi p2, vi p3, vi p4, vi (1 : Int32), vr u2, vr ru, vr bq3, vr bq4, vr b5, vi (1 : Int32), vi (1 : Int32)] [xi (1 : Int32)]) _
    refine XS.iload X8.here hx rfl (hb hby at_96) rfl ?_
    show own_S p e below T8 (mkF m 98 #[vi p1, vi p2, vi p3, vi p4, vi (1 : Int32), vr u2, vr ru, vr bq3, vr bq4, vr b5, vi (1 : Int32), vi (1 : Int32)] [xi (1 : Int32), xi (1 : Int32)]) _
    refine XS.icmpNo X8.here hx rfl (hb hby at_98) rfl (by decide) ?_
    show own_S p e below T8 (mkF m 101 #[vi p1, vi p2, vi p3, vi p4, vi (1 : Int32), vr u2, vr ru, vr bq3, vr bq4, vr b5, vi (1 : Int32), vi (1 : Int32)] []) _
    refine XS.iload X8.here hx rfl (hb hby at_101) rfl ?_
    show own_S p e below T8 (mkF m 103 #[vi p1, vi p2, vi p3, vi p4, vi (1 : Int32), vr u2, vr ru, vr bq3, vr bq4, vr b5, vi (1 : Int32), vi (1 : Int32)] [xi (1 : Int32)]) _
    refine XS.iload X8.here hx rfl (hb hby at_103) rfl ?_
    show own_S p e below T8 (mkF m 105 #[vi p1, vi p2, vi p3, vi p4, vi (1 : Int32), vr u2, vr ru, vr bq3, vr bq4, vr b5, vi (1 : Int32), vi (1 : Int32)] [xi (1 : Int32), xi (1 : Int32)]) _
    refine XS.icmpNo X8.here hx rfl (hb hby at_105) rfl (by decide) ?_
    show own_S p e below T8 (mkF m 108 #[vi p1, vi p2, vi p3, vi p4, vi (1 : Int32), vr u2, vr ru, vr bq3, vr bq4, vr b5, vi (1 : Int32), vi (1 : Int32)] []) _
    refine XS.aload X8.here hx rfl (hb hby at_108) rfl rfl ?_
    show own_S p e below T8 (mkF m 110 #[vi p1, vi p2, vi p3, vi p4, vi (1 : Int32), vr u2, vr ru, vr bq3, vr bq4, vr b5, vi (1 : Int32), vi (1 : Int32)] [xr b5]) _
    refine st9.trans ?_
    show own_S p e below T9 (mkF m 113 #[vi p1, vi p2, vi p3, vi p4, vi (1 : Int32), vr u2, vr ru, vr bq3, vr bq4, vr b5, vi (1 : Int32), vi (1 : Int32)] [xr ru]) _
    refine XS.aload X9.here hx rfl (hb hby at_113) rfl rfl ?_
    show own_S p e below T9 (mkF m 115 #[vi p1, vi p2, vi p3, vi p4, vi (1 : Int32), vr u2, vr ru, vr bq3, vr bq4, vr b5, vi (1 : Int32), vi (1 : Int32)] [xr ru, xr ru]) _
    refine Jvm.RoadKit.acmp (g := (mkF m 115 #[vi p1, vi p2, vi p3, vi p4, vi (1 : Int32), vr u2, vr ru, vr bq3, vr bq4, vr b5, vi (1 : Int32), vi (1 : Int32)] [xr ru, xr ru])) X9 hx rfl rfl rfl (pc0 := 115) (pc' := 118) (same := true) rfl (hb hby at_115) rfl (decide_eq_true rfl) (by decide) (by decide) ?_
    show own_S p e below T9 (mkF m 118 #[vi p1, vi p2, vi p3, vi p4, vi (1 : Int32), vr u2, vr ru, vr bq3, vr bq4, vr b5, vi (1 : Int32), vi (1 : Int32)] []) _
    refine XS.aload X9.here hx rfl (hb hby at_118) rfl rfl ?_
    show own_S p e below T9 (mkF m 120 #[vi p1, vi p2, vi p3, vi p4, vi (1 : Int32), vr u2, vr ru, vr bq3, vr bq4, vr b5, vi (1 : Int32), vi (1 : Int32)] [xr b5]) _
    refine st10.trans ?_
    show own_S p e below T10 (mkF m 123 #[vi p1, vi p2, vi p3, vi p4, vi (1 : Int32), vr u2, vr ru, vr bq3, vr bq4, vr b5, vi (1 : Int32), vi (1 : Int32)] [xr bq3]) _
    refine XS.aload X10.here hx rfl (hb hby at_123) rfl rfl ?_
    show own_S p e below T10 (mkF m 125 #[vi p1, vi p2, vi p3, vi p4, vi (1 : Int32), vr u2, vr ru, vr bq3, vr bq4, vr b5, vi (1 : Int32), vi (1 : Int32)] [xr bq3, xr bq3]) _
    refine Jvm.RoadKit.acmp (g := (mkF m 125 #[vi p1, vi p2, vi p3, vi p4, vi (1 : Int32), vr u2, vr ru, vr bq3, vr bq4, vr b5, vi (1 : Int32), vi (1 : Int32)] [xr bq3, xr bq3])) X10 hx rfl rfl rfl (pc0 := 125) (pc' := 128) (same := true) rfl (hb hby at_125) rfl (decide_eq_true rfl) (by decide) (by decide) ?_
    show own_S p e below T10 (mkF m 128 #[vi p1, vi p2, vi p3, vi p4, vi (1 : Int32), vr u2, vr ru, vr bq3, vr bq4, vr b5, vi (1 : Int32), vi (1 : Int32)] []) _
    refine XS.aload X10.here hx rfl (hb hby at_128) rfl rfl ?_
    show own_S p e below T10 (mkF m 130 #[vi p1, vi p2, vi p3, vi p4, vi (1 : Int32), vr u2, vr ru, vr bq3, vr bq4, vr b5, vi (1 : Int32), vi (1 : Int32)] [xr b5]) _
    refine st11.trans ?_
    show own_S p e below T11 (mkF m 133 #[vi p1, vi p2, vi p3, vi p4, vi (1 : Int32), vr u2, vr ru, vr bq3, vr bq4, vr b5, vi (1 : Int32), vi (1 : Int32)] [xr bq4]) _
    refine XS.aload X11.here hx rfl (hb hby at_133) rfl rfl ?_
    show own_S p e below T11 (mkF m 135 #[vi p1, vi p2, vi p3, vi p4, vi (1 : Int32), vr u2, vr ru, vr bq3, vr bq4, vr b5, vi (1 : Int32), vi (1 : Int32)] [xr bq4, xr bq4]) _
    refine Jvm.RoadKit.acmp (g := (mkF m 135 #[vi p1, vi p2, vi p3, vi p4, vi (1 : Int32), vr u2, vr ru, vr bq3, vr bq4, vr b5, vi (1 : Int32), vi (1 : Int32)] [xr bq4, xr bq4])) X11 hx rfl rfl rfl (pc0 := 135) (pc' := 138) (same := true) rfl (hb hby at_135) rfl (decide_eq_true rfl) (by decide) (by decide) ?_
    show own_S p e below T11 (mkF m 138 #[vi p1, vi p2, vi p3, vi p4, vi (1 : Int32), vr u2, vr ru, vr bq3, vr bq4, vr b5, vi (1 : Int32), vi (1 : Int32)] []) _
    refine XS.iconst X11.here hx rfl (hb hby at_138) ?_
    show own_S p e below T11 (mkF m 139 #[vi p1, vi p2, vi p3, vi p4, vi (1 : Int32), vr u2, vr ru, vr bq3, vr bq4, vr b5, vi (1 : Int32), vi (1 : Int32)] [xi (1 : Int32)]) _
    refine XS.goto X11.here hx rfl (pc0 := 139) (pc' := 143) rfl (hb hby at_139) (by decide) (by decide) ?_
    show own_S p e below T11 (mkF m 143 #[vi p1, vi p2, vi p3, vi p4, vi (1 : Int32), vr u2, vr ru, vr bq3, vr bq4, vr b5, vi (1 : Int32), vi (1 : Int32)] [xi (1 : Int32)]) _
    exact retN X11 hx (t := .boolean) Bd.returns (by simp) (hb hby at_143) hr
  · exact ⟨rfl, N11⟩
theorem own_law (l : Launch) (Z : State) (a0 : Array Value) (hw : ∀ d ∈ tables_1, d.before a0 Z = true) (hj : ∀ d ∈ jdkStatics_1, d.before a0 Z = true) (u0 u1 u2 u3 u4 u5 u6 u7 u8 u9 u10 u11 u12 u13 : Addr) (ki0 : Int32) (G : own_St Z hj u0 u1 u2 u3 u4 u5 u6 u7 u8 u9 u10 u11 u12 u13 ki0) (p1 : Int32) (p2 : Int32) (p3 : Int32) (p4 : Int32) (h0 : Heap) (n0 : Nat) (O0 : Old Z n0 h0) : own_Met l Z x code maxLocals ret room_1 #[(.int p1), (.int p2), (.int p3), (.int p4)] h0 (own_QL (some (.int (1 : Int32))) n0) := by
  obtain ⟨ri, as13⟩ : ∃ z, ((p2 &&& (2147483647 : Int32)) - ((p2 &&& (2147483647 : Int32)) / (12 : Int32)) * (12 : Int32)) = z := ⟨_, rfl⟩
  obtain ⟨ru, hvr⟩ : ∃ v, own_isr u0 u1 u2 u3 u4 u5 u6 u7 u8 u9 u10 u11 u12 u13 ki0 ri v := by
    rw [← as13]
    rcases own_rem12 p2 with h | h | h | h | h | h | h | h | h | h | h | h <;> rw [h] <;> simp [own_isr]
  rcases own_mask1 p1 with as14 | as15
  · exact own_l0 l Z a0 hw hj u0 u1 u2 u3 u4 u5 u6 u7 u8 u9 u10 u11 u12 u13 ki0 G p1 p2 p3 p4 ri ru as14 as13 hvr h0 n0 O0
  · exact own_l1 l Z a0 hw hj u0 u1 u2 u3 u4 u5 u6 u7 u8 u9 u10 u11 u12 u13 ki0 G p1 p2 p3 p4 ri ru as15 as13 hvr h0 n0 O0
set_option maxRecDepth 65536 in
set_option maxHeartbeats 40000000 in
theorem comes_1 {Post : Tables → Env → Array Value → State → Outcome → State → Prop} (hpost : ∀ tb e args s v u, (limb_1_1.after args s (.returned v) u = true ∧ limb_1_2.after args s (.returned v) u = true ∧ True) → FrameEnd s (.returned v) u (Jvm.fieldLocs frame_1_writes args s ++ Jvm.arrayLocs frame_1_arrays args s ++ Jvm.staticLocs frame_1_statics s) 24 128 → Post tb e args s (.returned v) u) :
    ArmFor flags0 classFile x code maxLocals ret World_1 tables_1 room_1 Calls_1 rest_1 Pre_1 Post := by
  intro l hfl _ _ p e ha hc hk s m args below hf hA hF happ hP
  obtain ⟨hcalls, hrest, hpre⟩ := hP
  obtain ⟨-, -, -, hnamed, -, -, -, hat⟩ := (Spec.applies_iff hf).mp happ
  obtain ⟨hg, hn⟩ := and_e (Cond.before_iff.mp (show (Jvm.Cond.and given_1 narrow_1).before args s = true from hpre))
  obtain ⟨hcount, hg0⟩ := and_e hg
  obtain ⟨ga0, hg1⟩ := and_e hg0
  obtain ⟨ga1, hg2⟩ := and_e hg1
  obtain ⟨ga2, hg3⟩ := and_e hg2
  have ga3 := hg3
  obtain ⟨w0, w1, w2, w3, rfl⟩ : ∃ w0 w1 w2 w3 : Value, args = #[w0, w1, w2, w3] := by
    have hs : args.size = 4 := by simpa [Cond.value, given_1] using hcount
    obtain ⟨L⟩ := args
    match L, hs with
    | [w0, w1, w2, w3], _ => exact ⟨w0, w1, w2, w3, rfl⟩
  have hw := fun d (hd : d ∈ tables_1) => atoms_spec (ws := Jvm.Cond.code x code maxLocals ret :: tables_1) hat d (List.mem_cons_of_mem _ hd)
  have hfit : Fit s := fun {y c} hc i hi => by
    obtain ⟨ha, rfl⟩ := Array.getElem?_eq_some_iff.mp hc
    have q := List.all_eq_true.mp ((Array.all_eq_true_iff_forall_mem.mp hF) _ (Array.getElem_mem ha)) i (List.mem_range.mpr hi)
    simpa [Array.getElem?_eq_getElem hi] using q
  obtain ⟨p1, ei0⟩ := is_v ga0
  obtain rfl : w0 = (.int p1) := Option.some.inj ei0
  obtain ⟨p2, ei1⟩ := is_v ga1
  obtain rfl : w1 = (.int p2) := Option.some.inj ei1
  obtain ⟨p3, ei2⟩ := is_v ga2
  obtain rfl : w2 = (.int p3) := Option.some.inj ei2
  obtain ⟨p4, ei3⟩ := is_v ga3
  obtain rfl : w3 = (.int p4) := Option.some.inj ei3
  obtain ⟨hsets, hown0⟩ := atoms_of _ (rest_1_c_eq ▸ (show rest_1_c.before _ s = true from hrest))
  have hj := hsets
  have hc0 := hn
  obtain ⟨ca0, hc1⟩ := and_e hc0
  obtain ⟨ca1, hc2⟩ := and_e hc1
  obtain ⟨ca2, hc3⟩ := and_e hc2
  obtain ⟨ca3, hc4⟩ := and_e hc3
  obtain ⟨ca4, hc5⟩ := and_e hc4
  obtain ⟨ca5, hc6⟩ := and_e hc5
  obtain ⟨ca6, hc7⟩ := and_e hc6
  obtain ⟨ca7, hc8⟩ := and_e hc7
  obtain ⟨ca8, hc9⟩ := and_e hc8
  obtain ⟨ca9, hc10⟩ := and_e hc9
  obtain ⟨ca10, hc11⟩ := and_e hc10
  obtain ⟨ca11, hc12⟩ := and_e hc11
  obtain ⟨ca12, hc13⟩ := and_e hc12
  obtain ⟨ca13, hc14⟩ := and_e hc13
  obtain ⟨ca14, hc15⟩ := and_e hc14
  have ca15 := hc15
  obtain ⟨u0, ev_u0⟩ := exa_v ca0
  have pX_u0 := Exa.start ev_u0 ca0
  have pS_u0 : Sta s s.heap "com/example/feedwright/feedwright/Level" "WARN" "Lcom/example/feedwright/feedwright/Level;" (.ref u0) := Sta.start ev_u0 (Or.inr ⟨(ww hw 1 rfl), (ww hw 2 rfl)⟩)
  obtain ⟨u1, ev_u1⟩ := exa_v ca1
  have pX_u1 := Exa.start ev_u1 ca1
  have pS_u1 : Sta s s.heap "com/example/feedwright/feedwright/Rule" "PRICE" "Lcom/example/feedwright/feedwright/Rule;" (.ref u1) := Sta.start ev_u1 (Or.inr ⟨(ww hw 9 rfl), (ww hw 10 rfl)⟩)
  obtain ⟨u2, ev_u2⟩ := exa_v ca2
  have pX_u2 := Exa.start ev_u2 ca2
  have pS_u2 : Sta s s.heap "com/example/feedwright/feedwright/Level" "REFUSE" "Lcom/example/feedwright/feedwright/Level;" (.ref u2) := Sta.start ev_u2 (Or.inr ⟨(ww hw 1 rfl), (ww hw 58 rfl)⟩)
  obtain ⟨u3, ev_u3⟩ := exa_v ca5
  have pX_u3 := Exa.start ev_u3 ca5
  have pS_u3 : Sta s s.heap "com/example/feedwright/feedwright/Rule" "BOOLEAN" "Lcom/example/feedwright/feedwright/Rule;" (.ref u3) := Sta.start ev_u3 (Or.inr ⟨(ww hw 9 rfl), (ww hw 76 rfl)⟩)
  obtain ⟨u4, ev_u4⟩ := exa_v ca6
  have pX_u4 := Exa.start ev_u4 ca6
  have pS_u4 : Sta s s.heap "com/example/feedwright/feedwright/Rule" "DUPLICATE_ID" "Lcom/example/feedwright/feedwright/Rule;" (.ref u4) := Sta.start ev_u4 (Or.inr ⟨(ww hw 9 rfl), (ww hw 78 rfl)⟩)
  obtain ⟨u5, ev_u5⟩ := exa_v ca7
  have pX_u5 := Exa.start ev_u5 ca7
  have pS_u5 : Sta s s.heap "com/example/feedwright/feedwright/Rule" "COUNTRY" "Lcom/example/feedwright/feedwright/Rule;" (.ref u5) := Sta.start ev_u5 (Or.inr ⟨(ww hw 9 rfl), (ww hw 80 rfl)⟩)
  obtain ⟨u6, ev_u6⟩ := exa_v ca8
  have pX_u6 := Exa.start ev_u6 ca8
  have pS_u6 : Sta s s.heap "com/example/feedwright/feedwright/Rule" "GTIN" "Lcom/example/feedwright/feedwright/Rule;" (.ref u6) := Sta.start ev_u6 (Or.inr ⟨(ww hw 9 rfl), (ww hw 82 rfl)⟩)
  obtain ⟨u7, ev_u7⟩ := exa_v ca9
  have pX_u7 := Exa.start ev_u7 ca9
  have pS_u7 : Sta s s.heap "com/example/feedwright/feedwright/Rule" "MAX_LENGTH" "Lcom/example/feedwright/feedwright/Rule;" (.ref u7) := Sta.start ev_u7 (Or.inr ⟨(ww hw 9 rfl), (ww hw 84 rfl)⟩)
  obtain ⟨u8, ev_u8⟩ := exa_v ca10
  have pX_u8 := Exa.start ev_u8 ca10
  have pS_u8 : Sta s s.heap "com/example/feedwright/feedwright/Rule" "URL" "Lcom/example/feedwright/feedwright/Rule;" (.ref u8) := Sta.start ev_u8 (Or.inr ⟨(ww hw 9 rfl), (ww hw 86 rfl)⟩)
  obtain ⟨u9, ev_u9⟩ := exa_v ca11
  have pX_u9 := Exa.start ev_u9 ca11
  have pS_u9 : Sta s s.heap "com/example/feedwright/feedwright/Rule" "REQUIRED" "Lcom/example/feedwright/feedwright/Rule;" (.ref u9) := Sta.start ev_u9 (Or.inr ⟨(ww hw 9 rfl), (ww hw 88 rfl)⟩)
  obtain ⟨u10, ev_u10⟩ := exa_v ca12
  have pX_u10 := Exa.start ev_u10 ca12
  have pS_u10 : Sta s s.heap "com/example/feedwright/feedwright/Rule" "ENUM" "Lcom/example/feedwright/feedwright/Rule;" (.ref u10) := Sta.start ev_u10 (Or.inr ⟨(ww hw 9 rfl), (ww hw 90 rfl)⟩)
  obtain ⟨u11, ev_u11⟩ := exa_v ca13
  have pX_u11 := Exa.start ev_u11 ca13
  have pS_u11 : Sta s s.heap "com/example/feedwright/feedwright/Rule" "NONZERO" "Lcom/example/feedwright/feedwright/Rule;" (.ref u11) := Sta.start ev_u11 (Or.inr ⟨(ww hw 9 rfl), (ww hw 92 rfl)⟩)
  obtain ⟨u12, ev_u12⟩ := exa_v ca14
  have pX_u12 := Exa.start ev_u12 ca14
  have pS_u12 : Sta s s.heap "com/example/feedwright/feedwright/Rule" "KEPT" "Lcom/example/feedwright/feedwright/Rule;" (.ref u12) := Sta.start ev_u12 (Or.inr ⟨(ww hw 9 rfl), (ww hw 94 rfl)⟩)
  obtain ⟨u13, ev_u13⟩ := exa_v ca15
  have pX_u13 := Exa.start ev_u13 ca15
  have pS_u13 : Sta s s.heap "com/example/feedwright/feedwright/Rule" "DECIMAL" "Lcom/example/feedwright/feedwright/Rule;" (.ref u13) := Sta.start ev_u13 (Or.inr ⟨(ww hw 9 rfl), (ww hw 96 rfl)⟩)
  obtain ⟨ki0, ev_ki0⟩ := is_v (Cond.before_iff.mp (hsets _ (List.mem_of_getElem? (i := 1) rfl)))
  have pS_ki0 : Sta s s.heap "java/lang/String" "COMPACT_STRINGS" "Z" (.int ki0) := Sta.start ev_ki0 (Or.inl (wj hj 0 rfl))
  have pnz_ki0 : ¬ ki0 = (0 : Int32) := gotF (Cond.eq_ints ev_ki0 (Term.int_eval (0))) (not_v (Cond.before_iff.mp (hsets _ (List.mem_of_getElem? (i := 2) rfl))))
  have pF_u0_ordinal := own_fld ev_u0 ca3
  have pF_u2_ordinal := own_fld ev_u2 ca4
  have G : own_St s hj u0 u1 u2 u3 u4 u5 u6 u7 u8 u9 u10 u11 u12 u13 ki0 := ⟨pS_u0, pX_u0, pS_u1, pX_u1, pS_u2, pX_u2, pS_u3, pX_u3, pS_u4, pX_u4, pS_u5, pX_u5, pS_u6, pX_u6, pS_u7, pX_u7, pS_u8, pX_u8, pS_u9, pX_u9, pS_u10, pX_u10, pS_u11, pX_u11, pS_u12, pX_u12, pS_u13, pX_u13, pS_ki0, pnz_ki0, pF_u0_ordinal, pF_u2_ordinal⟩
  obtain ⟨n, o, h1, h2, h3, _, L, rfl, ⟨rfl, N⟩, hq⟩ := own_law l s _ hw hj u0 u1 u2 u3 u4 u5 u6 u7 u8 u9 u10 u11 u12 u13 ki0 G p1 p2 p3 p4 s.heap s.heap.size (Old.start s) tables_1 p e ha hc hk s m _ below hf ((Spec.applies_iff_loose hf).mp happ).1 ⟨rfl, State.Warmed39.refl s, rfl⟩ trivial
  refine ⟨n, _, h1, h2, h3, hpost _ _ _ _ _ _ ⟨Cond.after_iff.mpr rfl, Cond.after_iff.mpr (eq_i res_at (Term.int_eval (1)) rfl), trivial⟩ ⟨hq.1, hq.2.1, (hq.2.2.sift fun y hy => Or.inr (N y hy)).mono (by decide) (by decide)⟩⟩
theorem main_1_1 : Claimed_1_1 := comes_1 fun _ _ _ _ _ _ h hF => ⟨h.1, hF⟩
theorem main_1_2 : Claimed_1_2 := comes_1 fun _ _ _ _ _ _ h hF => ⟨h.2.1, hF⟩
end Jvm.Pilot.@@N@@
namespace Jvm.Pilot.@@N@@
open Jvm Jvm.ClassFile Sem Op Lib Jvm.Free Jvm.Stand Jvm.Pilot.@@N@@.Jvm.D
/-! MADE BY PROGRAM (witnessworld.py) out of the Statement's table words and the real class files: 20 classes; the members and pool entries that the words name. The judged class is class 1, her method 2. -/
namespace start1
open Jvm.ClassFile
def u (s : String) : CpInfo := .utf8 (stringToUtf16 s)
/-- a pool by its gaps: so many unusable entries, then the entry; so many at the end -/
def gap : Nat → List CpInfo → List CpInfo
  | 0, r => r
  | n + 1, r => .unusable :: gap n r
def poolList (es : List (Nat × CpInfo)) (last : Nat) : List CpInfo := es.foldr (fun e r => gap e.1 (e.2 :: r)) (gap last [])
def pool (es : List (Nat × CpInfo)) (last : Nat) : Array CpInfo := ⟨poolList es last⟩
def fileOf (pool : Array CpInfo) (this : Nat) (attrs : Array Attribute := #[]) (ms : Array MethodInfo := #[]) (fl : Nat := 33) (sup : Nat := 0) (ifs : Array Nat := #[]) (fds : Array FieldInfo := #[]) : ClassFile where
  minorVersion := 0
  majorVersion := 65
  constantPool := pool
  accessFlags := fl
  thisClass := this
  superClass := sup
  interfaces := ifs
  fields := fds
  methods := ms
  attributes := attrs
def plain (name : String) (sup : Option ClassId) : Class where
  name := name
  kind := .ordinary
  loader := none
  accessFlags := 33
  super := sup
  interfaces := #[]
  cf := none
  fields := #[]
  methods := #[]
  instanceTypes := #[]
  staticTypes := #[]
  resolved := #[]
  callSites := []
  init := .initialized
  statics := none
  mirror := none

def pool0 : Array CpInfo := pool [(5, u "<init>"), (0, u "()V"), (1, .class_ 10), (1, u "java/lang/Object")] 113

def k0c0 : Code := { maxStack := 0, maxLocals := 1, code := object_method_1_code, exceptionTable := #[], attributes := #[] }
def k0m0 : Method := { name := "<init>", desc := "()V", sig := { parameters := [], returnType := none }, accessFlags := 1, code := some k0c0 }
/-- java/lang/Object -/
def k0 : Class := { plain "java/lang/Object" none with
  accessFlags := 33
  interfaces := #[]
  cf := some (fileOf pool0 8 #[] #[{ accessFlags := 1, nameIndex := 5, descriptorIndex := 6, attributes := #[] }] 33 0 #[] #[])
  fields := #[]
  methods := #[k0m0]
  instanceTypes := #[]
  staticTypes := #[]
  resolved := Array.replicate 124 none
  statics := none }

def pool1 : Array CpInfo := pool [(2, .class_ 4), (1, u "java/lang/Object"), (0, u "<init>"), (0, u "()V"), (0, .fieldref 8 9), (0, .class_ 10), (0, .nameAndType 11 12), (0, u "com/example/feedwright/feedwright/Rule"), (0, u "REQUIRED"), (0, u "Lcom/example/feedwright/feedwright/Rule;"), (0, .fieldref 8 14), (0, .nameAndType 15 12), (0, u "MAX_LENGTH"), (0, .fieldref 8 17), (0, .nameAndType 18 12), (0, u "URL"), (0, .fieldref 8 20), (0, .nameAndType 21 12), (0, u "PRICE"), (0, .fieldref 8 23), (0, .nameAndType 24 12), (0, u "ENUM"), (0, .fieldref 8 26), (0, .nameAndType 27 12), (0, u "GTIN"), (0, .fieldref 8 29), (0, .nameAndType 30 12), (0, u "DECIMAL"), (0, .fieldref 8 32), (0, .nameAndType 33 12), (0, u "BOOLEAN"), (0, .fieldref 8 35), (0, .nameAndType 36 12), (0, u "COUNTRY"), (0, .fieldref 8 38), (0, .nameAndType 39 12), (0, u "NONZERO"), (0, .fieldref 8 41), (0, .nameAndType 42 12), (0, u "DUPLICATE_ID"), (0, .fieldref 8 44), (0, .nameAndType 45 12), (0, u "KEPT"), (0, .fieldref 47 48), (0, .class_ 49), (0, .nameAndType 50 51), (0, u "com/example/feedwright/feedwright/Level"), (0, u "REFUSE"), (0, u "Lcom/example/feedwright/feedwright/Level;"), (0, .fieldref 47 53), (0, .nameAndType 54 51), (0, u "WARN"), (0, .integer 2147483647), (0, .methodref 57 58), (0, .class_ 59), (0, .nameAndType 60 61), (0, u "com/example/feedwright/feedwright/FaultRefusesPinLaw"), (0, u "ruleAt"), (0, u "(I)Lcom/example/feedwright/feedwright/Rule;"), (0, .methodref 63 64), (0, .class_ 65), (0, .nameAndType 66 67), (0, u "java/lang/String"), (0, u "valueOf"), (0, u "(C)Ljava/lang/String;"), (0, .class_ 69), (0, u "com/example/feedwright/feedwright/Fault"), (0, .methodref 68 71), (0, .nameAndType 5 72), (0, u "(Ljava/lang/String;Lcom/example/feedwright/feedwright/Rule;Lcom/example/feedwright/feedwright/Level;Ljava/lang/String;)V"), (0, .methodref 68 74), (0, .nameAndType 75 76), (0, u "refuses"), (0, u "()Z"), (0, .methodref 68 78), (0, .nameAndType 79 80), (0, u "rule"), (0, u "()Lcom/example/feedwright/feedwright/Rule;"), (0, .methodref 68 82), (0, .nameAndType 83 84), (0, u "field"), (0, u "()Ljava/lang/String;"), (0, .methodref 68 86), (0, .nameAndType 87 84), (0, u "message"), (3, u "law"), (0, u "(IIII)Z")] 2

def k1m0 : Method := { name := "<init>", desc := "()V", sig := { parameters := [], returnType := none }, accessFlags := 1, code := none }
def k1c1 : Code := { maxStack := 2, maxLocals := 1, code := method_2_code, exceptionTable := #[], attributes := #[] }
def k1m1 : Method := { name := "ruleAt", desc := "(I)Lcom/example/feedwright/feedwright/Rule;", sig := { parameters := [.int], returnType := some (.object "com/example/feedwright/feedwright/Rule") }, accessFlags := 10, code := some k1c1 }
def k1c2 : Code := { maxStack := 6, maxLocals := 12, code := code, exceptionTable := #[], attributes := #[] }
def k1m2 : Method := { name := "law", desc := "(IIII)Z", sig := { parameters := [.int, .int, .int, .int], returnType := some .boolean }, accessFlags := 9, code := some k1c2 }
/-- com/example/feedwright/feedwright/FaultRefusesPinLaw -/
def k1 : Class := { plain "com/example/feedwright/feedwright/FaultRefusesPinLaw" (some 0) with
  accessFlags := 49
  interfaces := #[]
  cf := some (fileOf pool1 57 #[] #[{ accessFlags := 1, nameIndex := 5, descriptorIndex := 6, attributes := #[] }, { accessFlags := 10, nameIndex := 60, descriptorIndex := 61, attributes := #[] }, { accessFlags := 9, nameIndex := 91, descriptorIndex := 92, attributes := #[] }] 49 2 #[] #[])
  fields := #[]
  methods := #[k1m0, k1m1, k1m2]
  instanceTypes := #[]
  staticTypes := #[]
  resolved := Array.replicate 95 none
  statics := none }

def pool2 : Array CpInfo := pool [(1, .class_ 2), (0, u "java/lang/constant/Constable"), (0, .class_ 4), (0, u "java/lang/Object")] 6

/-- java/lang/constant/Constable -/
def k2 : Class := { plain "java/lang/constant/Constable" (some 0) with
  accessFlags := 1537
  interfaces := #[]
  cf := some (fileOf pool2 1 #[] #[] 1537 3 #[] #[])
  fields := #[]
  methods := #[]
  instanceTypes := #[]
  staticTypes := #[]
  resolved := Array.replicate 11 none
  statics := none }

def pool3 : Array CpInfo := pool [(1, .class_ 2), (0, u "java/lang/Comparable"), (0, .class_ 4), (0, u "java/lang/Object")] 7

/-- java/lang/Comparable -/
def k3 : Class := { plain "java/lang/Comparable" (some 0) with
  accessFlags := 1537
  interfaces := #[]
  cf := some (fileOf pool3 1 #[] #[] 1537 3 #[] #[])
  fields := #[]
  methods := #[]
  instanceTypes := #[]
  staticTypes := #[]
  resolved := Array.replicate 12 none
  statics := none }

def pool4 : Array CpInfo := pool [(1, .class_ 2), (0, u "java/io/Serializable"), (0, .class_ 4), (0, u "java/lang/Object")] 2

/-- java/io/Serializable -/
def k4 : Class := { plain "java/io/Serializable" (some 0) with
  accessFlags := 1537
  interfaces := #[]
  cf := some (fileOf pool4 1 #[] #[] 1537 3 #[] #[])
  fields := #[]
  methods := #[]
  instanceTypes := #[]
  staticTypes := #[]
  resolved := Array.replicate 7 none
  statics := none }

def pool5 : Array CpInfo := pool [(2, .class_ 4), (1, u "java/lang/Enum"), (0, u "name"), (0, u "Ljava/lang/String;"), (2, u "ordinal"), (0, u "I"), (1, .class_ 14), (1, u "java/lang/Object"), (4, u "hash"), (86, .class_ 108), (1, u "java/lang/Enum$EnumDesc"), (2, .class_ 112), (0, u "java/lang/constant/Constable"), (0, .class_ 114), (0, u "java/lang/Comparable"), (0, .class_ 116), (0, u "java/io/Serializable")] 87

/-- java/lang/Enum -/
def k5 : Class := { plain "java/lang/Enum" (some 0) with
  accessFlags := 1057
  interfaces := #[2, 3, 4]
  cf := some (fileOf pool5 2 #[.nestMembers #[106]] #[] 1057 12 #[111, 113, 115] #[{ accessFlags := 18, nameIndex := 5, descriptorIndex := 6, attributes := #[] }, { accessFlags := 18, nameIndex := 9, descriptorIndex := 10, attributes := #[] }, { accessFlags := 2, nameIndex := 19, descriptorIndex := 10, attributes := #[] }])
  fields := #[{ name := "name", type := (.object "java/lang/String"), accessFlags := 18, slot := 0, constantValue := 0 }, { name := "ordinal", type := .int, accessFlags := 18, slot := 1, constantValue := 0 }, { name := "hash", type := .int, accessFlags := 2, slot := 2, constantValue := 0 }]
  methods := #[]
  instanceTypes := #[(.object "java/lang/String"), .int, .int]
  staticTypes := #[]
  resolved := Array.replicate 204 none
  statics := none }

def pool6 : Array CpInfo := pool [(1, .class_ 2), (0, u "com/example/feedwright/feedwright/Level"), (2, u "REFUSE"), (0, u "Lcom/example/feedwright/feedwright/Level;"), (2, u "WARN"), (2, u "$VALUES"), (0, u "[Lcom/example/feedwright/feedwright/Level;"), (6, .class_ 22), (1, u "java/lang/Enum")] 51

/-- com/example/feedwright/feedwright/Level -/
def k6 : Class := { plain "com/example/feedwright/feedwright/Level" (some 5) with
  accessFlags := 16432
  interfaces := #[]
  cf := some (fileOf pool6 1 #[] #[] 16432 20 #[] #[{ accessFlags := 16409, nameIndex := 5, descriptorIndex := 6, attributes := #[] }, { accessFlags := 16409, nameIndex := 9, descriptorIndex := 6, attributes := #[] }, { accessFlags := 4122, nameIndex := 12, descriptorIndex := 13, attributes := #[] }])
  fields := #[{ name := "REFUSE", type := (.object "com/example/feedwright/feedwright/Level"), accessFlags := 16409, slot := 0, constantValue := 0 }, { name := "WARN", type := (.object "com/example/feedwright/feedwright/Level"), accessFlags := 16409, slot := 1, constantValue := 0 }, { name := "$VALUES", type := (.array (.object "com/example/feedwright/feedwright/Level")), accessFlags := 4122, slot := 2, constantValue := 0 }]
  methods := #[]
  instanceTypes := #[(.object "java/lang/String"), .int, .int]
  staticTypes := #[(.object "com/example/feedwright/feedwright/Level"), (.object "com/example/feedwright/feedwright/Level"), (.array (.object "com/example/feedwright/feedwright/Level"))]
  resolved := Array.replicate 74 none
  statics := some 0 }

def pool7 : Array CpInfo := pool [(1, .class_ 2), (0, u "com/example/feedwright/feedwright/Rule"), (2, u "REQUIRED"), (0, u "Lcom/example/feedwright/feedwright/Rule;"), (2, u "MAX_LENGTH"), (2, u "URL"), (2, u "PRICE"), (2, u "ENUM"), (2, u "GTIN"), (2, u "DECIMAL"), (2, u "BOOLEAN"), (2, u "COUNTRY"), (2, u "NONZERO"), (2, u "DUPLICATE_ID"), (2, u "KEPT"), (2, u "$VALUES"), (0, u "[Lcom/example/feedwright/feedwright/Rule;"), (6, .class_ 52), (1, u "java/lang/Enum")] 51

/-- com/example/feedwright/feedwright/Rule -/
def k7 : Class := { plain "com/example/feedwright/feedwright/Rule" (some 5) with
  accessFlags := 16432
  interfaces := #[]
  cf := some (fileOf pool7 1 #[] #[] 16432 50 #[] #[{ accessFlags := 16409, nameIndex := 5, descriptorIndex := 6, attributes := #[] }, { accessFlags := 16409, nameIndex := 9, descriptorIndex := 6, attributes := #[] }, { accessFlags := 16409, nameIndex := 12, descriptorIndex := 6, attributes := #[] }, { accessFlags := 16409, nameIndex := 15, descriptorIndex := 6, attributes := #[] }, { accessFlags := 16409, nameIndex := 18, descriptorIndex := 6, attributes := #[] }, { accessFlags := 16409, nameIndex := 21, descriptorIndex := 6, attributes := #[] }, { accessFlags := 16409, nameIndex := 24, descriptorIndex := 6, attributes := #[] }, { accessFlags := 16409, nameIndex := 27, descriptorIndex := 6, attributes := #[] }, { accessFlags := 16409, nameIndex := 30, descriptorIndex := 6, attributes := #[] }, { accessFlags := 16409, nameIndex := 33, descriptorIndex := 6, attributes := #[] }, { accessFlags := 16409, nameIndex := 36, descriptorIndex := 6, attributes := #[] }, { accessFlags := 16409, nameIndex := 39, descriptorIndex := 6, attributes := #[] }, { accessFlags := 4122, nameIndex := 42, descriptorIndex := 43, attributes := #[] }])
  fields := #[{ name := "REQUIRED", type := (.object "com/example/feedwright/feedwright/Rule"), accessFlags := 16409, slot := 0, constantValue := 0 }, { name := "MAX_LENGTH", type := (.object "com/example/feedwright/feedwright/Rule"), accessFlags := 16409, slot := 1, constantValue := 0 }, { name := "URL", type := (.object "com/example/feedwright/feedwright/Rule"), accessFlags := 16409, slot := 2, constantValue := 0 }, { name := "PRICE", type := (.object "com/example/feedwright/feedwright/Rule"), accessFlags := 16409, slot := 3, constantValue := 0 }, { name := "ENUM", type := (.object "com/example/feedwright/feedwright/Rule"), accessFlags := 16409, slot := 4, constantValue := 0 }, { name := "GTIN", type := (.object "com/example/feedwright/feedwright/Rule"), accessFlags := 16409, slot := 5, constantValue := 0 }, { name := "DECIMAL", type := (.object "com/example/feedwright/feedwright/Rule"), accessFlags := 16409, slot := 6, constantValue := 0 }, { name := "BOOLEAN", type := (.object "com/example/feedwright/feedwright/Rule"), accessFlags := 16409, slot := 7, constantValue := 0 }, { name := "COUNTRY", type := (.object "com/example/feedwright/feedwright/Rule"), accessFlags := 16409, slot := 8, constantValue := 0 }, { name := "NONZERO", type := (.object "com/example/feedwright/feedwright/Rule"), accessFlags := 16409, slot := 9, constantValue := 0 }, { name := "DUPLICATE_ID", type := (.object "com/example/feedwright/feedwright/Rule"), accessFlags := 16409, slot := 10, constantValue := 0 }, { name := "KEPT", type := (.object "com/example/feedwright/feedwright/Rule"), accessFlags := 16409, slot := 11, constantValue := 0 }, { name := "$VALUES", type := (.array (.object "com/example/feedwright/feedwright/Rule")), accessFlags := 4122, slot := 12, constantValue := 0 }]
  methods := #[]
  instanceTypes := #[(.object "java/lang/String"), .int, .int]
  staticTypes := #[(.object "com/example/feedwright/feedwright/Rule"), (.object "com/example/feedwright/feedwright/Rule"), (.object "com/example/feedwright/feedwright/Rule"), (.object "com/example/feedwright/feedwright/Rule"), (.object "com/example/feedwright/feedwright/Rule"), (.object "com/example/feedwright/feedwright/Rule"), (.object "com/example/feedwright/feedwright/Rule"), (.object "com/example/feedwright/feedwright/Rule"), (.object "com/example/feedwright/feedwright/Rule"), (.object "com/example/feedwright/feedwright/Rule"), (.object "com/example/feedwright/feedwright/Rule"), (.object "com/example/feedwright/feedwright/Rule"), (.array (.object "com/example/feedwright/feedwright/Rule"))]
  resolved := Array.replicate 104 none
  statics := some 1 }

def pool8 : Array CpInfo := pool [(2, .class_ 4), (1, u "java/lang/CharSequence"), (42, .class_ 48), (0, u "java/lang/CharSequence$1CodePointIterator"), (10, .class_ 60), (0, u "java/lang/CharSequence$1CharIterator"), (5, .class_ 67), (0, u "java/lang/Object")] 63

/-- java/lang/CharSequence -/
def k8 : Class := { plain "java/lang/CharSequence" (some 0) with
  accessFlags := 1537
  interfaces := #[]
  cf := some (fileOf pool8 2 #[.nestMembers #[47, 59]] #[] 1537 66 #[] #[])
  fields := #[]
  methods := #[]
  instanceTypes := #[]
  staticTypes := #[]
  resolved := Array.replicate 131 none
  statics := none }

def pool9 : Array CpInfo := pool [(1, .class_ 2), (0, u "java/lang/constant/ConstantDesc"), (0, .class_ 4), (0, u "java/lang/Object")] 32

/-- java/lang/constant/ConstantDesc -/
def k9 : Class := { plain "java/lang/constant/ConstantDesc" (some 0) with
  accessFlags := 1537
  interfaces := #[]
  cf := some (fileOf pool9 1 #[] #[] 1537 3 #[] #[])
  fields := #[]
  methods := #[]
  instanceTypes := #[]
  staticTypes := #[]
  resolved := Array.replicate 37 none
  statics := none }

def pool10 : Array CpInfo := pool [(1, .methodref 2 3), (0, .class_ 4), (0, .nameAndType 5 6), (0, u "java/lang/Object"), (0, u "<init>"), (0, u "()V"), (2, .fieldref 10 11), (0, .class_ 12), (0, .nameAndType 13 14), (0, u "java/lang/String"), (0, u "value"), (0, u "[B"), (0, .fieldref 10 16), (0, .nameAndType 17 18), (0, u "coder"), (0, u "B"), (2, u "hash"), (0, u "I"), (2, u "hashIsZero"), (0, u "Z"), (11, .fieldref 10 39), (0, .nameAndType 40 26), (0, u "COMPACT_STRINGS"), (12, u "toBytes"), (53, .class_ 109), (1, u "java/lang/StringLatin1"), (99, .methodref 10 210), (0, .nameAndType 5 211), (0, u "([BB)V"), (157, u "(C)Z"), (205, .class_ 576), (0, u "java/lang/CharSequence"), (22, u "CASE_INSENSITIVE_ORDER"), (0, u "Ljava/util/Comparator;"), (181, u "valueOf"), (0, u "(C)Ljava/lang/String;"), (231, .methodref 107 1016), (0, .nameAndType 1017 369), (0, u "canEncode"), (0, .methodref 107 1019), (0, .nameAndType 53 1020), (0, u "(C)[B"), (80, u "serialPersistentFields"), (0, u "[Ljava/io/ObjectStreamField;"), (0, .class_ 1104), (0, u "java/lang/String$CaseInsensitiveComparator"), (1, .class_ 1107), (0, u "java/io/Serializable"), (0, .class_ 1109), (0, u "java/lang/Comparable"), (0, .class_ 1111), (0, u "java/lang/constant/Constable"), (0, .class_ 1113), (0, u "java/lang/constant/ConstantDesc"), (2, u "serialVersionUID"), (0, u "J"), (3, u "REPL"), (0, u "C"), (2, u "LATIN1"), (1, u "UTF16")] 323

def k10m0 : Method := { name := "<init>", desc := "()V", sig := { parameters := [], returnType := none }, accessFlags := 1, code := none }
def k10c1 : Code := { maxStack := 4, maxLocals := 1, code := jdk_42_method_139_code, exceptionTable := #[], attributes := #[] }
def k10m1 : Method := { name := "valueOf", desc := "(C)Ljava/lang/String;", sig := { parameters := [.char], returnType := some (.object "java/lang/String") }, accessFlags := 9, code := some k10c1 }
def k10c2 : Code := { maxStack := 2, maxLocals := 3, code := jdk_42_method_151_code, exceptionTable := #[], attributes := #[] }
def k10m2 : Method := { name := "<init>", desc := "([BB)V", sig := { parameters := [(.array .byte), .byte], returnType := none }, accessFlags := 0, code := some k10c2 }
/-- java/lang/String -/
def k10 : Class := { plain "java/lang/String" (some 0) with
  accessFlags := 49
  interfaces := #[4, 3, 8, 2, 9]
  cf := some (fileOf pool10 10 #[.nestMembers #[1103]] #[{ accessFlags := 1, nameIndex := 5, descriptorIndex := 6, attributes := #[] }, { accessFlags := 9, nameIndex := 782, descriptorIndex := 783, attributes := #[] }, { accessFlags := 0, nameIndex := 5, descriptorIndex := 211, attributes := #[] }] 49 2 #[1106, 1108, 575, 1110, 1112] #[{ accessFlags := 18, nameIndex := 13, descriptorIndex := 14, attributes := #[] }, { accessFlags := 18, nameIndex := 17, descriptorIndex := 18, attributes := #[] }, { accessFlags := 2, nameIndex := 21, descriptorIndex := 22, attributes := #[] }, { accessFlags := 2, nameIndex := 25, descriptorIndex := 26, attributes := #[] }, { accessFlags := 26, nameIndex := 1116, descriptorIndex := 1117, attributes := #[] }, { accessFlags := 24, nameIndex := 40, descriptorIndex := 26, attributes := #[] }, { accessFlags := 26, nameIndex := 1101, descriptorIndex := 1102, attributes := #[] }, { accessFlags := 26, nameIndex := 1121, descriptorIndex := 1122, attributes := #[] }, { accessFlags := 25, nameIndex := 599, descriptorIndex := 600, attributes := #[] }, { accessFlags := 24, nameIndex := 1125, descriptorIndex := 18, attributes := #[] }, { accessFlags := 24, nameIndex := 1127, descriptorIndex := 18, attributes := #[] }])
  fields := #[{ name := "value", type := (.array .byte), accessFlags := 18, slot := 0, constantValue := 0 }, { name := "coder", type := .byte, accessFlags := 18, slot := 1, constantValue := 0 }, { name := "hash", type := .int, accessFlags := 2, slot := 2, constantValue := 0 }, { name := "hashIsZero", type := .boolean, accessFlags := 2, slot := 3, constantValue := 0 }, { name := "serialVersionUID", type := .long, accessFlags := 26, slot := 0, constantValue := 0 }, { name := "COMPACT_STRINGS", type := .boolean, accessFlags := 24, slot := 1, constantValue := 0 }, { name := "serialPersistentFields", type := (.array (.object "java/io/ObjectStreamField")), accessFlags := 26, slot := 2, constantValue := 0 }, { name := "REPL", type := .char, accessFlags := 26, slot := 3, constantValue := 0 }, { name := "CASE_INSENSITIVE_ORDER", type := (.object "java/util/Comparator"), accessFlags := 25, slot := 4, constantValue := 0 }, { name := "LATIN1", type := .byte, accessFlags := 24, slot := 5, constantValue := 0 }, { name := "UTF16", type := .byte, accessFlags := 24, slot := 6, constantValue := 0 }]
  methods := #[k10m0, k10m1, k10m2]
  instanceTypes := #[(.array .byte), .byte, .int, .boolean]
  staticTypes := #[.long, .boolean, (.array (.object "java/io/ObjectStreamField")), .char, (.object "java/util/Comparator"), .byte, .byte]
  resolved := Array.replicate 1451 none
  statics := some 2 }

def pool11 : Array CpInfo := pool [(4, .class_ 6), (1, u "java/lang/Object"), (0, u "<init>"), (0, u "()V"), (5, .class_ 16), (1, u "java/lang/StringLatin1"), (73, u "canEncode"), (14, u "(C)Z"), (15, u "$assertionsDisabled"), (0, u "Z"), (98, .class_ 223), (1, u "java/lang/StringLatin1$LinesSpliterator"), (156, u "toBytes"), (1, u "(C)[B"), (7, .class_ 391), (0, u "java/lang/StringLatin1$CharsSpliterator")] 3

def k11m0 : Method := { name := "<init>", desc := "()V", sig := { parameters := [], returnType := none }, accessFlags := 0, code := none }
def k11c1 : Code := { maxStack := 2, maxLocals := 1, code := jdk_43_method_3_code, exceptionTable := #[], attributes := #[] }
def k11m1 : Method := { name := "canEncode", desc := "(C)Z", sig := { parameters := [.char], returnType := some .boolean }, accessFlags := 9, code := some k11c1 }
def k11c2 : Code := { maxStack := 4, maxLocals := 1, code := jdk_43_method_46_code, exceptionTable := #[], attributes := #[] }
def k11m2 : Method := { name := "toBytes", desc := "(C)[B", sig := { parameters := [.char], returnType := some (.array .byte) }, accessFlags := 9, code := some k11c2 }
/-- java/lang/StringLatin1 -/
def k11 : Class := { plain "java/lang/StringLatin1" (some 0) with
  accessFlags := 48
  interfaces := #[]
  cf := some (fileOf pool11 14 #[.nestMembers #[390, 221]] #[{ accessFlags := 0, nameIndex := 7, descriptorIndex := 8, attributes := #[] }, { accessFlags := 9, nameIndex := 90, descriptorIndex := 105, attributes := #[] }, { accessFlags := 9, nameIndex := 380, descriptorIndex := 382, attributes := #[] }] 48 4 #[] #[{ accessFlags := 4120, nameIndex := 121, descriptorIndex := 122, attributes := #[] }])
  fields := #[{ name := "$assertionsDisabled", type := .boolean, accessFlags := 4120, slot := 0, constantValue := 0 }]
  methods := #[k11m0, k11m1, k11m2]
  instanceTypes := #[]
  staticTypes := #[.boolean]
  resolved := Array.replicate 395 none
  statics := none }

def pool12 : Array CpInfo := pool [(1, .methodref 2 3), (0, .class_ 4), (0, .nameAndType 5 6), (0, u "java/lang/Object"), (0, u "<init>"), (0, u "()V"), (0, .fieldref 8 9), (0, .class_ 10), (0, .nameAndType 11 12), (0, u "com/example/feedwright/feedwright/Fault"), (0, u "field"), (0, u "Ljava/lang/String;"), (0, .fieldref 8 14), (0, .nameAndType 15 16), (0, u "rule"), (0, u "Lcom/example/feedwright/feedwright/Rule;"), (0, .fieldref 8 18), (0, .nameAndType 19 20), (0, u "level"), (0, u "Lcom/example/feedwright/feedwright/Level;"), (0, .fieldref 8 22), (0, .nameAndType 23 12), (0, u "message"), (0, .fieldref 25 26), (0, .class_ 27), (0, .nameAndType 28 20), (0, u "com/example/feedwright/feedwright/Level"), (0, u "REFUSE"), (22, u "QUOTED_LENGTH"), (0, u "I"), (2, u "(Ljava/lang/String;Lcom/example/feedwright/feedwright/Rule;Lcom/example/feedwright/feedwright/Level;Ljava/lang/String;)V"), (2, u "()Ljava/lang/String;"), (0, u "()Lcom/example/feedwright/feedwright/Rule;"), (0, u "refuses"), (0, u "()Z")] 21

def k12c0 : Code := { maxStack := 2, maxLocals := 5, code := prog_9_method_1_code, exceptionTable := #[], attributes := #[] }
def k12m0 : Method := { name := "<init>", desc := "(Ljava/lang/String;Lcom/example/feedwright/feedwright/Rule;Lcom/example/feedwright/feedwright/Level;Ljava/lang/String;)V", sig := { parameters := [(.object "java/lang/String"), (.object "com/example/feedwright/feedwright/Rule"), (.object "com/example/feedwright/feedwright/Level"), (.object "java/lang/String")], returnType := none }, accessFlags := 0, code := some k12c0 }
def k12c1 : Code := { maxStack := 1, maxLocals := 1, code := prog_9_method_2_code, exceptionTable := #[], attributes := #[] }
def k12m1 : Method := { name := "field", desc := "()Ljava/lang/String;", sig := { parameters := [], returnType := some (.object "java/lang/String") }, accessFlags := 0, code := some k12c1 }
def k12c2 : Code := { maxStack := 1, maxLocals := 1, code := prog_9_method_3_code, exceptionTable := #[], attributes := #[] }
def k12m2 : Method := { name := "rule", desc := "()Lcom/example/feedwright/feedwright/Rule;", sig := { parameters := [], returnType := some (.object "com/example/feedwright/feedwright/Rule") }, accessFlags := 0, code := some k12c2 }
def k12c3 : Code := { maxStack := 2, maxLocals := 1, code := prog_9_method_4_code, exceptionTable := #[], attributes := #[] }
def k12m3 : Method := { name := "refuses", desc := "()Z", sig := { parameters := [], returnType := some .boolean }, accessFlags := 0, code := some k12c3 }
def k12c4 : Code := { maxStack := 1, maxLocals := 1, code := prog_9_method_5_code, exceptionTable := #[], attributes := #[] }
def k12m4 : Method := { name := "message", desc := "()Ljava/lang/String;", sig := { parameters := [], returnType := some (.object "java/lang/String") }, accessFlags := 0, code := some k12c4 }
/-- com/example/feedwright/feedwright/Fault -/
def k12 : Class := { plain "com/example/feedwright/feedwright/Fault" (some 0) with
  accessFlags := 48
  interfaces := #[]
  cf := some (fileOf pool12 8 #[] #[{ accessFlags := 0, nameIndex := 5, descriptorIndex := 55, attributes := #[] }, { accessFlags := 0, nameIndex := 11, descriptorIndex := 58, attributes := #[] }, { accessFlags := 0, nameIndex := 15, descriptorIndex := 59, attributes := #[] }, { accessFlags := 0, nameIndex := 60, descriptorIndex := 61, attributes := #[] }, { accessFlags := 0, nameIndex := 23, descriptorIndex := 58, attributes := #[] }] 48 2 #[] #[{ accessFlags := 26, nameIndex := 51, descriptorIndex := 52, attributes := #[] }, { accessFlags := 18, nameIndex := 11, descriptorIndex := 12, attributes := #[] }, { accessFlags := 18, nameIndex := 15, descriptorIndex := 16, attributes := #[] }, { accessFlags := 18, nameIndex := 19, descriptorIndex := 20, attributes := #[] }, { accessFlags := 18, nameIndex := 23, descriptorIndex := 12, attributes := #[] }])
  fields := #[{ name := "QUOTED_LENGTH", type := .int, accessFlags := 26, slot := 0, constantValue := 0 }, { name := "field", type := (.object "java/lang/String"), accessFlags := 18, slot := 0, constantValue := 0 }, { name := "rule", type := (.object "com/example/feedwright/feedwright/Rule"), accessFlags := 18, slot := 1, constantValue := 0 }, { name := "level", type := (.object "com/example/feedwright/feedwright/Level"), accessFlags := 18, slot := 2, constantValue := 0 }, { name := "message", type := (.object "java/lang/String"), accessFlags := 18, slot := 3, constantValue := 0 }]
  methods := #[k12m0, k12m1, k12m2, k12m3, k12m4]
  instanceTypes := #[(.object "java/lang/String"), (.object "com/example/feedwright/feedwright/Rule"), (.object "com/example/feedwright/feedwright/Level"), (.object "java/lang/String")]
  staticTypes := #[.int]
  resolved := Array.replicate 83 none
  statics := none }

def pool13 : Array CpInfo := pool [(2, .class_ 4), (1, u "java/lang/Object"), (0, u "<init>"), (0, u "()V"), (17, .class_ 26), (1, u "jdk/internal/util/Preconditions"), (28, .class_ 56), (0, u "jdk/internal/util/Preconditions$4"), (57, .class_ 115), (0, u "jdk/internal/util/Preconditions$1"), (7, u "SIOOBE_FORMATTER"), (0, u "Ljava/util/function/BiFunction;"), (0, .class_ 126), (0, u "jdk/internal/util/Preconditions$2"), (3, u "AIOOBE_FORMATTER"), (0, .class_ 132), (0, u "jdk/internal/util/Preconditions$3"), (3, u "IOOBE_FORMATTER")] 57

def k13m0 : Method := { name := "<init>", desc := "()V", sig := { parameters := [], returnType := none }, accessFlags := 1, code := none }
/-- jdk/internal/util/Preconditions -/
def k13 : Class := { plain "jdk/internal/util/Preconditions" (some 0) with
  accessFlags := 33
  interfaces := #[]
  cf := some (fileOf pool13 24 #[.nestMembers #[55, 131, 125, 114]] #[{ accessFlags := 1, nameIndex := 5, descriptorIndex := 6, attributes := #[] }] 33 2 #[] #[{ accessFlags := 25, nameIndex := 123, descriptorIndex := 124, attributes := #[] }, { accessFlags := 25, nameIndex := 130, descriptorIndex := 124, attributes := #[] }, { accessFlags := 25, nameIndex := 136, descriptorIndex := 124, attributes := #[] }])
  fields := #[{ name := "SIOOBE_FORMATTER", type := (.object "java/util/function/BiFunction"), accessFlags := 25, slot := 0, constantValue := 0 }, { name := "AIOOBE_FORMATTER", type := (.object "java/util/function/BiFunction"), accessFlags := 25, slot := 1, constantValue := 0 }, { name := "IOOBE_FORMATTER", type := (.object "java/util/function/BiFunction"), accessFlags := 25, slot := 2, constantValue := 0 }]
  methods := #[k13m0]
  instanceTypes := #[]
  staticTypes := #[(.object "java/util/function/BiFunction"), (.object "java/util/function/BiFunction"), (.object "java/util/function/BiFunction")]
  resolved := Array.replicate 194 none
  statics := some 3 }

def pool14 : Array CpInfo := pool [(9, u "<init>"), (6, .class_ 18), (1, u "java/lang/Object"), (0, u "()V"), (1, .class_ 23), (1, u "jdk/internal/util/ArraysSupport"), (0, u "LOG2_ARRAY_LONG_INDEX_SCALE"), (0, u "I"), (2, u "U"), (0, u "Ljdk/internal/misc/Unsafe;"), (8, u "BIG_ENDIAN"), (0, u "Z"), (8, u "LOG2_BYTE_BIT_SIZE"), (4, u "LOG2_ARRAY_INT_INDEX_SCALE"), (54, u "JLA"), (0, u "Ljdk/internal/access/JavaLangAccess;"), (11, u "LOG2_ARRAY_BOOLEAN_INDEX_SCALE"), (9, u "LOG2_ARRAY_BYTE_INDEX_SCALE"), (5, u "LOG2_ARRAY_CHAR_INDEX_SCALE"), (5, u "LOG2_ARRAY_SHORT_INDEX_SCALE"), (18, u "LOG2_ARRAY_FLOAT_INDEX_SCALE"), (24, u "LOG2_ARRAY_DOUBLE_INDEX_SCALE"), (89, u "T_BOOLEAN"), (2, u "T_CHAR"), (1, u "T_FLOAT"), (1, u "T_DOUBLE"), (1, u "T_BYTE"), (1, u "T_SHORT"), (1, u "T_INT"), (1, u "T_LONG"), (1, u "SOFT_MAX_ARRAY_LENGTH")] 83

def k14m0 : Method := { name := "<init>", desc := "()V", sig := { parameters := [], returnType := none }, accessFlags := 2, code := none }
/-- jdk/internal/util/ArraysSupport -/
def k14 : Class := { plain "jdk/internal/util/ArraysSupport" (some 0) with
  accessFlags := 33
  interfaces := #[]
  cf := some (fileOf pool14 21 #[] #[{ accessFlags := 2, nameIndex := 9, descriptorIndex := 19, attributes := #[] }] 33 16 #[] #[{ accessFlags := 24, nameIndex := 28, descriptorIndex := 29, attributes := #[] }, { accessFlags := 26, nameIndex := 38, descriptorIndex := 39, attributes := #[] }, { accessFlags := 25, nameIndex := 121, descriptorIndex := 25, attributes := #[] }, { accessFlags := 25, nameIndex := 131, descriptorIndex := 25, attributes := #[] }, { accessFlags := 25, nameIndex := 137, descriptorIndex := 25, attributes := #[] }, { accessFlags := 25, nameIndex := 143, descriptorIndex := 25, attributes := #[] }, { accessFlags := 25, nameIndex := 53, descriptorIndex := 25, attributes := #[] }, { accessFlags := 25, nameIndex := 24, descriptorIndex := 25, attributes := #[] }, { accessFlags := 25, nameIndex := 162, descriptorIndex := 25, attributes := #[] }, { accessFlags := 25, nameIndex := 187, descriptorIndex := 25, attributes := #[] }, { accessFlags := 26, nameIndex := 48, descriptorIndex := 25, attributes := #[] }, { accessFlags := 25, nameIndex := 277, descriptorIndex := 25, attributes := #[] }, { accessFlags := 25, nameIndex := 280, descriptorIndex := 25, attributes := #[] }, { accessFlags := 25, nameIndex := 282, descriptorIndex := 25, attributes := #[] }, { accessFlags := 25, nameIndex := 284, descriptorIndex := 25, attributes := #[] }, { accessFlags := 25, nameIndex := 286, descriptorIndex := 25, attributes := #[] }, { accessFlags := 25, nameIndex := 288, descriptorIndex := 25, attributes := #[] }, { accessFlags := 25, nameIndex := 290, descriptorIndex := 25, attributes := #[] }, { accessFlags := 25, nameIndex := 292, descriptorIndex := 25, attributes := #[] }, { accessFlags := 26, nameIndex := 108, descriptorIndex := 109, attributes := #[] }, { accessFlags := 25, nameIndex := 294, descriptorIndex := 25, attributes := #[] }])
  fields := #[{ name := "U", type := (.object "jdk/internal/misc/Unsafe"), accessFlags := 24, slot := 0, constantValue := 0 }, { name := "BIG_ENDIAN", type := .boolean, accessFlags := 26, slot := 1, constantValue := 0 }, { name := "LOG2_ARRAY_BOOLEAN_INDEX_SCALE", type := .int, accessFlags := 25, slot := 2, constantValue := 0 }, { name := "LOG2_ARRAY_BYTE_INDEX_SCALE", type := .int, accessFlags := 25, slot := 3, constantValue := 0 }, { name := "LOG2_ARRAY_CHAR_INDEX_SCALE", type := .int, accessFlags := 25, slot := 4, constantValue := 0 }, { name := "LOG2_ARRAY_SHORT_INDEX_SCALE", type := .int, accessFlags := 25, slot := 5, constantValue := 0 }, { name := "LOG2_ARRAY_INT_INDEX_SCALE", type := .int, accessFlags := 25, slot := 6, constantValue := 0 }, { name := "LOG2_ARRAY_LONG_INDEX_SCALE", type := .int, accessFlags := 25, slot := 7, constantValue := 0 }, { name := "LOG2_ARRAY_FLOAT_INDEX_SCALE", type := .int, accessFlags := 25, slot := 8, constantValue := 0 }, { name := "LOG2_ARRAY_DOUBLE_INDEX_SCALE", type := .int, accessFlags := 25, slot := 9, constantValue := 0 }, { name := "LOG2_BYTE_BIT_SIZE", type := .int, accessFlags := 26, slot := 10, constantValue := 0 }, { name := "T_BOOLEAN", type := .int, accessFlags := 25, slot := 11, constantValue := 0 }, { name := "T_CHAR", type := .int, accessFlags := 25, slot := 12, constantValue := 0 }, { name := "T_FLOAT", type := .int, accessFlags := 25, slot := 13, constantValue := 0 }, { name := "T_DOUBLE", type := .int, accessFlags := 25, slot := 14, constantValue := 0 }, { name := "T_BYTE", type := .int, accessFlags := 25, slot := 15, constantValue := 0 }, { name := "T_SHORT", type := .int, accessFlags := 25, slot := 16, constantValue := 0 }, { name := "T_INT", type := .int, accessFlags := 25, slot := 17, constantValue := 0 }, { name := "T_LONG", type := .int, accessFlags := 25, slot := 18, constantValue := 0 }, { name := "JLA", type := (.object "jdk/internal/access/JavaLangAccess"), accessFlags := 26, slot := 19, constantValue := 0 }, { name := "SOFT_MAX_ARRAY_LENGTH", type := .int, accessFlags := 25, slot := 20, constantValue := 0 }]
  methods := #[k14m0]
  instanceTypes := #[]
  staticTypes := #[(.object "jdk/internal/misc/Unsafe"), .boolean, .int, .int, .int, .int, .int, .int, .int, .int, .int, .int, .int, .int, .int, .int, .int, .int, .int, (.object "jdk/internal/access/JavaLangAccess"), .int]
  resolved := Array.replicate 378 none
  statics := none }

def pool15 : Array CpInfo := pool [(1, u "java/lang/Cloneable"), (0, .class_ 1), (0, u "java/lang/Object"), (0, .class_ 3)] 3

/-- java/lang/Cloneable -/
def k15 : Class := { plain "java/lang/Cloneable" (some 0) with
  accessFlags := 1537
  interfaces := #[]
  cf := some (fileOf pool15 2 #[] #[] 1537 4 #[] #[])
  fields := #[]
  methods := #[]
  instanceTypes := #[]
  staticTypes := #[]
  resolved := Array.replicate 8 none
  statics := none }

/-- the primitive byte -/
def k16 : Class := { plain "byte" none with kind := .primitive 'B', accessFlags := 0x411 }
/-- [B -/
def k17 : Class := { plain "[B" (some 0) with kind := .array 16 .byte, interfaces := #[15, 4], accessFlags := 1041 }

/-- the primitive int -/
def k18 : Class := { plain "int" none with kind := .primitive 'I', accessFlags := 0x411 }
/-- [I -/
def k19 : Class := { plain "[I" (some 0) with kind := .array 18 .int, interfaces := #[15, 4], accessFlags := 1041 }

def heap : Heap := #[{ cls := 6, slots := #[.ref 6, .ref 4, .null], vm := .statics 6 },
  { cls := 7, slots := #[.ref 13, .ref 11, .ref 12, .ref 5, .ref 14, .ref 10, .ref 17, .ref 7, .ref 9, .ref 15, .ref 8, .ref 16, .null], vm := .statics 7 },
  { cls := 10, slots := #[.long 0, .int 1, .null, .int 0, .null, .int 0, .int 0], vm := .statics 10 },
  { cls := 13, slots := #[.null, .null, .null], vm := .statics 13 },
  { cls := 6, slots := #[.null, .int 1, .int 0], vm := .none },
  { cls := 7, slots := #[.null, .int 0, .int 0], vm := .none },
  { cls := 6, slots := #[.null, .int 0, .int 0], vm := .none },
  { cls := 7, slots := #[.null, .int 0, .int 0], vm := .none },
  { cls := 7, slots := #[.null, .int 0, .int 0], vm := .none },
  { cls := 7, slots := #[.null, .int 0, .int 0], vm := .none },
  { cls := 7, slots := #[.null, .int 0, .int 0], vm := .none },
  { cls := 7, slots := #[.null, .int 0, .int 0], vm := .none },
  { cls := 7, slots := #[.null, .int 0, .int 0], vm := .none },
  { cls := 7, slots := #[.null, .int 0, .int 0], vm := .none },
  { cls := 7, slots := #[.null, .int 0, .int 0], vm := .none },
  { cls := 7, slots := #[.null, .int 0, .int 0], vm := .none },
  { cls := 7, slots := #[.null, .int 0, .int 0], vm := .none },
  { cls := 7, slots := #[.null, .int 0, .int 0], vm := .none }]
def classes : Array Class := #[k0, k1, k2, k3, k4, k5, k6, k7, k8, k9, k10, k11, k12, k13, k14, k15, k16, k17, k18, k19]
def interned : List (Array UInt16 × Addr) := []
def slotsUsed : Nat := 68
def theMethod : MethodId := ⟨1, 2⟩
def args0 : Array Value := #[.int 1, .int 5, .int 65, .int 66]
def aboutOver (below : List Frame) : State where
  vm := { classes := classes, interned := interned.toArray }
  heap := heap
  slotsUsed := slotsUsed
  threads := #[{ frames := .invoking theMethod args0 :: below }]
def below0 : List Frame := [.native { method := ⟨0, 0⟩, args := #[] }]
def about1 : State := aboutOver below0
def p0 : Program := .bare "" "" ""
def e0 : Env := launch0.env 0 0 0
theorem w_frames : about1.frames = Frame.invoking theMethod args0 :: below0 := rfl
set_option maxRecDepth 65536 in
theorem w_args : argsFit about1.vm theMethod args0 = true := by decide +kernel
set_option maxRecDepth 65536 in
theorem w_heap : heapFits about1 = true := by decide +kernel
set_option maxRecDepth 65536 in
theorem w_runnable : about1.curStatus? = some .runnable := by decide +kernel
set_option maxRecDepth 65536 in
theorem w_alone : about1.alone = true := by decide +kernel
set_option maxRecDepth 65536 in
theorem w_named : about1.methodNamed? x = some theMethod := by decide +kernel
set_option maxRecDepth 65536 in
theorem w_hears : about1.hears theMethod below0 = true := by decide +kernel
set_option maxRecDepth 65536 in
theorem w_ripe : about1.ripe theMethod args0 below0 = true := by decide +kernel
theorem w_running : about1.status = .running := rfl
set_option maxRecDepth 65536 in
theorem w_room : about1.hasRoom e0.platform room_1 = true :=
  launch0.hasRoom_least _ room_1 (by decide +kernel) (by decide +kernel) (by decide +kernel) (by decide +kernel) (by decide +kernel) (by decide +kernel)
theorem allAtoms_all (ts : List Jvm.Cond) (a : Array Jvm.Value) (st : Jvm.State) : (allAtoms ts).before a st = ts.all (fun c => c.before a st) := by
  induction ts with
  | nil => rfl
  | cons c t ih =>
    show (Jvm.Cond.and c (allAtoms t)).before a st = _
    rw [Jvm.Cond.before_and, ih, List.all_cons]
def words1 : List Jvm.Cond := Jvm.Cond.code x code maxLocals ret :: tables_1
/-- a 'code' word, met by the world's own term for the bytes: nothing is compared byte by byte -/
theorem code_word {y : MethodName} {bytes : ByteArray} {mx : Nat} {rt : Option FieldType} {a : Array Value} {s : State} {m : MethodId} {meth : Method} {c : Code} (h1 : s.methodNamed? y = some m) (h2 : s.vm.method? m = some meth) (h3 : meth.code = some c) (h4 : c.code = bytes)
    (h5 : (c.maxLocals == mx && c.exceptionTable.isEmpty && decide (c.maxStack ≤ mostOperands) && decide (meth.sig.returnType = rt) && !meth.locks && decide (parseMethodDescriptor y.desc = some meth.sig)) = true) : (Jvm.Cond.code y bytes mx rt).before a s = true := by
  simp only [Bool.and_eq_true, beq_iff_eq, Bool.not_eq_true', decide_eq_true_eq] at h5
  obtain ⟨⟨⟨⟨⟨g1, g2⟩, g3⟩, g4⟩, g5⟩, g6⟩ := h5
  simp [Cond.before, Cond.holds, Cond.value, h1, h2, h3, h4, g1, g2, g3, g4, g5, g6]
def isCode : Jvm.Cond → Bool
  | .code _ _ _ _ => true
  | _ => false
theorem all_split {L : List Jvm.Cond} {P : Jvm.Cond → Bool} (h1 : L.all (fun c => isCode c || P c) = true) (h2 : ∀ c ∈ L.filter isCode, P c = true) : L.all P = true := by
  refine List.all_eq_true.mpr fun c hc => ?_
  have h := List.all_eq_true.mp h1 c hc
  rcases Bool.eq_false_or_eq_true (isCode c) with hi | hi
  · exact h2 c (List.mem_filter.mpr ⟨hc, hi⟩)
  · simpa [hi] using h
set_option maxRecDepth 65536 in
theorem w_c0 : (Jvm.Cond.code x code maxLocals ret).before args0 about1 = true := code_word (m := ⟨1, 2⟩) (meth := k1m2) (c := k1c2) (by decide +kernel) rfl rfl rfl (by decide +kernel)
set_option maxRecDepth 65536 in
theorem w_c1 : (Jvm.Cond.code ({ cls := "com/example/feedwright/feedwright/FaultRefusesPinLaw", name := "ruleAt", desc := "(I)Lcom/example/feedwright/feedwright/Rule;" } : Jvm.MethodName) method_2_code (1 : Nat) (Option.some (Jvm.ClassFile.FieldType.object "com/example/feedwright/feedwright/Rule"))).before args0 about1 = true := code_word (m := ⟨1, 1⟩) (meth := k1m1) (c := k1c1) (by decide +kernel) rfl rfl rfl (by decide +kernel)
set_option maxRecDepth 65536 in
theorem w_c2 : (Jvm.Cond.code ({ cls := "java/lang/String", name := "valueOf", desc := "(C)Ljava/lang/String;" } : Jvm.MethodName) jdk_42_method_139_code (1 : Nat) (Option.some (Jvm.ClassFile.FieldType.object "java/lang/String"))).before args0 about1 = true := code_word (m := ⟨10, 1⟩) (meth := k10m1) (c := k10c1) (by decide +kernel) rfl rfl rfl (by decide +kernel)
set_option maxRecDepth 65536 in
theorem w_c3 : (Jvm.Cond.code ({ cls := "java/lang/StringLatin1", name := "canEncode", desc := "(C)Z" } : Jvm.MethodName) jdk_43_method_3_code (1 : Nat) (Option.some Jvm.ClassFile.FieldType.boolean)).before args0 about1 = true := code_word (m := ⟨11, 1⟩) (meth := k11m1) (c := k11c1) (by decide +kernel) rfl rfl rfl (by decide +kernel)
set_option maxRecDepth 65536 in
theorem w_c4 : (Jvm.Cond.code ({ cls := "java/lang/StringLatin1", name := "toBytes", desc := "(C)[B" } : Jvm.MethodName) jdk_43_method_46_code (1 : Nat) (Option.some (Jvm.ClassFile.FieldType.array Jvm.ClassFile.FieldType.byte))).before args0 about1 = true := code_word (m := ⟨11, 2⟩) (meth := k11m2) (c := k11c2) (by decide +kernel) rfl rfl rfl (by decide +kernel)
set_option maxRecDepth 65536 in
theorem w_c5 : (Jvm.Cond.code ({ cls := "java/lang/String", name := "<init>", desc := "([BB)V" } : Jvm.MethodName) jdk_42_method_151_code (3 : Nat) (Option.none : Option Jvm.ClassFile.FieldType)).before args0 about1 = true := code_word (m := ⟨10, 2⟩) (meth := k10m2) (c := k10c2) (by decide +kernel) rfl rfl rfl (by decide +kernel)
set_option maxRecDepth 65536 in
theorem w_c6 : (Jvm.Cond.code ({ cls := "java/lang/Object", name := "<init>", desc := "()V" } : Jvm.MethodName) object_method_1_code (1 : Nat) (Option.none : Option Jvm.ClassFile.FieldType)).before args0 about1 = true := code_word (m := ⟨0, 0⟩) (meth := k0m0) (c := k0c0) (by decide +kernel) rfl rfl rfl (by decide +kernel)
set_option maxRecDepth 65536 in
theorem w_c7 : (Jvm.Cond.code ({ cls := "com/example/feedwright/feedwright/Fault", name := "<init>", desc := "(Ljava/lang/String;Lcom/example/feedwright/feedwright/Rule;Lcom/example/feedwright/feedwright/Level;Ljava/lang/String;)V" } : Jvm.MethodName) prog_9_method_1_code (5 : Nat) (Option.none : Option Jvm.ClassFile.FieldType)).before args0 about1 = true := code_word (m := ⟨12, 0⟩) (meth := k12m0) (c := k12c0) (by decide +kernel) rfl rfl rfl (by decide +kernel)
set_option maxRecDepth 65536 in
theorem w_c8 : (Jvm.Cond.code ({ cls := "com/example/feedwright/feedwright/Fault", name := "refuses", desc := "()Z" } : Jvm.MethodName) prog_9_method_4_code (1 : Nat) (Option.some Jvm.ClassFile.FieldType.boolean)).before args0 about1 = true := code_word (m := ⟨12, 3⟩) (meth := k12m3) (c := k12c3) (by decide +kernel) rfl rfl rfl (by decide +kernel)
set_option maxRecDepth 65536 in
theorem w_c9 : (Jvm.Cond.code ({ cls := "com/example/feedwright/feedwright/Fault", name := "rule", desc := "()Lcom/example/feedwright/feedwright/Rule;" } : Jvm.MethodName) prog_9_method_3_code (1 : Nat) (Option.some (Jvm.ClassFile.FieldType.object "com/example/feedwright/feedwright/Rule"))).before args0 about1 = true := code_word (m := ⟨12, 2⟩) (meth := k12m2) (c := k12c2) (by decide +kernel) rfl rfl rfl (by decide +kernel)
set_option maxRecDepth 65536 in
theorem w_c10 : (Jvm.Cond.code ({ cls := "com/example/feedwright/feedwright/Fault", name := "field", desc := "()Ljava/lang/String;" } : Jvm.MethodName) prog_9_method_2_code (1 : Nat) (Option.some (Jvm.ClassFile.FieldType.object "java/lang/String"))).before args0 about1 = true := code_word (m := ⟨12, 1⟩) (meth := k12m1) (c := k12c1) (by decide +kernel) rfl rfl rfl (by decide +kernel)
set_option maxRecDepth 65536 in
theorem w_c11 : (Jvm.Cond.code ({ cls := "com/example/feedwright/feedwright/Fault", name := "message", desc := "()Ljava/lang/String;" } : Jvm.MethodName) prog_9_method_5_code (1 : Nat) (Option.some (Jvm.ClassFile.FieldType.object "java/lang/String"))).before args0 about1 = true := code_word (m := ⟨12, 4⟩) (meth := k12m4) (c := k12c4) (by decide +kernel) rfl rfl rfl (by decide +kernel)
def codes1 : List Jvm.Cond := [Jvm.Cond.code x code maxLocals ret, Jvm.Cond.code ({ cls := "com/example/feedwright/feedwright/FaultRefusesPinLaw", name := "ruleAt", desc := "(I)Lcom/example/feedwright/feedwright/Rule;" } : Jvm.MethodName) method_2_code (1 : Nat) (Option.some (Jvm.ClassFile.FieldType.object "com/example/feedwright/feedwright/Rule")), Jvm.Cond.code ({ cls := "java/lang/String", name := "valueOf", desc := "(C)Ljava/lang/String;" } : Jvm.MethodName) jdk_42_method_139_code (1 : Nat) (Option.some (Jvm.ClassFile.FieldType.object "java/lang/String")), Jvm.Cond.code ({ cls := "java/lang/StringLatin1", name := "canEncode", desc := "(C)Z" } : Jvm.MethodName) jdk_43_method_3_code (1 : Nat) (Option.some Jvm.ClassFile.FieldType.boolean), Jvm.Cond.code ({ cls := "java/lang/StringLatin1", name := "toBytes", desc := "(C)[B" } : Jvm.MethodName) jdk_43_method_46_code (1 : Nat) (Option.some (Jvm.ClassFile.FieldType.array Jvm.ClassFile.FieldType.byte)), Jvm.Cond.code ({ cls := "java/lang/String", name := "<init>", desc := "([BB)V" } : Jvm.MethodName) jdk_42_method_151_code (3 : Nat) (Option.none : Option Jvm.ClassFile.FieldType), Jvm.Cond.code ({ cls := "java/lang/Object", name := "<init>", desc := "()V" } : Jvm.MethodName) object_method_1_code (1 : Nat) (Option.none : Option Jvm.ClassFile.FieldType), Jvm.Cond.code ({ cls := "com/example/feedwright/feedwright/Fault", name := "<init>", desc := "(Ljava/lang/String;Lcom/example/feedwright/feedwright/Rule;Lcom/example/feedwright/feedwright/Level;Ljava/lang/String;)V" } : Jvm.MethodName) prog_9_method_1_code (5 : Nat) (Option.none : Option Jvm.ClassFile.FieldType), Jvm.Cond.code ({ cls := "com/example/feedwright/feedwright/Fault", name := "refuses", desc := "()Z" } : Jvm.MethodName) prog_9_method_4_code (1 : Nat) (Option.some Jvm.ClassFile.FieldType.boolean), Jvm.Cond.code ({ cls := "com/example/feedwright/feedwright/Fault", name := "rule", desc := "()Lcom/example/feedwright/feedwright/Rule;" } : Jvm.MethodName) prog_9_method_3_code (1 : Nat) (Option.some (Jvm.ClassFile.FieldType.object "com/example/feedwright/feedwright/Rule")), Jvm.Cond.code ({ cls := "com/example/feedwright/feedwright/Fault", name := "field", desc := "()Ljava/lang/String;" } : Jvm.MethodName) prog_9_method_2_code (1 : Nat) (Option.some (Jvm.ClassFile.FieldType.object "java/lang/String")), Jvm.Cond.code ({ cls := "com/example/feedwright/feedwright/Fault", name := "message", desc := "()Ljava/lang/String;" } : Jvm.MethodName) prog_9_method_5_code (1 : Nat) (Option.some (Jvm.ClassFile.FieldType.object "java/lang/String"))]
set_option maxRecDepth 65536 in
theorem codes_eq : words1.filter isCode = codes1 := rfl
theorem w_codes : ∀ c ∈ words1.filter isCode, c.before args0 about1 = true := by
  rw [codes_eq]
  intro c hc
  simp only [codes1, List.mem_cons, List.not_mem_nil, or_false] at hc
  rcases hc with rfl | rfl | rfl | rfl | rfl | rfl | rfl | rfl | rfl | rfl | rfl | rfl
  · exact w_c0
  · exact w_c1
  · exact w_c2
  · exact w_c3
  · exact w_c4
  · exact w_c5
  · exact w_c6
  · exact w_c7
  · exact w_c8
  · exact w_c9
  · exact w_c10
  · exact w_c11
set_option maxRecDepth 65536 in
theorem w_t1 : (words1.take 24).all (fun c => isCode c || c.before args0 about1) = true := by decide +kernel
set_option maxRecDepth 65536 in
theorem w_t2 : ((words1.drop 24).take 24).all (fun c => isCode c || c.before args0 about1) = true := by decide +kernel
set_option maxRecDepth 65536 in
theorem w_t3 : (((words1.drop 24).drop 24).take 24).all (fun c => isCode c || c.before args0 about1) = true := by decide +kernel
set_option maxRecDepth 65536 in
theorem w_t4 : ((((words1.drop 24).drop 24).drop 24).take 24).all (fun c => isCode c || c.before args0 about1) = true := by decide +kernel
set_option maxRecDepth 65536 in
theorem w_t5 : ((((words1.drop 24).drop 24).drop 24).drop 24).all (fun c => isCode c || c.before args0 about1) = true := by decide +kernel
theorem w_tables : (allAtoms (Jvm.Cond.code x code maxLocals ret :: tables_1)).before args0 about1 = true := by
  rw [allAtoms_all]
  show words1.all (fun c => c.before args0 about1) = true
  refine all_split ?_ w_codes
  rw [← List.take_append_drop 24 words1, List.all_append, w_t1, ← List.take_append_drop 24 (words1.drop 24), List.all_append, w_t2, ← List.take_append_drop 24 ((words1.drop 24).drop 24), List.all_append, w_t3, ← List.take_append_drop 24 (((words1.drop 24).drop 24).drop 24), List.all_append, w_t4, w_t5]
  rfl
set_option maxRecDepth 65536 in
theorem w_rest : rest_1_c.before args0 about1 = true := by decide +kernel
set_option maxRecDepth 65536 in
theorem w_case : (Jvm.Cond.and given_1 narrow_1).before args0 about1 = true := by decide +kernel
theorem w_applies : (headSpec (Jvm.Cond.code x code maxLocals ret :: tables_1) room_1).applies x e0.platform about1 = true :=
  (Spec.applies_iff w_frames).mpr ⟨w_running, w_runnable, w_alone, w_named, w_hears, w_ripe, w_room, w_tables⟩
theorem atStart : AtStart classFile x code maxLocals ret World_1 tables_1 room_1 Calls_1 rest_1 Pre_1 launch0 p0 e0 about1 theMethod args0 below0 :=
  ⟨lists_1, trivial, launch0.admits_env _ _ _, launch0.least_env, fairChoices_fair.cas, fairChoices_fair.clock, w_frames, w_args, w_heap, w_applies, trivial, w_rest, w_case⟩
end start1
theorem witness_1 : WitnessClaimed_1 := ⟨start1.p0, start1.e0, start1.about1, start1.theMethod, start1.args0, start1.below0, start1.atStart⟩
end Jvm.Pilot.@@N@@
