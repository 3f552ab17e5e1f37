import JvmDerived
import JvmDerived.Pilot.@@N@@Statement
import JvmDerived.Pilot.@@N@@Code
set_option linter.unusedVariables false
set_option linter.unusedSimpArgs false
namespace Jvm.RoadKit
open Sem ClassFile Op Lib Jvm.Stand Jvm.Free Jvm.LawKit
section New
variable {p : Program} {l : Launch} {e : Env} {R : Room} {s : State} {m : MethodId} {args : Array Value} {below : List Frame} {meth : Method} {c : Code} {T : State} {locs : List Loc} {cells slots : Nat}
theorem retI (X : Stand p l e R s m args below meth c T locs cells slots) (hx : p.tables.exec = Jvm.exec) {pc : Nat} {Ls : Array Slot} {z : Int32} {rest : List Value} (hret : meth.sig.returnType = some .int) (hd : decode c.code pc = .ok (.ireturn, 1)) {fs : List Frame}
    (hl : ∀ (f : JFrame) (acts : List Action), f.method = m → f.locked = none → f.entered = [] → (doReturn e (T.setTop f) acts (some (.int z))).1 = T.setFrames fs) : Steps p.tables e below (T.setTop (mkF m pc Ls (.int z :: rest))) (T.setFrames fs) := by
  have hm' : T.vm.method? m = some meth := X.method'
  have hn : narrow .int (.int z) = .int z := rfl
  show Steps p.tables e below (T.setTop { method := m, pc := pc, locals := Ls, stack := _ :: rest, locked := none }) _
  jvm_step X.here [X.here.top, hx, hd, hm', hret, hn]
  first | (intro acts; rw [hl _ acts rfl rfl rfl]) | rw [hl _ _ rfl rfl rfl]
  exact Steps.refl _
end New
end Jvm.RoadKit
namespace Jvm.Pilot.@@N@@
open Jvm Jvm.ClassFile Sem Op Lib Jvm.Free Jvm.Stand Jvm.LawKit Jvm.RoadKit Bundle Jvm.Pilot.@@N@@.Jvm.D
theorem ww {a0 : Array Value} {Z : State} (hw : ∀ d ∈ tables_1, d.before a0 Z = true) (i : Nat) {d : Jvm.Cond} (h : tables_1[i]? = some d) : d.before a0 Z = true := hw d (List.mem_of_getElem? h)
abbrev vi (x : Int32) : Slot := .val (.int x)
abbrev vj (x : Int64) : Slot := .val (.long x)
abbrev vr (x : Addr) : Slot := .val (.ref x)
abbrev vn : Slot := .val .null
abbrev vu : Slot := .unset
abbrev xi (x : Int32) : Value := .int x
abbrev xj (x : Int64) : Value := .long x
abbrev xr (x : Addr) : Value := .ref x
abbrev own_S (p : Program) (e : Env) (below : List Frame) (T : State) (g : JFrame) (t : State) : Prop := Steps p.tables e below (T.setTop g) t
/-- a body's contract: at these arguments and this heap it returns as Q says -/
abbrev own_Met (l : Launch) (Z : State) (y : MethodName) (bytes : ByteArray) (maxL : Nat) (rt : Option FieldType) (rm : Room) (as' : Array Value) (h0 : Heap) (Qy : Option Value → Heap → List Loc → Prop) : Prop :=
  ∀ ws : List Jvm.Cond, MetFree l y (head1 (Jvm.Cond.code y bytes maxL rt :: ws) rm) (fun a U => a = as' ∧ Z.Warmed39 U.vm ∧ U.heap = h0) (fun _ _ _ _ _ => True) (fun _ U o U' => ∃ v L, o = .returned v ∧ Qy v U'.heap L ∧ FrameEnd U o U' L rm.cells rm.slots)
/-- it returns r and leaves the heap -/
def own_QR (r : Option Value) (h0 : Heap) (n0 : Nat) (v : Option Value) (h : Heap) (L : List Loc) : Prop := v = r ∧ Fr n0 L ∧ h = h0
/-- it returns r and writes nothing that stood at the start -/
def own_QL (r : Option Value) (n0 : Nat) (v : Option Value) (h : Heap) (L : List Loc) : Prop := v = r ∧ Fr n0 L
theorem own_le {Z : State} {n0 : Nat} {h : Heap} (O : Old Z n0 h) : n0 ≤ h.size := O.1 ▸ O.2.1
theorem own_fresh {Z : State} {n0 : Nat} {h : Heap} {a : Addr} (O : Old Z n0 h) (g : a = h.size) : n0 ≤ a := g ▸ own_le O
theorem own_fld {s : State} {args : Array Value} {t : Term} {C n d : String} {a : Addr} {k : Int32} (ht : t.eval args s none [] s = some (.ref a)) (h : (Jvm.Cond.eq (.field t C n d) (.int k)).value args s none s [] = some true) : Fld s s.heap a C n d (.int k) := by
  refine Fld.start ?_
  simp only [Cond.value, Term.eval, ht] at h
  cases hv : s.fieldOf? a C n d with
  | none => simp [hv] at h
  | some v => cases v <;> simp [hv] at h; subst h; rfl
theorem own_fldN {s : State} {args : Array Value} {t : Term} {C n d : String} {a : Addr} (ht : t.eval args s none [] s = some (.ref a)) (h : (Jvm.Cond.eq (.field t C n d) .null).value args s none s [] = some true) : Fld s s.heap a C n d .null :=
  Fld.start ((fld_at ht).symm.trans (null_v h))
theorem own_fldX {s : State} {args : Array Value} {t : Term} {C n d K : String} {a : Addr} (ht : t.eval args s none [] s = some (.ref a)) (h : (Jvm.Cond.exactly (.field t C n d) K).value args s none s [] = some true) : ∃ b, Fld s s.heap a C n d (.ref b) ∧ Exa s s.heap b K := by
  obtain ⟨b, eb⟩ := exa_v h
  exact ⟨b, Fld.start ((fld_at ht).symm.trans eb), Exa.start eb h⟩
theorem own_len {s : State} {args : Array Value} {t : Term} {a : Addr} {cl : Cell} {ty : FieldType} {k : Int32} {k' : Nat} (ht : t.eval args s none [] s = some (.ref a)) (A : Arr s s.heap a cl ty) (h : (Jvm.Cond.eq (.length t) (.int k)).value args s none s [] = some true) (hk : k.toInt = k') : cl.slots.size = k' := by
  obtain ⟨v, hv⟩ : ∃ v, (Term.length t).eval args s none [] s = some v := by
    cases hq : (Term.length t).eval args s none [] s with
    | none => simp [Cond.value, hq] at h
    | some v => exact ⟨v, rfl⟩
  have ha : s.arrayAt? a = some cl := Arr.fin (Vm.Alike.refl _) A
  by_cases hl : cl.slots.size < 2 ^ 31
  · rw [len_f ht ha hl] at hv
    have h2 := len_f ht ha hl
    have h3 : cl.slots.size.toInt32 = k := gotT (Cond.eq_ints h2 (Term.int_eval k)) h
    have h4 := len_toInt hl
    rw [h3, hk] at h4
    omega
  · simp [Term.eval, ht, ha, hl] at hv
theorem own_pack {p : Program} {l : Launch} {e : Env} {R : Room} {s : State} {m : MethodId} {args : Array Value} {below : List Frame} {meth : Method} {c : Code} {T : State} {locs : List Loc} {cells slots n0 : Nat} (X : Stand p l e R s m args below meth c T locs cells slots) (N : Fr n0 locs) : ∃ L, Stand p l e R s m args below meth c T L cells slots ∧ Fr n0 L := ⟨_, X, N⟩
theorem own_ref {x y : Addr} (h : x ≠ y) : decide ((Value.ref x : Value) = .ref y) = false := by simp [h]
theorem own_mask (x : Int32) : 0 ≤ (x &&& (2147483647 : Int32)).toInt := by
  have := c_mask x 2147483647 31 (by decide) (by decide); omega
def own_St (Z : State) (u0 u1 u2 u3 u4 u5 u6 u7 u8 u9 u10 u11 : Addr) : Prop := (Sta Z Z.heap "com/example/stackwright/stackwright/engine/Step" "UNTAP" "Lcom/example/stackwright/stackwright/engine/Step;" (.ref u0)) ∧ (Exa Z Z.heap u0 "com/example/stackwright/stackwright/engine/Step") ∧ (Sta Z Z.heap "com/example/stackwright/stackwright/engine/Step" "UPKEEP" "Lcom/example/stackwright/stackwright/engine/Step;" (.ref u1)) ∧ (Exa Z Z.heap u1 "com/example/stackwright/stackwright/engine/Step") ∧ (Sta Z Z.heap "com/example/stackwright/stackwright/engine/Step" "DRAW" "Lcom/example/stackwright/stackwright/engine/Step;" (.ref u2)) ∧ (Exa Z Z.heap u2 "com/example/stackwright/stackwright/engine/Step") ∧ (Sta Z Z.heap "com/example/stackwright/stackwright/engine/Step" "MAIN1" "Lcom/example/stackwright/stackwright/engine/Step;" (.ref u3)) ∧ (Exa Z Z.heap u3 "com/example/stackwright/stackwright/engine/Step") ∧ (Sta Z Z.heap "com/example/stackwright/stackwright/engine/Step" "BEGINNING_OF_COMBAT" "Lcom/example/stackwright/stackwright/engine/Step;" (.ref u4)) ∧ (Exa Z Z.heap u4 "com/example/stackwright/stackwright/engine/Step") ∧ (Sta Z Z.heap "com/example/stackwright/stackwright/engine/Step" "DECLARE_ATTACKERS" "Lcom/example/stackwright/stackwright/engine/Step;" (.ref u5)) ∧ (Exa Z Z.heap u5 "com/example/stackwright/stackwright/engine/Step") ∧ (Sta Z Z.heap "com/example/stackwright/stackwright/engine/Step" "DECLARE_BLOCKERS" "Lcom/example/stackwright/stackwright/engine/Step;" (.ref u6)) ∧ (Exa Z Z.heap u6 "com/example/stackwright/stackwright/engine/Step") ∧ (Sta Z Z.heap "com/example/stackwright/stackwright/engine/Step" "COMBAT_DAMAGE" "Lcom/example/stackwright/stackwright/engine/Step;" (.ref u7)) ∧ (Exa Z Z.heap u7 "com/example/stackwright/stackwright/engine/Step") ∧ (Sta Z Z.heap "com/example/stackwright/stackwright/engine/Step" "END_OF_COMBAT" "Lcom/example/stackwright/stackwright/engine/Step;" (.ref u8)) ∧ (Exa Z Z.heap u8 "com/example/stackwright/stackwright/engine/Step") ∧ (Sta Z Z.heap "com/example/stackwright/stackwright/engine/Step" "MAIN2" "Lcom/example/stackwright/stackwright/engine/Step;" (.ref u9)) ∧ (Exa Z Z.heap u9 "com/example/stackwright/stackwright/engine/Step") ∧ (Sta Z Z.heap "com/example/stackwright/stackwright/engine/Step" "END" "Lcom/example/stackwright/stackwright/engine/Step;" (.ref u10)) ∧ (Exa Z Z.heap u10 "com/example/stackwright/stackwright/engine/Step") ∧ (Sta Z Z.heap "com/example/stackwright/stackwright/engine/Step" "CLEANUP" "Lcom/example/stackwright/stackwright/engine/Step;" (.ref u11)) ∧ (Exa Z Z.heap u11 "com/example/stackwright/stackwright/engine/Step") ∧ (Fld Z Z.heap u3 "java/lang/Enum" "ordinal" "I" (.int (3 : Int32))) ∧ (Fld Z Z.heap u0 "java/lang/Enum" "ordinal" "I" (.int (0 : Int32))) ∧ (Fld Z Z.heap u11 "java/lang/Enum" "ordinal" "I" (.int (11 : Int32))) ∧ (Fld Z Z.heap u2 "java/lang/Enum" "ordinal" "I" (.int (2 : Int32))) ∧ (Fld Z Z.heap u7 "java/lang/Enum" "ordinal" "I" (.int (7 : Int32))) ∧ (Fld Z Z.heap u4 "java/lang/Enum" "ordinal" "I" (.int (4 : Int32))) ∧ (Fld Z Z.heap u8 "java/lang/Enum" "ordinal" "I" (.int (8 : Int32))) ∧ (Fld Z Z.heap u1 "java/lang/Enum" "ordinal" "I" (.int (1 : Int32))) ∧ (Fld Z Z.heap u10 "java/lang/Enum" "ordinal" "I" (.int (10 : Int32))) ∧ (Fld Z Z.heap u9 "java/lang/Enum" "ordinal" "I" (.int (9 : Int32))) ∧ (Fld Z Z.heap u6 "java/lang/Enum" "ordinal" "I" (.int (6 : Int32))) ∧ (Fld Z Z.heap u5 "java/lang/Enum" "ordinal" "I" (.int (5 : Int32)))
theorem own_S_u0 {Z : State} {u0 u1 u2 u3 u4 u5 u6 u7 u8 u9 u10 u11 : Addr} (G : own_St Z u0 u1 u2 u3 u4 u5 u6 u7 u8 u9 u10 u11) : Sta Z Z.heap "com/example/stackwright/stackwright/engine/Step" "UNTAP" "Lcom/example/stackwright/stackwright/engine/Step;" (.ref u0) := G.1
theorem own_X_u0 {Z : State} {u0 u1 u2 u3 u4 u5 u6 u7 u8 u9 u10 u11 : Addr} (G : own_St Z u0 u1 u2 u3 u4 u5 u6 u7 u8 u9 u10 u11) : Exa Z Z.heap u0 "com/example/stackwright/stackwright/engine/Step" := G.2.1
theorem own_S_u1 {Z : State} {u0 u1 u2 u3 u4 u5 u6 u7 u8 u9 u10 u11 : Addr} (G : own_St Z u0 u1 u2 u3 u4 u5 u6 u7 u8 u9 u10 u11) : Sta Z Z.heap "com/example/stackwright/stackwright/engine/Step" "UPKEEP" "Lcom/example/stackwright/stackwright/engine/Step;" (.ref u1) := G.2.2.1
theorem own_X_u1 {Z : State} {u0 u1 u2 u3 u4 u5 u6 u7 u8 u9 u10 u11 : Addr} (G : own_St Z u0 u1 u2 u3 u4 u5 u6 u7 u8 u9 u10 u11) : Exa Z Z.heap u1 "com/example/stackwright/stackwright/engine/Step" := G.2.2.2.1
theorem own_S_u2 {Z : State} {u0 u1 u2 u3 u4 u5 u6 u7 u8 u9 u10 u11 : Addr} (G : own_St Z u0 u1 u2 u3 u4 u5 u6 u7 u8 u9 u10 u11) : Sta Z Z.heap "com/example/stackwright/stackwright/engine/Step" "DRAW" "Lcom/example/stackwright/stackwright/engine/Step;" (.ref u2) := G.2.2.2.2.1
theorem own_X_u2 {Z : State} {u0 u1 u2 u3 u4 u5 u6 u7 u8 u9 u10 u11 : Addr} (G : own_St Z u0 u1 u2 u3 u4 u5 u6 u7 u8 u9 u10 u11) : Exa Z Z.heap u2 "com/example/stackwright/stackwright/engine/Step" := G.2.2.2.2.2.1
theorem own_S_u3 {Z : State} {u0 u1 u2 u3 u4 u5 u6 u7 u8 u9 u10 u11 : Addr} (G : own_St Z u0 u1 u2 u3 u4 u5 u6 u7 u8 u9 u10 u11) : Sta Z Z.heap "com/example/stackwright/stackwright/engine/Step" "MAIN1" "Lcom/example/stackwright/stackwright/engine/Step;" (.ref u3) := G.2.2.2.2.2.2.1
theorem own_X_u3 {Z : State} {u0 u1 u2 u3 u4 u5 u6 u7 u8 u9 u10 u11 : Addr} (G : own_St Z u0 u1 u2 u3 u4 u5 u6 u7 u8 u9 u10 u11) : Exa Z Z.heap u3 "com/example/stackwright/stackwright/engine/Step" := G.2.2.2.2.2.2.2.1
theorem own_S_u4 {Z : State} {u0 u1 u2 u3 u4 u5 u6 u7 u8 u9 u10 u11 : Addr} (G : own_St Z u0 u1 u2 u3 u4 u5 u6 u7 u8 u9 u10 u11) : Sta Z Z.heap "com/example/stackwright/stackwright/engine/Step" "BEGINNING_OF_COMBAT" "Lcom/example/stackwright/stackwright/engine/Step;" (.ref u4) := G.2.2.2.2.2.2.2.2.1
theorem own_X_u4 {Z : State} {u0 u1 u2 u3 u4 u5 u6 u7 u8 u9 u10 u11 : Addr} (G : own_St Z u0 u1 u2 u3 u4 u5 u6 u7 u8 u9 u10 u11) : Exa Z Z.heap u4 "com/example/stackwright/stackwright/engine/Step" := G.2.2.2.2.2.2.2.2.2.1
theorem own_S_u5 {Z : State} {u0 u1 u2 u3 u4 u5 u6 u7 u8 u9 u10 u11 : Addr} (G : own_St Z u0 u1 u2 u3 u4 u5 u6 u7 u8 u9 u10 u11) : Sta Z Z.heap "com/example/stackwright/stackwright/engine/Step" "DECLARE_ATTACKERS" "Lcom/example/stackwright/stackwright/engine/Step;" (.ref u5) := G.2.2.2.2.2.2.2.2.2.2.1
theorem own_X_u5 {Z : State} {u0 u1 u2 u3 u4 u5 u6 u7 u8 u9 u10 u11 : Addr} (G : own_St Z u0 u1 u2 u3 u4 u5 u6 u7 u8 u9 u10 u11) : Exa Z Z.heap u5 "com/example/stackwright/stackwright/engine/Step" := G.2.2.2.2.2.2.2.2.2.2.2.1
theorem own_S_u6 {Z : State} {u0 u1 u2 u3 u4 u5 u6 u7 u8 u9 u10 u11 : Addr} (G : own_St Z u0 u1 u2 u3 u4 u5 u6 u7 u8 u9 u10 u11) : Sta Z Z.heap "com/example/stackwright/stackwright/engine/Step" "DECLARE_BLOCKERS" "Lcom/example/stackwright/stackwright/engine/Step;" (.ref u6) := G.2.2.2.2.2.2.2.2.2.2.2.2.1
theorem own_X_u6 {Z : State} {u0 u1 u2 u3 u4 u5 u6 u7 u8 u9 u10 u11 : Addr} (G : own_St Z u0 u1 u2 u3 u4 u5 u6 u7 u8 u9 u10 u11) : Exa Z Z.heap u6 "com/example/stackwright/stackwright/engine/Step" := G.2.2.2.2.2.2.2.2.2.2.2.2.2.1
theorem own_S_u7 {Z : State} {u0 u1 u2 u3 u4 u5 u6 u7 u8 u9 u10 u11 : Addr} (G : own_St Z u0 u1 u2 u3 u4 u5 u6 u7 u8 u9 u10 u11) : Sta Z Z.heap "com/example/stackwright/stackwright/engine/Step" "COMBAT_DAMAGE" "Lcom/example/stackwright/stackwright/engine/Step;" (.ref u7) := G.2.2.2.2.2.2.2.2.2.2.2.2.2.2.1
theorem own_X_u7 {Z : State} {u0 u1 u2 u3 u4 u5 u6 u7 u8 u9 u10 u11 : Addr} (G : own_St Z u0 u1 u2 u3 u4 u5 u6 u7 u8 u9 u10 u11) : Exa Z Z.heap u7 "com/example/stackwright/stackwright/engine/Step" := G.2.2.2.2.2.2.2.2.2.2.2.2.2.2.2.1
theorem own_S_u8 {Z : State} {u0 u1 u2 u3 u4 u5 u6 u7 u8 u9 u10 u11 : Addr} (G : own_St Z u0 u1 u2 u3 u4 u5 u6 u7 u8 u9 u10 u11) : Sta Z Z.heap "com/example/stackwright/stackwright/engine/Step" "END_OF_COMBAT" "Lcom/example/stackwright/stackwright/engine/Step;" (.ref u8) := G.2.2.2.2.2.2.2.2.2.2.2.2.2.2.2.2.1
theorem own_X_u8 {Z : State} {u0 u1 u2 u3 u4 u5 u6 u7 u8 u9 u10 u11 : Addr} (G : own_St Z u0 u1 u2 u3 u4 u5 u6 u7 u8 u9 u10 u11) : Exa Z Z.heap u8 "com/example/stackwright/stackwright/engine/Step" := G.2.2.2.2.2.2.2.2.2.2.2.2.2.2.2.2.2.1
theorem own_S_u9 {Z : State} {u0 u1 u2 u3 u4 u5 u6 u7 u8 u9 u10 u11 : Addr} (G : own_St Z u0 u1 u2 u3 u4 u5 u6 u7 u8 u9 u10 u11) : Sta Z Z.heap "com/example/stackwright/stackwright/engine/Step" "MAIN2" "Lcom/example/stackwright/stackwright/engine/Step;" (.ref u9) := G.2.2.2.2.2.2.2.2.2.2.2.2.2.2.2.2.2.2.1
theorem own_X_u9 {Z : State} {u0 u1 u2 u3 u4 u5 u6 u7 u8 u9 u10 u11 : Addr} (G : own_St Z u0 u1 u2 u3 u4 u5 u6 u7 u8 u9 u10 u11) : Exa Z Z.heap u9 "com/example/stackwright/stackwright/engine/Step" := G.2.2.2.2.2.2.2.2.2.2.2.2.2.2.2.2.2.2.2.1
theorem own_S_u10 {Z : State} {u0 u1 u2 u3 u4 u5 u6 u7 u8 u9 u10 u11 : Addr} (G : own_St Z u0 u1 u2 u3 u4 u5 u6 u7 u8 u9 u10 u11) : Sta Z Z.heap "com/example/stackwright/stackwright/engine/Step" "END" "Lcom/example/stackwright/stackwright/engine/Step;" (.ref u10) := G.2.2.2.2.2.2.2.2.2.2.2.2.2.2.2.2.2.2.2.2.1
theorem own_X_u10 {Z : State} {u0 u1 u2 u3 u4 u5 u6 u7 u8 u9 u10 u11 : Addr} (G : own_St Z u0 u1 u2 u3 u4 u5 u6 u7 u8 u9 u10 u11) : Exa Z Z.heap u10 "com/example/stackwright/stackwright/engine/Step" := G.2.2.2.2.2.2.2.2.2.2.2.2.2.2.2.2.2.2.2.2.2.1
theorem own_S_u11 {Z : State} {u0 u1 u2 u3 u4 u5 u6 u7 u8 u9 u10 u11 : Addr} (G : own_St Z u0 u1 u2 u3 u4 u5 u6 u7 u8 u9 u10 u11) : Sta Z Z.heap "com/example/stackwright/stackwright/engine/Step" "CLEANUP" "Lcom/example/stackwright/stackwright/engine/Step;" (.ref u11) := G.2.2.2.2.2.2.2.2.2.2.2.2.2.2.2.2.2.2.2.2.2.2.1
theorem own_X_u11 {Z : State} {u0 u1 u2 u3 u4 u5 u6 u7 u8 u9 u10 u11 : Addr} (G : own_St Z u0 u1 u2 u3 u4 u5 u6 u7 u8 u9 u10 u11) : Exa Z Z.heap u11 "com/example/stackwright/stackwright/engine/Step" := G.2.2.2.2.2.2.2.2.2.2.2.2.2.2.2.2.2.2.2.2.2.2.2.1
theorem own_F_u3_ordinal {Z : State} {u0 u1 u2 u3 u4 u5 u6 u7 u8 u9 u10 u11 : Addr} (G : own_St Z u0 u1 u2 u3 u4 u5 u6 u7 u8 u9 u10 u11) : Fld Z Z.heap u3 "java/lang/Enum" "ordinal" "I" (.int (3 : Int32)) := G.2.2.2.2.2.2.2.2.2.2.2.2.2.2.2.2.2.2.2.2.2.2.2.2.1
theorem own_F_u0_ordinal {Z : State} {u0 u1 u2 u3 u4 u5 u6 u7 u8 u9 u10 u11 : Addr} (G : own_St Z u0 u1 u2 u3 u4 u5 u6 u7 u8 u9 u10 u11) : Fld Z Z.heap u0 "java/lang/Enum" "ordinal" "I" (.int (0 : Int32)) := G.2.2.2.2.2.2.2.2.2.2.2.2.2.2.2.2.2.2.2.2.2.2.2.2.2.1
theorem own_F_u11_ordinal {Z : State} {u0 u1 u2 u3 u4 u5 u6 u7 u8 u9 u10 u11 : Addr} (G : own_St Z u0 u1 u2 u3 u4 u5 u6 u7 u8 u9 u10 u11) : Fld Z Z.heap u11 "java/lang/Enum" "ordinal" "I" (.int (11 : Int32)) := G.2.2.2.2.2.2.2.2.2.2.2.2.2.2.2.2.2.2.2.2.2.2.2.2.2.2.1
theorem own_F_u2_ordinal {Z : State} {u0 u1 u2 u3 u4 u5 u6 u7 u8 u9 u10 u11 : Addr} (G : own_St Z u0 u1 u2 u3 u4 u5 u6 u7 u8 u9 u10 u11) : Fld Z Z.heap u2 "java/lang/Enum" "ordinal" "I" (.int (2 : Int32)) := G.2.2.2.2.2.2.2.2.2.2.2.2.2.2.2.2.2.2.2.2.2.2.2.2.2.2.2.1
theorem own_F_u7_ordinal {Z : State} {u0 u1 u2 u3 u4 u5 u6 u7 u8 u9 u10 u11 : Addr} (G : own_St Z u0 u1 u2 u3 u4 u5 u6 u7 u8 u9 u10 u11) : Fld Z Z.heap u7 "java/lang/Enum" "ordinal" "I" (.int (7 : Int32)) := G.2.2.2.2.2.2.2.2.2.2.2.2.2.2.2.2.2.2.2.2.2.2.2.2.2.2.2.2.1
theorem own_F_u4_ordinal {Z : State} {u0 u1 u2 u3 u4 u5 u6 u7 u8 u9 u10 u11 : Addr} (G : own_St Z u0 u1 u2 u3 u4 u5 u6 u7 u8 u9 u10 u11) : Fld Z Z.heap u4 "java/lang/Enum" "ordinal" "I" (.int (4 : Int32)) := G.2.2.2.2.2.2.2.2.2.2.2.2.2.2.2.2.2.2.2.2.2.2.2.2.2.2.2.2.2.1
theorem own_F_u8_ordinal {Z : State} {u0 u1 u2 u3 u4 u5 u6 u7 u8 u9 u10 u11 : Addr} (G : own_St Z u0 u1 u2 u3 u4 u5 u6 u7 u8 u9 u10 u11) : Fld Z Z.heap u8 "java/lang/Enum" "ordinal" "I" (.int (8 : Int32)) := G.2.2.2.2.2.2.2.2.2.2.2.2.2.2.2.2.2.2.2.2.2.2.2.2.2.2.2.2.2.2.1
theorem own_F_u1_ordinal {Z : State} {u0 u1 u2 u3 u4 u5 u6 u7 u8 u9 u10 u11 : Addr} (G : own_St Z u0 u1 u2 u3 u4 u5 u6 u7 u8 u9 u10 u11) : Fld Z Z.heap u1 "java/lang/Enum" "ordinal" "I" (.int (1 : Int32)) := G.2.2.2.2.2.2.2.2.2.2.2.2.2.2.2.2.2.2.2.2.2.2.2.2.2.2.2.2.2.2.2.1
theorem own_F_u10_ordinal {Z : State} {u0 u1 u2 u3 u4 u5 u6 u7 u8 u9 u10 u11 : Addr} (G : own_St Z u0 u1 u2 u3 u4 u5 u6 u7 u8 u9 u10 u11) : Fld Z Z.heap u10 "java/lang/Enum" "ordinal" "I" (.int (10 : Int32)) := G.2.2.2.2.2.2.2.2.2.2.2.2.2.2.2.2.2.2.2.2.2.2.2.2.2.2.2.2.2.2.2.2.1
theorem own_F_u9_ordinal {Z : State} {u0 u1 u2 u3 u4 u5 u6 u7 u8 u9 u10 u11 : Addr} (G : own_St Z u0 u1 u2 u3 u4 u5 u6 u7 u8 u9 u10 u11) : Fld Z Z.heap u9 "java/lang/Enum" "ordinal" "I" (.int (9 : Int32)) := G.2.2.2.2.2.2.2.2.2.2.2.2.2.2.2.2.2.2.2.2.2.2.2.2.2.2.2.2.2.2.2.2.2.1
theorem own_F_u6_ordinal {Z : State} {u0 u1 u2 u3 u4 u5 u6 u7 u8 u9 u10 u11 : Addr} (G : own_St Z u0 u1 u2 u3 u4 u5 u6 u7 u8 u9 u10 u11) : Fld Z Z.heap u6 "java/lang/Enum" "ordinal" "I" (.int (6 : Int32)) := G.2.2.2.2.2.2.2.2.2.2.2.2.2.2.2.2.2.2.2.2.2.2.2.2.2.2.2.2.2.2.2.2.2.2.1
theorem own_F_u5_ordinal {Z : State} {u0 u1 u2 u3 u4 u5 u6 u7 u8 u9 u10 u11 : Addr} (G : own_St Z u0 u1 u2 u3 u4 u5 u6 u7 u8 u9 u10 u11) : Fld Z Z.heap u5 "java/lang/Enum" "ordinal" "I" (.int (5 : Int32)) := G.2.2.2.2.2.2.2.2.2.2.2.2.2.2.2.2.2.2.2.2.2.2.2.2.2.2.2.2.2.2.2.2.2.2.2
theorem own_rem12 (x : Int32) : ((x &&& (2147483647 : Int32)) - ((x &&& (2147483647 : Int32)) / (12 : Int32)) * (12 : Int32)) = (0 : Int32) ∨ ((x &&& (2147483647 : Int32)) - ((x &&& (2147483647 : Int32)) / (12 : Int32)) * (12 : Int32)) = (1 : Int32) ∨ ((x &&& (2147483647 : Int32)) - ((x &&& (2147483647 : Int32)) / (12 : Int32)) * (12 : Int32)) = (2 : Int32) ∨ ((x &&& (2147483647 : Int32)) - ((x &&& (2147483647 : Int32)) / (12 : Int32)) * (12 : Int32)) = (3 : Int32) ∨ ((x &&& (2147483647 : Int32)) - ((x &&& (2147483647 : Int32)) / (12 : Int32)) * (12 : Int32)) = (4 : Int32) ∨ ((x &&& (2147483647 : Int32)) - ((x &&& (2147483647 : Int32)) / (12 : Int32)) * (12 : Int32)) = (5 : Int32) ∨ ((x &&& (2147483647 : Int32)) - ((x &&& (2147483647 : Int32)) / (12 : Int32)) * (12 : Int32)) = (6 : Int32) ∨ ((x &&& (2147483647 : Int32)) - ((x &&& (2147483647 : Int32)) / (12 : Int32)) * (12 : Int32)) = (7 : Int32) ∨ ((x &&& (2147483647 : Int32)) - ((x &&& (2147483647 : Int32)) / (12 : Int32)) * (12 : Int32)) = (8 : Int32) ∨ ((x &&& (2147483647 : Int32)) - ((x &&& (2147483647 : Int32)) / (12 : Int32)) * (12 : Int32)) = (9 : Int32) ∨ ((x &&& (2147483647 : Int32)) - ((x &&& (2147483647 : Int32)) / (12 : Int32)) * (12 : Int32)) = (10 : Int32) ∨ ((x &&& (2147483647 : Int32)) - ((x &&& (2147483647 : Int32)) / (12 : Int32)) * (12 : Int32)) = (11 : Int32) := by
  have h0 := own_mask x
  have h1 := Jvm.LawKit.rem_toInt (x &&& (2147483647 : Int32)) (12 : Int32)
  have h2 : ((12 : Int32)).toInt = 12 := by decide
  rw [h2, Int.tmod_eq_emod_of_nonneg h0] at h1
  have h3 : ((x &&& (2147483647 : Int32)) - ((x &&& (2147483647 : Int32)) / (12 : Int32)) * (12 : Int32)).toInt = 0 ∨ ((x &&& (2147483647 : Int32)) - ((x &&& (2147483647 : Int32)) / (12 : Int32)) * (12 : Int32)).toInt = 1 ∨ ((x &&& (2147483647 : Int32)) - ((x &&& (2147483647 : Int32)) / (12 : Int32)) * (12 : Int32)).toInt = 2 ∨ ((x &&& (2147483647 : Int32)) - ((x &&& (2147483647 : Int32)) / (12 : Int32)) * (12 : Int32)).toInt = 3 ∨ ((x &&& (2147483647 : Int32)) - ((x &&& (2147483647 : Int32)) / (12 : Int32)) * (12 : Int32)).toInt = 4 ∨ ((x &&& (2147483647 : Int32)) - ((x &&& (2147483647 : Int32)) / (12 : Int32)) * (12 : Int32)).toInt = 5 ∨ ((x &&& (2147483647 : Int32)) - ((x &&& (2147483647 : Int32)) / (12 : Int32)) * (12 : Int32)).toInt = 6 ∨ ((x &&& (2147483647 : Int32)) - ((x &&& (2147483647 : Int32)) / (12 : Int32)) * (12 : Int32)).toInt = 7 ∨ ((x &&& (2147483647 : Int32)) - ((x &&& (2147483647 : Int32)) / (12 : Int32)) * (12 : Int32)).toInt = 8 ∨ ((x &&& (2147483647 : Int32)) - ((x &&& (2147483647 : Int32)) / (12 : Int32)) * (12 : Int32)).toInt = 9 ∨ ((x &&& (2147483647 : Int32)) - ((x &&& (2147483647 : Int32)) / (12 : Int32)) * (12 : Int32)).toInt = 10 ∨ ((x &&& (2147483647 : Int32)) - ((x &&& (2147483647 : Int32)) / (12 : Int32)) * (12 : Int32)).toInt = 11 := by omega
  rcases h3 with h | h | h | h | h | h | h | h | h | h | h | h
  · exact Or.inl (Int32.toInt_inj.mp (h.trans (by decide)))
  · exact Or.inr <| Or.inl (Int32.toInt_inj.mp (h.trans (by decide)))
  · exact Or.inr <| Or.inr <| Or.inl (Int32.toInt_inj.mp (h.trans (by decide)))
  · exact Or.inr <| Or.inr <| Or.inr <| Or.inl (Int32.toInt_inj.mp (h.trans (by decide)))
  · exact Or.inr <| Or.inr <| Or.inr <| Or.inr <| Or.inl (Int32.toInt_inj.mp (h.trans (by decide)))
  · exact Or.inr <| Or.inr <| Or.inr <| Or.inr <| Or.inr <| Or.inl (Int32.toInt_inj.mp (h.trans (by decide)))
  · exact Or.inr <| Or.inr <| Or.inr <| Or.inr <| Or.inr <| Or.inr <| Or.inl (Int32.toInt_inj.mp (h.trans (by decide)))
  · exact Or.inr <| Or.inr <| Or.inr <| Or.inr <| Or.inr <| Or.inr <| Or.inr <| Or.inl (Int32.toInt_inj.mp (h.trans (by decide)))
  · exact Or.inr <| Or.inr <| Or.inr <| Or.inr <| Or.inr <| Or.inr <| Or.inr <| Or.inr <| Or.inl (Int32.toInt_inj.mp (h.trans (by decide)))
  · exact Or.inr <| Or.inr <| Or.inr <| Or.inr <| Or.inr <| Or.inr <| Or.inr <| Or.inr <| Or.inr <| Or.inl (Int32.toInt_inj.mp (h.trans (by decide)))
  · exact Or.inr <| Or.inr <| Or.inr <| Or.inr <| Or.inr <| Or.inr <| Or.inr <| Or.inr <| Or.inr <| Or.inr <| Or.inl (Int32.toInt_inj.mp (h.trans (by decide)))
  · exact Or.inr <| Or.inr <| Or.inr <| Or.inr <| Or.inr <| Or.inr <| Or.inr <| Or.inr <| Or.inr <| Or.inr <| Or.inr <| (Int32.toInt_inj.mp (h.trans (by decide)))
theorem d1_0 : decode prog_64_method_6_code 0 = .ok (.aload_n 0, 1) := by decide +kernel
theorem d1_1 : decode prog_64_method_6_code 1 = .ok (.getstatic 3, 3) := by decide +kernel
theorem d1_4 : decode prog_64_method_6_code 4 = .ok (.if_acmp .eq 14, 3) := by decide +kernel
theorem d1_18 : decode prog_64_method_6_code 18 = .ok (.iconst 0, 1) := by decide +kernel
theorem d1_19 : decode prog_64_method_6_code 19 = .ok (.ireturn, 1) := by decide +kernel
abbrev Y0 : MethodName := (⟨"com/example/stackwright/stackwright/engine/Step", "givesPriority", "()Z"⟩ : MethodName)
theorem pn0 : plainName "com/example/stackwright/stackwright/engine/Step" = true := by first | (simp [plainName, overriddenIn]; done) | decide +kernel
theorem ef_own_t0 (m : MethodId) (u0 u1 u2 u3 u4 u5 u6 u7 u8 u9 u10 u11 : Addr) : entryFrame m #[xr u0] 1 = (mkF m 0 #[vr u0] []) := by first | (simp [entryFrame, mkF, argsToLocals, Value.category]; done) | rfl
set_option maxRecDepth 65536 in
set_option maxHeartbeats 40000000 in
theorem own_t0 (l : Launch) (Z : State) (a0 : Array Value) (hw : ∀ d ∈ tables_1, d.before a0 Z = true) (u0 u1 u2 u3 u4 u5 u6 u7 u8 u9 u10 u11 : Addr) (G : own_St Z u0 u1 u2 u3 u4 u5 u6 u7 u8 u9 u10 u11) (h0 : Heap) (n0 : Nat) (O0 : Old Z n0 h0) : own_Met l Z Y0 prog_64_method_6_code 1 (some .boolean) ({ frames := 0, cells := 0, slots := 0, locals := 0 } : Room) #[xr u0] h0 (own_QR (some (xi (0 : Int32))) h0 n0) := by
  intro ws
  refine MetFree.of_bodySF (plainFor_of_name pn0) hisR ?_
  intro p e s m args below meth c s₁ Bd hml0 hP hK
  obtain ⟨rfl, hZ, hh⟩ := hP
  have hx := Bd.exec
  have hby := Bd.bytes
  have hml : c.maxLocals = 1 := hml0
  have hown : s.vm.findClass "com/example/stackwright/stackwright/engine/Step" = some m.cls := findClass_of_methodNamed Bd.named
  have hnm := (name_of_methodNamed Bd.named Bd.method).1
  have X0 : Stand p l e ({ frames := 0, cells := 0, slots := 0, locals := 0 } : Room) s m #[xr u0] below meth c s₁ [] 0 0 := Stand.of_body Bd
  have e0 : s₁.heap = h0 := by rw [← hh, Bd.state]; rfl
  have N0 := Fr.nil n0
  have pre0 : ∀ t, Steps p.tables e below (s₁.setTop (mkF m 0 #[vr u0] [])) t → Steps p.tables e below (s₁.setTop (entryFrame m #[xr u0] 1)) t := fun t st => castTop (ef_own_t0 m u0 u1 u2 u3 u4 u5 u6 u7 u8 u9 u10 u11) st
  obtain ⟨T1, X1, e1, st1⟩ := getS2 X0 hx hZ hown (host := "") (Or.inl (ww hw 35 rfl)) Via.refl e0 ((own_S_u0 G).ext O0.2) (g := (mkF m 1 #[vr u0] [xr u0])) rfl (hb hby d1_1)
  obtain ⟨fs, hr, hrun, hended, hW, hsame⟩ := X1.leave (v := some (xi (0 : Int32))) (fun h => by rw [Bd.returns] at h; cases h)
  refine ⟨_, _, pre0 _ ?_, hrun, hended, _, _, rfl, ?_, ⟨_, rfl⟩, hW, hsame.mono (by decide) (by decide)⟩
  · show own_S p e below s₁ (mkF m 0 #[vr u0] []) _
    refine XS.aloadN X0.here hx rfl (hb hby d1_0) rfl rfl ?_
    show own_S p e below s₁ (mkF m 1 #[vr u0] [xr u0]) _
    refine st1 _ ?_
    show own_S p e below T1 (mkF m 4 #[vr u0] [xr u0, xr u0]) _
    refine Jvm.RoadKit.acmp (g := (mkF m 4 #[vr u0] [xr u0, xr u0])) X1 hx rfl rfl rfl (pc0 := 4) (pc' := 18) (same := true) rfl (hb hby d1_4) rfl (decide_eq_true rfl) (by decide) (by decide) ?_
    show own_S p e below T1 (mkF m 18 #[vr u0] []) _
    refine XS.iconst X1.here hx rfl (hb hby d1_18) ?_
    show own_S p e below T1 (mkF m 19 #[vr u0] [xi (0 : Int32)]) _
    exact retN X1 hx (t := .boolean) Bd.returns (by simp) (hb hby d1_19) hr
  · exact ⟨rfl, N0, e1⟩
theorem own_ne_u1_u0 {Z : State} {u0 u1 u2 u3 u4 u5 u6 u7 u8 u9 u10 u11 : Addr} (G : own_St Z u0 u1 u2 u3 u4 u5 u6 u7 u8 u9 u10 u11) : u1 ≠ u0 := Fld.ne (own_F_u1_ordinal G) (own_F_u0_ordinal G) (by decide)
theorem d1_7 : decode prog_64_method_6_code 7 = .ok (.aload_n 0, 1) := by decide +kernel
theorem d1_8 : decode prog_64_method_6_code 8 = .ok (.getstatic 37, 3) := by decide +kernel
theorem d1_11 : decode prog_64_method_6_code 11 = .ok (.if_acmp .eq 7, 3) := by decide +kernel
theorem own_ne_u1_u11 {Z : State} {u0 u1 u2 u3 u4 u5 u6 u7 u8 u9 u10 u11 : Addr} (G : own_St Z u0 u1 u2 u3 u4 u5 u6 u7 u8 u9 u10 u11) : u1 ≠ u11 := Fld.ne (own_F_u1_ordinal G) (own_F_u11_ordinal G) (by decide)
theorem d1_14 : decode prog_64_method_6_code 14 = .ok (.iconst 1, 1) := by decide +kernel
theorem d1_15 : decode prog_64_method_6_code 15 = .ok (.goto 4, 3) := by decide +kernel
theorem ef_own_t1 (m : MethodId) (u0 u1 u2 u3 u4 u5 u6 u7 u8 u9 u10 u11 : Addr) : entryFrame m #[xr u1] 1 = (mkF m 0 #[vr u1] []) := by first | (simp [entryFrame, mkF, argsToLocals, Value.category]; done) | rfl
set_option maxRecDepth 65536 in
set_option maxHeartbeats 40000000 in
theorem own_t1 (l : Launch) (Z : State) (a0 : Array Value) (hw : ∀ d ∈ tables_1, d.before a0 Z = true) (u0 u1 u2 u3 u4 u5 u6 u7 u8 u9 u10 u11 : Addr) (G : own_St Z u0 u1 u2 u3 u4 u5 u6 u7 u8 u9 u10 u11) (h0 : Heap) (n0 : Nat) (O0 : Old Z n0 h0) : own_Met l Z Y0 prog_64_method_6_code 1 (some .boolean) ({ frames := 0, cells := 0, slots := 0, locals := 0 } : Room) #[xr u1] h0 (own_QR (some (xi (1 : Int32))) h0 n0) := by
  intro ws
  refine MetFree.of_bodySF (plainFor_of_name pn0) hisR ?_
  intro p e s m args below meth c s₁ Bd hml0 hP hK
  obtain ⟨rfl, hZ, hh⟩ := hP
  have hx := Bd.exec
  have hby := Bd.bytes
  have hml : c.maxLocals = 1 := hml0
  have hown : s.vm.findClass "com/example/stackwright/stackwright/engine/Step" = some m.cls := findClass_of_methodNamed Bd.named
  have hnm := (name_of_methodNamed Bd.named Bd.method).1
  have X0 : Stand p l e ({ frames := 0, cells := 0, slots := 0, locals := 0 } : Room) s m #[xr u1] below meth c s₁ [] 0 0 := Stand.of_body Bd
  have e0 : s₁.heap = h0 := by rw [← hh, Bd.state]; rfl
  have N0 := Fr.nil n0
  have pre0 : ∀ t, Steps p.tables e below (s₁.setTop (mkF m 0 #[vr u1] [])) t → Steps p.tables e below (s₁.setTop (entryFrame m #[xr u1] 1)) t := fun t st => castTop (ef_own_t1 m u0 u1 u2 u3 u4 u5 u6 u7 u8 u9 u10 u11) st
  obtain ⟨T1, X1, e1, st1⟩ := getS2 X0 hx hZ hown (host := "") (Or.inl (ww hw 35 rfl)) Via.refl e0 ((own_S_u0 G).ext O0.2) (g := (mkF m 1 #[vr u1] [xr u1])) rfl (hb hby d1_1)
  obtain ⟨T2, X2, e2, st2⟩ := getS2 X1 hx hZ hown (host := "") (Or.inl (ww hw 36 rfl)) Via.refl e1 ((own_S_u11 G).ext O0.2) (g := (mkF m 8 #[vr u1] [xr u1])) rfl (hb hby d1_8)
  obtain ⟨fs, hr, hrun, hended, hW, hsame⟩ := X2.leave (v := some (xi (1 : Int32))) (fun h => by rw [Bd.returns] at h; cases h)
  refine ⟨_, _, pre0 _ ?_, hrun, hended, _, _, rfl, ?_, ⟨_, rfl⟩, hW, hsame.mono (by decide) (by decide)⟩
  · show own_S p e below s₁ (mkF m 0 #[vr u1] []) _
    refine XS.aloadN X0.here hx rfl (hb hby d1_0) rfl rfl ?_
    show own_S p e below s₁ (mkF m 1 #[vr u1] [xr u1]) _
    refine st1 _ ?_
    show own_S p e below T1 (mkF m 4 #[vr u1] [xr u0, xr u1]) _
    refine Jvm.RoadKit.acmp (g := (mkF m 4 #[vr u1] [xr u0, xr u1])) X1 hx rfl rfl rfl (pc0 := 4) (pc' := 7) (same := false) rfl (hb hby d1_4) rfl (own_ref (own_ne_u1_u0 G)) (by decide) (by decide) ?_
    show own_S p e below T1 (mkF m 7 #[vr u1] []) _
    refine XS.aloadN X1.here hx rfl (hb hby d1_7) rfl rfl ?_
    show own_S p e below T1 (mkF m 8 #[vr u1] [xr u1]) _
    refine st2 _ ?_
    show own_S p e below T2 (mkF m 11 #[vr u1] [xr u11, xr u1]) _
    refine Jvm.RoadKit.acmp (g := (mkF m 11 #[vr u1] [xr u11, xr u1])) X2 hx rfl rfl rfl (pc0 := 11) (pc' := 14) (same := false) rfl (hb hby d1_11) rfl (own_ref (own_ne_u1_u11 G)) (by decide) (by decide) ?_
    show own_S p e below T2 (mkF m 14 #[vr u1] []) _
    refine XS.iconst X2.here hx rfl (hb hby d1_14) ?_
    show own_S p e below T2 (mkF m 15 #[vr u1] [xi (1 : Int32)]) _
    refine XS.goto X2.here hx rfl (pc0 := 15) (pc' := 19) rfl (hb hby d1_15) (by decide) (by decide) ?_
    show own_S p e below T2 (mkF m 19 #[vr u1] [xi (1 : Int32)]) _
    exact retN X2 hx (t := .boolean) Bd.returns (by simp) (hb hby d1_19) hr
  · exact ⟨rfl, N0, e2⟩
theorem own_ne_u2_u0 {Z : State} {u0 u1 u2 u3 u4 u5 u6 u7 u8 u9 u10 u11 : Addr} (G : own_St Z u0 u1 u2 u3 u4 u5 u6 u7 u8 u9 u10 u11) : u2 ≠ u0 := Fld.ne (own_F_u2_ordinal G) (own_F_u0_ordinal G) (by decide)
theorem own_ne_u2_u11 {Z : State} {u0 u1 u2 u3 u4 u5 u6 u7 u8 u9 u10 u11 : Addr} (G : own_St Z u0 u1 u2 u3 u4 u5 u6 u7 u8 u9 u10 u11) : u2 ≠ u11 := Fld.ne (own_F_u2_ordinal G) (own_F_u11_ordinal G) (by decide)
theorem ef_own_t2 (m : MethodId) (u0 u1 u2 u3 u4 u5 u6 u7 u8 u9 u10 u11 : Addr) : entryFrame m #[xr u2] 1 = (mkF m 0 #[vr u2] []) := by first | (simp [entryFrame, mkF, argsToLocals, Value.category]; done) | rfl
set_option maxRecDepth 65536 in
set_option maxHeartbeats 40000000 in
theorem own_t2 (l : Launch) (Z : State) (a0 : Array Value) (hw : ∀ d ∈ tables_1, d.before a0 Z = true) (u0 u1 u2 u3 u4 u5 u6 u7 u8 u9 u10 u11 : Addr) (G : own_St Z u0 u1 u2 u3 u4 u5 u6 u7 u8 u9 u10 u11) (h0 : Heap) (n0 : Nat) (O0 : Old Z n0 h0) : own_Met l Z Y0 prog_64_method_6_code 1 (some .boolean) ({ frames := 0, cells := 0, slots := 0, locals := 0 } : Room) #[xr u2] h0 (own_QR (some (xi (1 : Int32))) h0 n0) := by
  intro ws
  refine MetFree.of_bodySF (plainFor_of_name pn0) hisR ?_
  intro p e s m args below meth c s₁ Bd hml0 hP hK
  obtain ⟨rfl, hZ, hh⟩ := hP
  have hx := Bd.exec
  have hby := Bd.bytes
  have hml : c.maxLocals = 1 := hml0
  have hown : s.vm.findClass "com/example/stackwright/stackwright/engine/Step" = some m.cls := findClass_of_methodNamed Bd.named
  have hnm := (name_of_methodNamed Bd.named Bd.method).1
  have X0 : Stand p l e ({ frames := 0, cells := 0, slots := 0, locals := 0 } : Room) s m #[xr u2] below meth c s₁ [] 0 0 := Stand.of_body Bd
  have e0 : s₁.heap = h0 := by rw [← hh, Bd.state]; rfl
  have N0 := Fr.nil n0
  have pre0 : ∀ t, Steps p.tables e below (s₁.setTop (mkF m 0 #[vr u2] [])) t → Steps p.tables e below (s₁.setTop (entryFrame m #[xr u2] 1)) t := fun t st => castTop (ef_own_t2 m u0 u1 u2 u3 u4 u5 u6 u7 u8 u9 u10 u11) st
  obtain ⟨T1, X1, e1, st1⟩ := getS2 X0 hx hZ hown (host := "") (Or.inl (ww hw 35 rfl)) Via.refl e0 ((own_S_u0 G).ext O0.2) (g := (mkF m 1 #[vr u2] [xr u2])) rfl (hb hby d1_1)
  obtain ⟨T2, X2, e2, st2⟩ := getS2 X1 hx hZ hown (host := "") (Or.inl (ww hw 36 rfl)) Via.refl e1 ((own_S_u11 G).ext O0.2) (g := (mkF m 8 #[vr u2] [xr u2])) rfl (hb hby d1_8)
  obtain ⟨fs, hr, hrun, hended, hW, hsame⟩ := X2.leave (v := some (xi (1 : Int32))) (fun h => by rw [Bd.returns] at h; cases h)
  refine ⟨_, _, pre0 _ ?_, hrun, hended, _, _, rfl, ?_, ⟨_, rfl⟩, hW, hsame.mono (by decide) (by decide)⟩
  · show own_S p e below s₁ (mkF m 0 #[vr u2] []) _
    refine XS.aloadN X0.here hx rfl (hb hby d1_0) rfl rfl ?_
    show own_S p e below s₁ (mkF m 1 #[vr u2] [xr u2]) _
    refine st1 _ ?_
    show own_S p e below T1 (mkF m 4 #[vr u2] [xr u0, xr u2]) _
    refine Jvm.RoadKit.acmp (g := (mkF m 4 #[vr u2] [xr u0, xr u2])) X1 hx rfl rfl rfl (pc0 := 4) (pc' := 7) (same := false) rfl (hb hby d1_4) rfl (own_ref (own_ne_u2_u0 G)) (by decide) (by decide) ?_
    show own_S p e below T1 (mkF m 7 #[vr u2] []) _
    refine XS.aloadN X1.here hx rfl (hb hby d1_7) rfl rfl ?_
    show own_S p e below T1 (mkF m 8 #[vr u2] [xr u2]) _
    refine st2 _ ?_
    show own_S p e below T2 (mkF m 11 #[vr u2] [xr u11, xr u2]) _
    refine Jvm.RoadKit.acmp (g := (mkF m 11 #[vr u2] [xr u11, xr u2])) X2 hx rfl rfl rfl (pc0 := 11) (pc' := 14) (same := false) rfl (hb hby d1_11) rfl (own_ref (own_ne_u2_u11 G)) (by decide) (by decide) ?_
    show own_S p e below T2 (mkF m 14 #[vr u2] []) _
    refine XS.iconst X2.here hx rfl (hb hby d1_14) ?_
    show own_S p e below T2 (mkF m 15 #[vr u2] [xi (1 : Int32)]) _
    refine XS.goto X2.here hx rfl (pc0 := 15) (pc' := 19) rfl (hb hby d1_15) (by decide) (by decide) ?_
    show own_S p e below T2 (mkF m 19 #[vr u2] [xi (1 : Int32)]) _
    exact retN X2 hx (t := .boolean) Bd.returns (by simp) (hb hby d1_19) hr
  · exact ⟨rfl, N0, e2⟩
theorem own_ne_u3_u0 {Z : State} {u0 u1 u2 u3 u4 u5 u6 u7 u8 u9 u10 u11 : Addr} (G : own_St Z u0 u1 u2 u3 u4 u5 u6 u7 u8 u9 u10 u11) : u3 ≠ u0 := Fld.ne (own_F_u3_ordinal G) (own_F_u0_ordinal G) (by decide)
theorem own_ne_u3_u11 {Z : State} {u0 u1 u2 u3 u4 u5 u6 u7 u8 u9 u10 u11 : Addr} (G : own_St Z u0 u1 u2 u3 u4 u5 u6 u7 u8 u9 u10 u11) : u3 ≠ u11 := Fld.ne (own_F_u3_ordinal G) (own_F_u11_ordinal G) (by decide)
theorem ef_own_t3 (m : MethodId) (u0 u1 u2 u3 u4 u5 u6 u7 u8 u9 u10 u11 : Addr) : entryFrame m #[xr u3] 1 = (mkF m 0 #[vr u3] []) := by first | (simp [entryFrame, mkF, argsToLocals, Value.category]; done) | rfl
set_option maxRecDepth 65536 in
set_option maxHeartbeats 40000000 in
theorem own_t3 (l : Launch) (Z : State) (a0 : Array Value) (hw : ∀ d ∈ tables_1, d.before a0 Z = true) (u0 u1 u2 u3 u4 u5 u6 u7 u8 u9 u10 u11 : Addr) (G : own_St Z u0 u1 u2 u3 u4 u5 u6 u7 u8 u9 u10 u11) (h0 : Heap) (n0 : Nat) (O0 : Old Z n0 h0) : own_Met l Z Y0 prog_64_method_6_code 1 (some .boolean) ({ frames := 0, cells := 0, slots := 0, locals := 0 } : Room) #[xr u3] h0 (own_QR (some (xi (1 : Int32))) h0 n0) := by
  intro ws
  refine MetFree.of_bodySF (plainFor_of_name pn0) hisR ?_
  intro p e s m args below meth c s₁ Bd hml0 hP hK
  obtain ⟨rfl, hZ, hh⟩ := hP
  have hx := Bd.exec
  have hby := Bd.bytes
  have hml : c.maxLocals = 1 := hml0
  have hown : s.vm.findClass "com/example/stackwright/stackwright/engine/Step" = some m.cls := findClass_of_methodNamed Bd.named
  have hnm := (name_of_methodNamed Bd.named Bd.method).1
  have X0 : Stand p l e ({ frames := 0, cells := 0, slots := 0, locals := 0 } : Room) s m #[xr u3] below meth c s₁ [] 0 0 := Stand.of_body Bd
  have e0 : s₁.heap = h0 := by rw [← hh, Bd.state]; rfl
  have N0 := Fr.nil n0
  have pre0 : ∀ t, Steps p.tables e below (s₁.setTop (mkF m 0 #[vr u3] [])) t → Steps p.tables e below (s₁.setTop (entryFrame m #[xr u3] 1)) t := fun t st => castTop (ef_own_t3 m u0 u1 u2 u3 u4 u5 u6 u7 u8 u9 u10 u11) st
  obtain ⟨T1, X1, e1, st1⟩ := getS2 X0 hx hZ hown (host := "") (Or.inl (ww hw 35 rfl)) Via.refl e0 ((own_S_u0 G).ext O0.2) (g := (mkF m 1 #[vr u3] [xr u3])) rfl (hb hby d1_1)
  obtain ⟨T2, X2, e2, st2⟩ := getS2 X1 hx hZ hown (host := "") (Or.inl (ww hw 36 rfl)) Via.refl e1 ((own_S_u11 G).ext O0.2) (g := (mkF m 8 #[vr u3] [xr u3])) rfl (hb hby d1_8)
  obtain ⟨fs, hr, hrun, hended, hW, hsame⟩ := X2.leave (v := some (xi (1 : Int32))) (fun h => by rw [Bd.returns] at h; cases h)
  refine ⟨_, _, pre0 _ ?_, hrun, hended, _, _, rfl, ?_, ⟨_, rfl⟩, hW, hsame.mono (by decide) (by decide)⟩
  · show own_S p e below s₁ (mkF m 0 #[vr u3] []) _
    refine XS.aloadN X0.here hx rfl (hb hby d1_0) rfl rfl ?_
    show own_S p e below s₁ (mkF m 1 #[vr u3] [xr u3]) _
    refine st1 _ ?_
    show own_S p e below T1 (mkF m 4 #[vr u3] [xr u0, xr u3]) _
    refine Jvm.RoadKit.acmp (g := (mkF m 4 #[vr u3] [xr u0, xr u3])) X1 hx rfl rfl rfl (pc0 := 4) (pc' := 7) (same := false) rfl (hb hby d1_4) rfl (own_ref (own_ne_u3_u0 G)) (by decide) (by decide) ?_
    show own_S p e below T1 (mkF m 7 #[vr u3] []) _
    refine XS.aloadN X1.here hx rfl (hb hby d1_7) rfl rfl ?_
    show own_S p e below T1 (mkF m 8 #[vr u3] [xr u3]) _
    refine st2 _ ?_
    show own_S p e below T2 (mkF m 11 #[vr u3] [xr u11, xr u3]) _
    refine Jvm.RoadKit.acmp (g := (mkF m 11 #[vr u3] [xr u11, xr u3])) X2 hx rfl rfl rfl (pc0 := 11) (pc' := 14) (same := false) rfl (hb hby d1_11) rfl (own_ref (own_ne_u3_u11 G)) (by decide) (by decide) ?_
    show own_S p e below T2 (mkF m 14 #[vr u3] []) _
    refine XS.iconst X2.here hx rfl (hb hby d1_14) ?_
    show own_S p e below T2 (mkF m 15 #[vr u3] [xi (1 : Int32)]) _
    refine XS.goto X2.here hx rfl (pc0 := 15) (pc' := 19) rfl (hb hby d1_15) (by decide) (by decide) ?_
    show own_S p e below T2 (mkF m 19 #[vr u3] [xi (1 : Int32)]) _
    exact retN X2 hx (t := .boolean) Bd.returns (by simp) (hb hby d1_19) hr
  · exact ⟨rfl, N0, e2⟩
theorem own_ne_u4_u0 {Z : State} {u0 u1 u2 u3 u4 u5 u6 u7 u8 u9 u10 u11 : Addr} (G : own_St Z u0 u1 u2 u3 u4 u5 u6 u7 u8 u9 u10 u11) : u4 ≠ u0 := Fld.ne (own_F_u4_ordinal G) (own_F_u0_ordinal G) (by decide)
theorem own_ne_u4_u11 {Z : State} {u0 u1 u2 u3 u4 u5 u6 u7 u8 u9 u10 u11 : Addr} (G : own_St Z u0 u1 u2 u3 u4 u5 u6 u7 u8 u9 u10 u11) : u4 ≠ u11 := Fld.ne (own_F_u4_ordinal G) (own_F_u11_ordinal G) (by decide)
theorem ef_own_t4 (m : MethodId) (u0 u1 u2 u3 u4 u5 u6 u7 u8 u9 u10 u11 : Addr) : entryFrame m #[xr u4] 1 = (mkF m 0 #[vr u4] []) := by first | (simp [entryFrame, mkF, argsToLocals, Value.category]; done) | rfl
set_option maxRecDepth 65536 in
set_option maxHeartbeats 40000000 in
theorem own_t4 (l : Launch) (Z : State) (a0 : Array Value) (hw : ∀ d ∈ tables_1, d.before a0 Z = true) (u0 u1 u2 u3 u4 u5 u6 u7 u8 u9 u10 u11 : Addr) (G : own_St Z u0 u1 u2 u3 u4 u5 u6 u7 u8 u9 u10 u11) (h0 : Heap) (n0 : Nat) (O0 : Old Z n0 h0) : own_Met l Z Y0 prog_64_method_6_code 1 (some .boolean) ({ frames := 0, cells := 0, slots := 0, locals := 0 } : Room) #[xr u4] h0 (own_QR (some (xi (1 : Int32))) h0 n0) := by
  intro ws
  refine MetFree.of_bodySF (plainFor_of_name pn0) hisR ?_
  intro p e s m args below meth c s₁ Bd hml0 hP hK
  obtain ⟨rfl, hZ, hh⟩ := hP
  have hx := Bd.exec
  have hby := Bd.bytes
  have hml : c.maxLocals = 1 := hml0
  have hown : s.vm.findClass "com/example/stackwright/stackwright/engine/Step" = some m.cls := findClass_of_methodNamed Bd.named
  have hnm := (name_of_methodNamed Bd.named Bd.method).1
  have X0 : Stand p l e ({ frames := 0, cells := 0, slots := 0, locals := 0 } : Room) s m #[xr u4] below meth c s₁ [] 0 0 := Stand.of_body Bd
  have e0 : s₁.heap = h0 := by rw [← hh, Bd.state]; rfl
  have N0 := Fr.nil n0
  have pre0 : ∀ t, Steps p.tables e below (s₁.setTop (mkF m 0 #[vr u4] [])) t → Steps p.tables e below (s₁.setTop (entryFrame m #[xr u4] 1)) t := fun t st => castTop (ef_own_t4 m u0 u1 u2 u3 u4 u5 u6 u7 u8 u9 u10 u11) st
  obtain ⟨T1, X1, e1, st1⟩ := getS2 X0 hx hZ hown (host := "") (Or.inl (ww hw 35 rfl)) Via.refl e0 ((own_S_u0 G).ext O0.2) (g := (mkF m 1 #[vr u4] [xr u4])) rfl (hb hby d1_1)
  obtain ⟨T2, X2, e2, st2⟩ := getS2 X1 hx hZ hown (host := "") (Or.inl (ww hw 36 rfl)) Via.refl e1 ((own_S_u11 G).ext O0.2) (g := (mkF m 8 #[vr u4] [xr u4])) rfl (hb hby d1_8)
  obtain ⟨fs, hr, hrun, hended, hW, hsame⟩ := X2.leave (v := some (xi (1 : Int32))) (fun h => by rw [Bd.returns] at h; cases h)
  refine ⟨_, _, pre0 _ ?_, hrun, hended, _, _, rfl, ?_, ⟨_, rfl⟩, hW, hsame.mono (by decide) (by decide)⟩
  · show own_S p e below s₁ (mkF m 0 #[vr u4] []) _
    refine XS.aloadN X0.here hx rfl (hb hby d1_0) rfl rfl ?_
    show own_S p e below s₁ (mkF m 1 #[vr u4] [xr u4]) _
    refine st1 _ ?_
    show own_S p e below T1 (mkF m 4 #[vr u4] [xr u0, xr u4]) _
    refine Jvm.RoadKit.acmp (g := (mkF m 4 #[vr u4] [xr u0, xr u4])) X1 hx rfl rfl rfl (pc0 := 4) (pc' := 7) (same := false) rfl (hb hby d1_4) rfl (own_ref (own_ne_u4_u0 G)) (by decide) (by decide) ?_
    show own_S p e below T1 (mkF m 7 #[vr u4] []) _
    refine XS.aloadN X1.here hx rfl (hb hby d1_7) rfl rfl ?_
    show own_S p e below T1 (mkF m 8 #[vr u4] [xr u4]) _
    refine st2 _ ?_
    show own_S p e below T2 (mkF m 11 #[vr u4] [xr u11, xr u4]) _
    refine Jvm.RoadKit.acmp (g := (mkF m 11 #[vr u4] [xr u11, xr u4])) X2 hx rfl rfl rfl (pc0 := 11) (pc' := 14) (same := false) rfl (hb hby d1_11) rfl (own_ref (own_ne_u4_u11 G)) (by decide) (by decide) ?_
    show own_S p e below T2 (mkF m 14 #[vr u4] []) _
    refine XS.iconst X2.here hx rfl (hb hby d1_14) ?_
    show own_S p e below T2 (mkF m 15 #[vr u4] [xi (1 : Int32)]) _
    refine XS.goto X2.here hx rfl (pc0 := 15) (pc' := 19) rfl (hb hby d1_15) (by decide) (by decide) ?_
    show own_S p e below T2 (mkF m 19 #[vr u4] [xi (1 : Int32)]) _
    exact retN X2 hx (t := .boolean) Bd.returns (by simp) (hb hby d1_19) hr
  · exact ⟨rfl, N0, e2⟩
theorem own_ne_u5_u0 {Z : State} {u0 u1 u2 u3 u4 u5 u6 u7 u8 u9 u10 u11 : Addr} (G : own_St Z u0 u1 u2 u3 u4 u5 u6 u7 u8 u9 u10 u11) : u5 ≠ u0 := Fld.ne (own_F_u5_ordinal G) (own_F_u0_ordinal G) (by decide)
theorem own_ne_u5_u11 {Z : State} {u0 u1 u2 u3 u4 u5 u6 u7 u8 u9 u10 u11 : Addr} (G : own_St Z u0 u1 u2 u3 u4 u5 u6 u7 u8 u9 u10 u11) : u5 ≠ u11 := Fld.ne (own_F_u5_ordinal G) (own_F_u11_ordinal G) (by decide)
theorem ef_own_t5 (m : MethodId) (u0 u1 u2 u3 u4 u5 u6 u7 u8 u9 u10 u11 : Addr) : entryFrame m #[xr u5] 1 = (mkF m 0 #[vr u5] []) := by first | (simp [entryFrame, mkF, argsToLocals, Value.category]; done) | rfl
set_option maxRecDepth 65536 in
set_option maxHeartbeats 40000000 in
theorem own_t5 (l : Launch) (Z : State) (a0 : Array Value) (hw : ∀ d ∈ tables_1, d.before a0 Z = true) (u0 u1 u2 u3 u4 u5 u6 u7 u8 u9 u10 u11 : Addr) (G : own_St Z u0 u1 u2 u3 u4 u5 u6 u7 u8 u9 u10 u11) (h0 : Heap) (n0 : Nat) (O0 : Old Z n0 h0) : own_Met l Z Y0 prog_64_method_6_code 1 (some .boolean) ({ frames := 0, cells := 0, slots := 0, locals := 0 } : Room) #[xr u5] h0 (own_QR (some (xi (1 : Int32))) h0 n0) := by
  intro ws
  refine MetFree.of_bodySF (plainFor_of_name pn0) hisR ?_
  intro p e s m args below meth c s₁ Bd hml0 hP hK
  obtain ⟨rfl, hZ, hh⟩ := hP
  have hx := Bd.exec
  have hby := Bd.bytes
  have hml : c.maxLocals = 1 := hml0
  have hown : s.vm.findClass "com/example/stackwright/stackwright/engine/Step" = some m.cls := findClass_of_methodNamed Bd.named
  have hnm := (name_of_methodNamed Bd.named Bd.method).1
  have X0 : Stand p l e ({ frames := 0, cells := 0, slots := 0, locals := 0 } : Room) s m #[xr u5] below meth c s₁ [] 0 0 := Stand.of_body Bd
  have e0 : s₁.heap = h0 := by rw [← hh, Bd.state]; rfl
  have N0 := Fr.nil n0
  have pre0 : ∀ t, Steps p.tables e below (s₁.setTop (mkF m 0 #[vr u5] [])) t → Steps p.tables e below (s₁.setTop (entryFrame m #[xr u5] 1)) t := fun t st => castTop (ef_own_t5 m u0 u1 u2 u3 u4 u5 u6 u7 u8 u9 u10 u11) st
  obtain ⟨T1, X1, e1, st1⟩ := getS2 X0 hx hZ hown (host := "") (Or.inl (ww hw 35 rfl)) Via.refl e0 ((own_S_u0 G).ext O0.2) (g := (mkF m 1 #[vr u5] [xr u5])) rfl (hb hby d1_1)
  obtain ⟨T2, X2, e2, st2⟩ := getS2 X1 hx hZ hown (host := "") (Or.inl (ww hw 36 rfl)) Via.refl e1 ((own_S_u11 G).ext O0.2) (g := (mkF m 8 #[vr u5] [xr u5])) rfl (hb hby d1_8)
  obtain ⟨fs, hr, hrun, hended, hW, hsame⟩ := X2.leave (v := some (xi (1 : Int32))) (fun h => by rw [Bd.returns] at h; cases h)
  refine ⟨_, _, pre0 _ ?_, hrun, hended, _, _, rfl, ?_, ⟨_, rfl⟩, hW, hsame.mono (by decide) (by decide)⟩
  · show own_S p e below s₁ (mkF m 0 #[vr u5] []) _
    refine XS.aloadN X0.here hx rfl (hb hby d1_0) rfl rfl ?_
    show own_S p e below s₁ (mkF m 1 #[vr u5] [xr u5]) _
    refine st1 _ ?_
    show own_S p e below T1 (mkF m 4 #[vr u5] [xr u0, xr u5]) _
    refine Jvm.RoadKit.acmp (g := (mkF m 4 #[vr u5] [xr u0, xr u5])) X1 hx rfl rfl rfl (pc0 := 4) (pc' := 7) (same := false) rfl (hb hby d1_4) rfl (own_ref (own_ne_u5_u0 G)) (by decide) (by decide) ?_
    show own_S p e below T1 (mkF m 7 #[vr u5] []) _
    refine XS.aloadN X1.here hx rfl (hb hby d1_7) rfl rfl ?_
    show own_S p e below T1 (mkF m 8 #[vr u5] [xr u5]) _
    refine st2 _ ?_
    show own_S p e below T2 (mkF m 11 #[vr u5] [xr u11, xr u5]) _
    refine Jvm.RoadKit.acmp (g := (mkF m 11 #[vr u5] [xr u11, xr u5])) X2 hx rfl rfl rfl (pc0 := 11) (pc' := 14) (same := false) rfl (hb hby d1_11) rfl (own_ref (own_ne_u5_u11 G)) (by decide) (by decide) ?_
    show own_S p e below T2 (mkF m 14 #[vr u5] []) _
    refine XS.iconst X2.here hx rfl (hb hby d1_14) ?_
    show own_S p e below T2 (mkF m 15 #[vr u5] [xi (1 : Int32)]) _
    refine XS.goto X2.here hx rfl (pc0 := 15) (pc' := 19) rfl (hb hby d1_15) (by decide) (by decide) ?_
    show own_S p e below T2 (mkF m 19 #[vr u5] [xi (1 : Int32)]) _
    exact retN X2 hx (t := .boolean) Bd.returns (by simp) (hb hby d1_19) hr
  · exact ⟨rfl, N0, e2⟩
theorem own_ne_u6_u0 {Z : State} {u0 u1 u2 u3 u4 u5 u6 u7 u8 u9 u10 u11 : Addr} (G : own_St Z u0 u1 u2 u3 u4 u5 u6 u7 u8 u9 u10 u11) : u6 ≠ u0 := Fld.ne (own_F_u6_ordinal G) (own_F_u0_ordinal G) (by decide)
theorem own_ne_u6_u11 {Z : State} {u0 u1 u2 u3 u4 u5 u6 u7 u8 u9 u10 u11 : Addr} (G : own_St Z u0 u1 u2 u3 u4 u5 u6 u7 u8 u9 u10 u11) : u6 ≠ u11 := Fld.ne (own_F_u6_ordinal G) (own_F_u11_ordinal G) (by decide)
theorem ef_own_t6 (m : MethodId) (u0 u1 u2 u3 u4 u5 u6 u7 u8 u9 u10 u11 : Addr) : entryFrame m #[xr u6] 1 = (mkF m 0 #[vr u6] []) := by first | (simp [entryFrame, mkF, argsToLocals, Value.category]; done) | rfl
set_option maxRecDepth 65536 in
set_option maxHeartbeats 40000000 in
theorem own_t6 (l : Launch) (Z : State) (a0 : Array Value) (hw : ∀ d ∈ tables_1, d.before a0 Z = true) (u0 u1 u2 u3 u4 u5 u6 u7 u8 u9 u10 u11 : Addr) (G : own_St Z u0 u1 u2 u3 u4 u5 u6 u7 u8 u9 u10 u11) (h0 : Heap) (n0 : Nat) (O0 : Old Z n0 h0) : own_Met l Z Y0 prog_64_method_6_code 1 (some .boolean) ({ frames := 0, cells := 0, slots := 0, locals := 0 } : Room) #[xr u6] h0 (own_QR (some (xi (1 : Int32))) h0 n0) := by
  intro ws
  refine MetFree.of_bodySF (plainFor_of_name pn0) hisR ?_
  intro p e s m args below meth c s₁ Bd hml0 hP hK
  obtain ⟨rfl, hZ, hh⟩ := hP
  have hx := Bd.exec
  have hby := Bd.bytes
  have hml : c.maxLocals = 1 := hml0
  have hown : s.vm.findClass "com/example/stackwright/stackwright/engine/Step" = some m.cls := findClass_of_methodNamed Bd.named
  have hnm := (name_of_methodNamed Bd.named Bd.method).1
  have X0 : Stand p l e ({ frames := 0, cells := 0, slots := 0, locals := 0 } : Room) s m #[xr u6] below meth c s₁ [] 0 0 := Stand.of_body Bd
  have e0 : s₁.heap = h0 := by rw [← hh, Bd.state]; rfl
  have N0 := Fr.nil n0
  have pre0 : ∀ t, Steps p.tables e below (s₁.setTop (mkF m 0 #[vr u6] [])) t → Steps p.tables e below (s₁.setTop (entryFrame m #[xr u6] 1)) t := fun t st => castTop (ef_own_t6 m u0 u1 u2 u3 u4 u5 u6 u7 u8 u9 u10 u11) st
  obtain ⟨T1, X1, e1, st1⟩ := getS2 X0 hx hZ hown (host := "") (Or.inl (ww hw 35 rfl)) Via.refl e0 ((own_S_u0 G).ext O0.2) (g := (mkF m 1 #[vr u6] [xr u6])) rfl (hb hby d1_1)
  obtain ⟨T2, X2, e2, st2⟩ := getS2 X1 hx hZ hown (host := "") (Or.inl (ww hw 36 rfl)) Via.refl e1 ((own_S_u11 G).ext O0.2) (g := (mkF m 8 #[vr u6] [xr u6])) rfl (hb hby d1_8)
  obtain ⟨fs, hr, hrun, hended, hW, hsame⟩ := X2.leave (v := some (xi (1 : Int32))) (fun h => by rw [Bd.returns] at h; cases h)
  refine ⟨_, _, pre0 _ ?_, hrun, hended, _, _, rfl, ?_, ⟨_, rfl⟩, hW, hsame.mono (by decide) (by decide)⟩
  · show own_S p e below s₁ (mkF m 0 #[vr u6] []) _
    refine XS.aloadN X0.here hx rfl (hb hby d1_0) rfl rfl ?_
    show own_S p e below s₁ (mkF m 1 #[vr u6] [xr u6]) _
    refine st1 _ ?_
    show own_S p e below T1 (mkF m 4 #[vr u6] [xr u0, xr u6]) _
    refine Jvm.RoadKit.acmp (g := (mkF m 4 #[vr u6] [xr u0, xr u6])) X1 hx rfl rfl rfl (pc0 := 4) (pc' := 7) (same := false) rfl (hb hby d1_4) rfl (own_ref (own_ne_u6_u0 G)) (by decide) (by decide) ?_
    show own_S p e below T1 (mkF m 7 #[vr u6] []) _
    refine XS.aloadN X1.here hx rfl (hb hby d1_7) rfl rfl ?_
    show own_S p e below T1 (mkF m 8 #[vr u6] [xr u6]) _
    refine st2 _ ?_
    show own_S p e below T2 (mkF m 11 #[vr u6] [xr u11, xr u6]) _
    refine Jvm.RoadKit.acmp (g := (mkF m 11 #[vr u6] [xr u11, xr u6])) X2 hx rfl rfl rfl (pc0 := 11) (pc' := 14) (same := false) rfl (hb hby d1_11) rfl (own_ref (own_ne_u6_u11 G)) (by decide) (by decide) ?_
    show own_S p e below T2 (mkF m 14 #[vr u6] []) _
    refine XS.iconst X2.here hx rfl (hb hby d1_14) ?_
    show own_S p e below T2 (mkF m 15 #[vr u6] [xi (1 : Int32)]) _
    refine XS.goto X2.here hx rfl (pc0 := 15) (pc' := 19) rfl (hb hby d1_15) (by decide) (by decide) ?_
    show own_S p e below T2 (mkF m 19 #[vr u6] [xi (1 : Int32)]) _
    exact retN X2 hx (t := .boolean) Bd.returns (by simp) (hb hby d1_19) hr
  · exact ⟨rfl, N0, e2⟩
theorem own_ne_u7_u0 {Z : State} {u0 u1 u2 u3 u4 u5 u6 u7 u8 u9 u10 u11 : Addr} (G : own_St Z u0 u1 u2 u3 u4 u5 u6 u7 u8 u9 u10 u11) : u7 ≠ u0 := Fld.ne (own_F_u7_ordinal G) (own_F_u0_ordinal G) (by decide)
theorem own_ne_u7_u11 {Z : State} {u0 u1 u2 u3 u4 u5 u6 u7 u8 u9 u10 u11 : Addr} (G : own_St Z u0 u1 u2 u3 u4 u5 u6 u7 u8 u9 u10 u11) : u7 ≠ u11 := Fld.ne (own_F_u7_ordinal G) (own_F_u11_ordinal G) (by decide)
theorem ef_own_t7 (m : MethodId) (u0 u1 u2 u3 u4 u5 u6 u7 u8 u9 u10 u11 : Addr) : entryFrame m #[xr u7] 1 = (mkF m 0 #[vr u7] []) := by first | (simp [entryFrame, mkF, argsToLocals, Value.category]; done) | rfl
set_option maxRecDepth 65536 in
set_option maxHeartbeats 40000000 in
theorem own_t7 (l : Launch) (Z : State) (a0 : Array Value) (hw : ∀ d ∈ tables_1, d.before a0 Z = true) (u0 u1 u2 u3 u4 u5 u6 u7 u8 u9 u10 u11 : Addr) (G : own_St Z u0 u1 u2 u3 u4 u5 u6 u7 u8 u9 u10 u11) (h0 : Heap) (n0 : Nat) (O0 : Old Z n0 h0) : own_Met l Z Y0 prog_64_method_6_code 1 (some .boolean) ({ frames := 0, cells := 0, slots := 0, locals := 0 } : Room) #[xr u7] h0 (own_QR (some (xi (1 : Int32))) h0 n0) := by
  intro ws
  refine MetFree.of_bodySF (plainFor_of_name pn0) hisR ?_
  intro p e s m args below meth c s₁ Bd hml0 hP hK
  obtain ⟨rfl, hZ, hh⟩ := hP
  have hx := Bd.exec
  have hby := Bd.bytes
  have hml : c.maxLocals = 1 := hml0
  have hown : s.vm.findClass "com/example/stackwright/stackwright/engine/Step" = some m.cls := findClass_of_methodNamed Bd.named
  have hnm := (name_of_methodNamed Bd.named Bd.method).1
  have X0 : Stand p l e ({ frames := 0, cells := 0, slots := 0, locals := 0 } : Room) s m #[xr u7] below meth c s₁ [] 0 0 := Stand.of_body Bd
  have e0 : s₁.heap = h0 := by rw [← hh, Bd.state]; rfl
  have N0 := Fr.nil n0
  have pre0 : ∀ t, Steps p.tables e below (s₁.setTop (mkF m 0 #[vr u7] [])) t → Steps p.tables e below (s₁.setTop (entryFrame m #[xr u7] 1)) t := fun t st => castTop (ef_own_t7 m u0 u1 u2 u3 u4 u5 u6 u7 u8 u9 u10 u11) st
  obtain ⟨T1, X1, e1, st1⟩ := getS2 X0 hx hZ hown (host := "") (Or.inl (ww hw 35 rfl)) Via.refl e0 ((own_S_u0 G).ext O0.2) (g := (mkF m 1 #[vr u7] [xr u7])) rfl (hb hby d1_1)
  obtain ⟨T2, X2, e2, st2⟩ := getS2 X1 hx hZ hown (host := "") (Or.inl (ww hw 36 rfl)) Via.refl e1 ((own_S_u11 G).ext O0.2) (g := (mkF m 8 #[vr u7] [xr u7])) rfl (hb hby d1_8)
  obtain ⟨fs, hr, hrun, hended, hW, hsame⟩ := X2.leave (v := some (xi (1 : Int32))) (fun h => by rw [Bd.returns] at h; cases h)
  refine ⟨_, _, pre0 _ ?_, hrun, hended, _, _, rfl, ?_, ⟨_, rfl⟩, hW, hsame.mono (by decide) (by decide)⟩
  · show own_S p e below s₁ (mkF m 0 #[vr u7] []) _
    refine XS.aloadN X0.here hx rfl (hb hby d1_0) rfl rfl ?_
    show own_S p e below s₁ (mkF m 1 #[vr u7] [xr u7]) _
    refine st1 _ ?_
    show own_S p e below T1 (mkF m 4 #[vr u7] [xr u0, xr u7]) _
    refine Jvm.RoadKit.acmp (g := (mkF m 4 #[vr u7] [xr u0, xr u7])) X1 hx rfl rfl rfl (pc0 := 4) (pc' := 7) (same := false) rfl (hb hby d1_4) rfl (own_ref (own_ne_u7_u0 G)) (by decide) (by decide) ?_
    show own_S p e below T1 (mkF m 7 #[vr u7] []) _
    refine XS.aloadN X1.here hx rfl (hb hby d1_7) rfl rfl ?_
    show own_S p e below T1 (mkF m 8 #[vr u7] [xr u7]) _
    refine st2 _ ?_
    show own_S p e below T2 (mkF m 11 #[vr u7] [xr u11, xr u7]) _
    refine Jvm.RoadKit.acmp (g := (mkF m 11 #[vr u7] [xr u11, xr u7])) X2 hx rfl rfl rfl (pc0 := 11) (pc' := 14) (same := false) rfl (hb hby d1_11) rfl (own_ref (own_ne_u7_u11 G)) (by decide) (by decide) ?_
    show own_S p e below T2 (mkF m 14 #[vr u7] []) _
    refine XS.iconst X2.here hx rfl (hb hby d1_14) ?_
    show own_S p e below T2 (mkF m 15 #[vr u7] [xi (1 : Int32)]) _
    refine XS.goto X2.here hx rfl (pc0 := 15) (pc' := 19) rfl (hb hby d1_15) (by decide) (by decide) ?_
    show own_S p e below T2 (mkF m 19 #[vr u7] [xi (1 : Int32)]) _
    exact retN X2 hx (t := .boolean) Bd.returns (by simp) (hb hby d1_19) hr
  · exact ⟨rfl, N0, e2⟩
theorem own_ne_u8_u0 {Z : State} {u0 u1 u2 u3 u4 u5 u6 u7 u8 u9 u10 u11 : Addr} (G : own_St Z u0 u1 u2 u3 u4 u5 u6 u7 u8 u9 u10 u11) : u8 ≠ u0 := Fld.ne (own_F_u8_ordinal G) (own_F_u0_ordinal G) (by decide)
theorem own_ne_u8_u11 {Z : State} {u0 u1 u2 u3 u4 u5 u6 u7 u8 u9 u10 u11 : Addr} (G : own_St Z u0 u1 u2 u3 u4 u5 u6 u7 u8 u9 u10 u11) : u8 ≠ u11 := Fld.ne (own_F_u8_ordinal G) (own_F_u11_ordinal G) (by decide)
theorem ef_own_t8 (m : MethodId) (u0 u1 u2 u3 u4 u5 u6 u7 u8 u9 u10 u11 : Addr) : entryFrame m #[xr u8] 1 = (mkF m 0 #[vr u8] []) := by first | (simp [entryFrame, mkF, argsToLocals, Value.category]; done) | rfl
set_option maxRecDepth 65536 in
set_option maxHeartbeats 40000000 in
theorem own_t8 (l : Launch) (Z : State) (a0 : Array Value) (hw : ∀ d ∈ tables_1, d.before a0 Z = true) (u0 u1 u2 u3 u4 u5 u6 u7 u8 u9 u10 u11 : Addr) (G : own_St Z u0 u1 u2 u3 u4 u5 u6 u7 u8 u9 u10 u11) (h0 : Heap) (n0 : Nat) (O0 : Old Z n0 h0) : own_Met l Z Y0 prog_64_method_6_code 1 (some .boolean) ({ frames := 0, cells := 0, slots := 0, locals := 0 } : Room) #[xr u8] h0 (own_QR (some (xi (1 : Int32))) h0 n0) := by
  intro ws
  refine MetFree.of_bodySF (plainFor_of_name pn0) hisR ?_
  intro p e s m args below meth c s₁ Bd hml0 hP hK
  obtain ⟨rfl, hZ, hh⟩ := hP
  have hx := Bd.exec
  have hby := Bd.bytes
  have hml : c.maxLocals = 1 := hml0
  have hown : s.vm.findClass "com/example/stackwright/stackwright/engine/Step" = some m.cls := findClass_of_methodNamed Bd.named
  have hnm := (name_of_methodNamed Bd.named Bd.method).1
  have X0 : Stand p l e ({ frames := 0, cells := 0, slots := 0, locals := 0 } : Room) s m #[xr u8] below meth c s₁ [] 0 0 := Stand.of_body Bd
  have e0 : s₁.heap = h0 := by rw [← hh, Bd.state]; rfl
  have N0 := Fr.nil n0
  have pre0 : ∀ t, Steps p.tables e below (s₁.setTop (mkF m 0 #[vr u8] [])) t → Steps p.tables e below (s₁.setTop (entryFrame m #[xr u8] 1)) t := fun t st => castTop (ef_own_t8 m u0 u1 u2 u3 u4 u5 u6 u7 u8 u9 u10 u11) st
  obtain ⟨T1, X1, e1, st1⟩ := getS2 X0 hx hZ hown (host := "") (Or.inl (ww hw 35 rfl)) Via.refl e0 ((own_S_u0 G).ext O0.2) (g := (mkF m 1 #[vr u8] [xr u8])) rfl (hb hby d1_1)
  obtain ⟨T2, X2, e2, st2⟩ := getS2 X1 hx hZ hown (host := "") (Or.inl (ww hw 36 rfl)) Via.refl e1 ((own_S_u11 G).ext O0.2) (g := (mkF m 8 #[vr u8] [xr u8])) rfl (hb hby d1_8)
  obtain ⟨fs, hr, hrun, hended, hW, hsame⟩ := X2.leave (v := some (xi (1 : Int32))) (fun h => by rw [Bd.returns] at h; cases h)
  refine ⟨_, _, pre0 _ ?_, hrun, hended, _, _, rfl, ?_, ⟨_, rfl⟩, hW, hsame.mono (by decide) (by decide)⟩
  · show own_S p e below s₁ (mkF m 0 #[vr u8] []) _
    refine XS.aloadN X0.here hx rfl (hb hby d1_0) rfl rfl ?_
    show own_S p e below s₁ (mkF m 1 #[vr u8] [xr u8]) _
    refine st1 _ ?_
    show own_S p e below T1 (mkF m 4 #[vr u8] [xr u0, xr u8]) _
    refine Jvm.RoadKit.acmp (g := (mkF m 4 #[vr u8] [xr u0, xr u8])) X1 hx rfl rfl rfl (pc0 := 4) (pc' := 7) (same := false) rfl (hb hby d1_4) rfl (own_ref (own_ne_u8_u0 G)) (by decide) (by decide) ?_
    show own_S p e below T1 (mkF m 7 #[vr u8] []) _
    refine XS.aloadN X1.here hx rfl (hb hby d1_7) rfl rfl ?_
    show own_S p e below T1 (mkF m 8 #[vr u8] [xr u8]) _
    refine st2 _ ?_
    show own_S p e below T2 (mkF m 11 #[vr u8] [xr u11, xr u8]) _
    refine Jvm.RoadKit.acmp (g := (mkF m 11 #[vr u8] [xr u11, xr u8])) X2 hx rfl rfl rfl (pc0 := 11) (pc' := 14) (same := false) rfl (hb hby d1_11) rfl (own_ref (own_ne_u8_u11 G)) (by decide) (by decide) ?_
    show own_S p e below T2 (mkF m 14 #[vr u8] []) _
    refine XS.iconst X2.here hx rfl (hb hby d1_14) ?_
    show own_S p e below T2 (mkF m 15 #[vr u8] [xi (1 : Int32)]) _
    refine XS.goto X2.here hx rfl (pc0 := 15) (pc' := 19) rfl (hb hby d1_15) (by decide) (by decide) ?_
    show own_S p e below T2 (mkF m 19 #[vr u8] [xi (1 : Int32)]) _
    exact retN X2 hx (t := .boolean) Bd.returns (by simp) (hb hby d1_19) hr
  · exact ⟨rfl, N0, e2⟩
theorem own_ne_u9_u0 {Z : State} {u0 u1 u2 u3 u4 u5 u6 u7 u8 u9 u10 u11 : Addr} (G : own_St Z u0 u1 u2 u3 u4 u5 u6 u7 u8 u9 u10 u11) : u9 ≠ u0 := Fld.ne (own_F_u9_ordinal G) (own_F_u0_ordinal G) (by decide)
theorem own_ne_u9_u11 {Z : State} {u0 u1 u2 u3 u4 u5 u6 u7 u8 u9 u10 u11 : Addr} (G : own_St Z u0 u1 u2 u3 u4 u5 u6 u7 u8 u9 u10 u11) : u9 ≠ u11 := Fld.ne (own_F_u9_ordinal G) (own_F_u11_ordinal G) (by decide)
theorem ef_own_t9 (m : MethodId) (u0 u1 u2 u3 u4 u5 u6 u7 u8 u9 u10 u11 : Addr) : entryFrame m #[xr u9] 1 = (mkF m 0 #[vr u9] []) := by first | (simp [entryFrame, mkF, argsToLocals, Value.category]; done) | rfl
set_option maxRecDepth 65536 in
set_option maxHeartbeats 40000000 in
theorem own_t9 (l : Launch) (Z : State) (a0 : Array Value) (hw : ∀ d ∈ tables_1, d.before a0 Z = true) (u0 u1 u2 u3 u4 u5 u6 u7 u8 u9 u10 u11 : Addr) (G : own_St Z u0 u1 u2 u3 u4 u5 u6 u7 u8 u9 u10 u11) (h0 : Heap) (n0 : Nat) (O0 : Old Z n0 h0) : own_Met l Z Y0 prog_64_method_6_code 1 (some .boolean) ({ frames := 0, cells := 0, slots := 0, locals := 0 } : Room) #[xr u9] h0 (own_QR (some (xi (1 : Int32))) h0 n0) := by
  intro ws
  refine MetFree.of_bodySF (plainFor_of_name pn0) hisR ?_
  intro p e s m args below meth c s₁ Bd hml0 hP hK
  obtain ⟨rfl, hZ, hh⟩ := hP
  have hx := Bd.exec
  have hby := Bd.bytes
  have hml : c.maxLocals = 1 := hml0
  have hown : s.vm.findClass "com/example/stackwright/stackwright/engine/Step" = some m.cls := findClass_of_methodNamed Bd.named
  have hnm := (name_of_methodNamed Bd.named Bd.method).1
  have X0 : Stand p l e ({ frames := 0, cells := 0, slots := 0, locals := 0 } : Room) s m #[xr u9] below meth c s₁ [] 0 0 := Stand.of_body Bd
  have e0 : s₁.heap = h0 := by rw [← hh, Bd.state]; rfl
  have N0 := Fr.nil n0
  have pre0 : ∀ t, Steps p.tables e below (s₁.setTop (mkF m 0 #[vr u9] [])) t → Steps p.tables e below (s₁.setTop (entryFrame m #[xr u9] 1)) t := fun t st => castTop (ef_own_t9 m u0 u1 u2 u3 u4 u5 u6 u7 u8 u9 u10 u11) st
  obtain ⟨T1, X1, e1, st1⟩ := getS2 X0 hx hZ hown (host := "") (Or.inl (ww hw 35 rfl)) Via.refl e0 ((own_S_u0 G).ext O0.2) (g := (mkF m 1 #[vr u9] [xr u9])) rfl (hb hby d1_1)
  obtain ⟨T2, X2, e2, st2⟩ := getS2 X1 hx hZ hown (host := "") (Or.inl (ww hw 36 rfl)) Via.refl e1 ((own_S_u11 G).ext O0.2) (g := (mkF m 8 #[vr u9] [xr u9])) rfl (hb hby d1_8)
  obtain ⟨fs, hr, hrun, hended, hW, hsame⟩ := X2.leave (v := some (xi (1 : Int32))) (fun h => by rw [Bd.returns] at h; cases h)
  refine ⟨_, _, pre0 _ ?_, hrun, hended, _, _, rfl, ?_, ⟨_, rfl⟩, hW, hsame.mono (by decide) (by decide)⟩
  · show own_S p e below s₁ (mkF m 0 #[vr u9] []) _
    refine XS.aloadN X0.here hx rfl (hb hby d1_0) rfl rfl ?_
    show own_S p e below s₁ (mkF m 1 #[vr u9] [xr u9]) _
    refine st1 _ ?_
    show own_S p e below T1 (mkF m 4 #[vr u9] [xr u0, xr u9]) _
    refine Jvm.RoadKit.acmp (g := (mkF m 4 #[vr u9] [xr u0, xr u9])) X1 hx rfl rfl rfl (pc0 := 4) (pc' := 7) (same := false) rfl (hb hby d1_4) rfl (own_ref (own_ne_u9_u0 G)) (by decide) (by decide) ?_
    show own_S p e below T1 (mkF m 7 #[vr u9] []) _
    refine XS.aloadN X1.here hx rfl (hb hby d1_7) rfl rfl ?_
    show own_S p e below T1 (mkF m 8 #[vr u9] [xr u9]) _
    refine st2 _ ?_
    show own_S p e below T2 (mkF m 11 #[vr u9] [xr u11, xr u9]) _
    refine Jvm.RoadKit.acmp (g := (mkF m 11 #[vr u9] [xr u11, xr u9])) X2 hx rfl rfl rfl (pc0 := 11) (pc' := 14) (same := false) rfl (hb hby d1_11) rfl (own_ref (own_ne_u9_u11 G)) (by decide) (by decide) ?_
    show own_S p e below T2 (mkF m 14 #[vr u9] []) _
    refine XS.iconst X2.here hx rfl (hb hby d1_14) ?_
    show own_S p e below T2 (mkF m 15 #[vr u9] [xi (1 : Int32)]) _
    refine XS.goto X2.here hx rfl (pc0 := 15) (pc' := 19) rfl (hb hby d1_15) (by decide) (by decide) ?_
    show own_S p e below T2 (mkF m 19 #[vr u9] [xi (1 : Int32)]) _
    exact retN X2 hx (t := .boolean) Bd.returns (by simp) (hb hby d1_19) hr
  · exact ⟨rfl, N0, e2⟩
theorem own_ne_u10_u0 {Z : State} {u0 u1 u2 u3 u4 u5 u6 u7 u8 u9 u10 u11 : Addr} (G : own_St Z u0 u1 u2 u3 u4 u5 u6 u7 u8 u9 u10 u11) : u10 ≠ u0 := Fld.ne (own_F_u10_ordinal G) (own_F_u0_ordinal G) (by decide)
theorem own_ne_u10_u11 {Z : State} {u0 u1 u2 u3 u4 u5 u6 u7 u8 u9 u10 u11 : Addr} (G : own_St Z u0 u1 u2 u3 u4 u5 u6 u7 u8 u9 u10 u11) : u10 ≠ u11 := Fld.ne (own_F_u10_ordinal G) (own_F_u11_ordinal G) (by decide)
theorem ef_own_t10 (m : MethodId) (u0 u1 u2 u3 u4 u5 u6 u7 u8 u9 u10 u11 : Addr) : entryFrame m #[xr u10] 1 = (mkF m 0 #[vr u10] []) := by first | (simp [entryFrame, mkF, argsToLocals, Value.category]; done) | rfl
set_option maxRecDepth 65536 in
set_option maxHeartbeats 40000000 in
theorem own_t10 (l : Launch) (Z : State) (a0 : Array Value) (hw : ∀ d ∈ tables_1, d.before a0 Z = true) (u0 u1 u2 u3 u4 u5 u6 u7 u8 u9 u10 u11 : Addr) (G : own_St Z u0 u1 u2 u3 u4 u5 u6 u7 u8 u9 u10 u11) (h0 : Heap) (n0 : Nat) (O0 : Old Z n0 h0) : own_Met l Z Y0 prog_64_method_6_code 1 (some .boolean) ({ frames := 0, cells := 0, slots := 0, locals := 0 } : Room) #[xr u10] h0 (own_QR (some (xi (1 : Int32))) h0 n0) := by
  intro ws
  refine MetFree.of_bodySF (plainFor_of_name pn0) hisR ?_
  intro p e s m args below meth c s₁ Bd hml0 hP hK
  obtain ⟨rfl, hZ, hh⟩ := hP
  have hx := Bd.exec
  have hby := Bd.bytes
  have hml : c.maxLocals = 1 := hml0
  have hown : s.vm.findClass "com/example/stackwright/stackwright/engine/Step" = some m.cls := findClass_of_methodNamed Bd.named
  have hnm := (name_of_methodNamed Bd.named Bd.method).1
  have X0 : Stand p l e ({ frames := 0, cells := 0, slots := 0, locals := 0 } : Room) s m #[xr u10] below meth c s₁ [] 0 0 := Stand.of_body Bd
  have e0 : s₁.heap = h0 := by rw [← hh, Bd.state]; rfl
  have N0 := Fr.nil n0
  have pre0 : ∀ t, Steps p.tables e below (s₁.setTop (mkF m 0 #[vr u10] [])) t → Steps p.tables e below (s₁.setTop (entryFrame m #[xr u10] 1)) t := fun t st => castTop (ef_own_t10 m u0 u1 u2 u3 u4 u5 u6 u7 u8 u9 u10 u11) st
  obtain ⟨T1, X1, e1, st1⟩ := getS2 X0 hx hZ hown (host := "") (Or.inl (ww hw 35 rfl)) Via.refl e0 ((own_S_u0 G).ext O0.2) (g := (mkF m 1 #[vr u10] [xr u10])) rfl (hb hby d1_1)
  obtain ⟨T2, X2, e2, st2⟩ := getS2 X1 hx hZ hown (host := "") (Or.inl (ww hw 36 rfl)) Via.refl e1 ((own_S_u11 G).ext O0.2) (g := (mkF m 8 #[vr u10] [xr u10])) rfl (hb hby d1_8)
  obtain ⟨fs, hr, hrun, hended, hW, hsame⟩ := X2.leave (v := some (xi (1 : Int32))) (fun h => by rw [Bd.returns] at h; cases h)
  refine ⟨_, _, pre0 _ ?_, hrun, hended, _, _, rfl, ?_, ⟨_, rfl⟩, hW, hsame.mono (by decide) (by decide)⟩
  · show own_S p e below s₁ (mkF m 0 #[vr u10] []) _
    refine XS.aloadN X0.here hx rfl (hb hby d1_0) rfl rfl ?_
    show own_S p e below s₁ (mkF m 1 #[vr u10] [xr u10]) _
    refine st1 _ ?_
    show own_S p e below T1 (mkF m 4 #[vr u10] [xr u0, xr u10]) _
    refine Jvm.RoadKit.acmp (g := (mkF m 4 #[vr u10] [xr u0, xr u10])) X1 hx rfl rfl rfl (pc0 := 4) (pc' := 7) (same := false) rfl (hb hby d1_4) rfl (own_ref (own_ne_u10_u0 G)) (by decide) (by decide) ?_
    show own_S p e below T1 (mkF m 7 #[vr u10] []) _
    refine XS.aloadN X1.here hx rfl (hb hby d1_7) rfl rfl ?_
    show own_S p e below T1 (mkF m 8 #[vr u10] [xr u10]) _
    refine st2 _ ?_
    show own_S p e below T2 (mkF m 11 #[vr u10] [xr u11, xr u10]) _
    refine Jvm.RoadKit.acmp (g := (mkF m 11 #[vr u10] [xr u11, xr u10])) X2 hx rfl rfl rfl (pc0 := 11) (pc' := 14) (same := false) rfl (hb hby d1_11) rfl (own_ref (own_ne_u10_u11 G)) (by decide) (by decide) ?_
    show own_S p e below T2 (mkF m 14 #[vr u10] []) _
    refine XS.iconst X2.here hx rfl (hb hby d1_14) ?_
    show own_S p e below T2 (mkF m 15 #[vr u10] [xi (1 : Int32)]) _
    refine XS.goto X2.here hx rfl (pc0 := 15) (pc' := 19) rfl (hb hby d1_15) (by decide) (by decide) ?_
    show own_S p e below T2 (mkF m 19 #[vr u10] [xi (1 : Int32)]) _
    exact retN X2 hx (t := .boolean) Bd.returns (by simp) (hb hby d1_19) hr
  · exact ⟨rfl, N0, e2⟩
theorem own_ne_u11_u0 {Z : State} {u0 u1 u2 u3 u4 u5 u6 u7 u8 u9 u10 u11 : Addr} (G : own_St Z u0 u1 u2 u3 u4 u5 u6 u7 u8 u9 u10 u11) : u11 ≠ u0 := Fld.ne (own_F_u11_ordinal G) (own_F_u0_ordinal G) (by decide)
theorem ef_own_t11 (m : MethodId) (u0 u1 u2 u3 u4 u5 u6 u7 u8 u9 u10 u11 : Addr) : entryFrame m #[xr u11] 1 = (mkF m 0 #[vr u11] []) := by first | (simp [entryFrame, mkF, argsToLocals, Value.category]; done) | rfl
set_option maxRecDepth 65536 in
set_option maxHeartbeats 40000000 in
theorem own_t11 (l : Launch) (Z : State) (a0 : Array Value) (hw : ∀ d ∈ tables_1, d.before a0 Z = true) (u0 u1 u2 u3 u4 u5 u6 u7 u8 u9 u10 u11 : Addr) (G : own_St Z u0 u1 u2 u3 u4 u5 u6 u7 u8 u9 u10 u11) (h0 : Heap) (n0 : Nat) (O0 : Old Z n0 h0) : own_Met l Z Y0 prog_64_method_6_code 1 (some .boolean) ({ frames := 0, cells := 0, slots := 0, locals := 0 } : Room) #[xr u11] h0 (own_QR (some (xi (0 : Int32))) h0 n0) := by
  intro ws
  refine MetFree.of_bodySF (plainFor_of_name pn0) hisR ?_
  intro p e s m args below meth c s₁ Bd hml0 hP hK
  obtain ⟨rfl, hZ, hh⟩ := hP
  have hx := Bd.exec
  have hby := Bd.bytes
  have hml : c.maxLocals = 1 := hml0
  have hown : s.vm.findClass "com/example/stackwright/stackwright/engine/Step" = some m.cls := findClass_of_methodNamed Bd.named
  have hnm := (name_of_methodNamed Bd.named Bd.method).1
  have X0 : Stand p l e ({ frames := 0, cells := 0, slots := 0, locals := 0 } : Room) s m #[xr u11] below meth c s₁ [] 0 0 := Stand.of_body Bd
  have e0 : s₁.heap = h0 := by rw [← hh, Bd.state]; rfl
  have N0 := Fr.nil n0
  have pre0 : ∀ t, Steps p.tables e below (s₁.setTop (mkF m 0 #[vr u11] [])) t → Steps p.tables e below (s₁.setTop (entryFrame m #[xr u11] 1)) t := fun t st => castTop (ef_own_t11 m u0 u1 u2 u3 u4 u5 u6 u7 u8 u9 u10 u11) st
  obtain ⟨T1, X1, e1, st1⟩ := getS2 X0 hx hZ hown (host := "") (Or.inl (ww hw 35 rfl)) Via.refl e0 ((own_S_u0 G).ext O0.2) (g := (mkF m 1 #[vr u11] [xr u11])) rfl (hb hby d1_1)
  obtain ⟨T2, X2, e2, st2⟩ := getS2 X1 hx hZ hown (host := "") (Or.inl (ww hw 36 rfl)) Via.refl e1 ((own_S_u11 G).ext O0.2) (g := (mkF m 8 #[vr u11] [xr u11])) rfl (hb hby d1_8)
  obtain ⟨fs, hr, hrun, hended, hW, hsame⟩ := X2.leave (v := some (xi (0 : Int32))) (fun h => by rw [Bd.returns] at h; cases h)
  refine ⟨_, _, pre0 _ ?_, hrun, hended, _, _, rfl, ?_, ⟨_, rfl⟩, hW, hsame.mono (by decide) (by decide)⟩
  · show own_S p e below s₁ (mkF m 0 #[vr u11] []) _
    refine XS.aloadN X0.here hx rfl (hb hby d1_0) rfl rfl ?_
    show own_S p e below s₁ (mkF m 1 #[vr u11] [xr u11]) _
    refine st1 _ ?_
    show own_S p e below T1 (mkF m 4 #[vr u11] [xr u0, xr u11]) _
    refine Jvm.RoadKit.acmp (g := (mkF m 4 #[vr u11] [xr u0, xr u11])) X1 hx rfl rfl rfl (pc0 := 4) (pc' := 7) (same := false) rfl (hb hby d1_4) rfl (own_ref (own_ne_u11_u0 G)) (by decide) (by decide) ?_
    show own_S p e below T1 (mkF m 7 #[vr u11] []) _
    refine XS.aloadN X1.here hx rfl (hb hby d1_7) rfl rfl ?_
    show own_S p e below T1 (mkF m 8 #[vr u11] [xr u11]) _
    refine st2 _ ?_
    show own_S p e below T2 (mkF m 11 #[vr u11] [xr u11, xr u11]) _
    refine Jvm.RoadKit.acmp (g := (mkF m 11 #[vr u11] [xr u11, xr u11])) X2 hx rfl rfl rfl (pc0 := 11) (pc' := 18) (same := true) rfl (hb hby d1_11) rfl (decide_eq_true rfl) (by decide) (by decide) ?_
    show own_S p e below T2 (mkF m 18 #[vr u11] []) _
    refine XS.iconst X2.here hx rfl (hb hby d1_18) ?_
    show own_S p e below T2 (mkF m 19 #[vr u11] [xi (0 : Int32)]) _
    exact retN X2 hx (t := .boolean) Bd.returns (by simp) (hb hby d1_19) hr
  · exact ⟨rfl, N0, e2⟩
theorem pd0 : parseMethodDescriptor "()Z" = some ⟨[], some .boolean⟩ := by decide +kernel
theorem pn1 : plainName "com/example/stackwright/stackwright/engine/StepGivesPriorityPinLaw" = true := by first | (simp [plainName, overriddenIn]; done) | decide +kernel
theorem ef_own_lp (m : MethodId) (u0 u1 u2 u3 u4 u5 u6 u7 u8 u9 u10 u11 : Addr) (p1 : Int32) (ii : Int32) (uu : Addr) (bb : Int32) : entryFrame m #[xi p1] maxLocals = (mkF m 0 #[vi p1, vu, vu, vu] []) := by first | (simp [entryFrame, mkF, argsToLocals, Value.category, maxLocals]; done) | rfl
set_option maxRecDepth 65536 in
set_option maxHeartbeats 40000000 in
theorem own_lp (l : Launch) (Z : State) (a0 : Array Value) (hw : ∀ d ∈ tables_1, d.before a0 Z = true) (u0 u1 u2 u3 u4 u5 u6 u7 u8 u9 u10 u11 : Addr) (G : own_St Z u0 u1 u2 u3 u4 u5 u6 u7 u8 u9 u10 u11) (p1 : Int32) (ii : Int32) (uu : Addr) (bb : Int32) (as12 : ((p1 &&& (2147483647 : Int32)) - ((p1 &&& (2147483647 : Int32)) / (12 : Int32)) * (12 : Int32)) = ii) (h0 : Heap) (n0 : Nat) (O0 : Old Z n0 h0) (hX : Exa Z Z.heap uu "com/example/stackwright/stackwright/engine/Step") (hlt : ¬ ii < 0 ∧ ii < (12 : Int32)) (hg1 : ([xr u0, xr u1, xr u2, xr u3, xr u4, xr u5, xr u6, xr u7, xr u8, xr u9, xr u10, xr u11] : List Value).getD ii.toNatClampNeg .null = xr uu) (hg2 : ([xi (nar .boolean (0 : Int32)), xi (nar .boolean (1 : Int32)), xi (nar .boolean (1 : Int32)), xi (nar .boolean (1 : Int32)), xi (nar .boolean (1 : Int32)), xi (nar .boolean (1 : Int32)), xi (nar .boolean (1 : Int32)), xi (nar .boolean (1 : Int32)), xi (nar .boolean (1 : Int32)), xi (nar .boolean (1 : Int32)), xi (nar .boolean (1 : Int32)), xi (nar .boolean (0 : Int32))] : List Value).getD ii.toNatClampNeg (.int (0 : Int32)) = xi bb) (hc : ∀ h, Old Z n0 h → own_Met l Z Y0 prog_64_method_6_code 1 (some .boolean) ({ frames := 0, cells := 0, slots := 0, locals := 0 } : Room) #[xr uu] h (own_QR (some (xi bb)) h n0)) : own_Met l Z x code maxLocals ret room_1 #[xi p1] h0 (own_QL (some (xi (1 : Int32))) n0) := by
  intro ws
  refine MetFree.of_bodySF (plainFor_of_name pn1) hisR ?_
  intro p e s m args below meth c s₁ Bd hml0 hP hK
  obtain ⟨rfl, hZ, hh⟩ := hP
  have hx := Bd.exec
  have hby := Bd.bytes
  have hml : c.maxLocals = 4 := hml0
  have hown : s.vm.findClass "com/example/stackwright/stackwright/engine/StepGivesPriorityPinLaw" = some m.cls := findClass_of_methodNamed Bd.named
  have hnm := (name_of_methodNamed Bd.named Bd.method).1
  have X0 : Stand p l e room_1 s m #[xi p1] below meth c s₁ [] 0 0 := Stand.of_body Bd
  have e0 : s₁.heap = h0 := by rw [← hh, Bd.state]; rfl
  have N0 := Fr.nil n0
  have pre0 : ∀ t, Steps p.tables e below (s₁.setTop (mkF m 0 #[vi p1, vu, vu, vu] [])) t → Steps p.tables e below (s₁.setTop (entryFrame m #[xi p1] maxLocals)) t := fun t st => castTop (ef_own_lp m u0 u1 u2 u3 u4 u5 u6 u7 u8 u9 u10 u11 p1 ii uu bb) st
  obtain ⟨T1, h1, k1, X1, e1, E1, A1, Ov1, st1⟩ := newR X0 hx hZ hown (ww hw 0 rfl) (ww hw 1 rfl) e0 (g := (mkF m 2 #[vi p1, vu, vu, vu] [xi (12 : Int32)])) rfl (hb hby at_2) rfl (by decide) (cap := 12) (by decide) (by decide) (by decide) (by decide)
  obtain ⟨b1, g1⟩ : ∃ z, z = h0.size := ⟨_, rfl⟩
  rw [← g1] at A1 st1
  have g_b1 : n0 ≤ b1 := own_fresh O0 g1
  have O1 : Old Z n0 h1 := O0.ext E1
  have V_b1 : Arv Z h1 b1 k1 (.object "com/example/stackwright/stackwright/engine/Step") (12 : Int32) [.null, .null, .null, .null, .null, .null, .null, .null, .null, .null, .null, .null] .null := (Arv.new A1 (by decide)).pad (pad_rep [] .null 12)
  obtain ⟨T2, X2, e2, st2⟩ := getS2 X1 hx hZ hown (host := "") (Or.inl (ww hw 2 rfl)) Via.refl e1 ((own_S_u0 G).ext O1.2) (g := (mkF m 7 #[vi p1, vu, vu, vu] [xi (0 : Int32), xr b1, xr b1])) rfl (hb hby at_7)
  obtain ⟨cl3, Ar3, q3, S3, N3_, H3, G3⟩ := id V_b1
  have hin3 : ¬ ((0 : Int32) < 0 ∨ cl3.slots.size ≤ ((0 : Int32)).toNatClampNeg) := inb_of S3 ⟨by decide, by decide⟩
  obtain ⟨T4, h4, X4, e4, W4, st4⟩ := stR X2 hx hZ e2 Ar3 (j := (0 : Int32)) hin3 rfl (Sto.ofV Ar3 q3 Ov1 (Ins.self ((own_X_u0 G).ext O1.2))) (g := (mkF m 10 #[vi p1, vu, vu, vu] [xr u0, xi (0 : Int32), xr b1, xr b1])) rfl rfl (hb hby at_10)
  have V_b1_4 : Arv Z h4 b1 k1 (.object "com/example/stackwright/stackwright/engine/Step") (12 : Int32) [xr u0, .null, .null, .null, .null, .null, .null, .null, .null, .null, .null, .null] .null := Arv.set Ar3 q3 S3 N3_ H3 G3 rfl W4 0 rfl (Nat.le_of_ble_eq_true rfl)
  have O4 : Old Z n0 h4 := O1.wr W4 g_b1
  have N4 := Fr.snoc X4 N0 g_b1
  obtain ⟨LL4, X4, N4⟩ := own_pack X4 N4
  obtain ⟨T5, X5, e5, st5⟩ := getS2 X4 hx hZ hown (host := "") (Or.inl (ww hw 6 rfl)) Via.refl e4 ((own_S_u1 G).ext O4.2) (g := (mkF m 13 #[vi p1, vu, vu, vu] [xi (1 : Int32), xr b1, xr b1])) rfl (hb hby at_13)
  obtain ⟨cl6, Ar6, q6, S6, N6_, H6, G6⟩ := id V_b1_4
  have hin6 : ¬ ((1 : Int32) < 0 ∨ cl6.slots.size ≤ ((1 : Int32)).toNatClampNeg) := inb_of S6 ⟨by decide, by decide⟩
  obtain ⟨T7, h7, X7, e7, W7, st7⟩ := stR X5 hx hZ e5 Ar6 (j := (1 : Int32)) hin6 rfl (Sto.ofV Ar6 q6 Ov1 (Ins.self ((own_X_u1 G).ext O4.2))) (g := (mkF m 16 #[vi p1, vu, vu, vu] [xr u1, xi (1 : Int32), xr b1, xr b1])) rfl rfl (hb hby at_16)
  have V_b1_7 : Arv Z h7 b1 k1 (.object "com/example/stackwright/stackwright/engine/Step") (12 : Int32) [xr u0, xr u1, .null, .null, .null, .null, .null, .null, .null, .null, .null, .null] .null := Arv.set Ar6 q6 S6 N6_ H6 G6 rfl W7 1 rfl (Nat.le_of_ble_eq_true rfl)
  have O7 : Old Z n0 h7 := O4.wr W7 g_b1
  have N7 := Fr.snoc X7 N4 g_b1
  obtain ⟨LL7, X7, N7⟩ := own_pack X7 N7
  obtain ⟨T8, X8, e8, st8⟩ := getS2 X7 hx hZ hown (host := "") (Or.inl (ww hw 8 rfl)) Via.refl e7 ((own_S_u2 G).ext O7.2) (g := (mkF m 19 #[vi p1, vu, vu, vu] [xi (2 : Int32), xr b1, xr b1])) rfl (hb hby at_19)
  obtain ⟨cl9, Ar9, q9, S9, N9_, H9, G9⟩ := id V_b1_7
  have hin9 : ¬ ((2 : Int32) < 0 ∨ cl9.slots.size ≤ ((2 : Int32)).toNatClampNeg) := inb_of S9 ⟨by decide, by decide⟩
  obtain ⟨T10, h10, X10, e10, W10, st10⟩ := stR X8 hx hZ e8 Ar9 (j := (2 : Int32)) hin9 rfl (Sto.ofV Ar9 q9 Ov1 (Ins.self ((own_X_u2 G).ext O7.2))) (g := (mkF m 22 #[vi p1, vu, vu, vu] [xr u2, xi (2 : Int32), xr b1, xr b1])) rfl rfl (hb hby at_22)
  have V_b1_10 : Arv Z h10 b1 k1 (.object "com/example/stackwright/stackwright/engine/Step") (12 : Int32) [xr u0, xr u1, xr u2, .null, .null, .null, .null, .null, .null, .null, .null, .null] .null := Arv.set Ar9 q9 S9 N9_ H9 G9 rfl W10 2 rfl (Nat.le_of_ble_eq_true rfl)
  have O10 : Old Z n0 h10 := O7.wr W10 g_b1
  have N10 := Fr.snoc X10 N7 g_b1
  obtain ⟨LL10, X10, N10⟩ := own_pack X10 N10
  obtain ⟨T11, X11, e11, st11⟩ := getS2 X10 hx hZ hown (host := "") (Or.inl (ww hw 10 rfl)) Via.refl e10 ((own_S_u3 G).ext O10.2) (g := (mkF m 25 #[vi p1, vu, vu, vu] [xi (3 : Int32), xr b1, xr b1])) rfl (hb hby at_25)
  obtain ⟨cl12, Ar12, q12, S12, N12_, H12, G12⟩ := id V_b1_10
  have hin12 : ¬ ((3 : Int32) < 0 ∨ cl12.slots.size ≤ ((3 : Int32)).toNatClampNeg) := inb_of S12 ⟨by decide, by decide⟩
  obtain ⟨T13, h13, X13, e13, W13, st13⟩ := stR X11 hx hZ e11 Ar12 (j := (3 : Int32)) hin12 rfl (Sto.ofV Ar12 q12 Ov1 (Ins.self ((own_X_u3 G).ext O10.2))) (g := (mkF m 28 #[vi p1, vu, vu, vu] [xr u3, xi (3 : Int32), xr b1, xr b1])) rfl rfl (hb hby at_28)
  have V_b1_13 : Arv Z h13 b1 k1 (.object "com/example/stackwright/stackwright/engine/Step") (12 : Int32) [xr u0, xr u1, xr u2, xr u3, .null, .null, .null, .null, .null, .null, .null, .null] .null := Arv.set Ar12 q12 S12 N12_ H12 G12 rfl W13 3 rfl (Nat.le_of_ble_eq_true rfl)
  have O13 : Old Z n0 h13 := O10.wr W13 g_b1
  have N13 := Fr.snoc X13 N10 g_b1
  obtain ⟨LL13, X13, N13⟩ := own_pack X13 N13
  obtain ⟨T14, X14, e14, st14⟩ := getS2 X13 hx hZ hown (host := "") (Or.inl (ww hw 12 rfl)) Via.refl e13 ((own_S_u4 G).ext O13.2) (g := (mkF m 31 #[vi p1, vu, vu, vu] [xi (4 : Int32), xr b1, xr b1])) rfl (hb hby at_31)
  obtain ⟨cl15, Ar15, q15, S15, N15_, H15, G15⟩ := id V_b1_13
  have hin15 : ¬ ((4 : Int32) < 0 ∨ cl15.slots.size ≤ ((4 : Int32)).toNatClampNeg) := inb_of S15 ⟨by decide, by decide⟩
  obtain ⟨T16, h16, X16, e16, W16, st16⟩ := stR X14 hx hZ e14 Ar15 (j := (4 : Int32)) hin15 rfl (Sto.ofV Ar15 q15 Ov1 (Ins.self ((own_X_u4 G).ext O13.2))) (g := (mkF m 34 #[vi p1, vu, vu, vu] [xr u4, xi (4 : Int32), xr b1, xr b1])) rfl rfl (hb hby at_34)
  have V_b1_16 : Arv Z h16 b1 k1 (.object "com/example/stackwright/stackwright/engine/Step") (12 : Int32) [xr u0, xr u1, xr u2, xr u3, xr u4, .null, .null, .null, .null, .null, .null, .null] .null := Arv.set Ar15 q15 S15 N15_ H15 G15 rfl W16 4 rfl (Nat.le_of_ble_eq_true rfl)
  have O16 : Old Z n0 h16 := O13.wr W16 g_b1
  have N16 := Fr.snoc X16 N13 g_b1
  obtain ⟨LL16, X16, N16⟩ := own_pack X16 N16
  obtain ⟨T17, X17, e17, st17⟩ := getS2 X16 hx hZ hown (host := "") (Or.inl (ww hw 14 rfl)) Via.refl e16 ((own_S_u5 G).ext O16.2) (g := (mkF m 37 #[vi p1, vu, vu, vu] [xi (5 : Int32), xr b1, xr b1])) rfl (hb hby at_37)
  obtain ⟨cl18, Ar18, q18, S18, N18_, H18, G18⟩ := id V_b1_16
  have hin18 : ¬ ((5 : Int32) < 0 ∨ cl18.slots.size ≤ ((5 : Int32)).toNatClampNeg) := inb_of S18 ⟨by decide, by decide⟩
  obtain ⟨T19, h19, X19, e19, W19, st19⟩ := stR X17 hx hZ e17 Ar18 (j := (5 : Int32)) hin18 rfl (Sto.ofV Ar18 q18 Ov1 (Ins.self ((own_X_u5 G).ext O16.2))) (g := (mkF m 40 #[vi p1, vu, vu, vu] [xr u5, xi (5 : Int32), xr b1, xr b1])) rfl rfl (hb hby at_40)
  have V_b1_19 : Arv Z h19 b1 k1 (.object "com/example/stackwright/stackwright/engine/Step") (12 : Int32) [xr u0, xr u1, xr u2, xr u3, xr u4, xr u5, .null, .null, .null, .null, .null, .null] .null := Arv.set Ar18 q18 S18 N18_ H18 G18 rfl W19 5 rfl (Nat.le_of_ble_eq_true rfl)
  have O19 : Old Z n0 h19 := O16.wr W19 g_b1
  have N19 := Fr.snoc X19 N16 g_b1
  obtain ⟨LL19, X19, N19⟩ := own_pack X19 N19
  obtain ⟨T20, X20, e20, st20⟩ := getS2 X19 hx hZ hown (host := "") (Or.inl (ww hw 16 rfl)) Via.refl e19 ((own_S_u6 G).ext O19.2) (g := (mkF m 44 #[vi p1, vu, vu, vu] [xi (6 : Int32), xr b1, xr b1])) rfl (hb hby at_44)
  obtain ⟨cl21, Ar21, q21, S21, N21_, H21, G21⟩ := id V_b1_19
  have hin21 : ¬ ((6 : Int32) < 0 ∨ cl21.slots.size ≤ ((6 : Int32)).toNatClampNeg) := inb_of S21 ⟨by decide, by decide⟩
  obtain ⟨T22, h22, X22, e22, W22, st22⟩ := stR X20 hx hZ e20 Ar21 (j := (6 : Int32)) hin21 rfl (Sto.ofV Ar21 q21 Ov1 (Ins.self ((own_X_u6 G).ext O19.2))) (g := (mkF m 47 #[vi p1, vu, vu, vu] [xr u6, xi (6 : Int32), xr b1, xr b1])) rfl rfl (hb hby at_47)
  have V_b1_22 : Arv Z h22 b1 k1 (.object "com/example/stackwright/stackwright/engine/Step") (12 : Int32) [xr u0, xr u1, xr u2, xr u3, xr u4, xr u5, xr u6, .null, .null, .null, .null, .null] .null := Arv.set Ar21 q21 S21 N21_ H21 G21 rfl W22 6 rfl (Nat.le_of_ble_eq_true rfl)
  have O22 : Old Z n0 h22 := O19.wr W22 g_b1
  have N22 := Fr.snoc X22 N19 g_b1
  obtain ⟨LL22, X22, N22⟩ := own_pack X22 N22
  obtain ⟨T23, X23, e23, st23⟩ := getS2 X22 hx hZ hown (host := "") (Or.inl (ww hw 18 rfl)) Via.refl e22 ((own_S_u7 G).ext O22.2) (g := (mkF m 51 #[vi p1, vu, vu, vu] [xi (7 : Int32), xr b1, xr b1])) rfl (hb hby at_51)
  obtain ⟨cl24, Ar24, q24, S24, N24_, H24, G24⟩ := id V_b1_22
  have hin24 : ¬ ((7 : Int32) < 0 ∨ cl24.slots.size ≤ ((7 : Int32)).toNatClampNeg) := inb_of S24 ⟨by decide, by decide⟩
  obtain ⟨T25, h25, X25, e25, W25, st25⟩ := stR X23 hx hZ e23 Ar24 (j := (7 : Int32)) hin24 rfl (Sto.ofV Ar24 q24 Ov1 (Ins.self ((own_X_u7 G).ext O22.2))) (g := (mkF m 54 #[vi p1, vu, vu, vu] [xr u7, xi (7 : Int32), xr b1, xr b1])) rfl rfl (hb hby at_54)
  have V_b1_25 : Arv Z h25 b1 k1 (.object "com/example/stackwright/stackwright/engine/Step") (12 : Int32) [xr u0, xr u1, xr u2, xr u3, xr u4, xr u5, xr u6, xr u7, .null, .null, .null, .null] .null := Arv.set Ar24 q24 S24 N24_ H24 G24 rfl W25 7 rfl (Nat.le_of_ble_eq_true rfl)
  have O25 : Old Z n0 h25 := O22.wr W25 g_b1
  have N25 := Fr.snoc X25 N22 g_b1
  obtain ⟨LL25, X25, N25⟩ := own_pack X25 N25
  obtain ⟨T26, X26, e26, st26⟩ := getS2 X25 hx hZ hown (host := "") (Or.inl (ww hw 20 rfl)) Via.refl e25 ((own_S_u8 G).ext O25.2) (g := (mkF m 58 #[vi p1, vu, vu, vu] [xi (8 : Int32), xr b1, xr b1])) rfl (hb hby at_58)
  obtain ⟨cl27, Ar27, q27, S27, N27_, H27, G27⟩ := id V_b1_25
  have hin27 : ¬ ((8 : Int32) < 0 ∨ cl27.slots.size ≤ ((8 : Int32)).toNatClampNeg) := inb_of S27 ⟨by decide, by decide⟩
  obtain ⟨T28, h28, X28, e28, W28, st28⟩ := stR X26 hx hZ e26 Ar27 (j := (8 : Int32)) hin27 rfl (Sto.ofV Ar27 q27 Ov1 (Ins.self ((own_X_u8 G).ext O25.2))) (g := (mkF m 61 #[vi p1, vu, vu, vu] [xr u8, xi (8 : Int32), xr b1, xr b1])) rfl rfl (hb hby at_61)
  have V_b1_28 : Arv Z h28 b1 k1 (.object "com/example/stackwright/stackwright/engine/Step") (12 : Int32) [xr u0, xr u1, xr u2, xr u3, xr u4, xr u5, xr u6, xr u7, xr u8, .null, .null, .null] .null := Arv.set Ar27 q27 S27 N27_ H27 G27 rfl W28 8 rfl (Nat.le_of_ble_eq_true rfl)
  have O28 : Old Z n0 h28 := O25.wr W28 g_b1
  have N28 := Fr.snoc X28 N25 g_b1
  obtain ⟨LL28, X28, N28⟩ := own_pack X28 N28
  obtain ⟨T29, X29, e29, st29⟩ := getS2 X28 hx hZ hown (host := "") (Or.inl (ww hw 22 rfl)) Via.refl e28 ((own_S_u9 G).ext O28.2) (g := (mkF m 65 #[vi p1, vu, vu, vu] [xi (9 : Int32), xr b1, xr b1])) rfl (hb hby at_65)
  obtain ⟨cl30, Ar30, q30, S30, N30_, H30, G30⟩ := id V_b1_28
  have hin30 : ¬ ((9 : Int32) < 0 ∨ cl30.slots.size ≤ ((9 : Int32)).toNatClampNeg) := inb_of S30 ⟨by decide, by decide⟩
  obtain ⟨T31, h31, X31, e31, W31, st31⟩ := stR X29 hx hZ e29 Ar30 (j := (9 : Int32)) hin30 rfl (Sto.ofV Ar30 q30 Ov1 (Ins.self ((own_X_u9 G).ext O28.2))) (g := (mkF m 68 #[vi p1, vu, vu, vu] [xr u9, xi (9 : Int32), xr b1, xr b1])) rfl rfl (hb hby at_68)
  have V_b1_31 : Arv Z h31 b1 k1 (.object "com/example/stackwright/stackwright/engine/Step") (12 : Int32) [xr u0, xr u1, xr u2, xr u3, xr u4, xr u5, xr u6, xr u7, xr u8, xr u9, .null, .null] .null := Arv.set Ar30 q30 S30 N30_ H30 G30 rfl W31 9 rfl (Nat.le_of_ble_eq_true rfl)
  have O31 : Old Z n0 h31 := O28.wr W31 g_b1
  have N31 := Fr.snoc X31 N28 g_b1
  obtain ⟨LL31, X31, N31⟩ := own_pack X31 N31
  obtain ⟨T32, X32, e32, st32⟩ := getS2 X31 hx hZ hown (host := "") (Or.inl (ww hw 24 rfl)) Via.refl e31 ((own_S_u10 G).ext O31.2) (g := (mkF m 72 #[vi p1, vu, vu, vu] [xi (10 : Int32), xr b1, xr b1])) rfl (hb hby at_72)
  obtain ⟨cl33, Ar33, q33, S33, N33_, H33, G33⟩ := id V_b1_31
  have hin33 : ¬ ((10 : Int32) < 0 ∨ cl33.slots.size ≤ ((10 : Int32)).toNatClampNeg) := inb_of S33 ⟨by decide, by decide⟩
  obtain ⟨T34, h34, X34, e34, W34, st34⟩ := stR X32 hx hZ e32 Ar33 (j := (10 : Int32)) hin33 rfl (Sto.ofV Ar33 q33 Ov1 (Ins.self ((own_X_u10 G).ext O31.2))) (g := (mkF m 75 #[vi p1, vu, vu, vu] [xr u10, xi (10 : Int32), xr b1, xr b1])) rfl rfl (hb hby at_75)
  have V_b1_34 : Arv Z h34 b1 k1 (.object "com/example/stackwright/stackwright/engine/Step") (12 : Int32) [xr u0, xr u1, xr u2, xr u3, xr u4, xr u5, xr u6, xr u7, xr u8, xr u9, xr u10, .null] .null := Arv.set Ar33 q33 S33 N33_ H33 G33 rfl W34 10 rfl (Nat.le_of_ble_eq_true rfl)
  have O34 : Old Z n0 h34 := O31.wr W34 g_b1
  have N34 := Fr.snoc X34 N31 g_b1
  obtain ⟨LL34, X34, N34⟩ := own_pack X34 N34
  obtain ⟨T35, X35, e35, st35⟩ := getS2 X34 hx hZ hown (host := "") (Or.inl (ww hw 26 rfl)) Via.refl e34 ((own_S_u11 G).ext O34.2) (g := (mkF m 79 #[vi p1, vu, vu, vu] [xi (11 : Int32), xr b1, xr b1])) rfl (hb hby at_79)
  obtain ⟨cl36, Ar36, q36, S36, N36_, H36, G36⟩ := id V_b1_34
  have hin36 : ¬ ((11 : Int32) < 0 ∨ cl36.slots.size ≤ ((11 : Int32)).toNatClampNeg) := inb_of S36 ⟨by decide, by decide⟩
  obtain ⟨T37, h37, X37, e37, W37, st37⟩ := stR X35 hx hZ e35 Ar36 (j := (11 : Int32)) hin36 rfl (Sto.ofV Ar36 q36 Ov1 (Ins.self ((own_X_u11 G).ext O34.2))) (g := (mkF m 82 #[vi p1, vu, vu, vu] [xr u11, xi (11 : Int32), xr b1, xr b1])) rfl rfl (hb hby at_82)
  have V_b1_37 : Arv Z h37 b1 k1 (.object "com/example/stackwright/stackwright/engine/Step") (12 : Int32) [xr u0, xr u1, xr u2, xr u3, xr u4, xr u5, xr u6, xr u7, xr u8, xr u9, xr u10, xr u11] .null := Arv.set Ar36 q36 S36 N36_ H36 G36 rfl W37 11 rfl (Nat.le_of_ble_eq_true rfl)
  have O37 : Old Z n0 h37 := O34.wr W37 g_b1
  have N37 := Fr.snoc X37 N34 g_b1
  obtain ⟨LL37, X37, N37⟩ := own_pack X37 N37
  obtain ⟨T38, h38, k38, X38, e38, E38, A38, st38⟩ := newP X37 hx hZ (ww hw 28 rfl) e37 (g := (mkF m 86 #[vi p1, vr b1, vu, vu] [xi (12 : Int32)])) rfl (hb hby at_86) rfl (by decide) (cap := 12) (by decide) (by decide) (by decide) (by decide)
  obtain ⟨b38, g38⟩ : ∃ z, z = h37.size := ⟨_, rfl⟩
  rw [← g38] at A38 st38
  have g_b38 : n0 ≤ b38 := own_fresh O37 g38
  have ne_b1_b38 : b1 ≠ b38 := Nat.ne_of_lt (Nat.lt_of_lt_of_le (V_b1_37).lt (Nat.le_of_eq g38.symm))
  have O38 : Old Z n0 h38 := O37.ext E38
  have V_b1_38 := V_b1_37.ext E38
  have V_b38 : Arv Z h38 b38 k38 .boolean (12 : Int32) [(.int (0 : Int32)), (.int (0 : Int32)), (.int (0 : Int32)), (.int (0 : Int32)), (.int (0 : Int32)), (.int (0 : Int32)), (.int (0 : Int32)), (.int (0 : Int32)), (.int (0 : Int32)), (.int (0 : Int32)), (.int (0 : Int32)), (.int (0 : Int32))] (.int (0 : Int32)) := (Arv.new A38 (by decide)).pad (pad_rep [] (.int (0 : Int32)) 12)
  obtain ⟨cl39, Ar39, q39, S39, N39_, H39, G39⟩ := id V_b38
  have hin39 : ¬ ((0 : Int32) < 0 ∨ cl39.slots.size ≤ ((0 : Int32)).toNatClampNeg) := inb_of S39 ⟨by decide, by decide⟩
  obtain ⟨T40, h40, X40, e40, W40, st40⟩ := stZ X38 hx hZ e38 Ar39 (j := (0 : Int32)) hin39 (g := (mkF m 91 #[vi p1, vr b1, vu, vu] [xi (0 : Int32), xi (0 : Int32), xr b38, xr b38])) rfl rfl (hb hby at_91)
  have V_b38_40 : Arv Z h40 b38 k38 .boolean (12 : Int32) [xi (nar .boolean (0 : Int32)), xi (0 : Int32), xi (0 : Int32), xi (0 : Int32), xi (0 : Int32), xi (0 : Int32), xi (0 : Int32), xi (0 : Int32), xi (0 : Int32), xi (0 : Int32), xi (0 : Int32), xi (0 : Int32)] (.int (0 : Int32)) := Arv.set Ar39 q39 S39 N39_ H39 G39 (fits_nar_bool _) W40 0 rfl (Nat.le_of_ble_eq_true rfl)
  have O40 : Old Z n0 h40 := O38.wr W40 g_b38
  have V_b1_40 := V_b1_38.other W40 ne_b1_b38
  have N40 := Fr.snoc X40 N37 g_b38
  obtain ⟨LL40, X40, N40⟩ := own_pack X40 N40
  obtain ⟨cl41, Ar41, q41, S41, N41_, H41, G41⟩ := id V_b38_40
  have hin41 : ¬ ((1 : Int32) < 0 ∨ cl41.slots.size ≤ ((1 : Int32)).toNatClampNeg) := inb_of S41 ⟨by decide, by decide⟩
  obtain ⟨T42, h42, X42, e42, W42, st42⟩ := stZ X40 hx hZ e40 Ar41 (j := (1 : Int32)) hin41 (g := (mkF m 95 #[vi p1, vr b1, vu, vu] [xi (1 : Int32), xi (1 : Int32), xr b38, xr b38])) rfl rfl (hb hby at_95)
  have V_b38_42 : Arv Z h42 b38 k38 .boolean (12 : Int32) [xi (nar .boolean (0 : Int32)), xi (nar .boolean (1 : Int32)), xi (0 : Int32), xi (0 : Int32), xi (0 : Int32), xi (0 : Int32), xi (0 : Int32), xi (0 : Int32), xi (0 : Int32), xi (0 : Int32), xi (0 : Int32), xi (0 : Int32)] (.int (0 : Int32)) := Arv.set Ar41 q41 S41 N41_ H41 G41 (fits_nar_bool _) W42 1 rfl (Nat.le_of_ble_eq_true rfl)
  have O42 : Old Z n0 h42 := O40.wr W42 g_b38
  have V_b1_42 := V_b1_40.other W42 ne_b1_b38
  have N42 := Fr.snoc X42 N40 g_b38
  obtain ⟨LL42, X42, N42⟩ := own_pack X42 N42
  obtain ⟨cl43, Ar43, q43, S43, N43_, H43, G43⟩ := id V_b38_42
  have hin43 : ¬ ((2 : Int32) < 0 ∨ cl43.slots.size ≤ ((2 : Int32)).toNatClampNeg) := inb_of S43 ⟨by decide, by decide⟩
  obtain ⟨T44, h44, X44, e44, W44, st44⟩ := stZ X42 hx hZ e42 Ar43 (j := (2 : Int32)) hin43 (g := (mkF m 99 #[vi p1, vr b1, vu, vu] [xi (1 : Int32), xi (2 : Int32), xr b38, xr b38])) rfl rfl (hb hby at_99)
  have V_b38_44 : Arv Z h44 b38 k38 .boolean (12 : Int32) [xi (nar .boolean (0 : Int32)), xi (nar .boolean (1 : Int32)), xi (nar .boolean (1 : Int32)), xi (0 : Int32), xi (0 : Int32), xi (0 : Int32), xi (0 : Int32), xi (0 : Int32), xi (0 : Int32), xi (0 : Int32), xi (0 : Int32), xi (0 : Int32)] (.int (0 : Int32)) := Arv.set Ar43 q43 S43 N43_ H43 G43 (fits_nar_bool _) W44 2 rfl (Nat.le_of_ble_eq_true rfl)
  have O44 : Old Z n0 h44 := O42.wr W44 g_b38
  have V_b1_44 := V_b1_42.other W44 ne_b1_b38
  have N44 := Fr.snoc X44 N42 g_b38
  obtain ⟨LL44, X44, N44⟩ := own_pack X44 N44
  obtain ⟨cl45, Ar45, q45, S45, N45_, H45, G45⟩ := id V_b38_44
  have hin45 : ¬ ((3 : Int32) < 0 ∨ cl45.slots.size ≤ ((3 : Int32)).toNatClampNeg) := inb_of S45 ⟨by decide, by decide⟩
  obtain ⟨T46, h46, X46, e46, W46, st46⟩ := stZ X44 hx hZ e44 Ar45 (j := (3 : Int32)) hin45 (g := (mkF m 103 #[vi p1, vr b1, vu, vu] [xi (1 : Int32), xi (3 : Int32), xr b38, xr b38])) rfl rfl (hb hby at_103)
  have V_b38_46 : Arv Z h46 b38 k38 .boolean (12 : Int32) [xi (nar .boolean (0 : Int32)), xi (nar .boolean (1 : Int32)), xi (nar .boolean (1 : Int32)), xi (nar .boolean (1 : Int32)), xi (0 : Int32), xi (0 : Int32), xi (0 : Int32), xi (0 : Int32), xi (0 : Int32), xi (0 : Int32), xi (0 : Int32), xi (0 : Int32)] (.int (0 : Int32)) := Arv.set Ar45 q45 S45 N45_ H45 G45 (fits_nar_bool _) W46 3 rfl (Nat.le_of_ble_eq_true rfl)
  have O46 : Old Z n0 h46 := O44.wr W46 g_b38
  have V_b1_46 := V_b1_44.other W46 ne_b1_b38
  have N46 := Fr.snoc X46 N44 g_b38
  obtain ⟨LL46, X46, N46⟩ := own_pack X46 N46
  obtain ⟨cl47, Ar47, q47, S47, N47_, H47, G47⟩ := id V_b38_46
  have hin47 : ¬ ((4 : Int32) < 0 ∨ cl47.slots.size ≤ ((4 : Int32)).toNatClampNeg) := inb_of S47 ⟨by decide, by decide⟩
  obtain ⟨T48, h48, X48, e48, W48, st48⟩ := stZ X46 hx hZ e46 Ar47 (j := (4 : Int32)) hin47 (g := (mkF m 107 #[vi p1, vr b1, vu, vu] [xi (1 : Int32), xi (4 : Int32), xr b38, xr b38])) rfl rfl (hb hby at_107)
  have V_b38_48 : Arv Z h48 b38 k38 .boolean (12 : Int32) [xi (nar .boolean (0 : Int32)), xi (nar .boolean (1 : Int32)), xi (nar .boolean (1 : Int32)), xi (nar .boolean (1 : Int32)), xi (nar .boolean (1 : Int32)), xi (0 : Int32), xi (0 : Int32), xi (0 : Int32), xi (0 : Int32), xi (0 : Int32), xi (0 : Int32), xi (0 : Int32)] (.int (0 : Int32)) := Arv.set Ar47 q47 S47 N47_ H47 G47 (fits_nar_bool _) W48 4 rfl (Nat.le_of_ble_eq_true rfl)
  have O48 : Old Z n0 h48 := O46.wr W48 g_b38
  have V_b1_48 := V_b1_46.other W48 ne_b1_b38
  have N48 := Fr.snoc X48 N46 g_b38
  obtain ⟨LL48, X48, N48⟩ := own_pack X48 N48
  obtain ⟨cl49, Ar49, q49, S49, N49_, H49, G49⟩ := id V_b38_48
  have hin49 : ¬ ((5 : Int32) < 0 ∨ cl49.slots.size ≤ ((5 : Int32)).toNatClampNeg) := inb_of S49 ⟨by decide, by decide⟩
  obtain ⟨T50, h50, X50, e50, W50, st50⟩ := stZ X48 hx hZ e48 Ar49 (j := (5 : Int32)) hin49 (g := (mkF m 111 #[vi p1, vr b1, vu, vu] [xi (1 : Int32), xi (5 : Int32), xr b38, xr b38])) rfl rfl (hb hby at_111)
  have V_b38_50 : Arv Z h50 b38 k38 .boolean (12 : Int32) [xi (nar .boolean (0 : Int32)), xi (nar .boolean (1 : Int32)), xi (nar .boolean (1 : Int32)), xi (nar .boolean (1 : Int32)), xi (nar .boolean (1 : Int32)), xi (nar .boolean (1 : Int32)), xi (0 : Int32), xi (0 : Int32), xi (0 : Int32), xi (0 : Int32), xi (0 : Int32), xi (0 : Int32)] (.int (0 : Int32)) := Arv.set Ar49 q49 S49 N49_ H49 G49 (fits_nar_bool _) W50 5 rfl (Nat.le_of_ble_eq_true rfl)
  have O50 : Old Z n0 h50 := O48.wr W50 g_b38
  have V_b1_50 := V_b1_48.other W50 ne_b1_b38
  have N50 := Fr.snoc X50 N48 g_b38
  obtain ⟨LL50, X50, N50⟩ := own_pack X50 N50
  obtain ⟨cl51, Ar51, q51, S51, N51_, H51, G51⟩ := id V_b38_50
  have hin51 : ¬ ((6 : Int32) < 0 ∨ cl51.slots.size ≤ ((6 : Int32)).toNatClampNeg) := inb_of S51 ⟨by decide, by decide⟩
  obtain ⟨T52, h52, X52, e52, W52, st52⟩ := stZ X50 hx hZ e50 Ar51 (j := (6 : Int32)) hin51 (g := (mkF m 116 #[vi p1, vr b1, vu, vu] [xi (1 : Int32), xi (6 : Int32), xr b38, xr b38])) rfl rfl (hb hby at_116)
  have V_b38_52 : Arv Z h52 b38 k38 .boolean (12 : Int32) [xi (nar .boolean (0 : Int32)), xi (nar .boolean (1 : Int32)), xi (nar .boolean (1 : Int32)), xi (nar .boolean (1 : Int32)), xi (nar .boolean (1 : Int32)), xi (nar .boolean (1 : Int32)), xi (nar .boolean (1 : Int32)), xi (0 : Int32), xi (0 : Int32), xi (0 : Int32), xi (0 : Int32), xi (0 : Int32)] (.int (0 : Int32)) := Arv.set Ar51 q51 S51 N51_ H51 G51 (fits_nar_bool _) W52 6 rfl (Nat.le_of_ble_eq_true rfl)
  have O52 : Old Z n0 h52 := O50.wr W52 g_b38
  have V_b1_52 := V_b1_50.other W52 ne_b1_b38
  have N52 := Fr.snoc X52 N50 g_b38
  obtain ⟨LL52, X52, N52⟩ := own_pack X52 N52
  obtain ⟨cl53, Ar53, q53, S53, N53_, H53, G53⟩ := id V_b38_52
  have hin53 : ¬ ((7 : Int32) < 0 ∨ cl53.slots.size ≤ ((7 : Int32)).toNatClampNeg) := inb_of S53 ⟨by decide, by decide⟩
  obtain ⟨T54, h54, X54, e54, W54, st54⟩ := stZ X52 hx hZ e52 Ar53 (j := (7 : Int32)) hin53 (g := (mkF m 121 #[vi p1, vr b1, vu, vu] [xi (1 : Int32), xi (7 : Int32), xr b38, xr b38])) rfl rfl (hb hby at_121)
  have V_b38_54 : Arv Z h54 b38 k38 .boolean (12 : Int32) [xi (nar .boolean (0 : Int32)), xi (nar .boolean (1 : Int32)), xi (nar .boolean (1 : Int32)), xi (nar .boolean (1 : Int32)), xi (nar .boolean (1 : Int32)), xi (nar .boolean (1 : Int32)), xi (nar .boolean (1 : Int32)), xi (nar .boolean (1 : Int32)), xi (0 : Int32), xi (0 : Int32), xi (0 : Int32), xi (0 : Int32)] (.int (0 : Int32)) := Arv.set Ar53 q53 S53 N53_ H53 G53 (fits_nar_bool _) W54 7 rfl (Nat.le_of_ble_eq_true rfl)
  have O54 : Old Z n0 h54 := O52.wr W54 g_b38
  have V_b1_54 := V_b1_52.other W54 ne_b1_b38
  have N54 := Fr.snoc X54 N52 g_b38
  obtain ⟨LL54, X54, N54⟩ := own_pack X54 N54
  obtain ⟨cl55, Ar55, q55, S55, N55_, H55, G55⟩ := id V_b38_54
  have hin55 : ¬ ((8 : Int32) < 0 ∨ cl55.slots.size ≤ ((8 : Int32)).toNatClampNeg) := inb_of S55 ⟨by decide, by decide⟩
  obtain ⟨T56, h56, X56, e56, W56, st56⟩ := stZ X54 hx hZ e54 Ar55 (j := (8 : Int32)) hin55 (g := (mkF m 126 #[vi p1, vr b1, vu, vu] [xi (1 : Int32), xi (8 : Int32), xr b38, xr b38])) rfl rfl (hb hby at_126)
  have V_b38_56 : Arv Z h56 b38 k38 .boolean (12 : Int32) [xi (nar .boolean (0 : Int32)), xi (nar .boolean (1 : Int32)), xi (nar .boolean (1 : Int32)), xi (nar .boolean (1 : Int32)), xi (nar .boolean (1 : Int32)), xi (nar .boolean (1 : Int32)), xi (nar .boolean (1 : Int32)), xi (nar .boolean (1 : Int32)), xi (nar .boolean (1 : Int32)), xi (0 : Int32), xi (0 : Int32), xi (0 : Int32)] (.int (0 : Int32)) := Arv.set Ar55 q55 S55 N55_ H55 G55 (fits_nar_bool _) W56 8 rfl (Nat.le_of_ble_eq_true rfl)
  have O56 : Old Z n0 h56 := O54.wr W56 g_b38
  have V_b1_56 := V_b1_54.other W56 ne_b1_b38
  have N56 := Fr.snoc X56 N54 g_b38
  obtain ⟨LL56, X56, N56⟩ := own_pack X56 N56
  obtain ⟨cl57, Ar57, q57, S57, N57_, H57, G57⟩ := id V_b38_56
  have hin57 : ¬ ((9 : Int32) < 0 ∨ cl57.slots.size ≤ ((9 : Int32)).toNatClampNeg) := inb_of S57 ⟨by decide, by decide⟩
  obtain ⟨T58, h58, X58, e58, W58, st58⟩ := stZ X56 hx hZ e56 Ar57 (j := (9 : Int32)) hin57 (g := (mkF m 131 #[vi p1, vr b1, vu, vu] [xi (1 : Int32), xi (9 : Int32), xr b38, xr b38])) rfl rfl (hb hby at_131)
  have V_b38_58 : Arv Z h58 b38 k38 .boolean (12 : Int32) [xi (nar .boolean (0 : Int32)), xi (nar .boolean (1 : Int32)), xi (nar .boolean (1 : Int32)), xi (nar .boolean (1 : Int32)), xi (nar .boolean (1 : Int32)), xi (nar .boolean (1 : Int32)), xi (nar .boolean (1 : Int32)), xi (nar .boolean (1 : Int32)), xi (nar .boolean (1 : Int32)), xi (nar .boolean (1 : Int32)), xi (0 : Int32), xi (0 : Int32)] (.int (0 : Int32)) := Arv.set Ar57 q57 S57 N57_ H57 G57 (fits_nar_bool _) W58 9 rfl (Nat.le_of_ble_eq_true rfl)
  have O58 : Old Z n0 h58 := O56.wr W58 g_b38
  have V_b1_58 := V_b1_56.other W58 ne_b1_b38
  have N58 := Fr.snoc X58 N56 g_b38
  obtain ⟨LL58, X58, N58⟩ := own_pack X58 N58
  obtain ⟨cl59, Ar59, q59, S59, N59_, H59, G59⟩ := id V_b38_58
  have hin59 : ¬ ((10 : Int32) < 0 ∨ cl59.slots.size ≤ ((10 : Int32)).toNatClampNeg) := inb_of S59 ⟨by decide, by decide⟩
  obtain ⟨T60, h60, X60, e60, W60, st60⟩ := stZ X58 hx hZ e58 Ar59 (j := (10 : Int32)) hin59 (g := (mkF m 136 #[vi p1, vr b1, vu, vu] [xi (1 : Int32), xi (10 : Int32), xr b38, xr b38])) rfl rfl (hb hby at_136)
  have V_b38_60 : Arv Z h60 b38 k38 .boolean (12 : Int32) [xi (nar .boolean (0 : Int32)), xi (nar .boolean (1 : Int32)), xi (nar .boolean (1 : Int32)), xi (nar .boolean (1 : Int32)), xi (nar .boolean (1 : Int32)), xi (nar .boolean (1 : Int32)), xi (nar .boolean (1 : Int32)), xi (nar .boolean (1 : Int32)), xi (nar .boolean (1 : Int32)), xi (nar .boolean (1 : Int32)), xi (nar .boolean (1 : Int32)), xi (0 : Int32)] (.int (0 : Int32)) := Arv.set Ar59 q59 S59 N59_ H59 G59 (fits_nar_bool _) W60 10 rfl (Nat.le_of_ble_eq_true rfl)
  have O60 : Old Z n0 h60 := O58.wr W60 g_b38
  have V_b1_60 := V_b1_58.other W60 ne_b1_b38
  have N60 := Fr.snoc X60 N58 g_b38
  obtain ⟨LL60, X60, N60⟩ := own_pack X60 N60
  obtain ⟨cl61, Ar61, q61, S61, N61_, H61, G61⟩ := id V_b38_60
  have hin61 : ¬ ((11 : Int32) < 0 ∨ cl61.slots.size ≤ ((11 : Int32)).toNatClampNeg) := inb_of S61 ⟨by decide, by decide⟩
  obtain ⟨T62, h62, X62, e62, W62, st62⟩ := stZ X60 hx hZ e60 Ar61 (j := (11 : Int32)) hin61 (g := (mkF m 141 #[vi p1, vr b1, vu, vu] [xi (0 : Int32), xi (11 : Int32), xr b38, xr b38])) rfl rfl (hb hby at_141)
  have V_b38_62 : Arv Z h62 b38 k38 .boolean (12 : Int32) [xi (nar .boolean (0 : Int32)), xi (nar .boolean (1 : Int32)), xi (nar .boolean (1 : Int32)), xi (nar .boolean (1 : Int32)), xi (nar .boolean (1 : Int32)), xi (nar .boolean (1 : Int32)), xi (nar .boolean (1 : Int32)), xi (nar .boolean (1 : Int32)), xi (nar .boolean (1 : Int32)), xi (nar .boolean (1 : Int32)), xi (nar .boolean (1 : Int32)), xi (nar .boolean (0 : Int32))] (.int (0 : Int32)) := Arv.set Ar61 q61 S61 N61_ H61 G61 (fits_nar_bool _) W62 11 rfl (Nat.le_of_ble_eq_true rfl)
  have O62 : Old Z n0 h62 := O60.wr W62 g_b38
  have V_b1_62 := V_b1_60.other W62 ne_b1_b38
  have N62 := Fr.snoc X62 N60 g_b38
  obtain ⟨LL62, X62, N62⟩ := own_pack X62 N62
  obtain ⟨cl63, Ar63, q63, S63, N63_, H63, G63⟩ := id V_b1_62
  have hin63 : ¬ (ii < 0 ∨ cl63.slots.size ≤ (ii).toNatClampNeg) := inb_of S63 hlt
  have hat63 : cl63.slots[(ii).toNatClampNeg]? = some (xr uu) := Has.at H63 hin63 hg1
  obtain ⟨cq64, kq64, qa64, qb64, qc64⟩ := isOf hZ e62 (hX.ext O62.2)
  obtain ⟨_, _, ⟨T64, L64, k64, n64⟩, -, X64, ⟨Lc64, hQ64, l64, y64, z64⟩, st64⟩ := X62.virtualBack hx (y := Y0) (z := Y0) hown (mvT hZ (ww hw 30 rfl)) (mvT hZ (ww hw 31 rfl)) (notFace_of_selects (args := #[]) (mvT hZ (ww hw 33 rfl))) (mvT hZ (ww hw 33 rfl)) (mvT hZ (ww hw 32 rfl)) (by decide) (backOf (W := 0) (hc h62 O62 []) hZ (ww hw 34 rfl) (ww hw 3 rfl) (by decide) (by decide)) qa64 qc64 (g := (mkF m 154 #[vi p1, vr b1, vr b38, vi ii] [xr uu])) rfl (by rw [hml]; rfl) (Steps.refl _) (argsL := []) (rest := []) (lenOf pd0 rfl) rfl (by show 2 * 0 + _ ≤ _; exact Nat.le_of_eq rfl) (hb hby at_154) (fun _ _ => ⟨rfl, e62, (by decide : 2 + 0 ≤ _), (by decide : 24 + 0 ≤ _)⟩)
  dsimp only [Pt.U, Pt.locs, Pt.cells, Pt.slots] at X64 l64 y64 z64 st64 hQ64
  subst l64 y64 z64
  obtain ⟨rfl, Nq64, e64⟩ := hQ64
  have N64 := Fr.app N62 Nq64
  obtain ⟨cl65, Ar65, q65, S65, N65_, H65, G65⟩ := id V_b38_62
  have hin65 : ¬ (ii < 0 ∨ cl65.slots.size ≤ (ii).toNatClampNeg) := inb_of S65 hlt
  have hat65 : cl65.slots[(ii).toNatClampNeg]? = some (xi bb) := Has.at H65 hin65 hg2
  obtain ⟨fs, hr, hrun, hended, hW, hsame⟩ := X64.leave (v := some (xi (1 : Int32))) (fun h => by rw [Bd.returns] at h; cases h)
  refine ⟨_, _, pre0 _ ?_, hrun, hended, _, _, rfl, ?_, ⟨_, rfl⟩, hW, hsame.mono (by decide) (by decide)⟩
  · show own_S p e below s₁ (mkF m 0 #[vi p1, vu, vu, vu] []) _
    refine XS.bipush X0.here hx rfl (hb hby at_0) ?_
    show own_S p e below s₁ (mkF m 2 #[vi p1, vu, vu, vu] [xi (12 : Int32)]) _
    refine st1 _ ?_
    show own_S p e below T1 (mkF m 5 #[vi p1, vu, vu, vu] [xr b1]) _
    refine XS.dup X1.here hx rfl (hb hby at_5) rfl rfl ?_
    show own_S p e below T1 (mkF m 6 #[vi p1, vu, vu, vu] [xr b1, xr b1]) _
    refine XS.iconst X1.here hx rfl (hb hby at_6) ?_
    show own_S p e below T1 (mkF m 7 #[vi p1, vu, vu, vu] [xi (0 : Int32), xr b1, xr b1]) _
    refine st2 _ ?_
    show own_S p e below T2 (mkF m 10 #[vi p1, vu, vu, vu] [xr u0, xi (0 : Int32), xr b1, xr b1]) _
    refine st4 _ ?_
    show own_S p e below T4 (mkF m 11 #[vi p1, vu, vu, vu] [xr b1]) _
    refine XS.dup X4.here hx rfl (hb hby at_11) rfl rfl ?_
    show own_S p e below T4 (mkF m 12 #[vi p1, vu, vu, vu] [xr b1, xr b1]) _
    refine XS.iconst X4.here hx rfl (hb hby at_12) ?_
    show own_S p e below T4 (mkF m 13 #[vi p1, vu, vu, vu] [xi (1 : Int32), xr b1, xr b1]) _
    refine st5 _ ?_
    show own_S p e below T5 (mkF m 16 #[vi p1, vu, vu, vu] [xr u1, xi (1 : Int32), xr b1, xr b1]) _
    refine st7 _ ?_
    show own_S p e below T7 (mkF m 17 #[vi p1, vu, vu, vu] [xr b1]) _
    refine XS.dup X7.here hx rfl (hb hby at_17) rfl rfl ?_
    show own_S p e below T7 (mkF m 18 #[vi p1, vu, vu, vu] [xr b1, xr b1]) _
    refine XS.iconst X7.here hx rfl (hb hby at_18) ?_
    show own_S p e below T7 (mkF m 19 #[vi p1, vu, vu, vu] [xi (2 : Int32), xr b1, xr b1]) _
    refine st8 _ ?_
    show own_S p e below T8 (mkF m 22 #[vi p1, vu, vu, vu] [xr u2, xi (2 : Int32), xr b1, xr b1]) _
    refine st10 _ ?_
    show own_S p e below T10 (mkF m 23 #[vi p1, vu, vu, vu] [xr b1]) _
    refine XS.dup X10.here hx rfl (hb hby at_23) rfl rfl ?_
    show own_S p e below T10 (mkF m 24 #[vi p1, vu, vu, vu] [xr b1, xr b1]) _
    refine XS.iconst X10.here hx rfl (hb hby at_24) ?_
    show own_S p e below T10 (mkF m 25 #[vi p1, vu, vu, vu] [xi (3 : Int32), xr b1, xr b1]) _
    refine st11 _ ?_
    show own_S p e below T11 (mkF m 28 #[vi p1, vu, vu, vu] [xr u3, xi (3 : Int32), xr b1, xr b1]) _
    refine st13 _ ?_
    show own_S p e below T13 (mkF m 29 #[vi p1, vu, vu, vu] [xr b1]) _
    refine XS.dup X13.here hx rfl (hb hby at_29) rfl rfl ?_
    show own_S p e below T13 (mkF m 30 #[vi p1, vu, vu, vu] [xr b1, xr b1]) _
    refine XS.iconst X13.here hx rfl (hb hby at_30) ?_
    show own_S p e below T13 (mkF m 31 #[vi p1, vu, vu, vu] [xi (4 : Int32), xr b1, xr b1]) _
    refine st14 _ ?_
    show own_S p e below T14 (mkF m 34 #[vi p1, vu, vu, vu] [xr u4, xi (4 : Int32), xr b1, xr b1]) _
    refine st16 _ ?_
    show own_S p e below T16 (mkF m 35 #[vi p1, vu, vu, vu] [xr b1]) _
    refine XS.dup X16.here hx rfl (hb hby at_35) rfl rfl ?_
    show own_S p e below T16 (mkF m 36 #[vi p1, vu, vu, vu] [xr b1, xr b1]) _
    refine XS.iconst X16.here hx rfl (hb hby at_36) ?_
    show own_S p e below T16 (mkF m 37 #[vi p1, vu, vu, vu] [xi (5 : Int32), xr b1, xr b1]) _
    refine st17 _ ?_
    show own_S p e below T17 (mkF m 40 #[vi p1, vu, vu, vu] [xr u5, xi (5 : Int32), xr b1, xr b1]) _
    refine st19 _ ?_
    show own_S p e below T19 (mkF m 41 #[vi p1, vu, vu, vu] [xr b1]) _
    refine XS.dup X19.here hx rfl (hb hby at_41) rfl rfl ?_
    show own_S p e below T19 (mkF m 42 #[vi p1, vu, vu, vu] [xr b1, xr b1]) _
    refine XS.bipush X19.here hx rfl (hb hby at_42) ?_
    show own_S p e below T19 (mkF m 44 #[vi p1, vu, vu, vu] [xi (6 : Int32), xr b1, xr b1]) _
    refine st20 _ ?_
    show own_S p e below T20 (mkF m 47 #[vi p1, vu, vu, vu] [xr u6, xi (6 : Int32), xr b1, xr b1]) _
    refine st22 _ ?_
    show own_S p e below T22 (mkF m 48 #[vi p1, vu, vu, vu] [xr b1]) _
    refine XS.dup X22.here hx rfl (hb hby at_48) rfl rfl ?_
    show own_S p e below T22 (mkF m 49 #[vi p1, vu, vu, vu] [xr b1, xr b1]) _
    refine XS.bipush X22.here hx rfl (hb hby at_49) ?_
    show own_S p e below T22 (mkF m 51 #[vi p1, vu, vu, vu] [xi (7 : Int32), xr b1, xr b1]) _
    refine st23 _ ?_
    show own_S p e below T23 (mkF m 54 #[vi p1, vu, vu, vu] [xr u7, xi (7 : Int32), xr b1, xr b1]) _
    refine st25 _ ?_
    show own_S p e below T25 (mkF m 55 #[vi p1, vu, vu, vu] [xr b1]) _
    refine XS.dup X25.here hx rfl (hb hby at_55) rfl rfl ?_
    show own_S p e below T25 (mkF m 56 #[vi p1, vu, vu, vu] [xr b1, xr b1]) _
    refine XS.bipush X25.here hx rfl (hb hby at_56) ?_
    show own_S p e below T25 (mkF m 58 #[vi p1, vu, vu, vu] [xi (8 : Int32), xr b1, xr b1]) _
    refine st26 _ ?_
    show own_S p e below T26 (mkF m 61 #[vi p1, vu, vu, vu] [xr u8, xi (8 : Int32), xr b1, xr b1]) _
    refine st28 _ ?_
    show own_S p e below T28 (mkF m 62 #[vi p1, vu, vu, vu] [xr b1]) _
    refine XS.dup X28.here hx rfl (hb hby at_62) rfl rfl ?_
    show own_S p e below T28 (mkF m 63 #[vi p1, vu, vu, vu] [xr b1, xr b1]) _
    refine XS.bipush X28.here hx rfl (hb hby at_63) ?_
    show own_S p e below T28 (mkF m 65 #[vi p1, vu, vu, vu] [xi (9 : Int32), xr b1, xr b1]) _
    refine st29 _ ?_
    show own_S p e below T29 (mkF m 68 #[vi p1, vu, vu, vu] [xr u9, xi (9 : Int32), xr b1, xr b1]) _
    refine st31 _ ?_
    show own_S p e below T31 (mkF m 69 #[vi p1, vu, vu, vu] [xr b1]) _
    refine XS.dup X31.here hx rfl (hb hby at_69) rfl rfl ?_
    show own_S p e below T31 (mkF m 70 #[vi p1, vu, vu, vu] [xr b1, xr b1]) _
    refine XS.bipush X31.here hx rfl (hb hby at_70) ?_
    show own_S p e below T31 (mkF m 72 #[vi p1, vu, vu, vu] [xi (10 : Int32), xr b1, xr b1]) _
    refine st32 _ ?_
    show own_S p e below T32 (mkF m 75 #[vi p1, vu, vu, vu] [xr u10, xi (10 : Int32), xr b1, xr b1]) _
    refine st34 _ ?_
    show own_S p e below T34 (mkF m 76 #[vi p1, vu, vu, vu] [xr b1]) _
    refine XS.dup X34.here hx rfl (hb hby at_76) rfl rfl ?_
    show own_S p e below T34 (mkF m 77 #[vi p1, vu, vu, vu] [xr b1, xr b1]) _
    refine XS.bipush X34.here hx rfl (hb hby at_77) ?_
    show own_S p e below T34 (mkF m 79 #[vi p1, vu, vu, vu] [xi (11 : Int32), xr b1, xr b1]) _
    refine st35 _ ?_
    show own_S p e below T35 (mkF m 82 #[vi p1, vu, vu, vu] [xr u11, xi (11 : Int32), xr b1, xr b1]) _
    refine st37 _ ?_
    show own_S p e below T37 (mkF m 83 #[vi p1, vu, vu, vu] [xr b1]) _
    refine XS.astoreN X37.here hx rfl (hb hby at_83) rfl rfl (l' := #[vi p1, vr b1, vu, vu]) rfl ?_
    show own_S p e below T37 (mkF m 84 #[vi p1, vr b1, vu, vu] []) _
    refine XS.bipush X37.here hx rfl (hb hby at_84) ?_
    show own_S p e below T37 (mkF m 86 #[vi p1, vr b1, vu, vu] [xi (12 : Int32)]) _
    refine st38 _ ?_
    show own_S p e below T38 (mkF m 88 #[vi p1, vr b1, vu, vu] [xr b38]) _
    refine XS.dup X38.here hx rfl (hb hby at_88) rfl rfl ?_
    show own_S p e below T38 (mkF m 89 #[vi p1, vr b1, vu, vu] [xr b38, xr b38]) _
    refine XS.iconst X38.here hx rfl (hb hby at_89) ?_
    show own_S p e below T38 (mkF m 90 #[vi p1, vr b1, vu, vu] [xi (0 : Int32), xr b38, xr b38]) _
    refine XS.iconst X38.here hx rfl (hb hby at_90) ?_
    show own_S p e below T38 (mkF m 91 #[vi p1, vr b1, vu, vu] [xi (0 : Int32), xi (0 : Int32), xr b38, xr b38]) _
    refine st40 _ ?_
    show own_S p e below T40 (mkF m 92 #[vi p1, vr b1, vu, vu] [xr b38]) _
    refine XS.dup X40.here hx rfl (hb hby at_92) rfl rfl ?_
    show own_S p e below T40 (mkF m 93 #[vi p1, vr b1, vu, vu] [xr b38, xr b38]) _
    refine XS.iconst X40.here hx rfl (hb hby at_93) ?_
    show own_S p e below T40 (mkF m 94 #[vi p1, vr b1, vu, vu] [xi (1 : Int32), xr b38, xr b38]) _
    refine XS.iconst X40.here hx rfl (hb hby at_94) ?_
    show own_S p e below T40 (mkF m 95 #[vi p1, vr b1, vu, vu] [xi (1 : Int32), xi (1 : Int32), xr b38, xr b38]) _
    refine st42 _ ?_
    show own_S p e below T42 (mkF m 96 #[vi p1, vr b1, vu, vu] [xr b38]) _
    refine XS.dup X42.here hx rfl (hb hby at_96) rfl rfl ?_
    show own_S p e below T42 (mkF m 97 #[vi p1, vr b1, vu, vu] [xr b38, xr b38]) _
    refine XS.iconst X42.here hx rfl (hb hby at_97) ?_
    show own_S p e below T42 (mkF m 98 #[vi p1, vr b1, vu, vu] [xi (2 : Int32), xr b38, xr b38]) _
    refine XS.iconst X42.here hx rfl (hb hby at_98) ?_
    show own_S p e below T42 (mkF m 99 #[vi p1, vr b1, vu, vu] [xi (1 : Int32), xi (2 : Int32), xr b38, xr b38]) _
    refine st44 _ ?_
    show own_S p e below T44 (mkF m 100 #[vi p1, vr b1, vu, vu] [xr b38]) _
    refine XS.dup X44.here hx rfl (hb hby at_100) rfl rfl ?_
    show own_S p e below T44 (mkF m 101 #[vi p1, vr b1, vu, vu] [xr b38, xr b38]) _
    refine XS.iconst X44.here hx rfl (hb hby at_101) ?_
    show own_S p e below T44 (mkF m 102 #[vi p1, vr b1, vu, vu] [xi (3 : Int32), xr b38, xr b38]) _
    refine XS.iconst X44.here hx rfl (hb hby at_102) ?_
    show own_S p e below T44 (mkF m 103 #[vi p1, vr b1, vu, vu] [xi (1 : Int32), xi (3 : Int32), xr b38, xr b38]) _
    refine st46 _ ?_
    show own_S p e below T46 (mkF m 104 #[vi p1, vr b1, vu, vu] [xr b38]) _
    refine XS.dup X46.here hx rfl (hb hby at_104) rfl rfl ?_
    show own_S p e below T46 (mkF m 105 #[vi p1, vr b1, vu, vu] [xr b38, xr b38]) _
    refine XS.iconst X46.here hx rfl (hb hby at_105) ?_
    show own_S p e below T46 (mkF m 106 #[vi p1, vr b1, vu, vu] [xi (4 : Int32), xr b38, xr b38]) _
    refine XS.iconst X46.here hx rfl (hb hby at_106) ?_
    show own_S p e below T46 (mkF m 107 #[vi p1, vr b1, vu, vu] [xi (1 : Int32), xi (4 : Int32), xr b38, xr b38]) _
    refine st48 _ ?_
    show own_S p e below T48 (mkF m 108 #[vi p1, vr b1, vu, vu] [xr b38]) _
    refine XS.dup X48.here hx rfl (hb hby at_108) rfl rfl ?_
    show own_S p e below T48 (mkF m 109 #[vi p1, vr b1, vu, vu] [xr b38, xr b38]) _
    refine XS.iconst X48.here hx rfl (hb hby at_109) ?_
    show own_S p e below T48 (mkF m 110 #[vi p1, vr b1, vu, vu] [xi (5 : Int32), xr b38, xr b38]) _
    refine XS.iconst X48.here hx rfl (hb hby at_110) ?_
    show own_S p e below T48 (mkF m 111 #[vi p1, vr b1, vu, vu] [xi (1 : Int32), xi (5 : Int32), xr b38, xr b38]) _
    refine st50 _ ?_
    show own_S p e below T50 (mkF m 112 #[vi p1, vr b1, vu, vu] [xr b38]) _
    refine XS.dup X50.here hx rfl (hb hby at_112) rfl rfl ?_
    show own_S p e below T50 (mkF m 113 #[vi p1, vr b1, vu, vu] [xr b38, xr b38]) _
    refine XS.bipush X50.here hx rfl (hb hby at_113) ?_
    show own_S p e below T50 (mkF m 115 #[vi p1, vr b1, vu, vu] [xi (6 : Int32), xr b38, xr b38]) _
    refine XS.iconst X50.here hx rfl (hb hby at_115) ?_
    show own_S p e below T50 (mkF m 116 #[vi p1, vr b1, vu, vu] [xi (1 : Int32), xi (6 : Int32), xr b38, xr b38]) _
    refine st52 _ ?_
    show own_S p e below T52 (mkF m 117 #[vi p1, vr b1, vu, vu] [xr b38]) _
    refine XS.dup X52.here hx rfl (hb hby at_117) rfl rfl ?_
    show own_S p e below T52 (mkF m 118 #[vi p1, vr b1, vu, vu] [xr b38, xr b38]) _
    refine XS.bipush X52.here hx rfl (hb hby at_118) ?_
    show own_S p e below T52 (mkF m 120 #[vi p1, vr b1, vu, vu] [xi (7 : Int32), xr b38, xr b38]) _
    refine XS.iconst X52.here hx rfl (hb hby at_120) ?_
    show own_S p e below T52 (mkF m 121 #[vi p1, vr b1, vu, vu] [xi (1 : Int32), xi (7 : Int32), xr b38, xr b38]) _
    refine st54 _ ?_
    show own_S p e below T54 (mkF m 122 #[vi p1, vr b1, vu, vu] [xr b38]) _
    refine XS.dup X54.here hx rfl (hb hby at_122) rfl rfl ?_
    show own_S p e below T54 (mkF m 123 #[vi p1, vr b1, vu, vu] [xr b38, xr b38]) _
    refine XS.bipush X54.here hx rfl (hb hby at_123) ?_
    show own_S p e below T54 (mkF m 125 #[vi p1, vr b1, vu, vu] [xi (8 : Int32), xr b38, xr b38]) _
    refine XS.iconst X54.here hx rfl (hb hby at_125) ?_
    show own_S p e below T54 (mkF m 126 #[vi p1, vr b1, vu, vu] [xi (1 : Int32), xi (8 : Int32), xr b38, xr b38]) _
    refine st56 _ ?_
    show own_S p e below T56 (mkF m 127 #[vi p1, vr b1, vu, vu] [xr b38]) _
    refine XS.dup X56.here hx rfl (hb hby at_127) rfl rfl ?_
    show own_S p e below T56 (mkF m 128 #[vi p1, vr b1, vu, vu] [xr b38, xr b38]) _
    refine XS.bipush X56.here hx rfl (hb hby at_128) ?_
    show own_S p e below T56 (mkF m 130 #[vi p1, vr b1, vu, vu] [xi (9 : Int32), xr b38, xr b38]) _
    refine XS.iconst X56.here hx rfl (hb hby at_130) ?_
    show own_S p e below T56 (mkF m 131 #[vi p1, vr b1, vu, vu] [xi (1 : Int32), xi (9 : Int32), xr b38, xr b38]) _
    refine st58 _ ?_
    show own_S p e below T58 (mkF m 132 #[vi p1, vr b1, vu, vu] [xr b38]) _
    refine XS.dup X58.here hx rfl (hb hby at_132) rfl rfl ?_
    show own_S p e below T58 (mkF m 133 #[vi p1, vr b1, vu, vu] [xr b38, xr b38]) _
    refine XS.bipush X58.here hx rfl (hb hby at_133) ?_
    show own_S p e below T58 (mkF m 135 #[vi p1, vr b1, vu, vu] [xi (10 : Int32), xr b38, xr b38]) _
    refine XS.iconst X58.here hx rfl (hb hby at_135) ?_
    show own_S p e below T58 (mkF m 136 #[vi p1, vr b1, vu, vu] [xi (1 : Int32), xi (10 : Int32), xr b38, xr b38]) _
    refine st60 _ ?_
    show own_S p e below T60 (mkF m 137 #[vi p1, vr b1, vu, vu] [xr b38]) _
    refine XS.dup X60.here hx rfl (hb hby at_137) rfl rfl ?_
    show own_S p e below T60 (mkF m 138 #[vi p1, vr b1, vu, vu] [xr b38, xr b38]) _
    refine XS.bipush X60.here hx rfl (hb hby at_138) ?_
    show own_S p e below T60 (mkF m 140 #[vi p1, vr b1, vu, vu] [xi (11 : Int32), xr b38, xr b38]) _
    refine XS.iconst X60.here hx rfl (hb hby at_140) ?_
    show own_S p e below T60 (mkF m 141 #[vi p1, vr b1, vu, vu] [xi (0 : Int32), xi (11 : Int32), xr b38, xr b38]) _
    refine st62 _ ?_
    show own_S p e below T62 (mkF m 142 #[vi p1, vr b1, vu, vu] [xr b38]) _
    refine XS.astoreN X62.here hx rfl (hb hby at_142) rfl rfl (l' := #[vi p1, vr b1, vr b38, vu]) rfl ?_
    show own_S p e below T62 (mkF m 143 #[vi p1, vr b1, vr b38, vu] []) _
    refine XS.iloadN X62.here hx rfl (hb hby at_143) rfl ?_
    show own_S p e below T62 (mkF m 144 #[vi p1, vr b1, vr b38, vu] [xi p1]) _
    refine X62.ldcI hx hown (mvT hZ (ww hw 29 rfl)) (g := (mkF m 144 #[vi p1, vr b1, vr b38, vu] [xi p1])) rfl (hb hby at_144) ?_
    show own_S p e below T62 (mkF m 146 #[vi p1, vr b1, vr b38, vu] [xi (2147483647 : Int32), xi p1]) _
    refine XS.iand X62.here hx rfl (hb hby at_146) rfl ?_
    show own_S p e below T62 (mkF m 147 #[vi p1, vr b1, vr b38, vu] [xi (p1 &&& (2147483647 : Int32))]) _
    show own_S p e below T62 (mkF m 147 #[vi p1, vr b1, vr b38, vu] [xi (p1 &&& (2147483647 : Int32))]) _
    refine XS.bipush X62.here hx rfl (hb hby at_147) ?_
    show own_S p e below T62 (mkF m 149 #[vi p1, vr b1, vr b38, vu] [xi (12 : Int32), xi (p1 &&& (2147483647 : Int32))]) _
    refine XS.irem X62.here hx rfl (hb hby at_149) rfl (by decide) ?_
    show own_S p e below T62 (mkF m 150 #[vi p1, vr b1, vr b38, vu] [xi ((p1 &&& (2147483647 : Int32)) - ((p1 &&& (2147483647 : Int32)) / (12 : Int32)) * (12 : Int32))]) _
    refine castTop (show (mkF m 150 #[vi p1, vr b1, vr b38, vu] [xi ((p1 &&& (2147483647 : Int32)) - ((p1 &&& (2147483647 : Int32)) / (12 : Int32)) * (12 : Int32))]) = (mkF m 150 #[vi p1, vr b1, vr b38, vu] [xi ii]) from by rw [as12]) ?_
    show own_S p e below T62 (mkF m 150 #[vi p1, vr b1, vr b38, vu] [xi ii]) _
    refine XS.istoreN X62.here hx rfl (hb hby at_150) rfl (l' := #[vi p1, vr b1, vr b38, vi ii]) rfl ?_
    show own_S p e below T62 (mkF m 151 #[vi p1, vr b1, vr b38, vi ii] []) _
    refine XS.aloadN X62.here hx rfl (hb hby at_151) rfl rfl ?_
    show own_S p e below T62 (mkF m 152 #[vi p1, vr b1, vr b38, vi ii] [xr b1]) _
    refine XS.iloadN X62.here hx rfl (hb hby at_152) rfl ?_
    show own_S p e below T62 (mkF m 153 #[vi p1, vr b1, vr b38, vi ii] [xi ii, xr b1]) _
    refine X62.aaload hx (j := ii) (v := (xr uu)) (by rw [e62]; exact Ar63.1) (State.isArrayOf_alike hZ.alike Ar63.2.1) rfl Ar63.2.2 hin63 hat63 (g := (mkF m 153 #[vi p1, vr b1, vr b38, vi ii] [xi ii, xr b1])) rfl rfl (hb hby at_153) _ ?_
    show own_S p e below T62 (mkF m 154 #[vi p1, vr b1, vr b38, vi ii] [xr uu]) _
    refine st64.trans ?_
    show own_S p e below T64 (mkF m 157 #[vi p1, vr b1, vr b38, vi ii] [xi bb]) _
    refine XS.aloadN X64.here hx rfl (hb hby at_157) rfl rfl ?_
    show own_S p e below T64 (mkF m 158 #[vi p1, vr b1, vr b38, vi ii] [xr b38, xi bb]) _
    refine XS.iloadN X64.here hx rfl (hb hby at_158) rfl ?_
    show own_S p e below T64 (mkF m 159 #[vi p1, vr b1, vr b38, vi ii] [xi ii, xr b38, xi bb]) _
    refine X64.baloadBooleans hx (j := ii) (v := (xi bb)) (by rw [e64]; exact Ar65.1) (State.isArrayOf_alike hZ.alike Ar65.2.1) Ar65.2.2 hin65 hat65 (g := (mkF m 159 #[vi p1, vr b1, vr b38, vi ii] [xi ii, xr b38, xi bb])) rfl rfl (hb hby at_159) _ ?_
    show own_S p e below T64 (mkF m 160 #[vi p1, vr b1, vr b38, vi ii] [xi bb, xi bb]) _
    refine XS.icmpNo X64.here hx rfl (hb hby at_160) rfl (by simp [if_icmp.holds]) ?_
    show own_S p e below T64 (mkF m 163 #[vi p1, vr b1, vr b38, vi ii] []) _
    refine XS.iconst X64.here hx rfl (hb hby at_163) ?_
    show own_S p e below T64 (mkF m 164 #[vi p1, vr b1, vr b38, vi ii] [xi (1 : Int32)]) _
    refine XS.goto X64.here hx rfl (pc0 := 164) (pc' := 168) rfl (hb hby at_164) (by decide) (by decide) ?_
    show own_S p e below T64 (mkF m 168 #[vi p1, vr b1, vr b38, vi ii] [xi (1 : Int32)]) _
    exact retN X64 hx (t := .boolean) Bd.returns (by simp) (hb hby at_168) hr
  · exact ⟨rfl, N64⟩
theorem own_law (l : Launch) (Z : State) (a0 : Array Value) (hw : ∀ d ∈ tables_1, d.before a0 Z = true) (u0 u1 u2 u3 u4 u5 u6 u7 u8 u9 u10 u11 : Addr) (G : own_St Z u0 u1 u2 u3 u4 u5 u6 u7 u8 u9 u10 u11) (p1 : Int32) (h0 : Heap) (n0 : Nat) (O0 : Old Z n0 h0) : own_Met l Z x code maxLocals ret room_1 #[(.int p1)] h0 (own_QL (some (.int (1 : Int32))) n0) := by
  rcases own_rem12 p1 with h | h | h | h | h | h | h | h | h | h | h | h
  · exact own_lp l Z a0 hw u0 u1 u2 u3 u4 u5 u6 u7 u8 u9 u10 u11 G p1 (0 : Int32) u0 (0 : Int32) h h0 n0 O0 (own_X_u0 G) (by decide) rfl (by decide) (fun h O => own_t0 l Z a0 hw u0 u1 u2 u3 u4 u5 u6 u7 u8 u9 u10 u11 G h n0 O)
  · exact own_lp l Z a0 hw u0 u1 u2 u3 u4 u5 u6 u7 u8 u9 u10 u11 G p1 (1 : Int32) u1 (1 : Int32) h h0 n0 O0 (own_X_u1 G) (by decide) rfl (by decide) (fun h O => own_t1 l Z a0 hw u0 u1 u2 u3 u4 u5 u6 u7 u8 u9 u10 u11 G h n0 O)
  · exact own_lp l Z a0 hw u0 u1 u2 u3 u4 u5 u6 u7 u8 u9 u10 u11 G p1 (2 : Int32) u2 (1 : Int32) h h0 n0 O0 (own_X_u2 G) (by decide) rfl (by decide) (fun h O => own_t2 l Z a0 hw u0 u1 u2 u3 u4 u5 u6 u7 u8 u9 u10 u11 G h n0 O)
  · exact own_lp l Z a0 hw u0 u1 u2 u3 u4 u5 u6 u7 u8 u9 u10 u11 G p1 (3 : Int32) u3 (1 : Int32) h h0 n0 O0 (own_X_u3 G) (by decide) rfl (by decide) (fun h O => own_t3 l Z a0 hw u0 u1 u2 u3 u4 u5 u6 u7 u8 u9 u10 u11 G h n0 O)
  · exact own_lp l Z a0 hw u0 u1 u2 u3 u4 u5 u6 u7 u8 u9 u10 u11 G p1 (4 : Int32) u4 (1 : Int32) h h0 n0 O0 (own_X_u4 G) (by decide) rfl (by decide) (fun h O => own_t4 l Z a0 hw u0 u1 u2 u3 u4 u5 u6 u7 u8 u9 u10 u11 G h n0 O)
  · exact own_lp l Z a0 hw u0 u1 u2 u3 u4 u5 u6 u7 u8 u9 u10 u11 G p1 (5 : Int32) u5 (1 : Int32) h h0 n0 O0 (own_X_u5 G) (by decide) rfl (by decide) (fun h O => own_t5 l Z a0 hw u0 u1 u2 u3 u4 u5 u6 u7 u8 u9 u10 u11 G h n0 O)
  · exact own_lp l Z a0 hw u0 u1 u2 u3 u4 u5 u6 u7 u8 u9 u10 u11 G p1 (6 : Int32) u6 (1 : Int32) h h0 n0 O0 (own_X_u6 G) (by decide) rfl (by decide) (fun h O => own_t6 l Z a0 hw u0 u1 u2 u3 u4 u5 u6 u7 u8 u9 u10 u11 G h n0 O)
  · exact own_lp l Z a0 hw u0 u1 u2 u3 u4 u5 u6 u7 u8 u9 u10 u11 G p1 (7 : Int32) u7 (1 : Int32) h h0 n0 O0 (own_X_u7 G) (by decide) rfl (by decide) (fun h O => own_t7 l Z a0 hw u0 u1 u2 u3 u4 u5 u6 u7 u8 u9 u10 u11 G h n0 O)
  · exact own_lp l Z a0 hw u0 u1 u2 u3 u4 u5 u6 u7 u8 u9 u10 u11 G p1 (8 : Int32) u8 (1 : Int32) h h0 n0 O0 (own_X_u8 G) (by decide) rfl (by decide) (fun h O => own_t8 l Z a0 hw u0 u1 u2 u3 u4 u5 u6 u7 u8 u9 u10 u11 G h n0 O)
  · exact own_lp l Z a0 hw u0 u1 u2 u3 u4 u5 u6 u7 u8 u9 u10 u11 G p1 (9 : Int32) u9 (1 : Int32) h h0 n0 O0 (own_X_u9 G) (by decide) rfl (by decide) (fun h O => own_t9 l Z a0 hw u0 u1 u2 u3 u4 u5 u6 u7 u8 u9 u10 u11 G h n0 O)
  · exact own_lp l Z a0 hw u0 u1 u2 u3 u4 u5 u6 u7 u8 u9 u10 u11 G p1 (10 : Int32) u10 (1 : Int32) h h0 n0 O0 (own_X_u10 G) (by decide) rfl (by decide) (fun h O => own_t10 l Z a0 hw u0 u1 u2 u3 u4 u5 u6 u7 u8 u9 u10 u11 G h n0 O)
  · exact own_lp l Z a0 hw u0 u1 u2 u3 u4 u5 u6 u7 u8 u9 u10 u11 G p1 (11 : Int32) u11 (0 : Int32) h h0 n0 O0 (own_X_u11 G) (by decide) rfl (by decide) (fun h O => own_t11 l Z a0 hw u0 u1 u2 u3 u4 u5 u6 u7 u8 u9 u10 u11 G h n0 O)
set_option maxRecDepth 65536 in
set_option maxHeartbeats 40000000 in
theorem comes_1 {Post : Tables → Env → Array Value → State → Outcome → State → Prop} (hpost : ∀ tb e args s v u, (limb_1_1.after args s (.returned v) u = true ∧ limb_1_2.after args s (.returned v) u = true ∧ True) → FrameEnd s (.returned v) u (Jvm.fieldLocs frame_1_writes args s ++ Jvm.arrayLocs frame_1_arrays args s ++ Jvm.staticLocs frame_1_statics s) 16 128 → Post tb e args s (.returned v) u) :
    ArmFor flags0 classFile x code maxLocals ret World_1 tables_1 room_1 Calls_1 rest_1 Pre_1 Post := by
  intro l hfl _ _ p e ha hc hk s m args below hf hA hF happ hP
  obtain ⟨hcalls, hrest, hpre⟩ := hP
  obtain ⟨-, -, -, hnamed, -, -, -, hat⟩ := (Spec.applies_iff hf).mp happ
  obtain ⟨hg, hn⟩ := and_e (Cond.before_iff.mp (show (Jvm.Cond.and given_1 narrow_1).before args s = true from hpre))
  obtain ⟨hcount, hg0⟩ := and_e hg
  have ga0 := hg0
  obtain ⟨w0, rfl⟩ : ∃ w0 : Value, args = #[w0] := by
    have hs : args.size = 1 := by simpa [Cond.value, given_1] using hcount
    obtain ⟨L⟩ := args
    match L, hs with
    | [w0], _ => exact ⟨w0, rfl⟩
  have hw := fun d (hd : d ∈ tables_1) => atoms_spec (ws := Jvm.Cond.code x code maxLocals ret :: tables_1) hat d (List.mem_cons_of_mem _ hd)
  have hfit : Fit s := fun {y c} hc i hi => by
    obtain ⟨ha, rfl⟩ := Array.getElem?_eq_some_iff.mp hc
    have q := List.all_eq_true.mp ((Array.all_eq_true_iff_forall_mem.mp hF) _ (Array.getElem_mem ha)) i (List.mem_range.mpr hi)
    simpa [Array.getElem?_eq_getElem hi] using q
  obtain ⟨p1, ei0⟩ := is_v ga0
  obtain rfl : w0 = (.int p1) := Option.some.inj ei0
  have hc0 := hn
  obtain ⟨ca0, hc1⟩ := and_e hc0
  obtain ⟨ca1, hc2⟩ := and_e hc1
  obtain ⟨ca2, hc3⟩ := and_e hc2
  obtain ⟨ca3, hc4⟩ := and_e hc3
  obtain ⟨ca4, hc5⟩ := and_e hc4
  obtain ⟨ca5, hc6⟩ := and_e hc5
  obtain ⟨ca6, hc7⟩ := and_e hc6
  obtain ⟨ca7, hc8⟩ := and_e hc7
  obtain ⟨ca8, hc9⟩ := and_e hc8
  obtain ⟨ca9, hc10⟩ := and_e hc9
  obtain ⟨ca10, hc11⟩ := and_e hc10
  obtain ⟨ca11, hc12⟩ := and_e hc11
  obtain ⟨ca12, hc13⟩ := and_e hc12
  obtain ⟨ca13, hc14⟩ := and_e hc13
  obtain ⟨ca14, hc15⟩ := and_e hc14
  obtain ⟨ca15, hc16⟩ := and_e hc15
  obtain ⟨ca16, hc17⟩ := and_e hc16
  obtain ⟨ca17, hc18⟩ := and_e hc17
  obtain ⟨ca18, hc19⟩ := and_e hc18
  obtain ⟨ca19, hc20⟩ := and_e hc19
  obtain ⟨ca20, hc21⟩ := and_e hc20
  obtain ⟨ca21, hc22⟩ := and_e hc21
  obtain ⟨ca22, hc23⟩ := and_e hc22
  have ca23 := hc23
  obtain ⟨u0, ev_u0⟩ := exa_v ca0
  have pX_u0 := Exa.start ev_u0 ca0
  have pS_u0 : Sta s s.heap "com/example/stackwright/stackwright/engine/Step" "UNTAP" "Lcom/example/stackwright/stackwright/engine/Step;" (.ref u0) := Sta.start ev_u0 (Or.inr ⟨(ww hw 3 rfl), (ww hw 4 rfl)⟩)
  obtain ⟨u1, ev_u1⟩ := exa_v ca1
  have pX_u1 := Exa.start ev_u1 ca1
  have pS_u1 : Sta s s.heap "com/example/stackwright/stackwright/engine/Step" "UPKEEP" "Lcom/example/stackwright/stackwright/engine/Step;" (.ref u1) := Sta.start ev_u1 (Or.inr ⟨(ww hw 3 rfl), (ww hw 7 rfl)⟩)
  obtain ⟨u2, ev_u2⟩ := exa_v ca2
  have pX_u2 := Exa.start ev_u2 ca2
  have pS_u2 : Sta s s.heap "com/example/stackwright/stackwright/engine/Step" "DRAW" "Lcom/example/stackwright/stackwright/engine/Step;" (.ref u2) := Sta.start ev_u2 (Or.inr ⟨(ww hw 3 rfl), (ww hw 9 rfl)⟩)
  obtain ⟨u3, ev_u3⟩ := exa_v ca3
  have pX_u3 := Exa.start ev_u3 ca3
  have pS_u3 : Sta s s.heap "com/example/stackwright/stackwright/engine/Step" "MAIN1" "Lcom/example/stackwright/stackwright/engine/Step;" (.ref u3) := Sta.start ev_u3 (Or.inr ⟨(ww hw 3 rfl), (ww hw 11 rfl)⟩)
  obtain ⟨u4, ev_u4⟩ := exa_v ca4
  have pX_u4 := Exa.start ev_u4 ca4
  have pS_u4 : Sta s s.heap "com/example/stackwright/stackwright/engine/Step" "BEGINNING_OF_COMBAT" "Lcom/example/stackwright/stackwright/engine/Step;" (.ref u4) := Sta.start ev_u4 (Or.inr ⟨(ww hw 3 rfl), (ww hw 13 rfl)⟩)
  obtain ⟨u5, ev_u5⟩ := exa_v ca5
  have pX_u5 := Exa.start ev_u5 ca5
  have pS_u5 : Sta s s.heap "com/example/stackwright/stackwright/engine/Step" "DECLARE_ATTACKERS" "Lcom/example/stackwright/stackwright/engine/Step;" (.ref u5) := Sta.start ev_u5 (Or.inr ⟨(ww hw 3 rfl), (ww hw 15 rfl)⟩)
  obtain ⟨u6, ev_u6⟩ := exa_v ca6
  have pX_u6 := Exa.start ev_u6 ca6
  have pS_u6 : Sta s s.heap "com/example/stackwright/stackwright/engine/Step" "DECLARE_BLOCKERS" "Lcom/example/stackwright/stackwright/engine/Step;" (.ref u6) := Sta.start ev_u6 (Or.inr ⟨(ww hw 3 rfl), (ww hw 17 rfl)⟩)
  obtain ⟨u7, ev_u7⟩ := exa_v ca7
  have pX_u7 := Exa.start ev_u7 ca7
  have pS_u7 : Sta s s.heap "com/example/stackwright/stackwright/engine/Step" "COMBAT_DAMAGE" "Lcom/example/stackwright/stackwright/engine/Step;" (.ref u7) := Sta.start ev_u7 (Or.inr ⟨(ww hw 3 rfl), (ww hw 19 rfl)⟩)
  obtain ⟨u8, ev_u8⟩ := exa_v ca8
  have pX_u8 := Exa.start ev_u8 ca8
  have pS_u8 : Sta s s.heap "com/example/stackwright/stackwright/engine/Step" "END_OF_COMBAT" "Lcom/example/stackwright/stackwright/engine/Step;" (.ref u8) := Sta.start ev_u8 (Or.inr ⟨(ww hw 3 rfl), (ww hw 21 rfl)⟩)
  obtain ⟨u9, ev_u9⟩ := exa_v ca9
  have pX_u9 := Exa.start ev_u9 ca9
  have pS_u9 : Sta s s.heap "com/example/stackwright/stackwright/engine/Step" "MAIN2" "Lcom/example/stackwright/stackwright/engine/Step;" (.ref u9) := Sta.start ev_u9 (Or.inr ⟨(ww hw 3 rfl), (ww hw 23 rfl)⟩)
  obtain ⟨u10, ev_u10⟩ := exa_v ca10
  have pX_u10 := Exa.start ev_u10 ca10
  have pS_u10 : Sta s s.heap "com/example/stackwright/stackwright/engine/Step" "END" "Lcom/example/stackwright/stackwright/engine/Step;" (.ref u10) := Sta.start ev_u10 (Or.inr ⟨(ww hw 3 rfl), (ww hw 25 rfl)⟩)
  obtain ⟨u11, ev_u11⟩ := exa_v ca11
  have pX_u11 := Exa.start ev_u11 ca11
  have pS_u11 : Sta s s.heap "com/example/stackwright/stackwright/engine/Step" "CLEANUP" "Lcom/example/stackwright/stackwright/engine/Step;" (.ref u11) := Sta.start ev_u11 (Or.inr ⟨(ww hw 3 rfl), (ww hw 27 rfl)⟩)
  have pF_u3_ordinal := own_fld ev_u3 ca12
  have pF_u0_ordinal := own_fld ev_u0 ca13
  have pF_u11_ordinal := own_fld ev_u11 ca14
  have pF_u2_ordinal := own_fld ev_u2 ca15
  have pF_u7_ordinal := own_fld ev_u7 ca16
  have pF_u4_ordinal := own_fld ev_u4 ca17
  have pF_u8_ordinal := own_fld ev_u8 ca18
  have pF_u1_ordinal := own_fld ev_u1 ca19
  have pF_u10_ordinal := own_fld ev_u10 ca20
  have pF_u9_ordinal := own_fld ev_u9 ca21
  have pF_u6_ordinal := own_fld ev_u6 ca22
  have pF_u5_ordinal := own_fld ev_u5 ca23
  have G : own_St s u0 u1 u2 u3 u4 u5 u6 u7 u8 u9 u10 u11 := ⟨pS_u0, pX_u0, pS_u1, pX_u1, pS_u2, pX_u2, pS_u3, pX_u3, pS_u4, pX_u4, pS_u5, pX_u5, pS_u6, pX_u6, pS_u7, pX_u7, pS_u8, pX_u8, pS_u9, pX_u9, pS_u10, pX_u10, pS_u11, pX_u11, pF_u3_ordinal, pF_u0_ordinal, pF_u11_ordinal, pF_u2_ordinal, pF_u7_ordinal, pF_u4_ordinal, pF_u8_ordinal, pF_u1_ordinal, pF_u10_ordinal, pF_u9_ordinal, pF_u6_ordinal, pF_u5_ordinal⟩
  obtain ⟨n, o, h1, h2, h3, _, L, rfl, ⟨rfl, N⟩, hq⟩ := own_law l s _ hw u0 u1 u2 u3 u4 u5 u6 u7 u8 u9 u10 u11 G p1 s.heap s.heap.size (Old.start s) tables_1 p e ha hc hk s m _ below hf ((Spec.applies_iff_loose hf).mp happ).1 ⟨rfl, State.Warmed39.refl s, rfl⟩ trivial
  refine ⟨n, _, h1, h2, h3, hpost _ _ _ _ _ _ ⟨Cond.after_iff.mpr rfl, Cond.after_iff.mpr (eq_i res_at (Term.int_eval (1)) rfl), trivial⟩ ⟨hq.1, hq.2.1, (hq.2.2.sift fun y hy => Or.inr (N y hy)).mono (by decide) (by decide)⟩⟩
theorem main_1_1 : Claimed_1_1 := comes_1 fun _ _ _ _ _ _ h hF => ⟨h.1, hF⟩
theorem main_1_2 : Claimed_1_2 := comes_1 fun _ _ _ _ _ _ h hF => ⟨h.2.1, hF⟩
end Jvm.Pilot.@@N@@
namespace Jvm.Pilot.@@N@@
open Jvm Jvm.ClassFile Sem Op Lib Jvm.Free Jvm.Stand Jvm.Pilot.@@N@@.Jvm.D
/-! MADE BY PROGRAM (witnessworld.py) out of the Statement's table words and the real class files: 15 classes; the members and pool entries that the words name. The judged class is class 1, her method 1. -/
namespace start1
open Jvm.ClassFile
def u (s : String) : CpInfo := .utf8 (stringToUtf16 s)
/-- a pool by its gaps: so many unusable entries, then the entry; so many at the end -/
def gap : Nat → List CpInfo → List CpInfo
  | 0, r => r
  | n + 1, r => .unusable :: gap n r
def poolList (es : List (Nat × CpInfo)) (last : Nat) : List CpInfo := es.foldr (fun e r => gap e.1 (e.2 :: r)) (gap last [])
def pool (es : List (Nat × CpInfo)) (last : Nat) : Array CpInfo := ⟨poolList es last⟩
def fileOf (pool : Array CpInfo) (this : Nat) (attrs : Array Attribute := #[]) (ms : Array MethodInfo := #[]) (fl : Nat := 33) (sup : Nat := 0) (ifs : Array Nat := #[]) (fds : Array FieldInfo := #[]) : ClassFile where
  minorVersion := 0
  majorVersion := 65
  constantPool := pool
  accessFlags := fl
  thisClass := this
  superClass := sup
  interfaces := ifs
  fields := fds
  methods := ms
  attributes := attrs
def plain (name : String) (sup : Option ClassId) : Class where
  name := name
  kind := .ordinary
  loader := none
  accessFlags := 33
  super := sup
  interfaces := #[]
  cf := none
  fields := #[]
  methods := #[]
  instanceTypes := #[]
  staticTypes := #[]
  resolved := #[]
  callSites := []
  init := .initialized
  statics := none
  mirror := none

def pool0 : Array CpInfo := pool [(5, u "<init>"), (0, u "()V"), (1, .class_ 10), (1, u "java/lang/Object")] 113

def k0m0 : Method := { name := "<init>", desc := "()V", sig := { parameters := [], returnType := none }, accessFlags := 1, code := none }
/-- java/lang/Object -/
def k0 : Class := { plain "java/lang/Object" none with
  accessFlags := 33
  interfaces := #[]
  cf := some (fileOf pool0 8 #[] #[{ accessFlags := 1, nameIndex := 5, descriptorIndex := 6, attributes := #[] }] 33 0 #[] #[])
  fields := #[]
  methods := #[k0m0]
  instanceTypes := #[]
  staticTypes := #[]
  resolved := Array.replicate 124 none
  statics := none }

def pool1 : Array CpInfo := pool [(2, .class_ 4), (1, u "java/lang/Object"), (0, u "<init>"), (0, u "()V"), (0, .class_ 8), (0, u "com/example/stackwright/stackwright/engine/Step"), (0, .fieldref 7 10), (0, .nameAndType 11 12), (0, u "UNTAP"), (0, u "Lcom/example/stackwright/stackwright/engine/Step;"), (0, .fieldref 7 14), (0, .nameAndType 15 12), (0, u "UPKEEP"), (0, .fieldref 7 17), (0, .nameAndType 18 12), (0, u "DRAW"), (0, .fieldref 7 20), (0, .nameAndType 21 12), (0, u "MAIN1"), (0, .fieldref 7 23), (0, .nameAndType 24 12), (0, u "BEGINNING_OF_COMBAT"), (0, .fieldref 7 26), (0, .nameAndType 27 12), (0, u "DECLARE_ATTACKERS"), (0, .fieldref 7 29), (0, .nameAndType 30 12), (0, u "DECLARE_BLOCKERS"), (0, .fieldref 7 32), (0, .nameAndType 33 12), (0, u "COMBAT_DAMAGE"), (0, .fieldref 7 35), (0, .nameAndType 36 12), (0, u "END_OF_COMBAT"), (0, .fieldref 7 38), (0, .nameAndType 39 12), (0, u "MAIN2"), (0, .fieldref 7 41), (0, .nameAndType 42 12), (0, u "END"), (0, .fieldref 7 44), (0, .nameAndType 45 12), (0, u "CLEANUP"), (0, .integer 2147483647), (0, .methodref 7 48), (0, .nameAndType 49 50), (0, u "givesPriority"), (0, u "()Z"), (0, .class_ 52), (0, u "com/example/stackwright/stackwright/engine/StepGivesPriorityPinLaw"), (2, u "law"), (0, u "(I)Z")] 7

def k1m0 : Method := { name := "<init>", desc := "()V", sig := { parameters := [], returnType := none }, accessFlags := 1, code := none }
def k1c1 : Code := { maxStack := 4, maxLocals := 4, code := code, exceptionTable := #[], attributes := #[] }
def k1m1 : Method := { name := "law", desc := "(I)Z", sig := { parameters := [.int], returnType := some .boolean }, accessFlags := 9, code := some k1c1 }
/-- com/example/stackwright/stackwright/engine/StepGivesPriorityPinLaw -/
def k1 : Class := { plain "com/example/stackwright/stackwright/engine/StepGivesPriorityPinLaw" (some 0) with
  accessFlags := 49
  interfaces := #[]
  cf := some (fileOf pool1 51 #[] #[{ accessFlags := 1, nameIndex := 5, descriptorIndex := 6, attributes := #[] }, { accessFlags := 9, nameIndex := 55, descriptorIndex := 56, attributes := #[] }] 49 2 #[] #[])
  fields := #[]
  methods := #[k1m0, k1m1]
  instanceTypes := #[]
  staticTypes := #[]
  resolved := Array.replicate 64 none
  statics := none }

def pool2 : Array CpInfo := pool [(1, .class_ 2), (0, u "java/lang/constant/Constable"), (0, .class_ 4), (0, u "java/lang/Object")] 6

/-- java/lang/constant/Constable -/
def k2 : Class := { plain "java/lang/constant/Constable" (some 0) with
  accessFlags := 1537
  interfaces := #[]
  cf := some (fileOf pool2 1 #[] #[] 1537 3 #[] #[])
  fields := #[]
  methods := #[]
  instanceTypes := #[]
  staticTypes := #[]
  resolved := Array.replicate 11 none
  statics := none }

def pool3 : Array CpInfo := pool [(1, .class_ 2), (0, u "java/lang/Comparable"), (0, .class_ 4), (0, u "java/lang/Object")] 7

/-- java/lang/Comparable -/
def k3 : Class := { plain "java/lang/Comparable" (some 0) with
  accessFlags := 1537
  interfaces := #[]
  cf := some (fileOf pool3 1 #[] #[] 1537 3 #[] #[])
  fields := #[]
  methods := #[]
  instanceTypes := #[]
  staticTypes := #[]
  resolved := Array.replicate 12 none
  statics := none }

def pool4 : Array CpInfo := pool [(1, .class_ 2), (0, u "java/io/Serializable"), (0, .class_ 4), (0, u "java/lang/Object")] 2

/-- java/io/Serializable -/
def k4 : Class := { plain "java/io/Serializable" (some 0) with
  accessFlags := 1537
  interfaces := #[]
  cf := some (fileOf pool4 1 #[] #[] 1537 3 #[] #[])
  fields := #[]
  methods := #[]
  instanceTypes := #[]
  staticTypes := #[]
  resolved := Array.replicate 7 none
  statics := none }

def pool5 : Array CpInfo := pool [(2, .class_ 4), (1, u "java/lang/Enum"), (0, u "name"), (0, u "Ljava/lang/String;"), (2, u "ordinal"), (0, u "I"), (1, .class_ 14), (1, u "java/lang/Object"), (4, u "hash"), (86, .class_ 108), (1, u "java/lang/Enum$EnumDesc"), (2, .class_ 112), (0, u "java/lang/constant/Constable"), (0, .class_ 114), (0, u "java/lang/Comparable"), (0, .class_ 116), (0, u "java/io/Serializable")] 87

/-- java/lang/Enum -/
def k5 : Class := { plain "java/lang/Enum" (some 0) with
  accessFlags := 1057
  interfaces := #[2, 3, 4]
  cf := some (fileOf pool5 2 #[.nestMembers #[106]] #[] 1057 12 #[111, 113, 115] #[{ accessFlags := 18, nameIndex := 5, descriptorIndex := 6, attributes := #[] }, { accessFlags := 18, nameIndex := 9, descriptorIndex := 10, attributes := #[] }, { accessFlags := 2, nameIndex := 19, descriptorIndex := 10, attributes := #[] }])
  fields := #[{ name := "name", type := (.object "java/lang/String"), accessFlags := 18, slot := 0, constantValue := 0 }, { name := "ordinal", type := .int, accessFlags := 18, slot := 1, constantValue := 0 }, { name := "hash", type := .int, accessFlags := 2, slot := 2, constantValue := 0 }]
  methods := #[]
  instanceTypes := #[(.object "java/lang/String"), .int, .int]
  staticTypes := #[]
  resolved := Array.replicate 204 none
  statics := none }

def pool6 : Array CpInfo := pool [(1, .class_ 2), (0, u "com/example/stackwright/stackwright/engine/Step"), (0, .fieldref 1 4), (0, .nameAndType 5 6), (0, u "UNTAP"), (0, u "Lcom/example/stackwright/stackwright/engine/Step;"), (2, u "UPKEEP"), (2, u "DRAW"), (2, u "MAIN1"), (2, u "BEGINNING_OF_COMBAT"), (2, u "DECLARE_ATTACKERS"), (2, u "DECLARE_BLOCKERS"), (2, u "COMBAT_DAMAGE"), (2, u "END_OF_COMBAT"), (2, u "MAIN2"), (2, u "END"), (0, .fieldref 1 38), (0, .nameAndType 39 6), (0, u "CLEANUP"), (2, u "$VALUES"), (0, u "[Lcom/example/stackwright/stackwright/engine/Step;"), (6, .class_ 52), (1, u "java/lang/Enum"), (8, u "word"), (0, u "Ljava/lang/String;"), (7, u "rule"), (0, u "Lcom/example/stackwright/stackwright/engine/Rule;"), (2, u "givesPriority"), (0, u "()Z"), (5, u "TURN")] 90

def k6c0 : Code := { maxStack := 2, maxLocals := 1, code := prog_64_method_6_code, exceptionTable := #[], attributes := #[] }
def k6m0 : Method := { name := "givesPriority", desc := "()Z", sig := { parameters := [], returnType := some .boolean }, accessFlags := 1, code := some k6c0 }
/-- com/example/stackwright/stackwright/engine/Step -/
def k6 : Class := { plain "com/example/stackwright/stackwright/engine/Step" (some 5) with
  accessFlags := 16433
  interfaces := #[]
  cf := some (fileOf pool6 1 #[] #[{ accessFlags := 1, nameIndex := 74, descriptorIndex := 75, attributes := #[] }] 16433 50 #[] #[{ accessFlags := 16409, nameIndex := 5, descriptorIndex := 6, attributes := #[] }, { accessFlags := 16409, nameIndex := 9, descriptorIndex := 6, attributes := #[] }, { accessFlags := 16409, nameIndex := 12, descriptorIndex := 6, attributes := #[] }, { accessFlags := 16409, nameIndex := 15, descriptorIndex := 6, attributes := #[] }, { accessFlags := 16409, nameIndex := 18, descriptorIndex := 6, attributes := #[] }, { accessFlags := 16409, nameIndex := 21, descriptorIndex := 6, attributes := #[] }, { accessFlags := 16409, nameIndex := 24, descriptorIndex := 6, attributes := #[] }, { accessFlags := 16409, nameIndex := 27, descriptorIndex := 6, attributes := #[] }, { accessFlags := 16409, nameIndex := 30, descriptorIndex := 6, attributes := #[] }, { accessFlags := 16409, nameIndex := 33, descriptorIndex := 6, attributes := #[] }, { accessFlags := 16409, nameIndex := 36, descriptorIndex := 6, attributes := #[] }, { accessFlags := 16409, nameIndex := 39, descriptorIndex := 6, attributes := #[] }, { accessFlags := 26, nameIndex := 81, descriptorIndex := 43, attributes := #[] }, { accessFlags := 18, nameIndex := 61, descriptorIndex := 62, attributes := #[] }, { accessFlags := 18, nameIndex := 70, descriptorIndex := 71, attributes := #[] }, { accessFlags := 4122, nameIndex := 42, descriptorIndex := 43, attributes := #[] }])
  fields := #[{ name := "UNTAP", type := (.object "com/example/stackwright/stackwright/engine/Step"), accessFlags := 16409, slot := 0, constantValue := 0 }, { name := "UPKEEP", type := (.object "com/example/stackwright/stackwright/engine/Step"), accessFlags := 16409, slot := 1, constantValue := 0 }, { name := "DRAW", type := (.object "com/example/stackwright/stackwright/engine/Step"), accessFlags := 16409, slot := 2, constantValue := 0 }, { name := "MAIN1", type := (.object "com/example/stackwright/stackwright/engine/Step"), accessFlags := 16409, slot := 3, constantValue := 0 }, { name := "BEGINNING_OF_COMBAT", type := (.object "com/example/stackwright/stackwright/engine/Step"), accessFlags := 16409, slot := 4, constantValue := 0 }, { name := "DECLARE_ATTACKERS", type := (.object "com/example/stackwright/stackwright/engine/Step"), accessFlags := 16409, slot := 5, constantValue := 0 }, { name := "DECLARE_BLOCKERS", type := (.object "com/example/stackwright/stackwright/engine/Step"), accessFlags := 16409, slot := 6, constantValue := 0 }, { name := "COMBAT_DAMAGE", type := (.object "com/example/stackwright/stackwright/engine/Step"), accessFlags := 16409, slot := 7, constantValue := 0 }, { name := "END_OF_COMBAT", type := (.object "com/example/stackwright/stackwright/engine/Step"), accessFlags := 16409, slot := 8, constantValue := 0 }, { name := "MAIN2", type := (.object "com/example/stackwright/stackwright/engine/Step"), accessFlags := 16409, slot := 9, constantValue := 0 }, { name := "END", type := (.object "com/example/stackwright/stackwright/engine/Step"), accessFlags := 16409, slot := 10, constantValue := 0 }, { name := "CLEANUP", type := (.object "com/example/stackwright/stackwright/engine/Step"), accessFlags := 16409, slot := 11, constantValue := 0 }, { name := "TURN", type := (.array (.object "com/example/stackwright/stackwright/engine/Step")), accessFlags := 26, slot := 12, constantValue := 0 }, { name := "word", type := (.object "java/lang/String"), accessFlags := 18, slot := 3, constantValue := 0 }, { name := "rule", type := (.object "com/example/stackwright/stackwright/engine/Rule"), accessFlags := 18, slot := 4, constantValue := 0 }, { name := "$VALUES", type := (.array (.object "com/example/stackwright/stackwright/engine/Step")), accessFlags := 4122, slot := 13, constantValue := 0 }]
  methods := #[k6m0]
  instanceTypes := #[(.object "java/lang/String"), .int, .int, (.object "java/lang/String"), (.object "com/example/stackwright/stackwright/engine/Rule")]
  staticTypes := #[(.object "com/example/stackwright/stackwright/engine/Step"), (.object "com/example/stackwright/stackwright/engine/Step"), (.object "com/example/stackwright/stackwright/engine/Step"), (.object "com/example/stackwright/stackwright/engine/Step"), (.object "com/example/stackwright/stackwright/engine/Step"), (.object "com/example/stackwright/stackwright/engine/Step"), (.object "com/example/stackwright/stackwright/engine/Step"), (.object "com/example/stackwright/stackwright/engine/Step"), (.object "com/example/stackwright/stackwright/engine/Step"), (.object "com/example/stackwright/stackwright/engine/Step"), (.object "com/example/stackwright/stackwright/engine/Step"), (.object "com/example/stackwright/stackwright/engine/Step"), (.array (.object "com/example/stackwright/stackwright/engine/Step")), (.array (.object "com/example/stackwright/stackwright/engine/Step"))]
  resolved := Array.replicate 172 none
  statics := some 0 }

def pool7 : Array CpInfo := pool [(1, u "java/lang/Cloneable"), (0, .class_ 1), (0, u "java/lang/Object"), (0, .class_ 3)] 3

/-- java/lang/Cloneable -/
def k7 : Class := { plain "java/lang/Cloneable" (some 0) with
  accessFlags := 1537
  interfaces := #[]
  cf := some (fileOf pool7 2 #[] #[] 1537 4 #[] #[])
  fields := #[]
  methods := #[]
  instanceTypes := #[]
  staticTypes := #[]
  resolved := Array.replicate 8 none
  statics := none }

/-- the primitive boolean -/
def k8 : Class := { plain "boolean" none with kind := .primitive 'Z', accessFlags := 0x411 }
/-- [Z -/
def k9 : Class := { plain "[Z" (some 0) with kind := .array 8 .boolean, interfaces := #[7, 4], accessFlags := 1041 }

/-- the primitive byte -/
def k10 : Class := { plain "byte" none with kind := .primitive 'B', accessFlags := 0x411 }
/-- [B -/
def k11 : Class := { plain "[B" (some 0) with kind := .array 10 .byte, interfaces := #[7, 4], accessFlags := 1041 }

/-- the primitive int -/
def k12 : Class := { plain "int" none with kind := .primitive 'I', accessFlags := 0x411 }
/-- [I -/
def k13 : Class := { plain "[I" (some 0) with kind := .array 12 .int, interfaces := #[7, 4], accessFlags := 1041 }

/-- [Lcom/example/stackwright/stackwright/engine/Step; -/
def k14 : Class := { plain "[Lcom/example/stackwright/stackwright/engine/Step;" (some 0) with kind := .array 6 (.object "com/example/stackwright/stackwright/engine/Step"), interfaces := #[7, 4], accessFlags := 1041 }

def heap : Heap := #[{ cls := 6, slots := #[.ref 1, .ref 2, .ref 3, .ref 4, .ref 5, .ref 6, .ref 7, .ref 8, .ref 9, .ref 10, .ref 11, .ref 12, .null, .null], vm := .statics 6 },
  { cls := 6, slots := #[.null, .int 0, .int 0, .null, .null], vm := .none },
  { cls := 6, slots := #[.null, .int 1, .int 0, .null, .null], vm := .none },
  { cls := 6, slots := #[.null, .int 2, .int 0, .null, .null], vm := .none },
  { cls := 6, slots := #[.null, .int 3, .int 0, .null, .null], vm := .none },
  { cls := 6, slots := #[.null, .int 4, .int 0, .null, .null], vm := .none },
  { cls := 6, slots := #[.null, .int 5, .int 0, .null, .null], vm := .none },
  { cls := 6, slots := #[.null, .int 6, .int 0, .null, .null], vm := .none },
  { cls := 6, slots := #[.null, .int 7, .int 0, .null, .null], vm := .none },
  { cls := 6, slots := #[.null, .int 8, .int 0, .null, .null], vm := .none },
  { cls := 6, slots := #[.null, .int 9, .int 0, .null, .null], vm := .none },
  { cls := 6, slots := #[.null, .int 10, .int 0, .null, .null], vm := .none },
  { cls := 6, slots := #[.null, .int 11, .int 0, .null, .null], vm := .none }]
def classes : Array Class := #[k0, k1, k2, k3, k4, k5, k6, k7, k8, k9, k10, k11, k12, k13, k14]
def interned : List (Array UInt16 × Addr) := []
def slotsUsed : Nat := 74
def theMethod : MethodId := ⟨1, 1⟩
def args0 : Array Value := #[.int 5]
def aboutOver (below : List Frame) : State where
  vm := { classes := classes, interned := interned.toArray }
  heap := heap
  slotsUsed := slotsUsed
  threads := #[{ frames := .invoking theMethod args0 :: below }]
def below0 : List Frame := [.native { method := ⟨0, 0⟩, args := #[] }]
def about1 : State := aboutOver below0
def p0 : Program := .bare "" "" ""
def e0 : Env := launch0.env 0 0 0
theorem w_frames : about1.frames = Frame.invoking theMethod args0 :: below0 := rfl
set_option maxRecDepth 65536 in
theorem w_args : argsFit about1.vm theMethod args0 = true := by decide +kernel
set_option maxRecDepth 65536 in
theorem w_heap : heapFits about1 = true := by decide +kernel
set_option maxRecDepth 65536 in
theorem w_runnable : about1.curStatus? = some .runnable := by decide +kernel
set_option maxRecDepth 65536 in
theorem w_alone : about1.alone = true := by decide +kernel
set_option maxRecDepth 65536 in
theorem w_named : about1.methodNamed? x = some theMethod := by decide +kernel
set_option maxRecDepth 65536 in
theorem w_hears : about1.hears theMethod below0 = true := by decide +kernel
set_option maxRecDepth 65536 in
theorem w_ripe : about1.ripe theMethod args0 below0 = true := by decide +kernel
theorem w_running : about1.status = .running := rfl
set_option maxRecDepth 65536 in
theorem w_room : about1.hasRoom e0.platform room_1 = true :=
  launch0.hasRoom_least _ room_1 (by decide +kernel) (by decide +kernel) (by decide +kernel) (by decide +kernel) (by decide +kernel) (by decide +kernel)
theorem allAtoms_all (ts : List Jvm.Cond) (a : Array Jvm.Value) (st : Jvm.State) : (allAtoms ts).before a st = ts.all (fun c => c.before a st) := by
  induction ts with
  | nil => rfl
  | cons c t ih =>
    show (Jvm.Cond.and c (allAtoms t)).before a st = _
    rw [Jvm.Cond.before_and, ih, List.all_cons]
def words1 : List Jvm.Cond := Jvm.Cond.code x code maxLocals ret :: tables_1
/-- a 'code' word, met by the world's own term for the bytes: nothing is compared byte by byte -/
theorem code_word {y : MethodName} {bytes : ByteArray} {mx : Nat} {rt : Option FieldType} {a : Array Value} {s : State} {m : MethodId} {meth : Method} {c : Code} (h1 : s.methodNamed? y = some m) (h2 : s.vm.method? m = some meth) (h3 : meth.code = some c) (h4 : c.code = bytes)
    (h5 : (c.maxLocals == mx && c.exceptionTable.isEmpty && decide (c.maxStack ≤ mostOperands) && decide (meth.sig.returnType = rt) && !meth.locks && decide (parseMethodDescriptor y.desc = some meth.sig)) = true) : (Jvm.Cond.code y bytes mx rt).before a s = true := by
  simp only [Bool.and_eq_true, beq_iff_eq, Bool.not_eq_true', decide_eq_true_eq] at h5
  obtain ⟨⟨⟨⟨⟨g1, g2⟩, g3⟩, g4⟩, g5⟩, g6⟩ := h5
  simp [Cond.before, Cond.holds, Cond.value, h1, h2, h3, h4, g1, g2, g3, g4, g5, g6]
def isCode : Jvm.Cond → Bool
  | .code _ _ _ _ => true
  | _ => false
theorem all_split {L : List Jvm.Cond} {P : Jvm.Cond → Bool} (h1 : L.all (fun c => isCode c || P c) = true) (h2 : ∀ c ∈ L.filter isCode, P c = true) : L.all P = true := by
  refine List.all_eq_true.mpr fun c hc => ?_
  have h := List.all_eq_true.mp h1 c hc
  rcases Bool.eq_false_or_eq_true (isCode c) with hi | hi
  · exact h2 c (List.mem_filter.mpr ⟨hc, hi⟩)
  · simpa [hi] using h
set_option maxRecDepth 65536 in
theorem w_c0 : (Jvm.Cond.code x code maxLocals ret).before args0 about1 = true := code_word (m := ⟨1, 1⟩) (meth := k1m1) (c := k1c1) (by decide +kernel) rfl rfl rfl (by decide +kernel)
set_option maxRecDepth 65536 in
theorem w_c1 : (Jvm.Cond.code ({ cls := "com/example/stackwright/stackwright/engine/Step", name := "givesPriority", desc := "()Z" } : Jvm.MethodName) prog_64_method_6_code (1 : Nat) (Option.some Jvm.ClassFile.FieldType.boolean)).before args0 about1 = true := code_word (m := ⟨6, 0⟩) (meth := k6m0) (c := k6c0) (by decide +kernel) rfl rfl rfl (by decide +kernel)
def codes1 : List Jvm.Cond := [Jvm.Cond.code x code maxLocals ret, Jvm.Cond.code ({ cls := "com/example/stackwright/stackwright/engine/Step", name := "givesPriority", desc := "()Z" } : Jvm.MethodName) prog_64_method_6_code (1 : Nat) (Option.some Jvm.ClassFile.FieldType.boolean)]
set_option maxRecDepth 65536 in
theorem codes_eq : words1.filter isCode = codes1 := rfl
theorem w_codes : ∀ c ∈ words1.filter isCode, c.before args0 about1 = true := by
  rw [codes_eq]
  intro c hc
  simp only [codes1, List.mem_cons, List.not_mem_nil, or_false] at hc
  rcases hc with rfl | rfl
  · exact w_c0
  · exact w_c1
set_option maxRecDepth 65536 in
theorem w_t1 : (words1.take 24).all (fun c => isCode c || c.before args0 about1) = true := by decide +kernel
set_option maxRecDepth 65536 in
theorem w_t2 : (words1.drop 24).all (fun c => isCode c || c.before args0 about1) = true := by decide +kernel
theorem w_tables : (allAtoms (Jvm.Cond.code x code maxLocals ret :: tables_1)).before args0 about1 = true := by
  rw [allAtoms_all]
  show words1.all (fun c => c.before args0 about1) = true
  refine all_split ?_ w_codes
  rw [← List.take_append_drop 24 words1, List.all_append, w_t1, w_t2]
  rfl
set_option maxRecDepth 65536 in
theorem w_case : (Jvm.Cond.and given_1 narrow_1).before args0 about1 = true := by decide +kernel
theorem w_applies : (headSpec (Jvm.Cond.code x code maxLocals ret :: tables_1) room_1).applies x e0.platform about1 = true :=
  (Spec.applies_iff w_frames).mpr ⟨w_running, w_runnable, w_alone, w_named, w_hears, w_ripe, w_room, w_tables⟩
theorem atStart : AtStart classFile x code maxLocals ret World_1 tables_1 room_1 Calls_1 rest_1 Pre_1 launch0 p0 e0 about1 theMethod args0 below0 :=
  ⟨lists_1, trivial, launch0.admits_env _ _ _, launch0.least_env, fairChoices_fair.cas, fairChoices_fair.clock, w_frames, w_args, w_heap, w_applies, trivial, trivial, w_case⟩
end start1
theorem witness_1 : WitnessClaimed_1 := ⟨start1.p0, start1.e0, start1.about1, start1.theMethod, start1.args0, start1.below0, start1.atStart⟩
end Jvm.Pilot.@@N@@
