import JvmDerived
import JvmDerived.Pilot.@@N@@Statement
import JvmDerived.Pilot.@@N@@Code
set_option linter.unusedVariables false
set_option linter.unusedSimpArgs false
namespace Jvm.RoadKit
open Sem ClassFile Op Lib Jvm.Stand Jvm.Free Jvm.LawKit
section New
variable {p : Program} {l : Launch} {e : Env} {R : Room} {s : State} {m : MethodId} {args : Array Value} {below : List Frame} {meth : Method} {c : Code} {T : State} {locs : List Loc} {cells slots : Nat}
theorem retI (X : Stand p l e R s m args below meth c T locs cells slots) (hx : p.tables.exec = Jvm.exec) {pc : Nat} {Ls : Array Slot} {z : Int32} {rest : List Value} (hret : meth.sig.returnType = some .int) (hd : decode c.code pc = .ok (.ireturn, 1)) {fs : List Frame}
    (hl : ∀ (f : JFrame) (acts : List Action), f.method = m → f.locked = none → f.entered = [] → (doReturn e (T.setTop f) acts (some (.int z))).1 = T.setFrames fs) : Steps p.tables e below (T.setTop (mkF m pc Ls (.int z :: rest))) (T.setFrames fs) := by
  have hm' : T.vm.method? m = some meth := X.method'
  have hn : narrow .int (.int z) = .int z := rfl
  show Steps p.tables e below (T.setTop { method := m, pc := pc, locals := Ls, stack := _ :: rest, locked := none }) _
  jvm_step X.here [X.here.top, hx, hd, hm', hret, hn]
  first | (intro acts; rw [hl _ acts rfl rfl rfl]) | rw [hl _ _ rfl rfl rfl]
  exact Steps.refl _
end New
end Jvm.RoadKit
namespace Jvm.Pilot.@@N@@
open Jvm Jvm.ClassFile Sem Op Lib Jvm.Free Jvm.Stand Jvm.LawKit Jvm.RoadKit Bundle Jvm.Pilot.@@N@@.Jvm.D
theorem ww {a0 : Array Value} {Z : State} (hw : ∀ d ∈ tables_1, d.before a0 Z = true) (i : Nat) {d : Jvm.Cond} (h : tables_1[i]? = some d) : d.before a0 Z = true := hw d (List.mem_of_getElem? h)
abbrev vi (x : Int32) : Slot := .val (.int x)
abbrev vj (x : Int64) : Slot := .val (.long x)
abbrev vr (x : Addr) : Slot := .val (.ref x)
abbrev vn : Slot := .val .null
abbrev vu : Slot := .unset
abbrev xi (x : Int32) : Value := .int x
abbrev xj (x : Int64) : Value := .long x
abbrev xr (x : Addr) : Value := .ref x
abbrev own_S (p : Program) (e : Env) (below : List Frame) (T : State) (g : JFrame) (t : State) : Prop := Steps p.tables e below (T.setTop g) t
/-- a body's contract: at these arguments and this heap it returns as Q says -/
abbrev own_Met (l : Launch) (Z : State) (y : MethodName) (bytes : ByteArray) (maxL : Nat) (rt : Option FieldType) (rm : Room) (as' : Array Value) (h0 : Heap) (Qy : Option Value → Heap → List Loc → Prop) : Prop :=
  ∀ ws : List Jvm.Cond, MetFree l y (head1 (Jvm.Cond.code y bytes maxL rt :: ws) rm) (fun a U => a = as' ∧ Z.Warmed39 U.vm ∧ U.heap = h0) (fun _ _ _ _ _ => True) (fun _ U o U' => ∃ v L, o = .returned v ∧ Qy v U'.heap L ∧ FrameEnd U o U' L rm.cells rm.slots)
/-- it returns r and leaves the heap -/
def own_QR (r : Option Value) (h0 : Heap) (n0 : Nat) (v : Option Value) (h : Heap) (L : List Loc) : Prop := v = r ∧ Fr n0 L ∧ h = h0
/-- it returns r and writes nothing that stood at the start -/
def own_QL (r : Option Value) (n0 : Nat) (v : Option Value) (h : Heap) (L : List Loc) : Prop := v = r ∧ Fr n0 L
theorem own_le {Z : State} {n0 : Nat} {h : Heap} (O : Old Z n0 h) : n0 ≤ h.size := O.1 ▸ O.2.1
theorem own_fresh {Z : State} {n0 : Nat} {h : Heap} {a : Addr} (O : Old Z n0 h) (g : a = h.size) : n0 ≤ a := g ▸ own_le O
theorem own_fld {s : State} {args : Array Value} {t : Term} {C n d : String} {a : Addr} {k : Int32} (ht : t.eval args s none [] s = some (.ref a)) (h : (Jvm.Cond.eq (.field t C n d) (.int k)).value args s none s [] = some true) : Fld s s.heap a C n d (.int k) := by
  refine Fld.start ?_
  simp only [Cond.value, Term.eval, ht] at h
  cases hv : s.fieldOf? a C n d with
  | none => simp [hv] at h
  | some v => cases v <;> simp [hv] at h; subst h; rfl
theorem own_fldN {s : State} {args : Array Value} {t : Term} {C n d : String} {a : Addr} (ht : t.eval args s none [] s = some (.ref a)) (h : (Jvm.Cond.eq (.field t C n d) .null).value args s none s [] = some true) : Fld s s.heap a C n d .null :=
  Fld.start ((fld_at ht).symm.trans (null_v h))
theorem own_fldX {s : State} {args : Array Value} {t : Term} {C n d K : String} {a : Addr} (ht : t.eval args s none [] s = some (.ref a)) (h : (Jvm.Cond.exactly (.field t C n d) K).value args s none s [] = some true) : ∃ b, Fld s s.heap a C n d (.ref b) ∧ Exa s s.heap b K := by
  obtain ⟨b, eb⟩ := exa_v h
  exact ⟨b, Fld.start ((fld_at ht).symm.trans eb), Exa.start eb h⟩
theorem own_len {s : State} {args : Array Value} {t : Term} {a : Addr} {cl : Cell} {ty : FieldType} {k : Int32} {k' : Nat} (ht : t.eval args s none [] s = some (.ref a)) (A : Arr s s.heap a cl ty) (h : (Jvm.Cond.eq (.length t) (.int k)).value args s none s [] = some true) (hk : k.toInt = k') : cl.slots.size = k' := by
  obtain ⟨v, hv⟩ : ∃ v, (Term.length t).eval args s none [] s = some v := by
    cases hq : (Term.length t).eval args s none [] s with
    | none => simp [Cond.value, hq] at h
    | some v => exact ⟨v, rfl⟩
  have ha : s.arrayAt? a = some cl := Arr.fin (Vm.Alike.refl _) A
  by_cases hl : cl.slots.size < 2 ^ 31
  · rw [len_f ht ha hl] at hv
    have h2 := len_f ht ha hl
    have h3 : cl.slots.size.toInt32 = k := gotT (Cond.eq_ints h2 (Term.int_eval k)) h
    have h4 := len_toInt hl
    rw [h3, hk] at h4
    omega
  · simp [Term.eval, ht, ha, hl] at hv
theorem own_ref {x y : Addr} (h : x ≠ y) : decide ((Value.ref x : Value) = .ref y) = false := by simp [h]
theorem own_mask (x : Int32) : 0 ≤ (x &&& (2147483647 : Int32)).toInt := by
  have := c_mask x 2147483647 31 (by decide) (by decide); omega
def own_St (Z : State) (u0 u1 u2 u3 u4 u5 : Addr) : Prop := (Sta Z Z.heap "com/example/whyle/whyle/cfa/Relation" "EQUAL" "Lcom/example/whyle/whyle/cfa/Relation;" (.ref u0)) ∧ (Exa Z Z.heap u0 "com/example/whyle/whyle/cfa/Relation") ∧ (Sta Z Z.heap "com/example/whyle/whyle/cfa/Relation" "NOT_EQUAL" "Lcom/example/whyle/whyle/cfa/Relation;" (.ref u1)) ∧ (Exa Z Z.heap u1 "com/example/whyle/whyle/cfa/Relation") ∧ (Sta Z Z.heap "com/example/whyle/whyle/cfa/Relation" "LESS" "Lcom/example/whyle/whyle/cfa/Relation;" (.ref u2)) ∧ (Exa Z Z.heap u2 "com/example/whyle/whyle/cfa/Relation") ∧ (Sta Z Z.heap "com/example/whyle/whyle/cfa/Relation" "LESS_OR_EQUAL" "Lcom/example/whyle/whyle/cfa/Relation;" (.ref u3)) ∧ (Exa Z Z.heap u3 "com/example/whyle/whyle/cfa/Relation") ∧ (Sta Z Z.heap "com/example/whyle/whyle/cfa/Relation" "GREATER" "Lcom/example/whyle/whyle/cfa/Relation;" (.ref u4)) ∧ (Exa Z Z.heap u4 "com/example/whyle/whyle/cfa/Relation") ∧ (Sta Z Z.heap "com/example/whyle/whyle/cfa/Relation" "GREATER_OR_EQUAL" "Lcom/example/whyle/whyle/cfa/Relation;" (.ref u5)) ∧ (Exa Z Z.heap u5 "com/example/whyle/whyle/cfa/Relation") ∧ (Fld Z Z.heap u0 "java/lang/Enum" "ordinal" "I" (.int (0 : Int32))) ∧ (Fld Z Z.heap u2 "java/lang/Enum" "ordinal" "I" (.int (2 : Int32))) ∧ (Fld Z Z.heap u4 "java/lang/Enum" "ordinal" "I" (.int (4 : Int32))) ∧ (Fld Z Z.heap u1 "java/lang/Enum" "ordinal" "I" (.int (1 : Int32))) ∧ (Fld Z Z.heap u5 "java/lang/Enum" "ordinal" "I" (.int (5 : Int32))) ∧ (Fld Z Z.heap u3 "java/lang/Enum" "ordinal" "I" (.int (3 : Int32)))
theorem own_S_u0 {Z : State} {u0 u1 u2 u3 u4 u5 : Addr} (G : own_St Z u0 u1 u2 u3 u4 u5) : Sta Z Z.heap "com/example/whyle/whyle/cfa/Relation" "EQUAL" "Lcom/example/whyle/whyle/cfa/Relation;" (.ref u0) := G.1
theorem own_X_u0 {Z : State} {u0 u1 u2 u3 u4 u5 : Addr} (G : own_St Z u0 u1 u2 u3 u4 u5) : Exa Z Z.heap u0 "com/example/whyle/whyle/cfa/Relation" := G.2.1
theorem own_S_u1 {Z : State} {u0 u1 u2 u3 u4 u5 : Addr} (G : own_St Z u0 u1 u2 u3 u4 u5) : Sta Z Z.heap "com/example/whyle/whyle/cfa/Relation" "NOT_EQUAL" "Lcom/example/whyle/whyle/cfa/Relation;" (.ref u1) := G.2.2.1
theorem own_X_u1 {Z : State} {u0 u1 u2 u3 u4 u5 : Addr} (G : own_St Z u0 u1 u2 u3 u4 u5) : Exa Z Z.heap u1 "com/example/whyle/whyle/cfa/Relation" := G.2.2.2.1
theorem own_S_u2 {Z : State} {u0 u1 u2 u3 u4 u5 : Addr} (G : own_St Z u0 u1 u2 u3 u4 u5) : Sta Z Z.heap "com/example/whyle/whyle/cfa/Relation" "LESS" "Lcom/example/whyle/whyle/cfa/Relation;" (.ref u2) := G.2.2.2.2.1
theorem own_X_u2 {Z : State} {u0 u1 u2 u3 u4 u5 : Addr} (G : own_St Z u0 u1 u2 u3 u4 u5) : Exa Z Z.heap u2 "com/example/whyle/whyle/cfa/Relation" := G.2.2.2.2.2.1
theorem own_S_u3 {Z : State} {u0 u1 u2 u3 u4 u5 : Addr} (G : own_St Z u0 u1 u2 u3 u4 u5) : Sta Z Z.heap "com/example/whyle/whyle/cfa/Relation" "LESS_OR_EQUAL" "Lcom/example/whyle/whyle/cfa/Relation;" (.ref u3) := G.2.2.2.2.2.2.1
theorem own_X_u3 {Z : State} {u0 u1 u2 u3 u4 u5 : Addr} (G : own_St Z u0 u1 u2 u3 u4 u5) : Exa Z Z.heap u3 "com/example/whyle/whyle/cfa/Relation" := G.2.2.2.2.2.2.2.1
theorem own_S_u4 {Z : State} {u0 u1 u2 u3 u4 u5 : Addr} (G : own_St Z u0 u1 u2 u3 u4 u5) : Sta Z Z.heap "com/example/whyle/whyle/cfa/Relation" "GREATER" "Lcom/example/whyle/whyle/cfa/Relation;" (.ref u4) := G.2.2.2.2.2.2.2.2.1
theorem own_X_u4 {Z : State} {u0 u1 u2 u3 u4 u5 : Addr} (G : own_St Z u0 u1 u2 u3 u4 u5) : Exa Z Z.heap u4 "com/example/whyle/whyle/cfa/Relation" := G.2.2.2.2.2.2.2.2.2.1
theorem own_S_u5 {Z : State} {u0 u1 u2 u3 u4 u5 : Addr} (G : own_St Z u0 u1 u2 u3 u4 u5) : Sta Z Z.heap "com/example/whyle/whyle/cfa/Relation" "GREATER_OR_EQUAL" "Lcom/example/whyle/whyle/cfa/Relation;" (.ref u5) := G.2.2.2.2.2.2.2.2.2.2.1
theorem own_X_u5 {Z : State} {u0 u1 u2 u3 u4 u5 : Addr} (G : own_St Z u0 u1 u2 u3 u4 u5) : Exa Z Z.heap u5 "com/example/whyle/whyle/cfa/Relation" := G.2.2.2.2.2.2.2.2.2.2.2.1
theorem own_F_u0_ordinal {Z : State} {u0 u1 u2 u3 u4 u5 : Addr} (G : own_St Z u0 u1 u2 u3 u4 u5) : Fld Z Z.heap u0 "java/lang/Enum" "ordinal" "I" (.int (0 : Int32)) := G.2.2.2.2.2.2.2.2.2.2.2.2.1
theorem own_F_u2_ordinal {Z : State} {u0 u1 u2 u3 u4 u5 : Addr} (G : own_St Z u0 u1 u2 u3 u4 u5) : Fld Z Z.heap u2 "java/lang/Enum" "ordinal" "I" (.int (2 : Int32)) := G.2.2.2.2.2.2.2.2.2.2.2.2.2.1
theorem own_F_u4_ordinal {Z : State} {u0 u1 u2 u3 u4 u5 : Addr} (G : own_St Z u0 u1 u2 u3 u4 u5) : Fld Z Z.heap u4 "java/lang/Enum" "ordinal" "I" (.int (4 : Int32)) := G.2.2.2.2.2.2.2.2.2.2.2.2.2.2.1
theorem own_F_u1_ordinal {Z : State} {u0 u1 u2 u3 u4 u5 : Addr} (G : own_St Z u0 u1 u2 u3 u4 u5) : Fld Z Z.heap u1 "java/lang/Enum" "ordinal" "I" (.int (1 : Int32)) := G.2.2.2.2.2.2.2.2.2.2.2.2.2.2.2.1
theorem own_F_u5_ordinal {Z : State} {u0 u1 u2 u3 u4 u5 : Addr} (G : own_St Z u0 u1 u2 u3 u4 u5) : Fld Z Z.heap u5 "java/lang/Enum" "ordinal" "I" (.int (5 : Int32)) := G.2.2.2.2.2.2.2.2.2.2.2.2.2.2.2.2.1
theorem own_F_u3_ordinal {Z : State} {u0 u1 u2 u3 u4 u5 : Addr} (G : own_St Z u0 u1 u2 u3 u4 u5) : Fld Z Z.heap u3 "java/lang/Enum" "ordinal" "I" (.int (3 : Int32)) := G.2.2.2.2.2.2.2.2.2.2.2.2.2.2.2.2.2
theorem own_rem6 (x : Int32) : ((x &&& (2147483647 : Int32)) - ((x &&& (2147483647 : Int32)) / (6 : Int32)) * (6 : Int32)) = (0 : Int32) ∨ ((x &&& (2147483647 : Int32)) - ((x &&& (2147483647 : Int32)) / (6 : Int32)) * (6 : Int32)) = (1 : Int32) ∨ ((x &&& (2147483647 : Int32)) - ((x &&& (2147483647 : Int32)) / (6 : Int32)) * (6 : Int32)) = (2 : Int32) ∨ ((x &&& (2147483647 : Int32)) - ((x &&& (2147483647 : Int32)) / (6 : Int32)) * (6 : Int32)) = (3 : Int32) ∨ ((x &&& (2147483647 : Int32)) - ((x &&& (2147483647 : Int32)) / (6 : Int32)) * (6 : Int32)) = (4 : Int32) ∨ ((x &&& (2147483647 : Int32)) - ((x &&& (2147483647 : Int32)) / (6 : Int32)) * (6 : Int32)) = (5 : Int32) := by
  have h0 := own_mask x
  have h1 := Jvm.LawKit.rem_toInt (x &&& (2147483647 : Int32)) (6 : Int32)
  have h2 : ((6 : Int32)).toInt = 6 := by decide
  rw [h2, Int.tmod_eq_emod_of_nonneg h0] at h1
  have h3 : ((x &&& (2147483647 : Int32)) - ((x &&& (2147483647 : Int32)) / (6 : Int32)) * (6 : Int32)).toInt = 0 ∨ ((x &&& (2147483647 : Int32)) - ((x &&& (2147483647 : Int32)) / (6 : Int32)) * (6 : Int32)).toInt = 1 ∨ ((x &&& (2147483647 : Int32)) - ((x &&& (2147483647 : Int32)) / (6 : Int32)) * (6 : Int32)).toInt = 2 ∨ ((x &&& (2147483647 : Int32)) - ((x &&& (2147483647 : Int32)) / (6 : Int32)) * (6 : Int32)).toInt = 3 ∨ ((x &&& (2147483647 : Int32)) - ((x &&& (2147483647 : Int32)) / (6 : Int32)) * (6 : Int32)).toInt = 4 ∨ ((x &&& (2147483647 : Int32)) - ((x &&& (2147483647 : Int32)) / (6 : Int32)) * (6 : Int32)).toInt = 5 := by omega
  rcases h3 with h | h | h | h | h | h
  · exact Or.inl (Int32.toInt_inj.mp (h.trans (by decide)))
  · exact Or.inr <| Or.inl (Int32.toInt_inj.mp (h.trans (by decide)))
  · exact Or.inr <| Or.inr <| Or.inl (Int32.toInt_inj.mp (h.trans (by decide)))
  · exact Or.inr <| Or.inr <| Or.inr <| Or.inl (Int32.toInt_inj.mp (h.trans (by decide)))
  · exact Or.inr <| Or.inr <| Or.inr <| Or.inr <| Or.inl (Int32.toInt_inj.mp (h.trans (by decide)))
  · exact Or.inr <| Or.inr <| Or.inr <| Or.inr <| Or.inr <| (Int32.toInt_inj.mp (h.trans (by decide)))
theorem own_sgn (p2 : Int32) : ((ifCond.holds .lt p2 = true) ∧ (ifCond.holds .ge p2 = false) ∧ (ifCond.holds .eq p2 = false) ∧ (ifCond.holds .ne p2 = true) ∧ (ifCond.holds .gt p2 = false) ∧ (ifCond.holds .le p2 = true)) ∨ ((ifCond.holds .lt p2 = false) ∧ (ifCond.holds .ge p2 = true) ∧ (ifCond.holds .eq p2 = true) ∧ (ifCond.holds .ne p2 = false) ∧ (ifCond.holds .gt p2 = false) ∧ (ifCond.holds .le p2 = true)) ∨ ((ifCond.holds .lt p2 = false) ∧ (ifCond.holds .ge p2 = true) ∧ (ifCond.holds .eq p2 = false) ∧ (ifCond.holds .ne p2 = true) ∧ (ifCond.holds .gt p2 = true) ∧ (ifCond.holds .le p2 = false)) := by
  have hz : ((0 : Int32)).toInt = 0 := by decide
  simp only [if0]
  by_cases h1 : p2 < 0
  · have h2 : ¬ (0 : Int32) < p2 := by rw [Int32.lt_iff_toInt_lt] at *; omega
    have h3 : ¬ p2 = 0 := fun h => by subst h; exact h2 h1
    exact Or.inl ⟨(tlt h1).1, (tlt h1).2.1, (feq h3).1, (feq h3).2, (flt h2).2.2.1, (flt h2).2.2.2⟩
  · by_cases h2 : p2 = 0
    · have h3 : ¬ (0 : Int32) < p2 := by subst h2; exact h1
      exact Or.inr (Or.inl ⟨(flt h1).1, (flt h1).2.1, (teq h2).1, (teq h2).2, (flt h3).2.2.1, (flt h3).2.2.2⟩)
    · have h3 : (0 : Int32) < p2 := by
        have := mt Int32.toInt_inj.mp h2
        rw [Int32.lt_iff_toInt_lt] at *; omega
      exact Or.inr (Or.inr ⟨(flt h1).1, (flt h1).2.1, (feq h2).1, (feq h2).2, (tlt h3).2.2.1, (tlt h3).2.2.2⟩)
theorem d1_0 : decode prog_62_method_8_code 0 = .ok (.aload_n 0, 1) := by decide +kernel
theorem d1_1 : decode prog_62_method_8_code 1 = .ok (.invokevirtual 55, 3) := by decide +kernel
theorem d2_0 : decode jdk_37_method_2_code 0 = .ok (.aload_n 0, 1) := by decide +kernel
theorem d2_1 : decode jdk_37_method_2_code 1 = .ok (.getfield 7, 3) := by decide +kernel
theorem d2_4 : decode jdk_37_method_2_code 4 = .ok (.ireturn, 1) := by decide +kernel
abbrev Y0 : MethodName := (⟨"java/lang/Enum", "ordinal", "()I"⟩ : MethodName)
theorem pn0 : plainName "java/lang/Enum" = true := by first | (simp [plainName, overriddenIn]; done) | decide +kernel
theorem ef_own_c0_ordinal (m : MethodId) (u0 u1 u2 u3 u4 u5 : Addr) : entryFrame m #[xr u0] 1 = (mkF m 0 #[vr u0] []) := by first | (simp [entryFrame, mkF, argsToLocals, Value.category]; done) | rfl
set_option maxRecDepth 65536 in
set_option maxHeartbeats 40000000 in
theorem own_c0_ordinal (l : Launch) (Z : State) (a0 : Array Value) (hw : ∀ d ∈ tables_1, d.before a0 Z = true) (u0 u1 u2 u3 u4 u5 : Addr) (G : own_St Z u0 u1 u2 u3 u4 u5) (h0 : Heap) (n0 : Nat) (O0 : Old Z n0 h0) : own_Met l Z Y0 jdk_37_method_2_code 1 (some .int) ({ frames := 0, cells := 0, slots := 0, locals := 0 } : Room) #[xr u0] h0 (own_QR (some (xi (0 : Int32))) h0 n0) := by
  intro ws
  refine MetFree.of_bodySF (plainFor_of_name pn0) hisR ?_
  intro p e s m args below meth c s₁ Bd hml0 hP hK
  obtain ⟨rfl, hZ, hh⟩ := hP
  have hx := Bd.exec
  have hby := Bd.bytes
  have hml : c.maxLocals = 1 := hml0
  have hown : s.vm.findClass "java/lang/Enum" = some m.cls := findClass_of_methodNamed Bd.named
  have hnm := (name_of_methodNamed Bd.named Bd.method).1
  have X0 : Stand p l e ({ frames := 0, cells := 0, slots := 0, locals := 0 } : Room) s m #[xr u0] below meth c s₁ [] 0 0 := Stand.of_body Bd
  have e0 : s₁.heap = h0 := by rw [← hh, Bd.state]; rfl
  have N0 := Fr.nil n0
  have pre0 : ∀ t, Steps p.tables e below (s₁.setTop (mkF m 0 #[vr u0] [])) t → Steps p.tables e below (s₁.setTop (entryFrame m #[xr u0] 1)) t := fun t st => castTop (ef_own_c0_ordinal m u0 u1 u2 u3 u4 u5) st
  obtain ⟨T1, X1, e1, st1⟩ := getF X0 hx hZ hown (host := "") (Or.inl (ww hw 30 rfl)) Via.refl e0 ((own_F_u0_ordinal G).ext O0.2) (g := (mkF m 1 #[vr u0] [xr u0])) rfl rfl (hb hby d2_1)
  obtain ⟨fs, hr, hrun, hended, hW, hsame⟩ := X1.leave (v := some (xi (0 : Int32))) (fun h => by rw [Bd.returns] at h; cases h)
  refine ⟨_, _, pre0 _ ?_, hrun, hended, _, _, rfl, ?_, ⟨_, rfl⟩, hW, hsame.mono (by decide) (by decide)⟩
  · show own_S p e below s₁ (mkF m 0 #[vr u0] []) _
    refine XS.aloadN X0.here hx rfl (hb hby d2_0) rfl rfl ?_
    show own_S p e below s₁ (mkF m 1 #[vr u0] [xr u0]) _
    refine st1 _ ?_
    show own_S p e below T1 (mkF m 4 #[vr u0] [xi (0 : Int32)]) _
    exact retI X1 hx Bd.returns (hb hby d2_4) hr
  · exact ⟨rfl, N0, e1⟩
theorem pd0 : parseMethodDescriptor "()I" = some ⟨[], some .int⟩ := by decide +kernel
abbrev Y1 : MethodName := (⟨"com/example/whyle/whyle/cfa/Relation", "ordinal", "()I"⟩ : MethodName)
theorem d1_4 : decode prog_62_method_8_code 4 = .ok (.tableswitch 40 0 5 #[50, 62, 74, 86, 98, 110], 40) := by decide +kernel
theorem d1_54 : decode prog_62_method_8_code 54 = .ok (.iload_n 1, 1) := by decide +kernel
theorem d1_55 : decode prog_62_method_8_code 55 = .ok (.ifCond .ne 7, 3) := by decide +kernel
theorem d1_62 : decode prog_62_method_8_code 62 = .ok (.iconst 0, 1) := by decide +kernel
theorem d1_63 : decode prog_62_method_8_code 63 = .ok (.goto 60, 3) := by decide +kernel
theorem d1_123 : decode prog_62_method_8_code 123 = .ok (.ireturn, 1) := by decide +kernel
abbrev Y2 : MethodName := (⟨"com/example/whyle/whyle/cfa/Relation", "holds", "(I)Z"⟩ : MethodName)
theorem pn1 : plainName "com/example/whyle/whyle/cfa/Relation" = true := by first | (simp [plainName, overriddenIn]; done) | decide +kernel
theorem ef_own_c0_holds (m : MethodId) (u0 u1 u2 u3 u4 u5 : Addr) (p2 : Int32) : entryFrame m #[xr u0, xi p2] 2 = (mkF m 0 #[vr u0, vi p2] []) := by first | (simp [entryFrame, mkF, argsToLocals, Value.category]; done) | rfl
set_option maxRecDepth 65536 in
set_option maxHeartbeats 40000000 in
theorem own_c0_holds (l : Launch) (Z : State) (a0 : Array Value) (hw : ∀ d ∈ tables_1, d.before a0 Z = true) (u0 u1 u2 u3 u4 u5 : Addr) (G : own_St Z u0 u1 u2 u3 u4 u5) (p2 : Int32) (as3 : ifCond.holds .ne p2 = true) (h0 : Heap) (n0 : Nat) (O0 : Old Z n0 h0) : own_Met l Z Y2 prog_62_method_8_code 2 (some .boolean) ({ frames := 1, cells := 0, slots := 0, locals := 12 } : Room) #[xr u0, xi p2] h0 (own_QR (some (xi (0 : Int32))) h0 n0) := by
  intro ws
  refine MetFree.of_bodySF (plainFor_of_name pn1) hisR ?_
  intro p e s m args below meth c s₁ Bd hml0 hP hK
  obtain ⟨rfl, hZ, hh⟩ := hP
  have hx := Bd.exec
  have hby := Bd.bytes
  have hml : c.maxLocals = 2 := hml0
  have hown : s.vm.findClass "com/example/whyle/whyle/cfa/Relation" = some m.cls := findClass_of_methodNamed Bd.named
  have hnm := (name_of_methodNamed Bd.named Bd.method).1
  have X0 : Stand p l e ({ frames := 1, cells := 0, slots := 0, locals := 12 } : Room) s m #[xr u0, xi p2] below meth c s₁ [] 0 0 := Stand.of_body Bd
  have e0 : s₁.heap = h0 := by rw [← hh, Bd.state]; rfl
  have N0 := Fr.nil n0
  have pre0 : ∀ t, Steps p.tables e below (s₁.setTop (mkF m 0 #[vr u0, vi p2] [])) t → Steps p.tables e below (s₁.setTop (entryFrame m #[xr u0, xi p2] 2)) t := fun t st => castTop (ef_own_c0_holds m u0 u1 u2 u3 u4 u5 p2) st
  obtain ⟨cq1, kq1, qa1, qb1, qc1⟩ := isOf hZ e0 ((own_X_u0 G).ext O0.2)
  obtain ⟨_, _, ⟨T1, L1, k1, n1⟩, -, X1, ⟨Lc1, hQ1, l1, y1, z1⟩, st1⟩ := X0.virtualBackUp hx (x := Y1) (y := Y0) hown (mvT hZ (ww hw 23 rfl)) (mvT hZ (ww hw 24 rfl)) (mvT hZ (ww hw 25 rfl)) (by decide) (mvT hZ (ww hw 27 rfl)) (mvT hZ (ww hw 26 rfl)) (backOf (W := 0) (own_c0_ordinal l Z a0 hw u0 u1 u2 u3 u4 u5 G h0 n0 O0 []) hZ (ww hw 29 rfl) (ww hw 28 rfl) (by decide) (by decide)) qa1 qc1 (g := (mkF m 1 #[vr u0, vi p2] [xr u0])) rfl (by rw [hml]; rfl) (Steps.refl _) (argsL := []) (rest := []) (lenOf pd0 rfl) rfl (by show 2 * 0 + _ ≤ _; exact Nat.le_of_eq rfl) (hb hby d1_1) (fun _ _ => ⟨rfl, e0, (by decide : 0 + 0 ≤ _), (by decide : 0 + 0 ≤ _)⟩)
  dsimp only [Pt.U, Pt.locs, Pt.cells, Pt.slots] at X1 l1 y1 z1 st1 hQ1
  subst l1 y1 z1
  obtain ⟨rfl, Nq1, e1⟩ := hQ1
  have N1 := Fr.app N0 Nq1
  obtain ⟨fs, hr, hrun, hended, hW, hsame⟩ := X1.leave (v := some (xi (0 : Int32))) (fun h => by rw [Bd.returns] at h; cases h)
  refine ⟨_, _, pre0 _ ?_, hrun, hended, _, _, rfl, ?_, ⟨_, rfl⟩, hW, hsame.mono (by decide) (by decide)⟩
  · show own_S p e below s₁ (mkF m 0 #[vr u0, vi p2] []) _
    refine XS.aloadN X0.here hx rfl (hb hby d1_0) rfl rfl ?_
    show own_S p e below s₁ (mkF m 1 #[vr u0, vi p2] [xr u0]) _
    refine st1.trans ?_
    show own_S p e below T1 (mkF m 4 #[vr u0, vi p2] [xi (0 : Int32)]) _
    refine XS.tswIn X1.here hx rfl (pc0 := 4) (pc' := 54) (o := 50) rfl (hb hby d1_4) rfl (by decide) (by decide) (by decide) (by decide) ?_
    show own_S p e below T1 (mkF m 54 #[vr u0, vi p2] []) _
    refine XS.iloadN X1.here hx rfl (hb hby d1_54) rfl ?_
    show own_S p e below T1 (mkF m 55 #[vr u0, vi p2] [xi p2]) _
    refine XS.ifYes X1.here hx rfl (pc0 := 55) (pc' := 62) rfl (hb hby d1_55) rfl as3 (by decide) (by decide) ?_
    show own_S p e below T1 (mkF m 62 #[vr u0, vi p2] []) _
    refine XS.iconst X1.here hx rfl (hb hby d1_62) ?_
    show own_S p e below T1 (mkF m 63 #[vr u0, vi p2] [xi (0 : Int32)]) _
    refine XS.goto X1.here hx rfl (pc0 := 63) (pc' := 123) rfl (hb hby d1_63) (by decide) (by decide) ?_
    show own_S p e below T1 (mkF m 123 #[vr u0, vi p2] [xi (0 : Int32)]) _
    exact retN X1 hx (t := .boolean) Bd.returns (by simp) (hb hby d1_123) hr
  · exact ⟨rfl, N1, e1⟩
theorem pd1 : parseMethodDescriptor "(I)Z" = some ⟨[.int], some .boolean⟩ := by decide +kernel
theorem pn2 : plainName "com/example/whyle/whyle/cfa/RelationHoldsPinLaw" = true := by first | (simp [plainName, overriddenIn]; done) | decide +kernel
theorem ef_own_l0 (m : MethodId) (u0 u1 u2 u3 u4 u5 : Addr) (p1 : Int32) (p2 : Int32) : entryFrame m #[xi p1, xi p2] maxLocals = (mkF m 0 #[vi p1, vi p2, vu, vu, vu, vu, vu] []) := by first | (simp [entryFrame, mkF, argsToLocals, Value.category, maxLocals]; done) | rfl
set_option maxRecDepth 65536 in
set_option maxHeartbeats 40000000 in
theorem own_l0 (l : Launch) (Z : State) (a0 : Array Value) (hw : ∀ d ∈ tables_1, d.before a0 Z = true) (u0 u1 u2 u3 u4 u5 : Addr) (G : own_St Z u0 u1 u2 u3 u4 u5) (p1 : Int32) (p2 : Int32) (as12 : ((p1 &&& (2147483647 : Int32)) - ((p1 &&& (2147483647 : Int32)) / (6 : Int32)) * (6 : Int32)) = (0 : Int32)) (as1 : ifCond.holds .ge p2 = false) (as3 : ifCond.holds .ne p2 = true) (h0 : Heap) (n0 : Nat) (O0 : Old Z n0 h0) : own_Met l Z x code maxLocals ret room_1 #[xi p1, xi p2] h0 (own_QL (some (xi (1 : Int32))) n0) := by
  intro ws
  refine MetFree.of_bodySF (plainFor_of_name pn2) hisR ?_
  intro p e s m args below meth c s₁ Bd hml0 hP hK
  obtain ⟨rfl, hZ, hh⟩ := hP
  have hx := Bd.exec
  have hby := Bd.bytes
  have hml : c.maxLocals = 7 := hml0
  have hown : s.vm.findClass "com/example/whyle/whyle/cfa/RelationHoldsPinLaw" = some m.cls := findClass_of_methodNamed Bd.named
  have hnm := (name_of_methodNamed Bd.named Bd.method).1
  have X0 : Stand p l e room_1 s m #[xi p1, xi p2] below meth c s₁ [] 0 0 := Stand.of_body Bd
  have e0 : s₁.heap = h0 := by rw [← hh, Bd.state]; rfl
  have N0 := Fr.nil n0
  have pre0 : ∀ t, Steps p.tables e below (s₁.setTop (mkF m 0 #[vi p1, vi p2, vu, vu, vu, vu, vu] [])) t → Steps p.tables e below (s₁.setTop (entryFrame m #[xi p1, xi p2] maxLocals)) t := fun t st => castTop (ef_own_l0 m u0 u1 u2 u3 u4 u5 p1 p2) st
  obtain ⟨T1, h1, k1, X1, e1, E1, A1, Ov1, st1⟩ := newR X0 hx hZ hown (ww hw 0 rfl) (ww hw 1 rfl) e0 (g := (mkF m 2 #[vi p1, vi p2, vu, vu, vu, vu, vu] [xi (6 : Int32)])) rfl (hb hby at_2) rfl (by decide) (cap := 6) (by decide) (by decide) (by decide) (by decide)
  obtain ⟨b1, g1⟩ : ∃ z, z = h0.size := ⟨_, rfl⟩
  rw [← g1] at A1 st1
  have g_b1 : n0 ≤ b1 := own_fresh O0 g1
  have O1 : Old Z n0 h1 := O0.ext E1
  have V_b1 : Arv Z h1 b1 k1 (.object "com/example/whyle/whyle/cfa/Relation") (6 : Int32) [.null, .null, .null, .null, .null, .null] .null := (Arv.new A1 (by decide)).pad (pad_rep [] .null 6)
  obtain ⟨T2, X2, e2, st2⟩ := getS2 X1 hx hZ hown (host := "") (Or.inl (ww hw 2 rfl)) Via.refl e1 ((own_S_u0 G).ext O1.2) (g := (mkF m 7 #[vi p1, vi p2, vu, vu, vu, vu, vu] [xi (0 : Int32), xr b1, xr b1])) rfl (hb hby at_7)
  obtain ⟨cl3, Ar3, q3, S3, N3_, H3, G3⟩ := V_b1
  have hin3 : ¬ ((0 : Int32) < 0 ∨ cl3.slots.size ≤ ((0 : Int32)).toNatClampNeg) := inb_of S3 ⟨by decide, by decide⟩
  obtain ⟨T4, h4, X4, e4, W4, st4⟩ := stR X2 hx hZ e2 Ar3 (j := (0 : Int32)) hin3 rfl (Sto.ofV Ar3 q3 Ov1 (Ins.self ((own_X_u0 G).ext O1.2))) (g := (mkF m 10 #[vi p1, vi p2, vu, vu, vu, vu, vu] [xr u0, xi (0 : Int32), xr b1, xr b1])) rfl rfl (hb hby at_10)
  have V_b1_4 : Arv Z h4 b1 k1 (.object "com/example/whyle/whyle/cfa/Relation") (6 : Int32) [xr u0, .null, .null, .null, .null, .null] .null := Arv.set Ar3 q3 S3 N3_ H3 G3 rfl W4 0 rfl (Nat.le_of_ble_eq_true rfl)
  have O4 : Old Z n0 h4 := O1.wr W4 g_b1
  have N4 := Fr.snoc X4 N0 g_b1
  obtain ⟨T5, X5, e5, st5⟩ := getS2 X4 hx hZ hown (host := "") (Or.inl (ww hw 6 rfl)) Via.refl e4 ((own_S_u1 G).ext O4.2) (g := (mkF m 13 #[vi p1, vi p2, vu, vu, vu, vu, vu] [xi (1 : Int32), xr b1, xr b1])) rfl (hb hby at_13)
  obtain ⟨cl6, Ar6, q6, S6, N6_, H6, G6⟩ := V_b1_4
  have hin6 : ¬ ((1 : Int32) < 0 ∨ cl6.slots.size ≤ ((1 : Int32)).toNatClampNeg) := inb_of S6 ⟨by decide, by decide⟩
  obtain ⟨T7, h7, X7, e7, W7, st7⟩ := stR X5 hx hZ e5 Ar6 (j := (1 : Int32)) hin6 rfl (Sto.ofV Ar6 q6 Ov1 (Ins.self ((own_X_u1 G).ext O4.2))) (g := (mkF m 16 #[vi p1, vi p2, vu, vu, vu, vu, vu] [xr u1, xi (1 : Int32), xr b1, xr b1])) rfl rfl (hb hby at_16)
  have V_b1_7 : Arv Z h7 b1 k1 (.object "com/example/whyle/whyle/cfa/Relation") (6 : Int32) [xr u0, xr u1, .null, .null, .null, .null] .null := Arv.set Ar6 q6 S6 N6_ H6 G6 rfl W7 1 rfl (Nat.le_of_ble_eq_true rfl)
  have O7 : Old Z n0 h7 := O4.wr W7 g_b1
  have N7 := Fr.snoc X7 N4 g_b1
  obtain ⟨T8, X8, e8, st8⟩ := getS2 X7 hx hZ hown (host := "") (Or.inl (ww hw 8 rfl)) Via.refl e7 ((own_S_u2 G).ext O7.2) (g := (mkF m 19 #[vi p1, vi p2, vu, vu, vu, vu, vu] [xi (2 : Int32), xr b1, xr b1])) rfl (hb hby at_19)
  obtain ⟨cl9, Ar9, q9, S9, N9_, H9, G9⟩ := V_b1_7
  have hin9 : ¬ ((2 : Int32) < 0 ∨ cl9.slots.size ≤ ((2 : Int32)).toNatClampNeg) := inb_of S9 ⟨by decide, by decide⟩
  obtain ⟨T10, h10, X10, e10, W10, st10⟩ := stR X8 hx hZ e8 Ar9 (j := (2 : Int32)) hin9 rfl (Sto.ofV Ar9 q9 Ov1 (Ins.self ((own_X_u2 G).ext O7.2))) (g := (mkF m 22 #[vi p1, vi p2, vu, vu, vu, vu, vu] [xr u2, xi (2 : Int32), xr b1, xr b1])) rfl rfl (hb hby at_22)
  have V_b1_10 : Arv Z h10 b1 k1 (.object "com/example/whyle/whyle/cfa/Relation") (6 : Int32) [xr u0, xr u1, xr u2, .null, .null, .null] .null := Arv.set Ar9 q9 S9 N9_ H9 G9 rfl W10 2 rfl (Nat.le_of_ble_eq_true rfl)
  have O10 : Old Z n0 h10 := O7.wr W10 g_b1
  have N10 := Fr.snoc X10 N7 g_b1
  obtain ⟨T11, X11, e11, st11⟩ := getS2 X10 hx hZ hown (host := "") (Or.inl (ww hw 10 rfl)) Via.refl e10 ((own_S_u3 G).ext O10.2) (g := (mkF m 25 #[vi p1, vi p2, vu, vu, vu, vu, vu] [xi (3 : Int32), xr b1, xr b1])) rfl (hb hby at_25)
  obtain ⟨cl12, Ar12, q12, S12, N12_, H12, G12⟩ := V_b1_10
  have hin12 : ¬ ((3 : Int32) < 0 ∨ cl12.slots.size ≤ ((3 : Int32)).toNatClampNeg) := inb_of S12 ⟨by decide, by decide⟩
  obtain ⟨T13, h13, X13, e13, W13, st13⟩ := stR X11 hx hZ e11 Ar12 (j := (3 : Int32)) hin12 rfl (Sto.ofV Ar12 q12 Ov1 (Ins.self ((own_X_u3 G).ext O10.2))) (g := (mkF m 28 #[vi p1, vi p2, vu, vu, vu, vu, vu] [xr u3, xi (3 : Int32), xr b1, xr b1])) rfl rfl (hb hby at_28)
  have V_b1_13 : Arv Z h13 b1 k1 (.object "com/example/whyle/whyle/cfa/Relation") (6 : Int32) [xr u0, xr u1, xr u2, xr u3, .null, .null] .null := Arv.set Ar12 q12 S12 N12_ H12 G12 rfl W13 3 rfl (Nat.le_of_ble_eq_true rfl)
  have O13 : Old Z n0 h13 := O10.wr W13 g_b1
  have N13 := Fr.snoc X13 N10 g_b1
  obtain ⟨T14, X14, e14, st14⟩ := getS2 X13 hx hZ hown (host := "") (Or.inl (ww hw 12 rfl)) Via.refl e13 ((own_S_u4 G).ext O13.2) (g := (mkF m 31 #[vi p1, vi p2, vu, vu, vu, vu, vu] [xi (4 : Int32), xr b1, xr b1])) rfl (hb hby at_31)
  obtain ⟨cl15, Ar15, q15, S15, N15_, H15, G15⟩ := V_b1_13
  have hin15 : ¬ ((4 : Int32) < 0 ∨ cl15.slots.size ≤ ((4 : Int32)).toNatClampNeg) := inb_of S15 ⟨by decide, by decide⟩
  obtain ⟨T16, h16, X16, e16, W16, st16⟩ := stR X14 hx hZ e14 Ar15 (j := (4 : Int32)) hin15 rfl (Sto.ofV Ar15 q15 Ov1 (Ins.self ((own_X_u4 G).ext O13.2))) (g := (mkF m 34 #[vi p1, vi p2, vu, vu, vu, vu, vu] [xr u4, xi (4 : Int32), xr b1, xr b1])) rfl rfl (hb hby at_34)
  have V_b1_16 : Arv Z h16 b1 k1 (.object "com/example/whyle/whyle/cfa/Relation") (6 : Int32) [xr u0, xr u1, xr u2, xr u3, xr u4, .null] .null := Arv.set Ar15 q15 S15 N15_ H15 G15 rfl W16 4 rfl (Nat.le_of_ble_eq_true rfl)
  have O16 : Old Z n0 h16 := O13.wr W16 g_b1
  have N16 := Fr.snoc X16 N13 g_b1
  obtain ⟨T17, X17, e17, st17⟩ := getS2 X16 hx hZ hown (host := "") (Or.inl (ww hw 14 rfl)) Via.refl e16 ((own_S_u5 G).ext O16.2) (g := (mkF m 37 #[vi p1, vi p2, vu, vu, vu, vu, vu] [xi (5 : Int32), xr b1, xr b1])) rfl (hb hby at_37)
  obtain ⟨cl18, Ar18, q18, S18, N18_, H18, G18⟩ := V_b1_16
  have hin18 : ¬ ((5 : Int32) < 0 ∨ cl18.slots.size ≤ ((5 : Int32)).toNatClampNeg) := inb_of S18 ⟨by decide, by decide⟩
  obtain ⟨T19, h19, X19, e19, W19, st19⟩ := stR X17 hx hZ e17 Ar18 (j := (5 : Int32)) hin18 rfl (Sto.ofV Ar18 q18 Ov1 (Ins.self ((own_X_u5 G).ext O16.2))) (g := (mkF m 40 #[vi p1, vi p2, vu, vu, vu, vu, vu] [xr u5, xi (5 : Int32), xr b1, xr b1])) rfl rfl (hb hby at_40)
  have V_b1_19 : Arv Z h19 b1 k1 (.object "com/example/whyle/whyle/cfa/Relation") (6 : Int32) [xr u0, xr u1, xr u2, xr u3, xr u4, xr u5] .null := Arv.set Ar18 q18 S18 N18_ H18 G18 rfl W19 5 rfl (Nat.le_of_ble_eq_true rfl)
  have O19 : Old Z n0 h19 := O16.wr W19 g_b1
  have N19 := Fr.snoc X19 N16 g_b1
  obtain ⟨T20, h20, k20, X20, e20, E20, A20, st20⟩ := newP X19 hx hZ (ww hw 16 rfl) e19 (g := (mkF m 44 #[vi p1, vi p2, vr b1, vu, vu, vu, vu] [xi (6 : Int32)])) rfl (hb hby at_44) rfl (by decide) (cap := 6) (by decide) (by decide) (by decide) (by decide)
  obtain ⟨b20, g20⟩ : ∃ z, z = h19.size := ⟨_, rfl⟩
  rw [← g20] at A20 st20
  have g_b20 : n0 ≤ b20 := own_fresh O19 g20
  have ne_b1_b20 : b1 ≠ b20 := Nat.ne_of_lt (Nat.lt_of_lt_of_le (V_b1_19).lt (Nat.le_of_eq g20.symm))
  have O20 : Old Z n0 h20 := O19.ext E20
  have V_b1_20 := V_b1_19.ext E20
  have V_b20 : Arv Z h20 b20 k20 .int (6 : Int32) [(.int (0 : Int32)), (.int (0 : Int32)), (.int (0 : Int32)), (.int (0 : Int32)), (.int (0 : Int32)), (.int (0 : Int32))] (.int (0 : Int32)) := (Arv.new A20 (by decide)).pad (pad_rep [] (.int (0 : Int32)) 6)
  obtain ⟨cl21, Ar21, q21, S21, N21_, H21, G21⟩ := V_b20
  have hin21 : ¬ ((0 : Int32) < 0 ∨ cl21.slots.size ≤ ((0 : Int32)).toNatClampNeg) := inb_of S21 ⟨by decide, by decide⟩
  obtain ⟨T22, h22, X22, e22, W22, st22⟩ := stI X20 hx hZ e20 Ar21 (j := (0 : Int32)) hin21 (g := (mkF m 49 #[vi p1, vi p2, vr b1, vu, vu, vu, vu] [xi (2 : Int32), xi (0 : Int32), xr b20, xr b20])) rfl rfl (hb hby at_49)
  have V_b20_22 : Arv Z h22 b20 k20 .int (6 : Int32) [xi (2 : Int32), xi (0 : Int32), xi (0 : Int32), xi (0 : Int32), xi (0 : Int32), xi (0 : Int32)] (.int (0 : Int32)) := Arv.set Ar21 q21 S21 N21_ H21 G21 rfl W22 0 rfl (Nat.le_of_ble_eq_true rfl)
  have O22 : Old Z n0 h22 := O20.wr W22 g_b20
  have V_b1_22 := V_b1_20.other W22 ne_b1_b20
  have N22 := Fr.snoc X22 N19 g_b20
  obtain ⟨cl23, Ar23, q23, S23, N23_, H23, G23⟩ := V_b20_22
  have hin23 : ¬ ((1 : Int32) < 0 ∨ cl23.slots.size ≤ ((1 : Int32)).toNatClampNeg) := inb_of S23 ⟨by decide, by decide⟩
  obtain ⟨T24, h24, X24, e24, W24, st24⟩ := stI X22 hx hZ e22 Ar23 (j := (1 : Int32)) hin23 (g := (mkF m 53 #[vi p1, vi p2, vr b1, vu, vu, vu, vu] [xi (5 : Int32), xi (1 : Int32), xr b20, xr b20])) rfl rfl (hb hby at_53)
  have V_b20_24 : Arv Z h24 b20 k20 .int (6 : Int32) [xi (2 : Int32), xi (5 : Int32), xi (0 : Int32), xi (0 : Int32), xi (0 : Int32), xi (0 : Int32)] (.int (0 : Int32)) := Arv.set Ar23 q23 S23 N23_ H23 G23 rfl W24 1 rfl (Nat.le_of_ble_eq_true rfl)
  have O24 : Old Z n0 h24 := O22.wr W24 g_b20
  have V_b1_24 := V_b1_22.other W24 ne_b1_b20
  have N24 := Fr.snoc X24 N22 g_b20
  obtain ⟨cl25, Ar25, q25, S25, N25_, H25, G25⟩ := V_b20_24
  have hin25 : ¬ ((2 : Int32) < 0 ∨ cl25.slots.size ≤ ((2 : Int32)).toNatClampNeg) := inb_of S25 ⟨by decide, by decide⟩
  obtain ⟨T26, h26, X26, e26, W26, st26⟩ := stI X24 hx hZ e24 Ar25 (j := (2 : Int32)) hin25 (g := (mkF m 57 #[vi p1, vi p2, vr b1, vu, vu, vu, vu] [xi (1 : Int32), xi (2 : Int32), xr b20, xr b20])) rfl rfl (hb hby at_57)
  have V_b20_26 : Arv Z h26 b20 k20 .int (6 : Int32) [xi (2 : Int32), xi (5 : Int32), xi (1 : Int32), xi (0 : Int32), xi (0 : Int32), xi (0 : Int32)] (.int (0 : Int32)) := Arv.set Ar25 q25 S25 N25_ H25 G25 rfl W26 2 rfl (Nat.le_of_ble_eq_true rfl)
  have O26 : Old Z n0 h26 := O24.wr W26 g_b20
  have V_b1_26 := V_b1_24.other W26 ne_b1_b20
  have N26 := Fr.snoc X26 N24 g_b20
  obtain ⟨cl27, Ar27, q27, S27, N27_, H27, G27⟩ := V_b20_26
  have hin27 : ¬ ((3 : Int32) < 0 ∨ cl27.slots.size ≤ ((3 : Int32)).toNatClampNeg) := inb_of S27 ⟨by decide, by decide⟩
  obtain ⟨T28, h28, X28, e28, W28, st28⟩ := stI X26 hx hZ e26 Ar27 (j := (3 : Int32)) hin27 (g := (mkF m 61 #[vi p1, vi p2, vr b1, vu, vu, vu, vu] [xi (3 : Int32), xi (3 : Int32), xr b20, xr b20])) rfl rfl (hb hby at_61)
  have V_b20_28 : Arv Z h28 b20 k20 .int (6 : Int32) [xi (2 : Int32), xi (5 : Int32), xi (1 : Int32), xi (3 : Int32), xi (0 : Int32), xi (0 : Int32)] (.int (0 : Int32)) := Arv.set Ar27 q27 S27 N27_ H27 G27 rfl W28 3 rfl (Nat.le_of_ble_eq_true rfl)
  have O28 : Old Z n0 h28 := O26.wr W28 g_b20
  have V_b1_28 := V_b1_26.other W28 ne_b1_b20
  have N28 := Fr.snoc X28 N26 g_b20
  obtain ⟨cl29, Ar29, q29, S29, N29_, H29, G29⟩ := V_b20_28
  have hin29 : ¬ ((4 : Int32) < 0 ∨ cl29.slots.size ≤ ((4 : Int32)).toNatClampNeg) := inb_of S29 ⟨by decide, by decide⟩
  obtain ⟨T30, h30, X30, e30, W30, st30⟩ := stI X28 hx hZ e28 Ar29 (j := (4 : Int32)) hin29 (g := (mkF m 65 #[vi p1, vi p2, vr b1, vu, vu, vu, vu] [xi (4 : Int32), xi (4 : Int32), xr b20, xr b20])) rfl rfl (hb hby at_65)
  have V_b20_30 : Arv Z h30 b20 k20 .int (6 : Int32) [xi (2 : Int32), xi (5 : Int32), xi (1 : Int32), xi (3 : Int32), xi (4 : Int32), xi (0 : Int32)] (.int (0 : Int32)) := Arv.set Ar29 q29 S29 N29_ H29 G29 rfl W30 4 rfl (Nat.le_of_ble_eq_true rfl)
  have O30 : Old Z n0 h30 := O28.wr W30 g_b20
  have V_b1_30 := V_b1_28.other W30 ne_b1_b20
  have N30 := Fr.snoc X30 N28 g_b20
  obtain ⟨cl31, Ar31, q31, S31, N31_, H31, G31⟩ := V_b20_30
  have hin31 : ¬ ((5 : Int32) < 0 ∨ cl31.slots.size ≤ ((5 : Int32)).toNatClampNeg) := inb_of S31 ⟨by decide, by decide⟩
  obtain ⟨T32, h32, X32, e32, W32, st32⟩ := stI X30 hx hZ e30 Ar31 (j := (5 : Int32)) hin31 (g := (mkF m 70 #[vi p1, vi p2, vr b1, vu, vu, vu, vu] [xi (6 : Int32), xi (5 : Int32), xr b20, xr b20])) rfl rfl (hb hby at_70)
  have V_b20_32 : Arv Z h32 b20 k20 .int (6 : Int32) [xi (2 : Int32), xi (5 : Int32), xi (1 : Int32), xi (3 : Int32), xi (4 : Int32), xi (6 : Int32)] (.int (0 : Int32)) := Arv.set Ar31 q31 S31 N31_ H31 G31 rfl W32 5 rfl (Nat.le_of_ble_eq_true rfl)
  have O32 : Old Z n0 h32 := O30.wr W32 g_b20
  have V_b1_32 := V_b1_30.other W32 ne_b1_b20
  have N32 := Fr.snoc X32 N30 g_b20
  obtain ⟨cl33, Ar33, q33, S33, N33_, H33, G33⟩ := V_b20_32
  have hin33 : ¬ ((0 : Int32) < 0 ∨ cl33.slots.size ≤ ((0 : Int32)).toNatClampNeg) := inb_of S33 ⟨by decide, by decide⟩
  have hat33 : cl33.slots[((0 : Int32)).toNatClampNeg]? = some (xi (2 : Int32)) := Has.at H33 hin33 rfl
  obtain ⟨cl34, Ar34, q34, S34, N34_, H34, G34⟩ := V_b1_32
  have hin34 : ¬ ((0 : Int32) < 0 ∨ cl34.slots.size ≤ ((0 : Int32)).toNatClampNeg) := inb_of S34 ⟨by decide, by decide⟩
  have hat34 : cl34.slots[((0 : Int32)).toNatClampNeg]? = some (xr u0) := Has.at H34 hin34 rfl
  obtain ⟨cq35, kq35, qa35, qb35, qc35⟩ := isOf hZ e32 ((own_X_u0 G).ext O32.2)
  obtain ⟨_, _, ⟨T35, L35, k35, n35⟩, -, X35, ⟨Lc35, hQ35, l35, y35, z35⟩, st35⟩ := X32.virtualBack hx (y := Y2) (z := Y2) hown (mvT hZ (ww hw 18 rfl)) (mvT hZ (ww hw 19 rfl)) (notFace_of_selects (args := #[]) (mvT hZ (ww hw 21 rfl))) (mvT hZ (ww hw 21 rfl)) (mvT hZ (ww hw 20 rfl)) (by decide) (backOf (W := 0) (own_c0_holds l Z a0 hw u0 u1 u2 u3 u4 u5 G p2 as3 h32 n0 O32 []) hZ (ww hw 22 rfl) (ww hw 3 rfl) (by decide) (by decide)) qa35 qc35 (g := (mkF m 128 #[vi p1, vi p2, vr b1, vr b20, vi (0 : Int32), vi (0 : Int32), vi (0 : Int32)] [xi p2, xr u0])) rfl (by rw [hml]; rfl) (Steps.refl _) (argsL := [xi p2]) (rest := []) (lenOf pd1 rfl) rfl (by show 2 * 0 + _ ≤ _; exact Nat.le_of_eq rfl) (hb hby at_128) (fun _ _ => ⟨rfl, e32, (by decide : 2 + 0 ≤ _), (by decide : 12 + 0 ≤ _)⟩)
  dsimp only [Pt.U, Pt.locs, Pt.cells, Pt.slots] at X35 l35 y35 z35 st35 hQ35
  subst l35 y35 z35
  obtain ⟨rfl, Nq35, e35⟩ := hQ35
  have N35 := Fr.app N32 Nq35
  obtain ⟨fs, hr, hrun, hended, hW, hsame⟩ := X35.leave (v := some (xi (1 : Int32))) (fun h => by rw [Bd.returns] at h; cases h)
  refine ⟨_, _, pre0 _ ?_, hrun, hended, _, _, rfl, ?_, ⟨_, rfl⟩, hW, hsame.mono (by decide) (by decide)⟩
  · show own_S p e below s₁ (mkF m 0 #[vi p1, vi p2, vu, vu, vu, vu, vu] []) _
    refine XS.bipush X0.here hx rfl (hb hby at_0) ?_
    show own_S p e below s₁ (mkF m 2 #[vi p1, vi p2, vu, vu, vu, vu, vu] [xi (6 : Int32)]) _
    refine st1 _ ?_
    show own_S p e below T1 (mkF m 5 #[vi p1, vi p2, vu, vu, vu, vu, vu] [xr b1]) _
    refine XS.dup X1.here hx rfl (hb hby at_5) rfl rfl ?_
    show own_S p e below T1 (mkF m 6 #[vi p1, vi p2, vu, vu, vu, vu, vu] [xr b1, xr b1]) _
    refine XS.iconst X1.here hx rfl (hb hby at_6) ?_
    show own_S p e below T1 (mkF m 7 #[vi p1, vi p2, vu, vu, vu, vu, vu] [xi (0 : Int32), xr b1, xr b1]) _
    refine st2 _ ?_
    show own_S p e below T2 (mkF m 10 #[vi p1, vi p2, vu, vu, vu, vu, vu] [xr u0, xi (0 : Int32), xr b1, xr b1]) _
    refine st4 _ ?_
    show own_S p e below T4 (mkF m 11 #[vi p1, vi p2, vu, vu, vu, vu, vu] [xr b1]) _
    refine XS.dup X4.here hx rfl (hb hby at_11) rfl rfl ?_
    show own_S p e below T4 (mkF m 12 #[vi p1, vi p2, vu, vu, vu, vu, vu] [xr b1, xr b1]) _
    refine XS.iconst X4.here hx rfl (hb hby at_12) ?_
    show own_S p e below T4 (mkF m 13 #[vi p1, vi p2, vu, vu, vu, vu, vu] [xi (1 : Int32), xr b1, xr b1]) _
    refine st5 _ ?_
    show own_S p e below T5 (mkF m 16 #[vi p1, vi p2, vu, vu, vu, vu, vu] [xr u1, xi (1 : Int32), xr b1, xr b1]) _
    refine st7 _ ?_
    show own_S p e below T7 (mkF m 17 #[vi p1, vi p2, vu, vu, vu, vu, vu] [xr b1]) _
    refine XS.dup X7.here hx rfl (hb hby at_17) rfl rfl ?_
    show own_S p e below T7 (mkF m 18 #[vi p1, vi p2, vu, vu, vu, vu, vu] [xr b1, xr b1]) _
    refine XS.iconst X7.here hx rfl (hb hby at_18) ?_
    show own_S p e below T7 (mkF m 19 #[vi p1, vi p2, vu, vu, vu, vu, vu] [xi (2 : Int32), xr b1, xr b1]) _
    refine st8 _ ?_
    show own_S p e below T8 (mkF m 22 #[vi p1, vi p2, vu, vu, vu, vu, vu] [xr u2, xi (2 : Int32), xr b1, xr b1]) _
    refine st10 _ ?_
    show own_S p e below T10 (mkF m 23 #[vi p1, vi p2, vu, vu, vu, vu, vu] [xr b1]) _
    refine XS.dup X10.here hx rfl (hb hby at_23) rfl rfl ?_
    show own_S p e below T10 (mkF m 24 #[vi p1, vi p2, vu, vu, vu, vu, vu] [xr b1, xr b1]) _
    refine XS.iconst X10.here hx rfl (hb hby at_24) ?_
    show own_S p e below T10 (mkF m 25 #[vi p1, vi p2, vu, vu, vu, vu, vu] [xi (3 : Int32), xr b1, xr b1]) _
    refine st11 _ ?_
    show own_S p e below T11 (mkF m 28 #[vi p1, vi p2, vu, vu, vu, vu, vu] [xr u3, xi (3 : Int32), xr b1, xr b1]) _
    refine st13 _ ?_
    show own_S p e below T13 (mkF m 29 #[vi p1, vi p2, vu, vu, vu, vu, vu] [xr b1]) _
    refine XS.dup X13.here hx rfl (hb hby at_29) rfl rfl ?_
    show own_S p e below T13 (mkF m 30 #[vi p1, vi p2, vu, vu, vu, vu, vu] [xr b1, xr b1]) _
    refine XS.iconst X13.here hx rfl (hb hby at_30) ?_
    show own_S p e below T13 (mkF m 31 #[vi p1, vi p2, vu, vu, vu, vu, vu] [xi (4 : Int32), xr b1, xr b1]) _
    refine st14 _ ?_
    show own_S p e below T14 (mkF m 34 #[vi p1, vi p2, vu, vu, vu, vu, vu] [xr u4, xi (4 : Int32), xr b1, xr b1]) _
    refine st16 _ ?_
    show own_S p e below T16 (mkF m 35 #[vi p1, vi p2, vu, vu, vu, vu, vu] [xr b1]) _
    refine XS.dup X16.here hx rfl (hb hby at_35) rfl rfl ?_
    show own_S p e below T16 (mkF m 36 #[vi p1, vi p2, vu, vu, vu, vu, vu] [xr b1, xr b1]) _
    refine XS.iconst X16.here hx rfl (hb hby at_36) ?_
    show own_S p e below T16 (mkF m 37 #[vi p1, vi p2, vu, vu, vu, vu, vu] [xi (5 : Int32), xr b1, xr b1]) _
    refine st17 _ ?_
    show own_S p e below T17 (mkF m 40 #[vi p1, vi p2, vu, vu, vu, vu, vu] [xr u5, xi (5 : Int32), xr b1, xr b1]) _
    refine st19 _ ?_
    show own_S p e below T19 (mkF m 41 #[vi p1, vi p2, vu, vu, vu, vu, vu] [xr b1]) _
    refine XS.astoreN X19.here hx rfl (hb hby at_41) rfl rfl (l' := #[vi p1, vi p2, vr b1, vu, vu, vu, vu]) rfl ?_
    show own_S p e below T19 (mkF m 42 #[vi p1, vi p2, vr b1, vu, vu, vu, vu] []) _
    refine XS.bipush X19.here hx rfl (hb hby at_42) ?_
    show own_S p e below T19 (mkF m 44 #[vi p1, vi p2, vr b1, vu, vu, vu, vu] [xi (6 : Int32)]) _
    refine st20 _ ?_
    show own_S p e below T20 (mkF m 46 #[vi p1, vi p2, vr b1, vu, vu, vu, vu] [xr b20]) _
    refine XS.dup X20.here hx rfl (hb hby at_46) rfl rfl ?_
    show own_S p e below T20 (mkF m 47 #[vi p1, vi p2, vr b1, vu, vu, vu, vu] [xr b20, xr b20]) _
    refine XS.iconst X20.here hx rfl (hb hby at_47) ?_
    show own_S p e below T20 (mkF m 48 #[vi p1, vi p2, vr b1, vu, vu, vu, vu] [xi (0 : Int32), xr b20, xr b20]) _
    refine XS.iconst X20.here hx rfl (hb hby at_48) ?_
    show own_S p e below T20 (mkF m 49 #[vi p1, vi p2, vr b1, vu, vu, vu, vu] [xi (2 : Int32), xi (0 : Int32), xr b20, xr b20]) _
    refine st22 _ ?_
    show own_S p e below T22 (mkF m 50 #[vi p1, vi p2, vr b1, vu, vu, vu, vu] [xr b20]) _
    refine XS.dup X22.here hx rfl (hb hby at_50) rfl rfl ?_
    show own_S p e below T22 (mkF m 51 #[vi p1, vi p2, vr b1, vu, vu, vu, vu] [xr b20, xr b20]) _
    refine XS.iconst X22.here hx rfl (hb hby at_51) ?_
    show own_S p e below T22 (mkF m 52 #[vi p1, vi p2, vr b1, vu, vu, vu, vu] [xi (1 : Int32), xr b20, xr b20]) _
    refine XS.iconst X22.here hx rfl (hb hby at_52) ?_
    show own_S p e below T22 (mkF m 53 #[vi p1, vi p2, vr b1, vu, vu, vu, vu] [xi (5 : Int32), xi (1 : Int32), xr b20, xr b20]) _
    refine st24 _ ?_
    show own_S p e below T24 (mkF m 54 #[vi p1, vi p2, vr b1, vu, vu, vu, vu] [xr b20]) _
    refine XS.dup X24.here hx rfl (hb hby at_54) rfl rfl ?_
    show own_S p e below T24 (mkF m 55 #[vi p1, vi p2, vr b1, vu, vu, vu, vu] [xr b20, xr b20]) _
    refine XS.iconst X24.here hx rfl (hb hby at_55) ?_
    show own_S p e below T24 (mkF m 56 #[vi p1, vi p2, vr b1, vu, vu, vu, vu] [xi (2 : Int32), xr b20, xr b20]) _
    refine XS.iconst X24.here hx rfl (hb hby at_56) ?_
    show own_S p e below T24 (mkF m 57 #[vi p1, vi p2, vr b1, vu, vu, vu, vu] [xi (1 : Int32), xi (2 : Int32), xr b20, xr b20]) _
    refine st26 _ ?_
    show own_S p e below T26 (mkF m 58 #[vi p1, vi p2, vr b1, vu, vu, vu, vu] [xr b20]) _
    refine XS.dup X26.here hx rfl (hb hby at_58) rfl rfl ?_
    show own_S p e below T26 (mkF m 59 #[vi p1, vi p2, vr b1, vu, vu, vu, vu] [xr b20, xr b20]) _
    refine XS.iconst X26.here hx rfl (hb hby at_59) ?_
    show own_S p e below T26 (mkF m 60 #[vi p1, vi p2, vr b1, vu, vu, vu, vu] [xi (3 : Int32), xr b20, xr b20]) _
    refine XS.iconst X26.here hx rfl (hb hby at_60) ?_
    show own_S p e below T26 (mkF m 61 #[vi p1, vi p2, vr b1, vu, vu, vu, vu] [xi (3 : Int32), xi (3 : Int32), xr b20, xr b20]) _
    refine st28 _ ?_
    show own_S p e below T28 (mkF m 62 #[vi p1, vi p2, vr b1, vu, vu, vu, vu] [xr b20]) _
    refine XS.dup X28.here hx rfl (hb hby at_62) rfl rfl ?_
    show own_S p e below T28 (mkF m 63 #[vi p1, vi p2, vr b1, vu, vu, vu, vu] [xr b20, xr b20]) _
    refine XS.iconst X28.here hx rfl (hb hby at_63) ?_
    show own_S p e below T28 (mkF m 64 #[vi p1, vi p2, vr b1, vu, vu, vu, vu] [xi (4 : Int32), xr b20, xr b20]) _
    refine XS.iconst X28.here hx rfl (hb hby at_64) ?_
    show own_S p e below T28 (mkF m 65 #[vi p1, vi p2, vr b1, vu, vu, vu, vu] [xi (4 : Int32), xi (4 : Int32), xr b20, xr b20]) _
    refine st30 _ ?_
    show own_S p e below T30 (mkF m 66 #[vi p1, vi p2, vr b1, vu, vu, vu, vu] [xr b20]) _
    refine XS.dup X30.here hx rfl (hb hby at_66) rfl rfl ?_
    show own_S p e below T30 (mkF m 67 #[vi p1, vi p2, vr b1, vu, vu, vu, vu] [xr b20, xr b20]) _
    refine XS.iconst X30.here hx rfl (hb hby at_67) ?_
    show own_S p e below T30 (mkF m 68 #[vi p1, vi p2, vr b1, vu, vu, vu, vu] [xi (5 : Int32), xr b20, xr b20]) _
    refine XS.bipush X30.here hx rfl (hb hby at_68) ?_
    show own_S p e below T30 (mkF m 70 #[vi p1, vi p2, vr b1, vu, vu, vu, vu] [xi (6 : Int32), xi (5 : Int32), xr b20, xr b20]) _
    refine st32 _ ?_
    show own_S p e below T32 (mkF m 71 #[vi p1, vi p2, vr b1, vu, vu, vu, vu] [xr b20]) _
    refine XS.astoreN X32.here hx rfl (hb hby at_71) rfl rfl (l' := #[vi p1, vi p2, vr b1, vr b20, vu, vu, vu]) rfl ?_
    show own_S p e below T32 (mkF m 72 #[vi p1, vi p2, vr b1, vr b20, vu, vu, vu] []) _
    refine XS.iloadN X32.here hx rfl (hb hby at_72) rfl ?_
    show own_S p e below T32 (mkF m 73 #[vi p1, vi p2, vr b1, vr b20, vu, vu, vu] [xi p1]) _
    refine X32.ldcI hx hown (mvT hZ (ww hw 17 rfl)) (g := (mkF m 73 #[vi p1, vi p2, vr b1, vr b20, vu, vu, vu] [xi p1])) rfl (hb hby at_73) ?_
    show own_S p e below T32 (mkF m 75 #[vi p1, vi p2, vr b1, vr b20, vu, vu, vu] [xi (2147483647 : Int32), xi p1]) _
    refine XS.iand X32.here hx rfl (hb hby at_75) rfl ?_
    show own_S p e below T32 (mkF m 76 #[vi p1, vi p2, vr b1, vr b20, vu, vu, vu] [xi (p1 &&& (2147483647 : Int32))]) _
    show own_S p e below T32 (mkF m 76 #[vi p1, vi p2, vr b1, vr b20, vu, vu, vu] [xi (p1 &&& (2147483647 : Int32))]) _
    refine XS.bipush X32.here hx rfl (hb hby at_76) ?_
    show own_S p e below T32 (mkF m 78 #[vi p1, vi p2, vr b1, vr b20, vu, vu, vu] [xi (6 : Int32), xi (p1 &&& (2147483647 : Int32))]) _
    refine XS.irem X32.here hx rfl (hb hby at_78) rfl (by decide) ?_
    show own_S p e below T32 (mkF m 79 #[vi p1, vi p2, vr b1, vr b20, vu, vu, vu] [xi ((p1 &&& (2147483647 : Int32)) - ((p1 &&& (2147483647 : Int32)) / (6 : Int32)) * (6 : Int32))]) _
    refine castTop (show (mkF m 79 #[vi p1, vi p2, vr b1, vr b20, vu, vu, vu] [xi ((p1 &&& (2147483647 : Int32)) - ((p1 &&& (2147483647 : Int32)) / (6 : Int32)) * (6 : Int32))]) = (mkF m 79 #[vi p1, vi p2, vr b1, vr b20, vu, vu, vu] [xi (0 : Int32)]) from by rw [as12]) ?_
    show own_S p e below T32 (mkF m 79 #[vi p1, vi p2, vr b1, vr b20, vu, vu, vu] [xi (0 : Int32)]) _
    refine XS.istore X32.here hx rfl (hb hby at_79) rfl (l' := #[vi p1, vi p2, vr b1, vr b20, vi (0 : Int32), vu, vu]) rfl ?_
    show own_S p e below T32 (mkF m 81 #[vi p1, vi p2, vr b1, vr b20, vi (0 : Int32), vu, vu] []) _
    refine XS.iloadN X32.here hx rfl (hb hby at_81) rfl ?_
    show own_S p e below T32 (mkF m 82 #[vi p1, vi p2, vr b1, vr b20, vi (0 : Int32), vu, vu] [xi p2]) _
    refine XS.ifNo X32.here hx rfl (hb hby at_82) rfl as1 ?_
    show own_S p e below T32 (mkF m 85 #[vi p1, vi p2, vr b1, vr b20, vi (0 : Int32), vu, vu] []) _
    refine XS.iconst X32.here hx rfl (hb hby at_85) ?_
    show own_S p e below T32 (mkF m 86 #[vi p1, vi p2, vr b1, vr b20, vi (0 : Int32), vu, vu] [xi (0 : Int32)]) _
    refine XS.istore X32.here hx rfl (hb hby at_86) rfl (l' := #[vi p1, vi p2, vr b1, vr b20, vi (0 : Int32), vi (0 : Int32), vu]) rfl ?_
    show own_S p e below T32 (mkF m 88 #[vi p1, vi p2, vr b1, vr b20, vi (0 : Int32), vi (0 : Int32), vu] []) _
    refine XS.goto X32.here hx rfl (pc0 := 88) (pc' := 104) rfl (hb hby at_88) (by decide) (by decide) ?_
    show own_S p e below T32 (mkF m 104 #[vi p1, vi p2, vr b1, vr b20, vi (0 : Int32), vi (0 : Int32), vu] []) _
    refine XS.aloadN X32.here hx rfl (hb hby at_104) rfl rfl ?_
    show own_S p e below T32 (mkF m 105 #[vi p1, vi p2, vr b1, vr b20, vi (0 : Int32), vi (0 : Int32), vu] [xr b20]) _
    refine XS.iload X32.here hx rfl (hb hby at_105) rfl ?_
    show own_S p e below T32 (mkF m 107 #[vi p1, vi p2, vr b1, vr b20, vi (0 : Int32), vi (0 : Int32), vu] [xi (0 : Int32), xr b20]) _
    refine X32.iaload hx (j := (0 : Int32)) (v := (xi (2 : Int32))) (by rw [e32]; exact Ar33.1) (State.isArrayOf_alike hZ.alike Ar33.2.1) Ar33.2.2 hin33 hat33 (g := (mkF m 107 #[vi p1, vi p2, vr b1, vr b20, vi (0 : Int32), vi (0 : Int32), vu] [xi (0 : Int32), xr b20])) rfl rfl (hb hby at_107) _ ?_
    show own_S p e below T32 (mkF m 108 #[vi p1, vi p2, vr b1, vr b20, vi (0 : Int32), vi (0 : Int32), vu] [xi (2 : Int32)]) _
    refine XS.iload X32.here hx rfl (hb hby at_108) rfl ?_
    show own_S p e below T32 (mkF m 110 #[vi p1, vi p2, vr b1, vr b20, vi (0 : Int32), vi (0 : Int32), vu] [xi (0 : Int32), xi (2 : Int32)]) _
    refine XS.ishr X32.here hx rfl (hb hby at_110) rfl ?_
    show own_S p e below T32 (mkF m 111 #[vi p1, vi p2, vr b1, vr b20, vi (0 : Int32), vi (0 : Int32), vu] [xi ((2 : Int32) >>> ((0 : Int32) &&& 31))]) _
    refine castTop (show (mkF m 111 #[vi p1, vi p2, vr b1, vr b20, vi (0 : Int32), vi (0 : Int32), vu] [xi ((2 : Int32) >>> ((0 : Int32) &&& 31))]) = (mkF m 111 #[vi p1, vi p2, vr b1, vr b20, vi (0 : Int32), vi (0 : Int32), vu] [xi (2 : Int32)]) from by rw [show ((2 : Int32) >>> ((0 : Int32) &&& 31)) = (2 : Int32) from by decide]) ?_
    show own_S p e below T32 (mkF m 111 #[vi p1, vi p2, vr b1, vr b20, vi (0 : Int32), vi (0 : Int32), vu] [xi (2 : Int32)]) _
    refine XS.iconst X32.here hx rfl (hb hby at_111) ?_
    show own_S p e below T32 (mkF m 112 #[vi p1, vi p2, vr b1, vr b20, vi (0 : Int32), vi (0 : Int32), vu] [xi (1 : Int32), xi (2 : Int32)]) _
    refine XS.iand X32.here hx rfl (hb hby at_112) rfl ?_
    show own_S p e below T32 (mkF m 113 #[vi p1, vi p2, vr b1, vr b20, vi (0 : Int32), vi (0 : Int32), vu] [xi ((2 : Int32) &&& (1 : Int32))]) _
    refine castTop (show (mkF m 113 #[vi p1, vi p2, vr b1, vr b20, vi (0 : Int32), vi (0 : Int32), vu] [xi ((2 : Int32) &&& (1 : Int32))]) = (mkF m 113 #[vi p1, vi p2, vr b1, vr b20, vi (0 : Int32), vi (0 : Int32), vu] [xi (0 : Int32)]) from by rw [show ((2 : Int32) &&& (1 : Int32)) = (0 : Int32) from by decide]) ?_
    show own_S p e below T32 (mkF m 113 #[vi p1, vi p2, vr b1, vr b20, vi (0 : Int32), vi (0 : Int32), vu] [xi (0 : Int32)]) _
    refine XS.ifYes X32.here hx rfl (pc0 := 113) (pc' := 120) rfl (hb hby at_113) rfl (by decide) (by decide) (by decide) ?_
    show own_S p e below T32 (mkF m 120 #[vi p1, vi p2, vr b1, vr b20, vi (0 : Int32), vi (0 : Int32), vu] []) _
    refine XS.iconst X32.here hx rfl (hb hby at_120) ?_
    show own_S p e below T32 (mkF m 121 #[vi p1, vi p2, vr b1, vr b20, vi (0 : Int32), vi (0 : Int32), vu] [xi (0 : Int32)]) _
    refine XS.istore X32.here hx rfl (hb hby at_121) rfl (l' := #[vi p1, vi p2, vr b1, vr b20, vi (0 : Int32), vi (0 : Int32), vi (0 : Int32)]) rfl ?_
    show own_S p e below T32 (mkF m 123 #[vi p1, vi p2, vr b1, vr b20, vi (0 : Int32), vi (0 : Int32), vi (0 : Int32)] []) _
    refine XS.aloadN X32.here hx rfl (hb hby at_123) rfl rfl ?_
    show own_S p e below T32 (mkF m 124 #[vi p1, vi p2, vr b1, vr b20, vi (0 : Int32), vi (0 : Int32), vi (0 : Int32)] [xr b1]) _
    refine XS.iload X32.here hx rfl (hb hby at_124) rfl ?_
    show own_S p e below T32 (mkF m 126 #[vi p1, vi p2, vr b1, vr b20, vi (0 : Int32), vi (0 : Int32), vi (0 : Int32)] [xi (0 : Int32), xr b1]) _
    refine X32.aaload hx (j := (0 : Int32)) (v := (xr u0)) (by rw [e32]; exact Ar34.1) (State.isArrayOf_alike hZ.alike Ar34.2.1) rfl Ar34.2.2 hin34 hat34 (g := (mkF m 126 #[vi p1, vi p2, vr b1, vr b20, vi (0 : Int32), vi (0 : Int32), vi (0 : Int32)] [xi (0 : Int32), xr b1])) rfl rfl (hb hby at_126) _ ?_
    show own_S p e below T32 (mkF m 127 #[vi p1, vi p2, vr b1, vr b20, vi (0 : Int32), vi (0 : Int32), vi (0 : Int32)] [xr u0]) _
    refine XS.iloadN X32.here hx rfl (hb hby at_127) rfl ?_
    show own_S p e below T32 (mkF m 128 #[vi p1, vi p2, vr b1, vr b20, vi (0 : Int32), vi (0 : Int32), vi (0 : Int32)] [xi p2, xr u0]) _
    refine st35.trans ?_
    show own_S p e below T35 (mkF m 131 #[vi p1, vi p2, vr b1, vr b20, vi (0 : Int32), vi (0 : Int32), vi (0 : Int32)] [xi (0 : Int32)]) _
    refine XS.iload X35.here hx rfl (hb hby at_131) rfl ?_
    show own_S p e below T35 (mkF m 133 #[vi p1, vi p2, vr b1, vr b20, vi (0 : Int32), vi (0 : Int32), vi (0 : Int32)] [xi (0 : Int32), xi (0 : Int32)]) _
    refine XS.icmpNo X35.here hx rfl (hb hby at_133) rfl (by decide) ?_
    show own_S p e below T35 (mkF m 136 #[vi p1, vi p2, vr b1, vr b20, vi (0 : Int32), vi (0 : Int32), vi (0 : Int32)] []) _
    refine XS.iconst X35.here hx rfl (hb hby at_136) ?_
    show own_S p e below T35 (mkF m 137 #[vi p1, vi p2, vr b1, vr b20, vi (0 : Int32), vi (0 : Int32), vi (0 : Int32)] [xi (1 : Int32)]) _
    refine XS.goto X35.here hx rfl (pc0 := 137) (pc' := 141) rfl (hb hby at_137) (by decide) (by decide) ?_
    show own_S p e below T35 (mkF m 141 #[vi p1, vi p2, vr b1, vr b20, vi (0 : Int32), vi (0 : Int32), vi (0 : Int32)] [xi (1 : Int32)]) _
    exact retN X35 hx (t := .boolean) Bd.returns (by simp) (hb hby at_141) hr
  · exact ⟨rfl, N35⟩
theorem d1_58 : decode prog_62_method_8_code 58 = .ok (.iconst 1, 1) := by decide +kernel
theorem d1_59 : decode prog_62_method_8_code 59 = .ok (.goto 64, 3) := by decide +kernel
theorem ef_own_c2_holds (m : MethodId) (u0 u1 u2 u3 u4 u5 : Addr) (p2 : Int32) : entryFrame m #[xr u0, xi p2] 2 = (mkF m 0 #[vr u0, vi p2] []) := by first | (simp [entryFrame, mkF, argsToLocals, Value.category]; done) | rfl
set_option maxRecDepth 65536 in
set_option maxHeartbeats 40000000 in
theorem own_c2_holds (l : Launch) (Z : State) (a0 : Array Value) (hw : ∀ d ∈ tables_1, d.before a0 Z = true) (u0 u1 u2 u3 u4 u5 : Addr) (G : own_St Z u0 u1 u2 u3 u4 u5) (p2 : Int32) (as9 : ifCond.holds .ne p2 = false) (h0 : Heap) (n0 : Nat) (O0 : Old Z n0 h0) : own_Met l Z Y2 prog_62_method_8_code 2 (some .boolean) ({ frames := 1, cells := 0, slots := 0, locals := 12 } : Room) #[xr u0, xi p2] h0 (own_QR (some (xi (1 : Int32))) h0 n0) := by
  intro ws
  refine MetFree.of_bodySF (plainFor_of_name pn1) hisR ?_
  intro p e s m args below meth c s₁ Bd hml0 hP hK
  obtain ⟨rfl, hZ, hh⟩ := hP
  have hx := Bd.exec
  have hby := Bd.bytes
  have hml : c.maxLocals = 2 := hml0
  have hown : s.vm.findClass "com/example/whyle/whyle/cfa/Relation" = some m.cls := findClass_of_methodNamed Bd.named
  have hnm := (name_of_methodNamed Bd.named Bd.method).1
  have X0 : Stand p l e ({ frames := 1, cells := 0, slots := 0, locals := 12 } : Room) s m #[xr u0, xi p2] below meth c s₁ [] 0 0 := Stand.of_body Bd
  have e0 : s₁.heap = h0 := by rw [← hh, Bd.state]; rfl
  have N0 := Fr.nil n0
  have pre0 : ∀ t, Steps p.tables e below (s₁.setTop (mkF m 0 #[vr u0, vi p2] [])) t → Steps p.tables e below (s₁.setTop (entryFrame m #[xr u0, xi p2] 2)) t := fun t st => castTop (ef_own_c2_holds m u0 u1 u2 u3 u4 u5 p2) st
  obtain ⟨cq1, kq1, qa1, qb1, qc1⟩ := isOf hZ e0 ((own_X_u0 G).ext O0.2)
  obtain ⟨_, _, ⟨T1, L1, k1, n1⟩, -, X1, ⟨Lc1, hQ1, l1, y1, z1⟩, st1⟩ := X0.virtualBackUp hx (x := Y1) (y := Y0) hown (mvT hZ (ww hw 23 rfl)) (mvT hZ (ww hw 24 rfl)) (mvT hZ (ww hw 25 rfl)) (by decide) (mvT hZ (ww hw 27 rfl)) (mvT hZ (ww hw 26 rfl)) (backOf (W := 0) (own_c0_ordinal l Z a0 hw u0 u1 u2 u3 u4 u5 G h0 n0 O0 []) hZ (ww hw 29 rfl) (ww hw 28 rfl) (by decide) (by decide)) qa1 qc1 (g := (mkF m 1 #[vr u0, vi p2] [xr u0])) rfl (by rw [hml]; rfl) (Steps.refl _) (argsL := []) (rest := []) (lenOf pd0 rfl) rfl (by show 2 * 0 + _ ≤ _; exact Nat.le_of_eq rfl) (hb hby d1_1) (fun _ _ => ⟨rfl, e0, (by decide : 0 + 0 ≤ _), (by decide : 0 + 0 ≤ _)⟩)
  dsimp only [Pt.U, Pt.locs, Pt.cells, Pt.slots] at X1 l1 y1 z1 st1 hQ1
  subst l1 y1 z1
  obtain ⟨rfl, Nq1, e1⟩ := hQ1
  have N1 := Fr.app N0 Nq1
  obtain ⟨fs, hr, hrun, hended, hW, hsame⟩ := X1.leave (v := some (xi (1 : Int32))) (fun h => by rw [Bd.returns] at h; cases h)
  refine ⟨_, _, pre0 _ ?_, hrun, hended, _, _, rfl, ?_, ⟨_, rfl⟩, hW, hsame.mono (by decide) (by decide)⟩
  · show own_S p e below s₁ (mkF m 0 #[vr u0, vi p2] []) _
    refine XS.aloadN X0.here hx rfl (hb hby d1_0) rfl rfl ?_
    show own_S p e below s₁ (mkF m 1 #[vr u0, vi p2] [xr u0]) _
    refine st1.trans ?_
    show own_S p e below T1 (mkF m 4 #[vr u0, vi p2] [xi (0 : Int32)]) _
    refine XS.tswIn X1.here hx rfl (pc0 := 4) (pc' := 54) (o := 50) rfl (hb hby d1_4) rfl (by decide) (by decide) (by decide) (by decide) ?_
    show own_S p e below T1 (mkF m 54 #[vr u0, vi p2] []) _
    refine XS.iloadN X1.here hx rfl (hb hby d1_54) rfl ?_
    show own_S p e below T1 (mkF m 55 #[vr u0, vi p2] [xi p2]) _
    refine XS.ifNo X1.here hx rfl (hb hby d1_55) rfl as9 ?_
    show own_S p e below T1 (mkF m 58 #[vr u0, vi p2] []) _
    refine XS.iconst X1.here hx rfl (hb hby d1_58) ?_
    show own_S p e below T1 (mkF m 59 #[vr u0, vi p2] [xi (1 : Int32)]) _
    refine XS.goto X1.here hx rfl (pc0 := 59) (pc' := 123) rfl (hb hby d1_59) (by decide) (by decide) ?_
    show own_S p e below T1 (mkF m 123 #[vr u0, vi p2] [xi (1 : Int32)]) _
    exact retN X1 hx (t := .boolean) Bd.returns (by simp) (hb hby d1_123) hr
  · exact ⟨rfl, N1, e1⟩
theorem ef_own_l1 (m : MethodId) (u0 u1 u2 u3 u4 u5 : Addr) (p1 : Int32) (p2 : Int32) : entryFrame m #[xi p1, xi p2] maxLocals = (mkF m 0 #[vi p1, vi p2, vu, vu, vu, vu, vu] []) := by first | (simp [entryFrame, mkF, argsToLocals, Value.category, maxLocals]; done) | rfl
set_option maxRecDepth 65536 in
set_option maxHeartbeats 40000000 in
theorem own_l1 (l : Launch) (Z : State) (a0 : Array Value) (hw : ∀ d ∈ tables_1, d.before a0 Z = true) (u0 u1 u2 u3 u4 u5 : Addr) (G : own_St Z u0 u1 u2 u3 u4 u5) (p1 : Int32) (p2 : Int32) (as12 : ((p1 &&& (2147483647 : Int32)) - ((p1 &&& (2147483647 : Int32)) / (6 : Int32)) * (6 : Int32)) = (0 : Int32)) (as7 : ifCond.holds .ge p2 = true) (as9 : ifCond.holds .ne p2 = false) (h0 : Heap) (n0 : Nat) (O0 : Old Z n0 h0) : own_Met l Z x code maxLocals ret room_1 #[xi p1, xi p2] h0 (own_QL (some (xi (1 : Int32))) n0) := by
  intro ws
  refine MetFree.of_bodySF (plainFor_of_name pn2) hisR ?_
  intro p e s m args below meth c s₁ Bd hml0 hP hK
  obtain ⟨rfl, hZ, hh⟩ := hP
  have hx := Bd.exec
  have hby := Bd.bytes
  have hml : c.maxLocals = 7 := hml0
  have hown : s.vm.findClass "com/example/whyle/whyle/cfa/RelationHoldsPinLaw" = some m.cls := findClass_of_methodNamed Bd.named
  have hnm := (name_of_methodNamed Bd.named Bd.method).1
  have X0 : Stand p l e room_1 s m #[xi p1, xi p2] below meth c s₁ [] 0 0 := Stand.of_body Bd
  have e0 : s₁.heap = h0 := by rw [← hh, Bd.state]; rfl
  have N0 := Fr.nil n0
  have pre0 : ∀ t, Steps p.tables e below (s₁.setTop (mkF m 0 #[vi p1, vi p2, vu, vu, vu, vu, vu] [])) t → Steps p.tables e below (s₁.setTop (entryFrame m #[xi p1, xi p2] maxLocals)) t := fun t st => castTop (ef_own_l1 m u0 u1 u2 u3 u4 u5 p1 p2) st
  obtain ⟨T1, h1, k1, X1, e1, E1, A1, Ov1, st1⟩ := newR X0 hx hZ hown (ww hw 0 rfl) (ww hw 1 rfl) e0 (g := (mkF m 2 #[vi p1, vi p2, vu, vu, vu, vu, vu] [xi (6 : Int32)])) rfl (hb hby at_2) rfl (by decide) (cap := 6) (by decide) (by decide) (by decide) (by decide)
  obtain ⟨b1, g1⟩ : ∃ z, z = h0.size := ⟨_, rfl⟩
  rw [← g1] at A1 st1
  have g_b1 : n0 ≤ b1 := own_fresh O0 g1
  have O1 : Old Z n0 h1 := O0.ext E1
  have V_b1 : Arv Z h1 b1 k1 (.object "com/example/whyle/whyle/cfa/Relation") (6 : Int32) [.null, .null, .null, .null, .null, .null] .null := (Arv.new A1 (by decide)).pad (pad_rep [] .null 6)
  obtain ⟨T2, X2, e2, st2⟩ := getS2 X1 hx hZ hown (host := "") (Or.inl (ww hw 2 rfl)) Via.refl e1 ((own_S_u0 G).ext O1.2) (g := (mkF m 7 #[vi p1, vi p2, vu, vu, vu, vu, vu] [xi (0 : Int32), xr b1, xr b1])) rfl (hb hby at_7)
  obtain ⟨cl3, Ar3, q3, S3, N3_, H3, G3⟩ := V_b1
  have hin3 : ¬ ((0 : Int32) < 0 ∨ cl3.slots.size ≤ ((0 : Int32)).toNatClampNeg) := inb_of S3 ⟨by decide, by decide⟩
  obtain ⟨T4, h4, X4, e4, W4, st4⟩ := stR X2 hx hZ e2 Ar3 (j := (0 : Int32)) hin3 rfl (Sto.ofV Ar3 q3 Ov1 (Ins.self ((own_X_u0 G).ext O1.2))) (g := (mkF m 10 #[vi p1, vi p2, vu, vu, vu, vu, vu] [xr u0, xi (0 : Int32), xr b1, xr b1])) rfl rfl (hb hby at_10)
  have V_b1_4 : Arv Z h4 b1 k1 (.object "com/example/whyle/whyle/cfa/Relation") (6 : Int32) [xr u0, .null, .null, .null, .null, .null] .null := Arv.set Ar3 q3 S3 N3_ H3 G3 rfl W4 0 rfl (Nat.le_of_ble_eq_true rfl)
  have O4 : Old Z n0 h4 := O1.wr W4 g_b1
  have N4 := Fr.snoc X4 N0 g_b1
  obtain ⟨T5, X5, e5, st5⟩ := getS2 X4 hx hZ hown (host := "") (Or.inl (ww hw 6 rfl)) Via.refl e4 ((own_S_u1 G).ext O4.2) (g := (mkF m 13 #[vi p1, vi p2, vu, vu, vu, vu, vu] [xi (1 : Int32), xr b1, xr b1])) rfl (hb hby at_13)
  obtain ⟨cl6, Ar6, q6, S6, N6_, H6, G6⟩ := V_b1_4
  have hin6 : ¬ ((1 : Int32) < 0 ∨ cl6.slots.size ≤ ((1 : Int32)).toNatClampNeg) := inb_of S6 ⟨by decide, by decide⟩
  obtain ⟨T7, h7, X7, e7, W7, st7⟩ := stR X5 hx hZ e5 Ar6 (j := (1 : Int32)) hin6 rfl (Sto.ofV Ar6 q6 Ov1 (Ins.self ((own_X_u1 G).ext O4.2))) (g := (mkF m 16 #[vi p1, vi p2, vu, vu, vu, vu, vu] [xr u1, xi (1 : Int32), xr b1, xr b1])) rfl rfl (hb hby at_16)
  have V_b1_7 : Arv Z h7 b1 k1 (.object "com/example/whyle/whyle/cfa/Relation") (6 : Int32) [xr u0, xr u1, .null, .null, .null, .null] .null := Arv.set Ar6 q6 S6 N6_ H6 G6 rfl W7 1 rfl (Nat.le_of_ble_eq_true rfl)
  have O7 : Old Z n0 h7 := O4.wr W7 g_b1
  have N7 := Fr.snoc X7 N4 g_b1
  obtain ⟨T8, X8, e8, st8⟩ := getS2 X7 hx hZ hown (host := "") (Or.inl (ww hw 8 rfl)) Via.refl e7 ((own_S_u2 G).ext O7.2) (g := (mkF m 19 #[vi p1, vi p2, vu, vu, vu, vu, vu] [xi (2 : Int32), xr b1, xr b1])) rfl (hb hby at_19)
  obtain ⟨cl9, Ar9, q9, S9, N9_, H9, G9⟩ := V_b1_7
  have hin9 : ¬ ((2 : Int32) < 0 ∨ cl9.slots.size ≤ ((2 : Int32)).toNatClampNeg) := inb_of S9 ⟨by decide, by decide⟩
  obtain ⟨T10, h10, X10, e10, W10, st10⟩ := stR X8 hx hZ e8 Ar9 (j := (2 : Int32)) hin9 rfl (Sto.ofV Ar9 q9 Ov1 (Ins.self ((own_X_u2 G).ext O7.2))) (g := (mkF m 22 #[vi p1, vi p2, vu, vu, vu, vu, vu] [xr u2, xi (2 : Int32), xr b1, xr b1])) rfl rfl (hb hby at_22)
  have V_b1_10 : Arv Z h10 b1 k1 (.object "com/example/whyle/whyle/cfa/Relation") (6 : Int32) [xr u0, xr u1, xr u2, .null, .null, .null] .null := Arv.set Ar9 q9 S9 N9_ H9 G9 rfl W10 2 rfl (Nat.le_of_ble_eq_true rfl)
  have O10 : Old Z n0 h10 := O7.wr W10 g_b1
  have N10 := Fr.snoc X10 N7 g_b1
  obtain ⟨T11, X11, e11, st11⟩ := getS2 X10 hx hZ hown (host := "") (Or.inl (ww hw 10 rfl)) Via.refl e10 ((own_S_u3 G).ext O10.2) (g := (mkF m 25 #[vi p1, vi p2, vu, vu, vu, vu, vu] [xi (3 : Int32), xr b1, xr b1])) rfl (hb hby at_25)
  obtain ⟨cl12, Ar12, q12, S12, N12_, H12, G12⟩ := V_b1_10
  have hin12 : ¬ ((3 : Int32) < 0 ∨ cl12.slots.size ≤ ((3 : Int32)).toNatClampNeg) := inb_of S12 ⟨by decide, by decide⟩
  obtain ⟨T13, h13, X13, e13, W13, st13⟩ := stR X11 hx hZ e11 Ar12 (j := (3 : Int32)) hin12 rfl (Sto.ofV Ar12 q12 Ov1 (Ins.self ((own_X_u3 G).ext O10.2))) (g := (mkF m 28 #[vi p1, vi p2, vu, vu, vu, vu, vu] [xr u3, xi (3 : Int32), xr b1, xr b1])) rfl rfl (hb hby at_28)
  have V_b1_13 : Arv Z h13 b1 k1 (.object "com/example/whyle/whyle/cfa/Relation") (6 : Int32) [xr u0, xr u1, xr u2, xr u3, .null, .null] .null := Arv.set Ar12 q12 S12 N12_ H12 G12 rfl W13 3 rfl (Nat.le_of_ble_eq_true rfl)
  have O13 : Old Z n0 h13 := O10.wr W13 g_b1
  have N13 := Fr.snoc X13 N10 g_b1
  obtain ⟨T14, X14, e14, st14⟩ := getS2 X13 hx hZ hown (host := "") (Or.inl (ww hw 12 rfl)) Via.refl e13 ((own_S_u4 G).ext O13.2) (g := (mkF m 31 #[vi p1, vi p2, vu, vu, vu, vu, vu] [xi (4 : Int32), xr b1, xr b1])) rfl (hb hby at_31)
  obtain ⟨cl15, Ar15, q15, S15, N15_, H15, G15⟩ := V_b1_13
  have hin15 : ¬ ((4 : Int32) < 0 ∨ cl15.slots.size ≤ ((4 : Int32)).toNatClampNeg) := inb_of S15 ⟨by decide, by decide⟩
  obtain ⟨T16, h16, X16, e16, W16, st16⟩ := stR X14 hx hZ e14 Ar15 (j := (4 : Int32)) hin15 rfl (Sto.ofV Ar15 q15 Ov1 (Ins.self ((own_X_u4 G).ext O13.2))) (g := (mkF m 34 #[vi p1, vi p2, vu, vu, vu, vu, vu] [xr u4, xi (4 : Int32), xr b1, xr b1])) rfl rfl (hb hby at_34)
  have V_b1_16 : Arv Z h16 b1 k1 (.object "com/example/whyle/whyle/cfa/Relation") (6 : Int32) [xr u0, xr u1, xr u2, xr u3, xr u4, .null] .null := Arv.set Ar15 q15 S15 N15_ H15 G15 rfl W16 4 rfl (Nat.le_of_ble_eq_true rfl)
  have O16 : Old Z n0 h16 := O13.wr W16 g_b1
  have N16 := Fr.snoc X16 N13 g_b1
  obtain ⟨T17, X17, e17, st17⟩ := getS2 X16 hx hZ hown (host := "") (Or.inl (ww hw 14 rfl)) Via.refl e16 ((own_S_u5 G).ext O16.2) (g := (mkF m 37 #[vi p1, vi p2, vu, vu, vu, vu, vu] [xi (5 : Int32), xr b1, xr b1])) rfl (hb hby at_37)
  obtain ⟨cl18, Ar18, q18, S18, N18_, H18, G18⟩ := V_b1_16
  have hin18 : ¬ ((5 : Int32) < 0 ∨ cl18.slots.size ≤ ((5 : Int32)).toNatClampNeg) := inb_of S18 ⟨by decide, by decide⟩
  obtain ⟨T19, h19, X19, e19, W19, st19⟩ := stR X17 hx hZ e17 Ar18 (j := (5 : Int32)) hin18 rfl (Sto.ofV Ar18 q18 Ov1 (Ins.self ((own_X_u5 G).ext O16.2))) (g := (mkF m 40 #[vi p1, vi p2, vu, vu, vu, vu, vu] [xr u5, xi (5 : Int32), xr b1, xr b1])) rfl rfl (hb hby at_40)
  have V_b1_19 : Arv Z h19 b1 k1 (.object "com/example/whyle/whyle/cfa/Relation") (6 : Int32) [xr u0, xr u1, xr u2, xr u3, xr u4, xr u5] .null := Arv.set Ar18 q18 S18 N18_ H18 G18 rfl W19 5 rfl (Nat.le_of_ble_eq_true rfl)
  have O19 : Old Z n0 h19 := O16.wr W19 g_b1
  have N19 := Fr.snoc X19 N16 g_b1
  obtain ⟨T20, h20, k20, X20, e20, E20, A20, st20⟩ := newP X19 hx hZ (ww hw 16 rfl) e19 (g := (mkF m 44 #[vi p1, vi p2, vr b1, vu, vu, vu, vu] [xi (6 : Int32)])) rfl (hb hby at_44) rfl (by decide) (cap := 6) (by decide) (by decide) (by decide) (by decide)
  obtain ⟨b20, g20⟩ : ∃ z, z = h19.size := ⟨_, rfl⟩
  rw [← g20] at A20 st20
  have g_b20 : n0 ≤ b20 := own_fresh O19 g20
  have ne_b1_b20 : b1 ≠ b20 := Nat.ne_of_lt (Nat.lt_of_lt_of_le (V_b1_19).lt (Nat.le_of_eq g20.symm))
  have O20 : Old Z n0 h20 := O19.ext E20
  have V_b1_20 := V_b1_19.ext E20
  have V_b20 : Arv Z h20 b20 k20 .int (6 : Int32) [(.int (0 : Int32)), (.int (0 : Int32)), (.int (0 : Int32)), (.int (0 : Int32)), (.int (0 : Int32)), (.int (0 : Int32))] (.int (0 : Int32)) := (Arv.new A20 (by decide)).pad (pad_rep [] (.int (0 : Int32)) 6)
  obtain ⟨cl21, Ar21, q21, S21, N21_, H21, G21⟩ := V_b20
  have hin21 : ¬ ((0 : Int32) < 0 ∨ cl21.slots.size ≤ ((0 : Int32)).toNatClampNeg) := inb_of S21 ⟨by decide, by decide⟩
  obtain ⟨T22, h22, X22, e22, W22, st22⟩ := stI X20 hx hZ e20 Ar21 (j := (0 : Int32)) hin21 (g := (mkF m 49 #[vi p1, vi p2, vr b1, vu, vu, vu, vu] [xi (2 : Int32), xi (0 : Int32), xr b20, xr b20])) rfl rfl (hb hby at_49)
  have V_b20_22 : Arv Z h22 b20 k20 .int (6 : Int32) [xi (2 : Int32), xi (0 : Int32), xi (0 : Int32), xi (0 : Int32), xi (0 : Int32), xi (0 : Int32)] (.int (0 : Int32)) := Arv.set Ar21 q21 S21 N21_ H21 G21 rfl W22 0 rfl (Nat.le_of_ble_eq_true rfl)
  have O22 : Old Z n0 h22 := O20.wr W22 g_b20
  have V_b1_22 := V_b1_20.other W22 ne_b1_b20
  have N22 := Fr.snoc X22 N19 g_b20
  obtain ⟨cl23, Ar23, q23, S23, N23_, H23, G23⟩ := V_b20_22
  have hin23 : ¬ ((1 : Int32) < 0 ∨ cl23.slots.size ≤ ((1 : Int32)).toNatClampNeg) := inb_of S23 ⟨by decide, by decide⟩
  obtain ⟨T24, h24, X24, e24, W24, st24⟩ := stI X22 hx hZ e22 Ar23 (j := (1 : Int32)) hin23 (g := (mkF m 53 #[vi p1, vi p2, vr b1, vu, vu, vu, vu] [xi (5 : Int32), xi (1 : Int32), xr b20, xr b20])) rfl rfl (hb hby at_53)
  have V_b20_24 : Arv Z h24 b20 k20 .int (6 : Int32) [xi (2 : Int32), xi (5 : Int32), xi (0 : Int32), xi (0 : Int32), xi (0 : Int32), xi (0 : Int32)] (.int (0 : Int32)) := Arv.set Ar23 q23 S23 N23_ H23 G23 rfl W24 1 rfl (Nat.le_of_ble_eq_true rfl)
  have O24 : Old Z n0 h24 := O22.wr W24 g_b20
  have V_b1_24 := V_b1_22.other W24 ne_b1_b20
  have N24 := Fr.snoc X24 N22 g_b20
  obtain ⟨cl25, Ar25, q25, S25, N25_, H25, G25⟩ := V_b20_24
  have hin25 : ¬ ((2 : Int32) < 0 ∨ cl25.slots.size ≤ ((2 : Int32)).toNatClampNeg) := inb_of S25 ⟨by decide, by decide⟩
  obtain ⟨T26, h26, X26, e26, W26, st26⟩ := stI X24 hx hZ e24 Ar25 (j := (2 : Int32)) hin25 (g := (mkF m 57 #[vi p1, vi p2, vr b1, vu, vu, vu, vu] [xi (1 : Int32), xi (2 : Int32), xr b20, xr b20])) rfl rfl (hb hby at_57)
  have V_b20_26 : Arv Z h26 b20 k20 .int (6 : Int32) [xi (2 : Int32), xi (5 : Int32), xi (1 : Int32), xi (0 : Int32), xi (0 : Int32), xi (0 : Int32)] (.int (0 : Int32)) := Arv.set Ar25 q25 S25 N25_ H25 G25 rfl W26 2 rfl (Nat.le_of_ble_eq_true rfl)
  have O26 : Old Z n0 h26 := O24.wr W26 g_b20
  have V_b1_26 := V_b1_24.other W26 ne_b1_b20
  have N26 := Fr.snoc X26 N24 g_b20
  obtain ⟨cl27, Ar27, q27, S27, N27_, H27, G27⟩ := V_b20_26
  have hin27 : ¬ ((3 : Int32) < 0 ∨ cl27.slots.size ≤ ((3 : Int32)).toNatClampNeg) := inb_of S27 ⟨by decide, by decide⟩
  obtain ⟨T28, h28, X28, e28, W28, st28⟩ := stI X26 hx hZ e26 Ar27 (j := (3 : Int32)) hin27 (g := (mkF m 61 #[vi p1, vi p2, vr b1, vu, vu, vu, vu] [xi (3 : Int32), xi (3 : Int32), xr b20, xr b20])) rfl rfl (hb hby at_61)
  have V_b20_28 : Arv Z h28 b20 k20 .int (6 : Int32) [xi (2 : Int32), xi (5 : Int32), xi (1 : Int32), xi (3 : Int32), xi (0 : Int32), xi (0 : Int32)] (.int (0 : Int32)) := Arv.set Ar27 q27 S27 N27_ H27 G27 rfl W28 3 rfl (Nat.le_of_ble_eq_true rfl)
  have O28 : Old Z n0 h28 := O26.wr W28 g_b20
  have V_b1_28 := V_b1_26.other W28 ne_b1_b20
  have N28 := Fr.snoc X28 N26 g_b20
  obtain ⟨cl29, Ar29, q29, S29, N29_, H29, G29⟩ := V_b20_28
  have hin29 : ¬ ((4 : Int32) < 0 ∨ cl29.slots.size ≤ ((4 : Int32)).toNatClampNeg) := inb_of S29 ⟨by decide, by decide⟩
  obtain ⟨T30, h30, X30, e30, W30, st30⟩ := stI X28 hx hZ e28 Ar29 (j := (4 : Int32)) hin29 (g := (mkF m 65 #[vi p1, vi p2, vr b1, vu, vu, vu, vu] [xi (4 : Int32), xi (4 : Int32), xr b20, xr b20])) rfl rfl (hb hby at_65)
  have V_b20_30 : Arv Z h30 b20 k20 .int (6 : Int32) [xi (2 : Int32), xi (5 : Int32), xi (1 : Int32), xi (3 : Int32), xi (4 : Int32), xi (0 : Int32)] (.int (0 : Int32)) := Arv.set Ar29 q29 S29 N29_ H29 G29 rfl W30 4 rfl (Nat.le_of_ble_eq_true rfl)
  have O30 : Old Z n0 h30 := O28.wr W30 g_b20
  have V_b1_30 := V_b1_28.other W30 ne_b1_b20
  have N30 := Fr.snoc X30 N28 g_b20
  obtain ⟨cl31, Ar31, q31, S31, N31_, H31, G31⟩ := V_b20_30
  have hin31 : ¬ ((5 : Int32) < 0 ∨ cl31.slots.size ≤ ((5 : Int32)).toNatClampNeg) := inb_of S31 ⟨by decide, by decide⟩
  obtain ⟨T32, h32, X32, e32, W32, st32⟩ := stI X30 hx hZ e30 Ar31 (j := (5 : Int32)) hin31 (g := (mkF m 70 #[vi p1, vi p2, vr b1, vu, vu, vu, vu] [xi (6 : Int32), xi (5 : Int32), xr b20, xr b20])) rfl rfl (hb hby at_70)
  have V_b20_32 : Arv Z h32 b20 k20 .int (6 : Int32) [xi (2 : Int32), xi (5 : Int32), xi (1 : Int32), xi (3 : Int32), xi (4 : Int32), xi (6 : Int32)] (.int (0 : Int32)) := Arv.set Ar31 q31 S31 N31_ H31 G31 rfl W32 5 rfl (Nat.le_of_ble_eq_true rfl)
  have O32 : Old Z n0 h32 := O30.wr W32 g_b20
  have V_b1_32 := V_b1_30.other W32 ne_b1_b20
  have N32 := Fr.snoc X32 N30 g_b20
  obtain ⟨cl33, Ar33, q33, S33, N33_, H33, G33⟩ := V_b20_32
  have hin33 : ¬ ((0 : Int32) < 0 ∨ cl33.slots.size ≤ ((0 : Int32)).toNatClampNeg) := inb_of S33 ⟨by decide, by decide⟩
  have hat33 : cl33.slots[((0 : Int32)).toNatClampNeg]? = some (xi (2 : Int32)) := Has.at H33 hin33 rfl
  obtain ⟨cl34, Ar34, q34, S34, N34_, H34, G34⟩ := V_b1_32
  have hin34 : ¬ ((0 : Int32) < 0 ∨ cl34.slots.size ≤ ((0 : Int32)).toNatClampNeg) := inb_of S34 ⟨by decide, by decide⟩
  have hat34 : cl34.slots[((0 : Int32)).toNatClampNeg]? = some (xr u0) := Has.at H34 hin34 rfl
  obtain ⟨cq35, kq35, qa35, qb35, qc35⟩ := isOf hZ e32 ((own_X_u0 G).ext O32.2)
  obtain ⟨_, _, ⟨T35, L35, k35, n35⟩, -, X35, ⟨Lc35, hQ35, l35, y35, z35⟩, st35⟩ := X32.virtualBack hx (y := Y2) (z := Y2) hown (mvT hZ (ww hw 18 rfl)) (mvT hZ (ww hw 19 rfl)) (notFace_of_selects (args := #[]) (mvT hZ (ww hw 21 rfl))) (mvT hZ (ww hw 21 rfl)) (mvT hZ (ww hw 20 rfl)) (by decide) (backOf (W := 0) (own_c2_holds l Z a0 hw u0 u1 u2 u3 u4 u5 G p2 as9 h32 n0 O32 []) hZ (ww hw 22 rfl) (ww hw 3 rfl) (by decide) (by decide)) qa35 qc35 (g := (mkF m 128 #[vi p1, vi p2, vr b1, vr b20, vi (0 : Int32), vi (1 : Int32), vi (1 : Int32)] [xi p2, xr u0])) rfl (by rw [hml]; rfl) (Steps.refl _) (argsL := [xi p2]) (rest := []) (lenOf pd1 rfl) rfl (by show 2 * 0 + _ ≤ _; exact Nat.le_of_eq rfl) (hb hby at_128) (fun _ _ => ⟨rfl, e32, (by decide : 2 + 0 ≤ _), (by decide : 12 + 0 ≤ _)⟩)
  dsimp only [Pt.U, Pt.locs, Pt.cells, Pt.slots] at X35 l35 y35 z35 st35 hQ35
  subst l35 y35 z35
  obtain ⟨rfl, Nq35, e35⟩ := hQ35
  have N35 := Fr.app N32 Nq35
  obtain ⟨fs, hr, hrun, hended, hW, hsame⟩ := X35.leave (v := some (xi (1 : Int32))) (fun h => by rw [Bd.returns] at h; cases h)
  refine ⟨_, _, pre0 _ ?_, hrun, hended, _, _, rfl, ?_, ⟨_, rfl⟩, hW, hsame.mono (by decide) (by decide)⟩
  · show own_S p e below s₁ (mkF m 0 #[vi p1, vi p2, vu, vu, vu, vu, vu] []) _
    refine XS.bipush X0.here hx rfl (hb hby at_0) ?_
    show own_S p e below s₁ (mkF m 2 #[vi p1, vi p2, vu, vu, vu, vu, vu] [xi (6 : Int32)]) _
    refine st1 _ ?_
    show own_S p e below T1 (mkF m 5 #[vi p1, vi p2, vu, vu, vu, vu, vu] [xr b1]) _
    refine XS.dup X1.here hx rfl (hb hby at_5) rfl rfl ?_
    show own_S p e below T1 (mkF m 6 #[vi p1, vi p2, vu, vu, vu, vu, vu] [xr b1, xr b1]) _
    refine XS.iconst X1.here hx rfl (hb hby at_6) ?_
    show own_S p e below T1 (mkF m 7 #[vi p1, vi p2, vu, vu, vu, vu, vu] [xi (0 : Int32), xr b1, xr b1]) _
    refine st2 _ ?_
    show own_S p e below T2 (mkF m 10 #[vi p1, vi p2, vu, vu, vu, vu, vu] [xr u0, xi (0 : Int32), xr b1, xr b1]) _
    refine st4 _ ?_
    show own_S p e below T4 (mkF m 11 #[vi p1, vi p2, vu, vu, vu, vu, vu] [xr b1]) _
    refine XS.dup X4.here hx rfl (hb hby at_11) rfl rfl ?_
    show own_S p e below T4 (mkF m 12 #[vi p1, vi p2, vu, vu, vu, vu, vu] [xr b1, xr b1]) _
    refine XS.iconst X4.here hx rfl (hb hby at_12) ?_
    show own_S p e below T4 (mkF m 13 #[vi p1, vi p2, vu, vu, vu, vu, vu] [xi (1 : Int32), xr b1, xr b1]) _
    refine st5 _ ?_
    show own_S p e below T5 (mkF m 16 #[vi p1, vi p2, vu, vu, vu, vu, vu] [xr u1, xi (1 : Int32), xr b1, xr b1]) _
    refine st7 _ ?_
    show own_S p e below T7 (mkF m 17 #[vi p1, vi p2, vu, vu, vu, vu, vu] [xr b1]) _
    refine XS.dup X7.here hx rfl (hb hby at_17) rfl rfl ?_
    show own_S p e below T7 (mkF m 18 #[vi p1, vi p2, vu, vu, vu, vu, vu] [xr b1, xr b1]) _
    refine XS.iconst X7.here hx rfl (hb hby at_18) ?_
    show own_S p e below T7 (mkF m 19 #[vi p1, vi p2, vu, vu, vu, vu, vu] [xi (2 : Int32), xr b1, xr b1]) _
    refine st8 _ ?_
    show own_S p e below T8 (mkF m 22 #[vi p1, vi p2, vu, vu, vu, vu, vu] [xr u2, xi (2 : Int32), xr b1, xr b1]) _
    refine st10 _ ?_
    show own_S p e below T10 (mkF m 23 #[vi p1, vi p2, vu, vu, vu, vu, vu] [xr b1]) _
    refine XS.dup X10.here hx rfl (hb hby at_23) rfl rfl ?_
    show own_S p e below T10 (mkF m 24 #[vi p1, vi p2, vu, vu, vu, vu, vu] [xr b1, xr b1]) _
    refine XS.iconst X10.here hx rfl (hb hby at_24) ?_
    show own_S p e below T10 (mkF m 25 #[vi p1, vi p2, vu, vu, vu, vu, vu] [xi (3 : Int32), xr b1, xr b1]) _
    refine st11 _ ?_
    show own_S p e below T11 (mkF m 28 #[vi p1, vi p2, vu, vu, vu, vu, vu] [xr u3, xi (3 : Int32), xr b1, xr b1]) _
    refine st13 _ ?_
    show own_S p e below T13 (mkF m 29 #[vi p1, vi p2, vu, vu, vu, vu, vu] [xr b1]) _
    refine XS.dup X13.here hx rfl (hb hby at_29) rfl rfl ?_
    show own_S p e below T13 (mkF m 30 #[vi p1, vi p2, vu, vu, vu, vu, vu] [xr b1, xr b1]) _
    refine XS.iconst X13.here hx rfl (hb hby at_30) ?_
    show own_S p e below T13 (mkF m 31 #[vi p1, vi p2, vu, vu, vu, vu, vu] [xi (4 : Int32), xr b1, xr b1]) _
    refine st14 _ ?_
    show own_S p e below T14 (mkF m 34 #[vi p1, vi p2, vu, vu, vu, vu, vu] [xr u4, xi (4 : Int32), xr b1, xr b1]) _
    refine st16 _ ?_
    show own_S p e below T16 (mkF m 35 #[vi p1, vi p2, vu, vu, vu, vu, vu] [xr b1]) _
    refine XS.dup X16.here hx rfl (hb hby at_35) rfl rfl ?_
    show own_S p e below T16 (mkF m 36 #[vi p1, vi p2, vu, vu, vu, vu, vu] [xr b1, xr b1]) _
    refine XS.iconst X16.here hx rfl (hb hby at_36) ?_
    show own_S p e below T16 (mkF m 37 #[vi p1, vi p2, vu, vu, vu, vu, vu] [xi (5 : Int32), xr b1, xr b1]) _
    refine st17 _ ?_
    show own_S p e below T17 (mkF m 40 #[vi p1, vi p2, vu, vu, vu, vu, vu] [xr u5, xi (5 : Int32), xr b1, xr b1]) _
    refine st19 _ ?_
    show own_S p e below T19 (mkF m 41 #[vi p1, vi p2, vu, vu, vu, vu, vu] [xr b1]) _
    refine XS.astoreN X19.here hx rfl (hb hby at_41) rfl rfl (l' := #[vi p1, vi p2, vr b1, vu, vu, vu, vu]) rfl ?_
    show own_S p e below T19 (mkF m 42 #[vi p1, vi p2, vr b1, vu, vu, vu, vu] []) _
    refine XS.bipush X19.here hx rfl (hb hby at_42) ?_
    show own_S p e below T19 (mkF m 44 #[vi p1, vi p2, vr b1, vu, vu, vu, vu] [xi (6 : Int32)]) _
    refine st20 _ ?_
    show own_S p e below T20 (mkF m 46 #[vi p1, vi p2, vr b1, vu, vu, vu, vu] [xr b20]) _
    refine XS.dup X20.here hx rfl (hb hby at_46) rfl rfl ?_
    show own_S p e below T20 (mkF m 47 #[vi p1, vi p2, vr b1, vu, vu, vu, vu] [xr b20, xr b20]) _
    refine XS.iconst X20.here hx rfl (hb hby at_47) ?_
    show own_S p e below T20 (mkF m 48 #[vi p1, vi p2, vr b1, vu, vu, vu, vu] [xi (0 : Int32), xr b20, xr b20]) _
    refine XS.iconst X20.here hx rfl (hb hby at_48) ?_
    show own_S p e below T20 (mkF m 49 #[vi p1, vi p2, vr b1, vu, vu, vu, vu] [xi (2 : Int32), xi (0 : Int32), xr b20, xr b20]) _
    refine st22 _ ?_
    show own_S p e below T22 (mkF m 50 #[vi p1, vi p2, vr b1, vu, vu, vu, vu] [xr b20]) _
    refine XS.dup X22.here hx rfl (hb hby at_50) rfl rfl ?_
    show own_S p e below T22 (mkF m 51 #[vi p1, vi p2, vr b1, vu, vu, vu, vu] [xr b20, xr b20]) _
    refine XS.iconst X22.here hx rfl (hb hby at_51) ?_
    show own_S p e below T22 (mkF m 52 #[vi p1, vi p2, vr b1, vu, vu, vu, vu] [xi (1 : Int32), xr b20, xr b20]) _
    refine XS.iconst X22.here hx rfl (hb hby at_52) ?_
    show own_S p e below T22 (mkF m 53 #[vi p1, vi p2, vr b1, vu, vu, vu, vu] [xi (5 : Int32), xi (1 : Int32), xr b20, xr b20]) _
    refine st24 _ ?_
    show own_S p e below T24 (mkF m 54 #[vi p1, vi p2, vr b1, vu, vu, vu, vu] [xr b20]) _
    refine XS.dup X24.here hx rfl (hb hby at_54) rfl rfl ?_
    show own_S p e below T24 (mkF m 55 #[vi p1, vi p2, vr b1, vu, vu, vu, vu] [xr b20, xr b20]) _
    refine XS.iconst X24.here hx rfl (hb hby at_55) ?_
    show own_S p e below T24 (mkF m 56 #[vi p1, vi p2, vr b1, vu, vu, vu, vu] [xi (2 : Int32), xr b20, xr b20]) _
    refine XS.iconst X24.here hx rfl (hb hby at_56) ?_
    show own_S p e below T24 (mkF m 57 #[vi p1, vi p2, vr b1, vu, vu, vu, vu] [xi (1 : Int32), xi (2 : Int32), xr b20, xr b20]) _
    refine st26 _ ?_
    show own_S p e below T26 (mkF m 58 #[vi p1, vi p2, vr b1, vu, vu, vu, vu] [xr b20]) _
    refine XS.dup X26.here hx rfl (hb hby at_58) rfl rfl ?_
    show own_S p e below T26 (mkF m 59 #[vi p1, vi p2, vr b1, vu, vu, vu, vu] [xr b20, xr b20]) _
    refine XS.iconst X26.here hx rfl (hb hby at_59) ?_
    show own_S p e below T26 (mkF m 60 #[vi p1, vi p2, vr b1, vu, vu, vu, vu] [xi (3 : Int32), xr b20, xr b20]) _
    refine XS.iconst X26.here hx rfl (hb hby at_60) ?_
    show own_S p e below T26 (mkF m 61 #[vi p1, vi p2, vr b1, vu, vu, vu, vu] [xi (3 : Int32), xi (3 : Int32), xr b20, xr b20]) _
    refine st28 _ ?_
    show own_S p e below T28 (mkF m 62 #[vi p1, vi p2, vr b1, vu, vu, vu, vu] [xr b20]) _
    refine XS.dup X28.here hx rfl (hb hby at_62) rfl rfl ?_
    show own_S p e below T28 (mkF m 63 #[vi p1, vi p2, vr b1, vu, vu, vu, vu] [xr b20, xr b20]) _
    refine XS.iconst X28.here hx rfl (hb hby at_63) ?_
    show own_S p e below T28 (mkF m 64 #[vi p1, vi p2, vr b1, vu, vu, vu, vu] [xi (4 : Int32), xr b20, xr b20]) _
    refine XS.iconst X28.here hx rfl (hb hby at_64) ?_
    show own_S p e below T28 (mkF m 65 #[vi p1, vi p2, vr b1, vu, vu, vu, vu] [xi (4 : Int32), xi (4 : Int32), xr b20, xr b20]) _
    refine st30 _ ?_
    show own_S p e below T30 (mkF m 66 #[vi p1, vi p2, vr b1, vu, vu, vu, vu] [xr b20]) _
    refine XS.dup X30.here hx rfl (hb hby at_66) rfl rfl ?_
    show own_S p e below T30 (mkF m 67 #[vi p1, vi p2, vr b1, vu, vu, vu, vu] [xr b20, xr b20]) _
    refine XS.iconst X30.here hx rfl (hb hby at_67) ?_
    show own_S p e below T30 (mkF m 68 #[vi p1, vi p2, vr b1, vu, vu, vu, vu] [xi (5 : Int32), xr b20, xr b20]) _
    refine XS.bipush X30.here hx rfl (hb hby at_68) ?_
    show own_S p e below T30 (mkF m 70 #[vi p1, vi p2, vr b1, vu, vu, vu, vu] [xi (6 : Int32), xi (5 : Int32), xr b20, xr b20]) _
    refine st32 _ ?_
    show own_S p e below T32 (mkF m 71 #[vi p1, vi p2, vr b1, vu, vu, vu, vu] [xr b20]) _
    refine XS.astoreN X32.here hx rfl (hb hby at_71) rfl rfl (l' := #[vi p1, vi p2, vr b1, vr b20, vu, vu, vu]) rfl ?_
    show own_S p e below T32 (mkF m 72 #[vi p1, vi p2, vr b1, vr b20, vu, vu, vu] []) _
    refine XS.iloadN X32.here hx rfl (hb hby at_72) rfl ?_
    show own_S p e below T32 (mkF m 73 #[vi p1, vi p2, vr b1, vr b20, vu, vu, vu] [xi p1]) _
    refine X32.ldcI hx hown (mvT hZ (ww hw 17 rfl)) (g := (mkF m 73 #[vi p1, vi p2, vr b1, vr b20, vu, vu, vu] [xi p1])) rfl (hb hby at_73) ?_
    show own_S p e below T32 (mkF m 75 #[vi p1, vi p2, vr b1, vr b20, vu, vu, vu] [xi (2147483647 : Int32), xi p1]) _
    refine XS.iand X32.here hx rfl (hb hby at_75) rfl ?_
    show own_S p e below T32 (mkF m 76 #[vi p1, vi p2, vr b1, vr b20, vu, vu, vu] [xi (p1 &&& (2147483647 : Int32))]) _
    show own_S p e below T32 (mkF m 76 #[vi p1, vi p2, vr b1, vr b20, vu, vu, vu] [xi (p1 &&& (2147483647 : Int32))]) _
    refine XS.bipush X32.here hx rfl (hb hby at_76) ?_
    show own_S p e below T32 (mkF m 78 #[vi p1, vi p2, vr b1, vr b20, vu, vu, vu] [xi (6 : Int32), xi (p1 &&& (2147483647 : Int32))]) _
    refine XS.irem X32.here hx rfl (hb hby at_78) rfl (by decide) ?_
    show own_S p e below T32 (mkF m 79 #[vi p1, vi p2, vr b1, vr b20, vu, vu, vu] [xi ((p1 &&& (2147483647 : Int32)) - ((p1 &&& (2147483647 : Int32)) / (6 : Int32)) * (6 : Int32))]) _
    refine castTop (show (mkF m 79 #[vi p1, vi p2, vr b1, vr b20, vu, vu, vu] [xi ((p1 &&& (2147483647 : Int32)) - ((p1 &&& (2147483647 : Int32)) / (6 : Int32)) * (6 : Int32))]) = (mkF m 79 #[vi p1, vi p2, vr b1, vr b20, vu, vu, vu] [xi (0 : Int32)]) from by rw [as12]) ?_
    show own_S p e below T32 (mkF m 79 #[vi p1, vi p2, vr b1, vr b20, vu, vu, vu] [xi (0 : Int32)]) _
    refine XS.istore X32.here hx rfl (hb hby at_79) rfl (l' := #[vi p1, vi p2, vr b1, vr b20, vi (0 : Int32), vu, vu]) rfl ?_
    show own_S p e below T32 (mkF m 81 #[vi p1, vi p2, vr b1, vr b20, vi (0 : Int32), vu, vu] []) _
    refine XS.iloadN X32.here hx rfl (hb hby at_81) rfl ?_
    show own_S p e below T32 (mkF m 82 #[vi p1, vi p2, vr b1, vr b20, vi (0 : Int32), vu, vu] [xi p2]) _
    refine XS.ifYes X32.here hx rfl (pc0 := 82) (pc' := 91) rfl (hb hby at_82) rfl as7 (by decide) (by decide) ?_
    show own_S p e below T32 (mkF m 91 #[vi p1, vi p2, vr b1, vr b20, vi (0 : Int32), vu, vu] []) _
    refine XS.iloadN X32.here hx rfl (hb hby at_91) rfl ?_
    show own_S p e below T32 (mkF m 92 #[vi p1, vi p2, vr b1, vr b20, vi (0 : Int32), vu, vu] [xi p2]) _
    refine XS.ifNo X32.here hx rfl (hb hby at_92) rfl as9 ?_
    show own_S p e below T32 (mkF m 95 #[vi p1, vi p2, vr b1, vr b20, vi (0 : Int32), vu, vu] []) _
    refine XS.iconst X32.here hx rfl (hb hby at_95) ?_
    show own_S p e below T32 (mkF m 96 #[vi p1, vi p2, vr b1, vr b20, vi (0 : Int32), vu, vu] [xi (1 : Int32)]) _
    refine XS.istore X32.here hx rfl (hb hby at_96) rfl (l' := #[vi p1, vi p2, vr b1, vr b20, vi (0 : Int32), vi (1 : Int32), vu]) rfl ?_
    show own_S p e below T32 (mkF m 98 #[vi p1, vi p2, vr b1, vr b20, vi (0 : Int32), vi (1 : Int32), vu] []) _
    refine XS.goto X32.here hx rfl (pc0 := 98) (pc' := 104) rfl (hb hby at_98) (by decide) (by decide) ?_
    show own_S p e below T32 (mkF m 104 #[vi p1, vi p2, vr b1, vr b20, vi (0 : Int32), vi (1 : Int32), vu] []) _
    refine XS.aloadN X32.here hx rfl (hb hby at_104) rfl rfl ?_
    show own_S p e below T32 (mkF m 105 #[vi p1, vi p2, vr b1, vr b20, vi (0 : Int32), vi (1 : Int32), vu] [xr b20]) _
    refine XS.iload X32.here hx rfl (hb hby at_105) rfl ?_
    show own_S p e below T32 (mkF m 107 #[vi p1, vi p2, vr b1, vr b20, vi (0 : Int32), vi (1 : Int32), vu] [xi (0 : Int32), xr b20]) _
    refine X32.iaload hx (j := (0 : Int32)) (v := (xi (2 : Int32))) (by rw [e32]; exact Ar33.1) (State.isArrayOf_alike hZ.alike Ar33.2.1) Ar33.2.2 hin33 hat33 (g := (mkF m 107 #[vi p1, vi p2, vr b1, vr b20, vi (0 : Int32), vi (1 : Int32), vu] [xi (0 : Int32), xr b20])) rfl rfl (hb hby at_107) _ ?_
    show own_S p e below T32 (mkF m 108 #[vi p1, vi p2, vr b1, vr b20, vi (0 : Int32), vi (1 : Int32), vu] [xi (2 : Int32)]) _
    refine XS.iload X32.here hx rfl (hb hby at_108) rfl ?_
    show own_S p e below T32 (mkF m 110 #[vi p1, vi p2, vr b1, vr b20, vi (0 : Int32), vi (1 : Int32), vu] [xi (1 : Int32), xi (2 : Int32)]) _
    refine XS.ishr X32.here hx rfl (hb hby at_110) rfl ?_
    show own_S p e below T32 (mkF m 111 #[vi p1, vi p2, vr b1, vr b20, vi (0 : Int32), vi (1 : Int32), vu] [xi ((2 : Int32) >>> ((1 : Int32) &&& 31))]) _
    refine castTop (show (mkF m 111 #[vi p1, vi p2, vr b1, vr b20, vi (0 : Int32), vi (1 : Int32), vu] [xi ((2 : Int32) >>> ((1 : Int32) &&& 31))]) = (mkF m 111 #[vi p1, vi p2, vr b1, vr b20, vi (0 : Int32), vi (1 : Int32), vu] [xi (1 : Int32)]) from by rw [show ((2 : Int32) >>> ((1 : Int32) &&& 31)) = (1 : Int32) from by decide]) ?_
    show own_S p e below T32 (mkF m 111 #[vi p1, vi p2, vr b1, vr b20, vi (0 : Int32), vi (1 : Int32), vu] [xi (1 : Int32)]) _
    refine XS.iconst X32.here hx rfl (hb hby at_111) ?_
    show own_S p e below T32 (mkF m 112 #[vi p1, vi p2, vr b1, vr b20, vi (0 : Int32), vi (1 : Int32), vu] [xi (1 : Int32), xi (1 : Int32)]) _
    refine XS.iand X32.here hx rfl (hb hby at_112) rfl ?_
    show own_S p e below T32 (mkF m 113 #[vi p1, vi p2, vr b1, vr b20, vi (0 : Int32), vi (1 : Int32), vu] [xi ((1 : Int32) &&& (1 : Int32))]) _
    refine castTop (show (mkF m 113 #[vi p1, vi p2, vr b1, vr b20, vi (0 : Int32), vi (1 : Int32), vu] [xi ((1 : Int32) &&& (1 : Int32))]) = (mkF m 113 #[vi p1, vi p2, vr b1, vr b20, vi (0 : Int32), vi (1 : Int32), vu] [xi (1 : Int32)]) from by rw [show ((1 : Int32) &&& (1 : Int32)) = (1 : Int32) from by decide]) ?_
    show own_S p e below T32 (mkF m 113 #[vi p1, vi p2, vr b1, vr b20, vi (0 : Int32), vi (1 : Int32), vu] [xi (1 : Int32)]) _
    refine XS.ifNo X32.here hx rfl (hb hby at_113) rfl (by decide) ?_
    show own_S p e below T32 (mkF m 116 #[vi p1, vi p2, vr b1, vr b20, vi (0 : Int32), vi (1 : Int32), vu] []) _
    refine XS.iconst X32.here hx rfl (hb hby at_116) ?_
    show own_S p e below T32 (mkF m 117 #[vi p1, vi p2, vr b1, vr b20, vi (0 : Int32), vi (1 : Int32), vu] [xi (1 : Int32)]) _
    refine XS.goto X32.here hx rfl (pc0 := 117) (pc' := 121) rfl (hb hby at_117) (by decide) (by decide) ?_
    show own_S p e below T32 (mkF m 121 #[vi p1, vi p2, vr b1, vr b20, vi (0 : Int32), vi (1 : Int32), vu] [xi (1 : Int32)]) _
    refine XS.istore X32.here hx rfl (hb hby at_121) rfl (l' := #[vi p1, vi p2, vr b1, vr b20, vi (0 : Int32), vi (1 : Int32), vi (1 : Int32)]) rfl ?_
    show own_S p e below T32 (mkF m 123 #[vi p1, vi p2, vr b1, vr b20, vi (0 : Int32), vi (1 : Int32), vi (1 : Int32)] []) _
    refine XS.aloadN X32.here hx rfl (hb hby at_123) rfl rfl ?_
    show own_S p e below T32 (mkF m 124 #[vi p1, vi p2, vr b1, vr b20, vi (0 : Int32), vi (1 : Int32), vi (1 : Int32)] [xr b1]) _
    refine XS.iload X32.here hx rfl (hb hby at_124) rfl ?_
    show own_S p e below T32 (mkF m 126 #[vi p1, vi p2, vr b1, vr b20, vi (0 : Int32), vi (1 : Int32), vi (1 : Int32)] [xi (0 : Int32), xr b1]) _
    refine X32.aaload hx (j := (0 : Int32)) (v := (xr u0)) (by rw [e32]; exact Ar34.1) (State.isArrayOf_alike hZ.alike Ar34.2.1) rfl Ar34.2.2 hin34 hat34 (g := (mkF m 126 #[vi p1, vi p2, vr b1, vr b20, vi (0 : Int32), vi (1 : Int32), vi (1 : Int32)] [xi (0 : Int32), xr b1])) rfl rfl (hb hby at_126) _ ?_
    show own_S p e below T32 (mkF m 127 #[vi p1, vi p2, vr b1, vr b20, vi (0 : Int32), vi (1 : Int32), vi (1 : Int32)] [xr u0]) _
    refine XS.iloadN X32.here hx rfl (hb hby at_127) rfl ?_
    show own_S p e below T32 (mkF m 128 #[vi p1, vi p2, vr b1, vr b20, vi (0 : Int32), vi (1 : Int32), vi (1 : Int32)] [xi p2, xr u0]) _
    refine st35.trans ?_
    show own_S p e below T35 (mkF m 131 #[vi p1, vi p2, vr b1, vr b20, vi (0 : Int32), vi (1 : Int32), vi (1 : Int32)] [xi (1 : Int32)]) _
    refine XS.iload X35.here hx rfl (hb hby at_131) rfl ?_
    show own_S p e below T35 (mkF m 133 #[vi p1, vi p2, vr b1, vr b20, vi (0 : Int32), vi (1 : Int32), vi (1 : Int32)] [xi (1 : Int32), xi (1 : Int32)]) _
    refine XS.icmpNo X35.here hx rfl (hb hby at_133) rfl (by decide) ?_
    show own_S p e below T35 (mkF m 136 #[vi p1, vi p2, vr b1, vr b20, vi (0 : Int32), vi (1 : Int32), vi (1 : Int32)] []) _
    refine XS.iconst X35.here hx rfl (hb hby at_136) ?_
    show own_S p e below T35 (mkF m 137 #[vi p1, vi p2, vr b1, vr b20, vi (0 : Int32), vi (1 : Int32), vi (1 : Int32)] [xi (1 : Int32)]) _
    refine XS.goto X35.here hx rfl (pc0 := 137) (pc' := 141) rfl (hb hby at_137) (by decide) (by decide) ?_
    show own_S p e below T35 (mkF m 141 #[vi p1, vi p2, vr b1, vr b20, vi (0 : Int32), vi (1 : Int32), vi (1 : Int32)] [xi (1 : Int32)]) _
    exact retN X35 hx (t := .boolean) Bd.returns (by simp) (hb hby at_141) hr
  · exact ⟨rfl, N35⟩
theorem ef_own_l2 (m : MethodId) (u0 u1 u2 u3 u4 u5 : Addr) (p1 : Int32) (p2 : Int32) : entryFrame m #[xi p1, xi p2] maxLocals = (mkF m 0 #[vi p1, vi p2, vu, vu, vu, vu, vu] []) := by first | (simp [entryFrame, mkF, argsToLocals, Value.category, maxLocals]; done) | rfl
set_option maxRecDepth 65536 in
set_option maxHeartbeats 40000000 in
theorem own_l2 (l : Launch) (Z : State) (a0 : Array Value) (hw : ∀ d ∈ tables_1, d.before a0 Z = true) (u0 u1 u2 u3 u4 u5 : Addr) (G : own_St Z u0 u1 u2 u3 u4 u5) (p1 : Int32) (p2 : Int32) (as12 : ((p1 &&& (2147483647 : Int32)) - ((p1 &&& (2147483647 : Int32)) / (6 : Int32)) * (6 : Int32)) = (0 : Int32)) (as7 : ifCond.holds .ge p2 = true) (as3 : ifCond.holds .ne p2 = true) (h0 : Heap) (n0 : Nat) (O0 : Old Z n0 h0) : own_Met l Z x code maxLocals ret room_1 #[xi p1, xi p2] h0 (own_QL (some (xi (1 : Int32))) n0) := by
  intro ws
  refine MetFree.of_bodySF (plainFor_of_name pn2) hisR ?_
  intro p e s m args below meth c s₁ Bd hml0 hP hK
  obtain ⟨rfl, hZ, hh⟩ := hP
  have hx := Bd.exec
  have hby := Bd.bytes
  have hml : c.maxLocals = 7 := hml0
  have hown : s.vm.findClass "com/example/whyle/whyle/cfa/RelationHoldsPinLaw" = some m.cls := findClass_of_methodNamed Bd.named
  have hnm := (name_of_methodNamed Bd.named Bd.method).1
  have X0 : Stand p l e room_1 s m #[xi p1, xi p2] below meth c s₁ [] 0 0 := Stand.of_body Bd
  have e0 : s₁.heap = h0 := by rw [← hh, Bd.state]; rfl
  have N0 := Fr.nil n0
  have pre0 : ∀ t, Steps p.tables e below (s₁.setTop (mkF m 0 #[vi p1, vi p2, vu, vu, vu, vu, vu] [])) t → Steps p.tables e below (s₁.setTop (entryFrame m #[xi p1, xi p2] maxLocals)) t := fun t st => castTop (ef_own_l2 m u0 u1 u2 u3 u4 u5 p1 p2) st
  obtain ⟨T1, h1, k1, X1, e1, E1, A1, Ov1, st1⟩ := newR X0 hx hZ hown (ww hw 0 rfl) (ww hw 1 rfl) e0 (g := (mkF m 2 #[vi p1, vi p2, vu, vu, vu, vu, vu] [xi (6 : Int32)])) rfl (hb hby at_2) rfl (by decide) (cap := 6) (by decide) (by decide) (by decide) (by decide)
  obtain ⟨b1, g1⟩ : ∃ z, z = h0.size := ⟨_, rfl⟩
  rw [← g1] at A1 st1
  have g_b1 : n0 ≤ b1 := own_fresh O0 g1
  have O1 : Old Z n0 h1 := O0.ext E1
  have V_b1 : Arv Z h1 b1 k1 (.object "com/example/whyle/whyle/cfa/Relation") (6 : Int32) [.null, .null, .null, .null, .null, .null] .null := (Arv.new A1 (by decide)).pad (pad_rep [] .null 6)
  obtain ⟨T2, X2, e2, st2⟩ := getS2 X1 hx hZ hown (host := "") (Or.inl (ww hw 2 rfl)) Via.refl e1 ((own_S_u0 G).ext O1.2) (g := (mkF m 7 #[vi p1, vi p2, vu, vu, vu, vu, vu] [xi (0 : Int32), xr b1, xr b1])) rfl (hb hby at_7)
  obtain ⟨cl3, Ar3, q3, S3, N3_, H3, G3⟩ := V_b1
  have hin3 : ¬ ((0 : Int32) < 0 ∨ cl3.slots.size ≤ ((0 : Int32)).toNatClampNeg) := inb_of S3 ⟨by decide, by decide⟩
  obtain ⟨T4, h4, X4, e4, W4, st4⟩ := stR X2 hx hZ e2 Ar3 (j := (0 : Int32)) hin3 rfl (Sto.ofV Ar3 q3 Ov1 (Ins.self ((own_X_u0 G).ext O1.2))) (g := (mkF m 10 #[vi p1, vi p2, vu, vu, vu, vu, vu] [xr u0, xi (0 : Int32), xr b1, xr b1])) rfl rfl (hb hby at_10)
  have V_b1_4 : Arv Z h4 b1 k1 (.object "com/example/whyle/whyle/cfa/Relation") (6 : Int32) [xr u0, .null, .null, .null, .null, .null] .null := Arv.set Ar3 q3 S3 N3_ H3 G3 rfl W4 0 rfl (Nat.le_of_ble_eq_true rfl)
  have O4 : Old Z n0 h4 := O1.wr W4 g_b1
  have N4 := Fr.snoc X4 N0 g_b1
  obtain ⟨T5, X5, e5, st5⟩ := getS2 X4 hx hZ hown (host := "") (Or.inl (ww hw 6 rfl)) Via.refl e4 ((own_S_u1 G).ext O4.2) (g := (mkF m 13 #[vi p1, vi p2, vu, vu, vu, vu, vu] [xi (1 : Int32), xr b1, xr b1])) rfl (hb hby at_13)
  obtain ⟨cl6, Ar6, q6, S6, N6_, H6, G6⟩ := V_b1_4
  have hin6 : ¬ ((1 : Int32) < 0 ∨ cl6.slots.size ≤ ((1 : Int32)).toNatClampNeg) := inb_of S6 ⟨by decide, by decide⟩
  obtain ⟨T7, h7, X7, e7, W7, st7⟩ := stR X5 hx hZ e5 Ar6 (j := (1 : Int32)) hin6 rfl (Sto.ofV Ar6 q6 Ov1 (Ins.self ((own_X_u1 G).ext O4.2))) (g := (mkF m 16 #[vi p1, vi p2, vu, vu, vu, vu, vu] [xr u1, xi (1 : Int32), xr b1, xr b1])) rfl rfl (hb hby at_16)
  have V_b1_7 : Arv Z h7 b1 k1 (.object "com/example/whyle/whyle/cfa/Relation") (6 : Int32) [xr u0, xr u1, .null, .null, .null, .null] .null := Arv.set Ar6 q6 S6 N6_ H6 G6 rfl W7 1 rfl (Nat.le_of_ble_eq_true rfl)
  have O7 : Old Z n0 h7 := O4.wr W7 g_b1
  have N7 := Fr.snoc X7 N4 g_b1
  obtain ⟨T8, X8, e8, st8⟩ := getS2 X7 hx hZ hown (host := "") (Or.inl (ww hw 8 rfl)) Via.refl e7 ((own_S_u2 G).ext O7.2) (g := (mkF m 19 #[vi p1, vi p2, vu, vu, vu, vu, vu] [xi (2 : Int32), xr b1, xr b1])) rfl (hb hby at_19)
  obtain ⟨cl9, Ar9, q9, S9, N9_, H9, G9⟩ := V_b1_7
  have hin9 : ¬ ((2 : Int32) < 0 ∨ cl9.slots.size ≤ ((2 : Int32)).toNatClampNeg) := inb_of S9 ⟨by decide, by decide⟩
  obtain ⟨T10, h10, X10, e10, W10, st10⟩ := stR X8 hx hZ e8 Ar9 (j := (2 : Int32)) hin9 rfl (Sto.ofV Ar9 q9 Ov1 (Ins.self ((own_X_u2 G).ext O7.2))) (g := (mkF m 22 #[vi p1, vi p2, vu, vu, vu, vu, vu] [xr u2, xi (2 : Int32), xr b1, xr b1])) rfl rfl (hb hby at_22)
  have V_b1_10 : Arv Z h10 b1 k1 (.object "com/example/whyle/whyle/cfa/Relation") (6 : Int32) [xr u0, xr u1, xr u2, .null, .null, .null] .null := Arv.set Ar9 q9 S9 N9_ H9 G9 rfl W10 2 rfl (Nat.le_of_ble_eq_true rfl)
  have O10 : Old Z n0 h10 := O7.wr W10 g_b1
  have N10 := Fr.snoc X10 N7 g_b1
  obtain ⟨T11, X11, e11, st11⟩ := getS2 X10 hx hZ hown (host := "") (Or.inl (ww hw 10 rfl)) Via.refl e10 ((own_S_u3 G).ext O10.2) (g := (mkF m 25 #[vi p1, vi p2, vu, vu, vu, vu, vu] [xi (3 : Int32), xr b1, xr b1])) rfl (hb hby at_25)
  obtain ⟨cl12, Ar12, q12, S12, N12_, H12, G12⟩ := V_b1_10
  have hin12 : ¬ ((3 : Int32) < 0 ∨ cl12.slots.size ≤ ((3 : Int32)).toNatClampNeg) := inb_of S12 ⟨by decide, by decide⟩
  obtain ⟨T13, h13, X13, e13, W13, st13⟩ := stR X11 hx hZ e11 Ar12 (j := (3 : Int32)) hin12 rfl (Sto.ofV Ar12 q12 Ov1 (Ins.self ((own_X_u3 G).ext O10.2))) (g := (mkF m 28 #[vi p1, vi p2, vu, vu, vu, vu, vu] [xr u3, xi (3 : Int32), xr b1, xr b1])) rfl rfl (hb hby at_28)
  have V_b1_13 : Arv Z h13 b1 k1 (.object "com/example/whyle/whyle/cfa/Relation") (6 : Int32) [xr u0, xr u1, xr u2, xr u3, .null, .null] .null := Arv.set Ar12 q12 S12 N12_ H12 G12 rfl W13 3 rfl (Nat.le_of_ble_eq_true rfl)
  have O13 : Old Z n0 h13 := O10.wr W13 g_b1
  have N13 := Fr.snoc X13 N10 g_b1
  obtain ⟨T14, X14, e14, st14⟩ := getS2 X13 hx hZ hown (host := "") (Or.inl (ww hw 12 rfl)) Via.refl e13 ((own_S_u4 G).ext O13.2) (g := (mkF m 31 #[vi p1, vi p2, vu, vu, vu, vu, vu] [xi (4 : Int32), xr b1, xr b1])) rfl (hb hby at_31)
  obtain ⟨cl15, Ar15, q15, S15, N15_, H15, G15⟩ := V_b1_13
  have hin15 : ¬ ((4 : Int32) < 0 ∨ cl15.slots.size ≤ ((4 : Int32)).toNatClampNeg) := inb_of S15 ⟨by decide, by decide⟩
  obtain ⟨T16, h16, X16, e16, W16, st16⟩ := stR X14 hx hZ e14 Ar15 (j := (4 : Int32)) hin15 rfl (Sto.ofV Ar15 q15 Ov1 (Ins.self ((own_X_u4 G).ext O13.2))) (g := (mkF m 34 #[vi p1, vi p2, vu, vu, vu, vu, vu] [xr u4, xi (4 : Int32), xr b1, xr b1])) rfl rfl (hb hby at_34)
  have V_b1_16 : Arv Z h16 b1 k1 (.object "com/example/whyle/whyle/cfa/Relation") (6 : Int32) [xr u0, xr u1, xr u2, xr u3, xr u4, .null] .null := Arv.set Ar15 q15 S15 N15_ H15 G15 rfl W16 4 rfl (Nat.le_of_ble_eq_true rfl)
  have O16 : Old Z n0 h16 := O13.wr W16 g_b1
  have N16 := Fr.snoc X16 N13 g_b1
  obtain ⟨T17, X17, e17, st17⟩ := getS2 X16 hx hZ hown (host := "") (Or.inl (ww hw 14 rfl)) Via.refl e16 ((own_S_u5 G).ext O16.2) (g := (mkF m 37 #[vi p1, vi p2, vu, vu, vu, vu, vu] [xi (5 : Int32), xr b1, xr b1])) rfl (hb hby at_37)
  obtain ⟨cl18, Ar18, q18, S18, N18_, H18, G18⟩ := V_b1_16
  have hin18 : ¬ ((5 : Int32) < 0 ∨ cl18.slots.size ≤ ((5 : Int32)).toNatClampNeg) := inb_of S18 ⟨by decide, by decide⟩
  obtain ⟨T19, h19, X19, e19, W19, st19⟩ := stR X17 hx hZ e17 Ar18 (j := (5 : Int32)) hin18 rfl (Sto.ofV Ar18 q18 Ov1 (Ins.self ((own_X_u5 G).ext O16.2))) (g := (mkF m 40 #[vi p1, vi p2, vu, vu, vu, vu, vu] [xr u5, xi (5 : Int32), xr b1, xr b1])) rfl rfl (hb hby at_40)
  have V_b1_19 : Arv Z h19 b1 k1 (.object "com/example/whyle/whyle/cfa/Relation") (6 : Int32) [xr u0, xr u1, xr u2, xr u3, xr u4, xr u5] .null := Arv.set Ar18 q18 S18 N18_ H18 G18 rfl W19 5 rfl (Nat.le_of_ble_eq_true rfl)
  have O19 : Old Z n0 h19 := O16.wr W19 g_b1
  have N19 := Fr.snoc X19 N16 g_b1
  obtain ⟨T20, h20, k20, X20, e20, E20, A20, st20⟩ := newP X19 hx hZ (ww hw 16 rfl) e19 (g := (mkF m 44 #[vi p1, vi p2, vr b1, vu, vu, vu, vu] [xi (6 : Int32)])) rfl (hb hby at_44) rfl (by decide) (cap := 6) (by decide) (by decide) (by decide) (by decide)
  obtain ⟨b20, g20⟩ : ∃ z, z = h19.size := ⟨_, rfl⟩
  rw [← g20] at A20 st20
  have g_b20 : n0 ≤ b20 := own_fresh O19 g20
  have ne_b1_b20 : b1 ≠ b20 := Nat.ne_of_lt (Nat.lt_of_lt_of_le (V_b1_19).lt (Nat.le_of_eq g20.symm))
  have O20 : Old Z n0 h20 := O19.ext E20
  have V_b1_20 := V_b1_19.ext E20
  have V_b20 : Arv Z h20 b20 k20 .int (6 : Int32) [(.int (0 : Int32)), (.int (0 : Int32)), (.int (0 : Int32)), (.int (0 : Int32)), (.int (0 : Int32)), (.int (0 : Int32))] (.int (0 : Int32)) := (Arv.new A20 (by decide)).pad (pad_rep [] (.int (0 : Int32)) 6)
  obtain ⟨cl21, Ar21, q21, S21, N21_, H21, G21⟩ := V_b20
  have hin21 : ¬ ((0 : Int32) < 0 ∨ cl21.slots.size ≤ ((0 : Int32)).toNatClampNeg) := inb_of S21 ⟨by decide, by decide⟩
  obtain ⟨T22, h22, X22, e22, W22, st22⟩ := stI X20 hx hZ e20 Ar21 (j := (0 : Int32)) hin21 (g := (mkF m 49 #[vi p1, vi p2, vr b1, vu, vu, vu, vu] [xi (2 : Int32), xi (0 : Int32), xr b20, xr b20])) rfl rfl (hb hby at_49)
  have V_b20_22 : Arv Z h22 b20 k20 .int (6 : Int32) [xi (2 : Int32), xi (0 : Int32), xi (0 : Int32), xi (0 : Int32), xi (0 : Int32), xi (0 : Int32)] (.int (0 : Int32)) := Arv.set Ar21 q21 S21 N21_ H21 G21 rfl W22 0 rfl (Nat.le_of_ble_eq_true rfl)
  have O22 : Old Z n0 h22 := O20.wr W22 g_b20
  have V_b1_22 := V_b1_20.other W22 ne_b1_b20
  have N22 := Fr.snoc X22 N19 g_b20
  obtain ⟨cl23, Ar23, q23, S23, N23_, H23, G23⟩ := V_b20_22
  have hin23 : ¬ ((1 : Int32) < 0 ∨ cl23.slots.size ≤ ((1 : Int32)).toNatClampNeg) := inb_of S23 ⟨by decide, by decide⟩
  obtain ⟨T24, h24, X24, e24, W24, st24⟩ := stI X22 hx hZ e22 Ar23 (j := (1 : Int32)) hin23 (g := (mkF m 53 #[vi p1, vi p2, vr b1, vu, vu, vu, vu] [xi (5 : Int32), xi (1 : Int32), xr b20, xr b20])) rfl rfl (hb hby at_53)
  have V_b20_24 : Arv Z h24 b20 k20 .int (6 : Int32) [xi (2 : Int32), xi (5 : Int32), xi (0 : Int32), xi (0 : Int32), xi (0 : Int32), xi (0 : Int32)] (.int (0 : Int32)) := Arv.set Ar23 q23 S23 N23_ H23 G23 rfl W24 1 rfl (Nat.le_of_ble_eq_true rfl)
  have O24 : Old Z n0 h24 := O22.wr W24 g_b20
  have V_b1_24 := V_b1_22.other W24 ne_b1_b20
  have N24 := Fr.snoc X24 N22 g_b20
  obtain ⟨cl25, Ar25, q25, S25, N25_, H25, G25⟩ := V_b20_24
  have hin25 : ¬ ((2 : Int32) < 0 ∨ cl25.slots.size ≤ ((2 : Int32)).toNatClampNeg) := inb_of S25 ⟨by decide, by decide⟩
  obtain ⟨T26, h26, X26, e26, W26, st26⟩ := stI X24 hx hZ e24 Ar25 (j := (2 : Int32)) hin25 (g := (mkF m 57 #[vi p1, vi p2, vr b1, vu, vu, vu, vu] [xi (1 : Int32), xi (2 : Int32), xr b20, xr b20])) rfl rfl (hb hby at_57)
  have V_b20_26 : Arv Z h26 b20 k20 .int (6 : Int32) [xi (2 : Int32), xi (5 : Int32), xi (1 : Int32), xi (0 : Int32), xi (0 : Int32), xi (0 : Int32)] (.int (0 : Int32)) := Arv.set Ar25 q25 S25 N25_ H25 G25 rfl W26 2 rfl (Nat.le_of_ble_eq_true rfl)
  have O26 : Old Z n0 h26 := O24.wr W26 g_b20
  have V_b1_26 := V_b1_24.other W26 ne_b1_b20
  have N26 := Fr.snoc X26 N24 g_b20
  obtain ⟨cl27, Ar27, q27, S27, N27_, H27, G27⟩ := V_b20_26
  have hin27 : ¬ ((3 : Int32) < 0 ∨ cl27.slots.size ≤ ((3 : Int32)).toNatClampNeg) := inb_of S27 ⟨by decide, by decide⟩
  obtain ⟨T28, h28, X28, e28, W28, st28⟩ := stI X26 hx hZ e26 Ar27 (j := (3 : Int32)) hin27 (g := (mkF m 61 #[vi p1, vi p2, vr b1, vu, vu, vu, vu] [xi (3 : Int32), xi (3 : Int32), xr b20, xr b20])) rfl rfl (hb hby at_61)
  have V_b20_28 : Arv Z h28 b20 k20 .int (6 : Int32) [xi (2 : Int32), xi (5 : Int32), xi (1 : Int32), xi (3 : Int32), xi (0 : Int32), xi (0 : Int32)] (.int (0 : Int32)) := Arv.set Ar27 q27 S27 N27_ H27 G27 rfl W28 3 rfl (Nat.le_of_ble_eq_true rfl)
  have O28 : Old Z n0 h28 := O26.wr W28 g_b20
  have V_b1_28 := V_b1_26.other W28 ne_b1_b20
  have N28 := Fr.snoc X28 N26 g_b20
  obtain ⟨cl29, Ar29, q29, S29, N29_, H29, G29⟩ := V_b20_28
  have hin29 : ¬ ((4 : Int32) < 0 ∨ cl29.slots.size ≤ ((4 : Int32)).toNatClampNeg) := inb_of S29 ⟨by decide, by decide⟩
  obtain ⟨T30, h30, X30, e30, W30, st30⟩ := stI X28 hx hZ e28 Ar29 (j := (4 : Int32)) hin29 (g := (mkF m 65 #[vi p1, vi p2, vr b1, vu, vu, vu, vu] [xi (4 : Int32), xi (4 : Int32), xr b20, xr b20])) rfl rfl (hb hby at_65)
  have V_b20_30 : Arv Z h30 b20 k20 .int (6 : Int32) [xi (2 : Int32), xi (5 : Int32), xi (1 : Int32), xi (3 : Int32), xi (4 : Int32), xi (0 : Int32)] (.int (0 : Int32)) := Arv.set Ar29 q29 S29 N29_ H29 G29 rfl W30 4 rfl (Nat.le_of_ble_eq_true rfl)
  have O30 : Old Z n0 h30 := O28.wr W30 g_b20
  have V_b1_30 := V_b1_28.other W30 ne_b1_b20
  have N30 := Fr.snoc X30 N28 g_b20
  obtain ⟨cl31, Ar31, q31, S31, N31_, H31, G31⟩ := V_b20_30
  have hin31 : ¬ ((5 : Int32) < 0 ∨ cl31.slots.size ≤ ((5 : Int32)).toNatClampNeg) := inb_of S31 ⟨by decide, by decide⟩
  obtain ⟨T32, h32, X32, e32, W32, st32⟩ := stI X30 hx hZ e30 Ar31 (j := (5 : Int32)) hin31 (g := (mkF m 70 #[vi p1, vi p2, vr b1, vu, vu, vu, vu] [xi (6 : Int32), xi (5 : Int32), xr b20, xr b20])) rfl rfl (hb hby at_70)
  have V_b20_32 : Arv Z h32 b20 k20 .int (6 : Int32) [xi (2 : Int32), xi (5 : Int32), xi (1 : Int32), xi (3 : Int32), xi (4 : Int32), xi (6 : Int32)] (.int (0 : Int32)) := Arv.set Ar31 q31 S31 N31_ H31 G31 rfl W32 5 rfl (Nat.le_of_ble_eq_true rfl)
  have O32 : Old Z n0 h32 := O30.wr W32 g_b20
  have V_b1_32 := V_b1_30.other W32 ne_b1_b20
  have N32 := Fr.snoc X32 N30 g_b20
  obtain ⟨cl33, Ar33, q33, S33, N33_, H33, G33⟩ := V_b20_32
  have hin33 : ¬ ((0 : Int32) < 0 ∨ cl33.slots.size ≤ ((0 : Int32)).toNatClampNeg) := inb_of S33 ⟨by decide, by decide⟩
  have hat33 : cl33.slots[((0 : Int32)).toNatClampNeg]? = some (xi (2 : Int32)) := Has.at H33 hin33 rfl
  obtain ⟨cl34, Ar34, q34, S34, N34_, H34, G34⟩ := V_b1_32
  have hin34 : ¬ ((0 : Int32) < 0 ∨ cl34.slots.size ≤ ((0 : Int32)).toNatClampNeg) := inb_of S34 ⟨by decide, by decide⟩
  have hat34 : cl34.slots[((0 : Int32)).toNatClampNeg]? = some (xr u0) := Has.at H34 hin34 rfl
  obtain ⟨cq35, kq35, qa35, qb35, qc35⟩ := isOf hZ e32 ((own_X_u0 G).ext O32.2)
  obtain ⟨_, _, ⟨T35, L35, k35, n35⟩, -, X35, ⟨Lc35, hQ35, l35, y35, z35⟩, st35⟩ := X32.virtualBack hx (y := Y2) (z := Y2) hown (mvT hZ (ww hw 18 rfl)) (mvT hZ (ww hw 19 rfl)) (notFace_of_selects (args := #[]) (mvT hZ (ww hw 21 rfl))) (mvT hZ (ww hw 21 rfl)) (mvT hZ (ww hw 20 rfl)) (by decide) (backOf (W := 0) (own_c0_holds l Z a0 hw u0 u1 u2 u3 u4 u5 G p2 as3 h32 n0 O32 []) hZ (ww hw 22 rfl) (ww hw 3 rfl) (by decide) (by decide)) qa35 qc35 (g := (mkF m 128 #[vi p1, vi p2, vr b1, vr b20, vi (0 : Int32), vi (2 : Int32), vi (0 : Int32)] [xi p2, xr u0])) rfl (by rw [hml]; rfl) (Steps.refl _) (argsL := [xi p2]) (rest := []) (lenOf pd1 rfl) rfl (by show 2 * 0 + _ ≤ _; exact Nat.le_of_eq rfl) (hb hby at_128) (fun _ _ => ⟨rfl, e32, (by decide : 2 + 0 ≤ _), (by decide : 12 + 0 ≤ _)⟩)
  dsimp only [Pt.U, Pt.locs, Pt.cells, Pt.slots] at X35 l35 y35 z35 st35 hQ35
  subst l35 y35 z35
  obtain ⟨rfl, Nq35, e35⟩ := hQ35
  have N35 := Fr.app N32 Nq35
  obtain ⟨fs, hr, hrun, hended, hW, hsame⟩ := X35.leave (v := some (xi (1 : Int32))) (fun h => by rw [Bd.returns] at h; cases h)
  refine ⟨_, _, pre0 _ ?_, hrun, hended, _, _, rfl, ?_, ⟨_, rfl⟩, hW, hsame.mono (by decide) (by decide)⟩
  · show own_S p e below s₁ (mkF m 0 #[vi p1, vi p2, vu, vu, vu, vu, vu] []) _
    refine XS.bipush X0.here hx rfl (hb hby at_0) ?_
    show own_S p e below s₁ (mkF m 2 #[vi p1, vi p2, vu, vu, vu, vu, vu] [xi (6 : Int32)]) _
    refine st1 _ ?_
    show own_S p e below T1 (mkF m 5 #[vi p1, vi p2, vu, vu, vu, vu, vu] [xr b1]) _
    refine XS.dup X1.here hx rfl (hb hby at_5) rfl rfl ?_
    show own_S p e below T1 (mkF m 6 #[vi p1, vi p2, vu, vu, vu, vu, vu] [xr b1, xr b1]) _
    refine XS.iconst X1.here hx rfl (hb hby at_6) ?_
    show own_S p e below T1 (mkF m 7 #[vi p1, vi p2, vu, vu, vu, vu, vu] [xi (0 : Int32), xr b1, xr b1]) _
    refine st2 _ ?_
    show own_S p e below T2 (mkF m 10 #[vi p1, vi p2, vu, vu, vu, vu, vu] [xr u0, xi (0 : Int32), xr b1, xr b1]) _
    refine st4 _ ?_
    show own_S p e below T4 (mkF m 11 #[vi p1, vi p2, vu, vu, vu, vu, vu] [xr b1]) _
    refine XS.dup X4.here hx rfl (hb hby at_11) rfl rfl ?_
    show own_S p e below T4 (mkF m 12 #[vi p1, vi p2, vu, vu, vu, vu, vu] [xr b1, xr b1]) _
    refine XS.iconst X4.here hx rfl (hb hby at_12) ?_
    show own_S p e below T4 (mkF m 13 #[vi p1, vi p2, vu, vu, vu, vu, vu] [xi (1 : Int32), xr b1, xr b1]) _
    refine st5 _ ?_
    show own_S p e below T5 (mkF m 16 #[vi p1, vi p2, vu, vu, vu, vu, vu] [xr u1, xi (1 : Int32), xr b1, xr b1]) _
    refine st7 _ ?_
    show own_S p e below T7 (mkF m 17 #[vi p1, vi p2, vu, vu, vu, vu, vu] [xr b1]) _
    refine XS.dup X7.here hx rfl (hb hby at_17) rfl rfl ?_
    show own_S p e below T7 (mkF m 18 #[vi p1, vi p2, vu, vu, vu, vu, vu] [xr b1, xr b1]) _
    refine XS.iconst X7.here hx rfl (hb hby at_18) ?_
    show own_S p e below T7 (mkF m 19 #[vi p1, vi p2, vu, vu, vu, vu, vu] [xi (2 : Int32), xr b1, xr b1]) _
    refine st8 _ ?_
    show own_S p e below T8 (mkF m 22 #[vi p1, vi p2, vu, vu, vu, vu, vu] [xr u2, xi (2 : Int32), xr b1, xr b1]) _
    refine st10 _ ?_
    show own_S p e below T10 (mkF m 23 #[vi p1, vi p2, vu, vu, vu, vu, vu] [xr b1]) _
    refine XS.dup X10.here hx rfl (hb hby at_23) rfl rfl ?_
    show own_S p e below T10 (mkF m 24 #[vi p1, vi p2, vu, vu, vu, vu, vu] [xr b1, xr b1]) _
    refine XS.iconst X10.here hx rfl (hb hby at_24) ?_
    show own_S p e below T10 (mkF m 25 #[vi p1, vi p2, vu, vu, vu, vu, vu] [xi (3 : Int32), xr b1, xr b1]) _
    refine st11 _ ?_
    show own_S p e below T11 (mkF m 28 #[vi p1, vi p2, vu, vu, vu, vu, vu] [xr u3, xi (3 : Int32), xr b1, xr b1]) _
    refine st13 _ ?_
    show own_S p e below T13 (mkF m 29 #[vi p1, vi p2, vu, vu, vu, vu, vu] [xr b1]) _
    refine XS.dup X13.here hx rfl (hb hby at_29) rfl rfl ?_
    show own_S p e below T13 (mkF m 30 #[vi p1, vi p2, vu, vu, vu, vu, vu] [xr b1, xr b1]) _
    refine XS.iconst X13.here hx rfl (hb hby at_30) ?_
    show own_S p e below T13 (mkF m 31 #[vi p1, vi p2, vu, vu, vu, vu, vu] [xi (4 : Int32), xr b1, xr b1]) _
    refine st14 _ ?_
    show own_S p e below T14 (mkF m 34 #[vi p1, vi p2, vu, vu, vu, vu, vu] [xr u4, xi (4 : Int32), xr b1, xr b1]) _
    refine st16 _ ?_
    show own_S p e below T16 (mkF m 35 #[vi p1, vi p2, vu, vu, vu, vu, vu] [xr b1]) _
    refine XS.dup X16.here hx rfl (hb hby at_35) rfl rfl ?_
    show own_S p e below T16 (mkF m 36 #[vi p1, vi p2, vu, vu, vu, vu, vu] [xr b1, xr b1]) _
    refine XS.iconst X16.here hx rfl (hb hby at_36) ?_
    show own_S p e below T16 (mkF m 37 #[vi p1, vi p2, vu, vu, vu, vu, vu] [xi (5 : Int32), xr b1, xr b1]) _
    refine st17 _ ?_
    show own_S p e below T17 (mkF m 40 #[vi p1, vi p2, vu, vu, vu, vu, vu] [xr u5, xi (5 : Int32), xr b1, xr b1]) _
    refine st19 _ ?_
    show own_S p e below T19 (mkF m 41 #[vi p1, vi p2, vu, vu, vu, vu, vu] [xr b1]) _
    refine XS.astoreN X19.here hx rfl (hb hby at_41) rfl rfl (l' := #[vi p1, vi p2, vr b1, vu, vu, vu, vu]) rfl ?_
    show own_S p e below T19 (mkF m 42 #[vi p1, vi p2, vr b1, vu, vu, vu, vu] []) _
    refine XS.bipush X19.here hx rfl (hb hby at_42) ?_
    show own_S p e below T19 (mkF m 44 #[vi p1, vi p2, vr b1, vu, vu, vu, vu] [xi (6 : Int32)]) _
    refine st20 _ ?_
    show own_S p e below T20 (mkF m 46 #[vi p1, vi p2, vr b1, vu, vu, vu, vu] [xr b20]) _
    refine XS.dup X20.here hx rfl (hb hby at_46) rfl rfl ?_
    show own_S p e below T20 (mkF m 47 #[vi p1, vi p2, vr b1, vu, vu, vu, vu] [xr b20, xr b20]) _
    refine XS.iconst X20.here hx rfl (hb hby at_47) ?_
    show own_S p e below T20 (mkF m 48 #[vi p1, vi p2, vr b1, vu, vu, vu, vu] [xi (0 : Int32), xr b20, xr b20]) _
    refine XS.iconst X20.here hx rfl (hb hby at_48) ?_
    show own_S p e below T20 (mkF m 49 #[vi p1, vi p2, vr b1, vu, vu, vu, vu] [xi (2 : Int32), xi (0 : Int32), xr b20, xr b20]) _
    refine st22 _ ?_
    show own_S p e below T22 (mkF m 50 #[vi p1, vi p2, vr b1, vu, vu, vu, vu] [xr b20]) _
    refine XS.dup X22.here hx rfl (hb hby at_50) rfl rfl ?_
    show own_S p e below T22 (mkF m 51 #[vi p1, vi p2, vr b1, vu, vu, vu, vu] [xr b20, xr b20]) _
    refine XS.iconst X22.here hx rfl (hb hby at_51) ?_
    show own_S p e below T22 (mkF m 52 #[vi p1, vi p2, vr b1, vu, vu, vu, vu] [xi (1 : Int32), xr b20, xr b20]) _
    refine XS.iconst X22.here hx rfl (hb hby at_52) ?_
    show own_S p e below T22 (mkF m 53 #[vi p1, vi p2, vr b1, vu, vu, vu, vu] [xi (5 : Int32), xi (1 : Int32), xr b20, xr b20]) _
    refine st24 _ ?_
    show own_S p e below T24 (mkF m 54 #[vi p1, vi p2, vr b1, vu, vu, vu, vu] [xr b20]) _
    refine XS.dup X24.here hx rfl (hb hby at_54) rfl rfl ?_
    show own_S p e below T24 (mkF m 55 #[vi p1, vi p2, vr b1, vu, vu, vu, vu] [xr b20, xr b20]) _
    refine XS.iconst X24.here hx rfl (hb hby at_55) ?_
    show own_S p e below T24 (mkF m 56 #[vi p1, vi p2, vr b1, vu, vu, vu, vu] [xi (2 : Int32), xr b20, xr b20]) _
    refine XS.iconst X24.here hx rfl (hb hby at_56) ?_
    show own_S p e below T24 (mkF m 57 #[vi p1, vi p2, vr b1, vu, vu, vu, vu] [xi (1 : Int32), xi (2 : Int32), xr b20, xr b20]) _
    refine st26 _ ?_
    show own_S p e below T26 (mkF m 58 #[vi p1, vi p2, vr b1, vu, vu, vu, vu] [xr b20]) _
    refine XS.dup X26.here hx rfl (hb hby at_58) rfl rfl ?_
    show own_S p e below T26 (mkF m 59 #[vi p1, vi p2, vr b1, vu, vu, vu, vu] [xr b20, xr b20]) _
    refine XS.iconst X26.here hx rfl (hb hby at_59) ?_
    show own_S p e below T26 (mkF m 60 #[vi p1, vi p2, vr b1, vu, vu, vu, vu] [xi (3 : Int32), xr b20, xr b20]) _
    refine XS.iconst X26.here hx rfl (hb hby at_60) ?_
    show own_S p e below T26 (mkF m 61 #[vi p1, vi p2, vr b1, vu, vu, vu, vu] [xi (3 : Int32), xi (3 : Int32), xr b20, xr b20]) _
    refine st28 _ ?_
    show own_S p e below T28 (mkF m 62 #[vi p1, vi p2, vr b1, vu, vu, vu, vu] [xr b20]) _
    refine XS.dup X28.here hx rfl (hb hby at_62) rfl rfl ?_
    show own_S p e below T28 (mkF m 63 #[vi p1, vi p2, vr b1, vu, vu, vu, vu] [xr b20, xr b20]) _
    refine XS.iconst X28.here hx rfl (hb hby at_63) ?_
    show own_S p e below T28 (mkF m 64 #[vi p1, vi p2, vr b1, vu, vu, vu, vu] [xi (4 : Int32), xr b20, xr b20]) _
    refine XS.iconst X28.here hx rfl (hb hby at_64) ?_
    show own_S p e below T28 (mkF m 65 #[vi p1, vi p2, vr b1, vu, vu, vu, vu] [xi (4 : Int32), xi (4 : Int32), xr b20, xr b20]) _
    refine st30 _ ?_
    show own_S p e below T30 (mkF m 66 #[vi p1, vi p2, vr b1, vu, vu, vu, vu] [xr b20]) _
    refine XS.dup X30.here hx rfl (hb hby at_66) rfl rfl ?_
    show own_S p e below T30 (mkF m 67 #[vi p1, vi p2, vr b1, vu, vu, vu, vu] [xr b20, xr b20]) _
    refine XS.iconst X30.here hx rfl (hb hby at_67) ?_
    show own_S p e below T30 (mkF m 68 #[vi p1, vi p2, vr b1, vu, vu, vu, vu] [xi (5 : Int32), xr b20, xr b20]) _
    refine XS.bipush X30.here hx rfl (hb hby at_68) ?_
    show own_S p e below T30 (mkF m 70 #[vi p1, vi p2, vr b1, vu, vu, vu, vu] [xi (6 : Int32), xi (5 : Int32), xr b20, xr b20]) _
    refine st32 _ ?_
    show own_S p e below T32 (mkF m 71 #[vi p1, vi p2, vr b1, vu, vu, vu, vu] [xr b20]) _
    refine XS.astoreN X32.here hx rfl (hb hby at_71) rfl rfl (l' := #[vi p1, vi p2, vr b1, vr b20, vu, vu, vu]) rfl ?_
    show own_S p e below T32 (mkF m 72 #[vi p1, vi p2, vr b1, vr b20, vu, vu, vu] []) _
    refine XS.iloadN X32.here hx rfl (hb hby at_72) rfl ?_
    show own_S p e below T32 (mkF m 73 #[vi p1, vi p2, vr b1, vr b20, vu, vu, vu] [xi p1]) _
    refine X32.ldcI hx hown (mvT hZ (ww hw 17 rfl)) (g := (mkF m 73 #[vi p1, vi p2, vr b1, vr b20, vu, vu, vu] [xi p1])) rfl (hb hby at_73) ?_
    show own_S p e below T32 (mkF m 75 #[vi p1, vi p2, vr b1, vr b20, vu, vu, vu] [xi (2147483647 : Int32), xi p1]) _
    refine XS.iand X32.here hx rfl (hb hby at_75) rfl ?_
    show own_S p e below T32 (mkF m 76 #[vi p1, vi p2, vr b1, vr b20, vu, vu, vu] [xi (p1 &&& (2147483647 : Int32))]) _
    show own_S p e below T32 (mkF m 76 #[vi p1, vi p2, vr b1, vr b20, vu, vu, vu] [xi (p1 &&& (2147483647 : Int32))]) _
    refine XS.bipush X32.here hx rfl (hb hby at_76) ?_
    show own_S p e below T32 (mkF m 78 #[vi p1, vi p2, vr b1, vr b20, vu, vu, vu] [xi (6 : Int32), xi (p1 &&& (2147483647 : Int32))]) _
    refine XS.irem X32.here hx rfl (hb hby at_78) rfl (by decide) ?_
    show own_S p e below T32 (mkF m 79 #[vi p1, vi p2, vr b1, vr b20, vu, vu, vu] [xi ((p1 &&& (2147483647 : Int32)) - ((p1 &&& (2147483647 : Int32)) / (6 : Int32)) * (6 : Int32))]) _
    refine castTop (show (mkF m 79 #[vi p1, vi p2, vr b1, vr b20, vu, vu, vu] [xi ((p1 &&& (2147483647 : Int32)) - ((p1 &&& (2147483647 : Int32)) / (6 : Int32)) * (6 : Int32))]) = (mkF m 79 #[vi p1, vi p2, vr b1, vr b20, vu, vu, vu] [xi (0 : Int32)]) from by rw [as12]) ?_
    show own_S p e below T32 (mkF m 79 #[vi p1, vi p2, vr b1, vr b20, vu, vu, vu] [xi (0 : Int32)]) _
    refine XS.istore X32.here hx rfl (hb hby at_79) rfl (l' := #[vi p1, vi p2, vr b1, vr b20, vi (0 : Int32), vu, vu]) rfl ?_
    show own_S p e below T32 (mkF m 81 #[vi p1, vi p2, vr b1, vr b20, vi (0 : Int32), vu, vu] []) _
    refine XS.iloadN X32.here hx rfl (hb hby at_81) rfl ?_
    show own_S p e below T32 (mkF m 82 #[vi p1, vi p2, vr b1, vr b20, vi (0 : Int32), vu, vu] [xi p2]) _
    refine XS.ifYes X32.here hx rfl (pc0 := 82) (pc' := 91) rfl (hb hby at_82) rfl as7 (by decide) (by decide) ?_
    show own_S p e below T32 (mkF m 91 #[vi p1, vi p2, vr b1, vr b20, vi (0 : Int32), vu, vu] []) _
    refine XS.iloadN X32.here hx rfl (hb hby at_91) rfl ?_
    show own_S p e below T32 (mkF m 92 #[vi p1, vi p2, vr b1, vr b20, vi (0 : Int32), vu, vu] [xi p2]) _
    refine XS.ifYes X32.here hx rfl (pc0 := 92) (pc' := 101) rfl (hb hby at_92) rfl as3 (by decide) (by decide) ?_
    show own_S p e below T32 (mkF m 101 #[vi p1, vi p2, vr b1, vr b20, vi (0 : Int32), vu, vu] []) _
    refine XS.iconst X32.here hx rfl (hb hby at_101) ?_
    show own_S p e below T32 (mkF m 102 #[vi p1, vi p2, vr b1, vr b20, vi (0 : Int32), vu, vu] [xi (2 : Int32)]) _
    refine XS.istore X32.here hx rfl (hb hby at_102) rfl (l' := #[vi p1, vi p2, vr b1, vr b20, vi (0 : Int32), vi (2 : Int32), vu]) rfl ?_
    show own_S p e below T32 (mkF m 104 #[vi p1, vi p2, vr b1, vr b20, vi (0 : Int32), vi (2 : Int32), vu] []) _
    refine XS.aloadN X32.here hx rfl (hb hby at_104) rfl rfl ?_
    show own_S p e below T32 (mkF m 105 #[vi p1, vi p2, vr b1, vr b20, vi (0 : Int32), vi (2 : Int32), vu] [xr b20]) _
    refine XS.iload X32.here hx rfl (hb hby at_105) rfl ?_
    show own_S p e below T32 (mkF m 107 #[vi p1, vi p2, vr b1, vr b20, vi (0 : Int32), vi (2 : Int32), vu] [xi (0 : Int32), xr b20]) _
    refine X32.iaload hx (j := (0 : Int32)) (v := (xi (2 : Int32))) (by rw [e32]; exact Ar33.1) (State.isArrayOf_alike hZ.alike Ar33.2.1) Ar33.2.2 hin33 hat33 (g := (mkF m 107 #[vi p1, vi p2, vr b1, vr b20, vi (0 : Int32), vi (2 : Int32), vu] [xi (0 : Int32), xr b20])) rfl rfl (hb hby at_107) _ ?_
    show own_S p e below T32 (mkF m 108 #[vi p1, vi p2, vr b1, vr b20, vi (0 : Int32), vi (2 : Int32), vu] [xi (2 : Int32)]) _
    refine XS.iload X32.here hx rfl (hb hby at_108) rfl ?_
    show own_S p e below T32 (mkF m 110 #[vi p1, vi p2, vr b1, vr b20, vi (0 : Int32), vi (2 : Int32), vu] [xi (2 : Int32), xi (2 : Int32)]) _
    refine XS.ishr X32.here hx rfl (hb hby at_110) rfl ?_
    show own_S p e below T32 (mkF m 111 #[vi p1, vi p2, vr b1, vr b20, vi (0 : Int32), vi (2 : Int32), vu] [xi ((2 : Int32) >>> ((2 : Int32) &&& 31))]) _
    refine castTop (show (mkF m 111 #[vi p1, vi p2, vr b1, vr b20, vi (0 : Int32), vi (2 : Int32), vu] [xi ((2 : Int32) >>> ((2 : Int32) &&& 31))]) = (mkF m 111 #[vi p1, vi p2, vr b1, vr b20, vi (0 : Int32), vi (2 : Int32), vu] [xi (0 : Int32)]) from by rw [show ((2 : Int32) >>> ((2 : Int32) &&& 31)) = (0 : Int32) from by decide]) ?_
    show own_S p e below T32 (mkF m 111 #[vi p1, vi p2, vr b1, vr b20, vi (0 : Int32), vi (2 : Int32), vu] [xi (0 : Int32)]) _
    refine XS.iconst X32.here hx rfl (hb hby at_111) ?_
    show own_S p e below T32 (mkF m 112 #[vi p1, vi p2, vr b1, vr b20, vi (0 : Int32), vi (2 : Int32), vu] [xi (1 : Int32), xi (0 : Int32)]) _
    refine XS.iand X32.here hx rfl (hb hby at_112) rfl ?_
    show own_S p e below T32 (mkF m 113 #[vi p1, vi p2, vr b1, vr b20, vi (0 : Int32), vi (2 : Int32), vu] [xi ((0 : Int32) &&& (1 : Int32))]) _
    refine castTop (show (mkF m 113 #[vi p1, vi p2, vr b1, vr b20, vi (0 : Int32), vi (2 : Int32), vu] [xi ((0 : Int32) &&& (1 : Int32))]) = (mkF m 113 #[vi p1, vi p2, vr b1, vr b20, vi (0 : Int32), vi (2 : Int32), vu] [xi (0 : Int32)]) from by rw [show ((0 : Int32) &&& (1 : Int32)) = (0 : Int32) from by decide]) ?_
    show own_S p e below T32 (mkF m 113 #[vi p1, vi p2, vr b1, vr b20, vi (0 : Int32), vi (2 : Int32), vu] [xi (0 : Int32)]) _
    refine XS.ifYes X32.here hx rfl (pc0 := 113) (pc' := 120) rfl (hb hby at_113) rfl (by decide) (by decide) (by decide) ?_
    show own_S p e below T32 (mkF m 120 #[vi p1, vi p2, vr b1, vr b20, vi (0 : Int32), vi (2 : Int32), vu] []) _
    refine XS.iconst X32.here hx rfl (hb hby at_120) ?_
    show own_S p e below T32 (mkF m 121 #[vi p1, vi p2, vr b1, vr b20, vi (0 : Int32), vi (2 : Int32), vu] [xi (0 : Int32)]) _
    refine XS.istore X32.here hx rfl (hb hby at_121) rfl (l' := #[vi p1, vi p2, vr b1, vr b20, vi (0 : Int32), vi (2 : Int32), vi (0 : Int32)]) rfl ?_
    show own_S p e below T32 (mkF m 123 #[vi p1, vi p2, vr b1, vr b20, vi (0 : Int32), vi (2 : Int32), vi (0 : Int32)] []) _
    refine XS.aloadN X32.here hx rfl (hb hby at_123) rfl rfl ?_
    show own_S p e below T32 (mkF m 124 #[vi p1, vi p2, vr b1, vr b20, vi (0 : Int32), vi (2 : Int32), vi (0 : Int32)] [xr b1]) _
    refine XS.iload X32.here hx rfl (hb hby at_124) rfl ?_
    show own_S p e below T32 (mkF m 126 #[vi p1, vi p2, vr b1, vr b20, vi (0 : Int32), vi (2 : Int32), vi (0 : Int32)] [xi (0 : Int32), xr b1]) _
    refine X32.aaload hx (j := (0 : Int32)) (v := (xr u0)) (by rw [e32]; exact Ar34.1) (State.isArrayOf_alike hZ.alike Ar34.2.1) rfl Ar34.2.2 hin34 hat34 (g := (mkF m 126 #[vi p1, vi p2, vr b1, vr b20, vi (0 : Int32), vi (2 : Int32), vi (0 : Int32)] [xi (0 : Int32), xr b1])) rfl rfl (hb hby at_126) _ ?_
    show own_S p e below T32 (mkF m 127 #[vi p1, vi p2, vr b1, vr b20, vi (0 : Int32), vi (2 : Int32), vi (0 : Int32)] [xr u0]) _
    refine XS.iloadN X32.here hx rfl (hb hby at_127) rfl ?_
    show own_S p e below T32 (mkF m 128 #[vi p1, vi p2, vr b1, vr b20, vi (0 : Int32), vi (2 : Int32), vi (0 : Int32)] [xi p2, xr u0]) _
    refine st35.trans ?_
    show own_S p e below T35 (mkF m 131 #[vi p1, vi p2, vr b1, vr b20, vi (0 : Int32), vi (2 : Int32), vi (0 : Int32)] [xi (0 : Int32)]) _
    refine XS.iload X35.here hx rfl (hb hby at_131) rfl ?_
    show own_S p e below T35 (mkF m 133 #[vi p1, vi p2, vr b1, vr b20, vi (0 : Int32), vi (2 : Int32), vi (0 : Int32)] [xi (0 : Int32), xi (0 : Int32)]) _
    refine XS.icmpNo X35.here hx rfl (hb hby at_133) rfl (by decide) ?_
    show own_S p e below T35 (mkF m 136 #[vi p1, vi p2, vr b1, vr b20, vi (0 : Int32), vi (2 : Int32), vi (0 : Int32)] []) _
    refine XS.iconst X35.here hx rfl (hb hby at_136) ?_
    show own_S p e below T35 (mkF m 137 #[vi p1, vi p2, vr b1, vr b20, vi (0 : Int32), vi (2 : Int32), vi (0 : Int32)] [xi (1 : Int32)]) _
    refine XS.goto X35.here hx rfl (pc0 := 137) (pc' := 141) rfl (hb hby at_137) (by decide) (by decide) ?_
    show own_S p e below T35 (mkF m 141 #[vi p1, vi p2, vr b1, vr b20, vi (0 : Int32), vi (2 : Int32), vi (0 : Int32)] [xi (1 : Int32)]) _
    exact retN X35 hx (t := .boolean) Bd.returns (by simp) (hb hby at_141) hr
  · exact ⟨rfl, N35⟩
theorem ef_own_c3_ordinal (m : MethodId) (u0 u1 u2 u3 u4 u5 : Addr) : entryFrame m #[xr u1] 1 = (mkF m 0 #[vr u1] []) := by first | (simp [entryFrame, mkF, argsToLocals, Value.category]; done) | rfl
set_option maxRecDepth 65536 in
set_option maxHeartbeats 40000000 in
theorem own_c3_ordinal (l : Launch) (Z : State) (a0 : Array Value) (hw : ∀ d ∈ tables_1, d.before a0 Z = true) (u0 u1 u2 u3 u4 u5 : Addr) (G : own_St Z u0 u1 u2 u3 u4 u5) (h0 : Heap) (n0 : Nat) (O0 : Old Z n0 h0) : own_Met l Z Y0 jdk_37_method_2_code 1 (some .int) ({ frames := 0, cells := 0, slots := 0, locals := 0 } : Room) #[xr u1] h0 (own_QR (some (xi (1 : Int32))) h0 n0) := by
  intro ws
  refine MetFree.of_bodySF (plainFor_of_name pn0) hisR ?_
  intro p e s m args below meth c s₁ Bd hml0 hP hK
  obtain ⟨rfl, hZ, hh⟩ := hP
  have hx := Bd.exec
  have hby := Bd.bytes
  have hml : c.maxLocals = 1 := hml0
  have hown : s.vm.findClass "java/lang/Enum" = some m.cls := findClass_of_methodNamed Bd.named
  have hnm := (name_of_methodNamed Bd.named Bd.method).1
  have X0 : Stand p l e ({ frames := 0, cells := 0, slots := 0, locals := 0 } : Room) s m #[xr u1] below meth c s₁ [] 0 0 := Stand.of_body Bd
  have e0 : s₁.heap = h0 := by rw [← hh, Bd.state]; rfl
  have N0 := Fr.nil n0
  have pre0 : ∀ t, Steps p.tables e below (s₁.setTop (mkF m 0 #[vr u1] [])) t → Steps p.tables e below (s₁.setTop (entryFrame m #[xr u1] 1)) t := fun t st => castTop (ef_own_c3_ordinal m u0 u1 u2 u3 u4 u5) st
  obtain ⟨T1, X1, e1, st1⟩ := getF X0 hx hZ hown (host := "") (Or.inl (ww hw 30 rfl)) Via.refl e0 ((own_F_u1_ordinal G).ext O0.2) (g := (mkF m 1 #[vr u1] [xr u1])) rfl rfl (hb hby d2_1)
  obtain ⟨fs, hr, hrun, hended, hW, hsame⟩ := X1.leave (v := some (xi (1 : Int32))) (fun h => by rw [Bd.returns] at h; cases h)
  refine ⟨_, _, pre0 _ ?_, hrun, hended, _, _, rfl, ?_, ⟨_, rfl⟩, hW, hsame.mono (by decide) (by decide)⟩
  · show own_S p e below s₁ (mkF m 0 #[vr u1] []) _
    refine XS.aloadN X0.here hx rfl (hb hby d2_0) rfl rfl ?_
    show own_S p e below s₁ (mkF m 1 #[vr u1] [xr u1]) _
    refine st1 _ ?_
    show own_S p e below T1 (mkF m 4 #[vr u1] [xi (1 : Int32)]) _
    exact retI X1 hx Bd.returns (hb hby d2_4) hr
  · exact ⟨rfl, N0, e1⟩
theorem d1_66 : decode prog_62_method_8_code 66 = .ok (.iload_n 1, 1) := by decide +kernel
theorem d1_67 : decode prog_62_method_8_code 67 = .ok (.ifCond .eq 7, 3) := by decide +kernel
theorem d1_70 : decode prog_62_method_8_code 70 = .ok (.iconst 1, 1) := by decide +kernel
theorem d1_71 : decode prog_62_method_8_code 71 = .ok (.goto 52, 3) := by decide +kernel
theorem ef_own_c3_holds (m : MethodId) (u0 u1 u2 u3 u4 u5 : Addr) (p2 : Int32) : entryFrame m #[xr u1, xi p2] 2 = (mkF m 0 #[vr u1, vi p2] []) := by first | (simp [entryFrame, mkF, argsToLocals, Value.category]; done) | rfl
set_option maxRecDepth 65536 in
set_option maxHeartbeats 40000000 in
theorem own_c3_holds (l : Launch) (Z : State) (a0 : Array Value) (hw : ∀ d ∈ tables_1, d.before a0 Z = true) (u0 u1 u2 u3 u4 u5 : Addr) (G : own_St Z u0 u1 u2 u3 u4 u5) (p2 : Int32) (as2 : ifCond.holds .eq p2 = false) (h0 : Heap) (n0 : Nat) (O0 : Old Z n0 h0) : own_Met l Z Y2 prog_62_method_8_code 2 (some .boolean) ({ frames := 1, cells := 0, slots := 0, locals := 12 } : Room) #[xr u1, xi p2] h0 (own_QR (some (xi (1 : Int32))) h0 n0) := by
  intro ws
  refine MetFree.of_bodySF (plainFor_of_name pn1) hisR ?_
  intro p e s m args below meth c s₁ Bd hml0 hP hK
  obtain ⟨rfl, hZ, hh⟩ := hP
  have hx := Bd.exec
  have hby := Bd.bytes
  have hml : c.maxLocals = 2 := hml0
  have hown : s.vm.findClass "com/example/whyle/whyle/cfa/Relation" = some m.cls := findClass_of_methodNamed Bd.named
  have hnm := (name_of_methodNamed Bd.named Bd.method).1
  have X0 : Stand p l e ({ frames := 1, cells := 0, slots := 0, locals := 12 } : Room) s m #[xr u1, xi p2] below meth c s₁ [] 0 0 := Stand.of_body Bd
  have e0 : s₁.heap = h0 := by rw [← hh, Bd.state]; rfl
  have N0 := Fr.nil n0
  have pre0 : ∀ t, Steps p.tables e below (s₁.setTop (mkF m 0 #[vr u1, vi p2] [])) t → Steps p.tables e below (s₁.setTop (entryFrame m #[xr u1, xi p2] 2)) t := fun t st => castTop (ef_own_c3_holds m u0 u1 u2 u3 u4 u5 p2) st
  obtain ⟨cq1, kq1, qa1, qb1, qc1⟩ := isOf hZ e0 ((own_X_u1 G).ext O0.2)
  obtain ⟨_, _, ⟨T1, L1, k1, n1⟩, -, X1, ⟨Lc1, hQ1, l1, y1, z1⟩, st1⟩ := X0.virtualBackUp hx (x := Y1) (y := Y0) hown (mvT hZ (ww hw 23 rfl)) (mvT hZ (ww hw 24 rfl)) (mvT hZ (ww hw 25 rfl)) (by decide) (mvT hZ (ww hw 27 rfl)) (mvT hZ (ww hw 26 rfl)) (backOf (W := 0) (own_c3_ordinal l Z a0 hw u0 u1 u2 u3 u4 u5 G h0 n0 O0 []) hZ (ww hw 29 rfl) (ww hw 28 rfl) (by decide) (by decide)) qa1 qc1 (g := (mkF m 1 #[vr u1, vi p2] [xr u1])) rfl (by rw [hml]; rfl) (Steps.refl _) (argsL := []) (rest := []) (lenOf pd0 rfl) rfl (by show 2 * 0 + _ ≤ _; exact Nat.le_of_eq rfl) (hb hby d1_1) (fun _ _ => ⟨rfl, e0, (by decide : 0 + 0 ≤ _), (by decide : 0 + 0 ≤ _)⟩)
  dsimp only [Pt.U, Pt.locs, Pt.cells, Pt.slots] at X1 l1 y1 z1 st1 hQ1
  subst l1 y1 z1
  obtain ⟨rfl, Nq1, e1⟩ := hQ1
  have N1 := Fr.app N0 Nq1
  obtain ⟨fs, hr, hrun, hended, hW, hsame⟩ := X1.leave (v := some (xi (1 : Int32))) (fun h => by rw [Bd.returns] at h; cases h)
  refine ⟨_, _, pre0 _ ?_, hrun, hended, _, _, rfl, ?_, ⟨_, rfl⟩, hW, hsame.mono (by decide) (by decide)⟩
  · show own_S p e below s₁ (mkF m 0 #[vr u1, vi p2] []) _
    refine XS.aloadN X0.here hx rfl (hb hby d1_0) rfl rfl ?_
    show own_S p e below s₁ (mkF m 1 #[vr u1, vi p2] [xr u1]) _
    refine st1.trans ?_
    show own_S p e below T1 (mkF m 4 #[vr u1, vi p2] [xi (1 : Int32)]) _
    refine XS.tswIn X1.here hx rfl (pc0 := 4) (pc' := 66) (o := 62) rfl (hb hby d1_4) rfl (by decide) (by decide) (by decide) (by decide) ?_
    show own_S p e below T1 (mkF m 66 #[vr u1, vi p2] []) _
    refine XS.iloadN X1.here hx rfl (hb hby d1_66) rfl ?_
    show own_S p e below T1 (mkF m 67 #[vr u1, vi p2] [xi p2]) _
    refine XS.ifNo X1.here hx rfl (hb hby d1_67) rfl as2 ?_
    show own_S p e below T1 (mkF m 70 #[vr u1, vi p2] []) _
    refine XS.iconst X1.here hx rfl (hb hby d1_70) ?_
    show own_S p e below T1 (mkF m 71 #[vr u1, vi p2] [xi (1 : Int32)]) _
    refine XS.goto X1.here hx rfl (pc0 := 71) (pc' := 123) rfl (hb hby d1_71) (by decide) (by decide) ?_
    show own_S p e below T1 (mkF m 123 #[vr u1, vi p2] [xi (1 : Int32)]) _
    exact retN X1 hx (t := .boolean) Bd.returns (by simp) (hb hby d1_123) hr
  · exact ⟨rfl, N1, e1⟩
theorem ef_own_l3 (m : MethodId) (u0 u1 u2 u3 u4 u5 : Addr) (p1 : Int32) (p2 : Int32) : entryFrame m #[xi p1, xi p2] maxLocals = (mkF m 0 #[vi p1, vi p2, vu, vu, vu, vu, vu] []) := by first | (simp [entryFrame, mkF, argsToLocals, Value.category, maxLocals]; done) | rfl
set_option maxRecDepth 65536 in
set_option maxHeartbeats 40000000 in
theorem own_l3 (l : Launch) (Z : State) (a0 : Array Value) (hw : ∀ d ∈ tables_1, d.before a0 Z = true) (u0 u1 u2 u3 u4 u5 : Addr) (G : own_St Z u0 u1 u2 u3 u4 u5) (p1 : Int32) (p2 : Int32) (as13 : ((p1 &&& (2147483647 : Int32)) - ((p1 &&& (2147483647 : Int32)) / (6 : Int32)) * (6 : Int32)) = (1 : Int32)) (as1 : ifCond.holds .ge p2 = false) (as2 : ifCond.holds .eq p2 = false) (h0 : Heap) (n0 : Nat) (O0 : Old Z n0 h0) : own_Met l Z x code maxLocals ret room_1 #[xi p1, xi p2] h0 (own_QL (some (xi (1 : Int32))) n0) := by
  intro ws
  refine MetFree.of_bodySF (plainFor_of_name pn2) hisR ?_
  intro p e s m args below meth c s₁ Bd hml0 hP hK
  obtain ⟨rfl, hZ, hh⟩ := hP
  have hx := Bd.exec
  have hby := Bd.bytes
  have hml : c.maxLocals = 7 := hml0
  have hown : s.vm.findClass "com/example/whyle/whyle/cfa/RelationHoldsPinLaw" = some m.cls := findClass_of_methodNamed Bd.named
  have hnm := (name_of_methodNamed Bd.named Bd.method).1
  have X0 : Stand p l e room_1 s m #[xi p1, xi p2] below meth c s₁ [] 0 0 := Stand.of_body Bd
  have e0 : s₁.heap = h0 := by rw [← hh, Bd.state]; rfl
  have N0 := Fr.nil n0
  have pre0 : ∀ t, Steps p.tables e below (s₁.setTop (mkF m 0 #[vi p1, vi p2, vu, vu, vu, vu, vu] [])) t → Steps p.tables e below (s₁.setTop (entryFrame m #[xi p1, xi p2] maxLocals)) t := fun t st => castTop (ef_own_l3 m u0 u1 u2 u3 u4 u5 p1 p2) st
  obtain ⟨T1, h1, k1, X1, e1, E1, A1, Ov1, st1⟩ := newR X0 hx hZ hown (ww hw 0 rfl) (ww hw 1 rfl) e0 (g := (mkF m 2 #[vi p1, vi p2, vu, vu, vu, vu, vu] [xi (6 : Int32)])) rfl (hb hby at_2) rfl (by decide) (cap := 6) (by decide) (by decide) (by decide) (by decide)
  obtain ⟨b1, g1⟩ : ∃ z, z = h0.size := ⟨_, rfl⟩
  rw [← g1] at A1 st1
  have g_b1 : n0 ≤ b1 := own_fresh O0 g1
  have O1 : Old Z n0 h1 := O0.ext E1
  have V_b1 : Arv Z h1 b1 k1 (.object "com/example/whyle/whyle/cfa/Relation") (6 : Int32) [.null, .null, .null, .null, .null, .null] .null := (Arv.new A1 (by decide)).pad (pad_rep [] .null 6)
  obtain ⟨T2, X2, e2, st2⟩ := getS2 X1 hx hZ hown (host := "") (Or.inl (ww hw 2 rfl)) Via.refl e1 ((own_S_u0 G).ext O1.2) (g := (mkF m 7 #[vi p1, vi p2, vu, vu, vu, vu, vu] [xi (0 : Int32), xr b1, xr b1])) rfl (hb hby at_7)
  obtain ⟨cl3, Ar3, q3, S3, N3_, H3, G3⟩ := V_b1
  have hin3 : ¬ ((0 : Int32) < 0 ∨ cl3.slots.size ≤ ((0 : Int32)).toNatClampNeg) := inb_of S3 ⟨by decide, by decide⟩
  obtain ⟨T4, h4, X4, e4, W4, st4⟩ := stR X2 hx hZ e2 Ar3 (j := (0 : Int32)) hin3 rfl (Sto.ofV Ar3 q3 Ov1 (Ins.self ((own_X_u0 G).ext O1.2))) (g := (mkF m 10 #[vi p1, vi p2, vu, vu, vu, vu, vu] [xr u0, xi (0 : Int32), xr b1, xr b1])) rfl rfl (hb hby at_10)
  have V_b1_4 : Arv Z h4 b1 k1 (.object "com/example/whyle/whyle/cfa/Relation") (6 : Int32) [xr u0, .null, .null, .null, .null, .null] .null := Arv.set Ar3 q3 S3 N3_ H3 G3 rfl W4 0 rfl (Nat.le_of_ble_eq_true rfl)
  have O4 : Old Z n0 h4 := O1.wr W4 g_b1
  have N4 := Fr.snoc X4 N0 g_b1
  obtain ⟨T5, X5, e5, st5⟩ := getS2 X4 hx hZ hown (host := "") (Or.inl (ww hw 6 rfl)) Via.refl e4 ((own_S_u1 G).ext O4.2) (g := (mkF m 13 #[vi p1, vi p2, vu, vu, vu, vu, vu] [xi (1 : Int32), xr b1, xr b1])) rfl (hb hby at_13)
  obtain ⟨cl6, Ar6, q6, S6, N6_, H6, G6⟩ := V_b1_4
  have hin6 : ¬ ((1 : Int32) < 0 ∨ cl6.slots.size ≤ ((1 : Int32)).toNatClampNeg) := inb_of S6 ⟨by decide, by decide⟩
  obtain ⟨T7, h7, X7, e7, W7, st7⟩ := stR X5 hx hZ e5 Ar6 (j := (1 : Int32)) hin6 rfl (Sto.ofV Ar6 q6 Ov1 (Ins.self ((own_X_u1 G).ext O4.2))) (g := (mkF m 16 #[vi p1, vi p2, vu, vu, vu, vu, vu] [xr u1, xi (1 : Int32), xr b1, xr b1])) rfl rfl (hb hby at_16)
  have V_b1_7 : Arv Z h7 b1 k1 (.object "com/example/whyle/whyle/cfa/Relation") (6 : Int32) [xr u0, xr u1, .null, .null, .null, .null] .null := Arv.set Ar6 q6 S6 N6_ H6 G6 rfl W7 1 rfl (Nat.le_of_ble_eq_true rfl)
  have O7 : Old Z n0 h7 := O4.wr W7 g_b1
  have N7 := Fr.snoc X7 N4 g_b1
  obtain ⟨T8, X8, e8, st8⟩ := getS2 X7 hx hZ hown (host := "") (Or.inl (ww hw 8 rfl)) Via.refl e7 ((own_S_u2 G).ext O7.2) (g := (mkF m 19 #[vi p1, vi p2, vu, vu, vu, vu, vu] [xi (2 : Int32), xr b1, xr b1])) rfl (hb hby at_19)
  obtain ⟨cl9, Ar9, q9, S9, N9_, H9, G9⟩ := V_b1_7
  have hin9 : ¬ ((2 : Int32) < 0 ∨ cl9.slots.size ≤ ((2 : Int32)).toNatClampNeg) := inb_of S9 ⟨by decide, by decide⟩
  obtain ⟨T10, h10, X10, e10, W10, st10⟩ := stR X8 hx hZ e8 Ar9 (j := (2 : Int32)) hin9 rfl (Sto.ofV Ar9 q9 Ov1 (Ins.self ((own_X_u2 G).ext O7.2))) (g := (mkF m 22 #[vi p1, vi p2, vu, vu, vu, vu, vu] [xr u2, xi (2 : Int32), xr b1, xr b1])) rfl rfl (hb hby at_22)
  have V_b1_10 : Arv Z h10 b1 k1 (.object "com/example/whyle/whyle/cfa/Relation") (6 : Int32) [xr u0, xr u1, xr u2, .null, .null, .null] .null := Arv.set Ar9 q9 S9 N9_ H9 G9 rfl W10 2 rfl (Nat.le_of_ble_eq_true rfl)
  have O10 : Old Z n0 h10 := O7.wr W10 g_b1
  have N10 := Fr.snoc X10 N7 g_b1
  obtain ⟨T11, X11, e11, st11⟩ := getS2 X10 hx hZ hown (host := "") (Or.inl (ww hw 10 rfl)) Via.refl e10 ((own_S_u3 G).ext O10.2) (g := (mkF m 25 #[vi p1, vi p2, vu, vu, vu, vu, vu] [xi (3 : Int32), xr b1, xr b1])) rfl (hb hby at_25)
  obtain ⟨cl12, Ar12, q12, S12, N12_, H12, G12⟩ := V_b1_10
  have hin12 : ¬ ((3 : Int32) < 0 ∨ cl12.slots.size ≤ ((3 : Int32)).toNatClampNeg) := inb_of S12 ⟨by decide, by decide⟩
  obtain ⟨T13, h13, X13, e13, W13, st13⟩ := stR X11 hx hZ e11 Ar12 (j := (3 : Int32)) hin12 rfl (Sto.ofV Ar12 q12 Ov1 (Ins.self ((own_X_u3 G).ext O10.2))) (g := (mkF m 28 #[vi p1, vi p2, vu, vu, vu, vu, vu] [xr u3, xi (3 : Int32), xr b1, xr b1])) rfl rfl (hb hby at_28)
  have V_b1_13 : Arv Z h13 b1 k1 (.object "com/example/whyle/whyle/cfa/Relation") (6 : Int32) [xr u0, xr u1, xr u2, xr u3, .null, .null] .null := Arv.set Ar12 q12 S12 N12_ H12 G12 rfl W13 3 rfl (Nat.le_of_ble_eq_true rfl)
  have O13 : Old Z n0 h13 := O10.wr W13 g_b1
  have N13 := Fr.snoc X13 N10 g_b1
  obtain ⟨T14, X14, e14, st14⟩ := getS2 X13 hx hZ hown (host := "") (Or.inl (ww hw 12 rfl)) Via.refl e13 ((own_S_u4 G).ext O13.2) (g := (mkF m 31 #[vi p1, vi p2, vu, vu, vu, vu, vu] [xi (4 : Int32), xr b1, xr b1])) rfl (hb hby at_31)
  obtain ⟨cl15, Ar15, q15, S15, N15_, H15, G15⟩ := V_b1_13
  have hin15 : ¬ ((4 : Int32) < 0 ∨ cl15.slots.size ≤ ((4 : Int32)).toNatClampNeg) := inb_of S15 ⟨by decide, by decide⟩
  obtain ⟨T16, h16, X16, e16, W16, st16⟩ := stR X14 hx hZ e14 Ar15 (j := (4 : Int32)) hin15 rfl (Sto.ofV Ar15 q15 Ov1 (Ins.self ((own_X_u4 G).ext O13.2))) (g := (mkF m 34 #[vi p1, vi p2, vu, vu, vu, vu, vu] [xr u4, xi (4 : Int32), xr b1, xr b1])) rfl rfl (hb hby at_34)
  have V_b1_16 : Arv Z h16 b1 k1 (.object "com/example/whyle/whyle/cfa/Relation") (6 : Int32) [xr u0, xr u1, xr u2, xr u3, xr u4, .null] .null := Arv.set Ar15 q15 S15 N15_ H15 G15 rfl W16 4 rfl (Nat.le_of_ble_eq_true rfl)
  have O16 : Old Z n0 h16 := O13.wr W16 g_b1
  have N16 := Fr.snoc X16 N13 g_b1
  obtain ⟨T17, X17, e17, st17⟩ := getS2 X16 hx hZ hown (host := "") (Or.inl (ww hw 14 rfl)) Via.refl e16 ((own_S_u5 G).ext O16.2) (g := (mkF m 37 #[vi p1, vi p2, vu, vu, vu, vu, vu] [xi (5 : Int32), xr b1, xr b1])) rfl (hb hby at_37)
  obtain ⟨cl18, Ar18, q18, S18, N18_, H18, G18⟩ := V_b1_16
  have hin18 : ¬ ((5 : Int32) < 0 ∨ cl18.slots.size ≤ ((5 : Int32)).toNatClampNeg) := inb_of S18 ⟨by decide, by decide⟩
  obtain ⟨T19, h19, X19, e19, W19, st19⟩ := stR X17 hx hZ e17 Ar18 (j := (5 : Int32)) hin18 rfl (Sto.ofV Ar18 q18 Ov1 (Ins.self ((own_X_u5 G).ext O16.2))) (g := (mkF m 40 #[vi p1, vi p2, vu, vu, vu, vu, vu] [xr u5, xi (5 : Int32), xr b1, xr b1])) rfl rfl (hb hby at_40)
  have V_b1_19 : Arv Z h19 b1 k1 (.object "com/example/whyle/whyle/cfa/Relation") (6 : Int32) [xr u0, xr u1, xr u2, xr u3, xr u4, xr u5] .null := Arv.set Ar18 q18 S18 N18_ H18 G18 rfl W19 5 rfl (Nat.le_of_ble_eq_true rfl)
  have O19 : Old Z n0 h19 := O16.wr W19 g_b1
  have N19 := Fr.snoc X19 N16 g_b1
  obtain ⟨T20, h20, k20, X20, e20, E20, A20, st20⟩ := newP X19 hx hZ (ww hw 16 rfl) e19 (g := (mkF m 44 #[vi p1, vi p2, vr b1, vu, vu, vu, vu] [xi (6 : Int32)])) rfl (hb hby at_44) rfl (by decide) (cap := 6) (by decide) (by decide) (by decide) (by decide)
  obtain ⟨b20, g20⟩ : ∃ z, z = h19.size := ⟨_, rfl⟩
  rw [← g20] at A20 st20
  have g_b20 : n0 ≤ b20 := own_fresh O19 g20
  have ne_b1_b20 : b1 ≠ b20 := Nat.ne_of_lt (Nat.lt_of_lt_of_le (V_b1_19).lt (Nat.le_of_eq g20.symm))
  have O20 : Old Z n0 h20 := O19.ext E20
  have V_b1_20 := V_b1_19.ext E20
  have V_b20 : Arv Z h20 b20 k20 .int (6 : Int32) [(.int (0 : Int32)), (.int (0 : Int32)), (.int (0 : Int32)), (.int (0 : Int32)), (.int (0 : Int32)), (.int (0 : Int32))] (.int (0 : Int32)) := (Arv.new A20 (by decide)).pad (pad_rep [] (.int (0 : Int32)) 6)
  obtain ⟨cl21, Ar21, q21, S21, N21_, H21, G21⟩ := V_b20
  have hin21 : ¬ ((0 : Int32) < 0 ∨ cl21.slots.size ≤ ((0 : Int32)).toNatClampNeg) := inb_of S21 ⟨by decide, by decide⟩
  obtain ⟨T22, h22, X22, e22, W22, st22⟩ := stI X20 hx hZ e20 Ar21 (j := (0 : Int32)) hin21 (g := (mkF m 49 #[vi p1, vi p2, vr b1, vu, vu, vu, vu] [xi (2 : Int32), xi (0 : Int32), xr b20, xr b20])) rfl rfl (hb hby at_49)
  have V_b20_22 : Arv Z h22 b20 k20 .int (6 : Int32) [xi (2 : Int32), xi (0 : Int32), xi (0 : Int32), xi (0 : Int32), xi (0 : Int32), xi (0 : Int32)] (.int (0 : Int32)) := Arv.set Ar21 q21 S21 N21_ H21 G21 rfl W22 0 rfl (Nat.le_of_ble_eq_true rfl)
  have O22 : Old Z n0 h22 := O20.wr W22 g_b20
  have V_b1_22 := V_b1_20.other W22 ne_b1_b20
  have N22 := Fr.snoc X22 N19 g_b20
  obtain ⟨cl23, Ar23, q23, S23, N23_, H23, G23⟩ := V_b20_22
  have hin23 : ¬ ((1 : Int32) < 0 ∨ cl23.slots.size ≤ ((1 : Int32)).toNatClampNeg) := inb_of S23 ⟨by decide, by decide⟩
  obtain ⟨T24, h24, X24, e24, W24, st24⟩ := stI X22 hx hZ e22 Ar23 (j := (1 : Int32)) hin23 (g := (mkF m 53 #[vi p1, vi p2, vr b1, vu, vu, vu, vu] [xi (5 : Int32), xi (1 : Int32), xr b20, xr b20])) rfl rfl (hb hby at_53)
  have V_b20_24 : Arv Z h24 b20 k20 .int (6 : Int32) [xi (2 : Int32), xi (5 : Int32), xi (0 : Int32), xi (0 : Int32), xi (0 : Int32), xi (0 : Int32)] (.int (0 : Int32)) := Arv.set Ar23 q23 S23 N23_ H23 G23 rfl W24 1 rfl (Nat.le_of_ble_eq_true rfl)
  have O24 : Old Z n0 h24 := O22.wr W24 g_b20
  have V_b1_24 := V_b1_22.other W24 ne_b1_b20
  have N24 := Fr.snoc X24 N22 g_b20
  obtain ⟨cl25, Ar25, q25, S25, N25_, H25, G25⟩ := V_b20_24
  have hin25 : ¬ ((2 : Int32) < 0 ∨ cl25.slots.size ≤ ((2 : Int32)).toNatClampNeg) := inb_of S25 ⟨by decide, by decide⟩
  obtain ⟨T26, h26, X26, e26, W26, st26⟩ := stI X24 hx hZ e24 Ar25 (j := (2 : Int32)) hin25 (g := (mkF m 57 #[vi p1, vi p2, vr b1, vu, vu, vu, vu] [xi (1 : Int32), xi (2 : Int32), xr b20, xr b20])) rfl rfl (hb hby at_57)
  have V_b20_26 : Arv Z h26 b20 k20 .int (6 : Int32) [xi (2 : Int32), xi (5 : Int32), xi (1 : Int32), xi (0 : Int32), xi (0 : Int32), xi (0 : Int32)] (.int (0 : Int32)) := Arv.set Ar25 q25 S25 N25_ H25 G25 rfl W26 2 rfl (Nat.le_of_ble_eq_true rfl)
  have O26 : Old Z n0 h26 := O24.wr W26 g_b20
  have V_b1_26 := V_b1_24.other W26 ne_b1_b20
  have N26 := Fr.snoc X26 N24 g_b20
  obtain ⟨cl27, Ar27, q27, S27, N27_, H27, G27⟩ := V_b20_26
  have hin27 : ¬ ((3 : Int32) < 0 ∨ cl27.slots.size ≤ ((3 : Int32)).toNatClampNeg) := inb_of S27 ⟨by decide, by decide⟩
  obtain ⟨T28, h28, X28, e28, W28, st28⟩ := stI X26 hx hZ e26 Ar27 (j := (3 : Int32)) hin27 (g := (mkF m 61 #[vi p1, vi p2, vr b1, vu, vu, vu, vu] [xi (3 : Int32), xi (3 : Int32), xr b20, xr b20])) rfl rfl (hb hby at_61)
  have V_b20_28 : Arv Z h28 b20 k20 .int (6 : Int32) [xi (2 : Int32), xi (5 : Int32), xi (1 : Int32), xi (3 : Int32), xi (0 : Int32), xi (0 : Int32)] (.int (0 : Int32)) := Arv.set Ar27 q27 S27 N27_ H27 G27 rfl W28 3 rfl (Nat.le_of_ble_eq_true rfl)
  have O28 : Old Z n0 h28 := O26.wr W28 g_b20
  have V_b1_28 := V_b1_26.other W28 ne_b1_b20
  have N28 := Fr.snoc X28 N26 g_b20
  obtain ⟨cl29, Ar29, q29, S29, N29_, H29, G29⟩ := V_b20_28
  have hin29 : ¬ ((4 : Int32) < 0 ∨ cl29.slots.size ≤ ((4 : Int32)).toNatClampNeg) := inb_of S29 ⟨by decide, by decide⟩
  obtain ⟨T30, h30, X30, e30, W30, st30⟩ := stI X28 hx hZ e28 Ar29 (j := (4 : Int32)) hin29 (g := (mkF m 65 #[vi p1, vi p2, vr b1, vu, vu, vu, vu] [xi (4 : Int32), xi (4 : Int32), xr b20, xr b20])) rfl rfl (hb hby at_65)
  have V_b20_30 : Arv Z h30 b20 k20 .int (6 : Int32) [xi (2 : Int32), xi (5 : Int32), xi (1 : Int32), xi (3 : Int32), xi (4 : Int32), xi (0 : Int32)] (.int (0 : Int32)) := Arv.set Ar29 q29 S29 N29_ H29 G29 rfl W30 4 rfl (Nat.le_of_ble_eq_true rfl)
  have O30 : Old Z n0 h30 := O28.wr W30 g_b20
  have V_b1_30 := V_b1_28.other W30 ne_b1_b20
  have N30 := Fr.snoc X30 N28 g_b20
  obtain ⟨cl31, Ar31, q31, S31, N31_, H31, G31⟩ := V_b20_30
  have hin31 : ¬ ((5 : Int32) < 0 ∨ cl31.slots.size ≤ ((5 : Int32)).toNatClampNeg) := inb_of S31 ⟨by decide, by decide⟩
  obtain ⟨T32, h32, X32, e32, W32, st32⟩ := stI X30 hx hZ e30 Ar31 (j := (5 : Int32)) hin31 (g := (mkF m 70 #[vi p1, vi p2, vr b1, vu, vu, vu, vu] [xi (6 : Int32), xi (5 : Int32), xr b20, xr b20])) rfl rfl (hb hby at_70)
  have V_b20_32 : Arv Z h32 b20 k20 .int (6 : Int32) [xi (2 : Int32), xi (5 : Int32), xi (1 : Int32), xi (3 : Int32), xi (4 : Int32), xi (6 : Int32)] (.int (0 : Int32)) := Arv.set Ar31 q31 S31 N31_ H31 G31 rfl W32 5 rfl (Nat.le_of_ble_eq_true rfl)
  have O32 : Old Z n0 h32 := O30.wr W32 g_b20
  have V_b1_32 := V_b1_30.other W32 ne_b1_b20
  have N32 := Fr.snoc X32 N30 g_b20
  obtain ⟨cl33, Ar33, q33, S33, N33_, H33, G33⟩ := V_b20_32
  have hin33 : ¬ ((1 : Int32) < 0 ∨ cl33.slots.size ≤ ((1 : Int32)).toNatClampNeg) := inb_of S33 ⟨by decide, by decide⟩
  have hat33 : cl33.slots[((1 : Int32)).toNatClampNeg]? = some (xi (5 : Int32)) := Has.at H33 hin33 rfl
  obtain ⟨cl34, Ar34, q34, S34, N34_, H34, G34⟩ := V_b1_32
  have hin34 : ¬ ((1 : Int32) < 0 ∨ cl34.slots.size ≤ ((1 : Int32)).toNatClampNeg) := inb_of S34 ⟨by decide, by decide⟩
  have hat34 : cl34.slots[((1 : Int32)).toNatClampNeg]? = some (xr u1) := Has.at H34 hin34 rfl
  obtain ⟨cq35, kq35, qa35, qb35, qc35⟩ := isOf hZ e32 ((own_X_u1 G).ext O32.2)
  obtain ⟨_, _, ⟨T35, L35, k35, n35⟩, -, X35, ⟨Lc35, hQ35, l35, y35, z35⟩, st35⟩ := X32.virtualBack hx (y := Y2) (z := Y2) hown (mvT hZ (ww hw 18 rfl)) (mvT hZ (ww hw 19 rfl)) (notFace_of_selects (args := #[]) (mvT hZ (ww hw 21 rfl))) (mvT hZ (ww hw 21 rfl)) (mvT hZ (ww hw 20 rfl)) (by decide) (backOf (W := 0) (own_c3_holds l Z a0 hw u0 u1 u2 u3 u4 u5 G p2 as2 h32 n0 O32 []) hZ (ww hw 22 rfl) (ww hw 3 rfl) (by decide) (by decide)) qa35 qc35 (g := (mkF m 128 #[vi p1, vi p2, vr b1, vr b20, vi (1 : Int32), vi (0 : Int32), vi (1 : Int32)] [xi p2, xr u1])) rfl (by rw [hml]; rfl) (Steps.refl _) (argsL := [xi p2]) (rest := []) (lenOf pd1 rfl) rfl (by show 2 * 0 + _ ≤ _; exact Nat.le_of_eq rfl) (hb hby at_128) (fun _ _ => ⟨rfl, e32, (by decide : 2 + 0 ≤ _), (by decide : 12 + 0 ≤ _)⟩)
  dsimp only [Pt.U, Pt.locs, Pt.cells, Pt.slots] at X35 l35 y35 z35 st35 hQ35
  subst l35 y35 z35
  obtain ⟨rfl, Nq35, e35⟩ := hQ35
  have N35 := Fr.app N32 Nq35
  obtain ⟨fs, hr, hrun, hended, hW, hsame⟩ := X35.leave (v := some (xi (1 : Int32))) (fun h => by rw [Bd.returns] at h; cases h)
  refine ⟨_, _, pre0 _ ?_, hrun, hended, _, _, rfl, ?_, ⟨_, rfl⟩, hW, hsame.mono (by decide) (by decide)⟩
  · show own_S p e below s₁ (mkF m 0 #[vi p1, vi p2, vu, vu, vu, vu, vu] []) _
    refine XS.bipush X0.here hx rfl (hb hby at_0) ?_
    show own_S p e below s₁ (mkF m 2 #[vi p1, vi p2, vu, vu, vu, vu, vu] [xi (6 : Int32)]) _
    refine st1 _ ?_
    show own_S p e below T1 (mkF m 5 #[vi p1, vi p2, vu, vu, vu, vu, vu] [xr b1]) _
    refine XS.dup X1.here hx rfl (hb hby at_5) rfl rfl ?_
    show own_S p e below T1 (mkF m 6 #[vi p1, vi p2, vu, vu, vu, vu, vu] [xr b1, xr b1]) _
    refine XS.iconst X1.here hx rfl (hb hby at_6) ?_
    show own_S p e below T1 (mkF m 7 #[vi p1, vi p2, vu, vu, vu, vu, vu] [xi (0 : Int32), xr b1, xr b1]) _
    refine st2 _ ?_
    show own_S p e below T2 (mkF m 10 #[vi p1, vi p2, vu, vu, vu, vu, vu] [xr u0, xi (0 : Int32), xr b1, xr b1]) _
    refine st4 _ ?_
    show own_S p e below T4 (mkF m 11 #[vi p1, vi p2, vu, vu, vu, vu, vu] [xr b1]) _
    refine XS.dup X4.here hx rfl (hb hby at_11) rfl rfl ?_
    show own_S p e below T4 (mkF m 12 #[vi p1, vi p2, vu, vu, vu, vu, vu] [xr b1, xr b1]) _
    refine XS.iconst X4.here hx rfl (hb hby at_12) ?_
    show own_S p e below T4 (mkF m 13 #[vi p1, vi p2, vu, vu, vu, vu, vu] [xi (1 : Int32), xr b1, xr b1]) _
    refine st5 _ ?_
    show own_S p e below T5 (mkF m 16 #[vi p1, vi p2, vu, vu, vu, vu, vu] [xr u1, xi (1 : Int32), xr b1, xr b1]) _
    refine st7 _ ?_
    show own_S p e below T7 (mkF m 17 #[vi p1, vi p2, vu, vu, vu, vu, vu] [xr b1]) _
    refine XS.dup X7.here hx rfl (hb hby at_17) rfl rfl ?_
    show own_S p e below T7 (mkF m 18 #[vi p1, vi p2, vu, vu, vu, vu, vu] [xr b1, xr b1]) _
    refine XS.iconst X7.here hx rfl (hb hby at_18) ?_
    show own_S p e below T7 (mkF m 19 #[vi p1, vi p2, vu, vu, vu, vu, vu] [xi (2 : Int32), xr b1, xr b1]) _
    refine st8 _ ?_
    show own_S p e below T8 (mkF m 22 #[vi p1, vi p2, vu, vu, vu, vu, vu] [xr u2, xi (2 : Int32), xr b1, xr b1]) _
    refine st10 _ ?_
    show own_S p e below T10 (mkF m 23 #[vi p1, vi p2, vu, vu, vu, vu, vu] [xr b1]) _
    refine XS.dup X10.here hx rfl (hb hby at_23) rfl rfl ?_
    show own_S p e below T10 (mkF m 24 #[vi p1, vi p2, vu, vu, vu, vu, vu] [xr b1, xr b1]) _
    refine XS.iconst X10.here hx rfl (hb hby at_24) ?_
    show own_S p e below T10 (mkF m 25 #[vi p1, vi p2, vu, vu, vu, vu, vu] [xi (3 : Int32), xr b1, xr b1]) _
    refine st11 _ ?_
    show own_S p e below T11 (mkF m 28 #[vi p1, vi p2, vu, vu, vu, vu, vu] [xr u3, xi (3 : Int32), xr b1, xr b1]) _
    refine st13 _ ?_
    show own_S p e below T13 (mkF m 29 #[vi p1, vi p2, vu, vu, vu, vu, vu] [xr b1]) _
    refine XS.dup X13.here hx rfl (hb hby at_29) rfl rfl ?_
    show own_S p e below T13 (mkF m 30 #[vi p1, vi p2, vu, vu, vu, vu, vu] [xr b1, xr b1]) _
    refine XS.iconst X13.here hx rfl (hb hby at_30) ?_
    show own_S p e below T13 (mkF m 31 #[vi p1, vi p2, vu, vu, vu, vu, vu] [xi (4 : Int32), xr b1, xr b1]) _
    refine st14 _ ?_
    show own_S p e below T14 (mkF m 34 #[vi p1, vi p2, vu, vu, vu, vu, vu] [xr u4, xi (4 : Int32), xr b1, xr b1]) _
    refine st16 _ ?_
    show own_S p e below T16 (mkF m 35 #[vi p1, vi p2, vu, vu, vu, vu, vu] [xr b1]) _
    refine XS.dup X16.here hx rfl (hb hby at_35) rfl rfl ?_
    show own_S p e below T16 (mkF m 36 #[vi p1, vi p2, vu, vu, vu, vu, vu] [xr b1, xr b1]) _
    refine XS.iconst X16.here hx rfl (hb hby at_36) ?_
    show own_S p e below T16 (mkF m 37 #[vi p1, vi p2, vu, vu, vu, vu, vu] [xi (5 : Int32), xr b1, xr b1]) _
    refine st17 _ ?_
    show own_S p e below T17 (mkF m 40 #[vi p1, vi p2, vu, vu, vu, vu, vu] [xr u5, xi (5 : Int32), xr b1, xr b1]) _
    refine st19 _ ?_
    show own_S p e below T19 (mkF m 41 #[vi p1, vi p2, vu, vu, vu, vu, vu] [xr b1]) _
    refine XS.astoreN X19.here hx rfl (hb hby at_41) rfl rfl (l' := #[vi p1, vi p2, vr b1, vu, vu, vu, vu]) rfl ?_
    show own_S p e below T19 (mkF m 42 #[vi p1, vi p2, vr b1, vu, vu, vu, vu] []) _
    refine XS.bipush X19.here hx rfl (hb hby at_42) ?_
    show own_S p e below T19 (mkF m 44 #[vi p1, vi p2, vr b1, vu, vu, vu, vu] [xi (6 : Int32)]) _
    refine st20 _ ?_
    show own_S p e below T20 (mkF m 46 #[vi p1, vi p2, vr b1, vu, vu, vu, vu] [xr b20]) _
    refine XS.dup X20.here hx rfl (hb hby at_46) rfl rfl ?_
    show own_S p e below T20 (mkF m 47 #[vi p1, vi p2, vr b1, vu, vu, vu, vu] [xr b20, xr b20]) _
    refine XS.iconst X20.here hx rfl (hb hby at_47) ?_
    show own_S p e below T20 (mkF m 48 #[vi p1, vi p2, vr b1, vu, vu, vu, vu] [xi (0 : Int32), xr b20, xr b20]) _
    refine XS.iconst X20.here hx rfl (hb hby at_48) ?_
    show own_S p e below T20 (mkF m 49 #[vi p1, vi p2, vr b1, vu, vu, vu, vu] [xi (2 : Int32), xi (0 : Int32), xr b20, xr b20]) _
    refine st22 _ ?_
    show own_S p e below T22 (mkF m 50 #[vi p1, vi p2, vr b1, vu, vu, vu, vu] [xr b20]) _
    refine XS.dup X22.here hx rfl (hb hby at_50) rfl rfl ?_
    show own_S p e below T22 (mkF m 51 #[vi p1, vi p2, vr b1, vu, vu, vu, vu] [xr b20, xr b20]) _
    refine XS.iconst X22.here hx rfl (hb hby at_51) ?_
    show own_S p e below T22 (mkF m 52 #[vi p1, vi p2, vr b1, vu, vu, vu, vu] [xi (1 : Int32), xr b20, xr b20]) _
    refine XS.iconst X22.here hx rfl (hb hby at_52) ?_
    show own_S p e below T22 (mkF m 53 #[vi p1, vi p2, vr b1, vu, vu, vu, vu] [xi (5 : Int32), xi (1 : Int32), xr b20, xr b20]) _
    refine st24 _ ?_
    show own_S p e below T24 (mkF m 54 #[vi p1, vi p2, vr b1, vu, vu, vu, vu] [xr b20]) _
    refine XS.dup X24.here hx rfl (hb hby at_54) rfl rfl ?_
    show own_S p e below T24 (mkF m 55 #[vi p1, vi p2, vr b1, vu, vu, vu, vu] [xr b20, xr b20]) _
    refine XS.iconst X24.here hx rfl (hb hby at_55) ?_
    show own_S p e below T24 (mkF m 56 #[vi p1, vi p2, vr b1, vu, vu, vu, vu] [xi (2 : Int32), xr b20, xr b20]) _
    refine XS.iconst X24.here hx rfl (hb hby at_56) ?_
    show own_S p e below T24 (mkF m 57 #[vi p1, vi p2, vr b1, vu, vu, vu, vu] [xi (1 : Int32), xi (2 : Int32), xr b20, xr b20]) _
    refine st26 _ ?_
    show own_S p e below T26 (mkF m 58 #[vi p1, vi p2, vr b1, vu, vu, vu, vu] [xr b20]) _
    refine XS.dup X26.here hx rfl (hb hby at_58) rfl rfl ?_
    show own_S p e below T26 (mkF m 59 #[vi p1, vi p2, vr b1, vu, vu, vu, vu] [xr b20, xr b20]) _
    refine XS.iconst X26.here hx rfl (hb hby at_59) ?_
    show own_S p e below T26 (mkF m 60 #[vi p1, vi p2, vr b1, vu, vu, vu, vu] [xi (3 : Int32), xr b20, xr b20]) _
    refine XS.iconst X26.here hx rfl (hb hby at_60) ?_
    show own_S p e below T26 (mkF m 61 #[vi p1, vi p2, vr b1, vu, vu, vu, vu] [xi (3 : Int32), xi (3 : Int32), xr b20, xr b20]) _
    refine st28 _ ?_
    show own_S p e below T28 (mkF m 62 #[vi p1, vi p2, vr b1, vu, vu, vu, vu] [xr b20]) _
    refine XS.dup X28.here hx rfl (hb hby at_62) rfl rfl ?_
    show own_S p e below T28 (mkF m 63 #[vi p1, vi p2, vr b1, vu, vu, vu, vu] [xr b20, xr b20]) _
    refine XS.iconst X28.here hx rfl (hb hby at_63) ?_
    show own_S p e below T28 (mkF m 64 #[vi p1, vi p2, vr b1, vu, vu, vu, vu] [xi (4 : Int32), xr b20, xr b20]) _
    refine XS.iconst X28.here hx rfl (hb hby at_64) ?_
    show own_S p e below T28 (mkF m 65 #[vi p1, vi p2, vr b1, vu, vu, vu, vu] [xi (4 : Int32), xi (4 : Int32), xr b20, xr b20]) _
    refine st30 _ ?_
    show own_S p e below T30 (mkF m 66 #[vi p1, vi p2, vr b1, vu, vu, vu, vu] [xr b20]) _
    refine XS.dup X30.here hx rfl (hb hby at_66) rfl rfl ?_
    show own_S p e below T30 (mkF m 67 #[vi p1, vi p2, vr b1, vu, vu, vu, vu] [xr b20, xr b20]) _
    refine XS.iconst X30.here hx rfl (hb hby at_67) ?_
    show own_S p e below T30 (mkF m 68 #[vi p1, vi p2, vr b1, vu, vu, vu, vu] [xi (5 : Int32), xr b20, xr b20]) _
    refine XS.bipush X30.here hx rfl (hb hby at_68) ?_
    show own_S p e below T30 (mkF m 70 #[vi p1, vi p2, vr b1, vu, vu, vu, vu] [xi (6 : Int32), xi (5 : Int32), xr b20, xr b20]) _
    refine st32 _ ?_
    show own_S p e below T32 (mkF m 71 #[vi p1, vi p2, vr b1, vu, vu, vu, vu] [xr b20]) _
    refine XS.astoreN X32.here hx rfl (hb hby at_71) rfl rfl (l' := #[vi p1, vi p2, vr b1, vr b20, vu, vu, vu]) rfl ?_
    show own_S p e below T32 (mkF m 72 #[vi p1, vi p2, vr b1, vr b20, vu, vu, vu] []) _
    refine XS.iloadN X32.here hx rfl (hb hby at_72) rfl ?_
    show own_S p e below T32 (mkF m 73 #[vi p1, vi p2, vr b1, vr b20, vu, vu, vu] [xi p1]) _
    refine X32.ldcI hx hown (mvT hZ (ww hw 17 rfl)) (g := (mkF m 73 #[vi p1, vi p2, vr b1, vr b20, vu, vu, vu] [xi p1])) rfl (hb hby at_73) ?_
    show own_S p e below T32 (mkF m 75 #[vi p1, vi p2, vr b1, vr b20, vu, vu, vu] [xi (2147483647 : Int32), xi p1]) _
    refine XS.iand X32.here hx rfl (hb hby at_75) rfl ?_
    show own_S p e below T32 (mkF m 76 #[vi p1, vi p2, vr b1, vr b20, vu, vu, vu] [xi (p1 &&& (2147483647 : Int32))]) _
    show own_S p e below T32 (mkF m 76 #[vi p1, vi p2, vr b1, vr b20, vu, vu, vu] [xi (p1 &&& (2147483647 : Int32))]) _
    refine XS.bipush X32.here hx rfl (hb hby at_76) ?_
    show own_S p e below T32 (mkF m 78 #[vi p1, vi p2, vr b1, vr b20, vu, vu, vu] [xi (6 : Int32), xi (p1 &&& (2147483647 : Int32))]) _
    refine XS.irem X32.here hx rfl (hb hby at_78) rfl (by decide) ?_
    show own_S p e below T32 (mkF m 79 #[vi p1, vi p2, vr b1, vr b20, vu, vu, vu] [xi ((p1 &&& (2147483647 : Int32)) - ((p1 &&& (2147483647 : Int32)) / (6 : Int32)) * (6 : Int32))]) _
    refine castTop (show (mkF m 79 #[vi p1, vi p2, vr b1, vr b20, vu, vu, vu] [xi ((p1 &&& (2147483647 : Int32)) - ((p1 &&& (2147483647 : Int32)) / (6 : Int32)) * (6 : Int32))]) = (mkF m 79 #[vi p1, vi p2, vr b1, vr b20, vu, vu, vu] [xi (1 : Int32)]) from by rw [as13]) ?_
    show own_S p e below T32 (mkF m 79 #[vi p1, vi p2, vr b1, vr b20, vu, vu, vu] [xi (1 : Int32)]) _
    refine XS.istore X32.here hx rfl (hb hby at_79) rfl (l' := #[vi p1, vi p2, vr b1, vr b20, vi (1 : Int32), vu, vu]) rfl ?_
    show own_S p e below T32 (mkF m 81 #[vi p1, vi p2, vr b1, vr b20, vi (1 : Int32), vu, vu] []) _
    refine XS.iloadN X32.here hx rfl (hb hby at_81) rfl ?_
    show own_S p e below T32 (mkF m 82 #[vi p1, vi p2, vr b1, vr b20, vi (1 : Int32), vu, vu] [xi p2]) _
    refine XS.ifNo X32.here hx rfl (hb hby at_82) rfl as1 ?_
    show own_S p e below T32 (mkF m 85 #[vi p1, vi p2, vr b1, vr b20, vi (1 : Int32), vu, vu] []) _
    refine XS.iconst X32.here hx rfl (hb hby at_85) ?_
    show own_S p e below T32 (mkF m 86 #[vi p1, vi p2, vr b1, vr b20, vi (1 : Int32), vu, vu] [xi (0 : Int32)]) _
    refine XS.istore X32.here hx rfl (hb hby at_86) rfl (l' := #[vi p1, vi p2, vr b1, vr b20, vi (1 : Int32), vi (0 : Int32), vu]) rfl ?_
    show own_S p e below T32 (mkF m 88 #[vi p1, vi p2, vr b1, vr b20, vi (1 : Int32), vi (0 : Int32), vu] []) _
    refine XS.goto X32.here hx rfl (pc0 := 88) (pc' := 104) rfl (hb hby at_88) (by decide) (by decide) ?_
    show own_S p e below T32 (mkF m 104 #[vi p1, vi p2, vr b1, vr b20, vi (1 : Int32), vi (0 : Int32), vu] []) _
    refine XS.aloadN X32.here hx rfl (hb hby at_104) rfl rfl ?_
    show own_S p e below T32 (mkF m 105 #[vi p1, vi p2, vr b1, vr b20, vi (1 : Int32), vi (0 : Int32), vu] [xr b20]) _
    refine XS.iload X32.here hx rfl (hb hby at_105) rfl ?_
    show own_S p e below T32 (mkF m 107 #[vi p1, vi p2, vr b1, vr b20, vi (1 : Int32), vi (0 : Int32), vu] [xi (1 : Int32), xr b20]) _
    refine X32.iaload hx (j := (1 : Int32)) (v := (xi (5 : Int32))) (by rw [e32]; exact Ar33.1) (State.isArrayOf_alike hZ.alike Ar33.2.1) Ar33.2.2 hin33 hat33 (g := (mkF m 107 #[vi p1, vi p2, vr b1, vr b20, vi (1 : Int32), vi (0 : Int32), vu] [xi (1 : Int32), xr b20])) rfl rfl (hb hby at_107) _ ?_
    show own_S p e below T32 (mkF m 108 #[vi p1, vi p2, vr b1, vr b20, vi (1 : Int32), vi (0 : Int32), vu] [xi (5 : Int32)]) _
    refine XS.iload X32.here hx rfl (hb hby at_108) rfl ?_
    show own_S p e below T32 (mkF m 110 #[vi p1, vi p2, vr b1, vr b20, vi (1 : Int32), vi (0 : Int32), vu] [xi (0 : Int32), xi (5 : Int32)]) _
    refine XS.ishr X32.here hx rfl (hb hby at_110) rfl ?_
    show own_S p e below T32 (mkF m 111 #[vi p1, vi p2, vr b1, vr b20, vi (1 : Int32), vi (0 : Int32), vu] [xi ((5 : Int32) >>> ((0 : Int32) &&& 31))]) _
    refine castTop (show (mkF m 111 #[vi p1, vi p2, vr b1, vr b20, vi (1 : Int32), vi (0 : Int32), vu] [xi ((5 : Int32) >>> ((0 : Int32) &&& 31))]) = (mkF m 111 #[vi p1, vi p2, vr b1, vr b20, vi (1 : Int32), vi (0 : Int32), vu] [xi (5 : Int32)]) from by rw [show ((5 : Int32) >>> ((0 : Int32) &&& 31)) = (5 : Int32) from by decide]) ?_
    show own_S p e below T32 (mkF m 111 #[vi p1, vi p2, vr b1, vr b20, vi (1 : Int32), vi (0 : Int32), vu] [xi (5 : Int32)]) _
    refine XS.iconst X32.here hx rfl (hb hby at_111) ?_
    show own_S p e below T32 (mkF m 112 #[vi p1, vi p2, vr b1, vr b20, vi (1 : Int32), vi (0 : Int32), vu] [xi (1 : Int32), xi (5 : Int32)]) _
    refine XS.iand X32.here hx rfl (hb hby at_112) rfl ?_
    show own_S p e below T32 (mkF m 113 #[vi p1, vi p2, vr b1, vr b20, vi (1 : Int32), vi (0 : Int32), vu] [xi ((5 : Int32) &&& (1 : Int32))]) _
    refine castTop (show (mkF m 113 #[vi p1, vi p2, vr b1, vr b20, vi (1 : Int32), vi (0 : Int32), vu] [xi ((5 : Int32) &&& (1 : Int32))]) = (mkF m 113 #[vi p1, vi p2, vr b1, vr b20, vi (1 : Int32), vi (0 : Int32), vu] [xi (1 : Int32)]) from by rw [show ((5 : Int32) &&& (1 : Int32)) = (1 : Int32) from by decide]) ?_
    show own_S p e below T32 (mkF m 113 #[vi p1, vi p2, vr b1, vr b20, vi (1 : Int32), vi (0 : Int32), vu] [xi (1 : Int32)]) _
    refine XS.ifNo X32.here hx rfl (hb hby at_113) rfl (by decide) ?_
    show own_S p e below T32 (mkF m 116 #[vi p1, vi p2, vr b1, vr b20, vi (1 : Int32), vi (0 : Int32), vu] []) _
    refine XS.iconst X32.here hx rfl (hb hby at_116) ?_
    show own_S p e below T32 (mkF m 117 #[vi p1, vi p2, vr b1, vr b20, vi (1 : Int32), vi (0 : Int32), vu] [xi (1 : Int32)]) _
    refine XS.goto X32.here hx rfl (pc0 := 117) (pc' := 121) rfl (hb hby at_117) (by decide) (by decide) ?_
    show own_S p e below T32 (mkF m 121 #[vi p1, vi p2, vr b1, vr b20, vi (1 : Int32), vi (0 : Int32), vu] [xi (1 : Int32)]) _
    refine XS.istore X32.here hx rfl (hb hby at_121) rfl (l' := #[vi p1, vi p2, vr b1, vr b20, vi (1 : Int32), vi (0 : Int32), vi (1 : Int32)]) rfl ?_
    show own_S p e below T32 (mkF m 123 #[vi p1, vi p2, vr b1, vr b20, vi (1 : Int32), vi (0 : Int32), vi (1 : Int32)] []) _
    refine XS.aloadN X32.here hx rfl (hb hby at_123) rfl rfl ?_
    show own_S p e below T32 (mkF m 124 #[vi p1, vi p2, vr b1, vr b20, vi (1 : Int32), vi (0 : Int32), vi (1 : Int32)] [xr b1]) _
    refine XS.iload X32.here hx rfl (hb hby at_124) rfl ?_
    show own_S p e below T32 (mkF m 126 #[vi p1, vi p2, vr b1, vr b20, vi (1 : Int32), vi (0 : Int32), vi (1 : Int32)] [xi (1 : Int32), xr b1]) _
    refine X32.aaload hx (j := (1 : Int32)) (v := (xr u1)) (by rw [e32]; exact Ar34.1) (State.isArrayOf_alike hZ.alike Ar34.2.1) rfl Ar34.2.2 hin34 hat34 (g := (mkF m 126 #[vi p1, vi p2, vr b1, vr b20, vi (1 : Int32), vi (0 : Int32), vi (1 : Int32)] [xi (1 : Int32), xr b1])) rfl rfl (hb hby at_126) _ ?_
    show own_S p e below T32 (mkF m 127 #[vi p1, vi p2, vr b1, vr b20, vi (1 : Int32), vi (0 : Int32), vi (1 : Int32)] [xr u1]) _
    refine XS.iloadN X32.here hx rfl (hb hby at_127) rfl ?_
    show own_S p e below T32 (mkF m 128 #[vi p1, vi p2, vr b1, vr b20, vi (1 : Int32), vi (0 : Int32), vi (1 : Int32)] [xi p2, xr u1]) _
    refine st35.trans ?_
    show own_S p e below T35 (mkF m 131 #[vi p1, vi p2, vr b1, vr b20, vi (1 : Int32), vi (0 : Int32), vi (1 : Int32)] [xi (1 : Int32)]) _
    refine XS.iload X35.here hx rfl (hb hby at_131) rfl ?_
    show own_S p e below T35 (mkF m 133 #[vi p1, vi p2, vr b1, vr b20, vi (1 : Int32), vi (0 : Int32), vi (1 : Int32)] [xi (1 : Int32), xi (1 : Int32)]) _
    refine XS.icmpNo X35.here hx rfl (hb hby at_133) rfl (by decide) ?_
    show own_S p e below T35 (mkF m 136 #[vi p1, vi p2, vr b1, vr b20, vi (1 : Int32), vi (0 : Int32), vi (1 : Int32)] []) _
    refine XS.iconst X35.here hx rfl (hb hby at_136) ?_
    show own_S p e below T35 (mkF m 137 #[vi p1, vi p2, vr b1, vr b20, vi (1 : Int32), vi (0 : Int32), vi (1 : Int32)] [xi (1 : Int32)]) _
    refine XS.goto X35.here hx rfl (pc0 := 137) (pc' := 141) rfl (hb hby at_137) (by decide) (by decide) ?_
    show own_S p e below T35 (mkF m 141 #[vi p1, vi p2, vr b1, vr b20, vi (1 : Int32), vi (0 : Int32), vi (1 : Int32)] [xi (1 : Int32)]) _
    exact retN X35 hx (t := .boolean) Bd.returns (by simp) (hb hby at_141) hr
  · exact ⟨rfl, N35⟩
theorem d1_74 : decode prog_62_method_8_code 74 = .ok (.iconst 0, 1) := by decide +kernel
theorem d1_75 : decode prog_62_method_8_code 75 = .ok (.goto 48, 3) := by decide +kernel
theorem ef_own_c5_holds (m : MethodId) (u0 u1 u2 u3 u4 u5 : Addr) (p2 : Int32) : entryFrame m #[xr u1, xi p2] 2 = (mkF m 0 #[vr u1, vi p2] []) := by first | (simp [entryFrame, mkF, argsToLocals, Value.category]; done) | rfl
set_option maxRecDepth 65536 in
set_option maxHeartbeats 40000000 in
theorem own_c5_holds (l : Launch) (Z : State) (a0 : Array Value) (hw : ∀ d ∈ tables_1, d.before a0 Z = true) (u0 u1 u2 u3 u4 u5 : Addr) (G : own_St Z u0 u1 u2 u3 u4 u5) (p2 : Int32) (as8 : ifCond.holds .eq p2 = true) (h0 : Heap) (n0 : Nat) (O0 : Old Z n0 h0) : own_Met l Z Y2 prog_62_method_8_code 2 (some .boolean) ({ frames := 1, cells := 0, slots := 0, locals := 12 } : Room) #[xr u1, xi p2] h0 (own_QR (some (xi (0 : Int32))) h0 n0) := by
  intro ws
  refine MetFree.of_bodySF (plainFor_of_name pn1) hisR ?_
  intro p e s m args below meth c s₁ Bd hml0 hP hK
  obtain ⟨rfl, hZ, hh⟩ := hP
  have hx := Bd.exec
  have hby := Bd.bytes
  have hml : c.maxLocals = 2 := hml0
  have hown : s.vm.findClass "com/example/whyle/whyle/cfa/Relation" = some m.cls := findClass_of_methodNamed Bd.named
  have hnm := (name_of_methodNamed Bd.named Bd.method).1
  have X0 : Stand p l e ({ frames := 1, cells := 0, slots := 0, locals := 12 } : Room) s m #[xr u1, xi p2] below meth c s₁ [] 0 0 := Stand.of_body Bd
  have e0 : s₁.heap = h0 := by rw [← hh, Bd.state]; rfl
  have N0 := Fr.nil n0
  have pre0 : ∀ t, Steps p.tables e below (s₁.setTop (mkF m 0 #[vr u1, vi p2] [])) t → Steps p.tables e below (s₁.setTop (entryFrame m #[xr u1, xi p2] 2)) t := fun t st => castTop (ef_own_c5_holds m u0 u1 u2 u3 u4 u5 p2) st
  obtain ⟨cq1, kq1, qa1, qb1, qc1⟩ := isOf hZ e0 ((own_X_u1 G).ext O0.2)
  obtain ⟨_, _, ⟨T1, L1, k1, n1⟩, -, X1, ⟨Lc1, hQ1, l1, y1, z1⟩, st1⟩ := X0.virtualBackUp hx (x := Y1) (y := Y0) hown (mvT hZ (ww hw 23 rfl)) (mvT hZ (ww hw 24 rfl)) (mvT hZ (ww hw 25 rfl)) (by decide) (mvT hZ (ww hw 27 rfl)) (mvT hZ (ww hw 26 rfl)) (backOf (W := 0) (own_c3_ordinal l Z a0 hw u0 u1 u2 u3 u4 u5 G h0 n0 O0 []) hZ (ww hw 29 rfl) (ww hw 28 rfl) (by decide) (by decide)) qa1 qc1 (g := (mkF m 1 #[vr u1, vi p2] [xr u1])) rfl (by rw [hml]; rfl) (Steps.refl _) (argsL := []) (rest := []) (lenOf pd0 rfl) rfl (by show 2 * 0 + _ ≤ _; exact Nat.le_of_eq rfl) (hb hby d1_1) (fun _ _ => ⟨rfl, e0, (by decide : 0 + 0 ≤ _), (by decide : 0 + 0 ≤ _)⟩)
  dsimp only [Pt.U, Pt.locs, Pt.cells, Pt.slots] at X1 l1 y1 z1 st1 hQ1
  subst l1 y1 z1
  obtain ⟨rfl, Nq1, e1⟩ := hQ1
  have N1 := Fr.app N0 Nq1
  obtain ⟨fs, hr, hrun, hended, hW, hsame⟩ := X1.leave (v := some (xi (0 : Int32))) (fun h => by rw [Bd.returns] at h; cases h)
  refine ⟨_, _, pre0 _ ?_, hrun, hended, _, _, rfl, ?_, ⟨_, rfl⟩, hW, hsame.mono (by decide) (by decide)⟩
  · show own_S p e below s₁ (mkF m 0 #[vr u1, vi p2] []) _
    refine XS.aloadN X0.here hx rfl (hb hby d1_0) rfl rfl ?_
    show own_S p e below s₁ (mkF m 1 #[vr u1, vi p2] [xr u1]) _
    refine st1.trans ?_
    show own_S p e below T1 (mkF m 4 #[vr u1, vi p2] [xi (1 : Int32)]) _
    refine XS.tswIn X1.here hx rfl (pc0 := 4) (pc' := 66) (o := 62) rfl (hb hby d1_4) rfl (by decide) (by decide) (by decide) (by decide) ?_
    show own_S p e below T1 (mkF m 66 #[vr u1, vi p2] []) _
    refine XS.iloadN X1.here hx rfl (hb hby d1_66) rfl ?_
    show own_S p e below T1 (mkF m 67 #[vr u1, vi p2] [xi p2]) _
    refine XS.ifYes X1.here hx rfl (pc0 := 67) (pc' := 74) rfl (hb hby d1_67) rfl as8 (by decide) (by decide) ?_
    show own_S p e below T1 (mkF m 74 #[vr u1, vi p2] []) _
    refine XS.iconst X1.here hx rfl (hb hby d1_74) ?_
    show own_S p e below T1 (mkF m 75 #[vr u1, vi p2] [xi (0 : Int32)]) _
    refine XS.goto X1.here hx rfl (pc0 := 75) (pc' := 123) rfl (hb hby d1_75) (by decide) (by decide) ?_
    show own_S p e below T1 (mkF m 123 #[vr u1, vi p2] [xi (0 : Int32)]) _
    exact retN X1 hx (t := .boolean) Bd.returns (by simp) (hb hby d1_123) hr
  · exact ⟨rfl, N1, e1⟩
theorem ef_own_l4 (m : MethodId) (u0 u1 u2 u3 u4 u5 : Addr) (p1 : Int32) (p2 : Int32) : entryFrame m #[xi p1, xi p2] maxLocals = (mkF m 0 #[vi p1, vi p2, vu, vu, vu, vu, vu] []) := by first | (simp [entryFrame, mkF, argsToLocals, Value.category, maxLocals]; done) | rfl
set_option maxRecDepth 65536 in
set_option maxHeartbeats 40000000 in
theorem own_l4 (l : Launch) (Z : State) (a0 : Array Value) (hw : ∀ d ∈ tables_1, d.before a0 Z = true) (u0 u1 u2 u3 u4 u5 : Addr) (G : own_St Z u0 u1 u2 u3 u4 u5) (p1 : Int32) (p2 : Int32) (as13 : ((p1 &&& (2147483647 : Int32)) - ((p1 &&& (2147483647 : Int32)) / (6 : Int32)) * (6 : Int32)) = (1 : Int32)) (as7 : ifCond.holds .ge p2 = true) (as9 : ifCond.holds .ne p2 = false) (as8 : ifCond.holds .eq p2 = true) (h0 : Heap) (n0 : Nat) (O0 : Old Z n0 h0) : own_Met l Z x code maxLocals ret room_1 #[xi p1, xi p2] h0 (own_QL (some (xi (1 : Int32))) n0) := by
  intro ws
  refine MetFree.of_bodySF (plainFor_of_name pn2) hisR ?_
  intro p e s m args below meth c s₁ Bd hml0 hP hK
  obtain ⟨rfl, hZ, hh⟩ := hP
  have hx := Bd.exec
  have hby := Bd.bytes
  have hml : c.maxLocals = 7 := hml0
  have hown : s.vm.findClass "com/example/whyle/whyle/cfa/RelationHoldsPinLaw" = some m.cls := findClass_of_methodNamed Bd.named
  have hnm := (name_of_methodNamed Bd.named Bd.method).1
  have X0 : Stand p l e room_1 s m #[xi p1, xi p2] below meth c s₁ [] 0 0 := Stand.of_body Bd
  have e0 : s₁.heap = h0 := by rw [← hh, Bd.state]; rfl
  have N0 := Fr.nil n0
  have pre0 : ∀ t, Steps p.tables e below (s₁.setTop (mkF m 0 #[vi p1, vi p2, vu, vu, vu, vu, vu] [])) t → Steps p.tables e below (s₁.setTop (entryFrame m #[xi p1, xi p2] maxLocals)) t := fun t st => castTop (ef_own_l4 m u0 u1 u2 u3 u4 u5 p1 p2) st
  obtain ⟨T1, h1, k1, X1, e1, E1, A1, Ov1, st1⟩ := newR X0 hx hZ hown (ww hw 0 rfl) (ww hw 1 rfl) e0 (g := (mkF m 2 #[vi p1, vi p2, vu, vu, vu, vu, vu] [xi (6 : Int32)])) rfl (hb hby at_2) rfl (by decide) (cap := 6) (by decide) (by decide) (by decide) (by decide)
  obtain ⟨b1, g1⟩ : ∃ z, z = h0.size := ⟨_, rfl⟩
  rw [← g1] at A1 st1
  have g_b1 : n0 ≤ b1 := own_fresh O0 g1
  have O1 : Old Z n0 h1 := O0.ext E1
  have V_b1 : Arv Z h1 b1 k1 (.object "com/example/whyle/whyle/cfa/Relation") (6 : Int32) [.null, .null, .null, .null, .null, .null] .null := (Arv.new A1 (by decide)).pad (pad_rep [] .null 6)
  obtain ⟨T2, X2, e2, st2⟩ := getS2 X1 hx hZ hown (host := "") (Or.inl (ww hw 2 rfl)) Via.refl e1 ((own_S_u0 G).ext O1.2) (g := (mkF m 7 #[vi p1, vi p2, vu, vu, vu, vu, vu] [xi (0 : Int32), xr b1, xr b1])) rfl (hb hby at_7)
  obtain ⟨cl3, Ar3, q3, S3, N3_, H3, G3⟩ := V_b1
  have hin3 : ¬ ((0 : Int32) < 0 ∨ cl3.slots.size ≤ ((0 : Int32)).toNatClampNeg) := inb_of S3 ⟨by decide, by decide⟩
  obtain ⟨T4, h4, X4, e4, W4, st4⟩ := stR X2 hx hZ e2 Ar3 (j := (0 : Int32)) hin3 rfl (Sto.ofV Ar3 q3 Ov1 (Ins.self ((own_X_u0 G).ext O1.2))) (g := (mkF m 10 #[vi p1, vi p2, vu, vu, vu, vu, vu] [xr u0, xi (0 : Int32), xr b1, xr b1])) rfl rfl (hb hby at_10)
  have V_b1_4 : Arv Z h4 b1 k1 (.object "com/example/whyle/whyle/cfa/Relation") (6 : Int32) [xr u0, .null, .null, .null, .null, .null] .null := Arv.set Ar3 q3 S3 N3_ H3 G3 rfl W4 0 rfl (Nat.le_of_ble_eq_true rfl)
  have O4 : Old Z n0 h4 := O1.wr W4 g_b1
  have N4 := Fr.snoc X4 N0 g_b1
  obtain ⟨T5, X5, e5, st5⟩ := getS2 X4 hx hZ hown (host := "") (Or.inl (ww hw 6 rfl)) Via.refl e4 ((own_S_u1 G).ext O4.2) (g := (mkF m 13 #[vi p1, vi p2, vu, vu, vu, vu, vu] [xi (1 : Int32), xr b1, xr b1])) rfl (hb hby at_13)
  obtain ⟨cl6, Ar6, q6, S6, N6_, H6, G6⟩ := V_b1_4
  have hin6 : ¬ ((1 : Int32) < 0 ∨ cl6.slots.size ≤ ((1 : Int32)).toNatClampNeg) := inb_of S6 ⟨by decide, by decide⟩
  obtain ⟨T7, h7, X7, e7, W7, st7⟩ := stR X5 hx hZ e5 Ar6 (j := (1 : Int32)) hin6 rfl (Sto.ofV Ar6 q6 Ov1 (Ins.self ((own_X_u1 G).ext O4.2))) (g := (mkF m 16 #[vi p1, vi p2, vu, vu, vu, vu, vu] [xr u1, xi (1 : Int32), xr b1, xr b1])) rfl rfl (hb hby at_16)
  have V_b1_7 : Arv Z h7 b1 k1 (.object "com/example/whyle/whyle/cfa/Relation") (6 : Int32) [xr u0, xr u1, .null, .null, .null, .null] .null := Arv.set Ar6 q6 S6 N6_ H6 G6 rfl W7 1 rfl (Nat.le_of_ble_eq_true rfl)
  have O7 : Old Z n0 h7 := O4.wr W7 g_b1
  have N7 := Fr.snoc X7 N4 g_b1
  obtain ⟨T8, X8, e8, st8⟩ := getS2 X7 hx hZ hown (host := "") (Or.inl (ww hw 8 rfl)) Via.refl e7 ((own_S_u2 G).ext O7.2) (g := (mkF m 19 #[vi p1, vi p2, vu, vu, vu, vu, vu] [xi (2 : Int32), xr b1, xr b1])) rfl (hb hby at_19)
  obtain ⟨cl9, Ar9, q9, S9, N9_, H9, G9⟩ := V_b1_7
  have hin9 : ¬ ((2 : Int32) < 0 ∨ cl9.slots.size ≤ ((2 : Int32)).toNatClampNeg) := inb_of S9 ⟨by decide, by decide⟩
  obtain ⟨T10, h10, X10, e10, W10, st10⟩ := stR X8 hx hZ e8 Ar9 (j := (2 : Int32)) hin9 rfl (Sto.ofV Ar9 q9 Ov1 (Ins.self ((own_X_u2 G).ext O7.2))) (g := (mkF m 22 #[vi p1, vi p2, vu, vu, vu, vu, vu] [xr u2, xi (2 : Int32), xr b1, xr b1])) rfl rfl (hb hby at_22)
  have V_b1_10 : Arv Z h10 b1 k1 (.object "com/example/whyle/whyle/cfa/Relation") (6 : Int32) [xr u0, xr u1, xr u2, .null, .null, .null] .null := Arv.set Ar9 q9 S9 N9_ H9 G9 rfl W10 2 rfl (Nat.le_of_ble_eq_true rfl)
  have O10 : Old Z n0 h10 := O7.wr W10 g_b1
  have N10 := Fr.snoc X10 N7 g_b1
  obtain ⟨T11, X11, e11, st11⟩ := getS2 X10 hx hZ hown (host := "") (Or.inl (ww hw 10 rfl)) Via.refl e10 ((own_S_u3 G).ext O10.2) (g := (mkF m 25 #[vi p1, vi p2, vu, vu, vu, vu, vu] [xi (3 : Int32), xr b1, xr b1])) rfl (hb hby at_25)
  obtain ⟨cl12, Ar12, q12, S12, N12_, H12, G12⟩ := V_b1_10
  have hin12 : ¬ ((3 : Int32) < 0 ∨ cl12.slots.size ≤ ((3 : Int32)).toNatClampNeg) := inb_of S12 ⟨by decide, by decide⟩
  obtain ⟨T13, h13, X13, e13, W13, st13⟩ := stR X11 hx hZ e11 Ar12 (j := (3 : Int32)) hin12 rfl (Sto.ofV Ar12 q12 Ov1 (Ins.self ((own_X_u3 G).ext O10.2))) (g := (mkF m 28 #[vi p1, vi p2, vu, vu, vu, vu, vu] [xr u3, xi (3 : Int32), xr b1, xr b1])) rfl rfl (hb hby at_28)
  have V_b1_13 : Arv Z h13 b1 k1 (.object "com/example/whyle/whyle/cfa/Relation") (6 : Int32) [xr u0, xr u1, xr u2, xr u3, .null, .null] .null := Arv.set Ar12 q12 S12 N12_ H12 G12 rfl W13 3 rfl (Nat.le_of_ble_eq_true rfl)
  have O13 : Old Z n0 h13 := O10.wr W13 g_b1
  have N13 := Fr.snoc X13 N10 g_b1
  obtain ⟨T14, X14, e14, st14⟩ := getS2 X13 hx hZ hown (host := "") (Or.inl (ww hw 12 rfl)) Via.refl e13 ((own_S_u4 G).ext O13.2) (g := (mkF m 31 #[vi p1, vi p2, vu, vu, vu, vu, vu] [xi (4 : Int32), xr b1, xr b1])) rfl (hb hby at_31)
  obtain ⟨cl15, Ar15, q15, S15, N15_, H15, G15⟩ := V_b1_13
  have hin15 : ¬ ((4 : Int32) < 0 ∨ cl15.slots.size ≤ ((4 : Int32)).toNatClampNeg) := inb_of S15 ⟨by decide, by decide⟩
  obtain ⟨T16, h16, X16, e16, W16, st16⟩ := stR X14 hx hZ e14 Ar15 (j := (4 : Int32)) hin15 rfl (Sto.ofV Ar15 q15 Ov1 (Ins.self ((own_X_u4 G).ext O13.2))) (g := (mkF m 34 #[vi p1, vi p2, vu, vu, vu, vu, vu] [xr u4, xi (4 : Int32), xr b1, xr b1])) rfl rfl (hb hby at_34)
  have V_b1_16 : Arv Z h16 b1 k1 (.object "com/example/whyle/whyle/cfa/Relation") (6 : Int32) [xr u0, xr u1, xr u2, xr u3, xr u4, .null] .null := Arv.set Ar15 q15 S15 N15_ H15 G15 rfl W16 4 rfl (Nat.le_of_ble_eq_true rfl)
  have O16 : Old Z n0 h16 := O13.wr W16 g_b1
  have N16 := Fr.snoc X16 N13 g_b1
  obtain ⟨T17, X17, e17, st17⟩ := getS2 X16 hx hZ hown (host := "") (Or.inl (ww hw 14 rfl)) Via.refl e16 ((own_S_u5 G).ext O16.2) (g := (mkF m 37 #[vi p1, vi p2, vu, vu, vu, vu, vu] [xi (5 : Int32), xr b1, xr b1])) rfl (hb hby at_37)
  obtain ⟨cl18, Ar18, q18, S18, N18_, H18, G18⟩ := V_b1_16
  have hin18 : ¬ ((5 : Int32) < 0 ∨ cl18.slots.size ≤ ((5 : Int32)).toNatClampNeg) := inb_of S18 ⟨by decide, by decide⟩
  obtain ⟨T19, h19, X19, e19, W19, st19⟩ := stR X17 hx hZ e17 Ar18 (j := (5 : Int32)) hin18 rfl (Sto.ofV Ar18 q18 Ov1 (Ins.self ((own_X_u5 G).ext O16.2))) (g := (mkF m 40 #[vi p1, vi p2, vu, vu, vu, vu, vu] [xr u5, xi (5 : Int32), xr b1, xr b1])) rfl rfl (hb hby at_40)
  have V_b1_19 : Arv Z h19 b1 k1 (.object "com/example/whyle/whyle/cfa/Relation") (6 : Int32) [xr u0, xr u1, xr u2, xr u3, xr u4, xr u5] .null := Arv.set Ar18 q18 S18 N18_ H18 G18 rfl W19 5 rfl (Nat.le_of_ble_eq_true rfl)
  have O19 : Old Z n0 h19 := O16.wr W19 g_b1
  have N19 := Fr.snoc X19 N16 g_b1
  obtain ⟨T20, h20, k20, X20, e20, E20, A20, st20⟩ := newP X19 hx hZ (ww hw 16 rfl) e19 (g := (mkF m 44 #[vi p1, vi p2, vr b1, vu, vu, vu, vu] [xi (6 : Int32)])) rfl (hb hby at_44) rfl (by decide) (cap := 6) (by decide) (by decide) (by decide) (by decide)
  obtain ⟨b20, g20⟩ : ∃ z, z = h19.size := ⟨_, rfl⟩
  rw [← g20] at A20 st20
  have g_b20 : n0 ≤ b20 := own_fresh O19 g20
  have ne_b1_b20 : b1 ≠ b20 := Nat.ne_of_lt (Nat.lt_of_lt_of_le (V_b1_19).lt (Nat.le_of_eq g20.symm))
  have O20 : Old Z n0 h20 := O19.ext E20
  have V_b1_20 := V_b1_19.ext E20
  have V_b20 : Arv Z h20 b20 k20 .int (6 : Int32) [(.int (0 : Int32)), (.int (0 : Int32)), (.int (0 : Int32)), (.int (0 : Int32)), (.int (0 : Int32)), (.int (0 : Int32))] (.int (0 : Int32)) := (Arv.new A20 (by decide)).pad (pad_rep [] (.int (0 : Int32)) 6)
  obtain ⟨cl21, Ar21, q21, S21, N21_, H21, G21⟩ := V_b20
  have hin21 : ¬ ((0 : Int32) < 0 ∨ cl21.slots.size ≤ ((0 : Int32)).toNatClampNeg) := inb_of S21 ⟨by decide, by decide⟩
  obtain ⟨T22, h22, X22, e22, W22, st22⟩ := stI X20 hx hZ e20 Ar21 (j := (0 : Int32)) hin21 (g := (mkF m 49 #[vi p1, vi p2, vr b1, vu, vu, vu, vu] [xi (2 : Int32), xi (0 : Int32), xr b20, xr b20])) rfl rfl (hb hby at_49)
  have V_b20_22 : Arv Z h22 b20 k20 .int (6 : Int32) [xi (2 : Int32), xi (0 : Int32), xi (0 : Int32), xi (0 : Int32), xi (0 : Int32), xi (0 : Int32)] (.int (0 : Int32)) := Arv.set Ar21 q21 S21 N21_ H21 G21 rfl W22 0 rfl (Nat.le_of_ble_eq_true rfl)
  have O22 : Old Z n0 h22 := O20.wr W22 g_b20
  have V_b1_22 := V_b1_20.other W22 ne_b1_b20
  have N22 := Fr.snoc X22 N19 g_b20
  obtain ⟨cl23, Ar23, q23, S23, N23_, H23, G23⟩ := V_b20_22
  have hin23 : ¬ ((1 : Int32) < 0 ∨ cl23.slots.size ≤ ((1 : Int32)).toNatClampNeg) := inb_of S23 ⟨by decide, by decide⟩
  obtain ⟨T24, h24, X24, e24, W24, st24⟩ := stI X22 hx hZ e22 Ar23 (j := (1 : Int32)) hin23 (g := (mkF m 53 #[vi p1, vi p2, vr b1, vu, vu, vu, vu] [xi (5 : Int32), xi (1 : Int32), xr b20, xr b20])) rfl rfl (hb hby at_53)
  have V_b20_24 : Arv Z h24 b20 k20 .int (6 : Int32) [xi (2 : Int32), xi (5 : Int32), xi (0 : Int32), xi (0 : Int32), xi (0 : Int32), xi (0 : Int32)] (.int (0 : Int32)) := Arv.set Ar23 q23 S23 N23_ H23 G23 rfl W24 1 rfl (Nat.le_of_ble_eq_true rfl)
  have O24 : Old Z n0 h24 := O22.wr W24 g_b20
  have V_b1_24 := V_b1_22.other W24 ne_b1_b20
  have N24 := Fr.snoc X24 N22 g_b20
  obtain ⟨cl25, Ar25, q25, S25, N25_, H25, G25⟩ := V_b20_24
  have hin25 : ¬ ((2 : Int32) < 0 ∨ cl25.slots.size ≤ ((2 : Int32)).toNatClampNeg) := inb_of S25 ⟨by decide, by decide⟩
  obtain ⟨T26, h26, X26, e26, W26, st26⟩ := stI X24 hx hZ e24 Ar25 (j := (2 : Int32)) hin25 (g := (mkF m 57 #[vi p1, vi p2, vr b1, vu, vu, vu, vu] [xi (1 : Int32), xi (2 : Int32), xr b20, xr b20])) rfl rfl (hb hby at_57)
  have V_b20_26 : Arv Z h26 b20 k20 .int (6 : Int32) [xi (2 : Int32), xi (5 : Int32), xi (1 : Int32), xi (0 : Int32), xi (0 : Int32), xi (0 : Int32)] (.int (0 : Int32)) := Arv.set Ar25 q25 S25 N25_ H25 G25 rfl W26 2 rfl (Nat.le_of_ble_eq_true rfl)
  have O26 : Old Z n0 h26 := O24.wr W26 g_b20
  have V_b1_26 := V_b1_24.other W26 ne_b1_b20
  have N26 := Fr.snoc X26 N24 g_b20
  obtain ⟨cl27, Ar27, q27, S27, N27_, H27, G27⟩ := V_b20_26
  have hin27 : ¬ ((3 : Int32) < 0 ∨ cl27.slots.size ≤ ((3 : Int32)).toNatClampNeg) := inb_of S27 ⟨by decide, by decide⟩
  obtain ⟨T28, h28, X28, e28, W28, st28⟩ := stI X26 hx hZ e26 Ar27 (j := (3 : Int32)) hin27 (g := (mkF m 61 #[vi p1, vi p2, vr b1, vu, vu, vu, vu] [xi (3 : Int32), xi (3 : Int32), xr b20, xr b20])) rfl rfl (hb hby at_61)
  have V_b20_28 : Arv Z h28 b20 k20 .int (6 : Int32) [xi (2 : Int32), xi (5 : Int32), xi (1 : Int32), xi (3 : Int32), xi (0 : Int32), xi (0 : Int32)] (.int (0 : Int32)) := Arv.set Ar27 q27 S27 N27_ H27 G27 rfl W28 3 rfl (Nat.le_of_ble_eq_true rfl)
  have O28 : Old Z n0 h28 := O26.wr W28 g_b20
  have V_b1_28 := V_b1_26.other W28 ne_b1_b20
  have N28 := Fr.snoc X28 N26 g_b20
  obtain ⟨cl29, Ar29, q29, S29, N29_, H29, G29⟩ := V_b20_28
  have hin29 : ¬ ((4 : Int32) < 0 ∨ cl29.slots.size ≤ ((4 : Int32)).toNatClampNeg) := inb_of S29 ⟨by decide, by decide⟩
  obtain ⟨T30, h30, X30, e30, W30, st30⟩ := stI X28 hx hZ e28 Ar29 (j := (4 : Int32)) hin29 (g := (mkF m 65 #[vi p1, vi p2, vr b1, vu, vu, vu, vu] [xi (4 : Int32), xi (4 : Int32), xr b20, xr b20])) rfl rfl (hb hby at_65)
  have V_b20_30 : Arv Z h30 b20 k20 .int (6 : Int32) [xi (2 : Int32), xi (5 : Int32), xi (1 : Int32), xi (3 : Int32), xi (4 : Int32), xi (0 : Int32)] (.int (0 : Int32)) := Arv.set Ar29 q29 S29 N29_ H29 G29 rfl W30 4 rfl (Nat.le_of_ble_eq_true rfl)
  have O30 : Old Z n0 h30 := O28.wr W30 g_b20
  have V_b1_30 := V_b1_28.other W30 ne_b1_b20
  have N30 := Fr.snoc X30 N28 g_b20
  obtain ⟨cl31, Ar31, q31, S31, N31_, H31, G31⟩ := V_b20_30
  have hin31 : ¬ ((5 : Int32) < 0 ∨ cl31.slots.size ≤ ((5 : Int32)).toNatClampNeg) := inb_of S31 ⟨by decide, by decide⟩
  obtain ⟨T32, h32, X32, e32, W32, st32⟩ := stI X30 hx hZ e30 Ar31 (j := (5 : Int32)) hin31 (g := (mkF m 70 #[vi p1, vi p2, vr b1, vu, vu, vu, vu] [xi (6 : Int32), xi (5 : Int32), xr b20, xr b20])) rfl rfl (hb hby at_70)
  have V_b20_32 : Arv Z h32 b20 k20 .int (6 : Int32) [xi (2 : Int32), xi (5 : Int32), xi (1 : Int32), xi (3 : Int32), xi (4 : Int32), xi (6 : Int32)] (.int (0 : Int32)) := Arv.set Ar31 q31 S31 N31_ H31 G31 rfl W32 5 rfl (Nat.le_of_ble_eq_true rfl)
  have O32 : Old Z n0 h32 := O30.wr W32 g_b20
  have V_b1_32 := V_b1_30.other W32 ne_b1_b20
  have N32 := Fr.snoc X32 N30 g_b20
  obtain ⟨cl33, Ar33, q33, S33, N33_, H33, G33⟩ := V_b20_32
  have hin33 : ¬ ((1 : Int32) < 0 ∨ cl33.slots.size ≤ ((1 : Int32)).toNatClampNeg) := inb_of S33 ⟨by decide, by decide⟩
  have hat33 : cl33.slots[((1 : Int32)).toNatClampNeg]? = some (xi (5 : Int32)) := Has.at H33 hin33 rfl
  obtain ⟨cl34, Ar34, q34, S34, N34_, H34, G34⟩ := V_b1_32
  have hin34 : ¬ ((1 : Int32) < 0 ∨ cl34.slots.size ≤ ((1 : Int32)).toNatClampNeg) := inb_of S34 ⟨by decide, by decide⟩
  have hat34 : cl34.slots[((1 : Int32)).toNatClampNeg]? = some (xr u1) := Has.at H34 hin34 rfl
  obtain ⟨cq35, kq35, qa35, qb35, qc35⟩ := isOf hZ e32 ((own_X_u1 G).ext O32.2)
  obtain ⟨_, _, ⟨T35, L35, k35, n35⟩, -, X35, ⟨Lc35, hQ35, l35, y35, z35⟩, st35⟩ := X32.virtualBack hx (y := Y2) (z := Y2) hown (mvT hZ (ww hw 18 rfl)) (mvT hZ (ww hw 19 rfl)) (notFace_of_selects (args := #[]) (mvT hZ (ww hw 21 rfl))) (mvT hZ (ww hw 21 rfl)) (mvT hZ (ww hw 20 rfl)) (by decide) (backOf (W := 0) (own_c5_holds l Z a0 hw u0 u1 u2 u3 u4 u5 G p2 as8 h32 n0 O32 []) hZ (ww hw 22 rfl) (ww hw 3 rfl) (by decide) (by decide)) qa35 qc35 (g := (mkF m 128 #[vi p1, vi p2, vr b1, vr b20, vi (1 : Int32), vi (1 : Int32), vi (0 : Int32)] [xi p2, xr u1])) rfl (by rw [hml]; rfl) (Steps.refl _) (argsL := [xi p2]) (rest := []) (lenOf pd1 rfl) rfl (by show 2 * 0 + _ ≤ _; exact Nat.le_of_eq rfl) (hb hby at_128) (fun _ _ => ⟨rfl, e32, (by decide : 2 + 0 ≤ _), (by decide : 12 + 0 ≤ _)⟩)
  dsimp only [Pt.U, Pt.locs, Pt.cells, Pt.slots] at X35 l35 y35 z35 st35 hQ35
  subst l35 y35 z35
  obtain ⟨rfl, Nq35, e35⟩ := hQ35
  have N35 := Fr.app N32 Nq35
  obtain ⟨fs, hr, hrun, hended, hW, hsame⟩ := X35.leave (v := some (xi (1 : Int32))) (fun h => by rw [Bd.returns] at h; cases h)
  refine ⟨_, _, pre0 _ ?_, hrun, hended, _, _, rfl, ?_, ⟨_, rfl⟩, hW, hsame.mono (by decide) (by decide)⟩
  · show own_S p e below s₁ (mkF m 0 #[vi p1, vi p2, vu, vu, vu, vu, vu] []) _
    refine XS.bipush X0.here hx rfl (hb hby at_0) ?_
    show own_S p e below s₁ (mkF m 2 #[vi p1, vi p2, vu, vu, vu, vu, vu] [xi (6 : Int32)]) _
    refine st1 _ ?_
    show own_S p e below T1 (mkF m 5 #[vi p1, vi p2, vu, vu, vu, vu, vu] [xr b1]) _
    refine XS.dup X1.here hx rfl (hb hby at_5) rfl rfl ?_
    show own_S p e below T1 (mkF m 6 #[vi p1, vi p2, vu, vu, vu, vu, vu] [xr b1, xr b1]) _
    refine XS.iconst X1.here hx rfl (hb hby at_6) ?_
    show own_S p e below T1 (mkF m 7 #[vi p1, vi p2, vu, vu, vu, vu, vu] [xi (0 : Int32), xr b1, xr b1]) _
    refine st2 _ ?_
    show own_S p e below T2 (mkF m 10 #[vi p1, vi p2, vu, vu, vu, vu, vu] [xr u0, xi (0 : Int32), xr b1, xr b1]) _
    refine st4 _ ?_
    show own_S p e below T4 (mkF m 11 #[vi p1, vi p2, vu, vu, vu, vu, vu] [xr b1]) _
    refine XS.dup X4.here hx rfl (hb hby at_11) rfl rfl ?_
    show own_S p e below T4 (mkF m 12 #[vi p1, vi p2, vu, vu, vu, vu, vu] [xr b1, xr b1]) _
    refine XS.iconst X4.here hx rfl (hb hby at_12) ?_
    show own_S p e below T4 (mkF m 13 #[vi p1, vi p2, vu, vu, vu, vu, vu] [xi (1 : Int32), xr b1, xr b1]) _
    refine st5 _ ?_
    show own_S p e below T5 (mkF m 16 #[vi p1, vi p2, vu, vu, vu, vu, vu] [xr u1, xi (1 : Int32), xr b1, xr b1]) _
    refine st7 _ ?_
    show own_S p e below T7 (mkF m 17 #[vi p1, vi p2, vu, vu, vu, vu, vu] [xr b1]) _
    refine XS.dup X7.here hx rfl (hb hby at_17) rfl rfl ?_
    show own_S p e below T7 (mkF m 18 #[vi p1, vi p2, vu, vu, vu, vu, vu] [xr b1, xr b1]) _
    refine XS.iconst X7.here hx rfl (hb hby at_18) ?_
    show own_S p e below T7 (mkF m 19 #[vi p1, vi p2, vu, vu, vu, vu, vu] [xi (2 : Int32), xr b1, xr b1]) _
    refine st8 _ ?_
    show own_S p e below T8 (mkF m 22 #[vi p1, vi p2, vu, vu, vu, vu, vu] [xr u2, xi (2 : Int32), xr b1, xr b1]) _
    refine st10 _ ?_
    show own_S p e below T10 (mkF m 23 #[vi p1, vi p2, vu, vu, vu, vu, vu] [xr b1]) _
    refine XS.dup X10.here hx rfl (hb hby at_23) rfl rfl ?_
    show own_S p e below T10 (mkF m 24 #[vi p1, vi p2, vu, vu, vu, vu, vu] [xr b1, xr b1]) _
    refine XS.iconst X10.here hx rfl (hb hby at_24) ?_
    show own_S p e below T10 (mkF m 25 #[vi p1, vi p2, vu, vu, vu, vu, vu] [xi (3 : Int32), xr b1, xr b1]) _
    refine st11 _ ?_
    show own_S p e below T11 (mkF m 28 #[vi p1, vi p2, vu, vu, vu, vu, vu] [xr u3, xi (3 : Int32), xr b1, xr b1]) _
    refine st13 _ ?_
    show own_S p e below T13 (mkF m 29 #[vi p1, vi p2, vu, vu, vu, vu, vu] [xr b1]) _
    refine XS.dup X13.here hx rfl (hb hby at_29) rfl rfl ?_
    show own_S p e below T13 (mkF m 30 #[vi p1, vi p2, vu, vu, vu, vu, vu] [xr b1, xr b1]) _
    refine XS.iconst X13.here hx rfl (hb hby at_30) ?_
    show own_S p e below T13 (mkF m 31 #[vi p1, vi p2, vu, vu, vu, vu, vu] [xi (4 : Int32), xr b1, xr b1]) _
    refine st14 _ ?_
    show own_S p e below T14 (mkF m 34 #[vi p1, vi p2, vu, vu, vu, vu, vu] [xr u4, xi (4 : Int32), xr b1, xr b1]) _
    refine st16 _ ?_
    show own_S p e below T16 (mkF m 35 #[vi p1, vi p2, vu, vu, vu, vu, vu] [xr b1]) _
    refine XS.dup X16.here hx rfl (hb hby at_35) rfl rfl ?_
    show own_S p e below T16 (mkF m 36 #[vi p1, vi p2, vu, vu, vu, vu, vu] [xr b1, xr b1]) _
    refine XS.iconst X16.here hx rfl (hb hby at_36) ?_
    show own_S p e below T16 (mkF m 37 #[vi p1, vi p2, vu, vu, vu, vu, vu] [xi (5 : Int32), xr b1, xr b1]) _
    refine st17 _ ?_
    show own_S p e below T17 (mkF m 40 #[vi p1, vi p2, vu, vu, vu, vu, vu] [xr u5, xi (5 : Int32), xr b1, xr b1]) _
    refine st19 _ ?_
    show own_S p e below T19 (mkF m 41 #[vi p1, vi p2, vu, vu, vu, vu, vu] [xr b1]) _
    refine XS.astoreN X19.here hx rfl (hb hby at_41) rfl rfl (l' := #[vi p1, vi p2, vr b1, vu, vu, vu, vu]) rfl ?_
    show own_S p e below T19 (mkF m 42 #[vi p1, vi p2, vr b1, vu, vu, vu, vu] []) _
    refine XS.bipush X19.here hx rfl (hb hby at_42) ?_
    show own_S p e below T19 (mkF m 44 #[vi p1, vi p2, vr b1, vu, vu, vu, vu] [xi (6 : Int32)]) _
    refine st20 _ ?_
    show own_S p e below T20 (mkF m 46 #[vi p1, vi p2, vr b1, vu, vu, vu, vu] [xr b20]) _
    refine XS.dup X20.here hx rfl (hb hby at_46) rfl rfl ?_
    show own_S p e below T20 (mkF m 47 #[vi p1, vi p2, vr b1, vu, vu, vu, vu] [xr b20, xr b20]) _
    refine XS.iconst X20.here hx rfl (hb hby at_47) ?_
    show own_S p e below T20 (mkF m 48 #[vi p1, vi p2, vr b1, vu, vu, vu, vu] [xi (0 : Int32), xr b20, xr b20]) _
    refine XS.iconst X20.here hx rfl (hb hby at_48) ?_
    show own_S p e below T20 (mkF m 49 #[vi p1, vi p2, vr b1, vu, vu, vu, vu] [xi (2 : Int32), xi (0 : Int32), xr b20, xr b20]) _
    refine st22 _ ?_
    show own_S p e below T22 (mkF m 50 #[vi p1, vi p2, vr b1, vu, vu, vu, vu] [xr b20]) _
    refine XS.dup X22.here hx rfl (hb hby at_50) rfl rfl ?_
    show own_S p e below T22 (mkF m 51 #[vi p1, vi p2, vr b1, vu, vu, vu, vu] [xr b20, xr b20]) _
    refine XS.iconst X22.here hx rfl (hb hby at_51) ?_
    show own_S p e below T22 (mkF m 52 #[vi p1, vi p2, vr b1, vu, vu, vu, vu] [xi (1 : Int32), xr b20, xr b20]) _
    refine XS.iconst X22.here hx rfl (hb hby at_52) ?_
    show own_S p e below T22 (mkF m 53 #[vi p1, vi p2, vr b1, vu, vu, vu, vu] [xi (5 : Int32), xi (1 : Int32), xr b20, xr b20]) _
    refine st24 _ ?_
    show own_S p e below T24 (mkF m 54 #[vi p1, vi p2, vr b1, vu, vu, vu, vu] [xr b20]) _
    refine XS.dup X24.here hx rfl (hb hby at_54) rfl rfl ?_
    show own_S p e below T24 (mkF m 55 #[vi p1, vi p2, vr b1, vu, vu, vu, vu] [xr b20, xr b20]) _
    refine XS.iconst X24.here hx rfl (hb hby at_55) ?_
    show own_S p e below T24 (mkF m 56 #[vi p1, vi p2, vr b1, vu, vu, vu, vu] [xi (2 : Int32), xr b20, xr b20]) _
    refine XS.iconst X24.here hx rfl (hb hby at_56) ?_
    show own_S p e below T24 (mkF m 57 #[vi p1, vi p2, vr b1, vu, vu, vu, vu] [xi (1 : Int32), xi (2 : Int32), xr b20, xr b20]) _
    refine st26 _ ?_
    show own_S p e below T26 (mkF m 58 #[vi p1, vi p2, vr b1, vu, vu, vu, vu] [xr b20]) _
    refine XS.dup X26.here hx rfl (hb hby at_58) rfl rfl ?_
    show own_S p e below T26 (mkF m 59 #[vi p1, vi p2, vr b1, vu, vu, vu, vu] [xr b20, xr b20]) _
    refine XS.iconst X26.here hx rfl (hb hby at_59) ?_
    show own_S p e below T26 (mkF m 60 #[vi p1, vi p2, vr b1, vu, vu, vu, vu] [xi (3 : Int32), xr b20, xr b20]) _
    refine XS.iconst X26.here hx rfl (hb hby at_60) ?_
    show own_S p e below T26 (mkF m 61 #[vi p1, vi p2, vr b1, vu, vu, vu, vu] [xi (3 : Int32), xi (3 : Int32), xr b20, xr b20]) _
    refine st28 _ ?_
    show own_S p e below T28 (mkF m 62 #[vi p1, vi p2, vr b1, vu, vu, vu, vu] [xr b20]) _
    refine XS.dup X28.here hx rfl (hb hby at_62) rfl rfl ?_
    show own_S p e below T28 (mkF m 63 #[vi p1, vi p2, vr b1, vu, vu, vu, vu] [xr b20, xr b20]) _
    refine XS.iconst X28.here hx rfl (hb hby at_63) ?_
    show own_S p e below T28 (mkF m 64 #[vi p1, vi p2, vr b1, vu, vu, vu, vu] [xi (4 : Int32), xr b20, xr b20]) _
    refine XS.iconst X28.here hx rfl (hb hby at_64) ?_
    show own_S p e below T28 (mkF m 65 #[vi p1, vi p2, vr b1, vu, vu, vu, vu] [xi (4 : Int32), xi (4 : Int32), xr b20, xr b20]) _
    refine st30 _ ?_
    show own_S p e below T30 (mkF m 66 #[vi p1, vi p2, vr b1, vu, vu, vu, vu] [xr b20]) _
    refine XS.dup X30.here hx rfl (hb hby at_66) rfl rfl ?_
    show own_S p e below T30 (mkF m 67 #[vi p1, vi p2, vr b1, vu, vu, vu, vu] [xr b20, xr b20]) _
    refine XS.iconst X30.here hx rfl (hb hby at_67) ?_
    show own_S p e below T30 (mkF m 68 #[vi p1, vi p2, vr b1, vu, vu, vu, vu] [xi (5 : Int32), xr b20, xr b20]) _
    refine XS.bipush X30.here hx rfl (hb hby at_68) ?_
    show own_S p e below T30 (mkF m 70 #[vi p1, vi p2, vr b1, vu, vu, vu, vu] [xi (6 : Int32), xi (5 : Int32), xr b20, xr b20]) _
    refine st32 _ ?_
    show own_S p e below T32 (mkF m 71 #[vi p1, vi p2, vr b1, vu, vu, vu, vu] [xr b20]) _
    refine XS.astoreN X32.here hx rfl (hb hby at_71) rfl rfl (l' := #[vi p1, vi p2, vr b1, vr b20, vu, vu, vu]) rfl ?_
    show own_S p e below T32 (mkF m 72 #[vi p1, vi p2, vr b1, vr b20, vu, vu, vu] []) _
    refine XS.iloadN X32.here hx rfl (hb hby at_72) rfl ?_
    show own_S p e below T32 (mkF m 73 #[vi p1, vi p2, vr b1, vr b20, vu, vu, vu] [xi p1]) _
    refine X32.ldcI hx hown (mvT hZ (ww hw 17 rfl)) (g := (mkF m 73 #[vi p1, vi p2, vr b1, vr b20, vu, vu, vu] [xi p1])) rfl (hb hby at_73) ?_
    show own_S p e below T32 (mkF m 75 #[vi p1, vi p2, vr b1, vr b20, vu, vu, vu] [xi (2147483647 : Int32), xi p1]) _
    refine XS.iand X32.here hx rfl (hb hby at_75) rfl ?_
    show own_S p e below T32 (mkF m 76 #[vi p1, vi p2, vr b1, vr b20, vu, vu, vu] [xi (p1 &&& (2147483647 : Int32))]) _
    show own_S p e below T32 (mkF m 76 #[vi p1, vi p2, vr b1, vr b20, vu, vu, vu] [xi (p1 &&& (2147483647 : Int32))]) _
    refine XS.bipush X32.here hx rfl (hb hby at_76) ?_
    show own_S p e below T32 (mkF m 78 #[vi p1, vi p2, vr b1, vr b20, vu, vu, vu] [xi (6 : Int32), xi (p1 &&& (2147483647 : Int32))]) _
    refine XS.irem X32.here hx rfl (hb hby at_78) rfl (by decide) ?_
    show own_S p e below T32 (mkF m 79 #[vi p1, vi p2, vr b1, vr b20, vu, vu, vu] [xi ((p1 &&& (2147483647 : Int32)) - ((p1 &&& (2147483647 : Int32)) / (6 : Int32)) * (6 : Int32))]) _
    refine castTop (show (mkF m 79 #[vi p1, vi p2, vr b1, vr b20, vu, vu, vu] [xi ((p1 &&& (2147483647 : Int32)) - ((p1 &&& (2147483647 : Int32)) / (6 : Int32)) * (6 : Int32))]) = (mkF m 79 #[vi p1, vi p2, vr b1, vr b20, vu, vu, vu] [xi (1 : Int32)]) from by rw [as13]) ?_
    show own_S p e below T32 (mkF m 79 #[vi p1, vi p2, vr b1, vr b20, vu, vu, vu] [xi (1 : Int32)]) _
    refine XS.istore X32.here hx rfl (hb hby at_79) rfl (l' := #[vi p1, vi p2, vr b1, vr b20, vi (1 : Int32), vu, vu]) rfl ?_
    show own_S p e below T32 (mkF m 81 #[vi p1, vi p2, vr b1, vr b20, vi (1 : Int32), vu, vu] []) _
    refine XS.iloadN X32.here hx rfl (hb hby at_81) rfl ?_
    show own_S p e below T32 (mkF m 82 #[vi p1, vi p2, vr b1, vr b20, vi (1 : Int32), vu, vu] [xi p2]) _
    refine XS.ifYes X32.here hx rfl (pc0 := 82) (pc' := 91) rfl (hb hby at_82) rfl as7 (by decide) (by decide) ?_
    show own_S p e below T32 (mkF m 91 #[vi p1, vi p2, vr b1, vr b20, vi (1 : Int32), vu, vu] []) _
    refine XS.iloadN X32.here hx rfl (hb hby at_91) rfl ?_
    show own_S p e below T32 (mkF m 92 #[vi p1, vi p2, vr b1, vr b20, vi (1 : Int32), vu, vu] [xi p2]) _
    refine XS.ifNo X32.here hx rfl (hb hby at_92) rfl as9 ?_
    show own_S p e below T32 (mkF m 95 #[vi p1, vi p2, vr b1, vr b20, vi (1 : Int32), vu, vu] []) _
    refine XS.iconst X32.here hx rfl (hb hby at_95) ?_
    show own_S p e below T32 (mkF m 96 #[vi p1, vi p2, vr b1, vr b20, vi (1 : Int32), vu, vu] [xi (1 : Int32)]) _
    refine XS.istore X32.here hx rfl (hb hby at_96) rfl (l' := #[vi p1, vi p2, vr b1, vr b20, vi (1 : Int32), vi (1 : Int32), vu]) rfl ?_
    show own_S p e below T32 (mkF m 98 #[vi p1, vi p2, vr b1, vr b20, vi (1 : Int32), vi (1 : Int32), vu] []) _
    refine XS.goto X32.here hx rfl (pc0 := 98) (pc' := 104) rfl (hb hby at_98) (by decide) (by decide) ?_
    show own_S p e below T32 (mkF m 104 #[vi p1, vi p2, vr b1, vr b20, vi (1 : Int32), vi (1 : Int32), vu] []) _
    refine XS.aloadN X32.here hx rfl (hb hby at_104) rfl rfl ?_
    show own_S p e below T32 (mkF m 105 #[vi p1, vi p2, vr b1, vr b20, vi (1 : Int32), vi (1 : Int32), vu] [xr b20]) _
    refine XS.iload X32.here hx rfl (hb hby at_105) rfl ?_
    show own_S p e below T32 (mkF m 107 #[vi p1, vi p2, vr b1, vr b20, vi (1 : Int32), vi (1 : Int32), vu] [xi (1 : Int32), xr b20]) _
    refine X32.iaload hx (j := (1 : Int32)) (v := (xi (5 : Int32))) (by rw [e32]; exact Ar33.1) (State.isArrayOf_alike hZ.alike Ar33.2.1) Ar33.2.2 hin33 hat33 (g := (mkF m 107 #[vi p1, vi p2, vr b1, vr b20, vi (1 : Int32), vi (1 : Int32), vu] [xi (1 : Int32), xr b20])) rfl rfl (hb hby at_107) _ ?_
    show own_S p e below T32 (mkF m 108 #[vi p1, vi p2, vr b1, vr b20, vi (1 : Int32), vi (1 : Int32), vu] [xi (5 : Int32)]) _
    refine XS.iload X32.here hx rfl (hb hby at_108) rfl ?_
    show own_S p e below T32 (mkF m 110 #[vi p1, vi p2, vr b1, vr b20, vi (1 : Int32), vi (1 : Int32), vu] [xi (1 : Int32), xi (5 : Int32)]) _
    refine XS.ishr X32.here hx rfl (hb hby at_110) rfl ?_
    show own_S p e below T32 (mkF m 111 #[vi p1, vi p2, vr b1, vr b20, vi (1 : Int32), vi (1 : Int32), vu] [xi ((5 : Int32) >>> ((1 : Int32) &&& 31))]) _
    refine castTop (show (mkF m 111 #[vi p1, vi p2, vr b1, vr b20, vi (1 : Int32), vi (1 : Int32), vu] [xi ((5 : Int32) >>> ((1 : Int32) &&& 31))]) = (mkF m 111 #[vi p1, vi p2, vr b1, vr b20, vi (1 : Int32), vi (1 : Int32), vu] [xi (2 : Int32)]) from by rw [show ((5 : Int32) >>> ((1 : Int32) &&& 31)) = (2 : Int32) from by decide]) ?_
    show own_S p e below T32 (mkF m 111 #[vi p1, vi p2, vr b1, vr b20, vi (1 : Int32), vi (1 : Int32), vu] [xi (2 : Int32)]) _
    refine XS.iconst X32.here hx rfl (hb hby at_111) ?_
    show own_S p e below T32 (mkF m 112 #[vi p1, vi p2, vr b1, vr b20, vi (1 : Int32), vi (1 : Int32), vu] [xi (1 : Int32), xi (2 : Int32)]) _
    refine XS.iand X32.here hx rfl (hb hby at_112) rfl ?_
    show own_S p e below T32 (mkF m 113 #[vi p1, vi p2, vr b1, vr b20, vi (1 : Int32), vi (1 : Int32), vu] [xi ((2 : Int32) &&& (1 : Int32))]) _
    refine castTop (show (mkF m 113 #[vi p1, vi p2, vr b1, vr b20, vi (1 : Int32), vi (1 : Int32), vu] [xi ((2 : Int32) &&& (1 : Int32))]) = (mkF m 113 #[vi p1, vi p2, vr b1, vr b20, vi (1 : Int32), vi (1 : Int32), vu] [xi (0 : Int32)]) from by rw [show ((2 : Int32) &&& (1 : Int32)) = (0 : Int32) from by decide]) ?_
    show own_S p e below T32 (mkF m 113 #[vi p1, vi p2, vr b1, vr b20, vi (1 : Int32), vi (1 : Int32), vu] [xi (0 : Int32)]) _
    refine XS.ifYes X32.here hx rfl (pc0 := 113) (pc' := 120) rfl (hb hby at_113) rfl (by decide) (by decide) (by decide) ?_
    show own_S p e below T32 (mkF m 120 #[vi p1, vi p2, vr b1, vr b20, vi (1 : Int32), vi (1 : Int32), vu] []) _
    refine XS.iconst X32.here hx rfl (hb hby at_120) ?_
    show own_S p e below T32 (mkF m 121 #[vi p1, vi p2, vr b1, vr b20, vi (1 : Int32), vi (1 : Int32), vu] [xi (0 : Int32)]) _
    refine XS.istore X32.here hx rfl (hb hby at_121) rfl (l' := #[vi p1, vi p2, vr b1, vr b20, vi (1 : Int32), vi (1 : Int32), vi (0 : Int32)]) rfl ?_
    show own_S p e below T32 (mkF m 123 #[vi p1, vi p2, vr b1, vr b20, vi (1 : Int32), vi (1 : Int32), vi (0 : Int32)] []) _
    refine XS.aloadN X32.here hx rfl (hb hby at_123) rfl rfl ?_
    show own_S p e below T32 (mkF m 124 #[vi p1, vi p2, vr b1, vr b20, vi (1 : Int32), vi (1 : Int32), vi (0 : Int32)] [xr b1]) _
    refine XS.iload X32.here hx rfl (hb hby at_124) rfl ?_
    show own_S p e below T32 (mkF m 126 #[vi p1, vi p2, vr b1, vr b20, vi (1 : Int32), vi (1 : Int32), vi (0 : Int32)] [xi (1 : Int32), xr b1]) _
    refine X32.aaload hx (j := (1 : Int32)) (v := (xr u1)) (by rw [e32]; exact Ar34.1) (State.isArrayOf_alike hZ.alike Ar34.2.1) rfl Ar34.2.2 hin34 hat34 (g := (mkF m 126 #[vi p1, vi p2, vr b1, vr b20, vi (1 : Int32), vi (1 : Int32), vi (0 : Int32)] [xi (1 : Int32), xr b1])) rfl rfl (hb hby at_126) _ ?_
    show own_S p e below T32 (mkF m 127 #[vi p1, vi p2, vr b1, vr b20, vi (1 : Int32), vi (1 : Int32), vi (0 : Int32)] [xr u1]) _
    refine XS.iloadN X32.here hx rfl (hb hby at_127) rfl ?_
    show own_S p e below T32 (mkF m 128 #[vi p1, vi p2, vr b1, vr b20, vi (1 : Int32), vi (1 : Int32), vi (0 : Int32)] [xi p2, xr u1]) _
    refine st35.trans ?_
    show own_S p e below T35 (mkF m 131 #[vi p1, vi p2, vr b1, vr b20, vi (1 : Int32), vi (1 : Int32), vi (0 : Int32)] [xi (0 : Int32)]) _
    refine XS.iload X35.here hx rfl (hb hby at_131) rfl ?_
    show own_S p e below T35 (mkF m 133 #[vi p1, vi p2, vr b1, vr b20, vi (1 : Int32), vi (1 : Int32), vi (0 : Int32)] [xi (0 : Int32), xi (0 : Int32)]) _
    refine XS.icmpNo X35.here hx rfl (hb hby at_133) rfl (by decide) ?_
    show own_S p e below T35 (mkF m 136 #[vi p1, vi p2, vr b1, vr b20, vi (1 : Int32), vi (1 : Int32), vi (0 : Int32)] []) _
    refine XS.iconst X35.here hx rfl (hb hby at_136) ?_
    show own_S p e below T35 (mkF m 137 #[vi p1, vi p2, vr b1, vr b20, vi (1 : Int32), vi (1 : Int32), vi (0 : Int32)] [xi (1 : Int32)]) _
    refine XS.goto X35.here hx rfl (pc0 := 137) (pc' := 141) rfl (hb hby at_137) (by decide) (by decide) ?_
    show own_S p e below T35 (mkF m 141 #[vi p1, vi p2, vr b1, vr b20, vi (1 : Int32), vi (1 : Int32), vi (0 : Int32)] [xi (1 : Int32)]) _
    exact retN X35 hx (t := .boolean) Bd.returns (by simp) (hb hby at_141) hr
  · exact ⟨rfl, N35⟩
theorem ef_own_l5 (m : MethodId) (u0 u1 u2 u3 u4 u5 : Addr) (p1 : Int32) (p2 : Int32) : entryFrame m #[xi p1, xi p2] maxLocals = (mkF m 0 #[vi p1, vi p2, vu, vu, vu, vu, vu] []) := by first | (simp [entryFrame, mkF, argsToLocals, Value.category, maxLocals]; done) | rfl
set_option maxRecDepth 65536 in
set_option maxHeartbeats 40000000 in
theorem own_l5 (l : Launch) (Z : State) (a0 : Array Value) (hw : ∀ d ∈ tables_1, d.before a0 Z = true) (u0 u1 u2 u3 u4 u5 : Addr) (G : own_St Z u0 u1 u2 u3 u4 u5) (p1 : Int32) (p2 : Int32) (as13 : ((p1 &&& (2147483647 : Int32)) - ((p1 &&& (2147483647 : Int32)) / (6 : Int32)) * (6 : Int32)) = (1 : Int32)) (as7 : ifCond.holds .ge p2 = true) (as3 : ifCond.holds .ne p2 = true) (as2 : ifCond.holds .eq p2 = false) (h0 : Heap) (n0 : Nat) (O0 : Old Z n0 h0) : own_Met l Z x code maxLocals ret room_1 #[xi p1, xi p2] h0 (own_QL (some (xi (1 : Int32))) n0) := by
  intro ws
  refine MetFree.of_bodySF (plainFor_of_name pn2) hisR ?_
  intro p e s m args below meth c s₁ Bd hml0 hP hK
  obtain ⟨rfl, hZ, hh⟩ := hP
  have hx := Bd.exec
  have hby := Bd.bytes
  have hml : c.maxLocals = 7 := hml0
  have hown : s.vm.findClass "com/example/whyle/whyle/cfa/RelationHoldsPinLaw" = some m.cls := findClass_of_methodNamed Bd.named
  have hnm := (name_of_methodNamed Bd.named Bd.method).1
  have X0 : Stand p l e room_1 s m #[xi p1, xi p2] below meth c s₁ [] 0 0 := Stand.of_body Bd
  have e0 : s₁.heap = h0 := by rw [← hh, Bd.state]; rfl
  have N0 := Fr.nil n0
  have pre0 : ∀ t, Steps p.tables e below (s₁.setTop (mkF m 0 #[vi p1, vi p2, vu, vu, vu, vu, vu] [])) t → Steps p.tables e below (s₁.setTop (entryFrame m #[xi p1, xi p2] maxLocals)) t := fun t st => castTop (ef_own_l5 m u0 u1 u2 u3 u4 u5 p1 p2) st
  obtain ⟨T1, h1, k1, X1, e1, E1, A1, Ov1, st1⟩ := newR X0 hx hZ hown (ww hw 0 rfl) (ww hw 1 rfl) e0 (g := (mkF m 2 #[vi p1, vi p2, vu, vu, vu, vu, vu] [xi (6 : Int32)])) rfl (hb hby at_2) rfl (by decide) (cap := 6) (by decide) (by decide) (by decide) (by decide)
  obtain ⟨b1, g1⟩ : ∃ z, z = h0.size := ⟨_, rfl⟩
  rw [← g1] at A1 st1
  have g_b1 : n0 ≤ b1 := own_fresh O0 g1
  have O1 : Old Z n0 h1 := O0.ext E1
  have V_b1 : Arv Z h1 b1 k1 (.object "com/example/whyle/whyle/cfa/Relation") (6 : Int32) [.null, .null, .null, .null, .null, .null] .null := (Arv.new A1 (by decide)).pad (pad_rep [] .null 6)
  obtain ⟨T2, X2, e2, st2⟩ := getS2 X1 hx hZ hown (host := "") (Or.inl (ww hw 2 rfl)) Via.refl e1 ((own_S_u0 G).ext O1.2) (g := (mkF m 7 #[vi p1, vi p2, vu, vu, vu, vu, vu] [xi (0 : Int32), xr b1, xr b1])) rfl (hb hby at_7)
  obtain ⟨cl3, Ar3, q3, S3, N3_, H3, G3⟩ := V_b1
  have hin3 : ¬ ((0 : Int32) < 0 ∨ cl3.slots.size ≤ ((0 : Int32)).toNatClampNeg) := inb_of S3 ⟨by decide, by decide⟩
  obtain ⟨T4, h4, X4, e4, W4, st4⟩ := stR X2 hx hZ e2 Ar3 (j := (0 : Int32)) hin3 rfl (Sto.ofV Ar3 q3 Ov1 (Ins.self ((own_X_u0 G).ext O1.2))) (g := (mkF m 10 #[vi p1, vi p2, vu, vu, vu, vu, vu] [xr u0, xi (0 : Int32), xr b1, xr b1])) rfl rfl (hb hby at_10)
  have V_b1_4 : Arv Z h4 b1 k1 (.object "com/example/whyle/whyle/cfa/Relation") (6 : Int32) [xr u0, .null, .null, .null, .null, .null] .null := Arv.set Ar3 q3 S3 N3_ H3 G3 rfl W4 0 rfl (Nat.le_of_ble_eq_true rfl)
  have O4 : Old Z n0 h4 := O1.wr W4 g_b1
  have N4 := Fr.snoc X4 N0 g_b1
  obtain ⟨T5, X5, e5, st5⟩ := getS2 X4 hx hZ hown (host := "") (Or.inl (ww hw 6 rfl)) Via.refl e4 ((own_S_u1 G).ext O4.2) (g := (mkF m 13 #[vi p1, vi p2, vu, vu, vu, vu, vu] [xi (1 : Int32), xr b1, xr b1])) rfl (hb hby at_13)
  obtain ⟨cl6, Ar6, q6, S6, N6_, H6, G6⟩ := V_b1_4
  have hin6 : ¬ ((1 : Int32) < 0 ∨ cl6.slots.size ≤ ((1 : Int32)).toNatClampNeg) := inb_of S6 ⟨by decide, by decide⟩
  obtain ⟨T7, h7, X7, e7, W7, st7⟩ := stR X5 hx hZ e5 Ar6 (j := (1 : Int32)) hin6 rfl (Sto.ofV Ar6 q6 Ov1 (Ins.self ((own_X_u1 G).ext O4.2))) (g := (mkF m 16 #[vi p1, vi p2, vu, vu, vu, vu, vu] [xr u1, xi (1 : Int32), xr b1, xr b1])) rfl rfl (hb hby at_16)
  have V_b1_7 : Arv Z h7 b1 k1 (.object "com/example/whyle/whyle/cfa/Relation") (6 : Int32) [xr u0, xr u1, .null, .null, .null, .null] .null := Arv.set Ar6 q6 S6 N6_ H6 G6 rfl W7 1 rfl (Nat.le_of_ble_eq_true rfl)
  have O7 : Old Z n0 h7 := O4.wr W7 g_b1
  have N7 := Fr.snoc X7 N4 g_b1
  obtain ⟨T8, X8, e8, st8⟩ := getS2 X7 hx hZ hown (host := "") (Or.inl (ww hw 8 rfl)) Via.refl e7 ((own_S_u2 G).ext O7.2) (g := (mkF m 19 #[vi p1, vi p2, vu, vu, vu, vu, vu] [xi (2 : Int32), xr b1, xr b1])) rfl (hb hby at_19)
  obtain ⟨cl9, Ar9, q9, S9, N9_, H9, G9⟩ := V_b1_7
  have hin9 : ¬ ((2 : Int32) < 0 ∨ cl9.slots.size ≤ ((2 : Int32)).toNatClampNeg) := inb_of S9 ⟨by decide, by decide⟩
  obtain ⟨T10, h10, X10, e10, W10, st10⟩ := stR X8 hx hZ e8 Ar9 (j := (2 : Int32)) hin9 rfl (Sto.ofV Ar9 q9 Ov1 (Ins.self ((own_X_u2 G).ext O7.2))) (g := (mkF m 22 #[vi p1, vi p2, vu, vu, vu, vu, vu] [xr u2, xi (2 : Int32), xr b1, xr b1])) rfl rfl (hb hby at_22)
  have V_b1_10 : Arv Z h10 b1 k1 (.object "com/example/whyle/whyle/cfa/Relation") (6 : Int32) [xr u0, xr u1, xr u2, .null, .null, .null] .null := Arv.set Ar9 q9 S9 N9_ H9 G9 rfl W10 2 rfl (Nat.le_of_ble_eq_true rfl)
  have O10 : Old Z n0 h10 := O7.wr W10 g_b1
  have N10 := Fr.snoc X10 N7 g_b1
  obtain ⟨T11, X11, e11, st11⟩ := getS2 X10 hx hZ hown (host := "") (Or.inl (ww hw 10 rfl)) Via.refl e10 ((own_S_u3 G).ext O10.2) (g := (mkF m 25 #[vi p1, vi p2, vu, vu, vu, vu, vu] [xi (3 : Int32), xr b1, xr b1])) rfl (hb hby at_25)
  obtain ⟨cl12, Ar12, q12, S12, N12_, H12, G12⟩ := V_b1_10
  have hin12 : ¬ ((3 : Int32) < 0 ∨ cl12.slots.size ≤ ((3 : Int32)).toNatClampNeg) := inb_of S12 ⟨by decide, by decide⟩
  obtain ⟨T13, h13, X13, e13, W13, st13⟩ := stR X11 hx hZ e11 Ar12 (j := (3 : Int32)) hin12 rfl (Sto.ofV Ar12 q12 Ov1 (Ins.self ((own_X_u3 G).ext O10.2))) (g := (mkF m 28 #[vi p1, vi p2, vu, vu, vu, vu, vu] [xr u3, xi (3 : Int32), xr b1, xr b1])) rfl rfl (hb hby at_28)
  have V_b1_13 : Arv Z h13 b1 k1 (.object "com/example/whyle/whyle/cfa/Relation") (6 : Int32) [xr u0, xr u1, xr u2, xr u3, .null, .null] .null := Arv.set Ar12 q12 S12 N12_ H12 G12 rfl W13 3 rfl (Nat.le_of_ble_eq_true rfl)
  have O13 : Old Z n0 h13 := O10.wr W13 g_b1
  have N13 := Fr.snoc X13 N10 g_b1
  obtain ⟨T14, X14, e14, st14⟩ := getS2 X13 hx hZ hown (host := "") (Or.inl (ww hw 12 rfl)) Via.refl e13 ((own_S_u4 G).ext O13.2) (g := (mkF m 31 #[vi p1, vi p2, vu, vu, vu, vu, vu] [xi (4 : Int32), xr b1, xr b1])) rfl (hb hby at_31)
  obtain ⟨cl15, Ar15, q15, S15, N15_, H15, G15⟩ := V_b1_13
  have hin15 : ¬ ((4 : Int32) < 0 ∨ cl15.slots.size ≤ ((4 : Int32)).toNatClampNeg) := inb_of S15 ⟨by decide, by decide⟩
  obtain ⟨T16, h16, X16, e16, W16, st16⟩ := stR X14 hx hZ e14 Ar15 (j := (4 : Int32)) hin15 rfl (Sto.ofV Ar15 q15 Ov1 (Ins.self ((own_X_u4 G).ext O13.2))) (g := (mkF m 34 #[vi p1, vi p2, vu, vu, vu, vu, vu] [xr u4, xi (4 : Int32), xr b1, xr b1])) rfl rfl (hb hby at_34)
  have V_b1_16 : Arv Z h16 b1 k1 (.object "com/example/whyle/whyle/cfa/Relation") (6 : Int32) [xr u0, xr u1, xr u2, xr u3, xr u4, .null] .null := Arv.set Ar15 q15 S15 N15_ H15 G15 rfl W16 4 rfl (Nat.le_of_ble_eq_true rfl)
  have O16 : Old Z n0 h16 := O13.wr W16 g_b1
  have N16 := Fr.snoc X16 N13 g_b1
  obtain ⟨T17, X17, e17, st17⟩ := getS2 X16 hx hZ hown (host := "") (Or.inl (ww hw 14 rfl)) Via.refl e16 ((own_S_u5 G).ext O16.2) (g := (mkF m 37 #[vi p1, vi p2, vu, vu, vu, vu, vu] [xi (5 : Int32), xr b1, xr b1])) rfl (hb hby at_37)
  obtain ⟨cl18, Ar18, q18, S18, N18_, H18, G18⟩ := V_b1_16
  have hin18 : ¬ ((5 : Int32) < 0 ∨ cl18.slots.size ≤ ((5 : Int32)).toNatClampNeg) := inb_of S18 ⟨by decide, by decide⟩
  obtain ⟨T19, h19, X19, e19, W19, st19⟩ := stR X17 hx hZ e17 Ar18 (j := (5 : Int32)) hin18 rfl (Sto.ofV Ar18 q18 Ov1 (Ins.self ((own_X_u5 G).ext O16.2))) (g := (mkF m 40 #[vi p1, vi p2, vu, vu, vu, vu, vu] [xr u5, xi (5 : Int32), xr b1, xr b1])) rfl rfl (hb hby at_40)
  have V_b1_19 : Arv Z h19 b1 k1 (.object "com/example/whyle/whyle/cfa/Relation") (6 : Int32) [xr u0, xr u1, xr u2, xr u3, xr u4, xr u5] .null := Arv.set Ar18 q18 S18 N18_ H18 G18 rfl W19 5 rfl (Nat.le_of_ble_eq_true rfl)
  have O19 : Old Z n0 h19 := O16.wr W19 g_b1
  have N19 := Fr.snoc X19 N16 g_b1
  obtain ⟨T20, h20, k20, X20, e20, E20, A20, st20⟩ := newP X19 hx hZ (ww hw 16 rfl) e19 (g := (mkF m 44 #[vi p1, vi p2, vr b1, vu, vu, vu, vu] [xi (6 : Int32)])) rfl (hb hby at_44) rfl (by decide) (cap := 6) (by decide) (by decide) (by decide) (by decide)
  obtain ⟨b20, g20⟩ : ∃ z, z = h19.size := ⟨_, rfl⟩
  rw [← g20] at A20 st20
  have g_b20 : n0 ≤ b20 := own_fresh O19 g20
  have ne_b1_b20 : b1 ≠ b20 := Nat.ne_of_lt (Nat.lt_of_lt_of_le (V_b1_19).lt (Nat.le_of_eq g20.symm))
  have O20 : Old Z n0 h20 := O19.ext E20
  have V_b1_20 := V_b1_19.ext E20
  have V_b20 : Arv Z h20 b20 k20 .int (6 : Int32) [(.int (0 : Int32)), (.int (0 : Int32)), (.int (0 : Int32)), (.int (0 : Int32)), (.int (0 : Int32)), (.int (0 : Int32))] (.int (0 : Int32)) := (Arv.new A20 (by decide)).pad (pad_rep [] (.int (0 : Int32)) 6)
  obtain ⟨cl21, Ar21, q21, S21, N21_, H21, G21⟩ := V_b20
  have hin21 : ¬ ((0 : Int32) < 0 ∨ cl21.slots.size ≤ ((0 : Int32)).toNatClampNeg) := inb_of S21 ⟨by decide, by decide⟩
  obtain ⟨T22, h22, X22, e22, W22, st22⟩ := stI X20 hx hZ e20 Ar21 (j := (0 : Int32)) hin21 (g := (mkF m 49 #[vi p1, vi p2, vr b1, vu, vu, vu, vu] [xi (2 : Int32), xi (0 : Int32), xr b20, xr b20])) rfl rfl (hb hby at_49)
  have V_b20_22 : Arv Z h22 b20 k20 .int (6 : Int32) [xi (2 : Int32), xi (0 : Int32), xi (0 : Int32), xi (0 : Int32), xi (0 : Int32), xi (0 : Int32)] (.int (0 : Int32)) := Arv.set Ar21 q21 S21 N21_ H21 G21 rfl W22 0 rfl (Nat.le_of_ble_eq_true rfl)
  have O22 : Old Z n0 h22 := O20.wr W22 g_b20
  have V_b1_22 := V_b1_20.other W22 ne_b1_b20
  have N22 := Fr.snoc X22 N19 g_b20
  obtain ⟨cl23, Ar23, q23, S23, N23_, H23, G23⟩ := V_b20_22
  have hin23 : ¬ ((1 : Int32) < 0 ∨ cl23.slots.size ≤ ((1 : Int32)).toNatClampNeg) := inb_of S23 ⟨by decide, by decide⟩
  obtain ⟨T24, h24, X24, e24, W24, st24⟩ := stI X22 hx hZ e22 Ar23 (j := (1 : Int32)) hin23 (g := (mkF m 53 #[vi p1, vi p2, vr b1, vu, vu, vu, vu] [xi (5 : Int32), xi (1 : Int32), xr b20, xr b20])) rfl rfl (hb hby at_53)
  have V_b20_24 : Arv Z h24 b20 k20 .int (6 : Int32) [xi (2 : Int32), xi (5 : Int32), xi (0 : Int32), xi (0 : Int32), xi (0 : Int32), xi (0 : Int32)] (.int (0 : Int32)) := Arv.set Ar23 q23 S23 N23_ H23 G23 rfl W24 1 rfl (Nat.le_of_ble_eq_true rfl)
  have O24 : Old Z n0 h24 := O22.wr W24 g_b20
  have V_b1_24 := V_b1_22.other W24 ne_b1_b20
  have N24 := Fr.snoc X24 N22 g_b20
  obtain ⟨cl25, Ar25, q25, S25, N25_, H25, G25⟩ := V_b20_24
  have hin25 : ¬ ((2 : Int32) < 0 ∨ cl25.slots.size ≤ ((2 : Int32)).toNatClampNeg) := inb_of S25 ⟨by decide, by decide⟩
  obtain ⟨T26, h26, X26, e26, W26, st26⟩ := stI X24 hx hZ e24 Ar25 (j := (2 : Int32)) hin25 (g := (mkF m 57 #[vi p1, vi p2, vr b1, vu, vu, vu, vu] [xi (1 : Int32), xi (2 : Int32), xr b20, xr b20])) rfl rfl (hb hby at_57)
  have V_b20_26 : Arv Z h26 b20 k20 .int (6 : Int32) [xi (2 : Int32), xi (5 : Int32), xi (1 : Int32), xi (0 : Int32), xi (0 : Int32), xi (0 : Int32)] (.int (0 : Int32)) := Arv.set Ar25 q25 S25 N25_ H25 G25 rfl W26 2 rfl (Nat.le_of_ble_eq_true rfl)
  have O26 : Old Z n0 h26 := O24.wr W26 g_b20
  have V_b1_26 := V_b1_24.other W26 ne_b1_b20
  have N26 := Fr.snoc X26 N24 g_b20
  obtain ⟨cl27, Ar27, q27, S27, N27_, H27, G27⟩ := V_b20_26
  have hin27 : ¬ ((3 : Int32) < 0 ∨ cl27.slots.size ≤ ((3 : Int32)).toNatClampNeg) := inb_of S27 ⟨by decide, by decide⟩
  obtain ⟨T28, h28, X28, e28, W28, st28⟩ := stI X26 hx hZ e26 Ar27 (j := (3 : Int32)) hin27 (g := (mkF m 61 #[vi p1, vi p2, vr b1, vu, vu, vu, vu] [xi (3 : Int32), xi (3 : Int32), xr b20, xr b20])) rfl rfl (hb hby at_61)
  have V_b20_28 : Arv Z h28 b20 k20 .int (6 : Int32) [xi (2 : Int32), xi (5 : Int32), xi (1 : Int32), xi (3 : Int32), xi (0 : Int32), xi (0 : Int32)] (.int (0 : Int32)) := Arv.set Ar27 q27 S27 N27_ H27 G27 rfl W28 3 rfl (Nat.le_of_ble_eq_true rfl)
  have O28 : Old Z n0 h28 := O26.wr W28 g_b20
  have V_b1_28 := V_b1_26.other W28 ne_b1_b20
  have N28 := Fr.snoc X28 N26 g_b20
  obtain ⟨cl29, Ar29, q29, S29, N29_, H29, G29⟩ := V_b20_28
  have hin29 : ¬ ((4 : Int32) < 0 ∨ cl29.slots.size ≤ ((4 : Int32)).toNatClampNeg) := inb_of S29 ⟨by decide, by decide⟩
  obtain ⟨T30, h30, X30, e30, W30, st30⟩ := stI X28 hx hZ e28 Ar29 (j := (4 : Int32)) hin29 (g := (mkF m 65 #[vi p1, vi p2, vr b1, vu, vu, vu, vu] [xi (4 : Int32), xi (4 : Int32), xr b20, xr b20])) rfl rfl (hb hby at_65)
  have V_b20_30 : Arv Z h30 b20 k20 .int (6 : Int32) [xi (2 : Int32), xi (5 : Int32), xi (1 : Int32), xi (3 : Int32), xi (4 : Int32), xi (0 : Int32)] (.int (0 : Int32)) := Arv.set Ar29 q29 S29 N29_ H29 G29 rfl W30 4 rfl (Nat.le_of_ble_eq_true rfl)
  have O30 : Old Z n0 h30 := O28.wr W30 g_b20
  have V_b1_30 := V_b1_28.other W30 ne_b1_b20
  have N30 := Fr.snoc X30 N28 g_b20
  obtain ⟨cl31, Ar31, q31, S31, N31_, H31, G31⟩ := V_b20_30
  have hin31 : ¬ ((5 : Int32) < 0 ∨ cl31.slots.size ≤ ((5 : Int32)).toNatClampNeg) := inb_of S31 ⟨by decide, by decide⟩
  obtain ⟨T32, h32, X32, e32, W32, st32⟩ := stI X30 hx hZ e30 Ar31 (j := (5 : Int32)) hin31 (g := (mkF m 70 #[vi p1, vi p2, vr b1, vu, vu, vu, vu] [xi (6 : Int32), xi (5 : Int32), xr b20, xr b20])) rfl rfl (hb hby at_70)
  have V_b20_32 : Arv Z h32 b20 k20 .int (6 : Int32) [xi (2 : Int32), xi (5 : Int32), xi (1 : Int32), xi (3 : Int32), xi (4 : Int32), xi (6 : Int32)] (.int (0 : Int32)) := Arv.set Ar31 q31 S31 N31_ H31 G31 rfl W32 5 rfl (Nat.le_of_ble_eq_true rfl)
  have O32 : Old Z n0 h32 := O30.wr W32 g_b20
  have V_b1_32 := V_b1_30.other W32 ne_b1_b20
  have N32 := Fr.snoc X32 N30 g_b20
  obtain ⟨cl33, Ar33, q33, S33, N33_, H33, G33⟩ := V_b20_32
  have hin33 : ¬ ((1 : Int32) < 0 ∨ cl33.slots.size ≤ ((1 : Int32)).toNatClampNeg) := inb_of S33 ⟨by decide, by decide⟩
  have hat33 : cl33.slots[((1 : Int32)).toNatClampNeg]? = some (xi (5 : Int32)) := Has.at H33 hin33 rfl
  obtain ⟨cl34, Ar34, q34, S34, N34_, H34, G34⟩ := V_b1_32
  have hin34 : ¬ ((1 : Int32) < 0 ∨ cl34.slots.size ≤ ((1 : Int32)).toNatClampNeg) := inb_of S34 ⟨by decide, by decide⟩
  have hat34 : cl34.slots[((1 : Int32)).toNatClampNeg]? = some (xr u1) := Has.at H34 hin34 rfl
  obtain ⟨cq35, kq35, qa35, qb35, qc35⟩ := isOf hZ e32 ((own_X_u1 G).ext O32.2)
  obtain ⟨_, _, ⟨T35, L35, k35, n35⟩, -, X35, ⟨Lc35, hQ35, l35, y35, z35⟩, st35⟩ := X32.virtualBack hx (y := Y2) (z := Y2) hown (mvT hZ (ww hw 18 rfl)) (mvT hZ (ww hw 19 rfl)) (notFace_of_selects (args := #[]) (mvT hZ (ww hw 21 rfl))) (mvT hZ (ww hw 21 rfl)) (mvT hZ (ww hw 20 rfl)) (by decide) (backOf (W := 0) (own_c3_holds l Z a0 hw u0 u1 u2 u3 u4 u5 G p2 as2 h32 n0 O32 []) hZ (ww hw 22 rfl) (ww hw 3 rfl) (by decide) (by decide)) qa35 qc35 (g := (mkF m 128 #[vi p1, vi p2, vr b1, vr b20, vi (1 : Int32), vi (2 : Int32), vi (1 : Int32)] [xi p2, xr u1])) rfl (by rw [hml]; rfl) (Steps.refl _) (argsL := [xi p2]) (rest := []) (lenOf pd1 rfl) rfl (by show 2 * 0 + _ ≤ _; exact Nat.le_of_eq rfl) (hb hby at_128) (fun _ _ => ⟨rfl, e32, (by decide : 2 + 0 ≤ _), (by decide : 12 + 0 ≤ _)⟩)
  dsimp only [Pt.U, Pt.locs, Pt.cells, Pt.slots] at X35 l35 y35 z35 st35 hQ35
  subst l35 y35 z35
  obtain ⟨rfl, Nq35, e35⟩ := hQ35
  have N35 := Fr.app N32 Nq35
  obtain ⟨fs, hr, hrun, hended, hW, hsame⟩ := X35.leave (v := some (xi (1 : Int32))) (fun h => by rw [Bd.returns] at h; cases h)
  refine ⟨_, _, pre0 _ ?_, hrun, hended, _, _, rfl, ?_, ⟨_, rfl⟩, hW, hsame.mono (by decide) (by decide)⟩
  · show own_S p e below s₁ (mkF m 0 #[vi p1, vi p2, vu, vu, vu, vu, vu] []) _
    refine XS.bipush X0.here hx rfl (hb hby at_0) ?_
    show own_S p e below s₁ (mkF m 2 #[vi p1, vi p2, vu, vu, vu, vu, vu] [xi (6 : Int32)]) _
    refine st1 _ ?_
    show own_S p e below T1 (mkF m 5 #[vi p1, vi p2, vu, vu, vu, vu, vu] [xr b1]) _
    refine XS.dup X1.here hx rfl (hb hby at_5) rfl rfl ?_
    show own_S p e below T1 (mkF m 6 #[vi p1, vi p2, vu, vu, vu, vu, vu] [xr b1, xr b1]) _
    refine XS.iconst X1.here hx rfl (hb hby at_6) ?_
    show own_S p e below T1 (mkF m 7 #[vi p1, vi p2, vu, vu, vu, vu, vu] [xi (0 : Int32), xr b1, xr b1]) _
    refine st2 _ ?_
    show own_S p e below T2 (mkF m 10 #[vi p1, vi p2, vu, vu, vu, vu, vu] [xr u0, xi (0 : Int32), xr b1, xr b1]) _
    refine st4 _ ?_
    show own_S p e below T4 (mkF m 11 #[vi p1, vi p2, vu, vu, vu, vu, vu] [xr b1]) _
    refine XS.dup X4.here hx rfl (hb hby at_11) rfl rfl ?_
    show own_S p e below T4 (mkF m 12 #[vi p1, vi p2, vu, vu, vu, vu, vu] [xr b1, xr b1]) _
    refine XS.iconst X4.here hx rfl (hb hby at_12) ?_
    show own_S p e below T4 (mkF m 13 #[vi p1, vi p2, vu, vu, vu, vu, vu] [xi (1 : Int32), xr b1, xr b1]) _
    refine st5 _ ?_
    show own_S p e below T5 (mkF m 16 #[vi p1, vi p2, vu, vu, vu, vu, vu] [xr u1, xi (1 : Int32), xr b1, xr b1]) _
    refine st7 _ ?_
    show own_S p e below T7 (mkF m 17 #[vi p1, vi p2, vu, vu, vu, vu, vu] [xr b1]) _
    refine XS.dup X7.here hx rfl (hb hby at_17) rfl rfl ?_
    show own_S p e below T7 (mkF m 18 #[vi p1, vi p2, vu, vu, vu, vu, vu] [xr b1, xr b1]) _
    refine XS.iconst X7.here hx rfl (hb hby at_18) ?_
    show own_S p e below T7 (mkF m 19 #[vi p1, vi p2, vu, vu, vu, vu, vu] [xi (2 : Int32), xr b1, xr b1]) _
    refine st8 _ ?_
    show own_S p e below T8 (mkF m 22 #[vi p1, vi p2, vu, vu, vu, vu, vu] [xr u2, xi (2 : Int32), xr b1, xr b1]) _
    refine st10 _ ?_
    show own_S p e below T10 (mkF m 23 #[vi p1, vi p2, vu, vu, vu, vu, vu] [xr b1]) _
    refine XS.dup X10.here hx rfl (hb hby at_23) rfl rfl ?_
    show own_S p e below T10 (mkF m 24 #[vi p1, vi p2, vu, vu, vu, vu, vu] [xr b1, xr b1]) _
    refine XS.iconst X10.here hx rfl (hb hby at_24) ?_
    show own_S p e below T10 (mkF m 25 #[vi p1, vi p2, vu, vu, vu, vu, vu] [xi (3 : Int32), xr b1, xr b1]) _
    refine st11 _ ?_
    show own_S p e below T11 (mkF m 28 #[vi p1, vi p2, vu, vu, vu, vu, vu] [xr u3, xi (3 : Int32), xr b1, xr b1]) _
    refine st13 _ ?_
    show own_S p e below T13 (mkF m 29 #[vi p1, vi p2, vu, vu, vu, vu, vu] [xr b1]) _
    refine XS.dup X13.here hx rfl (hb hby at_29) rfl rfl ?_
    show own_S p e below T13 (mkF m 30 #[vi p1, vi p2, vu, vu, vu, vu, vu] [xr b1, xr b1]) _
    refine XS.iconst X13.here hx rfl (hb hby at_30) ?_
    show own_S p e below T13 (mkF m 31 #[vi p1, vi p2, vu, vu, vu, vu, vu] [xi (4 : Int32), xr b1, xr b1]) _
    refine st14 _ ?_
    show own_S p e below T14 (mkF m 34 #[vi p1, vi p2, vu, vu, vu, vu, vu] [xr u4, xi (4 : Int32), xr b1, xr b1]) _
    refine st16 _ ?_
    show own_S p e below T16 (mkF m 35 #[vi p1, vi p2, vu, vu, vu, vu, vu] [xr b1]) _
    refine XS.dup X16.here hx rfl (hb hby at_35) rfl rfl ?_
    show own_S p e below T16 (mkF m 36 #[vi p1, vi p2, vu, vu, vu, vu, vu] [xr b1, xr b1]) _
    refine XS.iconst X16.here hx rfl (hb hby at_36) ?_
    show own_S p e below T16 (mkF m 37 #[vi p1, vi p2, vu, vu, vu, vu, vu] [xi (5 : Int32), xr b1, xr b1]) _
    refine st17 _ ?_
    show own_S p e below T17 (mkF m 40 #[vi p1, vi p2, vu, vu, vu, vu, vu] [xr u5, xi (5 : Int32), xr b1, xr b1]) _
    refine st19 _ ?_
    show own_S p e below T19 (mkF m 41 #[vi p1, vi p2, vu, vu, vu, vu, vu] [xr b1]) _
    refine XS.astoreN X19.here hx rfl (hb hby at_41) rfl rfl (l' := #[vi p1, vi p2, vr b1, vu, vu, vu, vu]) rfl ?_
    show own_S p e below T19 (mkF m 42 #[vi p1, vi p2, vr b1, vu, vu, vu, vu] []) _
    refine XS.bipush X19.here hx rfl (hb hby at_42) ?_
    show own_S p e below T19 (mkF m 44 #[vi p1, vi p2, vr b1, vu, vu, vu, vu] [xi (6 : Int32)]) _
    refine st20 _ ?_
    show own_S p e below T20 (mkF m 46 #[vi p1, vi p2, vr b1, vu, vu, vu, vu] [xr b20]) _
    refine XS.dup X20.here hx rfl (hb hby at_46) rfl rfl ?_
    show own_S p e below T20 (mkF m 47 #[vi p1, vi p2, vr b1, vu, vu, vu, vu] [xr b20, xr b20]) _
    refine XS.iconst X20.here hx rfl (hb hby at_47) ?_
    show own_S p e below T20 (mkF m 48 #[vi p1, vi p2, vr b1, vu, vu, vu, vu] [xi (0 : Int32), xr b20, xr b20]) _
    refine XS.iconst X20.here hx rfl (hb hby at_48) ?_
    show own_S p e below T20 (mkF m 49 #[vi p1, vi p2, vr b1, vu, vu, vu, vu] [xi (2 : Int32), xi (0 : Int32), xr b20, xr b20]) _
    refine st22 _ ?_
    show own_S p e below T22 (mkF m 50 #[vi p1, vi p2, vr b1, vu, vu, vu, vu] [xr b20]) _
    refine XS.dup X22.here hx rfl (hb hby at_50) rfl rfl ?_
    show own_S p e below T22 (mkF m 51 #[vi p1, vi p2, vr b1, vu, vu, vu, vu] [xr b20, xr b20]) _
    refine XS.iconst X22.here hx rfl (hb hby at_51) ?_
    show own_S p e below T22 (mkF m 52 #[vi p1, vi p2, vr b1, vu, vu, vu, vu] [xi (1 : Int32), xr b20, xr b20]) _
    refine XS.iconst X22.here hx rfl (hb hby at_52) ?_
    show own_S p e below T22 (mkF m 53 #[vi p1, vi p2, vr b1, vu, vu, vu, vu] [xi (5 : Int32), xi (1 : Int32), xr b20, xr b20]) _
    refine st24 _ ?_
    show own_S p e below T24 (mkF m 54 #[vi p1, vi p2, vr b1, vu, vu, vu, vu] [xr b20]) _
    refine XS.dup X24.here hx rfl (hb hby at_54) rfl rfl ?_
    show own_S p e below T24 (mkF m 55 #[vi p1, vi p2, vr b1, vu, vu, vu, vu] [xr b20, xr b20]) _
    refine XS.iconst X24.here hx rfl (hb hby at_55) ?_
    show own_S p e below T24 (mkF m 56 #[vi p1, vi p2, vr b1, vu, vu, vu, vu] [xi (2 : Int32), xr b20, xr b20]) _
    refine XS.iconst X24.here hx rfl (hb hby at_56) ?_
    show own_S p e below T24 (mkF m 57 #[vi p1, vi p2, vr b1, vu, vu, vu, vu] [xi (1 : Int32), xi (2 : Int32), xr b20, xr b20]) _
    refine st26 _ ?_
    show own_S p e below T26 (mkF m 58 #[vi p1, vi p2, vr b1, vu, vu, vu, vu] [xr b20]) _
    refine XS.dup X26.here hx rfl (hb hby at_58) rfl rfl ?_
    show own_S p e below T26 (mkF m 59 #[vi p1, vi p2, vr b1, vu, vu, vu, vu] [xr b20, xr b20]) _
    refine XS.iconst X26.here hx rfl (hb hby at_59) ?_
    show own_S p e below T26 (mkF m 60 #[vi p1, vi p2, vr b1, vu, vu, vu, vu] [xi (3 : Int32), xr b20, xr b20]) _
    refine XS.iconst X26.here hx rfl (hb hby at_60) ?_
    show own_S p e below T26 (mkF m 61 #[vi p1, vi p2, vr b1, vu, vu, vu, vu] [xi (3 : Int32), xi (3 : Int32), xr b20, xr b20]) _
    refine st28 _ ?_
    show own_S p e below T28 (mkF m 62 #[vi p1, vi p2, vr b1, vu, vu, vu, vu] [xr b20]) _
    refine XS.dup X28.here hx rfl (hb hby at_62) rfl rfl ?_
    show own_S p e below T28 (mkF m 63 #[vi p1, vi p2, vr b1, vu, vu, vu, vu] [xr b20, xr b20]) _
    refine XS.iconst X28.here hx rfl (hb hby at_63) ?_
    show own_S p e below T28 (mkF m 64 #[vi p1, vi p2, vr b1, vu, vu, vu, vu] [xi (4 : Int32), xr b20, xr b20]) _
    refine XS.iconst X28.here hx rfl (hb hby at_64) ?_
    show own_S p e below T28 (mkF m 65 #[vi p1, vi p2, vr b1, vu, vu, vu, vu] [xi (4 : Int32), xi (4 : Int32), xr b20, xr b20]) _
    refine st30 _ ?_
    show own_S p e below T30 (mkF m 66 #[vi p1, vi p2, vr b1, vu, vu, vu, vu] [xr b20]) _
    refine XS.dup X30.here hx rfl (hb hby at_66) rfl rfl ?_
    show own_S p e below T30 (mkF m 67 #[vi p1, vi p2, vr b1, vu, vu, vu, vu] [xr b20, xr b20]) _
    refine XS.iconst X30.here hx rfl (hb hby at_67) ?_
    show own_S p e below T30 (mkF m 68 #[vi p1, vi p2, vr b1, vu, vu, vu, vu] [xi (5 : Int32), xr b20, xr b20]) _
    refine XS.bipush X30.here hx rfl (hb hby at_68) ?_
    show own_S p e below T30 (mkF m 70 #[vi p1, vi p2, vr b1, vu, vu, vu, vu] [xi (6 : Int32), xi (5 : Int32), xr b20, xr b20]) _
    refine st32 _ ?_
    show own_S p e below T32 (mkF m 71 #[vi p1, vi p2, vr b1, vu, vu, vu, vu] [xr b20]) _
    refine XS.astoreN X32.here hx rfl (hb hby at_71) rfl rfl (l' := #[vi p1, vi p2, vr b1, vr b20, vu, vu, vu]) rfl ?_
    show own_S p e below T32 (mkF m 72 #[vi p1, vi p2, vr b1, vr b20, vu, vu, vu] []) _
    refine XS.iloadN X32.here hx rfl (hb hby at_72) rfl ?_
    show own_S p e below T32 (mkF m 73 #[vi p1, vi p2, vr b1, vr b20, vu, vu, vu] [xi p1]) _
    refine X32.ldcI hx hown (mvT hZ (ww hw 17 rfl)) (g := (mkF m 73 #[vi p1, vi p2, vr b1, vr b20, vu, vu, vu] [xi p1])) rfl (hb hby at_73) ?_
    show own_S p e below T32 (mkF m 75 #[vi p1, vi p2, vr b1, vr b20, vu, vu, vu] [xi (2147483647 : Int32), xi p1]) _
    refine XS.iand X32.here hx rfl (hb hby at_75) rfl ?_
    show own_S p e below T32 (mkF m 76 #[vi p1, vi p2, vr b1, vr b20, vu, vu, vu] [xi (p1 &&& (2147483647 : Int32))]) _
    show own_S p e below T32 (mkF m 76 #[vi p1, vi p2, vr b1, vr b20, vu, vu, vu] [xi (p1 &&& (2147483647 : Int32))]) _
    refine XS.bipush X32.here hx rfl (hb hby at_76) ?_
    show own_S p e below T32 (mkF m 78 #[vi p1, vi p2, vr b1, vr b20, vu, vu, vu] [xi (6 : Int32), xi (p1 &&& (2147483647 : Int32))]) _
    refine XS.irem X32.here hx rfl (hb hby at_78) rfl (by decide) ?_
    show own_S p e below T32 (mkF m 79 #[vi p1, vi p2, vr b1, vr b20, vu, vu, vu] [xi ((p1 &&& (2147483647 : Int32)) - ((p1 &&& (2147483647 : Int32)) / (6 : Int32)) * (6 : Int32))]) _
    refine castTop (show (mkF m 79 #[vi p1, vi p2, vr b1, vr b20, vu, vu, vu] [xi ((p1 &&& (2147483647 : Int32)) - ((p1 &&& (2147483647 : Int32)) / (6 : Int32)) * (6 : Int32))]) = (mkF m 79 #[vi p1, vi p2, vr b1, vr b20, vu, vu, vu] [xi (1 : Int32)]) from by rw [as13]) ?_
    show own_S p e below T32 (mkF m 79 #[vi p1, vi p2, vr b1, vr b20, vu, vu, vu] [xi (1 : Int32)]) _
    refine XS.istore X32.here hx rfl (hb hby at_79) rfl (l' := #[vi p1, vi p2, vr b1, vr b20, vi (1 : Int32), vu, vu]) rfl ?_
    show own_S p e below T32 (mkF m 81 #[vi p1, vi p2, vr b1, vr b20, vi (1 : Int32), vu, vu] []) _
    refine XS.iloadN X32.here hx rfl (hb hby at_81) rfl ?_
    show own_S p e below T32 (mkF m 82 #[vi p1, vi p2, vr b1, vr b20, vi (1 : Int32), vu, vu] [xi p2]) _
    refine XS.ifYes X32.here hx rfl (pc0 := 82) (pc' := 91) rfl (hb hby at_82) rfl as7 (by decide) (by decide) ?_
    show own_S p e below T32 (mkF m 91 #[vi p1, vi p2, vr b1, vr b20, vi (1 : Int32), vu, vu] []) _
    refine XS.iloadN X32.here hx rfl (hb hby at_91) rfl ?_
    show own_S p e below T32 (mkF m 92 #[vi p1, vi p2, vr b1, vr b20, vi (1 : Int32), vu, vu] [xi p2]) _
    refine XS.ifYes X32.here hx rfl (pc0 := 92) (pc' := 101) rfl (hb hby at_92) rfl as3 (by decide) (by decide) ?_
    show own_S p e below T32 (mkF m 101 #[vi p1, vi p2, vr b1, vr b20, vi (1 : Int32), vu, vu] []) _
    refine XS.iconst X32.here hx rfl (hb hby at_101) ?_
    show own_S p e below T32 (mkF m 102 #[vi p1, vi p2, vr b1, vr b20, vi (1 : Int32), vu, vu] [xi (2 : Int32)]) _
    refine XS.istore X32.here hx rfl (hb hby at_102) rfl (l' := #[vi p1, vi p2, vr b1, vr b20, vi (1 : Int32), vi (2 : Int32), vu]) rfl ?_
    show own_S p e below T32 (mkF m 104 #[vi p1, vi p2, vr b1, vr b20, vi (1 : Int32), vi (2 : Int32), vu] []) _
    refine XS.aloadN X32.here hx rfl (hb hby at_104) rfl rfl ?_
    show own_S p e below T32 (mkF m 105 #[vi p1, vi p2, vr b1, vr b20, vi (1 : Int32), vi (2 : Int32), vu] [xr b20]) _
    refine XS.iload X32.here hx rfl (hb hby at_105) rfl ?_
    show own_S p e below T32 (mkF m 107 #[vi p1, vi p2, vr b1, vr b20, vi (1 : Int32), vi (2 : Int32), vu] [xi (1 : Int32), xr b20]) _
    refine X32.iaload hx (j := (1 : Int32)) (v := (xi (5 : Int32))) (by rw [e32]; exact Ar33.1) (State.isArrayOf_alike hZ.alike Ar33.2.1) Ar33.2.2 hin33 hat33 (g := (mkF m 107 #[vi p1, vi p2, vr b1, vr b20, vi (1 : Int32), vi (2 : Int32), vu] [xi (1 : Int32), xr b20])) rfl rfl (hb hby at_107) _ ?_
    show own_S p e below T32 (mkF m 108 #[vi p1, vi p2, vr b1, vr b20, vi (1 : Int32), vi (2 : Int32), vu] [xi (5 : Int32)]) _
    refine XS.iload X32.here hx rfl (hb hby at_108) rfl ?_
    show own_S p e below T32 (mkF m 110 #[vi p1, vi p2, vr b1, vr b20, vi (1 : Int32), vi (2 : Int32), vu] [xi (2 : Int32), xi (5 : Int32)]) _
    refine XS.ishr X32.here hx rfl (hb hby at_110) rfl ?_
    show own_S p e below T32 (mkF m 111 #[vi p1, vi p2, vr b1, vr b20, vi (1 : Int32), vi (2 : Int32), vu] [xi ((5 : Int32) >>> ((2 : Int32) &&& 31))]) _
    refine castTop (show (mkF m 111 #[vi p1, vi p2, vr b1, vr b20, vi (1 : Int32), vi (2 : Int32), vu] [xi ((5 : Int32) >>> ((2 : Int32) &&& 31))]) = (mkF m 111 #[vi p1, vi p2, vr b1, vr b20, vi (1 : Int32), vi (2 : Int32), vu] [xi (1 : Int32)]) from by rw [show ((5 : Int32) >>> ((2 : Int32) &&& 31)) = (1 : Int32) from by decide]) ?_
    show own_S p e below T32 (mkF m 111 #[vi p1, vi p2, vr b1, vr b20, vi (1 : Int32), vi (2 : Int32), vu] [xi (1 : Int32)]) _
    refine XS.iconst X32.here hx rfl (hb hby at_111) ?_
    show own_S p e below T32 (mkF m 112 #[vi p1, vi p2, vr b1, vr b20, vi (1 : Int32), vi (2 : Int32), vu] [xi (1 : Int32), xi (1 : Int32)]) _
    refine XS.iand X32.here hx rfl (hb hby at_112) rfl ?_
    show own_S p e below T32 (mkF m 113 #[vi p1, vi p2, vr b1, vr b20, vi (1 : Int32), vi (2 : Int32), vu] [xi ((1 : Int32) &&& (1 : Int32))]) _
    refine castTop (show (mkF m 113 #[vi p1, vi p2, vr b1, vr b20, vi (1 : Int32), vi (2 : Int32), vu] [xi ((1 : Int32) &&& (1 : Int32))]) = (mkF m 113 #[vi p1, vi p2, vr b1, vr b20, vi (1 : Int32), vi (2 : Int32), vu] [xi (1 : Int32)]) from by rw [show ((1 : Int32) &&& (1 : Int32)) = (1 : Int32) from by decide]) ?_
    show own_S p e below T32 (mkF m 113 #[vi p1, vi p2, vr b1, vr b20, vi (1 : Int32), vi (2 : Int32), vu] [xi (1 : Int32)]) _
    refine XS.ifNo X32.here hx rfl (hb hby at_113) rfl (by decide) ?_
    show own_S p e below T32 (mkF m 116 #[vi p1, vi p2, vr b1, vr b20, vi (1 : Int32), vi (2 : Int32), vu] []) _
    refine XS.iconst X32.here hx rfl (hb hby at_116) ?_
    show own_S p e below T32 (mkF m 117 #[vi p1, vi p2, vr b1, vr b20, vi (1 : Int32), vi (2 : Int32), vu] [xi (1 : Int32)]) _
    refine XS.goto X32.here hx rfl (pc0 := 117) (pc' := 121) rfl (hb hby at_117) (by decide) (by decide) ?_
    show own_S p e below T32 (mkF m 121 #[vi p1, vi p2, vr b1, vr b20, vi (1 : Int32), vi (2 : Int32), vu] [xi (1 : Int32)]) _
    refine XS.istore X32.here hx rfl (hb hby at_121) rfl (l' := #[vi p1, vi p2, vr b1, vr b20, vi (1 : Int32), vi (2 : Int32), vi (1 : Int32)]) rfl ?_
    show own_S p e below T32 (mkF m 123 #[vi p1, vi p2, vr b1, vr b20, vi (1 : Int32), vi (2 : Int32), vi (1 : Int32)] []) _
    refine XS.aloadN X32.here hx rfl (hb hby at_123) rfl rfl ?_
    show own_S p e below T32 (mkF m 124 #[vi p1, vi p2, vr b1, vr b20, vi (1 : Int32), vi (2 : Int32), vi (1 : Int32)] [xr b1]) _
    refine XS.iload X32.here hx rfl (hb hby at_124) rfl ?_
    show own_S p e below T32 (mkF m 126 #[vi p1, vi p2, vr b1, vr b20, vi (1 : Int32), vi (2 : Int32), vi (1 : Int32)] [xi (1 : Int32), xr b1]) _
    refine X32.aaload hx (j := (1 : Int32)) (v := (xr u1)) (by rw [e32]; exact Ar34.1) (State.isArrayOf_alike hZ.alike Ar34.2.1) rfl Ar34.2.2 hin34 hat34 (g := (mkF m 126 #[vi p1, vi p2, vr b1, vr b20, vi (1 : Int32), vi (2 : Int32), vi (1 : Int32)] [xi (1 : Int32), xr b1])) rfl rfl (hb hby at_126) _ ?_
    show own_S p e below T32 (mkF m 127 #[vi p1, vi p2, vr b1, vr b20, vi (1 : Int32), vi (2 : Int32), vi (1 : Int32)] [xr u1]) _
    refine XS.iloadN X32.here hx rfl (hb hby at_127) rfl ?_
    show own_S p e below T32 (mkF m 128 #[vi p1, vi p2, vr b1, vr b20, vi (1 : Int32), vi (2 : Int32), vi (1 : Int32)] [xi p2, xr u1]) _
    refine st35.trans ?_
    show own_S p e below T35 (mkF m 131 #[vi p1, vi p2, vr b1, vr b20, vi (1 : Int32), vi (2 : Int32), vi (1 : Int32)] [xi (1 : Int32)]) _
    refine XS.iload X35.here hx rfl (hb hby at_131) rfl ?_
    show own_S p e below T35 (mkF m 133 #[vi p1, vi p2, vr b1, vr b20, vi (1 : Int32), vi (2 : Int32), vi (1 : Int32)] [xi (1 : Int32), xi (1 : Int32)]) _
    refine XS.icmpNo X35.here hx rfl (hb hby at_133) rfl (by decide) ?_
    show own_S p e below T35 (mkF m 136 #[vi p1, vi p2, vr b1, vr b20, vi (1 : Int32), vi (2 : Int32), vi (1 : Int32)] []) _
    refine XS.iconst X35.here hx rfl (hb hby at_136) ?_
    show own_S p e below T35 (mkF m 137 #[vi p1, vi p2, vr b1, vr b20, vi (1 : Int32), vi (2 : Int32), vi (1 : Int32)] [xi (1 : Int32)]) _
    refine XS.goto X35.here hx rfl (pc0 := 137) (pc' := 141) rfl (hb hby at_137) (by decide) (by decide) ?_
    show own_S p e below T35 (mkF m 141 #[vi p1, vi p2, vr b1, vr b20, vi (1 : Int32), vi (2 : Int32), vi (1 : Int32)] [xi (1 : Int32)]) _
    exact retN X35 hx (t := .boolean) Bd.returns (by simp) (hb hby at_141) hr
  · exact ⟨rfl, N35⟩
theorem ef_own_c6_ordinal (m : MethodId) (u0 u1 u2 u3 u4 u5 : Addr) : entryFrame m #[xr u2] 1 = (mkF m 0 #[vr u2] []) := by first | (simp [entryFrame, mkF, argsToLocals, Value.category]; done) | rfl
set_option maxRecDepth 65536 in
set_option maxHeartbeats 40000000 in
theorem own_c6_ordinal (l : Launch) (Z : State) (a0 : Array Value) (hw : ∀ d ∈ tables_1, d.before a0 Z = true) (u0 u1 u2 u3 u4 u5 : Addr) (G : own_St Z u0 u1 u2 u3 u4 u5) (h0 : Heap) (n0 : Nat) (O0 : Old Z n0 h0) : own_Met l Z Y0 jdk_37_method_2_code 1 (some .int) ({ frames := 0, cells := 0, slots := 0, locals := 0 } : Room) #[xr u2] h0 (own_QR (some (xi (2 : Int32))) h0 n0) := by
  intro ws
  refine MetFree.of_bodySF (plainFor_of_name pn0) hisR ?_
  intro p e s m args below meth c s₁ Bd hml0 hP hK
  obtain ⟨rfl, hZ, hh⟩ := hP
  have hx := Bd.exec
  have hby := Bd.bytes
  have hml : c.maxLocals = 1 := hml0
  have hown : s.vm.findClass "java/lang/Enum" = some m.cls := findClass_of_methodNamed Bd.named
  have hnm := (name_of_methodNamed Bd.named Bd.method).1
  have X0 : Stand p l e ({ frames := 0, cells := 0, slots := 0, locals := 0 } : Room) s m #[xr u2] below meth c s₁ [] 0 0 := Stand.of_body Bd
  have e0 : s₁.heap = h0 := by rw [← hh, Bd.state]; rfl
  have N0 := Fr.nil n0
  have pre0 : ∀ t, Steps p.tables e below (s₁.setTop (mkF m 0 #[vr u2] [])) t → Steps p.tables e below (s₁.setTop (entryFrame m #[xr u2] 1)) t := fun t st => castTop (ef_own_c6_ordinal m u0 u1 u2 u3 u4 u5) st
  obtain ⟨T1, X1, e1, st1⟩ := getF X0 hx hZ hown (host := "") (Or.inl (ww hw 30 rfl)) Via.refl e0 ((own_F_u2_ordinal G).ext O0.2) (g := (mkF m 1 #[vr u2] [xr u2])) rfl rfl (hb hby d2_1)
  obtain ⟨fs, hr, hrun, hended, hW, hsame⟩ := X1.leave (v := some (xi (2 : Int32))) (fun h => by rw [Bd.returns] at h; cases h)
  refine ⟨_, _, pre0 _ ?_, hrun, hended, _, _, rfl, ?_, ⟨_, rfl⟩, hW, hsame.mono (by decide) (by decide)⟩
  · show own_S p e below s₁ (mkF m 0 #[vr u2] []) _
    refine XS.aloadN X0.here hx rfl (hb hby d2_0) rfl rfl ?_
    show own_S p e below s₁ (mkF m 1 #[vr u2] [xr u2]) _
    refine st1 _ ?_
    show own_S p e below T1 (mkF m 4 #[vr u2] [xi (2 : Int32)]) _
    exact retI X1 hx Bd.returns (hb hby d2_4) hr
  · exact ⟨rfl, N0, e1⟩
theorem d1_78 : decode prog_62_method_8_code 78 = .ok (.iload_n 1, 1) := by decide +kernel
theorem d1_79 : decode prog_62_method_8_code 79 = .ok (.ifCond .ge 7, 3) := by decide +kernel
theorem d1_82 : decode prog_62_method_8_code 82 = .ok (.iconst 1, 1) := by decide +kernel
theorem d1_83 : decode prog_62_method_8_code 83 = .ok (.goto 40, 3) := by decide +kernel
theorem ef_own_c6_holds (m : MethodId) (u0 u1 u2 u3 u4 u5 : Addr) (p2 : Int32) : entryFrame m #[xr u2, xi p2] 2 = (mkF m 0 #[vr u2, vi p2] []) := by first | (simp [entryFrame, mkF, argsToLocals, Value.category]; done) | rfl
set_option maxRecDepth 65536 in
set_option maxHeartbeats 40000000 in
theorem own_c6_holds (l : Launch) (Z : State) (a0 : Array Value) (hw : ∀ d ∈ tables_1, d.before a0 Z = true) (u0 u1 u2 u3 u4 u5 : Addr) (G : own_St Z u0 u1 u2 u3 u4 u5) (p2 : Int32) (as1 : ifCond.holds .ge p2 = false) (h0 : Heap) (n0 : Nat) (O0 : Old Z n0 h0) : own_Met l Z Y2 prog_62_method_8_code 2 (some .boolean) ({ frames := 1, cells := 0, slots := 0, locals := 12 } : Room) #[xr u2, xi p2] h0 (own_QR (some (xi (1 : Int32))) h0 n0) := by
  intro ws
  refine MetFree.of_bodySF (plainFor_of_name pn1) hisR ?_
  intro p e s m args below meth c s₁ Bd hml0 hP hK
  obtain ⟨rfl, hZ, hh⟩ := hP
  have hx := Bd.exec
  have hby := Bd.bytes
  have hml : c.maxLocals = 2 := hml0
  have hown : s.vm.findClass "com/example/whyle/whyle/cfa/Relation" = some m.cls := findClass_of_methodNamed Bd.named
  have hnm := (name_of_methodNamed Bd.named Bd.method).1
  have X0 : Stand p l e ({ frames := 1, cells := 0, slots := 0, locals := 12 } : Room) s m #[xr u2, xi p2] below meth c s₁ [] 0 0 := Stand.of_body Bd
  have e0 : s₁.heap = h0 := by rw [← hh, Bd.state]; rfl
  have N0 := Fr.nil n0
  have pre0 : ∀ t, Steps p.tables e below (s₁.setTop (mkF m 0 #[vr u2, vi p2] [])) t → Steps p.tables e below (s₁.setTop (entryFrame m #[xr u2, xi p2] 2)) t := fun t st => castTop (ef_own_c6_holds m u0 u1 u2 u3 u4 u5 p2) st
  obtain ⟨cq1, kq1, qa1, qb1, qc1⟩ := isOf hZ e0 ((own_X_u2 G).ext O0.2)
  obtain ⟨_, _, ⟨T1, L1, k1, n1⟩, -, X1, ⟨Lc1, hQ1, l1, y1, z1⟩, st1⟩ := X0.virtualBackUp hx (x := Y1) (y := Y0) hown (mvT hZ (ww hw 23 rfl)) (mvT hZ (ww hw 24 rfl)) (mvT hZ (ww hw 25 rfl)) (by decide) (mvT hZ (ww hw 27 rfl)) (mvT hZ (ww hw 26 rfl)) (backOf (W := 0) (own_c6_ordinal l Z a0 hw u0 u1 u2 u3 u4 u5 G h0 n0 O0 []) hZ (ww hw 29 rfl) (ww hw 28 rfl) (by decide) (by decide)) qa1 qc1 (g := (mkF m 1 #[vr u2, vi p2] [xr u2])) rfl (by rw [hml]; rfl) (Steps.refl _) (argsL := []) (rest := []) (lenOf pd0 rfl) rfl (by show 2 * 0 + _ ≤ _; exact Nat.le_of_eq rfl) (hb hby d1_1) (fun _ _ => ⟨rfl, e0, (by decide : 0 + 0 ≤ _), (by decide : 0 + 0 ≤ _)⟩)
  dsimp only [Pt.U, Pt.locs, Pt.cells, Pt.slots] at X1 l1 y1 z1 st1 hQ1
  subst l1 y1 z1
  obtain ⟨rfl, Nq1, e1⟩ := hQ1
  have N1 := Fr.app N0 Nq1
  obtain ⟨fs, hr, hrun, hended, hW, hsame⟩ := X1.leave (v := some (xi (1 : Int32))) (fun h => by rw [Bd.returns] at h; cases h)
  refine ⟨_, _, pre0 _ ?_, hrun, hended, _, _, rfl, ?_, ⟨_, rfl⟩, hW, hsame.mono (by decide) (by decide)⟩
  · show own_S p e below s₁ (mkF m 0 #[vr u2, vi p2] []) _
    refine XS.aloadN X0.here hx rfl (hb hby d1_0) rfl rfl ?_
    show own_S p e below s₁ (mkF m 1 #[vr u2, vi p2] [xr u2]) _
    refine st1.trans ?_
    show own_S p e below T1 (mkF m 4 #[vr u2, vi p2] [xi (2 : Int32)]) _
    refine XS.tswIn X1.here hx rfl (pc0 := 4) (pc' := 78) (o := 74) rfl (hb hby d1_4) rfl (by decide) (by decide) (by decide) (by decide) ?_
    show own_S p e below T1 (mkF m 78 #[vr u2, vi p2] []) _
    refine XS.iloadN X1.here hx rfl (hb hby d1_78) rfl ?_
    show own_S p e below T1 (mkF m 79 #[vr u2, vi p2] [xi p2]) _
    refine XS.ifNo X1.here hx rfl (hb hby d1_79) rfl as1 ?_
    show own_S p e below T1 (mkF m 82 #[vr u2, vi p2] []) _
    refine XS.iconst X1.here hx rfl (hb hby d1_82) ?_
    show own_S p e below T1 (mkF m 83 #[vr u2, vi p2] [xi (1 : Int32)]) _
    refine XS.goto X1.here hx rfl (pc0 := 83) (pc' := 123) rfl (hb hby d1_83) (by decide) (by decide) ?_
    show own_S p e below T1 (mkF m 123 #[vr u2, vi p2] [xi (1 : Int32)]) _
    exact retN X1 hx (t := .boolean) Bd.returns (by simp) (hb hby d1_123) hr
  · exact ⟨rfl, N1, e1⟩
theorem ef_own_l6 (m : MethodId) (u0 u1 u2 u3 u4 u5 : Addr) (p1 : Int32) (p2 : Int32) : entryFrame m #[xi p1, xi p2] maxLocals = (mkF m 0 #[vi p1, vi p2, vu, vu, vu, vu, vu] []) := by first | (simp [entryFrame, mkF, argsToLocals, Value.category, maxLocals]; done) | rfl
set_option maxRecDepth 65536 in
set_option maxHeartbeats 40000000 in
theorem own_l6 (l : Launch) (Z : State) (a0 : Array Value) (hw : ∀ d ∈ tables_1, d.before a0 Z = true) (u0 u1 u2 u3 u4 u5 : Addr) (G : own_St Z u0 u1 u2 u3 u4 u5) (p1 : Int32) (p2 : Int32) (as14 : ((p1 &&& (2147483647 : Int32)) - ((p1 &&& (2147483647 : Int32)) / (6 : Int32)) * (6 : Int32)) = (2 : Int32)) (as1 : ifCond.holds .ge p2 = false) (h0 : Heap) (n0 : Nat) (O0 : Old Z n0 h0) : own_Met l Z x code maxLocals ret room_1 #[xi p1, xi p2] h0 (own_QL (some (xi (1 : Int32))) n0) := by
  intro ws
  refine MetFree.of_bodySF (plainFor_of_name pn2) hisR ?_
  intro p e s m args below meth c s₁ Bd hml0 hP hK
  obtain ⟨rfl, hZ, hh⟩ := hP
  have hx := Bd.exec
  have hby := Bd.bytes
  have hml : c.maxLocals = 7 := hml0
  have hown : s.vm.findClass "com/example/whyle/whyle/cfa/RelationHoldsPinLaw" = some m.cls := findClass_of_methodNamed Bd.named
  have hnm := (name_of_methodNamed Bd.named Bd.method).1
  have X0 : Stand p l e room_1 s m #[xi p1, xi p2] below meth c s₁ [] 0 0 := Stand.of_body Bd
  have e0 : s₁.heap = h0 := by rw [← hh, Bd.state]; rfl
  have N0 := Fr.nil n0
  have pre0 : ∀ t, Steps p.tables e below (s₁.setTop (mkF m 0 #[vi p1, vi p2, vu, vu, vu, vu, vu] [])) t → Steps p.tables e below (s₁.setTop (entryFrame m #[xi p1, xi p2] maxLocals)) t := fun t st => castTop (ef_own_l6 m u0 u1 u2 u3 u4 u5 p1 p2) st
  obtain ⟨T1, h1, k1, X1, e1, E1, A1, Ov1, st1⟩ := newR X0 hx hZ hown (ww hw 0 rfl) (ww hw 1 rfl) e0 (g := (mkF m 2 #[vi p1, vi p2, vu, vu, vu, vu, vu] [xi (6 : Int32)])) rfl (hb hby at_2) rfl (by decide) (cap := 6) (by decide) (by decide) (by decide) (by decide)
  obtain ⟨b1, g1⟩ : ∃ z, z = h0.size := ⟨_, rfl⟩
  rw [← g1] at A1 st1
  have g_b1 : n0 ≤ b1 := own_fresh O0 g1
  have O1 : Old Z n0 h1 := O0.ext E1
  have V_b1 : Arv Z h1 b1 k1 (.object "com/example/whyle/whyle/cfa/Relation") (6 : Int32) [.null, .null, .null, .null, .null, .null] .null := (Arv.new A1 (by decide)).pad (pad_rep [] .null 6)
  obtain ⟨T2, X2, e2, st2⟩ := getS2 X1 hx hZ hown (host := "") (Or.inl (ww hw 2 rfl)) Via.refl e1 ((own_S_u0 G).ext O1.2) (g := (mkF m 7 #[vi p1, vi p2, vu, vu, vu, vu, vu] [xi (0 : Int32), xr b1, xr b1])) rfl (hb hby at_7)
  obtain ⟨cl3, Ar3, q3, S3, N3_, H3, G3⟩ := V_b1
  have hin3 : ¬ ((0 : Int32) < 0 ∨ cl3.slots.size ≤ ((0 : Int32)).toNatClampNeg) := inb_of S3 ⟨by decide, by decide⟩
  obtain ⟨T4, h4, X4, e4, W4, st4⟩ := stR X2 hx hZ e2 Ar3 (j := (0 : Int32)) hin3 rfl (Sto.ofV Ar3 q3 Ov1 (Ins.self ((own_X_u0 G).ext O1.2))) (g := (mkF m 10 #[vi p1, vi p2, vu, vu, vu, vu, vu] [xr u0, xi (0 : Int32), xr b1, xr b1])) rfl rfl (hb hby at_10)
  have V_b1_4 : Arv Z h4 b1 k1 (.object "com/example/whyle/whyle/cfa/Relation") (6 : Int32) [xr u0, .null, .null, .null, .null, .null] .null := Arv.set Ar3 q3 S3 N3_ H3 G3 rfl W4 0 rfl (Nat.le_of_ble_eq_true rfl)
  have O4 : Old Z n0 h4 := O1.wr W4 g_b1
  have N4 := Fr.snoc X4 N0 g_b1
  obtain ⟨T5, X5, e5, st5⟩ := getS2 X4 hx hZ hown (host := "") (Or.inl (ww hw 6 rfl)) Via.refl e4 ((own_S_u1 G).ext O4.2) (g := (mkF m 13 #[vi p1, vi p2, vu, vu, vu, vu, vu] [xi (1 : Int32), xr b1, xr b1])) rfl (hb hby at_13)
  obtain ⟨cl6, Ar6, q6, S6, N6_, H6, G6⟩ := V_b1_4
  have hin6 : ¬ ((1 : Int32) < 0 ∨ cl6.slots.size ≤ ((1 : Int32)).toNatClampNeg) := inb_of S6 ⟨by decide, by decide⟩
  obtain ⟨T7, h7, X7, e7, W7, st7⟩ := stR X5 hx hZ e5 Ar6 (j := (1 : Int32)) hin6 rfl (Sto.ofV Ar6 q6 Ov1 (Ins.self ((own_X_u1 G).ext O4.2))) (g := (mkF m 16 #[vi p1, vi p2, vu, vu, vu, vu, vu] [xr u1, xi (1 : Int32), xr b1, xr b1])) rfl rfl (hb hby at_16)
  have V_b1_7 : Arv Z h7 b1 k1 (.object "com/example/whyle/whyle/cfa/Relation") (6 : Int32) [xr u0, xr u1, .null, .null, .null, .null] .null := Arv.set Ar6 q6 S6 N6_ H6 G6 rfl W7 1 rfl (Nat.le_of_ble_eq_true rfl)
  have O7 : Old Z n0 h7 := O4.wr W7 g_b1
  have N7 := Fr.snoc X7 N4 g_b1
  obtain ⟨T8, X8, e8, st8⟩ := getS2 X7 hx hZ hown (host := "") (Or.inl (ww hw 8 rfl)) Via.refl e7 ((own_S_u2 G).ext O7.2) (g := (mkF m 19 #[vi p1, vi p2, vu, vu, vu, vu, vu] [xi (2 : Int32), xr b1, xr b1])) rfl (hb hby at_19)
  obtain ⟨cl9, Ar9, q9, S9, N9_, H9, G9⟩ := V_b1_7
  have hin9 : ¬ ((2 : Int32) < 0 ∨ cl9.slots.size ≤ ((2 : Int32)).toNatClampNeg) := inb_of S9 ⟨by decide, by decide⟩
  obtain ⟨T10, h10, X10, e10, W10, st10⟩ := stR X8 hx hZ e8 Ar9 (j := (2 : Int32)) hin9 rfl (Sto.ofV Ar9 q9 Ov1 (Ins.self ((own_X_u2 G).ext O7.2))) (g := (mkF m 22 #[vi p1, vi p2, vu, vu, vu, vu, vu] [xr u2, xi (2 : Int32), xr b1, xr b1])) rfl rfl (hb hby at_22)
  have V_b1_10 : Arv Z h10 b1 k1 (.object "com/example/whyle/whyle/cfa/Relation") (6 : Int32) [xr u0, xr u1, xr u2, .null, .null, .null] .null := Arv.set Ar9 q9 S9 N9_ H9 G9 rfl W10 2 rfl (Nat.le_of_ble_eq_true rfl)
  have O10 : Old Z n0 h10 := O7.wr W10 g_b1
  have N10 := Fr.snoc X10 N7 g_b1
  obtain ⟨T11, X11, e11, st11⟩ := getS2 X10 hx hZ hown (host := "") (Or.inl (ww hw 10 rfl)) Via.refl e10 ((own_S_u3 G).ext O10.2) (g := (mkF m 25 #[vi p1, vi p2, vu, vu, vu, vu, vu] [xi (3 : Int32), xr b1, xr b1])) rfl (hb hby at_25)
  obtain ⟨cl12, Ar12, q12, S12, N12_, H12, G12⟩ := V_b1_10
  have hin12 : ¬ ((3 : Int32) < 0 ∨ cl12.slots.size ≤ ((3 : Int32)).toNatClampNeg) := inb_of S12 ⟨by decide, by decide⟩
  obtain ⟨T13, h13, X13, e13, W13, st13⟩ := stR X11 hx hZ e11 Ar12 (j := (3 : Int32)) hin12 rfl (Sto.ofV Ar12 q12 Ov1 (Ins.self ((own_X_u3 G).ext O10.2))) (g := (mkF m 28 #[vi p1, vi p2, vu, vu, vu, vu, vu] [xr u3, xi (3 : Int32), xr b1, xr b1])) rfl rfl (hb hby at_28)
  have V_b1_13 : Arv Z h13 b1 k1 (.object "com/example/whyle/whyle/cfa/Relation") (6 : Int32) [xr u0, xr u1, xr u2, xr u3, .null, .null] .null := Arv.set Ar12 q12 S12 N12_ H12 G12 rfl W13 3 rfl (Nat.le_of_ble_eq_true rfl)
  have O13 : Old Z n0 h13 := O10.wr W13 g_b1
  have N13 := Fr.snoc X13 N10 g_b1
  obtain ⟨T14, X14, e14, st14⟩ := getS2 X13 hx hZ hown (host := "") (Or.inl (ww hw 12 rfl)) Via.refl e13 ((own_S_u4 G).ext O13.2) (g := (mkF m 31 #[vi p1, vi p2, vu, vu, vu, vu, vu] [xi (4 : Int32), xr b1, xr b1])) rfl (hb hby at_31)
  obtain ⟨cl15, Ar15, q15, S15, N15_, H15, G15⟩ := V_b1_13
  have hin15 : ¬ ((4 : Int32) < 0 ∨ cl15.slots.size ≤ ((4 : Int32)).toNatClampNeg) := inb_of S15 ⟨by decide, by decide⟩
  obtain ⟨T16, h16, X16, e16, W16, st16⟩ := stR X14 hx hZ e14 Ar15 (j := (4 : Int32)) hin15 rfl (Sto.ofV Ar15 q15 Ov1 (Ins.self ((own_X_u4 G).ext O13.2))) (g := (mkF m 34 #[vi p1, vi p2, vu, vu, vu, vu, vu] [xr u4, xi (4 : Int32), xr b1, xr b1])) rfl rfl (hb hby at_34)
  have V_b1_16 : Arv Z h16 b1 k1 (.object "com/example/whyle/whyle/cfa/Relation") (6 : Int32) [xr u0, xr u1, xr u2, xr u3, xr u4, .null] .null := Arv.set Ar15 q15 S15 N15_ H15 G15 rfl W16 4 rfl (Nat.le_of_ble_eq_true rfl)
  have O16 : Old Z n0 h16 := O13.wr W16 g_b1
  have N16 := Fr.snoc X16 N13 g_b1
  obtain ⟨T17, X17, e17, st17⟩ := getS2 X16 hx hZ hown (host := "") (Or.inl (ww hw 14 rfl)) Via.refl e16 ((own_S_u5 G).ext O16.2) (g := (mkF m 37 #[vi p1, vi p2, vu, vu, vu, vu, vu] [xi (5 : Int32), xr b1, xr b1])) rfl (hb hby at_37)
  obtain ⟨cl18, Ar18, q18, S18, N18_, H18, G18⟩ := V_b1_16
  have hin18 : ¬ ((5 : Int32) < 0 ∨ cl18.slots.size ≤ ((5 : Int32)).toNatClampNeg) := inb_of S18 ⟨by decide, by decide⟩
  obtain ⟨T19, h19, X19, e19, W19, st19⟩ := stR X17 hx hZ e17 Ar18 (j := (5 : Int32)) hin18 rfl (Sto.ofV Ar18 q18 Ov1 (Ins.self ((own_X_u5 G).ext O16.2))) (g := (mkF m 40 #[vi p1, vi p2, vu, vu, vu, vu, vu] [xr u5, xi (5 : Int32), xr b1, xr b1])) rfl rfl (hb hby at_40)
  have V_b1_19 : Arv Z h19 b1 k1 (.object "com/example/whyle/whyle/cfa/Relation") (6 : Int32) [xr u0, xr u1, xr u2, xr u3, xr u4, xr u5] .null := Arv.set Ar18 q18 S18 N18_ H18 G18 rfl W19 5 rfl (Nat.le_of_ble_eq_true rfl)
  have O19 : Old Z n0 h19 := O16.wr W19 g_b1
  have N19 := Fr.snoc X19 N16 g_b1
  obtain ⟨T20, h20, k20, X20, e20, E20, A20, st20⟩ := newP X19 hx hZ (ww hw 16 rfl) e19 (g := (mkF m 44 #[vi p1, vi p2, vr b1, vu, vu, vu, vu] [xi (6 : Int32)])) rfl (hb hby at_44) rfl (by decide) (cap := 6) (by decide) (by decide) (by decide) (by decide)
  obtain ⟨b20, g20⟩ : ∃ z, z = h19.size := ⟨_, rfl⟩
  rw [← g20] at A20 st20
  have g_b20 : n0 ≤ b20 := own_fresh O19 g20
  have ne_b1_b20 : b1 ≠ b20 := Nat.ne_of_lt (Nat.lt_of_lt_of_le (V_b1_19).lt (Nat.le_of_eq g20.symm))
  have O20 : Old Z n0 h20 := O19.ext E20
  have V_b1_20 := V_b1_19.ext E20
  have V_b20 : Arv Z h20 b20 k20 .int (6 : Int32) [(.int (0 : Int32)), (.int (0 : Int32)), (.int (0 : Int32)), (.int (0 : Int32)), (.int (0 : Int32)), (.int (0 : Int32))] (.int (0 : Int32)) := (Arv.new A20 (by decide)).pad (pad_rep [] (.int (0 : Int32)) 6)
  obtain ⟨cl21, Ar21, q21, S21, N21_, H21, G21⟩ := V_b20
  have hin21 : ¬ ((0 : Int32) < 0 ∨ cl21.slots.size ≤ ((0 : Int32)).toNatClampNeg) := inb_of S21 ⟨by decide, by decide⟩
  obtain ⟨T22, h22, X22, e22, W22, st22⟩ := stI X20 hx hZ e20 Ar21 (j := (0 : Int32)) hin21 (g := (mkF m 49 #[vi p1, vi p2, vr b1, vu, vu, vu, vu] [xi (2 : Int32), xi (0 : Int32), xr b20, xr b20])) rfl rfl (hb hby at_49)
  have V_b20_22 : Arv Z h22 b20 k20 .int (6 : Int32) [xi (2 : Int32), xi (0 : Int32), xi (0 : Int32), xi (0 : Int32), xi (0 : Int32), xi (0 : Int32)] (.int (0 : Int32)) := Arv.set Ar21 q21 S21 N21_ H21 G21 rfl W22 0 rfl (Nat.le_of_ble_eq_true rfl)
  have O22 : Old Z n0 h22 := O20.wr W22 g_b20
  have V_b1_22 := V_b1_20.other W22 ne_b1_b20
  have N22 := Fr.snoc X22 N19 g_b20
  obtain ⟨cl23, Ar23, q23, S23, N23_, H23, G23⟩ := V_b20_22
  have hin23 : ¬ ((1 : Int32) < 0 ∨ cl23.slots.size ≤ ((1 : Int32)).toNatClampNeg) := inb_of S23 ⟨by decide, by decide⟩
  obtain ⟨T24, h24, X24, e24, W24, st24⟩ := stI X22 hx hZ e22 Ar23 (j := (1 : Int32)) hin23 (g := (mkF m 53 #[vi p1, vi p2, vr b1, vu, vu, vu, vu] [xi (5 : Int32), xi (1 : Int32), xr b20, xr b20])) rfl rfl (hb hby at_53)
  have V_b20_24 : Arv Z h24 b20 k20 .int (6 : Int32) [xi (2 : Int32), xi (5 : Int32), xi (0 : Int32), xi (0 : Int32), xi (0 : Int32), xi (0 : Int32)] (.int (0 : Int32)) := Arv.set Ar23 q23 S23 N23_ H23 G23 rfl W24 1 rfl (Nat.le_of_ble_eq_true rfl)
  have O24 : Old Z n0 h24 := O22.wr W24 g_b20
  have V_b1_24 := V_b1_22.other W24 ne_b1_b20
  have N24 := Fr.snoc X24 N22 g_b20
  obtain ⟨cl25, Ar25, q25, S25, N25_, H25, G25⟩ := V_b20_24
  have hin25 : ¬ ((2 : Int32) < 0 ∨ cl25.slots.size ≤ ((2 : Int32)).toNatClampNeg) := inb_of S25 ⟨by decide, by decide⟩
  obtain ⟨T26, h26, X26, e26, W26, st26⟩ := stI X24 hx hZ e24 Ar25 (j := (2 : Int32)) hin25 (g := (mkF m 57 #[vi p1, vi p2, vr b1, vu, vu, vu, vu] [xi (1 : Int32), xi (2 : Int32), xr b20, xr b20])) rfl rfl (hb hby at_57)
  have V_b20_26 : Arv Z h26 b20 k20 .int (6 : Int32) [xi (2 : Int32), xi (5 : Int32), xi (1 : Int32), xi (0 : Int32), xi (0 : Int32), xi (0 : Int32)] (.int (0 : Int32)) := Arv.set Ar25 q25 S25 N25_ H25 G25 rfl W26 2 rfl (Nat.le_of_ble_eq_true rfl)
  have O26 : Old Z n0 h26 := O24.wr W26 g_b20
  have V_b1_26 := V_b1_24.other W26 ne_b1_b20
  have N26 := Fr.snoc X26 N24 g_b20
  obtain ⟨cl27, Ar27, q27, S27, N27_, H27, G27⟩ := V_b20_26
  have hin27 : ¬ ((3 : Int32) < 0 ∨ cl27.slots.size ≤ ((3 : Int32)).toNatClampNeg) := inb_of S27 ⟨by decide, by decide⟩
  obtain ⟨T28, h28, X28, e28, W28, st28⟩ := stI X26 hx hZ e26 Ar27 (j := (3 : Int32)) hin27 (g := (mkF m 61 #[vi p1, vi p2, vr b1, vu, vu, vu, vu] [xi (3 : Int32), xi (3 : Int32), xr b20, xr b20])) rfl rfl (hb hby at_61)
  have V_b20_28 : Arv Z h28 b20 k20 .int (6 : Int32) [xi (2 : Int32), xi (5 : Int32), xi (1 : Int32), xi (3 : Int32), xi (0 : Int32), xi (0 : Int32)] (.int (0 : Int32)) := Arv.set Ar27 q27 S27 N27_ H27 G27 rfl W28 3 rfl (Nat.le_of_ble_eq_true rfl)
  have O28 : Old Z n0 h28 := O26.wr W28 g_b20
  have V_b1_28 := V_b1_26.other W28 ne_b1_b20
  have N28 := Fr.snoc X28 N26 g_b20
  obtain ⟨cl29, Ar29, q29, S29, N29_, H29, G29⟩ := V_b20_28
  have hin29 : ¬ ((4 : Int32) < 0 ∨ cl29.slots.size ≤ ((4 : Int32)).toNatClampNeg) := inb_of S29 ⟨by decide, by decide⟩
  obtain ⟨T30, h30, X30, e30, W30, st30⟩ := stI X28 hx hZ e28 Ar29 (j := (4 : Int32)) hin29 (g := (mkF m 65 #[vi p1, vi p2, vr b1, vu, vu, vu, vu] [xi (4 : Int32), xi (4 : Int32), xr b20, xr b20])) rfl rfl (hb hby at_65)
  have V_b20_30 : Arv Z h30 b20 k20 .int (6 : Int32) [xi (2 : Int32), xi (5 : Int32), xi (1 : Int32), xi (3 : Int32), xi (4 : Int32), xi (0 : Int32)] (.int (0 : Int32)) := Arv.set Ar29 q29 S29 N29_ H29 G29 rfl W30 4 rfl (Nat.le_of_ble_eq_true rfl)
  have O30 : Old Z n0 h30 := O28.wr W30 g_b20
  have V_b1_30 := V_b1_28.other W30 ne_b1_b20
  have N30 := Fr.snoc X30 N28 g_b20
  obtain ⟨cl31, Ar31, q31, S31, N31_, H31, G31⟩ := V_b20_30
  have hin31 : ¬ ((5 : Int32) < 0 ∨ cl31.slots.size ≤ ((5 : Int32)).toNatClampNeg) := inb_of S31 ⟨by decide, by decide⟩
  obtain ⟨T32, h32, X32, e32, W32, st32⟩ := stI X30 hx hZ e30 Ar31 (j := (5 : Int32)) hin31 (g := (mkF m 70 #[vi p1, vi p2, vr b1, vu, vu, vu, vu] [xi (6 : Int32), xi (5 : Int32), xr b20, xr b20])) rfl rfl (hb hby at_70)
  have V_b20_32 : Arv Z h32 b20 k20 .int (6 : Int32) [xi (2 : Int32), xi (5 : Int32), xi (1 : Int32), xi (3 : Int32), xi (4 : Int32), xi (6 : Int32)] (.int (0 : Int32)) := Arv.set Ar31 q31 S31 N31_ H31 G31 rfl W32 5 rfl (Nat.le_of_ble_eq_true rfl)
  have O32 : Old Z n0 h32 := O30.wr W32 g_b20
  have V_b1_32 := V_b1_30.other W32 ne_b1_b20
  have N32 := Fr.snoc X32 N30 g_b20
  obtain ⟨cl33, Ar33, q33, S33, N33_, H33, G33⟩ := V_b20_32
  have hin33 : ¬ ((2 : Int32) < 0 ∨ cl33.slots.size ≤ ((2 : Int32)).toNatClampNeg) := inb_of S33 ⟨by decide, by decide⟩
  have hat33 : cl33.slots[((2 : Int32)).toNatClampNeg]? = some (xi (1 : Int32)) := Has.at H33 hin33 rfl
  obtain ⟨cl34, Ar34, q34, S34, N34_, H34, G34⟩ := V_b1_32
  have hin34 : ¬ ((2 : Int32) < 0 ∨ cl34.slots.size ≤ ((2 : Int32)).toNatClampNeg) := inb_of S34 ⟨by decide, by decide⟩
  have hat34 : cl34.slots[((2 : Int32)).toNatClampNeg]? = some (xr u2) := Has.at H34 hin34 rfl
  obtain ⟨cq35, kq35, qa35, qb35, qc35⟩ := isOf hZ e32 ((own_X_u2 G).ext O32.2)
  obtain ⟨_, _, ⟨T35, L35, k35, n35⟩, -, X35, ⟨Lc35, hQ35, l35, y35, z35⟩, st35⟩ := X32.virtualBack hx (y := Y2) (z := Y2) hown (mvT hZ (ww hw 18 rfl)) (mvT hZ (ww hw 19 rfl)) (notFace_of_selects (args := #[]) (mvT hZ (ww hw 21 rfl))) (mvT hZ (ww hw 21 rfl)) (mvT hZ (ww hw 20 rfl)) (by decide) (backOf (W := 0) (own_c6_holds l Z a0 hw u0 u1 u2 u3 u4 u5 G p2 as1 h32 n0 O32 []) hZ (ww hw 22 rfl) (ww hw 3 rfl) (by decide) (by decide)) qa35 qc35 (g := (mkF m 128 #[vi p1, vi p2, vr b1, vr b20, vi (2 : Int32), vi (0 : Int32), vi (1 : Int32)] [xi p2, xr u2])) rfl (by rw [hml]; rfl) (Steps.refl _) (argsL := [xi p2]) (rest := []) (lenOf pd1 rfl) rfl (by show 2 * 0 + _ ≤ _; exact Nat.le_of_eq rfl) (hb hby at_128) (fun _ _ => ⟨rfl, e32, (by decide : 2 + 0 ≤ _), (by decide : 12 + 0 ≤ _)⟩)
  dsimp only [Pt.U, Pt.locs, Pt.cells, Pt.slots] at X35 l35 y35 z35 st35 hQ35
  subst l35 y35 z35
  obtain ⟨rfl, Nq35, e35⟩ := hQ35
  have N35 := Fr.app N32 Nq35
  obtain ⟨fs, hr, hrun, hended, hW, hsame⟩ := X35.leave (v := some (xi (1 : Int32))) (fun h => by rw [Bd.returns] at h; cases h)
  refine ⟨_, _, pre0 _ ?_, hrun, hended, _, _, rfl, ?_, ⟨_, rfl⟩, hW, hsame.mono (by decide) (by decide)⟩
  · show own_S p e below s₁ (mkF m 0 #[vi p1, vi p2, vu, vu, vu, vu, vu] []) _
    refine XS.bipush X0.here hx rfl (hb hby at_0) ?_
    show own_S p e below s₁ (mkF m 2 #[vi p1, vi p2, vu, vu, vu, vu, vu] [xi (6 : Int32)]) _
    refine st1 _ ?_
    show own_S p e below T1 (mkF m 5 #[vi p1, vi p2, vu, vu, vu, vu, vu] [xr b1]) _
    refine XS.dup X1.here hx rfl (hb hby at_5) rfl rfl ?_
    show own_S p e below T1 (mkF m 6 #[vi p1, vi p2, vu, vu, vu, vu, vu] [xr b1, xr b1]) _
    refine XS.iconst X1.here hx rfl (hb hby at_6) ?_
    show own_S p e below T1 (mkF m 7 #[vi p1, vi p2, vu, vu, vu, vu, vu] [xi (0 : Int32), xr b1, xr b1]) _
    refine st2 _ ?_
    show own_S p e below T2 (mkF m 10 #[vi p1, vi p2, vu, vu, vu, vu, vu] [xr u0, xi (0 : Int32), xr b1, xr b1]) _
    refine st4 _ ?_
    show own_S p e below T4 (mkF m 11 #[vi p1, vi p2, vu, vu, vu, vu, vu] [xr b1]) _
    refine XS.dup X4.here hx rfl (hb hby at_11) rfl rfl ?_
    show own_S p e below T4 (mkF m 12 #[vi p1, vi p2, vu, vu, vu, vu, vu] [xr b1, xr b1]) _
    refine XS.iconst X4.here hx rfl (hb hby at_12) ?_
    show own_S p e below T4 (mkF m 13 #[vi p1, vi p2, vu, vu, vu, vu, vu] [xi (1 : Int32), xr b1, xr b1]) _
    refine st5 _ ?_
    show own_S p e below T5 (mkF m 16 #[vi p1, vi p2, vu, vu, vu, vu, vu] [xr u1, xi (1 : Int32), xr b1, xr b1]) _
    refine st7 _ ?_
    show own_S p e below T7 (mkF m 17 #[vi p1, vi p2, vu, vu, vu, vu, vu] [xr b1]) _
    refine XS.dup X7.here hx rfl (hb hby at_17) rfl rfl ?_
    show own_S p e below T7 (mkF m 18 #[vi p1, vi p2, vu, vu, vu, vu, vu] [xr b1, xr b1]) _
    refine XS.iconst X7.here hx rfl (hb hby at_18) ?_
    show own_S p e below T7 (mkF m 19 #[vi p1, vi p2, vu, vu, vu, vu, vu] [xi (2 : Int32), xr b1, xr b1]) _
    refine st8 _ ?_
    show own_S p e below T8 (mkF m 22 #[vi p1, vi p2, vu, vu, vu, vu, vu] [xr u2, xi (2 : Int32), xr b1, xr b1]) _
    refine st10 _ ?_
    show own_S p e below T10 (mkF m 23 #[vi p1, vi p2, vu, vu, vu, vu, vu] [xr b1]) _
    refine XS.dup X10.here hx rfl (hb hby at_23) rfl rfl ?_
    show own_S p e below T10 (mkF m 24 #[vi p1, vi p2, vu, vu, vu, vu, vu] [xr b1, xr b1]) _
    refine XS.iconst X10.here hx rfl (hb hby at_24) ?_
    show own_S p e below T10 (mkF m 25 #[vi p1, vi p2, vu, vu, vu, vu, vu] [xi (3 : Int32), xr b1, xr b1]) _
    refine st11 _ ?_
    show own_S p e below T11 (mkF m 28 #[vi p1, vi p2, vu, vu, vu, vu, vu] [xr u3, xi (3 : Int32), xr b1, xr b1]) _
    refine st13 _ ?_
    show own_S p e below T13 (mkF m 29 #[vi p1, vi p2, vu, vu, vu, vu, vu] [xr b1]) _
    refine XS.dup X13.here hx rfl (hb hby at_29) rfl rfl ?_
    show own_S p e below T13 (mkF m 30 #[vi p1, vi p2, vu, vu, vu, vu, vu] [xr b1, xr b1]) _
    refine XS.iconst X13.here hx rfl (hb hby at_30) ?_
    show own_S p e below T13 (mkF m 31 #[vi p1, vi p2, vu, vu, vu, vu, vu] [xi (4 : Int32), xr b1, xr b1]) _
    refine st14 _ ?_
    show own_S p e below T14 (mkF m 34 #[vi p1, vi p2, vu, vu, vu, vu, vu] [xr u4, xi (4 : Int32), xr b1, xr b1]) _
    refine st16 _ ?_
    show own_S p e below T16 (mkF m 35 #[vi p1, vi p2, vu, vu, vu, vu, vu] [xr b1]) _
    refine XS.dup X16.here hx rfl (hb hby at_35) rfl rfl ?_
    show own_S p e below T16 (mkF m 36 #[vi p1, vi p2, vu, vu, vu, vu, vu] [xr b1, xr b1]) _
    refine XS.iconst X16.here hx rfl (hb hby at_36) ?_
    show own_S p e below T16 (mkF m 37 #[vi p1, vi p2, vu, vu, vu, vu, vu] [xi (5 : Int32), xr b1, xr b1]) _
    refine st17 _ ?_
    show own_S p e below T17 (mkF m 40 #[vi p1, vi p2, vu, vu, vu, vu, vu] [xr u5, xi (5 : Int32), xr b1, xr b1]) _
    refine st19 _ ?_
    show own_S p e below T19 (mkF m 41 #[vi p1, vi p2, vu, vu, vu, vu, vu] [xr b1]) _
    refine XS.astoreN X19.here hx rfl (hb hby at_41) rfl rfl (l' := #[vi p1, vi p2, vr b1, vu, vu, vu, vu]) rfl ?_
    show own_S p e below T19 (mkF m 42 #[vi p1, vi p2, vr b1, vu, vu, vu, vu] []) _
    refine XS.bipush X19.here hx rfl (hb hby at_42) ?_
    show own_S p e below T19 (mkF m 44 #[vi p1, vi p2, vr b1, vu, vu, vu, vu] [xi (6 : Int32)]) _
    refine st20 _ ?_
    show own_S p e below T20 (mkF m 46 #[vi p1, vi p2, vr b1, vu, vu, vu, vu] [xr b20]) _
    refine XS.dup X20.here hx rfl (hb hby at_46) rfl rfl ?_
    show own_S p e below T20 (mkF m 47 #[vi p1, vi p2, vr b1, vu, vu, vu, vu] [xr b20, xr b20]) _
    refine XS.iconst X20.here hx rfl (hb hby at_47) ?_
    show own_S p e below T20 (mkF m 48 #[vi p1, vi p2, vr b1, vu, vu, vu, vu] [xi (0 : Int32), xr b20, xr b20]) _
    refine XS.iconst X20.here hx rfl (hb hby at_48) ?_
    show own_S p e below T20 (mkF m 49 #[vi p1, vi p2, vr b1, vu, vu, vu, vu] [xi (2 : Int32), xi (0 : Int32), xr b20, xr b20]) _
    refine st22 _ ?_
    show own_S p e below T22 (mkF m 50 #[vi p1, vi p2, vr b1, vu, vu, vu, vu] [xr b20]) _
    refine XS.dup X22.here hx rfl (hb hby at_50) rfl rfl ?_
    show own_S p e below T22 (mkF m 51 #[vi p1, vi p2, vr b1, vu, vu, vu, vu] [xr b20, xr b20]) _
    refine XS.iconst X22.here hx rfl (hb hby at_51) ?_
    show own_S p e below T22 (mkF m 52 #[vi p1, vi p2, vr b1, vu, vu, vu, vu] [xi (1 : Int32), xr b20, xr b20]) _
    refine XS.iconst X22.here hx rfl (hb hby at_52) ?_
    show own_S p e below T22 (mkF m 53 #[vi p1, vi p2, vr b1, vu, vu, vu, vu] [xi (5 : Int32), xi (1 : Int32), xr b20, xr b20]) _
    refine st24 _ ?_
    show own_S p e below T24 (mkF m 54 #[vi p1, vi p2, vr b1, vu, vu, vu, vu] [xr b20]) _
    refine XS.dup X24.here hx rfl (hb hby at_54) rfl rfl ?_
    show own_S p e below T24 (mkF m 55 #[vi p1, vi p2, vr b1, vu, vu, vu, vu] [xr b20, xr b20]) _
    refine XS.iconst X24.here hx rfl (hb hby at_55) ?_
    show own_S p e below T24 (mkF m 56 #[vi p1, vi p2, vr b1, vu, vu, vu, vu] [xi (2 : Int32), xr b20, xr b20]) _
    refine XS.iconst X24.here hx rfl (hb hby at_56) ?_
    show own_S p e below T24 (mkF m 57 #[vi p1, vi p2, vr b1, vu, vu, vu, vu] [xi (1 : Int32), xi (2 : Int32), xr b20, xr b20]) _
    refine st26 _ ?_
    show own_S p e below T26 (mkF m 58 #[vi p1, vi p2, vr b1, vu, vu, vu, vu] [xr b20]) _
    refine XS.dup X26.here hx rfl (hb hby at_58) rfl rfl ?_
    show own_S p e below T26 (mkF m 59 #[vi p1, vi p2, vr b1, vu, vu, vu, vu] [xr b20, xr b20]) _
    refine XS.iconst X26.here hx rfl (hb hby at_59) ?_
    show own_S p e below T26 (mkF m 60 #[vi p1, vi p2, vr b1, vu, vu, vu, vu] [xi (3 : Int32), xr b20, xr b20]) _
    refine XS.iconst X26.here hx rfl (hb hby at_60) ?_
    show own_S p e below T26 (mkF m 61 #[vi p1, vi p2, vr b1, vu, vu, vu, vu] [xi (3 : Int32), xi (3 : Int32), xr b20, xr b20]) _
    refine st28 _ ?_
    show own_S p e below T28 (mkF m 62 #[vi p1, vi p2, vr b1, vu, vu, vu, vu] [xr b20]) _
    refine XS.dup X28.here hx rfl (hb hby at_62) rfl rfl ?_
    show own_S p e below T28 (mkF m 63 #[vi p1, vi p2, vr b1, vu, vu, vu, vu] [xr b20, xr b20]) _
    refine XS.iconst X28.here hx rfl (hb hby at_63) ?_
    show own_S p e below T28 (mkF m 64 #[vi p1, vi p2, vr b1, vu, vu, vu, vu] [xi (4 : Int32), xr b20, xr b20]) _
    refine XS.iconst X28.here hx rfl (hb hby at_64) ?_
    show own_S p e below T28 (mkF m 65 #[vi p1, vi p2, vr b1, vu, vu, vu, vu] [xi (4 : Int32), xi (4 : Int32), xr b20, xr b20]) _
    refine st30 _ ?_
    show own_S p e below T30 (mkF m 66 #[vi p1, vi p2, vr b1, vu, vu, vu, vu] [xr b20]) _
    refine XS.dup X30.here hx rfl (hb hby at_66) rfl rfl ?_
    show own_S p e below T30 (mkF m 67 #[vi p1, vi p2, vr b1, vu, vu, vu, vu] [xr b20, xr b20]) _
    refine XS.iconst X30.here hx rfl (hb hby at_67) ?_
    show own_S p e below T30 (mkF m 68 #[vi p1, vi p2, vr b1, vu, vu, vu, vu] [xi (5 : Int32), xr b20, xr b20]) _
    refine XS.bipush X30.here hx rfl (hb hby at_68) ?_
    show own_S p e below T30 (mkF m 70 #[vi p1, vi p2, vr b1, vu, vu, vu, vu] [xi (6 : Int32), xi (5 : Int32), xr b20, xr b20]) _
    refine st32 _ ?_
    show own_S p e below T32 (mkF m 71 #[vi p1, vi p2, vr b1, vu, vu, vu, vu] [xr b20]) _
    refine XS.astoreN X32.here hx rfl (hb hby at_71) rfl rfl (l' := #[vi p1, vi p2, vr b1, vr b20, vu, vu, vu]) rfl ?_
    show own_S p e below T32 (mkF m 72 #[vi p1, vi p2, vr b1, vr b20, vu, vu, vu] []) _
    refine XS.iloadN X32.here hx rfl (hb hby at_72) rfl ?_
    show own_S p e below T32 (mkF m 73 #[vi p1, vi p2, vr b1, vr b20, vu, vu, vu] [xi p1]) _
    refine X32.ldcI hx hown (mvT hZ (ww hw 17 rfl)) (g := (mkF m 73 #[vi p1, vi p2, vr b1, vr b20, vu, vu, vu] [xi p1])) rfl (hb hby at_73) ?_
    show own_S p e below T32 (mkF m 75 #[vi p1, vi p2, vr b1, vr b20, vu, vu, vu] [xi (2147483647 : Int32), xi p1]) _
    refine XS.iand X32.here hx rfl (hb hby at_75) rfl ?_
    show own_S p e below T32 (mkF m 76 #[vi p1, vi p2, vr b1, vr b20, vu, vu, vu] [xi (p1 &&& (2147483647 : Int32))]) _
    show own_S p e below T32 (mkF m 76 #[vi p1, vi p2, vr b1, vr b20, vu, vu, vu] [xi (p1 &&& (2147483647 : Int32))]) _
    refine XS.bipush X32.here hx rfl (hb hby at_76) ?_
    show own_S p e below T32 (mkF m 78 #[vi p1, vi p2, vr b1, vr b20, vu, vu, vu] [xi (6 : Int32), xi (p1 &&& (2147483647 : Int32))]) _
    refine XS.irem X32.here hx rfl (hb hby at_78) rfl (by decide) ?_
    show own_S p e below T32 (mkF m 79 #[vi p1, vi p2, vr b1, vr b20, vu, vu, vu] [xi ((p1 &&& (2147483647 : Int32)) - ((p1 &&& (2147483647 : Int32)) / (6 : Int32)) * (6 : Int32))]) _
    refine castTop (show (mkF m 79 #[vi p1, vi p2, vr b1, vr b20, vu, vu, vu] [xi ((p1 &&& (2147483647 : Int32)) - ((p1 &&& (2147483647 : Int32)) / (6 : Int32)) * (6 : Int32))]) = (mkF m 79 #[vi p1, vi p2, vr b1, vr b20, vu, vu, vu] [xi (2 : Int32)]) from by rw [as14]) ?_
    show own_S p e below T32 (mkF m 79 #[vi p1, vi p2, vr b1, vr b20, vu, vu, vu] [xi (2 : Int32)]) _
    refine XS.istore X32.here hx rfl (hb hby at_79) rfl (l' := #[vi p1, vi p2, vr b1, vr b20, vi (2 : Int32), vu, vu]) rfl ?_
    show own_S p e below T32 (mkF m 81 #[vi p1, vi p2, vr b1, vr b20, vi (2 : Int32), vu, vu] []) _
    refine XS.iloadN X32.here hx rfl (hb hby at_81) rfl ?_
    show own_S p e below T32 (mkF m 82 #[vi p1, vi p2, vr b1, vr b20, vi (2 : Int32), vu, vu] [xi p2]) _
    refine XS.ifNo X32.here hx rfl (hb hby at_82) rfl as1 ?_
    show own_S p e below T32 (mkF m 85 #[vi p1, vi p2, vr b1, vr b20, vi (2 : Int32), vu, vu] []) _
    refine XS.iconst X32.here hx rfl (hb hby at_85) ?_
    show own_S p e below T32 (mkF m 86 #[vi p1, vi p2, vr b1, vr b20, vi (2 : Int32), vu, vu] [xi (0 : Int32)]) _
    refine XS.istore X32.here hx rfl (hb hby at_86) rfl (l' := #[vi p1, vi p2, vr b1, vr b20, vi (2 : Int32), vi (0 : Int32), vu]) rfl ?_
    show own_S p e below T32 (mkF m 88 #[vi p1, vi p2, vr b1, vr b20, vi (2 : Int32), vi (0 : Int32), vu] []) _
    refine XS.goto X32.here hx rfl (pc0 := 88) (pc' := 104) rfl (hb hby at_88) (by decide) (by decide) ?_
    show own_S p e below T32 (mkF m 104 #[vi p1, vi p2, vr b1, vr b20, vi (2 : Int32), vi (0 : Int32), vu] []) _
    refine XS.aloadN X32.here hx rfl (hb hby at_104) rfl rfl ?_
    show own_S p e below T32 (mkF m 105 #[vi p1, vi p2, vr b1, vr b20, vi (2 : Int32), vi (0 : Int32), vu] [xr b20]) _
    refine XS.iload X32.here hx rfl (hb hby at_105) rfl ?_
    show own_S p e below T32 (mkF m 107 #[vi p1, vi p2, vr b1, vr b20, vi (2 : Int32), vi (0 : Int32), vu] [xi (2 : Int32), xr b20]) _
    refine X32.iaload hx (j := (2 : Int32)) (v := (xi (1 : Int32))) (by rw [e32]; exact Ar33.1) (State.isArrayOf_alike hZ.alike Ar33.2.1) Ar33.2.2 hin33 hat33 (g := (mkF m 107 #[vi p1, vi p2, vr b1, vr b20, vi (2 : Int32), vi (0 : Int32), vu] [xi (2 : Int32), xr b20])) rfl rfl (hb hby at_107) _ ?_
    show own_S p e below T32 (mkF m 108 #[vi p1, vi p2, vr b1, vr b20, vi (2 : Int32), vi (0 : Int32), vu] [xi (1 : Int32)]) _
    refine XS.iload X32.here hx rfl (hb hby at_108) rfl ?_
    show own_S p e below T32 (mkF m 110 #[vi p1, vi p2, vr b1, vr b20, vi (2 : Int32), vi (0 : Int32), vu] [xi (0 : Int32), xi (1 : Int32)]) _
    refine XS.ishr X32.here hx rfl (hb hby at_110) rfl ?_
    show own_S p e below T32 (mkF m 111 #[vi p1, vi p2, vr b1, vr b20, vi (2 : Int32), vi (0 : Int32), vu] [xi ((1 : Int32) >>> ((0 : Int32) &&& 31))]) _
    refine castTop (show (mkF m 111 #[vi p1, vi p2, vr b1, vr b20, vi (2 : Int32), vi (0 : Int32), vu] [xi ((1 : Int32) >>> ((0 : Int32) &&& 31))]) = (mkF m 111 #[vi p1, vi p2, vr b1, vr b20, vi (2 : Int32), vi (0 : Int32), vu] [xi (1 : Int32)]) from by rw [show ((1 : Int32) >>> ((0 : Int32) &&& 31)) = (1 : Int32) from by decide]) ?_
    show own_S p e below T32 (mkF m 111 #[vi p1, vi p2, vr b1, vr b20, vi (2 : Int32), vi (0 : Int32), vu] [xi (1 : Int32)]) _
    refine XS.iconst X32.here hx rfl (hb hby at_111) ?_
    show own_S p e below T32 (mkF m 112 #[vi p1, vi p2, vr b1, vr b20, vi (2 : Int32), vi (0 : Int32), vu] [xi (1 : Int32), xi (1 : Int32)]) _
    refine XS.iand X32.here hx rfl (hb hby at_112) rfl ?_
    show own_S p e below T32 (mkF m 113 #[vi p1, vi p2, vr b1, vr b20, vi (2 : Int32), vi (0 : Int32), vu] [xi ((1 : Int32) &&& (1 : Int32))]) _
    refine castTop (show (mkF m 113 #[vi p1, vi p2, vr b1, vr b20, vi (2 : Int32), vi (0 : Int32), vu] [xi ((1 : Int32) &&& (1 : Int32))]) = (mkF m 113 #[vi p1, vi p2, vr b1, vr b20, vi (2 : Int32), vi (0 : Int32), vu] [xi (1 : Int32)]) from by rw [show ((1 : Int32) &&& (1 : Int32)) = (1 : Int32) from by decide]) ?_
    show own_S p e below T32 (mkF m 113 #[vi p1, vi p2, vr b1, vr b20, vi (2 : Int32), vi (0 : Int32), vu] [xi (1 : Int32)]) _
    refine XS.ifNo X32.here hx rfl (hb hby at_113) rfl (by decide) ?_
    show own_S p e below T32 (mkF m 116 #[vi p1, vi p2, vr b1, vr b20, vi (2 : Int32), vi (0 : Int32), vu] []) _
    refine XS.iconst X32.here hx rfl (hb hby at_116) ?_
    show own_S p e below T32 (mkF m 117 #[vi p1, vi p2, vr b1, vr b20, vi (2 : Int32), vi (0 : Int32), vu] [xi (1 : Int32)]) _
    refine XS.goto X32.here hx rfl (pc0 := 117) (pc' := 121) rfl (hb hby at_117) (by decide) (by decide) ?_
    show own_S p e below T32 (mkF m 121 #[vi p1, vi p2, vr b1, vr b20, vi (2 : Int32), vi (0 : Int32), vu] [xi (1 : Int32)]) _
    refine XS.istore X32.here hx rfl (hb hby at_121) rfl (l' := #[vi p1, vi p2, vr b1, vr b20, vi (2 : Int32), vi (0 : Int32), vi (1 : Int32)]) rfl ?_
    show own_S p e below T32 (mkF m 123 #[vi p1, vi p2, vr b1, vr b20, vi (2 : Int32), vi (0 : Int32), vi (1 : Int32)] []) _
    refine XS.aloadN X32.here hx rfl (hb hby at_123) rfl rfl ?_
    show own_S p e below T32 (mkF m 124 #[vi p1, vi p2, vr b1, vr b20, vi (2 : Int32), vi (0 : Int32), vi (1 : Int32)] [xr b1]) _
    refine XS.iload X32.here hx rfl (hb hby at_124) rfl ?_
    show own_S p e below T32 (mkF m 126 #[vi p1, vi p2, vr b1, vr b20, vi (2 : Int32), vi (0 : Int32), vi (1 : Int32)] [xi (2 : Int32), xr b1]) _
    refine X32.aaload hx (j := (2 : Int32)) (v := (xr u2)) (by rw [e32]; exact Ar34.1) (State.isArrayOf_alike hZ.alike Ar34.2.1) rfl Ar34.2.2 hin34 hat34 (g := (mkF m 126 #[vi p1, vi p2, vr b1, vr b20, vi (2 : Int32), vi (0 : Int32), vi (1 : Int32)] [xi (2 : Int32), xr b1])) rfl rfl (hb hby at_126) _ ?_
    show own_S p e below T32 (mkF m 127 #[vi p1, vi p2, vr b1, vr b20, vi (2 : Int32), vi (0 : Int32), vi (1 : Int32)] [xr u2]) _
    refine XS.iloadN X32.here hx rfl (hb hby at_127) rfl ?_
    show own_S p e below T32 (mkF m 128 #[vi p1, vi p2, vr b1, vr b20, vi (2 : Int32), vi (0 : Int32), vi (1 : Int32)] [xi p2, xr u2]) _
    refine st35.trans ?_
    show own_S p e below T35 (mkF m 131 #[vi p1, vi p2, vr b1, vr b20, vi (2 : Int32), vi (0 : Int32), vi (1 : Int32)] [xi (1 : Int32)]) _
    refine XS.iload X35.here hx rfl (hb hby at_131) rfl ?_
    show own_S p e below T35 (mkF m 133 #[vi p1, vi p2, vr b1, vr b20, vi (2 : Int32), vi (0 : Int32), vi (1 : Int32)] [xi (1 : Int32), xi (1 : Int32)]) _
    refine XS.icmpNo X35.here hx rfl (hb hby at_133) rfl (by decide) ?_
    show own_S p e below T35 (mkF m 136 #[vi p1, vi p2, vr b1, vr b20, vi (2 : Int32), vi (0 : Int32), vi (1 : Int32)] []) _
    refine XS.iconst X35.here hx rfl (hb hby at_136) ?_
    show own_S p e below T35 (mkF m 137 #[vi p1, vi p2, vr b1, vr b20, vi (2 : Int32), vi (0 : Int32), vi (1 : Int32)] [xi (1 : Int32)]) _
    refine XS.goto X35.here hx rfl (pc0 := 137) (pc' := 141) rfl (hb hby at_137) (by decide) (by decide) ?_
    show own_S p e below T35 (mkF m 141 #[vi p1, vi p2, vr b1, vr b20, vi (2 : Int32), vi (0 : Int32), vi (1 : Int32)] [xi (1 : Int32)]) _
    exact retN X35 hx (t := .boolean) Bd.returns (by simp) (hb hby at_141) hr
  · exact ⟨rfl, N35⟩
theorem d1_86 : decode prog_62_method_8_code 86 = .ok (.iconst 0, 1) := by decide +kernel
theorem d1_87 : decode prog_62_method_8_code 87 = .ok (.goto 36, 3) := by decide +kernel
theorem ef_own_c8_holds (m : MethodId) (u0 u1 u2 u3 u4 u5 : Addr) (p2 : Int32) : entryFrame m #[xr u2, xi p2] 2 = (mkF m 0 #[vr u2, vi p2] []) := by first | (simp [entryFrame, mkF, argsToLocals, Value.category]; done) | rfl
set_option maxRecDepth 65536 in
set_option maxHeartbeats 40000000 in
theorem own_c8_holds (l : Launch) (Z : State) (a0 : Array Value) (hw : ∀ d ∈ tables_1, d.before a0 Z = true) (u0 u1 u2 u3 u4 u5 : Addr) (G : own_St Z u0 u1 u2 u3 u4 u5) (p2 : Int32) (as7 : ifCond.holds .ge p2 = true) (h0 : Heap) (n0 : Nat) (O0 : Old Z n0 h0) : own_Met l Z Y2 prog_62_method_8_code 2 (some .boolean) ({ frames := 1, cells := 0, slots := 0, locals := 12 } : Room) #[xr u2, xi p2] h0 (own_QR (some (xi (0 : Int32))) h0 n0) := by
  intro ws
  refine MetFree.of_bodySF (plainFor_of_name pn1) hisR ?_
  intro p e s m args below meth c s₁ Bd hml0 hP hK
  obtain ⟨rfl, hZ, hh⟩ := hP
  have hx := Bd.exec
  have hby := Bd.bytes
  have hml : c.maxLocals = 2 := hml0
  have hown : s.vm.findClass "com/example/whyle/whyle/cfa/Relation" = some m.cls := findClass_of_methodNamed Bd.named
  have hnm := (name_of_methodNamed Bd.named Bd.method).1
  have X0 : Stand p l e ({ frames := 1, cells := 0, slots := 0, locals := 12 } : Room) s m #[xr u2, xi p2] below meth c s₁ [] 0 0 := Stand.of_body Bd
  have e0 : s₁.heap = h0 := by rw [← hh, Bd.state]; rfl
  have N0 := Fr.nil n0
  have pre0 : ∀ t, Steps p.tables e below (s₁.setTop (mkF m 0 #[vr u2, vi p2] [])) t → Steps p.tables e below (s₁.setTop (entryFrame m #[xr u2, xi p2] 2)) t := fun t st => castTop (ef_own_c8_holds m u0 u1 u2 u3 u4 u5 p2) st
  obtain ⟨cq1, kq1, qa1, qb1, qc1⟩ := isOf hZ e0 ((own_X_u2 G).ext O0.2)
  obtain ⟨_, _, ⟨T1, L1, k1, n1⟩, -, X1, ⟨Lc1, hQ1, l1, y1, z1⟩, st1⟩ := X0.virtualBackUp hx (x := Y1) (y := Y0) hown (mvT hZ (ww hw 23 rfl)) (mvT hZ (ww hw 24 rfl)) (mvT hZ (ww hw 25 rfl)) (by decide) (mvT hZ (ww hw 27 rfl)) (mvT hZ (ww hw 26 rfl)) (backOf (W := 0) (own_c6_ordinal l Z a0 hw u0 u1 u2 u3 u4 u5 G h0 n0 O0 []) hZ (ww hw 29 rfl) (ww hw 28 rfl) (by decide) (by decide)) qa1 qc1 (g := (mkF m 1 #[vr u2, vi p2] [xr u2])) rfl (by rw [hml]; rfl) (Steps.refl _) (argsL := []) (rest := []) (lenOf pd0 rfl) rfl (by show 2 * 0 + _ ≤ _; exact Nat.le_of_eq rfl) (hb hby d1_1) (fun _ _ => ⟨rfl, e0, (by decide : 0 + 0 ≤ _), (by decide : 0 + 0 ≤ _)⟩)
  dsimp only [Pt.U, Pt.locs, Pt.cells, Pt.slots] at X1 l1 y1 z1 st1 hQ1
  subst l1 y1 z1
  obtain ⟨rfl, Nq1, e1⟩ := hQ1
  have N1 := Fr.app N0 Nq1
  obtain ⟨fs, hr, hrun, hended, hW, hsame⟩ := X1.leave (v := some (xi (0 : Int32))) (fun h => by rw [Bd.returns] at h; cases h)
  refine ⟨_, _, pre0 _ ?_, hrun, hended, _, _, rfl, ?_, ⟨_, rfl⟩, hW, hsame.mono (by decide) (by decide)⟩
  · show own_S p e below s₁ (mkF m 0 #[vr u2, vi p2] []) _
    refine XS.aloadN X0.here hx rfl (hb hby d1_0) rfl rfl ?_
    show own_S p e below s₁ (mkF m 1 #[vr u2, vi p2] [xr u2]) _
    refine st1.trans ?_
    show own_S p e below T1 (mkF m 4 #[vr u2, vi p2] [xi (2 : Int32)]) _
    refine XS.tswIn X1.here hx rfl (pc0 := 4) (pc' := 78) (o := 74) rfl (hb hby d1_4) rfl (by decide) (by decide) (by decide) (by decide) ?_
    show own_S p e below T1 (mkF m 78 #[vr u2, vi p2] []) _
    refine XS.iloadN X1.here hx rfl (hb hby d1_78) rfl ?_
    show own_S p e below T1 (mkF m 79 #[vr u2, vi p2] [xi p2]) _
    refine XS.ifYes X1.here hx rfl (pc0 := 79) (pc' := 86) rfl (hb hby d1_79) rfl as7 (by decide) (by decide) ?_
    show own_S p e below T1 (mkF m 86 #[vr u2, vi p2] []) _
    refine XS.iconst X1.here hx rfl (hb hby d1_86) ?_
    show own_S p e below T1 (mkF m 87 #[vr u2, vi p2] [xi (0 : Int32)]) _
    refine XS.goto X1.here hx rfl (pc0 := 87) (pc' := 123) rfl (hb hby d1_87) (by decide) (by decide) ?_
    show own_S p e below T1 (mkF m 123 #[vr u2, vi p2] [xi (0 : Int32)]) _
    exact retN X1 hx (t := .boolean) Bd.returns (by simp) (hb hby d1_123) hr
  · exact ⟨rfl, N1, e1⟩
theorem ef_own_l7 (m : MethodId) (u0 u1 u2 u3 u4 u5 : Addr) (p1 : Int32) (p2 : Int32) : entryFrame m #[xi p1, xi p2] maxLocals = (mkF m 0 #[vi p1, vi p2, vu, vu, vu, vu, vu] []) := by first | (simp [entryFrame, mkF, argsToLocals, Value.category, maxLocals]; done) | rfl
set_option maxRecDepth 65536 in
set_option maxHeartbeats 40000000 in
theorem own_l7 (l : Launch) (Z : State) (a0 : Array Value) (hw : ∀ d ∈ tables_1, d.before a0 Z = true) (u0 u1 u2 u3 u4 u5 : Addr) (G : own_St Z u0 u1 u2 u3 u4 u5) (p1 : Int32) (p2 : Int32) (as14 : ((p1 &&& (2147483647 : Int32)) - ((p1 &&& (2147483647 : Int32)) / (6 : Int32)) * (6 : Int32)) = (2 : Int32)) (as7 : ifCond.holds .ge p2 = true) (as9 : ifCond.holds .ne p2 = false) (h0 : Heap) (n0 : Nat) (O0 : Old Z n0 h0) : own_Met l Z x code maxLocals ret room_1 #[xi p1, xi p2] h0 (own_QL (some (xi (1 : Int32))) n0) := by
  intro ws
  refine MetFree.of_bodySF (plainFor_of_name pn2) hisR ?_
  intro p e s m args below meth c s₁ Bd hml0 hP hK
  obtain ⟨rfl, hZ, hh⟩ := hP
  have hx := Bd.exec
  have hby := Bd.bytes
  have hml : c.maxLocals = 7 := hml0
  have hown : s.vm.findClass "com/example/whyle/whyle/cfa/RelationHoldsPinLaw" = some m.cls := findClass_of_methodNamed Bd.named
  have hnm := (name_of_methodNamed Bd.named Bd.method).1
  have X0 : Stand p l e room_1 s m #[xi p1, xi p2] below meth c s₁ [] 0 0 := Stand.of_body Bd
  have e0 : s₁.heap = h0 := by rw [← hh, Bd.state]; rfl
  have N0 := Fr.nil n0
  have pre0 : ∀ t, Steps p.tables e below (s₁.setTop (mkF m 0 #[vi p1, vi p2, vu, vu, vu, vu, vu] [])) t → Steps p.tables e below (s₁.setTop (entryFrame m #[xi p1, xi p2] maxLocals)) t := fun t st => castTop (ef_own_l7 m u0 u1 u2 u3 u4 u5 p1 p2) st
  obtain ⟨T1, h1, k1, X1, e1, E1, A1, Ov1, st1⟩ := newR X0 hx hZ hown (ww hw 0 rfl) (ww hw 1 rfl) e0 (g := (mkF m 2 #[vi p1, vi p2, vu, vu, vu, vu, vu] [xi (6 : Int32)])) rfl (hb hby at_2) rfl (by decide) (cap := 6) (by decide) (by decide) (by decide) (by decide)
  obtain ⟨b1, g1⟩ : ∃ z, z = h0.size := ⟨_, rfl⟩
  rw [← g1] at A1 st1
  have g_b1 : n0 ≤ b1 := own_fresh O0 g1
  have O1 : Old Z n0 h1 := O0.ext E1
  have V_b1 : Arv Z h1 b1 k1 (.object "com/example/whyle/whyle/cfa/Relation") (6 : Int32) [.null, .null, .null, .null, .null, .null] .null := (Arv.new A1 (by decide)).pad (pad_rep [] .null 6)
  obtain ⟨T2, X2, e2, st2⟩ := getS2 X1 hx hZ hown (host := "") (Or.inl (ww hw 2 rfl)) Via.refl e1 ((own_S_u0 G).ext O1.2) (g := (mkF m 7 #[vi p1, vi p2, vu, vu, vu, vu, vu] [xi (0 : Int32), xr b1, xr b1])) rfl (hb hby at_7)
  obtain ⟨cl3, Ar3, q3, S3, N3_, H3, G3⟩ := V_b1
  have hin3 : ¬ ((0 : Int32) < 0 ∨ cl3.slots.size ≤ ((0 : Int32)).toNatClampNeg) := inb_of S3 ⟨by decide, by decide⟩
  obtain ⟨T4, h4, X4, e4, W4, st4⟩ := stR X2 hx hZ e2 Ar3 (j := (0 : Int32)) hin3 rfl (Sto.ofV Ar3 q3 Ov1 (Ins.self ((own_X_u0 G).ext O1.2))) (g := (mkF m 10 #[vi p1, vi p2, vu, vu, vu, vu, vu] [xr u0, xi (0 : Int32), xr b1, xr b1])) rfl rfl (hb hby at_10)
  have V_b1_4 : Arv Z h4 b1 k1 (.object "com/example/whyle/whyle/cfa/Relation") (6 : Int32) [xr u0, .null, .null, .null, .null, .null] .null := Arv.set Ar3 q3 S3 N3_ H3 G3 rfl W4 0 rfl (Nat.le_of_ble_eq_true rfl)
  have O4 : Old Z n0 h4 := O1.wr W4 g_b1
  have N4 := Fr.snoc X4 N0 g_b1
  obtain ⟨T5, X5, e5, st5⟩ := getS2 X4 hx hZ hown (host := "") (Or.inl (ww hw 6 rfl)) Via.refl e4 ((own_S_u1 G).ext O4.2) (g := (mkF m 13 #[vi p1, vi p2, vu, vu, vu, vu, vu] [xi (1 : Int32), xr b1, xr b1])) rfl (hb hby at_13)
  obtain ⟨cl6, Ar6, q6, S6, N6_, H6, G6⟩ := V_b1_4
  have hin6 : ¬ ((1 : Int32) < 0 ∨ cl6.slots.size ≤ ((1 : Int32)).toNatClampNeg) := inb_of S6 ⟨by decide, by decide⟩
  obtain ⟨T7, h7, X7, e7, W7, st7⟩ := stR X5 hx hZ e5 Ar6 (j := (1 : Int32)) hin6 rfl (Sto.ofV Ar6 q6 Ov1 (Ins.self ((own_X_u1 G).ext O4.2))) (g := (mkF m 16 #[vi p1, vi p2, vu, vu, vu, vu, vu] [xr u1, xi (1 : Int32), xr b1, xr b1])) rfl rfl (hb hby at_16)
  have V_b1_7 : Arv Z h7 b1 k1 (.object "com/example/whyle/whyle/cfa/Relation") (6 : Int32) [xr u0, xr u1, .null, .null, .null, .null] .null := Arv.set Ar6 q6 S6 N6_ H6 G6 rfl W7 1 rfl (Nat.le_of_ble_eq_true rfl)
  have O7 : Old Z n0 h7 := O4.wr W7 g_b1
  have N7 := Fr.snoc X7 N4 g_b1
  obtain ⟨T8, X8, e8, st8⟩ := getS2 X7 hx hZ hown (host := "") (Or.inl (ww hw 8 rfl)) Via.refl e7 ((own_S_u2 G).ext O7.2) (g := (mkF m 19 #[vi p1, vi p2, vu, vu, vu, vu, vu] [xi (2 : Int32), xr b1, xr b1])) rfl (hb hby at_19)
  obtain ⟨cl9, Ar9, q9, S9, N9_, H9, G9⟩ := V_b1_7
  have hin9 : ¬ ((2 : Int32) < 0 ∨ cl9.slots.size ≤ ((2 : Int32)).toNatClampNeg) := inb_of S9 ⟨by decide, by decide⟩
  obtain ⟨T10, h10, X10, e10, W10, st10⟩ := stR X8 hx hZ e8 Ar9 (j := (2 : Int32)) hin9 rfl (Sto.ofV Ar9 q9 Ov1 (Ins.self ((own_X_u2 G).ext O7.2))) (g := (mkF m 22 #[vi p1, vi p2, vu, vu, vu, vu, vu] [xr u2, xi (2 : Int32), xr b1, xr b1])) rfl rfl (hb hby at_22)
  have V_b1_10 : Arv Z h10 b1 k1 (.object "com/example/whyle/whyle/cfa/Relation") (6 : Int32) [xr u0, xr u1, xr u2, .null, .null, .null] .null := Arv.set Ar9 q9 S9 N9_ H9 G9 rfl W10 2 rfl (Nat.le_of_ble_eq_true rfl)
  have O10 : Old Z n0 h10 := O7.wr W10 g_b1
  have N10 := Fr.snoc X10 N7 g_b1
  obtain ⟨T11, X11, e11, st11⟩ := getS2 X10 hx hZ hown (host := "") (Or.inl (ww hw 10 rfl)) Via.refl e10 ((own_S_u3 G).ext O10.2) (g := (mkF m 25 #[vi p1, vi p2, vu, vu, vu, vu, vu] [xi (3 : Int32), xr b1, xr b1])) rfl (hb hby at_25)
  obtain ⟨cl12, Ar12, q12, S12, N12_, H12, G12⟩ := V_b1_10
  have hin12 : ¬ ((3 : Int32) < 0 ∨ cl12.slots.size ≤ ((3 : Int32)).toNatClampNeg) := inb_of S12 ⟨by decide, by decide⟩
  obtain ⟨T13, h13, X13, e13, W13, st13⟩ := stR X11 hx hZ e11 Ar12 (j := (3 : Int32)) hin12 rfl (Sto.ofV Ar12 q12 Ov1 (Ins.self ((own_X_u3 G).ext O10.2))) (g := (mkF m 28 #[vi p1, vi p2, vu, vu, vu, vu, vu] [xr u3, xi (3 : Int32), xr b1, xr b1])) rfl rfl (hb hby at_28)
  have V_b1_13 : Arv Z h13 b1 k1 (.object "com/example/whyle/whyle/cfa/Relation") (6 : Int32) [xr u0, xr u1, xr u2, xr u3, .null, .null] .null := Arv.set Ar12 q12 S12 N12_ H12 G12 rfl W13 3 rfl (Nat.le_of_ble_eq_true rfl)
  have O13 : Old Z n0 h13 := O10.wr W13 g_b1
  have N13 := Fr.snoc X13 N10 g_b1
  obtain ⟨T14, X14, e14, st14⟩ := getS2 X13 hx hZ hown (host := "") (Or.inl (ww hw 12 rfl)) Via.refl e13 ((own_S_u4 G).ext O13.2) (g := (mkF m 31 #[vi p1, vi p2, vu, vu, vu, vu, vu] [xi (4 : Int32), xr b1, xr b1])) rfl (hb hby at_31)
  obtain ⟨cl15, Ar15, q15, S15, N15_, H15, G15⟩ := V_b1_13
  have hin15 : ¬ ((4 : Int32) < 0 ∨ cl15.slots.size ≤ ((4 : Int32)).toNatClampNeg) := inb_of S15 ⟨by decide, by decide⟩
  obtain ⟨T16, h16, X16, e16, W16, st16⟩ := stR X14 hx hZ e14 Ar15 (j := (4 : Int32)) hin15 rfl (Sto.ofV Ar15 q15 Ov1 (Ins.self ((own_X_u4 G).ext O13.2))) (g := (mkF m 34 #[vi p1, vi p2, vu, vu, vu, vu, vu] [xr u4, xi (4 : Int32), xr b1, xr b1])) rfl rfl (hb hby at_34)
  have V_b1_16 : Arv Z h16 b1 k1 (.object "com/example/whyle/whyle/cfa/Relation") (6 : Int32) [xr u0, xr u1, xr u2, xr u3, xr u4, .null] .null := Arv.set Ar15 q15 S15 N15_ H15 G15 rfl W16 4 rfl (Nat.le_of_ble_eq_true rfl)
  have O16 : Old Z n0 h16 := O13.wr W16 g_b1
  have N16 := Fr.snoc X16 N13 g_b1
  obtain ⟨T17, X17, e17, st17⟩ := getS2 X16 hx hZ hown (host := "") (Or.inl (ww hw 14 rfl)) Via.refl e16 ((own_S_u5 G).ext O16.2) (g := (mkF m 37 #[vi p1, vi p2, vu, vu, vu, vu, vu] [xi (5 : Int32), xr b1, xr b1])) rfl (hb hby at_37)
  obtain ⟨cl18, Ar18, q18, S18, N18_, H18, G18⟩ := V_b1_16
  have hin18 : ¬ ((5 : Int32) < 0 ∨ cl18.slots.size ≤ ((5 : Int32)).toNatClampNeg) := inb_of S18 ⟨by decide, by decide⟩
  obtain ⟨T19, h19, X19, e19, W19, st19⟩ := stR X17 hx hZ e17 Ar18 (j := (5 : Int32)) hin18 rfl (Sto.ofV Ar18 q18 Ov1 (Ins.self ((own_X_u5 G).ext O16.2))) (g := (mkF m 40 #[vi p1, vi p2, vu, vu, vu, vu, vu] [xr u5, xi (5 : Int32), xr b1, xr b1])) rfl rfl (hb hby at_40)
  have V_b1_19 : Arv Z h19 b1 k1 (.object "com/example/whyle/whyle/cfa/Relation") (6 : Int32) [xr u0, xr u1, xr u2, xr u3, xr u4, xr u5] .null := Arv.set Ar18 q18 S18 N18_ H18 G18 rfl W19 5 rfl (Nat.le_of_ble_eq_true rfl)
  have O19 : Old Z n0 h19 := O16.wr W19 g_b1
  have N19 := Fr.snoc X19 N16 g_b1
  obtain ⟨T20, h20, k20, X20, e20, E20, A20, st20⟩ := newP X19 hx hZ (ww hw 16 rfl) e19 (g := (mkF m 44 #[vi p1, vi p2, vr b1, vu, vu, vu, vu] [xi (6 : Int32)])) rfl (hb hby at_44) rfl (by decide) (cap := 6) (by decide) (by decide) (by decide) (by decide)
  obtain ⟨b20, g20⟩ : ∃ z, z = h19.size := ⟨_, rfl⟩
  rw [← g20] at A20 st20
  have g_b20 : n0 ≤ b20 := own_fresh O19 g20
  have ne_b1_b20 : b1 ≠ b20 := Nat.ne_of_lt (Nat.lt_of_lt_of_le (V_b1_19).lt (Nat.le_of_eq g20.symm))
  have O20 : Old Z n0 h20 := O19.ext E20
  have V_b1_20 := V_b1_19.ext E20
  have V_b20 : Arv Z h20 b20 k20 .int (6 : Int32) [(.int (0 : Int32)), (.int (0 : Int32)), (.int (0 : Int32)), (.int (0 : Int32)), (.int (0 : Int32)), (.int (0 : Int32))] (.int (0 : Int32)) := (Arv.new A20 (by decide)).pad (pad_rep [] (.int (0 : Int32)) 6)
  obtain ⟨cl21, Ar21, q21, S21, N21_, H21, G21⟩ := V_b20
  have hin21 : ¬ ((0 : Int32) < 0 ∨ cl21.slots.size ≤ ((0 : Int32)).toNatClampNeg) := inb_of S21 ⟨by decide, by decide⟩
  obtain ⟨T22, h22, X22, e22, W22, st22⟩ := stI X20 hx hZ e20 Ar21 (j := (0 : Int32)) hin21 (g := (mkF m 49 #[vi p1, vi p2, vr b1, vu, vu, vu, vu] [xi (2 : Int32), xi (0 : Int32), xr b20, xr b20])) rfl rfl (hb hby at_49)
  have V_b20_22 : Arv Z h22 b20 k20 .int (6 : Int32) [xi (2 : Int32), xi (0 : Int32), xi (0 : Int32), xi (0 : Int32), xi (0 : Int32), xi (0 : Int32)] (.int (0 : Int32)) := Arv.set Ar21 q21 S21 N21_ H21 G21 rfl W22 0 rfl (Nat.le_of_ble_eq_true rfl)
  have O22 : Old Z n0 h22 := O20.wr W22 g_b20
  have V_b1_22 := V_b1_20.other W22 ne_b1_b20
  have N22 := Fr.snoc X22 N19 g_b20
  obtain ⟨cl23, Ar23, q23, S23, N23_, H23, G23⟩ := V_b20_22
  have hin23 : ¬ ((1 : Int32) < 0 ∨ cl23.slots.size ≤ ((1 : Int32)).toNatClampNeg) := inb_of S23 ⟨by decide, by decide⟩
  obtain ⟨T24, h24, X24, e24, W24, st24⟩ := stI X22 hx hZ e22 Ar23 (j := (1 : Int32)) hin23 (g := (mkF m 53 #[vi p1, vi p2, vr b1, vu, vu, vu, vu] [xi (5 : Int32), xi (1 : Int32), xr b20, xr b20])) rfl rfl (hb hby at_53)
  have V_b20_24 : Arv Z h24 b20 k20 .int (6 : Int32) [xi (2 : Int32), xi (5 : Int32), xi (0 : Int32), xi (0 : Int32), xi (0 : Int32), xi (0 : Int32)] (.int (0 : Int32)) := Arv.set Ar23 q23 S23 N23_ H23 G23 rfl W24 1 rfl (Nat.le_of_ble_eq_true rfl)
  have O24 : Old Z n0 h24 := O22.wr W24 g_b20
  have V_b1_24 := V_b1_22.other W24 ne_b1_b20
  have N24 := Fr.snoc X24 N22 g_b20
  obtain ⟨cl25, Ar25, q25, S25, N25_, H25, G25⟩ := V_b20_24
  have hin25 : ¬ ((2 : Int32) < 0 ∨ cl25.slots.size ≤ ((2 : Int32)).toNatClampNeg) := inb_of S25 ⟨by decide, by decide⟩
  obtain ⟨T26, h26, X26, e26, W26, st26⟩ := stI X24 hx hZ e24 Ar25 (j := (2 : Int32)) hin25 (g := (mkF m 57 #[vi p1, vi p2, vr b1, vu, vu, vu, vu] [xi (1 : Int32), xi (2 : Int32), xr b20, xr b20])) rfl rfl (hb hby at_57)
  have V_b20_26 : Arv Z h26 b20 k20 .int (6 : Int32) [xi (2 : Int32), xi (5 : Int32), xi (1 : Int32), xi (0 : Int32), xi (0 : Int32), xi (0 : Int32)] (.int (0 : Int32)) := Arv.set Ar25 q25 S25 N25_ H25 G25 rfl W26 2 rfl (Nat.le_of_ble_eq_true rfl)
  have O26 : Old Z n0 h26 := O24.wr W26 g_b20
  have V_b1_26 := V_b1_24.other W26 ne_b1_b20
  have N26 := Fr.snoc X26 N24 g_b20
  obtain ⟨cl27, Ar27, q27, S27, N27_, H27, G27⟩ := V_b20_26
  have hin27 : ¬ ((3 : Int32) < 0 ∨ cl27.slots.size ≤ ((3 : Int32)).toNatClampNeg) := inb_of S27 ⟨by decide, by decide⟩
  obtain ⟨T28, h28, X28, e28, W28, st28⟩ := stI X26 hx hZ e26 Ar27 (j := (3 : Int32)) hin27 (g := (mkF m 61 #[vi p1, vi p2, vr b1, vu, vu, vu, vu] [xi (3 : Int32), xi (3 : Int32), xr b20, xr b20])) rfl rfl (hb hby at_61)
  have V_b20_28 : Arv Z h28 b20 k20 .int (6 : Int32) [xi (2 : Int32), xi (5 : Int32), xi (1 : Int32), xi (3 : Int32), xi (0 : Int32), xi (0 : Int32)] (.int (0 : Int32)) := Arv.set Ar27 q27 S27 N27_ H27 G27 rfl W28 3 rfl (Nat.le_of_ble_eq_true rfl)
  have O28 : Old Z n0 h28 := O26.wr W28 g_b20
  have V_b1_28 := V_b1_26.other W28 ne_b1_b20
  have N28 := Fr.snoc X28 N26 g_b20
  obtain ⟨cl29, Ar29, q29, S29, N29_, H29, G29⟩ := V_b20_28
  have hin29 : ¬ ((4 : Int32) < 0 ∨ cl29.slots.size ≤ ((4 : Int32)).toNatClampNeg) := inb_of S29 ⟨by decide, by decide⟩
  obtain ⟨T30, h30, X30, e30, W30, st30⟩ := stI X28 hx hZ e28 Ar29 (j := (4 : Int32)) hin29 (g := (mkF m 65 #[vi p1, vi p2, vr b1, vu, vu, vu, vu] [xi (4 : Int32), xi (4 : Int32), xr b20, xr b20])) rfl rfl (hb hby at_65)
  have V_b20_30 : Arv Z h30 b20 k20 .int (6 : Int32) [xi (2 : Int32), xi (5 : Int32), xi (1 : Int32), xi (3 : Int32), xi (4 : Int32), xi (0 : Int32)] (.int (0 : Int32)) := Arv.set Ar29 q29 S29 N29_ H29 G29 rfl W30 4 rfl (Nat.le_of_ble_eq_true rfl)
  have O30 : Old Z n0 h30 := O28.wr W30 g_b20
  have V_b1_30 := V_b1_28.other W30 ne_b1_b20
  have N30 := Fr.snoc X30 N28 g_b20
  obtain ⟨cl31, Ar31, q31, S31, N31_, H31, G31⟩ := V_b20_30
  have hin31 : ¬ ((5 : Int32) < 0 ∨ cl31.slots.size ≤ ((5 : Int32)).toNatClampNeg) := inb_of S31 ⟨by decide, by decide⟩
  obtain ⟨T32, h32, X32, e32, W32, st32⟩ := stI X30 hx hZ e30 Ar31 (j := (5 : Int32)) hin31 (g := (mkF m 70 #[vi p1, vi p2, vr b1, vu, vu, vu, vu] [xi (6 : Int32), xi (5 : Int32), xr b20, xr b20])) rfl rfl (hb hby at_70)
  have V_b20_32 : Arv Z h32 b20 k20 .int (6 : Int32) [xi (2 : Int32), xi (5 : Int32), xi (1 : Int32), xi (3 : Int32), xi (4 : Int32), xi (6 : Int32)] (.int (0 : Int32)) := Arv.set Ar31 q31 S31 N31_ H31 G31 rfl W32 5 rfl (Nat.le_of_ble_eq_true rfl)
  have O32 : Old Z n0 h32 := O30.wr W32 g_b20
  have V_b1_32 := V_b1_30.other W32 ne_b1_b20
  have N32 := Fr.snoc X32 N30 g_b20
  obtain ⟨cl33, Ar33, q33, S33, N33_, H33, G33⟩ := V_b20_32
  have hin33 : ¬ ((2 : Int32) < 0 ∨ cl33.slots.size ≤ ((2 : Int32)).toNatClampNeg) := inb_of S33 ⟨by decide, by decide⟩
  have hat33 : cl33.slots[((2 : Int32)).toNatClampNeg]? = some (xi (1 : Int32)) := Has.at H33 hin33 rfl
  obtain ⟨cl34, Ar34, q34, S34, N34_, H34, G34⟩ := V_b1_32
  have hin34 : ¬ ((2 : Int32) < 0 ∨ cl34.slots.size ≤ ((2 : Int32)).toNatClampNeg) := inb_of S34 ⟨by decide, by decide⟩
  have hat34 : cl34.slots[((2 : Int32)).toNatClampNeg]? = some (xr u2) := Has.at H34 hin34 rfl
  obtain ⟨cq35, kq35, qa35, qb35, qc35⟩ := isOf hZ e32 ((own_X_u2 G).ext O32.2)
  obtain ⟨_, _, ⟨T35, L35, k35, n35⟩, -, X35, ⟨Lc35, hQ35, l35, y35, z35⟩, st35⟩ := X32.virtualBack hx (y := Y2) (z := Y2) hown (mvT hZ (ww hw 18 rfl)) (mvT hZ (ww hw 19 rfl)) (notFace_of_selects (args := #[]) (mvT hZ (ww hw 21 rfl))) (mvT hZ (ww hw 21 rfl)) (mvT hZ (ww hw 20 rfl)) (by decide) (backOf (W := 0) (own_c8_holds l Z a0 hw u0 u1 u2 u3 u4 u5 G p2 as7 h32 n0 O32 []) hZ (ww hw 22 rfl) (ww hw 3 rfl) (by decide) (by decide)) qa35 qc35 (g := (mkF m 128 #[vi p1, vi p2, vr b1, vr b20, vi (2 : Int32), vi (1 : Int32), vi (0 : Int32)] [xi p2, xr u2])) rfl (by rw [hml]; rfl) (Steps.refl _) (argsL := [xi p2]) (rest := []) (lenOf pd1 rfl) rfl (by show 2 * 0 + _ ≤ _; exact Nat.le_of_eq rfl) (hb hby at_128) (fun _ _ => ⟨rfl, e32, (by decide : 2 + 0 ≤ _), (by decide : 12 + 0 ≤ _)⟩)
  dsimp only [Pt.U, Pt.locs, Pt.cells, Pt.slots] at X35 l35 y35 z35 st35 hQ35
  subst l35 y35 z35
  obtain ⟨rfl, Nq35, e35⟩ := hQ35
  have N35 := Fr.app N32 Nq35
  obtain ⟨fs, hr, hrun, hended, hW, hsame⟩ := X35.leave (v := some (xi (1 : Int32))) (fun h => by rw [Bd.returns] at h; cases h)
  refine ⟨_, _, pre0 _ ?_, hrun, hended, _, _, rfl, ?_, ⟨_, rfl⟩, hW, hsame.mono (by decide) (by decide)⟩
  · show own_S p e below s₁ (mkF m 0 #[vi p1, vi p2, vu, vu, vu, vu, vu] []) _
    refine XS.bipush X0.here hx rfl (hb hby at_0) ?_
    show own_S p e below s₁ (mkF m 2 #[vi p1, vi p2, vu, vu, vu, vu, vu] [xi (6 : Int32)]) _
    refine st1 _ ?_
    show own_S p e below T1 (mkF m 5 #[vi p1, vi p2, vu, vu, vu, vu, vu] [xr b1]) _
    refine XS.dup X1.here hx rfl (hb hby at_5) rfl rfl ?_
    show own_S p e below T1 (mkF m 6 #[vi p1, vi p2, vu, vu, vu, vu, vu] [xr b1, xr b1]) _
    refine XS.iconst X1.here hx rfl (hb hby at_6) ?_
    show own_S p e below T1 (mkF m 7 #[vi p1, vi p2, vu, vu, vu, vu, vu] [xi (0 : Int32), xr b1, xr b1]) _
    refine st2 _ ?_
    show own_S p e below T2 (mkF m 10 #[vi p1, vi p2, vu, vu, vu, vu, vu] [xr u0, xi (0 : Int32), xr b1, xr b1]) _
    refine st4 _ ?_
    show own_S p e below T4 (mkF m 11 #[vi p1, vi p2, vu, vu, vu, vu, vu] [xr b1]) _
    refine XS.dup X4.here hx rfl (hb hby at_11) rfl rfl ?_
    show own_S p e below T4 (mkF m 12 #[vi p1, vi p2, vu, vu, vu, vu, vu] [xr b1, xr b1]) _
    refine XS.iconst X4.here hx rfl (hb hby at_12) ?_
    show own_S p e below T4 (mkF m 13 #[vi p1, vi p2, vu, vu, vu, vu, vu] [xi (1 : Int32), xr b1, xr b1]) _
    refine st5 _ ?_
    show own_S p e below T5 (mkF m 16 #[vi p1, vi p2, vu, vu, vu, vu, vu] [xr u1, xi (1 : Int32), xr b1, xr b1]) _
    refine st7 _ ?_
    show own_S p e below T7 (mkF m 17 #[vi p1, vi p2, vu, vu, vu, vu, vu] [xr b1]) _
    refine XS.dup X7.here hx rfl (hb hby at_17) rfl rfl ?_
    show own_S p e below T7 (mkF m 18 #[vi p1, vi p2, vu, vu, vu, vu, vu] [xr b1, xr b1]) _
    refine XS.iconst X7.here hx rfl (hb hby at_18) ?_
    show own_S p e below T7 (mkF m 19 #[vi p1, vi p2, vu, vu, vu, vu, vu] [xi (2 : Int32), xr b1, xr b1]) _
    refine st8 _ ?_
    show own_S p e below T8 (mkF m 22 #[vi p1, vi p2, vu, vu, vu, vu, vu] [xr u2, xi (2 : Int32), xr b1, xr b1]) _
    refine st10 _ ?_
    show own_S p e below T10 (mkF m 23 #[vi p1, vi p2, vu, vu, vu, vu, vu] [xr b1]) _
    refine XS.dup X10.here hx rfl (hb hby at_23) rfl rfl ?_
    show own_S p e below T10 (mkF m 24 #[vi p1, vi p2, vu, vu, vu, vu, vu] [xr b1, xr b1]) _
    refine XS.iconst X10.here hx rfl (hb hby at_24) ?_
    show own_S p e below T10 (mkF m 25 #[vi p1, vi p2, vu, vu, vu, vu, vu] [xi (3 : Int32), xr b1, xr b1]) _
    refine st11 _ ?_
    show own_S p e below T11 (mkF m 28 #[vi p1, vi p2, vu, vu, vu, vu, vu] [xr u3, xi (3 : Int32), xr b1, xr b1]) _
    refine st13 _ ?_
    show own_S p e below T13 (mkF m 29 #[vi p1, vi p2, vu, vu, vu, vu, vu] [xr b1]) _
    refine XS.dup X13.here hx rfl (hb hby at_29) rfl rfl ?_
    show own_S p e below T13 (mkF m 30 #[vi p1, vi p2, vu, vu, vu, vu, vu] [xr b1, xr b1]) _
    refine XS.iconst X13.here hx rfl (hb hby at_30) ?_
    show own_S p e below T13 (mkF m 31 #[vi p1, vi p2, vu, vu, vu, vu, vu] [xi (4 : Int32), xr b1, xr b1]) _
    refine st14 _ ?_
    show own_S p e below T14 (mkF m 34 #[vi p1, vi p2, vu, vu, vu, vu, vu] [xr u4, xi (4 : Int32), xr b1, xr b1]) _
    refine st16 _ ?_
    show own_S p e below T16 (mkF m 35 #[vi p1, vi p2, vu, vu, vu, vu, vu] [xr b1]) _
    refine XS.dup X16.here hx rfl (hb hby at_35) rfl rfl ?_
    show own_S p e below T16 (mkF m 36 #[vi p1, vi p2, vu, vu, vu, vu, vu] [xr b1, xr b1]) _
    refine XS.iconst X16.here hx rfl (hb hby at_36) ?_
    show own_S p e below T16 (mkF m 37 #[vi p1, vi p2, vu, vu, vu, vu, vu] [xi (5 : Int32), xr b1, xr b1]) _
    refine st17 _ ?_
    show own_S p e below T17 (mkF m 40 #[vi p1, vi p2, vu, vu, vu, vu, vu] [xr u5, xi (5 : Int32), xr b1, xr b1]) _
    refine st19 _ ?_
    show own_S p e below T19 (mkF m 41 #[vi p1, vi p2, vu, vu, vu, vu, vu] [xr b1]) _
    refine XS.astoreN X19.here hx rfl (hb hby at_41) rfl rfl (l' := #[vi p1, vi p2, vr b1, vu, vu, vu, vu]) rfl ?_
    show own_S p e below T19 (mkF m 42 #[vi p1, vi p2, vr b1, vu, vu, vu, vu] []) _
    refine XS.bipush X19.here hx rfl (hb hby at_42) ?_
    show own_S p e below T19 (mkF m 44 #[vi p1, vi p2, vr b1, vu, vu, vu, vu] [xi (6 : Int32)]) _
    refine st20 _ ?_
    show own_S p e below T20 (mkF m 46 #[vi p1, vi p2, vr b1, vu, vu, vu, vu] [xr b20]) _
    refine XS.dup X20.here hx rfl (hb hby at_46) rfl rfl ?_
    show own_S p e below T20 (mkF m 47 #[vi p1, vi p2, vr b1, vu, vu, vu, vu] [xr b20, xr b20]) _
    refine XS.iconst X20.here hx rfl (hb hby at_47) ?_
    show own_S p e below T20 (mkF m 48 #[vi p1, vi p2, vr b1, vu, vu, vu, vu] [xi (0 : Int32), xr b20, xr b20]) _
    refine XS.iconst X20.here hx rfl (hb hby at_48) ?_
    show own_S p e below T20 (mkF m 49 #[vi p1, vi p2, vr b1, vu, vu, vu, vu] [xi (2 : Int32), xi (0 : Int32), xr b20, xr b20]) _
    refine st22 _ ?_
    show own_S p e below T22 (mkF m 50 #[vi p1, vi p2, vr b1, vu, vu, vu, vu] [xr b20]) _
    refine XS.dup X22.here hx rfl (hb hby at_50) rfl rfl ?_
    show own_S p e below T22 (mkF m 51 #[vi p1, vi p2, vr b1, vu, vu, vu, vu] [xr b20, xr b20]) _
    refine XS.iconst X22.here hx rfl (hb hby at_51) ?_
    show own_S p e below T22 (mkF m 52 #[vi p1, vi p2, vr b1, vu, vu, vu, vu] [xi (1 : Int32), xr b20, xr b20]) _
    refine XS.iconst X22.here hx rfl (hb hby at_52) ?_
    show own_S p e below T22 (mkF m 53 #[vi p1, vi p2, vr b1, vu, vu, vu, vu] [xi (5 : Int32), xi (1 : Int32), xr b20, xr b20]) _
    refine st24 _ ?_
    show own_S p e below T24 (mkF m 54 #[vi p1, vi p2, vr b1, vu, vu, vu, vu] [xr b20]) _
    refine XS.dup X24.here hx rfl (hb hby at_54) rfl rfl ?_
    show own_S p e below T24 (mkF m 55 #[vi p1, vi p2, vr b1, vu, vu, vu, vu] [xr b20, xr b20]) _
    refine XS.iconst X24.here hx rfl (hb hby at_55) ?_
    show own_S p e below T24 (mkF m 56 #[vi p1, vi p2, vr b1, vu, vu, vu, vu] [xi (2 : Int32), xr b20, xr b20]) _
    refine XS.iconst X24.here hx rfl (hb hby at_56) ?_
    show own_S p e below T24 (mkF m 57 #[vi p1, vi p2, vr b1, vu, vu, vu, vu] [xi (1 : Int32), xi (2 : Int32), xr b20, xr b20]) _
    refine st26 _ ?_
    show own_S p e below T26 (mkF m 58 #[vi p1, vi p2, vr b1, vu, vu, vu, vu] [xr b20]) _
    refine XS.dup X26.here hx rfl (hb hby at_58) rfl rfl ?_
    show own_S p e below T26 (mkF m 59 #[vi p1, vi p2, vr b1, vu, vu, vu, vu] [xr b20, xr b20]) _
    refine XS.iconst X26.here hx rfl (hb hby at_59) ?_
    show own_S p e below T26 (mkF m 60 #[vi p1, vi p2, vr b1, vu, vu, vu, vu] [xi (3 : Int32), xr b20, xr b20]) _
    refine XS.iconst X26.here hx rfl (hb hby at_60) ?_
    show own_S p e below T26 (mkF m 61 #[vi p1, vi p2, vr b1, vu, vu, vu, vu] [xi (3 : Int32), xi (3 : Int32), xr b20, xr b20]) _
    refine st28 _ ?_
    show own_S p e below T28 (mkF m 62 #[vi p1, vi p2, vr b1, vu, vu, vu, vu] [xr b20]) _
    refine XS.dup X28.here hx rfl (hb hby at_62) rfl rfl ?_
    show own_S p e below T28 (mkF m 63 #[vi p1, vi p2, vr b1, vu, vu, vu, vu] [xr b20, xr b20]) _
    refine XS.iconst X28.here hx rfl (hb hby at_63) ?_
    show own_S p e below T28 (mkF m 64 #[vi p1, vi p2, vr b1, vu, vu, vu, vu] [xi (4 : Int32), xr b20, xr b20]) _
    refine XS.iconst X28.here hx rfl (hb hby at_64) ?_
    show own_S p e below T28 (mkF m 65 #[vi p1, vi p2, vr b1, vu, vu, vu, vu] [xi (4 : Int32), xi (4 : Int32), xr b20, xr b20]) _
    refine st30 _ ?_
    show own_S p e below T30 (mkF m 66 #[vi p1, vi p2, vr b1, vu, vu, vu, vu] [xr b20]) _
    refine XS.dup X30.here hx rfl (hb hby at_66) rfl rfl ?_
    show own_S p e below T30 (mkF m 67 #[vi p1, vi p2, vr b1, vu, vu, vu, vu] [xr b20, xr b20]) _
    refine XS.iconst X30.here hx rfl (hb hby at_67) ?_
    show own_S p e below T30 (mkF m 68 #[vi p1, vi p2, vr b1, vu, vu, vu, vu] [xi (5 : Int32), xr b20, xr b20]) _
    refine XS.bipush X30.here hx rfl (hb hby at_68) ?_
    show own_S p e below T30 (mkF m 70 #[vi p1, vi p2, vr b1, vu, vu, vu, vu] [xi (6 : Int32), xi (5 : Int32), xr b20, xr b20]) _
    refine st32 _ ?_
    show own_S p e below T32 (mkF m 71 #[vi p1, vi p2, vr b1, vu, vu, vu, vu] [xr b20]) _
    refine XS.astoreN X32.here hx rfl (hb hby at_71) rfl rfl (l' := #[vi p1, vi p2, vr b1, vr b20, vu, vu, vu]) rfl ?_
    show own_S p e below T32 (mkF m 72 #[vi p1, vi p2, vr b1, vr b20, vu, vu, vu] []) _
    refine XS.iloadN X32.here hx rfl (hb hby at_72) rfl ?_
    show own_S p e below T32 (mkF m 73 #[vi p1, vi p2, vr b1, vr b20, vu, vu, vu] [xi p1]) _
    refine X32.ldcI hx hown (mvT hZ (ww hw 17 rfl)) (g := (mkF m 73 #[vi p1, vi p2, vr b1, vr b20, vu, vu, vu] [xi p1])) rfl (hb hby at_73) ?_
    show own_S p e below T32 (mkF m 75 #[vi p1, vi p2, vr b1, vr b20, vu, vu, vu] [xi (2147483647 : Int32), xi p1]) _
    refine XS.iand X32.here hx rfl (hb hby at_75) rfl ?_
    show own_S p e below T32 (mkF m 76 #[vi p1, vi p2, vr b1, vr b20, vu, vu, vu] [xi (p1 &&& (2147483647 : Int32))]) _
    show own_S p e below T32 (mkF m 76 #[vi p1, vi p2, vr b1, vr b20, vu, vu, vu] [xi (p1 &&& (2147483647 : Int32))]) _
    refine XS.bipush X32.here hx rfl (hb hby at_76) ?_
    show own_S p e below T32 (mkF m 78 #[vi p1, vi p2, vr b1, vr b20, vu, vu, vu] [xi (6 : Int32), xi (p1 &&& (2147483647 : Int32))]) _
    refine XS.irem X32.here hx rfl (hb hby at_78) rfl (by decide) ?_
    show own_S p e below T32 (mkF m 79 #[vi p1, vi p2, vr b1, vr b20, vu, vu, vu] [xi ((p1 &&& (2147483647 : Int32)) - ((p1 &&& (2147483647 : Int32)) / (6 : Int32)) * (6 : Int32))]) _
    refine castTop (show (mkF m 79 #[vi p1, vi p2, vr b1, vr b20, vu, vu, vu] [xi ((p1 &&& (2147483647 : Int32)) - ((p1 &&& (2147483647 : Int32)) / (6 : Int32)) * (6 : Int32))]) = (mkF m 79 #[vi p1, vi p2, vr b1, vr b20, vu, vu, vu] [xi (2 : Int32)]) from by rw [as14]) ?_
    show own_S p e below T32 (mkF m 79 #[vi p1, vi p2, vr b1, vr b20, vu, vu, vu] [xi (2 : Int32)]) _
    refine XS.istore X32.here hx rfl (hb hby at_79) rfl (l' := #[vi p1, vi p2, vr b1, vr b20, vi (2 : Int32), vu, vu]) rfl ?_
    show own_S p e below T32 (mkF m 81 #[vi p1, vi p2, vr b1, vr b20, vi (2 : Int32), vu, vu] []) _
    refine XS.iloadN X32.here hx rfl (hb hby at_81) rfl ?_
    show own_S p e below T32 (mkF m 82 #[vi p1, vi p2, vr b1, vr b20, vi (2 : Int32), vu, vu] [xi p2]) _
    refine XS.ifYes X32.here hx rfl (pc0 := 82) (pc' := 91) rfl (hb hby at_82) rfl as7 (by decide) (by decide) ?_
    show own_S p e below T32 (mkF m 91 #[vi p1, vi p2, vr b1, vr b20, vi (2 : Int32), vu, vu] []) _
    refine XS.iloadN X32.here hx rfl (hb hby at_91) rfl ?_
    show own_S p e below T32 (mkF m 92 #[vi p1, vi p2, vr b1, vr b20, vi (2 : Int32), vu, vu] [xi p2]) _
    refine XS.ifNo X32.here hx rfl (hb hby at_92) rfl as9 ?_
    show own_S p e below T32 (mkF m 95 #[vi p1, vi p2, vr b1, vr b20, vi (2 : Int32), vu, vu] []) _
    refine XS.iconst X32.here hx rfl (hb hby at_95) ?_
    show own_S p e below T32 (mkF m 96 #[vi p1, vi p2, vr b1, vr b20, vi (2 : Int32), vu, vu] [xi (1 : Int32)]) _
    refine XS.istore X32.here hx rfl (hb hby at_96) rfl (l' := #[vi p1, vi p2, vr b1, vr b20, vi (2 : Int32), vi (1 : Int32), vu]) rfl ?_
    show own_S p e below T32 (mkF m 98 #[vi p1, vi p2, vr b1, vr b20, vi (2 : Int32), vi (1 : Int32), vu] []) _
    refine XS.goto X32.here hx rfl (pc0 := 98) (pc' := 104) rfl (hb hby at_98) (by decide) (by decide) ?_
    show own_S p e below T32 (mkF m 104 #[vi p1, vi p2, vr b1, vr b20, vi (2 : Int32), vi (1 : Int32), vu] []) _
    refine XS.aloadN X32.here hx rfl (hb hby at_104) rfl rfl ?_
    show own_S p e below T32 (mkF m 105 #[vi p1, vi p2, vr b1, vr b20, vi (2 : Int32), vi (1 : Int32), vu] [xr b20]) _
    refine XS.iload X32.here hx rfl (hb hby at_105) rfl ?_
    show own_S p e below T32 (mkF m 107 #[vi p1, vi p2, vr b1, vr b20, vi (2 : Int32), vi (1 : Int32), vu] [xi (2 : Int32), xr b20]) _
    refine X32.iaload hx (j := (2 : Int32)) (v := (xi (1 : Int32))) (by rw [e32]; exact Ar33.1) (State.isArrayOf_alike hZ.alike Ar33.2.1) Ar33.2.2 hin33 hat33 (g := (mkF m 107 #[vi p1, vi p2, vr b1, vr b20, vi (2 : Int32), vi (1 : Int32), vu] [xi (2 : Int32), xr b20])) rfl rfl (hb hby at_107) _ ?_
    show own_S p e below T32 (mkF m 108 #[vi p1, vi p2, vr b1, vr b20, vi (2 : Int32), vi (1 : Int32), vu] [xi (1 : Int32)]) _
    refine XS.iload X32.here hx rfl (hb hby at_108) rfl ?_
    show own_S p e below T32 (mkF m 110 #[vi p1, vi p2, vr b1, vr b20, vi (2 : Int32), vi (1 : Int32), vu] [xi (1 : Int32), xi (1 : Int32)]) _
    refine XS.ishr X32.here hx rfl (hb hby at_110) rfl ?_
    show own_S p e below T32 (mkF m 111 #[vi p1, vi p2, vr b1, vr b20, vi (2 : Int32), vi (1 : Int32), vu] [xi ((1 : Int32) >>> ((1 : Int32) &&& 31))]) _
    refine castTop (show (mkF m 111 #[vi p1, vi p2, vr b1, vr b20, vi (2 : Int32), vi (1 : Int32), vu] [xi ((1 : Int32) >>> ((1 : Int32) &&& 31))]) = (mkF m 111 #[vi p1, vi p2, vr b1, vr b20, vi (2 : Int32), vi (1 : Int32), vu] [xi (0 : Int32)]) from by rw [show ((1 : Int32) >>> ((1 : Int32) &&& 31)) = (0 : Int32) from by decide]) ?_
    show own_S p e below T32 (mkF m 111 #[vi p1, vi p2, vr b1, vr b20, vi (2 : Int32), vi (1 : Int32), vu] [xi (0 : Int32)]) _
    refine XS.iconst X32.here hx rfl (hb hby at_111) ?_
    show own_S p e below T32 (mkF m 112 #[vi p1, vi p2, vr b1, vr b20, vi (2 : Int32), vi (1 : Int32), vu] [xi (1 : Int32), xi (0 : Int32)]) _
    refine XS.iand X32.here hx rfl (hb hby at_112) rfl ?_
    show own_S p e below T32 (mkF m 113 #[vi p1, vi p2, vr b1, vr b20, vi (2 : Int32), vi (1 : Int32), vu] [xi ((0 : Int32) &&& (1 : Int32))]) _
    refine castTop (show (mkF m 113 #[vi p1, vi p2, vr b1, vr b20, vi (2 : Int32), vi (1 : Int32), vu] [xi ((0 : Int32) &&& (1 : Int32))]) = (mkF m 113 #[vi p1, vi p2, vr b1, vr b20, vi (2 : Int32), vi (1 : Int32), vu] [xi (0 : Int32)]) from by rw [show ((0 : Int32) &&& (1 : Int32)) = (0 : Int32) from by decide]) ?_
    show own_S p e below T32 (mkF m 113 #[vi p1, vi p2, vr b1, vr b20, vi (2 : Int32), vi (1 : Int32), vu] [xi (0 : Int32)]) _
    refine XS.ifYes X32.here hx rfl (pc0 := 113) (pc' := 120) rfl (hb hby at_113) rfl (by decide) (by decide) (by decide) ?_
    show own_S p e below T32 (mkF m 120 #[vi p1, vi p2, vr b1, vr b20, vi (2 : Int32), vi (1 : Int32), vu] []) _
    refine XS.iconst X32.here hx rfl (hb hby at_120) ?_
    show own_S p e below T32 (mkF m 121 #[vi p1, vi p2, vr b1, vr b20, vi (2 : Int32), vi (1 : Int32), vu] [xi (0 : Int32)]) _
    refine XS.istore X32.here hx rfl (hb hby at_121) rfl (l' := #[vi p1, vi p2, vr b1, vr b20, vi (2 : Int32), vi (1 : Int32), vi (0 : Int32)]) rfl ?_
    show own_S p e below T32 (mkF m 123 #[vi p1, vi p2, vr b1, vr b20, vi (2 : Int32), vi (1 : Int32), vi (0 : Int32)] []) _
    refine XS.aloadN X32.here hx rfl (hb hby at_123) rfl rfl ?_
    show own_S p e below T32 (mkF m 124 #[vi p1, vi p2, vr b1, vr b20, vi (2 : Int32), vi (1 : Int32), vi (0 : Int32)] [xr b1]) _
    refine XS.iload X32.here hx rfl (hb hby at_124) rfl ?_
    show own_S p e below T32 (mkF m 126 #[vi p1, vi p2, vr b1, vr b20, vi (2 : Int32), vi (1 : Int32), vi (0 : Int32)] [xi (2 : Int32), xr b1]) _
    refine X32.aaload hx (j := (2 : Int32)) (v := (xr u2)) (by rw [e32]; exact Ar34.1) (State.isArrayOf_alike hZ.alike Ar34.2.1) rfl Ar34.2.2 hin34 hat34 (g := (mkF m 126 #[vi p1, vi p2, vr b1, vr b20, vi (2 : Int32), vi (1 : Int32), vi (0 : Int32)] [xi (2 : Int32), xr b1])) rfl rfl (hb hby at_126) _ ?_
    show own_S p e below T32 (mkF m 127 #[vi p1, vi p2, vr b1, vr b20, vi (2 : Int32), vi (1 : Int32), vi (0 : Int32)] [xr u2]) _
    refine XS.iloadN X32.here hx rfl (hb hby at_127) rfl ?_
    show own_S p e below T32 (mkF m 128 #[vi p1, vi p2, vr b1, vr b20, vi (2 : Int32), vi (1 : Int32), vi (0 : Int32)] [xi p2, xr u2]) _
    refine st35.trans ?_
    show own_S p e below T35 (mkF m 131 #[vi p1, vi p2, vr b1, vr b20, vi (2 : Int32), vi (1 : Int32), vi (0 : Int32)] [xi (0 : Int32)]) _
    refine XS.iload X35.here hx rfl (hb hby at_131) rfl ?_
    show own_S p e below T35 (mkF m 133 #[vi p1, vi p2, vr b1, vr b20, vi (2 : Int32), vi (1 : Int32), vi (0 : Int32)] [xi (0 : Int32), xi (0 : Int32)]) _
    refine XS.icmpNo X35.here hx rfl (hb hby at_133) rfl (by decide) ?_
    show own_S p e below T35 (mkF m 136 #[vi p1, vi p2, vr b1, vr b20, vi (2 : Int32), vi (1 : Int32), vi (0 : Int32)] []) _
    refine XS.iconst X35.here hx rfl (hb hby at_136) ?_
    show own_S p e below T35 (mkF m 137 #[vi p1, vi p2, vr b1, vr b20, vi (2 : Int32), vi (1 : Int32), vi (0 : Int32)] [xi (1 : Int32)]) _
    refine XS.goto X35.here hx rfl (pc0 := 137) (pc' := 141) rfl (hb hby at_137) (by decide) (by decide) ?_
    show own_S p e below T35 (mkF m 141 #[vi p1, vi p2, vr b1, vr b20, vi (2 : Int32), vi (1 : Int32), vi (0 : Int32)] [xi (1 : Int32)]) _
    exact retN X35 hx (t := .boolean) Bd.returns (by simp) (hb hby at_141) hr
  · exact ⟨rfl, N35⟩
theorem ef_own_l8 (m : MethodId) (u0 u1 u2 u3 u4 u5 : Addr) (p1 : Int32) (p2 : Int32) : entryFrame m #[xi p1, xi p2] maxLocals = (mkF m 0 #[vi p1, vi p2, vu, vu, vu, vu, vu] []) := by first | (simp [entryFrame, mkF, argsToLocals, Value.category, maxLocals]; done) | rfl
set_option maxRecDepth 65536 in
set_option maxHeartbeats 40000000 in
theorem own_l8 (l : Launch) (Z : State) (a0 : Array Value) (hw : ∀ d ∈ tables_1, d.before a0 Z = true) (u0 u1 u2 u3 u4 u5 : Addr) (G : own_St Z u0 u1 u2 u3 u4 u5) (p1 : Int32) (p2 : Int32) (as14 : ((p1 &&& (2147483647 : Int32)) - ((p1 &&& (2147483647 : Int32)) / (6 : Int32)) * (6 : Int32)) = (2 : Int32)) (as7 : ifCond.holds .ge p2 = true) (as3 : ifCond.holds .ne p2 = true) (h0 : Heap) (n0 : Nat) (O0 : Old Z n0 h0) : own_Met l Z x code maxLocals ret room_1 #[xi p1, xi p2] h0 (own_QL (some (xi (1 : Int32))) n0) := by
  intro ws
  refine MetFree.of_bodySF (plainFor_of_name pn2) hisR ?_
  intro p e s m args below meth c s₁ Bd hml0 hP hK
  obtain ⟨rfl, hZ, hh⟩ := hP
  have hx := Bd.exec
  have hby := Bd.bytes
  have hml : c.maxLocals = 7 := hml0
  have hown : s.vm.findClass "com/example/whyle/whyle/cfa/RelationHoldsPinLaw" = some m.cls := findClass_of_methodNamed Bd.named
  have hnm := (name_of_methodNamed Bd.named Bd.method).1
  have X0 : Stand p l e room_1 s m #[xi p1, xi p2] below meth c s₁ [] 0 0 := Stand.of_body Bd
  have e0 : s₁.heap = h0 := by rw [← hh, Bd.state]; rfl
  have N0 := Fr.nil n0
  have pre0 : ∀ t, Steps p.tables e below (s₁.setTop (mkF m 0 #[vi p1, vi p2, vu, vu, vu, vu, vu] [])) t → Steps p.tables e below (s₁.setTop (entryFrame m #[xi p1, xi p2] maxLocals)) t := fun t st => castTop (ef_own_l8 m u0 u1 u2 u3 u4 u5 p1 p2) st
  obtain ⟨T1, h1, k1, X1, e1, E1, A1, Ov1, st1⟩ := newR X0 hx hZ hown (ww hw 0 rfl) (ww hw 1 rfl) e0 (g := (mkF m 2 #[vi p1, vi p2, vu, vu, vu, vu, vu] [xi (6 : Int32)])) rfl (hb hby at_2) rfl (by decide) (cap := 6) (by decide) (by decide) (by decide) (by decide)
  obtain ⟨b1, g1⟩ : ∃ z, z = h0.size := ⟨_, rfl⟩
  rw [← g1] at A1 st1
  have g_b1 : n0 ≤ b1 := own_fresh O0 g1
  have O1 : Old Z n0 h1 := O0.ext E1
  have V_b1 : Arv Z h1 b1 k1 (.object "com/example/whyle/whyle/cfa/Relation") (6 : Int32) [.null, .null, .null, .null, .null, .null] .null := (Arv.new A1 (by decide)).pad (pad_rep [] .null 6)
  obtain ⟨T2, X2, e2, st2⟩ := getS2 X1 hx hZ hown (host := "") (Or.inl (ww hw 2 rfl)) Via.refl e1 ((own_S_u0 G).ext O1.2) (g := (mkF m 7 #[vi p1, vi p2, vu, vu, vu, vu, vu] [xi (0 : Int32), xr b1, xr b1])) rfl (hb hby at_7)
  obtain ⟨cl3, Ar3, q3, S3, N3_, H3, G3⟩ := V_b1
  have hin3 : ¬ ((0 : Int32) < 0 ∨ cl3.slots.size ≤ ((0 : Int32)).toNatClampNeg) := inb_of S3 ⟨by decide, by decide⟩
  obtain ⟨T4, h4, X4, e4, W4, st4⟩ := stR X2 hx hZ e2 Ar3 (j := (0 : Int32)) hin3 rfl (Sto.ofV Ar3 q3 Ov1 (Ins.self ((own_X_u0 G).ext O1.2))) (g := (mkF m 10 #[vi p1, vi p2, vu, vu, vu, vu, vu] [xr u0, xi (0 : Int32), xr b1, xr b1])) rfl rfl (hb hby at_10)
  have V_b1_4 : Arv Z h4 b1 k1 (.object "com/example/whyle/whyle/cfa/Relation") (6 : Int32) [xr u0, .null, .null, .null, .null, .null] .null := Arv.set Ar3 q3 S3 N3_ H3 G3 rfl W4 0 rfl (Nat.le_of_ble_eq_true rfl)
  have O4 : Old Z n0 h4 := O1.wr W4 g_b1
  have N4 := Fr.snoc X4 N0 g_b1
  obtain ⟨T5, X5, e5, st5⟩ := getS2 X4 hx hZ hown (host := "") (Or.inl (ww hw 6 rfl)) Via.refl e4 ((own_S_u1 G).ext O4.2) (g := (mkF m 13 #[vi p1, vi p2, vu, vu, vu, vu, vu] [xi (1 : Int32), xr b1, xr b1])) rfl (hb hby at_13)
  obtain ⟨cl6, Ar6, q6, S6, N6_, H6, G6⟩ := V_b1_4
  have hin6 : ¬ ((1 : Int32) < 0 ∨ cl6.slots.size ≤ ((1 : Int32)).toNatClampNeg) := inb_of S6 ⟨by decide, by decide⟩
  obtain ⟨T7, h7, X7, e7, W7, st7⟩ := stR X5 hx hZ e5 Ar6 (j := (1 : Int32)) hin6 rfl (Sto.ofV Ar6 q6 Ov1 (Ins.self ((own_X_u1 G).ext O4.2))) (g := (mkF m 16 #[vi p1, vi p2, vu, vu, vu, vu, vu] [xr u1, xi (1 : Int32), xr b1, xr b1])) rfl rfl (hb hby at_16)
  have V_b1_7 : Arv Z h7 b1 k1 (.object "com/example/whyle/whyle/cfa/Relation") (6 : Int32) [xr u0, xr u1, .null, .null, .null, .null] .null := Arv.set Ar6 q6 S6 N6_ H6 G6 rfl W7 1 rfl (Nat.le_of_ble_eq_true rfl)
  have O7 : Old Z n0 h7 := O4.wr W7 g_b1
  have N7 := Fr.snoc X7 N4 g_b1
  obtain ⟨T8, X8, e8, st8⟩ := getS2 X7 hx hZ hown (host := "") (Or.inl (ww hw 8 rfl)) Via.refl e7 ((own_S_u2 G).ext O7.2) (g := (mkF m 19 #[vi p1, vi p2, vu, vu, vu, vu, vu] [xi (2 : Int32), xr b1, xr b1])) rfl (hb hby at_19)
  obtain ⟨cl9, Ar9, q9, S9, N9_, H9, G9⟩ := V_b1_7
  have hin9 : ¬ ((2 : Int32) < 0 ∨ cl9.slots.size ≤ ((2 : Int32)).toNatClampNeg) := inb_of S9 ⟨by decide, by decide⟩
  obtain ⟨T10, h10, X10, e10, W10, st10⟩ := stR X8 hx hZ e8 Ar9 (j := (2 : Int32)) hin9 rfl (Sto.ofV Ar9 q9 Ov1 (Ins.self ((own_X_u2 G).ext O7.2))) (g := (mkF m 22 #[vi p1, vi p2, vu, vu, vu, vu, vu] [xr u2, xi (2 : Int32), xr b1, xr b1])) rfl rfl (hb hby at_22)
  have V_b1_10 : Arv Z h10 b1 k1 (.object "com/example/whyle/whyle/cfa/Relation") (6 : Int32) [xr u0, xr u1, xr u2, .null, .null, .null] .null := Arv.set Ar9 q9 S9 N9_ H9 G9 rfl W10 2 rfl (Nat.le_of_ble_eq_true rfl)
  have O10 : Old Z n0 h10 := O7.wr W10 g_b1
  have N10 := Fr.snoc X10 N7 g_b1
  obtain ⟨T11, X11, e11, st11⟩ := getS2 X10 hx hZ hown (host := "") (Or.inl (ww hw 10 rfl)) Via.refl e10 ((own_S_u3 G).ext O10.2) (g := (mkF m 25 #[vi p1, vi p2, vu, vu, vu, vu, vu] [xi (3 : Int32), xr b1, xr b1])) rfl (hb hby at_25)
  obtain ⟨cl12, Ar12, q12, S12, N12_, H12, G12⟩ := V_b1_10
  have hin12 : ¬ ((3 : Int32) < 0 ∨ cl12.slots.size ≤ ((3 : Int32)).toNatClampNeg) := inb_of S12 ⟨by decide, by decide⟩
  obtain ⟨T13, h13, X13, e13, W13, st13⟩ := stR X11 hx hZ e11 Ar12 (j := (3 : Int32)) hin12 rfl (Sto.ofV Ar12 q12 Ov1 (Ins.self ((own_X_u3 G).ext O10.2))) (g := (mkF m 28 #[vi p1, vi p2, vu, vu, vu, vu, vu] [xr u3, xi (3 : Int32), xr b1, xr b1])) rfl rfl (hb hby at_28)
  have V_b1_13 : Arv Z h13 b1 k1 (.object "com/example/whyle/whyle/cfa/Relation") (6 : Int32) [xr u0, xr u1, xr u2, xr u3, .null, .null] .null := Arv.set Ar12 q12 S12 N12_ H12 G12 rfl W13 3 rfl (Nat.le_of_ble_eq_true rfl)
  have O13 : Old Z n0 h13 := O10.wr W13 g_b1
  have N13 := Fr.snoc X13 N10 g_b1
  obtain ⟨T14, X14, e14, st14⟩ := getS2 X13 hx hZ hown (host := "") (Or.inl (ww hw 12 rfl)) Via.refl e13 ((own_S_u4 G).ext O13.2) (g := (mkF m 31 #[vi p1, vi p2, vu, vu, vu, vu, vu] [xi (4 : Int32), xr b1, xr b1])) rfl (hb hby at_31)
  obtain ⟨cl15, Ar15, q15, S15, N15_, H15, G15⟩ := V_b1_13
  have hin15 : ¬ ((4 : Int32) < 0 ∨ cl15.slots.size ≤ ((4 : Int32)).toNatClampNeg) := inb_of S15 ⟨by decide, by decide⟩
  obtain ⟨T16, h16, X16, e16, W16, st16⟩ := stR X14 hx hZ e14 Ar15 (j := (4 : Int32)) hin15 rfl (Sto.ofV Ar15 q15 Ov1 (Ins.self ((own_X_u4 G).ext O13.2))) (g := (mkF m 34 #[vi p1, vi p2, vu, vu, vu, vu, vu] [xr u4, xi (4 : Int32), xr b1, xr b1])) rfl rfl (hb hby at_34)
  have V_b1_16 : Arv Z h16 b1 k1 (.object "com/example/whyle/whyle/cfa/Relation") (6 : Int32) [xr u0, xr u1, xr u2, xr u3, xr u4, .null] .null := Arv.set Ar15 q15 S15 N15_ H15 G15 rfl W16 4 rfl (Nat.le_of_ble_eq_true rfl)
  have O16 : Old Z n0 h16 := O13.wr W16 g_b1
  have N16 := Fr.snoc X16 N13 g_b1
  obtain ⟨T17, X17, e17, st17⟩ := getS2 X16 hx hZ hown (host := "") (Or.inl (ww hw 14 rfl)) Via.refl e16 ((own_S_u5 G).ext O16.2) (g := (mkF m 37 #[vi p1, vi p2, vu, vu, vu, vu, vu] [xi (5 : Int32), xr b1, xr b1])) rfl (hb hby at_37)
  obtain ⟨cl18, Ar18, q18, S18, N18_, H18, G18⟩ := V_b1_16
  have hin18 : ¬ ((5 : Int32) < 0 ∨ cl18.slots.size ≤ ((5 : Int32)).toNatClampNeg) := inb_of S18 ⟨by decide, by decide⟩
  obtain ⟨T19, h19, X19, e19, W19, st19⟩ := stR X17 hx hZ e17 Ar18 (j := (5 : Int32)) hin18 rfl (Sto.ofV Ar18 q18 Ov1 (Ins.self ((own_X_u5 G).ext O16.2))) (g := (mkF m 40 #[vi p1, vi p2, vu, vu, vu, vu, vu] [xr u5, xi (5 : Int32), xr b1, xr b1])) rfl rfl (hb hby at_40)
  have V_b1_19 : Arv Z h19 b1 k1 (.object "com/example/whyle/whyle/cfa/Relation") (6 : Int32) [xr u0, xr u1, xr u2, xr u3, xr u4, xr u5] .null := Arv.set Ar18 q18 S18 N18_ H18 G18 rfl W19 5 rfl (Nat.le_of_ble_eq_true rfl)
  have O19 : Old Z n0 h19 := O16.wr W19 g_b1
  have N19 := Fr.snoc X19 N16 g_b1
  obtain ⟨T20, h20, k20, X20, e20, E20, A20, st20⟩ := newP X19 hx hZ (ww hw 16 rfl) e19 (g := (mkF m 44 #[vi p1, vi p2, vr b1, vu, vu, vu, vu] [xi (6 : Int32)])) rfl (hb hby at_44) rfl (by decide) (cap := 6) (by decide) (by decide) (by decide) (by decide)
  obtain ⟨b20, g20⟩ : ∃ z, z = h19.size := ⟨_, rfl⟩
  rw [← g20] at A20 st20
  have g_b20 : n0 ≤ b20 := own_fresh O19 g20
  have ne_b1_b20 : b1 ≠ b20 := Nat.ne_of_lt (Nat.lt_of_lt_of_le (V_b1_19).lt (Nat.le_of_eq g20.symm))
  have O20 : Old Z n0 h20 := O19.ext E20
  have V_b1_20 := V_b1_19.ext E20
  have V_b20 : Arv Z h20 b20 k20 .int (6 : Int32) [(.int (0 : Int32)), (.int (0 : Int32)), (.int (0 : Int32)), (.int (0 : Int32)), (.int (0 : Int32)), (.int (0 : Int32))] (.int (0 : Int32)) := (Arv.new A20 (by decide)).pad (pad_rep [] (.int (0 : Int32)) 6)
  obtain ⟨cl21, Ar21, q21, S21, N21_, H21, G21⟩ := V_b20
  have hin21 : ¬ ((0 : Int32) < 0 ∨ cl21.slots.size ≤ ((0 : Int32)).toNatClampNeg) := inb_of S21 ⟨by decide, by decide⟩
  obtain ⟨T22, h22, X22, e22, W22, st22⟩ := stI X20 hx hZ e20 Ar21 (j := (0 : Int32)) hin21 (g := (mkF m 49 #[vi p1, vi p2, vr b1, vu, vu, vu, vu] [xi (2 : Int32), xi (0 : Int32), xr b20, xr b20])) rfl rfl (hb hby at_49)
  have V_b20_22 : Arv Z h22 b20 k20 .int (6 : Int32) [xi (2 : Int32), xi (0 : Int32), xi (0 : Int32), xi (0 : Int32), xi (0 : Int32), xi (0 : Int32)] (.int (0 : Int32)) := Arv.set Ar21 q21 S21 N21_ H21 G21 rfl W22 0 rfl (Nat.le_of_ble_eq_true rfl)
  have O22 : Old Z n0 h22 := O20.wr W22 g_b20
  have V_b1_22 := V_b1_20.other W22 ne_b1_b20
  have N22 := Fr.snoc X22 N19 g_b20
  obtain ⟨cl23, Ar23, q23, S23, N23_, H23, G23⟩ := V_b20_22
  have hin23 : ¬ ((1 : Int32) < 0 ∨ cl23.slots.size ≤ ((1 : Int32)).toNatClampNeg) := inb_of S23 ⟨by decide, by decide⟩
  obtain ⟨T24, h24, X24, e24, W24, st24⟩ := stI X22 hx hZ e22 Ar23 (j := (1 : Int32)) hin23 (g := (mkF m 53 #[vi p1, vi p2, vr b1, vu, vu, vu, vu] [xi (5 : Int32), xi (1 : Int32), xr b20, xr b20])) rfl rfl (hb hby at_53)
  have V_b20_24 : Arv Z h24 b20 k20 .int (6 : Int32) [xi (2 : Int32), xi (5 : Int32), xi (0 : Int32), xi (0 : Int32), xi (0 : Int32), xi (0 : Int32)] (.int (0 : Int32)) := Arv.set Ar23 q23 S23 N23_ H23 G23 rfl W24 1 rfl (Nat.le_of_ble_eq_true rfl)
  have O24 : Old Z n0 h24 := O22.wr W24 g_b20
  have V_b1_24 := V_b1_22.other W24 ne_b1_b20
  have N24 := Fr.snoc X24 N22 g_b20
  obtain ⟨cl25, Ar25, q25, S25, N25_, H25, G25⟩ := V_b20_24
  have hin25 : ¬ ((2 : Int32) < 0 ∨ cl25.slots.size ≤ ((2 : Int32)).toNatClampNeg) := inb_of S25 ⟨by decide, by decide⟩
  obtain ⟨T26, h26, X26, e26, W26, st26⟩ := stI X24 hx hZ e24 Ar25 (j := (2 : Int32)) hin25 (g := (mkF m 57 #[vi p1, vi p2, vr b1, vu, vu, vu, vu] [xi (1 : Int32), xi (2 : Int32), xr b20, xr b20])) rfl rfl (hb hby at_57)
  have V_b20_26 : Arv Z h26 b20 k20 .int (6 : Int32) [xi (2 : Int32), xi (5 : Int32), xi (1 : Int32), xi (0 : Int32), xi (0 : Int32), xi (0 : Int32)] (.int (0 : Int32)) := Arv.set Ar25 q25 S25 N25_ H25 G25 rfl W26 2 rfl (Nat.le_of_ble_eq_true rfl)
  have O26 : Old Z n0 h26 := O24.wr W26 g_b20
  have V_b1_26 := V_b1_24.other W26 ne_b1_b20
  have N26 := Fr.snoc X26 N24 g_b20
  obtain ⟨cl27, Ar27, q27, S27, N27_, H27, G27⟩ := V_b20_26
  have hin27 : ¬ ((3 : Int32) < 0 ∨ cl27.slots.size ≤ ((3 : Int32)).toNatClampNeg) := inb_of S27 ⟨by decide, by decide⟩
  obtain ⟨T28, h28, X28, e28, W28, st28⟩ := stI X26 hx hZ e26 Ar27 (j := (3 : Int32)) hin27 (g := (mkF m 61 #[vi p1, vi p2, vr b1, vu, vu, vu, vu] [xi (3 : Int32), xi (3 : Int32), xr b20, xr b20])) rfl rfl (hb hby at_61)
  have V_b20_28 : Arv Z h28 b20 k20 .int (6 : Int32) [xi (2 : Int32), xi (5 : Int32), xi (1 : Int32), xi (3 : Int32), xi (0 : Int32), xi (0 : Int32)] (.int (0 : Int32)) := Arv.set Ar27 q27 S27 N27_ H27 G27 rfl W28 3 rfl (Nat.le_of_ble_eq_true rfl)
  have O28 : Old Z n0 h28 := O26.wr W28 g_b20
  have V_b1_28 := V_b1_26.other W28 ne_b1_b20
  have N28 := Fr.snoc X28 N26 g_b20
  obtain ⟨cl29, Ar29, q29, S29, N29_, H29, G29⟩ := V_b20_28
  have hin29 : ¬ ((4 : Int32) < 0 ∨ cl29.slots.size ≤ ((4 : Int32)).toNatClampNeg) := inb_of S29 ⟨by decide, by decide⟩
  obtain ⟨T30, h30, X30, e30, W30, st30⟩ := stI X28 hx hZ e28 Ar29 (j := (4 : Int32)) hin29 (g := (mkF m 65 #[vi p1, vi p2, vr b1, vu, vu, vu, vu] [xi (4 : Int32), xi (4 : Int32), xr b20, xr b20])) rfl rfl (hb hby at_65)
  have V_b20_30 : Arv Z h30 b20 k20 .int (6 : Int32) [xi (2 : Int32), xi (5 : Int32), xi (1 : Int32), xi (3 : Int32), xi (4 : Int32), xi (0 : Int32)] (.int (0 : Int32)) := Arv.set Ar29 q29 S29 N29_ H29 G29 rfl W30 4 rfl (Nat.le_of_ble_eq_true rfl)
  have O30 : Old Z n0 h30 := O28.wr W30 g_b20
  have V_b1_30 := V_b1_28.other W30 ne_b1_b20
  have N30 := Fr.snoc X30 N28 g_b20
  obtain ⟨cl31, Ar31, q31, S31, N31_, H31, G31⟩ := V_b20_30
  have hin31 : ¬ ((5 : Int32) < 0 ∨ cl31.slots.size ≤ ((5 : Int32)).toNatClampNeg) := inb_of S31 ⟨by decide, by decide⟩
  obtain ⟨T32, h32, X32, e32, W32, st32⟩ := stI X30 hx hZ e30 Ar31 (j := (5 : Int32)) hin31 (g := (mkF m 70 #[vi p1, vi p2, vr b1, vu, vu, vu, vu] [xi (6 : Int32), xi (5 : Int32), xr b20, xr b20])) rfl rfl (hb hby at_70)
  have V_b20_32 : Arv Z h32 b20 k20 .int (6 : Int32) [xi (2 : Int32), xi (5 : Int32), xi (1 : Int32), xi (3 : Int32), xi (4 : Int32), xi (6 : Int32)] (.int (0 : Int32)) := Arv.set Ar31 q31 S31 N31_ H31 G31 rfl W32 5 rfl (Nat.le_of_ble_eq_true rfl)
  have O32 : Old Z n0 h32 := O30.wr W32 g_b20
  have V_b1_32 := V_b1_30.other W32 ne_b1_b20
  have N32 := Fr.snoc X32 N30 g_b20
  obtain ⟨cl33, Ar33, q33, S33, N33_, H33, G33⟩ := V_b20_32
  have hin33 : ¬ ((2 : Int32) < 0 ∨ cl33.slots.size ≤ ((2 : Int32)).toNatClampNeg) := inb_of S33 ⟨by decide, by decide⟩
  have hat33 : cl33.slots[((2 : Int32)).toNatClampNeg]? = some (xi (1 : Int32)) := Has.at H33 hin33 rfl
  obtain ⟨cl34, Ar34, q34, S34, N34_, H34, G34⟩ := V_b1_32
  have hin34 : ¬ ((2 : Int32) < 0 ∨ cl34.slots.size ≤ ((2 : Int32)).toNatClampNeg) := inb_of S34 ⟨by decide, by decide⟩
  have hat34 : cl34.slots[((2 : Int32)).toNatClampNeg]? = some (xr u2) := Has.at H34 hin34 rfl
  obtain ⟨cq35, kq35, qa35, qb35, qc35⟩ := isOf hZ e32 ((own_X_u2 G).ext O32.2)
  obtain ⟨_, _, ⟨T35, L35, k35, n35⟩, -, X35, ⟨Lc35, hQ35, l35, y35, z35⟩, st35⟩ := X32.virtualBack hx (y := Y2) (z := Y2) hown (mvT hZ (ww hw 18 rfl)) (mvT hZ (ww hw 19 rfl)) (notFace_of_selects (args := #[]) (mvT hZ (ww hw 21 rfl))) (mvT hZ (ww hw 21 rfl)) (mvT hZ (ww hw 20 rfl)) (by decide) (backOf (W := 0) (own_c8_holds l Z a0 hw u0 u1 u2 u3 u4 u5 G p2 as7 h32 n0 O32 []) hZ (ww hw 22 rfl) (ww hw 3 rfl) (by decide) (by decide)) qa35 qc35 (g := (mkF m 128 #[vi p1, vi p2, vr b1, vr b20, vi (2 : Int32), vi (2 : Int32), vi (0 : Int32)] [xi p2, xr u2])) rfl (by rw [hml]; rfl) (Steps.refl _) (argsL := [xi p2]) (rest := []) (lenOf pd1 rfl) rfl (by show 2 * 0 + _ ≤ _; exact Nat.le_of_eq rfl) (hb hby at_128) (fun _ _ => ⟨rfl, e32, (by decide : 2 + 0 ≤ _), (by decide : 12 + 0 ≤ _)⟩)
  dsimp only [Pt.U, Pt.locs, Pt.cells, Pt.slots] at X35 l35 y35 z35 st35 hQ35
  subst l35 y35 z35
  obtain ⟨rfl, Nq35, e35⟩ := hQ35
  have N35 := Fr.app N32 Nq35
  obtain ⟨fs, hr, hrun, hended, hW, hsame⟩ := X35.leave (v := some (xi (1 : Int32))) (fun h => by rw [Bd.returns] at h; cases h)
  refine ⟨_, _, pre0 _ ?_, hrun, hended, _, _, rfl, ?_, ⟨_, rfl⟩, hW, hsame.mono (by decide) (by decide)⟩
  · show own_S p e below s₁ (mkF m 0 #[vi p1, vi p2, vu, vu, vu, vu, vu] []) _
    refine XS.bipush X0.here hx rfl (hb hby at_0) ?_
    show own_S p e below s₁ (mkF m 2 #[vi p1, vi p2, vu, vu, vu, vu, vu] [xi (6 : Int32)]) _
    refine st1 _ ?_
    show own_S p e below T1 (mkF m 5 #[vi p1, vi p2, vu, vu, vu, vu, vu] [xr b1]) _
    refine XS.dup X1.here hx rfl (hb hby at_5) rfl rfl ?_
    show own_S p e below T1 (mkF m 6 #[vi p1, vi p2, vu, vu, vu, vu, vu] [xr b1, xr b1]) _
    refine XS.iconst X1.here hx rfl (hb hby at_6) ?_
    show own_S p e below T1 (mkF m 7 #[vi p1, vi p2, vu, vu, vu, vu, vu] [xi (0 : Int32), xr b1, xr b1]) _
    refine st2 _ ?_
    show own_S p e below T2 (mkF m 10 #[vi p1, vi p2, vu, vu, vu, vu, vu] [xr u0, xi (0 : Int32), xr b1, xr b1]) _
    refine st4 _ ?_
    show own_S p e below T4 (mkF m 11 #[vi p1, vi p2, vu, vu, vu, vu, vu] [xr b1]) _
    refine XS.dup X4.here hx rfl (hb hby at_11) rfl rfl ?_
    show own_S p e below T4 (mkF m 12 #[vi p1, vi p2, vu, vu, vu, vu, vu] [xr b1, xr b1]) _
    refine XS.iconst X4.here hx rfl (hb hby at_12) ?_
    show own_S p e below T4 (mkF m 13 #[vi p1, vi p2, vu, vu, vu, vu, vu] [xi (1 : Int32), xr b1, xr b1]) _
    refine st5 _ ?_
    show own_S p e below T5 (mkF m 16 #[vi p1, vi p2, vu, vu, vu, vu, vu] [xr u1, xi (1 : Int32), xr b1, xr b1]) _
    refine st7 _ ?_
    show own_S p e below T7 (mkF m 17 #[vi p1, vi p2, vu, vu, vu, vu, vu] [xr b1]) _
    refine XS.dup X7.here hx rfl (hb hby at_17) rfl rfl ?_
    show own_S p e below T7 (mkF m 18 #[vi p1, vi p2, vu, vu, vu, vu, vu] [xr b1, xr b1]) _
    refine XS.iconst X7.here hx rfl (hb hby at_18) ?_
    show own_S p e below T7 (mkF m 19 #[vi p1, vi p2, vu, vu, vu, vu, vu] [xi (2 : Int32), xr b1, xr b1]) _
    refine st8 _ ?_
    show own_S p e below T8 (mkF m 22 #[vi p1, vi p2, vu, vu, vu, vu, vu] [xr u2, xi (2 : Int32), xr b1, xr b1]) _
    refine st10 _ ?_
    show own_S p e below T10 (mkF m 23 #[vi p1, vi p2, vu, vu, vu, vu, vu] [xr b1]) _
    refine XS.dup X10.here hx rfl (hb hby at_23) rfl rfl ?_
    show own_S p e below T10 (mkF m 24 #[vi p1, vi p2, vu, vu, vu, vu, vu] [xr b1, xr b1]) _
    refine XS.iconst X10.here hx rfl (hb hby at_24) ?_
    show own_S p e below T10 (mkF m 25 #[vi p1, vi p2, vu, vu, vu, vu, vu] [xi (3 : Int32), xr b1, xr b1]) _
    refine st11 _ ?_
    show own_S p e below T11 (mkF m 28 #[vi p1, vi p2, vu, vu, vu, vu, vu] [xr u3, xi (3 : Int32), xr b1, xr b1]) _
    refine st13 _ ?_
    show own_S p e below T13 (mkF m 29 #[vi p1, vi p2, vu, vu, vu, vu, vu] [xr b1]) _
    refine XS.dup X13.here hx rfl (hb hby at_29) rfl rfl ?_
    show own_S p e below T13 (mkF m 30 #[vi p1, vi p2, vu, vu, vu, vu, vu] [xr b1, xr b1]) _
    refine XS.iconst X13.here hx rfl (hb hby at_30) ?_
    show own_S p e below T13 (mkF m 31 #[vi p1, vi p2, vu, vu, vu, vu, vu] [xi (4 : Int32), xr b1, xr b1]) _
    refine st14 _ ?_
    show own_S p e below T14 (mkF m 34 #[vi p1, vi p2, vu, vu, vu, vu, vu] [xr u4, xi (4 : Int32), xr b1, xr b1]) _
    refine st16 _ ?_
    show own_S p e below T16 (mkF m 35 #[vi p1, vi p2, vu, vu, vu, vu, vu] [xr b1]) _
    refine XS.dup X16.here hx rfl (hb hby at_35) rfl rfl ?_
    show own_S p e below T16 (mkF m 36 #[vi p1, vi p2, vu, vu, vu, vu, vu] [xr b1, xr b1]) _
    refine XS.iconst X16.here hx rfl (hb hby at_36) ?_
    show own_S p e below T16 (mkF m 37 #[vi p1, vi p2, vu, vu, vu, vu, vu] [xi (5 : Int32), xr b1, xr b1]) _
    refine st17 _ ?_
    show own_S p e below T17 (mkF m 40 #[vi p1, vi p2, vu, vu, vu, vu, vu] [xr u5, xi (5 : Int32), xr b1, xr b1]) _
    refine st19 _ ?_
    show own_S p e below T19 (mkF m 41 #[vi p1, vi p2, vu, vu, vu, vu, vu] [xr b1]) _
    refine XS.astoreN X19.here hx rfl (hb hby at_41) rfl rfl (l' := #[vi p1, vi p2, vr b1, vu, vu, vu, vu]) rfl ?_
    show own_S p e below T19 (mkF m 42 #[vi p1, vi p2, vr b1, vu, vu, vu, vu] []) _
    refine XS.bipush X19.here hx rfl (hb hby at_42) ?_
    show own_S p e below T19 (mkF m 44 #[vi p1, vi p2, vr b1, vu, vu, vu, vu] [xi (6 : Int32)]) _
    refine st20 _ ?_
    show own_S p e below T20 (mkF m 46 #[vi p1, vi p2, vr b1, vu, vu, vu, vu] [xr b20]) _
    refine XS.dup X20.here hx rfl (hb hby at_46) rfl rfl ?_
    show own_S p e below T20 (mkF m 47 #[vi p1, vi p2, vr b1, vu, vu, vu, vu] [xr b20, xr b20]) _
    refine XS.iconst X20.here hx rfl (hb hby at_47) ?_
    show own_S p e below T20 (mkF m 48 #[vi p1, vi p2, vr b1, vu, vu, vu, vu] [xi (0 : Int32), xr b20, xr b20]) _
    refine XS.iconst X20.here hx rfl (hb hby at_48) ?_
    show own_S p e below T20 (mkF m 49 #[vi p1, vi p2, vr b1, vu, vu, vu, vu] [xi (2 : Int32), xi (0 : Int32), xr b20, xr b20]) _
    refine st22 _ ?_
    show own_S p e below T22 (mkF m 50 #[vi p1, vi p2, vr b1, vu, vu, vu, vu] [xr b20]) _
    refine XS.dup X22.here hx rfl (hb hby at_50) rfl rfl ?_
    show own_S p e below T22 (mkF m 51 #[vi p1, vi p2, vr b1, vu, vu, vu, vu] [xr b20, xr b20]) _
    refine XS.iconst X22.here hx rfl (hb hby at_51) ?_
    show own_S p e below T22 (mkF m 52 #[vi p1, vi p2, vr b1, vu, vu, vu, vu] [xi (1 : Int32), xr b20, xr b20]) _
    refine XS.iconst X22.here hx rfl (hb hby at_52) ?_
    show own_S p e below T22 (mkF m 53 #[vi p1, vi p2, vr b1, vu, vu, vu, vu] [xi (5 : Int32), xi (1 : Int32), xr b20, xr b20]) _
    refine st24 _ ?_
    show own_S p e below T24 (mkF m 54 #[vi p1, vi p2, vr b1, vu, vu, vu, vu] [xr b20]) _
    refine XS.dup X24.here hx rfl (hb hby at_54) rfl rfl ?_
    show own_S p e below T24 (mkF m 55 #[vi p1, vi p2, vr b1, vu, vu, vu, vu] [xr b20, xr b20]) _
    refine XS.iconst X24.here hx rfl (hb hby at_55) ?_
    show own_S p e below T24 (mkF m 56 #[vi p1, vi p2, vr b1, vu, vu, vu, vu] [xi (2 : Int32), xr b20, xr b20]) _
    refine XS.iconst X24.here hx rfl (hb hby at_56) ?_
    show own_S p e below T24 (mkF m 57 #[vi p1, vi p2, vr b1, vu, vu, vu, vu] [xi (1 : Int32), xi (2 : Int32), xr b20, xr b20]) _
    refine st26 _ ?_
    show own_S p e below T26 (mkF m 58 #[vi p1, vi p2, vr b1, vu, vu, vu, vu] [xr b20]) _
    refine XS.dup X26.here hx rfl (hb hby at_58) rfl rfl ?_
    show own_S p e below T26 (mkF m 59 #[vi p1, vi p2, vr b1, vu, vu, vu, vu] [xr b20, xr b20]) _
    refine XS.iconst X26.here hx rfl (hb hby at_59) ?_
    show own_S p e below T26 (mkF m 60 #[vi p1, vi p2, vr b1, vu, vu, vu, vu] [xi (3 : Int32), xr b20, xr b20]) _
    refine XS.iconst X26.here hx rfl (hb hby at_60) ?_
    show own_S p e below T26 (mkF m 61 #[vi p1, vi p2, vr b1, vu, vu, vu, vu] [xi (3 : Int32), xi (3 : Int32), xr b20, xr b20]) _
    refine st28 _ ?_
    show own_S p e below T28 (mkF m 62 #[vi p1, vi p2, vr b1, vu, vu, vu, vu] [xr b20]) _
    refine XS.dup X28.here hx rfl (hb hby at_62) rfl rfl ?_
    show own_S p e below T28 (mkF m 63 #[vi p1, vi p2, vr b1, vu, vu, vu, vu] [xr b20, xr b20]) _
    refine XS.iconst X28.here hx rfl (hb hby at_63) ?_
    show own_S p e below T28 (mkF m 64 #[vi p1, vi p2, vr b1, vu, vu, vu, vu] [xi (4 : Int32), xr b20, xr b20]) _
    refine XS.iconst X28.here hx rfl (hb hby at_64) ?_
    show own_S p e below T28 (mkF m 65 #[vi p1, vi p2, vr b1, vu, vu, vu, vu] [xi (4 : Int32), xi (4 : Int32), xr b20, xr b20]) _
    refine st30 _ ?_
    show own_S p e below T30 (mkF m 66 #[vi p1, vi p2, vr b1, vu, vu, vu, vu] [xr b20]) _
    refine XS.dup X30.here hx rfl (hb hby at_66) rfl rfl ?_
    show own_S p e below T30 (mkF m 67 #[vi p1, vi p2, vr b1, vu, vu, vu, vu] [xr b20, xr b20]) _
    refine XS.iconst X30.here hx rfl (hb hby at_67) ?_
    show own_S p e below T30 (mkF m 68 #[vi p1, vi p2, vr b1, vu, vu, vu, vu] [xi (5 : Int32), xr b20, xr b20]) _
    refine XS.bipush X30.here hx rfl (hb hby at_68) ?_
    show own_S p e below T30 (mkF m 70 #[vi p1, vi p2, vr b1, vu, vu, vu, vu] [xi (6 : Int32), xi (5 : Int32), xr b20, xr b20]) _
    refine st32 _ ?_
    show own_S p e below T32 (mkF m 71 #[vi p1, vi p2, vr b1, vu, vu, vu, vu] [xr b20]) _
    refine XS.astoreN X32.here hx rfl (hb hby at_71) rfl rfl (l' := #[vi p1, vi p2, vr b1, vr b20, vu, vu, vu]) rfl ?_
    show own_S p e below T32 (mkF m 72 #[vi p1, vi p2, vr b1, vr b20, vu, vu, vu] []) _
    refine XS.iloadN X32.here hx rfl (hb hby at_72) rfl ?_
    show own_S p e below T32 (mkF m 73 #[vi p1, vi p2, vr b1, vr b20, vu, vu, vu] [xi p1]) _
    refine X32.ldcI hx hown (mvT hZ (ww hw 17 rfl)) (g := (mkF m 73 #[vi p1, vi p2, vr b1, vr b20, vu, vu, vu] [xi p1])) rfl (hb hby at_73) ?_
    show own_S p e below T32 (mkF m 75 #[vi p1, vi p2, vr b1, vr b20, vu, vu, vu] [xi (2147483647 : Int32), xi p1]) _
    refine XS.iand X32.here hx rfl (hb hby at_75) rfl ?_
    show own_S p e below T32 (mkF m 76 #[vi p1, vi p2, vr b1, vr b20, vu, vu, vu] [xi (p1 &&& (2147483647 : Int32))]) _
    show own_S p e below T32 (mkF m 76 #[vi p1, vi p2, vr b1, vr b20, vu, vu, vu] [xi (p1 &&& (2147483647 : Int32))]) _
    refine XS.bipush X32.here hx rfl (hb hby at_76) ?_
    show own_S p e below T32 (mkF m 78 #[vi p1, vi p2, vr b1, vr b20, vu, vu, vu] [xi (6 : Int32), xi (p1 &&& (2147483647 : Int32))]) _
    refine XS.irem X32.here hx rfl (hb hby at_78) rfl (by decide) ?_
    show own_S p e below T32 (mkF m 79 #[vi p1, vi p2, vr b1, vr b20, vu, vu, vu] [xi ((p1 &&& (2147483647 : Int32)) - ((p1 &&& (2147483647 : Int32)) / (6 : Int32)) * (6 : Int32))]) _
    refine castTop (show (mkF m 79 #[vi p1, vi p2, vr b1, vr b20, vu, vu, vu] [xi ((p1 &&& (2147483647 : Int32)) - ((p1 &&& (2147483647 : Int32)) / (6 : Int32)) * (6 : Int32))]) = (mkF m 79 #[vi p1, vi p2, vr b1, vr b20, vu, vu, vu] [xi (2 : Int32)]) from by rw [as14]) ?_
    show own_S p e below T32 (mkF m 79 #[vi p1, vi p2, vr b1, vr b20, vu, vu, vu] [xi (2 : Int32)]) _
    refine XS.istore X32.here hx rfl (hb hby at_79) rfl (l' := #[vi p1, vi p2, vr b1, vr b20, vi (2 : Int32), vu, vu]) rfl ?_
    show own_S p e below T32 (mkF m 81 #[vi p1, vi p2, vr b1, vr b20, vi (2 : Int32), vu, vu] []) _
    refine XS.iloadN X32.here hx rfl (hb hby at_81) rfl ?_
    show own_S p e below T32 (mkF m 82 #[vi p1, vi p2, vr b1, vr b20, vi (2 : Int32), vu, vu] [xi p2]) _
    refine XS.ifYes X32.here hx rfl (pc0 := 82) (pc' := 91) rfl (hb hby at_82) rfl as7 (by decide) (by decide) ?_
    show own_S p e below T32 (mkF m 91 #[vi p1, vi p2, vr b1, vr b20, vi (2 : Int32), vu, vu] []) _
    refine XS.iloadN X32.here hx rfl (hb hby at_91) rfl ?_
    show own_S p e below T32 (mkF m 92 #[vi p1, vi p2, vr b1, vr b20, vi (2 : Int32), vu, vu] [xi p2]) _
    refine XS.ifYes X32.here hx rfl (pc0 := 92) (pc' := 101) rfl (hb hby at_92) rfl as3 (by decide) (by decide) ?_
    show own_S p e below T32 (mkF m 101 #[vi p1, vi p2, vr b1, vr b20, vi (2 : Int32), vu, vu] []) _
    refine XS.iconst X32.here hx rfl (hb hby at_101) ?_
    show own_S p e below T32 (mkF m 102 #[vi p1, vi p2, vr b1, vr b20, vi (2 : Int32), vu, vu] [xi (2 : Int32)]) _
    refine XS.istore X32.here hx rfl (hb hby at_102) rfl (l' := #[vi p1, vi p2, vr b1, vr b20, vi (2 : Int32), vi (2 : Int32), vu]) rfl ?_
    show own_S p e below T32 (mkF m 104 #[vi p1, vi p2, vr b1, vr b20, vi (2 : Int32), vi (2 : Int32), vu] []) _
    refine XS.aloadN X32.here hx rfl (hb hby at_104) rfl rfl ?_
    show own_S p e below T32 (mkF m 105 #[vi p1, vi p2, vr b1, vr b20, vi (2 : Int32), vi (2 : Int32), vu] [xr b20]) _
    refine XS.iload X32.here hx rfl (hb hby at_105) rfl ?_
    show own_S p e below T32 (mkF m 107 #[vi p1, vi p2, vr b1, vr b20, vi (2 : Int32), vi (2 : Int32), vu] [xi (2 : Int32), xr b20]) _
    refine X32.iaload hx (j := (2 : Int32)) (v := (xi (1 : Int32))) (by rw [e32]; exact Ar33.1) (State.isArrayOf_alike hZ.alike Ar33.2.1) Ar33.2.2 hin33 hat33 (g := (mkF m 107 #[vi p1, vi p2, vr b1, vr b20, vi (2 : Int32), vi (2 : Int32), vu] [xi (2 : Int32), xr b20])) rfl rfl (hb hby at_107) _ ?_
    show own_S p e below T32 (mkF m 108 #[vi p1, vi p2, vr b1, vr b20, vi (2 : Int32), vi (2 : Int32), vu] [xi (1 : Int32)]) _
    refine XS.iload X32.here hx rfl (hb hby at_108) rfl ?_
    show own_S p e below T32 (mkF m 110 #[vi p1, vi p2, vr b1, vr b20, vi (2 : Int32), vi (2 : Int32), vu] [xi (2 : Int32), xi (1 : Int32)]) _
    refine XS.ishr X32.here hx rfl (hb hby at_110) rfl ?_
    show own_S p e below T32 (mkF m 111 #[vi p1, vi p2, vr b1, vr b20, vi (2 : Int32), vi (2 : Int32), vu] [xi ((1 : Int32) >>> ((2 : Int32) &&& 31))]) _
    refine castTop (show (mkF m 111 #[vi p1, vi p2, vr b1, vr b20, vi (2 : Int32), vi (2 : Int32), vu] [xi ((1 : Int32) >>> ((2 : Int32) &&& 31))]) = (mkF m 111 #[vi p1, vi p2, vr b1, vr b20, vi (2 : Int32), vi (2 : Int32), vu] [xi (0 : Int32)]) from by rw [show ((1 : Int32) >>> ((2 : Int32) &&& 31)) = (0 : Int32) from by decide]) ?_
    show own_S p e below T32 (mkF m 111 #[vi p1, vi p2, vr b1, vr b20, vi (2 : Int32), vi (2 : Int32), vu] [xi (0 : Int32)]) _
    refine XS.iconst X32.here hx rfl (hb hby at_111) ?_
    show own_S p e below T32 (mkF m 112 #[vi p1, vi p2, vr b1, vr b20, vi (2 : Int32), vi (2 : Int32), vu] [xi (1 : Int32), xi (0 : Int32)]) _
    refine XS.iand X32.here hx rfl (hb hby at_112) rfl ?_
    show own_S p e below T32 (mkF m 113 #[vi p1, vi p2, vr b1, vr b20, vi (2 : Int32), vi (2 : Int32), vu] [xi ((0 : Int32) &&& (1 : Int32))]) _
    refine castTop (show (mkF m 113 #[vi p1, vi p2, vr b1, vr b20, vi (2 : Int32), vi (2 : Int32), vu] [xi ((0 : Int32) &&& (1 : Int32))]) = (mkF m 113 #[vi p1, vi p2, vr b1, vr b20, vi (2 : Int32), vi (2 : Int32), vu] [xi (0 : Int32)]) from by rw [show ((0 : Int32) &&& (1 : Int32)) = (0 : Int32) from by decide]) ?_
    show own_S p e below T32 (mkF m 113 #[vi p1, vi p2, vr b1, vr b20, vi (2 : Int32), vi (2 : Int32), vu] [xi (0 : Int32)]) _
    refine XS.ifYes X32.here hx rfl (pc0 := 113) (pc' := 120) rfl (hb hby at_113) rfl (by decide) (by decide) (by decide) ?_
    show own_S p e below T32 (mkF m 120 #[vi p1, vi p2, vr b1, vr b20, vi (2 : Int32), vi (2 : Int32), vu] []) _
    refine XS.iconst X32.here hx rfl (hb hby at_120) ?_
    show own_S p e below T32 (mkF m 121 #[vi p1, vi p2, vr b1, vr b20, vi (2 : Int32), vi (2 : Int32), vu] [xi (0 : Int32)]) _
    refine XS.istore X32.here hx rfl (hb hby at_121) rfl (l' := #[vi p1, vi p2, vr b1, vr b20, vi (2 : Int32), vi (2 : Int32), vi (0 : Int32)]) rfl ?_
    show own_S p e below T32 (mkF m 123 #[vi p1, vi p2, vr b1, vr b20, vi (2 : Int32), vi (2 : Int32), vi (0 : Int32)] []) _
    refine XS.aloadN X32.here hx rfl (hb hby at_123) rfl rfl ?_
    show own_S p e below T32 (mkF m 124 #[vi p1, vi p2, vr b1, vr b20, vi (2 : Int32), vi (2 : Int32), vi (0 : Int32)] [xr b1]) _
    refine XS.iload X32.here hx rfl (hb hby at_124) rfl ?_
    show own_S p e below T32 (mkF m 126 #[vi p1, vi p2, vr b1, vr b20, vi (2 : Int32), vi (2 : Int32), vi (0 : Int32)] [xi (2 : Int32), xr b1]) _
    refine X32.aaload hx (j := (2 : Int32)) (v := (xr u2)) (by rw [e32]; exact Ar34.1) (State.isArrayOf_alike hZ.alike Ar34.2.1) rfl Ar34.2.2 hin34 hat34 (g := (mkF m 126 #[vi p1, vi p2, vr b1, vr b20, vi (2 : Int32), vi (2 : Int32), vi (0 : Int32)] [xi (2 : Int32), xr b1])) rfl rfl (hb hby at_126) _ ?_
    show own_S p e below T32 (mkF m 127 #[vi p1, vi p2, vr b1, vr b20, vi (2 : Int32), vi (2 : Int32), vi (0 : Int32)] [xr u2]) _
    refine XS.iloadN X32.here hx rfl (hb hby at_127) rfl ?_
    show own_S p e below T32 (mkF m 128 #[vi p1, vi p2, vr b1, vr b20, vi (2 : Int32), vi (2 : Int32), vi (0 : Int32)] [xi p2, xr u2]) _
    refine st35.trans ?_
    show own_S p e below T35 (mkF m 131 #[vi p1, vi p2, vr b1, vr b20, vi (2 : Int32), vi (2 : Int32), vi (0 : Int32)] [xi (0 : Int32)]) _
    refine XS.iload X35.here hx rfl (hb hby at_131) rfl ?_
    show own_S p e below T35 (mkF m 133 #[vi p1, vi p2, vr b1, vr b20, vi (2 : Int32), vi (2 : Int32), vi (0 : Int32)] [xi (0 : Int32), xi (0 : Int32)]) _
    refine XS.icmpNo X35.here hx rfl (hb hby at_133) rfl (by decide) ?_
    show own_S p e below T35 (mkF m 136 #[vi p1, vi p2, vr b1, vr b20, vi (2 : Int32), vi (2 : Int32), vi (0 : Int32)] []) _
    refine XS.iconst X35.here hx rfl (hb hby at_136) ?_
    show own_S p e below T35 (mkF m 137 #[vi p1, vi p2, vr b1, vr b20, vi (2 : Int32), vi (2 : Int32), vi (0 : Int32)] [xi (1 : Int32)]) _
    refine XS.goto X35.here hx rfl (pc0 := 137) (pc' := 141) rfl (hb hby at_137) (by decide) (by decide) ?_
    show own_S p e below T35 (mkF m 141 #[vi p1, vi p2, vr b1, vr b20, vi (2 : Int32), vi (2 : Int32), vi (0 : Int32)] [xi (1 : Int32)]) _
    exact retN X35 hx (t := .boolean) Bd.returns (by simp) (hb hby at_141) hr
  · exact ⟨rfl, N35⟩
theorem ef_own_c9_ordinal (m : MethodId) (u0 u1 u2 u3 u4 u5 : Addr) : entryFrame m #[xr u3] 1 = (mkF m 0 #[vr u3] []) := by first | (simp [entryFrame, mkF, argsToLocals, Value.category]; done) | rfl
set_option maxRecDepth 65536 in
set_option maxHeartbeats 40000000 in
theorem own_c9_ordinal (l : Launch) (Z : State) (a0 : Array Value) (hw : ∀ d ∈ tables_1, d.before a0 Z = true) (u0 u1 u2 u3 u4 u5 : Addr) (G : own_St Z u0 u1 u2 u3 u4 u5) (h0 : Heap) (n0 : Nat) (O0 : Old Z n0 h0) : own_Met l Z Y0 jdk_37_method_2_code 1 (some .int) ({ frames := 0, cells := 0, slots := 0, locals := 0 } : Room) #[xr u3] h0 (own_QR (some (xi (3 : Int32))) h0 n0) := by
  intro ws
  refine MetFree.of_bodySF (plainFor_of_name pn0) hisR ?_
  intro p e s m args below meth c s₁ Bd hml0 hP hK
  obtain ⟨rfl, hZ, hh⟩ := hP
  have hx := Bd.exec
  have hby := Bd.bytes
  have hml : c.maxLocals = 1 := hml0
  have hown : s.vm.findClass "java/lang/Enum" = some m.cls := findClass_of_methodNamed Bd.named
  have hnm := (name_of_methodNamed Bd.named Bd.method).1
  have X0 : Stand p l e ({ frames := 0, cells := 0, slots := 0, locals := 0 } : Room) s m #[xr u3] below meth c s₁ [] 0 0 := Stand.of_body Bd
  have e0 : s₁.heap = h0 := by rw [← hh, Bd.state]; rfl
  have N0 := Fr.nil n0
  have pre0 : ∀ t, Steps p.tables e below (s₁.setTop (mkF m 0 #[vr u3] [])) t → Steps p.tables e below (s₁.setTop (entryFrame m #[xr u3] 1)) t := fun t st => castTop (ef_own_c9_ordinal m u0 u1 u2 u3 u4 u5) st
  obtain ⟨T1, X1, e1, st1⟩ := getF X0 hx hZ hown (host := "") (Or.inl (ww hw 30 rfl)) Via.refl e0 ((own_F_u3_ordinal G).ext O0.2) (g := (mkF m 1 #[vr u3] [xr u3])) rfl rfl (hb hby d2_1)
  obtain ⟨fs, hr, hrun, hended, hW, hsame⟩ := X1.leave (v := some (xi (3 : Int32))) (fun h => by rw [Bd.returns] at h; cases h)
  refine ⟨_, _, pre0 _ ?_, hrun, hended, _, _, rfl, ?_, ⟨_, rfl⟩, hW, hsame.mono (by decide) (by decide)⟩
  · show own_S p e below s₁ (mkF m 0 #[vr u3] []) _
    refine XS.aloadN X0.here hx rfl (hb hby d2_0) rfl rfl ?_
    show own_S p e below s₁ (mkF m 1 #[vr u3] [xr u3]) _
    refine st1 _ ?_
    show own_S p e below T1 (mkF m 4 #[vr u3] [xi (3 : Int32)]) _
    exact retI X1 hx Bd.returns (hb hby d2_4) hr
  · exact ⟨rfl, N0, e1⟩
theorem d1_90 : decode prog_62_method_8_code 90 = .ok (.iload_n 1, 1) := by decide +kernel
theorem d1_91 : decode prog_62_method_8_code 91 = .ok (.ifCond .gt 7, 3) := by decide +kernel
theorem d1_94 : decode prog_62_method_8_code 94 = .ok (.iconst 1, 1) := by decide +kernel
theorem d1_95 : decode prog_62_method_8_code 95 = .ok (.goto 28, 3) := by decide +kernel
theorem ef_own_c9_holds (m : MethodId) (u0 u1 u2 u3 u4 u5 : Addr) (p2 : Int32) : entryFrame m #[xr u3, xi p2] 2 = (mkF m 0 #[vr u3, vi p2] []) := by first | (simp [entryFrame, mkF, argsToLocals, Value.category]; done) | rfl
set_option maxRecDepth 65536 in
set_option maxHeartbeats 40000000 in
theorem own_c9_holds (l : Launch) (Z : State) (a0 : Array Value) (hw : ∀ d ∈ tables_1, d.before a0 Z = true) (u0 u1 u2 u3 u4 u5 : Addr) (G : own_St Z u0 u1 u2 u3 u4 u5) (p2 : Int32) (as4 : ifCond.holds .gt p2 = false) (h0 : Heap) (n0 : Nat) (O0 : Old Z n0 h0) : own_Met l Z Y2 prog_62_method_8_code 2 (some .boolean) ({ frames := 1, cells := 0, slots := 0, locals := 12 } : Room) #[xr u3, xi p2] h0 (own_QR (some (xi (1 : Int32))) h0 n0) := by
  intro ws
  refine MetFree.of_bodySF (plainFor_of_name pn1) hisR ?_
  intro p e s m args below meth c s₁ Bd hml0 hP hK
  obtain ⟨rfl, hZ, hh⟩ := hP
  have hx := Bd.exec
  have hby := Bd.bytes
  have hml : c.maxLocals = 2 := hml0
  have hown : s.vm.findClass "com/example/whyle/whyle/cfa/Relation" = some m.cls := findClass_of_methodNamed Bd.named
  have hnm := (name_of_methodNamed Bd.named Bd.method).1
  have X0 : Stand p l e ({ frames := 1, cells := 0, slots := 0, locals := 12 } : Room) s m #[xr u3, xi p2] below meth c s₁ [] 0 0 := Stand.of_body Bd
  have e0 : s₁.heap = h0 := by rw [← hh, Bd.state]; rfl
  have N0 := Fr.nil n0
  have pre0 : ∀ t, Steps p.tables e below (s₁.setTop (mkF m 0 #[vr u3, vi p2] [])) t → Steps p.tables e below (s₁.setTop (entryFrame m #[xr u3, xi p2] 2)) t := fun t st => castTop (ef_own_c9_holds m u0 u1 u2 u3 u4 u5 p2) st
  obtain ⟨cq1, kq1, qa1, qb1, qc1⟩ := isOf hZ e0 ((own_X_u3 G).ext O0.2)
  obtain ⟨_, _, ⟨T1, L1, k1, n1⟩, -, X1, ⟨Lc1, hQ1, l1, y1, z1⟩, st1⟩ := X0.virtualBackUp hx (x := Y1) (y := Y0) hown (mvT hZ (ww hw 23 rfl)) (mvT hZ (ww hw 24 rfl)) (mvT hZ (ww hw 25 rfl)) (by decide) (mvT hZ (ww hw 27 rfl)) (mvT hZ (ww hw 26 rfl)) (backOf (W := 0) (own_c9_ordinal l Z a0 hw u0 u1 u2 u3 u4 u5 G h0 n0 O0 []) hZ (ww hw 29 rfl) (ww hw 28 rfl) (by decide) (by decide)) qa1 qc1 (g := (mkF m 1 #[vr u3, vi p2] [xr u3])) rfl (by rw [hml]; rfl) (Steps.refl _) (argsL := []) (rest := []) (lenOf pd0 rfl) rfl (by show 2 * 0 + _ ≤ _; exact Nat.le_of_eq rfl) (hb hby d1_1) (fun _ _ => ⟨rfl, e0, (by decide : 0 + 0 ≤ _), (by decide : 0 + 0 ≤ _)⟩)
  dsimp only [Pt.U, Pt.locs, Pt.cells, Pt.slots] at X1 l1 y1 z1 st1 hQ1
  subst l1 y1 z1
  obtain ⟨rfl, Nq1, e1⟩ := hQ1
  have N1 := Fr.app N0 Nq1
  obtain ⟨fs, hr, hrun, hended, hW, hsame⟩ := X1.leave (v := some (xi (1 : Int32))) (fun h => by rw [Bd.returns] at h; cases h)
  refine ⟨_, _, pre0 _ ?_, hrun, hended, _, _, rfl, ?_, ⟨_, rfl⟩, hW, hsame.mono (by decide) (by decide)⟩
  · show own_S p e below s₁ (mkF m 0 #[vr u3, vi p2] []) _
    refine XS.aloadN X0.here hx rfl (hb hby d1_0) rfl rfl ?_
    show own_S p e below s₁ (mkF m 1 #[vr u3, vi p2] [xr u3]) _
    refine st1.trans ?_
    show own_S p e below T1 (mkF m 4 #[vr u3, vi p2] [xi (3 : Int32)]) _
    refine XS.tswIn X1.here hx rfl (pc0 := 4) (pc' := 90) (o := 86) rfl (hb hby d1_4) rfl (by decide) (by decide) (by decide) (by decide) ?_
    show own_S p e below T1 (mkF m 90 #[vr u3, vi p2] []) _
    refine XS.iloadN X1.here hx rfl (hb hby d1_90) rfl ?_
    show own_S p e below T1 (mkF m 91 #[vr u3, vi p2] [xi p2]) _
    refine XS.ifNo X1.here hx rfl (hb hby d1_91) rfl as4 ?_
    show own_S p e below T1 (mkF m 94 #[vr u3, vi p2] []) _
    refine XS.iconst X1.here hx rfl (hb hby d1_94) ?_
    show own_S p e below T1 (mkF m 95 #[vr u3, vi p2] [xi (1 : Int32)]) _
    refine XS.goto X1.here hx rfl (pc0 := 95) (pc' := 123) rfl (hb hby d1_95) (by decide) (by decide) ?_
    show own_S p e below T1 (mkF m 123 #[vr u3, vi p2] [xi (1 : Int32)]) _
    exact retN X1 hx (t := .boolean) Bd.returns (by simp) (hb hby d1_123) hr
  · exact ⟨rfl, N1, e1⟩
theorem ef_own_l9 (m : MethodId) (u0 u1 u2 u3 u4 u5 : Addr) (p1 : Int32) (p2 : Int32) : entryFrame m #[xi p1, xi p2] maxLocals = (mkF m 0 #[vi p1, vi p2, vu, vu, vu, vu, vu] []) := by first | (simp [entryFrame, mkF, argsToLocals, Value.category, maxLocals]; done) | rfl
set_option maxRecDepth 65536 in
set_option maxHeartbeats 40000000 in
theorem own_l9 (l : Launch) (Z : State) (a0 : Array Value) (hw : ∀ d ∈ tables_1, d.before a0 Z = true) (u0 u1 u2 u3 u4 u5 : Addr) (G : own_St Z u0 u1 u2 u3 u4 u5) (p1 : Int32) (p2 : Int32) (as15 : ((p1 &&& (2147483647 : Int32)) - ((p1 &&& (2147483647 : Int32)) / (6 : Int32)) * (6 : Int32)) = (3 : Int32)) (as1 : ifCond.holds .ge p2 = false) (as4 : ifCond.holds .gt p2 = false) (h0 : Heap) (n0 : Nat) (O0 : Old Z n0 h0) : own_Met l Z x code maxLocals ret room_1 #[xi p1, xi p2] h0 (own_QL (some (xi (1 : Int32))) n0) := by
  intro ws
  refine MetFree.of_bodySF (plainFor_of_name pn2) hisR ?_
  intro p e s m args below meth c s₁ Bd hml0 hP hK
  obtain ⟨rfl, hZ, hh⟩ := hP
  have hx := Bd.exec
  have hby := Bd.bytes
  have hml : c.maxLocals = 7 := hml0
  have hown : s.vm.findClass "com/example/whyle/whyle/cfa/RelationHoldsPinLaw" = some m.cls := findClass_of_methodNamed Bd.named
  have hnm := (name_of_methodNamed Bd.named Bd.method).1
  have X0 : Stand p l e room_1 s m #[xi p1, xi p2] below meth c s₁ [] 0 0 := Stand.of_body Bd
  have e0 : s₁.heap = h0 := by rw [← hh, Bd.state]; rfl
  have N0 := Fr.nil n0
  have pre0 : ∀ t, Steps p.tables e below (s₁.setTop (mkF m 0 #[vi p1, vi p2, vu, vu, vu, vu, vu] [])) t → Steps p.tables e below (s₁.setTop (entryFrame m #[xi p1, xi p2] maxLocals)) t := fun t st => castTop (ef_own_l9 m u0 u1 u2 u3 u4 u5 p1 p2) st
  obtain ⟨T1, h1, k1, X1, e1, E1, A1, Ov1, st1⟩ := newR X0 hx hZ hown (ww hw 0 rfl) (ww hw 1 rfl) e0 (g := (mkF m 2 #[vi p1, vi p2, vu, vu, vu, vu, vu] [xi (6 : Int32)])) rfl (hb hby at_2) rfl (by decide) (cap := 6) (by decide) (by decide) (by decide) (by decide)
  obtain ⟨b1, g1⟩ : ∃ z, z = h0.size := ⟨_, rfl⟩
  rw [← g1] at A1 st1
  have g_b1 : n0 ≤ b1 := own_fresh O0 g1
  have O1 : Old Z n0 h1 := O0.ext E1
  have V_b1 : Arv Z h1 b1 k1 (.object "com/example/whyle/whyle/cfa/Relation") (6 : Int32) [.null, .null, .null, .null, .null, .null] .null := (Arv.new A1 (by decide)).pad (pad_rep [] .null 6)
  obtain ⟨T2, X2, e2, st2⟩ := getS2 X1 hx hZ hown (host := "") (Or.inl (ww hw 2 rfl)) Via.refl e1 ((own_S_u0 G).ext O1.2) (g := (mkF m 7 #[vi p1, vi p2, vu, vu, vu, vu, vu] [xi (0 : Int32), xr b1, xr b1])) rfl (hb hby at_7)
  obtain ⟨cl3, Ar3, q3, S3, N3_, H3, G3⟩ := V_b1
  have hin3 : ¬ ((0 : Int32) < 0 ∨ cl3.slots.size ≤ ((0 : Int32)).toNatClampNeg) := inb_of S3 ⟨by decide, by decide⟩
  obtain ⟨T4, h4, X4, e4, W4, st4⟩ := stR X2 hx hZ e2 Ar3 (j := (0 : Int32)) hin3 rfl (Sto.ofV Ar3 q3 Ov1 (Ins.self ((own_X_u0 G).ext O1.2))) (g := (mkF m 10 #[vi p1, vi p2, vu, vu, vu, vu, vu] [xr u0, xi (0 : Int32), xr b1, xr b1])) rfl rfl (hb hby at_10)
  have V_b1_4 : Arv Z h4 b1 k1 (.object "com/example/whyle/whyle/cfa/Relation") (6 : Int32) [xr u0, .null, .null, .null, .null, .null] .null := Arv.set Ar3 q3 S3 N3_ H3 G3 rfl W4 0 rfl (Nat.le_of_ble_eq_true rfl)
  have O4 : Old Z n0 h4 := O1.wr W4 g_b1
  have N4 := Fr.snoc X4 N0 g_b1
  obtain ⟨T5, X5, e5, st5⟩ := getS2 X4 hx hZ hown (host := "") (Or.inl (ww hw 6 rfl)) Via.refl e4 ((own_S_u1 G).ext O4.2) (g := (mkF m 13 #[vi p1, vi p2, vu, vu, vu, vu, vu] [xi (1 : Int32), xr b1, xr b1])) rfl (hb hby at_13)
  obtain ⟨cl6, Ar6, q6, S6, N6_, H6, G6⟩ := V_b1_4
  have hin6 : ¬ ((1 : Int32) < 0 ∨ cl6.slots.size ≤ ((1 : Int32)).toNatClampNeg) := inb_of S6 ⟨by decide, by decide⟩
  obtain ⟨T7, h7, X7, e7, W7, st7⟩ := stR X5 hx hZ e5 Ar6 (j := (1 : Int32)) hin6 rfl (Sto.ofV Ar6 q6 Ov1 (Ins.self ((own_X_u1 G).ext O4.2))) (g := (mkF m 16 #[vi p1, vi p2, vu, vu, vu, vu, vu] [xr u1, xi (1 : Int32), xr b1, xr b1])) rfl rfl (hb hby at_16)
  have V_b1_7 : Arv Z h7 b1 k1 (.object "com/example/whyle/whyle/cfa/Relation") (6 : Int32) [xr u0, xr u1, .null, .null, .null, .null] .null := Arv.set Ar6 q6 S6 N6_ H6 G6 rfl W7 1 rfl (Nat.le_of_ble_eq_true rfl)
  have O7 : Old Z n0 h7 := O4.wr W7 g_b1
  have N7 := Fr.snoc X7 N4 g_b1
  obtain ⟨T8, X8, e8, st8⟩ := getS2 X7 hx hZ hown (host := "") (Or.inl (ww hw 8 rfl)) Via.refl e7 ((own_S_u2 G).ext O7.2) (g := (mkF m 19 #[vi p1, vi p2, vu, vu, vu, vu, vu] [xi (2 : Int32), xr b1, xr b1])) rfl (hb hby at_19)
  obtain ⟨cl9, Ar9, q9, S9, N9_, H9, G9⟩ := V_b1_7
  have hin9 : ¬ ((2 : Int32) < 0 ∨ cl9.slots.size ≤ ((2 : Int32)).toNatClampNeg) := inb_of S9 ⟨by decide, by decide⟩
  obtain ⟨T10, h10, X10, e10, W10, st10⟩ := stR X8 hx hZ e8 Ar9 (j := (2 : Int32)) hin9 rfl (Sto.ofV Ar9 q9 Ov1 (Ins.self ((own_X_u2 G).ext O7.2))) (g := (mkF m 22 #[vi p1, vi p2, vu, vu, vu, vu, vu] [xr u2, xi (2 : Int32), xr b1, xr b1])) rfl rfl (hb hby at_22)
  have V_b1_10 : Arv Z h10 b1 k1 (.object "com/example/whyle/whyle/cfa/Relation") (6 : Int32) [xr u0, xr u1, xr u2, .null, .null, .null] .null := Arv.set Ar9 q9 S9 N9_ H9 G9 rfl W10 2 rfl (Nat.le_of_ble_eq_true rfl)
  have O10 : Old Z n0 h10 := O7.wr W10 g_b1
  have N10 := Fr.snoc X10 N7 g_b1
  obtain ⟨T11, X11, e11, st11⟩ := getS2 X10 hx hZ hown (host := "") (Or.inl (ww hw 10 rfl)) Via.refl e10 ((own_S_u3 G).ext O10.2) (g := (mkF m 25 #[vi p1, vi p2, vu, vu, vu, vu, vu] [xi (3 : Int32), xr b1, xr b1])) rfl (hb hby at_25)
  obtain ⟨cl12, Ar12, q12, S12, N12_, H12, G12⟩ := V_b1_10
  have hin12 : ¬ ((3 : Int32) < 0 ∨ cl12.slots.size ≤ ((3 : Int32)).toNatClampNeg) := inb_of S12 ⟨by decide, by decide⟩
  obtain ⟨T13, h13, X13, e13, W13, st13⟩ := stR X11 hx hZ e11 Ar12 (j := (3 : Int32)) hin12 rfl (Sto.ofV Ar12 q12 Ov1 (Ins.self ((own_X_u3 G).ext O10.2))) (g := (mkF m 28 #[vi p1, vi p2, vu, vu, vu, vu, vu] [xr u3, xi (3 : Int32), xr b1, xr b1])) rfl rfl (hb hby at_28)
  have V_b1_13 : Arv Z h13 b1 k1 (.object "com/example/whyle/whyle/cfa/Relation") (6 : Int32) [xr u0, xr u1, xr u2, xr u3, .null, .null] .null := Arv.set Ar12 q12 S12 N12_ H12 G12 rfl W13 3 rfl (Nat.le_of_ble_eq_true rfl)
  have O13 : Old Z n0 h13 := O10.wr W13 g_b1
  have N13 := Fr.snoc X13 N10 g_b1
  obtain ⟨T14, X14, e14, st14⟩ := getS2 X13 hx hZ hown (host := "") (Or.inl (ww hw 12 rfl)) Via.refl e13 ((own_S_u4 G).ext O13.2) (g := (mkF m 31 #[vi p1, vi p2, vu, vu, vu, vu, vu] [xi (4 : Int32), xr b1, xr b1])) rfl (hb hby at_31)
  obtain ⟨cl15, Ar15, q15, S15, N15_, H15, G15⟩ := V_b1_13
  have hin15 : ¬ ((4 : Int32) < 0 ∨ cl15.slots.size ≤ ((4 : Int32)).toNatClampNeg) := inb_of S15 ⟨by decide, by decide⟩
  obtain ⟨T16, h16, X16, e16, W16, st16⟩ := stR X14 hx hZ e14 Ar15 (j := (4 : Int32)) hin15 rfl (Sto.ofV Ar15 q15 Ov1 (Ins.self ((own_X_u4 G).ext O13.2))) (g := (mkF m 34 #[vi p1, vi p2, vu, vu, vu, vu, vu] [xr u4, xi (4 : Int32), xr b1, xr b1])) rfl rfl (hb hby at_34)
  have V_b1_16 : Arv Z h16 b1 k1 (.object "com/example/whyle/whyle/cfa/Relation") (6 : Int32) [xr u0, xr u1, xr u2, xr u3, xr u4, .null] .null := Arv.set Ar15 q15 S15 N15_ H15 G15 rfl W16 4 rfl (Nat.le_of_ble_eq_true rfl)
  have O16 : Old Z n0 h16 := O13.wr W16 g_b1
  have N16 := Fr.snoc X16 N13 g_b1
  obtain ⟨T17, X17, e17, st17⟩ := getS2 X16 hx hZ hown (host := "") (Or.inl (ww hw 14 rfl)) Via.refl e16 ((own_S_u5 G).ext O16.2) (g := (mkF m 37 #[vi p1, vi p2, vu, vu, vu, vu, vu] [xi (5 : Int32), xr b1, xr b1])) rfl (hb hby at_37)
  obtain ⟨cl18, Ar18, q18, S18, N18_, H18, G18⟩ := V_b1_16
  have hin18 : ¬ ((5 : Int32) < 0 ∨ cl18.slots.size ≤ ((5 : Int32)).toNatClampNeg) := inb_of S18 ⟨by decide, by decide⟩
  obtain ⟨T19, h19, X19, e19, W19, st19⟩ := stR X17 hx hZ e17 Ar18 (j := (5 : Int32)) hin18 rfl (Sto.ofV Ar18 q18 Ov1 (Ins.self ((own_X_u5 G).ext O16.2))) (g := (mkF m 40 #[vi p1, vi p2, vu, vu, vu, vu, vu] [xr u5, xi (5 : Int32), xr b1, xr b1])) rfl rfl (hb hby at_40)
  have V_b1_19 : Arv Z h19 b1 k1 (.object "com/example/whyle/whyle/cfa/Relation") (6 : Int32) [xr u0, xr u1, xr u2, xr u3, xr u4, xr u5] .null := Arv.set Ar18 q18 S18 N18_ H18 G18 rfl W19 5 rfl (Nat.le_of_ble_eq_true rfl)
  have O19 : Old Z n0 h19 := O16.wr W19 g_b1
  have N19 := Fr.snoc X19 N16 g_b1
  obtain ⟨T20, h20, k20, X20, e20, E20, A20, st20⟩ := newP X19 hx hZ (ww hw 16 rfl) e19 (g := (mkF m 44 #[vi p1, vi p2, vr b1, vu, vu, vu, vu] [xi (6 : Int32)])) rfl (hb hby at_44) rfl (by decide) (cap := 6) (by decide) (by decide) (by decide) (by decide)
  obtain ⟨b20, g20⟩ : ∃ z, z = h19.size := ⟨_, rfl⟩
  rw [← g20] at A20 st20
  have g_b20 : n0 ≤ b20 := own_fresh O19 g20
  have ne_b1_b20 : b1 ≠ b20 := Nat.ne_of_lt (Nat.lt_of_lt_of_le (V_b1_19).lt (Nat.le_of_eq g20.symm))
  have O20 : Old Z n0 h20 := O19.ext E20
  have V_b1_20 := V_b1_19.ext E20
  have V_b20 : Arv Z h20 b20 k20 .int (6 : Int32) [(.int (0 : Int32)), (.int (0 : Int32)), (.int (0 : Int32)), (.int (0 : Int32)), (.int (0 : Int32)), (.int (0 : Int32))] (.int (0 : Int32)) := (Arv.new A20 (by decide)).pad (pad_rep [] (.int (0 : Int32)) 6)
  obtain ⟨cl21, Ar21, q21, S21, N21_, H21, G21⟩ := V_b20
  have hin21 : ¬ ((0 : Int32) < 0 ∨ cl21.slots.size ≤ ((0 : Int32)).toNatClampNeg) := inb_of S21 ⟨by decide, by decide⟩
  obtain ⟨T22, h22, X22, e22, W22, st22⟩ := stI X20 hx hZ e20 Ar21 (j := (0 : Int32)) hin21 (g := (mkF m 49 #[vi p1, vi p2, vr b1, vu, vu, vu, vu] [xi (2 : Int32), xi (0 : Int32), xr b20, xr b20])) rfl rfl (hb hby at_49)
  have V_b20_22 : Arv Z h22 b20 k20 .int (6 : Int32) [xi (2 : Int32), xi (0 : Int32), xi (0 : Int32), xi (0 : Int32), xi (0 : Int32), xi (0 : Int32)] (.int (0 : Int32)) := Arv.set Ar21 q21 S21 N21_ H21 G21 rfl W22 0 rfl (Nat.le_of_ble_eq_true rfl)
  have O22 : Old Z n0 h22 := O20.wr W22 g_b20
  have V_b1_22 := V_b1_20.other W22 ne_b1_b20
  have N22 := Fr.snoc X22 N19 g_b20
  obtain ⟨cl23, Ar23, q23, S23, N23_, H23, G23⟩ := V_b20_22
  have hin23 : ¬ ((1 : Int32) < 0 ∨ cl23.slots.size ≤ ((1 : Int32)).toNatClampNeg) := inb_of S23 ⟨by decide, by decide⟩
  obtain ⟨T24, h24, X24, e24, W24, st24⟩ := stI X22 hx hZ e22 Ar23 (j := (1 : Int32)) hin23 (g := (mkF m 53 #[vi p1, vi p2, vr b1, vu, vu, vu, vu] [xi (5 : Int32), xi (1 : Int32), xr b20, xr b20])) rfl rfl (hb hby at_53)
  have V_b20_24 : Arv Z h24 b20 k20 .int (6 : Int32) [xi (2 : Int32), xi (5 : Int32), xi (0 : Int32), xi (0 : Int32), xi (0 : Int32), xi (0 : Int32)] (.int (0 : Int32)) := Arv.set Ar23 q23 S23 N23_ H23 G23 rfl W24 1 rfl (Nat.le_of_ble_eq_true rfl)
  have O24 : Old Z n0 h24 := O22.wr W24 g_b20
  have V_b1_24 := V_b1_22.other W24 ne_b1_b20
  have N24 := Fr.snoc X24 N22 g_b20
  obtain ⟨cl25, Ar25, q25, S25, N25_, H25, G25⟩ := V_b20_24
  have hin25 : ¬ ((2 : Int32) < 0 ∨ cl25.slots.size ≤ ((2 : Int32)).toNatClampNeg) := inb_of S25 ⟨by decide, by decide⟩
  obtain ⟨T26, h26, X26, e26, W26, st26⟩ := stI X24 hx hZ e24 Ar25 (j := (2 : Int32)) hin25 (g := (mkF m 57 #[vi p1, vi p2, vr b1, vu, vu, vu, vu] [xi (1 : Int32), xi (2 : Int32), xr b20, xr b20])) rfl rfl (hb hby at_57)
  have V_b20_26 : Arv Z h26 b20 k20 .int (6 : Int32) [xi (2 : Int32), xi (5 : Int32), xi (1 : Int32), xi (0 : Int32), xi (0 : Int32), xi (0 : Int32)] (.int (0 : Int32)) := Arv.set Ar25 q25 S25 N25_ H25 G25 rfl W26 2 rfl (Nat.le_of_ble_eq_true rfl)
  have O26 : Old Z n0 h26 := O24.wr W26 g_b20
  have V_b1_26 := V_b1_24.other W26 ne_b1_b20
  have N26 := Fr.snoc X26 N24 g_b20
  obtain ⟨cl27, Ar27, q27, S27, N27_, H27, G27⟩ := V_b20_26
  have hin27 : ¬ ((3 : Int32) < 0 ∨ cl27.slots.size ≤ ((3 : Int32)).toNatClampNeg) := inb_of S27 ⟨by decide, by decide⟩
  obtain ⟨T28, h28, X28, e28, W28, st28⟩ := stI X26 hx hZ e26 Ar27 (j := (3 : Int32)) hin27 (g := (mkF m 61 #[vi p1, vi p2, vr b1, vu, vu, vu, vu] [xi (3 : Int32), xi (3 : Int32), xr b20, xr b20])) rfl rfl (hb hby at_61)
  have V_b20_28 : Arv Z h28 b20 k20 .int (6 : Int32) [xi (2 : Int32), xi (5 : Int32), xi (1 : Int32), xi (3 : Int32), xi (0 : Int32), xi (0 : Int32)] (.int (0 : Int32)) := Arv.set Ar27 q27 S27 N27_ H27 G27 rfl W28 3 rfl (Nat.le_of_ble_eq_true rfl)
  have O28 : Old Z n0 h28 := O26.wr W28 g_b20
  have V_b1_28 := V_b1_26.other W28 ne_b1_b20
  have N28 := Fr.snoc X28 N26 g_b20
  obtain ⟨cl29, Ar29, q29, S29, N29_, H29, G29⟩ := V_b20_28
  have hin29 : ¬ ((4 : Int32) < 0 ∨ cl29.slots.size ≤ ((4 : Int32)).toNatClampNeg) := inb_of S29 ⟨by decide, by decide⟩
  obtain ⟨T30, h30, X30, e30, W30, st30⟩ := stI X28 hx hZ e28 Ar29 (j := (4 : Int32)) hin29 (g := (mkF m 65 #[vi p1, vi p2, vr b1, vu, vu, vu, vu] [xi (4 : Int32), xi (4 : Int32), xr b20, xr b20])) rfl rfl (hb hby at_65)
  have V_b20_30 : Arv Z h30 b20 k20 .int (6 : Int32) [xi (2 : Int32), xi (5 : Int32), xi (1 : Int32), xi (3 : Int32), xi (4 : Int32), xi (0 : Int32)] (.int (0 : Int32)) := Arv.set Ar29 q29 S29 N29_ H29 G29 rfl W30 4 rfl (Nat.le_of_ble_eq_true rfl)
  have O30 : Old Z n0 h30 := O28.wr W30 g_b20
  have V_b1_30 := V_b1_28.other W30 ne_b1_b20
  have N30 := Fr.snoc X30 N28 g_b20
  obtain ⟨cl31, Ar31, q31, S31, N31_, H31, G31⟩ := V_b20_30
  have hin31 : ¬ ((5 : Int32) < 0 ∨ cl31.slots.size ≤ ((5 : Int32)).toNatClampNeg) := inb_of S31 ⟨by decide, by decide⟩
  obtain ⟨T32, h32, X32, e32, W32, st32⟩ := stI X30 hx hZ e30 Ar31 (j := (5 : Int32)) hin31 (g := (mkF m 70 #[vi p1, vi p2, vr b1, vu, vu, vu, vu] [xi (6 : Int32), xi (5 : Int32), xr b20, xr b20])) rfl rfl (hb hby at_70)
  have V_b20_32 : Arv Z h32 b20 k20 .int (6 : Int32) [xi (2 : Int32), xi (5 : Int32), xi (1 : Int32), xi (3 : Int32), xi (4 : Int32), xi (6 : Int32)] (.int (0 : Int32)) := Arv.set Ar31 q31 S31 N31_ H31 G31 rfl W32 5 rfl (Nat.le_of_ble_eq_true rfl)
  have O32 : Old Z n0 h32 := O30.wr W32 g_b20
  have V_b1_32 := V_b1_30.other W32 ne_b1_b20
  have N32 := Fr.snoc X32 N30 g_b20
  obtain ⟨cl33, Ar33, q33, S33, N33_, H33, G33⟩ := V_b20_32
  have hin33 : ¬ ((3 : Int32) < 0 ∨ cl33.slots.size ≤ ((3 : Int32)).toNatClampNeg) := inb_of S33 ⟨by decide, by decide⟩
  have hat33 : cl33.slots[((3 : Int32)).toNatClampNeg]? = some (xi (3 : Int32)) := Has.at H33 hin33 rfl
  obtain ⟨cl34, Ar34, q34, S34, N34_, H34, G34⟩ := V_b1_32
  have hin34 : ¬ ((3 : Int32) < 0 ∨ cl34.slots.size ≤ ((3 : Int32)).toNatClampNeg) := inb_of S34 ⟨by decide, by decide⟩
  have hat34 : cl34.slots[((3 : Int32)).toNatClampNeg]? = some (xr u3) := Has.at H34 hin34 rfl
  obtain ⟨cq35, kq35, qa35, qb35, qc35⟩ := isOf hZ e32 ((own_X_u3 G).ext O32.2)
  obtain ⟨_, _, ⟨T35, L35, k35, n35⟩, -, X35, ⟨Lc35, hQ35, l35, y35, z35⟩, st35⟩ := X32.virtualBack hx (y := Y2) (z := Y2) hown (mvT hZ (ww hw 18 rfl)) (mvT hZ (ww hw 19 rfl)) (notFace_of_selects (args := #[]) (mvT hZ (ww hw 21 rfl))) (mvT hZ (ww hw 21 rfl)) (mvT hZ (ww hw 20 rfl)) (by decide) (backOf (W := 0) (own_c9_holds l Z a0 hw u0 u1 u2 u3 u4 u5 G p2 as4 h32 n0 O32 []) hZ (ww hw 22 rfl) (ww hw 3 rfl) (by decide) (by decide)) qa35 qc35 (g := (mkF m 128 #[vi p1, vi p2, vr b1, vr b20, vi (3 : Int32), vi (0 : Int32), vi (1 : Int32)] [xi p2, xr u3])) rfl (by rw [hml]; rfl) (Steps.refl _) (argsL := [xi p2]) (rest := []) (lenOf pd1 rfl) rfl (by show 2 * 0 + _ ≤ _; exact Nat.le_of_eq rfl) (hb hby at_128) (fun _ _ => ⟨rfl, e32, (by decide : 2 + 0 ≤ _), (by decide : 12 + 0 ≤ _)⟩)
  dsimp only [Pt.U, Pt.locs, Pt.cells, Pt.slots] at X35 l35 y35 z35 st35 hQ35
  subst l35 y35 z35
  obtain ⟨rfl, Nq35, e35⟩ := hQ35
  have N35 := Fr.app N32 Nq35
  obtain ⟨fs, hr, hrun, hended, hW, hsame⟩ := X35.leave (v := some (xi (1 : Int32))) (fun h => by rw [Bd.returns] at h; cases h)
  refine ⟨_, _, pre0 _ ?_, hrun, hended, _, _, rfl, ?_, ⟨_, rfl⟩, hW, hsame.mono (by decide) (by decide)⟩
  · show own_S p e below s₁ (mkF m 0 #[vi p1, vi p2, vu, vu, vu, vu, vu] []) _
    refine XS.bipush X0.here hx rfl (hb hby at_0) ?_
    show own_S p e below s₁ (mkF m 2 #[vi p1, vi p2, vu, vu, vu, vu, vu] [xi (6 : Int32)]) _
    refine st1 _ ?_
    show own_S p e below T1 (mkF m 5 #[vi p1, vi p2, vu, vu, vu, vu, vu] [xr b1]) _
    refine XS.dup X1.here hx rfl (hb hby at_5) rfl rfl ?_
    show own_S p e below T1 (mkF m 6 #[vi p1, vi p2, vu, vu, vu, vu, vu] [xr b1, xr b1]) _
    refine XS.iconst X1.here hx rfl (hb hby at_6) ?_
    show own_S p e below T1 (mkF m 7 #[vi p1, vi p2, vu, vu, vu, vu, vu] [xi (0 : Int32), xr b1, xr b1]) _
    refine st2 _ ?_
    show own_S p e below T2 (mkF m 10 #[vi p1, vi p2, vu, vu, vu, vu, vu] [xr u0, xi (0 : Int32), xr b1, xr b1]) _
    refine st4 _ ?_
    show own_S p e below T4 (mkF m 11 #[vi p1, vi p2, vu, vu, vu, vu, vu] [xr b1]) _
    refine XS.dup X4.here hx rfl (hb hby at_11) rfl rfl ?_
    show own_S p e below T4 (mkF m 12 #[vi p1, vi p2, vu, vu, vu, vu, vu] [xr b1, xr b1]) _
    refine XS.iconst X4.here hx rfl (hb hby at_12) ?_
    show own_S p e below T4 (mkF m 13 #[vi p1, vi p2, vu, vu, vu, vu, vu] [xi (1 : Int32), xr b1, xr b1]) _
    refine st5 _ ?_
    show own_S p e below T5 (mkF m 16 #[vi p1, vi p2, vu, vu, vu, vu, vu] [xr u1, xi (1 : Int32), xr b1, xr b1]) _
    refine st7 _ ?_
    show own_S p e below T7 (mkF m 17 #[vi p1, vi p2, vu, vu, vu, vu, vu] [xr b1]) _
    refine XS.dup X7.here hx rfl (hb hby at_17) rfl rfl ?_
    show own_S p e below T7 (mkF m 18 #[vi p1, vi p2, vu, vu, vu, vu, vu] [xr b1, xr b1]) _
    refine XS.iconst X7.here hx rfl (hb hby at_18) ?_
    show own_S p e below T7 (mkF m 19 #[vi p1, vi p2, vu, vu, vu, vu, vu] [xi (2 : Int32), xr b1, xr b1]) _
    refine st8 _ ?_
    show own_S p e below T8 (mkF m 22 #[vi p1, vi p2, vu, vu, vu, vu, vu] [xr u2, xi (2 : Int32), xr b1, xr b1]) _
    refine st10 _ ?_
    show own_S p e below T10 (mkF m 23 #[vi p1, vi p2, vu, vu, vu, vu, vu] [xr b1]) _
    refine XS.dup X10.here hx rfl (hb hby at_23) rfl rfl ?_
    show own_S p e below T10 (mkF m 24 #[vi p1, vi p2, vu, vu, vu, vu, vu] [xr b1, xr b1]) _
    refine XS.iconst X10.here hx rfl (hb hby at_24) ?_
    show own_S p e below T10 (mkF m 25 #[vi p1, vi p2, vu, vu, vu, vu, vu] [xi (3 : Int32), xr b1, xr b1]) _
    refine st11 _ ?_
    show own_S p e below T11 (mkF m 28 #[vi p1, vi p2, vu, vu, vu, vu, vu] [xr u3, xi (3 : Int32), xr b1, xr b1]) _
    refine st13 _ ?_
    show own_S p e below T13 (mkF m 29 #[vi p1, vi p2, vu, vu, vu, vu, vu] [xr b1]) _
    refine XS.dup X13.here hx rfl (hb hby at_29) rfl rfl ?_
    show own_S p e below T13 (mkF m 30 #[vi p1, vi p2, vu, vu, vu, vu, vu] [xr b1, xr b1]) _
    refine XS.iconst X13.here hx rfl (hb hby at_30) ?_
    show own_S p e below T13 (mkF m 31 #[vi p1, vi p2, vu, vu, vu, vu, vu] [xi (4 : Int32), xr b1, xr b1]) _
    refine st14 _ ?_
    show own_S p e below T14 (mkF m 34 #[vi p1, vi p2, vu, vu, vu, vu, vu] [xr u4, xi (4 : Int32), xr b1, xr b1]) _
    refine st16 _ ?_
    show own_S p e below T16 (mkF m 35 #[vi p1, vi p2, vu, vu, vu, vu, vu] [xr b1]) _
    refine XS.dup X16.here hx rfl (hb hby at_35) rfl rfl ?_
    show own_S p e below T16 (mkF m 36 #[vi p1, vi p2, vu, vu, vu, vu, vu] [xr b1, xr b1]) _
    refine XS.iconst X16.here hx rfl (hb hby at_36) ?_
    show own_S p e below T16 (mkF m 37 #[vi p1, vi p2, vu, vu, vu, vu, vu] [xi (5 : Int32), xr b1, xr b1]) _
    refine st17 _ ?_
    show own_S p e below T17 (mkF m 40 #[vi p1, vi p2, vu, vu, vu, vu, vu] [xr u5, xi (5 : Int32), xr b1, xr b1]) _
    refine st19 _ ?_
    show own_S p e below T19 (mkF m 41 #[vi p1, vi p2, vu, vu, vu, vu, vu] [xr b1]) _
    refine XS.astoreN X19.here hx rfl (hb hby at_41) rfl rfl (l' := #[vi p1, vi p2, vr b1, vu, vu, vu, vu]) rfl ?_
    show own_S p e below T19 (mkF m 42 #[vi p1, vi p2, vr b1, vu, vu, vu, vu] []) _
    refine XS.bipush X19.here hx rfl (hb hby at_42) ?_
    show own_S p e below T19 (mkF m 44 #[vi p1, vi p2, vr b1, vu, vu, vu, vu] [xi (6 : Int32)]) _
    refine st20 _ ?_
    show own_S p e below T20 (mkF m 46 #[vi p1, vi p2, vr b1, vu, vu, vu, vu] [xr b20]) _
    refine XS.dup X20.here hx rfl (hb hby at_46) rfl rfl ?_
    show own_S p e below T20 (mkF m 47 #[vi p1, vi p2, vr b1, vu, vu, vu, vu] [xr b20, xr b20]) _
    refine XS.iconst X20.here hx rfl (hb hby at_47) ?_
    show own_S p e below T20 (mkF m 48 #[vi p1, vi p2, vr b1, vu, vu, vu, vu] [xi (0 : Int32), xr b20, xr b20]) _
    refine XS.iconst X20.here hx rfl (hb hby at_48) ?_
    show own_S p e below T20 (mkF m 49 #[vi p1, vi p2, vr b1, vu, vu, vu, vu] [xi (2 : Int32), xi (0 : Int32), xr b20, xr b20]) _
    refine st22 _ ?_
    show own_S p e below T22 (mkF m 50 #[vi p1, vi p2, vr b1, vu, vu, vu, vu] [xr b20]) _
    refine XS.dup X22.here hx rfl (hb hby at_50) rfl rfl ?_
    show own_S p e below T22 (mkF m 51 #[vi p1, vi p2, vr b1, vu, vu, vu, vu] [xr b20, xr b20]) _
    refine XS.iconst X22.here hx rfl (hb hby at_51) ?_
    show own_S p e below T22 (mkF m 52 #[vi p1, vi p2, vr b1, vu, vu, vu, vu] [xi (1 : Int32), xr b20, xr b20]) _
    refine XS.iconst X22.here hx rfl (hb hby at_52) ?_
    show own_S p e below T22 (mkF m 53 #[vi p1, vi p2, vr b1, vu, vu, vu, vu] [xi (5 : Int32), xi (1 : Int32), xr b20, xr b20]) _
    refine st24 _ ?_
    show own_S p e below T24 (mkF m 54 #[vi p1, vi p2, vr b1, vu, vu, vu, vu] [xr b20]) _
    refine XS.dup X24.here hx rfl (hb hby at_54) rfl rfl ?_
    show own_S p e below T24 (mkF m 55 #[vi p1, vi p2, vr b1, vu, vu, vu, vu] [xr b20, xr b20]) _
    refine XS.iconst X24.here hx rfl (hb hby at_55) ?_
    show own_S p e below T24 (mkF m 56 #[vi p1, vi p2, vr b1, vu, vu, vu, vu] [xi (2 : Int32), xr b20, xr b20]) _
    refine XS.iconst X24.here hx rfl (hb hby at_56) ?_
    show own_S p e below T24 (mkF m 57 #[vi p1, vi p2, vr b1, vu, vu, vu, vu] [xi (1 : Int32), xi (2 : Int32), xr b20, xr b20]) _
    refine st26 _ ?_
    show own_S p e below T26 (mkF m 58 #[vi p1, vi p2, vr b1, vu, vu, vu, vu] [xr b20]) _
    refine XS.dup X26.here hx rfl (hb hby at_58) rfl rfl ?_
    show own_S p e below T26 (mkF m 59 #[vi p1, vi p2, vr b1, vu, vu, vu, vu] [xr b20, xr b20]) _
    refine XS.iconst X26.here hx rfl (hb hby at_59) ?_
    show own_S p e below T26 (mkF m 60 #[vi p1, vi p2, vr b1, vu, vu, vu, vu] [xi (3 : Int32), xr b20, xr b20]) _
    refine XS.iconst X26.here hx rfl (hb hby at_60) ?_
    show own_S p e below T26 (mkF m 61 #[vi p1, vi p2, vr b1, vu, vu, vu, vu] [xi (3 : Int32), xi (3 : Int32), xr b20, xr b20]) _
    refine st28 _ ?_
    show own_S p e below T28 (mkF m 62 #[vi p1, vi p2, vr b1, vu, vu, vu, vu] [xr b20]) _
    refine XS.dup X28.here hx rfl (hb hby at_62) rfl rfl ?_
    show own_S p e below T28 (mkF m 63 #[vi p1, vi p2, vr b1, vu, vu, vu, vu] [xr b20, xr b20]) _
    refine XS.iconst X28.here hx rfl (hb hby at_63) ?_
    show own_S p e below T28 (mkF m 64 #[vi p1, vi p2, vr b1, vu, vu, vu, vu] [xi (4 : Int32), xr b20, xr b20]) _
    refine XS.iconst X28.here hx rfl (hb hby at_64) ?_
    show own_S p e below T28 (mkF m 65 #[vi p1, vi p2, vr b1, vu, vu, vu, vu] [xi (4 : Int32), xi (4 : Int32), xr b20, xr b20]) _
    refine st30 _ ?_
    show own_S p e below T30 (mkF m 66 #[vi p1, vi p2, vr b1, vu, vu, vu, vu] [xr b20]) _
    refine XS.dup X30.here hx rfl (hb hby at_66) rfl rfl ?_
    show own_S p e below T30 (mkF m 67 #[vi p1, vi p2, vr b1, vu, vu, vu, vu] [xr b20, xr b20]) _
    refine XS.iconst X30.here hx rfl (hb hby at_67) ?_
    show own_S p e below T30 (mkF m 68 #[vi p1, vi p2, vr b1, vu, vu, vu, vu] [xi (5 : Int32), xr b20, xr b20]) _
    refine XS.bipush X30.here hx rfl (hb hby at_68) ?_
    show own_S p e below T30 (mkF m 70 #[vi p1, vi p2, vr b1, vu, vu, vu, vu] [xi (6 : Int32), xi (5 : Int32), xr b20, xr b20]) _
    refine st32 _ ?_
    show own_S p e below T32 (mkF m 71 #[vi p1, vi p2, vr b1, vu, vu, vu, vu] [xr b20]) _
    refine XS.astoreN X32.here hx rfl (hb hby at_71) rfl rfl (l' := #[vi p1, vi p2, vr b1, vr b20, vu, vu, vu]) rfl ?_
    show own_S p e below T32 (mkF m 72 #[vi p1, vi p2, vr b1, vr b20, vu, vu, vu] []) _
    refine XS.iloadN X32.here hx rfl (hb hby at_72) rfl ?_
    show own_S p e below T32 (mkF m 73 #[vi p1, vi p2, vr b1, vr b20, vu, vu, vu] [xi p1]) _
    refine X32.ldcI hx hown (mvT hZ (ww hw 17 rfl)) (g := (mkF m 73 #[vi p1, vi p2, vr b1, vr b20, vu, vu, vu] [xi p1])) rfl (hb hby at_73) ?_
    show own_S p e below T32 (mkF m 75 #[vi p1, vi p2, vr b1, vr b20, vu, vu, vu] [xi (2147483647 : Int32), xi p1]) _
    refine XS.iand X32.here hx rfl (hb hby at_75) rfl ?_
    show own_S p e below T32 (mkF m 76 #[vi p1, vi p2, vr b1, vr b20, vu, vu, vu] [xi (p1 &&& (2147483647 : Int32))]) _
    show own_S p e below T32 (mkF m 76 #[vi p1, vi p2, vr b1, vr b20, vu, vu, vu] [xi (p1 &&& (2147483647 : Int32))]) _
    refine XS.bipush X32.here hx rfl (hb hby at_76) ?_
    show own_S p e below T32 (mkF m 78 #[vi p1, vi p2, vr b1, vr b20, vu, vu, vu] [xi (6 : Int32), xi (p1 &&& (2147483647 : Int32))]) _
    refine XS.irem X32.here hx rfl (hb hby at_78) rfl (by decide) ?_
    show own_S p e below T32 (mkF m 79 #[vi p1, vi p2, vr b1, vr b20, vu, vu, vu] [xi ((p1 &&& (2147483647 : Int32)) - ((p1 &&& (2147483647 : Int32)) / (6 : Int32)) * (6 : Int32))]) _
    refine castTop (show (mkF m 79 #[vi p1, vi p2, vr b1, vr b20, vu, vu, vu] [xi ((p1 &&& (2147483647 : Int32)) - ((p1 &&& (2147483647 : Int32)) / (6 : Int32)) * (6 : Int32))]) = (mkF m 79 #[vi p1, vi p2, vr b1, vr b20, vu, vu, vu] [xi (3 : Int32)]) from by rw [as15]) ?_
    show own_S p e below T32 (mkF m 79 #[vi p1, vi p2, vr b1, vr b20, vu, vu, vu] [xi (3 : Int32)]) _
    refine XS.istore X32.here hx rfl (hb hby at_79) rfl (l' := #[vi p1, vi p2, vr b1, vr b20, vi (3 : Int32), vu, vu]) rfl ?_
    show own_S p e below T32 (mkF m 81 #[vi p1, vi p2, vr b1, vr b20, vi (3 : Int32), vu, vu] []) _
    refine XS.iloadN X32.here hx rfl (hb hby at_81) rfl ?_
    show own_S p e below T32 (mkF m 82 #[vi p1, vi p2, vr b1, vr b20, vi (3 : Int32), vu, vu] [xi p2]) _
    refine XS.ifNo X32.here hx rfl (hb hby at_82) rfl as1 ?_
    show own_S p e below T32 (mkF m 85 #[vi p1, vi p2, vr b1, vr b20, vi (3 : Int32), vu, vu] []) _
    refine XS.iconst X32.here hx rfl (hb hby at_85) ?_
    show own_S p e below T32 (mkF m 86 #[vi p1, vi p2, vr b1, vr b20, vi (3 : Int32), vu, vu] [xi (0 : Int32)]) _
    refine XS.istore X32.here hx rfl (hb hby at_86) rfl (l' := #[vi p1, vi p2, vr b1, vr b20, vi (3 : Int32), vi (0 : Int32), vu]) rfl ?_
    show own_S p e below T32 (mkF m 88 #[vi p1, vi p2, vr b1, vr b20, vi (3 : Int32), vi (0 : Int32), vu] []) _
    refine XS.goto X32.here hx rfl (pc0 := 88) (pc' := 104) rfl (hb hby at_88) (by decide) (by decide) ?_
    show own_S p e below T32 (mkF m 104 #[vi p1, vi p2, vr b1, vr b20, vi (3 : Int32), vi (0 : Int32), vu] []) _
    refine XS.aloadN X32.here hx rfl (hb hby at_104) rfl rfl ?_
    show own_S p e below T32 (mkF m 105 #[vi p1, vi p2, vr b1, vr b20, vi (3 : Int32), vi (0 : Int32), vu] [xr b20]) _
    refine XS.iload X32.here hx rfl (hb hby at_105) rfl ?_
    show own_S p e below T32 (mkF m 107 #[vi p1, vi p2, vr b1, vr b20, vi (3 : Int32), vi (0 : Int32), vu] [xi (3 : Int32), xr b20]) _
    refine X32.iaload hx (j := (3 : Int32)) (v := (xi (3 : Int32))) (by rw [e32]; exact Ar33.1) (State.isArrayOf_alike hZ.alike Ar33.2.1) Ar33.2.2 hin33 hat33 (g := (mkF m 107 #[vi p1, vi p2, vr b1, vr b20, vi (3 : Int32), vi (0 : Int32), vu] [xi (3 : Int32), xr b20])) rfl rfl (hb hby at_107) _ ?_
    show own_S p e below T32 (mkF m 108 #[vi p1, vi p2, vr b1, vr b20, vi (3 : Int32), vi (0 : Int32), vu] [xi (3 : Int32)]) _
    refine XS.iload X32.here hx rfl (hb hby at_108) rfl ?_
    show own_S p e below T32 (mkF m 110 #[vi p1, vi p2, vr b1, vr b20, vi (3 : Int32), vi (0 : Int32), vu] [xi (0 : Int32), xi (3 : Int32)]) _
    refine XS.ishr X32.here hx rfl (hb hby at_110) rfl ?_
    show own_S p e below T32 (mkF m 111 #[vi p1, vi p2, vr b1, vr b20, vi (3 : Int32), vi (0 : Int32), vu] [xi ((3 : Int32) >>> ((0 : Int32) &&& 31))]) _
    refine castTop (show (mkF m 111 #[vi p1, vi p2, vr b1, vr b20, vi (3 : Int32), vi (0 : Int32), vu] [xi ((3 : Int32) >>> ((0 : Int32) &&& 31))]) = (mkF m 111 #[vi p1, vi p2, vr b1, vr b20, vi (3 : Int32), vi (0 : Int32), vu] [xi (3 : Int32)]) from by rw [show ((3 : Int32) >>> ((0 : Int32) &&& 31)) = (3 : Int32) from by decide]) ?_
    show own_S p e below T32 (mkF m 111 #[vi p1, vi p2, vr b1, vr b20, vi (3 : Int32), vi (0 : Int32), vu] [xi (3 : Int32)]) _
    refine XS.iconst X32.here hx rfl (hb hby at_111) ?_
    show own_S p e below T32 (mkF m 112 #[vi p1, vi p2, vr b1, vr b20, vi (3 : Int32), vi (0 : Int32), vu] [xi (1 : Int32), xi (3 : Int32)]) _
    refine XS.iand X32.here hx rfl (hb hby at_112) rfl ?_
    show own_S p e below T32 (mkF m 113 #[vi p1, vi p2, vr b1, vr b20, vi (3 : Int32), vi (0 : Int32), vu] [xi ((3 : Int32) &&& (1 : Int32))]) _
    refine castTop (show (mkF m 113 #[vi p1, vi p2, vr b1, vr b20, vi (3 : Int32), vi (0 : Int32), vu] [xi ((3 : Int32) &&& (1 : Int32))]) = (mkF m 113 #[vi p1, vi p2, vr b1, vr b20, vi (3 : Int32), vi (0 : Int32), vu] [xi (1 : Int32)]) from by rw [show ((3 : Int32) &&& (1 : Int32)) = (1 : Int32) from by decide]) ?_
    show own_S p e below T32 (mkF m 113 #[vi p1, vi p2, vr b1, vr b20, vi (3 : Int32), vi (0 : Int32), vu] [xi (1 : Int32)]) _
    refine XS.ifNo X32.here hx rfl (hb hby at_113) rfl (by decide) ?_
    show own_S p e below T32 (mkF m 116 #[vi p1, vi p2, vr b1, vr b20, vi (3 : Int32), vi (0 : Int32), vu] []) _
    refine XS.iconst X32.here hx rfl (hb hby at_116) ?_
    show own_S p e below T32 (mkF m 117 #[vi p1, vi p2, vr b1, vr b20, vi (3 : Int32), vi (0 : Int32), vu] [xi (1 : Int32)]) _
    refine XS.goto X32.here hx rfl (pc0 := 117) (pc' := 121) rfl (hb hby at_117) (by decide) (by decide) ?_
    show own_S p e below T32 (mkF m 121 #[vi p1, vi p2, vr b1, vr b20, vi (3 : Int32), vi (0 : Int32), vu] [xi (1 : Int32)]) _
    refine XS.istore X32.here hx rfl (hb hby at_121) rfl (l' := #[vi p1, vi p2, vr b1, vr b20, vi (3 : Int32), vi (0 : Int32), vi (1 : Int32)]) rfl ?_
    show own_S p e below T32 (mkF m 123 #[vi p1, vi p2, vr b1, vr b20, vi (3 : Int32), vi (0 : Int32), vi (1 : Int32)] []) _
    refine XS.aloadN X32.here hx rfl (hb hby at_123) rfl rfl ?_
    show own_S p e below T32 (mkF m 124 #[vi p1, vi p2, vr b1, vr b20, vi (3 : Int32), vi (0 : Int32), vi (1 : Int32)] [xr b1]) _
    refine XS.iload X32.here hx rfl (hb hby at_124) rfl ?_
    show own_S p e below T32 (mkF m 126 #[vi p1, vi p2, vr b1, vr b20, vi (3 : Int32), vi (0 : Int32), vi (1 : Int32)] [xi (3 : Int32), xr b1]) _
    refine X32.aaload hx (j := (3 : Int32)) (v := (xr u3)) (by rw [e32]; exact Ar34.1) (State.isArrayOf_alike hZ.alike Ar34.2.1) rfl Ar34.2.2 hin34 hat34 (g := (mkF m 126 #[vi p1, vi p2, vr b1, vr b20, vi (3 : Int32), vi (0 : Int32), vi (1 : Int32)] [xi (3 : Int32), xr b1])) rfl rfl (hb hby at_126) _ ?_
    show own_S p e below T32 (mkF m 127 #[vi p1, vi p2, vr b1, vr b20, vi (3 : Int32), vi (0 : Int32), vi (1 : Int32)] [xr u3]) _
    refine XS.iloadN X32.here hx rfl (hb hby at_127) rfl ?_
    show own_S p e below T32 (mkF m 128 #[vi p1, vi p2, vr b1, vr b20, vi (3 : Int32), vi (0 : Int32), vi (1 : Int32)] [xi p2, xr u3]) _
    refine st35.trans ?_
    show own_S p e below T35 (mkF m 131 #[vi p1, vi p2, vr b1, vr b20, vi (3 : Int32), vi (0 : Int32), vi (1 : Int32)] [xi (1 : Int32)]) _
    refine XS.iload X35.here hx rfl (hb hby at_131) rfl ?_
    show own_S p e below T35 (mkF m 133 #[vi p1, vi p2, vr b1, vr b20, vi (3 : Int32), vi (0 : Int32), vi (1 : Int32)] [xi (1 : Int32), xi (1 : Int32)]) _
    refine XS.icmpNo X35.here hx rfl (hb hby at_133) rfl (by decide) ?_
    show own_S p e below T35 (mkF m 136 #[vi p1, vi p2, vr b1, vr b20, vi (3 : Int32), vi (0 : Int32), vi (1 : Int32)] []) _
    refine XS.iconst X35.here hx rfl (hb hby at_136) ?_
    show own_S p e below T35 (mkF m 137 #[vi p1, vi p2, vr b1, vr b20, vi (3 : Int32), vi (0 : Int32), vi (1 : Int32)] [xi (1 : Int32)]) _
    refine XS.goto X35.here hx rfl (pc0 := 137) (pc' := 141) rfl (hb hby at_137) (by decide) (by decide) ?_
    show own_S p e below T35 (mkF m 141 #[vi p1, vi p2, vr b1, vr b20, vi (3 : Int32), vi (0 : Int32), vi (1 : Int32)] [xi (1 : Int32)]) _
    exact retN X35 hx (t := .boolean) Bd.returns (by simp) (hb hby at_141) hr
  · exact ⟨rfl, N35⟩
theorem ef_own_l10 (m : MethodId) (u0 u1 u2 u3 u4 u5 : Addr) (p1 : Int32) (p2 : Int32) : entryFrame m #[xi p1, xi p2] maxLocals = (mkF m 0 #[vi p1, vi p2, vu, vu, vu, vu, vu] []) := by first | (simp [entryFrame, mkF, argsToLocals, Value.category, maxLocals]; done) | rfl
set_option maxRecDepth 65536 in
set_option maxHeartbeats 40000000 in
theorem own_l10 (l : Launch) (Z : State) (a0 : Array Value) (hw : ∀ d ∈ tables_1, d.before a0 Z = true) (u0 u1 u2 u3 u4 u5 : Addr) (G : own_St Z u0 u1 u2 u3 u4 u5) (p1 : Int32) (p2 : Int32) (as15 : ((p1 &&& (2147483647 : Int32)) - ((p1 &&& (2147483647 : Int32)) / (6 : Int32)) * (6 : Int32)) = (3 : Int32)) (as7 : ifCond.holds .ge p2 = true) (as9 : ifCond.holds .ne p2 = false) (as4 : ifCond.holds .gt p2 = false) (h0 : Heap) (n0 : Nat) (O0 : Old Z n0 h0) : own_Met l Z x code maxLocals ret room_1 #[xi p1, xi p2] h0 (own_QL (some (xi (1 : Int32))) n0) := by
  intro ws
  refine MetFree.of_bodySF (plainFor_of_name pn2) hisR ?_
  intro p e s m args below meth c s₁ Bd hml0 hP hK
  obtain ⟨rfl, hZ, hh⟩ := hP
  have hx := Bd.exec
  have hby := Bd.bytes
  have hml : c.maxLocals = 7 := hml0
  have hown : s.vm.findClass "com/example/whyle/whyle/cfa/RelationHoldsPinLaw" = some m.cls := findClass_of_methodNamed Bd.named
  have hnm := (name_of_methodNamed Bd.named Bd.method).1
  have X0 : Stand p l e room_1 s m #[xi p1, xi p2] below meth c s₁ [] 0 0 := Stand.of_body Bd
  have e0 : s₁.heap = h0 := by rw [← hh, Bd.state]; rfl
  have N0 := Fr.nil n0
  have pre0 : ∀ t, Steps p.tables e below (s₁.setTop (mkF m 0 #[vi p1, vi p2, vu, vu, vu, vu, vu] [])) t → Steps p.tables e below (s₁.setTop (entryFrame m #[xi p1, xi p2] maxLocals)) t := fun t st => castTop (ef_own_l10 m u0 u1 u2 u3 u4 u5 p1 p2) st
  obtain ⟨T1, h1, k1, X1, e1, E1, A1, Ov1, st1⟩ := newR X0 hx hZ hown (ww hw 0 rfl) (ww hw 1 rfl) e0 (g := (mkF m 2 #[vi p1, vi p2, vu, vu, vu, vu, vu] [xi (6 : Int32)])) rfl (hb hby at_2) rfl (by decide) (cap := 6) (by decide) (by decide) (by decide) (by decide)
  obtain ⟨b1, g1⟩ : ∃ z, z = h0.size := ⟨_, rfl⟩
  rw [← g1] at A1 st1
  have g_b1 : n0 ≤ b1 := own_fresh O0 g1
  have O1 : Old Z n0 h1 := O0.ext E1
  have V_b1 : Arv Z h1 b1 k1 (.object "com/example/whyle/whyle/cfa/Relation") (6 : Int32) [.null, .null, .null, .null, .null, .null] .null := (Arv.new A1 (by decide)).pad (pad_rep [] .null 6)
  obtain ⟨T2, X2, e2, st2⟩ := getS2 X1 hx hZ hown (host := "") (Or.inl (ww hw 2 rfl)) Via.refl e1 ((own_S_u0 G).ext O1.2) (g := (mkF m 7 #[vi p1, vi p2, vu, vu, vu, vu, vu] [xi (0 : Int32), xr b1, xr b1])) rfl (hb hby at_7)
  obtain ⟨cl3, Ar3, q3, S3, N3_, H3, G3⟩ := V_b1
  have hin3 : ¬ ((0 : Int32) < 0 ∨ cl3.slots.size ≤ ((0 : Int32)).toNatClampNeg) := inb_of S3 ⟨by decide, by decide⟩
  obtain ⟨T4, h4, X4, e4, W4, st4⟩ := stR X2 hx hZ e2 Ar3 (j := (0 : Int32)) hin3 rfl (Sto.ofV Ar3 q3 Ov1 (Ins.self ((own_X_u0 G).ext O1.2))) (g := (mkF m 10 #[vi p1, vi p2, vu, vu, vu, vu, vu] [xr u0, xi (0 : Int32), xr b1, xr b1])) rfl rfl (hb hby at_10)
  have V_b1_4 : Arv Z h4 b1 k1 (.object "com/example/whyle/whyle/cfa/Relation") (6 : Int32) [xr u0, .null, .null, .null, .null, .null] .null := Arv.set Ar3 q3 S3 N3_ H3 G3 rfl W4 0 rfl (Nat.le_of_ble_eq_true rfl)
  have O4 : Old Z n0 h4 := O1.wr W4 g_b1
  have N4 := Fr.snoc X4 N0 g_b1
  obtain ⟨T5, X5, e5, st5⟩ := getS2 X4 hx hZ hown (host := "") (Or.inl (ww hw 6 rfl)) Via.refl e4 ((own_S_u1 G).ext O4.2) (g := (mkF m 13 #[vi p1, vi p2, vu, vu, vu, vu, vu] [xi (1 : Int32), xr b1, xr b1])) rfl (hb hby at_13)
  obtain ⟨cl6, Ar6, q6, S6, N6_, H6, G6⟩ := V_b1_4
  have hin6 : ¬ ((1 : Int32) < 0 ∨ cl6.slots.size ≤ ((1 : Int32)).toNatClampNeg) := inb_of S6 ⟨by decide, by decide⟩
  obtain ⟨T7, h7, X7, e7, W7, st7⟩ := stR X5 hx hZ e5 Ar6 (j := (1 : Int32)) hin6 rfl (Sto.ofV Ar6 q6 Ov1 (Ins.self ((own_X_u1 G).ext O4.2))) (g := (mkF m 16 #[vi p1, vi p2, vu, vu, vu, vu, vu] [xr u1, xi (1 : Int32), xr b1, xr b1])) rfl rfl (hb hby at_16)
  have V_b1_7 : Arv Z h7 b1 k1 (.object "com/example/whyle/whyle/cfa/Relation") (6 : Int32) [xr u0, xr u1, .null, .null, .null, .null] .null := Arv.set Ar6 q6 S6 N6_ H6 G6 rfl W7 1 rfl (Nat.le_of_ble_eq_true rfl)
  have O7 : Old Z n0 h7 := O4.wr W7 g_b1
  have N7 := Fr.snoc X7 N4 g_b1
  obtain ⟨T8, X8, e8, st8⟩ := getS2 X7 hx hZ hown (host := "") (Or.inl (ww hw 8 rfl)) Via.refl e7 ((own_S_u2 G).ext O7.2) (g := (mkF m 19 #[vi p1, vi p2, vu, vu, vu, vu, vu] [xi (2 : Int32), xr b1, xr b1])) rfl (hb hby at_19)
  obtain ⟨cl9, Ar9, q9, S9, N9_, H9, G9⟩ := V_b1_7
  have hin9 : ¬ ((2 : Int32) < 0 ∨ cl9.slots.size ≤ ((2 : Int32)).toNatClampNeg) := inb_of S9 ⟨by decide, by decide⟩
  obtain ⟨T10, h10, X10, e10, W10, st10⟩ := stR X8 hx hZ e8 Ar9 (j := (2 : Int32)) hin9 rfl (Sto.ofV Ar9 q9 Ov1 (Ins.self ((own_X_u2 G).ext O7.2))) (g := (mkF m 22 #[vi p1, vi p2, vu, vu, vu, vu, vu] [xr u2, xi (2 : Int32), xr b1, xr b1])) rfl rfl (hb hby at_22)
  have V_b1_10 : Arv Z h10 b1 k1 (.object "com/example/whyle/whyle/cfa/Relation") (6 : Int32) [xr u0, xr u1, xr u2, .null, .null, .null] .null := Arv.set Ar9 q9 S9 N9_ H9 G9 rfl W10 2 rfl (Nat.le_of_ble_eq_true rfl)
  have O10 : Old Z n0 h10 := O7.wr W10 g_b1
  have N10 := Fr.snoc X10 N7 g_b1
  obtain ⟨T11, X11, e11, st11⟩ := getS2 X10 hx hZ hown (host := "") (Or.inl (ww hw 10 rfl)) Via.refl e10 ((own_S_u3 G).ext O10.2) (g := (mkF m 25 #[vi p1, vi p2, vu, vu, vu, vu, vu] [xi (3 : Int32), xr b1, xr b1])) rfl (hb hby at_25)
  obtain ⟨cl12, Ar12, q12, S12, N12_, H12, G12⟩ := V_b1_10
  have hin12 : ¬ ((3 : Int32) < 0 ∨ cl12.slots.size ≤ ((3 : Int32)).toNatClampNeg) := inb_of S12 ⟨by decide, by decide⟩
  obtain ⟨T13, h13, X13, e13, W13, st13⟩ := stR X11 hx hZ e11 Ar12 (j := (3 : Int32)) hin12 rfl (Sto.ofV Ar12 q12 Ov1 (Ins.self ((own_X_u3 G).ext O10.2))) (g := (mkF m 28 #[vi p1, vi p2, vu, vu, vu, vu, vu] [xr u3, xi (3 : Int32), xr b1, xr b1])) rfl rfl (hb hby at_28)
  have V_b1_13 : Arv Z h13 b1 k1 (.object "com/example/whyle/whyle/cfa/Relation") (6 : Int32) [xr u0, xr u1, xr u2, xr u3, .null, .null] .null := Arv.set Ar12 q12 S12 N12_ H12 G12 rfl W13 3 rfl (Nat.le_of_ble_eq_true rfl)
  have O13 : Old Z n0 h13 := O10.wr W13 g_b1
  have N13 := Fr.snoc X13 N10 g_b1
  obtain ⟨T14, X14, e14, st14⟩ := getS2 X13 hx hZ hown (host := "") (Or.inl (ww hw 12 rfl)) Via.refl e13 ((own_S_u4 G).ext O13.2) (g := (mkF m 31 #[vi p1, vi p2, vu, vu, vu, vu, vu] [xi (4 : Int32), xr b1, xr b1])) rfl (hb hby at_31)
  obtain ⟨cl15, Ar15, q15, S15, N15_, H15, G15⟩ := V_b1_13
  have hin15 : ¬ ((4 : Int32) < 0 ∨ cl15.slots.size ≤ ((4 : Int32)).toNatClampNeg) := inb_of S15 ⟨by decide, by decide⟩
  obtain ⟨T16, h16, X16, e16, W16, st16⟩ := stR X14 hx hZ e14 Ar15 (j := (4 : Int32)) hin15 rfl (Sto.ofV Ar15 q15 Ov1 (Ins.self ((own_X_u4 G).ext O13.2))) (g := (mkF m 34 #[vi p1, vi p2, vu, vu, vu, vu, vu] [xr u4, xi (4 : Int32), xr b1, xr b1])) rfl rfl (hb hby at_34)
  have V_b1_16 : Arv Z h16 b1 k1 (.object "com/example/whyle/whyle/cfa/Relation") (6 : Int32) [xr u0, xr u1, xr u2, xr u3, xr u4, .null] .null := Arv.set Ar15 q15 S15 N15_ H15 G15 rfl W16 4 rfl (Nat.le_of_ble_eq_true rfl)
  have O16 : Old Z n0 h16 := O13.wr W16 g_b1
  have N16 := Fr.snoc X16 N13 g_b1
  obtain ⟨T17, X17, e17, st17⟩ := getS2 X16 hx hZ hown (host := "") (Or.inl (ww hw 14 rfl)) Via.refl e16 ((own_S_u5 G).ext O16.2) (g := (mkF m 37 #[vi p1, vi p2, vu, vu, vu, vu, vu] [xi (5 : Int32), xr b1, xr b1])) rfl (hb hby at_37)
  obtain ⟨cl18, Ar18, q18, S18, N18_, H18, G18⟩ := V_b1_16
  have hin18 : ¬ ((5 : Int32) < 0 ∨ cl18.slots.size ≤ ((5 : Int32)).toNatClampNeg) := inb_of S18 ⟨by decide, by decide⟩
  obtain ⟨T19, h19, X19, e19, W19, st19⟩ := stR X17 hx hZ e17 Ar18 (j := (5 : Int32)) hin18 rfl (Sto.ofV Ar18 q18 Ov1 (Ins.self ((own_X_u5 G).ext O16.2))) (g := (mkF m 40 #[vi p1, vi p2, vu, vu, vu, vu, vu] [xr u5, xi (5 : Int32), xr b1, xr b1])) rfl rfl (hb hby at_40)
  have V_b1_19 : Arv Z h19 b1 k1 (.object "com/example/whyle/whyle/cfa/Relation") (6 : Int32) [xr u0, xr u1, xr u2, xr u3, xr u4, xr u5] .null := Arv.set Ar18 q18 S18 N18_ H18 G18 rfl W19 5 rfl (Nat.le_of_ble_eq_true rfl)
  have O19 : Old Z n0 h19 := O16.wr W19 g_b1
  have N19 := Fr.snoc X19 N16 g_b1
  obtain ⟨T20, h20, k20, X20, e20, E20, A20, st20⟩ := newP X19 hx hZ (ww hw 16 rfl) e19 (g := (mkF m 44 #[vi p1, vi p2, vr b1, vu, vu, vu, vu] [xi (6 : Int32)])) rfl (hb hby at_44) rfl (by decide) (cap := 6) (by decide) (by decide) (by decide) (by decide)
  obtain ⟨b20, g20⟩ : ∃ z, z = h19.size := ⟨_, rfl⟩
  rw [← g20] at A20 st20
  have g_b20 : n0 ≤ b20 := own_fresh O19 g20
  have ne_b1_b20 : b1 ≠ b20 := Nat.ne_of_lt (Nat.lt_of_lt_of_le (V_b1_19).lt (Nat.le_of_eq g20.symm))
  have O20 : Old Z n0 h20 := O19.ext E20
  have V_b1_20 := V_b1_19.ext E20
  have V_b20 : Arv Z h20 b20 k20 .int (6 : Int32) [(.int (0 : Int32)), (.int (0 : Int32)), (.int (0 : Int32)), (.int (0 : Int32)), (.int (0 : Int32)), (.int (0 : Int32))] (.int (0 : Int32)) := (Arv.new A20 (by decide)).pad (pad_rep [] (.int (0 : Int32)) 6)
  obtain ⟨cl21, Ar21, q21, S21, N21_, H21, G21⟩ := V_b20
  have hin21 : ¬ ((0 : Int32) < 0 ∨ cl21.slots.size ≤ ((0 : Int32)).toNatClampNeg) := inb_of S21 ⟨by decide, by decide⟩
  obtain ⟨T22, h22, X22, e22, W22, st22⟩ := stI X20 hx hZ e20 Ar21 (j := (0 : Int32)) hin21 (g := (mkF m 49 #[vi p1, vi p2, vr b1, vu, vu, vu, vu] [xi (2 : Int32), xi (0 : Int32), xr b20, xr b20])) rfl rfl (hb hby at_49)
  have V_b20_22 : Arv Z h22 b20 k20 .int (6 : Int32) [xi (2 : Int32), xi (0 : Int32), xi (0 : Int32), xi (0 : Int32), xi (0 : Int32), xi (0 : Int32)] (.int (0 : Int32)) := Arv.set Ar21 q21 S21 N21_ H21 G21 rfl W22 0 rfl (Nat.le_of_ble_eq_true rfl)
  have O22 : Old Z n0 h22 := O20.wr W22 g_b20
  have V_b1_22 := V_b1_20.other W22 ne_b1_b20
  have N22 := Fr.snoc X22 N19 g_b20
  obtain ⟨cl23, Ar23, q23, S23, N23_, H23, G23⟩ := V_b20_22
  have hin23 : ¬ ((1 : Int32) < 0 ∨ cl23.slots.size ≤ ((1 : Int32)).toNatClampNeg) := inb_of S23 ⟨by decide, by decide⟩
  obtain ⟨T24, h24, X24, e24, W24, st24⟩ := stI X22 hx hZ e22 Ar23 (j := (1 : Int32)) hin23 (g := (mkF m 53 #[vi p1, vi p2, vr b1, vu, vu, vu, vu] [xi (5 : Int32), xi (1 : Int32), xr b20, xr b20])) rfl rfl (hb hby at_53)
  have V_b20_24 : Arv Z h24 b20 k20 .int (6 : Int32) [xi (2 : Int32), xi (5 : Int32), xi (0 : Int32), xi (0 : Int32), xi (0 : Int32), xi (0 : Int32)] (.int (0 : Int32)) := Arv.set Ar23 q23 S23 N23_ H23 G23 rfl W24 1 rfl (Nat.le_of_ble_eq_true rfl)
  have O24 : Old Z n0 h24 := O22.wr W24 g_b20
  have V_b1_24 := V_b1_22.other W24 ne_b1_b20
  have N24 := Fr.snoc X24 N22 g_b20
  obtain ⟨cl25, Ar25, q25, S25, N25_, H25, G25⟩ := V_b20_24
  have hin25 : ¬ ((2 : Int32) < 0 ∨ cl25.slots.size ≤ ((2 : Int32)).toNatClampNeg) := inb_of S25 ⟨by decide, by decide⟩
  obtain ⟨T26, h26, X26, e26, W26, st26⟩ := stI X24 hx hZ e24 Ar25 (j := (2 : Int32)) hin25 (g := (mkF m 57 #[vi p1, vi p2, vr b1, vu, vu, vu, vu] [xi (1 : Int32), xi (2 : Int32), xr b20, xr b20])) rfl rfl (hb hby at_57)
  have V_b20_26 : Arv Z h26 b20 k20 .int (6 : Int32) [xi (2 : Int32), xi (5 : Int32), xi (1 : Int32), xi (0 : Int32), xi (0 : Int32), xi (0 : Int32)] (.int (0 : Int32)) := Arv.set Ar25 q25 S25 N25_ H25 G25 rfl W26 2 rfl (Nat.le_of_ble_eq_true rfl)
  have O26 : Old Z n0 h26 := O24.wr W26 g_b20
  have V_b1_26 := V_b1_24.other W26 ne_b1_b20
  have N26 := Fr.snoc X26 N24 g_b20
  obtain ⟨cl27, Ar27, q27, S27, N27_, H27, G27⟩ := V_b20_26
  have hin27 : ¬ ((3 : Int32) < 0 ∨ cl27.slots.size ≤ ((3 : Int32)).toNatClampNeg) := inb_of S27 ⟨by decide, by decide⟩
  obtain ⟨T28, h28, X28, e28, W28, st28⟩ := stI X26 hx hZ e26 Ar27 (j := (3 : Int32)) hin27 (g := (mkF m 61 #[vi p1, vi p2, vr b1, vu, vu, vu, vu] [xi (3 : Int32), xi (3 : Int32), xr b20, xr b20])) rfl rfl (hb hby at_61)
  have V_b20_28 : Arv Z h28 b20 k20 .int (6 : Int32) [xi (2 : Int32), xi (5 : Int32), xi (1 : Int32), xi (3 : Int32), xi (0 : Int32), xi (0 : Int32)] (.int (0 : Int32)) := Arv.set Ar27 q27 S27 N27_ H27 G27 rfl W28 3 rfl (Nat.le_of_ble_eq_true rfl)
  have O28 : Old Z n0 h28 := O26.wr W28 g_b20
  have V_b1_28 := V_b1_26.other W28 ne_b1_b20
  have N28 := Fr.snoc X28 N26 g_b20
  obtain ⟨cl29, Ar29, q29, S29, N29_, H29, G29⟩ := V_b20_28
  have hin29 : ¬ ((4 : Int32) < 0 ∨ cl29.slots.size ≤ ((4 : Int32)).toNatClampNeg) := inb_of S29 ⟨by decide, by decide⟩
  obtain ⟨T30, h30, X30, e30, W30, st30⟩ := stI X28 hx hZ e28 Ar29 (j := (4 : Int32)) hin29 (g := (mkF m 65 #[vi p1, vi p2, vr b1, vu, vu, vu, vu] [xi (4 : Int32), xi (4 : Int32), xr b20, xr b20])) rfl rfl (hb hby at_65)
  have V_b20_30 : Arv Z h30 b20 k20 .int (6 : Int32) [xi (2 : Int32), xi (5 : Int32), xi (1 : Int32), xi (3 : Int32), xi (4 : Int32), xi (0 : Int32)] (.int (0 : Int32)) := Arv.set Ar29 q29 S29 N29_ H29 G29 rfl W30 4 rfl (Nat.le_of_ble_eq_true rfl)
  have O30 : Old Z n0 h30 := O28.wr W30 g_b20
  have V_b1_30 := V_b1_28.other W30 ne_b1_b20
  have N30 := Fr.snoc X30 N28 g_b20
  obtain ⟨cl31, Ar31, q31, S31, N31_, H31, G31⟩ := V_b20_30
  have hin31 : ¬ ((5 : Int32) < 0 ∨ cl31.slots.size ≤ ((5 : Int32)).toNatClampNeg) := inb_of S31 ⟨by decide, by decide⟩
  obtain ⟨T32, h32, X32, e32, W32, st32⟩ := stI X30 hx hZ e30 Ar31 (j := (5 : Int32)) hin31 (g := (mkF m 70 #[vi p1, vi p2, vr b1, vu, vu, vu, vu] [xi (6 : Int32), xi (5 : Int32), xr b20, xr b20])) rfl rfl (hb hby at_70)
  have V_b20_32 : Arv Z h32 b20 k20 .int (6 : Int32) [xi (2 : Int32), xi (5 : Int32), xi (1 : Int32), xi (3 : Int32), xi (4 : Int32), xi (6 : Int32)] (.int (0 : Int32)) := Arv.set Ar31 q31 S31 N31_ H31 G31 rfl W32 5 rfl (Nat.le_of_ble_eq_true rfl)
  have O32 : Old Z n0 h32 := O30.wr W32 g_b20
  have V_b1_32 := V_b1_30.other W32 ne_b1_b20
  have N32 := Fr.snoc X32 N30 g_b20
  obtain ⟨cl33, Ar33, q33, S33, N33_, H33, G33⟩ := V_b20_32
  have hin33 : ¬ ((3 : Int32) < 0 ∨ cl33.slots.size ≤ ((3 : Int32)).toNatClampNeg) := inb_of S33 ⟨by decide, by decide⟩
  have hat33 : cl33.slots[((3 : Int32)).toNatClampNeg]? = some (xi (3 : Int32)) := Has.at H33 hin33 rfl
  obtain ⟨cl34, Ar34, q34, S34, N34_, H34, G34⟩ := V_b1_32
  have hin34 : ¬ ((3 : Int32) < 0 ∨ cl34.slots.size ≤ ((3 : Int32)).toNatClampNeg) := inb_of S34 ⟨by decide, by decide⟩
  have hat34 : cl34.slots[((3 : Int32)).toNatClampNeg]? = some (xr u3) := Has.at H34 hin34 rfl
  obtain ⟨cq35, kq35, qa35, qb35, qc35⟩ := isOf hZ e32 ((own_X_u3 G).ext O32.2)
  obtain ⟨_, _, ⟨T35, L35, k35, n35⟩, -, X35, ⟨Lc35, hQ35, l35, y35, z35⟩, st35⟩ := X32.virtualBack hx (y := Y2) (z := Y2) hown (mvT hZ (ww hw 18 rfl)) (mvT hZ (ww hw 19 rfl)) (notFace_of_selects (args := #[]) (mvT hZ (ww hw 21 rfl))) (mvT hZ (ww hw 21 rfl)) (mvT hZ (ww hw 20 rfl)) (by decide) (backOf (W := 0) (own_c9_holds l Z a0 hw u0 u1 u2 u3 u4 u5 G p2 as4 h32 n0 O32 []) hZ (ww hw 22 rfl) (ww hw 3 rfl) (by decide) (by decide)) qa35 qc35 (g := (mkF m 128 #[vi p1, vi p2, vr b1, vr b20, vi (3 : Int32), vi (1 : Int32), vi (1 : Int32)] [xi p2, xr u3])) rfl (by rw [hml]; rfl) (Steps.refl _) (argsL := [xi p2]) (rest := []) (lenOf pd1 rfl) rfl (by show 2 * 0 + _ ≤ _; exact Nat.le_of_eq rfl) (hb hby at_128) (fun _ _ => ⟨rfl, e32, (by decide : 2 + 0 ≤ _), (by decide : 12 + 0 ≤ _)⟩)
  dsimp only [Pt.U, Pt.locs, Pt.cells, Pt.slots] at X35 l35 y35 z35 st35 hQ35
  subst l35 y35 z35
  obtain ⟨rfl, Nq35, e35⟩ := hQ35
  have N35 := Fr.app N32 Nq35
  obtain ⟨fs, hr, hrun, hended, hW, hsame⟩ := X35.leave (v := some (xi (1 : Int32))) (fun h => by rw [Bd.returns] at h; cases h)
  refine ⟨_, _, pre0 _ ?_, hrun, hended, _, _, rfl, ?_, ⟨_, rfl⟩, hW, hsame.mono (by decide) (by decide)⟩
  · show own_S p e below s₁ (mkF m 0 #[vi p1, vi p2, vu, vu, vu, vu, vu] []) _
    refine XS.bipush X0.here hx rfl (hb hby at_0) ?_
    show own_S p e below s₁ (mkF m 2 #[vi p1, vi p2, vu, vu, vu, vu, vu] [xi (6 : Int32)]) _
    refine st1 _ ?_
    show own_S p e below T1 (mkF m 5 #[vi p1, vi p2, vu, vu, vu, vu, vu] [xr b1]) _
    refine XS.dup X1.here hx rfl (hb hby at_5) rfl rfl ?_
    show own_S p e below T1 (mkF m 6 #[vi p1, vi p2, vu, vu, vu, vu, vu] [xr b1, xr b1]) _
    refine XS.iconst X1.here hx rfl (hb hby at_6) ?_
    show own_S p e below T1 (mkF m 7 #[vi p1, vi p2, vu, vu, vu, vu, vu] [xi (0 : Int32), xr b1, xr b1]) _
    refine st2 _ ?_
    show own_S p e below T2 (mkF m 10 #[vi p1, vi p2, vu, vu, vu, vu, vu] [xr u0, xi (0 : Int32), xr b1, xr b1]) _
    refine st4 _ ?_
    show own_S p e below T4 (mkF m 11 #[vi p1, vi p2, vu, vu, vu, vu, vu] [xr b1]) _
    refine XS.dup X4.here hx rfl (hb hby at_11) rfl rfl ?_
    show own_S p e below T4 (mkF m 12 #[vi p1, vi p2, vu, vu, vu, vu, vu] [xr b1, xr b1]) _
    refine XS.iconst X4.here hx rfl (hb hby at_12) ?_
    show own_S p e below T4 (mkF m 13 #[vi p1, vi p2, vu, vu, vu, vu, vu] [xi (1 : Int32), xr b1, xr b1]) _
    refine st5 _ ?_
    show own_S p e below T5 (mkF m 16 #[vi p1, vi p2, vu, vu, vu, vu, vu] [xr u1, xi (1 : Int32), xr b1, xr b1]) _
    refine st7 _ ?_
    show own_S p e below T7 (mkF m 17 #[vi p1, vi p2, vu, vu, vu, vu, vu] [xr b1]) _
    refine XS.dup X7.here hx rfl (hb hby at_17) rfl rfl ?_
    show own_S p e below T7 (mkF m 18 #[vi p1, vi p2, vu, vu, vu, vu, vu] [xr b1, xr b1]) _
    refine XS.iconst X7.here hx rfl (hb hby at_18) ?_
    show own_S p e below T7 (mkF m 19 #[vi p1, vi p2, vu, vu, vu, vu, vu] [xi (2 : Int32), xr b1, xr b1]) _
    refine st8 _ ?_
    show own_S p e below T8 (mkF m 22 #[vi p1, vi p2, vu, vu, vu, vu, vu] [xr u2, xi (2 : Int32), xr b1, xr b1]) _
    refine st10 _ ?_
    show own_S p e below T10 (mkF m 23 #[vi p1, vi p2, vu, vu, vu, vu, vu] [xr b1]) _
    refine XS.dup X10.here hx rfl (hb hby at_23) rfl rfl ?_
    show own_S p e below T10 (mkF m 24 #[vi p1, vi p2, vu, vu, vu, vu, vu] [xr b1, xr b1]) _
    refine XS.iconst X10.here hx rfl (hb hby at_24) ?_
    show own_S p e below T10 (mkF m 25 #[vi p1, vi p2, vu, vu, vu, vu, vu] [xi (3 : Int32), xr b1, xr b1]) _
    refine st11 _ ?_
    show own_S p e below T11 (mkF m 28 #[vi p1, vi p2, vu, vu, vu, vu, vu] [xr u3, xi (3 : Int32), xr b1, xr b1]) _
    refine st13 _ ?_
    show own_S p e below T13 (mkF m 29 #[vi p1, vi p2, vu, vu, vu, vu, vu] [xr b1]) _
    refine XS.dup X13.here hx rfl (hb hby at_29) rfl rfl ?_
    show own_S p e below T13 (mkF m 30 #[vi p1, vi p2, vu, vu, vu, vu, vu] [xr b1, xr b1]) _
    refine XS.iconst X13.here hx rfl (hb hby at_30) ?_
    show own_S p e below T13 (mkF m 31 #[vi p1, vi p2, vu, vu, vu, vu, vu] [xi (4 : Int32), xr b1, xr b1]) _
    refine st14 _ ?_
    show own_S p e below T14 (mkF m 34 #[vi p1, vi p2, vu, vu, vu, vu, vu] [xr u4, xi (4 : Int32), xr b1, xr b1]) _
    refine st16 _ ?_
    show own_S p e below T16 (mkF m 35 #[vi p1, vi p2, vu, vu, vu, vu, vu] [xr b1]) _
    refine XS.dup X16.here hx rfl (hb hby at_35) rfl rfl ?_
    show own_S p e below T16 (mkF m 36 #[vi p1, vi p2, vu, vu, vu, vu, vu] [xr b1, xr b1]) _
    refine XS.iconst X16.here hx rfl (hb hby at_36) ?_
    show own_S p e below T16 (mkF m 37 #[vi p1, vi p2, vu, vu, vu, vu, vu] [xi (5 : Int32), xr b1, xr b1]) _
    refine st17 _ ?_
    show own_S p e below T17 (mkF m 40 #[vi p1, vi p2, vu, vu, vu, vu, vu] [xr u5, xi (5 : Int32), xr b1, xr b1]) _
    refine st19 _ ?_
    show own_S p e below T19 (mkF m 41 #[vi p1, vi p2, vu, vu, vu, vu, vu] [xr b1]) _
    refine XS.astoreN X19.here hx rfl (hb hby at_41) rfl rfl (l' := #[vi p1, vi p2, vr b1, vu, vu, vu, vu]) rfl ?_
    show own_S p e below T19 (mkF m 42 #[vi p1, vi p2, vr b1, vu, vu, vu, vu] []) _
    refine XS.bipush X19.here hx rfl (hb hby at_42) ?_
    show own_S p e below T19 (mkF m 44 #[vi p1, vi p2, vr b1, vu, vu, vu, vu] [xi (6 : Int32)]) _
    refine st20 _ ?_
    show own_S p e below T20 (mkF m 46 #[vi p1, vi p2, vr b1, vu, vu, vu, vu] [xr b20]) _
    refine XS.dup X20.here hx rfl (hb hby at_46) rfl rfl ?_
    show own_S p e below T20 (mkF m 47 #[vi p1, vi p2, vr b1, vu, vu, vu, vu] [xr b20, xr b20]) _
    refine XS.iconst X20.here hx rfl (hb hby at_47) ?_
    show own_S p e below T20 (mkF m 48 #[vi p1, vi p2, vr b1, vu, vu, vu, vu] [xi (0 : Int32), xr b20, xr b20]) _
    refine XS.iconst X20.here hx rfl (hb hby at_48) ?_
    show own_S p e below T20 (mkF m 49 #[vi p1, vi p2, vr b1, vu, vu, vu, vu] [xi (2 : Int32), xi (0 : Int32), xr b20, xr b20]) _
    refine st22 _ ?_
    show own_S p e below T22 (mkF m 50 #[vi p1, vi p2, vr b1, vu, vu, vu, vu] [xr b20]) _
    refine XS.dup X22.here hx rfl (hb hby at_50) rfl rfl ?_
    show own_S p e below T22 (mkF m 51 #[vi p1, vi p2, vr b1, vu, vu, vu, vu] [xr b20, xr b20]) _
    refine XS.iconst X22.here hx rfl (hb hby at_51) ?_
    show own_S p e below T22 (mkF m 52 #[vi p1, vi p2, vr b1, vu, vu, vu, vu] [xi (1 : Int32), xr b20, xr b20]) _
    refine XS.iconst X22.here hx rfl (hb hby at_52) ?_
    show own_S p e below T22 (mkF m 53 #[vi p1, vi p2, vr b1, vu, vu, vu, vu] [xi (5 : Int32), xi (1 : Int32), xr b20, xr b20]) _
    refine st24 _ ?_
    show own_S p e below T24 (mkF m 54 #[vi p1, vi p2, vr b1, vu, vu, vu, vu] [xr b20]) _
    refine XS.dup X24.here hx rfl (hb hby at_54) rfl rfl ?_
    show own_S p e below T24 (mkF m 55 #[vi p1, vi p2, vr b1, vu, vu, vu, vu] [xr b20, xr b20]) _
    refine XS.iconst X24.here hx rfl (hb hby at_55) ?_
    show own_S p e below T24 (mkF m 56 #[vi p1, vi p2, vr b1, vu, vu, vu, vu] [xi (2 : Int32), xr b20, xr b20]) _
    refine XS.iconst X24.here hx rfl (hb hby at_56) ?_
    show own_S p e below T24 (mkF m 57 #[vi p1, vi p2, vr b1, vu, vu, vu, vu] [xi (1 : Int32), xi (2 : Int32), xr b20, xr b20]) _
    refine st26 _ ?_
    show own_S p e below T26 (mkF m 58 #[vi p1, vi p2, vr b1, vu, vu, vu, vu] [xr b20]) _
    refine XS.dup X26.here hx rfl (hb hby at_58) rfl rfl ?_
    show own_S p e below T26 (mkF m 59 #[vi p1, vi p2, vr b1, vu, vu, vu, vu] [xr b20, xr b20]) _
    refine XS.iconst X26.here hx rfl (hb hby at_59) ?_
    show own_S p e below T26 (mkF m 60 #[vi p1, vi p2, vr b1, vu, vu, vu, vu] [xi (3 : Int32), xr b20, xr b20]) _
    refine XS.iconst X26.here hx rfl (hb hby at_60) ?_
    show own_S p e below T26 (mkF m 61 #[vi p1, vi p2, vr b1, vu, vu, vu, vu] [xi (3 : Int32), xi (3 : Int32), xr b20, xr b20]) _
    refine st28 _ ?_
    show own_S p e below T28 (mkF m 62 #[vi p1, vi p2, vr b1, vu, vu, vu, vu] [xr b20]) _
    refine XS.dup X28.here hx rfl (hb hby at_62) rfl rfl ?_
    show own_S p e below T28 (mkF m 63 #[vi p1, vi p2, vr b1, vu, vu, vu, vu] [xr b20, xr b20]) _
    refine XS.iconst X28.here hx rfl (hb hby at_63) ?_
    show own_S p e below T28 (mkF m 64 #[vi p1, vi p2, vr b1, vu, vu, vu, vu] [xi (4 : Int32), xr b20, xr b20]) _
    refine XS.iconst X28.here hx rfl (hb hby at_64) ?_
    show own_S p e below T28 (mkF m 65 #[vi p1, vi p2, vr b1, vu, vu, vu, vu] [xi (4 : Int32), xi (4 : Int32), xr b20, xr b20]) _
    refine st30 _ ?_
    show own_S p e below T30 (mkF m 66 #[vi p1, vi p2, vr b1, vu, vu, vu, vu] [xr b20]) _
    refine XS.dup X30.here hx rfl (hb hby at_66) rfl rfl ?_
    show own_S p e below T30 (mkF m 67 #[vi p1, vi p2, vr b1, vu, vu, vu, vu] [xr b20, xr b20]) _
    refine XS.iconst X30.here hx rfl (hb hby at_67) ?_
    show own_S p e below T30 (mkF m 68 #[vi p1, vi p2, vr b1, vu, vu, vu, vu] [xi (5 : Int32), xr b20, xr b20]) _
    refine XS.bipush X30.here hx rfl (hb hby at_68) ?_
    show own_S p e below T30 (mkF m 70 #[vi p1, vi p2, vr b1, vu, vu, vu, vu] [xi (6 : Int32), xi (5 : Int32), xr b20, xr b20]) _
    refine st32 _ ?_
    show own_S p e below T32 (mkF m 71 #[vi p1, vi p2, vr b1, vu, vu, vu, vu] [xr b20]) _
    refine XS.astoreN X32.here hx rfl (hb hby at_71) rfl rfl (l' := #[vi p1, vi p2, vr b1, vr b20, vu, vu, vu]) rfl ?_
    show own_S p e below T32 (mkF m 72 #[vi p1, vi p2, vr b1, vr b20, vu, vu, vu] []) _
    refine XS.iloadN X32.here hx rfl (hb hby at_72) rfl ?_
    show own_S p e below T32 (mkF m 73 #[vi p1, vi p2, vr b1, vr b20, vu, vu, vu] [xi p1]) _
    refine X32.ldcI hx hown (mvT hZ (ww hw 17 rfl)) (g := (mkF m 73 #[vi p1, vi p2, vr b1, vr b20, vu, vu, vu] [xi p1])) rfl (hb hby at_73) ?_
    show own_S p e below T32 (mkF m 75 #[vi p1, vi p2, vr b1, vr b20, vu, vu, vu] [xi (2147483647 : Int32), xi p1]) _
    refine XS.iand X32.here hx rfl (hb hby at_75) rfl ?_
    show own_S p e below T32 (mkF m 76 #[vi p1, vi p2, vr b1, vr b20, vu, vu, vu] [xi (p1 &&& (2147483647 : Int32))]) _
    show own_S p e below T32 (mkF m 76 #[vi p1, vi p2, vr b1, vr b20, vu, vu, vu] [xi (p1 &&& (2147483647 : Int32))]) _
    refine XS.bipush X32.here hx rfl (hb hby at_76) ?_
    show own_S p e below T32 (mkF m 78 #[vi p1, vi p2, vr b1, vr b20, vu, vu, vu] [xi (6 : Int32), xi (p1 &&& (2147483647 : Int32))]) _
    refine XS.irem X32.here hx rfl (hb hby at_78) rfl (by decide) ?_
    show own_S p e below T32 (mkF m 79 #[vi p1, vi p2, vr b1, vr b20, vu, vu, vu] [xi ((p1 &&& (2147483647 : Int32)) - ((p1 &&& (2147483647 : Int32)) / (6 : Int32)) * (6 : Int32))]) _
    refine castTop (show (mkF m 79 #[vi p1, vi p2, vr b1, vr b20, vu, vu, vu] [xi ((p1 &&& (2147483647 : Int32)) - ((p1 &&& (2147483647 : Int32)) / (6 : Int32)) * (6 : Int32))]) = (mkF m 79 #[vi p1, vi p2, vr b1, vr b20, vu, vu, vu] [xi (3 : Int32)]) from by rw [as15]) ?_
    show own_S p e below T32 (mkF m 79 #[vi p1, vi p2, vr b1, vr b20, vu, vu, vu] [xi (3 : Int32)]) _
    refine XS.istore X32.here hx rfl (hb hby at_79) rfl (l' := #[vi p1, vi p2, vr b1, vr b20, vi (3 : Int32), vu, vu]) rfl ?_
    show own_S p e below T32 (mkF m 81 #[vi p1, vi p2, vr b1, vr b20, vi (3 : Int32), vu, vu] []) _
    refine XS.iloadN X32.here hx rfl (hb hby at_81) rfl ?_
    show own_S p e below T32 (mkF m 82 #[vi p1, vi p2, vr b1, vr b20, vi (3 : Int32), vu, vu] [xi p2]) _
    refine XS.ifYes X32.here hx rfl (pc0 := 82) (pc' := 91) rfl (hb hby at_82) rfl as7 (by decide) (by decide) ?_
    show own_S p e below T32 (mkF m 91 #[vi p1, vi p2, vr b1, vr b20, vi (3 : Int32), vu, vu] []) _
    refine XS.iloadN X32.here hx rfl (hb hby at_91) rfl ?_
    show own_S p e below T32 (mkF m 92 #[vi p1, vi p2, vr b1, vr b20, vi (3 : Int32), vu, vu] [xi p2]) _
    refine XS.ifNo X32.here hx rfl (hb hby at_92) rfl as9 ?_
    show own_S p e below T32 (mkF m 95 #[vi p1, vi p2, vr b1, vr b20, vi (3 : Int32), vu, vu] []) _
    refine XS.iconst X32.here hx rfl (hb hby at_95) ?_
    show own_S p e below T32 (mkF m 96 #[vi p1, vi p2, vr b1, vr b20, vi (3 : Int32), vu, vu] [xi (1 : Int32)]) _
    refine XS.istore X32.here hx rfl (hb hby at_96) rfl (l' := #[vi p1, vi p2, vr b1, vr b20, vi (3 : Int32), vi (1 : Int32), vu]) rfl ?_
    show own_S p e below T32 (mkF m 98 #[vi p1, vi p2, vr b1, vr b20, vi (3 : Int32), vi (1 : Int32), vu] []) _
    refine XS.goto X32.here hx rfl (pc0 := 98) (pc' := 104) rfl (hb hby at_98) (by decide) (by decide) ?_
    show own_S p e below T32 (mkF m 104 #[vi p1, vi p2, vr b1, vr b20, vi (3 : Int32), vi (1 : Int32), vu] []) _
    refine XS.aloadN X32.here hx rfl (hb hby at_104) rfl rfl ?_
    show own_S p e below T32 (mkF m 105 #[vi p1, vi p2, vr b1, vr b20, vi (3 : Int32), vi (1 : Int32), vu] [xr b20]) _
    refine XS.iload X32.here hx rfl (hb hby at_105) rfl ?_
    show own_S p e below T32 (mkF m 107 #[vi p1, vi p2, vr b1, vr b20, vi (3 : Int32), vi (1 : Int32), vu] [xi (3 : Int32), xr b20]) _
    refine X32.iaload hx (j := (3 : Int32)) (v := (xi (3 : Int32))) (by rw [e32]; exact Ar33.1) (State.isArrayOf_alike hZ.alike Ar33.2.1) Ar33.2.2 hin33 hat33 (g := (mkF m 107 #[vi p1, vi p2, vr b1, vr b20, vi (3 : Int32), vi (1 : Int32), vu] [xi (3 : Int32), xr b20])) rfl rfl (hb hby at_107) _ ?_
    show own_S p e below T32 (mkF m 108 #[vi p1, vi p2, vr b1, vr b20, vi (3 : Int32), vi (1 : Int32), vu] [xi (3 : Int32)]) _
    refine XS.iload X32.here hx rfl (hb hby at_108) rfl ?_
    show own_S p e below T32 (mkF m 110 #[vi p1, vi p2, vr b1, vr b20, vi (3 : Int32), vi (1 : Int32), vu] [xi (1 : Int32), xi (3 : Int32)]) _
    refine XS.ishr X32.here hx rfl (hb hby at_110) rfl ?_
    show own_S p e below T32 (mkF m 111 #[vi p1, vi p2, vr b1, vr b20, vi (3 : Int32), vi (1 : Int32), vu] [xi ((3 : Int32) >>> ((1 : Int32) &&& 31))]) _
    refine castTop (show (mkF m 111 #[vi p1, vi p2, vr b1, vr b20, vi (3 : Int32), vi (1 : Int32), vu] [xi ((3 : Int32) >>> ((1 : Int32) &&& 31))]) = (mkF m 111 #[vi p1, vi p2, vr b1, vr b20, vi (3 : Int32), vi (1 : Int32), vu] [xi (1 : Int32)]) from by rw [show ((3 : Int32) >>> ((1 : Int32) &&& 31)) = (1 : Int32) from by decide]) ?_
    show own_S p e below T32 (mkF m 111 #[vi p1, vi p2, vr b1, vr b20, vi (3 : Int32), vi (1 : Int32), vu] [xi (1 : Int32)]) _
    refine XS.iconst X32.here hx rfl (hb hby at_111) ?_
    show own_S p e below T32 (mkF m 112 #[vi p1, vi p2, vr b1, vr b20, vi (3 : Int32), vi (1 : Int32), vu] [xi (1 : Int32), xi (1 : Int32)]) _
    refine XS.iand X32.here hx rfl (hb hby at_112) rfl ?_
    show own_S p e below T32 (mkF m 113 #[vi p1, vi p2, vr b1, vr b20, vi (3 : Int32), vi (1 : Int32), vu] [xi ((1 : Int32) &&& (1 : Int32))]) _
    refine castTop (show (mkF m 113 #[vi p1, vi p2, vr b1, vr b20, vi (3 : Int32), vi (1 : Int32), vu] [xi ((1 : Int32) &&& (1 : Int32))]) = (mkF m 113 #[vi p1, vi p2, vr b1, vr b20, vi (3 : Int32), vi (1 : Int32), vu] [xi (1 : Int32)]) from by rw [show ((1 : Int32) &&& (1 : Int32)) = (1 : Int32) from by decide]) ?_
    show own_S p e below T32 (mkF m 113 #[vi p1, vi p2, vr b1, vr b20, vi (3 : Int32), vi (1 : Int32), vu] [xi (1 : Int32)]) _
    refine XS.ifNo X32.here hx rfl (hb hby at_113) rfl (by decide) ?_
    show own_S p e below T32 (mkF m 116 #[vi p1, vi p2, vr b1, vr b20, vi (3 : Int32), vi (1 : Int32), vu] []) _
    refine XS.iconst X32.here hx rfl (hb hby at_116) ?_
    show own_S p e below T32 (mkF m 117 #[vi p1, vi p2, vr b1, vr b20, vi (3 : Int32), vi (1 : Int32), vu] [xi (1 : Int32)]) _
    refine XS.goto X32.here hx rfl (pc0 := 117) (pc' := 121) rfl (hb hby at_117) (by decide) (by decide) ?_
    show own_S p e below T32 (mkF m 121 #[vi p1, vi p2, vr b1, vr b20, vi (3 : Int32), vi (1 : Int32), vu] [xi (1 : Int32)]) _
    refine XS.istore X32.here hx rfl (hb hby at_121) rfl (l' := #[vi p1, vi p2, vr b1, vr b20, vi (3 : Int32), vi (1 : Int32), vi (1 : Int32)]) rfl ?_
    show own_S p e below T32 (mkF m 123 #[vi p1, vi p2, vr b1, vr b20, vi (3 : Int32), vi (1 : Int32), vi (1 : Int32)] []) _
    refine XS.aloadN X32.here hx rfl (hb hby at_123) rfl rfl ?_
    show own_S p e below T32 (mkF m 124 #[vi p1, vi p2, vr b1, vr b20, vi (3 : Int32), vi (1 : Int32), vi (1 : Int32)] [xr b1]) _
    refine XS.iload X32.here hx rfl (hb hby at_124) rfl ?_
    show own_S p e below T32 (mkF m 126 #[vi p1, vi p2, vr b1, vr b20, vi (3 : Int32), vi (1 : Int32), vi (1 : Int32)] [xi (3 : Int32), xr b1]) _
    refine X32.aaload hx (j := (3 : Int32)) (v := (xr u3)) (by rw [e32]; exact Ar34.1) (State.isArrayOf_alike hZ.alike Ar34.2.1) rfl Ar34.2.2 hin34 hat34 (g := (mkF m 126 #[vi p1, vi p2, vr b1, vr b20, vi (3 : Int32), vi (1 : Int32), vi (1 : Int32)] [xi (3 : Int32), xr b1])) rfl rfl (hb hby at_126) _ ?_
    show own_S p e below T32 (mkF m 127 #[vi p1, vi p2, vr b1, vr b20, vi (3 : Int32), vi (1 : Int32), vi (1 : Int32)] [xr u3]) _
    refine XS.iloadN X32.here hx rfl (hb hby at_127) rfl ?_
    show own_S p e below T32 (mkF m 128 #[vi p1, vi p2, vr b1, vr b20, vi (3 : Int32), vi (1 : Int32), vi (1 : Int32)] [xi p2, xr u3]) _
    refine st35.trans ?_
    show own_S p e below T35 (mkF m 131 #[vi p1, vi p2, vr b1, vr b20, vi (3 : Int32), vi (1 : Int32), vi (1 : Int32)] [xi (1 : Int32)]) _
    refine XS.iload X35.here hx rfl (hb hby at_131) rfl ?_
    show own_S p e below T35 (mkF m 133 #[vi p1, vi p2, vr b1, vr b20, vi (3 : Int32), vi (1 : Int32), vi (1 : Int32)] [xi (1 : Int32), xi (1 : Int32)]) _
    refine XS.icmpNo X35.here hx rfl (hb hby at_133) rfl (by decide) ?_
    show own_S p e below T35 (mkF m 136 #[vi p1, vi p2, vr b1, vr b20, vi (3 : Int32), vi (1 : Int32), vi (1 : Int32)] []) _
    refine XS.iconst X35.here hx rfl (hb hby at_136) ?_
    show own_S p e below T35 (mkF m 137 #[vi p1, vi p2, vr b1, vr b20, vi (3 : Int32), vi (1 : Int32), vi (1 : Int32)] [xi (1 : Int32)]) _
    refine XS.goto X35.here hx rfl (pc0 := 137) (pc' := 141) rfl (hb hby at_137) (by decide) (by decide) ?_
    show own_S p e below T35 (mkF m 141 #[vi p1, vi p2, vr b1, vr b20, vi (3 : Int32), vi (1 : Int32), vi (1 : Int32)] [xi (1 : Int32)]) _
    exact retN X35 hx (t := .boolean) Bd.returns (by simp) (hb hby at_141) hr
  · exact ⟨rfl, N35⟩
theorem d1_98 : decode prog_62_method_8_code 98 = .ok (.iconst 0, 1) := by decide +kernel
theorem d1_99 : decode prog_62_method_8_code 99 = .ok (.goto 24, 3) := by decide +kernel
theorem ef_own_c11_holds (m : MethodId) (u0 u1 u2 u3 u4 u5 : Addr) (p2 : Int32) : entryFrame m #[xr u3, xi p2] 2 = (mkF m 0 #[vr u3, vi p2] []) := by first | (simp [entryFrame, mkF, argsToLocals, Value.category]; done) | rfl
set_option maxRecDepth 65536 in
set_option maxHeartbeats 40000000 in
theorem own_c11_holds (l : Launch) (Z : State) (a0 : Array Value) (hw : ∀ d ∈ tables_1, d.before a0 Z = true) (u0 u1 u2 u3 u4 u5 : Addr) (G : own_St Z u0 u1 u2 u3 u4 u5) (p2 : Int32) (as10 : ifCond.holds .gt p2 = true) (h0 : Heap) (n0 : Nat) (O0 : Old Z n0 h0) : own_Met l Z Y2 prog_62_method_8_code 2 (some .boolean) ({ frames := 1, cells := 0, slots := 0, locals := 12 } : Room) #[xr u3, xi p2] h0 (own_QR (some (xi (0 : Int32))) h0 n0) := by
  intro ws
  refine MetFree.of_bodySF (plainFor_of_name pn1) hisR ?_
  intro p e s m args below meth c s₁ Bd hml0 hP hK
  obtain ⟨rfl, hZ, hh⟩ := hP
  have hx := Bd.exec
  have hby := Bd.bytes
  have hml : c.maxLocals = 2 := hml0
  have hown : s.vm.findClass "com/example/whyle/whyle/cfa/Relation" = some m.cls := findClass_of_methodNamed Bd.named
  have hnm := (name_of_methodNamed Bd.named Bd.method).1
  have X0 : Stand p l e ({ frames := 1, cells := 0, slots := 0, locals := 12 } : Room) s m #[xr u3, xi p2] below meth c s₁ [] 0 0 := Stand.of_body Bd
  have e0 : s₁.heap = h0 := by rw [← hh, Bd.state]; rfl
  have N0 := Fr.nil n0
  have pre0 : ∀ t, Steps p.tables e below (s₁.setTop (mkF m 0 #[vr u3, vi p2] [])) t → Steps p.tables e below (s₁.setTop (entryFrame m #[xr u3, xi p2] 2)) t := fun t st => castTop (ef_own_c11_holds m u0 u1 u2 u3 u4 u5 p2) st
  obtain ⟨cq1, kq1, qa1, qb1, qc1⟩ := isOf hZ e0 ((own_X_u3 G).ext O0.2)
  obtain ⟨_, _, ⟨T1, L1, k1, n1⟩, -, X1, ⟨Lc1, hQ1, l1, y1, z1⟩, st1⟩ := X0.virtualBackUp hx (x := Y1) (y := Y0) hown (mvT hZ (ww hw 23 rfl)) (mvT hZ (ww hw 24 rfl)) (mvT hZ (ww hw 25 rfl)) (by decide) (mvT hZ (ww hw 27 rfl)) (mvT hZ (ww hw 26 rfl)) (backOf (W := 0) (own_c9_ordinal l Z a0 hw u0 u1 u2 u3 u4 u5 G h0 n0 O0 []) hZ (ww hw 29 rfl) (ww hw 28 rfl) (by decide) (by decide)) qa1 qc1 (g := (mkF m 1 #[vr u3, vi p2] [xr u3])) rfl (by rw [hml]; rfl) (Steps.refl _) (argsL := []) (rest := []) (lenOf pd0 rfl) rfl (by show 2 * 0 + _ ≤ _; exact Nat.le_of_eq rfl) (hb hby d1_1) (fun _ _ => ⟨rfl, e0, (by decide : 0 + 0 ≤ _), (by decide : 0 + 0 ≤ _)⟩)
  dsimp only [Pt.U, Pt.locs, Pt.cells, Pt.slots] at X1 l1 y1 z1 st1 hQ1
  subst l1 y1 z1
  obtain ⟨rfl, Nq1, e1⟩ := hQ1
  have N1 := Fr.app N0 Nq1
  obtain ⟨fs, hr, hrun, hended, hW, hsame⟩ := X1.leave (v := some (xi (0 : Int32))) (fun h => by rw [Bd.returns] at h; cases h)
  refine ⟨_, _, pre0 _ ?_, hrun, hended, _, _, rfl, ?_, ⟨_, rfl⟩, hW, hsame.mono (by decide) (by decide)⟩
  · show own_S p e below s₁ (mkF m 0 #[vr u3, vi p2] []) _
    refine XS.aloadN X0.here hx rfl (hb hby d1_0) rfl rfl ?_
    show own_S p e below s₁ (mkF m 1 #[vr u3, vi p2] [xr u3]) _
    refine st1.trans ?_
    show own_S p e below T1 (mkF m 4 #[vr u3, vi p2] [xi (3 : Int32)]) _
    refine XS.tswIn X1.here hx rfl (pc0 := 4) (pc' := 90) (o := 86) rfl (hb hby d1_4) rfl (by decide) (by decide) (by decide) (by decide) ?_
    show own_S p e below T1 (mkF m 90 #[vr u3, vi p2] []) _
    refine XS.iloadN X1.here hx rfl (hb hby d1_90) rfl ?_
    show own_S p e below T1 (mkF m 91 #[vr u3, vi p2] [xi p2]) _
    refine XS.ifYes X1.here hx rfl (pc0 := 91) (pc' := 98) rfl (hb hby d1_91) rfl as10 (by decide) (by decide) ?_
    show own_S p e below T1 (mkF m 98 #[vr u3, vi p2] []) _
    refine XS.iconst X1.here hx rfl (hb hby d1_98) ?_
    show own_S p e below T1 (mkF m 99 #[vr u3, vi p2] [xi (0 : Int32)]) _
    refine XS.goto X1.here hx rfl (pc0 := 99) (pc' := 123) rfl (hb hby d1_99) (by decide) (by decide) ?_
    show own_S p e below T1 (mkF m 123 #[vr u3, vi p2] [xi (0 : Int32)]) _
    exact retN X1 hx (t := .boolean) Bd.returns (by simp) (hb hby d1_123) hr
  · exact ⟨rfl, N1, e1⟩
theorem ef_own_l11 (m : MethodId) (u0 u1 u2 u3 u4 u5 : Addr) (p1 : Int32) (p2 : Int32) : entryFrame m #[xi p1, xi p2] maxLocals = (mkF m 0 #[vi p1, vi p2, vu, vu, vu, vu, vu] []) := by first | (simp [entryFrame, mkF, argsToLocals, Value.category, maxLocals]; done) | rfl
set_option maxRecDepth 65536 in
set_option maxHeartbeats 40000000 in
theorem own_l11 (l : Launch) (Z : State) (a0 : Array Value) (hw : ∀ d ∈ tables_1, d.before a0 Z = true) (u0 u1 u2 u3 u4 u5 : Addr) (G : own_St Z u0 u1 u2 u3 u4 u5) (p1 : Int32) (p2 : Int32) (as15 : ((p1 &&& (2147483647 : Int32)) - ((p1 &&& (2147483647 : Int32)) / (6 : Int32)) * (6 : Int32)) = (3 : Int32)) (as7 : ifCond.holds .ge p2 = true) (as3 : ifCond.holds .ne p2 = true) (as10 : ifCond.holds .gt p2 = true) (h0 : Heap) (n0 : Nat) (O0 : Old Z n0 h0) : own_Met l Z x code maxLocals ret room_1 #[xi p1, xi p2] h0 (own_QL (some (xi (1 : Int32))) n0) := by
  intro ws
  refine MetFree.of_bodySF (plainFor_of_name pn2) hisR ?_
  intro p e s m args below meth c s₁ Bd hml0 hP hK
  obtain ⟨rfl, hZ, hh⟩ := hP
  have hx := Bd.exec
  have hby := Bd.bytes
  have hml : c.maxLocals = 7 := hml0
  have hown : s.vm.findClass "com/example/whyle/whyle/cfa/RelationHoldsPinLaw" = some m.cls := findClass_of_methodNamed Bd.named
  have hnm := (name_of_methodNamed Bd.named Bd.method).1
  have X0 : Stand p l e room_1 s m #[xi p1, xi p2] below meth c s₁ [] 0 0 := Stand.of_body Bd
  have e0 : s₁.heap = h0 := by rw [← hh, Bd.state]; rfl
  have N0 := Fr.nil n0
  have pre0 : ∀ t, Steps p.tables e below (s₁.setTop (mkF m 0 #[vi p1, vi p2, vu, vu, vu, vu, vu] [])) t → Steps p.tables e below (s₁.setTop (entryFrame m #[xi p1, xi p2] maxLocals)) t := fun t st => castTop (ef_own_l11 m u0 u1 u2 u3 u4 u5 p1 p2) st
  obtain ⟨T1, h1, k1, X1, e1, E1, A1, Ov1, st1⟩ := newR X0 hx hZ hown (ww hw 0 rfl) (ww hw 1 rfl) e0 (g := (mkF m 2 #[vi p1, vi p2, vu, vu, vu, vu, vu] [xi (6 : Int32)])) rfl (hb hby at_2) rfl (by decide) (cap := 6) (by decide) (by decide) (by decide) (by decide)
  obtain ⟨b1, g1⟩ : ∃ z, z = h0.size := ⟨_, rfl⟩
  rw [← g1] at A1 st1
  have g_b1 : n0 ≤ b1 := own_fresh O0 g1
  have O1 : Old Z n0 h1 := O0.ext E1
  have V_b1 : Arv Z h1 b1 k1 (.object "com/example/whyle/whyle/cfa/Relation") (6 : Int32) [.null, .null, .null, .null, .null, .null] .null := (Arv.new A1 (by decide)).pad (pad_rep [] .null 6)
  obtain ⟨T2, X2, e2, st2⟩ := getS2 X1 hx hZ hown (host := "") (Or.inl (ww hw 2 rfl)) Via.refl e1 ((own_S_u0 G).ext O1.2) (g := (mkF m 7 #[vi p1, vi p2, vu, vu, vu, vu, vu] [xi (0 : Int32), xr b1, xr b1])) rfl (hb hby at_7)
  obtain ⟨cl3, Ar3, q3, S3, N3_, H3, G3⟩ := V_b1
  have hin3 : ¬ ((0 : Int32) < 0 ∨ cl3.slots.size ≤ ((0 : Int32)).toNatClampNeg) := inb_of S3 ⟨by decide, by decide⟩
  obtain ⟨T4, h4, X4, e4, W4, st4⟩ := stR X2 hx hZ e2 Ar3 (j := (0 : Int32)) hin3 rfl (Sto.ofV Ar3 q3 Ov1 (Ins.self ((own_X_u0 G).ext O1.2))) (g := (mkF m 10 #[vi p1, vi p2, vu, vu, vu, vu, vu] [xr u0, xi (0 : Int32), xr b1, xr b1])) rfl rfl (hb hby at_10)
  have V_b1_4 : Arv Z h4 b1 k1 (.object "com/example/whyle/whyle/cfa/Relation") (6 : Int32) [xr u0, .null, .null, .null, .null, .null] .null := Arv.set Ar3 q3 S3 N3_ H3 G3 rfl W4 0 rfl (Nat.le_of_ble_eq_true rfl)
  have O4 : Old Z n0 h4 := O1.wr W4 g_b1
  have N4 := Fr.snoc X4 N0 g_b1
  obtain ⟨T5, X5, e5, st5⟩ := getS2 X4 hx hZ hown (host := "") (Or.inl (ww hw 6 rfl)) Via.refl e4 ((own_S_u1 G).ext O4.2) (g := (mkF m 13 #[vi p1, vi p2, vu, vu, vu, vu, vu] [xi (1 : Int32), xr b1, xr b1])) rfl (hb hby at_13)
  obtain ⟨cl6, Ar6, q6, S6, N6_, H6, G6⟩ := V_b1_4
  have hin6 : ¬ ((1 : Int32) < 0 ∨ cl6.slots.size ≤ ((1 : Int32)).toNatClampNeg) := inb_of S6 ⟨by decide, by decide⟩
  obtain ⟨T7, h7, X7, e7, W7, st7⟩ := stR X5 hx hZ e5 Ar6 (j := (1 : Int32)) hin6 rfl (Sto.ofV Ar6 q6 Ov1 (Ins.self ((own_X_u1 G).ext O4.2))) (g := (mkF m 16 #[vi p1, vi p2, vu, vu, vu, vu, vu] [xr u1, xi (1 : Int32), xr b1, xr b1])) rfl rfl (hb hby at_16)
  have V_b1_7 : Arv Z h7 b1 k1 (.object "com/example/whyle/whyle/cfa/Relation") (6 : Int32) [xr u0, xr u1, .null, .null, .null, .null] .null := Arv.set Ar6 q6 S6 N6_ H6 G6 rfl W7 1 rfl (Nat.le_of_ble_eq_true rfl)
  have O7 : Old Z n0 h7 := O4.wr W7 g_b1
  have N7 := Fr.snoc X7 N4 g_b1
  obtain ⟨T8, X8, e8, st8⟩ := getS2 X7 hx hZ hown (host := "") (Or.inl (ww hw 8 rfl)) Via.refl e7 ((own_S_u2 G).ext O7.2) (g := (mkF m 19 #[vi p1, vi p2, vu, vu, vu, vu, vu] [xi (2 : Int32), xr b1, xr b1])) rfl (hb hby at_19)
  obtain ⟨cl9, Ar9, q9, S9, N9_, H9, G9⟩ := V_b1_7
  have hin9 : ¬ ((2 : Int32) < 0 ∨ cl9.slots.size ≤ ((2 : Int32)).toNatClampNeg) := inb_of S9 ⟨by decide, by decide⟩
  obtain ⟨T10, h10, X10, e10, W10, st10⟩ := stR X8 hx hZ e8 Ar9 (j := (2 : Int32)) hin9 rfl (Sto.ofV Ar9 q9 Ov1 (Ins.self ((own_X_u2 G).ext O7.2))) (g := (mkF m 22 #[vi p1, vi p2, vu, vu, vu, vu, vu] [xr u2, xi (2 : Int32), xr b1, xr b1])) rfl rfl (hb hby at_22)
  have V_b1_10 : Arv Z h10 b1 k1 (.object "com/example/whyle/whyle/cfa/Relation") (6 : Int32) [xr u0, xr u1, xr u2, .null, .null, .null] .null := Arv.set Ar9 q9 S9 N9_ H9 G9 rfl W10 2 rfl (Nat.le_of_ble_eq_true rfl)
  have O10 : Old Z n0 h10 := O7.wr W10 g_b1
  have N10 := Fr.snoc X10 N7 g_b1
  obtain ⟨T11, X11, e11, st11⟩ := getS2 X10 hx hZ hown (host := "") (Or.inl (ww hw 10 rfl)) Via.refl e10 ((own_S_u3 G).ext O10.2) (g := (mkF m 25 #[vi p1, vi p2, vu, vu, vu, vu, vu] [xi (3 : Int32), xr b1, xr b1])) rfl (hb hby at_25)
  obtain ⟨cl12, Ar12, q12, S12, N12_, H12, G12⟩ := V_b1_10
  have hin12 : ¬ ((3 : Int32) < 0 ∨ cl12.slots.size ≤ ((3 : Int32)).toNatClampNeg) := inb_of S12 ⟨by decide, by decide⟩
  obtain ⟨T13, h13, X13, e13, W13, st13⟩ := stR X11 hx hZ e11 Ar12 (j := (3 : Int32)) hin12 rfl (Sto.ofV Ar12 q12 Ov1 (Ins.self ((own_X_u3 G).ext O10.2))) (g := (mkF m 28 #[vi p1, vi p2, vu, vu, vu, vu, vu] [xr u3, xi (3 : Int32), xr b1, xr b1])) rfl rfl (hb hby at_28)
  have V_b1_13 : Arv Z h13 b1 k1 (.object "com/example/whyle/whyle/cfa/Relation") (6 : Int32) [xr u0, xr u1, xr u2, xr u3, .null, .null] .null := Arv.set Ar12 q12 S12 N12_ H12 G12 rfl W13 3 rfl (Nat.le_of_ble_eq_true rfl)
  have O13 : Old Z n0 h13 := O10.wr W13 g_b1
  have N13 := Fr.snoc X13 N10 g_b1
  obtain ⟨T14, X14, e14, st14⟩ := getS2 X13 hx hZ hown (host := "") (Or.inl (ww hw 12 rfl)) Via.refl e13 ((own_S_u4 G).ext O13.2) (g := (mkF m 31 #[vi p1, vi p2, vu, vu, vu, vu, vu] [xi (4 : Int32), xr b1, xr b1])) rfl (hb hby at_31)
  obtain ⟨cl15, Ar15, q15, S15, N15_, H15, G15⟩ := V_b1_13
  have hin15 : ¬ ((4 : Int32) < 0 ∨ cl15.slots.size ≤ ((4 : Int32)).toNatClampNeg) := inb_of S15 ⟨by decide, by decide⟩
  obtain ⟨T16, h16, X16, e16, W16, st16⟩ := stR X14 hx hZ e14 Ar15 (j := (4 : Int32)) hin15 rfl (Sto.ofV Ar15 q15 Ov1 (Ins.self ((own_X_u4 G).ext O13.2))) (g := (mkF m 34 #[vi p1, vi p2, vu, vu, vu, vu, vu] [xr u4, xi (4 : Int32), xr b1, xr b1])) rfl rfl (hb hby at_34)
  have V_b1_16 : Arv Z h16 b1 k1 (.object "com/example/whyle/whyle/cfa/Relation") (6 : Int32) [xr u0, xr u1, xr u2, xr u3, xr u4, .null] .null := Arv.set Ar15 q15 S15 N15_ H15 G15 rfl W16 4 rfl (Nat.le_of_ble_eq_true rfl)
  have O16 : Old Z n0 h16 := O13.wr W16 g_b1
  have N16 := Fr.snoc X16 N13 g_b1
  obtain ⟨T17, X17, e17, st17⟩ := getS2 X16 hx hZ hown (host := "") (Or.inl (ww hw 14 rfl)) Via.refl e16 ((own_S_u5 G).ext O16.2) (g := (mkF m 37 #[vi p1, vi p2, vu, vu, vu, vu, vu] [xi (5 : Int32), xr b1, xr b1])) rfl (hb hby at_37)
  obtain ⟨cl18, Ar18, q18, S18, N18_, H18, G18⟩ := V_b1_16
  have hin18 : ¬ ((5 : Int32) < 0 ∨ cl18.slots.size ≤ ((5 : Int32)).toNatClampNeg) := inb_of S18 ⟨by decide, by decide⟩
  obtain ⟨T19, h19, X19, e19, W19, st19⟩ := stR X17 hx hZ e17 Ar18 (j := (5 : Int32)) hin18 rfl (Sto.ofV Ar18 q18 Ov1 (Ins.self ((own_X_u5 G).ext O16.2))) (g := (mkF m 40 #[vi p1, vi p2, vu, vu, vu, vu, vu] [xr u5, xi (5 : Int32), xr b1, xr b1])) rfl rfl (hb hby at_40)
  have V_b1_19 : Arv Z h19 b1 k1 (.object "com/example/whyle/whyle/cfa/Relation") (6 : Int32) [xr u0, xr u1, xr u2, xr u3, xr u4, xr u5] .null := Arv.set Ar18 q18 S18 N18_ H18 G18 rfl W19 5 rfl (Nat.le_of_ble_eq_true rfl)
  have O19 : Old Z n0 h19 := O16.wr W19 g_b1
  have N19 := Fr.snoc X19 N16 g_b1
  obtain ⟨T20, h20, k20, X20, e20, E20, A20, st20⟩ := newP X19 hx hZ (ww hw 16 rfl) e19 (g := (mkF m 44 #[vi p1, vi p2, vr b1, vu, vu, vu, vu] [xi (6 : Int32)])) rfl (hb hby at_44) rfl (by decide) (cap := 6) (by decide) (by decide) (by decide) (by decide)
  obtain ⟨b20, g20⟩ : ∃ z, z = h19.size := ⟨_, rfl⟩
  rw [← g20] at A20 st20
  have g_b20 : n0 ≤ b20 := own_fresh O19 g20
  have ne_b1_b20 : b1 ≠ b20 := Nat.ne_of_lt (Nat.lt_of_lt_of_le (V_b1_19).lt (Nat.le_of_eq g20.symm))
  have O20 : Old Z n0 h20 := O19.ext E20
  have V_b1_20 := V_b1_19.ext E20
  have V_b20 : Arv Z h20 b20 k20 .int (6 : Int32) [(.int (0 : Int32)), (.int (0 : Int32)), (.int (0 : Int32)), (.int (0 : Int32)), (.int (0 : Int32)), (.int (0 : Int32))] (.int (0 : Int32)) := (Arv.new A20 (by decide)).pad (pad_rep [] (.int (0 : Int32)) 6)
  obtain ⟨cl21, Ar21, q21, S21, N21_, H21, G21⟩ := V_b20
  have hin21 : ¬ ((0 : Int32) < 0 ∨ cl21.slots.size ≤ ((0 : Int32)).toNatClampNeg) := inb_of S21 ⟨by decide, by decide⟩
  obtain ⟨T22, h22, X22, e22, W22, st22⟩ := stI X20 hx hZ e20 Ar21 (j := (0 : Int32)) hin21 (g := (mkF m 49 #[vi p1, vi p2, vr b1, vu, vu, vu, vu] [xi (2 : Int32), xi (0 : Int32), xr b20, xr b20])) rfl rfl (hb hby at_49)
  have V_b20_22 : Arv Z h22 b20 k20 .int (6 : Int32) [xi (2 : Int32), xi (0 : Int32), xi (0 : Int32), xi (0 : Int32), xi (0 : Int32), xi (0 : Int32)] (.int (0 : Int32)) := Arv.set Ar21 q21 S21 N21_ H21 G21 rfl W22 0 rfl (Nat.le_of_ble_eq_true rfl)
  have O22 : Old Z n0 h22 := O20.wr W22 g_b20
  have V_b1_22 := V_b1_20.other W22 ne_b1_b20
  have N22 := Fr.snoc X22 N19 g_b20
  obtain ⟨cl23, Ar23, q23, S23, N23_, H23, G23⟩ := V_b20_22
  have hin23 : ¬ ((1 : Int32) < 0 ∨ cl23.slots.size ≤ ((1 : Int32)).toNatClampNeg) := inb_of S23 ⟨by decide, by decide⟩
  obtain ⟨T24, h24, X24, e24, W24, st24⟩ := stI X22 hx hZ e22 Ar23 (j := (1 : Int32)) hin23 (g := (mkF m 53 #[vi p1, vi p2, vr b1, vu, vu, vu, vu] [xi (5 : Int32), xi (1 : Int32), xr b20, xr b20])) rfl rfl (hb hby at_53)
  have V_b20_24 : Arv Z h24 b20 k20 .int (6 : Int32) [xi (2 : Int32), xi (5 : Int32), xi (0 : Int32), xi (0 : Int32), xi (0 : Int32), xi (0 : Int32)] (.int (0 : Int32)) := Arv.set Ar23 q23 S23 N23_ H23 G23 rfl W24 1 rfl (Nat.le_of_ble_eq_true rfl)
  have O24 : Old Z n0 h24 := O22.wr W24 g_b20
  have V_b1_24 := V_b1_22.other W24 ne_b1_b20
  have N24 := Fr.snoc X24 N22 g_b20
  obtain ⟨cl25, Ar25, q25, S25, N25_, H25, G25⟩ := V_b20_24
  have hin25 : ¬ ((2 : Int32) < 0 ∨ cl25.slots.size ≤ ((2 : Int32)).toNatClampNeg) := inb_of S25 ⟨by decide, by decide⟩
  obtain ⟨T26, h26, X26, e26, W26, st26⟩ := stI X24 hx hZ e24 Ar25 (j := (2 : Int32)) hin25 (g := (mkF m 57 #[vi p1, vi p2, vr b1, vu, vu, vu, vu] [xi (1 : Int32), xi (2 : Int32), xr b20, xr b20])) rfl rfl (hb hby at_57)
  have V_b20_26 : Arv Z h26 b20 k20 .int (6 : Int32) [xi (2 : Int32), xi (5 : Int32), xi (1 : Int32), xi (0 : Int32), xi (0 : Int32), xi (0 : Int32)] (.int (0 : Int32)) := Arv.set Ar25 q25 S25 N25_ H25 G25 rfl W26 2 rfl (Nat.le_of_ble_eq_true rfl)
  have O26 : Old Z n0 h26 := O24.wr W26 g_b20
  have V_b1_26 := V_b1_24.other W26 ne_b1_b20
  have N26 := Fr.snoc X26 N24 g_b20
  obtain ⟨cl27, Ar27, q27, S27, N27_, H27, G27⟩ := V_b20_26
  have hin27 : ¬ ((3 : Int32) < 0 ∨ cl27.slots.size ≤ ((3 : Int32)).toNatClampNeg) := inb_of S27 ⟨by decide, by decide⟩
  obtain ⟨T28, h28, X28, e28, W28, st28⟩ := stI X26 hx hZ e26 Ar27 (j := (3 : Int32)) hin27 (g := (mkF m 61 #[vi p1, vi p2, vr b1, vu, vu, vu, vu] [xi (3 : Int32), xi (3 : Int32), xr b20, xr b20])) rfl rfl (hb hby at_61)
  have V_b20_28 : Arv Z h28 b20 k20 .int (6 : Int32) [xi (2 : Int32), xi (5 : Int32), xi (1 : Int32), xi (3 : Int32), xi (0 : Int32), xi (0 : Int32)] (.int (0 : Int32)) := Arv.set Ar27 q27 S27 N27_ H27 G27 rfl W28 3 rfl (Nat.le_of_ble_eq_true rfl)
  have O28 : Old Z n0 h28 := O26.wr W28 g_b20
  have V_b1_28 := V_b1_26.other W28 ne_b1_b20
  have N28 := Fr.snoc X28 N26 g_b20
  obtain ⟨cl29, Ar29, q29, S29, N29_, H29, G29⟩ := V_b20_28
  have hin29 : ¬ ((4 : Int32) < 0 ∨ cl29.slots.size ≤ ((4 : Int32)).toNatClampNeg) := inb_of S29 ⟨by decide, by decide⟩
  obtain ⟨T30, h30, X30, e30, W30, st30⟩ := stI X28 hx hZ e28 Ar29 (j := (4 : Int32)) hin29 (g := (mkF m 65 #[vi p1, vi p2, vr b1, vu, vu, vu, vu] [xi (4 : Int32), xi (4 : Int32), xr b20, xr b20])) rfl rfl (hb hby at_65)
  have V_b20_30 : Arv Z h30 b20 k20 .int (6 : Int32) [xi (2 : Int32), xi (5 : Int32), xi (1 : Int32), xi (3 : Int32), xi (4 : Int32), xi (0 : Int32)] (.int (0 : Int32)) := Arv.set Ar29 q29 S29 N29_ H29 G29 rfl W30 4 rfl (Nat.le_of_ble_eq_true rfl)
  have O30 : Old Z n0 h30 := O28.wr W30 g_b20
  have V_b1_30 := V_b1_28.other W30 ne_b1_b20
  have N30 := Fr.snoc X30 N28 g_b20
  obtain ⟨cl31, Ar31, q31, S31, N31_, H31, G31⟩ := V_b20_30
  have hin31 : ¬ ((5 : Int32) < 0 ∨ cl31.slots.size ≤ ((5 : Int32)).toNatClampNeg) := inb_of S31 ⟨by decide, by decide⟩
  obtain ⟨T32, h32, X32, e32, W32, st32⟩ := stI X30 hx hZ e30 Ar31 (j := (5 : Int32)) hin31 (g := (mkF m 70 #[vi p1, vi p2, vr b1, vu, vu, vu, vu] [xi (6 : Int32), xi (5 : Int32), xr b20, xr b20])) rfl rfl (hb hby at_70)
  have V_b20_32 : Arv Z h32 b20 k20 .int (6 : Int32) [xi (2 : Int32), xi (5 : Int32), xi (1 : Int32), xi (3 : Int32), xi (4 : Int32), xi (6 : Int32)] (.int (0 : Int32)) := Arv.set Ar31 q31 S31 N31_ H31 G31 rfl W32 5 rfl (Nat.le_of_ble_eq_true rfl)
  have O32 : Old Z n0 h32 := O30.wr W32 g_b20
  have V_b1_32 := V_b1_30.other W32 ne_b1_b20
  have N32 := Fr.snoc X32 N30 g_b20
  obtain ⟨cl33, Ar33, q33, S33, N33_, H33, G33⟩ := V_b20_32
  have hin33 : ¬ ((3 : Int32) < 0 ∨ cl33.slots.size ≤ ((3 : Int32)).toNatClampNeg) := inb_of S33 ⟨by decide, by decide⟩
  have hat33 : cl33.slots[((3 : Int32)).toNatClampNeg]? = some (xi (3 : Int32)) := Has.at H33 hin33 rfl
  obtain ⟨cl34, Ar34, q34, S34, N34_, H34, G34⟩ := V_b1_32
  have hin34 : ¬ ((3 : Int32) < 0 ∨ cl34.slots.size ≤ ((3 : Int32)).toNatClampNeg) := inb_of S34 ⟨by decide, by decide⟩
  have hat34 : cl34.slots[((3 : Int32)).toNatClampNeg]? = some (xr u3) := Has.at H34 hin34 rfl
  obtain ⟨cq35, kq35, qa35, qb35, qc35⟩ := isOf hZ e32 ((own_X_u3 G).ext O32.2)
  obtain ⟨_, _, ⟨T35, L35, k35, n35⟩, -, X35, ⟨Lc35, hQ35, l35, y35, z35⟩, st35⟩ := X32.virtualBack hx (y := Y2) (z := Y2) hown (mvT hZ (ww hw 18 rfl)) (mvT hZ (ww hw 19 rfl)) (notFace_of_selects (args := #[]) (mvT hZ (ww hw 21 rfl))) (mvT hZ (ww hw 21 rfl)) (mvT hZ (ww hw 20 rfl)) (by decide) (backOf (W := 0) (own_c11_holds l Z a0 hw u0 u1 u2 u3 u4 u5 G p2 as10 h32 n0 O32 []) hZ (ww hw 22 rfl) (ww hw 3 rfl) (by decide) (by decide)) qa35 qc35 (g := (mkF m 128 #[vi p1, vi p2, vr b1, vr b20, vi (3 : Int32), vi (2 : Int32), vi (0 : Int32)] [xi p2, xr u3])) rfl (by rw [hml]; rfl) (Steps.refl _) (argsL := [xi p2]) (rest := []) (lenOf pd1 rfl) rfl (by show 2 * 0 + _ ≤ _; exact Nat.le_of_eq rfl) (hb hby at_128) (fun _ _ => ⟨rfl, e32, (by decide : 2 + 0 ≤ _), (by decide : 12 + 0 ≤ _)⟩)
  dsimp only [Pt.U, Pt.locs, Pt.cells, Pt.slots] at X35 l35 y35 z35 st35 hQ35
  subst l35 y35 z35
  obtain ⟨rfl, Nq35, e35⟩ := hQ35
  have N35 := Fr.app N32 Nq35
  obtain ⟨fs, hr, hrun, hended, hW, hsame⟩ := X35.leave (v := some (xi (1 : Int32))) (fun h => by rw [Bd.returns] at h; cases h)
  refine ⟨_, _, pre0 _ ?_, hrun, hended, _, _, rfl, ?_, ⟨_, rfl⟩, hW, hsame.mono (by decide) (by decide)⟩
  · show own_S p e below s₁ (mkF m 0 #[vi p1, vi p2, vu, vu, vu, vu, vu] []) _
    refine XS.bipush X0.here hx rfl (hb hby at_0) ?_
    show own_S p e below s₁ (mkF m 2 #[vi p1, vi p2, vu, vu, vu, vu, vu] [xi (6 : Int32)]) _
    refine st1 _ ?_
    show own_S p e below T1 (mkF m 5 #[vi p1, vi p2, vu, vu, vu, vu, vu] [xr b1]) _
    refine XS.dup X1.here hx rfl (hb hby at_5) rfl rfl ?_
    show own_S p e below T1 (mkF m 6 #[vi p1, vi p2, vu, vu, vu, vu, vu] [xr b1, xr b1]) _
    refine XS.iconst X1.here hx rfl (hb hby at_6) ?_
    show own_S p e below T1 (mkF m 7 #[vi p1, vi p2, vu, vu, vu, vu, vu] [xi (0 : Int32), xr b1, xr b1]) _
    refine st2 _ ?_
    show own_S p e below T2 (mkF m 10 #[vi p1, vi p2, vu, vu, vu, vu, vu] [xr u0, xi (0 : Int32), xr b1, xr b1]) _
    refine st4 _ ?_
    show own_S p e below T4 (mkF m 11 #[vi p1, vi p2, vu, vu, vu, vu, vu] [xr b1]) _
    refine XS.dup X4.here hx rfl (hb hby at_11) rfl rfl ?_
    show own_S p e below T4 (mkF m 12 #[vi p1, vi p2, vu, vu, vu, vu, vu] [xr b1, xr b1]) _
    refine XS.iconst X4.here hx rfl (hb hby at_12) ?_
    show own_S p e below T4 (mkF m 13 #[vi p1, vi p2, vu, vu, vu, vu, vu] [xi (1 : Int32), xr b1, xr b1]) _
    refine st5 _ ?_
    show own_S p e below T5 (mkF m 16 #[vi p1, vi p2, vu, vu, vu, vu, vu] [xr u1, xi (1 : Int32), xr b1, xr b1]) _
    refine st7 _ ?_
    show own_S p e below T7 (mkF m 17 #[vi p1, vi p2, vu, vu, vu, vu, vu] [xr b1]) _
    refine XS.dup X7.here hx rfl (hb hby at_17) rfl rfl ?_
    show own_S p e below T7 (mkF m 18 #[vi p1, vi p2, vu, vu, vu, vu, vu] [xr b1, xr b1]) _
    refine XS.iconst X7.here hx rfl (hb hby at_18) ?_
    show own_S p e below T7 (mkF m 19 #[vi p1, vi p2, vu, vu, vu, vu, vu] [xi (2 : Int32), xr b1, xr b1]) _
    refine st8 _ ?_
    show own_S p e below T8 (mkF m 22 #[vi p1, vi p2, vu, vu, vu, vu, vu] [xr u2, xi (2 : Int32), xr b1, xr b1]) _
    refine st10 _ ?_
    show own_S p e below T10 (mkF m 23 #[vi p1, vi p2, vu, vu, vu, vu, vu] [xr b1]) _
    refine XS.dup X10.here hx rfl (hb hby at_23) rfl rfl ?_
    show own_S p e below T10 (mkF m 24 #[vi p1, vi p2, vu, vu, vu, vu, vu] [xr b1, xr b1]) _
    refine XS.iconst X10.here hx rfl (hb hby at_24) ?_
    show own_S p e below T10 (mkF m 25 #[vi p1, vi p2, vu, vu, vu, vu, vu] [xi (3 : Int32), xr b1, xr b1]) _
    refine st11 _ ?_
    show own_S p e below T11 (mkF m 28 #[vi p1, vi p2, vu, vu, vu, vu, vu] [xr u3, xi (3 : Int32), xr b1, xr b1]) _
    refine st13 _ ?_
    show own_S p e below T13 (mkF m 29 #[vi p1, vi p2, vu, vu, vu, vu, vu] [xr b1]) _
    refine XS.dup X13.here hx rfl (hb hby at_29) rfl rfl ?_
    show own_S p e below T13 (mkF m 30 #[vi p1, vi p2, vu, vu, vu, vu, vu] [xr b1, xr b1]) _
    refine XS.iconst X13.here hx rfl (hb hby at_30) ?_
    show own_S p e below T13 (mkF m 31 #[vi p1, vi p2, vu, vu, vu, vu, vu] [xi (4 : Int32), xr b1, xr b1]) _
    refine st14 _ ?_
    show own_S p e below T14 (mkF m 34 #[vi p1, vi p2, vu, vu, vu, vu, vu] [xr u4, xi (4 : Int32), xr b1, xr b1]) _
    refine st16 _ ?_
    show own_S p e below T16 (mkF m 35 #[vi p1, vi p2, vu, vu, vu, vu, vu] [xr b1]) _
    refine XS.dup X16.here hx rfl (hb hby at_35) rfl rfl ?_
    show own_S p e below T16 (mkF m 36 #[vi p1, vi p2, vu, vu, vu, vu, vu] [xr b1, xr b1]) _
    refine XS.iconst X16.here hx rfl (hb hby at_36) ?_
    show own_S p e below T16 (mkF m 37 #[vi p1, vi p2, vu, vu, vu, vu, vu] [xi (5 : Int32), xr b1, xr b1]) _
    refine st17 _ ?_
    show own_S p e below T17 (mkF m 40 #[vi p1, vi p2, vu, vu, vu, vu, vu] [xr u5, xi (5 : Int32), xr b1, xr b1]) _
    refine st19 _ ?_
    show own_S p e below T19 (mkF m 41 #[vi p1, vi p2, vu, vu, vu, vu, vu] [xr b1]) _
    refine XS.astoreN X19.here hx rfl (hb hby at_41) rfl rfl (l' := #[vi p1, vi p2, vr b1, vu, vu, vu, vu]) rfl ?_
    show own_S p e below T19 (mkF m 42 #[vi p1, vi p2, vr b1, vu, vu, vu, vu] []) _
    refine XS.bipush X19.here hx rfl (hb hby at_42) ?_
    show own_S p e below T19 (mkF m 44 #[vi p1, vi p2, vr b1, vu, vu, vu, vu] [xi (6 : Int32)]) _
    refine st20 _ ?_
    show own_S p e below T20 (mkF m 46 #[vi p1, vi p2, vr b1, vu, vu, vu, vu] [xr b20]) _
    refine XS.dup X20.here hx rfl (hb hby at_46) rfl rfl ?_
    show own_S p e below T20 (mkF m 47 #[vi p1, vi p2, vr b1, vu, vu, vu, vu] [xr b20, xr b20]) _
    refine XS.iconst X20.here hx rfl (hb hby at_47) ?_
    show own_S p e below T20 (mkF m 48 #[vi p1, vi p2, vr b1, vu, vu, vu, vu] [xi (0 : Int32), xr b20, xr b20]) _
    refine XS.iconst X20.here hx rfl (hb hby at_48) ?_
    show own_S p e below T20 (mkF m 49 #[vi p1, vi p2, vr b1, vu, vu, vu, vu] [xi (2 : Int32), xi (0 : Int32), xr b20, xr b20]) _
    refine st22 _ ?_
    show own_S p e below T22 (mkF m 50 #[vi p1, vi p2, vr b1, vu, vu, vu, vu] [xr b20]) _
    refine XS.dup X22.here hx rfl (hb hby at_50) rfl rfl ?_
    show own_S p e below T22 (mkF m 51 #[vi p1, vi p2, vr b1, vu, vu, vu, vu] [xr b20, xr b20]) _
    refine XS.iconst X22.here hx rfl (hb hby at_51) ?_
    show own_S p e below T22 (mkF m 52 #[vi p1, vi p2, vr b1, vu, vu, vu, vu] [xi (1 : Int32), xr b20, xr b20]) _
    refine XS.iconst X22.here hx rfl (hb hby at_52) ?_
    show own_S p e below T22 (mkF m 53 #[vi p1, vi p2, vr b1, vu, vu, vu, vu] [xi (5 : Int32), xi (1 : Int32), xr b20, xr b20]) _
    refine st24 _ ?_
    show own_S p e below T24 (mkF m 54 #[vi p1, vi p2, vr b1, vu, vu, vu, vu] [xr b20]) _
    refine XS.dup X24.here hx rfl (hb hby at_54) rfl rfl ?_
    show own_S p e below T24 (mkF m 55 #[vi p1, vi p2, vr b1, vu, vu, vu, vu] [xr b20, xr b20]) _
    refine XS.iconst X24.here hx rfl (hb hby at_55) ?_
    show own_S p e below T24 (mkF m 56 #[vi p1, vi p2, vr b1, vu, vu, vu, vu] [xi (2 : Int32), xr b20, xr b20]) _
    refine XS.iconst X24.here hx rfl (hb hby at_56) ?_
    show own_S p e below T24 (mkF m 57 #[vi p1, vi p2, vr b1, vu, vu, vu, vu] [xi (1 : Int32), xi (2 : Int32), xr b20, xr b20]) _
    refine st26 _ ?_
    show own_S p e below T26 (mkF m 58 #[vi p1, vi p2, vr b1, vu, vu, vu, vu] [xr b20]) _
    refine XS.dup X26.here hx rfl (hb hby at_58) rfl rfl ?_
    show own_S p e below T26 (mkF m 59 #[vi p1, vi p2, vr b1, vu, vu, vu, vu] [xr b20, xr b20]) _
    refine XS.iconst X26.here hx rfl (hb hby at_59) ?_
    show own_S p e below T26 (mkF m 60 #[vi p1, vi p2, vr b1, vu, vu, vu, vu] [xi (3 : Int32), xr b20, xr b20]) _
    refine XS.iconst X26.here hx rfl (hb hby at_60) ?_
    show own_S p e below T26 (mkF m 61 #[vi p1, vi p2, vr b1, vu, vu, vu, vu] [xi (3 : Int32), xi (3 : Int32), xr b20, xr b20]) _
    refine st28 _ ?_
    show own_S p e below T28 (mkF m 62 #[vi p1, vi p2, vr b1, vu, vu, vu, vu] [xr b20]) _
    refine XS.dup X28.here hx rfl (hb hby at_62) rfl rfl ?_
    show own_S p e below T28 (mkF m 63 #[vi p1, vi p2, vr b1, vu, vu, vu, vu] [xr b20, xr b20]) _
    refine XS.iconst X28.here hx rfl (hb hby at_63) ?_
    show own_S p e below T28 (mkF m 64 #[vi p1, vi p2, vr b1, vu, vu, vu, vu] [xi (4 : Int32), xr b20, xr b20]) _
    refine XS.iconst X28.here hx rfl (hb hby at_64) ?_
    show own_S p e below T28 (mkF m 65 #[vi p1, vi p2, vr b1, vu, vu, vu, vu] [xi (4 : Int32), xi (4 : Int32), xr b20, xr b20]) _
    refine st30 _ ?_
    show own_S p e below T30 (mkF m 66 #[vi p1, vi p2, vr b1, vu, vu, vu, vu] [xr b20]) _
    refine XS.dup X30.here hx rfl (hb hby at_66) rfl rfl ?_
    show own_S p e below T30 (mkF m 67 #[vi p1, vi p2, vr b1, vu, vu, vu, vu] [xr b20, xr b20]) _
    refine XS.iconst X30.here hx rfl (hb hby at_67) ?_
    show own_S p e below T30 (mkF m 68 #[vi p1, vi p2, vr b1, vu, vu, vu, vu] [xi (5 : Int32), xr b20, xr b20]) _
    refine XS.bipush X30.here hx rfl (hb hby at_68) ?_
    show own_S p e below T30 (mkF m 70 #[vi p1, vi p2, vr b1, vu, vu, vu, vu] [xi (6 : Int32), xi (5 : Int32), xr b20, xr b20]) _
    refine st32 _ ?_
    show own_S p e below T32 (mkF m 71 #[vi p1, vi p2, vr b1, vu, vu, vu, vu] [xr b20]) _
    refine XS.astoreN X32.here hx rfl (hb hby at_71) rfl rfl (l' := #[vi p1, vi p2, vr b1, vr b20, vu, vu, vu]) rfl ?_
    show own_S p e below T32 (mkF m 72 #[vi p1, vi p2, vr b1, vr b20, vu, vu, vu] []) _
    refine XS.iloadN X32.here hx rfl (hb hby at_72) rfl ?_
    show own_S p e below T32 (mkF m 73 #[vi p1, vi p2, vr b1, vr b20, vu, vu, vu] [xi p1]) _
    refine X32.ldcI hx hown (mvT hZ (ww hw 17 rfl)) (g := (mkF m 73 #[vi p1, vi p2, vr b1, vr b20, vu, vu, vu] [xi p1])) rfl (hb hby at_73) ?_
    show own_S p e below T32 (mkF m 75 #[vi p1, vi p2, vr b1, vr b20, vu, vu, vu] [xi (2147483647 : Int32), xi p1]) _
    refine XS.iand X32.here hx rfl (hb hby at_75) rfl ?_
    show own_S p e below T32 (mkF m 76 #[vi p1, vi p2, vr b1, vr b20, vu, vu, vu] [xi (p1 &&& (2147483647 : Int32))]) _
    show own_S p e below T32 (mkF m 76 #[vi p1, vi p2, vr b1, vr b20, vu, vu, vu] [xi (p1 &&& (2147483647 : Int32))]) _
    refine XS.bipush X32.here hx rfl (hb hby at_76) ?_
    show own_S p e below T32 (mkF m 78 #[vi p1, vi p2, vr b1, vr b20, vu, vu, vu] [xi (6 : Int32), xi (p1 &&& (2147483647 : Int32))]) _
    refine XS.irem X32.here hx rfl (hb hby at_78) rfl (by decide) ?_
    show own_S p e below T32 (mkF m 79 #[vi p1, vi p2, vr b1, vr b20, vu, vu, vu] [xi ((p1 &&& (2147483647 : Int32)) - ((p1 &&& (2147483647 : Int32)) / (6 : Int32)) * (6 : Int32))]) _
    refine castTop (show (mkF m 79 #[vi p1, vi p2, vr b1, vr b20, vu, vu, vu] [xi ((p1 &&& (2147483647 : Int32)) - ((p1 &&& (2147483647 : Int32)) / (6 : Int32)) * (6 : Int32))]) = (mkF m 79 #[vi p1, vi p2, vr b1, vr b20, vu, vu, vu] [xi (3 : Int32)]) from by rw [as15]) ?_
    show own_S p e below T32 (mkF m 79 #[vi p1, vi p2, vr b1, vr b20, vu, vu, vu] [xi (3 : Int32)]) _
    refine XS.istore X32.here hx rfl (hb hby at_79) rfl (l' := #[vi p1, vi p2, vr b1, vr b20, vi (3 : Int32), vu, vu]) rfl ?_
    show own_S p e below T32 (mkF m 81 #[vi p1, vi p2, vr b1, vr b20, vi (3 : Int32), vu, vu] []) _
    refine XS.iloadN X32.here hx rfl (hb hby at_81) rfl ?_
    show own_S p e below T32 (mkF m 82 #[vi p1, vi p2, vr b1, vr b20, vi (3 : Int32), vu, vu] [xi p2]) _
    refine XS.ifYes X32.here hx rfl (pc0 := 82) (pc' := 91) rfl (hb hby at_82) rfl as7 (by decide) (by decide) ?_
    show own_S p e below T32 (mkF m 91 #[vi p1, vi p2, vr b1, vr b20, vi (3 : Int32), vu, vu] []) _
    refine XS.iloadN X32.here hx rfl (hb hby at_91) rfl ?_
    show own_S p e below T32 (mkF m 92 #[vi p1, vi p2, vr b1, vr b20, vi (3 : Int32), vu, vu] [xi p2]) _
    refine XS.ifYes X32.here hx rfl (pc0 := 92) (pc' := 101) rfl (hb hby at_92) rfl as3 (by decide) (by decide) ?_
    show own_S p e below T32 (mkF m 101 #[vi p1, vi p2, vr b1, vr b20, vi (3 : Int32), vu, vu] []) _
    refine XS.iconst X32.here hx rfl (hb hby at_101) ?_
    show own_S p e below T32 (mkF m 102 #[vi p1, vi p2, vr b1, vr b20, vi (3 : Int32), vu, vu] [xi (2 : Int32)]) _
    refine XS.istore X32.here hx rfl (hb hby at_102) rfl (l' := #[vi p1, vi p2, vr b1, vr b20, vi (3 : Int32), vi (2 : Int32), vu]) rfl ?_
    show own_S p e below T32 (mkF m 104 #[vi p1, vi p2, vr b1, vr b20, vi (3 : Int32), vi (2 : Int32), vu] []) _
    refine XS.aloadN X32.here hx rfl (hb hby at_104) rfl rfl ?_
    show own_S p e below T32 (mkF m 105 #[vi p1, vi p2, vr b1, vr b20, vi (3 : Int32), vi (2 : Int32), vu] [xr b20]) _
    refine XS.iload X32.here hx rfl (hb hby at_105) rfl ?_
    show own_S p e below T32 (mkF m 107 #[vi p1, vi p2, vr b1, vr b20, vi (3 : Int32), vi (2 : Int32), vu] [xi (3 : Int32), xr b20]) _
    refine X32.iaload hx (j := (3 : Int32)) (v := (xi (3 : Int32))) (by rw [e32]; exact Ar33.1) (State.isArrayOf_alike hZ.alike Ar33.2.1) Ar33.2.2 hin33 hat33 (g := (mkF m 107 #[vi p1, vi p2, vr b1, vr b20, vi (3 : Int32), vi (2 : Int32), vu] [xi (3 : Int32), xr b20])) rfl rfl (hb hby at_107) _ ?_
    show own_S p e below T32 (mkF m 108 #[vi p1, vi p2, vr b1, vr b20, vi (3 : Int32), vi (2 : Int32), vu] [xi (3 : Int32)]) _
    refine XS.iload X32.here hx rfl (hb hby at_108) rfl ?_
    show own_S p e below T32 (mkF m 110 #[vi p1, vi p2, vr b1, vr b20, vi (3 : Int32), vi (2 : Int32), vu] [xi (2 : Int32), xi (3 : Int32)]) _
    refine XS.ishr X32.here hx rfl (hb hby at_110) rfl ?_
    show own_S p e below T32 (mkF m 111 #[vi p1, vi p2, vr b1, vr b20, vi (3 : Int32), vi (2 : Int32), vu] [xi ((3 : Int32) >>> ((2 : Int32) &&& 31))]) _
    refine castTop (show (mkF m 111 #[vi p1, vi p2, vr b1, vr b20, vi (3 : Int32), vi (2 : Int32), vu] [xi ((3 : Int32) >>> ((2 : Int32) &&& 31))]) = (mkF m 111 #[vi p1, vi p2, vr b1, vr b20, vi (3 : Int32), vi (2 : Int32), vu] [xi (0 : Int32)]) from by rw [show ((3 : Int32) >>> ((2 : Int32) &&& 31)) = (0 : Int32) from by decide]) ?_
    show own_S p e below T32 (mkF m 111 #[vi p1, vi p2, vr b1, vr b20, vi (3 : Int32), vi (2 : Int32), vu] [xi (0 : Int32)]) _
    refine XS.iconst X32.here hx rfl (hb hby at_111) ?_
    show own_S p e below T32 (mkF m 112 #[vi p1, vi p2, vr b1, vr b20, vi (3 : Int32), vi (2 : Int32), vu] [xi (1 : Int32), xi (0 : Int32)]) _
    refine XS.iand X32.here hx rfl (hb hby at_112) rfl ?_
    show own_S p e below T32 (mkF m 113 #[vi p1, vi p2, vr b1, vr b20, vi (3 : Int32), vi (2 : Int32), vu] [xi ((0 : Int32) &&& (1 : Int32))]) _
    refine castTop (show (mkF m 113 #[vi p1, vi p2, vr b1, vr b20, vi (3 : Int32), vi (2 : Int32), vu] [xi ((0 : Int32) &&& (1 : Int32))]) = (mkF m 113 #[vi p1, vi p2, vr b1, vr b20, vi (3 : Int32), vi (2 : Int32), vu] [xi (0 : Int32)]) from by rw [show ((0 : Int32) &&& (1 : Int32)) = (0 : Int32) from by decide]) ?_
    show own_S p e below T32 (mkF m 113 #[vi p1, vi p2, vr b1, vr b20, vi (3 : Int32), vi (2 : Int32), vu] [xi (0 : Int32)]) _
    refine XS.ifYes X32.here hx rfl (pc0 := 113) (pc' := 120) rfl (hb hby at_113) rfl (by decide) (by decide) (by decide) ?_
    show own_S p e below T32 (mkF m 120 #[vi p1, vi p2, vr b1, vr b20, vi (3 : Int32), vi (2 : Int32), vu] []) _
    refine XS.iconst X32.here hx rfl (hb hby at_120) ?_
    show own_S p e below T32 (mkF m 121 #[vi p1, vi p2, vr b1, vr b20, vi (3 : Int32), vi (2 : Int32), vu] [xi (0 : Int32)]) _
    refine XS.istore X32.here hx rfl (hb hby at_121) rfl (l' := #[vi p1, vi p2, vr b1, vr b20, vi (3 : Int32), vi (2 : Int32), vi (0 : Int32)]) rfl ?_
    show own_S p e below T32 (mkF m 123 #[vi p1, vi p2, vr b1, vr b20, vi (3 : Int32), vi (2 : Int32), vi (0 : Int32)] []) _
    refine XS.aloadN X32.here hx rfl (hb hby at_123) rfl rfl ?_
    show own_S p e below T32 (mkF m 124 #[vi p1, vi p2, vr b1, vr b20, vi (3 : Int32), vi (2 : Int32), vi (0 : Int32)] [xr b1]) _
    refine XS.iload X32.here hx rfl (hb hby at_124) rfl ?_
    show own_S p e below T32 (mkF m 126 #[vi p1, vi p2, vr b1, vr b20, vi (3 : Int32), vi (2 : Int32), vi (0 : Int32)] [xi (3 : Int32), xr b1]) _
    refine X32.aaload hx (j := (3 : Int32)) (v := (xr u3)) (by rw [e32]; exact Ar34.1) (State.isArrayOf_alike hZ.alike Ar34.2.1) rfl Ar34.2.2 hin34 hat34 (g := (mkF m 126 #[vi p1, vi p2, vr b1, vr b20, vi (3 : Int32), vi (2 : Int32), vi (0 : Int32)] [xi (3 : Int32), xr b1])) rfl rfl (hb hby at_126) _ ?_
    show own_S p e below T32 (mkF m 127 #[vi p1, vi p2, vr b1, vr b20, vi (3 : Int32), vi (2 : Int32), vi (0 : Int32)] [xr u3]) _
    refine XS.iloadN X32.here hx rfl (hb hby at_127) rfl ?_
    show own_S p e below T32 (mkF m 128 #[vi p1, vi p2, vr b1, vr b20, vi (3 : Int32), vi (2 : Int32), vi (0 : Int32)] [xi p2, xr u3]) _
    refine st35.trans ?_
    show own_S p e below T35 (mkF m 131 #[vi p1, vi p2, vr b1, vr b20, vi (3 : Int32), vi (2 : Int32), vi (0 : Int32)] [xi (0 : Int32)]) _
    refine XS.iload X35.here hx rfl (hb hby at_131) rfl ?_
    show own_S p e below T35 (mkF m 133 #[vi p1, vi p2, vr b1, vr b20, vi (3 : Int32), vi (2 : Int32), vi (0 : Int32)] [xi (0 : Int32), xi (0 : Int32)]) _
    refine XS.icmpNo X35.here hx rfl (hb hby at_133) rfl (by decide) ?_
    show own_S p e below T35 (mkF m 136 #[vi p1, vi p2, vr b1, vr b20, vi (3 : Int32), vi (2 : Int32), vi (0 : Int32)] []) _
    refine XS.iconst X35.here hx rfl (hb hby at_136) ?_
    show own_S p e below T35 (mkF m 137 #[vi p1, vi p2, vr b1, vr b20, vi (3 : Int32), vi (2 : Int32), vi (0 : Int32)] [xi (1 : Int32)]) _
    refine XS.goto X35.here hx rfl (pc0 := 137) (pc' := 141) rfl (hb hby at_137) (by decide) (by decide) ?_
    show own_S p e below T35 (mkF m 141 #[vi p1, vi p2, vr b1, vr b20, vi (3 : Int32), vi (2 : Int32), vi (0 : Int32)] [xi (1 : Int32)]) _
    exact retN X35 hx (t := .boolean) Bd.returns (by simp) (hb hby at_141) hr
  · exact ⟨rfl, N35⟩
theorem ef_own_c12_ordinal (m : MethodId) (u0 u1 u2 u3 u4 u5 : Addr) : entryFrame m #[xr u4] 1 = (mkF m 0 #[vr u4] []) := by first | (simp [entryFrame, mkF, argsToLocals, Value.category]; done) | rfl
set_option maxRecDepth 65536 in
set_option maxHeartbeats 40000000 in
theorem own_c12_ordinal (l : Launch) (Z : State) (a0 : Array Value) (hw : ∀ d ∈ tables_1, d.before a0 Z = true) (u0 u1 u2 u3 u4 u5 : Addr) (G : own_St Z u0 u1 u2 u3 u4 u5) (h0 : Heap) (n0 : Nat) (O0 : Old Z n0 h0) : own_Met l Z Y0 jdk_37_method_2_code 1 (some .int) ({ frames := 0, cells := 0, slots := 0, locals := 0 } : Room) #[xr u4] h0 (own_QR (some (xi (4 : Int32))) h0 n0) := by
  intro ws
  refine MetFree.of_bodySF (plainFor_of_name pn0) hisR ?_
  intro p e s m args below meth c s₁ Bd hml0 hP hK
  obtain ⟨rfl, hZ, hh⟩ := hP
  have hx := Bd.exec
  have hby := Bd.bytes
  have hml : c.maxLocals = 1 := hml0
  have hown : s.vm.findClass "java/lang/Enum" = some m.cls := findClass_of_methodNamed Bd.named
  have hnm := (name_of_methodNamed Bd.named Bd.method).1
  have X0 : Stand p l e ({ frames := 0, cells := 0, slots := 0, locals := 0 } : Room) s m #[xr u4] below meth c s₁ [] 0 0 := Stand.of_body Bd
  have e0 : s₁.heap = h0 := by rw [← hh, Bd.state]; rfl
  have N0 := Fr.nil n0
  have pre0 : ∀ t, Steps p.tables e below (s₁.setTop (mkF m 0 #[vr u4] [])) t → Steps p.tables e below (s₁.setTop (entryFrame m #[xr u4] 1)) t := fun t st => castTop (ef_own_c12_ordinal m u0 u1 u2 u3 u4 u5) st
  obtain ⟨T1, X1, e1, st1⟩ := getF X0 hx hZ hown (host := "") (Or.inl (ww hw 30 rfl)) Via.refl e0 ((own_F_u4_ordinal G).ext O0.2) (g := (mkF m 1 #[vr u4] [xr u4])) rfl rfl (hb hby d2_1)
  obtain ⟨fs, hr, hrun, hended, hW, hsame⟩ := X1.leave (v := some (xi (4 : Int32))) (fun h => by rw [Bd.returns] at h; cases h)
  refine ⟨_, _, pre0 _ ?_, hrun, hended, _, _, rfl, ?_, ⟨_, rfl⟩, hW, hsame.mono (by decide) (by decide)⟩
  · show own_S p e below s₁ (mkF m 0 #[vr u4] []) _
    refine XS.aloadN X0.here hx rfl (hb hby d2_0) rfl rfl ?_
    show own_S p e below s₁ (mkF m 1 #[vr u4] [xr u4]) _
    refine st1 _ ?_
    show own_S p e below T1 (mkF m 4 #[vr u4] [xi (4 : Int32)]) _
    exact retI X1 hx Bd.returns (hb hby d2_4) hr
  · exact ⟨rfl, N0, e1⟩
theorem d1_102 : decode prog_62_method_8_code 102 = .ok (.iload_n 1, 1) := by decide +kernel
theorem d1_103 : decode prog_62_method_8_code 103 = .ok (.ifCond .le 7, 3) := by decide +kernel
theorem d1_110 : decode prog_62_method_8_code 110 = .ok (.iconst 0, 1) := by decide +kernel
theorem d1_111 : decode prog_62_method_8_code 111 = .ok (.goto 12, 3) := by decide +kernel
theorem ef_own_c12_holds (m : MethodId) (u0 u1 u2 u3 u4 u5 : Addr) (p2 : Int32) : entryFrame m #[xr u4, xi p2] 2 = (mkF m 0 #[vr u4, vi p2] []) := by first | (simp [entryFrame, mkF, argsToLocals, Value.category]; done) | rfl
set_option maxRecDepth 65536 in
set_option maxHeartbeats 40000000 in
theorem own_c12_holds (l : Launch) (Z : State) (a0 : Array Value) (hw : ∀ d ∈ tables_1, d.before a0 Z = true) (u0 u1 u2 u3 u4 u5 : Addr) (G : own_St Z u0 u1 u2 u3 u4 u5) (p2 : Int32) (as5 : ifCond.holds .le p2 = true) (h0 : Heap) (n0 : Nat) (O0 : Old Z n0 h0) : own_Met l Z Y2 prog_62_method_8_code 2 (some .boolean) ({ frames := 1, cells := 0, slots := 0, locals := 12 } : Room) #[xr u4, xi p2] h0 (own_QR (some (xi (0 : Int32))) h0 n0) := by
  intro ws
  refine MetFree.of_bodySF (plainFor_of_name pn1) hisR ?_
  intro p e s m args below meth c s₁ Bd hml0 hP hK
  obtain ⟨rfl, hZ, hh⟩ := hP
  have hx := Bd.exec
  have hby := Bd.bytes
  have hml : c.maxLocals = 2 := hml0
  have hown : s.vm.findClass "com/example/whyle/whyle/cfa/Relation" = some m.cls := findClass_of_methodNamed Bd.named
  have hnm := (name_of_methodNamed Bd.named Bd.method).1
  have X0 : Stand p l e ({ frames := 1, cells := 0, slots := 0, locals := 12 } : Room) s m #[xr u4, xi p2] below meth c s₁ [] 0 0 := Stand.of_body Bd
  have e0 : s₁.heap = h0 := by rw [← hh, Bd.state]; rfl
  have N0 := Fr.nil n0
  have pre0 : ∀ t, Steps p.tables e below (s₁.setTop (mkF m 0 #[vr u4, vi p2] [])) t → Steps p.tables e below (s₁.setTop (entryFrame m #[xr u4, xi p2] 2)) t := fun t st => castTop (ef_own_c12_holds m u0 u1 u2 u3 u4 u5 p2) st
  obtain ⟨cq1, kq1, qa1, qb1, qc1⟩ := isOf hZ e0 ((own_X_u4 G).ext O0.2)
  obtain ⟨_, _, ⟨T1, L1, k1, n1⟩, -, X1, ⟨Lc1, hQ1, l1, y1, z1⟩, st1⟩ := X0.virtualBackUp hx (x := Y1) (y := Y0) hown (mvT hZ (ww hw 23 rfl)) (mvT hZ (ww hw 24 rfl)) (mvT hZ (ww hw 25 rfl)) (by decide) (mvT hZ (ww hw 27 rfl)) (mvT hZ (ww hw 26 rfl)) (backOf (W := 0) (own_c12_ordinal l Z a0 hw u0 u1 u2 u3 u4 u5 G h0 n0 O0 []) hZ (ww hw 29 rfl) (ww hw 28 rfl) (by decide) (by decide)) qa1 qc1 (g := (mkF m 1 #[vr u4, vi p2] [xr u4])) rfl (by rw [hml]; rfl) (Steps.refl _) (argsL := []) (rest := []) (lenOf pd0 rfl) rfl (by show 2 * 0 + _ ≤ _; exact Nat.le_of_eq rfl) (hb hby d1_1) (fun _ _ => ⟨rfl, e0, (by decide : 0 + 0 ≤ _), (by decide : 0 + 0 ≤ _)⟩)
  dsimp only [Pt.U, Pt.locs, Pt.cells, Pt.slots] at X1 l1 y1 z1 st1 hQ1
  subst l1 y1 z1
  obtain ⟨rfl, Nq1, e1⟩ := hQ1
  have N1 := Fr.app N0 Nq1
  obtain ⟨fs, hr, hrun, hended, hW, hsame⟩ := X1.leave (v := some (xi (0 : Int32))) (fun h => by rw [Bd.returns] at h; cases h)
  refine ⟨_, _, pre0 _ ?_, hrun, hended, _, _, rfl, ?_, ⟨_, rfl⟩, hW, hsame.mono (by decide) (by decide)⟩
  · show own_S p e below s₁ (mkF m 0 #[vr u4, vi p2] []) _
    refine XS.aloadN X0.here hx rfl (hb hby d1_0) rfl rfl ?_
    show own_S p e below s₁ (mkF m 1 #[vr u4, vi p2] [xr u4]) _
    refine st1.trans ?_
    show own_S p e below T1 (mkF m 4 #[vr u4, vi p2] [xi (4 : Int32)]) _
    refine XS.tswIn X1.here hx rfl (pc0 := 4) (pc' := 102) (o := 98) rfl (hb hby d1_4) rfl (by decide) (by decide) (by decide) (by decide) ?_
    show own_S p e below T1 (mkF m 102 #[vr u4, vi p2] []) _
    refine XS.iloadN X1.here hx rfl (hb hby d1_102) rfl ?_
    show own_S p e below T1 (mkF m 103 #[vr u4, vi p2] [xi p2]) _
    refine XS.ifYes X1.here hx rfl (pc0 := 103) (pc' := 110) rfl (hb hby d1_103) rfl as5 (by decide) (by decide) ?_
    show own_S p e below T1 (mkF m 110 #[vr u4, vi p2] []) _
    refine XS.iconst X1.here hx rfl (hb hby d1_110) ?_
    show own_S p e below T1 (mkF m 111 #[vr u4, vi p2] [xi (0 : Int32)]) _
    refine XS.goto X1.here hx rfl (pc0 := 111) (pc' := 123) rfl (hb hby d1_111) (by decide) (by decide) ?_
    show own_S p e below T1 (mkF m 123 #[vr u4, vi p2] [xi (0 : Int32)]) _
    exact retN X1 hx (t := .boolean) Bd.returns (by simp) (hb hby d1_123) hr
  · exact ⟨rfl, N1, e1⟩
theorem ef_own_l12 (m : MethodId) (u0 u1 u2 u3 u4 u5 : Addr) (p1 : Int32) (p2 : Int32) : entryFrame m #[xi p1, xi p2] maxLocals = (mkF m 0 #[vi p1, vi p2, vu, vu, vu, vu, vu] []) := by first | (simp [entryFrame, mkF, argsToLocals, Value.category, maxLocals]; done) | rfl
set_option maxRecDepth 65536 in
set_option maxHeartbeats 40000000 in
theorem own_l12 (l : Launch) (Z : State) (a0 : Array Value) (hw : ∀ d ∈ tables_1, d.before a0 Z = true) (u0 u1 u2 u3 u4 u5 : Addr) (G : own_St Z u0 u1 u2 u3 u4 u5) (p1 : Int32) (p2 : Int32) (as16 : ((p1 &&& (2147483647 : Int32)) - ((p1 &&& (2147483647 : Int32)) / (6 : Int32)) * (6 : Int32)) = (4 : Int32)) (as1 : ifCond.holds .ge p2 = false) (as5 : ifCond.holds .le p2 = true) (h0 : Heap) (n0 : Nat) (O0 : Old Z n0 h0) : own_Met l Z x code maxLocals ret room_1 #[xi p1, xi p2] h0 (own_QL (some (xi (1 : Int32))) n0) := by
  intro ws
  refine MetFree.of_bodySF (plainFor_of_name pn2) hisR ?_
  intro p e s m args below meth c s₁ Bd hml0 hP hK
  obtain ⟨rfl, hZ, hh⟩ := hP
  have hx := Bd.exec
  have hby := Bd.bytes
  have hml : c.maxLocals = 7 := hml0
  have hown : s.vm.findClass "com/example/whyle/whyle/cfa/RelationHoldsPinLaw" = some m.cls := findClass_of_methodNamed Bd.named
  have hnm := (name_of_methodNamed Bd.named Bd.method).1
  have X0 : Stand p l e room_1 s m #[xi p1, xi p2] below meth c s₁ [] 0 0 := Stand.of_body Bd
  have e0 : s₁.heap = h0 := by rw [← hh, Bd.state]; rfl
  have N0 := Fr.nil n0
  have pre0 : ∀ t, Steps p.tables e below (s₁.setTop (mkF m 0 #[vi p1, vi p2, vu, vu, vu, vu, vu] [])) t → Steps p.tables e below (s₁.setTop (entryFrame m #[xi p1, xi p2] maxLocals)) t := fun t st => castTop (ef_own_l12 m u0 u1 u2 u3 u4 u5 p1 p2) st
  obtain ⟨T1, h1, k1, X1, e1, E1, A1, Ov1, st1⟩ := newR X0 hx hZ hown (ww hw 0 rfl) (ww hw 1 rfl) e0 (g := (mkF m 2 #[vi p1, vi p2, vu, vu, vu, vu, vu] [xi (6 : Int32)])) rfl (hb hby at_2) rfl (by decide) (cap := 6) (by decide) (by decide) (by decide) (by decide)
  obtain ⟨b1, g1⟩ : ∃ z, z = h0.size := ⟨_, rfl⟩
  rw [← g1] at A1 st1
  have g_b1 : n0 ≤ b1 := own_fresh O0 g1
  have O1 : Old Z n0 h1 := O0.ext E1
  have V_b1 : Arv Z h1 b1 k1 (.object "com/example/whyle/whyle/cfa/Relation") (6 : Int32) [.null, .null, .null, .null, .null, .null] .null := (Arv.new A1 (by decide)).pad (pad_rep [] .null 6)
  obtain ⟨T2, X2, e2, st2⟩ := getS2 X1 hx hZ hown (host := "") (Or.inl (ww hw 2 rfl)) Via.refl e1 ((own_S_u0 G).ext O1.2) (g := (mkF m 7 #[vi p1, vi p2, vu, vu, vu, vu, vu] [xi (0 : Int32), xr b1, xr b1])) rfl (hb hby at_7)
  obtain ⟨cl3, Ar3, q3, S3, N3_, H3, G3⟩ := V_b1
  have hin3 : ¬ ((0 : Int32) < 0 ∨ cl3.slots.size ≤ ((0 : Int32)).toNatClampNeg) := inb_of S3 ⟨by decide, by decide⟩
  obtain ⟨T4, h4, X4, e4, W4, st4⟩ := stR X2 hx hZ e2 Ar3 (j := (0 : Int32)) hin3 rfl (Sto.ofV Ar3 q3 Ov1 (Ins.self ((own_X_u0 G).ext O1.2))) (g := (mkF m 10 #[vi p1, vi p2, vu, vu, vu, vu, vu] [xr u0, xi (0 : Int32), xr b1, xr b1])) rfl rfl (hb hby at_10)
  have V_b1_4 : Arv Z h4 b1 k1 (.object "com/example/whyle/whyle/cfa/Relation") (6 : Int32) [xr u0, .null, .null, .null, .null, .null] .null := Arv.set Ar3 q3 S3 N3_ H3 G3 rfl W4 0 rfl (Nat.le_of_ble_eq_true rfl)
  have O4 : Old Z n0 h4 := O1.wr W4 g_b1
  have N4 := Fr.snoc X4 N0 g_b1
  obtain ⟨T5, X5, e5, st5⟩ := getS2 X4 hx hZ hown (host := "") (Or.inl (ww hw 6 rfl)) Via.refl e4 ((own_S_u1 G).ext O4.2) (g := (mkF m 13 #[vi p1, vi p2, vu, vu, vu, vu, vu] [xi (1 : Int32), xr b1, xr b1])) rfl (hb hby at_13)
  obtain ⟨cl6, Ar6, q6, S6, N6_, H6, G6⟩ := V_b1_4
  have hin6 : ¬ ((1 : Int32) < 0 ∨ cl6.slots.size ≤ ((1 : Int32)).toNatClampNeg) := inb_of S6 ⟨by decide, by decide⟩
  obtain ⟨T7, h7, X7, e7, W7, st7⟩ := stR X5 hx hZ e5 Ar6 (j := (1 : Int32)) hin6 rfl (Sto.ofV Ar6 q6 Ov1 (Ins.self ((own_X_u1 G).ext O4.2))) (g := (mkF m 16 #[vi p1, vi p2, vu, vu, vu, vu, vu] [xr u1, xi (1 : Int32), xr b1, xr b1])) rfl rfl (hb hby at_16)
  have V_b1_7 : Arv Z h7 b1 k1 (.object "com/example/whyle/whyle/cfa/Relation") (6 : Int32) [xr u0, xr u1, .null, .null, .null, .null] .null := Arv.set Ar6 q6 S6 N6_ H6 G6 rfl W7 1 rfl (Nat.le_of_ble_eq_true rfl)
  have O7 : Old Z n0 h7 := O4.wr W7 g_b1
  have N7 := Fr.snoc X7 N4 g_b1
  obtain ⟨T8, X8, e8, st8⟩ := getS2 X7 hx hZ hown (host := "") (Or.inl (ww hw 8 rfl)) Via.refl e7 ((own_S_u2 G).ext O7.2) (g := (mkF m 19 #[vi p1, vi p2, vu, vu, vu, vu, vu] [xi (2 : Int32), xr b1, xr b1])) rfl (hb hby at_19)
  obtain ⟨cl9, Ar9, q9, S9, N9_, H9, G9⟩ := V_b1_7
  have hin9 : ¬ ((2 : Int32) < 0 ∨ cl9.slots.size ≤ ((2 : Int32)).toNatClampNeg) := inb_of S9 ⟨by decide, by decide⟩
  obtain ⟨T10, h10, X10, e10, W10, st10⟩ := stR X8 hx hZ e8 Ar9 (j := (2 : Int32)) hin9 rfl (Sto.ofV Ar9 q9 Ov1 (Ins.self ((own_X_u2 G).ext O7.2))) (g := (mkF m 22 #[vi p1, vi p2, vu, vu, vu, vu, vu] [xr u2, xi (2 : Int32), xr b1, xr b1])) rfl rfl (hb hby at_22)
  have V_b1_10 : Arv Z h10 b1 k1 (.object "com/example/whyle/whyle/cfa/Relation") (6 : Int32) [xr u0, xr u1, xr u2, .null, .null, .null] .null := Arv.set Ar9 q9 S9 N9_ H9 G9 rfl W10 2 rfl (Nat.le_of_ble_eq_true rfl)
  have O10 : Old Z n0 h10 := O7.wr W10 g_b1
  have N10 := Fr.snoc X10 N7 g_b1
  obtain ⟨T11, X11, e11, st11⟩ := getS2 X10 hx hZ hown (host := "") (Or.inl (ww hw 10 rfl)) Via.refl e10 ((own_S_u3 G).ext O10.2) (g := (mkF m 25 #[vi p1, vi p2, vu, vu, vu, vu, vu] [xi (3 : Int32), xr b1, xr b1])) rfl (hb hby at_25)
  obtain ⟨cl12, Ar12, q12, S12, N12_, H12, G12⟩ := V_b1_10
  have hin12 : ¬ ((3 : Int32) < 0 ∨ cl12.slots.size ≤ ((3 : Int32)).toNatClampNeg) := inb_of S12 ⟨by decide, by decide⟩
  obtain ⟨T13, h13, X13, e13, W13, st13⟩ := stR X11 hx hZ e11 Ar12 (j := (3 : Int32)) hin12 rfl (Sto.ofV Ar12 q12 Ov1 (Ins.self ((own_X_u3 G).ext O10.2))) (g := (mkF m 28 #[vi p1, vi p2, vu, vu, vu, vu, vu] [xr u3, xi (3 : Int32), xr b1, xr b1])) rfl rfl (hb hby at_28)
  have V_b1_13 : Arv Z h13 b1 k1 (.object "com/example/whyle/whyle/cfa/Relation") (6 : Int32) [xr u0, xr u1, xr u2, xr u3, .null, .null] .null := Arv.set Ar12 q12 S12 N12_ H12 G12 rfl W13 3 rfl (Nat.le_of_ble_eq_true rfl)
  have O13 : Old Z n0 h13 := O10.wr W13 g_b1
  have N13 := Fr.snoc X13 N10 g_b1
  obtain ⟨T14, X14, e14, st14⟩ := getS2 X13 hx hZ hown (host := "") (Or.inl (ww hw 12 rfl)) Via.refl e13 ((own_S_u4 G).ext O13.2) (g := (mkF m 31 #[vi p1, vi p2, vu, vu, vu, vu, vu] [xi (4 : Int32), xr b1, xr b1])) rfl (hb hby at_31)
  obtain ⟨cl15, Ar15, q15, S15, N15_, H15, G15⟩ := V_b1_13
  have hin15 : ¬ ((4 : Int32) < 0 ∨ cl15.slots.size ≤ ((4 : Int32)).toNatClampNeg) := inb_of S15 ⟨by decide, by decide⟩
  obtain ⟨T16, h16, X16, e16, W16, st16⟩ := stR X14 hx hZ e14 Ar15 (j := (4 : Int32)) hin15 rfl (Sto.ofV Ar15 q15 Ov1 (Ins.self ((own_X_u4 G).ext O13.2))) (g := (mkF m 34 #[vi p1, vi p2, vu, vu, vu, vu, vu] [xr u4, xi (4 : Int32), xr b1, xr b1])) rfl rfl (hb hby at_34)
  have V_b1_16 : Arv Z h16 b1 k1 (.object "com/example/whyle/whyle/cfa/Relation") (6 : Int32) [xr u0, xr u1, xr u2, xr u3, xr u4, .null] .null := Arv.set Ar15 q15 S15 N15_ H15 G15 rfl W16 4 rfl (Nat.le_of_ble_eq_true rfl)
  have O16 : Old Z n0 h16 := O13.wr W16 g_b1
  have N16 := Fr.snoc X16 N13 g_b1
  obtain ⟨T17, X17, e17, st17⟩ := getS2 X16 hx hZ hown (host := "") (Or.inl (ww hw 14 rfl)) Via.refl e16 ((own_S_u5 G).ext O16.2) (g := (mkF m 37 #[vi p1, vi p2, vu, vu, vu, vu, vu] [xi (5 : Int32), xr b1, xr b1])) rfl (hb hby at_37)
  obtain ⟨cl18, Ar18, q18, S18, N18_, H18, G18⟩ := V_b1_16
  have hin18 : ¬ ((5 : Int32) < 0 ∨ cl18.slots.size ≤ ((5 : Int32)).toNatClampNeg) := inb_of S18 ⟨by decide, by decide⟩
  obtain ⟨T19, h19, X19, e19, W19, st19⟩ := stR X17 hx hZ e17 Ar18 (j := (5 : Int32)) hin18 rfl (Sto.ofV Ar18 q18 Ov1 (Ins.self ((own_X_u5 G).ext O16.2))) (g := (mkF m 40 #[vi p1, vi p2, vu, vu, vu, vu, vu] [xr u5, xi (5 : Int32), xr b1, xr b1])) rfl rfl (hb hby at_40)
  have V_b1_19 : Arv Z h19 b1 k1 (.object "com/example/whyle/whyle/cfa/Relation") (6 : Int32) [xr u0, xr u1, xr u2, xr u3, xr u4, xr u5] .null := Arv.set Ar18 q18 S18 N18_ H18 G18 rfl W19 5 rfl (Nat.le_of_ble_eq_true rfl)
  have O19 : Old Z n0 h19 := O16.wr W19 g_b1
  have N19 := Fr.snoc X19 N16 g_b1
  obtain ⟨T20, h20, k20, X20, e20, E20, A20, st20⟩ := newP X19 hx hZ (ww hw 16 rfl) e19 (g := (mkF m 44 #[vi p1, vi p2, vr b1, vu, vu, vu, vu] [xi (6 : Int32)])) rfl (hb hby at_44) rfl (by decide) (cap := 6) (by decide) (by decide) (by decide) (by decide)
  obtain ⟨b20, g20⟩ : ∃ z, z = h19.size := ⟨_, rfl⟩
  rw [← g20] at A20 st20
  have g_b20 : n0 ≤ b20 := own_fresh O19 g20
  have ne_b1_b20 : b1 ≠ b20 := Nat.ne_of_lt (Nat.lt_of_lt_of_le (V_b1_19).lt (Nat.le_of_eq g20.symm))
  have O20 : Old Z n0 h20 := O19.ext E20
  have V_b1_20 := V_b1_19.ext E20
  have V_b20 : Arv Z h20 b20 k20 .int (6 : Int32) [(.int (0 : Int32)), (.int (0 : Int32)), (.int (0 : Int32)), (.int (0 : Int32)), (.int (0 : Int32)), (.int (0 : Int32))] (.int (0 : Int32)) := (Arv.new A20 (by decide)).pad (pad_rep [] (.int (0 : Int32)) 6)
  obtain ⟨cl21, Ar21, q21, S21, N21_, H21, G21⟩ := V_b20
  have hin21 : ¬ ((0 : Int32) < 0 ∨ cl21.slots.size ≤ ((0 : Int32)).toNatClampNeg) := inb_of S21 ⟨by decide, by decide⟩
  obtain ⟨T22, h22, X22, e22, W22, st22⟩ := stI X20 hx hZ e20 Ar21 (j := (0 : Int32)) hin21 (g := (mkF m 49 #[vi p1, vi p2, vr b1, vu, vu, vu, vu] [xi (2 : Int32), xi (0 : Int32), xr b20, xr b20])) rfl rfl (hb hby at_49)
  have V_b20_22 : Arv Z h22 b20 k20 .int (6 : Int32) [xi (2 : Int32), xi (0 : Int32), xi (0 : Int32), xi (0 : Int32), xi (0 : Int32), xi (0 : Int32)] (.int (0 : Int32)) := Arv.set Ar21 q21 S21 N21_ H21 G21 rfl W22 0 rfl (Nat.le_of_ble_eq_true rfl)
  have O22 : Old Z n0 h22 := O20.wr W22 g_b20
  have V_b1_22 := V_b1_20.other W22 ne_b1_b20
  have N22 := Fr.snoc X22 N19 g_b20
  obtain ⟨cl23, Ar23, q23, S23, N23_, H23, G23⟩ := V_b20_22
  have hin23 : ¬ ((1 : Int32) < 0 ∨ cl23.slots.size ≤ ((1 : Int32)).toNatClampNeg) := inb_of S23 ⟨by decide, by decide⟩
  obtain ⟨T24, h24, X24, e24, W24, st24⟩ := stI X22 hx hZ e22 Ar23 (j := (1 : Int32)) hin23 (g := (mkF m 53 #[vi p1, vi p2, vr b1, vu, vu, vu, vu] [xi (5 : Int32), xi (1 : Int32), xr b20, xr b20])) rfl rfl (hb hby at_53)
  have V_b20_24 : Arv Z h24 b20 k20 .int (6 : Int32) [xi (2 : Int32), xi (5 : Int32), xi (0 : Int32), xi (0 : Int32), xi (0 : Int32), xi (0 : Int32)] (.int (0 : Int32)) := Arv.set Ar23 q23 S23 N23_ H23 G23 rfl W24 1 rfl (Nat.le_of_ble_eq_true rfl)
  have O24 : Old Z n0 h24 := O22.wr W24 g_b20
  have V_b1_24 := V_b1_22.other W24 ne_b1_b20
  have N24 := Fr.snoc X24 N22 g_b20
  obtain ⟨cl25, Ar25, q25, S25, N25_, H25, G25⟩ := V_b20_24
  have hin25 : ¬ ((2 : Int32) < 0 ∨ cl25.slots.size ≤ ((2 : Int32)).toNatClampNeg) := inb_of S25 ⟨by decide, by decide⟩
  obtain ⟨T26, h26, X26, e26, W26, st26⟩ := stI X24 hx hZ e24 Ar25 (j := (2 : Int32)) hin25 (g := (mkF m 57 #[vi p1, vi p2, vr b1, vu, vu, vu, vu] [xi (1 : Int32), xi (2 : Int32), xr b20, xr b20])) rfl rfl (hb hby at_57)
  have V_b20_26 : Arv Z h26 b20 k20 .int (6 : Int32) [xi (2 : Int32), xi (5 : Int32), xi (1 : Int32), xi (0 : Int32), xi (0 : Int32), xi (0 : Int32)] (.int (0 : Int32)) := Arv.set Ar25 q25 S25 N25_ H25 G25 rfl W26 2 rfl (Nat.le_of_ble_eq_true rfl)
  have O26 : Old Z n0 h26 := O24.wr W26 g_b20
  have V_b1_26 := V_b1_24.other W26 ne_b1_b20
  have N26 := Fr.snoc X26 N24 g_b20
  obtain ⟨cl27, Ar27, q27, S27, N27_, H27, G27⟩ := V_b20_26
  have hin27 : ¬ ((3 : Int32) < 0 ∨ cl27.slots.size ≤ ((3 : Int32)).toNatClampNeg) := inb_of S27 ⟨by decide, by decide⟩
  obtain ⟨T28, h28, X28, e28, W28, st28⟩ := stI X26 hx hZ e26 Ar27 (j := (3 : Int32)) hin27 (g := (mkF m 61 #[vi p1, vi p2, vr b1, vu, vu, vu, vu] [xi (3 : Int32), xi (3 : Int32), xr b20, xr b20])) rfl rfl (hb hby at_61)
  have V_b20_28 : Arv Z h28 b20 k20 .int (6 : Int32) [xi (2 : Int32), xi (5 : Int32), xi (1 : Int32), xi (3 : Int32), xi (0 : Int32), xi (0 : Int32)] (.int (0 : Int32)) := Arv.set Ar27 q27 S27 N27_ H27 G27 rfl W28 3 rfl (Nat.le_of_ble_eq_true rfl)
  have O28 : Old Z n0 h28 := O26.wr W28 g_b20
  have V_b1_28 := V_b1_26.other W28 ne_b1_b20
  have N28 := Fr.snoc X28 N26 g_b20
  obtain ⟨cl29, Ar29, q29, S29, N29_, H29, G29⟩ := V_b20_28
  have hin29 : ¬ ((4 : Int32) < 0 ∨ cl29.slots.size ≤ ((4 : Int32)).toNatClampNeg) := inb_of S29 ⟨by decide, by decide⟩
  obtain ⟨T30, h30, X30, e30, W30, st30⟩ := stI X28 hx hZ e28 Ar29 (j := (4 : Int32)) hin29 (g := (mkF m 65 #[vi p1, vi p2, vr b1, vu, vu, vu, vu] [xi (4 : Int32), xi (4 : Int32), xr b20, xr b20])) rfl rfl (hb hby at_65)
  have V_b20_30 : Arv Z h30 b20 k20 .int (6 : Int32) [xi (2 : Int32), xi (5 : Int32), xi (1 : Int32), xi (3 : Int32), xi (4 : Int32), xi (0 : Int32)] (.int (0 : Int32)) := Arv.set Ar29 q29 S29 N29_ H29 G29 rfl W30 4 rfl (Nat.le_of_ble_eq_true rfl)
  have O30 : Old Z n0 h30 := O28.wr W30 g_b20
  have V_b1_30 := V_b1_28.other W30 ne_b1_b20
  have N30 := Fr.snoc X30 N28 g_b20
  obtain ⟨cl31, Ar31, q31, S31, N31_, H31, G31⟩ := V_b20_30
  have hin31 : ¬ ((5 : Int32) < 0 ∨ cl31.slots.size ≤ ((5 : Int32)).toNatClampNeg) := inb_of S31 ⟨by decide, by decide⟩
  obtain ⟨T32, h32, X32, e32, W32, st32⟩ := stI X30 hx hZ e30 Ar31 (j := (5 : Int32)) hin31 (g := (mkF m 70 #[vi p1, vi p2, vr b1, vu, vu, vu, vu] [xi (6 : Int32), xi (5 : Int32), xr b20, xr b20])) rfl rfl (hb hby at_70)
  have V_b20_32 : Arv Z h32 b20 k20 .int (6 : Int32) [xi (2 : Int32), xi (5 : Int32), xi (1 : Int32), xi (3 : Int32), xi (4 : Int32), xi (6 : Int32)] (.int (0 : Int32)) := Arv.set Ar31 q31 S31 N31_ H31 G31 rfl W32 5 rfl (Nat.le_of_ble_eq_true rfl)
  have O32 : Old Z n0 h32 := O30.wr W32 g_b20
  have V_b1_32 := V_b1_30.other W32 ne_b1_b20
  have N32 := Fr.snoc X32 N30 g_b20
  obtain ⟨cl33, Ar33, q33, S33, N33_, H33, G33⟩ := V_b20_32
  have hin33 : ¬ ((4 : Int32) < 0 ∨ cl33.slots.size ≤ ((4 : Int32)).toNatClampNeg) := inb_of S33 ⟨by decide, by decide⟩
  have hat33 : cl33.slots[((4 : Int32)).toNatClampNeg]? = some (xi (4 : Int32)) := Has.at H33 hin33 rfl
  obtain ⟨cl34, Ar34, q34, S34, N34_, H34, G34⟩ := V_b1_32
  have hin34 : ¬ ((4 : Int32) < 0 ∨ cl34.slots.size ≤ ((4 : Int32)).toNatClampNeg) := inb_of S34 ⟨by decide, by decide⟩
  have hat34 : cl34.slots[((4 : Int32)).toNatClampNeg]? = some (xr u4) := Has.at H34 hin34 rfl
  obtain ⟨cq35, kq35, qa35, qb35, qc35⟩ := isOf hZ e32 ((own_X_u4 G).ext O32.2)
  obtain ⟨_, _, ⟨T35, L35, k35, n35⟩, -, X35, ⟨Lc35, hQ35, l35, y35, z35⟩, st35⟩ := X32.virtualBack hx (y := Y2) (z := Y2) hown (mvT hZ (ww hw 18 rfl)) (mvT hZ (ww hw 19 rfl)) (notFace_of_selects (args := #[]) (mvT hZ (ww hw 21 rfl))) (mvT hZ (ww hw 21 rfl)) (mvT hZ (ww hw 20 rfl)) (by decide) (backOf (W := 0) (own_c12_holds l Z a0 hw u0 u1 u2 u3 u4 u5 G p2 as5 h32 n0 O32 []) hZ (ww hw 22 rfl) (ww hw 3 rfl) (by decide) (by decide)) qa35 qc35 (g := (mkF m 128 #[vi p1, vi p2, vr b1, vr b20, vi (4 : Int32), vi (0 : Int32), vi (0 : Int32)] [xi p2, xr u4])) rfl (by rw [hml]; rfl) (Steps.refl _) (argsL := [xi p2]) (rest := []) (lenOf pd1 rfl) rfl (by show 2 * 0 + _ ≤ _; exact Nat.le_of_eq rfl) (hb hby at_128) (fun _ _ => ⟨rfl, e32, (by decide : 2 + 0 ≤ _), (by decide : 12 + 0 ≤ _)⟩)
  dsimp only [Pt.U, Pt.locs, Pt.cells, Pt.slots] at X35 l35 y35 z35 st35 hQ35
  subst l35 y35 z35
  obtain ⟨rfl, Nq35, e35⟩ := hQ35
  have N35 := Fr.app N32 Nq35
  obtain ⟨fs, hr, hrun, hended, hW, hsame⟩ := X35.leave (v := some (xi (1 : Int32))) (fun h => by rw [Bd.returns] at h; cases h)
  refine ⟨_, _, pre0 _ ?_, hrun, hended, _, _, rfl, ?_, ⟨_, rfl⟩, hW, hsame.mono (by decide) (by decide)⟩
  · show own_S p e below s₁ (mkF m 0 #[vi p1, vi p2, vu, vu, vu, vu, vu] []) _
    refine XS.bipush X0.here hx rfl (hb hby at_0) ?_
    show own_S p e below s₁ (mkF m 2 #[vi p1, vi p2, vu, vu, vu, vu, vu] [xi (6 : Int32)]) _
    refine st1 _ ?_
    show own_S p e below T1 (mkF m 5 #[vi p1, vi p2, vu, vu, vu, vu, vu] [xr b1]) _
    refine XS.dup X1.here hx rfl (hb hby at_5) rfl rfl ?_
    show own_S p e below T1 (mkF m 6 #[vi p1, vi p2, vu, vu, vu, vu, vu] [xr b1, xr b1]) _
    refine XS.iconst X1.here hx rfl (hb hby at_6) ?_
    show own_S p e below T1 (mkF m 7 #[vi p1, vi p2, vu, vu, vu, vu, vu] [xi (0 : Int32), xr b1, xr b1]) _
    refine st2 _ ?_
    show own_S p e below T2 (mkF m 10 #[vi p1, vi p2, vu, vu, vu, vu, vu] [xr u0, xi (0 : Int32), xr b1, xr b1]) _
    refine st4 _ ?_
    show own_S p e below T4 (mkF m 11 #[vi p1, vi p2, vu, vu, vu, vu, vu] [xr b1]) _
    refine XS.dup X4.here hx rfl (hb hby at_11) rfl rfl ?_
    show own_S p e below T4 (mkF m 12 #[vi p1, vi p2, vu, vu, vu, vu, vu] [xr b1, xr b1]) _
    refine XS.iconst X4.here hx rfl (hb hby at_12) ?_
    show own_S p e below T4 (mkF m 13 #[vi p1, vi p2, vu, vu, vu, vu, vu] [xi (1 : Int32), xr b1, xr b1]) _
    refine st5 _ ?_
    show own_S p e below T5 (mkF m 16 #[vi p1, vi p2, vu, vu, vu, vu, vu] [xr u1, xi (1 : Int32), xr b1, xr b1]) _
    refine st7 _ ?_
    show own_S p e below T7 (mkF m 17 #[vi p1, vi p2, vu, vu, vu, vu, vu] [xr b1]) _
    refine XS.dup X7.here hx rfl (hb hby at_17) rfl rfl ?_
    show own_S p e below T7 (mkF m 18 #[vi p1, vi p2, vu, vu, vu, vu, vu] [xr b1, xr b1]) _
    refine XS.iconst X7.here hx rfl (hb hby at_18) ?_
    show own_S p e below T7 (mkF m 19 #[vi p1, vi p2, vu, vu, vu, vu, vu] [xi (2 : Int32), xr b1, xr b1]) _
    refine st8 _ ?_
    show own_S p e below T8 (mkF m 22 #[vi p1, vi p2, vu, vu, vu, vu, vu] [xr u2, xi (2 : Int32), xr b1, xr b1]) _
    refine st10 _ ?_
    show own_S p e below T10 (mkF m 23 #[vi p1, vi p2, vu, vu, vu, vu, vu] [xr b1]) _
    refine XS.dup X10.here hx rfl (hb hby at_23) rfl rfl ?_
    show own_S p e below T10 (mkF m 24 #[vi p1, vi p2, vu, vu, vu, vu, vu] [xr b1, xr b1]) _
    refine XS.iconst X10.here hx rfl (hb hby at_24) ?_
    show own_S p e below T10 (mkF m 25 #[vi p1, vi p2, vu, vu, vu, vu, vu] [xi (3 : Int32), xr b1, xr b1]) _
    refine st11 _ ?_
    show own_S p e below T11 (mkF m 28 #[vi p1, vi p2, vu, vu, vu, vu, vu] [xr u3, xi (3 : Int32), xr b1, xr b1]) _
    refine st13 _ ?_
    show own_S p e below T13 (mkF m 29 #[vi p1, vi p2, vu, vu, vu, vu, vu] [xr b1]) _
    refine XS.dup X13.here hx rfl (hb hby at_29) rfl rfl ?_
    show own_S p e below T13 (mkF m 30 #[vi p1, vi p2, vu, vu, vu, vu, vu] [xr b1, xr b1]) _
    refine XS.iconst X13.here hx rfl (hb hby at_30) ?_
    show own_S p e below T13 (mkF m 31 #[vi p1, vi p2, vu, vu, vu, vu, vu] [xi (4 : Int32), xr b1, xr b1]) _
    refine st14 _ ?_
    show own_S p e below T14 (mkF m 34 #[vi p1, vi p2, vu, vu, vu, vu, vu] [xr u4, xi (4 : Int32), xr b1, xr b1]) _
    refine st16 _ ?_
    show own_S p e below T16 (mkF m 35 #[vi p1, vi p2, vu, vu, vu, vu, vu] [xr b1]) _
    refine XS.dup X16.here hx rfl (hb hby at_35) rfl rfl ?_
    show own_S p e below T16 (mkF m 36 #[vi p1, vi p2, vu, vu, vu, vu, vu] [xr b1, xr b1]) _
    refine XS.iconst X16.here hx rfl (hb hby at_36) ?_
    show own_S p e below T16 (mkF m 37 #[vi p1, vi p2, vu, vu, vu, vu, vu] [xi (5 : Int32), xr b1, xr b1]) _
    refine st17 _ ?_
    show own_S p e below T17 (mkF m 40 #[vi p1, vi p2, vu, vu, vu, vu, vu] [xr u5, xi (5 : Int32), xr b1, xr b1]) _
    refine st19 _ ?_
    show own_S p e below T19 (mkF m 41 #[vi p1, vi p2, vu, vu, vu, vu, vu] [xr b1]) _
    refine XS.astoreN X19.here hx rfl (hb hby at_41) rfl rfl (l' := #[vi p1, vi p2, vr b1, vu, vu, vu, vu]) rfl ?_
    show own_S p e below T19 (mkF m 42 #[vi p1, vi p2, vr b1, vu, vu, vu, vu] []) _
    refine XS.bipush X19.here hx rfl (hb hby at_42) ?_
    show own_S p e below T19 (mkF m 44 #[vi p1, vi p2, vr b1, vu, vu, vu, vu] [xi (6 : Int32)]) _
    refine st20 _ ?_
    show own_S p e below T20 (mkF m 46 #[vi p1, vi p2, vr b1, vu, vu, vu, vu] [xr b20]) _
    refine XS.dup X20.here hx rfl (hb hby at_46) rfl rfl ?_
    show own_S p e below T20 (mkF m 47 #[vi p1, vi p2, vr b1, vu, vu, vu, vu] [xr b20, xr b20]) _
    refine XS.iconst X20.here hx rfl (hb hby at_47) ?_
    show own_S p e below T20 (mkF m 48 #[vi p1, vi p2, vr b1, vu, vu, vu, vu] [xi (0 : Int32), xr b20, xr b20]) _
    refine XS.iconst X20.here hx rfl (hb hby at_48) ?_
    show own_S p e below T20 (mkF m 49 #[vi p1, vi p2, vr b1, vu, vu, vu, vu] [xi (2 : Int32), xi (0 : Int32), xr b20, xr b20]) _
    refine st22 _ ?_
    show own_S p e below T22 (mkF m 50 #[vi p1, vi p2, vr b1, vu, vu, vu, vu] [xr b20]) _
    refine XS.dup X22.here hx rfl (hb hby at_50) rfl rfl ?_
    show own_S p e below T22 (mkF m 51 #[vi p1, vi p2, vr b1, vu, vu, vu, vu] [xr b20, xr b20]) _
    refine XS.iconst X22.here hx rfl (hb hby at_51) ?_
    show own_S p e below T22 (mkF m 52 #[vi p1, vi p2, vr b1, vu, vu, vu, vu] [xi (1 : Int32), xr b20, xr b20]) _
    refine XS.iconst X22.here hx rfl (hb hby at_52) ?_
    show own_S p e below T22 (mkF m 53 #[vi p1, vi p2, vr b1, vu, vu, vu, vu] [xi (5 : Int32), xi (1 : Int32), xr b20, xr b20]) _
    refine st24 _ ?_
    show own_S p e below T24 (mkF m 54 #[vi p1, vi p2, vr b1, vu, vu, vu, vu] [xr b20]) _
    refine XS.dup X24.here hx rfl (hb hby at_54) rfl rfl ?_
    show own_S p e below T24 (mkF m 55 #[vi p1, vi p2, vr b1, vu, vu, vu, vu] [xr b20, xr b20]) _
    refine XS.iconst X24.here hx rfl (hb hby at_55) ?_
    show own_S p e below T24 (mkF m 56 #[vi p1, vi p2, vr b1, vu, vu, vu, vu] [xi (2 : Int32), xr b20, xr b20]) _
    refine XS.iconst X24.here hx rfl (hb hby at_56) ?_
    show own_S p e below T24 (mkF m 57 #[vi p1, vi p2, vr b1, vu, vu, vu, vu] [xi (1 : Int32), xi (2 : Int32), xr b20, xr b20]) _
    refine st26 _ ?_
    show own_S p e below T26 (mkF m 58 #[vi p1, vi p2, vr b1, vu, vu, vu, vu] [xr b20]) _
    refine XS.dup X26.here hx rfl (hb hby at_58) rfl rfl ?_
    show own_S p e below T26 (mkF m 59 #[vi p1, vi p2, vr b1, vu, vu, vu, vu] [xr b20, xr b20]) _
    refine XS.iconst X26.here hx rfl (hb hby at_59) ?_
    show own_S p e below T26 (mkF m 60 #[vi p1, vi p2, vr b1, vu, vu, vu, vu] [xi (3 : Int32), xr b20, xr b20]) _
    refine XS.iconst X26.here hx rfl (hb hby at_60) ?_
    show own_S p e below T26 (mkF m 61 #[vi p1, vi p2, vr b1, vu, vu, vu, vu] [xi (3 : Int32), xi (3 : Int32), xr b20, xr b20]) _
    refine st28 _ ?_
    show own_S p e below T28 (mkF m 62 #[vi p1, vi p2, vr b1, vu, vu, vu, vu] [xr b20]) _
    refine XS.dup X28.here hx rfl (hb hby at_62) rfl rfl ?_
    show own_S p e below T28 (mkF m 63 #[vi p1, vi p2, vr b1, vu, vu, vu, vu] [xr b20, xr b20]) _
    refine XS.iconst X28.here hx rfl (hb hby at_63) ?_
    show own_S p e below T28 (mkF m 64 #[vi p1, vi p2, vr b1, vu, vu, vu, vu] [xi (4 : Int32), xr b20, xr b20]) _
    refine XS.iconst X28.here hx rfl (hb hby at_64) ?_
    show own_S p e below T28 (mkF m 65 #[vi p1, vi p2, vr b1, vu, vu, vu, vu] [xi (4 : Int32), xi (4 : Int32), xr b20, xr b20]) _
    refine st30 _ ?_
    show own_S p e below T30 (mkF m 66 #[vi p1, vi p2, vr b1, vu, vu, vu, vu] [xr b20]) _
    refine XS.dup X30.here hx rfl (hb hby at_66) rfl rfl ?_
    show own_S p e below T30 (mkF m 67 #[vi p1, vi p2, vr b1, vu, vu, vu, vu] [xr b20, xr b20]) _
    refine XS.iconst X30.here hx rfl (hb hby at_67) ?_
    show own_S p e below T30 (mkF m 68 #[vi p1, vi p2, vr b1, vu, vu, vu, vu] [xi (5 : Int32), xr b20, xr b20]) _
    refine XS.bipush X30.here hx rfl (hb hby at_68) ?_
    show own_S p e below T30 (mkF m 70 #[vi p1, vi p2, vr b1, vu, vu, vu, vu] [xi (6 : Int32), xi (5 : Int32), xr b20, xr b20]) _
    refine st32 _ ?_
    show own_S p e below T32 (mkF m 71 #[vi p1, vi p2, vr b1, vu, vu, vu, vu] [xr b20]) _
    refine XS.astoreN X32.here hx rfl (hb hby at_71) rfl rfl (l' := #[vi p1, vi p2, vr b1, vr b20, vu, vu, vu]) rfl ?_
    show own_S p e below T32 (mkF m 72 #[vi p1, vi p2, vr b1, vr b20, vu, vu, vu] []) _
    refine XS.iloadN X32.here hx rfl (hb hby at_72) rfl ?_
    show own_S p e below T32 (mkF m 73 #[vi p1, vi p2, vr b1, vr b20, vu, vu, vu] [xi p1]) _
    refine X32.ldcI hx hown (mvT hZ (ww hw 17 rfl)) (g := (mkF m 73 #[vi p1, vi p2, vr b1, vr b20, vu, vu, vu] [xi p1])) rfl (hb hby at_73) ?_
    show own_S p e below T32 (mkF m 75 #[vi p1, vi p2, vr b1, vr b20, vu, vu, vu] [xi (2147483647 : Int32), xi p1]) _
    refine XS.iand X32.here hx rfl (hb hby at_75) rfl ?_
    show own_S p e below T32 (mkF m 76 #[vi p1, vi p2, vr b1, vr b20, vu, vu, vu] [xi (p1 &&& (2147483647 : Int32))]) _
    show own_S p e below T32 (mkF m 76 #[vi p1, vi p2, vr b1, vr b20, vu, vu, vu] [xi (p1 &&& (2147483647 : Int32))]) _
    refine XS.bipush X32.here hx rfl (hb hby at_76) ?_
    show own_S p e below T32 (mkF m 78 #[vi p1, vi p2, vr b1, vr b20, vu, vu, vu] [xi (6 : Int32), xi (p1 &&& (2147483647 : Int32))]) _
    refine XS.irem X32.here hx rfl (hb hby at_78) rfl (by decide) ?_
    show own_S p e below T32 (mkF m 79 #[vi p1, vi p2, vr b1, vr b20, vu, vu, vu] [xi ((p1 &&& (2147483647 : Int32)) - ((p1 &&& (2147483647 : Int32)) / (6 : Int32)) * (6 : Int32))]) _
    refine castTop (show (mkF m 79 #[vi p1, vi p2, vr b1, vr b20, vu, vu, vu] [xi ((p1 &&& (2147483647 : Int32)) - ((p1 &&& (2147483647 : Int32)) / (6 : Int32)) * (6 : Int32))]) = (mkF m 79 #[vi p1, vi p2, vr b1, vr b20, vu, vu, vu] [xi (4 : Int32)]) from by rw [as16]) ?_
    show own_S p e below T32 (mkF m 79 #[vi p1, vi p2, vr b1, vr b20, vu, vu, vu] [xi (4 : Int32)]) _
    refine XS.istore X32.here hx rfl (hb hby at_79) rfl (l' := #[vi p1, vi p2, vr b1, vr b20, vi (4 : Int32), vu, vu]) rfl ?_
    show own_S p e below T32 (mkF m 81 #[vi p1, vi p2, vr b1, vr b20, vi (4 : Int32), vu, vu] []) _
    refine XS.iloadN X32.here hx rfl (hb hby at_81) rfl ?_
    show own_S p e below T32 (mkF m 82 #[vi p1, vi p2, vr b1, vr b20, vi (4 : Int32), vu, vu] [xi p2]) _
    refine XS.ifNo X32.here hx rfl (hb hby at_82) rfl as1 ?_
    show own_S p e below T32 (mkF m 85 #[vi p1, vi p2, vr b1, vr b20, vi (4 : Int32), vu, vu] []) _
    refine XS.iconst X32.here hx rfl (hb hby at_85) ?_
    show own_S p e below T32 (mkF m 86 #[vi p1, vi p2, vr b1, vr b20, vi (4 : Int32), vu, vu] [xi (0 : Int32)]) _
    refine XS.istore X32.here hx rfl (hb hby at_86) rfl (l' := #[vi p1, vi p2, vr b1, vr b20, vi (4 : Int32), vi (0 : Int32), vu]) rfl ?_
    show own_S p e below T32 (mkF m 88 #[vi p1, vi p2, vr b1, vr b20, vi (4 : Int32), vi (0 : Int32), vu] []) _
    refine XS.goto X32.here hx rfl (pc0 := 88) (pc' := 104) rfl (hb hby at_88) (by decide) (by decide) ?_
    show own_S p e below T32 (mkF m 104 #[vi p1, vi p2, vr b1, vr b20, vi (4 : Int32), vi (0 : Int32), vu] []) _
    refine XS.aloadN X32.here hx rfl (hb hby at_104) rfl rfl ?_
    show own_S p e below T32 (mkF m 105 #[vi p1, vi p2, vr b1, vr b20, vi (4 : Int32), vi (0 : Int32), vu] [xr b20]) _
    refine XS.iload X32.here hx rfl (hb hby at_105) rfl ?_
    show own_S p e below T32 (mkF m 107 #[vi p1, vi p2, vr b1, vr b20, vi (4 : Int32), vi (0 : Int32), vu] [xi (4 : Int32), xr b20]) _
    refine X32.iaload hx (j := (4 : Int32)) (v := (xi (4 : Int32))) (by rw [e32]; exact Ar33.1) (State.isArrayOf_alike hZ.alike Ar33.2.1) Ar33.2.2 hin33 hat33 (g := (mkF m 107 #[vi p1, vi p2, vr b1, vr b20, vi (4 : Int32), vi (0 : Int32), vu] [xi (4 : Int32), xr b20])) rfl rfl (hb hby at_107) _ ?_
    show own_S p e below T32 (mkF m 108 #[vi p1, vi p2, vr b1, vr b20, vi (4 : Int32), vi (0 : Int32), vu] [xi (4 : Int32)]) _
    refine XS.iload X32.here hx rfl (hb hby at_108) rfl ?_
    show own_S p e below T32 (mkF m 110 #[vi p1, vi p2, vr b1, vr b20, vi (4 : Int32), vi (0 : Int32), vu] [xi (0 : Int32), xi (4 : Int32)]) _
    refine XS.ishr X32.here hx rfl (hb hby at_110) rfl ?_
    show own_S p e below T32 (mkF m 111 #[vi p1, vi p2, vr b1, vr b20, vi (4 : Int32), vi (0 : Int32), vu] [xi ((4 : Int32) >>> ((0 : Int32) &&& 31))]) _
    refine castTop (show (mkF m 111 #[vi p1, vi p2, vr b1, vr b20, vi (4 : Int32), vi (0 : Int32), vu] [xi ((4 : Int32) >>> ((0 : Int32) &&& 31))]) = (mkF m 111 #[vi p1, vi p2, vr b1, vr b20, vi (4 : Int32), vi (0 : Int32), vu] [xi (4 : Int32)]) from by rw [show ((4 : Int32) >>> ((0 : Int32) &&& 31)) = (4 : Int32) from by decide]) ?_
    show own_S p e below T32 (mkF m 111 #[vi p1, vi p2, vr b1, vr b20, vi (4 : Int32), vi (0 : Int32), vu] [xi (4 : Int32)]) _
    refine XS.iconst X32.here hx rfl (hb hby at_111) ?_
    show own_S p e below T32 (mkF m 112 #[vi p1, vi p2, vr b1, vr b20, vi (4 : Int32), vi (0 : Int32), vu] [xi (1 : Int32), xi (4 : Int32)]) _
    refine XS.iand X32.here hx rfl (hb hby at_112) rfl ?_
    show own_S p e below T32 (mkF m 113 #[vi p1, vi p2, vr b1, vr b20, vi (4 : Int32), vi (0 : Int32), vu] [xi ((4 : Int32) &&& (1 : Int32))]) _
    refine castTop (show (mkF m 113 #[vi p1, vi p2, vr b1, vr b20, vi (4 : Int32), vi (0 : Int32), vu] [xi ((4 : Int32) &&& (1 : Int32))]) = (mkF m 113 #[vi p1, vi p2, vr b1, vr b20, vi (4 : Int32), vi (0 : Int32), vu] [xi (0 : Int32)]) from by rw [show ((4 : Int32) &&& (1 : Int32)) = (0 : Int32) from by decide]) ?_
    show own_S p e below T32 (mkF m 113 #[vi p1, vi p2, vr b1, vr b20, vi (4 : Int32), vi (0 : Int32), vu] [xi (0 : Int32)]) _
    refine XS.ifYes X32.here hx rfl (pc0 := 113) (pc' := 120) rfl (hb hby at_113) rfl (by decide) (by decide) (by decide) ?_
    show own_S p e below T32 (mkF m 120 #[vi p1, vi p2, vr b1, vr b20, vi (4 : Int32), vi (0 : Int32), vu] []) _
    refine XS.iconst X32.here hx rfl (hb hby at_120) ?_
    show own_S p e below T32 (mkF m 121 #[vi p1, vi p2, vr b1, vr b20, vi (4 : Int32), vi (0 : Int32), vu] [xi (0 : Int32)]) _
    refine XS.istore X32.here hx rfl (hb hby at_121) rfl (l' := #[vi p1, vi p2, vr b1, vr b20, vi (4 : Int32), vi (0 : Int32), vi (0 : Int32)]) rfl ?_
    show own_S p e below T32 (mkF m 123 #[vi p1, vi p2, vr b1, vr b20, vi (4 : Int32), vi (0 : Int32), vi (0 : Int32)] []) _
    refine XS.aloadN X32.here hx rfl (hb hby at_123) rfl rfl ?_
    show own_S p e below T32 (mkF m 124 #[vi p1, vi p2, vr b1, vr b20, vi (4 : Int32), vi (0 : Int32), vi (0 : Int32)] [xr b1]) _
    refine XS.iload X32.here hx rfl (hb hby at_124) rfl ?_
    show own_S p e below T32 (mkF m 126 #[vi p1, vi p2, vr b1, vr b20, vi (4 : Int32), vi (0 : Int32), vi (0 : Int32)] [xi (4 : Int32), xr b1]) _
    refine X32.aaload hx (j := (4 : Int32)) (v := (xr u4)) (by rw [e32]; exact Ar34.1) (State.isArrayOf_alike hZ.alike Ar34.2.1) rfl Ar34.2.2 hin34 hat34 (g := (mkF m 126 #[vi p1, vi p2, vr b1, vr b20, vi (4 : Int32), vi (0 : Int32), vi (0 : Int32)] [xi (4 : Int32), xr b1])) rfl rfl (hb hby at_126) _ ?_
    show own_S p e below T32 (mkF m 127 #[vi p1, vi p2, vr b1, vr b20, vi (4 : Int32), vi (0 : Int32), vi (0 : Int32)] [xr u4]) _
    refine XS.iloadN X32.here hx rfl (hb hby at_127) rfl ?_
    show own_S p e below T32 (mkF m 128 #[vi p1, vi p2, vr b1, vr b20, vi (4 : Int32), vi (0 : Int32), vi (0 : Int32)] [xi p2, xr u4]) _
    refine st35.trans ?_
    show own_S p e below T35 (mkF m 131 #[vi p1, vi p2, vr b1, vr b20, vi (4 : Int32), vi (0 : Int32), vi (0 : Int32)] [xi (0 : Int32)]) _
    refine XS.iload X35.here hx rfl (hb hby at_131) rfl ?_
    show own_S p e below T35 (mkF m 133 #[vi p1, vi p2, vr b1, vr b20, vi (4 : Int32), vi (0 : Int32), vi (0 : Int32)] [xi (0 : Int32), xi (0 : Int32)]) _
    refine XS.icmpNo X35.here hx rfl (hb hby at_133) rfl (by decide) ?_
    show own_S p e below T35 (mkF m 136 #[vi p1, vi p2, vr b1, vr b20, vi (4 : Int32), vi (0 : Int32), vi (0 : Int32)] []) _
    refine XS.iconst X35.here hx rfl (hb hby at_136) ?_
    show own_S p e below T35 (mkF m 137 #[vi p1, vi p2, vr b1, vr b20, vi (4 : Int32), vi (0 : Int32), vi (0 : Int32)] [xi (1 : Int32)]) _
    refine XS.goto X35.here hx rfl (pc0 := 137) (pc' := 141) rfl (hb hby at_137) (by decide) (by decide) ?_
    show own_S p e below T35 (mkF m 141 #[vi p1, vi p2, vr b1, vr b20, vi (4 : Int32), vi (0 : Int32), vi (0 : Int32)] [xi (1 : Int32)]) _
    exact retN X35 hx (t := .boolean) Bd.returns (by simp) (hb hby at_141) hr
  · exact ⟨rfl, N35⟩
theorem ef_own_l13 (m : MethodId) (u0 u1 u2 u3 u4 u5 : Addr) (p1 : Int32) (p2 : Int32) : entryFrame m #[xi p1, xi p2] maxLocals = (mkF m 0 #[vi p1, vi p2, vu, vu, vu, vu, vu] []) := by first | (simp [entryFrame, mkF, argsToLocals, Value.category, maxLocals]; done) | rfl
set_option maxRecDepth 65536 in
set_option maxHeartbeats 40000000 in
theorem own_l13 (l : Launch) (Z : State) (a0 : Array Value) (hw : ∀ d ∈ tables_1, d.before a0 Z = true) (u0 u1 u2 u3 u4 u5 : Addr) (G : own_St Z u0 u1 u2 u3 u4 u5) (p1 : Int32) (p2 : Int32) (as16 : ((p1 &&& (2147483647 : Int32)) - ((p1 &&& (2147483647 : Int32)) / (6 : Int32)) * (6 : Int32)) = (4 : Int32)) (as7 : ifCond.holds .ge p2 = true) (as9 : ifCond.holds .ne p2 = false) (as5 : ifCond.holds .le p2 = true) (h0 : Heap) (n0 : Nat) (O0 : Old Z n0 h0) : own_Met l Z x code maxLocals ret room_1 #[xi p1, xi p2] h0 (own_QL (some (xi (1 : Int32))) n0) := by
  intro ws
  refine MetFree.of_bodySF (plainFor_of_name pn2) hisR ?_
  intro p e s m args below meth c s₁ Bd hml0 hP hK
  obtain ⟨rfl, hZ, hh⟩ := hP
  have hx := Bd.exec
  have hby := Bd.bytes
  have hml : c.maxLocals = 7 := hml0
  have hown : s.vm.findClass "com/example/whyle/whyle/cfa/RelationHoldsPinLaw" = some m.cls := findClass_of_methodNamed Bd.named
  have hnm := (name_of_methodNamed Bd.named Bd.method).1
  have X0 : Stand p l e room_1 s m #[xi p1, xi p2] below meth c s₁ [] 0 0 := Stand.of_body Bd
  have e0 : s₁.heap = h0 := by rw [← hh, Bd.state]; rfl
  have N0 := Fr.nil n0
  have pre0 : ∀ t, Steps p.tables e below (s₁.setTop (mkF m 0 #[vi p1, vi p2, vu, vu, vu, vu, vu] [])) t → Steps p.tables e below (s₁.setTop (entryFrame m #[xi p1, xi p2] maxLocals)) t := fun t st => castTop (ef_own_l13 m u0 u1 u2 u3 u4 u5 p1 p2) st
  obtain ⟨T1, h1, k1, X1, e1, E1, A1, Ov1, st1⟩ := newR X0 hx hZ hown (ww hw 0 rfl) (ww hw 1 rfl) e0 (g := (mkF m 2 #[vi p1, vi p2, vu, vu, vu, vu, vu] [xi (6 : Int32)])) rfl (hb hby at_2) rfl (by decide) (cap := 6) (by decide) (by decide) (by decide) (by decide)
  obtain ⟨b1, g1⟩ : ∃ z, z = h0.size := ⟨_, rfl⟩
  rw [← g1] at A1 st1
  have g_b1 : n0 ≤ b1 := own_fresh O0 g1
  have O1 : Old Z n0 h1 := O0.ext E1
  have V_b1 : Arv Z h1 b1 k1 (.object "com/example/whyle/whyle/cfa/Relation") (6 : Int32) [.null, .null, .null, .null, .null, .null] .null := (Arv.new A1 (by decide)).pad (pad_rep [] .null 6)
  obtain ⟨T2, X2, e2, st2⟩ := getS2 X1 hx hZ hown (host := "") (Or.inl (ww hw 2 rfl)) Via.refl e1 ((own_S_u0 G).ext O1.2) (g := (mkF m 7 #[vi p1, vi p2, vu, vu, vu, vu, vu] [xi (0 : Int32), xr b1, xr b1])) rfl (hb hby at_7)
  obtain ⟨cl3, Ar3, q3, S3, N3_, H3, G3⟩ := V_b1
  have hin3 : ¬ ((0 : Int32) < 0 ∨ cl3.slots.size ≤ ((0 : Int32)).toNatClampNeg) := inb_of S3 ⟨by decide, by decide⟩
  obtain ⟨T4, h4, X4, e4, W4, st4⟩ := stR X2 hx hZ e2 Ar3 (j := (0 : Int32)) hin3 rfl (Sto.ofV Ar3 q3 Ov1 (Ins.self ((own_X_u0 G).ext O1.2))) (g := (mkF m 10 #[vi p1, vi p2, vu, vu, vu, vu, vu] [xr u0, xi (0 : Int32), xr b1, xr b1])) rfl rfl (hb hby at_10)
  have V_b1_4 : Arv Z h4 b1 k1 (.object "com/example/whyle/whyle/cfa/Relation") (6 : Int32) [xr u0, .null, .null, .null, .null, .null] .null := Arv.set Ar3 q3 S3 N3_ H3 G3 rfl W4 0 rfl (Nat.le_of_ble_eq_true rfl)
  have O4 : Old Z n0 h4 := O1.wr W4 g_b1
  have N4 := Fr.snoc X4 N0 g_b1
  obtain ⟨T5, X5, e5, st5⟩ := getS2 X4 hx hZ hown (host := "") (Or.inl (ww hw 6 rfl)) Via.refl e4 ((own_S_u1 G).ext O4.2) (g := (mkF m 13 #[vi p1, vi p2, vu, vu, vu, vu, vu] [xi (1 : Int32), xr b1, xr b1])) rfl (hb hby at_13)
  obtain ⟨cl6, Ar6, q6, S6, N6_, H6, G6⟩ := V_b1_4
  have hin6 : ¬ ((1 : Int32) < 0 ∨ cl6.slots.size ≤ ((1 : Int32)).toNatClampNeg) := inb_of S6 ⟨by decide, by decide⟩
  obtain ⟨T7, h7, X7, e7, W7, st7⟩ := stR X5 hx hZ e5 Ar6 (j := (1 : Int32)) hin6 rfl (Sto.ofV Ar6 q6 Ov1 (Ins.self ((own_X_u1 G).ext O4.2))) (g := (mkF m 16 #[vi p1, vi p2, vu, vu, vu, vu, vu] [xr u1, xi (1 : Int32), xr b1, xr b1])) rfl rfl (hb hby at_16)
  have V_b1_7 : Arv Z h7 b1 k1 (.object "com/example/whyle/whyle/cfa/Relation") (6 : Int32) [xr u0, xr u1, .null, .null, .null, .null] .null := Arv.set Ar6 q6 S6 N6_ H6 G6 rfl W7 1 rfl (Nat.le_of_ble_eq_true rfl)
  have O7 : Old Z n0 h7 := O4.wr W7 g_b1
  have N7 := Fr.snoc X7 N4 g_b1
  obtain ⟨T8, X8, e8, st8⟩ := getS2 X7 hx hZ hown (host := "") (Or.inl (ww hw 8 rfl)) Via.refl e7 ((own_S_u2 G).ext O7.2) (g := (mkF m 19 #[vi p1, vi p2, vu, vu, vu, vu, vu] [xi (2 : Int32), xr b1, xr b1])) rfl (hb hby at_19)
  obtain ⟨cl9, Ar9, q9, S9, N9_, H9, G9⟩ := V_b1_7
  have hin9 : ¬ ((2 : Int32) < 0 ∨ cl9.slots.size ≤ ((2 : Int32)).toNatClampNeg) := inb_of S9 ⟨by decide, by decide⟩
  obtain ⟨T10, h10, X10, e10, W10, st10⟩ := stR X8 hx hZ e8 Ar9 (j := (2 : Int32)) hin9 rfl (Sto.ofV Ar9 q9 Ov1 (Ins.self ((own_X_u2 G).ext O7.2))) (g := (mkF m 22 #[vi p1, vi p2, vu, vu, vu, vu, vu] [xr u2, xi (2 : Int32), xr b1, xr b1])) rfl rfl (hb hby at_22)
  have V_b1_10 : Arv Z h10 b1 k1 (.object "com/example/whyle/whyle/cfa/Relation") (6 : Int32) [xr u0, xr u1, xr u2, .null, .null, .null] .null := Arv.set Ar9 q9 S9 N9_ H9 G9 rfl W10 2 rfl (Nat.le_of_ble_eq_true rfl)
  have O10 : Old Z n0 h10 := O7.wr W10 g_b1
  have N10 := Fr.snoc X10 N7 g_b1
  obtain ⟨T11, X11, e11, st11⟩ := getS2 X10 hx hZ hown (host := "") (Or.inl (ww hw 10 rfl)) Via.refl e10 ((own_S_u3 G).ext O10.2) (g := (mkF m 25 #[vi p1, vi p2, vu, vu, vu, vu, vu] [xi (3 : Int32), xr b1, xr b1])) rfl (hb hby at_25)
  obtain ⟨cl12, Ar12, q12, S12, N12_, H12, G12⟩ := V_b1_10
  have hin12 : ¬ ((3 : Int32) < 0 ∨ cl12.slots.size ≤ ((3 : Int32)).toNatClampNeg) := inb_of S12 ⟨by decide, by decide⟩
  obtain ⟨T13, h13, X13, e13, W13, st13⟩ := stR X11 hx hZ e11 Ar12 (j := (3 : Int32)) hin12 rfl (Sto.ofV Ar12 q12 Ov1 (Ins.self ((own_X_u3 G).ext O10.2))) (g := (mkF m 28 #[vi p1, vi p2, vu, vu, vu, vu, vu] [xr u3, xi (3 : Int32), xr b1, xr b1])) rfl rfl (hb hby at_28)
  have V_b1_13 : Arv Z h13 b1 k1 (.object "com/example/whyle/whyle/cfa/Relation") (6 : Int32) [xr u0, xr u1, xr u2, xr u3, .null, .null] .null := Arv.set Ar12 q12 S12 N12_ H12 G12 rfl W13 3 rfl (Nat.le_of_ble_eq_true rfl)
  have O13 : Old Z n0 h13 := O10.wr W13 g_b1
  have N13 := Fr.snoc X13 N10 g_b1
  obtain ⟨T14, X14, e14, st14⟩ := getS2 X13 hx hZ hown (host := "") (Or.inl (ww hw 12 rfl)) Via.refl e13 ((own_S_u4 G).ext O13.2) (g := (mkF m 31 #[vi p1, vi p2, vu, vu, vu, vu, vu] [xi (4 : Int32), xr b1, xr b1])) rfl (hb hby at_31)
  obtain ⟨cl15, Ar15, q15, S15, N15_, H15, G15⟩ := V_b1_13
  have hin15 : ¬ ((4 : Int32) < 0 ∨ cl15.slots.size ≤ ((4 : Int32)).toNatClampNeg) := inb_of S15 ⟨by decide, by decide⟩
  obtain ⟨T16, h16, X16, e16, W16, st16⟩ := stR X14 hx hZ e14 Ar15 (j := (4 : Int32)) hin15 rfl (Sto.ofV Ar15 q15 Ov1 (Ins.self ((own_X_u4 G).ext O13.2))) (g := (mkF m 34 #[vi p1, vi p2, vu, vu, vu, vu, vu] [xr u4, xi (4 : Int32), xr b1, xr b1])) rfl rfl (hb hby at_34)
  have V_b1_16 : Arv Z h16 b1 k1 (.object "com/example/whyle/whyle/cfa/Relation") (6 : Int32) [xr u0, xr u1, xr u2, xr u3, xr u4, .null] .null := Arv.set Ar15 q15 S15 N15_ H15 G15 rfl W16 4 rfl (Nat.le_of_ble_eq_true rfl)
  have O16 : Old Z n0 h16 := O13.wr W16 g_b1
  have N16 := Fr.snoc X16 N13 g_b1
  obtain ⟨T17, X17, e17, st17⟩ := getS2 X16 hx hZ hown (host := "") (Or.inl (ww hw 14 rfl)) Via.refl e16 ((own_S_u5 G).ext O16.2) (g := (mkF m 37 #[vi p1, vi p2, vu, vu, vu, vu, vu] [xi (5 : Int32), xr b1, xr b1])) rfl (hb hby at_37)
  obtain ⟨cl18, Ar18, q18, S18, N18_, H18, G18⟩ := V_b1_16
  have hin18 : ¬ ((5 : Int32) < 0 ∨ cl18.slots.size ≤ ((5 : Int32)).toNatClampNeg) := inb_of S18 ⟨by decide, by decide⟩
  obtain ⟨T19, h19, X19, e19, W19, st19⟩ := stR X17 hx hZ e17 Ar18 (j := (5 : Int32)) hin18 rfl (Sto.ofV Ar18 q18 Ov1 (Ins.self ((own_X_u5 G).ext O16.2))) (g := (mkF m 40 #[vi p1, vi p2, vu, vu, vu, vu, vu] [xr u5, xi (5 : Int32), xr b1, xr b1])) rfl rfl (hb hby at_40)
  have V_b1_19 : Arv Z h19 b1 k1 (.object "com/example/whyle/whyle/cfa/Relation") (6 : Int32) [xr u0, xr u1, xr u2, xr u3, xr u4, xr u5] .null := Arv.set Ar18 q18 S18 N18_ H18 G18 rfl W19 5 rfl (Nat.le_of_ble_eq_true rfl)
  have O19 : Old Z n0 h19 := O16.wr W19 g_b1
  have N19 := Fr.snoc X19 N16 g_b1
  obtain ⟨T20, h20, k20, X20, e20, E20, A20, st20⟩ := newP X19 hx hZ (ww hw 16 rfl) e19 (g := (mkF m 44 #[vi p1, vi p2, vr b1, vu, vu, vu, vu] [xi (6 : Int32)])) rfl (hb hby at_44) rfl (by decide) (cap := 6) (by decide) (by decide) (by decide) (by decide)
  obtain ⟨b20, g20⟩ : ∃ z, z = h19.size := ⟨_, rfl⟩
  rw [← g20] at A20 st20
  have g_b20 : n0 ≤ b20 := own_fresh O19 g20
  have ne_b1_b20 : b1 ≠ b20 := Nat.ne_of_lt (Nat.lt_of_lt_of_le (V_b1_19).lt (Nat.le_of_eq g20.symm))
  have O20 : Old Z n0 h20 := O19.ext E20
  have V_b1_20 := V_b1_19.ext E20
  have V_b20 : Arv Z h20 b20 k20 .int (6 : Int32) [(.int (0 : Int32)), (.int (0 : Int32)), (.int (0 : Int32)), (.int (0 : Int32)), (.int (0 : Int32)), (.int (0 : Int32))] (.int (0 : Int32)) := (Arv.new A20 (by decide)).pad (pad_rep [] (.int (0 : Int32)) 6)
  obtain ⟨cl21, Ar21, q21, S21, N21_, H21, G21⟩ := V_b20
  have hin21 : ¬ ((0 : Int32) < 0 ∨ cl21.slots.size ≤ ((0 : Int32)).toNatClampNeg) := inb_of S21 ⟨by decide, by decide⟩
  obtain ⟨T22, h22, X22, e22, W22, st22⟩ := stI X20 hx hZ e20 Ar21 (j := (0 : Int32)) hin21 (g := (mkF m 49 #[vi p1, vi p2, vr b1, vu, vu, vu, vu] [xi (2 : Int32), xi (0 : Int32), xr b20, xr b20])) rfl rfl (hb hby at_49)
  have V_b20_22 : Arv Z h22 b20 k20 .int (6 : Int32) [xi (2 : Int32), xi (0 : Int32), xi (0 : Int32), xi (0 : Int32), xi (0 : Int32), xi (0 : Int32)] (.int (0 : Int32)) := Arv.set Ar21 q21 S21 N21_ H21 G21 rfl W22 0 rfl (Nat.le_of_ble_eq_true rfl)
  have O22 : Old Z n0 h22 := O20.wr W22 g_b20
  have V_b1_22 := V_b1_20.other W22 ne_b1_b20
  have N22 := Fr.snoc X22 N19 g_b20
  obtain ⟨cl23, Ar23, q23, S23, N23_, H23, G23⟩ := V_b20_22
  have hin23 : ¬ ((1 : Int32) < 0 ∨ cl23.slots.size ≤ ((1 : Int32)).toNatClampNeg) := inb_of S23 ⟨by decide, by decide⟩
  obtain ⟨T24, h24, X24, e24, W24, st24⟩ := stI X22 hx hZ e22 Ar23 (j := (1 : Int32)) hin23 (g := (mkF m 53 #[vi p1, vi p2, vr b1, vu, vu, vu, vu] [xi (5 : Int32), xi (1 : Int32), xr b20, xr b20])) rfl rfl (hb hby at_53)
  have V_b20_24 : Arv Z h24 b20 k20 .int (6 : Int32) [xi (2 : Int32), xi (5 : Int32), xi (0 : Int32), xi (0 : Int32), xi (0 : Int32), xi (0 : Int32)] (.int (0 : Int32)) := Arv.set Ar23 q23 S23 N23_ H23 G23 rfl W24 1 rfl (Nat.le_of_ble_eq_true rfl)
  have O24 : Old Z n0 h24 := O22.wr W24 g_b20
  have V_b1_24 := V_b1_22.other W24 ne_b1_b20
  have N24 := Fr.snoc X24 N22 g_b20
  obtain ⟨cl25, Ar25, q25, S25, N25_, H25, G25⟩ := V_b20_24
  have hin25 : ¬ ((2 : Int32) < 0 ∨ cl25.slots.size ≤ ((2 : Int32)).toNatClampNeg) := inb_of S25 ⟨by decide, by decide⟩
  obtain ⟨T26, h26, X26, e26, W26, st26⟩ := stI X24 hx hZ e24 Ar25 (j := (2 : Int32)) hin25 (g := (mkF m 57 #[vi p1, vi p2, vr b1, vu, vu, vu, vu] [xi (1 : Int32), xi (2 : Int32), xr b20, xr b20])) rfl rfl (hb hby at_57)
  have V_b20_26 : Arv Z h26 b20 k20 .int (6 : Int32) [xi (2 : Int32), xi (5 : Int32), xi (1 : Int32), xi (0 : Int32), xi (0 : Int32), xi (0 : Int32)] (.int (0 : Int32)) := Arv.set Ar25 q25 S25 N25_ H25 G25 rfl W26 2 rfl (Nat.le_of_ble_eq_true rfl)
  have O26 : Old Z n0 h26 := O24.wr W26 g_b20
  have V_b1_26 := V_b1_24.other W26 ne_b1_b20
  have N26 := Fr.snoc X26 N24 g_b20
  obtain ⟨cl27, Ar27, q27, S27, N27_, H27, G27⟩ := V_b20_26
  have hin27 : ¬ ((3 : Int32) < 0 ∨ cl27.slots.size ≤ ((3 : Int32)).toNatClampNeg) := inb_of S27 ⟨by decide, by decide⟩
  obtain ⟨T28, h28, X28, e28, W28, st28⟩ := stI X26 hx hZ e26 Ar27 (j := (3 : Int32)) hin27 (g := (mkF m 61 #[vi p1, vi p2, vr b1, vu, vu, vu, vu] [xi (3 : Int32), xi (3 : Int32), xr b20, xr b20])) rfl rfl (hb hby at_61)
  have V_b20_28 : Arv Z h28 b20 k20 .int (6 : Int32) [xi (2 : Int32), xi (5 : Int32), xi (1 : Int32), xi (3 : Int32), xi (0 : Int32), xi (0 : Int32)] (.int (0 : Int32)) := Arv.set Ar27 q27 S27 N27_ H27 G27 rfl W28 3 rfl (Nat.le_of_ble_eq_true rfl)
  have O28 : Old Z n0 h28 := O26.wr W28 g_b20
  have V_b1_28 := V_b1_26.other W28 ne_b1_b20
  have N28 := Fr.snoc X28 N26 g_b20
  obtain ⟨cl29, Ar29, q29, S29, N29_, H29, G29⟩ := V_b20_28
  have hin29 : ¬ ((4 : Int32) < 0 ∨ cl29.slots.size ≤ ((4 : Int32)).toNatClampNeg) := inb_of S29 ⟨by decide, by decide⟩
  obtain ⟨T30, h30, X30, e30, W30, st30⟩ := stI X28 hx hZ e28 Ar29 (j := (4 : Int32)) hin29 (g := (mkF m 65 #[vi p1, vi p2, vr b1, vu, vu, vu, vu] [xi (4 : Int32), xi (4 : Int32), xr b20, xr b20])) rfl rfl (hb hby at_65)
  have V_b20_30 : Arv Z h30 b20 k20 .int (6 : Int32) [xi (2 : Int32), xi (5 : Int32), xi (1 : Int32), xi (3 : Int32), xi (4 : Int32), xi (0 : Int32)] (.int (0 : Int32)) := Arv.set Ar29 q29 S29 N29_ H29 G29 rfl W30 4 rfl (Nat.le_of_ble_eq_true rfl)
  have O30 : Old Z n0 h30 := O28.wr W30 g_b20
  have V_b1_30 := V_b1_28.other W30 ne_b1_b20
  have N30 := Fr.snoc X30 N28 g_b20
  obtain ⟨cl31, Ar31, q31, S31, N31_, H31, G31⟩ := V_b20_30
  have hin31 : ¬ ((5 : Int32) < 0 ∨ cl31.slots.size ≤ ((5 : Int32)).toNatClampNeg) := inb_of S31 ⟨by decide, by decide⟩
  obtain ⟨T32, h32, X32, e32, W32, st32⟩ := stI X30 hx hZ e30 Ar31 (j := (5 : Int32)) hin31 (g := (mkF m 70 #[vi p1, vi p2, vr b1, vu, vu, vu, vu] [xi (6 : Int32), xi (5 : Int32), xr b20, xr b20])) rfl rfl (hb hby at_70)
  have V_b20_32 : Arv Z h32 b20 k20 .int (6 : Int32) [xi (2 : Int32), xi (5 : Int32), xi (1 : Int32), xi (3 : Int32), xi (4 : Int32), xi (6 : Int32)] (.int (0 : Int32)) := Arv.set Ar31 q31 S31 N31_ H31 G31 rfl W32 5 rfl (Nat.le_of_ble_eq_true rfl)
  have O32 : Old Z n0 h32 := O30.wr W32 g_b20
  have V_b1_32 := V_b1_30.other W32 ne_b1_b20
  have N32 := Fr.snoc X32 N30 g_b20
  obtain ⟨cl33, Ar33, q33, S33, N33_, H33, G33⟩ := V_b20_32
  have hin33 : ¬ ((4 : Int32) < 0 ∨ cl33.slots.size ≤ ((4 : Int32)).toNatClampNeg) := inb_of S33 ⟨by decide, by decide⟩
  have hat33 : cl33.slots[((4 : Int32)).toNatClampNeg]? = some (xi (4 : Int32)) := Has.at H33 hin33 rfl
  obtain ⟨cl34, Ar34, q34, S34, N34_, H34, G34⟩ := V_b1_32
  have hin34 : ¬ ((4 : Int32) < 0 ∨ cl34.slots.size ≤ ((4 : Int32)).toNatClampNeg) := inb_of S34 ⟨by decide, by decide⟩
  have hat34 : cl34.slots[((4 : Int32)).toNatClampNeg]? = some (xr u4) := Has.at H34 hin34 rfl
  obtain ⟨cq35, kq35, qa35, qb35, qc35⟩ := isOf hZ e32 ((own_X_u4 G).ext O32.2)
  obtain ⟨_, _, ⟨T35, L35, k35, n35⟩, -, X35, ⟨Lc35, hQ35, l35, y35, z35⟩, st35⟩ := X32.virtualBack hx (y := Y2) (z := Y2) hown (mvT hZ (ww hw 18 rfl)) (mvT hZ (ww hw 19 rfl)) (notFace_of_selects (args := #[]) (mvT hZ (ww hw 21 rfl))) (mvT hZ (ww hw 21 rfl)) (mvT hZ (ww hw 20 rfl)) (by decide) (backOf (W := 0) (own_c12_holds l Z a0 hw u0 u1 u2 u3 u4 u5 G p2 as5 h32 n0 O32 []) hZ (ww hw 22 rfl) (ww hw 3 rfl) (by decide) (by decide)) qa35 qc35 (g := (mkF m 128 #[vi p1, vi p2, vr b1, vr b20, vi (4 : Int32), vi (1 : Int32), vi (0 : Int32)] [xi p2, xr u4])) rfl (by rw [hml]; rfl) (Steps.refl _) (argsL := [xi p2]) (rest := []) (lenOf pd1 rfl) rfl (by show 2 * 0 + _ ≤ _; exact Nat.le_of_eq rfl) (hb hby at_128) (fun _ _ => ⟨rfl, e32, (by decide : 2 + 0 ≤ _), (by decide : 12 + 0 ≤ _)⟩)
  dsimp only [Pt.U, Pt.locs, Pt.cells, Pt.slots] at X35 l35 y35 z35 st35 hQ35
  subst l35 y35 z35
  obtain ⟨rfl, Nq35, e35⟩ := hQ35
  have N35 := Fr.app N32 Nq35
  obtain ⟨fs, hr, hrun, hended, hW, hsame⟩ := X35.leave (v := some (xi (1 : Int32))) (fun h => by rw [Bd.returns] at h; cases h)
  refine ⟨_, _, pre0 _ ?_, hrun, hended, _, _, rfl, ?_, ⟨_, rfl⟩, hW, hsame.mono (by decide) (by decide)⟩
  · show own_S p e below s₁ (mkF m 0 #[vi p1, vi p2, vu, vu, vu, vu, vu] []) _
    refine XS.bipush X0.here hx rfl (hb hby at_0) ?_
    show own_S p e below s₁ (mkF m 2 #[vi p1, vi p2, vu, vu, vu, vu, vu] [xi (6 : Int32)]) _
    refine st1 _ ?_
    show own_S p e below T1 (mkF m 5 #[vi p1, vi p2, vu, vu, vu, vu, vu] [xr b1]) _
    refine XS.dup X1.here hx rfl (hb hby at_5) rfl rfl ?_
    show own_S p e below T1 (mkF m 6 #[vi p1, vi p2, vu, vu, vu, vu, vu] [xr b1, xr b1]) _
    refine XS.iconst X1.here hx rfl (hb hby at_6) ?_
    show own_S p e below T1 (mkF m 7 #[vi p1, vi p2, vu, vu, vu, vu, vu] [xi (0 : Int32), xr b1, xr b1]) _
    refine st2 _ ?_
    show own_S p e below T2 (mkF m 10 #[vi p1, vi p2, vu, vu, vu, vu, vu] [xr u0, xi (0 : Int32), xr b1, xr b1]) _
    refine st4 _ ?_
    show own_S p e below T4 (mkF m 11 #[vi p1, vi p2, vu, vu, vu, vu, vu] [xr b1]) _
    refine XS.dup X4.here hx rfl (hb hby at_11) rfl rfl ?_
    show own_S p e below T4 (mkF m 12 #[vi p1, vi p2, vu, vu, vu, vu, vu] [xr b1, xr b1]) _
    refine XS.iconst X4.here hx rfl (hb hby at_12) ?_
    show own_S p e below T4 (mkF m 13 #[vi p1, vi p2, vu, vu, vu, vu, vu] [xi (1 : Int32), xr b1, xr b1]) _
    refine st5 _ ?_
    show own_S p e below T5 (mkF m 16 #[vi p1, vi p2, vu, vu, vu, vu, vu] [xr u1, xi (1 : Int32), xr b1, xr b1]) _
    refine st7 _ ?_
    show own_S p e below T7 (mkF m 17 #[vi p1, vi p2, vu, vu, vu, vu, vu] [xr b1]) _
    refine XS.dup X7.here hx rfl (hb hby at_17) rfl rfl ?_
    show own_S p e below T7 (mkF m 18 #[vi p1, vi p2, vu, vu, vu, vu, vu] [xr b1, xr b1]) _
    refine XS.iconst X7.here hx rfl (hb hby at_18) ?_
    show own_S p e below T7 (mkF m 19 #[vi p1, vi p2, vu, vu, vu, vu, vu] [xi (2 : Int32), xr b1, xr b1]) _
    refine st8 _ ?_
    show own_S p e below T8 (mkF m 22 #[vi p1, vi p2, vu, vu, vu, vu, vu] [xr u2, xi (2 : Int32), xr b1, xr b1]) _
    refine st10 _ ?_
    show own_S p e below T10 (mkF m 23 #[vi p1, vi p2, vu, vu, vu, vu, vu] [xr b1]) _
    refine XS.dup X10.here hx rfl (hb hby at_23) rfl rfl ?_
    show own_S p e below T10 (mkF m 24 #[vi p1, vi p2, vu, vu, vu, vu, vu] [xr b1, xr b1]) _
    refine XS.iconst X10.here hx rfl (hb hby at_24) ?_
    show own_S p e below T10 (mkF m 25 #[vi p1, vi p2, vu, vu, vu, vu, vu] [xi (3 : Int32), xr b1, xr b1]) _
    refine st11 _ ?_
    show own_S p e below T11 (mkF m 28 #[vi p1, vi p2, vu, vu, vu, vu, vu] [xr u3, xi (3 : Int32), xr b1, xr b1]) _
    refine st13 _ ?_
    show own_S p e below T13 (mkF m 29 #[vi p1, vi p2, vu, vu, vu, vu, vu] [xr b1]) _
    refine XS.dup X13.here hx rfl (hb hby at_29) rfl rfl ?_
    show own_S p e below T13 (mkF m 30 #[vi p1, vi p2, vu, vu, vu, vu, vu] [xr b1, xr b1]) _
    refine XS.iconst X13.here hx rfl (hb hby at_30) ?_
    show own_S p e below T13 (mkF m 31 #[vi p1, vi p2, vu, vu, vu, vu, vu] [xi (4 : Int32), xr b1, xr b1]) _
    refine st14 _ ?_
    show own_S p e below T14 (mkF m 34 #[vi p1, vi p2, vu, vu, vu, vu, vu] [xr u4, xi (4 : Int32), xr b1, xr b1]) _
    refine st16 _ ?_
    show own_S p e below T16 (mkF m 35 #[vi p1, vi p2, vu, vu, vu, vu, vu] [xr b1]) _
    refine XS.dup X16.here hx rfl (hb hby at_35) rfl rfl ?_
    show own_S p e below T16 (mkF m 36 #[vi p1, vi p2, vu, vu, vu, vu, vu] [xr b1, xr b1]) _
    refine XS.iconst X16.here hx rfl (hb hby at_36) ?_
    show own_S p e below T16 (mkF m 37 #[vi p1, vi p2, vu, vu, vu, vu, vu] [xi (5 : Int32), xr b1, xr b1]) _
    refine st17 _ ?_
    show own_S p e below T17 (mkF m 40 #[vi p1, vi p2, vu, vu, vu, vu, vu] [xr u5, xi (5 : Int32), xr b1, xr b1]) _
    refine st19 _ ?_
    show own_S p e below T19 (mkF m 41 #[vi p1, vi p2, vu, vu, vu, vu, vu] [xr b1]) _
    refine XS.astoreN X19.here hx rfl (hb hby at_41) rfl rfl (l' := #[vi p1, vi p2, vr b1, vu, vu, vu, vu]) rfl ?_
    show own_S p e below T19 (mkF m 42 #[vi p1, vi p2, vr b1, vu, vu, vu, vu] []) _
    refine XS.bipush X19.here hx rfl (hb hby at_42) ?_
    show own_S p e below T19 (mkF m 44 #[vi p1, vi p2, vr b1, vu, vu, vu, vu] [xi (6 : Int32)]) _
    refine st20 _ ?_
    show own_S p e below T20 (mkF m 46 #[vi p1, vi p2, vr b1, vu, vu, vu, vu] [xr b20]) _
    refine XS.dup X20.here hx rfl (hb hby at_46) rfl rfl ?_
    show own_S p e below T20 (mkF m 47 #[vi p1, vi p2, vr b1, vu, vu, vu, vu] [xr b20, xr b20]) _
    refine XS.iconst X20.here hx rfl (hb hby at_47) ?_
    show own_S p e below T20 (mkF m 48 #[vi p1, vi p2, vr b1, vu, vu, vu, vu] [xi (0 : Int32), xr b20, xr b20]) _
    refine XS.iconst X20.here hx rfl (hb hby at_48) ?_
    show own_S p e below T20 (mkF m 49 #[vi p1, vi p2, vr b1, vu, vu, vu, vu] [xi (2 : Int32), xi (0 : Int32), xr b20, xr b20]) _
    refine st22 _ ?_
    show own_S p e below T22 (mkF m 50 #[vi p1, vi p2, vr b1, vu, vu, vu, vu] [xr b20]) _
    refine XS.dup X22.here hx rfl (hb hby at_50) rfl rfl ?_
    show own_S p e below T22 (mkF m 51 #[vi p1, vi p2, vr b1, vu, vu, vu, vu] [xr b20, xr b20]) _
    refine XS.iconst X22.here hx rfl (hb hby at_51) ?_
    show own_S p e below T22 (mkF m 52 #[vi p1, vi p2, vr b1, vu, vu, vu, vu] [xi (1 : Int32), xr b20, xr b20]) _
    refine XS.iconst X22.here hx rfl (hb hby at_52) ?_
    show own_S p e below T22 (mkF m 53 #[vi p1, vi p2, vr b1, vu, vu, vu, vu] [xi (5 : Int32), xi (1 : Int32), xr b20, xr b20]) _
    refine st24 _ ?_
    show own_S p e below T24 (mkF m 54 #[vi p1, vi p2, vr b1, vu, vu, vu, vu] [xr b20]) _
    refine XS.dup X24.here hx rfl (hb hby at_54) rfl rfl ?_
    show own_S p e below T24 (mkF m 55 #[vi p1, vi p2, vr b1, vu, vu, vu, vu] [xr b20, xr b20]) _
    refine XS.iconst X24.here hx rfl (hb hby at_55) ?_
    show own_S p e below T24 (mkF m 56 #[vi p1, vi p2, vr b1, vu, vu, vu, vu] [xi (2 : Int32), xr b20, xr b20]) _
    refine XS.iconst X24.here hx rfl (hb hby at_56) ?_
    show own_S p e below T24 (mkF m 57 #[vi p1, vi p2, vr b1, vu, vu, vu, vu] [xi (1 : Int32), xi (2 : Int32), xr b20, xr b20]) _
    refine st26 _ ?_
    show own_S p e below T26 (mkF m 58 #[vi p1, vi p2, vr b1, vu, vu, vu, vu] [xr b20]) _
    refine XS.dup X26.here hx rfl (hb hby at_58) rfl rfl ?_
    show own_S p e below T26 (mkF m 59 #[vi p1, vi p2, vr b1, vu, vu, vu, vu] [xr b20, xr b20]) _
    refine XS.iconst X26.here hx rfl (hb hby at_59) ?_
    show own_S p e below T26 (mkF m 60 #[vi p1, vi p2, vr b1, vu, vu, vu, vu] [xi (3 : Int32), xr b20, xr b20]) _
    refine XS.iconst X26.here hx rfl (hb hby at_60) ?_
    show own_S p e below T26 (mkF m 61 #[vi p1, vi p2, vr b1, vu, vu, vu, vu] [xi (3 : Int32), xi (3 : Int32), xr b20, xr b20]) _
    refine st28 _ ?_
    show own_S p e below T28 (mkF m 62 #[vi p1, vi p2, vr b1, vu, vu, vu, vu] [xr b20]) _
    refine XS.dup X28.here hx rfl (hb hby at_62) rfl rfl ?_
    show own_S p e below T28 (mkF m 63 #[vi p1, vi p2, vr b1, vu, vu, vu, vu] [xr b20, xr b20]) _
    refine XS.iconst X28.here hx rfl (hb hby at_63) ?_
    show own_S p e below T28 (mkF m 64 #[vi p1, vi p2, vr b1, vu, vu, vu, vu] [xi (4 : Int32), xr b20, xr b20]) _
    refine XS.iconst X28.here hx rfl (hb hby at_64) ?_
    show own_S p e below T28 (mkF m 65 #[vi p1, vi p2, vr b1, vu, vu, vu, vu] [xi (4 : Int32), xi (4 : Int32), xr b20, xr b20]) _
    refine st30 _ ?_
    show own_S p e below T30 (mkF m 66 #[vi p1, vi p2, vr b1, vu, vu, vu, vu] [xr b20]) _
    refine XS.dup X30.here hx rfl (hb hby at_66) rfl rfl ?_
    show own_S p e below T30 (mkF m 67 #[vi p1, vi p2, vr b1, vu, vu, vu, vu] [xr b20, xr b20]) _
    refine XS.iconst X30.here hx rfl (hb hby at_67) ?_
    show own_S p e below T30 (mkF m 68 #[vi p1, vi p2, vr b1, vu, vu, vu, vu] [xi (5 : Int32), xr b20, xr b20]) _
    refine XS.bipush X30.here hx rfl (hb hby at_68) ?_
    show own_S p e below T30 (mkF m 70 #[vi p1, vi p2, vr b1, vu, vu, vu, vu] [xi (6 : Int32), xi (5 : Int32), xr b20, xr b20]) _
    refine st32 _ ?_
    show own_S p e below T32 (mkF m 71 #[vi p1, vi p2, vr b1, vu, vu, vu, vu] [xr b20]) _
    refine XS.astoreN X32.here hx rfl (hb hby at_71) rfl rfl (l' := #[vi p1, vi p2, vr b1, vr b20, vu, vu, vu]) rfl ?_
    show own_S p e below T32 (mkF m 72 #[vi p1, vi p2, vr b1, vr b20, vu, vu, vu] []) _
    refine XS.iloadN X32.here hx rfl (hb hby at_72) rfl ?_
    show own_S p e below T32 (mkF m 73 #[vi p1, vi p2, vr b1, vr b20, vu, vu, vu] [xi p1]) _
    refine X32.ldcI hx hown (mvT hZ (ww hw 17 rfl)) (g := (mkF m 73 #[vi p1, vi p2, vr b1, vr b20, vu, vu, vu] [xi p1])) rfl (hb hby at_73) ?_
    show own_S p e below T32 (mkF m 75 #[vi p1, vi p2, vr b1, vr b20, vu, vu, vu] [xi (2147483647 : Int32), xi p1]) _
    refine XS.iand X32.here hx rfl (hb hby at_75) rfl ?_
    show own_S p e below T32 (mkF m 76 #[vi p1, vi p2, vr b1, vr b20, vu, vu, vu] [xi (p1 &&& (2147483647 : Int32))]) _
    show own_S p e below T32 (mkF m 76 #[vi p1, vi p2, vr b1, vr b20, vu, vu, vu] [xi (p1 &&& (2147483647 : Int32))]) _
    refine XS.bipush X32.here hx rfl (hb hby at_76) ?_
    show own_S p e below T32 (mkF m 78 #[vi p1, vi p2, vr b1, vr b20, vu, vu, vu] [xi (6 : Int32), xi (p1 &&& (2147483647 : Int32))]) _
    refine XS.irem X32.here hx rfl (hb hby at_78) rfl (by decide) ?_
    show own_S p e below T32 (mkF m 79 #[vi p1, vi p2, vr b1, vr b20, vu, vu, vu] [xi ((p1 &&& (2147483647 : Int32)) - ((p1 &&& (2147483647 : Int32)) / (6 : Int32)) * (6 : Int32))]) _
    refine castTop (show (mkF m 79 #[vi p1, vi p2, vr b1, vr b20, vu, vu, vu] [xi ((p1 &&& (2147483647 : Int32)) - ((p1 &&& (2147483647 : Int32)) / (6 : Int32)) * (6 : Int32))]) = (mkF m 79 #[vi p1, vi p2, vr b1, vr b20, vu, vu, vu] [xi (4 : Int32)]) from by rw [as16]) ?_
    show own_S p e below T32 (mkF m 79 #[vi p1, vi p2, vr b1, vr b20, vu, vu, vu] [xi (4 : Int32)]) _
    refine XS.istore X32.here hx rfl (hb hby at_79) rfl (l' := #[vi p1, vi p2, vr b1, vr b20, vi (4 : Int32), vu, vu]) rfl ?_
    show own_S p e below T32 (mkF m 81 #[vi p1, vi p2, vr b1, vr b20, vi (4 : Int32), vu, vu] []) _
    refine XS.iloadN X32.here hx rfl (hb hby at_81) rfl ?_
    show own_S p e below T32 (mkF m 82 #[vi p1, vi p2, vr b1, vr b20, vi (4 : Int32), vu, vu] [xi p2]) _
    refine XS.ifYes X32.here hx rfl (pc0 := 82) (pc' := 91) rfl (hb hby at_82) rfl as7 (by decide) (by decide) ?_
    show own_S p e below T32 (mkF m 91 #[vi p1, vi p2, vr b1, vr b20, vi (4 : Int32), vu, vu] []) _
    refine XS.iloadN X32.here hx rfl (hb hby at_91) rfl ?_
    show own_S p e below T32 (mkF m 92 #[vi p1, vi p2, vr b1, vr b20, vi (4 : Int32), vu, vu] [xi p2]) _
    refine XS.ifNo X32.here hx rfl (hb hby at_92) rfl as9 ?_
    show own_S p e below T32 (mkF m 95 #[vi p1, vi p2, vr b1, vr b20, vi (4 : Int32), vu, vu] []) _
    refine XS.iconst X32.here hx rfl (hb hby at_95) ?_
    show own_S p e below T32 (mkF m 96 #[vi p1, vi p2, vr b1, vr b20, vi (4 : Int32), vu, vu] [xi (1 : Int32)]) _
    refine XS.istore X32.here hx rfl (hb hby at_96) rfl (l' := #[vi p1, vi p2, vr b1, vr b20, vi (4 : Int32), vi (1 : Int32), vu]) rfl ?_
    show own_S p e below T32 (mkF m 98 #[vi p1, vi p2, vr b1, vr b20, vi (4 : Int32), vi (1 : Int32), vu] []) _
    refine XS.goto X32.here hx rfl (pc0 := 98) (pc' := 104) rfl (hb hby at_98) (by decide) (by decide) ?_
    show own_S p e below T32 (mkF m 104 #[vi p1, vi p2, vr b1, vr b20, vi (4 : Int32), vi (1 : Int32), vu] []) _
    refine XS.aloadN X32.here hx rfl (hb hby at_104) rfl rfl ?_
    show own_S p e below T32 (mkF m 105 #[vi p1, vi p2, vr b1, vr b20, vi (4 : Int32), vi (1 : Int32), vu] [xr b20]) _
    refine XS.iload X32.here hx rfl (hb hby at_105) rfl ?_
    show own_S p e below T32 (mkF m 107 #[vi p1, vi p2, vr b1, vr b20, vi (4 : Int32), vi (1 : Int32), vu] [xi (4 : Int32), xr b20]) _
    refine X32.iaload hx (j := (4 : Int32)) (v := (xi (4 : Int32))) (by rw [e32]; exact Ar33.1) (State.isArrayOf_alike hZ.alike Ar33.2.1) Ar33.2.2 hin33 hat33 (g := (mkF m 107 #[vi p1, vi p2, vr b1, vr b20, vi (4 : Int32), vi (1 : Int32), vu] [xi (4 : Int32), xr b20])) rfl rfl (hb hby at_107) _ ?_
    show own_S p e below T32 (mkF m 108 #[vi p1, vi p2, vr b1, vr b20, vi (4 : Int32), vi (1 : Int32), vu] [xi (4 : Int32)]) _
    refine XS.iload X32.here hx rfl (hb hby at_108) rfl ?_
    show own_S p e below T32 (mkF m 110 #[vi p1, vi p2, vr b1, vr b20, vi (4 : Int32), vi (1 : Int32), vu] [xi (1 : Int32), xi (4 : Int32)]) _
    refine XS.ishr X32.here hx rfl (hb hby at_110) rfl ?_
    show own_S p e below T32 (mkF m 111 #[vi p1, vi p2, vr b1, vr b20, vi (4 : Int32), vi (1 : Int32), vu] [xi ((4 : Int32) >>> ((1 : Int32) &&& 31))]) _
    refine castTop (show (mkF m 111 #[vi p1, vi p2, vr b1, vr b20, vi (4 : Int32), vi (1 : Int32), vu] [xi ((4 : Int32) >>> ((1 : Int32) &&& 31))]) = (mkF m 111 #[vi p1, vi p2, vr b1, vr b20, vi (4 : Int32), vi (1 : Int32), vu] [xi (2 : Int32)]) from by rw [show ((4 : Int32) >>> ((1 : Int32) &&& 31)) = (2 : Int32) from by decide]) ?_
    show own_S p e below T32 (mkF m 111 #[vi p1, vi p2, vr b1, vr b20, vi (4 : Int32), vi (1 : Int32), vu] [xi (2 : Int32)]) _
    refine XS.iconst X32.here hx rfl (hb hby at_111) ?_
    show own_S p e below T32 (mkF m 112 #[vi p1, vi p2, vr b1, vr b20, vi (4 : Int32), vi (1 : Int32), vu] [xi (1 : Int32), xi (2 : Int32)]) _
    refine XS.iand X32.here hx rfl (hb hby at_112) rfl ?_
    show own_S p e below T32 (mkF m 113 #[vi p1, vi p2, vr b1, vr b20, vi (4 : Int32), vi (1 : Int32), vu] [xi ((2 : Int32) &&& (1 : Int32))]) _
    refine castTop (show (mkF m 113 #[vi p1, vi p2, vr b1, vr b20, vi (4 : Int32), vi (1 : Int32), vu] [xi ((2 : Int32) &&& (1 : Int32))]) = (mkF m 113 #[vi p1, vi p2, vr b1, vr b20, vi (4 : Int32), vi (1 : Int32), vu] [xi (0 : Int32)]) from by rw [show ((2 : Int32) &&& (1 : Int32)) = (0 : Int32) from by decide]) ?_
    show own_S p e below T32 (mkF m 113 #[vi p1, vi p2, vr b1, vr b20, vi (4 : Int32), vi (1 : Int32), vu] [xi (0 : Int32)]) _
    refine XS.ifYes X32.here hx rfl (pc0 := 113) (pc' := 120) rfl (hb hby at_113) rfl (by decide) (by decide) (by decide) ?_
    show own_S p e below T32 (mkF m 120 #[vi p1, vi p2, vr b1, vr b20, vi (4 : Int32), vi (1 : Int32), vu] []) _
    refine XS.iconst X32.here hx rfl (hb hby at_120) ?_
    show own_S p e below T32 (mkF m 121 #[vi p1, vi p2, vr b1, vr b20, vi (4 : Int32), vi (1 : Int32), vu] [xi (0 : Int32)]) _
    refine XS.istore X32.here hx rfl (hb hby at_121) rfl (l' := #[vi p1, vi p2, vr b1, vr b20, vi (4 : Int32), vi (1 : Int32), vi (0 : Int32)]) rfl ?_
    show own_S p e below T32 (mkF m 123 #[vi p1, vi p2, vr b1, vr b20, vi (4 : Int32), vi (1 : Int32), vi (0 : Int32)] []) _
    refine XS.aloadN X32.here hx rfl (hb hby at_123) rfl rfl ?_
    show own_S p e below T32 (mkF m 124 #[vi p1, vi p2, vr b1, vr b20, vi (4 : Int32), vi (1 : Int32), vi (0 : Int32)] [xr b1]) _
    refine XS.iload X32.here hx rfl (hb hby at_124) rfl ?_
    show own_S p e below T32 (mkF m 126 #[vi p1, vi p2, vr b1, vr b20, vi (4 : Int32), vi (1 : Int32), vi (0 : Int32)] [xi (4 : Int32), xr b1]) _
    refine X32.aaload hx (j := (4 : Int32)) (v := (xr u4)) (by rw [e32]; exact Ar34.1) (State.isArrayOf_alike hZ.alike Ar34.2.1) rfl Ar34.2.2 hin34 hat34 (g := (mkF m 126 #[vi p1, vi p2, vr b1, vr b20, vi (4 : Int32), vi (1 : Int32), vi (0 : Int32)] [xi (4 : Int32), xr b1])) rfl rfl (hb hby at_126) _ ?_
    show own_S p e below T32 (mkF m 127 #[vi p1, vi p2, vr b1, vr b20, vi (4 : Int32), vi (1 : Int32), vi (0 : Int32)] [xr u4]) _
    refine XS.iloadN X32.here hx rfl (hb hby at_127) rfl ?_
    show own_S p e below T32 (mkF m 128 #[vi p1, vi p2, vr b1, vr b20, vi (4 : Int32), vi (1 : Int32), vi (0 : Int32)] [xi p2, xr u4]) _
    refine st35.trans ?_
    show own_S p e below T35 (mkF m 131 #[vi p1, vi p2, vr b1, vr b20, vi (4 : Int32), vi (1 : Int32), vi (0 : Int32)] [xi (0 : Int32)]) _
    refine XS.iload X35.here hx rfl (hb hby at_131) rfl ?_
    show own_S p e below T35 (mkF m 133 #[vi p1, vi p2, vr b1, vr b20, vi (4 : Int32), vi (1 : Int32), vi (0 : Int32)] [xi (0 : Int32), xi (0 : Int32)]) _
    refine XS.icmpNo X35.here hx rfl (hb hby at_133) rfl (by decide) ?_
    show own_S p e below T35 (mkF m 136 #[vi p1, vi p2, vr b1, vr b20, vi (4 : Int32), vi (1 : Int32), vi (0 : Int32)] []) _
    refine XS.iconst X35.here hx rfl (hb hby at_136) ?_
    show own_S p e below T35 (mkF m 137 #[vi p1, vi p2, vr b1, vr b20, vi (4 : Int32), vi (1 : Int32), vi (0 : Int32)] [xi (1 : Int32)]) _
    refine XS.goto X35.here hx rfl (pc0 := 137) (pc' := 141) rfl (hb hby at_137) (by decide) (by decide) ?_
    show own_S p e below T35 (mkF m 141 #[vi p1, vi p2, vr b1, vr b20, vi (4 : Int32), vi (1 : Int32), vi (0 : Int32)] [xi (1 : Int32)]) _
    exact retN X35 hx (t := .boolean) Bd.returns (by simp) (hb hby at_141) hr
  · exact ⟨rfl, N35⟩
theorem d1_106 : decode prog_62_method_8_code 106 = .ok (.iconst 1, 1) := by decide +kernel
theorem d1_107 : decode prog_62_method_8_code 107 = .ok (.goto 16, 3) := by decide +kernel
theorem ef_own_c14_holds (m : MethodId) (u0 u1 u2 u3 u4 u5 : Addr) (p2 : Int32) : entryFrame m #[xr u4, xi p2] 2 = (mkF m 0 #[vr u4, vi p2] []) := by first | (simp [entryFrame, mkF, argsToLocals, Value.category]; done) | rfl
set_option maxRecDepth 65536 in
set_option maxHeartbeats 40000000 in
theorem own_c14_holds (l : Launch) (Z : State) (a0 : Array Value) (hw : ∀ d ∈ tables_1, d.before a0 Z = true) (u0 u1 u2 u3 u4 u5 : Addr) (G : own_St Z u0 u1 u2 u3 u4 u5) (p2 : Int32) (as11 : ifCond.holds .le p2 = false) (h0 : Heap) (n0 : Nat) (O0 : Old Z n0 h0) : own_Met l Z Y2 prog_62_method_8_code 2 (some .boolean) ({ frames := 1, cells := 0, slots := 0, locals := 12 } : Room) #[xr u4, xi p2] h0 (own_QR (some (xi (1 : Int32))) h0 n0) := by
  intro ws
  refine MetFree.of_bodySF (plainFor_of_name pn1) hisR ?_
  intro p e s m args below meth c s₁ Bd hml0 hP hK
  obtain ⟨rfl, hZ, hh⟩ := hP
  have hx := Bd.exec
  have hby := Bd.bytes
  have hml : c.maxLocals = 2 := hml0
  have hown : s.vm.findClass "com/example/whyle/whyle/cfa/Relation" = some m.cls := findClass_of_methodNamed Bd.named
  have hnm := (name_of_methodNamed Bd.named Bd.method).1
  have X0 : Stand p l e ({ frames := 1, cells := 0, slots := 0, locals := 12 } : Room) s m #[xr u4, xi p2] below meth c s₁ [] 0 0 := Stand.of_body Bd
  have e0 : s₁.heap = h0 := by rw [← hh, Bd.state]; rfl
  have N0 := Fr.nil n0
  have pre0 : ∀ t, Steps p.tables e below (s₁.setTop (mkF m 0 #[vr u4, vi p2] [])) t → Steps p.tables e below (s₁.setTop (entryFrame m #[xr u4, xi p2] 2)) t := fun t st => castTop (ef_own_c14_holds m u0 u1 u2 u3 u4 u5 p2) st
  obtain ⟨cq1, kq1, qa1, qb1, qc1⟩ := isOf hZ e0 ((own_X_u4 G).ext O0.2)
  obtain ⟨_, _, ⟨T1, L1, k1, n1⟩, -, X1, ⟨Lc1, hQ1, l1, y1, z1⟩, st1⟩ := X0.virtualBackUp hx (x := Y1) (y := Y0) hown (mvT hZ (ww hw 23 rfl)) (mvT hZ (ww hw 24 rfl)) (mvT hZ (ww hw 25 rfl)) (by decide) (mvT hZ (ww hw 27 rfl)) (mvT hZ (ww hw 26 rfl)) (backOf (W := 0) (own_c12_ordinal l Z a0 hw u0 u1 u2 u3 u4 u5 G h0 n0 O0 []) hZ (ww hw 29 rfl) (ww hw 28 rfl) (by decide) (by decide)) qa1 qc1 (g := (mkF m 1 #[vr u4, vi p2] [xr u4])) rfl (by rw [hml]; rfl) (Steps.refl _) (argsL := []) (rest := []) (lenOf pd0 rfl) rfl (by show 2 * 0 + _ ≤ _; exact Nat.le_of_eq rfl) (hb hby d1_1) (fun _ _ => ⟨rfl, e0, (by decide : 0 + 0 ≤ _), (by decide : 0 + 0 ≤ _)⟩)
  dsimp only [Pt.U, Pt.locs, Pt.cells, Pt.slots] at X1 l1 y1 z1 st1 hQ1
  subst l1 y1 z1
  obtain ⟨rfl, Nq1, e1⟩ := hQ1
  have N1 := Fr.app N0 Nq1
  obtain ⟨fs, hr, hrun, hended, hW, hsame⟩ := X1.leave (v := some (xi (1 : Int32))) (fun h => by rw [Bd.returns] at h; cases h)
  refine ⟨_, _, pre0 _ ?_, hrun, hended, _, _, rfl, ?_, ⟨_, rfl⟩, hW, hsame.mono (by decide) (by decide)⟩
  · show own_S p e below s₁ (mkF m 0 #[vr u4, vi p2] []) _
    refine XS.aloadN X0.here hx rfl (hb hby d1_0) rfl rfl ?_
    show own_S p e below s₁ (mkF m 1 #[vr u4, vi p2] [xr u4]) _
    refine st1.trans ?_
    show own_S p e below T1 (mkF m 4 #[vr u4, vi p2] [xi (4 : Int32)]) _
    refine XS.tswIn X1.here hx rfl (pc0 := 4) (pc' := 102) (o := 98) rfl (hb hby d1_4) rfl (by decide) (by decide) (by decide) (by decide) ?_
    show own_S p e below T1 (mkF m 102 #[vr u4, vi p2] []) _
    refine XS.iloadN X1.here hx rfl (hb hby d1_102) rfl ?_
    show own_S p e below T1 (mkF m 103 #[vr u4, vi p2] [xi p2]) _
    refine XS.ifNo X1.here hx rfl (hb hby d1_103) rfl as11 ?_
    show own_S p e below T1 (mkF m 106 #[vr u4, vi p2] []) _
    refine XS.iconst X1.here hx rfl (hb hby d1_106) ?_
    show own_S p e below T1 (mkF m 107 #[vr u4, vi p2] [xi (1 : Int32)]) _
    refine XS.goto X1.here hx rfl (pc0 := 107) (pc' := 123) rfl (hb hby d1_107) (by decide) (by decide) ?_
    show own_S p e below T1 (mkF m 123 #[vr u4, vi p2] [xi (1 : Int32)]) _
    exact retN X1 hx (t := .boolean) Bd.returns (by simp) (hb hby d1_123) hr
  · exact ⟨rfl, N1, e1⟩
theorem ef_own_l14 (m : MethodId) (u0 u1 u2 u3 u4 u5 : Addr) (p1 : Int32) (p2 : Int32) : entryFrame m #[xi p1, xi p2] maxLocals = (mkF m 0 #[vi p1, vi p2, vu, vu, vu, vu, vu] []) := by first | (simp [entryFrame, mkF, argsToLocals, Value.category, maxLocals]; done) | rfl
set_option maxRecDepth 65536 in
set_option maxHeartbeats 40000000 in
theorem own_l14 (l : Launch) (Z : State) (a0 : Array Value) (hw : ∀ d ∈ tables_1, d.before a0 Z = true) (u0 u1 u2 u3 u4 u5 : Addr) (G : own_St Z u0 u1 u2 u3 u4 u5) (p1 : Int32) (p2 : Int32) (as16 : ((p1 &&& (2147483647 : Int32)) - ((p1 &&& (2147483647 : Int32)) / (6 : Int32)) * (6 : Int32)) = (4 : Int32)) (as7 : ifCond.holds .ge p2 = true) (as3 : ifCond.holds .ne p2 = true) (as11 : ifCond.holds .le p2 = false) (h0 : Heap) (n0 : Nat) (O0 : Old Z n0 h0) : own_Met l Z x code maxLocals ret room_1 #[xi p1, xi p2] h0 (own_QL (some (xi (1 : Int32))) n0) := by
  intro ws
  refine MetFree.of_bodySF (plainFor_of_name pn2) hisR ?_
  intro p e s m args below meth c s₁ Bd hml0 hP hK
  obtain ⟨rfl, hZ, hh⟩ := hP
  have hx := Bd.exec
  have hby := Bd.bytes
  have hml : c.maxLocals = 7 := hml0
  have hown : s.vm.findClass "com/example/whyle/whyle/cfa/RelationHoldsPinLaw" = some m.cls := findClass_of_methodNamed Bd.named
  have hnm := (name_of_methodNamed Bd.named Bd.method).1
  have X0 : Stand p l e room_1 s m #[xi p1, xi p2] below meth c s₁ [] 0 0 := Stand.of_body Bd
  have e0 : s₁.heap = h0 := by rw [← hh, Bd.state]; rfl
  have N0 := Fr.nil n0
  have pre0 : ∀ t, Steps p.tables e below (s₁.setTop (mkF m 0 #[vi p1, vi p2, vu, vu, vu, vu, vu] [])) t → Steps p.tables e below (s₁.setTop (entryFrame m #[xi p1, xi p2] maxLocals)) t := fun t st => castTop (ef_own_l14 m u0 u1 u2 u3 u4 u5 p1 p2) st
  obtain ⟨T1, h1, k1, X1, e1, E1, A1, Ov1, st1⟩ := newR X0 hx hZ hown (ww hw 0 rfl) (ww hw 1 rfl) e0 (g := (mkF m 2 #[vi p1, vi p2, vu, vu, vu, vu, vu] [xi (6 : Int32)])) rfl (hb hby at_2) rfl (by decide) (cap := 6) (by decide) (by decide) (by decide) (by decide)
  obtain ⟨b1, g1⟩ : ∃ z, z = h0.size := ⟨_, rfl⟩
  rw [← g1] at A1 st1
  have g_b1 : n0 ≤ b1 := own_fresh O0 g1
  have O1 : Old Z n0 h1 := O0.ext E1
  have V_b1 : Arv Z h1 b1 k1 (.object "com/example/whyle/whyle/cfa/Relation") (6 : Int32) [.null, .null, .null, .null, .null, .null] .null := (Arv.new A1 (by decide)).pad (pad_rep [] .null 6)
  obtain ⟨T2, X2, e2, st2⟩ := getS2 X1 hx hZ hown (host := "") (Or.inl (ww hw 2 rfl)) Via.refl e1 ((own_S_u0 G).ext O1.2) (g := (mkF m 7 #[vi p1, vi p2, vu, vu, vu, vu, vu] [xi (0 : Int32), xr b1, xr b1])) rfl (hb hby at_7)
  obtain ⟨cl3, Ar3, q3, S3, N3_, H3, G3⟩ := V_b1
  have hin3 : ¬ ((0 : Int32) < 0 ∨ cl3.slots.size ≤ ((0 : Int32)).toNatClampNeg) := inb_of S3 ⟨by decide, by decide⟩
  obtain ⟨T4, h4, X4, e4, W4, st4⟩ := stR X2 hx hZ e2 Ar3 (j := (0 : Int32)) hin3 rfl (Sto.ofV Ar3 q3 Ov1 (Ins.self ((own_X_u0 G).ext O1.2))) (g := (mkF m 10 #[vi p1, vi p2, vu, vu, vu, vu, vu] [xr u0, xi (0 : Int32), xr b1, xr b1])) rfl rfl (hb hby at_10)
  have V_b1_4 : Arv Z h4 b1 k1 (.object "com/example/whyle/whyle/cfa/Relation") (6 : Int32) [xr u0, .null, .null, .null, .null, .null] .null := Arv.set Ar3 q3 S3 N3_ H3 G3 rfl W4 0 rfl (Nat.le_of_ble_eq_true rfl)
  have O4 : Old Z n0 h4 := O1.wr W4 g_b1
  have N4 := Fr.snoc X4 N0 g_b1
  obtain ⟨T5, X5, e5, st5⟩ := getS2 X4 hx hZ hown (host := "") (Or.inl (ww hw 6 rfl)) Via.refl e4 ((own_S_u1 G).ext O4.2) (g := (mkF m 13 #[vi p1, vi p2, vu, vu, vu, vu, vu] [xi (1 : Int32), xr b1, xr b1])) rfl (hb hby at_13)
  obtain ⟨cl6, Ar6, q6, S6, N6_, H6, G6⟩ := V_b1_4
  have hin6 : ¬ ((1 : Int32) < 0 ∨ cl6.slots.size ≤ ((1 : Int32)).toNatClampNeg) := inb_of S6 ⟨by decide, by decide⟩
  obtain ⟨T7, h7, X7, e7, W7, st7⟩ := stR X5 hx hZ e5 Ar6 (j := (1 : Int32)) hin6 rfl (Sto.ofV Ar6 q6 Ov1 (Ins.self ((own_X_u1 G).ext O4.2))) (g := (mkF m 16 #[vi p1, vi p2, vu, vu, vu, vu, vu] [xr u1, xi (1 : Int32), xr b1, xr b1])) rfl rfl (hb hby at_16)
  have V_b1_7 : Arv Z h7 b1 k1 (.object "com/example/whyle/whyle/cfa/Relation") (6 : Int32) [xr u0, xr u1, .null, .null, .null, .null] .null := Arv.set Ar6 q6 S6 N6_ H6 G6 rfl W7 1 rfl (Nat.le_of_ble_eq_true rfl)
  have O7 : Old Z n0 h7 := O4.wr W7 g_b1
  have N7 := Fr.snoc X7 N4 g_b1
  obtain ⟨T8, X8, e8, st8⟩ := getS2 X7 hx hZ hown (host := "") (Or.inl (ww hw 8 rfl)) Via.refl e7 ((own_S_u2 G).ext O7.2) (g := (mkF m 19 #[vi p1, vi p2, vu, vu, vu, vu, vu] [xi (2 : Int32), xr b1, xr b1])) rfl (hb hby at_19)
  obtain ⟨cl9, Ar9, q9, S9, N9_, H9, G9⟩ := V_b1_7
  have hin9 : ¬ ((2 : Int32) < 0 ∨ cl9.slots.size ≤ ((2 : Int32)).toNatClampNeg) := inb_of S9 ⟨by decide, by decide⟩
  obtain ⟨T10, h10, X10, e10, W10, st10⟩ := stR X8 hx hZ e8 Ar9 (j := (2 : Int32)) hin9 rfl (Sto.ofV Ar9 q9 Ov1 (Ins.self ((own_X_u2 G).ext O7.2))) (g := (mkF m 22 #[vi p1, vi p2, vu, vu, vu, vu, vu] [xr u2, xi (2 : Int32), xr b1, xr b1])) rfl rfl (hb hby at_22)
  have V_b1_10 : Arv Z h10 b1 k1 (.object "com/example/whyle/whyle/cfa/Relation") (6 : Int32) [xr u0, xr u1, xr u2, .null, .null, .null] .null := Arv.set Ar9 q9 S9 N9_ H9 G9 rfl W10 2 rfl (Nat.le_of_ble_eq_true rfl)
  have O10 : Old Z n0 h10 := O7.wr W10 g_b1
  have N10 := Fr.snoc X10 N7 g_b1
  obtain ⟨T11, X11, e11, st11⟩ := getS2 X10 hx hZ hown (host := "") (Or.inl (ww hw 10 rfl)) Via.refl e10 ((own_S_u3 G).ext O10.2) (g := (mkF m 25 #[vi p1, vi p2, vu, vu, vu, vu, vu] [xi (3 : Int32), xr b1, xr b1])) rfl (hb hby at_25)
  obtain ⟨cl12, Ar12, q12, S12, N12_, H12, G12⟩ := V_b1_10
  have hin12 : ¬ ((3 : Int32) < 0 ∨ cl12.slots.size ≤ ((3 : Int32)).toNatClampNeg) := inb_of S12 ⟨by decide, by decide⟩
  obtain ⟨T13, h13, X13, e13, W13, st13⟩ := stR X11 hx hZ e11 Ar12 (j := (3 : Int32)) hin12 rfl (Sto.ofV Ar12 q12 Ov1 (Ins.self ((own_X_u3 G).ext O10.2))) (g := (mkF m 28 #[vi p1, vi p2, vu, vu, vu, vu, vu] [xr u3, xi (3 : Int32), xr b1, xr b1])) rfl rfl (hb hby at_28)
  have V_b1_13 : Arv Z h13 b1 k1 (.object "com/example/whyle/whyle/cfa/Relation") (6 : Int32) [xr u0, xr u1, xr u2, xr u3, .null, .null] .null := Arv.set Ar12 q12 S12 N12_ H12 G12 rfl W13 3 rfl (Nat.le_of_ble_eq_true rfl)
  have O13 : Old Z n0 h13 := O10.wr W13 g_b1
  have N13 := Fr.snoc X13 N10 g_b1
  obtain ⟨T14, X14, e14, st14⟩ := getS2 X13 hx hZ hown (host := "") (Or.inl (ww hw 12 rfl)) Via.refl e13 ((own_S_u4 G).ext O13.2) (g := (mkF m 31 #[vi p1, vi p2, vu, vu, vu, vu, vu] [xi (4 : Int32), xr b1, xr b1])) rfl (hb hby at_31)
  obtain ⟨cl15, Ar15, q15, S15, N15_, H15, G15⟩ := V_b1_13
  have hin15 : ¬ ((4 : Int32) < 0 ∨ cl15.slots.size ≤ ((4 : Int32)).toNatClampNeg) := inb_of S15 ⟨by decide, by decide⟩
  obtain ⟨T16, h16, X16, e16, W16, st16⟩ := stR X14 hx hZ e14 Ar15 (j := (4 : Int32)) hin15 rfl (Sto.ofV Ar15 q15 Ov1 (Ins.self ((own_X_u4 G).ext O13.2))) (g := (mkF m 34 #[vi p1, vi p2, vu, vu, vu, vu, vu] [xr u4, xi (4 : Int32), xr b1, xr b1])) rfl rfl (hb hby at_34)
  have V_b1_16 : Arv Z h16 b1 k1 (.object "com/example/whyle/whyle/cfa/Relation") (6 : Int32) [xr u0, xr u1, xr u2, xr u3, xr u4, .null] .null := Arv.set Ar15 q15 S15 N15_ H15 G15 rfl W16 4 rfl (Nat.le_of_ble_eq_true rfl)
  have O16 : Old Z n0 h16 := O13.wr W16 g_b1
  have N16 := Fr.snoc X16 N13 g_b1
  obtain ⟨T17, X17, e17, st17⟩ := getS2 X16 hx hZ hown (host := "") (Or.inl (ww hw 14 rfl)) Via.refl e16 ((own_S_u5 G).ext O16.2) (g := (mkF m 37 #[vi p1, vi p2, vu, vu, vu, vu, vu] [xi (5 : Int32), xr b1, xr b1])) rfl (hb hby at_37)
  obtain ⟨cl18, Ar18, q18, S18, N18_, H18, G18⟩ := V_b1_16
  have hin18 : ¬ ((5 : Int32) < 0 ∨ cl18.slots.size ≤ ((5 : Int32)).toNatClampNeg) := inb_of S18 ⟨by decide, by decide⟩
  obtain ⟨T19, h19, X19, e19, W19, st19⟩ := stR X17 hx hZ e17 Ar18 (j := (5 : Int32)) hin18 rfl (Sto.ofV Ar18 q18 Ov1 (Ins.self ((own_X_u5 G).ext O16.2))) (g := (mkF m 40 #[vi p1, vi p2, vu, vu, vu, vu, vu] [xr u5, xi (5 : Int32), xr b1, xr b1])) rfl rfl (hb hby at_40)
  have V_b1_19 : Arv Z h19 b1 k1 (.object "com/example/whyle/whyle/cfa/Relation") (6 : Int32) [xr u0, xr u1, xr u2, xr u3, xr u4, xr u5] .null := Arv.set Ar18 q18 S18 N18_ H18 G18 rfl W19 5 rfl (Nat.le_of_ble_eq_true rfl)
  have O19 : Old Z n0 h19 := O16.wr W19 g_b1
  have N19 := Fr.snoc X19 N16 g_b1
  obtain ⟨T20, h20, k20, X20, e20, E20, A20, st20⟩ := newP X19 hx hZ (ww hw 16 rfl) e19 (g := (mkF m 44 #[vi p1, vi p2, vr b1, vu, vu, vu, vu] [xi (6 : Int32)])) rfl (hb hby at_44) rfl (by decide) (cap := 6) (by decide) (by decide) (by decide) (by decide)
  obtain ⟨b20, g20⟩ : ∃ z, z = h19.size := ⟨_, rfl⟩
  rw [← g20] at A20 st20
  have g_b20 : n0 ≤ b20 := own_fresh O19 g20
  have ne_b1_b20 : b1 ≠ b20 := Nat.ne_of_lt (Nat.lt_of_lt_of_le (V_b1_19).lt (Nat.le_of_eq g20.symm))
  have O20 : Old Z n0 h20 := O19.ext E20
  have V_b1_20 := V_b1_19.ext E20
  have V_b20 : Arv Z h20 b20 k20 .int (6 : Int32) [(.int (0 : Int32)), (.int (0 : Int32)), (.int (0 : Int32)), (.int (0 : Int32)), (.int (0 : Int32)), (.int (0 : Int32))] (.int (0 : Int32)) := (Arv.new A20 (by decide)).pad (pad_rep [] (.int (0 : Int32)) 6)
  obtain ⟨cl21, Ar21, q21, S21, N21_, H21, G21⟩ := V_b20
  have hin21 : ¬ ((0 : Int32) < 0 ∨ cl21.slots.size ≤ ((0 : Int32)).toNatClampNeg) := inb_of S21 ⟨by decide, by decide⟩
  obtain ⟨T22, h22, X22, e22, W22, st22⟩ := stI X20 hx hZ e20 Ar21 (j := (0 : Int32)) hin21 (g := (mkF m 49 #[vi p1, vi p2, vr b1, vu, vu, vu, vu] [xi (2 : Int32), xi (0 : Int32), xr b20, xr b20])) rfl rfl (hb hby at_49)
  have V_b20_22 : Arv Z h22 b20 k20 .int (6 : Int32) [xi (2 : Int32), xi (0 : Int32), xi (0 : Int32), xi (0 : Int32), xi (0 : Int32), xi (0 : Int32)] (.int (0 : Int32)) := Arv.set Ar21 q21 S21 N21_ H21 G21 rfl W22 0 rfl (Nat.le_of_ble_eq_true rfl)
  have O22 : Old Z n0 h22 := O20.wr W22 g_b20
  have V_b1_22 := V_b1_20.other W22 ne_b1_b20
  have N22 := Fr.snoc X22 N19 g_b20
  obtain ⟨cl23, Ar23, q23, S23, N23_, H23, G23⟩ := V_b20_22
  have hin23 : ¬ ((1 : Int32) < 0 ∨ cl23.slots.size ≤ ((1 : Int32)).toNatClampNeg) := inb_of S23 ⟨by decide, by decide⟩
  obtain ⟨T24, h24, X24, e24, W24, st24⟩ := stI X22 hx hZ e22 Ar23 (j := (1 : Int32)) hin23 (g := (mkF m 53 #[vi p1, vi p2, vr b1, vu, vu, vu, vu] [xi (5 : Int32), xi (1 : Int32), xr b20, xr b20])) rfl rfl (hb hby at_53)
  have V_b20_24 : Arv Z h24 b20 k20 .int (6 : Int32) [xi (2 : Int32), xi (5 : Int32), xi (0 : Int32), xi (0 : Int32), xi (0 : Int32), xi (0 : Int32)] (.int (0 : Int32)) := Arv.set Ar23 q23 S23 N23_ H23 G23 rfl W24 1 rfl (Nat.le_of_ble_eq_true rfl)
  have O24 : Old Z n0 h24 := O22.wr W24 g_b20
  have V_b1_24 := V_b1_22.other W24 ne_b1_b20
  have N24 := Fr.snoc X24 N22 g_b20
  obtain ⟨cl25, Ar25, q25, S25, N25_, H25, G25⟩ := V_b20_24
  have hin25 : ¬ ((2 : Int32) < 0 ∨ cl25.slots.size ≤ ((2 : Int32)).toNatClampNeg) := inb_of S25 ⟨by decide, by decide⟩
  obtain ⟨T26, h26, X26, e26, W26, st26⟩ := stI X24 hx hZ e24 Ar25 (j := (2 : Int32)) hin25 (g := (mkF m 57 #[vi p1, vi p2, vr b1, vu, vu, vu, vu] [xi (1 : Int32), xi (2 : Int32), xr b20, xr b20])) rfl rfl (hb hby at_57)
  have V_b20_26 : Arv Z h26 b20 k20 .int (6 : Int32) [xi (2 : Int32), xi (5 : Int32), xi (1 : Int32), xi (0 : Int32), xi (0 : Int32), xi (0 : Int32)] (.int (0 : Int32)) := Arv.set Ar25 q25 S25 N25_ H25 G25 rfl W26 2 rfl (Nat.le_of_ble_eq_true rfl)
  have O26 : Old Z n0 h26 := O24.wr W26 g_b20
  have V_b1_26 := V_b1_24.other W26 ne_b1_b20
  have N26 := Fr.snoc X26 N24 g_b20
  obtain ⟨cl27, Ar27, q27, S27, N27_, H27, G27⟩ := V_b20_26
  have hin27 : ¬ ((3 : Int32) < 0 ∨ cl27.slots.size ≤ ((3 : Int32)).toNatClampNeg) := inb_of S27 ⟨by decide, by decide⟩
  obtain ⟨T28, h28, X28, e28, W28, st28⟩ := stI X26 hx hZ e26 Ar27 (j := (3 : Int32)) hin27 (g := (mkF m 61 #[vi p1, vi p2, vr b1, vu, vu, vu, vu] [xi (3 : Int32), xi (3 : Int32), xr b20, xr b20])) rfl rfl (hb hby at_61)
  have V_b20_28 : Arv Z h28 b20 k20 .int (6 : Int32) [xi (2 : Int32), xi (5 : Int32), xi (1 : Int32), xi (3 : Int32), xi (0 : Int32), xi (0 : Int32)] (.int (0 : Int32)) := Arv.set Ar27 q27 S27 N27_ H27 G27 rfl W28 3 rfl (Nat.le_of_ble_eq_true rfl)
  have O28 : Old Z n0 h28 := O26.wr W28 g_b20
  have V_b1_28 := V_b1_26.other W28 ne_b1_b20
  have N28 := Fr.snoc X28 N26 g_b20
  obtain ⟨cl29, Ar29, q29, S29, N29_, H29, G29⟩ := V_b20_28
  have hin29 : ¬ ((4 : Int32) < 0 ∨ cl29.slots.size ≤ ((4 : Int32)).toNatClampNeg) := inb_of S29 ⟨by decide, by decide⟩
  obtain ⟨T30, h30, X30, e30, W30, st30⟩ := stI X28 hx hZ e28 Ar29 (j := (4 : Int32)) hin29 (g := (mkF m 65 #[vi p1, vi p2, vr b1, vu, vu, vu, vu] [xi (4 : Int32), xi (4 : Int32), xr b20, xr b20])) rfl rfl (hb hby at_65)
  have V_b20_30 : Arv Z h30 b20 k20 .int (6 : Int32) [xi (2 : Int32), xi (5 : Int32), xi (1 : Int32), xi (3 : Int32), xi (4 : Int32), xi (0 : Int32)] (.int (0 : Int32)) := Arv.set Ar29 q29 S29 N29_ H29 G29 rfl W30 4 rfl (Nat.le_of_ble_eq_true rfl)
  have O30 : Old Z n0 h30 := O28.wr W30 g_b20
  have V_b1_30 := V_b1_28.other W30 ne_b1_b20
  have N30 := Fr.snoc X30 N28 g_b20
  obtain ⟨cl31, Ar31, q31, S31, N31_, H31, G31⟩ := V_b20_30
  have hin31 : ¬ ((5 : Int32) < 0 ∨ cl31.slots.size ≤ ((5 : Int32)).toNatClampNeg) := inb_of S31 ⟨by decide, by decide⟩
  obtain ⟨T32, h32, X32, e32, W32, st32⟩ := stI X30 hx hZ e30 Ar31 (j := (5 : Int32)) hin31 (g := (mkF m 70 #[vi p1, vi p2, vr b1, vu, vu, vu, vu] [xi (6 : Int32), xi (5 : Int32), xr b20, xr b20])) rfl rfl (hb hby at_70)
  have V_b20_32 : Arv Z h32 b20 k20 .int (6 : Int32) [xi (2 : Int32), xi (5 : Int32), xi (1 : Int32), xi (3 : Int32), xi (4 : Int32), xi (6 : Int32)] (.int (0 : Int32)) := Arv.set Ar31 q31 S31 N31_ H31 G31 rfl W32 5 rfl (Nat.le_of_ble_eq_true rfl)
  have O32 : Old Z n0 h32 := O30.wr W32 g_b20
  have V_b1_32 := V_b1_30.other W32 ne_b1_b20
  have N32 := Fr.snoc X32 N30 g_b20
  obtain ⟨cl33, Ar33, q33, S33, N33_, H33, G33⟩ := V_b20_32
  have hin33 : ¬ ((4 : Int32) < 0 ∨ cl33.slots.size ≤ ((4 : Int32)).toNatClampNeg) := inb_of S33 ⟨by decide, by decide⟩
  have hat33 : cl33.slots[((4 : Int32)).toNatClampNeg]? = some (xi (4 : Int32)) := Has.at H33 hin33 rfl
  obtain ⟨cl34, Ar34, q34, S34, N34_, H34, G34⟩ := V_b1_32
  have hin34 : ¬ ((4 : Int32) < 0 ∨ cl34.slots.size ≤ ((4 : Int32)).toNatClampNeg) := inb_of S34 ⟨by decide, by decide⟩
  have hat34 : cl34.slots[((4 : Int32)).toNatClampNeg]? = some (xr u4) := Has.at H34 hin34 rfl
  obtain ⟨cq35, kq35, qa35, qb35, qc35⟩ := isOf hZ e32 ((own_X_u4 G).ext O32.2)
  obtain ⟨_, _, ⟨T35, L35, k35, n35⟩, -, X35, ⟨Lc35, hQ35, l35, y35, z35⟩, st35⟩ := X32.virtualBack hx (y := Y2) (z := Y2) hown (mvT hZ (ww hw 18 rfl)) (mvT hZ (ww hw 19 rfl)) (notFace_of_selects (args := #[]) (mvT hZ (ww hw 21 rfl))) (mvT hZ (ww hw 21 rfl)) (mvT hZ (ww hw 20 rfl)) (by decide) (backOf (W := 0) (own_c14_holds l Z a0 hw u0 u1 u2 u3 u4 u5 G p2 as11 h32 n0 O32 []) hZ (ww hw 22 rfl) (ww hw 3 rfl) (by decide) (by decide)) qa35 qc35 (g := (mkF m 128 #[vi p1, vi p2, vr b1, vr b20, vi (4 : Int32), vi (2 : Int32), vi (1 : Int32)] [xi p2, xr u4])) rfl (by rw [hml]; rfl) (Steps.refl _) (argsL := [xi p2]) (rest := []) (lenOf pd1 rfl) rfl (by show 2 * 0 + _ ≤ _; exact Nat.le_of_eq rfl) (hb hby at_128) (fun _ _ => ⟨rfl, e32, (by decide : 2 + 0 ≤ _), (by decide : 12 + 0 ≤ _)⟩)
  dsimp only [Pt.U, Pt.locs, Pt.cells, Pt.slots] at X35 l35 y35 z35 st35 hQ35
  subst l35 y35 z35
  obtain ⟨rfl, Nq35, e35⟩ := hQ35
  have N35 := Fr.app N32 Nq35
  obtain ⟨fs, hr, hrun, hended, hW, hsame⟩ := X35.leave (v := some (xi (1 : Int32))) (fun h => by rw [Bd.returns] at h; cases h)
  refine ⟨_, _, pre0 _ ?_, hrun, hended, _, _, rfl, ?_, ⟨_, rfl⟩, hW, hsame.mono (by decide) (by decide)⟩
  · show own_S p e below s₁ (mkF m 0 #[vi p1, vi p2, vu, vu, vu, vu, vu] []) _
    refine XS.bipush X0.here hx rfl (hb hby at_0) ?_
    show own_S p e below s₁ (mkF m 2 #[vi p1, vi p2, vu, vu, vu, vu, vu] [xi (6 : Int32)]) _
    refine st1 _ ?_
    show own_S p e below T1 (mkF m 5 #[vi p1, vi p2, vu, vu, vu, vu, vu] [xr b1]) _
    refine XS.dup X1.here hx rfl (hb hby at_5) rfl rfl ?_
    show own_S p e below T1 (mkF m 6 #[vi p1, vi p2, vu, vu, vu, vu, vu] [xr b1, xr b1]) _
    refine XS.iconst X1.here hx rfl (hb hby at_6) ?_
    show own_S p e below T1 (mkF m 7 #[vi p1, vi p2, vu, vu, vu, vu, vu] [xi (0 : Int32), xr b1, xr b1]) _
    refine st2 _ ?_
    show own_S p e below T2 (mkF m 10 #[vi p1, vi p2, vu, vu, vu, vu, vu] [xr u0, xi (0 : Int32), xr b1, xr b1]) _
    refine st4 _ ?_
    show own_S p e below T4 (mkF m 11 #[vi p1, vi p2, vu, vu, vu, vu, vu] [xr b1]) _
    refine XS.dup X4.here hx rfl (hb hby at_11) rfl rfl ?_
    show own_S p e below T4 (mkF m 12 #[vi p1, vi p2, vu, vu, vu, vu, vu] [xr b1, xr b1]) _
    refine XS.iconst X4.here hx rfl (hb hby at_12) ?_
    show own_S p e below T4 (mkF m 13 #[vi p1, vi p2, vu, vu, vu, vu, vu] [xi (1 : Int32), xr b1, xr b1]) _
    refine st5 _ ?_
    show own_S p e below T5 (mkF m 16 #[vi p1, vi p2, vu, vu, vu, vu, vu] [xr u1, xi (1 : Int32), xr b1, xr b1]) _
    refine st7 _ ?_
    show own_S p e below T7 (mkF m 17 #[vi p1, vi p2, vu, vu, vu, vu, vu] [xr b1]) _
    refine XS.dup X7.here hx rfl (hb hby at_17) rfl rfl ?_
    show own_S p e below T7 (mkF m 18 #[vi p1, vi p2, vu, vu, vu, vu, vu] [xr b1, xr b1]) _
    refine XS.iconst X7.here hx rfl (hb hby at_18) ?_
    show own_S p e below T7 (mkF m 19 #[vi p1, vi p2, vu, vu, vu, vu, vu] [xi (2 : Int32), xr b1, xr b1]) _
    refine st8 _ ?_
    show own_S p e below T8 (mkF m 22 #[vi p1, vi p2, vu, vu, vu, vu, vu] [xr u2, xi (2 : Int32), xr b1, xr b1]) _
    refine st10 _ ?_
    show own_S p e below T10 (mkF m 23 #[vi p1, vi p2, vu, vu, vu, vu, vu] [xr b1]) _
    refine XS.dup X10.here hx rfl (hb hby at_23) rfl rfl ?_
    show own_S p e below T10 (mkF m 24 #[vi p1, vi p2, vu, vu, vu, vu, vu] [xr b1, xr b1]) _
    refine XS.iconst X10.here hx rfl (hb hby at_24) ?_
    show own_S p e below T10 (mkF m 25 #[vi p1, vi p2, vu, vu, vu, vu, vu] [xi (3 : Int32), xr b1, xr b1]) _
    refine st11 _ ?_
    show own_S p e below T11 (mkF m 28 #[vi p1, vi p2, vu, vu, vu, vu, vu] [xr u3, xi (3 : Int32), xr b1, xr b1]) _
    refine st13 _ ?_
    show own_S p e below T13 (mkF m 29 #[vi p1, vi p2, vu, vu, vu, vu, vu] [xr b1]) _
    refine XS.dup X13.here hx rfl (hb hby at_29) rfl rfl ?_
    show own_S p e below T13 (mkF m 30 #[vi p1, vi p2, vu, vu, vu, vu, vu] [xr b1, xr b1]) _
    refine XS.iconst X13.here hx rfl (hb hby at_30) ?_
    show own_S p e below T13 (mkF m 31 #[vi p1, vi p2, vu, vu, vu, vu, vu] [xi (4 : Int32), xr b1, xr b1]) _
    refine st14 _ ?_
    show own_S p e below T14 (mkF m 34 #[vi p1, vi p2, vu, vu, vu, vu, vu] [xr u4, xi (4 : Int32), xr b1, xr b1]) _
    refine st16 _ ?_
    show own_S p e below T16 (mkF m 35 #[vi p1, vi p2, vu, vu, vu, vu, vu] [xr b1]) _
    refine XS.dup X16.here hx rfl (hb hby at_35) rfl rfl ?_
    show own_S p e below T16 (mkF m 36 #[vi p1, vi p2, vu, vu, vu, vu, vu] [xr b1, xr b1]) _
    refine XS.iconst X16.here hx rfl (hb hby at_36) ?_
    show own_S p e below T16 (mkF m 37 #[vi p1, vi p2, vu, vu, vu, vu, vu] [xi (5 : Int32), xr b1, xr b1]) _
    refine st17 _ ?_
    show own_S p e below T17 (mkF m 40 #[vi p1, vi p2, vu, vu, vu, vu, vu] [xr u5, xi (5 : Int32), xr b1, xr b1]) _
    refine st19 _ ?_
    show own_S p e below T19 (mkF m 41 #[vi p1, vi p2, vu, vu, vu, vu, vu] [xr b1]) _
    refine XS.astoreN X19.here hx rfl (hb hby at_41) rfl rfl (l' := #[vi p1, vi p2, vr b1, vu, vu, vu, vu]) rfl ?_
    show own_S p e below T19 (mkF m 42 #[vi p1, vi p2, vr b1, vu, vu, vu, vu] []) _
    refine XS.bipush X19.here hx rfl (hb hby at_42) ?_
    show own_S p e below T19 (mkF m 44 #[vi p1, vi p2, vr b1, vu, vu, vu, vu] [xi (6 : Int32)]) _
    refine st20 _ ?_
    show own_S p e below T20 (mkF m 46 #[vi p1, vi p2, vr b1, vu, vu, vu, vu] [xr b20]) _
    refine XS.dup X20.here hx rfl (hb hby at_46) rfl rfl ?_
    show own_S p e below T20 (mkF m 47 #[vi p1, vi p2, vr b1, vu, vu, vu, vu] [xr b20, xr b20]) _
    refine XS.iconst X20.here hx rfl (hb hby at_47) ?_
    show own_S p e below T20 (mkF m 48 #[vi p1, vi p2, vr b1, vu, vu, vu, vu] [xi (0 : Int32), xr b20, xr b20]) _
    refine XS.iconst X20.here hx rfl (hb hby at_48) ?_
    show own_S p e below T20 (mkF m 49 #[vi p1, vi p2, vr b1, vu, vu, vu, vu] [xi (2 : Int32), xi (0 : Int32), xr b20, xr b20]) _
    refine st22 _ ?_
    show own_S p e below T22 (mkF m 50 #[vi p1, vi p2, vr b1, vu, vu, vu, vu] [xr b20]) _
    refine XS.dup X22.here hx rfl (hb hby at_50) rfl rfl ?_
    show own_S p e below T22 (mkF m 51 #[vi p1, vi p2, vr b1, vu, vu, vu, vu] [xr b20, xr b20]) _
    refine XS.iconst X22.here hx rfl (hb hby at_51) ?_
    show own_S p e below T22 (mkF m 52 #[vi p1, vi p2, vr b1, vu, vu, vu, vu] [xi (1 : Int32), xr b20, xr b20]) _
    refine XS.iconst X22.here hx rfl (hb hby at_52) ?_
    show own_S p e below T22 (mkF m 53 #[vi p1, vi p2, vr b1, vu, vu, vu, vu] [xi (5 : Int32), xi (1 : Int32), xr b20, xr b20]) _
    refine st24 _ ?_
    show own_S p e below T24 (mkF m 54 #[vi p1, vi p2, vr b1, vu, vu, vu, vu] [xr b20]) _
    refine XS.dup X24.here hx rfl (hb hby at_54) rfl rfl ?_
    show own_S p e below T24 (mkF m 55 #[vi p1, vi p2, vr b1, vu, vu, vu, vu] [xr b20, xr b20]) _
    refine XS.iconst X24.here hx rfl (hb hby at_55) ?_
    show own_S p e below T24 (mkF m 56 #[vi p1, vi p2, vr b1, vu, vu, vu, vu] [xi (2 : Int32), xr b20, xr b20]) _
    refine XS.iconst X24.here hx rfl (hb hby at_56) ?_
    show own_S p e below T24 (mkF m 57 #[vi p1, vi p2, vr b1, vu, vu, vu, vu] [xi (1 : Int32), xi (2 : Int32), xr b20, xr b20]) _
    refine st26 _ ?_
    show own_S p e below T26 (mkF m 58 #[vi p1, vi p2, vr b1, vu, vu, vu, vu] [xr b20]) _
    refine XS.dup X26.here hx rfl (hb hby at_58) rfl rfl ?_
    show own_S p e below T26 (mkF m 59 #[vi p1, vi p2, vr b1, vu, vu, vu, vu] [xr b20, xr b20]) _
    refine XS.iconst X26.here hx rfl (hb hby at_59) ?_
    show own_S p e below T26 (mkF m 60 #[vi p1, vi p2, vr b1, vu, vu, vu, vu] [xi (3 : Int32), xr b20, xr b20]) _
    refine XS.iconst X26.here hx rfl (hb hby at_60) ?_
    show own_S p e below T26 (mkF m 61 #[vi p1, vi p2, vr b1, vu, vu, vu, vu] [xi (3 : Int32), xi (3 : Int32), xr b20, xr b20]) _
    refine st28 _ ?_
    show own_S p e below T28 (mkF m 62 #[vi p1, vi p2, vr b1, vu, vu, vu, vu] [xr b20]) _
    refine XS.dup X28.here hx rfl (hb hby at_62) rfl rfl ?_
    show own_S p e below T28 (mkF m 63 #[vi p1, vi p2, vr b1, vu, vu, vu, vu] [xr b20, xr b20]) _
    refine XS.iconst X28.here hx rfl (hb hby at_63) ?_
    show own_S p e below T28 (mkF m 64 #[vi p1, vi p2, vr b1, vu, vu, vu, vu] [xi (4 : Int32), xr b20, xr b20]) _
    refine XS.iconst X28.here hx rfl (hb hby at_64) ?_
    show own_S p e below T28 (mkF m 65 #[vi p1, vi p2, vr b1, vu, vu, vu, vu] [xi (4 : Int32), xi (4 : Int32), xr b20, xr b20]) _
    refine st30 _ ?_
    show own_S p e below T30 (mkF m 66 #[vi p1, vi p2, vr b1, vu, vu, vu, vu] [xr b20]) _
    refine XS.dup X30.here hx rfl (hb hby at_66) rfl rfl ?_
    show own_S p e below T30 (mkF m 67 #[vi p1, vi p2, vr b1, vu, vu, vu, vu] [xr b20, xr b20]) _
    refine XS.iconst X30.here hx rfl (hb hby at_67) ?_
    show own_S p e below T30 (mkF m 68 #[vi p1, vi p2, vr b1, vu, vu, vu, vu] [xi (5 : Int32), xr b20, xr b20]) _
    refine XS.bipush X30.here hx rfl (hb hby at_68) ?_
    show own_S p e below T30 (mkF m 70 #[vi p1, vi p2, vr b1, vu, vu, vu, vu] [xi (6 : Int32), xi (5 : Int32), xr b20, xr b20]) _
    refine st32 _ ?_
    show own_S p e below T32 (mkF m 71 #[vi p1, vi p2, vr b1, vu, vu, vu, vu] [xr b20]) _
    refine XS.astoreN X32.here hx rfl (hb hby at_71) rfl rfl (l' := #[vi p1, vi p2, vr b1, vr b20, vu, vu, vu]) rfl ?_
    show own_S p e below T32 (mkF m 72 #[vi p1, vi p2, vr b1, vr b20, vu, vu, vu] []) _
    refine XS.iloadN X32.here hx rfl (hb hby at_72) rfl ?_
    show own_S p e below T32 (mkF m 73 #[vi p1, vi p2, vr b1, vr b20, vu, vu, vu] [xi p1]) _
    refine X32.ldcI hx hown (mvT hZ (ww hw 17 rfl)) (g := (mkF m 73 #[vi p1, vi p2, vr b1, vr b20, vu, vu, vu] [xi p1])) rfl (hb hby at_73) ?_
    show own_S p e below T32 (mkF m 75 #[vi p1, vi p2, vr b1, vr b20, vu, vu, vu] [xi (2147483647 : Int32), xi p1]) _
    refine XS.iand X32.here hx rfl (hb hby at_75) rfl ?_
    show own_S p e below T32 (mkF m 76 #[vi p1, vi p2, vr b1, vr b20, vu, vu, vu] [xi (p1 &&& (2147483647 : Int32))]) _
    show own_S p e below T32 (mkF m 76 #[vi p1, vi p2, vr b1, vr b20, vu, vu, vu] [xi (p1 &&& (2147483647 : Int32))]) _
    refine XS.bipush X32.here hx rfl (hb hby at_76) ?_
    show own_S p e below T32 (mkF m 78 #[vi p1, vi p2, vr b1, vr b20, vu, vu, vu] [xi (6 : Int32), xi (p1 &&& (2147483647 : Int32))]) _
    refine XS.irem X32.here hx rfl (hb hby at_78) rfl (by decide) ?_
    show own_S p e below T32 (mkF m 79 #[vi p1, vi p2, vr b1, vr b20, vu, vu, vu] [xi ((p1 &&& (2147483647 : Int32)) - ((p1 &&& (2147483647 : Int32)) / (6 : Int32)) * (6 : Int32))]) _
    refine castTop (show (mkF m 79 #[vi p1, vi p2, vr b1, vr b20, vu, vu, vu] [xi ((p1 &&& (2147483647 : Int32)) - ((p1 &&& (2147483647 : Int32)) / (6 : Int32)) * (6 : Int32))]) = (mkF m 79 #[vi p1, vi p2, vr b1, vr b20, vu, vu, vu] [xi (4 : Int32)]) from by rw [as16]) ?_
    show own_S p e below T32 (mkF m 79 #[vi p1, vi p2, vr b1, vr b20, vu, vu, vu] [xi (4 : Int32)]) _
    refine XS.istore X32.here hx rfl (hb hby at_79) rfl (l' := #[vi p1, vi p2, vr b1, vr b20, vi (4 : Int32), vu, vu]) rfl ?_
    show own_S p e below T32 (mkF m 81 #[vi p1, vi p2, vr b1, vr b20, vi (4 : Int32), vu, vu] []) _
    refine XS.iloadN X32.here hx rfl (hb hby at_81) rfl ?_
    show own_S p e below T32 (mkF m 82 #[vi p1, vi p2, vr b1, vr b20, vi (4 : Int32), vu, vu] [xi p2]) _
    refine XS.ifYes X32.here hx rfl (pc0 := 82) (pc' := 91) rfl (hb hby at_82) rfl as7 (by decide) (by decide) ?_
    show own_S p e below T32 (mkF m 91 #[vi p1, vi p2, vr b1, vr b20, vi (4 : Int32), vu, vu] []) _
    refine XS.iloadN X32.here hx rfl (hb hby at_91) rfl ?_
    show own_S p e below T32 (mkF m 92 #[vi p1, vi p2, vr b1, vr b20, vi (4 : Int32), vu, vu] [xi p2]) _
    refine XS.ifYes X32.here hx rfl (pc0 := 92) (pc' := 101) rfl (hb hby at_92) rfl as3 (by decide) (by decide) ?_
    show own_S p e below T32 (mkF m 101 #[vi p1, vi p2, vr b1, vr b20, vi (4 : Int32), vu, vu] []) _
    refine XS.iconst X32.here hx rfl (hb hby at_101) ?_
    show own_S p e below T32 (mkF m 102 #[vi p1, vi p2, vr b1, vr b20, vi (4 : Int32), vu, vu] [xi (2 : Int32)]) _
    refine XS.istore X32.here hx rfl (hb hby at_102) rfl (l' := #[vi p1, vi p2, vr b1, vr b20, vi (4 : Int32), vi (2 : Int32), vu]) rfl ?_
    show own_S p e below T32 (mkF m 104 #[vi p1, vi p2, vr b1, vr b20, vi (4 : Int32), vi (2 : Int32), vu] []) _
    refine XS.aloadN X32.here hx rfl (hb hby at_104) rfl rfl ?_
    show own_S p e below T32 (mkF m 105 #[vi p1, vi p2, vr b1, vr b20, vi (4 : Int32), vi (2 : Int32), vu] [xr b20]) _
    refine XS.iload X32.here hx rfl (hb hby at_105) rfl ?_
    show own_S p e below T32 (mkF m 107 #[vi p1, vi p2, vr b1, vr b20, vi (4 : Int32), vi (2 : Int32), vu] [xi (4 : Int32), xr b20]) _
    refine X32.iaload hx (j := (4 : Int32)) (v := (xi (4 : Int32))) (by rw [e32]; exact Ar33.1) (State.isArrayOf_alike hZ.alike Ar33.2.1) Ar33.2.2 hin33 hat33 (g := (mkF m 107 #[vi p1, vi p2, vr b1, vr b20, vi (4 : Int32), vi (2 : Int32), vu] [xi (4 : Int32), xr b20])) rfl rfl (hb hby at_107) _ ?_
    show own_S p e below T32 (mkF m 108 #[vi p1, vi p2, vr b1, vr b20, vi (4 : Int32), vi (2 : Int32), vu] [xi (4 : Int32)]) _
    refine XS.iload X32.here hx rfl (hb hby at_108) rfl ?_
    show own_S p e below T32 (mkF m 110 #[vi p1, vi p2, vr b1, vr b20, vi (4 : Int32), vi (2 : Int32), vu] [xi (2 : Int32), xi (4 : Int32)]) _
    refine XS.ishr X32.here hx rfl (hb hby at_110) rfl ?_
    show own_S p e below T32 (mkF m 111 #[vi p1, vi p2, vr b1, vr b20, vi (4 : Int32), vi (2 : Int32), vu] [xi ((4 : Int32) >>> ((2 : Int32) &&& 31))]) _
    refine castTop (show (mkF m 111 #[vi p1, vi p2, vr b1, vr b20, vi (4 : Int32), vi (2 : Int32), vu] [xi ((4 : Int32) >>> ((2 : Int32) &&& 31))]) = (mkF m 111 #[vi p1, vi p2, vr b1, vr b20, vi (4 : Int32), vi (2 : Int32), vu] [xi (1 : Int32)]) from by rw [show ((4 : Int32) >>> ((2 : Int32) &&& 31)) = (1 : Int32) from by decide]) ?_
    show own_S p e below T32 (mkF m 111 #[vi p1, vi p2, vr b1, vr b20, vi (4 : Int32), vi (2 : Int32), vu] [xi (1 : Int32)]) _
    refine XS.iconst X32.here hx rfl (hb hby at_111) ?_
    show own_S p e below T32 (mkF m 112 #[vi p1, vi p2, vr b1, vr b20, vi (4 : Int32), vi (2 : Int32), vu] [xi (1 : Int32), xi (1 : Int32)]) _
    refine XS.iand X32.here hx rfl (hb hby at_112) rfl ?_
    show own_S p e below T32 (mkF m 113 #[vi p1, vi p2, vr b1, vr b20, vi (4 : Int32), vi (2 : Int32), vu] [xi ((1 : Int32) &&& (1 : Int32))]) _
    refine castTop (show (mkF m 113 #[vi p1, vi p2, vr b1, vr b20, vi (4 : Int32), vi (2 : Int32), vu] [xi ((1 : Int32) &&& (1 : Int32))]) = (mkF m 113 #[vi p1, vi p2, vr b1, vr b20, vi (4 : Int32), vi (2 : Int32), vu] [xi (1 : Int32)]) from by rw [show ((1 : Int32) &&& (1 : Int32)) = (1 : Int32) from by decide]) ?_
    show own_S p e below T32 (mkF m 113 #[vi p1, vi p2, vr b1, vr b20, vi (4 : Int32), vi (2 : Int32), vu] [xi (1 : Int32)]) _
    refine XS.ifNo X32.here hx rfl (hb hby at_113) rfl (by decide) ?_
    show own_S p e below T32 (mkF m 116 #[vi p1, vi p2, vr b1, vr b20, vi (4 : Int32), vi (2 : Int32), vu] []) _
    refine XS.iconst X32.here hx rfl (hb hby at_116) ?_
    show own_S p e below T32 (mkF m 117 #[vi p1, vi p2, vr b1, vr b20, vi (4 : Int32), vi (2 : Int32), vu] [xi (1 : Int32)]) _
    refine XS.goto X32.here hx rfl (pc0 := 117) (pc' := 121) rfl (hb hby at_117) (by decide) (by decide) ?_
    show own_S p e below T32 (mkF m 121 #[vi p1, vi p2, vr b1, vr b20, vi (4 : Int32), vi (2 : Int32), vu] [xi (1 : Int32)]) _
    refine XS.istore X32.here hx rfl (hb hby at_121) rfl (l' := #[vi p1, vi p2, vr b1, vr b20, vi (4 : Int32), vi (2 : Int32), vi (1 : Int32)]) rfl ?_
    show own_S p e below T32 (mkF m 123 #[vi p1, vi p2, vr b1, vr b20, vi (4 : Int32), vi (2 : Int32), vi (1 : Int32)] []) _
    refine XS.aloadN X32.here hx rfl (hb hby at_123) rfl rfl ?_
    show own_S p e below T32 (mkF m 124 #[vi p1, vi p2, vr b1, vr b20, vi (4 : Int32), vi (2 : Int32), vi (1 : Int32)] [xr b1]) _
    refine XS.iload X32.here hx rfl (hb hby at_124) rfl ?_
    show own_S p e below T32 (mkF m 126 #[vi p1, vi p2, vr b1, vr b20, vi (4 : Int32), vi (2 : Int32), vi (1 : Int32)] [xi (4 : Int32), xr b1]) _
    refine X32.aaload hx (j := (4 : Int32)) (v := (xr u4)) (by rw [e32]; exact Ar34.1) (State.isArrayOf_alike hZ.alike Ar34.2.1) rfl Ar34.2.2 hin34 hat34 (g := (mkF m 126 #[vi p1, vi p2, vr b1, vr b20, vi (4 : Int32), vi (2 : Int32), vi (1 : Int32)] [xi (4 : Int32), xr b1])) rfl rfl (hb hby at_126) _ ?_
    show own_S p e below T32 (mkF m 127 #[vi p1, vi p2, vr b1, vr b20, vi (4 : Int32), vi (2 : Int32), vi (1 : Int32)] [xr u4]) _
    refine XS.iloadN X32.here hx rfl (hb hby at_127) rfl ?_
    show own_S p e below T32 (mkF m 128 #[vi p1, vi p2, vr b1, vr b20, vi (4 : Int32), vi (2 : Int32), vi (1 : Int32)] [xi p2, xr u4]) _
    refine st35.trans ?_
    show own_S p e below T35 (mkF m 131 #[vi p1, vi p2, vr b1, vr b20, vi (4 : Int32), vi (2 : Int32), vi (1 : Int32)] [xi (1 : Int32)]) _
    refine XS.iload X35.here hx rfl (hb hby at_131) rfl ?_
    show own_S p e below T35 (mkF m 133 #[vi p1, vi p2, vr b1, vr b20, vi (4 : Int32), vi (2 : Int32), vi (1 : Int32)] [xi (1 : Int32), xi (1 : Int32)]) _
    refine XS.icmpNo X35.here hx rfl (hb hby at_133) rfl (by decide) ?_
    show own_S p e below T35 (mkF m 136 #[vi p1, vi p2, vr b1, vr b20, vi (4 : Int32), vi (2 : Int32), vi (1 : Int32)] []) _
    refine XS.iconst X35.here hx rfl (hb hby at_136) ?_
    show own_S p e below T35 (mkF m 137 #[vi p1, vi p2, vr b1, vr b20, vi (4 : Int32), vi (2 : Int32), vi (1 : Int32)] [xi (1 : Int32)]) _
    refine XS.goto X35.here hx rfl (pc0 := 137) (pc' := 141) rfl (hb hby at_137) (by decide) (by decide) ?_
    show own_S p e below T35 (mkF m 141 #[vi p1, vi p2, vr b1, vr b20, vi (4 : Int32), vi (2 : Int32), vi (1 : Int32)] [xi (1 : Int32)]) _
    exact retN X35 hx (t := .boolean) Bd.returns (by simp) (hb hby at_141) hr
  · exact ⟨rfl, N35⟩
theorem ef_own_c15_ordinal (m : MethodId) (u0 u1 u2 u3 u4 u5 : Addr) : entryFrame m #[xr u5] 1 = (mkF m 0 #[vr u5] []) := by first | (simp [entryFrame, mkF, argsToLocals, Value.category]; done) | rfl
set_option maxRecDepth 65536 in
set_option maxHeartbeats 40000000 in
theorem own_c15_ordinal (l : Launch) (Z : State) (a0 : Array Value) (hw : ∀ d ∈ tables_1, d.before a0 Z = true) (u0 u1 u2 u3 u4 u5 : Addr) (G : own_St Z u0 u1 u2 u3 u4 u5) (h0 : Heap) (n0 : Nat) (O0 : Old Z n0 h0) : own_Met l Z Y0 jdk_37_method_2_code 1 (some .int) ({ frames := 0, cells := 0, slots := 0, locals := 0 } : Room) #[xr u5] h0 (own_QR (some (xi (5 : Int32))) h0 n0) := by
  intro ws
  refine MetFree.of_bodySF (plainFor_of_name pn0) hisR ?_
  intro p e s m args below meth c s₁ Bd hml0 hP hK
  obtain ⟨rfl, hZ, hh⟩ := hP
  have hx := Bd.exec
  have hby := Bd.bytes
  have hml : c.maxLocals = 1 := hml0
  have hown : s.vm.findClass "java/lang/Enum" = some m.cls := findClass_of_methodNamed Bd.named
  have hnm := (name_of_methodNamed Bd.named Bd.method).1
  have X0 : Stand p l e ({ frames := 0, cells := 0, slots := 0, locals := 0 } : Room) s m #[xr u5] below meth c s₁ [] 0 0 := Stand.of_body Bd
  have e0 : s₁.heap = h0 := by rw [← hh, Bd.state]; rfl
  have N0 := Fr.nil n0
  have pre0 : ∀ t, Steps p.tables e below (s₁.setTop (mkF m 0 #[vr u5] [])) t → Steps p.tables e below (s₁.setTop (entryFrame m #[xr u5] 1)) t := fun t st => castTop (ef_own_c15_ordinal m u0 u1 u2 u3 u4 u5) st
  obtain ⟨T1, X1, e1, st1⟩ := getF X0 hx hZ hown (host := "") (Or.inl (ww hw 30 rfl)) Via.refl e0 ((own_F_u5_ordinal G).ext O0.2) (g := (mkF m 1 #[vr u5] [xr u5])) rfl rfl (hb hby d2_1)
  obtain ⟨fs, hr, hrun, hended, hW, hsame⟩ := X1.leave (v := some (xi (5 : Int32))) (fun h => by rw [Bd.returns] at h; cases h)
  refine ⟨_, _, pre0 _ ?_, hrun, hended, _, _, rfl, ?_, ⟨_, rfl⟩, hW, hsame.mono (by decide) (by decide)⟩
  · show own_S p e below s₁ (mkF m 0 #[vr u5] []) _
    refine XS.aloadN X0.here hx rfl (hb hby d2_0) rfl rfl ?_
    show own_S p e below s₁ (mkF m 1 #[vr u5] [xr u5]) _
    refine st1 _ ?_
    show own_S p e below T1 (mkF m 4 #[vr u5] [xi (5 : Int32)]) _
    exact retI X1 hx Bd.returns (hb hby d2_4) hr
  · exact ⟨rfl, N0, e1⟩
theorem d1_114 : decode prog_62_method_8_code 114 = .ok (.iload_n 1, 1) := by decide +kernel
theorem d1_115 : decode prog_62_method_8_code 115 = .ok (.ifCond .lt 7, 3) := by decide +kernel
theorem d1_122 : decode prog_62_method_8_code 122 = .ok (.iconst 0, 1) := by decide +kernel
theorem ef_own_c15_holds (m : MethodId) (u0 u1 u2 u3 u4 u5 : Addr) (p2 : Int32) : entryFrame m #[xr u5, xi p2] 2 = (mkF m 0 #[vr u5, vi p2] []) := by first | (simp [entryFrame, mkF, argsToLocals, Value.category]; done) | rfl
set_option maxRecDepth 65536 in
set_option maxHeartbeats 40000000 in
theorem own_c15_holds (l : Launch) (Z : State) (a0 : Array Value) (hw : ∀ d ∈ tables_1, d.before a0 Z = true) (u0 u1 u2 u3 u4 u5 : Addr) (G : own_St Z u0 u1 u2 u3 u4 u5) (p2 : Int32) (as0 : ifCond.holds .lt p2 = true) (h0 : Heap) (n0 : Nat) (O0 : Old Z n0 h0) : own_Met l Z Y2 prog_62_method_8_code 2 (some .boolean) ({ frames := 1, cells := 0, slots := 0, locals := 12 } : Room) #[xr u5, xi p2] h0 (own_QR (some (xi (0 : Int32))) h0 n0) := by
  intro ws
  refine MetFree.of_bodySF (plainFor_of_name pn1) hisR ?_
  intro p e s m args below meth c s₁ Bd hml0 hP hK
  obtain ⟨rfl, hZ, hh⟩ := hP
  have hx := Bd.exec
  have hby := Bd.bytes
  have hml : c.maxLocals = 2 := hml0
  have hown : s.vm.findClass "com/example/whyle/whyle/cfa/Relation" = some m.cls := findClass_of_methodNamed Bd.named
  have hnm := (name_of_methodNamed Bd.named Bd.method).1
  have X0 : Stand p l e ({ frames := 1, cells := 0, slots := 0, locals := 12 } : Room) s m #[xr u5, xi p2] below meth c s₁ [] 0 0 := Stand.of_body Bd
  have e0 : s₁.heap = h0 := by rw [← hh, Bd.state]; rfl
  have N0 := Fr.nil n0
  have pre0 : ∀ t, Steps p.tables e below (s₁.setTop (mkF m 0 #[vr u5, vi p2] [])) t → Steps p.tables e below (s₁.setTop (entryFrame m #[xr u5, xi p2] 2)) t := fun t st => castTop (ef_own_c15_holds m u0 u1 u2 u3 u4 u5 p2) st
  obtain ⟨cq1, kq1, qa1, qb1, qc1⟩ := isOf hZ e0 ((own_X_u5 G).ext O0.2)
  obtain ⟨_, _, ⟨T1, L1, k1, n1⟩, -, X1, ⟨Lc1, hQ1, l1, y1, z1⟩, st1⟩ := X0.virtualBackUp hx (x := Y1) (y := Y0) hown (mvT hZ (ww hw 23 rfl)) (mvT hZ (ww hw 24 rfl)) (mvT hZ (ww hw 25 rfl)) (by decide) (mvT hZ (ww hw 27 rfl)) (mvT hZ (ww hw 26 rfl)) (backOf (W := 0) (own_c15_ordinal l Z a0 hw u0 u1 u2 u3 u4 u5 G h0 n0 O0 []) hZ (ww hw 29 rfl) (ww hw 28 rfl) (by decide) (by decide)) qa1 qc1 (g := (mkF m 1 #[vr u5, vi p2] [xr u5])) rfl (by rw [hml]; rfl) (Steps.refl _) (argsL := []) (rest := []) (lenOf pd0 rfl) rfl (by show 2 * 0 + _ ≤ _; exact Nat.le_of_eq rfl) (hb hby d1_1) (fun _ _ => ⟨rfl, e0, (by decide : 0 + 0 ≤ _), (by decide : 0 + 0 ≤ _)⟩)
  dsimp only [Pt.U, Pt.locs, Pt.cells, Pt.slots] at X1 l1 y1 z1 st1 hQ1
  subst l1 y1 z1
  obtain ⟨rfl, Nq1, e1⟩ := hQ1
  have N1 := Fr.app N0 Nq1
  obtain ⟨fs, hr, hrun, hended, hW, hsame⟩ := X1.leave (v := some (xi (0 : Int32))) (fun h => by rw [Bd.returns] at h; cases h)
  refine ⟨_, _, pre0 _ ?_, hrun, hended, _, _, rfl, ?_, ⟨_, rfl⟩, hW, hsame.mono (by decide) (by decide)⟩
  · show own_S p e below s₁ (mkF m 0 #[vr u5, vi p2] []) _
    refine XS.aloadN X0.here hx rfl (hb hby d1_0) rfl rfl ?_
    show own_S p e below s₁ (mkF m 1 #[vr u5, vi p2] [xr u5]) _
    refine st1.trans ?_
    show own_S p e below T1 (mkF m 4 #[vr u5, vi p2] [xi (5 : Int32)]) _
    refine XS.tswIn X1.here hx rfl (pc0 := 4) (pc' := 114) (o := 110) rfl (hb hby d1_4) rfl (by decide) (by decide) (by decide) (by decide) ?_
    show own_S p e below T1 (mkF m 114 #[vr u5, vi p2] []) _
    refine XS.iloadN X1.here hx rfl (hb hby d1_114) rfl ?_
    show own_S p e below T1 (mkF m 115 #[vr u5, vi p2] [xi p2]) _
    refine XS.ifYes X1.here hx rfl (pc0 := 115) (pc' := 122) rfl (hb hby d1_115) rfl as0 (by decide) (by decide) ?_
    show own_S p e below T1 (mkF m 122 #[vr u5, vi p2] []) _
    refine XS.iconst X1.here hx rfl (hb hby d1_122) ?_
    show own_S p e below T1 (mkF m 123 #[vr u5, vi p2] [xi (0 : Int32)]) _
    exact retN X1 hx (t := .boolean) Bd.returns (by simp) (hb hby d1_123) hr
  · exact ⟨rfl, N1, e1⟩
theorem ef_own_l15 (m : MethodId) (u0 u1 u2 u3 u4 u5 : Addr) (p1 : Int32) (p2 : Int32) : entryFrame m #[xi p1, xi p2] maxLocals = (mkF m 0 #[vi p1, vi p2, vu, vu, vu, vu, vu] []) := by first | (simp [entryFrame, mkF, argsToLocals, Value.category, maxLocals]; done) | rfl
set_option maxRecDepth 65536 in
set_option maxHeartbeats 40000000 in
theorem own_l15 (l : Launch) (Z : State) (a0 : Array Value) (hw : ∀ d ∈ tables_1, d.before a0 Z = true) (u0 u1 u2 u3 u4 u5 : Addr) (G : own_St Z u0 u1 u2 u3 u4 u5) (p1 : Int32) (p2 : Int32) (as17 : ((p1 &&& (2147483647 : Int32)) - ((p1 &&& (2147483647 : Int32)) / (6 : Int32)) * (6 : Int32)) = (5 : Int32)) (as1 : ifCond.holds .ge p2 = false) (as0 : ifCond.holds .lt p2 = true) (h0 : Heap) (n0 : Nat) (O0 : Old Z n0 h0) : own_Met l Z x code maxLocals ret room_1 #[xi p1, xi p2] h0 (own_QL (some (xi (1 : Int32))) n0) := by
  intro ws
  refine MetFree.of_bodySF (plainFor_of_name pn2) hisR ?_
  intro p e s m args below meth c s₁ Bd hml0 hP hK
  obtain ⟨rfl, hZ, hh⟩ := hP
  have hx := Bd.exec
  have hby := Bd.bytes
  have hml : c.maxLocals = 7 := hml0
  have hown : s.vm.findClass "com/example/whyle/whyle/cfa/RelationHoldsPinLaw" = some m.cls := findClass_of_methodNamed Bd.named
  have hnm := (name_of_methodNamed Bd.named Bd.method).1
  have X0 : Stand p l e room_1 s m #[xi p1, xi p2] below meth c s₁ [] 0 0 := Stand.of_body Bd
  have e0 : s₁.heap = h0 := by rw [← hh, Bd.state]; rfl
  have N0 := Fr.nil n0
  have pre0 : ∀ t, Steps p.tables e below (s₁.setTop (mkF m 0 #[vi p1, vi p2, vu, vu, vu, vu, vu] [])) t → Steps p.tables e below (s₁.setTop (entryFrame m #[xi p1, xi p2] maxLocals)) t := fun t st => castTop (ef_own_l15 m u0 u1 u2 u3 u4 u5 p1 p2) st
  obtain ⟨T1, h1, k1, X1, e1, E1, A1, Ov1, st1⟩ := newR X0 hx hZ hown (ww hw 0 rfl) (ww hw 1 rfl) e0 (g := (mkF m 2 #[vi p1, vi p2, vu, vu, vu, vu, vu] [xi (6 : Int32)])) rfl (hb hby at_2) rfl (by decide) (cap := 6) (by decide) (by decide) (by decide) (by decide)
  obtain ⟨b1, g1⟩ : ∃ z, z = h0.size := ⟨_, rfl⟩
  rw [← g1] at A1 st1
  have g_b1 : n0 ≤ b1 := own_fresh O0 g1
  have O1 : Old Z n0 h1 := O0.ext E1
  have V_b1 : Arv Z h1 b1 k1 (.object "com/example/whyle/whyle/cfa/Relation") (6 : Int32) [.null, .null, .null, .null, .null, .null] .null := (Arv.new A1 (by decide)).pad (pad_rep [] .null 6)
  obtain ⟨T2, X2, e2, st2⟩ := getS2 X1 hx hZ hown (host := "") (Or.inl (ww hw 2 rfl)) Via.refl e1 ((own_S_u0 G).ext O1.2) (g := (mkF m 7 #[vi p1, vi p2, vu, vu, vu, vu, vu] [xi (0 : Int32), xr b1, xr b1])) rfl (hb hby at_7)
  obtain ⟨cl3, Ar3, q3, S3, N3_, H3, G3⟩ := V_b1
  have hin3 : ¬ ((0 : Int32) < 0 ∨ cl3.slots.size ≤ ((0 : Int32)).toNatClampNeg) := inb_of S3 ⟨by decide, by decide⟩
  obtain ⟨T4, h4, X4, e4, W4, st4⟩ := stR X2 hx hZ e2 Ar3 (j := (0 : Int32)) hin3 rfl (Sto.ofV Ar3 q3 Ov1 (Ins.self ((own_X_u0 G).ext O1.2))) (g := (mkF m 10 #[vi p1, vi p2, vu, vu, vu, vu, vu] [xr u0, xi (0 : Int32), xr b1, xr b1])) rfl rfl (hb hby at_10)
  have V_b1_4 : Arv Z h4 b1 k1 (.object "com/example/whyle/whyle/cfa/Relation") (6 : Int32) [xr u0, .null, .null, .null, .null, .null] .null := Arv.set Ar3 q3 S3 N3_ H3 G3 rfl W4 0 rfl (Nat.le_of_ble_eq_true rfl)
  have O4 : Old Z n0 h4 := O1.wr W4 g_b1
  have N4 := Fr.snoc X4 N0 g_b1
  obtain ⟨T5, X5, e5, st5⟩ := getS2 X4 hx hZ hown (host := "") (Or.inl (ww hw 6 rfl)) Via.refl e4 ((own_S_u1 G).ext O4.2) (g := (mkF m 13 #[vi p1, vi p2, vu, vu, vu, vu, vu] [xi (1 : Int32), xr b1, xr b1])) rfl (hb hby at_13)
  obtain ⟨cl6, Ar6, q6, S6, N6_, H6, G6⟩ := V_b1_4
  have hin6 : ¬ ((1 : Int32) < 0 ∨ cl6.slots.size ≤ ((1 : Int32)).toNatClampNeg) := inb_of S6 ⟨by decide, by decide⟩
  obtain ⟨T7, h7, X7, e7, W7, st7⟩ := stR X5 hx hZ e5 Ar6 (j := (1 : Int32)) hin6 rfl (Sto.ofV Ar6 q6 Ov1 (Ins.self ((own_X_u1 G).ext O4.2))) (g := (mkF m 16 #[vi p1, vi p2, vu, vu, vu, vu, vu] [xr u1, xi (1 : Int32), xr b1, xr b1])) rfl rfl (hb hby at_16)
  have V_b1_7 : Arv Z h7 b1 k1 (.object "com/example/whyle/whyle/cfa/Relation") (6 : Int32) [xr u0, xr u1, .null, .null, .null, .null] .null := Arv.set Ar6 q6 S6 N6_ H6 G6 rfl W7 1 rfl (Nat.le_of_ble_eq_true rfl)
  have O7 : Old Z n0 h7 := O4.wr W7 g_b1
  have N7 := Fr.snoc X7 N4 g_b1
  obtain ⟨T8, X8, e8, st8⟩ := getS2 X7 hx hZ hown (host := "") (Or.inl (ww hw 8 rfl)) Via.refl e7 ((own_S_u2 G).ext O7.2) (g := (mkF m 19 #[vi p1, vi p2, vu, vu, vu, vu, vu] [xi (2 : Int32), xr b1, xr b1])) rfl (hb hby at_19)
  obtain ⟨cl9, Ar9, q9, S9, N9_, H9, G9⟩ := V_b1_7
  have hin9 : ¬ ((2 : Int32) < 0 ∨ cl9.slots.size ≤ ((2 : Int32)).toNatClampNeg) := inb_of S9 ⟨by decide, by decide⟩
  obtain ⟨T10, h10, X10, e10, W10, st10⟩ := stR X8 hx hZ e8 Ar9 (j := (2 : Int32)) hin9 rfl (Sto.ofV Ar9 q9 Ov1 (Ins.self ((own_X_u2 G).ext O7.2))) (g := (mkF m 22 #[vi p1, vi p2, vu, vu, vu, vu, vu] [xr u2, xi (2 : Int32), xr b1, xr b1])) rfl rfl (hb hby at_22)
  have V_b1_10 : Arv Z h10 b1 k1 (.object "com/example/whyle/whyle/cfa/Relation") (6 : Int32) [xr u0, xr u1, xr u2, .null, .null, .null] .null := Arv.set Ar9 q9 S9 N9_ H9 G9 rfl W10 2 rfl (Nat.le_of_ble_eq_true rfl)
  have O10 : Old Z n0 h10 := O7.wr W10 g_b1
  have N10 := Fr.snoc X10 N7 g_b1
  obtain ⟨T11, X11, e11, st11⟩ := getS2 X10 hx hZ hown (host := "") (Or.inl (ww hw 10 rfl)) Via.refl e10 ((own_S_u3 G).ext O10.2) (g := (mkF m 25 #[vi p1, vi p2, vu, vu, vu, vu, vu] [xi (3 : Int32), xr b1, xr b1])) rfl (hb hby at_25)
  obtain ⟨cl12, Ar12, q12, S12, N12_, H12, G12⟩ := V_b1_10
  have hin12 : ¬ ((3 : Int32) < 0 ∨ cl12.slots.size ≤ ((3 : Int32)).toNatClampNeg) := inb_of S12 ⟨by decide, by decide⟩
  obtain ⟨T13, h13, X13, e13, W13, st13⟩ := stR X11 hx hZ e11 Ar12 (j := (3 : Int32)) hin12 rfl (Sto.ofV Ar12 q12 Ov1 (Ins.self ((own_X_u3 G).ext O10.2))) (g := (mkF m 28 #[vi p1, vi p2, vu, vu, vu, vu, vu] [xr u3, xi (3 : Int32), xr b1, xr b1])) rfl rfl (hb hby at_28)
  have V_b1_13 : Arv Z h13 b1 k1 (.object "com/example/whyle/whyle/cfa/Relation") (6 : Int32) [xr u0, xr u1, xr u2, xr u3, .null, .null] .null := Arv.set Ar12 q12 S12 N12_ H12 G12 rfl W13 3 rfl (Nat.le_of_ble_eq_true rfl)
  have O13 : Old Z n0 h13 := O10.wr W13 g_b1
  have N13 := Fr.snoc X13 N10 g_b1
  obtain ⟨T14, X14, e14, st14⟩ := getS2 X13 hx hZ hown (host := "") (Or.inl (ww hw 12 rfl)) Via.refl e13 ((own_S_u4 G).ext O13.2) (g := (mkF m 31 #[vi p1, vi p2, vu, vu, vu, vu, vu] [xi (4 : Int32), xr b1, xr b1])) rfl (hb hby at_31)
  obtain ⟨cl15, Ar15, q15, S15, N15_, H15, G15⟩ := V_b1_13
  have hin15 : ¬ ((4 : Int32) < 0 ∨ cl15.slots.size ≤ ((4 : Int32)).toNatClampNeg) := inb_of S15 ⟨by decide, by decide⟩
  obtain ⟨T16, h16, X16, e16, W16, st16⟩ := stR X14 hx hZ e14 Ar15 (j := (4 : Int32)) hin15 rfl (Sto.ofV Ar15 q15 Ov1 (Ins.self ((own_X_u4 G).ext O13.2))) (g := (mkF m 34 #[vi p1, vi p2, vu, vu, vu, vu, vu] [xr u4, xi (4 : Int32), xr b1, xr b1])) rfl rfl (hb hby at_34)
  have V_b1_16 : Arv Z h16 b1 k1 (.object "com/example/whyle/whyle/cfa/Relation") (6 : Int32) [xr u0, xr u1, xr u2, xr u3, xr u4, .null] .null := Arv.set Ar15 q15 S15 N15_ H15 G15 rfl W16 4 rfl (Nat.le_of_ble_eq_true rfl)
  have O16 : Old Z n0 h16 := O13.wr W16 g_b1
  have N16 := Fr.snoc X16 N13 g_b1
  obtain ⟨T17, X17, e17, st17⟩ := getS2 X16 hx hZ hown (host := "") (Or.inl (ww hw 14 rfl)) Via.refl e16 ((own_S_u5 G).ext O16.2) (g := (mkF m 37 #[vi p1, vi p2, vu, vu, vu, vu, vu] [xi (5 : Int32), xr b1, xr b1])) rfl (hb hby at_37)
  obtain ⟨cl18, Ar18, q18, S18, N18_, H18, G18⟩ := V_b1_16
  have hin18 : ¬ ((5 : Int32) < 0 ∨ cl18.slots.size ≤ ((5 : Int32)).toNatClampNeg) := inb_of S18 ⟨by decide, by decide⟩
  obtain ⟨T19, h19, X19, e19, W19, st19⟩ := stR X17 hx hZ e17 Ar18 (j := (5 : Int32)) hin18 rfl (Sto.ofV Ar18 q18 Ov1 (Ins.self ((own_X_u5 G).ext O16.2))) (g := (mkF m 40 #[vi p1, vi p2, vu, vu, vu, vu, vu] [xr u5, xi (5 : Int32), xr b1, xr b1])) rfl rfl (hb hby at_40)
  have V_b1_19 : Arv Z h19 b1 k1 (.object "com/example/whyle/whyle/cfa/Relation") (6 : Int32) [xr u0, xr u1, xr u2, xr u3, xr u4, xr u5] .null := Arv.set Ar18 q18 S18 N18_ H18 G18 rfl W19 5 rfl (Nat.le_of_ble_eq_true rfl)
  have O19 : Old Z n0 h19 := O16.wr W19 g_b1
  have N19 := Fr.snoc X19 N16 g_b1
  obtain ⟨T20, h20, k20, X20, e20, E20, A20, st20⟩ := newP X19 hx hZ (ww hw 16 rfl) e19 (g := (mkF m 44 #[vi p1, vi p2, vr b1, vu, vu, vu, vu] [xi (6 : Int32)])) rfl (hb hby at_44) rfl (by decide) (cap := 6) (by decide) (by decide) (by decide) (by decide)
  obtain ⟨b20, g20⟩ : ∃ z, z = h19.size := ⟨_, rfl⟩
  rw [← g20] at A20 st20
  have g_b20 : n0 ≤ b20 := own_fresh O19 g20
  have ne_b1_b20 : b1 ≠ b20 := Nat.ne_of_lt (Nat.lt_of_lt_of_le (V_b1_19).lt (Nat.le_of_eq g20.symm))
  have O20 : Old Z n0 h20 := O19.ext E20
  have V_b1_20 := V_b1_19.ext E20
  have V_b20 : Arv Z h20 b20 k20 .int (6 : Int32) [(.int (0 : Int32)), (.int (0 : Int32)), (.int (0 : Int32)), (.int (0 : Int32)), (.int (0 : Int32)), (.int (0 : Int32))] (.int (0 : Int32)) := (Arv.new A20 (by decide)).pad (pad_rep [] (.int (0 : Int32)) 6)
  obtain ⟨cl21, Ar21, q21, S21, N21_, H21, G21⟩ := V_b20
  have hin21 : ¬ ((0 : Int32) < 0 ∨ cl21.slots.size ≤ ((0 : Int32)).toNatClampNeg) := inb_of S21 ⟨by decide, by decide⟩
  obtain ⟨T22, h22, X22, e22, W22, st22⟩ := stI X20 hx hZ e20 Ar21 (j := (0 : Int32)) hin21 (g := (mkF m 49 #[vi p1, vi p2, vr b1, vu, vu, vu, vu] [xi (2 : Int32), xi (0 : Int32), xr b20, xr b20])) rfl rfl (hb hby at_49)
  have V_b20_22 : Arv Z h22 b20 k20 .int (6 : Int32) [xi (2 : Int32), xi (0 : Int32), xi (0 : Int32), xi (0 : Int32), xi (0 : Int32), xi (0 : Int32)] (.int (0 : Int32)) := Arv.set Ar21 q21 S21 N21_ H21 G21 rfl W22 0 rfl (Nat.le_of_ble_eq_true rfl)
  have O22 : Old Z n0 h22 := O20.wr W22 g_b20
  have V_b1_22 := V_b1_20.other W22 ne_b1_b20
  have N22 := Fr.snoc X22 N19 g_b20
  obtain ⟨cl23, Ar23, q23, S23, N23_, H23, G23⟩ := V_b20_22
  have hin23 : ¬ ((1 : Int32) < 0 ∨ cl23.slots.size ≤ ((1 : Int32)).toNatClampNeg) := inb_of S23 ⟨by decide, by decide⟩
  obtain ⟨T24, h24, X24, e24, W24, st24⟩ := stI X22 hx hZ e22 Ar23 (j := (1 : Int32)) hin23 (g := (mkF m 53 #[vi p1, vi p2, vr b1, vu, vu, vu, vu] [xi (5 : Int32), xi (1 : Int32), xr b20, xr b20])) rfl rfl (hb hby at_53)
  have V_b20_24 : Arv Z h24 b20 k20 .int (6 : Int32) [xi (2 : Int32), xi (5 : Int32), xi (0 : Int32), xi (0 : Int32), xi (0 : Int32), xi (0 : Int32)] (.int (0 : Int32)) := Arv.set Ar23 q23 S23 N23_ H23 G23 rfl W24 1 rfl (Nat.le_of_ble_eq_true rfl)
  have O24 : Old Z n0 h24 := O22.wr W24 g_b20
  have V_b1_24 := V_b1_22.other W24 ne_b1_b20
  have N24 := Fr.snoc X24 N22 g_b20
  obtain ⟨cl25, Ar25, q25, S25, N25_, H25, G25⟩ := V_b20_24
  have hin25 : ¬ ((2 : Int32) < 0 ∨ cl25.slots.size ≤ ((2 : Int32)).toNatClampNeg) := inb_of S25 ⟨by decide, by decide⟩
  obtain ⟨T26, h26, X26, e26, W26, st26⟩ := stI X24 hx hZ e24 Ar25 (j := (2 : Int32)) hin25 (g := (mkF m 57 #[vi p1, vi p2, vr b1, vu, vu, vu, vu] [xi (1 : Int32), xi (2 : Int32), xr b20, xr b20])) rfl rfl (hb hby at_57)
  have V_b20_26 : Arv Z h26 b20 k20 .int (6 : Int32) [xi (2 : Int32), xi (5 : Int32), xi (1 : Int32), xi (0 : Int32), xi (0 : Int32), xi (0 : Int32)] (.int (0 : Int32)) := Arv.set Ar25 q25 S25 N25_ H25 G25 rfl W26 2 rfl (Nat.le_of_ble_eq_true rfl)
  have O26 : Old Z n0 h26 := O24.wr W26 g_b20
  have V_b1_26 := V_b1_24.other W26 ne_b1_b20
  have N26 := Fr.snoc X26 N24 g_b20
  obtain ⟨cl27, Ar27, q27, S27, N27_, H27, G27⟩ := V_b20_26
  have hin27 : ¬ ((3 : Int32) < 0 ∨ cl27.slots.size ≤ ((3 : Int32)).toNatClampNeg) := inb_of S27 ⟨by decide, by decide⟩
  obtain ⟨T28, h28, X28, e28, W28, st28⟩ := stI X26 hx hZ e26 Ar27 (j := (3 : Int32)) hin27 (g := (mkF m 61 #[vi p1, vi p2, vr b1, vu, vu, vu, vu] [xi (3 : Int32), xi (3 : Int32), xr b20, xr b20])) rfl rfl (hb hby at_61)
  have V_b20_28 : Arv Z h28 b20 k20 .int (6 : Int32) [xi (2 : Int32), xi (5 : Int32), xi (1 : Int32), xi (3 : Int32), xi (0 : Int32), xi (0 : Int32)] (.int (0 : Int32)) := Arv.set Ar27 q27 S27 N27_ H27 G27 rfl W28 3 rfl (Nat.le_of_ble_eq_true rfl)
  have O28 : Old Z n0 h28 := O26.wr W28 g_b20
  have V_b1_28 := V_b1_26.other W28 ne_b1_b20
  have N28 := Fr.snoc X28 N26 g_b20
  obtain ⟨cl29, Ar29, q29, S29, N29_, H29, G29⟩ := V_b20_28
  have hin29 : ¬ ((4 : Int32) < 0 ∨ cl29.slots.size ≤ ((4 : Int32)).toNatClampNeg) := inb_of S29 ⟨by decide, by decide⟩
  obtain ⟨T30, h30, X30, e30, W30, st30⟩ := stI X28 hx hZ e28 Ar29 (j := (4 : Int32)) hin29 (g := (mkF m 65 #[vi p1, vi p2, vr b1, vu, vu, vu, vu] [xi (4 : Int32), xi (4 : Int32), xr b20, xr b20])) rfl rfl (hb hby at_65)
  have V_b20_30 : Arv Z h30 b20 k20 .int (6 : Int32) [xi (2 : Int32), xi (5 : Int32), xi (1 : Int32), xi (3 : Int32), xi (4 : Int32), xi (0 : Int32)] (.int (0 : Int32)) := Arv.set Ar29 q29 S29 N29_ H29 G29 rfl W30 4 rfl (Nat.le_of_ble_eq_true rfl)
  have O30 : Old Z n0 h30 := O28.wr W30 g_b20
  have V_b1_30 := V_b1_28.other W30 ne_b1_b20
  have N30 := Fr.snoc X30 N28 g_b20
  obtain ⟨cl31, Ar31, q31, S31, N31_, H31, G31⟩ := V_b20_30
  have hin31 : ¬ ((5 : Int32) < 0 ∨ cl31.slots.size ≤ ((5 : Int32)).toNatClampNeg) := inb_of S31 ⟨by decide, by decide⟩
  obtain ⟨T32, h32, X32, e32, W32, st32⟩ := stI X30 hx hZ e30 Ar31 (j := (5 : Int32)) hin31 (g := (mkF m 70 #[vi p1, vi p2, vr b1, vu, vu, vu, vu] [xi (6 : Int32), xi (5 : Int32), xr b20, xr b20])) rfl rfl (hb hby at_70)
  have V_b20_32 : Arv Z h32 b20 k20 .int (6 : Int32) [xi (2 : Int32), xi (5 : Int32), xi (1 : Int32), xi (3 : Int32), xi (4 : Int32), xi (6 : Int32)] (.int (0 : Int32)) := Arv.set Ar31 q31 S31 N31_ H31 G31 rfl W32 5 rfl (Nat.le_of_ble_eq_true rfl)
  have O32 : Old Z n0 h32 := O30.wr W32 g_b20
  have V_b1_32 := V_b1_30.other W32 ne_b1_b20
  have N32 := Fr.snoc X32 N30 g_b20
  obtain ⟨cl33, Ar33, q33, S33, N33_, H33, G33⟩ := V_b20_32
  have hin33 : ¬ ((5 : Int32) < 0 ∨ cl33.slots.size ≤ ((5 : Int32)).toNatClampNeg) := inb_of S33 ⟨by decide, by decide⟩
  have hat33 : cl33.slots[((5 : Int32)).toNatClampNeg]? = some (xi (6 : Int32)) := Has.at H33 hin33 rfl
  obtain ⟨cl34, Ar34, q34, S34, N34_, H34, G34⟩ := V_b1_32
  have hin34 : ¬ ((5 : Int32) < 0 ∨ cl34.slots.size ≤ ((5 : Int32)).toNatClampNeg) := inb_of S34 ⟨by decide, by decide⟩
  have hat34 : cl34.slots[((5 : Int32)).toNatClampNeg]? = some (xr u5) := Has.at H34 hin34 rfl
  obtain ⟨cq35, kq35, qa35, qb35, qc35⟩ := isOf hZ e32 ((own_X_u5 G).ext O32.2)
  obtain ⟨_, _, ⟨T35, L35, k35, n35⟩, -, X35, ⟨Lc35, hQ35, l35, y35, z35⟩, st35⟩ := X32.virtualBack hx (y := Y2) (z := Y2) hown (mvT hZ (ww hw 18 rfl)) (mvT hZ (ww hw 19 rfl)) (notFace_of_selects (args := #[]) (mvT hZ (ww hw 21 rfl))) (mvT hZ (ww hw 21 rfl)) (mvT hZ (ww hw 20 rfl)) (by decide) (backOf (W := 0) (own_c15_holds l Z a0 hw u0 u1 u2 u3 u4 u5 G p2 as0 h32 n0 O32 []) hZ (ww hw 22 rfl) (ww hw 3 rfl) (by decide) (by decide)) qa35 qc35 (g := (mkF m 128 #[vi p1, vi p2, vr b1, vr b20, vi (5 : Int32), vi (0 : Int32), vi (0 : Int32)] [xi p2, xr u5])) rfl (by rw [hml]; rfl) (Steps.refl _) (argsL := [xi p2]) (rest := []) (lenOf pd1 rfl) rfl (by show 2 * 0 + _ ≤ _; exact Nat.le_of_eq rfl) (hb hby at_128) (fun _ _ => ⟨rfl, e32, (by decide : 2 + 0 ≤ _), (by decide : 12 + 0 ≤ _)⟩)
  dsimp only [Pt.U, Pt.locs, Pt.cells, Pt.slots] at X35 l35 y35 z35 st35 hQ35
  subst l35 y35 z35
  obtain ⟨rfl, Nq35, e35⟩ := hQ35
  have N35 := Fr.app N32 Nq35
  obtain ⟨fs, hr, hrun, hended, hW, hsame⟩ := X35.leave (v := some (xi (1 : Int32))) (fun h => by rw [Bd.returns] at h; cases h)
  refine ⟨_, _, pre0 _ ?_, hrun, hended, _, _, rfl, ?_, ⟨_, rfl⟩, hW, hsame.mono (by decide) (by decide)⟩
  · show own_S p e below s₁ (mkF m 0 #[vi p1, vi p2, vu, vu, vu, vu, vu] []) _
    refine XS.bipush X0.here hx rfl (hb hby at_0) ?_
    show own_S p e below s₁ (mkF m 2 #[vi p1, vi p2, vu, vu, vu, vu, vu] [xi (6 : Int32)]) _
    refine st1 _ ?_
    show own_S p e below T1 (mkF m 5 #[vi p1, vi p2, vu, vu, vu, vu, vu] [xr b1]) _
    refine XS.dup X1.here hx rfl (hb hby at_5) rfl rfl ?_
    show own_S p e below T1 (mkF m 6 #[vi p1, vi p2, vu, vu, vu, vu, vu] [xr b1, xr b1]) _
    refine XS.iconst X1.here hx rfl (hb hby at_6) ?_
    show own_S p e below T1 (mkF m 7 #[vi p1, vi p2, vu, vu, vu, vu, vu] [xi (0 : Int32), xr b1, xr b1]) _
    refine st2 _ ?_
    show own_S p e below T2 (mkF m 10 #[vi p1, vi p2, vu, vu, vu, vu, vu] [xr u0, xi (0 : Int32), xr b1, xr b1]) _
    refine st4 _ ?_
    show own_S p e below T4 (mkF m 11 #[vi p1, vi p2, vu, vu, vu, vu, vu] [xr b1]) _
    refine XS.dup X4.here hx rfl (hb hby at_11) rfl rfl ?_
    show own_S p e below T4 (mkF m 12 #[vi p1, vi p2, vu, vu, vu, vu, vu] [xr b1, xr b1]) _
    refine XS.iconst X4.here hx rfl (hb hby at_12) ?_
    show own_S p e below T4 (mkF m 13 #[vi p1, vi p2, vu, vu, vu, vu, vu] [xi (1 : Int32), xr b1, xr b1]) _
    refine st5 _ ?_
    show own_S p e below T5 (mkF m 16 #[vi p1, vi p2, vu, vu, vu, vu, vu] [xr u1, xi (1 : Int32), xr b1, xr b1]) _
    refine st7 _ ?_
    show own_S p e below T7 (mkF m 17 #[vi p1, vi p2, vu, vu, vu, vu, vu] [xr b1]) _
    refine XS.dup X7.here hx rfl (hb hby at_17) rfl rfl ?_
    show own_S p e below T7 (mkF m 18 #[vi p1, vi p2, vu, vu, vu, vu, vu] [xr b1, xr b1]) _
    refine XS.iconst X7.here hx rfl (hb hby at_18) ?_
    show own_S p e below T7 (mkF m 19 #[vi p1, vi p2, vu, vu, vu, vu, vu] [xi (2 : Int32), xr b1, xr b1]) _
    refine st8 _ ?_
    show own_S p e below T8 (mkF m 22 #[vi p1, vi p2, vu, vu, vu, vu, vu] [xr u2, xi (2 : Int32), xr b1, xr b1]) _
    refine st10 _ ?_
    show own_S p e below T10 (mkF m 23 #[vi p1, vi p2, vu, vu, vu, vu, vu] [xr b1]) _
    refine XS.dup X10.here hx rfl (hb hby at_23) rfl rfl ?_
    show own_S p e below T10 (mkF m 24 #[vi p1, vi p2, vu, vu, vu, vu, vu] [xr b1, xr b1]) _
    refine XS.iconst X10.here hx rfl (hb hby at_24) ?_
    show own_S p e below T10 (mkF m 25 #[vi p1, vi p2, vu, vu, vu, vu, vu] [xi (3 : Int32), xr b1, xr b1]) _
    refine st11 _ ?_
    show own_S p e below T11 (mkF m 28 #[vi p1, vi p2, vu, vu, vu, vu, vu] [xr u3, xi (3 : Int32), xr b1, xr b1]) _
    refine st13 _ ?_
    show own_S p e below T13 (mkF m 29 #[vi p1, vi p2, vu, vu, vu, vu, vu] [xr b1]) _
    refine XS.dup X13.here hx rfl (hb hby at_29) rfl rfl ?_
    show own_S p e below T13 (mkF m 30 #[vi p1, vi p2, vu, vu, vu, vu, vu] [xr b1, xr b1]) _
    refine XS.iconst X13.here hx rfl (hb hby at_30) ?_
    show own_S p e below T13 (mkF m 31 #[vi p1, vi p2, vu, vu, vu, vu, vu] [xi (4 : Int32), xr b1, xr b1]) _
    refine st14 _ ?_
    show own_S p e below T14 (mkF m 34 #[vi p1, vi p2, vu, vu, vu, vu, vu] [xr u4, xi (4 : Int32), xr b1, xr b1]) _
    refine st16 _ ?_
    show own_S p e below T16 (mkF m 35 #[vi p1, vi p2, vu, vu, vu, vu, vu] [xr b1]) _
    refine XS.dup X16.here hx rfl (hb hby at_35) rfl rfl ?_
    show own_S p e below T16 (mkF m 36 #[vi p1, vi p2, vu, vu, vu, vu, vu] [xr b1, xr b1]) _
    refine XS.iconst X16.here hx rfl (hb hby at_36) ?_
    show own_S p e below T16 (mkF m 37 #[vi p1, vi p2, vu, vu, vu, vu, vu] [xi (5 : Int32), xr b1, xr b1]) _
    refine st17 _ ?_
    show own_S p e below T17 (mkF m 40 #[vi p1, vi p2, vu, vu, vu, vu, vu] [xr u5, xi (5 : Int32), xr b1, xr b1]) _
    refine st19 _ ?_
    show own_S p e below T19 (mkF m 41 #[vi p1, vi p2, vu, vu, vu, vu, vu] [xr b1]) _
    refine XS.astoreN X19.here hx rfl (hb hby at_41) rfl rfl (l' := #[vi p1, vi p2, vr b1, vu, vu, vu, vu]) rfl ?_
    show own_S p e below T19 (mkF m 42 #[vi p1, vi p2, vr b1, vu, vu, vu, vu] []) _
    refine XS.bipush X19.here hx rfl (hb hby at_42) ?_
    show own_S p e below T19 (mkF m 44 #[vi p1, vi p2, vr b1, vu, vu, vu, vu] [xi (6 : Int32)]) _
    refine st20 _ ?_
    show own_S p e below T20 (mkF m 46 #[vi p1, vi p2, vr b1, vu, vu, vu, vu] [xr b20]) _
    refine XS.dup X20.here hx rfl (hb hby at_46) rfl rfl ?_
    show own_S p e below T20 (mkF m 47 #[vi p1, vi p2, vr b1, vu, vu, vu, vu] [xr b20, xr b20]) _
    refine XS.iconst X20.here hx rfl (hb hby at_47) ?_
    show own_S p e below T20 (mkF m 48 #[vi p1, vi p2, vr b1, vu, vu, vu, vu] [xi (0 : Int32), xr b20, xr b20]) _
    refine XS.iconst X20.here hx rfl (hb hby at_48) ?_
    show own_S p e below T20 (mkF m 49 #[vi p1, vi p2, vr b1, vu, vu, vu, vu] [xi (2 : Int32), xi (0 : Int32), xr b20, xr b20]) _
    refine st22 _ ?_
    show own_S p e below T22 (mkF m 50 #[vi p1, vi p2, vr b1, vu, vu, vu, vu] [xr b20]) _
    refine XS.dup X22.here hx rfl (hb hby at_50) rfl rfl ?_
    show own_S p e below T22 (mkF m 51 #[vi p1, vi p2, vr b1, vu, vu, vu, vu] [xr b20, xr b20]) _
    refine XS.iconst X22.here hx rfl (hb hby at_51) ?_
    show own_S p e below T22 (mkF m 52 #[vi p1, vi p2, vr b1, vu, vu, vu, vu] [xi (1 : Int32), xr b20, xr b20]) _
    refine XS.iconst X22.here hx rfl (hb hby at_52) ?_
    show own_S p e below T22 (mkF m 53 #[vi p1, vi p2, vr b1, vu, vu, vu, vu] [xi (5 : Int32), xi (1 : Int32), xr b20, xr b20]) _
    refine st24 _ ?_
    show own_S p e below T24 (mkF m 54 #[vi p1, vi p2, vr b1, vu, vu, vu, vu] [xr b20]) _
    refine XS.dup X24.here hx rfl (hb hby at_54) rfl rfl ?_
    show own_S p e below T24 (mkF m 55 #[vi p1, vi p2, vr b1, vu, vu, vu, vu] [xr b20, xr b20]) _
    refine XS.iconst X24.here hx rfl (hb hby at_55) ?_
    show own_S p e below T24 (mkF m 56 #[vi p1, vi p2, vr b1, vu, vu, vu, vu] [xi (2 : Int32), xr b20, xr b20]) _
    refine XS.iconst X24.here hx rfl (hb hby at_56) ?_
    show own_S p e below T24 (mkF m 57 #[vi p1, vi p2, vr b1, vu, vu, vu, vu] [xi (1 : Int32), xi (2 : Int32), xr b20, xr b20]) _
    refine st26 _ ?_
    show own_S p e below T26 (mkF m 58 #[vi p1, vi p2, vr b1, vu, vu, vu, vu] [xr b20]) _
    refine XS.dup X26.here hx rfl (hb hby at_58) rfl rfl ?_
    show own_S p e below T26 (mkF m 59 #[vi p1, vi p2, vr b1, vu, vu, vu, vu] [xr b20, xr b20]) _
    refine XS.iconst X26.here hx rfl (hb hby at_59) ?_
    show own_S p e below T26 (mkF m 60 #[vi p1, vi p2, vr b1, vu, vu, vu, vu] [xi (3 : Int32), xr b20, xr b20]) _
    refine XS.iconst X26.here hx rfl (hb hby at_60) ?_
    show own_S p e below T26 (mkF m 61 #[vi p1, vi p2, vr b1, vu, vu, vu, vu] [xi (3 : Int32), xi (3 : Int32), xr b20, xr b20]) _
    refine st28 _ ?_
    show own_S p e below T28 (mkF m 62 #[vi p1, vi p2, vr b1, vu, vu, vu, vu] [xr b20]) _
    refine XS.dup X28.here hx rfl (hb hby at_62) rfl rfl ?_
    show own_S p e below T28 (mkF m 63 #[vi p1, vi p2, vr b1, vu, vu, vu, vu] [xr b20, xr b20]) _
    refine XS.iconst X28.here hx rfl (hb hby at_63) ?_
    show own_S p e below T28 (mkF m 64 #[vi p1, vi p2, vr b1, vu, vu, vu, vu] [xi (4 : Int32), xr b20, xr b20]) _
    refine XS.iconst X28.here hx rfl (hb hby at_64) ?_
    show own_S p e below T28 (mkF m 65 #[vi p1, vi p2, vr b1, vu, vu, vu, vu] [xi (4 : Int32), xi (4 : Int32), xr b20, xr b20]) _
    refine st30 _ ?_
    show own_S p e below T30 (mkF m 66 #[vi p1, vi p2, vr b1, vu, vu, vu, vu] [xr b20]) _
    refine XS.dup X30.here hx rfl (hb hby at_66) rfl rfl ?_
    show own_S p e below T30 (mkF m 67 #[vi p1, vi p2, vr b1, vu, vu, vu, vu] [xr b20, xr b20]) _
    refine XS.iconst X30.here hx rfl (hb hby at_67) ?_
    show own_S p e below T30 (mkF m 68 #[vi p1, vi p2, vr b1, vu, vu, vu, vu] [xi (5 : Int32), xr b20, xr b20]) _
    refine XS.bipush X30.here hx rfl (hb hby at_68) ?_
    show own_S p e below T30 (mkF m 70 #[vi p1, vi p2, vr b1, vu, vu, vu, vu] [xi (6 : Int32), xi (5 : Int32), xr b20, xr b20]) _
    refine st32 _ ?_
    show own_S p e below T32 (mkF m 71 #[vi p1, vi p2, vr b1, vu, vu, vu, vu] [xr b20]) _
    refine XS.astoreN X32.here hx rfl (hb hby at_71) rfl rfl (l' := #[vi p1, vi p2, vr b1, vr b20, vu, vu, vu]) rfl ?_
    show own_S p e below T32 (mkF m 72 #[vi p1, vi p2, vr b1, vr b20, vu, vu, vu] []) _
    refine XS.iloadN X32.here hx rfl (hb hby at_72) rfl ?_
    show own_S p e below T32 (mkF m 73 #[vi p1, vi p2, vr b1, vr b20, vu, vu, vu] [xi p1]) _
    refine X32.ldcI hx hown (mvT hZ (ww hw 17 rfl)) (g := (mkF m 73 #[vi p1, vi p2, vr b1, vr b20, vu, vu, vu] [xi p1])) rfl (hb hby at_73) ?_
    show own_S p e below T32 (mkF m 75 #[vi p1, vi p2, vr b1, vr b20, vu, vu, vu] [xi (2147483647 : Int32), xi p1]) _
    refine XS.iand X32.here hx rfl (hb hby at_75) rfl ?_
    show own_S p e below T32 (mkF m 76 #[vi p1, vi p2, vr b1, vr b20, vu, vu, vu] [xi (p1 &&& (2147483647 : Int32))]) _
    show own_S p e below T32 (mkF m 76 #[vi p1, vi p2, vr b1, vr b20, vu, vu, vu] [xi (p1 &&& (2147483647 : Int32))]) _
    refine XS.bipush X32.here hx rfl (hb hby at_76) ?_
    show own_S p e below T32 (mkF m 78 #[vi p1, vi p2, vr b1, vr b20, vu, vu, vu] [xi (6 : Int32), xi (p1 &&& (2147483647 : Int32))]) _
    refine XS.irem X32.here hx rfl (hb hby at_78) rfl (by decide) ?_
    show own_S p e below T32 (mkF m 79 #[vi p1, vi p2, vr b1, vr b20, vu, vu, vu] [xi ((p1 &&& (2147483647 : Int32)) - ((p1 &&& (2147483647 : Int32)) / (6 : Int32)) * (6 : Int32))]) _
    refine castTop (show (mkF m 79 #[vi p1, vi p2, vr b1, vr b20, vu, vu, vu] [xi ((p1 &&& (2147483647 : Int32)) - ((p1 &&& (2147483647 : Int32)) / (6 : Int32)) * (6 : Int32))]) = (mkF m 79 #[vi p1, vi p2, vr b1, vr b20, vu, vu, vu] [xi (5 : Int32)]) from by rw [as17]) ?_
    show own_S p e below T32 (mkF m 79 #[vi p1, vi p2, vr b1, vr b20, vu, vu, vu] [xi (5 : Int32)]) _
    refine XS.istore X32.here hx rfl (hb hby at_79) rfl (l' := #[vi p1, vi p2, vr b1, vr b20, vi (5 : Int32), vu, vu]) rfl ?_
    show own_S p e below T32 (mkF m 81 #[vi p1, vi p2, vr b1, vr b20, vi (5 : Int32), vu, vu] []) _
    refine XS.iloadN X32.here hx rfl (hb hby at_81) rfl ?_
    show own_S p e below T32 (mkF m 82 #[vi p1, vi p2, vr b1, vr b20, vi (5 : Int32), vu, vu] [xi p2]) _
    refine XS.ifNo X32.here hx rfl (hb hby at_82) rfl as1 ?_
    show own_S p e below T32 (mkF m 85 #[vi p1, vi p2, vr b1, vr b20, vi (5 : Int32), vu, vu] []) _
    refine XS.iconst X32.here hx rfl (hb hby at_85) ?_
    show own_S p e below T32 (mkF m 86 #[vi p1, vi p2, vr b1, vr b20, vi (5 : Int32), vu, vu] [xi (0 : Int32)]) _
    refine XS.istore X32.here hx rfl (hb hby at_86) rfl (l' := #[vi p1, vi p2, vr b1, vr b20, vi (5 : Int32), vi (0 : Int32), vu]) rfl ?_
    show own_S p e below T32 (mkF m 88 #[vi p1, vi p2, vr b1, vr b20, vi (5 : Int32), vi (0 : Int32), vu] []) _
    refine XS.goto X32.here hx rfl (pc0 := 88) (pc' := 104) rfl (hb hby at_88) (by decide) (by decide) ?_
    show own_S p e below T32 (mkF m 104 #[vi p1, vi p2, vr b1, vr b20, vi (5 : Int32), vi (0 : Int32), vu] []) _
    refine XS.aloadN X32.here hx rfl (hb hby at_104) rfl rfl ?_
    show own_S p e below T32 (mkF m 105 #[vi p1, vi p2, vr b1, vr b20, vi (5 : Int32), vi (0 : Int32), vu] [xr b20]) _
    refine XS.iload X32.here hx rfl (hb hby at_105) rfl ?_
    show own_S p e below T32 (mkF m 107 #[vi p1, vi p2, vr b1, vr b20, vi (5 : Int32), vi (0 : Int32), vu] [xi (5 : Int32), xr b20]) _
    refine X32.iaload hx (j := (5 : Int32)) (v := (xi (6 : Int32))) (by rw [e32]; exact Ar33.1) (State.isArrayOf_alike hZ.alike Ar33.2.1) Ar33.2.2 hin33 hat33 (g := (mkF m 107 #[vi p1, vi p2, vr b1, vr b20, vi (5 : Int32), vi (0 : Int32), vu] [xi (5 : Int32), xr b20])) rfl rfl (hb hby at_107) _ ?_
    show own_S p e below T32 (mkF m 108 #[vi p1, vi p2, vr b1, vr b20, vi (5 : Int32), vi (0 : Int32), vu] [xi (6 : Int32)]) _
    refine XS.iload X32.here hx rfl (hb hby at_108) rfl ?_
    show own_S p e below T32 (mkF m 110 #[vi p1, vi p2, vr b1, vr b20, vi (5 : Int32), vi (0 : Int32), vu] [xi (0 : Int32), xi (6 : Int32)]) _
    refine XS.ishr X32.here hx rfl (hb hby at_110) rfl ?_
    show own_S p e below T32 (mkF m 111 #[vi p1, vi p2, vr b1, vr b20, vi (5 : Int32), vi (0 : Int32), vu] [xi ((6 : Int32) >>> ((0 : Int32) &&& 31))]) _
    refine castTop (show (mkF m 111 #[vi p1, vi p2, vr b1, vr b20, vi (5 : Int32), vi (0 : Int32), vu] [xi ((6 : Int32) >>> ((0 : Int32) &&& 31))]) = (mkF m 111 #[vi p1, vi p2, vr b1, vr b20, vi (5 : Int32), vi (0 : Int32), vu] [xi (6 : Int32)]) from by rw [show ((6 : Int32) >>> ((0 : Int32) &&& 31)) = (6 : Int32) from by decide]) ?_
    show own_S p e below T32 (mkF m 111 #[vi p1, vi p2, vr b1, vr b20, vi (5 : Int32), vi (0 : Int32), vu] [xi (6 : Int32)]) _
    refine XS.iconst X32.here hx rfl (hb hby at_111) ?_
    show own_S p e below T32 (mkF m 112 #[vi p1, vi p2, vr b1, vr b20, vi (5 : Int32), vi (0 : Int32), vu] [xi (1 : Int32), xi (6 : Int32)]) _
    refine XS.iand X32.here hx rfl (hb hby at_112) rfl ?_
    show own_S p e below T32 (mkF m 113 #[vi p1, vi p2, vr b1, vr b20, vi (5 : Int32), vi (0 : Int32), vu] [xi ((6 : Int32) &&& (1 : Int32))]) _
    refine castTop (show (mkF m 113 #[vi p1, vi p2, vr b1, vr b20, vi (5 : Int32), vi (0 : Int32), vu] [xi ((6 : Int32) &&& (1 : Int32))]) = (mkF m 113 #[vi p1, vi p2, vr b1, vr b20, vi (5 : Int32), vi (0 : Int32), vu] [xi (0 : Int32)]) from by rw [show ((6 : Int32) &&& (1 : Int32)) = (0 : Int32) from by decide]) ?_
    show own_S p e below T32 (mkF m 113 #[vi p1, vi p2, vr b1, vr b20, vi (5 : Int32), vi (0 : Int32), vu] [xi (0 : Int32)]) _
    refine XS.ifYes X32.here hx rfl (pc0 := 113) (pc' := 120) rfl (hb hby at_113) rfl (by decide) (by decide) (by decide) ?_
    show own_S p e below T32 (mkF m 120 #[vi p1, vi p2, vr b1, vr b20, vi (5 : Int32), vi (0 : Int32), vu] []) _
    refine XS.iconst X32.here hx rfl (hb hby at_120) ?_
    show own_S p e below T32 (mkF m 121 #[vi p1, vi p2, vr b1, vr b20, vi (5 : Int32), vi (0 : Int32), vu] [xi (0 : Int32)]) _
    refine XS.istore X32.here hx rfl (hb hby at_121) rfl (l' := #[vi p1, vi p2, vr b1, vr b20, vi (5 : Int32), vi (0 : Int32), vi (0 : Int32)]) rfl ?_
    show own_S p e below T32 (mkF m 123 #[vi p1, vi p2, vr b1, vr b20, vi (5 : Int32), vi (0 : Int32), vi (0 : Int32)] []) _
    refine XS.aloadN X32.here hx rfl (hb hby at_123) rfl rfl ?_
    show own_S p e below T32 (mkF m 124 #[vi p1, vi p2, vr b1, vr b20, vi (5 : Int32), vi (0 : Int32), vi (0 : Int32)] [xr b1]) _
    refine XS.iload X32.here hx rfl (hb hby at_124) rfl ?_
    show own_S p e below T32 (mkF m 126 #[vi p1, vi p2, vr b1, vr b20, vi (5 : Int32), vi (0 : Int32), vi (0 : Int32)] [xi (5 : Int32), xr b1]) _
    refine X32.aaload hx (j := (5 : Int32)) (v := (xr u5)) (by rw [e32]; exact Ar34.1) (State.isArrayOf_alike hZ.alike Ar34.2.1) rfl Ar34.2.2 hin34 hat34 (g := (mkF m 126 #[vi p1, vi p2, vr b1, vr b20, vi (5 : Int32), vi (0 : Int32), vi (0 : Int32)] [xi (5 : Int32), xr b1])) rfl rfl (hb hby at_126) _ ?_
    show own_S p e below T32 (mkF m 127 #[vi p1, vi p2, vr b1, vr b20, vi (5 : Int32), vi (0 : Int32), vi (0 : Int32)] [xr u5]) _
    refine XS.iloadN X32.here hx rfl (hb hby at_127) rfl ?_
    show own_S p e below T32 (mkF m 128 #[vi p1, vi p2, vr b1, vr b20, vi (5 : Int32), vi (0 : Int32), vi (0 : Int32)] [xi p2, xr u5]) _
    refine st35.trans ?_
    show own_S p e below T35 (mkF m 131 #[vi p1, vi p2, vr b1, vr b20, vi (5 : Int32), vi (0 : Int32), vi (0 : Int32)] [xi (0 : Int32)]) _
    refine XS.iload X35.here hx rfl (hb hby at_131) rfl ?_
    show own_S p e below T35 (mkF m 133 #[vi p1, vi p2, vr b1, vr b20, vi (5 : Int32), vi (0 : Int32), vi (0 : Int32)] [xi (0 : Int32), xi (0 : Int32)]) _
    refine XS.icmpNo X35.here hx rfl (hb hby at_133) rfl (by decide) ?_
    show own_S p e below T35 (mkF m 136 #[vi p1, vi p2, vr b1, vr b20, vi (5 : Int32), vi (0 : Int32), vi (0 : Int32)] []) _
    refine XS.iconst X35.here hx rfl (hb hby at_136) ?_
    show own_S p e below T35 (mkF m 137 #[vi p1, vi p2, vr b1, vr b20, vi (5 : Int32), vi (0 : Int32), vi (0 : Int32)] [xi (1 : Int32)]) _
    refine XS.goto X35.here hx rfl (pc0 := 137) (pc' := 141) rfl (hb hby at_137) (by decide) (by decide) ?_
    show own_S p e below T35 (mkF m 141 #[vi p1, vi p2, vr b1, vr b20, vi (5 : Int32), vi (0 : Int32), vi (0 : Int32)] [xi (1 : Int32)]) _
    exact retN X35 hx (t := .boolean) Bd.returns (by simp) (hb hby at_141) hr
  · exact ⟨rfl, N35⟩
theorem d1_118 : decode prog_62_method_8_code 118 = .ok (.iconst 1, 1) := by decide +kernel
theorem d1_119 : decode prog_62_method_8_code 119 = .ok (.goto 4, 3) := by decide +kernel
theorem ef_own_c17_holds (m : MethodId) (u0 u1 u2 u3 u4 u5 : Addr) (p2 : Int32) : entryFrame m #[xr u5, xi p2] 2 = (mkF m 0 #[vr u5, vi p2] []) := by first | (simp [entryFrame, mkF, argsToLocals, Value.category]; done) | rfl
set_option maxRecDepth 65536 in
set_option maxHeartbeats 40000000 in
theorem own_c17_holds (l : Launch) (Z : State) (a0 : Array Value) (hw : ∀ d ∈ tables_1, d.before a0 Z = true) (u0 u1 u2 u3 u4 u5 : Addr) (G : own_St Z u0 u1 u2 u3 u4 u5) (p2 : Int32) (as6 : ifCond.holds .lt p2 = false) (h0 : Heap) (n0 : Nat) (O0 : Old Z n0 h0) : own_Met l Z Y2 prog_62_method_8_code 2 (some .boolean) ({ frames := 1, cells := 0, slots := 0, locals := 12 } : Room) #[xr u5, xi p2] h0 (own_QR (some (xi (1 : Int32))) h0 n0) := by
  intro ws
  refine MetFree.of_bodySF (plainFor_of_name pn1) hisR ?_
  intro p e s m args below meth c s₁ Bd hml0 hP hK
  obtain ⟨rfl, hZ, hh⟩ := hP
  have hx := Bd.exec
  have hby := Bd.bytes
  have hml : c.maxLocals = 2 := hml0
  have hown : s.vm.findClass "com/example/whyle/whyle/cfa/Relation" = some m.cls := findClass_of_methodNamed Bd.named
  have hnm := (name_of_methodNamed Bd.named Bd.method).1
  have X0 : Stand p l e ({ frames := 1, cells := 0, slots := 0, locals := 12 } : Room) s m #[xr u5, xi p2] below meth c s₁ [] 0 0 := Stand.of_body Bd
  have e0 : s₁.heap = h0 := by rw [← hh, Bd.state]; rfl
  have N0 := Fr.nil n0
  have pre0 : ∀ t, Steps p.tables e below (s₁.setTop (mkF m 0 #[vr u5, vi p2] [])) t → Steps p.tables e below (s₁.setTop (entryFrame m #[xr u5, xi p2] 2)) t := fun t st => castTop (ef_own_c17_holds m u0 u1 u2 u3 u4 u5 p2) st
  obtain ⟨cq1, kq1, qa1, qb1, qc1⟩ := isOf hZ e0 ((own_X_u5 G).ext O0.2)
  obtain ⟨_, _, ⟨T1, L1, k1, n1⟩, -, X1, ⟨Lc1, hQ1, l1, y1, z1⟩, st1⟩ := X0.virtualBackUp hx (x := Y1) (y := Y0) hown (mvT hZ (ww hw 23 rfl)) (mvT hZ (ww hw 24 rfl)) (mvT hZ (ww hw 25 rfl)) (by decide) (mvT hZ (ww hw 27 rfl)) (mvT hZ (ww hw 26 rfl)) (backOf (W := 0) (own_c15_ordinal l Z a0 hw u0 u1 u2 u3 u4 u5 G h0 n0 O0 []) hZ (ww hw 29 rfl) (ww hw 28 rfl) (by decide) (by decide)) qa1 qc1 (g := (mkF m 1 #[vr u5, vi p2] [xr u5])) rfl (by rw [hml]; rfl) (Steps.refl _) (argsL := []) (rest := []) (lenOf pd0 rfl) rfl (by show 2 * 0 + _ ≤ _; exact Nat.le_of_eq rfl) (hb hby d1_1) (fun _ _ => ⟨rfl, e0, (by decide : 0 + 0 ≤ _), (by decide : 0 + 0 ≤ _)⟩)
  dsimp only [Pt.U, Pt.locs, Pt.cells, Pt.slots] at X1 l1 y1 z1 st1 hQ1
  subst l1 y1 z1
  obtain ⟨rfl, Nq1, e1⟩ := hQ1
  have N1 := Fr.app N0 Nq1
  obtain ⟨fs, hr, hrun, hended, hW, hsame⟩ := X1.leave (v := some (xi (1 : Int32))) (fun h => by rw [Bd.returns] at h; cases h)
  refine ⟨_, _, pre0 _ ?_, hrun, hended, _, _, rfl, ?_, ⟨_, rfl⟩, hW, hsame.mono (by decide) (by decide)⟩
  · show own_S p e below s₁ (mkF m 0 #[vr u5, vi p2] []) _
    refine XS.aloadN X0.here hx rfl (hb hby d1_0) rfl rfl ?_
    show own_S p e below s₁ (mkF m 1 #[vr u5, vi p2] [xr u5]) _
    refine st1.trans ?_
    show own_S p e below T1 (mkF m 4 #[vr u5, vi p2] [xi (5 : Int32)]) _
    refine XS.tswIn X1.here hx rfl (pc0 := 4) (pc' := 114) (o := 110) rfl (hb hby d1_4) rfl (by decide) (by decide) (by decide) (by decide) ?_
    show own_S p e below T1 (mkF m 114 #[vr u5, vi p2] []) _
    refine XS.iloadN X1.here hx rfl (hb hby d1_114) rfl ?_
    show own_S p e below T1 (mkF m 115 #[vr u5, vi p2] [xi p2]) _
    refine XS.ifNo X1.here hx rfl (hb hby d1_115) rfl as6 ?_
    show own_S p e below T1 (mkF m 118 #[vr u5, vi p2] []) _
    refine XS.iconst X1.here hx rfl (hb hby d1_118) ?_
    show own_S p e below T1 (mkF m 119 #[vr u5, vi p2] [xi (1 : Int32)]) _
    refine XS.goto X1.here hx rfl (pc0 := 119) (pc' := 123) rfl (hb hby d1_119) (by decide) (by decide) ?_
    show own_S p e below T1 (mkF m 123 #[vr u5, vi p2] [xi (1 : Int32)]) _
    exact retN X1 hx (t := .boolean) Bd.returns (by simp) (hb hby d1_123) hr
  · exact ⟨rfl, N1, e1⟩
theorem ef_own_l16 (m : MethodId) (u0 u1 u2 u3 u4 u5 : Addr) (p1 : Int32) (p2 : Int32) : entryFrame m #[xi p1, xi p2] maxLocals = (mkF m 0 #[vi p1, vi p2, vu, vu, vu, vu, vu] []) := by first | (simp [entryFrame, mkF, argsToLocals, Value.category, maxLocals]; done) | rfl
set_option maxRecDepth 65536 in
set_option maxHeartbeats 40000000 in
theorem own_l16 (l : Launch) (Z : State) (a0 : Array Value) (hw : ∀ d ∈ tables_1, d.before a0 Z = true) (u0 u1 u2 u3 u4 u5 : Addr) (G : own_St Z u0 u1 u2 u3 u4 u5) (p1 : Int32) (p2 : Int32) (as17 : ((p1 &&& (2147483647 : Int32)) - ((p1 &&& (2147483647 : Int32)) / (6 : Int32)) * (6 : Int32)) = (5 : Int32)) (as7 : ifCond.holds .ge p2 = true) (as9 : ifCond.holds .ne p2 = false) (as6 : ifCond.holds .lt p2 = false) (h0 : Heap) (n0 : Nat) (O0 : Old Z n0 h0) : own_Met l Z x code maxLocals ret room_1 #[xi p1, xi p2] h0 (own_QL (some (xi (1 : Int32))) n0) := by
  intro ws
  refine MetFree.of_bodySF (plainFor_of_name pn2) hisR ?_
  intro p e s m args below meth c s₁ Bd hml0 hP hK
  obtain ⟨rfl, hZ, hh⟩ := hP
  have hx := Bd.exec
  have hby := Bd.bytes
  have hml : c.maxLocals = 7 := hml0
  have hown : s.vm.findClass "com/example/whyle/whyle/cfa/RelationHoldsPinLaw" = some m.cls := findClass_of_methodNamed Bd.named
  have hnm := (name_of_methodNamed Bd.named Bd.method).1
  have X0 : Stand p l e room_1 s m #[xi p1, xi p2] below meth c s₁ [] 0 0 := Stand.of_body Bd
  have e0 : s₁.heap = h0 := by rw [← hh, Bd.state]; rfl
  have N0 := Fr.nil n0
  have pre0 : ∀ t, Steps p.tables e below (s₁.setTop (mkF m 0 #[vi p1, vi p2, vu, vu, vu, vu, vu] [])) t → Steps p.tables e below (s₁.setTop (entryFrame m #[xi p1, xi p2] maxLocals)) t := fun t st => castTop (ef_own_l16 m u0 u1 u2 u3 u4 u5 p1 p2) st
  obtain ⟨T1, h1, k1, X1, e1, E1, A1, Ov1, st1⟩ := newR X0 hx hZ hown (ww hw 0 rfl) (ww hw 1 rfl) e0 (g := (mkF m 2 #[vi p1, vi p2, vu, vu, vu, vu, vu] [xi (6 : Int32)])) rfl (hb hby at_2) rfl (by decide) (cap := 6) (by decide) (by decide) (by decide) (by decide)
  obtain ⟨b1, g1⟩ : ∃ z, z = h0.size := ⟨_, rfl⟩
  rw [← g1] at A1 st1
  have g_b1 : n0 ≤ b1 := own_fresh O0 g1
  have O1 : Old Z n0 h1 := O0.ext E1
  have V_b1 : Arv Z h1 b1 k1 (.object "com/example/whyle/whyle/cfa/Relation") (6 : Int32) [.null, .null, .null, .null, .null, .null] .null := (Arv.new A1 (by decide)).pad (pad_rep [] .null 6)
  obtain ⟨T2, X2, e2, st2⟩ := getS2 X1 hx hZ hown (host := "") (Or.inl (ww hw 2 rfl)) Via.refl e1 ((own_S_u0 G).ext O1.2) (g := (mkF m 7 #[vi p1, vi p2, vu, vu, vu, vu, vu] [xi (0 : Int32), xr b1, xr b1])) rfl (hb hby at_7)
  obtain ⟨cl3, Ar3, q3, S3, N3_, H3, G3⟩ := V_b1
  have hin3 : ¬ ((0 : Int32) < 0 ∨ cl3.slots.size ≤ ((0 : Int32)).toNatClampNeg) := inb_of S3 ⟨by decide, by decide⟩
  obtain ⟨T4, h4, X4, e4, W4, st4⟩ := stR X2 hx hZ e2 Ar3 (j := (0 : Int32)) hin3 rfl (Sto.ofV Ar3 q3 Ov1 (Ins.self ((own_X_u0 G).ext O1.2))) (g := (mkF m 10 #[vi p1, vi p2, vu, vu, vu, vu, vu] [xr u0, xi (0 : Int32), xr b1, xr b1])) rfl rfl (hb hby at_10)
  have V_b1_4 : Arv Z h4 b1 k1 (.object "com/example/whyle/whyle/cfa/Relation") (6 : Int32) [xr u0, .null, .null, .null, .null, .null] .null := Arv.set Ar3 q3 S3 N3_ H3 G3 rfl W4 0 rfl (Nat.le_of_ble_eq_true rfl)
  have O4 : Old Z n0 h4 := O1.wr W4 g_b1
  have N4 := Fr.snoc X4 N0 g_b1
  obtain ⟨T5, X5, e5, st5⟩ := getS2 X4 hx hZ hown (host := "") (Or.inl (ww hw 6 rfl)) Via.refl e4 ((own_S_u1 G).ext O4.2) (g := (mkF m 13 #[vi p1, vi p2, vu, vu, vu, vu, vu] [xi (1 : Int32), xr b1, xr b1])) rfl (hb hby at_13)
  obtain ⟨cl6, Ar6, q6, S6, N6_, H6, G6⟩ := V_b1_4
  have hin6 : ¬ ((1 : Int32) < 0 ∨ cl6.slots.size ≤ ((1 : Int32)).toNatClampNeg) := inb_of S6 ⟨by decide, by decide⟩
  obtain ⟨T7, h7, X7, e7, W7, st7⟩ := stR X5 hx hZ e5 Ar6 (j := (1 : Int32)) hin6 rfl (Sto.ofV Ar6 q6 Ov1 (Ins.self ((own_X_u1 G).ext O4.2))) (g := (mkF m 16 #[vi p1, vi p2, vu, vu, vu, vu, vu] [xr u1, xi (1 : Int32), xr b1, xr b1])) rfl rfl (hb hby at_16)
  have V_b1_7 : Arv Z h7 b1 k1 (.object "com/example/whyle/whyle/cfa/Relation") (6 : Int32) [xr u0, xr u1, .null, .null, .null, .null] .null := Arv.set Ar6 q6 S6 N6_ H6 G6 rfl W7 1 rfl (Nat.le_of_ble_eq_true rfl)
  have O7 : Old Z n0 h7 := O4.wr W7 g_b1
  have N7 := Fr.snoc X7 N4 g_b1
  obtain ⟨T8, X8, e8, st8⟩ := getS2 X7 hx hZ hown (host := "") (Or.inl (ww hw 8 rfl)) Via.refl e7 ((own_S_u2 G).ext O7.2) (g := (mkF m 19 #[vi p1, vi p2, vu, vu, vu, vu, vu] [xi (2 : Int32), xr b1, xr b1])) rfl (hb hby at_19)
  obtain ⟨cl9, Ar9, q9, S9, N9_, H9, G9⟩ := V_b1_7
  have hin9 : ¬ ((2 : Int32) < 0 ∨ cl9.slots.size ≤ ((2 : Int32)).toNatClampNeg) := inb_of S9 ⟨by decide, by decide⟩
  obtain ⟨T10, h10, X10, e10, W10, st10⟩ := stR X8 hx hZ e8 Ar9 (j := (2 : Int32)) hin9 rfl (Sto.ofV Ar9 q9 Ov1 (Ins.self ((own_X_u2 G).ext O7.2))) (g := (mkF m 22 #[vi p1, vi p2, vu, vu, vu, vu, vu] [xr u2, xi (2 : Int32), xr b1, xr b1])) rfl rfl (hb hby at_22)
  have V_b1_10 : Arv Z h10 b1 k1 (.object "com/example/whyle/whyle/cfa/Relation") (6 : Int32) [xr u0, xr u1, xr u2, .null, .null, .null] .null := Arv.set Ar9 q9 S9 N9_ H9 G9 rfl W10 2 rfl (Nat.le_of_ble_eq_true rfl)
  have O10 : Old Z n0 h10 := O7.wr W10 g_b1
  have N10 := Fr.snoc X10 N7 g_b1
  obtain ⟨T11, X11, e11, st11⟩ := getS2 X10 hx hZ hown (host := "") (Or.inl (ww hw 10 rfl)) Via.refl e10 ((own_S_u3 G).ext O10.2) (g := (mkF m 25 #[vi p1, vi p2, vu, vu, vu, vu, vu] [xi (3 : Int32), xr b1, xr b1])) rfl (hb hby at_25)
  obtain ⟨cl12, Ar12, q12, S12, N12_, H12, G12⟩ := V_b1_10
  have hin12 : ¬ ((3 : Int32) < 0 ∨ cl12.slots.size ≤ ((3 : Int32)).toNatClampNeg) := inb_of S12 ⟨by decide, by decide⟩
  obtain ⟨T13, h13, X13, e13, W13, st13⟩ := stR X11 hx hZ e11 Ar12 (j := (3 : Int32)) hin12 rfl (Sto.ofV Ar12 q12 Ov1 (Ins.self ((own_X_u3 G).ext O10.2))) (g := (mkF m 28 #[vi p1, vi p2, vu, vu, vu, vu, vu] [xr u3, xi (3 : Int32), xr b1, xr b1])) rfl rfl (hb hby at_28)
  have V_b1_13 : Arv Z h13 b1 k1 (.object "com/example/whyle/whyle/cfa/Relation") (6 : Int32) [xr u0, xr u1, xr u2, xr u3, .null, .null] .null := Arv.set Ar12 q12 S12 N12_ H12 G12 rfl W13 3 rfl (Nat.le_of_ble_eq_true rfl)
  have O13 : Old Z n0 h13 := O10.wr W13 g_b1
  have N13 := Fr.snoc X13 N10 g_b1
  obtain ⟨T14, X14, e14, st14⟩ := getS2 X13 hx hZ hown (host := "") (Or.inl (ww hw 12 rfl)) Via.refl e13 ((own_S_u4 G).ext O13.2) (g := (mkF m 31 #[vi p1, vi p2, vu, vu, vu, vu, vu] [xi (4 : Int32), xr b1, xr b1])) rfl (hb hby at_31)
  obtain ⟨cl15, Ar15, q15, S15, N15_, H15, G15⟩ := V_b1_13
  have hin15 : ¬ ((4 : Int32) < 0 ∨ cl15.slots.size ≤ ((4 : Int32)).toNatClampNeg) := inb_of S15 ⟨by decide, by decide⟩
  obtain ⟨T16, h16, X16, e16, W16, st16⟩ := stR X14 hx hZ e14 Ar15 (j := (4 : Int32)) hin15 rfl (Sto.ofV Ar15 q15 Ov1 (Ins.self ((own_X_u4 G).ext O13.2))) (g := (mkF m 34 #[vi p1, vi p2, vu, vu, vu, vu, vu] [xr u4, xi (4 : Int32), xr b1, xr b1])) rfl rfl (hb hby at_34)
  have V_b1_16 : Arv Z h16 b1 k1 (.object "com/example/whyle/whyle/cfa/Relation") (6 : Int32) [xr u0, xr u1, xr u2, xr u3, xr u4, .null] .null := Arv.set Ar15 q15 S15 N15_ H15 G15 rfl W16 4 rfl (Nat.le_of_ble_eq_true rfl)
  have O16 : Old Z n0 h16 := O13.wr W16 g_b1
  have N16 := Fr.snoc X16 N13 g_b1
  obtain ⟨T17, X17, e17, st17⟩ := getS2 X16 hx hZ hown (host := "") (Or.inl (ww hw 14 rfl)) Via.refl e16 ((own_S_u5 G).ext O16.2) (g := (mkF m 37 #[vi p1, vi p2, vu, vu, vu, vu, vu] [xi (5 : Int32), xr b1, xr b1])) rfl (hb hby at_37)
  obtain ⟨cl18, Ar18, q18, S18, N18_, H18, G18⟩ := V_b1_16
  have hin18 : ¬ ((5 : Int32) < 0 ∨ cl18.slots.size ≤ ((5 : Int32)).toNatClampNeg) := inb_of S18 ⟨by decide, by decide⟩
  obtain ⟨T19, h19, X19, e19, W19, st19⟩ := stR X17 hx hZ e17 Ar18 (j := (5 : Int32)) hin18 rfl (Sto.ofV Ar18 q18 Ov1 (Ins.self ((own_X_u5 G).ext O16.2))) (g := (mkF m 40 #[vi p1, vi p2, vu, vu, vu, vu, vu] [xr u5, xi (5 : Int32), xr b1, xr b1])) rfl rfl (hb hby at_40)
  have V_b1_19 : Arv Z h19 b1 k1 (.object "com/example/whyle/whyle/cfa/Relation") (6 : Int32) [xr u0, xr u1, xr u2, xr u3, xr u4, xr u5] .null := Arv.set Ar18 q18 S18 N18_ H18 G18 rfl W19 5 rfl (Nat.le_of_ble_eq_true rfl)
  have O19 : Old Z n0 h19 := O16.wr W19 g_b1
  have N19 := Fr.snoc X19 N16 g_b1
  obtain ⟨T20, h20, k20, X20, e20, E20, A20, st20⟩ := newP X19 hx hZ (ww hw 16 rfl) e19 (g := (mkF m 44 #[vi p1, vi p2, vr b1, vu, vu, vu, vu] [xi (6 : Int32)])) rfl (hb hby at_44) rfl (by decide) (cap := 6) (by decide) (by decide) (by decide) (by decide)
  obtain ⟨b20, g20⟩ : ∃ z, z = h19.size := ⟨_, rfl⟩
  rw [← g20] at A20 st20
  have g_b20 : n0 ≤ b20 := own_fresh O19 g20
  have ne_b1_b20 : b1 ≠ b20 := Nat.ne_of_lt (Nat.lt_of_lt_of_le (V_b1_19).lt (Nat.le_of_eq g20.symm))
  have O20 : Old Z n0 h20 := O19.ext E20
  have V_b1_20 := V_b1_19.ext E20
  have V_b20 : Arv Z h20 b20 k20 .int (6 : Int32) [(.int (0 : Int32)), (.int (0 : Int32)), (.int (0 : Int32)), (.int (0 : Int32)), (.int (0 : Int32)), (.int (0 : Int32))] (.int (0 : Int32)) := (Arv.new A20 (by decide)).pad (pad_rep [] (.int (0 : Int32)) 6)
  obtain ⟨cl21, Ar21, q21, S21, N21_, H21, G21⟩ := V_b20
  have hin21 : ¬ ((0 : Int32) < 0 ∨ cl21.slots.size ≤ ((0 : Int32)).toNatClampNeg) := inb_of S21 ⟨by decide, by decide⟩
  obtain ⟨T22, h22, X22, e22, W22, st22⟩ := stI X20 hx hZ e20 Ar21 (j := (0 : Int32)) hin21 (g := (mkF m 49 #[vi p1, vi p2, vr b1, vu, vu, vu, vu] [xi (2 : Int32), xi (0 : Int32), xr b20, xr b20])) rfl rfl (hb hby at_49)
  have V_b20_22 : Arv Z h22 b20 k20 .int (6 : Int32) [xi (2 : Int32), xi (0 : Int32), xi (0 : Int32), xi (0 : Int32), xi (0 : Int32), xi (0 : Int32)] (.int (0 : Int32)) := Arv.set Ar21 q21 S21 N21_ H21 G21 rfl W22 0 rfl (Nat.le_of_ble_eq_true rfl)
  have O22 : Old Z n0 h22 := O20.wr W22 g_b20
  have V_b1_22 := V_b1_20.other W22 ne_b1_b20
  have N22 := Fr.snoc X22 N19 g_b20
  obtain ⟨cl23, Ar23, q23, S23, N23_, H23, G23⟩ := V_b20_22
  have hin23 : ¬ ((1 : Int32) < 0 ∨ cl23.slots.size ≤ ((1 : Int32)).toNatClampNeg) := inb_of S23 ⟨by decide, by decide⟩
  obtain ⟨T24, h24, X24, e24, W24, st24⟩ := stI X22 hx hZ e22 Ar23 (j := (1 : Int32)) hin23 (g := (mkF m 53 #[vi p1, vi p2, vr b1, vu, vu, vu, vu] [xi (5 : Int32), xi (1 : Int32), xr b20, xr b20])) rfl rfl (hb hby at_53)
  have V_b20_24 : Arv Z h24 b20 k20 .int (6 : Int32) [xi (2 : Int32), xi (5 : Int32), xi (0 : Int32), xi (0 : Int32), xi (0 : Int32), xi (0 : Int32)] (.int (0 : Int32)) := Arv.set Ar23 q23 S23 N23_ H23 G23 rfl W24 1 rfl (Nat.le_of_ble_eq_true rfl)
  have O24 : Old Z n0 h24 := O22.wr W24 g_b20
  have V_b1_24 := V_b1_22.other W24 ne_b1_b20
  have N24 := Fr.snoc X24 N22 g_b20
  obtain ⟨cl25, Ar25, q25, S25, N25_, H25, G25⟩ := V_b20_24
  have hin25 : ¬ ((2 : Int32) < 0 ∨ cl25.slots.size ≤ ((2 : Int32)).toNatClampNeg) := inb_of S25 ⟨by decide, by decide⟩
  obtain ⟨T26, h26, X26, e26, W26, st26⟩ := stI X24 hx hZ e24 Ar25 (j := (2 : Int32)) hin25 (g := (mkF m 57 #[vi p1, vi p2, vr b1, vu, vu, vu, vu] [xi (1 : Int32), xi (2 : Int32), xr b20, xr b20])) rfl rfl (hb hby at_57)
  have V_b20_26 : Arv Z h26 b20 k20 .int (6 : Int32) [xi (2 : Int32), xi (5 : Int32), xi (1 : Int32), xi (0 : Int32), xi (0 : Int32), xi (0 : Int32)] (.int (0 : Int32)) := Arv.set Ar25 q25 S25 N25_ H25 G25 rfl W26 2 rfl (Nat.le_of_ble_eq_true rfl)
  have O26 : Old Z n0 h26 := O24.wr W26 g_b20
  have V_b1_26 := V_b1_24.other W26 ne_b1_b20
  have N26 := Fr.snoc X26 N24 g_b20
  obtain ⟨cl27, Ar27, q27, S27, N27_, H27, G27⟩ := V_b20_26
  have hin27 : ¬ ((3 : Int32) < 0 ∨ cl27.slots.size ≤ ((3 : Int32)).toNatClampNeg) := inb_of S27 ⟨by decide, by decide⟩
  obtain ⟨T28, h28, X28, e28, W28, st28⟩ := stI X26 hx hZ e26 Ar27 (j := (3 : Int32)) hin27 (g := (mkF m 61 #[vi p1, vi p2, vr b1, vu, vu, vu, vu] [xi (3 : Int32), xi (3 : Int32), xr b20, xr b20])) rfl rfl (hb hby at_61)
  have V_b20_28 : Arv Z h28 b20 k20 .int (6 : Int32) [xi (2 : Int32), xi (5 : Int32), xi (1 : Int32), xi (3 : Int32), xi (0 : Int32), xi (0 : Int32)] (.int (0 : Int32)) := Arv.set Ar27 q27 S27 N27_ H27 G27 rfl W28 3 rfl (Nat.le_of_ble_eq_true rfl)
  have O28 : Old Z n0 h28 := O26.wr W28 g_b20
  have V_b1_28 := V_b1_26.other W28 ne_b1_b20
  have N28 := Fr.snoc X28 N26 g_b20
  obtain ⟨cl29, Ar29, q29, S29, N29_, H29, G29⟩ := V_b20_28
  have hin29 : ¬ ((4 : Int32) < 0 ∨ cl29.slots.size ≤ ((4 : Int32)).toNatClampNeg) := inb_of S29 ⟨by decide, by decide⟩
  obtain ⟨T30, h30, X30, e30, W30, st30⟩ := stI X28 hx hZ e28 Ar29 (j := (4 : Int32)) hin29 (g := (mkF m 65 #[vi p1, vi p2, vr b1, vu, vu, vu, vu] [xi (4 : Int32), xi (4 : Int32), xr b20, xr b20])) rfl rfl (hb hby at_65)
  have V_b20_30 : Arv Z h30 b20 k20 .int (6 : Int32) [xi (2 : Int32), xi (5 : Int32), xi (1 : Int32), xi (3 : Int32), xi (4 : Int32), xi (0 : Int32)] (.int (0 : Int32)) := Arv.set Ar29 q29 S29 N29_ H29 G29 rfl W30 4 rfl (Nat.le_of_ble_eq_true rfl)
  have O30 : Old Z n0 h30 := O28.wr W30 g_b20
  have V_b1_30 := V_b1_28.other W30 ne_b1_b20
  have N30 := Fr.snoc X30 N28 g_b20
  obtain ⟨cl31, Ar31, q31, S31, N31_, H31, G31⟩ := V_b20_30
  have hin31 : ¬ ((5 : Int32) < 0 ∨ cl31.slots.size ≤ ((5 : Int32)).toNatClampNeg) := inb_of S31 ⟨by decide, by decide⟩
  obtain ⟨T32, h32, X32, e32, W32, st32⟩ := stI X30 hx hZ e30 Ar31 (j := (5 : Int32)) hin31 (g := (mkF m 70 #[vi p1, vi p2, vr b1, vu, vu, vu, vu] [xi (6 : Int32), xi (5 : Int32), xr b20, xr b20])) rfl rfl (hb hby at_70)
  have V_b20_32 : Arv Z h32 b20 k20 .int (6 : Int32) [xi (2 : Int32), xi (5 : Int32), xi (1 : Int32), xi (3 : Int32), xi (4 : Int32), xi (6 : Int32)] (.int (0 : Int32)) := Arv.set Ar31 q31 S31 N31_ H31 G31 rfl W32 5 rfl (Nat.le_of_ble_eq_true rfl)
  have O32 : Old Z n0 h32 := O30.wr W32 g_b20
  have V_b1_32 := V_b1_30.other W32 ne_b1_b20
  have N32 := Fr.snoc X32 N30 g_b20
  obtain ⟨cl33, Ar33, q33, S33, N33_, H33, G33⟩ := V_b20_32
  have hin33 : ¬ ((5 : Int32) < 0 ∨ cl33.slots.size ≤ ((5 : Int32)).toNatClampNeg) := inb_of S33 ⟨by decide, by decide⟩
  have hat33 : cl33.slots[((5 : Int32)).toNatClampNeg]? = some (xi (6 : Int32)) := Has.at H33 hin33 rfl
  obtain ⟨cl34, Ar34, q34, S34, N34_, H34, G34⟩ := V_b1_32
  have hin34 : ¬ ((5 : Int32) < 0 ∨ cl34.slots.size ≤ ((5 : Int32)).toNatClampNeg) := inb_of S34 ⟨by decide, by decide⟩
  have hat34 : cl34.slots[((5 : Int32)).toNatClampNeg]? = some (xr u5) := Has.at H34 hin34 rfl
  obtain ⟨cq35, kq35, qa35, qb35, qc35⟩ := isOf hZ e32 ((own_X_u5 G).ext O32.2)
  obtain ⟨_, _, ⟨T35, L35, k35, n35⟩, -, X35, ⟨Lc35, hQ35, l35, y35, z35⟩, st35⟩ := X32.virtualBack hx (y := Y2) (z := Y2) hown (mvT hZ (ww hw 18 rfl)) (mvT hZ (ww hw 19 rfl)) (notFace_of_selects (args := #[]) (mvT hZ (ww hw 21 rfl))) (mvT hZ (ww hw 21 rfl)) (mvT hZ (ww hw 20 rfl)) (by decide) (backOf (W := 0) (own_c17_holds l Z a0 hw u0 u1 u2 u3 u4 u5 G p2 as6 h32 n0 O32 []) hZ (ww hw 22 rfl) (ww hw 3 rfl) (by decide) (by decide)) qa35 qc35 (g := (mkF m 128 #[vi p1, vi p2, vr b1, vr b20, vi (5 : Int32), vi (1 : Int32), vi (1 : Int32)] [xi p2, xr u5])) rfl (by rw [hml]; rfl) (Steps.refl _) (argsL := [xi p2]) (rest := []) (lenOf pd1 rfl) rfl (by show 2 * 0 + _ ≤ _; exact Nat.le_of_eq rfl) (hb hby at_128) (fun _ _ => ⟨rfl, e32, (by decide : 2 + 0 ≤ _), (by decide : 12 + 0 ≤ _)⟩)
  dsimp only [Pt.U, Pt.locs, Pt.cells, Pt.slots] at X35 l35 y35 z35 st35 hQ35
  subst l35 y35 z35
  obtain ⟨rfl, Nq35, e35⟩ := hQ35
  have N35 := Fr.app N32 Nq35
  obtain ⟨fs, hr, hrun, hended, hW, hsame⟩ := X35.leave (v := some (xi (1 : Int32))) (fun h => by rw [Bd.returns] at h; cases h)
  refine ⟨_, _, pre0 _ ?_, hrun, hended, _, _, rfl, ?_, ⟨_, rfl⟩, hW, hsame.mono (by decide) (by decide)⟩
  · show own_S p e below s₁ (mkF m 0 #[vi p1, vi p2, vu, vu, vu, vu, vu] []) _
    refine XS.bipush X0.here hx rfl (hb hby at_0) ?_
    show own_S p e below s₁ (mkF m 2 #[vi p1, vi p2, vu, vu, vu, vu, vu] [xi (6 : Int32)]) _
    refine st1 _ ?_
    show own_S p e below T1 (mkF m 5 #[vi p1, vi p2, vu, vu, vu, vu, vu] [xr b1]) _
    refine XS.dup X1.here hx rfl (hb hby at_5) rfl rfl ?_
    show own_S p e below T1 (mkF m 6 #[vi p1, vi p2, vu, vu, vu, vu, vu] [xr b1, xr b1]) _
    refine XS.iconst X1.here hx rfl (hb hby at_6) ?_
    show own_S p e below T1 (mkF m 7 #[vi p1, vi p2, vu, vu, vu, vu, vu] [xi (0 : Int32), xr b1, xr b1]) _
    refine st2 _ ?_
    show own_S p e below T2 (mkF m 10 #[vi p1, vi p2, vu, vu, vu, vu, vu] [xr u0, xi (0 : Int32), xr b1, xr b1]) _
    refine st4 _ ?_
    show own_S p e below T4 (mkF m 11 #[vi p1, vi p2, vu, vu, vu, vu, vu] [xr b1]) _
    refine XS.dup X4.here hx rfl (hb hby at_11) rfl rfl ?_
    show own_S p e below T4 (mkF m 12 #[vi p1, vi p2, vu, vu, vu, vu, vu] [xr b1, xr b1]) _
    refine XS.iconst X4.here hx rfl (hb hby at_12) ?_
    show own_S p e below T4 (mkF m 13 #[vi p1, vi p2, vu, vu, vu, vu, vu] [xi (1 : Int32), xr b1, xr b1]) _
    refine st5 _ ?_
    show own_S p e below T5 (mkF m 16 #[vi p1, vi p2, vu, vu, vu, vu, vu] [xr u1, xi (1 : Int32), xr b1, xr b1]) _
    refine st7 _ ?_
    show own_S p e below T7 (mkF m 17 #[vi p1, vi p2, vu, vu, vu, vu, vu] [xr b1]) _
    refine XS.dup X7.here hx rfl (hb hby at_17) rfl rfl ?_
    show own_S p e below T7 (mkF m 18 #[vi p1, vi p2, vu, vu, vu, vu, vu] [xr b1, xr b1]) _
    refine XS.iconst X7.here hx rfl (hb hby at_18) ?_
    show own_S p e below T7 (mkF m 19 #[vi p1, vi p2, vu, vu, vu, vu, vu] [xi (2 : Int32), xr b1, xr b1]) _
    refine st8 _ ?_
    show own_S p e below T8 (mkF m 22 #[vi p1, vi p2, vu, vu, vu, vu, vu] [xr u2, xi (2 : Int32), xr b1, xr b1]) _
    refine st10 _ ?_
    show own_S p e below T10 (mkF m 23 #[vi p1, vi p2, vu, vu, vu, vu, vu] [xr b1]) _
    refine XS.dup X10.here hx rfl (hb hby at_23) rfl rfl ?_
    show own_S p e below T10 (mkF m 24 #[vi p1, vi p2, vu, vu, vu, vu, vu] [xr b1, xr b1]) _
    refine XS.iconst X10.here hx rfl (hb hby at_24) ?_
    show own_S p e below T10 (mkF m 25 #[vi p1, vi p2, vu, vu, vu, vu, vu] [xi (3 : Int32), xr b1, xr b1]) _
    refine st11 _ ?_
    show own_S p e below T11 (mkF m 28 #[vi p1, vi p2, vu, vu, vu, vu, vu] [xr u3, xi (3 : Int32), xr b1, xr b1]) _
    refine st13 _ ?_
    show own_S p e below T13 (mkF m 29 #[vi p1, vi p2, vu, vu, vu, vu, vu] [xr b1]) _
    refine XS.dup X13.here hx rfl (hb hby at_29) rfl rfl ?_
    show own_S p e below T13 (mkF m 30 #[vi p1, vi p2, vu, vu, vu, vu, vu] [xr b1, xr b1]) _
    refine XS.iconst X13.here hx rfl (hb hby at_30) ?_
    show own_S p e below T13 (mkF m 31 #[vi p1, vi p2, vu, vu, vu, vu, vu] [xi (4 : Int32), xr b1, xr b1]) _
    refine st14 _ ?_
    show own_S p e below T14 (mkF m 34 #[vi p1, vi p2, vu, vu, vu, vu, vu] [xr u4, xi (4 : Int32), xr b1, xr b1]) _
    refine st16 _ ?_
    show own_S p e below T16 (mkF m 35 #[vi p1, vi p2, vu, vu, vu, vu, vu] [xr b1]) _
    refine XS.dup X16.here hx rfl (hb hby at_35) rfl rfl ?_
    show own_S p e below T16 (mkF m 36 #[vi p1, vi p2, vu, vu, vu, vu, vu] [xr b1, xr b1]) _
    refine XS.iconst X16.here hx rfl (hb hby at_36) ?_
    show own_S p e below T16 (mkF m 37 #[vi p1, vi p2, vu, vu, vu, vu, vu] [xi (5 : Int32), xr b1, xr b1]) _
    refine st17 _ ?_
    show own_S p e below T17 (mkF m 40 #[vi p1, vi p2, vu, vu, vu, vu, vu] [xr u5, xi (5 : Int32), xr b1, xr b1]) _
    refine st19 _ ?_
    show own_S p e below T19 (mkF m 41 #[vi p1, vi p2, vu, vu, vu, vu, vu] [xr b1]) _
    refine XS.astoreN X19.here hx rfl (hb hby at_41) rfl rfl (l' := #[vi p1, vi p2, vr b1, vu, vu, vu, vu]) rfl ?_
    show own_S p e below T19 (mkF m 42 #[vi p1, vi p2, vr b1, vu, vu, vu, vu] []) _
    refine XS.bipush X19.here hx rfl (hb hby at_42) ?_
    show own_S p e below T19 (mkF m 44 #[vi p1, vi p2, vr b1, vu, vu, vu, vu] [xi (6 : Int32)]) _
    refine st20 _ ?_
    show own_S p e below T20 (mkF m 46 #[vi p1, vi p2, vr b1, vu, vu, vu, vu] [xr b20]) _
    refine XS.dup X20.here hx rfl (hb hby at_46) rfl rfl ?_
    show own_S p e below T20 (mkF m 47 #[vi p1, vi p2, vr b1, vu, vu, vu, vu] [xr b20, xr b20]) _
    refine XS.iconst X20.here hx rfl (hb hby at_47) ?_
    show own_S p e below T20 (mkF m 48 #[vi p1, vi p2, vr b1, vu, vu, vu, vu] [xi (0 : Int32), xr b20, xr b20]) _
    refine XS.iconst X20.here hx rfl (hb hby at_48) ?_
    show own_S p e below T20 (mkF m 49 #[vi p1, vi p2, vr b1, vu, vu, vu, vu] [xi (2 : Int32), xi (0 : Int32), xr b20, xr b20]) _
    refine st22 _ ?_
    show own_S p e below T22 (mkF m 50 #[vi p1, vi p2, vr b1, vu, vu, vu, vu] [xr b20]) _
    refine XS.dup X22.here hx rfl (hb hby at_50) rfl rfl ?_
    show own_S p e below T22 (mkF m 51 #[vi p1, vi p2, vr b1, vu, vu, vu, vu] [xr b20, xr b20]) _
    refine XS.iconst X22.here hx rfl (hb hby at_51) ?_
    show own_S p e below T22 (mkF m 52 #[vi p1, vi p2, vr b1, vu, vu, vu, vu] [xi (1 : Int32), xr b20, xr b20]) _
    refine XS.iconst X22.here hx rfl (hb hby at_52) ?_
    show own_S p e below T22 (mkF m 53 #[vi p1, vi p2, vr b1, vu, vu, vu, vu] [xi (5 : Int32), xi (1 : Int32), xr b20, xr b20]) _
    refine st24 _ ?_
    show own_S p e below T24 (mkF m 54 #[vi p1, vi p2, vr b1, vu, vu, vu, vu] [xr b20]) _
    refine XS.dup X24.here hx rfl (hb hby at_54) rfl rfl ?_
    show own_S p e below T24 (mkF m 55 #[vi p1, vi p2, vr b1, vu, vu, vu, vu] [xr b20, xr b20]) _
    refine XS.iconst X24.here hx rfl (hb hby at_55) ?_
    show own_S p e below T24 (mkF m 56 #[vi p1, vi p2, vr b1, vu, vu, vu, vu] [xi (2 : Int32), xr b20, xr b20]) _
    refine XS.iconst X24.here hx rfl (hb hby at_56) ?_
    show own_S p e below T24 (mkF m 57 #[vi p1, vi p2, vr b1, vu, vu, vu, vu] [xi (1 : Int32), xi (2 : Int32), xr b20, xr b20]) _
    refine st26 _ ?_
    show own_S p e below T26 (mkF m 58 #[vi p1, vi p2, vr b1, vu, vu, vu, vu] [xr b20]) _
    refine XS.dup X26.here hx rfl (hb hby at_58) rfl rfl ?_
    show own_S p e below T26 (mkF m 59 #[vi p1, vi p2, vr b1, vu, vu, vu, vu] [xr b20, xr b20]) _
    refine XS.iconst X26.here hx rfl (hb hby at_59) ?_
    show own_S p e below T26 (mkF m 60 #[vi p1, vi p2, vr b1, vu, vu, vu, vu] [xi (3 : Int32), xr b20, xr b20]) _
    refine XS.iconst X26.here hx rfl (hb hby at_60) ?_
    show own_S p e below T26 (mkF m 61 #[vi p1, vi p2, vr b1, vu, vu, vu, vu] [xi (3 : Int32), xi (3 : Int32), xr b20, xr b20]) _
    refine st28 _ ?_
    show own_S p e below T28 (mkF m 62 #[vi p1, vi p2, vr b1, vu, vu, vu, vu] [xr b20]) _
    refine XS.dup X28.here hx rfl (hb hby at_62) rfl rfl ?_
    show own_S p e below T28 (mkF m 63 #[vi p1, vi p2, vr b1, vu, vu, vu, vu] [xr b20, xr b20]) _
    refine XS.iconst X28.here hx rfl (hb hby at_63) ?_
    show own_S p e below T28 (mkF m 64 #[vi p1, vi p2, vr b1, vu, vu, vu, vu] [xi (4 : Int32), xr b20, xr b20]) _
    refine XS.iconst X28.here hx rfl (hb hby at_64) ?_
    show own_S p e below T28 (mkF m 65 #[vi p1, vi p2, vr b1, vu, vu, vu, vu] [xi (4 : Int32), xi (4 : Int32), xr b20, xr b20]) _
    refine st30 _ ?_
    show own_S p e below T30 (mkF m 66 #[vi p1, vi p2, vr b1, vu, vu, vu, vu] [xr b20]) _
    refine XS.dup X30.here hx rfl (hb hby at_66) rfl rfl ?_
    show own_S p e below T30 (mkF m 67 #[vi p1, vi p2, vr b1, vu, vu, vu, vu] [xr b20, xr b20]) _
    refine XS.iconst X30.here hx rfl (hb hby at_67) ?_
    show own_S p e below T30 (mkF m 68 #[vi p1, vi p2, vr b1, vu, vu, vu, vu] [xi (5 : Int32), xr b20, xr b20]) _
    refine XS.bipush X30.here hx rfl (hb hby at_68) ?_
    show own_S p e below T30 (mkF m 70 #[vi p1, vi p2, vr b1, vu, vu, vu, vu] [xi (6 : Int32), xi (5 : Int32), xr b20, xr b20]) _
    refine st32 _ ?_
    show own_S p e below T32 (mkF m 71 #[vi p1, vi p2, vr b1, vu, vu, vu, vu] [xr b20]) _
    refine XS.astoreN X32.here hx rfl (hb hby at_71) rfl rfl (l' := #[vi p1, vi p2, vr b1, vr b20, vu, vu, vu]) rfl ?_
    show own_S p e below T32 (mkF m 72 #[vi p1, vi p2, vr b1, vr b20, vu, vu, vu] []) _
    refine XS.iloadN X32.here hx rfl (hb hby at_72) rfl ?_
    show own_S p e below T32 (mkF m 73 #[vi p1, vi p2, vr b1, vr b20, vu, vu, vu] [xi p1]) _
    refine X32.ldcI hx hown (mvT hZ (ww hw 17 rfl)) (g := (mkF m 73 #[vi p1, vi p2, vr b1, vr b20, vu, vu, vu] [xi p1])) rfl (hb hby at_73) ?_
    show own_S p e below T32 (mkF m 75 #[vi p1, vi p2, vr b1, vr b20, vu, vu, vu] [xi (2147483647 : Int32), xi p1]) _
    refine XS.iand X32.here hx rfl (hb hby at_75) rfl ?_
    show own_S p e below T32 (mkF m 76 #[vi p1, vi p2, vr b1, vr b20, vu, vu, vu] [xi (p1 &&& (2147483647 : Int32))]) _
    show own_S p e below T32 (mkF m 76 #[vi p1, vi p2, vr b1, vr b20, vu, vu, vu] [xi (p1 &&& (2147483647 : Int32))]) _
    refine XS.bipush X32.here hx rfl (hb hby at_76) ?_
    show own_S p e below T32 (mkF m 78 #[vi p1, vi p2, vr b1, vr b20, vu, vu, vu] [xi (6 : Int32), xi (p1 &&& (2147483647 : Int32))]) _
    refine XS.irem X32.here hx rfl (hb hby at_78) rfl (by decide) ?_
    show own_S p e below T32 (mkF m 79 #[vi p1, vi p2, vr b1, vr b20, vu, vu, vu] [xi ((p1 &&& (2147483647 : Int32)) - ((p1 &&& (2147483647 : Int32)) / (6 : Int32)) * (6 : Int32))]) _
    refine castTop (show (mkF m 79 #[vi p1, vi p2, vr b1, vr b20, vu, vu, vu] [xi ((p1 &&& (2147483647 : Int32)) - ((p1 &&& (2147483647 : Int32)) / (6 : Int32)) * (6 : Int32))]) = (mkF m 79 #[vi p1, vi p2, vr b1, vr b20, vu, vu, vu] [xi (5 : Int32)]) from by rw [as17]) ?_
    show own_S p e below T32 (mkF m 79 #[vi p1, vi p2, vr b1, vr b20, vu, vu, vu] [xi (5 : Int32)]) _
    refine XS.istore X32.here hx rfl (hb hby at_79) rfl (l' := #[vi p1, vi p2, vr b1, vr b20, vi (5 : Int32), vu, vu]) rfl ?_
    show own_S p e below T32 (mkF m 81 #[vi p1, vi p2, vr b1, vr b20, vi (5 : Int32), vu, vu] []) _
    refine XS.iloadN X32.here hx rfl (hb hby at_81) rfl ?_
    show own_S p e below T32 (mkF m 82 #[vi p1, vi p2, vr b1, vr b20, vi (5 : Int32), vu, vu] [xi p2]) _
    refine XS.ifYes X32.here hx rfl (pc0 := 82) (pc' := 91) rfl (hb hby at_82) rfl as7 (by decide) (by decide) ?_
    show own_S p e below T32 (mkF m 91 #[vi p1, vi p2, vr b1, vr b20, vi (5 : Int32), vu, vu] []) _
    refine XS.iloadN X32.here hx rfl (hb hby at_91) rfl ?_
    show own_S p e below T32 (mkF m 92 #[vi p1, vi p2, vr b1, vr b20, vi (5 : Int32), vu, vu] [xi p2]) _
    refine XS.ifNo X32.here hx rfl (hb hby at_92) rfl as9 ?_
    show own_S p e below T32 (mkF m 95 #[vi p1, vi p2, vr b1, vr b20, vi (5 : Int32), vu, vu] []) _
    refine XS.iconst X32.here hx rfl (hb hby at_95) ?_
    show own_S p e below T32 (mkF m 96 #[vi p1, vi p2, vr b1, vr b20, vi (5 : Int32), vu, vu] [xi (1 : Int32)]) _
    refine XS.istore X32.here hx rfl (hb hby at_96) rfl (l' := #[vi p1, vi p2, vr b1, vr b20, vi (5 : Int32), vi (1 : Int32), vu]) rfl ?_
    show own_S p e below T32 (mkF m 98 #[vi p1, vi p2, vr b1, vr b20, vi (5 : Int32), vi (1 : Int32), vu] []) _
    refine XS.goto X32.here hx rfl (pc0 := 98) (pc' := 104) rfl (hb hby at_98) (by decide) (by decide) ?_
    show own_S p e below T32 (mkF m 104 #[vi p1, vi p2, vr b1, vr b20, vi (5 : Int32), vi (1 : Int32), vu] []) _
    refine XS.aloadN X32.here hx rfl (hb hby at_104) rfl rfl ?_
    show own_S p e below T32 (mkF m 105 #[vi p1, vi p2, vr b1, vr b20, vi (5 : Int32), vi (1 : Int32), vu] [xr b20]) _
    refine XS.iload X32.here hx rfl (hb hby at_105) rfl ?_
    show own_S p e below T32 (mkF m 107 #[vi p1, vi p2, vr b1, vr b20, vi (5 : Int32), vi (1 : Int32), vu] [xi (5 : Int32), xr b20]) _
    refine X32.iaload hx (j := (5 : Int32)) (v := (xi (6 : Int32))) (by rw [e32]; exact Ar33.1) (State.isArrayOf_alike hZ.alike Ar33.2.1) Ar33.2.2 hin33 hat33 (g := (mkF m 107 #[vi p1, vi p2, vr b1, vr b20, vi (5 : Int32), vi (1 : Int32), vu] [xi (5 : Int32), xr b20])) rfl rfl (hb hby at_107) _ ?_
    show own_S p e below T32 (mkF m 108 #[vi p1, vi p2, vr b1, vr b20, vi (5 : Int32), vi (1 : Int32), vu] [xi (6 : Int32)]) _
    refine XS.iload X32.here hx rfl (hb hby at_108) rfl ?_
    show own_S p e below T32 (mkF m 110 #[vi p1, vi p2, vr b1, vr b20, vi (5 : Int32), vi (1 : Int32), vu] [xi (1 : Int32), xi (6 : Int32)]) _
    refine XS.ishr X32.here hx rfl (hb hby at_110) rfl ?_
    show own_S p e below T32 (mkF m 111 #[vi p1, vi p2, vr b1, vr b20, vi (5 : Int32), vi (1 : Int32), vu] [xi ((6 : Int32) >>> ((1 : Int32) &&& 31))]) _
    refine castTop (show (mkF m 111 #[vi p1, vi p2, vr b1, vr b20, vi (5 : Int32), vi (1 : Int32), vu] [xi ((6 : Int32) >>> ((1 : Int32) &&& 31))]) = (mkF m 111 #[vi p1, vi p2, vr b1, vr b20, vi (5 : Int32), vi (1 : Int32), vu] [xi (3 : Int32)]) from by rw [show ((6 : Int32) >>> ((1 : Int32) &&& 31)) = (3 : Int32) from by decide]) ?_
    show own_S p e below T32 (mkF m 111 #[vi p1, vi p2, vr b1, vr b20, vi (5 : Int32), vi (1 : Int32), vu] [xi (3 : Int32)]) _
    refine XS.iconst X32.here hx rfl (hb hby at_111) ?_
    show own_S p e below T32 (mkF m 112 #[vi p1, vi p2, vr b1, vr b20, vi (5 : Int32), vi (1 : Int32), vu] [xi (1 : Int32), xi (3 : Int32)]) _
    refine XS.iand X32.here hx rfl (hb hby at_112) rfl ?_
    show own_S p e below T32 (mkF m 113 #[vi p1, vi p2, vr b1, vr b20, vi (5 : Int32), vi (1 : Int32), vu] [xi ((3 : Int32) &&& (1 : Int32))]) _
    refine castTop (show (mkF m 113 #[vi p1, vi p2, vr b1, vr b20, vi (5 : Int32), vi (1 : Int32), vu] [xi ((3 : Int32) &&& (1 : Int32))]) = (mkF m 113 #[vi p1, vi p2, vr b1, vr b20, vi (5 : Int32), vi (1 : Int32), vu] [xi (1 : Int32)]) from by rw [show ((3 : Int32) &&& (1 : Int32)) = (1 : Int32) from by decide]) ?_
    show own_S p e below T32 (mkF m 113 #[vi p1, vi p2, vr b1, vr b20, vi (5 : Int32), vi (1 : Int32), vu] [xi (1 : Int32)]) _
    refine XS.ifNo X32.here hx rfl (hb hby at_113) rfl (by decide) ?_
    show own_S p e below T32 (mkF m 116 #[vi p1, vi p2, vr b1, vr b20, vi (5 : Int32), vi (1 : Int32), vu] []) _
    refine XS.iconst X32.here hx rfl (hb hby at_116) ?_
    show own_S p e below T32 (mkF m 117 #[vi p1, vi p2, vr b1, vr b20, vi (5 : Int32), vi (1 : Int32), vu] [xi (1 : Int32)]) _
    refine XS.goto X32.here hx rfl (pc0 := 117) (pc' := 121) rfl (hb hby at_117) (by decide) (by decide) ?_
    show own_S p e below T32 (mkF m 121 #[vi p1, vi p2, vr b1, vr b20, vi (5 : Int32), vi (1 : Int32), vu] [xi (1 : Int32)]) _
    refine XS.istore X32.here hx rfl (hb hby at_121) rfl (l' := #[vi p1, vi p2, vr b1, vr b20, vi (5 : Int32), vi (1 : Int32), vi (1 : Int32)]) rfl ?_
    show own_S p e below T32 (mkF m 123 #[vi p1, vi p2, vr b1, vr b20, vi (5 : Int32), vi (1 : Int32), vi (1 : Int32)] []) _
    refine XS.aloadN X32.here hx rfl (hb hby at_123) rfl rfl ?_
    show own_S p e below T32 (mkF m 124 #[vi p1, vi p2, vr b1, vr b20, vi (5 : Int32), vi (1 : Int32), vi (1 : Int32)] [xr b1]) _
    refine XS.iload X32.here hx rfl (hb hby at_124) rfl ?_
    show own_S p e below T32 (mkF m 126 #[vi p1, vi p2, vr b1, vr b20, vi (5 : Int32), vi (1 : Int32), vi (1 : Int32)] [xi (5 : Int32), xr b1]) _
    refine X32.aaload hx (j := (5 : Int32)) (v := (xr u5)) (by rw [e32]; exact Ar34.1) (State.isArrayOf_alike hZ.alike Ar34.2.1) rfl Ar34.2.2 hin34 hat34 (g := (mkF m 126 #[vi p1, vi p2, vr b1, vr b20, vi (5 : Int32), vi (1 : Int32), vi (1 : Int32)] [xi (5 : Int32), xr b1])) rfl rfl (hb hby at_126) _ ?_
    show own_S p e below T32 (mkF m 127 #[vi p1, vi p2, vr b1, vr b20, vi (5 : Int32), vi (1 : Int32), vi (1 : Int32)] [xr u5]) _
    refine XS.iloadN X32.here hx rfl (hb hby at_127) rfl ?_
    show own_S p e below T32 (mkF m 128 #[vi p1, vi p2, vr b1, vr b20, vi (5 : Int32), vi (1 : Int32), vi (1 : Int32)] [xi p2, xr u5]) _
    refine st35.trans ?_
    show own_S p e below T35 (mkF m 131 #[vi p1, vi p2, vr b1, vr b20, vi (5 : Int32), vi (1 : Int32), vi (1 : Int32)] [xi (1 : Int32)]) _
    refine XS.iload X35.here hx rfl (hb hby at_131) rfl ?_
    show own_S p e below T35 (mkF m 133 #[vi p1, vi p2, vr b1, vr b20, vi (5 : Int32), vi (1 : Int32), vi (1 : Int32)] [xi (1 : Int32), xi (1 : Int32)]) _
    refine XS.icmpNo X35.here hx rfl (hb hby at_133) rfl (by decide) ?_
    show own_S p e below T35 (mkF m 136 #[vi p1, vi p2, vr b1, vr b20, vi (5 : Int32), vi (1 : Int32), vi (1 : Int32)] []) _
    refine XS.iconst X35.here hx rfl (hb hby at_136) ?_
    show own_S p e below T35 (mkF m 137 #[vi p1, vi p2, vr b1, vr b20, vi (5 : Int32), vi (1 : Int32), vi (1 : Int32)] [xi (1 : Int32)]) _
    refine XS.goto X35.here hx rfl (pc0 := 137) (pc' := 141) rfl (hb hby at_137) (by decide) (by decide) ?_
    show own_S p e below T35 (mkF m 141 #[vi p1, vi p2, vr b1, vr b20, vi (5 : Int32), vi (1 : Int32), vi (1 : Int32)] [xi (1 : Int32)]) _
    exact retN X35 hx (t := .boolean) Bd.returns (by simp) (hb hby at_141) hr
  · exact ⟨rfl, N35⟩
theorem ef_own_l17 (m : MethodId) (u0 u1 u2 u3 u4 u5 : Addr) (p1 : Int32) (p2 : Int32) : entryFrame m #[xi p1, xi p2] maxLocals = (mkF m 0 #[vi p1, vi p2, vu, vu, vu, vu, vu] []) := by first | (simp [entryFrame, mkF, argsToLocals, Value.category, maxLocals]; done) | rfl
set_option maxRecDepth 65536 in
set_option maxHeartbeats 40000000 in
theorem own_l17 (l : Launch) (Z : State) (a0 : Array Value) (hw : ∀ d ∈ tables_1, d.before a0 Z = true) (u0 u1 u2 u3 u4 u5 : Addr) (G : own_St Z u0 u1 u2 u3 u4 u5) (p1 : Int32) (p2 : Int32) (as17 : ((p1 &&& (2147483647 : Int32)) - ((p1 &&& (2147483647 : Int32)) / (6 : Int32)) * (6 : Int32)) = (5 : Int32)) (as7 : ifCond.holds .ge p2 = true) (as3 : ifCond.holds .ne p2 = true) (as6 : ifCond.holds .lt p2 = false) (h0 : Heap) (n0 : Nat) (O0 : Old Z n0 h0) : own_Met l Z x code maxLocals ret room_1 #[xi p1, xi p2] h0 (own_QL (some (xi (1 : Int32))) n0) := by
  intro ws
  refine MetFree.of_bodySF (plainFor_of_name pn2) hisR ?_
  intro p e s m args below meth c s₁ Bd hml0 hP hK
  obtain ⟨rfl, hZ, hh⟩ := hP
  have hx := Bd.exec
  have hby := Bd.bytes
  have hml : c.maxLocals = 7 := hml0
  have hown : s.vm.findClass "com/example/whyle/whyle/cfa/RelationHoldsPinLaw" = some m.cls := findClass_of_methodNamed Bd.named
  have hnm := (name_of_methodNamed Bd.named Bd.method).1
  have X0 : Stand p l e room_1 s m #[xi p1, xi p2] below meth c s₁ [] 0 0 := Stand.of_body Bd
  have e0 : s₁.heap = h0 := by rw [← hh, Bd.state]; rfl
  have N0 := Fr.nil n0
  have pre0 : ∀ t, Steps p.tables e below (s₁.setTop (mkF m 0 #[vi p1, vi p2, vu, vu, vu, vu, vu] [])) t → Steps p.tables e below (s₁.setTop (entryFrame m #[xi p1, xi p2] maxLocals)) t := fun t st => castTop (ef_own_l17 m u0 u1 u2 u3 u4 u5 p1 p2) st
  obtain ⟨T1, h1, k1, X1, e1, E1, A1, Ov1, st1⟩ := newR X0 hx hZ hown (ww hw 0 rfl) (ww hw 1 rfl) e0 (g := (mkF m 2 #[vi p1, vi p2, vu, vu, vu, vu, vu] [xi (6 : Int32)])) rfl (hb hby at_2) rfl (by decide) (cap := 6) (by decide) (by decide) (by decide) (by decide)
  obtain ⟨b1, g1⟩ : ∃ z, z = h0.size := ⟨_, rfl⟩
  rw [← g1] at A1 st1
  have g_b1 : n0 ≤ b1 := own_fresh O0 g1
  have O1 : Old Z n0 h1 := O0.ext E1
  have V_b1 : Arv Z h1 b1 k1 (.object "com/example/whyle/whyle/cfa/Relation") (6 : Int32) [.null, .null, .null, .null, .null, .null] .null := (Arv.new A1 (by decide)).pad (pad_rep [] .null 6)
  obtain ⟨T2, X2, e2, st2⟩ := getS2 X1 hx hZ hown (host := "") (Or.inl (ww hw 2 rfl)) Via.refl e1 ((own_S_u0 G).ext O1.2) (g := (mkF m 7 #[vi p1, vi p2, vu, vu, vu, vu, vu] [xi (0 : Int32), xr b1, xr b1])) rfl (hb hby at_7)
  obtain ⟨cl3, Ar3, q3, S3, N3_, H3, G3⟩ := V_b1
  have hin3 : ¬ ((0 : Int32) < 0 ∨ cl3.slots.size ≤ ((0 : Int32)).toNatClampNeg) := inb_of S3 ⟨by decide, by decide⟩
  obtain ⟨T4, h4, X4, e4, W4, st4⟩ := stR X2 hx hZ e2 Ar3 (j := (0 : Int32)) hin3 rfl (Sto.ofV Ar3 q3 Ov1 (Ins.self ((own_X_u0 G).ext O1.2))) (g := (mkF m 10 #[vi p1, vi p2, vu, vu, vu, vu, vu] [xr u0, xi (0 : Int32), xr b1, xr b1])) rfl rfl (hb hby at_10)
  have V_b1_4 : Arv Z h4 b1 k1 (.object "com/example/whyle/whyle/cfa/Relation") (6 : Int32) [xr u0, .null, .null, .null, .null, .null] .null := Arv.set Ar3 q3 S3 N3_ H3 G3 rfl W4 0 rfl (Nat.le_of_ble_eq_true rfl)
  have O4 : Old Z n0 h4 := O1.wr W4 g_b1
  have N4 := Fr.snoc X4 N0 g_b1
  obtain ⟨T5, X5, e5, st5⟩ := getS2 X4 hx hZ hown (host := "") (Or.inl (ww hw 6 rfl)) Via.refl e4 ((own_S_u1 G).ext O4.2) (g := (mkF m 13 #[vi p1, vi p2, vu, vu, vu, vu, vu] [xi (1 : Int32), xr b1, xr b1])) rfl (hb hby at_13)
  obtain ⟨cl6, Ar6, q6, S6, N6_, H6, G6⟩ := V_b1_4
  have hin6 : ¬ ((1 : Int32) < 0 ∨ cl6.slots.size ≤ ((1 : Int32)).toNatClampNeg) := inb_of S6 ⟨by decide, by decide⟩
  obtain ⟨T7, h7, X7, e7, W7, st7⟩ := stR X5 hx hZ e5 Ar6 (j := (1 : Int32)) hin6 rfl (Sto.ofV Ar6 q6 Ov1 (Ins.self ((own_X_u1 G).ext O4.2))) (g := (mkF m 16 #[vi p1, vi p2, vu, vu, vu, vu, vu] [xr u1, xi (1 : Int32), xr b1, xr b1])) rfl rfl (hb hby at_16)
  have V_b1_7 : Arv Z h7 b1 k1 (.object "com/example/whyle/whyle/cfa/Relation") (6 : Int32) [xr u0, xr u1, .null, .null, .null, .null] .null := Arv.set Ar6 q6 S6 N6_ H6 G6 rfl W7 1 rfl (Nat.le_of_ble_eq_true rfl)
  have O7 : Old Z n0 h7 := O4.wr W7 g_b1
  have N7 := Fr.snoc X7 N4 g_b1
  obtain ⟨T8, X8, e8, st8⟩ := getS2 X7 hx hZ hown (host := "") (Or.inl (ww hw 8 rfl)) Via.refl e7 ((own_S_u2 G).ext O7.2) (g := (mkF m 19 #[vi p1, vi p2, vu, vu, vu, vu, vu] [xi (2 : Int32), xr b1, xr b1])) rfl (hb hby at_19)
  obtain ⟨cl9, Ar9, q9, S9, N9_, H9, G9⟩ := V_b1_7
  have hin9 : ¬ ((2 : Int32) < 0 ∨ cl9.slots.size ≤ ((2 : Int32)).toNatClampNeg) := inb_of S9 ⟨by decide, by decide⟩
  obtain ⟨T10, h10, X10, e10, W10, st10⟩ := stR X8 hx hZ e8 Ar9 (j := (2 : Int32)) hin9 rfl (Sto.ofV Ar9 q9 Ov1 (Ins.self ((own_X_u2 G).ext O7.2))) (g := (mkF m 22 #[vi p1, vi p2, vu, vu, vu, vu, vu] [xr u2, xi (2 : Int32), xr b1, xr b1])) rfl rfl (hb hby at_22)
  have V_b1_10 : Arv Z h10 b1 k1 (.object "com/example/whyle/whyle/cfa/Relation") (6 : Int32) [xr u0, xr u1, xr u2, .null, .null, .null] .null := Arv.set Ar9 q9 S9 N9_ H9 G9 rfl W10 2 rfl (Nat.le_of_ble_eq_true rfl)
  have O10 : Old Z n0 h10 := O7.wr W10 g_b1
  have N10 := Fr.snoc X10 N7 g_b1
  obtain ⟨T11, X11, e11, st11⟩ := getS2 X10 hx hZ hown (host := "") (Or.inl (ww hw 10 rfl)) Via.refl e10 ((own_S_u3 G).ext O10.2) (g := (mkF m 25 #[vi p1, vi p2, vu, vu, vu, vu, vu] [xi (3 : Int32), xr b1, xr b1])) rfl (hb hby at_25)
  obtain ⟨cl12, Ar12, q12, S12, N12_, H12, G12⟩ := V_b1_10
  have hin12 : ¬ ((3 : Int32) < 0 ∨ cl12.slots.size ≤ ((3 : Int32)).toNatClampNeg) := inb_of S12 ⟨by decide, by decide⟩
  obtain ⟨T13, h13, X13, e13, W13, st13⟩ := stR X11 hx hZ e11 Ar12 (j := (3 : Int32)) hin12 rfl (Sto.ofV Ar12 q12 Ov1 (Ins.self ((own_X_u3 G).ext O10.2))) (g := (mkF m 28 #[vi p1, vi p2, vu, vu, vu, vu, vu] [xr u3, xi (3 : Int32), xr b1, xr b1])) rfl rfl (hb hby at_28)
  have V_b1_13 : Arv Z h13 b1 k1 (.object "com/example/whyle/whyle/cfa/Relation") (6 : Int32) [xr u0, xr u1, xr u2, xr u3, .null, .null] .null := Arv.set Ar12 q12 S12 N12_ H12 G12 rfl W13 3 rfl (Nat.le_of_ble_eq_true rfl)
  have O13 : Old Z n0 h13 := O10.wr W13 g_b1
  have N13 := Fr.snoc X13 N10 g_b1
  obtain ⟨T14, X14, e14, st14⟩ := getS2 X13 hx hZ hown (host := "") (Or.inl (ww hw 12 rfl)) Via.refl e13 ((own_S_u4 G).ext O13.2) (g := (mkF m 31 #[vi p1, vi p2, vu, vu, vu, vu, vu] [xi (4 : Int32), xr b1, xr b1])) rfl (hb hby at_31)
  obtain ⟨cl15, Ar15, q15, S15, N15_, H15, G15⟩ := V_b1_13
  have hin15 : ¬ ((4 : Int32) < 0 ∨ cl15.slots.size ≤ ((4 : Int32)).toNatClampNeg) := inb_of S15 ⟨by decide, by decide⟩
  obtain ⟨T16, h16, X16, e16, W16, st16⟩ := stR X14 hx hZ e14 Ar15 (j := (4 : Int32)) hin15 rfl (Sto.ofV Ar15 q15 Ov1 (Ins.self ((own_X_u4 G).ext O13.2))) (g := (mkF m 34 #[vi p1, vi p2, vu, vu, vu, vu, vu] [xr u4, xi (4 : Int32), xr b1, xr b1])) rfl rfl (hb hby at_34)
  have V_b1_16 : Arv Z h16 b1 k1 (.object "com/example/whyle/whyle/cfa/Relation") (6 : Int32) [xr u0, xr u1, xr u2, xr u3, xr u4, .null] .null := Arv.set Ar15 q15 S15 N15_ H15 G15 rfl W16 4 rfl (Nat.le_of_ble_eq_true rfl)
  have O16 : Old Z n0 h16 := O13.wr W16 g_b1
  have N16 := Fr.snoc X16 N13 g_b1
  obtain ⟨T17, X17, e17, st17⟩ := getS2 X16 hx hZ hown (host := "") (Or.inl (ww hw 14 rfl)) Via.refl e16 ((own_S_u5 G).ext O16.2) (g := (mkF m 37 #[vi p1, vi p2, vu, vu, vu, vu, vu] [xi (5 : Int32), xr b1, xr b1])) rfl (hb hby at_37)
  obtain ⟨cl18, Ar18, q18, S18, N18_, H18, G18⟩ := V_b1_16
  have hin18 : ¬ ((5 : Int32) < 0 ∨ cl18.slots.size ≤ ((5 : Int32)).toNatClampNeg) := inb_of S18 ⟨by decide, by decide⟩
  obtain ⟨T19, h19, X19, e19, W19, st19⟩ := stR X17 hx hZ e17 Ar18 (j := (5 : Int32)) hin18 rfl (Sto.ofV Ar18 q18 Ov1 (Ins.self ((own_X_u5 G).ext O16.2))) (g := (mkF m 40 #[vi p1, vi p2, vu, vu, vu, vu, vu] [xr u5, xi (5 : Int32), xr b1, xr b1])) rfl rfl (hb hby at_40)
  have V_b1_19 : Arv Z h19 b1 k1 (.object "com/example/whyle/whyle/cfa/Relation") (6 : Int32) [xr u0, xr u1, xr u2, xr u3, xr u4, xr u5] .null := Arv.set Ar18 q18 S18 N18_ H18 G18 rfl W19 5 rfl (Nat.le_of_ble_eq_true rfl)
  have O19 : Old Z n0 h19 := O16.wr W19 g_b1
  have N19 := Fr.snoc X19 N16 g_b1
  obtain ⟨T20, h20, k20, X20, e20, E20, A20, st20⟩ := newP X19 hx hZ (ww hw 16 rfl) e19 (g := (mkF m 44 #[vi p1, vi p2, vr b1, vu, vu, vu, vu] [xi (6 : Int32)])) rfl (hb hby at_44) rfl (by decide) (cap := 6) (by decide) (by decide) (by decide) (by decide)
  obtain ⟨b20, g20⟩ : ∃ z, z = h19.size := ⟨_, rfl⟩
  rw [← g20] at A20 st20
  have g_b20 : n0 ≤ b20 := own_fresh O19 g20
  have ne_b1_b20 : b1 ≠ b20 := Nat.ne_of_lt (Nat.lt_of_lt_of_le (V_b1_19).lt (Nat.le_of_eq g20.symm))
  have O20 : Old Z n0 h20 := O19.ext E20
  have V_b1_20 := V_b1_19.ext E20
  have V_b20 : Arv Z h20 b20 k20 .int (6 : Int32) [(.int (0 : Int32)), (.int (0 : Int32)), (.int (0 : Int32)), (.int (0 : Int32)), (.int (0 : Int32)), (.int (0 : Int32))] (.int (0 : Int32)) := (Arv.new A20 (by decide)).pad (pad_rep [] (.int (0 : Int32)) 6)
  obtain ⟨cl21, Ar21, q21, S21, N21_, H21, G21⟩ := V_b20
  have hin21 : ¬ ((0 : Int32) < 0 ∨ cl21.slots.size ≤ ((0 : Int32)).toNatClampNeg) := inb_of S21 ⟨by decide, by decide⟩
  obtain ⟨T22, h22, X22, e22, W22, st22⟩ := stI X20 hx hZ e20 Ar21 (j := (0 : Int32)) hin21 (g := (mkF m 49 #[vi p1, vi p2, vr b1, vu, vu, vu, vu] [xi (2 : Int32), xi (0 : Int32), xr b20, xr b20])) rfl rfl (hb hby at_49)
  have V_b20_22 : Arv Z h22 b20 k20 .int (6 : Int32) [xi (2 : Int32), xi (0 : Int32), xi (0 : Int32), xi (0 : Int32), xi (0 : Int32), xi (0 : Int32)] (.int (0 : Int32)) := Arv.set Ar21 q21 S21 N21_ H21 G21 rfl W22 0 rfl (Nat.le_of_ble_eq_true rfl)
  have O22 : Old Z n0 h22 := O20.wr W22 g_b20
  have V_b1_22 := V_b1_20.other W22 ne_b1_b20
  have N22 := Fr.snoc X22 N19 g_b20
  obtain ⟨cl23, Ar23, q23, S23, N23_, H23, G23⟩ := V_b20_22
  have hin23 : ¬ ((1 : Int32) < 0 ∨ cl23.slots.size ≤ ((1 : Int32)).toNatClampNeg) := inb_of S23 ⟨by decide, by decide⟩
  obtain ⟨T24, h24, X24, e24, W24, st24⟩ := stI X22 hx hZ e22 Ar23 (j := (1 : Int32)) hin23 (g := (mkF m 53 #[vi p1, vi p2, vr b1, vu, vu, vu, vu] [xi (5 : Int32), xi (1 : Int32), xr b20, xr b20])) rfl rfl (hb hby at_53)
  have V_b20_24 : Arv Z h24 b20 k20 .int (6 : Int32) [xi (2 : Int32), xi (5 : Int32), xi (0 : Int32), xi (0 : Int32), xi (0 : Int32), xi (0 : Int32)] (.int (0 : Int32)) := Arv.set Ar23 q23 S23 N23_ H23 G23 rfl W24 1 rfl (Nat.le_of_ble_eq_true rfl)
  have O24 : Old Z n0 h24 := O22.wr W24 g_b20
  have V_b1_24 := V_b1_22.other W24 ne_b1_b20
  have N24 := Fr.snoc X24 N22 g_b20
  obtain ⟨cl25, Ar25, q25, S25, N25_, H25, G25⟩ := V_b20_24
  have hin25 : ¬ ((2 : Int32) < 0 ∨ cl25.slots.size ≤ ((2 : Int32)).toNatClampNeg) := inb_of S25 ⟨by decide, by decide⟩
  obtain ⟨T26, h26, X26, e26, W26, st26⟩ := stI X24 hx hZ e24 Ar25 (j := (2 : Int32)) hin25 (g := (mkF m 57 #[vi p1, vi p2, vr b1, vu, vu, vu, vu] [xi (1 : Int32), xi (2 : Int32), xr b20, xr b20])) rfl rfl (hb hby at_57)
  have V_b20_26 : Arv Z h26 b20 k20 .int (6 : Int32) [xi (2 : Int32), xi (5 : Int32), xi (1 : Int32), xi (0 : Int32), xi (0 : Int32), xi (0 : Int32)] (.int (0 : Int32)) := Arv.set Ar25 q25 S25 N25_ H25 G25 rfl W26 2 rfl (Nat.le_of_ble_eq_true rfl)
  have O26 : Old Z n0 h26 := O24.wr W26 g_b20
  have V_b1_26 := V_b1_24.other W26 ne_b1_b20
  have N26 := Fr.snoc X26 N24 g_b20
  obtain ⟨cl27, Ar27, q27, S27, N27_, H27, G27⟩ := V_b20_26
  have hin27 : ¬ ((3 : Int32) < 0 ∨ cl27.slots.size ≤ ((3 : Int32)).toNatClampNeg) := inb_of S27 ⟨by decide, by decide⟩
  obtain ⟨T28, h28, X28, e28, W28, st28⟩ := stI X26 hx hZ e26 Ar27 (j := (3 : Int32)) hin27 (g := (mkF m 61 #[vi p1, vi p2, vr b1, vu, vu, vu, vu] [xi (3 : Int32), xi (3 : Int32), xr b20, xr b20])) rfl rfl (hb hby at_61)
  have V_b20_28 : Arv Z h28 b20 k20 .int (6 : Int32) [xi (2 : Int32), xi (5 : Int32), xi (1 : Int32), xi (3 : Int32), xi (0 : Int32), xi (0 : Int32)] (.int (0 : Int32)) := Arv.set Ar27 q27 S27 N27_ H27 G27 rfl W28 3 rfl (Nat.le_of_ble_eq_true rfl)
  have O28 : Old Z n0 h28 := O26.wr W28 g_b20
  have V_b1_28 := V_b1_26.other W28 ne_b1_b20
  have N28 := Fr.snoc X28 N26 g_b20
  obtain ⟨cl29, Ar29, q29, S29, N29_, H29, G29⟩ := V_b20_28
  have hin29 : ¬ ((4 : Int32) < 0 ∨ cl29.slots.size ≤ ((4 : Int32)).toNatClampNeg) := inb_of S29 ⟨by decide, by decide⟩
  obtain ⟨T30, h30, X30, e30, W30, st30⟩ := stI X28 hx hZ e28 Ar29 (j := (4 : Int32)) hin29 (g := (mkF m 65 #[vi p1, vi p2, vr b1, vu, vu, vu, vu] [xi (4 : Int32), xi (4 : Int32), xr b20, xr b20])) rfl rfl (hb hby at_65)
  have V_b20_30 : Arv Z h30 b20 k20 .int (6 : Int32) [xi (2 : Int32), xi (5 : Int32), xi (1 : Int32), xi (3 : Int32), xi (4 : Int32), xi (0 : Int32)] (.int (0 : Int32)) := Arv.set Ar29 q29 S29 N29_ H29 G29 rfl W30 4 rfl (Nat.le_of_ble_eq_true rfl)
  have O30 : Old Z n0 h30 := O28.wr W30 g_b20
  have V_b1_30 := V_b1_28.other W30 ne_b1_b20
  have N30 := Fr.snoc X30 N28 g_b20
  obtain ⟨cl31, Ar31, q31, S31, N31_, H31, G31⟩ := V_b20_30
  have hin31 : ¬ ((5 : Int32) < 0 ∨ cl31.slots.size ≤ ((5 : Int32)).toNatClampNeg) := inb_of S31 ⟨by decide, by decide⟩
  obtain ⟨T32, h32, X32, e32, W32, st32⟩ := stI X30 hx hZ e30 Ar31 (j := (5 : Int32)) hin31 (g := (mkF m 70 #[vi p1, vi p2, vr b1, vu, vu, vu, vu] [xi (6 : Int32), xi (5 : Int32), xr b20, xr b20])) rfl rfl (hb hby at_70)
  have V_b20_32 : Arv Z h32 b20 k20 .int (6 : Int32) [xi (2 : Int32), xi (5 : Int32), xi (1 : Int32), xi (3 : Int32), xi (4 : Int32), xi (6 : Int32)] (.int (0 : Int32)) := Arv.set Ar31 q31 S31 N31_ H31 G31 rfl W32 5 rfl (Nat.le_of_ble_eq_true rfl)
  have O32 : Old Z n0 h32 := O30.wr W32 g_b20
  have V_b1_32 := V_b1_30.other W32 ne_b1_b20
  have N32 := Fr.snoc X32 N30 g_b20
  obtain ⟨cl33, Ar33, q33, S33, N33_, H33, G33⟩ := V_b20_32
  have hin33 : ¬ ((5 : Int32) < 0 ∨ cl33.slots.size ≤ ((5 : Int32)).toNatClampNeg) := inb_of S33 ⟨by decide, by decide⟩
  have hat33 : cl33.slots[((5 : Int32)).toNatClampNeg]? = some (xi (6 : Int32)) := Has.at H33 hin33 rfl
  obtain ⟨cl34, Ar34, q34, S34, N34_, H34, G34⟩ := V_b1_32
  have hin34 : ¬ ((5 : Int32) < 0 ∨ cl34.slots.size ≤ ((5 : Int32)).toNatClampNeg) := inb_of S34 ⟨by decide, by decide⟩
  have hat34 : cl34.slots[((5 : Int32)).toNatClampNeg]? = some (xr u5) := Has.at H34 hin34 rfl
  obtain ⟨cq35, kq35, qa35, qb35, qc35⟩ := isOf hZ e32 ((own_X_u5 G).ext O32.2)
  obtain ⟨_, _, ⟨T35, L35, k35, n35⟩, -, X35, ⟨Lc35, hQ35, l35, y35, z35⟩, st35⟩ := X32.virtualBack hx (y := Y2) (z := Y2) hown (mvT hZ (ww hw 18 rfl)) (mvT hZ (ww hw 19 rfl)) (notFace_of_selects (args := #[]) (mvT hZ (ww hw 21 rfl))) (mvT hZ (ww hw 21 rfl)) (mvT hZ (ww hw 20 rfl)) (by decide) (backOf (W := 0) (own_c17_holds l Z a0 hw u0 u1 u2 u3 u4 u5 G p2 as6 h32 n0 O32 []) hZ (ww hw 22 rfl) (ww hw 3 rfl) (by decide) (by decide)) qa35 qc35 (g := (mkF m 128 #[vi p1, vi p2, vr b1, vr b20, vi (5 : Int32), vi (2 : Int32), vi (1 : Int32)] [xi p2, xr u5])) rfl (by rw [hml]; rfl) (Steps.refl _) (argsL := [xi p2]) (rest := []) (lenOf pd1 rfl) rfl (by show 2 * 0 + _ ≤ _; exact Nat.le_of_eq rfl) (hb hby at_128) (fun _ _ => ⟨rfl, e32, (by decide : 2 + 0 ≤ _), (by decide : 12 + 0 ≤ _)⟩)
  dsimp only [Pt.U, Pt.locs, Pt.cells, Pt.slots] at X35 l35 y35 z35 st35 hQ35
  subst l35 y35 z35
  obtain ⟨rfl, Nq35, e35⟩ := hQ35
  have N35 := Fr.app N32 Nq35
  obtain ⟨fs, hr, hrun, hended, hW, hsame⟩ := X35.leave (v := some (xi (1 : Int32))) (fun h => by rw [Bd.returns] at h; cases h)
  refine ⟨_, _, pre0 _ ?_, hrun, hended, _, _, rfl, ?_, ⟨_, rfl⟩, hW, hsame.mono (by decide) (by decide)⟩
  · show own_S p e below s₁ (mkF m 0 #[vi p1, vi p2, vu, vu, vu, vu, vu] []) _
    refine XS.bipush X0.here hx rfl (hb hby at_0) ?_
    show own_S p e below s₁ (mkF m 2 #[vi p1, vi p2, vu, vu, vu, vu, vu] [xi (6 : Int32)]) _
    refine st1 _ ?_
    show own_S p e below T1 (mkF m 5 #[vi p1, vi p2, vu, vu, vu, vu, vu] [xr b1]) _
    refine XS.dup X1.here hx rfl (hb hby at_5) rfl rfl ?_
    show own_S p e below T1 (mkF m 6 #[vi p1, vi p2, vu, vu, vu, vu, vu] [xr b1, xr b1]) _
    refine XS.iconst X1.here hx rfl (hb hby at_6) ?_
    show own_S p e below T1 (mkF m 7 #[vi p1, vi p2, vu, vu, vu, vu, vu] [xi (0 : Int32), xr b1, xr b1]) _
    refine st2 _ ?_
    show own_S p e below T2 (mkF m 10 #[vi p1, vi p2, vu, vu, vu, vu, vu] [xr u0, xi (0 : Int32), xr b1, xr b1]) _
    refine st4 _ ?_
    show own_S p e below T4 (mkF m 11 #[vi p1, vi p2, vu, vu, vu, vu, vu] [xr b1]) _
    refine XS.dup X4.here hx rfl (hb hby at_11) rfl rfl ?_
    show own_S p e below T4 (mkF m 12 #[vi p1, vi p2, vu, vu, vu, vu, vu] [xr b1, xr b1]) _
    refine XS.iconst X4.here hx rfl (hb hby at_12) ?_
    show own_S p e below T4 (mkF m 13 #[vi p1, vi p2, vu, vu, vu, vu, vu] [xi (1 : Int32), xr b1, xr b1]) _
    refine st5 _ ?_
    show own_S p e below T5 (mkF m 16 #[vi p1, vi p2, vu, vu, vu, vu, vu] [xr u1, xi (1 : Int32), xr b1, xr b1]) _
    refine st7 _ ?_
    show own_S p e below T7 (mkF m 17 #[vi p1, vi p2, vu, vu, vu, vu, vu] [xr b1]) _
    refine XS.dup X7.here hx rfl (hb hby at_17) rfl rfl ?_
    show own_S p e below T7 (mkF m 18 #[vi p1, vi p2, vu, vu, vu, vu, vu] [xr b1, xr b1]) _
    refine XS.iconst X7.here hx rfl (hb hby at_18) ?_
    show own_S p e below T7 (mkF m 19 #[vi p1, vi p2, vu, vu, vu, vu, vu] [xi (2 : Int32), xr b1, xr b1]) _
    refine st8 _ ?_
    show own_S p e below T8 (mkF m 22 #[vi p1, vi p2, vu, vu, vu, vu, vu] [xr u2, xi (2 : Int32), xr b1, xr b1]) _
    refine st10 _ ?_
    show own_S p e below T10 (mkF m 23 #[vi p1, vi p2, vu, vu, vu, vu, vu] [xr b1]) _
    refine XS.dup X10.here hx rfl (hb hby at_23) rfl rfl ?_
    show own_S p e below T10 (mkF m 24 #[vi p1, vi p2, vu, vu, vu, vu, vu] [xr b1, xr b1]) _
    refine XS.iconst X10.here hx rfl (hb hby at_24) ?_
    show own_S p e below T10 (mkF m 25 #[vi p1, vi p2, vu, vu, vu, vu, vu] [xi (3 : Int32), xr b1, xr b1]) _
    refine st11 _ ?_
    show own_S p e below T11 (mkF m 28 #[vi p1, vi p2, vu, vu, vu, vu, vu] [xr u3, xi (3 : Int32), xr b1, xr b1]) _
    refine st13 _ ?_
    show own_S p e below T13 (mkF m 29 #[vi p1, vi p2, vu, vu, vu, vu, vu] [xr b1]) _
    refine XS.dup X13.here hx rfl (hb hby at_29) rfl rfl ?_
    show own_S p e below T13 (mkF m 30 #[vi p1, vi p2, vu, vu, vu, vu, vu] [xr b1, xr b1]) _
    refine XS.iconst X13.here hx rfl (hb hby at_30) ?_
    show own_S p e below T13 (mkF m 31 #[vi p1, vi p2, vu, vu, vu, vu, vu] [xi (4 : Int32), xr b1, xr b1]) _
    refine st14 _ ?_
    show own_S p e below T14 (mkF m 34 #[vi p1, vi p2, vu, vu, vu, vu, vu] [xr u4, xi (4 : Int32), xr b1, xr b1]) _
    refine st16 _ ?_
    show own_S p e below T16 (mkF m 35 #[vi p1, vi p2, vu, vu, vu, vu, vu] [xr b1]) _
    refine XS.dup X16.here hx rfl (hb hby at_35) rfl rfl ?_
    show own_S p e below T16 (mkF m 36 #[vi p1, vi p2, vu, vu, vu, vu, vu] [xr b1, xr b1]) _
    refine XS.iconst X16.here hx rfl (hb hby at_36) ?_
    show own_S p e below T16 (mkF m 37 #[vi p1, vi p2, vu, vu, vu, vu, vu] [xi (5 : Int32), xr b1, xr b1]) _
    refine st17 _ ?_
    show own_S p e below T17 (mkF m 40 #[vi p1, vi p2, vu, vu, vu, vu, vu] [xr u5, xi (5 : Int32), xr b1, xr b1]) _
    refine st19 _ ?_
    show own_S p e below T19 (mkF m 41 #[vi p1, vi p2, vu, vu, vu, vu, vu] [xr b1]) _
    refine XS.astoreN X19.here hx rfl (hb hby at_41) rfl rfl (l' := #[vi p1, vi p2, vr b1, vu, vu, vu, vu]) rfl ?_
    show own_S p e below T19 (mkF m 42 #[vi p1, vi p2, vr b1, vu, vu, vu, vu] []) _
    refine XS.bipush X19.here hx rfl (hb hby at_42) ?_
    show own_S p e below T19 (mkF m 44 #[vi p1, vi p2, vr b1, vu, vu, vu, vu] [xi (6 : Int32)]) _
    refine st20 _ ?_
    show own_S p e below T20 (mkF m 46 #[vi p1, vi p2, vr b1, vu, vu, vu, vu] [xr b20]) _
    refine XS.dup X20.here hx rfl (hb hby at_46) rfl rfl ?_
    show own_S p e below T20 (mkF m 47 #[vi p1, vi p2, vr b1, vu, vu, vu, vu] [xr b20, xr b20]) _
    refine XS.iconst X20.here hx rfl (hb hby at_47) ?_
    show own_S p e below T20 (mkF m 48 #[vi p1, vi p2, vr b1, vu, vu, vu, vu] [xi (0 : Int32), xr b20, xr b20]) _
    refine XS.iconst X20.here hx rfl (hb hby at_48) ?_
    show own_S p e below T20 (mkF m 49 #[vi p1, vi p2, vr b1, vu, vu, vu, vu] [xi (2 : Int32), xi (0 : Int32), xr b20, xr b20]) _
    refine st22 _ ?_
    show own_S p e below T22 (mkF m 50 #[vi p1, vi p2, vr b1, vu, vu, vu, vu] [xr b20]) _
    refine XS.dup X22.here hx rfl (hb hby at_50) rfl rfl ?_
    show own_S p e below T22 (mkF m 51 #[vi p1, vi p2, vr b1, vu, vu, vu, vu] [xr b20, xr b20]) _
    refine XS.iconst X22.here hx rfl (hb hby at_51) ?_
    show own_S p e below T22 (mkF m 52 #[vi p1, vi p2, vr b1, vu, vu, vu, vu] [xi (1 : Int32), xr b20, xr b20]) _
    refine XS.iconst X22.here hx rfl (hb hby at_52) ?_
    show own_S p e below T22 (mkF m 53 #[vi p1, vi p2, vr b1, vu, vu, vu, vu] [xi (5 : Int32), xi (1 : Int32), xr b20, xr b20]) _
    refine st24 _ ?_
    show own_S p e below T24 (mkF m 54 #[vi p1, vi p2, vr b1, vu, vu, vu, vu] [xr b20]) _
    refine XS.dup X24.here hx rfl (hb hby at_54) rfl rfl ?_
    show own_S p e below T24 (mkF m 55 #[vi p1, vi p2, vr b1, vu, vu, vu, vu] [xr b20, xr b20]) _
    refine XS.iconst X24.here hx rfl (hb hby at_55) ?_
    show own_S p e below T24 (mkF m 56 #[vi p1, vi p2, vr b1, vu, vu, vu, vu] [xi (2 : Int32), xr b20, xr b20]) _
    refine XS.iconst X24.here hx rfl (hb hby at_56) ?_
    show own_S p e below T24 (mkF m 57 #[vi p1, vi p2, vr b1, vu, vu, vu, vu] [xi (1 : Int32), xi (2 : Int32), xr b20, xr b20]) _
    refine st26 _ ?_
    show own_S p e below T26 (mkF m 58 #[vi p1, vi p2, vr b1, vu, vu, vu, vu] [xr b20]) _
    refine XS.dup X26.here hx rfl (hb hby at_58) rfl rfl ?_
    show own_S p e below T26 (mkF m 59 #[vi p1, vi p2, vr b1, vu, vu, vu, vu] [xr b20, xr b20]) _
    refine XS.iconst X26.here hx rfl (hb hby at_59) ?_
    show own_S p e below T26 (mkF m 60 #[vi p1, vi p2, vr b1, vu, vu, vu, vu] [xi (3 : Int32), xr b20, xr b20]) _
    refine XS.iconst X26.here hx rfl (hb hby at_60) ?_
    show own_S p e below T26 (mkF m 61 #[vi p1, vi p2, vr b1, vu, vu, vu, vu] [xi (3 : Int32), xi (3 : Int32), xr b20, xr b20]) _
    refine st28 _ ?_
    show own_S p e below T28 (mkF m 62 #[vi p1, vi p2, vr b1, vu, vu, vu, vu] [xr b20]) _
    refine XS.dup X28.here hx rfl (hb hby at_62) rfl rfl ?_
    show own_S p e below T28 (mkF m 63 #[vi p1, vi p2, vr b1, vu, vu, vu, vu] [xr b20, xr b20]) _
    refine XS.iconst X28.here hx rfl (hb hby at_63) ?_
    show own_S p e below T28 (mkF m 64 #[vi p1, vi p2, vr b1, vu, vu, vu, vu] [xi (4 : Int32), xr b20, xr b20]) _
    refine XS.iconst X28.here hx rfl (hb hby at_64) ?_
    show own_S p e below T28 (mkF m 65 #[vi p1, vi p2, vr b1, vu, vu, vu, vu] [xi (4 : Int32), xi (4 : Int32), xr b20, xr b20]) _
    refine st30 _ ?_
    show own_S p e below T30 (mkF m 66 #[vi p1, vi p2, vr b1, vu, vu, vu, vu] [xr b20]) _
    refine XS.dup X30.here hx rfl (hb hby at_66) rfl rfl ?_
    show own_S p e below T30 (mkF m 67 #[vi p1, vi p2, vr b1, vu, vu, vu, vu] [xr b20, xr b20]) _
    refine XS.iconst X30.here hx rfl (hb hby at_67) ?_
    show own_S p e below T30 (mkF m 68 #[vi p1, vi p2, vr b1, vu, vu, vu, vu] [xi (5 : Int32), xr b20, xr b20]) _
    refine XS.bipush X30.here hx rfl (hb hby at_68) ?_
    show own_S p e below T30 (mkF m 70 #[vi p1, vi p2, vr b1, vu, vu, vu, vu] [xi (6 : Int32), xi (5 : Int32), xr b20, xr b20]) _
    refine st32 _ ?_
    show own_S p e below T32 (mkF m 71 #[vi p1, vi p2, vr b1, vu, vu, vu, vu] [xr b20]) _
    refine XS.astoreN X32.here hx rfl (hb hby at_71) rfl rfl (l' := #[vi p1, vi p2, vr b1, vr b20, vu, vu, vu]) rfl ?_
    show own_S p e below T32 (mkF m 72 #[vi p1, vi p2, vr b1, vr b20, vu, vu, vu] []) _
    refine XS.iloadN X32.here hx rfl (hb hby at_72) rfl ?_
    show own_S p e below T32 (mkF m 73 #[vi p1, vi p2, vr b1, vr b20, vu, vu, vu] [xi p1]) _
    refine X32.ldcI hx hown (mvT hZ (ww hw 17 rfl)) (g := (mkF m 73 #[vi p1, vi p2, vr b1, vr b20, vu, vu, vu] [xi p1])) rfl (hb hby at_73) ?_
    show own_S p e below T32 (mkF m 75 #[vi p1, vi p2, vr b1, vr b20, vu, vu, vu] [xi (2147483647 : Int32), xi p1]) _
    refine XS.iand X32.here hx rfl (hb hby at_75) rfl ?_
    show own_S p e below T32 (mkF m 76 #[vi p1, vi p2, vr b1, vr b20, vu, vu, vu] [xi (p1 &&& (2147483647 : Int32))]) _
    show own_S p e below T32 (mkF m 76 #[vi p1, vi p2, vr b1, vr b20, vu, vu, vu] [xi (p1 &&& (2147483647 : Int32))]) _
    refine XS.bipush X32.here hx rfl (hb hby at_76) ?_
    show own_S p e below T32 (mkF m 78 #[vi p1, vi p2, vr b1, vr b20, vu, vu, vu] [xi (6 : Int32), xi (p1 &&& (2147483647 : Int32))]) _
    refine XS.irem X32.here hx rfl (hb hby at_78) rfl (by decide) ?_
    show own_S p e below T32 (mkF m 79 #[vi p1, vi p2, vr b1, vr b20, vu, vu, vu] [xi ((p1 &&& (2147483647 : Int32)) - ((p1 &&& (2147483647 : Int32)) / (6 : Int32)) * (6 : Int32))]) _
    refine castTop (show (mkF m 79 #[vi p1, vi p2, vr b1, vr b20, vu, vu, vu] [xi ((p1 &&& (2147483647 : Int32)) - ((p1 &&& (2147483647 : Int32)) / (6 : Int32)) * (6 : Int32))]) = (mkF m 79 #[vi p1, vi p2, vr b1, vr b20, vu, vu, vu] [xi (5 : Int32)]) from by rw [as17]) ?_
    show own_S p e below T32 (mkF m 79 #[vi p1, vi p2, vr b1, vr b20, vu, vu, vu] [xi (5 : Int32)]) _
    refine XS.istore X32.here hx rfl (hb hby at_79) rfl (l' := #[vi p1, vi p2, vr b1, vr b20, vi (5 : Int32), vu, vu]) rfl ?_
    show own_S p e below T32 (mkF m 81 #[vi p1, vi p2, vr b1, vr b20, vi (5 : Int32), vu, vu] []) _
    refine XS.iloadN X32.here hx rfl (hb hby at_81) rfl ?_
    show own_S p e below T32 (mkF m 82 #[vi p1, vi p2, vr b1, vr b20, vi (5 : Int32), vu, vu] [xi p2]) _
    refine XS.ifYes X32.here hx rfl (pc0 := 82) (pc' := 91) rfl (hb hby at_82) rfl as7 (by decide) (by decide) ?_
    show own_S p e below T32 (mkF m 91 #[vi p1, vi p2, vr b1, vr b20, vi (5 : Int32), vu, vu] []) _
    refine XS.iloadN X32.here hx rfl (hb hby at_91) rfl ?_
    show own_S p e below T32 (mkF m 92 #[vi p1, vi p2, vr b1, vr b20, vi (5 : Int32), vu, vu] [xi p2]) _
    refine XS.ifYes X32.here hx rfl (pc0 := 92) (pc' := 101) rfl (hb hby at_92) rfl as3 (by decide) (by decide) ?_
    show own_S p e below T32 (mkF m 101 #[vi p1, vi p2, vr b1, vr b20, vi (5 : Int32), vu, vu] []) _
    refine XS.iconst X32.here hx rfl (hb hby at_101) ?_
    show own_S p e below T32 (mkF m 102 #[vi p1, vi p2, vr b1, vr b20, vi (5 : Int32), vu, vu] [xi (2 : Int32)]) _
    refine XS.istore X32.here hx rfl (hb hby at_102) rfl (l' := #[vi p1, vi p2, vr b1, vr b20, vi (5 : Int32), vi (2 : Int32), vu]) rfl ?_
    show own_S p e below T32 (mkF m 104 #[vi p1, vi p2, vr b1, vr b20, vi (5 : Int32), vi (2 : Int32), vu] []) _
    refine XS.aloadN X32.here hx rfl (hb hby at_104) rfl rfl ?_
    show own_S p e below T32 (mkF m 105 #[vi p1, vi p2, vr b1, vr b20, vi (5 : Int32), vi (2 : Int32), vu] [xr b20]) _
    refine XS.iload X32.here hx rfl (hb hby at_105) rfl ?_
    show own_S p e below T32 (mkF m 107 #[vi p1, vi p2, vr b1, vr b20, vi (5 : Int32), vi (2 : Int32), vu] [xi (5 : Int32), xr b20]) _
    refine X32.iaload hx (j := (5 : Int32)) (v := (xi (6 : Int32))) (by rw [e32]; exact Ar33.1) (State.isArrayOf_alike hZ.alike Ar33.2.1) Ar33.2.2 hin33 hat33 (g := (mkF m 107 #[vi p1, vi p2, vr b1, vr b20, vi (5 : Int32), vi (2 : Int32), vu] [xi (5 : Int32), xr b20])) rfl rfl (hb hby at_107) _ ?_
    show own_S p e below T32 (mkF m 108 #[vi p1, vi p2, vr b1, vr b20, vi (5 : Int32), vi (2 : Int32), vu] [xi (6 : Int32)]) _
    refine XS.iload X32.here hx rfl (hb hby at_108) rfl ?_
    show own_S p e below T32 (mkF m 110 #[vi p1, vi p2, vr b1, vr b20, vi (5 : Int32), vi (2 : Int32), vu] [xi (2 : Int32), xi (6 : Int32)]) _
    refine XS.ishr X32.here hx rfl (hb hby at_110) rfl ?_
    show own_S p e below T32 (mkF m 111 #[vi p1, vi p2, vr b1, vr b20, vi (5 : Int32), vi (2 : Int32), vu] [xi ((6 : Int32) >>> ((2 : Int32) &&& 31))]) _
    refine castTop (show (mkF m 111 #[vi p1, vi p2, vr b1, vr b20, vi (5 : Int32), vi (2 : Int32), vu] [xi ((6 : Int32) >>> ((2 : Int32) &&& 31))]) = (mkF m 111 #[vi p1, vi p2, vr b1, vr b20, vi (5 : Int32), vi (2 : Int32), vu] [xi (1 : Int32)]) from by rw [show ((6 : Int32) >>> ((2 : Int32) &&& 31)) = (1 : Int32) from by decide]) ?_
    show own_S p e below T32 (mkF m 111 #[vi p1, vi p2, vr b1, vr b20, vi (5 : Int32), vi (2 : Int32), vu] [xi (1 : Int32)]) _
    refine XS.iconst X32.here hx rfl (hb hby at_111) ?_
    show own_S p e below T32 (mkF m 112 #[vi p1, vi p2, vr b1, vr b20, vi (5 : Int32), vi (2 : Int32), vu] [xi (1 : Int32), xi (1 : Int32)]) _
    refine XS.iand X32.here hx rfl (hb hby at_112) rfl ?_
    show own_S p e below T32 (mkF m 113 #[vi p1, vi p2, vr b1, vr b20, vi (5 : Int32), vi (2 : Int32), vu] [xi ((1 : Int32) &&& (1 : Int32))]) _
    refine castTop (show (mkF m 113 #[vi p1, vi p2, vr b1, vr b20, vi (5 : Int32), vi (2 : Int32), vu] [xi ((1 : Int32) &&& (1 : Int32))]) = (mkF m 113 #[vi p1, vi p2, vr b1, vr b20, vi (5 : Int32), vi (2 : Int32), vu] [xi (1 : Int32)]) from by rw [show ((1 : Int32) &&& (1 : Int32)) = (1 : Int32) from by decide]) ?_
    show own_S p e below T32 (mkF m 113 #[vi p1, vi p2, vr b1, vr b20, vi (5 : Int32), vi (2 : Int32), vu] [xi (1 : Int32)]) _
    refine XS.ifNo X32.here hx rfl (hb hby at_113) rfl (by decide) ?_
    show own_S p e below T32 (mkF m 116 #[vi p1, vi p2, vr b1, vr b20, vi (5 : Int32), vi (2 : Int32), vu] []) _
    refine XS.iconst X32.here hx rfl (hb hby at_116) ?_
    show own_S p e below T32 (mkF m 117 #[vi p1, vi p2, vr b1, vr b20, vi (5 : Int32), vi (2 : Int32), vu] [xi (1 : Int32)]) _
    refine XS.goto X32.here hx rfl (pc0 := 117) (pc' := 121) rfl (hb hby at_117) (by decide) (by decide) ?_
    show own_S p e below T32 (mkF m 121 #[vi p1, vi p2, vr b1, vr b20, vi (5 : Int32), vi (2 : Int32), vu] [xi (1 : Int32)]) _
    refine XS.istore X32.here hx rfl (hb hby at_121) rfl (l' := #[vi p1, vi p2, vr b1, vr b20, vi (5 : Int32), vi (2 : Int32), vi (1 : Int32)]) rfl ?_
    show own_S p e below T32 (mkF m 123 #[vi p1, vi p2, vr b1, vr b20, vi (5 : Int32), vi (2 : Int32), vi (1 : Int32)] []) _
    refine XS.aloadN X32.here hx rfl (hb hby at_123) rfl rfl ?_
    show own_S p e below T32 (mkF m 124 #[vi p1, vi p2, vr b1, vr b20, vi (5 : Int32), vi (2 : Int32), vi (1 : Int32)] [xr b1]) _
    refine XS.iload X32.here hx rfl (hb hby at_124) rfl ?_
    show own_S p e below T32 (mkF m 126 #[vi p1, vi p2, vr b1, vr b20, vi (5 : Int32), vi (2 : Int32), vi (1 : Int32)] [xi (5 : Int32), xr b1]) _
    refine X32.aaload hx (j := (5 : Int32)) (v := (xr u5)) (by rw [e32]; exact Ar34.1) (State.isArrayOf_alike hZ.alike Ar34.2.1) rfl Ar34.2.2 hin34 hat34 (g := (mkF m 126 #[vi p1, vi p2, vr b1, vr b20, vi (5 : Int32), vi (2 : Int32), vi (1 : Int32)] [xi (5 : Int32), xr b1])) rfl rfl (hb hby at_126) _ ?_
    show own_S p e below T32 (mkF m 127 #[vi p1, vi p2, vr b1, vr b20, vi (5 : Int32), vi (2 : Int32), vi (1 : Int32)] [xr u5]) _
    refine XS.iloadN X32.here hx rfl (hb hby at_127) rfl ?_
    show own_S p e below T32 (mkF m 128 #[vi p1, vi p2, vr b1, vr b20, vi (5 : Int32), vi (2 : Int32), vi (1 : Int32)] [xi p2, xr u5]) _
    refine st35.trans ?_
    show own_S p e below T35 (mkF m 131 #[vi p1, vi p2, vr b1, vr b20, vi (5 : Int32), vi (2 : Int32), vi (1 : Int32)] [xi (1 : Int32)]) _
    refine XS.iload X35.here hx rfl (hb hby at_131) rfl ?_
    show own_S p e below T35 (mkF m 133 #[vi p1, vi p2, vr b1, vr b20, vi (5 : Int32), vi (2 : Int32), vi (1 : Int32)] [xi (1 : Int32), xi (1 : Int32)]) _
    refine XS.icmpNo X35.here hx rfl (hb hby at_133) rfl (by decide) ?_
    show own_S p e below T35 (mkF m 136 #[vi p1, vi p2, vr b1, vr b20, vi (5 : Int32), vi (2 : Int32), vi (1 : Int32)] []) _
    refine XS.iconst X35.here hx rfl (hb hby at_136) ?_
    show own_S p e below T35 (mkF m 137 #[vi p1, vi p2, vr b1, vr b20, vi (5 : Int32), vi (2 : Int32), vi (1 : Int32)] [xi (1 : Int32)]) _
    refine XS.goto X35.here hx rfl (pc0 := 137) (pc' := 141) rfl (hb hby at_137) (by decide) (by decide) ?_
    show own_S p e below T35 (mkF m 141 #[vi p1, vi p2, vr b1, vr b20, vi (5 : Int32), vi (2 : Int32), vi (1 : Int32)] [xi (1 : Int32)]) _
    exact retN X35 hx (t := .boolean) Bd.returns (by simp) (hb hby at_141) hr
  · exact ⟨rfl, N35⟩
theorem own_law (l : Launch) (Z : State) (a0 : Array Value) (hw : ∀ d ∈ tables_1, d.before a0 Z = true) (u0 u1 u2 u3 u4 u5 : Addr) (G : own_St Z u0 u1 u2 u3 u4 u5) (p1 : Int32) (p2 : Int32) (h0 : Heap) (n0 : Nat) (O0 : Old Z n0 h0) : own_Met l Z x code maxLocals ret room_1 #[(.int p1), (.int p2)] h0 (own_QL (some (.int (1 : Int32))) n0) := by
  rcases own_rem6 p1 with as12 | as13 | as14 | as15 | as16 | as17
  · rcases own_sgn p2 with ⟨as0, as1, as2, as3, as4, as5⟩ | ⟨as6, as7, as8, as9, as4, as5⟩ | ⟨as6, as7, as2, as3, as10, as11⟩
    · exact own_l0 l Z a0 hw u0 u1 u2 u3 u4 u5 G p1 p2 as12 as1 as3 h0 n0 O0
    · exact own_l1 l Z a0 hw u0 u1 u2 u3 u4 u5 G p1 p2 as12 as7 as9 h0 n0 O0
    · exact own_l2 l Z a0 hw u0 u1 u2 u3 u4 u5 G p1 p2 as12 as7 as3 h0 n0 O0
  · rcases own_sgn p2 with ⟨as0, as1, as2, as3, as4, as5⟩ | ⟨as6, as7, as8, as9, as4, as5⟩ | ⟨as6, as7, as2, as3, as10, as11⟩
    · exact own_l3 l Z a0 hw u0 u1 u2 u3 u4 u5 G p1 p2 as13 as1 as2 h0 n0 O0
    · exact own_l4 l Z a0 hw u0 u1 u2 u3 u4 u5 G p1 p2 as13 as7 as9 as8 h0 n0 O0
    · exact own_l5 l Z a0 hw u0 u1 u2 u3 u4 u5 G p1 p2 as13 as7 as3 as2 h0 n0 O0
  · rcases own_sgn p2 with ⟨as0, as1, as2, as3, as4, as5⟩ | ⟨as6, as7, as8, as9, as4, as5⟩ | ⟨as6, as7, as2, as3, as10, as11⟩
    · exact own_l6 l Z a0 hw u0 u1 u2 u3 u4 u5 G p1 p2 as14 as1 h0 n0 O0
    · exact own_l7 l Z a0 hw u0 u1 u2 u3 u4 u5 G p1 p2 as14 as7 as9 h0 n0 O0
    · exact own_l8 l Z a0 hw u0 u1 u2 u3 u4 u5 G p1 p2 as14 as7 as3 h0 n0 O0
  · rcases own_sgn p2 with ⟨as0, as1, as2, as3, as4, as5⟩ | ⟨as6, as7, as8, as9, as4, as5⟩ | ⟨as6, as7, as2, as3, as10, as11⟩
    · exact own_l9 l Z a0 hw u0 u1 u2 u3 u4 u5 G p1 p2 as15 as1 as4 h0 n0 O0
    · exact own_l10 l Z a0 hw u0 u1 u2 u3 u4 u5 G p1 p2 as15 as7 as9 as4 h0 n0 O0
    · exact own_l11 l Z a0 hw u0 u1 u2 u3 u4 u5 G p1 p2 as15 as7 as3 as10 h0 n0 O0
  · rcases own_sgn p2 with ⟨as0, as1, as2, as3, as4, as5⟩ | ⟨as6, as7, as8, as9, as4, as5⟩ | ⟨as6, as7, as2, as3, as10, as11⟩
    · exact own_l12 l Z a0 hw u0 u1 u2 u3 u4 u5 G p1 p2 as16 as1 as5 h0 n0 O0
    · exact own_l13 l Z a0 hw u0 u1 u2 u3 u4 u5 G p1 p2 as16 as7 as9 as5 h0 n0 O0
    · exact own_l14 l Z a0 hw u0 u1 u2 u3 u4 u5 G p1 p2 as16 as7 as3 as11 h0 n0 O0
  · rcases own_sgn p2 with ⟨as0, as1, as2, as3, as4, as5⟩ | ⟨as6, as7, as8, as9, as4, as5⟩ | ⟨as6, as7, as2, as3, as10, as11⟩
    · exact own_l15 l Z a0 hw u0 u1 u2 u3 u4 u5 G p1 p2 as17 as1 as0 h0 n0 O0
    · exact own_l16 l Z a0 hw u0 u1 u2 u3 u4 u5 G p1 p2 as17 as7 as9 as6 h0 n0 O0
    · exact own_l17 l Z a0 hw u0 u1 u2 u3 u4 u5 G p1 p2 as17 as7 as3 as6 h0 n0 O0
set_option maxRecDepth 65536 in
set_option maxHeartbeats 40000000 in
theorem comes_1 {Post : Tables → Env → Array Value → State → Outcome → State → Prop} (hpost : ∀ tb e args s v u, (limb_1_1.after args s (.returned v) u = true ∧ limb_1_2.after args s (.returned v) u = true ∧ True) → FrameEnd s (.returned v) u (Jvm.fieldLocs frame_1_writes args s ++ Jvm.arrayLocs frame_1_arrays args s ++ Jvm.staticLocs frame_1_statics s) 16 128 → Post tb e args s (.returned v) u) :
    ArmFor flags0 classFile x code maxLocals ret World_1 tables_1 room_1 Calls_1 rest_1 Pre_1 Post := by
  intro l hfl _ _ p e ha hc hk s m args below hf hA hF happ hP
  obtain ⟨hcalls, hrest, hpre⟩ := hP
  obtain ⟨-, -, -, hnamed, -, -, -, hat⟩ := (Spec.applies_iff hf).mp happ
  obtain ⟨hg, hn⟩ := and_e (Cond.before_iff.mp (show (Jvm.Cond.and given_1 narrow_1).before args s = true from hpre))
  obtain ⟨hcount, hg0⟩ := and_e hg
  obtain ⟨ga0, hg1⟩ := and_e hg0
  have ga1 := hg1
  obtain ⟨w0, w1, rfl⟩ : ∃ w0 w1 : Value, args = #[w0, w1] := by
    have hs : args.size = 2 := by simpa [Cond.value, given_1] using hcount
    obtain ⟨L⟩ := args
    match L, hs with
    | [w0, w1], _ => exact ⟨w0, w1, rfl⟩
  have hw := fun d (hd : d ∈ tables_1) => atoms_spec (ws := Jvm.Cond.code x code maxLocals ret :: tables_1) hat d (List.mem_cons_of_mem _ hd)
  have hfit : Fit s := fun {y c} hc i hi => by
    obtain ⟨ha, rfl⟩ := Array.getElem?_eq_some_iff.mp hc
    have q := List.all_eq_true.mp ((Array.all_eq_true_iff_forall_mem.mp hF) _ (Array.getElem_mem ha)) i (List.mem_range.mpr hi)
    simpa [Array.getElem?_eq_getElem hi] using q
  obtain ⟨p1, ei0⟩ := is_v ga0
  obtain rfl : w0 = (.int p1) := Option.some.inj ei0
  obtain ⟨p2, ei1⟩ := is_v ga1
  obtain rfl : w1 = (.int p2) := Option.some.inj ei1
  have hc0 := hn
  obtain ⟨ca0, hc1⟩ := and_e hc0
  obtain ⟨ca1, hc2⟩ := and_e hc1
  obtain ⟨ca2, hc3⟩ := and_e hc2
  obtain ⟨ca3, hc4⟩ := and_e hc3
  obtain ⟨ca4, hc5⟩ := and_e hc4
  obtain ⟨ca5, hc6⟩ := and_e hc5
  obtain ⟨ca6, hc7⟩ := and_e hc6
  obtain ⟨ca7, hc8⟩ := and_e hc7
  obtain ⟨ca8, hc9⟩ := and_e hc8
  obtain ⟨ca9, hc10⟩ := and_e hc9
  obtain ⟨ca10, hc11⟩ := and_e hc10
  have ca11 := hc11
  obtain ⟨u0, ev_u0⟩ := exa_v ca0
  have pX_u0 := Exa.start ev_u0 ca0
  have pS_u0 : Sta s s.heap "com/example/whyle/whyle/cfa/Relation" "EQUAL" "Lcom/example/whyle/whyle/cfa/Relation;" (.ref u0) := Sta.start ev_u0 (Or.inr ⟨(ww hw 3 rfl), (ww hw 4 rfl)⟩)
  obtain ⟨u1, ev_u1⟩ := exa_v ca1
  have pX_u1 := Exa.start ev_u1 ca1
  have pS_u1 : Sta s s.heap "com/example/whyle/whyle/cfa/Relation" "NOT_EQUAL" "Lcom/example/whyle/whyle/cfa/Relation;" (.ref u1) := Sta.start ev_u1 (Or.inr ⟨(ww hw 3 rfl), (ww hw 7 rfl)⟩)
  obtain ⟨u2, ev_u2⟩ := exa_v ca2
  have pX_u2 := Exa.start ev_u2 ca2
  have pS_u2 : Sta s s.heap "com/example/whyle/whyle/cfa/Relation" "LESS" "Lcom/example/whyle/whyle/cfa/Relation;" (.ref u2) := Sta.start ev_u2 (Or.inr ⟨(ww hw 3 rfl), (ww hw 9 rfl)⟩)
  obtain ⟨u3, ev_u3⟩ := exa_v ca3
  have pX_u3 := Exa.start ev_u3 ca3
  have pS_u3 : Sta s s.heap "com/example/whyle/whyle/cfa/Relation" "LESS_OR_EQUAL" "Lcom/example/whyle/whyle/cfa/Relation;" (.ref u3) := Sta.start ev_u3 (Or.inr ⟨(ww hw 3 rfl), (ww hw 11 rfl)⟩)
  obtain ⟨u4, ev_u4⟩ := exa_v ca4
  have pX_u4 := Exa.start ev_u4 ca4
  have pS_u4 : Sta s s.heap "com/example/whyle/whyle/cfa/Relation" "GREATER" "Lcom/example/whyle/whyle/cfa/Relation;" (.ref u4) := Sta.start ev_u4 (Or.inr ⟨(ww hw 3 rfl), (ww hw 13 rfl)⟩)
  obtain ⟨u5, ev_u5⟩ := exa_v ca5
  have pX_u5 := Exa.start ev_u5 ca5
  have pS_u5 : Sta s s.heap "com/example/whyle/whyle/cfa/Relation" "GREATER_OR_EQUAL" "Lcom/example/whyle/whyle/cfa/Relation;" (.ref u5) := Sta.start ev_u5 (Or.inr ⟨(ww hw 3 rfl), (ww hw 15 rfl)⟩)
  have pF_u0_ordinal := own_fld ev_u0 ca6
  have pF_u2_ordinal := own_fld ev_u2 ca7
  have pF_u4_ordinal := own_fld ev_u4 ca8
  have pF_u1_ordinal := own_fld ev_u1 ca9
  have pF_u5_ordinal := own_fld ev_u5 ca10
  have pF_u3_ordinal := own_fld ev_u3 ca11
  have G : own_St s u0 u1 u2 u3 u4 u5 := ⟨pS_u0, pX_u0, pS_u1, pX_u1, pS_u2, pX_u2, pS_u3, pX_u3, pS_u4, pX_u4, pS_u5, pX_u5, pF_u0_ordinal, pF_u2_ordinal, pF_u4_ordinal, pF_u1_ordinal, pF_u5_ordinal, pF_u3_ordinal⟩
  obtain ⟨n, o, h1, h2, h3, _, L, rfl, ⟨rfl, N⟩, hq⟩ := own_law l s _ hw u0 u1 u2 u3 u4 u5 G p1 p2 s.heap s.heap.size (Old.start s) tables_1 p e ha hc hk s m _ below hf ((Spec.applies_iff_loose hf).mp happ).1 ⟨rfl, State.Warmed39.refl s, rfl⟩ trivial
  refine ⟨n, _, h1, h2, h3, hpost _ _ _ _ _ _ ⟨Cond.after_iff.mpr rfl, Cond.after_iff.mpr (eq_i res_at (Term.int_eval (1)) rfl), trivial⟩ ⟨hq.1, hq.2.1, (hq.2.2.sift fun y hy => Or.inr (N y hy)).mono (by decide) (by decide)⟩⟩
theorem main_1_1 : Claimed_1_1 := comes_1 fun _ _ _ _ _ _ h hF => ⟨h.1, hF⟩
theorem main_1_2 : Claimed_1_2 := comes_1 fun _ _ _ _ _ _ h hF => ⟨h.2.1, hF⟩
end Jvm.Pilot.@@N@@
namespace Jvm.Pilot.@@N@@
open Jvm Jvm.ClassFile Sem Op Lib Jvm.Free Jvm.Stand Jvm.Pilot.@@N@@.Jvm.D
/-! MADE BY PROGRAM (witnessworld.py) out of the Statement's table words and the real class files: 13 classes; the members and pool entries that the words name. The judged class is class 1, her method 1. -/
namespace start1
open Jvm.ClassFile
def u (s : String) : CpInfo := .utf8 (stringToUtf16 s)
/-- a pool by its gaps: so many unusable entries, then the entry; so many at the end -/
def gap : Nat → List CpInfo → List CpInfo
  | 0, r => r
  | n + 1, r => .unusable :: gap n r
def poolList (es : List (Nat × CpInfo)) (last : Nat) : List CpInfo := es.foldr (fun e r => gap e.1 (e.2 :: r)) (gap last [])
def pool (es : List (Nat × CpInfo)) (last : Nat) : Array CpInfo := ⟨poolList es last⟩
def fileOf (pool : Array CpInfo) (this : Nat) (attrs : Array Attribute := #[]) (ms : Array MethodInfo := #[]) (fl : Nat := 33) (sup : Nat := 0) (ifs : Array Nat := #[]) (fds : Array FieldInfo := #[]) : ClassFile where
  minorVersion := 0
  majorVersion := 65
  constantPool := pool
  accessFlags := fl
  thisClass := this
  superClass := sup
  interfaces := ifs
  fields := fds
  methods := ms
  attributes := attrs
def plain (name : String) (sup : Option ClassId) : Class where
  name := name
  kind := .ordinary
  loader := none
  accessFlags := 33
  super := sup
  interfaces := #[]
  cf := none
  fields := #[]
  methods := #[]
  instanceTypes := #[]
  staticTypes := #[]
  resolved := #[]
  callSites := []
  init := .initialized
  statics := none
  mirror := none

def pool0 : Array CpInfo := pool [(5, u "<init>"), (0, u "()V"), (1, .class_ 10), (1, u "java/lang/Object")] 113

def k0m0 : Method := { name := "<init>", desc := "()V", sig := { parameters := [], returnType := none }, accessFlags := 1, code := none }
/-- java/lang/Object -/
def k0 : Class := { plain "java/lang/Object" none with
  accessFlags := 33
  interfaces := #[]
  cf := some (fileOf pool0 8 #[] #[{ accessFlags := 1, nameIndex := 5, descriptorIndex := 6, attributes := #[] }] 33 0 #[] #[])
  fields := #[]
  methods := #[k0m0]
  instanceTypes := #[]
  staticTypes := #[]
  resolved := Array.replicate 124 none
  statics := none }

def pool1 : Array CpInfo := pool [(2, .class_ 4), (1, u "java/lang/Object"), (0, u "<init>"), (0, u "()V"), (0, .class_ 8), (0, u "com/example/whyle/whyle/cfa/Relation"), (0, .fieldref 7 10), (0, .nameAndType 11 12), (0, u "EQUAL"), (0, u "Lcom/example/whyle/whyle/cfa/Relation;"), (0, .fieldref 7 14), (0, .nameAndType 15 12), (0, u "NOT_EQUAL"), (0, .fieldref 7 17), (0, .nameAndType 18 12), (0, u "LESS"), (0, .fieldref 7 20), (0, .nameAndType 21 12), (0, u "LESS_OR_EQUAL"), (0, .fieldref 7 23), (0, .nameAndType 24 12), (0, u "GREATER"), (0, .fieldref 7 26), (0, .nameAndType 27 12), (0, u "GREATER_OR_EQUAL"), (0, .integer 2147483647), (0, .methodref 7 30), (0, .nameAndType 31 32), (0, u "holds"), (0, u "(I)Z"), (0, .class_ 34), (0, u "com/example/whyle/whyle/cfa/RelationHoldsPinLaw"), (2, u "law"), (0, u "(II)Z")] 7

def k1m0 : Method := { name := "<init>", desc := "()V", sig := { parameters := [], returnType := none }, accessFlags := 1, code := none }
def k1c1 : Code := { maxStack := 4, maxLocals := 7, code := code, exceptionTable := #[], attributes := #[] }
def k1m1 : Method := { name := "law", desc := "(II)Z", sig := { parameters := [.int, .int], returnType := some .boolean }, accessFlags := 9, code := some k1c1 }
/-- com/example/whyle/whyle/cfa/RelationHoldsPinLaw -/
def k1 : Class := { plain "com/example/whyle/whyle/cfa/RelationHoldsPinLaw" (some 0) with
  accessFlags := 49
  interfaces := #[]
  cf := some (fileOf pool1 33 #[] #[{ accessFlags := 1, nameIndex := 5, descriptorIndex := 6, attributes := #[] }, { accessFlags := 9, nameIndex := 37, descriptorIndex := 38, attributes := #[] }] 49 2 #[] #[])
  fields := #[]
  methods := #[k1m0, k1m1]
  instanceTypes := #[]
  staticTypes := #[]
  resolved := Array.replicate 46 none
  statics := none }

def pool2 : Array CpInfo := pool [(1, .class_ 2), (0, u "java/lang/constant/Constable"), (0, .class_ 4), (0, u "java/lang/Object")] 6

/-- java/lang/constant/Constable -/
def k2 : Class := { plain "java/lang/constant/Constable" (some 0) with
  accessFlags := 1537
  interfaces := #[]
  cf := some (fileOf pool2 1 #[] #[] 1537 3 #[] #[])
  fields := #[]
  methods := #[]
  instanceTypes := #[]
  staticTypes := #[]
  resolved := Array.replicate 11 none
  statics := none }

def pool3 : Array CpInfo := pool [(1, .class_ 2), (0, u "java/lang/Comparable"), (0, .class_ 4), (0, u "java/lang/Object")] 7

/-- java/lang/Comparable -/
def k3 : Class := { plain "java/lang/Comparable" (some 0) with
  accessFlags := 1537
  interfaces := #[]
  cf := some (fileOf pool3 1 #[] #[] 1537 3 #[] #[])
  fields := #[]
  methods := #[]
  instanceTypes := #[]
  staticTypes := #[]
  resolved := Array.replicate 12 none
  statics := none }

def pool4 : Array CpInfo := pool [(1, .class_ 2), (0, u "java/io/Serializable"), (0, .class_ 4), (0, u "java/lang/Object")] 2

/-- java/io/Serializable -/
def k4 : Class := { plain "java/io/Serializable" (some 0) with
  accessFlags := 1537
  interfaces := #[]
  cf := some (fileOf pool4 1 #[] #[] 1537 3 #[] #[])
  fields := #[]
  methods := #[]
  instanceTypes := #[]
  staticTypes := #[]
  resolved := Array.replicate 7 none
  statics := none }

def pool5 : Array CpInfo := pool [(2, .class_ 4), (1, u "java/lang/Enum"), (0, u "name"), (0, u "Ljava/lang/String;"), (0, .fieldref 2 8), (0, .nameAndType 9 10), (0, u "ordinal"), (0, u "I"), (1, .class_ 14), (1, u "java/lang/Object"), (4, u "hash"), (86, .class_ 108), (1, u "java/lang/Enum$EnumDesc"), (2, .class_ 112), (0, u "java/lang/constant/Constable"), (0, .class_ 114), (0, u "java/lang/Comparable"), (0, .class_ 116), (0, u "java/io/Serializable"), (9, u "()I")] 77

def k5c0 : Code := { maxStack := 1, maxLocals := 1, code := jdk_37_method_2_code, exceptionTable := #[], attributes := #[] }
def k5m0 : Method := { name := "ordinal", desc := "()I", sig := { parameters := [], returnType := some .int }, accessFlags := 17, code := some k5c0 }
/-- java/lang/Enum -/
def k5 : Class := { plain "java/lang/Enum" (some 0) with
  accessFlags := 1057
  interfaces := #[2, 3, 4]
  cf := some (fileOf pool5 2 #[.nestMembers #[106]] #[{ accessFlags := 17, nameIndex := 9, descriptorIndex := 126, attributes := #[] }] 1057 12 #[111, 113, 115] #[{ accessFlags := 18, nameIndex := 5, descriptorIndex := 6, attributes := #[] }, { accessFlags := 18, nameIndex := 9, descriptorIndex := 10, attributes := #[] }, { accessFlags := 2, nameIndex := 19, descriptorIndex := 10, attributes := #[] }])
  fields := #[{ name := "name", type := (.object "java/lang/String"), accessFlags := 18, slot := 0, constantValue := 0 }, { name := "ordinal", type := .int, accessFlags := 18, slot := 1, constantValue := 0 }, { name := "hash", type := .int, accessFlags := 2, slot := 2, constantValue := 0 }]
  methods := #[k5m0]
  instanceTypes := #[(.object "java/lang/String"), .int, .int]
  staticTypes := #[]
  resolved := Array.replicate 204 none
  statics := none }

def pool6 : Array CpInfo := pool [(1, .class_ 2), (0, u "com/example/whyle/whyle/cfa/Relation"), (2, u "EQUAL"), (0, u "Lcom/example/whyle/whyle/cfa/Relation;"), (2, u "NOT_EQUAL"), (2, u "LESS"), (2, u "LESS_OR_EQUAL"), (2, u "GREATER"), (2, u "GREATER_OR_EQUAL"), (2, u "$VALUES"), (0, u "[Lcom/example/whyle/whyle/cfa/Relation;"), (6, .class_ 34), (1, u "java/lang/Enum"), (8, u "symbol"), (0, u "Ljava/lang/String;"), (10, .methodref 1 56), (0, .nameAndType 57 58), (0, u "ordinal"), (0, u "()I"), (41, u "holds"), (0, u "(I)Z")] 5

def k6c0 : Code := { maxStack := 4, maxLocals := 2, code := prog_62_method_8_code, exceptionTable := #[], attributes := #[] }
def k6m0 : Method := { name := "holds", desc := "(I)Z", sig := { parameters := [.int], returnType := some .boolean }, accessFlags := 1, code := some k6c0 }
/-- com/example/whyle/whyle/cfa/Relation -/
def k6 : Class := { plain "com/example/whyle/whyle/cfa/Relation" (some 5) with
  accessFlags := 16433
  interfaces := #[]
  cf := some (fileOf pool6 1 #[] #[{ accessFlags := 1, nameIndex := 100, descriptorIndex := 101, attributes := #[] }] 16433 32 #[] #[{ accessFlags := 16409, nameIndex := 5, descriptorIndex := 6, attributes := #[] }, { accessFlags := 16409, nameIndex := 9, descriptorIndex := 6, attributes := #[] }, { accessFlags := 16409, nameIndex := 12, descriptorIndex := 6, attributes := #[] }, { accessFlags := 16409, nameIndex := 15, descriptorIndex := 6, attributes := #[] }, { accessFlags := 16409, nameIndex := 18, descriptorIndex := 6, attributes := #[] }, { accessFlags := 16409, nameIndex := 21, descriptorIndex := 6, attributes := #[] }, { accessFlags := 18, nameIndex := 43, descriptorIndex := 44, attributes := #[] }, { accessFlags := 4122, nameIndex := 24, descriptorIndex := 25, attributes := #[] }])
  fields := #[{ name := "EQUAL", type := (.object "com/example/whyle/whyle/cfa/Relation"), accessFlags := 16409, slot := 0, constantValue := 0 }, { name := "NOT_EQUAL", type := (.object "com/example/whyle/whyle/cfa/Relation"), accessFlags := 16409, slot := 1, constantValue := 0 }, { name := "LESS", type := (.object "com/example/whyle/whyle/cfa/Relation"), accessFlags := 16409, slot := 2, constantValue := 0 }, { name := "LESS_OR_EQUAL", type := (.object "com/example/whyle/whyle/cfa/Relation"), accessFlags := 16409, slot := 3, constantValue := 0 }, { name := "GREATER", type := (.object "com/example/whyle/whyle/cfa/Relation"), accessFlags := 16409, slot := 4, constantValue := 0 }, { name := "GREATER_OR_EQUAL", type := (.object "com/example/whyle/whyle/cfa/Relation"), accessFlags := 16409, slot := 5, constantValue := 0 }, { name := "symbol", type := (.object "java/lang/String"), accessFlags := 18, slot := 3, constantValue := 0 }, { name := "$VALUES", type := (.array (.object "com/example/whyle/whyle/cfa/Relation")), accessFlags := 4122, slot := 6, constantValue := 0 }]
  methods := #[k6m0]
  instanceTypes := #[(.object "java/lang/String"), .int, .int, (.object "java/lang/String")]
  staticTypes := #[(.object "com/example/whyle/whyle/cfa/Relation"), (.object "com/example/whyle/whyle/cfa/Relation"), (.object "com/example/whyle/whyle/cfa/Relation"), (.object "com/example/whyle/whyle/cfa/Relation"), (.object "com/example/whyle/whyle/cfa/Relation"), (.object "com/example/whyle/whyle/cfa/Relation"), (.array (.object "com/example/whyle/whyle/cfa/Relation"))]
  resolved := Array.replicate 107 none
  statics := some 0 }

def pool7 : Array CpInfo := pool [(1, u "java/lang/Cloneable"), (0, .class_ 1), (0, u "java/lang/Object"), (0, .class_ 3)] 3

/-- java/lang/Cloneable -/
def k7 : Class := { plain "java/lang/Cloneable" (some 0) with
  accessFlags := 1537
  interfaces := #[]
  cf := some (fileOf pool7 2 #[] #[] 1537 4 #[] #[])
  fields := #[]
  methods := #[]
  instanceTypes := #[]
  staticTypes := #[]
  resolved := Array.replicate 8 none
  statics := none }

/-- the primitive byte -/
def k8 : Class := { plain "byte" none with kind := .primitive 'B', accessFlags := 0x411 }
/-- [B -/
def k9 : Class := { plain "[B" (some 0) with kind := .array 8 .byte, interfaces := #[7, 4], accessFlags := 1041 }

/-- the primitive int -/
def k10 : Class := { plain "int" none with kind := .primitive 'I', accessFlags := 0x411 }
/-- [I -/
def k11 : Class := { plain "[I" (some 0) with kind := .array 10 .int, interfaces := #[7, 4], accessFlags := 1041 }

/-- [Lcom/example/whyle/whyle/cfa/Relation; -/
def k12 : Class := { plain "[Lcom/example/whyle/whyle/cfa/Relation;" (some 0) with kind := .array 6 (.object "com/example/whyle/whyle/cfa/Relation"), interfaces := #[7, 4], accessFlags := 1041 }

def heap : Heap := #[{ cls := 6, slots := #[.ref 1, .ref 2, .ref 3, .ref 4, .ref 5, .ref 6, .null], vm := .statics 6 },
  { cls := 6, slots := #[.null, .int 0, .int 0, .null], vm := .none },
  { cls := 6, slots := #[.null, .int 1, .int 0, .null], vm := .none },
  { cls := 6, slots := #[.null, .int 2, .int 0, .null], vm := .none },
  { cls := 6, slots := #[.null, .int 3, .int 0, .null], vm := .none },
  { cls := 6, slots := #[.null, .int 4, .int 0, .null], vm := .none },
  { cls := 6, slots := #[.null, .int 5, .int 0, .null], vm := .none }]
def classes : Array Class := #[k0, k1, k2, k3, k4, k5, k6, k7, k8, k9, k10, k11, k12]
def interned : List (Array UInt16 × Addr) := []
def slotsUsed : Nat := 31
def theMethod : MethodId := ⟨1, 1⟩
def args0 : Array Value := #[.int 5, .int 3]
def aboutOver (below : List Frame) : State where
  vm := { classes := classes, interned := interned.toArray }
  heap := heap
  slotsUsed := slotsUsed
  threads := #[{ frames := .invoking theMethod args0 :: below }]
def below0 : List Frame := [.native { method := ⟨0, 0⟩, args := #[] }]
def about1 : State := aboutOver below0
def p0 : Program := .bare "" "" ""
def e0 : Env := launch0.env 0 0 0
theorem w_frames : about1.frames = Frame.invoking theMethod args0 :: below0 := rfl
set_option maxRecDepth 65536 in
theorem w_args : argsFit about1.vm theMethod args0 = true := by decide +kernel
set_option maxRecDepth 65536 in
theorem w_heap : heapFits about1 = true := by decide +kernel
set_option maxRecDepth 65536 in
theorem w_runnable : about1.curStatus? = some .runnable := by decide +kernel
set_option maxRecDepth 65536 in
theorem w_alone : about1.alone = true := by decide +kernel
set_option maxRecDepth 65536 in
theorem w_named : about1.methodNamed? x = some theMethod := by decide +kernel
set_option maxRecDepth 65536 in
theorem w_hears : about1.hears theMethod below0 = true := by decide +kernel
set_option maxRecDepth 65536 in
theorem w_ripe : about1.ripe theMethod args0 below0 = true := by decide +kernel
theorem w_running : about1.status = .running := rfl
set_option maxRecDepth 65536 in
theorem w_room : about1.hasRoom e0.platform room_1 = true :=
  launch0.hasRoom_least _ room_1 (by decide +kernel) (by decide +kernel) (by decide +kernel) (by decide +kernel) (by decide +kernel) (by decide +kernel)
theorem allAtoms_all (ts : List Jvm.Cond) (a : Array Jvm.Value) (st : Jvm.State) : (allAtoms ts).before a st = ts.all (fun c => c.before a st) := by
  induction ts with
  | nil => rfl
  | cons c t ih =>
    show (Jvm.Cond.and c (allAtoms t)).before a st = _
    rw [Jvm.Cond.before_and, ih, List.all_cons]
def words1 : List Jvm.Cond := Jvm.Cond.code x code maxLocals ret :: tables_1
/-- a 'code' word, met by the world's own term for the bytes: nothing is compared byte by byte -/
theorem code_word {y : MethodName} {bytes : ByteArray} {mx : Nat} {rt : Option FieldType} {a : Array Value} {s : State} {m : MethodId} {meth : Method} {c : Code} (h1 : s.methodNamed? y = some m) (h2 : s.vm.method? m = some meth) (h3 : meth.code = some c) (h4 : c.code = bytes)
    (h5 : (c.maxLocals == mx && c.exceptionTable.isEmpty && decide (c.maxStack ≤ mostOperands) && decide (meth.sig.returnType = rt) && !meth.locks && decide (parseMethodDescriptor y.desc = some meth.sig)) = true) : (Jvm.Cond.code y bytes mx rt).before a s = true := by
  simp only [Bool.and_eq_true, beq_iff_eq, Bool.not_eq_true', decide_eq_true_eq] at h5
  obtain ⟨⟨⟨⟨⟨g1, g2⟩, g3⟩, g4⟩, g5⟩, g6⟩ := h5
  simp [Cond.before, Cond.holds, Cond.value, h1, h2, h3, h4, g1, g2, g3, g4, g5, g6]
def isCode : Jvm.Cond → Bool
  | .code _ _ _ _ => true
  | _ => false
theorem all_split {L : List Jvm.Cond} {P : Jvm.Cond → Bool} (h1 : L.all (fun c => isCode c || P c) = true) (h2 : ∀ c ∈ L.filter isCode, P c = true) : L.all P = true := by
  refine List.all_eq_true.mpr fun c hc => ?_
  have h := List.all_eq_true.mp h1 c hc
  rcases Bool.eq_false_or_eq_true (isCode c) with hi | hi
  · exact h2 c (List.mem_filter.mpr ⟨hc, hi⟩)
  · simpa [hi] using h
set_option maxRecDepth 65536 in
theorem w_c0 : (Jvm.Cond.code x code maxLocals ret).before args0 about1 = true := code_word (m := ⟨1, 1⟩) (meth := k1m1) (c := k1c1) (by decide +kernel) rfl rfl rfl (by decide +kernel)
set_option maxRecDepth 65536 in
theorem w_c1 : (Jvm.Cond.code ({ cls := "com/example/whyle/whyle/cfa/Relation", name := "holds", desc := "(I)Z" } : Jvm.MethodName) prog_62_method_8_code (2 : Nat) (Option.some Jvm.ClassFile.FieldType.boolean)).before args0 about1 = true := code_word (m := ⟨6, 0⟩) (meth := k6m0) (c := k6c0) (by decide +kernel) rfl rfl rfl (by decide +kernel)
set_option maxRecDepth 65536 in
theorem w_c2 : (Jvm.Cond.code ({ cls := "java/lang/Enum", name := "ordinal", desc := "()I" } : Jvm.MethodName) jdk_37_method_2_code (1 : Nat) (Option.some Jvm.ClassFile.FieldType.int)).before args0 about1 = true := code_word (m := ⟨5, 0⟩) (meth := k5m0) (c := k5c0) (by decide +kernel) rfl rfl rfl (by decide +kernel)
def codes1 : List Jvm.Cond := [Jvm.Cond.code x code maxLocals ret, Jvm.Cond.code ({ cls := "com/example/whyle/whyle/cfa/Relation", name := "holds", desc := "(I)Z" } : Jvm.MethodName) prog_62_method_8_code (2 : Nat) (Option.some Jvm.ClassFile.FieldType.boolean), Jvm.Cond.code ({ cls := "java/lang/Enum", name := "ordinal", desc := "()I" } : Jvm.MethodName) jdk_37_method_2_code (1 : Nat) (Option.some Jvm.ClassFile.FieldType.int)]
set_option maxRecDepth 65536 in
theorem codes_eq : words1.filter isCode = codes1 := rfl
theorem w_codes : ∀ c ∈ words1.filter isCode, c.before args0 about1 = true := by
  rw [codes_eq]
  intro c hc
  simp only [codes1, List.mem_cons, List.not_mem_nil, or_false] at hc
  rcases hc with rfl | rfl | rfl
  · exact w_c0
  · exact w_c1
  · exact w_c2
set_option maxRecDepth 65536 in
theorem w_t1 : (words1.take 24).all (fun c => isCode c || c.before args0 about1) = true := by decide +kernel
set_option maxRecDepth 65536 in
theorem w_t2 : (words1.drop 24).all (fun c => isCode c || c.before args0 about1) = true := by decide +kernel
theorem w_tables : (allAtoms (Jvm.Cond.code x code maxLocals ret :: tables_1)).before args0 about1 = true := by
  rw [allAtoms_all]
  show words1.all (fun c => c.before args0 about1) = true
  refine all_split ?_ w_codes
  rw [← List.take_append_drop 24 words1, List.all_append, w_t1, w_t2]
  rfl
set_option maxRecDepth 65536 in
theorem w_case : (Jvm.Cond.and given_1 narrow_1).before args0 about1 = true := by decide +kernel
theorem w_applies : (headSpec (Jvm.Cond.code x code maxLocals ret :: tables_1) room_1).applies x e0.platform about1 = true :=
  (Spec.applies_iff w_frames).mpr ⟨w_running, w_runnable, w_alone, w_named, w_hears, w_ripe, w_room, w_tables⟩
theorem atStart : AtStart classFile x code maxLocals ret World_1 tables_1 room_1 Calls_1 rest_1 Pre_1 launch0 p0 e0 about1 theMethod args0 below0 :=
  ⟨lists_1, trivial, launch0.admits_env _ _ _, launch0.least_env, fairChoices_fair.cas, fairChoices_fair.clock, w_frames, w_args, w_heap, w_applies, trivial, trivial, w_case⟩
end start1
theorem witness_1 : WitnessClaimed_1 := ⟨start1.p0, start1.e0, start1.about1, start1.theMethod, start1.args0, start1.below0, start1.atStart⟩
end Jvm.Pilot.@@N@@
