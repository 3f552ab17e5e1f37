import JvmDerived
import JvmDerived.Pilot.@@N@@Statement
import JvmDerived.Pilot.@@N@@Code
set_option linter.unusedVariables false
set_option linter.unusedSimpArgs false
namespace Jvm.RoadKit
open Sem ClassFile Op Lib Jvm.Stand Jvm.Free Jvm.LawKit
section New
variable {p : Program} {l : Launch} {e : Env} {R : Room} {s : State} {m : MethodId} {args : Array Value} {below : List Frame} {meth : Method} {c : Code} {T : State} {locs : List Loc} {cells slots : Nat}
theorem retI (X : Stand p l e R s m args below meth c T locs cells slots) (hx : p.tables.exec = Jvm.exec) {pc : Nat} {Ls : Array Slot} {z : Int32} {rest : List Value} (hret : meth.sig.returnType = some .int) (hd : decode c.code pc = .ok (.ireturn, 1)) {fs : List Frame}
    (hl : ∀ (f : JFrame) (acts : List Action), f.method = m → f.locked = none → f.entered = [] → (doReturn e (T.setTop f) acts (some (.int z))).1 = T.setFrames fs) : Steps p.tables e below (T.setTop (mkF m pc Ls (.int z :: rest))) (T.setFrames fs) := by
  have hm' : T.vm.method? m = some meth := X.method'
  have hn : narrow .int (.int z) = .int z := rfl
  show Steps p.tables e below (T.setTop { method := m, pc := pc, locals := Ls, stack := _ :: rest, locked := none }) _
  jvm_step X.here [X.here.top, hx, hd, hm', hret, hn]
  first | (intro acts; rw [hl _ acts rfl rfl rfl]) | rw [hl _ _ rfl rfl rfl]
  exact Steps.refl _
end New
end Jvm.RoadKit
namespace Jvm.Pilot.@@N@@
open Jvm Jvm.ClassFile Sem Op Lib Jvm.Free Jvm.Stand Jvm.LawKit Jvm.RoadKit Bundle Jvm.Pilot.@@N@@.Jvm.D
theorem ww {a0 : Array Value} {Z : State} (hw : ∀ d ∈ tables_1, d.before a0 Z = true) (i : Nat) {d : Jvm.Cond} (h : tables_1[i]? = some d) : d.before a0 Z = true := hw d (List.mem_of_getElem? h)
abbrev vi (x : Int32) : Slot := .val (.int x)
abbrev vj (x : Int64) : Slot := .val (.long x)
abbrev vr (x : Addr) : Slot := .val (.ref x)
abbrev vn : Slot := .val .null
abbrev vu : Slot := .unset
abbrev xi (x : Int32) : Value := .int x
abbrev xj (x : Int64) : Value := .long x
abbrev xr (x : Addr) : Value := .ref x
abbrev own_S (p : Program) (e : Env) (below : List Frame) (T : State) (g : JFrame) (t : State) : Prop := Steps p.tables e below (T.setTop g) t
/-- a body's contract: at these arguments and this heap it returns as Q says -/
abbrev own_Met (l : Launch) (Z : State) (y : MethodName) (bytes : ByteArray) (maxL : Nat) (rt : Option FieldType) (rm : Room) (as' : Array Value) (h0 : Heap) (Qy : Option Value → Heap → List Loc → Prop) : Prop :=
  ∀ ws : List Jvm.Cond, MetFree l y (head1 (Jvm.Cond.code y bytes maxL rt :: ws) rm) (fun a U => a = as' ∧ Z.Warmed39 U.vm ∧ U.heap = h0) (fun _ _ _ _ _ => True) (fun _ U o U' => ∃ v L, o = .returned v ∧ Qy v U'.heap L ∧ FrameEnd U o U' L rm.cells rm.slots)
/-- it returns r and leaves the heap -/
def own_QR (r : Option Value) (h0 : Heap) (n0 : Nat) (v : Option Value) (h : Heap) (L : List Loc) : Prop := v = r ∧ Fr n0 L ∧ h = h0
/-- it returns r and writes nothing that stood at the start -/
def own_QL (r : Option Value) (n0 : Nat) (v : Option Value) (h : Heap) (L : List Loc) : Prop := v = r ∧ Fr n0 L
theorem own_le {Z : State} {n0 : Nat} {h : Heap} (O : Old Z n0 h) : n0 ≤ h.size := O.1 ▸ O.2.1
theorem own_fresh {Z : State} {n0 : Nat} {h : Heap} {a : Addr} (O : Old Z n0 h) (g : a = h.size) : n0 ≤ a := g ▸ own_le O
theorem own_fld {s : State} {args : Array Value} {t : Term} {C n d : String} {a : Addr} {k : Int32} (ht : t.eval args s none [] s = some (.ref a)) (h : (Jvm.Cond.eq (.field t C n d) (.int k)).value args s none s [] = some true) : Fld s s.heap a C n d (.int k) := by
  refine Fld.start ?_
  simp only [Cond.value, Term.eval, ht] at h
  cases hv : s.fieldOf? a C n d with
  | none => simp [hv] at h
  | some v => cases v <;> simp [hv] at h; subst h; rfl
theorem own_fldN {s : State} {args : Array Value} {t : Term} {C n d : String} {a : Addr} (ht : t.eval args s none [] s = some (.ref a)) (h : (Jvm.Cond.eq (.field t C n d) .null).value args s none s [] = some true) : Fld s s.heap a C n d .null :=
  Fld.start ((fld_at ht).symm.trans (null_v h))
theorem own_fldX {s : State} {args : Array Value} {t : Term} {C n d K : String} {a : Addr} (ht : t.eval args s none [] s = some (.ref a)) (h : (Jvm.Cond.exactly (.field t C n d) K).value args s none s [] = some true) : ∃ b, Fld s s.heap a C n d (.ref b) ∧ Exa s s.heap b K := by
  obtain ⟨b, eb⟩ := exa_v h
  exact ⟨b, Fld.start ((fld_at ht).symm.trans eb), Exa.start eb h⟩
theorem own_len {s : State} {args : Array Value} {t : Term} {a : Addr} {cl : Cell} {ty : FieldType} {k : Int32} {k' : Nat} (ht : t.eval args s none [] s = some (.ref a)) (A : Arr s s.heap a cl ty) (h : (Jvm.Cond.eq (.length t) (.int k)).value args s none s [] = some true) (hk : k.toInt = k') : cl.slots.size = k' := by
  obtain ⟨v, hv⟩ : ∃ v, (Term.length t).eval args s none [] s = some v := by
    cases hq : (Term.length t).eval args s none [] s with
    | none => simp [Cond.value, hq] at h
    | some v => exact ⟨v, rfl⟩
  have ha : s.arrayAt? a = some cl := Arr.fin (Vm.Alike.refl _) A
  by_cases hl : cl.slots.size < 2 ^ 31
  · rw [len_f ht ha hl] at hv
    have h2 := len_f ht ha hl
    have h3 : cl.slots.size.toInt32 = k := gotT (Cond.eq_ints h2 (Term.int_eval k)) h
    have h4 := len_toInt hl
    rw [h3, hk] at h4
    omega
  · simp [Term.eval, ht, ha, hl] at hv
theorem own_ref {x y : Addr} (h : x ≠ y) : decide ((Value.ref x : Value) = .ref y) = false := by simp [h]
theorem own_mask (x : Int32) : 0 ≤ (x &&& (2147483647 : Int32)).toInt := by
  have := c_mask x 2147483647 31 (by decide) (by decide); omega
def own_St (Z : State) (u0 u1 u2 u3 u4 u5 : Addr) : Prop := (Sta Z Z.heap "com/example/whyle/whyle/cfa/Relation" "EQUAL" "Lcom/example/whyle/whyle/cfa/Relation;" (.ref u0)) ∧ (Exa Z Z.heap u0 "com/example/whyle/whyle/cfa/Relation") ∧ (Sta Z Z.heap "com/example/whyle/whyle/cfa/Relation" "NOT_EQUAL" "Lcom/example/whyle/whyle/cfa/Relation;" (.ref u1)) ∧ (Exa Z Z.heap u1 "com/example/whyle/whyle/cfa/Relation") ∧ (Sta Z Z.heap "com/example/whyle/whyle/cfa/Relation" "GREATER" "Lcom/example/whyle/whyle/cfa/Relation;" (.ref u2)) ∧ (Exa Z Z.heap u2 "com/example/whyle/whyle/cfa/Relation") ∧ (Sta Z Z.heap "com/example/whyle/whyle/cfa/Relation" "LESS" "Lcom/example/whyle/whyle/cfa/Relation;" (.ref u3)) ∧ (Exa Z Z.heap u3 "com/example/whyle/whyle/cfa/Relation") ∧ (Sta Z Z.heap "com/example/whyle/whyle/cfa/Relation" "LESS_OR_EQUAL" "Lcom/example/whyle/whyle/cfa/Relation;" (.ref u4)) ∧ (Exa Z Z.heap u4 "com/example/whyle/whyle/cfa/Relation") ∧ (Sta Z Z.heap "com/example/whyle/whyle/cfa/Relation" "GREATER_OR_EQUAL" "Lcom/example/whyle/whyle/cfa/Relation;" (.ref u5)) ∧ (Exa Z Z.heap u5 "com/example/whyle/whyle/cfa/Relation") ∧ (Fld Z Z.heap u0 "java/lang/Enum" "ordinal" "I" (.int (0 : Int32))) ∧ (Fld Z Z.heap u1 "java/lang/Enum" "ordinal" "I" (.int (1 : Int32))) ∧ (Fld Z Z.heap u2 "java/lang/Enum" "ordinal" "I" (.int (4 : Int32))) ∧ (Fld Z Z.heap u3 "java/lang/Enum" "ordinal" "I" (.int (2 : Int32))) ∧ (Fld Z Z.heap u4 "java/lang/Enum" "ordinal" "I" (.int (3 : Int32))) ∧ (Fld Z Z.heap u5 "java/lang/Enum" "ordinal" "I" (.int (5 : Int32)))
theorem own_S_u0 {Z : State} {u0 u1 u2 u3 u4 u5 : Addr} (G : own_St Z u0 u1 u2 u3 u4 u5) : Sta Z Z.heap "com/example/whyle/whyle/cfa/Relation" "EQUAL" "Lcom/example/whyle/whyle/cfa/Relation;" (.ref u0) := G.1
theorem own_X_u0 {Z : State} {u0 u1 u2 u3 u4 u5 : Addr} (G : own_St Z u0 u1 u2 u3 u4 u5) : Exa Z Z.heap u0 "com/example/whyle/whyle/cfa/Relation" := G.2.1
theorem own_S_u1 {Z : State} {u0 u1 u2 u3 u4 u5 : Addr} (G : own_St Z u0 u1 u2 u3 u4 u5) : Sta Z Z.heap "com/example/whyle/whyle/cfa/Relation" "NOT_EQUAL" "Lcom/example/whyle/whyle/cfa/Relation;" (.ref u1) := G.2.2.1
theorem own_X_u1 {Z : State} {u0 u1 u2 u3 u4 u5 : Addr} (G : own_St Z u0 u1 u2 u3 u4 u5) : Exa Z Z.heap u1 "com/example/whyle/whyle/cfa/Relation" := G.2.2.2.1
theorem own_S_u2 {Z : State} {u0 u1 u2 u3 u4 u5 : Addr} (G : own_St Z u0 u1 u2 u3 u4 u5) : Sta Z Z.heap "com/example/whyle/whyle/cfa/Relation" "GREATER" "Lcom/example/whyle/whyle/cfa/Relation;" (.ref u2) := G.2.2.2.2.1
theorem own_X_u2 {Z : State} {u0 u1 u2 u3 u4 u5 : Addr} (G : own_St Z u0 u1 u2 u3 u4 u5) : Exa Z Z.heap u2 "com/example/whyle/whyle/cfa/Relation" := G.2.2.2.2.2.1
theorem own_S_u3 {Z : State} {u0 u1 u2 u3 u4 u5 : Addr} (G : own_St Z u0 u1 u2 u3 u4 u5) : Sta Z Z.heap "com/example/whyle/whyle/cfa/Relation" "LESS" "Lcom/example/whyle/whyle/cfa/Relation;" (.ref u3) := G.2.2.2.2.2.2.1
theorem own_X_u3 {Z : State} {u0 u1 u2 u3 u4 u5 : Addr} (G : own_St Z u0 u1 u2 u3 u4 u5) : Exa Z Z.heap u3 "com/example/whyle/whyle/cfa/Relation" := G.2.2.2.2.2.2.2.1
theorem own_S_u4 {Z : State} {u0 u1 u2 u3 u4 u5 : Addr} (G : own_St Z u0 u1 u2 u3 u4 u5) : Sta Z Z.heap "com/example/whyle/whyle/cfa/Relation" "LESS_OR_EQUAL" "Lcom/example/whyle/whyle/cfa/Relation;" (.ref u4) := G.2.2.2.2.2.2.2.2.1
theorem own_X_u4 {Z : State} {u0 u1 u2 u3 u4 u5 : Addr} (G : own_St Z u0 u1 u2 u3 u4 u5) : Exa Z Z.heap u4 "com/example/whyle/whyle/cfa/Relation" := G.2.2.2.2.2.2.2.2.2.1
theorem own_S_u5 {Z : State} {u0 u1 u2 u3 u4 u5 : Addr} (G : own_St Z u0 u1 u2 u3 u4 u5) : Sta Z Z.heap "com/example/whyle/whyle/cfa/Relation" "GREATER_OR_EQUAL" "Lcom/example/whyle/whyle/cfa/Relation;" (.ref u5) := G.2.2.2.2.2.2.2.2.2.2.1
theorem own_X_u5 {Z : State} {u0 u1 u2 u3 u4 u5 : Addr} (G : own_St Z u0 u1 u2 u3 u4 u5) : Exa Z Z.heap u5 "com/example/whyle/whyle/cfa/Relation" := G.2.2.2.2.2.2.2.2.2.2.2.1
theorem own_F_u0_ordinal {Z : State} {u0 u1 u2 u3 u4 u5 : Addr} (G : own_St Z u0 u1 u2 u3 u4 u5) : Fld Z Z.heap u0 "java/lang/Enum" "ordinal" "I" (.int (0 : Int32)) := G.2.2.2.2.2.2.2.2.2.2.2.2.1
theorem own_F_u1_ordinal {Z : State} {u0 u1 u2 u3 u4 u5 : Addr} (G : own_St Z u0 u1 u2 u3 u4 u5) : Fld Z Z.heap u1 "java/lang/Enum" "ordinal" "I" (.int (1 : Int32)) := G.2.2.2.2.2.2.2.2.2.2.2.2.2.1
theorem own_F_u2_ordinal {Z : State} {u0 u1 u2 u3 u4 u5 : Addr} (G : own_St Z u0 u1 u2 u3 u4 u5) : Fld Z Z.heap u2 "java/lang/Enum" "ordinal" "I" (.int (4 : Int32)) := G.2.2.2.2.2.2.2.2.2.2.2.2.2.2.1
theorem own_F_u3_ordinal {Z : State} {u0 u1 u2 u3 u4 u5 : Addr} (G : own_St Z u0 u1 u2 u3 u4 u5) : Fld Z Z.heap u3 "java/lang/Enum" "ordinal" "I" (.int (2 : Int32)) := G.2.2.2.2.2.2.2.2.2.2.2.2.2.2.2.1
theorem own_F_u4_ordinal {Z : State} {u0 u1 u2 u3 u4 u5 : Addr} (G : own_St Z u0 u1 u2 u3 u4 u5) : Fld Z Z.heap u4 "java/lang/Enum" "ordinal" "I" (.int (3 : Int32)) := G.2.2.2.2.2.2.2.2.2.2.2.2.2.2.2.2.1
theorem own_F_u5_ordinal {Z : State} {u0 u1 u2 u3 u4 u5 : Addr} (G : own_St Z u0 u1 u2 u3 u4 u5) : Fld Z Z.heap u5 "java/lang/Enum" "ordinal" "I" (.int (5 : Int32)) := G.2.2.2.2.2.2.2.2.2.2.2.2.2.2.2.2.2
theorem own_rem6 (x : Int32) : ((x &&& (2147483647 : Int32)) - ((x &&& (2147483647 : Int32)) / (6 : Int32)) * (6 : Int32)) = (0 : Int32) ∨ ((x &&& (2147483647 : Int32)) - ((x &&& (2147483647 : Int32)) / (6 : Int32)) * (6 : Int32)) = (1 : Int32) ∨ ((x &&& (2147483647 : Int32)) - ((x &&& (2147483647 : Int32)) / (6 : Int32)) * (6 : Int32)) = (2 : Int32) ∨ ((x &&& (2147483647 : Int32)) - ((x &&& (2147483647 : Int32)) / (6 : Int32)) * (6 : Int32)) = (3 : Int32) ∨ ((x &&& (2147483647 : Int32)) - ((x &&& (2147483647 : Int32)) / (6 : Int32)) * (6 : Int32)) = (4 : Int32) ∨ ((x &&& (2147483647 : Int32)) - ((x &&& (2147483647 : Int32)) / (6 : Int32)) * (6 : Int32)) = (5 : Int32) := by
  have h0 := own_mask x
  have h1 := Jvm.LawKit.rem_toInt (x &&& (2147483647 : Int32)) (6 : Int32)
  have h2 : ((6 : Int32)).toInt = 6 := by decide
  rw [h2, Int.tmod_eq_emod_of_nonneg h0] at h1
  have h3 : ((x &&& (2147483647 : Int32)) - ((x &&& (2147483647 : Int32)) / (6 : Int32)) * (6 : Int32)).toInt = 0 ∨ ((x &&& (2147483647 : Int32)) - ((x &&& (2147483647 : Int32)) / (6 : Int32)) * (6 : Int32)).toInt = 1 ∨ ((x &&& (2147483647 : Int32)) - ((x &&& (2147483647 : Int32)) / (6 : Int32)) * (6 : Int32)).toInt = 2 ∨ ((x &&& (2147483647 : Int32)) - ((x &&& (2147483647 : Int32)) / (6 : Int32)) * (6 : Int32)).toInt = 3 ∨ ((x &&& (2147483647 : Int32)) - ((x &&& (2147483647 : Int32)) / (6 : Int32)) * (6 : Int32)).toInt = 4 ∨ ((x &&& (2147483647 : Int32)) - ((x &&& (2147483647 : Int32)) / (6 : Int32)) * (6 : Int32)).toInt = 5 := by omega
  rcases h3 with h | h | h | h | h | h
  · exact Or.inl (Int32.toInt_inj.mp (h.trans (by decide)))
  · exact Or.inr <| Or.inl (Int32.toInt_inj.mp (h.trans (by decide)))
  · exact Or.inr <| Or.inr <| Or.inl (Int32.toInt_inj.mp (h.trans (by decide)))
  · exact Or.inr <| Or.inr <| Or.inr <| Or.inl (Int32.toInt_inj.mp (h.trans (by decide)))
  · exact Or.inr <| Or.inr <| Or.inr <| Or.inr <| Or.inl (Int32.toInt_inj.mp (h.trans (by decide)))
  · exact Or.inr <| Or.inr <| Or.inr <| Or.inr <| Or.inr <| (Int32.toInt_inj.mp (h.trans (by decide)))
theorem own_mask1 (x : Int32) : (x &&& (1 : Int32)) = (0 : Int32) ∨ (x &&& (1 : Int32)) = (1 : Int32) := by
  have h1 := c_mask x 1 1 (by decide) (by decide)
  have h3 : (x &&& (1 : Int32)).toInt = 0 ∨ (x &&& (1 : Int32)).toInt = 1 := by omega
  rcases h3 with h | h
  · exact Or.inl (Int32.toInt_inj.mp (h.trans (by decide)))
  · exact Or.inr <| (Int32.toInt_inj.mp (h.trans (by decide)))
theorem own_tri (p2 p3 : Int32) : ((if_icmp.holds .ge p2 p3 = false) ∧ (if_icmp.holds .ge p3 p2 = true) ∧ (if_icmp.holds .ne p3 p2 = true)) ∨ ((if_icmp.holds .ge p2 p3 = true) ∧ (if_icmp.holds .ne p2 p3 = false) ∧ (if_icmp.holds .ge p3 p2 = true) ∧ (if_icmp.holds .ne p3 p2 = false)) ∨ ((if_icmp.holds .ge p2 p3 = true) ∧ (if_icmp.holds .ne p2 p3 = true) ∧ (if_icmp.holds .ge p3 p2 = false)) := by
  by_cases h1 : p2 < p3
  · have h2 : ¬ p3 < p2 := by rw [Int32.lt_iff_toInt_lt] at *; omega
    have h3 : ¬ p3 = p2 := fun h => by subst h; exact h2 h1
    exact Or.inl ⟨(tlt h1).2.1, (flt h2).2.1, (feq h3).2⟩
  · by_cases h2 : p2 = p3
    · have h3 : ¬ p3 < p2 := by subst h2; exact h1
      exact Or.inr (Or.inl ⟨(flt h1).2.1, (teq h2).2, (flt h3).2.1, (teq h2.symm).2⟩)
    · have h3 : p3 < p2 := by
        have := mt Int32.toInt_inj.mp h2
        rw [Int32.lt_iff_toInt_lt] at *; omega
      exact Or.inr (Or.inr ⟨(flt h1).2.1, (feq h2).2, (tlt h3).2.1⟩)
theorem d1_0 : decode method_2_code 0 = .ok (.iload_n 0, 1) := by decide +kernel
theorem d1_1 : decode method_2_code 1 = .ok (.ldc 7, 2) := by decide +kernel
theorem d1_3 : decode method_2_code 3 = .ok (.iand, 1) := by decide +kernel
theorem d1_4 : decode method_2_code 4 = .ok (.bipush 6, 2) := by decide +kernel
theorem d1_6 : decode method_2_code 6 = .ok (.irem, 1) := by decide +kernel
theorem d1_7 : decode method_2_code 7 = .ok (.istore_n 1, 1) := by decide +kernel
theorem d1_8 : decode method_2_code 8 = .ok (.iload_n 1, 1) := by decide +kernel
theorem d1_9 : decode method_2_code 9 = .ok (.ifCond .ne 7, 3) := by decide +kernel
theorem d1_12 : decode method_2_code 12 = .ok (.getstatic 8, 3) := by decide +kernel
theorem d1_15 : decode method_2_code 15 = .ok (.areturn, 1) := by decide +kernel
abbrev Y0 : MethodName := (⟨"com/example/whyle/whyle/cfa/RelationConversePinLaw", "pick", "(I)Lcom/example/whyle/whyle/cfa/Relation;"⟩ : MethodName)
theorem pn0 : plainName "com/example/whyle/whyle/cfa/RelationConversePinLaw" = true := by first | (simp [plainName, overriddenIn]; done) | decide +kernel
theorem ef_own_c0_pick (m : MethodId) (u0 u1 u2 u3 u4 u5 : Addr) (p1 : Int32) : entryFrame m #[xi p1] 2 = (mkF m 0 #[vi p1, vu] []) := by first | (simp [entryFrame, mkF, argsToLocals, Value.category]; done) | rfl
set_option maxRecDepth 65536 in
set_option maxHeartbeats 40000000 in
theorem own_c0_pick (l : Launch) (Z : State) (a0 : Array Value) (hw : ∀ d ∈ tables_1, d.before a0 Z = true) (u0 u1 u2 u3 u4 u5 : Addr) (G : own_St Z u0 u1 u2 u3 u4 u5) (p1 : Int32) (as8 : ((p1 &&& (2147483647 : Int32)) - ((p1 &&& (2147483647 : Int32)) / (6 : Int32)) * (6 : Int32)) = (0 : Int32)) (h0 : Heap) (n0 : Nat) (O0 : Old Z n0 h0) : own_Met l Z Y0 method_2_code 2 (some (.object "com/example/whyle/whyle/cfa/Relation")) ({ frames := 0, cells := 0, slots := 0, locals := 0 } : Room) #[xi p1] h0 (own_QR (some (xr u0)) h0 n0) := by
  intro ws
  refine MetFree.of_bodySF (plainFor_of_name pn0) hisR ?_
  intro p e s m args below meth c s₁ Bd hml0 hP hK
  obtain ⟨rfl, hZ, hh⟩ := hP
  have hx := Bd.exec
  have hby := Bd.bytes
  have hml : c.maxLocals = 2 := hml0
  have hown : s.vm.findClass "com/example/whyle/whyle/cfa/RelationConversePinLaw" = some m.cls := findClass_of_methodNamed Bd.named
  have hnm := (name_of_methodNamed Bd.named Bd.method).1
  have X0 : Stand p l e ({ frames := 0, cells := 0, slots := 0, locals := 0 } : Room) s m #[xi p1] below meth c s₁ [] 0 0 := Stand.of_body Bd
  have e0 : s₁.heap = h0 := by rw [← hh, Bd.state]; rfl
  have N0 := Fr.nil n0
  have pre0 : ∀ t, Steps p.tables e below (s₁.setTop (mkF m 0 #[vi p1, vu] [])) t → Steps p.tables e below (s₁.setTop (entryFrame m #[xi p1] 2)) t := fun t st => castTop (ef_own_c0_pick m u0 u1 u2 u3 u4 u5 p1) st
  obtain ⟨T1, X1, e1, st1⟩ := getS2 X0 hx hZ hown (host := "") (Or.inl (ww hw 5 rfl)) Via.refl e0 ((own_S_u0 G).ext O0.2) (g := (mkF m 12 #[vi p1, vi (0 : Int32)] [])) rfl (hb hby d1_12)
  obtain ⟨fs, hr, hrun, hended, hW, hsame⟩ := X1.leave (v := some (xr u0)) (fun h => by rw [Bd.returns] at h; cases h)
  refine ⟨_, _, pre0 _ ?_, hrun, hended, _, _, rfl, ?_, ⟨_, rfl⟩, hW, hsame.mono (by decide) (by decide)⟩
  · show own_S p e below s₁ (mkF m 0 #[vi p1, vu] []) _
    refine XS.iloadN X0.here hx rfl (hb hby d1_0) rfl ?_
    show own_S p e below s₁ (mkF m 1 #[vi p1, vu] [xi p1]) _
    refine X0.ldcI hx hown (mvT hZ (ww hw 4 rfl)) (g := (mkF m 1 #[vi p1, vu] [xi p1])) rfl (hb hby d1_1) ?_
    show own_S p e below s₁ (mkF m 3 #[vi p1, vu] [xi (2147483647 : Int32), xi p1]) _
    refine XS.iand X0.here hx rfl (hb hby d1_3) rfl ?_
    show own_S p e below s₁ (mkF m 4 #[vi p1, vu] [xi (p1 &&& (2147483647 : Int32))]) _
    show own_S p e below s₁ (mkF m 4 #[vi p1, vu] [xi (p1 &&& (2147483647 : Int32))]) _
    refine XS.bipush X0.here hx rfl (hb hby d1_4) ?_
    show own_S p e below s₁ (mkF m 6 #[vi p1, vu] [xi (6 : Int32), xi (p1 &&& (2147483647 : Int32))]) _
    refine XS.irem X0.here hx rfl (hb hby d1_6) rfl (by decide) ?_
    show own_S p e below s₁ (mkF m 7 #[vi p1, vu] [xi ((p1 &&& (2147483647 : Int32)) - ((p1 &&& (2147483647 : Int32)) / (6 : Int32)) * (6 : Int32))]) _
    refine castTop (show (mkF m 7 #[vi p1, vu] [xi ((p1 &&& (2147483647 : Int32)) - ((p1 &&& (2147483647 : Int32)) / (6 : Int32)) * (6 : Int32))]) = (mkF m 7 #[vi p1, vu] [xi (0 : Int32)]) from by rw [as8]) ?_
    show own_S p e below s₁ (mkF m 7 #[vi p1, vu] [xi (0 : Int32)]) _
    refine XS.istoreN X0.here hx rfl (hb hby d1_7) rfl (l' := #[vi p1, vi (0 : Int32)]) rfl ?_
    show own_S p e below s₁ (mkF m 8 #[vi p1, vi (0 : Int32)] []) _
    refine XS.iloadN X0.here hx rfl (hb hby d1_8) rfl ?_
    show own_S p e below s₁ (mkF m 9 #[vi p1, vi (0 : Int32)] [xi (0 : Int32)]) _
    refine XS.ifNo X0.here hx rfl (hb hby d1_9) rfl (by decide) ?_
    show own_S p e below s₁ (mkF m 12 #[vi p1, vi (0 : Int32)] []) _
    refine st1 _ ?_
    show own_S p e below T1 (mkF m 15 #[vi p1, vi (0 : Int32)] [xr u0]) _
    exact X1.areturnOut hx rfl Bd.returns rfl (hb hby d1_15) hr
  · exact ⟨rfl, N0, e1⟩
theorem pd0 : parseMethodDescriptor "(I)Lcom/example/whyle/whyle/cfa/Relation;" = some ⟨[.int], some (.object "com/example/whyle/whyle/cfa/Relation")⟩ := by decide +kernel
theorem d2_0 : decode prog_62_method_7_code 0 = .ok (.aload_n 0, 1) := by decide +kernel
theorem d2_1 : decode prog_62_method_7_code 1 = .ok (.invokevirtual 55, 3) := by decide +kernel
theorem d3_0 : decode jdk_37_method_2_code 0 = .ok (.aload_n 0, 1) := by decide +kernel
theorem d3_1 : decode jdk_37_method_2_code 1 = .ok (.getfield 7, 3) := by decide +kernel
theorem d3_4 : decode jdk_37_method_2_code 4 = .ok (.ireturn, 1) := by decide +kernel
abbrev Y1 : MethodName := (⟨"java/lang/Enum", "ordinal", "()I"⟩ : MethodName)
theorem pn1 : plainName "java/lang/Enum" = true := by first | (simp [plainName, overriddenIn]; done) | decide +kernel
theorem ef_own_c1_ordinal (m : MethodId) (u0 u1 u2 u3 u4 u5 : Addr) : entryFrame m #[xr u0] 1 = (mkF m 0 #[vr u0] []) := by first | (simp [entryFrame, mkF, argsToLocals, Value.category]; done) | rfl
set_option maxRecDepth 65536 in
set_option maxHeartbeats 40000000 in
theorem own_c1_ordinal (l : Launch) (Z : State) (a0 : Array Value) (hw : ∀ d ∈ tables_1, d.before a0 Z = true) (u0 u1 u2 u3 u4 u5 : Addr) (G : own_St Z u0 u1 u2 u3 u4 u5) (h0 : Heap) (n0 : Nat) (O0 : Old Z n0 h0) : own_Met l Z Y1 jdk_37_method_2_code 1 (some .int) ({ frames := 0, cells := 0, slots := 0, locals := 0 } : Room) #[xr u0] h0 (own_QR (some (xi (0 : Int32))) h0 n0) := by
  intro ws
  refine MetFree.of_bodySF (plainFor_of_name pn1) hisR ?_
  intro p e s m args below meth c s₁ Bd hml0 hP hK
  obtain ⟨rfl, hZ, hh⟩ := hP
  have hx := Bd.exec
  have hby := Bd.bytes
  have hml : c.maxLocals = 1 := hml0
  have hown : s.vm.findClass "java/lang/Enum" = some m.cls := findClass_of_methodNamed Bd.named
  have hnm := (name_of_methodNamed Bd.named Bd.method).1
  have X0 : Stand p l e ({ frames := 0, cells := 0, slots := 0, locals := 0 } : Room) s m #[xr u0] below meth c s₁ [] 0 0 := Stand.of_body Bd
  have e0 : s₁.heap = h0 := by rw [← hh, Bd.state]; rfl
  have N0 := Fr.nil n0
  have pre0 : ∀ t, Steps p.tables e below (s₁.setTop (mkF m 0 #[vr u0] [])) t → Steps p.tables e below (s₁.setTop (entryFrame m #[xr u0] 1)) t := fun t st => castTop (ef_own_c1_ordinal m u0 u1 u2 u3 u4 u5) st
  obtain ⟨T1, X1, e1, st1⟩ := getF X0 hx hZ hown (host := "") (Or.inl (ww hw 20 rfl)) Via.refl e0 ((own_F_u0_ordinal G).ext O0.2) (g := (mkF m 1 #[vr u0] [xr u0])) rfl rfl (hb hby d3_1)
  obtain ⟨fs, hr, hrun, hended, hW, hsame⟩ := X1.leave (v := some (xi (0 : Int32))) (fun h => by rw [Bd.returns] at h; cases h)
  refine ⟨_, _, pre0 _ ?_, hrun, hended, _, _, rfl, ?_, ⟨_, rfl⟩, hW, hsame.mono (by decide) (by decide)⟩
  · show own_S p e below s₁ (mkF m 0 #[vr u0] []) _
    refine XS.aloadN X0.here hx rfl (hb hby d3_0) rfl rfl ?_
    show own_S p e below s₁ (mkF m 1 #[vr u0] [xr u0]) _
    refine st1 _ ?_
    show own_S p e below T1 (mkF m 4 #[vr u0] [xi (0 : Int32)]) _
    exact retI X1 hx Bd.returns (hb hby d3_4) hr
  · exact ⟨rfl, N0, e1⟩
theorem pd1 : parseMethodDescriptor "()I" = some ⟨[], some .int⟩ := by decide +kernel
abbrev Y2 : MethodName := (⟨"com/example/whyle/whyle/cfa/Relation", "ordinal", "()I"⟩ : MethodName)
theorem d2_4 : decode prog_62_method_7_code 4 = .ok (.tableswitch 40 0 5 #[50, 56, 62, 68, 74, 80], 40) := by decide +kernel
theorem d2_54 : decode prog_62_method_7_code 54 = .ok (.getstatic 3, 3) := by decide +kernel
theorem d2_57 : decode prog_62_method_7_code 57 = .ok (.goto 30, 3) := by decide +kernel
theorem d2_87 : decode prog_62_method_7_code 87 = .ok (.areturn, 1) := by decide +kernel
abbrev Y3 : MethodName := (⟨"com/example/whyle/whyle/cfa/Relation", "converse", "()Lcom/example/whyle/whyle/cfa/Relation;"⟩ : MethodName)
theorem pn2 : plainName "com/example/whyle/whyle/cfa/Relation" = true := by first | (simp [plainName, overriddenIn]; done) | decide +kernel
theorem ef_own_c1_converse (m : MethodId) (u0 u1 u2 u3 u4 u5 : Addr) : entryFrame m #[xr u0] 1 = (mkF m 0 #[vr u0] []) := by first | (simp [entryFrame, mkF, argsToLocals, Value.category]; done) | rfl
set_option maxRecDepth 65536 in
set_option maxHeartbeats 40000000 in
theorem own_c1_converse (l : Launch) (Z : State) (a0 : Array Value) (hw : ∀ d ∈ tables_1, d.before a0 Z = true) (u0 u1 u2 u3 u4 u5 : Addr) (G : own_St Z u0 u1 u2 u3 u4 u5) (h0 : Heap) (n0 : Nat) (O0 : Old Z n0 h0) : own_Met l Z Y3 prog_62_method_7_code 1 (some (.object "com/example/whyle/whyle/cfa/Relation")) ({ frames := 1, cells := 0, slots := 0, locals := 12 } : Room) #[xr u0] h0 (own_QR (some (xr u0)) h0 n0) := by
  intro ws
  refine MetFree.of_bodySF (plainFor_of_name pn2) hisR ?_
  intro p e s m args below meth c s₁ Bd hml0 hP hK
  obtain ⟨rfl, hZ, hh⟩ := hP
  have hx := Bd.exec
  have hby := Bd.bytes
  have hml : c.maxLocals = 1 := hml0
  have hown : s.vm.findClass "com/example/whyle/whyle/cfa/Relation" = some m.cls := findClass_of_methodNamed Bd.named
  have hnm := (name_of_methodNamed Bd.named Bd.method).1
  have X0 : Stand p l e ({ frames := 1, cells := 0, slots := 0, locals := 12 } : Room) s m #[xr u0] below meth c s₁ [] 0 0 := Stand.of_body Bd
  have e0 : s₁.heap = h0 := by rw [← hh, Bd.state]; rfl
  have N0 := Fr.nil n0
  have pre0 : ∀ t, Steps p.tables e below (s₁.setTop (mkF m 0 #[vr u0] [])) t → Steps p.tables e below (s₁.setTop (entryFrame m #[xr u0] 1)) t := fun t st => castTop (ef_own_c1_converse m u0 u1 u2 u3 u4 u5) st
  obtain ⟨cq1, kq1, qa1, qb1, qc1⟩ := isOf hZ e0 ((own_X_u0 G).ext O0.2)
  obtain ⟨_, _, ⟨T1, L1, k1, n1⟩, -, X1, ⟨Lc1, hQ1, l1, y1, z1⟩, st1⟩ := X0.virtualBackUp hx (x := Y2) (y := Y1) hown (mvT hZ (ww hw 13 rfl)) (mvT hZ (ww hw 14 rfl)) (mvT hZ (ww hw 15 rfl)) (by decide) (mvT hZ (ww hw 17 rfl)) (mvT hZ (ww hw 16 rfl)) (backOf (W := 0) (own_c1_ordinal l Z a0 hw u0 u1 u2 u3 u4 u5 G h0 n0 O0 []) hZ (ww hw 19 rfl) (ww hw 18 rfl) (by decide) (by decide)) qa1 qc1 (g := (mkF m 1 #[vr u0] [xr u0])) rfl (by rw [hml]; rfl) (Steps.refl _) (argsL := []) (rest := []) (lenOf pd1 rfl) rfl (by show 2 * 0 + _ ≤ _; exact Nat.le_of_eq rfl) (hb hby d2_1) (fun _ _ => ⟨rfl, e0, (by decide : 0 + 0 ≤ _), (by decide : 0 + 0 ≤ _)⟩)
  dsimp only [Pt.U, Pt.locs, Pt.cells, Pt.slots] at X1 l1 y1 z1 st1 hQ1
  subst l1 y1 z1
  obtain ⟨rfl, Nq1, e1⟩ := hQ1
  have N1 := Fr.app N0 Nq1
  obtain ⟨T2, X2, e2, st2⟩ := getS2 X1 hx hZ hown (host := "") (Or.inl (ww hw 22 rfl)) Via.refl e1 ((own_S_u0 G).ext O0.2) (g := (mkF m 54 #[vr u0] [])) rfl (hb hby d2_54)
  obtain ⟨fs, hr, hrun, hended, hW, hsame⟩ := X2.leave (v := some (xr u0)) (fun h => by rw [Bd.returns] at h; cases h)
  refine ⟨_, _, pre0 _ ?_, hrun, hended, _, _, rfl, ?_, ⟨_, rfl⟩, hW, hsame.mono (by decide) (by decide)⟩
  · show own_S p e below s₁ (mkF m 0 #[vr u0] []) _
    refine XS.aloadN X0.here hx rfl (hb hby d2_0) rfl rfl ?_
    show own_S p e below s₁ (mkF m 1 #[vr u0] [xr u0]) _
    refine st1.trans ?_
    show own_S p e below T1 (mkF m 4 #[vr u0] [xi (0 : Int32)]) _
    refine XS.tswIn X1.here hx rfl (pc0 := 4) (pc' := 54) (o := 50) rfl (hb hby d2_4) rfl (by decide) (by decide) (by decide) (by decide) ?_
    show own_S p e below T1 (mkF m 54 #[vr u0] []) _
    refine st2 _ ?_
    show own_S p e below T2 (mkF m 57 #[vr u0] [xr u0]) _
    refine XS.goto X2.here hx rfl (pc0 := 57) (pc' := 87) rfl (hb hby d2_57) (by decide) (by decide) ?_
    show own_S p e below T2 (mkF m 87 #[vr u0] [xr u0]) _
    exact X2.areturnOut hx rfl Bd.returns rfl (hb hby d2_87) hr
  · exact ⟨rfl, N1, e2⟩
theorem pd2 : parseMethodDescriptor "()Lcom/example/whyle/whyle/cfa/Relation;" = some ⟨[], some (.object "com/example/whyle/whyle/cfa/Relation")⟩ := by decide +kernel
theorem d4_0 : decode method_3_code 0 = .ok (.iload_n 0, 1) := by decide +kernel
theorem d4_1 : decode method_3_code 1 = .ok (.iload_n 1, 1) := by decide +kernel
theorem d4_2 : decode method_3_code 2 = .ok (.if_icmp .ge 5, 3) := by decide +kernel
theorem d4_5 : decode method_3_code 5 = .ok (.iconst (-1), 1) := by decide +kernel
theorem d4_6 : decode method_3_code 6 = .ok (.ireturn, 1) := by decide +kernel
abbrev Y4 : MethodName := (⟨"com/example/whyle/whyle/cfa/RelationConversePinLaw", "sign", "(II)I"⟩ : MethodName)
theorem ef_own_c3_sign (m : MethodId) (u0 u1 u2 u3 u4 u5 : Addr) (p2 : Int32) (p3 : Int32) : entryFrame m #[xi p2, xi p3] 2 = (mkF m 0 #[vi p2, vi p3] []) := by first | (simp [entryFrame, mkF, argsToLocals, Value.category]; done) | rfl
set_option maxRecDepth 65536 in
set_option maxHeartbeats 40000000 in
theorem own_c3_sign (l : Launch) (Z : State) (a0 : Array Value) (hw : ∀ d ∈ tables_1, d.before a0 Z = true) (u0 u1 u2 u3 u4 u5 : Addr) (G : own_St Z u0 u1 u2 u3 u4 u5) (p2 : Int32) (p3 : Int32) (as0 : if_icmp.holds .ge p2 p3 = false) (h0 : Heap) (n0 : Nat) (O0 : Old Z n0 h0) : own_Met l Z Y4 method_3_code 2 (some .int) ({ frames := 0, cells := 0, slots := 0, locals := 0 } : Room) #[xi p2, xi p3] h0 (own_QR (some (xi (-1 : Int32))) h0 n0) := by
  intro ws
  refine MetFree.of_bodySF (plainFor_of_name pn0) hisR ?_
  intro p e s m args below meth c s₁ Bd hml0 hP hK
  obtain ⟨rfl, hZ, hh⟩ := hP
  have hx := Bd.exec
  have hby := Bd.bytes
  have hml : c.maxLocals = 2 := hml0
  have hown : s.vm.findClass "com/example/whyle/whyle/cfa/RelationConversePinLaw" = some m.cls := findClass_of_methodNamed Bd.named
  have hnm := (name_of_methodNamed Bd.named Bd.method).1
  have X0 : Stand p l e ({ frames := 0, cells := 0, slots := 0, locals := 0 } : Room) s m #[xi p2, xi p3] below meth c s₁ [] 0 0 := Stand.of_body Bd
  have e0 : s₁.heap = h0 := by rw [← hh, Bd.state]; rfl
  have N0 := Fr.nil n0
  have pre0 : ∀ t, Steps p.tables e below (s₁.setTop (mkF m 0 #[vi p2, vi p3] [])) t → Steps p.tables e below (s₁.setTop (entryFrame m #[xi p2, xi p3] 2)) t := fun t st => castTop (ef_own_c3_sign m u0 u1 u2 u3 u4 u5 p2 p3) st
  obtain ⟨fs, hr, hrun, hended, hW, hsame⟩ := X0.leave (v := some (xi (-1 : Int32))) (fun h => by rw [Bd.returns] at h; cases h)
  refine ⟨_, _, pre0 _ ?_, hrun, hended, _, _, rfl, ?_, ⟨_, rfl⟩, hW, hsame.mono (by decide) (by decide)⟩
  · show own_S p e below s₁ (mkF m 0 #[vi p2, vi p3] []) _
    refine XS.iloadN X0.here hx rfl (hb hby d4_0) rfl ?_
    show own_S p e below s₁ (mkF m 1 #[vi p2, vi p3] [xi p2]) _
    refine XS.iloadN X0.here hx rfl (hb hby d4_1) rfl ?_
    show own_S p e below s₁ (mkF m 2 #[vi p2, vi p3] [xi p3, xi p2]) _
    refine XS.icmpNo X0.here hx rfl (hb hby d4_2) rfl as0 ?_
    show own_S p e below s₁ (mkF m 5 #[vi p2, vi p3] []) _
    refine XS.iconst X0.here hx rfl (hb hby d4_5) ?_
    show own_S p e below s₁ (mkF m 6 #[vi p2, vi p3] [xi (-1 : Int32)]) _
    exact retI X0 hx Bd.returns (hb hby d4_6) hr
  · exact ⟨rfl, N0, e0⟩
theorem pd3 : parseMethodDescriptor "(II)I" = some ⟨[.int, .int], some .int⟩ := by decide +kernel
theorem d5_0 : decode prog_62_method_8_code 0 = .ok (.aload_n 0, 1) := by decide +kernel
theorem d5_1 : decode prog_62_method_8_code 1 = .ok (.invokevirtual 55, 3) := by decide +kernel
theorem d5_4 : decode prog_62_method_8_code 4 = .ok (.tableswitch 40 0 5 #[50, 62, 74, 86, 98, 110], 40) := by decide +kernel
theorem d5_54 : decode prog_62_method_8_code 54 = .ok (.iload_n 1, 1) := by decide +kernel
theorem d5_55 : decode prog_62_method_8_code 55 = .ok (.ifCond .ne 7, 3) := by decide +kernel
theorem d5_62 : decode prog_62_method_8_code 62 = .ok (.iconst 0, 1) := by decide +kernel
theorem d5_63 : decode prog_62_method_8_code 63 = .ok (.goto 60, 3) := by decide +kernel
theorem d5_123 : decode prog_62_method_8_code 123 = .ok (.ireturn, 1) := by decide +kernel
abbrev Y5 : MethodName := (⟨"com/example/whyle/whyle/cfa/Relation", "holds", "(I)Z"⟩ : MethodName)
theorem ef_own_c4_holds (m : MethodId) (u0 u1 u2 u3 u4 u5 : Addr) : entryFrame m #[xr u0, xi (-1 : Int32)] 2 = (mkF m 0 #[vr u0, vi (-1 : Int32)] []) := by first | (simp [entryFrame, mkF, argsToLocals, Value.category]; done) | rfl
set_option maxRecDepth 65536 in
set_option maxHeartbeats 40000000 in
theorem own_c4_holds (l : Launch) (Z : State) (a0 : Array Value) (hw : ∀ d ∈ tables_1, d.before a0 Z = true) (u0 u1 u2 u3 u4 u5 : Addr) (G : own_St Z u0 u1 u2 u3 u4 u5) (h0 : Heap) (n0 : Nat) (O0 : Old Z n0 h0) : own_Met l Z Y5 prog_62_method_8_code 2 (some .boolean) ({ frames := 1, cells := 0, slots := 0, locals := 12 } : Room) #[xr u0, xi (-1 : Int32)] h0 (own_QR (some (xi (0 : Int32))) h0 n0) := by
  intro ws
  refine MetFree.of_bodySF (plainFor_of_name pn2) hisR ?_
  intro p e s m args below meth c s₁ Bd hml0 hP hK
  obtain ⟨rfl, hZ, hh⟩ := hP
  have hx := Bd.exec
  have hby := Bd.bytes
  have hml : c.maxLocals = 2 := hml0
  have hown : s.vm.findClass "com/example/whyle/whyle/cfa/Relation" = some m.cls := findClass_of_methodNamed Bd.named
  have hnm := (name_of_methodNamed Bd.named Bd.method).1
  have X0 : Stand p l e ({ frames := 1, cells := 0, slots := 0, locals := 12 } : Room) s m #[xr u0, xi (-1 : Int32)] below meth c s₁ [] 0 0 := Stand.of_body Bd
  have e0 : s₁.heap = h0 := by rw [← hh, Bd.state]; rfl
  have N0 := Fr.nil n0
  have pre0 : ∀ t, Steps p.tables e below (s₁.setTop (mkF m 0 #[vr u0, vi (-1 : Int32)] [])) t → Steps p.tables e below (s₁.setTop (entryFrame m #[xr u0, xi (-1 : Int32)] 2)) t := fun t st => castTop (ef_own_c4_holds m u0 u1 u2 u3 u4 u5) st
  obtain ⟨cq1, kq1, qa1, qb1, qc1⟩ := isOf hZ e0 ((own_X_u0 G).ext O0.2)
  obtain ⟨_, _, ⟨T1, L1, k1, n1⟩, -, X1, ⟨Lc1, hQ1, l1, y1, z1⟩, st1⟩ := X0.virtualBackUp hx (x := Y2) (y := Y1) hown (mvT hZ (ww hw 13 rfl)) (mvT hZ (ww hw 14 rfl)) (mvT hZ (ww hw 15 rfl)) (by decide) (mvT hZ (ww hw 17 rfl)) (mvT hZ (ww hw 16 rfl)) (backOf (W := 0) (own_c1_ordinal l Z a0 hw u0 u1 u2 u3 u4 u5 G h0 n0 O0 []) hZ (ww hw 19 rfl) (ww hw 18 rfl) (by decide) (by decide)) qa1 qc1 (g := (mkF m 1 #[vr u0, vi (-1 : Int32)] [xr u0])) rfl (by rw [hml]; rfl) (Steps.refl _) (argsL := []) (rest := []) (lenOf pd1 rfl) rfl (by show 2 * 0 + _ ≤ _; exact Nat.le_of_eq rfl) (hb hby d5_1) (fun _ _ => ⟨rfl, e0, (by decide : 0 + 0 ≤ _), (by decide : 0 + 0 ≤ _)⟩)
  dsimp only [Pt.U, Pt.locs, Pt.cells, Pt.slots] at X1 l1 y1 z1 st1 hQ1
  subst l1 y1 z1
  obtain ⟨rfl, Nq1, e1⟩ := hQ1
  have N1 := Fr.app N0 Nq1
  obtain ⟨fs, hr, hrun, hended, hW, hsame⟩ := X1.leave (v := some (xi (0 : Int32))) (fun h => by rw [Bd.returns] at h; cases h)
  refine ⟨_, _, pre0 _ ?_, hrun, hended, _, _, rfl, ?_, ⟨_, rfl⟩, hW, hsame.mono (by decide) (by decide)⟩
  · show own_S p e below s₁ (mkF m 0 #[vr u0, vi (-1 : Int32)] []) _
    refine XS.aloadN X0.here hx rfl (hb hby d5_0) rfl rfl ?_
    show own_S p e below s₁ (mkF m 1 #[vr u0, vi (-1 : Int32)] [xr u0]) _
    refine st1.trans ?_
    show own_S p e below T1 (mkF m 4 #[vr u0, vi (-1 : Int32)] [xi (0 : Int32)]) _
    refine XS.tswIn X1.here hx rfl (pc0 := 4) (pc' := 54) (o := 50) rfl (hb hby d5_4) rfl (by decide) (by decide) (by decide) (by decide) ?_
    show own_S p e below T1 (mkF m 54 #[vr u0, vi (-1 : Int32)] []) _
    refine XS.iloadN X1.here hx rfl (hb hby d5_54) rfl ?_
    show own_S p e below T1 (mkF m 55 #[vr u0, vi (-1 : Int32)] [xi (-1 : Int32)]) _
    refine XS.ifYes X1.here hx rfl (pc0 := 55) (pc' := 62) rfl (hb hby d5_55) rfl (by decide) (by decide) (by decide) ?_
    show own_S p e below T1 (mkF m 62 #[vr u0, vi (-1 : Int32)] []) _
    refine XS.iconst X1.here hx rfl (hb hby d5_62) ?_
    show own_S p e below T1 (mkF m 63 #[vr u0, vi (-1 : Int32)] [xi (0 : Int32)]) _
    refine XS.goto X1.here hx rfl (pc0 := 63) (pc' := 123) rfl (hb hby d5_63) (by decide) (by decide) ?_
    show own_S p e below T1 (mkF m 123 #[vr u0, vi (-1 : Int32)] [xi (0 : Int32)]) _
    exact retN X1 hx (t := .boolean) Bd.returns (by simp) (hb hby d5_123) hr
  · exact ⟨rfl, N1, e1⟩
theorem pd4 : parseMethodDescriptor "(I)Z" = some ⟨[.int], some .boolean⟩ := by decide +kernel
theorem d4_7 : decode method_3_code 7 = .ok (.iload_n 0, 1) := by decide +kernel
theorem d4_8 : decode method_3_code 8 = .ok (.iload_n 1, 1) := by decide +kernel
theorem d4_9 : decode method_3_code 9 = .ok (.if_icmp .ne 5, 3) := by decide +kernel
theorem d4_14 : decode method_3_code 14 = .ok (.iconst 1, 1) := by decide +kernel
theorem d4_15 : decode method_3_code 15 = .ok (.ireturn, 1) := by decide +kernel
theorem ef_own_c5_sign (m : MethodId) (u0 u1 u2 u3 u4 u5 : Addr) (p2 : Int32) (p3 : Int32) : entryFrame m #[xi p3, xi p2] 2 = (mkF m 0 #[vi p3, vi p2] []) := by first | (simp [entryFrame, mkF, argsToLocals, Value.category]; done) | rfl
set_option maxRecDepth 65536 in
set_option maxHeartbeats 40000000 in
theorem own_c5_sign (l : Launch) (Z : State) (a0 : Array Value) (hw : ∀ d ∈ tables_1, d.before a0 Z = true) (u0 u1 u2 u3 u4 u5 : Addr) (G : own_St Z u0 u1 u2 u3 u4 u5) (p2 : Int32) (p3 : Int32) (as1 : if_icmp.holds .ge p3 p2 = true) (as2 : if_icmp.holds .ne p3 p2 = true) (h0 : Heap) (n0 : Nat) (O0 : Old Z n0 h0) : own_Met l Z Y4 method_3_code 2 (some .int) ({ frames := 0, cells := 0, slots := 0, locals := 0 } : Room) #[xi p3, xi p2] h0 (own_QR (some (xi (1 : Int32))) h0 n0) := by
  intro ws
  refine MetFree.of_bodySF (plainFor_of_name pn0) hisR ?_
  intro p e s m args below meth c s₁ Bd hml0 hP hK
  obtain ⟨rfl, hZ, hh⟩ := hP
  have hx := Bd.exec
  have hby := Bd.bytes
  have hml : c.maxLocals = 2 := hml0
  have hown : s.vm.findClass "com/example/whyle/whyle/cfa/RelationConversePinLaw" = some m.cls := findClass_of_methodNamed Bd.named
  have hnm := (name_of_methodNamed Bd.named Bd.method).1
  have X0 : Stand p l e ({ frames := 0, cells := 0, slots := 0, locals := 0 } : Room) s m #[xi p3, xi p2] below meth c s₁ [] 0 0 := Stand.of_body Bd
  have e0 : s₁.heap = h0 := by rw [← hh, Bd.state]; rfl
  have N0 := Fr.nil n0
  have pre0 : ∀ t, Steps p.tables e below (s₁.setTop (mkF m 0 #[vi p3, vi p2] [])) t → Steps p.tables e below (s₁.setTop (entryFrame m #[xi p3, xi p2] 2)) t := fun t st => castTop (ef_own_c5_sign m u0 u1 u2 u3 u4 u5 p2 p3) st
  obtain ⟨fs, hr, hrun, hended, hW, hsame⟩ := X0.leave (v := some (xi (1 : Int32))) (fun h => by rw [Bd.returns] at h; cases h)
  refine ⟨_, _, pre0 _ ?_, hrun, hended, _, _, rfl, ?_, ⟨_, rfl⟩, hW, hsame.mono (by decide) (by decide)⟩
  · show own_S p e below s₁ (mkF m 0 #[vi p3, vi p2] []) _
    refine XS.iloadN X0.here hx rfl (hb hby d4_0) rfl ?_
    show own_S p e below s₁ (mkF m 1 #[vi p3, vi p2] [xi p3]) _
    refine XS.iloadN X0.here hx rfl (hb hby d4_1) rfl ?_
    show own_S p e below s₁ (mkF m 2 #[vi p3, vi p2] [xi p2, xi p3]) _
    refine XS.icmpYes X0.here hx rfl (pc0 := 2) (pc' := 7) rfl (hb hby d4_2) rfl as1 (by decide) (by decide) ?_
    show own_S p e below s₁ (mkF m 7 #[vi p3, vi p2] []) _
    refine XS.iloadN X0.here hx rfl (hb hby d4_7) rfl ?_
    show own_S p e below s₁ (mkF m 8 #[vi p3, vi p2] [xi p3]) _
    refine XS.iloadN X0.here hx rfl (hb hby d4_8) rfl ?_
    show own_S p e below s₁ (mkF m 9 #[vi p3, vi p2] [xi p2, xi p3]) _
    refine XS.icmpYes X0.here hx rfl (pc0 := 9) (pc' := 14) rfl (hb hby d4_9) rfl as2 (by decide) (by decide) ?_
    show own_S p e below s₁ (mkF m 14 #[vi p3, vi p2] []) _
    refine XS.iconst X0.here hx rfl (hb hby d4_14) ?_
    show own_S p e below s₁ (mkF m 15 #[vi p3, vi p2] [xi (1 : Int32)]) _
    exact retI X0 hx Bd.returns (hb hby d4_15) hr
  · exact ⟨rfl, N0, e0⟩
theorem ef_own_c6_holds (m : MethodId) (u0 u1 u2 u3 u4 u5 : Addr) : entryFrame m #[xr u0, xi (1 : Int32)] 2 = (mkF m 0 #[vr u0, vi (1 : Int32)] []) := by first | (simp [entryFrame, mkF, argsToLocals, Value.category]; done) | rfl
set_option maxRecDepth 65536 in
set_option maxHeartbeats 40000000 in
theorem own_c6_holds (l : Launch) (Z : State) (a0 : Array Value) (hw : ∀ d ∈ tables_1, d.before a0 Z = true) (u0 u1 u2 u3 u4 u5 : Addr) (G : own_St Z u0 u1 u2 u3 u4 u5) (h0 : Heap) (n0 : Nat) (O0 : Old Z n0 h0) : own_Met l Z Y5 prog_62_method_8_code 2 (some .boolean) ({ frames := 1, cells := 0, slots := 0, locals := 12 } : Room) #[xr u0, xi (1 : Int32)] h0 (own_QR (some (xi (0 : Int32))) h0 n0) := by
  intro ws
  refine MetFree.of_bodySF (plainFor_of_name pn2) hisR ?_
  intro p e s m args below meth c s₁ Bd hml0 hP hK
  obtain ⟨rfl, hZ, hh⟩ := hP
  have hx := Bd.exec
  have hby := Bd.bytes
  have hml : c.maxLocals = 2 := hml0
  have hown : s.vm.findClass "com/example/whyle/whyle/cfa/Relation" = some m.cls := findClass_of_methodNamed Bd.named
  have hnm := (name_of_methodNamed Bd.named Bd.method).1
  have X0 : Stand p l e ({ frames := 1, cells := 0, slots := 0, locals := 12 } : Room) s m #[xr u0, xi (1 : Int32)] below meth c s₁ [] 0 0 := Stand.of_body Bd
  have e0 : s₁.heap = h0 := by rw [← hh, Bd.state]; rfl
  have N0 := Fr.nil n0
  have pre0 : ∀ t, Steps p.tables e below (s₁.setTop (mkF m 0 #[vr u0, vi (1 : Int32)] [])) t → Steps p.tables e below (s₁.setTop (entryFrame m #[xr u0, xi (1 : Int32)] 2)) t := fun t st => castTop (ef_own_c6_holds m u0 u1 u2 u3 u4 u5) st
  obtain ⟨cq1, kq1, qa1, qb1, qc1⟩ := isOf hZ e0 ((own_X_u0 G).ext O0.2)
  obtain ⟨_, _, ⟨T1, L1, k1, n1⟩, -, X1, ⟨Lc1, hQ1, l1, y1, z1⟩, st1⟩ := X0.virtualBackUp hx (x := Y2) (y := Y1) hown (mvT hZ (ww hw 13 rfl)) (mvT hZ (ww hw 14 rfl)) (mvT hZ (ww hw 15 rfl)) (by decide) (mvT hZ (ww hw 17 rfl)) (mvT hZ (ww hw 16 rfl)) (backOf (W := 0) (own_c1_ordinal l Z a0 hw u0 u1 u2 u3 u4 u5 G h0 n0 O0 []) hZ (ww hw 19 rfl) (ww hw 18 rfl) (by decide) (by decide)) qa1 qc1 (g := (mkF m 1 #[vr u0, vi (1 : Int32)] [xr u0])) rfl (by rw [hml]; rfl) (Steps.refl _) (argsL := []) (rest := []) (lenOf pd1 rfl) rfl (by show 2 * 0 + _ ≤ _; exact Nat.le_of_eq rfl) (hb hby d5_1) (fun _ _ => ⟨rfl, e0, (by decide : 0 + 0 ≤ _), (by decide : 0 + 0 ≤ _)⟩)
  dsimp only [Pt.U, Pt.locs, Pt.cells, Pt.slots] at X1 l1 y1 z1 st1 hQ1
  subst l1 y1 z1
  obtain ⟨rfl, Nq1, e1⟩ := hQ1
  have N1 := Fr.app N0 Nq1
  obtain ⟨fs, hr, hrun, hended, hW, hsame⟩ := X1.leave (v := some (xi (0 : Int32))) (fun h => by rw [Bd.returns] at h; cases h)
  refine ⟨_, _, pre0 _ ?_, hrun, hended, _, _, rfl, ?_, ⟨_, rfl⟩, hW, hsame.mono (by decide) (by decide)⟩
  · show own_S p e below s₁ (mkF m 0 #[vr u0, vi (1 : Int32)] []) _
    refine XS.aloadN X0.here hx rfl (hb hby d5_0) rfl rfl ?_
    show own_S p e below s₁ (mkF m 1 #[vr u0, vi (1 : Int32)] [xr u0]) _
    refine st1.trans ?_
    show own_S p e below T1 (mkF m 4 #[vr u0, vi (1 : Int32)] [xi (0 : Int32)]) _
    refine XS.tswIn X1.here hx rfl (pc0 := 4) (pc' := 54) (o := 50) rfl (hb hby d5_4) rfl (by decide) (by decide) (by decide) (by decide) ?_
    show own_S p e below T1 (mkF m 54 #[vr u0, vi (1 : Int32)] []) _
    refine XS.iloadN X1.here hx rfl (hb hby d5_54) rfl ?_
    show own_S p e below T1 (mkF m 55 #[vr u0, vi (1 : Int32)] [xi (1 : Int32)]) _
    refine XS.ifYes X1.here hx rfl (pc0 := 55) (pc' := 62) rfl (hb hby d5_55) rfl (by decide) (by decide) (by decide) ?_
    show own_S p e below T1 (mkF m 62 #[vr u0, vi (1 : Int32)] []) _
    refine XS.iconst X1.here hx rfl (hb hby d5_62) ?_
    show own_S p e below T1 (mkF m 63 #[vr u0, vi (1 : Int32)] [xi (0 : Int32)]) _
    refine XS.goto X1.here hx rfl (pc0 := 63) (pc' := 123) rfl (hb hby d5_63) (by decide) (by decide) ?_
    show own_S p e below T1 (mkF m 123 #[vr u0, vi (1 : Int32)] [xi (0 : Int32)]) _
    exact retN X1 hx (t := .boolean) Bd.returns (by simp) (hb hby d5_123) hr
  · exact ⟨rfl, N1, e1⟩
theorem ef_own_l0 (m : MethodId) (u0 u1 u2 u3 u4 u5 : Addr) (p1 : Int32) (p2 : Int32) (p3 : Int32) (p4 : Int32) : entryFrame m #[xi p1, xi p2, xi p3, xi p4] maxLocals = (mkF m 0 #[vi p1, vi p2, vi p3, vi p4, vu, vu, vu, vu, vu] []) := by first | (simp [entryFrame, mkF, argsToLocals, Value.category, maxLocals]; done) | rfl
set_option maxRecDepth 65536 in
set_option maxHeartbeats 40000000 in
theorem own_l0 (l : Launch) (Z : State) (a0 : Array Value) (hw : ∀ d ∈ tables_1, d.before a0 Z = true) (u0 u1 u2 u3 u4 u5 : Addr) (G : own_St Z u0 u1 u2 u3 u4 u5) (p1 : Int32) (p2 : Int32) (p3 : Int32) (p4 : Int32) (as8 : ((p1 &&& (2147483647 : Int32)) - ((p1 &&& (2147483647 : Int32)) / (6 : Int32)) * (6 : Int32)) = (0 : Int32)) (as14 : (p4 &&& (1 : Int32)) = (0 : Int32)) (as0 : if_icmp.holds .ge p2 p3 = false) (as1 : if_icmp.holds .ge p3 p2 = true) (as2 : if_icmp.holds .ne p3 p2 = true) (h0 : Heap) (n0 : Nat) (O0 : Old Z n0 h0) : own_Met l Z x code maxLocals ret room_1 #[xi p1, xi p2, xi p3, xi p4] h0 (own_QL (some (xi (1 : Int32))) n0) := by
  intro ws
  refine MetFree.of_bodySF (plainFor_of_name pn0) hisR ?_
  intro p e s m args below meth c s₁ Bd hml0 hP hK
  obtain ⟨rfl, hZ, hh⟩ := hP
  have hx := Bd.exec
  have hby := Bd.bytes
  have hml : c.maxLocals = 9 := hml0
  have hown : s.vm.findClass "com/example/whyle/whyle/cfa/RelationConversePinLaw" = some m.cls := findClass_of_methodNamed Bd.named
  have hnm := (name_of_methodNamed Bd.named Bd.method).1
  have X0 : Stand p l e room_1 s m #[xi p1, xi p2, xi p3, xi p4] below meth c s₁ [] 0 0 := Stand.of_body Bd
  have e0 : s₁.heap = h0 := by rw [← hh, Bd.state]; rfl
  have N0 := Fr.nil n0
  have pre0 : ∀ t, Steps p.tables e below (s₁.setTop (mkF m 0 #[vi p1, vi p2, vi p3, vi p4, vu, vu, vu, vu, vu] [])) t → Steps p.tables e below (s₁.setTop (entryFrame m #[xi p1, xi p2, xi p3, xi p4] maxLocals)) t := fun t st => castTop (ef_own_l0 m u0 u1 u2 u3 u4 u5 p1 p2 p3 p4) st
  obtain ⟨_, _, ⟨T1, L1, k1, n1⟩, -, X1, ⟨Lc1, hQ1, l1, y1, z1⟩, st1⟩ := Jvm.LawKit.callS X0 hx (y := Y0) hown (mvT hZ (ww hw 0 rfl)) (mvT hZ (ww hw 1 rfl)) (mvT hZ (ww hw 2 rfl)) (mvT hZ (ww hw 3 rfl)) (by decide) (backOf (W := 0) (own_c0_pick l Z a0 hw u0 u1 u2 u3 u4 u5 G p1 as8 h0 n0 O0 []) hZ (ww hw 3 rfl) (ww hw 2 rfl) (by decide) (by decide)) (g := (mkF m 1 #[vi p1, vi p2, vi p3, vi p4, vu, vu, vu, vu, vu] [xi p1])) rfl (by rw [hml]; rfl) (argsL := [xi p1]) (rest := []) (lenOf pd0 rfl) rfl (by show 2 * 0 + _ ≤ _; exact Nat.le_of_eq rfl) (hb hby at_1) (fun _ _ => ⟨rfl, e0, (by decide : 0 + 0 ≤ _), (by decide : 0 + 0 ≤ _)⟩)
  dsimp only [Pt.U, Pt.locs, Pt.cells, Pt.slots] at X1 l1 y1 z1 st1 hQ1
  subst l1 y1 z1
  obtain ⟨rfl, Nq1, e1⟩ := hQ1
  have N1 := Fr.app N0 Nq1
  obtain ⟨cq2, kq2, qa2, qb2, qc2⟩ := isOf hZ e1 ((own_X_u0 G).ext O0.2)
  obtain ⟨_, _, ⟨T2, L2, k2, n2⟩, -, X2, ⟨Lc2, hQ2, l2, y2, z2⟩, st2⟩ := X1.virtualBack hx (y := Y3) (z := Y3) hown (mvT hZ (ww hw 8 rfl)) (mvT hZ (ww hw 9 rfl)) (notFace_of_selects (args := #[]) (mvT hZ (ww hw 11 rfl))) (mvT hZ (ww hw 11 rfl)) (mvT hZ (ww hw 10 rfl)) (by decide) (backOf (W := 0) (own_c1_converse l Z a0 hw u0 u1 u2 u3 u4 u5 G h0 n0 O0 []) hZ (ww hw 12 rfl) (ww hw 6 rfl) (by decide) (by decide)) qa2 qc2 (g := (mkF m 21 #[vi p1, vi p2, vi p3, vi p4, vr u0, vi p3, vu, vu, vu] [xr u0])) rfl (by rw [hml]; rfl) (Steps.refl _) (argsL := []) (rest := []) (lenOf pd2 rfl) rfl (by show 2 * 0 + _ ≤ _; exact Nat.le_of_eq rfl) (hb hby at_21) (fun _ _ => ⟨rfl, e1, (by decide : 0 + 0 ≤ _), (by decide : 0 + 0 ≤ _)⟩)
  dsimp only [Pt.U, Pt.locs, Pt.cells, Pt.slots] at X2 l2 y2 z2 st2 hQ2
  subst l2 y2 z2
  obtain ⟨rfl, Nq2, e2⟩ := hQ2
  have N2 := Fr.app N1 Nq2
  obtain ⟨_, _, ⟨T3, L3, k3, n3⟩, -, X3, ⟨Lc3, hQ3, l3, y3, z3⟩, st3⟩ := Jvm.LawKit.callS X2 hx (y := Y4) hown (mvT hZ (ww hw 23 rfl)) (mvT hZ (ww hw 24 rfl)) (mvT hZ (ww hw 2 rfl)) (mvT hZ (ww hw 25 rfl)) (by decide) (backOf (W := 1) (own_c3_sign l Z a0 hw u0 u1 u2 u3 u4 u5 G p2 p3 as0 h0 n0 O0 []) hZ (ww hw 25 rfl) (ww hw 2 rfl) (by decide) (by decide)) (g := (mkF m 38 #[vi p1, vi p2, vi p3, vi p4, vr u0, vi p3, vr u0, vu, vu] [xi p3, xi p2, xr u0])) rfl (by rw [hml]; rfl) (argsL := [xi p2, xi p3]) (rest := [xr u0]) (lenOf pd3 rfl) rfl (by show 2 * 0 + _ ≤ _; exact Nat.le_of_eq rfl) (hb hby at_38) (fun _ _ => ⟨rfl, e2, (by decide : 0 + 0 ≤ _), (by decide : 0 + 0 ≤ _)⟩)
  dsimp only [Pt.U, Pt.locs, Pt.cells, Pt.slots] at X3 l3 y3 z3 st3 hQ3
  subst l3 y3 z3
  obtain ⟨rfl, Nq3, e3⟩ := hQ3
  have N3 := Fr.app N2 Nq3
  obtain ⟨cq4, kq4, qa4, qb4, qc4⟩ := isOf hZ e3 ((own_X_u0 G).ext O0.2)
  obtain ⟨_, _, ⟨T4, L4, k4, n4⟩, -, X4, ⟨Lc4, hQ4, l4, y4, z4⟩, st4⟩ := X3.virtualBack hx (y := Y5) (z := Y5) hown (mvT hZ (ww hw 26 rfl)) (mvT hZ (ww hw 27 rfl)) (notFace_of_selects (args := #[]) (mvT hZ (ww hw 29 rfl))) (mvT hZ (ww hw 29 rfl)) (mvT hZ (ww hw 28 rfl)) (by decide) (backOf (W := 0) (own_c4_holds l Z a0 hw u0 u1 u2 u3 u4 u5 G h0 n0 O0 []) hZ (ww hw 30 rfl) (ww hw 6 rfl) (by decide) (by decide)) qa4 qc4 (g := (mkF m 41 #[vi p1, vi p2, vi p3, vi p4, vr u0, vi p3, vr u0, vu, vu] [xi (-1 : Int32), xr u0])) rfl (by rw [hml]; rfl) (Steps.refl _) (argsL := [xi (-1 : Int32)]) (rest := []) (lenOf pd4 rfl) rfl (by show 2 * 0 + _ ≤ _; exact Nat.le_of_eq rfl) (hb hby at_41) (fun _ _ => ⟨rfl, e3, (by decide : 0 + 0 ≤ _), (by decide : 0 + 0 ≤ _)⟩)
  dsimp only [Pt.U, Pt.locs, Pt.cells, Pt.slots] at X4 l4 y4 z4 st4 hQ4
  subst l4 y4 z4
  obtain ⟨rfl, Nq4, e4⟩ := hQ4
  have N4 := Fr.app N3 Nq4
  obtain ⟨_, _, ⟨T5, L5, k5, n5⟩, -, X5, ⟨Lc5, hQ5, l5, y5, z5⟩, st5⟩ := Jvm.LawKit.callS X4 hx (y := Y4) hown (mvT hZ (ww hw 23 rfl)) (mvT hZ (ww hw 24 rfl)) (mvT hZ (ww hw 2 rfl)) (mvT hZ (ww hw 25 rfl)) (by decide) (backOf (W := 1) (own_c5_sign l Z a0 hw u0 u1 u2 u3 u4 u5 G p2 p3 as1 as2 h0 n0 O0 []) hZ (ww hw 25 rfl) (ww hw 2 rfl) (by decide) (by decide)) (g := (mkF m 51 #[vi p1, vi p2, vi p3, vi p4, vr u0, vi p3, vr u0, vi (0 : Int32), vu] [xi p2, xi p3, xr u0])) rfl (by rw [hml]; rfl) (argsL := [xi p3, xi p2]) (rest := [xr u0]) (lenOf pd3 rfl) rfl (by show 2 * 0 + _ ≤ _; exact Nat.le_of_eq rfl) (hb hby at_51) (fun _ _ => ⟨rfl, e4, (by decide : 0 + 0 ≤ _), (by decide : 0 + 0 ≤ _)⟩)
  dsimp only [Pt.U, Pt.locs, Pt.cells, Pt.slots] at X5 l5 y5 z5 st5 hQ5
  subst l5 y5 z5
  obtain ⟨rfl, Nq5, e5⟩ := hQ5
  have N5 := Fr.app N4 Nq5
  obtain ⟨cq6, kq6, qa6, qb6, qc6⟩ := isOf hZ e5 ((own_X_u0 G).ext O0.2)
  obtain ⟨_, _, ⟨T6, L6, k6, n6⟩, -, X6, ⟨Lc6, hQ6, l6, y6, z6⟩, st6⟩ := X5.virtualBack hx (y := Y5) (z := Y5) hown (mvT hZ (ww hw 26 rfl)) (mvT hZ (ww hw 27 rfl)) (notFace_of_selects (args := #[]) (mvT hZ (ww hw 29 rfl))) (mvT hZ (ww hw 29 rfl)) (mvT hZ (ww hw 28 rfl)) (by decide) (backOf (W := 0) (own_c6_holds l Z a0 hw u0 u1 u2 u3 u4 u5 G h0 n0 O0 []) hZ (ww hw 30 rfl) (ww hw 6 rfl) (by decide) (by decide)) qa6 qc6 (g := (mkF m 54 #[vi p1, vi p2, vi p3, vi p4, vr u0, vi p3, vr u0, vi (0 : Int32), vu] [xi (1 : Int32), xr u0])) rfl (by rw [hml]; rfl) (Steps.refl _) (argsL := [xi (1 : Int32)]) (rest := []) (lenOf pd4 rfl) rfl (by show 2 * 0 + _ ≤ _; exact Nat.le_of_eq rfl) (hb hby at_54) (fun _ _ => ⟨rfl, e5, (by decide : 0 + 0 ≤ _), (by decide : 0 + 0 ≤ _)⟩)
  dsimp only [Pt.U, Pt.locs, Pt.cells, Pt.slots] at X6 l6 y6 z6 st6 hQ6
  subst l6 y6 z6
  obtain ⟨rfl, Nq6, e6⟩ := hQ6
  have N6 := Fr.app N5 Nq6
  obtain ⟨fs, hr, hrun, hended, hW, hsame⟩ := X6.leave (v := some (xi (1 : Int32))) (fun h => by rw [Bd.returns] at h; cases h)
  refine ⟨_, _, pre0 _ ?_, hrun, hended, _, _, rfl, ?_, ⟨_, rfl⟩, hW, hsame.mono (by decide) (by decide)⟩
  · show own_S p e below s₁ (mkF m 0 #[vi p1, vi p2, vi p3, vi p4, vu, vu, vu, vu, vu] []) _
    refine XS.iloadN X0.here hx rfl (hb hby at_0) rfl ?_
    show own_S p e below s₁ (mkF m 1 #[vi p1, vi p2, vi p3, vi p4, vu, vu, vu, vu, vu] [xi p1]) _
    refine st1 _ ?_
    show own_S p e below T1 (mkF m 4 #[vi p1, vi p2, vi p3, vi p4, vu, vu, vu, vu, vu] [xr u0]) _
    refine XS.astore X1.here hx rfl (hb hby at_4) rfl rfl (l' := #[vi p1, vi p2, vi p3, vi p4, vr u0, vu, vu, vu, vu]) rfl ?_
    show own_S p e below T1 (mkF m 6 #[vi p1, vi p2, vi p3, vi p4, vr u0, vu, vu, vu, vu] []) _
    refine XS.iloadN X1.here hx rfl (hb hby at_6) rfl ?_
    show own_S p e below T1 (mkF m 7 #[vi p1, vi p2, vi p3, vi p4, vr u0, vu, vu, vu, vu] [xi p4]) _
    refine XS.iconst X1.here hx rfl (hb hby at_7) ?_
    show own_S p e below T1 (mkF m 8 #[vi p1, vi p2, vi p3, vi p4, vr u0, vu, vu, vu, vu] [xi (1 : Int32), xi p4]) _
    refine XS.iand X1.here hx rfl (hb hby at_8) rfl ?_
    show own_S p e below T1 (mkF m 9 #[vi p1, vi p2, vi p3, vi p4, vr u0, vu, vu, vu, vu] [xi (p4 &&& (1 : Int32))]) _
    refine castTop (show (mkF m 9 #[vi p1, vi p2, vi p3, vi p4, vr u0, vu, vu, vu, vu] [xi (p4 &&& (1 : Int32))]) = (mkF m 9 #[vi p1, vi p2, vi p3, vi p4, vr u0, vu, vu, vu, vu] [xi (0 : Int32)]) from by rw [as14]) ?_
    show own_S p e below T1 (mkF m 9 #[vi p1, vi p2, vi p3, vi p4, vr u0, vu, vu, vu, vu] [xi (0 : Int32)]) _
    refine XS.ifYes X1.here hx rfl (pc0 := 9) (pc' := 16) rfl (hb hby at_9) rfl (by decide) (by decide) (by decide) ?_
    show own_S p e below T1 (mkF m 16 #[vi p1, vi p2, vi p3, vi p4, vr u0, vu, vu, vu, vu] []) _
    refine XS.iloadN X1.here hx rfl (hb hby at_16) rfl ?_
    show own_S p e below T1 (mkF m 17 #[vi p1, vi p2, vi p3, vi p4, vr u0, vu, vu, vu, vu] [xi p3]) _
    refine XS.istore X1.here hx rfl (hb hby at_17) rfl (l' := #[vi p1, vi p2, vi p3, vi p4, vr u0, vi p3, vu, vu, vu]) rfl ?_
    show own_S p e below T1 (mkF m 19 #[vi p1, vi p2, vi p3, vi p4, vr u0, vi p3, vu, vu, vu] []) _
    refine XS.aload X1.here hx rfl (hb hby at_19) rfl rfl ?_
    show own_S p e below T1 (mkF m 21 #[vi p1, vi p2, vi p3, vi p4, vr u0, vi p3, vu, vu, vu] [xr u0]) _
    refine st2.trans ?_
    show own_S p e below T2 (mkF m 24 #[vi p1, vi p2, vi p3, vi p4, vr u0, vi p3, vu, vu, vu] [xr u0]) _
    refine XS.astore X2.here hx rfl (hb hby at_24) rfl rfl (l' := #[vi p1, vi p2, vi p3, vi p4, vr u0, vi p3, vr u0, vu, vu]) rfl ?_
    show own_S p e below T2 (mkF m 26 #[vi p1, vi p2, vi p3, vi p4, vr u0, vi p3, vr u0, vu, vu] []) _
    refine XS.aload X2.here hx rfl (hb hby at_26) rfl rfl ?_
    show own_S p e below T2 (mkF m 28 #[vi p1, vi p2, vi p3, vi p4, vr u0, vi p3, vr u0, vu, vu] [xr u0]) _
    refine Jvm.Free.XT.nonnullYes X2.here hx rfl (pc0 := 28) (pc' := 33) rfl (hb hby at_28) rfl rfl (by simp) (by decide) (by decide) ?_
    show own_S p e below T2 (mkF m 33 #[vi p1, vi p2, vi p3, vi p4, vr u0, vi p3, vr u0, vu, vu] []) _
    refine XS.aload X2.here hx rfl (hb hby at_33) rfl rfl ?_
    show own_S p e below T2 (mkF m 35 #[vi p1, vi p2, vi p3, vi p4, vr u0, vi p3, vr u0, vu, vu] [xr u0]) _
    refine XS.iloadN X2.here hx rfl (hb hby at_35) rfl ?_
    show own_S p e below T2 (mkF m 36 #[vi p1, vi p2, vi p3, vi p4, vr u0, vi p3, vr u0, vu, vu] [xi p2, xr u0]) _
    refine XS.iload X2.here hx rfl (hb hby at_36) rfl ?_
    show own_S p e below T2 (mkF m 38 #[vi p1, vi p2, vi p3, vi p4, vr u0, vi p3, vr u0, vu, vu] [xi p3, xi p2, xr u0]) _
    refine st3 _ ?_
    show own_S p e below T3 (mkF m 41 #[vi p1, vi p2, vi p3, vi p4, vr u0, vi p3, vr u0, vu, vu] [xi (-1 : Int32), xr u0]) _
    refine st4.trans ?_
    show own_S p e below T4 (mkF m 44 #[vi p1, vi p2, vi p3, vi p4, vr u0, vi p3, vr u0, vu, vu] [xi (0 : Int32)]) _
    refine XS.istore X4.here hx rfl (hb hby at_44) rfl (l' := #[vi p1, vi p2, vi p3, vi p4, vr u0, vi p3, vr u0, vi (0 : Int32), vu]) rfl ?_
    show own_S p e below T4 (mkF m 46 #[vi p1, vi p2, vi p3, vi p4, vr u0, vi p3, vr u0, vi (0 : Int32), vu] []) _
    refine XS.aload X4.here hx rfl (hb hby at_46) rfl rfl ?_
    show own_S p e below T4 (mkF m 48 #[vi p1, vi p2, vi p3, vi p4, vr u0, vi p3, vr u0, vi (0 : Int32), vu] [xr u0]) _
    refine XS.iload X4.here hx rfl (hb hby at_48) rfl ?_
    show own_S p e below T4 (mkF m 50 #[vi p1, vi p2, vi p3, vi p4, vr u0, vi p3, vr u0, vi (0 : Int32), vu] [xi p3, xr u0]) _
    refine XS.iloadN X4.here hx rfl (hb hby at_50) rfl ?_
    show own_S p e below T4 (mkF m 51 #[vi p1, vi p2, vi p3, vi p4, vr u0, vi p3, vr u0, vi (0 : Int32), vu] [xi p2, xi p3, xr u0]) _
    refine st5 _ ?_
    show own_S p e below T5 (mkF m 54 #[vi p1, vi p2, vi p3, vi p4, vr u0, vi p3, vr u0, vi (0 : Int32), vu] [xi (1 : Int32), xr u0]) _
    refine st6.trans ?_
    show own_S p e below T6 (mkF m 57 #[vi p1, vi p2, vi p3, vi p4, vr u0, vi p3, vr u0, vi (0 : Int32), vu] [xi (0 : Int32)]) _
    refine XS.istore X6.here hx rfl (hb hby at_57) rfl (l' := #[vi p1, vi p2, vi p3, vi p4, vr u0, vi p3, vr u0, vi (0 : Int32), vi (0 : Int32)]) rfl ?_
    show own_S p e below T6 (mkF m 59 #[vi p1, vi p2, vi p3, vi p4, vr u0, vi p3, vr u0, vi (0 : Int32), vi (0 : Int32)] []) _
    refine XS.iload X6.here hx rfl (hb hby at_59) rfl ?_
    show own_S p e below T6 (mkF m 61 #[vi p1, vi p2, vi p3, vi p4, vr u0, vi p3, vr u0, vi (0 : Int32), vi (0 : Int32)] [xi (0 : Int32)]) _
    refine XS.iload X6.here hx rfl (hb hby at_61) rfl ?_
    show own_S p e below T6 (mkF m 63 #[vi p1, vi p2, vi p3, vi p4, vr u0, vi p3, vr u0, vi (0 : Int32), vi (0 : Int32)] [xi (0 : Int32), xi (0 : Int32)]) _
    refine XS.icmpNo X6.here hx rfl (hb hby at_63) rfl (by decide) ?_
    show own_S p e below T6 (mkF m 66 #[vi p1, vi p2, vi p3, vi p4, vr u0, vi p3, vr u0, vi (0 : Int32), vi (0 : Int32)] []) _
    refine XS.iconst X6.here hx rfl (hb hby at_66) ?_
    show own_S p e below T6 (mkF m 67 #[vi p1, vi p2, vi p3, vi p4, vr u0, vi p3, vr u0, vi (0 : Int32), vi (0 : Int32)] [xi (1 : Int32)]) _
    refine XS.goto X6.here hx rfl (pc0 := 67) (pc' := 71) rfl (hb hby at_67) (by decide) (by decide) ?_
    show own_S p e below T6 (mkF m 71 #[vi p1, vi p2, vi p3, vi p4, vr u0, vi p3, vr u0, vi (0 : Int32), vi (0 : Int32)] [xi (1 : Int32)]) _
    exact retN X6 hx (t := .boolean) Bd.returns (by simp) (hb hby at_71) hr
  · exact ⟨rfl, N6⟩
theorem d4_12 : decode method_3_code 12 = .ok (.iconst 0, 1) := by decide +kernel
theorem d4_13 : decode method_3_code 13 = .ok (.ireturn, 1) := by decide +kernel
theorem ef_own_c7_sign (m : MethodId) (u0 u1 u2 u3 u4 u5 : Addr) (p2 : Int32) (p3 : Int32) : entryFrame m #[xi p2, xi p3] 2 = (mkF m 0 #[vi p2, vi p3] []) := by first | (simp [entryFrame, mkF, argsToLocals, Value.category]; done) | rfl
set_option maxRecDepth 65536 in
set_option maxHeartbeats 40000000 in
theorem own_c7_sign (l : Launch) (Z : State) (a0 : Array Value) (hw : ∀ d ∈ tables_1, d.before a0 Z = true) (u0 u1 u2 u3 u4 u5 : Addr) (G : own_St Z u0 u1 u2 u3 u4 u5) (p2 : Int32) (p3 : Int32) (as3 : if_icmp.holds .ge p2 p3 = true) (as4 : if_icmp.holds .ne p2 p3 = false) (h0 : Heap) (n0 : Nat) (O0 : Old Z n0 h0) : own_Met l Z Y4 method_3_code 2 (some .int) ({ frames := 0, cells := 0, slots := 0, locals := 0 } : Room) #[xi p2, xi p3] h0 (own_QR (some (xi (0 : Int32))) h0 n0) := by
  intro ws
  refine MetFree.of_bodySF (plainFor_of_name pn0) hisR ?_
  intro p e s m args below meth c s₁ Bd hml0 hP hK
  obtain ⟨rfl, hZ, hh⟩ := hP
  have hx := Bd.exec
  have hby := Bd.bytes
  have hml : c.maxLocals = 2 := hml0
  have hown : s.vm.findClass "com/example/whyle/whyle/cfa/RelationConversePinLaw" = some m.cls := findClass_of_methodNamed Bd.named
  have hnm := (name_of_methodNamed Bd.named Bd.method).1
  have X0 : Stand p l e ({ frames := 0, cells := 0, slots := 0, locals := 0 } : Room) s m #[xi p2, xi p3] below meth c s₁ [] 0 0 := Stand.of_body Bd
  have e0 : s₁.heap = h0 := by rw [← hh, Bd.state]; rfl
  have N0 := Fr.nil n0
  have pre0 : ∀ t, Steps p.tables e below (s₁.setTop (mkF m 0 #[vi p2, vi p3] [])) t → Steps p.tables e below (s₁.setTop (entryFrame m #[xi p2, xi p3] 2)) t := fun t st => castTop (ef_own_c7_sign m u0 u1 u2 u3 u4 u5 p2 p3) st
  obtain ⟨fs, hr, hrun, hended, hW, hsame⟩ := X0.leave (v := some (xi (0 : Int32))) (fun h => by rw [Bd.returns] at h; cases h)
  refine ⟨_, _, pre0 _ ?_, hrun, hended, _, _, rfl, ?_, ⟨_, rfl⟩, hW, hsame.mono (by decide) (by decide)⟩
  · show own_S p e below s₁ (mkF m 0 #[vi p2, vi p3] []) _
    refine XS.iloadN X0.here hx rfl (hb hby d4_0) rfl ?_
    show own_S p e below s₁ (mkF m 1 #[vi p2, vi p3] [xi p2]) _
    refine XS.iloadN X0.here hx rfl (hb hby d4_1) rfl ?_
    show own_S p e below s₁ (mkF m 2 #[vi p2, vi p3] [xi p3, xi p2]) _
    refine XS.icmpYes X0.here hx rfl (pc0 := 2) (pc' := 7) rfl (hb hby d4_2) rfl as3 (by decide) (by decide) ?_
    show own_S p e below s₁ (mkF m 7 #[vi p2, vi p3] []) _
    refine XS.iloadN X0.here hx rfl (hb hby d4_7) rfl ?_
    show own_S p e below s₁ (mkF m 8 #[vi p2, vi p3] [xi p2]) _
    refine XS.iloadN X0.here hx rfl (hb hby d4_8) rfl ?_
    show own_S p e below s₁ (mkF m 9 #[vi p2, vi p3] [xi p3, xi p2]) _
    refine XS.icmpNo X0.here hx rfl (hb hby d4_9) rfl as4 ?_
    show own_S p e below s₁ (mkF m 12 #[vi p2, vi p3] []) _
    refine XS.iconst X0.here hx rfl (hb hby d4_12) ?_
    show own_S p e below s₁ (mkF m 13 #[vi p2, vi p3] [xi (0 : Int32)]) _
    exact retI X0 hx Bd.returns (hb hby d4_13) hr
  · exact ⟨rfl, N0, e0⟩
theorem d5_58 : decode prog_62_method_8_code 58 = .ok (.iconst 1, 1) := by decide +kernel
theorem d5_59 : decode prog_62_method_8_code 59 = .ok (.goto 64, 3) := by decide +kernel
theorem ef_own_c8_holds (m : MethodId) (u0 u1 u2 u3 u4 u5 : Addr) : entryFrame m #[xr u0, xi (0 : Int32)] 2 = (mkF m 0 #[vr u0, vi (0 : Int32)] []) := by first | (simp [entryFrame, mkF, argsToLocals, Value.category]; done) | rfl
set_option maxRecDepth 65536 in
set_option maxHeartbeats 40000000 in
theorem own_c8_holds (l : Launch) (Z : State) (a0 : Array Value) (hw : ∀ d ∈ tables_1, d.before a0 Z = true) (u0 u1 u2 u3 u4 u5 : Addr) (G : own_St Z u0 u1 u2 u3 u4 u5) (h0 : Heap) (n0 : Nat) (O0 : Old Z n0 h0) : own_Met l Z Y5 prog_62_method_8_code 2 (some .boolean) ({ frames := 1, cells := 0, slots := 0, locals := 12 } : Room) #[xr u0, xi (0 : Int32)] h0 (own_QR (some (xi (1 : Int32))) h0 n0) := by
  intro ws
  refine MetFree.of_bodySF (plainFor_of_name pn2) hisR ?_
  intro p e s m args below meth c s₁ Bd hml0 hP hK
  obtain ⟨rfl, hZ, hh⟩ := hP
  have hx := Bd.exec
  have hby := Bd.bytes
  have hml : c.maxLocals = 2 := hml0
  have hown : s.vm.findClass "com/example/whyle/whyle/cfa/Relation" = some m.cls := findClass_of_methodNamed Bd.named
  have hnm := (name_of_methodNamed Bd.named Bd.method).1
  have X0 : Stand p l e ({ frames := 1, cells := 0, slots := 0, locals := 12 } : Room) s m #[xr u0, xi (0 : Int32)] below meth c s₁ [] 0 0 := Stand.of_body Bd
  have e0 : s₁.heap = h0 := by rw [← hh, Bd.state]; rfl
  have N0 := Fr.nil n0
  have pre0 : ∀ t, Steps p.tables e below (s₁.setTop (mkF m 0 #[vr u0, vi (0 : Int32)] [])) t → Steps p.tables e below (s₁.setTop (entryFrame m #[xr u0, xi (0 : Int32)] 2)) t := fun t st => castTop (ef_own_c8_holds m u0 u1 u2 u3 u4 u5) st
  obtain ⟨cq1, kq1, qa1, qb1, qc1⟩ := isOf hZ e0 ((own_X_u0 G).ext O0.2)
  obtain ⟨_, _, ⟨T1, L1, k1, n1⟩, -, X1, ⟨Lc1, hQ1, l1, y1, z1⟩, st1⟩ := X0.virtualBackUp hx (x := Y2) (y := Y1) hown (mvT hZ (ww hw 13 rfl)) (mvT hZ (ww hw 14 rfl)) (mvT hZ (ww hw 15 rfl)) (by decide) (mvT hZ (ww hw 17 rfl)) (mvT hZ (ww hw 16 rfl)) (backOf (W := 0) (own_c1_ordinal l Z a0 hw u0 u1 u2 u3 u4 u5 G h0 n0 O0 []) hZ (ww hw 19 rfl) (ww hw 18 rfl) (by decide) (by decide)) qa1 qc1 (g := (mkF m 1 #[vr u0, vi (0 : Int32)] [xr u0])) rfl (by rw [hml]; rfl) (Steps.refl _) (argsL := []) (rest := []) (lenOf pd1 rfl) rfl (by show 2 * 0 + _ ≤ _; exact Nat.le_of_eq rfl) (hb hby d5_1) (fun _ _ => ⟨rfl, e0, (by decide : 0 + 0 ≤ _), (by decide : 0 + 0 ≤ _)⟩)
  dsimp only [Pt.U, Pt.locs, Pt.cells, Pt.slots] at X1 l1 y1 z1 st1 hQ1
  subst l1 y1 z1
  obtain ⟨rfl, Nq1, e1⟩ := hQ1
  have N1 := Fr.app N0 Nq1
  obtain ⟨fs, hr, hrun, hended, hW, hsame⟩ := X1.leave (v := some (xi (1 : Int32))) (fun h => by rw [Bd.returns] at h; cases h)
  refine ⟨_, _, pre0 _ ?_, hrun, hended, _, _, rfl, ?_, ⟨_, rfl⟩, hW, hsame.mono (by decide) (by decide)⟩
  · show own_S p e below s₁ (mkF m 0 #[vr u0, vi (0 : Int32)] []) _
    refine XS.aloadN X0.here hx rfl (hb hby d5_0) rfl rfl ?_
    show own_S p e below s₁ (mkF m 1 #[vr u0, vi (0 : Int32)] [xr u0]) _
    refine st1.trans ?_
    show own_S p e below T1 (mkF m 4 #[vr u0, vi (0 : Int32)] [xi (0 : Int32)]) _
    refine XS.tswIn X1.here hx rfl (pc0 := 4) (pc' := 54) (o := 50) rfl (hb hby d5_4) rfl (by decide) (by decide) (by decide) (by decide) ?_
    show own_S p e below T1 (mkF m 54 #[vr u0, vi (0 : Int32)] []) _
    refine XS.iloadN X1.here hx rfl (hb hby d5_54) rfl ?_
    show own_S p e below T1 (mkF m 55 #[vr u0, vi (0 : Int32)] [xi (0 : Int32)]) _
    refine XS.ifNo X1.here hx rfl (hb hby d5_55) rfl (by decide) ?_
    show own_S p e below T1 (mkF m 58 #[vr u0, vi (0 : Int32)] []) _
    refine XS.iconst X1.here hx rfl (hb hby d5_58) ?_
    show own_S p e below T1 (mkF m 59 #[vr u0, vi (0 : Int32)] [xi (1 : Int32)]) _
    refine XS.goto X1.here hx rfl (pc0 := 59) (pc' := 123) rfl (hb hby d5_59) (by decide) (by decide) ?_
    show own_S p e below T1 (mkF m 123 #[vr u0, vi (0 : Int32)] [xi (1 : Int32)]) _
    exact retN X1 hx (t := .boolean) Bd.returns (by simp) (hb hby d5_123) hr
  · exact ⟨rfl, N1, e1⟩
theorem ef_own_c9_sign (m : MethodId) (u0 u1 u2 u3 u4 u5 : Addr) (p2 : Int32) (p3 : Int32) : entryFrame m #[xi p3, xi p2] 2 = (mkF m 0 #[vi p3, vi p2] []) := by first | (simp [entryFrame, mkF, argsToLocals, Value.category]; done) | rfl
set_option maxRecDepth 65536 in
set_option maxHeartbeats 40000000 in
theorem own_c9_sign (l : Launch) (Z : State) (a0 : Array Value) (hw : ∀ d ∈ tables_1, d.before a0 Z = true) (u0 u1 u2 u3 u4 u5 : Addr) (G : own_St Z u0 u1 u2 u3 u4 u5) (p2 : Int32) (p3 : Int32) (as1 : if_icmp.holds .ge p3 p2 = true) (as5 : if_icmp.holds .ne p3 p2 = false) (h0 : Heap) (n0 : Nat) (O0 : Old Z n0 h0) : own_Met l Z Y4 method_3_code 2 (some .int) ({ frames := 0, cells := 0, slots := 0, locals := 0 } : Room) #[xi p3, xi p2] h0 (own_QR (some (xi (0 : Int32))) h0 n0) := by
  intro ws
  refine MetFree.of_bodySF (plainFor_of_name pn0) hisR ?_
  intro p e s m args below meth c s₁ Bd hml0 hP hK
  obtain ⟨rfl, hZ, hh⟩ := hP
  have hx := Bd.exec
  have hby := Bd.bytes
  have hml : c.maxLocals = 2 := hml0
  have hown : s.vm.findClass "com/example/whyle/whyle/cfa/RelationConversePinLaw" = some m.cls := findClass_of_methodNamed Bd.named
  have hnm := (name_of_methodNamed Bd.named Bd.method).1
  have X0 : Stand p l e ({ frames := 0, cells := 0, slots := 0, locals := 0 } : Room) s m #[xi p3, xi p2] below meth c s₁ [] 0 0 := Stand.of_body Bd
  have e0 : s₁.heap = h0 := by rw [← hh, Bd.state]; rfl
  have N0 := Fr.nil n0
  have pre0 : ∀ t, Steps p.tables e below (s₁.setTop (mkF m 0 #[vi p3, vi p2] [])) t → Steps p.tables e below (s₁.setTop (entryFrame m #[xi p3, xi p2] 2)) t := fun t st => castTop (ef_own_c9_sign m u0 u1 u2 u3 u4 u5 p2 p3) st
  obtain ⟨fs, hr, hrun, hended, hW, hsame⟩ := X0.leave (v := some (xi (0 : Int32))) (fun h => by rw [Bd.returns] at h; cases h)
  refine ⟨_, _, pre0 _ ?_, hrun, hended, _, _, rfl, ?_, ⟨_, rfl⟩, hW, hsame.mono (by decide) (by decide)⟩
  · show own_S p e below s₁ (mkF m 0 #[vi p3, vi p2] []) _
    refine XS.iloadN X0.here hx rfl (hb hby d4_0) rfl ?_
    show own_S p e below s₁ (mkF m 1 #[vi p3, vi p2] [xi p3]) _
    refine XS.iloadN X0.here hx rfl (hb hby d4_1) rfl ?_
    show own_S p e below s₁ (mkF m 2 #[vi p3, vi p2] [xi p2, xi p3]) _
    refine XS.icmpYes X0.here hx rfl (pc0 := 2) (pc' := 7) rfl (hb hby d4_2) rfl as1 (by decide) (by decide) ?_
    show own_S p e below s₁ (mkF m 7 #[vi p3, vi p2] []) _
    refine XS.iloadN X0.here hx rfl (hb hby d4_7) rfl ?_
    show own_S p e below s₁ (mkF m 8 #[vi p3, vi p2] [xi p3]) _
    refine XS.iloadN X0.here hx rfl (hb hby d4_8) rfl ?_
    show own_S p e below s₁ (mkF m 9 #[vi p3, vi p2] [xi p2, xi p3]) _
    refine XS.icmpNo X0.here hx rfl (hb hby d4_9) rfl as5 ?_
    show own_S p e below s₁ (mkF m 12 #[vi p3, vi p2] []) _
    refine XS.iconst X0.here hx rfl (hb hby d4_12) ?_
    show own_S p e below s₁ (mkF m 13 #[vi p3, vi p2] [xi (0 : Int32)]) _
    exact retI X0 hx Bd.returns (hb hby d4_13) hr
  · exact ⟨rfl, N0, e0⟩
theorem ef_own_l1 (m : MethodId) (u0 u1 u2 u3 u4 u5 : Addr) (p1 : Int32) (p2 : Int32) (p3 : Int32) (p4 : Int32) : entryFrame m #[xi p1, xi p2, xi p3, xi p4] maxLocals = (mkF m 0 #[vi p1, vi p2, vi p3, vi p4, vu, vu, vu, vu, vu] []) := by first | (simp [entryFrame, mkF, argsToLocals, Value.category, maxLocals]; done) | rfl
set_option maxRecDepth 65536 in
set_option maxHeartbeats 40000000 in
theorem own_l1 (l : Launch) (Z : State) (a0 : Array Value) (hw : ∀ d ∈ tables_1, d.before a0 Z = true) (u0 u1 u2 u3 u4 u5 : Addr) (G : own_St Z u0 u1 u2 u3 u4 u5) (p1 : Int32) (p2 : Int32) (p3 : Int32) (p4 : Int32) (as8 : ((p1 &&& (2147483647 : Int32)) - ((p1 &&& (2147483647 : Int32)) / (6 : Int32)) * (6 : Int32)) = (0 : Int32)) (as14 : (p4 &&& (1 : Int32)) = (0 : Int32)) (as3 : if_icmp.holds .ge p2 p3 = true) (as4 : if_icmp.holds .ne p2 p3 = false) (as1 : if_icmp.holds .ge p3 p2 = true) (as5 : if_icmp.holds .ne p3 p2 = false) (h0 : Heap) (n0 : Nat) (O0 : Old Z n0 h0) : own_Met l Z x code maxLocals ret room_1 #[xi p1, xi p2, xi p3, xi p4] h0 (own_QL (some (xi (1 : Int32))) n0) := by
  intro ws
  refine MetFree.of_bodySF (plainFor_of_name pn0) hisR ?_
  intro p e s m args below meth c s₁ Bd hml0 hP hK
  obtain ⟨rfl, hZ, hh⟩ := hP
  have hx := Bd.exec
  have hby := Bd.bytes
  have hml : c.maxLocals = 9 := hml0
  have hown : s.vm.findClass "com/example/whyle/whyle/cfa/RelationConversePinLaw" = some m.cls := findClass_of_methodNamed Bd.named
  have hnm := (name_of_methodNamed Bd.named Bd.method).1
  have X0 : Stand p l e room_1 s m #[xi p1, xi p2, xi p3, xi p4] below meth c s₁ [] 0 0 := Stand.of_body Bd
  have e0 : s₁.heap = h0 := by rw [← hh, Bd.state]; rfl
  have N0 := Fr.nil n0
  have pre0 : ∀ t, Steps p.tables e below (s₁.setTop (mkF m 0 #[vi p1, vi p2, vi p3, vi p4, vu, vu, vu, vu, vu] [])) t → Steps p.tables e below (s₁.setTop (entryFrame m #[xi p1, xi p2, xi p3, xi p4] maxLocals)) t := fun t st => castTop (ef_own_l1 m u0 u1 u2 u3 u4 u5 p1 p2 p3 p4) st
  obtain ⟨_, _, ⟨T1, L1, k1, n1⟩, -, X1, ⟨Lc1, hQ1, l1, y1, z1⟩, st1⟩ := Jvm.LawKit.callS X0 hx (y := Y0) hown (mvT hZ (ww hw 0 rfl)) (mvT hZ (ww hw 1 rfl)) (mvT hZ (ww hw 2 rfl)) (mvT hZ (ww hw 3 rfl)) (by decide) (backOf (W := 0) (own_c0_pick l Z a0 hw u0 u1 u2 u3 u4 u5 G p1 as8 h0 n0 O0 []) hZ (ww hw 3 rfl) (ww hw 2 rfl) (by decide) (by decide)) (g := (mkF m 1 #[vi p1, vi p2, vi p3, vi p4, vu, vu, vu, vu, vu] [xi p1])) rfl (by rw [hml]; rfl) (argsL := [xi p1]) (rest := []) (lenOf pd0 rfl) rfl (by show 2 * 0 + _ ≤ _; exact Nat.le_of_eq rfl) (hb hby at_1) (fun _ _ => ⟨rfl, e0, (by decide : 0 + 0 ≤ _), (by decide : 0 + 0 ≤ _)⟩)
  dsimp only [Pt.U, Pt.locs, Pt.cells, Pt.slots] at X1 l1 y1 z1 st1 hQ1
  subst l1 y1 z1
  obtain ⟨rfl, Nq1, e1⟩ := hQ1
  have N1 := Fr.app N0 Nq1
  obtain ⟨cq2, kq2, qa2, qb2, qc2⟩ := isOf hZ e1 ((own_X_u0 G).ext O0.2)
  obtain ⟨_, _, ⟨T2, L2, k2, n2⟩, -, X2, ⟨Lc2, hQ2, l2, y2, z2⟩, st2⟩ := X1.virtualBack hx (y := Y3) (z := Y3) hown (mvT hZ (ww hw 8 rfl)) (mvT hZ (ww hw 9 rfl)) (notFace_of_selects (args := #[]) (mvT hZ (ww hw 11 rfl))) (mvT hZ (ww hw 11 rfl)) (mvT hZ (ww hw 10 rfl)) (by decide) (backOf (W := 0) (own_c1_converse l Z a0 hw u0 u1 u2 u3 u4 u5 G h0 n0 O0 []) hZ (ww hw 12 rfl) (ww hw 6 rfl) (by decide) (by decide)) qa2 qc2 (g := (mkF m 21 #[vi p1, vi p2, vi p3, vi p4, vr u0, vi p3, vu, vu, vu] [xr u0])) rfl (by rw [hml]; rfl) (Steps.refl _) (argsL := []) (rest := []) (lenOf pd2 rfl) rfl (by show 2 * 0 + _ ≤ _; exact Nat.le_of_eq rfl) (hb hby at_21) (fun _ _ => ⟨rfl, e1, (by decide : 0 + 0 ≤ _), (by decide : 0 + 0 ≤ _)⟩)
  dsimp only [Pt.U, Pt.locs, Pt.cells, Pt.slots] at X2 l2 y2 z2 st2 hQ2
  subst l2 y2 z2
  obtain ⟨rfl, Nq2, e2⟩ := hQ2
  have N2 := Fr.app N1 Nq2
  obtain ⟨_, _, ⟨T3, L3, k3, n3⟩, -, X3, ⟨Lc3, hQ3, l3, y3, z3⟩, st3⟩ := Jvm.LawKit.callS X2 hx (y := Y4) hown (mvT hZ (ww hw 23 rfl)) (mvT hZ (ww hw 24 rfl)) (mvT hZ (ww hw 2 rfl)) (mvT hZ (ww hw 25 rfl)) (by decide) (backOf (W := 1) (own_c7_sign l Z a0 hw u0 u1 u2 u3 u4 u5 G p2 p3 as3 as4 h0 n0 O0 []) hZ (ww hw 25 rfl) (ww hw 2 rfl) (by decide) (by decide)) (g := (mkF m 38 #[vi p1, vi p2, vi p3, vi p4, vr u0, vi p3, vr u0, vu, vu] [xi p3, xi p2, xr u0])) rfl (by rw [hml]; rfl) (argsL := [xi p2, xi p3]) (rest := [xr u0]) (lenOf pd3 rfl) rfl (by show 2 * 0 + _ ≤ _; exact Nat.le_of_eq rfl) (hb hby at_38) (fun _ _ => ⟨rfl, e2, (by decide : 0 + 0 ≤ _), (by decide : 0 + 0 ≤ _)⟩)
  dsimp only [Pt.U, Pt.locs, Pt.cells, Pt.slots] at X3 l3 y3 z3 st3 hQ3
  subst l3 y3 z3
  obtain ⟨rfl, Nq3, e3⟩ := hQ3
  have N3 := Fr.app N2 Nq3
  obtain ⟨cq4, kq4, qa4, qb4, qc4⟩ := isOf hZ e3 ((own_X_u0 G).ext O0.2)
  obtain ⟨_, _, ⟨T4, L4, k4, n4⟩, -, X4, ⟨Lc4, hQ4, l4, y4, z4⟩, st4⟩ := X3.virtualBack hx (y := Y5) (z := Y5) hown (mvT hZ (ww hw 26 rfl)) (mvT hZ (ww hw 27 rfl)) (notFace_of_selects (args := #[]) (mvT hZ (ww hw 29 rfl))) (mvT hZ (ww hw 29 rfl)) (mvT hZ (ww hw 28 rfl)) (by decide) (backOf (W := 0) (own_c8_holds l Z a0 hw u0 u1 u2 u3 u4 u5 G h0 n0 O0 []) hZ (ww hw 30 rfl) (ww hw 6 rfl) (by decide) (by decide)) qa4 qc4 (g := (mkF m 41 #[vi p1, vi p2, vi p3, vi p4, vr u0, vi p3, vr u0, vu, vu] [xi (0 : Int32), xr u0])) rfl (by rw [hml]; rfl) (Steps.refl _) (argsL := [xi (0 : Int32)]) (rest := []) (lenOf pd4 rfl) rfl (by show 2 * 0 + _ ≤ _; exact Nat.le_of_eq rfl) (hb hby at_41) (fun _ _ => ⟨rfl, e3, (by decide : 0 + 0 ≤ _), (by decide : 0 + 0 ≤ _)⟩)
  dsimp only [Pt.U, Pt.locs, Pt.cells, Pt.slots] at X4 l4 y4 z4 st4 hQ4
  subst l4 y4 z4
  obtain ⟨rfl, Nq4, e4⟩ := hQ4
  have N4 := Fr.app N3 Nq4
  obtain ⟨_, _, ⟨T5, L5, k5, n5⟩, -, X5, ⟨Lc5, hQ5, l5, y5, z5⟩, st5⟩ := Jvm.LawKit.callS X4 hx (y := Y4) hown (mvT hZ (ww hw 23 rfl)) (mvT hZ (ww hw 24 rfl)) (mvT hZ (ww hw 2 rfl)) (mvT hZ (ww hw 25 rfl)) (by decide) (backOf (W := 1) (own_c9_sign l Z a0 hw u0 u1 u2 u3 u4 u5 G p2 p3 as1 as5 h0 n0 O0 []) hZ (ww hw 25 rfl) (ww hw 2 rfl) (by decide) (by decide)) (g := (mkF m 51 #[vi p1, vi p2, vi p3, vi p4, vr u0, vi p3, vr u0, vi (1 : Int32), vu] [xi p2, xi p3, xr u0])) rfl (by rw [hml]; rfl) (argsL := [xi p3, xi p2]) (rest := [xr u0]) (lenOf pd3 rfl) rfl (by show 2 * 0 + _ ≤ _; exact Nat.le_of_eq rfl) (hb hby at_51) (fun _ _ => ⟨rfl, e4, (by decide : 0 + 0 ≤ _), (by decide : 0 + 0 ≤ _)⟩)
  dsimp only [Pt.U, Pt.locs, Pt.cells, Pt.slots] at X5 l5 y5 z5 st5 hQ5
  subst l5 y5 z5
  obtain ⟨rfl, Nq5, e5⟩ := hQ5
  have N5 := Fr.app N4 Nq5
  obtain ⟨cq6, kq6, qa6, qb6, qc6⟩ := isOf hZ e5 ((own_X_u0 G).ext O0.2)
  obtain ⟨_, _, ⟨T6, L6, k6, n6⟩, -, X6, ⟨Lc6, hQ6, l6, y6, z6⟩, st6⟩ := X5.virtualBack hx (y := Y5) (z := Y5) hown (mvT hZ (ww hw 26 rfl)) (mvT hZ (ww hw 27 rfl)) (notFace_of_selects (args := #[]) (mvT hZ (ww hw 29 rfl))) (mvT hZ (ww hw 29 rfl)) (mvT hZ (ww hw 28 rfl)) (by decide) (backOf (W := 0) (own_c8_holds l Z a0 hw u0 u1 u2 u3 u4 u5 G h0 n0 O0 []) hZ (ww hw 30 rfl) (ww hw 6 rfl) (by decide) (by decide)) qa6 qc6 (g := (mkF m 54 #[vi p1, vi p2, vi p3, vi p4, vr u0, vi p3, vr u0, vi (1 : Int32), vu] [xi (0 : Int32), xr u0])) rfl (by rw [hml]; rfl) (Steps.refl _) (argsL := [xi (0 : Int32)]) (rest := []) (lenOf pd4 rfl) rfl (by show 2 * 0 + _ ≤ _; exact Nat.le_of_eq rfl) (hb hby at_54) (fun _ _ => ⟨rfl, e5, (by decide : 0 + 0 ≤ _), (by decide : 0 + 0 ≤ _)⟩)
  dsimp only [Pt.U, Pt.locs, Pt.cells, Pt.slots] at X6 l6 y6 z6 st6 hQ6
  subst l6 y6 z6
  obtain ⟨rfl, Nq6, e6⟩ := hQ6
  have N6 := Fr.app N5 Nq6
  obtain ⟨fs, hr, hrun, hended, hW, hsame⟩ := X6.leave (v := some (xi (1 : Int32))) (fun h => by rw [Bd.returns] at h; cases h)
  refine ⟨_, _, pre0 _ ?_, hrun, hended, _, _, rfl, ?_, ⟨_, rfl⟩, hW, hsame.mono (by decide) (by decide)⟩
  · show own_S p e below s₁ (mkF m 0 #[vi p1, vi p2, vi p3, vi p4, vu, vu, vu, vu, vu] []) _
    refine XS.iloadN X0.here hx rfl (hb hby at_0) rfl ?_
    show own_S p e below s₁ (mkF m 1 #[vi p1, vi p2, vi p3, vi p4, vu, vu, vu, vu, vu] [xi p1]) _
    refine st1 _ ?_
    show own_S p e below T1 (mkF m 4 #[vi p1, vi p2, vi p3, vi p4, vu, vu, vu, vu, vu] [xr u0]) _
    refine XS.astore X1.here hx rfl (hb hby at_4) rfl rfl (l' := #[vi p1, vi p2, vi p3, vi p4, vr u0, vu, vu, vu, vu]) rfl ?_
    show own_S p e below T1 (mkF m 6 #[vi p1, vi p2, vi p3, vi p4, vr u0, vu, vu, vu, vu] []) _
    refine XS.iloadN X1.here hx rfl (hb hby at_6) rfl ?_
    show own_S p e below T1 (mkF m 7 #[vi p1, vi p2, vi p3, vi p4, vr u0, vu, vu, vu, vu] [xi p4]) _
    refine XS.iconst X1.here hx rfl (hb hby at_7) ?_
    show own_S p e below T1 (mkF m 8 #[vi p1, vi p2, vi p3, vi p4, vr u0, vu, vu, vu, vu] [xi (1 : Int32), xi p4]) _
    refine XS.iand X1.here hx rfl (hb hby at_8) rfl ?_
    show own_S p e below T1 (mkF m 9 #[vi p1, vi p2, vi p3, vi p4, vr u0, vu, vu, vu, vu] [xi (p4 &&& (1 : Int32))]) _
    refine castTop (show (mkF m 9 #[vi p1, vi p2, vi p3, vi p4, vr u0, vu, vu, vu, vu] [xi (p4 &&& (1 : Int32))]) = (mkF m 9 #[vi p1, vi p2, vi p3, vi p4, vr u0, vu, vu, vu, vu] [xi (0 : Int32)]) from by rw [as14]) ?_
    show own_S p e below T1 (mkF m 9 #[vi p1, vi p2, vi p3, vi p4, vr u0, vu, vu, vu, vu] [xi (0 : Int32)]) _
    refine XS.ifYes X1.here hx rfl (pc0 := 9) (pc' := 16) rfl (hb hby at_9) rfl (by decide) (by decide) (by decide) ?_
    show own_S p e below T1 (mkF m 16 #[vi p1, vi p2, vi p3, vi p4, vr u0, vu, vu, vu, vu] []) _
    refine XS.iloadN X1.here hx rfl (hb hby at_16) rfl ?_
    show own_S p e below T1 (mkF m 17 #[vi p1, vi p2, vi p3, vi p4, vr u0, vu, vu, vu, vu] [xi p3]) _
    refine XS.istore X1.here hx rfl (hb hby at_17) rfl (l' := #[vi p1, vi p2, vi p3, vi p4, vr u0, vi p3, vu, vu, vu]) rfl ?_
    show own_S p e below T1 (mkF m 19 #[vi p1, vi p2, vi p3, vi p4, vr u0, vi p3, vu, vu, vu] []) _
    refine XS.aload X1.here hx rfl (hb hby at_19) rfl rfl ?_
    show own_S p e below T1 (mkF m 21 #[vi p1, vi p2, vi p3, vi p4, vr u0, vi p3, vu, vu, vu] [xr u0]) _
    refine st2.trans ?_
    show own_S p e below T2 (mkF m 24 #[vi p1, vi p2, vi p3, vi p4, vr u0, vi p3, vu, vu, vu] [xr u0]) _
    refine XS.astore X2.here hx rfl (hb hby at_24) rfl rfl (l' := #[vi p1, vi p2, vi p3, vi p4, vr u0, vi p3, vr u0, vu, vu]) rfl ?_
    show own_S p e below T2 (mkF m 26 #[vi p1, vi p2, vi p3, vi p4, vr u0, vi p3, vr u0, vu, vu] []) _
    refine XS.aload X2.here hx rfl (hb hby at_26) rfl rfl ?_
    show own_S p e below T2 (mkF m 28 #[vi p1, vi p2, vi p3, vi p4, vr u0, vi p3, vr u0, vu, vu] [xr u0]) _
    refine Jvm.Free.XT.nonnullYes X2.here hx rfl (pc0 := 28) (pc' := 33) rfl (hb hby at_28) rfl rfl (by simp) (by decide) (by decide) ?_
    show own_S p e below T2 (mkF m 33 #[vi p1, vi p2, vi p3, vi p4, vr u0, vi p3, vr u0, vu, vu] []) _
    refine XS.aload X2.here hx rfl (hb hby at_33) rfl rfl ?_
    show own_S p e below T2 (mkF m 35 #[vi p1, vi p2, vi p3, vi p4, vr u0, vi p3, vr u0, vu, vu] [xr u0]) _
    refine XS.iloadN X2.here hx rfl (hb hby at_35) rfl ?_
    show own_S p e below T2 (mkF m 36 #[vi p1, vi p2, vi p3, vi p4, vr u0, vi p3, vr u0, vu, vu] [xi p2, xr u0]) _
    refine XS.iload X2.here hx rfl (hb hby at_36) rfl ?_
    show own_S p e below T2 (mkF m 38 #[vi p1, vi p2, vi p3, vi p4, vr u0, vi p3, vr u0, vu, vu] [xi p3, xi p2, xr u0]) _
    refine st3 _ ?_
    show own_S p e below T3 (mkF m 41 #[vi p1, vi p2, vi p3, vi p4, vr u0, vi p3, vr u0, vu, vu] [xi (0 : Int32), xr u0]) _
    refine st4.trans ?_
    show own_S p e below T4 (mkF m 44 #[vi p1, vi p2, vi p3, vi p4, vr u0, vi p3, vr u0, vu, vu] [xi (1 : Int32)]) _
    refine XS.istore X4.here hx rfl (hb hby at_44) rfl (l' := #[vi p1, vi p2, vi p3, vi p4, vr u0, vi p3, vr u0, vi (1 : Int32), vu]) rfl ?_
    show own_S p e below T4 (mkF m 46 #[vi p1, vi p2, vi p3, vi p4, vr u0, vi p3, vr u0, vi (1 : Int32), vu] []) _
    refine XS.aload X4.here hx rfl (hb hby at_46) rfl rfl ?_
    show own_S p e below T4 (mkF m 48 #[vi p1, vi p2, vi p3, vi p4, vr u0, vi p3, vr u0, vi (1 : Int32), vu] [xr u0]) _
    refine XS.iload X4.here hx rfl (hb hby at_48) rfl ?_
    show own_S p e below T4 (mkF m 50 #[vi p1, vi p2, vi p3, vi p4, vr u0, vi p3, vr u0, vi (1 : Int32), vu] [xi p3, xr u0]) _
    refine XS.iloadN X4.here hx rfl (hb hby at_50) rfl ?_
    show own_S p e below T4 (mkF m 51 #[vi p1, vi p2, vi p3, vi p4, vr u0, vi p3, vr u0, vi (1 : Int32), vu] [xi p2, xi p3, xr u0]) _
    refine st5 _ ?_
    show own_S p e below T5 (mkF m 54 #[vi p1, vi p2, vi p3, vi p4, vr u0, vi p3, vr u0, vi (1 : Int32), vu] [xi (0 : Int32), xr u0]) _
    refine st6.trans ?_
    show own_S p e below T6 (mkF m 57 #[vi p1, vi p2, vi p3, vi p4, vr u0, vi p3, vr u0, vi (1 : Int32), vu] [xi (1 : Int32)]) _
    refine XS.istore X6.here hx rfl (hb hby at_57) rfl (l' := #[vi p1, vi p2, vi p3, vi p4, vr u0, vi p3, vr u0, vi (1 : Int32), vi (1 : Int32)]) rfl ?_
    show own_S p e below T6 (mkF m 59 #[vi p1, vi p2, vi p3, vi p4, vr u0, vi p3, vr u0, vi (1 : Int32), vi (1 : Int32)] []) _
    refine XS.iload X6.here hx rfl (hb hby at_59) rfl ?_
    show own_S p e below T6 (mkF m 61 #[vi p1, vi p2, vi p3, vi p4, vr u0, vi p3, vr u0, vi (1 : Int32), vi (1 : Int32)] [xi (1 : Int32)]) _
    refine XS.iload X6.here hx rfl (hb hby at_61) rfl ?_
    show own_S p e below T6 (mkF m 63 #[vi p1, vi p2, vi p3, vi p4, vr u0, vi p3, vr u0, vi (1 : Int32), vi (1 : Int32)] [xi (1 : Int32), xi (1 : Int32)]) _
    refine XS.icmpNo X6.here hx rfl (hb hby at_63) rfl (by decide) ?_
    show own_S p e below T6 (mkF m 66 #[vi p1, vi p2, vi p3, vi p4, vr u0, vi p3, vr u0, vi (1 : Int32), vi (1 : Int32)] []) _
    refine XS.iconst X6.here hx rfl (hb hby at_66) ?_
    show own_S p e below T6 (mkF m 67 #[vi p1, vi p2, vi p3, vi p4, vr u0, vi p3, vr u0, vi (1 : Int32), vi (1 : Int32)] [xi (1 : Int32)]) _
    refine XS.goto X6.here hx rfl (pc0 := 67) (pc' := 71) rfl (hb hby at_67) (by decide) (by decide) ?_
    show own_S p e below T6 (mkF m 71 #[vi p1, vi p2, vi p3, vi p4, vr u0, vi p3, vr u0, vi (1 : Int32), vi (1 : Int32)] [xi (1 : Int32)]) _
    exact retN X6 hx (t := .boolean) Bd.returns (by simp) (hb hby at_71) hr
  · exact ⟨rfl, N6⟩
theorem ef_own_c10_sign (m : MethodId) (u0 u1 u2 u3 u4 u5 : Addr) (p2 : Int32) (p3 : Int32) : entryFrame m #[xi p2, xi p3] 2 = (mkF m 0 #[vi p2, vi p3] []) := by first | (simp [entryFrame, mkF, argsToLocals, Value.category]; done) | rfl
set_option maxRecDepth 65536 in
set_option maxHeartbeats 40000000 in
theorem own_c10_sign (l : Launch) (Z : State) (a0 : Array Value) (hw : ∀ d ∈ tables_1, d.before a0 Z = true) (u0 u1 u2 u3 u4 u5 : Addr) (G : own_St Z u0 u1 u2 u3 u4 u5) (p2 : Int32) (p3 : Int32) (as3 : if_icmp.holds .ge p2 p3 = true) (as6 : if_icmp.holds .ne p2 p3 = true) (h0 : Heap) (n0 : Nat) (O0 : Old Z n0 h0) : own_Met l Z Y4 method_3_code 2 (some .int) ({ frames := 0, cells := 0, slots := 0, locals := 0 } : Room) #[xi p2, xi p3] h0 (own_QR (some (xi (1 : Int32))) h0 n0) := by
  intro ws
  refine MetFree.of_bodySF (plainFor_of_name pn0) hisR ?_
  intro p e s m args below meth c s₁ Bd hml0 hP hK
  obtain ⟨rfl, hZ, hh⟩ := hP
  have hx := Bd.exec
  have hby := Bd.bytes
  have hml : c.maxLocals = 2 := hml0
  have hown : s.vm.findClass "com/example/whyle/whyle/cfa/RelationConversePinLaw" = some m.cls := findClass_of_methodNamed Bd.named
  have hnm := (name_of_methodNamed Bd.named Bd.method).1
  have X0 : Stand p l e ({ frames := 0, cells := 0, slots := 0, locals := 0 } : Room) s m #[xi p2, xi p3] below meth c s₁ [] 0 0 := Stand.of_body Bd
  have e0 : s₁.heap = h0 := by rw [← hh, Bd.state]; rfl
  have N0 := Fr.nil n0
  have pre0 : ∀ t, Steps p.tables e below (s₁.setTop (mkF m 0 #[vi p2, vi p3] [])) t → Steps p.tables e below (s₁.setTop (entryFrame m #[xi p2, xi p3] 2)) t := fun t st => castTop (ef_own_c10_sign m u0 u1 u2 u3 u4 u5 p2 p3) st
  obtain ⟨fs, hr, hrun, hended, hW, hsame⟩ := X0.leave (v := some (xi (1 : Int32))) (fun h => by rw [Bd.returns] at h; cases h)
  refine ⟨_, _, pre0 _ ?_, hrun, hended, _, _, rfl, ?_, ⟨_, rfl⟩, hW, hsame.mono (by decide) (by decide)⟩
  · show own_S p e below s₁ (mkF m 0 #[vi p2, vi p3] []) _
    refine XS.iloadN X0.here hx rfl (hb hby d4_0) rfl ?_
    show own_S p e below s₁ (mkF m 1 #[vi p2, vi p3] [xi p2]) _
    refine XS.iloadN X0.here hx rfl (hb hby d4_1) rfl ?_
    show own_S p e below s₁ (mkF m 2 #[vi p2, vi p3] [xi p3, xi p2]) _
    refine XS.icmpYes X0.here hx rfl (pc0 := 2) (pc' := 7) rfl (hb hby d4_2) rfl as3 (by decide) (by decide) ?_
    show own_S p e below s₁ (mkF m 7 #[vi p2, vi p3] []) _
    refine XS.iloadN X0.here hx rfl (hb hby d4_7) rfl ?_
    show own_S p e below s₁ (mkF m 8 #[vi p2, vi p3] [xi p2]) _
    refine XS.iloadN X0.here hx rfl (hb hby d4_8) rfl ?_
    show own_S p e below s₁ (mkF m 9 #[vi p2, vi p3] [xi p3, xi p2]) _
    refine XS.icmpYes X0.here hx rfl (pc0 := 9) (pc' := 14) rfl (hb hby d4_9) rfl as6 (by decide) (by decide) ?_
    show own_S p e below s₁ (mkF m 14 #[vi p2, vi p3] []) _
    refine XS.iconst X0.here hx rfl (hb hby d4_14) ?_
    show own_S p e below s₁ (mkF m 15 #[vi p2, vi p3] [xi (1 : Int32)]) _
    exact retI X0 hx Bd.returns (hb hby d4_15) hr
  · exact ⟨rfl, N0, e0⟩
theorem ef_own_c11_sign (m : MethodId) (u0 u1 u2 u3 u4 u5 : Addr) (p2 : Int32) (p3 : Int32) : entryFrame m #[xi p3, xi p2] 2 = (mkF m 0 #[vi p3, vi p2] []) := by first | (simp [entryFrame, mkF, argsToLocals, Value.category]; done) | rfl
set_option maxRecDepth 65536 in
set_option maxHeartbeats 40000000 in
theorem own_c11_sign (l : Launch) (Z : State) (a0 : Array Value) (hw : ∀ d ∈ tables_1, d.before a0 Z = true) (u0 u1 u2 u3 u4 u5 : Addr) (G : own_St Z u0 u1 u2 u3 u4 u5) (p2 : Int32) (p3 : Int32) (as7 : if_icmp.holds .ge p3 p2 = false) (h0 : Heap) (n0 : Nat) (O0 : Old Z n0 h0) : own_Met l Z Y4 method_3_code 2 (some .int) ({ frames := 0, cells := 0, slots := 0, locals := 0 } : Room) #[xi p3, xi p2] h0 (own_QR (some (xi (-1 : Int32))) h0 n0) := by
  intro ws
  refine MetFree.of_bodySF (plainFor_of_name pn0) hisR ?_
  intro p e s m args below meth c s₁ Bd hml0 hP hK
  obtain ⟨rfl, hZ, hh⟩ := hP
  have hx := Bd.exec
  have hby := Bd.bytes
  have hml : c.maxLocals = 2 := hml0
  have hown : s.vm.findClass "com/example/whyle/whyle/cfa/RelationConversePinLaw" = some m.cls := findClass_of_methodNamed Bd.named
  have hnm := (name_of_methodNamed Bd.named Bd.method).1
  have X0 : Stand p l e ({ frames := 0, cells := 0, slots := 0, locals := 0 } : Room) s m #[xi p3, xi p2] below meth c s₁ [] 0 0 := Stand.of_body Bd
  have e0 : s₁.heap = h0 := by rw [← hh, Bd.state]; rfl
  have N0 := Fr.nil n0
  have pre0 : ∀ t, Steps p.tables e below (s₁.setTop (mkF m 0 #[vi p3, vi p2] [])) t → Steps p.tables e below (s₁.setTop (entryFrame m #[xi p3, xi p2] 2)) t := fun t st => castTop (ef_own_c11_sign m u0 u1 u2 u3 u4 u5 p2 p3) st
  obtain ⟨fs, hr, hrun, hended, hW, hsame⟩ := X0.leave (v := some (xi (-1 : Int32))) (fun h => by rw [Bd.returns] at h; cases h)
  refine ⟨_, _, pre0 _ ?_, hrun, hended, _, _, rfl, ?_, ⟨_, rfl⟩, hW, hsame.mono (by decide) (by decide)⟩
  · show own_S p e below s₁ (mkF m 0 #[vi p3, vi p2] []) _
    refine XS.iloadN X0.here hx rfl (hb hby d4_0) rfl ?_
    show own_S p e below s₁ (mkF m 1 #[vi p3, vi p2] [xi p3]) _
    refine XS.iloadN X0.here hx rfl (hb hby d4_1) rfl ?_
    show own_S p e below s₁ (mkF m 2 #[vi p3, vi p2] [xi p2, xi p3]) _
    refine XS.icmpNo X0.here hx rfl (hb hby d4_2) rfl as7 ?_
    show own_S p e below s₁ (mkF m 5 #[vi p3, vi p2] []) _
    refine XS.iconst X0.here hx rfl (hb hby d4_5) ?_
    show own_S p e below s₁ (mkF m 6 #[vi p3, vi p2] [xi (-1 : Int32)]) _
    exact retI X0 hx Bd.returns (hb hby d4_6) hr
  · exact ⟨rfl, N0, e0⟩
theorem ef_own_l2 (m : MethodId) (u0 u1 u2 u3 u4 u5 : Addr) (p1 : Int32) (p2 : Int32) (p3 : Int32) (p4 : Int32) : entryFrame m #[xi p1, xi p2, xi p3, xi p4] maxLocals = (mkF m 0 #[vi p1, vi p2, vi p3, vi p4, vu, vu, vu, vu, vu] []) := by first | (simp [entryFrame, mkF, argsToLocals, Value.category, maxLocals]; done) | rfl
set_option maxRecDepth 65536 in
set_option maxHeartbeats 40000000 in
theorem own_l2 (l : Launch) (Z : State) (a0 : Array Value) (hw : ∀ d ∈ tables_1, d.before a0 Z = true) (u0 u1 u2 u3 u4 u5 : Addr) (G : own_St Z u0 u1 u2 u3 u4 u5) (p1 : Int32) (p2 : Int32) (p3 : Int32) (p4 : Int32) (as8 : ((p1 &&& (2147483647 : Int32)) - ((p1 &&& (2147483647 : Int32)) / (6 : Int32)) * (6 : Int32)) = (0 : Int32)) (as14 : (p4 &&& (1 : Int32)) = (0 : Int32)) (as3 : if_icmp.holds .ge p2 p3 = true) (as6 : if_icmp.holds .ne p2 p3 = true) (as7 : if_icmp.holds .ge p3 p2 = false) (h0 : Heap) (n0 : Nat) (O0 : Old Z n0 h0) : own_Met l Z x code maxLocals ret room_1 #[xi p1, xi p2, xi p3, xi p4] h0 (own_QL (some (xi (1 : Int32))) n0) := by
  intro ws
  refine MetFree.of_bodySF (plainFor_of_name pn0) hisR ?_
  intro p e s m args below meth c s₁ Bd hml0 hP hK
  obtain ⟨rfl, hZ, hh⟩ := hP
  have hx := Bd.exec
  have hby := Bd.bytes
  have hml : c.maxLocals = 9 := hml0
  have hown : s.vm.findClass "com/example/whyle/whyle/cfa/RelationConversePinLaw" = some m.cls := findClass_of_methodNamed Bd.named
  have hnm := (name_of_methodNamed Bd.named Bd.method).1
  have X0 : Stand p l e room_1 s m #[xi p1, xi p2, xi p3, xi p4] below meth c s₁ [] 0 0 := Stand.of_body Bd
  have e0 : s₁.heap = h0 := by rw [← hh, Bd.state]; rfl
  have N0 := Fr.nil n0
  have pre0 : ∀ t, Steps p.tables e below (s₁.setTop (mkF m 0 #[vi p1, vi p2, vi p3, vi p4, vu, vu, vu, vu, vu] [])) t → Steps p.tables e below (s₁.setTop (entryFrame m #[xi p1, xi p2, xi p3, xi p4] maxLocals)) t := fun t st => castTop (ef_own_l2 m u0 u1 u2 u3 u4 u5 p1 p2 p3 p4) st
  obtain ⟨_, _, ⟨T1, L1, k1, n1⟩, -, X1, ⟨Lc1, hQ1, l1, y1, z1⟩, st1⟩ := Jvm.LawKit.callS X0 hx (y := Y0) hown (mvT hZ (ww hw 0 rfl)) (mvT hZ (ww hw 1 rfl)) (mvT hZ (ww hw 2 rfl)) (mvT hZ (ww hw 3 rfl)) (by decide) (backOf (W := 0) (own_c0_pick l Z a0 hw u0 u1 u2 u3 u4 u5 G p1 as8 h0 n0 O0 []) hZ (ww hw 3 rfl) (ww hw 2 rfl) (by decide) (by decide)) (g := (mkF m 1 #[vi p1, vi p2, vi p3, vi p4, vu, vu, vu, vu, vu] [xi p1])) rfl (by rw [hml]; rfl) (argsL := [xi p1]) (rest := []) (lenOf pd0 rfl) rfl (by show 2 * 0 + _ ≤ _; exact Nat.le_of_eq rfl) (hb hby at_1) (fun _ _ => ⟨rfl, e0, (by decide : 0 + 0 ≤ _), (by decide : 0 + 0 ≤ _)⟩)
  dsimp only [Pt.U, Pt.locs, Pt.cells, Pt.slots] at X1 l1 y1 z1 st1 hQ1
  subst l1 y1 z1
  obtain ⟨rfl, Nq1, e1⟩ := hQ1
  have N1 := Fr.app N0 Nq1
  obtain ⟨cq2, kq2, qa2, qb2, qc2⟩ := isOf hZ e1 ((own_X_u0 G).ext O0.2)
  obtain ⟨_, _, ⟨T2, L2, k2, n2⟩, -, X2, ⟨Lc2, hQ2, l2, y2, z2⟩, st2⟩ := X1.virtualBack hx (y := Y3) (z := Y3) hown (mvT hZ (ww hw 8 rfl)) (mvT hZ (ww hw 9 rfl)) (notFace_of_selects (args := #[]) (mvT hZ (ww hw 11 rfl))) (mvT hZ (ww hw 11 rfl)) (mvT hZ (ww hw 10 rfl)) (by decide) (backOf (W := 0) (own_c1_converse l Z a0 hw u0 u1 u2 u3 u4 u5 G h0 n0 O0 []) hZ (ww hw 12 rfl) (ww hw 6 rfl) (by decide) (by decide)) qa2 qc2 (g := (mkF m 21 #[vi p1, vi p2, vi p3, vi p4, vr u0, vi p3, vu, vu, vu] [xr u0])) rfl (by rw [hml]; rfl) (Steps.refl _) (argsL := []) (rest := []) (lenOf pd2 rfl) rfl (by show 2 * 0 + _ ≤ _; exact Nat.le_of_eq rfl) (hb hby at_21) (fun _ _ => ⟨rfl, e1, (by decide : 0 + 0 ≤ _), (by decide : 0 + 0 ≤ _)⟩)
  dsimp only [Pt.U, Pt.locs, Pt.cells, Pt.slots] at X2 l2 y2 z2 st2 hQ2
  subst l2 y2 z2
  obtain ⟨rfl, Nq2, e2⟩ := hQ2
  have N2 := Fr.app N1 Nq2
  obtain ⟨_, _, ⟨T3, L3, k3, n3⟩, -, X3, ⟨Lc3, hQ3, l3, y3, z3⟩, st3⟩ := Jvm.LawKit.callS X2 hx (y := Y4) hown (mvT hZ (ww hw 23 rfl)) (mvT hZ (ww hw 24 rfl)) (mvT hZ (ww hw 2 rfl)) (mvT hZ (ww hw 25 rfl)) (by decide) (backOf (W := 1) (own_c10_sign l Z a0 hw u0 u1 u2 u3 u4 u5 G p2 p3 as3 as6 h0 n0 O0 []) hZ (ww hw 25 rfl) (ww hw 2 rfl) (by decide) (by decide)) (g := (mkF m 38 #[vi p1, vi p2, vi p3, vi p4, vr u0, vi p3, vr u0, vu, vu] [xi p3, xi p2, xr u0])) rfl (by rw [hml]; rfl) (argsL := [xi p2, xi p3]) (rest := [xr u0]) (lenOf pd3 rfl) rfl (by show 2 * 0 + _ ≤ _; exact Nat.le_of_eq rfl) (hb hby at_38) (fun _ _ => ⟨rfl, e2, (by decide : 0 + 0 ≤ _), (by decide : 0 + 0 ≤ _)⟩)
  dsimp only [Pt.U, Pt.locs, Pt.cells, Pt.slots] at X3 l3 y3 z3 st3 hQ3
  subst l3 y3 z3
  obtain ⟨rfl, Nq3, e3⟩ := hQ3
  have N3 := Fr.app N2 Nq3
  obtain ⟨cq4, kq4, qa4, qb4, qc4⟩ := isOf hZ e3 ((own_X_u0 G).ext O0.2)
  obtain ⟨_, _, ⟨T4, L4, k4, n4⟩, -, X4, ⟨Lc4, hQ4, l4, y4, z4⟩, st4⟩ := X3.virtualBack hx (y := Y5) (z := Y5) hown (mvT hZ (ww hw 26 rfl)) (mvT hZ (ww hw 27 rfl)) (notFace_of_selects (args := #[]) (mvT hZ (ww hw 29 rfl))) (mvT hZ (ww hw 29 rfl)) (mvT hZ (ww hw 28 rfl)) (by decide) (backOf (W := 0) (own_c6_holds l Z a0 hw u0 u1 u2 u3 u4 u5 G h0 n0 O0 []) hZ (ww hw 30 rfl) (ww hw 6 rfl) (by decide) (by decide)) qa4 qc4 (g := (mkF m 41 #[vi p1, vi p2, vi p3, vi p4, vr u0, vi p3, vr u0, vu, vu] [xi (1 : Int32), xr u0])) rfl (by rw [hml]; rfl) (Steps.refl _) (argsL := [xi (1 : Int32)]) (rest := []) (lenOf pd4 rfl) rfl (by show 2 * 0 + _ ≤ _; exact Nat.le_of_eq rfl) (hb hby at_41) (fun _ _ => ⟨rfl, e3, (by decide : 0 + 0 ≤ _), (by decide : 0 + 0 ≤ _)⟩)
  dsimp only [Pt.U, Pt.locs, Pt.cells, Pt.slots] at X4 l4 y4 z4 st4 hQ4
  subst l4 y4 z4
  obtain ⟨rfl, Nq4, e4⟩ := hQ4
  have N4 := Fr.app N3 Nq4
  obtain ⟨_, _, ⟨T5, L5, k5, n5⟩, -, X5, ⟨Lc5, hQ5, l5, y5, z5⟩, st5⟩ := Jvm.LawKit.callS X4 hx (y := Y4) hown (mvT hZ (ww hw 23 rfl)) (mvT hZ (ww hw 24 rfl)) (mvT hZ (ww hw 2 rfl)) (mvT hZ (ww hw 25 rfl)) (by decide) (backOf (W := 1) (own_c11_sign l Z a0 hw u0 u1 u2 u3 u4 u5 G p2 p3 as7 h0 n0 O0 []) hZ (ww hw 25 rfl) (ww hw 2 rfl) (by decide) (by decide)) (g := (mkF m 51 #[vi p1, vi p2, vi p3, vi p4, vr u0, vi p3, vr u0, vi (0 : Int32), vu] [xi p2, xi p3, xr u0])) rfl (by rw [hml]; rfl) (argsL := [xi p3, xi p2]) (rest := [xr u0]) (lenOf pd3 rfl) rfl (by show 2 * 0 + _ ≤ _; exact Nat.le_of_eq rfl) (hb hby at_51) (fun _ _ => ⟨rfl, e4, (by decide : 0 + 0 ≤ _), (by decide : 0 + 0 ≤ _)⟩)
  dsimp only [Pt.U, Pt.locs, Pt.cells, Pt.slots] at X5 l5 y5 z5 st5 hQ5
  subst l5 y5 z5
  obtain ⟨rfl, Nq5, e5⟩ := hQ5
  have N5 := Fr.app N4 Nq5
  obtain ⟨cq6, kq6, qa6, qb6, qc6⟩ := isOf hZ e5 ((own_X_u0 G).ext O0.2)
  obtain ⟨_, _, ⟨T6, L6, k6, n6⟩, -, X6, ⟨Lc6, hQ6, l6, y6, z6⟩, st6⟩ := X5.virtualBack hx (y := Y5) (z := Y5) hown (mvT hZ (ww hw 26 rfl)) (mvT hZ (ww hw 27 rfl)) (notFace_of_selects (args := #[]) (mvT hZ (ww hw 29 rfl))) (mvT hZ (ww hw 29 rfl)) (mvT hZ (ww hw 28 rfl)) (by decide) (backOf (W := 0) (own_c4_holds l Z a0 hw u0 u1 u2 u3 u4 u5 G h0 n0 O0 []) hZ (ww hw 30 rfl) (ww hw 6 rfl) (by decide) (by decide)) qa6 qc6 (g := (mkF m 54 #[vi p1, vi p2, vi p3, vi p4, vr u0, vi p3, vr u0, vi (0 : Int32), vu] [xi (-1 : Int32), xr u0])) rfl (by rw [hml]; rfl) (Steps.refl _) (argsL := [xi (-1 : Int32)]) (rest := []) (lenOf pd4 rfl) rfl (by show 2 * 0 + _ ≤ _; exact Nat.le_of_eq rfl) (hb hby at_54) (fun _ _ => ⟨rfl, e5, (by decide : 0 + 0 ≤ _), (by decide : 0 + 0 ≤ _)⟩)
  dsimp only [Pt.U, Pt.locs, Pt.cells, Pt.slots] at X6 l6 y6 z6 st6 hQ6
  subst l6 y6 z6
  obtain ⟨rfl, Nq6, e6⟩ := hQ6
  have N6 := Fr.app N5 Nq6
  obtain ⟨fs, hr, hrun, hended, hW, hsame⟩ := X6.leave (v := some (xi (1 : Int32))) (fun h => by rw [Bd.returns] at h; cases h)
  refine ⟨_, _, pre0 _ ?_, hrun, hended, _, _, rfl, ?_, ⟨_, rfl⟩, hW, hsame.mono (by decide) (by decide)⟩
  · show own_S p e below s₁ (mkF m 0 #[vi p1, vi p2, vi p3, vi p4, vu, vu, vu, vu, vu] []) _
    refine XS.iloadN X0.here hx rfl (hb hby at_0) rfl ?_
    show own_S p e below s₁ (mkF m 1 #[vi p1, vi p2, vi p3, vi p4, vu, vu, vu, vu, vu] [xi p1]) _
    refine st1 _ ?_
    show own_S p e below T1 (mkF m 4 #[vi p1, vi p2, vi p3, vi p4, vu, vu, vu, vu, vu] [xr u0]) _
    refine XS.astore X1.here hx rfl (hb hby at_4) rfl rfl (l' := #[vi p1, vi p2, vi p3, vi p4, vr u0, vu, vu, vu, vu]) rfl ?_
    show own_S p e below T1 (mkF m 6 #[vi p1, vi p2, vi p3, vi p4, vr u0, vu, vu, vu, vu] []) _
    refine XS.iloadN X1.here hx rfl (hb hby at_6) rfl ?_
    show own_S p e below T1 (mkF m 7 #[vi p1, vi p2, vi p3, vi p4, vr u0, vu, vu, vu, vu] [xi p4]) _
    refine XS.iconst X1.here hx rfl (hb hby at_7) ?_
    show own_S p e below T1 (mkF m 8 #[vi p1, vi p2, vi p3, vi p4, vr u0, vu, vu, vu, vu] [xi (1 : Int32), xi p4]) _
    refine XS.iand X1.here hx rfl (hb hby at_8) rfl ?_
    show own_S p e below T1 (mkF m 9 #[vi p1, vi p2, vi p3, vi p4, vr u0, vu, vu, vu, vu] [xi (p4 &&& (1 : Int32))]) _
    refine castTop (show (mkF m 9 #[vi p1, vi p2, vi p3, vi p4, vr u0, vu, vu, vu, vu] [xi (p4 &&& (1 : Int32))]) = (mkF m 9 #[vi p1, vi p2, vi p3, vi p4, vr u0, vu, vu, vu, vu] [xi (0 : Int32)]) from by rw [as14]) ?_
    show own_S p e below T1 (mkF m 9 #[vi p1, vi p2, vi p3, vi p4, vr u0, vu, vu, vu, vu] [xi (0 : Int32)]) _
    refine XS.ifYes X1.here hx rfl (pc0 := 9) (pc' := 16) rfl (hb hby at_9) rfl (by decide) (by decide) (by decide) ?_
    show own_S p e below T1 (mkF m 16 #[vi p1, vi p2, vi p3, vi p4, vr u0, vu, vu, vu, vu] []) _
    refine XS.iloadN X1.here hx rfl (hb hby at_16) rfl ?_
    show own_S p e below T1 (mkF m 17 #[vi p1, vi p2, vi p3, vi p4, vr u0, vu, vu, vu, vu] [xi p3]) _
    refine XS.istore X1.here hx rfl (hb hby at_17) rfl (l' := #[vi p1, vi p2, vi p3, vi p4, vr u0, vi p3, vu, vu, vu]) rfl ?_
    show own_S p e below T1 (mkF m 19 #[vi p1, vi p2, vi p3, vi p4, vr u0, vi p3, vu, vu, vu] []) _
    refine XS.aload X1.here hx rfl (hb hby at_19) rfl rfl ?_
    show own_S p e below T1 (mkF m 21 #[vi p1, vi p2, vi p3, vi p4, vr u0, vi p3, vu, vu, vu] [xr u0]) _
    refine st2.trans ?_
    show own_S p e below T2 (mkF m 24 #[vi p1, vi p2, vi p3, vi p4, vr u0, vi p3, vu, vu, vu] [xr u0]) _
    refine XS.astore X2.here hx rfl (hb hby at_24) rfl rfl (l' := #[vi p1, vi p2, vi p3, vi p4, vr u0, vi p3, vr u0, vu, vu]) rfl ?_
    show own_S p e below T2 (mkF m 26 #[vi p1, vi p2, vi p3, vi p4, vr u0, vi p3, vr u0, vu, vu] []) _
    refine XS.aload X2.here hx rfl (hb hby at_26) rfl rfl ?_
    show own_S p e below T2 (mkF m 28 #[vi p1, vi p2, vi p3, vi p4, vr u0, vi p3, vr u0, vu, vu] [xr u0]) _
    refine Jvm.Free.XT.nonnullYes X2.here hx rfl (pc0 := 28) (pc' := 33) rfl (hb hby at_28) rfl rfl (by simp) (by decide) (by decide) ?_
    show own_S p e below T2 (mkF m 33 #[vi p1, vi p2, vi p3, vi p4, vr u0, vi p3, vr u0, vu, vu] []) _
    refine XS.aload X2.here hx rfl (hb hby at_33) rfl rfl ?_
    show own_S p e below T2 (mkF m 35 #[vi p1, vi p2, vi p3, vi p4, vr u0, vi p3, vr u0, vu, vu] [xr u0]) _
    refine XS.iloadN X2.here hx rfl (hb hby at_35) rfl ?_
    show own_S p e below T2 (mkF m 36 #[vi p1, vi p2, vi p3, vi p4, vr u0, vi p3, vr u0, vu, vu] [xi p2, xr u0]) _
    refine XS.iload X2.here hx rfl (hb hby at_36) rfl ?_
    show own_S p e below T2 (mkF m 38 #[vi p1, vi p2, vi p3, vi p4, vr u0, vi p3, vr u0, vu, vu] [xi p3, xi p2, xr u0]) _
    refine st3 _ ?_
    show own_S p e below T3 (mkF m 41 #[vi p1, vi p2, vi p3, vi p4, vr u0, vi p3, vr u0, vu, vu] [xi (1 : Int32), xr u0]) _
    refine st4.trans ?_
    show own_S p e below T4 (mkF m 44 #[vi p1, vi p2, vi p3, vi p4, vr u0, vi p3, vr u0, vu, vu] [xi (0 : Int32)]) _
    refine XS.istore X4.here hx rfl (hb hby at_44) rfl (l' := #[vi p1, vi p2, vi p3, vi p4, vr u0, vi p3, vr u0, vi (0 : Int32), vu]) rfl ?_
    show own_S p e below T4 (mkF m 46 #[vi p1, vi p2, vi p3, vi p4, vr u0, vi p3, vr u0, vi (0 : Int32), vu] []) _
    refine XS.aload X4.here hx rfl (hb hby at_46) rfl rfl ?_
    show own_S p e below T4 (mkF m 48 #[vi p1, vi p2, vi p3, vi p4, vr u0, vi p3, vr u0, vi (0 : Int32), vu] [xr u0]) _
    refine XS.iload X4.here hx rfl (hb hby at_48) rfl ?_
    show own_S p e below T4 (mkF m 50 #[vi p1, vi p2, vi p3, vi p4, vr u0, vi p3, vr u0, vi (0 : Int32), vu] [xi p3, xr u0]) _
    refine XS.iloadN X4.here hx rfl (hb hby at_50) rfl ?_
    show own_S p e below T4 (mkF m 51 #[vi p1, vi p2, vi p3, vi p4, vr u0, vi p3, vr u0, vi (0 : Int32), vu] [xi p2, xi p3, xr u0]) _
    refine st5 _ ?_
    show own_S p e below T5 (mkF m 54 #[vi p1, vi p2, vi p3, vi p4, vr u0, vi p3, vr u0, vi (0 : Int32), vu] [xi (-1 : Int32), xr u0]) _
    refine st6.trans ?_
    show own_S p e below T6 (mkF m 57 #[vi p1, vi p2, vi p3, vi p4, vr u0, vi p3, vr u0, vi (0 : Int32), vu] [xi (0 : Int32)]) _
    refine XS.istore X6.here hx rfl (hb hby at_57) rfl (l' := #[vi p1, vi p2, vi p3, vi p4, vr u0, vi p3, vr u0, vi (0 : Int32), vi (0 : Int32)]) rfl ?_
    show own_S p e below T6 (mkF m 59 #[vi p1, vi p2, vi p3, vi p4, vr u0, vi p3, vr u0, vi (0 : Int32), vi (0 : Int32)] []) _
    refine XS.iload X6.here hx rfl (hb hby at_59) rfl ?_
    show own_S p e below T6 (mkF m 61 #[vi p1, vi p2, vi p3, vi p4, vr u0, vi p3, vr u0, vi (0 : Int32), vi (0 : Int32)] [xi (0 : Int32)]) _
    refine XS.iload X6.here hx rfl (hb hby at_61) rfl ?_
    show own_S p e below T6 (mkF m 63 #[vi p1, vi p2, vi p3, vi p4, vr u0, vi p3, vr u0, vi (0 : Int32), vi (0 : Int32)] [xi (0 : Int32), xi (0 : Int32)]) _
    refine XS.icmpNo X6.here hx rfl (hb hby at_63) rfl (by decide) ?_
    show own_S p e below T6 (mkF m 66 #[vi p1, vi p2, vi p3, vi p4, vr u0, vi p3, vr u0, vi (0 : Int32), vi (0 : Int32)] []) _
    refine XS.iconst X6.here hx rfl (hb hby at_66) ?_
    show own_S p e below T6 (mkF m 67 #[vi p1, vi p2, vi p3, vi p4, vr u0, vi p3, vr u0, vi (0 : Int32), vi (0 : Int32)] [xi (1 : Int32)]) _
    refine XS.goto X6.here hx rfl (pc0 := 67) (pc' := 71) rfl (hb hby at_67) (by decide) (by decide) ?_
    show own_S p e below T6 (mkF m 71 #[vi p1, vi p2, vi p3, vi p4, vr u0, vi p3, vr u0, vi (0 : Int32), vi (0 : Int32)] [xi (1 : Int32)]) _
    exact retN X6 hx (t := .boolean) Bd.returns (by simp) (hb hby at_71) hr
  · exact ⟨rfl, N6⟩
theorem ef_own_c12_sign (m : MethodId) (u0 u1 u2 u3 u4 u5 : Addr) (p2 : Int32) : entryFrame m #[xi p2, xi p2] 2 = (mkF m 0 #[vi p2, vi p2] []) := by first | (simp [entryFrame, mkF, argsToLocals, Value.category]; done) | rfl
set_option maxRecDepth 65536 in
set_option maxHeartbeats 40000000 in
theorem own_c12_sign (l : Launch) (Z : State) (a0 : Array Value) (hw : ∀ d ∈ tables_1, d.before a0 Z = true) (u0 u1 u2 u3 u4 u5 : Addr) (G : own_St Z u0 u1 u2 u3 u4 u5) (p2 : Int32) (h0 : Heap) (n0 : Nat) (O0 : Old Z n0 h0) : own_Met l Z Y4 method_3_code 2 (some .int) ({ frames := 0, cells := 0, slots := 0, locals := 0 } : Room) #[xi p2, xi p2] h0 (own_QR (some (xi (0 : Int32))) h0 n0) := by
  intro ws
  refine MetFree.of_bodySF (plainFor_of_name pn0) hisR ?_
  intro p e s m args below meth c s₁ Bd hml0 hP hK
  obtain ⟨rfl, hZ, hh⟩ := hP
  have hx := Bd.exec
  have hby := Bd.bytes
  have hml : c.maxLocals = 2 := hml0
  have hown : s.vm.findClass "com/example/whyle/whyle/cfa/RelationConversePinLaw" = some m.cls := findClass_of_methodNamed Bd.named
  have hnm := (name_of_methodNamed Bd.named Bd.method).1
  have X0 : Stand p l e ({ frames := 0, cells := 0, slots := 0, locals := 0 } : Room) s m #[xi p2, xi p2] below meth c s₁ [] 0 0 := Stand.of_body Bd
  have e0 : s₁.heap = h0 := by rw [← hh, Bd.state]; rfl
  have N0 := Fr.nil n0
  have pre0 : ∀ t, Steps p.tables e below (s₁.setTop (mkF m 0 #[vi p2, vi p2] [])) t → Steps p.tables e below (s₁.setTop (entryFrame m #[xi p2, xi p2] 2)) t := fun t st => castTop (ef_own_c12_sign m u0 u1 u2 u3 u4 u5 p2) st
  obtain ⟨fs, hr, hrun, hended, hW, hsame⟩ := X0.leave (v := some (xi (0 : Int32))) (fun h => by rw [Bd.returns] at h; cases h)
  refine ⟨_, _, pre0 _ ?_, hrun, hended, _, _, rfl, ?_, ⟨_, rfl⟩, hW, hsame.mono (by decide) (by decide)⟩
  · show own_S p e below s₁ (mkF m 0 #[vi p2, vi p2] []) _
    refine XS.iloadN X0.here hx rfl (hb hby d4_0) rfl ?_
    show own_S p e below s₁ (mkF m 1 #[vi p2, vi p2] [xi p2]) _
    refine XS.iloadN X0.here hx rfl (hb hby d4_1) rfl ?_
    show own_S p e below s₁ (mkF m 2 #[vi p2, vi p2] [xi p2, xi p2]) _
    refine XS.icmpYes X0.here hx rfl (pc0 := 2) (pc' := 7) rfl (hb hby d4_2) rfl (by simp [if_icmp.holds]) (by decide) (by decide) ?_
    show own_S p e below s₁ (mkF m 7 #[vi p2, vi p2] []) _
    refine XS.iloadN X0.here hx rfl (hb hby d4_7) rfl ?_
    show own_S p e below s₁ (mkF m 8 #[vi p2, vi p2] [xi p2]) _
    refine XS.iloadN X0.here hx rfl (hb hby d4_8) rfl ?_
    show own_S p e below s₁ (mkF m 9 #[vi p2, vi p2] [xi p2, xi p2]) _
    refine XS.icmpNo X0.here hx rfl (hb hby d4_9) rfl (by simp [if_icmp.holds]) ?_
    show own_S p e below s₁ (mkF m 12 #[vi p2, vi p2] []) _
    refine XS.iconst X0.here hx rfl (hb hby d4_12) ?_
    show own_S p e below s₁ (mkF m 13 #[vi p2, vi p2] [xi (0 : Int32)]) _
    exact retI X0 hx Bd.returns (hb hby d4_13) hr
  · exact ⟨rfl, N0, e0⟩
theorem ef_own_l3 (m : MethodId) (u0 u1 u2 u3 u4 u5 : Addr) (p1 : Int32) (p2 : Int32) (p3 : Int32) (p4 : Int32) : entryFrame m #[xi p1, xi p2, xi p3, xi p4] maxLocals = (mkF m 0 #[vi p1, vi p2, vi p3, vi p4, vu, vu, vu, vu, vu] []) := by first | (simp [entryFrame, mkF, argsToLocals, Value.category, maxLocals]; done) | rfl
set_option maxRecDepth 65536 in
set_option maxHeartbeats 40000000 in
theorem own_l3 (l : Launch) (Z : State) (a0 : Array Value) (hw : ∀ d ∈ tables_1, d.before a0 Z = true) (u0 u1 u2 u3 u4 u5 : Addr) (G : own_St Z u0 u1 u2 u3 u4 u5) (p1 : Int32) (p2 : Int32) (p3 : Int32) (p4 : Int32) (as8 : ((p1 &&& (2147483647 : Int32)) - ((p1 &&& (2147483647 : Int32)) / (6 : Int32)) * (6 : Int32)) = (0 : Int32)) (as15 : (p4 &&& (1 : Int32)) = (1 : Int32)) (h0 : Heap) (n0 : Nat) (O0 : Old Z n0 h0) : own_Met l Z x code maxLocals ret room_1 #[xi p1, xi p2, xi p3, xi p4] h0 (own_QL (some (xi (1 : Int32))) n0) := by
  intro ws
  refine MetFree.of_bodySF (plainFor_of_name pn0) hisR ?_
  intro p e s m args below meth c s₁ Bd hml0 hP hK
  obtain ⟨rfl, hZ, hh⟩ := hP
  have hx := Bd.exec
  have hby := Bd.bytes
  have hml : c.maxLocals = 9 := hml0
  have hown : s.vm.findClass "com/example/whyle/whyle/cfa/RelationConversePinLaw" = some m.cls := findClass_of_methodNamed Bd.named
  have hnm := (name_of_methodNamed Bd.named Bd.method).1
  have X0 : Stand p l e room_1 s m #[xi p1, xi p2, xi p3, xi p4] below meth c s₁ [] 0 0 := Stand.of_body Bd
  have e0 : s₁.heap = h0 := by rw [← hh, Bd.state]; rfl
  have N0 := Fr.nil n0
  have pre0 : ∀ t, Steps p.tables e below (s₁.setTop (mkF m 0 #[vi p1, vi p2, vi p3, vi p4, vu, vu, vu, vu, vu] [])) t → Steps p.tables e below (s₁.setTop (entryFrame m #[xi p1, xi p2, xi p3, xi p4] maxLocals)) t := fun t st => castTop (ef_own_l3 m u0 u1 u2 u3 u4 u5 p1 p2 p3 p4) st
  obtain ⟨_, _, ⟨T1, L1, k1, n1⟩, -, X1, ⟨Lc1, hQ1, l1, y1, z1⟩, st1⟩ := Jvm.LawKit.callS X0 hx (y := Y0) hown (mvT hZ (ww hw 0 rfl)) (mvT hZ (ww hw 1 rfl)) (mvT hZ (ww hw 2 rfl)) (mvT hZ (ww hw 3 rfl)) (by decide) (backOf (W := 0) (own_c0_pick l Z a0 hw u0 u1 u2 u3 u4 u5 G p1 as8 h0 n0 O0 []) hZ (ww hw 3 rfl) (ww hw 2 rfl) (by decide) (by decide)) (g := (mkF m 1 #[vi p1, vi p2, vi p3, vi p4, vu, vu, vu, vu, vu] [xi p1])) rfl (by rw [hml]; rfl) (argsL := [xi p1]) (rest := []) (lenOf pd0 rfl) rfl (by show 2 * 0 + _ ≤ _; exact Nat.le_of_eq rfl) (hb hby at_1) (fun _ _ => ⟨rfl, e0, (by decide : 0 + 0 ≤ _), (by decide : 0 + 0 ≤ _)⟩)
  dsimp only [Pt.U, Pt.locs, Pt.cells, Pt.slots] at X1 l1 y1 z1 st1 hQ1
  subst l1 y1 z1
  obtain ⟨rfl, Nq1, e1⟩ := hQ1
  have N1 := Fr.app N0 Nq1
  obtain ⟨cq2, kq2, qa2, qb2, qc2⟩ := isOf hZ e1 ((own_X_u0 G).ext O0.2)
  obtain ⟨_, _, ⟨T2, L2, k2, n2⟩, -, X2, ⟨Lc2, hQ2, l2, y2, z2⟩, st2⟩ := X1.virtualBack hx (y := Y3) (z := Y3) hown (mvT hZ (ww hw 8 rfl)) (mvT hZ (ww hw 9 rfl)) (notFace_of_selects (args := #[]) (mvT hZ (ww hw 11 rfl))) (mvT hZ (ww hw 11 rfl)) (mvT hZ (ww hw 10 rfl)) (by decide) (backOf (W := 0) (own_c1_converse l Z a0 hw u0 u1 u2 u3 u4 u5 G h0 n0 O0 []) hZ (ww hw 12 rfl) (ww hw 6 rfl) (by decide) (by decide)) qa2 qc2 (g := (mkF m 21 #[vi p1, vi p2, vi p3, vi p4, vr u0, vi p2, vu, vu, vu] [xr u0])) rfl (by rw [hml]; rfl) (Steps.refl _) (argsL := []) (rest := []) (lenOf pd2 rfl) rfl (by show 2 * 0 + _ ≤ _; exact Nat.le_of_eq rfl) (hb hby at_21) (fun _ _ => ⟨rfl, e1, (by decide : 0 + 0 ≤ _), (by decide : 0 + 0 ≤ _)⟩)
  dsimp only [Pt.U, Pt.locs, Pt.cells, Pt.slots] at X2 l2 y2 z2 st2 hQ2
  subst l2 y2 z2
  obtain ⟨rfl, Nq2, e2⟩ := hQ2
  have N2 := Fr.app N1 Nq2
  obtain ⟨_, _, ⟨T3, L3, k3, n3⟩, -, X3, ⟨Lc3, hQ3, l3, y3, z3⟩, st3⟩ := Jvm.LawKit.callS X2 hx (y := Y4) hown (mvT hZ (ww hw 23 rfl)) (mvT hZ (ww hw 24 rfl)) (mvT hZ (ww hw 2 rfl)) (mvT hZ (ww hw 25 rfl)) (by decide) (backOf (W := 1) (own_c12_sign l Z a0 hw u0 u1 u2 u3 u4 u5 G p2 h0 n0 O0 []) hZ (ww hw 25 rfl) (ww hw 2 rfl) (by decide) (by decide)) (g := (mkF m 38 #[vi p1, vi p2, vi p3, vi p4, vr u0, vi p2, vr u0, vu, vu] [xi p2, xi p2, xr u0])) rfl (by rw [hml]; rfl) (argsL := [xi p2, xi p2]) (rest := [xr u0]) (lenOf pd3 rfl) rfl (by show 2 * 0 + _ ≤ _; exact Nat.le_of_eq rfl) (hb hby at_38) (fun _ _ => ⟨rfl, e2, (by decide : 0 + 0 ≤ _), (by decide : 0 + 0 ≤ _)⟩)
  dsimp only [Pt.U, Pt.locs, Pt.cells, Pt.slots] at X3 l3 y3 z3 st3 hQ3
  subst l3 y3 z3
  obtain ⟨rfl, Nq3, e3⟩ := hQ3
  have N3 := Fr.app N2 Nq3
  obtain ⟨cq4, kq4, qa4, qb4, qc4⟩ := isOf hZ e3 ((own_X_u0 G).ext O0.2)
  obtain ⟨_, _, ⟨T4, L4, k4, n4⟩, -, X4, ⟨Lc4, hQ4, l4, y4, z4⟩, st4⟩ := X3.virtualBack hx (y := Y5) (z := Y5) hown (mvT hZ (ww hw 26 rfl)) (mvT hZ (ww hw 27 rfl)) (notFace_of_selects (args := #[]) (mvT hZ (ww hw 29 rfl))) (mvT hZ (ww hw 29 rfl)) (mvT hZ (ww hw 28 rfl)) (by decide) (backOf (W := 0) (own_c8_holds l Z a0 hw u0 u1 u2 u3 u4 u5 G h0 n0 O0 []) hZ (ww hw 30 rfl) (ww hw 6 rfl) (by decide) (by decide)) qa4 qc4 (g := (mkF m 41 #[vi p1, vi p2, vi p3, vi p4, vr u0, vi p2, vr u0, vu, vu] [xi (0 : Int32), xr u0])) rfl (by rw [hml]; rfl) (Steps.refl _) (argsL := [xi (0 : Int32)]) (rest := []) (lenOf pd4 rfl) rfl (by show 2 * 0 + _ ≤ _; exact Nat.le_of_eq rfl) (hb hby at_41) (fun _ _ => ⟨rfl, e3, (by decide : 0 + 0 ≤ _), (by decide : 0 + 0 ≤ _)⟩)
  dsimp only [Pt.U, Pt.locs, Pt.cells, Pt.slots] at X4 l4 y4 z4 st4 hQ4
  subst l4 y4 z4
  obtain ⟨rfl, Nq4, e4⟩ := hQ4
  have N4 := Fr.app N3 Nq4
  obtain ⟨_, _, ⟨T5, L5, k5, n5⟩, -, X5, ⟨Lc5, hQ5, l5, y5, z5⟩, st5⟩ := Jvm.LawKit.callS X4 hx (y := Y4) hown (mvT hZ (ww hw 23 rfl)) (mvT hZ (ww hw 24 rfl)) (mvT hZ (ww hw 2 rfl)) (mvT hZ (ww hw 25 rfl)) (by decide) (backOf (W := 1) (own_c12_sign l Z a0 hw u0 u1 u2 u3 u4 u5 G p2 h0 n0 O0 []) hZ (ww hw 25 rfl) (ww hw 2 rfl) (by decide) (by decide)) (g := (mkF m 51 #[vi p1, vi p2, vi p3, vi p4, vr u0, vi p2, vr u0, vi (1 : Int32), vu] [xi p2, xi p2, xr u0])) rfl (by rw [hml]; rfl) (argsL := [xi p2, xi p2]) (rest := [xr u0]) (lenOf pd3 rfl) rfl (by show 2 * 0 + _ ≤ _; exact Nat.le_of_eq rfl) (hb hby at_51) (fun _ _ => ⟨rfl, e4, (by decide : 0 + 0 ≤ _), (by decide : 0 + 0 ≤ _)⟩)
  dsimp only [Pt.U, Pt.locs, Pt.cells, Pt.slots] at X5 l5 y5 z5 st5 hQ5
  subst l5 y5 z5
  obtain ⟨rfl, Nq5, e5⟩ := hQ5
  have N5 := Fr.app N4 Nq5
  obtain ⟨cq6, kq6, qa6, qb6, qc6⟩ := isOf hZ e5 ((own_X_u0 G).ext O0.2)
  obtain ⟨_, _, ⟨T6, L6, k6, n6⟩, -, X6, ⟨Lc6, hQ6, l6, y6, z6⟩, st6⟩ := X5.virtualBack hx (y := Y5) (z := Y5) hown (mvT hZ (ww hw 26 rfl)) (mvT hZ (ww hw 27 rfl)) (notFace_of_selects (args := #[]) (mvT hZ (ww hw 29 rfl))) (mvT hZ (ww hw 29 rfl)) (mvT hZ (ww hw 28 rfl)) (by decide) (backOf (W := 0) (own_c8_holds l Z a0 hw u0 u1 u2 u3 u4 u5 G h0 n0 O0 []) hZ (ww hw 30 rfl) (ww hw 6 rfl) (by decide) (by decide)) qa6 qc6 (g := (mkF m 54 #[vi p1, vi p2, vi p3, vi p4, vr u0, vi p2, vr u0, vi (1 : Int32), vu] [xi (0 : Int32), xr u0])) rfl (by rw [hml]; rfl) (Steps.refl _) (argsL := [xi (0 : Int32)]) (rest := []) (lenOf pd4 rfl) rfl (by show 2 * 0 + _ ≤ _; exact Nat.le_of_eq rfl) (hb hby at_54) (fun _ _ => ⟨rfl, e5, (by decide : 0 + 0 ≤ _), (by decide : 0 + 0 ≤ _)⟩)
  dsimp only [Pt.U, Pt.locs, Pt.cells, Pt.slots] at X6 l6 y6 z6 st6 hQ6
  subst l6 y6 z6
  obtain ⟨rfl, Nq6, e6⟩ := hQ6
  have N6 := Fr.app N5 Nq6
  obtain ⟨fs, hr, hrun, hended, hW, hsame⟩ := X6.leave (v := some (xi (1 : Int32))) (fun h => by rw [Bd.returns] at h; cases h)
  refine ⟨_, _, pre0 _ ?_, hrun, hended, _, _, rfl, ?_, ⟨_, rfl⟩, hW, hsame.mono (by decide) (by decide)⟩
  · show own_S p e below s₁ (mkF m 0 #[vi p1, vi p2, vi p3, vi p4, vu, vu, vu, vu, vu] []) _
    refine XS.iloadN X0.here hx rfl (hb hby at_0) rfl ?_
    show own_S p e below s₁ (mkF m 1 #[vi p1, vi p2, vi p3, vi p4, vu, vu, vu, vu, vu] [xi p1]) _
    refine st1 _ ?_
    show own_S p e below T1 (mkF m 4 #[vi p1, vi p2, vi p3, vi p4, vu, vu, vu, vu, vu] [xr u0]) _
    refine XS.astore X1.here hx rfl (hb hby at_4) rfl rfl (l' := #[vi p1, vi p2, vi p3, vi p4, vr u0, vu, vu, vu, vu]) rfl ?_
    show own_S p e below T1 (mkF m 6 #[vi p1, vi p2, vi p3, vi p4, vr u0, vu, vu, vu, vu] []) _
    refine XS.iloadN X1.here hx rfl (hb hby at_6) rfl ?_
    show own_S p e below T1 (mkF m 7 #[vi p1, vi p2, vi p3, vi p4, vr u0, vu, vu, vu, vu] [xi p4]) _
    refine XS.iconst X1.here hx rfl (hb hby at_7) ?_
    show own_S p e below T1 (mkF m 8 #[vi p1, vi p2, vi p3, vi p4, vr u0, vu, vu, vu, vu] [xi (1 : Int32), xi p4]) _
    refine XS.iand X1.here hx rfl (hb hby at_8) rfl ?_
    show own_S p e below T1 (mkF m 9 #[vi p1, vi p2, vi p3, vi p4, vr u0, vu, vu, vu, vu] [xi (p4 &&& (1 : Int32))]) _
    refine castTop (show (mkF m 9 #[vi p1, vi p2, vi p3, vi p4, vr u0, vu, vu, vu, vu] [xi (p4 &&& (1 : Int32))]) = (mkF m 9 #[vi p1, vi p2, vi p3, vi p4, vr u0, vu, vu, vu, vu] [xi (1 : Int32)]) from by rw [as15]) ?_
    show own_S p e below T1 (mkF m 9 #[vi p1, vi p2, vi p3, vi p4, vr u0, vu, vu, vu, vu] [xi (1 : Int32)]) _
    refine XS.ifNo X1.here hx rfl (hb hby at_9) rfl (by decide) ?_
    show own_S p e below T1 (mkF m 12 #[vi p1, vi p2, vi p3, vi p4, vr u0, vu, vu, vu, vu] []) _
    refine XS.iloadN X1.here hx rfl (hb hby at_12) rfl ?_
    show own_S p e below T1 (mkF m 13 #[vi p1, vi p2, vi p3, vi p4, vr u0, vu, vu, vu, vu] [xi p2]) _
    refine XS.goto X1.here hx rfl (pc0 := 13) (pc' := 17) rfl (hb hby at_13) (by decide) (by decide) ?_
    show own_S p e below T1 (mkF m 17 #[vi p1, vi p2, vi p3, vi p4, vr u0, vu, vu, vu, vu] [xi p2]) _
    refine XS.istore X1.here hx rfl (hb hby at_17) rfl (l' := #[vi p1, vi p2, vi p3, vi p4, vr u0, vi p2, vu, vu, vu]) rfl ?_
    show own_S p e below T1 (mkF m 19 #[vi p1, vi p2, vi p3, vi p4, vr u0, vi p2, vu, vu, vu] []) _
    refine XS.aload X1.here hx rfl (hb hby at_19) rfl rfl ?_
    show own_S p e below T1 (mkF m 21 #[vi p1, vi p2, vi p3, vi p4, vr u0, vi p2, vu, vu, vu] [xr u0]) _
    refine st2.trans ?_
    show own_S p e below T2 (mkF m 24 #[vi p1, vi p2, vi p3, vi p4, vr u0, vi p2, vu, vu, vu] [xr u0]) _
    refine XS.astore X2.here hx rfl (hb hby at_24) rfl rfl (l' := #[vi p1, vi p2, vi p3, vi p4, vr u0, vi p2, vr u0, vu, vu]) rfl ?_
    show own_S p e below T2 (mkF m 26 #[vi p1, vi p2, vi p3, vi p4, vr u0, vi p2, vr u0, vu, vu] []) _
    refine XS.aload X2.here hx rfl (hb hby at_26) rfl rfl ?_
    show own_S p e below T2 (mkF m 28 #[vi p1, vi p2, vi p3, vi p4, vr u0, vi p2, vr u0, vu, vu] [xr u0]) _
    refine Jvm.Free.XT.nonnullYes X2.here hx rfl (pc0 := 28) (pc' := 33) rfl (hb hby at_28) rfl rfl (by simp) (by decide) (by decide) ?_
    show own_S p e below T2 (mkF m 33 #[vi p1, vi p2, vi p3, vi p4, vr u0, vi p2, vr u0, vu, vu] []) _
    refine XS.aload X2.here hx rfl (hb hby at_33) rfl rfl ?_
    show own_S p e below T2 (mkF m 35 #[vi p1, vi p2, vi p3, vi p4, vr u0, vi p2, vr u0, vu, vu] [xr u0]) _
    refine XS.iloadN X2.here hx rfl (hb hby at_35) rfl ?_
    show own_S p e below T2 (mkF m 36 #[vi p1, vi p2, vi p3, vi p4, vr u0, vi p2, vr u0, vu, vu] [xi p2, xr u0]) _
    refine XS.iload X2.here hx rfl (hb hby at_36) rfl ?_
    show own_S p e below T2 (mkF m 38 #[vi p1, vi p2, vi p3, vi p4, vr u0, vi p2, vr u0, vu, vu] [xi p2, xi p2, xr u0]) _
    refine st3 _ ?_
    show own_S p e below T3 (mkF m 41 #[vi p1, vi p2, vi p3, vi p4, vr u0, vi p2, vr u0, vu, vu] [xi (0 : Int32), xr u0]) _
    refine st4.trans ?_
    show own_S p e below T4 (mkF m 44 #[vi p1, vi p2, vi p3, vi p4, vr u0, vi p2, vr u0, vu, vu] [xi (1 : Int32)]) _
    refine XS.istore X4.here hx rfl (hb hby at_44) rfl (l' := #[vi p1, vi p2, vi p3, vi p4, vr u0, vi p2, vr u0, vi (1 : Int32), vu]) rfl ?_
    show own_S p e below T4 (mkF m 46 #[vi p1, vi p2, vi p3, vi p4, vr u0, vi p2, vr u0, vi (1 : Int32), vu] []) _
    refine XS.aload X4.here hx rfl (hb hby at_46) rfl rfl ?_
    show own_S p e below T4 (mkF m 48 #[vi p1, vi p2, vi p3, vi p4, vr u0, vi p2, vr u0, vi (1 : Int32), vu] [xr u0]) _
    refine XS.iload X4.here hx rfl (hb hby at_48) rfl ?_
    show own_S p e below T4 (mkF m 50 #[vi p1, vi p2, vi p3, vi p4, vr u0, vi p2, vr u0, vi (1 : Int32), vu] [xi p2, xr u0]) _
    refine XS.iloadN X4.here hx rfl (hb hby at_50) rfl ?_
    show own_S p e below T4 (mkF m 51 #[vi p1, vi p2, vi p3, vi p4, vr u0, vi p2, vr u0, vi (1 : Int32), vu] [xi p2, xi p2, xr u0]) _
    refine st5 _ ?_
    show own_S p e below T5 (mkF m 54 #[vi p1, vi p2, vi p3, vi p4, vr u0, vi p2, vr u0, vi (1 : Int32), vu] [xi (0 : Int32), xr u0]) _
    refine st6.trans ?_
    show own_S p e below T6 (mkF m 57 #[vi p1, vi p2, vi p3, vi p4, vr u0, vi p2, vr u0, vi (1 : Int32), vu] [xi (1 : Int32)]) _
    refine XS.istore X6.here hx rfl (hb hby at_57) rfl (l' := #[vi p1, vi p2, vi p3, vi p4, vr u0, vi p2, vr u0, vi (1 : Int32), vi (1 : Int32)]) rfl ?_
    show own_S p e below T6 (mkF m 59 #[vi p1, vi p2, vi p3, vi p4, vr u0, vi p2, vr u0, vi (1 : Int32), vi (1 : Int32)] []) _
    refine XS.iload X6.here hx rfl (hb hby at_59) rfl ?_
    show own_S p e below T6 (mkF m 61 #[vi p1, vi p2, vi p3, vi p4, vr u0, vi p2, vr u0, vi (1 : Int32), vi (1 : Int32)] [xi (1 : Int32)]) _
    refine XS.iload X6.here hx rfl (hb hby at_61) rfl ?_
    show own_S p e below T6 (mkF m 63 #[vi p1, vi p2, vi p3, vi p4, vr u0, vi p2, vr u0, vi (1 : Int32), vi (1 : Int32)] [xi (1 : Int32), xi (1 : Int32)]) _
    refine XS.icmpNo X6.here hx rfl (hb hby at_63) rfl (by decide) ?_
    show own_S p e below T6 (mkF m 66 #[vi p1, vi p2, vi p3, vi p4, vr u0, vi p2, vr u0, vi (1 : Int32), vi (1 : Int32)] []) _
    refine XS.iconst X6.here hx rfl (hb hby at_66) ?_
    show own_S p e below T6 (mkF m 67 #[vi p1, vi p2, vi p3, vi p4, vr u0, vi p2, vr u0, vi (1 : Int32), vi (1 : Int32)] [xi (1 : Int32)]) _
    refine XS.goto X6.here hx rfl (pc0 := 67) (pc' := 71) rfl (hb hby at_67) (by decide) (by decide) ?_
    show own_S p e below T6 (mkF m 71 #[vi p1, vi p2, vi p3, vi p4, vr u0, vi p2, vr u0, vi (1 : Int32), vi (1 : Int32)] [xi (1 : Int32)]) _
    exact retN X6 hx (t := .boolean) Bd.returns (by simp) (hb hby at_71) hr
  · exact ⟨rfl, N6⟩
theorem d1_16 : decode method_2_code 16 = .ok (.iload_n 1, 1) := by decide +kernel
theorem d1_17 : decode method_2_code 17 = .ok (.iconst 1, 1) := by decide +kernel
theorem d1_18 : decode method_2_code 18 = .ok (.if_icmp .ne 7, 3) := by decide +kernel
theorem d1_21 : decode method_2_code 21 = .ok (.getstatic 14, 3) := by decide +kernel
theorem d1_24 : decode method_2_code 24 = .ok (.areturn, 1) := by decide +kernel
theorem ef_own_c13_pick (m : MethodId) (u0 u1 u2 u3 u4 u5 : Addr) (p1 : Int32) : entryFrame m #[xi p1] 2 = (mkF m 0 #[vi p1, vu] []) := by first | (simp [entryFrame, mkF, argsToLocals, Value.category]; done) | rfl
set_option maxRecDepth 65536 in
set_option maxHeartbeats 40000000 in
theorem own_c13_pick (l : Launch) (Z : State) (a0 : Array Value) (hw : ∀ d ∈ tables_1, d.before a0 Z = true) (u0 u1 u2 u3 u4 u5 : Addr) (G : own_St Z u0 u1 u2 u3 u4 u5) (p1 : Int32) (as9 : ((p1 &&& (2147483647 : Int32)) - ((p1 &&& (2147483647 : Int32)) / (6 : Int32)) * (6 : Int32)) = (1 : Int32)) (h0 : Heap) (n0 : Nat) (O0 : Old Z n0 h0) : own_Met l Z Y0 method_2_code 2 (some (.object "com/example/whyle/whyle/cfa/Relation")) ({ frames := 0, cells := 0, slots := 0, locals := 0 } : Room) #[xi p1] h0 (own_QR (some (xr u1)) h0 n0) := by
  intro ws
  refine MetFree.of_bodySF (plainFor_of_name pn0) hisR ?_
  intro p e s m args below meth c s₁ Bd hml0 hP hK
  obtain ⟨rfl, hZ, hh⟩ := hP
  have hx := Bd.exec
  have hby := Bd.bytes
  have hml : c.maxLocals = 2 := hml0
  have hown : s.vm.findClass "com/example/whyle/whyle/cfa/RelationConversePinLaw" = some m.cls := findClass_of_methodNamed Bd.named
  have hnm := (name_of_methodNamed Bd.named Bd.method).1
  have X0 : Stand p l e ({ frames := 0, cells := 0, slots := 0, locals := 0 } : Room) s m #[xi p1] below meth c s₁ [] 0 0 := Stand.of_body Bd
  have e0 : s₁.heap = h0 := by rw [← hh, Bd.state]; rfl
  have N0 := Fr.nil n0
  have pre0 : ∀ t, Steps p.tables e below (s₁.setTop (mkF m 0 #[vi p1, vu] [])) t → Steps p.tables e below (s₁.setTop (entryFrame m #[xi p1] 2)) t := fun t st => castTop (ef_own_c13_pick m u0 u1 u2 u3 u4 u5 p1) st
  obtain ⟨T1, X1, e1, st1⟩ := getS2 X0 hx hZ hown (host := "") (Or.inl (ww hw 31 rfl)) Via.refl e0 ((own_S_u1 G).ext O0.2) (g := (mkF m 21 #[vi p1, vi (1 : Int32)] [])) rfl (hb hby d1_21)
  obtain ⟨fs, hr, hrun, hended, hW, hsame⟩ := X1.leave (v := some (xr u1)) (fun h => by rw [Bd.returns] at h; cases h)
  refine ⟨_, _, pre0 _ ?_, hrun, hended, _, _, rfl, ?_, ⟨_, rfl⟩, hW, hsame.mono (by decide) (by decide)⟩
  · show own_S p e below s₁ (mkF m 0 #[vi p1, vu] []) _
    refine XS.iloadN X0.here hx rfl (hb hby d1_0) rfl ?_
    show own_S p e below s₁ (mkF m 1 #[vi p1, vu] [xi p1]) _
    refine X0.ldcI hx hown (mvT hZ (ww hw 4 rfl)) (g := (mkF m 1 #[vi p1, vu] [xi p1])) rfl (hb hby d1_1) ?_
    show own_S p e below s₁ (mkF m 3 #[vi p1, vu] [xi (2147483647 : Int32), xi p1]) _
    refine XS.iand X0.here hx rfl (hb hby d1_3) rfl ?_
    show own_S p e below s₁ (mkF m 4 #[vi p1, vu] [xi (p1 &&& (2147483647 : Int32))]) _
    show own_S p e below s₁ (mkF m 4 #[vi p1, vu] [xi (p1 &&& (2147483647 : Int32))]) _
    refine XS.bipush X0.here hx rfl (hb hby d1_4) ?_
    show own_S p e below s₁ (mkF m 6 #[vi p1, vu] [xi (6 : Int32), xi (p1 &&& (2147483647 : Int32))]) _
    refine XS.irem X0.here hx rfl (hb hby d1_6) rfl (by decide) ?_
    show own_S p e below s₁ (mkF m 7 #[vi p1, vu] [xi ((p1 &&& (2147483647 : Int32)) - ((p1 &&& (2147483647 : Int32)) / (6 : Int32)) * (6 : Int32))]) _
    refine castTop (show (mkF m 7 #[vi p1, vu] [xi ((p1 &&& (2147483647 : Int32)) - ((p1 &&& (2147483647 : Int32)) / (6 : Int32)) * (6 : Int32))]) = (mkF m 7 #[vi p1, vu] [xi (1 : Int32)]) from by rw [as9]) ?_
    show own_S p e below s₁ (mkF m 7 #[vi p1, vu] [xi (1 : Int32)]) _
    refine XS.istoreN X0.here hx rfl (hb hby d1_7) rfl (l' := #[vi p1, vi (1 : Int32)]) rfl ?_
    show own_S p e below s₁ (mkF m 8 #[vi p1, vi (1 : Int32)] []) _
    refine XS.iloadN X0.here hx rfl (hb hby d1_8) rfl ?_
    show own_S p e below s₁ (mkF m 9 #[vi p1, vi (1 : Int32)] [xi (1 : Int32)]) _
    refine XS.ifYes X0.here hx rfl (pc0 := 9) (pc' := 16) rfl (hb hby d1_9) rfl (by decide) (by decide) (by decide) ?_
    show own_S p e below s₁ (mkF m 16 #[vi p1, vi (1 : Int32)] []) _
    refine XS.iloadN X0.here hx rfl (hb hby d1_16) rfl ?_
    show own_S p e below s₁ (mkF m 17 #[vi p1, vi (1 : Int32)] [xi (1 : Int32)]) _
    refine XS.iconst X0.here hx rfl (hb hby d1_17) ?_
    show own_S p e below s₁ (mkF m 18 #[vi p1, vi (1 : Int32)] [xi (1 : Int32), xi (1 : Int32)]) _
    refine XS.icmpNo X0.here hx rfl (hb hby d1_18) rfl (by decide) ?_
    show own_S p e below s₁ (mkF m 21 #[vi p1, vi (1 : Int32)] []) _
    refine st1 _ ?_
    show own_S p e below T1 (mkF m 24 #[vi p1, vi (1 : Int32)] [xr u1]) _
    exact X1.areturnOut hx rfl Bd.returns rfl (hb hby d1_24) hr
  · exact ⟨rfl, N0, e1⟩
theorem ef_own_c14_ordinal (m : MethodId) (u0 u1 u2 u3 u4 u5 : Addr) : entryFrame m #[xr u1] 1 = (mkF m 0 #[vr u1] []) := by first | (simp [entryFrame, mkF, argsToLocals, Value.category]; done) | rfl
set_option maxRecDepth 65536 in
set_option maxHeartbeats 40000000 in
theorem own_c14_ordinal (l : Launch) (Z : State) (a0 : Array Value) (hw : ∀ d ∈ tables_1, d.before a0 Z = true) (u0 u1 u2 u3 u4 u5 : Addr) (G : own_St Z u0 u1 u2 u3 u4 u5) (h0 : Heap) (n0 : Nat) (O0 : Old Z n0 h0) : own_Met l Z Y1 jdk_37_method_2_code 1 (some .int) ({ frames := 0, cells := 0, slots := 0, locals := 0 } : Room) #[xr u1] h0 (own_QR (some (xi (1 : Int32))) h0 n0) := by
  intro ws
  refine MetFree.of_bodySF (plainFor_of_name pn1) hisR ?_
  intro p e s m args below meth c s₁ Bd hml0 hP hK
  obtain ⟨rfl, hZ, hh⟩ := hP
  have hx := Bd.exec
  have hby := Bd.bytes
  have hml : c.maxLocals = 1 := hml0
  have hown : s.vm.findClass "java/lang/Enum" = some m.cls := findClass_of_methodNamed Bd.named
  have hnm := (name_of_methodNamed Bd.named Bd.method).1
  have X0 : Stand p l e ({ frames := 0, cells := 0, slots := 0, locals := 0 } : Room) s m #[xr u1] below meth c s₁ [] 0 0 := Stand.of_body Bd
  have e0 : s₁.heap = h0 := by rw [← hh, Bd.state]; rfl
  have N0 := Fr.nil n0
  have pre0 : ∀ t, Steps p.tables e below (s₁.setTop (mkF m 0 #[vr u1] [])) t → Steps p.tables e below (s₁.setTop (entryFrame m #[xr u1] 1)) t := fun t st => castTop (ef_own_c14_ordinal m u0 u1 u2 u3 u4 u5) st
  obtain ⟨T1, X1, e1, st1⟩ := getF X0 hx hZ hown (host := "") (Or.inl (ww hw 20 rfl)) Via.refl e0 ((own_F_u1_ordinal G).ext O0.2) (g := (mkF m 1 #[vr u1] [xr u1])) rfl rfl (hb hby d3_1)
  obtain ⟨fs, hr, hrun, hended, hW, hsame⟩ := X1.leave (v := some (xi (1 : Int32))) (fun h => by rw [Bd.returns] at h; cases h)
  refine ⟨_, _, pre0 _ ?_, hrun, hended, _, _, rfl, ?_, ⟨_, rfl⟩, hW, hsame.mono (by decide) (by decide)⟩
  · show own_S p e below s₁ (mkF m 0 #[vr u1] []) _
    refine XS.aloadN X0.here hx rfl (hb hby d3_0) rfl rfl ?_
    show own_S p e below s₁ (mkF m 1 #[vr u1] [xr u1]) _
    refine st1 _ ?_
    show own_S p e below T1 (mkF m 4 #[vr u1] [xi (1 : Int32)]) _
    exact retI X1 hx Bd.returns (hb hby d3_4) hr
  · exact ⟨rfl, N0, e1⟩
theorem d2_60 : decode prog_62_method_7_code 60 = .ok (.getstatic 7, 3) := by decide +kernel
theorem d2_63 : decode prog_62_method_7_code 63 = .ok (.goto 24, 3) := by decide +kernel
theorem ef_own_c14_converse (m : MethodId) (u0 u1 u2 u3 u4 u5 : Addr) : entryFrame m #[xr u1] 1 = (mkF m 0 #[vr u1] []) := by first | (simp [entryFrame, mkF, argsToLocals, Value.category]; done) | rfl
set_option maxRecDepth 65536 in
set_option maxHeartbeats 40000000 in
theorem own_c14_converse (l : Launch) (Z : State) (a0 : Array Value) (hw : ∀ d ∈ tables_1, d.before a0 Z = true) (u0 u1 u2 u3 u4 u5 : Addr) (G : own_St Z u0 u1 u2 u3 u4 u5) (h0 : Heap) (n0 : Nat) (O0 : Old Z n0 h0) : own_Met l Z Y3 prog_62_method_7_code 1 (some (.object "com/example/whyle/whyle/cfa/Relation")) ({ frames := 1, cells := 0, slots := 0, locals := 12 } : Room) #[xr u1] h0 (own_QR (some (xr u1)) h0 n0) := by
  intro ws
  refine MetFree.of_bodySF (plainFor_of_name pn2) hisR ?_
  intro p e s m args below meth c s₁ Bd hml0 hP hK
  obtain ⟨rfl, hZ, hh⟩ := hP
  have hx := Bd.exec
  have hby := Bd.bytes
  have hml : c.maxLocals = 1 := hml0
  have hown : s.vm.findClass "com/example/whyle/whyle/cfa/Relation" = some m.cls := findClass_of_methodNamed Bd.named
  have hnm := (name_of_methodNamed Bd.named Bd.method).1
  have X0 : Stand p l e ({ frames := 1, cells := 0, slots := 0, locals := 12 } : Room) s m #[xr u1] below meth c s₁ [] 0 0 := Stand.of_body Bd
  have e0 : s₁.heap = h0 := by rw [← hh, Bd.state]; rfl
  have N0 := Fr.nil n0
  have pre0 : ∀ t, Steps p.tables e below (s₁.setTop (mkF m 0 #[vr u1] [])) t → Steps p.tables e below (s₁.setTop (entryFrame m #[xr u1] 1)) t := fun t st => castTop (ef_own_c14_converse m u0 u1 u2 u3 u4 u5) st
  obtain ⟨cq1, kq1, qa1, qb1, qc1⟩ := isOf hZ e0 ((own_X_u1 G).ext O0.2)
  obtain ⟨_, _, ⟨T1, L1, k1, n1⟩, -, X1, ⟨Lc1, hQ1, l1, y1, z1⟩, st1⟩ := X0.virtualBackUp hx (x := Y2) (y := Y1) hown (mvT hZ (ww hw 13 rfl)) (mvT hZ (ww hw 14 rfl)) (mvT hZ (ww hw 15 rfl)) (by decide) (mvT hZ (ww hw 17 rfl)) (mvT hZ (ww hw 16 rfl)) (backOf (W := 0) (own_c14_ordinal l Z a0 hw u0 u1 u2 u3 u4 u5 G h0 n0 O0 []) hZ (ww hw 19 rfl) (ww hw 18 rfl) (by decide) (by decide)) qa1 qc1 (g := (mkF m 1 #[vr u1] [xr u1])) rfl (by rw [hml]; rfl) (Steps.refl _) (argsL := []) (rest := []) (lenOf pd1 rfl) rfl (by show 2 * 0 + _ ≤ _; exact Nat.le_of_eq rfl) (hb hby d2_1) (fun _ _ => ⟨rfl, e0, (by decide : 0 + 0 ≤ _), (by decide : 0 + 0 ≤ _)⟩)
  dsimp only [Pt.U, Pt.locs, Pt.cells, Pt.slots] at X1 l1 y1 z1 st1 hQ1
  subst l1 y1 z1
  obtain ⟨rfl, Nq1, e1⟩ := hQ1
  have N1 := Fr.app N0 Nq1
  obtain ⟨T2, X2, e2, st2⟩ := getS2 X1 hx hZ hown (host := "") (Or.inl (ww hw 33 rfl)) Via.refl e1 ((own_S_u1 G).ext O0.2) (g := (mkF m 60 #[vr u1] [])) rfl (hb hby d2_60)
  obtain ⟨fs, hr, hrun, hended, hW, hsame⟩ := X2.leave (v := some (xr u1)) (fun h => by rw [Bd.returns] at h; cases h)
  refine ⟨_, _, pre0 _ ?_, hrun, hended, _, _, rfl, ?_, ⟨_, rfl⟩, hW, hsame.mono (by decide) (by decide)⟩
  · show own_S p e below s₁ (mkF m 0 #[vr u1] []) _
    refine XS.aloadN X0.here hx rfl (hb hby d2_0) rfl rfl ?_
    show own_S p e below s₁ (mkF m 1 #[vr u1] [xr u1]) _
    refine st1.trans ?_
    show own_S p e below T1 (mkF m 4 #[vr u1] [xi (1 : Int32)]) _
    refine XS.tswIn X1.here hx rfl (pc0 := 4) (pc' := 60) (o := 56) rfl (hb hby d2_4) rfl (by decide) (by decide) (by decide) (by decide) ?_
    show own_S p e below T1 (mkF m 60 #[vr u1] []) _
    refine st2 _ ?_
    show own_S p e below T2 (mkF m 63 #[vr u1] [xr u1]) _
    refine XS.goto X2.here hx rfl (pc0 := 63) (pc' := 87) rfl (hb hby d2_63) (by decide) (by decide) ?_
    show own_S p e below T2 (mkF m 87 #[vr u1] [xr u1]) _
    exact X2.areturnOut hx rfl Bd.returns rfl (hb hby d2_87) hr
  · exact ⟨rfl, N1, e2⟩
theorem d5_66 : decode prog_62_method_8_code 66 = .ok (.iload_n 1, 1) := by decide +kernel
theorem d5_67 : decode prog_62_method_8_code 67 = .ok (.ifCond .eq 7, 3) := by decide +kernel
theorem d5_70 : decode prog_62_method_8_code 70 = .ok (.iconst 1, 1) := by decide +kernel
theorem d5_71 : decode prog_62_method_8_code 71 = .ok (.goto 52, 3) := by decide +kernel
theorem ef_own_c16_holds (m : MethodId) (u0 u1 u2 u3 u4 u5 : Addr) : entryFrame m #[xr u1, xi (-1 : Int32)] 2 = (mkF m 0 #[vr u1, vi (-1 : Int32)] []) := by first | (simp [entryFrame, mkF, argsToLocals, Value.category]; done) | rfl
set_option maxRecDepth 65536 in
set_option maxHeartbeats 40000000 in
theorem own_c16_holds (l : Launch) (Z : State) (a0 : Array Value) (hw : ∀ d ∈ tables_1, d.before a0 Z = true) (u0 u1 u2 u3 u4 u5 : Addr) (G : own_St Z u0 u1 u2 u3 u4 u5) (h0 : Heap) (n0 : Nat) (O0 : Old Z n0 h0) : own_Met l Z Y5 prog_62_method_8_code 2 (some .boolean) ({ frames := 1, cells := 0, slots := 0, locals := 12 } : Room) #[xr u1, xi (-1 : Int32)] h0 (own_QR (some (xi (1 : Int32))) h0 n0) := by
  intro ws
  refine MetFree.of_bodySF (plainFor_of_name pn2) hisR ?_
  intro p e s m args below meth c s₁ Bd hml0 hP hK
  obtain ⟨rfl, hZ, hh⟩ := hP
  have hx := Bd.exec
  have hby := Bd.bytes
  have hml : c.maxLocals = 2 := hml0
  have hown : s.vm.findClass "com/example/whyle/whyle/cfa/Relation" = some m.cls := findClass_of_methodNamed Bd.named
  have hnm := (name_of_methodNamed Bd.named Bd.method).1
  have X0 : Stand p l e ({ frames := 1, cells := 0, slots := 0, locals := 12 } : Room) s m #[xr u1, xi (-1 : Int32)] below meth c s₁ [] 0 0 := Stand.of_body Bd
  have e0 : s₁.heap = h0 := by rw [← hh, Bd.state]; rfl
  have N0 := Fr.nil n0
  have pre0 : ∀ t, Steps p.tables e below (s₁.setTop (mkF m 0 #[vr u1, vi (-1 : Int32)] [])) t → Steps p.tables e below (s₁.setTop (entryFrame m #[xr u1, xi (-1 : Int32)] 2)) t := fun t st => castTop (ef_own_c16_holds m u0 u1 u2 u3 u4 u5) st
  obtain ⟨cq1, kq1, qa1, qb1, qc1⟩ := isOf hZ e0 ((own_X_u1 G).ext O0.2)
  obtain ⟨_, _, ⟨T1, L1, k1, n1⟩, -, X1, ⟨Lc1, hQ1, l1, y1, z1⟩, st1⟩ := X0.virtualBackUp hx (x := Y2) (y := Y1) hown (mvT hZ (ww hw 13 rfl)) (mvT hZ (ww hw 14 rfl)) (mvT hZ (ww hw 15 rfl)) (by decide) (mvT hZ (ww hw 17 rfl)) (mvT hZ (ww hw 16 rfl)) (backOf (W := 0) (own_c14_ordinal l Z a0 hw u0 u1 u2 u3 u4 u5 G h0 n0 O0 []) hZ (ww hw 19 rfl) (ww hw 18 rfl) (by decide) (by decide)) qa1 qc1 (g := (mkF m 1 #[vr u1, vi (-1 : Int32)] [xr u1])) rfl (by rw [hml]; rfl) (Steps.refl _) (argsL := []) (rest := []) (lenOf pd1 rfl) rfl (by show 2 * 0 + _ ≤ _; exact Nat.le_of_eq rfl) (hb hby d5_1) (fun _ _ => ⟨rfl, e0, (by decide : 0 + 0 ≤ _), (by decide : 0 + 0 ≤ _)⟩)
  dsimp only [Pt.U, Pt.locs, Pt.cells, Pt.slots] at X1 l1 y1 z1 st1 hQ1
  subst l1 y1 z1
  obtain ⟨rfl, Nq1, e1⟩ := hQ1
  have N1 := Fr.app N0 Nq1
  obtain ⟨fs, hr, hrun, hended, hW, hsame⟩ := X1.leave (v := some (xi (1 : Int32))) (fun h => by rw [Bd.returns] at h; cases h)
  refine ⟨_, _, pre0 _ ?_, hrun, hended, _, _, rfl, ?_, ⟨_, rfl⟩, hW, hsame.mono (by decide) (by decide)⟩
  · show own_S p e below s₁ (mkF m 0 #[vr u1, vi (-1 : Int32)] []) _
    refine XS.aloadN X0.here hx rfl (hb hby d5_0) rfl rfl ?_
    show own_S p e below s₁ (mkF m 1 #[vr u1, vi (-1 : Int32)] [xr u1]) _
    refine st1.trans ?_
    show own_S p e below T1 (mkF m 4 #[vr u1, vi (-1 : Int32)] [xi (1 : Int32)]) _
    refine XS.tswIn X1.here hx rfl (pc0 := 4) (pc' := 66) (o := 62) rfl (hb hby d5_4) rfl (by decide) (by decide) (by decide) (by decide) ?_
    show own_S p e below T1 (mkF m 66 #[vr u1, vi (-1 : Int32)] []) _
    refine XS.iloadN X1.here hx rfl (hb hby d5_66) rfl ?_
    show own_S p e below T1 (mkF m 67 #[vr u1, vi (-1 : Int32)] [xi (-1 : Int32)]) _
    refine XS.ifNo X1.here hx rfl (hb hby d5_67) rfl (by decide) ?_
    show own_S p e below T1 (mkF m 70 #[vr u1, vi (-1 : Int32)] []) _
    refine XS.iconst X1.here hx rfl (hb hby d5_70) ?_
    show own_S p e below T1 (mkF m 71 #[vr u1, vi (-1 : Int32)] [xi (1 : Int32)]) _
    refine XS.goto X1.here hx rfl (pc0 := 71) (pc' := 123) rfl (hb hby d5_71) (by decide) (by decide) ?_
    show own_S p e below T1 (mkF m 123 #[vr u1, vi (-1 : Int32)] [xi (1 : Int32)]) _
    exact retN X1 hx (t := .boolean) Bd.returns (by simp) (hb hby d5_123) hr
  · exact ⟨rfl, N1, e1⟩
theorem ef_own_c17_holds (m : MethodId) (u0 u1 u2 u3 u4 u5 : Addr) : entryFrame m #[xr u1, xi (1 : Int32)] 2 = (mkF m 0 #[vr u1, vi (1 : Int32)] []) := by first | (simp [entryFrame, mkF, argsToLocals, Value.category]; done) | rfl
set_option maxRecDepth 65536 in
set_option maxHeartbeats 40000000 in
theorem own_c17_holds (l : Launch) (Z : State) (a0 : Array Value) (hw : ∀ d ∈ tables_1, d.before a0 Z = true) (u0 u1 u2 u3 u4 u5 : Addr) (G : own_St Z u0 u1 u2 u3 u4 u5) (h0 : Heap) (n0 : Nat) (O0 : Old Z n0 h0) : own_Met l Z Y5 prog_62_method_8_code 2 (some .boolean) ({ frames := 1, cells := 0, slots := 0, locals := 12 } : Room) #[xr u1, xi (1 : Int32)] h0 (own_QR (some (xi (1 : Int32))) h0 n0) := by
  intro ws
  refine MetFree.of_bodySF (plainFor_of_name pn2) hisR ?_
  intro p e s m args below meth c s₁ Bd hml0 hP hK
  obtain ⟨rfl, hZ, hh⟩ := hP
  have hx := Bd.exec
  have hby := Bd.bytes
  have hml : c.maxLocals = 2 := hml0
  have hown : s.vm.findClass "com/example/whyle/whyle/cfa/Relation" = some m.cls := findClass_of_methodNamed Bd.named
  have hnm := (name_of_methodNamed Bd.named Bd.method).1
  have X0 : Stand p l e ({ frames := 1, cells := 0, slots := 0, locals := 12 } : Room) s m #[xr u1, xi (1 : Int32)] below meth c s₁ [] 0 0 := Stand.of_body Bd
  have e0 : s₁.heap = h0 := by rw [← hh, Bd.state]; rfl
  have N0 := Fr.nil n0
  have pre0 : ∀ t, Steps p.tables e below (s₁.setTop (mkF m 0 #[vr u1, vi (1 : Int32)] [])) t → Steps p.tables e below (s₁.setTop (entryFrame m #[xr u1, xi (1 : Int32)] 2)) t := fun t st => castTop (ef_own_c17_holds m u0 u1 u2 u3 u4 u5) st
  obtain ⟨cq1, kq1, qa1, qb1, qc1⟩ := isOf hZ e0 ((own_X_u1 G).ext O0.2)
  obtain ⟨_, _, ⟨T1, L1, k1, n1⟩, -, X1, ⟨Lc1, hQ1, l1, y1, z1⟩, st1⟩ := X0.virtualBackUp hx (x := Y2) (y := Y1) hown (mvT hZ (ww hw 13 rfl)) (mvT hZ (ww hw 14 rfl)) (mvT hZ (ww hw 15 rfl)) (by decide) (mvT hZ (ww hw 17 rfl)) (mvT hZ (ww hw 16 rfl)) (backOf (W := 0) (own_c14_ordinal l Z a0 hw u0 u1 u2 u3 u4 u5 G h0 n0 O0 []) hZ (ww hw 19 rfl) (ww hw 18 rfl) (by decide) (by decide)) qa1 qc1 (g := (mkF m 1 #[vr u1, vi (1 : Int32)] [xr u1])) rfl (by rw [hml]; rfl) (Steps.refl _) (argsL := []) (rest := []) (lenOf pd1 rfl) rfl (by show 2 * 0 + _ ≤ _; exact Nat.le_of_eq rfl) (hb hby d5_1) (fun _ _ => ⟨rfl, e0, (by decide : 0 + 0 ≤ _), (by decide : 0 + 0 ≤ _)⟩)
  dsimp only [Pt.U, Pt.locs, Pt.cells, Pt.slots] at X1 l1 y1 z1 st1 hQ1
  subst l1 y1 z1
  obtain ⟨rfl, Nq1, e1⟩ := hQ1
  have N1 := Fr.app N0 Nq1
  obtain ⟨fs, hr, hrun, hended, hW, hsame⟩ := X1.leave (v := some (xi (1 : Int32))) (fun h => by rw [Bd.returns] at h; cases h)
  refine ⟨_, _, pre0 _ ?_, hrun, hended, _, _, rfl, ?_, ⟨_, rfl⟩, hW, hsame.mono (by decide) (by decide)⟩
  · show own_S p e below s₁ (mkF m 0 #[vr u1, vi (1 : Int32)] []) _
    refine XS.aloadN X0.here hx rfl (hb hby d5_0) rfl rfl ?_
    show own_S p e below s₁ (mkF m 1 #[vr u1, vi (1 : Int32)] [xr u1]) _
    refine st1.trans ?_
    show own_S p e below T1 (mkF m 4 #[vr u1, vi (1 : Int32)] [xi (1 : Int32)]) _
    refine XS.tswIn X1.here hx rfl (pc0 := 4) (pc' := 66) (o := 62) rfl (hb hby d5_4) rfl (by decide) (by decide) (by decide) (by decide) ?_
    show own_S p e below T1 (mkF m 66 #[vr u1, vi (1 : Int32)] []) _
    refine XS.iloadN X1.here hx rfl (hb hby d5_66) rfl ?_
    show own_S p e below T1 (mkF m 67 #[vr u1, vi (1 : Int32)] [xi (1 : Int32)]) _
    refine XS.ifNo X1.here hx rfl (hb hby d5_67) rfl (by decide) ?_
    show own_S p e below T1 (mkF m 70 #[vr u1, vi (1 : Int32)] []) _
    refine XS.iconst X1.here hx rfl (hb hby d5_70) ?_
    show own_S p e below T1 (mkF m 71 #[vr u1, vi (1 : Int32)] [xi (1 : Int32)]) _
    refine XS.goto X1.here hx rfl (pc0 := 71) (pc' := 123) rfl (hb hby d5_71) (by decide) (by decide) ?_
    show own_S p e below T1 (mkF m 123 #[vr u1, vi (1 : Int32)] [xi (1 : Int32)]) _
    exact retN X1 hx (t := .boolean) Bd.returns (by simp) (hb hby d5_123) hr
  · exact ⟨rfl, N1, e1⟩
theorem ef_own_l4 (m : MethodId) (u0 u1 u2 u3 u4 u5 : Addr) (p1 : Int32) (p2 : Int32) (p3 : Int32) (p4 : Int32) : entryFrame m #[xi p1, xi p2, xi p3, xi p4] maxLocals = (mkF m 0 #[vi p1, vi p2, vi p3, vi p4, vu, vu, vu, vu, vu] []) := by first | (simp [entryFrame, mkF, argsToLocals, Value.category, maxLocals]; done) | rfl
set_option maxRecDepth 65536 in
set_option maxHeartbeats 40000000 in
theorem own_l4 (l : Launch) (Z : State) (a0 : Array Value) (hw : ∀ d ∈ tables_1, d.before a0 Z = true) (u0 u1 u2 u3 u4 u5 : Addr) (G : own_St Z u0 u1 u2 u3 u4 u5) (p1 : Int32) (p2 : Int32) (p3 : Int32) (p4 : Int32) (as9 : ((p1 &&& (2147483647 : Int32)) - ((p1 &&& (2147483647 : Int32)) / (6 : Int32)) * (6 : Int32)) = (1 : Int32)) (as14 : (p4 &&& (1 : Int32)) = (0 : Int32)) (as0 : if_icmp.holds .ge p2 p3 = false) (as1 : if_icmp.holds .ge p3 p2 = true) (as2 : if_icmp.holds .ne p3 p2 = true) (h0 : Heap) (n0 : Nat) (O0 : Old Z n0 h0) : own_Met l Z x code maxLocals ret room_1 #[xi p1, xi p2, xi p3, xi p4] h0 (own_QL (some (xi (1 : Int32))) n0) := by
  intro ws
  refine MetFree.of_bodySF (plainFor_of_name pn0) hisR ?_
  intro p e s m args below meth c s₁ Bd hml0 hP hK
  obtain ⟨rfl, hZ, hh⟩ := hP
  have hx := Bd.exec
  have hby := Bd.bytes
  have hml : c.maxLocals = 9 := hml0
  have hown : s.vm.findClass "com/example/whyle/whyle/cfa/RelationConversePinLaw" = some m.cls := findClass_of_methodNamed Bd.named
  have hnm := (name_of_methodNamed Bd.named Bd.method).1
  have X0 : Stand p l e room_1 s m #[xi p1, xi p2, xi p3, xi p4] below meth c s₁ [] 0 0 := Stand.of_body Bd
  have e0 : s₁.heap = h0 := by rw [← hh, Bd.state]; rfl
  have N0 := Fr.nil n0
  have pre0 : ∀ t, Steps p.tables e below (s₁.setTop (mkF m 0 #[vi p1, vi p2, vi p3, vi p4, vu, vu, vu, vu, vu] [])) t → Steps p.tables e below (s₁.setTop (entryFrame m #[xi p1, xi p2, xi p3, xi p4] maxLocals)) t := fun t st => castTop (ef_own_l4 m u0 u1 u2 u3 u4 u5 p1 p2 p3 p4) st
  obtain ⟨_, _, ⟨T1, L1, k1, n1⟩, -, X1, ⟨Lc1, hQ1, l1, y1, z1⟩, st1⟩ := Jvm.LawKit.callS X0 hx (y := Y0) hown (mvT hZ (ww hw 0 rfl)) (mvT hZ (ww hw 1 rfl)) (mvT hZ (ww hw 2 rfl)) (mvT hZ (ww hw 3 rfl)) (by decide) (backOf (W := 0) (own_c13_pick l Z a0 hw u0 u1 u2 u3 u4 u5 G p1 as9 h0 n0 O0 []) hZ (ww hw 3 rfl) (ww hw 2 rfl) (by decide) (by decide)) (g := (mkF m 1 #[vi p1, vi p2, vi p3, vi p4, vu, vu, vu, vu, vu] [xi p1])) rfl (by rw [hml]; rfl) (argsL := [xi p1]) (rest := []) (lenOf pd0 rfl) rfl (by show 2 * 0 + _ ≤ _; exact Nat.le_of_eq rfl) (hb hby at_1) (fun _ _ => ⟨rfl, e0, (by decide : 0 + 0 ≤ _), (by decide : 0 + 0 ≤ _)⟩)
  dsimp only [Pt.U, Pt.locs, Pt.cells, Pt.slots] at X1 l1 y1 z1 st1 hQ1
  subst l1 y1 z1
  obtain ⟨rfl, Nq1, e1⟩ := hQ1
  have N1 := Fr.app N0 Nq1
  obtain ⟨cq2, kq2, qa2, qb2, qc2⟩ := isOf hZ e1 ((own_X_u1 G).ext O0.2)
  obtain ⟨_, _, ⟨T2, L2, k2, n2⟩, -, X2, ⟨Lc2, hQ2, l2, y2, z2⟩, st2⟩ := X1.virtualBack hx (y := Y3) (z := Y3) hown (mvT hZ (ww hw 8 rfl)) (mvT hZ (ww hw 9 rfl)) (notFace_of_selects (args := #[]) (mvT hZ (ww hw 11 rfl))) (mvT hZ (ww hw 11 rfl)) (mvT hZ (ww hw 10 rfl)) (by decide) (backOf (W := 0) (own_c14_converse l Z a0 hw u0 u1 u2 u3 u4 u5 G h0 n0 O0 []) hZ (ww hw 12 rfl) (ww hw 6 rfl) (by decide) (by decide)) qa2 qc2 (g := (mkF m 21 #[vi p1, vi p2, vi p3, vi p4, vr u1, vi p3, vu, vu, vu] [xr u1])) rfl (by rw [hml]; rfl) (Steps.refl _) (argsL := []) (rest := []) (lenOf pd2 rfl) rfl (by show 2 * 0 + _ ≤ _; exact Nat.le_of_eq rfl) (hb hby at_21) (fun _ _ => ⟨rfl, e1, (by decide : 0 + 0 ≤ _), (by decide : 0 + 0 ≤ _)⟩)
  dsimp only [Pt.U, Pt.locs, Pt.cells, Pt.slots] at X2 l2 y2 z2 st2 hQ2
  subst l2 y2 z2
  obtain ⟨rfl, Nq2, e2⟩ := hQ2
  have N2 := Fr.app N1 Nq2
  obtain ⟨_, _, ⟨T3, L3, k3, n3⟩, -, X3, ⟨Lc3, hQ3, l3, y3, z3⟩, st3⟩ := Jvm.LawKit.callS X2 hx (y := Y4) hown (mvT hZ (ww hw 23 rfl)) (mvT hZ (ww hw 24 rfl)) (mvT hZ (ww hw 2 rfl)) (mvT hZ (ww hw 25 rfl)) (by decide) (backOf (W := 1) (own_c3_sign l Z a0 hw u0 u1 u2 u3 u4 u5 G p2 p3 as0 h0 n0 O0 []) hZ (ww hw 25 rfl) (ww hw 2 rfl) (by decide) (by decide)) (g := (mkF m 38 #[vi p1, vi p2, vi p3, vi p4, vr u1, vi p3, vr u1, vu, vu] [xi p3, xi p2, xr u1])) rfl (by rw [hml]; rfl) (argsL := [xi p2, xi p3]) (rest := [xr u1]) (lenOf pd3 rfl) rfl (by show 2 * 0 + _ ≤ _; exact Nat.le_of_eq rfl) (hb hby at_38) (fun _ _ => ⟨rfl, e2, (by decide : 0 + 0 ≤ _), (by decide : 0 + 0 ≤ _)⟩)
  dsimp only [Pt.U, Pt.locs, Pt.cells, Pt.slots] at X3 l3 y3 z3 st3 hQ3
  subst l3 y3 z3
  obtain ⟨rfl, Nq3, e3⟩ := hQ3
  have N3 := Fr.app N2 Nq3
  obtain ⟨cq4, kq4, qa4, qb4, qc4⟩ := isOf hZ e3 ((own_X_u1 G).ext O0.2)
  obtain ⟨_, _, ⟨T4, L4, k4, n4⟩, -, X4, ⟨Lc4, hQ4, l4, y4, z4⟩, st4⟩ := X3.virtualBack hx (y := Y5) (z := Y5) hown (mvT hZ (ww hw 26 rfl)) (mvT hZ (ww hw 27 rfl)) (notFace_of_selects (args := #[]) (mvT hZ (ww hw 29 rfl))) (mvT hZ (ww hw 29 rfl)) (mvT hZ (ww hw 28 rfl)) (by decide) (backOf (W := 0) (own_c16_holds l Z a0 hw u0 u1 u2 u3 u4 u5 G h0 n0 O0 []) hZ (ww hw 30 rfl) (ww hw 6 rfl) (by decide) (by decide)) qa4 qc4 (g := (mkF m 41 #[vi p1, vi p2, vi p3, vi p4, vr u1, vi p3, vr u1, vu, vu] [xi (-1 : Int32), xr u1])) rfl (by rw [hml]; rfl) (Steps.refl _) (argsL := [xi (-1 : Int32)]) (rest := []) (lenOf pd4 rfl) rfl (by show 2 * 0 + _ ≤ _; exact Nat.le_of_eq rfl) (hb hby at_41) (fun _ _ => ⟨rfl, e3, (by decide : 0 + 0 ≤ _), (by decide : 0 + 0 ≤ _)⟩)
  dsimp only [Pt.U, Pt.locs, Pt.cells, Pt.slots] at X4 l4 y4 z4 st4 hQ4
  subst l4 y4 z4
  obtain ⟨rfl, Nq4, e4⟩ := hQ4
  have N4 := Fr.app N3 Nq4
  obtain ⟨_, _, ⟨T5, L5, k5, n5⟩, -, X5, ⟨Lc5, hQ5, l5, y5, z5⟩, st5⟩ := Jvm.LawKit.callS X4 hx (y := Y4) hown (mvT hZ (ww hw 23 rfl)) (mvT hZ (ww hw 24 rfl)) (mvT hZ (ww hw 2 rfl)) (mvT hZ (ww hw 25 rfl)) (by decide) (backOf (W := 1) (own_c5_sign l Z a0 hw u0 u1 u2 u3 u4 u5 G p2 p3 as1 as2 h0 n0 O0 []) hZ (ww hw 25 rfl) (ww hw 2 rfl) (by decide) (by decide)) (g := (mkF m 51 #[vi p1, vi p2, vi p3, vi p4, vr u1, vi p3, vr u1, vi (1 : Int32), vu] [xi p2, xi p3, xr u1])) rfl (by rw [hml]; rfl) (argsL := [xi p3, xi p2]) (rest := [xr u1]) (lenOf pd3 rfl) rfl (by show 2 * 0 + _ ≤ _; exact Nat.le_of_eq rfl) (hb hby at_51) (fun _ _ => ⟨rfl, e4, (by decide : 0 + 0 ≤ _), (by decide : 0 + 0 ≤ _)⟩)
  dsimp only [Pt.U, Pt.locs, Pt.cells, Pt.slots] at X5 l5 y5 z5 st5 hQ5
  subst l5 y5 z5
  obtain ⟨rfl, Nq5, e5⟩ := hQ5
  have N5 := Fr.app N4 Nq5
  obtain ⟨cq6, kq6, qa6, qb6, qc6⟩ := isOf hZ e5 ((own_X_u1 G).ext O0.2)
  obtain ⟨_, _, ⟨T6, L6, k6, n6⟩, -, X6, ⟨Lc6, hQ6, l6, y6, z6⟩, st6⟩ := X5.virtualBack hx (y := Y5) (z := Y5) hown (mvT hZ (ww hw 26 rfl)) (mvT hZ (ww hw 27 rfl)) (notFace_of_selects (args := #[]) (mvT hZ (ww hw 29 rfl))) (mvT hZ (ww hw 29 rfl)) (mvT hZ (ww hw 28 rfl)) (by decide) (backOf (W := 0) (own_c17_holds l Z a0 hw u0 u1 u2 u3 u4 u5 G h0 n0 O0 []) hZ (ww hw 30 rfl) (ww hw 6 rfl) (by decide) (by decide)) qa6 qc6 (g := (mkF m 54 #[vi p1, vi p2, vi p3, vi p4, vr u1, vi p3, vr u1, vi (1 : Int32), vu] [xi (1 : Int32), xr u1])) rfl (by rw [hml]; rfl) (Steps.refl _) (argsL := [xi (1 : Int32)]) (rest := []) (lenOf pd4 rfl) rfl (by show 2 * 0 + _ ≤ _; exact Nat.le_of_eq rfl) (hb hby at_54) (fun _ _ => ⟨rfl, e5, (by decide : 0 + 0 ≤ _), (by decide : 0 + 0 ≤ _)⟩)
  dsimp only [Pt.U, Pt.locs, Pt.cells, Pt.slots] at X6 l6 y6 z6 st6 hQ6
  subst l6 y6 z6
  obtain ⟨rfl, Nq6, e6⟩ := hQ6
  have N6 := Fr.app N5 Nq6
  obtain ⟨fs, hr, hrun, hended, hW, hsame⟩ := X6.leave (v := some (xi (1 : Int32))) (fun h => by rw [Bd.returns] at h; cases h)
  refine ⟨_, _, pre0 _ ?_, hrun, hended, _, _, rfl, ?_, ⟨_, rfl⟩, hW, hsame.mono (by decide) (by decide)⟩
  · show own_S p e below s₁ (mkF m 0 #[vi p1, vi p2, vi p3, vi p4, vu, vu, vu, vu, vu] []) _
    refine XS.iloadN X0.here hx rfl (hb hby at_0) rfl ?_
    show own_S p e below s₁ (mkF m 1 #[vi p1, vi p2, vi p3, vi p4, vu, vu, vu, vu, vu] [xi p1]) _
    refine st1 _ ?_
    show own_S p e below T1 (mkF m 4 #[vi p1, vi p2, vi p3, vi p4, vu, vu, vu, vu, vu] [xr u1]) _
    refine XS.astore X1.here hx rfl (hb hby at_4) rfl rfl (l' := #[vi p1, vi p2, vi p3, vi p4, vr u1, vu, vu, vu, vu]) rfl ?_
    show own_S p e below T1 (mkF m 6 #[vi p1, vi p2, vi p3, vi p4, vr u1, vu, vu, vu, vu] []) _
    refine XS.iloadN X1.here hx rfl (hb hby at_6) rfl ?_
    show own_S p e below T1 (mkF m 7 #[vi p1, vi p2, vi p3, vi p4, vr u1, vu, vu, vu, vu] [xi p4]) _
    refine XS.iconst X1.here hx rfl (hb hby at_7) ?_
    show own_S p e below T1 (mkF m 8 #[vi p1, vi p2, vi p3, vi p4, vr u1, vu, vu, vu, vu] [xi (1 : Int32), xi p4]) _
    refine XS.iand X1.here hx rfl (hb hby at_8) rfl ?_
    show own_S p e below T1 (mkF m 9 #[vi p1, vi p2, vi p3, vi p4, vr u1, vu, vu, vu, vu] [xi (p4 &&& (1 : Int32))]) _
    refine castTop (show (mkF m 9 #[vi p1, vi p2, vi p3, vi p4, vr u1, vu, vu, vu, vu] [xi (p4 &&& (1 : Int32))]) = (mkF m 9 #[vi p1, vi p2, vi p3, vi p4, vr u1, vu, vu, vu, vu] [xi (0 : Int32)]) from by rw [as14]) ?_
    show own_S p e below T1 (mkF m 9 #[vi p1, vi p2, vi p3, vi p4, vr u1, vu, vu, vu, vu] [xi (0 : Int32)]) _
    refine XS.ifYes X1.here hx rfl (pc0 := 9) (pc' := 16) rfl (hb hby at_9) rfl (by decide) (by decide) (by decide) ?_
    show own_S p e below T1 (mkF m 16 #[vi p1, vi p2, vi p3, vi p4, vr u1, vu, vu, vu, vu] []) _
    refine XS.iloadN X1.here hx rfl (hb hby at_16) rfl ?_
    show own_S p e below T1 (mkF m 17 #[vi p1, vi p2, vi p3, vi p4, vr u1, vu, vu, vu, vu] [xi p3]) _
    refine XS.istore X1.here hx rfl (hb hby at_17) rfl (l' := #[vi p1, vi p2, vi p3, vi p4, vr u1, vi p3, vu, vu, vu]) rfl ?_
    show own_S p e below T1 (mkF m 19 #[vi p1, vi p2, vi p3, vi p4, vr u1, vi p3, vu, vu, vu] []) _
    refine XS.aload X1.here hx rfl (hb hby at_19) rfl rfl ?_
    show own_S p e below T1 (mkF m 21 #[vi p1, vi p2, vi p3, vi p4, vr u1, vi p3, vu, vu, vu] [xr u1]) _
    refine st2.trans ?_
    show own_S p e below T2 (mkF m 24 #[vi p1, vi p2, vi p3, vi p4, vr u1, vi p3, vu, vu, vu] [xr u1]) _
    refine XS.astore X2.here hx rfl (hb hby at_24) rfl rfl (l' := #[vi p1, vi p2, vi p3, vi p4, vr u1, vi p3, vr u1, vu, vu]) rfl ?_
    show own_S p e below T2 (mkF m 26 #[vi p1, vi p2, vi p3, vi p4, vr u1, vi p3, vr u1, vu, vu] []) _
    refine XS.aload X2.here hx rfl (hb hby at_26) rfl rfl ?_
    show own_S p e below T2 (mkF m 28 #[vi p1, vi p2, vi p3, vi p4, vr u1, vi p3, vr u1, vu, vu] [xr u1]) _
    refine Jvm.Free.XT.nonnullYes X2.here hx rfl (pc0 := 28) (pc' := 33) rfl (hb hby at_28) rfl rfl (by simp) (by decide) (by decide) ?_
    show own_S p e below T2 (mkF m 33 #[vi p1, vi p2, vi p3, vi p4, vr u1, vi p3, vr u1, vu, vu] []) _
    refine XS.aload X2.here hx rfl (hb hby at_33) rfl rfl ?_
    show own_S p e below T2 (mkF m 35 #[vi p1, vi p2, vi p3, vi p4, vr u1, vi p3, vr u1, vu, vu] [xr u1]) _
    refine XS.iloadN X2.here hx rfl (hb hby at_35) rfl ?_
    show own_S p e below T2 (mkF m 36 #[vi p1, vi p2, vi p3, vi p4, vr u1, vi p3, vr u1, vu, vu] [xi p2, xr u1]) _
    refine XS.iload X2.here hx rfl (hb hby at_36) rfl ?_
    show own_S p e below T2 (mkF m 38 #[vi p1, vi p2, vi p3, vi p4, vr u1, vi p3, vr u1, vu, vu] [xi p3, xi p2, xr u1]) _
    refine st3 _ ?_
    show own_S p e below T3 (mkF m 41 #[vi p1, vi p2, vi p3, vi p4, vr u1, vi p3, vr u1, vu, vu] [xi (-1 : Int32), xr u1]) _
    refine st4.trans ?_
    show own_S p e below T4 (mkF m 44 #[vi p1, vi p2, vi p3, vi p4, vr u1, vi p3, vr u1, vu, vu] [xi (1 : Int32)]) _
    refine XS.istore X4.here hx rfl (hb hby at_44) rfl (l' := #[vi p1, vi p2, vi p3, vi p4, vr u1, vi p3, vr u1, vi (1 : Int32), vu]) rfl ?_
    show own_S p e below T4 (mkF m 46 #[vi p1, vi p2, vi p3, vi p4, vr u1, vi p3, vr u1, vi (1 : Int32), vu] []) _
    refine XS.aload X4.here hx rfl (hb hby at_46) rfl rfl ?_
    show own_S p e below T4 (mkF m 48 #[vi p1, vi p2, vi p3, vi p4, vr u1, vi p3, vr u1, vi (1 : Int32), vu] [xr u1]) _
    refine XS.iload X4.here hx rfl (hb hby at_48) rfl ?_
    show own_S p e below T4 (mkF m 50 #[vi p1, vi p2, vi p3, vi p4, vr u1, vi p3, vr u1, vi (1 : Int32), vu] [xi p3, xr u1]) _
    refine XS.iloadN X4.here hx rfl (hb hby at_50) rfl ?_
    show own_S p e below T4 (mkF m 51 #[vi p1, vi p2, vi p3, vi p4, vr u1, vi p3, vr u1, vi (1 : Int32), vu] [xi p2, xi p3, xr u1]) _
    refine st5 _ ?_
    show own_S p e below T5 (mkF m 54 #[vi p1, vi p2, vi p3, vi p4, vr u1, vi p3, vr u1, vi (1 : Int32), vu] [xi (1 : Int32), xr u1]) _
    refine st6.trans ?_
    show own_S p e below T6 (mkF m 57 #[vi p1, vi p2, vi p3, vi p4, vr u1, vi p3, vr u1, vi (1 : Int32), vu] [xi (1 : Int32)]) _
    refine XS.istore X6.here hx rfl (hb hby at_57) rfl (l' := #[vi p1, vi p2, vi p3, vi p4, vr u1, vi p3, vr u1, vi (1 : Int32), vi (1 : Int32)]) rfl ?_
    show own_S p e below T6 (mkF m 59 #[vi p1, vi p2, vi p3, vi p4, vr u1, vi p3, vr u1, vi (1 : Int32), vi (1 : Int32)] []) _
    refine XS.iload X6.here hx rfl (hb hby at_59) rfl ?_
    show own_S p e below T6 (mkF m 61 #[vi p1, vi p2, vi p3, vi p4, vr u1, vi p3, vr u1, vi (1 : Int32), vi (1 : Int32)] [xi (1 : Int32)]) _
    refine XS.iload X6.here hx rfl (hb hby at_61) rfl ?_
    show own_S p e below T6 (mkF m 63 #[vi p1, vi p2, vi p3, vi p4, vr u1, vi p3, vr u1, vi (1 : Int32), vi (1 : Int32)] [xi (1 : Int32), xi (1 : Int32)]) _
    refine XS.icmpNo X6.here hx rfl (hb hby at_63) rfl (by decide) ?_
    show own_S p e below T6 (mkF m 66 #[vi p1, vi p2, vi p3, vi p4, vr u1, vi p3, vr u1, vi (1 : Int32), vi (1 : Int32)] []) _
    refine XS.iconst X6.here hx rfl (hb hby at_66) ?_
    show own_S p e below T6 (mkF m 67 #[vi p1, vi p2, vi p3, vi p4, vr u1, vi p3, vr u1, vi (1 : Int32), vi (1 : Int32)] [xi (1 : Int32)]) _
    refine XS.goto X6.here hx rfl (pc0 := 67) (pc' := 71) rfl (hb hby at_67) (by decide) (by decide) ?_
    show own_S p e below T6 (mkF m 71 #[vi p1, vi p2, vi p3, vi p4, vr u1, vi p3, vr u1, vi (1 : Int32), vi (1 : Int32)] [xi (1 : Int32)]) _
    exact retN X6 hx (t := .boolean) Bd.returns (by simp) (hb hby at_71) hr
  · exact ⟨rfl, N6⟩
theorem d5_74 : decode prog_62_method_8_code 74 = .ok (.iconst 0, 1) := by decide +kernel
theorem d5_75 : decode prog_62_method_8_code 75 = .ok (.goto 48, 3) := by decide +kernel
theorem ef_own_c18_holds (m : MethodId) (u0 u1 u2 u3 u4 u5 : Addr) : entryFrame m #[xr u1, xi (0 : Int32)] 2 = (mkF m 0 #[vr u1, vi (0 : Int32)] []) := by first | (simp [entryFrame, mkF, argsToLocals, Value.category]; done) | rfl
set_option maxRecDepth 65536 in
set_option maxHeartbeats 40000000 in
theorem own_c18_holds (l : Launch) (Z : State) (a0 : Array Value) (hw : ∀ d ∈ tables_1, d.before a0 Z = true) (u0 u1 u2 u3 u4 u5 : Addr) (G : own_St Z u0 u1 u2 u3 u4 u5) (h0 : Heap) (n0 : Nat) (O0 : Old Z n0 h0) : own_Met l Z Y5 prog_62_method_8_code 2 (some .boolean) ({ frames := 1, cells := 0, slots := 0, locals := 12 } : Room) #[xr u1, xi (0 : Int32)] h0 (own_QR (some (xi (0 : Int32))) h0 n0) := by
  intro ws
  refine MetFree.of_bodySF (plainFor_of_name pn2) hisR ?_
  intro p e s m args below meth c s₁ Bd hml0 hP hK
  obtain ⟨rfl, hZ, hh⟩ := hP
  have hx := Bd.exec
  have hby := Bd.bytes
  have hml : c.maxLocals = 2 := hml0
  have hown : s.vm.findClass "com/example/whyle/whyle/cfa/Relation" = some m.cls := findClass_of_methodNamed Bd.named
  have hnm := (name_of_methodNamed Bd.named Bd.method).1
  have X0 : Stand p l e ({ frames := 1, cells := 0, slots := 0, locals := 12 } : Room) s m #[xr u1, xi (0 : Int32)] below meth c s₁ [] 0 0 := Stand.of_body Bd
  have e0 : s₁.heap = h0 := by rw [← hh, Bd.state]; rfl
  have N0 := Fr.nil n0
  have pre0 : ∀ t, Steps p.tables e below (s₁.setTop (mkF m 0 #[vr u1, vi (0 : Int32)] [])) t → Steps p.tables e below (s₁.setTop (entryFrame m #[xr u1, xi (0 : Int32)] 2)) t := fun t st => castTop (ef_own_c18_holds m u0 u1 u2 u3 u4 u5) st
  obtain ⟨cq1, kq1, qa1, qb1, qc1⟩ := isOf hZ e0 ((own_X_u1 G).ext O0.2)
  obtain ⟨_, _, ⟨T1, L1, k1, n1⟩, -, X1, ⟨Lc1, hQ1, l1, y1, z1⟩, st1⟩ := X0.virtualBackUp hx (x := Y2) (y := Y1) hown (mvT hZ (ww hw 13 rfl)) (mvT hZ (ww hw 14 rfl)) (mvT hZ (ww hw 15 rfl)) (by decide) (mvT hZ (ww hw 17 rfl)) (mvT hZ (ww hw 16 rfl)) (backOf (W := 0) (own_c14_ordinal l Z a0 hw u0 u1 u2 u3 u4 u5 G h0 n0 O0 []) hZ (ww hw 19 rfl) (ww hw 18 rfl) (by decide) (by decide)) qa1 qc1 (g := (mkF m 1 #[vr u1, vi (0 : Int32)] [xr u1])) rfl (by rw [hml]; rfl) (Steps.refl _) (argsL := []) (rest := []) (lenOf pd1 rfl) rfl (by show 2 * 0 + _ ≤ _; exact Nat.le_of_eq rfl) (hb hby d5_1) (fun _ _ => ⟨rfl, e0, (by decide : 0 + 0 ≤ _), (by decide : 0 + 0 ≤ _)⟩)
  dsimp only [Pt.U, Pt.locs, Pt.cells, Pt.slots] at X1 l1 y1 z1 st1 hQ1
  subst l1 y1 z1
  obtain ⟨rfl, Nq1, e1⟩ := hQ1
  have N1 := Fr.app N0 Nq1
  obtain ⟨fs, hr, hrun, hended, hW, hsame⟩ := X1.leave (v := some (xi (0 : Int32))) (fun h => by rw [Bd.returns] at h; cases h)
  refine ⟨_, _, pre0 _ ?_, hrun, hended, _, _, rfl, ?_, ⟨_, rfl⟩, hW, hsame.mono (by decide) (by decide)⟩
  · show own_S p e below s₁ (mkF m 0 #[vr u1, vi (0 : Int32)] []) _
    refine XS.aloadN X0.here hx rfl (hb hby d5_0) rfl rfl ?_
    show own_S p e below s₁ (mkF m 1 #[vr u1, vi (0 : Int32)] [xr u1]) _
    refine st1.trans ?_
    show own_S p e below T1 (mkF m 4 #[vr u1, vi (0 : Int32)] [xi (1 : Int32)]) _
    refine XS.tswIn X1.here hx rfl (pc0 := 4) (pc' := 66) (o := 62) rfl (hb hby d5_4) rfl (by decide) (by decide) (by decide) (by decide) ?_
    show own_S p e below T1 (mkF m 66 #[vr u1, vi (0 : Int32)] []) _
    refine XS.iloadN X1.here hx rfl (hb hby d5_66) rfl ?_
    show own_S p e below T1 (mkF m 67 #[vr u1, vi (0 : Int32)] [xi (0 : Int32)]) _
    refine XS.ifYes X1.here hx rfl (pc0 := 67) (pc' := 74) rfl (hb hby d5_67) rfl (by decide) (by decide) (by decide) ?_
    show own_S p e below T1 (mkF m 74 #[vr u1, vi (0 : Int32)] []) _
    refine XS.iconst X1.here hx rfl (hb hby d5_74) ?_
    show own_S p e below T1 (mkF m 75 #[vr u1, vi (0 : Int32)] [xi (0 : Int32)]) _
    refine XS.goto X1.here hx rfl (pc0 := 75) (pc' := 123) rfl (hb hby d5_75) (by decide) (by decide) ?_
    show own_S p e below T1 (mkF m 123 #[vr u1, vi (0 : Int32)] [xi (0 : Int32)]) _
    exact retN X1 hx (t := .boolean) Bd.returns (by simp) (hb hby d5_123) hr
  · exact ⟨rfl, N1, e1⟩
theorem ef_own_l5 (m : MethodId) (u0 u1 u2 u3 u4 u5 : Addr) (p1 : Int32) (p2 : Int32) (p3 : Int32) (p4 : Int32) : entryFrame m #[xi p1, xi p2, xi p3, xi p4] maxLocals = (mkF m 0 #[vi p1, vi p2, vi p3, vi p4, vu, vu, vu, vu, vu] []) := by first | (simp [entryFrame, mkF, argsToLocals, Value.category, maxLocals]; done) | rfl
set_option maxRecDepth 65536 in
set_option maxHeartbeats 40000000 in
theorem own_l5 (l : Launch) (Z : State) (a0 : Array Value) (hw : ∀ d ∈ tables_1, d.before a0 Z = true) (u0 u1 u2 u3 u4 u5 : Addr) (G : own_St Z u0 u1 u2 u3 u4 u5) (p1 : Int32) (p2 : Int32) (p3 : Int32) (p4 : Int32) (as9 : ((p1 &&& (2147483647 : Int32)) - ((p1 &&& (2147483647 : Int32)) / (6 : Int32)) * (6 : Int32)) = (1 : Int32)) (as14 : (p4 &&& (1 : Int32)) = (0 : Int32)) (as3 : if_icmp.holds .ge p2 p3 = true) (as4 : if_icmp.holds .ne p2 p3 = false) (as1 : if_icmp.holds .ge p3 p2 = true) (as5 : if_icmp.holds .ne p3 p2 = false) (h0 : Heap) (n0 : Nat) (O0 : Old Z n0 h0) : own_Met l Z x code maxLocals ret room_1 #[xi p1, xi p2, xi p3, xi p4] h0 (own_QL (some (xi (1 : Int32))) n0) := by
  intro ws
  refine MetFree.of_bodySF (plainFor_of_name pn0) hisR ?_
  intro p e s m args below meth c s₁ Bd hml0 hP hK
  obtain ⟨rfl, hZ, hh⟩ := hP
  have hx := Bd.exec
  have hby := Bd.bytes
  have hml : c.maxLocals = 9 := hml0
  have hown : s.vm.findClass "com/example/whyle/whyle/cfa/RelationConversePinLaw" = some m.cls := findClass_of_methodNamed Bd.named
  have hnm := (name_of_methodNamed Bd.named Bd.method).1
  have X0 : Stand p l e room_1 s m #[xi p1, xi p2, xi p3, xi p4] below meth c s₁ [] 0 0 := Stand.of_body Bd
  have e0 : s₁.heap = h0 := by rw [← hh, Bd.state]; rfl
  have N0 := Fr.nil n0
  have pre0 : ∀ t, Steps p.tables e below (s₁.setTop (mkF m 0 #[vi p1, vi p2, vi p3, vi p4, vu, vu, vu, vu, vu] [])) t → Steps p.tables e below (s₁.setTop (entryFrame m #[xi p1, xi p2, xi p3, xi p4] maxLocals)) t := fun t st => castTop (ef_own_l5 m u0 u1 u2 u3 u4 u5 p1 p2 p3 p4) st
  obtain ⟨_, _, ⟨T1, L1, k1, n1⟩, -, X1, ⟨Lc1, hQ1, l1, y1, z1⟩, st1⟩ := Jvm.LawKit.callS X0 hx (y := Y0) hown (mvT hZ (ww hw 0 rfl)) (mvT hZ (ww hw 1 rfl)) (mvT hZ (ww hw 2 rfl)) (mvT hZ (ww hw 3 rfl)) (by decide) (backOf (W := 0) (own_c13_pick l Z a0 hw u0 u1 u2 u3 u4 u5 G p1 as9 h0 n0 O0 []) hZ (ww hw 3 rfl) (ww hw 2 rfl) (by decide) (by decide)) (g := (mkF m 1 #[vi p1, vi p2, vi p3, vi p4, vu, vu, vu, vu, vu] [xi p1])) rfl (by rw [hml]; rfl) (argsL := [xi p1]) (rest := []) (lenOf pd0 rfl) rfl (by show 2 * 0 + _ ≤ _; exact Nat.le_of_eq rfl) (hb hby at_1) (fun _ _ => ⟨rfl, e0, (by decide : 0 + 0 ≤ _), (by decide : 0 + 0 ≤ _)⟩)
  dsimp only [Pt.U, Pt.locs, Pt.cells, Pt.slots] at X1 l1 y1 z1 st1 hQ1
  subst l1 y1 z1
  obtain ⟨rfl, Nq1, e1⟩ := hQ1
  have N1 := Fr.app N0 Nq1
  obtain ⟨cq2, kq2, qa2, qb2, qc2⟩ := isOf hZ e1 ((own_X_u1 G).ext O0.2)
  obtain ⟨_, _, ⟨T2, L2, k2, n2⟩, -, X2, ⟨Lc2, hQ2, l2, y2, z2⟩, st2⟩ := X1.virtualBack hx (y := Y3) (z := Y3) hown (mvT hZ (ww hw 8 rfl)) (mvT hZ (ww hw 9 rfl)) (notFace_of_selects (args := #[]) (mvT hZ (ww hw 11 rfl))) (mvT hZ (ww hw 11 rfl)) (mvT hZ (ww hw 10 rfl)) (by decide) (backOf (W := 0) (own_c14_converse l Z a0 hw u0 u1 u2 u3 u4 u5 G h0 n0 O0 []) hZ (ww hw 12 rfl) (ww hw 6 rfl) (by decide) (by decide)) qa2 qc2 (g := (mkF m 21 #[vi p1, vi p2, vi p3, vi p4, vr u1, vi p3, vu, vu, vu] [xr u1])) rfl (by rw [hml]; rfl) (Steps.refl _) (argsL := []) (rest := []) (lenOf pd2 rfl) rfl (by show 2 * 0 + _ ≤ _; exact Nat.le_of_eq rfl) (hb hby at_21) (fun _ _ => ⟨rfl, e1, (by decide : 0 + 0 ≤ _), (by decide : 0 + 0 ≤ _)⟩)
  dsimp only [Pt.U, Pt.locs, Pt.cells, Pt.slots] at X2 l2 y2 z2 st2 hQ2
  subst l2 y2 z2
  obtain ⟨rfl, Nq2, e2⟩ := hQ2
  have N2 := Fr.app N1 Nq2
  obtain ⟨_, _, ⟨T3, L3, k3, n3⟩, -, X3, ⟨Lc3, hQ3, l3, y3, z3⟩, st3⟩ := Jvm.LawKit.callS X2 hx (y := Y4) hown (mvT hZ (ww hw 23 rfl)) (mvT hZ (ww hw 24 rfl)) (mvT hZ (ww hw 2 rfl)) (mvT hZ (ww hw 25 rfl)) (by decide) (backOf (W := 1) (own_c7_sign l Z a0 hw u0 u1 u2 u3 u4 u5 G p2 p3 as3 as4 h0 n0 O0 []) hZ (ww hw 25 rfl) (ww hw 2 rfl) (by decide) (by decide)) (g := (mkF m 38 #[vi p1, vi p2, vi p3, vi p4, vr u1, vi p3, vr u1, vu, vu] [xi p3, xi p2, xr u1])) rfl (by rw [hml]; rfl) (argsL := [xi p2, xi p3]) (rest := [xr u1]) (lenOf pd3 rfl) rfl (by show 2 * 0 + _ ≤ _; exact Nat.le_of_eq rfl) (hb hby at_38) (fun _ _ => ⟨rfl, e2, (by decide : 0 + 0 ≤ _), (by decide : 0 + 0 ≤ _)⟩)
  dsimp only [Pt.U, Pt.locs, Pt.cells, Pt.slots] at X3 l3 y3 z3 st3 hQ3
  subst l3 y3 z3
  obtain ⟨rfl, Nq3, e3⟩ := hQ3
  have N3 := Fr.app N2 Nq3
  obtain ⟨cq4, kq4, qa4, qb4, qc4⟩ := isOf hZ e3 ((own_X_u1 G).ext O0.2)
  obtain ⟨_, _, ⟨T4, L4, k4, n4⟩, -, X4, ⟨Lc4, hQ4, l4, y4, z4⟩, st4⟩ := X3.virtualBack hx (y := Y5) (z := Y5) hown (mvT hZ (ww hw 26 rfl)) (mvT hZ (ww hw 27 rfl)) (notFace_of_selects (args := #[]) (mvT hZ (ww hw 29 rfl))) (mvT hZ (ww hw 29 rfl)) (mvT hZ (ww hw 28 rfl)) (by decide) (backOf (W := 0) (own_c18_holds l Z a0 hw u0 u1 u2 u3 u4 u5 G h0 n0 O0 []) hZ (ww hw 30 rfl) (ww hw 6 rfl) (by decide) (by decide)) qa4 qc4 (g := (mkF m 41 #[vi p1, vi p2, vi p3, vi p4, vr u1, vi p3, vr u1, vu, vu] [xi (0 : Int32), xr u1])) rfl (by rw [hml]; rfl) (Steps.refl _) (argsL := [xi (0 : Int32)]) (rest := []) (lenOf pd4 rfl) rfl (by show 2 * 0 + _ ≤ _; exact Nat.le_of_eq rfl) (hb hby at_41) (fun _ _ => ⟨rfl, e3, (by decide : 0 + 0 ≤ _), (by decide : 0 + 0 ≤ _)⟩)
  dsimp only [Pt.U, Pt.locs, Pt.cells, Pt.slots] at X4 l4 y4 z4 st4 hQ4
  subst l4 y4 z4
  obtain ⟨rfl, Nq4, e4⟩ := hQ4
  have N4 := Fr.app N3 Nq4
  obtain ⟨_, _, ⟨T5, L5, k5, n5⟩, -, X5, ⟨Lc5, hQ5, l5, y5, z5⟩, st5⟩ := Jvm.LawKit.callS X4 hx (y := Y4) hown (mvT hZ (ww hw 23 rfl)) (mvT hZ (ww hw 24 rfl)) (mvT hZ (ww hw 2 rfl)) (mvT hZ (ww hw 25 rfl)) (by decide) (backOf (W := 1) (own_c9_sign l Z a0 hw u0 u1 u2 u3 u4 u5 G p2 p3 as1 as5 h0 n0 O0 []) hZ (ww hw 25 rfl) (ww hw 2 rfl) (by decide) (by decide)) (g := (mkF m 51 #[vi p1, vi p2, vi p3, vi p4, vr u1, vi p3, vr u1, vi (0 : Int32), vu] [xi p2, xi p3, xr u1])) rfl (by rw [hml]; rfl) (argsL := [xi p3, xi p2]) (rest := [xr u1]) (lenOf pd3 rfl) rfl (by show 2 * 0 + _ ≤ _; exact Nat.le_of_eq rfl) (hb hby at_51) (fun _ _ => ⟨rfl, e4, (by decide : 0 + 0 ≤ _), (by decide : 0 + 0 ≤ _)⟩)
  dsimp only [Pt.U, Pt.locs, Pt.cells, Pt.slots] at X5 l5 y5 z5 st5 hQ5
  subst l5 y5 z5
  obtain ⟨rfl, Nq5, e5⟩ := hQ5
  have N5 := Fr.app N4 Nq5
  obtain ⟨cq6, kq6, qa6, qb6, qc6⟩ := isOf hZ e5 ((own_X_u1 G).ext O0.2)
  obtain ⟨_, _, ⟨T6, L6, k6, n6⟩, -, X6, ⟨Lc6, hQ6, l6, y6, z6⟩, st6⟩ := X5.virtualBack hx (y := Y5) (z := Y5) hown (mvT hZ (ww hw 26 rfl)) (mvT hZ (ww hw 27 rfl)) (notFace_of_selects (args := #[]) (mvT hZ (ww hw 29 rfl))) (mvT hZ (ww hw 29 rfl)) (mvT hZ (ww hw 28 rfl)) (by decide) (backOf (W := 0) (own_c18_holds l Z a0 hw u0 u1 u2 u3 u4 u5 G h0 n0 O0 []) hZ (ww hw 30 rfl) (ww hw 6 rfl) (by decide) (by decide)) qa6 qc6 (g := (mkF m 54 #[vi p1, vi p2, vi p3, vi p4, vr u1, vi p3, vr u1, vi (0 : Int32), vu] [xi (0 : Int32), xr u1])) rfl (by rw [hml]; rfl) (Steps.refl _) (argsL := [xi (0 : Int32)]) (rest := []) (lenOf pd4 rfl) rfl (by show 2 * 0 + _ ≤ _; exact Nat.le_of_eq rfl) (hb hby at_54) (fun _ _ => ⟨rfl, e5, (by decide : 0 + 0 ≤ _), (by decide : 0 + 0 ≤ _)⟩)
  dsimp only [Pt.U, Pt.locs, Pt.cells, Pt.slots] at X6 l6 y6 z6 st6 hQ6
  subst l6 y6 z6
  obtain ⟨rfl, Nq6, e6⟩ := hQ6
  have N6 := Fr.app N5 Nq6
  obtain ⟨fs, hr, hrun, hended, hW, hsame⟩ := X6.leave (v := some (xi (1 : Int32))) (fun h => by rw [Bd.returns] at h; cases h)
  refine ⟨_, _, pre0 _ ?_, hrun, hended, _, _, rfl, ?_, ⟨_, rfl⟩, hW, hsame.mono (by decide) (by decide)⟩
  · show own_S p e below s₁ (mkF m 0 #[vi p1, vi p2, vi p3, vi p4, vu, vu, vu, vu, vu] []) _
    refine XS.iloadN X0.here hx rfl (hb hby at_0) rfl ?_
    show own_S p e below s₁ (mkF m 1 #[vi p1, vi p2, vi p3, vi p4, vu, vu, vu, vu, vu] [xi p1]) _
    refine st1 _ ?_
    show own_S p e below T1 (mkF m 4 #[vi p1, vi p2, vi p3, vi p4, vu, vu, vu, vu, vu] [xr u1]) _
    refine XS.astore X1.here hx rfl (hb hby at_4) rfl rfl (l' := #[vi p1, vi p2, vi p3, vi p4, vr u1, vu, vu, vu, vu]) rfl ?_
    show own_S p e below T1 (mkF m 6 #[vi p1, vi p2, vi p3, vi p4, vr u1, vu, vu, vu, vu] []) _
    refine XS.iloadN X1.here hx rfl (hb hby at_6) rfl ?_
    show own_S p e below T1 (mkF m 7 #[vi p1, vi p2, vi p3, vi p4, vr u1, vu, vu, vu, vu] [xi p4]) _
    refine XS.iconst X1.here hx rfl (hb hby at_7) ?_
    show own_S p e below T1 (mkF m 8 #[vi p1, vi p2, vi p3, vi p4, vr u1, vu, vu, vu, vu] [xi (1 : Int32), xi p4]) _
    refine XS.iand X1.here hx rfl (hb hby at_8) rfl ?_
    show own_S p e below T1 (mkF m 9 #[vi p1, vi p2, vi p3, vi p4, vr u1, vu, vu, vu, vu] [xi (p4 &&& (1 : Int32))]) _
    refine castTop (show (mkF m 9 #[vi p1, vi p2, vi p3, vi p4, vr u1, vu, vu, vu, vu] [xi (p4 &&& (1 : Int32))]) = (mkF m 9 #[vi p1, vi p2, vi p3, vi p4, vr u1, vu, vu, vu, vu] [xi (0 : Int32)]) from by rw [as14]) ?_
    show own_S p e below T1 (mkF m 9 #[vi p1, vi p2, vi p3, vi p4, vr u1, vu, vu, vu, vu] [xi (0 : Int32)]) _
    refine XS.ifYes X1.here hx rfl (pc0 := 9) (pc' := 16) rfl (hb hby at_9) rfl (by decide) (by decide) (by decide) ?_
    show own_S p e below T1 (mkF m 16 #[vi p1, vi p2, vi p3, vi p4, vr u1, vu, vu, vu, vu] []) _
    refine XS.iloadN X1.here hx rfl (hb hby at_16) rfl ?_
    show own_S p e below T1 (mkF m 17 #[vi p1, vi p2, vi p3, vi p4, vr u1, vu, vu, vu, vu] [xi p3]) _
    refine XS.istore X1.here hx rfl (hb hby at_17) rfl (l' := #[vi p1, vi p2, vi p3, vi p4, vr u1, vi p3, vu, vu, vu]) rfl ?_
    show own_S p e below T1 (mkF m 19 #[vi p1, vi p2, vi p3, vi p4, vr u1, vi p3, vu, vu, vu] []) _
    refine XS.aload X1.here hx rfl (hb hby at_19) rfl rfl ?_
    show own_S p e below T1 (mkF m 21 #[vi p1, vi p2, vi p3, vi p4, vr u1, vi p3, vu, vu, vu] [xr u1]) _
    refine st2.trans ?_
    show own_S p e below T2 (mkF m 24 #[vi p1, vi p2, vi p3, vi p4, vr u1, vi p3, vu, vu, vu] [xr u1]) _
    refine XS.astore X2.here hx rfl (hb hby at_24) rfl rfl (l' := #[vi p1, vi p2, vi p3, vi p4, vr u1, vi p3, vr u1, vu, vu]) rfl ?_
    show own_S p e below T2 (mkF m 26 #[vi p1, vi p2, vi p3, vi p4, vr u1, vi p3, vr u1, vu, vu] []) _
    refine XS.aload X2.here hx rfl (hb hby at_26) rfl rfl ?_
    show own_S p e below T2 (mkF m 28 #[vi p1, vi p2, vi p3, vi p4, vr u1, vi p3, vr u1, vu, vu] [xr u1]) _
    refine Jvm.Free.XT.nonnullYes X2.here hx rfl (pc0 := 28) (pc' := 33) rfl (hb hby at_28) rfl rfl (by simp) (by decide) (by decide) ?_
    show own_S p e below T2 (mkF m 33 #[vi p1, vi p2, vi p3, vi p4, vr u1, vi p3, vr u1, vu, vu] []) _
    refine XS.aload X2.here hx rfl (hb hby at_33) rfl rfl ?_
    show own_S p e below T2 (mkF m 35 #[vi p1, vi p2, vi p3, vi p4, vr u1, vi p3, vr u1, vu, vu] [xr u1]) _
    refine XS.iloadN X2.here hx rfl (hb hby at_35) rfl ?_
    show own_S p e below T2 (mkF m 36 #[vi p1, vi p2, vi p3, vi p4, vr u1, vi p3, vr u1, vu, vu] [xi p2, xr u1]) _
    refine XS.iload X2.here hx rfl (hb hby at_36) rfl ?_
    show own_S p e below T2 (mkF m 38 #[vi p1, vi p2, vi p3, vi p4, vr u1, vi p3, vr u1, vu, vu] [xi p3, xi p2, xr u1]) _
    refine st3 _ ?_
    show own_S p e below T3 (mkF m 41 #[vi p1, vi p2, vi p3, vi p4, vr u1, vi p3, vr u1, vu, vu] [xi (0 : Int32), xr u1]) _
    refine st4.trans ?_
    show own_S p e below T4 (mkF m 44 #[vi p1, vi p2, vi p3, vi p4, vr u1, vi p3, vr u1, vu, vu] [xi (0 : Int32)]) _
    refine XS.istore X4.here hx rfl (hb hby at_44) rfl (l' := #[vi p1, vi p2, vi p3, vi p4, vr u1, vi p3, vr u1, vi (0 : Int32), vu]) rfl ?_
    show own_S p e below T4 (mkF m 46 #[vi p1, vi p2, vi p3, vi p4, vr u1, vi p3, vr u1, vi (0 : Int32), vu] []) _
    refine XS.aload X4.here hx rfl (hb hby at_46) rfl rfl ?_
    show own_S p e below T4 (mkF m 48 #[vi p1, vi p2, vi p3, vi p4, vr u1, vi p3, vr u1, vi (0 : Int32), vu] [xr u1]) _
    refine XS.iload X4.here hx rfl (hb hby at_48) rfl ?_
    show own_S p e below T4 (mkF m 50 #[vi p1, vi p2, vi p3, vi p4, vr u1, vi p3, vr u1, vi (0 : Int32), vu] [xi p3, xr u1]) _
    refine XS.iloadN X4.here hx rfl (hb hby at_50) rfl ?_
    show own_S p e below T4 (mkF m 51 #[vi p1, vi p2, vi p3, vi p4, vr u1, vi p3, vr u1, vi (0 : Int32), vu] [xi p2, xi p3, xr u1]) _
    refine st5 _ ?_
    show own_S p e below T5 (mkF m 54 #[vi p1, vi p2, vi p3, vi p4, vr u1, vi p3, vr u1, vi (0 : Int32), vu] [xi (0 : Int32), xr u1]) _
    refine st6.trans ?_
    show own_S p e below T6 (mkF m 57 #[vi p1, vi p2, vi p3, vi p4, vr u1, vi p3, vr u1, vi (0 : Int32), vu] [xi (0 : Int32)]) _
    refine XS.istore X6.here hx rfl (hb hby at_57) rfl (l' := #[vi p1, vi p2, vi p3, vi p4, vr u1, vi p3, vr u1, vi (0 : Int32), vi (0 : Int32)]) rfl ?_
    show own_S p e below T6 (mkF m 59 #[vi p1, vi p2, vi p3, vi p4, vr u1, vi p3, vr u1, vi (0 : Int32), vi (0 : Int32)] []) _
    refine XS.iload X6.here hx rfl (hb hby at_59) rfl ?_
    show own_S p e below T6 (mkF m 61 #[vi p1, vi p2, vi p3, vi p4, vr u1, vi p3, vr u1, vi (0 : Int32), vi (0 : Int32)] [xi (0 : Int32)]) _
    refine XS.iload X6.here hx rfl (hb hby at_61) rfl ?_
    show own_S p e below T6 (mkF m 63 #[vi p1, vi p2, vi p3, vi p4, vr u1, vi p3, vr u1, vi (0 : Int32), vi (0 : Int32)] [xi (0 : Int32), xi (0 : Int32)]) _
    refine XS.icmpNo X6.here hx rfl (hb hby at_63) rfl (by decide) ?_
    show own_S p e below T6 (mkF m 66 #[vi p1, vi p2, vi p3, vi p4, vr u1, vi p3, vr u1, vi (0 : Int32), vi (0 : Int32)] []) _
    refine XS.iconst X6.here hx rfl (hb hby at_66) ?_
    show own_S p e below T6 (mkF m 67 #[vi p1, vi p2, vi p3, vi p4, vr u1, vi p3, vr u1, vi (0 : Int32), vi (0 : Int32)] [xi (1 : Int32)]) _
    refine XS.goto X6.here hx rfl (pc0 := 67) (pc' := 71) rfl (hb hby at_67) (by decide) (by decide) ?_
    show own_S p e below T6 (mkF m 71 #[vi p1, vi p2, vi p3, vi p4, vr u1, vi p3, vr u1, vi (0 : Int32), vi (0 : Int32)] [xi (1 : Int32)]) _
    exact retN X6 hx (t := .boolean) Bd.returns (by simp) (hb hby at_71) hr
  · exact ⟨rfl, N6⟩
theorem ef_own_l6 (m : MethodId) (u0 u1 u2 u3 u4 u5 : Addr) (p1 : Int32) (p2 : Int32) (p3 : Int32) (p4 : Int32) : entryFrame m #[xi p1, xi p2, xi p3, xi p4] maxLocals = (mkF m 0 #[vi p1, vi p2, vi p3, vi p4, vu, vu, vu, vu, vu] []) := by first | (simp [entryFrame, mkF, argsToLocals, Value.category, maxLocals]; done) | rfl
set_option maxRecDepth 65536 in
set_option maxHeartbeats 40000000 in
theorem own_l6 (l : Launch) (Z : State) (a0 : Array Value) (hw : ∀ d ∈ tables_1, d.before a0 Z = true) (u0 u1 u2 u3 u4 u5 : Addr) (G : own_St Z u0 u1 u2 u3 u4 u5) (p1 : Int32) (p2 : Int32) (p3 : Int32) (p4 : Int32) (as9 : ((p1 &&& (2147483647 : Int32)) - ((p1 &&& (2147483647 : Int32)) / (6 : Int32)) * (6 : Int32)) = (1 : Int32)) (as14 : (p4 &&& (1 : Int32)) = (0 : Int32)) (as3 : if_icmp.holds .ge p2 p3 = true) (as6 : if_icmp.holds .ne p2 p3 = true) (as7 : if_icmp.holds .ge p3 p2 = false) (h0 : Heap) (n0 : Nat) (O0 : Old Z n0 h0) : own_Met l Z x code maxLocals ret room_1 #[xi p1, xi p2, xi p3, xi p4] h0 (own_QL (some (xi (1 : Int32))) n0) := by
  intro ws
  refine MetFree.of_bodySF (plainFor_of_name pn0) hisR ?_
  intro p e s m args below meth c s₁ Bd hml0 hP hK
  obtain ⟨rfl, hZ, hh⟩ := hP
  have hx := Bd.exec
  have hby := Bd.bytes
  have hml : c.maxLocals = 9 := hml0
  have hown : s.vm.findClass "com/example/whyle/whyle/cfa/RelationConversePinLaw" = some m.cls := findClass_of_methodNamed Bd.named
  have hnm := (name_of_methodNamed Bd.named Bd.method).1
  have X0 : Stand p l e room_1 s m #[xi p1, xi p2, xi p3, xi p4] below meth c s₁ [] 0 0 := Stand.of_body Bd
  have e0 : s₁.heap = h0 := by rw [← hh, Bd.state]; rfl
  have N0 := Fr.nil n0
  have pre0 : ∀ t, Steps p.tables e below (s₁.setTop (mkF m 0 #[vi p1, vi p2, vi p3, vi p4, vu, vu, vu, vu, vu] [])) t → Steps p.tables e below (s₁.setTop (entryFrame m #[xi p1, xi p2, xi p3, xi p4] maxLocals)) t := fun t st => castTop (ef_own_l6 m u0 u1 u2 u3 u4 u5 p1 p2 p3 p4) st
  obtain ⟨_, _, ⟨T1, L1, k1, n1⟩, -, X1, ⟨Lc1, hQ1, l1, y1, z1⟩, st1⟩ := Jvm.LawKit.callS X0 hx (y := Y0) hown (mvT hZ (ww hw 0 rfl)) (mvT hZ (ww hw 1 rfl)) (mvT hZ (ww hw 2 rfl)) (mvT hZ (ww hw 3 rfl)) (by decide) (backOf (W := 0) (own_c13_pick l Z a0 hw u0 u1 u2 u3 u4 u5 G p1 as9 h0 n0 O0 []) hZ (ww hw 3 rfl) (ww hw 2 rfl) (by decide) (by decide)) (g := (mkF m 1 #[vi p1, vi p2, vi p3, vi p4, vu, vu, vu, vu, vu] [xi p1])) rfl (by rw [hml]; rfl) (argsL := [xi p1]) (rest := []) (lenOf pd0 rfl) rfl (by show 2 * 0 + _ ≤ _; exact Nat.le_of_eq rfl) (hb hby at_1) (fun _ _ => ⟨rfl, e0, (by decide : 0 + 0 ≤ _), (by decide : 0 + 0 ≤ _)⟩)
  dsimp only [Pt.U, Pt.locs, Pt.cells, Pt.slots] at X1 l1 y1 z1 st1 hQ1
  subst l1 y1 z1
  obtain ⟨rfl, Nq1, e1⟩ := hQ1
  have N1 := Fr.app N0 Nq1
  obtain ⟨cq2, kq2, qa2, qb2, qc2⟩ := isOf hZ e1 ((own_X_u1 G).ext O0.2)
  obtain ⟨_, _, ⟨T2, L2, k2, n2⟩, -, X2, ⟨Lc2, hQ2, l2, y2, z2⟩, st2⟩ := X1.virtualBack hx (y := Y3) (z := Y3) hown (mvT hZ (ww hw 8 rfl)) (mvT hZ (ww hw 9 rfl)) (notFace_of_selects (args := #[]) (mvT hZ (ww hw 11 rfl))) (mvT hZ (ww hw 11 rfl)) (mvT hZ (ww hw 10 rfl)) (by decide) (backOf (W := 0) (own_c14_converse l Z a0 hw u0 u1 u2 u3 u4 u5 G h0 n0 O0 []) hZ (ww hw 12 rfl) (ww hw 6 rfl) (by decide) (by decide)) qa2 qc2 (g := (mkF m 21 #[vi p1, vi p2, vi p3, vi p4, vr u1, vi p3, vu, vu, vu] [xr u1])) rfl (by rw [hml]; rfl) (Steps.refl _) (argsL := []) (rest := []) (lenOf pd2 rfl) rfl (by show 2 * 0 + _ ≤ _; exact Nat.le_of_eq rfl) (hb hby at_21) (fun _ _ => ⟨rfl, e1, (by decide : 0 + 0 ≤ _), (by decide : 0 + 0 ≤ _)⟩)
  dsimp only [Pt.U, Pt.locs, Pt.cells, Pt.slots] at X2 l2 y2 z2 st2 hQ2
  subst l2 y2 z2
  obtain ⟨rfl, Nq2, e2⟩ := hQ2
  have N2 := Fr.app N1 Nq2
  obtain ⟨_, _, ⟨T3, L3, k3, n3⟩, -, X3, ⟨Lc3, hQ3, l3, y3, z3⟩, st3⟩ := Jvm.LawKit.callS X2 hx (y := Y4) hown (mvT hZ (ww hw 23 rfl)) (mvT hZ (ww hw 24 rfl)) (mvT hZ (ww hw 2 rfl)) (mvT hZ (ww hw 25 rfl)) (by decide) (backOf (W := 1) (own_c10_sign l Z a0 hw u0 u1 u2 u3 u4 u5 G p2 p3 as3 as6 h0 n0 O0 []) hZ (ww hw 25 rfl) (ww hw 2 rfl) (by decide) (by decide)) (g := (mkF m 38 #[vi p1, vi p2, vi p3, vi p4, vr u1, vi p3, vr u1, vu, vu] [xi p3, xi p2, xr u1])) rfl (by rw [hml]; rfl) (argsL := [xi p2, xi p3]) (rest := [xr u1]) (lenOf pd3 rfl) rfl (by show 2 * 0 + _ ≤ _; exact Nat.le_of_eq rfl) (hb hby at_38) (fun _ _ => ⟨rfl, e2, (by decide : 0 + 0 ≤ _), (by decide : 0 + 0 ≤ _)⟩)
  dsimp only [Pt.U, Pt.locs, Pt.cells, Pt.slots] at X3 l3 y3 z3 st3 hQ3
  subst l3 y3 z3
  obtain ⟨rfl, Nq3, e3⟩ := hQ3
  have N3 := Fr.app N2 Nq3
  obtain ⟨cq4, kq4, qa4, qb4, qc4⟩ := isOf hZ e3 ((own_X_u1 G).ext O0.2)
  obtain ⟨_, _, ⟨T4, L4, k4, n4⟩, -, X4, ⟨Lc4, hQ4, l4, y4, z4⟩, st4⟩ := X3.virtualBack hx (y := Y5) (z := Y5) hown (mvT hZ (ww hw 26 rfl)) (mvT hZ (ww hw 27 rfl)) (notFace_of_selects (args := #[]) (mvT hZ (ww hw 29 rfl))) (mvT hZ (ww hw 29 rfl)) (mvT hZ (ww hw 28 rfl)) (by decide) (backOf (W := 0) (own_c17_holds l Z a0 hw u0 u1 u2 u3 u4 u5 G h0 n0 O0 []) hZ (ww hw 30 rfl) (ww hw 6 rfl) (by decide) (by decide)) qa4 qc4 (g := (mkF m 41 #[vi p1, vi p2, vi p3, vi p4, vr u1, vi p3, vr u1, vu, vu] [xi (1 : Int32), xr u1])) rfl (by rw [hml]; rfl) (Steps.refl _) (argsL := [xi (1 : Int32)]) (rest := []) (lenOf pd4 rfl) rfl (by show 2 * 0 + _ ≤ _; exact Nat.le_of_eq rfl) (hb hby at_41) (fun _ _ => ⟨rfl, e3, (by decide : 0 + 0 ≤ _), (by decide : 0 + 0 ≤ _)⟩)
  dsimp only [Pt.U, Pt.locs, Pt.cells, Pt.slots] at X4 l4 y4 z4 st4 hQ4
  subst l4 y4 z4
  obtain ⟨rfl, Nq4, e4⟩ := hQ4
  have N4 := Fr.app N3 Nq4
  obtain ⟨_, _, ⟨T5, L5, k5, n5⟩, -, X5, ⟨Lc5, hQ5, l5, y5, z5⟩, st5⟩ := Jvm.LawKit.callS X4 hx (y := Y4) hown (mvT hZ (ww hw 23 rfl)) (mvT hZ (ww hw 24 rfl)) (mvT hZ (ww hw 2 rfl)) (mvT hZ (ww hw 25 rfl)) (by decide) (backOf (W := 1) (own_c11_sign l Z a0 hw u0 u1 u2 u3 u4 u5 G p2 p3 as7 h0 n0 O0 []) hZ (ww hw 25 rfl) (ww hw 2 rfl) (by decide) (by decide)) (g := (mkF m 51 #[vi p1, vi p2, vi p3, vi p4, vr u1, vi p3, vr u1, vi (1 : Int32), vu] [xi p2, xi p3, xr u1])) rfl (by rw [hml]; rfl) (argsL := [xi p3, xi p2]) (rest := [xr u1]) (lenOf pd3 rfl) rfl (by show 2 * 0 + _ ≤ _; exact Nat.le_of_eq rfl) (hb hby at_51) (fun _ _ => ⟨rfl, e4, (by decide : 0 + 0 ≤ _), (by decide : 0 + 0 ≤ _)⟩)
  dsimp only [Pt.U, Pt.locs, Pt.cells, Pt.slots] at X5 l5 y5 z5 st5 hQ5
  subst l5 y5 z5
  obtain ⟨rfl, Nq5, e5⟩ := hQ5
  have N5 := Fr.app N4 Nq5
  obtain ⟨cq6, kq6, qa6, qb6, qc6⟩ := isOf hZ e5 ((own_X_u1 G).ext O0.2)
  obtain ⟨_, _, ⟨T6, L6, k6, n6⟩, -, X6, ⟨Lc6, hQ6, l6, y6, z6⟩, st6⟩ := X5.virtualBack hx (y := Y5) (z := Y5) hown (mvT hZ (ww hw 26 rfl)) (mvT hZ (ww hw 27 rfl)) (notFace_of_selects (args := #[]) (mvT hZ (ww hw 29 rfl))) (mvT hZ (ww hw 29 rfl)) (mvT hZ (ww hw 28 rfl)) (by decide) (backOf (W := 0) (own_c16_holds l Z a0 hw u0 u1 u2 u3 u4 u5 G h0 n0 O0 []) hZ (ww hw 30 rfl) (ww hw 6 rfl) (by decide) (by decide)) qa6 qc6 (g := (mkF m 54 #[vi p1, vi p2, vi p3, vi p4, vr u1, vi p3, vr u1, vi (1 : Int32), vu] [xi (-1 : Int32), xr u1])) rfl (by rw [hml]; rfl) (Steps.refl _) (argsL := [xi (-1 : Int32)]) (rest := []) (lenOf pd4 rfl) rfl (by show 2 * 0 + _ ≤ _; exact Nat.le_of_eq rfl) (hb hby at_54) (fun _ _ => ⟨rfl, e5, (by decide : 0 + 0 ≤ _), (by decide : 0 + 0 ≤ _)⟩)
  dsimp only [Pt.U, Pt.locs, Pt.cells, Pt.slots] at X6 l6 y6 z6 st6 hQ6
  subst l6 y6 z6
  obtain ⟨rfl, Nq6, e6⟩ := hQ6
  have N6 := Fr.app N5 Nq6
  obtain ⟨fs, hr, hrun, hended, hW, hsame⟩ := X6.leave (v := some (xi (1 : Int32))) (fun h => by rw [Bd.returns] at h; cases h)
  refine ⟨_, _, pre0 _ ?_, hrun, hended, _, _, rfl, ?_, ⟨_, rfl⟩, hW, hsame.mono (by decide) (by decide)⟩
  · show own_S p e below s₁ (mkF m 0 #[vi p1, vi p2, vi p3, vi p4, vu, vu, vu, vu, vu] []) _
    refine XS.iloadN X0.here hx rfl (hb hby at_0) rfl ?_
    show own_S p e below s₁ (mkF m 1 #[vi p1, vi p2, vi p3, vi p4, vu, vu, vu, vu, vu] [xi p1]) _
    refine st1 _ ?_
    show own_S p e below T1 (mkF m 4 #[vi p1, vi p2, vi p3, vi p4, vu, vu, vu, vu, vu] [xr u1]) _
    refine XS.astore X1.here hx rfl (hb hby at_4) rfl rfl (l' := #[vi p1, vi p2, vi p3, vi p4, vr u1, vu, vu, vu, vu]) rfl ?_
    show own_S p e below T1 (mkF m 6 #[vi p1, vi p2, vi p3, vi p4, vr u1, vu, vu, vu, vu] []) _
    refine XS.iloadN X1.here hx rfl (hb hby at_6) rfl ?_
    show own_S p e below T1 (mkF m 7 #[vi p1, vi p2, vi p3, vi p4, vr u1, vu, vu, vu, vu] [xi p4]) _
    refine XS.iconst X1.here hx rfl (hb hby at_7) ?_
    show own_S p e below T1 (mkF m 8 #[vi p1, vi p2, vi p3, vi p4, vr u1, vu, vu, vu, vu] [xi (1 : Int32), xi p4]) _
    refine XS.iand X1.here hx rfl (hb hby at_8) rfl ?_
    show own_S p e below T1 (mkF m 9 #[vi p1, vi p2, vi p3, vi p4, vr u1, vu, vu, vu, vu] [xi (p4 &&& (1 : Int32))]) _
    refine castTop (show (mkF m 9 #[vi p1, vi p2, vi p3, vi p4, vr u1, vu, vu, vu, vu] [xi (p4 &&& (1 : Int32))]) = (mkF m 9 #[vi p1, vi p2, vi p3, vi p4, vr u1, vu, vu, vu, vu] [xi (0 : Int32)]) from by rw [as14]) ?_
    show own_S p e below T1 (mkF m 9 #[vi p1, vi p2, vi p3, vi p4, vr u1, vu, vu, vu, vu] [xi (0 : Int32)]) _
    refine XS.ifYes X1.here hx rfl (pc0 := 9) (pc' := 16) rfl (hb hby at_9) rfl (by decide) (by decide) (by decide) ?_
    show own_S p e below T1 (mkF m 16 #[vi p1, vi p2, vi p3, vi p4, vr u1, vu, vu, vu, vu] []) _
    refine XS.iloadN X1.here hx rfl (hb hby at_16) rfl ?_
    show own_S p e below T1 (mkF m 17 #[vi p1, vi p2, vi p3, vi p4, vr u1, vu, vu, vu, vu] [xi p3]) _
    refine XS.istore X1.here hx rfl (hb hby at_17) rfl (l' := #[vi p1, vi p2, vi p3, vi p4, vr u1, vi p3, vu, vu, vu]) rfl ?_
    show own_S p e below T1 (mkF m 19 #[vi p1, vi p2, vi p3, vi p4, vr u1, vi p3, vu, vu, vu] []) _
    refine XS.aload X1.here hx rfl (hb hby at_19) rfl rfl ?_
    show own_S p e below T1 (mkF m 21 #[vi p1, vi p2, vi p3, vi p4, vr u1, vi p3, vu, vu, vu] [xr u1]) _
    refine st2.trans ?_
    show own_S p e below T2 (mkF m 24 #[vi p1, vi p2, vi p3, vi p4, vr u1, vi p3, vu, vu, vu] [xr u1]) _
    refine XS.astore X2.here hx rfl (hb hby at_24) rfl rfl (l' := #[vi p1, vi p2, vi p3, vi p4, vr u1, vi p3, vr u1, vu, vu]) rfl ?_
    show own_S p e below T2 (mkF m 26 #[vi p1, vi p2, vi p3, vi p4, vr u1, vi p3, vr u1, vu, vu] []) _
    refine XS.aload X2.here hx rfl (hb hby at_26) rfl rfl ?_
    show own_S p e below T2 (mkF m 28 #[vi p1, vi p2, vi p3, vi p4, vr u1, vi p3, vr u1, vu, vu] [xr u1]) _
    refine Jvm.Free.XT.nonnullYes X2.here hx rfl (pc0 := 28) (pc' := 33) rfl (hb hby at_28) rfl rfl (by simp) (by decide) (by decide) ?_
    show own_S p e below T2 (mkF m 33 #[vi p1, vi p2, vi p3, vi p4, vr u1, vi p3, vr u1, vu, vu] []) _
    refine XS.aload X2.here hx rfl (hb hby at_33) rfl rfl ?_
    show own_S p e below T2 (mkF m 35 #[vi p1, vi p2, vi p3, vi p4, vr u1, vi p3, vr u1, vu, vu] [xr u1]) _
    refine XS.iloadN X2.here hx rfl (hb hby at_35) rfl ?_
    show own_S p e below T2 (mkF m 36 #[vi p1, vi p2, vi p3, vi p4, vr u1, vi p3, vr u1, vu, vu] [xi p2, xr u1]) _
    refine XS.iload X2.here hx rfl (hb hby at_36) rfl ?_
    show own_S p e below T2 (mkF m 38 #[vi p1, vi p2, vi p3, vi p4, vr u1, vi p3, vr u1, vu, vu] [xi p3, xi p2, xr u1]) _
    refine st3 _ ?_
    show own_S p e below T3 (mkF m 41 #[vi p1, vi p2, vi p3, vi p4, vr u1, vi p3, vr u1, vu, vu] [xi (1 : Int32), xr u1]) _
    refine st4.trans ?_
    show own_S p e below T4 (mkF m 44 #[vi p1, vi p2, vi p3, vi p4, vr u1, vi p3, vr u1, vu, vu] [xi (1 : Int32)]) _
    refine XS.istore X4.here hx rfl (hb hby at_44) rfl (l' := #[vi p1, vi p2, vi p3, vi p4, vr u1, vi p3, vr u1, vi (1 : Int32), vu]) rfl ?_
    show own_S p e below T4 (mkF m 46 #[vi p1, vi p2, vi p3, vi p4, vr u1, vi p3, vr u1, vi (1 : Int32), vu] []) _
    refine XS.aload X4.here hx rfl (hb hby at_46) rfl rfl ?_
    show own_S p e below T4 (mkF m 48 #[vi p1, vi p2, vi p3, vi p4, vr u1, vi p3, vr u1, vi (1 : Int32), vu] [xr u1]) _
    refine XS.iload X4.here hx rfl (hb hby at_48) rfl ?_
    show own_S p e below T4 (mkF m 50 #[vi p1, vi p2, vi p3, vi p4, vr u1, vi p3, vr u1, vi (1 : Int32), vu] [xi p3, xr u1]) _
    refine XS.iloadN X4.here hx rfl (hb hby at_50) rfl ?_
    show own_S p e below T4 (mkF m 51 #[vi p1, vi p2, vi p3, vi p4, vr u1, vi p3, vr u1, vi (1 : Int32), vu] [xi p2, xi p3, xr u1]) _
    refine st5 _ ?_
    show own_S p e below T5 (mkF m 54 #[vi p1, vi p2, vi p3, vi p4, vr u1, vi p3, vr u1, vi (1 : Int32), vu] [xi (-1 : Int32), xr u1]) _
    refine st6.trans ?_
    show own_S p e below T6 (mkF m 57 #[vi p1, vi p2, vi p3, vi p4, vr u1, vi p3, vr u1, vi (1 : Int32), vu] [xi (1 : Int32)]) _
    refine XS.istore X6.here hx rfl (hb hby at_57) rfl (l' := #[vi p1, vi p2, vi p3, vi p4, vr u1, vi p3, vr u1, vi (1 : Int32), vi (1 : Int32)]) rfl ?_
    show own_S p e below T6 (mkF m 59 #[vi p1, vi p2, vi p3, vi p4, vr u1, vi p3, vr u1, vi (1 : Int32), vi (1 : Int32)] []) _
    refine XS.iload X6.here hx rfl (hb hby at_59) rfl ?_
    show own_S p e below T6 (mkF m 61 #[vi p1, vi p2, vi p3, vi p4, vr u1, vi p3, vr u1, vi (1 : Int32), vi (1 : Int32)] [xi (1 : Int32)]) _
    refine XS.iload X6.here hx rfl (hb hby at_61) rfl ?_
    show own_S p e below T6 (mkF m 63 #[vi p1, vi p2, vi p3, vi p4, vr u1, vi p3, vr u1, vi (1 : Int32), vi (1 : Int32)] [xi (1 : Int32), xi (1 : Int32)]) _
    refine XS.icmpNo X6.here hx rfl (hb hby at_63) rfl (by decide) ?_
    show own_S p e below T6 (mkF m 66 #[vi p1, vi p2, vi p3, vi p4, vr u1, vi p3, vr u1, vi (1 : Int32), vi (1 : Int32)] []) _
    refine XS.iconst X6.here hx rfl (hb hby at_66) ?_
    show own_S p e below T6 (mkF m 67 #[vi p1, vi p2, vi p3, vi p4, vr u1, vi p3, vr u1, vi (1 : Int32), vi (1 : Int32)] [xi (1 : Int32)]) _
    refine XS.goto X6.here hx rfl (pc0 := 67) (pc' := 71) rfl (hb hby at_67) (by decide) (by decide) ?_
    show own_S p e below T6 (mkF m 71 #[vi p1, vi p2, vi p3, vi p4, vr u1, vi p3, vr u1, vi (1 : Int32), vi (1 : Int32)] [xi (1 : Int32)]) _
    exact retN X6 hx (t := .boolean) Bd.returns (by simp) (hb hby at_71) hr
  · exact ⟨rfl, N6⟩
theorem ef_own_l7 (m : MethodId) (u0 u1 u2 u3 u4 u5 : Addr) (p1 : Int32) (p2 : Int32) (p3 : Int32) (p4 : Int32) : entryFrame m #[xi p1, xi p2, xi p3, xi p4] maxLocals = (mkF m 0 #[vi p1, vi p2, vi p3, vi p4, vu, vu, vu, vu, vu] []) := by first | (simp [entryFrame, mkF, argsToLocals, Value.category, maxLocals]; done) | rfl
set_option maxRecDepth 65536 in
set_option maxHeartbeats 40000000 in
theorem own_l7 (l : Launch) (Z : State) (a0 : Array Value) (hw : ∀ d ∈ tables_1, d.before a0 Z = true) (u0 u1 u2 u3 u4 u5 : Addr) (G : own_St Z u0 u1 u2 u3 u4 u5) (p1 : Int32) (p2 : Int32) (p3 : Int32) (p4 : Int32) (as9 : ((p1 &&& (2147483647 : Int32)) - ((p1 &&& (2147483647 : Int32)) / (6 : Int32)) * (6 : Int32)) = (1 : Int32)) (as15 : (p4 &&& (1 : Int32)) = (1 : Int32)) (h0 : Heap) (n0 : Nat) (O0 : Old Z n0 h0) : own_Met l Z x code maxLocals ret room_1 #[xi p1, xi p2, xi p3, xi p4] h0 (own_QL (some (xi (1 : Int32))) n0) := by
  intro ws
  refine MetFree.of_bodySF (plainFor_of_name pn0) hisR ?_
  intro p e s m args below meth c s₁ Bd hml0 hP hK
  obtain ⟨rfl, hZ, hh⟩ := hP
  have hx := Bd.exec
  have hby := Bd.bytes
  have hml : c.maxLocals = 9 := hml0
  have hown : s.vm.findClass "com/example/whyle/whyle/cfa/RelationConversePinLaw" = some m.cls := findClass_of_methodNamed Bd.named
  have hnm := (name_of_methodNamed Bd.named Bd.method).1
  have X0 : Stand p l e room_1 s m #[xi p1, xi p2, xi p3, xi p4] below meth c s₁ [] 0 0 := Stand.of_body Bd
  have e0 : s₁.heap = h0 := by rw [← hh, Bd.state]; rfl
  have N0 := Fr.nil n0
  have pre0 : ∀ t, Steps p.tables e below (s₁.setTop (mkF m 0 #[vi p1, vi p2, vi p3, vi p4, vu, vu, vu, vu, vu] [])) t → Steps p.tables e below (s₁.setTop (entryFrame m #[xi p1, xi p2, xi p3, xi p4] maxLocals)) t := fun t st => castTop (ef_own_l7 m u0 u1 u2 u3 u4 u5 p1 p2 p3 p4) st
  obtain ⟨_, _, ⟨T1, L1, k1, n1⟩, -, X1, ⟨Lc1, hQ1, l1, y1, z1⟩, st1⟩ := Jvm.LawKit.callS X0 hx (y := Y0) hown (mvT hZ (ww hw 0 rfl)) (mvT hZ (ww hw 1 rfl)) (mvT hZ (ww hw 2 rfl)) (mvT hZ (ww hw 3 rfl)) (by decide) (backOf (W := 0) (own_c13_pick l Z a0 hw u0 u1 u2 u3 u4 u5 G p1 as9 h0 n0 O0 []) hZ (ww hw 3 rfl) (ww hw 2 rfl) (by decide) (by decide)) (g := (mkF m 1 #[vi p1, vi p2, vi p3, vi p4, vu, vu, vu, vu, vu] [xi p1])) rfl (by rw [hml]; rfl) (argsL := [xi p1]) (rest := []) (lenOf pd0 rfl) rfl (by show 2 * 0 + _ ≤ _; exact Nat.le_of_eq rfl) (hb hby at_1) (fun _ _ => ⟨rfl, e0, (by decide : 0 + 0 ≤ _), (by decide : 0 + 0 ≤ _)⟩)
  dsimp only [Pt.U, Pt.locs, Pt.cells, Pt.slots] at X1 l1 y1 z1 st1 hQ1
  subst l1 y1 z1
  obtain ⟨rfl, Nq1, e1⟩ := hQ1
  have N1 := Fr.app N0 Nq1
  obtain ⟨cq2, kq2, qa2, qb2, qc2⟩ := isOf hZ e1 ((own_X_u1 G).ext O0.2)
  obtain ⟨_, _, ⟨T2, L2, k2, n2⟩, -, X2, ⟨Lc2, hQ2, l2, y2, z2⟩, st2⟩ := X1.virtualBack hx (y := Y3) (z := Y3) hown (mvT hZ (ww hw 8 rfl)) (mvT hZ (ww hw 9 rfl)) (notFace_of_selects (args := #[]) (mvT hZ (ww hw 11 rfl))) (mvT hZ (ww hw 11 rfl)) (mvT hZ (ww hw 10 rfl)) (by decide) (backOf (W := 0) (own_c14_converse l Z a0 hw u0 u1 u2 u3 u4 u5 G h0 n0 O0 []) hZ (ww hw 12 rfl) (ww hw 6 rfl) (by decide) (by decide)) qa2 qc2 (g := (mkF m 21 #[vi p1, vi p2, vi p3, vi p4, vr u1, vi p2, vu, vu, vu] [xr u1])) rfl (by rw [hml]; rfl) (Steps.refl _) (argsL := []) (rest := []) (lenOf pd2 rfl) rfl (by show 2 * 0 + _ ≤ _; exact Nat.le_of_eq rfl) (hb hby at_21) (fun _ _ => ⟨rfl, e1, (by decide : 0 + 0 ≤ _), (by decide : 0 + 0 ≤ _)⟩)
  dsimp only [Pt.U, Pt.locs, Pt.cells, Pt.slots] at X2 l2 y2 z2 st2 hQ2
  subst l2 y2 z2
  obtain ⟨rfl, Nq2, e2⟩ := hQ2
  have N2 := Fr.app N1 Nq2
  obtain ⟨_, _, ⟨T3, L3, k3, n3⟩, -, X3, ⟨Lc3, hQ3, l3, y3, z3⟩, st3⟩ := Jvm.LawKit.callS X2 hx (y := Y4) hown (mvT hZ (ww hw 23 rfl)) (mvT hZ (ww hw 24 rfl)) (mvT hZ (ww hw 2 rfl)) (mvT hZ (ww hw 25 rfl)) (by decide) (backOf (W := 1) (own_c12_sign l Z a0 hw u0 u1 u2 u3 u4 u5 G p2 h0 n0 O0 []) hZ (ww hw 25 rfl) (ww hw 2 rfl) (by decide) (by decide)) (g := (mkF m 38 #[vi p1, vi p2, vi p3, vi p4, vr u1, vi p2, vr u1, vu, vu] [xi p2, xi p2, xr u1])) rfl (by rw [hml]; rfl) (argsL := [xi p2, xi p2]) (rest := [xr u1]) (lenOf pd3 rfl) rfl (by show 2 * 0 + _ ≤ _; exact Nat.le_of_eq rfl) (hb hby at_38) (fun _ _ => ⟨rfl, e2, (by decide : 0 + 0 ≤ _), (by decide : 0 + 0 ≤ _)⟩)
  dsimp only [Pt.U, Pt.locs, Pt.cells, Pt.slots] at X3 l3 y3 z3 st3 hQ3
  subst l3 y3 z3
  obtain ⟨rfl, Nq3, e3⟩ := hQ3
  have N3 := Fr.app N2 Nq3
  obtain ⟨cq4, kq4, qa4, qb4, qc4⟩ := isOf hZ e3 ((own_X_u1 G).ext O0.2)
  obtain ⟨_, _, ⟨T4, L4, k4, n4⟩, -, X4, ⟨Lc4, hQ4, l4, y4, z4⟩, st4⟩ := X3.virtualBack hx (y := Y5) (z := Y5) hown (mvT hZ (ww hw 26 rfl)) (mvT hZ (ww hw 27 rfl)) (notFace_of_selects (args := #[]) (mvT hZ (ww hw 29 rfl))) (mvT hZ (ww hw 29 rfl)) (mvT hZ (ww hw 28 rfl)) (by decide) (backOf (W := 0) (own_c18_holds l Z a0 hw u0 u1 u2 u3 u4 u5 G h0 n0 O0 []) hZ (ww hw 30 rfl) (ww hw 6 rfl) (by decide) (by decide)) qa4 qc4 (g := (mkF m 41 #[vi p1, vi p2, vi p3, vi p4, vr u1, vi p2, vr u1, vu, vu] [xi (0 : Int32), xr u1])) rfl (by rw [hml]; rfl) (Steps.refl _) (argsL := [xi (0 : Int32)]) (rest := []) (lenOf pd4 rfl) rfl (by show 2 * 0 + _ ≤ _; exact Nat.le_of_eq rfl) (hb hby at_41) (fun _ _ => ⟨rfl, e3, (by decide : 0 + 0 ≤ _), (by decide : 0 + 0 ≤ _)⟩)
  dsimp only [Pt.U, Pt.locs, Pt.cells, Pt.slots] at X4 l4 y4 z4 st4 hQ4
  subst l4 y4 z4
  obtain ⟨rfl, Nq4, e4⟩ := hQ4
  have N4 := Fr.app N3 Nq4
  obtain ⟨_, _, ⟨T5, L5, k5, n5⟩, -, X5, ⟨Lc5, hQ5, l5, y5, z5⟩, st5⟩ := Jvm.LawKit.callS X4 hx (y := Y4) hown (mvT hZ (ww hw 23 rfl)) (mvT hZ (ww hw 24 rfl)) (mvT hZ (ww hw 2 rfl)) (mvT hZ (ww hw 25 rfl)) (by decide) (backOf (W := 1) (own_c12_sign l Z a0 hw u0 u1 u2 u3 u4 u5 G p2 h0 n0 O0 []) hZ (ww hw 25 rfl) (ww hw 2 rfl) (by decide) (by decide)) (g := (mkF m 51 #[vi p1, vi p2, vi p3, vi p4, vr u1, vi p2, vr u1, vi (0 : Int32), vu] [xi p2, xi p2, xr u1])) rfl (by rw [hml]; rfl) (argsL := [xi p2, xi p2]) (rest := [xr u1]) (lenOf pd3 rfl) rfl (by show 2 * 0 + _ ≤ _; exact Nat.le_of_eq rfl) (hb hby at_51) (fun _ _ => ⟨rfl, e4, (by decide : 0 + 0 ≤ _), (by decide : 0 + 0 ≤ _)⟩)
  dsimp only [Pt.U, Pt.locs, Pt.cells, Pt.slots] at X5 l5 y5 z5 st5 hQ5
  subst l5 y5 z5
  obtain ⟨rfl, Nq5, e5⟩ := hQ5
  have N5 := Fr.app N4 Nq5
  obtain ⟨cq6, kq6, qa6, qb6, qc6⟩ := isOf hZ e5 ((own_X_u1 G).ext O0.2)
  obtain ⟨_, _, ⟨T6, L6, k6, n6⟩, -, X6, ⟨Lc6, hQ6, l6, y6, z6⟩, st6⟩ := X5.virtualBack hx (y := Y5) (z := Y5) hown (mvT hZ (ww hw 26 rfl)) (mvT hZ (ww hw 27 rfl)) (notFace_of_selects (args := #[]) (mvT hZ (ww hw 29 rfl))) (mvT hZ (ww hw 29 rfl)) (mvT hZ (ww hw 28 rfl)) (by decide) (backOf (W := 0) (own_c18_holds l Z a0 hw u0 u1 u2 u3 u4 u5 G h0 n0 O0 []) hZ (ww hw 30 rfl) (ww hw 6 rfl) (by decide) (by decide)) qa6 qc6 (g := (mkF m 54 #[vi p1, vi p2, vi p3, vi p4, vr u1, vi p2, vr u1, vi (0 : Int32), vu] [xi (0 : Int32), xr u1])) rfl (by rw [hml]; rfl) (Steps.refl _) (argsL := [xi (0 : Int32)]) (rest := []) (lenOf pd4 rfl) rfl (by show 2 * 0 + _ ≤ _; exact Nat.le_of_eq rfl) (hb hby at_54) (fun _ _ => ⟨rfl, e5, (by decide : 0 + 0 ≤ _), (by decide : 0 + 0 ≤ _)⟩)
  dsimp only [Pt.U, Pt.locs, Pt.cells, Pt.slots] at X6 l6 y6 z6 st6 hQ6
  subst l6 y6 z6
  obtain ⟨rfl, Nq6, e6⟩ := hQ6
  have N6 := Fr.app N5 Nq6
  obtain ⟨fs, hr, hrun, hended, hW, hsame⟩ := X6.leave (v := some (xi (1 : Int32))) (fun h => by rw [Bd.returns] at h; cases h)
  refine ⟨_, _, pre0 _ ?_, hrun, hended, _, _, rfl, ?_, ⟨_, rfl⟩, hW, hsame.mono (by decide) (by decide)⟩
  · show own_S p e below s₁ (mkF m 0 #[vi p1, vi p2, vi p3, vi p4, vu, vu, vu, vu, vu] []) _
    refine XS.iloadN X0.here hx rfl (hb hby at_0) rfl ?_
    show own_S p e below s₁ (mkF m 1 #[vi p1, vi p2, vi p3, vi p4, vu, vu, vu, vu, vu] [xi p1]) _
    refine st1 _ ?_
    show own_S p e below T1 (mkF m 4 #[vi p1, vi p2, vi p3, vi p4, vu, vu, vu, vu, vu] [xr u1]) _
    refine XS.astore X1.here hx rfl (hb hby at_4) rfl rfl (l' := #[vi p1, vi p2, vi p3, vi p4, vr u1, vu, vu, vu, vu]) rfl ?_
    show own_S p e below T1 (mkF m 6 #[vi p1, vi p2, vi p3, vi p4, vr u1, vu, vu, vu, vu] []) _
    refine XS.iloadN X1.here hx rfl (hb hby at_6) rfl ?_
    show own_S p e below T1 (mkF m 7 #[vi p1, vi p2, vi p3, vi p4, vr u1, vu, vu, vu, vu] [xi p4]) _
    refine XS.iconst X1.here hx rfl (hb hby at_7) ?_
    show own_S p e below T1 (mkF m 8 #[vi p1, vi p2, vi p3, vi p4, vr u1, vu, vu, vu, vu] [xi (1 : Int32), xi p4]) _
    refine XS.iand X1.here hx rfl (hb hby at_8) rfl ?_
    show own_S p e below T1 (mkF m 9 #[vi p1, vi p2, vi p3, vi p4, vr u1, vu, vu, vu, vu] [xi (p4 &&& (1 : Int32))]) _
    refine castTop (show (mkF m 9 #[vi p1, vi p2, vi p3, vi p4, vr u1, vu, vu, vu, vu] [xi (p4 &&& (1 : Int32))]) = (mkF m 9 #[vi p1, vi p2, vi p3, vi p4, vr u1, vu, vu, vu, vu] [xi (1 : Int32)]) from by rw [as15]) ?_
    show own_S p e below T1 (mkF m 9 #[vi p1, vi p2, vi p3, vi p4, vr u1, vu, vu, vu, vu] [xi (1 : Int32)]) _
    refine XS.ifNo X1.here hx rfl (hb hby at_9) rfl (by decide) ?_
    show own_S p e below T1 (mkF m 12 #[vi p1, vi p2, vi p3, vi p4, vr u1, vu, vu, vu, vu] []) _
    refine XS.iloadN X1.here hx rfl (hb hby at_12) rfl ?_
    show own_S p e below T1 (mkF m 13 #[vi p1, vi p2, vi p3, vi p4, vr u1, vu, vu, vu, vu] [xi p2]) _
    refine XS.goto X1.here hx rfl (pc0 := 13) (pc' := 17) rfl (hb hby at_13) (by decide) (by decide) ?_
    show own_S p e below T1 (mkF m 17 #[vi p1, vi p2, vi p3, vi p4, vr u1, vu, vu, vu, vu] [xi p2]) _
    refine XS.istore X1.here hx rfl (hb hby at_17) rfl (l' := #[vi p1, vi p2, vi p3, vi p4, vr u1, vi p2, vu, vu, vu]) rfl ?_
    show own_S p e below T1 (mkF m 19 #[vi p1, vi p2, vi p3, vi p4, vr u1, vi p2, vu, vu, vu] []) _
    refine XS.aload X1.here hx rfl (hb hby at_19) rfl rfl ?_
    show own_S p e below T1 (mkF m 21 #[vi p1, vi p2, vi p3, vi p4, vr u1, vi p2, vu, vu, vu] [xr u1]) _
    refine st2.trans ?_
    show own_S p e below T2 (mkF m 24 #[vi p1, vi p2, vi p3, vi p4, vr u1, vi p2, vu, vu, vu] [xr u1]) _
    refine XS.astore X2.here hx rfl (hb hby at_24) rfl rfl (l' := #[vi p1, vi p2, vi p3, vi p4, vr u1, vi p2, vr u1, vu, vu]) rfl ?_
    show own_S p e below T2 (mkF m 26 #[vi p1, vi p2, vi p3, vi p4, vr u1, vi p2, vr u1, vu, vu] []) _
    refine XS.aload X2.here hx rfl (hb hby at_26) rfl rfl ?_
    show own_S p e below T2 (mkF m 28 #[vi p1, vi p2, vi p3, vi p4, vr u1, vi p2, vr u1, vu, vu] [xr u1]) _
    refine Jvm.Free.XT.nonnullYes X2.here hx rfl (pc0 := 28) (pc' := 33) rfl (hb hby at_28) rfl rfl (by simp) (by decide) (by decide) ?_
    show own_S p e below T2 (mkF m 33 #[vi p1, vi p2, vi p3, vi p4, vr u1, vi p2, vr u1, vu, vu] []) _
    refine XS.aload X2.here hx rfl (hb hby at_33) rfl rfl ?_
    show own_S p e below T2 (mkF m 35 #[vi p1, vi p2, vi p3, vi p4, vr u1, vi p2, vr u1, vu, vu] [xr u1]) _
    refine XS.iloadN X2.here hx rfl (hb hby at_35) rfl ?_
    show own_S p e below T2 (mkF m 36 #[vi p1, vi p2, vi p3, vi p4, vr u1, vi p2, vr u1, vu, vu] [xi p2, xr u1]) _
    refine XS.iload X2.here hx rfl (hb hby at_36) rfl ?_
    show own_S p e below T2 (mkF m 38 #[vi p1, vi p2, vi p3, vi p4, vr u1, vi p2, vr u1, vu, vu] [xi p2, xi p2, xr u1]) _
    refine st3 _ ?_
    show own_S p e below T3 (mkF m 41 #[vi p1, vi p2, vi p3, vi p4, vr u1, vi p2, vr u1, vu, vu] [xi (0 : Int32), xr u1]) _
    refine st4.trans ?_
    show own_S p e below T4 (mkF m 44 #[vi p1, vi p2, vi p3, vi p4, vr u1, vi p2, vr u1, vu, vu] [xi (0 : Int32)]) _
    refine XS.istore X4.here hx rfl (hb hby at_44) rfl (l' := #[vi p1, vi p2, vi p3, vi p4, vr u1, vi p2, vr u1, vi (0 : Int32), vu]) rfl ?_
    show own_S p e below T4 (mkF m 46 #[vi p1, vi p2, vi p3, vi p4, vr u1, vi p2, vr u1, vi (0 : Int32), vu] []) _
    refine XS.aload X4.here hx rfl (hb hby at_46) rfl rfl ?_
    show own_S p e below T4 (mkF m 48 #[vi p1, vi p2, vi p3, vi p4, vr u1, vi p2, vr u1, vi (0 : Int32), vu] [xr u1]) _
    refine XS.iload X4.here hx rfl (hb hby at_48) rfl ?_
    show own_S p e below T4 (mkF m 50 #[vi p1, vi p2, vi p3, vi p4, vr u1, vi p2, vr u1, vi (0 : Int32), vu] [xi p2, xr u1]) _
    refine XS.iloadN X4.here hx rfl (hb hby at_50) rfl ?_
    show own_S p e below T4 (mkF m 51 #[vi p1, vi p2, vi p3, vi p4, vr u1, vi p2, vr u1, vi (0 : Int32), vu] [xi p2, xi p2, xr u1]) _
    refine st5 _ ?_
    show own_S p e below T5 (mkF m 54 #[vi p1, vi p2, vi p3, vi p4, vr u1, vi p2, vr u1, vi (0 : Int32), vu] [xi (0 : Int32), xr u1]) _
    refine st6.trans ?_
    show own_S p e below T6 (mkF m 57 #[vi p1, vi p2, vi p3, vi p4, vr u1, vi p2, vr u1, vi (0 : Int32), vu] [xi (0 : Int32)]) _
    refine XS.istore X6.here hx rfl (hb hby at_57) rfl (l' := #[vi p1, vi p2, vi p3, vi p4, vr u1, vi p2, vr u1, vi (0 : Int32), vi (0 : Int32)]) rfl ?_
    show own_S p e below T6 (mkF m 59 #[vi p1, vi p2, vi p3, vi p4, vr u1, vi p2, vr u1, vi (0 : Int32), vi (0 : Int32)] []) _
    refine XS.iload X6.here hx rfl (hb hby at_59) rfl ?_
    show own_S p e below T6 (mkF m 61 #[vi p1, vi p2, vi p3, vi p4, vr u1, vi p2, vr u1, vi (0 : Int32), vi (0 : Int32)] [xi (0 : Int32)]) _
    refine XS.iload X6.here hx rfl (hb hby at_61) rfl ?_
    show own_S p e below T6 (mkF m 63 #[vi p1, vi p2, vi p3, vi p4, vr u1, vi p2, vr u1, vi (0 : Int32), vi (0 : Int32)] [xi (0 : Int32), xi (0 : Int32)]) _
    refine XS.icmpNo X6.here hx rfl (hb hby at_63) rfl (by decide) ?_
    show own_S p e below T6 (mkF m 66 #[vi p1, vi p2, vi p3, vi p4, vr u1, vi p2, vr u1, vi (0 : Int32), vi (0 : Int32)] []) _
    refine XS.iconst X6.here hx rfl (hb hby at_66) ?_
    show own_S p e below T6 (mkF m 67 #[vi p1, vi p2, vi p3, vi p4, vr u1, vi p2, vr u1, vi (0 : Int32), vi (0 : Int32)] [xi (1 : Int32)]) _
    refine XS.goto X6.here hx rfl (pc0 := 67) (pc' := 71) rfl (hb hby at_67) (by decide) (by decide) ?_
    show own_S p e below T6 (mkF m 71 #[vi p1, vi p2, vi p3, vi p4, vr u1, vi p2, vr u1, vi (0 : Int32), vi (0 : Int32)] [xi (1 : Int32)]) _
    exact retN X6 hx (t := .boolean) Bd.returns (by simp) (hb hby at_71) hr
  · exact ⟨rfl, N6⟩
theorem d1_25 : decode method_2_code 25 = .ok (.iload_n 1, 1) := by decide +kernel
theorem d1_26 : decode method_2_code 26 = .ok (.iconst 2, 1) := by decide +kernel
theorem d1_27 : decode method_2_code 27 = .ok (.if_icmp .ne 7, 3) := by decide +kernel
theorem d1_30 : decode method_2_code 30 = .ok (.getstatic 17, 3) := by decide +kernel
theorem d1_33 : decode method_2_code 33 = .ok (.areturn, 1) := by decide +kernel
theorem ef_own_c19_pick (m : MethodId) (u0 u1 u2 u3 u4 u5 : Addr) (p1 : Int32) : entryFrame m #[xi p1] 2 = (mkF m 0 #[vi p1, vu] []) := by first | (simp [entryFrame, mkF, argsToLocals, Value.category]; done) | rfl
set_option maxRecDepth 65536 in
set_option maxHeartbeats 40000000 in
theorem own_c19_pick (l : Launch) (Z : State) (a0 : Array Value) (hw : ∀ d ∈ tables_1, d.before a0 Z = true) (u0 u1 u2 u3 u4 u5 : Addr) (G : own_St Z u0 u1 u2 u3 u4 u5) (p1 : Int32) (as10 : ((p1 &&& (2147483647 : Int32)) - ((p1 &&& (2147483647 : Int32)) / (6 : Int32)) * (6 : Int32)) = (2 : Int32)) (h0 : Heap) (n0 : Nat) (O0 : Old Z n0 h0) : own_Met l Z Y0 method_2_code 2 (some (.object "com/example/whyle/whyle/cfa/Relation")) ({ frames := 0, cells := 0, slots := 0, locals := 0 } : Room) #[xi p1] h0 (own_QR (some (xr u3)) h0 n0) := by
  intro ws
  refine MetFree.of_bodySF (plainFor_of_name pn0) hisR ?_
  intro p e s m args below meth c s₁ Bd hml0 hP hK
  obtain ⟨rfl, hZ, hh⟩ := hP
  have hx := Bd.exec
  have hby := Bd.bytes
  have hml : c.maxLocals = 2 := hml0
  have hown : s.vm.findClass "com/example/whyle/whyle/cfa/RelationConversePinLaw" = some m.cls := findClass_of_methodNamed Bd.named
  have hnm := (name_of_methodNamed Bd.named Bd.method).1
  have X0 : Stand p l e ({ frames := 0, cells := 0, slots := 0, locals := 0 } : Room) s m #[xi p1] below meth c s₁ [] 0 0 := Stand.of_body Bd
  have e0 : s₁.heap = h0 := by rw [← hh, Bd.state]; rfl
  have N0 := Fr.nil n0
  have pre0 : ∀ t, Steps p.tables e below (s₁.setTop (mkF m 0 #[vi p1, vu] [])) t → Steps p.tables e below (s₁.setTop (entryFrame m #[xi p1] 2)) t := fun t st => castTop (ef_own_c19_pick m u0 u1 u2 u3 u4 u5 p1) st
  obtain ⟨T1, X1, e1, st1⟩ := getS2 X0 hx hZ hown (host := "") (Or.inl (ww hw 44 rfl)) Via.refl e0 ((own_S_u3 G).ext O0.2) (g := (mkF m 30 #[vi p1, vi (2 : Int32)] [])) rfl (hb hby d1_30)
  obtain ⟨fs, hr, hrun, hended, hW, hsame⟩ := X1.leave (v := some (xr u3)) (fun h => by rw [Bd.returns] at h; cases h)
  refine ⟨_, _, pre0 _ ?_, hrun, hended, _, _, rfl, ?_, ⟨_, rfl⟩, hW, hsame.mono (by decide) (by decide)⟩
  · show own_S p e below s₁ (mkF m 0 #[vi p1, vu] []) _
    refine XS.iloadN X0.here hx rfl (hb hby d1_0) rfl ?_
    show own_S p e below s₁ (mkF m 1 #[vi p1, vu] [xi p1]) _
    refine X0.ldcI hx hown (mvT hZ (ww hw 4 rfl)) (g := (mkF m 1 #[vi p1, vu] [xi p1])) rfl (hb hby d1_1) ?_
    show own_S p e below s₁ (mkF m 3 #[vi p1, vu] [xi (2147483647 : Int32), xi p1]) _
    refine XS.iand X0.here hx rfl (hb hby d1_3) rfl ?_
    show own_S p e below s₁ (mkF m 4 #[vi p1, vu] [xi (p1 &&& (2147483647 : Int32))]) _
    show own_S p e below s₁ (mkF m 4 #[vi p1, vu] [xi (p1 &&& (2147483647 : Int32))]) _
    refine XS.bipush X0.here hx rfl (hb hby d1_4) ?_
    show own_S p e below s₁ (mkF m 6 #[vi p1, vu] [xi (6 : Int32), xi (p1 &&& (2147483647 : Int32))]) _
    refine XS.irem X0.here hx rfl (hb hby d1_6) rfl (by decide) ?_
    show own_S p e below s₁ (mkF m 7 #[vi p1, vu] [xi ((p1 &&& (2147483647 : Int32)) - ((p1 &&& (2147483647 : Int32)) / (6 : Int32)) * (6 : Int32))]) _
    refine castTop (show (mkF m 7 #[vi p1, vu] [xi ((p1 &&& (2147483647 : Int32)) - ((p1 &&& (2147483647 : Int32)) / (6 : Int32)) * (6 : Int32))]) = (mkF m 7 #[vi p1, vu] [xi (2 : Int32)]) from by rw [as10]) ?_
    show own_S p e below s₁ (mkF m 7 #[vi p1, vu] [xi (2 : Int32)]) _
    refine XS.istoreN X0.here hx rfl (hb hby d1_7) rfl (l' := #[vi p1, vi (2 : Int32)]) rfl ?_
    show own_S p e below s₁ (mkF m 8 #[vi p1, vi (2 : Int32)] []) _
    refine XS.iloadN X0.here hx rfl (hb hby d1_8) rfl ?_
    show own_S p e below s₁ (mkF m 9 #[vi p1, vi (2 : Int32)] [xi (2 : Int32)]) _
    refine XS.ifYes X0.here hx rfl (pc0 := 9) (pc' := 16) rfl (hb hby d1_9) rfl (by decide) (by decide) (by decide) ?_
    show own_S p e below s₁ (mkF m 16 #[vi p1, vi (2 : Int32)] []) _
    refine XS.iloadN X0.here hx rfl (hb hby d1_16) rfl ?_
    show own_S p e below s₁ (mkF m 17 #[vi p1, vi (2 : Int32)] [xi (2 : Int32)]) _
    refine XS.iconst X0.here hx rfl (hb hby d1_17) ?_
    show own_S p e below s₁ (mkF m 18 #[vi p1, vi (2 : Int32)] [xi (1 : Int32), xi (2 : Int32)]) _
    refine XS.icmpYes X0.here hx rfl (pc0 := 18) (pc' := 25) rfl (hb hby d1_18) rfl (by decide) (by decide) (by decide) ?_
    show own_S p e below s₁ (mkF m 25 #[vi p1, vi (2 : Int32)] []) _
    refine XS.iloadN X0.here hx rfl (hb hby d1_25) rfl ?_
    show own_S p e below s₁ (mkF m 26 #[vi p1, vi (2 : Int32)] [xi (2 : Int32)]) _
    refine XS.iconst X0.here hx rfl (hb hby d1_26) ?_
    show own_S p e below s₁ (mkF m 27 #[vi p1, vi (2 : Int32)] [xi (2 : Int32), xi (2 : Int32)]) _
    refine XS.icmpNo X0.here hx rfl (hb hby d1_27) rfl (by decide) ?_
    show own_S p e below s₁ (mkF m 30 #[vi p1, vi (2 : Int32)] []) _
    refine st1 _ ?_
    show own_S p e below T1 (mkF m 33 #[vi p1, vi (2 : Int32)] [xr u3]) _
    exact X1.areturnOut hx rfl Bd.returns rfl (hb hby d1_33) hr
  · exact ⟨rfl, N0, e1⟩
theorem ef_own_c20_ordinal (m : MethodId) (u0 u1 u2 u3 u4 u5 : Addr) : entryFrame m #[xr u3] 1 = (mkF m 0 #[vr u3] []) := by first | (simp [entryFrame, mkF, argsToLocals, Value.category]; done) | rfl
set_option maxRecDepth 65536 in
set_option maxHeartbeats 40000000 in
theorem own_c20_ordinal (l : Launch) (Z : State) (a0 : Array Value) (hw : ∀ d ∈ tables_1, d.before a0 Z = true) (u0 u1 u2 u3 u4 u5 : Addr) (G : own_St Z u0 u1 u2 u3 u4 u5) (h0 : Heap) (n0 : Nat) (O0 : Old Z n0 h0) : own_Met l Z Y1 jdk_37_method_2_code 1 (some .int) ({ frames := 0, cells := 0, slots := 0, locals := 0 } : Room) #[xr u3] h0 (own_QR (some (xi (2 : Int32))) h0 n0) := by
  intro ws
  refine MetFree.of_bodySF (plainFor_of_name pn1) hisR ?_
  intro p e s m args below meth c s₁ Bd hml0 hP hK
  obtain ⟨rfl, hZ, hh⟩ := hP
  have hx := Bd.exec
  have hby := Bd.bytes
  have hml : c.maxLocals = 1 := hml0
  have hown : s.vm.findClass "java/lang/Enum" = some m.cls := findClass_of_methodNamed Bd.named
  have hnm := (name_of_methodNamed Bd.named Bd.method).1
  have X0 : Stand p l e ({ frames := 0, cells := 0, slots := 0, locals := 0 } : Room) s m #[xr u3] below meth c s₁ [] 0 0 := Stand.of_body Bd
  have e0 : s₁.heap = h0 := by rw [← hh, Bd.state]; rfl
  have N0 := Fr.nil n0
  have pre0 : ∀ t, Steps p.tables e below (s₁.setTop (mkF m 0 #[vr u3] [])) t → Steps p.tables e below (s₁.setTop (entryFrame m #[xr u3] 1)) t := fun t st => castTop (ef_own_c20_ordinal m u0 u1 u2 u3 u4 u5) st
  obtain ⟨T1, X1, e1, st1⟩ := getF X0 hx hZ hown (host := "") (Or.inl (ww hw 20 rfl)) Via.refl e0 ((own_F_u3_ordinal G).ext O0.2) (g := (mkF m 1 #[vr u3] [xr u3])) rfl rfl (hb hby d3_1)
  obtain ⟨fs, hr, hrun, hended, hW, hsame⟩ := X1.leave (v := some (xi (2 : Int32))) (fun h => by rw [Bd.returns] at h; cases h)
  refine ⟨_, _, pre0 _ ?_, hrun, hended, _, _, rfl, ?_, ⟨_, rfl⟩, hW, hsame.mono (by decide) (by decide)⟩
  · show own_S p e below s₁ (mkF m 0 #[vr u3] []) _
    refine XS.aloadN X0.here hx rfl (hb hby d3_0) rfl rfl ?_
    show own_S p e below s₁ (mkF m 1 #[vr u3] [xr u3]) _
    refine st1 _ ?_
    show own_S p e below T1 (mkF m 4 #[vr u3] [xi (2 : Int32)]) _
    exact retI X1 hx Bd.returns (hb hby d3_4) hr
  · exact ⟨rfl, N0, e1⟩
theorem d2_66 : decode prog_62_method_7_code 66 = .ok (.getstatic 16, 3) := by decide +kernel
theorem d2_69 : decode prog_62_method_7_code 69 = .ok (.goto 18, 3) := by decide +kernel
theorem ef_own_c20_converse (m : MethodId) (u0 u1 u2 u3 u4 u5 : Addr) : entryFrame m #[xr u3] 1 = (mkF m 0 #[vr u3] []) := by first | (simp [entryFrame, mkF, argsToLocals, Value.category]; done) | rfl
set_option maxRecDepth 65536 in
set_option maxHeartbeats 40000000 in
theorem own_c20_converse (l : Launch) (Z : State) (a0 : Array Value) (hw : ∀ d ∈ tables_1, d.before a0 Z = true) (u0 u1 u2 u3 u4 u5 : Addr) (G : own_St Z u0 u1 u2 u3 u4 u5) (h0 : Heap) (n0 : Nat) (O0 : Old Z n0 h0) : own_Met l Z Y3 prog_62_method_7_code 1 (some (.object "com/example/whyle/whyle/cfa/Relation")) ({ frames := 1, cells := 0, slots := 0, locals := 12 } : Room) #[xr u3] h0 (own_QR (some (xr u2)) h0 n0) := by
  intro ws
  refine MetFree.of_bodySF (plainFor_of_name pn2) hisR ?_
  intro p e s m args below meth c s₁ Bd hml0 hP hK
  obtain ⟨rfl, hZ, hh⟩ := hP
  have hx := Bd.exec
  have hby := Bd.bytes
  have hml : c.maxLocals = 1 := hml0
  have hown : s.vm.findClass "com/example/whyle/whyle/cfa/Relation" = some m.cls := findClass_of_methodNamed Bd.named
  have hnm := (name_of_methodNamed Bd.named Bd.method).1
  have X0 : Stand p l e ({ frames := 1, cells := 0, slots := 0, locals := 12 } : Room) s m #[xr u3] below meth c s₁ [] 0 0 := Stand.of_body Bd
  have e0 : s₁.heap = h0 := by rw [← hh, Bd.state]; rfl
  have N0 := Fr.nil n0
  have pre0 : ∀ t, Steps p.tables e below (s₁.setTop (mkF m 0 #[vr u3] [])) t → Steps p.tables e below (s₁.setTop (entryFrame m #[xr u3] 1)) t := fun t st => castTop (ef_own_c20_converse m u0 u1 u2 u3 u4 u5) st
  obtain ⟨cq1, kq1, qa1, qb1, qc1⟩ := isOf hZ e0 ((own_X_u3 G).ext O0.2)
  obtain ⟨_, _, ⟨T1, L1, k1, n1⟩, -, X1, ⟨Lc1, hQ1, l1, y1, z1⟩, st1⟩ := X0.virtualBackUp hx (x := Y2) (y := Y1) hown (mvT hZ (ww hw 13 rfl)) (mvT hZ (ww hw 14 rfl)) (mvT hZ (ww hw 15 rfl)) (by decide) (mvT hZ (ww hw 17 rfl)) (mvT hZ (ww hw 16 rfl)) (backOf (W := 0) (own_c20_ordinal l Z a0 hw u0 u1 u2 u3 u4 u5 G h0 n0 O0 []) hZ (ww hw 19 rfl) (ww hw 18 rfl) (by decide) (by decide)) qa1 qc1 (g := (mkF m 1 #[vr u3] [xr u3])) rfl (by rw [hml]; rfl) (Steps.refl _) (argsL := []) (rest := []) (lenOf pd1 rfl) rfl (by show 2 * 0 + _ ≤ _; exact Nat.le_of_eq rfl) (hb hby d2_1) (fun _ _ => ⟨rfl, e0, (by decide : 0 + 0 ≤ _), (by decide : 0 + 0 ≤ _)⟩)
  dsimp only [Pt.U, Pt.locs, Pt.cells, Pt.slots] at X1 l1 y1 z1 st1 hQ1
  subst l1 y1 z1
  obtain ⟨rfl, Nq1, e1⟩ := hQ1
  have N1 := Fr.app N0 Nq1
  obtain ⟨T2, X2, e2, st2⟩ := getS2 X1 hx hZ hown (host := "") (Or.inl (ww hw 45 rfl)) Via.refl e1 ((own_S_u2 G).ext O0.2) (g := (mkF m 66 #[vr u3] [])) rfl (hb hby d2_66)
  obtain ⟨fs, hr, hrun, hended, hW, hsame⟩ := X2.leave (v := some (xr u2)) (fun h => by rw [Bd.returns] at h; cases h)
  refine ⟨_, _, pre0 _ ?_, hrun, hended, _, _, rfl, ?_, ⟨_, rfl⟩, hW, hsame.mono (by decide) (by decide)⟩
  · show own_S p e below s₁ (mkF m 0 #[vr u3] []) _
    refine XS.aloadN X0.here hx rfl (hb hby d2_0) rfl rfl ?_
    show own_S p e below s₁ (mkF m 1 #[vr u3] [xr u3]) _
    refine st1.trans ?_
    show own_S p e below T1 (mkF m 4 #[vr u3] [xi (2 : Int32)]) _
    refine XS.tswIn X1.here hx rfl (pc0 := 4) (pc' := 66) (o := 62) rfl (hb hby d2_4) rfl (by decide) (by decide) (by decide) (by decide) ?_
    show own_S p e below T1 (mkF m 66 #[vr u3] []) _
    refine st2 _ ?_
    show own_S p e below T2 (mkF m 69 #[vr u3] [xr u2]) _
    refine XS.goto X2.here hx rfl (pc0 := 69) (pc' := 87) rfl (hb hby d2_69) (by decide) (by decide) ?_
    show own_S p e below T2 (mkF m 87 #[vr u3] [xr u2]) _
    exact X2.areturnOut hx rfl Bd.returns rfl (hb hby d2_87) hr
  · exact ⟨rfl, N1, e2⟩
theorem d5_78 : decode prog_62_method_8_code 78 = .ok (.iload_n 1, 1) := by decide +kernel
theorem d5_79 : decode prog_62_method_8_code 79 = .ok (.ifCond .ge 7, 3) := by decide +kernel
theorem d5_82 : decode prog_62_method_8_code 82 = .ok (.iconst 1, 1) := by decide +kernel
theorem d5_83 : decode prog_62_method_8_code 83 = .ok (.goto 40, 3) := by decide +kernel
theorem ef_own_c22_holds (m : MethodId) (u0 u1 u2 u3 u4 u5 : Addr) : entryFrame m #[xr u3, xi (-1 : Int32)] 2 = (mkF m 0 #[vr u3, vi (-1 : Int32)] []) := by first | (simp [entryFrame, mkF, argsToLocals, Value.category]; done) | rfl
set_option maxRecDepth 65536 in
set_option maxHeartbeats 40000000 in
theorem own_c22_holds (l : Launch) (Z : State) (a0 : Array Value) (hw : ∀ d ∈ tables_1, d.before a0 Z = true) (u0 u1 u2 u3 u4 u5 : Addr) (G : own_St Z u0 u1 u2 u3 u4 u5) (h0 : Heap) (n0 : Nat) (O0 : Old Z n0 h0) : own_Met l Z Y5 prog_62_method_8_code 2 (some .boolean) ({ frames := 1, cells := 0, slots := 0, locals := 12 } : Room) #[xr u3, xi (-1 : Int32)] h0 (own_QR (some (xi (1 : Int32))) h0 n0) := by
  intro ws
  refine MetFree.of_bodySF (plainFor_of_name pn2) hisR ?_
  intro p e s m args below meth c s₁ Bd hml0 hP hK
  obtain ⟨rfl, hZ, hh⟩ := hP
  have hx := Bd.exec
  have hby := Bd.bytes
  have hml : c.maxLocals = 2 := hml0
  have hown : s.vm.findClass "com/example/whyle/whyle/cfa/Relation" = some m.cls := findClass_of_methodNamed Bd.named
  have hnm := (name_of_methodNamed Bd.named Bd.method).1
  have X0 : Stand p l e ({ frames := 1, cells := 0, slots := 0, locals := 12 } : Room) s m #[xr u3, xi (-1 : Int32)] below meth c s₁ [] 0 0 := Stand.of_body Bd
  have e0 : s₁.heap = h0 := by rw [← hh, Bd.state]; rfl
  have N0 := Fr.nil n0
  have pre0 : ∀ t, Steps p.tables e below (s₁.setTop (mkF m 0 #[vr u3, vi (-1 : Int32)] [])) t → Steps p.tables e below (s₁.setTop (entryFrame m #[xr u3, xi (-1 : Int32)] 2)) t := fun t st => castTop (ef_own_c22_holds m u0 u1 u2 u3 u4 u5) st
  obtain ⟨cq1, kq1, qa1, qb1, qc1⟩ := isOf hZ e0 ((own_X_u3 G).ext O0.2)
  obtain ⟨_, _, ⟨T1, L1, k1, n1⟩, -, X1, ⟨Lc1, hQ1, l1, y1, z1⟩, st1⟩ := X0.virtualBackUp hx (x := Y2) (y := Y1) hown (mvT hZ (ww hw 13 rfl)) (mvT hZ (ww hw 14 rfl)) (mvT hZ (ww hw 15 rfl)) (by decide) (mvT hZ (ww hw 17 rfl)) (mvT hZ (ww hw 16 rfl)) (backOf (W := 0) (own_c20_ordinal l Z a0 hw u0 u1 u2 u3 u4 u5 G h0 n0 O0 []) hZ (ww hw 19 rfl) (ww hw 18 rfl) (by decide) (by decide)) qa1 qc1 (g := (mkF m 1 #[vr u3, vi (-1 : Int32)] [xr u3])) rfl (by rw [hml]; rfl) (Steps.refl _) (argsL := []) (rest := []) (lenOf pd1 rfl) rfl (by show 2 * 0 + _ ≤ _; exact Nat.le_of_eq rfl) (hb hby d5_1) (fun _ _ => ⟨rfl, e0, (by decide : 0 + 0 ≤ _), (by decide : 0 + 0 ≤ _)⟩)
  dsimp only [Pt.U, Pt.locs, Pt.cells, Pt.slots] at X1 l1 y1 z1 st1 hQ1
  subst l1 y1 z1
  obtain ⟨rfl, Nq1, e1⟩ := hQ1
  have N1 := Fr.app N0 Nq1
  obtain ⟨fs, hr, hrun, hended, hW, hsame⟩ := X1.leave (v := some (xi (1 : Int32))) (fun h => by rw [Bd.returns] at h; cases h)
  refine ⟨_, _, pre0 _ ?_, hrun, hended, _, _, rfl, ?_, ⟨_, rfl⟩, hW, hsame.mono (by decide) (by decide)⟩
  · show own_S p e below s₁ (mkF m 0 #[vr u3, vi (-1 : Int32)] []) _
    refine XS.aloadN X0.here hx rfl (hb hby d5_0) rfl rfl ?_
    show own_S p e below s₁ (mkF m 1 #[vr u3, vi (-1 : Int32)] [xr u3]) _
    refine st1.trans ?_
    show own_S p e below T1 (mkF m 4 #[vr u3, vi (-1 : Int32)] [xi (2 : Int32)]) _
    refine XS.tswIn X1.here hx rfl (pc0 := 4) (pc' := 78) (o := 74) rfl (hb hby d5_4) rfl (by decide) (by decide) (by decide) (by decide) ?_
    show own_S p e below T1 (mkF m 78 #[vr u3, vi (-1 : Int32)] []) _
    refine XS.iloadN X1.here hx rfl (hb hby d5_78) rfl ?_
    show own_S p e below T1 (mkF m 79 #[vr u3, vi (-1 : Int32)] [xi (-1 : Int32)]) _
    refine XS.ifNo X1.here hx rfl (hb hby d5_79) rfl (by decide) ?_
    show own_S p e below T1 (mkF m 82 #[vr u3, vi (-1 : Int32)] []) _
    refine XS.iconst X1.here hx rfl (hb hby d5_82) ?_
    show own_S p e below T1 (mkF m 83 #[vr u3, vi (-1 : Int32)] [xi (1 : Int32)]) _
    refine XS.goto X1.here hx rfl (pc0 := 83) (pc' := 123) rfl (hb hby d5_83) (by decide) (by decide) ?_
    show own_S p e below T1 (mkF m 123 #[vr u3, vi (-1 : Int32)] [xi (1 : Int32)]) _
    exact retN X1 hx (t := .boolean) Bd.returns (by simp) (hb hby d5_123) hr
  · exact ⟨rfl, N1, e1⟩
theorem ef_own_c23_ordinal (m : MethodId) (u0 u1 u2 u3 u4 u5 : Addr) : entryFrame m #[xr u2] 1 = (mkF m 0 #[vr u2] []) := by first | (simp [entryFrame, mkF, argsToLocals, Value.category]; done) | rfl
set_option maxRecDepth 65536 in
set_option maxHeartbeats 40000000 in
theorem own_c23_ordinal (l : Launch) (Z : State) (a0 : Array Value) (hw : ∀ d ∈ tables_1, d.before a0 Z = true) (u0 u1 u2 u3 u4 u5 : Addr) (G : own_St Z u0 u1 u2 u3 u4 u5) (h0 : Heap) (n0 : Nat) (O0 : Old Z n0 h0) : own_Met l Z Y1 jdk_37_method_2_code 1 (some .int) ({ frames := 0, cells := 0, slots := 0, locals := 0 } : Room) #[xr u2] h0 (own_QR (some (xi (4 : Int32))) h0 n0) := by
  intro ws
  refine MetFree.of_bodySF (plainFor_of_name pn1) hisR ?_
  intro p e s m args below meth c s₁ Bd hml0 hP hK
  obtain ⟨rfl, hZ, hh⟩ := hP
  have hx := Bd.exec
  have hby := Bd.bytes
  have hml : c.maxLocals = 1 := hml0
  have hown : s.vm.findClass "java/lang/Enum" = some m.cls := findClass_of_methodNamed Bd.named
  have hnm := (name_of_methodNamed Bd.named Bd.method).1
  have X0 : Stand p l e ({ frames := 0, cells := 0, slots := 0, locals := 0 } : Room) s m #[xr u2] below meth c s₁ [] 0 0 := Stand.of_body Bd
  have e0 : s₁.heap = h0 := by rw [← hh, Bd.state]; rfl
  have N0 := Fr.nil n0
  have pre0 : ∀ t, Steps p.tables e below (s₁.setTop (mkF m 0 #[vr u2] [])) t → Steps p.tables e below (s₁.setTop (entryFrame m #[xr u2] 1)) t := fun t st => castTop (ef_own_c23_ordinal m u0 u1 u2 u3 u4 u5) st
  obtain ⟨T1, X1, e1, st1⟩ := getF X0 hx hZ hown (host := "") (Or.inl (ww hw 20 rfl)) Via.refl e0 ((own_F_u2_ordinal G).ext O0.2) (g := (mkF m 1 #[vr u2] [xr u2])) rfl rfl (hb hby d3_1)
  obtain ⟨fs, hr, hrun, hended, hW, hsame⟩ := X1.leave (v := some (xi (4 : Int32))) (fun h => by rw [Bd.returns] at h; cases h)
  refine ⟨_, _, pre0 _ ?_, hrun, hended, _, _, rfl, ?_, ⟨_, rfl⟩, hW, hsame.mono (by decide) (by decide)⟩
  · show own_S p e below s₁ (mkF m 0 #[vr u2] []) _
    refine XS.aloadN X0.here hx rfl (hb hby d3_0) rfl rfl ?_
    show own_S p e below s₁ (mkF m 1 #[vr u2] [xr u2]) _
    refine st1 _ ?_
    show own_S p e below T1 (mkF m 4 #[vr u2] [xi (4 : Int32)]) _
    exact retI X1 hx Bd.returns (hb hby d3_4) hr
  · exact ⟨rfl, N0, e1⟩
theorem d5_102 : decode prog_62_method_8_code 102 = .ok (.iload_n 1, 1) := by decide +kernel
theorem d5_103 : decode prog_62_method_8_code 103 = .ok (.ifCond .le 7, 3) := by decide +kernel
theorem d5_106 : decode prog_62_method_8_code 106 = .ok (.iconst 1, 1) := by decide +kernel
theorem d5_107 : decode prog_62_method_8_code 107 = .ok (.goto 16, 3) := by decide +kernel
theorem ef_own_c23_holds (m : MethodId) (u0 u1 u2 u3 u4 u5 : Addr) : entryFrame m #[xr u2, xi (1 : Int32)] 2 = (mkF m 0 #[vr u2, vi (1 : Int32)] []) := by first | (simp [entryFrame, mkF, argsToLocals, Value.category]; done) | rfl
set_option maxRecDepth 65536 in
set_option maxHeartbeats 40000000 in
theorem own_c23_holds (l : Launch) (Z : State) (a0 : Array Value) (hw : ∀ d ∈ tables_1, d.before a0 Z = true) (u0 u1 u2 u3 u4 u5 : Addr) (G : own_St Z u0 u1 u2 u3 u4 u5) (h0 : Heap) (n0 : Nat) (O0 : Old Z n0 h0) : own_Met l Z Y5 prog_62_method_8_code 2 (some .boolean) ({ frames := 1, cells := 0, slots := 0, locals := 12 } : Room) #[xr u2, xi (1 : Int32)] h0 (own_QR (some (xi (1 : Int32))) h0 n0) := by
  intro ws
  refine MetFree.of_bodySF (plainFor_of_name pn2) hisR ?_
  intro p e s m args below meth c s₁ Bd hml0 hP hK
  obtain ⟨rfl, hZ, hh⟩ := hP
  have hx := Bd.exec
  have hby := Bd.bytes
  have hml : c.maxLocals = 2 := hml0
  have hown : s.vm.findClass "com/example/whyle/whyle/cfa/Relation" = some m.cls := findClass_of_methodNamed Bd.named
  have hnm := (name_of_methodNamed Bd.named Bd.method).1
  have X0 : Stand p l e ({ frames := 1, cells := 0, slots := 0, locals := 12 } : Room) s m #[xr u2, xi (1 : Int32)] below meth c s₁ [] 0 0 := Stand.of_body Bd
  have e0 : s₁.heap = h0 := by rw [← hh, Bd.state]; rfl
  have N0 := Fr.nil n0
  have pre0 : ∀ t, Steps p.tables e below (s₁.setTop (mkF m 0 #[vr u2, vi (1 : Int32)] [])) t → Steps p.tables e below (s₁.setTop (entryFrame m #[xr u2, xi (1 : Int32)] 2)) t := fun t st => castTop (ef_own_c23_holds m u0 u1 u2 u3 u4 u5) st
  obtain ⟨cq1, kq1, qa1, qb1, qc1⟩ := isOf hZ e0 ((own_X_u2 G).ext O0.2)
  obtain ⟨_, _, ⟨T1, L1, k1, n1⟩, -, X1, ⟨Lc1, hQ1, l1, y1, z1⟩, st1⟩ := X0.virtualBackUp hx (x := Y2) (y := Y1) hown (mvT hZ (ww hw 13 rfl)) (mvT hZ (ww hw 14 rfl)) (mvT hZ (ww hw 15 rfl)) (by decide) (mvT hZ (ww hw 17 rfl)) (mvT hZ (ww hw 16 rfl)) (backOf (W := 0) (own_c23_ordinal l Z a0 hw u0 u1 u2 u3 u4 u5 G h0 n0 O0 []) hZ (ww hw 19 rfl) (ww hw 18 rfl) (by decide) (by decide)) qa1 qc1 (g := (mkF m 1 #[vr u2, vi (1 : Int32)] [xr u2])) rfl (by rw [hml]; rfl) (Steps.refl _) (argsL := []) (rest := []) (lenOf pd1 rfl) rfl (by show 2 * 0 + _ ≤ _; exact Nat.le_of_eq rfl) (hb hby d5_1) (fun _ _ => ⟨rfl, e0, (by decide : 0 + 0 ≤ _), (by decide : 0 + 0 ≤ _)⟩)
  dsimp only [Pt.U, Pt.locs, Pt.cells, Pt.slots] at X1 l1 y1 z1 st1 hQ1
  subst l1 y1 z1
  obtain ⟨rfl, Nq1, e1⟩ := hQ1
  have N1 := Fr.app N0 Nq1
  obtain ⟨fs, hr, hrun, hended, hW, hsame⟩ := X1.leave (v := some (xi (1 : Int32))) (fun h => by rw [Bd.returns] at h; cases h)
  refine ⟨_, _, pre0 _ ?_, hrun, hended, _, _, rfl, ?_, ⟨_, rfl⟩, hW, hsame.mono (by decide) (by decide)⟩
  · show own_S p e below s₁ (mkF m 0 #[vr u2, vi (1 : Int32)] []) _
    refine XS.aloadN X0.here hx rfl (hb hby d5_0) rfl rfl ?_
    show own_S p e below s₁ (mkF m 1 #[vr u2, vi (1 : Int32)] [xr u2]) _
    refine st1.trans ?_
    show own_S p e below T1 (mkF m 4 #[vr u2, vi (1 : Int32)] [xi (4 : Int32)]) _
    refine XS.tswIn X1.here hx rfl (pc0 := 4) (pc' := 102) (o := 98) rfl (hb hby d5_4) rfl (by decide) (by decide) (by decide) (by decide) ?_
    show own_S p e below T1 (mkF m 102 #[vr u2, vi (1 : Int32)] []) _
    refine XS.iloadN X1.here hx rfl (hb hby d5_102) rfl ?_
    show own_S p e below T1 (mkF m 103 #[vr u2, vi (1 : Int32)] [xi (1 : Int32)]) _
    refine XS.ifNo X1.here hx rfl (hb hby d5_103) rfl (by decide) ?_
    show own_S p e below T1 (mkF m 106 #[vr u2, vi (1 : Int32)] []) _
    refine XS.iconst X1.here hx rfl (hb hby d5_106) ?_
    show own_S p e below T1 (mkF m 107 #[vr u2, vi (1 : Int32)] [xi (1 : Int32)]) _
    refine XS.goto X1.here hx rfl (pc0 := 107) (pc' := 123) rfl (hb hby d5_107) (by decide) (by decide) ?_
    show own_S p e below T1 (mkF m 123 #[vr u2, vi (1 : Int32)] [xi (1 : Int32)]) _
    exact retN X1 hx (t := .boolean) Bd.returns (by simp) (hb hby d5_123) hr
  · exact ⟨rfl, N1, e1⟩
theorem ef_own_l8 (m : MethodId) (u0 u1 u2 u3 u4 u5 : Addr) (p1 : Int32) (p2 : Int32) (p3 : Int32) (p4 : Int32) : entryFrame m #[xi p1, xi p2, xi p3, xi p4] maxLocals = (mkF m 0 #[vi p1, vi p2, vi p3, vi p4, vu, vu, vu, vu, vu] []) := by first | (simp [entryFrame, mkF, argsToLocals, Value.category, maxLocals]; done) | rfl
set_option maxRecDepth 65536 in
set_option maxHeartbeats 40000000 in
theorem own_l8 (l : Launch) (Z : State) (a0 : Array Value) (hw : ∀ d ∈ tables_1, d.before a0 Z = true) (u0 u1 u2 u3 u4 u5 : Addr) (G : own_St Z u0 u1 u2 u3 u4 u5) (p1 : Int32) (p2 : Int32) (p3 : Int32) (p4 : Int32) (as10 : ((p1 &&& (2147483647 : Int32)) - ((p1 &&& (2147483647 : Int32)) / (6 : Int32)) * (6 : Int32)) = (2 : Int32)) (as14 : (p4 &&& (1 : Int32)) = (0 : Int32)) (as0 : if_icmp.holds .ge p2 p3 = false) (as1 : if_icmp.holds .ge p3 p2 = true) (as2 : if_icmp.holds .ne p3 p2 = true) (h0 : Heap) (n0 : Nat) (O0 : Old Z n0 h0) : own_Met l Z x code maxLocals ret room_1 #[xi p1, xi p2, xi p3, xi p4] h0 (own_QL (some (xi (1 : Int32))) n0) := by
  intro ws
  refine MetFree.of_bodySF (plainFor_of_name pn0) hisR ?_
  intro p e s m args below meth c s₁ Bd hml0 hP hK
  obtain ⟨rfl, hZ, hh⟩ := hP
  have hx := Bd.exec
  have hby := Bd.bytes
  have hml : c.maxLocals = 9 := hml0
  have hown : s.vm.findClass "com/example/whyle/whyle/cfa/RelationConversePinLaw" = some m.cls := findClass_of_methodNamed Bd.named
  have hnm := (name_of_methodNamed Bd.named Bd.method).1
  have X0 : Stand p l e room_1 s m #[xi p1, xi p2, xi p3, xi p4] below meth c s₁ [] 0 0 := Stand.of_body Bd
  have e0 : s₁.heap = h0 := by rw [← hh, Bd.state]; rfl
  have N0 := Fr.nil n0
  have pre0 : ∀ t, Steps p.tables e below (s₁.setTop (mkF m 0 #[vi p1, vi p2, vi p3, vi p4, vu, vu, vu, vu, vu] [])) t → Steps p.tables e below (s₁.setTop (entryFrame m #[xi p1, xi p2, xi p3, xi p4] maxLocals)) t := fun t st => castTop (ef_own_l8 m u0 u1 u2 u3 u4 u5 p1 p2 p3 p4) st
  obtain ⟨_, _, ⟨T1, L1, k1, n1⟩, -, X1, ⟨Lc1, hQ1, l1, y1, z1⟩, st1⟩ := Jvm.LawKit.callS X0 hx (y := Y0) hown (mvT hZ (ww hw 0 rfl)) (mvT hZ (ww hw 1 rfl)) (mvT hZ (ww hw 2 rfl)) (mvT hZ (ww hw 3 rfl)) (by decide) (backOf (W := 0) (own_c19_pick l Z a0 hw u0 u1 u2 u3 u4 u5 G p1 as10 h0 n0 O0 []) hZ (ww hw 3 rfl) (ww hw 2 rfl) (by decide) (by decide)) (g := (mkF m 1 #[vi p1, vi p2, vi p3, vi p4, vu, vu, vu, vu, vu] [xi p1])) rfl (by rw [hml]; rfl) (argsL := [xi p1]) (rest := []) (lenOf pd0 rfl) rfl (by show 2 * 0 + _ ≤ _; exact Nat.le_of_eq rfl) (hb hby at_1) (fun _ _ => ⟨rfl, e0, (by decide : 0 + 0 ≤ _), (by decide : 0 + 0 ≤ _)⟩)
  dsimp only [Pt.U, Pt.locs, Pt.cells, Pt.slots] at X1 l1 y1 z1 st1 hQ1
  subst l1 y1 z1
  obtain ⟨rfl, Nq1, e1⟩ := hQ1
  have N1 := Fr.app N0 Nq1
  obtain ⟨cq2, kq2, qa2, qb2, qc2⟩ := isOf hZ e1 ((own_X_u3 G).ext O0.2)
  obtain ⟨_, _, ⟨T2, L2, k2, n2⟩, -, X2, ⟨Lc2, hQ2, l2, y2, z2⟩, st2⟩ := X1.virtualBack hx (y := Y3) (z := Y3) hown (mvT hZ (ww hw 8 rfl)) (mvT hZ (ww hw 9 rfl)) (notFace_of_selects (args := #[]) (mvT hZ (ww hw 11 rfl))) (mvT hZ (ww hw 11 rfl)) (mvT hZ (ww hw 10 rfl)) (by decide) (backOf (W := 0) (own_c20_converse l Z a0 hw u0 u1 u2 u3 u4 u5 G h0 n0 O0 []) hZ (ww hw 12 rfl) (ww hw 6 rfl) (by decide) (by decide)) qa2 qc2 (g := (mkF m 21 #[vi p1, vi p2, vi p3, vi p4, vr u3, vi p3, vu, vu, vu] [xr u3])) rfl (by rw [hml]; rfl) (Steps.refl _) (argsL := []) (rest := []) (lenOf pd2 rfl) rfl (by show 2 * 0 + _ ≤ _; exact Nat.le_of_eq rfl) (hb hby at_21) (fun _ _ => ⟨rfl, e1, (by decide : 0 + 0 ≤ _), (by decide : 0 + 0 ≤ _)⟩)
  dsimp only [Pt.U, Pt.locs, Pt.cells, Pt.slots] at X2 l2 y2 z2 st2 hQ2
  subst l2 y2 z2
  obtain ⟨rfl, Nq2, e2⟩ := hQ2
  have N2 := Fr.app N1 Nq2
  obtain ⟨_, _, ⟨T3, L3, k3, n3⟩, -, X3, ⟨Lc3, hQ3, l3, y3, z3⟩, st3⟩ := Jvm.LawKit.callS X2 hx (y := Y4) hown (mvT hZ (ww hw 23 rfl)) (mvT hZ (ww hw 24 rfl)) (mvT hZ (ww hw 2 rfl)) (mvT hZ (ww hw 25 rfl)) (by decide) (backOf (W := 1) (own_c3_sign l Z a0 hw u0 u1 u2 u3 u4 u5 G p2 p3 as0 h0 n0 O0 []) hZ (ww hw 25 rfl) (ww hw 2 rfl) (by decide) (by decide)) (g := (mkF m 38 #[vi p1, vi p2, vi p3, vi p4, vr u3, vi p3, vr u2, vu, vu] [xi p3, xi p2, xr u3])) rfl (by rw [hml]; rfl) (argsL := [xi p2, xi p3]) (rest := [xr u3]) (lenOf pd3 rfl) rfl (by show 2 * 0 + _ ≤ _; exact Nat.le_of_eq rfl) (hb hby at_38) (fun _ _ => ⟨rfl, e2, (by decide : 0 + 0 ≤ _), (by decide : 0 + 0 ≤ _)⟩)
  dsimp only [Pt.U, Pt.locs, Pt.cells, Pt.slots] at X3 l3 y3 z3 st3 hQ3
  subst l3 y3 z3
  obtain ⟨rfl, Nq3, e3⟩ := hQ3
  have N3 := Fr.app N2 Nq3
  obtain ⟨cq4, kq4, qa4, qb4, qc4⟩ := isOf hZ e3 ((own_X_u3 G).ext O0.2)
  obtain ⟨_, _, ⟨T4, L4, k4, n4⟩, -, X4, ⟨Lc4, hQ4, l4, y4, z4⟩, st4⟩ := X3.virtualBack hx (y := Y5) (z := Y5) hown (mvT hZ (ww hw 26 rfl)) (mvT hZ (ww hw 27 rfl)) (notFace_of_selects (args := #[]) (mvT hZ (ww hw 29 rfl))) (mvT hZ (ww hw 29 rfl)) (mvT hZ (ww hw 28 rfl)) (by decide) (backOf (W := 0) (own_c22_holds l Z a0 hw u0 u1 u2 u3 u4 u5 G h0 n0 O0 []) hZ (ww hw 30 rfl) (ww hw 6 rfl) (by decide) (by decide)) qa4 qc4 (g := (mkF m 41 #[vi p1, vi p2, vi p3, vi p4, vr u3, vi p3, vr u2, vu, vu] [xi (-1 : Int32), xr u3])) rfl (by rw [hml]; rfl) (Steps.refl _) (argsL := [xi (-1 : Int32)]) (rest := []) (lenOf pd4 rfl) rfl (by show 2 * 0 + _ ≤ _; exact Nat.le_of_eq rfl) (hb hby at_41) (fun _ _ => ⟨rfl, e3, (by decide : 0 + 0 ≤ _), (by decide : 0 + 0 ≤ _)⟩)
  dsimp only [Pt.U, Pt.locs, Pt.cells, Pt.slots] at X4 l4 y4 z4 st4 hQ4
  subst l4 y4 z4
  obtain ⟨rfl, Nq4, e4⟩ := hQ4
  have N4 := Fr.app N3 Nq4
  obtain ⟨_, _, ⟨T5, L5, k5, n5⟩, -, X5, ⟨Lc5, hQ5, l5, y5, z5⟩, st5⟩ := Jvm.LawKit.callS X4 hx (y := Y4) hown (mvT hZ (ww hw 23 rfl)) (mvT hZ (ww hw 24 rfl)) (mvT hZ (ww hw 2 rfl)) (mvT hZ (ww hw 25 rfl)) (by decide) (backOf (W := 1) (own_c5_sign l Z a0 hw u0 u1 u2 u3 u4 u5 G p2 p3 as1 as2 h0 n0 O0 []) hZ (ww hw 25 rfl) (ww hw 2 rfl) (by decide) (by decide)) (g := (mkF m 51 #[vi p1, vi p2, vi p3, vi p4, vr u3, vi p3, vr u2, vi (1 : Int32), vu] [xi p2, xi p3, xr u2])) rfl (by rw [hml]; rfl) (argsL := [xi p3, xi p2]) (rest := [xr u2]) (lenOf pd3 rfl) rfl (by show 2 * 0 + _ ≤ _; exact Nat.le_of_eq rfl) (hb hby at_51) (fun _ _ => ⟨rfl, e4, (by decide : 0 + 0 ≤ _), (by decide : 0 + 0 ≤ _)⟩)
  dsimp only [Pt.U, Pt.locs, Pt.cells, Pt.slots] at X5 l5 y5 z5 st5 hQ5
  subst l5 y5 z5
  obtain ⟨rfl, Nq5, e5⟩ := hQ5
  have N5 := Fr.app N4 Nq5
  obtain ⟨cq6, kq6, qa6, qb6, qc6⟩ := isOf hZ e5 ((own_X_u2 G).ext O0.2)
  obtain ⟨_, _, ⟨T6, L6, k6, n6⟩, -, X6, ⟨Lc6, hQ6, l6, y6, z6⟩, st6⟩ := X5.virtualBack hx (y := Y5) (z := Y5) hown (mvT hZ (ww hw 26 rfl)) (mvT hZ (ww hw 27 rfl)) (notFace_of_selects (args := #[]) (mvT hZ (ww hw 29 rfl))) (mvT hZ (ww hw 29 rfl)) (mvT hZ (ww hw 28 rfl)) (by decide) (backOf (W := 0) (own_c23_holds l Z a0 hw u0 u1 u2 u3 u4 u5 G h0 n0 O0 []) hZ (ww hw 30 rfl) (ww hw 6 rfl) (by decide) (by decide)) qa6 qc6 (g := (mkF m 54 #[vi p1, vi p2, vi p3, vi p4, vr u3, vi p3, vr u2, vi (1 : Int32), vu] [xi (1 : Int32), xr u2])) rfl (by rw [hml]; rfl) (Steps.refl _) (argsL := [xi (1 : Int32)]) (rest := []) (lenOf pd4 rfl) rfl (by show 2 * 0 + _ ≤ _; exact Nat.le_of_eq rfl) (hb hby at_54) (fun _ _ => ⟨rfl, e5, (by decide : 0 + 0 ≤ _), (by decide : 0 + 0 ≤ _)⟩)
  dsimp only [Pt.U, Pt.locs, Pt.cells, Pt.slots] at X6 l6 y6 z6 st6 hQ6
  subst l6 y6 z6
  obtain ⟨rfl, Nq6, e6⟩ := hQ6
  have N6 := Fr.app N5 Nq6
  obtain ⟨fs, hr, hrun, hended, hW, hsame⟩ := X6.leave (v := some (xi (1 : Int32))) (fun h => by rw [Bd.returns] at h; cases h)
  refine ⟨_, _, pre0 _ ?_, hrun, hended, _, _, rfl, ?_, ⟨_, rfl⟩, hW, hsame.mono (by decide) (by decide)⟩
  · show own_S p e below s₁ (mkF m 0 #[vi p1, vi p2, vi p3, vi p4, vu, vu, vu, vu, vu] []) _
    refine XS.iloadN X0.here hx rfl (hb hby at_0) rfl ?_
    show own_S p e below s₁ (mkF m 1 #[vi p1, vi p2, vi p3, vi p4, vu, vu, vu, vu, vu] [xi p1]) _
    refine st1 _ ?_
    show own_S p e below T1 (mkF m 4 #[vi p1, vi p2, vi p3, vi p4, vu, vu, vu, vu, vu] [xr u3]) _
    refine XS.astore X1.here hx rfl (hb hby at_4) rfl rfl (l' := #[vi p1, vi p2, vi p3, vi p4, vr u3, vu, vu, vu, vu]) rfl ?_
    show own_S p e below T1 (mkF m 6 #[vi p1, vi p2, vi p3, vi p4, vr u3, vu, vu, vu, vu] []) _
    refine XS.iloadN X1.here hx rfl (hb hby at_6) rfl ?_
    show own_S p e below T1 (mkF m 7 #[vi p1, vi p2, vi p3, vi p4, vr u3, vu, vu, vu, vu] [xi p4]) _
    refine XS.iconst X1.here hx rfl (hb hby at_7) ?_
    show own_S p e below T1 (mkF m 8 #[vi p1, vi p2, vi p3, vi p4, vr u3, vu, vu, vu, vu] [xi (1 : Int32), xi p4]) _
    refine XS.iand X1.here hx rfl (hb hby at_8) rfl ?_
    show own_S p e below T1 (mkF m 9 #[vi p1, vi p2, vi p3, vi p4, vr u3, vu, vu, vu, vu] [xi (p4 &&& (1 : Int32))]) _
    refine castTop (show (mkF m 9 #[vi p1, vi p2, vi p3, vi p4, vr u3, vu, vu, vu, vu] [xi (p4 &&& (1 : Int32))]) = (mkF m 9 #[vi p1, vi p2, vi p3, vi p4, vr u3, vu, vu, vu, vu] [xi (0 : Int32)]) from by rw [as14]) ?_
    show own_S p e below T1 (mkF m 9 #[vi p1, vi p2, vi p3, vi p4, vr u3, vu, vu, vu, vu] [xi (0 : Int32)]) _
    refine XS.ifYes X1.here hx rfl (pc0 := 9) (pc' := 16) rfl (hb hby at_9) rfl (by decide) (by decide) (by decide) ?_
    show own_S p e below T1 (mkF m 16 #[vi p1, vi p2, vi p3, vi p4, vr u3, vu, vu, vu, vu] []) _
    refine XS.iloadN X1.here hx rfl (hb hby at_16) rfl ?_
    show own_S p e below T1 (mkF m 17 #[vi p1, vi p2, vi p3, vi p4, vr u3, vu, vu, vu, vu] [xi p3]) _
    refine XS.istore X1.here hx rfl (hb hby at_17) rfl (l' := #[vi p1, vi p2, vi p3, vi p4, vr u3, vi p3, vu, vu, vu]) rfl ?_
    show own_S p e below T1 (mkF m 19 #[vi p1, vi p2, vi p3, vi p4, vr u3, vi p3, vu, vu, vu] []) _
    refine XS.aload X1.here hx rfl (hb hby at_19) rfl rfl ?_
    show own_S p e below T1 (mkF m 21 #[vi p1, vi p2, vi p3, vi p4, vr u3, vi p3, vu, vu, vu] [xr u3]) _
    refine st2.trans ?_
    show own_S p e below T2 (mkF m 24 #[vi p1, vi p2, vi p3, vi p4, vr u3, vi p3, vu, vu, vu] [xr u2]) _
    refine XS.astore X2.here hx rfl (hb hby at_24) rfl rfl (l' := #[vi p1, vi p2, vi p3, vi p4, vr u3, vi p3, vr u2, vu, vu]) rfl ?_
    show own_S p e below T2 (mkF m 26 #[vi p1, vi p2, vi p3, vi p4, vr u3, vi p3, vr u2, vu, vu] []) _
    refine XS.aload X2.here hx rfl (hb hby at_26) rfl rfl ?_
    show own_S p e below T2 (mkF m 28 #[vi p1, vi p2, vi p3, vi p4, vr u3, vi p3, vr u2, vu, vu] [xr u2]) _
    refine Jvm.Free.XT.nonnullYes X2.here hx rfl (pc0 := 28) (pc' := 33) rfl (hb hby at_28) rfl rfl (by simp) (by decide) (by decide) ?_
    show own_S p e below T2 (mkF m 33 #[vi p1, vi p2, vi p3, vi p4, vr u3, vi p3, vr u2, vu, vu] []) _
    refine XS.aload X2.here hx rfl (hb hby at_33) rfl rfl ?_
    show own_S p e below T2 (mkF m 35 #[vi p1, vi p2, vi p3, vi p4, vr u3, vi p3, vr u2, vu, vu] [xr u3]) _
    refine XS.iloadN X2.here hx rfl (hb hby at_35) rfl ?_
    show own_S p e below T2 (mkF m 36 #[vi p1, vi p2, vi p3, vi p4, vr u3, vi p3, vr u2, vu, vu] [xi p2, xr u3]) _
    refine XS.iload X2.here hx rfl (hb hby at_36) rfl ?_
    show own_S p e below T2 (mkF m 38 #[vi p1, vi p2, vi p3, vi p4, vr u3, vi p3, vr u2, vu, vu] [xi p3, xi p2, xr u3]) _
    refine st3 _ ?_
    show own_S p e below T3 (mkF m 41 #[vi p1, vi p2, vi p3, vi p4, vr u3, vi p3, vr u2, vu, vu] [xi (-1 : Int32), xr u3]) _
    refine st4.trans ?_
    show own_S p e below T4 (mkF m 44 #[vi p1, vi p2, vi p3, vi p4, vr u3, vi p3, vr u2, vu, vu] [xi (1 : Int32)]) _
    refine XS.istore X4.here hx rfl (hb hby at_44) rfl (l' := #[vi p1, vi p2, vi p3, vi p4, vr u3, vi p3, vr u2, vi (1 : Int32), vu]) rfl ?_
    show own_S p e below T4 (mkF m 46 #[vi p1, vi p2, vi p3, vi p4, vr u3, vi p3, vr u2, vi (1 : Int32), vu] []) _
    refine XS.aload X4.here hx rfl (hb hby at_46) rfl rfl ?_
    show own_S p e below T4 (mkF m 48 #[vi p1, vi p2, vi p3, vi p4, vr u3, vi p3, vr u2, vi (1 : Int32), vu] [xr u2]) _
    refine XS.iload X4.here hx rfl (hb hby at_48) rfl ?_
    show own_S p e below T4 (mkF m 50 #[vi p1, vi p2, vi p3, vi p4, vr u3, vi p3, vr u2, vi (1 : Int32), vu] [xi p3, xr u2]) _
    refine XS.iloadN X4.here hx rfl (hb hby at_50) rfl ?_
    show own_S p e below T4 (mkF m 51 #[vi p1, vi p2, vi p3, vi p4, vr u3, vi p3, vr u2, vi (1 : Int32), vu] [xi p2, xi p3, xr u2]) _
    refine st5 _ ?_
    show own_S p e below T5 (mkF m 54 #[vi p1, vi p2, vi p3, vi p4, vr u3, vi p3, vr u2, vi (1 : Int32), vu] [xi (1 : Int32), xr u2]) _
    refine st6.trans ?_
    show own_S p e below T6 (mkF m 57 #[vi p1, vi p2, vi p3, vi p4, vr u3, vi p3, vr u2, vi (1 : Int32), vu] [xi (1 : Int32)]) _
    refine XS.istore X6.here hx rfl (hb hby at_57) rfl (l' := #[vi p1, vi p2, vi p3, vi p4, vr u3, vi p3, vr u2, vi (1 : Int32), vi (1 : Int32)]) rfl ?_
    show own_S p e below T6 (mkF m 59 #[vi p1, vi p2, vi p3, vi p4, vr u3, vi p3, vr u2, vi (1 : Int32), vi (1 : Int32)] []) _
    refine XS.iload X6.here hx rfl (hb hby at_59) rfl ?_
    show own_S p e below T6 (mkF m 61 #[vi p1, vi p2, vi p3, vi p4, vr u3, vi p3, vr u2, vi (1 : Int32), vi (1 : Int32)] [xi (1 : Int32)]) _
    refine XS.iload X6.here hx rfl (hb hby at_61) rfl ?_
    show own_S p e below T6 (mkF m 63 #[vi p1, vi p2, vi p3, vi p4, vr u3, vi p3, vr u2, vi (1 : Int32), vi (1 : Int32)] [xi (1 : Int32), xi (1 : Int32)]) _
    refine XS.icmpNo X6.here hx rfl (hb hby at_63) rfl (by decide) ?_
    show own_S p e below T6 (mkF m 66 #[vi p1, vi p2, vi p3, vi p4, vr u3, vi p3, vr u2, vi (1 : Int32), vi (1 : Int32)] []) _
    refine XS.iconst X6.here hx rfl (hb hby at_66) ?_
    show own_S p e below T6 (mkF m 67 #[vi p1, vi p2, vi p3, vi p4, vr u3, vi p3, vr u2, vi (1 : Int32), vi (1 : Int32)] [xi (1 : Int32)]) _
    refine XS.goto X6.here hx rfl (pc0 := 67) (pc' := 71) rfl (hb hby at_67) (by decide) (by decide) ?_
    show own_S p e below T6 (mkF m 71 #[vi p1, vi p2, vi p3, vi p4, vr u3, vi p3, vr u2, vi (1 : Int32), vi (1 : Int32)] [xi (1 : Int32)]) _
    exact retN X6 hx (t := .boolean) Bd.returns (by simp) (hb hby at_71) hr
  · exact ⟨rfl, N6⟩
theorem d5_86 : decode prog_62_method_8_code 86 = .ok (.iconst 0, 1) := by decide +kernel
theorem d5_87 : decode prog_62_method_8_code 87 = .ok (.goto 36, 3) := by decide +kernel
theorem ef_own_c25_holds (m : MethodId) (u0 u1 u2 u3 u4 u5 : Addr) : entryFrame m #[xr u3, xi (0 : Int32)] 2 = (mkF m 0 #[vr u3, vi (0 : Int32)] []) := by first | (simp [entryFrame, mkF, argsToLocals, Value.category]; done) | rfl
set_option maxRecDepth 65536 in
set_option maxHeartbeats 40000000 in
theorem own_c25_holds (l : Launch) (Z : State) (a0 : Array Value) (hw : ∀ d ∈ tables_1, d.before a0 Z = true) (u0 u1 u2 u3 u4 u5 : Addr) (G : own_St Z u0 u1 u2 u3 u4 u5) (h0 : Heap) (n0 : Nat) (O0 : Old Z n0 h0) : own_Met l Z Y5 prog_62_method_8_code 2 (some .boolean) ({ frames := 1, cells := 0, slots := 0, locals := 12 } : Room) #[xr u3, xi (0 : Int32)] h0 (own_QR (some (xi (0 : Int32))) h0 n0) := by
  intro ws
  refine MetFree.of_bodySF (plainFor_of_name pn2) hisR ?_
  intro p e s m args below meth c s₁ Bd hml0 hP hK
  obtain ⟨rfl, hZ, hh⟩ := hP
  have hx := Bd.exec
  have hby := Bd.bytes
  have hml : c.maxLocals = 2 := hml0
  have hown : s.vm.findClass "com/example/whyle/whyle/cfa/Relation" = some m.cls := findClass_of_methodNamed Bd.named
  have hnm := (name_of_methodNamed Bd.named Bd.method).1
  have X0 : Stand p l e ({ frames := 1, cells := 0, slots := 0, locals := 12 } : Room) s m #[xr u3, xi (0 : Int32)] below meth c s₁ [] 0 0 := Stand.of_body Bd
  have e0 : s₁.heap = h0 := by rw [← hh, Bd.state]; rfl
  have N0 := Fr.nil n0
  have pre0 : ∀ t, Steps p.tables e below (s₁.setTop (mkF m 0 #[vr u3, vi (0 : Int32)] [])) t → Steps p.tables e below (s₁.setTop (entryFrame m #[xr u3, xi (0 : Int32)] 2)) t := fun t st => castTop (ef_own_c25_holds m u0 u1 u2 u3 u4 u5) st
  obtain ⟨cq1, kq1, qa1, qb1, qc1⟩ := isOf hZ e0 ((own_X_u3 G).ext O0.2)
  obtain ⟨_, _, ⟨T1, L1, k1, n1⟩, -, X1, ⟨Lc1, hQ1, l1, y1, z1⟩, st1⟩ := X0.virtualBackUp hx (x := Y2) (y := Y1) hown (mvT hZ (ww hw 13 rfl)) (mvT hZ (ww hw 14 rfl)) (mvT hZ (ww hw 15 rfl)) (by decide) (mvT hZ (ww hw 17 rfl)) (mvT hZ (ww hw 16 rfl)) (backOf (W := 0) (own_c20_ordinal l Z a0 hw u0 u1 u2 u3 u4 u5 G h0 n0 O0 []) hZ (ww hw 19 rfl) (ww hw 18 rfl) (by decide) (by decide)) qa1 qc1 (g := (mkF m 1 #[vr u3, vi (0 : Int32)] [xr u3])) rfl (by rw [hml]; rfl) (Steps.refl _) (argsL := []) (rest := []) (lenOf pd1 rfl) rfl (by show 2 * 0 + _ ≤ _; exact Nat.le_of_eq rfl) (hb hby d5_1) (fun _ _ => ⟨rfl, e0, (by decide : 0 + 0 ≤ _), (by decide : 0 + 0 ≤ _)⟩)
  dsimp only [Pt.U, Pt.locs, Pt.cells, Pt.slots] at X1 l1 y1 z1 st1 hQ1
  subst l1 y1 z1
  obtain ⟨rfl, Nq1, e1⟩ := hQ1
  have N1 := Fr.app N0 Nq1
  obtain ⟨fs, hr, hrun, hended, hW, hsame⟩ := X1.leave (v := some (xi (0 : Int32))) (fun h => by rw [Bd.returns] at h; cases h)
  refine ⟨_, _, pre0 _ ?_, hrun, hended, _, _, rfl, ?_, ⟨_, rfl⟩, hW, hsame.mono (by decide) (by decide)⟩
  · show own_S p e below s₁ (mkF m 0 #[vr u3, vi (0 : Int32)] []) _
    refine XS.aloadN X0.here hx rfl (hb hby d5_0) rfl rfl ?_
    show own_S p e below s₁ (mkF m 1 #[vr u3, vi (0 : Int32)] [xr u3]) _
    refine st1.trans ?_
    show own_S p e below T1 (mkF m 4 #[vr u3, vi (0 : Int32)] [xi (2 : Int32)]) _
    refine XS.tswIn X1.here hx rfl (pc0 := 4) (pc' := 78) (o := 74) rfl (hb hby d5_4) rfl (by decide) (by decide) (by decide) (by decide) ?_
    show own_S p e below T1 (mkF m 78 #[vr u3, vi (0 : Int32)] []) _
    refine XS.iloadN X1.here hx rfl (hb hby d5_78) rfl ?_
    show own_S p e below T1 (mkF m 79 #[vr u3, vi (0 : Int32)] [xi (0 : Int32)]) _
    refine XS.ifYes X1.here hx rfl (pc0 := 79) (pc' := 86) rfl (hb hby d5_79) rfl (by decide) (by decide) (by decide) ?_
    show own_S p e below T1 (mkF m 86 #[vr u3, vi (0 : Int32)] []) _
    refine XS.iconst X1.here hx rfl (hb hby d5_86) ?_
    show own_S p e below T1 (mkF m 87 #[vr u3, vi (0 : Int32)] [xi (0 : Int32)]) _
    refine XS.goto X1.here hx rfl (pc0 := 87) (pc' := 123) rfl (hb hby d5_87) (by decide) (by decide) ?_
    show own_S p e below T1 (mkF m 123 #[vr u3, vi (0 : Int32)] [xi (0 : Int32)]) _
    exact retN X1 hx (t := .boolean) Bd.returns (by simp) (hb hby d5_123) hr
  · exact ⟨rfl, N1, e1⟩
theorem d5_110 : decode prog_62_method_8_code 110 = .ok (.iconst 0, 1) := by decide +kernel
theorem d5_111 : decode prog_62_method_8_code 111 = .ok (.goto 12, 3) := by decide +kernel
theorem ef_own_c26_holds (m : MethodId) (u0 u1 u2 u3 u4 u5 : Addr) : entryFrame m #[xr u2, xi (0 : Int32)] 2 = (mkF m 0 #[vr u2, vi (0 : Int32)] []) := by first | (simp [entryFrame, mkF, argsToLocals, Value.category]; done) | rfl
set_option maxRecDepth 65536 in
set_option maxHeartbeats 40000000 in
theorem own_c26_holds (l : Launch) (Z : State) (a0 : Array Value) (hw : ∀ d ∈ tables_1, d.before a0 Z = true) (u0 u1 u2 u3 u4 u5 : Addr) (G : own_St Z u0 u1 u2 u3 u4 u5) (h0 : Heap) (n0 : Nat) (O0 : Old Z n0 h0) : own_Met l Z Y5 prog_62_method_8_code 2 (some .boolean) ({ frames := 1, cells := 0, slots := 0, locals := 12 } : Room) #[xr u2, xi (0 : Int32)] h0 (own_QR (some (xi (0 : Int32))) h0 n0) := by
  intro ws
  refine MetFree.of_bodySF (plainFor_of_name pn2) hisR ?_
  intro p e s m args below meth c s₁ Bd hml0 hP hK
  obtain ⟨rfl, hZ, hh⟩ := hP
  have hx := Bd.exec
  have hby := Bd.bytes
  have hml : c.maxLocals = 2 := hml0
  have hown : s.vm.findClass "com/example/whyle/whyle/cfa/Relation" = some m.cls := findClass_of_methodNamed Bd.named
  have hnm := (name_of_methodNamed Bd.named Bd.method).1
  have X0 : Stand p l e ({ frames := 1, cells := 0, slots := 0, locals := 12 } : Room) s m #[xr u2, xi (0 : Int32)] below meth c s₁ [] 0 0 := Stand.of_body Bd
  have e0 : s₁.heap = h0 := by rw [← hh, Bd.state]; rfl
  have N0 := Fr.nil n0
  have pre0 : ∀ t, Steps p.tables e below (s₁.setTop (mkF m 0 #[vr u2, vi (0 : Int32)] [])) t → Steps p.tables e below (s₁.setTop (entryFrame m #[xr u2, xi (0 : Int32)] 2)) t := fun t st => castTop (ef_own_c26_holds m u0 u1 u2 u3 u4 u5) st
  obtain ⟨cq1, kq1, qa1, qb1, qc1⟩ := isOf hZ e0 ((own_X_u2 G).ext O0.2)
  obtain ⟨_, _, ⟨T1, L1, k1, n1⟩, -, X1, ⟨Lc1, hQ1, l1, y1, z1⟩, st1⟩ := X0.virtualBackUp hx (x := Y2) (y := Y1) hown (mvT hZ (ww hw 13 rfl)) (mvT hZ (ww hw 14 rfl)) (mvT hZ (ww hw 15 rfl)) (by decide) (mvT hZ (ww hw 17 rfl)) (mvT hZ (ww hw 16 rfl)) (backOf (W := 0) (own_c23_ordinal l Z a0 hw u0 u1 u2 u3 u4 u5 G h0 n0 O0 []) hZ (ww hw 19 rfl) (ww hw 18 rfl) (by decide) (by decide)) qa1 qc1 (g := (mkF m 1 #[vr u2, vi (0 : Int32)] [xr u2])) rfl (by rw [hml]; rfl) (Steps.refl _) (argsL := []) (rest := []) (lenOf pd1 rfl) rfl (by show 2 * 0 + _ ≤ _; exact Nat.le_of_eq rfl) (hb hby d5_1) (fun _ _ => ⟨rfl, e0, (by decide : 0 + 0 ≤ _), (by decide : 0 + 0 ≤ _)⟩)
  dsimp only [Pt.U, Pt.locs, Pt.cells, Pt.slots] at X1 l1 y1 z1 st1 hQ1
  subst l1 y1 z1
  obtain ⟨rfl, Nq1, e1⟩ := hQ1
  have N1 := Fr.app N0 Nq1
  obtain ⟨fs, hr, hrun, hended, hW, hsame⟩ := X1.leave (v := some (xi (0 : Int32))) (fun h => by rw [Bd.returns] at h; cases h)
  refine ⟨_, _, pre0 _ ?_, hrun, hended, _, _, rfl, ?_, ⟨_, rfl⟩, hW, hsame.mono (by decide) (by decide)⟩
  · show own_S p e below s₁ (mkF m 0 #[vr u2, vi (0 : Int32)] []) _
    refine XS.aloadN X0.here hx rfl (hb hby d5_0) rfl rfl ?_
    show own_S p e below s₁ (mkF m 1 #[vr u2, vi (0 : Int32)] [xr u2]) _
    refine st1.trans ?_
    show own_S p e below T1 (mkF m 4 #[vr u2, vi (0 : Int32)] [xi (4 : Int32)]) _
    refine XS.tswIn X1.here hx rfl (pc0 := 4) (pc' := 102) (o := 98) rfl (hb hby d5_4) rfl (by decide) (by decide) (by decide) (by decide) ?_
    show own_S p e below T1 (mkF m 102 #[vr u2, vi (0 : Int32)] []) _
    refine XS.iloadN X1.here hx rfl (hb hby d5_102) rfl ?_
    show own_S p e below T1 (mkF m 103 #[vr u2, vi (0 : Int32)] [xi (0 : Int32)]) _
    refine XS.ifYes X1.here hx rfl (pc0 := 103) (pc' := 110) rfl (hb hby d5_103) rfl (by decide) (by decide) (by decide) ?_
    show own_S p e below T1 (mkF m 110 #[vr u2, vi (0 : Int32)] []) _
    refine XS.iconst X1.here hx rfl (hb hby d5_110) ?_
    show own_S p e below T1 (mkF m 111 #[vr u2, vi (0 : Int32)] [xi (0 : Int32)]) _
    refine XS.goto X1.here hx rfl (pc0 := 111) (pc' := 123) rfl (hb hby d5_111) (by decide) (by decide) ?_
    show own_S p e below T1 (mkF m 123 #[vr u2, vi (0 : Int32)] [xi (0 : Int32)]) _
    exact retN X1 hx (t := .boolean) Bd.returns (by simp) (hb hby d5_123) hr
  · exact ⟨rfl, N1, e1⟩
theorem ef_own_l9 (m : MethodId) (u0 u1 u2 u3 u4 u5 : Addr) (p1 : Int32) (p2 : Int32) (p3 : Int32) (p4 : Int32) : entryFrame m #[xi p1, xi p2, xi p3, xi p4] maxLocals = (mkF m 0 #[vi p1, vi p2, vi p3, vi p4, vu, vu, vu, vu, vu] []) := by first | (simp [entryFrame, mkF, argsToLocals, Value.category, maxLocals]; done) | rfl
set_option maxRecDepth 65536 in
set_option maxHeartbeats 40000000 in
theorem own_l9 (l : Launch) (Z : State) (a0 : Array Value) (hw : ∀ d ∈ tables_1, d.before a0 Z = true) (u0 u1 u2 u3 u4 u5 : Addr) (G : own_St Z u0 u1 u2 u3 u4 u5) (p1 : Int32) (p2 : Int32) (p3 : Int32) (p4 : Int32) (as10 : ((p1 &&& (2147483647 : Int32)) - ((p1 &&& (2147483647 : Int32)) / (6 : Int32)) * (6 : Int32)) = (2 : Int32)) (as14 : (p4 &&& (1 : Int32)) = (0 : Int32)) (as3 : if_icmp.holds .ge p2 p3 = true) (as4 : if_icmp.holds .ne p2 p3 = false) (as1 : if_icmp.holds .ge p3 p2 = true) (as5 : if_icmp.holds .ne p3 p2 = false) (h0 : Heap) (n0 : Nat) (O0 : Old Z n0 h0) : own_Met l Z x code maxLocals ret room_1 #[xi p1, xi p2, xi p3, xi p4] h0 (own_QL (some (xi (1 : Int32))) n0) := by
  intro ws
  refine MetFree.of_bodySF (plainFor_of_name pn0) hisR ?_
  intro p e s m args below meth c s₁ Bd hml0 hP hK
  obtain ⟨rfl, hZ, hh⟩ := hP
  have hx := Bd.exec
  have hby := Bd.bytes
  have hml : c.maxLocals = 9 := hml0
  have hown : s.vm.findClass "com/example/whyle/whyle/cfa/RelationConversePinLaw" = some m.cls := findClass_of_methodNamed Bd.named
  have hnm := (name_of_methodNamed Bd.named Bd.method).1
  have X0 : Stand p l e room_1 s m #[xi p1, xi p2, xi p3, xi p4] below meth c s₁ [] 0 0 := Stand.of_body Bd
  have e0 : s₁.heap = h0 := by rw [← hh, Bd.state]; rfl
  have N0 := Fr.nil n0
  have pre0 : ∀ t, Steps p.tables e below (s₁.setTop (mkF m 0 #[vi p1, vi p2, vi p3, vi p4, vu, vu, vu, vu, vu] [])) t → Steps p.tables e below (s₁.setTop (entryFrame m #[xi p1, xi p2, xi p3, xi p4] maxLocals)) t := fun t st => castTop (ef_own_l9 m u0 u1 u2 u3 u4 u5 p1 p2 p3 p4) st
  obtain ⟨_, _, ⟨T1, L1, k1, n1⟩, -, X1, ⟨Lc1, hQ1, l1, y1, z1⟩, st1⟩ := Jvm.LawKit.callS X0 hx (y := Y0) hown (mvT hZ (ww hw 0 rfl)) (mvT hZ (ww hw 1 rfl)) (mvT hZ (ww hw 2 rfl)) (mvT hZ (ww hw 3 rfl)) (by decide) (backOf (W := 0) (own_c19_pick l Z a0 hw u0 u1 u2 u3 u4 u5 G p1 as10 h0 n0 O0 []) hZ (ww hw 3 rfl) (ww hw 2 rfl) (by decide) (by decide)) (g := (mkF m 1 #[vi p1, vi p2, vi p3, vi p4, vu, vu, vu, vu, vu] [xi p1])) rfl (by rw [hml]; rfl) (argsL := [xi p1]) (rest := []) (lenOf pd0 rfl) rfl (by show 2 * 0 + _ ≤ _; exact Nat.le_of_eq rfl) (hb hby at_1) (fun _ _ => ⟨rfl, e0, (by decide : 0 + 0 ≤ _), (by decide : 0 + 0 ≤ _)⟩)
  dsimp only [Pt.U, Pt.locs, Pt.cells, Pt.slots] at X1 l1 y1 z1 st1 hQ1
  subst l1 y1 z1
  obtain ⟨rfl, Nq1, e1⟩ := hQ1
  have N1 := Fr.app N0 Nq1
  obtain ⟨cq2, kq2, qa2, qb2, qc2⟩ := isOf hZ e1 ((own_X_u3 G).ext O0.2)
  obtain ⟨_, _, ⟨T2, L2, k2, n2⟩, -, X2, ⟨Lc2, hQ2, l2, y2, z2⟩, st2⟩ := X1.virtualBack hx (y := Y3) (z := Y3) hown (mvT hZ (ww hw 8 rfl)) (mvT hZ (ww hw 9 rfl)) (notFace_of_selects (args := #[]) (mvT hZ (ww hw 11 rfl))) (mvT hZ (ww hw 11 rfl)) (mvT hZ (ww hw 10 rfl)) (by decide) (backOf (W := 0) (own_c20_converse l Z a0 hw u0 u1 u2 u3 u4 u5 G h0 n0 O0 []) hZ (ww hw 12 rfl) (ww hw 6 rfl) (by decide) (by decide)) qa2 qc2 (g := (mkF m 21 #[vi p1, vi p2, vi p3, vi p4, vr u3, vi p3, vu, vu, vu] [xr u3])) rfl (by rw [hml]; rfl) (Steps.refl _) (argsL := []) (rest := []) (lenOf pd2 rfl) rfl (by show 2 * 0 + _ ≤ _; exact Nat.le_of_eq rfl) (hb hby at_21) (fun _ _ => ⟨rfl, e1, (by decide : 0 + 0 ≤ _), (by decide : 0 + 0 ≤ _)⟩)
  dsimp only [Pt.U, Pt.locs, Pt.cells, Pt.slots] at X2 l2 y2 z2 st2 hQ2
  subst l2 y2 z2
  obtain ⟨rfl, Nq2, e2⟩ := hQ2
  have N2 := Fr.app N1 Nq2
  obtain ⟨_, _, ⟨T3, L3, k3, n3⟩, -, X3, ⟨Lc3, hQ3, l3, y3, z3⟩, st3⟩ := Jvm.LawKit.callS X2 hx (y := Y4) hown (mvT hZ (ww hw 23 rfl)) (mvT hZ (ww hw 24 rfl)) (mvT hZ (ww hw 2 rfl)) (mvT hZ (ww hw 25 rfl)) (by decide) (backOf (W := 1) (own_c7_sign l Z a0 hw u0 u1 u2 u3 u4 u5 G p2 p3 as3 as4 h0 n0 O0 []) hZ (ww hw 25 rfl) (ww hw 2 rfl) (by decide) (by decide)) (g := (mkF m 38 #[vi p1, vi p2, vi p3, vi p4, vr u3, vi p3, vr u2, vu, vu] [xi p3, xi p2, xr u3])) rfl (by rw [hml]; rfl) (argsL := [xi p2, xi p3]) (rest := [xr u3]) (lenOf pd3 rfl) rfl (by show 2 * 0 + _ ≤ _; exact Nat.le_of_eq rfl) (hb hby at_38) (fun _ _ => ⟨rfl, e2, (by decide : 0 + 0 ≤ _), (by decide : 0 + 0 ≤ _)⟩)
  dsimp only [Pt.U, Pt.locs, Pt.cells, Pt.slots] at X3 l3 y3 z3 st3 hQ3
  subst l3 y3 z3
  obtain ⟨rfl, Nq3, e3⟩ := hQ3
  have N3 := Fr.app N2 Nq3
  obtain ⟨cq4, kq4, qa4, qb4, qc4⟩ := isOf hZ e3 ((own_X_u3 G).ext O0.2)
  obtain ⟨_, _, ⟨T4, L4, k4, n4⟩, -, X4, ⟨Lc4, hQ4, l4, y4, z4⟩, st4⟩ := X3.virtualBack hx (y := Y5) (z := Y5) hown (mvT hZ (ww hw 26 rfl)) (mvT hZ (ww hw 27 rfl)) (notFace_of_selects (args := #[]) (mvT hZ (ww hw 29 rfl))) (mvT hZ (ww hw 29 rfl)) (mvT hZ (ww hw 28 rfl)) (by decide) (backOf (W := 0) (own_c25_holds l Z a0 hw u0 u1 u2 u3 u4 u5 G h0 n0 O0 []) hZ (ww hw 30 rfl) (ww hw 6 rfl) (by decide) (by decide)) qa4 qc4 (g := (mkF m 41 #[vi p1, vi p2, vi p3, vi p4, vr u3, vi p3, vr u2, vu, vu] [xi (0 : Int32), xr u3])) rfl (by rw [hml]; rfl) (Steps.refl _) (argsL := [xi (0 : Int32)]) (rest := []) (lenOf pd4 rfl) rfl (by show 2 * 0 + _ ≤ _; exact Nat.le_of_eq rfl) (hb hby at_41) (fun _ _ => ⟨rfl, e3, (by decide : 0 + 0 ≤ _), (by decide : 0 + 0 ≤ _)⟩)
  dsimp only [Pt.U, Pt.locs, Pt.cells, Pt.slots] at X4 l4 y4 z4 st4 hQ4
  subst l4 y4 z4
  obtain ⟨rfl, Nq4, e4⟩ := hQ4
  have N4 := Fr.app N3 Nq4
  obtain ⟨_, _, ⟨T5, L5, k5, n5⟩, -, X5, ⟨Lc5, hQ5, l5, y5, z5⟩, st5⟩ := Jvm.LawKit.callS X4 hx (y := Y4) hown (mvT hZ (ww hw 23 rfl)) (mvT hZ (ww hw 24 rfl)) (mvT hZ (ww hw 2 rfl)) (mvT hZ (ww hw 25 rfl)) (by decide) (backOf (W := 1) (own_c9_sign l Z a0 hw u0 u1 u2 u3 u4 u5 G p2 p3 as1 as5 h0 n0 O0 []) hZ (ww hw 25 rfl) (ww hw 2 rfl) (by decide) (by decide)) (g := (mkF m 51 #[vi p1, vi p2, vi p3, vi p4, vr u3, vi p3, vr u2, vi (0 : Int32), vu] [xi p2, xi p3, xr u2])) rfl (by rw [hml]; rfl) (argsL := [xi p3, xi p2]) (rest := [xr u2]) (lenOf pd3 rfl) rfl (by show 2 * 0 + _ ≤ _; exact Nat.le_of_eq rfl) (hb hby at_51) (fun _ _ => ⟨rfl, e4, (by decide : 0 + 0 ≤ _), (by decide : 0 + 0 ≤ _)⟩)
  dsimp only [Pt.U, Pt.locs, Pt.cells, Pt.slots] at X5 l5 y5 z5 st5 hQ5
  subst l5 y5 z5
  obtain ⟨rfl, Nq5, e5⟩ := hQ5
  have N5 := Fr.app N4 Nq5
  obtain ⟨cq6, kq6, qa6, qb6, qc6⟩ := isOf hZ e5 ((own_X_u2 G).ext O0.2)
  obtain ⟨_, _, ⟨T6, L6, k6, n6⟩, -, X6, ⟨Lc6, hQ6, l6, y6, z6⟩, st6⟩ := X5.virtualBack hx (y := Y5) (z := Y5) hown (mvT hZ (ww hw 26 rfl)) (mvT hZ (ww hw 27 rfl)) (notFace_of_selects (args := #[]) (mvT hZ (ww hw 29 rfl))) (mvT hZ (ww hw 29 rfl)) (mvT hZ (ww hw 28 rfl)) (by decide) (backOf (W := 0) (own_c26_holds l Z a0 hw u0 u1 u2 u3 u4 u5 G h0 n0 O0 []) hZ (ww hw 30 rfl) (ww hw 6 rfl) (by decide) (by decide)) qa6 qc6 (g := (mkF m 54 #[vi p1, vi p2, vi p3, vi p4, vr u3, vi p3, vr u2, vi (0 : Int32), vu] [xi (0 : Int32), xr u2])) rfl (by rw [hml]; rfl) (Steps.refl _) (argsL := [xi (0 : Int32)]) (rest := []) (lenOf pd4 rfl) rfl (by show 2 * 0 + _ ≤ _; exact Nat.le_of_eq rfl) (hb hby at_54) (fun _ _ => ⟨rfl, e5, (by decide : 0 + 0 ≤ _), (by decide : 0 + 0 ≤ _)⟩)
  dsimp only [Pt.U, Pt.locs, Pt.cells, Pt.slots] at X6 l6 y6 z6 st6 hQ6
  subst l6 y6 z6
  obtain ⟨rfl, Nq6, e6⟩ := hQ6
  have N6 := Fr.app N5 Nq6
  obtain ⟨fs, hr, hrun, hended, hW, hsame⟩ := X6.leave (v := some (xi (1 : Int32))) (fun h => by rw [Bd.returns] at h; cases h)
  refine ⟨_, _, pre0 _ ?_, hrun, hended, _, _, rfl, ?_, ⟨_, rfl⟩, hW, hsame.mono (by decide) (by decide)⟩
  · show own_S p e below s₁ (mkF m 0 #[vi p1, vi p2, vi p3, vi p4, vu, vu, vu, vu, vu] []) _
    refine XS.iloadN X0.here hx rfl (hb hby at_0) rfl ?_
    show own_S p e below s₁ (mkF m 1 #[vi p1, vi p2, vi p3, vi p4, vu, vu, vu, vu, vu] [xi p1]) _
    refine st1 _ ?_
    show own_S p e below T1 (mkF m 4 #[vi p1, vi p2, vi p3, vi p4, vu, vu, vu, vu, vu] [xr u3]) _
    refine XS.astore X1.here hx rfl (hb hby at_4) rfl rfl (l' := #[vi p1, vi p2, vi p3, vi p4, vr u3, vu, vu, vu, vu]) rfl ?_
    show own_S p e below T1 (mkF m 6 #[vi p1, vi p2, vi p3, vi p4, vr u3, vu, vu, vu, vu] []) _
    refine XS.iloadN X1.here hx rfl (hb hby at_6) rfl ?_
    show own_S p e below T1 (mkF m 7 #[vi p1, vi p2, vi p3, vi p4, vr u3, vu, vu, vu, vu] [xi p4]) _
    refine XS.iconst X1.here hx rfl (hb hby at_7) ?_
    show own_S p e below T1 (mkF m 8 #[vi p1, vi p2, vi p3, vi p4, vr u3, vu, vu, vu, vu] [xi (1 : Int32), xi p4]) _
    refine XS.iand X1.here hx rfl (hb hby at_8) rfl ?_
    show own_S p e below T1 (mkF m 9 #[vi p1, vi p2, vi p3, vi p4, vr u3, vu, vu, vu, vu] [xi (p4 &&& (1 : Int32))]) _
    refine castTop (show (mkF m 9 #[vi p1, vi p2, vi p3, vi p4, vr u3, vu, vu, vu, vu] [xi (p4 &&& (1 : Int32))]) = (mkF m 9 #[vi p1, vi p2, vi p3, vi p4, vr u3, vu, vu, vu, vu] [xi (0 : Int32)]) from by rw [as14]) ?_
    show own_S p e below T1 (mkF m 9 #[vi p1, vi p2, vi p3, vi p4, vr u3, vu, vu, vu, vu] [xi (0 : Int32)]) _
    refine XS.ifYes X1.here hx rfl (pc0 := 9) (pc' := 16) rfl (hb hby at_9) rfl (by decide) (by decide) (by decide) ?_
    show own_S p e below T1 (mkF m 16 #[vi p1, vi p2, vi p3, vi p4, vr u3, vu, vu, vu, vu] []) _
    refine XS.iloadN X1.here hx rfl (hb hby at_16) rfl ?_
    show own_S p e below T1 (mkF m 17 #[vi p1, vi p2, vi p3, vi p4, vr u3, vu, vu, vu, vu] [xi p3]) _
    refine XS.istore X1.here hx rfl (hb hby at_17) rfl (l' := #[vi p1, vi p2, vi p3, vi p4, vr u3, vi p3, vu, vu, vu]) rfl ?_
    show own_S p e below T1 (mkF m 19 #[vi p1, vi p2, vi p3, vi p4, vr u3, vi p3, vu, vu, vu] []) _
    refine XS.aload X1.here hx rfl (hb hby at_19) rfl rfl ?_
    show own_S p e below T1 (mkF m 21 #[vi p1, vi p2, vi p3, vi p4, vr u3, vi p3, vu, vu, vu] [xr u3]) _
    refine st2.trans ?_
    show own_S p e below T2 (mkF m 24 #[vi p1, vi p2, vi p3, vi p4, vr u3, vi p3, vu, vu, vu] [xr u2]) _
    refine XS.astore X2.here hx rfl (hb hby at_24) rfl rfl (l' := #[vi p1, vi p2, vi p3, vi p4, vr u3, vi p3, vr u2, vu, vu]) rfl ?_
    show own_S p e below T2 (mkF m 26 #[vi p1, vi p2, vi p3, vi p4, vr u3, vi p3, vr u2, vu, vu] []) _
    refine XS.aload X2.here hx rfl (hb hby at_26) rfl rfl ?_
    show own_S p e below T2 (mkF m 28 #[vi p1, vi p2, vi p3, vi p4, vr u3, vi p3, vr u2, vu, vu] [xr u2]) _
    refine Jvm.Free.XT.nonnullYes X2.here hx rfl (pc0 := 28) (pc' := 33) rfl (hb hby at_28) rfl rfl (by simp) (by decide) (by decide) ?_
    show own_S p e below T2 (mkF m 33 #[vi p1, vi p2, vi p3, vi p4, vr u3, vi p3, vr u2, vu, vu] []) _
    refine XS.aload X2.here hx rfl (hb hby at_33) rfl rfl ?_
    show own_S p e below T2 (mkF m 35 #[vi p1, vi p2, vi p3, vi p4, vr u3, vi p3, vr u2, vu, vu] [xr u3]) _
    refine XS.iloadN X2.here hx rfl (hb hby at_35) rfl ?_
    show own_S p e below T2 (mkF m 36 #[vi p1, vi p2, vi p3, vi p4, vr u3, vi p3, vr u2, vu, vu] [xi p2, xr u3]) _
    refine XS.iload X2.here hx rfl (hb hby at_36) rfl ?_
    show own_S p e below T2 (mkF m 38 #[vi p1, vi p2, vi p3, vi p4, vr u3, vi p3, vr u2, vu, vu] [xi p3, xi p2, xr u3]) _
    refine st3 _ ?_
    show own_S p e below T3 (mkF m 41 #[vi p1, vi p2, vi p3, vi p4, vr u3, vi p3, vr u2, vu, vu] [xi (0 : Int32), xr u3]) _
    refine st4.trans ?_
    show own_S p e below T4 (mkF m 44 #[vi p1, vi p2, vi p3, vi p4, vr u3, vi p3, vr u2, vu, vu] [xi (0 : Int32)]) _
    refine XS.istore X4.here hx rfl (hb hby at_44) rfl (l' := #[vi p1, vi p2, vi p3, vi p4, vr u3, vi p3, vr u2, vi (0 : Int32), vu]) rfl ?_
    show own_S p e below T4 (mkF m 46 #[vi p1, vi p2, vi p3, vi p4, vr u3, vi p3, vr u2, vi (0 : Int32), vu] []) _
    refine XS.aload X4.here hx rfl (hb hby at_46) rfl rfl ?_
    show own_S p e below T4 (mkF m 48 #[vi p1, vi p2, vi p3, vi p4, vr u3, vi p3, vr u2, vi (0 : Int32), vu] [xr u2]) _
    refine XS.iload X4.here hx rfl (hb hby at_48) rfl ?_
    show own_S p e below T4 (mkF m 50 #[vi p1, vi p2, vi p3, vi p4, vr u3, vi p3, vr u2, vi (0 : Int32), vu] [xi p3, xr u2]) _
    refine XS.iloadN X4.here hx rfl (hb hby at_50) rfl ?_
    show own_S p e below T4 (mkF m 51 #[vi p1, vi p2, vi p3, vi p4, vr u3, vi p3, vr u2, vi (0 : Int32), vu] [xi p2, xi p3, xr u2]) _
    refine st5 _ ?_
    show own_S p e below T5 (mkF m 54 #[vi p1, vi p2, vi p3, vi p4, vr u3, vi p3, vr u2, vi (0 : Int32), vu] [xi (0 : Int32), xr u2]) _
    refine st6.trans ?_
    show own_S p e below T6 (mkF m 57 #[vi p1, vi p2, vi p3, vi p4, vr u3, vi p3, vr u2, vi (0 : Int32), vu] [xi (0 : Int32)]) _
    refine XS.istore X6.here hx rfl (hb hby at_57) rfl (l' := #[vi p1, vi p2, vi p3, vi p4, vr u3, vi p3, vr u2, vi (0 : Int32), vi (0 : Int32)]) rfl ?_
    show own_S p e below T6 (mkF m 59 #[vi p1, vi p2, vi p3, vi p4, vr u3, vi p3, vr u2, vi (0 : Int32), vi (0 : Int32)] []) _
    refine XS.iload X6.here hx rfl (hb hby at_59) rfl ?_
    show own_S p e below T6 (mkF m 61 #[vi p1, vi p2, vi p3, vi p4, vr u3, vi p3, vr u2, vi (0 : Int32), vi (0 : Int32)] [xi (0 : Int32)]) _
    refine XS.iload X6.here hx rfl (hb hby at_61) rfl ?_
    show own_S p e below T6 (mkF m 63 #[vi p1, vi p2, vi p3, vi p4, vr u3, vi p3, vr u2, vi (0 : Int32), vi (0 : Int32)] [xi (0 : Int32), xi (0 : Int32)]) _
    refine XS.icmpNo X6.here hx rfl (hb hby at_63) rfl (by decide) ?_
    show own_S p e below T6 (mkF m 66 #[vi p1, vi p2, vi p3, vi p4, vr u3, vi p3, vr u2, vi (0 : Int32), vi (0 : Int32)] []) _
    refine XS.iconst X6.here hx rfl (hb hby at_66) ?_
    show own_S p e below T6 (mkF m 67 #[vi p1, vi p2, vi p3, vi p4, vr u3, vi p3, vr u2, vi (0 : Int32), vi (0 : Int32)] [xi (1 : Int32)]) _
    refine XS.goto X6.here hx rfl (pc0 := 67) (pc' := 71) rfl (hb hby at_67) (by decide) (by decide) ?_
    show own_S p e below T6 (mkF m 71 #[vi p1, vi p2, vi p3, vi p4, vr u3, vi p3, vr u2, vi (0 : Int32), vi (0 : Int32)] [xi (1 : Int32)]) _
    exact retN X6 hx (t := .boolean) Bd.returns (by simp) (hb hby at_71) hr
  · exact ⟨rfl, N6⟩
theorem ef_own_c27_holds (m : MethodId) (u0 u1 u2 u3 u4 u5 : Addr) : entryFrame m #[xr u3, xi (1 : Int32)] 2 = (mkF m 0 #[vr u3, vi (1 : Int32)] []) := by first | (simp [entryFrame, mkF, argsToLocals, Value.category]; done) | rfl
set_option maxRecDepth 65536 in
set_option maxHeartbeats 40000000 in
theorem own_c27_holds (l : Launch) (Z : State) (a0 : Array Value) (hw : ∀ d ∈ tables_1, d.before a0 Z = true) (u0 u1 u2 u3 u4 u5 : Addr) (G : own_St Z u0 u1 u2 u3 u4 u5) (h0 : Heap) (n0 : Nat) (O0 : Old Z n0 h0) : own_Met l Z Y5 prog_62_method_8_code 2 (some .boolean) ({ frames := 1, cells := 0, slots := 0, locals := 12 } : Room) #[xr u3, xi (1 : Int32)] h0 (own_QR (some (xi (0 : Int32))) h0 n0) := by
  intro ws
  refine MetFree.of_bodySF (plainFor_of_name pn2) hisR ?_
  intro p e s m args below meth c s₁ Bd hml0 hP hK
  obtain ⟨rfl, hZ, hh⟩ := hP
  have hx := Bd.exec
  have hby := Bd.bytes
  have hml : c.maxLocals = 2 := hml0
  have hown : s.vm.findClass "com/example/whyle/whyle/cfa/Relation" = some m.cls := findClass_of_methodNamed Bd.named
  have hnm := (name_of_methodNamed Bd.named Bd.method).1
  have X0 : Stand p l e ({ frames := 1, cells := 0, slots := 0, locals := 12 } : Room) s m #[xr u3, xi (1 : Int32)] below meth c s₁ [] 0 0 := Stand.of_body Bd
  have e0 : s₁.heap = h0 := by rw [← hh, Bd.state]; rfl
  have N0 := Fr.nil n0
  have pre0 : ∀ t, Steps p.tables e below (s₁.setTop (mkF m 0 #[vr u3, vi (1 : Int32)] [])) t → Steps p.tables e below (s₁.setTop (entryFrame m #[xr u3, xi (1 : Int32)] 2)) t := fun t st => castTop (ef_own_c27_holds m u0 u1 u2 u3 u4 u5) st
  obtain ⟨cq1, kq1, qa1, qb1, qc1⟩ := isOf hZ e0 ((own_X_u3 G).ext O0.2)
  obtain ⟨_, _, ⟨T1, L1, k1, n1⟩, -, X1, ⟨Lc1, hQ1, l1, y1, z1⟩, st1⟩ := X0.virtualBackUp hx (x := Y2) (y := Y1) hown (mvT hZ (ww hw 13 rfl)) (mvT hZ (ww hw 14 rfl)) (mvT hZ (ww hw 15 rfl)) (by decide) (mvT hZ (ww hw 17 rfl)) (mvT hZ (ww hw 16 rfl)) (backOf (W := 0) (own_c20_ordinal l Z a0 hw u0 u1 u2 u3 u4 u5 G h0 n0 O0 []) hZ (ww hw 19 rfl) (ww hw 18 rfl) (by decide) (by decide)) qa1 qc1 (g := (mkF m 1 #[vr u3, vi (1 : Int32)] [xr u3])) rfl (by rw [hml]; rfl) (Steps.refl _) (argsL := []) (rest := []) (lenOf pd1 rfl) rfl (by show 2 * 0 + _ ≤ _; exact Nat.le_of_eq rfl) (hb hby d5_1) (fun _ _ => ⟨rfl, e0, (by decide : 0 + 0 ≤ _), (by decide : 0 + 0 ≤ _)⟩)
  dsimp only [Pt.U, Pt.locs, Pt.cells, Pt.slots] at X1 l1 y1 z1 st1 hQ1
  subst l1 y1 z1
  obtain ⟨rfl, Nq1, e1⟩ := hQ1
  have N1 := Fr.app N0 Nq1
  obtain ⟨fs, hr, hrun, hended, hW, hsame⟩ := X1.leave (v := some (xi (0 : Int32))) (fun h => by rw [Bd.returns] at h; cases h)
  refine ⟨_, _, pre0 _ ?_, hrun, hended, _, _, rfl, ?_, ⟨_, rfl⟩, hW, hsame.mono (by decide) (by decide)⟩
  · show own_S p e below s₁ (mkF m 0 #[vr u3, vi (1 : Int32)] []) _
    refine XS.aloadN X0.here hx rfl (hb hby d5_0) rfl rfl ?_
    show own_S p e below s₁ (mkF m 1 #[vr u3, vi (1 : Int32)] [xr u3]) _
    refine st1.trans ?_
    show own_S p e below T1 (mkF m 4 #[vr u3, vi (1 : Int32)] [xi (2 : Int32)]) _
    refine XS.tswIn X1.here hx rfl (pc0 := 4) (pc' := 78) (o := 74) rfl (hb hby d5_4) rfl (by decide) (by decide) (by decide) (by decide) ?_
    show own_S p e below T1 (mkF m 78 #[vr u3, vi (1 : Int32)] []) _
    refine XS.iloadN X1.here hx rfl (hb hby d5_78) rfl ?_
    show own_S p e below T1 (mkF m 79 #[vr u3, vi (1 : Int32)] [xi (1 : Int32)]) _
    refine XS.ifYes X1.here hx rfl (pc0 := 79) (pc' := 86) rfl (hb hby d5_79) rfl (by decide) (by decide) (by decide) ?_
    show own_S p e below T1 (mkF m 86 #[vr u3, vi (1 : Int32)] []) _
    refine XS.iconst X1.here hx rfl (hb hby d5_86) ?_
    show own_S p e below T1 (mkF m 87 #[vr u3, vi (1 : Int32)] [xi (0 : Int32)]) _
    refine XS.goto X1.here hx rfl (pc0 := 87) (pc' := 123) rfl (hb hby d5_87) (by decide) (by decide) ?_
    show own_S p e below T1 (mkF m 123 #[vr u3, vi (1 : Int32)] [xi (0 : Int32)]) _
    exact retN X1 hx (t := .boolean) Bd.returns (by simp) (hb hby d5_123) hr
  · exact ⟨rfl, N1, e1⟩
theorem ef_own_c28_holds (m : MethodId) (u0 u1 u2 u3 u4 u5 : Addr) : entryFrame m #[xr u2, xi (-1 : Int32)] 2 = (mkF m 0 #[vr u2, vi (-1 : Int32)] []) := by first | (simp [entryFrame, mkF, argsToLocals, Value.category]; done) | rfl
set_option maxRecDepth 65536 in
set_option maxHeartbeats 40000000 in
theorem own_c28_holds (l : Launch) (Z : State) (a0 : Array Value) (hw : ∀ d ∈ tables_1, d.before a0 Z = true) (u0 u1 u2 u3 u4 u5 : Addr) (G : own_St Z u0 u1 u2 u3 u4 u5) (h0 : Heap) (n0 : Nat) (O0 : Old Z n0 h0) : own_Met l Z Y5 prog_62_method_8_code 2 (some .boolean) ({ frames := 1, cells := 0, slots := 0, locals := 12 } : Room) #[xr u2, xi (-1 : Int32)] h0 (own_QR (some (xi (0 : Int32))) h0 n0) := by
  intro ws
  refine MetFree.of_bodySF (plainFor_of_name pn2) hisR ?_
  intro p e s m args below meth c s₁ Bd hml0 hP hK
  obtain ⟨rfl, hZ, hh⟩ := hP
  have hx := Bd.exec
  have hby := Bd.bytes
  have hml : c.maxLocals = 2 := hml0
  have hown : s.vm.findClass "com/example/whyle/whyle/cfa/Relation" = some m.cls := findClass_of_methodNamed Bd.named
  have hnm := (name_of_methodNamed Bd.named Bd.method).1
  have X0 : Stand p l e ({ frames := 1, cells := 0, slots := 0, locals := 12 } : Room) s m #[xr u2, xi (-1 : Int32)] below meth c s₁ [] 0 0 := Stand.of_body Bd
  have e0 : s₁.heap = h0 := by rw [← hh, Bd.state]; rfl
  have N0 := Fr.nil n0
  have pre0 : ∀ t, Steps p.tables e below (s₁.setTop (mkF m 0 #[vr u2, vi (-1 : Int32)] [])) t → Steps p.tables e below (s₁.setTop (entryFrame m #[xr u2, xi (-1 : Int32)] 2)) t := fun t st => castTop (ef_own_c28_holds m u0 u1 u2 u3 u4 u5) st
  obtain ⟨cq1, kq1, qa1, qb1, qc1⟩ := isOf hZ e0 ((own_X_u2 G).ext O0.2)
  obtain ⟨_, _, ⟨T1, L1, k1, n1⟩, -, X1, ⟨Lc1, hQ1, l1, y1, z1⟩, st1⟩ := X0.virtualBackUp hx (x := Y2) (y := Y1) hown (mvT hZ (ww hw 13 rfl)) (mvT hZ (ww hw 14 rfl)) (mvT hZ (ww hw 15 rfl)) (by decide) (mvT hZ (ww hw 17 rfl)) (mvT hZ (ww hw 16 rfl)) (backOf (W := 0) (own_c23_ordinal l Z a0 hw u0 u1 u2 u3 u4 u5 G h0 n0 O0 []) hZ (ww hw 19 rfl) (ww hw 18 rfl) (by decide) (by decide)) qa1 qc1 (g := (mkF m 1 #[vr u2, vi (-1 : Int32)] [xr u2])) rfl (by rw [hml]; rfl) (Steps.refl _) (argsL := []) (rest := []) (lenOf pd1 rfl) rfl (by show 2 * 0 + _ ≤ _; exact Nat.le_of_eq rfl) (hb hby d5_1) (fun _ _ => ⟨rfl, e0, (by decide : 0 + 0 ≤ _), (by decide : 0 + 0 ≤ _)⟩)
  dsimp only [Pt.U, Pt.locs, Pt.cells, Pt.slots] at X1 l1 y1 z1 st1 hQ1
  subst l1 y1 z1
  obtain ⟨rfl, Nq1, e1⟩ := hQ1
  have N1 := Fr.app N0 Nq1
  obtain ⟨fs, hr, hrun, hended, hW, hsame⟩ := X1.leave (v := some (xi (0 : Int32))) (fun h => by rw [Bd.returns] at h; cases h)
  refine ⟨_, _, pre0 _ ?_, hrun, hended, _, _, rfl, ?_, ⟨_, rfl⟩, hW, hsame.mono (by decide) (by decide)⟩
  · show own_S p e below s₁ (mkF m 0 #[vr u2, vi (-1 : Int32)] []) _
    refine XS.aloadN X0.here hx rfl (hb hby d5_0) rfl rfl ?_
    show own_S p e below s₁ (mkF m 1 #[vr u2, vi (-1 : Int32)] [xr u2]) _
    refine st1.trans ?_
    show own_S p e below T1 (mkF m 4 #[vr u2, vi (-1 : Int32)] [xi (4 : Int32)]) _
    refine XS.tswIn X1.here hx rfl (pc0 := 4) (pc' := 102) (o := 98) rfl (hb hby d5_4) rfl (by decide) (by decide) (by decide) (by decide) ?_
    show own_S p e below T1 (mkF m 102 #[vr u2, vi (-1 : Int32)] []) _
    refine XS.iloadN X1.here hx rfl (hb hby d5_102) rfl ?_
    show own_S p e below T1 (mkF m 103 #[vr u2, vi (-1 : Int32)] [xi (-1 : Int32)]) _
    refine XS.ifYes X1.here hx rfl (pc0 := 103) (pc' := 110) rfl (hb hby d5_103) rfl (by decide) (by decide) (by decide) ?_
    show own_S p e below T1 (mkF m 110 #[vr u2, vi (-1 : Int32)] []) _
    refine XS.iconst X1.here hx rfl (hb hby d5_110) ?_
    show own_S p e below T1 (mkF m 111 #[vr u2, vi (-1 : Int32)] [xi (0 : Int32)]) _
    refine XS.goto X1.here hx rfl (pc0 := 111) (pc' := 123) rfl (hb hby d5_111) (by decide) (by decide) ?_
    show own_S p e below T1 (mkF m 123 #[vr u2, vi (-1 : Int32)] [xi (0 : Int32)]) _
    exact retN X1 hx (t := .boolean) Bd.returns (by simp) (hb hby d5_123) hr
  · exact ⟨rfl, N1, e1⟩
theorem ef_own_l10 (m : MethodId) (u0 u1 u2 u3 u4 u5 : Addr) (p1 : Int32) (p2 : Int32) (p3 : Int32) (p4 : Int32) : entryFrame m #[xi p1, xi p2, xi p3, xi p4] maxLocals = (mkF m 0 #[vi p1, vi p2, vi p3, vi p4, vu, vu, vu, vu, vu] []) := by first | (simp [entryFrame, mkF, argsToLocals, Value.category, maxLocals]; done) | rfl
set_option maxRecDepth 65536 in
set_option maxHeartbeats 40000000 in
theorem own_l10 (l : Launch) (Z : State) (a0 : Array Value) (hw : ∀ d ∈ tables_1, d.before a0 Z = true) (u0 u1 u2 u3 u4 u5 : Addr) (G : own_St Z u0 u1 u2 u3 u4 u5) (p1 : Int32) (p2 : Int32) (p3 : Int32) (p4 : Int32) (as10 : ((p1 &&& (2147483647 : Int32)) - ((p1 &&& (2147483647 : Int32)) / (6 : Int32)) * (6 : Int32)) = (2 : Int32)) (as14 : (p4 &&& (1 : Int32)) = (0 : Int32)) (as3 : if_icmp.holds .ge p2 p3 = true) (as6 : if_icmp.holds .ne p2 p3 = true) (as7 : if_icmp.holds .ge p3 p2 = false) (h0 : Heap) (n0 : Nat) (O0 : Old Z n0 h0) : own_Met l Z x code maxLocals ret room_1 #[xi p1, xi p2, xi p3, xi p4] h0 (own_QL (some (xi (1 : Int32))) n0) := by
  intro ws
  refine MetFree.of_bodySF (plainFor_of_name pn0) hisR ?_
  intro p e s m args below meth c s₁ Bd hml0 hP hK
  obtain ⟨rfl, hZ, hh⟩ := hP
  have hx := Bd.exec
  have hby := Bd.bytes
  have hml : c.maxLocals = 9 := hml0
  have hown : s.vm.findClass "com/example/whyle/whyle/cfa/RelationConversePinLaw" = some m.cls := findClass_of_methodNamed Bd.named
  have hnm := (name_of_methodNamed Bd.named Bd.method).1
  have X0 : Stand p l e room_1 s m #[xi p1, xi p2, xi p3, xi p4] below meth c s₁ [] 0 0 := Stand.of_body Bd
  have e0 : s₁.heap = h0 := by rw [← hh, Bd.state]; rfl
  have N0 := Fr.nil n0
  have pre0 : ∀ t, Steps p.tables e below (s₁.setTop (mkF m 0 #[vi p1, vi p2, vi p3, vi p4, vu, vu, vu, vu, vu] [])) t → Steps p.tables e below (s₁.setTop (entryFrame m #[xi p1, xi p2, xi p3, xi p4] maxLocals)) t := fun t st => castTop (ef_own_l10 m u0 u1 u2 u3 u4 u5 p1 p2 p3 p4) st
  obtain ⟨_, _, ⟨T1, L1, k1, n1⟩, -, X1, ⟨Lc1, hQ1, l1, y1, z1⟩, st1⟩ := Jvm.LawKit.callS X0 hx (y := Y0) hown (mvT hZ (ww hw 0 rfl)) (mvT hZ (ww hw 1 rfl)) (mvT hZ (ww hw 2 rfl)) (mvT hZ (ww hw 3 rfl)) (by decide) (backOf (W := 0) (own_c19_pick l Z a0 hw u0 u1 u2 u3 u4 u5 G p1 as10 h0 n0 O0 []) hZ (ww hw 3 rfl) (ww hw 2 rfl) (by decide) (by decide)) (g := (mkF m 1 #[vi p1, vi p2, vi p3, vi p4, vu, vu, vu, vu, vu] [xi p1])) rfl (by rw [hml]; rfl) (argsL := [xi p1]) (rest := []) (lenOf pd0 rfl) rfl (by show 2 * 0 + _ ≤ _; exact Nat.le_of_eq rfl) (hb hby at_1) (fun _ _ => ⟨rfl, e0, (by decide : 0 + 0 ≤ _), (by decide : 0 + 0 ≤ _)⟩)
  dsimp only [Pt.U, Pt.locs, Pt.cells, Pt.slots] at X1 l1 y1 z1 st1 hQ1
  subst l1 y1 z1
  obtain ⟨rfl, Nq1, e1⟩ := hQ1
  have N1 := Fr.app N0 Nq1
  obtain ⟨cq2, kq2, qa2, qb2, qc2⟩ := isOf hZ e1 ((own_X_u3 G).ext O0.2)
  obtain ⟨_, _, ⟨T2, L2, k2, n2⟩, -, X2, ⟨Lc2, hQ2, l2, y2, z2⟩, st2⟩ := X1.virtualBack hx (y := Y3) (z := Y3) hown (mvT hZ (ww hw 8 rfl)) (mvT hZ (ww hw 9 rfl)) (notFace_of_selects (args := #[]) (mvT hZ (ww hw 11 rfl))) (mvT hZ (ww hw 11 rfl)) (mvT hZ (ww hw 10 rfl)) (by decide) (backOf (W := 0) (own_c20_converse l Z a0 hw u0 u1 u2 u3 u4 u5 G h0 n0 O0 []) hZ (ww hw 12 rfl) (ww hw 6 rfl) (by decide) (by decide)) qa2 qc2 (g := (mkF m 21 #[vi p1, vi p2, vi p3, vi p4, vr u3, vi p3, vu, vu, vu] [xr u3])) rfl (by rw [hml]; rfl) (Steps.refl _) (argsL := []) (rest := []) (lenOf pd2 rfl) rfl (by show 2 * 0 + _ ≤ _; exact Nat.le_of_eq rfl) (hb hby at_21) (fun _ _ => ⟨rfl, e1, (by decide : 0 + 0 ≤ _), (by decide : 0 + 0 ≤ _)⟩)
  dsimp only [Pt.U, Pt.locs, Pt.cells, Pt.slots] at X2 l2 y2 z2 st2 hQ2
  subst l2 y2 z2
  obtain ⟨rfl, Nq2, e2⟩ := hQ2
  have N2 := Fr.app N1 Nq2
  obtain ⟨_, _, ⟨T3, L3, k3, n3⟩, -, X3, ⟨Lc3, hQ3, l3, y3, z3⟩, st3⟩ := Jvm.LawKit.callS X2 hx (y := Y4) hown (mvT hZ (ww hw 23 rfl)) (mvT hZ (ww hw 24 rfl)) (mvT hZ (ww hw 2 rfl)) (mvT hZ (ww hw 25 rfl)) (by decide) (backOf (W := 1) (own_c10_sign l Z a0 hw u0 u1 u2 u3 u4 u5 G p2 p3 as3 as6 h0 n0 O0 []) hZ (ww hw 25 rfl) (ww hw 2 rfl) (by decide) (by decide)) (g := (mkF m 38 #[vi p1, vi p2, vi p3, vi p4, vr u3, vi p3, vr u2, vu, vu] [xi p3, xi p2, xr u3])) rfl (by rw [hml]; rfl) (argsL := [xi p2, xi p3]) (rest := [xr u3]) (lenOf pd3 rfl) rfl (by show 2 * 0 + _ ≤ _; exact Nat.le_of_eq rfl) (hb hby at_38) (fun _ _ => ⟨rfl, e2, (by decide : 0 + 0 ≤ _), (by decide : 0 + 0 ≤ _)⟩)
  dsimp only [Pt.U, Pt.locs, Pt.cells, Pt.slots] at X3 l3 y3 z3 st3 hQ3
  subst l3 y3 z3
  obtain ⟨rfl, Nq3, e3⟩ := hQ3
  have N3 := Fr.app N2 Nq3
  obtain ⟨cq4, kq4, qa4, qb4, qc4⟩ := isOf hZ e3 ((own_X_u3 G).ext O0.2)
  obtain ⟨_, _, ⟨T4, L4, k4, n4⟩, -, X4, ⟨Lc4, hQ4, l4, y4, z4⟩, st4⟩ := X3.virtualBack hx (y := Y5) (z := Y5) hown (mvT hZ (ww hw 26 rfl)) (mvT hZ (ww hw 27 rfl)) (notFace_of_selects (args := #[]) (mvT hZ (ww hw 29 rfl))) (mvT hZ (ww hw 29 rfl)) (mvT hZ (ww hw 28 rfl)) (by decide) (backOf (W := 0) (own_c27_holds l Z a0 hw u0 u1 u2 u3 u4 u5 G h0 n0 O0 []) hZ (ww hw 30 rfl) (ww hw 6 rfl) (by decide) (by decide)) qa4 qc4 (g := (mkF m 41 #[vi p1, vi p2, vi p3, vi p4, vr u3, vi p3, vr u2, vu, vu] [xi (1 : Int32), xr u3])) rfl (by rw [hml]; rfl) (Steps.refl _) (argsL := [xi (1 : Int32)]) (rest := []) (lenOf pd4 rfl) rfl (by show 2 * 0 + _ ≤ _; exact Nat.le_of_eq rfl) (hb hby at_41) (fun _ _ => ⟨rfl, e3, (by decide : 0 + 0 ≤ _), (by decide : 0 + 0 ≤ _)⟩)
  dsimp only [Pt.U, Pt.locs, Pt.cells, Pt.slots] at X4 l4 y4 z4 st4 hQ4
  subst l4 y4 z4
  obtain ⟨rfl, Nq4, e4⟩ := hQ4
  have N4 := Fr.app N3 Nq4
  obtain ⟨_, _, ⟨T5, L5, k5, n5⟩, -, X5, ⟨Lc5, hQ5, l5, y5, z5⟩, st5⟩ := Jvm.LawKit.callS X4 hx (y := Y4) hown (mvT hZ (ww hw 23 rfl)) (mvT hZ (ww hw 24 rfl)) (mvT hZ (ww hw 2 rfl)) (mvT hZ (ww hw 25 rfl)) (by decide) (backOf (W := 1) (own_c11_sign l Z a0 hw u0 u1 u2 u3 u4 u5 G p2 p3 as7 h0 n0 O0 []) hZ (ww hw 25 rfl) (ww hw 2 rfl) (by decide) (by decide)) (g := (mkF m 51 #[vi p1, vi p2, vi p3, vi p4, vr u3, vi p3, vr u2, vi (0 : Int32), vu] [xi p2, xi p3, xr u2])) rfl (by rw [hml]; rfl) (argsL := [xi p3, xi p2]) (rest := [xr u2]) (lenOf pd3 rfl) rfl (by show 2 * 0 + _ ≤ _; exact Nat.le_of_eq rfl) (hb hby at_51) (fun _ _ => ⟨rfl, e4, (by decide : 0 + 0 ≤ _), (by decide : 0 + 0 ≤ _)⟩)
  dsimp only [Pt.U, Pt.locs, Pt.cells, Pt.slots] at X5 l5 y5 z5 st5 hQ5
  subst l5 y5 z5
  obtain ⟨rfl, Nq5, e5⟩ := hQ5
  have N5 := Fr.app N4 Nq5
  obtain ⟨cq6, kq6, qa6, qb6, qc6⟩ := isOf hZ e5 ((own_X_u2 G).ext O0.2)
  obtain ⟨_, _, ⟨T6, L6, k6, n6⟩, -, X6, ⟨Lc6, hQ6, l6, y6, z6⟩, st6⟩ := X5.virtualBack hx (y := Y5) (z := Y5) hown (mvT hZ (ww hw 26 rfl)) (mvT hZ (ww hw 27 rfl)) (notFace_of_selects (args := #[]) (mvT hZ (ww hw 29 rfl))) (mvT hZ (ww hw 29 rfl)) (mvT hZ (ww hw 28 rfl)) (by decide) (backOf (W := 0) (own_c28_holds l Z a0 hw u0 u1 u2 u3 u4 u5 G h0 n0 O0 []) hZ (ww hw 30 rfl) (ww hw 6 rfl) (by decide) (by decide)) qa6 qc6 (g := (mkF m 54 #[vi p1, vi p2, vi p3, vi p4, vr u3, vi p3, vr u2, vi (0 : Int32), vu] [xi (-1 : Int32), xr u2])) rfl (by rw [hml]; rfl) (Steps.refl _) (argsL := [xi (-1 : Int32)]) (rest := []) (lenOf pd4 rfl) rfl (by show 2 * 0 + _ ≤ _; exact Nat.le_of_eq rfl) (hb hby at_54) (fun _ _ => ⟨rfl, e5, (by decide : 0 + 0 ≤ _), (by decide : 0 + 0 ≤ _)⟩)
  dsimp only [Pt.U, Pt.locs, Pt.cells, Pt.slots] at X6 l6 y6 z6 st6 hQ6
  subst l6 y6 z6
  obtain ⟨rfl, Nq6, e6⟩ := hQ6
  have N6 := Fr.app N5 Nq6
  obtain ⟨fs, hr, hrun, hended, hW, hsame⟩ := X6.leave (v := some (xi (1 : Int32))) (fun h => by rw [Bd.returns] at h; cases h)
  refine ⟨_, _, pre0 _ ?_, hrun, hended, _, _, rfl, ?_, ⟨_, rfl⟩, hW, hsame.mono (by decide) (by decide)⟩
  · show own_S p e below s₁ (mkF m 0 #[vi p1, vi p2, vi p3, vi p4, vu, vu, vu, vu, vu] []) _
    refine XS.iloadN X0.here hx rfl (hb hby at_0) rfl ?_
    show own_S p e below s₁ (mkF m 1 #[vi p1, vi p2, vi p3, vi p4, vu, vu, vu, vu, vu] [xi p1]) _
    refine st1 _ ?_
    show own_S p e below T1 (mkF m 4 #[vi p1, vi p2, vi p3, vi p4, vu, vu, vu, vu, vu] [xr u3]) _
    refine XS.astore X1.here hx rfl (hb hby at_4) rfl rfl (l' := #[vi p1, vi p2, vi p3, vi p4, vr u3, vu, vu, vu, vu]) rfl ?_
    show own_S p e below T1 (mkF m 6 #[vi p1, vi p2, vi p3, vi p4, vr u3, vu, vu, vu, vu] []) _
    refine XS.iloadN X1.here hx rfl (hb hby at_6) rfl ?_
    show own_S p e below T1 (mkF m 7 #[vi p1, vi p2, vi p3, vi p4, vr u3, vu, vu, vu, vu] [xi p4]) _
    refine XS.iconst X1.here hx rfl (hb hby at_7) ?_
    show own_S p e below T1 (mkF m 8 #[vi p1, vi p2, vi p3, vi p4, vr u3, vu, vu, vu, vu] [xi (1 : Int32), xi p4]) _
    refine XS.iand X1.here hx rfl (hb hby at_8) rfl ?_
    show own_S p e below T1 (mkF m 9 #[vi p1, vi p2, vi p3, vi p4, vr u3, vu, vu, vu, vu] [xi (p4 &&& (1 : Int32))]) _
    refine castTop (show (mkF m 9 #[vi p1, vi p2, vi p3, vi p4, vr u3, vu, vu, vu, vu] [xi (p4 &&& (1 : Int32))]) = (mkF m 9 #[vi p1, vi p2, vi p3, vi p4, vr u3, vu, vu, vu, vu] [xi (0 : Int32)]) from by rw [as14]) ?_
    show own_S p e below T1 (mkF m 9 #[vi p1, vi p2, vi p3, vi p4, vr u3, vu, vu, vu, vu] [xi (0 : Int32)]) _
    refine XS.ifYes X1.here hx rfl (pc0 := 9) (pc' := 16) rfl (hb hby at_9) rfl (by decide) (by decide) (by decide) ?_
    show own_S p e below T1 (mkF m 16 #[vi p1, vi p2, vi p3, vi p4, vr u3, vu, vu, vu, vu] []) _
    refine XS.iloadN X1.here hx rfl (hb hby at_16) rfl ?_
    show own_S p e below T1 (mkF m 17 #[vi p1, vi p2, vi p3, vi p4, vr u3, vu, vu, vu, vu] [xi p3]) _
    refine XS.istore X1.here hx rfl (hb hby at_17) rfl (l' := #[vi p1, vi p2, vi p3, vi p4, vr u3, vi p3, vu, vu, vu]) rfl ?_
    show own_S p e below T1 (mkF m 19 #[vi p1, vi p2, vi p3, vi p4, vr u3, vi p3, vu, vu, vu] []) _
    refine XS.aload X1.here hx rfl (hb hby at_19) rfl rfl ?_
    show own_S p e below T1 (mkF m 21 #[vi p1, vi p2, vi p3, vi p4, vr u3, vi p3, vu, vu, vu] [xr u3]) _
    refine st2.trans ?_
    show own_S p e below T2 (mkF m 24 #[vi p1, vi p2, vi p3, vi p4, vr u3, vi p3, vu, vu, vu] [xr u2]) _
    refine XS.astore X2.here hx rfl (hb hby at_24) rfl rfl (l' := #[vi p1, vi p2, vi p3, vi p4, vr u3, vi p3, vr u2, vu, vu]) rfl ?_
    show own_S p e below T2 (mkF m 26 #[vi p1, vi p2, vi p3, vi p4, vr u3, vi p3, vr u2, vu, vu] []) _
    refine XS.aload X2.here hx rfl (hb hby at_26) rfl rfl ?_
    show own_S p e below T2 (mkF m 28 #[vi p1, vi p2, vi p3, vi p4, vr u3, vi p3, vr u2, vu, vu] [xr u2]) _
    refine Jvm.Free.XT.nonnullYes X2.here hx rfl (pc0 := 28) (pc' := 33) rfl (hb hby at_28) rfl rfl (by simp) (by decide) (by decide) ?_
    show own_S p e below T2 (mkF m 33 #[vi p1, vi p2, vi p3, vi p4, vr u3, vi p3, vr u2, vu, vu] []) _
    refine XS.aload X2.here hx rfl (hb hby at_33) rfl rfl ?_
    show own_S p e below T2 (mkF m 35 #[vi p1, vi p2, vi p3, vi p4, vr u3, vi p3, vr u2, vu, vu] [xr u3]) _
    refine XS.iloadN X2.here hx rfl (hb hby at_35) rfl ?_
    show own_S p e below T2 (mkF m 36 #[vi p1, vi p2, vi p3, vi p4, vr u3, vi p3, vr u2, vu, vu] [xi p2, xr u3]) _
    refine XS.iload X2.here hx rfl (hb hby at_36) rfl ?_
    show own_S p e below T2 (mkF m 38 #[vi p1, vi p2, vi p3, vi p4, vr u3, vi p3, vr u2, vu, vu] [xi p3, xi p2, xr u3]) _
    refine st3 _ ?_
    show own_S p e below T3 (mkF m 41 #[vi p1, vi p2, vi p3, vi p4, vr u3, vi p3, vr u2, vu, vu] [xi (1 : Int32), xr u3]) _
    refine st4.trans ?_
    show own_S p e below T4 (mkF m 44 #[vi p1, vi p2, vi p3, vi p4, vr u3, vi p3, vr u2, vu, vu] [xi (0 : Int32)]) _
    refine XS.istore X4.here hx rfl (hb hby at_44) rfl (l' := #[vi p1, vi p2, vi p3, vi p4, vr u3, vi p3, vr u2, vi (0 : Int32), vu]) rfl ?_
    show own_S p e below T4 (mkF m 46 #[vi p1, vi p2, vi p3, vi p4, vr u3, vi p3, vr u2, vi (0 : Int32), vu] []) _
    refine XS.aload X4.here hx rfl (hb hby at_46) rfl rfl ?_
    show own_S p e below T4 (mkF m 48 #[vi p1, vi p2, vi p3, vi p4, vr u3, vi p3, vr u2, vi (0 : Int32), vu] [xr u2]) _
    refine XS.iload X4.here hx rfl (hb hby at_48) rfl ?_
    show own_S p e below T4 (mkF m 50 #[vi p1, vi p2, vi p3, vi p4, vr u3, vi p3, vr u2, vi (0 : Int32), vu] [xi p3, xr u2]) _
    refine XS.iloadN X4.here hx rfl (hb hby at_50) rfl ?_
    show own_S p e below T4 (mkF m 51 #[vi p1, vi p2, vi p3, vi p4, vr u3, vi p3, vr u2, vi (0 : Int32), vu] [xi p2, xi p3, xr u2]) _
    refine st5 _ ?_
    show own_S p e below T5 (mkF m 54 #[vi p1, vi p2, vi p3, vi p4, vr u3, vi p3, vr u2, vi (0 : Int32), vu] [xi (-1 : Int32), xr u2]) _
    refine st6.trans ?_
    show own_S p e below T6 (mkF m 57 #[vi p1, vi p2, vi p3, vi p4, vr u3, vi p3, vr u2, vi (0 : Int32), vu] [xi (0 : Int32)]) _
    refine XS.istore X6.here hx rfl (hb hby at_57) rfl (l' := #[vi p1, vi p2, vi p3, vi p4, vr u3, vi p3, vr u2, vi (0 : Int32), vi (0 : Int32)]) rfl ?_
    show own_S p e below T6 (mkF m 59 #[vi p1, vi p2, vi p3, vi p4, vr u3, vi p3, vr u2, vi (0 : Int32), vi (0 : Int32)] []) _
    refine XS.iload X6.here hx rfl (hb hby at_59) rfl ?_
    show own_S p e below T6 (mkF m 61 #[vi p1, vi p2, vi p3, vi p4, vr u3, vi p3, vr u2, vi (0 : Int32), vi (0 : Int32)] [xi (0 : Int32)]) _
    refine XS.iload X6.here hx rfl (hb hby at_61) rfl ?_
    show own_S p e below T6 (mkF m 63 #[vi p1, vi p2, vi p3, vi p4, vr u3, vi p3, vr u2, vi (0 : Int32), vi (0 : Int32)] [xi (0 : Int32), xi (0 : Int32)]) _
    refine XS.icmpNo X6.here hx rfl (hb hby at_63) rfl (by decide) ?_
    show own_S p e below T6 (mkF m 66 #[vi p1, vi p2, vi p3, vi p4, vr u3, vi p3, vr u2, vi (0 : Int32), vi (0 : Int32)] []) _
    refine XS.iconst X6.here hx rfl (hb hby at_66) ?_
    show own_S p e below T6 (mkF m 67 #[vi p1, vi p2, vi p3, vi p4, vr u3, vi p3, vr u2, vi (0 : Int32), vi (0 : Int32)] [xi (1 : Int32)]) _
    refine XS.goto X6.here hx rfl (pc0 := 67) (pc' := 71) rfl (hb hby at_67) (by decide) (by decide) ?_
    show own_S p e below T6 (mkF m 71 #[vi p1, vi p2, vi p3, vi p4, vr u3, vi p3, vr u2, vi (0 : Int32), vi (0 : Int32)] [xi (1 : Int32)]) _
    exact retN X6 hx (t := .boolean) Bd.returns (by simp) (hb hby at_71) hr
  · exact ⟨rfl, N6⟩
theorem ef_own_l11 (m : MethodId) (u0 u1 u2 u3 u4 u5 : Addr) (p1 : Int32) (p2 : Int32) (p3 : Int32) (p4 : Int32) : entryFrame m #[xi p1, xi p2, xi p3, xi p4] maxLocals = (mkF m 0 #[vi p1, vi p2, vi p3, vi p4, vu, vu, vu, vu, vu] []) := by first | (simp [entryFrame, mkF, argsToLocals, Value.category, maxLocals]; done) | rfl
set_option maxRecDepth 65536 in
set_option maxHeartbeats 40000000 in
theorem own_l11 (l : Launch) (Z : State) (a0 : Array Value) (hw : ∀ d ∈ tables_1, d.before a0 Z = true) (u0 u1 u2 u3 u4 u5 : Addr) (G : own_St Z u0 u1 u2 u3 u4 u5) (p1 : Int32) (p2 : Int32) (p3 : Int32) (p4 : Int32) (as10 : ((p1 &&& (2147483647 : Int32)) - ((p1 &&& (2147483647 : Int32)) / (6 : Int32)) * (6 : Int32)) = (2 : Int32)) (as15 : (p4 &&& (1 : Int32)) = (1 : Int32)) (h0 : Heap) (n0 : Nat) (O0 : Old Z n0 h0) : own_Met l Z x code maxLocals ret room_1 #[xi p1, xi p2, xi p3, xi p4] h0 (own_QL (some (xi (1 : Int32))) n0) := by
  intro ws
  refine MetFree.of_bodySF (plainFor_of_name pn0) hisR ?_
  intro p e s m args below meth c s₁ Bd hml0 hP hK
  obtain ⟨rfl, hZ, hh⟩ := hP
  have hx := Bd.exec
  have hby := Bd.bytes
  have hml : c.maxLocals = 9 := hml0
  have hown : s.vm.findClass "com/example/whyle/whyle/cfa/RelationConversePinLaw" = some m.cls := findClass_of_methodNamed Bd.named
  have hnm := (name_of_methodNamed Bd.named Bd.method).1
  have X0 : Stand p l e room_1 s m #[xi p1, xi p2, xi p3, xi p4] below meth c s₁ [] 0 0 := Stand.of_body Bd
  have e0 : s₁.heap = h0 := by rw [← hh, Bd.state]; rfl
  have N0 := Fr.nil n0
  have pre0 : ∀ t, Steps p.tables e below (s₁.setTop (mkF m 0 #[vi p1, vi p2, vi p3, vi p4, vu, vu, vu, vu, vu] [])) t → Steps p.tables e below (s₁.setTop (entryFrame m #[xi p1, xi p2, xi p3, xi p4] maxLocals)) t := fun t st => castTop (ef_own_l11 m u0 u1 u2 u3 u4 u5 p1 p2 p3 p4) st
  obtain ⟨_, _, ⟨T1, L1, k1, n1⟩, -, X1, ⟨Lc1, hQ1, l1, y1, z1⟩, st1⟩ := Jvm.LawKit.callS X0 hx (y := Y0) hown (mvT hZ (ww hw 0 rfl)) (mvT hZ (ww hw 1 rfl)) (mvT hZ (ww hw 2 rfl)) (mvT hZ (ww hw 3 rfl)) (by decide) (backOf (W := 0) (own_c19_pick l Z a0 hw u0 u1 u2 u3 u4 u5 G p1 as10 h0 n0 O0 []) hZ (ww hw 3 rfl) (ww hw 2 rfl) (by decide) (by decide)) (g := (mkF m 1 #[vi p1, vi p2, vi p3, vi p4, vu, vu, vu, vu, vu] [xi p1])) rfl (by rw [hml]; rfl) (argsL := [xi p1]) (rest := []) (lenOf pd0 rfl) rfl (by show 2 * 0 + _ ≤ _; exact Nat.le_of_eq rfl) (hb hby at_1) (fun _ _ => ⟨rfl, e0, (by decide : 0 + 0 ≤ _), (by decide : 0 + 0 ≤ _)⟩)
  dsimp only [Pt.U, Pt.locs, Pt.cells, Pt.slots] at X1 l1 y1 z1 st1 hQ1
  subst l1 y1 z1
  obtain ⟨rfl, Nq1, e1⟩ := hQ1
  have N1 := Fr.app N0 Nq1
  obtain ⟨cq2, kq2, qa2, qb2, qc2⟩ := isOf hZ e1 ((own_X_u3 G).ext O0.2)
  obtain ⟨_, _, ⟨T2, L2, k2, n2⟩, -, X2, ⟨Lc2, hQ2, l2, y2, z2⟩, st2⟩ := X1.virtualBack hx (y := Y3) (z := Y3) hown (mvT hZ (ww hw 8 rfl)) (mvT hZ (ww hw 9 rfl)) (notFace_of_selects (args := #[]) (mvT hZ (ww hw 11 rfl))) (mvT hZ (ww hw 11 rfl)) (mvT hZ (ww hw 10 rfl)) (by decide) (backOf (W := 0) (own_c20_converse l Z a0 hw u0 u1 u2 u3 u4 u5 G h0 n0 O0 []) hZ (ww hw 12 rfl) (ww hw 6 rfl) (by decide) (by decide)) qa2 qc2 (g := (mkF m 21 #[vi p1, vi p2, vi p3, vi p4, vr u3, vi p2, vu, vu, vu] [xr u3])) rfl (by rw [hml]; rfl) (Steps.refl _) (argsL := []) (rest := []) (lenOf pd2 rfl) rfl (by show 2 * 0 + _ ≤ _; exact Nat.le_of_eq rfl) (hb hby at_21) (fun _ _ => ⟨rfl, e1, (by decide : 0 + 0 ≤ _), (by decide : 0 + 0 ≤ _)⟩)
  dsimp only [Pt.U, Pt.locs, Pt.cells, Pt.slots] at X2 l2 y2 z2 st2 hQ2
  subst l2 y2 z2
  obtain ⟨rfl, Nq2, e2⟩ := hQ2
  have N2 := Fr.app N1 Nq2
  obtain ⟨_, _, ⟨T3, L3, k3, n3⟩, -, X3, ⟨Lc3, hQ3, l3, y3, z3⟩, st3⟩ := Jvm.LawKit.callS X2 hx (y := Y4) hown (mvT hZ (ww hw 23 rfl)) (mvT hZ (ww hw 24 rfl)) (mvT hZ (ww hw 2 rfl)) (mvT hZ (ww hw 25 rfl)) (by decide) (backOf (W := 1) (own_c12_sign l Z a0 hw u0 u1 u2 u3 u4 u5 G p2 h0 n0 O0 []) hZ (ww hw 25 rfl) (ww hw 2 rfl) (by decide) (by decide)) (g := (mkF m 38 #[vi p1, vi p2, vi p3, vi p4, vr u3, vi p2, vr u2, vu, vu] [xi p2, xi p2, xr u3])) rfl (by rw [hml]; rfl) (argsL := [xi p2, xi p2]) (rest := [xr u3]) (lenOf pd3 rfl) rfl (by show 2 * 0 + _ ≤ _; exact Nat.le_of_eq rfl) (hb hby at_38) (fun _ _ => ⟨rfl, e2, (by decide : 0 + 0 ≤ _), (by decide : 0 + 0 ≤ _)⟩)
  dsimp only [Pt.U, Pt.locs, Pt.cells, Pt.slots] at X3 l3 y3 z3 st3 hQ3
  subst l3 y3 z3
  obtain ⟨rfl, Nq3, e3⟩ := hQ3
  have N3 := Fr.app N2 Nq3
  obtain ⟨cq4, kq4, qa4, qb4, qc4⟩ := isOf hZ e3 ((own_X_u3 G).ext O0.2)
  obtain ⟨_, _, ⟨T4, L4, k4, n4⟩, -, X4, ⟨Lc4, hQ4, l4, y4, z4⟩, st4⟩ := X3.virtualBack hx (y := Y5) (z := Y5) hown (mvT hZ (ww hw 26 rfl)) (mvT hZ (ww hw 27 rfl)) (notFace_of_selects (args := #[]) (mvT hZ (ww hw 29 rfl))) (mvT hZ (ww hw 29 rfl)) (mvT hZ (ww hw 28 rfl)) (by decide) (backOf (W := 0) (own_c25_holds l Z a0 hw u0 u1 u2 u3 u4 u5 G h0 n0 O0 []) hZ (ww hw 30 rfl) (ww hw 6 rfl) (by decide) (by decide)) qa4 qc4 (g := (mkF m 41 #[vi p1, vi p2, vi p3, vi p4, vr u3, vi p2, vr u2, vu, vu] [xi (0 : Int32), xr u3])) rfl (by rw [hml]; rfl) (Steps.refl _) (argsL := [xi (0 : Int32)]) (rest := []) (lenOf pd4 rfl) rfl (by show 2 * 0 + _ ≤ _; exact Nat.le_of_eq rfl) (hb hby at_41) (fun _ _ => ⟨rfl, e3, (by decide : 0 + 0 ≤ _), (by decide : 0 + 0 ≤ _)⟩)
  dsimp only [Pt.U, Pt.locs, Pt.cells, Pt.slots] at X4 l4 y4 z4 st4 hQ4
  subst l4 y4 z4
  obtain ⟨rfl, Nq4, e4⟩ := hQ4
  have N4 := Fr.app N3 Nq4
  obtain ⟨_, _, ⟨T5, L5, k5, n5⟩, -, X5, ⟨Lc5, hQ5, l5, y5, z5⟩, st5⟩ := Jvm.LawKit.callS X4 hx (y := Y4) hown (mvT hZ (ww hw 23 rfl)) (mvT hZ (ww hw 24 rfl)) (mvT hZ (ww hw 2 rfl)) (mvT hZ (ww hw 25 rfl)) (by decide) (backOf (W := 1) (own_c12_sign l Z a0 hw u0 u1 u2 u3 u4 u5 G p2 h0 n0 O0 []) hZ (ww hw 25 rfl) (ww hw 2 rfl) (by decide) (by decide)) (g := (mkF m 51 #[vi p1, vi p2, vi p3, vi p4, vr u3, vi p2, vr u2, vi (0 : Int32), vu] [xi p2, xi p2, xr u2])) rfl (by rw [hml]; rfl) (argsL := [xi p2, xi p2]) (rest := [xr u2]) (lenOf pd3 rfl) rfl (by show 2 * 0 + _ ≤ _; exact Nat.le_of_eq rfl) (hb hby at_51) (fun _ _ => ⟨rfl, e4, (by decide : 0 + 0 ≤ _), (by decide : 0 + 0 ≤ _)⟩)
  dsimp only [Pt.U, Pt.locs, Pt.cells, Pt.slots] at X5 l5 y5 z5 st5 hQ5
  subst l5 y5 z5
  obtain ⟨rfl, Nq5, e5⟩ := hQ5
  have N5 := Fr.app N4 Nq5
  obtain ⟨cq6, kq6, qa6, qb6, qc6⟩ := isOf hZ e5 ((own_X_u2 G).ext O0.2)
  obtain ⟨_, _, ⟨T6, L6, k6, n6⟩, -, X6, ⟨Lc6, hQ6, l6, y6, z6⟩, st6⟩ := X5.virtualBack hx (y := Y5) (z := Y5) hown (mvT hZ (ww hw 26 rfl)) (mvT hZ (ww hw 27 rfl)) (notFace_of_selects (args := #[]) (mvT hZ (ww hw 29 rfl))) (mvT hZ (ww hw 29 rfl)) (mvT hZ (ww hw 28 rfl)) (by decide) (backOf (W := 0) (own_c26_holds l Z a0 hw u0 u1 u2 u3 u4 u5 G h0 n0 O0 []) hZ (ww hw 30 rfl) (ww hw 6 rfl) (by decide) (by decide)) qa6 qc6 (g := (mkF m 54 #[vi p1, vi p2, vi p3, vi p4, vr u3, vi p2, vr u2, vi (0 : Int32), vu] [xi (0 : Int32), xr u2])) rfl (by rw [hml]; rfl) (Steps.refl _) (argsL := [xi (0 : Int32)]) (rest := []) (lenOf pd4 rfl) rfl (by show 2 * 0 + _ ≤ _; exact Nat.le_of_eq rfl) (hb hby at_54) (fun _ _ => ⟨rfl, e5, (by decide : 0 + 0 ≤ _), (by decide : 0 + 0 ≤ _)⟩)
  dsimp only [Pt.U, Pt.locs, Pt.cells, Pt.slots] at X6 l6 y6 z6 st6 hQ6
  subst l6 y6 z6
  obtain ⟨rfl, Nq6, e6⟩ := hQ6
  have N6 := Fr.app N5 Nq6
  obtain ⟨fs, hr, hrun, hended, hW, hsame⟩ := X6.leave (v := some (xi (1 : Int32))) (fun h => by rw [Bd.returns] at h; cases h)
  refine ⟨_, _, pre0 _ ?_, hrun, hended, _, _, rfl, ?_, ⟨_, rfl⟩, hW, hsame.mono (by decide) (by decide)⟩
  · show own_S p e below s₁ (mkF m 0 #[vi p1, vi p2, vi p3, vi p4, vu, vu, vu, vu, vu] []) _
    refine XS.iloadN X0.here hx rfl (hb hby at_0) rfl ?_
    show own_S p e below s₁ (mkF m 1 #[vi p1, vi p2, vi p3, vi p4, vu, vu, vu, vu, vu] [xi p1]) _
    refine st1 _ ?_
    show own_S p e below T1 (mkF m 4 #[vi p1, vi p2, vi p3, vi p4, vu, vu, vu, vu, vu] [xr u3]) _
    refine XS.astore X1.here hx rfl (hb hby at_4) rfl rfl (l' := #[vi p1, vi p2, vi p3, vi p4, vr u3, vu, vu, vu, vu]) rfl ?_
    show own_S p e below T1 (mkF m 6 #[vi p1, vi p2, vi p3, vi p4, vr u3, vu, vu, vu, vu] []) _
    refine XS.iloadN X1.here hx rfl (hb hby at_6) rfl ?_
    show own_S p e below T1 (mkF m 7 #[vi p1, vi p2, vi p3, vi p4, vr u3, vu, vu, vu, vu] [xi p4]) _
    refine XS.iconst X1.here hx rfl (hb hby at_7) ?_
    show own_S p e below T1 (mkF m 8 #[vi p1, vi p2, vi p3, vi p4, vr u3, vu, vu, vu, vu] [xi (1 : Int32), xi p4]) _
    refine XS.iand X1.here hx rfl (hb hby at_8) rfl ?_
    show own_S p e below T1 (mkF m 9 #[vi p1, vi p2, vi p3, vi p4, vr u3, vu, vu, vu, vu] [xi (p4 &&& (1 : Int32))]) _
    refine castTop (show (mkF m 9 #[vi p1, vi p2, vi p3, vi p4, vr u3, vu, vu, vu, vu] [xi (p4 &&& (1 : Int32))]) = (mkF m 9 #[vi p1, vi p2, vi p3, vi p4, vr u3, vu, vu, vu, vu] [xi (1 : Int32)]) from by rw [as15]) ?_
    show own_S p e below T1 (mkF m 9 #[vi p1, vi p2, vi p3, vi p4, vr u3, vu, vu, vu, vu] [xi (1 : Int32)]) _
    refine XS.ifNo X1.here hx rfl (hb hby at_9) rfl (by decide) ?_
    show own_S p e below T1 (mkF m 12 #[vi p1, vi p2, vi p3, vi p4, vr u3, vu, vu, vu, vu] []) _
    refine XS.iloadN X1.here hx rfl (hb hby at_12) rfl ?_
    show own_S p e below T1 (mkF m 13 #[vi p1, vi p2, vi p3, vi p4, vr u3, vu, vu, vu, vu] [xi p2]) _
    refine XS.goto X1.here hx rfl (pc0 := 13) (pc' := 17) rfl (hb hby at_13) (by decide) (by decide) ?_
    show own_S p e below T1 (mkF m 17 #[vi p1, vi p2, vi p3, vi p4, vr u3, vu, vu, vu, vu] [xi p2]) _
    refine XS.istore X1.here hx rfl (hb hby at_17) rfl (l' := #[vi p1, vi p2, vi p3, vi p4, vr u3, vi p2, vu, vu, vu]) rfl ?_
    show own_S p e below T1 (mkF m 19 #[vi p1, vi p2, vi p3, vi p4, vr u3, vi p2, vu, vu, vu] []) _
    refine XS.aload X1.here hx rfl (hb hby at_19) rfl rfl ?_
    show own_S p e below T1 (mkF m 21 #[vi p1, vi p2, vi p3, vi p4, vr u3, vi p2, vu, vu, vu] [xr u3]) _
    refine st2.trans ?_
    show own_S p e below T2 (mkF m 24 #[vi p1, vi p2, vi p3, vi p4, vr u3, vi p2, vu, vu, vu] [xr u2]) _
    refine XS.astore X2.here hx rfl (hb hby at_24) rfl rfl (l' := #[vi p1, vi p2, vi p3, vi p4, vr u3, vi p2, vr u2, vu, vu]) rfl ?_
    show own_S p e below T2 (mkF m 26 #[vi p1, vi p2, vi p3, vi p4, vr u3, vi p2, vr u2, vu, vu] []) _
    refine XS.aload X2.here hx rfl (hb hby at_26) rfl rfl ?_
    show own_S p e below T2 (mkF m 28 #[vi p1, vi p2, vi p3, vi p4, vr u3, vi p2, vr u2, vu, vu] [xr u2]) _
    refine Jvm.Free.XT.nonnullYes X2.here hx rfl (pc0 := 28) (pc' := 33) rfl (hb hby at_28) rfl rfl (by simp) (by decide) (by decide) ?_
    show own_S p e below T2 (mkF m 33 #[vi p1, vi p2, vi p3, vi p4, vr u3, vi p2, vr u2, vu, vu] []) _
    refine XS.aload X2.here hx rfl (hb hby at_33) rfl rfl ?_
    show own_S p e below T2 (mkF m 35 #[vi p1, vi p2, vi p3, vi p4, vr u3, vi p2, vr u2, vu, vu] [xr u3]) _
    refine XS.iloadN X2.here hx rfl (hb hby at_35) rfl ?_
    show own_S p e below T2 (mkF m 36 #[vi p1, vi p2, vi p3, vi p4, vr u3, vi p2, vr u2, vu, vu] [xi p2, xr u3]) _
    refine XS.iload X2.here hx rfl (hb hby at_36) rfl ?_
    show own_S p e below T2 (mkF m 38 #[vi p1, vi p2, vi p3, vi p4, vr u3, vi p2, vr u2, vu, vu] [xi p2, xi p2, xr u3]) _
    refine st3 _ ?_
    show own_S p e below T3 (mkF m 41 #[vi p1, vi p2, vi p3, vi p4, vr u3, vi p2, vr u2, vu, vu] [xi (0 : Int32), xr u3]) _
    refine st4.trans ?_
    show own_S p e below T4 (mkF m 44 #[vi p1, vi p2, vi p3, vi p4, vr u3, vi p2, vr u2, vu, vu] [xi (0 : Int32)]) _
    refine XS.istore X4.here hx rfl (hb hby at_44) rfl (l' := #[vi p1, vi p2, vi p3, vi p4, vr u3, vi p2, vr u2, vi (0 : Int32), vu]) rfl ?_
    show own_S p e below T4 (mkF m 46 #[vi p1, vi p2, vi p3, vi p4, vr u3, vi p2, vr u2, vi (0 : Int32), vu] []) _
    refine XS.aload X4.here hx rfl (hb hby at_46) rfl rfl ?_
    show own_S p e below T4 (mkF m 48 #[vi p1, vi p2, vi p3, vi p4, vr u3, vi p2, vr u2, vi (0 : Int32), vu] [xr u2]) _
    refine XS.iload X4.here hx rfl (hb hby at_48) rfl ?_
    show own_S p e below T4 (mkF m 50 #[vi p1, vi p2, vi p3, vi p4, vr u3, vi p2, vr u2, vi (0 : Int32), vu] [xi p2, xr u2]) _
    refine XS.iloadN X4.here hx rfl (hb hby at_50) rfl ?_
    show own_S p e below T4 (mkF m 51 #[vi p1, vi p2, vi p3, vi p4, vr u3, vi p2, vr u2, vi (0 : Int32), vu] [xi p2, xi p2, xr u2]) _
    refine st5 _ ?_
    show own_S p e below T5 (mkF m 54 #[vi p1, vi p2, vi p3, vi p4, vr u3, vi p2, vr u2, vi (0 : Int32), vu] [xi (0 : Int32), xr u2]) _
    refine st6.trans ?_
    show own_S p e below T6 (mkF m 57 #[vi p1, vi p2, vi p3, vi p4, vr u3, vi p2, vr u2, vi (0 : Int32), vu] [xi (0 : Int32)]) _
    refine XS.istore X6.here hx rfl (hb hby at_57) rfl (l' := #[vi p1, vi p2, vi p3, vi p4, vr u3, vi p2, vr u2, vi (0 : Int32), vi (0 : Int32)]) rfl ?_
    show own_S p e below T6 (mkF m 59 #[vi p1, vi p2, vi p3, vi p4, vr u3, vi p2, vr u2, vi (0 : Int32), vi (0 : Int32)] []) _
    refine XS.iload X6.here hx rfl (hb hby at_59) rfl ?_
    show own_S p e below T6 (mkF m 61 #[vi p1, vi p2, vi p3, vi p4, vr u3, vi p2, vr u2, vi (0 : Int32), vi (0 : Int32)] [xi (0 : Int32)]) _
    refine XS.iload X6.here hx rfl (hb hby at_61) rfl ?_
    show own_S p e below T6 (mkF m 63 #[vi p1, vi p2, vi p3, vi p4, vr u3, vi p2, vr u2, vi (0 : Int32), vi (0 : Int32)] [xi (0 : Int32), xi (0 : Int32)]) _
    refine XS.icmpNo X6.here hx rfl (hb hby at_63) rfl (by decide) ?_
    show own_S p e below T6 (mkF m 66 #[vi p1, vi p2, vi p3, vi p4, vr u3, vi p2, vr u2, vi (0 : Int32), vi (0 : Int32)] []) _
    refine XS.iconst X6.here hx rfl (hb hby at_66) ?_
    show own_S p e below T6 (mkF m 67 #[vi p1, vi p2, vi p3, vi p4, vr u3, vi p2, vr u2, vi (0 : Int32), vi (0 : Int32)] [xi (1 : Int32)]) _
    refine XS.goto X6.here hx rfl (pc0 := 67) (pc' := 71) rfl (hb hby at_67) (by decide) (by decide) ?_
    show own_S p e below T6 (mkF m 71 #[vi p1, vi p2, vi p3, vi p4, vr u3, vi p2, vr u2, vi (0 : Int32), vi (0 : Int32)] [xi (1 : Int32)]) _
    exact retN X6 hx (t := .boolean) Bd.returns (by simp) (hb hby at_71) hr
  · exact ⟨rfl, N6⟩
theorem d1_34 : decode method_2_code 34 = .ok (.iload_n 1, 1) := by decide +kernel
theorem d1_35 : decode method_2_code 35 = .ok (.iconst 3, 1) := by decide +kernel
theorem d1_36 : decode method_2_code 36 = .ok (.if_icmp .ne 7, 3) := by decide +kernel
theorem d1_39 : decode method_2_code 39 = .ok (.getstatic 20, 3) := by decide +kernel
theorem d1_42 : decode method_2_code 42 = .ok (.areturn, 1) := by decide +kernel
theorem ef_own_c29_pick (m : MethodId) (u0 u1 u2 u3 u4 u5 : Addr) (p1 : Int32) : entryFrame m #[xi p1] 2 = (mkF m 0 #[vi p1, vu] []) := by first | (simp [entryFrame, mkF, argsToLocals, Value.category]; done) | rfl
set_option maxRecDepth 65536 in
set_option maxHeartbeats 40000000 in
theorem own_c29_pick (l : Launch) (Z : State) (a0 : Array Value) (hw : ∀ d ∈ tables_1, d.before a0 Z = true) (u0 u1 u2 u3 u4 u5 : Addr) (G : own_St Z u0 u1 u2 u3 u4 u5) (p1 : Int32) (as11 : ((p1 &&& (2147483647 : Int32)) - ((p1 &&& (2147483647 : Int32)) / (6 : Int32)) * (6 : Int32)) = (3 : Int32)) (h0 : Heap) (n0 : Nat) (O0 : Old Z n0 h0) : own_Met l Z Y0 method_2_code 2 (some (.object "com/example/whyle/whyle/cfa/Relation")) ({ frames := 0, cells := 0, slots := 0, locals := 0 } : Room) #[xi p1] h0 (own_QR (some (xr u4)) h0 n0) := by
  intro ws
  refine MetFree.of_bodySF (plainFor_of_name pn0) hisR ?_
  intro p e s m args below meth c s₁ Bd hml0 hP hK
  obtain ⟨rfl, hZ, hh⟩ := hP
  have hx := Bd.exec
  have hby := Bd.bytes
  have hml : c.maxLocals = 2 := hml0
  have hown : s.vm.findClass "com/example/whyle/whyle/cfa/RelationConversePinLaw" = some m.cls := findClass_of_methodNamed Bd.named
  have hnm := (name_of_methodNamed Bd.named Bd.method).1
  have X0 : Stand p l e ({ frames := 0, cells := 0, slots := 0, locals := 0 } : Room) s m #[xi p1] below meth c s₁ [] 0 0 := Stand.of_body Bd
  have e0 : s₁.heap = h0 := by rw [← hh, Bd.state]; rfl
  have N0 := Fr.nil n0
  have pre0 : ∀ t, Steps p.tables e below (s₁.setTop (mkF m 0 #[vi p1, vu] [])) t → Steps p.tables e below (s₁.setTop (entryFrame m #[xi p1] 2)) t := fun t st => castTop (ef_own_c29_pick m u0 u1 u2 u3 u4 u5 p1) st
  obtain ⟨T1, X1, e1, st1⟩ := getS2 X0 hx hZ hown (host := "") (Or.inl (ww hw 38 rfl)) Via.refl e0 ((own_S_u4 G).ext O0.2) (g := (mkF m 39 #[vi p1, vi (3 : Int32)] [])) rfl (hb hby d1_39)
  obtain ⟨fs, hr, hrun, hended, hW, hsame⟩ := X1.leave (v := some (xr u4)) (fun h => by rw [Bd.returns] at h; cases h)
  refine ⟨_, _, pre0 _ ?_, hrun, hended, _, _, rfl, ?_, ⟨_, rfl⟩, hW, hsame.mono (by decide) (by decide)⟩
  · show own_S p e below s₁ (mkF m 0 #[vi p1, vu] []) _
    refine XS.iloadN X0.here hx rfl (hb hby d1_0) rfl ?_
    show own_S p e below s₁ (mkF m 1 #[vi p1, vu] [xi p1]) _
    refine X0.ldcI hx hown (mvT hZ (ww hw 4 rfl)) (g := (mkF m 1 #[vi p1, vu] [xi p1])) rfl (hb hby d1_1) ?_
    show own_S p e below s₁ (mkF m 3 #[vi p1, vu] [xi (2147483647 : Int32), xi p1]) _
    refine XS.iand X0.here hx rfl (hb hby d1_3) rfl ?_
    show own_S p e below s₁ (mkF m 4 #[vi p1, vu] [xi (p1 &&& (2147483647 : Int32))]) _
    show own_S p e below s₁ (mkF m 4 #[vi p1, vu] [xi (p1 &&& (2147483647 : Int32))]) _
    refine XS.bipush X0.here hx rfl (hb hby d1_4) ?_
    show own_S p e below s₁ (mkF m 6 #[vi p1, vu] [xi (6 : Int32), xi (p1 &&& (2147483647 : Int32))]) _
    refine XS.irem X0.here hx rfl (hb hby d1_6) rfl (by decide) ?_
    show own_S p e below s₁ (mkF m 7 #[vi p1, vu] [xi ((p1 &&& (2147483647 : Int32)) - ((p1 &&& (2147483647 : Int32)) / (6 : Int32)) * (6 : Int32))]) _
    refine castTop (show (mkF m 7 #[vi p1, vu] [xi ((p1 &&& (2147483647 : Int32)) - ((p1 &&& (2147483647 : Int32)) / (6 : Int32)) * (6 : Int32))]) = (mkF m 7 #[vi p1, vu] [xi (3 : Int32)]) from by rw [as11]) ?_
    show own_S p e below s₁ (mkF m 7 #[vi p1, vu] [xi (3 : Int32)]) _
    refine XS.istoreN X0.here hx rfl (hb hby d1_7) rfl (l' := #[vi p1, vi (3 : Int32)]) rfl ?_
    show own_S p e below s₁ (mkF m 8 #[vi p1, vi (3 : Int32)] []) _
    refine XS.iloadN X0.here hx rfl (hb hby d1_8) rfl ?_
    show own_S p e below s₁ (mkF m 9 #[vi p1, vi (3 : Int32)] [xi (3 : Int32)]) _
    refine XS.ifYes X0.here hx rfl (pc0 := 9) (pc' := 16) rfl (hb hby d1_9) rfl (by decide) (by decide) (by decide) ?_
    show own_S p e below s₁ (mkF m 16 #[vi p1, vi (3 : Int32)] []) _
    refine XS.iloadN X0.here hx rfl (hb hby d1_16) rfl ?_
    show own_S p e below s₁ (mkF m 17 #[vi p1, vi (3 : Int32)] [xi (3 : Int32)]) _
    refine XS.iconst X0.here hx rfl (hb hby d1_17) ?_
    show own_S p e below s₁ (mkF m 18 #[vi p1, vi (3 : Int32)] [xi (1 : Int32), xi (3 : Int32)]) _
    refine XS.icmpYes X0.here hx rfl (pc0 := 18) (pc' := 25) rfl (hb hby d1_18) rfl (by decide) (by decide) (by decide) ?_
    show own_S p e below s₁ (mkF m 25 #[vi p1, vi (3 : Int32)] []) _
    refine XS.iloadN X0.here hx rfl (hb hby d1_25) rfl ?_
    show own_S p e below s₁ (mkF m 26 #[vi p1, vi (3 : Int32)] [xi (3 : Int32)]) _
    refine XS.iconst X0.here hx rfl (hb hby d1_26) ?_
    show own_S p e below s₁ (mkF m 27 #[vi p1, vi (3 : Int32)] [xi (2 : Int32), xi (3 : Int32)]) _
    refine XS.icmpYes X0.here hx rfl (pc0 := 27) (pc' := 34) rfl (hb hby d1_27) rfl (by decide) (by decide) (by decide) ?_
    show own_S p e below s₁ (mkF m 34 #[vi p1, vi (3 : Int32)] []) _
    refine XS.iloadN X0.here hx rfl (hb hby d1_34) rfl ?_
    show own_S p e below s₁ (mkF m 35 #[vi p1, vi (3 : Int32)] [xi (3 : Int32)]) _
    refine XS.iconst X0.here hx rfl (hb hby d1_35) ?_
    show own_S p e below s₁ (mkF m 36 #[vi p1, vi (3 : Int32)] [xi (3 : Int32), xi (3 : Int32)]) _
    refine XS.icmpNo X0.here hx rfl (hb hby d1_36) rfl (by decide) ?_
    show own_S p e below s₁ (mkF m 39 #[vi p1, vi (3 : Int32)] []) _
    refine st1 _ ?_
    show own_S p e below T1 (mkF m 42 #[vi p1, vi (3 : Int32)] [xr u4]) _
    exact X1.areturnOut hx rfl Bd.returns rfl (hb hby d1_42) hr
  · exact ⟨rfl, N0, e1⟩
theorem ef_own_c30_ordinal (m : MethodId) (u0 u1 u2 u3 u4 u5 : Addr) : entryFrame m #[xr u4] 1 = (mkF m 0 #[vr u4] []) := by first | (simp [entryFrame, mkF, argsToLocals, Value.category]; done) | rfl
set_option maxRecDepth 65536 in
set_option maxHeartbeats 40000000 in
theorem own_c30_ordinal (l : Launch) (Z : State) (a0 : Array Value) (hw : ∀ d ∈ tables_1, d.before a0 Z = true) (u0 u1 u2 u3 u4 u5 : Addr) (G : own_St Z u0 u1 u2 u3 u4 u5) (h0 : Heap) (n0 : Nat) (O0 : Old Z n0 h0) : own_Met l Z Y1 jdk_37_method_2_code 1 (some .int) ({ frames := 0, cells := 0, slots := 0, locals := 0 } : Room) #[xr u4] h0 (own_QR (some (xi (3 : Int32))) h0 n0) := by
  intro ws
  refine MetFree.of_bodySF (plainFor_of_name pn1) hisR ?_
  intro p e s m args below meth c s₁ Bd hml0 hP hK
  obtain ⟨rfl, hZ, hh⟩ := hP
  have hx := Bd.exec
  have hby := Bd.bytes
  have hml : c.maxLocals = 1 := hml0
  have hown : s.vm.findClass "java/lang/Enum" = some m.cls := findClass_of_methodNamed Bd.named
  have hnm := (name_of_methodNamed Bd.named Bd.method).1
  have X0 : Stand p l e ({ frames := 0, cells := 0, slots := 0, locals := 0 } : Room) s m #[xr u4] below meth c s₁ [] 0 0 := Stand.of_body Bd
  have e0 : s₁.heap = h0 := by rw [← hh, Bd.state]; rfl
  have N0 := Fr.nil n0
  have pre0 : ∀ t, Steps p.tables e below (s₁.setTop (mkF m 0 #[vr u4] [])) t → Steps p.tables e below (s₁.setTop (entryFrame m #[xr u4] 1)) t := fun t st => castTop (ef_own_c30_ordinal m u0 u1 u2 u3 u4 u5) st
  obtain ⟨T1, X1, e1, st1⟩ := getF X0 hx hZ hown (host := "") (Or.inl (ww hw 20 rfl)) Via.refl e0 ((own_F_u4_ordinal G).ext O0.2) (g := (mkF m 1 #[vr u4] [xr u4])) rfl rfl (hb hby d3_1)
  obtain ⟨fs, hr, hrun, hended, hW, hsame⟩ := X1.leave (v := some (xi (3 : Int32))) (fun h => by rw [Bd.returns] at h; cases h)
  refine ⟨_, _, pre0 _ ?_, hrun, hended, _, _, rfl, ?_, ⟨_, rfl⟩, hW, hsame.mono (by decide) (by decide)⟩
  · show own_S p e below s₁ (mkF m 0 #[vr u4] []) _
    refine XS.aloadN X0.here hx rfl (hb hby d3_0) rfl rfl ?_
    show own_S p e below s₁ (mkF m 1 #[vr u4] [xr u4]) _
    refine st1 _ ?_
    show own_S p e below T1 (mkF m 4 #[vr u4] [xi (3 : Int32)]) _
    exact retI X1 hx Bd.returns (hb hby d3_4) hr
  · exact ⟨rfl, N0, e1⟩
theorem d2_72 : decode prog_62_method_7_code 72 = .ok (.getstatic 19, 3) := by decide +kernel
theorem d2_75 : decode prog_62_method_7_code 75 = .ok (.goto 12, 3) := by decide +kernel
theorem ef_own_c30_converse (m : MethodId) (u0 u1 u2 u3 u4 u5 : Addr) : entryFrame m #[xr u4] 1 = (mkF m 0 #[vr u4] []) := by first | (simp [entryFrame, mkF, argsToLocals, Value.category]; done) | rfl
set_option maxRecDepth 65536 in
set_option maxHeartbeats 40000000 in
theorem own_c30_converse (l : Launch) (Z : State) (a0 : Array Value) (hw : ∀ d ∈ tables_1, d.before a0 Z = true) (u0 u1 u2 u3 u4 u5 : Addr) (G : own_St Z u0 u1 u2 u3 u4 u5) (h0 : Heap) (n0 : Nat) (O0 : Old Z n0 h0) : own_Met l Z Y3 prog_62_method_7_code 1 (some (.object "com/example/whyle/whyle/cfa/Relation")) ({ frames := 1, cells := 0, slots := 0, locals := 12 } : Room) #[xr u4] h0 (own_QR (some (xr u5)) h0 n0) := by
  intro ws
  refine MetFree.of_bodySF (plainFor_of_name pn2) hisR ?_
  intro p e s m args below meth c s₁ Bd hml0 hP hK
  obtain ⟨rfl, hZ, hh⟩ := hP
  have hx := Bd.exec
  have hby := Bd.bytes
  have hml : c.maxLocals = 1 := hml0
  have hown : s.vm.findClass "com/example/whyle/whyle/cfa/Relation" = some m.cls := findClass_of_methodNamed Bd.named
  have hnm := (name_of_methodNamed Bd.named Bd.method).1
  have X0 : Stand p l e ({ frames := 1, cells := 0, slots := 0, locals := 12 } : Room) s m #[xr u4] below meth c s₁ [] 0 0 := Stand.of_body Bd
  have e0 : s₁.heap = h0 := by rw [← hh, Bd.state]; rfl
  have N0 := Fr.nil n0
  have pre0 : ∀ t, Steps p.tables e below (s₁.setTop (mkF m 0 #[vr u4] [])) t → Steps p.tables e below (s₁.setTop (entryFrame m #[xr u4] 1)) t := fun t st => castTop (ef_own_c30_converse m u0 u1 u2 u3 u4 u5) st
  obtain ⟨cq1, kq1, qa1, qb1, qc1⟩ := isOf hZ e0 ((own_X_u4 G).ext O0.2)
  obtain ⟨_, _, ⟨T1, L1, k1, n1⟩, -, X1, ⟨Lc1, hQ1, l1, y1, z1⟩, st1⟩ := X0.virtualBackUp hx (x := Y2) (y := Y1) hown (mvT hZ (ww hw 13 rfl)) (mvT hZ (ww hw 14 rfl)) (mvT hZ (ww hw 15 rfl)) (by decide) (mvT hZ (ww hw 17 rfl)) (mvT hZ (ww hw 16 rfl)) (backOf (W := 0) (own_c30_ordinal l Z a0 hw u0 u1 u2 u3 u4 u5 G h0 n0 O0 []) hZ (ww hw 19 rfl) (ww hw 18 rfl) (by decide) (by decide)) qa1 qc1 (g := (mkF m 1 #[vr u4] [xr u4])) rfl (by rw [hml]; rfl) (Steps.refl _) (argsL := []) (rest := []) (lenOf pd1 rfl) rfl (by show 2 * 0 + _ ≤ _; exact Nat.le_of_eq rfl) (hb hby d2_1) (fun _ _ => ⟨rfl, e0, (by decide : 0 + 0 ≤ _), (by decide : 0 + 0 ≤ _)⟩)
  dsimp only [Pt.U, Pt.locs, Pt.cells, Pt.slots] at X1 l1 y1 z1 st1 hQ1
  subst l1 y1 z1
  obtain ⟨rfl, Nq1, e1⟩ := hQ1
  have N1 := Fr.app N0 Nq1
  obtain ⟨T2, X2, e2, st2⟩ := getS2 X1 hx hZ hown (host := "") (Or.inl (ww hw 40 rfl)) Via.refl e1 ((own_S_u5 G).ext O0.2) (g := (mkF m 72 #[vr u4] [])) rfl (hb hby d2_72)
  obtain ⟨fs, hr, hrun, hended, hW, hsame⟩ := X2.leave (v := some (xr u5)) (fun h => by rw [Bd.returns] at h; cases h)
  refine ⟨_, _, pre0 _ ?_, hrun, hended, _, _, rfl, ?_, ⟨_, rfl⟩, hW, hsame.mono (by decide) (by decide)⟩
  · show own_S p e below s₁ (mkF m 0 #[vr u4] []) _
    refine XS.aloadN X0.here hx rfl (hb hby d2_0) rfl rfl ?_
    show own_S p e below s₁ (mkF m 1 #[vr u4] [xr u4]) _
    refine st1.trans ?_
    show own_S p e below T1 (mkF m 4 #[vr u4] [xi (3 : Int32)]) _
    refine XS.tswIn X1.here hx rfl (pc0 := 4) (pc' := 72) (o := 68) rfl (hb hby d2_4) rfl (by decide) (by decide) (by decide) (by decide) ?_
    show own_S p e below T1 (mkF m 72 #[vr u4] []) _
    refine st2 _ ?_
    show own_S p e below T2 (mkF m 75 #[vr u4] [xr u5]) _
    refine XS.goto X2.here hx rfl (pc0 := 75) (pc' := 87) rfl (hb hby d2_75) (by decide) (by decide) ?_
    show own_S p e below T2 (mkF m 87 #[vr u4] [xr u5]) _
    exact X2.areturnOut hx rfl Bd.returns rfl (hb hby d2_87) hr
  · exact ⟨rfl, N1, e2⟩
theorem d5_90 : decode prog_62_method_8_code 90 = .ok (.iload_n 1, 1) := by decide +kernel
theorem d5_91 : decode prog_62_method_8_code 91 = .ok (.ifCond .gt 7, 3) := by decide +kernel
theorem d5_94 : decode prog_62_method_8_code 94 = .ok (.iconst 1, 1) := by decide +kernel
theorem d5_95 : decode prog_62_method_8_code 95 = .ok (.goto 28, 3) := by decide +kernel
theorem ef_own_c32_holds (m : MethodId) (u0 u1 u2 u3 u4 u5 : Addr) : entryFrame m #[xr u4, xi (-1 : Int32)] 2 = (mkF m 0 #[vr u4, vi (-1 : Int32)] []) := by first | (simp [entryFrame, mkF, argsToLocals, Value.category]; done) | rfl
set_option maxRecDepth 65536 in
set_option maxHeartbeats 40000000 in
theorem own_c32_holds (l : Launch) (Z : State) (a0 : Array Value) (hw : ∀ d ∈ tables_1, d.before a0 Z = true) (u0 u1 u2 u3 u4 u5 : Addr) (G : own_St Z u0 u1 u2 u3 u4 u5) (h0 : Heap) (n0 : Nat) (O0 : Old Z n0 h0) : own_Met l Z Y5 prog_62_method_8_code 2 (some .boolean) ({ frames := 1, cells := 0, slots := 0, locals := 12 } : Room) #[xr u4, xi (-1 : Int32)] h0 (own_QR (some (xi (1 : Int32))) h0 n0) := by
  intro ws
  refine MetFree.of_bodySF (plainFor_of_name pn2) hisR ?_
  intro p e s m args below meth c s₁ Bd hml0 hP hK
  obtain ⟨rfl, hZ, hh⟩ := hP
  have hx := Bd.exec
  have hby := Bd.bytes
  have hml : c.maxLocals = 2 := hml0
  have hown : s.vm.findClass "com/example/whyle/whyle/cfa/Relation" = some m.cls := findClass_of_methodNamed Bd.named
  have hnm := (name_of_methodNamed Bd.named Bd.method).1
  have X0 : Stand p l e ({ frames := 1, cells := 0, slots := 0, locals := 12 } : Room) s m #[xr u4, xi (-1 : Int32)] below meth c s₁ [] 0 0 := Stand.of_body Bd
  have e0 : s₁.heap = h0 := by rw [← hh, Bd.state]; rfl
  have N0 := Fr.nil n0
  have pre0 : ∀ t, Steps p.tables e below (s₁.setTop (mkF m 0 #[vr u4, vi (-1 : Int32)] [])) t → Steps p.tables e below (s₁.setTop (entryFrame m #[xr u4, xi (-1 : Int32)] 2)) t := fun t st => castTop (ef_own_c32_holds m u0 u1 u2 u3 u4 u5) st
  obtain ⟨cq1, kq1, qa1, qb1, qc1⟩ := isOf hZ e0 ((own_X_u4 G).ext O0.2)
  obtain ⟨_, _, ⟨T1, L1, k1, n1⟩, -, X1, ⟨Lc1, hQ1, l1, y1, z1⟩, st1⟩ := X0.virtualBackUp hx (x := Y2) (y := Y1) hown (mvT hZ (ww hw 13 rfl)) (mvT hZ (ww hw 14 rfl)) (mvT hZ (ww hw 15 rfl)) (by decide) (mvT hZ (ww hw 17 rfl)) (mvT hZ (ww hw 16 rfl)) (backOf (W := 0) (own_c30_ordinal l Z a0 hw u0 u1 u2 u3 u4 u5 G h0 n0 O0 []) hZ (ww hw 19 rfl) (ww hw 18 rfl) (by decide) (by decide)) qa1 qc1 (g := (mkF m 1 #[vr u4, vi (-1 : Int32)] [xr u4])) rfl (by rw [hml]; rfl) (Steps.refl _) (argsL := []) (rest := []) (lenOf pd1 rfl) rfl (by show 2 * 0 + _ ≤ _; exact Nat.le_of_eq rfl) (hb hby d5_1) (fun _ _ => ⟨rfl, e0, (by decide : 0 + 0 ≤ _), (by decide : 0 + 0 ≤ _)⟩)
  dsimp only [Pt.U, Pt.locs, Pt.cells, Pt.slots] at X1 l1 y1 z1 st1 hQ1
  subst l1 y1 z1
  obtain ⟨rfl, Nq1, e1⟩ := hQ1
  have N1 := Fr.app N0 Nq1
  obtain ⟨fs, hr, hrun, hended, hW, hsame⟩ := X1.leave (v := some (xi (1 : Int32))) (fun h => by rw [Bd.returns] at h; cases h)
  refine ⟨_, _, pre0 _ ?_, hrun, hended, _, _, rfl, ?_, ⟨_, rfl⟩, hW, hsame.mono (by decide) (by decide)⟩
  · show own_S p e below s₁ (mkF m 0 #[vr u4, vi (-1 : Int32)] []) _
    refine XS.aloadN X0.here hx rfl (hb hby d5_0) rfl rfl ?_
    show own_S p e below s₁ (mkF m 1 #[vr u4, vi (-1 : Int32)] [xr u4]) _
    refine st1.trans ?_
    show own_S p e below T1 (mkF m 4 #[vr u4, vi (-1 : Int32)] [xi (3 : Int32)]) _
    refine XS.tswIn X1.here hx rfl (pc0 := 4) (pc' := 90) (o := 86) rfl (hb hby d5_4) rfl (by decide) (by decide) (by decide) (by decide) ?_
    show own_S p e below T1 (mkF m 90 #[vr u4, vi (-1 : Int32)] []) _
    refine XS.iloadN X1.here hx rfl (hb hby d5_90) rfl ?_
    show own_S p e below T1 (mkF m 91 #[vr u4, vi (-1 : Int32)] [xi (-1 : Int32)]) _
    refine XS.ifNo X1.here hx rfl (hb hby d5_91) rfl (by decide) ?_
    show own_S p e below T1 (mkF m 94 #[vr u4, vi (-1 : Int32)] []) _
    refine XS.iconst X1.here hx rfl (hb hby d5_94) ?_
    show own_S p e below T1 (mkF m 95 #[vr u4, vi (-1 : Int32)] [xi (1 : Int32)]) _
    refine XS.goto X1.here hx rfl (pc0 := 95) (pc' := 123) rfl (hb hby d5_95) (by decide) (by decide) ?_
    show own_S p e below T1 (mkF m 123 #[vr u4, vi (-1 : Int32)] [xi (1 : Int32)]) _
    exact retN X1 hx (t := .boolean) Bd.returns (by simp) (hb hby d5_123) hr
  · exact ⟨rfl, N1, e1⟩
theorem ef_own_c33_ordinal (m : MethodId) (u0 u1 u2 u3 u4 u5 : Addr) : entryFrame m #[xr u5] 1 = (mkF m 0 #[vr u5] []) := by first | (simp [entryFrame, mkF, argsToLocals, Value.category]; done) | rfl
set_option maxRecDepth 65536 in
set_option maxHeartbeats 40000000 in
theorem own_c33_ordinal (l : Launch) (Z : State) (a0 : Array Value) (hw : ∀ d ∈ tables_1, d.before a0 Z = true) (u0 u1 u2 u3 u4 u5 : Addr) (G : own_St Z u0 u1 u2 u3 u4 u5) (h0 : Heap) (n0 : Nat) (O0 : Old Z n0 h0) : own_Met l Z Y1 jdk_37_method_2_code 1 (some .int) ({ frames := 0, cells := 0, slots := 0, locals := 0 } : Room) #[xr u5] h0 (own_QR (some (xi (5 : Int32))) h0 n0) := by
  intro ws
  refine MetFree.of_bodySF (plainFor_of_name pn1) hisR ?_
  intro p e s m args below meth c s₁ Bd hml0 hP hK
  obtain ⟨rfl, hZ, hh⟩ := hP
  have hx := Bd.exec
  have hby := Bd.bytes
  have hml : c.maxLocals = 1 := hml0
  have hown : s.vm.findClass "java/lang/Enum" = some m.cls := findClass_of_methodNamed Bd.named
  have hnm := (name_of_methodNamed Bd.named Bd.method).1
  have X0 : Stand p l e ({ frames := 0, cells := 0, slots := 0, locals := 0 } : Room) s m #[xr u5] below meth c s₁ [] 0 0 := Stand.of_body Bd
  have e0 : s₁.heap = h0 := by rw [← hh, Bd.state]; rfl
  have N0 := Fr.nil n0
  have pre0 : ∀ t, Steps p.tables e below (s₁.setTop (mkF m 0 #[vr u5] [])) t → Steps p.tables e below (s₁.setTop (entryFrame m #[xr u5] 1)) t := fun t st => castTop (ef_own_c33_ordinal m u0 u1 u2 u3 u4 u5) st
  obtain ⟨T1, X1, e1, st1⟩ := getF X0 hx hZ hown (host := "") (Or.inl (ww hw 20 rfl)) Via.refl e0 ((own_F_u5_ordinal G).ext O0.2) (g := (mkF m 1 #[vr u5] [xr u5])) rfl rfl (hb hby d3_1)
  obtain ⟨fs, hr, hrun, hended, hW, hsame⟩ := X1.leave (v := some (xi (5 : Int32))) (fun h => by rw [Bd.returns] at h; cases h)
  refine ⟨_, _, pre0 _ ?_, hrun, hended, _, _, rfl, ?_, ⟨_, rfl⟩, hW, hsame.mono (by decide) (by decide)⟩
  · show own_S p e below s₁ (mkF m 0 #[vr u5] []) _
    refine XS.aloadN X0.here hx rfl (hb hby d3_0) rfl rfl ?_
    show own_S p e below s₁ (mkF m 1 #[vr u5] [xr u5]) _
    refine st1 _ ?_
    show own_S p e below T1 (mkF m 4 #[vr u5] [xi (5 : Int32)]) _
    exact retI X1 hx Bd.returns (hb hby d3_4) hr
  · exact ⟨rfl, N0, e1⟩
theorem d5_114 : decode prog_62_method_8_code 114 = .ok (.iload_n 1, 1) := by decide +kernel
theorem d5_115 : decode prog_62_method_8_code 115 = .ok (.ifCond .lt 7, 3) := by decide +kernel
theorem d5_118 : decode prog_62_method_8_code 118 = .ok (.iconst 1, 1) := by decide +kernel
theorem d5_119 : decode prog_62_method_8_code 119 = .ok (.goto 4, 3) := by decide +kernel
theorem ef_own_c33_holds (m : MethodId) (u0 u1 u2 u3 u4 u5 : Addr) : entryFrame m #[xr u5, xi (1 : Int32)] 2 = (mkF m 0 #[vr u5, vi (1 : Int32)] []) := by first | (simp [entryFrame, mkF, argsToLocals, Value.category]; done) | rfl
set_option maxRecDepth 65536 in
set_option maxHeartbeats 40000000 in
theorem own_c33_holds (l : Launch) (Z : State) (a0 : Array Value) (hw : ∀ d ∈ tables_1, d.before a0 Z = true) (u0 u1 u2 u3 u4 u5 : Addr) (G : own_St Z u0 u1 u2 u3 u4 u5) (h0 : Heap) (n0 : Nat) (O0 : Old Z n0 h0) : own_Met l Z Y5 prog_62_method_8_code 2 (some .boolean) ({ frames := 1, cells := 0, slots := 0, locals := 12 } : Room) #[xr u5, xi (1 : Int32)] h0 (own_QR (some (xi (1 : Int32))) h0 n0) := by
  intro ws
  refine MetFree.of_bodySF (plainFor_of_name pn2) hisR ?_
  intro p e s m args below meth c s₁ Bd hml0 hP hK
  obtain ⟨rfl, hZ, hh⟩ := hP
  have hx := Bd.exec
  have hby := Bd.bytes
  have hml : c.maxLocals = 2 := hml0
  have hown : s.vm.findClass "com/example/whyle/whyle/cfa/Relation" = some m.cls := findClass_of_methodNamed Bd.named
  have hnm := (name_of_methodNamed Bd.named Bd.method).1
  have X0 : Stand p l e ({ frames := 1, cells := 0, slots := 0, locals := 12 } : Room) s m #[xr u5, xi (1 : Int32)] below meth c s₁ [] 0 0 := Stand.of_body Bd
  have e0 : s₁.heap = h0 := by rw [← hh, Bd.state]; rfl
  have N0 := Fr.nil n0
  have pre0 : ∀ t, Steps p.tables e below (s₁.setTop (mkF m 0 #[vr u5, vi (1 : Int32)] [])) t → Steps p.tables e below (s₁.setTop (entryFrame m #[xr u5, xi (1 : Int32)] 2)) t := fun t st => castTop (ef_own_c33_holds m u0 u1 u2 u3 u4 u5) st
  obtain ⟨cq1, kq1, qa1, qb1, qc1⟩ := isOf hZ e0 ((own_X_u5 G).ext O0.2)
  obtain ⟨_, _, ⟨T1, L1, k1, n1⟩, -, X1, ⟨Lc1, hQ1, l1, y1, z1⟩, st1⟩ := X0.virtualBackUp hx (x := Y2) (y := Y1) hown (mvT hZ (ww hw 13 rfl)) (mvT hZ (ww hw 14 rfl)) (mvT hZ (ww hw 15 rfl)) (by decide) (mvT hZ (ww hw 17 rfl)) (mvT hZ (ww hw 16 rfl)) (backOf (W := 0) (own_c33_ordinal l Z a0 hw u0 u1 u2 u3 u4 u5 G h0 n0 O0 []) hZ (ww hw 19 rfl) (ww hw 18 rfl) (by decide) (by decide)) qa1 qc1 (g := (mkF m 1 #[vr u5, vi (1 : Int32)] [xr u5])) rfl (by rw [hml]; rfl) (Steps.refl _) (argsL := []) (rest := []) (lenOf pd1 rfl) rfl (by show 2 * 0 + _ ≤ _; exact Nat.le_of_eq rfl) (hb hby d5_1) (fun _ _ => ⟨rfl, e0, (by decide : 0 + 0 ≤ _), (by decide : 0 + 0 ≤ _)⟩)
  dsimp only [Pt.U, Pt.locs, Pt.cells, Pt.slots] at X1 l1 y1 z1 st1 hQ1
  subst l1 y1 z1
  obtain ⟨rfl, Nq1, e1⟩ := hQ1
  have N1 := Fr.app N0 Nq1
  obtain ⟨fs, hr, hrun, hended, hW, hsame⟩ := X1.leave (v := some (xi (1 : Int32))) (fun h => by rw [Bd.returns] at h; cases h)
  refine ⟨_, _, pre0 _ ?_, hrun, hended, _, _, rfl, ?_, ⟨_, rfl⟩, hW, hsame.mono (by decide) (by decide)⟩
  · show own_S p e below s₁ (mkF m 0 #[vr u5, vi (1 : Int32)] []) _
    refine XS.aloadN X0.here hx rfl (hb hby d5_0) rfl rfl ?_
    show own_S p e below s₁ (mkF m 1 #[vr u5, vi (1 : Int32)] [xr u5]) _
    refine st1.trans ?_
    show own_S p e below T1 (mkF m 4 #[vr u5, vi (1 : Int32)] [xi (5 : Int32)]) _
    refine XS.tswIn X1.here hx rfl (pc0 := 4) (pc' := 114) (o := 110) rfl (hb hby d5_4) rfl (by decide) (by decide) (by decide) (by decide) ?_
    show own_S p e below T1 (mkF m 114 #[vr u5, vi (1 : Int32)] []) _
    refine XS.iloadN X1.here hx rfl (hb hby d5_114) rfl ?_
    show own_S p e below T1 (mkF m 115 #[vr u5, vi (1 : Int32)] [xi (1 : Int32)]) _
    refine XS.ifNo X1.here hx rfl (hb hby d5_115) rfl (by decide) ?_
    show own_S p e below T1 (mkF m 118 #[vr u5, vi (1 : Int32)] []) _
    refine XS.iconst X1.here hx rfl (hb hby d5_118) ?_
    show own_S p e below T1 (mkF m 119 #[vr u5, vi (1 : Int32)] [xi (1 : Int32)]) _
    refine XS.goto X1.here hx rfl (pc0 := 119) (pc' := 123) rfl (hb hby d5_119) (by decide) (by decide) ?_
    show own_S p e below T1 (mkF m 123 #[vr u5, vi (1 : Int32)] [xi (1 : Int32)]) _
    exact retN X1 hx (t := .boolean) Bd.returns (by simp) (hb hby d5_123) hr
  · exact ⟨rfl, N1, e1⟩
theorem ef_own_l12 (m : MethodId) (u0 u1 u2 u3 u4 u5 : Addr) (p1 : Int32) (p2 : Int32) (p3 : Int32) (p4 : Int32) : entryFrame m #[xi p1, xi p2, xi p3, xi p4] maxLocals = (mkF m 0 #[vi p1, vi p2, vi p3, vi p4, vu, vu, vu, vu, vu] []) := by first | (simp [entryFrame, mkF, argsToLocals, Value.category, maxLocals]; done) | rfl
set_option maxRecDepth 65536 in
set_option maxHeartbeats 40000000 in
theorem own_l12 (l : Launch) (Z : State) (a0 : Array Value) (hw : ∀ d ∈ tables_1, d.before a0 Z = true) (u0 u1 u2 u3 u4 u5 : Addr) (G : own_St Z u0 u1 u2 u3 u4 u5) (p1 : Int32) (p2 : Int32) (p3 : Int32) (p4 : Int32) (as11 : ((p1 &&& (2147483647 : Int32)) - ((p1 &&& (2147483647 : Int32)) / (6 : Int32)) * (6 : Int32)) = (3 : Int32)) (as14 : (p4 &&& (1 : Int32)) = (0 : Int32)) (as0 : if_icmp.holds .ge p2 p3 = false) (as1 : if_icmp.holds .ge p3 p2 = true) (as2 : if_icmp.holds .ne p3 p2 = true) (h0 : Heap) (n0 : Nat) (O0 : Old Z n0 h0) : own_Met l Z x code maxLocals ret room_1 #[xi p1, xi p2, xi p3, xi p4] h0 (own_QL (some (xi (1 : Int32))) n0) := by
  intro ws
  refine MetFree.of_bodySF (plainFor_of_name pn0) hisR ?_
  intro p e s m args below meth c s₁ Bd hml0 hP hK
  obtain ⟨rfl, hZ, hh⟩ := hP
  have hx := Bd.exec
  have hby := Bd.bytes
  have hml : c.maxLocals = 9 := hml0
  have hown : s.vm.findClass "com/example/whyle/whyle/cfa/RelationConversePinLaw" = some m.cls := findClass_of_methodNamed Bd.named
  have hnm := (name_of_methodNamed Bd.named Bd.method).1
  have X0 : Stand p l e room_1 s m #[xi p1, xi p2, xi p3, xi p4] below meth c s₁ [] 0 0 := Stand.of_body Bd
  have e0 : s₁.heap = h0 := by rw [← hh, Bd.state]; rfl
  have N0 := Fr.nil n0
  have pre0 : ∀ t, Steps p.tables e below (s₁.setTop (mkF m 0 #[vi p1, vi p2, vi p3, vi p4, vu, vu, vu, vu, vu] [])) t → Steps p.tables e below (s₁.setTop (entryFrame m #[xi p1, xi p2, xi p3, xi p4] maxLocals)) t := fun t st => castTop (ef_own_l12 m u0 u1 u2 u3 u4 u5 p1 p2 p3 p4) st
  obtain ⟨_, _, ⟨T1, L1, k1, n1⟩, -, X1, ⟨Lc1, hQ1, l1, y1, z1⟩, st1⟩ := Jvm.LawKit.callS X0 hx (y := Y0) hown (mvT hZ (ww hw 0 rfl)) (mvT hZ (ww hw 1 rfl)) (mvT hZ (ww hw 2 rfl)) (mvT hZ (ww hw 3 rfl)) (by decide) (backOf (W := 0) (own_c29_pick l Z a0 hw u0 u1 u2 u3 u4 u5 G p1 as11 h0 n0 O0 []) hZ (ww hw 3 rfl) (ww hw 2 rfl) (by decide) (by decide)) (g := (mkF m 1 #[vi p1, vi p2, vi p3, vi p4, vu, vu, vu, vu, vu] [xi p1])) rfl (by rw [hml]; rfl) (argsL := [xi p1]) (rest := []) (lenOf pd0 rfl) rfl (by show 2 * 0 + _ ≤ _; exact Nat.le_of_eq rfl) (hb hby at_1) (fun _ _ => ⟨rfl, e0, (by decide : 0 + 0 ≤ _), (by decide : 0 + 0 ≤ _)⟩)
  dsimp only [Pt.U, Pt.locs, Pt.cells, Pt.slots] at X1 l1 y1 z1 st1 hQ1
  subst l1 y1 z1
  obtain ⟨rfl, Nq1, e1⟩ := hQ1
  have N1 := Fr.app N0 Nq1
  obtain ⟨cq2, kq2, qa2, qb2, qc2⟩ := isOf hZ e1 ((own_X_u4 G).ext O0.2)
  obtain ⟨_, _, ⟨T2, L2, k2, n2⟩, -, X2, ⟨Lc2, hQ2, l2, y2, z2⟩, st2⟩ := X1.virtualBack hx (y := Y3) (z := Y3) hown (mvT hZ (ww hw 8 rfl)) (mvT hZ (ww hw 9 rfl)) (notFace_of_selects (args := #[]) (mvT hZ (ww hw 11 rfl))) (mvT hZ (ww hw 11 rfl)) (mvT hZ (ww hw 10 rfl)) (by decide) (backOf (W := 0) (own_c30_converse l Z a0 hw u0 u1 u2 u3 u4 u5 G h0 n0 O0 []) hZ (ww hw 12 rfl) (ww hw 6 rfl) (by decide) (by decide)) qa2 qc2 (g := (mkF m 21 #[vi p1, vi p2, vi p3, vi p4, vr u4, vi p3, vu, vu, vu] [xr u4])) rfl (by rw [hml]; rfl) (Steps.refl _) (argsL := []) (rest := []) (lenOf pd2 rfl) rfl (by show 2 * 0 + _ ≤ _; exact Nat.le_of_eq rfl) (hb hby at_21) (fun _ _ => ⟨rfl, e1, (by decide : 0 + 0 ≤ _), (by decide : 0 + 0 ≤ _)⟩)
  dsimp only [Pt.U, Pt.locs, Pt.cells, Pt.slots] at X2 l2 y2 z2 st2 hQ2
  subst l2 y2 z2
  obtain ⟨rfl, Nq2, e2⟩ := hQ2
  have N2 := Fr.app N1 Nq2
  obtain ⟨_, _, ⟨T3, L3, k3, n3⟩, -, X3, ⟨Lc3, hQ3, l3, y3, z3⟩, st3⟩ := Jvm.LawKit.callS X2 hx (y := Y4) hown (mvT hZ (ww hw 23 rfl)) (mvT hZ (ww hw 24 rfl)) (mvT hZ (ww hw 2 rfl)) (mvT hZ (ww hw 25 rfl)) (by decide) (backOf (W := 1) (own_c3_sign l Z a0 hw u0 u1 u2 u3 u4 u5 G p2 p3 as0 h0 n0 O0 []) hZ (ww hw 25 rfl) (ww hw 2 rfl) (by decide) (by decide)) (g := (mkF m 38 #[vi p1, vi p2, vi p3, vi p4, vr u4, vi p3, vr u5, vu, vu] [xi p3, xi p2, xr u4])) rfl (by rw [hml]; rfl) (argsL := [xi p2, xi p3]) (rest := [xr u4]) (lenOf pd3 rfl) rfl (by show 2 * 0 + _ ≤ _; exact Nat.le_of_eq rfl) (hb hby at_38) (fun _ _ => ⟨rfl, e2, (by decide : 0 + 0 ≤ _), (by decide : 0 + 0 ≤ _)⟩)
  dsimp only [Pt.U, Pt.locs, Pt.cells, Pt.slots] at X3 l3 y3 z3 st3 hQ3
  subst l3 y3 z3
  obtain ⟨rfl, Nq3, e3⟩ := hQ3
  have N3 := Fr.app N2 Nq3
  obtain ⟨cq4, kq4, qa4, qb4, qc4⟩ := isOf hZ e3 ((own_X_u4 G).ext O0.2)
  obtain ⟨_, _, ⟨T4, L4, k4, n4⟩, -, X4, ⟨Lc4, hQ4, l4, y4, z4⟩, st4⟩ := X3.virtualBack hx (y := Y5) (z := Y5) hown (mvT hZ (ww hw 26 rfl)) (mvT hZ (ww hw 27 rfl)) (notFace_of_selects (args := #[]) (mvT hZ (ww hw 29 rfl))) (mvT hZ (ww hw 29 rfl)) (mvT hZ (ww hw 28 rfl)) (by decide) (backOf (W := 0) (own_c32_holds l Z a0 hw u0 u1 u2 u3 u4 u5 G h0 n0 O0 []) hZ (ww hw 30 rfl) (ww hw 6 rfl) (by decide) (by decide)) qa4 qc4 (g := (mkF m 41 #[vi p1, vi p2, vi p3, vi p4, vr u4, vi p3, vr u5, vu, vu] [xi (-1 : Int32), xr u4])) rfl (by rw [hml]; rfl) (Steps.refl _) (argsL := [xi (-1 : Int32)]) (rest := []) (lenOf pd4 rfl) rfl (by show 2 * 0 + _ ≤ _; exact Nat.le_of_eq rfl) (hb hby at_41) (fun _ _ => ⟨rfl, e3, (by decide : 0 + 0 ≤ _), (by decide : 0 + 0 ≤ _)⟩)
  dsimp only [Pt.U, Pt.locs, Pt.cells, Pt.slots] at X4 l4 y4 z4 st4 hQ4
  subst l4 y4 z4
  obtain ⟨rfl, Nq4, e4⟩ := hQ4
  have N4 := Fr.app N3 Nq4
  obtain ⟨_, _, ⟨T5, L5, k5, n5⟩, -, X5, ⟨Lc5, hQ5, l5, y5, z5⟩, st5⟩ := Jvm.LawKit.callS X4 hx (y := Y4) hown (mvT hZ (ww hw 23 rfl)) (mvT hZ (ww hw 24 rfl)) (mvT hZ (ww hw 2 rfl)) (mvT hZ (ww hw 25 rfl)) (by decide) (backOf (W := 1) (own_c5_sign l Z a0 hw u0 u1 u2 u3 u4 u5 G p2 p3 as1 as2 h0 n0 O0 []) hZ (ww hw 25 rfl) (ww hw 2 rfl) (by decide) (by decide)) (g := (mkF m 51 #[vi p1, vi p2, vi p3, vi p4, vr u4, vi p3, vr u5, vi (1 : Int32), vu] [xi p2, xi p3, xr u5])) rfl (by rw [hml]; rfl) (argsL := [xi p3, xi p2]) (rest := [xr u5]) (lenOf pd3 rfl) rfl (by show 2 * 0 + _ ≤ _; exact Nat.le_of_eq rfl) (hb hby at_51) (fun _ _ => ⟨rfl, e4, (by decide : 0 + 0 ≤ _), (by decide : 0 + 0 ≤ _)⟩)
  dsimp only [Pt.U, Pt.locs, Pt.cells, Pt.slots] at X5 l5 y5 z5 st5 hQ5
  subst l5 y5 z5
  obtain ⟨rfl, Nq5, e5⟩ := hQ5
  have N5 := Fr.app N4 Nq5
  obtain ⟨cq6, kq6, qa6, qb6, qc6⟩ := isOf hZ e5 ((own_X_u5 G).ext O0.2)
  obtain ⟨_, _, ⟨T6, L6, k6, n6⟩, -, X6, ⟨Lc6, hQ6, l6, y6, z6⟩, st6⟩ := X5.virtualBack hx (y := Y5) (z := Y5) hown (mvT hZ (ww hw 26 rfl)) (mvT hZ (ww hw 27 rfl)) (notFace_of_selects (args := #[]) (mvT hZ (ww hw 29 rfl))) (mvT hZ (ww hw 29 rfl)) (mvT hZ (ww hw 28 rfl)) (by decide) (backOf (W := 0) (own_c33_holds l Z a0 hw u0 u1 u2 u3 u4 u5 G h0 n0 O0 []) hZ (ww hw 30 rfl) (ww hw 6 rfl) (by decide) (by decide)) qa6 qc6 (g := (mkF m 54 #[vi p1, vi p2, vi p3, vi p4, vr u4, vi p3, vr u5, vi (1 : Int32), vu] [xi (1 : Int32), xr u5])) rfl (by rw [hml]; rfl) (Steps.refl _) (argsL := [xi (1 : Int32)]) (rest := []) (lenOf pd4 rfl) rfl (by show 2 * 0 + _ ≤ _; exact Nat.le_of_eq rfl) (hb hby at_54) (fun _ _ => ⟨rfl, e5, (by decide : 0 + 0 ≤ _), (by decide : 0 + 0 ≤ _)⟩)
  dsimp only [Pt.U, Pt.locs, Pt.cells, Pt.slots] at X6 l6 y6 z6 st6 hQ6
  subst l6 y6 z6
  obtain ⟨rfl, Nq6, e6⟩ := hQ6
  have N6 := Fr.app N5 Nq6
  obtain ⟨fs, hr, hrun, hended, hW, hsame⟩ := X6.leave (v := some (xi (1 : Int32))) (fun h => by rw [Bd.returns] at h; cases h)
  refine ⟨_, _, pre0 _ ?_, hrun, hended, _, _, rfl, ?_, ⟨_, rfl⟩, hW, hsame.mono (by decide) (by decide)⟩
  · show own_S p e below s₁ (mkF m 0 #[vi p1, vi p2, vi p3, vi p4, vu, vu, vu, vu, vu] []) _
    refine XS.iloadN X0.here hx rfl (hb hby at_0) rfl ?_
    show own_S p e below s₁ (mkF m 1 #[vi p1, vi p2, vi p3, vi p4, vu, vu, vu, vu, vu] [xi p1]) _
    refine st1 _ ?_
    show own_S p e below T1 (mkF m 4 #[vi p1, vi p2, vi p3, vi p4, vu, vu, vu, vu, vu] [xr u4]) _
    refine XS.astore X1.here hx rfl (hb hby at_4) rfl rfl (l' := #[vi p1, vi p2, vi p3, vi p4, vr u4, vu, vu, vu, vu]) rfl ?_
    show own_S p e below T1 (mkF m 6 #[vi p1, vi p2, vi p3, vi p4, vr u4, vu, vu, vu, vu] []) _
    refine XS.iloadN X1.here hx rfl (hb hby at_6) rfl ?_
    show own_S p e below T1 (mkF m 7 #[vi p1, vi p2, vi p3, vi p4, vr u4, vu, vu, vu, vu] [xi p4]) _
    refine XS.iconst X1.here hx rfl (hb hby at_7) ?_
    show own_S p e below T1 (mkF m 8 #[vi p1, vi p2, vi p3, vi p4, vr u4, vu, vu, vu, vu] [xi (1 : Int32), xi p4]) _
    refine XS.iand X1.here hx rfl (hb hby at_8) rfl ?_
    show own_S p e below T1 (mkF m 9 #[vi p1, vi p2, vi p3, vi p4, vr u4, vu, vu, vu, vu] [xi (p4 &&& (1 : Int32))]) _
    refine castTop (show (mkF m 9 #[vi p1, vi p2, vi p3, vi p4, vr u4, vu, vu, vu, vu] [xi (p4 &&& (1 : Int32))]) = (mkF m 9 #[vi p1, vi p2, vi p3, vi p4, vr u4, vu, vu, vu, vu] [xi (0 : Int32)]) from by rw [as14]) ?_
    show own_S p e below T1 (mkF m 9 #[vi p1, vi p2, vi p3, vi p4, vr u4, vu, vu, vu, vu] [xi (0 : Int32)]) _
    refine XS.ifYes X1.here hx rfl (pc0 := 9) (pc' := 16) rfl (hb hby at_9) rfl (by decide) (by decide) (by decide) ?_
    show own_S p e below T1 (mkF m 16 #[vi p1, vi p2, vi p3, vi p4, vr u4, vu, vu, vu, vu] []) _
    refine XS.iloadN X1.here hx rfl (hb hby at_16) rfl ?_
    show own_S p e below T1 (mkF m 17 #[vi p1, vi p2, vi p3, vi p4, vr u4, vu, vu, vu, vu] [xi p3]) _
    refine XS.istore X1.here hx rfl (hb hby at_17) rfl (l' := #[vi p1, vi p2, vi p3, vi p4, vr u4, vi p3, vu, vu, vu]) rfl ?_
    show own_S p e below T1 (mkF m 19 #[vi p1, vi p2, vi p3, vi p4, vr u4, vi p3, vu, vu, vu] []) _
    refine XS.aload X1.here hx rfl (hb hby at_19) rfl rfl ?_
    show own_S p e below T1 (mkF m 21 #[vi p1, vi p2, vi p3, vi p4, vr u4, vi p3, vu, vu, vu] [xr u4]) _
    refine st2.trans ?_
    show own_S p e below T2 (mkF m 24 #[vi p1, vi p2, vi p3, vi p4, vr u4, vi p3, vu, vu, vu] [xr u5]) _
    refine XS.astore X2.here hx rfl (hb hby at_24) rfl rfl (l' := #[vi p1, vi p2, vi p3, vi p4, vr u4, vi p3, vr u5, vu, vu]) rfl ?_
    show own_S p e below T2 (mkF m 26 #[vi p1, vi p2, vi p3, vi p4, vr u4, vi p3, vr u5, vu, vu] []) _
    refine XS.aload X2.here hx rfl (hb hby at_26) rfl rfl ?_
    show own_S p e below T2 (mkF m 28 #[vi p1, vi p2, vi p3, vi p4, vr u4, vi p3, vr u5, vu, vu] [xr u5]) _
    refine Jvm.Free.XT.nonnullYes X2.here hx rfl (pc0 := 28) (pc' := 33) rfl (hb hby at_28) rfl rfl (by simp) (by decide) (by decide) ?_
    show own_S p e below T2 (mkF m 33 #[vi p1, vi p2, vi p3, vi p4, vr u4, vi p3, vr u5, vu, vu] []) _
    refine XS.aload X2.here hx rfl (hb hby at_33) rfl rfl ?_
    show own_S p e below T2 (mkF m 35 #[vi p1, vi p2, vi p3, vi p4, vr u4, vi p3, vr u5, vu, vu] [xr u4]) _
    refine XS.iloadN X2.here hx rfl (hb hby at_35) rfl ?_
    show own_S p e below T2 (mkF m 36 #[vi p1, vi p2, vi p3, vi p4, vr u4, vi p3, vr u5, vu, vu] [xi p2, xr u4]) _
    refine XS.iload X2.here hx rfl (hb hby at_36) rfl ?_
    show own_S p e below T2 (mkF m 38 #[vi p1, vi p2, vi p3, vi p4, vr u4, vi p3, vr u5, vu, vu] [xi p3, xi p2, xr u4]) _
    refine st3 _ ?_
    show own_S p e below T3 (mkF m 41 #[vi p1, vi p2, vi p3, vi p4, vr u4, vi p3, vr u5, vu, vu] [xi (-1 : Int32), xr u4]) _
    refine st4.trans ?_
    show own_S p e below T4 (mkF m 44 #[vi p1, vi p2, vi p3, vi p4, vr u4, vi p3, vr u5, vu, vu] [xi (1 : Int32)]) _
    refine XS.istore X4.here hx rfl (hb hby at_44) rfl (l' := #[vi p1, vi p2, vi p3, vi p4, vr u4, vi p3, vr u5, vi (1 : Int32), vu]) rfl ?_
    show own_S p e below T4 (mkF m 46 #[vi p1, vi p2, vi p3, vi p4, vr u4, vi p3, vr u5, vi (1 : Int32), vu] []) _
    refine XS.aload X4.here hx rfl (hb hby at_46) rfl rfl ?_
    show own_S p e below T4 (mkF m 48 #[vi p1, vi p2, vi p3, vi p4, vr u4, vi p3, vr u5, vi (1 : Int32), vu] [xr u5]) _
    refine XS.iload X4.here hx rfl (hb hby at_48) rfl ?_
    show own_S p e below T4 (mkF m 50 #[vi p1, vi p2, vi p3, vi p4, vr u4, vi p3, vr u5, vi (1 : Int32), vu] [xi p3, xr u5]) _
    refine XS.iloadN X4.here hx rfl (hb hby at_50) rfl ?_
    show own_S p e below T4 (mkF m 51 #[vi p1, vi p2, vi p3, vi p4, vr u4, vi p3, vr u5, vi (1 : Int32), vu] [xi p2, xi p3, xr u5]) _
    refine st5 _ ?_
    show own_S p e below T5 (mkF m 54 #[vi p1, vi p2, vi p3, vi p4, vr u4, vi p3, vr u5, vi (1 : Int32), vu] [xi (1 : Int32), xr u5]) _
    refine st6.trans ?_
    show own_S p e below T6 (mkF m 57 #[vi p1, vi p2, vi p3, vi p4, vr u4, vi p3, vr u5, vi (1 : Int32), vu] [xi (1 : Int32)]) _
    refine XS.istore X6.here hx rfl (hb hby at_57) rfl (l' := #[vi p1, vi p2, vi p3, vi p4, vr u4, vi p3, vr u5, vi (1 : Int32), vi (1 : Int32)]) rfl ?_
    show own_S p e below T6 (mkF m 59 #[vi p1, vi p2, vi p3, vi p4, vr u4, vi p3, vr u5, vi (1 : Int32), vi (1 : Int32)] []) _
    refine XS.iload X6.here hx rfl (hb hby at_59) rfl ?_
    show own_S p e below T6 (mkF m 61 #[vi p1, vi p2, vi p3, vi p4, vr u4, vi p3, vr u5, vi (1 : Int32), vi (1 : Int32)] [xi (1 : Int32)]) _
    refine XS.iload X6.here hx rfl (hb hby at_61) rfl ?_
    show own_S p e below T6 (mkF m 63 #[vi p1, vi p2, vi p3, vi p4, vr u4, vi p3, vr u5, vi (1 : Int32), vi (1 : Int32)] [xi (1 : Int32), xi (1 : Int32)]) _
    refine XS.icmpNo X6.here hx rfl (hb hby at_63) rfl (by decide) ?_
    show own_S p e below T6 (mkF m 66 #[vi p1, vi p2, vi p3, vi p4, vr u4, vi p3, vr u5, vi (1 : Int32), vi (1 : Int32)] []) _
    refine XS.iconst X6.here hx rfl (hb hby at_66) ?_
    show own_S p e below T6 (mkF m 67 #[vi p1, vi p2, vi p3, vi p4, vr u4, vi p3, vr u5, vi (1 : Int32), vi (1 : Int32)] [xi (1 : Int32)]) _
    refine XS.goto X6.here hx rfl (pc0 := 67) (pc' := 71) rfl (hb hby at_67) (by decide) (by decide) ?_
    show own_S p e below T6 (mkF m 71 #[vi p1, vi p2, vi p3, vi p4, vr u4, vi p3, vr u5, vi (1 : Int32), vi (1 : Int32)] [xi (1 : Int32)]) _
    exact retN X6 hx (t := .boolean) Bd.returns (by simp) (hb hby at_71) hr
  · exact ⟨rfl, N6⟩
theorem ef_own_c35_holds (m : MethodId) (u0 u1 u2 u3 u4 u5 : Addr) : entryFrame m #[xr u4, xi (0 : Int32)] 2 = (mkF m 0 #[vr u4, vi (0 : Int32)] []) := by first | (simp [entryFrame, mkF, argsToLocals, Value.category]; done) | rfl
set_option maxRecDepth 65536 in
set_option maxHeartbeats 40000000 in
theorem own_c35_holds (l : Launch) (Z : State) (a0 : Array Value) (hw : ∀ d ∈ tables_1, d.before a0 Z = true) (u0 u1 u2 u3 u4 u5 : Addr) (G : own_St Z u0 u1 u2 u3 u4 u5) (h0 : Heap) (n0 : Nat) (O0 : Old Z n0 h0) : own_Met l Z Y5 prog_62_method_8_code 2 (some .boolean) ({ frames := 1, cells := 0, slots := 0, locals := 12 } : Room) #[xr u4, xi (0 : Int32)] h0 (own_QR (some (xi (1 : Int32))) h0 n0) := by
  intro ws
  refine MetFree.of_bodySF (plainFor_of_name pn2) hisR ?_
  intro p e s m args below meth c s₁ Bd hml0 hP hK
  obtain ⟨rfl, hZ, hh⟩ := hP
  have hx := Bd.exec
  have hby := Bd.bytes
  have hml : c.maxLocals = 2 := hml0
  have hown : s.vm.findClass "com/example/whyle/whyle/cfa/Relation" = some m.cls := findClass_of_methodNamed Bd.named
  have hnm := (name_of_methodNamed Bd.named Bd.method).1
  have X0 : Stand p l e ({ frames := 1, cells := 0, slots := 0, locals := 12 } : Room) s m #[xr u4, xi (0 : Int32)] below meth c s₁ [] 0 0 := Stand.of_body Bd
  have e0 : s₁.heap = h0 := by rw [← hh, Bd.state]; rfl
  have N0 := Fr.nil n0
  have pre0 : ∀ t, Steps p.tables e below (s₁.setTop (mkF m 0 #[vr u4, vi (0 : Int32)] [])) t → Steps p.tables e below (s₁.setTop (entryFrame m #[xr u4, xi (0 : Int32)] 2)) t := fun t st => castTop (ef_own_c35_holds m u0 u1 u2 u3 u4 u5) st
  obtain ⟨cq1, kq1, qa1, qb1, qc1⟩ := isOf hZ e0 ((own_X_u4 G).ext O0.2)
  obtain ⟨_, _, ⟨T1, L1, k1, n1⟩, -, X1, ⟨Lc1, hQ1, l1, y1, z1⟩, st1⟩ := X0.virtualBackUp hx (x := Y2) (y := Y1) hown (mvT hZ (ww hw 13 rfl)) (mvT hZ (ww hw 14 rfl)) (mvT hZ (ww hw 15 rfl)) (by decide) (mvT hZ (ww hw 17 rfl)) (mvT hZ (ww hw 16 rfl)) (backOf (W := 0) (own_c30_ordinal l Z a0 hw u0 u1 u2 u3 u4 u5 G h0 n0 O0 []) hZ (ww hw 19 rfl) (ww hw 18 rfl) (by decide) (by decide)) qa1 qc1 (g := (mkF m 1 #[vr u4, vi (0 : Int32)] [xr u4])) rfl (by rw [hml]; rfl) (Steps.refl _) (argsL := []) (rest := []) (lenOf pd1 rfl) rfl (by show 2 * 0 + _ ≤ _; exact Nat.le_of_eq rfl) (hb hby d5_1) (fun _ _ => ⟨rfl, e0, (by decide : 0 + 0 ≤ _), (by decide : 0 + 0 ≤ _)⟩)
  dsimp only [Pt.U, Pt.locs, Pt.cells, Pt.slots] at X1 l1 y1 z1 st1 hQ1
  subst l1 y1 z1
  obtain ⟨rfl, Nq1, e1⟩ := hQ1
  have N1 := Fr.app N0 Nq1
  obtain ⟨fs, hr, hrun, hended, hW, hsame⟩ := X1.leave (v := some (xi (1 : Int32))) (fun h => by rw [Bd.returns] at h; cases h)
  refine ⟨_, _, pre0 _ ?_, hrun, hended, _, _, rfl, ?_, ⟨_, rfl⟩, hW, hsame.mono (by decide) (by decide)⟩
  · show own_S p e below s₁ (mkF m 0 #[vr u4, vi (0 : Int32)] []) _
    refine XS.aloadN X0.here hx rfl (hb hby d5_0) rfl rfl ?_
    show own_S p e below s₁ (mkF m 1 #[vr u4, vi (0 : Int32)] [xr u4]) _
    refine st1.trans ?_
    show own_S p e below T1 (mkF m 4 #[vr u4, vi (0 : Int32)] [xi (3 : Int32)]) _
    refine XS.tswIn X1.here hx rfl (pc0 := 4) (pc' := 90) (o := 86) rfl (hb hby d5_4) rfl (by decide) (by decide) (by decide) (by decide) ?_
    show own_S p e below T1 (mkF m 90 #[vr u4, vi (0 : Int32)] []) _
    refine XS.iloadN X1.here hx rfl (hb hby d5_90) rfl ?_
    show own_S p e below T1 (mkF m 91 #[vr u4, vi (0 : Int32)] [xi (0 : Int32)]) _
    refine XS.ifNo X1.here hx rfl (hb hby d5_91) rfl (by decide) ?_
    show own_S p e below T1 (mkF m 94 #[vr u4, vi (0 : Int32)] []) _
    refine XS.iconst X1.here hx rfl (hb hby d5_94) ?_
    show own_S p e below T1 (mkF m 95 #[vr u4, vi (0 : Int32)] [xi (1 : Int32)]) _
    refine XS.goto X1.here hx rfl (pc0 := 95) (pc' := 123) rfl (hb hby d5_95) (by decide) (by decide) ?_
    show own_S p e below T1 (mkF m 123 #[vr u4, vi (0 : Int32)] [xi (1 : Int32)]) _
    exact retN X1 hx (t := .boolean) Bd.returns (by simp) (hb hby d5_123) hr
  · exact ⟨rfl, N1, e1⟩
theorem ef_own_c36_holds (m : MethodId) (u0 u1 u2 u3 u4 u5 : Addr) : entryFrame m #[xr u5, xi (0 : Int32)] 2 = (mkF m 0 #[vr u5, vi (0 : Int32)] []) := by first | (simp [entryFrame, mkF, argsToLocals, Value.category]; done) | rfl
set_option maxRecDepth 65536 in
set_option maxHeartbeats 40000000 in
theorem own_c36_holds (l : Launch) (Z : State) (a0 : Array Value) (hw : ∀ d ∈ tables_1, d.before a0 Z = true) (u0 u1 u2 u3 u4 u5 : Addr) (G : own_St Z u0 u1 u2 u3 u4 u5) (h0 : Heap) (n0 : Nat) (O0 : Old Z n0 h0) : own_Met l Z Y5 prog_62_method_8_code 2 (some .boolean) ({ frames := 1, cells := 0, slots := 0, locals := 12 } : Room) #[xr u5, xi (0 : Int32)] h0 (own_QR (some (xi (1 : Int32))) h0 n0) := by
  intro ws
  refine MetFree.of_bodySF (plainFor_of_name pn2) hisR ?_
  intro p e s m args below meth c s₁ Bd hml0 hP hK
  obtain ⟨rfl, hZ, hh⟩ := hP
  have hx := Bd.exec
  have hby := Bd.bytes
  have hml : c.maxLocals = 2 := hml0
  have hown : s.vm.findClass "com/example/whyle/whyle/cfa/Relation" = some m.cls := findClass_of_methodNamed Bd.named
  have hnm := (name_of_methodNamed Bd.named Bd.method).1
  have X0 : Stand p l e ({ frames := 1, cells := 0, slots := 0, locals := 12 } : Room) s m #[xr u5, xi (0 : Int32)] below meth c s₁ [] 0 0 := Stand.of_body Bd
  have e0 : s₁.heap = h0 := by rw [← hh, Bd.state]; rfl
  have N0 := Fr.nil n0
  have pre0 : ∀ t, Steps p.tables e below (s₁.setTop (mkF m 0 #[vr u5, vi (0 : Int32)] [])) t → Steps p.tables e below (s₁.setTop (entryFrame m #[xr u5, xi (0 : Int32)] 2)) t := fun t st => castTop (ef_own_c36_holds m u0 u1 u2 u3 u4 u5) st
  obtain ⟨cq1, kq1, qa1, qb1, qc1⟩ := isOf hZ e0 ((own_X_u5 G).ext O0.2)
  obtain ⟨_, _, ⟨T1, L1, k1, n1⟩, -, X1, ⟨Lc1, hQ1, l1, y1, z1⟩, st1⟩ := X0.virtualBackUp hx (x := Y2) (y := Y1) hown (mvT hZ (ww hw 13 rfl)) (mvT hZ (ww hw 14 rfl)) (mvT hZ (ww hw 15 rfl)) (by decide) (mvT hZ (ww hw 17 rfl)) (mvT hZ (ww hw 16 rfl)) (backOf (W := 0) (own_c33_ordinal l Z a0 hw u0 u1 u2 u3 u4 u5 G h0 n0 O0 []) hZ (ww hw 19 rfl) (ww hw 18 rfl) (by decide) (by decide)) qa1 qc1 (g := (mkF m 1 #[vr u5, vi (0 : Int32)] [xr u5])) rfl (by rw [hml]; rfl) (Steps.refl _) (argsL := []) (rest := []) (lenOf pd1 rfl) rfl (by show 2 * 0 + _ ≤ _; exact Nat.le_of_eq rfl) (hb hby d5_1) (fun _ _ => ⟨rfl, e0, (by decide : 0 + 0 ≤ _), (by decide : 0 + 0 ≤ _)⟩)
  dsimp only [Pt.U, Pt.locs, Pt.cells, Pt.slots] at X1 l1 y1 z1 st1 hQ1
  subst l1 y1 z1
  obtain ⟨rfl, Nq1, e1⟩ := hQ1
  have N1 := Fr.app N0 Nq1
  obtain ⟨fs, hr, hrun, hended, hW, hsame⟩ := X1.leave (v := some (xi (1 : Int32))) (fun h => by rw [Bd.returns] at h; cases h)
  refine ⟨_, _, pre0 _ ?_, hrun, hended, _, _, rfl, ?_, ⟨_, rfl⟩, hW, hsame.mono (by decide) (by decide)⟩
  · show own_S p e below s₁ (mkF m 0 #[vr u5, vi (0 : Int32)] []) _
    refine XS.aloadN X0.here hx rfl (hb hby d5_0) rfl rfl ?_
    show own_S p e below s₁ (mkF m 1 #[vr u5, vi (0 : Int32)] [xr u5]) _
    refine st1.trans ?_
    show own_S p e below T1 (mkF m 4 #[vr u5, vi (0 : Int32)] [xi (5 : Int32)]) _
    refine XS.tswIn X1.here hx rfl (pc0 := 4) (pc' := 114) (o := 110) rfl (hb hby d5_4) rfl (by decide) (by decide) (by decide) (by decide) ?_
    show own_S p e below T1 (mkF m 114 #[vr u5, vi (0 : Int32)] []) _
    refine XS.iloadN X1.here hx rfl (hb hby d5_114) rfl ?_
    show own_S p e below T1 (mkF m 115 #[vr u5, vi (0 : Int32)] [xi (0 : Int32)]) _
    refine XS.ifNo X1.here hx rfl (hb hby d5_115) rfl (by decide) ?_
    show own_S p e below T1 (mkF m 118 #[vr u5, vi (0 : Int32)] []) _
    refine XS.iconst X1.here hx rfl (hb hby d5_118) ?_
    show own_S p e below T1 (mkF m 119 #[vr u5, vi (0 : Int32)] [xi (1 : Int32)]) _
    refine XS.goto X1.here hx rfl (pc0 := 119) (pc' := 123) rfl (hb hby d5_119) (by decide) (by decide) ?_
    show own_S p e below T1 (mkF m 123 #[vr u5, vi (0 : Int32)] [xi (1 : Int32)]) _
    exact retN X1 hx (t := .boolean) Bd.returns (by simp) (hb hby d5_123) hr
  · exact ⟨rfl, N1, e1⟩
theorem ef_own_l13 (m : MethodId) (u0 u1 u2 u3 u4 u5 : Addr) (p1 : Int32) (p2 : Int32) (p3 : Int32) (p4 : Int32) : entryFrame m #[xi p1, xi p2, xi p3, xi p4] maxLocals = (mkF m 0 #[vi p1, vi p2, vi p3, vi p4, vu, vu, vu, vu, vu] []) := by first | (simp [entryFrame, mkF, argsToLocals, Value.category, maxLocals]; done) | rfl
set_option maxRecDepth 65536 in
set_option maxHeartbeats 40000000 in
theorem own_l13 (l : Launch) (Z : State) (a0 : Array Value) (hw : ∀ d ∈ tables_1, d.before a0 Z = true) (u0 u1 u2 u3 u4 u5 : Addr) (G : own_St Z u0 u1 u2 u3 u4 u5) (p1 : Int32) (p2 : Int32) (p3 : Int32) (p4 : Int32) (as11 : ((p1 &&& (2147483647 : Int32)) - ((p1 &&& (2147483647 : Int32)) / (6 : Int32)) * (6 : Int32)) = (3 : Int32)) (as14 : (p4 &&& (1 : Int32)) = (0 : Int32)) (as3 : if_icmp.holds .ge p2 p3 = true) (as4 : if_icmp.holds .ne p2 p3 = false) (as1 : if_icmp.holds .ge p3 p2 = true) (as5 : if_icmp.holds .ne p3 p2 = false) (h0 : Heap) (n0 : Nat) (O0 : Old Z n0 h0) : own_Met l Z x code maxLocals ret room_1 #[xi p1, xi p2, xi p3, xi p4] h0 (own_QL (some (xi (1 : Int32))) n0) := by
  intro ws
  refine MetFree.of_bodySF (plainFor_of_name pn0) hisR ?_
  intro p e s m args below meth c s₁ Bd hml0 hP hK
  obtain ⟨rfl, hZ, hh⟩ := hP
  have hx := Bd.exec
  have hby := Bd.bytes
  have hml : c.maxLocals = 9 := hml0
  have hown : s.vm.findClass "com/example/whyle/whyle/cfa/RelationConversePinLaw" = some m.cls := findClass_of_methodNamed Bd.named
  have hnm := (name_of_methodNamed Bd.named Bd.method).1
  have X0 : Stand p l e room_1 s m #[xi p1, xi p2, xi p3, xi p4] below meth c s₁ [] 0 0 := Stand.of_body Bd
  have e0 : s₁.heap = h0 := by rw [← hh, Bd.state]; rfl
  have N0 := Fr.nil n0
  have pre0 : ∀ t, Steps p.tables e below (s₁.setTop (mkF m 0 #[vi p1, vi p2, vi p3, vi p4, vu, vu, vu, vu, vu] [])) t → Steps p.tables e below (s₁.setTop (entryFrame m #[xi p1, xi p2, xi p3, xi p4] maxLocals)) t := fun t st => castTop (ef_own_l13 m u0 u1 u2 u3 u4 u5 p1 p2 p3 p4) st
  obtain ⟨_, _, ⟨T1, L1, k1, n1⟩, -, X1, ⟨Lc1, hQ1, l1, y1, z1⟩, st1⟩ := Jvm.LawKit.callS X0 hx (y := Y0) hown (mvT hZ (ww hw 0 rfl)) (mvT hZ (ww hw 1 rfl)) (mvT hZ (ww hw 2 rfl)) (mvT hZ (ww hw 3 rfl)) (by decide) (backOf (W := 0) (own_c29_pick l Z a0 hw u0 u1 u2 u3 u4 u5 G p1 as11 h0 n0 O0 []) hZ (ww hw 3 rfl) (ww hw 2 rfl) (by decide) (by decide)) (g := (mkF m 1 #[vi p1, vi p2, vi p3, vi p4, vu, vu, vu, vu, vu] [xi p1])) rfl (by rw [hml]; rfl) (argsL := [xi p1]) (rest := []) (lenOf pd0 rfl) rfl (by show 2 * 0 + _ ≤ _; exact Nat.le_of_eq rfl) (hb hby at_1) (fun _ _ => ⟨rfl, e0, (by decide : 0 + 0 ≤ _), (by decide : 0 + 0 ≤ _)⟩)
  dsimp only [Pt.U, Pt.locs, Pt.cells, Pt.slots] at X1 l1 y1 z1 st1 hQ1
  subst l1 y1 z1
  obtain ⟨rfl, Nq1, e1⟩ := hQ1
  have N1 := Fr.app N0 Nq1
  obtain ⟨cq2, kq2, qa2, qb2, qc2⟩ := isOf hZ e1 ((own_X_u4 G).ext O0.2)
  obtain ⟨_, _, ⟨T2, L2, k2, n2⟩, -, X2, ⟨Lc2, hQ2, l2, y2, z2⟩, st2⟩ := X1.virtualBack hx (y := Y3) (z := Y3) hown (mvT hZ (ww hw 8 rfl)) (mvT hZ (ww hw 9 rfl)) (notFace_of_selects (args := #[]) (mvT hZ (ww hw 11 rfl))) (mvT hZ (ww hw 11 rfl)) (mvT hZ (ww hw 10 rfl)) (by decide) (backOf (W := 0) (own_c30_converse l Z a0 hw u0 u1 u2 u3 u4 u5 G h0 n0 O0 []) hZ (ww hw 12 rfl) (ww hw 6 rfl) (by decide) (by decide)) qa2 qc2 (g := (mkF m 21 #[vi p1, vi p2, vi p3, vi p4, vr u4, vi p3, vu, vu, vu] [xr u4])) rfl (by rw [hml]; rfl) (Steps.refl _) (argsL := []) (rest := []) (lenOf pd2 rfl) rfl (by show 2 * 0 + _ ≤ _; exact Nat.le_of_eq rfl) (hb hby at_21) (fun _ _ => ⟨rfl, e1, (by decide : 0 + 0 ≤ _), (by decide : 0 + 0 ≤ _)⟩)
  dsimp only [Pt.U, Pt.locs, Pt.cells, Pt.slots] at X2 l2 y2 z2 st2 hQ2
  subst l2 y2 z2
  obtain ⟨rfl, Nq2, e2⟩ := hQ2
  have N2 := Fr.app N1 Nq2
  obtain ⟨_, _, ⟨T3, L3, k3, n3⟩, -, X3, ⟨Lc3, hQ3, l3, y3, z3⟩, st3⟩ := Jvm.LawKit.callS X2 hx (y := Y4) hown (mvT hZ (ww hw 23 rfl)) (mvT hZ (ww hw 24 rfl)) (mvT hZ (ww hw 2 rfl)) (mvT hZ (ww hw 25 rfl)) (by decide) (backOf (W := 1) (own_c7_sign l Z a0 hw u0 u1 u2 u3 u4 u5 G p2 p3 as3 as4 h0 n0 O0 []) hZ (ww hw 25 rfl) (ww hw 2 rfl) (by decide) (by decide)) (g := (mkF m 38 #[vi p1, vi p2, vi p3, vi p4, vr u4, vi p3, vr u5, vu, vu] [xi p3, xi p2, xr u4])) rfl (by rw [hml]; rfl) (argsL := [xi p2, xi p3]) (rest := [xr u4]) (lenOf pd3 rfl) rfl (by show 2 * 0 + _ ≤ _; exact Nat.le_of_eq rfl) (hb hby at_38) (fun _ _ => ⟨rfl, e2, (by decide : 0 + 0 ≤ _), (by decide : 0 + 0 ≤ _)⟩)
  dsimp only [Pt.U, Pt.locs, Pt.cells, Pt.slots] at X3 l3 y3 z3 st3 hQ3
  subst l3 y3 z3
  obtain ⟨rfl, Nq3, e3⟩ := hQ3
  have N3 := Fr.app N2 Nq3
  obtain ⟨cq4, kq4, qa4, qb4, qc4⟩ := isOf hZ e3 ((own_X_u4 G).ext O0.2)
  obtain ⟨_, _, ⟨T4, L4, k4, n4⟩, -, X4, ⟨Lc4, hQ4, l4, y4, z4⟩, st4⟩ := X3.virtualBack hx (y := Y5) (z := Y5) hown (mvT hZ (ww hw 26 rfl)) (mvT hZ (ww hw 27 rfl)) (notFace_of_selects (args := #[]) (mvT hZ (ww hw 29 rfl))) (mvT hZ (ww hw 29 rfl)) (mvT hZ (ww hw 28 rfl)) (by decide) (backOf (W := 0) (own_c35_holds l Z a0 hw u0 u1 u2 u3 u4 u5 G h0 n0 O0 []) hZ (ww hw 30 rfl) (ww hw 6 rfl) (by decide) (by decide)) qa4 qc4 (g := (mkF m 41 #[vi p1, vi p2, vi p3, vi p4, vr u4, vi p3, vr u5, vu, vu] [xi (0 : Int32), xr u4])) rfl (by rw [hml]; rfl) (Steps.refl _) (argsL := [xi (0 : Int32)]) (rest := []) (lenOf pd4 rfl) rfl (by show 2 * 0 + _ ≤ _; exact Nat.le_of_eq rfl) (hb hby at_41) (fun _ _ => ⟨rfl, e3, (by decide : 0 + 0 ≤ _), (by decide : 0 + 0 ≤ _)⟩)
  dsimp only [Pt.U, Pt.locs, Pt.cells, Pt.slots] at X4 l4 y4 z4 st4 hQ4
  subst l4 y4 z4
  obtain ⟨rfl, Nq4, e4⟩ := hQ4
  have N4 := Fr.app N3 Nq4
  obtain ⟨_, _, ⟨T5, L5, k5, n5⟩, -, X5, ⟨Lc5, hQ5, l5, y5, z5⟩, st5⟩ := Jvm.LawKit.callS X4 hx (y := Y4) hown (mvT hZ (ww hw 23 rfl)) (mvT hZ (ww hw 24 rfl)) (mvT hZ (ww hw 2 rfl)) (mvT hZ (ww hw 25 rfl)) (by decide) (backOf (W := 1) (own_c9_sign l Z a0 hw u0 u1 u2 u3 u4 u5 G p2 p3 as1 as5 h0 n0 O0 []) hZ (ww hw 25 rfl) (ww hw 2 rfl) (by decide) (by decide)) (g := (mkF m 51 #[vi p1, vi p2, vi p3, vi p4, vr u4, vi p3, vr u5, vi (1 : Int32), vu] [xi p2, xi p3, xr u5])) rfl (by rw [hml]; rfl) (argsL := [xi p3, xi p2]) (rest := [xr u5]) (lenOf pd3 rfl) rfl (by show 2 * 0 + _ ≤ _; exact Nat.le_of_eq rfl) (hb hby at_51) (fun _ _ => ⟨rfl, e4, (by decide : 0 + 0 ≤ _), (by decide : 0 + 0 ≤ _)⟩)
  dsimp only [Pt.U, Pt.locs, Pt.cells, Pt.slots] at X5 l5 y5 z5 st5 hQ5
  subst l5 y5 z5
  obtain ⟨rfl, Nq5, e5⟩ := hQ5
  have N5 := Fr.app N4 Nq5
  obtain ⟨cq6, kq6, qa6, qb6, qc6⟩ := isOf hZ e5 ((own_X_u5 G).ext O0.2)
  obtain ⟨_, _, ⟨T6, L6, k6, n6⟩, -, X6, ⟨Lc6, hQ6, l6, y6, z6⟩, st6⟩ := X5.virtualBack hx (y := Y5) (z := Y5) hown (mvT hZ (ww hw 26 rfl)) (mvT hZ (ww hw 27 rfl)) (notFace_of_selects (args := #[]) (mvT hZ (ww hw 29 rfl))) (mvT hZ (ww hw 29 rfl)) (mvT hZ (ww hw 28 rfl)) (by decide) (backOf (W := 0) (own_c36_holds l Z a0 hw u0 u1 u2 u3 u4 u5 G h0 n0 O0 []) hZ (ww hw 30 rfl) (ww hw 6 rfl) (by decide) (by decide)) qa6 qc6 (g := (mkF m 54 #[vi p1, vi p2, vi p3, vi p4, vr u4, vi p3, vr u5, vi (1 : Int32), vu] [xi (0 : Int32), xr u5])) rfl (by rw [hml]; rfl) (Steps.refl _) (argsL := [xi (0 : Int32)]) (rest := []) (lenOf pd4 rfl) rfl (by show 2 * 0 + _ ≤ _; exact Nat.le_of_eq rfl) (hb hby at_54) (fun _ _ => ⟨rfl, e5, (by decide : 0 + 0 ≤ _), (by decide : 0 + 0 ≤ _)⟩)
  dsimp only [Pt.U, Pt.locs, Pt.cells, Pt.slots] at X6 l6 y6 z6 st6 hQ6
  subst l6 y6 z6
  obtain ⟨rfl, Nq6, e6⟩ := hQ6
  have N6 := Fr.app N5 Nq6
  obtain ⟨fs, hr, hrun, hended, hW, hsame⟩ := X6.leave (v := some (xi (1 : Int32))) (fun h => by rw [Bd.returns] at h; cases h)
  refine ⟨_, _, pre0 _ ?_, hrun, hended, _, _, rfl, ?_, ⟨_, rfl⟩, hW, hsame.mono (by decide) (by decide)⟩
  · show own_S p e below s₁ (mkF m 0 #[vi p1, vi p2, vi p3, vi p4, vu, vu, vu, vu, vu] []) _
    refine XS.iloadN X0.here hx rfl (hb hby at_0) rfl ?_
    show own_S p e below s₁ (mkF m 1 #[vi p1, vi p2, vi p3, vi p4, vu, vu, vu, vu, vu] [xi p1]) _
    refine st1 _ ?_
    show own_S p e below T1 (mkF m 4 #[vi p1, vi p2, vi p3, vi p4, vu, vu, vu, vu, vu] [xr u4]) _
    refine XS.astore X1.here hx rfl (hb hby at_4) rfl rfl (l' := #[vi p1, vi p2, vi p3, vi p4, vr u4, vu, vu, vu, vu]) rfl ?_
    show own_S p e below T1 (mkF m 6 #[vi p1, vi p2, vi p3, vi p4, vr u4, vu, vu, vu, vu] []) _
    refine XS.iloadN X1.here hx rfl (hb hby at_6) rfl ?_
    show own_S p e below T1 (mkF m 7 #[vi p1, vi p2, vi p3, vi p4, vr u4, vu, vu, vu, vu] [xi p4]) _
    refine XS.iconst X1.here hx rfl (hb hby at_7) ?_
    show own_S p e below T1 (mkF m 8 #[vi p1, vi p2, vi p3, vi p4, vr u4, vu, vu, vu, vu] [xi (1 : Int32), xi p4]) _
    refine XS.iand X1.here hx rfl (hb hby at_8) rfl ?_
    show own_S p e below T1 (mkF m 9 #[vi p1, vi p2, vi p3, vi p4, vr u4, vu, vu, vu, vu] [xi (p4 &&& (1 : Int32))]) _
    refine castTop (show (mkF m 9 #[vi p1, vi p2, vi p3, vi p4, vr u4, vu, vu, vu, vu] [xi (p4 &&& (1 : Int32))]) = (mkF m 9 #[vi p1, vi p2, vi p3, vi p4, vr u4, vu, vu, vu, vu] [xi (0 : Int32)]) from by rw [as14]) ?_
    show own_S p e below T1 (mkF m 9 #[vi p1, vi p2, vi p3, vi p4, vr u4, vu, vu, vu, vu] [xi (0 : Int32)]) _
    refine XS.ifYes X1.here hx rfl (pc0 := 9) (pc' := 16) rfl (hb hby at_9) rfl (by decide) (by decide) (by decide) ?_
    show own_S p e below T1 (mkF m 16 #[vi p1, vi p2, vi p3, vi p4, vr u4, vu, vu, vu, vu] []) _
    refine XS.iloadN X1.here hx rfl (hb hby at_16) rfl ?_
    show own_S p e below T1 (mkF m 17 #[vi p1, vi p2, vi p3, vi p4, vr u4, vu, vu, vu, vu] [xi p3]) _
    refine XS.istore X1.here hx rfl (hb hby at_17) rfl (l' := #[vi p1, vi p2, vi p3, vi p4, vr u4, vi p3, vu, vu, vu]) rfl ?_
    show own_S p e below T1 (mkF m 19 #[vi p1, vi p2, vi p3, vi p4, vr u4, vi p3, vu, vu, vu] []) _
    refine XS.aload X1.here hx rfl (hb hby at_19) rfl rfl ?_
    show own_S p e below T1 (mkF m 21 #[vi p1, vi p2, vi p3, vi p4, vr u4, vi p3, vu, vu, vu] [xr u4]) _
    refine st2.trans ?_
    show own_S p e below T2 (mkF m 24 #[vi p1, vi p2, vi p3, vi p4, vr u4, vi p3, vu, vu, vu] [xr u5]) _
    refine XS.astore X2.here hx rfl (hb hby at_24) rfl rfl (l' := #[vi p1, vi p2, vi p3, vi p4, vr u4, vi p3, vr u5, vu, vu]) rfl ?_
    show own_S p e below T2 (mkF m 26 #[vi p1, vi p2, vi p3, vi p4, vr u4, vi p3, vr u5, vu, vu] []) _
    refine XS.aload X2.here hx rfl (hb hby at_26) rfl rfl ?_
    show own_S p e below T2 (mkF m 28 #[vi p1, vi p2, vi p3, vi p4, vr u4, vi p3, vr u5, vu, vu] [xr u5]) _
    refine Jvm.Free.XT.nonnullYes X2.here hx rfl (pc0 := 28) (pc' := 33) rfl (hb hby at_28) rfl rfl (by simp) (by decide) (by decide) ?_
    show own_S p e below T2 (mkF m 33 #[vi p1, vi p2, vi p3, vi p4, vr u4, vi p3, vr u5, vu, vu] []) _
    refine XS.aload X2.here hx rfl (hb hby at_33) rfl rfl ?_
    show own_S p e below T2 (mkF m 35 #[vi p1, vi p2, vi p3, vi p4, vr u4, vi p3, vr u5, vu, vu] [xr u4]) _
    refine XS.iloadN X2.here hx rfl (hb hby at_35) rfl ?_
    show own_S p e below T2 (mkF m 36 #[vi p1, vi p2, vi p3, vi p4, vr u4, vi p3, vr u5, vu, vu] [xi p2, xr u4]) _
    refine XS.iload X2.here hx rfl (hb hby at_36) rfl ?_
    show own_S p e below T2 (mkF m 38 #[vi p1, vi p2, vi p3, vi p4, vr u4, vi p3, vr u5, vu, vu] [xi p3, xi p2, xr u4]) _
    refine st3 _ ?_
    show own_S p e below T3 (mkF m 41 #[vi p1, vi p2, vi p3, vi p4, vr u4, vi p3, vr u5, vu, vu] [xi (0 : Int32), xr u4]) _
    refine st4.trans ?_
    show own_S p e below T4 (mkF m 44 #[vi p1, vi p2, vi p3, vi p4, vr u4, vi p3, vr u5, vu, vu] [xi (1 : Int32)]) _
    refine XS.istore X4.here hx rfl (hb hby at_44) rfl (l' := #[vi p1, vi p2, vi p3, vi p4, vr u4, vi p3, vr u5, vi (1 : Int32), vu]) rfl ?_
    show own_S p e below T4 (mkF m 46 #[vi p1, vi p2, vi p3, vi p4, vr u4, vi p3, vr u5, vi (1 : Int32), vu] []) _
    refine XS.aload X4.here hx rfl (hb hby at_46) rfl rfl ?_
    show own_S p e below T4 (mkF m 48 #[vi p1, vi p2, vi p3, vi p4, vr u4, vi p3, vr u5, vi (1 : Int32), vu] [xr u5]) _
    refine XS.iload X4.here hx rfl (hb hby at_48) rfl ?_
    show own_S p e below T4 (mkF m 50 #[vi p1, vi p2, vi p3, vi p4, vr u4, vi p3, vr u5, vi (1 : Int32), vu] [xi p3, xr u5]) _
    refine XS.iloadN X4.here hx rfl (hb hby at_50) rfl ?_
    show own_S p e below T4 (mkF m 51 #[vi p1, vi p2, vi p3, vi p4, vr u4, vi p3, vr u5, vi (1 : Int32), vu] [xi p2, xi p3, xr u5]) _
    refine st5 _ ?_
    show own_S p e below T5 (mkF m 54 #[vi p1, vi p2, vi p3, vi p4, vr u4, vi p3, vr u5, vi (1 : Int32), vu] [xi (0 : Int32), xr u5]) _
    refine st6.trans ?_
    show own_S p e below T6 (mkF m 57 #[vi p1, vi p2, vi p3, vi p4, vr u4, vi p3, vr u5, vi (1 : Int32), vu] [xi (1 : Int32)]) _
    refine XS.istore X6.here hx rfl (hb hby at_57) rfl (l' := #[vi p1, vi p2, vi p3, vi p4, vr u4, vi p3, vr u5, vi (1 : Int32), vi (1 : Int32)]) rfl ?_
    show own_S p e below T6 (mkF m 59 #[vi p1, vi p2, vi p3, vi p4, vr u4, vi p3, vr u5, vi (1 : Int32), vi (1 : Int32)] []) _
    refine XS.iload X6.here hx rfl (hb hby at_59) rfl ?_
    show own_S p e below T6 (mkF m 61 #[vi p1, vi p2, vi p3, vi p4, vr u4, vi p3, vr u5, vi (1 : Int32), vi (1 : Int32)] [xi (1 : Int32)]) _
    refine XS.iload X6.here hx rfl (hb hby at_61) rfl ?_
    show own_S p e below T6 (mkF m 63 #[vi p1, vi p2, vi p3, vi p4, vr u4, vi p3, vr u5, vi (1 : Int32), vi (1 : Int32)] [xi (1 : Int32), xi (1 : Int32)]) _
    refine XS.icmpNo X6.here hx rfl (hb hby at_63) rfl (by decide) ?_
    show own_S p e below T6 (mkF m 66 #[vi p1, vi p2, vi p3, vi p4, vr u4, vi p3, vr u5, vi (1 : Int32), vi (1 : Int32)] []) _
    refine XS.iconst X6.here hx rfl (hb hby at_66) ?_
    show own_S p e below T6 (mkF m 67 #[vi p1, vi p2, vi p3, vi p4, vr u4, vi p3, vr u5, vi (1 : Int32), vi (1 : Int32)] [xi (1 : Int32)]) _
    refine XS.goto X6.here hx rfl (pc0 := 67) (pc' := 71) rfl (hb hby at_67) (by decide) (by decide) ?_
    show own_S p e below T6 (mkF m 71 #[vi p1, vi p2, vi p3, vi p4, vr u4, vi p3, vr u5, vi (1 : Int32), vi (1 : Int32)] [xi (1 : Int32)]) _
    exact retN X6 hx (t := .boolean) Bd.returns (by simp) (hb hby at_71) hr
  · exact ⟨rfl, N6⟩
theorem d5_98 : decode prog_62_method_8_code 98 = .ok (.iconst 0, 1) := by decide +kernel
theorem d5_99 : decode prog_62_method_8_code 99 = .ok (.goto 24, 3) := by decide +kernel
theorem ef_own_c37_holds (m : MethodId) (u0 u1 u2 u3 u4 u5 : Addr) : entryFrame m #[xr u4, xi (1 : Int32)] 2 = (mkF m 0 #[vr u4, vi (1 : Int32)] []) := by first | (simp [entryFrame, mkF, argsToLocals, Value.category]; done) | rfl
set_option maxRecDepth 65536 in
set_option maxHeartbeats 40000000 in
theorem own_c37_holds (l : Launch) (Z : State) (a0 : Array Value) (hw : ∀ d ∈ tables_1, d.before a0 Z = true) (u0 u1 u2 u3 u4 u5 : Addr) (G : own_St Z u0 u1 u2 u3 u4 u5) (h0 : Heap) (n0 : Nat) (O0 : Old Z n0 h0) : own_Met l Z Y5 prog_62_method_8_code 2 (some .boolean) ({ frames := 1, cells := 0, slots := 0, locals := 12 } : Room) #[xr u4, xi (1 : Int32)] h0 (own_QR (some (xi (0 : Int32))) h0 n0) := by
  intro ws
  refine MetFree.of_bodySF (plainFor_of_name pn2) hisR ?_
  intro p e s m args below meth c s₁ Bd hml0 hP hK
  obtain ⟨rfl, hZ, hh⟩ := hP
  have hx := Bd.exec
  have hby := Bd.bytes
  have hml : c.maxLocals = 2 := hml0
  have hown : s.vm.findClass "com/example/whyle/whyle/cfa/Relation" = some m.cls := findClass_of_methodNamed Bd.named
  have hnm := (name_of_methodNamed Bd.named Bd.method).1
  have X0 : Stand p l e ({ frames := 1, cells := 0, slots := 0, locals := 12 } : Room) s m #[xr u4, xi (1 : Int32)] below meth c s₁ [] 0 0 := Stand.of_body Bd
  have e0 : s₁.heap = h0 := by rw [← hh, Bd.state]; rfl
  have N0 := Fr.nil n0
  have pre0 : ∀ t, Steps p.tables e below (s₁.setTop (mkF m 0 #[vr u4, vi (1 : Int32)] [])) t → Steps p.tables e below (s₁.setTop (entryFrame m #[xr u4, xi (1 : Int32)] 2)) t := fun t st => castTop (ef_own_c37_holds m u0 u1 u2 u3 u4 u5) st
  obtain ⟨cq1, kq1, qa1, qb1, qc1⟩ := isOf hZ e0 ((own_X_u4 G).ext O0.2)
  obtain ⟨_, _, ⟨T1, L1, k1, n1⟩, -, X1, ⟨Lc1, hQ1, l1, y1, z1⟩, st1⟩ := X0.virtualBackUp hx (x := Y2) (y := Y1) hown (mvT hZ (ww hw 13 rfl)) (mvT hZ (ww hw 14 rfl)) (mvT hZ (ww hw 15 rfl)) (by decide) (mvT hZ (ww hw 17 rfl)) (mvT hZ (ww hw 16 rfl)) (backOf (W := 0) (own_c30_ordinal l Z a0 hw u0 u1 u2 u3 u4 u5 G h0 n0 O0 []) hZ (ww hw 19 rfl) (ww hw 18 rfl) (by decide) (by decide)) qa1 qc1 (g := (mkF m 1 #[vr u4, vi (1 : Int32)] [xr u4])) rfl (by rw [hml]; rfl) (Steps.refl _) (argsL := []) (rest := []) (lenOf pd1 rfl) rfl (by show 2 * 0 + _ ≤ _; exact Nat.le_of_eq rfl) (hb hby d5_1) (fun _ _ => ⟨rfl, e0, (by decide : 0 + 0 ≤ _), (by decide : 0 + 0 ≤ _)⟩)
  dsimp only [Pt.U, Pt.locs, Pt.cells, Pt.slots] at X1 l1 y1 z1 st1 hQ1
  subst l1 y1 z1
  obtain ⟨rfl, Nq1, e1⟩ := hQ1
  have N1 := Fr.app N0 Nq1
  obtain ⟨fs, hr, hrun, hended, hW, hsame⟩ := X1.leave (v := some (xi (0 : Int32))) (fun h => by rw [Bd.returns] at h; cases h)
  refine ⟨_, _, pre0 _ ?_, hrun, hended, _, _, rfl, ?_, ⟨_, rfl⟩, hW, hsame.mono (by decide) (by decide)⟩
  · show own_S p e below s₁ (mkF m 0 #[vr u4, vi (1 : Int32)] []) _
    refine XS.aloadN X0.here hx rfl (hb hby d5_0) rfl rfl ?_
    show own_S p e below s₁ (mkF m 1 #[vr u4, vi (1 : Int32)] [xr u4]) _
    refine st1.trans ?_
    show own_S p e below T1 (mkF m 4 #[vr u4, vi (1 : Int32)] [xi (3 : Int32)]) _
    refine XS.tswIn X1.here hx rfl (pc0 := 4) (pc' := 90) (o := 86) rfl (hb hby d5_4) rfl (by decide) (by decide) (by decide) (by decide) ?_
    show own_S p e below T1 (mkF m 90 #[vr u4, vi (1 : Int32)] []) _
    refine XS.iloadN X1.here hx rfl (hb hby d5_90) rfl ?_
    show own_S p e below T1 (mkF m 91 #[vr u4, vi (1 : Int32)] [xi (1 : Int32)]) _
    refine XS.ifYes X1.here hx rfl (pc0 := 91) (pc' := 98) rfl (hb hby d5_91) rfl (by decide) (by decide) (by decide) ?_
    show own_S p e below T1 (mkF m 98 #[vr u4, vi (1 : Int32)] []) _
    refine XS.iconst X1.here hx rfl (hb hby d5_98) ?_
    show own_S p e below T1 (mkF m 99 #[vr u4, vi (1 : Int32)] [xi (0 : Int32)]) _
    refine XS.goto X1.here hx rfl (pc0 := 99) (pc' := 123) rfl (hb hby d5_99) (by decide) (by decide) ?_
    show own_S p e below T1 (mkF m 123 #[vr u4, vi (1 : Int32)] [xi (0 : Int32)]) _
    exact retN X1 hx (t := .boolean) Bd.returns (by simp) (hb hby d5_123) hr
  · exact ⟨rfl, N1, e1⟩
theorem d5_122 : decode prog_62_method_8_code 122 = .ok (.iconst 0, 1) := by decide +kernel
theorem ef_own_c38_holds (m : MethodId) (u0 u1 u2 u3 u4 u5 : Addr) : entryFrame m #[xr u5, xi (-1 : Int32)] 2 = (mkF m 0 #[vr u5, vi (-1 : Int32)] []) := by first | (simp [entryFrame, mkF, argsToLocals, Value.category]; done) | rfl
set_option maxRecDepth 65536 in
set_option maxHeartbeats 40000000 in
theorem own_c38_holds (l : Launch) (Z : State) (a0 : Array Value) (hw : ∀ d ∈ tables_1, d.before a0 Z = true) (u0 u1 u2 u3 u4 u5 : Addr) (G : own_St Z u0 u1 u2 u3 u4 u5) (h0 : Heap) (n0 : Nat) (O0 : Old Z n0 h0) : own_Met l Z Y5 prog_62_method_8_code 2 (some .boolean) ({ frames := 1, cells := 0, slots := 0, locals := 12 } : Room) #[xr u5, xi (-1 : Int32)] h0 (own_QR (some (xi (0 : Int32))) h0 n0) := by
  intro ws
  refine MetFree.of_bodySF (plainFor_of_name pn2) hisR ?_
  intro p e s m args below meth c s₁ Bd hml0 hP hK
  obtain ⟨rfl, hZ, hh⟩ := hP
  have hx := Bd.exec
  have hby := Bd.bytes
  have hml : c.maxLocals = 2 := hml0
  have hown : s.vm.findClass "com/example/whyle/whyle/cfa/Relation" = some m.cls := findClass_of_methodNamed Bd.named
  have hnm := (name_of_methodNamed Bd.named Bd.method).1
  have X0 : Stand p l e ({ frames := 1, cells := 0, slots := 0, locals := 12 } : Room) s m #[xr u5, xi (-1 : Int32)] below meth c s₁ [] 0 0 := Stand.of_body Bd
  have e0 : s₁.heap = h0 := by rw [← hh, Bd.state]; rfl
  have N0 := Fr.nil n0
  have pre0 : ∀ t, Steps p.tables e below (s₁.setTop (mkF m 0 #[vr u5, vi (-1 : Int32)] [])) t → Steps p.tables e below (s₁.setTop (entryFrame m #[xr u5, xi (-1 : Int32)] 2)) t := fun t st => castTop (ef_own_c38_holds m u0 u1 u2 u3 u4 u5) st
  obtain ⟨cq1, kq1, qa1, qb1, qc1⟩ := isOf hZ e0 ((own_X_u5 G).ext O0.2)
  obtain ⟨_, _, ⟨T1, L1, k1, n1⟩, -, X1, ⟨Lc1, hQ1, l1, y1, z1⟩, st1⟩ := X0.virtualBackUp hx (x := Y2) (y := Y1) hown (mvT hZ (ww hw 13 rfl)) (mvT hZ (ww hw 14 rfl)) (mvT hZ (ww hw 15 rfl)) (by decide) (mvT hZ (ww hw 17 rfl)) (mvT hZ (ww hw 16 rfl)) (backOf (W := 0) (own_c33_ordinal l Z a0 hw u0 u1 u2 u3 u4 u5 G h0 n0 O0 []) hZ (ww hw 19 rfl) (ww hw 18 rfl) (by decide) (by decide)) qa1 qc1 (g := (mkF m 1 #[vr u5, vi (-1 : Int32)] [xr u5])) rfl (by rw [hml]; rfl) (Steps.refl _) (argsL := []) (rest := []) (lenOf pd1 rfl) rfl (by show 2 * 0 + _ ≤ _; exact Nat.le_of_eq rfl) (hb hby d5_1) (fun _ _ => ⟨rfl, e0, (by decide : 0 + 0 ≤ _), (by decide : 0 + 0 ≤ _)⟩)
  dsimp only [Pt.U, Pt.locs, Pt.cells, Pt.slots] at X1 l1 y1 z1 st1 hQ1
  subst l1 y1 z1
  obtain ⟨rfl, Nq1, e1⟩ := hQ1
  have N1 := Fr.app N0 Nq1
  obtain ⟨fs, hr, hrun, hended, hW, hsame⟩ := X1.leave (v := some (xi (0 : Int32))) (fun h => by rw [Bd.returns] at h; cases h)
  refine ⟨_, _, pre0 _ ?_, hrun, hended, _, _, rfl, ?_, ⟨_, rfl⟩, hW, hsame.mono (by decide) (by decide)⟩
  · show own_S p e below s₁ (mkF m 0 #[vr u5, vi (-1 : Int32)] []) _
    refine XS.aloadN X0.here hx rfl (hb hby d5_0) rfl rfl ?_
    show own_S p e below s₁ (mkF m 1 #[vr u5, vi (-1 : Int32)] [xr u5]) _
    refine st1.trans ?_
    show own_S p e below T1 (mkF m 4 #[vr u5, vi (-1 : Int32)] [xi (5 : Int32)]) _
    refine XS.tswIn X1.here hx rfl (pc0 := 4) (pc' := 114) (o := 110) rfl (hb hby d5_4) rfl (by decide) (by decide) (by decide) (by decide) ?_
    show own_S p e below T1 (mkF m 114 #[vr u5, vi (-1 : Int32)] []) _
    refine XS.iloadN X1.here hx rfl (hb hby d5_114) rfl ?_
    show own_S p e below T1 (mkF m 115 #[vr u5, vi (-1 : Int32)] [xi (-1 : Int32)]) _
    refine XS.ifYes X1.here hx rfl (pc0 := 115) (pc' := 122) rfl (hb hby d5_115) rfl (by decide) (by decide) (by decide) ?_
    show own_S p e below T1 (mkF m 122 #[vr u5, vi (-1 : Int32)] []) _
    refine XS.iconst X1.here hx rfl (hb hby d5_122) ?_
    show own_S p e below T1 (mkF m 123 #[vr u5, vi (-1 : Int32)] [xi (0 : Int32)]) _
    exact retN X1 hx (t := .boolean) Bd.returns (by simp) (hb hby d5_123) hr
  · exact ⟨rfl, N1, e1⟩
theorem ef_own_l14 (m : MethodId) (u0 u1 u2 u3 u4 u5 : Addr) (p1 : Int32) (p2 : Int32) (p3 : Int32) (p4 : Int32) : entryFrame m #[xi p1, xi p2, xi p3, xi p4] maxLocals = (mkF m 0 #[vi p1, vi p2, vi p3, vi p4, vu, vu, vu, vu, vu] []) := by first | (simp [entryFrame, mkF, argsToLocals, Value.category, maxLocals]; done) | rfl
set_option maxRecDepth 65536 in
set_option maxHeartbeats 40000000 in
theorem own_l14 (l : Launch) (Z : State) (a0 : Array Value) (hw : ∀ d ∈ tables_1, d.before a0 Z = true) (u0 u1 u2 u3 u4 u5 : Addr) (G : own_St Z u0 u1 u2 u3 u4 u5) (p1 : Int32) (p2 : Int32) (p3 : Int32) (p4 : Int32) (as11 : ((p1 &&& (2147483647 : Int32)) - ((p1 &&& (2147483647 : Int32)) / (6 : Int32)) * (6 : Int32)) = (3 : Int32)) (as14 : (p4 &&& (1 : Int32)) = (0 : Int32)) (as3 : if_icmp.holds .ge p2 p3 = true) (as6 : if_icmp.holds .ne p2 p3 = true) (as7 : if_icmp.holds .ge p3 p2 = false) (h0 : Heap) (n0 : Nat) (O0 : Old Z n0 h0) : own_Met l Z x code maxLocals ret room_1 #[xi p1, xi p2, xi p3, xi p4] h0 (own_QL (some (xi (1 : Int32))) n0) := by
  intro ws
  refine MetFree.of_bodySF (plainFor_of_name pn0) hisR ?_
  intro p e s m args below meth c s₁ Bd hml0 hP hK
  obtain ⟨rfl, hZ, hh⟩ := hP
  have hx := Bd.exec
  have hby := Bd.bytes
  have hml : c.maxLocals = 9 := hml0
  have hown : s.vm.findClass "com/example/whyle/whyle/cfa/RelationConversePinLaw" = some m.cls := findClass_of_methodNamed Bd.named
  have hnm := (name_of_methodNamed Bd.named Bd.method).1
  have X0 : Stand p l e room_1 s m #[xi p1, xi p2, xi p3, xi p4] below meth c s₁ [] 0 0 := Stand.of_body Bd
  have e0 : s₁.heap = h0 := by rw [← hh, Bd.state]; rfl
  have N0 := Fr.nil n0
  have pre0 : ∀ t, Steps p.tables e below (s₁.setTop (mkF m 0 #[vi p1, vi p2, vi p3, vi p4, vu, vu, vu, vu, vu] [])) t → Steps p.tables e below (s₁.setTop (entryFrame m #[xi p1, xi p2, xi p3, xi p4] maxLocals)) t := fun t st => castTop (ef_own_l14 m u0 u1 u2 u3 u4 u5 p1 p2 p3 p4) st
  obtain ⟨_, _, ⟨T1, L1, k1, n1⟩, -, X1, ⟨Lc1, hQ1, l1, y1, z1⟩, st1⟩ := Jvm.LawKit.callS X0 hx (y := Y0) hown (mvT hZ (ww hw 0 rfl)) (mvT hZ (ww hw 1 rfl)) (mvT hZ (ww hw 2 rfl)) (mvT hZ (ww hw 3 rfl)) (by decide) (backOf (W := 0) (own_c29_pick l Z a0 hw u0 u1 u2 u3 u4 u5 G p1 as11 h0 n0 O0 []) hZ (ww hw 3 rfl) (ww hw 2 rfl) (by decide) (by decide)) (g := (mkF m 1 #[vi p1, vi p2, vi p3, vi p4, vu, vu, vu, vu, vu] [xi p1])) rfl (by rw [hml]; rfl) (argsL := [xi p1]) (rest := []) (lenOf pd0 rfl) rfl (by show 2 * 0 + _ ≤ _; exact Nat.le_of_eq rfl) (hb hby at_1) (fun _ _ => ⟨rfl, e0, (by decide : 0 + 0 ≤ _), (by decide : 0 + 0 ≤ _)⟩)
  dsimp only [Pt.U, Pt.locs, Pt.cells, Pt.slots] at X1 l1 y1 z1 st1 hQ1
  subst l1 y1 z1
  obtain ⟨rfl, Nq1, e1⟩ := hQ1
  have N1 := Fr.app N0 Nq1
  obtain ⟨cq2, kq2, qa2, qb2, qc2⟩ := isOf hZ e1 ((own_X_u4 G).ext O0.2)
  obtain ⟨_, _, ⟨T2, L2, k2, n2⟩, -, X2, ⟨Lc2, hQ2, l2, y2, z2⟩, st2⟩ := X1.virtualBack hx (y := Y3) (z := Y3) hown (mvT hZ (ww hw 8 rfl)) (mvT hZ (ww hw 9 rfl)) (notFace_of_selects (args := #[]) (mvT hZ (ww hw 11 rfl))) (mvT hZ (ww hw 11 rfl)) (mvT hZ (ww hw 10 rfl)) (by decide) (backOf (W := 0) (own_c30_converse l Z a0 hw u0 u1 u2 u3 u4 u5 G h0 n0 O0 []) hZ (ww hw 12 rfl) (ww hw 6 rfl) (by decide) (by decide)) qa2 qc2 (g := (mkF m 21 #[vi p1, vi p2, vi p3, vi p4, vr u4, vi p3, vu, vu, vu] [xr u4])) rfl (by rw [hml]; rfl) (Steps.refl _) (argsL := []) (rest := []) (lenOf pd2 rfl) rfl (by show 2 * 0 + _ ≤ _; exact Nat.le_of_eq rfl) (hb hby at_21) (fun _ _ => ⟨rfl, e1, (by decide : 0 + 0 ≤ _), (by decide : 0 + 0 ≤ _)⟩)
  dsimp only [Pt.U, Pt.locs, Pt.cells, Pt.slots] at X2 l2 y2 z2 st2 hQ2
  subst l2 y2 z2
  obtain ⟨rfl, Nq2, e2⟩ := hQ2
  have N2 := Fr.app N1 Nq2
  obtain ⟨_, _, ⟨T3, L3, k3, n3⟩, -, X3, ⟨Lc3, hQ3, l3, y3, z3⟩, st3⟩ := Jvm.LawKit.callS X2 hx (y := Y4) hown (mvT hZ (ww hw 23 rfl)) (mvT hZ (ww hw 24 rfl)) (mvT hZ (ww hw 2 rfl)) (mvT hZ (ww hw 25 rfl)) (by decide) (backOf (W := 1) (own_c10_sign l Z a0 hw u0 u1 u2 u3 u4 u5 G p2 p3 as3 as6 h0 n0 O0 []) hZ (ww hw 25 rfl) (ww hw 2 rfl) (by decide) (by decide)) (g := (mkF m 38 #[vi p1, vi p2, vi p3, vi p4, vr u4, vi p3, vr u5, vu, vu] [xi p3, xi p2, xr u4])) rfl (by rw [hml]; rfl) (argsL := [xi p2, xi p3]) (rest := [xr u4]) (lenOf pd3 rfl) rfl (by show 2 * 0 + _ ≤ _; exact Nat.le_of_eq rfl) (hb hby at_38) (fun _ _ => ⟨rfl, e2, (by decide : 0 + 0 ≤ _), (by decide : 0 + 0 ≤ _)⟩)
  dsimp only [Pt.U, Pt.locs, Pt.cells, Pt.slots] at X3 l3 y3 z3 st3 hQ3
  subst l3 y3 z3
  obtain ⟨rfl, Nq3, e3⟩ := hQ3
  have N3 := Fr.app N2 Nq3
  obtain ⟨cq4, kq4, qa4, qb4, qc4⟩ := isOf hZ e3 ((own_X_u4 G).ext O0.2)
  obtain ⟨_, _, ⟨T4, L4, k4, n4⟩, -, X4, ⟨Lc4, hQ4, l4, y4, z4⟩, st4⟩ := X3.virtualBack hx (y := Y5) (z := Y5) hown (mvT hZ (ww hw 26 rfl)) (mvT hZ (ww hw 27 rfl)) (notFace_of_selects (args := #[]) (mvT hZ (ww hw 29 rfl))) (mvT hZ (ww hw 29 rfl)) (mvT hZ (ww hw 28 rfl)) (by decide) (backOf (W := 0) (own_c37_holds l Z a0 hw u0 u1 u2 u3 u4 u5 G h0 n0 O0 []) hZ (ww hw 30 rfl) (ww hw 6 rfl) (by decide) (by decide)) qa4 qc4 (g := (mkF m 41 #[vi p1, vi p2, vi p3, vi p4, vr u4, vi p3, vr u5, vu, vu] [xi (1 : Int32), xr u4])) rfl (by rw [hml]; rfl) (Steps.refl _) (argsL := [xi (1 : Int32)]) (rest := []) (lenOf pd4 rfl) rfl (by show 2 * 0 + _ ≤ _; exact Nat.le_of_eq rfl) (hb hby at_41) (fun _ _ => ⟨rfl, e3, (by decide : 0 + 0 ≤ _), (by decide : 0 + 0 ≤ _)⟩)
  dsimp only [Pt.U, Pt.locs, Pt.cells, Pt.slots] at X4 l4 y4 z4 st4 hQ4
  subst l4 y4 z4
  obtain ⟨rfl, Nq4, e4⟩ := hQ4
  have N4 := Fr.app N3 Nq4
  obtain ⟨_, _, ⟨T5, L5, k5, n5⟩, -, X5, ⟨Lc5, hQ5, l5, y5, z5⟩, st5⟩ := Jvm.LawKit.callS X4 hx (y := Y4) hown (mvT hZ (ww hw 23 rfl)) (mvT hZ (ww hw 24 rfl)) (mvT hZ (ww hw 2 rfl)) (mvT hZ (ww hw 25 rfl)) (by decide) (backOf (W := 1) (own_c11_sign l Z a0 hw u0 u1 u2 u3 u4 u5 G p2 p3 as7 h0 n0 O0 []) hZ (ww hw 25 rfl) (ww hw 2 rfl) (by decide) (by decide)) (g := (mkF m 51 #[vi p1, vi p2, vi p3, vi p4, vr u4, vi p3, vr u5, vi (0 : Int32), vu] [xi p2, xi p3, xr u5])) rfl (by rw [hml]; rfl) (argsL := [xi p3, xi p2]) (rest := [xr u5]) (lenOf pd3 rfl) rfl (by show 2 * 0 + _ ≤ _; exact Nat.le_of_eq rfl) (hb hby at_51) (fun _ _ => ⟨rfl, e4, (by decide : 0 + 0 ≤ _), (by decide : 0 + 0 ≤ _)⟩)
  dsimp only [Pt.U, Pt.locs, Pt.cells, Pt.slots] at X5 l5 y5 z5 st5 hQ5
  subst l5 y5 z5
  obtain ⟨rfl, Nq5, e5⟩ := hQ5
  have N5 := Fr.app N4 Nq5
  obtain ⟨cq6, kq6, qa6, qb6, qc6⟩ := isOf hZ e5 ((own_X_u5 G).ext O0.2)
  obtain ⟨_, _, ⟨T6, L6, k6, n6⟩, -, X6, ⟨Lc6, hQ6, l6, y6, z6⟩, st6⟩ := X5.virtualBack hx (y := Y5) (z := Y5) hown (mvT hZ (ww hw 26 rfl)) (mvT hZ (ww hw 27 rfl)) (notFace_of_selects (args := #[]) (mvT hZ (ww hw 29 rfl))) (mvT hZ (ww hw 29 rfl)) (mvT hZ (ww hw 28 rfl)) (by decide) (backOf (W := 0) (own_c38_holds l Z a0 hw u0 u1 u2 u3 u4 u5 G h0 n0 O0 []) hZ (ww hw 30 rfl) (ww hw 6 rfl) (by decide) (by decide)) qa6 qc6 (g := (mkF m 54 #[vi p1, vi p2, vi p3, vi p4, vr u4, vi p3, vr u5, vi (0 : Int32), vu] [xi (-1 : Int32), xr u5])) rfl (by rw [hml]; rfl) (Steps.refl _) (argsL := [xi (-1 : Int32)]) (rest := []) (lenOf pd4 rfl) rfl (by show 2 * 0 + _ ≤ _; exact Nat.le_of_eq rfl) (hb hby at_54) (fun _ _ => ⟨rfl, e5, (by decide : 0 + 0 ≤ _), (by decide : 0 + 0 ≤ _)⟩)
  dsimp only [Pt.U, Pt.locs, Pt.cells, Pt.slots] at X6 l6 y6 z6 st6 hQ6
  subst l6 y6 z6
  obtain ⟨rfl, Nq6, e6⟩ := hQ6
  have N6 := Fr.app N5 Nq6
  obtain ⟨fs, hr, hrun, hended, hW, hsame⟩ := X6.leave (v := some (xi (1 : Int32))) (fun h => by rw [Bd.returns] at h; cases h)
  refine ⟨_, _, pre0 _ ?_, hrun, hended, _, _, rfl, ?_, ⟨_, rfl⟩, hW, hsame.mono (by decide) (by decide)⟩
  · show own_S p e below s₁ (mkF m 0 #[vi p1, vi p2, vi p3, vi p4, vu, vu, vu, vu, vu] []) _
    refine XS.iloadN X0.here hx rfl (hb hby at_0) rfl ?_
    show own_S p e below s₁ (mkF m 1 #[vi p1, vi p2, vi p3, vi p4, vu, vu, vu, vu, vu] [xi p1]) _
    refine st1 _ ?_
    show own_S p e below T1 (mkF m 4 #[vi p1, vi p2, vi p3, vi p4, vu, vu, vu, vu, vu] [xr u4]) _
    refine XS.astore X1.here hx rfl (hb hby at_4) rfl rfl (l' := #[vi p1, vi p2, vi p3, vi p4, vr u4, vu, vu, vu, vu]) rfl ?_
    show own_S p e below T1 (mkF m 6 #[vi p1, vi p2, vi p3, vi p4, vr u4, vu, vu, vu, vu] []) _
    refine XS.iloadN X1.here hx rfl (hb hby at_6) rfl ?_
    show own_S p e below T1 (mkF m 7 #[vi p1, vi p2, vi p3, vi p4, vr u4, vu, vu, vu, vu] [xi p4]) _
    refine XS.iconst X1.here hx rfl (hb hby at_7) ?_
    show own_S p e below T1 (mkF m 8 #[vi p1, vi p2, vi p3, vi p4, vr u4, vu, vu, vu, vu] [xi (1 : Int32), xi p4]) _
    refine XS.iand X1.here hx rfl (hb hby at_8) rfl ?_
    show own_S p e below T1 (mkF m 9 #[vi p1, vi p2, vi p3, vi p4, vr u4, vu, vu, vu, vu] [xi (p4 &&& (1 : Int32))]) _
    refine castTop (show (mkF m 9 #[vi p1, vi p2, vi p3, vi p4, vr u4, vu, vu, vu, vu] [xi (p4 &&& (1 : Int32))]) = (mkF m 9 #[vi p1, vi p2, vi p3, vi p4, vr u4, vu, vu, vu, vu] [xi (0 : Int32)]) from by rw [as14]) ?_
    show own_S p e below T1 (mkF m 9 #[vi p1, vi p2, vi p3, vi p4, vr u4, vu, vu, vu, vu] [xi (0 : Int32)]) _
    refine XS.ifYes X1.here hx rfl (pc0 := 9) (pc' := 16) rfl (hb hby at_9) rfl (by decide) (by decide) (by decide) ?_
    show own_S p e below T1 (mkF m 16 #[vi p1, vi p2, vi p3, vi p4, vr u4, vu, vu, vu, vu] []) _
    refine XS.iloadN X1.here hx rfl (hb hby at_16) rfl ?_
    show own_S p e below T1 (mkF m 17 #[vi p1, vi p2, vi p3, vi p4, vr u4, vu, vu, vu, vu] [xi p3]) _
    refine XS.istore X1.here hx rfl (hb hby at_17) rfl (l' := #[vi p1, vi p2, vi p3, vi p4, vr u4, vi p3, vu, vu, vu]) rfl ?_
    show own_S p e below T1 (mkF m 19 #[vi p1, vi p2, vi p3, vi p4, vr u4, vi p3, vu, vu, vu] []) _
    refine XS.aload X1.here hx rfl (hb hby at_19) rfl rfl ?_
    show own_S p e below T1 (mkF m 21 #[vi p1, vi p2, vi p3, vi p4, vr u4, vi p3, vu, vu, vu] [xr u4]) _
    refine st2.trans ?_
    show own_S p e below T2 (mkF m 24 #[vi p1, vi p2, vi p3, vi p4, vr u4, vi p3, vu, vu, vu] [xr u5]) _
    refine XS.astore X2.here hx rfl (hb hby at_24) rfl rfl (l' := #[vi p1, vi p2, vi p3, vi p4, vr u4, vi p3, vr u5, vu, vu]) rfl ?_
    show own_S p e below T2 (mkF m 26 #[vi p1, vi p2, vi p3, vi p4, vr u4, vi p3, vr u5, vu, vu] []) _
    refine XS.aload X2.here hx rfl (hb hby at_26) rfl rfl ?_
    show own_S p e below T2 (mkF m 28 #[vi p1, vi p2, vi p3, vi p4, vr u4, vi p3, vr u5, vu, vu] [xr u5]) _
    refine Jvm.Free.XT.nonnullYes X2.here hx rfl (pc0 := 28) (pc' := 33) rfl (hb hby at_28) rfl rfl (by simp) (by decide) (by decide) ?_
    show own_S p e below T2 (mkF m 33 #[vi p1, vi p2, vi p3, vi p4, vr u4, vi p3, vr u5, vu, vu] []) _
    refine XS.aload X2.here hx rfl (hb hby at_33) rfl rfl ?_
    show own_S p e below T2 (mkF m 35 #[vi p1, vi p2, vi p3, vi p4, vr u4, vi p3, vr u5, vu, vu] [xr u4]) _
    refine XS.iloadN X2.here hx rfl (hb hby at_35) rfl ?_
    show own_S p e below T2 (mkF m 36 #[vi p1, vi p2, vi p3, vi p4, vr u4, vi p3, vr u5, vu, vu] [xi p2, xr u4]) _
    refine XS.iload X2.here hx rfl (hb hby at_36) rfl ?_
    show own_S p e below T2 (mkF m 38 #[vi p1, vi p2, vi p3, vi p4, vr u4, vi p3, vr u5, vu, vu] [xi p3, xi p2, xr u4]) _
    refine st3 _ ?_
    show own_S p e below T3 (mkF m 41 #[vi p1, vi p2, vi p3, vi p4, vr u4, vi p3, vr u5, vu, vu] [xi (1 : Int32), xr u4]) _
    refine st4.trans ?_
    show own_S p e below T4 (mkF m 44 #[vi p1, vi p2, vi p3, vi p4, vr u4, vi p3, vr u5, vu, vu] [xi (0 : Int32)]) _
    refine XS.istore X4.here hx rfl (hb hby at_44) rfl (l' := #[vi p1, vi p2, vi p3, vi p4, vr u4, vi p3, vr u5, vi (0 : Int32), vu]) rfl ?_
    show own_S p e below T4 (mkF m 46 #[vi p1, vi p2, vi p3, vi p4, vr u4, vi p3, vr u5, vi (0 : Int32), vu] []) _
    refine XS.aload X4.here hx rfl (hb hby at_46) rfl rfl ?_
    show own_S p e below T4 (mkF m 48 #[vi p1, vi p2, vi p3, vi p4, vr u4, vi p3, vr u5, vi (0 : Int32), vu] [xr u5]) _
    refine XS.iload X4.here hx rfl (hb hby at_48) rfl ?_
    show own_S p e below T4 (mkF m 50 #[vi p1, vi p2, vi p3, vi p4, vr u4, vi p3, vr u5, vi (0 : Int32), vu] [xi p3, xr u5]) _
    refine XS.iloadN X4.here hx rfl (hb hby at_50) rfl ?_
    show own_S p e below T4 (mkF m 51 #[vi p1, vi p2, vi p3, vi p4, vr u4, vi p3, vr u5, vi (0 : Int32), vu] [xi p2, xi p3, xr u5]) _
    refine st5 _ ?_
    show own_S p e below T5 (mkF m 54 #[vi p1, vi p2, vi p3, vi p4, vr u4, vi p3, vr u5, vi (0 : Int32), vu] [xi (-1 : Int32), xr u5]) _
    refine st6.trans ?_
    show own_S p e below T6 (mkF m 57 #[vi p1, vi p2, vi p3, vi p4, vr u4, vi p3, vr u5, vi (0 : Int32), vu] [xi (0 : Int32)]) _
    refine XS.istore X6.here hx rfl (hb hby at_57) rfl (l' := #[vi p1, vi p2, vi p3, vi p4, vr u4, vi p3, vr u5, vi (0 : Int32), vi (0 : Int32)]) rfl ?_
    show own_S p e below T6 (mkF m 59 #[vi p1, vi p2, vi p3, vi p4, vr u4, vi p3, vr u5, vi (0 : Int32), vi (0 : Int32)] []) _
    refine XS.iload X6.here hx rfl (hb hby at_59) rfl ?_
    show own_S p e below T6 (mkF m 61 #[vi p1, vi p2, vi p3, vi p4, vr u4, vi p3, vr u5, vi (0 : Int32), vi (0 : Int32)] [xi (0 : Int32)]) _
    refine XS.iload X6.here hx rfl (hb hby at_61) rfl ?_
    show own_S p e below T6 (mkF m 63 #[vi p1, vi p2, vi p3, vi p4, vr u4, vi p3, vr u5, vi (0 : Int32), vi (0 : Int32)] [xi (0 : Int32), xi (0 : Int32)]) _
    refine XS.icmpNo X6.here hx rfl (hb hby at_63) rfl (by decide) ?_
    show own_S p e below T6 (mkF m 66 #[vi p1, vi p2, vi p3, vi p4, vr u4, vi p3, vr u5, vi (0 : Int32), vi (0 : Int32)] []) _
    refine XS.iconst X6.here hx rfl (hb hby at_66) ?_
    show own_S p e below T6 (mkF m 67 #[vi p1, vi p2, vi p3, vi p4, vr u4, vi p3, vr u5, vi (0 : Int32), vi (0 : Int32)] [xi (1 : Int32)]) _
    refine XS.goto X6.here hx rfl (pc0 := 67) (pc' := 71) rfl (hb hby at_67) (by decide) (by decide) ?_
    show own_S p e below T6 (mkF m 71 #[vi p1, vi p2, vi p3, vi p4, vr u4, vi p3, vr u5, vi (0 : Int32), vi (0 : Int32)] [xi (1 : Int32)]) _
    exact retN X6 hx (t := .boolean) Bd.returns (by simp) (hb hby at_71) hr
  · exact ⟨rfl, N6⟩
theorem ef_own_l15 (m : MethodId) (u0 u1 u2 u3 u4 u5 : Addr) (p1 : Int32) (p2 : Int32) (p3 : Int32) (p4 : Int32) : entryFrame m #[xi p1, xi p2, xi p3, xi p4] maxLocals = (mkF m 0 #[vi p1, vi p2, vi p3, vi p4, vu, vu, vu, vu, vu] []) := by first | (simp [entryFrame, mkF, argsToLocals, Value.category, maxLocals]; done) | rfl
set_option maxRecDepth 65536 in
set_option maxHeartbeats 40000000 in
theorem own_l15 (l : Launch) (Z : State) (a0 : Array Value) (hw : ∀ d ∈ tables_1, d.before a0 Z = true) (u0 u1 u2 u3 u4 u5 : Addr) (G : own_St Z u0 u1 u2 u3 u4 u5) (p1 : Int32) (p2 : Int32) (p3 : Int32) (p4 : Int32) (as11 : ((p1 &&& (2147483647 : Int32)) - ((p1 &&& (2147483647 : Int32)) / (6 : Int32)) * (6 : Int32)) = (3 : Int32)) (as15 : (p4 &&& (1 : Int32)) = (1 : Int32)) (h0 : Heap) (n0 : Nat) (O0 : Old Z n0 h0) : own_Met l Z x code maxLocals ret room_1 #[xi p1, xi p2, xi p3, xi p4] h0 (own_QL (some (xi (1 : Int32))) n0) := by
  intro ws
  refine MetFree.of_bodySF (plainFor_of_name pn0) hisR ?_
  intro p e s m args below meth c s₁ Bd hml0 hP hK
  obtain ⟨rfl, hZ, hh⟩ := hP
  have hx := Bd.exec
  have hby := Bd.bytes
  have hml : c.maxLocals = 9 := hml0
  have hown : s.vm.findClass "com/example/whyle/whyle/cfa/RelationConversePinLaw" = some m.cls := findClass_of_methodNamed Bd.named
  have hnm := (name_of_methodNamed Bd.named Bd.method).1
  have X0 : Stand p l e room_1 s m #[xi p1, xi p2, xi p3, xi p4] below meth c s₁ [] 0 0 := Stand.of_body Bd
  have e0 : s₁.heap = h0 := by rw [← hh, Bd.state]; rfl
  have N0 := Fr.nil n0
  have pre0 : ∀ t, Steps p.tables e below (s₁.setTop (mkF m 0 #[vi p1, vi p2, vi p3, vi p4, vu, vu, vu, vu, vu] [])) t → Steps p.tables e below (s₁.setTop (entryFrame m #[xi p1, xi p2, xi p3, xi p4] maxLocals)) t := fun t st => castTop (ef_own_l15 m u0 u1 u2 u3 u4 u5 p1 p2 p3 p4) st
  obtain ⟨_, _, ⟨T1, L1, k1, n1⟩, -, X1, ⟨Lc1, hQ1, l1, y1, z1⟩, st1⟩ := Jvm.LawKit.callS X0 hx (y := Y0) hown (mvT hZ (ww hw 0 rfl)) (mvT hZ (ww hw 1 rfl)) (mvT hZ (ww hw 2 rfl)) (mvT hZ (ww hw 3 rfl)) (by decide) (backOf (W := 0) (own_c29_pick l Z a0 hw u0 u1 u2 u3 u4 u5 G p1 as11 h0 n0 O0 []) hZ (ww hw 3 rfl) (ww hw 2 rfl) (by decide) (by decide)) (g := (mkF m 1 #[vi p1, vi p2, vi p3, vi p4, vu, vu, vu, vu, vu] [xi p1])) rfl (by rw [hml]; rfl) (argsL := [xi p1]) (rest := []) (lenOf pd0 rfl) rfl (by show 2 * 0 + _ ≤ _; exact Nat.le_of_eq rfl) (hb hby at_1) (fun _ _ => ⟨rfl, e0, (by decide : 0 + 0 ≤ _), (by decide : 0 + 0 ≤ _)⟩)
  dsimp only [Pt.U, Pt.locs, Pt.cells, Pt.slots] at X1 l1 y1 z1 st1 hQ1
  subst l1 y1 z1
  obtain ⟨rfl, Nq1, e1⟩ := hQ1
  have N1 := Fr.app N0 Nq1
  obtain ⟨cq2, kq2, qa2, qb2, qc2⟩ := isOf hZ e1 ((own_X_u4 G).ext O0.2)
  obtain ⟨_, _, ⟨T2, L2, k2, n2⟩, -, X2, ⟨Lc2, hQ2, l2, y2, z2⟩, st2⟩ := X1.virtualBack hx (y := Y3) (z := Y3) hown (mvT hZ (ww hw 8 rfl)) (mvT hZ (ww hw 9 rfl)) (notFace_of_selects (args := #[]) (mvT hZ (ww hw 11 rfl))) (mvT hZ (ww hw 11 rfl)) (mvT hZ (ww hw 10 rfl)) (by decide) (backOf (W := 0) (own_c30_converse l Z a0 hw u0 u1 u2 u3 u4 u5 G h0 n0 O0 []) hZ (ww hw 12 rfl) (ww hw 6 rfl) (by decide) (by decide)) qa2 qc2 (g := (mkF m 21 #[vi p1, vi p2, vi p3, vi p4, vr u4, vi p2, vu, vu, vu] [xr u4])) rfl (by rw [hml]; rfl) (Steps.refl _) (argsL := []) (rest := []) (lenOf pd2 rfl) rfl (by show 2 * 0 + _ ≤ _; exact Nat.le_of_eq rfl) (hb hby at_21) (fun _ _ => ⟨rfl, e1, (by decide : 0 + 0 ≤ _), (by decide : 0 + 0 ≤ _)⟩)
  dsimp only [Pt.U, Pt.locs, Pt.cells, Pt.slots] at X2 l2 y2 z2 st2 hQ2
  subst l2 y2 z2
  obtain ⟨rfl, Nq2, e2⟩ := hQ2
  have N2 := Fr.app N1 Nq2
  obtain ⟨_, _, ⟨T3, L3, k3, n3⟩, -, X3, ⟨Lc3, hQ3, l3, y3, z3⟩, st3⟩ := Jvm.LawKit.callS X2 hx (y := Y4) hown (mvT hZ (ww hw 23 rfl)) (mvT hZ (ww hw 24 rfl)) (mvT hZ (ww hw 2 rfl)) (mvT hZ (ww hw 25 rfl)) (by decide) (backOf (W := 1) (own_c12_sign l Z a0 hw u0 u1 u2 u3 u4 u5 G p2 h0 n0 O0 []) hZ (ww hw 25 rfl) (ww hw 2 rfl) (by decide) (by decide)) (g := (mkF m 38 #[vi p1, vi p2, vi p3, vi p4, vr u4, vi p2, vr u5, vu, vu] [xi p2, xi p2, xr u4])) rfl (by rw [hml]; rfl) (argsL := [xi p2, xi p2]) (rest := [xr u4]) (lenOf pd3 rfl) rfl (by show 2 * 0 + _ ≤ _; exact Nat.le_of_eq rfl) (hb hby at_38) (fun _ _ => ⟨rfl, e2, (by decide : 0 + 0 ≤ _), (by decide : 0 + 0 ≤ _)⟩)
  dsimp only [Pt.U, Pt.locs, Pt.cells, Pt.slots] at X3 l3 y3 z3 st3 hQ3
  subst l3 y3 z3
  obtain ⟨rfl, Nq3, e3⟩ := hQ3
  have N3 := Fr.app N2 Nq3
  obtain ⟨cq4, kq4, qa4, qb4, qc4⟩ := isOf hZ e3 ((own_X_u4 G).ext O0.2)
  obtain ⟨_, _, ⟨T4, L4, k4, n4⟩, -, X4, ⟨Lc4, hQ4, l4, y4, z4⟩, st4⟩ := X3.virtualBack hx (y := Y5) (z := Y5) hown (mvT hZ (ww hw 26 rfl)) (mvT hZ (ww hw 27 rfl)) (notFace_of_selects (args := #[]) (mvT hZ (ww hw 29 rfl))) (mvT hZ (ww hw 29 rfl)) (mvT hZ (ww hw 28 rfl)) (by decide) (backOf (W := 0) (own_c35_holds l Z a0 hw u0 u1 u2 u3 u4 u5 G h0 n0 O0 []) hZ (ww hw 30 rfl) (ww hw 6 rfl) (by decide) (by decide)) qa4 qc4 (g := (mkF m 41 #[vi p1, vi p2, vi p3, vi p4, vr u4, vi p2, vr u5, vu, vu] [xi (0 : Int32), xr u4])) rfl (by rw [hml]; rfl) (Steps.refl _) (argsL := [xi (0 : Int32)]) (rest := []) (lenOf pd4 rfl) rfl (by show 2 * 0 + _ ≤ _; exact Nat.le_of_eq rfl) (hb hby at_41) (fun _ _ => ⟨rfl, e3, (by decide : 0 + 0 ≤ _), (by decide : 0 + 0 ≤ _)⟩)
  dsimp only [Pt.U, Pt.locs, Pt.cells, Pt.slots] at X4 l4 y4 z4 st4 hQ4
  subst l4 y4 z4
  obtain ⟨rfl, Nq4, e4⟩ := hQ4
  have N4 := Fr.app N3 Nq4
  obtain ⟨_, _, ⟨T5, L5, k5, n5⟩, -, X5, ⟨Lc5, hQ5, l5, y5, z5⟩, st5⟩ := Jvm.LawKit.callS X4 hx (y := Y4) hown (mvT hZ (ww hw 23 rfl)) (mvT hZ (ww hw 24 rfl)) (mvT hZ (ww hw 2 rfl)) (mvT hZ (ww hw 25 rfl)) (by decide) (backOf (W := 1) (own_c12_sign l Z a0 hw u0 u1 u2 u3 u4 u5 G p2 h0 n0 O0 []) hZ (ww hw 25 rfl) (ww hw 2 rfl) (by decide) (by decide)) (g := (mkF m 51 #[vi p1, vi p2, vi p3, vi p4, vr u4, vi p2, vr u5, vi (1 : Int32), vu] [xi p2, xi p2, xr u5])) rfl (by rw [hml]; rfl) (argsL := [xi p2, xi p2]) (rest := [xr u5]) (lenOf pd3 rfl) rfl (by show 2 * 0 + _ ≤ _; exact Nat.le_of_eq rfl) (hb hby at_51) (fun _ _ => ⟨rfl, e4, (by decide : 0 + 0 ≤ _), (by decide : 0 + 0 ≤ _)⟩)
  dsimp only [Pt.U, Pt.locs, Pt.cells, Pt.slots] at X5 l5 y5 z5 st5 hQ5
  subst l5 y5 z5
  obtain ⟨rfl, Nq5, e5⟩ := hQ5
  have N5 := Fr.app N4 Nq5
  obtain ⟨cq6, kq6, qa6, qb6, qc6⟩ := isOf hZ e5 ((own_X_u5 G).ext O0.2)
  obtain ⟨_, _, ⟨T6, L6, k6, n6⟩, -, X6, ⟨Lc6, hQ6, l6, y6, z6⟩, st6⟩ := X5.virtualBack hx (y := Y5) (z := Y5) hown (mvT hZ (ww hw 26 rfl)) (mvT hZ (ww hw 27 rfl)) (notFace_of_selects (args := #[]) (mvT hZ (ww hw 29 rfl))) (mvT hZ (ww hw 29 rfl)) (mvT hZ (ww hw 28 rfl)) (by decide) (backOf (W := 0) (own_c36_holds l Z a0 hw u0 u1 u2 u3 u4 u5 G h0 n0 O0 []) hZ (ww hw 30 rfl) (ww hw 6 rfl) (by decide) (by decide)) qa6 qc6 (g := (mkF m 54 #[vi p1, vi p2, vi p3, vi p4, vr u4, vi p2, vr u5, vi (1 : Int32), vu] [xi (0 : Int32), xr u5])) rfl (by rw [hml]; rfl) (Steps.refl _) (argsL := [xi (0 : Int32)]) (rest := []) (lenOf pd4 rfl) rfl (by show 2 * 0 + _ ≤ _; exact Nat.le_of_eq rfl) (hb hby at_54) (fun _ _ => ⟨rfl, e5, (by decide : 0 + 0 ≤ _), (by decide : 0 + 0 ≤ _)⟩)
  dsimp only [Pt.U, Pt.locs, Pt.cells, Pt.slots] at X6 l6 y6 z6 st6 hQ6
  subst l6 y6 z6
  obtain ⟨rfl, Nq6, e6⟩ := hQ6
  have N6 := Fr.app N5 Nq6
  obtain ⟨fs, hr, hrun, hended, hW, hsame⟩ := X6.leave (v := some (xi (1 : Int32))) (fun h => by rw [Bd.returns] at h; cases h)
  refine ⟨_, _, pre0 _ ?_, hrun, hended, _, _, rfl, ?_, ⟨_, rfl⟩, hW, hsame.mono (by decide) (by decide)⟩
  · show own_S p e below s₁ (mkF m 0 #[vi p1, vi p2, vi p3, vi p4, vu, vu, vu, vu, vu] []) _
    refine XS.iloadN X0.here hx rfl (hb hby at_0) rfl ?_
    show own_S p e below s₁ (mkF m 1 #[vi p1, vi p2, vi p3, vi p4, vu, vu, vu, vu, vu] [xi p1]) _
    refine st1 _ ?_
    show own_S p e below T1 (mkF m 4 #[vi p1, vi p2, vi p3, vi p4, vu, vu, vu, vu, vu] [xr u4]) _
    refine XS.astore X1.here hx rfl (hb hby at_4) rfl rfl (l' := #[vi p1, vi p2, vi p3, vi p4, vr u4, vu, vu, vu, vu]) rfl ?_
    show own_S p e below T1 (mkF m 6 #[vi p1, vi p2, vi p3, vi p4, vr u4, vu, vu, vu, vu] []) _
    refine XS.iloadN X1.here hx rfl (hb hby at_6) rfl ?_
    show own_S p e below T1 (mkF m 7 #[vi p1, vi p2, vi p3, vi p4, vr u4, vu, vu, vu, vu] [xi p4]) _
    refine XS.iconst X1.here hx rfl (hb hby at_7) ?_
    show own_S p e below T1 (mkF m 8 #[vi p1, vi p2, vi p3, vi p4, vr u4, vu, vu, vu, vu] [xi (1 : Int32), xi p4]) _
    refine XS.iand X1.here hx rfl (hb hby at_8) rfl ?_
    show own_S p e below T1 (mkF m 9 #[vi p1, vi p2, vi p3, vi p4, vr u4, vu, vu, vu, vu] [xi (p4 &&& (1 : Int32))]) _
    refine castTop (show (mkF m 9 #[vi p1, vi p2, vi p3, vi p4, vr u4, vu, vu, vu, vu] [xi (p4 &&& (1 : Int32))]) = (mkF m 9 #[vi p1, vi p2, vi p3, vi p4, vr u4, vu, vu, vu, vu] [xi (1 : Int32)]) from by rw [as15]) ?_
    show own_S p e below T1 (mkF m 9 #[vi p1, vi p2, vi p3, vi p4, vr u4, vu, vu, vu, vu] [xi (1 : Int32)]) _
    refine XS.ifNo X1.here hx rfl (hb hby at_9) rfl (by decide) ?_
    show own_S p e below T1 (mkF m 12 #[vi p1, vi p2, vi p3, vi p4, vr u4, vu, vu, vu, vu] []) _
    refine XS.iloadN X1.here hx rfl (hb hby at_12) rfl ?_
    show own_S p e below T1 (mkF m 13 #[vi p1, vi p2, vi p3, vi p4, vr u4, vu, vu, vu, vu] [xi p2]) _
    refine XS.goto X1.here hx rfl (pc0 := 13) (pc' := 17) rfl (hb hby at_13) (by decide) (by decide) ?_
    show own_S p e below T1 (mkF m 17 #[vi p1, vi p2, vi p3, vi p4, vr u4, vu, vu, vu, vu] [xi p2]) _
    refine XS.istore X1.here hx rfl (hb hby at_17) rfl (l' := #[vi p1, vi p2, vi p3, vi p4, vr u4, vi p2, vu, vu, vu]) rfl ?_
    show own_S p e below T1 (mkF m 19 #[vi p1, vi p2, vi p3, vi p4, vr u4, vi p2, vu, vu, vu] []) _
    refine XS.aload X1.here hx rfl (hb hby at_19) rfl rfl ?_
    show own_S p e below T1 (mkF m 21 #[vi p1, vi p2, vi p3, vi p4, vr u4, vi p2, vu, vu, vu] [xr u4]) _
    refine st2.trans ?_
    show own_S p e below T2 (mkF m 24 #[vi p1, vi p2, vi p3, vi p4, vr u4, vi p2, vu, vu, vu] [xr u5]) _
    refine XS.astore X2.here hx rfl (hb hby at_24) rfl rfl (l' := #[vi p1, vi p2, vi p3, vi p4, vr u4, vi p2, vr u5, vu, vu]) rfl ?_
    show own_S p e below T2 (mkF m 26 #[vi p1, vi p2, vi p3, vi p4, vr u4, vi p2, vr u5, vu, vu] []) _
    refine XS.aload X2.here hx rfl (hb hby at_26) rfl rfl ?_
    show own_S p e below T2 (mkF m 28 #[vi p1, vi p2, vi p3, vi p4, vr u4, vi p2, vr u5, vu, vu] [xr u5]) _
    refine Jvm.Free.XT.nonnullYes X2.here hx rfl (pc0 := 28) (pc' := 33) rfl (hb hby at_28) rfl rfl (by simp) (by decide) (by decide) ?_
    show own_S p e below T2 (mkF m 33 #[vi p1, vi p2, vi p3, vi p4, vr u4, vi p2, vr u5, vu, vu] []) _
    refine XS.aload X2.here hx rfl (hb hby at_33) rfl rfl ?_
    show own_S p e below T2 (mkF m 35 #[vi p1, vi p2, vi p3, vi p4, vr u4, vi p2, vr u5, vu, vu] [xr u4]) _
    refine XS.iloadN X2.here hx rfl (hb hby at_35) rfl ?_
    show own_S p e below T2 (mkF m 36 #[vi p1, vi p2, vi p3, vi p4, vr u4, vi p2, vr u5, vu, vu] [xi p2, xr u4]) _
    refine XS.iload X2.here hx rfl (hb hby at_36) rfl ?_
    show own_S p e below T2 (mkF m 38 #[vi p1, vi p2, vi p3, vi p4, vr u4, vi p2, vr u5, vu, vu] [xi p2, xi p2, xr u4]) _
    refine st3 _ ?_
    show own_S p e below T3 (mkF m 41 #[vi p1, vi p2, vi p3, vi p4, vr u4, vi p2, vr u5, vu, vu] [xi (0 : Int32), xr u4]) _
    refine st4.trans ?_
    show own_S p e below T4 (mkF m 44 #[vi p1, vi p2, vi p3, vi p4, vr u4, vi p2, vr u5, vu, vu] [xi (1 : Int32)]) _
    refine XS.istore X4.here hx rfl (hb hby at_44) rfl (l' := #[vi p1, vi p2, vi p3, vi p4, vr u4, vi p2, vr u5, vi (1 : Int32), vu]) rfl ?_
    show own_S p e below T4 (mkF m 46 #[vi p1, vi p2, vi p3, vi p4, vr u4, vi p2, vr u5, vi (1 : Int32), vu] []) _
    refine XS.aload X4.here hx rfl (hb hby at_46) rfl rfl ?_
    show own_S p e below T4 (mkF m 48 #[vi p1, vi p2, vi p3, vi p4, vr u4, vi p2, vr u5, vi (1 : Int32), vu] [xr u5]) _
    refine XS.iload X4.here hx rfl (hb hby at_48) rfl ?_
    show own_S p e below T4 (mkF m 50 #[vi p1, vi p2, vi p3, vi p4, vr u4, vi p2, vr u5, vi (1 : Int32), vu] [xi p2, xr u5]) _
    refine XS.iloadN X4.here hx rfl (hb hby at_50) rfl ?_
    show own_S p e below T4 (mkF m 51 #[vi p1, vi p2, vi p3, vi p4, vr u4, vi p2, vr u5, vi (1 : Int32), vu] [xi p2, xi p2, xr u5]) _
    refine st5 _ ?_
    show own_S p e below T5 (mkF m 54 #[vi p1, vi p2, vi p3, vi p4, vr u4, vi p2, vr u5, vi (1 : Int32), vu] [xi (0 : Int32), xr u5]) _
    refine st6.trans ?_
    show own_S p e below T6 (mkF m 57 #[vi p1, vi p2, vi p3, vi p4, vr u4, vi p2, vr u5, vi (1 : Int32), vu] [xi (1 : Int32)]) _
    refine XS.istore X6.here hx rfl (hb hby at_57) rfl (l' := #[vi p1, vi p2, vi p3, vi p4, vr u4, vi p2, vr u5, vi (1 : Int32), vi (1 : Int32)]) rfl ?_
    show own_S p e below T6 (mkF m 59 #[vi p1, vi p2, vi p3, vi p4, vr u4, vi p2, vr u5, vi (1 : Int32), vi (1 : Int32)] []) _
    refine XS.iload X6.here hx rfl (hb hby at_59) rfl ?_
    show own_S p e below T6 (mkF m 61 #[vi p1, vi p2, vi p3, vi p4, vr u4, vi p2, vr u5, vi (1 : Int32), vi (1 : Int32)] [xi (1 : Int32)]) _
    refine XS.iload X6.here hx rfl (hb hby at_61) rfl ?_
    show own_S p e below T6 (mkF m 63 #[vi p1, vi p2, vi p3, vi p4, vr u4, vi p2, vr u5, vi (1 : Int32), vi (1 : Int32)] [xi (1 : Int32), xi (1 : Int32)]) _
    refine XS.icmpNo X6.here hx rfl (hb hby at_63) rfl (by decide) ?_
    show own_S p e below T6 (mkF m 66 #[vi p1, vi p2, vi p3, vi p4, vr u4, vi p2, vr u5, vi (1 : Int32), vi (1 : Int32)] []) _
    refine XS.iconst X6.here hx rfl (hb hby at_66) ?_
    show own_S p e below T6 (mkF m 67 #[vi p1, vi p2, vi p3, vi p4, vr u4, vi p2, vr u5, vi (1 : Int32), vi (1 : Int32)] [xi (1 : Int32)]) _
    refine XS.goto X6.here hx rfl (pc0 := 67) (pc' := 71) rfl (hb hby at_67) (by decide) (by decide) ?_
    show own_S p e below T6 (mkF m 71 #[vi p1, vi p2, vi p3, vi p4, vr u4, vi p2, vr u5, vi (1 : Int32), vi (1 : Int32)] [xi (1 : Int32)]) _
    exact retN X6 hx (t := .boolean) Bd.returns (by simp) (hb hby at_71) hr
  · exact ⟨rfl, N6⟩
theorem d1_43 : decode method_2_code 43 = .ok (.iload_n 1, 1) := by decide +kernel
theorem d1_44 : decode method_2_code 44 = .ok (.iconst 4, 1) := by decide +kernel
theorem d1_45 : decode method_2_code 45 = .ok (.if_icmp .ne 7, 3) := by decide +kernel
theorem d1_48 : decode method_2_code 48 = .ok (.getstatic 23, 3) := by decide +kernel
theorem d1_51 : decode method_2_code 51 = .ok (.areturn, 1) := by decide +kernel
theorem ef_own_c39_pick (m : MethodId) (u0 u1 u2 u3 u4 u5 : Addr) (p1 : Int32) : entryFrame m #[xi p1] 2 = (mkF m 0 #[vi p1, vu] []) := by first | (simp [entryFrame, mkF, argsToLocals, Value.category]; done) | rfl
set_option maxRecDepth 65536 in
set_option maxHeartbeats 40000000 in
theorem own_c39_pick (l : Launch) (Z : State) (a0 : Array Value) (hw : ∀ d ∈ tables_1, d.before a0 Z = true) (u0 u1 u2 u3 u4 u5 : Addr) (G : own_St Z u0 u1 u2 u3 u4 u5) (p1 : Int32) (as12 : ((p1 &&& (2147483647 : Int32)) - ((p1 &&& (2147483647 : Int32)) / (6 : Int32)) * (6 : Int32)) = (4 : Int32)) (h0 : Heap) (n0 : Nat) (O0 : Old Z n0 h0) : own_Met l Z Y0 method_2_code 2 (some (.object "com/example/whyle/whyle/cfa/Relation")) ({ frames := 0, cells := 0, slots := 0, locals := 0 } : Room) #[xi p1] h0 (own_QR (some (xr u2)) h0 n0) := by
  intro ws
  refine MetFree.of_bodySF (plainFor_of_name pn0) hisR ?_
  intro p e s m args below meth c s₁ Bd hml0 hP hK
  obtain ⟨rfl, hZ, hh⟩ := hP
  have hx := Bd.exec
  have hby := Bd.bytes
  have hml : c.maxLocals = 2 := hml0
  have hown : s.vm.findClass "com/example/whyle/whyle/cfa/RelationConversePinLaw" = some m.cls := findClass_of_methodNamed Bd.named
  have hnm := (name_of_methodNamed Bd.named Bd.method).1
  have X0 : Stand p l e ({ frames := 0, cells := 0, slots := 0, locals := 0 } : Room) s m #[xi p1] below meth c s₁ [] 0 0 := Stand.of_body Bd
  have e0 : s₁.heap = h0 := by rw [← hh, Bd.state]; rfl
  have N0 := Fr.nil n0
  have pre0 : ∀ t, Steps p.tables e below (s₁.setTop (mkF m 0 #[vi p1, vu] [])) t → Steps p.tables e below (s₁.setTop (entryFrame m #[xi p1] 2)) t := fun t st => castTop (ef_own_c39_pick m u0 u1 u2 u3 u4 u5 p1) st
  obtain ⟨T1, X1, e1, st1⟩ := getS2 X0 hx hZ hown (host := "") (Or.inl (ww hw 34 rfl)) Via.refl e0 ((own_S_u2 G).ext O0.2) (g := (mkF m 48 #[vi p1, vi (4 : Int32)] [])) rfl (hb hby d1_48)
  obtain ⟨fs, hr, hrun, hended, hW, hsame⟩ := X1.leave (v := some (xr u2)) (fun h => by rw [Bd.returns] at h; cases h)
  refine ⟨_, _, pre0 _ ?_, hrun, hended, _, _, rfl, ?_, ⟨_, rfl⟩, hW, hsame.mono (by decide) (by decide)⟩
  · show own_S p e below s₁ (mkF m 0 #[vi p1, vu] []) _
    refine XS.iloadN X0.here hx rfl (hb hby d1_0) rfl ?_
    show own_S p e below s₁ (mkF m 1 #[vi p1, vu] [xi p1]) _
    refine X0.ldcI hx hown (mvT hZ (ww hw 4 rfl)) (g := (mkF m 1 #[vi p1, vu] [xi p1])) rfl (hb hby d1_1) ?_
    show own_S p e below s₁ (mkF m 3 #[vi p1, vu] [xi (2147483647 : Int32), xi p1]) _
    refine XS.iand X0.here hx rfl (hb hby d1_3) rfl ?_
    show own_S p e below s₁ (mkF m 4 #[vi p1, vu] [xi (p1 &&& (2147483647 : Int32))]) _
    show own_S p e below s₁ (mkF m 4 #[vi p1, vu] [xi (p1 &&& (2147483647 : Int32))]) _
    refine XS.bipush X0.here hx rfl (hb hby d1_4) ?_
    show own_S p e below s₁ (mkF m 6 #[vi p1, vu] [xi (6 : Int32), xi (p1 &&& (2147483647 : Int32))]) _
    refine XS.irem X0.here hx rfl (hb hby d1_6) rfl (by decide) ?_
    show own_S p e below s₁ (mkF m 7 #[vi p1, vu] [xi ((p1 &&& (2147483647 : Int32)) - ((p1 &&& (2147483647 : Int32)) / (6 : Int32)) * (6 : Int32))]) _
    refine castTop (show (mkF m 7 #[vi p1, vu] [xi ((p1 &&& (2147483647 : Int32)) - ((p1 &&& (2147483647 : Int32)) / (6 : Int32)) * (6 : Int32))]) = (mkF m 7 #[vi p1, vu] [xi (4 : Int32)]) from by rw [as12]) ?_
    show own_S p e below s₁ (mkF m 7 #[vi p1, vu] [xi (4 : Int32)]) _
    refine XS.istoreN X0.here hx rfl (hb hby d1_7) rfl (l' := #[vi p1, vi (4 : Int32)]) rfl ?_
    show own_S p e below s₁ (mkF m 8 #[vi p1, vi (4 : Int32)] []) _
    refine XS.iloadN X0.here hx rfl (hb hby d1_8) rfl ?_
    show own_S p e below s₁ (mkF m 9 #[vi p1, vi (4 : Int32)] [xi (4 : Int32)]) _
    refine XS.ifYes X0.here hx rfl (pc0 := 9) (pc' := 16) rfl (hb hby d1_9) rfl (by decide) (by decide) (by decide) ?_
    show own_S p e below s₁ (mkF m 16 #[vi p1, vi (4 : Int32)] []) _
    refine XS.iloadN X0.here hx rfl (hb hby d1_16) rfl ?_
    show own_S p e below s₁ (mkF m 17 #[vi p1, vi (4 : Int32)] [xi (4 : Int32)]) _
    refine XS.iconst X0.here hx rfl (hb hby d1_17) ?_
    show own_S p e below s₁ (mkF m 18 #[vi p1, vi (4 : Int32)] [xi (1 : Int32), xi (4 : Int32)]) _
    refine XS.icmpYes X0.here hx rfl (pc0 := 18) (pc' := 25) rfl (hb hby d1_18) rfl (by decide) (by decide) (by decide) ?_
    show own_S p e below s₁ (mkF m 25 #[vi p1, vi (4 : Int32)] []) _
    refine XS.iloadN X0.here hx rfl (hb hby d1_25) rfl ?_
    show own_S p e below s₁ (mkF m 26 #[vi p1, vi (4 : Int32)] [xi (4 : Int32)]) _
    refine XS.iconst X0.here hx rfl (hb hby d1_26) ?_
    show own_S p e below s₁ (mkF m 27 #[vi p1, vi (4 : Int32)] [xi (2 : Int32), xi (4 : Int32)]) _
    refine XS.icmpYes X0.here hx rfl (pc0 := 27) (pc' := 34) rfl (hb hby d1_27) rfl (by decide) (by decide) (by decide) ?_
    show own_S p e below s₁ (mkF m 34 #[vi p1, vi (4 : Int32)] []) _
    refine XS.iloadN X0.here hx rfl (hb hby d1_34) rfl ?_
    show own_S p e below s₁ (mkF m 35 #[vi p1, vi (4 : Int32)] [xi (4 : Int32)]) _
    refine XS.iconst X0.here hx rfl (hb hby d1_35) ?_
    show own_S p e below s₁ (mkF m 36 #[vi p1, vi (4 : Int32)] [xi (3 : Int32), xi (4 : Int32)]) _
    refine XS.icmpYes X0.here hx rfl (pc0 := 36) (pc' := 43) rfl (hb hby d1_36) rfl (by decide) (by decide) (by decide) ?_
    show own_S p e below s₁ (mkF m 43 #[vi p1, vi (4 : Int32)] []) _
    refine XS.iloadN X0.here hx rfl (hb hby d1_43) rfl ?_
    show own_S p e below s₁ (mkF m 44 #[vi p1, vi (4 : Int32)] [xi (4 : Int32)]) _
    refine XS.iconst X0.here hx rfl (hb hby d1_44) ?_
    show own_S p e below s₁ (mkF m 45 #[vi p1, vi (4 : Int32)] [xi (4 : Int32), xi (4 : Int32)]) _
    refine XS.icmpNo X0.here hx rfl (hb hby d1_45) rfl (by decide) ?_
    show own_S p e below s₁ (mkF m 48 #[vi p1, vi (4 : Int32)] []) _
    refine st1 _ ?_
    show own_S p e below T1 (mkF m 51 #[vi p1, vi (4 : Int32)] [xr u2]) _
    exact X1.areturnOut hx rfl Bd.returns rfl (hb hby d1_51) hr
  · exact ⟨rfl, N0, e1⟩
theorem d2_78 : decode prog_62_method_7_code 78 = .ok (.getstatic 10, 3) := by decide +kernel
theorem d2_81 : decode prog_62_method_7_code 81 = .ok (.goto 6, 3) := by decide +kernel
theorem ef_own_c40_converse (m : MethodId) (u0 u1 u2 u3 u4 u5 : Addr) : entryFrame m #[xr u2] 1 = (mkF m 0 #[vr u2] []) := by first | (simp [entryFrame, mkF, argsToLocals, Value.category]; done) | rfl
set_option maxRecDepth 65536 in
set_option maxHeartbeats 40000000 in
theorem own_c40_converse (l : Launch) (Z : State) (a0 : Array Value) (hw : ∀ d ∈ tables_1, d.before a0 Z = true) (u0 u1 u2 u3 u4 u5 : Addr) (G : own_St Z u0 u1 u2 u3 u4 u5) (h0 : Heap) (n0 : Nat) (O0 : Old Z n0 h0) : own_Met l Z Y3 prog_62_method_7_code 1 (some (.object "com/example/whyle/whyle/cfa/Relation")) ({ frames := 1, cells := 0, slots := 0, locals := 12 } : Room) #[xr u2] h0 (own_QR (some (xr u3)) h0 n0) := by
  intro ws
  refine MetFree.of_bodySF (plainFor_of_name pn2) hisR ?_
  intro p e s m args below meth c s₁ Bd hml0 hP hK
  obtain ⟨rfl, hZ, hh⟩ := hP
  have hx := Bd.exec
  have hby := Bd.bytes
  have hml : c.maxLocals = 1 := hml0
  have hown : s.vm.findClass "com/example/whyle/whyle/cfa/Relation" = some m.cls := findClass_of_methodNamed Bd.named
  have hnm := (name_of_methodNamed Bd.named Bd.method).1
  have X0 : Stand p l e ({ frames := 1, cells := 0, slots := 0, locals := 12 } : Room) s m #[xr u2] below meth c s₁ [] 0 0 := Stand.of_body Bd
  have e0 : s₁.heap = h0 := by rw [← hh, Bd.state]; rfl
  have N0 := Fr.nil n0
  have pre0 : ∀ t, Steps p.tables e below (s₁.setTop (mkF m 0 #[vr u2] [])) t → Steps p.tables e below (s₁.setTop (entryFrame m #[xr u2] 1)) t := fun t st => castTop (ef_own_c40_converse m u0 u1 u2 u3 u4 u5) st
  obtain ⟨cq1, kq1, qa1, qb1, qc1⟩ := isOf hZ e0 ((own_X_u2 G).ext O0.2)
  obtain ⟨_, _, ⟨T1, L1, k1, n1⟩, -, X1, ⟨Lc1, hQ1, l1, y1, z1⟩, st1⟩ := X0.virtualBackUp hx (x := Y2) (y := Y1) hown (mvT hZ (ww hw 13 rfl)) (mvT hZ (ww hw 14 rfl)) (mvT hZ (ww hw 15 rfl)) (by decide) (mvT hZ (ww hw 17 rfl)) (mvT hZ (ww hw 16 rfl)) (backOf (W := 0) (own_c23_ordinal l Z a0 hw u0 u1 u2 u3 u4 u5 G h0 n0 O0 []) hZ (ww hw 19 rfl) (ww hw 18 rfl) (by decide) (by decide)) qa1 qc1 (g := (mkF m 1 #[vr u2] [xr u2])) rfl (by rw [hml]; rfl) (Steps.refl _) (argsL := []) (rest := []) (lenOf pd1 rfl) rfl (by show 2 * 0 + _ ≤ _; exact Nat.le_of_eq rfl) (hb hby d2_1) (fun _ _ => ⟨rfl, e0, (by decide : 0 + 0 ≤ _), (by decide : 0 + 0 ≤ _)⟩)
  dsimp only [Pt.U, Pt.locs, Pt.cells, Pt.slots] at X1 l1 y1 z1 st1 hQ1
  subst l1 y1 z1
  obtain ⟨rfl, Nq1, e1⟩ := hQ1
  have N1 := Fr.app N0 Nq1
  obtain ⟨T2, X2, e2, st2⟩ := getS2 X1 hx hZ hown (host := "") (Or.inl (ww hw 36 rfl)) Via.refl e1 ((own_S_u3 G).ext O0.2) (g := (mkF m 78 #[vr u2] [])) rfl (hb hby d2_78)
  obtain ⟨fs, hr, hrun, hended, hW, hsame⟩ := X2.leave (v := some (xr u3)) (fun h => by rw [Bd.returns] at h; cases h)
  refine ⟨_, _, pre0 _ ?_, hrun, hended, _, _, rfl, ?_, ⟨_, rfl⟩, hW, hsame.mono (by decide) (by decide)⟩
  · show own_S p e below s₁ (mkF m 0 #[vr u2] []) _
    refine XS.aloadN X0.here hx rfl (hb hby d2_0) rfl rfl ?_
    show own_S p e below s₁ (mkF m 1 #[vr u2] [xr u2]) _
    refine st1.trans ?_
    show own_S p e below T1 (mkF m 4 #[vr u2] [xi (4 : Int32)]) _
    refine XS.tswIn X1.here hx rfl (pc0 := 4) (pc' := 78) (o := 74) rfl (hb hby d2_4) rfl (by decide) (by decide) (by decide) (by decide) ?_
    show own_S p e below T1 (mkF m 78 #[vr u2] []) _
    refine st2 _ ?_
    show own_S p e below T2 (mkF m 81 #[vr u2] [xr u3]) _
    refine XS.goto X2.here hx rfl (pc0 := 81) (pc' := 87) rfl (hb hby d2_81) (by decide) (by decide) ?_
    show own_S p e below T2 (mkF m 87 #[vr u2] [xr u3]) _
    exact X2.areturnOut hx rfl Bd.returns rfl (hb hby d2_87) hr
  · exact ⟨rfl, N1, e2⟩
theorem ef_own_l16 (m : MethodId) (u0 u1 u2 u3 u4 u5 : Addr) (p1 : Int32) (p2 : Int32) (p3 : Int32) (p4 : Int32) : entryFrame m #[xi p1, xi p2, xi p3, xi p4] maxLocals = (mkF m 0 #[vi p1, vi p2, vi p3, vi p4, vu, vu, vu, vu, vu] []) := by first | (simp [entryFrame, mkF, argsToLocals, Value.category, maxLocals]; done) | rfl
set_option maxRecDepth 65536 in
set_option maxHeartbeats 40000000 in
theorem own_l16 (l : Launch) (Z : State) (a0 : Array Value) (hw : ∀ d ∈ tables_1, d.before a0 Z = true) (u0 u1 u2 u3 u4 u5 : Addr) (G : own_St Z u0 u1 u2 u3 u4 u5) (p1 : Int32) (p2 : Int32) (p3 : Int32) (p4 : Int32) (as12 : ((p1 &&& (2147483647 : Int32)) - ((p1 &&& (2147483647 : Int32)) / (6 : Int32)) * (6 : Int32)) = (4 : Int32)) (as14 : (p4 &&& (1 : Int32)) = (0 : Int32)) (as0 : if_icmp.holds .ge p2 p3 = false) (as1 : if_icmp.holds .ge p3 p2 = true) (as2 : if_icmp.holds .ne p3 p2 = true) (h0 : Heap) (n0 : Nat) (O0 : Old Z n0 h0) : own_Met l Z x code maxLocals ret room_1 #[xi p1, xi p2, xi p3, xi p4] h0 (own_QL (some (xi (1 : Int32))) n0) := by
  intro ws
  refine MetFree.of_bodySF (plainFor_of_name pn0) hisR ?_
  intro p e s m args below meth c s₁ Bd hml0 hP hK
  obtain ⟨rfl, hZ, hh⟩ := hP
  have hx := Bd.exec
  have hby := Bd.bytes
  have hml : c.maxLocals = 9 := hml0
  have hown : s.vm.findClass "com/example/whyle/whyle/cfa/RelationConversePinLaw" = some m.cls := findClass_of_methodNamed Bd.named
  have hnm := (name_of_methodNamed Bd.named Bd.method).1
  have X0 : Stand p l e room_1 s m #[xi p1, xi p2, xi p3, xi p4] below meth c s₁ [] 0 0 := Stand.of_body Bd
  have e0 : s₁.heap = h0 := by rw [← hh, Bd.state]; rfl
  have N0 := Fr.nil n0
  have pre0 : ∀ t, Steps p.tables e below (s₁.setTop (mkF m 0 #[vi p1, vi p2, vi p3, vi p4, vu, vu, vu, vu, vu] [])) t → Steps p.tables e below (s₁.setTop (entryFrame m #[xi p1, xi p2, xi p3, xi p4] maxLocals)) t := fun t st => castTop (ef_own_l16 m u0 u1 u2 u3 u4 u5 p1 p2 p3 p4) st
  obtain ⟨_, _, ⟨T1, L1, k1, n1⟩, -, X1, ⟨Lc1, hQ1, l1, y1, z1⟩, st1⟩ := Jvm.LawKit.callS X0 hx (y := Y0) hown (mvT hZ (ww hw 0 rfl)) (mvT hZ (ww hw 1 rfl)) (mvT hZ (ww hw 2 rfl)) (mvT hZ (ww hw 3 rfl)) (by decide) (backOf (W := 0) (own_c39_pick l Z a0 hw u0 u1 u2 u3 u4 u5 G p1 as12 h0 n0 O0 []) hZ (ww hw 3 rfl) (ww hw 2 rfl) (by decide) (by decide)) (g := (mkF m 1 #[vi p1, vi p2, vi p3, vi p4, vu, vu, vu, vu, vu] [xi p1])) rfl (by rw [hml]; rfl) (argsL := [xi p1]) (rest := []) (lenOf pd0 rfl) rfl (by show 2 * 0 + _ ≤ _; exact Nat.le_of_eq rfl) (hb hby at_1) (fun _ _ => ⟨rfl, e0, (by decide : 0 + 0 ≤ _), (by decide : 0 + 0 ≤ _)⟩)
  dsimp only [Pt.U, Pt.locs, Pt.cells, Pt.slots] at X1 l1 y1 z1 st1 hQ1
  subst l1 y1 z1
  obtain ⟨rfl, Nq1, e1⟩ := hQ1
  have N1 := Fr.app N0 Nq1
  obtain ⟨cq2, kq2, qa2, qb2, qc2⟩ := isOf hZ e1 ((own_X_u2 G).ext O0.2)
  obtain ⟨_, _, ⟨T2, L2, k2, n2⟩, -, X2, ⟨Lc2, hQ2, l2, y2, z2⟩, st2⟩ := X1.virtualBack hx (y := Y3) (z := Y3) hown (mvT hZ (ww hw 8 rfl)) (mvT hZ (ww hw 9 rfl)) (notFace_of_selects (args := #[]) (mvT hZ (ww hw 11 rfl))) (mvT hZ (ww hw 11 rfl)) (mvT hZ (ww hw 10 rfl)) (by decide) (backOf (W := 0) (own_c40_converse l Z a0 hw u0 u1 u2 u3 u4 u5 G h0 n0 O0 []) hZ (ww hw 12 rfl) (ww hw 6 rfl) (by decide) (by decide)) qa2 qc2 (g := (mkF m 21 #[vi p1, vi p2, vi p3, vi p4, vr u2, vi p3, vu, vu, vu] [xr u2])) rfl (by rw [hml]; rfl) (Steps.refl _) (argsL := []) (rest := []) (lenOf pd2 rfl) rfl (by show 2 * 0 + _ ≤ _; exact Nat.le_of_eq rfl) (hb hby at_21) (fun _ _ => ⟨rfl, e1, (by decide : 0 + 0 ≤ _), (by decide : 0 + 0 ≤ _)⟩)
  dsimp only [Pt.U, Pt.locs, Pt.cells, Pt.slots] at X2 l2 y2 z2 st2 hQ2
  subst l2 y2 z2
  obtain ⟨rfl, Nq2, e2⟩ := hQ2
  have N2 := Fr.app N1 Nq2
  obtain ⟨_, _, ⟨T3, L3, k3, n3⟩, -, X3, ⟨Lc3, hQ3, l3, y3, z3⟩, st3⟩ := Jvm.LawKit.callS X2 hx (y := Y4) hown (mvT hZ (ww hw 23 rfl)) (mvT hZ (ww hw 24 rfl)) (mvT hZ (ww hw 2 rfl)) (mvT hZ (ww hw 25 rfl)) (by decide) (backOf (W := 1) (own_c3_sign l Z a0 hw u0 u1 u2 u3 u4 u5 G p2 p3 as0 h0 n0 O0 []) hZ (ww hw 25 rfl) (ww hw 2 rfl) (by decide) (by decide)) (g := (mkF m 38 #[vi p1, vi p2, vi p3, vi p4, vr u2, vi p3, vr u3, vu, vu] [xi p3, xi p2, xr u2])) rfl (by rw [hml]; rfl) (argsL := [xi p2, xi p3]) (rest := [xr u2]) (lenOf pd3 rfl) rfl (by show 2 * 0 + _ ≤ _; exact Nat.le_of_eq rfl) (hb hby at_38) (fun _ _ => ⟨rfl, e2, (by decide : 0 + 0 ≤ _), (by decide : 0 + 0 ≤ _)⟩)
  dsimp only [Pt.U, Pt.locs, Pt.cells, Pt.slots] at X3 l3 y3 z3 st3 hQ3
  subst l3 y3 z3
  obtain ⟨rfl, Nq3, e3⟩ := hQ3
  have N3 := Fr.app N2 Nq3
  obtain ⟨cq4, kq4, qa4, qb4, qc4⟩ := isOf hZ e3 ((own_X_u2 G).ext O0.2)
  obtain ⟨_, _, ⟨T4, L4, k4, n4⟩, -, X4, ⟨Lc4, hQ4, l4, y4, z4⟩, st4⟩ := X3.virtualBack hx (y := Y5) (z := Y5) hown (mvT hZ (ww hw 26 rfl)) (mvT hZ (ww hw 27 rfl)) (notFace_of_selects (args := #[]) (mvT hZ (ww hw 29 rfl))) (mvT hZ (ww hw 29 rfl)) (mvT hZ (ww hw 28 rfl)) (by decide) (backOf (W := 0) (own_c28_holds l Z a0 hw u0 u1 u2 u3 u4 u5 G h0 n0 O0 []) hZ (ww hw 30 rfl) (ww hw 6 rfl) (by decide) (by decide)) qa4 qc4 (g := (mkF m 41 #[vi p1, vi p2, vi p3, vi p4, vr u2, vi p3, vr u3, vu, vu] [xi (-1 : Int32), xr u2])) rfl (by rw [hml]; rfl) (Steps.refl _) (argsL := [xi (-1 : Int32)]) (rest := []) (lenOf pd4 rfl) rfl (by show 2 * 0 + _ ≤ _; exact Nat.le_of_eq rfl) (hb hby at_41) (fun _ _ => ⟨rfl, e3, (by decide : 0 + 0 ≤ _), (by decide : 0 + 0 ≤ _)⟩)
  dsimp only [Pt.U, Pt.locs, Pt.cells, Pt.slots] at X4 l4 y4 z4 st4 hQ4
  subst l4 y4 z4
  obtain ⟨rfl, Nq4, e4⟩ := hQ4
  have N4 := Fr.app N3 Nq4
  obtain ⟨_, _, ⟨T5, L5, k5, n5⟩, -, X5, ⟨Lc5, hQ5, l5, y5, z5⟩, st5⟩ := Jvm.LawKit.callS X4 hx (y := Y4) hown (mvT hZ (ww hw 23 rfl)) (mvT hZ (ww hw 24 rfl)) (mvT hZ (ww hw 2 rfl)) (mvT hZ (ww hw 25 rfl)) (by decide) (backOf (W := 1) (own_c5_sign l Z a0 hw u0 u1 u2 u3 u4 u5 G p2 p3 as1 as2 h0 n0 O0 []) hZ (ww hw 25 rfl) (ww hw 2 rfl) (by decide) (by decide)) (g := (mkF m 51 #[vi p1, vi p2, vi p3, vi p4, vr u2, vi p3, vr u3, vi (0 : Int32), vu] [xi p2, xi p3, xr u3])) rfl (by rw [hml]; rfl) (argsL := [xi p3, xi p2]) (rest := [xr u3]) (lenOf pd3 rfl) rfl (by show 2 * 0 + _ ≤ _; exact Nat.le_of_eq rfl) (hb hby at_51) (fun _ _ => ⟨rfl, e4, (by decide : 0 + 0 ≤ _), (by decide : 0 + 0 ≤ _)⟩)
  dsimp only [Pt.U, Pt.locs, Pt.cells, Pt.slots] at X5 l5 y5 z5 st5 hQ5
  subst l5 y5 z5
  obtain ⟨rfl, Nq5, e5⟩ := hQ5
  have N5 := Fr.app N4 Nq5
  obtain ⟨cq6, kq6, qa6, qb6, qc6⟩ := isOf hZ e5 ((own_X_u3 G).ext O0.2)
  obtain ⟨_, _, ⟨T6, L6, k6, n6⟩, -, X6, ⟨Lc6, hQ6, l6, y6, z6⟩, st6⟩ := X5.virtualBack hx (y := Y5) (z := Y5) hown (mvT hZ (ww hw 26 rfl)) (mvT hZ (ww hw 27 rfl)) (notFace_of_selects (args := #[]) (mvT hZ (ww hw 29 rfl))) (mvT hZ (ww hw 29 rfl)) (mvT hZ (ww hw 28 rfl)) (by decide) (backOf (W := 0) (own_c27_holds l Z a0 hw u0 u1 u2 u3 u4 u5 G h0 n0 O0 []) hZ (ww hw 30 rfl) (ww hw 6 rfl) (by decide) (by decide)) qa6 qc6 (g := (mkF m 54 #[vi p1, vi p2, vi p3, vi p4, vr u2, vi p3, vr u3, vi (0 : Int32), vu] [xi (1 : Int32), xr u3])) rfl (by rw [hml]; rfl) (Steps.refl _) (argsL := [xi (1 : Int32)]) (rest := []) (lenOf pd4 rfl) rfl (by show 2 * 0 + _ ≤ _; exact Nat.le_of_eq rfl) (hb hby at_54) (fun _ _ => ⟨rfl, e5, (by decide : 0 + 0 ≤ _), (by decide : 0 + 0 ≤ _)⟩)
  dsimp only [Pt.U, Pt.locs, Pt.cells, Pt.slots] at X6 l6 y6 z6 st6 hQ6
  subst l6 y6 z6
  obtain ⟨rfl, Nq6, e6⟩ := hQ6
  have N6 := Fr.app N5 Nq6
  obtain ⟨fs, hr, hrun, hended, hW, hsame⟩ := X6.leave (v := some (xi (1 : Int32))) (fun h => by rw [Bd.returns] at h; cases h)
  refine ⟨_, _, pre0 _ ?_, hrun, hended, _, _, rfl, ?_, ⟨_, rfl⟩, hW, hsame.mono (by decide) (by decide)⟩
  · show own_S p e below s₁ (mkF m 0 #[vi p1, vi p2, vi p3, vi p4, vu, vu, vu, vu, vu] []) _
    refine XS.iloadN X0.here hx rfl (hb hby at_0) rfl ?_
    show own_S p e below s₁ (mkF m 1 #[vi p1, vi p2, vi p3, vi p4, vu, vu, vu, vu, vu] [xi p1]) _
    refine st1 _ ?_
    show own_S p e below T1 (mkF m 4 #[vi p1, vi p2, vi p3, vi p4, vu, vu, vu, vu, vu] [xr u2]) _
    refine XS.astore X1.here hx rfl (hb hby at_4) rfl rfl (l' := #[vi p1, vi p2, vi p3, vi p4, vr u2, vu, vu, vu, vu]) rfl ?_
    show own_S p e below T1 (mkF m 6 #[vi p1, vi p2, vi p3, vi p4, vr u2, vu, vu, vu, vu] []) _
    refine XS.iloadN X1.here hx rfl (hb hby at_6) rfl ?_
    show own_S p e below T1 (mkF m 7 #[vi p1, vi p2, vi p3, vi p4, vr u2, vu, vu, vu, vu] [xi p4]) _
    refine XS.iconst X1.here hx rfl (hb hby at_7) ?_
    show own_S p e below T1 (mkF m 8 #[vi p1, vi p2, vi p3, vi p4, vr u2, vu, vu, vu, vu] [xi (1 : Int32), xi p4]) _
    refine XS.iand X1.here hx rfl (hb hby at_8) rfl ?_
    show own_S p e below T1 (mkF m 9 #[vi p1, vi p2, vi p3, vi p4, vr u2, vu, vu, vu, vu] [xi (p4 &&& (1 : Int32))]) _
    refine castTop (show (mkF m 9 #[vi p1, vi p2, vi p3, vi p4, vr u2, vu, vu, vu, vu] [xi (p4 &&& (1 : Int32))]) = (mkF m 9 #[vi p1, vi p2, vi p3, vi p4, vr u2, vu, vu, vu, vu] [xi (0 : Int32)]) from by rw [as14]) ?_
    show own_S p e below T1 (mkF m 9 #[vi p1, vi p2, vi p3, vi p4, vr u2, vu, vu, vu, vu] [xi (0 : Int32)]) _
    refine XS.ifYes X1.here hx rfl (pc0 := 9) (pc' := 16) rfl (hb hby at_9) rfl (by decide) (by decide) (by decide) ?_
    show own_S p e below T1 (mkF m 16 #[vi p1, vi p2, vi p3, vi p4, vr u2, vu, vu, vu, vu] []) _
    refine XS.iloadN X1.here hx rfl (hb hby at_16) rfl ?_
    show own_S p e below T1 (mkF m 17 #[vi p1, vi p2, vi p3, vi p4, vr u2, vu, vu, vu, vu] [xi p3]) _
    refine XS.istore X1.here hx rfl (hb hby at_17) rfl (l' := #[vi p1, vi p2, vi p3, vi p4, vr u2, vi p3, vu, vu, vu]) rfl ?_
    show own_S p e below T1 (mkF m 19 #[vi p1, vi p2, vi p3, vi p4, vr u2, vi p3, vu, vu, vu] []) _
    refine XS.aload X1.here hx rfl (hb hby at_19) rfl rfl ?_
    show own_S p e below T1 (mkF m 21 #[vi p1, vi p2, vi p3, vi p4, vr u2, vi p3, vu, vu, vu] [xr u2]) _
    refine st2.trans ?_
    show own_S p e below T2 (mkF m 24 #[vi p1, vi p2, vi p3, vi p4, vr u2, vi p3, vu, vu, vu] [xr u3]) _
    refine XS.astore X2.here hx rfl (hb hby at_24) rfl rfl (l' := #[vi p1, vi p2, vi p3, vi p4, vr u2, vi p3, vr u3, vu, vu]) rfl ?_
    show own_S p e below T2 (mkF m 26 #[vi p1, vi p2, vi p3, vi p4, vr u2, vi p3, vr u3, vu, vu] []) _
    refine XS.aload X2.here hx rfl (hb hby at_26) rfl rfl ?_
    show own_S p e below T2 (mkF m 28 #[vi p1, vi p2, vi p3, vi p4, vr u2, vi p3, vr u3, vu, vu] [xr u3]) _
    refine Jvm.Free.XT.nonnullYes X2.here hx rfl (pc0 := 28) (pc' := 33) rfl (hb hby at_28) rfl rfl (by simp) (by decide) (by decide) ?_
    show own_S p e below T2 (mkF m 33 #[vi p1, vi p2, vi p3, vi p4, vr u2, vi p3, vr u3, vu, vu] []) _
    refine XS.aload X2.here hx rfl (hb hby at_33) rfl rfl ?_
    show own_S p e below T2 (mkF m 35 #[vi p1, vi p2, vi p3, vi p4, vr u2, vi p3, vr u3, vu, vu] [xr u2]) _
    refine XS.iloadN X2.here hx rfl (hb hby at_35) rfl ?_
    show own_S p e below T2 (mkF m 36 #[vi p1, vi p2, vi p3, vi p4, vr u2, vi p3, vr u3, vu, vu] [xi p2, xr u2]) _
    refine XS.iload X2.here hx rfl (hb hby at_36) rfl ?_
    show own_S p e below T2 (mkF m 38 #[vi p1, vi p2, vi p3, vi p4, vr u2, vi p3, vr u3, vu, vu] [xi p3, xi p2, xr u2]) _
    refine st3 _ ?_
    show own_S p e below T3 (mkF m 41 #[vi p1, vi p2, vi p3, vi p4, vr u2, vi p3, vr u3, vu, vu] [xi (-1 : Int32), xr u2]) _
    refine st4.trans ?_
    show own_S p e below T4 (mkF m 44 #[vi p1, vi p2, vi p3, vi p4, vr u2, vi p3, vr u3, vu, vu] [xi (0 : Int32)]) _
    refine XS.istore X4.here hx rfl (hb hby at_44) rfl (l' := #[vi p1, vi p2, vi p3, vi p4, vr u2, vi p3, vr u3, vi (0 : Int32), vu]) rfl ?_
    show own_S p e below T4 (mkF m 46 #[vi p1, vi p2, vi p3, vi p4, vr u2, vi p3, vr u3, vi (0 : Int32), vu] []) _
    refine XS.aload X4.here hx rfl (hb hby at_46) rfl rfl ?_
    show own_S p e below T4 (mkF m 48 #[vi p1, vi p2, vi p3, vi p4, vr u2, vi p3, vr u3, vi (0 : Int32), vu] [xr u3]) _
    refine XS.iload X4.here hx rfl (hb hby at_48) rfl ?_
    show own_S p e below T4 (mkF m 50 #[vi p1, vi p2, vi p3, vi p4, vr u2, vi p3, vr u3, vi (0 : Int32), vu] [xi p3, xr u3]) _
    refine XS.iloadN X4.here hx rfl (hb hby at_50) rfl ?_
    show own_S p e below T4 (mkF m 51 #[vi p1, vi p2, vi p3, vi p4, vr u2, vi p3, vr u3, vi (0 : Int32), vu] [xi p2, xi p3, xr u3]) _
    refine st5 _ ?_
    show own_S p e below T5 (mkF m 54 #[vi p1, vi p2, vi p3, vi p4, vr u2, vi p3, vr u3, vi (0 : Int32), vu] [xi (1 : Int32), xr u3]) _
    refine st6.trans ?_
    show own_S p e below T6 (mkF m 57 #[vi p1, vi p2, vi p3, vi p4, vr u2, vi p3, vr u3, vi (0 : Int32), vu] [xi (0 : Int32)]) _
    refine XS.istore X6.here hx rfl (hb hby at_57) rfl (l' := #[vi p1, vi p2, vi p3, vi p4, vr u2, vi p3, vr u3, vi (0 : Int32), vi (0 : Int32)]) rfl ?_
    show own_S p e below T6 (mkF m 59 #[vi p1, vi p2, vi p3, vi p4, vr u2, vi p3, vr u3, vi (0 : Int32), vi (0 : Int32)] []) _
    refine XS.iload X6.here hx rfl (hb hby at_59) rfl ?_
    show own_S p e below T6 (mkF m 61 #[vi p1, vi p2, vi p3, vi p4, vr u2, vi p3, vr u3, vi (0 : Int32), vi (0 : Int32)] [xi (0 : Int32)]) _
    refine XS.iload X6.here hx rfl (hb hby at_61) rfl ?_
    show own_S p e below T6 (mkF m 63 #[vi p1, vi p2, vi p3, vi p4, vr u2, vi p3, vr u3, vi (0 : Int32), vi (0 : Int32)] [xi (0 : Int32), xi (0 : Int32)]) _
    refine XS.icmpNo X6.here hx rfl (hb hby at_63) rfl (by decide) ?_
    show own_S p e below T6 (mkF m 66 #[vi p1, vi p2, vi p3, vi p4, vr u2, vi p3, vr u3, vi (0 : Int32), vi (0 : Int32)] []) _
    refine XS.iconst X6.here hx rfl (hb hby at_66) ?_
    show own_S p e below T6 (mkF m 67 #[vi p1, vi p2, vi p3, vi p4, vr u2, vi p3, vr u3, vi (0 : Int32), vi (0 : Int32)] [xi (1 : Int32)]) _
    refine XS.goto X6.here hx rfl (pc0 := 67) (pc' := 71) rfl (hb hby at_67) (by decide) (by decide) ?_
    show own_S p e below T6 (mkF m 71 #[vi p1, vi p2, vi p3, vi p4, vr u2, vi p3, vr u3, vi (0 : Int32), vi (0 : Int32)] [xi (1 : Int32)]) _
    exact retN X6 hx (t := .boolean) Bd.returns (by simp) (hb hby at_71) hr
  · exact ⟨rfl, N6⟩
theorem ef_own_l17 (m : MethodId) (u0 u1 u2 u3 u4 u5 : Addr) (p1 : Int32) (p2 : Int32) (p3 : Int32) (p4 : Int32) : entryFrame m #[xi p1, xi p2, xi p3, xi p4] maxLocals = (mkF m 0 #[vi p1, vi p2, vi p3, vi p4, vu, vu, vu, vu, vu] []) := by first | (simp [entryFrame, mkF, argsToLocals, Value.category, maxLocals]; done) | rfl
set_option maxRecDepth 65536 in
set_option maxHeartbeats 40000000 in
theorem own_l17 (l : Launch) (Z : State) (a0 : Array Value) (hw : ∀ d ∈ tables_1, d.before a0 Z = true) (u0 u1 u2 u3 u4 u5 : Addr) (G : own_St Z u0 u1 u2 u3 u4 u5) (p1 : Int32) (p2 : Int32) (p3 : Int32) (p4 : Int32) (as12 : ((p1 &&& (2147483647 : Int32)) - ((p1 &&& (2147483647 : Int32)) / (6 : Int32)) * (6 : Int32)) = (4 : Int32)) (as14 : (p4 &&& (1 : Int32)) = (0 : Int32)) (as3 : if_icmp.holds .ge p2 p3 = true) (as4 : if_icmp.holds .ne p2 p3 = false) (as1 : if_icmp.holds .ge p3 p2 = true) (as5 : if_icmp.holds .ne p3 p2 = false) (h0 : Heap) (n0 : Nat) (O0 : Old Z n0 h0) : own_Met l Z x code maxLocals ret room_1 #[xi p1, xi p2, xi p3, xi p4] h0 (own_QL (some (xi (1 : Int32))) n0) := by
  intro ws
  refine MetFree.of_bodySF (plainFor_of_name pn0) hisR ?_
  intro p e s m args below meth c s₁ Bd hml0 hP hK
  obtain ⟨rfl, hZ, hh⟩ := hP
  have hx := Bd.exec
  have hby := Bd.bytes
  have hml : c.maxLocals = 9 := hml0
  have hown : s.vm.findClass "com/example/whyle/whyle/cfa/RelationConversePinLaw" = some m.cls := findClass_of_methodNamed Bd.named
  have hnm := (name_of_methodNamed Bd.named Bd.method).1
  have X0 : Stand p l e room_1 s m #[xi p1, xi p2, xi p3, xi p4] below meth c s₁ [] 0 0 := Stand.of_body Bd
  have e0 : s₁.heap = h0 := by rw [← hh, Bd.state]; rfl
  have N0 := Fr.nil n0
  have pre0 : ∀ t, Steps p.tables e below (s₁.setTop (mkF m 0 #[vi p1, vi p2, vi p3, vi p4, vu, vu, vu, vu, vu] [])) t → Steps p.tables e below (s₁.setTop (entryFrame m #[xi p1, xi p2, xi p3, xi p4] maxLocals)) t := fun t st => castTop (ef_own_l17 m u0 u1 u2 u3 u4 u5 p1 p2 p3 p4) st
  obtain ⟨_, _, ⟨T1, L1, k1, n1⟩, -, X1, ⟨Lc1, hQ1, l1, y1, z1⟩, st1⟩ := Jvm.LawKit.callS X0 hx (y := Y0) hown (mvT hZ (ww hw 0 rfl)) (mvT hZ (ww hw 1 rfl)) (mvT hZ (ww hw 2 rfl)) (mvT hZ (ww hw 3 rfl)) (by decide) (backOf (W := 0) (own_c39_pick l Z a0 hw u0 u1 u2 u3 u4 u5 G p1 as12 h0 n0 O0 []) hZ (ww hw 3 rfl) (ww hw 2 rfl) (by decide) (by decide)) (g := (mkF m 1 #[vi p1, vi p2, vi p3, vi p4, vu, vu, vu, vu, vu] [xi p1])) rfl (by rw [hml]; rfl) (argsL := [xi p1]) (rest := []) (lenOf pd0 rfl) rfl (by show 2 * 0 + _ ≤ _; exact Nat.le_of_eq rfl) (hb hby at_1) (fun _ _ => ⟨rfl, e0, (by decide : 0 + 0 ≤ _), (by decide : 0 + 0 ≤ _)⟩)
  dsimp only [Pt.U, Pt.locs, Pt.cells, Pt.slots] at X1 l1 y1 z1 st1 hQ1
  subst l1 y1 z1
  obtain ⟨rfl, Nq1, e1⟩ := hQ1
  have N1 := Fr.app N0 Nq1
  obtain ⟨cq2, kq2, qa2, qb2, qc2⟩ := isOf hZ e1 ((own_X_u2 G).ext O0.2)
  obtain ⟨_, _, ⟨T2, L2, k2, n2⟩, -, X2, ⟨Lc2, hQ2, l2, y2, z2⟩, st2⟩ := X1.virtualBack hx (y := Y3) (z := Y3) hown (mvT hZ (ww hw 8 rfl)) (mvT hZ (ww hw 9 rfl)) (notFace_of_selects (args := #[]) (mvT hZ (ww hw 11 rfl))) (mvT hZ (ww hw 11 rfl)) (mvT hZ (ww hw 10 rfl)) (by decide) (backOf (W := 0) (own_c40_converse l Z a0 hw u0 u1 u2 u3 u4 u5 G h0 n0 O0 []) hZ (ww hw 12 rfl) (ww hw 6 rfl) (by decide) (by decide)) qa2 qc2 (g := (mkF m 21 #[vi p1, vi p2, vi p3, vi p4, vr u2, vi p3, vu, vu, vu] [xr u2])) rfl (by rw [hml]; rfl) (Steps.refl _) (argsL := []) (rest := []) (lenOf pd2 rfl) rfl (by show 2 * 0 + _ ≤ _; exact Nat.le_of_eq rfl) (hb hby at_21) (fun _ _ => ⟨rfl, e1, (by decide : 0 + 0 ≤ _), (by decide : 0 + 0 ≤ _)⟩)
  dsimp only [Pt.U, Pt.locs, Pt.cells, Pt.slots] at X2 l2 y2 z2 st2 hQ2
  subst l2 y2 z2
  obtain ⟨rfl, Nq2, e2⟩ := hQ2
  have N2 := Fr.app N1 Nq2
  obtain ⟨_, _, ⟨T3, L3, k3, n3⟩, -, X3, ⟨Lc3, hQ3, l3, y3, z3⟩, st3⟩ := Jvm.LawKit.callS X2 hx (y := Y4) hown (mvT hZ (ww hw 23 rfl)) (mvT hZ (ww hw 24 rfl)) (mvT hZ (ww hw 2 rfl)) (mvT hZ (ww hw 25 rfl)) (by decide) (backOf (W := 1) (own_c7_sign l Z a0 hw u0 u1 u2 u3 u4 u5 G p2 p3 as3 as4 h0 n0 O0 []) hZ (ww hw 25 rfl) (ww hw 2 rfl) (by decide) (by decide)) (g := (mkF m 38 #[vi p1, vi p2, vi p3, vi p4, vr u2, vi p3, vr u3, vu, vu] [xi p3, xi p2, xr u2])) rfl (by rw [hml]; rfl) (argsL := [xi p2, xi p3]) (rest := [xr u2]) (lenOf pd3 rfl) rfl (by show 2 * 0 + _ ≤ _; exact Nat.le_of_eq rfl) (hb hby at_38) (fun _ _ => ⟨rfl, e2, (by decide : 0 + 0 ≤ _), (by decide : 0 + 0 ≤ _)⟩)
  dsimp only [Pt.U, Pt.locs, Pt.cells, Pt.slots] at X3 l3 y3 z3 st3 hQ3
  subst l3 y3 z3
  obtain ⟨rfl, Nq3, e3⟩ := hQ3
  have N3 := Fr.app N2 Nq3
  obtain ⟨cq4, kq4, qa4, qb4, qc4⟩ := isOf hZ e3 ((own_X_u2 G).ext O0.2)
  obtain ⟨_, _, ⟨T4, L4, k4, n4⟩, -, X4, ⟨Lc4, hQ4, l4, y4, z4⟩, st4⟩ := X3.virtualBack hx (y := Y5) (z := Y5) hown (mvT hZ (ww hw 26 rfl)) (mvT hZ (ww hw 27 rfl)) (notFace_of_selects (args := #[]) (mvT hZ (ww hw 29 rfl))) (mvT hZ (ww hw 29 rfl)) (mvT hZ (ww hw 28 rfl)) (by decide) (backOf (W := 0) (own_c26_holds l Z a0 hw u0 u1 u2 u3 u4 u5 G h0 n0 O0 []) hZ (ww hw 30 rfl) (ww hw 6 rfl) (by decide) (by decide)) qa4 qc4 (g := (mkF m 41 #[vi p1, vi p2, vi p3, vi p4, vr u2, vi p3, vr u3, vu, vu] [xi (0 : Int32), xr u2])) rfl (by rw [hml]; rfl) (Steps.refl _) (argsL := [xi (0 : Int32)]) (rest := []) (lenOf pd4 rfl) rfl (by show 2 * 0 + _ ≤ _; exact Nat.le_of_eq rfl) (hb hby at_41) (fun _ _ => ⟨rfl, e3, (by decide : 0 + 0 ≤ _), (by decide : 0 + 0 ≤ _)⟩)
  dsimp only [Pt.U, Pt.locs, Pt.cells, Pt.slots] at X4 l4 y4 z4 st4 hQ4
  subst l4 y4 z4
  obtain ⟨rfl, Nq4, e4⟩ := hQ4
  have N4 := Fr.app N3 Nq4
  obtain ⟨_, _, ⟨T5, L5, k5, n5⟩, -, X5, ⟨Lc5, hQ5, l5, y5, z5⟩, st5⟩ := Jvm.LawKit.callS X4 hx (y := Y4) hown (mvT hZ (ww hw 23 rfl)) (mvT hZ (ww hw 24 rfl)) (mvT hZ (ww hw 2 rfl)) (mvT hZ (ww hw 25 rfl)) (by decide) (backOf (W := 1) (own_c9_sign l Z a0 hw u0 u1 u2 u3 u4 u5 G p2 p3 as1 as5 h0 n0 O0 []) hZ (ww hw 25 rfl) (ww hw 2 rfl) (by decide) (by decide)) (g := (mkF m 51 #[vi p1, vi p2, vi p3, vi p4, vr u2, vi p3, vr u3, vi (0 : Int32), vu] [xi p2, xi p3, xr u3])) rfl (by rw [hml]; rfl) (argsL := [xi p3, xi p2]) (rest := [xr u3]) (lenOf pd3 rfl) rfl (by show 2 * 0 + _ ≤ _; exact Nat.le_of_eq rfl) (hb hby at_51) (fun _ _ => ⟨rfl, e4, (by decide : 0 + 0 ≤ _), (by decide : 0 + 0 ≤ _)⟩)
  dsimp only [Pt.U, Pt.locs, Pt.cells, Pt.slots] at X5 l5 y5 z5 st5 hQ5
  subst l5 y5 z5
  obtain ⟨rfl, Nq5, e5⟩ := hQ5
  have N5 := Fr.app N4 Nq5
  obtain ⟨cq6, kq6, qa6, qb6, qc6⟩ := isOf hZ e5 ((own_X_u3 G).ext O0.2)
  obtain ⟨_, _, ⟨T6, L6, k6, n6⟩, -, X6, ⟨Lc6, hQ6, l6, y6, z6⟩, st6⟩ := X5.virtualBack hx (y := Y5) (z := Y5) hown (mvT hZ (ww hw 26 rfl)) (mvT hZ (ww hw 27 rfl)) (notFace_of_selects (args := #[]) (mvT hZ (ww hw 29 rfl))) (mvT hZ (ww hw 29 rfl)) (mvT hZ (ww hw 28 rfl)) (by decide) (backOf (W := 0) (own_c25_holds l Z a0 hw u0 u1 u2 u3 u4 u5 G h0 n0 O0 []) hZ (ww hw 30 rfl) (ww hw 6 rfl) (by decide) (by decide)) qa6 qc6 (g := (mkF m 54 #[vi p1, vi p2, vi p3, vi p4, vr u2, vi p3, vr u3, vi (0 : Int32), vu] [xi (0 : Int32), xr u3])) rfl (by rw [hml]; rfl) (Steps.refl _) (argsL := [xi (0 : Int32)]) (rest := []) (lenOf pd4 rfl) rfl (by show 2 * 0 + _ ≤ _; exact Nat.le_of_eq rfl) (hb hby at_54) (fun _ _ => ⟨rfl, e5, (by decide : 0 + 0 ≤ _), (by decide : 0 + 0 ≤ _)⟩)
  dsimp only [Pt.U, Pt.locs, Pt.cells, Pt.slots] at X6 l6 y6 z6 st6 hQ6
  subst l6 y6 z6
  obtain ⟨rfl, Nq6, e6⟩ := hQ6
  have N6 := Fr.app N5 Nq6
  obtain ⟨fs, hr, hrun, hended, hW, hsame⟩ := X6.leave (v := some (xi (1 : Int32))) (fun h => by rw [Bd.returns] at h; cases h)
  refine ⟨_, _, pre0 _ ?_, hrun, hended, _, _, rfl, ?_, ⟨_, rfl⟩, hW, hsame.mono (by decide) (by decide)⟩
  · show own_S p e below s₁ (mkF m 0 #[vi p1, vi p2, vi p3, vi p4, vu, vu, vu, vu, vu] []) _
    refine XS.iloadN X0.here hx rfl (hb hby at_0) rfl ?_
    show own_S p e below s₁ (mkF m 1 #[vi p1, vi p2, vi p3, vi p4, vu, vu, vu, vu, vu] [xi p1]) _
    refine st1 _ ?_
    show own_S p e below T1 (mkF m 4 #[vi p1, vi p2, vi p3, vi p4, vu, vu, vu, vu, vu] [xr u2]) _
    refine XS.astore X1.here hx rfl (hb hby at_4) rfl rfl (l' := #[vi p1, vi p2, vi p3, vi p4, vr u2, vu, vu, vu, vu]) rfl ?_
    show own_S p e below T1 (mkF m 6 #[vi p1, vi p2, vi p3, vi p4, vr u2, vu, vu, vu, vu] []) _
    refine XS.iloadN X1.here hx rfl (hb hby at_6) rfl ?_
    show own_S p e below T1 (mkF m 7 #[vi p1, vi p2, vi p3, vi p4, vr u2, vu, vu, vu, vu] [xi p4]) _
    refine XS.iconst X1.here hx rfl (hb hby at_7) ?_
    show own_S p e below T1 (mkF m 8 #[vi p1, vi p2, vi p3, vi p4, vr u2, vu, vu, vu, vu] [xi (1 : Int32), xi p4]) _
    refine XS.iand X1.here hx rfl (hb hby at_8) rfl ?_
    show own_S p e below T1 (mkF m 9 #[vi p1, vi p2, vi p3, vi p4, vr u2, vu, vu, vu, vu] [xi (p4 &&& (1 : Int32))]) _
    refine castTop (show (mkF m 9 #[vi p1, vi p2, vi p3, vi p4, vr u2, vu, vu, vu, vu] [xi (p4 &&& (1 : Int32))]) = (mkF m 9 #[vi p1, vi p2, vi p3, vi p4, vr u2, vu, vu, vu, vu] [xi (0 : Int32)]) from by rw [as14]) ?_
    show own_S p e below T1 (mkF m 9 #[vi p1, vi p2, vi p3, vi p4, vr u2, vu, vu, vu, vu] [xi (0 : Int32)]) _
    refine XS.ifYes X1.here hx rfl (pc0 := 9) (pc' := 16) rfl (hb hby at_9) rfl (by decide) (by decide) (by decide) ?_
    show own_S p e below T1 (mkF m 16 #[vi p1, vi p2, vi p3, vi p4, vr u2, vu, vu, vu, vu] []) _
    refine XS.iloadN X1.here hx rfl (hb hby at_16) rfl ?_
    show own_S p e below T1 (mkF m 17 #[vi p1, vi p2, vi p3, vi p4, vr u2, vu, vu, vu, vu] [xi p3]) _
    refine XS.istore X1.here hx rfl (hb hby at_17) rfl (l' := #[vi p1, vi p2, vi p3, vi p4, vr u2, vi p3, vu, vu, vu]) rfl ?_
    show own_S p e below T1 (mkF m 19 #[vi p1, vi p2, vi p3, vi p4, vr u2, vi p3, vu, vu, vu] []) _
    refine XS.aload X1.here hx rfl (hb hby at_19) rfl rfl ?_
    show own_S p e below T1 (mkF m 21 #[vi p1, vi p2, vi p3, vi p4, vr u2, vi p3, vu, vu, vu] [xr u2]) _
    refine st2.trans ?_
    show own_S p e below T2 (mkF m 24 #[vi p1, vi p2, vi p3, vi p4, vr u2, vi p3, vu, vu, vu] [xr u3]) _
    refine XS.astore X2.here hx rfl (hb hby at_24) rfl rfl (l' := #[vi p1, vi p2, vi p3, vi p4, vr u2, vi p3, vr u3, vu, vu]) rfl ?_
    show own_S p e below T2 (mkF m 26 #[vi p1, vi p2, vi p3, vi p4, vr u2, vi p3, vr u3, vu, vu] []) _
    refine XS.aload X2.here hx rfl (hb hby at_26) rfl rfl ?_
    show own_S p e below T2 (mkF m 28 #[vi p1, vi p2, vi p3, vi p4, vr u2, vi p3, vr u3, vu, vu] [xr u3]) _
    refine Jvm.Free.XT.nonnullYes X2.here hx rfl (pc0 := 28) (pc' := 33) rfl (hb hby at_28) rfl rfl (by simp) (by decide) (by decide) ?_
    show own_S p e below T2 (mkF m 33 #[vi p1, vi p2, vi p3, vi p4, vr u2, vi p3, vr u3, vu, vu] []) _
    refine XS.aload X2.here hx rfl (hb hby at_33) rfl rfl ?_
    show own_S p e below T2 (mkF m 35 #[vi p1, vi p2, vi p3, vi p4, vr u2, vi p3, vr u3, vu, vu] [xr u2]) _
    refine XS.iloadN X2.here hx rfl (hb hby at_35) rfl ?_
    show own_S p e below T2 (mkF m 36 #[vi p1, vi p2, vi p3, vi p4, vr u2, vi p3, vr u3, vu, vu] [xi p2, xr u2]) _
    refine XS.iload X2.here hx rfl (hb hby at_36) rfl ?_
    show own_S p e below T2 (mkF m 38 #[vi p1, vi p2, vi p3, vi p4, vr u2, vi p3, vr u3, vu, vu] [xi p3, xi p2, xr u2]) _
    refine st3 _ ?_
    show own_S p e below T3 (mkF m 41 #[vi p1, vi p2, vi p3, vi p4, vr u2, vi p3, vr u3, vu, vu] [xi (0 : Int32), xr u2]) _
    refine st4.trans ?_
    show own_S p e below T4 (mkF m 44 #[vi p1, vi p2, vi p3, vi p4, vr u2, vi p3, vr u3, vu, vu] [xi (0 : Int32)]) _
    refine XS.istore X4.here hx rfl (hb hby at_44) rfl (l' := #[vi p1, vi p2, vi p3, vi p4, vr u2, vi p3, vr u3, vi (0 : Int32), vu]) rfl ?_
    show own_S p e below T4 (mkF m 46 #[vi p1, vi p2, vi p3, vi p4, vr u2, vi p3, vr u3, vi (0 : Int32), vu] []) _
    refine XS.aload X4.here hx rfl (hb hby at_46) rfl rfl ?_
    show own_S p e below T4 (mkF m 48 #[vi p1, vi p2, vi p3, vi p4, vr u2, vi p3, vr u3, vi (0 : Int32), vu] [xr u3]) _
    refine XS.iload X4.here hx rfl (hb hby at_48) rfl ?_
    show own_S p e below T4 (mkF m 50 #[vi p1, vi p2, vi p3, vi p4, vr u2, vi p3, vr u3, vi (0 : Int32), vu] [xi p3, xr u3]) _
    refine XS.iloadN X4.here hx rfl (hb hby at_50) rfl ?_
    show own_S p e below T4 (mkF m 51 #[vi p1, vi p2, vi p3, vi p4, vr u2, vi p3, vr u3, vi (0 : Int32), vu] [xi p2, xi p3, xr u3]) _
    refine st5 _ ?_
    show own_S p e below T5 (mkF m 54 #[vi p1, vi p2, vi p3, vi p4, vr u2, vi p3, vr u3, vi (0 : Int32), vu] [xi (0 : Int32), xr u3]) _
    refine st6.trans ?_
    show own_S p e below T6 (mkF m 57 #[vi p1, vi p2, vi p3, vi p4, vr u2, vi p3, vr u3, vi (0 : Int32), vu] [xi (0 : Int32)]) _
    refine XS.istore X6.here hx rfl (hb hby at_57) rfl (l' := #[vi p1, vi p2, vi p3, vi p4, vr u2, vi p3, vr u3, vi (0 : Int32), vi (0 : Int32)]) rfl ?_
    show own_S p e below T6 (mkF m 59 #[vi p1, vi p2, vi p3, vi p4, vr u2, vi p3, vr u3, vi (0 : Int32), vi (0 : Int32)] []) _
    refine XS.iload X6.here hx rfl (hb hby at_59) rfl ?_
    show own_S p e below T6 (mkF m 61 #[vi p1, vi p2, vi p3, vi p4, vr u2, vi p3, vr u3, vi (0 : Int32), vi (0 : Int32)] [xi (0 : Int32)]) _
    refine XS.iload X6.here hx rfl (hb hby at_61) rfl ?_
    show own_S p e below T6 (mkF m 63 #[vi p1, vi p2, vi p3, vi p4, vr u2, vi p3, vr u3, vi (0 : Int32), vi (0 : Int32)] [xi (0 : Int32), xi (0 : Int32)]) _
    refine XS.icmpNo X6.here hx rfl (hb hby at_63) rfl (by decide) ?_
    show own_S p e below T6 (mkF m 66 #[vi p1, vi p2, vi p3, vi p4, vr u2, vi p3, vr u3, vi (0 : Int32), vi (0 : Int32)] []) _
    refine XS.iconst X6.here hx rfl (hb hby at_66) ?_
    show own_S p e below T6 (mkF m 67 #[vi p1, vi p2, vi p3, vi p4, vr u2, vi p3, vr u3, vi (0 : Int32), vi (0 : Int32)] [xi (1 : Int32)]) _
    refine XS.goto X6.here hx rfl (pc0 := 67) (pc' := 71) rfl (hb hby at_67) (by decide) (by decide) ?_
    show own_S p e below T6 (mkF m 71 #[vi p1, vi p2, vi p3, vi p4, vr u2, vi p3, vr u3, vi (0 : Int32), vi (0 : Int32)] [xi (1 : Int32)]) _
    exact retN X6 hx (t := .boolean) Bd.returns (by simp) (hb hby at_71) hr
  · exact ⟨rfl, N6⟩
theorem ef_own_l18 (m : MethodId) (u0 u1 u2 u3 u4 u5 : Addr) (p1 : Int32) (p2 : Int32) (p3 : Int32) (p4 : Int32) : entryFrame m #[xi p1, xi p2, xi p3, xi p4] maxLocals = (mkF m 0 #[vi p1, vi p2, vi p3, vi p4, vu, vu, vu, vu, vu] []) := by first | (simp [entryFrame, mkF, argsToLocals, Value.category, maxLocals]; done) | rfl
set_option maxRecDepth 65536 in
set_option maxHeartbeats 40000000 in
theorem own_l18 (l : Launch) (Z : State) (a0 : Array Value) (hw : ∀ d ∈ tables_1, d.before a0 Z = true) (u0 u1 u2 u3 u4 u5 : Addr) (G : own_St Z u0 u1 u2 u3 u4 u5) (p1 : Int32) (p2 : Int32) (p3 : Int32) (p4 : Int32) (as12 : ((p1 &&& (2147483647 : Int32)) - ((p1 &&& (2147483647 : Int32)) / (6 : Int32)) * (6 : Int32)) = (4 : Int32)) (as14 : (p4 &&& (1 : Int32)) = (0 : Int32)) (as3 : if_icmp.holds .ge p2 p3 = true) (as6 : if_icmp.holds .ne p2 p3 = true) (as7 : if_icmp.holds .ge p3 p2 = false) (h0 : Heap) (n0 : Nat) (O0 : Old Z n0 h0) : own_Met l Z x code maxLocals ret room_1 #[xi p1, xi p2, xi p3, xi p4] h0 (own_QL (some (xi (1 : Int32))) n0) := by
  intro ws
  refine MetFree.of_bodySF (plainFor_of_name pn0) hisR ?_
  intro p e s m args below meth c s₁ Bd hml0 hP hK
  obtain ⟨rfl, hZ, hh⟩ := hP
  have hx := Bd.exec
  have hby := Bd.bytes
  have hml : c.maxLocals = 9 := hml0
  have hown : s.vm.findClass "com/example/whyle/whyle/cfa/RelationConversePinLaw" = some m.cls := findClass_of_methodNamed Bd.named
  have hnm := (name_of_methodNamed Bd.named Bd.method).1
  have X0 : Stand p l e room_1 s m #[xi p1, xi p2, xi p3, xi p4] below meth c s₁ [] 0 0 := Stand.of_body Bd
  have e0 : s₁.heap = h0 := by rw [← hh, Bd.state]; rfl
  have N0 := Fr.nil n0
  have pre0 : ∀ t, Steps p.tables e below (s₁.setTop (mkF m 0 #[vi p1, vi p2, vi p3, vi p4, vu, vu, vu, vu, vu] [])) t → Steps p.tables e below (s₁.setTop (entryFrame m #[xi p1, xi p2, xi p3, xi p4] maxLocals)) t := fun t st => castTop (ef_own_l18 m u0 u1 u2 u3 u4 u5 p1 p2 p3 p4) st
  obtain ⟨_, _, ⟨T1, L1, k1, n1⟩, -, X1, ⟨Lc1, hQ1, l1, y1, z1⟩, st1⟩ := Jvm.LawKit.callS X0 hx (y := Y0) hown (mvT hZ (ww hw 0 rfl)) (mvT hZ (ww hw 1 rfl)) (mvT hZ (ww hw 2 rfl)) (mvT hZ (ww hw 3 rfl)) (by decide) (backOf (W := 0) (own_c39_pick l Z a0 hw u0 u1 u2 u3 u4 u5 G p1 as12 h0 n0 O0 []) hZ (ww hw 3 rfl) (ww hw 2 rfl) (by decide) (by decide)) (g := (mkF m 1 #[vi p1, vi p2, vi p3, vi p4, vu, vu, vu, vu, vu] [xi p1])) rfl (by rw [hml]; rfl) (argsL := [xi p1]) (rest := []) (lenOf pd0 rfl) rfl (by show 2 * 0 + _ ≤ _; exact Nat.le_of_eq rfl) (hb hby at_1) (fun _ _ => ⟨rfl, e0, (by decide : 0 + 0 ≤ _), (by decide : 0 + 0 ≤ _)⟩)
  dsimp only [Pt.U, Pt.locs, Pt.cells, Pt.slots] at X1 l1 y1 z1 st1 hQ1
  subst l1 y1 z1
  obtain ⟨rfl, Nq1, e1⟩ := hQ1
  have N1 := Fr.app N0 Nq1
  obtain ⟨cq2, kq2, qa2, qb2, qc2⟩ := isOf hZ e1 ((own_X_u2 G).ext O0.2)
  obtain ⟨_, _, ⟨T2, L2, k2, n2⟩, -, X2, ⟨Lc2, hQ2, l2, y2, z2⟩, st2⟩ := X1.virtualBack hx (y := Y3) (z := Y3) hown (mvT hZ (ww hw 8 rfl)) (mvT hZ (ww hw 9 rfl)) (notFace_of_selects (args := #[]) (mvT hZ (ww hw 11 rfl))) (mvT hZ (ww hw 11 rfl)) (mvT hZ (ww hw 10 rfl)) (by decide) (backOf (W := 0) (own_c40_converse l Z a0 hw u0 u1 u2 u3 u4 u5 G h0 n0 O0 []) hZ (ww hw 12 rfl) (ww hw 6 rfl) (by decide) (by decide)) qa2 qc2 (g := (mkF m 21 #[vi p1, vi p2, vi p3, vi p4, vr u2, vi p3, vu, vu, vu] [xr u2])) rfl (by rw [hml]; rfl) (Steps.refl _) (argsL := []) (rest := []) (lenOf pd2 rfl) rfl (by show 2 * 0 + _ ≤ _; exact Nat.le_of_eq rfl) (hb hby at_21) (fun _ _ => ⟨rfl, e1, (by decide : 0 + 0 ≤ _), (by decide : 0 + 0 ≤ _)⟩)
  dsimp only [Pt.U, Pt.locs, Pt.cells, Pt.slots] at X2 l2 y2 z2 st2 hQ2
  subst l2 y2 z2
  obtain ⟨rfl, Nq2, e2⟩ := hQ2
  have N2 := Fr.app N1 Nq2
  obtain ⟨_, _, ⟨T3, L3, k3, n3⟩, -, X3, ⟨Lc3, hQ3, l3, y3, z3⟩, st3⟩ := Jvm.LawKit.callS X2 hx (y := Y4) hown (mvT hZ (ww hw 23 rfl)) (mvT hZ (ww hw 24 rfl)) (mvT hZ (ww hw 2 rfl)) (mvT hZ (ww hw 25 rfl)) (by decide) (backOf (W := 1) (own_c10_sign l Z a0 hw u0 u1 u2 u3 u4 u5 G p2 p3 as3 as6 h0 n0 O0 []) hZ (ww hw 25 rfl) (ww hw 2 rfl) (by decide) (by decide)) (g := (mkF m 38 #[vi p1, vi p2, vi p3, vi p4, vr u2, vi p3, vr u3, vu, vu] [xi p3, xi p2, xr u2])) rfl (by rw [hml]; rfl) (argsL := [xi p2, xi p3]) (rest := [xr u2]) (lenOf pd3 rfl) rfl (by show 2 * 0 + _ ≤ _; exact Nat.le_of_eq rfl) (hb hby at_38) (fun _ _ => ⟨rfl, e2, (by decide : 0 + 0 ≤ _), (by decide : 0 + 0 ≤ _)⟩)
  dsimp only [Pt.U, Pt.locs, Pt.cells, Pt.slots] at X3 l3 y3 z3 st3 hQ3
  subst l3 y3 z3
  obtain ⟨rfl, Nq3, e3⟩ := hQ3
  have N3 := Fr.app N2 Nq3
  obtain ⟨cq4, kq4, qa4, qb4, qc4⟩ := isOf hZ e3 ((own_X_u2 G).ext O0.2)
  obtain ⟨_, _, ⟨T4, L4, k4, n4⟩, -, X4, ⟨Lc4, hQ4, l4, y4, z4⟩, st4⟩ := X3.virtualBack hx (y := Y5) (z := Y5) hown (mvT hZ (ww hw 26 rfl)) (mvT hZ (ww hw 27 rfl)) (notFace_of_selects (args := #[]) (mvT hZ (ww hw 29 rfl))) (mvT hZ (ww hw 29 rfl)) (mvT hZ (ww hw 28 rfl)) (by decide) (backOf (W := 0) (own_c23_holds l Z a0 hw u0 u1 u2 u3 u4 u5 G h0 n0 O0 []) hZ (ww hw 30 rfl) (ww hw 6 rfl) (by decide) (by decide)) qa4 qc4 (g := (mkF m 41 #[vi p1, vi p2, vi p3, vi p4, vr u2, vi p3, vr u3, vu, vu] [xi (1 : Int32), xr u2])) rfl (by rw [hml]; rfl) (Steps.refl _) (argsL := [xi (1 : Int32)]) (rest := []) (lenOf pd4 rfl) rfl (by show 2 * 0 + _ ≤ _; exact Nat.le_of_eq rfl) (hb hby at_41) (fun _ _ => ⟨rfl, e3, (by decide : 0 + 0 ≤ _), (by decide : 0 + 0 ≤ _)⟩)
  dsimp only [Pt.U, Pt.locs, Pt.cells, Pt.slots] at X4 l4 y4 z4 st4 hQ4
  subst l4 y4 z4
  obtain ⟨rfl, Nq4, e4⟩ := hQ4
  have N4 := Fr.app N3 Nq4
  obtain ⟨_, _, ⟨T5, L5, k5, n5⟩, -, X5, ⟨Lc5, hQ5, l5, y5, z5⟩, st5⟩ := Jvm.LawKit.callS X4 hx (y := Y4) hown (mvT hZ (ww hw 23 rfl)) (mvT hZ (ww hw 24 rfl)) (mvT hZ (ww hw 2 rfl)) (mvT hZ (ww hw 25 rfl)) (by decide) (backOf (W := 1) (own_c11_sign l Z a0 hw u0 u1 u2 u3 u4 u5 G p2 p3 as7 h0 n0 O0 []) hZ (ww hw 25 rfl) (ww hw 2 rfl) (by decide) (by decide)) (g := (mkF m 51 #[vi p1, vi p2, vi p3, vi p4, vr u2, vi p3, vr u3, vi (1 : Int32), vu] [xi p2, xi p3, xr u3])) rfl (by rw [hml]; rfl) (argsL := [xi p3, xi p2]) (rest := [xr u3]) (lenOf pd3 rfl) rfl (by show 2 * 0 + _ ≤ _; exact Nat.le_of_eq rfl) (hb hby at_51) (fun _ _ => ⟨rfl, e4, (by decide : 0 + 0 ≤ _), (by decide : 0 + 0 ≤ _)⟩)
  dsimp only [Pt.U, Pt.locs, Pt.cells, Pt.slots] at X5 l5 y5 z5 st5 hQ5
  subst l5 y5 z5
  obtain ⟨rfl, Nq5, e5⟩ := hQ5
  have N5 := Fr.app N4 Nq5
  obtain ⟨cq6, kq6, qa6, qb6, qc6⟩ := isOf hZ e5 ((own_X_u3 G).ext O0.2)
  obtain ⟨_, _, ⟨T6, L6, k6, n6⟩, -, X6, ⟨Lc6, hQ6, l6, y6, z6⟩, st6⟩ := X5.virtualBack hx (y := Y5) (z := Y5) hown (mvT hZ (ww hw 26 rfl)) (mvT hZ (ww hw 27 rfl)) (notFace_of_selects (args := #[]) (mvT hZ (ww hw 29 rfl))) (mvT hZ (ww hw 29 rfl)) (mvT hZ (ww hw 28 rfl)) (by decide) (backOf (W := 0) (own_c22_holds l Z a0 hw u0 u1 u2 u3 u4 u5 G h0 n0 O0 []) hZ (ww hw 30 rfl) (ww hw 6 rfl) (by decide) (by decide)) qa6 qc6 (g := (mkF m 54 #[vi p1, vi p2, vi p3, vi p4, vr u2, vi p3, vr u3, vi (1 : Int32), vu] [xi (-1 : Int32), xr u3])) rfl (by rw [hml]; rfl) (Steps.refl _) (argsL := [xi (-1 : Int32)]) (rest := []) (lenOf pd4 rfl) rfl (by show 2 * 0 + _ ≤ _; exact Nat.le_of_eq rfl) (hb hby at_54) (fun _ _ => ⟨rfl, e5, (by decide : 0 + 0 ≤ _), (by decide : 0 + 0 ≤ _)⟩)
  dsimp only [Pt.U, Pt.locs, Pt.cells, Pt.slots] at X6 l6 y6 z6 st6 hQ6
  subst l6 y6 z6
  obtain ⟨rfl, Nq6, e6⟩ := hQ6
  have N6 := Fr.app N5 Nq6
  obtain ⟨fs, hr, hrun, hended, hW, hsame⟩ := X6.leave (v := some (xi (1 : Int32))) (fun h => by rw [Bd.returns] at h; cases h)
  refine ⟨_, _, pre0 _ ?_, hrun, hended, _, _, rfl, ?_, ⟨_, rfl⟩, hW, hsame.mono (by decide) (by decide)⟩
  · show own_S p e below s₁ (mkF m 0 #[vi p1, vi p2, vi p3, vi p4, vu, vu, vu, vu, vu] []) _
    refine XS.iloadN X0.here hx rfl (hb hby at_0) rfl ?_
    show own_S p e below s₁ (mkF m 1 #[vi p1, vi p2, vi p3, vi p4, vu, vu, vu, vu, vu] [xi p1]) _
    refine st1 _ ?_
    show own_S p e below T1 (mkF m 4 #[vi p1, vi p2, vi p3, vi p4, vu, vu, vu, vu, vu] [xr u2]) _
    refine XS.astore X1.here hx rfl (hb hby at_4) rfl rfl (l' := #[vi p1, vi p2, vi p3, vi p4, vr u2, vu, vu, vu, vu]) rfl ?_
    show own_S p e below T1 (mkF m 6 #[vi p1, vi p2, vi p3, vi p4, vr u2, vu, vu, vu, vu] []) _
    refine XS.iloadN X1.here hx rfl (hb hby at_6) rfl ?_
    show own_S p e below T1 (mkF m 7 #[vi p1, vi p2, vi p3, vi p4, vr u2, vu, vu, vu, vu] [xi p4]) _
    refine XS.iconst X1.here hx rfl (hb hby at_7) ?_
    show own_S p e below T1 (mkF m 8 #[vi p1, vi p2, vi p3, vi p4, vr u2, vu, vu, vu, vu] [xi (1 : Int32), xi p4]) _
    refine XS.iand X1.here hx rfl (hb hby at_8) rfl ?_
    show own_S p e below T1 (mkF m 9 #[vi p1, vi p2, vi p3, vi p4, vr u2, vu, vu, vu, vu] [xi (p4 &&& (1 : Int32))]) _
    refine castTop (show (mkF m 9 #[vi p1, vi p2, vi p3, vi p4, vr u2, vu, vu, vu, vu] [xi (p4 &&& (1 : Int32))]) = (mkF m 9 #[vi p1, vi p2, vi p3, vi p4, vr u2, vu, vu, vu, vu] [xi (0 : Int32)]) from by rw [as14]) ?_
    show own_S p e below T1 (mkF m 9 #[vi p1, vi p2, vi p3, vi p4, vr u2, vu, vu, vu, vu] [xi (0 : Int32)]) _
    refine XS.ifYes X1.here hx rfl (pc0 := 9) (pc' := 16) rfl (hb hby at_9) rfl (by decide) (by decide) (by decide) ?_
    show own_S p e below T1 (mkF m 16 #[vi p1, vi p2, vi p3, vi p4, vr u2, vu, vu, vu, vu] []) _
    refine XS.iloadN X1.here hx rfl (hb hby at_16) rfl ?_
    show own_S p e below T1 (mkF m 17 #[vi p1, vi p2, vi p3, vi p4, vr u2, vu, vu, vu, vu] [xi p3]) _
    refine XS.istore X1.here hx rfl (hb hby at_17) rfl (l' := #[vi p1, vi p2, vi p3, vi p4, vr u2, vi p3, vu, vu, vu]) rfl ?_
    show own_S p e below T1 (mkF m 19 #[vi p1, vi p2, vi p3, vi p4, vr u2, vi p3, vu, vu, vu] []) _
    refine XS.aload X1.here hx rfl (hb hby at_19) rfl rfl ?_
    show own_S p e below T1 (mkF m 21 #[vi p1, vi p2, vi p3, vi p4, vr u2, vi p3, vu, vu, vu] [xr u2]) _
    refine st2.trans ?_
    show own_S p e below T2 (mkF m 24 #[vi p1, vi p2, vi p3, vi p4, vr u2, vi p3, vu, vu, vu] [xr u3]) _
    refine XS.astore X2.here hx rfl (hb hby at_24) rfl rfl (l' := #[vi p1, vi p2, vi p3, vi p4, vr u2, vi p3, vr u3, vu, vu]) rfl ?_
    show own_S p e below T2 (mkF m 26 #[vi p1, vi p2, vi p3, vi p4, vr u2, vi p3, vr u3, vu, vu] []) _
    refine XS.aload X2.here hx rfl (hb hby at_26) rfl rfl ?_
    show own_S p e below T2 (mkF m 28 #[vi p1, vi p2, vi p3, vi p4, vr u2, vi p3, vr u3, vu, vu] [xr u3]) _
    refine Jvm.Free.XT.nonnullYes X2.here hx rfl (pc0 := 28) (pc' := 33) rfl (hb hby at_28) rfl rfl (by simp) (by decide) (by decide) ?_
    show own_S p e below T2 (mkF m 33 #[vi p1, vi p2, vi p3, vi p4, vr u2, vi p3, vr u3, vu, vu] []) _
    refine XS.aload X2.here hx rfl (hb hby at_33) rfl rfl ?_
    show own_S p e below T2 (mkF m 35 #[vi p1, vi p2, vi p3, vi p4, vr u2, vi p3, vr u3, vu, vu] [xr u2]) _
    refine XS.iloadN X2.here hx rfl (hb hby at_35) rfl ?_
    show own_S p e below T2 (mkF m 36 #[vi p1, vi p2, vi p3, vi p4, vr u2, vi p3, vr u3, vu, vu] [xi p2, xr u2]) _
    refine XS.iload X2.here hx rfl (hb hby at_36) rfl ?_
    show own_S p e below T2 (mkF m 38 #[vi p1, vi p2, vi p3, vi p4, vr u2, vi p3, vr u3, vu, vu] [xi p3, xi p2, xr u2]) _
    refine st3 _ ?_
    show own_S p e below T3 (mkF m 41 #[vi p1, vi p2, vi p3, vi p4, vr u2, vi p3, vr u3, vu, vu] [xi (1 : Int32), xr u2]) _
    refine st4.trans ?_
    show own_S p e below T4 (mkF m 44 #[vi p1, vi p2, vi p3, vi p4, vr u2, vi p3, vr u3, vu, vu] [xi (1 : Int32)]) _
    refine XS.istore X4.here hx rfl (hb hby at_44) rfl (l' := #[vi p1, vi p2, vi p3, vi p4, vr u2, vi p3, vr u3, vi (1 : Int32), vu]) rfl ?_
    show own_S p e below T4 (mkF m 46 #[vi p1, vi p2, vi p3, vi p4, vr u2, vi p3, vr u3, vi (1 : Int32), vu] []) _
    refine XS.aload X4.here hx rfl (hb hby at_46) rfl rfl ?_
    show own_S p e below T4 (mkF m 48 #[vi p1, vi p2, vi p3, vi p4, vr u2, vi p3, vr u3, vi (1 : Int32), vu] [xr u3]) _
    refine XS.iload X4.here hx rfl (hb hby at_48) rfl ?_
    show own_S p e below T4 (mkF m 50 #[vi p1, vi p2, vi p3, vi p4, vr u2, vi p3, vr u3, vi (1 : Int32), vu] [xi p3, xr u3]) _
    refine XS.iloadN X4.here hx rfl (hb hby at_50) rfl ?_
    show own_S p e below T4 (mkF m 51 #[vi p1, vi p2, vi p3, vi p4, vr u2, vi p3, vr u3, vi (1 : Int32), vu] [xi p2, xi p3, xr u3]) _
    refine st5 _ ?_
    show own_S p e below T5 (mkF m 54 #[vi p1, vi p2, vi p3, vi p4, vr u2, vi p3, vr u3, vi (1 : Int32), vu] [xi (-1 : Int32), xr u3]) _
    refine st6.trans ?_
    show own_S p e below T6 (mkF m 57 #[vi p1, vi p2, vi p3, vi p4, vr u2, vi p3, vr u3, vi (1 : Int32), vu] [xi (1 : Int32)]) _
    refine XS.istore X6.here hx rfl (hb hby at_57) rfl (l' := #[vi p1, vi p2, vi p3, vi p4, vr u2, vi p3, vr u3, vi (1 : Int32), vi (1 : Int32)]) rfl ?_
    show own_S p e below T6 (mkF m 59 #[vi p1, vi p2, vi p3, vi p4, vr u2, vi p3, vr u3, vi (1 : Int32), vi (1 : Int32)] []) _
    refine XS.iload X6.here hx rfl (hb hby at_59) rfl ?_
    show own_S p e below T6 (mkF m 61 #[vi p1, vi p2, vi p3, vi p4, vr u2, vi p3, vr u3, vi (1 : Int32), vi (1 : Int32)] [xi (1 : Int32)]) _
    refine XS.iload X6.here hx rfl (hb hby at_61) rfl ?_
    show own_S p e below T6 (mkF m 63 #[vi p1, vi p2, vi p3, vi p4, vr u2, vi p3, vr u3, vi (1 : Int32), vi (1 : Int32)] [xi (1 : Int32), xi (1 : Int32)]) _
    refine XS.icmpNo X6.here hx rfl (hb hby at_63) rfl (by decide) ?_
    show own_S p e below T6 (mkF m 66 #[vi p1, vi p2, vi p3, vi p4, vr u2, vi p3, vr u3, vi (1 : Int32), vi (1 : Int32)] []) _
    refine XS.iconst X6.here hx rfl (hb hby at_66) ?_
    show own_S p e below T6 (mkF m 67 #[vi p1, vi p2, vi p3, vi p4, vr u2, vi p3, vr u3, vi (1 : Int32), vi (1 : Int32)] [xi (1 : Int32)]) _
    refine XS.goto X6.here hx rfl (pc0 := 67) (pc' := 71) rfl (hb hby at_67) (by decide) (by decide) ?_
    show own_S p e below T6 (mkF m 71 #[vi p1, vi p2, vi p3, vi p4, vr u2, vi p3, vr u3, vi (1 : Int32), vi (1 : Int32)] [xi (1 : Int32)]) _
    exact retN X6 hx (t := .boolean) Bd.returns (by simp) (hb hby at_71) hr
  · exact ⟨rfl, N6⟩
theorem ef_own_l19 (m : MethodId) (u0 u1 u2 u3 u4 u5 : Addr) (p1 : Int32) (p2 : Int32) (p3 : Int32) (p4 : Int32) : entryFrame m #[xi p1, xi p2, xi p3, xi p4] maxLocals = (mkF m 0 #[vi p1, vi p2, vi p3, vi p4, vu, vu, vu, vu, vu] []) := by first | (simp [entryFrame, mkF, argsToLocals, Value.category, maxLocals]; done) | rfl
set_option maxRecDepth 65536 in
set_option maxHeartbeats 40000000 in
theorem own_l19 (l : Launch) (Z : State) (a0 : Array Value) (hw : ∀ d ∈ tables_1, d.before a0 Z = true) (u0 u1 u2 u3 u4 u5 : Addr) (G : own_St Z u0 u1 u2 u3 u4 u5) (p1 : Int32) (p2 : Int32) (p3 : Int32) (p4 : Int32) (as12 : ((p1 &&& (2147483647 : Int32)) - ((p1 &&& (2147483647 : Int32)) / (6 : Int32)) * (6 : Int32)) = (4 : Int32)) (as15 : (p4 &&& (1 : Int32)) = (1 : Int32)) (h0 : Heap) (n0 : Nat) (O0 : Old Z n0 h0) : own_Met l Z x code maxLocals ret room_1 #[xi p1, xi p2, xi p3, xi p4] h0 (own_QL (some (xi (1 : Int32))) n0) := by
  intro ws
  refine MetFree.of_bodySF (plainFor_of_name pn0) hisR ?_
  intro p e s m args below meth c s₁ Bd hml0 hP hK
  obtain ⟨rfl, hZ, hh⟩ := hP
  have hx := Bd.exec
  have hby := Bd.bytes
  have hml : c.maxLocals = 9 := hml0
  have hown : s.vm.findClass "com/example/whyle/whyle/cfa/RelationConversePinLaw" = some m.cls := findClass_of_methodNamed Bd.named
  have hnm := (name_of_methodNamed Bd.named Bd.method).1
  have X0 : Stand p l e room_1 s m #[xi p1, xi p2, xi p3, xi p4] below meth c s₁ [] 0 0 := Stand.of_body Bd
  have e0 : s₁.heap = h0 := by rw [← hh, Bd.state]; rfl
  have N0 := Fr.nil n0
  have pre0 : ∀ t, Steps p.tables e below (s₁.setTop (mkF m 0 #[vi p1, vi p2, vi p3, vi p4, vu, vu, vu, vu, vu] [])) t → Steps p.tables e below (s₁.setTop (entryFrame m #[xi p1, xi p2, xi p3, xi p4] maxLocals)) t := fun t st => castTop (ef_own_l19 m u0 u1 u2 u3 u4 u5 p1 p2 p3 p4) st
  obtain ⟨_, _, ⟨T1, L1, k1, n1⟩, -, X1, ⟨Lc1, hQ1, l1, y1, z1⟩, st1⟩ := Jvm.LawKit.callS X0 hx (y := Y0) hown (mvT hZ (ww hw 0 rfl)) (mvT hZ (ww hw 1 rfl)) (mvT hZ (ww hw 2 rfl)) (mvT hZ (ww hw 3 rfl)) (by decide) (backOf (W := 0) (own_c39_pick l Z a0 hw u0 u1 u2 u3 u4 u5 G p1 as12 h0 n0 O0 []) hZ (ww hw 3 rfl) (ww hw 2 rfl) (by decide) (by decide)) (g := (mkF m 1 #[vi p1, vi p2, vi p3, vi p4, vu, vu, vu, vu, vu] [xi p1])) rfl (by rw [hml]; rfl) (argsL := [xi p1]) (rest := []) (lenOf pd0 rfl) rfl (by show 2 * 0 + _ ≤ _; exact Nat.le_of_eq rfl) (hb hby at_1) (fun _ _ => ⟨rfl, e0, (by decide : 0 + 0 ≤ _), (by decide : 0 + 0 ≤ _)⟩)
  dsimp only [Pt.U, Pt.locs, Pt.cells, Pt.slots] at X1 l1 y1 z1 st1 hQ1
  subst l1 y1 z1
  obtain ⟨rfl, Nq1, e1⟩ := hQ1
  have N1 := Fr.app N0 Nq1
  obtain ⟨cq2, kq2, qa2, qb2, qc2⟩ := isOf hZ e1 ((own_X_u2 G).ext O0.2)
  obtain ⟨_, _, ⟨T2, L2, k2, n2⟩, -, X2, ⟨Lc2, hQ2, l2, y2, z2⟩, st2⟩ := X1.virtualBack hx (y := Y3) (z := Y3) hown (mvT hZ (ww hw 8 rfl)) (mvT hZ (ww hw 9 rfl)) (notFace_of_selects (args := #[]) (mvT hZ (ww hw 11 rfl))) (mvT hZ (ww hw 11 rfl)) (mvT hZ (ww hw 10 rfl)) (by decide) (backOf (W := 0) (own_c40_converse l Z a0 hw u0 u1 u2 u3 u4 u5 G h0 n0 O0 []) hZ (ww hw 12 rfl) (ww hw 6 rfl) (by decide) (by decide)) qa2 qc2 (g := (mkF m 21 #[vi p1, vi p2, vi p3, vi p4, vr u2, vi p2, vu, vu, vu] [xr u2])) rfl (by rw [hml]; rfl) (Steps.refl _) (argsL := []) (rest := []) (lenOf pd2 rfl) rfl (by show 2 * 0 + _ ≤ _; exact Nat.le_of_eq rfl) (hb hby at_21) (fun _ _ => ⟨rfl, e1, (by decide : 0 + 0 ≤ _), (by decide : 0 + 0 ≤ _)⟩)
  dsimp only [Pt.U, Pt.locs, Pt.cells, Pt.slots] at X2 l2 y2 z2 st2 hQ2
  subst l2 y2 z2
  obtain ⟨rfl, Nq2, e2⟩ := hQ2
  have N2 := Fr.app N1 Nq2
  obtain ⟨_, _, ⟨T3, L3, k3, n3⟩, -, X3, ⟨Lc3, hQ3, l3, y3, z3⟩, st3⟩ := Jvm.LawKit.callS X2 hx (y := Y4) hown (mvT hZ (ww hw 23 rfl)) (mvT hZ (ww hw 24 rfl)) (mvT hZ (ww hw 2 rfl)) (mvT hZ (ww hw 25 rfl)) (by decide) (backOf (W := 1) (own_c12_sign l Z a0 hw u0 u1 u2 u3 u4 u5 G p2 h0 n0 O0 []) hZ (ww hw 25 rfl) (ww hw 2 rfl) (by decide) (by decide)) (g := (mkF m 38 #[vi p1, vi p2, vi p3, vi p4, vr u2, vi p2, vr u3, vu, vu] [xi p2, xi p2, xr u2])) rfl (by rw [hml]; rfl) (argsL := [xi p2, xi p2]) (rest := [xr u2]) (lenOf pd3 rfl) rfl (by show 2 * 0 + _ ≤ _; exact Nat.le_of_eq rfl) (hb hby at_38) (fun _ _ => ⟨rfl, e2, (by decide : 0 + 0 ≤ _), (by decide : 0 + 0 ≤ _)⟩)
  dsimp only [Pt.U, Pt.locs, Pt.cells, Pt.slots] at X3 l3 y3 z3 st3 hQ3
  subst l3 y3 z3
  obtain ⟨rfl, Nq3, e3⟩ := hQ3
  have N3 := Fr.app N2 Nq3
  obtain ⟨cq4, kq4, qa4, qb4, qc4⟩ := isOf hZ e3 ((own_X_u2 G).ext O0.2)
  obtain ⟨_, _, ⟨T4, L4, k4, n4⟩, -, X4, ⟨Lc4, hQ4, l4, y4, z4⟩, st4⟩ := X3.virtualBack hx (y := Y5) (z := Y5) hown (mvT hZ (ww hw 26 rfl)) (mvT hZ (ww hw 27 rfl)) (notFace_of_selects (args := #[]) (mvT hZ (ww hw 29 rfl))) (mvT hZ (ww hw 29 rfl)) (mvT hZ (ww hw 28 rfl)) (by decide) (backOf (W := 0) (own_c26_holds l Z a0 hw u0 u1 u2 u3 u4 u5 G h0 n0 O0 []) hZ (ww hw 30 rfl) (ww hw 6 rfl) (by decide) (by decide)) qa4 qc4 (g := (mkF m 41 #[vi p1, vi p2, vi p3, vi p4, vr u2, vi p2, vr u3, vu, vu] [xi (0 : Int32), xr u2])) rfl (by rw [hml]; rfl) (Steps.refl _) (argsL := [xi (0 : Int32)]) (rest := []) (lenOf pd4 rfl) rfl (by show 2 * 0 + _ ≤ _; exact Nat.le_of_eq rfl) (hb hby at_41) (fun _ _ => ⟨rfl, e3, (by decide : 0 + 0 ≤ _), (by decide : 0 + 0 ≤ _)⟩)
  dsimp only [Pt.U, Pt.locs, Pt.cells, Pt.slots] at X4 l4 y4 z4 st4 hQ4
  subst l4 y4 z4
  obtain ⟨rfl, Nq4, e4⟩ := hQ4
  have N4 := Fr.app N3 Nq4
  obtain ⟨_, _, ⟨T5, L5, k5, n5⟩, -, X5, ⟨Lc5, hQ5, l5, y5, z5⟩, st5⟩ := Jvm.LawKit.callS X4 hx (y := Y4) hown (mvT hZ (ww hw 23 rfl)) (mvT hZ (ww hw 24 rfl)) (mvT hZ (ww hw 2 rfl)) (mvT hZ (ww hw 25 rfl)) (by decide) (backOf (W := 1) (own_c12_sign l Z a0 hw u0 u1 u2 u3 u4 u5 G p2 h0 n0 O0 []) hZ (ww hw 25 rfl) (ww hw 2 rfl) (by decide) (by decide)) (g := (mkF m 51 #[vi p1, vi p2, vi p3, vi p4, vr u2, vi p2, vr u3, vi (0 : Int32), vu] [xi p2, xi p2, xr u3])) rfl (by rw [hml]; rfl) (argsL := [xi p2, xi p2]) (rest := [xr u3]) (lenOf pd3 rfl) rfl (by show 2 * 0 + _ ≤ _; exact Nat.le_of_eq rfl) (hb hby at_51) (fun _ _ => ⟨rfl, e4, (by decide : 0 + 0 ≤ _), (by decide : 0 + 0 ≤ _)⟩)
  dsimp only [Pt.U, Pt.locs, Pt.cells, Pt.slots] at X5 l5 y5 z5 st5 hQ5
  subst l5 y5 z5
  obtain ⟨rfl, Nq5, e5⟩ := hQ5
  have N5 := Fr.app N4 Nq5
  obtain ⟨cq6, kq6, qa6, qb6, qc6⟩ := isOf hZ e5 ((own_X_u3 G).ext O0.2)
  obtain ⟨_, _, ⟨T6, L6, k6, n6⟩, -, X6, ⟨Lc6, hQ6, l6, y6, z6⟩, st6⟩ := X5.virtualBack hx (y := Y5) (z := Y5) hown (mvT hZ (ww hw 26 rfl)) (mvT hZ (ww hw 27 rfl)) (notFace_of_selects (args := #[]) (mvT hZ (ww hw 29 rfl))) (mvT hZ (ww hw 29 rfl)) (mvT hZ (ww hw 28 rfl)) (by decide) (backOf (W := 0) (own_c25_holds l Z a0 hw u0 u1 u2 u3 u4 u5 G h0 n0 O0 []) hZ (ww hw 30 rfl) (ww hw 6 rfl) (by decide) (by decide)) qa6 qc6 (g := (mkF m 54 #[vi p1, vi p2, vi p3, vi p4, vr u2, vi p2, vr u3, vi (0 : Int32), vu] [xi (0 : Int32), xr u3])) rfl (by rw [hml]; rfl) (Steps.refl _) (argsL := [xi (0 : Int32)]) (rest := []) (lenOf pd4 rfl) rfl (by show 2 * 0 + _ ≤ _; exact Nat.le_of_eq rfl) (hb hby at_54) (fun _ _ => ⟨rfl, e5, (by decide : 0 + 0 ≤ _), (by decide : 0 + 0 ≤ _)⟩)
  dsimp only [Pt.U, Pt.locs, Pt.cells, Pt.slots] at X6 l6 y6 z6 st6 hQ6
  subst l6 y6 z6
  obtain ⟨rfl, Nq6, e6⟩ := hQ6
  have N6 := Fr.app N5 Nq6
  obtain ⟨fs, hr, hrun, hended, hW, hsame⟩ := X6.leave (v := some (xi (1 : Int32))) (fun h => by rw [Bd.returns] at h; cases h)
  refine ⟨_, _, pre0 _ ?_, hrun, hended, _, _, rfl, ?_, ⟨_, rfl⟩, hW, hsame.mono (by decide) (by decide)⟩
  · show own_S p e below s₁ (mkF m 0 #[vi p1, vi p2, vi p3, vi p4, vu, vu, vu, vu, vu] []) _
    refine XS.iloadN X0.here hx rfl (hb hby at_0) rfl ?_
    show own_S p e below s₁ (mkF m 1 #[vi p1, vi p2, vi p3, vi p4, vu, vu, vu, vu, vu] [xi p1]) _
    refine st1 _ ?_
    show own_S p e below T1 (mkF m 4 #[vi p1, vi p2, vi p3, vi p4, vu, vu, vu, vu, vu] [xr u2]) _
    refine XS.astore X1.here hx rfl (hb hby at_4) rfl rfl (l' := #[vi p1, vi p2, vi p3, vi p4, vr u2, vu, vu, vu, vu]) rfl ?_
    show own_S p e below T1 (mkF m 6 #[vi p1, vi p2, vi p3, vi p4, vr u2, vu, vu, vu, vu] []) _
    refine XS.iloadN X1.here hx rfl (hb hby at_6) rfl ?_
    show own_S p e below T1 (mkF m 7 #[vi p1, vi p2, vi p3, vi p4, vr u2, vu, vu, vu, vu] [xi p4]) _
    refine XS.iconst X1.here hx rfl (hb hby at_7) ?_
    show own_S p e below T1 (mkF m 8 #[vi p1, vi p2, vi p3, vi p4, vr u2, vu, vu, vu, vu] [xi (1 : Int32), xi p4]) _
    refine XS.iand X1.here hx rfl (hb hby at_8) rfl ?_
    show own_S p e below T1 (mkF m 9 #[vi p1, vi p2, vi p3, vi p4, vr u2, vu, vu, vu, vu] [xi (p4 &&& (1 : Int32))]) _
    refine castTop (show (mkF m 9 #[vi p1, vi p2, vi p3, vi p4, vr u2, vu, vu, vu, vu] [xi (p4 &&& (1 : Int32))]) = (mkF m 9 #[vi p1, vi p2, vi p3, vi p4, vr u2, vu, vu, vu, vu] [xi (1 : Int32)]) from by rw [as15]) ?_
    show own_S p e below T1 (mkF m 9 #[vi p1, vi p2, vi p3, vi p4, vr u2, vu, vu, vu, vu] [xi (1 : Int32)]) _
    refine XS.ifNo X1.here hx rfl (hb hby at_9) rfl (by decide) ?_
    show own_S p e below T1 (mkF m 12 #[vi p1, vi p2, vi p3, vi p4, vr u2, vu, vu, vu, vu] []) _
    refine XS.iloadN X1.here hx rfl (hb hby at_12) rfl ?_
    show own_S p e below T1 (mkF m 13 #[vi p1, vi p2, vi p3, vi p4, vr u2, vu, vu, vu, vu] [xi p2]) _
    refine XS.goto X1.here hx rfl (pc0 := 13) (pc' := 17) rfl (hb hby at_13) (by decide) (by decide) ?_
    show own_S p e below T1 (mkF m 17 #[vi p1, vi p2, vi p3, vi p4, vr u2, vu, vu, vu, vu] [xi p2]) _
    refine XS.istore X1.here hx rfl (hb hby at_17) rfl (l' := #[vi p1, vi p2, vi p3, vi p4, vr u2, vi p2, vu, vu, vu]) rfl ?_
    show own_S p e below T1 (mkF m 19 #[vi p1, vi p2, vi p3, vi p4, vr u2, vi p2, vu, vu, vu] []) _
    refine XS.aload X1.here hx rfl (hb hby at_19) rfl rfl ?_
    show own_S p e below T1 (mkF m 21 #[vi p1, vi p2, vi p3, vi p4, vr u2, vi p2, vu, vu, vu] [xr u2]) _
    refine st2.trans ?_
    show own_S p e below T2 (mkF m 24 #[vi p1, vi p2, vi p3, vi p4, vr u2, vi p2, vu, vu, vu] [xr u3]) _
    refine XS.astore X2.here hx rfl (hb hby at_24) rfl rfl (l' := #[vi p1, vi p2, vi p3, vi p4, vr u2, vi p2, vr u3, vu, vu]) rfl ?_
    show own_S p e below T2 (mkF m 26 #[vi p1, vi p2, vi p3, vi p4, vr u2, vi p2, vr u3, vu, vu] []) _
    refine XS.aload X2.here hx rfl (hb hby at_26) rfl rfl ?_
    show own_S p e below T2 (mkF m 28 #[vi p1, vi p2, vi p3, vi p4, vr u2, vi p2, vr u3, vu, vu] [xr u3]) _
    refine Jvm.Free.XT.nonnullYes X2.here hx rfl (pc0 := 28) (pc' := 33) rfl (hb hby at_28) rfl rfl (by simp) (by decide) (by decide) ?_
    show own_S p e below T2 (mkF m 33 #[vi p1, vi p2, vi p3, vi p4, vr u2, vi p2, vr u3, vu, vu] []) _
    refine XS.aload X2.here hx rfl (hb hby at_33) rfl rfl ?_
    show own_S p e below T2 (mkF m 35 #[vi p1, vi p2, vi p3, vi p4, vr u2, vi p2, vr u3, vu, vu] [xr u2]) _
    refine XS.iloadN X2.here hx rfl (hb hby at_35) rfl ?_
    show own_S p e below T2 (mkF m 36 #[vi p1, vi p2, vi p3, vi p4, vr u2, vi p2, vr u3, vu, vu] [xi p2, xr u2]) _
    refine XS.iload X2.here hx rfl (hb hby at_36) rfl ?_
    show own_S p e below T2 (mkF m 38 #[vi p1, vi p2, vi p3, vi p4, vr u2, vi p2, vr u3, vu, vu] [xi p2, xi p2, xr u2]) _
    refine st3 _ ?_
    show own_S p e below T3 (mkF m 41 #[vi p1, vi p2, vi p3, vi p4, vr u2, vi p2, vr u3, vu, vu] [xi (0 : Int32), xr u2]) _
    refine st4.trans ?_
    show own_S p e below T4 (mkF m 44 #[vi p1, vi p2, vi p3, vi p4, vr u2, vi p2, vr u3, vu, vu] [xi (0 : Int32)]) _
    refine XS.istore X4.here hx rfl (hb hby at_44) rfl (l' := #[vi p1, vi p2, vi p3, vi p4, vr u2, vi p2, vr u3, vi (0 : Int32), vu]) rfl ?_
    show own_S p e below T4 (mkF m 46 #[vi p1, vi p2, vi p3, vi p4, vr u2, vi p2, vr u3, vi (0 : Int32), vu] []) _
    refine XS.aload X4.here hx rfl (hb hby at_46) rfl rfl ?_
    show own_S p e below T4 (mkF m 48 #[vi p1, vi p2, vi p3, vi p4, vr u2, vi p2, vr u3, vi (0 : Int32), vu] [xr u3]) _
    refine XS.iload X4.here hx rfl (hb hby at_48) rfl ?_
    show own_S p e below T4 (mkF m 50 #[vi p1, vi p2, vi p3, vi p4, vr u2, vi p2, vr u3, vi (0 : Int32), vu] [xi p2, xr u3]) _
    refine XS.iloadN X4.here hx rfl (hb hby at_50) rfl ?_
    show own_S p e below T4 (mkF m 51 #[vi p1, vi p2, vi p3, vi p4, vr u2, vi p2, vr u3, vi (0 : Int32), vu] [xi p2, xi p2, xr u3]) _
    refine st5 _ ?_
    show own_S p e below T5 (mkF m 54 #[vi p1, vi p2, vi p3, vi p4, vr u2, vi p2, vr u3, vi (0 : Int32), vu] [xi (0 : Int32), xr u3]) _
    refine st6.trans ?_
    show own_S p e below T6 (mkF m 57 #[vi p1, vi p2, vi p3, vi p4, vr u2, vi p2, vr u3, vi (0 : Int32), vu] [xi (0 : Int32)]) _
    refine XS.istore X6.here hx rfl (hb hby at_57) rfl (l' := #[vi p1, vi p2, vi p3, vi p4, vr u2, vi p2, vr u3, vi (0 : Int32), vi (0 : Int32)]) rfl ?_
    show own_S p e below T6 (mkF m 59 #[vi p1, vi p2, vi p3, vi p4, vr u2, vi p2, vr u3, vi (0 : Int32), vi (0 : Int32)] []) _
    refine XS.iload X6.here hx rfl (hb hby at_59) rfl ?_
    show own_S p e below T6 (mkF m 61 #[vi p1, vi p2, vi p3, vi p4, vr u2, vi p2, vr u3, vi (0 : Int32), vi (0 : Int32)] [xi (0 : Int32)]) _
    refine XS.iload X6.here hx rfl (hb hby at_61) rfl ?_
    show own_S p e below T6 (mkF m 63 #[vi p1, vi p2, vi p3, vi p4, vr u2, vi p2, vr u3, vi (0 : Int32), vi (0 : Int32)] [xi (0 : Int32), xi (0 : Int32)]) _
    refine XS.icmpNo X6.here hx rfl (hb hby at_63) rfl (by decide) ?_
    show own_S p e below T6 (mkF m 66 #[vi p1, vi p2, vi p3, vi p4, vr u2, vi p2, vr u3, vi (0 : Int32), vi (0 : Int32)] []) _
    refine XS.iconst X6.here hx rfl (hb hby at_66) ?_
    show own_S p e below T6 (mkF m 67 #[vi p1, vi p2, vi p3, vi p4, vr u2, vi p2, vr u3, vi (0 : Int32), vi (0 : Int32)] [xi (1 : Int32)]) _
    refine XS.goto X6.here hx rfl (pc0 := 67) (pc' := 71) rfl (hb hby at_67) (by decide) (by decide) ?_
    show own_S p e below T6 (mkF m 71 #[vi p1, vi p2, vi p3, vi p4, vr u2, vi p2, vr u3, vi (0 : Int32), vi (0 : Int32)] [xi (1 : Int32)]) _
    exact retN X6 hx (t := .boolean) Bd.returns (by simp) (hb hby at_71) hr
  · exact ⟨rfl, N6⟩
theorem d1_52 : decode method_2_code 52 = .ok (.getstatic 26, 3) := by decide +kernel
theorem d1_55 : decode method_2_code 55 = .ok (.areturn, 1) := by decide +kernel
theorem ef_own_c41_pick (m : MethodId) (u0 u1 u2 u3 u4 u5 : Addr) (p1 : Int32) : entryFrame m #[xi p1] 2 = (mkF m 0 #[vi p1, vu] []) := by first | (simp [entryFrame, mkF, argsToLocals, Value.category]; done) | rfl
set_option maxRecDepth 65536 in
set_option maxHeartbeats 40000000 in
theorem own_c41_pick (l : Launch) (Z : State) (a0 : Array Value) (hw : ∀ d ∈ tables_1, d.before a0 Z = true) (u0 u1 u2 u3 u4 u5 : Addr) (G : own_St Z u0 u1 u2 u3 u4 u5) (p1 : Int32) (as13 : ((p1 &&& (2147483647 : Int32)) - ((p1 &&& (2147483647 : Int32)) / (6 : Int32)) * (6 : Int32)) = (5 : Int32)) (h0 : Heap) (n0 : Nat) (O0 : Old Z n0 h0) : own_Met l Z Y0 method_2_code 2 (some (.object "com/example/whyle/whyle/cfa/Relation")) ({ frames := 0, cells := 0, slots := 0, locals := 0 } : Room) #[xi p1] h0 (own_QR (some (xr u5)) h0 n0) := by
  intro ws
  refine MetFree.of_bodySF (plainFor_of_name pn0) hisR ?_
  intro p e s m args below meth c s₁ Bd hml0 hP hK
  obtain ⟨rfl, hZ, hh⟩ := hP
  have hx := Bd.exec
  have hby := Bd.bytes
  have hml : c.maxLocals = 2 := hml0
  have hown : s.vm.findClass "com/example/whyle/whyle/cfa/RelationConversePinLaw" = some m.cls := findClass_of_methodNamed Bd.named
  have hnm := (name_of_methodNamed Bd.named Bd.method).1
  have X0 : Stand p l e ({ frames := 0, cells := 0, slots := 0, locals := 0 } : Room) s m #[xi p1] below meth c s₁ [] 0 0 := Stand.of_body Bd
  have e0 : s₁.heap = h0 := by rw [← hh, Bd.state]; rfl
  have N0 := Fr.nil n0
  have pre0 : ∀ t, Steps p.tables e below (s₁.setTop (mkF m 0 #[vi p1, vu] [])) t → Steps p.tables e below (s₁.setTop (entryFrame m #[xi p1] 2)) t := fun t st => castTop (ef_own_c41_pick m u0 u1 u2 u3 u4 u5 p1) st
  obtain ⟨T1, X1, e1, st1⟩ := getS2 X0 hx hZ hown (host := "") (Or.inl (ww hw 42 rfl)) Via.refl e0 ((own_S_u5 G).ext O0.2) (g := (mkF m 52 #[vi p1, vi (5 : Int32)] [])) rfl (hb hby d1_52)
  obtain ⟨fs, hr, hrun, hended, hW, hsame⟩ := X1.leave (v := some (xr u5)) (fun h => by rw [Bd.returns] at h; cases h)
  refine ⟨_, _, pre0 _ ?_, hrun, hended, _, _, rfl, ?_, ⟨_, rfl⟩, hW, hsame.mono (by decide) (by decide)⟩
  · show own_S p e below s₁ (mkF m 0 #[vi p1, vu] []) _
    refine XS.iloadN X0.here hx rfl (hb hby d1_0) rfl ?_
    show own_S p e below s₁ (mkF m 1 #[vi p1, vu] [xi p1]) _
    refine X0.ldcI hx hown (mvT hZ (ww hw 4 rfl)) (g := (mkF m 1 #[vi p1, vu] [xi p1])) rfl (hb hby d1_1) ?_
    show own_S p e below s₁ (mkF m 3 #[vi p1, vu] [xi (2147483647 : Int32), xi p1]) _
    refine XS.iand X0.here hx rfl (hb hby d1_3) rfl ?_
    show own_S p e below s₁ (mkF m 4 #[vi p1, vu] [xi (p1 &&& (2147483647 : Int32))]) _
    show own_S p e below s₁ (mkF m 4 #[vi p1, vu] [xi (p1 &&& (2147483647 : Int32))]) _
    refine XS.bipush X0.here hx rfl (hb hby d1_4) ?_
    show own_S p e below s₁ (mkF m 6 #[vi p1, vu] [xi (6 : Int32), xi (p1 &&& (2147483647 : Int32))]) _
    refine XS.irem X0.here hx rfl (hb hby d1_6) rfl (by decide) ?_
    show own_S p e below s₁ (mkF m 7 #[vi p1, vu] [xi ((p1 &&& (2147483647 : Int32)) - ((p1 &&& (2147483647 : Int32)) / (6 : Int32)) * (6 : Int32))]) _
    refine castTop (show (mkF m 7 #[vi p1, vu] [xi ((p1 &&& (2147483647 : Int32)) - ((p1 &&& (2147483647 : Int32)) / (6 : Int32)) * (6 : Int32))]) = (mkF m 7 #[vi p1, vu] [xi (5 : Int32)]) from by rw [as13]) ?_
    show own_S p e below s₁ (mkF m 7 #[vi p1, vu] [xi (5 : Int32)]) _
    refine XS.istoreN X0.here hx rfl (hb hby d1_7) rfl (l' := #[vi p1, vi (5 : Int32)]) rfl ?_
    show own_S p e below s₁ (mkF m 8 #[vi p1, vi (5 : Int32)] []) _
    refine XS.iloadN X0.here hx rfl (hb hby d1_8) rfl ?_
    show own_S p e below s₁ (mkF m 9 #[vi p1, vi (5 : Int32)] [xi (5 : Int32)]) _
    refine XS.ifYes X0.here hx rfl (pc0 := 9) (pc' := 16) rfl (hb hby d1_9) rfl (by decide) (by decide) (by decide) ?_
    show own_S p e below s₁ (mkF m 16 #[vi p1, vi (5 : Int32)] []) _
    refine XS.iloadN X0.here hx rfl (hb hby d1_16) rfl ?_
    show own_S p e below s₁ (mkF m 17 #[vi p1, vi (5 : Int32)] [xi (5 : Int32)]) _
    refine XS.iconst X0.here hx rfl (hb hby d1_17) ?_
    show own_S p e below s₁ (mkF m 18 #[vi p1, vi (5 : Int32)] [xi (1 : Int32), xi (5 : Int32)]) _
    refine XS.icmpYes X0.here hx rfl (pc0 := 18) (pc' := 25) rfl (hb hby d1_18) rfl (by decide) (by decide) (by decide) ?_
    show own_S p e below s₁ (mkF m 25 #[vi p1, vi (5 : Int32)] []) _
    refine XS.iloadN X0.here hx rfl (hb hby d1_25) rfl ?_
    show own_S p e below s₁ (mkF m 26 #[vi p1, vi (5 : Int32)] [xi (5 : Int32)]) _
    refine XS.iconst X0.here hx rfl (hb hby d1_26) ?_
    show own_S p e below s₁ (mkF m 27 #[vi p1, vi (5 : Int32)] [xi (2 : Int32), xi (5 : Int32)]) _
    refine XS.icmpYes X0.here hx rfl (pc0 := 27) (pc' := 34) rfl (hb hby d1_27) rfl (by decide) (by decide) (by decide) ?_
    show own_S p e below s₁ (mkF m 34 #[vi p1, vi (5 : Int32)] []) _
    refine XS.iloadN X0.here hx rfl (hb hby d1_34) rfl ?_
    show own_S p e below s₁ (mkF m 35 #[vi p1, vi (5 : Int32)] [xi (5 : Int32)]) _
    refine XS.iconst X0.here hx rfl (hb hby d1_35) ?_
    show own_S p e below s₁ (mkF m 36 #[vi p1, vi (5 : Int32)] [xi (3 : Int32), xi (5 : Int32)]) _
    refine XS.icmpYes X0.here hx rfl (pc0 := 36) (pc' := 43) rfl (hb hby d1_36) rfl (by decide) (by decide) (by decide) ?_
    show own_S p e below s₁ (mkF m 43 #[vi p1, vi (5 : Int32)] []) _
    refine XS.iloadN X0.here hx rfl (hb hby d1_43) rfl ?_
    show own_S p e below s₁ (mkF m 44 #[vi p1, vi (5 : Int32)] [xi (5 : Int32)]) _
    refine XS.iconst X0.here hx rfl (hb hby d1_44) ?_
    show own_S p e below s₁ (mkF m 45 #[vi p1, vi (5 : Int32)] [xi (4 : Int32), xi (5 : Int32)]) _
    refine XS.icmpYes X0.here hx rfl (pc0 := 45) (pc' := 52) rfl (hb hby d1_45) rfl (by decide) (by decide) (by decide) ?_
    show own_S p e below s₁ (mkF m 52 #[vi p1, vi (5 : Int32)] []) _
    refine st1 _ ?_
    show own_S p e below T1 (mkF m 55 #[vi p1, vi (5 : Int32)] [xr u5]) _
    exact X1.areturnOut hx rfl Bd.returns rfl (hb hby d1_55) hr
  · exact ⟨rfl, N0, e1⟩
theorem d2_84 : decode prog_62_method_7_code 84 = .ok (.getstatic 13, 3) := by decide +kernel
theorem ef_own_c42_converse (m : MethodId) (u0 u1 u2 u3 u4 u5 : Addr) : entryFrame m #[xr u5] 1 = (mkF m 0 #[vr u5] []) := by first | (simp [entryFrame, mkF, argsToLocals, Value.category]; done) | rfl
set_option maxRecDepth 65536 in
set_option maxHeartbeats 40000000 in
theorem own_c42_converse (l : Launch) (Z : State) (a0 : Array Value) (hw : ∀ d ∈ tables_1, d.before a0 Z = true) (u0 u1 u2 u3 u4 u5 : Addr) (G : own_St Z u0 u1 u2 u3 u4 u5) (h0 : Heap) (n0 : Nat) (O0 : Old Z n0 h0) : own_Met l Z Y3 prog_62_method_7_code 1 (some (.object "com/example/whyle/whyle/cfa/Relation")) ({ frames := 1, cells := 0, slots := 0, locals := 12 } : Room) #[xr u5] h0 (own_QR (some (xr u4)) h0 n0) := by
  intro ws
  refine MetFree.of_bodySF (plainFor_of_name pn2) hisR ?_
  intro p e s m args below meth c s₁ Bd hml0 hP hK
  obtain ⟨rfl, hZ, hh⟩ := hP
  have hx := Bd.exec
  have hby := Bd.bytes
  have hml : c.maxLocals = 1 := hml0
  have hown : s.vm.findClass "com/example/whyle/whyle/cfa/Relation" = some m.cls := findClass_of_methodNamed Bd.named
  have hnm := (name_of_methodNamed Bd.named Bd.method).1
  have X0 : Stand p l e ({ frames := 1, cells := 0, slots := 0, locals := 12 } : Room) s m #[xr u5] below meth c s₁ [] 0 0 := Stand.of_body Bd
  have e0 : s₁.heap = h0 := by rw [← hh, Bd.state]; rfl
  have N0 := Fr.nil n0
  have pre0 : ∀ t, Steps p.tables e below (s₁.setTop (mkF m 0 #[vr u5] [])) t → Steps p.tables e below (s₁.setTop (entryFrame m #[xr u5] 1)) t := fun t st => castTop (ef_own_c42_converse m u0 u1 u2 u3 u4 u5) st
  obtain ⟨cq1, kq1, qa1, qb1, qc1⟩ := isOf hZ e0 ((own_X_u5 G).ext O0.2)
  obtain ⟨_, _, ⟨T1, L1, k1, n1⟩, -, X1, ⟨Lc1, hQ1, l1, y1, z1⟩, st1⟩ := X0.virtualBackUp hx (x := Y2) (y := Y1) hown (mvT hZ (ww hw 13 rfl)) (mvT hZ (ww hw 14 rfl)) (mvT hZ (ww hw 15 rfl)) (by decide) (mvT hZ (ww hw 17 rfl)) (mvT hZ (ww hw 16 rfl)) (backOf (W := 0) (own_c33_ordinal l Z a0 hw u0 u1 u2 u3 u4 u5 G h0 n0 O0 []) hZ (ww hw 19 rfl) (ww hw 18 rfl) (by decide) (by decide)) qa1 qc1 (g := (mkF m 1 #[vr u5] [xr u5])) rfl (by rw [hml]; rfl) (Steps.refl _) (argsL := []) (rest := []) (lenOf pd1 rfl) rfl (by show 2 * 0 + _ ≤ _; exact Nat.le_of_eq rfl) (hb hby d2_1) (fun _ _ => ⟨rfl, e0, (by decide : 0 + 0 ≤ _), (by decide : 0 + 0 ≤ _)⟩)
  dsimp only [Pt.U, Pt.locs, Pt.cells, Pt.slots] at X1 l1 y1 z1 st1 hQ1
  subst l1 y1 z1
  obtain ⟨rfl, Nq1, e1⟩ := hQ1
  have N1 := Fr.app N0 Nq1
  obtain ⟨T2, X2, e2, st2⟩ := getS2 X1 hx hZ hown (host := "") (Or.inl (ww hw 43 rfl)) Via.refl e1 ((own_S_u4 G).ext O0.2) (g := (mkF m 84 #[vr u5] [])) rfl (hb hby d2_84)
  obtain ⟨fs, hr, hrun, hended, hW, hsame⟩ := X2.leave (v := some (xr u4)) (fun h => by rw [Bd.returns] at h; cases h)
  refine ⟨_, _, pre0 _ ?_, hrun, hended, _, _, rfl, ?_, ⟨_, rfl⟩, hW, hsame.mono (by decide) (by decide)⟩
  · show own_S p e below s₁ (mkF m 0 #[vr u5] []) _
    refine XS.aloadN X0.here hx rfl (hb hby d2_0) rfl rfl ?_
    show own_S p e below s₁ (mkF m 1 #[vr u5] [xr u5]) _
    refine st1.trans ?_
    show own_S p e below T1 (mkF m 4 #[vr u5] [xi (5 : Int32)]) _
    refine XS.tswIn X1.here hx rfl (pc0 := 4) (pc' := 84) (o := 80) rfl (hb hby d2_4) rfl (by decide) (by decide) (by decide) (by decide) ?_
    show own_S p e below T1 (mkF m 84 #[vr u5] []) _
    refine st2 _ ?_
    show own_S p e below T2 (mkF m 87 #[vr u5] [xr u4]) _
    exact X2.areturnOut hx rfl Bd.returns rfl (hb hby d2_87) hr
  · exact ⟨rfl, N1, e2⟩
theorem ef_own_l20 (m : MethodId) (u0 u1 u2 u3 u4 u5 : Addr) (p1 : Int32) (p2 : Int32) (p3 : Int32) (p4 : Int32) : entryFrame m #[xi p1, xi p2, xi p3, xi p4] maxLocals = (mkF m 0 #[vi p1, vi p2, vi p3, vi p4, vu, vu, vu, vu, vu] []) := by first | (simp [entryFrame, mkF, argsToLocals, Value.category, maxLocals]; done) | rfl
set_option maxRecDepth 65536 in
set_option maxHeartbeats 40000000 in
theorem own_l20 (l : Launch) (Z : State) (a0 : Array Value) (hw : ∀ d ∈ tables_1, d.before a0 Z = true) (u0 u1 u2 u3 u4 u5 : Addr) (G : own_St Z u0 u1 u2 u3 u4 u5) (p1 : Int32) (p2 : Int32) (p3 : Int32) (p4 : Int32) (as13 : ((p1 &&& (2147483647 : Int32)) - ((p1 &&& (2147483647 : Int32)) / (6 : Int32)) * (6 : Int32)) = (5 : Int32)) (as14 : (p4 &&& (1 : Int32)) = (0 : Int32)) (as0 : if_icmp.holds .ge p2 p3 = false) (as1 : if_icmp.holds .ge p3 p2 = true) (as2 : if_icmp.holds .ne p3 p2 = true) (h0 : Heap) (n0 : Nat) (O0 : Old Z n0 h0) : own_Met l Z x code maxLocals ret room_1 #[xi p1, xi p2, xi p3, xi p4] h0 (own_QL (some (xi (1 : Int32))) n0) := by
  intro ws
  refine MetFree.of_bodySF (plainFor_of_name pn0) hisR ?_
  intro p e s m args below meth c s₁ Bd hml0 hP hK
  obtain ⟨rfl, hZ, hh⟩ := hP
  have hx := Bd.exec
  have hby := Bd.bytes
  have hml : c.maxLocals = 9 := hml0
  have hown : s.vm.findClass "com/example/whyle/whyle/cfa/RelationConversePinLaw" = some m.cls := findClass_of_methodNamed Bd.named
  have hnm := (name_of_methodNamed Bd.named Bd.method).1
  have X0 : Stand p l e room_1 s m #[xi p1, xi p2, xi p3, xi p4] below meth c s₁ [] 0 0 := Stand.of_body Bd
  have e0 : s₁.heap = h0 := by rw [← hh, Bd.state]; rfl
  have N0 := Fr.nil n0
  have pre0 : ∀ t, Steps p.tables e below (s₁.setTop (mkF m 0 #[vi p1, vi p2, vi p3, vi p4, vu, vu, vu, vu, vu] [])) t → Steps p.tables e below (s₁.setTop (entryFrame m #[xi p1, xi p2, xi p3, xi p4] maxLocals)) t := fun t st => castTop (ef_own_l20 m u0 u1 u2 u3 u4 u5 p1 p2 p3 p4) st
  obtain ⟨_, _, ⟨T1, L1, k1, n1⟩, -, X1, ⟨Lc1, hQ1, l1, y1, z1⟩, st1⟩ := Jvm.LawKit.callS X0 hx (y := Y0) hown (mvT hZ (ww hw 0 rfl)) (mvT hZ (ww hw 1 rfl)) (mvT hZ (ww hw 2 rfl)) (mvT hZ (ww hw 3 rfl)) (by decide) (backOf (W := 0) (own_c41_pick l Z a0 hw u0 u1 u2 u3 u4 u5 G p1 as13 h0 n0 O0 []) hZ (ww hw 3 rfl) (ww hw 2 rfl) (by decide) (by decide)) (g := (mkF m 1 #[vi p1, vi p2, vi p3, vi p4, vu, vu, vu, vu, vu] [xi p1])) rfl (by rw [hml]; rfl) (argsL := [xi p1]) (rest := []) (lenOf pd0 rfl) rfl (by show 2 * 0 + _ ≤ _; exact Nat.le_of_eq rfl) (hb hby at_1) (fun _ _ => ⟨rfl, e0, (by decide : 0 + 0 ≤ _), (by decide : 0 + 0 ≤ _)⟩)
  dsimp only [Pt.U, Pt.locs, Pt.cells, Pt.slots] at X1 l1 y1 z1 st1 hQ1
  subst l1 y1 z1
  obtain ⟨rfl, Nq1, e1⟩ := hQ1
  have N1 := Fr.app N0 Nq1
  obtain ⟨cq2, kq2, qa2, qb2, qc2⟩ := isOf hZ e1 ((own_X_u5 G).ext O0.2)
  obtain ⟨_, _, ⟨T2, L2, k2, n2⟩, -, X2, ⟨Lc2, hQ2, l2, y2, z2⟩, st2⟩ := X1.virtualBack hx (y := Y3) (z := Y3) hown (mvT hZ (ww hw 8 rfl)) (mvT hZ (ww hw 9 rfl)) (notFace_of_selects (args := #[]) (mvT hZ (ww hw 11 rfl))) (mvT hZ (ww hw 11 rfl)) (mvT hZ (ww hw 10 rfl)) (by decide) (backOf (W := 0) (own_c42_converse l Z a0 hw u0 u1 u2 u3 u4 u5 G h0 n0 O0 []) hZ (ww hw 12 rfl) (ww hw 6 rfl) (by decide) (by decide)) qa2 qc2 (g := (mkF m 21 #[vi p1, vi p2, vi p3, vi p4, vr u5, vi p3, vu, vu, vu] [xr u5])) rfl (by rw [hml]; rfl) (Steps.refl _) (argsL := []) (rest := []) (lenOf pd2 rfl) rfl (by show 2 * 0 + _ ≤ _; exact Nat.le_of_eq rfl) (hb hby at_21) (fun _ _ => ⟨rfl, e1, (by decide : 0 + 0 ≤ _), (by decide : 0 + 0 ≤ _)⟩)
  dsimp only [Pt.U, Pt.locs, Pt.cells, Pt.slots] at X2 l2 y2 z2 st2 hQ2
  subst l2 y2 z2
  obtain ⟨rfl, Nq2, e2⟩ := hQ2
  have N2 := Fr.app N1 Nq2
  obtain ⟨_, _, ⟨T3, L3, k3, n3⟩, -, X3, ⟨Lc3, hQ3, l3, y3, z3⟩, st3⟩ := Jvm.LawKit.callS X2 hx (y := Y4) hown (mvT hZ (ww hw 23 rfl)) (mvT hZ (ww hw 24 rfl)) (mvT hZ (ww hw 2 rfl)) (mvT hZ (ww hw 25 rfl)) (by decide) (backOf (W := 1) (own_c3_sign l Z a0 hw u0 u1 u2 u3 u4 u5 G p2 p3 as0 h0 n0 O0 []) hZ (ww hw 25 rfl) (ww hw 2 rfl) (by decide) (by decide)) (g := (mkF m 38 #[vi p1, vi p2, vi p3, vi p4, vr u5, vi p3, vr u4, vu, vu] [xi p3, xi p2, xr u5])) rfl (by rw [hml]; rfl) (argsL := [xi p2, xi p3]) (rest := [xr u5]) (lenOf pd3 rfl) rfl (by show 2 * 0 + _ ≤ _; exact Nat.le_of_eq rfl) (hb hby at_38) (fun _ _ => ⟨rfl, e2, (by decide : 0 + 0 ≤ _), (by decide : 0 + 0 ≤ _)⟩)
  dsimp only [Pt.U, Pt.locs, Pt.cells, Pt.slots] at X3 l3 y3 z3 st3 hQ3
  subst l3 y3 z3
  obtain ⟨rfl, Nq3, e3⟩ := hQ3
  have N3 := Fr.app N2 Nq3
  obtain ⟨cq4, kq4, qa4, qb4, qc4⟩ := isOf hZ e3 ((own_X_u5 G).ext O0.2)
  obtain ⟨_, _, ⟨T4, L4, k4, n4⟩, -, X4, ⟨Lc4, hQ4, l4, y4, z4⟩, st4⟩ := X3.virtualBack hx (y := Y5) (z := Y5) hown (mvT hZ (ww hw 26 rfl)) (mvT hZ (ww hw 27 rfl)) (notFace_of_selects (args := #[]) (mvT hZ (ww hw 29 rfl))) (mvT hZ (ww hw 29 rfl)) (mvT hZ (ww hw 28 rfl)) (by decide) (backOf (W := 0) (own_c38_holds l Z a0 hw u0 u1 u2 u3 u4 u5 G h0 n0 O0 []) hZ (ww hw 30 rfl) (ww hw 6 rfl) (by decide) (by decide)) qa4 qc4 (g := (mkF m 41 #[vi p1, vi p2, vi p3, vi p4, vr u5, vi p3, vr u4, vu, vu] [xi (-1 : Int32), xr u5])) rfl (by rw [hml]; rfl) (Steps.refl _) (argsL := [xi (-1 : Int32)]) (rest := []) (lenOf pd4 rfl) rfl (by show 2 * 0 + _ ≤ _; exact Nat.le_of_eq rfl) (hb hby at_41) (fun _ _ => ⟨rfl, e3, (by decide : 0 + 0 ≤ _), (by decide : 0 + 0 ≤ _)⟩)
  dsimp only [Pt.U, Pt.locs, Pt.cells, Pt.slots] at X4 l4 y4 z4 st4 hQ4
  subst l4 y4 z4
  obtain ⟨rfl, Nq4, e4⟩ := hQ4
  have N4 := Fr.app N3 Nq4
  obtain ⟨_, _, ⟨T5, L5, k5, n5⟩, -, X5, ⟨Lc5, hQ5, l5, y5, z5⟩, st5⟩ := Jvm.LawKit.callS X4 hx (y := Y4) hown (mvT hZ (ww hw 23 rfl)) (mvT hZ (ww hw 24 rfl)) (mvT hZ (ww hw 2 rfl)) (mvT hZ (ww hw 25 rfl)) (by decide) (backOf (W := 1) (own_c5_sign l Z a0 hw u0 u1 u2 u3 u4 u5 G p2 p3 as1 as2 h0 n0 O0 []) hZ (ww hw 25 rfl) (ww hw 2 rfl) (by decide) (by decide)) (g := (mkF m 51 #[vi p1, vi p2, vi p3, vi p4, vr u5, vi p3, vr u4, vi (0 : Int32), vu] [xi p2, xi p3, xr u4])) rfl (by rw [hml]; rfl) (argsL := [xi p3, xi p2]) (rest := [xr u4]) (lenOf pd3 rfl) rfl (by show 2 * 0 + _ ≤ _; exact Nat.le_of_eq rfl) (hb hby at_51) (fun _ _ => ⟨rfl, e4, (by decide : 0 + 0 ≤ _), (by decide : 0 + 0 ≤ _)⟩)
  dsimp only [Pt.U, Pt.locs, Pt.cells, Pt.slots] at X5 l5 y5 z5 st5 hQ5
  subst l5 y5 z5
  obtain ⟨rfl, Nq5, e5⟩ := hQ5
  have N5 := Fr.app N4 Nq5
  obtain ⟨cq6, kq6, qa6, qb6, qc6⟩ := isOf hZ e5 ((own_X_u4 G).ext O0.2)
  obtain ⟨_, _, ⟨T6, L6, k6, n6⟩, -, X6, ⟨Lc6, hQ6, l6, y6, z6⟩, st6⟩ := X5.virtualBack hx (y := Y5) (z := Y5) hown (mvT hZ (ww hw 26 rfl)) (mvT hZ (ww hw 27 rfl)) (notFace_of_selects (args := #[]) (mvT hZ (ww hw 29 rfl))) (mvT hZ (ww hw 29 rfl)) (mvT hZ (ww hw 28 rfl)) (by decide) (backOf (W := 0) (own_c37_holds l Z a0 hw u0 u1 u2 u3 u4 u5 G h0 n0 O0 []) hZ (ww hw 30 rfl) (ww hw 6 rfl) (by decide) (by decide)) qa6 qc6 (g := (mkF m 54 #[vi p1, vi p2, vi p3, vi p4, vr u5, vi p3, vr u4, vi (0 : Int32), vu] [xi (1 : Int32), xr u4])) rfl (by rw [hml]; rfl) (Steps.refl _) (argsL := [xi (1 : Int32)]) (rest := []) (lenOf pd4 rfl) rfl (by show 2 * 0 + _ ≤ _; exact Nat.le_of_eq rfl) (hb hby at_54) (fun _ _ => ⟨rfl, e5, (by decide : 0 + 0 ≤ _), (by decide : 0 + 0 ≤ _)⟩)
  dsimp only [Pt.U, Pt.locs, Pt.cells, Pt.slots] at X6 l6 y6 z6 st6 hQ6
  subst l6 y6 z6
  obtain ⟨rfl, Nq6, e6⟩ := hQ6
  have N6 := Fr.app N5 Nq6
  obtain ⟨fs, hr, hrun, hended, hW, hsame⟩ := X6.leave (v := some (xi (1 : Int32))) (fun h => by rw [Bd.returns] at h; cases h)
  refine ⟨_, _, pre0 _ ?_, hrun, hended, _, _, rfl, ?_, ⟨_, rfl⟩, hW, hsame.mono (by decide) (by decide)⟩
  · show own_S p e below s₁ (mkF m 0 #[vi p1, vi p2, vi p3, vi p4, vu, vu, vu, vu, vu] []) _
    refine XS.iloadN X0.here hx rfl (hb hby at_0) rfl ?_
    show own_S p e below s₁ (mkF m 1 #[vi p1, vi p2, vi p3, vi p4, vu, vu, vu, vu, vu] [xi p1]) _
    refine st1 _ ?_
    show own_S p e below T1 (mkF m 4 #[vi p1, vi p2, vi p3, vi p4, vu, vu, vu, vu, vu] [xr u5]) _
    refine XS.astore X1.here hx rfl (hb hby at_4) rfl rfl (l' := #[vi p1, vi p2, vi p3, vi p4, vr u5, vu, vu, vu, vu]) rfl ?_
    show own_S p e below T1 (mkF m 6 #[vi p1, vi p2, vi p3, vi p4, vr u5, vu, vu, vu, vu] []) _
    refine XS.iloadN X1.here hx rfl (hb hby at_6) rfl ?_
    show own_S p e below T1 (mkF m 7 #[vi p1, vi p2, vi p3, vi p4, vr u5, vu, vu, vu, vu] [xi p4]) _
    refine XS.iconst X1.here hx rfl (hb hby at_7) ?_
    show own_S p e below T1 (mkF m 8 #[vi p1, vi p2, vi p3, vi p4, vr u5, vu, vu, vu, vu] [xi (1 : Int32), xi p4]) _
    refine XS.iand X1.here hx rfl (hb hby at_8) rfl ?_
    show own_S p e below T1 (mkF m 9 #[vi p1, vi p2, vi p3, vi p4, vr u5, vu, vu, vu, vu] [xi (p4 &&& (1 : Int32))]) _
    refine castTop (show (mkF m 9 #[vi p1, vi p2, vi p3, vi p4, vr u5, vu, vu, vu, vu] [xi (p4 &&& (1 : Int32))]) = (mkF m 9 #[vi p1, vi p2, vi p3, vi p4, vr u5, vu, vu, vu, vu] [xi (0 : Int32)]) from by rw [as14]) ?_
    show own_S p e below T1 (mkF m 9 #[vi p1, vi p2, vi p3, vi p4, vr u5, vu, vu, vu, vu] [xi (0 : Int32)]) _
    refine XS.ifYes X1.here hx rfl (pc0 := 9) (pc' := 16) rfl (hb hby at_9) rfl (by decide) (by decide) (by decide) ?_
    show own_S p e below T1 (mkF m 16 #[vi p1, vi p2, vi p3, vi p4, vr u5, vu, vu, vu, vu] []) _
    refine XS.iloadN X1.here hx rfl (hb hby at_16) rfl ?_
    show own_S p e below T1 (mkF m 17 #[vi p1, vi p2, vi p3, vi p4, vr u5, vu, vu, vu, vu] [xi p3]) _
    refine XS.istore X1.here hx rfl (hb hby at_17) rfl (l' := #[vi p1, vi p2, vi p3, vi p4, vr u5, vi p3, vu, vu, vu]) rfl ?_
    show own_S p e below T1 (mkF m 19 #[vi p1, vi p2, vi p3, vi p4, vr u5, vi p3, vu, vu, vu] []) _
    refine XS.aload X1.here hx rfl (hb hby at_19) rfl rfl ?_
    show own_S p e below T1 (mkF m 21 #[vi p1, vi p2, vi p3, vi p4, vr u5, vi p3, vu, vu, vu] [xr u5]) _
    refine st2.trans ?_
    show own_S p e below T2 (mkF m 24 #[vi p1, vi p2, vi p3, vi p4, vr u5, vi p3, vu, vu, vu] [xr u4]) _
    refine XS.astore X2.here hx rfl (hb hby at_24) rfl rfl (l' := #[vi p1, vi p2, vi p3, vi p4, vr u5, vi p3, vr u4, vu, vu]) rfl ?_
    show own_S p e below T2 (mkF m 26 #[vi p1, vi p2, vi p3, vi p4, vr u5, vi p3, vr u4, vu, vu] []) _
    refine XS.aload X2.here hx rfl (hb hby at_26) rfl rfl ?_
    show own_S p e below T2 (mkF m 28 #[vi p1, vi p2, vi p3, vi p4, vr u5, vi p3, vr u4, vu, vu] [xr u4]) _
    refine Jvm.Free.XT.nonnullYes X2.here hx rfl (pc0 := 28) (pc' := 33) rfl (hb hby at_28) rfl rfl (by simp) (by decide) (by decide) ?_
    show own_S p e below T2 (mkF m 33 #[vi p1, vi p2, vi p3, vi p4, vr u5, vi p3, vr u4, vu, vu] []) _
    refine XS.aload X2.here hx rfl (hb hby at_33) rfl rfl ?_
    show own_S p e below T2 (mkF m 35 #[vi p1, vi p2, vi p3, vi p4, vr u5, vi p3, vr u4, vu, vu] [xr u5]) _
    refine XS.iloadN X2.here hx rfl (hb hby at_35) rfl ?_
    show own_S p e below T2 (mkF m 36 #[vi p1, vi p2, vi p3, vi p4, vr u5, vi p3, vr u4, vu, vu] [xi p2, xr u5]) _
    refine XS.iload X2.here hx rfl (hb hby at_36) rfl ?_
    show own_S p e below T2 (mkF m 38 #[vi p1, vi p2, vi p3, vi p4, vr u5, vi p3, vr u4, vu, vu] [xi p3, xi p2, xr u5]) _
    refine st3 _ ?_
    show own_S p e below T3 (mkF m 41 #[vi p1, vi p2, vi p3, vi p4, vr u5, vi p3, vr u4, vu, vu] [xi (-1 : Int32), xr u5]) _
    refine st4.trans ?_
    show own_S p e below T4 (mkF m 44 #[vi p1, vi p2, vi p3, vi p4, vr u5, vi p3, vr u4, vu, vu] [xi (0 : Int32)]) _
    refine XS.istore X4.here hx rfl (hb hby at_44) rfl (l' := #[vi p1, vi p2, vi p3, vi p4, vr u5, vi p3, vr u4, vi (0 : Int32), vu]) rfl ?_
    show own_S p e below T4 (mkF m 46 #[vi p1, vi p2, vi p3, vi p4, vr u5, vi p3, vr u4, vi (0 : Int32), vu] []) _
    refine XS.aload X4.here hx rfl (hb hby at_46) rfl rfl ?_
    show own_S p e below T4 (mkF m 48 #[vi p1, vi p2, vi p3, vi p4, vr u5, vi p3, vr u4, vi (0 : Int32), vu] [xr u4]) _
    refine XS.iload X4.here hx rfl (hb hby at_48) rfl ?_
    show own_S p e below T4 (mkF m 50 #[vi p1, vi p2, vi p3, vi p4, vr u5, vi p3, vr u4, vi (0 : Int32), vu] [xi p3, xr u4]) _
    refine XS.iloadN X4.here hx rfl (hb hby at_50) rfl ?_
    show own_S p e below T4 (mkF m 51 #[vi p1, vi p2, vi p3, vi p4, vr u5, vi p3, vr u4, vi (0 : Int32), vu] [xi p2, xi p3, xr u4]) _
    refine st5 _ ?_
    show own_S p e below T5 (mkF m 54 #[vi p1, vi p2, vi p3, vi p4, vr u5, vi p3, vr u4, vi (0 : Int32), vu] [xi (1 : Int32), xr u4]) _
    refine st6.trans ?_
    show own_S p e below T6 (mkF m 57 #[vi p1, vi p2, vi p3, vi p4, vr u5, vi p3, vr u4, vi (0 : Int32), vu] [xi (0 : Int32)]) _
    refine XS.istore X6.here hx rfl (hb hby at_57) rfl (l' := #[vi p1, vi p2, vi p3, vi p4, vr u5, vi p3, vr u4, vi (0 : Int32), vi (0 : Int32)]) rfl ?_
    show own_S p e below T6 (mkF m 59 #[vi p1, vi p2, vi p3, vi p4, vr u5, vi p3, vr u4, vi (0 : Int32), vi (0 : Int32)] []) _
    refine XS.iload X6.here hx rfl (hb hby at_59) rfl ?_
    show own_S p e below T6 (mkF m 61 #[vi p1, vi p2, vi p3, vi p4, vr u5, vi p3, vr u4, vi (0 : Int32), vi (0 : Int32)] [xi (0 : Int32)]) _
    refine XS.iload X6.here hx rfl (hb hby at_61) rfl ?_
    show own_S p e below T6 (mkF m 63 #[vi p1, vi p2, vi p3, vi p4, vr u5, vi p3, vr u4, vi (0 : Int32), vi (0 : Int32)] [xi (0 : Int32), xi (0 : Int32)]) _
    refine XS.icmpNo X6.here hx rfl (hb hby at_63) rfl (by decide) ?_
    show own_S p e below T6 (mkF m 66 #[vi p1, vi p2, vi p3, vi p4, vr u5, vi p3, vr u4, vi (0 : Int32), vi (0 : Int32)] []) _
    refine XS.iconst X6.here hx rfl (hb hby at_66) ?_
    show own_S p e below T6 (mkF m 67 #[vi p1, vi p2, vi p3, vi p4, vr u5, vi p3, vr u4, vi (0 : Int32), vi (0 : Int32)] [xi (1 : Int32)]) _
    refine XS.goto X6.here hx rfl (pc0 := 67) (pc' := 71) rfl (hb hby at_67) (by decide) (by decide) ?_
    show own_S p e below T6 (mkF m 71 #[vi p1, vi p2, vi p3, vi p4, vr u5, vi p3, vr u4, vi (0 : Int32), vi (0 : Int32)] [xi (1 : Int32)]) _
    exact retN X6 hx (t := .boolean) Bd.returns (by simp) (hb hby at_71) hr
  · exact ⟨rfl, N6⟩
theorem ef_own_l21 (m : MethodId) (u0 u1 u2 u3 u4 u5 : Addr) (p1 : Int32) (p2 : Int32) (p3 : Int32) (p4 : Int32) : entryFrame m #[xi p1, xi p2, xi p3, xi p4] maxLocals = (mkF m 0 #[vi p1, vi p2, vi p3, vi p4, vu, vu, vu, vu, vu] []) := by first | (simp [entryFrame, mkF, argsToLocals, Value.category, maxLocals]; done) | rfl
set_option maxRecDepth 65536 in
set_option maxHeartbeats 40000000 in
theorem own_l21 (l : Launch) (Z : State) (a0 : Array Value) (hw : ∀ d ∈ tables_1, d.before a0 Z = true) (u0 u1 u2 u3 u4 u5 : Addr) (G : own_St Z u0 u1 u2 u3 u4 u5) (p1 : Int32) (p2 : Int32) (p3 : Int32) (p4 : Int32) (as13 : ((p1 &&& (2147483647 : Int32)) - ((p1 &&& (2147483647 : Int32)) / (6 : Int32)) * (6 : Int32)) = (5 : Int32)) (as14 : (p4 &&& (1 : Int32)) = (0 : Int32)) (as3 : if_icmp.holds .ge p2 p3 = true) (as4 : if_icmp.holds .ne p2 p3 = false) (as1 : if_icmp.holds .ge p3 p2 = true) (as5 : if_icmp.holds .ne p3 p2 = false) (h0 : Heap) (n0 : Nat) (O0 : Old Z n0 h0) : own_Met l Z x code maxLocals ret room_1 #[xi p1, xi p2, xi p3, xi p4] h0 (own_QL (some (xi (1 : Int32))) n0) := by
  intro ws
  refine MetFree.of_bodySF (plainFor_of_name pn0) hisR ?_
  intro p e s m args below meth c s₁ Bd hml0 hP hK
  obtain ⟨rfl, hZ, hh⟩ := hP
  have hx := Bd.exec
  have hby := Bd.bytes
  have hml : c.maxLocals = 9 := hml0
  have hown : s.vm.findClass "com/example/whyle/whyle/cfa/RelationConversePinLaw" = some m.cls := findClass_of_methodNamed Bd.named
  have hnm := (name_of_methodNamed Bd.named Bd.method).1
  have X0 : Stand p l e room_1 s m #[xi p1, xi p2, xi p3, xi p4] below meth c s₁ [] 0 0 := Stand.of_body Bd
  have e0 : s₁.heap = h0 := by rw [← hh, Bd.state]; rfl
  have N0 := Fr.nil n0
  have pre0 : ∀ t, Steps p.tables e below (s₁.setTop (mkF m 0 #[vi p1, vi p2, vi p3, vi p4, vu, vu, vu, vu, vu] [])) t → Steps p.tables e below (s₁.setTop (entryFrame m #[xi p1, xi p2, xi p3, xi p4] maxLocals)) t := fun t st => castTop (ef_own_l21 m u0 u1 u2 u3 u4 u5 p1 p2 p3 p4) st
  obtain ⟨_, _, ⟨T1, L1, k1, n1⟩, -, X1, ⟨Lc1, hQ1, l1, y1, z1⟩, st1⟩ := Jvm.LawKit.callS X0 hx (y := Y0) hown (mvT hZ (ww hw 0 rfl)) (mvT hZ (ww hw 1 rfl)) (mvT hZ (ww hw 2 rfl)) (mvT hZ (ww hw 3 rfl)) (by decide) (backOf (W := 0) (own_c41_pick l Z a0 hw u0 u1 u2 u3 u4 u5 G p1 as13 h0 n0 O0 []) hZ (ww hw 3 rfl) (ww hw 2 rfl) (by decide) (by decide)) (g := (mkF m 1 #[vi p1, vi p2, vi p3, vi p4, vu, vu, vu, vu, vu] [xi p1])) rfl (by rw [hml]; rfl) (argsL := [xi p1]) (rest := []) (lenOf pd0 rfl) rfl (by show 2 * 0 + _ ≤ _; exact Nat.le_of_eq rfl) (hb hby at_1) (fun _ _ => ⟨rfl, e0, (by decide : 0 + 0 ≤ _), (by decide : 0 + 0 ≤ _)⟩)
  dsimp only [Pt.U, Pt.locs, Pt.cells, Pt.slots] at X1 l1 y1 z1 st1 hQ1
  subst l1 y1 z1
  obtain ⟨rfl, Nq1, e1⟩ := hQ1
  have N1 := Fr.app N0 Nq1
  obtain ⟨cq2, kq2, qa2, qb2, qc2⟩ := isOf hZ e1 ((own_X_u5 G).ext O0.2)
  obtain ⟨_, _, ⟨T2, L2, k2, n2⟩, -, X2, ⟨Lc2, hQ2, l2, y2, z2⟩, st2⟩ := X1.virtualBack hx (y := Y3) (z := Y3) hown (mvT hZ (ww hw 8 rfl)) (mvT hZ (ww hw 9 rfl)) (notFace_of_selects (args := #[]) (mvT hZ (ww hw 11 rfl))) (mvT hZ (ww hw 11 rfl)) (mvT hZ (ww hw 10 rfl)) (by decide) (backOf (W := 0) (own_c42_converse l Z a0 hw u0 u1 u2 u3 u4 u5 G h0 n0 O0 []) hZ (ww hw 12 rfl) (ww hw 6 rfl) (by decide) (by decide)) qa2 qc2 (g := (mkF m 21 #[vi p1, vi p2, vi p3, vi p4, vr u5, vi p3, vu, vu, vu] [xr u5])) rfl (by rw [hml]; rfl) (Steps.refl _) (argsL := []) (rest := []) (lenOf pd2 rfl) rfl (by show 2 * 0 + _ ≤ _; exact Nat.le_of_eq rfl) (hb hby at_21) (fun _ _ => ⟨rfl, e1, (by decide : 0 + 0 ≤ _), (by decide : 0 + 0 ≤ _)⟩)
  dsimp only [Pt.U, Pt.locs, Pt.cells, Pt.slots] at X2 l2 y2 z2 st2 hQ2
  subst l2 y2 z2
  obtain ⟨rfl, Nq2, e2⟩ := hQ2
  have N2 := Fr.app N1 Nq2
  obtain ⟨_, _, ⟨T3, L3, k3, n3⟩, -, X3, ⟨Lc3, hQ3, l3, y3, z3⟩, st3⟩ := Jvm.LawKit.callS X2 hx (y := Y4) hown (mvT hZ (ww hw 23 rfl)) (mvT hZ (ww hw 24 rfl)) (mvT hZ (ww hw 2 rfl)) (mvT hZ (ww hw 25 rfl)) (by decide) (backOf (W := 1) (own_c7_sign l Z a0 hw u0 u1 u2 u3 u4 u5 G p2 p3 as3 as4 h0 n0 O0 []) hZ (ww hw 25 rfl) (ww hw 2 rfl) (by decide) (by decide)) (g := (mkF m 38 #[vi p1, vi p2, vi p3, vi p4, vr u5, vi p3, vr u4, vu, vu] [xi p3, xi p2, xr u5])) rfl (by rw [hml]; rfl) (argsL := [xi p2, xi p3]) (rest := [xr u5]) (lenOf pd3 rfl) rfl (by show 2 * 0 + _ ≤ _; exact Nat.le_of_eq rfl) (hb hby at_38) (fun _ _ => ⟨rfl, e2, (by decide : 0 + 0 ≤ _), (by decide : 0 + 0 ≤ _)⟩)
  dsimp only [Pt.U, Pt.locs, Pt.cells, Pt.slots] at X3 l3 y3 z3 st3 hQ3
  subst l3 y3 z3
  obtain ⟨rfl, Nq3, e3⟩ := hQ3
  have N3 := Fr.app N2 Nq3
  obtain ⟨cq4, kq4, qa4, qb4, qc4⟩ := isOf hZ e3 ((own_X_u5 G).ext O0.2)
  obtain ⟨_, _, ⟨T4, L4, k4, n4⟩, -, X4, ⟨Lc4, hQ4, l4, y4, z4⟩, st4⟩ := X3.virtualBack hx (y := Y5) (z := Y5) hown (mvT hZ (ww hw 26 rfl)) (mvT hZ (ww hw 27 rfl)) (notFace_of_selects (args := #[]) (mvT hZ (ww hw 29 rfl))) (mvT hZ (ww hw 29 rfl)) (mvT hZ (ww hw 28 rfl)) (by decide) (backOf (W := 0) (own_c36_holds l Z a0 hw u0 u1 u2 u3 u4 u5 G h0 n0 O0 []) hZ (ww hw 30 rfl) (ww hw 6 rfl) (by decide) (by decide)) qa4 qc4 (g := (mkF m 41 #[vi p1, vi p2, vi p3, vi p4, vr u5, vi p3, vr u4, vu, vu] [xi (0 : Int32), xr u5])) rfl (by rw [hml]; rfl) (Steps.refl _) (argsL := [xi (0 : Int32)]) (rest := []) (lenOf pd4 rfl) rfl (by show 2 * 0 + _ ≤ _; exact Nat.le_of_eq rfl) (hb hby at_41) (fun _ _ => ⟨rfl, e3, (by decide : 0 + 0 ≤ _), (by decide : 0 + 0 ≤ _)⟩)
  dsimp only [Pt.U, Pt.locs, Pt.cells, Pt.slots] at X4 l4 y4 z4 st4 hQ4
  subst l4 y4 z4
  obtain ⟨rfl, Nq4, e4⟩ := hQ4
  have N4 := Fr.app N3 Nq4
  obtain ⟨_, _, ⟨T5, L5, k5, n5⟩, -, X5, ⟨Lc5, hQ5, l5, y5, z5⟩, st5⟩ := Jvm.LawKit.callS X4 hx (y := Y4) hown (mvT hZ (ww hw 23 rfl)) (mvT hZ (ww hw 24 rfl)) (mvT hZ (ww hw 2 rfl)) (mvT hZ (ww hw 25 rfl)) (by decide) (backOf (W := 1) (own_c9_sign l Z a0 hw u0 u1 u2 u3 u4 u5 G p2 p3 as1 as5 h0 n0 O0 []) hZ (ww hw 25 rfl) (ww hw 2 rfl) (by decide) (by decide)) (g := (mkF m 51 #[vi p1, vi p2, vi p3, vi p4, vr u5, vi p3, vr u4, vi (1 : Int32), vu] [xi p2, xi p3, xr u4])) rfl (by rw [hml]; rfl) (argsL := [xi p3, xi p2]) (rest := [xr u4]) (lenOf pd3 rfl) rfl (by show 2 * 0 + _ ≤ _; exact Nat.le_of_eq rfl) (hb hby at_51) (fun _ _ => ⟨rfl, e4, (by decide : 0 + 0 ≤ _), (by decide : 0 + 0 ≤ _)⟩)
  dsimp only [Pt.U, Pt.locs, Pt.cells, Pt.slots] at X5 l5 y5 z5 st5 hQ5
  subst l5 y5 z5
  obtain ⟨rfl, Nq5, e5⟩ := hQ5
  have N5 := Fr.app N4 Nq5
  obtain ⟨cq6, kq6, qa6, qb6, qc6⟩ := isOf hZ e5 ((own_X_u4 G).ext O0.2)
  obtain ⟨_, _, ⟨T6, L6, k6, n6⟩, -, X6, ⟨Lc6, hQ6, l6, y6, z6⟩, st6⟩ := X5.virtualBack hx (y := Y5) (z := Y5) hown (mvT hZ (ww hw 26 rfl)) (mvT hZ (ww hw 27 rfl)) (notFace_of_selects (args := #[]) (mvT hZ (ww hw 29 rfl))) (mvT hZ (ww hw 29 rfl)) (mvT hZ (ww hw 28 rfl)) (by decide) (backOf (W := 0) (own_c35_holds l Z a0 hw u0 u1 u2 u3 u4 u5 G h0 n0 O0 []) hZ (ww hw 30 rfl) (ww hw 6 rfl) (by decide) (by decide)) qa6 qc6 (g := (mkF m 54 #[vi p1, vi p2, vi p3, vi p4, vr u5, vi p3, vr u4, vi (1 : Int32), vu] [xi (0 : Int32), xr u4])) rfl (by rw [hml]; rfl) (Steps.refl _) (argsL := [xi (0 : Int32)]) (rest := []) (lenOf pd4 rfl) rfl (by show 2 * 0 + _ ≤ _; exact Nat.le_of_eq rfl) (hb hby at_54) (fun _ _ => ⟨rfl, e5, (by decide : 0 + 0 ≤ _), (by decide : 0 + 0 ≤ _)⟩)
  dsimp only [Pt.U, Pt.locs, Pt.cells, Pt.slots] at X6 l6 y6 z6 st6 hQ6
  subst l6 y6 z6
  obtain ⟨rfl, Nq6, e6⟩ := hQ6
  have N6 := Fr.app N5 Nq6
  obtain ⟨fs, hr, hrun, hended, hW, hsame⟩ := X6.leave (v := some (xi (1 : Int32))) (fun h => by rw [Bd.returns] at h; cases h)
  refine ⟨_, _, pre0 _ ?_, hrun, hended, _, _, rfl, ?_, ⟨_, rfl⟩, hW, hsame.mono (by decide) (by decide)⟩
  · show own_S p e below s₁ (mkF m 0 #[vi p1, vi p2, vi p3, vi p4, vu, vu, vu, vu, vu] []) _
    refine XS.iloadN X0.here hx rfl (hb hby at_0) rfl ?_
    show own_S p e below s₁ (mkF m 1 #[vi p1, vi p2, vi p3, vi p4, vu, vu, vu, vu, vu] [xi p1]) _
    refine st1 _ ?_
    show own_S p e below T1 (mkF m 4 #[vi p1, vi p2, vi p3, vi p4, vu, vu, vu, vu, vu] [xr u5]) _
    refine XS.astore X1.here hx rfl (hb hby at_4) rfl rfl (l' := #[vi p1, vi p2, vi p3, vi p4, vr u5, vu, vu, vu, vu]) rfl ?_
    show own_S p e below T1 (mkF m 6 #[vi p1, vi p2, vi p3, vi p4, vr u5, vu, vu, vu, vu] []) _
    refine XS.iloadN X1.here hx rfl (hb hby at_6) rfl ?_
    show own_S p e below T1 (mkF m 7 #[vi p1, vi p2, vi p3, vi p4, vr u5, vu, vu, vu, vu] [xi p4]) _
    refine XS.iconst X1.here hx rfl (hb hby at_7) ?_
    show own_S p e below T1 (mkF m 8 #[vi p1, vi p2, vi p3, vi p4, vr u5, vu, vu, vu, vu] [xi (1 : Int32), xi p4]) _
    refine XS.iand X1.here hx rfl (hb hby at_8) rfl ?_
    show own_S p e below T1 (mkF m 9 #[vi p1, vi p2, vi p3, vi p4, vr u5, vu, vu, vu, vu] [xi (p4 &&& (1 : Int32))]) _
    refine castTop (show (mkF m 9 #[vi p1, vi p2, vi p3, vi p4, vr u5, vu, vu, vu, vu] [xi (p4 &&& (1 : Int32))]) = (mkF m 9 #[vi p1, vi p2, vi p3, vi p4, vr u5, vu, vu, vu, vu] [xi (0 : Int32)]) from by rw [as14]) ?_
    show own_S p e below T1 (mkF m 9 #[vi p1, vi p2, vi p3, vi p4, vr u5, vu, vu, vu, vu] [xi (0 : Int32)]) _
    refine XS.ifYes X1.here hx rfl (pc0 := 9) (pc' := 16) rfl (hb hby at_9) rfl (by decide) (by decide) (by decide) ?_
    show own_S p e below T1 (mkF m 16 #[vi p1, vi p2, vi p3, vi p4, vr u5, vu, vu, vu, vu] []) _
    refine XS.iloadN X1.here hx rfl (hb hby at_16) rfl ?_
    show own_S p e below T1 (mkF m 17 #[vi p1, vi p2, vi p3, vi p4, vr u5, vu, vu, vu, vu] [xi p3]) _
    refine XS.istore X1.here hx rfl (hb hby at_17) rfl (l' := #[vi p1, vi p2, vi p3, vi p4, vr u5, vi p3, vu, vu, vu]) rfl ?_
    show own_S p e below T1 (mkF m 19 #[vi p1, vi p2, vi p3, vi p4, vr u5, vi p3, vu, vu, vu] []) _
    refine XS.aload X1.here hx rfl (hb hby at_19) rfl rfl ?_
    show own_S p e below T1 (mkF m 21 #[vi p1, vi p2, vi p3, vi p4, vr u5, vi p3, vu, vu, vu] [xr u5]) _
    refine st2.trans ?_
    show own_S p e below T2 (mkF m 24 #[vi p1, vi p2, vi p3, vi p4, vr u5, vi p3, vu, vu, vu] [xr u4]) _
    refine XS.astore X2.here hx rfl (hb hby at_24) rfl rfl (l' := #[vi p1, vi p2, vi p3, vi p4, vr u5, vi p3, vr u4, vu, vu]) rfl ?_
    show own_S p e below T2 (mkF m 26 #[vi p1, vi p2, vi p3, vi p4, vr u5, vi p3, vr u4, vu, vu] []) _
    refine XS.aload X2.here hx rfl (hb hby at_26) rfl rfl ?_
    show own_S p e below T2 (mkF m 28 #[vi p1, vi p2, vi p3, vi p4, vr u5, vi p3, vr u4, vu, vu] [xr u4]) _
    refine Jvm.Free.XT.nonnullYes X2.here hx rfl (pc0 := 28) (pc' := 33) rfl (hb hby at_28) rfl rfl (by simp) (by decide) (by decide) ?_
    show own_S p e below T2 (mkF m 33 #[vi p1, vi p2, vi p3, vi p4, vr u5, vi p3, vr u4, vu, vu] []) _
    refine XS.aload X2.here hx rfl (hb hby at_33) rfl rfl ?_
    show own_S p e below T2 (mkF m 35 #[vi p1, vi p2, vi p3, vi p4, vr u5, vi p3, vr u4, vu, vu] [xr u5]) _
    refine XS.iloadN X2.here hx rfl (hb hby at_35) rfl ?_
    show own_S p e below T2 (mkF m 36 #[vi p1, vi p2, vi p3, vi p4, vr u5, vi p3, vr u4, vu, vu] [xi p2, xr u5]) _
    refine XS.iload X2.here hx rfl (hb hby at_36) rfl ?_
    show own_S p e below T2 (mkF m 38 #[vi p1, vi p2, vi p3, vi p4, vr u5, vi p3, vr u4, vu, vu] [xi p3, xi p2, xr u5]) _
    refine st3 _ ?_
    show own_S p e below T3 (mkF m 41 #[vi p1, vi p2, vi p3, vi p4, vr u5, vi p3, vr u4, vu, vu] [xi (0 : Int32), xr u5]) _
    refine st4.trans ?_
    show own_S p e below T4 (mkF m 44 #[vi p1, vi p2, vi p3, vi p4, vr u5, vi p3, vr u4, vu, vu] [xi (1 : Int32)]) _
    refine XS.istore X4.here hx rfl (hb hby at_44) rfl (l' := #[vi p1, vi p2, vi p3, vi p4, vr u5, vi p3, vr u4, vi (1 : Int32), vu]) rfl ?_
    show own_S p e below T4 (mkF m 46 #[vi p1, vi p2, vi p3, vi p4, vr u5, vi p3, vr u4, vi (1 : Int32), vu] []) _
    refine XS.aload X4.here hx rfl (hb hby at_46) rfl rfl ?_
    show own_S p e below T4 (mkF m 48 #[vi p1, vi p2, vi p3, vi p4, vr u5, vi p3, vr u4, vi (1 : Int32), vu] [xr u4]) _
    refine XS.iload X4.here hx rfl (hb hby at_48) rfl ?_
    show own_S p e below T4 (mkF m 50 #[vi p1, vi p2, vi p3, vi p4, vr u5, vi p3, vr u4, vi (1 : Int32), vu] [xi p3, xr u4]) _
    refine XS.iloadN X4.here hx rfl (hb hby at_50) rfl ?_
    show own_S p e below T4 (mkF m 51 #[vi p1, vi p2, vi p3, vi p4, vr u5, vi p3, vr u4, vi (1 : Int32), vu] [xi p2, xi p3, xr u4]) _
    refine st5 _ ?_
    show own_S p e below T5 (mkF m 54 #[vi p1, vi p2, vi p3, vi p4, vr u5, vi p3, vr u4, vi (1 : Int32), vu] [xi (0 : Int32), xr u4]) _
    refine st6.trans ?_
    show own_S p e below T6 (mkF m 57 #[vi p1, vi p2, vi p3, vi p4, vr u5, vi p3, vr u4, vi (1 : Int32), vu] [xi (1 : Int32)]) _
    refine XS.istore X6.here hx rfl (hb hby at_57) rfl (l' := #[vi p1, vi p2, vi p3, vi p4, vr u5, vi p3, vr u4, vi (1 : Int32), vi (1 : Int32)]) rfl ?_
    show own_S p e below T6 (mkF m 59 #[vi p1, vi p2, vi p3, vi p4, vr u5, vi p3, vr u4, vi (1 : Int32), vi (1 : Int32)] []) _
    refine XS.iload X6.here hx rfl (hb hby at_59) rfl ?_
    show own_S p e below T6 (mkF m 61 #[vi p1, vi p2, vi p3, vi p4, vr u5, vi p3, vr u4, vi (1 : Int32), vi (1 : Int32)] [xi (1 : Int32)]) _
    refine XS.iload X6.here hx rfl (hb hby at_61) rfl ?_
    show own_S p e below T6 (mkF m 63 #[vi p1, vi p2, vi p3, vi p4, vr u5, vi p3, vr u4, vi (1 : Int32), vi (1 : Int32)] [xi (1 : Int32), xi (1 : Int32)]) _
    refine XS.icmpNo X6.here hx rfl (hb hby at_63) rfl (by decide) ?_
    show own_S p e below T6 (mkF m 66 #[vi p1, vi p2, vi p3, vi p4, vr u5, vi p3, vr u4, vi (1 : Int32), vi (1 : Int32)] []) _
    refine XS.iconst X6.here hx rfl (hb hby at_66) ?_
    show own_S p e below T6 (mkF m 67 #[vi p1, vi p2, vi p3, vi p4, vr u5, vi p3, vr u4, vi (1 : Int32), vi (1 : Int32)] [xi (1 : Int32)]) _
    refine XS.goto X6.here hx rfl (pc0 := 67) (pc' := 71) rfl (hb hby at_67) (by decide) (by decide) ?_
    show own_S p e below T6 (mkF m 71 #[vi p1, vi p2, vi p3, vi p4, vr u5, vi p3, vr u4, vi (1 : Int32), vi (1 : Int32)] [xi (1 : Int32)]) _
    exact retN X6 hx (t := .boolean) Bd.returns (by simp) (hb hby at_71) hr
  · exact ⟨rfl, N6⟩
theorem ef_own_l22 (m : MethodId) (u0 u1 u2 u3 u4 u5 : Addr) (p1 : Int32) (p2 : Int32) (p3 : Int32) (p4 : Int32) : entryFrame m #[xi p1, xi p2, xi p3, xi p4] maxLocals = (mkF m 0 #[vi p1, vi p2, vi p3, vi p4, vu, vu, vu, vu, vu] []) := by first | (simp [entryFrame, mkF, argsToLocals, Value.category, maxLocals]; done) | rfl
set_option maxRecDepth 65536 in
set_option maxHeartbeats 40000000 in
theorem own_l22 (l : Launch) (Z : State) (a0 : Array Value) (hw : ∀ d ∈ tables_1, d.before a0 Z = true) (u0 u1 u2 u3 u4 u5 : Addr) (G : own_St Z u0 u1 u2 u3 u4 u5) (p1 : Int32) (p2 : Int32) (p3 : Int32) (p4 : Int32) (as13 : ((p1 &&& (2147483647 : Int32)) - ((p1 &&& (2147483647 : Int32)) / (6 : Int32)) * (6 : Int32)) = (5 : Int32)) (as14 : (p4 &&& (1 : Int32)) = (0 : Int32)) (as3 : if_icmp.holds .ge p2 p3 = true) (as6 : if_icmp.holds .ne p2 p3 = true) (as7 : if_icmp.holds .ge p3 p2 = false) (h0 : Heap) (n0 : Nat) (O0 : Old Z n0 h0) : own_Met l Z x code maxLocals ret room_1 #[xi p1, xi p2, xi p3, xi p4] h0 (own_QL (some (xi (1 : Int32))) n0) := by
  intro ws
  refine MetFree.of_bodySF (plainFor_of_name pn0) hisR ?_
  intro p e s m args below meth c s₁ Bd hml0 hP hK
  obtain ⟨rfl, hZ, hh⟩ := hP
  have hx := Bd.exec
  have hby := Bd.bytes
  have hml : c.maxLocals = 9 := hml0
  have hown : s.vm.findClass "com/example/whyle/whyle/cfa/RelationConversePinLaw" = some m.cls := findClass_of_methodNamed Bd.named
  have hnm := (name_of_methodNamed Bd.named Bd.method).1
  have X0 : Stand p l e room_1 s m #[xi p1, xi p2, xi p3, xi p4] below meth c s₁ [] 0 0 := Stand.of_body Bd
  have e0 : s₁.heap = h0 := by rw [← hh, Bd.state]; rfl
  have N0 := Fr.nil n0
  have pre0 : ∀ t, Steps p.tables e below (s₁.setTop (mkF m 0 #[vi p1, vi p2, vi p3, vi p4, vu, vu, vu, vu, vu] [])) t → Steps p.tables e below (s₁.setTop (entryFrame m #[xi p1, xi p2, xi p3, xi p4] maxLocals)) t := fun t st => castTop (ef_own_l22 m u0 u1 u2 u3 u4 u5 p1 p2 p3 p4) st
  obtain ⟨_, _, ⟨T1, L1, k1, n1⟩, -, X1, ⟨Lc1, hQ1, l1, y1, z1⟩, st1⟩ := Jvm.LawKit.callS X0 hx (y := Y0) hown (mvT hZ (ww hw 0 rfl)) (mvT hZ (ww hw 1 rfl)) (mvT hZ (ww hw 2 rfl)) (mvT hZ (ww hw 3 rfl)) (by decide) (backOf (W := 0) (own_c41_pick l Z a0 hw u0 u1 u2 u3 u4 u5 G p1 as13 h0 n0 O0 []) hZ (ww hw 3 rfl) (ww hw 2 rfl) (by decide) (by decide)) (g := (mkF m 1 #[vi p1, vi p2, vi p3, vi p4, vu, vu, vu, vu, vu] [xi p1])) rfl (by rw [hml]; rfl) (argsL := [xi p1]) (rest := []) (lenOf pd0 rfl) rfl (by show 2 * 0 + _ ≤ _; exact Nat.le_of_eq rfl) (hb hby at_1) (fun _ _ => ⟨rfl, e0, (by decide : 0 + 0 ≤ _), (by decide : 0 + 0 ≤ _)⟩)
  dsimp only [Pt.U, Pt.locs, Pt.cells, Pt.slots] at X1 l1 y1 z1 st1 hQ1
  subst l1 y1 z1
  obtain ⟨rfl, Nq1, e1⟩ := hQ1
  have N1 := Fr.app N0 Nq1
  obtain ⟨cq2, kq2, qa2, qb2, qc2⟩ := isOf hZ e1 ((own_X_u5 G).ext O0.2)
  obtain ⟨_, _, ⟨T2, L2, k2, n2⟩, -, X2, ⟨Lc2, hQ2, l2, y2, z2⟩, st2⟩ := X1.virtualBack hx (y := Y3) (z := Y3) hown (mvT hZ (ww hw 8 rfl)) (mvT hZ (ww hw 9 rfl)) (notFace_of_selects (args := #[]) (mvT hZ (ww hw 11 rfl))) (mvT hZ (ww hw 11 rfl)) (mvT hZ (ww hw 10 rfl)) (by decide) (backOf (W := 0) (own_c42_converse l Z a0 hw u0 u1 u2 u3 u4 u5 G h0 n0 O0 []) hZ (ww hw 12 rfl) (ww hw 6 rfl) (by decide) (by decide)) qa2 qc2 (g := (mkF m 21 #[vi p1, vi p2, vi p3, vi p4, vr u5, vi p3, vu, vu, vu] [xr u5])) rfl (by rw [hml]; rfl) (Steps.refl _) (argsL := []) (rest := []) (lenOf pd2 rfl) rfl (by show 2 * 0 + _ ≤ _; exact Nat.le_of_eq rfl) (hb hby at_21) (fun _ _ => ⟨rfl, e1, (by decide : 0 + 0 ≤ _), (by decide : 0 + 0 ≤ _)⟩)
  dsimp only [Pt.U, Pt.locs, Pt.cells, Pt.slots] at X2 l2 y2 z2 st2 hQ2
  subst l2 y2 z2
  obtain ⟨rfl, Nq2, e2⟩ := hQ2
  have N2 := Fr.app N1 Nq2
  obtain ⟨_, _, ⟨T3, L3, k3, n3⟩, -, X3, ⟨Lc3, hQ3, l3, y3, z3⟩, st3⟩ := Jvm.LawKit.callS X2 hx (y := Y4) hown (mvT hZ (ww hw 23 rfl)) (mvT hZ (ww hw 24 rfl)) (mvT hZ (ww hw 2 rfl)) (mvT hZ (ww hw 25 rfl)) (by decide) (backOf (W := 1) (own_c10_sign l Z a0 hw u0 u1 u2 u3 u4 u5 G p2 p3 as3 as6 h0 n0 O0 []) hZ (ww hw 25 rfl) (ww hw 2 rfl) (by decide) (by decide)) (g := (mkF m 38 #[vi p1, vi p2, vi p3, vi p4, vr u5, vi p3, vr u4, vu, vu] [xi p3, xi p2, xr u5])) rfl (by rw [hml]; rfl) (argsL := [xi p2, xi p3]) (rest := [xr u5]) (lenOf pd3 rfl) rfl (by show 2 * 0 + _ ≤ _; exact Nat.le_of_eq rfl) (hb hby at_38) (fun _ _ => ⟨rfl, e2, (by decide : 0 + 0 ≤ _), (by decide : 0 + 0 ≤ _)⟩)
  dsimp only [Pt.U, Pt.locs, Pt.cells, Pt.slots] at X3 l3 y3 z3 st3 hQ3
  subst l3 y3 z3
  obtain ⟨rfl, Nq3, e3⟩ := hQ3
  have N3 := Fr.app N2 Nq3
  obtain ⟨cq4, kq4, qa4, qb4, qc4⟩ := isOf hZ e3 ((own_X_u5 G).ext O0.2)
  obtain ⟨_, _, ⟨T4, L4, k4, n4⟩, -, X4, ⟨Lc4, hQ4, l4, y4, z4⟩, st4⟩ := X3.virtualBack hx (y := Y5) (z := Y5) hown (mvT hZ (ww hw 26 rfl)) (mvT hZ (ww hw 27 rfl)) (notFace_of_selects (args := #[]) (mvT hZ (ww hw 29 rfl))) (mvT hZ (ww hw 29 rfl)) (mvT hZ (ww hw 28 rfl)) (by decide) (backOf (W := 0) (own_c33_holds l Z a0 hw u0 u1 u2 u3 u4 u5 G h0 n0 O0 []) hZ (ww hw 30 rfl) (ww hw 6 rfl) (by decide) (by decide)) qa4 qc4 (g := (mkF m 41 #[vi p1, vi p2, vi p3, vi p4, vr u5, vi p3, vr u4, vu, vu] [xi (1 : Int32), xr u5])) rfl (by rw [hml]; rfl) (Steps.refl _) (argsL := [xi (1 : Int32)]) (rest := []) (lenOf pd4 rfl) rfl (by show 2 * 0 + _ ≤ _; exact Nat.le_of_eq rfl) (hb hby at_41) (fun _ _ => ⟨rfl, e3, (by decide : 0 + 0 ≤ _), (by decide : 0 + 0 ≤ _)⟩)
  dsimp only [Pt.U, Pt.locs, Pt.cells, Pt.slots] at X4 l4 y4 z4 st4 hQ4
  subst l4 y4 z4
  obtain ⟨rfl, Nq4, e4⟩ := hQ4
  have N4 := Fr.app N3 Nq4
  obtain ⟨_, _, ⟨T5, L5, k5, n5⟩, -, X5, ⟨Lc5, hQ5, l5, y5, z5⟩, st5⟩ := Jvm.LawKit.callS X4 hx (y := Y4) hown (mvT hZ (ww hw 23 rfl)) (mvT hZ (ww hw 24 rfl)) (mvT hZ (ww hw 2 rfl)) (mvT hZ (ww hw 25 rfl)) (by decide) (backOf (W := 1) (own_c11_sign l Z a0 hw u0 u1 u2 u3 u4 u5 G p2 p3 as7 h0 n0 O0 []) hZ (ww hw 25 rfl) (ww hw 2 rfl) (by decide) (by decide)) (g := (mkF m 51 #[vi p1, vi p2, vi p3, vi p4, vr u5, vi p3, vr u4, vi (1 : Int32), vu] [xi p2, xi p3, xr u4])) rfl (by rw [hml]; rfl) (argsL := [xi p3, xi p2]) (rest := [xr u4]) (lenOf pd3 rfl) rfl (by show 2 * 0 + _ ≤ _; exact Nat.le_of_eq rfl) (hb hby at_51) (fun _ _ => ⟨rfl, e4, (by decide : 0 + 0 ≤ _), (by decide : 0 + 0 ≤ _)⟩)
  dsimp only [Pt.U, Pt.locs, Pt.cells, Pt.slots] at X5 l5 y5 z5 st5 hQ5
  subst l5 y5 z5
  obtain ⟨rfl, Nq5, e5⟩ := hQ5
  have N5 := Fr.app N4 Nq5
  obtain ⟨cq6, kq6, qa6, qb6, qc6⟩ := isOf hZ e5 ((own_X_u4 G).ext O0.2)
  obtain ⟨_, _, ⟨T6, L6, k6, n6⟩, -, X6, ⟨Lc6, hQ6, l6, y6, z6⟩, st6⟩ := X5.virtualBack hx (y := Y5) (z := Y5) hown (mvT hZ (ww hw 26 rfl)) (mvT hZ (ww hw 27 rfl)) (notFace_of_selects (args := #[]) (mvT hZ (ww hw 29 rfl))) (mvT hZ (ww hw 29 rfl)) (mvT hZ (ww hw 28 rfl)) (by decide) (backOf (W := 0) (own_c32_holds l Z a0 hw u0 u1 u2 u3 u4 u5 G h0 n0 O0 []) hZ (ww hw 30 rfl) (ww hw 6 rfl) (by decide) (by decide)) qa6 qc6 (g := (mkF m 54 #[vi p1, vi p2, vi p3, vi p4, vr u5, vi p3, vr u4, vi (1 : Int32), vu] [xi (-1 : Int32), xr u4])) rfl (by rw [hml]; rfl) (Steps.refl _) (argsL := [xi (-1 : Int32)]) (rest := []) (lenOf pd4 rfl) rfl (by show 2 * 0 + _ ≤ _; exact Nat.le_of_eq rfl) (hb hby at_54) (fun _ _ => ⟨rfl, e5, (by decide : 0 + 0 ≤ _), (by decide : 0 + 0 ≤ _)⟩)
  dsimp only [Pt.U, Pt.locs, Pt.cells, Pt.slots] at X6 l6 y6 z6 st6 hQ6
  subst l6 y6 z6
  obtain ⟨rfl, Nq6, e6⟩ := hQ6
  have N6 := Fr.app N5 Nq6
  obtain ⟨fs, hr, hrun, hended, hW, hsame⟩ := X6.leave (v := some (xi (1 : Int32))) (fun h => by rw [Bd.returns] at h; cases h)
  refine ⟨_, _, pre0 _ ?_, hrun, hended, _, _, rfl, ?_, ⟨_, rfl⟩, hW, hsame.mono (by decide) (by decide)⟩
  · show own_S p e below s₁ (mkF m 0 #[vi p1, vi p2, vi p3, vi p4, vu, vu, vu, vu, vu] []) _
    refine XS.iloadN X0.here hx rfl (hb hby at_0) rfl ?_
    show own_S p e below s₁ (mkF m 1 #[vi p1, vi p2, vi p3, vi p4, vu, vu, vu, vu, vu] [xi p1]) _
    refine st1 _ ?_
    show own_S p e below T1 (mkF m 4 #[vi p1, vi p2, vi p3, vi p4, vu, vu, vu, vu, vu] [xr u5]) _
    refine XS.astore X1.here hx rfl (hb hby at_4) rfl rfl (l' := #[vi p1, vi p2, vi p3, vi p4, vr u5, vu, vu, vu, vu]) rfl ?_
    show own_S p e below T1 (mkF m 6 #[vi p1, vi p2, vi p3, vi p4, vr u5, vu, vu, vu, vu] []) _
    refine XS.iloadN X1.here hx rfl (hb hby at_6) rfl ?_
    show own_S p e below T1 (mkF m 7 #[vi p1, vi p2, vi p3, vi p4, vr u5, vu, vu, vu, vu] [xi p4]) _
    refine XS.iconst X1.here hx rfl (hb hby at_7) ?_
    show own_S p e below T1 (mkF m 8 #[vi p1, vi p2, vi p3, vi p4, vr u5, vu, vu, vu, vu] [xi (1 : Int32), xi p4]) _
    refine XS.iand X1.here hx rfl (hb hby at_8) rfl ?_
    show own_S p e below T1 (mkF m 9 #[vi p1, vi p2, vi p3, vi p4, vr u5, vu, vu, vu, vu] [xi (p4 &&& (1 : Int32))]) _
    refine castTop (show (mkF m 9 #[vi p1, vi p2, vi p3, vi p4, vr u5, vu, vu, vu, vu] [xi (p4 &&& (1 : Int32))]) = (mkF m 9 #[vi p1, vi p2, vi p3, vi p4, vr u5, vu, vu, vu, vu] [xi (0 : Int32)]) from by rw [as14]) ?_
    show own_S p e below T1 (mkF m 9 #[vi p1, vi p2, vi p3, vi p4, vr u5, vu, vu, vu, vu] [xi (0 : Int32)]) _
    refine XS.ifYes X1.here hx rfl (pc0 := 9) (pc' := 16) rfl (hb hby at_9) rfl (by decide) (by decide) (by decide) ?_
    show own_S p e below T1 (mkF m 16 #[vi p1, vi p2, vi p3, vi p4, vr u5, vu, vu, vu, vu] []) _
    refine XS.iloadN X1.here hx rfl (hb hby at_16) rfl ?_
    show own_S p e below T1 (mkF m 17 #[vi p1, vi p2, vi p3, vi p4, vr u5, vu, vu, vu, vu] [xi p3]) _
    refine XS.istore X1.here hx rfl (hb hby at_17) rfl (l' := #[vi p1, vi p2, vi p3, vi p4, vr u5, vi p3, vu, vu, vu]) rfl ?_
    show own_S p e below T1 (mkF m 19 #[vi p1, vi p2, vi p3, vi p4, vr u5, vi p3, vu, vu, vu] []) _
    refine XS.aload X1.here hx rfl (hb hby at_19) rfl rfl ?_
    show own_S p e below T1 (mkF m 21 #[vi p1, vi p2, vi p3, vi p4, vr u5, vi p3, vu, vu, vu] [xr u5]) _
    refine st2.trans ?_
    show own_S p e below T2 (mkF m 24 #[vi p1, vi p2, vi p3, vi p4, vr u5, vi p3, vu, vu, vu] [xr u4]) _
    refine XS.astore X2.here hx rfl (hb hby at_24) rfl rfl (l' := #[vi p1, vi p2, vi p3, vi p4, vr u5, vi p3, vr u4, vu, vu]) rfl ?_
    show own_S p e below T2 (mkF m 26 #[vi p1, vi p2, vi p3, vi p4, vr u5, vi p3, vr u4, vu, vu] []) _
    refine XS.aload X2.here hx rfl (hb hby at_26) rfl rfl ?_
    show own_S p e below T2 (mkF m 28 #[vi p1, vi p2, vi p3, vi p4, vr u5, vi p3, vr u4, vu, vu] [xr u4]) _
    refine Jvm.Free.XT.nonnullYes X2.here hx rfl (pc0 := 28) (pc' := 33) rfl (hb hby at_28) rfl rfl (by simp) (by decide) (by decide) ?_
    show own_S p e below T2 (mkF m 33 #[vi p1, vi p2, vi p3, vi p4, vr u5, vi p3, vr u4, vu, vu] []) _
    refine XS.aload X2.here hx rfl (hb hby at_33) rfl rfl ?_
    show own_S p e below T2 (mkF m 35 #[vi p1, vi p2, vi p3, vi p4, vr u5, vi p3, vr u4, vu, vu] [xr u5]) _
    refine XS.iloadN X2.here hx rfl (hb hby at_35) rfl ?_
    show own_S p e below T2 (mkF m 36 #[vi p1, vi p2, vi p3, vi p4, vr u5, vi p3, vr u4, vu, vu] [xi p2, xr u5]) _
    refine XS.iload X2.here hx rfl (hb hby at_36) rfl ?_
    show own_S p e below T2 (mkF m 38 #[vi p1, vi p2, vi p3, vi p4, vr u5, vi p3, vr u4, vu, vu] [xi p3, xi p2, xr u5]) _
    refine st3 _ ?_
    show own_S p e below T3 (mkF m 41 #[vi p1, vi p2, vi p3, vi p4, vr u5, vi p3, vr u4, vu, vu] [xi (1 : Int32), xr u5]) _
    refine st4.trans ?_
    show own_S p e below T4 (mkF m 44 #[vi p1, vi p2, vi p3, vi p4, vr u5, vi p3, vr u4, vu, vu] [xi (1 : Int32)]) _
    refine XS.istore X4.here hx rfl (hb hby at_44) rfl (l' := #[vi p1, vi p2, vi p3, vi p4, vr u5, vi p3, vr u4, vi (1 : Int32), vu]) rfl ?_
    show own_S p e below T4 (mkF m 46 #[vi p1, vi p2, vi p3, vi p4, vr u5, vi p3, vr u4, vi (1 : Int32), vu] []) _
    refine XS.aload X4.here hx rfl (hb hby at_46) rfl rfl ?_
    show own_S p e below T4 (mkF m 48 #[vi p1, vi p2, vi p3, vi p4, vr u5, vi p3, vr u4, vi (1 : Int32), vu] [xr u4]) _
    refine XS.iload X4.here hx rfl (hb hby at_48) rfl ?_
    show own_S p e below T4 (mkF m 50 #[vi p1, vi p2, vi p3, vi p4, vr u5, vi p3, vr u4, vi (1 : Int32), vu] [xi p3, xr u4]) _
    refine XS.iloadN X4.here hx rfl (hb hby at_50) rfl ?_
    show own_S p e below T4 (mkF m 51 #[vi p1, vi p2, vi p3, vi p4, vr u5, vi p3, vr u4, vi (1 : Int32), vu] [xi p2, xi p3, xr u4]) _
    refine st5 _ ?_
    show own_S p e below T5 (mkF m 54 #[vi p1, vi p2, vi p3, vi p4, vr u5, vi p3, vr u4, vi (1 : Int32), vu] [xi (-1 : Int32), xr u4]) _
    refine st6.trans ?_
    show own_S p e below T6 (mkF m 57 #[vi p1, vi p2, vi p3, vi p4, vr u5, vi p3, vr u4, vi (1 : Int32), vu] [xi (1 : Int32)]) _
    refine XS.istore X6.here hx rfl (hb hby at_57) rfl (l' := #[vi p1, vi p2, vi p3, vi p4, vr u5, vi p3, vr u4, vi (1 : Int32), vi (1 : Int32)]) rfl ?_
    show own_S p e below T6 (mkF m 59 #[vi p1, vi p2, vi p3, vi p4, vr u5, vi p3, vr u4, vi (1 : Int32), vi (1 : Int32)] []) _
    refine XS.iload X6.here hx rfl (hb hby at_59) rfl ?_
    show own_S p e below T6 (mkF m 61 #[vi p1, vi p2, vi p3, vi p4, vr u5, vi p3, vr u4, vi (1 : Int32), vi (1 : Int32)] [xi (1 : Int32)]) _
    refine XS.iload X6.here hx rfl (hb hby at_61) rfl ?_
    show own_S p e below T6 (mkF m 63 #[vi p1, vi p2, vi p3, vi p4, vr u5, vi p3, vr u4, vi (1 : Int32), vi (1 : Int32)] [xi (1 : Int32), xi (1 : Int32)]) _
    refine XS.icmpNo X6.here hx rfl (hb hby at_63) rfl (by decide) ?_
    show own_S p e below T6 (mkF m 66 #[vi p1, vi p2, vi p3, vi p4, vr u5, vi p3, vr u4, vi (1 : Int32), vi (1 : Int32)] []) _
    refine XS.iconst X6.here hx rfl (hb hby at_66) ?_
    show own_S p e below T6 (mkF m 67 #[vi p1, vi p2, vi p3, vi p4, vr u5, vi p3, vr u4, vi (1 : Int32), vi (1 : Int32)] [xi (1 : Int32)]) _
    refine XS.goto X6.here hx rfl (pc0 := 67) (pc' := 71) rfl (hb hby at_67) (by decide) (by decide) ?_
    show own_S p e below T6 (mkF m 71 #[vi p1, vi p2, vi p3, vi p4, vr u5, vi p3, vr u4, vi (1 : Int32), vi (1 : Int32)] [xi (1 : Int32)]) _
    exact retN X6 hx (t := .boolean) Bd.returns (by simp) (hb hby at_71) hr
  · exact ⟨rfl, N6⟩
theorem ef_own_l23 (m : MethodId) (u0 u1 u2 u3 u4 u5 : Addr) (p1 : Int32) (p2 : Int32) (p3 : Int32) (p4 : Int32) : entryFrame m #[xi p1, xi p2, xi p3, xi p4] maxLocals = (mkF m 0 #[vi p1, vi p2, vi p3, vi p4, vu, vu, vu, vu, vu] []) := by first | (simp [entryFrame, mkF, argsToLocals, Value.category, maxLocals]; done) | rfl
set_option maxRecDepth 65536 in
set_option maxHeartbeats 40000000 in
theorem own_l23 (l : Launch) (Z : State) (a0 : Array Value) (hw : ∀ d ∈ tables_1, d.before a0 Z = true) (u0 u1 u2 u3 u4 u5 : Addr) (G : own_St Z u0 u1 u2 u3 u4 u5) (p1 : Int32) (p2 : Int32) (p3 : Int32) (p4 : Int32) (as13 : ((p1 &&& (2147483647 : Int32)) - ((p1 &&& (2147483647 : Int32)) / (6 : Int32)) * (6 : Int32)) = (5 : Int32)) (as15 : (p4 &&& (1 : Int32)) = (1 : Int32)) (h0 : Heap) (n0 : Nat) (O0 : Old Z n0 h0) : own_Met l Z x code maxLocals ret room_1 #[xi p1, xi p2, xi p3, xi p4] h0 (own_QL (some (xi (1 : Int32))) n0) := by
  intro ws
  refine MetFree.of_bodySF (plainFor_of_name pn0) hisR ?_
  intro p e s m args below meth c s₁ Bd hml0 hP hK
  obtain ⟨rfl, hZ, hh⟩ := hP
  have hx := Bd.exec
  have hby := Bd.bytes
  have hml : c.maxLocals = 9 := hml0
  have hown : s.vm.findClass "com/example/whyle/whyle/cfa/RelationConversePinLaw" = some m.cls := findClass_of_methodNamed Bd.named
  have hnm := (name_of_methodNamed Bd.named Bd.method).1
  have X0 : Stand p l e room_1 s m #[xi p1, xi p2, xi p3, xi p4] below meth c s₁ [] 0 0 := Stand.of_body Bd
  have e0 : s₁.heap = h0 := by rw [← hh, Bd.state]; rfl
  have N0 := Fr.nil n0
  have pre0 : ∀ t, Steps p.tables e below (s₁.setTop (mkF m 0 #[vi p1, vi p2, vi p3, vi p4, vu, vu, vu, vu, vu] [])) t → Steps p.tables e below (s₁.setTop (entryFrame m #[xi p1, xi p2, xi p3, xi p4] maxLocals)) t := fun t st => castTop (ef_own_l23 m u0 u1 u2 u3 u4 u5 p1 p2 p3 p4) st
  obtain ⟨_, _, ⟨T1, L1, k1, n1⟩, -, X1, ⟨Lc1, hQ1, l1, y1, z1⟩, st1⟩ := Jvm.LawKit.callS X0 hx (y := Y0) hown (mvT hZ (ww hw 0 rfl)) (mvT hZ (ww hw 1 rfl)) (mvT hZ (ww hw 2 rfl)) (mvT hZ (ww hw 3 rfl)) (by decide) (backOf (W := 0) (own_c41_pick l Z a0 hw u0 u1 u2 u3 u4 u5 G p1 as13 h0 n0 O0 []) hZ (ww hw 3 rfl) (ww hw 2 rfl) (by decide) (by decide)) (g := (mkF m 1 #[vi p1, vi p2, vi p3, vi p4, vu, vu, vu, vu, vu] [xi p1])) rfl (by rw [hml]; rfl) (argsL := [xi p1]) (rest := []) (lenOf pd0 rfl) rfl (by show 2 * 0 + _ ≤ _; exact Nat.le_of_eq rfl) (hb hby at_1) (fun _ _ => ⟨rfl, e0, (by decide : 0 + 0 ≤ _), (by decide : 0 + 0 ≤ _)⟩)
  dsimp only [Pt.U, Pt.locs, Pt.cells, Pt.slots] at X1 l1 y1 z1 st1 hQ1
  subst l1 y1 z1
  obtain ⟨rfl, Nq1, e1⟩ := hQ1
  have N1 := Fr.app N0 Nq1
  obtain ⟨cq2, kq2, qa2, qb2, qc2⟩ := isOf hZ e1 ((own_X_u5 G).ext O0.2)
  obtain ⟨_, _, ⟨T2, L2, k2, n2⟩, -, X2, ⟨Lc2, hQ2, l2, y2, z2⟩, st2⟩ := X1.virtualBack hx (y := Y3) (z := Y3) hown (mvT hZ (ww hw 8 rfl)) (mvT hZ (ww hw 9 rfl)) (notFace_of_selects (args := #[]) (mvT hZ (ww hw 11 rfl))) (mvT hZ (ww hw 11 rfl)) (mvT hZ (ww hw 10 rfl)) (by decide) (backOf (W := 0) (own_c42_converse l Z a0 hw u0 u1 u2 u3 u4 u5 G h0 n0 O0 []) hZ (ww hw 12 rfl) (ww hw 6 rfl) (by decide) (by decide)) qa2 qc2 (g := (mkF m 21 #[vi p1, vi p2, vi p3, vi p4, vr u5, vi p2, vu, vu, vu] [xr u5])) rfl (by rw [hml]; rfl) (Steps.refl _) (argsL := []) (rest := []) (lenOf pd2 rfl) rfl (by show 2 * 0 + _ ≤ _; exact Nat.le_of_eq rfl) (hb hby at_21) (fun _ _ => ⟨rfl, e1, (by decide : 0 + 0 ≤ _), (by decide : 0 + 0 ≤ _)⟩)
  dsimp only [Pt.U, Pt.locs, Pt.cells, Pt.slots] at X2 l2 y2 z2 st2 hQ2
  subst l2 y2 z2
  obtain ⟨rfl, Nq2, e2⟩ := hQ2
  have N2 := Fr.app N1 Nq2
  obtain ⟨_, _, ⟨T3, L3, k3, n3⟩, -, X3, ⟨Lc3, hQ3, l3, y3, z3⟩, st3⟩ := Jvm.LawKit.callS X2 hx (y := Y4) hown (mvT hZ (ww hw 23 rfl)) (mvT hZ (ww hw 24 rfl)) (mvT hZ (ww hw 2 rfl)) (mvT hZ (ww hw 25 rfl)) (by decide) (backOf (W := 1) (own_c12_sign l Z a0 hw u0 u1 u2 u3 u4 u5 G p2 h0 n0 O0 []) hZ (ww hw 25 rfl) (ww hw 2 rfl) (by decide) (by decide)) (g := (mkF m 38 #[vi p1, vi p2, vi p3, vi p4, vr u5, vi p2, vr u4, vu, vu] [xi p2, xi p2, xr u5])) rfl (by rw [hml]; rfl) (argsL := [xi p2, xi p2]) (rest := [xr u5]) (lenOf pd3 rfl) rfl (by show 2 * 0 + _ ≤ _; exact Nat.le_of_eq rfl) (hb hby at_38) (fun _ _ => ⟨rfl, e2, (by decide : 0 + 0 ≤ _), (by decide : 0 + 0 ≤ _)⟩)
  dsimp only [Pt.U, Pt.locs, Pt.cells, Pt.slots] at X3 l3 y3 z3 st3 hQ3
  subst l3 y3 z3
  obtain ⟨rfl, Nq3, e3⟩ := hQ3
  have N3 := Fr.app N2 Nq3
  obtain ⟨cq4, kq4, qa4, qb4, qc4⟩ := isOf hZ e3 ((own_X_u5 G).ext O0.2)
  obtain ⟨_, _, ⟨T4, L4, k4, n4⟩, -, X4, ⟨Lc4, hQ4, l4, y4, z4⟩, st4⟩ := X3.virtualBack hx (y := Y5) (z := Y5) hown (mvT hZ (ww hw 26 rfl)) (mvT hZ (ww hw 27 rfl)) (notFace_of_selects (args := #[]) (mvT hZ (ww hw 29 rfl))) (mvT hZ (ww hw 29 rfl)) (mvT hZ (ww hw 28 rfl)) (by decide) (backOf (W := 0) (own_c36_holds l Z a0 hw u0 u1 u2 u3 u4 u5 G h0 n0 O0 []) hZ (ww hw 30 rfl) (ww hw 6 rfl) (by decide) (by decide)) qa4 qc4 (g := (mkF m 41 #[vi p1, vi p2, vi p3, vi p4, vr u5, vi p2, vr u4, vu, vu] [xi (0 : Int32), xr u5])) rfl (by rw [hml]; rfl) (Steps.refl _) (argsL := [xi (0 : Int32)]) (rest := []) (lenOf pd4 rfl) rfl (by show 2 * 0 + _ ≤ _; exact Nat.le_of_eq rfl) (hb hby at_41) (fun _ _ => ⟨rfl, e3, (by decide : 0 + 0 ≤ _), (by decide : 0 + 0 ≤ _)⟩)
  dsimp only [Pt.U, Pt.locs, Pt.cells, Pt.slots] at X4 l4 y4 z4 st4 hQ4
  subst l4 y4 z4
  obtain ⟨rfl, Nq4, e4⟩ := hQ4
  have N4 := Fr.app N3 Nq4
  obtain ⟨_, _, ⟨T5, L5, k5, n5⟩, -, X5, ⟨Lc5, hQ5, l5, y5, z5⟩, st5⟩ := Jvm.LawKit.callS X4 hx (y := Y4) hown (mvT hZ (ww hw 23 rfl)) (mvT hZ (ww hw 24 rfl)) (mvT hZ (ww hw 2 rfl)) (mvT hZ (ww hw 25 rfl)) (by decide) (backOf (W := 1) (own_c12_sign l Z a0 hw u0 u1 u2 u3 u4 u5 G p2 h0 n0 O0 []) hZ (ww hw 25 rfl) (ww hw 2 rfl) (by decide) (by decide)) (g := (mkF m 51 #[vi p1, vi p2, vi p3, vi p4, vr u5, vi p2, vr u4, vi (1 : Int32), vu] [xi p2, xi p2, xr u4])) rfl (by rw [hml]; rfl) (argsL := [xi p2, xi p2]) (rest := [xr u4]) (lenOf pd3 rfl) rfl (by show 2 * 0 + _ ≤ _; exact Nat.le_of_eq rfl) (hb hby at_51) (fun _ _ => ⟨rfl, e4, (by decide : 0 + 0 ≤ _), (by decide : 0 + 0 ≤ _)⟩)
  dsimp only [Pt.U, Pt.locs, Pt.cells, Pt.slots] at X5 l5 y5 z5 st5 hQ5
  subst l5 y5 z5
  obtain ⟨rfl, Nq5, e5⟩ := hQ5
  have N5 := Fr.app N4 Nq5
  obtain ⟨cq6, kq6, qa6, qb6, qc6⟩ := isOf hZ e5 ((own_X_u4 G).ext O0.2)
  obtain ⟨_, _, ⟨T6, L6, k6, n6⟩, -, X6, ⟨Lc6, hQ6, l6, y6, z6⟩, st6⟩ := X5.virtualBack hx (y := Y5) (z := Y5) hown (mvT hZ (ww hw 26 rfl)) (mvT hZ (ww hw 27 rfl)) (notFace_of_selects (args := #[]) (mvT hZ (ww hw 29 rfl))) (mvT hZ (ww hw 29 rfl)) (mvT hZ (ww hw 28 rfl)) (by decide) (backOf (W := 0) (own_c35_holds l Z a0 hw u0 u1 u2 u3 u4 u5 G h0 n0 O0 []) hZ (ww hw 30 rfl) (ww hw 6 rfl) (by decide) (by decide)) qa6 qc6 (g := (mkF m 54 #[vi p1, vi p2, vi p3, vi p4, vr u5, vi p2, vr u4, vi (1 : Int32), vu] [xi (0 : Int32), xr u4])) rfl (by rw [hml]; rfl) (Steps.refl _) (argsL := [xi (0 : Int32)]) (rest := []) (lenOf pd4 rfl) rfl (by show 2 * 0 + _ ≤ _; exact Nat.le_of_eq rfl) (hb hby at_54) (fun _ _ => ⟨rfl, e5, (by decide : 0 + 0 ≤ _), (by decide : 0 + 0 ≤ _)⟩)
  dsimp only [Pt.U, Pt.locs, Pt.cells, Pt.slots] at X6 l6 y6 z6 st6 hQ6
  subst l6 y6 z6
  obtain ⟨rfl, Nq6, e6⟩ := hQ6
  have N6 := Fr.app N5 Nq6
  obtain ⟨fs, hr, hrun, hended, hW, hsame⟩ := X6.leave (v := some (xi (1 : Int32))) (fun h => by rw [Bd.returns] at h; cases h)
  refine ⟨_, _, pre0 _ ?_, hrun, hended, _, _, rfl, ?_, ⟨_, rfl⟩, hW, hsame.mono (by decide) (by decide)⟩
  · show own_S p e below s₁ (mkF m 0 #[vi p1, vi p2, vi p3, vi p4, vu, vu, vu, vu, vu] []) _
    refine XS.iloadN X0.here hx rfl (hb hby at_0) rfl ?_
    show own_S p e below s₁ (mkF m 1 #[vi p1, vi p2, vi p3, vi p4, vu, vu, vu, vu, vu] [xi p1]) _
    refine st1 _ ?_
    show own_S p e below T1 (mkF m 4 #[vi p1, vi p2, vi p3, vi p4, vu, vu, vu, vu, vu] [xr u5]) _
    refine XS.astore X1.here hx rfl (hb hby at_4) rfl rfl (l' := #[vi p1, vi p2, vi p3, vi p4, vr u5, vu, vu, vu, vu]) rfl ?_
    show own_S p e below T1 (mkF m 6 #[vi p1, vi p2, vi p3, vi p4, vr u5, vu, vu, vu, vu] []) _
    refine XS.iloadN X1.here hx rfl (hb hby at_6) rfl ?_
    show own_S p e below T1 (mkF m 7 #[vi p1, vi p2, vi p3, vi p4, vr u5, vu, vu, vu, vu] [xi p4]) _
    refine XS.iconst X1.here hx rfl (hb hby at_7) ?_
    show own_S p e below T1 (mkF m 8 #[vi p1, vi p2, vi p3, vi p4, vr u5, vu, vu, vu, vu] [xi (1 : Int32), xi p4]) _
    refine XS.iand X1.here hx rfl (hb hby at_8) rfl ?_
    show own_S p e below T1 (mkF m 9 #[vi p1, vi p2, vi p3, vi p4, vr u5, vu, vu, vu, vu] [xi (p4 &&& (1 : Int32))]) _
    refine castTop (show (mkF m 9 #[vi p1, vi p2, vi p3, vi p4, vr u5, vu, vu, vu, vu] [xi (p4 &&& (1 : Int32))]) = (mkF m 9 #[vi p1, vi p2, vi p3, vi p4, vr u5, vu, vu, vu, vu] [xi (1 : Int32)]) from by rw [as15]) ?_
    show own_S p e below T1 (mkF m 9 #[vi p1, vi p2, vi p3, vi p4, vr u5, vu, vu, vu, vu] [xi (1 : Int32)]) _
    refine XS.ifNo X1.here hx rfl (hb hby at_9) rfl (by decide) ?_
    show own_S p e below T1 (mkF m 12 #[vi p1, vi p2, vi p3, vi p4, vr u5, vu, vu, vu, vu] []) _
    refine XS.iloadN X1.here hx rfl (hb hby at_12) rfl ?_
    show own_S p e below T1 (mkF m 13 #[vi p1, vi p2, vi p3, vi p4, vr u5, vu, vu, vu, vu] [xi p2]) _
    refine XS.goto X1.here hx rfl (pc0 := 13) (pc' := 17) rfl (hb hby at_13) (by decide) (by decide) ?_
    show own_S p e below T1 (mkF m 17 #[vi p1, vi p2, vi p3, vi p4, vr u5, vu, vu, vu, vu] [xi p2]) _
    refine XS.istore X1.here hx rfl (hb hby at_17) rfl (l' := #[vi p1, vi p2, vi p3, vi p4, vr u5, vi p2, vu, vu, vu]) rfl ?_
    show own_S p e below T1 (mkF m 19 #[vi p1, vi p2, vi p3, vi p4, vr u5, vi p2, vu, vu, vu] []) _
    refine XS.aload X1.here hx rfl (hb hby at_19) rfl rfl ?_
    show own_S p e below T1 (mkF m 21 #[vi p1, vi p2, vi p3, vi p4, vr u5, vi p2, vu, vu, vu] [xr u5]) _
    refine st2.trans ?_
    show own_S p e below T2 (mkF m 24 #[vi p1, vi p2, vi p3, vi p4, vr u5, vi p2, vu, vu, vu] [xr u4]) _
    refine XS.astore X2.here hx rfl (hb hby at_24) rfl rfl (l' := #[vi p1, vi p2, vi p3, vi p4, vr u5, vi p2, vr u4, vu, vu]) rfl ?_
    show own_S p e below T2 (mkF m 26 #[vi p1, vi p2, vi p3, vi p4, vr u5, vi p2, vr u4, vu, vu] []) _
    refine XS.aload X2.here hx rfl (hb hby at_26) rfl rfl ?_
    show own_S p e below T2 (mkF m 28 #[vi p1, vi p2, vi p3, vi p4, vr u5, vi p2, vr u4, vu, vu] [xr u4]) _
    refine Jvm.Free.XT.nonnullYes X2.here hx rfl (pc0 := 28) (pc' := 33) rfl (hb hby at_28) rfl rfl (by simp) (by decide) (by decide) ?_
    show own_S p e below T2 (mkF m 33 #[vi p1, vi p2, vi p3, vi p4, vr u5, vi p2, vr u4, vu, vu] []) _
    refine XS.aload X2.here hx rfl (hb hby at_33) rfl rfl ?_
    show own_S p e below T2 (mkF m 35 #[vi p1, vi p2, vi p3, vi p4, vr u5, vi p2, vr u4, vu, vu] [xr u5]) _
    refine XS.iloadN X2.here hx rfl (hb hby at_35) rfl ?_
    show own_S p e below T2 (mkF m 36 #[vi p1, vi p2, vi p3, vi p4, vr u5, vi p2, vr u4, vu, vu] [xi p2, xr u5]) _
    refine XS.iload X2.here hx rfl (hb hby at_36) rfl ?_
    show own_S p e below T2 (mkF m 38 #[vi p1, vi p2, vi p3, vi p4, vr u5, vi p2, vr u4, vu, vu] [xi p2, xi p2, xr u5]) _
    refine st3 _ ?_
    show own_S p e below T3 (mkF m 41 #[vi p1, vi p2, vi p3, vi p4, vr u5, vi p2, vr u4, vu, vu] [xi (0 : Int32), xr u5]) _
    refine st4.trans ?_
    show own_S p e below T4 (mkF m 44 #[vi p1, vi p2, vi p3, vi p4, vr u5, vi p2, vr u4, vu, vu] [xi (1 : Int32)]) _
    refine XS.istore X4.here hx rfl (hb hby at_44) rfl (l' := #[vi p1, vi p2, vi p3, vi p4, vr u5, vi p2, vr u4, vi (1 : Int32), vu]) rfl ?_
    show own_S p e below T4 (mkF m 46 #[vi p1, vi p2, vi p3, vi p4, vr u5, vi p2, vr u4, vi (1 : Int32), vu] []) _
    refine XS.aload X4.here hx rfl (hb hby at_46) rfl rfl ?_
    show own_S p e below T4 (mkF m 48 #[vi p1, vi p2, vi p3, vi p4, vr u5, vi p2, vr u4, vi (1 : Int32), vu] [xr u4]) _
    refine XS.iload X4.here hx rfl (hb hby at_48) rfl ?_
    show own_S p e below T4 (mkF m 50 #[vi p1, vi p2, vi p3, vi p4, vr u5, vi p2, vr u4, vi (1 : Int32), vu] [xi p2, xr u4]) _
    refine XS.iloadN X4.here hx rfl (hb hby at_50) rfl ?_
    show own_S p e below T4 (mkF m 51 #[vi p1, vi p2, vi p3, vi p4, vr u5, vi p2, vr u4, vi (1 : Int32), vu] [xi p2, xi p2, xr u4]) _
    refine st5 _ ?_
    show own_S p e below T5 (mkF m 54 #[vi p1, vi p2, vi p3, vi p4, vr u5, vi p2, vr u4, vi (1 : Int32), vu] [xi (0 : Int32), xr u4]) _
    refine st6.trans ?_
    show own_S p e below T6 (mkF m 57 #[vi p1, vi p2, vi p3, vi p4, vr u5, vi p2, vr u4, vi (1 : Int32), vu] [xi (1 : Int32)]) _
    refine XS.istore X6.here hx rfl (hb hby at_57) rfl (l' := #[vi p1, vi p2, vi p3, vi p4, vr u5, vi p2, vr u4, vi (1 : Int32), vi (1 : Int32)]) rfl ?_
    show own_S p e below T6 (mkF m 59 #[vi p1, vi p2, vi p3, vi p4, vr u5, vi p2, vr u4, vi (1 : Int32), vi (1 : Int32)] []) _
    refine XS.iload X6.here hx rfl (hb hby at_59) rfl ?_
    show own_S p e below T6 (mkF m 61 #[vi p1, vi p2, vi p3, vi p4, vr u5, vi p2, vr u4, vi (1 : Int32), vi (1 : Int32)] [xi (1 : Int32)]) _
    refine XS.iload X6.here hx rfl (hb hby at_61) rfl ?_
    show own_S p e below T6 (mkF m 63 #[vi p1, vi p2, vi p3, vi p4, vr u5, vi p2, vr u4, vi (1 : Int32), vi (1 : Int32)] [xi (1 : Int32), xi (1 : Int32)]) _
    refine XS.icmpNo X6.here hx rfl (hb hby at_63) rfl (by decide) ?_
    show own_S p e below T6 (mkF m 66 #[vi p1, vi p2, vi p3, vi p4, vr u5, vi p2, vr u4, vi (1 : Int32), vi (1 : Int32)] []) _
    refine XS.iconst X6.here hx rfl (hb hby at_66) ?_
    show own_S p e below T6 (mkF m 67 #[vi p1, vi p2, vi p3, vi p4, vr u5, vi p2, vr u4, vi (1 : Int32), vi (1 : Int32)] [xi (1 : Int32)]) _
    refine XS.goto X6.here hx rfl (pc0 := 67) (pc' := 71) rfl (hb hby at_67) (by decide) (by decide) ?_
    show own_S p e below T6 (mkF m 71 #[vi p1, vi p2, vi p3, vi p4, vr u5, vi p2, vr u4, vi (1 : Int32), vi (1 : Int32)] [xi (1 : Int32)]) _
    exact retN X6 hx (t := .boolean) Bd.returns (by simp) (hb hby at_71) hr
  · exact ⟨rfl, N6⟩
theorem own_law (l : Launch) (Z : State) (a0 : Array Value) (hw : ∀ d ∈ tables_1, d.before a0 Z = true) (u0 u1 u2 u3 u4 u5 : Addr) (G : own_St Z u0 u1 u2 u3 u4 u5) (p1 : Int32) (p2 : Int32) (p3 : Int32) (p4 : Int32) (h0 : Heap) (n0 : Nat) (O0 : Old Z n0 h0) : own_Met l Z x code maxLocals ret room_1 #[(.int p1), (.int p2), (.int p3), (.int p4)] h0 (own_QL (some (.int (1 : Int32))) n0) := by
  rcases own_rem6 p1 with as8 | as9 | as10 | as11 | as12 | as13
  · rcases own_mask1 p4 with as14 | as15
    · rcases own_tri p2 p3 with ⟨as0, as1, as2⟩ | ⟨as3, as4, as1, as5⟩ | ⟨as3, as6, as7⟩
      · exact own_l0 l Z a0 hw u0 u1 u2 u3 u4 u5 G p1 p2 p3 p4 as8 as14 as0 as1 as2 h0 n0 O0
      · exact own_l1 l Z a0 hw u0 u1 u2 u3 u4 u5 G p1 p2 p3 p4 as8 as14 as3 as4 as1 as5 h0 n0 O0
      · exact own_l2 l Z a0 hw u0 u1 u2 u3 u4 u5 G p1 p2 p3 p4 as8 as14 as3 as6 as7 h0 n0 O0
    · exact own_l3 l Z a0 hw u0 u1 u2 u3 u4 u5 G p1 p2 p3 p4 as8 as15 h0 n0 O0
  · rcases own_mask1 p4 with as14 | as15
    · rcases own_tri p2 p3 with ⟨as0, as1, as2⟩ | ⟨as3, as4, as1, as5⟩ | ⟨as3, as6, as7⟩
      · exact own_l4 l Z a0 hw u0 u1 u2 u3 u4 u5 G p1 p2 p3 p4 as9 as14 as0 as1 as2 h0 n0 O0
      · exact own_l5 l Z a0 hw u0 u1 u2 u3 u4 u5 G p1 p2 p3 p4 as9 as14 as3 as4 as1 as5 h0 n0 O0
      · exact own_l6 l Z a0 hw u0 u1 u2 u3 u4 u5 G p1 p2 p3 p4 as9 as14 as3 as6 as7 h0 n0 O0
    · exact own_l7 l Z a0 hw u0 u1 u2 u3 u4 u5 G p1 p2 p3 p4 as9 as15 h0 n0 O0
  · rcases own_mask1 p4 with as14 | as15
    · rcases own_tri p2 p3 with ⟨as0, as1, as2⟩ | ⟨as3, as4, as1, as5⟩ | ⟨as3, as6, as7⟩
      · exact own_l8 l Z a0 hw u0 u1 u2 u3 u4 u5 G p1 p2 p3 p4 as10 as14 as0 as1 as2 h0 n0 O0
      · exact own_l9 l Z a0 hw u0 u1 u2 u3 u4 u5 G p1 p2 p3 p4 as10 as14 as3 as4 as1 as5 h0 n0 O0
      · exact own_l10 l Z a0 hw u0 u1 u2 u3 u4 u5 G p1 p2 p3 p4 as10 as14 as3 as6 as7 h0 n0 O0
    · exact own_l11 l Z a0 hw u0 u1 u2 u3 u4 u5 G p1 p2 p3 p4 as10 as15 h0 n0 O0
  · rcases own_mask1 p4 with as14 | as15
    · rcases own_tri p2 p3 with ⟨as0, as1, as2⟩ | ⟨as3, as4, as1, as5⟩ | ⟨as3, as6, as7⟩
      · exact own_l12 l Z a0 hw u0 u1 u2 u3 u4 u5 G p1 p2 p3 p4 as11 as14 as0 as1 as2 h0 n0 O0
      · exact own_l13 l Z a0 hw u0 u1 u2 u3 u4 u5 G p1 p2 p3 p4 as11 as14 as3 as4 as1 as5 h0 n0 O0
      · exact own_l14 l Z a0 hw u0 u1 u2 u3 u4 u5 G p1 p2 p3 p4 as11 as14 as3 as6 as7 h0 n0 O0
    · exact own_l15 l Z a0 hw u0 u1 u2 u3 u4 u5 G p1 p2 p3 p4 as11 as15 h0 n0 O0
  · rcases own_mask1 p4 with as14 | as15
    · rcases own_tri p2 p3 with ⟨as0, as1, as2⟩ | ⟨as3, as4, as1, as5⟩ | ⟨as3, as6, as7⟩
      · exact own_l16 l Z a0 hw u0 u1 u2 u3 u4 u5 G p1 p2 p3 p4 as12 as14 as0 as1 as2 h0 n0 O0
      · exact own_l17 l Z a0 hw u0 u1 u2 u3 u4 u5 G p1 p2 p3 p4 as12 as14 as3 as4 as1 as5 h0 n0 O0
      · exact own_l18 l Z a0 hw u0 u1 u2 u3 u4 u5 G p1 p2 p3 p4 as12 as14 as3 as6 as7 h0 n0 O0
    · exact own_l19 l Z a0 hw u0 u1 u2 u3 u4 u5 G p1 p2 p3 p4 as12 as15 h0 n0 O0
  · rcases own_mask1 p4 with as14 | as15
    · rcases own_tri p2 p3 with ⟨as0, as1, as2⟩ | ⟨as3, as4, as1, as5⟩ | ⟨as3, as6, as7⟩
      · exact own_l20 l Z a0 hw u0 u1 u2 u3 u4 u5 G p1 p2 p3 p4 as13 as14 as0 as1 as2 h0 n0 O0
      · exact own_l21 l Z a0 hw u0 u1 u2 u3 u4 u5 G p1 p2 p3 p4 as13 as14 as3 as4 as1 as5 h0 n0 O0
      · exact own_l22 l Z a0 hw u0 u1 u2 u3 u4 u5 G p1 p2 p3 p4 as13 as14 as3 as6 as7 h0 n0 O0
    · exact own_l23 l Z a0 hw u0 u1 u2 u3 u4 u5 G p1 p2 p3 p4 as13 as15 h0 n0 O0
set_option maxRecDepth 65536 in
set_option maxHeartbeats 40000000 in
theorem comes_1 {Post : Tables → Env → Array Value → State → Outcome → State → Prop} (hpost : ∀ tb e args s v u, (limb_1_1.after args s (.returned v) u = true ∧ limb_1_2.after args s (.returned v) u = true ∧ True) → FrameEnd s (.returned v) u (Jvm.fieldLocs frame_1_writes args s ++ Jvm.arrayLocs frame_1_arrays args s ++ Jvm.staticLocs frame_1_statics s) 0 0 → Post tb e args s (.returned v) u) :
    ArmFor flags0 classFile x code maxLocals ret World_1 tables_1 room_1 Calls_1 rest_1 Pre_1 Post := by
  intro l hfl _ _ p e ha hc hk s m args below hf hA hF happ hP
  obtain ⟨hcalls, hrest, hpre⟩ := hP
  obtain ⟨-, -, -, hnamed, -, -, -, hat⟩ := (Spec.applies_iff hf).mp happ
  obtain ⟨hg, hn⟩ := and_e (Cond.before_iff.mp (show (Jvm.Cond.and given_1 narrow_1).before args s = true from hpre))
  obtain ⟨hcount, hg0⟩ := and_e hg
  obtain ⟨ga0, hg1⟩ := and_e hg0
  obtain ⟨ga1, hg2⟩ := and_e hg1
  obtain ⟨ga2, hg3⟩ := and_e hg2
  have ga3 := hg3
  obtain ⟨w0, w1, w2, w3, rfl⟩ : ∃ w0 w1 w2 w3 : Value, args = #[w0, w1, w2, w3] := by
    have hs : args.size = 4 := by simpa [Cond.value, given_1] using hcount
    obtain ⟨L⟩ := args
    match L, hs with
    | [w0, w1, w2, w3], _ => exact ⟨w0, w1, w2, w3, rfl⟩
  have hw := fun d (hd : d ∈ tables_1) => atoms_spec (ws := Jvm.Cond.code x code maxLocals ret :: tables_1) hat d (List.mem_cons_of_mem _ hd)
  have hfit : Fit s := fun {y c} hc i hi => by
    obtain ⟨ha, rfl⟩ := Array.getElem?_eq_some_iff.mp hc
    have q := List.all_eq_true.mp ((Array.all_eq_true_iff_forall_mem.mp hF) _ (Array.getElem_mem ha)) i (List.mem_range.mpr hi)
    simpa [Array.getElem?_eq_getElem hi] using q
  obtain ⟨p1, ei0⟩ := is_v ga0
  obtain rfl : w0 = (.int p1) := Option.some.inj ei0
  obtain ⟨p2, ei1⟩ := is_v ga1
  obtain rfl : w1 = (.int p2) := Option.some.inj ei1
  obtain ⟨p3, ei2⟩ := is_v ga2
  obtain rfl : w2 = (.int p3) := Option.some.inj ei2
  obtain ⟨p4, ei3⟩ := is_v ga3
  obtain rfl : w3 = (.int p4) := Option.some.inj ei3
  have hc0 := hn
  obtain ⟨ca0, hc1⟩ := and_e hc0
  obtain ⟨ca1, hc2⟩ := and_e hc1
  obtain ⟨ca2, hc3⟩ := and_e hc2
  obtain ⟨ca3, hc4⟩ := and_e hc3
  obtain ⟨ca4, hc5⟩ := and_e hc4
  obtain ⟨ca5, hc6⟩ := and_e hc5
  obtain ⟨ca6, hc7⟩ := and_e hc6
  obtain ⟨ca7, hc8⟩ := and_e hc7
  obtain ⟨ca8, hc9⟩ := and_e hc8
  obtain ⟨ca9, hc10⟩ := and_e hc9
  obtain ⟨ca10, hc11⟩ := and_e hc10
  have ca11 := hc11
  obtain ⟨u0, ev_u0⟩ := exa_v ca0
  have pX_u0 := Exa.start ev_u0 ca0
  have pS_u0 : Sta s s.heap "com/example/whyle/whyle/cfa/Relation" "EQUAL" "Lcom/example/whyle/whyle/cfa/Relation;" (.ref u0) := Sta.start ev_u0 (Or.inr ⟨(ww hw 6 rfl), (ww hw 7 rfl)⟩)
  obtain ⟨u1, ev_u1⟩ := exa_v ca2
  have pX_u1 := Exa.start ev_u1 ca2
  have pS_u1 : Sta s s.heap "com/example/whyle/whyle/cfa/Relation" "NOT_EQUAL" "Lcom/example/whyle/whyle/cfa/Relation;" (.ref u1) := Sta.start ev_u1 (Or.inr ⟨(ww hw 6 rfl), (ww hw 32 rfl)⟩)
  obtain ⟨u2, ev_u2⟩ := exa_v ca4
  have pX_u2 := Exa.start ev_u2 ca4
  have pS_u2 : Sta s s.heap "com/example/whyle/whyle/cfa/Relation" "GREATER" "Lcom/example/whyle/whyle/cfa/Relation;" (.ref u2) := Sta.start ev_u2 (Or.inr ⟨(ww hw 6 rfl), (ww hw 35 rfl)⟩)
  obtain ⟨u3, ev_u3⟩ := exa_v ca6
  have pX_u3 := Exa.start ev_u3 ca6
  have pS_u3 : Sta s s.heap "com/example/whyle/whyle/cfa/Relation" "LESS" "Lcom/example/whyle/whyle/cfa/Relation;" (.ref u3) := Sta.start ev_u3 (Or.inr ⟨(ww hw 6 rfl), (ww hw 37 rfl)⟩)
  obtain ⟨u4, ev_u4⟩ := exa_v ca8
  have pX_u4 := Exa.start ev_u4 ca8
  have pS_u4 : Sta s s.heap "com/example/whyle/whyle/cfa/Relation" "LESS_OR_EQUAL" "Lcom/example/whyle/whyle/cfa/Relation;" (.ref u4) := Sta.start ev_u4 (Or.inr ⟨(ww hw 6 rfl), (ww hw 39 rfl)⟩)
  obtain ⟨u5, ev_u5⟩ := exa_v ca10
  have pX_u5 := Exa.start ev_u5 ca10
  have pS_u5 : Sta s s.heap "com/example/whyle/whyle/cfa/Relation" "GREATER_OR_EQUAL" "Lcom/example/whyle/whyle/cfa/Relation;" (.ref u5) := Sta.start ev_u5 (Or.inr ⟨(ww hw 6 rfl), (ww hw 41 rfl)⟩)
  have pF_u0_ordinal := own_fld ev_u0 ca1
  have pF_u1_ordinal := own_fld ev_u1 ca3
  have pF_u2_ordinal := own_fld ev_u2 ca5
  have pF_u3_ordinal := own_fld ev_u3 ca7
  have pF_u4_ordinal := own_fld ev_u4 ca9
  have pF_u5_ordinal := own_fld ev_u5 ca11
  have G : own_St s u0 u1 u2 u3 u4 u5 := ⟨pS_u0, pX_u0, pS_u1, pX_u1, pS_u2, pX_u2, pS_u3, pX_u3, pS_u4, pX_u4, pS_u5, pX_u5, pF_u0_ordinal, pF_u1_ordinal, pF_u2_ordinal, pF_u3_ordinal, pF_u4_ordinal, pF_u5_ordinal⟩
  obtain ⟨n, o, h1, h2, h3, _, L, rfl, ⟨rfl, N⟩, hq⟩ := own_law l s _ hw u0 u1 u2 u3 u4 u5 G p1 p2 p3 p4 s.heap s.heap.size (Old.start s) tables_1 p e ha hc hk s m _ below hf ((Spec.applies_iff_loose hf).mp happ).1 ⟨rfl, State.Warmed39.refl s, rfl⟩ trivial
  refine ⟨n, _, h1, h2, h3, hpost _ _ _ _ _ _ ⟨Cond.after_iff.mpr rfl, Cond.after_iff.mpr (eq_i res_at (Term.int_eval (1)) rfl), trivial⟩ ⟨hq.1, hq.2.1, (hq.2.2.sift fun y hy => Or.inr (N y hy)).mono (by decide) (by decide)⟩⟩
theorem main_1_1 : Claimed_1_1 := comes_1 fun _ _ _ _ _ _ h hF => ⟨h.1, hF⟩
theorem main_1_2 : Claimed_1_2 := comes_1 fun _ _ _ _ _ _ h hF => ⟨h.2.1, hF⟩
end Jvm.Pilot.@@N@@
namespace Jvm.Pilot.@@N@@
open Jvm Jvm.ClassFile Sem Op Lib Jvm.Free Jvm.Stand Jvm.Pilot.@@N@@.Jvm.D
/-! MADE BY PROGRAM (witnessworld.py) out of the Statement's table words and the real class files: 12 classes; the members and pool entries that the words name. The judged class is class 1, her method 3. -/
namespace start1
open Jvm.ClassFile
def u (s : String) : CpInfo := .utf8 (stringToUtf16 s)
/-- a pool by its gaps: so many unusable entries, then the entry; so many at the end -/
def gap : Nat → List CpInfo → List CpInfo
  | 0, r => r
  | n + 1, r => .unusable :: gap n r
def poolList (es : List (Nat × CpInfo)) (last : Nat) : List CpInfo := es.foldr (fun e r => gap e.1 (e.2 :: r)) (gap last [])
def pool (es : List (Nat × CpInfo)) (last : Nat) : Array CpInfo := ⟨poolList es last⟩
def fileOf (pool : Array CpInfo) (this : Nat) (attrs : Array Attribute := #[]) (ms : Array MethodInfo := #[]) (fl : Nat := 33) (sup : Nat := 0) (ifs : Array Nat := #[]) (fds : Array FieldInfo := #[]) : ClassFile where
  minorVersion := 0
  majorVersion := 65
  constantPool := pool
  accessFlags := fl
  thisClass := this
  superClass := sup
  interfaces := ifs
  fields := fds
  methods := ms
  attributes := attrs
def plain (name : String) (sup : Option ClassId) : Class where
  name := name
  kind := .ordinary
  loader := none
  accessFlags := 33
  super := sup
  interfaces := #[]
  cf := none
  fields := #[]
  methods := #[]
  instanceTypes := #[]
  staticTypes := #[]
  resolved := #[]
  callSites := []
  init := .initialized
  statics := none
  mirror := none

def pool0 : Array CpInfo := pool [(5, u "<init>"), (0, u "()V"), (1, .class_ 10), (1, u "java/lang/Object")] 113

def k0m0 : Method := { name := "<init>", desc := "()V", sig := { parameters := [], returnType := none }, accessFlags := 1, code := none }
/-- java/lang/Object -/
def k0 : Class := { plain "java/lang/Object" none with
  accessFlags := 33
  interfaces := #[]
  cf := some (fileOf pool0 8 #[] #[{ accessFlags := 1, nameIndex := 5, descriptorIndex := 6, attributes := #[] }] 33 0 #[] #[])
  fields := #[]
  methods := #[k0m0]
  instanceTypes := #[]
  staticTypes := #[]
  resolved := Array.replicate 124 none
  statics := none }

def pool1 : Array CpInfo := pool [(2, .class_ 4), (1, u "java/lang/Object"), (0, u "<init>"), (0, u "()V"), (0, .integer 2147483647), (0, .fieldref 9 10), (0, .class_ 11), (0, .nameAndType 12 13), (0, u "com/example/whyle/whyle/cfa/Relation"), (0, u "EQUAL"), (0, u "Lcom/example/whyle/whyle/cfa/Relation;"), (0, .fieldref 9 15), (0, .nameAndType 16 13), (0, u "NOT_EQUAL"), (0, .fieldref 9 18), (0, .nameAndType 19 13), (0, u "LESS"), (0, .fieldref 9 21), (0, .nameAndType 22 13), (0, u "LESS_OR_EQUAL"), (0, .fieldref 9 24), (0, .nameAndType 25 13), (0, u "GREATER"), (0, .fieldref 9 27), (0, .nameAndType 28 13), (0, u "GREATER_OR_EQUAL"), (0, .methodref 30 31), (0, .class_ 32), (0, .nameAndType 33 34), (0, u "com/example/whyle/whyle/cfa/RelationConversePinLaw"), (0, u "pick"), (0, u "(I)Lcom/example/whyle/whyle/cfa/Relation;"), (0, .methodref 9 36), (0, .nameAndType 37 38), (0, u "converse"), (0, u "()Lcom/example/whyle/whyle/cfa/Relation;"), (0, .methodref 30 40), (0, .nameAndType 41 42), (0, u "sign"), (0, u "(II)I"), (0, .methodref 9 44), (0, .nameAndType 45 46), (0, u "holds"), (0, u "(I)Z"), (3, u "law"), (0, u "(IIII)Z")] 2

def k1m0 : Method := { name := "<init>", desc := "()V", sig := { parameters := [], returnType := none }, accessFlags := 1, code := none }
def k1c1 : Code := { maxStack := 2, maxLocals := 2, code := method_2_code, exceptionTable := #[], attributes := #[] }
def k1m1 : Method := { name := "pick", desc := "(I)Lcom/example/whyle/whyle/cfa/Relation;", sig := { parameters := [.int], returnType := some (.object "com/example/whyle/whyle/cfa/Relation") }, accessFlags := 10, code := some k1c1 }
def k1c2 : Code := { maxStack := 2, maxLocals := 2, code := method_3_code, exceptionTable := #[], attributes := #[] }
def k1m2 : Method := { name := "sign", desc := "(II)I", sig := { parameters := [.int, .int], returnType := some .int }, accessFlags := 10, code := some k1c2 }
def k1c3 : Code := { maxStack := 3, maxLocals := 9, code := code, exceptionTable := #[], attributes := #[] }
def k1m3 : Method := { name := "law", desc := "(IIII)Z", sig := { parameters := [.int, .int, .int, .int], returnType := some .boolean }, accessFlags := 9, code := some k1c3 }
/-- com/example/whyle/whyle/cfa/RelationConversePinLaw -/
def k1 : Class := { plain "com/example/whyle/whyle/cfa/RelationConversePinLaw" (some 0) with
  accessFlags := 49
  interfaces := #[]
  cf := some (fileOf pool1 30 #[] #[{ accessFlags := 1, nameIndex := 5, descriptorIndex := 6, attributes := #[] }, { accessFlags := 10, nameIndex := 33, descriptorIndex := 34, attributes := #[] }, { accessFlags := 10, nameIndex := 41, descriptorIndex := 42, attributes := #[] }, { accessFlags := 9, nameIndex := 50, descriptorIndex := 51, attributes := #[] }] 49 2 #[] #[])
  fields := #[]
  methods := #[k1m0, k1m1, k1m2, k1m3]
  instanceTypes := #[]
  staticTypes := #[]
  resolved := Array.replicate 54 none
  statics := none }

def pool2 : Array CpInfo := pool [(1, .class_ 2), (0, u "java/lang/constant/Constable"), (0, .class_ 4), (0, u "java/lang/Object")] 6

/-- java/lang/constant/Constable -/
def k2 : Class := { plain "java/lang/constant/Constable" (some 0) with
  accessFlags := 1537
  interfaces := #[]
  cf := some (fileOf pool2 1 #[] #[] 1537 3 #[] #[])
  fields := #[]
  methods := #[]
  instanceTypes := #[]
  staticTypes := #[]
  resolved := Array.replicate 11 none
  statics := none }

def pool3 : Array CpInfo := pool [(1, .class_ 2), (0, u "java/lang/Comparable"), (0, .class_ 4), (0, u "java/lang/Object")] 7

/-- java/lang/Comparable -/
def k3 : Class := { plain "java/lang/Comparable" (some 0) with
  accessFlags := 1537
  interfaces := #[]
  cf := some (fileOf pool3 1 #[] #[] 1537 3 #[] #[])
  fields := #[]
  methods := #[]
  instanceTypes := #[]
  staticTypes := #[]
  resolved := Array.replicate 12 none
  statics := none }

def pool4 : Array CpInfo := pool [(1, .class_ 2), (0, u "java/io/Serializable"), (0, .class_ 4), (0, u "java/lang/Object")] 2

/-- java/io/Serializable -/
def k4 : Class := { plain "java/io/Serializable" (some 0) with
  accessFlags := 1537
  interfaces := #[]
  cf := some (fileOf pool4 1 #[] #[] 1537 3 #[] #[])
  fields := #[]
  methods := #[]
  instanceTypes := #[]
  staticTypes := #[]
  resolved := Array.replicate 7 none
  statics := none }

def pool5 : Array CpInfo := pool [(2, .class_ 4), (1, u "java/lang/Enum"), (0, u "name"), (0, u "Ljava/lang/String;"), (0, .fieldref 2 8), (0, .nameAndType 9 10), (0, u "ordinal"), (0, u "I"), (1, .class_ 14), (1, u "java/lang/Object"), (4, u "hash"), (86, .class_ 108), (1, u "java/lang/Enum$EnumDesc"), (2, .class_ 112), (0, u "java/lang/constant/Constable"), (0, .class_ 114), (0, u "java/lang/Comparable"), (0, .class_ 116), (0, u "java/io/Serializable"), (9, u "()I")] 77

def k5c0 : Code := { maxStack := 1, maxLocals := 1, code := jdk_37_method_2_code, exceptionTable := #[], attributes := #[] }
def k5m0 : Method := { name := "ordinal", desc := "()I", sig := { parameters := [], returnType := some .int }, accessFlags := 17, code := some k5c0 }
/-- java/lang/Enum -/
def k5 : Class := { plain "java/lang/Enum" (some 0) with
  accessFlags := 1057
  interfaces := #[2, 3, 4]
  cf := some (fileOf pool5 2 #[.nestMembers #[106]] #[{ accessFlags := 17, nameIndex := 9, descriptorIndex := 126, attributes := #[] }] 1057 12 #[111, 113, 115] #[{ accessFlags := 18, nameIndex := 5, descriptorIndex := 6, attributes := #[] }, { accessFlags := 18, nameIndex := 9, descriptorIndex := 10, attributes := #[] }, { accessFlags := 2, nameIndex := 19, descriptorIndex := 10, attributes := #[] }])
  fields := #[{ name := "name", type := (.object "java/lang/String"), accessFlags := 18, slot := 0, constantValue := 0 }, { name := "ordinal", type := .int, accessFlags := 18, slot := 1, constantValue := 0 }, { name := "hash", type := .int, accessFlags := 2, slot := 2, constantValue := 0 }]
  methods := #[k5m0]
  instanceTypes := #[(.object "java/lang/String"), .int, .int]
  staticTypes := #[]
  resolved := Array.replicate 204 none
  statics := none }

def pool6 : Array CpInfo := pool [(1, .class_ 2), (0, u "com/example/whyle/whyle/cfa/Relation"), (0, .fieldref 1 4), (0, .nameAndType 5 6), (0, u "EQUAL"), (0, u "Lcom/example/whyle/whyle/cfa/Relation;"), (0, .fieldref 1 8), (0, .nameAndType 9 6), (0, u "NOT_EQUAL"), (0, .fieldref 1 11), (0, .nameAndType 12 6), (0, u "LESS"), (0, .fieldref 1 14), (0, .nameAndType 15 6), (0, u "LESS_OR_EQUAL"), (0, .fieldref 1 17), (0, .nameAndType 18 6), (0, u "GREATER"), (0, .fieldref 1 20), (0, .nameAndType 21 6), (0, u "GREATER_OR_EQUAL"), (2, u "$VALUES"), (0, u "[Lcom/example/whyle/whyle/cfa/Relation;"), (6, .class_ 34), (1, u "java/lang/Enum"), (8, u "symbol"), (0, u "Ljava/lang/String;"), (10, .methodref 1 56), (0, .nameAndType 57 58), (0, u "ordinal"), (0, u "()I"), (39, u "()Lcom/example/whyle/whyle/cfa/Relation;"), (0, u "converse"), (0, u "holds"), (0, u "(I)Z")] 5

def k6c0 : Code := { maxStack := 4, maxLocals := 1, code := prog_62_method_7_code, exceptionTable := #[], attributes := #[] }
def k6m0 : Method := { name := "converse", desc := "()Lcom/example/whyle/whyle/cfa/Relation;", sig := { parameters := [], returnType := some (.object "com/example/whyle/whyle/cfa/Relation") }, accessFlags := 1, code := some k6c0 }
def k6c1 : Code := { maxStack := 4, maxLocals := 2, code := prog_62_method_8_code, exceptionTable := #[], attributes := #[] }
def k6m1 : Method := { name := "holds", desc := "(I)Z", sig := { parameters := [.int], returnType := some .boolean }, accessFlags := 1, code := some k6c1 }
/-- com/example/whyle/whyle/cfa/Relation -/
def k6 : Class := { plain "com/example/whyle/whyle/cfa/Relation" (some 5) with
  accessFlags := 16433
  interfaces := #[]
  cf := some (fileOf pool6 1 #[] #[{ accessFlags := 1, nameIndex := 99, descriptorIndex := 98, attributes := #[] }, { accessFlags := 1, nameIndex := 100, descriptorIndex := 101, attributes := #[] }] 16433 32 #[] #[{ accessFlags := 16409, nameIndex := 5, descriptorIndex := 6, attributes := #[] }, { accessFlags := 16409, nameIndex := 9, descriptorIndex := 6, attributes := #[] }, { accessFlags := 16409, nameIndex := 12, descriptorIndex := 6, attributes := #[] }, { accessFlags := 16409, nameIndex := 15, descriptorIndex := 6, attributes := #[] }, { accessFlags := 16409, nameIndex := 18, descriptorIndex := 6, attributes := #[] }, { accessFlags := 16409, nameIndex := 21, descriptorIndex := 6, attributes := #[] }, { accessFlags := 18, nameIndex := 43, descriptorIndex := 44, attributes := #[] }, { accessFlags := 4122, nameIndex := 24, descriptorIndex := 25, attributes := #[] }])
  fields := #[{ name := "EQUAL", type := (.object "com/example/whyle/whyle/cfa/Relation"), accessFlags := 16409, slot := 0, constantValue := 0 }, { name := "NOT_EQUAL", type := (.object "com/example/whyle/whyle/cfa/Relation"), accessFlags := 16409, slot := 1, constantValue := 0 }, { name := "LESS", type := (.object "com/example/whyle/whyle/cfa/Relation"), accessFlags := 16409, slot := 2, constantValue := 0 }, { name := "LESS_OR_EQUAL", type := (.object "com/example/whyle/whyle/cfa/Relation"), accessFlags := 16409, slot := 3, constantValue := 0 }, { name := "GREATER", type := (.object "com/example/whyle/whyle/cfa/Relation"), accessFlags := 16409, slot := 4, constantValue := 0 }, { name := "GREATER_OR_EQUAL", type := (.object "com/example/whyle/whyle/cfa/Relation"), accessFlags := 16409, slot := 5, constantValue := 0 }, { name := "symbol", type := (.object "java/lang/String"), accessFlags := 18, slot := 3, constantValue := 0 }, { name := "$VALUES", type := (.array (.object "com/example/whyle/whyle/cfa/Relation")), accessFlags := 4122, slot := 6, constantValue := 0 }]
  methods := #[k6m0, k6m1]
  instanceTypes := #[(.object "java/lang/String"), .int, .int, (.object "java/lang/String")]
  staticTypes := #[(.object "com/example/whyle/whyle/cfa/Relation"), (.object "com/example/whyle/whyle/cfa/Relation"), (.object "com/example/whyle/whyle/cfa/Relation"), (.object "com/example/whyle/whyle/cfa/Relation"), (.object "com/example/whyle/whyle/cfa/Relation"), (.object "com/example/whyle/whyle/cfa/Relation"), (.array (.object "com/example/whyle/whyle/cfa/Relation"))]
  resolved := Array.replicate 107 none
  statics := some 0 }

def pool7 : Array CpInfo := pool [(1, u "java/lang/Cloneable"), (0, .class_ 1), (0, u "java/lang/Object"), (0, .class_ 3)] 3

/-- java/lang/Cloneable -/
def k7 : Class := { plain "java/lang/Cloneable" (some 0) with
  accessFlags := 1537
  interfaces := #[]
  cf := some (fileOf pool7 2 #[] #[] 1537 4 #[] #[])
  fields := #[]
  methods := #[]
  instanceTypes := #[]
  staticTypes := #[]
  resolved := Array.replicate 8 none
  statics := none }

/-- the primitive byte -/
def k8 : Class := { plain "byte" none with kind := .primitive 'B', accessFlags := 0x411 }
/-- [B -/
def k9 : Class := { plain "[B" (some 0) with kind := .array 8 .byte, interfaces := #[7, 4], accessFlags := 1041 }

/-- the primitive int -/
def k10 : Class := { plain "int" none with kind := .primitive 'I', accessFlags := 0x411 }
/-- [I -/
def k11 : Class := { plain "[I" (some 0) with kind := .array 10 .int, interfaces := #[7, 4], accessFlags := 1041 }

def heap : Heap := #[{ cls := 6, slots := #[.ref 1, .ref 2, .ref 4, .ref 5, .ref 3, .ref 6, .null], vm := .statics 6 },
  { cls := 6, slots := #[.null, .int 0, .int 0, .null], vm := .none },
  { cls := 6, slots := #[.null, .int 1, .int 0, .null], vm := .none },
  { cls := 6, slots := #[.null, .int 4, .int 0, .null], vm := .none },
  { cls := 6, slots := #[.null, .int 2, .int 0, .null], vm := .none },
  { cls := 6, slots := #[.null, .int 3, .int 0, .null], vm := .none },
  { cls := 6, slots := #[.null, .int 5, .int 0, .null], vm := .none }]
def classes : Array Class := #[k0, k1, k2, k3, k4, k5, k6, k7, k8, k9, k10, k11]
def interned : List (Array UInt16 × Addr) := []
def slotsUsed : Nat := 31
def theMethod : MethodId := ⟨1, 3⟩
def args0 : Array Value := #[.int 5, .int 300, .int 1, .int 0]
def aboutOver (below : List Frame) : State where
  vm := { classes := classes, interned := interned.toArray }
  heap := heap
  slotsUsed := slotsUsed
  threads := #[{ frames := .invoking theMethod args0 :: below }]
def below0 : List Frame := [.native { method := ⟨0, 0⟩, args := #[] }]
def about1 : State := aboutOver below0
def p0 : Program := .bare "" "" ""
def e0 : Env := launch0.env 0 0 0
theorem w_frames : about1.frames = Frame.invoking theMethod args0 :: below0 := rfl
set_option maxRecDepth 65536 in
theorem w_args : argsFit about1.vm theMethod args0 = true := by decide +kernel
set_option maxRecDepth 65536 in
theorem w_heap : heapFits about1 = true := by decide +kernel
set_option maxRecDepth 65536 in
theorem w_runnable : about1.curStatus? = some .runnable := by decide +kernel
set_option maxRecDepth 65536 in
theorem w_alone : about1.alone = true := by decide +kernel
set_option maxRecDepth 65536 in
theorem w_named : about1.methodNamed? x = some theMethod := by decide +kernel
set_option maxRecDepth 65536 in
theorem w_hears : about1.hears theMethod below0 = true := by decide +kernel
set_option maxRecDepth 65536 in
theorem w_ripe : about1.ripe theMethod args0 below0 = true := by decide +kernel
theorem w_running : about1.status = .running := rfl
set_option maxRecDepth 65536 in
theorem w_room : about1.hasRoom e0.platform room_1 = true :=
  launch0.hasRoom_least _ room_1 (by decide +kernel) (by decide +kernel) (by decide +kernel) (by decide +kernel) (by decide +kernel) (by decide +kernel)
theorem allAtoms_all (ts : List Jvm.Cond) (a : Array Jvm.Value) (st : Jvm.State) : (allAtoms ts).before a st = ts.all (fun c => c.before a st) := by
  induction ts with
  | nil => rfl
  | cons c t ih =>
    show (Jvm.Cond.and c (allAtoms t)).before a st = _
    rw [Jvm.Cond.before_and, ih, List.all_cons]
def words1 : List Jvm.Cond := Jvm.Cond.code x code maxLocals ret :: tables_1
/-- a 'code' word, met by the world's own term for the bytes: nothing is compared byte by byte -/
theorem code_word {y : MethodName} {bytes : ByteArray} {mx : Nat} {rt : Option FieldType} {a : Array Value} {s : State} {m : MethodId} {meth : Method} {c : Code} (h1 : s.methodNamed? y = some m) (h2 : s.vm.method? m = some meth) (h3 : meth.code = some c) (h4 : c.code = bytes)
    (h5 : (c.maxLocals == mx && c.exceptionTable.isEmpty && decide (c.maxStack ≤ mostOperands) && decide (meth.sig.returnType = rt) && !meth.locks && decide (parseMethodDescriptor y.desc = some meth.sig)) = true) : (Jvm.Cond.code y bytes mx rt).before a s = true := by
  simp only [Bool.and_eq_true, beq_iff_eq, Bool.not_eq_true', decide_eq_true_eq] at h5
  obtain ⟨⟨⟨⟨⟨g1, g2⟩, g3⟩, g4⟩, g5⟩, g6⟩ := h5
  simp [Cond.before, Cond.holds, Cond.value, h1, h2, h3, h4, g1, g2, g3, g4, g5, g6]
def isCode : Jvm.Cond → Bool
  | .code _ _ _ _ => true
  | _ => false
theorem all_split {L : List Jvm.Cond} {P : Jvm.Cond → Bool} (h1 : L.all (fun c => isCode c || P c) = true) (h2 : ∀ c ∈ L.filter isCode, P c = true) : L.all P = true := by
  refine List.all_eq_true.mpr fun c hc => ?_
  have h := List.all_eq_true.mp h1 c hc
  rcases Bool.eq_false_or_eq_true (isCode c) with hi | hi
  · exact h2 c (List.mem_filter.mpr ⟨hc, hi⟩)
  · simpa [hi] using h
set_option maxRecDepth 65536 in
theorem w_c0 : (Jvm.Cond.code x code maxLocals ret).before args0 about1 = true := code_word (m := ⟨1, 3⟩) (meth := k1m3) (c := k1c3) (by decide +kernel) rfl rfl rfl (by decide +kernel)
set_option maxRecDepth 65536 in
theorem w_c1 : (Jvm.Cond.code ({ cls := "com/example/whyle/whyle/cfa/RelationConversePinLaw", name := "pick", desc := "(I)Lcom/example/whyle/whyle/cfa/Relation;" } : Jvm.MethodName) method_2_code (2 : Nat) (Option.some (Jvm.ClassFile.FieldType.object "com/example/whyle/whyle/cfa/Relation"))).before args0 about1 = true := code_word (m := ⟨1, 1⟩) (meth := k1m1) (c := k1c1) (by decide +kernel) rfl rfl rfl (by decide +kernel)
set_option maxRecDepth 65536 in
theorem w_c2 : (Jvm.Cond.code ({ cls := "com/example/whyle/whyle/cfa/Relation", name := "converse", desc := "()Lcom/example/whyle/whyle/cfa/Relation;" } : Jvm.MethodName) prog_62_method_7_code (1 : Nat) (Option.some (Jvm.ClassFile.FieldType.object "com/example/whyle/whyle/cfa/Relation"))).before args0 about1 = true := code_word (m := ⟨6, 0⟩) (meth := k6m0) (c := k6c0) (by decide +kernel) rfl rfl rfl (by decide +kernel)
set_option maxRecDepth 65536 in
theorem w_c3 : (Jvm.Cond.code ({ cls := "java/lang/Enum", name := "ordinal", desc := "()I" } : Jvm.MethodName) jdk_37_method_2_code (1 : Nat) (Option.some Jvm.ClassFile.FieldType.int)).before args0 about1 = true := code_word (m := ⟨5, 0⟩) (meth := k5m0) (c := k5c0) (by decide +kernel) rfl rfl rfl (by decide +kernel)
set_option maxRecDepth 65536 in
theorem w_c4 : (Jvm.Cond.code ({ cls := "com/example/whyle/whyle/cfa/RelationConversePinLaw", name := "sign", desc := "(II)I" } : Jvm.MethodName) method_3_code (2 : Nat) (Option.some Jvm.ClassFile.FieldType.int)).before args0 about1 = true := code_word (m := ⟨1, 2⟩) (meth := k1m2) (c := k1c2) (by decide +kernel) rfl rfl rfl (by decide +kernel)
set_option maxRecDepth 65536 in
theorem w_c5 : (Jvm.Cond.code ({ cls := "com/example/whyle/whyle/cfa/Relation", name := "holds", desc := "(I)Z" } : Jvm.MethodName) prog_62_method_8_code (2 : Nat) (Option.some Jvm.ClassFile.FieldType.boolean)).before args0 about1 = true := code_word (m := ⟨6, 1⟩) (meth := k6m1) (c := k6c1) (by decide +kernel) rfl rfl rfl (by decide +kernel)
def codes1 : List Jvm.Cond := [Jvm.Cond.code x code maxLocals ret, Jvm.Cond.code ({ cls := "com/example/whyle/whyle/cfa/RelationConversePinLaw", name := "pick", desc := "(I)Lcom/example/whyle/whyle/cfa/Relation;" } : Jvm.MethodName) method_2_code (2 : Nat) (Option.some (Jvm.ClassFile.FieldType.object "com/example/whyle/whyle/cfa/Relation")), Jvm.Cond.code ({ cls := "com/example/whyle/whyle/cfa/Relation", name := "converse", desc := "()Lcom/example/whyle/whyle/cfa/Relation;" } : Jvm.MethodName) prog_62_method_7_code (1 : Nat) (Option.some (Jvm.ClassFile.FieldType.object "com/example/whyle/whyle/cfa/Relation")), Jvm.Cond.code ({ cls := "java/lang/Enum", name := "ordinal", desc := "()I" } : Jvm.MethodName) jdk_37_method_2_code (1 : Nat) (Option.some Jvm.ClassFile.FieldType.int), Jvm.Cond.code ({ cls := "com/example/whyle/whyle/cfa/RelationConversePinLaw", name := "sign", desc := "(II)I" } : Jvm.MethodName) method_3_code (2 : Nat) (Option.some Jvm.ClassFile.FieldType.int), Jvm.Cond.code ({ cls := "com/example/whyle/whyle/cfa/Relation", name := "holds", desc := "(I)Z" } : Jvm.MethodName) prog_62_method_8_code (2 : Nat) (Option.some Jvm.ClassFile.FieldType.boolean)]
set_option maxRecDepth 65536 in
theorem codes_eq : words1.filter isCode = codes1 := rfl
theorem w_codes : ∀ c ∈ words1.filter isCode, c.before args0 about1 = true := by
  rw [codes_eq]
  intro c hc
  simp only [codes1, List.mem_cons, List.not_mem_nil, or_false] at hc
  rcases hc with rfl | rfl | rfl | rfl | rfl | rfl
  · exact w_c0
  · exact w_c1
  · exact w_c2
  · exact w_c3
  · exact w_c4
  · exact w_c5
set_option maxRecDepth 65536 in
theorem w_t1 : (words1.take 24).all (fun c => isCode c || c.before args0 about1) = true := by decide +kernel
set_option maxRecDepth 65536 in
theorem w_t2 : (words1.drop 24).all (fun c => isCode c || c.before args0 about1) = true := by decide +kernel
theorem w_tables : (allAtoms (Jvm.Cond.code x code maxLocals ret :: tables_1)).before args0 about1 = true := by
  rw [allAtoms_all]
  show words1.all (fun c => c.before args0 about1) = true
  refine all_split ?_ w_codes
  rw [← List.take_append_drop 24 words1, List.all_append, w_t1, w_t2]
  rfl
set_option maxRecDepth 65536 in
theorem w_case : (Jvm.Cond.and given_1 narrow_1).before args0 about1 = true := by decide +kernel
theorem w_applies : (headSpec (Jvm.Cond.code x code maxLocals ret :: tables_1) room_1).applies x e0.platform about1 = true :=
  (Spec.applies_iff w_frames).mpr ⟨w_running, w_runnable, w_alone, w_named, w_hears, w_ripe, w_room, w_tables⟩
theorem atStart : AtStart classFile x code maxLocals ret World_1 tables_1 room_1 Calls_1 rest_1 Pre_1 launch0 p0 e0 about1 theMethod args0 below0 :=
  ⟨lists_1, trivial, launch0.admits_env _ _ _, launch0.least_env, fairChoices_fair.cas, fairChoices_fair.clock, w_frames, w_args, w_heap, w_applies, trivial, trivial, w_case⟩
end start1
theorem witness_1 : WitnessClaimed_1 := ⟨start1.p0, start1.e0, start1.about1, start1.theMethod, start1.args0, start1.below0, start1.atStart⟩
end Jvm.Pilot.@@N@@
