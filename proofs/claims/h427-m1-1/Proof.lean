import JvmDerived
import JvmDerived.Pilot.@@N@@Statement
import JvmDerived.Pilot.@@N@@Code
set_option linter.unusedVariables false
set_option linter.unusedSimpArgs false
namespace Jvm.RoadKit
open Sem ClassFile Op Lib Jvm.Stand Jvm.Free Jvm.LawKit
section New
variable {p : Program} {l : Launch} {e : Env} {R : Room} {s : State} {m : MethodId} {args : Array Value} {below : List Frame} {meth : Method} {c : Code} {T : State} {locs : List Loc} {cells slots : Nat}
theorem retI (X : Stand p l e R s m args below meth c T locs cells slots) (hx : p.tables.exec = Jvm.exec) {pc : Nat} {Ls : Array Slot} {z : Int32} {rest : List Value} (hret : meth.sig.returnType = some .int) (hd : decode c.code pc = .ok (.ireturn, 1)) {fs : List Frame}
    (hl : ∀ (f : JFrame) (acts : List Action), f.method = m → f.locked = none → f.entered = [] → (doReturn e (T.setTop f) acts (some (.int z))).1 = T.setFrames fs) : Steps p.tables e below (T.setTop (mkF m pc Ls (.int z :: rest))) (T.setFrames fs) := by
  have hm' : T.vm.method? m = some meth := X.method'
  have hn : narrow .int (.int z) = .int z := rfl
  show Steps p.tables e below (T.setTop { method := m, pc := pc, locals := Ls, stack := _ :: rest, locked := none }) _
  jvm_step X.here [X.here.top, hx, hd, hm', hret, hn]
  first | (intro acts; rw [hl _ acts rfl rfl rfl]) | rw [hl _ _ rfl rfl rfl]
  exact Steps.refl _
end New
end Jvm.RoadKit
namespace Jvm.Pilot.@@N@@
open Jvm Jvm.ClassFile Sem Op Lib Jvm.Free Jvm.Stand Jvm.LawKit Jvm.RoadKit Bundle Jvm.Pilot.@@N@@.Jvm.D
theorem ww {a0 : Array Value} {Z : State} (hw : ∀ d ∈ tables_1, d.before a0 Z = true) (i : Nat) {d : Jvm.Cond} (h : tables_1[i]? = some d) : d.before a0 Z = true := hw d (List.mem_of_getElem? h)
abbrev vi (x : Int32) : Slot := .val (.int x)
abbrev vj (x : Int64) : Slot := .val (.long x)
abbrev vr (x : Addr) : Slot := .val (.ref x)
abbrev vn : Slot := .val .null
abbrev vu : Slot := .unset
abbrev xi (x : Int32) : Value := .int x
abbrev xj (x : Int64) : Value := .long x
abbrev xr (x : Addr) : Value := .ref x
abbrev own_S (p : Program) (e : Env) (below : List Frame) (T : State) (g : JFrame) (t : State) : Prop := Steps p.tables e below (T.setTop g) t
/-- a body's contract: at these arguments and this heap it returns as Q says -/
abbrev own_Met (l : Launch) (Z : State) (y : MethodName) (bytes : ByteArray) (maxL : Nat) (rt : Option FieldType) (rm : Room) (as' : Array Value) (h0 : Heap) (Qy : Option Value → Heap → List Loc → Prop) : Prop :=
  ∀ ws : List Jvm.Cond, MetFree l y (head1 (Jvm.Cond.code y bytes maxL rt :: ws) rm) (fun a U => a = as' ∧ Z.Warmed39 U.vm ∧ U.heap = h0) (fun _ _ _ _ _ => True) (fun _ U o U' => ∃ v L, o = .returned v ∧ Qy v U'.heap L ∧ FrameEnd U o U' L rm.cells rm.slots)
/-- it returns r and leaves the heap -/
def own_QR (r : Option Value) (h0 : Heap) (n0 : Nat) (v : Option Value) (h : Heap) (L : List Loc) : Prop := v = r ∧ Fr n0 L ∧ h = h0
/-- it returns r and writes nothing that stood at the start -/
def own_QL (r : Option Value) (n0 : Nat) (v : Option Value) (h : Heap) (L : List Loc) : Prop := v = r ∧ Fr n0 L
theorem own_le {Z : State} {n0 : Nat} {h : Heap} (O : Old Z n0 h) : n0 ≤ h.size := O.1 ▸ O.2.1
theorem own_fresh {Z : State} {n0 : Nat} {h : Heap} {a : Addr} (O : Old Z n0 h) (g : a = h.size) : n0 ≤ a := g ▸ own_le O
theorem own_fld {s : State} {args : Array Value} {t : Term} {C n d : String} {a : Addr} {k : Int32} (ht : t.eval args s none [] s = some (.ref a)) (h : (Jvm.Cond.eq (.field t C n d) (.int k)).value args s none s [] = some true) : Fld s s.heap a C n d (.int k) := by
  refine Fld.start ?_
  simp only [Cond.value, Term.eval, ht] at h
  cases hv : s.fieldOf? a C n d with
  | none => simp [hv] at h
  | some v => cases v <;> simp [hv] at h; subst h; rfl
theorem own_fldN {s : State} {args : Array Value} {t : Term} {C n d : String} {a : Addr} (ht : t.eval args s none [] s = some (.ref a)) (h : (Jvm.Cond.eq (.field t C n d) .null).value args s none s [] = some true) : Fld s s.heap a C n d .null :=
  Fld.start ((fld_at ht).symm.trans (null_v h))
theorem own_fldX {s : State} {args : Array Value} {t : Term} {C n d K : String} {a : Addr} (ht : t.eval args s none [] s = some (.ref a)) (h : (Jvm.Cond.exactly (.field t C n d) K).value args s none s [] = some true) : ∃ b, Fld s s.heap a C n d (.ref b) ∧ Exa s s.heap b K := by
  obtain ⟨b, eb⟩ := exa_v h
  exact ⟨b, Fld.start ((fld_at ht).symm.trans eb), Exa.start eb h⟩
theorem own_len {s : State} {args : Array Value} {t : Term} {a : Addr} {cl : Cell} {ty : FieldType} {k : Int32} {k' : Nat} (ht : t.eval args s none [] s = some (.ref a)) (A : Arr s s.heap a cl ty) (h : (Jvm.Cond.eq (.length t) (.int k)).value args s none s [] = some true) (hk : k.toInt = k') : cl.slots.size = k' := by
  obtain ⟨v, hv⟩ : ∃ v, (Term.length t).eval args s none [] s = some v := by
    cases hq : (Term.length t).eval args s none [] s with
    | none => simp [Cond.value, hq] at h
    | some v => exact ⟨v, rfl⟩
  have ha : s.arrayAt? a = some cl := Arr.fin (Vm.Alike.refl _) A
  by_cases hl : cl.slots.size < 2 ^ 31
  · rw [len_f ht ha hl] at hv
    have h2 := len_f ht ha hl
    have h3 : cl.slots.size.toInt32 = k := gotT (Cond.eq_ints h2 (Term.int_eval k)) h
    have h4 := len_toInt hl
    rw [h3, hk] at h4
    omega
  · simp [Term.eval, ht, ha, hl] at hv
theorem own_ref {x y : Addr} (h : x ≠ y) : decide ((Value.ref x : Value) = .ref y) = false := by simp [h]
theorem own_mask (x : Int32) : 0 ≤ (x &&& (2147483647 : Int32)).toInt := by
  have := c_mask x 2147483647 31 (by decide) (by decide); omega
def own_St (Z : State) (u0 u1 u2 u3 u4 : Addr) : Prop := (Sta Z Z.heap "com/example/feedwright/feedwright/Verdict" "$VALUES" "[Lcom/example/feedwright/feedwright/Verdict;" (.ref u0)) ∧ (Exa Z Z.heap u0 "[Lcom/example/feedwright/feedwright/Verdict;") ∧ (Sta Z Z.heap "com/example/feedwright/feedwright/Verdict" "INSERTED" "Lcom/example/feedwright/feedwright/Verdict;" (.ref u1)) ∧ (Exa Z Z.heap u1 "com/example/feedwright/feedwright/Verdict") ∧ (Sta Z Z.heap "com/example/feedwright/feedwright/Verdict" "UPDATED" "Lcom/example/feedwright/feedwright/Verdict;" (.ref u2)) ∧ (Exa Z Z.heap u2 "com/example/feedwright/feedwright/Verdict") ∧ (Sta Z Z.heap "com/example/feedwright/feedwright/Verdict" "UNCHANGED" "Lcom/example/feedwright/feedwright/Verdict;" (.ref u3)) ∧ (Exa Z Z.heap u3 "com/example/feedwright/feedwright/Verdict") ∧ (Sta Z Z.heap "com/example/feedwright/feedwright/Verdict" "NOT_PROCESSED" "Lcom/example/feedwright/feedwright/Verdict;" (.ref u4)) ∧ (Exa Z Z.heap u4 "com/example/feedwright/feedwright/Verdict") ∧ (Fld Z Z.heap u1 "java/lang/Enum" "ordinal" "I" (.int (0 : Int32))) ∧ (Fld Z Z.heap u4 "java/lang/Enum" "ordinal" "I" (.int (3 : Int32))) ∧ (Fld Z Z.heap u2 "java/lang/Enum" "ordinal" "I" (.int (1 : Int32))) ∧ (Fld Z Z.heap u3 "java/lang/Enum" "ordinal" "I" (.int (2 : Int32))) ∧ (∃ cl : Cell, Arr Z Z.heap u0 cl (.object "com/example/feedwright/feedwright/Verdict") ∧ cl.slots.size = 4 ∧ FitC Z cl)
theorem own_S_u0 {Z : State} {u0 u1 u2 u3 u4 : Addr} (G : own_St Z u0 u1 u2 u3 u4) : Sta Z Z.heap "com/example/feedwright/feedwright/Verdict" "$VALUES" "[Lcom/example/feedwright/feedwright/Verdict;" (.ref u0) := G.1
theorem own_X_u0 {Z : State} {u0 u1 u2 u3 u4 : Addr} (G : own_St Z u0 u1 u2 u3 u4) : Exa Z Z.heap u0 "[Lcom/example/feedwright/feedwright/Verdict;" := G.2.1
theorem own_S_u1 {Z : State} {u0 u1 u2 u3 u4 : Addr} (G : own_St Z u0 u1 u2 u3 u4) : Sta Z Z.heap "com/example/feedwright/feedwright/Verdict" "INSERTED" "Lcom/example/feedwright/feedwright/Verdict;" (.ref u1) := G.2.2.1
theorem own_X_u1 {Z : State} {u0 u1 u2 u3 u4 : Addr} (G : own_St Z u0 u1 u2 u3 u4) : Exa Z Z.heap u1 "com/example/feedwright/feedwright/Verdict" := G.2.2.2.1
theorem own_S_u2 {Z : State} {u0 u1 u2 u3 u4 : Addr} (G : own_St Z u0 u1 u2 u3 u4) : Sta Z Z.heap "com/example/feedwright/feedwright/Verdict" "UPDATED" "Lcom/example/feedwright/feedwright/Verdict;" (.ref u2) := G.2.2.2.2.1
theorem own_X_u2 {Z : State} {u0 u1 u2 u3 u4 : Addr} (G : own_St Z u0 u1 u2 u3 u4) : Exa Z Z.heap u2 "com/example/feedwright/feedwright/Verdict" := G.2.2.2.2.2.1
theorem own_S_u3 {Z : State} {u0 u1 u2 u3 u4 : Addr} (G : own_St Z u0 u1 u2 u3 u4) : Sta Z Z.heap "com/example/feedwright/feedwright/Verdict" "UNCHANGED" "Lcom/example/feedwright/feedwright/Verdict;" (.ref u3) := G.2.2.2.2.2.2.1
theorem own_X_u3 {Z : State} {u0 u1 u2 u3 u4 : Addr} (G : own_St Z u0 u1 u2 u3 u4) : Exa Z Z.heap u3 "com/example/feedwright/feedwright/Verdict" := G.2.2.2.2.2.2.2.1
theorem own_S_u4 {Z : State} {u0 u1 u2 u3 u4 : Addr} (G : own_St Z u0 u1 u2 u3 u4) : Sta Z Z.heap "com/example/feedwright/feedwright/Verdict" "NOT_PROCESSED" "Lcom/example/feedwright/feedwright/Verdict;" (.ref u4) := G.2.2.2.2.2.2.2.2.1
theorem own_X_u4 {Z : State} {u0 u1 u2 u3 u4 : Addr} (G : own_St Z u0 u1 u2 u3 u4) : Exa Z Z.heap u4 "com/example/feedwright/feedwright/Verdict" := G.2.2.2.2.2.2.2.2.2.1
theorem own_F_u1_ordinal {Z : State} {u0 u1 u2 u3 u4 : Addr} (G : own_St Z u0 u1 u2 u3 u4) : Fld Z Z.heap u1 "java/lang/Enum" "ordinal" "I" (.int (0 : Int32)) := G.2.2.2.2.2.2.2.2.2.2.1
theorem own_F_u4_ordinal {Z : State} {u0 u1 u2 u3 u4 : Addr} (G : own_St Z u0 u1 u2 u3 u4) : Fld Z Z.heap u4 "java/lang/Enum" "ordinal" "I" (.int (3 : Int32)) := G.2.2.2.2.2.2.2.2.2.2.2.1
theorem own_F_u2_ordinal {Z : State} {u0 u1 u2 u3 u4 : Addr} (G : own_St Z u0 u1 u2 u3 u4) : Fld Z Z.heap u2 "java/lang/Enum" "ordinal" "I" (.int (1 : Int32)) := G.2.2.2.2.2.2.2.2.2.2.2.2.1
theorem own_F_u3_ordinal {Z : State} {u0 u1 u2 u3 u4 : Addr} (G : own_St Z u0 u1 u2 u3 u4) : Fld Z Z.heap u3 "java/lang/Enum" "ordinal" "I" (.int (2 : Int32)) := G.2.2.2.2.2.2.2.2.2.2.2.2.2.1
theorem own_VA_u0 {Z : State} {u0 u1 u2 u3 u4 : Addr} (G : own_St Z u0 u1 u2 u3 u4) : ∃ cl : Cell, Arr Z Z.heap u0 cl (.object "com/example/feedwright/feedwright/Verdict") ∧ cl.slots.size = 4 ∧ FitC Z cl := G.2.2.2.2.2.2.2.2.2.2.2.2.2.2
theorem own_mask7 (x : Int32) : (x &&& (7 : Int32)) = (0 : Int32) ∨ (x &&& (7 : Int32)) = (1 : Int32) ∨ (x &&& (7 : Int32)) = (2 : Int32) ∨ (x &&& (7 : Int32)) = (3 : Int32) ∨ (x &&& (7 : Int32)) = (4 : Int32) ∨ (x &&& (7 : Int32)) = (5 : Int32) ∨ (x &&& (7 : Int32)) = (6 : Int32) ∨ (x &&& (7 : Int32)) = (7 : Int32) := by
  have h1 := c_mask x 7 3 (by decide) (by decide)
  have h3 : (x &&& (7 : Int32)).toInt = 0 ∨ (x &&& (7 : Int32)).toInt = 1 ∨ (x &&& (7 : Int32)).toInt = 2 ∨ (x &&& (7 : Int32)).toInt = 3 ∨ (x &&& (7 : Int32)).toInt = 4 ∨ (x &&& (7 : Int32)).toInt = 5 ∨ (x &&& (7 : Int32)).toInt = 6 ∨ (x &&& (7 : Int32)).toInt = 7 := by omega
  rcases h3 with h | h | h | h | h | h | h | h
  · exact Or.inl (Int32.toInt_inj.mp (h.trans (by decide)))
  · exact Or.inr <| Or.inl (Int32.toInt_inj.mp (h.trans (by decide)))
  · exact Or.inr <| Or.inr <| Or.inl (Int32.toInt_inj.mp (h.trans (by decide)))
  · exact Or.inr <| Or.inr <| Or.inr <| Or.inl (Int32.toInt_inj.mp (h.trans (by decide)))
  · exact Or.inr <| Or.inr <| Or.inr <| Or.inr <| Or.inl (Int32.toInt_inj.mp (h.trans (by decide)))
  · exact Or.inr <| Or.inr <| Or.inr <| Or.inr <| Or.inr <| Or.inl (Int32.toInt_inj.mp (h.trans (by decide)))
  · exact Or.inr <| Or.inr <| Or.inr <| Or.inr <| Or.inr <| Or.inr <| Or.inl (Int32.toInt_inj.mp (h.trans (by decide)))
  · exact Or.inr <| Or.inr <| Or.inr <| Or.inr <| Or.inr <| Or.inr <| Or.inr <| (Int32.toInt_inj.mp (h.trans (by decide)))
theorem own_mask3 (x : Int32) : (x &&& (3 : Int32)) = (0 : Int32) ∨ (x &&& (3 : Int32)) = (1 : Int32) ∨ (x &&& (3 : Int32)) = (2 : Int32) ∨ (x &&& (3 : Int32)) = (3 : Int32) := by
  have h1 := c_mask x 3 2 (by decide) (by decide)
  have h3 : (x &&& (3 : Int32)).toInt = 0 ∨ (x &&& (3 : Int32)).toInt = 1 ∨ (x &&& (3 : Int32)).toInt = 2 ∨ (x &&& (3 : Int32)).toInt = 3 := by omega
  rcases h3 with h | h | h | h
  · exact Or.inl (Int32.toInt_inj.mp (h.trans (by decide)))
  · exact Or.inr <| Or.inl (Int32.toInt_inj.mp (h.trans (by decide)))
  · exact Or.inr <| Or.inr <| Or.inl (Int32.toInt_inj.mp (h.trans (by decide)))
  · exact Or.inr <| Or.inr <| Or.inr <| (Int32.toInt_inj.mp (h.trans (by decide)))
def own_LS (Z : State) (h : Heap) (n0 : Nat) (a b : Addr) (k : ClassId) (c0 c1 c2 c3 : Int64) : Prop := Exa Z h a "com/example/feedwright/feedwright/LoadSummary" ∧ Fld Z h a "com/example/feedwright/feedwright/LoadSummary" "counts" "[J" (.ref b) ∧ Arv Z h b k .long (4 : Int32) [(.long c0), (.long c1), (.long c2), (.long c3)] (.long (0 : Int64)) ∧ a ≠ b ∧ n0 ≤ a ∧ n0 ≤ b
def own_QV (Z : State) (h0 : Heap) (n0 : Nat) (v : Option Value) (h : Heap) (L : List Loc) : Prop := ∃ b c, v = some (.ref b) ∧ Fr n0 L ∧ Ext h0 h ∧ Arr Z h b c (.object "com/example/feedwright/feedwright/Verdict") ∧ c.slots.size = 4
def own_QI (Z : State) (h0 : Heap) (n0 : Nat) (a : Addr) (v : Option Value) (h : Heap) (L : List Loc) : Prop := v = none ∧ Fr n0 L ∧ Keep h0 h [a] ∧ ∃ b k, own_LS Z h n0 a b k 0 0 0 0
def own_QA (Z : State) (h0 : Heap) (n0 : Nat) (a b : Addr) (k : ClassId) (c0 c1 c2 c3 : Int64) (v : Option Value) (h : Heap) (L : List Loc) : Prop := v = none ∧ Fr n0 L ∧ Keep h0 h [b] ∧ own_LS Z h n0 a b k c0 c1 c2 c3
def own_QS (Z : State) (h0 : Heap) (n0 : Nat) (a b : Addr) (k : ClassId) (c0 c1 c2 c3 : Int64) (v : Option Value) (h : Heap) (L : List Loc) : Prop := ∃ (r : Int32) (d0 d1 d2 d3 : Int64), v = some (.int r) ∧ Fr n0 L ∧ Keep h0 h [b] ∧ own_LS Z h n0 a b k d0 d1 d2 d3 ∧ (r = 0 ∨ r = 1) ∧ d0 + d1 + d2 + d3 = c0 + c1 + c2 + c3 + r.toInt64
theorem d3_0 : decode prog_29_method_1_code 0 = .ok (.getstatic 16, 3) := by decide +kernel
theorem d3_3 : decode prog_29_method_1_code 3 = .ok (.invokevirtual 20, 3) := by decide +kernel
theorem d3_6 : decode prog_29_method_1_code 6 = .ok (.checkcast 21, 3) := by decide +kernel
theorem d3_9 : decode prog_29_method_1_code 9 = .ok (.areturn, 1) := by decide +kernel
abbrev Y0 : MethodName := (⟨"com/example/feedwright/feedwright/Verdict", "values", "()[Lcom/example/feedwright/feedwright/Verdict;"⟩ : MethodName)
theorem pn0 : plainName "com/example/feedwright/feedwright/Verdict" = true := by first | (simp [plainName, overriddenIn]; done) | decide +kernel
theorem ef_own_values (m : MethodId) (u0 u1 u2 u3 u4 : Addr) : entryFrame m #[] 0 = (mkF m 0 #[] []) := by first | (simp [entryFrame, mkF, argsToLocals, Value.category]; done) | rfl
set_option maxRecDepth 65536 in
set_option maxHeartbeats 40000000 in
theorem own_values (l : Launch) (Z : State) (a0 : Array Value) (hw : ∀ d ∈ tables_1, d.before a0 Z = true) (u0 u1 u2 u3 u4 : Addr) (G : own_St Z u0 u1 u2 u3 u4) (h0 : Heap) (n0 : Nat) (O0 : Old Z n0 h0) : own_Met l Z Y0 prog_29_method_1_code 0 (some (.array (.object "com/example/feedwright/feedwright/Verdict"))) ({ frames := 1, cells := 1, slots := 4, locals := 14 } : Room) #[] h0 (own_QV Z h0 n0) := by
  intro ws
  refine MetFree.of_bodySF (plainFor_of_name pn0) hisR ?_
  intro p e s m args below meth c s₁ Bd hml0 hP hK
  obtain ⟨rfl, hZ, hh⟩ := hP
  have hx := Bd.exec
  have hby := Bd.bytes
  have hml : c.maxLocals = 0 := hml0
  have hown : s.vm.findClass "com/example/feedwright/feedwright/Verdict" = some m.cls := findClass_of_methodNamed Bd.named
  have hnm := (name_of_methodNamed Bd.named Bd.method).1
  have X0 : Stand p l e ({ frames := 1, cells := 1, slots := 4, locals := 14 } : Room) s m #[] below meth c s₁ [] 0 0 := Stand.of_body Bd
  have e0 : s₁.heap = h0 := by rw [← hh, Bd.state]; rfl
  have N0 := Fr.nil n0
  have pre0 : ∀ t, Steps p.tables e below (s₁.setTop (mkF m 0 #[] [])) t → Steps p.tables e below (s₁.setTop (entryFrame m #[] 0)) t := fun t st => castTop (ef_own_values m u0 u1 u2 u3 u4) st
  obtain ⟨T1, X1, e1, st1⟩ := getS2 X0 hx hZ hown (host := "") (Or.inl (ww hw 13 rfl)) Via.refl e0 ((own_S_u0 G).ext O0.2) (g := (mkF m 0 #[] [])) rfl (hb hby d3_0)
  obtain ⟨clv, Arv, Slv, Fcv⟩ := own_VA_u0 G
  obtain ⟨T2, h2, X2, e2, E2, A2, Ax2, st2⟩ := cloneA X1 hx hZ hown (ww hw 15 rfl) (ww hw 16 rfl) (ww hw 20 rfl) (ww hw 18 rfl) (ww hw 19 rfl) (ww hw 21 rfl) e1 (Arv.ext O0.2) ((own_X_u0 G).ext O0.2) Fcv (g := (mkF m 3 #[] [xr u0])) rfl (by rw [hml]; rfl) rfl (hb hby d3_3) (by decide) (W := 0) (cap := 4) (by show 2 * 0 + _ ≤ _; exact Nat.le_of_eq rfl) (by decide) (Nat.le_of_eq Slv) (by decide) (by decide)
  obtain ⟨b2, g2⟩ : ∃ z, z = h0.size := ⟨_, rfl⟩
  rw [← g2] at A2 Ax2 st2
  have g_b2 : n0 ≤ b2 := own_fresh O0 g2
  have O2 : Old Z n0 h2 := O0.ext E2
  obtain ⟨T3, X3, e3, st3⟩ := castY X2 hx hZ hown (ww hw 27 rfl) e2 (Ins.self Ax2) (g := (mkF m 6 #[] [xr b2])) rfl rfl (hb hby d3_6)
  obtain ⟨fs, hr, hrun, hended, hW, hsame⟩ := X3.leave (v := some (xr b2)) (fun h => by rw [Bd.returns] at h; cases h)
  refine ⟨_, _, pre0 _ ?_, hrun, hended, _, _, rfl, ?_, ⟨_, rfl⟩, hW, hsame.mono (by decide) (by decide)⟩
  · show own_S p e below s₁ (mkF m 0 #[] []) _
    refine st1 _ ?_
    show own_S p e below T1 (mkF m 3 #[] [xr u0]) _
    refine st2 _ ?_
    show own_S p e below T2 (mkF m 6 #[] [xr b2]) _
    refine st3 _ ?_
    show own_S p e below T3 (mkF m 9 #[] [xr b2]) _
    exact X3.areturnOut hx rfl Bd.returns rfl (hb hby d3_9) hr
  · show (own_QV Z h0 n0) _ T3.heap _
    rw [e3]
    exact ⟨_, _, rfl, N0, E2, A2, Slv⟩
theorem d1_0 : decode prog_16_method_1_code 0 = .ok (.aload_n 0, 1) := by decide +kernel
theorem d1_1 : decode prog_16_method_1_code 1 = .ok (.invokespecial 1, 3) := by decide +kernel
theorem d1_4 : decode prog_16_method_1_code 4 = .ok (.aload_n 0, 1) := by decide +kernel
theorem d1_5 : decode prog_16_method_1_code 5 = .ok (.invokestatic 7, 3) := by decide +kernel
theorem pd0 : parseMethodDescriptor "()[Lcom/example/feedwright/feedwright/Verdict;" = some ⟨[], some (.array (.object "com/example/feedwright/feedwright/Verdict"))⟩ := by decide +kernel
theorem d1_8 : decode prog_16_method_1_code 8 = .ok (.arraylength, 1) := by decide +kernel
theorem d1_9 : decode prog_16_method_1_code 9 = .ok (.newarray .long, 2) := by decide +kernel
theorem d1_11 : decode prog_16_method_1_code 11 = .ok (.putfield 13, 3) := by decide +kernel
theorem d1_14 : decode prog_16_method_1_code 14 = .ok (.return_, 1) := by decide +kernel
abbrev Y1 : MethodName := (⟨"com/example/feedwright/feedwright/LoadSummary", "<init>", "()V"⟩ : MethodName)
theorem pn1 : plainName "com/example/feedwright/feedwright/LoadSummary" = true := by first | (simp [plainName, overriddenIn]; done) | decide +kernel
theorem ef_own_init (m : MethodId) (u0 u1 u2 u3 u4 : Addr) (a : Addr) : entryFrame m #[xr a] 1 = (mkF m 0 #[vr a] []) := by first | (simp [entryFrame, mkF, argsToLocals, Value.category]; done) | rfl
set_option maxRecDepth 65536 in
set_option maxHeartbeats 40000000 in
theorem own_init (l : Launch) (Z : State) (a0 : Array Value) (hw : ∀ d ∈ tables_1, d.before a0 Z = true) (u0 u1 u2 u3 u4 : Addr) (G : own_St Z u0 u1 u2 u3 u4) (a : Addr) (h0 : Heap) (n0 : Nat) (O0 : Old Z n0 h0) (EA : Exa Z h0 a "com/example/feedwright/feedwright/LoadSummary") (FA : Fld Z h0 a "com/example/feedwright/feedwright/LoadSummary" "counts" "[J" .null) (g_a : n0 ≤ a) : own_Met l Z Y1 prog_16_method_1_code 1 none ({ frames := 2, cells := 2, slots := 8, locals := 26 } : Room) #[xr a] h0 (own_QI Z h0 n0 a) := by
  intro ws
  refine MetFree.of_bodySF (plainFor_of_name pn1) hisR ?_
  intro p e s m args below meth c s₁ Bd hml0 hP hK
  obtain ⟨rfl, hZ, hh⟩ := hP
  have hx := Bd.exec
  have hby := Bd.bytes
  have hml : c.maxLocals = 1 := hml0
  have hown : s.vm.findClass "com/example/feedwright/feedwright/LoadSummary" = some m.cls := findClass_of_methodNamed Bd.named
  have hnm := (name_of_methodNamed Bd.named Bd.method).1
  have X0 : Stand p l e ({ frames := 2, cells := 2, slots := 8, locals := 26 } : Room) s m #[xr a] below meth c s₁ [] 0 0 := Stand.of_body Bd
  have e0 : s₁.heap = h0 := by rw [← hh, Bd.state]; rfl
  have N0 := Fr.nil n0
  have pre0 : ∀ t, Steps p.tables e below (s₁.setTop (mkF m 0 #[vr a] [])) t → Steps p.tables e below (s₁.setTop (entryFrame m #[xr a] 1)) t := fun t st => castTop (ef_own_init m u0 u1 u2 u3 u4 a) st
  obtain ⟨T1, X1, e1, st1⟩ := initO X0 hx hZ hown (ww hw 6 rfl) (ww hw 7 rfl) (ww hw 8 rfl) e0 (g := (mkF m 1 #[vr a] [xr a])) rfl (by rw [hml]; rfl) rfl (hb hby d1_1) (by decide) (W := 0) (by show 2 * 0 + _ ≤ _; exact Nat.le_of_eq rfl) (by decide)
  obtain ⟨_, _, ⟨T2, L2, k2, n2⟩, -, X2, ⟨Lc2, hQ2, l2, y2, z2⟩, st2⟩ := Jvm.LawKit.callS X1 hx (y := Y0) hown (mvT hZ (ww hw 9 rfl)) (mvT hZ (ww hw 10 rfl)) (mvT hZ (ww hw 11 rfl)) (mvT hZ (ww hw 12 rfl)) (by decide) (backOf (W := 1) (own_values l Z a0 hw u0 u1 u2 u3 u4 G h0 n0 O0 []) hZ (ww hw 12 rfl) (ww hw 11 rfl) (by decide) (by decide)) (g := (mkF m 5 #[vr a] [xr a])) rfl (by rw [hml]; rfl) (argsL := []) (rest := [xr a]) (lenOf pd0 rfl) rfl (by show 2 * 0 + _ ≤ _; exact Nat.le_of_eq rfl) (hb hby d1_5) (fun _ _ => ⟨rfl, e1, (by decide : 0 + 1 ≤ _), (by decide : 0 + 4 ≤ _)⟩)
  dsimp only [Pt.U, Pt.locs, Pt.cells, Pt.slots] at X2 l2 y2 z2 st2 hQ2
  subst l2 y2 z2
  obtain ⟨h2, e2⟩ : ∃ z, T2.heap = z := ⟨_, rfl⟩
  rw [e2] at hQ2
  obtain ⟨bq2, cc2, rfl, Nq2, E2, Aq2, Sq2⟩ := hQ2
  have N2 := Fr.app N0 Nq2
  have O2 : Old Z n0 h2 := O0.ext E2
  have Kp2 : Keep h0 h2 [a] := (Keep.refl h0 [a]).ext E2
  have X_a_2 := EA.ext E2
  have F_a_counts_2 := FA.ext E2
  obtain ⟨T4, h4, k4, X4, e4, E4, A4, st4⟩ := newP X2 hx hZ (ww hw 29 rfl) e2 (g := (mkF m 9 #[vr a] [xi (4 : Int32), xr a])) rfl (hb hby d1_9) rfl (by decide) (cap := 4) (by decide) (by decide) (by decide) (by decide)
  obtain ⟨b4, g4⟩ : ∃ z, z = h2.size := ⟨_, rfl⟩
  rw [← g4] at A4 st4
  have g_b4 : n0 ≤ b4 := own_fresh O2 g4
  have ne_a_b4 : a ≠ b4 := Nat.ne_of_lt (Nat.lt_of_lt_of_le (X_a_2).lt (Nat.le_of_eq g4.symm))
  have sz_b4 : h0.size ≤ b4 := Nat.le_trans Kp2.1 (Nat.le_of_eq g4.symm)
  have O4 : Old Z n0 h4 := O2.ext E4
  have Kp4 : Keep h0 h4 [a] := Kp2.ext E4
  have X_a_4 := X_a_2.ext E4
  have F_a_counts_4 := F_a_counts_2.ext E4
  have V_b4 : Arv Z h4 b4 k4 .long (4 : Int32) [(.long (0 : Int64)), (.long (0 : Int64)), (.long (0 : Int64)), (.long (0 : Int64))] (.long (0 : Int64)) := (Arv.new A4 (by decide)).pad (pad_rep [] (.long (0 : Int64)) 4)
  obtain ⟨T5, h5, X5, e5, W5, st5⟩ := putF X4 hx hZ hown (host := "") (Or.inl (ww hw 30 rfl)) Via.refl e4 F_a_counts_4 X_a_4 (Or.inr ⟨(ww hw 31 rfl), rfl, hnm⟩) (ww hw 1 rfl) (ty := (.array .long)) (by decide) (by first | rfl | decide) (by first | rfl | decide) (g := (mkF m 11 #[vr a] [xr b4, xr a])) rfl rfl (hb hby d1_11)
  have O5 : Old Z n0 h5 := O4.wr W5 g_a
  have Kp5 : Keep h0 h5 [a] := Kp4.wr W5 (Or.inl (by simp))
  have V_b4_5 := V_b4.other W5 (Ne.symm ne_a_b4)
  have X_a_5 := X_a_4.wr W5
  have F_a_counts_5 := F_a_counts_4.same W5
  have N5 := Fr.snoc X5 N2 g_a
  obtain ⟨fs, hr, hrun, hended, hW, hsame⟩ := X5.leave (v := none) (fun _ => rfl)
  refine ⟨_, _, pre0 _ ?_, hrun, hended, _, _, rfl, ?_, ⟨_, rfl⟩, hW, hsame.mono (by decide) (by decide)⟩
  · show own_S p e below s₁ (mkF m 0 #[vr a] []) _
    refine XS.aloadN X0.here hx rfl (hb hby d1_0) rfl rfl ?_
    show own_S p e below s₁ (mkF m 1 #[vr a] [xr a]) _
    refine st1 _ ?_
    show own_S p e below T1 (mkF m 4 #[vr a] []) _
    refine XS.aloadN X1.here hx rfl (hb hby d1_4) rfl rfl ?_
    show own_S p e below T1 (mkF m 5 #[vr a] [xr a]) _
    refine st2 _ ?_
    show own_S p e below T2 (mkF m 8 #[vr a] [xr bq2, xr a]) _
    refine X2.arraylength hx (by rw [e2]; exact Aq2.1) (State.isArrayOf_alike hZ.alike Aq2.2.1) (g := (mkF m 8 #[vr a] [xr bq2, xr a])) rfl rfl (hb hby d1_8) _ ?_
    refine castTop (show (mkF m 9 #[vr a] [xi cc2.slots.size.toInt32, xr a]) = (mkF m 9 #[vr a] [xi (4 : Int32), xr a]) from by rw [Sq2]; rfl) ?_
    show own_S p e below T2 (mkF m 9 #[vr a] [xi (4 : Int32), xr a]) _
    refine st4 _ ?_
    show own_S p e below T4 (mkF m 11 #[vr a] [xr b4, xr a]) _
    refine st5 _ ?_
    show own_S p e below T5 (mkF m 14 #[vr a] []) _
    exact X5.returnOut hx Bd.returns (hb hby d1_14) hr
  · show (own_QI Z h0 n0 a) _ T5.heap _
    rw [e5]
    exact ⟨rfl, N5, Kp5, b4, k4, X_a_5, F_a_counts_5, V_b4_5, ne_a_b4, g_a, g_b4⟩
theorem d6_0 : decode prog_16_method_2_code 0 = .ok (.aload_n 0, 1) := by decide +kernel
theorem d6_1 : decode prog_16_method_2_code 1 = .ok (.getfield 13, 3) := by decide +kernel
theorem d6_4 : decode prog_16_method_2_code 4 = .ok (.aload_n 1, 1) := by decide +kernel
theorem d6_5 : decode prog_16_method_2_code 5 = .ok (.invokevirtual 19, 3) := by decide +kernel
theorem d7_0 : decode jdk_37_method_2_code 0 = .ok (.aload_n 0, 1) := by decide +kernel
theorem d7_1 : decode jdk_37_method_2_code 1 = .ok (.getfield 7, 3) := by decide +kernel
theorem d7_4 : decode jdk_37_method_2_code 4 = .ok (.ireturn, 1) := by decide +kernel
abbrev Y2 : MethodName := (⟨"java/lang/Enum", "ordinal", "()I"⟩ : MethodName)
theorem pn2 : plainName "java/lang/Enum" = true := by first | (simp [plainName, overriddenIn]; done) | decide +kernel
theorem ef_own_c0_ordinal (m : MethodId) (u0 u1 u2 u3 u4 : Addr) : entryFrame m #[xr u1] 1 = (mkF m 0 #[vr u1] []) := by first | (simp [entryFrame, mkF, argsToLocals, Value.category]; done) | rfl
set_option maxRecDepth 65536 in
set_option maxHeartbeats 40000000 in
theorem own_c0_ordinal (l : Launch) (Z : State) (a0 : Array Value) (hw : ∀ d ∈ tables_1, d.before a0 Z = true) (u0 u1 u2 u3 u4 : Addr) (G : own_St Z u0 u1 u2 u3 u4) (h0 : Heap) (n0 : Nat) (O0 : Old Z n0 h0) : own_Met l Z Y2 jdk_37_method_2_code 1 (some .int) ({ frames := 0, cells := 0, slots := 0, locals := 0 } : Room) #[xr u1] h0 (own_QR (some (xi (0 : Int32))) h0 n0) := by
  intro ws
  refine MetFree.of_bodySF (plainFor_of_name pn2) hisR ?_
  intro p e s m args below meth c s₁ Bd hml0 hP hK
  obtain ⟨rfl, hZ, hh⟩ := hP
  have hx := Bd.exec
  have hby := Bd.bytes
  have hml : c.maxLocals = 1 := hml0
  have hown : s.vm.findClass "java/lang/Enum" = some m.cls := findClass_of_methodNamed Bd.named
  have hnm := (name_of_methodNamed Bd.named Bd.method).1
  have X0 : Stand p l e ({ frames := 0, cells := 0, slots := 0, locals := 0 } : Room) s m #[xr u1] below meth c s₁ [] 0 0 := Stand.of_body Bd
  have e0 : s₁.heap = h0 := by rw [← hh, Bd.state]; rfl
  have N0 := Fr.nil n0
  have pre0 : ∀ t, Steps p.tables e below (s₁.setTop (mkF m 0 #[vr u1] [])) t → Steps p.tables e below (s₁.setTop (entryFrame m #[xr u1] 1)) t := fun t st => castTop (ef_own_c0_ordinal m u0 u1 u2 u3 u4) st
  obtain ⟨T1, X1, e1, st1⟩ := getF X0 hx hZ hown (host := "") (Or.inl (ww hw 54 rfl)) Via.refl e0 ((own_F_u1_ordinal G).ext O0.2) (g := (mkF m 1 #[vr u1] [xr u1])) rfl rfl (hb hby d7_1)
  obtain ⟨fs, hr, hrun, hended, hW, hsame⟩ := X1.leave (v := some (xi (0 : Int32))) (fun h => by rw [Bd.returns] at h; cases h)
  refine ⟨_, _, pre0 _ ?_, hrun, hended, _, _, rfl, ?_, ⟨_, rfl⟩, hW, hsame.mono (by decide) (by decide)⟩
  · show own_S p e below s₁ (mkF m 0 #[vr u1] []) _
    refine XS.aloadN X0.here hx rfl (hb hby d7_0) rfl rfl ?_
    show own_S p e below s₁ (mkF m 1 #[vr u1] [xr u1]) _
    refine st1 _ ?_
    show own_S p e below T1 (mkF m 4 #[vr u1] [xi (0 : Int32)]) _
    exact retI X1 hx Bd.returns (hb hby d7_4) hr
  · exact ⟨rfl, N0, e1⟩
theorem pd1 : parseMethodDescriptor "()I" = some ⟨[], some .int⟩ := by decide +kernel
abbrev Y3 : MethodName := (⟨"com/example/feedwright/feedwright/Verdict", "ordinal", "()I"⟩ : MethodName)
theorem d6_8 : decode prog_16_method_2_code 8 = .ok (.dup2, 1) := by decide +kernel
theorem d6_9 : decode prog_16_method_2_code 9 = .ok (.laload, 1) := by decide +kernel
theorem d6_10 : decode prog_16_method_2_code 10 = .ok (.lconst 1, 1) := by decide +kernel
theorem d6_11 : decode prog_16_method_2_code 11 = .ok (.ladd, 1) := by decide +kernel
theorem d6_12 : decode prog_16_method_2_code 12 = .ok (.lastore, 1) := by decide +kernel
theorem d6_13 : decode prog_16_method_2_code 13 = .ok (.return_, 1) := by decide +kernel
abbrev Y4 : MethodName := (⟨"com/example/feedwright/feedwright/LoadSummary", "add", "(Lcom/example/feedwright/feedwright/Verdict;)V"⟩ : MethodName)
theorem ef_own_add0 (m : MethodId) (u0 u1 u2 u3 u4 : Addr) (a : Addr) (b : Addr) (k : ClassId) (c0 : Int64) (c1 : Int64) (c2 : Int64) (c3 : Int64) : entryFrame m #[xr a, xr u1] 2 = (mkF m 0 #[vr a, vr u1] []) := by first | (simp [entryFrame, mkF, argsToLocals, Value.category]; done) | rfl
set_option maxRecDepth 65536 in
set_option maxHeartbeats 40000000 in
theorem own_add0 (l : Launch) (Z : State) (a0 : Array Value) (hw : ∀ d ∈ tables_1, d.before a0 Z = true) (u0 u1 u2 u3 u4 : Addr) (G : own_St Z u0 u1 u2 u3 u4) (a : Addr) (b : Addr) (k : ClassId) (c0 : Int64) (c1 : Int64) (c2 : Int64) (c3 : Int64) (h0 : Heap) (n0 : Nat) (O0 : Old Z n0 h0) (gL : own_LS Z h0 n0 a b k c0 c1 c2 c3) : own_Met l Z Y4 prog_16_method_2_code 2 none ({ frames := 1, cells := 0, slots := 0, locals := 13 } : Room) #[xr a, xr u1] h0 (own_QA Z h0 n0 a b k (c0 + (1 : Int64)) c1 c2 c3) := by
  intro ws
  refine MetFree.of_bodySF (plainFor_of_name pn1) hisR ?_
  intro p e s m args below meth c s₁ Bd hml0 hP hK
  obtain ⟨rfl, hZ, hh⟩ := hP
  have hx := Bd.exec
  have hby := Bd.bytes
  have hml : c.maxLocals = 2 := hml0
  have hown : s.vm.findClass "com/example/feedwright/feedwright/LoadSummary" = some m.cls := findClass_of_methodNamed Bd.named
  have hnm := (name_of_methodNamed Bd.named Bd.method).1
  have X0 : Stand p l e ({ frames := 1, cells := 0, slots := 0, locals := 13 } : Room) s m #[xr a, xr u1] below meth c s₁ [] 0 0 := Stand.of_body Bd
  have e0 : s₁.heap = h0 := by rw [← hh, Bd.state]; rfl
  have N0 := Fr.nil n0
  have pre0 : ∀ t, Steps p.tables e below (s₁.setTop (mkF m 0 #[vr a, vr u1] [])) t → Steps p.tables e below (s₁.setTop (entryFrame m #[xr a, xr u1] 2)) t := fun t st => castTop (ef_own_add0 m u0 u1 u2 u3 u4 a b k c0 c1 c2 c3) st
  obtain ⟨EA, FA, VA, ne_a_b, g_a, g_b⟩ := gL
  obtain ⟨T1, X1, e1, st1⟩ := getF X0 hx hZ hown (host := "") (Or.inl (ww hw 30 rfl)) Via.refl e0 FA (g := (mkF m 1 #[vr a, vr u1] [xr a])) rfl rfl (hb hby d6_1)
  obtain ⟨cq2, kq2, qa2, qb2, qc2⟩ := isOf hZ e1 ((own_X_u1 G).ext O0.2)
  obtain ⟨_, _, ⟨T2, L2, k2, n2⟩, -, X2, ⟨Lc2, hQ2, l2, y2, z2⟩, st2⟩ := X1.virtualBackUp hx (x := Y3) (y := Y2) hown (mvT hZ (ww hw 47 rfl)) (mvT hZ (ww hw 48 rfl)) (mvT hZ (ww hw 49 rfl)) (by decide) (mvT hZ (ww hw 51 rfl)) (mvT hZ (ww hw 50 rfl)) (backOf (W := 1) (own_c0_ordinal l Z a0 hw u0 u1 u2 u3 u4 G h0 n0 O0 []) hZ (ww hw 53 rfl) (ww hw 52 rfl) (by decide) (by decide)) qa2 qc2 (g := (mkF m 5 #[vr a, vr u1] [xr u1, xr b])) rfl (by rw [hml]; rfl) (Steps.refl _) (argsL := []) (rest := [xr b]) (lenOf pd1 rfl) rfl (by show 2 * 0 + _ ≤ _; exact Nat.le_of_eq rfl) (hb hby d6_5) (fun _ _ => ⟨rfl, e1, (by decide : 0 + 0 ≤ _), (by decide : 0 + 0 ≤ _)⟩)
  dsimp only [Pt.U, Pt.locs, Pt.cells, Pt.slots] at X2 l2 y2 z2 st2 hQ2
  subst l2 y2 z2
  obtain ⟨rfl, Nq2, e2⟩ := hQ2
  have N2 := Fr.app N0 Nq2
  obtain ⟨cl3, Ar3, q3, S3, N3_, H3, G3⟩ := id VA
  have hin3 : ¬ ((0 : Int32) < 0 ∨ cl3.slots.size ≤ ((0 : Int32)).toNatClampNeg) := inb_of S3 ⟨by decide, by decide⟩
  have hat3 : cl3.slots[((0 : Int32)).toNatClampNeg]? = some (xj c0) := Has.at H3 hin3 rfl
  obtain ⟨cl4, Ar4, q4, S4, N4_, H4, G4⟩ := id VA
  have hin4 : ¬ ((0 : Int32) < 0 ∨ cl4.slots.size ≤ ((0 : Int32)).toNatClampNeg) := inb_of S4 ⟨by decide, by decide⟩
  obtain ⟨T5, h5, X5, e5, W5, st5⟩ := stJ X2 hx hZ e2 Ar4 (j := (0 : Int32)) hin4 (g := (mkF m 12 #[vr a, vr u1] [xj (c0 + (1 : Int64)), xi (0 : Int32), xr b])) rfl rfl (hb hby d6_12)
  have V_b_5 : Arv Z h5 b k .long (4 : Int32) [xj (c0 + (1 : Int64)), xj c1, xj c2, xj c3] (.long (0 : Int64)) := Arv.set Ar4 q4 S4 N4_ H4 G4 rfl W5 0 rfl (Nat.le_of_ble_eq_true rfl)
  have O5 : Old Z n0 h5 := O0.wr W5 g_b
  have Kp5 : Keep h0 h5 [b] := (Keep.refl h0 [b]).wr W5 (Or.inl (by simp))
  have X_a_5 := EA.wr W5
  have F_a_counts_5 := FA.other W5 (Or.inl ne_a_b)
  have N5 := Fr.snoc X5 N2 g_b
  obtain ⟨fs, hr, hrun, hended, hW, hsame⟩ := X5.leave (v := none) (fun _ => rfl)
  refine ⟨_, _, pre0 _ ?_, hrun, hended, _, _, rfl, ?_, ⟨_, rfl⟩, hW, hsame.mono (by decide) (by decide)⟩
  · show own_S p e below s₁ (mkF m 0 #[vr a, vr u1] []) _
    refine XS.aloadN X0.here hx rfl (hb hby d6_0) rfl rfl ?_
    show own_S p e below s₁ (mkF m 1 #[vr a, vr u1] [xr a]) _
    refine st1 _ ?_
    show own_S p e below T1 (mkF m 4 #[vr a, vr u1] [xr b]) _
    refine XS.aloadN X1.here hx rfl (hb hby d6_4) rfl rfl ?_
    show own_S p e below T1 (mkF m 5 #[vr a, vr u1] [xr u1, xr b]) _
    refine st2.trans ?_
    show own_S p e below T2 (mkF m 8 #[vr a, vr u1] [xi (0 : Int32), xr b]) _
    refine Jvm.Free.XT.dup2 X2.here hx rfl (hb hby d6_8) rfl rfl rfl ?_
    show own_S p e below T2 (mkF m 9 #[vr a, vr u1] [xi (0 : Int32), xr b, xi (0 : Int32), xr b]) _
    refine X2.laload hx (j := (0 : Int32)) (v := (xj c0)) (by rw [e2]; exact Ar3.1) (State.isArrayOf_alike hZ.alike Ar3.2.1) Ar3.2.2 hin3 hat3 (g := (mkF m 9 #[vr a, vr u1] [xi (0 : Int32), xr b, xi (0 : Int32), xr b])) rfl rfl (hb hby d6_9) _ ?_
    show own_S p e below T2 (mkF m 10 #[vr a, vr u1] [xj c0, xi (0 : Int32), xr b]) _
    refine XS.lconst X2.here hx rfl (hb hby d6_10) ?_
    show own_S p e below T2 (mkF m 11 #[vr a, vr u1] [xj (1 : Int64), xj c0, xi (0 : Int32), xr b]) _
    refine XS.ladd X2.here hx rfl (hb hby d6_11) rfl ?_
    show own_S p e below T2 (mkF m 12 #[vr a, vr u1] [xj (c0 + (1 : Int64)), xi (0 : Int32), xr b]) _
    show own_S p e below T2 (mkF m 12 #[vr a, vr u1] [xj (c0 + (1 : Int64)), xi (0 : Int32), xr b]) _
    refine st5 _ ?_
    show own_S p e below T5 (mkF m 13 #[vr a, vr u1] []) _
    exact X5.returnOut hx Bd.returns (hb hby d6_13) hr
  · show (own_QA Z h0 n0 a b k (c0 + (1 : Int64)) c1 c2 c3) _ T5.heap _
    rw [e5]
    exact ⟨rfl, N5, Kp5, ⟨X_a_5, F_a_counts_5, V_b_5, ne_a_b, g_a, g_b⟩⟩
theorem ef_own_c1_ordinal (m : MethodId) (u0 u1 u2 u3 u4 : Addr) : entryFrame m #[xr u2] 1 = (mkF m 0 #[vr u2] []) := by first | (simp [entryFrame, mkF, argsToLocals, Value.category]; done) | rfl
set_option maxRecDepth 65536 in
set_option maxHeartbeats 40000000 in
theorem own_c1_ordinal (l : Launch) (Z : State) (a0 : Array Value) (hw : ∀ d ∈ tables_1, d.before a0 Z = true) (u0 u1 u2 u3 u4 : Addr) (G : own_St Z u0 u1 u2 u3 u4) (h0 : Heap) (n0 : Nat) (O0 : Old Z n0 h0) : own_Met l Z Y2 jdk_37_method_2_code 1 (some .int) ({ frames := 0, cells := 0, slots := 0, locals := 0 } : Room) #[xr u2] h0 (own_QR (some (xi (1 : Int32))) h0 n0) := by
  intro ws
  refine MetFree.of_bodySF (plainFor_of_name pn2) hisR ?_
  intro p e s m args below meth c s₁ Bd hml0 hP hK
  obtain ⟨rfl, hZ, hh⟩ := hP
  have hx := Bd.exec
  have hby := Bd.bytes
  have hml : c.maxLocals = 1 := hml0
  have hown : s.vm.findClass "java/lang/Enum" = some m.cls := findClass_of_methodNamed Bd.named
  have hnm := (name_of_methodNamed Bd.named Bd.method).1
  have X0 : Stand p l e ({ frames := 0, cells := 0, slots := 0, locals := 0 } : Room) s m #[xr u2] below meth c s₁ [] 0 0 := Stand.of_body Bd
  have e0 : s₁.heap = h0 := by rw [← hh, Bd.state]; rfl
  have N0 := Fr.nil n0
  have pre0 : ∀ t, Steps p.tables e below (s₁.setTop (mkF m 0 #[vr u2] [])) t → Steps p.tables e below (s₁.setTop (entryFrame m #[xr u2] 1)) t := fun t st => castTop (ef_own_c1_ordinal m u0 u1 u2 u3 u4) st
  obtain ⟨T1, X1, e1, st1⟩ := getF X0 hx hZ hown (host := "") (Or.inl (ww hw 54 rfl)) Via.refl e0 ((own_F_u2_ordinal G).ext O0.2) (g := (mkF m 1 #[vr u2] [xr u2])) rfl rfl (hb hby d7_1)
  obtain ⟨fs, hr, hrun, hended, hW, hsame⟩ := X1.leave (v := some (xi (1 : Int32))) (fun h => by rw [Bd.returns] at h; cases h)
  refine ⟨_, _, pre0 _ ?_, hrun, hended, _, _, rfl, ?_, ⟨_, rfl⟩, hW, hsame.mono (by decide) (by decide)⟩
  · show own_S p e below s₁ (mkF m 0 #[vr u2] []) _
    refine XS.aloadN X0.here hx rfl (hb hby d7_0) rfl rfl ?_
    show own_S p e below s₁ (mkF m 1 #[vr u2] [xr u2]) _
    refine st1 _ ?_
    show own_S p e below T1 (mkF m 4 #[vr u2] [xi (1 : Int32)]) _
    exact retI X1 hx Bd.returns (hb hby d7_4) hr
  · exact ⟨rfl, N0, e1⟩
theorem ef_own_add1 (m : MethodId) (u0 u1 u2 u3 u4 : Addr) (a : Addr) (b : Addr) (k : ClassId) (c0 : Int64) (c1 : Int64) (c2 : Int64) (c3 : Int64) : entryFrame m #[xr a, xr u2] 2 = (mkF m 0 #[vr a, vr u2] []) := by first | (simp [entryFrame, mkF, argsToLocals, Value.category]; done) | rfl
set_option maxRecDepth 65536 in
set_option maxHeartbeats 40000000 in
theorem own_add1 (l : Launch) (Z : State) (a0 : Array Value) (hw : ∀ d ∈ tables_1, d.before a0 Z = true) (u0 u1 u2 u3 u4 : Addr) (G : own_St Z u0 u1 u2 u3 u4) (a : Addr) (b : Addr) (k : ClassId) (c0 : Int64) (c1 : Int64) (c2 : Int64) (c3 : Int64) (h0 : Heap) (n0 : Nat) (O0 : Old Z n0 h0) (gL : own_LS Z h0 n0 a b k c0 c1 c2 c3) : own_Met l Z Y4 prog_16_method_2_code 2 none ({ frames := 1, cells := 0, slots := 0, locals := 13 } : Room) #[xr a, xr u2] h0 (own_QA Z h0 n0 a b k c0 (c1 + (1 : Int64)) c2 c3) := by
  intro ws
  refine MetFree.of_bodySF (plainFor_of_name pn1) hisR ?_
  intro p e s m args below meth c s₁ Bd hml0 hP hK
  obtain ⟨rfl, hZ, hh⟩ := hP
  have hx := Bd.exec
  have hby := Bd.bytes
  have hml : c.maxLocals = 2 := hml0
  have hown : s.vm.findClass "com/example/feedwright/feedwright/LoadSummary" = some m.cls := findClass_of_methodNamed Bd.named
  have hnm := (name_of_methodNamed Bd.named Bd.method).1
  have X0 : Stand p l e ({ frames := 1, cells := 0, slots := 0, locals := 13 } : Room) s m #[xr a, xr u2] below meth c s₁ [] 0 0 := Stand.of_body Bd
  have e0 : s₁.heap = h0 := by rw [← hh, Bd.state]; rfl
  have N0 := Fr.nil n0
  have pre0 : ∀ t, Steps p.tables e below (s₁.setTop (mkF m 0 #[vr a, vr u2] [])) t → Steps p.tables e below (s₁.setTop (entryFrame m #[xr a, xr u2] 2)) t := fun t st => castTop (ef_own_add1 m u0 u1 u2 u3 u4 a b k c0 c1 c2 c3) st
  obtain ⟨EA, FA, VA, ne_a_b, g_a, g_b⟩ := gL
  obtain ⟨T1, X1, e1, st1⟩ := getF X0 hx hZ hown (host := "") (Or.inl (ww hw 30 rfl)) Via.refl e0 FA (g := (mkF m 1 #[vr a, vr u2] [xr a])) rfl rfl (hb hby d6_1)
  obtain ⟨cq2, kq2, qa2, qb2, qc2⟩ := isOf hZ e1 ((own_X_u2 G).ext O0.2)
  obtain ⟨_, _, ⟨T2, L2, k2, n2⟩, -, X2, ⟨Lc2, hQ2, l2, y2, z2⟩, st2⟩ := X1.virtualBackUp hx (x := Y3) (y := Y2) hown (mvT hZ (ww hw 47 rfl)) (mvT hZ (ww hw 48 rfl)) (mvT hZ (ww hw 49 rfl)) (by decide) (mvT hZ (ww hw 51 rfl)) (mvT hZ (ww hw 50 rfl)) (backOf (W := 1) (own_c1_ordinal l Z a0 hw u0 u1 u2 u3 u4 G h0 n0 O0 []) hZ (ww hw 53 rfl) (ww hw 52 rfl) (by decide) (by decide)) qa2 qc2 (g := (mkF m 5 #[vr a, vr u2] [xr u2, xr b])) rfl (by rw [hml]; rfl) (Steps.refl _) (argsL := []) (rest := [xr b]) (lenOf pd1 rfl) rfl (by show 2 * 0 + _ ≤ _; exact Nat.le_of_eq rfl) (hb hby d6_5) (fun _ _ => ⟨rfl, e1, (by decide : 0 + 0 ≤ _), (by decide : 0 + 0 ≤ _)⟩)
  dsimp only [Pt.U, Pt.locs, Pt.cells, Pt.slots] at X2 l2 y2 z2 st2 hQ2
  subst l2 y2 z2
  obtain ⟨rfl, Nq2, e2⟩ := hQ2
  have N2 := Fr.app N0 Nq2
  obtain ⟨cl3, Ar3, q3, S3, N3_, H3, G3⟩ := id VA
  have hin3 : ¬ ((1 : Int32) < 0 ∨ cl3.slots.size ≤ ((1 : Int32)).toNatClampNeg) := inb_of S3 ⟨by decide, by decide⟩
  have hat3 : cl3.slots[((1 : Int32)).toNatClampNeg]? = some (xj c1) := Has.at H3 hin3 rfl
  obtain ⟨cl4, Ar4, q4, S4, N4_, H4, G4⟩ := id VA
  have hin4 : ¬ ((1 : Int32) < 0 ∨ cl4.slots.size ≤ ((1 : Int32)).toNatClampNeg) := inb_of S4 ⟨by decide, by decide⟩
  obtain ⟨T5, h5, X5, e5, W5, st5⟩ := stJ X2 hx hZ e2 Ar4 (j := (1 : Int32)) hin4 (g := (mkF m 12 #[vr a, vr u2] [xj (c1 + (1 : Int64)), xi (1 : Int32), xr b])) rfl rfl (hb hby d6_12)
  have V_b_5 : Arv Z h5 b k .long (4 : Int32) [xj c0, xj (c1 + (1 : Int64)), xj c2, xj c3] (.long (0 : Int64)) := Arv.set Ar4 q4 S4 N4_ H4 G4 rfl W5 1 rfl (Nat.le_of_ble_eq_true rfl)
  have O5 : Old Z n0 h5 := O0.wr W5 g_b
  have Kp5 : Keep h0 h5 [b] := (Keep.refl h0 [b]).wr W5 (Or.inl (by simp))
  have X_a_5 := EA.wr W5
  have F_a_counts_5 := FA.other W5 (Or.inl ne_a_b)
  have N5 := Fr.snoc X5 N2 g_b
  obtain ⟨fs, hr, hrun, hended, hW, hsame⟩ := X5.leave (v := none) (fun _ => rfl)
  refine ⟨_, _, pre0 _ ?_, hrun, hended, _, _, rfl, ?_, ⟨_, rfl⟩, hW, hsame.mono (by decide) (by decide)⟩
  · show own_S p e below s₁ (mkF m 0 #[vr a, vr u2] []) _
    refine XS.aloadN X0.here hx rfl (hb hby d6_0) rfl rfl ?_
    show own_S p e below s₁ (mkF m 1 #[vr a, vr u2] [xr a]) _
    refine st1 _ ?_
    show own_S p e below T1 (mkF m 4 #[vr a, vr u2] [xr b]) _
    refine XS.aloadN X1.here hx rfl (hb hby d6_4) rfl rfl ?_
    show own_S p e below T1 (mkF m 5 #[vr a, vr u2] [xr u2, xr b]) _
    refine st2.trans ?_
    show own_S p e below T2 (mkF m 8 #[vr a, vr u2] [xi (1 : Int32), xr b]) _
    refine Jvm.Free.XT.dup2 X2.here hx rfl (hb hby d6_8) rfl rfl rfl ?_
    show own_S p e below T2 (mkF m 9 #[vr a, vr u2] [xi (1 : Int32), xr b, xi (1 : Int32), xr b]) _
    refine X2.laload hx (j := (1 : Int32)) (v := (xj c1)) (by rw [e2]; exact Ar3.1) (State.isArrayOf_alike hZ.alike Ar3.2.1) Ar3.2.2 hin3 hat3 (g := (mkF m 9 #[vr a, vr u2] [xi (1 : Int32), xr b, xi (1 : Int32), xr b])) rfl rfl (hb hby d6_9) _ ?_
    show own_S p e below T2 (mkF m 10 #[vr a, vr u2] [xj c1, xi (1 : Int32), xr b]) _
    refine XS.lconst X2.here hx rfl (hb hby d6_10) ?_
    show own_S p e below T2 (mkF m 11 #[vr a, vr u2] [xj (1 : Int64), xj c1, xi (1 : Int32), xr b]) _
    refine XS.ladd X2.here hx rfl (hb hby d6_11) rfl ?_
    show own_S p e below T2 (mkF m 12 #[vr a, vr u2] [xj (c1 + (1 : Int64)), xi (1 : Int32), xr b]) _
    show own_S p e below T2 (mkF m 12 #[vr a, vr u2] [xj (c1 + (1 : Int64)), xi (1 : Int32), xr b]) _
    refine st5 _ ?_
    show own_S p e below T5 (mkF m 13 #[vr a, vr u2] []) _
    exact X5.returnOut hx Bd.returns (hb hby d6_13) hr
  · show (own_QA Z h0 n0 a b k c0 (c1 + (1 : Int64)) c2 c3) _ T5.heap _
    rw [e5]
    exact ⟨rfl, N5, Kp5, ⟨X_a_5, F_a_counts_5, V_b_5, ne_a_b, g_a, g_b⟩⟩
theorem ef_own_c2_ordinal (m : MethodId) (u0 u1 u2 u3 u4 : Addr) : entryFrame m #[xr u3] 1 = (mkF m 0 #[vr u3] []) := by first | (simp [entryFrame, mkF, argsToLocals, Value.category]; done) | rfl
set_option maxRecDepth 65536 in
set_option maxHeartbeats 40000000 in
theorem own_c2_ordinal (l : Launch) (Z : State) (a0 : Array Value) (hw : ∀ d ∈ tables_1, d.before a0 Z = true) (u0 u1 u2 u3 u4 : Addr) (G : own_St Z u0 u1 u2 u3 u4) (h0 : Heap) (n0 : Nat) (O0 : Old Z n0 h0) : own_Met l Z Y2 jdk_37_method_2_code 1 (some .int) ({ frames := 0, cells := 0, slots := 0, locals := 0 } : Room) #[xr u3] h0 (own_QR (some (xi (2 : Int32))) h0 n0) := by
  intro ws
  refine MetFree.of_bodySF (plainFor_of_name pn2) hisR ?_
  intro p e s m args below meth c s₁ Bd hml0 hP hK
  obtain ⟨rfl, hZ, hh⟩ := hP
  have hx := Bd.exec
  have hby := Bd.bytes
  have hml : c.maxLocals = 1 := hml0
  have hown : s.vm.findClass "java/lang/Enum" = some m.cls := findClass_of_methodNamed Bd.named
  have hnm := (name_of_methodNamed Bd.named Bd.method).1
  have X0 : Stand p l e ({ frames := 0, cells := 0, slots := 0, locals := 0 } : Room) s m #[xr u3] below meth c s₁ [] 0 0 := Stand.of_body Bd
  have e0 : s₁.heap = h0 := by rw [← hh, Bd.state]; rfl
  have N0 := Fr.nil n0
  have pre0 : ∀ t, Steps p.tables e below (s₁.setTop (mkF m 0 #[vr u3] [])) t → Steps p.tables e below (s₁.setTop (entryFrame m #[xr u3] 1)) t := fun t st => castTop (ef_own_c2_ordinal m u0 u1 u2 u3 u4) st
  obtain ⟨T1, X1, e1, st1⟩ := getF X0 hx hZ hown (host := "") (Or.inl (ww hw 54 rfl)) Via.refl e0 ((own_F_u3_ordinal G).ext O0.2) (g := (mkF m 1 #[vr u3] [xr u3])) rfl rfl (hb hby d7_1)
  obtain ⟨fs, hr, hrun, hended, hW, hsame⟩ := X1.leave (v := some (xi (2 : Int32))) (fun h => by rw [Bd.returns] at h; cases h)
  refine ⟨_, _, pre0 _ ?_, hrun, hended, _, _, rfl, ?_, ⟨_, rfl⟩, hW, hsame.mono (by decide) (by decide)⟩
  · show own_S p e below s₁ (mkF m 0 #[vr u3] []) _
    refine XS.aloadN X0.here hx rfl (hb hby d7_0) rfl rfl ?_
    show own_S p e below s₁ (mkF m 1 #[vr u3] [xr u3]) _
    refine st1 _ ?_
    show own_S p e below T1 (mkF m 4 #[vr u3] [xi (2 : Int32)]) _
    exact retI X1 hx Bd.returns (hb hby d7_4) hr
  · exact ⟨rfl, N0, e1⟩
theorem ef_own_add2 (m : MethodId) (u0 u1 u2 u3 u4 : Addr) (a : Addr) (b : Addr) (k : ClassId) (c0 : Int64) (c1 : Int64) (c2 : Int64) (c3 : Int64) : entryFrame m #[xr a, xr u3] 2 = (mkF m 0 #[vr a, vr u3] []) := by first | (simp [entryFrame, mkF, argsToLocals, Value.category]; done) | rfl
set_option maxRecDepth 65536 in
set_option maxHeartbeats 40000000 in
theorem own_add2 (l : Launch) (Z : State) (a0 : Array Value) (hw : ∀ d ∈ tables_1, d.before a0 Z = true) (u0 u1 u2 u3 u4 : Addr) (G : own_St Z u0 u1 u2 u3 u4) (a : Addr) (b : Addr) (k : ClassId) (c0 : Int64) (c1 : Int64) (c2 : Int64) (c3 : Int64) (h0 : Heap) (n0 : Nat) (O0 : Old Z n0 h0) (gL : own_LS Z h0 n0 a b k c0 c1 c2 c3) : own_Met l Z Y4 prog_16_method_2_code 2 none ({ frames := 1, cells := 0, slots := 0, locals := 13 } : Room) #[xr a, xr u3] h0 (own_QA Z h0 n0 a b k c0 c1 (c2 + (1 : Int64)) c3) := by
  intro ws
  refine MetFree.of_bodySF (plainFor_of_name pn1) hisR ?_
  intro p e s m args below meth c s₁ Bd hml0 hP hK
  obtain ⟨rfl, hZ, hh⟩ := hP
  have hx := Bd.exec
  have hby := Bd.bytes
  have hml : c.maxLocals = 2 := hml0
  have hown : s.vm.findClass "com/example/feedwright/feedwright/LoadSummary" = some m.cls := findClass_of_methodNamed Bd.named
  have hnm := (name_of_methodNamed Bd.named Bd.method).1
  have X0 : Stand p l e ({ frames := 1, cells := 0, slots := 0, locals := 13 } : Room) s m #[xr a, xr u3] below meth c s₁ [] 0 0 := Stand.of_body Bd
  have e0 : s₁.heap = h0 := by rw [← hh, Bd.state]; rfl
  have N0 := Fr.nil n0
  have pre0 : ∀ t, Steps p.tables e below (s₁.setTop (mkF m 0 #[vr a, vr u3] [])) t → Steps p.tables e below (s₁.setTop (entryFrame m #[xr a, xr u3] 2)) t := fun t st => castTop (ef_own_add2 m u0 u1 u2 u3 u4 a b k c0 c1 c2 c3) st
  obtain ⟨EA, FA, VA, ne_a_b, g_a, g_b⟩ := gL
  obtain ⟨T1, X1, e1, st1⟩ := getF X0 hx hZ hown (host := "") (Or.inl (ww hw 30 rfl)) Via.refl e0 FA (g := (mkF m 1 #[vr a, vr u3] [xr a])) rfl rfl (hb hby d6_1)
  obtain ⟨cq2, kq2, qa2, qb2, qc2⟩ := isOf hZ e1 ((own_X_u3 G).ext O0.2)
  obtain ⟨_, _, ⟨T2, L2, k2, n2⟩, -, X2, ⟨Lc2, hQ2, l2, y2, z2⟩, st2⟩ := X1.virtualBackUp hx (x := Y3) (y := Y2) hown (mvT hZ (ww hw 47 rfl)) (mvT hZ (ww hw 48 rfl)) (mvT hZ (ww hw 49 rfl)) (by decide) (mvT hZ (ww hw 51 rfl)) (mvT hZ (ww hw 50 rfl)) (backOf (W := 1) (own_c2_ordinal l Z a0 hw u0 u1 u2 u3 u4 G h0 n0 O0 []) hZ (ww hw 53 rfl) (ww hw 52 rfl) (by decide) (by decide)) qa2 qc2 (g := (mkF m 5 #[vr a, vr u3] [xr u3, xr b])) rfl (by rw [hml]; rfl) (Steps.refl _) (argsL := []) (rest := [xr b]) (lenOf pd1 rfl) rfl (by show 2 * 0 + _ ≤ _; exact Nat.le_of_eq rfl) (hb hby d6_5) (fun _ _ => ⟨rfl, e1, (by decide : 0 + 0 ≤ _), (by decide : 0 + 0 ≤ _)⟩)
  dsimp only [Pt.U, Pt.locs, Pt.cells, Pt.slots] at X2 l2 y2 z2 st2 hQ2
  subst l2 y2 z2
  obtain ⟨rfl, Nq2, e2⟩ := hQ2
  have N2 := Fr.app N0 Nq2
  obtain ⟨cl3, Ar3, q3, S3, N3_, H3, G3⟩ := id VA
  have hin3 : ¬ ((2 : Int32) < 0 ∨ cl3.slots.size ≤ ((2 : Int32)).toNatClampNeg) := inb_of S3 ⟨by decide, by decide⟩
  have hat3 : cl3.slots[((2 : Int32)).toNatClampNeg]? = some (xj c2) := Has.at H3 hin3 rfl
  obtain ⟨cl4, Ar4, q4, S4, N4_, H4, G4⟩ := id VA
  have hin4 : ¬ ((2 : Int32) < 0 ∨ cl4.slots.size ≤ ((2 : Int32)).toNatClampNeg) := inb_of S4 ⟨by decide, by decide⟩
  obtain ⟨T5, h5, X5, e5, W5, st5⟩ := stJ X2 hx hZ e2 Ar4 (j := (2 : Int32)) hin4 (g := (mkF m 12 #[vr a, vr u3] [xj (c2 + (1 : Int64)), xi (2 : Int32), xr b])) rfl rfl (hb hby d6_12)
  have V_b_5 : Arv Z h5 b k .long (4 : Int32) [xj c0, xj c1, xj (c2 + (1 : Int64)), xj c3] (.long (0 : Int64)) := Arv.set Ar4 q4 S4 N4_ H4 G4 rfl W5 2 rfl (Nat.le_of_ble_eq_true rfl)
  have O5 : Old Z n0 h5 := O0.wr W5 g_b
  have Kp5 : Keep h0 h5 [b] := (Keep.refl h0 [b]).wr W5 (Or.inl (by simp))
  have X_a_5 := EA.wr W5
  have F_a_counts_5 := FA.other W5 (Or.inl ne_a_b)
  have N5 := Fr.snoc X5 N2 g_b
  obtain ⟨fs, hr, hrun, hended, hW, hsame⟩ := X5.leave (v := none) (fun _ => rfl)
  refine ⟨_, _, pre0 _ ?_, hrun, hended, _, _, rfl, ?_, ⟨_, rfl⟩, hW, hsame.mono (by decide) (by decide)⟩
  · show own_S p e below s₁ (mkF m 0 #[vr a, vr u3] []) _
    refine XS.aloadN X0.here hx rfl (hb hby d6_0) rfl rfl ?_
    show own_S p e below s₁ (mkF m 1 #[vr a, vr u3] [xr a]) _
    refine st1 _ ?_
    show own_S p e below T1 (mkF m 4 #[vr a, vr u3] [xr b]) _
    refine XS.aloadN X1.here hx rfl (hb hby d6_4) rfl rfl ?_
    show own_S p e below T1 (mkF m 5 #[vr a, vr u3] [xr u3, xr b]) _
    refine st2.trans ?_
    show own_S p e below T2 (mkF m 8 #[vr a, vr u3] [xi (2 : Int32), xr b]) _
    refine Jvm.Free.XT.dup2 X2.here hx rfl (hb hby d6_8) rfl rfl rfl ?_
    show own_S p e below T2 (mkF m 9 #[vr a, vr u3] [xi (2 : Int32), xr b, xi (2 : Int32), xr b]) _
    refine X2.laload hx (j := (2 : Int32)) (v := (xj c2)) (by rw [e2]; exact Ar3.1) (State.isArrayOf_alike hZ.alike Ar3.2.1) Ar3.2.2 hin3 hat3 (g := (mkF m 9 #[vr a, vr u3] [xi (2 : Int32), xr b, xi (2 : Int32), xr b])) rfl rfl (hb hby d6_9) _ ?_
    show own_S p e below T2 (mkF m 10 #[vr a, vr u3] [xj c2, xi (2 : Int32), xr b]) _
    refine XS.lconst X2.here hx rfl (hb hby d6_10) ?_
    show own_S p e below T2 (mkF m 11 #[vr a, vr u3] [xj (1 : Int64), xj c2, xi (2 : Int32), xr b]) _
    refine XS.ladd X2.here hx rfl (hb hby d6_11) rfl ?_
    show own_S p e below T2 (mkF m 12 #[vr a, vr u3] [xj (c2 + (1 : Int64)), xi (2 : Int32), xr b]) _
    show own_S p e below T2 (mkF m 12 #[vr a, vr u3] [xj (c2 + (1 : Int64)), xi (2 : Int32), xr b]) _
    refine st5 _ ?_
    show own_S p e below T5 (mkF m 13 #[vr a, vr u3] []) _
    exact X5.returnOut hx Bd.returns (hb hby d6_13) hr
  · show (own_QA Z h0 n0 a b k c0 c1 (c2 + (1 : Int64)) c3) _ T5.heap _
    rw [e5]
    exact ⟨rfl, N5, Kp5, ⟨X_a_5, F_a_counts_5, V_b_5, ne_a_b, g_a, g_b⟩⟩
theorem ef_own_c3_ordinal (m : MethodId) (u0 u1 u2 u3 u4 : Addr) : entryFrame m #[xr u4] 1 = (mkF m 0 #[vr u4] []) := by first | (simp [entryFrame, mkF, argsToLocals, Value.category]; done) | rfl
set_option maxRecDepth 65536 in
set_option maxHeartbeats 40000000 in
theorem own_c3_ordinal (l : Launch) (Z : State) (a0 : Array Value) (hw : ∀ d ∈ tables_1, d.before a0 Z = true) (u0 u1 u2 u3 u4 : Addr) (G : own_St Z u0 u1 u2 u3 u4) (h0 : Heap) (n0 : Nat) (O0 : Old Z n0 h0) : own_Met l Z Y2 jdk_37_method_2_code 1 (some .int) ({ frames := 0, cells := 0, slots := 0, locals := 0 } : Room) #[xr u4] h0 (own_QR (some (xi (3 : Int32))) h0 n0) := by
  intro ws
  refine MetFree.of_bodySF (plainFor_of_name pn2) hisR ?_
  intro p e s m args below meth c s₁ Bd hml0 hP hK
  obtain ⟨rfl, hZ, hh⟩ := hP
  have hx := Bd.exec
  have hby := Bd.bytes
  have hml : c.maxLocals = 1 := hml0
  have hown : s.vm.findClass "java/lang/Enum" = some m.cls := findClass_of_methodNamed Bd.named
  have hnm := (name_of_methodNamed Bd.named Bd.method).1
  have X0 : Stand p l e ({ frames := 0, cells := 0, slots := 0, locals := 0 } : Room) s m #[xr u4] below meth c s₁ [] 0 0 := Stand.of_body Bd
  have e0 : s₁.heap = h0 := by rw [← hh, Bd.state]; rfl
  have N0 := Fr.nil n0
  have pre0 : ∀ t, Steps p.tables e below (s₁.setTop (mkF m 0 #[vr u4] [])) t → Steps p.tables e below (s₁.setTop (entryFrame m #[xr u4] 1)) t := fun t st => castTop (ef_own_c3_ordinal m u0 u1 u2 u3 u4) st
  obtain ⟨T1, X1, e1, st1⟩ := getF X0 hx hZ hown (host := "") (Or.inl (ww hw 54 rfl)) Via.refl e0 ((own_F_u4_ordinal G).ext O0.2) (g := (mkF m 1 #[vr u4] [xr u4])) rfl rfl (hb hby d7_1)
  obtain ⟨fs, hr, hrun, hended, hW, hsame⟩ := X1.leave (v := some (xi (3 : Int32))) (fun h => by rw [Bd.returns] at h; cases h)
  refine ⟨_, _, pre0 _ ?_, hrun, hended, _, _, rfl, ?_, ⟨_, rfl⟩, hW, hsame.mono (by decide) (by decide)⟩
  · show own_S p e below s₁ (mkF m 0 #[vr u4] []) _
    refine XS.aloadN X0.here hx rfl (hb hby d7_0) rfl rfl ?_
    show own_S p e below s₁ (mkF m 1 #[vr u4] [xr u4]) _
    refine st1 _ ?_
    show own_S p e below T1 (mkF m 4 #[vr u4] [xi (3 : Int32)]) _
    exact retI X1 hx Bd.returns (hb hby d7_4) hr
  · exact ⟨rfl, N0, e1⟩
theorem ef_own_add3 (m : MethodId) (u0 u1 u2 u3 u4 : Addr) (a : Addr) (b : Addr) (k : ClassId) (c0 : Int64) (c1 : Int64) (c2 : Int64) (c3 : Int64) : entryFrame m #[xr a, xr u4] 2 = (mkF m 0 #[vr a, vr u4] []) := by first | (simp [entryFrame, mkF, argsToLocals, Value.category]; done) | rfl
set_option maxRecDepth 65536 in
set_option maxHeartbeats 40000000 in
theorem own_add3 (l : Launch) (Z : State) (a0 : Array Value) (hw : ∀ d ∈ tables_1, d.before a0 Z = true) (u0 u1 u2 u3 u4 : Addr) (G : own_St Z u0 u1 u2 u3 u4) (a : Addr) (b : Addr) (k : ClassId) (c0 : Int64) (c1 : Int64) (c2 : Int64) (c3 : Int64) (h0 : Heap) (n0 : Nat) (O0 : Old Z n0 h0) (gL : own_LS Z h0 n0 a b k c0 c1 c2 c3) : own_Met l Z Y4 prog_16_method_2_code 2 none ({ frames := 1, cells := 0, slots := 0, locals := 13 } : Room) #[xr a, xr u4] h0 (own_QA Z h0 n0 a b k c0 c1 c2 (c3 + (1 : Int64))) := by
  intro ws
  refine MetFree.of_bodySF (plainFor_of_name pn1) hisR ?_
  intro p e s m args below meth c s₁ Bd hml0 hP hK
  obtain ⟨rfl, hZ, hh⟩ := hP
  have hx := Bd.exec
  have hby := Bd.bytes
  have hml : c.maxLocals = 2 := hml0
  have hown : s.vm.findClass "com/example/feedwright/feedwright/LoadSummary" = some m.cls := findClass_of_methodNamed Bd.named
  have hnm := (name_of_methodNamed Bd.named Bd.method).1
  have X0 : Stand p l e ({ frames := 1, cells := 0, slots := 0, locals := 13 } : Room) s m #[xr a, xr u4] below meth c s₁ [] 0 0 := Stand.of_body Bd
  have e0 : s₁.heap = h0 := by rw [← hh, Bd.state]; rfl
  have N0 := Fr.nil n0
  have pre0 : ∀ t, Steps p.tables e below (s₁.setTop (mkF m 0 #[vr a, vr u4] [])) t → Steps p.tables e below (s₁.setTop (entryFrame m #[xr a, xr u4] 2)) t := fun t st => castTop (ef_own_add3 m u0 u1 u2 u3 u4 a b k c0 c1 c2 c3) st
  obtain ⟨EA, FA, VA, ne_a_b, g_a, g_b⟩ := gL
  obtain ⟨T1, X1, e1, st1⟩ := getF X0 hx hZ hown (host := "") (Or.inl (ww hw 30 rfl)) Via.refl e0 FA (g := (mkF m 1 #[vr a, vr u4] [xr a])) rfl rfl (hb hby d6_1)
  obtain ⟨cq2, kq2, qa2, qb2, qc2⟩ := isOf hZ e1 ((own_X_u4 G).ext O0.2)
  obtain ⟨_, _, ⟨T2, L2, k2, n2⟩, -, X2, ⟨Lc2, hQ2, l2, y2, z2⟩, st2⟩ := X1.virtualBackUp hx (x := Y3) (y := Y2) hown (mvT hZ (ww hw 47 rfl)) (mvT hZ (ww hw 48 rfl)) (mvT hZ (ww hw 49 rfl)) (by decide) (mvT hZ (ww hw 51 rfl)) (mvT hZ (ww hw 50 rfl)) (backOf (W := 1) (own_c3_ordinal l Z a0 hw u0 u1 u2 u3 u4 G h0 n0 O0 []) hZ (ww hw 53 rfl) (ww hw 52 rfl) (by decide) (by decide)) qa2 qc2 (g := (mkF m 5 #[vr a, vr u4] [xr u4, xr b])) rfl (by rw [hml]; rfl) (Steps.refl _) (argsL := []) (rest := [xr b]) (lenOf pd1 rfl) rfl (by show 2 * 0 + _ ≤ _; exact Nat.le_of_eq rfl) (hb hby d6_5) (fun _ _ => ⟨rfl, e1, (by decide : 0 + 0 ≤ _), (by decide : 0 + 0 ≤ _)⟩)
  dsimp only [Pt.U, Pt.locs, Pt.cells, Pt.slots] at X2 l2 y2 z2 st2 hQ2
  subst l2 y2 z2
  obtain ⟨rfl, Nq2, e2⟩ := hQ2
  have N2 := Fr.app N0 Nq2
  obtain ⟨cl3, Ar3, q3, S3, N3_, H3, G3⟩ := id VA
  have hin3 : ¬ ((3 : Int32) < 0 ∨ cl3.slots.size ≤ ((3 : Int32)).toNatClampNeg) := inb_of S3 ⟨by decide, by decide⟩
  have hat3 : cl3.slots[((3 : Int32)).toNatClampNeg]? = some (xj c3) := Has.at H3 hin3 rfl
  obtain ⟨cl4, Ar4, q4, S4, N4_, H4, G4⟩ := id VA
  have hin4 : ¬ ((3 : Int32) < 0 ∨ cl4.slots.size ≤ ((3 : Int32)).toNatClampNeg) := inb_of S4 ⟨by decide, by decide⟩
  obtain ⟨T5, h5, X5, e5, W5, st5⟩ := stJ X2 hx hZ e2 Ar4 (j := (3 : Int32)) hin4 (g := (mkF m 12 #[vr a, vr u4] [xj (c3 + (1 : Int64)), xi (3 : Int32), xr b])) rfl rfl (hb hby d6_12)
  have V_b_5 : Arv Z h5 b k .long (4 : Int32) [xj c0, xj c1, xj c2, xj (c3 + (1 : Int64))] (.long (0 : Int64)) := Arv.set Ar4 q4 S4 N4_ H4 G4 rfl W5 3 rfl (Nat.le_of_ble_eq_true rfl)
  have O5 : Old Z n0 h5 := O0.wr W5 g_b
  have Kp5 : Keep h0 h5 [b] := (Keep.refl h0 [b]).wr W5 (Or.inl (by simp))
  have X_a_5 := EA.wr W5
  have F_a_counts_5 := FA.other W5 (Or.inl ne_a_b)
  have N5 := Fr.snoc X5 N2 g_b
  obtain ⟨fs, hr, hrun, hended, hW, hsame⟩ := X5.leave (v := none) (fun _ => rfl)
  refine ⟨_, _, pre0 _ ?_, hrun, hended, _, _, rfl, ?_, ⟨_, rfl⟩, hW, hsame.mono (by decide) (by decide)⟩
  · show own_S p e below s₁ (mkF m 0 #[vr a, vr u4] []) _
    refine XS.aloadN X0.here hx rfl (hb hby d6_0) rfl rfl ?_
    show own_S p e below s₁ (mkF m 1 #[vr a, vr u4] [xr a]) _
    refine st1 _ ?_
    show own_S p e below T1 (mkF m 4 #[vr a, vr u4] [xr b]) _
    refine XS.aloadN X1.here hx rfl (hb hby d6_4) rfl rfl ?_
    show own_S p e below T1 (mkF m 5 #[vr a, vr u4] [xr u4, xr b]) _
    refine st2.trans ?_
    show own_S p e below T2 (mkF m 8 #[vr a, vr u4] [xi (3 : Int32), xr b]) _
    refine Jvm.Free.XT.dup2 X2.here hx rfl (hb hby d6_8) rfl rfl rfl ?_
    show own_S p e below T2 (mkF m 9 #[vr a, vr u4] [xi (3 : Int32), xr b, xi (3 : Int32), xr b]) _
    refine X2.laload hx (j := (3 : Int32)) (v := (xj c3)) (by rw [e2]; exact Ar3.1) (State.isArrayOf_alike hZ.alike Ar3.2.1) Ar3.2.2 hin3 hat3 (g := (mkF m 9 #[vr a, vr u4] [xi (3 : Int32), xr b, xi (3 : Int32), xr b])) rfl rfl (hb hby d6_9) _ ?_
    show own_S p e below T2 (mkF m 10 #[vr a, vr u4] [xj c3, xi (3 : Int32), xr b]) _
    refine XS.lconst X2.here hx rfl (hb hby d6_10) ?_
    show own_S p e below T2 (mkF m 11 #[vr a, vr u4] [xj (1 : Int64), xj c3, xi (3 : Int32), xr b]) _
    refine XS.ladd X2.here hx rfl (hb hby d6_11) rfl ?_
    show own_S p e below T2 (mkF m 12 #[vr a, vr u4] [xj (c3 + (1 : Int64)), xi (3 : Int32), xr b]) _
    show own_S p e below T2 (mkF m 12 #[vr a, vr u4] [xj (c3 + (1 : Int64)), xi (3 : Int32), xr b]) _
    refine st5 _ ?_
    show own_S p e below T5 (mkF m 13 #[vr a, vr u4] []) _
    exact X5.returnOut hx Bd.returns (hb hby d6_13) hr
  · show (own_QA Z h0 n0 a b k c0 c1 c2 (c3 + (1 : Int64))) _ T5.heap _
    rw [e5]
    exact ⟨rfl, N5, Kp5, ⟨X_a_5, F_a_counts_5, V_b_5, ne_a_b, g_a, g_b⟩⟩
theorem d4_0 : decode prog_16_method_4_code 0 = .ok (.lconst 0, 1) := by decide +kernel
theorem d4_1 : decode prog_16_method_4_code 1 = .ok (.lstore_n 1, 1) := by decide +kernel
theorem d4_2 : decode prog_16_method_4_code 2 = .ok (.aload_n 0, 1) := by decide +kernel
theorem d4_3 : decode prog_16_method_4_code 3 = .ok (.getfield 13, 3) := by decide +kernel
theorem d4_6 : decode prog_16_method_4_code 6 = .ok (.astore_n 3, 1) := by decide +kernel
theorem d4_7 : decode prog_16_method_4_code 7 = .ok (.aload_n 3, 1) := by decide +kernel
theorem d4_8 : decode prog_16_method_4_code 8 = .ok (.arraylength, 1) := by decide +kernel
theorem d4_9 : decode prog_16_method_4_code 9 = .ok (.istore 4, 2) := by decide +kernel
theorem d4_11 : decode prog_16_method_4_code 11 = .ok (.iconst 0, 1) := by decide +kernel
theorem d4_12 : decode prog_16_method_4_code 12 = .ok (.istore 5, 2) := by decide +kernel
theorem d4_14 : decode prog_16_method_4_code 14 = .ok (.iload 5, 2) := by decide +kernel
theorem d4_16 : decode prog_16_method_4_code 16 = .ok (.iload 4, 2) := by decide +kernel
theorem d4_18 : decode prog_16_method_4_code 18 = .ok (.if_icmp .ge 20, 3) := by decide +kernel
theorem d4_21 : decode prog_16_method_4_code 21 = .ok (.aload_n 3, 1) := by decide +kernel
theorem d4_22 : decode prog_16_method_4_code 22 = .ok (.iload 5, 2) := by decide +kernel
theorem d4_24 : decode prog_16_method_4_code 24 = .ok (.laload, 1) := by decide +kernel
theorem d4_25 : decode prog_16_method_4_code 25 = .ok (.lstore 6, 2) := by decide +kernel
theorem d4_27 : decode prog_16_method_4_code 27 = .ok (.lload_n 1, 1) := by decide +kernel
theorem d4_28 : decode prog_16_method_4_code 28 = .ok (.lload 6, 2) := by decide +kernel
theorem d4_30 : decode prog_16_method_4_code 30 = .ok (.ladd, 1) := by decide +kernel
theorem d4_31 : decode prog_16_method_4_code 31 = .ok (.lstore_n 1, 1) := by decide +kernel
theorem d4_32 : decode prog_16_method_4_code 32 = .ok (.iinc 5 1, 3) := by decide +kernel
theorem d4_35 : decode prog_16_method_4_code 35 = .ok (.goto (-21), 3) := by decide +kernel
theorem d4_38 : decode prog_16_method_4_code 38 = .ok (.lload_n 1, 1) := by decide +kernel
theorem d4_39 : decode prog_16_method_4_code 39 = .ok (.lreturn, 1) := by decide +kernel
abbrev Y5 : MethodName := (⟨"com/example/feedwright/feedwright/LoadSummary", "records", "()J"⟩ : MethodName)
theorem ef_own_records (m : MethodId) (u0 u1 u2 u3 u4 : Addr) (a : Addr) (b : Addr) (k : ClassId) (c0 : Int64) (c1 : Int64) (c2 : Int64) (c3 : Int64) : entryFrame m #[xr a] 8 = (mkF m 0 #[vr a, vu, vu, vu, vu, vu, vu, vu] []) := by first | (simp [entryFrame, mkF, argsToLocals, Value.category]; done) | rfl
set_option maxRecDepth 65536 in
set_option maxHeartbeats 40000000 in
theorem own_records (l : Launch) (Z : State) (a0 : Array Value) (hw : ∀ d ∈ tables_1, d.before a0 Z = true) (u0 u1 u2 u3 u4 : Addr) (G : own_St Z u0 u1 u2 u3 u4) (a : Addr) (b : Addr) (k : ClassId) (c0 : Int64) (c1 : Int64) (c2 : Int64) (c3 : Int64) (h0 : Heap) (n0 : Nat) (O0 : Old Z n0 h0) (gL : own_LS Z h0 n0 a b k c0 c1 c2 c3) : own_Met l Z Y5 prog_16_method_4_code 8 (some .long) ({ frames := 0, cells := 0, slots := 0, locals := 0 } : Room) #[xr a] h0 (own_QR (some (xj (((((0 : Int64) + c0) + c1) + c2) + c3))) h0 n0) := by
  intro ws
  refine MetFree.of_bodySF (plainFor_of_name pn1) hisR ?_
  intro p e s m args below meth c s₁ Bd hml0 hP hK
  obtain ⟨rfl, hZ, hh⟩ := hP
  have hx := Bd.exec
  have hby := Bd.bytes
  have hml : c.maxLocals = 8 := hml0
  have hown : s.vm.findClass "com/example/feedwright/feedwright/LoadSummary" = some m.cls := findClass_of_methodNamed Bd.named
  have hnm := (name_of_methodNamed Bd.named Bd.method).1
  have X0 : Stand p l e ({ frames := 0, cells := 0, slots := 0, locals := 0 } : Room) s m #[xr a] below meth c s₁ [] 0 0 := Stand.of_body Bd
  have e0 : s₁.heap = h0 := by rw [← hh, Bd.state]; rfl
  have N0 := Fr.nil n0
  have pre0 : ∀ t, Steps p.tables e below (s₁.setTop (mkF m 0 #[vr a, vu, vu, vu, vu, vu, vu, vu] [])) t → Steps p.tables e below (s₁.setTop (entryFrame m #[xr a] 8)) t := fun t st => castTop (ef_own_records m u0 u1 u2 u3 u4 a b k c0 c1 c2 c3) st
  obtain ⟨EA, FA, VA, ne_a_b, g_a, g_b⟩ := gL
  obtain ⟨T1, X1, e1, st1⟩ := getF X0 hx hZ hown (host := "") (Or.inl (ww hw 30 rfl)) Via.refl e0 FA (g := (mkF m 3 #[vr a, vj (0 : Int64), .second, vu, vu, vu, vu, vu] [xr a])) rfl rfl (hb hby d4_3)
  obtain ⟨cl2, Ar2, q2, S2, N2_, H2, G2⟩ := id VA
  obtain ⟨cl3, Ar3, q3, S3, N3_, H3, G3⟩ := id VA
  have hin3 : ¬ ((0 : Int32) < 0 ∨ cl3.slots.size ≤ ((0 : Int32)).toNatClampNeg) := inb_of S3 ⟨by decide, by decide⟩
  have hat3 : cl3.slots[((0 : Int32)).toNatClampNeg]? = some (xj c0) := Has.at H3 hin3 rfl
  obtain ⟨cl4, Ar4, q4, S4, N4_, H4, G4⟩ := id VA
  have hin4 : ¬ ((1 : Int32) < 0 ∨ cl4.slots.size ≤ ((1 : Int32)).toNatClampNeg) := inb_of S4 ⟨by decide, by decide⟩
  have hat4 : cl4.slots[((1 : Int32)).toNatClampNeg]? = some (xj c1) := Has.at H4 hin4 rfl
  obtain ⟨cl5, Ar5, q5, S5, N5_, H5, G5⟩ := id VA
  have hin5 : ¬ ((2 : Int32) < 0 ∨ cl5.slots.size ≤ ((2 : Int32)).toNatClampNeg) := inb_of S5 ⟨by decide, by decide⟩
  have hat5 : cl5.slots[((2 : Int32)).toNatClampNeg]? = some (xj c2) := Has.at H5 hin5 rfl
  obtain ⟨cl6, Ar6, q6, S6, N6_, H6, G6⟩ := id VA
  have hin6 : ¬ ((3 : Int32) < 0 ∨ cl6.slots.size ≤ ((3 : Int32)).toNatClampNeg) := inb_of S6 ⟨by decide, by decide⟩
  have hat6 : cl6.slots[((3 : Int32)).toNatClampNeg]? = some (xj c3) := Has.at H6 hin6 rfl
  obtain ⟨fs, hr, hrun, hended, hW, hsame⟩ := X1.leave (v := some (xj (((((0 : Int64) + c0) + c1) + c2) + c3))) (fun h => by rw [Bd.returns] at h; cases h)
  refine ⟨_, _, pre0 _ ?_, hrun, hended, _, _, rfl, ?_, ⟨_, rfl⟩, hW, hsame.mono (by decide) (by decide)⟩
  · show own_S p e below s₁ (mkF m 0 #[vr a, vu, vu, vu, vu, vu, vu, vu] []) _
    refine XS.lconst X0.here hx rfl (hb hby d4_0) ?_
    show own_S p e below s₁ (mkF m 1 #[vr a, vu, vu, vu, vu, vu, vu, vu] [xj (0 : Int64)]) _
    refine XS.lstoreN X0.here hx rfl (hb hby d4_1) rfl (l' := #[vr a, vj (0 : Int64), .second, vu, vu, vu, vu, vu]) rfl ?_
    show own_S p e below s₁ (mkF m 2 #[vr a, vj (0 : Int64), .second, vu, vu, vu, vu, vu] []) _
    refine XS.aloadN X0.here hx rfl (hb hby d4_2) rfl rfl ?_
    show own_S p e below s₁ (mkF m 3 #[vr a, vj (0 : Int64), .second, vu, vu, vu, vu, vu] [xr a]) _
    refine st1 _ ?_
    show own_S p e below T1 (mkF m 6 #[vr a, vj (0 : Int64), .second, vu, vu, vu, vu, vu] [xr b]) _
    refine XS.astoreN X1.here hx rfl (hb hby d4_6) rfl rfl (l' := #[vr a, vj (0 : Int64), .second, vr b, vu, vu, vu, vu]) rfl ?_
    show own_S p e below T1 (mkF m 7 #[vr a, vj (0 : Int64), .second, vr b, vu, vu, vu, vu] []) _
    refine XS.aloadN X1.here hx rfl (hb hby d4_7) rfl rfl ?_
    show own_S p e below T1 (mkF m 8 #[vr a, vj (0 : Int64), .second, vr b, vu, vu, vu, vu] [xr b]) _
    refine X1.arraylength hx (by rw [e1]; exact Ar2.1) (State.isArrayOf_alike hZ.alike Ar2.2.1) (g := (mkF m 8 #[vr a, vj (0 : Int64), .second, vr b, vu, vu, vu, vu] [xr b])) rfl rfl (hb hby d4_8) _ ?_
    refine castTop (show (mkF m 9 #[vr a, vj (0 : Int64), .second, vr b, vu, vu, vu, vu] [xi cl2.slots.size.toInt32]) = (mkF m 9 #[vr a, vj (0 : Int64), .second, vr b, vu, vu, vu, vu] [xi (4 : Int32)]) from by rw [len_of S2 N2_]) ?_
    show own_S p e below T1 (mkF m 9 #[vr a, vj (0 : Int64), .second, vr b, vu, vu, vu, vu] [xi (4 : Int32)]) _
    refine XS.istore X1.here hx rfl (hb hby d4_9) rfl (l' := #[vr a, vj (0 : Int64), .second, vr b, vi (4 : Int32), vu, vu, vu]) rfl ?_
    show own_S p e below T1 (mkF m 11 #[vr a, vj (0 : Int64), .second, vr b, vi (4 : Int32), vu, vu, vu] []) _
    refine XS.iconst X1.here hx rfl (hb hby d4_11) ?_
    show own_S p e below T1 (mkF m 12 #[vr a, vj (0 : Int64), .second, vr b, vi (4 : Int32), vu, vu, vu] [xi (0 : Int32)]) _
    refine XS.istore X1.here hx rfl (hb hby d4_12) rfl (l' := #[vr a, vj (0 : Int64), .second, vr b, vi (4 : Int32), vi (0 : Int32), vu, vu]) rfl ?_
    show own_S p e below T1 (mkF m 14 #[vr a, vj (0 : Int64), .second, vr b, vi (4 : Int32), vi (0 : Int32), vu, vu] []) _
    refine XS.iload X1.here hx rfl (hb hby d4_14) rfl ?_
    show own_S p e below T1 (mkF m 16 #[vr a, vj (0 : Int64), .second, vr b, vi (4 : Int32), vi (0 : Int32), vu, vu] [xi (0 : Int32)]) _
    refine XS.iload X1.here hx rfl (hb hby d4_16) rfl ?_
    show own_S p e below T1 (mkF m 18 #[vr a, vj (0 : Int64), .second, vr b, vi (4 : Int32), vi (0 : Int32), vu, vu] [xi (4 : Int32), xi (0 : Int32)]) _
    refine XS.icmpNo X1.here hx rfl (hb hby d4_18) rfl (by decide) ?_
    show own_S p e below T1 (mkF m 21 #[vr a, vj (0 : Int64), .second, vr b, vi (4 : Int32), vi (0 : Int32), vu, vu] []) _
    refine XS.aloadN X1.here hx rfl (hb hby d4_21) rfl rfl ?_
    show own_S p e below T1 (mkF m 22 #[vr a, vj (0 : Int64), .second, vr b, vi (4 : Int32), vi (0 : Int32), vu, vu] [xr b]) _
    refine XS.iload X1.here hx rfl (hb hby d4_22) rfl ?_
    show own_S p e below T1 (mkF m 24 #[vr a, vj (0 : Int64), .second, vr b, vi (4 : Int32), vi (0 : Int32), vu, vu] [xi (0 : Int32), xr b]) _
    refine X1.laload hx (j := (0 : Int32)) (v := (xj c0)) (by rw [e1]; exact Ar3.1) (State.isArrayOf_alike hZ.alike Ar3.2.1) Ar3.2.2 hin3 hat3 (g := (mkF m 24 #[vr a, vj (0 : Int64), .second, vr b, vi (4 : Int32), vi (0 : Int32), vu, vu] [xi (0 : Int32), xr b])) rfl rfl (hb hby d4_24) _ ?_
    show own_S p e below T1 (mkF m 25 #[vr a, vj (0 : Int64), .second, vr b, vi (4 : Int32), vi (0 : Int32), vu, vu] [xj c0]) _
    refine XS.lstore X1.here hx rfl (hb hby d4_25) rfl (l' := #[vr a, vj (0 : Int64), .second, vr b, vi (4 : Int32), vi (0 : Int32), vj c0, .second]) rfl ?_
    show own_S p e below T1 (mkF m 27 #[vr a, vj (0 : Int64), .second, vr b, vi (4 : Int32), vi (0 : Int32), vj c0, .second] []) _
    refine XS.lloadN X1.here hx rfl (hb hby d4_27) rfl ?_
    show own_S p e below T1 (mkF m 28 #[vr a, vj (0 : Int64), .second, vr b, vi (4 : Int32), vi (0 : Int32), vj c0, .second] [xj (0 : Int64)]) _
    refine XS.lload X1.here hx rfl (hb hby d4_28) rfl ?_
    show own_S p e below T1 (mkF m 30 #[vr a, vj (0 : Int64), .second, vr b, vi (4 : Int32), vi (0 : Int32), vj c0, .second] [xj c0, xj (0 : Int64)]) _
    refine XS.ladd X1.here hx rfl (hb hby d4_30) rfl ?_
    show own_S p e below T1 (mkF m 31 #[vr a, vj (0 : Int64), .second, vr b, vi (4 : Int32), vi (0 : Int32), vj c0, .second] [xj ((0 : Int64) + c0)]) _
    show own_S p e below T1 (mkF m 31 #[vr a, vj (0 : Int64), .second, vr b, vi (4 : Int32), vi (0 : Int32), vj c0, .second] [xj ((0 : Int64) + c0)]) _
    refine XS.lstoreN X1.here hx rfl (hb hby d4_31) rfl (l' := #[vr a, vj ((0 : Int64) + c0), .second, vr b, vi (4 : Int32), vi (0 : Int32), vj c0, .second]) rfl ?_
    show own_S p e below T1 (mkF m 32 #[vr a, vj ((0 : Int64) + c0), .second, vr b, vi (4 : Int32), vi (0 : Int32), vj c0, .second] []) _
    refine XS.iinc X1.here hx rfl (hb hby d4_32) rfl (l' := #[vr a, vj ((0 : Int64) + c0), .second, vr b, vi (4 : Int32), vi ((0 : Int32) + (1 : Int32)), vj c0, .second]) rfl ?_
    refine castTop (show (mkF m 35 #[vr a, vj ((0 : Int64) + c0), .second, vr b, vi (4 : Int32), vi ((0 : Int32) + (1 : Int32)), vj c0, .second] []) = (mkF m 35 #[vr a, vj ((0 : Int64) + c0), .second, vr b, vi (4 : Int32), vi (1 : Int32), vj c0, .second] []) from by rw [show ((0 : Int32) + (1 : Int32)) = (1 : Int32) from by decide]) ?_
    show own_S p e below T1 (mkF m 35 #[vr a, vj ((0 : Int64) + c0), .second, vr b, vi (4 : Int32), vi (1 : Int32), vj c0, .second] []) _
    refine XS.goto X1.here hx rfl (pc0 := 35) (pc' := 14) rfl (hb hby d4_35) (by decide) (by decide) ?_
    show own_S p e below T1 (mkF m 14 #[vr a, vj ((0 : Int64) + c0), .second, vr b, vi (4 : Int32), vi (1 : Int32), vj c0, .second] []) _
    refine XS.iload X1.here hx rfl (hb hby d4_14) rfl ?_
    show own_S p e below T1 (mkF m 16 #[vr a, vj ((0 : Int64) + c0), .second, vr b, vi (4 : Int32), vi (1 : Int32), vj c0, .second] [xi (1 : Int32)]) _
    refine XS.iload X1.here hx rfl (hb hby d4_16) rfl ?_
    show own_S p e below T1 (mkF m 18 #[vr a, vj ((0 : Int64) + c0), .second, vr b, vi (4 : Int32), vi (1 : Int32), vj c0, .second] [xi (4 : Int32), xi (1 : Int32)]) _
    refine XS.icmpNo X1.here hx rfl (hb hby d4_18) rfl (by decide) ?_
    show own_S p e below T1 (mkF m 21 #[vr a, vj ((0 : Int64) + c0), .second, vr b, vi (4 : Int32), vi (1 : Int32), vj c0, .second] []) _
    refine XS.aloadN X1.here hx rfl (hb hby d4_21) rfl rfl ?_
    show own_S p e below T1 (mkF m 22 #[vr a, vj ((0 : Int64) + c0), .second, vr b, vi (4 : Int32), vi (1 : Int32), vj c0, .second] [xr b]) _
    refine XS.iload X1.here hx rfl (hb hby d4_22) rfl ?_
    show own_S p e below T1 (mkF m 24 #[vr a, vj ((0 : Int64) + c0), .second, vr b, vi (4 : Int32), vi (1 : Int32), vj c0, .second] [xi (1 : Int32), xr b]) _
    refine X1.laload hx (j := (1 : Int32)) (v := (xj c1)) (by rw [e1]; exact Ar4.1) (State.isArrayOf_alike hZ.alike Ar4.2.1) Ar4.2.2 hin4 hat4 (g := (mkF m 24 #[vr a, vj ((0 : Int64) + c0), .second, vr b, vi (4 : Int32), vi (1 : Int32), vj c0, .second] [xi (1 : Int32), xr b])) rfl rfl (hb hby d4_24) _ ?_
    show own_S p e below T1 (mkF m 25 #[vr a, vj ((0 : Int64) + c0), .second, vr b, vi (4 : Int32), vi (1 : Int32), vj c0, .second] [xj c1]) _
    refine XS.lstore X1.here hx rfl (hb hby d4_25) rfl (l' := #[vr a, vj ((0 : Int64) + c0), .second, vr b, vi (4 : Int32), vi (1 : Int32), vj c1, .second]) rfl ?_
    show own_S p e below T1 (mkF m 27 #[vr a, vj ((0 : Int64) + c0), .second, vr b, vi (4 : Int32), vi (1 : Int32), vj c1, .second] []) _
    refine XS.lloadN X1.here hx rfl (hb hby d4_27) rfl ?_
    show own_S p e below T1 (mkF m 28 #[vr a, vj ((0 : Int64) + c0), .second, vr b, vi (4 : Int32), vi (1 : Int32), vj c1, .second] [xj ((0 : Int64) + c0)]) _
    refine XS.lload X1.here hx rfl (hb hby d4_28) rfl ?_
    show own_S p e below T1 (mkF m 30 #[vr a, vj ((0 : Int64) + c0), .second, vr b, vi (4 : Int32), vi (1 : Int32), vj c1, .second] [xj c1, xj ((0 : Int64) + c0)]) _
    refine XS.ladd X1.here hx rfl (hb hby d4_30) rfl ?_
    show own_S p e below T1 (mkF m 31 #[vr a, vj ((0 : Int64) + c0), .second, vr b, vi (4 : Int32), vi (1 : Int32), vj c1, .second] [xj (((0 : Int64) + c0) + c1)]) _
    show own_S p e below T1 (mkF m 31 #[vr a, vj ((0 : Int64) + c0), .second, vr b, vi (4 : Int32), vi (1 : Int32), vj c1, .second] [xj (((0 : Int64) + c0) + c1)]) _
    refine XS.lstoreN X1.here hx rfl (hb hby d4_31) rfl (l' := #[vr a, vj (((0 : Int64) + c0) + c1), .second, vr b, vi (4 : Int32), vi (1 : Int32), vj c1, .second]) rfl ?_
    show own_S p e below T1 (mkF m 32 #[vr a, vj (((0 : Int64) + c0) + c1), .second, vr b, vi (4 : Int32), vi (1 : Int32), vj c1, .second] []) _
    refine XS.iinc X1.here hx rfl (hb hby d4_32) rfl (l' := #[vr a, vj (((0 : Int64) + c0) + c1), .second, vr b, vi (4 : Int32), vi ((1 : Int32) + (1 : Int32)), vj c1, .second]) rfl ?_
    refine castTop (show (mkF m 35 #[vr a, vj (((0 : Int64) + c0) + c1), .second, vr b, vi (4 : Int32), vi ((1 : Int32) + (1 : Int32)), vj c1, .second] []) = (mkF m 35 #[vr a, vj (((0 : Int64) + c0) + c1), .second, vr b, vi (4 : Int32), vi (2 : Int32), vj c1, .second] []) from by rw [show ((1 : Int32) + (1 : Int32)) = (2 : Int32) from by decide]) ?_
    show own_S p e below T1 (mkF m 35 #[vr a, vj (((0 : Int64) + c0) + c1), .second, vr b, vi (4 : Int32), vi (2 : Int32), vj c1, .second] []) _
    refine XS.goto X1.here hx rfl (pc0 := 35) (pc' := 14) rfl (hb hby d4_35) (by decide) (by decide) ?_
    show own_S p e below T1 (mkF m 14 #[vr a, vj (((0 : Int64) + c0) + c1), .second, vr b, vi (4 : Int32), vi (2 : Int32), vj c1, .second] []) _
    refine XS.iload X1.here hx rfl (hb hby d4_14) rfl ?_
    show own_S p e below T1 (mkF m 16 #[vr a, vj (((0 : Int64) + c0) + c1), .second, vr b, vi (4 : Int32), vi (2 : Int32), vj c1, .second] [xi (2 : Int32)]) _
    refine XS.iload X1.here hx rfl (hb hby d4_16) rfl ?_
    show own_S p e below T1 (mkF m 18 #[vr a, vj (((0 : Int64) + c0) + c1), .second, vr b, vi (4 : Int32), vi (2 : Int32), vj c1, .second] [xi (4 : Int32), xi (2 : Int32)]) _
    refine XS.icmpNo X1.here hx rfl (hb hby d4_18) rfl (by decide) ?_
    show own_S p e below T1 (mkF m 21 #[vr a, vj (((0 : Int64) + c0) + c1), .second, vr b, vi (4 : Int32), vi (2 : Int32), vj c1, .second] []) _
    refine XS.aloadN X1.here hx rfl (hb hby d4_21) rfl rfl ?_
    show own_S p e below T1 (mkF m 22 #[vr a, vj (((0 : Int64) + c0) + c1), .second, vr b, vi (4 : Int32), vi (2 : Int32), vj c1, .second] [xr b]) _
    refine XS.iload X1.here hx rfl (hb hby d4_22) rfl ?_
    show own_S p e below T1 (mkF m 24 #[vr a, vj (((0 : Int64) + c0) + c1), .second, vr b, vi (4 : Int32), vi (2 : Int32), vj c1, .second] [xi (2 : Int32), xr b]) _
    refine X1.laload hx (j := (2 : Int32)) (v := (xj c2)) (by rw [e1]; exact Ar5.1) (State.isArrayOf_alike hZ.alike Ar5.2.1) Ar5.2.2 hin5 hat5 (g := (mkF m 24 #[vr a, vj (((0 : Int64) + c0) + c1), .second, vr b, vi (4 : Int32), vi (2 : Int32), vj c1, .second] [xi (2 : Int32), xr b])) rfl rfl (hb hby d4_24) _ ?_
    show own_S p e below T1 (mkF m 25 #[vr a, vj (((0 : Int64) + c0) + c1), .second, vr b, vi (4 : Int32), vi (2 : Int32), vj c1, .second] [xj c2]) _
    refine XS.lstore X1.here hx rfl (hb hby d4_25) rfl (l' := #[vr a, vj (((0 : Int64) + c0) + c1), .second, vr b, vi (4 : Int32), vi (2 : Int32), vj c2, .second]) rfl ?_
    show own_S p e below T1 (mkF m 27 #[vr a, vj (((0 : Int64) + c0) + c1), .second, vr b, vi (4 : Int32), vi (2 : Int32), vj c2, .second] []) _
    refine XS.lloadN X1.here hx rfl (hb hby d4_27) rfl ?_
    show own_S p e below T1 (mkF m 28 #[vr a, vj (((0 : Int64) + c0) + c1), .second, vr b, vi (4 : Int32), vi (2 : Int32), vj c2, .second] [xj (((0 : Int64) + c0) + c1)]) _
    refine XS.lload X1.here hx rfl (hb hby d4_28) rfl ?_
    show own_S p e below T1 (mkF m 30 #[vr a, vj (((0 : Int64) + c0) + c1), .second, vr b, vi (4 : Int32), vi (2 : Int32), vj c2, .second] [xj c2, xj (((0 : Int64) + c0) + c1)]) _
    refine XS.ladd X1.here hx rfl (hb hby d4_30) rfl ?_
    show own_S p e below T1 (mkF m 31 #[vr a, vj (((0 : Int64) + c0) + c1), .second, vr b, vi (4 : Int32), vi (2 : Int32), vj c2, .second] [xj ((((0 : Int64) + c0) + c1) + c2)]) _
    show own_S p e below T1 (mkF m 31 #[vr a, vj (((0 : Int64) + c0) + c1), .second, vr b, vi (4 : Int32), vi (2 : Int32), vj c2, .second] [xj ((((0 : Int64) + c0) + c1) + c2)]) _
    refine XS.lstoreN X1.here hx rfl (hb hby d4_31) rfl (l' := #[vr a, vj ((((0 : Int64) + c0) + c1) + c2), .second, vr b, vi (4 : Int32), vi (2 : Int32), vj c2, .second]) rfl ?_
    show own_S p e below T1 (mkF m 32 #[vr a, vj ((((0 : Int64) + c0) + c1) + c2), .second, vr b, vi (4 : Int32), vi (2 : Int32), vj c2, .second] []) _
    refine XS.iinc X1.here hx rfl (hb hby d4_32) rfl (l' := #[vr a, vj ((((0 : Int64) + c0) + c1) + c2), .second, vr b, vi (4 : Int32), vi ((2 : Int32) + (1 : Int32)), vj c2, .second]) rfl ?_
    refine castTop (show (mkF m 35 #[vr a, vj ((((0 : Int64) + c0) + c1) + c2), .second, vr b, vi (4 : Int32), vi ((2 : Int32) + (1 : Int32)), vj c2, .second] []) = (mkF m 35 #[vr a, vj ((((0 : Int64) + c0) + c1) + c2), .second, vr b, vi (4 : Int32), vi (3 : Int32), vj c2, .second] []) from by rw [show ((2 : Int32) + (1 : Int32)) = (3 : Int32) from by decide]) ?_
    show own_S p e below T1 (mkF m 35 #[vr a, vj ((((0 : Int64) + c0) + c1) + c2), .second, vr b, vi (4 : Int32), vi (3 : Int32), vj c2, .second] []) _
    refine XS.goto X1.here hx rfl (pc0 := 35) (pc' := 14) rfl (hb hby d4_35) (by decide) (by decide) ?_
    show own_S p e below T1 (mkF m 14 #[vr a, vj ((((0 : Int64) + c0) + c1) + c2), .second, vr b, vi (4 : Int32), vi (3 : Int32), vj c2, .second] []) _
    refine XS.iload X1.here hx rfl (hb hby d4_14) rfl ?_
    show own_S p e below T1 (mkF m 16 #[vr a, vj ((((0 : Int64) + c0) + c1) + c2), .second, vr b, vi (4 : Int32), vi (3 : Int32), vj c2, .second] [xi (3 : Int32)]) _
    refine XS.iload X1.here hx rfl (hb hby d4_16) rfl ?_
    show own_S p e below T1 (mkF m 18 #[vr a, vj ((((0 : Int64) + c0) + c1) + c2), .second, vr b, vi (4 : Int32), vi (3 : Int32), vj c2, .second] [xi (4 : Int32), xi (3 : Int32)]) _
    refine XS.icmpNo X1.here hx rfl (hb hby d4_18) rfl (by decide) ?_
    show own_S p e below T1 (mkF m 21 #[vr a, vj ((((0 : Int64) + c0) + c1) + c2), .second, vr b, vi (4 : Int32), vi (3 : Int32), vj c2, .second] []) _
    refine XS.aloadN X1.here hx rfl (hb hby d4_21) rfl rfl ?_
    show own_S p e below T1 (mkF m 22 #[vr a, vj ((((0 : Int64) + c0) + c1) + c2), .second, vr b, vi (4 : Int32), vi (3 : Int32), vj c2, .second] [xr b]) _
    refine XS.iload X1.here hx rfl (hb hby d4_22) rfl ?_
    show own_S p e below T1 (mkF m 24 #[vr a, vj ((((0 : Int64) + c0) + c1) + c2), .second, vr b, vi (4 : Int32), vi (3 : Int32), vj c2, .second] [xi (3 : Int32), xr b]) _
    refine X1.laload hx (j := (3 : Int32)) (v := (xj c3)) (by rw [e1]; exact Ar6.1) (State.isArrayOf_alike hZ.alike Ar6.2.1) Ar6.2.2 hin6 hat6 (g := (mkF m 24 #[vr a, vj ((((0 : Int64) + c0) + c1) + c2), .second, vr b, vi (4 : Int32), vi (3 : Int32), vj c2, .second] [xi (3 : Int32), xr b])) rfl rfl (hb hby d4_24) _ ?_
    show own_S p e below T1 (mkF m 25 #[vr a, vj ((((0 : Int64) + c0) + c1) + c2), .second, vr b, vi (4 : Int32), vi (3 : Int32), vj c2, .second] [xj c3]) _
    refine XS.lstore X1.here hx rfl (hb hby d4_25) rfl (l' := #[vr a, vj ((((0 : Int64) + c0) + c1) + c2), .second, vr b, vi (4 : Int32), vi (3 : Int32), vj c3, .second]) rfl ?_
    show own_S p e below T1 (mkF m 27 #[vr a, vj ((((0 : Int64) + c0) + c1) + c2), .second, vr b, vi (4 : Int32), vi (3 : Int32), vj c3, .second] []) _
    refine XS.lloadN X1.here hx rfl (hb hby d4_27) rfl ?_
    show own_S p e below T1 (mkF m 28 #[vr a, vj ((((0 : Int64) + c0) + c1) + c2), .second, vr b, vi (4 : Int32), vi (3 : Int32), vj c3, .second] [xj ((((0 : Int64) + c0) + c1) + c2)]) _
    refine XS.lload X1.here hx rfl (hb hby d4_28) rfl ?_
    show own_S p e below T1 (mkF m 30 #[vr a, vj ((((0 : Int64) + c0) + c1) + c2), .second, vr b, vi (4 : Int32), vi (3 : Int32), vj c3, .second] [xj c3, xj ((((0 : Int64) + c0) + c1) + c2)]) _
    refine XS.ladd X1.here hx rfl (hb hby d4_30) rfl ?_
    show own_S p e below T1 (mkF m 31 #[vr a, vj ((((0 : Int64) + c0) + c1) + c2), .second, vr b, vi (4 : Int32), vi (3 : Int32), vj c3, .second] [xj (((((0 : Int64) + c0) + c1) + c2) + c3)]) _
    show own_S p e below T1 (mkF m 31 #[vr a, vj ((((0 : Int64) + c0) + c1) + c2), .second, vr b, vi (4 : Int32), vi (3 : Int32), vj c3, .second] [xj (((((0 : Int64) + c0) + c1) + c2) + c3)]) _
    refine XS.lstoreN X1.here hx rfl (hb hby d4_31) rfl (l' := #[vr a, vj (((((0 : Int64) + c0) + c1) + c2) + c3), .second, vr b, vi (4 : Int32), vi (3 : Int32), vj c3, .second]) rfl ?_
    show own_S p e below T1 (mkF m 32 #[vr a, vj (((((0 : Int64) + c0) + c1) + c2) + c3), .second, vr b, vi (4 : Int32), vi (3 : Int32), vj c3, .second] []) _
    refine XS.iinc X1.here hx rfl (hb hby d4_32) rfl (l' := #[vr a, vj (((((0 : Int64) + c0) + c1) + c2) + c3), .second, vr b, vi (4 : Int32), vi ((3 : Int32) + (1 : Int32)), vj c3, .second]) rfl ?_
    refine castTop (show (mkF m 35 #[vr a, vj (((((0 : Int64) + c0) + c1) + c2) + c3), .second, vr b, vi (4 : Int32), vi ((3 : Int32) + (1 : Int32)), vj c3, .second] []) = (mkF m 35 #[vr a, vj (((((0 : Int64) + c0) + c1) + c2) + c3), .second, vr b, vi (4 : Int32), vi (4 : Int32), vj c3, .second] []) from by rw [show ((3 : Int32) + (1 : Int32)) = (4 : Int32) from by decide]) ?_
    show own_S p e below T1 (mkF m 35 #[vr a, vj (((((0 : Int64) + c0) + c1) + c2) + c3), .second, vr b, vi (4 : Int32), vi (4 : Int32), vj c3, .second] []) _
    refine XS.goto X1.here hx rfl (pc0 := 35) (pc' := 14) rfl (hb hby d4_35) (by decide) (by decide) ?_
    show own_S p e below T1 (mkF m 14 #[vr a, vj (((((0 : Int64) + c0) + c1) + c2) + c3), .second, vr b, vi (4 : Int32), vi (4 : Int32), vj c3, .second] []) _
    refine XS.iload X1.here hx rfl (hb hby d4_14) rfl ?_
    show own_S p e below T1 (mkF m 16 #[vr a, vj (((((0 : Int64) + c0) + c1) + c2) + c3), .second, vr b, vi (4 : Int32), vi (4 : Int32), vj c3, .second] [xi (4 : Int32)]) _
    refine XS.iload X1.here hx rfl (hb hby d4_16) rfl ?_
    show own_S p e below T1 (mkF m 18 #[vr a, vj (((((0 : Int64) + c0) + c1) + c2) + c3), .second, vr b, vi (4 : Int32), vi (4 : Int32), vj c3, .second] [xi (4 : Int32), xi (4 : Int32)]) _
    refine XS.icmpYes X1.here hx rfl (pc0 := 18) (pc' := 38) rfl (hb hby d4_18) rfl (by decide) (by decide) (by decide) ?_
    show own_S p e below T1 (mkF m 38 #[vr a, vj (((((0 : Int64) + c0) + c1) + c2) + c3), .second, vr b, vi (4 : Int32), vi (4 : Int32), vj c3, .second] []) _
    refine XS.lloadN X1.here hx rfl (hb hby d4_38) rfl ?_
    show own_S p e below T1 (mkF m 39 #[vr a, vj (((((0 : Int64) + c0) + c1) + c2) + c3), .second, vr b, vi (4 : Int32), vi (4 : Int32), vj c3, .second] [xj (((((0 : Int64) + c0) + c1) + c2) + c3)]) _
    exact X1.lreturnOut hx Bd.returns (hb hby d4_39) hr
  · exact ⟨rfl, N0, e1⟩
theorem own_bit4 (x : Int32) : (x &&& (4 : Int32)) = (0 : Int32) ∨ (x &&& (4 : Int32)) = (4 : Int32) := by
  have h : x &&& (4 : Int32) = (x &&& (7 : Int32)) &&& (4 : Int32) := by rw [Int32.and_assoc]; rfl
  rw [h]
  rcases own_mask7 x with h | h | h | h | h | h | h | h <;> rw [h] <;> decide
theorem own_s0 (c0 c1 c2 c3 : Int64) : (c0 + (1 : Int64)) + c1 + c2 + c3 = c0 + c1 + c2 + c3 + Int32.toInt64 (1 : Int32) := by
  rw [show Int32.toInt64 (1 : Int32) = (1 : Int64) from by decide]
  generalize (1 : Int64) = u
  ac_rfl
theorem d5_0 : decode method_2_code 0 = .ok (.iload_n 1, 1) := by decide +kernel
theorem d5_1 : decode method_2_code 1 = .ok (.iconst 4, 1) := by decide +kernel
theorem d5_2 : decode method_2_code 2 = .ok (.iand, 1) := by decide +kernel
theorem d5_3 : decode method_2_code 3 = .ok (.ifCond .ne 5, 3) := by decide +kernel
theorem d5_8 : decode method_2_code 8 = .ok (.iload_n 1, 1) := by decide +kernel
theorem d5_9 : decode method_2_code 9 = .ok (.iconst 3, 1) := by decide +kernel
theorem d5_10 : decode method_2_code 10 = .ok (.iand, 1) := by decide +kernel
theorem d5_11 : decode method_2_code 11 = .ok (.istore_n 2, 1) := by decide +kernel
theorem d5_12 : decode method_2_code 12 = .ok (.iload_n 2, 1) := by decide +kernel
theorem d5_13 : decode method_2_code 13 = .ok (.ifCond .ne 10, 3) := by decide +kernel
theorem d5_16 : decode method_2_code 16 = .ok (.getstatic 7, 3) := by decide +kernel
theorem d5_19 : decode method_2_code 19 = .ok (.astore_n 3, 1) := by decide +kernel
theorem d5_20 : decode method_2_code 20 = .ok (.goto 31, 3) := by decide +kernel
theorem d5_51 : decode method_2_code 51 = .ok (.aload_n 0, 1) := by decide +kernel
theorem d5_52 : decode method_2_code 52 = .ok (.aload_n 3, 1) := by decide +kernel
theorem d5_53 : decode method_2_code 53 = .ok (.invokevirtual 22, 3) := by decide +kernel
theorem pd2 : parseMethodDescriptor "(Lcom/example/feedwright/feedwright/Verdict;)V" = some ⟨[(.object "com/example/feedwright/feedwright/Verdict")], none⟩ := by decide +kernel
theorem d5_56 : decode method_2_code 56 = .ok (.iconst 1, 1) := by decide +kernel
theorem d5_57 : decode method_2_code 57 = .ok (.ireturn, 1) := by decide +kernel
abbrev Y6 : MethodName := (⟨"com/example/feedwright/feedwright/LoadSummaryRecordsPinLaw", "step", "(Lcom/example/feedwright/feedwright/LoadSummary;I)I"⟩ : MethodName)
theorem pn3 : plainName "com/example/feedwright/feedwright/LoadSummaryRecordsPinLaw" = true := by first | (simp [plainName, overriddenIn]; done) | decide +kernel
theorem ef_own_step0 (m : MethodId) (u0 u1 u2 u3 u4 : Addr) (a : Addr) (b : Addr) (k : ClassId) (c0 : Int64) (c1 : Int64) (c2 : Int64) (c3 : Int64) (pp : Int32) : entryFrame m #[xr a, xi pp] 4 = (mkF m 0 #[vr a, vi pp, vu, vu] []) := by first | (simp [entryFrame, mkF, argsToLocals, Value.category]; done) | rfl
set_option maxRecDepth 65536 in
set_option maxHeartbeats 40000000 in
theorem own_step0 (l : Launch) (Z : State) (a0 : Array Value) (hw : ∀ d ∈ tables_1, d.before a0 Z = true) (u0 u1 u2 u3 u4 : Addr) (G : own_St Z u0 u1 u2 u3 u4) (a : Addr) (b : Addr) (k : ClassId) (c0 : Int64) (c1 : Int64) (c2 : Int64) (c3 : Int64) (pp : Int32) (as1 : (pp &&& (4 : Int32)) = (4 : Int32)) (as2 : (pp &&& (3 : Int32)) = (0 : Int32)) (h0 : Heap) (n0 : Nat) (O0 : Old Z n0 h0) (gL : own_LS Z h0 n0 a b k c0 c1 c2 c3) : own_Met l Z Y6 method_2_code 4 (some .int) ({ frames := 2, cells := 0, slots := 0, locals := 26 } : Room) #[xr a, xi pp] h0 (own_QS Z h0 n0 a b k c0 c1 c2 c3) := by
  intro ws
  refine MetFree.of_bodySF (plainFor_of_name pn3) hisR ?_
  intro p e s m args below meth c s₁ Bd hml0 hP hK
  obtain ⟨rfl, hZ, hh⟩ := hP
  have hx := Bd.exec
  have hby := Bd.bytes
  have hml : c.maxLocals = 4 := hml0
  have hown : s.vm.findClass "com/example/feedwright/feedwright/LoadSummaryRecordsPinLaw" = some m.cls := findClass_of_methodNamed Bd.named
  have hnm := (name_of_methodNamed Bd.named Bd.method).1
  have X0 : Stand p l e ({ frames := 2, cells := 0, slots := 0, locals := 26 } : Room) s m #[xr a, xi pp] below meth c s₁ [] 0 0 := Stand.of_body Bd
  have e0 : s₁.heap = h0 := by rw [← hh, Bd.state]; rfl
  have N0 := Fr.nil n0
  have pre0 : ∀ t, Steps p.tables e below (s₁.setTop (mkF m 0 #[vr a, vi pp, vu, vu] [])) t → Steps p.tables e below (s₁.setTop (entryFrame m #[xr a, xi pp] 4)) t := fun t st => castTop (ef_own_step0 m u0 u1 u2 u3 u4 a b k c0 c1 c2 c3 pp) st
  obtain ⟨EA, FA, VA, ne_a_b, g_a, g_b⟩ := gL
  obtain ⟨T1, X1, e1, st1⟩ := getS2 X0 hx hZ hown (host := "") (Or.inl (ww hw 41 rfl)) Via.refl e0 ((own_S_u1 G).ext O0.2) (g := (mkF m 16 #[vr a, vi pp, vi (0 : Int32), vu] [])) rfl (hb hby d5_16)
  obtain ⟨cq2, kq2, qa2, qb2, qc2⟩ := isOf hZ e1 EA
  obtain ⟨_, _, ⟨T2, L2, k2, n2⟩, -, X2, ⟨Lc2, hQ2, l2, y2, z2⟩, st2⟩ := X1.virtualBack hx (y := Y4) (z := Y4) hown (mvT hZ (ww hw 42 rfl)) (mvT hZ (ww hw 43 rfl)) (notFace_of_selects (args := #[]) (mvT hZ (ww hw 45 rfl))) (mvT hZ (ww hw 45 rfl)) (mvT hZ (ww hw 44 rfl)) (by decide) (backOf (W := 0) (own_add0 l Z a0 hw u0 u1 u2 u3 u4 G a b k c0 c1 c2 c3 h0 n0 O0 ⟨EA, FA, VA, ne_a_b, g_a, g_b⟩ []) hZ (ww hw 46 rfl) (ww hw 2 rfl) (by decide) (by decide)) qa2 qc2 (g := (mkF m 53 #[vr a, vi pp, vi (0 : Int32), vr u1] [xr u1, xr a])) rfl (by rw [hml]; rfl) (Steps.refl _) (argsL := [xr u1]) (rest := []) (lenOf pd2 rfl) rfl (by show 2 * 0 + _ ≤ _; exact Nat.le_of_eq rfl) (hb hby d5_53) (fun _ _ => ⟨rfl, e1, (by decide : 0 + 0 ≤ _), (by decide : 0 + 0 ≤ _)⟩)
  dsimp only [Pt.U, Pt.locs, Pt.cells, Pt.slots] at X2 l2 y2 z2 st2 hQ2
  subst l2 y2 z2
  obtain ⟨h2, e2⟩ : ∃ z, T2.heap = z := ⟨_, rfl⟩
  rw [e2] at hQ2
  obtain ⟨rfl, Nq2, K2, -, -, Vn2, -⟩ := hQ2
  have N2 := Fr.app N0 Nq2
  have O2 : Old Z n0 h2 := O0.keep K2 (allS g_b all0)
  have Kp2 : Keep h0 h2 [b] := (Keep.refl h0 [b]).trans K2 (allS (Or.inl (by simp)) all0)
  have X_a_2 := EA.keep K2
  have F_a_counts_2 := FA.keep K2 (ninS ne_a_b nin0)
  obtain ⟨fs, hr, hrun, hended, hW, hsame⟩ := X2.leave (v := some (xi (1 : Int32))) (fun h => by rw [Bd.returns] at h; cases h)
  refine ⟨_, _, pre0 _ ?_, hrun, hended, _, _, rfl, ?_, ⟨_, rfl⟩, hW, hsame.mono (by decide) (by decide)⟩
  · show own_S p e below s₁ (mkF m 0 #[vr a, vi pp, vu, vu] []) _
    refine XS.iloadN X0.here hx rfl (hb hby d5_0) rfl ?_
    show own_S p e below s₁ (mkF m 1 #[vr a, vi pp, vu, vu] [xi pp]) _
    refine XS.iconst X0.here hx rfl (hb hby d5_1) ?_
    show own_S p e below s₁ (mkF m 2 #[vr a, vi pp, vu, vu] [xi (4 : Int32), xi pp]) _
    refine XS.iand X0.here hx rfl (hb hby d5_2) rfl ?_
    show own_S p e below s₁ (mkF m 3 #[vr a, vi pp, vu, vu] [xi (pp &&& (4 : Int32))]) _
    refine castTop (show (mkF m 3 #[vr a, vi pp, vu, vu] [xi (pp &&& (4 : Int32))]) = (mkF m 3 #[vr a, vi pp, vu, vu] [xi (4 : Int32)]) from by rw [as1]) ?_
    show own_S p e below s₁ (mkF m 3 #[vr a, vi pp, vu, vu] [xi (4 : Int32)]) _
    refine XS.ifYes X0.here hx rfl (pc0 := 3) (pc' := 8) rfl (hb hby d5_3) rfl (by decide) (by decide) (by decide) ?_
    show own_S p e below s₁ (mkF m 8 #[vr a, vi pp, vu, vu] []) _
    refine XS.iloadN X0.here hx rfl (hb hby d5_8) rfl ?_
    show own_S p e below s₁ (mkF m 9 #[vr a, vi pp, vu, vu] [xi pp]) _
    refine XS.iconst X0.here hx rfl (hb hby d5_9) ?_
    show own_S p e below s₁ (mkF m 10 #[vr a, vi pp, vu, vu] [xi (3 : Int32), xi pp]) _
    refine XS.iand X0.here hx rfl (hb hby d5_10) rfl ?_
    show own_S p e below s₁ (mkF m 11 #[vr a, vi pp, vu, vu] [xi (pp &&& (3 : Int32))]) _
    refine castTop (show (mkF m 11 #[vr a, vi pp, vu, vu] [xi (pp &&& (3 : Int32))]) = (mkF m 11 #[vr a, vi pp, vu, vu] [xi (0 : Int32)]) from by rw [as2]) ?_
    show own_S p e below s₁ (mkF m 11 #[vr a, vi pp, vu, vu] [xi (0 : Int32)]) _
    refine XS.istoreN X0.here hx rfl (hb hby d5_11) rfl (l' := #[vr a, vi pp, vi (0 : Int32), vu]) rfl ?_
    show own_S p e below s₁ (mkF m 12 #[vr a, vi pp, vi (0 : Int32), vu] []) _
    refine XS.iloadN X0.here hx rfl (hb hby d5_12) rfl ?_
    show own_S p e below s₁ (mkF m 13 #[vr a, vi pp, vi (0 : Int32), vu] [xi (0 : Int32)]) _
    refine XS.ifNo X0.here hx rfl (hb hby d5_13) rfl (by decide) ?_
    show own_S p e below s₁ (mkF m 16 #[vr a, vi pp, vi (0 : Int32), vu] []) _
    refine st1 _ ?_
    show own_S p e below T1 (mkF m 19 #[vr a, vi pp, vi (0 : Int32), vu] [xr u1]) _
    refine XS.astoreN X1.here hx rfl (hb hby d5_19) rfl rfl (l' := #[vr a, vi pp, vi (0 : Int32), vr u1]) rfl ?_
    show own_S p e below T1 (mkF m 20 #[vr a, vi pp, vi (0 : Int32), vr u1] []) _
    refine XS.goto X1.here hx rfl (pc0 := 20) (pc' := 51) rfl (hb hby d5_20) (by decide) (by decide) ?_
    show own_S p e below T1 (mkF m 51 #[vr a, vi pp, vi (0 : Int32), vr u1] []) _
    refine XS.aloadN X1.here hx rfl (hb hby d5_51) rfl rfl ?_
    show own_S p e below T1 (mkF m 52 #[vr a, vi pp, vi (0 : Int32), vr u1] [xr a]) _
    refine XS.aloadN X1.here hx rfl (hb hby d5_52) rfl rfl ?_
    show own_S p e below T1 (mkF m 53 #[vr a, vi pp, vi (0 : Int32), vr u1] [xr u1, xr a]) _
    refine st2.trans ?_
    show own_S p e below T2 (mkF m 56 #[vr a, vi pp, vi (0 : Int32), vr u1] []) _
    refine XS.iconst X2.here hx rfl (hb hby d5_56) ?_
    show own_S p e below T2 (mkF m 57 #[vr a, vi pp, vi (0 : Int32), vr u1] [xi (1 : Int32)]) _
    exact retI X2 hx Bd.returns (hb hby d5_57) hr
  · show (own_QS Z h0 n0 a b k c0 c1 c2 c3) _ T2.heap _
    rw [e2]
    exact ⟨_, (c0 + (1 : Int64)), c1, c2, c3, rfl, N2, Kp2, ⟨X_a_2, F_a_counts_2, Vn2, ne_a_b, g_a, g_b⟩, Or.inr rfl, own_s0 c0 c1 c2 c3⟩
theorem own_s1 (c0 c1 c2 c3 : Int64) : c0 + (c1 + (1 : Int64)) + c2 + c3 = c0 + c1 + c2 + c3 + Int32.toInt64 (1 : Int32) := by
  rw [show Int32.toInt64 (1 : Int32) = (1 : Int64) from by decide]
  generalize (1 : Int64) = u
  ac_rfl
theorem d5_23 : decode method_2_code 23 = .ok (.iload_n 2, 1) := by decide +kernel
theorem d5_24 : decode method_2_code 24 = .ok (.iconst 1, 1) := by decide +kernel
theorem d5_25 : decode method_2_code 25 = .ok (.if_icmp .ne 10, 3) := by decide +kernel
theorem d5_28 : decode method_2_code 28 = .ok (.getstatic 13, 3) := by decide +kernel
theorem d5_31 : decode method_2_code 31 = .ok (.astore_n 3, 1) := by decide +kernel
theorem d5_32 : decode method_2_code 32 = .ok (.goto 19, 3) := by decide +kernel
theorem ef_own_step1 (m : MethodId) (u0 u1 u2 u3 u4 : Addr) (a : Addr) (b : Addr) (k : ClassId) (c0 : Int64) (c1 : Int64) (c2 : Int64) (c3 : Int64) (pp : Int32) : entryFrame m #[xr a, xi pp] 4 = (mkF m 0 #[vr a, vi pp, vu, vu] []) := by first | (simp [entryFrame, mkF, argsToLocals, Value.category]; done) | rfl
set_option maxRecDepth 65536 in
set_option maxHeartbeats 40000000 in
theorem own_step1 (l : Launch) (Z : State) (a0 : Array Value) (hw : ∀ d ∈ tables_1, d.before a0 Z = true) (u0 u1 u2 u3 u4 : Addr) (G : own_St Z u0 u1 u2 u3 u4) (a : Addr) (b : Addr) (k : ClassId) (c0 : Int64) (c1 : Int64) (c2 : Int64) (c3 : Int64) (pp : Int32) (as1 : (pp &&& (4 : Int32)) = (4 : Int32)) (as3 : (pp &&& (3 : Int32)) = (1 : Int32)) (h0 : Heap) (n0 : Nat) (O0 : Old Z n0 h0) (gL : own_LS Z h0 n0 a b k c0 c1 c2 c3) : own_Met l Z Y6 method_2_code 4 (some .int) ({ frames := 2, cells := 0, slots := 0, locals := 26 } : Room) #[xr a, xi pp] h0 (own_QS Z h0 n0 a b k c0 c1 c2 c3) := by
  intro ws
  refine MetFree.of_bodySF (plainFor_of_name pn3) hisR ?_
  intro p e s m args below meth c s₁ Bd hml0 hP hK
  obtain ⟨rfl, hZ, hh⟩ := hP
  have hx := Bd.exec
  have hby := Bd.bytes
  have hml : c.maxLocals = 4 := hml0
  have hown : s.vm.findClass "com/example/feedwright/feedwright/LoadSummaryRecordsPinLaw" = some m.cls := findClass_of_methodNamed Bd.named
  have hnm := (name_of_methodNamed Bd.named Bd.method).1
  have X0 : Stand p l e ({ frames := 2, cells := 0, slots := 0, locals := 26 } : Room) s m #[xr a, xi pp] below meth c s₁ [] 0 0 := Stand.of_body Bd
  have e0 : s₁.heap = h0 := by rw [← hh, Bd.state]; rfl
  have N0 := Fr.nil n0
  have pre0 : ∀ t, Steps p.tables e below (s₁.setTop (mkF m 0 #[vr a, vi pp, vu, vu] [])) t → Steps p.tables e below (s₁.setTop (entryFrame m #[xr a, xi pp] 4)) t := fun t st => castTop (ef_own_step1 m u0 u1 u2 u3 u4 a b k c0 c1 c2 c3 pp) st
  obtain ⟨EA, FA, VA, ne_a_b, g_a, g_b⟩ := gL
  obtain ⟨T1, X1, e1, st1⟩ := getS2 X0 hx hZ hown (host := "") (Or.inl (ww hw 57 rfl)) Via.refl e0 ((own_S_u2 G).ext O0.2) (g := (mkF m 28 #[vr a, vi pp, vi (1 : Int32), vu] [])) rfl (hb hby d5_28)
  obtain ⟨cq2, kq2, qa2, qb2, qc2⟩ := isOf hZ e1 EA
  obtain ⟨_, _, ⟨T2, L2, k2, n2⟩, -, X2, ⟨Lc2, hQ2, l2, y2, z2⟩, st2⟩ := X1.virtualBack hx (y := Y4) (z := Y4) hown (mvT hZ (ww hw 42 rfl)) (mvT hZ (ww hw 43 rfl)) (notFace_of_selects (args := #[]) (mvT hZ (ww hw 45 rfl))) (mvT hZ (ww hw 45 rfl)) (mvT hZ (ww hw 44 rfl)) (by decide) (backOf (W := 0) (own_add1 l Z a0 hw u0 u1 u2 u3 u4 G a b k c0 c1 c2 c3 h0 n0 O0 ⟨EA, FA, VA, ne_a_b, g_a, g_b⟩ []) hZ (ww hw 46 rfl) (ww hw 2 rfl) (by decide) (by decide)) qa2 qc2 (g := (mkF m 53 #[vr a, vi pp, vi (1 : Int32), vr u2] [xr u2, xr a])) rfl (by rw [hml]; rfl) (Steps.refl _) (argsL := [xr u2]) (rest := []) (lenOf pd2 rfl) rfl (by show 2 * 0 + _ ≤ _; exact Nat.le_of_eq rfl) (hb hby d5_53) (fun _ _ => ⟨rfl, e1, (by decide : 0 + 0 ≤ _), (by decide : 0 + 0 ≤ _)⟩)
  dsimp only [Pt.U, Pt.locs, Pt.cells, Pt.slots] at X2 l2 y2 z2 st2 hQ2
  subst l2 y2 z2
  obtain ⟨h2, e2⟩ : ∃ z, T2.heap = z := ⟨_, rfl⟩
  rw [e2] at hQ2
  obtain ⟨rfl, Nq2, K2, -, -, Vn2, -⟩ := hQ2
  have N2 := Fr.app N0 Nq2
  have O2 : Old Z n0 h2 := O0.keep K2 (allS g_b all0)
  have Kp2 : Keep h0 h2 [b] := (Keep.refl h0 [b]).trans K2 (allS (Or.inl (by simp)) all0)
  have X_a_2 := EA.keep K2
  have F_a_counts_2 := FA.keep K2 (ninS ne_a_b nin0)
  obtain ⟨fs, hr, hrun, hended, hW, hsame⟩ := X2.leave (v := some (xi (1 : Int32))) (fun h => by rw [Bd.returns] at h; cases h)
  refine ⟨_, _, pre0 _ ?_, hrun, hended, _, _, rfl, ?_, ⟨_, rfl⟩, hW, hsame.mono (by decide) (by decide)⟩
  · show own_S p e below s₁ (mkF m 0 #[vr a, vi pp, vu, vu] []) _
    refine XS.iloadN X0.here hx rfl (hb hby d5_0) rfl ?_
    show own_S p e below s₁ (mkF m 1 #[vr a, vi pp, vu, vu] [xi pp]) _
    refine XS.iconst X0.here hx rfl (hb hby d5_1) ?_
    show own_S p e below s₁ (mkF m 2 #[vr a, vi pp, vu, vu] [xi (4 : Int32), xi pp]) _
    refine XS.iand X0.here hx rfl (hb hby d5_2) rfl ?_
    show own_S p e below s₁ (mkF m 3 #[vr a, vi pp, vu, vu] [xi (pp &&& (4 : Int32))]) _
    refine castTop (show (mkF m 3 #[vr a, vi pp, vu, vu] [xi (pp &&& (4 : Int32))]) = (mkF m 3 #[vr a, vi pp, vu, vu] [xi (4 : Int32)]) from by rw [as1]) ?_
    show own_S p e below s₁ (mkF m 3 #[vr a, vi pp, vu, vu] [xi (4 : Int32)]) _
    refine XS.ifYes X0.here hx rfl (pc0 := 3) (pc' := 8) rfl (hb hby d5_3) rfl (by decide) (by decide) (by decide) ?_
    show own_S p e below s₁ (mkF m 8 #[vr a, vi pp, vu, vu] []) _
    refine XS.iloadN X0.here hx rfl (hb hby d5_8) rfl ?_
    show own_S p e below s₁ (mkF m 9 #[vr a, vi pp, vu, vu] [xi pp]) _
    refine XS.iconst X0.here hx rfl (hb hby d5_9) ?_
    show own_S p e below s₁ (mkF m 10 #[vr a, vi pp, vu, vu] [xi (3 : Int32), xi pp]) _
    refine XS.iand X0.here hx rfl (hb hby d5_10) rfl ?_
    show own_S p e below s₁ (mkF m 11 #[vr a, vi pp, vu, vu] [xi (pp &&& (3 : Int32))]) _
    refine castTop (show (mkF m 11 #[vr a, vi pp, vu, vu] [xi (pp &&& (3 : Int32))]) = (mkF m 11 #[vr a, vi pp, vu, vu] [xi (1 : Int32)]) from by rw [as3]) ?_
    show own_S p e below s₁ (mkF m 11 #[vr a, vi pp, vu, vu] [xi (1 : Int32)]) _
    refine XS.istoreN X0.here hx rfl (hb hby d5_11) rfl (l' := #[vr a, vi pp, vi (1 : Int32), vu]) rfl ?_
    show own_S p e below s₁ (mkF m 12 #[vr a, vi pp, vi (1 : Int32), vu] []) _
    refine XS.iloadN X0.here hx rfl (hb hby d5_12) rfl ?_
    show own_S p e below s₁ (mkF m 13 #[vr a, vi pp, vi (1 : Int32), vu] [xi (1 : Int32)]) _
    refine XS.ifYes X0.here hx rfl (pc0 := 13) (pc' := 23) rfl (hb hby d5_13) rfl (by decide) (by decide) (by decide) ?_
    show own_S p e below s₁ (mkF m 23 #[vr a, vi pp, vi (1 : Int32), vu] []) _
    refine XS.iloadN X0.here hx rfl (hb hby d5_23) rfl ?_
    show own_S p e below s₁ (mkF m 24 #[vr a, vi pp, vi (1 : Int32), vu] [xi (1 : Int32)]) _
    refine XS.iconst X0.here hx rfl (hb hby d5_24) ?_
    show own_S p e below s₁ (mkF m 25 #[vr a, vi pp, vi (1 : Int32), vu] [xi (1 : Int32), xi (1 : Int32)]) _
    refine XS.icmpNo X0.here hx rfl (hb hby d5_25) rfl (by decide) ?_
    show own_S p e below s₁ (mkF m 28 #[vr a, vi pp, vi (1 : Int32), vu] []) _
    refine st1 _ ?_
    show own_S p e below T1 (mkF m 31 #[vr a, vi pp, vi (1 : Int32), vu] [xr u2]) _
    refine XS.astoreN X1.here hx rfl (hb hby d5_31) rfl rfl (l' := #[vr a, vi pp, vi (1 : Int32), vr u2]) rfl ?_
    show own_S p e below T1 (mkF m 32 #[vr a, vi pp, vi (1 : Int32), vr u2] []) _
    refine XS.goto X1.here hx rfl (pc0 := 32) (pc' := 51) rfl (hb hby d5_32) (by decide) (by decide) ?_
    show own_S p e below T1 (mkF m 51 #[vr a, vi pp, vi (1 : Int32), vr u2] []) _
    refine XS.aloadN X1.here hx rfl (hb hby d5_51) rfl rfl ?_
    show own_S p e below T1 (mkF m 52 #[vr a, vi pp, vi (1 : Int32), vr u2] [xr a]) _
    refine XS.aloadN X1.here hx rfl (hb hby d5_52) rfl rfl ?_
    show own_S p e below T1 (mkF m 53 #[vr a, vi pp, vi (1 : Int32), vr u2] [xr u2, xr a]) _
    refine st2.trans ?_
    show own_S p e below T2 (mkF m 56 #[vr a, vi pp, vi (1 : Int32), vr u2] []) _
    refine XS.iconst X2.here hx rfl (hb hby d5_56) ?_
    show own_S p e below T2 (mkF m 57 #[vr a, vi pp, vi (1 : Int32), vr u2] [xi (1 : Int32)]) _
    exact retI X2 hx Bd.returns (hb hby d5_57) hr
  · show (own_QS Z h0 n0 a b k c0 c1 c2 c3) _ T2.heap _
    rw [e2]
    exact ⟨_, c0, (c1 + (1 : Int64)), c2, c3, rfl, N2, Kp2, ⟨X_a_2, F_a_counts_2, Vn2, ne_a_b, g_a, g_b⟩, Or.inr rfl, own_s1 c0 c1 c2 c3⟩
theorem own_s2 (c0 c1 c2 c3 : Int64) : c0 + c1 + (c2 + (1 : Int64)) + c3 = c0 + c1 + c2 + c3 + Int32.toInt64 (1 : Int32) := by
  rw [show Int32.toInt64 (1 : Int32) = (1 : Int64) from by decide]
  generalize (1 : Int64) = u
  ac_rfl
theorem d5_35 : decode method_2_code 35 = .ok (.iload_n 2, 1) := by decide +kernel
theorem d5_36 : decode method_2_code 36 = .ok (.iconst 2, 1) := by decide +kernel
theorem d5_37 : decode method_2_code 37 = .ok (.if_icmp .ne 10, 3) := by decide +kernel
theorem d5_40 : decode method_2_code 40 = .ok (.getstatic 16, 3) := by decide +kernel
theorem d5_43 : decode method_2_code 43 = .ok (.astore_n 3, 1) := by decide +kernel
theorem d5_44 : decode method_2_code 44 = .ok (.goto 7, 3) := by decide +kernel
theorem ef_own_step2 (m : MethodId) (u0 u1 u2 u3 u4 : Addr) (a : Addr) (b : Addr) (k : ClassId) (c0 : Int64) (c1 : Int64) (c2 : Int64) (c3 : Int64) (pp : Int32) : entryFrame m #[xr a, xi pp] 4 = (mkF m 0 #[vr a, vi pp, vu, vu] []) := by first | (simp [entryFrame, mkF, argsToLocals, Value.category]; done) | rfl
set_option maxRecDepth 65536 in
set_option maxHeartbeats 40000000 in
theorem own_step2 (l : Launch) (Z : State) (a0 : Array Value) (hw : ∀ d ∈ tables_1, d.before a0 Z = true) (u0 u1 u2 u3 u4 : Addr) (G : own_St Z u0 u1 u2 u3 u4) (a : Addr) (b : Addr) (k : ClassId) (c0 : Int64) (c1 : Int64) (c2 : Int64) (c3 : Int64) (pp : Int32) (as1 : (pp &&& (4 : Int32)) = (4 : Int32)) (as4 : (pp &&& (3 : Int32)) = (2 : Int32)) (h0 : Heap) (n0 : Nat) (O0 : Old Z n0 h0) (gL : own_LS Z h0 n0 a b k c0 c1 c2 c3) : own_Met l Z Y6 method_2_code 4 (some .int) ({ frames := 2, cells := 0, slots := 0, locals := 26 } : Room) #[xr a, xi pp] h0 (own_QS Z h0 n0 a b k c0 c1 c2 c3) := by
  intro ws
  refine MetFree.of_bodySF (plainFor_of_name pn3) hisR ?_
  intro p e s m args below meth c s₁ Bd hml0 hP hK
  obtain ⟨rfl, hZ, hh⟩ := hP
  have hx := Bd.exec
  have hby := Bd.bytes
  have hml : c.maxLocals = 4 := hml0
  have hown : s.vm.findClass "com/example/feedwright/feedwright/LoadSummaryRecordsPinLaw" = some m.cls := findClass_of_methodNamed Bd.named
  have hnm := (name_of_methodNamed Bd.named Bd.method).1
  have X0 : Stand p l e ({ frames := 2, cells := 0, slots := 0, locals := 26 } : Room) s m #[xr a, xi pp] below meth c s₁ [] 0 0 := Stand.of_body Bd
  have e0 : s₁.heap = h0 := by rw [← hh, Bd.state]; rfl
  have N0 := Fr.nil n0
  have pre0 : ∀ t, Steps p.tables e below (s₁.setTop (mkF m 0 #[vr a, vi pp, vu, vu] [])) t → Steps p.tables e below (s₁.setTop (entryFrame m #[xr a, xi pp] 4)) t := fun t st => castTop (ef_own_step2 m u0 u1 u2 u3 u4 a b k c0 c1 c2 c3 pp) st
  obtain ⟨EA, FA, VA, ne_a_b, g_a, g_b⟩ := gL
  obtain ⟨T1, X1, e1, st1⟩ := getS2 X0 hx hZ hown (host := "") (Or.inl (ww hw 58 rfl)) Via.refl e0 ((own_S_u3 G).ext O0.2) (g := (mkF m 40 #[vr a, vi pp, vi (2 : Int32), vu] [])) rfl (hb hby d5_40)
  obtain ⟨cq2, kq2, qa2, qb2, qc2⟩ := isOf hZ e1 EA
  obtain ⟨_, _, ⟨T2, L2, k2, n2⟩, -, X2, ⟨Lc2, hQ2, l2, y2, z2⟩, st2⟩ := X1.virtualBack hx (y := Y4) (z := Y4) hown (mvT hZ (ww hw 42 rfl)) (mvT hZ (ww hw 43 rfl)) (notFace_of_selects (args := #[]) (mvT hZ (ww hw 45 rfl))) (mvT hZ (ww hw 45 rfl)) (mvT hZ (ww hw 44 rfl)) (by decide) (backOf (W := 0) (own_add2 l Z a0 hw u0 u1 u2 u3 u4 G a b k c0 c1 c2 c3 h0 n0 O0 ⟨EA, FA, VA, ne_a_b, g_a, g_b⟩ []) hZ (ww hw 46 rfl) (ww hw 2 rfl) (by decide) (by decide)) qa2 qc2 (g := (mkF m 53 #[vr a, vi pp, vi (2 : Int32), vr u3] [xr u3, xr a])) rfl (by rw [hml]; rfl) (Steps.refl _) (argsL := [xr u3]) (rest := []) (lenOf pd2 rfl) rfl (by show 2 * 0 + _ ≤ _; exact Nat.le_of_eq rfl) (hb hby d5_53) (fun _ _ => ⟨rfl, e1, (by decide : 0 + 0 ≤ _), (by decide : 0 + 0 ≤ _)⟩)
  dsimp only [Pt.U, Pt.locs, Pt.cells, Pt.slots] at X2 l2 y2 z2 st2 hQ2
  subst l2 y2 z2
  obtain ⟨h2, e2⟩ : ∃ z, T2.heap = z := ⟨_, rfl⟩
  rw [e2] at hQ2
  obtain ⟨rfl, Nq2, K2, -, -, Vn2, -⟩ := hQ2
  have N2 := Fr.app N0 Nq2
  have O2 : Old Z n0 h2 := O0.keep K2 (allS g_b all0)
  have Kp2 : Keep h0 h2 [b] := (Keep.refl h0 [b]).trans K2 (allS (Or.inl (by simp)) all0)
  have X_a_2 := EA.keep K2
  have F_a_counts_2 := FA.keep K2 (ninS ne_a_b nin0)
  obtain ⟨fs, hr, hrun, hended, hW, hsame⟩ := X2.leave (v := some (xi (1 : Int32))) (fun h => by rw [Bd.returns] at h; cases h)
  refine ⟨_, _, pre0 _ ?_, hrun, hended, _, _, rfl, ?_, ⟨_, rfl⟩, hW, hsame.mono (by decide) (by decide)⟩
  · show own_S p e below s₁ (mkF m 0 #[vr a, vi pp, vu, vu] []) _
    refine XS.iloadN X0.here hx rfl (hb hby d5_0) rfl ?_
    show own_S p e below s₁ (mkF m 1 #[vr a, vi pp, vu, vu] [xi pp]) _
    refine XS.iconst X0.here hx rfl (hb hby d5_1) ?_
    show own_S p e below s₁ (mkF m 2 #[vr a, vi pp, vu, vu] [xi (4 : Int32), xi pp]) _
    refine XS.iand X0.here hx rfl (hb hby d5_2) rfl ?_
    show own_S p e below s₁ (mkF m 3 #[vr a, vi pp, vu, vu] [xi (pp &&& (4 : Int32))]) _
    refine castTop (show (mkF m 3 #[vr a, vi pp, vu, vu] [xi (pp &&& (4 : Int32))]) = (mkF m 3 #[vr a, vi pp, vu, vu] [xi (4 : Int32)]) from by rw [as1]) ?_
    show own_S p e below s₁ (mkF m 3 #[vr a, vi pp, vu, vu] [xi (4 : Int32)]) _
    refine XS.ifYes X0.here hx rfl (pc0 := 3) (pc' := 8) rfl (hb hby d5_3) rfl (by decide) (by decide) (by decide) ?_
    show own_S p e below s₁ (mkF m 8 #[vr a, vi pp, vu, vu] []) _
    refine XS.iloadN X0.here hx rfl (hb hby d5_8) rfl ?_
    show own_S p e below s₁ (mkF m 9 #[vr a, vi pp, vu, vu] [xi pp]) _
    refine XS.iconst X0.here hx rfl (hb hby d5_9) ?_
    show own_S p e below s₁ (mkF m 10 #[vr a, vi pp, vu, vu] [xi (3 : Int32), xi pp]) _
    refine XS.iand X0.here hx rfl (hb hby d5_10) rfl ?_
    show own_S p e below s₁ (mkF m 11 #[vr a, vi pp, vu, vu] [xi (pp &&& (3 : Int32))]) _
    refine castTop (show (mkF m 11 #[vr a, vi pp, vu, vu] [xi (pp &&& (3 : Int32))]) = (mkF m 11 #[vr a, vi pp, vu, vu] [xi (2 : Int32)]) from by rw [as4]) ?_
    show own_S p e below s₁ (mkF m 11 #[vr a, vi pp, vu, vu] [xi (2 : Int32)]) _
    refine XS.istoreN X0.here hx rfl (hb hby d5_11) rfl (l' := #[vr a, vi pp, vi (2 : Int32), vu]) rfl ?_
    show own_S p e below s₁ (mkF m 12 #[vr a, vi pp, vi (2 : Int32), vu] []) _
    refine XS.iloadN X0.here hx rfl (hb hby d5_12) rfl ?_
    show own_S p e below s₁ (mkF m 13 #[vr a, vi pp, vi (2 : Int32), vu] [xi (2 : Int32)]) _
    refine XS.ifYes X0.here hx rfl (pc0 := 13) (pc' := 23) rfl (hb hby d5_13) rfl (by decide) (by decide) (by decide) ?_
    show own_S p e below s₁ (mkF m 23 #[vr a, vi pp, vi (2 : Int32), vu] []) _
    refine XS.iloadN X0.here hx rfl (hb hby d5_23) rfl ?_
    show own_S p e below s₁ (mkF m 24 #[vr a, vi pp, vi (2 : Int32), vu] [xi (2 : Int32)]) _
    refine XS.iconst X0.here hx rfl (hb hby d5_24) ?_
    show own_S p e below s₁ (mkF m 25 #[vr a, vi pp, vi (2 : Int32), vu] [xi (1 : Int32), xi (2 : Int32)]) _
    refine XS.icmpYes X0.here hx rfl (pc0 := 25) (pc' := 35) rfl (hb hby d5_25) rfl (by decide) (by decide) (by decide) ?_
    show own_S p e below s₁ (mkF m 35 #[vr a, vi pp, vi (2 : Int32), vu] []) _
    refine XS.iloadN X0.here hx rfl (hb hby d5_35) rfl ?_
    show own_S p e below s₁ (mkF m 36 #[vr a, vi pp, vi (2 : Int32), vu] [xi (2 : Int32)]) _
    refine XS.iconst X0.here hx rfl (hb hby d5_36) ?_
    show own_S p e below s₁ (mkF m 37 #[vr a, vi pp, vi (2 : Int32), vu] [xi (2 : Int32), xi (2 : Int32)]) _
    refine XS.icmpNo X0.here hx rfl (hb hby d5_37) rfl (by decide) ?_
    show own_S p e below s₁ (mkF m 40 #[vr a, vi pp, vi (2 : Int32), vu] []) _
    refine st1 _ ?_
    show own_S p e below T1 (mkF m 43 #[vr a, vi pp, vi (2 : Int32), vu] [xr u3]) _
    refine XS.astoreN X1.here hx rfl (hb hby d5_43) rfl rfl (l' := #[vr a, vi pp, vi (2 : Int32), vr u3]) rfl ?_
    show own_S p e below T1 (mkF m 44 #[vr a, vi pp, vi (2 : Int32), vr u3] []) _
    refine XS.goto X1.here hx rfl (pc0 := 44) (pc' := 51) rfl (hb hby d5_44) (by decide) (by decide) ?_
    show own_S p e below T1 (mkF m 51 #[vr a, vi pp, vi (2 : Int32), vr u3] []) _
    refine XS.aloadN X1.here hx rfl (hb hby d5_51) rfl rfl ?_
    show own_S p e below T1 (mkF m 52 #[vr a, vi pp, vi (2 : Int32), vr u3] [xr a]) _
    refine XS.aloadN X1.here hx rfl (hb hby d5_52) rfl rfl ?_
    show own_S p e below T1 (mkF m 53 #[vr a, vi pp, vi (2 : Int32), vr u3] [xr u3, xr a]) _
    refine st2.trans ?_
    show own_S p e below T2 (mkF m 56 #[vr a, vi pp, vi (2 : Int32), vr u3] []) _
    refine XS.iconst X2.here hx rfl (hb hby d5_56) ?_
    show own_S p e below T2 (mkF m 57 #[vr a, vi pp, vi (2 : Int32), vr u3] [xi (1 : Int32)]) _
    exact retI X2 hx Bd.returns (hb hby d5_57) hr
  · show (own_QS Z h0 n0 a b k c0 c1 c2 c3) _ T2.heap _
    rw [e2]
    exact ⟨_, c0, c1, (c2 + (1 : Int64)), c3, rfl, N2, Kp2, ⟨X_a_2, F_a_counts_2, Vn2, ne_a_b, g_a, g_b⟩, Or.inr rfl, own_s2 c0 c1 c2 c3⟩
theorem own_s3 (c0 c1 c2 c3 : Int64) : c0 + c1 + c2 + (c3 + (1 : Int64)) = c0 + c1 + c2 + c3 + Int32.toInt64 (1 : Int32) := by
  rw [show Int32.toInt64 (1 : Int32) = (1 : Int64) from by decide]
  generalize (1 : Int64) = u
  ac_rfl
theorem d5_47 : decode method_2_code 47 = .ok (.getstatic 19, 3) := by decide +kernel
theorem d5_50 : decode method_2_code 50 = .ok (.astore_n 3, 1) := by decide +kernel
theorem ef_own_step3 (m : MethodId) (u0 u1 u2 u3 u4 : Addr) (a : Addr) (b : Addr) (k : ClassId) (c0 : Int64) (c1 : Int64) (c2 : Int64) (c3 : Int64) (pp : Int32) : entryFrame m #[xr a, xi pp] 4 = (mkF m 0 #[vr a, vi pp, vu, vu] []) := by first | (simp [entryFrame, mkF, argsToLocals, Value.category]; done) | rfl
set_option maxRecDepth 65536 in
set_option maxHeartbeats 40000000 in
theorem own_step3 (l : Launch) (Z : State) (a0 : Array Value) (hw : ∀ d ∈ tables_1, d.before a0 Z = true) (u0 u1 u2 u3 u4 : Addr) (G : own_St Z u0 u1 u2 u3 u4) (a : Addr) (b : Addr) (k : ClassId) (c0 : Int64) (c1 : Int64) (c2 : Int64) (c3 : Int64) (pp : Int32) (as1 : (pp &&& (4 : Int32)) = (4 : Int32)) (as5 : (pp &&& (3 : Int32)) = (3 : Int32)) (h0 : Heap) (n0 : Nat) (O0 : Old Z n0 h0) (gL : own_LS Z h0 n0 a b k c0 c1 c2 c3) : own_Met l Z Y6 method_2_code 4 (some .int) ({ frames := 2, cells := 0, slots := 0, locals := 26 } : Room) #[xr a, xi pp] h0 (own_QS Z h0 n0 a b k c0 c1 c2 c3) := by
  intro ws
  refine MetFree.of_bodySF (plainFor_of_name pn3) hisR ?_
  intro p e s m args below meth c s₁ Bd hml0 hP hK
  obtain ⟨rfl, hZ, hh⟩ := hP
  have hx := Bd.exec
  have hby := Bd.bytes
  have hml : c.maxLocals = 4 := hml0
  have hown : s.vm.findClass "com/example/feedwright/feedwright/LoadSummaryRecordsPinLaw" = some m.cls := findClass_of_methodNamed Bd.named
  have hnm := (name_of_methodNamed Bd.named Bd.method).1
  have X0 : Stand p l e ({ frames := 2, cells := 0, slots := 0, locals := 26 } : Room) s m #[xr a, xi pp] below meth c s₁ [] 0 0 := Stand.of_body Bd
  have e0 : s₁.heap = h0 := by rw [← hh, Bd.state]; rfl
  have N0 := Fr.nil n0
  have pre0 : ∀ t, Steps p.tables e below (s₁.setTop (mkF m 0 #[vr a, vi pp, vu, vu] [])) t → Steps p.tables e below (s₁.setTop (entryFrame m #[xr a, xi pp] 4)) t := fun t st => castTop (ef_own_step3 m u0 u1 u2 u3 u4 a b k c0 c1 c2 c3 pp) st
  obtain ⟨EA, FA, VA, ne_a_b, g_a, g_b⟩ := gL
  obtain ⟨T1, X1, e1, st1⟩ := getS2 X0 hx hZ hown (host := "") (Or.inl (ww hw 56 rfl)) Via.refl e0 ((own_S_u4 G).ext O0.2) (g := (mkF m 47 #[vr a, vi pp, vi (3 : Int32), vu] [])) rfl (hb hby d5_47)
  obtain ⟨cq2, kq2, qa2, qb2, qc2⟩ := isOf hZ e1 EA
  obtain ⟨_, _, ⟨T2, L2, k2, n2⟩, -, X2, ⟨Lc2, hQ2, l2, y2, z2⟩, st2⟩ := X1.virtualBack hx (y := Y4) (z := Y4) hown (mvT hZ (ww hw 42 rfl)) (mvT hZ (ww hw 43 rfl)) (notFace_of_selects (args := #[]) (mvT hZ (ww hw 45 rfl))) (mvT hZ (ww hw 45 rfl)) (mvT hZ (ww hw 44 rfl)) (by decide) (backOf (W := 0) (own_add3 l Z a0 hw u0 u1 u2 u3 u4 G a b k c0 c1 c2 c3 h0 n0 O0 ⟨EA, FA, VA, ne_a_b, g_a, g_b⟩ []) hZ (ww hw 46 rfl) (ww hw 2 rfl) (by decide) (by decide)) qa2 qc2 (g := (mkF m 53 #[vr a, vi pp, vi (3 : Int32), vr u4] [xr u4, xr a])) rfl (by rw [hml]; rfl) (Steps.refl _) (argsL := [xr u4]) (rest := []) (lenOf pd2 rfl) rfl (by show 2 * 0 + _ ≤ _; exact Nat.le_of_eq rfl) (hb hby d5_53) (fun _ _ => ⟨rfl, e1, (by decide : 0 + 0 ≤ _), (by decide : 0 + 0 ≤ _)⟩)
  dsimp only [Pt.U, Pt.locs, Pt.cells, Pt.slots] at X2 l2 y2 z2 st2 hQ2
  subst l2 y2 z2
  obtain ⟨h2, e2⟩ : ∃ z, T2.heap = z := ⟨_, rfl⟩
  rw [e2] at hQ2
  obtain ⟨rfl, Nq2, K2, -, -, Vn2, -⟩ := hQ2
  have N2 := Fr.app N0 Nq2
  have O2 : Old Z n0 h2 := O0.keep K2 (allS g_b all0)
  have Kp2 : Keep h0 h2 [b] := (Keep.refl h0 [b]).trans K2 (allS (Or.inl (by simp)) all0)
  have X_a_2 := EA.keep K2
  have F_a_counts_2 := FA.keep K2 (ninS ne_a_b nin0)
  obtain ⟨fs, hr, hrun, hended, hW, hsame⟩ := X2.leave (v := some (xi (1 : Int32))) (fun h => by rw [Bd.returns] at h; cases h)
  refine ⟨_, _, pre0 _ ?_, hrun, hended, _, _, rfl, ?_, ⟨_, rfl⟩, hW, hsame.mono (by decide) (by decide)⟩
  · show own_S p e below s₁ (mkF m 0 #[vr a, vi pp, vu, vu] []) _
    refine XS.iloadN X0.here hx rfl (hb hby d5_0) rfl ?_
    show own_S p e below s₁ (mkF m 1 #[vr a, vi pp, vu, vu] [xi pp]) _
    refine XS.iconst X0.here hx rfl (hb hby d5_1) ?_
    show own_S p e below s₁ (mkF m 2 #[vr a, vi pp, vu, vu] [xi (4 : Int32), xi pp]) _
    refine XS.iand X0.here hx rfl (hb hby d5_2) rfl ?_
    show own_S p e below s₁ (mkF m 3 #[vr a, vi pp, vu, vu] [xi (pp &&& (4 : Int32))]) _
    refine castTop (show (mkF m 3 #[vr a, vi pp, vu, vu] [xi (pp &&& (4 : Int32))]) = (mkF m 3 #[vr a, vi pp, vu, vu] [xi (4 : Int32)]) from by rw [as1]) ?_
    show own_S p e below s₁ (mkF m 3 #[vr a, vi pp, vu, vu] [xi (4 : Int32)]) _
    refine XS.ifYes X0.here hx rfl (pc0 := 3) (pc' := 8) rfl (hb hby d5_3) rfl (by decide) (by decide) (by decide) ?_
    show own_S p e below s₁ (mkF m 8 #[vr a, vi pp, vu, vu] []) _
    refine XS.iloadN X0.here hx rfl (hb hby d5_8) rfl ?_
    show own_S p e below s₁ (mkF m 9 #[vr a, vi pp, vu, vu] [xi pp]) _
    refine XS.iconst X0.here hx rfl (hb hby d5_9) ?_
    show own_S p e below s₁ (mkF m 10 #[vr a, vi pp, vu, vu] [xi (3 : Int32), xi pp]) _
    refine XS.iand X0.here hx rfl (hb hby d5_10) rfl ?_
    show own_S p e below s₁ (mkF m 11 #[vr a, vi pp, vu, vu] [xi (pp &&& (3 : Int32))]) _
    refine castTop (show (mkF m 11 #[vr a, vi pp, vu, vu] [xi (pp &&& (3 : Int32))]) = (mkF m 11 #[vr a, vi pp, vu, vu] [xi (3 : Int32)]) from by rw [as5]) ?_
    show own_S p e below s₁ (mkF m 11 #[vr a, vi pp, vu, vu] [xi (3 : Int32)]) _
    refine XS.istoreN X0.here hx rfl (hb hby d5_11) rfl (l' := #[vr a, vi pp, vi (3 : Int32), vu]) rfl ?_
    show own_S p e below s₁ (mkF m 12 #[vr a, vi pp, vi (3 : Int32), vu] []) _
    refine XS.iloadN X0.here hx rfl (hb hby d5_12) rfl ?_
    show own_S p e below s₁ (mkF m 13 #[vr a, vi pp, vi (3 : Int32), vu] [xi (3 : Int32)]) _
    refine XS.ifYes X0.here hx rfl (pc0 := 13) (pc' := 23) rfl (hb hby d5_13) rfl (by decide) (by decide) (by decide) ?_
    show own_S p e below s₁ (mkF m 23 #[vr a, vi pp, vi (3 : Int32), vu] []) _
    refine XS.iloadN X0.here hx rfl (hb hby d5_23) rfl ?_
    show own_S p e below s₁ (mkF m 24 #[vr a, vi pp, vi (3 : Int32), vu] [xi (3 : Int32)]) _
    refine XS.iconst X0.here hx rfl (hb hby d5_24) ?_
    show own_S p e below s₁ (mkF m 25 #[vr a, vi pp, vi (3 : Int32), vu] [xi (1 : Int32), xi (3 : Int32)]) _
    refine XS.icmpYes X0.here hx rfl (pc0 := 25) (pc' := 35) rfl (hb hby d5_25) rfl (by decide) (by decide) (by decide) ?_
    show own_S p e below s₁ (mkF m 35 #[vr a, vi pp, vi (3 : Int32), vu] []) _
    refine XS.iloadN X0.here hx rfl (hb hby d5_35) rfl ?_
    show own_S p e below s₁ (mkF m 36 #[vr a, vi pp, vi (3 : Int32), vu] [xi (3 : Int32)]) _
    refine XS.iconst X0.here hx rfl (hb hby d5_36) ?_
    show own_S p e below s₁ (mkF m 37 #[vr a, vi pp, vi (3 : Int32), vu] [xi (2 : Int32), xi (3 : Int32)]) _
    refine XS.icmpYes X0.here hx rfl (pc0 := 37) (pc' := 47) rfl (hb hby d5_37) rfl (by decide) (by decide) (by decide) ?_
    show own_S p e below s₁ (mkF m 47 #[vr a, vi pp, vi (3 : Int32), vu] []) _
    refine st1 _ ?_
    show own_S p e below T1 (mkF m 50 #[vr a, vi pp, vi (3 : Int32), vu] [xr u4]) _
    refine XS.astoreN X1.here hx rfl (hb hby d5_50) rfl rfl (l' := #[vr a, vi pp, vi (3 : Int32), vr u4]) rfl ?_
    show own_S p e below T1 (mkF m 51 #[vr a, vi pp, vi (3 : Int32), vr u4] []) _
    refine XS.aloadN X1.here hx rfl (hb hby d5_51) rfl rfl ?_
    show own_S p e below T1 (mkF m 52 #[vr a, vi pp, vi (3 : Int32), vr u4] [xr a]) _
    refine XS.aloadN X1.here hx rfl (hb hby d5_52) rfl rfl ?_
    show own_S p e below T1 (mkF m 53 #[vr a, vi pp, vi (3 : Int32), vr u4] [xr u4, xr a]) _
    refine st2.trans ?_
    show own_S p e below T2 (mkF m 56 #[vr a, vi pp, vi (3 : Int32), vr u4] []) _
    refine XS.iconst X2.here hx rfl (hb hby d5_56) ?_
    show own_S p e below T2 (mkF m 57 #[vr a, vi pp, vi (3 : Int32), vr u4] [xi (1 : Int32)]) _
    exact retI X2 hx Bd.returns (hb hby d5_57) hr
  · show (own_QS Z h0 n0 a b k c0 c1 c2 c3) _ T2.heap _
    rw [e2]
    exact ⟨_, c0, c1, c2, (c3 + (1 : Int64)), rfl, N2, Kp2, ⟨X_a_2, F_a_counts_2, Vn2, ne_a_b, g_a, g_b⟩, Or.inr rfl, own_s3 c0 c1 c2 c3⟩
theorem own_sn (c0 c1 c2 c3 : Int64) : c0 + c1 + c2 + c3 = c0 + c1 + c2 + c3 + Int32.toInt64 (0 : Int32) := by
  rw [show Int32.toInt64 (0 : Int32) = (0 : Int64) from by decide, Int64.add_zero]
theorem d5_6 : decode method_2_code 6 = .ok (.iconst 0, 1) := by decide +kernel
theorem d5_7 : decode method_2_code 7 = .ok (.ireturn, 1) := by decide +kernel
theorem ef_own_step_n (m : MethodId) (u0 u1 u2 u3 u4 : Addr) (a : Addr) (b : Addr) (k : ClassId) (c0 : Int64) (c1 : Int64) (c2 : Int64) (c3 : Int64) (pp : Int32) : entryFrame m #[xr a, xi pp] 4 = (mkF m 0 #[vr a, vi pp, vu, vu] []) := by first | (simp [entryFrame, mkF, argsToLocals, Value.category]; done) | rfl
set_option maxRecDepth 65536 in
set_option maxHeartbeats 40000000 in
theorem own_step_n (l : Launch) (Z : State) (a0 : Array Value) (hw : ∀ d ∈ tables_1, d.before a0 Z = true) (u0 u1 u2 u3 u4 : Addr) (G : own_St Z u0 u1 u2 u3 u4) (a : Addr) (b : Addr) (k : ClassId) (c0 : Int64) (c1 : Int64) (c2 : Int64) (c3 : Int64) (pp : Int32) (as0 : (pp &&& (4 : Int32)) = (0 : Int32)) (h0 : Heap) (n0 : Nat) (O0 : Old Z n0 h0) (gL : own_LS Z h0 n0 a b k c0 c1 c2 c3) : own_Met l Z Y6 method_2_code 4 (some .int) ({ frames := 2, cells := 0, slots := 0, locals := 26 } : Room) #[xr a, xi pp] h0 (own_QS Z h0 n0 a b k c0 c1 c2 c3) := by
  intro ws
  refine MetFree.of_bodySF (plainFor_of_name pn3) hisR ?_
  intro p e s m args below meth c s₁ Bd hml0 hP hK
  obtain ⟨rfl, hZ, hh⟩ := hP
  have hx := Bd.exec
  have hby := Bd.bytes
  have hml : c.maxLocals = 4 := hml0
  have hown : s.vm.findClass "com/example/feedwright/feedwright/LoadSummaryRecordsPinLaw" = some m.cls := findClass_of_methodNamed Bd.named
  have hnm := (name_of_methodNamed Bd.named Bd.method).1
  have X0 : Stand p l e ({ frames := 2, cells := 0, slots := 0, locals := 26 } : Room) s m #[xr a, xi pp] below meth c s₁ [] 0 0 := Stand.of_body Bd
  have e0 : s₁.heap = h0 := by rw [← hh, Bd.state]; rfl
  have N0 := Fr.nil n0
  have pre0 : ∀ t, Steps p.tables e below (s₁.setTop (mkF m 0 #[vr a, vi pp, vu, vu] [])) t → Steps p.tables e below (s₁.setTop (entryFrame m #[xr a, xi pp] 4)) t := fun t st => castTop (ef_own_step_n m u0 u1 u2 u3 u4 a b k c0 c1 c2 c3 pp) st
  obtain ⟨EA, FA, VA, ne_a_b, g_a, g_b⟩ := gL
  obtain ⟨fs, hr, hrun, hended, hW, hsame⟩ := X0.leave (v := some (xi (0 : Int32))) (fun h => by rw [Bd.returns] at h; cases h)
  refine ⟨_, _, pre0 _ ?_, hrun, hended, _, _, rfl, ?_, ⟨_, rfl⟩, hW, hsame.mono (by decide) (by decide)⟩
  · show own_S p e below s₁ (mkF m 0 #[vr a, vi pp, vu, vu] []) _
    refine XS.iloadN X0.here hx rfl (hb hby d5_0) rfl ?_
    show own_S p e below s₁ (mkF m 1 #[vr a, vi pp, vu, vu] [xi pp]) _
    refine XS.iconst X0.here hx rfl (hb hby d5_1) ?_
    show own_S p e below s₁ (mkF m 2 #[vr a, vi pp, vu, vu] [xi (4 : Int32), xi pp]) _
    refine XS.iand X0.here hx rfl (hb hby d5_2) rfl ?_
    show own_S p e below s₁ (mkF m 3 #[vr a, vi pp, vu, vu] [xi (pp &&& (4 : Int32))]) _
    refine castTop (show (mkF m 3 #[vr a, vi pp, vu, vu] [xi (pp &&& (4 : Int32))]) = (mkF m 3 #[vr a, vi pp, vu, vu] [xi (0 : Int32)]) from by rw [as0]) ?_
    show own_S p e below s₁ (mkF m 3 #[vr a, vi pp, vu, vu] [xi (0 : Int32)]) _
    refine XS.ifNo X0.here hx rfl (hb hby d5_3) rfl (by decide) ?_
    show own_S p e below s₁ (mkF m 6 #[vr a, vi pp, vu, vu] []) _
    refine XS.iconst X0.here hx rfl (hb hby d5_6) ?_
    show own_S p e below s₁ (mkF m 7 #[vr a, vi pp, vu, vu] [xi (0 : Int32)]) _
    exact retI X0 hx Bd.returns (hb hby d5_7) hr
  · show (own_QS Z h0 n0 a b k c0 c1 c2 c3) _ s₁.heap _
    rw [e0]
    exact ⟨_, c0, c1, c2, c3, rfl, N0, (Keep.refl h0 [b]), ⟨EA, FA, VA, ne_a_b, g_a, g_b⟩, Or.inl rfl, own_sn c0 c1 c2 c3⟩
theorem own_step (l : Launch) (Z : State) (a0 : Array Value) (hw : ∀ d ∈ tables_1, d.before a0 Z = true) (u0 u1 u2 u3 u4 : Addr) (G : own_St Z u0 u1 u2 u3 u4) (a b : Addr) (k : ClassId) (c0 c1 c2 c3 : Int64) (pp : Int32) (h0 : Heap) (n0 : Nat) (O0 : Old Z n0 h0) (gL : own_LS Z h0 n0 a b k c0 c1 c2 c3) : own_Met l Z Y6 method_2_code 4 (some .int) ({ frames := 2, cells := 0, slots := 0, locals := 26 } : Room) #[(.ref a), (.int pp)] h0 (own_QS Z h0 n0 a b k c0 c1 c2 c3) := by
  rcases own_bit4 pp with as0 | as1
  · exact own_step_n l Z a0 hw u0 u1 u2 u3 u4 G a b k c0 c1 c2 c3 pp as0 h0 n0 O0 gL
  · rcases own_mask3 pp with as2 | as3 | as4 | as5
    · exact own_step0 l Z a0 hw u0 u1 u2 u3 u4 G a b k c0 c1 c2 c3 pp as1 as2 h0 n0 O0 gL
    · exact own_step1 l Z a0 hw u0 u1 u2 u3 u4 G a b k c0 c1 c2 c3 pp as1 as3 h0 n0 O0 gL
    · exact own_step2 l Z a0 hw u0 u1 u2 u3 u4 G a b k c0 c1 c2 c3 pp as1 as4 h0 n0 O0 gL
    · exact own_step3 l Z a0 hw u0 u1 u2 u3 u4 G a b k c0 c1 c2 c3 pp as1 as5 h0 n0 O0 gL
theorem own_fin {r1 r2 r3 r4 r5 r6 : Int32} {x1 x2 x3 x4 x5 d0 d1 d2 d3 : Int64} (h1 : r1 = 0 ∨ r1 = 1) (h2 : r2 = 0 ∨ r2 = 1) (h3 : r3 = 0 ∨ r3 = 1) (h4 : r4 = 0 ∨ r4 = 1) (h5 : r5 = 0 ∨ r5 = 1) (h6 : r6 = 0 ∨ r6 = 1)
    (s1 : x1 = (0 : Int64) + 0 + 0 + 0 + r1.toInt64) (s2 : x2 = x1 + r2.toInt64) (s3 : x3 = x2 + r3.toInt64) (s4 : x4 = x3 + r4.toInt64) (s5 : x5 = x4 + r5.toInt64) (s6 : d0 + d1 + d2 + d3 = x5 + r6.toInt64) :
    ifCond.holds .ne (lcmpW (((((0 : Int64) + d0) + d1) + d2) + d3) (((((((0 : Int32) + r1) + r2) + r3) + r4) + r5) + r6).toInt64) = false := by
  have e : ((((0 : Int64) + d0) + d1) + d2) + d3 = (((((((0 : Int32) + r1) + r2) + r3) + r4) + r5) + r6).toInt64 := by
    rw [Int64.zero_add, s6, s5, s4, s3, s2, s1]
    rcases h1 with rfl | rfl <;> rcases h2 with rfl | rfl <;> rcases h3 with rfl | rfl <;> rcases h4 with rfl | rfl <;> rcases h5 with rfl | rfl <;> rcases h6 with rfl | rfl <;> decide
  rw [e]
  simp [lcmpW, ifCond.holds]
theorem pd3 : parseMethodDescriptor "()V" = some ⟨[], none⟩ := by decide +kernel
theorem pd4 : parseMethodDescriptor "()J" = some ⟨[], some .long⟩ := by decide +kernel
theorem pd5 : parseMethodDescriptor "(Lcom/example/feedwright/feedwright/LoadSummary;I)I" = some ⟨[(.object "com/example/feedwright/feedwright/LoadSummary"), .int], some .int⟩ := by decide +kernel
theorem ef_own_law (m : MethodId) (u0 u1 u2 u3 u4 : Addr) (p1 : Int32) (p2 : Int32) (p3 : Int32) (p4 : Int32) (p5 : Int32) (p6 : Int32) : entryFrame m #[xi p1, xi p2, xi p3, xi p4, xi p5, xi p6] maxLocals = (mkF m 0 #[vi p1, vi p2, vi p3, vi p4, vi p5, vi p6, vu, vu, vu, vu, vu, vu] []) := by first | (simp [entryFrame, mkF, argsToLocals, Value.category, maxLocals]; done) | rfl
set_option maxRecDepth 65536 in
set_option maxHeartbeats 40000000 in
theorem own_law (l : Launch) (Z : State) (a0 : Array Value) (hw : ∀ d ∈ tables_1, d.before a0 Z = true) (u0 u1 u2 u3 u4 : Addr) (G : own_St Z u0 u1 u2 u3 u4) (p1 : Int32) (p2 : Int32) (p3 : Int32) (p4 : Int32) (p5 : Int32) (p6 : Int32) (h0 : Heap) (n0 : Nat) (O0 : Old Z n0 h0) : own_Met l Z x code maxLocals ret room_1 #[xi p1, xi p2, xi p3, xi p4, xi p5, xi p6] h0 (own_QL (some (xi (1 : Int32))) n0) := by
  intro ws
  refine MetFree.of_bodySF (plainFor_of_name pn3) hisR ?_
  intro p e s m args below meth c s₁ Bd hml0 hP hK
  obtain ⟨rfl, hZ, hh⟩ := hP
  have hx := Bd.exec
  have hby := Bd.bytes
  have hml : c.maxLocals = 12 := hml0
  have hown : s.vm.findClass "com/example/feedwright/feedwright/LoadSummaryRecordsPinLaw" = some m.cls := findClass_of_methodNamed Bd.named
  have hnm := (name_of_methodNamed Bd.named Bd.method).1
  have X0 : Stand p l e room_1 s m #[xi p1, xi p2, xi p3, xi p4, xi p5, xi p6] below meth c s₁ [] 0 0 := Stand.of_body Bd
  have e0 : s₁.heap = h0 := by rw [← hh, Bd.state]; rfl
  have N0 := Fr.nil n0
  have pre0 : ∀ t, Steps p.tables e below (s₁.setTop (mkF m 0 #[vi p1, vi p2, vi p3, vi p4, vi p5, vi p6, vu, vu, vu, vu, vu, vu] [])) t → Steps p.tables e below (s₁.setTop (entryFrame m #[xi p1, xi p2, xi p3, xi p4, xi p5, xi p6] maxLocals)) t := fun t st => castTop (ef_own_law m u0 u1 u2 u3 u4 p1 p2 p3 p4 p5 p6) st
  obtain ⟨T1, h1, X1, e1, E1, A1, D1, -, st1⟩ := newO X0 hx hZ hown (ww hw 0 rfl) (ww hw 1 rfl) (ww hw 2 rfl) e0 (g := (mkF m 0 #[vi p1, vi p2, vi p3, vi p4, vi p5, vi p6, vu, vu, vu, vu, vu, vu] [])) rfl (hb hby at_0) (by decide) (by decide)
  obtain ⟨b1, g1⟩ : ∃ z, z = h0.size := ⟨_, rfl⟩
  rw [← g1] at A1 D1 st1
  have g_b1 : n0 ≤ b1 := own_fresh O0 g1
  have O1 : Old Z n0 h1 := O0.ext E1
  have F_b1_counts : Fld Z h1 b1 "com/example/feedwright/feedwright/LoadSummary" "counts" "[J" .null := D1 (Or.inr (ww hw 31 rfl)) (ty := (.array .long)) (by decide)
  obtain ⟨_, _, ⟨T2, L2, k2, n2⟩, -, X2, ⟨Lc2, hQ2, l2, y2, z2⟩, st2⟩ := X1.specialBack hx (y := Y1) rfl hown (mvT hZ (ww hw 3 rfl)) (mvT hZ (ww hw 4 rfl)) (mvT hZ (ww hw 5 rfl)) (by decide) (backOf (W := 1) (own_init l Z a0 hw u0 u1 u2 u3 u4 G b1 h1 n0 O1 A1 F_b1_counts g_b1 []) hZ (ww hw 5 rfl) (ww hw 2 rfl) (by decide) (by decide)) (g := (mkF m 4 #[vi p1, vi p2, vi p3, vi p4, vi p5, vi p6, vu, vu, vu, vu, vu, vu] [xr b1, xr b1])) rfl (by rw [hml]; rfl) (Steps.refl _) (a := b1) (argsL := []) (rest := [xr b1]) (lenOf pd3 rfl) rfl (by show 2 * 0 + _ ≤ _; exact Nat.le_of_eq rfl) (hb hby at_4) (fun _ _ => ⟨rfl, e1, (by decide : 1 + 2 ≤ _), (by decide : 1 + 8 ≤ _)⟩)
  dsimp only [Pt.U, Pt.locs, Pt.cells, Pt.slots] at X2 l2 y2 z2 st2 hQ2
  subst l2 y2 z2
  obtain ⟨h2, e2⟩ : ∃ z, T2.heap = z := ⟨_, rfl⟩
  rw [e2] at hQ2
  obtain ⟨rfl, Nq2, K2, bb2, kk2, -, Fc2, Vb2, nb2, -, g_bb2⟩ := hQ2
  have N2 := Fr.app N0 Nq2
  have O2 : Old Z n0 h2 := O1.keep K2 (allS g_b1 all0)
  have X_b1_2 := A1.keep K2
  obtain ⟨cq3, kq3, qa3, qb3, qc3⟩ := isOf hZ e2 X_b1_2
  obtain ⟨_, _, ⟨T3, L3, k3, n3⟩, -, X3, ⟨Lc3, hQ3, l3, y3, z3⟩, st3⟩ := X2.virtualBack hx (y := Y5) (z := Y5) hown (mvT hZ (ww hw 32 rfl)) (mvT hZ (ww hw 33 rfl)) (notFace_of_selects (args := #[]) (mvT hZ (ww hw 35 rfl))) (mvT hZ (ww hw 35 rfl)) (mvT hZ (ww hw 34 rfl)) (by decide) (backOf (W := 0) (own_records l Z a0 hw u0 u1 u2 u3 u4 G b1 bb2 kk2 (0 : Int64) (0 : Int64) (0 : Int64) (0 : Int64) h2 n0 O2 ⟨X_b1_2, Fc2, Vb2, nb2, g_b1, g_bb2⟩ []) hZ (ww hw 36 rfl) (ww hw 2 rfl) (by decide) (by decide)) qa3 qc3 (g := (mkF m 11 #[vi p1, vi p2, vi p3, vi p4, vi p5, vi p6, vr b1, vu, vu, vu, vu, vu] [xr b1])) rfl (by rw [hml]; rfl) (Steps.refl _) (argsL := []) (rest := []) (lenOf pd4 rfl) rfl (by show 2 * 0 + _ ≤ _; exact Nat.le_of_eq rfl) (hb hby at_11) (fun _ _ => ⟨rfl, e2, (by decide : 3 + 0 ≤ _), (by decide : 9 + 0 ≤ _)⟩)
  dsimp only [Pt.U, Pt.locs, Pt.cells, Pt.slots] at X3 l3 y3 z3 st3 hQ3
  subst l3 y3 z3
  obtain ⟨rfl, Nq3, e3⟩ := hQ3
  have N3 := Fr.app N2 Nq3
  obtain ⟨_, _, ⟨T4, L4, k4, n4⟩, -, X4, ⟨Lc4, hQ4, l4, y4, z4⟩, st4⟩ := Jvm.LawKit.callS X3 hx (y := Y6) hown (mvT hZ (ww hw 37 rfl)) (mvT hZ (ww hw 38 rfl)) (mvT hZ (ww hw 39 rfl)) (mvT hZ (ww hw 40 rfl)) (by decide) (backOf (W := 1) (own_step l Z a0 hw u0 u1 u2 u3 u4 G b1 bb2 kk2 (0 : Int64) (0 : Int64) (0 : Int64) (0 : Int64) p1 h2 n0 O2 ⟨X_b1_2, Fc2, Vb2, nb2, g_b1, g_bb2⟩ []) hZ (ww hw 40 rfl) (ww hw 39 rfl) (by decide) (by decide)) (g := (mkF m 24 #[vi p1, vi p2, vi p3, vi p4, vi p5, vi p6, vr b1, vj (((((0 : Int64) + (0 : Int64)) + (0 : Int64)) + (0 : Int64)) + (0 : Int64)), .second, vi (0 : Int32), vu, vu] [xi p1, xr b1, xi (0 : Int32)])) rfl (by rw [hml]; rfl) (argsL := [xr b1, xi p1]) (rest := [xi (0 : Int32)]) (lenOf pd5 rfl) rfl (by show 2 * 0 + _ ≤ _; exact Nat.le_of_eq rfl) (hb hby at_24) (fun _ _ => ⟨rfl, e3, (by decide : 3 + 0 ≤ _), (by decide : 9 + 0 ≤ _)⟩)
  dsimp only [Pt.U, Pt.locs, Pt.cells, Pt.slots] at X4 l4 y4 z4 st4 hQ4
  subst l4 y4 z4
  obtain ⟨h4, e4⟩ : ∃ z, T4.heap = z := ⟨_, rfl⟩
  rw [e4] at hQ4
  obtain ⟨r4, d0_4, d1_4, d2_4, d3_4, rfl, Nq4, K4, ⟨-, -, Vn4, -⟩, hr4, hs4⟩ := hQ4
  have N4 := Fr.app N3 Nq4
  have O4 : Old Z n0 h4 := O2.keep K4 (allS g_bb2 all0)
  have X_b1_4 := X_b1_2.keep K4
  have F_b1_counts_4 := Fc2.keep K4 (ninS nb2 nin0)
  obtain ⟨_, _, ⟨T5, L5, k5, n5⟩, -, X5, ⟨Lc5, hQ5, l5, y5, z5⟩, st5⟩ := Jvm.LawKit.callS X4 hx (y := Y6) hown (mvT hZ (ww hw 37 rfl)) (mvT hZ (ww hw 38 rfl)) (mvT hZ (ww hw 39 rfl)) (mvT hZ (ww hw 40 rfl)) (by decide) (backOf (W := 1) (own_step l Z a0 hw u0 u1 u2 u3 u4 G b1 bb2 kk2 d0_4 d1_4 d2_4 d3_4 p2 h4 n0 O4 ⟨X_b1_4, F_b1_counts_4, Vn4, nb2, g_b1, g_bb2⟩ []) hZ (ww hw 40 rfl) (ww hw 39 rfl) (by decide) (by decide)) (g := (mkF m 35 #[vi p1, vi p2, vi p3, vi p4, vi p5, vi p6, vr b1, vj (((((0 : Int64) + (0 : Int64)) + (0 : Int64)) + (0 : Int64)) + (0 : Int64)), .second, vi ((0 : Int32) + r4), vu, vu] [xi p2, xr b1, xi ((0 : Int32) + r4)])) rfl (by rw [hml]; rfl) (argsL := [xr b1, xi p2]) (rest := [xi ((0 : Int32) + r4)]) (lenOf pd5 rfl) rfl (by show 2 * 0 + _ ≤ _; exact Nat.le_of_eq rfl) (hb hby at_35) (fun _ _ => ⟨rfl, e4, (by decide : 3 + 0 ≤ _), (by decide : 9 + 0 ≤ _)⟩)
  dsimp only [Pt.U, Pt.locs, Pt.cells, Pt.slots] at X5 l5 y5 z5 st5 hQ5
  subst l5 y5 z5
  obtain ⟨h5, e5⟩ : ∃ z, T5.heap = z := ⟨_, rfl⟩
  rw [e5] at hQ5
  obtain ⟨r5, d0_5, d1_5, d2_5, d3_5, rfl, Nq5, K5, ⟨-, -, Vn5, -⟩, hr5, hs5⟩ := hQ5
  have N5 := Fr.app N4 Nq5
  have O5 : Old Z n0 h5 := O4.keep K5 (allS g_bb2 all0)
  have X_b1_5 := X_b1_4.keep K5
  have F_b1_counts_5 := F_b1_counts_4.keep K5 (ninS nb2 nin0)
  obtain ⟨_, _, ⟨T6, L6, k6, n6⟩, -, X6, ⟨Lc6, hQ6, l6, y6, z6⟩, st6⟩ := Jvm.LawKit.callS X5 hx (y := Y6) hown (mvT hZ (ww hw 37 rfl)) (mvT hZ (ww hw 38 rfl)) (mvT hZ (ww hw 39 rfl)) (mvT hZ (ww hw 40 rfl)) (by decide) (backOf (W := 1) (own_step l Z a0 hw u0 u1 u2 u3 u4 G b1 bb2 kk2 d0_5 d1_5 d2_5 d3_5 p3 h5 n0 O5 ⟨X_b1_5, F_b1_counts_5, Vn5, nb2, g_b1, g_bb2⟩ []) hZ (ww hw 40 rfl) (ww hw 39 rfl) (by decide) (by decide)) (g := (mkF m 46 #[vi p1, vi p2, vi p3, vi p4, vi p5, vi p6, vr b1, vj (((((0 : Int64) + (0 : Int64)) + (0 : Int64)) + (0 : Int64)) + (0 : Int64)), .second, vi (((0 : Int32) + r4) + r5), vu, vu] [xi p3, xr b1, xi (((0 : Int32) + r4) + r5)])) rfl (by rw [hml]; rfl) (argsL := [xr b1, xi p3]) (rest := [xi (((0 : Int32) + r4) + r5)]) (lenOf pd5 rfl) rfl (by show 2 * 0 + _ ≤ _; exact Nat.le_of_eq rfl) (hb hby at_46) (fun _ _ => ⟨rfl, e5, (by decide : 3 + 0 ≤ _), (by decide : 9 + 0 ≤ _)⟩)
  dsimp only [Pt.U, Pt.locs, Pt.cells, Pt.slots] at X6 l6 y6 z6 st6 hQ6
  subst l6 y6 z6
  obtain ⟨h6, e6⟩ : ∃ z, T6.heap = z := ⟨_, rfl⟩
  rw [e6] at hQ6
  obtain ⟨r6, d0_6, d1_6, d2_6, d3_6, rfl, Nq6, K6, ⟨-, -, Vn6, -⟩, hr6, hs6⟩ := hQ6
  have N6 := Fr.app N5 Nq6
  have O6 : Old Z n0 h6 := O5.keep K6 (allS g_bb2 all0)
  have X_b1_6 := X_b1_5.keep K6
  have F_b1_counts_6 := F_b1_counts_5.keep K6 (ninS nb2 nin0)
  obtain ⟨_, _, ⟨T7, L7, k7, n7⟩, -, X7, ⟨Lc7, hQ7, l7, y7, z7⟩, st7⟩ := Jvm.LawKit.callS X6 hx (y := Y6) hown (mvT hZ (ww hw 37 rfl)) (mvT hZ (ww hw 38 rfl)) (mvT hZ (ww hw 39 rfl)) (mvT hZ (ww hw 40 rfl)) (by decide) (backOf (W := 1) (own_step l Z a0 hw u0 u1 u2 u3 u4 G b1 bb2 kk2 d0_6 d1_6 d2_6 d3_6 p4 h6 n0 O6 ⟨X_b1_6, F_b1_counts_6, Vn6, nb2, g_b1, g_bb2⟩ []) hZ (ww hw 40 rfl) (ww hw 39 rfl) (by decide) (by decide)) (g := (mkF m 57 #[vi p1, vi p2, vi p3, vi p4, vi p5, vi p6, vr b1, vj (((((0 : Int64) + (0 : Int64)) + (0 : Int64)) + (0 : Int64)) + (0 : Int64)), .second, vi ((((0 : Int32) + r4) + r5) + r6), vu, vu] [xi p4, xr b1, xi ((((0 : Int32) + r4) + r5) + r6)])) rfl (by rw [hml]; rfl) (argsL := [xr b1, xi p4]) (rest := [xi ((((0 : Int32) + r4) + r5) + r6)]) (lenOf pd5 rfl) rfl (by show 2 * 0 + _ ≤ _; exact Nat.le_of_eq rfl) (hb hby at_57) (fun _ _ => ⟨rfl, e6, (by decide : 3 + 0 ≤ _), (by decide : 9 + 0 ≤ _)⟩)
  dsimp only [Pt.U, Pt.locs, Pt.cells, Pt.slots] at X7 l7 y7 z7 st7 hQ7
  subst l7 y7 z7
  obtain ⟨h7, e7⟩ : ∃ z, T7.heap = z := ⟨_, rfl⟩
  rw [e7] at hQ7
  obtain ⟨r7, d0_7, d1_7, d2_7, d3_7, rfl, Nq7, K7, ⟨-, -, Vn7, -⟩, hr7, hs7⟩ := hQ7
  have N7 := Fr.app N6 Nq7
  have O7 : Old Z n0 h7 := O6.keep K7 (allS g_bb2 all0)
  have X_b1_7 := X_b1_6.keep K7
  have F_b1_counts_7 := F_b1_counts_6.keep K7 (ninS nb2 nin0)
  obtain ⟨_, _, ⟨T8, L8, k8, n8⟩, -, X8, ⟨Lc8, hQ8, l8, y8, z8⟩, st8⟩ := Jvm.LawKit.callS X7 hx (y := Y6) hown (mvT hZ (ww hw 37 rfl)) (mvT hZ (ww hw 38 rfl)) (mvT hZ (ww hw 39 rfl)) (mvT hZ (ww hw 40 rfl)) (by decide) (backOf (W := 1) (own_step l Z a0 hw u0 u1 u2 u3 u4 G b1 bb2 kk2 d0_7 d1_7 d2_7 d3_7 p5 h7 n0 O7 ⟨X_b1_7, F_b1_counts_7, Vn7, nb2, g_b1, g_bb2⟩ []) hZ (ww hw 40 rfl) (ww hw 39 rfl) (by decide) (by decide)) (g := (mkF m 69 #[vi p1, vi p2, vi p3, vi p4, vi p5, vi p6, vr b1, vj (((((0 : Int64) + (0 : Int64)) + (0 : Int64)) + (0 : Int64)) + (0 : Int64)), .second, vi (((((0 : Int32) + r4) + r5) + r6) + r7), vu, vu] [xi p5, xr b1, xi (((((0 : Int32) + r4) + r5) + r6) + r7)])) rfl (by rw [hml]; rfl) (argsL := [xr b1, xi p5]) (rest := [xi (((((0 : Int32) + r4) + r5) + r6) + r7)]) (lenOf pd5 rfl) rfl (by show 2 * 0 + _ ≤ _; exact Nat.le_of_eq rfl) (hb hby at_69) (fun _ _ => ⟨rfl, e7, (by decide : 3 + 0 ≤ _), (by decide : 9 + 0 ≤ _)⟩)
  dsimp only [Pt.U, Pt.locs, Pt.cells, Pt.slots] at X8 l8 y8 z8 st8 hQ8
  subst l8 y8 z8
  obtain ⟨h8, e8⟩ : ∃ z, T8.heap = z := ⟨_, rfl⟩
  rw [e8] at hQ8
  obtain ⟨r8, d0_8, d1_8, d2_8, d3_8, rfl, Nq8, K8, ⟨-, -, Vn8, -⟩, hr8, hs8⟩ := hQ8
  have N8 := Fr.app N7 Nq8
  have O8 : Old Z n0 h8 := O7.keep K8 (allS g_bb2 all0)
  have X_b1_8 := X_b1_7.keep K8
  have F_b1_counts_8 := F_b1_counts_7.keep K8 (ninS nb2 nin0)
  obtain ⟨_, _, ⟨T9, L9, k9, n9⟩, -, X9, ⟨Lc9, hQ9, l9, y9, z9⟩, st9⟩ := Jvm.LawKit.callS X8 hx (y := Y6) hown (mvT hZ (ww hw 37 rfl)) (mvT hZ (ww hw 38 rfl)) (mvT hZ (ww hw 39 rfl)) (mvT hZ (ww hw 40 rfl)) (by decide) (backOf (W := 1) (own_step l Z a0 hw u0 u1 u2 u3 u4 G b1 bb2 kk2 d0_8 d1_8 d2_8 d3_8 p6 h8 n0 O8 ⟨X_b1_8, F_b1_counts_8, Vn8, nb2, g_b1, g_bb2⟩ []) hZ (ww hw 40 rfl) (ww hw 39 rfl) (by decide) (by decide)) (g := (mkF m 81 #[vi p1, vi p2, vi p3, vi p4, vi p5, vi p6, vr b1, vj (((((0 : Int64) + (0 : Int64)) + (0 : Int64)) + (0 : Int64)) + (0 : Int64)), .second, vi ((((((0 : Int32) + r4) + r5) + r6) + r7) + r8), vu, vu] [xi p6, xr b1, xi ((((((0 : Int32) + r4) + r5) + r6) + r7) + r8)])) rfl (by rw [hml]; rfl) (argsL := [xr b1, xi p6]) (rest := [xi ((((((0 : Int32) + r4) + r5) + r6) + r7) + r8)]) (lenOf pd5 rfl) rfl (by show 2 * 0 + _ ≤ _; exact Nat.le_of_eq rfl) (hb hby at_81) (fun _ _ => ⟨rfl, e8, (by decide : 3 + 0 ≤ _), (by decide : 9 + 0 ≤ _)⟩)
  dsimp only [Pt.U, Pt.locs, Pt.cells, Pt.slots] at X9 l9 y9 z9 st9 hQ9
  subst l9 y9 z9
  obtain ⟨h9, e9⟩ : ∃ z, T9.heap = z := ⟨_, rfl⟩
  rw [e9] at hQ9
  obtain ⟨r9, d0_9, d1_9, d2_9, d3_9, rfl, Nq9, K9, ⟨-, -, Vn9, -⟩, hr9, hs9⟩ := hQ9
  have N9 := Fr.app N8 Nq9
  have O9 : Old Z n0 h9 := O8.keep K9 (allS g_bb2 all0)
  have X_b1_9 := X_b1_8.keep K9
  have F_b1_counts_9 := F_b1_counts_8.keep K9 (ninS nb2 nin0)
  obtain ⟨cq10, kq10, qa10, qb10, qc10⟩ := isOf hZ e9 X_b1_9
  obtain ⟨_, _, ⟨T10, L10, k10, n10⟩, -, X10, ⟨Lc10, hQ10, l10, y10, z10⟩, st10⟩ := X9.virtualBack hx (y := Y5) (z := Y5) hown (mvT hZ (ww hw 32 rfl)) (mvT hZ (ww hw 33 rfl)) (notFace_of_selects (args := #[]) (mvT hZ (ww hw 35 rfl))) (mvT hZ (ww hw 35 rfl)) (mvT hZ (ww hw 34 rfl)) (by decide) (backOf (W := 0) (own_records l Z a0 hw u0 u1 u2 u3 u4 G b1 bb2 kk2 d0_9 d1_9 d2_9 d3_9 h9 n0 O9 ⟨X_b1_9, F_b1_counts_9, Vn9, nb2, g_b1, g_bb2⟩ []) hZ (ww hw 36 rfl) (ww hw 2 rfl) (by decide) (by decide)) qa10 qc10 (g := (mkF m 89 #[vi p1, vi p2, vi p3, vi p4, vi p5, vi p6, vr b1, vj (((((0 : Int64) + (0 : Int64)) + (0 : Int64)) + (0 : Int64)) + (0 : Int64)), .second, vi (((((((0 : Int32) + r4) + r5) + r6) + r7) + r8) + r9), vu, vu] [xr b1])) rfl (by rw [hml]; rfl) (Steps.refl _) (argsL := []) (rest := []) (lenOf pd4 rfl) rfl (by show 2 * 0 + _ ≤ _; exact Nat.le_of_eq rfl) (hb hby at_89) (fun _ _ => ⟨rfl, e9, (by decide : 3 + 0 ≤ _), (by decide : 9 + 0 ≤ _)⟩)
  dsimp only [Pt.U, Pt.locs, Pt.cells, Pt.slots] at X10 l10 y10 z10 st10 hQ10
  subst l10 y10 z10
  obtain ⟨rfl, Nq10, e10⟩ := hQ10
  have N10 := Fr.app N9 Nq10
  obtain ⟨fs, hr, hrun, hended, hW, hsame⟩ := X10.leave (v := some (xi (1 : Int32))) (fun h => by rw [Bd.returns] at h; cases h)
  refine ⟨_, _, pre0 _ ?_, hrun, hended, _, _, rfl, ?_, ⟨_, rfl⟩, hW, hsame.mono (by decide) (by decide)⟩
  · show own_S p e below s₁ (mkF m 0 #[vi p1, vi p2, vi p3, vi p4, vi p5, vi p6, vu, vu, vu, vu, vu, vu] []) _
    refine st1 _ ?_
    show own_S p e below T1 (mkF m 3 #[vi p1, vi p2, vi p3, vi p4, vi p5, vi p6, vu, vu, vu, vu, vu, vu] [xr b1]) _
    refine XS.dup X1.here hx rfl (hb hby at_3) rfl rfl ?_
    show own_S p e below T1 (mkF m 4 #[vi p1, vi p2, vi p3, vi p4, vi p5, vi p6, vu, vu, vu, vu, vu, vu] [xr b1, xr b1]) _
    refine st2.trans ?_
    show own_S p e below T2 (mkF m 7 #[vi p1, vi p2, vi p3, vi p4, vi p5, vi p6, vu, vu, vu, vu, vu, vu] [xr b1]) _
    refine XS.astore X2.here hx rfl (hb hby at_7) rfl rfl (l' := #[vi p1, vi p2, vi p3, vi p4, vi p5, vi p6, vr b1, vu, vu, vu, vu, vu]) rfl ?_
    show own_S p e below T2 (mkF m 9 #[vi p1, vi p2, vi p3, vi p4, vi p5, vi p6, vr b1, vu, vu, vu, vu, vu] []) _
    refine XS.aload X2.here hx rfl (hb hby at_9) rfl rfl ?_
    show own_S p e below T2 (mkF m 11 #[vi p1, vi p2, vi p3, vi p4, vi p5, vi p6, vr b1, vu, vu, vu, vu, vu] [xr b1]) _
    refine st3.trans ?_
    show own_S p e below T3 (mkF m 14 #[vi p1, vi p2, vi p3, vi p4, vi p5, vi p6, vr b1, vu, vu, vu, vu, vu] [xj (((((0 : Int64) + (0 : Int64)) + (0 : Int64)) + (0 : Int64)) + (0 : Int64))]) _
    refine XS.lstore X3.here hx rfl (hb hby at_14) rfl (l' := #[vi p1, vi p2, vi p3, vi p4, vi p5, vi p6, vr b1, vj (((((0 : Int64) + (0 : Int64)) + (0 : Int64)) + (0 : Int64)) + (0 : Int64)), .second, vu, vu, vu]) rfl ?_
    show own_S p e below T3 (mkF m 16 #[vi p1, vi p2, vi p3, vi p4, vi p5, vi p6, vr b1, vj (((((0 : Int64) + (0 : Int64)) + (0 : Int64)) + (0 : Int64)) + (0 : Int64)), .second, vu, vu, vu] []) _
    refine XS.iconst X3.here hx rfl (hb hby at_16) ?_
    show own_S p e below T3 (mkF m 17 #[vi p1, vi p2, vi p3, vi p4, vi p5, vi p6, vr b1, vj (((((0 : Int64) + (0 : Int64)) + (0 : Int64)) + (0 : Int64)) + (0 : Int64)), .second, vu, vu, vu] [xi (0 : Int32)]) _
    refine XS.istore X3.here hx rfl (hb hby at_17) rfl (l' := #[vi p1, vi p2, vi p3, vi p4, vi p5, vi p6, vr b1, vj (((((0 : Int64) + (0 : Int64)) + (0 : Int64)) + (0 : Int64)) + (0 : Int64)), .second, vi (0 : Int32), vu, vu]) rfl ?_
    show own_S p e below T3 (mkF m 19 #[vi p1, vi p2, vi p3, vi p4, vi p5, vi p6, vr b1, vj (((((0 : Int64) + (0 : Int64)) + (0 : Int64)) + (0 : Int64)) + (0 : Int64)), .second, vi (0 : Int32), vu, vu] []) _
    refine XS.iload X3.here hx rfl (hb hby at_19) rfl ?_
    show own_S p e below T3 (mkF m 21 #[vi p1, vi p2, vi p3, vi p4, vi p5, vi p6, vr b1, vj (((((0 : Int64) + (0 : Int64)) + (0 : Int64)) + (0 : Int64)) + (0 : Int64)), .second, vi (0 : Int32), vu, vu] [xi (0 : Int32)]) _
    refine XS.aload X3.here hx rfl (hb hby at_21) rfl rfl ?_
    show own_S p e below T3 (mkF m 23 #[vi p1, vi p2, vi p3, vi p4, vi p5, vi p6, vr b1, vj (((((0 : Int64) + (0 : Int64)) + (0 : Int64)) + (0 : Int64)) + (0 : Int64)), .second, vi (0 : Int32), vu, vu] [xr b1, xi (0 : Int32)]) _
    refine XS.iloadN X3.here hx rfl (hb hby at_23) rfl ?_
    show own_S p e below T3 (mkF m 24 #[vi p1, vi p2, vi p3, vi p4, vi p5, vi p6, vr b1, vj (((((0 : Int64) + (0 : Int64)) + (0 : Int64)) + (0 : Int64)) + (0 : Int64)), .second, vi (0 : Int32), vu, vu] [xi p1, xr b1, xi (0 : Int32)]) _
    refine st4 _ ?_
    show own_S p e below T4 (mkF m 27 #[vi p1, vi p2, vi p3, vi p4, vi p5, vi p6, vr b1, vj (((((0 : Int64) + (0 : Int64)) + (0 : Int64)) + (0 : Int64)) + (0 : Int64)), .second, vi (0 : Int32), vu, vu] [xi r4, xi (0 : Int32)]) _
    refine XS.iadd X4.here hx rfl (hb hby at_27) rfl ?_
    show own_S p e below T4 (mkF m 28 #[vi p1, vi p2, vi p3, vi p4, vi p5, vi p6, vr b1, vj (((((0 : Int64) + (0 : Int64)) + (0 : Int64)) + (0 : Int64)) + (0 : Int64)), .second, vi (0 : Int32), vu, vu] [xi ((0 : Int32) + r4)]) _
    show own_S p e below T4 (mkF m 28 #[vi p1, vi p2, vi p3, vi p4, vi p5, vi p6, vr b1, vj (((((0 : Int64) + (0 : Int64)) + (0 : Int64)) + (0 : Int64)) + (0 : Int64)), .second, vi (0 : Int32), vu, vu] [xi ((0 : Int32) + r4)]) _
    refine XS.istore X4.here hx rfl (hb hby at_28) rfl (l' := #[vi p1, vi p2, vi p3, vi p4, vi p5, vi p6, vr b1, vj (((((0 : Int64) + (0 : Int64)) + (0 : Int64)) + (0 : Int64)) + (0 : Int64)), .second, vi ((0 : Int32) + r4), vu, vu]) rfl ?_
    show own_S p e below T4 (mkF m 30 #[vi p1, vi p2, vi p3, vi p4, vi p5, vi p6, vr b1, vj (((((0 : Int64) + (0 : Int64)) + (0 : Int64)) + (0 : Int64)) + (0 : Int64)), .second, vi ((0 : Int32) + r4), vu, vu] []) _
    refine XS.iload X4.here hx rfl (hb hby at_30) rfl ?_
    show own_S p e below T4 (mkF m 32 #[vi p1, vi p2, vi p3, vi p4, vi p5, vi p6, vr b1, vj (((((0 : Int64) + (0 : Int64)) + (0 : Int64)) + (0 : Int64)) + (0 : Int64)), .second, vi ((0 : Int32) + r4), vu, vu] [xi ((0 : Int32) + r4)]) _
    refine XS.aload X4.here hx rfl (hb hby at_32) rfl rfl ?_
    show own_S p e below T4 (mkF m 34 #[vi p1, vi p2, vi p3, vi p4, vi p5, vi p6, vr b1, vj (((((0 : Int64) + (0 : Int64)) + (0 : Int64)) + (0 : Int64)) + (0 : Int64)), .second, vi ((0 : Int32) + r4), vu, vu] [xr b1, xi ((0 : Int32) + r4)]) _
    refine XS.iloadN X4.here hx rfl (hb hby at_34) rfl ?_
    show own_S p e below T4 (mkF m 35 #[vi p1, vi p2, vi p3, vi p4, vi p5, vi p6, vr b1, vj (((((0 : Int64) + (0 : Int64)) + (0 : Int64)) + (0 : Int64)) + (0 : Int64)), .second, vi ((0 : Int32) + r4), vu, vu] [xi p2, xr b1, xi ((0 : Int32) + r4)]) _
    refine st5 _ ?_
    show own_S p e below T5 (mkF m 38 #[vi p1, vi p2, vi p3, vi p4, vi p5, vi p6, vr b1, vj (((((0 : Int64) + (0 : Int64)) + (0 : Int64)) + (0 : Int64)) + (0 : Int64)), .second, vi ((0 : Int32) + r4), vu, vu] [xi r5, xi ((0 : Int32) + r4)]) _
    refine XS.iadd X5.here hx rfl (hb hby at_38) rfl ?_
    show own_S p e below T5 (mkF m 39 #[vi p1, vi p2, vi p3, vi p4, vi p5, vi p6, vr b1, vj (((((0 : Int64) + (0 : Int64)) + (0 : Int64)) + (0 : Int64)) + (0 : Int64)), .second, vi ((0 : Int32) + r4), vu, vu] [xi (((0 : Int32) + r4) + r5)]) _
    show own_S p e below T5 (mkF m 39 #[vi p1, vi p2, vi p3, vi p4, vi p5, vi p6, vr b1, vj (((((0 : Int64) + (0 : Int64)) + (0 : Int64)) + (0 : Int64)) + (0 : Int64)), .second, vi ((0 : Int32) + r4), vu, vu] [xi (((0 : Int32) + r4) + r5)]) _
    refine XS.istore X5.here hx rfl (hb hby at_39) rfl (l' := #[vi p1, vi p2, vi p3, vi p4, vi p5, vi p6, vr b1, vj (((((0 : Int64) + (0 : Int64)) + (0 : Int64)) + (0 : Int64)) + (0 : Int64)), .second, vi (((0 : Int32) + r4) + r5), vu, vu]) rfl ?_
    show own_S p e below T5 (mkF m 41 #[vi p1, vi p2, vi p3, vi p4, vi p5, vi p6, vr b1, vj (((((0 : Int64) + (0 : Int64)) + (0 : Int64)) + (0 : Int64)) + (0 : Int64)), .second, vi (((0 : Int32) + r4) + r5), vu, vu] []) _
    refine XS.iload X5.here hx rfl (hb hby at_41) rfl ?_
    show own_S p e below T5 (mkF m 43 #[vi p1, vi p2, vi p3, vi p4, vi p5, vi p6, vr b1, vj (((((0 : Int64) + (0 : Int64)) + (0 : Int64)) + (0 : Int64)) + (0 : Int64)), .second, vi (((0 : Int32) + r4) + r5), vu, vu] [xi (((0 : Int32) + r4) + r5)]) _
    refine XS.aload X5.here hx rfl (hb hby at_43) rfl rfl ?_
    show own_S p e below T5 (mkF m 45 #[vi p1, vi p2, vi p3, vi p4, vi p5, vi p6, vr b1, vj (((((0 : Int64) + (0 : Int64)) + (0 : Int64)) + (0 : Int64)) + (0 : Int64)), .second, vi (((0 : Int32) + r4) + r5), vu, vu] [xr b1, xi (((0 : Int32) + r4) + r5)]) _
    refine XS.iloadN X5.here hx rfl (hb hby at_45) rfl ?_
    show own_S p e below T5 (mkF m 46 #[vi p1, vi p2, vi p3, vi p4, vi p5, vi p6, vr b1, vj (((((0 : Int64) + (0 : Int64)) + (0 : Int64)) + (0 : Int64)) + (0 : Int64)), .second, vi (((0 : Int32) + r4) + r5), vu, vu] [xi p3, xr b1, xi (((0 : Int32) + r4) + r5)]) _
    refine st6 _ ?_
    show own_S p e below T6 (mkF m 49 #[vi p1, vi p2, vi p3, vi p4, vi p5, vi p6, vr b1, vj (((((0 : Int64) + (0 : Int64)) + (0 : Int64)) + (0 : Int64)) + (0 : Int64)), .second, vi (((0 : Int32) + r4) + r5), vu, vu] [xi r6, xi (((0 : Int32) + r4) + r5)]) _
    refine XS.iadd X6.here hx rfl (hb hby at_49) rfl ?_
    show own_S p e below T6 (mkF m 50 #[vi p1, vi p2, vi p3, vi p4, vi p5, vi p6, vr b1, vj (((((0 : Int64) + (0 : Int64)) + (0 : Int64)) + (0 : Int64)) + (0 : Int64)), .second, vi (((0 : Int32) + r4) + r5), vu, vu] [xi ((((0 : Int32) + r4) + r5) + r6)]) _
    show own_S p e below T6 (mkF m 50 #[vi p1, vi p2, vi p3, vi p4, vi p5, vi p6, vr b1, vj (((((0 : Int64) + (0 : Int64)) + (0 : Int64)) + (0 : Int64)) + (0 : Int64)), .second, vi (((0 : Int32) + r4) + r5), vu, vu] [xi ((((0 : Int32) + r4) + r5) + r6)]) _
    refine XS.istore X6.here hx rfl (hb hby at_50) rfl (l' := #[vi p1, vi p2, vi p3, vi p4, vi p5, vi p6, vr b1, vj (((((0 : Int64) + (0 : Int64)) + (0 : Int64)) + (0 : Int64)) + (0 : Int64)), .second, vi ((((0 : Int32) + r4) + r5) + r6), vu, vu]) rfl ?_
    show own_S p e below T6 (mkF m 52 #[vi p1, vi p2, vi p3, vi p4, vi p5, vi p6, vr b1, vj (((((0 : Int64) + (0 : Int64)) + (0 : Int64)) + (0 : Int64)) + (0 : Int64)), .second, vi ((((0 : Int32) + r4) + r5) + r6), vu, vu] []) _
    refine XS.iload X6.here hx rfl (hb hby at_52) rfl ?_
    show own_S p e below T6 (mkF m 54 #[vi p1, vi p2, vi p3, vi p4, vi p5, vi p6, vr b1, vj (((((0 : Int64) + (0 : Int64)) + (0 : Int64)) + (0 : Int64)) + (0 : Int64)), .second, vi ((((0 : Int32) + r4) + r5) + r6), vu, vu] [xi ((((0 : Int32) + r4) + r5) + r6)]) _
    refine XS.aload X6.here hx rfl (hb hby at_54) rfl rfl ?_
    show own_S p e below T6 (mkF m 56 #[vi p1, vi p2, vi p3, vi p4, vi p5, vi p6, vr b1, vj (((((0 : Int64) + (0 : Int64)) + (0 : Int64)) + (0 : Int64)) + (0 : Int64)), .second, vi ((((0 : Int32) + r4) + r5) + r6), vu, vu] [xr b1, xi ((((0 : Int32) + r4) + r5) + r6)]) _
    refine XS.iloadN X6.here hx rfl (hb hby at_56) rfl ?_
    show own_S p e below T6 (mkF m 57 #[vi p1, vi p2, vi p3, vi p4, vi p5, vi p6, vr b1, vj (((((0 : Int64) + (0 : Int64)) + (0 : Int64)) + (0 : Int64)) + (0 : Int64)), .second, vi ((((0 : Int32) + r4) + r5) + r6), vu, vu] [xi p4, xr b1, xi ((((0 : Int32) + r4) + r5) + r6)]) _
    refine st7 _ ?_
    show own_S p e below T7 (mkF m 60 #[vi p1, vi p2, vi p3, vi p4, vi p5, vi p6, vr b1, vj (((((0 : Int64) + (0 : Int64)) + (0 : Int64)) + (0 : Int64)) + (0 : Int64)), .second, vi ((((0 : Int32) + r4) + r5) + r6), vu, vu] [xi r7, xi ((((0 : Int32) + r4) + r5) + r6)]) _
    refine XS.iadd X7.here hx rfl (hb hby at_60) rfl ?_
    show own_S p e below T7 (mkF m 61 #[vi p1, vi p2, vi p3, vi p4, vi p5, vi p6, vr b1, vj (((((0 : Int64) + (0 : Int64)) + (0 : Int64)) + (0 : Int64)) + (0 : Int64)), .second, vi ((((0 : Int32) + r4) + r5) + r6), vu, vu] [xi (((((0 : Int32) + r4) + r5) + r6) + r7)]) _
    show own_S p e below T7 (mkF m 61 #[vi p1, vi p2, vi p3, vi p4, vi p5, vi p6, vr b1, vj (((((0 : Int64) + (0 : Int64)) + (0 : Int64)) + (0 : Int64)) + (0 : Int64)), .second, vi ((((0 : Int32) + r4) + r5) + r6), vu, vu] [xi (((((0 : Int32) + r4) + r5) + r6) + r7)]) _
    refine XS.istore X7.here hx rfl (hb hby at_61) rfl (l' := #[vi p1, vi p2, vi p3, vi p4, vi p5, vi p6, vr b1, vj (((((0 : Int64) + (0 : Int64)) + (0 : Int64)) + (0 : Int64)) + (0 : Int64)), .second, vi (((((0 : Int32) + r4) + r5) + r6) + r7), vu, vu]) rfl ?_
    show own_S p e below T7 (mkF m 63 #[vi p1, vi p2, vi p3, vi p4, vi p5, vi p6, vr b1, vj (((((0 : Int64) + (0 : Int64)) + (0 : Int64)) + (0 : Int64)) + (0 : Int64)), .second, vi (((((0 : Int32) + r4) + r5) + r6) + r7), vu, vu] []) _
    refine XS.iload X7.here hx rfl (hb hby at_63) rfl ?_
    show own_S p e below T7 (mkF m 65 #[vi p1, vi p2, vi p3, vi p4, vi p5, vi p6, vr b1, vj (((((0 : Int64) + (0 : Int64)) + (0 : Int64)) + (0 : Int64)) + (0 : Int64)), .second, vi (((((0 : Int32) + r4) + r5) + r6) + r7), vu, vu] [xi (((((0 : Int32) + r4) + r5) + r6) + r7)]) _
    refine XS.aload X7.here hx rfl (hb hby at_65) rfl rfl ?_
    show own_S p e below T7 (mkF m 67 #[vi p1, vi p2, vi p3, vi p4, vi p5, vi p6, vr b1, vj (((((0 : Int64) + (0 : Int64)) + (0 : Int64)) + (0 : Int64)) + (0 : Int64)), .second, vi (((((0 : Int32) + r4) + r5) + r6) + r7), vu, vu] [xr b1, xi (((((0 : Int32) + r4) + r5) + r6) + r7)]) _
    refine XS.iload X7.here hx rfl (hb hby at_67) rfl ?_
    show own_S p e below T7 (mkF m 69 #[vi p1, vi p2, vi p3, vi p4, vi p5, vi p6, vr b1, vj (((((0 : Int64) + (0 : Int64)) + (0 : Int64)) + (0 : Int64)) + (0 : Int64)), .second, vi (((((0 : Int32) + r4) + r5) + r6) + r7), vu, vu] [xi p5, xr b1, xi (((((0 : Int32) + r4) + r5) + r6) + r7)]) _
    refine st8 _ ?_
    show own_S p e below T8 (mkF m 72 #[vi p1, vi p2, vi p3, vi p4, vi p5, vi p6, vr b1, vj (((((0 : Int64) + (0 : Int64)) + (0 : Int64)) + (0 : Int64)) + (0 : Int64)), .second, vi (((((0 : Int32) + r4) + r5) + r6) + r7), vu, vu] [xi r8, xi (((((0 : Int32) + r4) + r5) + r6) + r7)]) _
    refine XS.iadd X8.here hx rfl (hb hby at_72) rfl ?_
    show own_S p e below T8 (mkF m 73 #[vi p1, vi p2, vi p3, vi p4, vi p5, vi p6, vr b1, vj (((((0 : Int64) + (0 : Int64)) + (0 : Int64)) + (0 : Int64)) + (0 : Int64)), .second, vi (((((0 : Int32) + r4) + r5) + r6) + r7), vu, vu] [xi ((((((0 : Int32) + r4) + r5) + r6) + r7) + r8)]) _
    show own_S p e below T8 (mkF m 73 #[vi p1, vi p2, vi p3, vi p4, vi p5, vi p6, vr b1, vj (((((0 : Int64) + (0 : Int64)) + (0 : Int64)) + (0 : Int64)) + (0 : Int64)), .second, vi (((((0 : Int32) + r4) + r5) + r6) + r7), vu, vu] [xi ((((((0 : Int32) + r4) + r5) + r6) + r7) + r8)]) _
    refine XS.istore X8.here hx rfl (hb hby at_73) rfl (l' := #[vi p1, vi p2, vi p3, vi p4, vi p5, vi p6, vr b1, vj (((((0 : Int64) + (0 : Int64)) + (0 : Int64)) + (0 : Int64)) + (0 : Int64)), .second, vi ((((((0 : Int32) + r4) + r5) + r6) + r7) + r8), vu, vu]) rfl ?_
    show own_S p e below T8 (mkF m 75 #[vi p1, vi p2, vi p3, vi p4, vi p5, vi p6, vr b1, vj (((((0 : Int64) + (0 : Int64)) + (0 : Int64)) + (0 : Int64)) + (0 : Int64)), .second, vi ((((((0 : Int32) + r4) + r5) + r6) + r7) + r8), vu, vu] []) _
    refine XS.iload X8.here hx rfl (hb hby at_75) rfl ?_
    show own_S p e below T8 (mkF m 77 #[vi p1, vi p2, vi p3, vi p4, vi p5, vi p6, vr b1, vj (((((0 : Int64) + (0 : Int64)) + (0 : Int64)) + (0 : Int64)) + (0 : Int64)), .second, vi ((((((0 : Int32) + r4) + r5) + r6) + r7) + r8), vu, vu] [xi ((((((0 : Int32) + r4) + r5) + r6) + r7) + r8)]) _
    refine XS.aload X8.here hx rfl (hb hby at_77) rfl rfl ?_
    show own_S p e below T8 (mkF m 79 #[vi p1, vi p2, vi p3, vi p4, vi p5, vi p6, vr b1, vj (((((0 : Int64) + (0 : Int64)) + (0 : Int64)) + (0 : Int64)) + (0 : Int64)), .second, vi ((((((0 : Int32) + r4) + r5) + r6) + r7) + r8), vu, vu] [xr b1, xi ((((((0 : Int32) + r4) + r5) + r6) + r7) + r8)]) _
    refine XS.iload X8.here hx rfl (hb hby at_79) rfl ?_
    show own_S p e below T8 (mkF m 81 #[vi p1, vi p2, vi p3, vi p4, vi p5, vi p6, vr b1, vj (((((0 : Int64) + (0 : Int64)) + (0 : Int64)) + (0 : Int64)) + (0 : Int64)), .second, vi ((((((0 : Int32) + r4) + r5) + r6) + r7) + r8), vu, vu] [xi p6, xr b1, xi ((((((0 : Int32) + r4) + r5) + r6) + r7) + r8)]) _
    refine st9 _ ?_
    show own_S p e below T9 (mkF m 84 #[vi p1, vi p2, vi p3, vi p4, vi p5, vi p6, vr b1, vj (((((0 : Int64) + (0 : Int64)) + (0 : Int64)) + (0 : Int64)) + (0 : Int64)), .second, vi ((((((0 : Int32) + r4) + r5) + r6) + r7) + r8), vu, vu] [xi r9, xi ((((((0 : Int32) + r4) + r5) + r6) + r7) + r8)]) _
    refine XS.iadd X9.here hx rfl (hb hby at_84) rfl ?_
    show own_S p e below T9 (mkF m 85 #[vi p1, vi p2, vi p3, vi p4, vi p5, vi p6, vr b1, vj (((((0 : Int64) + (0 : Int64)) + (0 : Int64)) + (0 : Int64)) + (0 : Int64)), .second, vi ((((((0 : Int32) + r4) + r5) + r6) + r7) + r8), vu, vu] [xi (((((((0 : Int32) + r4) + r5) + r6) + r7) + r8) + r9)]) _
    show own_S p e below T9 (mkF m 85 #[vi p1, vi p2, vi p3, vi p4, vi p5, vi p6, vr b1, vj (((((0 : Int64) + (0 : Int64)) + (0 : Int64)) + (0 : Int64)) + (0 : Int64)), .second, vi ((((((0 : Int32) + r4) + r5) + r6) + r7) + r8), vu, vu] [xi (((((((0 : Int32) + r4) + r5) + r6) + r7) + r8) + r9)]) _
    refine XS.istore X9.here hx rfl (hb hby at_85) rfl (l' := #[vi p1, vi p2, vi p3, vi p4, vi p5, vi p6, vr b1, vj (((((0 : Int64) + (0 : Int64)) + (0 : Int64)) + (0 : Int64)) + (0 : Int64)), .second, vi (((((((0 : Int32) + r4) + r5) + r6) + r7) + r8) + r9), vu, vu]) rfl ?_
    show own_S p e below T9 (mkF m 87 #[vi p1, vi p2, vi p3, vi p4, vi p5, vi p6, vr b1, vj (((((0 : Int64) + (0 : Int64)) + (0 : Int64)) + (0 : Int64)) + (0 : Int64)), .second, vi (((((((0 : Int32) + r4) + r5) + r6) + r7) + r8) + r9), vu, vu] []) _
    refine XS.aload X9.here hx rfl (hb hby at_87) rfl rfl ?_
    show own_S p e below T9 (mkF m 89 #[vi p1, vi p2, vi p3, vi p4, vi p5, vi p6, vr b1, vj (((((0 : Int64) + (0 : Int64)) + (0 : Int64)) + (0 : Int64)) + (0 : Int64)), .second, vi (((((((0 : Int32) + r4) + r5) + r6) + r7) + r8) + r9), vu, vu] [xr b1]) _
    refine st10.trans ?_
    show own_S p e below T10 (mkF m 92 #[vi p1, vi p2, vi p3, vi p4, vi p5, vi p6, vr b1, vj (((((0 : Int64) + (0 : Int64)) + (0 : Int64)) + (0 : Int64)) + (0 : Int64)), .second, vi (((((((0 : Int32) + r4) + r5) + r6) + r7) + r8) + r9), vu, vu] [xj (((((0 : Int64) + d0_9) + d1_9) + d2_9) + d3_9)]) _
    refine XS.lstore X10.here hx rfl (hb hby at_92) rfl (l' := #[vi p1, vi p2, vi p3, vi p4, vi p5, vi p6, vr b1, vj (((((0 : Int64) + (0 : Int64)) + (0 : Int64)) + (0 : Int64)) + (0 : Int64)), .second, vi (((((((0 : Int32) + r4) + r5) + r6) + r7) + r8) + r9), vj (((((0 : Int64) + d0_9) + d1_9) + d2_9) + d3_9), .second]) rfl ?_
    show own_S p e below T10 (mkF m 94 #[vi p1, vi p2, vi p3, vi p4, vi p5, vi p6, vr b1, vj (((((0 : Int64) + (0 : Int64)) + (0 : Int64)) + (0 : Int64)) + (0 : Int64)), .second, vi (((((((0 : Int32) + r4) + r5) + r6) + r7) + r8) + r9), vj (((((0 : Int64) + d0_9) + d1_9) + d2_9) + d3_9), .second] []) _
    refine XS.lload X10.here hx rfl (hb hby at_94) rfl ?_
    show own_S p e below T10 (mkF m 96 #[vi p1, vi p2, vi p3, vi p4, vi p5, vi p6, vr b1, vj (((((0 : Int64) + (0 : Int64)) + (0 : Int64)) + (0 : Int64)) + (0 : Int64)), .second, vi (((((((0 : Int32) + r4) + r5) + r6) + r7) + r8) + r9), vj (((((0 : Int64) + d0_9) + d1_9) + d2_9) + d3_9), .second] [xj (((((0 : Int64) + (0 : Int64)) + (0 : Int64)) + (0 : Int64)) + (0 : Int64))]) _
    refine XS.lconst X10.here hx rfl (hb hby at_96) ?_
    show own_S p e below T10 (mkF m 97 #[vi p1, vi p2, vi p3, vi p4, vi p5, vi p6, vr b1, vj (((((0 : Int64) + (0 : Int64)) + (0 : Int64)) + (0 : Int64)) + (0 : Int64)), .second, vi (((((((0 : Int32) + r4) + r5) + r6) + r7) + r8) + r9), vj (((((0 : Int64) + d0_9) + d1_9) + d2_9) + d3_9), .second] [xj (0 : Int64), xj (((((0 : Int64) + (0 : Int64)) + (0 : Int64)) + (0 : Int64)) + (0 : Int64))]) _
    refine XS.lcmp X10.here hx rfl (hb hby at_97) rfl ?_
    show own_S p e below T10 (mkF m 98 #[vi p1, vi p2, vi p3, vi p4, vi p5, vi p6, vr b1, vj (((((0 : Int64) + (0 : Int64)) + (0 : Int64)) + (0 : Int64)) + (0 : Int64)), .second, vi (((((((0 : Int32) + r4) + r5) + r6) + r7) + r8) + r9), vj (((((0 : Int64) + d0_9) + d1_9) + d2_9) + d3_9), .second] [xi (lcmpW (((((0 : Int64) + (0 : Int64)) + (0 : Int64)) + (0 : Int64)) + (0 : Int64)) (0 : Int64))]) _
    show own_S p e below T10 (mkF m 98 #[vi p1, vi p2, vi p3, vi p4, vi p5, vi p6, vr b1, vj (((((0 : Int64) + (0 : Int64)) + (0 : Int64)) + (0 : Int64)) + (0 : Int64)), .second, vi (((((((0 : Int32) + r4) + r5) + r6) + r7) + r8) + r9), vj (((((0 : Int64) + d0_9) + d1_9) + d2_9) + d3_9), .second] [xi (lcmpW (((((0 : Int64) + (0 : Int64)) + (0 : Int64)) + (0 : Int64)) + (0 : Int64)) (0 : Int64))]) _
    refine XS.ifNo X10.here hx rfl (hb hby at_98) rfl (by decide) ?_
    show own_S p e below T10 (mkF m 101 #[vi p1, vi p2, vi p3, vi p4, vi p5, vi p6, vr b1, vj (((((0 : Int64) + (0 : Int64)) + (0 : Int64)) + (0 : Int64)) + (0 : Int64)), .second, vi (((((((0 : Int32) + r4) + r5) + r6) + r7) + r8) + r9), vj (((((0 : Int64) + d0_9) + d1_9) + d2_9) + d3_9), .second] []) _
    refine XS.lload X10.here hx rfl (hb hby at_101) rfl ?_
    show own_S p e below T10 (mkF m 103 #[vi p1, vi p2, vi p3, vi p4, vi p5, vi p6, vr b1, vj (((((0 : Int64) + (0 : Int64)) + (0 : Int64)) + (0 : Int64)) + (0 : Int64)), .second, vi (((((((0 : Int32) + r4) + r5) + r6) + r7) + r8) + r9), vj (((((0 : Int64) + d0_9) + d1_9) + d2_9) + d3_9), .second] [xj (((((0 : Int64) + d0_9) + d1_9) + d2_9) + d3_9)]) _
    refine XS.iload X10.here hx rfl (hb hby at_103) rfl ?_
    show own_S p e below T10 (mkF m 105 #[vi p1, vi p2, vi p3, vi p4, vi p5, vi p6, vr b1, vj (((((0 : Int64) + (0 : Int64)) + (0 : Int64)) + (0 : Int64)) + (0 : Int64)), .second, vi (((((((0 : Int32) + r4) + r5) + r6) + r7) + r8) + r9), vj (((((0 : Int64) + d0_9) + d1_9) + d2_9) + d3_9), .second] [xi (((((((0 : Int32) + r4) + r5) + r6) + r7) + r8) + r9), xj (((((0 : Int64) + d0_9) + d1_9) + d2_9) + d3_9)]) _
    refine XS.i2l X10.here hx rfl (hb hby at_105) rfl ?_
    show own_S p e below T10 (mkF m 106 #[vi p1, vi p2, vi p3, vi p4, vi p5, vi p6, vr b1, vj (((((0 : Int64) + (0 : Int64)) + (0 : Int64)) + (0 : Int64)) + (0 : Int64)), .second, vi (((((((0 : Int32) + r4) + r5) + r6) + r7) + r8) + r9), vj (((((0 : Int64) + d0_9) + d1_9) + d2_9) + d3_9), .second] [xj ((((((((0 : Int32) + r4) + r5) + r6) + r7) + r8) + r9).toInt64), xj (((((0 : Int64) + d0_9) + d1_9) + d2_9) + d3_9)]) _
    show own_S p e below T10 (mkF m 106 #[vi p1, vi p2, vi p3, vi p4, vi p5, vi p6, vr b1, vj (((((0 : Int64) + (0 : Int64)) + (0 : Int64)) + (0 : Int64)) + (0 : Int64)), .second, vi (((((((0 : Int32) + r4) + r5) + r6) + r7) + r8) + r9), vj (((((0 : Int64) + d0_9) + d1_9) + d2_9) + d3_9), .second] [xj ((((((((0 : Int32) + r4) + r5) + r6) + r7) + r8) + r9).toInt64), xj (((((0 : Int64) + d0_9) + d1_9) + d2_9) + d3_9)]) _
    refine XS.lcmp X10.here hx rfl (hb hby at_106) rfl ?_
    show own_S p e below T10 (mkF m 107 #[vi p1, vi p2, vi p3, vi p4, vi p5, vi p6, vr b1, vj (((((0 : Int64) + (0 : Int64)) + (0 : Int64)) + (0 : Int64)) + (0 : Int64)), .second, vi (((((((0 : Int32) + r4) + r5) + r6) + r7) + r8) + r9), vj (((((0 : Int64) + d0_9) + d1_9) + d2_9) + d3_9), .second] [xi (lcmpW (((((0 : Int64) + d0_9) + d1_9) + d2_9) + d3_9) ((((((((0 : Int32) + r4) + r5) + r6) + r7) + r8) + r9).toInt64))]) _
    show own_S p e below T10 (mkF m 107 #[vi p1, vi p2, vi p3, vi p4, vi p5, vi p6, vr b1, vj (((((0 : Int64) + (0 : Int64)) + (0 : Int64)) + (0 : Int64)) + (0 : Int64)), .second, vi (((((((0 : Int32) + r4) + r5) + r6) + r7) + r8) + r9), vj (((((0 : Int64) + d0_9) + d1_9) + d2_9) + d3_9), .second] [xi (lcmpW (((((0 : Int64) + d0_9) + d1_9) + d2_9) + d3_9) ((((((((0 : Int32) + r4) + r5) + r6) + r7) + r8) + r9).toInt64))]) _
    refine XS.ifNo X10.here hx rfl (hb hby at_107) rfl (own_fin hr4 hr5 hr6 hr7 hr8 hr9 hs4 hs5 hs6 hs7 hs8 hs9) ?_
    show own_S p e below T10 (mkF m 110 #[vi p1, vi p2, vi p3, vi p4, vi p5, vi p6, vr b1, vj (((((0 : Int64) + (0 : Int64)) + (0 : Int64)) + (0 : Int64)) + (0 : Int64)), .second, vi (((((((0 : Int32) + r4) + r5) + r6) + r7) + r8) + r9), vj (((((0 : Int64) + d0_9) + d1_9) + d2_9) + d3_9), .second] []) _
    refine XS.iconst X10.here hx rfl (hb hby at_110) ?_
    show own_S p e below T10 (mkF m 111 #[vi p1, vi p2, vi p3, vi p4, vi p5, vi p6, vr b1, vj (((((0 : Int64) + (0 : Int64)) + (0 : Int64)) + (0 : Int64)) + (0 : Int64)), .second, vi (((((((0 : Int32) + r4) + r5) + r6) + r7) + r8) + r9), vj (((((0 : Int64) + d0_9) + d1_9) + d2_9) + d3_9), .second] [xi (1 : Int32)]) _
    refine XS.goto X10.here hx rfl (pc0 := 111) (pc' := 115) rfl (hb hby at_111) (by decide) (by decide) ?_
    show own_S p e below T10 (mkF m 115 #[vi p1, vi p2, vi p3, vi p4, vi p5, vi p6, vr b1, vj (((((0 : Int64) + (0 : Int64)) + (0 : Int64)) + (0 : Int64)) + (0 : Int64)), .second, vi (((((((0 : Int32) + r4) + r5) + r6) + r7) + r8) + r9), vj (((((0 : Int64) + d0_9) + d1_9) + d2_9) + d3_9), .second] [xi (1 : Int32)]) _
    exact retN X10 hx (t := .boolean) Bd.returns (by simp) (hb hby at_115) hr
  · exact ⟨rfl, N10⟩
set_option maxRecDepth 65536 in
set_option maxHeartbeats 40000000 in
theorem comes_1 {Post : Tables → Env → Array Value → State → Outcome → State → Prop} (hpost : ∀ tb e args s v u, (limb_1_1.after args s (.returned v) u = true ∧ limb_1_2.after args s (.returned v) u = true ∧ True) → FrameEnd s (.returned v) u (Jvm.fieldLocs frame_1_writes args s ++ Jvm.arrayLocs frame_1_arrays args s ++ Jvm.staticLocs frame_1_statics s) 16 128 → Post tb e args s (.returned v) u) :
    ArmFor flags0 classFile x code maxLocals ret World_1 tables_1 room_1 Calls_1 rest_1 Pre_1 Post := by
  intro l hfl _ _ p e ha hc hk s m args below hf hA hF happ hP
  obtain ⟨hcalls, hrest, hpre⟩ := hP
  obtain ⟨-, -, -, hnamed, -, -, -, hat⟩ := (Spec.applies_iff hf).mp happ
  obtain ⟨hg, hn⟩ := and_e (Cond.before_iff.mp (show (Jvm.Cond.and given_1 narrow_1).before args s = true from hpre))
  obtain ⟨hcount, hg0⟩ := and_e hg
  obtain ⟨ga0, hg1⟩ := and_e hg0
  obtain ⟨ga1, hg2⟩ := and_e hg1
  obtain ⟨ga2, hg3⟩ := and_e hg2
  obtain ⟨ga3, hg4⟩ := and_e hg3
  obtain ⟨ga4, hg5⟩ := and_e hg4
  have ga5 := hg5
  obtain ⟨w0, w1, w2, w3, w4, w5, rfl⟩ : ∃ w0 w1 w2 w3 w4 w5 : Value, args = #[w0, w1, w2, w3, w4, w5] := by
    have hs : args.size = 6 := by simpa [Cond.value, given_1] using hcount
    obtain ⟨L⟩ := args
    match L, hs with
    | [w0, w1, w2, w3, w4, w5], _ => exact ⟨w0, w1, w2, w3, w4, w5, rfl⟩
  have hw := fun d (hd : d ∈ tables_1) => atoms_spec (ws := Jvm.Cond.code x code maxLocals ret :: tables_1) hat d (List.mem_cons_of_mem _ hd)
  have hfit : Fit s := fun {y c} hc i hi => by
    obtain ⟨ha, rfl⟩ := Array.getElem?_eq_some_iff.mp hc
    have q := List.all_eq_true.mp ((Array.all_eq_true_iff_forall_mem.mp hF) _ (Array.getElem_mem ha)) i (List.mem_range.mpr hi)
    simpa [Array.getElem?_eq_getElem hi] using q
  obtain ⟨p1, ei0⟩ := is_v ga0
  obtain rfl : w0 = (.int p1) := Option.some.inj ei0
  obtain ⟨p2, ei1⟩ := is_v ga1
  obtain rfl : w1 = (.int p2) := Option.some.inj ei1
  obtain ⟨p3, ei2⟩ := is_v ga2
  obtain rfl : w2 = (.int p3) := Option.some.inj ei2
  obtain ⟨p4, ei3⟩ := is_v ga3
  obtain rfl : w3 = (.int p4) := Option.some.inj ei3
  obtain ⟨p5, ei4⟩ := is_v ga4
  obtain rfl : w4 = (.int p5) := Option.some.inj ei4
  obtain ⟨p6, ei5⟩ := is_v ga5
  obtain rfl : w5 = (.int p6) := Option.some.inj ei5
  have hc0 := hn
  obtain ⟨ca0, hc1⟩ := and_e hc0
  obtain ⟨ca1, hc2⟩ := and_e hc1
  obtain ⟨ca2, hc3⟩ := and_e hc2
  obtain ⟨ca3, hc4⟩ := and_e hc3
  obtain ⟨ca4, hc5⟩ := and_e hc4
  obtain ⟨ca5, hc6⟩ := and_e hc5
  obtain ⟨ca6, hc7⟩ := and_e hc6
  obtain ⟨ca7, hc8⟩ := and_e hc7
  obtain ⟨ca8, hc9⟩ := and_e hc8
  obtain ⟨ca9, hc10⟩ := and_e hc9
  obtain ⟨ca10, hc11⟩ := and_e hc10
  obtain ⟨ca11, hc12⟩ := and_e hc11
  obtain ⟨ca12, hc13⟩ := and_e hc12
  obtain ⟨ca13, hc14⟩ := and_e hc13
  have ca14 := hc14
  obtain ⟨u0, ev_u0⟩ := exa_v ca1
  have pX_u0 := Exa.start ev_u0 ca1
  have pS_u0 : Sta s s.heap "com/example/feedwright/feedwright/Verdict" "$VALUES" "[Lcom/example/feedwright/feedwright/Verdict;" (.ref u0) := Sta.start ev_u0 (Or.inr ⟨(ww hw 11 rfl), (ww hw 14 rfl)⟩)
  obtain ⟨u1, ev_u1⟩ := exa_v ca3
  have pX_u1 := Exa.start ev_u1 ca3
  have pS_u1 : Sta s s.heap "com/example/feedwright/feedwright/Verdict" "INSERTED" "Lcom/example/feedwright/feedwright/Verdict;" (.ref u1) := Sta.start ev_u1 (Or.inr ⟨(ww hw 11 rfl), (ww hw 22 rfl)⟩)
  obtain ⟨u2, ev_u2⟩ := exa_v ca5
  have pX_u2 := Exa.start ev_u2 ca5
  have pS_u2 : Sta s s.heap "com/example/feedwright/feedwright/Verdict" "UPDATED" "Lcom/example/feedwright/feedwright/Verdict;" (.ref u2) := Sta.start ev_u2 (Or.inr ⟨(ww hw 11 rfl), (ww hw 23 rfl)⟩)
  obtain ⟨u3, ev_u3⟩ := exa_v ca7
  have pX_u3 := Exa.start ev_u3 ca7
  have pS_u3 : Sta s s.heap "com/example/feedwright/feedwright/Verdict" "UNCHANGED" "Lcom/example/feedwright/feedwright/Verdict;" (.ref u3) := Sta.start ev_u3 (Or.inr ⟨(ww hw 11 rfl), (ww hw 24 rfl)⟩)
  obtain ⟨u4, ev_u4⟩ := exa_v ca9
  have pX_u4 := Exa.start ev_u4 ca9
  have pS_u4 : Sta s s.heap "com/example/feedwright/feedwright/Verdict" "NOT_PROCESSED" "Lcom/example/feedwright/feedwright/Verdict;" (.ref u4) := Sta.start ev_u4 (Or.inr ⟨(ww hw 11 rfl), (ww hw 25 rfl)⟩)
  have pF_u1_ordinal := own_fld ev_u1 ca11
  have pF_u4_ordinal := own_fld ev_u4 ca12
  have pF_u2_ordinal := own_fld ev_u2 ca13
  have pF_u3_ordinal := own_fld ev_u3 ca14
  obtain ⟨cl_u0, pA_u0⟩ := Arr.start ev_u0 ca0
  have pl_u0 := own_len ev_u0 pA_u0 ca2 (k' := 4) (by decide)
  have pVA_u0 := FitC.start hfit pA_u0
  have G : own_St s u0 u1 u2 u3 u4 := ⟨pS_u0, pX_u0, pS_u1, pX_u1, pS_u2, pX_u2, pS_u3, pX_u3, pS_u4, pX_u4, pF_u1_ordinal, pF_u4_ordinal, pF_u2_ordinal, pF_u3_ordinal, ⟨cl_u0, pA_u0, pl_u0, pVA_u0⟩⟩
  obtain ⟨n, o, h1, h2, h3, _, L, rfl, ⟨rfl, N⟩, hq⟩ := own_law l s _ hw u0 u1 u2 u3 u4 G p1 p2 p3 p4 p5 p6 s.heap s.heap.size (Old.start s) tables_1 p e ha hc hk s m _ below hf ((Spec.applies_iff_loose hf).mp happ).1 ⟨rfl, State.Warmed39.refl s, rfl⟩ trivial
  refine ⟨n, _, h1, h2, h3, hpost _ _ _ _ _ _ ⟨Cond.after_iff.mpr rfl, Cond.after_iff.mpr (eq_i res_at (Term.int_eval (1)) rfl), trivial⟩ ⟨hq.1, hq.2.1, (hq.2.2.sift fun y hy => Or.inr (N y hy)).mono (by decide) (by decide)⟩⟩
theorem main_1_1 : Claimed_1_1 := comes_1 fun _ _ _ _ _ _ h hF => ⟨h.1, hF⟩
theorem main_1_2 : Claimed_1_2 := comes_1 fun _ _ _ _ _ _ h hF => ⟨h.2.1, hF⟩
end Jvm.Pilot.@@N@@
namespace Jvm.Pilot.@@N@@
open Jvm Jvm.ClassFile Sem Op Lib Jvm.Free Jvm.Stand Jvm.Pilot.@@N@@.Jvm.D
/-! MADE BY PROGRAM (witnessworld.py) out of the Statement's table words and the real class files: 16 classes; the members and pool entries that the words name. The judged class is class 1, her method 2. -/
namespace start1
open Jvm.ClassFile
def u (s : String) : CpInfo := .utf8 (stringToUtf16 s)
/-- a pool by its gaps: so many unusable entries, then the entry; so many at the end -/
def gap : Nat → List CpInfo → List CpInfo
  | 0, r => r
  | n + 1, r => .unusable :: gap n r
def poolList (es : List (Nat × CpInfo)) (last : Nat) : List CpInfo := es.foldr (fun e r => gap e.1 (e.2 :: r)) (gap last [])
def pool (es : List (Nat × CpInfo)) (last : Nat) : Array CpInfo := ⟨poolList es last⟩
def fileOf (pool : Array CpInfo) (this : Nat) (attrs : Array Attribute := #[]) (ms : Array MethodInfo := #[]) (fl : Nat := 33) (sup : Nat := 0) (ifs : Array Nat := #[]) (fds : Array FieldInfo := #[]) : ClassFile where
  minorVersion := 0
  majorVersion := 65
  constantPool := pool
  accessFlags := fl
  thisClass := this
  superClass := sup
  interfaces := ifs
  fields := fds
  methods := ms
  attributes := attrs
def plain (name : String) (sup : Option ClassId) : Class where
  name := name
  kind := .ordinary
  loader := none
  accessFlags := 33
  super := sup
  interfaces := #[]
  cf := none
  fields := #[]
  methods := #[]
  instanceTypes := #[]
  staticTypes := #[]
  resolved := #[]
  callSites := []
  init := .initialized
  statics := none
  mirror := none

def pool0 : Array CpInfo := pool [(5, u "<init>"), (0, u "()V"), (1, .class_ 10), (1, u "java/lang/Object"), (85, u "clone"), (0, u "()Ljava/lang/Object;")] 26

def k0c0 : Code := { maxStack := 0, maxLocals := 1, code := object_method_1_code, exceptionTable := #[], attributes := #[] }
def k0m0 : Method := { name := "<init>", desc := "()V", sig := { parameters := [], returnType := none }, accessFlags := 1, code := some k0c0 }
def k0m1 : Method := { name := "clone", desc := "()Ljava/lang/Object;", sig := { parameters := [], returnType := some (.object "java/lang/Object") }, accessFlags := 260, code := none }
/-- java/lang/Object -/
def k0 : Class := { plain "java/lang/Object" none with
  accessFlags := 33
  interfaces := #[]
  cf := some (fileOf pool0 8 #[] #[{ accessFlags := 1, nameIndex := 5, descriptorIndex := 6, attributes := #[] }, { accessFlags := 260, nameIndex := 96, descriptorIndex := 97, attributes := #[] }] 33 0 #[] #[])
  fields := #[]
  methods := #[k0m0, k0m1]
  instanceTypes := #[]
  staticTypes := #[]
  resolved := Array.replicate 124 none
  statics := none }

def pool1 : Array CpInfo := pool [(2, .class_ 4), (0, .nameAndType 5 6), (0, u "java/lang/Object"), (0, u "<init>"), (0, u "()V"), (0, .fieldref 8 9), (0, .class_ 10), (0, .nameAndType 11 12), (0, u "com/example/feedwright/feedwright/Verdict"), (0, u "INSERTED"), (0, u "Lcom/example/feedwright/feedwright/Verdict;"), (0, .fieldref 8 14), (0, .nameAndType 15 12), (0, u "UPDATED"), (0, .fieldref 8 17), (0, .nameAndType 18 12), (0, u "UNCHANGED"), (0, .fieldref 8 20), (0, .nameAndType 21 12), (0, u "NOT_PROCESSED"), (0, .methodref 23 24), (0, .class_ 25), (0, .nameAndType 26 27), (0, u "com/example/feedwright/feedwright/LoadSummary"), (0, u "add"), (0, u "(Lcom/example/feedwright/feedwright/Verdict;)V"), (0, .methodref 23 3), (0, .methodref 23 30), (0, .nameAndType 31 32), (0, u "records"), (0, u "()J"), (0, .methodref 34 35), (0, .class_ 36), (0, .nameAndType 37 38), (0, u "com/example/feedwright/feedwright/LoadSummaryRecordsPinLaw"), (0, u "step"), (0, u "(Lcom/example/feedwright/feedwright/LoadSummary;I)I"), (3, u "law"), (0, u "(IIIIII)Z")] 2

def k1m0 : Method := { name := "<init>", desc := "()V", sig := { parameters := [], returnType := none }, accessFlags := 2, code := none }
def k1c1 : Code := { maxStack := 2, maxLocals := 4, code := method_2_code, exceptionTable := #[], attributes := #[] }
def k1m1 : Method := { name := "step", desc := "(Lcom/example/feedwright/feedwright/LoadSummary;I)I", sig := { parameters := [(.object "com/example/feedwright/feedwright/LoadSummary"), .int], returnType := some .int }, accessFlags := 10, code := some k1c1 }
def k1c2 : Code := { maxStack := 4, maxLocals := 12, code := code, exceptionTable := #[], attributes := #[] }
def k1m2 : Method := { name := "law", desc := "(IIIIII)Z", sig := { parameters := [.int, .int, .int, .int, .int, .int], returnType := some .boolean }, accessFlags := 9, code := some k1c2 }
/-- com/example/feedwright/feedwright/LoadSummaryRecordsPinLaw -/
def k1 : Class := { plain "com/example/feedwright/feedwright/LoadSummaryRecordsPinLaw" (some 0) with
  accessFlags := 49
  interfaces := #[]
  cf := some (fileOf pool1 34 #[] #[{ accessFlags := 2, nameIndex := 5, descriptorIndex := 6, attributes := #[] }, { accessFlags := 10, nameIndex := 37, descriptorIndex := 38, attributes := #[] }, { accessFlags := 9, nameIndex := 42, descriptorIndex := 43, attributes := #[] }] 49 2 #[] #[])
  fields := #[]
  methods := #[k1m0, k1m1, k1m2]
  instanceTypes := #[]
  staticTypes := #[]
  resolved := Array.replicate 46 none
  statics := none }

def pool2 : Array CpInfo := pool [(1, .methodref 2 3), (0, .class_ 4), (0, .nameAndType 5 6), (0, u "java/lang/Object"), (0, u "<init>"), (0, u "()V"), (0, .methodref 8 9), (0, .class_ 10), (0, .nameAndType 11 12), (0, u "com/example/feedwright/feedwright/Verdict"), (0, u "values"), (0, u "()[Lcom/example/feedwright/feedwright/Verdict;"), (0, .fieldref 14 15), (0, .class_ 16), (0, .nameAndType 17 18), (0, u "com/example/feedwright/feedwright/LoadSummary"), (0, u "counts"), (0, u "[J"), (0, .methodref 8 20), (0, .nameAndType 21 22), (0, u "ordinal"), (0, u "()I"), (4, u "records"), (2, u "()J"), (69, u "add"), (6, u "(Lcom/example/feedwright/feedwright/Verdict;)V")] 25

def k2c0 : Code := { maxStack := 2, maxLocals := 1, code := prog_16_method_1_code, exceptionTable := #[], attributes := #[] }
def k2m0 : Method := { name := "<init>", desc := "()V", sig := { parameters := [], returnType := none }, accessFlags := 0, code := some k2c0 }
def k2c1 : Code := { maxStack := 6, maxLocals := 2, code := prog_16_method_2_code, exceptionTable := #[], attributes := #[] }
def k2m1 : Method := { name := "add", desc := "(Lcom/example/feedwright/feedwright/Verdict;)V", sig := { parameters := [(.object "com/example/feedwright/feedwright/Verdict")], returnType := none }, accessFlags := 0, code := some k2c1 }
def k2c2 : Code := { maxStack := 4, maxLocals := 8, code := prog_16_method_4_code, exceptionTable := #[], attributes := #[] }
def k2m2 : Method := { name := "records", desc := "()J", sig := { parameters := [], returnType := some .long }, accessFlags := 0, code := some k2c2 }
/-- com/example/feedwright/feedwright/LoadSummary -/
def k2 : Class := { plain "com/example/feedwright/feedwright/LoadSummary" (some 0) with
  accessFlags := 48
  interfaces := #[]
  cf := some (fileOf pool2 14 #[] #[{ accessFlags := 0, nameIndex := 5, descriptorIndex := 6, attributes := #[] }, { accessFlags := 0, nameIndex := 100, descriptorIndex := 107, attributes := #[] }, { accessFlags := 0, nameIndex := 27, descriptorIndex := 30, attributes := #[] }] 48 2 #[] #[{ accessFlags := 18, nameIndex := 17, descriptorIndex := 18, attributes := #[] }])
  fields := #[{ name := "counts", type := (.array .long), accessFlags := 18, slot := 0, constantValue := 0 }]
  methods := #[k2m0, k2m1, k2m2]
  instanceTypes := #[(.array .long)]
  staticTypes := #[]
  resolved := Array.replicate 133 none
  statics := none }

def pool3 : Array CpInfo := pool [(1, .class_ 2), (0, u "java/lang/constant/Constable"), (0, .class_ 4), (0, u "java/lang/Object")] 6

/-- java/lang/constant/Constable -/
def k3 : Class := { plain "java/lang/constant/Constable" (some 0) with
  accessFlags := 1537
  interfaces := #[]
  cf := some (fileOf pool3 1 #[] #[] 1537 3 #[] #[])
  fields := #[]
  methods := #[]
  instanceTypes := #[]
  staticTypes := #[]
  resolved := Array.replicate 11 none
  statics := none }

def pool4 : Array CpInfo := pool [(1, .class_ 2), (0, u "java/lang/Comparable"), (0, .class_ 4), (0, u "java/lang/Object")] 7

/-- java/lang/Comparable -/
def k4 : Class := { plain "java/lang/Comparable" (some 0) with
  accessFlags := 1537
  interfaces := #[]
  cf := some (fileOf pool4 1 #[] #[] 1537 3 #[] #[])
  fields := #[]
  methods := #[]
  instanceTypes := #[]
  staticTypes := #[]
  resolved := Array.replicate 12 none
  statics := none }

def pool5 : Array CpInfo := pool [(1, .class_ 2), (0, u "java/io/Serializable"), (0, .class_ 4), (0, u "java/lang/Object")] 2

/-- java/io/Serializable -/
def k5 : Class := { plain "java/io/Serializable" (some 0) with
  accessFlags := 1537
  interfaces := #[]
  cf := some (fileOf pool5 1 #[] #[] 1537 3 #[] #[])
  fields := #[]
  methods := #[]
  instanceTypes := #[]
  staticTypes := #[]
  resolved := Array.replicate 7 none
  statics := none }

def pool6 : Array CpInfo := pool [(2, .class_ 4), (1, u "java/lang/Enum"), (0, u "name"), (0, u "Ljava/lang/String;"), (0, .fieldref 2 8), (0, .nameAndType 9 10), (0, u "ordinal"), (0, u "I"), (1, .class_ 14), (1, u "java/lang/Object"), (4, u "hash"), (86, .class_ 108), (1, u "java/lang/Enum$EnumDesc"), (2, .class_ 112), (0, u "java/lang/constant/Constable"), (0, .class_ 114), (0, u "java/lang/Comparable"), (0, .class_ 116), (0, u "java/io/Serializable"), (9, u "()I")] 77

def k6c0 : Code := { maxStack := 1, maxLocals := 1, code := jdk_37_method_2_code, exceptionTable := #[], attributes := #[] }
def k6m0 : Method := { name := "ordinal", desc := "()I", sig := { parameters := [], returnType := some .int }, accessFlags := 17, code := some k6c0 }
/-- java/lang/Enum -/
def k6 : Class := { plain "java/lang/Enum" (some 0) with
  accessFlags := 1057
  interfaces := #[3, 4, 5]
  cf := some (fileOf pool6 2 #[.nestMembers #[106]] #[{ accessFlags := 17, nameIndex := 9, descriptorIndex := 126, attributes := #[] }] 1057 12 #[111, 113, 115] #[{ accessFlags := 18, nameIndex := 5, descriptorIndex := 6, attributes := #[] }, { accessFlags := 18, nameIndex := 9, descriptorIndex := 10, attributes := #[] }, { accessFlags := 2, nameIndex := 19, descriptorIndex := 10, attributes := #[] }])
  fields := #[{ name := "name", type := (.object "java/lang/String"), accessFlags := 18, slot := 0, constantValue := 0 }, { name := "ordinal", type := .int, accessFlags := 18, slot := 1, constantValue := 0 }, { name := "hash", type := .int, accessFlags := 2, slot := 2, constantValue := 0 }]
  methods := #[k6m0]
  instanceTypes := #[(.object "java/lang/String"), .int, .int]
  staticTypes := #[]
  resolved := Array.replicate 204 none
  statics := none }

def pool7 : Array CpInfo := pool [(1, .class_ 2), (0, u "com/example/feedwright/feedwright/Verdict"), (2, u "INSERTED"), (0, u "Lcom/example/feedwright/feedwright/Verdict;"), (2, u "UPDATED"), (2, u "UNCHANGED"), (2, u "NOT_PROCESSED"), (0, .fieldref 1 17), (0, .nameAndType 18 19), (0, u "$VALUES"), (0, u "[Lcom/example/feedwright/feedwright/Verdict;"), (0, .methodref 21 22), (0, .class_ 19), (0, .nameAndType 23 24), (0, u "clone"), (0, u "()Ljava/lang/Object;"), (1, .class_ 28), (1, u "java/lang/Enum"), (30, u "()[Lcom/example/feedwright/feedwright/Verdict;"), (0, u "values")] 11

def k7c0 : Code := { maxStack := 1, maxLocals := 0, code := prog_29_method_1_code, exceptionTable := #[], attributes := #[] }
def k7m0 : Method := { name := "values", desc := "()[Lcom/example/feedwright/feedwright/Verdict;", sig := { parameters := [], returnType := some (.array (.object "com/example/feedwright/feedwright/Verdict")) }, accessFlags := 9, code := some k7c0 }
/-- com/example/feedwright/feedwright/Verdict -/
def k7 : Class := { plain "com/example/feedwright/feedwright/Verdict" (some 6) with
  accessFlags := 16432
  interfaces := #[]
  cf := some (fileOf pool7 1 #[] #[{ accessFlags := 9, nameIndex := 60, descriptorIndex := 59, attributes := #[] }] 16432 26 #[] #[{ accessFlags := 16409, nameIndex := 5, descriptorIndex := 6, attributes := #[] }, { accessFlags := 16409, nameIndex := 9, descriptorIndex := 6, attributes := #[] }, { accessFlags := 16409, nameIndex := 12, descriptorIndex := 6, attributes := #[] }, { accessFlags := 16409, nameIndex := 15, descriptorIndex := 6, attributes := #[] }, { accessFlags := 4122, nameIndex := 18, descriptorIndex := 19, attributes := #[] }])
  fields := #[{ name := "INSERTED", type := (.object "com/example/feedwright/feedwright/Verdict"), accessFlags := 16409, slot := 0, constantValue := 0 }, { name := "UPDATED", type := (.object "com/example/feedwright/feedwright/Verdict"), accessFlags := 16409, slot := 1, constantValue := 0 }, { name := "UNCHANGED", type := (.object "com/example/feedwright/feedwright/Verdict"), accessFlags := 16409, slot := 2, constantValue := 0 }, { name := "NOT_PROCESSED", type := (.object "com/example/feedwright/feedwright/Verdict"), accessFlags := 16409, slot := 3, constantValue := 0 }, { name := "$VALUES", type := (.array (.object "com/example/feedwright/feedwright/Verdict")), accessFlags := 4122, slot := 4, constantValue := 0 }]
  methods := #[k7m0]
  instanceTypes := #[(.object "java/lang/String"), .int, .int]
  staticTypes := #[(.object "com/example/feedwright/feedwright/Verdict"), (.object "com/example/feedwright/feedwright/Verdict"), (.object "com/example/feedwright/feedwright/Verdict"), (.object "com/example/feedwright/feedwright/Verdict"), (.array (.object "com/example/feedwright/feedwright/Verdict"))]
  resolved := Array.replicate 72 none
  statics := some 0 }

def pool8 : Array CpInfo := pool [(1, .class_ 2), (0, u "java/lang/Cloneable"), (0, .class_ 4), (0, u "java/lang/Object")] 2

/-- java/lang/Cloneable -/
def k8 : Class := { plain "java/lang/Cloneable" (some 0) with
  accessFlags := 1537
  interfaces := #[]
  cf := some (fileOf pool8 1 #[] #[] 1537 3 #[] #[])
  fields := #[]
  methods := #[]
  instanceTypes := #[]
  staticTypes := #[]
  resolved := Array.replicate 7 none
  statics := none }

/-- the primitive byte -/
def k9 : Class := { plain "byte" none with kind := .primitive 'B', accessFlags := 0x411 }
/-- [B -/
def k10 : Class := { plain "[B" (some 0) with kind := .array 9 .byte, interfaces := #[8, 5], accessFlags := 1041 }

/-- the primitive int -/
def k11 : Class := { plain "int" none with kind := .primitive 'I', accessFlags := 0x411 }
/-- [I -/
def k12 : Class := { plain "[I" (some 0) with kind := .array 11 .int, interfaces := #[8, 5], accessFlags := 1041 }

/-- the primitive long -/
def k13 : Class := { plain "long" none with kind := .primitive 'J', accessFlags := 0x411 }
/-- [J -/
def k14 : Class := { plain "[J" (some 0) with kind := .array 13 .long, interfaces := #[8, 5], accessFlags := 1041 }

/-- [Lcom/example/feedwright/feedwright/Verdict; -/
def k15 : Class := { plain "[Lcom/example/feedwright/feedwright/Verdict;" (some 0) with kind := .array 7 (.object "com/example/feedwright/feedwright/Verdict"), interfaces := #[8, 5], accessFlags := 1041 }

def heap : Heap := #[{ cls := 7, slots := #[.ref 2, .ref 3, .ref 4, .ref 5, .ref 1], vm := .statics 7 },
  { cls := 15, slots := #[.ref 2, .ref 3, .ref 4, .ref 5], vm := .none },
  { cls := 7, slots := #[.null, .int 0, .int 0], vm := .none },
  { cls := 7, slots := #[.null, .int 1, .int 0], vm := .none },
  { cls := 7, slots := #[.null, .int 2, .int 0], vm := .none },
  { cls := 7, slots := #[.null, .int 3, .int 0], vm := .none }]
def classes : Array Class := #[k0, k1, k2, k3, k4, k5, k6, k7, k8, k9, k10, k11, k12, k13, k14, k15]
def interned : List (Array UInt16 × Addr) := []
def slotsUsed : Nat := 21
def theMethod : MethodId := ⟨1, 2⟩
def args0 : Array Value := #[.int 4, .int 5, .int 6, .int 7, .int 0, .int 1]
def aboutOver (below : List Frame) : State where
  vm := { classes := classes, interned := interned.toArray }
  heap := heap
  slotsUsed := slotsUsed
  threads := #[{ frames := .invoking theMethod args0 :: below }]
def below0 : List Frame := [.native { method := ⟨0, 0⟩, args := #[] }]
def about1 : State := aboutOver below0
def p0 : Program := .bare "" "" ""
def e0 : Env := launch0.env 0 0 0
theorem w_frames : about1.frames = Frame.invoking theMethod args0 :: below0 := rfl
set_option maxRecDepth 65536 in
theorem w_args : argsFit about1.vm theMethod args0 = true := by decide +kernel
set_option maxRecDepth 65536 in
theorem w_heap : heapFits about1 = true := by decide +kernel
set_option maxRecDepth 65536 in
theorem w_runnable : about1.curStatus? = some .runnable := by decide +kernel
set_option maxRecDepth 65536 in
theorem w_alone : about1.alone = true := by decide +kernel
set_option maxRecDepth 65536 in
theorem w_named : about1.methodNamed? x = some theMethod := by decide +kernel
set_option maxRecDepth 65536 in
theorem w_hears : about1.hears theMethod below0 = true := by decide +kernel
set_option maxRecDepth 65536 in
theorem w_ripe : about1.ripe theMethod args0 below0 = true := by decide +kernel
theorem w_running : about1.status = .running := rfl
set_option maxRecDepth 65536 in
theorem w_room : about1.hasRoom e0.platform room_1 = true :=
  launch0.hasRoom_least _ room_1 (by decide +kernel) (by decide +kernel) (by decide +kernel) (by decide +kernel) (by decide +kernel) (by decide +kernel)
theorem allAtoms_all (ts : List Jvm.Cond) (a : Array Jvm.Value) (st : Jvm.State) : (allAtoms ts).before a st = ts.all (fun c => c.before a st) := by
  induction ts with
  | nil => rfl
  | cons c t ih =>
    show (Jvm.Cond.and c (allAtoms t)).before a st = _
    rw [Jvm.Cond.before_and, ih, List.all_cons]
def words1 : List Jvm.Cond := Jvm.Cond.code x code maxLocals ret :: tables_1
/-- a 'code' word, met by the world's own term for the bytes: nothing is compared byte by byte -/
theorem code_word {y : MethodName} {bytes : ByteArray} {mx : Nat} {rt : Option FieldType} {a : Array Value} {s : State} {m : MethodId} {meth : Method} {c : Code} (h1 : s.methodNamed? y = some m) (h2 : s.vm.method? m = some meth) (h3 : meth.code = some c) (h4 : c.code = bytes)
    (h5 : (c.maxLocals == mx && c.exceptionTable.isEmpty && decide (c.maxStack ≤ mostOperands) && decide (meth.sig.returnType = rt) && !meth.locks && decide (parseMethodDescriptor y.desc = some meth.sig)) = true) : (Jvm.Cond.code y bytes mx rt).before a s = true := by
  simp only [Bool.and_eq_true, beq_iff_eq, Bool.not_eq_true', decide_eq_true_eq] at h5
  obtain ⟨⟨⟨⟨⟨g1, g2⟩, g3⟩, g4⟩, g5⟩, g6⟩ := h5
  simp [Cond.before, Cond.holds, Cond.value, h1, h2, h3, h4, g1, g2, g3, g4, g5, g6]
def isCode : Jvm.Cond → Bool
  | .code _ _ _ _ => true
  | _ => false
theorem all_split {L : List Jvm.Cond} {P : Jvm.Cond → Bool} (h1 : L.all (fun c => isCode c || P c) = true) (h2 : ∀ c ∈ L.filter isCode, P c = true) : L.all P = true := by
  refine List.all_eq_true.mpr fun c hc => ?_
  have h := List.all_eq_true.mp h1 c hc
  rcases Bool.eq_false_or_eq_true (isCode c) with hi | hi
  · exact h2 c (List.mem_filter.mpr ⟨hc, hi⟩)
  · simpa [hi] using h
set_option maxRecDepth 65536 in
theorem w_c0 : (Jvm.Cond.code x code maxLocals ret).before args0 about1 = true := code_word (m := ⟨1, 2⟩) (meth := k1m2) (c := k1c2) (by decide +kernel) rfl rfl rfl (by decide +kernel)
set_option maxRecDepth 65536 in
theorem w_c1 : (Jvm.Cond.code ({ cls := "com/example/feedwright/feedwright/LoadSummary", name := "<init>", desc := "()V" } : Jvm.MethodName) prog_16_method_1_code (1 : Nat) (Option.none : Option Jvm.ClassFile.FieldType)).before args0 about1 = true := code_word (m := ⟨2, 0⟩) (meth := k2m0) (c := k2c0) (by decide +kernel) rfl rfl rfl (by decide +kernel)
set_option maxRecDepth 65536 in
theorem w_c2 : (Jvm.Cond.code ({ cls := "java/lang/Object", name := "<init>", desc := "()V" } : Jvm.MethodName) object_method_1_code (1 : Nat) (Option.none : Option Jvm.ClassFile.FieldType)).before args0 about1 = true := code_word (m := ⟨0, 0⟩) (meth := k0m0) (c := k0c0) (by decide +kernel) rfl rfl rfl (by decide +kernel)
set_option maxRecDepth 65536 in
theorem w_c3 : (Jvm.Cond.code ({ cls := "com/example/feedwright/feedwright/Verdict", name := "values", desc := "()[Lcom/example/feedwright/feedwright/Verdict;" } : Jvm.MethodName) prog_29_method_1_code (0 : Nat) (Option.some (Jvm.ClassFile.FieldType.array (Jvm.ClassFile.FieldType.object "com/example/feedwright/feedwright/Verdict")))).before args0 about1 = true := code_word (m := ⟨7, 0⟩) (meth := k7m0) (c := k7c0) (by decide +kernel) rfl rfl rfl (by decide +kernel)
set_option maxRecDepth 65536 in
theorem w_c4 : (Jvm.Cond.code ({ cls := "com/example/feedwright/feedwright/LoadSummary", name := "records", desc := "()J" } : Jvm.MethodName) prog_16_method_4_code (8 : Nat) (Option.some Jvm.ClassFile.FieldType.long)).before args0 about1 = true := code_word (m := ⟨2, 2⟩) (meth := k2m2) (c := k2c2) (by decide +kernel) rfl rfl rfl (by decide +kernel)
set_option maxRecDepth 65536 in
theorem w_c5 : (Jvm.Cond.code ({ cls := "com/example/feedwright/feedwright/LoadSummaryRecordsPinLaw", name := "step", desc := "(Lcom/example/feedwright/feedwright/LoadSummary;I)I" } : Jvm.MethodName) method_2_code (4 : Nat) (Option.some Jvm.ClassFile.FieldType.int)).before args0 about1 = true := code_word (m := ⟨1, 1⟩) (meth := k1m1) (c := k1c1) (by decide +kernel) rfl rfl rfl (by decide +kernel)
set_option maxRecDepth 65536 in
theorem w_c6 : (Jvm.Cond.code ({ cls := "com/example/feedwright/feedwright/LoadSummary", name := "add", desc := "(Lcom/example/feedwright/feedwright/Verdict;)V" } : Jvm.MethodName) prog_16_method_2_code (2 : Nat) (Option.none : Option Jvm.ClassFile.FieldType)).before args0 about1 = true := code_word (m := ⟨2, 1⟩) (meth := k2m1) (c := k2c1) (by decide +kernel) rfl rfl rfl (by decide +kernel)
set_option maxRecDepth 65536 in
theorem w_c7 : (Jvm.Cond.code ({ cls := "java/lang/Enum", name := "ordinal", desc := "()I" } : Jvm.MethodName) jdk_37_method_2_code (1 : Nat) (Option.some Jvm.ClassFile.FieldType.int)).before args0 about1 = true := code_word (m := ⟨6, 0⟩) (meth := k6m0) (c := k6c0) (by decide +kernel) rfl rfl rfl (by decide +kernel)
def codes1 : List Jvm.Cond := [Jvm.Cond.code x code maxLocals ret, Jvm.Cond.code ({ cls := "com/example/feedwright/feedwright/LoadSummary", name := "<init>", desc := "()V" } : Jvm.MethodName) prog_16_method_1_code (1 : Nat) (Option.none : Option Jvm.ClassFile.FieldType), Jvm.Cond.code ({ cls := "java/lang/Object", name := "<init>", desc := "()V" } : Jvm.MethodName) object_method_1_code (1 : Nat) (Option.none : Option Jvm.ClassFile.FieldType), Jvm.Cond.code ({ cls := "com/example/feedwright/feedwright/Verdict", name := "values", desc := "()[Lcom/example/feedwright/feedwright/Verdict;" } : Jvm.MethodName) prog_29_method_1_code (0 : Nat) (Option.some (Jvm.ClassFile.FieldType.array (Jvm.ClassFile.FieldType.object "com/example/feedwright/feedwright/Verdict"))), Jvm.Cond.code ({ cls := "com/example/feedwright/feedwright/LoadSummary", name := "records", desc := "()J" } : Jvm.MethodName) prog_16_method_4_code (8 : Nat) (Option.some Jvm.ClassFile.FieldType.long), Jvm.Cond.code ({ cls := "com/example/feedwright/feedwright/LoadSummaryRecordsPinLaw", name := "step", desc := "(Lcom/example/feedwright/feedwright/LoadSummary;I)I" } : Jvm.MethodName) method_2_code (4 : Nat) (Option.some Jvm.ClassFile.FieldType.int), Jvm.Cond.code ({ cls := "com/example/feedwright/feedwright/LoadSummary", name := "add", desc := "(Lcom/example/feedwright/feedwright/Verdict;)V" } : Jvm.MethodName) prog_16_method_2_code (2 : Nat) (Option.none : Option Jvm.ClassFile.FieldType), Jvm.Cond.code ({ cls := "java/lang/Enum", name := "ordinal", desc := "()I" } : Jvm.MethodName) jdk_37_method_2_code (1 : Nat) (Option.some Jvm.ClassFile.FieldType.int)]
set_option maxRecDepth 65536 in
theorem codes_eq : words1.filter isCode = codes1 := rfl
theorem w_codes : ∀ c ∈ words1.filter isCode, c.before args0 about1 = true := by
  rw [codes_eq]
  intro c hc
  simp only [codes1, List.mem_cons, List.not_mem_nil, or_false] at hc
  rcases hc with rfl | rfl | rfl | rfl | rfl | rfl | rfl | rfl
  · exact w_c0
  · exact w_c1
  · exact w_c2
  · exact w_c3
  · exact w_c4
  · exact w_c5
  · exact w_c6
  · exact w_c7
set_option maxRecDepth 65536 in
theorem w_t1 : (words1.take 24).all (fun c => isCode c || c.before args0 about1) = true := by decide +kernel
set_option maxRecDepth 65536 in
theorem w_t2 : ((words1.drop 24).take 24).all (fun c => isCode c || c.before args0 about1) = true := by decide +kernel
set_option maxRecDepth 65536 in
theorem w_t3 : ((words1.drop 24).drop 24).all (fun c => isCode c || c.before args0 about1) = true := by decide +kernel
theorem w_tables : (allAtoms (Jvm.Cond.code x code maxLocals ret :: tables_1)).before args0 about1 = true := by
  rw [allAtoms_all]
  show words1.all (fun c => c.before args0 about1) = true
  refine all_split ?_ w_codes
  rw [← List.take_append_drop 24 words1, List.all_append, w_t1, ← List.take_append_drop 24 (words1.drop 24), List.all_append, w_t2, w_t3]
  rfl
set_option maxRecDepth 65536 in
theorem w_case : (Jvm.Cond.and given_1 narrow_1).before args0 about1 = true := by decide +kernel
theorem w_applies : (headSpec (Jvm.Cond.code x code maxLocals ret :: tables_1) room_1).applies x e0.platform about1 = true :=
  (Spec.applies_iff w_frames).mpr ⟨w_running, w_runnable, w_alone, w_named, w_hears, w_ripe, w_room, w_tables⟩
theorem atStart : AtStart classFile x code maxLocals ret World_1 tables_1 room_1 Calls_1 rest_1 Pre_1 launch0 p0 e0 about1 theMethod args0 below0 :=
  ⟨lists_1, trivial, launch0.admits_env _ _ _, launch0.least_env, fairChoices_fair.cas, fairChoices_fair.clock, w_frames, w_args, w_heap, w_applies, trivial, trivial, w_case⟩
end start1
theorem witness_1 : WitnessClaimed_1 := ⟨start1.p0, start1.e0, start1.about1, start1.theMethod, start1.args0, start1.below0, start1.atStart⟩
end Jvm.Pilot.@@N@@
