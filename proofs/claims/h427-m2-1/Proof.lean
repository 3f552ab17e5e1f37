import JvmDerived
import JvmDerived.Pilot.@@N@@Statement
import JvmDerived.Pilot.@@N@@Code
set_option linter.unusedVariables false
set_option linter.unusedSimpArgs false
namespace Jvm.RoadKit
open Sem ClassFile Op Lib Jvm.Stand Jvm.Free Jvm.LawKit
section New
variable {p : Program} {l : Launch} {e : Env} {R : Room} {s : State} {m : MethodId} {args : Array Value} {below : List Frame} {meth : Method} {c : Code} {T : State} {locs : List Loc} {cells slots : Nat}
theorem retI (X : Stand p l e R s m args below meth c T locs cells slots) (hx : p.tables.exec = Jvm.exec) {pc : Nat} {Ls : Array Slot} {z : Int32} {rest : List Value} (hret : meth.sig.returnType = some .int) (hd : decode c.code pc = .ok (.ireturn, 1)) {fs : List Frame}
    (hl : ∀ (f : JFrame) (acts : List Action), f.method = m → f.locked = none → f.entered = [] → (doReturn e (T.setTop f) acts (some (.int z))).1 = T.setFrames fs) : Steps p.tables e below (T.setTop (mkF m pc Ls (.int z :: rest))) (T.setFrames fs) := by
  have hm' : T.vm.method? m = some meth := X.method'
  have hn : narrow .int (.int z) = .int z := rfl
  show Steps p.tables e below (T.setTop { method := m, pc := pc, locals := Ls, stack := _ :: rest, locked := none }) _
  jvm_step X.here [X.here.top, hx, hd, hm', hret, hn]
  first | (intro acts; rw [hl _ acts rfl rfl rfl]) | rw [hl _ _ rfl rfl rfl]
  exact Steps.refl _
end New
end Jvm.RoadKit
namespace Jvm.Pilot.@@N@@
open Jvm Jvm.ClassFile Sem Op Lib Jvm.Free Jvm.Stand Jvm.LawKit Jvm.RoadKit Bundle Jvm.Pilot.@@N@@.Jvm.D
theorem ww {a0 : Array Value} {Z : State} (hw : ∀ d ∈ tables_1, d.before a0 Z = true) (i : Nat) {d : Jvm.Cond} (h : tables_1[i]? = some d) : d.before a0 Z = true := hw d (List.mem_of_getElem? h)
abbrev vi (x : Int32) : Slot := .val (.int x)
abbrev vj (x : Int64) : Slot := .val (.long x)
abbrev vr (x : Addr) : Slot := .val (.ref x)
abbrev vn : Slot := .val .null
abbrev vu : Slot := .unset
abbrev xi (x : Int32) : Value := .int x
abbrev xj (x : Int64) : Value := .long x
abbrev xr (x : Addr) : Value := .ref x
abbrev own_S (p : Program) (e : Env) (below : List Frame) (T : State) (g : JFrame) (t : State) : Prop := Steps p.tables e below (T.setTop g) t
/-- a body's contract: at these arguments and this heap it returns as Q says -/
abbrev own_Met (l : Launch) (Z : State) (y : MethodName) (bytes : ByteArray) (maxL : Nat) (rt : Option FieldType) (rm : Room) (as' : Array Value) (h0 : Heap) (Qy : Option Value → Heap → List Loc → Prop) : Prop :=
  ∀ ws : List Jvm.Cond, MetFree l y (head1 (Jvm.Cond.code y bytes maxL rt :: ws) rm) (fun a U => a = as' ∧ Z.Warmed39 U.vm ∧ U.heap = h0) (fun _ _ _ _ _ => True) (fun _ U o U' => ∃ v L, o = .returned v ∧ Qy v U'.heap L ∧ FrameEnd U o U' L rm.cells rm.slots)
/-- it returns r and leaves the heap -/
def own_QR (r : Option Value) (h0 : Heap) (n0 : Nat) (v : Option Value) (h : Heap) (L : List Loc) : Prop := v = r ∧ Fr n0 L ∧ h = h0
/-- it returns r and writes nothing that stood at the start -/
def own_QL (r : Option Value) (n0 : Nat) (v : Option Value) (h : Heap) (L : List Loc) : Prop := v = r ∧ Fr n0 L
theorem own_le {Z : State} {n0 : Nat} {h : Heap} (O : Old Z n0 h) : n0 ≤ h.size := O.1 ▸ O.2.1
theorem own_fresh {Z : State} {n0 : Nat} {h : Heap} {a : Addr} (O : Old Z n0 h) (g : a = h.size) : n0 ≤ a := g ▸ own_le O
theorem own_fld {s : State} {args : Array Value} {t : Term} {C n d : String} {a : Addr} {k : Int32} (ht : t.eval args s none [] s = some (.ref a)) (h : (Jvm.Cond.eq (.field t C n d) (.int k)).value args s none s [] = some true) : Fld s s.heap a C n d (.int k) := by
  refine Fld.start ?_
  simp only [Cond.value, Term.eval, ht] at h
  cases hv : s.fieldOf? a C n d with
  | none => simp [hv] at h
  | some v => cases v <;> simp [hv] at h; subst h; rfl
theorem own_fldN {s : State} {args : Array Value} {t : Term} {C n d : String} {a : Addr} (ht : t.eval args s none [] s = some (.ref a)) (h : (Jvm.Cond.eq (.field t C n d) .null).value args s none s [] = some true) : Fld s s.heap a C n d .null :=
  Fld.start ((fld_at ht).symm.trans (null_v h))
theorem own_fldX {s : State} {args : Array Value} {t : Term} {C n d K : String} {a : Addr} (ht : t.eval args s none [] s = some (.ref a)) (h : (Jvm.Cond.exactly (.field t C n d) K).value args s none s [] = some true) : ∃ b, Fld s s.heap a C n d (.ref b) ∧ Exa s s.heap b K := by
  obtain ⟨b, eb⟩ := exa_v h
  exact ⟨b, Fld.start ((fld_at ht).symm.trans eb), Exa.start eb h⟩
theorem own_len {s : State} {args : Array Value} {t : Term} {a : Addr} {cl : Cell} {ty : FieldType} {k : Int32} {k' : Nat} (ht : t.eval args s none [] s = some (.ref a)) (A : Arr s s.heap a cl ty) (h : (Jvm.Cond.eq (.length t) (.int k)).value args s none s [] = some true) (hk : k.toInt = k') : cl.slots.size = k' := by
  obtain ⟨v, hv⟩ : ∃ v, (Term.length t).eval args s none [] s = some v := by
    cases hq : (Term.length t).eval args s none [] s with
    | none => simp [Cond.value, hq] at h
    | some v => exact ⟨v, rfl⟩
  have ha : s.arrayAt? a = some cl := Arr.fin (Vm.Alike.refl _) A
  by_cases hl : cl.slots.size < 2 ^ 31
  · rw [len_f ht ha hl] at hv
    have h2 := len_f ht ha hl
    have h3 : cl.slots.size.toInt32 = k := gotT (Cond.eq_ints h2 (Term.int_eval k)) h
    have h4 := len_toInt hl
    rw [h3, hk] at h4
    omega
  · simp [Term.eval, ht, ha, hl] at hv
theorem own_ref {x y : Addr} (h : x ≠ y) : decide ((Value.ref x : Value) = .ref y) = false := by simp [h]
theorem own_mask (x : Int32) : 0 ≤ (x &&& (2147483647 : Int32)).toInt := by
  have := c_mask x 2147483647 31 (by decide) (by decide); omega
def own_St (Z : State) (u0 u1 u2 u3 u4 : Addr) : Prop := (Sta Z Z.heap "com/example/feedwright/feedwright/Verdict" "INSERTED" "Lcom/example/feedwright/feedwright/Verdict;" (.ref u0)) ∧ (Exa Z Z.heap u0 "com/example/feedwright/feedwright/Verdict") ∧ (Sta Z Z.heap "com/example/feedwright/feedwright/Verdict" "NOT_PROCESSED" "Lcom/example/feedwright/feedwright/Verdict;" (.ref u1)) ∧ (Exa Z Z.heap u1 "com/example/feedwright/feedwright/Verdict") ∧ (Sta Z Z.heap "com/example/feedwright/feedwright/Verdict" "UNCHANGED" "Lcom/example/feedwright/feedwright/Verdict;" (.ref u2)) ∧ (Exa Z Z.heap u2 "com/example/feedwright/feedwright/Verdict") ∧ (Sta Z Z.heap "com/example/feedwright/feedwright/Verdict" "$VALUES" "[Lcom/example/feedwright/feedwright/Verdict;" (.ref u3)) ∧ (Exa Z Z.heap u3 "[Lcom/example/feedwright/feedwright/Verdict;") ∧ (Sta Z Z.heap "com/example/feedwright/feedwright/Verdict" "UPDATED" "Lcom/example/feedwright/feedwright/Verdict;" (.ref u4)) ∧ (Exa Z Z.heap u4 "com/example/feedwright/feedwright/Verdict") ∧ (Fld Z Z.heap u0 "java/lang/Enum" "ordinal" "I" (.int (0 : Int32))) ∧ (Fld Z Z.heap u4 "java/lang/Enum" "ordinal" "I" (.int (1 : Int32))) ∧ (Fld Z Z.heap u2 "java/lang/Enum" "ordinal" "I" (.int (2 : Int32))) ∧ (Fld Z Z.heap u1 "java/lang/Enum" "ordinal" "I" (.int (3 : Int32))) ∧ (∃ cl : Cell, Arr Z Z.heap u3 cl (.object "com/example/feedwright/feedwright/Verdict") ∧ cl.slots.size = 4 ∧ FitC Z cl)
theorem own_S_u0 {Z : State} {u0 u1 u2 u3 u4 : Addr} (G : own_St Z u0 u1 u2 u3 u4) : Sta Z Z.heap "com/example/feedwright/feedwright/Verdict" "INSERTED" "Lcom/example/feedwright/feedwright/Verdict;" (.ref u0) := G.1
theorem own_X_u0 {Z : State} {u0 u1 u2 u3 u4 : Addr} (G : own_St Z u0 u1 u2 u3 u4) : Exa Z Z.heap u0 "com/example/feedwright/feedwright/Verdict" := G.2.1
theorem own_S_u1 {Z : State} {u0 u1 u2 u3 u4 : Addr} (G : own_St Z u0 u1 u2 u3 u4) : Sta Z Z.heap "com/example/feedwright/feedwright/Verdict" "NOT_PROCESSED" "Lcom/example/feedwright/feedwright/Verdict;" (.ref u1) := G.2.2.1
theorem own_X_u1 {Z : State} {u0 u1 u2 u3 u4 : Addr} (G : own_St Z u0 u1 u2 u3 u4) : Exa Z Z.heap u1 "com/example/feedwright/feedwright/Verdict" := G.2.2.2.1
theorem own_S_u2 {Z : State} {u0 u1 u2 u3 u4 : Addr} (G : own_St Z u0 u1 u2 u3 u4) : Sta Z Z.heap "com/example/feedwright/feedwright/Verdict" "UNCHANGED" "Lcom/example/feedwright/feedwright/Verdict;" (.ref u2) := G.2.2.2.2.1
theorem own_X_u2 {Z : State} {u0 u1 u2 u3 u4 : Addr} (G : own_St Z u0 u1 u2 u3 u4) : Exa Z Z.heap u2 "com/example/feedwright/feedwright/Verdict" := G.2.2.2.2.2.1
theorem own_S_u3 {Z : State} {u0 u1 u2 u3 u4 : Addr} (G : own_St Z u0 u1 u2 u3 u4) : Sta Z Z.heap "com/example/feedwright/feedwright/Verdict" "$VALUES" "[Lcom/example/feedwright/feedwright/Verdict;" (.ref u3) := G.2.2.2.2.2.2.1
theorem own_X_u3 {Z : State} {u0 u1 u2 u3 u4 : Addr} (G : own_St Z u0 u1 u2 u3 u4) : Exa Z Z.heap u3 "[Lcom/example/feedwright/feedwright/Verdict;" := G.2.2.2.2.2.2.2.1
theorem own_S_u4 {Z : State} {u0 u1 u2 u3 u4 : Addr} (G : own_St Z u0 u1 u2 u3 u4) : Sta Z Z.heap "com/example/feedwright/feedwright/Verdict" "UPDATED" "Lcom/example/feedwright/feedwright/Verdict;" (.ref u4) := G.2.2.2.2.2.2.2.2.1
theorem own_X_u4 {Z : State} {u0 u1 u2 u3 u4 : Addr} (G : own_St Z u0 u1 u2 u3 u4) : Exa Z Z.heap u4 "com/example/feedwright/feedwright/Verdict" := G.2.2.2.2.2.2.2.2.2.1
theorem own_F_u0_ordinal {Z : State} {u0 u1 u2 u3 u4 : Addr} (G : own_St Z u0 u1 u2 u3 u4) : Fld Z Z.heap u0 "java/lang/Enum" "ordinal" "I" (.int (0 : Int32)) := G.2.2.2.2.2.2.2.2.2.2.1
theorem own_F_u4_ordinal {Z : State} {u0 u1 u2 u3 u4 : Addr} (G : own_St Z u0 u1 u2 u3 u4) : Fld Z Z.heap u4 "java/lang/Enum" "ordinal" "I" (.int (1 : Int32)) := G.2.2.2.2.2.2.2.2.2.2.2.1
theorem own_F_u2_ordinal {Z : State} {u0 u1 u2 u3 u4 : Addr} (G : own_St Z u0 u1 u2 u3 u4) : Fld Z Z.heap u2 "java/lang/Enum" "ordinal" "I" (.int (2 : Int32)) := G.2.2.2.2.2.2.2.2.2.2.2.2.1
theorem own_F_u1_ordinal {Z : State} {u0 u1 u2 u3 u4 : Addr} (G : own_St Z u0 u1 u2 u3 u4) : Fld Z Z.heap u1 "java/lang/Enum" "ordinal" "I" (.int (3 : Int32)) := G.2.2.2.2.2.2.2.2.2.2.2.2.2.1
theorem own_VA_u3 {Z : State} {u0 u1 u2 u3 u4 : Addr} (G : own_St Z u0 u1 u2 u3 u4) : ∃ cl : Cell, Arr Z Z.heap u3 cl (.object "com/example/feedwright/feedwright/Verdict") ∧ cl.slots.size = 4 ∧ FitC Z cl := G.2.2.2.2.2.2.2.2.2.2.2.2.2.2
theorem own_mask7 (x : Int32) : (x &&& (7 : Int32)) = (0 : Int32) ∨ (x &&& (7 : Int32)) = (1 : Int32) ∨ (x &&& (7 : Int32)) = (2 : Int32) ∨ (x &&& (7 : Int32)) = (3 : Int32) ∨ (x &&& (7 : Int32)) = (4 : Int32) ∨ (x &&& (7 : Int32)) = (5 : Int32) ∨ (x &&& (7 : Int32)) = (6 : Int32) ∨ (x &&& (7 : Int32)) = (7 : Int32) := by
  have h1 := c_mask x 7 3 (by decide) (by decide)
  have h3 : (x &&& (7 : Int32)).toInt = 0 ∨ (x &&& (7 : Int32)).toInt = 1 ∨ (x &&& (7 : Int32)).toInt = 2 ∨ (x &&& (7 : Int32)).toInt = 3 ∨ (x &&& (7 : Int32)).toInt = 4 ∨ (x &&& (7 : Int32)).toInt = 5 ∨ (x &&& (7 : Int32)).toInt = 6 ∨ (x &&& (7 : Int32)).toInt = 7 := by omega
  rcases h3 with h | h | h | h | h | h | h | h
  · exact Or.inl (Int32.toInt_inj.mp (h.trans (by decide)))
  · exact Or.inr <| Or.inl (Int32.toInt_inj.mp (h.trans (by decide)))
  · exact Or.inr <| Or.inr <| Or.inl (Int32.toInt_inj.mp (h.trans (by decide)))
  · exact Or.inr <| Or.inr <| Or.inr <| Or.inl (Int32.toInt_inj.mp (h.trans (by decide)))
  · exact Or.inr <| Or.inr <| Or.inr <| Or.inr <| Or.inl (Int32.toInt_inj.mp (h.trans (by decide)))
  · exact Or.inr <| Or.inr <| Or.inr <| Or.inr <| Or.inr <| Or.inl (Int32.toInt_inj.mp (h.trans (by decide)))
  · exact Or.inr <| Or.inr <| Or.inr <| Or.inr <| Or.inr <| Or.inr <| Or.inl (Int32.toInt_inj.mp (h.trans (by decide)))
  · exact Or.inr <| Or.inr <| Or.inr <| Or.inr <| Or.inr <| Or.inr <| Or.inr <| (Int32.toInt_inj.mp (h.trans (by decide)))
theorem own_mask3 (x : Int32) : (x &&& (3 : Int32)) = (0 : Int32) ∨ (x &&& (3 : Int32)) = (1 : Int32) ∨ (x &&& (3 : Int32)) = (2 : Int32) ∨ (x &&& (3 : Int32)) = (3 : Int32) := by
  have h1 := c_mask x 3 2 (by decide) (by decide)
  have h3 : (x &&& (3 : Int32)).toInt = 0 ∨ (x &&& (3 : Int32)).toInt = 1 ∨ (x &&& (3 : Int32)).toInt = 2 ∨ (x &&& (3 : Int32)).toInt = 3 := by omega
  rcases h3 with h | h | h | h
  · exact Or.inl (Int32.toInt_inj.mp (h.trans (by decide)))
  · exact Or.inr <| Or.inl (Int32.toInt_inj.mp (h.trans (by decide)))
  · exact Or.inr <| Or.inr <| Or.inl (Int32.toInt_inj.mp (h.trans (by decide)))
  · exact Or.inr <| Or.inr <| Or.inr <| (Int32.toInt_inj.mp (h.trans (by decide)))
theorem own_mask1 (x : Int32) : (x &&& (1 : Int32)) = (0 : Int32) ∨ (x &&& (1 : Int32)) = (1 : Int32) := by
  have h1 := c_mask x 1 1 (by decide) (by decide)
  have h3 : (x &&& (1 : Int32)).toInt = 0 ∨ (x &&& (1 : Int32)).toInt = 1 := by omega
  rcases h3 with h | h
  · exact Or.inl (Int32.toInt_inj.mp (h.trans (by decide)))
  · exact Or.inr <| (Int32.toInt_inj.mp (h.trans (by decide)))
def own_LS (Z : State) (h : Heap) (n0 : Nat) (a b : Addr) (k : ClassId) (c0 c1 c2 c3 : Int64) : Prop := Exa Z h a "com/example/feedwright/feedwright/LoadSummary" ∧ Fld Z h a "com/example/feedwright/feedwright/LoadSummary" "counts" "[J" (.ref b) ∧ Arv Z h b k .long (4 : Int32) [(.long c0), (.long c1), (.long c2), (.long c3)] (.long (0 : Int64)) ∧ a ≠ b ∧ n0 ≤ a ∧ n0 ≤ b
def own_QV (Z : State) (h0 : Heap) (n0 : Nat) (v : Option Value) (h : Heap) (L : List Loc) : Prop := ∃ b c, v = some (.ref b) ∧ Fr n0 L ∧ Ext h0 h ∧ Arr Z h b c (.object "com/example/feedwright/feedwright/Verdict") ∧ c.slots.size = 4
def own_QI (Z : State) (h0 : Heap) (n0 : Nat) (a : Addr) (v : Option Value) (h : Heap) (L : List Loc) : Prop := v = none ∧ Fr n0 L ∧ Keep h0 h [a] ∧ ∃ b k, own_LS Z h n0 a b k 0 0 0 0
def own_QA (Z : State) (h0 : Heap) (n0 : Nat) (a b : Addr) (k : ClassId) (c0 c1 c2 c3 : Int64) (v : Option Value) (h : Heap) (L : List Loc) : Prop := v = none ∧ Fr n0 L ∧ Keep h0 h [b] ∧ own_LS Z h n0 a b k c0 c1 c2 c3
theorem d4_0 : decode prog_29_method_1_code 0 = .ok (.getstatic 16, 3) := by decide +kernel
theorem d4_3 : decode prog_29_method_1_code 3 = .ok (.invokevirtual 20, 3) := by decide +kernel
theorem d4_6 : decode prog_29_method_1_code 6 = .ok (.checkcast 21, 3) := by decide +kernel
theorem d4_9 : decode prog_29_method_1_code 9 = .ok (.areturn, 1) := by decide +kernel
abbrev Y0 : MethodName := (⟨"com/example/feedwright/feedwright/Verdict", "values", "()[Lcom/example/feedwright/feedwright/Verdict;"⟩ : MethodName)
theorem pn0 : plainName "com/example/feedwright/feedwright/Verdict" = true := by first | (simp [plainName, overriddenIn]; done) | decide +kernel
theorem ef_own_values (m : MethodId) (u0 u1 u2 u3 u4 : Addr) : entryFrame m #[] 0 = (mkF m 0 #[] []) := by first | (simp [entryFrame, mkF, argsToLocals, Value.category]; done) | rfl
set_option maxRecDepth 65536 in
set_option maxHeartbeats 40000000 in
theorem own_values (l : Launch) (Z : State) (a0 : Array Value) (hw : ∀ d ∈ tables_1, d.before a0 Z = true) (u0 u1 u2 u3 u4 : Addr) (G : own_St Z u0 u1 u2 u3 u4) (h0 : Heap) (n0 : Nat) (O0 : Old Z n0 h0) : own_Met l Z Y0 prog_29_method_1_code 0 (some (.array (.object "com/example/feedwright/feedwright/Verdict"))) ({ frames := 1, cells := 1, slots := 4, locals := 14 } : Room) #[] h0 (own_QV Z h0 n0) := by
  intro ws
  refine MetFree.of_bodySF (plainFor_of_name pn0) hisR ?_
  intro p e s m args below meth c s₁ Bd hml0 hP hK
  obtain ⟨rfl, hZ, hh⟩ := hP
  have hx := Bd.exec
  have hby := Bd.bytes
  have hml : c.maxLocals = 0 := hml0
  have hown : s.vm.findClass "com/example/feedwright/feedwright/Verdict" = some m.cls := findClass_of_methodNamed Bd.named
  have hnm := (name_of_methodNamed Bd.named Bd.method).1
  have X0 : Stand p l e ({ frames := 1, cells := 1, slots := 4, locals := 14 } : Room) s m #[] below meth c s₁ [] 0 0 := Stand.of_body Bd
  have e0 : s₁.heap = h0 := by rw [← hh, Bd.state]; rfl
  have N0 := Fr.nil n0
  have pre0 : ∀ t, Steps p.tables e below (s₁.setTop (mkF m 0 #[] [])) t → Steps p.tables e below (s₁.setTop (entryFrame m #[] 0)) t := fun t st => castTop (ef_own_values m u0 u1 u2 u3 u4) st
  obtain ⟨T1, X1, e1, st1⟩ := getS2 X0 hx hZ hown (host := "") (Or.inl (ww hw 23 rfl)) Via.refl e0 ((own_S_u3 G).ext O0.2) (g := (mkF m 0 #[] [])) rfl (hb hby d4_0)
  obtain ⟨clv, Arv, Slv, Fcv⟩ := own_VA_u3 G
  obtain ⟨T2, h2, X2, e2, E2, A2, Ax2, st2⟩ := cloneA X1 hx hZ hown (ww hw 25 rfl) (ww hw 26 rfl) (ww hw 30 rfl) (ww hw 28 rfl) (ww hw 29 rfl) (ww hw 31 rfl) e1 (Arv.ext O0.2) ((own_X_u3 G).ext O0.2) Fcv (g := (mkF m 3 #[] [xr u3])) rfl (by rw [hml]; rfl) rfl (hb hby d4_3) (by decide) (W := 0) (cap := 4) (by show 2 * 0 + _ ≤ _; exact Nat.le_of_eq rfl) (by decide) (Nat.le_of_eq Slv) (by decide) (by decide)
  obtain ⟨b2, g2⟩ : ∃ z, z = h0.size := ⟨_, rfl⟩
  rw [← g2] at A2 Ax2 st2
  have g_b2 : n0 ≤ b2 := own_fresh O0 g2
  have O2 : Old Z n0 h2 := O0.ext E2
  obtain ⟨T3, X3, e3, st3⟩ := castY X2 hx hZ hown (ww hw 34 rfl) e2 (Ins.self Ax2) (g := (mkF m 6 #[] [xr b2])) rfl rfl (hb hby d4_6)
  obtain ⟨fs, hr, hrun, hended, hW, hsame⟩ := X3.leave (v := some (xr b2)) (fun h => by rw [Bd.returns] at h; cases h)
  refine ⟨_, _, pre0 _ ?_, hrun, hended, _, _, rfl, ?_, ⟨_, rfl⟩, hW, hsame.mono (by decide) (by decide)⟩
  · show own_S p e below s₁ (mkF m 0 #[] []) _
    refine st1 _ ?_
    show own_S p e below T1 (mkF m 3 #[] [xr u3]) _
    refine st2 _ ?_
    show own_S p e below T2 (mkF m 6 #[] [xr b2]) _
    refine st3 _ ?_
    show own_S p e below T3 (mkF m 9 #[] [xr b2]) _
    exact X3.areturnOut hx rfl Bd.returns rfl (hb hby d4_9) hr
  · show (own_QV Z h0 n0) _ T3.heap _
    rw [e3]
    exact ⟨_, _, rfl, N0, E2, A2, Slv⟩
theorem d2_0 : decode prog_16_method_1_code 0 = .ok (.aload_n 0, 1) := by decide +kernel
theorem d2_1 : decode prog_16_method_1_code 1 = .ok (.invokespecial 1, 3) := by decide +kernel
theorem d2_4 : decode prog_16_method_1_code 4 = .ok (.aload_n 0, 1) := by decide +kernel
theorem d2_5 : decode prog_16_method_1_code 5 = .ok (.invokestatic 7, 3) := by decide +kernel
theorem pd0 : parseMethodDescriptor "()[Lcom/example/feedwright/feedwright/Verdict;" = some ⟨[], some (.array (.object "com/example/feedwright/feedwright/Verdict"))⟩ := by decide +kernel
theorem d2_8 : decode prog_16_method_1_code 8 = .ok (.arraylength, 1) := by decide +kernel
theorem d2_9 : decode prog_16_method_1_code 9 = .ok (.newarray .long, 2) := by decide +kernel
theorem d2_11 : decode prog_16_method_1_code 11 = .ok (.putfield 13, 3) := by decide +kernel
theorem d2_14 : decode prog_16_method_1_code 14 = .ok (.return_, 1) := by decide +kernel
abbrev Y1 : MethodName := (⟨"com/example/feedwright/feedwright/LoadSummary", "<init>", "()V"⟩ : MethodName)
theorem pn1 : plainName "com/example/feedwright/feedwright/LoadSummary" = true := by first | (simp [plainName, overriddenIn]; done) | decide +kernel
theorem ef_own_init (m : MethodId) (u0 u1 u2 u3 u4 : Addr) (a : Addr) : entryFrame m #[xr a] 1 = (mkF m 0 #[vr a] []) := by first | (simp [entryFrame, mkF, argsToLocals, Value.category]; done) | rfl
set_option maxRecDepth 65536 in
set_option maxHeartbeats 40000000 in
theorem own_init (l : Launch) (Z : State) (a0 : Array Value) (hw : ∀ d ∈ tables_1, d.before a0 Z = true) (u0 u1 u2 u3 u4 : Addr) (G : own_St Z u0 u1 u2 u3 u4) (a : Addr) (h0 : Heap) (n0 : Nat) (O0 : Old Z n0 h0) (EA : Exa Z h0 a "com/example/feedwright/feedwright/LoadSummary") (FA : Fld Z h0 a "com/example/feedwright/feedwright/LoadSummary" "counts" "[J" .null) (g_a : n0 ≤ a) : own_Met l Z Y1 prog_16_method_1_code 1 none ({ frames := 2, cells := 2, slots := 8, locals := 26 } : Room) #[xr a] h0 (own_QI Z h0 n0 a) := by
  intro ws
  refine MetFree.of_bodySF (plainFor_of_name pn1) hisR ?_
  intro p e s m args below meth c s₁ Bd hml0 hP hK
  obtain ⟨rfl, hZ, hh⟩ := hP
  have hx := Bd.exec
  have hby := Bd.bytes
  have hml : c.maxLocals = 1 := hml0
  have hown : s.vm.findClass "com/example/feedwright/feedwright/LoadSummary" = some m.cls := findClass_of_methodNamed Bd.named
  have hnm := (name_of_methodNamed Bd.named Bd.method).1
  have X0 : Stand p l e ({ frames := 2, cells := 2, slots := 8, locals := 26 } : Room) s m #[xr a] below meth c s₁ [] 0 0 := Stand.of_body Bd
  have e0 : s₁.heap = h0 := by rw [← hh, Bd.state]; rfl
  have N0 := Fr.nil n0
  have pre0 : ∀ t, Steps p.tables e below (s₁.setTop (mkF m 0 #[vr a] [])) t → Steps p.tables e below (s₁.setTop (entryFrame m #[xr a] 1)) t := fun t st => castTop (ef_own_init m u0 u1 u2 u3 u4 a) st
  obtain ⟨T1, X1, e1, st1⟩ := initO X0 hx hZ hown (ww hw 17 rfl) (ww hw 18 rfl) (ww hw 19 rfl) e0 (g := (mkF m 1 #[vr a] [xr a])) rfl (by rw [hml]; rfl) rfl (hb hby d2_1) (by decide) (W := 0) (by show 2 * 0 + _ ≤ _; exact Nat.le_of_eq rfl) (by decide)
  obtain ⟨_, _, ⟨T2, L2, k2, n2⟩, -, X2, ⟨Lc2, hQ2, l2, y2, z2⟩, st2⟩ := Jvm.LawKit.callS X1 hx (y := Y0) hown (mvT hZ (ww hw 20 rfl)) (mvT hZ (ww hw 21 rfl)) (mvT hZ (ww hw 5 rfl)) (mvT hZ (ww hw 22 rfl)) (by decide) (backOf (W := 1) (own_values l Z a0 hw u0 u1 u2 u3 u4 G h0 n0 O0 []) hZ (ww hw 22 rfl) (ww hw 5 rfl) (by decide) (by decide)) (g := (mkF m 5 #[vr a] [xr a])) rfl (by rw [hml]; rfl) (argsL := []) (rest := [xr a]) (lenOf pd0 rfl) rfl (by show 2 * 0 + _ ≤ _; exact Nat.le_of_eq rfl) (hb hby d2_5) (fun _ _ => ⟨rfl, e1, (by decide : 0 + 1 ≤ _), (by decide : 0 + 4 ≤ _)⟩)
  dsimp only [Pt.U, Pt.locs, Pt.cells, Pt.slots] at X2 l2 y2 z2 st2 hQ2
  subst l2 y2 z2
  obtain ⟨h2, e2⟩ : ∃ z, T2.heap = z := ⟨_, rfl⟩
  rw [e2] at hQ2
  obtain ⟨bq2, cc2, rfl, Nq2, E2, Aq2, Sq2⟩ := hQ2
  have N2 := Fr.app N0 Nq2
  have O2 : Old Z n0 h2 := O0.ext E2
  have Kp2 : Keep h0 h2 [a] := (Keep.refl h0 [a]).ext E2
  have X_a_2 := EA.ext E2
  have F_a_counts_2 := FA.ext E2
  obtain ⟨T4, h4, k4, X4, e4, E4, A4, st4⟩ := newP X2 hx hZ (ww hw 36 rfl) e2 (g := (mkF m 9 #[vr a] [xi (4 : Int32), xr a])) rfl (hb hby d2_9) rfl (by decide) (cap := 4) (by decide) (by decide) (by decide) (by decide)
  obtain ⟨b4, g4⟩ : ∃ z, z = h2.size := ⟨_, rfl⟩
  rw [← g4] at A4 st4
  have g_b4 : n0 ≤ b4 := own_fresh O2 g4
  have ne_a_b4 : a ≠ b4 := Nat.ne_of_lt (Nat.lt_of_lt_of_le (X_a_2).lt (Nat.le_of_eq g4.symm))
  have sz_b4 : h0.size ≤ b4 := Nat.le_trans Kp2.1 (Nat.le_of_eq g4.symm)
  have O4 : Old Z n0 h4 := O2.ext E4
  have Kp4 : Keep h0 h4 [a] := Kp2.ext E4
  have X_a_4 := X_a_2.ext E4
  have F_a_counts_4 := F_a_counts_2.ext E4
  have V_b4 : Arv Z h4 b4 k4 .long (4 : Int32) [(.long (0 : Int64)), (.long (0 : Int64)), (.long (0 : Int64)), (.long (0 : Int64))] (.long (0 : Int64)) := (Arv.new A4 (by decide)).pad (pad_rep [] (.long (0 : Int64)) 4)
  obtain ⟨T5, h5, X5, e5, W5, st5⟩ := putF X4 hx hZ hown (host := "") (Or.inl (ww hw 37 rfl)) Via.refl e4 F_a_counts_4 X_a_4 (Or.inr ⟨(ww hw 38 rfl), rfl, hnm⟩) (ww hw 12 rfl) (ty := (.array .long)) (by decide) (by first | rfl | decide) (by first | rfl | decide) (g := (mkF m 11 #[vr a] [xr b4, xr a])) rfl rfl (hb hby d2_11)
  have O5 : Old Z n0 h5 := O4.wr W5 g_a
  have Kp5 : Keep h0 h5 [a] := Kp4.wr W5 (Or.inl (by simp))
  have V_b4_5 := V_b4.other W5 (Ne.symm ne_a_b4)
  have X_a_5 := X_a_4.wr W5
  have F_a_counts_5 := F_a_counts_4.same W5
  have N5 := Fr.snoc X5 N2 g_a
  obtain ⟨fs, hr, hrun, hended, hW, hsame⟩ := X5.leave (v := none) (fun _ => rfl)
  refine ⟨_, _, pre0 _ ?_, hrun, hended, _, _, rfl, ?_, ⟨_, rfl⟩, hW, hsame.mono (by decide) (by decide)⟩
  · show own_S p e below s₁ (mkF m 0 #[vr a] []) _
    refine XS.aloadN X0.here hx rfl (hb hby d2_0) rfl rfl ?_
    show own_S p e below s₁ (mkF m 1 #[vr a] [xr a]) _
    refine st1 _ ?_
    show own_S p e below T1 (mkF m 4 #[vr a] []) _
    refine XS.aloadN X1.here hx rfl (hb hby d2_4) rfl rfl ?_
    show own_S p e below T1 (mkF m 5 #[vr a] [xr a]) _
    refine st2 _ ?_
    show own_S p e below T2 (mkF m 8 #[vr a] [xr bq2, xr a]) _
    refine X2.arraylength hx (by rw [e2]; exact Aq2.1) (State.isArrayOf_alike hZ.alike Aq2.2.1) (g := (mkF m 8 #[vr a] [xr bq2, xr a])) rfl rfl (hb hby d2_8) _ ?_
    refine castTop (show (mkF m 9 #[vr a] [xi cc2.slots.size.toInt32, xr a]) = (mkF m 9 #[vr a] [xi (4 : Int32), xr a]) from by rw [Sq2]; rfl) ?_
    show own_S p e below T2 (mkF m 9 #[vr a] [xi (4 : Int32), xr a]) _
    refine st4 _ ?_
    show own_S p e below T4 (mkF m 11 #[vr a] [xr b4, xr a]) _
    refine st5 _ ?_
    show own_S p e below T5 (mkF m 14 #[vr a] []) _
    exact X5.returnOut hx Bd.returns (hb hby d2_14) hr
  · show (own_QI Z h0 n0 a) _ T5.heap _
    rw [e5]
    exact ⟨rfl, N5, Kp5, b4, k4, X_a_5, F_a_counts_5, V_b4_5, ne_a_b4, g_a, g_b4⟩
theorem d5_0 : decode prog_16_method_2_code 0 = .ok (.aload_n 0, 1) := by decide +kernel
theorem d5_1 : decode prog_16_method_2_code 1 = .ok (.getfield 13, 3) := by decide +kernel
theorem d5_4 : decode prog_16_method_2_code 4 = .ok (.aload_n 1, 1) := by decide +kernel
theorem d5_5 : decode prog_16_method_2_code 5 = .ok (.invokevirtual 19, 3) := by decide +kernel
theorem d6_0 : decode jdk_37_method_2_code 0 = .ok (.aload_n 0, 1) := by decide +kernel
theorem d6_1 : decode jdk_37_method_2_code 1 = .ok (.getfield 7, 3) := by decide +kernel
theorem d6_4 : decode jdk_37_method_2_code 4 = .ok (.ireturn, 1) := by decide +kernel
abbrev Y2 : MethodName := (⟨"java/lang/Enum", "ordinal", "()I"⟩ : MethodName)
theorem pn2 : plainName "java/lang/Enum" = true := by first | (simp [plainName, overriddenIn]; done) | decide +kernel
theorem ef_own_c0_ordinal (m : MethodId) (u0 u1 u2 u3 u4 : Addr) : entryFrame m #[xr u0] 1 = (mkF m 0 #[vr u0] []) := by first | (simp [entryFrame, mkF, argsToLocals, Value.category]; done) | rfl
set_option maxRecDepth 65536 in
set_option maxHeartbeats 40000000 in
theorem own_c0_ordinal (l : Launch) (Z : State) (a0 : Array Value) (hw : ∀ d ∈ tables_1, d.before a0 Z = true) (u0 u1 u2 u3 u4 : Addr) (G : own_St Z u0 u1 u2 u3 u4) (h0 : Heap) (n0 : Nat) (O0 : Old Z n0 h0) : own_Met l Z Y2 jdk_37_method_2_code 1 (some .int) ({ frames := 0, cells := 0, slots := 0, locals := 0 } : Room) #[xr u0] h0 (own_QR (some (xi (0 : Int32))) h0 n0) := by
  intro ws
  refine MetFree.of_bodySF (plainFor_of_name pn2) hisR ?_
  intro p e s m args below meth c s₁ Bd hml0 hP hK
  obtain ⟨rfl, hZ, hh⟩ := hP
  have hx := Bd.exec
  have hby := Bd.bytes
  have hml : c.maxLocals = 1 := hml0
  have hown : s.vm.findClass "java/lang/Enum" = some m.cls := findClass_of_methodNamed Bd.named
  have hnm := (name_of_methodNamed Bd.named Bd.method).1
  have X0 : Stand p l e ({ frames := 0, cells := 0, slots := 0, locals := 0 } : Room) s m #[xr u0] below meth c s₁ [] 0 0 := Stand.of_body Bd
  have e0 : s₁.heap = h0 := by rw [← hh, Bd.state]; rfl
  have N0 := Fr.nil n0
  have pre0 : ∀ t, Steps p.tables e below (s₁.setTop (mkF m 0 #[vr u0] [])) t → Steps p.tables e below (s₁.setTop (entryFrame m #[xr u0] 1)) t := fun t st => castTop (ef_own_c0_ordinal m u0 u1 u2 u3 u4) st
  obtain ⟨T1, X1, e1, st1⟩ := getF X0 hx hZ hown (host := "") (Or.inl (ww hw 51 rfl)) Via.refl e0 ((own_F_u0_ordinal G).ext O0.2) (g := (mkF m 1 #[vr u0] [xr u0])) rfl rfl (hb hby d6_1)
  obtain ⟨fs, hr, hrun, hended, hW, hsame⟩ := X1.leave (v := some (xi (0 : Int32))) (fun h => by rw [Bd.returns] at h; cases h)
  refine ⟨_, _, pre0 _ ?_, hrun, hended, _, _, rfl, ?_, ⟨_, rfl⟩, hW, hsame.mono (by decide) (by decide)⟩
  · show own_S p e below s₁ (mkF m 0 #[vr u0] []) _
    refine XS.aloadN X0.here hx rfl (hb hby d6_0) rfl rfl ?_
    show own_S p e below s₁ (mkF m 1 #[vr u0] [xr u0]) _
    refine st1 _ ?_
    show own_S p e below T1 (mkF m 4 #[vr u0] [xi (0 : Int32)]) _
    exact retI X1 hx Bd.returns (hb hby d6_4) hr
  · exact ⟨rfl, N0, e1⟩
theorem pd1 : parseMethodDescriptor "()I" = some ⟨[], some .int⟩ := by decide +kernel
abbrev Y3 : MethodName := (⟨"com/example/feedwright/feedwright/Verdict", "ordinal", "()I"⟩ : MethodName)
theorem d5_8 : decode prog_16_method_2_code 8 = .ok (.dup2, 1) := by decide +kernel
theorem d5_9 : decode prog_16_method_2_code 9 = .ok (.laload, 1) := by decide +kernel
theorem d5_10 : decode prog_16_method_2_code 10 = .ok (.lconst 1, 1) := by decide +kernel
theorem d5_11 : decode prog_16_method_2_code 11 = .ok (.ladd, 1) := by decide +kernel
theorem d5_12 : decode prog_16_method_2_code 12 = .ok (.lastore, 1) := by decide +kernel
theorem d5_13 : decode prog_16_method_2_code 13 = .ok (.return_, 1) := by decide +kernel
abbrev Y4 : MethodName := (⟨"com/example/feedwright/feedwright/LoadSummary", "add", "(Lcom/example/feedwright/feedwright/Verdict;)V"⟩ : MethodName)
theorem ef_own_add0 (m : MethodId) (u0 u1 u2 u3 u4 : Addr) (a : Addr) (b : Addr) (k : ClassId) (c0 : Int64) (c1 : Int64) (c2 : Int64) (c3 : Int64) : entryFrame m #[xr a, xr u0] 2 = (mkF m 0 #[vr a, vr u0] []) := by first | (simp [entryFrame, mkF, argsToLocals, Value.category]; done) | rfl
set_option maxRecDepth 65536 in
set_option maxHeartbeats 40000000 in
theorem own_add0 (l : Launch) (Z : State) (a0 : Array Value) (hw : ∀ d ∈ tables_1, d.before a0 Z = true) (u0 u1 u2 u3 u4 : Addr) (G : own_St Z u0 u1 u2 u3 u4) (a : Addr) (b : Addr) (k : ClassId) (c0 : Int64) (c1 : Int64) (c2 : Int64) (c3 : Int64) (h0 : Heap) (n0 : Nat) (O0 : Old Z n0 h0) (gL : own_LS Z h0 n0 a b k c0 c1 c2 c3) : own_Met l Z Y4 prog_16_method_2_code 2 none ({ frames := 1, cells := 0, slots := 0, locals := 13 } : Room) #[xr a, xr u0] h0 (own_QA Z h0 n0 a b k (c0 + (1 : Int64)) c1 c2 c3) := by
  intro ws
  refine MetFree.of_bodySF (plainFor_of_name pn1) hisR ?_
  intro p e s m args below meth c s₁ Bd hml0 hP hK
  obtain ⟨rfl, hZ, hh⟩ := hP
  have hx := Bd.exec
  have hby := Bd.bytes
  have hml : c.maxLocals = 2 := hml0
  have hown : s.vm.findClass "com/example/feedwright/feedwright/LoadSummary" = some m.cls := findClass_of_methodNamed Bd.named
  have hnm := (name_of_methodNamed Bd.named Bd.method).1
  have X0 : Stand p l e ({ frames := 1, cells := 0, slots := 0, locals := 13 } : Room) s m #[xr a, xr u0] below meth c s₁ [] 0 0 := Stand.of_body Bd
  have e0 : s₁.heap = h0 := by rw [← hh, Bd.state]; rfl
  have N0 := Fr.nil n0
  have pre0 : ∀ t, Steps p.tables e below (s₁.setTop (mkF m 0 #[vr a, vr u0] [])) t → Steps p.tables e below (s₁.setTop (entryFrame m #[xr a, xr u0] 2)) t := fun t st => castTop (ef_own_add0 m u0 u1 u2 u3 u4 a b k c0 c1 c2 c3) st
  obtain ⟨EA, FA, VA, ne_a_b, g_a, g_b⟩ := gL
  obtain ⟨T1, X1, e1, st1⟩ := getF X0 hx hZ hown (host := "") (Or.inl (ww hw 37 rfl)) Via.refl e0 FA (g := (mkF m 1 #[vr a, vr u0] [xr a])) rfl rfl (hb hby d5_1)
  obtain ⟨cq2, kq2, qa2, qb2, qc2⟩ := isOf hZ e1 ((own_X_u0 G).ext O0.2)
  obtain ⟨_, _, ⟨T2, L2, k2, n2⟩, -, X2, ⟨Lc2, hQ2, l2, y2, z2⟩, st2⟩ := X1.virtualBackUp hx (x := Y3) (y := Y2) hown (mvT hZ (ww hw 44 rfl)) (mvT hZ (ww hw 45 rfl)) (mvT hZ (ww hw 46 rfl)) (by decide) (mvT hZ (ww hw 48 rfl)) (mvT hZ (ww hw 47 rfl)) (backOf (W := 1) (own_c0_ordinal l Z a0 hw u0 u1 u2 u3 u4 G h0 n0 O0 []) hZ (ww hw 50 rfl) (ww hw 49 rfl) (by decide) (by decide)) qa2 qc2 (g := (mkF m 5 #[vr a, vr u0] [xr u0, xr b])) rfl (by rw [hml]; rfl) (Steps.refl _) (argsL := []) (rest := [xr b]) (lenOf pd1 rfl) rfl (by show 2 * 0 + _ ≤ _; exact Nat.le_of_eq rfl) (hb hby d5_5) (fun _ _ => ⟨rfl, e1, (by decide : 0 + 0 ≤ _), (by decide : 0 + 0 ≤ _)⟩)
  dsimp only [Pt.U, Pt.locs, Pt.cells, Pt.slots] at X2 l2 y2 z2 st2 hQ2
  subst l2 y2 z2
  obtain ⟨rfl, Nq2, e2⟩ := hQ2
  have N2 := Fr.app N0 Nq2
  obtain ⟨cl3, Ar3, q3, S3, N3_, H3, G3⟩ := id VA
  have hin3 : ¬ ((0 : Int32) < 0 ∨ cl3.slots.size ≤ ((0 : Int32)).toNatClampNeg) := inb_of S3 ⟨by decide, by decide⟩
  have hat3 : cl3.slots[((0 : Int32)).toNatClampNeg]? = some (xj c0) := Has.at H3 hin3 rfl
  obtain ⟨cl4, Ar4, q4, S4, N4_, H4, G4⟩ := id VA
  have hin4 : ¬ ((0 : Int32) < 0 ∨ cl4.slots.size ≤ ((0 : Int32)).toNatClampNeg) := inb_of S4 ⟨by decide, by decide⟩
  obtain ⟨T5, h5, X5, e5, W5, st5⟩ := stJ X2 hx hZ e2 Ar4 (j := (0 : Int32)) hin4 (g := (mkF m 12 #[vr a, vr u0] [xj (c0 + (1 : Int64)), xi (0 : Int32), xr b])) rfl rfl (hb hby d5_12)
  have V_b_5 : Arv Z h5 b k .long (4 : Int32) [xj (c0 + (1 : Int64)), xj c1, xj c2, xj c3] (.long (0 : Int64)) := Arv.set Ar4 q4 S4 N4_ H4 G4 rfl W5 0 rfl (Nat.le_of_ble_eq_true rfl)
  have O5 : Old Z n0 h5 := O0.wr W5 g_b
  have Kp5 : Keep h0 h5 [b] := (Keep.refl h0 [b]).wr W5 (Or.inl (by simp))
  have X_a_5 := EA.wr W5
  have F_a_counts_5 := FA.other W5 (Or.inl ne_a_b)
  have N5 := Fr.snoc X5 N2 g_b
  obtain ⟨fs, hr, hrun, hended, hW, hsame⟩ := X5.leave (v := none) (fun _ => rfl)
  refine ⟨_, _, pre0 _ ?_, hrun, hended, _, _, rfl, ?_, ⟨_, rfl⟩, hW, hsame.mono (by decide) (by decide)⟩
  · show own_S p e below s₁ (mkF m 0 #[vr a, vr u0] []) _
    refine XS.aloadN X0.here hx rfl (hb hby d5_0) rfl rfl ?_
    show own_S p e below s₁ (mkF m 1 #[vr a, vr u0] [xr a]) _
    refine st1 _ ?_
    show own_S p e below T1 (mkF m 4 #[vr a, vr u0] [xr b]) _
    refine XS.aloadN X1.here hx rfl (hb hby d5_4) rfl rfl ?_
    show own_S p e below T1 (mkF m 5 #[vr a, vr u0] [xr u0, xr b]) _
    refine st2.trans ?_
    show own_S p e below T2 (mkF m 8 #[vr a, vr u0] [xi (0 : Int32), xr b]) _
    refine Jvm.Free.XT.dup2 X2.here hx rfl (hb hby d5_8) rfl rfl rfl ?_
    show own_S p e below T2 (mkF m 9 #[vr a, vr u0] [xi (0 : Int32), xr b, xi (0 : Int32), xr b]) _
    refine X2.laload hx (j := (0 : Int32)) (v := (xj c0)) (by rw [e2]; exact Ar3.1) (State.isArrayOf_alike hZ.alike Ar3.2.1) Ar3.2.2 hin3 hat3 (g := (mkF m 9 #[vr a, vr u0] [xi (0 : Int32), xr b, xi (0 : Int32), xr b])) rfl rfl (hb hby d5_9) _ ?_
    show own_S p e below T2 (mkF m 10 #[vr a, vr u0] [xj c0, xi (0 : Int32), xr b]) _
    refine XS.lconst X2.here hx rfl (hb hby d5_10) ?_
    show own_S p e below T2 (mkF m 11 #[vr a, vr u0] [xj (1 : Int64), xj c0, xi (0 : Int32), xr b]) _
    refine XS.ladd X2.here hx rfl (hb hby d5_11) rfl ?_
    show own_S p e below T2 (mkF m 12 #[vr a, vr u0] [xj (c0 + (1 : Int64)), xi (0 : Int32), xr b]) _
    show own_S p e below T2 (mkF m 12 #[vr a, vr u0] [xj (c0 + (1 : Int64)), xi (0 : Int32), xr b]) _
    refine st5 _ ?_
    show own_S p e below T5 (mkF m 13 #[vr a, vr u0] []) _
    exact X5.returnOut hx Bd.returns (hb hby d5_13) hr
  · show (own_QA Z h0 n0 a b k (c0 + (1 : Int64)) c1 c2 c3) _ T5.heap _
    rw [e5]
    exact ⟨rfl, N5, Kp5, ⟨X_a_5, F_a_counts_5, V_b_5, ne_a_b, g_a, g_b⟩⟩
theorem ef_own_c1_ordinal (m : MethodId) (u0 u1 u2 u3 u4 : Addr) : entryFrame m #[xr u1] 1 = (mkF m 0 #[vr u1] []) := by first | (simp [entryFrame, mkF, argsToLocals, Value.category]; done) | rfl
set_option maxRecDepth 65536 in
set_option maxHeartbeats 40000000 in
theorem own_c1_ordinal (l : Launch) (Z : State) (a0 : Array Value) (hw : ∀ d ∈ tables_1, d.before a0 Z = true) (u0 u1 u2 u3 u4 : Addr) (G : own_St Z u0 u1 u2 u3 u4) (h0 : Heap) (n0 : Nat) (O0 : Old Z n0 h0) : own_Met l Z Y2 jdk_37_method_2_code 1 (some .int) ({ frames := 0, cells := 0, slots := 0, locals := 0 } : Room) #[xr u1] h0 (own_QR (some (xi (3 : Int32))) h0 n0) := by
  intro ws
  refine MetFree.of_bodySF (plainFor_of_name pn2) hisR ?_
  intro p e s m args below meth c s₁ Bd hml0 hP hK
  obtain ⟨rfl, hZ, hh⟩ := hP
  have hx := Bd.exec
  have hby := Bd.bytes
  have hml : c.maxLocals = 1 := hml0
  have hown : s.vm.findClass "java/lang/Enum" = some m.cls := findClass_of_methodNamed Bd.named
  have hnm := (name_of_methodNamed Bd.named Bd.method).1
  have X0 : Stand p l e ({ frames := 0, cells := 0, slots := 0, locals := 0 } : Room) s m #[xr u1] below meth c s₁ [] 0 0 := Stand.of_body Bd
  have e0 : s₁.heap = h0 := by rw [← hh, Bd.state]; rfl
  have N0 := Fr.nil n0
  have pre0 : ∀ t, Steps p.tables e below (s₁.setTop (mkF m 0 #[vr u1] [])) t → Steps p.tables e below (s₁.setTop (entryFrame m #[xr u1] 1)) t := fun t st => castTop (ef_own_c1_ordinal m u0 u1 u2 u3 u4) st
  obtain ⟨T1, X1, e1, st1⟩ := getF X0 hx hZ hown (host := "") (Or.inl (ww hw 51 rfl)) Via.refl e0 ((own_F_u1_ordinal G).ext O0.2) (g := (mkF m 1 #[vr u1] [xr u1])) rfl rfl (hb hby d6_1)
  obtain ⟨fs, hr, hrun, hended, hW, hsame⟩ := X1.leave (v := some (xi (3 : Int32))) (fun h => by rw [Bd.returns] at h; cases h)
  refine ⟨_, _, pre0 _ ?_, hrun, hended, _, _, rfl, ?_, ⟨_, rfl⟩, hW, hsame.mono (by decide) (by decide)⟩
  · show own_S p e below s₁ (mkF m 0 #[vr u1] []) _
    refine XS.aloadN X0.here hx rfl (hb hby d6_0) rfl rfl ?_
    show own_S p e below s₁ (mkF m 1 #[vr u1] [xr u1]) _
    refine st1 _ ?_
    show own_S p e below T1 (mkF m 4 #[vr u1] [xi (3 : Int32)]) _
    exact retI X1 hx Bd.returns (hb hby d6_4) hr
  · exact ⟨rfl, N0, e1⟩
theorem ef_own_add3 (m : MethodId) (u0 u1 u2 u3 u4 : Addr) (a : Addr) (b : Addr) (k : ClassId) (c0 : Int64) (c1 : Int64) (c2 : Int64) (c3 : Int64) : entryFrame m #[xr a, xr u1] 2 = (mkF m 0 #[vr a, vr u1] []) := by first | (simp [entryFrame, mkF, argsToLocals, Value.category]; done) | rfl
set_option maxRecDepth 65536 in
set_option maxHeartbeats 40000000 in
theorem own_add3 (l : Launch) (Z : State) (a0 : Array Value) (hw : ∀ d ∈ tables_1, d.before a0 Z = true) (u0 u1 u2 u3 u4 : Addr) (G : own_St Z u0 u1 u2 u3 u4) (a : Addr) (b : Addr) (k : ClassId) (c0 : Int64) (c1 : Int64) (c2 : Int64) (c3 : Int64) (h0 : Heap) (n0 : Nat) (O0 : Old Z n0 h0) (gL : own_LS Z h0 n0 a b k c0 c1 c2 c3) : own_Met l Z Y4 prog_16_method_2_code 2 none ({ frames := 1, cells := 0, slots := 0, locals := 13 } : Room) #[xr a, xr u1] h0 (own_QA Z h0 n0 a b k c0 c1 c2 (c3 + (1 : Int64))) := by
  intro ws
  refine MetFree.of_bodySF (plainFor_of_name pn1) hisR ?_
  intro p e s m args below meth c s₁ Bd hml0 hP hK
  obtain ⟨rfl, hZ, hh⟩ := hP
  have hx := Bd.exec
  have hby := Bd.bytes
  have hml : c.maxLocals = 2 := hml0
  have hown : s.vm.findClass "com/example/feedwright/feedwright/LoadSummary" = some m.cls := findClass_of_methodNamed Bd.named
  have hnm := (name_of_methodNamed Bd.named Bd.method).1
  have X0 : Stand p l e ({ frames := 1, cells := 0, slots := 0, locals := 13 } : Room) s m #[xr a, xr u1] below meth c s₁ [] 0 0 := Stand.of_body Bd
  have e0 : s₁.heap = h0 := by rw [← hh, Bd.state]; rfl
  have N0 := Fr.nil n0
  have pre0 : ∀ t, Steps p.tables e below (s₁.setTop (mkF m 0 #[vr a, vr u1] [])) t → Steps p.tables e below (s₁.setTop (entryFrame m #[xr a, xr u1] 2)) t := fun t st => castTop (ef_own_add3 m u0 u1 u2 u3 u4 a b k c0 c1 c2 c3) st
  obtain ⟨EA, FA, VA, ne_a_b, g_a, g_b⟩ := gL
  obtain ⟨T1, X1, e1, st1⟩ := getF X0 hx hZ hown (host := "") (Or.inl (ww hw 37 rfl)) Via.refl e0 FA (g := (mkF m 1 #[vr a, vr u1] [xr a])) rfl rfl (hb hby d5_1)
  obtain ⟨cq2, kq2, qa2, qb2, qc2⟩ := isOf hZ e1 ((own_X_u1 G).ext O0.2)
  obtain ⟨_, _, ⟨T2, L2, k2, n2⟩, -, X2, ⟨Lc2, hQ2, l2, y2, z2⟩, st2⟩ := X1.virtualBackUp hx (x := Y3) (y := Y2) hown (mvT hZ (ww hw 44 rfl)) (mvT hZ (ww hw 45 rfl)) (mvT hZ (ww hw 46 rfl)) (by decide) (mvT hZ (ww hw 48 rfl)) (mvT hZ (ww hw 47 rfl)) (backOf (W := 1) (own_c1_ordinal l Z a0 hw u0 u1 u2 u3 u4 G h0 n0 O0 []) hZ (ww hw 50 rfl) (ww hw 49 rfl) (by decide) (by decide)) qa2 qc2 (g := (mkF m 5 #[vr a, vr u1] [xr u1, xr b])) rfl (by rw [hml]; rfl) (Steps.refl _) (argsL := []) (rest := [xr b]) (lenOf pd1 rfl) rfl (by show 2 * 0 + _ ≤ _; exact Nat.le_of_eq rfl) (hb hby d5_5) (fun _ _ => ⟨rfl, e1, (by decide : 0 + 0 ≤ _), (by decide : 0 + 0 ≤ _)⟩)
  dsimp only [Pt.U, Pt.locs, Pt.cells, Pt.slots] at X2 l2 y2 z2 st2 hQ2
  subst l2 y2 z2
  obtain ⟨rfl, Nq2, e2⟩ := hQ2
  have N2 := Fr.app N0 Nq2
  obtain ⟨cl3, Ar3, q3, S3, N3_, H3, G3⟩ := id VA
  have hin3 : ¬ ((3 : Int32) < 0 ∨ cl3.slots.size ≤ ((3 : Int32)).toNatClampNeg) := inb_of S3 ⟨by decide, by decide⟩
  have hat3 : cl3.slots[((3 : Int32)).toNatClampNeg]? = some (xj c3) := Has.at H3 hin3 rfl
  obtain ⟨cl4, Ar4, q4, S4, N4_, H4, G4⟩ := id VA
  have hin4 : ¬ ((3 : Int32) < 0 ∨ cl4.slots.size ≤ ((3 : Int32)).toNatClampNeg) := inb_of S4 ⟨by decide, by decide⟩
  obtain ⟨T5, h5, X5, e5, W5, st5⟩ := stJ X2 hx hZ e2 Ar4 (j := (3 : Int32)) hin4 (g := (mkF m 12 #[vr a, vr u1] [xj (c3 + (1 : Int64)), xi (3 : Int32), xr b])) rfl rfl (hb hby d5_12)
  have V_b_5 : Arv Z h5 b k .long (4 : Int32) [xj c0, xj c1, xj c2, xj (c3 + (1 : Int64))] (.long (0 : Int64)) := Arv.set Ar4 q4 S4 N4_ H4 G4 rfl W5 3 rfl (Nat.le_of_ble_eq_true rfl)
  have O5 : Old Z n0 h5 := O0.wr W5 g_b
  have Kp5 : Keep h0 h5 [b] := (Keep.refl h0 [b]).wr W5 (Or.inl (by simp))
  have X_a_5 := EA.wr W5
  have F_a_counts_5 := FA.other W5 (Or.inl ne_a_b)
  have N5 := Fr.snoc X5 N2 g_b
  obtain ⟨fs, hr, hrun, hended, hW, hsame⟩ := X5.leave (v := none) (fun _ => rfl)
  refine ⟨_, _, pre0 _ ?_, hrun, hended, _, _, rfl, ?_, ⟨_, rfl⟩, hW, hsame.mono (by decide) (by decide)⟩
  · show own_S p e below s₁ (mkF m 0 #[vr a, vr u1] []) _
    refine XS.aloadN X0.here hx rfl (hb hby d5_0) rfl rfl ?_
    show own_S p e below s₁ (mkF m 1 #[vr a, vr u1] [xr a]) _
    refine st1 _ ?_
    show own_S p e below T1 (mkF m 4 #[vr a, vr u1] [xr b]) _
    refine XS.aloadN X1.here hx rfl (hb hby d5_4) rfl rfl ?_
    show own_S p e below T1 (mkF m 5 #[vr a, vr u1] [xr u1, xr b]) _
    refine st2.trans ?_
    show own_S p e below T2 (mkF m 8 #[vr a, vr u1] [xi (3 : Int32), xr b]) _
    refine Jvm.Free.XT.dup2 X2.here hx rfl (hb hby d5_8) rfl rfl rfl ?_
    show own_S p e below T2 (mkF m 9 #[vr a, vr u1] [xi (3 : Int32), xr b, xi (3 : Int32), xr b]) _
    refine X2.laload hx (j := (3 : Int32)) (v := (xj c3)) (by rw [e2]; exact Ar3.1) (State.isArrayOf_alike hZ.alike Ar3.2.1) Ar3.2.2 hin3 hat3 (g := (mkF m 9 #[vr a, vr u1] [xi (3 : Int32), xr b, xi (3 : Int32), xr b])) rfl rfl (hb hby d5_9) _ ?_
    show own_S p e below T2 (mkF m 10 #[vr a, vr u1] [xj c3, xi (3 : Int32), xr b]) _
    refine XS.lconst X2.here hx rfl (hb hby d5_10) ?_
    show own_S p e below T2 (mkF m 11 #[vr a, vr u1] [xj (1 : Int64), xj c3, xi (3 : Int32), xr b]) _
    refine XS.ladd X2.here hx rfl (hb hby d5_11) rfl ?_
    show own_S p e below T2 (mkF m 12 #[vr a, vr u1] [xj (c3 + (1 : Int64)), xi (3 : Int32), xr b]) _
    show own_S p e below T2 (mkF m 12 #[vr a, vr u1] [xj (c3 + (1 : Int64)), xi (3 : Int32), xr b]) _
    refine st5 _ ?_
    show own_S p e below T5 (mkF m 13 #[vr a, vr u1] []) _
    exact X5.returnOut hx Bd.returns (hb hby d5_13) hr
  · show (own_QA Z h0 n0 a b k c0 c1 c2 (c3 + (1 : Int64))) _ T5.heap _
    rw [e5]
    exact ⟨rfl, N5, Kp5, ⟨X_a_5, F_a_counts_5, V_b_5, ne_a_b, g_a, g_b⟩⟩
theorem ef_own_c2_ordinal (m : MethodId) (u0 u1 u2 u3 u4 : Addr) : entryFrame m #[xr u2] 1 = (mkF m 0 #[vr u2] []) := by first | (simp [entryFrame, mkF, argsToLocals, Value.category]; done) | rfl
set_option maxRecDepth 65536 in
set_option maxHeartbeats 40000000 in
theorem own_c2_ordinal (l : Launch) (Z : State) (a0 : Array Value) (hw : ∀ d ∈ tables_1, d.before a0 Z = true) (u0 u1 u2 u3 u4 : Addr) (G : own_St Z u0 u1 u2 u3 u4) (h0 : Heap) (n0 : Nat) (O0 : Old Z n0 h0) : own_Met l Z Y2 jdk_37_method_2_code 1 (some .int) ({ frames := 0, cells := 0, slots := 0, locals := 0 } : Room) #[xr u2] h0 (own_QR (some (xi (2 : Int32))) h0 n0) := by
  intro ws
  refine MetFree.of_bodySF (plainFor_of_name pn2) hisR ?_
  intro p e s m args below meth c s₁ Bd hml0 hP hK
  obtain ⟨rfl, hZ, hh⟩ := hP
  have hx := Bd.exec
  have hby := Bd.bytes
  have hml : c.maxLocals = 1 := hml0
  have hown : s.vm.findClass "java/lang/Enum" = some m.cls := findClass_of_methodNamed Bd.named
  have hnm := (name_of_methodNamed Bd.named Bd.method).1
  have X0 : Stand p l e ({ frames := 0, cells := 0, slots := 0, locals := 0 } : Room) s m #[xr u2] below meth c s₁ [] 0 0 := Stand.of_body Bd
  have e0 : s₁.heap = h0 := by rw [← hh, Bd.state]; rfl
  have N0 := Fr.nil n0
  have pre0 : ∀ t, Steps p.tables e below (s₁.setTop (mkF m 0 #[vr u2] [])) t → Steps p.tables e below (s₁.setTop (entryFrame m #[xr u2] 1)) t := fun t st => castTop (ef_own_c2_ordinal m u0 u1 u2 u3 u4) st
  obtain ⟨T1, X1, e1, st1⟩ := getF X0 hx hZ hown (host := "") (Or.inl (ww hw 51 rfl)) Via.refl e0 ((own_F_u2_ordinal G).ext O0.2) (g := (mkF m 1 #[vr u2] [xr u2])) rfl rfl (hb hby d6_1)
  obtain ⟨fs, hr, hrun, hended, hW, hsame⟩ := X1.leave (v := some (xi (2 : Int32))) (fun h => by rw [Bd.returns] at h; cases h)
  refine ⟨_, _, pre0 _ ?_, hrun, hended, _, _, rfl, ?_, ⟨_, rfl⟩, hW, hsame.mono (by decide) (by decide)⟩
  · show own_S p e below s₁ (mkF m 0 #[vr u2] []) _
    refine XS.aloadN X0.here hx rfl (hb hby d6_0) rfl rfl ?_
    show own_S p e below s₁ (mkF m 1 #[vr u2] [xr u2]) _
    refine st1 _ ?_
    show own_S p e below T1 (mkF m 4 #[vr u2] [xi (2 : Int32)]) _
    exact retI X1 hx Bd.returns (hb hby d6_4) hr
  · exact ⟨rfl, N0, e1⟩
theorem ef_own_add2 (m : MethodId) (u0 u1 u2 u3 u4 : Addr) (a : Addr) (b : Addr) (k : ClassId) (c0 : Int64) (c1 : Int64) (c2 : Int64) (c3 : Int64) : entryFrame m #[xr a, xr u2] 2 = (mkF m 0 #[vr a, vr u2] []) := by first | (simp [entryFrame, mkF, argsToLocals, Value.category]; done) | rfl
set_option maxRecDepth 65536 in
set_option maxHeartbeats 40000000 in
theorem own_add2 (l : Launch) (Z : State) (a0 : Array Value) (hw : ∀ d ∈ tables_1, d.before a0 Z = true) (u0 u1 u2 u3 u4 : Addr) (G : own_St Z u0 u1 u2 u3 u4) (a : Addr) (b : Addr) (k : ClassId) (c0 : Int64) (c1 : Int64) (c2 : Int64) (c3 : Int64) (h0 : Heap) (n0 : Nat) (O0 : Old Z n0 h0) (gL : own_LS Z h0 n0 a b k c0 c1 c2 c3) : own_Met l Z Y4 prog_16_method_2_code 2 none ({ frames := 1, cells := 0, slots := 0, locals := 13 } : Room) #[xr a, xr u2] h0 (own_QA Z h0 n0 a b k c0 c1 (c2 + (1 : Int64)) c3) := by
  intro ws
  refine MetFree.of_bodySF (plainFor_of_name pn1) hisR ?_
  intro p e s m args below meth c s₁ Bd hml0 hP hK
  obtain ⟨rfl, hZ, hh⟩ := hP
  have hx := Bd.exec
  have hby := Bd.bytes
  have hml : c.maxLocals = 2 := hml0
  have hown : s.vm.findClass "com/example/feedwright/feedwright/LoadSummary" = some m.cls := findClass_of_methodNamed Bd.named
  have hnm := (name_of_methodNamed Bd.named Bd.method).1
  have X0 : Stand p l e ({ frames := 1, cells := 0, slots := 0, locals := 13 } : Room) s m #[xr a, xr u2] below meth c s₁ [] 0 0 := Stand.of_body Bd
  have e0 : s₁.heap = h0 := by rw [← hh, Bd.state]; rfl
  have N0 := Fr.nil n0
  have pre0 : ∀ t, Steps p.tables e below (s₁.setTop (mkF m 0 #[vr a, vr u2] [])) t → Steps p.tables e below (s₁.setTop (entryFrame m #[xr a, xr u2] 2)) t := fun t st => castTop (ef_own_add2 m u0 u1 u2 u3 u4 a b k c0 c1 c2 c3) st
  obtain ⟨EA, FA, VA, ne_a_b, g_a, g_b⟩ := gL
  obtain ⟨T1, X1, e1, st1⟩ := getF X0 hx hZ hown (host := "") (Or.inl (ww hw 37 rfl)) Via.refl e0 FA (g := (mkF m 1 #[vr a, vr u2] [xr a])) rfl rfl (hb hby d5_1)
  obtain ⟨cq2, kq2, qa2, qb2, qc2⟩ := isOf hZ e1 ((own_X_u2 G).ext O0.2)
  obtain ⟨_, _, ⟨T2, L2, k2, n2⟩, -, X2, ⟨Lc2, hQ2, l2, y2, z2⟩, st2⟩ := X1.virtualBackUp hx (x := Y3) (y := Y2) hown (mvT hZ (ww hw 44 rfl)) (mvT hZ (ww hw 45 rfl)) (mvT hZ (ww hw 46 rfl)) (by decide) (mvT hZ (ww hw 48 rfl)) (mvT hZ (ww hw 47 rfl)) (backOf (W := 1) (own_c2_ordinal l Z a0 hw u0 u1 u2 u3 u4 G h0 n0 O0 []) hZ (ww hw 50 rfl) (ww hw 49 rfl) (by decide) (by decide)) qa2 qc2 (g := (mkF m 5 #[vr a, vr u2] [xr u2, xr b])) rfl (by rw [hml]; rfl) (Steps.refl _) (argsL := []) (rest := [xr b]) (lenOf pd1 rfl) rfl (by show 2 * 0 + _ ≤ _; exact Nat.le_of_eq rfl) (hb hby d5_5) (fun _ _ => ⟨rfl, e1, (by decide : 0 + 0 ≤ _), (by decide : 0 + 0 ≤ _)⟩)
  dsimp only [Pt.U, Pt.locs, Pt.cells, Pt.slots] at X2 l2 y2 z2 st2 hQ2
  subst l2 y2 z2
  obtain ⟨rfl, Nq2, e2⟩ := hQ2
  have N2 := Fr.app N0 Nq2
  obtain ⟨cl3, Ar3, q3, S3, N3_, H3, G3⟩ := id VA
  have hin3 : ¬ ((2 : Int32) < 0 ∨ cl3.slots.size ≤ ((2 : Int32)).toNatClampNeg) := inb_of S3 ⟨by decide, by decide⟩
  have hat3 : cl3.slots[((2 : Int32)).toNatClampNeg]? = some (xj c2) := Has.at H3 hin3 rfl
  obtain ⟨cl4, Ar4, q4, S4, N4_, H4, G4⟩ := id VA
  have hin4 : ¬ ((2 : Int32) < 0 ∨ cl4.slots.size ≤ ((2 : Int32)).toNatClampNeg) := inb_of S4 ⟨by decide, by decide⟩
  obtain ⟨T5, h5, X5, e5, W5, st5⟩ := stJ X2 hx hZ e2 Ar4 (j := (2 : Int32)) hin4 (g := (mkF m 12 #[vr a, vr u2] [xj (c2 + (1 : Int64)), xi (2 : Int32), xr b])) rfl rfl (hb hby d5_12)
  have V_b_5 : Arv Z h5 b k .long (4 : Int32) [xj c0, xj c1, xj (c2 + (1 : Int64)), xj c3] (.long (0 : Int64)) := Arv.set Ar4 q4 S4 N4_ H4 G4 rfl W5 2 rfl (Nat.le_of_ble_eq_true rfl)
  have O5 : Old Z n0 h5 := O0.wr W5 g_b
  have Kp5 : Keep h0 h5 [b] := (Keep.refl h0 [b]).wr W5 (Or.inl (by simp))
  have X_a_5 := EA.wr W5
  have F_a_counts_5 := FA.other W5 (Or.inl ne_a_b)
  have N5 := Fr.snoc X5 N2 g_b
  obtain ⟨fs, hr, hrun, hended, hW, hsame⟩ := X5.leave (v := none) (fun _ => rfl)
  refine ⟨_, _, pre0 _ ?_, hrun, hended, _, _, rfl, ?_, ⟨_, rfl⟩, hW, hsame.mono (by decide) (by decide)⟩
  · show own_S p e below s₁ (mkF m 0 #[vr a, vr u2] []) _
    refine XS.aloadN X0.here hx rfl (hb hby d5_0) rfl rfl ?_
    show own_S p e below s₁ (mkF m 1 #[vr a, vr u2] [xr a]) _
    refine st1 _ ?_
    show own_S p e below T1 (mkF m 4 #[vr a, vr u2] [xr b]) _
    refine XS.aloadN X1.here hx rfl (hb hby d5_4) rfl rfl ?_
    show own_S p e below T1 (mkF m 5 #[vr a, vr u2] [xr u2, xr b]) _
    refine st2.trans ?_
    show own_S p e below T2 (mkF m 8 #[vr a, vr u2] [xi (2 : Int32), xr b]) _
    refine Jvm.Free.XT.dup2 X2.here hx rfl (hb hby d5_8) rfl rfl rfl ?_
    show own_S p e below T2 (mkF m 9 #[vr a, vr u2] [xi (2 : Int32), xr b, xi (2 : Int32), xr b]) _
    refine X2.laload hx (j := (2 : Int32)) (v := (xj c2)) (by rw [e2]; exact Ar3.1) (State.isArrayOf_alike hZ.alike Ar3.2.1) Ar3.2.2 hin3 hat3 (g := (mkF m 9 #[vr a, vr u2] [xi (2 : Int32), xr b, xi (2 : Int32), xr b])) rfl rfl (hb hby d5_9) _ ?_
    show own_S p e below T2 (mkF m 10 #[vr a, vr u2] [xj c2, xi (2 : Int32), xr b]) _
    refine XS.lconst X2.here hx rfl (hb hby d5_10) ?_
    show own_S p e below T2 (mkF m 11 #[vr a, vr u2] [xj (1 : Int64), xj c2, xi (2 : Int32), xr b]) _
    refine XS.ladd X2.here hx rfl (hb hby d5_11) rfl ?_
    show own_S p e below T2 (mkF m 12 #[vr a, vr u2] [xj (c2 + (1 : Int64)), xi (2 : Int32), xr b]) _
    show own_S p e below T2 (mkF m 12 #[vr a, vr u2] [xj (c2 + (1 : Int64)), xi (2 : Int32), xr b]) _
    refine st5 _ ?_
    show own_S p e below T5 (mkF m 13 #[vr a, vr u2] []) _
    exact X5.returnOut hx Bd.returns (hb hby d5_13) hr
  · show (own_QA Z h0 n0 a b k c0 c1 (c2 + (1 : Int64)) c3) _ T5.heap _
    rw [e5]
    exact ⟨rfl, N5, Kp5, ⟨X_a_5, F_a_counts_5, V_b_5, ne_a_b, g_a, g_b⟩⟩
theorem ef_own_c3_ordinal (m : MethodId) (u0 u1 u2 u3 u4 : Addr) : entryFrame m #[xr u4] 1 = (mkF m 0 #[vr u4] []) := by first | (simp [entryFrame, mkF, argsToLocals, Value.category]; done) | rfl
set_option maxRecDepth 65536 in
set_option maxHeartbeats 40000000 in
theorem own_c3_ordinal (l : Launch) (Z : State) (a0 : Array Value) (hw : ∀ d ∈ tables_1, d.before a0 Z = true) (u0 u1 u2 u3 u4 : Addr) (G : own_St Z u0 u1 u2 u3 u4) (h0 : Heap) (n0 : Nat) (O0 : Old Z n0 h0) : own_Met l Z Y2 jdk_37_method_2_code 1 (some .int) ({ frames := 0, cells := 0, slots := 0, locals := 0 } : Room) #[xr u4] h0 (own_QR (some (xi (1 : Int32))) h0 n0) := by
  intro ws
  refine MetFree.of_bodySF (plainFor_of_name pn2) hisR ?_
  intro p e s m args below meth c s₁ Bd hml0 hP hK
  obtain ⟨rfl, hZ, hh⟩ := hP
  have hx := Bd.exec
  have hby := Bd.bytes
  have hml : c.maxLocals = 1 := hml0
  have hown : s.vm.findClass "java/lang/Enum" = some m.cls := findClass_of_methodNamed Bd.named
  have hnm := (name_of_methodNamed Bd.named Bd.method).1
  have X0 : Stand p l e ({ frames := 0, cells := 0, slots := 0, locals := 0 } : Room) s m #[xr u4] below meth c s₁ [] 0 0 := Stand.of_body Bd
  have e0 : s₁.heap = h0 := by rw [← hh, Bd.state]; rfl
  have N0 := Fr.nil n0
  have pre0 : ∀ t, Steps p.tables e below (s₁.setTop (mkF m 0 #[vr u4] [])) t → Steps p.tables e below (s₁.setTop (entryFrame m #[xr u4] 1)) t := fun t st => castTop (ef_own_c3_ordinal m u0 u1 u2 u3 u4) st
  obtain ⟨T1, X1, e1, st1⟩ := getF X0 hx hZ hown (host := "") (Or.inl (ww hw 51 rfl)) Via.refl e0 ((own_F_u4_ordinal G).ext O0.2) (g := (mkF m 1 #[vr u4] [xr u4])) rfl rfl (hb hby d6_1)
  obtain ⟨fs, hr, hrun, hended, hW, hsame⟩ := X1.leave (v := some (xi (1 : Int32))) (fun h => by rw [Bd.returns] at h; cases h)
  refine ⟨_, _, pre0 _ ?_, hrun, hended, _, _, rfl, ?_, ⟨_, rfl⟩, hW, hsame.mono (by decide) (by decide)⟩
  · show own_S p e below s₁ (mkF m 0 #[vr u4] []) _
    refine XS.aloadN X0.here hx rfl (hb hby d6_0) rfl rfl ?_
    show own_S p e below s₁ (mkF m 1 #[vr u4] [xr u4]) _
    refine st1 _ ?_
    show own_S p e below T1 (mkF m 4 #[vr u4] [xi (1 : Int32)]) _
    exact retI X1 hx Bd.returns (hb hby d6_4) hr
  · exact ⟨rfl, N0, e1⟩
theorem ef_own_add1 (m : MethodId) (u0 u1 u2 u3 u4 : Addr) (a : Addr) (b : Addr) (k : ClassId) (c0 : Int64) (c1 : Int64) (c2 : Int64) (c3 : Int64) : entryFrame m #[xr a, xr u4] 2 = (mkF m 0 #[vr a, vr u4] []) := by first | (simp [entryFrame, mkF, argsToLocals, Value.category]; done) | rfl
set_option maxRecDepth 65536 in
set_option maxHeartbeats 40000000 in
theorem own_add1 (l : Launch) (Z : State) (a0 : Array Value) (hw : ∀ d ∈ tables_1, d.before a0 Z = true) (u0 u1 u2 u3 u4 : Addr) (G : own_St Z u0 u1 u2 u3 u4) (a : Addr) (b : Addr) (k : ClassId) (c0 : Int64) (c1 : Int64) (c2 : Int64) (c3 : Int64) (h0 : Heap) (n0 : Nat) (O0 : Old Z n0 h0) (gL : own_LS Z h0 n0 a b k c0 c1 c2 c3) : own_Met l Z Y4 prog_16_method_2_code 2 none ({ frames := 1, cells := 0, slots := 0, locals := 13 } : Room) #[xr a, xr u4] h0 (own_QA Z h0 n0 a b k c0 (c1 + (1 : Int64)) c2 c3) := by
  intro ws
  refine MetFree.of_bodySF (plainFor_of_name pn1) hisR ?_
  intro p e s m args below meth c s₁ Bd hml0 hP hK
  obtain ⟨rfl, hZ, hh⟩ := hP
  have hx := Bd.exec
  have hby := Bd.bytes
  have hml : c.maxLocals = 2 := hml0
  have hown : s.vm.findClass "com/example/feedwright/feedwright/LoadSummary" = some m.cls := findClass_of_methodNamed Bd.named
  have hnm := (name_of_methodNamed Bd.named Bd.method).1
  have X0 : Stand p l e ({ frames := 1, cells := 0, slots := 0, locals := 13 } : Room) s m #[xr a, xr u4] below meth c s₁ [] 0 0 := Stand.of_body Bd
  have e0 : s₁.heap = h0 := by rw [← hh, Bd.state]; rfl
  have N0 := Fr.nil n0
  have pre0 : ∀ t, Steps p.tables e below (s₁.setTop (mkF m 0 #[vr a, vr u4] [])) t → Steps p.tables e below (s₁.setTop (entryFrame m #[xr a, xr u4] 2)) t := fun t st => castTop (ef_own_add1 m u0 u1 u2 u3 u4 a b k c0 c1 c2 c3) st
  obtain ⟨EA, FA, VA, ne_a_b, g_a, g_b⟩ := gL
  obtain ⟨T1, X1, e1, st1⟩ := getF X0 hx hZ hown (host := "") (Or.inl (ww hw 37 rfl)) Via.refl e0 FA (g := (mkF m 1 #[vr a, vr u4] [xr a])) rfl rfl (hb hby d5_1)
  obtain ⟨cq2, kq2, qa2, qb2, qc2⟩ := isOf hZ e1 ((own_X_u4 G).ext O0.2)
  obtain ⟨_, _, ⟨T2, L2, k2, n2⟩, -, X2, ⟨Lc2, hQ2, l2, y2, z2⟩, st2⟩ := X1.virtualBackUp hx (x := Y3) (y := Y2) hown (mvT hZ (ww hw 44 rfl)) (mvT hZ (ww hw 45 rfl)) (mvT hZ (ww hw 46 rfl)) (by decide) (mvT hZ (ww hw 48 rfl)) (mvT hZ (ww hw 47 rfl)) (backOf (W := 1) (own_c3_ordinal l Z a0 hw u0 u1 u2 u3 u4 G h0 n0 O0 []) hZ (ww hw 50 rfl) (ww hw 49 rfl) (by decide) (by decide)) qa2 qc2 (g := (mkF m 5 #[vr a, vr u4] [xr u4, xr b])) rfl (by rw [hml]; rfl) (Steps.refl _) (argsL := []) (rest := [xr b]) (lenOf pd1 rfl) rfl (by show 2 * 0 + _ ≤ _; exact Nat.le_of_eq rfl) (hb hby d5_5) (fun _ _ => ⟨rfl, e1, (by decide : 0 + 0 ≤ _), (by decide : 0 + 0 ≤ _)⟩)
  dsimp only [Pt.U, Pt.locs, Pt.cells, Pt.slots] at X2 l2 y2 z2 st2 hQ2
  subst l2 y2 z2
  obtain ⟨rfl, Nq2, e2⟩ := hQ2
  have N2 := Fr.app N0 Nq2
  obtain ⟨cl3, Ar3, q3, S3, N3_, H3, G3⟩ := id VA
  have hin3 : ¬ ((1 : Int32) < 0 ∨ cl3.slots.size ≤ ((1 : Int32)).toNatClampNeg) := inb_of S3 ⟨by decide, by decide⟩
  have hat3 : cl3.slots[((1 : Int32)).toNatClampNeg]? = some (xj c1) := Has.at H3 hin3 rfl
  obtain ⟨cl4, Ar4, q4, S4, N4_, H4, G4⟩ := id VA
  have hin4 : ¬ ((1 : Int32) < 0 ∨ cl4.slots.size ≤ ((1 : Int32)).toNatClampNeg) := inb_of S4 ⟨by decide, by decide⟩
  obtain ⟨T5, h5, X5, e5, W5, st5⟩ := stJ X2 hx hZ e2 Ar4 (j := (1 : Int32)) hin4 (g := (mkF m 12 #[vr a, vr u4] [xj (c1 + (1 : Int64)), xi (1 : Int32), xr b])) rfl rfl (hb hby d5_12)
  have V_b_5 : Arv Z h5 b k .long (4 : Int32) [xj c0, xj (c1 + (1 : Int64)), xj c2, xj c3] (.long (0 : Int64)) := Arv.set Ar4 q4 S4 N4_ H4 G4 rfl W5 1 rfl (Nat.le_of_ble_eq_true rfl)
  have O5 : Old Z n0 h5 := O0.wr W5 g_b
  have Kp5 : Keep h0 h5 [b] := (Keep.refl h0 [b]).wr W5 (Or.inl (by simp))
  have X_a_5 := EA.wr W5
  have F_a_counts_5 := FA.other W5 (Or.inl ne_a_b)
  have N5 := Fr.snoc X5 N2 g_b
  obtain ⟨fs, hr, hrun, hended, hW, hsame⟩ := X5.leave (v := none) (fun _ => rfl)
  refine ⟨_, _, pre0 _ ?_, hrun, hended, _, _, rfl, ?_, ⟨_, rfl⟩, hW, hsame.mono (by decide) (by decide)⟩
  · show own_S p e below s₁ (mkF m 0 #[vr a, vr u4] []) _
    refine XS.aloadN X0.here hx rfl (hb hby d5_0) rfl rfl ?_
    show own_S p e below s₁ (mkF m 1 #[vr a, vr u4] [xr a]) _
    refine st1 _ ?_
    show own_S p e below T1 (mkF m 4 #[vr a, vr u4] [xr b]) _
    refine XS.aloadN X1.here hx rfl (hb hby d5_4) rfl rfl ?_
    show own_S p e below T1 (mkF m 5 #[vr a, vr u4] [xr u4, xr b]) _
    refine st2.trans ?_
    show own_S p e below T2 (mkF m 8 #[vr a, vr u4] [xi (1 : Int32), xr b]) _
    refine Jvm.Free.XT.dup2 X2.here hx rfl (hb hby d5_8) rfl rfl rfl ?_
    show own_S p e below T2 (mkF m 9 #[vr a, vr u4] [xi (1 : Int32), xr b, xi (1 : Int32), xr b]) _
    refine X2.laload hx (j := (1 : Int32)) (v := (xj c1)) (by rw [e2]; exact Ar3.1) (State.isArrayOf_alike hZ.alike Ar3.2.1) Ar3.2.2 hin3 hat3 (g := (mkF m 9 #[vr a, vr u4] [xi (1 : Int32), xr b, xi (1 : Int32), xr b])) rfl rfl (hb hby d5_9) _ ?_
    show own_S p e below T2 (mkF m 10 #[vr a, vr u4] [xj c1, xi (1 : Int32), xr b]) _
    refine XS.lconst X2.here hx rfl (hb hby d5_10) ?_
    show own_S p e below T2 (mkF m 11 #[vr a, vr u4] [xj (1 : Int64), xj c1, xi (1 : Int32), xr b]) _
    refine XS.ladd X2.here hx rfl (hb hby d5_11) rfl ?_
    show own_S p e below T2 (mkF m 12 #[vr a, vr u4] [xj (c1 + (1 : Int64)), xi (1 : Int32), xr b]) _
    show own_S p e below T2 (mkF m 12 #[vr a, vr u4] [xj (c1 + (1 : Int64)), xi (1 : Int32), xr b]) _
    refine st5 _ ?_
    show own_S p e below T5 (mkF m 13 #[vr a, vr u4] []) _
    exact X5.returnOut hx Bd.returns (hb hby d5_13) hr
  · show (own_QA Z h0 n0 a b k c0 (c1 + (1 : Int64)) c2 c3) _ T5.heap _
    rw [e5]
    exact ⟨rfl, N5, Kp5, ⟨X_a_5, F_a_counts_5, V_b_5, ne_a_b, g_a, g_b⟩⟩
theorem own_bit2 (x : Int32) : (x &&& (2 : Int32)) = (0 : Int32) ∨ (x &&& (2 : Int32)) = (2 : Int32) := by
  have h : x &&& (2 : Int32) = (x &&& (7 : Int32)) &&& (2 : Int32) := by rw [Int32.and_assoc]; rfl
  rw [h]
  rcases own_mask7 x with h | h | h | h | h | h | h | h <;> rw [h] <;> decide
theorem own_bit4 (x : Int32) : (x &&& (4 : Int32)) = (0 : Int32) ∨ (x &&& (4 : Int32)) = (4 : Int32) := by
  have h : x &&& (4 : Int32) = (x &&& (7 : Int32)) &&& (4 : Int32) := by rw [Int32.and_assoc]; rfl
  rw [h]
  rcases own_mask7 x with h | h | h | h | h | h | h | h <;> rw [h] <;> decide
def own_h (p k : Int32) : Int64 := if (p &&& (3 : Int32)) = k then 1 else 0
def own_is (u0 u1 u2 u3 u4 : Addr) (p : Int32) (va : Addr) : Prop := ((p &&& (3 : Int32)) = (0 : Int32) ∧ va = u0) ∨ ((p &&& (3 : Int32)) = (1 : Int32) ∧ va = u4) ∨ ((p &&& (3 : Int32)) = (2 : Int32) ∧ va = u2) ∨ ((p &&& (3 : Int32)) = (3 : Int32) ∧ va = u1)
theorem own_hsum (p : Int32) : own_h p 0 + own_h p 1 + own_h p 2 + own_h p 3 = 1 := by
  rcases own_mask3 p with h | h | h | h <;> simp only [own_h, h] <;> decide
theorem d1_0 : decode method_2_code 0 = .ok (.iload_n 0, 1) := by decide +kernel
theorem d1_1 : decode method_2_code 1 = .ok (.iconst 3, 1) := by decide +kernel
theorem d1_2 : decode method_2_code 2 = .ok (.iand, 1) := by decide +kernel
theorem d1_3 : decode method_2_code 3 = .ok (.istore_n 1, 1) := by decide +kernel
theorem d1_4 : decode method_2_code 4 = .ok (.iload_n 1, 1) := by decide +kernel
theorem d1_5 : decode method_2_code 5 = .ok (.ifCond .ne 7, 3) := by decide +kernel
theorem d1_8 : decode method_2_code 8 = .ok (.getstatic 7, 3) := by decide +kernel
theorem d1_11 : decode method_2_code 11 = .ok (.areturn, 1) := by decide +kernel
abbrev Y5 : MethodName := (⟨"com/example/feedwright/feedwright/LoadSummaryAddPinLaw", "pick", "(I)Lcom/example/feedwright/feedwright/Verdict;"⟩ : MethodName)
theorem pn3 : plainName "com/example/feedwright/feedwright/LoadSummaryAddPinLaw" = true := by first | (simp [plainName, overriddenIn]; done) | decide +kernel
theorem ef_own_pick0 (m : MethodId) (u0 u1 u2 u3 u4 : Addr) (pp : Int32) : entryFrame m #[xi pp] 2 = (mkF m 0 #[vi pp, vu] []) := by first | (simp [entryFrame, mkF, argsToLocals, Value.category]; done) | rfl
set_option maxRecDepth 65536 in
set_option maxHeartbeats 40000000 in
theorem own_pick0 (l : Launch) (Z : State) (a0 : Array Value) (hw : ∀ d ∈ tables_1, d.before a0 Z = true) (u0 u1 u2 u3 u4 : Addr) (G : own_St Z u0 u1 u2 u3 u4) (pp : Int32) (as0 : (pp &&& (3 : Int32)) = (0 : Int32)) (h0 : Heap) (n0 : Nat) (O0 : Old Z n0 h0) : own_Met l Z Y5 method_2_code 2 (some (.object "com/example/feedwright/feedwright/Verdict")) ({ frames := 0, cells := 0, slots := 0, locals := 0 } : Room) #[xi pp] h0 (own_QR (some (xr u0)) h0 n0) := by
  intro ws
  refine MetFree.of_bodySF (plainFor_of_name pn3) hisR ?_
  intro p e s m args below meth c s₁ Bd hml0 hP hK
  obtain ⟨rfl, hZ, hh⟩ := hP
  have hx := Bd.exec
  have hby := Bd.bytes
  have hml : c.maxLocals = 2 := hml0
  have hown : s.vm.findClass "com/example/feedwright/feedwright/LoadSummaryAddPinLaw" = some m.cls := findClass_of_methodNamed Bd.named
  have hnm := (name_of_methodNamed Bd.named Bd.method).1
  have X0 : Stand p l e ({ frames := 0, cells := 0, slots := 0, locals := 0 } : Room) s m #[xi pp] below meth c s₁ [] 0 0 := Stand.of_body Bd
  have e0 : s₁.heap = h0 := by rw [← hh, Bd.state]; rfl
  have N0 := Fr.nil n0
  have pre0 : ∀ t, Steps p.tables e below (s₁.setTop (mkF m 0 #[vi pp, vu] [])) t → Steps p.tables e below (s₁.setTop (entryFrame m #[xi pp] 2)) t := fun t st => castTop (ef_own_pick0 m u0 u1 u2 u3 u4 pp) st
  obtain ⟨T1, X1, e1, st1⟩ := getS2 X0 hx hZ hown (host := "") (Or.inl (ww hw 4 rfl)) Via.refl e0 ((own_S_u0 G).ext O0.2) (g := (mkF m 8 #[vi pp, vi (0 : Int32)] [])) rfl (hb hby d1_8)
  obtain ⟨fs, hr, hrun, hended, hW, hsame⟩ := X1.leave (v := some (xr u0)) (fun h => by rw [Bd.returns] at h; cases h)
  refine ⟨_, _, pre0 _ ?_, hrun, hended, _, _, rfl, ?_, ⟨_, rfl⟩, hW, hsame.mono (by decide) (by decide)⟩
  · show own_S p e below s₁ (mkF m 0 #[vi pp, vu] []) _
    refine XS.iloadN X0.here hx rfl (hb hby d1_0) rfl ?_
    show own_S p e below s₁ (mkF m 1 #[vi pp, vu] [xi pp]) _
    refine XS.iconst X0.here hx rfl (hb hby d1_1) ?_
    show own_S p e below s₁ (mkF m 2 #[vi pp, vu] [xi (3 : Int32), xi pp]) _
    refine XS.iand X0.here hx rfl (hb hby d1_2) rfl ?_
    show own_S p e below s₁ (mkF m 3 #[vi pp, vu] [xi (pp &&& (3 : Int32))]) _
    refine castTop (show (mkF m 3 #[vi pp, vu] [xi (pp &&& (3 : Int32))]) = (mkF m 3 #[vi pp, vu] [xi (0 : Int32)]) from by rw [as0]) ?_
    show own_S p e below s₁ (mkF m 3 #[vi pp, vu] [xi (0 : Int32)]) _
    refine XS.istoreN X0.here hx rfl (hb hby d1_3) rfl (l' := #[vi pp, vi (0 : Int32)]) rfl ?_
    show own_S p e below s₁ (mkF m 4 #[vi pp, vi (0 : Int32)] []) _
    refine XS.iloadN X0.here hx rfl (hb hby d1_4) rfl ?_
    show own_S p e below s₁ (mkF m 5 #[vi pp, vi (0 : Int32)] [xi (0 : Int32)]) _
    refine XS.ifNo X0.here hx rfl (hb hby d1_5) rfl (by decide) ?_
    show own_S p e below s₁ (mkF m 8 #[vi pp, vi (0 : Int32)] []) _
    refine st1 _ ?_
    show own_S p e below T1 (mkF m 11 #[vi pp, vi (0 : Int32)] [xr u0]) _
    exact X1.areturnOut hx rfl Bd.returns rfl (hb hby d1_11) hr
  · exact ⟨rfl, N0, e1⟩
theorem d1_12 : decode method_2_code 12 = .ok (.iload_n 1, 1) := by decide +kernel
theorem d1_13 : decode method_2_code 13 = .ok (.iconst 1, 1) := by decide +kernel
theorem d1_14 : decode method_2_code 14 = .ok (.if_icmp .ne 7, 3) := by decide +kernel
theorem d1_17 : decode method_2_code 17 = .ok (.getstatic 13, 3) := by decide +kernel
theorem d1_20 : decode method_2_code 20 = .ok (.areturn, 1) := by decide +kernel
theorem ef_own_pick1 (m : MethodId) (u0 u1 u2 u3 u4 : Addr) (pp : Int32) : entryFrame m #[xi pp] 2 = (mkF m 0 #[vi pp, vu] []) := by first | (simp [entryFrame, mkF, argsToLocals, Value.category]; done) | rfl
set_option maxRecDepth 65536 in
set_option maxHeartbeats 40000000 in
theorem own_pick1 (l : Launch) (Z : State) (a0 : Array Value) (hw : ∀ d ∈ tables_1, d.before a0 Z = true) (u0 u1 u2 u3 u4 : Addr) (G : own_St Z u0 u1 u2 u3 u4) (pp : Int32) (as1 : (pp &&& (3 : Int32)) = (1 : Int32)) (h0 : Heap) (n0 : Nat) (O0 : Old Z n0 h0) : own_Met l Z Y5 method_2_code 2 (some (.object "com/example/feedwright/feedwright/Verdict")) ({ frames := 0, cells := 0, slots := 0, locals := 0 } : Room) #[xi pp] h0 (own_QR (some (xr u4)) h0 n0) := by
  intro ws
  refine MetFree.of_bodySF (plainFor_of_name pn3) hisR ?_
  intro p e s m args below meth c s₁ Bd hml0 hP hK
  obtain ⟨rfl, hZ, hh⟩ := hP
  have hx := Bd.exec
  have hby := Bd.bytes
  have hml : c.maxLocals = 2 := hml0
  have hown : s.vm.findClass "com/example/feedwright/feedwright/LoadSummaryAddPinLaw" = some m.cls := findClass_of_methodNamed Bd.named
  have hnm := (name_of_methodNamed Bd.named Bd.method).1
  have X0 : Stand p l e ({ frames := 0, cells := 0, slots := 0, locals := 0 } : Room) s m #[xi pp] below meth c s₁ [] 0 0 := Stand.of_body Bd
  have e0 : s₁.heap = h0 := by rw [← hh, Bd.state]; rfl
  have N0 := Fr.nil n0
  have pre0 : ∀ t, Steps p.tables e below (s₁.setTop (mkF m 0 #[vi pp, vu] [])) t → Steps p.tables e below (s₁.setTop (entryFrame m #[xi pp] 2)) t := fun t st => castTop (ef_own_pick1 m u0 u1 u2 u3 u4 pp) st
  obtain ⟨T1, X1, e1, st1⟩ := getS2 X0 hx hZ hown (host := "") (Or.inl (ww hw 64 rfl)) Via.refl e0 ((own_S_u4 G).ext O0.2) (g := (mkF m 17 #[vi pp, vi (1 : Int32)] [])) rfl (hb hby d1_17)
  obtain ⟨fs, hr, hrun, hended, hW, hsame⟩ := X1.leave (v := some (xr u4)) (fun h => by rw [Bd.returns] at h; cases h)
  refine ⟨_, _, pre0 _ ?_, hrun, hended, _, _, rfl, ?_, ⟨_, rfl⟩, hW, hsame.mono (by decide) (by decide)⟩
  · show own_S p e below s₁ (mkF m 0 #[vi pp, vu] []) _
    refine XS.iloadN X0.here hx rfl (hb hby d1_0) rfl ?_
    show own_S p e below s₁ (mkF m 1 #[vi pp, vu] [xi pp]) _
    refine XS.iconst X0.here hx rfl (hb hby d1_1) ?_
    show own_S p e below s₁ (mkF m 2 #[vi pp, vu] [xi (3 : Int32), xi pp]) _
    refine XS.iand X0.here hx rfl (hb hby d1_2) rfl ?_
    show own_S p e below s₁ (mkF m 3 #[vi pp, vu] [xi (pp &&& (3 : Int32))]) _
    refine castTop (show (mkF m 3 #[vi pp, vu] [xi (pp &&& (3 : Int32))]) = (mkF m 3 #[vi pp, vu] [xi (1 : Int32)]) from by rw [as1]) ?_
    show own_S p e below s₁ (mkF m 3 #[vi pp, vu] [xi (1 : Int32)]) _
    refine XS.istoreN X0.here hx rfl (hb hby d1_3) rfl (l' := #[vi pp, vi (1 : Int32)]) rfl ?_
    show own_S p e below s₁ (mkF m 4 #[vi pp, vi (1 : Int32)] []) _
    refine XS.iloadN X0.here hx rfl (hb hby d1_4) rfl ?_
    show own_S p e below s₁ (mkF m 5 #[vi pp, vi (1 : Int32)] [xi (1 : Int32)]) _
    refine XS.ifYes X0.here hx rfl (pc0 := 5) (pc' := 12) rfl (hb hby d1_5) rfl (by decide) (by decide) (by decide) ?_
    show own_S p e below s₁ (mkF m 12 #[vi pp, vi (1 : Int32)] []) _
    refine XS.iloadN X0.here hx rfl (hb hby d1_12) rfl ?_
    show own_S p e below s₁ (mkF m 13 #[vi pp, vi (1 : Int32)] [xi (1 : Int32)]) _
    refine XS.iconst X0.here hx rfl (hb hby d1_13) ?_
    show own_S p e below s₁ (mkF m 14 #[vi pp, vi (1 : Int32)] [xi (1 : Int32), xi (1 : Int32)]) _
    refine XS.icmpNo X0.here hx rfl (hb hby d1_14) rfl (by decide) ?_
    show own_S p e below s₁ (mkF m 17 #[vi pp, vi (1 : Int32)] []) _
    refine st1 _ ?_
    show own_S p e below T1 (mkF m 20 #[vi pp, vi (1 : Int32)] [xr u4]) _
    exact X1.areturnOut hx rfl Bd.returns rfl (hb hby d1_20) hr
  · exact ⟨rfl, N0, e1⟩
theorem d1_21 : decode method_2_code 21 = .ok (.iload_n 1, 1) := by decide +kernel
theorem d1_22 : decode method_2_code 22 = .ok (.iconst 2, 1) := by decide +kernel
theorem d1_23 : decode method_2_code 23 = .ok (.if_icmp .ne 7, 3) := by decide +kernel
theorem d1_26 : decode method_2_code 26 = .ok (.getstatic 16, 3) := by decide +kernel
theorem d1_29 : decode method_2_code 29 = .ok (.areturn, 1) := by decide +kernel
theorem ef_own_pick2 (m : MethodId) (u0 u1 u2 u3 u4 : Addr) (pp : Int32) : entryFrame m #[xi pp] 2 = (mkF m 0 #[vi pp, vu] []) := by first | (simp [entryFrame, mkF, argsToLocals, Value.category]; done) | rfl
set_option maxRecDepth 65536 in
set_option maxHeartbeats 40000000 in
theorem own_pick2 (l : Launch) (Z : State) (a0 : Array Value) (hw : ∀ d ∈ tables_1, d.before a0 Z = true) (u0 u1 u2 u3 u4 : Addr) (G : own_St Z u0 u1 u2 u3 u4) (pp : Int32) (as2 : (pp &&& (3 : Int32)) = (2 : Int32)) (h0 : Heap) (n0 : Nat) (O0 : Old Z n0 h0) : own_Met l Z Y5 method_2_code 2 (some (.object "com/example/feedwright/feedwright/Verdict")) ({ frames := 0, cells := 0, slots := 0, locals := 0 } : Room) #[xi pp] h0 (own_QR (some (xr u2)) h0 n0) := by
  intro ws
  refine MetFree.of_bodySF (plainFor_of_name pn3) hisR ?_
  intro p e s m args below meth c s₁ Bd hml0 hP hK
  obtain ⟨rfl, hZ, hh⟩ := hP
  have hx := Bd.exec
  have hby := Bd.bytes
  have hml : c.maxLocals = 2 := hml0
  have hown : s.vm.findClass "com/example/feedwright/feedwright/LoadSummaryAddPinLaw" = some m.cls := findClass_of_methodNamed Bd.named
  have hnm := (name_of_methodNamed Bd.named Bd.method).1
  have X0 : Stand p l e ({ frames := 0, cells := 0, slots := 0, locals := 0 } : Room) s m #[xi pp] below meth c s₁ [] 0 0 := Stand.of_body Bd
  have e0 : s₁.heap = h0 := by rw [← hh, Bd.state]; rfl
  have N0 := Fr.nil n0
  have pre0 : ∀ t, Steps p.tables e below (s₁.setTop (mkF m 0 #[vi pp, vu] [])) t → Steps p.tables e below (s₁.setTop (entryFrame m #[xi pp] 2)) t := fun t st => castTop (ef_own_pick2 m u0 u1 u2 u3 u4 pp) st
  obtain ⟨T1, X1, e1, st1⟩ := getS2 X0 hx hZ hown (host := "") (Or.inl (ww hw 9 rfl)) Via.refl e0 ((own_S_u2 G).ext O0.2) (g := (mkF m 26 #[vi pp, vi (2 : Int32)] [])) rfl (hb hby d1_26)
  obtain ⟨fs, hr, hrun, hended, hW, hsame⟩ := X1.leave (v := some (xr u2)) (fun h => by rw [Bd.returns] at h; cases h)
  refine ⟨_, _, pre0 _ ?_, hrun, hended, _, _, rfl, ?_, ⟨_, rfl⟩, hW, hsame.mono (by decide) (by decide)⟩
  · show own_S p e below s₁ (mkF m 0 #[vi pp, vu] []) _
    refine XS.iloadN X0.here hx rfl (hb hby d1_0) rfl ?_
    show own_S p e below s₁ (mkF m 1 #[vi pp, vu] [xi pp]) _
    refine XS.iconst X0.here hx rfl (hb hby d1_1) ?_
    show own_S p e below s₁ (mkF m 2 #[vi pp, vu] [xi (3 : Int32), xi pp]) _
    refine XS.iand X0.here hx rfl (hb hby d1_2) rfl ?_
    show own_S p e below s₁ (mkF m 3 #[vi pp, vu] [xi (pp &&& (3 : Int32))]) _
    refine castTop (show (mkF m 3 #[vi pp, vu] [xi (pp &&& (3 : Int32))]) = (mkF m 3 #[vi pp, vu] [xi (2 : Int32)]) from by rw [as2]) ?_
    show own_S p e below s₁ (mkF m 3 #[vi pp, vu] [xi (2 : Int32)]) _
    refine XS.istoreN X0.here hx rfl (hb hby d1_3) rfl (l' := #[vi pp, vi (2 : Int32)]) rfl ?_
    show own_S p e below s₁ (mkF m 4 #[vi pp, vi (2 : Int32)] []) _
    refine XS.iloadN X0.here hx rfl (hb hby d1_4) rfl ?_
    show own_S p e below s₁ (mkF m 5 #[vi pp, vi (2 : Int32)] [xi (2 : Int32)]) _
    refine XS.ifYes X0.here hx rfl (pc0 := 5) (pc' := 12) rfl (hb hby d1_5) rfl (by decide) (by decide) (by decide) ?_
    show own_S p e below s₁ (mkF m 12 #[vi pp, vi (2 : Int32)] []) _
    refine XS.iloadN X0.here hx rfl (hb hby d1_12) rfl ?_
    show own_S p e below s₁ (mkF m 13 #[vi pp, vi (2 : Int32)] [xi (2 : Int32)]) _
    refine XS.iconst X0.here hx rfl (hb hby d1_13) ?_
    show own_S p e below s₁ (mkF m 14 #[vi pp, vi (2 : Int32)] [xi (1 : Int32), xi (2 : Int32)]) _
    refine XS.icmpYes X0.here hx rfl (pc0 := 14) (pc' := 21) rfl (hb hby d1_14) rfl (by decide) (by decide) (by decide) ?_
    show own_S p e below s₁ (mkF m 21 #[vi pp, vi (2 : Int32)] []) _
    refine XS.iloadN X0.here hx rfl (hb hby d1_21) rfl ?_
    show own_S p e below s₁ (mkF m 22 #[vi pp, vi (2 : Int32)] [xi (2 : Int32)]) _
    refine XS.iconst X0.here hx rfl (hb hby d1_22) ?_
    show own_S p e below s₁ (mkF m 23 #[vi pp, vi (2 : Int32)] [xi (2 : Int32), xi (2 : Int32)]) _
    refine XS.icmpNo X0.here hx rfl (hb hby d1_23) rfl (by decide) ?_
    show own_S p e below s₁ (mkF m 26 #[vi pp, vi (2 : Int32)] []) _
    refine st1 _ ?_
    show own_S p e below T1 (mkF m 29 #[vi pp, vi (2 : Int32)] [xr u2]) _
    exact X1.areturnOut hx rfl Bd.returns rfl (hb hby d1_29) hr
  · exact ⟨rfl, N0, e1⟩
theorem d1_30 : decode method_2_code 30 = .ok (.getstatic 19, 3) := by decide +kernel
theorem d1_33 : decode method_2_code 33 = .ok (.areturn, 1) := by decide +kernel
theorem ef_own_pick3 (m : MethodId) (u0 u1 u2 u3 u4 : Addr) (pp : Int32) : entryFrame m #[xi pp] 2 = (mkF m 0 #[vi pp, vu] []) := by first | (simp [entryFrame, mkF, argsToLocals, Value.category]; done) | rfl
set_option maxRecDepth 65536 in
set_option maxHeartbeats 40000000 in
theorem own_pick3 (l : Launch) (Z : State) (a0 : Array Value) (hw : ∀ d ∈ tables_1, d.before a0 Z = true) (u0 u1 u2 u3 u4 : Addr) (G : own_St Z u0 u1 u2 u3 u4) (pp : Int32) (as3 : (pp &&& (3 : Int32)) = (3 : Int32)) (h0 : Heap) (n0 : Nat) (O0 : Old Z n0 h0) : own_Met l Z Y5 method_2_code 2 (some (.object "com/example/feedwright/feedwright/Verdict")) ({ frames := 0, cells := 0, slots := 0, locals := 0 } : Room) #[xi pp] h0 (own_QR (some (xr u1)) h0 n0) := by
  intro ws
  refine MetFree.of_bodySF (plainFor_of_name pn3) hisR ?_
  intro p e s m args below meth c s₁ Bd hml0 hP hK
  obtain ⟨rfl, hZ, hh⟩ := hP
  have hx := Bd.exec
  have hby := Bd.bytes
  have hml : c.maxLocals = 2 := hml0
  have hown : s.vm.findClass "com/example/feedwright/feedwright/LoadSummaryAddPinLaw" = some m.cls := findClass_of_methodNamed Bd.named
  have hnm := (name_of_methodNamed Bd.named Bd.method).1
  have X0 : Stand p l e ({ frames := 0, cells := 0, slots := 0, locals := 0 } : Room) s m #[xi pp] below meth c s₁ [] 0 0 := Stand.of_body Bd
  have e0 : s₁.heap = h0 := by rw [← hh, Bd.state]; rfl
  have N0 := Fr.nil n0
  have pre0 : ∀ t, Steps p.tables e below (s₁.setTop (mkF m 0 #[vi pp, vu] [])) t → Steps p.tables e below (s₁.setTop (entryFrame m #[xi pp] 2)) t := fun t st => castTop (ef_own_pick3 m u0 u1 u2 u3 u4 pp) st
  obtain ⟨T1, X1, e1, st1⟩ := getS2 X0 hx hZ hown (host := "") (Or.inl (ww hw 7 rfl)) Via.refl e0 ((own_S_u1 G).ext O0.2) (g := (mkF m 30 #[vi pp, vi (3 : Int32)] [])) rfl (hb hby d1_30)
  obtain ⟨fs, hr, hrun, hended, hW, hsame⟩ := X1.leave (v := some (xr u1)) (fun h => by rw [Bd.returns] at h; cases h)
  refine ⟨_, _, pre0 _ ?_, hrun, hended, _, _, rfl, ?_, ⟨_, rfl⟩, hW, hsame.mono (by decide) (by decide)⟩
  · show own_S p e below s₁ (mkF m 0 #[vi pp, vu] []) _
    refine XS.iloadN X0.here hx rfl (hb hby d1_0) rfl ?_
    show own_S p e below s₁ (mkF m 1 #[vi pp, vu] [xi pp]) _
    refine XS.iconst X0.here hx rfl (hb hby d1_1) ?_
    show own_S p e below s₁ (mkF m 2 #[vi pp, vu] [xi (3 : Int32), xi pp]) _
    refine XS.iand X0.here hx rfl (hb hby d1_2) rfl ?_
    show own_S p e below s₁ (mkF m 3 #[vi pp, vu] [xi (pp &&& (3 : Int32))]) _
    refine castTop (show (mkF m 3 #[vi pp, vu] [xi (pp &&& (3 : Int32))]) = (mkF m 3 #[vi pp, vu] [xi (3 : Int32)]) from by rw [as3]) ?_
    show own_S p e below s₁ (mkF m 3 #[vi pp, vu] [xi (3 : Int32)]) _
    refine XS.istoreN X0.here hx rfl (hb hby d1_3) rfl (l' := #[vi pp, vi (3 : Int32)]) rfl ?_
    show own_S p e below s₁ (mkF m 4 #[vi pp, vi (3 : Int32)] []) _
    refine XS.iloadN X0.here hx rfl (hb hby d1_4) rfl ?_
    show own_S p e below s₁ (mkF m 5 #[vi pp, vi (3 : Int32)] [xi (3 : Int32)]) _
    refine XS.ifYes X0.here hx rfl (pc0 := 5) (pc' := 12) rfl (hb hby d1_5) rfl (by decide) (by decide) (by decide) ?_
    show own_S p e below s₁ (mkF m 12 #[vi pp, vi (3 : Int32)] []) _
    refine XS.iloadN X0.here hx rfl (hb hby d1_12) rfl ?_
    show own_S p e below s₁ (mkF m 13 #[vi pp, vi (3 : Int32)] [xi (3 : Int32)]) _
    refine XS.iconst X0.here hx rfl (hb hby d1_13) ?_
    show own_S p e below s₁ (mkF m 14 #[vi pp, vi (3 : Int32)] [xi (1 : Int32), xi (3 : Int32)]) _
    refine XS.icmpYes X0.here hx rfl (pc0 := 14) (pc' := 21) rfl (hb hby d1_14) rfl (by decide) (by decide) (by decide) ?_
    show own_S p e below s₁ (mkF m 21 #[vi pp, vi (3 : Int32)] []) _
    refine XS.iloadN X0.here hx rfl (hb hby d1_21) rfl ?_
    show own_S p e below s₁ (mkF m 22 #[vi pp, vi (3 : Int32)] [xi (3 : Int32)]) _
    refine XS.iconst X0.here hx rfl (hb hby d1_22) ?_
    show own_S p e below s₁ (mkF m 23 #[vi pp, vi (3 : Int32)] [xi (2 : Int32), xi (3 : Int32)]) _
    refine XS.icmpYes X0.here hx rfl (pc0 := 23) (pc' := 30) rfl (hb hby d1_23) rfl (by decide) (by decide) (by decide) ?_
    show own_S p e below s₁ (mkF m 30 #[vi pp, vi (3 : Int32)] []) _
    refine st1 _ ?_
    show own_S p e below T1 (mkF m 33 #[vi pp, vi (3 : Int32)] [xr u1]) _
    exact X1.areturnOut hx rfl Bd.returns rfl (hb hby d1_33) hr
  · exact ⟨rfl, N0, e1⟩
theorem own_pick (l : Launch) (Z : State) (a0 : Array Value) (hw : ∀ d ∈ tables_1, d.before a0 Z = true) (u0 u1 u2 u3 u4 : Addr) (G : own_St Z u0 u1 u2 u3 u4) (p : Int32) (va : Addr) (hv : own_is u0 u1 u2 u3 u4 p va) (h0 : Heap) (n0 : Nat) (O0 : Old Z n0 h0) : own_Met l Z Y5 method_2_code 2 (some (.object "com/example/feedwright/feedwright/Verdict")) ({ frames := 0, cells := 0, slots := 0, locals := 0 } : Room) #[(.int p)] h0 (own_QR (some (.ref va)) h0 n0) := by
  rcases hv with ⟨h, hu⟩ | ⟨h, hu⟩ | ⟨h, hu⟩ | ⟨h, hu⟩
  · rw [hu]; exact own_pick0 l Z a0 hw u0 u1 u2 u3 u4 G p h h0 n0 O0
  · rw [hu]; exact own_pick1 l Z a0 hw u0 u1 u2 u3 u4 G p h h0 n0 O0
  · rw [hu]; exact own_pick2 l Z a0 hw u0 u1 u2 u3 u4 G p h h0 n0 O0
  · rw [hu]; exact own_pick3 l Z a0 hw u0 u1 u2 u3 u4 G p h h0 n0 O0
theorem d9_0 : decode method_3_code 0 = .ok (.iload_n 0, 1) := by decide +kernel
theorem d9_1 : decode method_3_code 1 = .ok (.ifCond .eq 14, 3) := by decide +kernel
theorem d9_4 : decode method_3_code 4 = .ok (.iload_n 1, 1) := by decide +kernel
theorem d9_5 : decode method_3_code 5 = .ok (.iconst 3, 1) := by decide +kernel
theorem d9_6 : decode method_3_code 6 = .ok (.iand, 1) := by decide +kernel
theorem d9_7 : decode method_3_code 7 = .ok (.iload_n 2, 1) := by decide +kernel
theorem d9_8 : decode method_3_code 8 = .ok (.if_icmp .ne 7, 3) := by decide +kernel
theorem d9_11 : decode method_3_code 11 = .ok (.lconst 1, 1) := by decide +kernel
theorem d9_12 : decode method_3_code 12 = .ok (.goto 4, 3) := by decide +kernel
theorem d9_16 : decode method_3_code 16 = .ok (.lreturn, 1) := by decide +kernel
abbrev Y6 : MethodName := (⟨"com/example/feedwright/feedwright/LoadSummaryAddPinLaw", "hit", "(ZII)J"⟩ : MethodName)
theorem ef_own_hit_y (m : MethodId) (u0 u1 u2 u3 u4 : Addr) (pp : Int32) (k : Int32) : entryFrame m #[xi (1 : Int32), xi pp, xi k] 3 = (mkF m 0 #[vi (1 : Int32), vi pp, vi k] []) := by first | (simp [entryFrame, mkF, argsToLocals, Value.category]; done) | rfl
set_option maxRecDepth 65536 in
set_option maxHeartbeats 40000000 in
theorem own_hit_y (l : Launch) (Z : State) (a0 : Array Value) (hw : ∀ d ∈ tables_1, d.before a0 Z = true) (u0 u1 u2 u3 u4 : Addr) (G : own_St Z u0 u1 u2 u3 u4) (pp : Int32) (k : Int32) (as4 : if_icmp.holds .ne (pp &&& (3 : Int32)) k = false) (h0 : Heap) (n0 : Nat) (O0 : Old Z n0 h0) : own_Met l Z Y6 method_3_code 3 (some .long) ({ frames := 0, cells := 0, slots := 0, locals := 0 } : Room) #[xi (1 : Int32), xi pp, xi k] h0 (own_QR (some (xj (1 : Int64))) h0 n0) := by
  intro ws
  refine MetFree.of_bodySF (plainFor_of_name pn3) hisR ?_
  intro p e s m args below meth c s₁ Bd hml0 hP hK
  obtain ⟨rfl, hZ, hh⟩ := hP
  have hx := Bd.exec
  have hby := Bd.bytes
  have hml : c.maxLocals = 3 := hml0
  have hown : s.vm.findClass "com/example/feedwright/feedwright/LoadSummaryAddPinLaw" = some m.cls := findClass_of_methodNamed Bd.named
  have hnm := (name_of_methodNamed Bd.named Bd.method).1
  have X0 : Stand p l e ({ frames := 0, cells := 0, slots := 0, locals := 0 } : Room) s m #[xi (1 : Int32), xi pp, xi k] below meth c s₁ [] 0 0 := Stand.of_body Bd
  have e0 : s₁.heap = h0 := by rw [← hh, Bd.state]; rfl
  have N0 := Fr.nil n0
  have pre0 : ∀ t, Steps p.tables e below (s₁.setTop (mkF m 0 #[vi (1 : Int32), vi pp, vi k] [])) t → Steps p.tables e below (s₁.setTop (entryFrame m #[xi (1 : Int32), xi pp, xi k] 3)) t := fun t st => castTop (ef_own_hit_y m u0 u1 u2 u3 u4 pp k) st
  obtain ⟨fs, hr, hrun, hended, hW, hsame⟩ := X0.leave (v := some (xj (1 : Int64))) (fun h => by rw [Bd.returns] at h; cases h)
  refine ⟨_, _, pre0 _ ?_, hrun, hended, _, _, rfl, ?_, ⟨_, rfl⟩, hW, hsame.mono (by decide) (by decide)⟩
  · show own_S p e below s₁ (mkF m 0 #[vi (1 : Int32), vi pp, vi k] []) _
    refine XS.iloadN X0.here hx rfl (hb hby d9_0) rfl ?_
    show own_S p e below s₁ (mkF m 1 #[vi (1 : Int32), vi pp, vi k] [xi (1 : Int32)]) _
    refine XS.ifNo X0.here hx rfl (hb hby d9_1) rfl (by decide) ?_
    show own_S p e below s₁ (mkF m 4 #[vi (1 : Int32), vi pp, vi k] []) _
    refine XS.iloadN X0.here hx rfl (hb hby d9_4) rfl ?_
    show own_S p e below s₁ (mkF m 5 #[vi (1 : Int32), vi pp, vi k] [xi pp]) _
    refine XS.iconst X0.here hx rfl (hb hby d9_5) ?_
    show own_S p e below s₁ (mkF m 6 #[vi (1 : Int32), vi pp, vi k] [xi (3 : Int32), xi pp]) _
    refine XS.iand X0.here hx rfl (hb hby d9_6) rfl ?_
    show own_S p e below s₁ (mkF m 7 #[vi (1 : Int32), vi pp, vi k] [xi (pp &&& (3 : Int32))]) _
    show own_S p e below s₁ (mkF m 7 #[vi (1 : Int32), vi pp, vi k] [xi (pp &&& (3 : Int32))]) _
    refine XS.iloadN X0.here hx rfl (hb hby d9_7) rfl ?_
    show own_S p e below s₁ (mkF m 8 #[vi (1 : Int32), vi pp, vi k] [xi k, xi (pp &&& (3 : Int32))]) _
    refine XS.icmpNo X0.here hx rfl (hb hby d9_8) rfl as4 ?_
    show own_S p e below s₁ (mkF m 11 #[vi (1 : Int32), vi pp, vi k] []) _
    refine XS.lconst X0.here hx rfl (hb hby d9_11) ?_
    show own_S p e below s₁ (mkF m 12 #[vi (1 : Int32), vi pp, vi k] [xj (1 : Int64)]) _
    refine XS.goto X0.here hx rfl (pc0 := 12) (pc' := 16) rfl (hb hby d9_12) (by decide) (by decide) ?_
    show own_S p e below s₁ (mkF m 16 #[vi (1 : Int32), vi pp, vi k] [xj (1 : Int64)]) _
    exact X0.lreturnOut hx Bd.returns (hb hby d9_16) hr
  · exact ⟨rfl, N0, e0⟩
theorem d9_15 : decode method_3_code 15 = .ok (.lconst 0, 1) := by decide +kernel
theorem ef_own_hit_n (m : MethodId) (u0 u1 u2 u3 u4 : Addr) (pp : Int32) (k : Int32) : entryFrame m #[xi (1 : Int32), xi pp, xi k] 3 = (mkF m 0 #[vi (1 : Int32), vi pp, vi k] []) := by first | (simp [entryFrame, mkF, argsToLocals, Value.category]; done) | rfl
set_option maxRecDepth 65536 in
set_option maxHeartbeats 40000000 in
theorem own_hit_n (l : Launch) (Z : State) (a0 : Array Value) (hw : ∀ d ∈ tables_1, d.before a0 Z = true) (u0 u1 u2 u3 u4 : Addr) (G : own_St Z u0 u1 u2 u3 u4) (pp : Int32) (k : Int32) (as5 : if_icmp.holds .ne (pp &&& (3 : Int32)) k = true) (h0 : Heap) (n0 : Nat) (O0 : Old Z n0 h0) : own_Met l Z Y6 method_3_code 3 (some .long) ({ frames := 0, cells := 0, slots := 0, locals := 0 } : Room) #[xi (1 : Int32), xi pp, xi k] h0 (own_QR (some (xj (0 : Int64))) h0 n0) := by
  intro ws
  refine MetFree.of_bodySF (plainFor_of_name pn3) hisR ?_
  intro p e s m args below meth c s₁ Bd hml0 hP hK
  obtain ⟨rfl, hZ, hh⟩ := hP
  have hx := Bd.exec
  have hby := Bd.bytes
  have hml : c.maxLocals = 3 := hml0
  have hown : s.vm.findClass "com/example/feedwright/feedwright/LoadSummaryAddPinLaw" = some m.cls := findClass_of_methodNamed Bd.named
  have hnm := (name_of_methodNamed Bd.named Bd.method).1
  have X0 : Stand p l e ({ frames := 0, cells := 0, slots := 0, locals := 0 } : Room) s m #[xi (1 : Int32), xi pp, xi k] below meth c s₁ [] 0 0 := Stand.of_body Bd
  have e0 : s₁.heap = h0 := by rw [← hh, Bd.state]; rfl
  have N0 := Fr.nil n0
  have pre0 : ∀ t, Steps p.tables e below (s₁.setTop (mkF m 0 #[vi (1 : Int32), vi pp, vi k] [])) t → Steps p.tables e below (s₁.setTop (entryFrame m #[xi (1 : Int32), xi pp, xi k] 3)) t := fun t st => castTop (ef_own_hit_n m u0 u1 u2 u3 u4 pp k) st
  obtain ⟨fs, hr, hrun, hended, hW, hsame⟩ := X0.leave (v := some (xj (0 : Int64))) (fun h => by rw [Bd.returns] at h; cases h)
  refine ⟨_, _, pre0 _ ?_, hrun, hended, _, _, rfl, ?_, ⟨_, rfl⟩, hW, hsame.mono (by decide) (by decide)⟩
  · show own_S p e below s₁ (mkF m 0 #[vi (1 : Int32), vi pp, vi k] []) _
    refine XS.iloadN X0.here hx rfl (hb hby d9_0) rfl ?_
    show own_S p e below s₁ (mkF m 1 #[vi (1 : Int32), vi pp, vi k] [xi (1 : Int32)]) _
    refine XS.ifNo X0.here hx rfl (hb hby d9_1) rfl (by decide) ?_
    show own_S p e below s₁ (mkF m 4 #[vi (1 : Int32), vi pp, vi k] []) _
    refine XS.iloadN X0.here hx rfl (hb hby d9_4) rfl ?_
    show own_S p e below s₁ (mkF m 5 #[vi (1 : Int32), vi pp, vi k] [xi pp]) _
    refine XS.iconst X0.here hx rfl (hb hby d9_5) ?_
    show own_S p e below s₁ (mkF m 6 #[vi (1 : Int32), vi pp, vi k] [xi (3 : Int32), xi pp]) _
    refine XS.iand X0.here hx rfl (hb hby d9_6) rfl ?_
    show own_S p e below s₁ (mkF m 7 #[vi (1 : Int32), vi pp, vi k] [xi (pp &&& (3 : Int32))]) _
    show own_S p e below s₁ (mkF m 7 #[vi (1 : Int32), vi pp, vi k] [xi (pp &&& (3 : Int32))]) _
    refine XS.iloadN X0.here hx rfl (hb hby d9_7) rfl ?_
    show own_S p e below s₁ (mkF m 8 #[vi (1 : Int32), vi pp, vi k] [xi k, xi (pp &&& (3 : Int32))]) _
    refine XS.icmpYes X0.here hx rfl (pc0 := 8) (pc' := 15) rfl (hb hby d9_8) rfl as5 (by decide) (by decide) ?_
    show own_S p e below s₁ (mkF m 15 #[vi (1 : Int32), vi pp, vi k] []) _
    refine XS.lconst X0.here hx rfl (hb hby d9_15) ?_
    show own_S p e below s₁ (mkF m 16 #[vi (1 : Int32), vi pp, vi k] [xj (0 : Int64)]) _
    exact X0.lreturnOut hx Bd.returns (hb hby d9_16) hr
  · exact ⟨rfl, N0, e0⟩
theorem ef_own_hit_off (m : MethodId) (u0 u1 u2 u3 u4 : Addr) (pp : Int32) (k : Int32) : entryFrame m #[xi (0 : Int32), xi pp, xi k] 3 = (mkF m 0 #[vi (0 : Int32), vi pp, vi k] []) := by first | (simp [entryFrame, mkF, argsToLocals, Value.category]; done) | rfl
set_option maxRecDepth 65536 in
set_option maxHeartbeats 40000000 in
theorem own_hit_off (l : Launch) (Z : State) (a0 : Array Value) (hw : ∀ d ∈ tables_1, d.before a0 Z = true) (u0 u1 u2 u3 u4 : Addr) (G : own_St Z u0 u1 u2 u3 u4) (pp : Int32) (k : Int32) (h0 : Heap) (n0 : Nat) (O0 : Old Z n0 h0) : own_Met l Z Y6 method_3_code 3 (some .long) ({ frames := 0, cells := 0, slots := 0, locals := 0 } : Room) #[xi (0 : Int32), xi pp, xi k] h0 (own_QR (some (xj (0 : Int64))) h0 n0) := by
  intro ws
  refine MetFree.of_bodySF (plainFor_of_name pn3) hisR ?_
  intro p e s m args below meth c s₁ Bd hml0 hP hK
  obtain ⟨rfl, hZ, hh⟩ := hP
  have hx := Bd.exec
  have hby := Bd.bytes
  have hml : c.maxLocals = 3 := hml0
  have hown : s.vm.findClass "com/example/feedwright/feedwright/LoadSummaryAddPinLaw" = some m.cls := findClass_of_methodNamed Bd.named
  have hnm := (name_of_methodNamed Bd.named Bd.method).1
  have X0 : Stand p l e ({ frames := 0, cells := 0, slots := 0, locals := 0 } : Room) s m #[xi (0 : Int32), xi pp, xi k] below meth c s₁ [] 0 0 := Stand.of_body Bd
  have e0 : s₁.heap = h0 := by rw [← hh, Bd.state]; rfl
  have N0 := Fr.nil n0
  have pre0 : ∀ t, Steps p.tables e below (s₁.setTop (mkF m 0 #[vi (0 : Int32), vi pp, vi k] [])) t → Steps p.tables e below (s₁.setTop (entryFrame m #[xi (0 : Int32), xi pp, xi k] 3)) t := fun t st => castTop (ef_own_hit_off m u0 u1 u2 u3 u4 pp k) st
  obtain ⟨fs, hr, hrun, hended, hW, hsame⟩ := X0.leave (v := some (xj (0 : Int64))) (fun h => by rw [Bd.returns] at h; cases h)
  refine ⟨_, _, pre0 _ ?_, hrun, hended, _, _, rfl, ?_, ⟨_, rfl⟩, hW, hsame.mono (by decide) (by decide)⟩
  · show own_S p e below s₁ (mkF m 0 #[vi (0 : Int32), vi pp, vi k] []) _
    refine XS.iloadN X0.here hx rfl (hb hby d9_0) rfl ?_
    show own_S p e below s₁ (mkF m 1 #[vi (0 : Int32), vi pp, vi k] [xi (0 : Int32)]) _
    refine XS.ifYes X0.here hx rfl (pc0 := 1) (pc' := 15) rfl (hb hby d9_1) rfl (by decide) (by decide) (by decide) ?_
    show own_S p e below s₁ (mkF m 15 #[vi (0 : Int32), vi pp, vi k] []) _
    refine XS.lconst X0.here hx rfl (hb hby d9_15) ?_
    show own_S p e below s₁ (mkF m 16 #[vi (0 : Int32), vi pp, vi k] [xj (0 : Int64)]) _
    exact X0.lreturnOut hx Bd.returns (hb hby d9_16) hr
  · exact ⟨rfl, N0, e0⟩
theorem own_hit (l : Launch) (Z : State) (a0 : Array Value) (hw : ∀ d ∈ tables_1, d.before a0 Z = true) (u0 u1 u2 u3 u4 : Addr) (G : own_St Z u0 u1 u2 u3 u4) (p k : Int32) (h0 : Heap) (n0 : Nat) (O0 : Old Z n0 h0) : own_Met l Z Y6 method_3_code 3 (some .long) ({ frames := 0, cells := 0, slots := 0, locals := 0 } : Room) #[(.int (1 : Int32)), (.int p), (.int k)] h0 (own_QR (some (.long (own_h p k))) h0 n0) := by
  by_cases h : (p &&& (3 : Int32)) = k
  · have e : own_h p k = (1 : Int64) := by simp only [own_h, h, if_true]
    rw [e]; exact own_hit_y l Z a0 hw u0 u1 u2 u3 u4 G p k (teq h).2 h0 n0 O0
  · have e : own_h p k = (0 : Int64) := by simp only [own_h, h, if_false]
    rw [e]; exact own_hit_n l Z a0 hw u0 u1 u2 u3 u4 G p k (feq h).2 h0 n0 O0
theorem own_add (l : Launch) (Z : State) (a0 : Array Value) (hw : ∀ d ∈ tables_1, d.before a0 Z = true) (u0 u1 u2 u3 u4 : Addr) (G : own_St Z u0 u1 u2 u3 u4) (a b : Addr) (k : ClassId) (c0 c1 c2 c3 : Int64) (p : Int32) (va : Addr) (hv : own_is u0 u1 u2 u3 u4 p va) (h0 : Heap) (n0 : Nat) (O0 : Old Z n0 h0) (gL : own_LS Z h0 n0 a b k c0 c1 c2 c3) : own_Met l Z Y4 prog_16_method_2_code 2 none ({ frames := 1, cells := 0, slots := 0, locals := 13 } : Room) #[(.ref a), (.ref va)] h0 (own_QA Z h0 n0 a b k (c0 + own_h p 0) (c1 + own_h p 1) (c2 + own_h p 2) (c3 + own_h p 3)) := by
  rcases hv with ⟨h, hu⟩ | ⟨h, hu⟩ | ⟨h, hu⟩ | ⟨h, hu⟩
  · rw [hu, show own_h p 0 = (1 : Int64) from by simp only [own_h, h]; decide, show own_h p 1 = (0 : Int64) from by simp only [own_h, h]; decide, show own_h p 2 = (0 : Int64) from by simp only [own_h, h]; decide, show own_h p 3 = (0 : Int64) from by simp only [own_h, h]; decide, Int64.add_zero, Int64.add_zero, Int64.add_zero]; exact own_add0 l Z a0 hw u0 u1 u2 u3 u4 G a b k c0 c1 c2 c3 h0 n0 O0 gL
  · rw [hu, show own_h p 0 = (0 : Int64) from by simp only [own_h, h]; decide, show own_h p 1 = (1 : Int64) from by simp only [own_h, h]; decide, show own_h p 2 = (0 : Int64) from by simp only [own_h, h]; decide, show own_h p 3 = (0 : Int64) from by simp only [own_h, h]; decide, Int64.add_zero, Int64.add_zero, Int64.add_zero]; exact own_add1 l Z a0 hw u0 u1 u2 u3 u4 G a b k c0 c1 c2 c3 h0 n0 O0 gL
  · rw [hu, show own_h p 0 = (0 : Int64) from by simp only [own_h, h]; decide, show own_h p 1 = (0 : Int64) from by simp only [own_h, h]; decide, show own_h p 2 = (1 : Int64) from by simp only [own_h, h]; decide, show own_h p 3 = (0 : Int64) from by simp only [own_h, h]; decide, Int64.add_zero, Int64.add_zero, Int64.add_zero]; exact own_add2 l Z a0 hw u0 u1 u2 u3 u4 G a b k c0 c1 c2 c3 h0 n0 O0 gL
  · rw [hu, show own_h p 0 = (0 : Int64) from by simp only [own_h, h]; decide, show own_h p 1 = (0 : Int64) from by simp only [own_h, h]; decide, show own_h p 2 = (0 : Int64) from by simp only [own_h, h]; decide, show own_h p 3 = (1 : Int64) from by simp only [own_h, h]; decide, Int64.add_zero, Int64.add_zero, Int64.add_zero]; exact own_add3 l Z a0 hw u0 u1 u2 u3 u4 G a b k c0 c1 c2 c3 h0 n0 O0 gL
theorem d7_0 : decode prog_16_method_3_code 0 = .ok (.aload_n 0, 1) := by decide +kernel
theorem d7_1 : decode prog_16_method_3_code 1 = .ok (.getfield 13, 3) := by decide +kernel
theorem d7_4 : decode prog_16_method_3_code 4 = .ok (.aload_n 1, 1) := by decide +kernel
theorem d7_5 : decode prog_16_method_3_code 5 = .ok (.invokevirtual 19, 3) := by decide +kernel
theorem d7_8 : decode prog_16_method_3_code 8 = .ok (.laload, 1) := by decide +kernel
theorem d7_9 : decode prog_16_method_3_code 9 = .ok (.lreturn, 1) := by decide +kernel
abbrev Y7 : MethodName := (⟨"com/example/feedwright/feedwright/LoadSummary", "count", "(Lcom/example/feedwright/feedwright/Verdict;)J"⟩ : MethodName)
theorem ef_own_count0 (m : MethodId) (u0 u1 u2 u3 u4 : Addr) (a : Addr) (b : Addr) (k : ClassId) (c0 : Int64) (c1 : Int64) (c2 : Int64) (c3 : Int64) : entryFrame m #[xr a, xr u0] 2 = (mkF m 0 #[vr a, vr u0] []) := by first | (simp [entryFrame, mkF, argsToLocals, Value.category]; done) | rfl
set_option maxRecDepth 65536 in
set_option maxHeartbeats 40000000 in
theorem own_count0 (l : Launch) (Z : State) (a0 : Array Value) (hw : ∀ d ∈ tables_1, d.before a0 Z = true) (u0 u1 u2 u3 u4 : Addr) (G : own_St Z u0 u1 u2 u3 u4) (a : Addr) (b : Addr) (k : ClassId) (c0 : Int64) (c1 : Int64) (c2 : Int64) (c3 : Int64) (h0 : Heap) (n0 : Nat) (O0 : Old Z n0 h0) (gL : own_LS Z h0 n0 a b k c0 c1 c2 c3) : own_Met l Z Y7 prog_16_method_3_code 2 (some .long) ({ frames := 1, cells := 0, slots := 0, locals := 13 } : Room) #[xr a, xr u0] h0 (own_QR (some (xj c0)) h0 n0) := by
  intro ws
  refine MetFree.of_bodySF (plainFor_of_name pn1) hisR ?_
  intro p e s m args below meth c s₁ Bd hml0 hP hK
  obtain ⟨rfl, hZ, hh⟩ := hP
  have hx := Bd.exec
  have hby := Bd.bytes
  have hml : c.maxLocals = 2 := hml0
  have hown : s.vm.findClass "com/example/feedwright/feedwright/LoadSummary" = some m.cls := findClass_of_methodNamed Bd.named
  have hnm := (name_of_methodNamed Bd.named Bd.method).1
  have X0 : Stand p l e ({ frames := 1, cells := 0, slots := 0, locals := 13 } : Room) s m #[xr a, xr u0] below meth c s₁ [] 0 0 := Stand.of_body Bd
  have e0 : s₁.heap = h0 := by rw [← hh, Bd.state]; rfl
  have N0 := Fr.nil n0
  have pre0 : ∀ t, Steps p.tables e below (s₁.setTop (mkF m 0 #[vr a, vr u0] [])) t → Steps p.tables e below (s₁.setTop (entryFrame m #[xr a, xr u0] 2)) t := fun t st => castTop (ef_own_count0 m u0 u1 u2 u3 u4 a b k c0 c1 c2 c3) st
  obtain ⟨EA, FA, VA, ne_a_b, g_a, g_b⟩ := gL
  obtain ⟨T1, X1, e1, st1⟩ := getF X0 hx hZ hown (host := "") (Or.inl (ww hw 37 rfl)) Via.refl e0 FA (g := (mkF m 1 #[vr a, vr u0] [xr a])) rfl rfl (hb hby d7_1)
  obtain ⟨cq2, kq2, qa2, qb2, qc2⟩ := isOf hZ e1 ((own_X_u0 G).ext O0.2)
  obtain ⟨_, _, ⟨T2, L2, k2, n2⟩, -, X2, ⟨Lc2, hQ2, l2, y2, z2⟩, st2⟩ := X1.virtualBackUp hx (x := Y3) (y := Y2) hown (mvT hZ (ww hw 44 rfl)) (mvT hZ (ww hw 45 rfl)) (mvT hZ (ww hw 46 rfl)) (by decide) (mvT hZ (ww hw 48 rfl)) (mvT hZ (ww hw 47 rfl)) (backOf (W := 1) (own_c0_ordinal l Z a0 hw u0 u1 u2 u3 u4 G h0 n0 O0 []) hZ (ww hw 50 rfl) (ww hw 49 rfl) (by decide) (by decide)) qa2 qc2 (g := (mkF m 5 #[vr a, vr u0] [xr u0, xr b])) rfl (by rw [hml]; rfl) (Steps.refl _) (argsL := []) (rest := [xr b]) (lenOf pd1 rfl) rfl (by show 2 * 0 + _ ≤ _; exact Nat.le_of_eq rfl) (hb hby d7_5) (fun _ _ => ⟨rfl, e1, (by decide : 0 + 0 ≤ _), (by decide : 0 + 0 ≤ _)⟩)
  dsimp only [Pt.U, Pt.locs, Pt.cells, Pt.slots] at X2 l2 y2 z2 st2 hQ2
  subst l2 y2 z2
  obtain ⟨rfl, Nq2, e2⟩ := hQ2
  have N2 := Fr.app N0 Nq2
  obtain ⟨cl3, Ar3, q3, S3, N3_, H3, G3⟩ := id VA
  have hin3 : ¬ ((0 : Int32) < 0 ∨ cl3.slots.size ≤ ((0 : Int32)).toNatClampNeg) := inb_of S3 ⟨by decide, by decide⟩
  have hat3 : cl3.slots[((0 : Int32)).toNatClampNeg]? = some (xj c0) := Has.at H3 hin3 rfl
  obtain ⟨fs, hr, hrun, hended, hW, hsame⟩ := X2.leave (v := some (xj c0)) (fun h => by rw [Bd.returns] at h; cases h)
  refine ⟨_, _, pre0 _ ?_, hrun, hended, _, _, rfl, ?_, ⟨_, rfl⟩, hW, hsame.mono (by decide) (by decide)⟩
  · show own_S p e below s₁ (mkF m 0 #[vr a, vr u0] []) _
    refine XS.aloadN X0.here hx rfl (hb hby d7_0) rfl rfl ?_
    show own_S p e below s₁ (mkF m 1 #[vr a, vr u0] [xr a]) _
    refine st1 _ ?_
    show own_S p e below T1 (mkF m 4 #[vr a, vr u0] [xr b]) _
    refine XS.aloadN X1.here hx rfl (hb hby d7_4) rfl rfl ?_
    show own_S p e below T1 (mkF m 5 #[vr a, vr u0] [xr u0, xr b]) _
    refine st2.trans ?_
    show own_S p e below T2 (mkF m 8 #[vr a, vr u0] [xi (0 : Int32), xr b]) _
    refine X2.laload hx (j := (0 : Int32)) (v := (xj c0)) (by rw [e2]; exact Ar3.1) (State.isArrayOf_alike hZ.alike Ar3.2.1) Ar3.2.2 hin3 hat3 (g := (mkF m 8 #[vr a, vr u0] [xi (0 : Int32), xr b])) rfl rfl (hb hby d7_8) _ ?_
    show own_S p e below T2 (mkF m 9 #[vr a, vr u0] [xj c0]) _
    exact X2.lreturnOut hx Bd.returns (hb hby d7_9) hr
  · exact ⟨rfl, N2, e2⟩
theorem ef_own_count1 (m : MethodId) (u0 u1 u2 u3 u4 : Addr) (a : Addr) (b : Addr) (k : ClassId) (c0 : Int64) (c1 : Int64) (c2 : Int64) (c3 : Int64) : entryFrame m #[xr a, xr u4] 2 = (mkF m 0 #[vr a, vr u4] []) := by first | (simp [entryFrame, mkF, argsToLocals, Value.category]; done) | rfl
set_option maxRecDepth 65536 in
set_option maxHeartbeats 40000000 in
theorem own_count1 (l : Launch) (Z : State) (a0 : Array Value) (hw : ∀ d ∈ tables_1, d.before a0 Z = true) (u0 u1 u2 u3 u4 : Addr) (G : own_St Z u0 u1 u2 u3 u4) (a : Addr) (b : Addr) (k : ClassId) (c0 : Int64) (c1 : Int64) (c2 : Int64) (c3 : Int64) (h0 : Heap) (n0 : Nat) (O0 : Old Z n0 h0) (gL : own_LS Z h0 n0 a b k c0 c1 c2 c3) : own_Met l Z Y7 prog_16_method_3_code 2 (some .long) ({ frames := 1, cells := 0, slots := 0, locals := 13 } : Room) #[xr a, xr u4] h0 (own_QR (some (xj c1)) h0 n0) := by
  intro ws
  refine MetFree.of_bodySF (plainFor_of_name pn1) hisR ?_
  intro p e s m args below meth c s₁ Bd hml0 hP hK
  obtain ⟨rfl, hZ, hh⟩ := hP
  have hx := Bd.exec
  have hby := Bd.bytes
  have hml : c.maxLocals = 2 := hml0
  have hown : s.vm.findClass "com/example/feedwright/feedwright/LoadSummary" = some m.cls := findClass_of_methodNamed Bd.named
  have hnm := (name_of_methodNamed Bd.named Bd.method).1
  have X0 : Stand p l e ({ frames := 1, cells := 0, slots := 0, locals := 13 } : Room) s m #[xr a, xr u4] below meth c s₁ [] 0 0 := Stand.of_body Bd
  have e0 : s₁.heap = h0 := by rw [← hh, Bd.state]; rfl
  have N0 := Fr.nil n0
  have pre0 : ∀ t, Steps p.tables e below (s₁.setTop (mkF m 0 #[vr a, vr u4] [])) t → Steps p.tables e below (s₁.setTop (entryFrame m #[xr a, xr u4] 2)) t := fun t st => castTop (ef_own_count1 m u0 u1 u2 u3 u4 a b k c0 c1 c2 c3) st
  obtain ⟨EA, FA, VA, ne_a_b, g_a, g_b⟩ := gL
  obtain ⟨T1, X1, e1, st1⟩ := getF X0 hx hZ hown (host := "") (Or.inl (ww hw 37 rfl)) Via.refl e0 FA (g := (mkF m 1 #[vr a, vr u4] [xr a])) rfl rfl (hb hby d7_1)
  obtain ⟨cq2, kq2, qa2, qb2, qc2⟩ := isOf hZ e1 ((own_X_u4 G).ext O0.2)
  obtain ⟨_, _, ⟨T2, L2, k2, n2⟩, -, X2, ⟨Lc2, hQ2, l2, y2, z2⟩, st2⟩ := X1.virtualBackUp hx (x := Y3) (y := Y2) hown (mvT hZ (ww hw 44 rfl)) (mvT hZ (ww hw 45 rfl)) (mvT hZ (ww hw 46 rfl)) (by decide) (mvT hZ (ww hw 48 rfl)) (mvT hZ (ww hw 47 rfl)) (backOf (W := 1) (own_c3_ordinal l Z a0 hw u0 u1 u2 u3 u4 G h0 n0 O0 []) hZ (ww hw 50 rfl) (ww hw 49 rfl) (by decide) (by decide)) qa2 qc2 (g := (mkF m 5 #[vr a, vr u4] [xr u4, xr b])) rfl (by rw [hml]; rfl) (Steps.refl _) (argsL := []) (rest := [xr b]) (lenOf pd1 rfl) rfl (by show 2 * 0 + _ ≤ _; exact Nat.le_of_eq rfl) (hb hby d7_5) (fun _ _ => ⟨rfl, e1, (by decide : 0 + 0 ≤ _), (by decide : 0 + 0 ≤ _)⟩)
  dsimp only [Pt.U, Pt.locs, Pt.cells, Pt.slots] at X2 l2 y2 z2 st2 hQ2
  subst l2 y2 z2
  obtain ⟨rfl, Nq2, e2⟩ := hQ2
  have N2 := Fr.app N0 Nq2
  obtain ⟨cl3, Ar3, q3, S3, N3_, H3, G3⟩ := id VA
  have hin3 : ¬ ((1 : Int32) < 0 ∨ cl3.slots.size ≤ ((1 : Int32)).toNatClampNeg) := inb_of S3 ⟨by decide, by decide⟩
  have hat3 : cl3.slots[((1 : Int32)).toNatClampNeg]? = some (xj c1) := Has.at H3 hin3 rfl
  obtain ⟨fs, hr, hrun, hended, hW, hsame⟩ := X2.leave (v := some (xj c1)) (fun h => by rw [Bd.returns] at h; cases h)
  refine ⟨_, _, pre0 _ ?_, hrun, hended, _, _, rfl, ?_, ⟨_, rfl⟩, hW, hsame.mono (by decide) (by decide)⟩
  · show own_S p e below s₁ (mkF m 0 #[vr a, vr u4] []) _
    refine XS.aloadN X0.here hx rfl (hb hby d7_0) rfl rfl ?_
    show own_S p e below s₁ (mkF m 1 #[vr a, vr u4] [xr a]) _
    refine st1 _ ?_
    show own_S p e below T1 (mkF m 4 #[vr a, vr u4] [xr b]) _
    refine XS.aloadN X1.here hx rfl (hb hby d7_4) rfl rfl ?_
    show own_S p e below T1 (mkF m 5 #[vr a, vr u4] [xr u4, xr b]) _
    refine st2.trans ?_
    show own_S p e below T2 (mkF m 8 #[vr a, vr u4] [xi (1 : Int32), xr b]) _
    refine X2.laload hx (j := (1 : Int32)) (v := (xj c1)) (by rw [e2]; exact Ar3.1) (State.isArrayOf_alike hZ.alike Ar3.2.1) Ar3.2.2 hin3 hat3 (g := (mkF m 8 #[vr a, vr u4] [xi (1 : Int32), xr b])) rfl rfl (hb hby d7_8) _ ?_
    show own_S p e below T2 (mkF m 9 #[vr a, vr u4] [xj c1]) _
    exact X2.lreturnOut hx Bd.returns (hb hby d7_9) hr
  · exact ⟨rfl, N2, e2⟩
theorem ef_own_count2 (m : MethodId) (u0 u1 u2 u3 u4 : Addr) (a : Addr) (b : Addr) (k : ClassId) (c0 : Int64) (c1 : Int64) (c2 : Int64) (c3 : Int64) : entryFrame m #[xr a, xr u2] 2 = (mkF m 0 #[vr a, vr u2] []) := by first | (simp [entryFrame, mkF, argsToLocals, Value.category]; done) | rfl
set_option maxRecDepth 65536 in
set_option maxHeartbeats 40000000 in
theorem own_count2 (l : Launch) (Z : State) (a0 : Array Value) (hw : ∀ d ∈ tables_1, d.before a0 Z = true) (u0 u1 u2 u3 u4 : Addr) (G : own_St Z u0 u1 u2 u3 u4) (a : Addr) (b : Addr) (k : ClassId) (c0 : Int64) (c1 : Int64) (c2 : Int64) (c3 : Int64) (h0 : Heap) (n0 : Nat) (O0 : Old Z n0 h0) (gL : own_LS Z h0 n0 a b k c0 c1 c2 c3) : own_Met l Z Y7 prog_16_method_3_code 2 (some .long) ({ frames := 1, cells := 0, slots := 0, locals := 13 } : Room) #[xr a, xr u2] h0 (own_QR (some (xj c2)) h0 n0) := by
  intro ws
  refine MetFree.of_bodySF (plainFor_of_name pn1) hisR ?_
  intro p e s m args below meth c s₁ Bd hml0 hP hK
  obtain ⟨rfl, hZ, hh⟩ := hP
  have hx := Bd.exec
  have hby := Bd.bytes
  have hml : c.maxLocals = 2 := hml0
  have hown : s.vm.findClass "com/example/feedwright/feedwright/LoadSummary" = some m.cls := findClass_of_methodNamed Bd.named
  have hnm := (name_of_methodNamed Bd.named Bd.method).1
  have X0 : Stand p l e ({ frames := 1, cells := 0, slots := 0, locals := 13 } : Room) s m #[xr a, xr u2] below meth c s₁ [] 0 0 := Stand.of_body Bd
  have e0 : s₁.heap = h0 := by rw [← hh, Bd.state]; rfl
  have N0 := Fr.nil n0
  have pre0 : ∀ t, Steps p.tables e below (s₁.setTop (mkF m 0 #[vr a, vr u2] [])) t → Steps p.tables e below (s₁.setTop (entryFrame m #[xr a, xr u2] 2)) t := fun t st => castTop (ef_own_count2 m u0 u1 u2 u3 u4 a b k c0 c1 c2 c3) st
  obtain ⟨EA, FA, VA, ne_a_b, g_a, g_b⟩ := gL
  obtain ⟨T1, X1, e1, st1⟩ := getF X0 hx hZ hown (host := "") (Or.inl (ww hw 37 rfl)) Via.refl e0 FA (g := (mkF m 1 #[vr a, vr u2] [xr a])) rfl rfl (hb hby d7_1)
  obtain ⟨cq2, kq2, qa2, qb2, qc2⟩ := isOf hZ e1 ((own_X_u2 G).ext O0.2)
  obtain ⟨_, _, ⟨T2, L2, k2, n2⟩, -, X2, ⟨Lc2, hQ2, l2, y2, z2⟩, st2⟩ := X1.virtualBackUp hx (x := Y3) (y := Y2) hown (mvT hZ (ww hw 44 rfl)) (mvT hZ (ww hw 45 rfl)) (mvT hZ (ww hw 46 rfl)) (by decide) (mvT hZ (ww hw 48 rfl)) (mvT hZ (ww hw 47 rfl)) (backOf (W := 1) (own_c2_ordinal l Z a0 hw u0 u1 u2 u3 u4 G h0 n0 O0 []) hZ (ww hw 50 rfl) (ww hw 49 rfl) (by decide) (by decide)) qa2 qc2 (g := (mkF m 5 #[vr a, vr u2] [xr u2, xr b])) rfl (by rw [hml]; rfl) (Steps.refl _) (argsL := []) (rest := [xr b]) (lenOf pd1 rfl) rfl (by show 2 * 0 + _ ≤ _; exact Nat.le_of_eq rfl) (hb hby d7_5) (fun _ _ => ⟨rfl, e1, (by decide : 0 + 0 ≤ _), (by decide : 0 + 0 ≤ _)⟩)
  dsimp only [Pt.U, Pt.locs, Pt.cells, Pt.slots] at X2 l2 y2 z2 st2 hQ2
  subst l2 y2 z2
  obtain ⟨rfl, Nq2, e2⟩ := hQ2
  have N2 := Fr.app N0 Nq2
  obtain ⟨cl3, Ar3, q3, S3, N3_, H3, G3⟩ := id VA
  have hin3 : ¬ ((2 : Int32) < 0 ∨ cl3.slots.size ≤ ((2 : Int32)).toNatClampNeg) := inb_of S3 ⟨by decide, by decide⟩
  have hat3 : cl3.slots[((2 : Int32)).toNatClampNeg]? = some (xj c2) := Has.at H3 hin3 rfl
  obtain ⟨fs, hr, hrun, hended, hW, hsame⟩ := X2.leave (v := some (xj c2)) (fun h => by rw [Bd.returns] at h; cases h)
  refine ⟨_, _, pre0 _ ?_, hrun, hended, _, _, rfl, ?_, ⟨_, rfl⟩, hW, hsame.mono (by decide) (by decide)⟩
  · show own_S p e below s₁ (mkF m 0 #[vr a, vr u2] []) _
    refine XS.aloadN X0.here hx rfl (hb hby d7_0) rfl rfl ?_
    show own_S p e below s₁ (mkF m 1 #[vr a, vr u2] [xr a]) _
    refine st1 _ ?_
    show own_S p e below T1 (mkF m 4 #[vr a, vr u2] [xr b]) _
    refine XS.aloadN X1.here hx rfl (hb hby d7_4) rfl rfl ?_
    show own_S p e below T1 (mkF m 5 #[vr a, vr u2] [xr u2, xr b]) _
    refine st2.trans ?_
    show own_S p e below T2 (mkF m 8 #[vr a, vr u2] [xi (2 : Int32), xr b]) _
    refine X2.laload hx (j := (2 : Int32)) (v := (xj c2)) (by rw [e2]; exact Ar3.1) (State.isArrayOf_alike hZ.alike Ar3.2.1) Ar3.2.2 hin3 hat3 (g := (mkF m 8 #[vr a, vr u2] [xi (2 : Int32), xr b])) rfl rfl (hb hby d7_8) _ ?_
    show own_S p e below T2 (mkF m 9 #[vr a, vr u2] [xj c2]) _
    exact X2.lreturnOut hx Bd.returns (hb hby d7_9) hr
  · exact ⟨rfl, N2, e2⟩
theorem ef_own_count3 (m : MethodId) (u0 u1 u2 u3 u4 : Addr) (a : Addr) (b : Addr) (k : ClassId) (c0 : Int64) (c1 : Int64) (c2 : Int64) (c3 : Int64) : entryFrame m #[xr a, xr u1] 2 = (mkF m 0 #[vr a, vr u1] []) := by first | (simp [entryFrame, mkF, argsToLocals, Value.category]; done) | rfl
set_option maxRecDepth 65536 in
set_option maxHeartbeats 40000000 in
theorem own_count3 (l : Launch) (Z : State) (a0 : Array Value) (hw : ∀ d ∈ tables_1, d.before a0 Z = true) (u0 u1 u2 u3 u4 : Addr) (G : own_St Z u0 u1 u2 u3 u4) (a : Addr) (b : Addr) (k : ClassId) (c0 : Int64) (c1 : Int64) (c2 : Int64) (c3 : Int64) (h0 : Heap) (n0 : Nat) (O0 : Old Z n0 h0) (gL : own_LS Z h0 n0 a b k c0 c1 c2 c3) : own_Met l Z Y7 prog_16_method_3_code 2 (some .long) ({ frames := 1, cells := 0, slots := 0, locals := 13 } : Room) #[xr a, xr u1] h0 (own_QR (some (xj c3)) h0 n0) := by
  intro ws
  refine MetFree.of_bodySF (plainFor_of_name pn1) hisR ?_
  intro p e s m args below meth c s₁ Bd hml0 hP hK
  obtain ⟨rfl, hZ, hh⟩ := hP
  have hx := Bd.exec
  have hby := Bd.bytes
  have hml : c.maxLocals = 2 := hml0
  have hown : s.vm.findClass "com/example/feedwright/feedwright/LoadSummary" = some m.cls := findClass_of_methodNamed Bd.named
  have hnm := (name_of_methodNamed Bd.named Bd.method).1
  have X0 : Stand p l e ({ frames := 1, cells := 0, slots := 0, locals := 13 } : Room) s m #[xr a, xr u1] below meth c s₁ [] 0 0 := Stand.of_body Bd
  have e0 : s₁.heap = h0 := by rw [← hh, Bd.state]; rfl
  have N0 := Fr.nil n0
  have pre0 : ∀ t, Steps p.tables e below (s₁.setTop (mkF m 0 #[vr a, vr u1] [])) t → Steps p.tables e below (s₁.setTop (entryFrame m #[xr a, xr u1] 2)) t := fun t st => castTop (ef_own_count3 m u0 u1 u2 u3 u4 a b k c0 c1 c2 c3) st
  obtain ⟨EA, FA, VA, ne_a_b, g_a, g_b⟩ := gL
  obtain ⟨T1, X1, e1, st1⟩ := getF X0 hx hZ hown (host := "") (Or.inl (ww hw 37 rfl)) Via.refl e0 FA (g := (mkF m 1 #[vr a, vr u1] [xr a])) rfl rfl (hb hby d7_1)
  obtain ⟨cq2, kq2, qa2, qb2, qc2⟩ := isOf hZ e1 ((own_X_u1 G).ext O0.2)
  obtain ⟨_, _, ⟨T2, L2, k2, n2⟩, -, X2, ⟨Lc2, hQ2, l2, y2, z2⟩, st2⟩ := X1.virtualBackUp hx (x := Y3) (y := Y2) hown (mvT hZ (ww hw 44 rfl)) (mvT hZ (ww hw 45 rfl)) (mvT hZ (ww hw 46 rfl)) (by decide) (mvT hZ (ww hw 48 rfl)) (mvT hZ (ww hw 47 rfl)) (backOf (W := 1) (own_c1_ordinal l Z a0 hw u0 u1 u2 u3 u4 G h0 n0 O0 []) hZ (ww hw 50 rfl) (ww hw 49 rfl) (by decide) (by decide)) qa2 qc2 (g := (mkF m 5 #[vr a, vr u1] [xr u1, xr b])) rfl (by rw [hml]; rfl) (Steps.refl _) (argsL := []) (rest := [xr b]) (lenOf pd1 rfl) rfl (by show 2 * 0 + _ ≤ _; exact Nat.le_of_eq rfl) (hb hby d7_5) (fun _ _ => ⟨rfl, e1, (by decide : 0 + 0 ≤ _), (by decide : 0 + 0 ≤ _)⟩)
  dsimp only [Pt.U, Pt.locs, Pt.cells, Pt.slots] at X2 l2 y2 z2 st2 hQ2
  subst l2 y2 z2
  obtain ⟨rfl, Nq2, e2⟩ := hQ2
  have N2 := Fr.app N0 Nq2
  obtain ⟨cl3, Ar3, q3, S3, N3_, H3, G3⟩ := id VA
  have hin3 : ¬ ((3 : Int32) < 0 ∨ cl3.slots.size ≤ ((3 : Int32)).toNatClampNeg) := inb_of S3 ⟨by decide, by decide⟩
  have hat3 : cl3.slots[((3 : Int32)).toNatClampNeg]? = some (xj c3) := Has.at H3 hin3 rfl
  obtain ⟨fs, hr, hrun, hended, hW, hsame⟩ := X2.leave (v := some (xj c3)) (fun h => by rw [Bd.returns] at h; cases h)
  refine ⟨_, _, pre0 _ ?_, hrun, hended, _, _, rfl, ?_, ⟨_, rfl⟩, hW, hsame.mono (by decide) (by decide)⟩
  · show own_S p e below s₁ (mkF m 0 #[vr a, vr u1] []) _
    refine XS.aloadN X0.here hx rfl (hb hby d7_0) rfl rfl ?_
    show own_S p e below s₁ (mkF m 1 #[vr a, vr u1] [xr a]) _
    refine st1 _ ?_
    show own_S p e below T1 (mkF m 4 #[vr a, vr u1] [xr b]) _
    refine XS.aloadN X1.here hx rfl (hb hby d7_4) rfl rfl ?_
    show own_S p e below T1 (mkF m 5 #[vr a, vr u1] [xr u1, xr b]) _
    refine st2.trans ?_
    show own_S p e below T2 (mkF m 8 #[vr a, vr u1] [xi (3 : Int32), xr b]) _
    refine X2.laload hx (j := (3 : Int32)) (v := (xj c3)) (by rw [e2]; exact Ar3.1) (State.isArrayOf_alike hZ.alike Ar3.2.1) Ar3.2.2 hin3 hat3 (g := (mkF m 8 #[vr a, vr u1] [xi (3 : Int32), xr b])) rfl rfl (hb hby d7_8) _ ?_
    show own_S p e below T2 (mkF m 9 #[vr a, vr u1] [xj c3]) _
    exact X2.lreturnOut hx Bd.returns (hb hby d7_9) hr
  · exact ⟨rfl, N2, e2⟩
theorem d10_0 : decode prog_16_method_4_code 0 = .ok (.lconst 0, 1) := by decide +kernel
theorem d10_1 : decode prog_16_method_4_code 1 = .ok (.lstore_n 1, 1) := by decide +kernel
theorem d10_2 : decode prog_16_method_4_code 2 = .ok (.aload_n 0, 1) := by decide +kernel
theorem d10_3 : decode prog_16_method_4_code 3 = .ok (.getfield 13, 3) := by decide +kernel
theorem d10_6 : decode prog_16_method_4_code 6 = .ok (.astore_n 3, 1) := by decide +kernel
theorem d10_7 : decode prog_16_method_4_code 7 = .ok (.aload_n 3, 1) := by decide +kernel
theorem d10_8 : decode prog_16_method_4_code 8 = .ok (.arraylength, 1) := by decide +kernel
theorem d10_9 : decode prog_16_method_4_code 9 = .ok (.istore 4, 2) := by decide +kernel
theorem d10_11 : decode prog_16_method_4_code 11 = .ok (.iconst 0, 1) := by decide +kernel
theorem d10_12 : decode prog_16_method_4_code 12 = .ok (.istore 5, 2) := by decide +kernel
theorem d10_14 : decode prog_16_method_4_code 14 = .ok (.iload 5, 2) := by decide +kernel
theorem d10_16 : decode prog_16_method_4_code 16 = .ok (.iload 4, 2) := by decide +kernel
theorem d10_18 : decode prog_16_method_4_code 18 = .ok (.if_icmp .ge 20, 3) := by decide +kernel
theorem d10_21 : decode prog_16_method_4_code 21 = .ok (.aload_n 3, 1) := by decide +kernel
theorem d10_22 : decode prog_16_method_4_code 22 = .ok (.iload 5, 2) := by decide +kernel
theorem d10_24 : decode prog_16_method_4_code 24 = .ok (.laload, 1) := by decide +kernel
theorem d10_25 : decode prog_16_method_4_code 25 = .ok (.lstore 6, 2) := by decide +kernel
theorem d10_27 : decode prog_16_method_4_code 27 = .ok (.lload_n 1, 1) := by decide +kernel
theorem d10_28 : decode prog_16_method_4_code 28 = .ok (.lload 6, 2) := by decide +kernel
theorem d10_30 : decode prog_16_method_4_code 30 = .ok (.ladd, 1) := by decide +kernel
theorem d10_31 : decode prog_16_method_4_code 31 = .ok (.lstore_n 1, 1) := by decide +kernel
theorem d10_32 : decode prog_16_method_4_code 32 = .ok (.iinc 5 1, 3) := by decide +kernel
theorem d10_35 : decode prog_16_method_4_code 35 = .ok (.goto (-21), 3) := by decide +kernel
theorem d10_38 : decode prog_16_method_4_code 38 = .ok (.lload_n 1, 1) := by decide +kernel
theorem d10_39 : decode prog_16_method_4_code 39 = .ok (.lreturn, 1) := by decide +kernel
abbrev Y8 : MethodName := (⟨"com/example/feedwright/feedwright/LoadSummary", "records", "()J"⟩ : MethodName)
theorem ef_own_records (m : MethodId) (u0 u1 u2 u3 u4 : Addr) (a : Addr) (b : Addr) (k : ClassId) (c0 : Int64) (c1 : Int64) (c2 : Int64) (c3 : Int64) : entryFrame m #[xr a] 8 = (mkF m 0 #[vr a, vu, vu, vu, vu, vu, vu, vu] []) := by first | (simp [entryFrame, mkF, argsToLocals, Value.category]; done) | rfl
set_option maxRecDepth 65536 in
set_option maxHeartbeats 40000000 in
theorem own_records (l : Launch) (Z : State) (a0 : Array Value) (hw : ∀ d ∈ tables_1, d.before a0 Z = true) (u0 u1 u2 u3 u4 : Addr) (G : own_St Z u0 u1 u2 u3 u4) (a : Addr) (b : Addr) (k : ClassId) (c0 : Int64) (c1 : Int64) (c2 : Int64) (c3 : Int64) (h0 : Heap) (n0 : Nat) (O0 : Old Z n0 h0) (gL : own_LS Z h0 n0 a b k c0 c1 c2 c3) : own_Met l Z Y8 prog_16_method_4_code 8 (some .long) ({ frames := 0, cells := 0, slots := 0, locals := 0 } : Room) #[xr a] h0 (own_QR (some (xj (((((0 : Int64) + c0) + c1) + c2) + c3))) h0 n0) := by
  intro ws
  refine MetFree.of_bodySF (plainFor_of_name pn1) hisR ?_
  intro p e s m args below meth c s₁ Bd hml0 hP hK
  obtain ⟨rfl, hZ, hh⟩ := hP
  have hx := Bd.exec
  have hby := Bd.bytes
  have hml : c.maxLocals = 8 := hml0
  have hown : s.vm.findClass "com/example/feedwright/feedwright/LoadSummary" = some m.cls := findClass_of_methodNamed Bd.named
  have hnm := (name_of_methodNamed Bd.named Bd.method).1
  have X0 : Stand p l e ({ frames := 0, cells := 0, slots := 0, locals := 0 } : Room) s m #[xr a] below meth c s₁ [] 0 0 := Stand.of_body Bd
  have e0 : s₁.heap = h0 := by rw [← hh, Bd.state]; rfl
  have N0 := Fr.nil n0
  have pre0 : ∀ t, Steps p.tables e below (s₁.setTop (mkF m 0 #[vr a, vu, vu, vu, vu, vu, vu, vu] [])) t → Steps p.tables e below (s₁.setTop (entryFrame m #[xr a] 8)) t := fun t st => castTop (ef_own_records m u0 u1 u2 u3 u4 a b k c0 c1 c2 c3) st
  obtain ⟨EA, FA, VA, ne_a_b, g_a, g_b⟩ := gL
  obtain ⟨T1, X1, e1, st1⟩ := getF X0 hx hZ hown (host := "") (Or.inl (ww hw 37 rfl)) Via.refl e0 FA (g := (mkF m 3 #[vr a, vj (0 : Int64), .second, vu, vu, vu, vu, vu] [xr a])) rfl rfl (hb hby d10_3)
  obtain ⟨cl2, Ar2, q2, S2, N2_, H2, G2⟩ := id VA
  obtain ⟨cl3, Ar3, q3, S3, N3_, H3, G3⟩ := id VA
  have hin3 : ¬ ((0 : Int32) < 0 ∨ cl3.slots.size ≤ ((0 : Int32)).toNatClampNeg) := inb_of S3 ⟨by decide, by decide⟩
  have hat3 : cl3.slots[((0 : Int32)).toNatClampNeg]? = some (xj c0) := Has.at H3 hin3 rfl
  obtain ⟨cl4, Ar4, q4, S4, N4_, H4, G4⟩ := id VA
  have hin4 : ¬ ((1 : Int32) < 0 ∨ cl4.slots.size ≤ ((1 : Int32)).toNatClampNeg) := inb_of S4 ⟨by decide, by decide⟩
  have hat4 : cl4.slots[((1 : Int32)).toNatClampNeg]? = some (xj c1) := Has.at H4 hin4 rfl
  obtain ⟨cl5, Ar5, q5, S5, N5_, H5, G5⟩ := id VA
  have hin5 : ¬ ((2 : Int32) < 0 ∨ cl5.slots.size ≤ ((2 : Int32)).toNatClampNeg) := inb_of S5 ⟨by decide, by decide⟩
  have hat5 : cl5.slots[((2 : Int32)).toNatClampNeg]? = some (xj c2) := Has.at H5 hin5 rfl
  obtain ⟨cl6, Ar6, q6, S6, N6_, H6, G6⟩ := id VA
  have hin6 : ¬ ((3 : Int32) < 0 ∨ cl6.slots.size ≤ ((3 : Int32)).toNatClampNeg) := inb_of S6 ⟨by decide, by decide⟩
  have hat6 : cl6.slots[((3 : Int32)).toNatClampNeg]? = some (xj c3) := Has.at H6 hin6 rfl
  obtain ⟨fs, hr, hrun, hended, hW, hsame⟩ := X1.leave (v := some (xj (((((0 : Int64) + c0) + c1) + c2) + c3))) (fun h => by rw [Bd.returns] at h; cases h)
  refine ⟨_, _, pre0 _ ?_, hrun, hended, _, _, rfl, ?_, ⟨_, rfl⟩, hW, hsame.mono (by decide) (by decide)⟩
  · show own_S p e below s₁ (mkF m 0 #[vr a, vu, vu, vu, vu, vu, vu, vu] []) _
    refine XS.lconst X0.here hx rfl (hb hby d10_0) ?_
    show own_S p e below s₁ (mkF m 1 #[vr a, vu, vu, vu, vu, vu, vu, vu] [xj (0 : Int64)]) _
    refine XS.lstoreN X0.here hx rfl (hb hby d10_1) rfl (l' := #[vr a, vj (0 : Int64), .second, vu, vu, vu, vu, vu]) rfl ?_
    show own_S p e below s₁ (mkF m 2 #[vr a, vj (0 : Int64), .second, vu, vu, vu, vu, vu] []) _
    refine XS.aloadN X0.here hx rfl (hb hby d10_2) rfl rfl ?_
    show own_S p e below s₁ (mkF m 3 #[vr a, vj (0 : Int64), .second, vu, vu, vu, vu, vu] [xr a]) _
    refine st1 _ ?_
    show own_S p e below T1 (mkF m 6 #[vr a, vj (0 : Int64), .second, vu, vu, vu, vu, vu] [xr b]) _
    refine XS.astoreN X1.here hx rfl (hb hby d10_6) rfl rfl (l' := #[vr a, vj (0 : Int64), .second, vr b, vu, vu, vu, vu]) rfl ?_
    show own_S p e below T1 (mkF m 7 #[vr a, vj (0 : Int64), .second, vr b, vu, vu, vu, vu] []) _
    refine XS.aloadN X1.here hx rfl (hb hby d10_7) rfl rfl ?_
    show own_S p e below T1 (mkF m 8 #[vr a, vj (0 : Int64), .second, vr b, vu, vu, vu, vu] [xr b]) _
    refine X1.arraylength hx (by rw [e1]; exact Ar2.1) (State.isArrayOf_alike hZ.alike Ar2.2.1) (g := (mkF m 8 #[vr a, vj (0 : Int64), .second, vr b, vu, vu, vu, vu] [xr b])) rfl rfl (hb hby d10_8) _ ?_
    refine castTop (show (mkF m 9 #[vr a, vj (0 : Int64), .second, vr b, vu, vu, vu, vu] [xi cl2.slots.size.toInt32]) = (mkF m 9 #[vr a, vj (0 : Int64), .second, vr b, vu, vu, vu, vu] [xi (4 : Int32)]) from by rw [len_of S2 N2_]) ?_
    show own_S p e below T1 (mkF m 9 #[vr a, vj (0 : Int64), .second, vr b, vu, vu, vu, vu] [xi (4 : Int32)]) _
    refine XS.istore X1.here hx rfl (hb hby d10_9) rfl (l' := #[vr a, vj (0 : Int64), .second, vr b, vi (4 : Int32), vu, vu, vu]) rfl ?_
    show own_S p e below T1 (mkF m 11 #[vr a, vj (0 : Int64), .second, vr b, vi (4 : Int32), vu, vu, vu] []) _
    refine XS.iconst X1.here hx rfl (hb hby d10_11) ?_
    show own_S p e below T1 (mkF m 12 #[vr a, vj (0 : Int64), .second, vr b, vi (4 : Int32), vu, vu, vu] [xi (0 : Int32)]) _
    refine XS.istore X1.here hx rfl (hb hby d10_12) rfl (l' := #[vr a, vj (0 : Int64), .second, vr b, vi (4 : Int32), vi (0 : Int32), vu, vu]) rfl ?_
    show own_S p e below T1 (mkF m 14 #[vr a, vj (0 : Int64), .second, vr b, vi (4 : Int32), vi (0 : Int32), vu, vu] []) _
    refine XS.iload X1.here hx rfl (hb hby d10_14) rfl ?_
    show own_S p e below T1 (mkF m 16 #[vr a, vj (0 : Int64), .second, vr b, vi (4 : Int32), vi (0 : Int32), vu, vu] [xi (0 : Int32)]) _
    refine XS.iload X1.here hx rfl (hb hby d10_16) rfl ?_
    show own_S p e below T1 (mkF m 18 #[vr a, vj (0 : Int64), .second, vr b, vi (4 : Int32), vi (0 : Int32), vu, vu] [xi (4 : Int32), xi (0 : Int32)]) _
    refine XS.icmpNo X1.here hx rfl (hb hby d10_18) rfl (by decide) ?_
    show own_S p e below T1 (mkF m 21 #[vr a, vj (0 : Int64), .second, vr b, vi (4 : Int32), vi (0 : Int32), vu, vu] []) _
    refine XS.aloadN X1.here hx rfl (hb hby d10_21) rfl rfl ?_
    show own_S p e below T1 (mkF m 22 #[vr a, vj (0 : Int64), .second, vr b, vi (4 : Int32), vi (0 : Int32), vu, vu] [xr b]) _
    refine XS.iload X1.here hx rfl (hb hby d10_22) rfl ?_
    show own_S p e below T1 (mkF m 24 #[vr a, vj (0 : Int64), .second, vr b, vi (4 : Int32), vi (0 : Int32), vu, vu] [xi (0 : Int32), xr b]) _
    refine X1.laload hx (j := (0 : Int32)) (v := (xj c0)) (by rw [e1]; exact Ar3.1) (State.isArrayOf_alike hZ.alike Ar3.2.1) Ar3.2.2 hin3 hat3 (g := (mkF m 24 #[vr a, vj (0 : Int64), .second, vr b, vi (4 : Int32), vi (0 : Int32), vu, vu] [xi (0 : Int32), xr b])) rfl rfl (hb hby d10_24) _ ?_
    show own_S p e below T1 (mkF m 25 #[vr a, vj (0 : Int64), .second, vr b, vi (4 : Int32), vi (0 : Int32), vu, vu] [xj c0]) _
    refine XS.lstore X1.here hx rfl (hb hby d10_25) rfl (l' := #[vr a, vj (0 : Int64), .second, vr b, vi (4 : Int32), vi (0 : Int32), vj c0, .second]) rfl ?_
    show own_S p e below T1 (mkF m 27 #[vr a, vj (0 : Int64), .second, vr b, vi (4 : Int32), vi (0 : Int32), vj c0, .second] []) _
    refine XS.lloadN X1.here hx rfl (hb hby d10_27) rfl ?_
    show own_S p e below T1 (mkF m 28 #[vr a, vj (0 : Int64), .second, vr b, vi (4 : Int32), vi (0 : Int32), vj c0, .second] [xj (0 : Int64)]) _
    refine XS.lload X1.here hx rfl (hb hby d10_28) rfl ?_
    show own_S p e below T1 (mkF m 30 #[vr a, vj (0 : Int64), .second, vr b, vi (4 : Int32), vi (0 : Int32), vj c0, .second] [xj c0, xj (0 : Int64)]) _
    refine XS.ladd X1.here hx rfl (hb hby d10_30) rfl ?_
    show own_S p e below T1 (mkF m 31 #[vr a, vj (0 : Int64), .second, vr b, vi (4 : Int32), vi (0 : Int32), vj c0, .second] [xj ((0 : Int64) + c0)]) _
    show own_S p e below T1 (mkF m 31 #[vr a, vj (0 : Int64), .second, vr b, vi (4 : Int32), vi (0 : Int32), vj c0, .second] [xj ((0 : Int64) + c0)]) _
    refine XS.lstoreN X1.here hx rfl (hb hby d10_31) rfl (l' := #[vr a, vj ((0 : Int64) + c0), .second, vr b, vi (4 : Int32), vi (0 : Int32), vj c0, .second]) rfl ?_
    show own_S p e below T1 (mkF m 32 #[vr a, vj ((0 : Int64) + c0), .second, vr b, vi (4 : Int32), vi (0 : Int32), vj c0, .second] []) _
    refine XS.iinc X1.here hx rfl (hb hby d10_32) rfl (l' := #[vr a, vj ((0 : Int64) + c0), .second, vr b, vi (4 : Int32), vi ((0 : Int32) + (1 : Int32)), vj c0, .second]) rfl ?_
    refine castTop (show (mkF m 35 #[vr a, vj ((0 : Int64) + c0), .second, vr b, vi (4 : Int32), vi ((0 : Int32) + (1 : Int32)), vj c0, .second] []) = (mkF m 35 #[vr a, vj ((0 : Int64) + c0), .second, vr b, vi (4 : Int32), vi (1 : Int32), vj c0, .second] []) from by rw [show ((0 : Int32) + (1 : Int32)) = (1 : Int32) from by decide]) ?_
    show own_S p e below T1 (mkF m 35 #[vr a, vj ((0 : Int64) + c0), .second, vr b, vi (4 : Int32), vi (1 : Int32), vj c0, .second] []) _
    refine XS.goto X1.here hx rfl (pc0 := 35) (pc' := 14) rfl (hb hby d10_35) (by decide) (by decide) ?_
    show own_S p e below T1 (mkF m 14 #[vr a, vj ((0 : Int64) + c0), .second, vr b, vi (4 : Int32), vi (1 : Int32), vj c0, .second] []) _
    refine XS.iload X1.here hx rfl (hb hby d10_14) rfl ?_
    show own_S p e below T1 (mkF m 16 #[vr a, vj ((0 : Int64) + c0), .second, vr b, vi (4 : Int32), vi (1 : Int32), vj c0, .second] [xi (1 : Int32)]) _
    refine XS.iload X1.here hx rfl (hb hby d10_16) rfl ?_
    show own_S p e below T1 (mkF m 18 #[vr a, vj ((0 : Int64) + c0), .second, vr b, vi (4 : Int32), vi (1 : Int32), vj c0, .second] [xi (4 : Int32), xi (1 : Int32)]) _
    refine XS.icmpNo X1.here hx rfl (hb hby d10_18) rfl (by decide) ?_
    show own_S p e below T1 (mkF m 21 #[vr a, vj ((0 : Int64) + c0), .second, vr b, vi (4 : Int32), vi (1 : Int32), vj c0, .second] []) _
    refine XS.aloadN X1.here hx rfl (hb hby d10_21) rfl rfl ?_
    show own_S p e below T1 (mkF m 22 #[vr a, vj ((0 : Int64) + c0), .second, vr b, vi (4 : Int32), vi (1 : Int32), vj c0, .second] [xr b]) _
    refine XS.iload X1.here hx rfl (hb hby d10_22) rfl ?_
    show own_S p e below T1 (mkF m 24 #[vr a, vj ((0 : Int64) + c0), .second, vr b, vi (4 : Int32), vi (1 : Int32), vj c0, .second] [xi (1 : Int32), xr b]) _
    refine X1.laload hx (j := (1 : Int32)) (v := (xj c1)) (by rw [e1]; exact Ar4.1) (State.isArrayOf_alike hZ.alike Ar4.2.1) Ar4.2.2 hin4 hat4 (g := (mkF m 24 #[vr a, vj ((0 : Int64) + c0), .second, vr b, vi (4 : Int32), vi (1 : Int32), vj c0, .second] [xi (1 : Int32), xr b])) rfl rfl (hb hby d10_24) _ ?_
    show own_S p e below T1 (mkF m 25 #[vr a, vj ((0 : Int64) + c0), .second, vr b, vi (4 : Int32), vi (1 : Int32), vj c0, .second] [xj c1]) _
    refine XS.lstore X1.here hx rfl (hb hby d10_25) rfl (l' := #[vr a, vj ((0 : Int64) + c0), .second, vr b, vi (4 : Int32), vi (1 : Int32), vj c1, .second]) rfl ?_
    show own_S p e below T1 (mkF m 27 #[vr a, vj ((0 : Int64) + c0), .second, vr b, vi (4 : Int32), vi (1 : Int32), vj c1, .second] []) _
    refine XS.lloadN X1.here hx rfl (hb hby d10_27) rfl ?_
    show own_S p e below T1 (mkF m 28 #[vr a, vj ((0 : Int64) + c0), .second, vr b, vi (4 : Int32), vi (1 : Int32), vj c1, .second] [xj ((0 : Int64) + c0)]) _
    refine XS.lload X1.here hx rfl (hb hby d10_28) rfl ?_
    show own_S p e below T1 (mkF m 30 #[vr a, vj ((0 : Int64) + c0), .second, vr b, vi (4 : Int32), vi (1 : Int32), vj c1, .second] [xj c1, xj ((0 : Int64) + c0)]) _
    refine XS.ladd X1.here hx rfl (hb hby d10_30) rfl ?_
    show own_S p e below T1 (mkF m 31 #[vr a, vj ((0 : Int64) + c0), .second, vr b, vi (4 : Int32), vi (1 : Int32), vj c1, .second] [xj (((0 : Int64) + c0) + c1)]) _
    show own_S p e below T1 (mkF m 31 #[vr a, vj ((0 : Int64) + c0), .second, vr b, vi (4 : Int32), vi (1 : Int32), vj c1, .second] [xj (((0 : Int64) + c0) + c1)]) _
    refine XS.lstoreN X1.here hx rfl (hb hby d10_31) rfl (l' := #[vr a, vj (((0 : Int64) + c0) + c1), .second, vr b, vi (4 : Int32), vi (1 : Int32), vj c1, .second]) rfl ?_
    show own_S p e below T1 (mkF m 32 #[vr a, vj (((0 : Int64) + c0) + c1), .second, vr b, vi (4 : Int32), vi (1 : Int32), vj c1, .second] []) _
    refine XS.iinc X1.here hx rfl (hb hby d10_32) rfl (l' := #[vr a, vj (((0 : Int64) + c0) + c1), .second, vr b, vi (4 : Int32), vi ((1 : Int32) + (1 : Int32)), vj c1, .second]) rfl ?_
    refine castTop (show (mkF m 35 #[vr a, vj (((0 : Int64) + c0) + c1), .second, vr b, vi (4 : Int32), vi ((1 : Int32) + (1 : Int32)), vj c1, .second] []) = (mkF m 35 #[vr a, vj (((0 : Int64) + c0) + c1), .second, vr b, vi (4 : Int32), vi (2 : Int32), vj c1, .second] []) from by rw [show ((1 : Int32) + (1 : Int32)) = (2 : Int32) from by decide]) ?_
    show own_S p e below T1 (mkF m 35 #[vr a, vj (((0 : Int64) + c0) + c1), .second, vr b, vi (4 : Int32), vi (2 : Int32), vj c1, .second] []) _
    refine XS.goto X1.here hx rfl (pc0 := 35) (pc' := 14) rfl (hb hby d10_35) (by decide) (by decide) ?_
    show own_S p e below T1 (mkF m 14 #[vr a, vj (((0 : Int64) + c0) + c1), .second, vr b, vi (4 : Int32), vi (2 : Int32), vj c1, .second] []) _
    refine XS.iload X1.here hx rfl (hb hby d10_14) rfl ?_
    show own_S p e below T1 (mkF m 16 #[vr a, vj (((0 : Int64) + c0) + c1), .second, vr b, vi (4 : Int32), vi (2 : Int32), vj c1, .second] [xi (2 : Int32)]) _
    refine XS.iload X1.here hx rfl (hb hby d10_16) rfl ?_
    show own_S p e below T1 (mkF m 18 #[vr a, vj (((0 : Int64) + c0) + c1), .second, vr b, vi (4 : Int32), vi (2 : Int32), vj c1, .second] [xi (4 : Int32), xi (2 : Int32)]) _
    refine XS.icmpNo X1.here hx rfl (hb hby d10_18) rfl (by decide) ?_
    show own_S p e below T1 (mkF m 21 #[vr a, vj (((0 : Int64) + c0) + c1), .second, vr b, vi (4 : Int32), vi (2 : Int32), vj c1, .second] []) _
    refine XS.aloadN X1.here hx rfl (hb hby d10_21) rfl rfl ?_
    show own_S p e below T1 (mkF m 22 #[vr a, vj (((0 : Int64) + c0) + c1), .second, vr b, vi (4 : Int32), vi (2 : Int32), vj c1, .second] [xr b]) _
    refine XS.iload X1.here hx rfl (hb hby d10_22) rfl ?_
    show own_S p e below T1 (mkF m 24 #[vr a, vj (((0 : Int64) + c0) + c1), .second, vr b, vi (4 : Int32), vi (2 : Int32), vj c1, .second] [xi (2 : Int32), xr b]) _
    refine X1.laload hx (j := (2 : Int32)) (v := (xj c2)) (by rw [e1]; exact Ar5.1) (State.isArrayOf_alike hZ.alike Ar5.2.1) Ar5.2.2 hin5 hat5 (g := (mkF m 24 #[vr a, vj (((0 : Int64) + c0) + c1), .second, vr b, vi (4 : Int32), vi (2 : Int32), vj c1, .second] [xi (2 : Int32), xr b])) rfl rfl (hb hby d10_24) _ ?_
    show own_S p e below T1 (mkF m 25 #[vr a, vj (((0 : Int64) + c0) + c1), .second, vr b, vi (4 : Int32), vi (2 : Int32), vj c1, .second] [xj c2]) _
    refine XS.lstore X1.here hx rfl (hb hby d10_25) rfl (l' := #[vr a, vj (((0 : Int64) + c0) + c1), .second, vr b, vi (4 : Int32), vi (2 : Int32), vj c2, .second]) rfl ?_
    show own_S p e below T1 (mkF m 27 #[vr a, vj (((0 : Int64) + c0) + c1), .second, vr b, vi (4 : Int32), vi (2 : Int32), vj c2, .second] []) _
    refine XS.lloadN X1.here hx rfl (hb hby d10_27) rfl ?_
    show own_S p e below T1 (mkF m 28 #[vr a, vj (((0 : Int64) + c0) + c1), .second, vr b, vi (4 : Int32), vi (2 : Int32), vj c2, .second] [xj (((0 : Int64) + c0) + c1)]) _
    refine XS.lload X1.here hx rfl (hb hby d10_28) rfl ?_
    show own_S p e below T1 (mkF m 30 #[vr a, vj (((0 : Int64) + c0) + c1), .second, vr b, vi (4 : Int32), vi (2 : Int32), vj c2, .second] [xj c2, xj (((0 : Int64) + c0) + c1)]) _
    refine XS.ladd X1.here hx rfl (hb hby d10_30) rfl ?_
    show own_S p e below T1 (mkF m 31 #[vr a, vj (((0 : Int64) + c0) + c1), .second, vr b, vi (4 : Int32), vi (2 : Int32), vj c2, .second] [xj ((((0 : Int64) + c0) + c1) + c2)]) _
    show own_S p e below T1 (mkF m 31 #[vr a, vj (((0 : Int64) + c0) + c1), .second, vr b, vi (4 : Int32), vi (2 : Int32), vj c2, .second] [xj ((((0 : Int64) + c0) + c1) + c2)]) _
    refine XS.lstoreN X1.here hx rfl (hb hby d10_31) rfl (l' := #[vr a, vj ((((0 : Int64) + c0) + c1) + c2), .second, vr b, vi (4 : Int32), vi (2 : Int32), vj c2, .second]) rfl ?_
    show own_S p e below T1 (mkF m 32 #[vr a, vj ((((0 : Int64) + c0) + c1) + c2), .second, vr b, vi (4 : Int32), vi (2 : Int32), vj c2, .second] []) _
    refine XS.iinc X1.here hx rfl (hb hby d10_32) rfl (l' := #[vr a, vj ((((0 : Int64) + c0) + c1) + c2), .second, vr b, vi (4 : Int32), vi ((2 : Int32) + (1 : Int32)), vj c2, .second]) rfl ?_
    refine castTop (show (mkF m 35 #[vr a, vj ((((0 : Int64) + c0) + c1) + c2), .second, vr b, vi (4 : Int32), vi ((2 : Int32) + (1 : Int32)), vj c2, .second] []) = (mkF m 35 #[vr a, vj ((((0 : Int64) + c0) + c1) + c2), .second, vr b, vi (4 : Int32), vi (3 : Int32), vj c2, .second] []) from by rw [show ((2 : Int32) + (1 : Int32)) = (3 : Int32) from by decide]) ?_
    show own_S p e below T1 (mkF m 35 #[vr a, vj ((((0 : Int64) + c0) + c1) + c2), .second, vr b, vi (4 : Int32), vi (3 : Int32), vj c2, .second] []) _
    refine XS.goto X1.here hx rfl (pc0 := 35) (pc' := 14) rfl (hb hby d10_35) (by decide) (by decide) ?_
    show own_S p e below T1 (mkF m 14 #[vr a, vj ((((0 : Int64) + c0) + c1) + c2), .second, vr b, vi (4 : Int32), vi (3 : Int32), vj c2, .second] []) _
    refine XS.iload X1.here hx rfl (hb hby d10_14) rfl ?_
    show own_S p e below T1 (mkF m 16 #[vr a, vj ((((0 : Int64) + c0) + c1) + c2), .second, vr b, vi (4 : Int32), vi (3 : Int32), vj c2, .second] [xi (3 : Int32)]) _
    refine XS.iload X1.here hx rfl (hb hby d10_16) rfl ?_
    show own_S p e below T1 (mkF m 18 #[vr a, vj ((((0 : Int64) + c0) + c1) + c2), .second, vr b, vi (4 : Int32), vi (3 : Int32), vj c2, .second] [xi (4 : Int32), xi (3 : Int32)]) _
    refine XS.icmpNo X1.here hx rfl (hb hby d10_18) rfl (by decide) ?_
    show own_S p e below T1 (mkF m 21 #[vr a, vj ((((0 : Int64) + c0) + c1) + c2), .second, vr b, vi (4 : Int32), vi (3 : Int32), vj c2, .second] []) _
    refine XS.aloadN X1.here hx rfl (hb hby d10_21) rfl rfl ?_
    show own_S p e below T1 (mkF m 22 #[vr a, vj ((((0 : Int64) + c0) + c1) + c2), .second, vr b, vi (4 : Int32), vi (3 : Int32), vj c2, .second] [xr b]) _
    refine XS.iload X1.here hx rfl (hb hby d10_22) rfl ?_
    show own_S p e below T1 (mkF m 24 #[vr a, vj ((((0 : Int64) + c0) + c1) + c2), .second, vr b, vi (4 : Int32), vi (3 : Int32), vj c2, .second] [xi (3 : Int32), xr b]) _
    refine X1.laload hx (j := (3 : Int32)) (v := (xj c3)) (by rw [e1]; exact Ar6.1) (State.isArrayOf_alike hZ.alike Ar6.2.1) Ar6.2.2 hin6 hat6 (g := (mkF m 24 #[vr a, vj ((((0 : Int64) + c0) + c1) + c2), .second, vr b, vi (4 : Int32), vi (3 : Int32), vj c2, .second] [xi (3 : Int32), xr b])) rfl rfl (hb hby d10_24) _ ?_
    show own_S p e below T1 (mkF m 25 #[vr a, vj ((((0 : Int64) + c0) + c1) + c2), .second, vr b, vi (4 : Int32), vi (3 : Int32), vj c2, .second] [xj c3]) _
    refine XS.lstore X1.here hx rfl (hb hby d10_25) rfl (l' := #[vr a, vj ((((0 : Int64) + c0) + c1) + c2), .second, vr b, vi (4 : Int32), vi (3 : Int32), vj c3, .second]) rfl ?_
    show own_S p e below T1 (mkF m 27 #[vr a, vj ((((0 : Int64) + c0) + c1) + c2), .second, vr b, vi (4 : Int32), vi (3 : Int32), vj c3, .second] []) _
    refine XS.lloadN X1.here hx rfl (hb hby d10_27) rfl ?_
    show own_S p e below T1 (mkF m 28 #[vr a, vj ((((0 : Int64) + c0) + c1) + c2), .second, vr b, vi (4 : Int32), vi (3 : Int32), vj c3, .second] [xj ((((0 : Int64) + c0) + c1) + c2)]) _
    refine XS.lload X1.here hx rfl (hb hby d10_28) rfl ?_
    show own_S p e below T1 (mkF m 30 #[vr a, vj ((((0 : Int64) + c0) + c1) + c2), .second, vr b, vi (4 : Int32), vi (3 : Int32), vj c3, .second] [xj c3, xj ((((0 : Int64) + c0) + c1) + c2)]) _
    refine XS.ladd X1.here hx rfl (hb hby d10_30) rfl ?_
    show own_S p e below T1 (mkF m 31 #[vr a, vj ((((0 : Int64) + c0) + c1) + c2), .second, vr b, vi (4 : Int32), vi (3 : Int32), vj c3, .second] [xj (((((0 : Int64) + c0) + c1) + c2) + c3)]) _
    show own_S p e below T1 (mkF m 31 #[vr a, vj ((((0 : Int64) + c0) + c1) + c2), .second, vr b, vi (4 : Int32), vi (3 : Int32), vj c3, .second] [xj (((((0 : Int64) + c0) + c1) + c2) + c3)]) _
    refine XS.lstoreN X1.here hx rfl (hb hby d10_31) rfl (l' := #[vr a, vj (((((0 : Int64) + c0) + c1) + c2) + c3), .second, vr b, vi (4 : Int32), vi (3 : Int32), vj c3, .second]) rfl ?_
    show own_S p e below T1 (mkF m 32 #[vr a, vj (((((0 : Int64) + c0) + c1) + c2) + c3), .second, vr b, vi (4 : Int32), vi (3 : Int32), vj c3, .second] []) _
    refine XS.iinc X1.here hx rfl (hb hby d10_32) rfl (l' := #[vr a, vj (((((0 : Int64) + c0) + c1) + c2) + c3), .second, vr b, vi (4 : Int32), vi ((3 : Int32) + (1 : Int32)), vj c3, .second]) rfl ?_
    refine castTop (show (mkF m 35 #[vr a, vj (((((0 : Int64) + c0) + c1) + c2) + c3), .second, vr b, vi (4 : Int32), vi ((3 : Int32) + (1 : Int32)), vj c3, .second] []) = (mkF m 35 #[vr a, vj (((((0 : Int64) + c0) + c1) + c2) + c3), .second, vr b, vi (4 : Int32), vi (4 : Int32), vj c3, .second] []) from by rw [show ((3 : Int32) + (1 : Int32)) = (4 : Int32) from by decide]) ?_
    show own_S p e below T1 (mkF m 35 #[vr a, vj (((((0 : Int64) + c0) + c1) + c2) + c3), .second, vr b, vi (4 : Int32), vi (4 : Int32), vj c3, .second] []) _
    refine XS.goto X1.here hx rfl (pc0 := 35) (pc' := 14) rfl (hb hby d10_35) (by decide) (by decide) ?_
    show own_S p e below T1 (mkF m 14 #[vr a, vj (((((0 : Int64) + c0) + c1) + c2) + c3), .second, vr b, vi (4 : Int32), vi (4 : Int32), vj c3, .second] []) _
    refine XS.iload X1.here hx rfl (hb hby d10_14) rfl ?_
    show own_S p e below T1 (mkF m 16 #[vr a, vj (((((0 : Int64) + c0) + c1) + c2) + c3), .second, vr b, vi (4 : Int32), vi (4 : Int32), vj c3, .second] [xi (4 : Int32)]) _
    refine XS.iload X1.here hx rfl (hb hby d10_16) rfl ?_
    show own_S p e below T1 (mkF m 18 #[vr a, vj (((((0 : Int64) + c0) + c1) + c2) + c3), .second, vr b, vi (4 : Int32), vi (4 : Int32), vj c3, .second] [xi (4 : Int32), xi (4 : Int32)]) _
    refine XS.icmpYes X1.here hx rfl (pc0 := 18) (pc' := 38) rfl (hb hby d10_18) rfl (by decide) (by decide) (by decide) ?_
    show own_S p e below T1 (mkF m 38 #[vr a, vj (((((0 : Int64) + c0) + c1) + c2) + c3), .second, vr b, vi (4 : Int32), vi (4 : Int32), vj c3, .second] []) _
    refine XS.lloadN X1.here hx rfl (hb hby d10_38) rfl ?_
    show own_S p e below T1 (mkF m 39 #[vr a, vj (((((0 : Int64) + c0) + c1) + c2) + c3), .second, vr b, vi (4 : Int32), vi (4 : Int32), vj c3, .second] [xj (((((0 : Int64) + c0) + c1) + c2) + c3)]) _
    exact X1.lreturnOut hx Bd.returns (hb hby d10_39) hr
  · exact ⟨rfl, N0, e1⟩
theorem pd2 : parseMethodDescriptor "(I)Lcom/example/feedwright/feedwright/Verdict;" = some ⟨[.int], some (.object "com/example/feedwright/feedwright/Verdict")⟩ := by decide +kernel
theorem pd3 : parseMethodDescriptor "()V" = some ⟨[], none⟩ := by decide +kernel
theorem pd4 : parseMethodDescriptor "(Lcom/example/feedwright/feedwright/Verdict;)J" = some ⟨[(.object "com/example/feedwright/feedwright/Verdict")], some .long⟩ := by decide +kernel
theorem d8_0 : decode method_4_code 0 = .ok (.iload 4, 2) := by decide +kernel
theorem d8_2 : decode method_4_code 2 = .ok (.iconst 1, 1) := by decide +kernel
theorem d8_3 : decode method_4_code 3 = .ok (.iand, 1) := by decide +kernel
theorem d8_4 : decode method_4_code 4 = .ok (.ifCond .eq 7, 3) := by decide +kernel
theorem d8_11 : decode method_4_code 11 = .ok (.iconst 0, 1) := by decide +kernel
theorem d8_12 : decode method_4_code 12 = .ok (.iload_n 1, 1) := by decide +kernel
theorem d8_13 : decode method_4_code 13 = .ok (.iload_n 0, 1) := by decide +kernel
theorem d8_14 : decode method_4_code 14 = .ok (.invokestatic 22, 3) := by decide +kernel
theorem pd5 : parseMethodDescriptor "(ZII)J" = some ⟨[.boolean, .int, .int], some .long⟩ := by decide +kernel
theorem d8_17 : decode method_4_code 17 = .ok (.iload 4, 2) := by decide +kernel
theorem d8_19 : decode method_4_code 19 = .ok (.iconst 2, 1) := by decide +kernel
theorem d8_20 : decode method_4_code 20 = .ok (.iand, 1) := by decide +kernel
theorem d8_21 : decode method_4_code 21 = .ok (.ifCond .eq 7, 3) := by decide +kernel
theorem d8_28 : decode method_4_code 28 = .ok (.iconst 0, 1) := by decide +kernel
theorem d8_29 : decode method_4_code 29 = .ok (.iload_n 2, 1) := by decide +kernel
theorem d8_30 : decode method_4_code 30 = .ok (.iload_n 0, 1) := by decide +kernel
theorem d8_31 : decode method_4_code 31 = .ok (.invokestatic 22, 3) := by decide +kernel
theorem d8_34 : decode method_4_code 34 = .ok (.ladd, 1) := by decide +kernel
theorem d8_35 : decode method_4_code 35 = .ok (.iload 4, 2) := by decide +kernel
theorem d8_37 : decode method_4_code 37 = .ok (.iconst 4, 1) := by decide +kernel
theorem d8_38 : decode method_4_code 38 = .ok (.iand, 1) := by decide +kernel
theorem d8_39 : decode method_4_code 39 = .ok (.ifCond .eq 7, 3) := by decide +kernel
theorem d8_46 : decode method_4_code 46 = .ok (.iconst 0, 1) := by decide +kernel
theorem d8_47 : decode method_4_code 47 = .ok (.iload_n 3, 1) := by decide +kernel
theorem d8_48 : decode method_4_code 48 = .ok (.iload_n 0, 1) := by decide +kernel
theorem d8_49 : decode method_4_code 49 = .ok (.invokestatic 22, 3) := by decide +kernel
theorem d8_52 : decode method_4_code 52 = .ok (.ladd, 1) := by decide +kernel
theorem d8_53 : decode method_4_code 53 = .ok (.lreturn, 1) := by decide +kernel
abbrev Y9 : MethodName := (⟨"com/example/feedwright/feedwright/LoadSummaryAddPinLaw", "expected", "(IIIII)J"⟩ : MethodName)
theorem ef_own_c4_expected (m : MethodId) (u0 u1 u2 u3 u4 : Addr) (p1 : Int32) (p2 : Int32) (p3 : Int32) (p4 : Int32) : entryFrame m #[xi (0 : Int32), xi p1, xi p2, xi p3, xi p4] 5 = (mkF m 0 #[vi (0 : Int32), vi p1, vi p2, vi p3, vi p4] []) := by first | (simp [entryFrame, mkF, argsToLocals, Value.category]; done) | rfl
set_option maxRecDepth 65536 in
set_option maxHeartbeats 40000000 in
theorem own_c4_expected (l : Launch) (Z : State) (a0 : Array Value) (hw : ∀ d ∈ tables_1, d.before a0 Z = true) (u0 u1 u2 u3 u4 : Addr) (G : own_St Z u0 u1 u2 u3 u4) (p1 : Int32) (p2 : Int32) (p3 : Int32) (p4 : Int32) (as6 : (p4 &&& (1 : Int32)) = (0 : Int32)) (as8 : (p4 &&& (2 : Int32)) = (0 : Int32)) (as10 : (p4 &&& (4 : Int32)) = (0 : Int32)) (h0 : Heap) (n0 : Nat) (O0 : Old Z n0 h0) : own_Met l Z Y9 method_4_code 5 (some .long) ({ frames := 1, cells := 0, slots := 0, locals := 16 } : Room) #[xi (0 : Int32), xi p1, xi p2, xi p3, xi p4] h0 (own_QR (some (xj (0 : Int64))) h0 n0) := by
  intro ws
  refine MetFree.of_bodySF (plainFor_of_name pn3) hisR ?_
  intro p e s m args below meth c s₁ Bd hml0 hP hK
  obtain ⟨rfl, hZ, hh⟩ := hP
  have hx := Bd.exec
  have hby := Bd.bytes
  have hml : c.maxLocals = 5 := hml0
  have hown : s.vm.findClass "com/example/feedwright/feedwright/LoadSummaryAddPinLaw" = some m.cls := findClass_of_methodNamed Bd.named
  have hnm := (name_of_methodNamed Bd.named Bd.method).1
  have X0 : Stand p l e ({ frames := 1, cells := 0, slots := 0, locals := 16 } : Room) s m #[xi (0 : Int32), xi p1, xi p2, xi p3, xi p4] below meth c s₁ [] 0 0 := Stand.of_body Bd
  have e0 : s₁.heap = h0 := by rw [← hh, Bd.state]; rfl
  have N0 := Fr.nil n0
  have pre0 : ∀ t, Steps p.tables e below (s₁.setTop (mkF m 0 #[vi (0 : Int32), vi p1, vi p2, vi p3, vi p4] [])) t → Steps p.tables e below (s₁.setTop (entryFrame m #[xi (0 : Int32), xi p1, xi p2, xi p3, xi p4] 5)) t := fun t st => castTop (ef_own_c4_expected m u0 u1 u2 u3 u4 p1 p2 p3 p4) st
  obtain ⟨_, _, ⟨T1, L1, k1, n1⟩, -, X1, ⟨Lc1, hQ1, l1, y1, z1⟩, st1⟩ := Jvm.LawKit.callS X0 hx (y := Y6) hown (mvT hZ (ww hw 61 rfl)) (mvT hZ (ww hw 62 rfl)) (mvT hZ (ww hw 2 rfl)) (mvT hZ (ww hw 63 rfl)) (by decide) (backOf (W := 0) (own_hit_off l Z a0 hw u0 u1 u2 u3 u4 G p1 (0 : Int32) h0 n0 O0 []) hZ (ww hw 63 rfl) (ww hw 2 rfl) (by decide) (by decide)) (g := (mkF m 14 #[vi (0 : Int32), vi p1, vi p2, vi p3, vi p4] [xi (0 : Int32), xi p1, xi (0 : Int32)])) rfl (by rw [hml]; rfl) (argsL := [xi (0 : Int32), xi p1, xi (0 : Int32)]) (rest := []) (lenOf pd5 rfl) rfl (by show 2 * 0 + _ ≤ _; exact Nat.le_of_eq rfl) (hb hby d8_14) (fun _ _ => ⟨rfl, e0, (by decide : 0 + 0 ≤ _), (by decide : 0 + 0 ≤ _)⟩)
  dsimp only [Pt.U, Pt.locs, Pt.cells, Pt.slots] at X1 l1 y1 z1 st1 hQ1
  subst l1 y1 z1
  obtain ⟨rfl, Nq1, e1⟩ := hQ1
  have N1 := Fr.app N0 Nq1
  obtain ⟨_, _, ⟨T2, L2, k2, n2⟩, -, X2, ⟨Lc2, hQ2, l2, y2, z2⟩, st2⟩ := Jvm.LawKit.callS X1 hx (y := Y6) hown (mvT hZ (ww hw 61 rfl)) (mvT hZ (ww hw 62 rfl)) (mvT hZ (ww hw 2 rfl)) (mvT hZ (ww hw 63 rfl)) (by decide) (backOf (W := 2) (own_hit_off l Z a0 hw u0 u1 u2 u3 u4 G p2 (0 : Int32) h0 n0 O0 []) hZ (ww hw 63 rfl) (ww hw 2 rfl) (by decide) (by decide)) (g := (mkF m 31 #[vi (0 : Int32), vi p1, vi p2, vi p3, vi p4] [xi (0 : Int32), xi p2, xi (0 : Int32), xj (0 : Int64)])) rfl (by rw [hml]; rfl) (argsL := [xi (0 : Int32), xi p2, xi (0 : Int32)]) (rest := [xj (0 : Int64)]) (lenOf pd5 rfl) rfl (by show 2 * 0 + _ ≤ _; exact Nat.le_of_eq rfl) (hb hby d8_31) (fun _ _ => ⟨rfl, e1, (by decide : 0 + 0 ≤ _), (by decide : 0 + 0 ≤ _)⟩)
  dsimp only [Pt.U, Pt.locs, Pt.cells, Pt.slots] at X2 l2 y2 z2 st2 hQ2
  subst l2 y2 z2
  obtain ⟨rfl, Nq2, e2⟩ := hQ2
  have N2 := Fr.app N1 Nq2
  obtain ⟨_, _, ⟨T3, L3, k3, n3⟩, -, X3, ⟨Lc3, hQ3, l3, y3, z3⟩, st3⟩ := Jvm.LawKit.callS X2 hx (y := Y6) hown (mvT hZ (ww hw 61 rfl)) (mvT hZ (ww hw 62 rfl)) (mvT hZ (ww hw 2 rfl)) (mvT hZ (ww hw 63 rfl)) (by decide) (backOf (W := 2) (own_hit_off l Z a0 hw u0 u1 u2 u3 u4 G p3 (0 : Int32) h0 n0 O0 []) hZ (ww hw 63 rfl) (ww hw 2 rfl) (by decide) (by decide)) (g := (mkF m 49 #[vi (0 : Int32), vi p1, vi p2, vi p3, vi p4] [xi (0 : Int32), xi p3, xi (0 : Int32), xj (0 : Int64)])) rfl (by rw [hml]; rfl) (argsL := [xi (0 : Int32), xi p3, xi (0 : Int32)]) (rest := [xj (0 : Int64)]) (lenOf pd5 rfl) rfl (by show 2 * 0 + _ ≤ _; exact Nat.le_of_eq rfl) (hb hby d8_49) (fun _ _ => ⟨rfl, e2, (by decide : 0 + 0 ≤ _), (by decide : 0 + 0 ≤ _)⟩)
  dsimp only [Pt.U, Pt.locs, Pt.cells, Pt.slots] at X3 l3 y3 z3 st3 hQ3
  subst l3 y3 z3
  obtain ⟨rfl, Nq3, e3⟩ := hQ3
  have N3 := Fr.app N2 Nq3
  obtain ⟨fs, hr, hrun, hended, hW, hsame⟩ := X3.leave (v := some (xj (0 : Int64))) (fun h => by rw [Bd.returns] at h; cases h)
  refine ⟨_, _, pre0 _ ?_, hrun, hended, _, _, rfl, ?_, ⟨_, rfl⟩, hW, hsame.mono (by decide) (by decide)⟩
  · show own_S p e below s₁ (mkF m 0 #[vi (0 : Int32), vi p1, vi p2, vi p3, vi p4] []) _
    refine XS.iload X0.here hx rfl (hb hby d8_0) rfl ?_
    show own_S p e below s₁ (mkF m 2 #[vi (0 : Int32), vi p1, vi p2, vi p3, vi p4] [xi p4]) _
    refine XS.iconst X0.here hx rfl (hb hby d8_2) ?_
    show own_S p e below s₁ (mkF m 3 #[vi (0 : Int32), vi p1, vi p2, vi p3, vi p4] [xi (1 : Int32), xi p4]) _
    refine XS.iand X0.here hx rfl (hb hby d8_3) rfl ?_
    show own_S p e below s₁ (mkF m 4 #[vi (0 : Int32), vi p1, vi p2, vi p3, vi p4] [xi (p4 &&& (1 : Int32))]) _
    refine castTop (show (mkF m 4 #[vi (0 : Int32), vi p1, vi p2, vi p3, vi p4] [xi (p4 &&& (1 : Int32))]) = (mkF m 4 #[vi (0 : Int32), vi p1, vi p2, vi p3, vi p4] [xi (0 : Int32)]) from by rw [as6]) ?_
    show own_S p e below s₁ (mkF m 4 #[vi (0 : Int32), vi p1, vi p2, vi p3, vi p4] [xi (0 : Int32)]) _
    refine XS.ifYes X0.here hx rfl (pc0 := 4) (pc' := 11) rfl (hb hby d8_4) rfl (by decide) (by decide) (by decide) ?_
    show own_S p e below s₁ (mkF m 11 #[vi (0 : Int32), vi p1, vi p2, vi p3, vi p4] []) _
    refine XS.iconst X0.here hx rfl (hb hby d8_11) ?_
    show own_S p e below s₁ (mkF m 12 #[vi (0 : Int32), vi p1, vi p2, vi p3, vi p4] [xi (0 : Int32)]) _
    refine XS.iloadN X0.here hx rfl (hb hby d8_12) rfl ?_
    show own_S p e below s₁ (mkF m 13 #[vi (0 : Int32), vi p1, vi p2, vi p3, vi p4] [xi p1, xi (0 : Int32)]) _
    refine XS.iloadN X0.here hx rfl (hb hby d8_13) rfl ?_
    show own_S p e below s₁ (mkF m 14 #[vi (0 : Int32), vi p1, vi p2, vi p3, vi p4] [xi (0 : Int32), xi p1, xi (0 : Int32)]) _
    refine st1 _ ?_
    show own_S p e below T1 (mkF m 17 #[vi (0 : Int32), vi p1, vi p2, vi p3, vi p4] [xj (0 : Int64)]) _
    refine XS.iload X1.here hx rfl (hb hby d8_17) rfl ?_
    show own_S p e below T1 (mkF m 19 #[vi (0 : Int32), vi p1, vi p2, vi p3, vi p4] [xi p4, xj (0 : Int64)]) _
    refine XS.iconst X1.here hx rfl (hb hby d8_19) ?_
    show own_S p e below T1 (mkF m 20 #[vi (0 : Int32), vi p1, vi p2, vi p3, vi p4] [xi (2 : Int32), xi p4, xj (0 : Int64)]) _
    refine XS.iand X1.here hx rfl (hb hby d8_20) rfl ?_
    show own_S p e below T1 (mkF m 21 #[vi (0 : Int32), vi p1, vi p2, vi p3, vi p4] [xi (p4 &&& (2 : Int32)), xj (0 : Int64)]) _
    refine castTop (show (mkF m 21 #[vi (0 : Int32), vi p1, vi p2, vi p3, vi p4] [xi (p4 &&& (2 : Int32)), xj (0 : Int64)]) = (mkF m 21 #[vi (0 : Int32), vi p1, vi p2, vi p3, vi p4] [xi (0 : Int32), xj (0 : Int64)]) from by rw [as8]) ?_
    show own_S p e below T1 (mkF m 21 #[vi (0 : Int32), vi p1, vi p2, vi p3, vi p4] [xi (0 : Int32), xj (0 : Int64)]) _
    refine XS.ifYes X1.here hx rfl (pc0 := 21) (pc' := 28) rfl (hb hby d8_21) rfl (by decide) (by decide) (by decide) ?_
    show own_S p e below T1 (mkF m 28 #[vi (0 : Int32), vi p1, vi p2, vi p3, vi p4] [xj (0 : Int64)]) _
    refine XS.iconst X1.here hx rfl (hb hby d8_28) ?_
    show own_S p e below T1 (mkF m 29 #[vi (0 : Int32), vi p1, vi p2, vi p3, vi p4] [xi (0 : Int32), xj (0 : Int64)]) _
    refine XS.iloadN X1.here hx rfl (hb hby d8_29) rfl ?_
    show own_S p e below T1 (mkF m 30 #[vi (0 : Int32), vi p1, vi p2, vi p3, vi p4] [xi p2, xi (0 : Int32), xj (0 : Int64)]) _
    refine XS.iloadN X1.here hx rfl (hb hby d8_30) rfl ?_
    show own_S p e below T1 (mkF m 31 #[vi (0 : Int32), vi p1, vi p2, vi p3, vi p4] [xi (0 : Int32), xi p2, xi (0 : Int32), xj (0 : Int64)]) _
    refine st2 _ ?_
    show own_S p e below T2 (mkF m 34 #[vi (0 : Int32), vi p1, vi p2, vi p3, vi p4] [xj (0 : Int64), xj (0 : Int64)]) _
    refine XS.ladd X2.here hx rfl (hb hby d8_34) rfl ?_
    show own_S p e below T2 (mkF m 35 #[vi (0 : Int32), vi p1, vi p2, vi p3, vi p4] [xj ((0 : Int64) + (0 : Int64))]) _
    refine castTop (show (mkF m 35 #[vi (0 : Int32), vi p1, vi p2, vi p3, vi p4] [xj ((0 : Int64) + (0 : Int64))]) = (mkF m 35 #[vi (0 : Int32), vi p1, vi p2, vi p3, vi p4] [xj (0 : Int64)]) from by rw [show ((0 : Int64) + (0 : Int64)) = (0 : Int64) from by decide]) ?_
    show own_S p e below T2 (mkF m 35 #[vi (0 : Int32), vi p1, vi p2, vi p3, vi p4] [xj (0 : Int64)]) _
    refine XS.iload X2.here hx rfl (hb hby d8_35) rfl ?_
    show own_S p e below T2 (mkF m 37 #[vi (0 : Int32), vi p1, vi p2, vi p3, vi p4] [xi p4, xj (0 : Int64)]) _
    refine XS.iconst X2.here hx rfl (hb hby d8_37) ?_
    show own_S p e below T2 (mkF m 38 #[vi (0 : Int32), vi p1, vi p2, vi p3, vi p4] [xi (4 : Int32), xi p4, xj (0 : Int64)]) _
    refine XS.iand X2.here hx rfl (hb hby d8_38) rfl ?_
    show own_S p e below T2 (mkF m 39 #[vi (0 : Int32), vi p1, vi p2, vi p3, vi p4] [xi (p4 &&& (4 : Int32)), xj (0 : Int64)]) _
    refine castTop (show (mkF m 39 #[vi (0 : Int32), vi p1, vi p2, vi p3, vi p4] [xi (p4 &&& (4 : Int32)), xj (0 : Int64)]) = (mkF m 39 #[vi (0 : Int32), vi p1, vi p2, vi p3, vi p4] [xi (0 : Int32), xj (0 : Int64)]) from by rw [as10]) ?_
    show own_S p e below T2 (mkF m 39 #[vi (0 : Int32), vi p1, vi p2, vi p3, vi p4] [xi (0 : Int32), xj (0 : Int64)]) _
    refine XS.ifYes X2.here hx rfl (pc0 := 39) (pc' := 46) rfl (hb hby d8_39) rfl (by decide) (by decide) (by decide) ?_
    show own_S p e below T2 (mkF m 46 #[vi (0 : Int32), vi p1, vi p2, vi p3, vi p4] [xj (0 : Int64)]) _
    refine XS.iconst X2.here hx rfl (hb hby d8_46) ?_
    show own_S p e below T2 (mkF m 47 #[vi (0 : Int32), vi p1, vi p2, vi p3, vi p4] [xi (0 : Int32), xj (0 : Int64)]) _
    refine XS.iloadN X2.here hx rfl (hb hby d8_47) rfl ?_
    show own_S p e below T2 (mkF m 48 #[vi (0 : Int32), vi p1, vi p2, vi p3, vi p4] [xi p3, xi (0 : Int32), xj (0 : Int64)]) _
    refine XS.iloadN X2.here hx rfl (hb hby d8_48) rfl ?_
    show own_S p e below T2 (mkF m 49 #[vi (0 : Int32), vi p1, vi p2, vi p3, vi p4] [xi (0 : Int32), xi p3, xi (0 : Int32), xj (0 : Int64)]) _
    refine st3 _ ?_
    show own_S p e below T3 (mkF m 52 #[vi (0 : Int32), vi p1, vi p2, vi p3, vi p4] [xj (0 : Int64), xj (0 : Int64)]) _
    refine XS.ladd X3.here hx rfl (hb hby d8_52) rfl ?_
    show own_S p e below T3 (mkF m 53 #[vi (0 : Int32), vi p1, vi p2, vi p3, vi p4] [xj ((0 : Int64) + (0 : Int64))]) _
    refine castTop (show (mkF m 53 #[vi (0 : Int32), vi p1, vi p2, vi p3, vi p4] [xj ((0 : Int64) + (0 : Int64))]) = (mkF m 53 #[vi (0 : Int32), vi p1, vi p2, vi p3, vi p4] [xj (0 : Int64)]) from by rw [show ((0 : Int64) + (0 : Int64)) = (0 : Int64) from by decide]) ?_
    show own_S p e below T3 (mkF m 53 #[vi (0 : Int32), vi p1, vi p2, vi p3, vi p4] [xj (0 : Int64)]) _
    exact X3.lreturnOut hx Bd.returns (hb hby d8_53) hr
  · exact ⟨rfl, N3, e3⟩
theorem pd6 : parseMethodDescriptor "(IIIII)J" = some ⟨[.int, .int, .int, .int, .int], some .long⟩ := by decide +kernel
theorem ef_own_c5_expected (m : MethodId) (u0 u1 u2 u3 u4 : Addr) (p1 : Int32) (p2 : Int32) (p3 : Int32) (p4 : Int32) : entryFrame m #[xi (1 : Int32), xi p1, xi p2, xi p3, xi p4] 5 = (mkF m 0 #[vi (1 : Int32), vi p1, vi p2, vi p3, vi p4] []) := by first | (simp [entryFrame, mkF, argsToLocals, Value.category]; done) | rfl
set_option maxRecDepth 65536 in
set_option maxHeartbeats 40000000 in
theorem own_c5_expected (l : Launch) (Z : State) (a0 : Array Value) (hw : ∀ d ∈ tables_1, d.before a0 Z = true) (u0 u1 u2 u3 u4 : Addr) (G : own_St Z u0 u1 u2 u3 u4) (p1 : Int32) (p2 : Int32) (p3 : Int32) (p4 : Int32) (as6 : (p4 &&& (1 : Int32)) = (0 : Int32)) (as8 : (p4 &&& (2 : Int32)) = (0 : Int32)) (as10 : (p4 &&& (4 : Int32)) = (0 : Int32)) (h0 : Heap) (n0 : Nat) (O0 : Old Z n0 h0) : own_Met l Z Y9 method_4_code 5 (some .long) ({ frames := 1, cells := 0, slots := 0, locals := 16 } : Room) #[xi (1 : Int32), xi p1, xi p2, xi p3, xi p4] h0 (own_QR (some (xj (0 : Int64))) h0 n0) := by
  intro ws
  refine MetFree.of_bodySF (plainFor_of_name pn3) hisR ?_
  intro p e s m args below meth c s₁ Bd hml0 hP hK
  obtain ⟨rfl, hZ, hh⟩ := hP
  have hx := Bd.exec
  have hby := Bd.bytes
  have hml : c.maxLocals = 5 := hml0
  have hown : s.vm.findClass "com/example/feedwright/feedwright/LoadSummaryAddPinLaw" = some m.cls := findClass_of_methodNamed Bd.named
  have hnm := (name_of_methodNamed Bd.named Bd.method).1
  have X0 : Stand p l e ({ frames := 1, cells := 0, slots := 0, locals := 16 } : Room) s m #[xi (1 : Int32), xi p1, xi p2, xi p3, xi p4] below meth c s₁ [] 0 0 := Stand.of_body Bd
  have e0 : s₁.heap = h0 := by rw [← hh, Bd.state]; rfl
  have N0 := Fr.nil n0
  have pre0 : ∀ t, Steps p.tables e below (s₁.setTop (mkF m 0 #[vi (1 : Int32), vi p1, vi p2, vi p3, vi p4] [])) t → Steps p.tables e below (s₁.setTop (entryFrame m #[xi (1 : Int32), xi p1, xi p2, xi p3, xi p4] 5)) t := fun t st => castTop (ef_own_c5_expected m u0 u1 u2 u3 u4 p1 p2 p3 p4) st
  obtain ⟨_, _, ⟨T1, L1, k1, n1⟩, -, X1, ⟨Lc1, hQ1, l1, y1, z1⟩, st1⟩ := Jvm.LawKit.callS X0 hx (y := Y6) hown (mvT hZ (ww hw 61 rfl)) (mvT hZ (ww hw 62 rfl)) (mvT hZ (ww hw 2 rfl)) (mvT hZ (ww hw 63 rfl)) (by decide) (backOf (W := 0) (own_hit_off l Z a0 hw u0 u1 u2 u3 u4 G p1 (1 : Int32) h0 n0 O0 []) hZ (ww hw 63 rfl) (ww hw 2 rfl) (by decide) (by decide)) (g := (mkF m 14 #[vi (1 : Int32), vi p1, vi p2, vi p3, vi p4] [xi (1 : Int32), xi p1, xi (0 : Int32)])) rfl (by rw [hml]; rfl) (argsL := [xi (0 : Int32), xi p1, xi (1 : Int32)]) (rest := []) (lenOf pd5 rfl) rfl (by show 2 * 0 + _ ≤ _; exact Nat.le_of_eq rfl) (hb hby d8_14) (fun _ _ => ⟨rfl, e0, (by decide : 0 + 0 ≤ _), (by decide : 0 + 0 ≤ _)⟩)
  dsimp only [Pt.U, Pt.locs, Pt.cells, Pt.slots] at X1 l1 y1 z1 st1 hQ1
  subst l1 y1 z1
  obtain ⟨rfl, Nq1, e1⟩ := hQ1
  have N1 := Fr.app N0 Nq1
  obtain ⟨_, _, ⟨T2, L2, k2, n2⟩, -, X2, ⟨Lc2, hQ2, l2, y2, z2⟩, st2⟩ := Jvm.LawKit.callS X1 hx (y := Y6) hown (mvT hZ (ww hw 61 rfl)) (mvT hZ (ww hw 62 rfl)) (mvT hZ (ww hw 2 rfl)) (mvT hZ (ww hw 63 rfl)) (by decide) (backOf (W := 2) (own_hit_off l Z a0 hw u0 u1 u2 u3 u4 G p2 (1 : Int32) h0 n0 O0 []) hZ (ww hw 63 rfl) (ww hw 2 rfl) (by decide) (by decide)) (g := (mkF m 31 #[vi (1 : Int32), vi p1, vi p2, vi p3, vi p4] [xi (1 : Int32), xi p2, xi (0 : Int32), xj (0 : Int64)])) rfl (by rw [hml]; rfl) (argsL := [xi (0 : Int32), xi p2, xi (1 : Int32)]) (rest := [xj (0 : Int64)]) (lenOf pd5 rfl) rfl (by show 2 * 0 + _ ≤ _; exact Nat.le_of_eq rfl) (hb hby d8_31) (fun _ _ => ⟨rfl, e1, (by decide : 0 + 0 ≤ _), (by decide : 0 + 0 ≤ _)⟩)
  dsimp only [Pt.U, Pt.locs, Pt.cells, Pt.slots] at X2 l2 y2 z2 st2 hQ2
  subst l2 y2 z2
  obtain ⟨rfl, Nq2, e2⟩ := hQ2
  have N2 := Fr.app N1 Nq2
  obtain ⟨_, _, ⟨T3, L3, k3, n3⟩, -, X3, ⟨Lc3, hQ3, l3, y3, z3⟩, st3⟩ := Jvm.LawKit.callS X2 hx (y := Y6) hown (mvT hZ (ww hw 61 rfl)) (mvT hZ (ww hw 62 rfl)) (mvT hZ (ww hw 2 rfl)) (mvT hZ (ww hw 63 rfl)) (by decide) (backOf (W := 2) (own_hit_off l Z a0 hw u0 u1 u2 u3 u4 G p3 (1 : Int32) h0 n0 O0 []) hZ (ww hw 63 rfl) (ww hw 2 rfl) (by decide) (by decide)) (g := (mkF m 49 #[vi (1 : Int32), vi p1, vi p2, vi p3, vi p4] [xi (1 : Int32), xi p3, xi (0 : Int32), xj (0 : Int64)])) rfl (by rw [hml]; rfl) (argsL := [xi (0 : Int32), xi p3, xi (1 : Int32)]) (rest := [xj (0 : Int64)]) (lenOf pd5 rfl) rfl (by show 2 * 0 + _ ≤ _; exact Nat.le_of_eq rfl) (hb hby d8_49) (fun _ _ => ⟨rfl, e2, (by decide : 0 + 0 ≤ _), (by decide : 0 + 0 ≤ _)⟩)
  dsimp only [Pt.U, Pt.locs, Pt.cells, Pt.slots] at X3 l3 y3 z3 st3 hQ3
  subst l3 y3 z3
  obtain ⟨rfl, Nq3, e3⟩ := hQ3
  have N3 := Fr.app N2 Nq3
  obtain ⟨fs, hr, hrun, hended, hW, hsame⟩ := X3.leave (v := some (xj (0 : Int64))) (fun h => by rw [Bd.returns] at h; cases h)
  refine ⟨_, _, pre0 _ ?_, hrun, hended, _, _, rfl, ?_, ⟨_, rfl⟩, hW, hsame.mono (by decide) (by decide)⟩
  · show own_S p e below s₁ (mkF m 0 #[vi (1 : Int32), vi p1, vi p2, vi p3, vi p4] []) _
    refine XS.iload X0.here hx rfl (hb hby d8_0) rfl ?_
    show own_S p e below s₁ (mkF m 2 #[vi (1 : Int32), vi p1, vi p2, vi p3, vi p4] [xi p4]) _
    refine XS.iconst X0.here hx rfl (hb hby d8_2) ?_
    show own_S p e below s₁ (mkF m 3 #[vi (1 : Int32), vi p1, vi p2, vi p3, vi p4] [xi (1 : Int32), xi p4]) _
    refine XS.iand X0.here hx rfl (hb hby d8_3) rfl ?_
    show own_S p e below s₁ (mkF m 4 #[vi (1 : Int32), vi p1, vi p2, vi p3, vi p4] [xi (p4 &&& (1 : Int32))]) _
    refine castTop (show (mkF m 4 #[vi (1 : Int32), vi p1, vi p2, vi p3, vi p4] [xi (p4 &&& (1 : Int32))]) = (mkF m 4 #[vi (1 : Int32), vi p1, vi p2, vi p3, vi p4] [xi (0 : Int32)]) from by rw [as6]) ?_
    show own_S p e below s₁ (mkF m 4 #[vi (1 : Int32), vi p1, vi p2, vi p3, vi p4] [xi (0 : Int32)]) _
    refine XS.ifYes X0.here hx rfl (pc0 := 4) (pc' := 11) rfl (hb hby d8_4) rfl (by decide) (by decide) (by decide) ?_
    show own_S p e below s₁ (mkF m 11 #[vi (1 : Int32), vi p1, vi p2, vi p3, vi p4] []) _
    refine XS.iconst X0.here hx rfl (hb hby d8_11) ?_
    show own_S p e below s₁ (mkF m 12 #[vi (1 : Int32), vi p1, vi p2, vi p3, vi p4] [xi (0 : Int32)]) _
    refine XS.iloadN X0.here hx rfl (hb hby d8_12) rfl ?_
    show own_S p e below s₁ (mkF m 13 #[vi (1 : Int32), vi p1, vi p2, vi p3, vi p4] [xi p1, xi (0 : Int32)]) _
    refine XS.iloadN X0.here hx rfl (hb hby d8_13) rfl ?_
    show own_S p e below s₁ (mkF m 14 #[vi (1 : Int32), vi p1, vi p2, vi p3, vi p4] [xi (1 : Int32), xi p1, xi (0 : Int32)]) _
    refine st1 _ ?_
    show own_S p e below T1 (mkF m 17 #[vi (1 : Int32), vi p1, vi p2, vi p3, vi p4] [xj (0 : Int64)]) _
    refine XS.iload X1.here hx rfl (hb hby d8_17) rfl ?_
    show own_S p e below T1 (mkF m 19 #[vi (1 : Int32), vi p1, vi p2, vi p3, vi p4] [xi p4, xj (0 : Int64)]) _
    refine XS.iconst X1.here hx rfl (hb hby d8_19) ?_
    show own_S p e below T1 (mkF m 20 #[vi (1 : Int32), vi p1, vi p2, vi p3, vi p4] [xi (2 : Int32), xi p4, xj (0 : Int64)]) _
    refine XS.iand X1.here hx rfl (hb hby d8_20) rfl ?_
    show own_S p e below T1 (mkF m 21 #[vi (1 : Int32), vi p1, vi p2, vi p3, vi p4] [xi (p4 &&& (2 : Int32)), xj (0 : Int64)]) _
    refine castTop (show (mkF m 21 #[vi (1 : Int32), vi p1, vi p2, vi p3, vi p4] [xi (p4 &&& (2 : Int32)), xj (0 : Int64)]) = (mkF m 21 #[vi (1 : Int32), vi p1, vi p2, vi p3, vi p4] [xi (0 : Int32), xj (0 : Int64)]) from by rw [as8]) ?_
    show own_S p e below T1 (mkF m 21 #[vi (1 : Int32), vi p1, vi p2, vi p3, vi p4] [xi (0 : Int32), xj (0 : Int64)]) _
    refine XS.ifYes X1.here hx rfl (pc0 := 21) (pc' := 28) rfl (hb hby d8_21) rfl (by decide) (by decide) (by decide) ?_
    show own_S p e below T1 (mkF m 28 #[vi (1 : Int32), vi p1, vi p2, vi p3, vi p4] [xj (0 : Int64)]) _
    refine XS.iconst X1.here hx rfl (hb hby d8_28) ?_
    show own_S p e below T1 (mkF m 29 #[vi (1 : Int32), vi p1, vi p2, vi p3, vi p4] [xi (0 : Int32), xj (0 : Int64)]) _
    refine XS.iloadN X1.here hx rfl (hb hby d8_29) rfl ?_
    show own_S p e below T1 (mkF m 30 #[vi (1 : Int32), vi p1, vi p2, vi p3, vi p4] [xi p2, xi (0 : Int32), xj (0 : Int64)]) _
    refine XS.iloadN X1.here hx rfl (hb hby d8_30) rfl ?_
    show own_S p e below T1 (mkF m 31 #[vi (1 : Int32), vi p1, vi p2, vi p3, vi p4] [xi (1 : Int32), xi p2, xi (0 : Int32), xj (0 : Int64)]) _
    refine st2 _ ?_
    show own_S p e below T2 (mkF m 34 #[vi (1 : Int32), vi p1, vi p2, vi p3, vi p4] [xj (0 : Int64), xj (0 : Int64)]) _
    refine XS.ladd X2.here hx rfl (hb hby d8_34) rfl ?_
    show own_S p e below T2 (mkF m 35 #[vi (1 : Int32), vi p1, vi p2, vi p3, vi p4] [xj ((0 : Int64) + (0 : Int64))]) _
    refine castTop (show (mkF m 35 #[vi (1 : Int32), vi p1, vi p2, vi p3, vi p4] [xj ((0 : Int64) + (0 : Int64))]) = (mkF m 35 #[vi (1 : Int32), vi p1, vi p2, vi p3, vi p4] [xj (0 : Int64)]) from by rw [show ((0 : Int64) + (0 : Int64)) = (0 : Int64) from by decide]) ?_
    show own_S p e below T2 (mkF m 35 #[vi (1 : Int32), vi p1, vi p2, vi p3, vi p4] [xj (0 : Int64)]) _
    refine XS.iload X2.here hx rfl (hb hby d8_35) rfl ?_
    show own_S p e below T2 (mkF m 37 #[vi (1 : Int32), vi p1, vi p2, vi p3, vi p4] [xi p4, xj (0 : Int64)]) _
    refine XS.iconst X2.here hx rfl (hb hby d8_37) ?_
    show own_S p e below T2 (mkF m 38 #[vi (1 : Int32), vi p1, vi p2, vi p3, vi p4] [xi (4 : Int32), xi p4, xj (0 : Int64)]) _
    refine XS.iand X2.here hx rfl (hb hby d8_38) rfl ?_
    show own_S p e below T2 (mkF m 39 #[vi (1 : Int32), vi p1, vi p2, vi p3, vi p4] [xi (p4 &&& (4 : Int32)), xj (0 : Int64)]) _
    refine castTop (show (mkF m 39 #[vi (1 : Int32), vi p1, vi p2, vi p3, vi p4] [xi (p4 &&& (4 : Int32)), xj (0 : Int64)]) = (mkF m 39 #[vi (1 : Int32), vi p1, vi p2, vi p3, vi p4] [xi (0 : Int32), xj (0 : Int64)]) from by rw [as10]) ?_
    show own_S p e below T2 (mkF m 39 #[vi (1 : Int32), vi p1, vi p2, vi p3, vi p4] [xi (0 : Int32), xj (0 : Int64)]) _
    refine XS.ifYes X2.here hx rfl (pc0 := 39) (pc' := 46) rfl (hb hby d8_39) rfl (by decide) (by decide) (by decide) ?_
    show own_S p e below T2 (mkF m 46 #[vi (1 : Int32), vi p1, vi p2, vi p3, vi p4] [xj (0 : Int64)]) _
    refine XS.iconst X2.here hx rfl (hb hby d8_46) ?_
    show own_S p e below T2 (mkF m 47 #[vi (1 : Int32), vi p1, vi p2, vi p3, vi p4] [xi (0 : Int32), xj (0 : Int64)]) _
    refine XS.iloadN X2.here hx rfl (hb hby d8_47) rfl ?_
    show own_S p e below T2 (mkF m 48 #[vi (1 : Int32), vi p1, vi p2, vi p3, vi p4] [xi p3, xi (0 : Int32), xj (0 : Int64)]) _
    refine XS.iloadN X2.here hx rfl (hb hby d8_48) rfl ?_
    show own_S p e below T2 (mkF m 49 #[vi (1 : Int32), vi p1, vi p2, vi p3, vi p4] [xi (1 : Int32), xi p3, xi (0 : Int32), xj (0 : Int64)]) _
    refine st3 _ ?_
    show own_S p e below T3 (mkF m 52 #[vi (1 : Int32), vi p1, vi p2, vi p3, vi p4] [xj (0 : Int64), xj (0 : Int64)]) _
    refine XS.ladd X3.here hx rfl (hb hby d8_52) rfl ?_
    show own_S p e below T3 (mkF m 53 #[vi (1 : Int32), vi p1, vi p2, vi p3, vi p4] [xj ((0 : Int64) + (0 : Int64))]) _
    refine castTop (show (mkF m 53 #[vi (1 : Int32), vi p1, vi p2, vi p3, vi p4] [xj ((0 : Int64) + (0 : Int64))]) = (mkF m 53 #[vi (1 : Int32), vi p1, vi p2, vi p3, vi p4] [xj (0 : Int64)]) from by rw [show ((0 : Int64) + (0 : Int64)) = (0 : Int64) from by decide]) ?_
    show own_S p e below T3 (mkF m 53 #[vi (1 : Int32), vi p1, vi p2, vi p3, vi p4] [xj (0 : Int64)]) _
    exact X3.lreturnOut hx Bd.returns (hb hby d8_53) hr
  · exact ⟨rfl, N3, e3⟩
theorem ef_own_c6_expected (m : MethodId) (u0 u1 u2 u3 u4 : Addr) (p1 : Int32) (p2 : Int32) (p3 : Int32) (p4 : Int32) : entryFrame m #[xi (2 : Int32), xi p1, xi p2, xi p3, xi p4] 5 = (mkF m 0 #[vi (2 : Int32), vi p1, vi p2, vi p3, vi p4] []) := by first | (simp [entryFrame, mkF, argsToLocals, Value.category]; done) | rfl
set_option maxRecDepth 65536 in
set_option maxHeartbeats 40000000 in
theorem own_c6_expected (l : Launch) (Z : State) (a0 : Array Value) (hw : ∀ d ∈ tables_1, d.before a0 Z = true) (u0 u1 u2 u3 u4 : Addr) (G : own_St Z u0 u1 u2 u3 u4) (p1 : Int32) (p2 : Int32) (p3 : Int32) (p4 : Int32) (as6 : (p4 &&& (1 : Int32)) = (0 : Int32)) (as8 : (p4 &&& (2 : Int32)) = (0 : Int32)) (as10 : (p4 &&& (4 : Int32)) = (0 : Int32)) (h0 : Heap) (n0 : Nat) (O0 : Old Z n0 h0) : own_Met l Z Y9 method_4_code 5 (some .long) ({ frames := 1, cells := 0, slots := 0, locals := 16 } : Room) #[xi (2 : Int32), xi p1, xi p2, xi p3, xi p4] h0 (own_QR (some (xj (0 : Int64))) h0 n0) := by
  intro ws
  refine MetFree.of_bodySF (plainFor_of_name pn3) hisR ?_
  intro p e s m args below meth c s₁ Bd hml0 hP hK
  obtain ⟨rfl, hZ, hh⟩ := hP
  have hx := Bd.exec
  have hby := Bd.bytes
  have hml : c.maxLocals = 5 := hml0
  have hown : s.vm.findClass "com/example/feedwright/feedwright/LoadSummaryAddPinLaw" = some m.cls := findClass_of_methodNamed Bd.named
  have hnm := (name_of_methodNamed Bd.named Bd.method).1
  have X0 : Stand p l e ({ frames := 1, cells := 0, slots := 0, locals := 16 } : Room) s m #[xi (2 : Int32), xi p1, xi p2, xi p3, xi p4] below meth c s₁ [] 0 0 := Stand.of_body Bd
  have e0 : s₁.heap = h0 := by rw [← hh, Bd.state]; rfl
  have N0 := Fr.nil n0
  have pre0 : ∀ t, Steps p.tables e below (s₁.setTop (mkF m 0 #[vi (2 : Int32), vi p1, vi p2, vi p3, vi p4] [])) t → Steps p.tables e below (s₁.setTop (entryFrame m #[xi (2 : Int32), xi p1, xi p2, xi p3, xi p4] 5)) t := fun t st => castTop (ef_own_c6_expected m u0 u1 u2 u3 u4 p1 p2 p3 p4) st
  obtain ⟨_, _, ⟨T1, L1, k1, n1⟩, -, X1, ⟨Lc1, hQ1, l1, y1, z1⟩, st1⟩ := Jvm.LawKit.callS X0 hx (y := Y6) hown (mvT hZ (ww hw 61 rfl)) (mvT hZ (ww hw 62 rfl)) (mvT hZ (ww hw 2 rfl)) (mvT hZ (ww hw 63 rfl)) (by decide) (backOf (W := 0) (own_hit_off l Z a0 hw u0 u1 u2 u3 u4 G p1 (2 : Int32) h0 n0 O0 []) hZ (ww hw 63 rfl) (ww hw 2 rfl) (by decide) (by decide)) (g := (mkF m 14 #[vi (2 : Int32), vi p1, vi p2, vi p3, vi p4] [xi (2 : Int32), xi p1, xi (0 : Int32)])) rfl (by rw [hml]; rfl) (argsL := [xi (0 : Int32), xi p1, xi (2 : Int32)]) (rest := []) (lenOf pd5 rfl) rfl (by show 2 * 0 + _ ≤ _; exact Nat.le_of_eq rfl) (hb hby d8_14) (fun _ _ => ⟨rfl, e0, (by decide : 0 + 0 ≤ _), (by decide : 0 + 0 ≤ _)⟩)
  dsimp only [Pt.U, Pt.locs, Pt.cells, Pt.slots] at X1 l1 y1 z1 st1 hQ1
  subst l1 y1 z1
  obtain ⟨rfl, Nq1, e1⟩ := hQ1
  have N1 := Fr.app N0 Nq1
  obtain ⟨_, _, ⟨T2, L2, k2, n2⟩, -, X2, ⟨Lc2, hQ2, l2, y2, z2⟩, st2⟩ := Jvm.LawKit.callS X1 hx (y := Y6) hown (mvT hZ (ww hw 61 rfl)) (mvT hZ (ww hw 62 rfl)) (mvT hZ (ww hw 2 rfl)) (mvT hZ (ww hw 63 rfl)) (by decide) (backOf (W := 2) (own_hit_off l Z a0 hw u0 u1 u2 u3 u4 G p2 (2 : Int32) h0 n0 O0 []) hZ (ww hw 63 rfl) (ww hw 2 rfl) (by decide) (by decide)) (g := (mkF m 31 #[vi (2 : Int32), vi p1, vi p2, vi p3, vi p4] [xi (2 : Int32), xi p2, xi (0 : Int32), xj (0 : Int64)])) rfl (by rw [hml]; rfl) (argsL := [xi (0 : Int32), xi p2, xi (2 : Int32)]) (rest := [xj (0 : Int64)]) (lenOf pd5 rfl) rfl (by show 2 * 0 + _ ≤ _; exact Nat.le_of_eq rfl) (hb hby d8_31) (fun _ _ => ⟨rfl, e1, (by decide : 0 + 0 ≤ _), (by decide : 0 + 0 ≤ _)⟩)
  dsimp only [Pt.U, Pt.locs, Pt.cells, Pt.slots] at X2 l2 y2 z2 st2 hQ2
  subst l2 y2 z2
  obtain ⟨rfl, Nq2, e2⟩ := hQ2
  have N2 := Fr.app N1 Nq2
  obtain ⟨_, _, ⟨T3, L3, k3, n3⟩, -, X3, ⟨Lc3, hQ3, l3, y3, z3⟩, st3⟩ := Jvm.LawKit.callS X2 hx (y := Y6) hown (mvT hZ (ww hw 61 rfl)) (mvT hZ (ww hw 62 rfl)) (mvT hZ (ww hw 2 rfl)) (mvT hZ (ww hw 63 rfl)) (by decide) (backOf (W := 2) (own_hit_off l Z a0 hw u0 u1 u2 u3 u4 G p3 (2 : Int32) h0 n0 O0 []) hZ (ww hw 63 rfl) (ww hw 2 rfl) (by decide) (by decide)) (g := (mkF m 49 #[vi (2 : Int32), vi p1, vi p2, vi p3, vi p4] [xi (2 : Int32), xi p3, xi (0 : Int32), xj (0 : Int64)])) rfl (by rw [hml]; rfl) (argsL := [xi (0 : Int32), xi p3, xi (2 : Int32)]) (rest := [xj (0 : Int64)]) (lenOf pd5 rfl) rfl (by show 2 * 0 + _ ≤ _; exact Nat.le_of_eq rfl) (hb hby d8_49) (fun _ _ => ⟨rfl, e2, (by decide : 0 + 0 ≤ _), (by decide : 0 + 0 ≤ _)⟩)
  dsimp only [Pt.U, Pt.locs, Pt.cells, Pt.slots] at X3 l3 y3 z3 st3 hQ3
  subst l3 y3 z3
  obtain ⟨rfl, Nq3, e3⟩ := hQ3
  have N3 := Fr.app N2 Nq3
  obtain ⟨fs, hr, hrun, hended, hW, hsame⟩ := X3.leave (v := some (xj (0 : Int64))) (fun h => by rw [Bd.returns] at h; cases h)
  refine ⟨_, _, pre0 _ ?_, hrun, hended, _, _, rfl, ?_, ⟨_, rfl⟩, hW, hsame.mono (by decide) (by decide)⟩
  · show own_S p e below s₁ (mkF m 0 #[vi (2 : Int32), vi p1, vi p2, vi p3, vi p4] []) _
    refine XS.iload X0.here hx rfl (hb hby d8_0) rfl ?_
    show own_S p e below s₁ (mkF m 2 #[vi (2 : Int32), vi p1, vi p2, vi p3, vi p4] [xi p4]) _
    refine XS.iconst X0.here hx rfl (hb hby d8_2) ?_
    show own_S p e below s₁ (mkF m 3 #[vi (2 : Int32), vi p1, vi p2, vi p3, vi p4] [xi (1 : Int32), xi p4]) _
    refine XS.iand X0.here hx rfl (hb hby d8_3) rfl ?_
    show own_S p e below s₁ (mkF m 4 #[vi (2 : Int32), vi p1, vi p2, vi p3, vi p4] [xi (p4 &&& (1 : Int32))]) _
    refine castTop (show (mkF m 4 #[vi (2 : Int32), vi p1, vi p2, vi p3, vi p4] [xi (p4 &&& (1 : Int32))]) = (mkF m 4 #[vi (2 : Int32), vi p1, vi p2, vi p3, vi p4] [xi (0 : Int32)]) from by rw [as6]) ?_
    show own_S p e below s₁ (mkF m 4 #[vi (2 : Int32), vi p1, vi p2, vi p3, vi p4] [xi (0 : Int32)]) _
    refine XS.ifYes X0.here hx rfl (pc0 := 4) (pc' := 11) rfl (hb hby d8_4) rfl (by decide) (by decide) (by decide) ?_
    show own_S p e below s₁ (mkF m 11 #[vi (2 : Int32), vi p1, vi p2, vi p3, vi p4] []) _
    refine XS.iconst X0.here hx rfl (hb hby d8_11) ?_
    show own_S p e below s₁ (mkF m 12 #[vi (2 : Int32), vi p1, vi p2, vi p3, vi p4] [xi (0 : Int32)]) _
    refine XS.iloadN X0.here hx rfl (hb hby d8_12) rfl ?_
    show own_S p e below s₁ (mkF m 13 #[vi (2 : Int32), vi p1, vi p2, vi p3, vi p4] [xi p1, xi (0 : Int32)]) _
    refine XS.iloadN X0.here hx rfl (hb hby d8_13) rfl ?_
    show own_S p e below s₁ (mkF m 14 #[vi (2 : Int32), vi p1, vi p2, vi p3, vi p4] [xi (2 : Int32), xi p1, xi (0 : Int32)]) _
    refine st1 _ ?_
    show own_S p e below T1 (mkF m 17 #[vi (2 : Int32), vi p1, vi p2, vi p3, vi p4] [xj (0 : Int64)]) _
    refine XS.iload X1.here hx rfl (hb hby d8_17) rfl ?_
    show own_S p e below T1 (mkF m 19 #[vi (2 : Int32), vi p1, vi p2, vi p3, vi p4] [xi p4, xj (0 : Int64)]) _
    refine XS.iconst X1.here hx rfl (hb hby d8_19) ?_
    show own_S p e below T1 (mkF m 20 #[vi (2 : Int32), vi p1, vi p2, vi p3, vi p4] [xi (2 : Int32), xi p4, xj (0 : Int64)]) _
    refine XS.iand X1.here hx rfl (hb hby d8_20) rfl ?_
    show own_S p e below T1 (mkF m 21 #[vi (2 : Int32), vi p1, vi p2, vi p3, vi p4] [xi (p4 &&& (2 : Int32)), xj (0 : Int64)]) _
    refine castTop (show (mkF m 21 #[vi (2 : Int32), vi p1, vi p2, vi p3, vi p4] [xi (p4 &&& (2 : Int32)), xj (0 : Int64)]) = (mkF m 21 #[vi (2 : Int32), vi p1, vi p2, vi p3, vi p4] [xi (0 : Int32), xj (0 : Int64)]) from by rw [as8]) ?_
    show own_S p e below T1 (mkF m 21 #[vi (2 : Int32), vi p1, vi p2, vi p3, vi p4] [xi (0 : Int32), xj (0 : Int64)]) _
    refine XS.ifYes X1.here hx rfl (pc0 := 21) (pc' := 28) rfl (hb hby d8_21) rfl (by decide) (by decide) (by decide) ?_
    show own_S p e below T1 (mkF m 28 #[vi (2 : Int32), vi p1, vi p2, vi p3, vi p4] [xj (0 : Int64)]) _
    refine XS.iconst X1.here hx rfl (hb hby d8_28) ?_
    show own_S p e below T1 (mkF m 29 #[vi (2 : Int32), vi p1, vi p2, vi p3, vi p4] [xi (0 : Int32), xj (0 : Int64)]) _
    refine XS.iloadN X1.here hx rfl (hb hby d8_29) rfl ?_
    show own_S p e below T1 (mkF m 30 #[vi (2 : Int32), vi p1, vi p2, vi p3, vi p4] [xi p2, xi (0 : Int32), xj (0 : Int64)]) _
    refine XS.iloadN X1.here hx rfl (hb hby d8_30) rfl ?_
    show own_S p e below T1 (mkF m 31 #[vi (2 : Int32), vi p1, vi p2, vi p3, vi p4] [xi (2 : Int32), xi p2, xi (0 : Int32), xj (0 : Int64)]) _
    refine st2 _ ?_
    show own_S p e below T2 (mkF m 34 #[vi (2 : Int32), vi p1, vi p2, vi p3, vi p4] [xj (0 : Int64), xj (0 : Int64)]) _
    refine XS.ladd X2.here hx rfl (hb hby d8_34) rfl ?_
    show own_S p e below T2 (mkF m 35 #[vi (2 : Int32), vi p1, vi p2, vi p3, vi p4] [xj ((0 : Int64) + (0 : Int64))]) _
    refine castTop (show (mkF m 35 #[vi (2 : Int32), vi p1, vi p2, vi p3, vi p4] [xj ((0 : Int64) + (0 : Int64))]) = (mkF m 35 #[vi (2 : Int32), vi p1, vi p2, vi p3, vi p4] [xj (0 : Int64)]) from by rw [show ((0 : Int64) + (0 : Int64)) = (0 : Int64) from by decide]) ?_
    show own_S p e below T2 (mkF m 35 #[vi (2 : Int32), vi p1, vi p2, vi p3, vi p4] [xj (0 : Int64)]) _
    refine XS.iload X2.here hx rfl (hb hby d8_35) rfl ?_
    show own_S p e below T2 (mkF m 37 #[vi (2 : Int32), vi p1, vi p2, vi p3, vi p4] [xi p4, xj (0 : Int64)]) _
    refine XS.iconst X2.here hx rfl (hb hby d8_37) ?_
    show own_S p e below T2 (mkF m 38 #[vi (2 : Int32), vi p1, vi p2, vi p3, vi p4] [xi (4 : Int32), xi p4, xj (0 : Int64)]) _
    refine XS.iand X2.here hx rfl (hb hby d8_38) rfl ?_
    show own_S p e below T2 (mkF m 39 #[vi (2 : Int32), vi p1, vi p2, vi p3, vi p4] [xi (p4 &&& (4 : Int32)), xj (0 : Int64)]) _
    refine castTop (show (mkF m 39 #[vi (2 : Int32), vi p1, vi p2, vi p3, vi p4] [xi (p4 &&& (4 : Int32)), xj (0 : Int64)]) = (mkF m 39 #[vi (2 : Int32), vi p1, vi p2, vi p3, vi p4] [xi (0 : Int32), xj (0 : Int64)]) from by rw [as10]) ?_
    show own_S p e below T2 (mkF m 39 #[vi (2 : Int32), vi p1, vi p2, vi p3, vi p4] [xi (0 : Int32), xj (0 : Int64)]) _
    refine XS.ifYes X2.here hx rfl (pc0 := 39) (pc' := 46) rfl (hb hby d8_39) rfl (by decide) (by decide) (by decide) ?_
    show own_S p e below T2 (mkF m 46 #[vi (2 : Int32), vi p1, vi p2, vi p3, vi p4] [xj (0 : Int64)]) _
    refine XS.iconst X2.here hx rfl (hb hby d8_46) ?_
    show own_S p e below T2 (mkF m 47 #[vi (2 : Int32), vi p1, vi p2, vi p3, vi p4] [xi (0 : Int32), xj (0 : Int64)]) _
    refine XS.iloadN X2.here hx rfl (hb hby d8_47) rfl ?_
    show own_S p e below T2 (mkF m 48 #[vi (2 : Int32), vi p1, vi p2, vi p3, vi p4] [xi p3, xi (0 : Int32), xj (0 : Int64)]) _
    refine XS.iloadN X2.here hx rfl (hb hby d8_48) rfl ?_
    show own_S p e below T2 (mkF m 49 #[vi (2 : Int32), vi p1, vi p2, vi p3, vi p4] [xi (2 : Int32), xi p3, xi (0 : Int32), xj (0 : Int64)]) _
    refine st3 _ ?_
    show own_S p e below T3 (mkF m 52 #[vi (2 : Int32), vi p1, vi p2, vi p3, vi p4] [xj (0 : Int64), xj (0 : Int64)]) _
    refine XS.ladd X3.here hx rfl (hb hby d8_52) rfl ?_
    show own_S p e below T3 (mkF m 53 #[vi (2 : Int32), vi p1, vi p2, vi p3, vi p4] [xj ((0 : Int64) + (0 : Int64))]) _
    refine castTop (show (mkF m 53 #[vi (2 : Int32), vi p1, vi p2, vi p3, vi p4] [xj ((0 : Int64) + (0 : Int64))]) = (mkF m 53 #[vi (2 : Int32), vi p1, vi p2, vi p3, vi p4] [xj (0 : Int64)]) from by rw [show ((0 : Int64) + (0 : Int64)) = (0 : Int64) from by decide]) ?_
    show own_S p e below T3 (mkF m 53 #[vi (2 : Int32), vi p1, vi p2, vi p3, vi p4] [xj (0 : Int64)]) _
    exact X3.lreturnOut hx Bd.returns (hb hby d8_53) hr
  · exact ⟨rfl, N3, e3⟩
theorem ef_own_c7_expected (m : MethodId) (u0 u1 u2 u3 u4 : Addr) (p1 : Int32) (p2 : Int32) (p3 : Int32) (p4 : Int32) : entryFrame m #[xi (3 : Int32), xi p1, xi p2, xi p3, xi p4] 5 = (mkF m 0 #[vi (3 : Int32), vi p1, vi p2, vi p3, vi p4] []) := by first | (simp [entryFrame, mkF, argsToLocals, Value.category]; done) | rfl
set_option maxRecDepth 65536 in
set_option maxHeartbeats 40000000 in
theorem own_c7_expected (l : Launch) (Z : State) (a0 : Array Value) (hw : ∀ d ∈ tables_1, d.before a0 Z = true) (u0 u1 u2 u3 u4 : Addr) (G : own_St Z u0 u1 u2 u3 u4) (p1 : Int32) (p2 : Int32) (p3 : Int32) (p4 : Int32) (as6 : (p4 &&& (1 : Int32)) = (0 : Int32)) (as8 : (p4 &&& (2 : Int32)) = (0 : Int32)) (as10 : (p4 &&& (4 : Int32)) = (0 : Int32)) (h0 : Heap) (n0 : Nat) (O0 : Old Z n0 h0) : own_Met l Z Y9 method_4_code 5 (some .long) ({ frames := 1, cells := 0, slots := 0, locals := 16 } : Room) #[xi (3 : Int32), xi p1, xi p2, xi p3, xi p4] h0 (own_QR (some (xj (0 : Int64))) h0 n0) := by
  intro ws
  refine MetFree.of_bodySF (plainFor_of_name pn3) hisR ?_
  intro p e s m args below meth c s₁ Bd hml0 hP hK
  obtain ⟨rfl, hZ, hh⟩ := hP
  have hx := Bd.exec
  have hby := Bd.bytes
  have hml : c.maxLocals = 5 := hml0
  have hown : s.vm.findClass "com/example/feedwright/feedwright/LoadSummaryAddPinLaw" = some m.cls := findClass_of_methodNamed Bd.named
  have hnm := (name_of_methodNamed Bd.named Bd.method).1
  have X0 : Stand p l e ({ frames := 1, cells := 0, slots := 0, locals := 16 } : Room) s m #[xi (3 : Int32), xi p1, xi p2, xi p3, xi p4] below meth c s₁ [] 0 0 := Stand.of_body Bd
  have e0 : s₁.heap = h0 := by rw [← hh, Bd.state]; rfl
  have N0 := Fr.nil n0
  have pre0 : ∀ t, Steps p.tables e below (s₁.setTop (mkF m 0 #[vi (3 : Int32), vi p1, vi p2, vi p3, vi p4] [])) t → Steps p.tables e below (s₁.setTop (entryFrame m #[xi (3 : Int32), xi p1, xi p2, xi p3, xi p4] 5)) t := fun t st => castTop (ef_own_c7_expected m u0 u1 u2 u3 u4 p1 p2 p3 p4) st
  obtain ⟨_, _, ⟨T1, L1, k1, n1⟩, -, X1, ⟨Lc1, hQ1, l1, y1, z1⟩, st1⟩ := Jvm.LawKit.callS X0 hx (y := Y6) hown (mvT hZ (ww hw 61 rfl)) (mvT hZ (ww hw 62 rfl)) (mvT hZ (ww hw 2 rfl)) (mvT hZ (ww hw 63 rfl)) (by decide) (backOf (W := 0) (own_hit_off l Z a0 hw u0 u1 u2 u3 u4 G p1 (3 : Int32) h0 n0 O0 []) hZ (ww hw 63 rfl) (ww hw 2 rfl) (by decide) (by decide)) (g := (mkF m 14 #[vi (3 : Int32), vi p1, vi p2, vi p3, vi p4] [xi (3 : Int32), xi p1, xi (0 : Int32)])) rfl (by rw [hml]; rfl) (argsL := [xi (0 : Int32), xi p1, xi (3 : Int32)]) (rest := []) (lenOf pd5 rfl) rfl (by show 2 * 0 + _ ≤ _; exact Nat.le_of_eq rfl) (hb hby d8_14) (fun _ _ => ⟨rfl, e0, (by decide : 0 + 0 ≤ _), (by decide : 0 + 0 ≤ _)⟩)
  dsimp only [Pt.U, Pt.locs, Pt.cells, Pt.slots] at X1 l1 y1 z1 st1 hQ1
  subst l1 y1 z1
  obtain ⟨rfl, Nq1, e1⟩ := hQ1
  have N1 := Fr.app N0 Nq1
  obtain ⟨_, _, ⟨T2, L2, k2, n2⟩, -, X2, ⟨Lc2, hQ2, l2, y2, z2⟩, st2⟩ := Jvm.LawKit.callS X1 hx (y := Y6) hown (mvT hZ (ww hw 61 rfl)) (mvT hZ (ww hw 62 rfl)) (mvT hZ (ww hw 2 rfl)) (mvT hZ (ww hw 63 rfl)) (by decide) (backOf (W := 2) (own_hit_off l Z a0 hw u0 u1 u2 u3 u4 G p2 (3 : Int32) h0 n0 O0 []) hZ (ww hw 63 rfl) (ww hw 2 rfl) (by decide) (by decide)) (g := (mkF m 31 #[vi (3 : Int32), vi p1, vi p2, vi p3, vi p4] [xi (3 : Int32), xi p2, xi (0 : Int32), xj (0 : Int64)])) rfl (by rw [hml]; rfl) (argsL := [xi (0 : Int32), xi p2, xi (3 : Int32)]) (rest := [xj (0 : Int64)]) (lenOf pd5 rfl) rfl (by show 2 * 0 + _ ≤ _; exact Nat.le_of_eq rfl) (hb hby d8_31) (fun _ _ => ⟨rfl, e1, (by decide : 0 + 0 ≤ _), (by decide : 0 + 0 ≤ _)⟩)
  dsimp only [Pt.U, Pt.locs, Pt.cells, Pt.slots] at X2 l2 y2 z2 st2 hQ2
  subst l2 y2 z2
  obtain ⟨rfl, Nq2, e2⟩ := hQ2
  have N2 := Fr.app N1 Nq2
  obtain ⟨_, _, ⟨T3, L3, k3, n3⟩, -, X3, ⟨Lc3, hQ3, l3, y3, z3⟩, st3⟩ := Jvm.LawKit.callS X2 hx (y := Y6) hown (mvT hZ (ww hw 61 rfl)) (mvT hZ (ww hw 62 rfl)) (mvT hZ (ww hw 2 rfl)) (mvT hZ (ww hw 63 rfl)) (by decide) (backOf (W := 2) (own_hit_off l Z a0 hw u0 u1 u2 u3 u4 G p3 (3 : Int32) h0 n0 O0 []) hZ (ww hw 63 rfl) (ww hw 2 rfl) (by decide) (by decide)) (g := (mkF m 49 #[vi (3 : Int32), vi p1, vi p2, vi p3, vi p4] [xi (3 : Int32), xi p3, xi (0 : Int32), xj (0 : Int64)])) rfl (by rw [hml]; rfl) (argsL := [xi (0 : Int32), xi p3, xi (3 : Int32)]) (rest := [xj (0 : Int64)]) (lenOf pd5 rfl) rfl (by show 2 * 0 + _ ≤ _; exact Nat.le_of_eq rfl) (hb hby d8_49) (fun _ _ => ⟨rfl, e2, (by decide : 0 + 0 ≤ _), (by decide : 0 + 0 ≤ _)⟩)
  dsimp only [Pt.U, Pt.locs, Pt.cells, Pt.slots] at X3 l3 y3 z3 st3 hQ3
  subst l3 y3 z3
  obtain ⟨rfl, Nq3, e3⟩ := hQ3
  have N3 := Fr.app N2 Nq3
  obtain ⟨fs, hr, hrun, hended, hW, hsame⟩ := X3.leave (v := some (xj (0 : Int64))) (fun h => by rw [Bd.returns] at h; cases h)
  refine ⟨_, _, pre0 _ ?_, hrun, hended, _, _, rfl, ?_, ⟨_, rfl⟩, hW, hsame.mono (by decide) (by decide)⟩
  · show own_S p e below s₁ (mkF m 0 #[vi (3 : Int32), vi p1, vi p2, vi p3, vi p4] []) _
    refine XS.iload X0.here hx rfl (hb hby d8_0) rfl ?_
    show own_S p e below s₁ (mkF m 2 #[vi (3 : Int32), vi p1, vi p2, vi p3, vi p4] [xi p4]) _
    refine XS.iconst X0.here hx rfl (hb hby d8_2) ?_
    show own_S p e below s₁ (mkF m 3 #[vi (3 : Int32), vi p1, vi p2, vi p3, vi p4] [xi (1 : Int32), xi p4]) _
    refine XS.iand X0.here hx rfl (hb hby d8_3) rfl ?_
    show own_S p e below s₁ (mkF m 4 #[vi (3 : Int32), vi p1, vi p2, vi p3, vi p4] [xi (p4 &&& (1 : Int32))]) _
    refine castTop (show (mkF m 4 #[vi (3 : Int32), vi p1, vi p2, vi p3, vi p4] [xi (p4 &&& (1 : Int32))]) = (mkF m 4 #[vi (3 : Int32), vi p1, vi p2, vi p3, vi p4] [xi (0 : Int32)]) from by rw [as6]) ?_
    show own_S p e below s₁ (mkF m 4 #[vi (3 : Int32), vi p1, vi p2, vi p3, vi p4] [xi (0 : Int32)]) _
    refine XS.ifYes X0.here hx rfl (pc0 := 4) (pc' := 11) rfl (hb hby d8_4) rfl (by decide) (by decide) (by decide) ?_
    show own_S p e below s₁ (mkF m 11 #[vi (3 : Int32), vi p1, vi p2, vi p3, vi p4] []) _
    refine XS.iconst X0.here hx rfl (hb hby d8_11) ?_
    show own_S p e below s₁ (mkF m 12 #[vi (3 : Int32), vi p1, vi p2, vi p3, vi p4] [xi (0 : Int32)]) _
    refine XS.iloadN X0.here hx rfl (hb hby d8_12) rfl ?_
    show own_S p e below s₁ (mkF m 13 #[vi (3 : Int32), vi p1, vi p2, vi p3, vi p4] [xi p1, xi (0 : Int32)]) _
    refine XS.iloadN X0.here hx rfl (hb hby d8_13) rfl ?_
    show own_S p e below s₁ (mkF m 14 #[vi (3 : Int32), vi p1, vi p2, vi p3, vi p4] [xi (3 : Int32), xi p1, xi (0 : Int32)]) _
    refine st1 _ ?_
    show own_S p e below T1 (mkF m 17 #[vi (3 : Int32), vi p1, vi p2, vi p3, vi p4] [xj (0 : Int64)]) _
    refine XS.iload X1.here hx rfl (hb hby d8_17) rfl ?_
    show own_S p e below T1 (mkF m 19 #[vi (3 : Int32), vi p1, vi p2, vi p3, vi p4] [xi p4, xj (0 : Int64)]) _
    refine XS.iconst X1.here hx rfl (hb hby d8_19) ?_
    show own_S p e below T1 (mkF m 20 #[vi (3 : Int32), vi p1, vi p2, vi p3, vi p4] [xi (2 : Int32), xi p4, xj (0 : Int64)]) _
    refine XS.iand X1.here hx rfl (hb hby d8_20) rfl ?_
    show own_S p e below T1 (mkF m 21 #[vi (3 : Int32), vi p1, vi p2, vi p3, vi p4] [xi (p4 &&& (2 : Int32)), xj (0 : Int64)]) _
    refine castTop (show (mkF m 21 #[vi (3 : Int32), vi p1, vi p2, vi p3, vi p4] [xi (p4 &&& (2 : Int32)), xj (0 : Int64)]) = (mkF m 21 #[vi (3 : Int32), vi p1, vi p2, vi p3, vi p4] [xi (0 : Int32), xj (0 : Int64)]) from by rw [as8]) ?_
    show own_S p e below T1 (mkF m 21 #[vi (3 : Int32), vi p1, vi p2, vi p3, vi p4] [xi (0 : Int32), xj (0 : Int64)]) _
    refine XS.ifYes X1.here hx rfl (pc0 := 21) (pc' := 28) rfl (hb hby d8_21) rfl (by decide) (by decide) (by decide) ?_
    show own_S p e below T1 (mkF m 28 #[vi (3 : Int32), vi p1, vi p2, vi p3, vi p4] [xj (0 : Int64)]) _
    refine XS.iconst X1.here hx rfl (hb hby d8_28) ?_
    show own_S p e below T1 (mkF m 29 #[vi (3 : Int32), vi p1, vi p2, vi p3, vi p4] [xi (0 : Int32), xj (0 : Int64)]) _
    refine XS.iloadN X1.here hx rfl (hb hby d8_29) rfl ?_
    show own_S p e below T1 (mkF m 30 #[vi (3 : Int32), vi p1, vi p2, vi p3, vi p4] [xi p2, xi (0 : Int32), xj (0 : Int64)]) _
    refine XS.iloadN X1.here hx rfl (hb hby d8_30) rfl ?_
    show own_S p e below T1 (mkF m 31 #[vi (3 : Int32), vi p1, vi p2, vi p3, vi p4] [xi (3 : Int32), xi p2, xi (0 : Int32), xj (0 : Int64)]) _
    refine st2 _ ?_
    show own_S p e below T2 (mkF m 34 #[vi (3 : Int32), vi p1, vi p2, vi p3, vi p4] [xj (0 : Int64), xj (0 : Int64)]) _
    refine XS.ladd X2.here hx rfl (hb hby d8_34) rfl ?_
    show own_S p e below T2 (mkF m 35 #[vi (3 : Int32), vi p1, vi p2, vi p3, vi p4] [xj ((0 : Int64) + (0 : Int64))]) _
    refine castTop (show (mkF m 35 #[vi (3 : Int32), vi p1, vi p2, vi p3, vi p4] [xj ((0 : Int64) + (0 : Int64))]) = (mkF m 35 #[vi (3 : Int32), vi p1, vi p2, vi p3, vi p4] [xj (0 : Int64)]) from by rw [show ((0 : Int64) + (0 : Int64)) = (0 : Int64) from by decide]) ?_
    show own_S p e below T2 (mkF m 35 #[vi (3 : Int32), vi p1, vi p2, vi p3, vi p4] [xj (0 : Int64)]) _
    refine XS.iload X2.here hx rfl (hb hby d8_35) rfl ?_
    show own_S p e below T2 (mkF m 37 #[vi (3 : Int32), vi p1, vi p2, vi p3, vi p4] [xi p4, xj (0 : Int64)]) _
    refine XS.iconst X2.here hx rfl (hb hby d8_37) ?_
    show own_S p e below T2 (mkF m 38 #[vi (3 : Int32), vi p1, vi p2, vi p3, vi p4] [xi (4 : Int32), xi p4, xj (0 : Int64)]) _
    refine XS.iand X2.here hx rfl (hb hby d8_38) rfl ?_
    show own_S p e below T2 (mkF m 39 #[vi (3 : Int32), vi p1, vi p2, vi p3, vi p4] [xi (p4 &&& (4 : Int32)), xj (0 : Int64)]) _
    refine castTop (show (mkF m 39 #[vi (3 : Int32), vi p1, vi p2, vi p3, vi p4] [xi (p4 &&& (4 : Int32)), xj (0 : Int64)]) = (mkF m 39 #[vi (3 : Int32), vi p1, vi p2, vi p3, vi p4] [xi (0 : Int32), xj (0 : Int64)]) from by rw [as10]) ?_
    show own_S p e below T2 (mkF m 39 #[vi (3 : Int32), vi p1, vi p2, vi p3, vi p4] [xi (0 : Int32), xj (0 : Int64)]) _
    refine XS.ifYes X2.here hx rfl (pc0 := 39) (pc' := 46) rfl (hb hby d8_39) rfl (by decide) (by decide) (by decide) ?_
    show own_S p e below T2 (mkF m 46 #[vi (3 : Int32), vi p1, vi p2, vi p3, vi p4] [xj (0 : Int64)]) _
    refine XS.iconst X2.here hx rfl (hb hby d8_46) ?_
    show own_S p e below T2 (mkF m 47 #[vi (3 : Int32), vi p1, vi p2, vi p3, vi p4] [xi (0 : Int32), xj (0 : Int64)]) _
    refine XS.iloadN X2.here hx rfl (hb hby d8_47) rfl ?_
    show own_S p e below T2 (mkF m 48 #[vi (3 : Int32), vi p1, vi p2, vi p3, vi p4] [xi p3, xi (0 : Int32), xj (0 : Int64)]) _
    refine XS.iloadN X2.here hx rfl (hb hby d8_48) rfl ?_
    show own_S p e below T2 (mkF m 49 #[vi (3 : Int32), vi p1, vi p2, vi p3, vi p4] [xi (3 : Int32), xi p3, xi (0 : Int32), xj (0 : Int64)]) _
    refine st3 _ ?_
    show own_S p e below T3 (mkF m 52 #[vi (3 : Int32), vi p1, vi p2, vi p3, vi p4] [xj (0 : Int64), xj (0 : Int64)]) _
    refine XS.ladd X3.here hx rfl (hb hby d8_52) rfl ?_
    show own_S p e below T3 (mkF m 53 #[vi (3 : Int32), vi p1, vi p2, vi p3, vi p4] [xj ((0 : Int64) + (0 : Int64))]) _
    refine castTop (show (mkF m 53 #[vi (3 : Int32), vi p1, vi p2, vi p3, vi p4] [xj ((0 : Int64) + (0 : Int64))]) = (mkF m 53 #[vi (3 : Int32), vi p1, vi p2, vi p3, vi p4] [xj (0 : Int64)]) from by rw [show ((0 : Int64) + (0 : Int64)) = (0 : Int64) from by decide]) ?_
    show own_S p e below T3 (mkF m 53 #[vi (3 : Int32), vi p1, vi p2, vi p3, vi p4] [xj (0 : Int64)]) _
    exact X3.lreturnOut hx Bd.returns (hb hby d8_53) hr
  · exact ⟨rfl, N3, e3⟩
theorem pd7 : parseMethodDescriptor "()J" = some ⟨[], some .long⟩ := by decide +kernel
theorem ef_own_l0 (m : MethodId) (u0 u1 u2 u3 u4 : Addr) (p1 : Int32) (p2 : Int32) (p3 : Int32) (p4 : Int32) (va1 : Addr) (va2 : Addr) (va3 : Addr) : entryFrame m #[xi p1, xi p2, xi p3, xi p4] maxLocals = (mkF m 0 #[vi p1, vi p2, vi p3, vi p4, vu, vu, vu, vu, vu, vu, vu, vu, vu] []) := by first | (simp [entryFrame, mkF, argsToLocals, Value.category, maxLocals]; done) | rfl
set_option maxRecDepth 65536 in
set_option maxHeartbeats 40000000 in
theorem own_l0 (l : Launch) (Z : State) (a0 : Array Value) (hw : ∀ d ∈ tables_1, d.before a0 Z = true) (u0 u1 u2 u3 u4 : Addr) (G : own_St Z u0 u1 u2 u3 u4) (p1 : Int32) (p2 : Int32) (p3 : Int32) (p4 : Int32) (va1 : Addr) (va2 : Addr) (va3 : Addr) (as6 : (p4 &&& (1 : Int32)) = (0 : Int32)) (as8 : (p4 &&& (2 : Int32)) = (0 : Int32)) (as10 : (p4 &&& (4 : Int32)) = (0 : Int32)) (hv1 : own_is u0 u1 u2 u3 u4 p1 va1) (hv2 : own_is u0 u1 u2 u3 u4 p2 va2) (hv3 : own_is u0 u1 u2 u3 u4 p3 va3) (h0 : Heap) (n0 : Nat) (O0 : Old Z n0 h0) : own_Met l Z x code maxLocals ret room_1 #[xi p1, xi p2, xi p3, xi p4] h0 (own_QL (some (xi (1 : Int32))) n0) := by
  intro ws
  refine MetFree.of_bodySF (plainFor_of_name pn3) hisR ?_
  intro p e s m args below meth c s₁ Bd hml0 hP hK
  obtain ⟨rfl, hZ, hh⟩ := hP
  have hx := Bd.exec
  have hby := Bd.bytes
  have hml : c.maxLocals = 13 := hml0
  have hown : s.vm.findClass "com/example/feedwright/feedwright/LoadSummaryAddPinLaw" = some m.cls := findClass_of_methodNamed Bd.named
  have hnm := (name_of_methodNamed Bd.named Bd.method).1
  have X0 : Stand p l e room_1 s m #[xi p1, xi p2, xi p3, xi p4] below meth c s₁ [] 0 0 := Stand.of_body Bd
  have e0 : s₁.heap = h0 := by rw [← hh, Bd.state]; rfl
  have N0 := Fr.nil n0
  have pre0 : ∀ t, Steps p.tables e below (s₁.setTop (mkF m 0 #[vi p1, vi p2, vi p3, vi p4, vu, vu, vu, vu, vu, vu, vu, vu, vu] [])) t → Steps p.tables e below (s₁.setTop (entryFrame m #[xi p1, xi p2, xi p3, xi p4] maxLocals)) t := fun t st => castTop (ef_own_l0 m u0 u1 u2 u3 u4 p1 p2 p3 p4 va1 va2 va3) st
  obtain ⟨_, _, ⟨T1, L1, k1, n1⟩, -, X1, ⟨Lc1, hQ1, l1, y1, z1⟩, st1⟩ := Jvm.LawKit.callS X0 hx (y := Y5) hown (mvT hZ (ww hw 0 rfl)) (mvT hZ (ww hw 1 rfl)) (mvT hZ (ww hw 2 rfl)) (mvT hZ (ww hw 3 rfl)) (by decide) (backOf (W := 0) (own_pick l Z a0 hw u0 u1 u2 u3 u4 G p1 va1 hv1 h0 n0 O0 []) hZ (ww hw 3 rfl) (ww hw 2 rfl) (by decide) (by decide)) (g := (mkF m 40 #[vi p1, vi p2, vi p3, vi p4, vi (0 : Int32), vi (0 : Int32), vi (0 : Int32), vu, vu, vu, vu, vu, vu] [xi p1])) rfl (by rw [hml]; rfl) (argsL := [xi p1]) (rest := []) (lenOf pd2 rfl) rfl (by show 2 * 0 + _ ≤ _; exact Nat.le_of_eq rfl) (hb hby at_40) (fun _ _ => ⟨rfl, e0, (by decide : 0 + 0 ≤ _), (by decide : 0 + 0 ≤ _)⟩)
  dsimp only [Pt.U, Pt.locs, Pt.cells, Pt.slots] at X1 l1 y1 z1 st1 hQ1
  subst l1 y1 z1
  obtain ⟨rfl, Nq1, e1⟩ := hQ1
  have N1 := Fr.app N0 Nq1
  obtain ⟨_, _, ⟨T2, L2, k2, n2⟩, -, X2, ⟨Lc2, hQ2, l2, y2, z2⟩, st2⟩ := Jvm.LawKit.callS X1 hx (y := Y5) hown (mvT hZ (ww hw 0 rfl)) (mvT hZ (ww hw 1 rfl)) (mvT hZ (ww hw 2 rfl)) (mvT hZ (ww hw 3 rfl)) (by decide) (backOf (W := 0) (own_pick l Z a0 hw u0 u1 u2 u3 u4 G p2 va2 hv2 h0 n0 O0 []) hZ (ww hw 3 rfl) (ww hw 2 rfl) (by decide) (by decide)) (g := (mkF m 46 #[vi p1, vi p2, vi p3, vi p4, vi (0 : Int32), vi (0 : Int32), vi (0 : Int32), vr va1, vu, vu, vu, vu, vu] [xi p2])) rfl (by rw [hml]; rfl) (argsL := [xi p2]) (rest := []) (lenOf pd2 rfl) rfl (by show 2 * 0 + _ ≤ _; exact Nat.le_of_eq rfl) (hb hby at_46) (fun _ _ => ⟨rfl, e1, (by decide : 0 + 0 ≤ _), (by decide : 0 + 0 ≤ _)⟩)
  dsimp only [Pt.U, Pt.locs, Pt.cells, Pt.slots] at X2 l2 y2 z2 st2 hQ2
  subst l2 y2 z2
  obtain ⟨rfl, Nq2, e2⟩ := hQ2
  have N2 := Fr.app N1 Nq2
  obtain ⟨_, _, ⟨T3, L3, k3, n3⟩, -, X3, ⟨Lc3, hQ3, l3, y3, z3⟩, st3⟩ := Jvm.LawKit.callS X2 hx (y := Y5) hown (mvT hZ (ww hw 0 rfl)) (mvT hZ (ww hw 1 rfl)) (mvT hZ (ww hw 2 rfl)) (mvT hZ (ww hw 3 rfl)) (by decide) (backOf (W := 0) (own_pick l Z a0 hw u0 u1 u2 u3 u4 G p3 va3 hv3 h0 n0 O0 []) hZ (ww hw 3 rfl) (ww hw 2 rfl) (by decide) (by decide)) (g := (mkF m 52 #[vi p1, vi p2, vi p3, vi p4, vi (0 : Int32), vi (0 : Int32), vi (0 : Int32), vr va1, vr va2, vu, vu, vu, vu] [xi p3])) rfl (by rw [hml]; rfl) (argsL := [xi p3]) (rest := []) (lenOf pd2 rfl) rfl (by show 2 * 0 + _ ≤ _; exact Nat.le_of_eq rfl) (hb hby at_52) (fun _ _ => ⟨rfl, e2, (by decide : 0 + 0 ≤ _), (by decide : 0 + 0 ≤ _)⟩)
  dsimp only [Pt.U, Pt.locs, Pt.cells, Pt.slots] at X3 l3 y3 z3 st3 hQ3
  subst l3 y3 z3
  obtain ⟨rfl, Nq3, e3⟩ := hQ3
  have N3 := Fr.app N2 Nq3
  obtain ⟨T4, h4, X4, e4, E4, A4, D4, -, st4⟩ := newO X3 hx hZ hown (ww hw 11 rfl) (ww hw 12 rfl) (ww hw 13 rfl) e3 (g := (mkF m 57 #[vi p1, vi p2, vi p3, vi p4, vi (0 : Int32), vi (0 : Int32), vi (0 : Int32), vr va1, vr va2, vr va3, vu, vu, vu] [])) rfl (hb hby at_57) (by decide) (by decide)
  obtain ⟨b4, g4⟩ : ∃ z, z = h0.size := ⟨_, rfl⟩
  rw [← g4] at A4 D4 st4
  have g_b4 : n0 ≤ b4 := own_fresh O0 g4
  have O4 : Old Z n0 h4 := O0.ext E4
  have F_b4_counts : Fld Z h4 b4 "com/example/feedwright/feedwright/LoadSummary" "counts" "[J" .null := D4 (Or.inr (ww hw 38 rfl)) (ty := (.array .long)) (by decide)
  obtain ⟨_, _, ⟨T5, L5, k5, n5⟩, -, X5, ⟨Lc5, hQ5, l5, y5, z5⟩, st5⟩ := X4.specialBack hx (y := Y1) rfl hown (mvT hZ (ww hw 14 rfl)) (mvT hZ (ww hw 15 rfl)) (mvT hZ (ww hw 16 rfl)) (by decide) (backOf (W := 1) (own_init l Z a0 hw u0 u1 u2 u3 u4 G b4 h4 n0 O4 A4 F_b4_counts g_b4 []) hZ (ww hw 16 rfl) (ww hw 13 rfl) (by decide) (by decide)) (g := (mkF m 61 #[vi p1, vi p2, vi p3, vi p4, vi (0 : Int32), vi (0 : Int32), vi (0 : Int32), vr va1, vr va2, vr va3, vu, vu, vu] [xr b4, xr b4])) rfl (by rw [hml]; rfl) (Steps.refl _) (a := b4) (argsL := []) (rest := [xr b4]) (lenOf pd3 rfl) rfl (by show 2 * 0 + _ ≤ _; exact Nat.le_of_eq rfl) (hb hby at_61) (fun _ _ => ⟨rfl, e4, (by decide : 1 + 2 ≤ _), (by decide : 1 + 8 ≤ _)⟩)
  dsimp only [Pt.U, Pt.locs, Pt.cells, Pt.slots] at X5 l5 y5 z5 st5 hQ5
  subst l5 y5 z5
  obtain ⟨h5, e5⟩ : ∃ z, T5.heap = z := ⟨_, rfl⟩
  rw [e5] at hQ5
  obtain ⟨rfl, Nq5, K5, bb5, kk5, -, Fc5, Vb5, nb5, -, g_bb5⟩ := hQ5
  have N5 := Fr.app N3 Nq5
  have O5 : Old Z n0 h5 := O4.keep K5 (allS g_b4 all0)
  have X_b4_5 := A4.keep K5
  obtain ⟨T6, X6, e6, st6⟩ := getS2 X5 hx hZ hown (host := "") (Or.inl (ww hw 4 rfl)) Via.refl e5 ((own_S_u0 G).ext O5.2) (g := (mkF m 138 #[vi p1, vi p2, vi p3, vi p4, vi (0 : Int32), vi (0 : Int32), vi (0 : Int32), vr va1, vr va2, vr va3, vr b4, vj (0 : Int64), .second] [xr b4])) rfl (hb hby at_138)
  obtain ⟨cq7, kq7, qa7, qb7, qc7⟩ := isOf hZ e6 X_b4_5
  obtain ⟨_, _, ⟨T7, L7, k7, n7⟩, -, X7, ⟨Lc7, hQ7, l7, y7, z7⟩, st7⟩ := X6.virtualBack hx (y := Y7) (z := Y7) hown (mvT hZ (ww hw 53 rfl)) (mvT hZ (ww hw 54 rfl)) (notFace_of_selects (args := #[]) (mvT hZ (ww hw 56 rfl))) (mvT hZ (ww hw 56 rfl)) (mvT hZ (ww hw 55 rfl)) (by decide) (backOf (W := 0) (own_count0 l Z a0 hw u0 u1 u2 u3 u4 G b4 bb5 kk5 (0 : Int64) (0 : Int64) (0 : Int64) (0 : Int64) h5 n0 O5 ⟨X_b4_5, Fc5, Vb5, nb5, g_b4, g_bb5⟩ []) hZ (ww hw 57 rfl) (ww hw 13 rfl) (by decide) (by decide)) qa7 qc7 (g := (mkF m 141 #[vi p1, vi p2, vi p3, vi p4, vi (0 : Int32), vi (0 : Int32), vi (0 : Int32), vr va1, vr va2, vr va3, vr b4, vj (0 : Int64), .second] [xr u0, xr b4])) rfl (by rw [hml]; rfl) (Steps.refl _) (argsL := [xr u0]) (rest := []) (lenOf pd4 rfl) rfl (by show 2 * 0 + _ ≤ _; exact Nat.le_of_eq rfl) (hb hby at_141) (fun _ _ => ⟨rfl, e6, (by decide : 3 + 0 ≤ _), (by decide : 9 + 0 ≤ _)⟩)
  dsimp only [Pt.U, Pt.locs, Pt.cells, Pt.slots] at X7 l7 y7 z7 st7 hQ7
  subst l7 y7 z7
  obtain ⟨rfl, Nq7, e7⟩ := hQ7
  have N7 := Fr.app N5 Nq7
  obtain ⟨_, _, ⟨T8, L8, k8, n8⟩, -, X8, ⟨Lc8, hQ8, l8, y8, z8⟩, st8⟩ := Jvm.LawKit.callS X7 hx (y := Y9) hown (mvT hZ (ww hw 58 rfl)) (mvT hZ (ww hw 59 rfl)) (mvT hZ (ww hw 2 rfl)) (mvT hZ (ww hw 60 rfl)) (by decide) (backOf (W := 2) (own_c4_expected l Z a0 hw u0 u1 u2 u3 u4 G p1 p2 p3 p4 as6 as8 as10 h5 n0 O5 []) hZ (ww hw 60 rfl) (ww hw 2 rfl) (by decide) (by decide)) (g := (mkF m 149 #[vi p1, vi p2, vi p3, vi p4, vi (0 : Int32), vi (0 : Int32), vi (0 : Int32), vr va1, vr va2, vr va3, vr b4, vj (0 : Int64), .second] [xi p4, xi p3, xi p2, xi p1, xi (0 : Int32), xj (0 : Int64)])) rfl (by rw [hml]; rfl) (argsL := [xi (0 : Int32), xi p1, xi p2, xi p3, xi p4]) (rest := [xj (0 : Int64)]) (lenOf pd6 rfl) rfl (by show 2 * 0 + _ ≤ _; exact Nat.le_of_eq rfl) (hb hby at_149) (fun _ _ => ⟨rfl, e7, (by decide : 3 + 0 ≤ _), (by decide : 9 + 0 ≤ _)⟩)
  dsimp only [Pt.U, Pt.locs, Pt.cells, Pt.slots] at X8 l8 y8 z8 st8 hQ8
  subst l8 y8 z8
  obtain ⟨rfl, Nq8, e8⟩ := hQ8
  have N8 := Fr.app N7 Nq8
  obtain ⟨T9, X9, e9, st9⟩ := getS2 X8 hx hZ hown (host := "") (Or.inl (ww hw 64 rfl)) Via.refl e8 ((own_S_u4 G).ext O5.2) (g := (mkF m 158 #[vi p1, vi p2, vi p3, vi p4, vi (0 : Int32), vi (0 : Int32), vi (0 : Int32), vr va1, vr va2, vr va3, vr b4, vj (0 : Int64), .second] [xr b4])) rfl (hb hby at_158)
  obtain ⟨cq10, kq10, qa10, qb10, qc10⟩ := isOf hZ e9 X_b4_5
  obtain ⟨_, _, ⟨T10, L10, k10, n10⟩, -, X10, ⟨Lc10, hQ10, l10, y10, z10⟩, st10⟩ := X9.virtualBack hx (y := Y7) (z := Y7) hown (mvT hZ (ww hw 53 rfl)) (mvT hZ (ww hw 54 rfl)) (notFace_of_selects (args := #[]) (mvT hZ (ww hw 56 rfl))) (mvT hZ (ww hw 56 rfl)) (mvT hZ (ww hw 55 rfl)) (by decide) (backOf (W := 0) (own_count1 l Z a0 hw u0 u1 u2 u3 u4 G b4 bb5 kk5 (0 : Int64) (0 : Int64) (0 : Int64) (0 : Int64) h5 n0 O5 ⟨X_b4_5, Fc5, Vb5, nb5, g_b4, g_bb5⟩ []) hZ (ww hw 57 rfl) (ww hw 13 rfl) (by decide) (by decide)) qa10 qc10 (g := (mkF m 161 #[vi p1, vi p2, vi p3, vi p4, vi (0 : Int32), vi (0 : Int32), vi (0 : Int32), vr va1, vr va2, vr va3, vr b4, vj (0 : Int64), .second] [xr u4, xr b4])) rfl (by rw [hml]; rfl) (Steps.refl _) (argsL := [xr u4]) (rest := []) (lenOf pd4 rfl) rfl (by show 2 * 0 + _ ≤ _; exact Nat.le_of_eq rfl) (hb hby at_161) (fun _ _ => ⟨rfl, e9, (by decide : 3 + 0 ≤ _), (by decide : 9 + 0 ≤ _)⟩)
  dsimp only [Pt.U, Pt.locs, Pt.cells, Pt.slots] at X10 l10 y10 z10 st10 hQ10
  subst l10 y10 z10
  obtain ⟨rfl, Nq10, e10⟩ := hQ10
  have N10 := Fr.app N8 Nq10
  obtain ⟨_, _, ⟨T11, L11, k11, n11⟩, -, X11, ⟨Lc11, hQ11, l11, y11, z11⟩, st11⟩ := Jvm.LawKit.callS X10 hx (y := Y9) hown (mvT hZ (ww hw 58 rfl)) (mvT hZ (ww hw 59 rfl)) (mvT hZ (ww hw 2 rfl)) (mvT hZ (ww hw 60 rfl)) (by decide) (backOf (W := 2) (own_c5_expected l Z a0 hw u0 u1 u2 u3 u4 G p1 p2 p3 p4 as6 as8 as10 h5 n0 O5 []) hZ (ww hw 60 rfl) (ww hw 2 rfl) (by decide) (by decide)) (g := (mkF m 169 #[vi p1, vi p2, vi p3, vi p4, vi (0 : Int32), vi (0 : Int32), vi (0 : Int32), vr va1, vr va2, vr va3, vr b4, vj (0 : Int64), .second] [xi p4, xi p3, xi p2, xi p1, xi (1 : Int32), xj (0 : Int64)])) rfl (by rw [hml]; rfl) (argsL := [xi (1 : Int32), xi p1, xi p2, xi p3, xi p4]) (rest := [xj (0 : Int64)]) (lenOf pd6 rfl) rfl (by show 2 * 0 + _ ≤ _; exact Nat.le_of_eq rfl) (hb hby at_169) (fun _ _ => ⟨rfl, e10, (by decide : 3 + 0 ≤ _), (by decide : 9 + 0 ≤ _)⟩)
  dsimp only [Pt.U, Pt.locs, Pt.cells, Pt.slots] at X11 l11 y11 z11 st11 hQ11
  subst l11 y11 z11
  obtain ⟨rfl, Nq11, e11⟩ := hQ11
  have N11 := Fr.app N10 Nq11
  obtain ⟨T12, X12, e12, st12⟩ := getS2 X11 hx hZ hown (host := "") (Or.inl (ww hw 9 rfl)) Via.refl e11 ((own_S_u2 G).ext O5.2) (g := (mkF m 178 #[vi p1, vi p2, vi p3, vi p4, vi (0 : Int32), vi (0 : Int32), vi (0 : Int32), vr va1, vr va2, vr va3, vr b4, vj (0 : Int64), .second] [xr b4])) rfl (hb hby at_178)
  obtain ⟨cq13, kq13, qa13, qb13, qc13⟩ := isOf hZ e12 X_b4_5
  obtain ⟨_, _, ⟨T13, L13, k13, n13⟩, -, X13, ⟨Lc13, hQ13, l13, y13, z13⟩, st13⟩ := X12.virtualBack hx (y := Y7) (z := Y7) hown (mvT hZ (ww hw 53 rfl)) (mvT hZ (ww hw 54 rfl)) (notFace_of_selects (args := #[]) (mvT hZ (ww hw 56 rfl))) (mvT hZ (ww hw 56 rfl)) (mvT hZ (ww hw 55 rfl)) (by decide) (backOf (W := 0) (own_count2 l Z a0 hw u0 u1 u2 u3 u4 G b4 bb5 kk5 (0 : Int64) (0 : Int64) (0 : Int64) (0 : Int64) h5 n0 O5 ⟨X_b4_5, Fc5, Vb5, nb5, g_b4, g_bb5⟩ []) hZ (ww hw 57 rfl) (ww hw 13 rfl) (by decide) (by decide)) qa13 qc13 (g := (mkF m 181 #[vi p1, vi p2, vi p3, vi p4, vi (0 : Int32), vi (0 : Int32), vi (0 : Int32), vr va1, vr va2, vr va3, vr b4, vj (0 : Int64), .second] [xr u2, xr b4])) rfl (by rw [hml]; rfl) (Steps.refl _) (argsL := [xr u2]) (rest := []) (lenOf pd4 rfl) rfl (by show 2 * 0 + _ ≤ _; exact Nat.le_of_eq rfl) (hb hby at_181) (fun _ _ => ⟨rfl, e12, (by decide : 3 + 0 ≤ _), (by decide : 9 + 0 ≤ _)⟩)
  dsimp only [Pt.U, Pt.locs, Pt.cells, Pt.slots] at X13 l13 y13 z13 st13 hQ13
  subst l13 y13 z13
  obtain ⟨rfl, Nq13, e13⟩ := hQ13
  have N13 := Fr.app N11 Nq13
  obtain ⟨_, _, ⟨T14, L14, k14, n14⟩, -, X14, ⟨Lc14, hQ14, l14, y14, z14⟩, st14⟩ := Jvm.LawKit.callS X13 hx (y := Y9) hown (mvT hZ (ww hw 58 rfl)) (mvT hZ (ww hw 59 rfl)) (mvT hZ (ww hw 2 rfl)) (mvT hZ (ww hw 60 rfl)) (by decide) (backOf (W := 2) (own_c6_expected l Z a0 hw u0 u1 u2 u3 u4 G p1 p2 p3 p4 as6 as8 as10 h5 n0 O5 []) hZ (ww hw 60 rfl) (ww hw 2 rfl) (by decide) (by decide)) (g := (mkF m 189 #[vi p1, vi p2, vi p3, vi p4, vi (0 : Int32), vi (0 : Int32), vi (0 : Int32), vr va1, vr va2, vr va3, vr b4, vj (0 : Int64), .second] [xi p4, xi p3, xi p2, xi p1, xi (2 : Int32), xj (0 : Int64)])) rfl (by rw [hml]; rfl) (argsL := [xi (2 : Int32), xi p1, xi p2, xi p3, xi p4]) (rest := [xj (0 : Int64)]) (lenOf pd6 rfl) rfl (by show 2 * 0 + _ ≤ _; exact Nat.le_of_eq rfl) (hb hby at_189) (fun _ _ => ⟨rfl, e13, (by decide : 3 + 0 ≤ _), (by decide : 9 + 0 ≤ _)⟩)
  dsimp only [Pt.U, Pt.locs, Pt.cells, Pt.slots] at X14 l14 y14 z14 st14 hQ14
  subst l14 y14 z14
  obtain ⟨rfl, Nq14, e14⟩ := hQ14
  have N14 := Fr.app N13 Nq14
  obtain ⟨T15, X15, e15, st15⟩ := getS2 X14 hx hZ hown (host := "") (Or.inl (ww hw 7 rfl)) Via.refl e14 ((own_S_u1 G).ext O5.2) (g := (mkF m 198 #[vi p1, vi p2, vi p3, vi p4, vi (0 : Int32), vi (0 : Int32), vi (0 : Int32), vr va1, vr va2, vr va3, vr b4, vj (0 : Int64), .second] [xr b4])) rfl (hb hby at_198)
  obtain ⟨cq16, kq16, qa16, qb16, qc16⟩ := isOf hZ e15 X_b4_5
  obtain ⟨_, _, ⟨T16, L16, k16, n16⟩, -, X16, ⟨Lc16, hQ16, l16, y16, z16⟩, st16⟩ := X15.virtualBack hx (y := Y7) (z := Y7) hown (mvT hZ (ww hw 53 rfl)) (mvT hZ (ww hw 54 rfl)) (notFace_of_selects (args := #[]) (mvT hZ (ww hw 56 rfl))) (mvT hZ (ww hw 56 rfl)) (mvT hZ (ww hw 55 rfl)) (by decide) (backOf (W := 0) (own_count3 l Z a0 hw u0 u1 u2 u3 u4 G b4 bb5 kk5 (0 : Int64) (0 : Int64) (0 : Int64) (0 : Int64) h5 n0 O5 ⟨X_b4_5, Fc5, Vb5, nb5, g_b4, g_bb5⟩ []) hZ (ww hw 57 rfl) (ww hw 13 rfl) (by decide) (by decide)) qa16 qc16 (g := (mkF m 201 #[vi p1, vi p2, vi p3, vi p4, vi (0 : Int32), vi (0 : Int32), vi (0 : Int32), vr va1, vr va2, vr va3, vr b4, vj (0 : Int64), .second] [xr u1, xr b4])) rfl (by rw [hml]; rfl) (Steps.refl _) (argsL := [xr u1]) (rest := []) (lenOf pd4 rfl) rfl (by show 2 * 0 + _ ≤ _; exact Nat.le_of_eq rfl) (hb hby at_201) (fun _ _ => ⟨rfl, e15, (by decide : 3 + 0 ≤ _), (by decide : 9 + 0 ≤ _)⟩)
  dsimp only [Pt.U, Pt.locs, Pt.cells, Pt.slots] at X16 l16 y16 z16 st16 hQ16
  subst l16 y16 z16
  obtain ⟨rfl, Nq16, e16⟩ := hQ16
  have N16 := Fr.app N14 Nq16
  obtain ⟨_, _, ⟨T17, L17, k17, n17⟩, -, X17, ⟨Lc17, hQ17, l17, y17, z17⟩, st17⟩ := Jvm.LawKit.callS X16 hx (y := Y9) hown (mvT hZ (ww hw 58 rfl)) (mvT hZ (ww hw 59 rfl)) (mvT hZ (ww hw 2 rfl)) (mvT hZ (ww hw 60 rfl)) (by decide) (backOf (W := 2) (own_c7_expected l Z a0 hw u0 u1 u2 u3 u4 G p1 p2 p3 p4 as6 as8 as10 h5 n0 O5 []) hZ (ww hw 60 rfl) (ww hw 2 rfl) (by decide) (by decide)) (g := (mkF m 209 #[vi p1, vi p2, vi p3, vi p4, vi (0 : Int32), vi (0 : Int32), vi (0 : Int32), vr va1, vr va2, vr va3, vr b4, vj (0 : Int64), .second] [xi p4, xi p3, xi p2, xi p1, xi (3 : Int32), xj (0 : Int64)])) rfl (by rw [hml]; rfl) (argsL := [xi (3 : Int32), xi p1, xi p2, xi p3, xi p4]) (rest := [xj (0 : Int64)]) (lenOf pd6 rfl) rfl (by show 2 * 0 + _ ≤ _; exact Nat.le_of_eq rfl) (hb hby at_209) (fun _ _ => ⟨rfl, e16, (by decide : 3 + 0 ≤ _), (by decide : 9 + 0 ≤ _)⟩)
  dsimp only [Pt.U, Pt.locs, Pt.cells, Pt.slots] at X17 l17 y17 z17 st17 hQ17
  subst l17 y17 z17
  obtain ⟨rfl, Nq17, e17⟩ := hQ17
  have N17 := Fr.app N16 Nq17
  obtain ⟨cq18, kq18, qa18, qb18, qc18⟩ := isOf hZ e17 X_b4_5
  obtain ⟨_, _, ⟨T18, L18, k18, n18⟩, -, X18, ⟨Lc18, hQ18, l18, y18, z18⟩, st18⟩ := X17.virtualBack hx (y := Y8) (z := Y8) hown (mvT hZ (ww hw 65 rfl)) (mvT hZ (ww hw 66 rfl)) (notFace_of_selects (args := #[]) (mvT hZ (ww hw 68 rfl))) (mvT hZ (ww hw 68 rfl)) (mvT hZ (ww hw 67 rfl)) (by decide) (backOf (W := 0) (own_records l Z a0 hw u0 u1 u2 u3 u4 G b4 bb5 kk5 (0 : Int64) (0 : Int64) (0 : Int64) (0 : Int64) h5 n0 O5 ⟨X_b4_5, Fc5, Vb5, nb5, g_b4, g_bb5⟩ []) hZ (ww hw 69 rfl) (ww hw 13 rfl) (by decide) (by decide)) qa18 qc18 (g := (mkF m 218 #[vi p1, vi p2, vi p3, vi p4, vi (0 : Int32), vi (0 : Int32), vi (0 : Int32), vr va1, vr va2, vr va3, vr b4, vj (0 : Int64), .second] [xr b4])) rfl (by rw [hml]; rfl) (Steps.refl _) (argsL := []) (rest := []) (lenOf pd7 rfl) rfl (by show 2 * 0 + _ ≤ _; exact Nat.le_of_eq rfl) (hb hby at_218) (fun _ _ => ⟨rfl, e17, (by decide : 3 + 0 ≤ _), (by decide : 9 + 0 ≤ _)⟩)
  dsimp only [Pt.U, Pt.locs, Pt.cells, Pt.slots] at X18 l18 y18 z18 st18 hQ18
  subst l18 y18 z18
  obtain ⟨rfl, Nq18, e18⟩ := hQ18
  have N18 := Fr.app N17 Nq18
  obtain ⟨fs, hr, hrun, hended, hW, hsame⟩ := X18.leave (v := some (xi (1 : Int32))) (fun h => by rw [Bd.returns] at h; cases h)
  refine ⟨_, _, pre0 _ ?_, hrun, hended, _, _, rfl, ?_, ⟨_, rfl⟩, hW, hsame.mono (by decide) (by decide)⟩
  · show own_S p e below s₁ (mkF m 0 #[vi p1, vi p2, vi p3, vi p4, vu, vu, vu, vu, vu, vu, vu, vu, vu] []) _
    refine XS.iloadN X0.here hx rfl (hb hby at_0) rfl ?_
    show own_S p e below s₁ (mkF m 1 #[vi p1, vi p2, vi p3, vi p4, vu, vu, vu, vu, vu, vu, vu, vu, vu] [xi p4]) _
    refine XS.iconst X0.here hx rfl (hb hby at_1) ?_
    show own_S p e below s₁ (mkF m 2 #[vi p1, vi p2, vi p3, vi p4, vu, vu, vu, vu, vu, vu, vu, vu, vu] [xi (1 : Int32), xi p4]) _
    refine XS.iand X0.here hx rfl (hb hby at_2) rfl ?_
    show own_S p e below s₁ (mkF m 3 #[vi p1, vi p2, vi p3, vi p4, vu, vu, vu, vu, vu, vu, vu, vu, vu] [xi (p4 &&& (1 : Int32))]) _
    refine castTop (show (mkF m 3 #[vi p1, vi p2, vi p3, vi p4, vu, vu, vu, vu, vu, vu, vu, vu, vu] [xi (p4 &&& (1 : Int32))]) = (mkF m 3 #[vi p1, vi p2, vi p3, vi p4, vu, vu, vu, vu, vu, vu, vu, vu, vu] [xi (0 : Int32)]) from by rw [as6]) ?_
    show own_S p e below s₁ (mkF m 3 #[vi p1, vi p2, vi p3, vi p4, vu, vu, vu, vu, vu, vu, vu, vu, vu] [xi (0 : Int32)]) _
    refine XS.ifYes X0.here hx rfl (pc0 := 3) (pc' := 10) rfl (hb hby at_3) rfl (by decide) (by decide) (by decide) ?_
    show own_S p e below s₁ (mkF m 10 #[vi p1, vi p2, vi p3, vi p4, vu, vu, vu, vu, vu, vu, vu, vu, vu] []) _
    refine XS.iconst X0.here hx rfl (hb hby at_10) ?_
    show own_S p e below s₁ (mkF m 11 #[vi p1, vi p2, vi p3, vi p4, vu, vu, vu, vu, vu, vu, vu, vu, vu] [xi (0 : Int32)]) _
    refine XS.istore X0.here hx rfl (hb hby at_11) rfl (l' := #[vi p1, vi p2, vi p3, vi p4, vi (0 : Int32), vu, vu, vu, vu, vu, vu, vu, vu]) rfl ?_
    show own_S p e below s₁ (mkF m 13 #[vi p1, vi p2, vi p3, vi p4, vi (0 : Int32), vu, vu, vu, vu, vu, vu, vu, vu] []) _
    refine XS.iloadN X0.here hx rfl (hb hby at_13) rfl ?_
    show own_S p e below s₁ (mkF m 14 #[vi p1, vi p2, vi p3, vi p4, vi (0 : Int32), vu, vu, vu, vu, vu, vu, vu, vu] [xi p4]) _
    refine XS.iconst X0.here hx rfl (hb hby at_14) ?_
    show own_S p e below s₁ (mkF m 15 #[vi p1, vi p2, vi p3, vi p4, vi (0 : Int32), vu, vu, vu, vu, vu, vu, vu, vu] [xi (2 : Int32), xi p4]) _
    refine XS.iand X0.here hx rfl (hb hby at_15) rfl ?_
    show own_S p e below s₁ (mkF m 16 #[vi p1, vi p2, vi p3, vi p4, vi (0 : Int32), vu, vu, vu, vu, vu, vu, vu, vu] [xi (p4 &&& (2 : Int32))]) _
    refine castTop (show (mkF m 16 #[vi p1, vi p2, vi p3, vi p4, vi (0 : Int32), vu, vu, vu, vu, vu, vu, vu, vu] [xi (p4 &&& (2 : Int32))]) = (mkF m 16 #[vi p1, vi p2, vi p3, vi p4, vi (0 : Int32), vu, vu, vu, vu, vu, vu, vu, vu] [xi (0 : Int32)]) from by rw [as8]) ?_
    show own_S p e below s₁ (mkF m 16 #[vi p1, vi p2, vi p3, vi p4, vi (0 : Int32), vu, vu, vu, vu, vu, vu, vu, vu] [xi (0 : Int32)]) _
    refine XS.ifYes X0.here hx rfl (pc0 := 16) (pc' := 23) rfl (hb hby at_16) rfl (by decide) (by decide) (by decide) ?_
    show own_S p e below s₁ (mkF m 23 #[vi p1, vi p2, vi p3, vi p4, vi (0 : Int32), vu, vu, vu, vu, vu, vu, vu, vu] []) _
    refine XS.iconst X0.here hx rfl (hb hby at_23) ?_
    show own_S p e below s₁ (mkF m 24 #[vi p1, vi p2, vi p3, vi p4, vi (0 : Int32), vu, vu, vu, vu, vu, vu, vu, vu] [xi (0 : Int32)]) _
    refine XS.istore X0.here hx rfl (hb hby at_24) rfl (l' := #[vi p1, vi p2, vi p3, vi p4, vi (0 : Int32), vi (0 : Int32), vu, vu, vu, vu, vu, vu, vu]) rfl ?_
    show own_S p e below s₁ (mkF m 26 #[vi p1, vi p2, vi p3, vi p4, vi (0 : Int32), vi (0 : Int32), vu, vu, vu, vu, vu, vu, vu] []) _
    refine XS.iloadN X0.here hx rfl (hb hby at_26) rfl ?_
    show own_S p e below s₁ (mkF m 27 #[vi p1, vi p2, vi p3, vi p4, vi (0 : Int32), vi (0 : Int32), vu, vu, vu, vu, vu, vu, vu] [xi p4]) _
    refine XS.iconst X0.here hx rfl (hb hby at_27) ?_
    show own_S p e below s₁ (mkF m 28 #[vi p1, vi p2, vi p3, vi p4, vi (0 : Int32), vi (0 : Int32), vu, vu, vu, vu, vu, vu, vu] [xi (4 : Int32), xi p4]) _
    refine XS.iand X0.here hx rfl (hb hby at_28) rfl ?_
    show own_S p e below s₁ (mkF m 29 #[vi p1, vi p2, vi p3, vi p4, vi (0 : Int32), vi (0 : Int32), vu, vu, vu, vu, vu, vu, vu] [xi (p4 &&& (4 : Int32))]) _
    refine castTop (show (mkF m 29 #[vi p1, vi p2, vi p3, vi p4, vi (0 : Int32), vi (0 : Int32), vu, vu, vu, vu, vu, vu, vu] [xi (p4 &&& (4 : Int32))]) = (mkF m 29 #[vi p1, vi p2, vi p3, vi p4, vi (0 : Int32), vi (0 : Int32), vu, vu, vu, vu, vu, vu, vu] [xi (0 : Int32)]) from by rw [as10]) ?_
    show own_S p e below s₁ (mkF m 29 #[vi p1, vi p2, vi p3, vi p4, vi (0 : Int32), vi (0 : Int32), vu, vu, vu, vu, vu, vu, vu] [xi (0 : Int32)]) _
    refine XS.ifYes X0.here hx rfl (pc0 := 29) (pc' := 36) rfl (hb hby at_29) rfl (by decide) (by decide) (by decide) ?_
    show own_S p e below s₁ (mkF m 36 #[vi p1, vi p2, vi p3, vi p4, vi (0 : Int32), vi (0 : Int32), vu, vu, vu, vu, vu, vu, vu] []) _
    refine XS.iconst X0.here hx rfl (hb hby at_36) ?_
    show own_S p e below s₁ (mkF m 37 #[vi p1, vi p2, vi p3, vi p4, vi (0 : Int32), vi (0 : Int32), vu, vu, vu, vu, vu, vu, vu] [xi (0 : Int32)]) _
    refine XS.istore X0.here hx rfl (hb hby at_37) rfl (l' := #[vi p1, vi p2, vi p3, vi p4, vi (0 : Int32), vi (0 : Int32), vi (0 : Int32), vu, vu, vu, vu, vu, vu]) rfl ?_
    show own_S p e below s₁ (mkF m 39 #[vi p1, vi p2, vi p3, vi p4, vi (0 : Int32), vi (0 : Int32), vi (0 : Int32), vu, vu, vu, vu, vu, vu] []) _
    refine XS.iloadN X0.here hx rfl (hb hby at_39) rfl ?_
    show own_S p e below s₁ (mkF m 40 #[vi p1, vi p2, vi p3, vi p4, vi (0 : Int32), vi (0 : Int32), vi (0 : Int32), vu, vu, vu, vu, vu, vu] [xi p1]) _
    refine st1 _ ?_
    show own_S p e below T1 (mkF m 43 #[vi p1, vi p2, vi p3, vi p4, vi (0 : Int32), vi (0 : Int32), vi (0 : Int32), vu, vu, vu, vu, vu, vu] [xr va1]) _
    refine XS.astore X1.here hx rfl (hb hby at_43) rfl rfl (l' := #[vi p1, vi p2, vi p3, vi p4, vi (0 : Int32), vi (0 : Int32), vi (0 : Int32), vr va1, vu, vu, vu, vu, vu]) rfl ?_
    show own_S p e below T1 (mkF m 45 #[vi p1, vi p2, vi p3, vi p4, vi (0 : Int32), vi (0 : Int32), vi (0 : Int32), vr va1, vu, vu, vu, vu, vu] []) _
    refine XS.iloadN X1.here hx rfl (hb hby at_45) rfl ?_
    show own_S p e below T1 (mkF m 46 #[vi p1, vi p2, vi p3, vi p4, vi (0 : Int32), vi (0 : Int32), vi (0 : Int32), vr va1, vu, vu, vu, vu, vu] [xi p2]) _
    refine st2 _ ?_
    show own_S p e below T2 (mkF m 49 #[vi p1, vi p2, vi p3, vi p4, vi (0 : Int32), vi (0 : Int32), vi (0 : Int32), vr va1, vu, vu, vu, vu, vu] [xr va2]) _
    refine XS.astore X2.here hx rfl (hb hby at_49) rfl rfl (l' := #[vi p1, vi p2, vi p3, vi p4, vi (0 : Int32), vi (0 : Int32), vi (0 : Int32), vr va1, vr va2, vu, vu, vu, vu]) rfl ?_
    show own_S p e below T2 (mkF m 51 #[vi p1, vi p2, vi p3, vi p4, vi (0 : Int32), vi (0 : Int32), vi (0 : Int32), vr va1, vr va2, vu, vu, vu, vu] []) _
    refine XS.iloadN X2.here hx rfl (hb hby at_51) rfl ?_
    show own_S p e below T2 (mkF m 52 #[vi p1, vi p2, vi p3, vi p4, vi (0 : Int32), vi (0 : Int32), vi (0 : Int32), vr va1, vr va2, vu, vu, vu, vu] [xi p3]) _
    refine st3 _ ?_
    show own_S p e below T3 (mkF m 55 #[vi p1, vi p2, vi p3, vi p4, vi (0 : Int32), vi (0 : Int32), vi (0 : Int32), vr va1, vr va2, vu, vu, vu, vu] [xr va3]) _
    refine XS.astore X3.here hx rfl (hb hby at_55) rfl rfl (l' := #[vi p1, vi p2, vi p3, vi p4, vi (0 : Int32), vi (0 : Int32), vi (0 : Int32), vr va1, vr va2, vr va3, vu, vu, vu]) rfl ?_
    show own_S p e below T3 (mkF m 57 #[vi p1, vi p2, vi p3, vi p4, vi (0 : Int32), vi (0 : Int32), vi (0 : Int32), vr va1, vr va2, vr va3, vu, vu, vu] []) _
    refine st4 _ ?_
    show own_S p e below T4 (mkF m 60 #[vi p1, vi p2, vi p3, vi p4, vi (0 : Int32), vi (0 : Int32), vi (0 : Int32), vr va1, vr va2, vr va3, vu, vu, vu] [xr b4]) _
    refine XS.dup X4.here hx rfl (hb hby at_60) rfl rfl ?_
    show own_S p e below T4 (mkF m 61 #[vi p1, vi p2, vi p3, vi p4, vi (0 : Int32), vi (0 : Int32), vi (0 : Int32), vr va1, vr va2, vr va3, vu, vu, vu] [xr b4, xr b4]) _
    refine st5.trans ?_
    show own_S p e below T5 (mkF m 64 #[vi p1, vi p2, vi p3, vi p4, vi (0 : Int32), vi (0 : Int32), vi (0 : Int32), vr va1, vr va2, vr va3, vu, vu, vu] [xr b4]) _
    refine XS.astore X5.here hx rfl (hb hby at_64) rfl rfl (l' := #[vi p1, vi p2, vi p3, vi p4, vi (0 : Int32), vi (0 : Int32), vi (0 : Int32), vr va1, vr va2, vr va3, vr b4, vu, vu]) rfl ?_
    show own_S p e below T5 (mkF m 66 #[vi p1, vi p2, vi p3, vi p4, vi (0 : Int32), vi (0 : Int32), vi (0 : Int32), vr va1, vr va2, vr va3, vr b4, vu, vu] []) _
    refine XS.iload X5.here hx rfl (hb hby at_66) rfl ?_
    show own_S p e below T5 (mkF m 68 #[vi p1, vi p2, vi p3, vi p4, vi (0 : Int32), vi (0 : Int32), vi (0 : Int32), vr va1, vr va2, vr va3, vr b4, vu, vu] [xi (0 : Int32)]) _
    refine XS.ifYes X5.here hx rfl (pc0 := 68) (pc' := 78) rfl (hb hby at_68) rfl (by decide) (by decide) (by decide) ?_
    show own_S p e below T5 (mkF m 78 #[vi p1, vi p2, vi p3, vi p4, vi (0 : Int32), vi (0 : Int32), vi (0 : Int32), vr va1, vr va2, vr va3, vr b4, vu, vu] []) _
    refine XS.iload X5.here hx rfl (hb hby at_78) rfl ?_
    show own_S p e below T5 (mkF m 80 #[vi p1, vi p2, vi p3, vi p4, vi (0 : Int32), vi (0 : Int32), vi (0 : Int32), vr va1, vr va2, vr va3, vr b4, vu, vu] [xi (0 : Int32)]) _
    refine XS.ifYes X5.here hx rfl (pc0 := 80) (pc' := 90) rfl (hb hby at_80) rfl (by decide) (by decide) (by decide) ?_
    show own_S p e below T5 (mkF m 90 #[vi p1, vi p2, vi p3, vi p4, vi (0 : Int32), vi (0 : Int32), vi (0 : Int32), vr va1, vr va2, vr va3, vr b4, vu, vu] []) _
    refine XS.iload X5.here hx rfl (hb hby at_90) rfl ?_
    show own_S p e below T5 (mkF m 92 #[vi p1, vi p2, vi p3, vi p4, vi (0 : Int32), vi (0 : Int32), vi (0 : Int32), vr va1, vr va2, vr va3, vr b4, vu, vu] [xi (0 : Int32)]) _
    refine XS.ifYes X5.here hx rfl (pc0 := 92) (pc' := 102) rfl (hb hby at_92) rfl (by decide) (by decide) (by decide) ?_
    show own_S p e below T5 (mkF m 102 #[vi p1, vi p2, vi p3, vi p4, vi (0 : Int32), vi (0 : Int32), vi (0 : Int32), vr va1, vr va2, vr va3, vr b4, vu, vu] []) _
    refine XS.iload X5.here hx rfl (hb hby at_102) rfl ?_
    show own_S p e below T5 (mkF m 104 #[vi p1, vi p2, vi p3, vi p4, vi (0 : Int32), vi (0 : Int32), vi (0 : Int32), vr va1, vr va2, vr va3, vr b4, vu, vu] [xi (0 : Int32)]) _
    refine XS.ifYes X5.here hx rfl (pc0 := 104) (pc' := 111) rfl (hb hby at_104) rfl (by decide) (by decide) (by decide) ?_
    show own_S p e below T5 (mkF m 111 #[vi p1, vi p2, vi p3, vi p4, vi (0 : Int32), vi (0 : Int32), vi (0 : Int32), vr va1, vr va2, vr va3, vr b4, vu, vu] []) _
    refine XS.lconst X5.here hx rfl (hb hby at_111) ?_
    show own_S p e below T5 (mkF m 112 #[vi p1, vi p2, vi p3, vi p4, vi (0 : Int32), vi (0 : Int32), vi (0 : Int32), vr va1, vr va2, vr va3, vr b4, vu, vu] [xj (0 : Int64)]) _
    refine XS.iload X5.here hx rfl (hb hby at_112) rfl ?_
    show own_S p e below T5 (mkF m 114 #[vi p1, vi p2, vi p3, vi p4, vi (0 : Int32), vi (0 : Int32), vi (0 : Int32), vr va1, vr va2, vr va3, vr b4, vu, vu] [xi (0 : Int32), xj (0 : Int64)]) _
    refine XS.ifYes X5.here hx rfl (pc0 := 114) (pc' := 121) rfl (hb hby at_114) rfl (by decide) (by decide) (by decide) ?_
    show own_S p e below T5 (mkF m 121 #[vi p1, vi p2, vi p3, vi p4, vi (0 : Int32), vi (0 : Int32), vi (0 : Int32), vr va1, vr va2, vr va3, vr b4, vu, vu] [xj (0 : Int64)]) _
    refine XS.lconst X5.here hx rfl (hb hby at_121) ?_
    show own_S p e below T5 (mkF m 122 #[vi p1, vi p2, vi p3, vi p4, vi (0 : Int32), vi (0 : Int32), vi (0 : Int32), vr va1, vr va2, vr va3, vr b4, vu, vu] [xj (0 : Int64), xj (0 : Int64)]) _
    refine XS.ladd X5.here hx rfl (hb hby at_122) rfl ?_
    show own_S p e below T5 (mkF m 123 #[vi p1, vi p2, vi p3, vi p4, vi (0 : Int32), vi (0 : Int32), vi (0 : Int32), vr va1, vr va2, vr va3, vr b4, vu, vu] [xj ((0 : Int64) + (0 : Int64))]) _
    refine castTop (show (mkF m 123 #[vi p1, vi p2, vi p3, vi p4, vi (0 : Int32), vi (0 : Int32), vi (0 : Int32), vr va1, vr va2, vr va3, vr b4, vu, vu] [xj ((0 : Int64) + (0 : Int64))]) = (mkF m 123 #[vi p1, vi p2, vi p3, vi p4, vi (0 : Int32), vi (0 : Int32), vi (0 : Int32), vr va1, vr va2, vr va3, vr b4, vu, vu] [xj (0 : Int64)]) from by rw [show ((0 : Int64) + (0 : Int64)) = (0 : Int64) from by decide]) ?_
    show own_S p e below T5 (mkF m 123 #[vi p1, vi p2, vi p3, vi p4, vi (0 : Int32), vi (0 : Int32), vi (0 : Int32), vr va1, vr va2, vr va3, vr b4, vu, vu] [xj (0 : Int64)]) _
    refine XS.iload X5.here hx rfl (hb hby at_123) rfl ?_
    show own_S p e below T5 (mkF m 125 #[vi p1, vi p2, vi p3, vi p4, vi (0 : Int32), vi (0 : Int32), vi (0 : Int32), vr va1, vr va2, vr va3, vr b4, vu, vu] [xi (0 : Int32), xj (0 : Int64)]) _
    refine XS.ifYes X5.here hx rfl (pc0 := 125) (pc' := 132) rfl (hb hby at_125) rfl (by decide) (by decide) (by decide) ?_
    show own_S p e below T5 (mkF m 132 #[vi p1, vi p2, vi p3, vi p4, vi (0 : Int32), vi (0 : Int32), vi (0 : Int32), vr va1, vr va2, vr va3, vr b4, vu, vu] [xj (0 : Int64)]) _
    refine XS.lconst X5.here hx rfl (hb hby at_132) ?_
    show own_S p e below T5 (mkF m 133 #[vi p1, vi p2, vi p3, vi p4, vi (0 : Int32), vi (0 : Int32), vi (0 : Int32), vr va1, vr va2, vr va3, vr b4, vu, vu] [xj (0 : Int64), xj (0 : Int64)]) _
    refine XS.ladd X5.here hx rfl (hb hby at_133) rfl ?_
    show own_S p e below T5 (mkF m 134 #[vi p1, vi p2, vi p3, vi p4, vi (0 : Int32), vi (0 : Int32), vi (0 : Int32), vr va1, vr va2, vr va3, vr b4, vu, vu] [xj ((0 : Int64) + (0 : Int64))]) _
    refine castTop (show (mkF m 134 #[vi p1, vi p2, vi p3, vi p4, vi (0 : Int32), vi (0 : Int32), vi (0 : Int32), vr va1, vr va2, vr va3, vr b4, vu, vu] [xj ((0 : Int64) + (0 : Int64))]) = (mkF m 134 #[vi p1, vi p2, vi p3, vi p4, vi (0 : Int32), vi (0 : Int32), vi (0 : Int32), vr va1, vr va2, vr va3, vr b4, vu, vu] [xj (0 : Int64)]) from by rw [show ((0 : Int64) + (0 : Int64)) = (0 : Int64) from by decide]) ?_
    show own_S p e below T5 (mkF m 134 #[vi p1, vi p2, vi p3, vi p4, vi (0 : Int32), vi (0 : Int32), vi (0 : Int32), vr va1, vr va2, vr va3, vr b4, vu, vu] [xj (0 : Int64)]) _
    refine XS.lstore X5.here hx rfl (hb hby at_134) rfl (l' := #[vi p1, vi p2, vi p3, vi p4, vi (0 : Int32), vi (0 : Int32), vi (0 : Int32), vr va1, vr va2, vr va3, vr b4, vj (0 : Int64), .second]) rfl ?_
    show own_S p e below T5 (mkF m 136 #[vi p1, vi p2, vi p3, vi p4, vi (0 : Int32), vi (0 : Int32), vi (0 : Int32), vr va1, vr va2, vr va3, vr b4, vj (0 : Int64), .second] []) _
    refine XS.aload X5.here hx rfl (hb hby at_136) rfl rfl ?_
    show own_S p e below T5 (mkF m 138 #[vi p1, vi p2, vi p3, vi p4, vi (0 : Int32), vi (0 : Int32), vi (0 : Int32), vr va1, vr va2, vr va3, vr b4, vj (0 : Int64), .second] [xr b4]) _
    refine st6 _ ?_
    show own_S p e below T6 (mkF m 141 #[vi p1, vi p2, vi p3, vi p4, vi (0 : Int32), vi (0 : Int32), vi (0 : Int32), vr va1, vr va2, vr va3, vr b4, vj (0 : Int64), .second] [xr u0, xr b4]) _
    refine st7.trans ?_
    show own_S p e below T7 (mkF m 144 #[vi p1, vi p2, vi p3, vi p4, vi (0 : Int32), vi (0 : Int32), vi (0 : Int32), vr va1, vr va2, vr va3, vr b4, vj (0 : Int64), .second] [xj (0 : Int64)]) _
    refine XS.iconst X7.here hx rfl (hb hby at_144) ?_
    show own_S p e below T7 (mkF m 145 #[vi p1, vi p2, vi p3, vi p4, vi (0 : Int32), vi (0 : Int32), vi (0 : Int32), vr va1, vr va2, vr va3, vr b4, vj (0 : Int64), .second] [xi (0 : Int32), xj (0 : Int64)]) _
    refine XS.iloadN X7.here hx rfl (hb hby at_145) rfl ?_
    show own_S p e below T7 (mkF m 146 #[vi p1, vi p2, vi p3, vi p4, vi (0 : Int32), vi (0 : Int32), vi (0 : Int32), vr va1, vr va2, vr va3, vr b4, vj (0 : Int64), .second] [xi p1, xi (0 : Int32), xj (0 : Int64)]) _
    refine XS.iloadN X7.here hx rfl (hb hby at_146) rfl ?_
    show own_S p e below T7 (mkF m 147 #[vi p1, vi p2, vi p3, vi p4, vi (0 : Int32), vi (0 : Int32), vi (0 : Int32), vr va1, vr va2, vr va3, vr b4, vj (0 : Int64), .second] [xi p2, xi p1, xi (0 : Int32), xj (0 : Int64)]) _
    refine XS.iloadN X7.here hx rfl (hb hby at_147) rfl ?_
    show own_S p e below T7 (mkF m 148 #[vi p1, vi p2, vi p3, vi p4, vi (0 : Int32), vi (0 : Int32), vi (0 : Int32), vr va1, vr va2, vr va3, vr b4, vj (0 : Int64), .second] [xi p3, xi p2, xi p1, xi (0 : Int32), xj (0 : Int64)]) _
    refine XS.iloadN X7.here hx rfl (hb hby at_148) rfl ?_
    show own_S p e below T7 (mkF m 149 #[vi p1, vi p2, vi p3, vi p4, vi (0 : Int32), vi (0 : Int32), vi (0 : Int32), vr va1, vr va2, vr va3, vr b4, vj (0 : Int64), .second] [xi p4, xi p3, xi p2, xi p1, xi (0 : Int32), xj (0 : Int64)]) _
    refine st8 _ ?_
    show own_S p e below T8 (mkF m 152 #[vi p1, vi p2, vi p3, vi p4, vi (0 : Int32), vi (0 : Int32), vi (0 : Int32), vr va1, vr va2, vr va3, vr b4, vj (0 : Int64), .second] [xj (0 : Int64), xj (0 : Int64)]) _
    refine XS.lcmp X8.here hx rfl (hb hby at_152) rfl ?_
    show own_S p e below T8 (mkF m 153 #[vi p1, vi p2, vi p3, vi p4, vi (0 : Int32), vi (0 : Int32), vi (0 : Int32), vr va1, vr va2, vr va3, vr b4, vj (0 : Int64), .second] [xi (lcmpW (0 : Int64) (0 : Int64))]) _
    show own_S p e below T8 (mkF m 153 #[vi p1, vi p2, vi p3, vi p4, vi (0 : Int32), vi (0 : Int32), vi (0 : Int32), vr va1, vr va2, vr va3, vr b4, vj (0 : Int64), .second] [xi (lcmpW (0 : Int64) (0 : Int64))]) _
    refine XS.ifNo X8.here hx rfl (hb hby at_153) rfl (by simp [lcmpW, ifCond.holds, Int64.zero_add, Int64.add_zero]) ?_
    show own_S p e below T8 (mkF m 156 #[vi p1, vi p2, vi p3, vi p4, vi (0 : Int32), vi (0 : Int32), vi (0 : Int32), vr va1, vr va2, vr va3, vr b4, vj (0 : Int64), .second] []) _
    refine XS.aload X8.here hx rfl (hb hby at_156) rfl rfl ?_
    show own_S p e below T8 (mkF m 158 #[vi p1, vi p2, vi p3, vi p4, vi (0 : Int32), vi (0 : Int32), vi (0 : Int32), vr va1, vr va2, vr va3, vr b4, vj (0 : Int64), .second] [xr b4]) _
    refine st9 _ ?_
    show own_S p e below T9 (mkF m 161 #[vi p1, vi p2, vi p3, vi p4, vi (0 : Int32), vi (0 : Int32), vi (0 : Int32), vr va1, vr va2, vr va3, vr b4, vj (0 : Int64), .second] [xr u4, xr b4]) _
    refine st10.trans ?_
    show own_S p e below T10 (mkF m 164 #[vi p1, vi p2, vi p3, vi p4, vi (0 : Int32), vi (0 : Int32), vi (0 : Int32), vr va1, vr va2, vr va3, vr b4, vj (0 : Int64), .second] [xj (0 : Int64)]) _
    refine XS.iconst X10.here hx rfl (hb hby at_164) ?_
    show own_S p e below T10 (mkF m 165 #[vi p1, vi p2, vi p3, vi p4, vi (0 : Int32), vi (0 : Int32), vi (0 : Int32), vr va1, vr va2, vr va3, vr b4, vj (0 : Int64), .second] [xi (1 : Int32), xj (0 : Int64)]) _
    refine XS.iloadN X10.here hx rfl (hb hby at_165) rfl ?_
    show own_S p e below T10 (mkF m 166 #[vi p1, vi p2, vi p3, vi p4, vi (0 : Int32), vi (0 : Int32), vi (0 : Int32), vr va1, vr va2, vr va3, vr b4, vj (0 : Int64), .second] [xi p1, xi (1 : Int32), xj (0 : Int64)]) _
    refine XS.iloadN X10.here hx rfl (hb hby at_166) rfl ?_
    show own_S p e below T10 (mkF m 167 #[vi p1, vi p2, vi p3, vi p4, vi (0 : Int32), vi (0 : Int32), vi (0 : Int32), vr va1, vr va2, vr va3, vr b4, vj (0 : Int64), .second] [xi p2, xi p1, xi (1 : Int32), xj (0 : Int64)]) _
    refine XS.iloadN X10.here hx rfl (hb hby at_167) rfl ?_
    show own_S p e below T10 (mkF m 168 #[vi p1, vi p2, vi p3, vi p4, vi (0 : Int32), vi (0 : Int32), vi (0 : Int32), vr va1, vr va2, vr va3, vr b4, vj (0 : Int64), .second] [xi p3, xi p2, xi p1, xi (1 : Int32), xj (0 : Int64)]) _
    refine XS.iloadN X10.here hx rfl (hb hby at_168) rfl ?_
    show own_S p e below T10 (mkF m 169 #[vi p1, vi p2, vi p3, vi p4, vi (0 : Int32), vi (0 : Int32), vi (0 : Int32), vr va1, vr va2, vr va3, vr b4, vj (0 : Int64), .second] [xi p4, xi p3, xi p2, xi p1, xi (1 : Int32), xj (0 : Int64)]) _
    refine st11 _ ?_
    show own_S p e below T11 (mkF m 172 #[vi p1, vi p2, vi p3, vi p4, vi (0 : Int32), vi (0 : Int32), vi (0 : Int32), vr va1, vr va2, vr va3, vr b4, vj (0 : Int64), .second] [xj (0 : Int64), xj (0 : Int64)]) _
    refine XS.lcmp X11.here hx rfl (hb hby at_172) rfl ?_
    show own_S p e below T11 (mkF m 173 #[vi p1, vi p2, vi p3, vi p4, vi (0 : Int32), vi (0 : Int32), vi (0 : Int32), vr va1, vr va2, vr va3, vr b4, vj (0 : Int64), .second] [xi (lcmpW (0 : Int64) (0 : Int64))]) _
    show own_S p e below T11 (mkF m 173 #[vi p1, vi p2, vi p3, vi p4, vi (0 : Int32), vi (0 : Int32), vi (0 : Int32), vr va1, vr va2, vr va3, vr b4, vj (0 : Int64), .second] [xi (lcmpW (0 : Int64) (0 : Int64))]) _
    refine XS.ifNo X11.here hx rfl (hb hby at_173) rfl (by simp [lcmpW, ifCond.holds, Int64.zero_add, Int64.add_zero]) ?_
    show own_S p e below T11 (mkF m 176 #[vi p1, vi p2, vi p3, vi p4, vi (0 : Int32), vi (0 : Int32), vi (0 : Int32), vr va1, vr va2, vr va3, vr b4, vj (0 : Int64), .second] []) _
    refine XS.aload X11.here hx rfl (hb hby at_176) rfl rfl ?_
    show own_S p e below T11 (mkF m 178 #[vi p1, vi p2, vi p3, vi p4, vi (0 : Int32), vi (0 : Int32), vi (0 : Int32), vr va1, vr va2, vr va3, vr b4, vj (0 : Int64), .second] [xr b4]) _
    refine st12 _ ?_
    show own_S p e below T12 (mkF m 181 #[vi p1, vi p2, vi p3, vi p4, vi (0 : Int32), vi (0 : Int32), vi (0 : Int32), vr va1, vr va2, vr va3, vr b4, vj (0 : Int64), .second] [xr u2, xr b4]) _
    refine st13.trans ?_
    show own_S p e below T13 (mkF m 184 #[vi p1, vi p2, vi p3, vi p4, vi (0 : Int32), vi (0 : Int32), vi (0 : Int32), vr va1, vr va2, vr va3, vr b4, vj (0 : Int64), .second] [xj (0 : Int64)]) _
    refine XS.iconst X13.here hx rfl (hb hby at_184) ?_
    show own_S p e below T13 (mkF m 185 #[vi p1, vi p2, vi p3, vi p4, vi (0 : Int32), vi (0 : Int32), vi (0 : Int32), vr va1, vr va2, vr va3, vr b4, vj (0 : Int64), .second] [xi (2 : Int32), xj (0 : Int64)]) _
    refine XS.iloadN X13.here hx rfl (hb hby at_185) rfl ?_
    show own_S p e below T13 (mkF m 186 #[vi p1, vi p2, vi p3, vi p4, vi (0 : Int32), vi (0 : Int32), vi (0 : Int32), vr va1, vr va2, vr va3, vr b4, vj (0 : Int64), .second] [xi p1, xi (2 : Int32), xj (0 : Int64)]) _
    refine XS.iloadN X13.here hx rfl (hb hby at_186) rfl ?_
    show own_S p e below T13 (mkF m 187 #[vi p1, vi p2, vi p3, vi p4, vi (0 : Int32), vi (0 : Int32), vi (0 : Int32), vr va1, vr va2, vr va3, vr b4, vj (0 : Int64), .second] [xi p2, xi p1, xi (2 : Int32), xj (0 : Int64)]) _
    refine XS.iloadN X13.here hx rfl (hb hby at_187) rfl ?_
    show own_S p e below T13 (mkF m 188 #[vi p1, vi p2, vi p3, vi p4, vi (0 : Int32), vi (0 : Int32), vi (0 : Int32), vr va1, vr va2, vr va3, vr b4, vj (0 : Int64), .second] [xi p3, xi p2, xi p1, xi (2 : Int32), xj (0 : Int64)]) _
    refine XS.iloadN X13.here hx rfl (hb hby at_188) rfl ?_
    show own_S p e below T13 (mkF m 189 #[vi p1, vi p2, vi p3, vi p4, vi (0 : Int32), vi (0 : Int32), vi (0 : Int32), vr va1, vr va2, vr va3, vr b4, vj (0 : Int64), .second] [xi p4, xi p3, xi p2, xi p1, xi (2 : Int32), xj (0 : Int64)]) _
    refine st14 _ ?_
    show own_S p e below T14 (mkF m 192 #[vi p1, vi p2, vi p3, vi p4, vi (0 : Int32), vi (0 : Int32), vi (0 : Int32), vr va1, vr va2, vr va3, vr b4, vj (0 : Int64), .second] [xj (0 : Int64), xj (0 : Int64)]) _
    refine XS.lcmp X14.here hx rfl (hb hby at_192) rfl ?_
    show own_S p e below T14 (mkF m 193 #[vi p1, vi p2, vi p3, vi p4, vi (0 : Int32), vi (0 : Int32), vi (0 : Int32), vr va1, vr va2, vr va3, vr b4, vj (0 : Int64), .second] [xi (lcmpW (0 : Int64) (0 : Int64))]) _
    show own_S p e below T14 (mkF m 193 #[vi p1, vi p2, vi p3, vi p4, vi (0 : Int32), vi (0 : Int32), vi (0 : Int32), vr va1, vr va2, vr va3, vr b4, vj (0 : Int64), .second] [xi (lcmpW (0 : Int64) (0 : Int64))]) _
    refine XS.ifNo X14.here hx rfl (hb hby at_193) rfl (by simp [lcmpW, ifCond.holds, Int64.zero_add, Int64.add_zero]) ?_
    show own_S p e below T14 (mkF m 196 #[vi p1, vi p2, vi p3, vi p4, vi (0 : Int32), vi (0 : Int32), vi (0 : Int32), vr va1, vr va2, vr va3, vr b4, vj (0 : Int64), .second] []) _
    refine XS.aload X14.here hx rfl (hb hby at_196) rfl rfl ?_
    show own_S p e below T14 (mkF m 198 #[vi p1, vi p2, vi p3, vi p4, vi (0 : Int32), vi (0 : Int32), vi (0 : Int32), vr va1, vr va2, vr va3, vr b4, vj (0 : Int64), .second] [xr b4]) _
    refine st15 _ ?_
    show own_S p e below T15 (mkF m 201 #[vi p1, vi p2, vi p3, vi p4, vi (0 : Int32), vi (0 : Int32), vi (0 : Int32), vr va1, vr va2, vr va3, vr b4, vj (0 : Int64), .second] [xr u1, xr b4]) _
    refine st16.trans ?_
    show own_S p e below T16 (mkF m 204 #[vi p1, vi p2, vi p3, vi p4, vi (0 : Int32), vi (0 : Int32), vi (0 : Int32), vr va1, vr va2, vr va3, vr b4, vj (0 : Int64), .second] [xj (0 : Int64)]) _
    refine XS.iconst X16.here hx rfl (hb hby at_204) ?_
    show own_S p e below T16 (mkF m 205 #[vi p1, vi p2, vi p3, vi p4, vi (0 : Int32), vi (0 : Int32), vi (0 : Int32), vr va1, vr va2, vr va3, vr b4, vj (0 : Int64), .second] [xi (3 : Int32), xj (0 : Int64)]) _
    refine XS.iloadN X16.here hx rfl (hb hby at_205) rfl ?_
    show own_S p e below T16 (mkF m 206 #[vi p1, vi p2, vi p3, vi p4, vi (0 : Int32), vi (0 : Int32), vi (0 : Int32), vr va1, vr va2, vr va3, vr b4, vj (0 : Int64), .second] [xi p1, xi (3 : Int32), xj (0 : Int64)]) _
    refine XS.iloadN X16.here hx rfl (hb hby at_206) rfl ?_
    show own_S p e below T16 (mkF m 207 #[vi p1, vi p2, vi p3, vi p4, vi (0 : Int32), vi (0 : Int32), vi (0 : Int32), vr va1, vr va2, vr va3, vr b4, vj (0 : Int64), .second] [xi p2, xi p1, xi (3 : Int32), xj (0 : Int64)]) _
    refine XS.iloadN X16.here hx rfl (hb hby at_207) rfl ?_
    show own_S p e below T16 (mkF m 208 #[vi p1, vi p2, vi p3, vi p4, vi (0 : Int32), vi (0 : Int32), vi (0 : Int32), vr va1, vr va2, vr va3, vr b4, vj (0 : Int64), .second] [xi p3, xi p2, xi p1, xi (3 : Int32), xj (0 : Int64)]) _
    refine XS.iloadN X16.here hx rfl (hb hby at_208) rfl ?_
    show own_S p e below T16 (mkF m 209 #[vi p1, vi p2, vi p3, vi p4, vi (0 : Int32), vi (0 : Int32), vi (0 : Int32), vr va1, vr va2, vr va3, vr b4, vj (0 : Int64), .second] [xi p4, xi p3, xi p2, xi p1, xi (3 : Int32), xj (0 : Int64)]) _
    refine st17 _ ?_
    show own_S p e below T17 (mkF m 212 #[vi p1, vi p2, vi p3, vi p4, vi (0 : Int32), vi (0 : Int32), vi (0 : Int32), vr va1, vr va2, vr va3, vr b4, vj (0 : Int64), .second] [xj (0 : Int64), xj (0 : Int64)]) _
    refine XS.lcmp X17.here hx rfl (hb hby at_212) rfl ?_
    show own_S p e below T17 (mkF m 213 #[vi p1, vi p2, vi p3, vi p4, vi (0 : Int32), vi (0 : Int32), vi (0 : Int32), vr va1, vr va2, vr va3, vr b4, vj (0 : Int64), .second] [xi (lcmpW (0 : Int64) (0 : Int64))]) _
    show own_S p e below T17 (mkF m 213 #[vi p1, vi p2, vi p3, vi p4, vi (0 : Int32), vi (0 : Int32), vi (0 : Int32), vr va1, vr va2, vr va3, vr b4, vj (0 : Int64), .second] [xi (lcmpW (0 : Int64) (0 : Int64))]) _
    refine XS.ifNo X17.here hx rfl (hb hby at_213) rfl (by simp [lcmpW, ifCond.holds, Int64.zero_add, Int64.add_zero]) ?_
    show own_S p e below T17 (mkF m 216 #[vi p1, vi p2, vi p3, vi p4, vi (0 : Int32), vi (0 : Int32), vi (0 : Int32), vr va1, vr va2, vr va3, vr b4, vj (0 : Int64), .second] []) _
    refine XS.aload X17.here hx rfl (hb hby at_216) rfl rfl ?_
    show own_S p e below T17 (mkF m 218 #[vi p1, vi p2, vi p3, vi p4, vi (0 : Int32), vi (0 : Int32), vi (0 : Int32), vr va1, vr va2, vr va3, vr b4, vj (0 : Int64), .second] [xr b4]) _
    refine st18.trans ?_
    show own_S p e below T18 (mkF m 221 #[vi p1, vi p2, vi p3, vi p4, vi (0 : Int32), vi (0 : Int32), vi (0 : Int32), vr va1, vr va2, vr va3, vr b4, vj (0 : Int64), .second] [xj (((((0 : Int64) + (0 : Int64)) + (0 : Int64)) + (0 : Int64)) + (0 : Int64))]) _
    refine XS.lload X18.here hx rfl (hb hby at_221) rfl ?_
    show own_S p e below T18 (mkF m 223 #[vi p1, vi p2, vi p3, vi p4, vi (0 : Int32), vi (0 : Int32), vi (0 : Int32), vr va1, vr va2, vr va3, vr b4, vj (0 : Int64), .second] [xj (0 : Int64), xj (((((0 : Int64) + (0 : Int64)) + (0 : Int64)) + (0 : Int64)) + (0 : Int64))]) _
    refine XS.lcmp X18.here hx rfl (hb hby at_223) rfl ?_
    show own_S p e below T18 (mkF m 224 #[vi p1, vi p2, vi p3, vi p4, vi (0 : Int32), vi (0 : Int32), vi (0 : Int32), vr va1, vr va2, vr va3, vr b4, vj (0 : Int64), .second] [xi (lcmpW (((((0 : Int64) + (0 : Int64)) + (0 : Int64)) + (0 : Int64)) + (0 : Int64)) (0 : Int64))]) _
    show own_S p e below T18 (mkF m 224 #[vi p1, vi p2, vi p3, vi p4, vi (0 : Int32), vi (0 : Int32), vi (0 : Int32), vr va1, vr va2, vr va3, vr b4, vj (0 : Int64), .second] [xi (lcmpW (((((0 : Int64) + (0 : Int64)) + (0 : Int64)) + (0 : Int64)) + (0 : Int64)) (0 : Int64))]) _
    refine XS.ifNo X18.here hx rfl (hb hby at_224) rfl (by simp [lcmpW, ifCond.holds, Int64.zero_add, Int64.add_zero]) ?_
    show own_S p e below T18 (mkF m 227 #[vi p1, vi p2, vi p3, vi p4, vi (0 : Int32), vi (0 : Int32), vi (0 : Int32), vr va1, vr va2, vr va3, vr b4, vj (0 : Int64), .second] []) _
    refine XS.iconst X18.here hx rfl (hb hby at_227) ?_
    show own_S p e below T18 (mkF m 228 #[vi p1, vi p2, vi p3, vi p4, vi (0 : Int32), vi (0 : Int32), vi (0 : Int32), vr va1, vr va2, vr va3, vr b4, vj (0 : Int64), .second] [xi (1 : Int32)]) _
    refine XS.goto X18.here hx rfl (pc0 := 228) (pc' := 232) rfl (hb hby at_228) (by decide) (by decide) ?_
    show own_S p e below T18 (mkF m 232 #[vi p1, vi p2, vi p3, vi p4, vi (0 : Int32), vi (0 : Int32), vi (0 : Int32), vr va1, vr va2, vr va3, vr b4, vj (0 : Int64), .second] [xi (1 : Int32)]) _
    exact retN X18 hx (t := .boolean) Bd.returns (by simp) (hb hby at_232) hr
  · exact ⟨rfl, N18⟩
theorem pd8 : parseMethodDescriptor "(Lcom/example/feedwright/feedwright/Verdict;)V" = some ⟨[(.object "com/example/feedwright/feedwright/Verdict")], none⟩ := by decide +kernel
theorem d8_42 : decode method_4_code 42 = .ok (.iconst 1, 1) := by decide +kernel
theorem d8_43 : decode method_4_code 43 = .ok (.goto 4, 3) := by decide +kernel
theorem ef_own_c8_expected (m : MethodId) (u0 u1 u2 u3 u4 : Addr) (p1 : Int32) (p2 : Int32) (p3 : Int32) (p4 : Int32) : entryFrame m #[xi (0 : Int32), xi p1, xi p2, xi p3, xi p4] 5 = (mkF m 0 #[vi (0 : Int32), vi p1, vi p2, vi p3, vi p4] []) := by first | (simp [entryFrame, mkF, argsToLocals, Value.category]; done) | rfl
set_option maxRecDepth 65536 in
set_option maxHeartbeats 40000000 in
theorem own_c8_expected (l : Launch) (Z : State) (a0 : Array Value) (hw : ∀ d ∈ tables_1, d.before a0 Z = true) (u0 u1 u2 u3 u4 : Addr) (G : own_St Z u0 u1 u2 u3 u4) (p1 : Int32) (p2 : Int32) (p3 : Int32) (p4 : Int32) (as6 : (p4 &&& (1 : Int32)) = (0 : Int32)) (as8 : (p4 &&& (2 : Int32)) = (0 : Int32)) (as11 : (p4 &&& (4 : Int32)) = (4 : Int32)) (h0 : Heap) (n0 : Nat) (O0 : Old Z n0 h0) : own_Met l Z Y9 method_4_code 5 (some .long) ({ frames := 1, cells := 0, slots := 0, locals := 16 } : Room) #[xi (0 : Int32), xi p1, xi p2, xi p3, xi p4] h0 (own_QR (some (xj ((0 : Int64) + (own_h p3 (0 : Int32))))) h0 n0) := by
  intro ws
  refine MetFree.of_bodySF (plainFor_of_name pn3) hisR ?_
  intro p e s m args below meth c s₁ Bd hml0 hP hK
  obtain ⟨rfl, hZ, hh⟩ := hP
  have hx := Bd.exec
  have hby := Bd.bytes
  have hml : c.maxLocals = 5 := hml0
  have hown : s.vm.findClass "com/example/feedwright/feedwright/LoadSummaryAddPinLaw" = some m.cls := findClass_of_methodNamed Bd.named
  have hnm := (name_of_methodNamed Bd.named Bd.method).1
  have X0 : Stand p l e ({ frames := 1, cells := 0, slots := 0, locals := 16 } : Room) s m #[xi (0 : Int32), xi p1, xi p2, xi p3, xi p4] below meth c s₁ [] 0 0 := Stand.of_body Bd
  have e0 : s₁.heap = h0 := by rw [← hh, Bd.state]; rfl
  have N0 := Fr.nil n0
  have pre0 : ∀ t, Steps p.tables e below (s₁.setTop (mkF m 0 #[vi (0 : Int32), vi p1, vi p2, vi p3, vi p4] [])) t → Steps p.tables e below (s₁.setTop (entryFrame m #[xi (0 : Int32), xi p1, xi p2, xi p3, xi p4] 5)) t := fun t st => castTop (ef_own_c8_expected m u0 u1 u2 u3 u4 p1 p2 p3 p4) st
  obtain ⟨_, _, ⟨T1, L1, k1, n1⟩, -, X1, ⟨Lc1, hQ1, l1, y1, z1⟩, st1⟩ := Jvm.LawKit.callS X0 hx (y := Y6) hown (mvT hZ (ww hw 61 rfl)) (mvT hZ (ww hw 62 rfl)) (mvT hZ (ww hw 2 rfl)) (mvT hZ (ww hw 63 rfl)) (by decide) (backOf (W := 0) (own_hit_off l Z a0 hw u0 u1 u2 u3 u4 G p1 (0 : Int32) h0 n0 O0 []) hZ (ww hw 63 rfl) (ww hw 2 rfl) (by decide) (by decide)) (g := (mkF m 14 #[vi (0 : Int32), vi p1, vi p2, vi p3, vi p4] [xi (0 : Int32), xi p1, xi (0 : Int32)])) rfl (by rw [hml]; rfl) (argsL := [xi (0 : Int32), xi p1, xi (0 : Int32)]) (rest := []) (lenOf pd5 rfl) rfl (by show 2 * 0 + _ ≤ _; exact Nat.le_of_eq rfl) (hb hby d8_14) (fun _ _ => ⟨rfl, e0, (by decide : 0 + 0 ≤ _), (by decide : 0 + 0 ≤ _)⟩)
  dsimp only [Pt.U, Pt.locs, Pt.cells, Pt.slots] at X1 l1 y1 z1 st1 hQ1
  subst l1 y1 z1
  obtain ⟨rfl, Nq1, e1⟩ := hQ1
  have N1 := Fr.app N0 Nq1
  obtain ⟨_, _, ⟨T2, L2, k2, n2⟩, -, X2, ⟨Lc2, hQ2, l2, y2, z2⟩, st2⟩ := Jvm.LawKit.callS X1 hx (y := Y6) hown (mvT hZ (ww hw 61 rfl)) (mvT hZ (ww hw 62 rfl)) (mvT hZ (ww hw 2 rfl)) (mvT hZ (ww hw 63 rfl)) (by decide) (backOf (W := 2) (own_hit_off l Z a0 hw u0 u1 u2 u3 u4 G p2 (0 : Int32) h0 n0 O0 []) hZ (ww hw 63 rfl) (ww hw 2 rfl) (by decide) (by decide)) (g := (mkF m 31 #[vi (0 : Int32), vi p1, vi p2, vi p3, vi p4] [xi (0 : Int32), xi p2, xi (0 : Int32), xj (0 : Int64)])) rfl (by rw [hml]; rfl) (argsL := [xi (0 : Int32), xi p2, xi (0 : Int32)]) (rest := [xj (0 : Int64)]) (lenOf pd5 rfl) rfl (by show 2 * 0 + _ ≤ _; exact Nat.le_of_eq rfl) (hb hby d8_31) (fun _ _ => ⟨rfl, e1, (by decide : 0 + 0 ≤ _), (by decide : 0 + 0 ≤ _)⟩)
  dsimp only [Pt.U, Pt.locs, Pt.cells, Pt.slots] at X2 l2 y2 z2 st2 hQ2
  subst l2 y2 z2
  obtain ⟨rfl, Nq2, e2⟩ := hQ2
  have N2 := Fr.app N1 Nq2
  obtain ⟨_, _, ⟨T3, L3, k3, n3⟩, -, X3, ⟨Lc3, hQ3, l3, y3, z3⟩, st3⟩ := Jvm.LawKit.callS X2 hx (y := Y6) hown (mvT hZ (ww hw 61 rfl)) (mvT hZ (ww hw 62 rfl)) (mvT hZ (ww hw 2 rfl)) (mvT hZ (ww hw 63 rfl)) (by decide) (backOf (W := 2) (own_hit l Z a0 hw u0 u1 u2 u3 u4 G p3 (0 : Int32) h0 n0 O0 []) hZ (ww hw 63 rfl) (ww hw 2 rfl) (by decide) (by decide)) (g := (mkF m 49 #[vi (0 : Int32), vi p1, vi p2, vi p3, vi p4] [xi (0 : Int32), xi p3, xi (1 : Int32), xj (0 : Int64)])) rfl (by rw [hml]; rfl) (argsL := [xi (1 : Int32), xi p3, xi (0 : Int32)]) (rest := [xj (0 : Int64)]) (lenOf pd5 rfl) rfl (by show 2 * 0 + _ ≤ _; exact Nat.le_of_eq rfl) (hb hby d8_49) (fun _ _ => ⟨rfl, e2, (by decide : 0 + 0 ≤ _), (by decide : 0 + 0 ≤ _)⟩)
  dsimp only [Pt.U, Pt.locs, Pt.cells, Pt.slots] at X3 l3 y3 z3 st3 hQ3
  subst l3 y3 z3
  obtain ⟨rfl, Nq3, e3⟩ := hQ3
  have N3 := Fr.app N2 Nq3
  obtain ⟨fs, hr, hrun, hended, hW, hsame⟩ := X3.leave (v := some (xj ((0 : Int64) + (own_h p3 (0 : Int32))))) (fun h => by rw [Bd.returns] at h; cases h)
  refine ⟨_, _, pre0 _ ?_, hrun, hended, _, _, rfl, ?_, ⟨_, rfl⟩, hW, hsame.mono (by decide) (by decide)⟩
  · show own_S p e below s₁ (mkF m 0 #[vi (0 : Int32), vi p1, vi p2, vi p3, vi p4] []) _
    refine XS.iload X0.here hx rfl (hb hby d8_0) rfl ?_
    show own_S p e below s₁ (mkF m 2 #[vi (0 : Int32), vi p1, vi p2, vi p3, vi p4] [xi p4]) _
    refine XS.iconst X0.here hx rfl (hb hby d8_2) ?_
    show own_S p e below s₁ (mkF m 3 #[vi (0 : Int32), vi p1, vi p2, vi p3, vi p4] [xi (1 : Int32), xi p4]) _
    refine XS.iand X0.here hx rfl (hb hby d8_3) rfl ?_
    show own_S p e below s₁ (mkF m 4 #[vi (0 : Int32), vi p1, vi p2, vi p3, vi p4] [xi (p4 &&& (1 : Int32))]) _
    refine castTop (show (mkF m 4 #[vi (0 : Int32), vi p1, vi p2, vi p3, vi p4] [xi (p4 &&& (1 : Int32))]) = (mkF m 4 #[vi (0 : Int32), vi p1, vi p2, vi p3, vi p4] [xi (0 : Int32)]) from by rw [as6]) ?_
    show own_S p e below s₁ (mkF m 4 #[vi (0 : Int32), vi p1, vi p2, vi p3, vi p4] [xi (0 : Int32)]) _
    refine XS.ifYes X0.here hx rfl (pc0 := 4) (pc' := 11) rfl (hb hby d8_4) rfl (by decide) (by decide) (by decide) ?_
    show own_S p e below s₁ (mkF m 11 #[vi (0 : Int32), vi p1, vi p2, vi p3, vi p4] []) _
    refine XS.iconst X0.here hx rfl (hb hby d8_11) ?_
    show own_S p e below s₁ (mkF m 12 #[vi (0 : Int32), vi p1, vi p2, vi p3, vi p4] [xi (0 : Int32)]) _
    refine XS.iloadN X0.here hx rfl (hb hby d8_12) rfl ?_
    show own_S p e below s₁ (mkF m 13 #[vi (0 : Int32), vi p1, vi p2, vi p3, vi p4] [xi p1, xi (0 : Int32)]) _
    refine XS.iloadN X0.here hx rfl (hb hby d8_13) rfl ?_
    show own_S p e below s₁ (mkF m 14 #[vi (0 : Int32), vi p1, vi p2, vi p3, vi p4] [xi (0 : Int32), xi p1, xi (0 : Int32)]) _
    refine st1 _ ?_
    show own_S p e below T1 (mkF m 17 #[vi (0 : Int32), vi p1, vi p2, vi p3, vi p4] [xj (0 : Int64)]) _
    refine XS.iload X1.here hx rfl (hb hby d8_17) rfl ?_
    show own_S p e below T1 (mkF m 19 #[vi (0 : Int32), vi p1, vi p2, vi p3, vi p4] [xi p4, xj (0 : Int64)]) _
    refine XS.iconst X1.here hx rfl (hb hby d8_19) ?_
    show own_S p e below T1 (mkF m 20 #[vi (0 : Int32), vi p1, vi p2, vi p3, vi p4] [xi (2 : Int32), xi p4, xj (0 : Int64)]) _
    refine XS.iand X1.here hx rfl (hb hby d8_20) rfl ?_
    show own_S p e below T1 (mkF m 21 #[vi (0 : Int32), vi p1, vi p2, vi p3, vi p4] [xi (p4 &&& (2 : Int32)), xj (0 : Int64)]) _
    refine castTop (show (mkF m 21 #[vi (0 : Int32), vi p1, vi p2, vi p3, vi p4] [xi (p4 &&& (2 : Int32)), xj (0 : Int64)]) = (mkF m 21 #[vi (0 : Int32), vi p1, vi p2, vi p3, vi p4] [xi (0 : Int32), xj (0 : Int64)]) from by rw [as8]) ?_
    show own_S p e below T1 (mkF m 21 #[vi (0 : Int32), vi p1, vi p2, vi p3, vi p4] [xi (0 : Int32), xj (0 : Int64)]) _
    refine XS.ifYes X1.here hx rfl (pc0 := 21) (pc' := 28) rfl (hb hby d8_21) rfl (by decide) (by decide) (by decide) ?_
    show own_S p e below T1 (mkF m 28 #[vi (0 : Int32), vi p1, vi p2, vi p3, vi p4] [xj (0 : Int64)]) _
    refine XS.iconst X1.here hx rfl (hb hby d8_28) ?_
    show own_S p e below T1 (mkF m 29 #[vi (0 : Int32), vi p1, vi p2, vi p3, vi p4] [xi (0 : Int32), xj (0 : Int64)]) _
    refine XS.iloadN X1.here hx rfl (hb hby d8_29) rfl ?_
    show own_S p e below T1 (mkF m 30 #[vi (0 : Int32), vi p1, vi p2, vi p3, vi p4] [xi p2, xi (0 : Int32), xj (0 : Int64)]) _
    refine XS.iloadN X1.here hx rfl (hb hby d8_30) rfl ?_
    show own_S p e below T1 (mkF m 31 #[vi (0 : Int32), vi p1, vi p2, vi p3, vi p4] [xi (0 : Int32), xi p2, xi (0 : Int32), xj (0 : Int64)]) _
    refine st2 _ ?_
    show own_S p e below T2 (mkF m 34 #[vi (0 : Int32), vi p1, vi p2, vi p3, vi p4] [xj (0 : Int64), xj (0 : Int64)]) _
    refine XS.ladd X2.here hx rfl (hb hby d8_34) rfl ?_
    show own_S p e below T2 (mkF m 35 #[vi (0 : Int32), vi p1, vi p2, vi p3, vi p4] [xj ((0 : Int64) + (0 : Int64))]) _
    refine castTop (show (mkF m 35 #[vi (0 : Int32), vi p1, vi p2, vi p3, vi p4] [xj ((0 : Int64) + (0 : Int64))]) = (mkF m 35 #[vi (0 : Int32), vi p1, vi p2, vi p3, vi p4] [xj (0 : Int64)]) from by rw [show ((0 : Int64) + (0 : Int64)) = (0 : Int64) from by decide]) ?_
    show own_S p e below T2 (mkF m 35 #[vi (0 : Int32), vi p1, vi p2, vi p3, vi p4] [xj (0 : Int64)]) _
    refine XS.iload X2.here hx rfl (hb hby d8_35) rfl ?_
    show own_S p e below T2 (mkF m 37 #[vi (0 : Int32), vi p1, vi p2, vi p3, vi p4] [xi p4, xj (0 : Int64)]) _
    refine XS.iconst X2.here hx rfl (hb hby d8_37) ?_
    show own_S p e below T2 (mkF m 38 #[vi (0 : Int32), vi p1, vi p2, vi p3, vi p4] [xi (4 : Int32), xi p4, xj (0 : Int64)]) _
    refine XS.iand X2.here hx rfl (hb hby d8_38) rfl ?_
    show own_S p e below T2 (mkF m 39 #[vi (0 : Int32), vi p1, vi p2, vi p3, vi p4] [xi (p4 &&& (4 : Int32)), xj (0 : Int64)]) _
    refine castTop (show (mkF m 39 #[vi (0 : Int32), vi p1, vi p2, vi p3, vi p4] [xi (p4 &&& (4 : Int32)), xj (0 : Int64)]) = (mkF m 39 #[vi (0 : Int32), vi p1, vi p2, vi p3, vi p4] [xi (4 : Int32), xj (0 : Int64)]) from by rw [as11]) ?_
    show own_S p e below T2 (mkF m 39 #[vi (0 : Int32), vi p1, vi p2, vi p3, vi p4] [xi (4 : Int32), xj (0 : Int64)]) _
    refine XS.ifNo X2.here hx rfl (hb hby d8_39) rfl (by decide) ?_
    show own_S p e below T2 (mkF m 42 #[vi (0 : Int32), vi p1, vi p2, vi p3, vi p4] [xj (0 : Int64)]) _
    refine XS.iconst X2.here hx rfl (hb hby d8_42) ?_
    show own_S p e below T2 (mkF m 43 #[vi (0 : Int32), vi p1, vi p2, vi p3, vi p4] [xi (1 : Int32), xj (0 : Int64)]) _
    refine XS.goto X2.here hx rfl (pc0 := 43) (pc' := 47) rfl (hb hby d8_43) (by decide) (by decide) ?_
    show own_S p e below T2 (mkF m 47 #[vi (0 : Int32), vi p1, vi p2, vi p3, vi p4] [xi (1 : Int32), xj (0 : Int64)]) _
    refine XS.iloadN X2.here hx rfl (hb hby d8_47) rfl ?_
    show own_S p e below T2 (mkF m 48 #[vi (0 : Int32), vi p1, vi p2, vi p3, vi p4] [xi p3, xi (1 : Int32), xj (0 : Int64)]) _
    refine XS.iloadN X2.here hx rfl (hb hby d8_48) rfl ?_
    show own_S p e below T2 (mkF m 49 #[vi (0 : Int32), vi p1, vi p2, vi p3, vi p4] [xi (0 : Int32), xi p3, xi (1 : Int32), xj (0 : Int64)]) _
    refine st3 _ ?_
    show own_S p e below T3 (mkF m 52 #[vi (0 : Int32), vi p1, vi p2, vi p3, vi p4] [xj (own_h p3 (0 : Int32)), xj (0 : Int64)]) _
    refine XS.ladd X3.here hx rfl (hb hby d8_52) rfl ?_
    show own_S p e below T3 (mkF m 53 #[vi (0 : Int32), vi p1, vi p2, vi p3, vi p4] [xj ((0 : Int64) + (own_h p3 (0 : Int32)))]) _
    show own_S p e below T3 (mkF m 53 #[vi (0 : Int32), vi p1, vi p2, vi p3, vi p4] [xj ((0 : Int64) + (own_h p3 (0 : Int32)))]) _
    exact X3.lreturnOut hx Bd.returns (hb hby d8_53) hr
  · exact ⟨rfl, N3, e3⟩
theorem ef_own_c9_expected (m : MethodId) (u0 u1 u2 u3 u4 : Addr) (p1 : Int32) (p2 : Int32) (p3 : Int32) (p4 : Int32) : entryFrame m #[xi (1 : Int32), xi p1, xi p2, xi p3, xi p4] 5 = (mkF m 0 #[vi (1 : Int32), vi p1, vi p2, vi p3, vi p4] []) := by first | (simp [entryFrame, mkF, argsToLocals, Value.category]; done) | rfl
set_option maxRecDepth 65536 in
set_option maxHeartbeats 40000000 in
theorem own_c9_expected (l : Launch) (Z : State) (a0 : Array Value) (hw : ∀ d ∈ tables_1, d.before a0 Z = true) (u0 u1 u2 u3 u4 : Addr) (G : own_St Z u0 u1 u2 u3 u4) (p1 : Int32) (p2 : Int32) (p3 : Int32) (p4 : Int32) (as6 : (p4 &&& (1 : Int32)) = (0 : Int32)) (as8 : (p4 &&& (2 : Int32)) = (0 : Int32)) (as11 : (p4 &&& (4 : Int32)) = (4 : Int32)) (h0 : Heap) (n0 : Nat) (O0 : Old Z n0 h0) : own_Met l Z Y9 method_4_code 5 (some .long) ({ frames := 1, cells := 0, slots := 0, locals := 16 } : Room) #[xi (1 : Int32), xi p1, xi p2, xi p3, xi p4] h0 (own_QR (some (xj ((0 : Int64) + (own_h p3 (1 : Int32))))) h0 n0) := by
  intro ws
  refine MetFree.of_bodySF (plainFor_of_name pn3) hisR ?_
  intro p e s m args below meth c s₁ Bd hml0 hP hK
  obtain ⟨rfl, hZ, hh⟩ := hP
  have hx := Bd.exec
  have hby := Bd.bytes
  have hml : c.maxLocals = 5 := hml0
  have hown : s.vm.findClass "com/example/feedwright/feedwright/LoadSummaryAddPinLaw" = some m.cls := findClass_of_methodNamed Bd.named
  have hnm := (name_of_methodNamed Bd.named Bd.method).1
  have X0 : Stand p l e ({ frames := 1, cells := 0, slots := 0, locals := 16 } : Room) s m #[xi (1 : Int32), xi p1, xi p2, xi p3, xi p4] below meth c s₁ [] 0 0 := Stand.of_body Bd
  have e0 : s₁.heap = h0 := by rw [← hh, Bd.state]; rfl
  have N0 := Fr.nil n0
  have pre0 : ∀ t, Steps p.tables e below (s₁.setTop (mkF m 0 #[vi (1 : Int32), vi p1, vi p2, vi p3, vi p4] [])) t → Steps p.tables e below (s₁.setTop (entryFrame m #[xi (1 : Int32), xi p1, xi p2, xi p3, xi p4] 5)) t := fun t st => castTop (ef_own_c9_expected m u0 u1 u2 u3 u4 p1 p2 p3 p4) st
  obtain ⟨_, _, ⟨T1, L1, k1, n1⟩, -, X1, ⟨Lc1, hQ1, l1, y1, z1⟩, st1⟩ := Jvm.LawKit.callS X0 hx (y := Y6) hown (mvT hZ (ww hw 61 rfl)) (mvT hZ (ww hw 62 rfl)) (mvT hZ (ww hw 2 rfl)) (mvT hZ (ww hw 63 rfl)) (by decide) (backOf (W := 0) (own_hit_off l Z a0 hw u0 u1 u2 u3 u4 G p1 (1 : Int32) h0 n0 O0 []) hZ (ww hw 63 rfl) (ww hw 2 rfl) (by decide) (by decide)) (g := (mkF m 14 #[vi (1 : Int32), vi p1, vi p2, vi p3, vi p4] [xi (1 : Int32), xi p1, xi (0 : Int32)])) rfl (by rw [hml]; rfl) (argsL := [xi (0 : Int32), xi p1, xi (1 : Int32)]) (rest := []) (lenOf pd5 rfl) rfl (by show 2 * 0 + _ ≤ _; exact Nat.le_of_eq rfl) (hb hby d8_14) (fun _ _ => ⟨rfl, e0, (by decide : 0 + 0 ≤ _), (by decide : 0 + 0 ≤ _)⟩)
  dsimp only [Pt.U, Pt.locs, Pt.cells, Pt.slots] at X1 l1 y1 z1 st1 hQ1
  subst l1 y1 z1
  obtain ⟨rfl, Nq1, e1⟩ := hQ1
  have N1 := Fr.app N0 Nq1
  obtain ⟨_, _, ⟨T2, L2, k2, n2⟩, -, X2, ⟨Lc2, hQ2, l2, y2, z2⟩, st2⟩ := Jvm.LawKit.callS X1 hx (y := Y6) hown (mvT hZ (ww hw 61 rfl)) (mvT hZ (ww hw 62 rfl)) (mvT hZ (ww hw 2 rfl)) (mvT hZ (ww hw 63 rfl)) (by decide) (backOf (W := 2) (own_hit_off l Z a0 hw u0 u1 u2 u3 u4 G p2 (1 : Int32) h0 n0 O0 []) hZ (ww hw 63 rfl) (ww hw 2 rfl) (by decide) (by decide)) (g := (mkF m 31 #[vi (1 : Int32), vi p1, vi p2, vi p3, vi p4] [xi (1 : Int32), xi p2, xi (0 : Int32), xj (0 : Int64)])) rfl (by rw [hml]; rfl) (argsL := [xi (0 : Int32), xi p2, xi (1 : Int32)]) (rest := [xj (0 : Int64)]) (lenOf pd5 rfl) rfl (by show 2 * 0 + _ ≤ _; exact Nat.le_of_eq rfl) (hb hby d8_31) (fun _ _ => ⟨rfl, e1, (by decide : 0 + 0 ≤ _), (by decide : 0 + 0 ≤ _)⟩)
  dsimp only [Pt.U, Pt.locs, Pt.cells, Pt.slots] at X2 l2 y2 z2 st2 hQ2
  subst l2 y2 z2
  obtain ⟨rfl, Nq2, e2⟩ := hQ2
  have N2 := Fr.app N1 Nq2
  obtain ⟨_, _, ⟨T3, L3, k3, n3⟩, -, X3, ⟨Lc3, hQ3, l3, y3, z3⟩, st3⟩ := Jvm.LawKit.callS X2 hx (y := Y6) hown (mvT hZ (ww hw 61 rfl)) (mvT hZ (ww hw 62 rfl)) (mvT hZ (ww hw 2 rfl)) (mvT hZ (ww hw 63 rfl)) (by decide) (backOf (W := 2) (own_hit l Z a0 hw u0 u1 u2 u3 u4 G p3 (1 : Int32) h0 n0 O0 []) hZ (ww hw 63 rfl) (ww hw 2 rfl) (by decide) (by decide)) (g := (mkF m 49 #[vi (1 : Int32), vi p1, vi p2, vi p3, vi p4] [xi (1 : Int32), xi p3, xi (1 : Int32), xj (0 : Int64)])) rfl (by rw [hml]; rfl) (argsL := [xi (1 : Int32), xi p3, xi (1 : Int32)]) (rest := [xj (0 : Int64)]) (lenOf pd5 rfl) rfl (by show 2 * 0 + _ ≤ _; exact Nat.le_of_eq rfl) (hb hby d8_49) (fun _ _ => ⟨rfl, e2, (by decide : 0 + 0 ≤ _), (by decide : 0 + 0 ≤ _)⟩)
  dsimp only [Pt.U, Pt.locs, Pt.cells, Pt.slots] at X3 l3 y3 z3 st3 hQ3
  subst l3 y3 z3
  obtain ⟨rfl, Nq3, e3⟩ := hQ3
  have N3 := Fr.app N2 Nq3
  obtain ⟨fs, hr, hrun, hended, hW, hsame⟩ := X3.leave (v := some (xj ((0 : Int64) + (own_h p3 (1 : Int32))))) (fun h => by rw [Bd.returns] at h; cases h)
  refine ⟨_, _, pre0 _ ?_, hrun, hended, _, _, rfl, ?_, ⟨_, rfl⟩, hW, hsame.mono (by decide) (by decide)⟩
  · show own_S p e below s₁ (mkF m 0 #[vi (1 : Int32), vi p1, vi p2, vi p3, vi p4] []) _
    refine XS.iload X0.here hx rfl (hb hby d8_0) rfl ?_
    show own_S p e below s₁ (mkF m 2 #[vi (1 : Int32), vi p1, vi p2, vi p3, vi p4] [xi p4]) _
    refine XS.iconst X0.here hx rfl (hb hby d8_2) ?_
    show own_S p e below s₁ (mkF m 3 #[vi (1 : Int32), vi p1, vi p2, vi p3, vi p4] [xi (1 : Int32), xi p4]) _
    refine XS.iand X0.here hx rfl (hb hby d8_3) rfl ?_
    show own_S p e below s₁ (mkF m 4 #[vi (1 : Int32), vi p1, vi p2, vi p3, vi p4] [xi (p4 &&& (1 : Int32))]) _
    refine castTop (show (mkF m 4 #[vi (1 : Int32), vi p1, vi p2, vi p3, vi p4] [xi (p4 &&& (1 : Int32))]) = (mkF m 4 #[vi (1 : Int32), vi p1, vi p2, vi p3, vi p4] [xi (0 : Int32)]) from by rw [as6]) ?_
    show own_S p e below s₁ (mkF m 4 #[vi (1 : Int32), vi p1, vi p2, vi p3, vi p4] [xi (0 : Int32)]) _
    refine XS.ifYes X0.here hx rfl (pc0 := 4) (pc' := 11) rfl (hb hby d8_4) rfl (by decide) (by decide) (by decide) ?_
    show own_S p e below s₁ (mkF m 11 #[vi (1 : Int32), vi p1, vi p2, vi p3, vi p4] []) _
    refine XS.iconst X0.here hx rfl (hb hby d8_11) ?_
    show own_S p e below s₁ (mkF m 12 #[vi (1 : Int32), vi p1, vi p2, vi p3, vi p4] [xi (0 : Int32)]) _
    refine XS.iloadN X0.here hx rfl (hb hby d8_12) rfl ?_
    show own_S p e below s₁ (mkF m 13 #[vi (1 : Int32), vi p1, vi p2, vi p3, vi p4] [xi p1, xi (0 : Int32)]) _
    refine XS.iloadN X0.here hx rfl (hb hby d8_13) rfl ?_
    show own_S p e below s₁ (mkF m 14 #[vi (1 : Int32), vi p1, vi p2, vi p3, vi p4] [xi (1 : Int32), xi p1, xi (0 : Int32)]) _
    refine st1 _ ?_
    show own_S p e below T1 (mkF m 17 #[vi (1 : Int32), vi p1, vi p2, vi p3, vi p4] [xj (0 : Int64)]) _
    refine XS.iload X1.here hx rfl (hb hby d8_17) rfl ?_
    show own_S p e below T1 (mkF m 19 #[vi (1 : Int32), vi p1, vi p2, vi p3, vi p4] [xi p4, xj (0 : Int64)]) _
    refine XS.iconst X1.here hx rfl (hb hby d8_19) ?_
    show own_S p e below T1 (mkF m 20 #[vi (1 : Int32), vi p1, vi p2, vi p3, vi p4] [xi (2 : Int32), xi p4, xj (0 : Int64)]) _
    refine XS.iand X1.here hx rfl (hb hby d8_20) rfl ?_
    show own_S p e below T1 (mkF m 21 #[vi (1 : Int32), vi p1, vi p2, vi p3, vi p4] [xi (p4 &&& (2 : Int32)), xj (0 : Int64)]) _
    refine castTop (show (mkF m 21 #[vi (1 : Int32), vi p1, vi p2, vi p3, vi p4] [xi (p4 &&& (2 : Int32)), xj (0 : Int64)]) = (mkF m 21 #[vi (1 : Int32), vi p1, vi p2, vi p3, vi p4] [xi (0 : Int32), xj (0 : Int64)]) from by rw [as8]) ?_
    show own_S p e below T1 (mkF m 21 #[vi (1 : Int32), vi p1, vi p2, vi p3, vi p4] [xi (0 : Int32), xj (0 : Int64)]) _
    refine XS.ifYes X1.here hx rfl (pc0 := 21) (pc' := 28) rfl (hb hby d8_21) rfl (by decide) (by decide) (by decide) ?_
    show own_S p e below T1 (mkF m 28 #[vi (1 : Int32), vi p1, vi p2, vi p3, vi p4] [xj (0 : Int64)]) _
    refine XS.iconst X1.here hx rfl (hb hby d8_28) ?_
    show own_S p e below T1 (mkF m 29 #[vi (1 : Int32), vi p1, vi p2, vi p3, vi p4] [xi (0 : Int32), xj (0 : Int64)]) _
    refine XS.iloadN X1.here hx rfl (hb hby d8_29) rfl ?_
    show own_S p e below T1 (mkF m 30 #[vi (1 : Int32), vi p1, vi p2, vi p3, vi p4] [xi p2, xi (0 : Int32), xj (0 : Int64)]) _
    refine XS.iloadN X1.here hx rfl (hb hby d8_30) rfl ?_
    show own_S p e below T1 (mkF m 31 #[vi (1 : Int32), vi p1, vi p2, vi p3, vi p4] [xi (1 : Int32), xi p2, xi (0 : Int32), xj (0 : Int64)]) _
    refine st2 _ ?_
    show own_S p e below T2 (mkF m 34 #[vi (1 : Int32), vi p1, vi p2, vi p3, vi p4] [xj (0 : Int64), xj (0 : Int64)]) _
    refine XS.ladd X2.here hx rfl (hb hby d8_34) rfl ?_
    show own_S p e below T2 (mkF m 35 #[vi (1 : Int32), vi p1, vi p2, vi p3, vi p4] [xj ((0 : Int64) + (0 : Int64))]) _
    refine castTop (show (mkF m 35 #[vi (1 : Int32), vi p1, vi p2, vi p3, vi p4] [xj ((0 : Int64) + (0 : Int64))]) = (mkF m 35 #[vi (1 : Int32), vi p1, vi p2, vi p3, vi p4] [xj (0 : Int64)]) from by rw [show ((0 : Int64) + (0 : Int64)) = (0 : Int64) from by decide]) ?_
    show own_S p e below T2 (mkF m 35 #[vi (1 : Int32), vi p1, vi p2, vi p3, vi p4] [xj (0 : Int64)]) _
    refine XS.iload X2.here hx rfl (hb hby d8_35) rfl ?_
    show own_S p e below T2 (mkF m 37 #[vi (1 : Int32), vi p1, vi p2, vi p3, vi p4] [xi p4, xj (0 : Int64)]) _
    refine XS.iconst X2.here hx rfl (hb hby d8_37) ?_
    show own_S p e below T2 (mkF m 38 #[vi (1 : Int32), vi p1, vi p2, vi p3, vi p4] [xi (4 : Int32), xi p4, xj (0 : Int64)]) _
    refine XS.iand X2.here hx rfl (hb hby d8_38) rfl ?_
    show own_S p e below T2 (mkF m 39 #[vi (1 : Int32), vi p1, vi p2, vi p3, vi p4] [xi (p4 &&& (4 : Int32)), xj (0 : Int64)]) _
    refine castTop (show (mkF m 39 #[vi (1 : Int32), vi p1, vi p2, vi p3, vi p4] [xi (p4 &&& (4 : Int32)), xj (0 : Int64)]) = (mkF m 39 #[vi (1 : Int32), vi p1, vi p2, vi p3, vi p4] [xi (4 : Int32), xj (0 : Int64)]) from by rw [as11]) ?_
    show own_S p e below T2 (mkF m 39 #[vi (1 : Int32), vi p1, vi p2, vi p3, vi p4] [xi (4 : Int32), xj (0 : Int64)]) _
    refine XS.ifNo X2.here hx rfl (hb hby d8_39) rfl (by decide) ?_
    show own_S p e below T2 (mkF m 42 #[vi (1 : Int32), vi p1, vi p2, vi p3, vi p4] [xj (0 : Int64)]) _
    refine XS.iconst X2.here hx rfl (hb hby d8_42) ?_
    show own_S p e below T2 (mkF m 43 #[vi (1 : Int32), vi p1, vi p2, vi p3, vi p4] [xi (1 : Int32), xj (0 : Int64)]) _
    refine XS.goto X2.here hx rfl (pc0 := 43) (pc' := 47) rfl (hb hby d8_43) (by decide) (by decide) ?_
    show own_S p e below T2 (mkF m 47 #[vi (1 : Int32), vi p1, vi p2, vi p3, vi p4] [xi (1 : Int32), xj (0 : Int64)]) _
    refine XS.iloadN X2.here hx rfl (hb hby d8_47) rfl ?_
    show own_S p e below T2 (mkF m 48 #[vi (1 : Int32), vi p1, vi p2, vi p3, vi p4] [xi p3, xi (1 : Int32), xj (0 : Int64)]) _
    refine XS.iloadN X2.here hx rfl (hb hby d8_48) rfl ?_
    show own_S p e below T2 (mkF m 49 #[vi (1 : Int32), vi p1, vi p2, vi p3, vi p4] [xi (1 : Int32), xi p3, xi (1 : Int32), xj (0 : Int64)]) _
    refine st3 _ ?_
    show own_S p e below T3 (mkF m 52 #[vi (1 : Int32), vi p1, vi p2, vi p3, vi p4] [xj (own_h p3 (1 : Int32)), xj (0 : Int64)]) _
    refine XS.ladd X3.here hx rfl (hb hby d8_52) rfl ?_
    show own_S p e below T3 (mkF m 53 #[vi (1 : Int32), vi p1, vi p2, vi p3, vi p4] [xj ((0 : Int64) + (own_h p3 (1 : Int32)))]) _
    show own_S p e below T3 (mkF m 53 #[vi (1 : Int32), vi p1, vi p2, vi p3, vi p4] [xj ((0 : Int64) + (own_h p3 (1 : Int32)))]) _
    exact X3.lreturnOut hx Bd.returns (hb hby d8_53) hr
  · exact ⟨rfl, N3, e3⟩
theorem ef_own_c10_expected (m : MethodId) (u0 u1 u2 u3 u4 : Addr) (p1 : Int32) (p2 : Int32) (p3 : Int32) (p4 : Int32) : entryFrame m #[xi (2 : Int32), xi p1, xi p2, xi p3, xi p4] 5 = (mkF m 0 #[vi (2 : Int32), vi p1, vi p2, vi p3, vi p4] []) := by first | (simp [entryFrame, mkF, argsToLocals, Value.category]; done) | rfl
set_option maxRecDepth 65536 in
set_option maxHeartbeats 40000000 in
theorem own_c10_expected (l : Launch) (Z : State) (a0 : Array Value) (hw : ∀ d ∈ tables_1, d.before a0 Z = true) (u0 u1 u2 u3 u4 : Addr) (G : own_St Z u0 u1 u2 u3 u4) (p1 : Int32) (p2 : Int32) (p3 : Int32) (p4 : Int32) (as6 : (p4 &&& (1 : Int32)) = (0 : Int32)) (as8 : (p4 &&& (2 : Int32)) = (0 : Int32)) (as11 : (p4 &&& (4 : Int32)) = (4 : Int32)) (h0 : Heap) (n0 : Nat) (O0 : Old Z n0 h0) : own_Met l Z Y9 method_4_code 5 (some .long) ({ frames := 1, cells := 0, slots := 0, locals := 16 } : Room) #[xi (2 : Int32), xi p1, xi p2, xi p3, xi p4] h0 (own_QR (some (xj ((0 : Int64) + (own_h p3 (2 : Int32))))) h0 n0) := by
  intro ws
  refine MetFree.of_bodySF (plainFor_of_name pn3) hisR ?_
  intro p e s m args below meth c s₁ Bd hml0 hP hK
  obtain ⟨rfl, hZ, hh⟩ := hP
  have hx := Bd.exec
  have hby := Bd.bytes
  have hml : c.maxLocals = 5 := hml0
  have hown : s.vm.findClass "com/example/feedwright/feedwright/LoadSummaryAddPinLaw" = some m.cls := findClass_of_methodNamed Bd.named
  have hnm := (name_of_methodNamed Bd.named Bd.method).1
  have X0 : Stand p l e ({ frames := 1, cells := 0, slots := 0, locals := 16 } : Room) s m #[xi (2 : Int32), xi p1, xi p2, xi p3, xi p4] below meth c s₁ [] 0 0 := Stand.of_body Bd
  have e0 : s₁.heap = h0 := by rw [← hh, Bd.state]; rfl
  have N0 := Fr.nil n0
  have pre0 : ∀ t, Steps p.tables e below (s₁.setTop (mkF m 0 #[vi (2 : Int32), vi p1, vi p2, vi p3, vi p4] [])) t → Steps p.tables e below (s₁.setTop (entryFrame m #[xi (2 : Int32), xi p1, xi p2, xi p3, xi p4] 5)) t := fun t st => castTop (ef_own_c10_expected m u0 u1 u2 u3 u4 p1 p2 p3 p4) st
  obtain ⟨_, _, ⟨T1, L1, k1, n1⟩, -, X1, ⟨Lc1, hQ1, l1, y1, z1⟩, st1⟩ := Jvm.LawKit.callS X0 hx (y := Y6) hown (mvT hZ (ww hw 61 rfl)) (mvT hZ (ww hw 62 rfl)) (mvT hZ (ww hw 2 rfl)) (mvT hZ (ww hw 63 rfl)) (by decide) (backOf (W := 0) (own_hit_off l Z a0 hw u0 u1 u2 u3 u4 G p1 (2 : Int32) h0 n0 O0 []) hZ (ww hw 63 rfl) (ww hw 2 rfl) (by decide) (by decide)) (g := (mkF m 14 #[vi (2 : Int32), vi p1, vi p2, vi p3, vi p4] [xi (2 : Int32), xi p1, xi (0 : Int32)])) rfl (by rw [hml]; rfl) (argsL := [xi (0 : Int32), xi p1, xi (2 : Int32)]) (rest := []) (lenOf pd5 rfl) rfl (by show 2 * 0 + _ ≤ _; exact Nat.le_of_eq rfl) (hb hby d8_14) (fun _ _ => ⟨rfl, e0, (by decide : 0 + 0 ≤ _), (by decide : 0 + 0 ≤ _)⟩)
  dsimp only [Pt.U, Pt.locs, Pt.cells, Pt.slots] at X1 l1 y1 z1 st1 hQ1
  subst l1 y1 z1
  obtain ⟨rfl, Nq1, e1⟩ := hQ1
  have N1 := Fr.app N0 Nq1
  obtain ⟨_, _, ⟨T2, L2, k2, n2⟩, -, X2, ⟨Lc2, hQ2, l2, y2, z2⟩, st2⟩ := Jvm.LawKit.callS X1 hx (y := Y6) hown (mvT hZ (ww hw 61 rfl)) (mvT hZ (ww hw 62 rfl)) (mvT hZ (ww hw 2 rfl)) (mvT hZ (ww hw 63 rfl)) (by decide) (backOf (W := 2) (own_hit_off l Z a0 hw u0 u1 u2 u3 u4 G p2 (2 : Int32) h0 n0 O0 []) hZ (ww hw 63 rfl) (ww hw 2 rfl) (by decide) (by decide)) (g := (mkF m 31 #[vi (2 : Int32), vi p1, vi p2, vi p3, vi p4] [xi (2 : Int32), xi p2, xi (0 : Int32), xj (0 : Int64)])) rfl (by rw [hml]; rfl) (argsL := [xi (0 : Int32), xi p2, xi (2 : Int32)]) (rest := [xj (0 : Int64)]) (lenOf pd5 rfl) rfl (by show 2 * 0 + _ ≤ _; exact Nat.le_of_eq rfl) (hb hby d8_31) (fun _ _ => ⟨rfl, e1, (by decide : 0 + 0 ≤ _), (by decide : 0 + 0 ≤ _)⟩)
  dsimp only [Pt.U, Pt.locs, Pt.cells, Pt.slots] at X2 l2 y2 z2 st2 hQ2
  subst l2 y2 z2
  obtain ⟨rfl, Nq2, e2⟩ := hQ2
  have N2 := Fr.app N1 Nq2
  obtain ⟨_, _, ⟨T3, L3, k3, n3⟩, -, X3, ⟨Lc3, hQ3, l3, y3, z3⟩, st3⟩ := Jvm.LawKit.callS X2 hx (y := Y6) hown (mvT hZ (ww hw 61 rfl)) (mvT hZ (ww hw 62 rfl)) (mvT hZ (ww hw 2 rfl)) (mvT hZ (ww hw 63 rfl)) (by decide) (backOf (W := 2) (own_hit l Z a0 hw u0 u1 u2 u3 u4 G p3 (2 : Int32) h0 n0 O0 []) hZ (ww hw 63 rfl) (ww hw 2 rfl) (by decide) (by decide)) (g := (mkF m 49 #[vi (2 : Int32), vi p1, vi p2, vi p3, vi p4] [xi (2 : Int32), xi p3, xi (1 : Int32), xj (0 : Int64)])) rfl (by rw [hml]; rfl) (argsL := [xi (1 : Int32), xi p3, xi (2 : Int32)]) (rest := [xj (0 : Int64)]) (lenOf pd5 rfl) rfl (by show 2 * 0 + _ ≤ _; exact Nat.le_of_eq rfl) (hb hby d8_49) (fun _ _ => ⟨rfl, e2, (by decide : 0 + 0 ≤ _), (by decide : 0 + 0 ≤ _)⟩)
  dsimp only [Pt.U, Pt.locs, Pt.cells, Pt.slots] at X3 l3 y3 z3 st3 hQ3
  subst l3 y3 z3
  obtain ⟨rfl, Nq3, e3⟩ := hQ3
  have N3 := Fr.app N2 Nq3
  obtain ⟨fs, hr, hrun, hended, hW, hsame⟩ := X3.leave (v := some (xj ((0 : Int64) + (own_h p3 (2 : Int32))))) (fun h => by rw [Bd.returns] at h; cases h)
  refine ⟨_, _, pre0 _ ?_, hrun, hended, _, _, rfl, ?_, ⟨_, rfl⟩, hW, hsame.mono (by decide) (by decide)⟩
  · show own_S p e below s₁ (mkF m 0 #[vi (2 : Int32), vi p1, vi p2, vi p3, vi p4] []) _
    refine XS.iload X0.here hx rfl (hb hby d8_0) rfl ?_
    show own_S p e below s₁ (mkF m 2 #[vi (2 : Int32), vi p1, vi p2, vi p3, vi p4] [xi p4]) _
    refine XS.iconst X0.here hx rfl (hb hby d8_2) ?_
    show own_S p e below s₁ (mkF m 3 #[vi (2 : Int32), vi p1, vi p2, vi p3, vi p4] [xi (1 : Int32), xi p4]) _
    refine XS.iand X0.here hx rfl (hb hby d8_3) rfl ?_
    show own_S p e below s₁ (mkF m 4 #[vi (2 : Int32), vi p1, vi p2, vi p3, vi p4] [xi (p4 &&& (1 : Int32))]) _
    refine castTop (show (mkF m 4 #[vi (2 : Int32), vi p1, vi p2, vi p3, vi p4] [xi (p4 &&& (1 : Int32))]) = (mkF m 4 #[vi (2 : Int32), vi p1, vi p2, vi p3, vi p4] [xi (0 : Int32)]) from by rw [as6]) ?_
    show own_S p e below s₁ (mkF m 4 #[vi (2 : Int32), vi p1, vi p2, vi p3, vi p4] [xi (0 : Int32)]) _
    refine XS.ifYes X0.here hx rfl (pc0 := 4) (pc' := 11) rfl (hb hby d8_4) rfl (by decide) (by decide) (by decide) ?_
    show own_S p e below s₁ (mkF m 11 #[vi (2 : Int32), vi p1, vi p2, vi p3, vi p4] []) _
    refine XS.iconst X0.here hx rfl (hb hby d8_11) ?_
    show own_S p e below s₁ (mkF m 12 #[vi (2 : Int32), vi p1, vi p2, vi p3, vi p4] [xi (0 : Int32)]) _
    refine XS.iloadN X0.here hx rfl (hb hby d8_12) rfl ?_
    show own_S p e below s₁ (mkF m 13 #[vi (2 : Int32), vi p1, vi p2, vi p3, vi p4] [xi p1, xi (0 : Int32)]) _
    refine XS.iloadN X0.here hx rfl (hb hby d8_13) rfl ?_
    show own_S p e below s₁ (mkF m 14 #[vi (2 : Int32), vi p1, vi p2, vi p3, vi p4] [xi (2 : Int32), xi p1, xi (0 : Int32)]) _
    refine st1 _ ?_
    show own_S p e below T1 (mkF m 17 #[vi (2 : Int32), vi p1, vi p2, vi p3, vi p4] [xj (0 : Int64)]) _
    refine XS.iload X1.here hx rfl (hb hby d8_17) rfl ?_
    show own_S p e below T1 (mkF m 19 #[vi (2 : Int32), vi p1, vi p2, vi p3, vi p4] [xi p4, xj (0 : Int64)]) _
    refine XS.iconst X1.here hx rfl (hb hby d8_19) ?_
    show own_S p e below T1 (mkF m 20 #[vi (2 : Int32), vi p1, vi p2, vi p3, vi p4] [xi (2 : Int32), xi p4, xj (0 : Int64)]) _
    refine XS.iand X1.here hx rfl (hb hby d8_20) rfl ?_
    show own_S p e below T1 (mkF m 21 #[vi (2 : Int32), vi p1, vi p2, vi p3, vi p4] [xi (p4 &&& (2 : Int32)), xj (0 : Int64)]) _
    refine castTop (show (mkF m 21 #[vi (2 : Int32), vi p1, vi p2, vi p3, vi p4] [xi (p4 &&& (2 : Int32)), xj (0 : Int64)]) = (mkF m 21 #[vi (2 : Int32), vi p1, vi p2, vi p3, vi p4] [xi (0 : Int32), xj (0 : Int64)]) from by rw [as8]) ?_
    show own_S p e below T1 (mkF m 21 #[vi (2 : Int32), vi p1, vi p2, vi p3, vi p4] [xi (0 : Int32), xj (0 : Int64)]) _
    refine XS.ifYes X1.here hx rfl (pc0 := 21) (pc' := 28) rfl (hb hby d8_21) rfl (by decide) (by decide) (by decide) ?_
    show own_S p e below T1 (mkF m 28 #[vi (2 : Int32), vi p1, vi p2, vi p3, vi p4] [xj (0 : Int64)]) _
    refine XS.iconst X1.here hx rfl (hb hby d8_28) ?_
    show own_S p e below T1 (mkF m 29 #[vi (2 : Int32), vi p1, vi p2, vi p3, vi p4] [xi (0 : Int32), xj (0 : Int64)]) _
    refine XS.iloadN X1.here hx rfl (hb hby d8_29) rfl ?_
    show own_S p e below T1 (mkF m 30 #[vi (2 : Int32), vi p1, vi p2, vi p3, vi p4] [xi p2, xi (0 : Int32), xj (0 : Int64)]) _
    refine XS.iloadN X1.here hx rfl (hb hby d8_30) rfl ?_
    show own_S p e below T1 (mkF m 31 #[vi (2 : Int32), vi p1, vi p2, vi p3, vi p4] [xi (2 : Int32), xi p2, xi (0 : Int32), xj (0 : Int64)]) _
    refine st2 _ ?_
    show own_S p e below T2 (mkF m 34 #[vi (2 : Int32), vi p1, vi p2, vi p3, vi p4] [xj (0 : Int64), xj (0 : Int64)]) _
    refine XS.ladd X2.here hx rfl (hb hby d8_34) rfl ?_
    show own_S p e below T2 (mkF m 35 #[vi (2 : Int32), vi p1, vi p2, vi p3, vi p4] [xj ((0 : Int64) + (0 : Int64))]) _
    refine castTop (show (mkF m 35 #[vi (2 : Int32), vi p1, vi p2, vi p3, vi p4] [xj ((0 : Int64) + (0 : Int64))]) = (mkF m 35 #[vi (2 : Int32), vi p1, vi p2, vi p3, vi p4] [xj (0 : Int64)]) from by rw [show ((0 : Int64) + (0 : Int64)) = (0 : Int64) from by decide]) ?_
    show own_S p e below T2 (mkF m 35 #[vi (2 : Int32), vi p1, vi p2, vi p3, vi p4] [xj (0 : Int64)]) _
    refine XS.iload X2.here hx rfl (hb hby d8_35) rfl ?_
    show own_S p e below T2 (mkF m 37 #[vi (2 : Int32), vi p1, vi p2, vi p3, vi p4] [xi p4, xj (0 : Int64)]) _
    refine XS.iconst X2.here hx rfl (hb hby d8_37) ?_
    show own_S p e below T2 (mkF m 38 #[vi (2 : Int32), vi p1, vi p2, vi p3, vi p4] [xi (4 : Int32), xi p4, xj (0 : Int64)]) _
    refine XS.iand X2.here hx rfl (hb hby d8_38) rfl ?_
    show own_S p e below T2 (mkF m 39 #[vi (2 : Int32), vi p1, vi p2, vi p3, vi p4] [xi (p4 &&& (4 : Int32)), xj (0 : Int64)]) _
    refine castTop (show (mkF m 39 #[vi (2 : Int32), vi p1, vi p2, vi p3, vi p4] [xi (p4 &&& (4 : Int32)), xj (0 : Int64)]) = (mkF m 39 #[vi (2 : Int32), vi p1, vi p2, vi p3, vi p4] [xi (4 : Int32), xj (0 : Int64)]) from by rw [as11]) ?_
    show own_S p e below T2 (mkF m 39 #[vi (2 : Int32), vi p1, vi p2, vi p3, vi p4] [xi (4 : Int32), xj (0 : Int64)]) _
    refine XS.ifNo X2.here hx rfl (hb hby d8_39) rfl (by decide) ?_
    show own_S p e below T2 (mkF m 42 #[vi (2 : Int32), vi p1, vi p2, vi p3, vi p4] [xj (0 : Int64)]) _
    refine XS.iconst X2.here hx rfl (hb hby d8_42) ?_
    show own_S p e below T2 (mkF m 43 #[vi (2 : Int32), vi p1, vi p2, vi p3, vi p4] [xi (1 : Int32), xj (0 : Int64)]) _
    refine XS.goto X2.here hx rfl (pc0 := 43) (pc' := 47) rfl (hb hby d8_43) (by decide) (by decide) ?_
    show own_S p e below T2 (mkF m 47 #[vi (2 : Int32), vi p1, vi p2, vi p3, vi p4] [xi (1 : Int32), xj (0 : Int64)]) _
    refine XS.iloadN X2.here hx rfl (hb hby d8_47) rfl ?_
    show own_S p e below T2 (mkF m 48 #[vi (2 : Int32), vi p1, vi p2, vi p3, vi p4] [xi p3, xi (1 : Int32), xj (0 : Int64)]) _
    refine XS.iloadN X2.here hx rfl (hb hby d8_48) rfl ?_
    show own_S p e below T2 (mkF m 49 #[vi (2 : Int32), vi p1, vi p2, vi p3, vi p4] [xi (2 : Int32), xi p3, xi (1 : Int32), xj (0 : Int64)]) _
    refine st3 _ ?_
    show own_S p e below T3 (mkF m 52 #[vi (2 : Int32), vi p1, vi p2, vi p3, vi p4] [xj (own_h p3 (2 : Int32)), xj (0 : Int64)]) _
    refine XS.ladd X3.here hx rfl (hb hby d8_52) rfl ?_
    show own_S p e below T3 (mkF m 53 #[vi (2 : Int32), vi p1, vi p2, vi p3, vi p4] [xj ((0 : Int64) + (own_h p3 (2 : Int32)))]) _
    show own_S p e below T3 (mkF m 53 #[vi (2 : Int32), vi p1, vi p2, vi p3, vi p4] [xj ((0 : Int64) + (own_h p3 (2 : Int32)))]) _
    exact X3.lreturnOut hx Bd.returns (hb hby d8_53) hr
  · exact ⟨rfl, N3, e3⟩
theorem ef_own_c11_expected (m : MethodId) (u0 u1 u2 u3 u4 : Addr) (p1 : Int32) (p2 : Int32) (p3 : Int32) (p4 : Int32) : entryFrame m #[xi (3 : Int32), xi p1, xi p2, xi p3, xi p4] 5 = (mkF m 0 #[vi (3 : Int32), vi p1, vi p2, vi p3, vi p4] []) := by first | (simp [entryFrame, mkF, argsToLocals, Value.category]; done) | rfl
set_option maxRecDepth 65536 in
set_option maxHeartbeats 40000000 in
theorem own_c11_expected (l : Launch) (Z : State) (a0 : Array Value) (hw : ∀ d ∈ tables_1, d.before a0 Z = true) (u0 u1 u2 u3 u4 : Addr) (G : own_St Z u0 u1 u2 u3 u4) (p1 : Int32) (p2 : Int32) (p3 : Int32) (p4 : Int32) (as6 : (p4 &&& (1 : Int32)) = (0 : Int32)) (as8 : (p4 &&& (2 : Int32)) = (0 : Int32)) (as11 : (p4 &&& (4 : Int32)) = (4 : Int32)) (h0 : Heap) (n0 : Nat) (O0 : Old Z n0 h0) : own_Met l Z Y9 method_4_code 5 (some .long) ({ frames := 1, cells := 0, slots := 0, locals := 16 } : Room) #[xi (3 : Int32), xi p1, xi p2, xi p3, xi p4] h0 (own_QR (some (xj ((0 : Int64) + (own_h p3 (3 : Int32))))) h0 n0) := by
  intro ws
  refine MetFree.of_bodySF (plainFor_of_name pn3) hisR ?_
  intro p e s m args below meth c s₁ Bd hml0 hP hK
  obtain ⟨rfl, hZ, hh⟩ := hP
  have hx := Bd.exec
  have hby := Bd.bytes
  have hml : c.maxLocals = 5 := hml0
  have hown : s.vm.findClass "com/example/feedwright/feedwright/LoadSummaryAddPinLaw" = some m.cls := findClass_of_methodNamed Bd.named
  have hnm := (name_of_methodNamed Bd.named Bd.method).1
  have X0 : Stand p l e ({ frames := 1, cells := 0, slots := 0, locals := 16 } : Room) s m #[xi (3 : Int32), xi p1, xi p2, xi p3, xi p4] below meth c s₁ [] 0 0 := Stand.of_body Bd
  have e0 : s₁.heap = h0 := by rw [← hh, Bd.state]; rfl
  have N0 := Fr.nil n0
  have pre0 : ∀ t, Steps p.tables e below (s₁.setTop (mkF m 0 #[vi (3 : Int32), vi p1, vi p2, vi p3, vi p4] [])) t → Steps p.tables e below (s₁.setTop (entryFrame m #[xi (3 : Int32), xi p1, xi p2, xi p3, xi p4] 5)) t := fun t st => castTop (ef_own_c11_expected m u0 u1 u2 u3 u4 p1 p2 p3 p4) st
  obtain ⟨_, _, ⟨T1, L1, k1, n1⟩, -, X1, ⟨Lc1, hQ1, l1, y1, z1⟩, st1⟩ := Jvm.LawKit.callS X0 hx (y := Y6) hown (mvT hZ (ww hw 61 rfl)) (mvT hZ (ww hw 62 rfl)) (mvT hZ (ww hw 2 rfl)) (mvT hZ (ww hw 63 rfl)) (by decide) (backOf (W := 0) (own_hit_off l Z a0 hw u0 u1 u2 u3 u4 G p1 (3 : Int32) h0 n0 O0 []) hZ (ww hw 63 rfl) (ww hw 2 rfl) (by decide) (by decide)) (g := (mkF m 14 #[vi (3 : Int32), vi p1, vi p2, vi p3, vi p4] [xi (3 : Int32), xi p1, xi (0 : Int32)])) rfl (by rw [hml]; rfl) (argsL := [xi (0 : Int32), xi p1, xi (3 : Int32)]) (rest := []) (lenOf pd5 rfl) rfl (by show 2 * 0 + _ ≤ _; exact Nat.le_of_eq rfl) (hb hby d8_14) (fun _ _ => ⟨rfl, e0, (by decide : 0 + 0 ≤ _), (by decide : 0 + 0 ≤ _)⟩)
  dsimp only [Pt.U, Pt.locs, Pt.cells, Pt.slots] at X1 l1 y1 z1 st1 hQ1
  subst l1 y1 z1
  obtain ⟨rfl, Nq1, e1⟩ := hQ1
  have N1 := Fr.app N0 Nq1
  obtain ⟨_, _, ⟨T2, L2, k2, n2⟩, -, X2, ⟨Lc2, hQ2, l2, y2, z2⟩, st2⟩ := Jvm.LawKit.callS X1 hx (y := Y6) hown (mvT hZ (ww hw 61 rfl)) (mvT hZ (ww hw 62 rfl)) (mvT hZ (ww hw 2 rfl)) (mvT hZ (ww hw 63 rfl)) (by decide) (backOf (W := 2) (own_hit_off l Z a0 hw u0 u1 u2 u3 u4 G p2 (3 : Int32) h0 n0 O0 []) hZ (ww hw 63 rfl) (ww hw 2 rfl) (by decide) (by decide)) (g := (mkF m 31 #[vi (3 : Int32), vi p1, vi p2, vi p3, vi p4] [xi (3 : Int32), xi p2, xi (0 : Int32), xj (0 : Int64)])) rfl (by rw [hml]; rfl) (argsL := [xi (0 : Int32), xi p2, xi (3 : Int32)]) (rest := [xj (0 : Int64)]) (lenOf pd5 rfl) rfl (by show 2 * 0 + _ ≤ _; exact Nat.le_of_eq rfl) (hb hby d8_31) (fun _ _ => ⟨rfl, e1, (by decide : 0 + 0 ≤ _), (by decide : 0 + 0 ≤ _)⟩)
  dsimp only [Pt.U, Pt.locs, Pt.cells, Pt.slots] at X2 l2 y2 z2 st2 hQ2
  subst l2 y2 z2
  obtain ⟨rfl, Nq2, e2⟩ := hQ2
  have N2 := Fr.app N1 Nq2
  obtain ⟨_, _, ⟨T3, L3, k3, n3⟩, -, X3, ⟨Lc3, hQ3, l3, y3, z3⟩, st3⟩ := Jvm.LawKit.callS X2 hx (y := Y6) hown (mvT hZ (ww hw 61 rfl)) (mvT hZ (ww hw 62 rfl)) (mvT hZ (ww hw 2 rfl)) (mvT hZ (ww hw 63 rfl)) (by decide) (backOf (W := 2) (own_hit l Z a0 hw u0 u1 u2 u3 u4 G p3 (3 : Int32) h0 n0 O0 []) hZ (ww hw 63 rfl) (ww hw 2 rfl) (by decide) (by decide)) (g := (mkF m 49 #[vi (3 : Int32), vi p1, vi p2, vi p3, vi p4] [xi (3 : Int32), xi p3, xi (1 : Int32), xj (0 : Int64)])) rfl (by rw [hml]; rfl) (argsL := [xi (1 : Int32), xi p3, xi (3 : Int32)]) (rest := [xj (0 : Int64)]) (lenOf pd5 rfl) rfl (by show 2 * 0 + _ ≤ _; exact Nat.le_of_eq rfl) (hb hby d8_49) (fun _ _ => ⟨rfl, e2, (by decide : 0 + 0 ≤ _), (by decide : 0 + 0 ≤ _)⟩)
  dsimp only [Pt.U, Pt.locs, Pt.cells, Pt.slots] at X3 l3 y3 z3 st3 hQ3
  subst l3 y3 z3
  obtain ⟨rfl, Nq3, e3⟩ := hQ3
  have N3 := Fr.app N2 Nq3
  obtain ⟨fs, hr, hrun, hended, hW, hsame⟩ := X3.leave (v := some (xj ((0 : Int64) + (own_h p3 (3 : Int32))))) (fun h => by rw [Bd.returns] at h; cases h)
  refine ⟨_, _, pre0 _ ?_, hrun, hended, _, _, rfl, ?_, ⟨_, rfl⟩, hW, hsame.mono (by decide) (by decide)⟩
  · show own_S p e below s₁ (mkF m 0 #[vi (3 : Int32), vi p1, vi p2, vi p3, vi p4] []) _
    refine XS.iload X0.here hx rfl (hb hby d8_0) rfl ?_
    show own_S p e below s₁ (mkF m 2 #[vi (3 : Int32), vi p1, vi p2, vi p3, vi p4] [xi p4]) _
    refine XS.iconst X0.here hx rfl (hb hby d8_2) ?_
    show own_S p e below s₁ (mkF m 3 #[vi (3 : Int32), vi p1, vi p2, vi p3, vi p4] [xi (1 : Int32), xi p4]) _
    refine XS.iand X0.here hx rfl (hb hby d8_3) rfl ?_
    show own_S p e below s₁ (mkF m 4 #[vi (3 : Int32), vi p1, vi p2, vi p3, vi p4] [xi (p4 &&& (1 : Int32))]) _
    refine castTop (show (mkF m 4 #[vi (3 : Int32), vi p1, vi p2, vi p3, vi p4] [xi (p4 &&& (1 : Int32))]) = (mkF m 4 #[vi (3 : Int32), vi p1, vi p2, vi p3, vi p4] [xi (0 : Int32)]) from by rw [as6]) ?_
    show own_S p e below s₁ (mkF m 4 #[vi (3 : Int32), vi p1, vi p2, vi p3, vi p4] [xi (0 : Int32)]) _
    refine XS.ifYes X0.here hx rfl (pc0 := 4) (pc' := 11) rfl (hb hby d8_4) rfl (by decide) (by decide) (by decide) ?_
    show own_S p e below s₁ (mkF m 11 #[vi (3 : Int32), vi p1, vi p2, vi p3, vi p4] []) _
    refine XS.iconst X0.here hx rfl (hb hby d8_11) ?_
    show own_S p e below s₁ (mkF m 12 #[vi (3 : Int32), vi p1, vi p2, vi p3, vi p4] [xi (0 : Int32)]) _
    refine XS.iloadN X0.here hx rfl (hb hby d8_12) rfl ?_
    show own_S p e below s₁ (mkF m 13 #[vi (3 : Int32), vi p1, vi p2, vi p3, vi p4] [xi p1, xi (0 : Int32)]) _
    refine XS.iloadN X0.here hx rfl (hb hby d8_13) rfl ?_
    show own_S p e below s₁ (mkF m 14 #[vi (3 : Int32), vi p1, vi p2, vi p3, vi p4] [xi (3 : Int32), xi p1, xi (0 : Int32)]) _
    refine st1 _ ?_
    show own_S p e below T1 (mkF m 17 #[vi (3 : Int32), vi p1, vi p2, vi p3, vi p4] [xj (0 : Int64)]) _
    refine XS.iload X1.here hx rfl (hb hby d8_17) rfl ?_
    show own_S p e below T1 (mkF m 19 #[vi (3 : Int32), vi p1, vi p2, vi p3, vi p4] [xi p4, xj (0 : Int64)]) _
    refine XS.iconst X1.here hx rfl (hb hby d8_19) ?_
    show own_S p e below T1 (mkF m 20 #[vi (3 : Int32), vi p1, vi p2, vi p3, vi p4] [xi (2 : Int32), xi p4, xj (0 : Int64)]) _
    refine XS.iand X1.here hx rfl (hb hby d8_20) rfl ?_
    show own_S p e below T1 (mkF m 21 #[vi (3 : Int32), vi p1, vi p2, vi p3, vi p4] [xi (p4 &&& (2 : Int32)), xj (0 : Int64)]) _
    refine castTop (show (mkF m 21 #[vi (3 : Int32), vi p1, vi p2, vi p3, vi p4] [xi (p4 &&& (2 : Int32)), xj (0 : Int64)]) = (mkF m 21 #[vi (3 : Int32), vi p1, vi p2, vi p3, vi p4] [xi (0 : Int32), xj (0 : Int64)]) from by rw [as8]) ?_
    show own_S p e below T1 (mkF m 21 #[vi (3 : Int32), vi p1, vi p2, vi p3, vi p4] [xi (0 : Int32), xj (0 : Int64)]) _
    refine XS.ifYes X1.here hx rfl (pc0 := 21) (pc' := 28) rfl (hb hby d8_21) rfl (by decide) (by decide) (by decide) ?_
    show own_S p e below T1 (mkF m 28 #[vi (3 : Int32), vi p1, vi p2, vi p3, vi p4] [xj (0 : Int64)]) _
    refine XS.iconst X1.here hx rfl (hb hby d8_28) ?_
    show own_S p e below T1 (mkF m 29 #[vi (3 : Int32), vi p1, vi p2, vi p3, vi p4] [xi (0 : Int32), xj (0 : Int64)]) _
    refine XS.iloadN X1.here hx rfl (hb hby d8_29) rfl ?_
    show own_S p e below T1 (mkF m 30 #[vi (3 : Int32), vi p1, vi p2, vi p3, vi p4] [xi p2, xi (0 : Int32), xj (0 : Int64)]) _
    refine XS.iloadN X1.here hx rfl (hb hby d8_30) rfl ?_
    show own_S p e below T1 (mkF m 31 #[vi (3 : Int32), vi p1, vi p2, vi p3, vi p4] [xi (3 : Int32), xi p2, xi (0 : Int32), xj (0 : Int64)]) _
    refine st2 _ ?_
    show own_S p e below T2 (mkF m 34 #[vi (3 : Int32), vi p1, vi p2, vi p3, vi p4] [xj (0 : Int64), xj (0 : Int64)]) _
    refine XS.ladd X2.here hx rfl (hb hby d8_34) rfl ?_
    show own_S p e below T2 (mkF m 35 #[vi (3 : Int32), vi p1, vi p2, vi p3, vi p4] [xj ((0 : Int64) + (0 : Int64))]) _
    refine castTop (show (mkF m 35 #[vi (3 : Int32), vi p1, vi p2, vi p3, vi p4] [xj ((0 : Int64) + (0 : Int64))]) = (mkF m 35 #[vi (3 : Int32), vi p1, vi p2, vi p3, vi p4] [xj (0 : Int64)]) from by rw [show ((0 : Int64) + (0 : Int64)) = (0 : Int64) from by decide]) ?_
    show own_S p e below T2 (mkF m 35 #[vi (3 : Int32), vi p1, vi p2, vi p3, vi p4] [xj (0 : Int64)]) _
    refine XS.iload X2.here hx rfl (hb hby d8_35) rfl ?_
    show own_S p e below T2 (mkF m 37 #[vi (3 : Int32), vi p1, vi p2, vi p3, vi p4] [xi p4, xj (0 : Int64)]) _
    refine XS.iconst X2.here hx rfl (hb hby d8_37) ?_
    show own_S p e below T2 (mkF m 38 #[vi (3 : Int32), vi p1, vi p2, vi p3, vi p4] [xi (4 : Int32), xi p4, xj (0 : Int64)]) _
    refine XS.iand X2.here hx rfl (hb hby d8_38) rfl ?_
    show own_S p e below T2 (mkF m 39 #[vi (3 : Int32), vi p1, vi p2, vi p3, vi p4] [xi (p4 &&& (4 : Int32)), xj (0 : Int64)]) _
    refine castTop (show (mkF m 39 #[vi (3 : Int32), vi p1, vi p2, vi p3, vi p4] [xi (p4 &&& (4 : Int32)), xj (0 : Int64)]) = (mkF m 39 #[vi (3 : Int32), vi p1, vi p2, vi p3, vi p4] [xi (4 : Int32), xj (0 : Int64)]) from by rw [as11]) ?_
    show own_S p e below T2 (mkF m 39 #[vi (3 : Int32), vi p1, vi p2, vi p3, vi p4] [xi (4 : Int32), xj (0 : Int64)]) _
    refine XS.ifNo X2.here hx rfl (hb hby d8_39) rfl (by decide) ?_
    show own_S p e below T2 (mkF m 42 #[vi (3 : Int32), vi p1, vi p2, vi p3, vi p4] [xj (0 : Int64)]) _
    refine XS.iconst X2.here hx rfl (hb hby d8_42) ?_
    show own_S p e below T2 (mkF m 43 #[vi (3 : Int32), vi p1, vi p2, vi p3, vi p4] [xi (1 : Int32), xj (0 : Int64)]) _
    refine XS.goto X2.here hx rfl (pc0 := 43) (pc' := 47) rfl (hb hby d8_43) (by decide) (by decide) ?_
    show own_S p e below T2 (mkF m 47 #[vi (3 : Int32), vi p1, vi p2, vi p3, vi p4] [xi (1 : Int32), xj (0 : Int64)]) _
    refine XS.iloadN X2.here hx rfl (hb hby d8_47) rfl ?_
    show own_S p e below T2 (mkF m 48 #[vi (3 : Int32), vi p1, vi p2, vi p3, vi p4] [xi p3, xi (1 : Int32), xj (0 : Int64)]) _
    refine XS.iloadN X2.here hx rfl (hb hby d8_48) rfl ?_
    show own_S p e below T2 (mkF m 49 #[vi (3 : Int32), vi p1, vi p2, vi p3, vi p4] [xi (3 : Int32), xi p3, xi (1 : Int32), xj (0 : Int64)]) _
    refine st3 _ ?_
    show own_S p e below T3 (mkF m 52 #[vi (3 : Int32), vi p1, vi p2, vi p3, vi p4] [xj (own_h p3 (3 : Int32)), xj (0 : Int64)]) _
    refine XS.ladd X3.here hx rfl (hb hby d8_52) rfl ?_
    show own_S p e below T3 (mkF m 53 #[vi (3 : Int32), vi p1, vi p2, vi p3, vi p4] [xj ((0 : Int64) + (own_h p3 (3 : Int32)))]) _
    show own_S p e below T3 (mkF m 53 #[vi (3 : Int32), vi p1, vi p2, vi p3, vi p4] [xj ((0 : Int64) + (own_h p3 (3 : Int32)))]) _
    exact X3.lreturnOut hx Bd.returns (hb hby d8_53) hr
  · exact ⟨rfl, N3, e3⟩
theorem ef_own_l1 (m : MethodId) (u0 u1 u2 u3 u4 : Addr) (p1 : Int32) (p2 : Int32) (p3 : Int32) (p4 : Int32) (va1 : Addr) (va2 : Addr) (va3 : Addr) : entryFrame m #[xi p1, xi p2, xi p3, xi p4] maxLocals = (mkF m 0 #[vi p1, vi p2, vi p3, vi p4, vu, vu, vu, vu, vu, vu, vu, vu, vu] []) := by first | (simp [entryFrame, mkF, argsToLocals, Value.category, maxLocals]; done) | rfl
set_option maxRecDepth 65536 in
set_option maxHeartbeats 40000000 in
theorem own_l1 (l : Launch) (Z : State) (a0 : Array Value) (hw : ∀ d ∈ tables_1, d.before a0 Z = true) (u0 u1 u2 u3 u4 : Addr) (G : own_St Z u0 u1 u2 u3 u4) (p1 : Int32) (p2 : Int32) (p3 : Int32) (p4 : Int32) (va1 : Addr) (va2 : Addr) (va3 : Addr) (as6 : (p4 &&& (1 : Int32)) = (0 : Int32)) (as8 : (p4 &&& (2 : Int32)) = (0 : Int32)) (as11 : (p4 &&& (4 : Int32)) = (4 : Int32)) (hv1 : own_is u0 u1 u2 u3 u4 p1 va1) (hv2 : own_is u0 u1 u2 u3 u4 p2 va2) (hv3 : own_is u0 u1 u2 u3 u4 p3 va3) (h0 : Heap) (n0 : Nat) (O0 : Old Z n0 h0) : own_Met l Z x code maxLocals ret room_1 #[xi p1, xi p2, xi p3, xi p4] h0 (own_QL (some (xi (1 : Int32))) n0) := by
  intro ws
  refine MetFree.of_bodySF (plainFor_of_name pn3) hisR ?_
  intro p e s m args below meth c s₁ Bd hml0 hP hK
  obtain ⟨rfl, hZ, hh⟩ := hP
  have hx := Bd.exec
  have hby := Bd.bytes
  have hml : c.maxLocals = 13 := hml0
  have hown : s.vm.findClass "com/example/feedwright/feedwright/LoadSummaryAddPinLaw" = some m.cls := findClass_of_methodNamed Bd.named
  have hnm := (name_of_methodNamed Bd.named Bd.method).1
  have X0 : Stand p l e room_1 s m #[xi p1, xi p2, xi p3, xi p4] below meth c s₁ [] 0 0 := Stand.of_body Bd
  have e0 : s₁.heap = h0 := by rw [← hh, Bd.state]; rfl
  have N0 := Fr.nil n0
  have pre0 : ∀ t, Steps p.tables e below (s₁.setTop (mkF m 0 #[vi p1, vi p2, vi p3, vi p4, vu, vu, vu, vu, vu, vu, vu, vu, vu] [])) t → Steps p.tables e below (s₁.setTop (entryFrame m #[xi p1, xi p2, xi p3, xi p4] maxLocals)) t := fun t st => castTop (ef_own_l1 m u0 u1 u2 u3 u4 p1 p2 p3 p4 va1 va2 va3) st
  obtain ⟨_, _, ⟨T1, L1, k1, n1⟩, -, X1, ⟨Lc1, hQ1, l1, y1, z1⟩, st1⟩ := Jvm.LawKit.callS X0 hx (y := Y5) hown (mvT hZ (ww hw 0 rfl)) (mvT hZ (ww hw 1 rfl)) (mvT hZ (ww hw 2 rfl)) (mvT hZ (ww hw 3 rfl)) (by decide) (backOf (W := 0) (own_pick l Z a0 hw u0 u1 u2 u3 u4 G p1 va1 hv1 h0 n0 O0 []) hZ (ww hw 3 rfl) (ww hw 2 rfl) (by decide) (by decide)) (g := (mkF m 40 #[vi p1, vi p2, vi p3, vi p4, vi (0 : Int32), vi (0 : Int32), vi (1 : Int32), vu, vu, vu, vu, vu, vu] [xi p1])) rfl (by rw [hml]; rfl) (argsL := [xi p1]) (rest := []) (lenOf pd2 rfl) rfl (by show 2 * 0 + _ ≤ _; exact Nat.le_of_eq rfl) (hb hby at_40) (fun _ _ => ⟨rfl, e0, (by decide : 0 + 0 ≤ _), (by decide : 0 + 0 ≤ _)⟩)
  dsimp only [Pt.U, Pt.locs, Pt.cells, Pt.slots] at X1 l1 y1 z1 st1 hQ1
  subst l1 y1 z1
  obtain ⟨rfl, Nq1, e1⟩ := hQ1
  have N1 := Fr.app N0 Nq1
  obtain ⟨_, _, ⟨T2, L2, k2, n2⟩, -, X2, ⟨Lc2, hQ2, l2, y2, z2⟩, st2⟩ := Jvm.LawKit.callS X1 hx (y := Y5) hown (mvT hZ (ww hw 0 rfl)) (mvT hZ (ww hw 1 rfl)) (mvT hZ (ww hw 2 rfl)) (mvT hZ (ww hw 3 rfl)) (by decide) (backOf (W := 0) (own_pick l Z a0 hw u0 u1 u2 u3 u4 G p2 va2 hv2 h0 n0 O0 []) hZ (ww hw 3 rfl) (ww hw 2 rfl) (by decide) (by decide)) (g := (mkF m 46 #[vi p1, vi p2, vi p3, vi p4, vi (0 : Int32), vi (0 : Int32), vi (1 : Int32), vr va1, vu, vu, vu, vu, vu] [xi p2])) rfl (by rw [hml]; rfl) (argsL := [xi p2]) (rest := []) (lenOf pd2 rfl) rfl (by show 2 * 0 + _ ≤ _; exact Nat.le_of_eq rfl) (hb hby at_46) (fun _ _ => ⟨rfl, e1, (by decide : 0 + 0 ≤ _), (by decide : 0 + 0 ≤ _)⟩)
  dsimp only [Pt.U, Pt.locs, Pt.cells, Pt.slots] at X2 l2 y2 z2 st2 hQ2
  subst l2 y2 z2
  obtain ⟨rfl, Nq2, e2⟩ := hQ2
  have N2 := Fr.app N1 Nq2
  obtain ⟨_, _, ⟨T3, L3, k3, n3⟩, -, X3, ⟨Lc3, hQ3, l3, y3, z3⟩, st3⟩ := Jvm.LawKit.callS X2 hx (y := Y5) hown (mvT hZ (ww hw 0 rfl)) (mvT hZ (ww hw 1 rfl)) (mvT hZ (ww hw 2 rfl)) (mvT hZ (ww hw 3 rfl)) (by decide) (backOf (W := 0) (own_pick l Z a0 hw u0 u1 u2 u3 u4 G p3 va3 hv3 h0 n0 O0 []) hZ (ww hw 3 rfl) (ww hw 2 rfl) (by decide) (by decide)) (g := (mkF m 52 #[vi p1, vi p2, vi p3, vi p4, vi (0 : Int32), vi (0 : Int32), vi (1 : Int32), vr va1, vr va2, vu, vu, vu, vu] [xi p3])) rfl (by rw [hml]; rfl) (argsL := [xi p3]) (rest := []) (lenOf pd2 rfl) rfl (by show 2 * 0 + _ ≤ _; exact Nat.le_of_eq rfl) (hb hby at_52) (fun _ _ => ⟨rfl, e2, (by decide : 0 + 0 ≤ _), (by decide : 0 + 0 ≤ _)⟩)
  dsimp only [Pt.U, Pt.locs, Pt.cells, Pt.slots] at X3 l3 y3 z3 st3 hQ3
  subst l3 y3 z3
  obtain ⟨rfl, Nq3, e3⟩ := hQ3
  have N3 := Fr.app N2 Nq3
  obtain ⟨T4, h4, X4, e4, E4, A4, D4, -, st4⟩ := newO X3 hx hZ hown (ww hw 11 rfl) (ww hw 12 rfl) (ww hw 13 rfl) e3 (g := (mkF m 57 #[vi p1, vi p2, vi p3, vi p4, vi (0 : Int32), vi (0 : Int32), vi (1 : Int32), vr va1, vr va2, vr va3, vu, vu, vu] [])) rfl (hb hby at_57) (by decide) (by decide)
  obtain ⟨b4, g4⟩ : ∃ z, z = h0.size := ⟨_, rfl⟩
  rw [← g4] at A4 D4 st4
  have g_b4 : n0 ≤ b4 := own_fresh O0 g4
  have O4 : Old Z n0 h4 := O0.ext E4
  have F_b4_counts : Fld Z h4 b4 "com/example/feedwright/feedwright/LoadSummary" "counts" "[J" .null := D4 (Or.inr (ww hw 38 rfl)) (ty := (.array .long)) (by decide)
  obtain ⟨_, _, ⟨T5, L5, k5, n5⟩, -, X5, ⟨Lc5, hQ5, l5, y5, z5⟩, st5⟩ := X4.specialBack hx (y := Y1) rfl hown (mvT hZ (ww hw 14 rfl)) (mvT hZ (ww hw 15 rfl)) (mvT hZ (ww hw 16 rfl)) (by decide) (backOf (W := 1) (own_init l Z a0 hw u0 u1 u2 u3 u4 G b4 h4 n0 O4 A4 F_b4_counts g_b4 []) hZ (ww hw 16 rfl) (ww hw 13 rfl) (by decide) (by decide)) (g := (mkF m 61 #[vi p1, vi p2, vi p3, vi p4, vi (0 : Int32), vi (0 : Int32), vi (1 : Int32), vr va1, vr va2, vr va3, vu, vu, vu] [xr b4, xr b4])) rfl (by rw [hml]; rfl) (Steps.refl _) (a := b4) (argsL := []) (rest := [xr b4]) (lenOf pd3 rfl) rfl (by show 2 * 0 + _ ≤ _; exact Nat.le_of_eq rfl) (hb hby at_61) (fun _ _ => ⟨rfl, e4, (by decide : 1 + 2 ≤ _), (by decide : 1 + 8 ≤ _)⟩)
  dsimp only [Pt.U, Pt.locs, Pt.cells, Pt.slots] at X5 l5 y5 z5 st5 hQ5
  subst l5 y5 z5
  obtain ⟨h5, e5⟩ : ∃ z, T5.heap = z := ⟨_, rfl⟩
  rw [e5] at hQ5
  obtain ⟨rfl, Nq5, K5, bb5, kk5, -, Fc5, Vb5, nb5, -, g_bb5⟩ := hQ5
  have N5 := Fr.app N3 Nq5
  have O5 : Old Z n0 h5 := O4.keep K5 (allS g_b4 all0)
  have X_b4_5 := A4.keep K5
  obtain ⟨cq6, kq6, qa6, qb6, qc6⟩ := isOf hZ e5 X_b4_5
  obtain ⟨_, _, ⟨T6, L6, k6, n6⟩, -, X6, ⟨Lc6, hQ6, l6, y6, z6⟩, st6⟩ := X5.virtualBack hx (y := Y4) (z := Y4) hown (mvT hZ (ww hw 39 rfl)) (mvT hZ (ww hw 40 rfl)) (notFace_of_selects (args := #[]) (mvT hZ (ww hw 42 rfl))) (mvT hZ (ww hw 42 rfl)) (mvT hZ (ww hw 41 rfl)) (by decide) (backOf (W := 0) (own_add l Z a0 hw u0 u1 u2 u3 u4 G b4 bb5 kk5 (0 : Int64) (0 : Int64) (0 : Int64) (0 : Int64) p3 va3 hv3 h5 n0 O5 ⟨X_b4_5, Fc5, Vb5, nb5, g_b4, g_bb5⟩ []) hZ (ww hw 43 rfl) (ww hw 13 rfl) (by decide) (by decide)) qa6 qc6 (g := (mkF m 99 #[vi p1, vi p2, vi p3, vi p4, vi (0 : Int32), vi (0 : Int32), vi (1 : Int32), vr va1, vr va2, vr va3, vr b4, vu, vu] [xr va3, xr b4])) rfl (by rw [hml]; rfl) (Steps.refl _) (argsL := [xr va3]) (rest := []) (lenOf pd8 rfl) rfl (by show 2 * 0 + _ ≤ _; exact Nat.le_of_eq rfl) (hb hby at_99) (fun _ _ => ⟨rfl, e5, (by decide : 3 + 0 ≤ _), (by decide : 9 + 0 ≤ _)⟩)
  dsimp only [Pt.U, Pt.locs, Pt.cells, Pt.slots] at X6 l6 y6 z6 st6 hQ6
  subst l6 y6 z6
  obtain ⟨h6, e6⟩ : ∃ z, T6.heap = z := ⟨_, rfl⟩
  rw [e6] at hQ6
  obtain ⟨rfl, Nq6, K6, -, -, Vn6, -⟩ := hQ6
  have N6 := Fr.app N5 Nq6
  have O6 : Old Z n0 h6 := O5.keep K6 (allS g_bb5 all0)
  have X_b4_6 := X_b4_5.keep K6
  have F_b4_counts_6 := Fc5.keep K6 (ninS nb5 nin0)
  obtain ⟨T7, X7, e7, st7⟩ := getS2 X6 hx hZ hown (host := "") (Or.inl (ww hw 4 rfl)) Via.refl e6 ((own_S_u0 G).ext O6.2) (g := (mkF m 138 #[vi p1, vi p2, vi p3, vi p4, vi (0 : Int32), vi (0 : Int32), vi (1 : Int32), vr va1, vr va2, vr va3, vr b4, vj (1 : Int64), .second] [xr b4])) rfl (hb hby at_138)
  obtain ⟨cq8, kq8, qa8, qb8, qc8⟩ := isOf hZ e7 X_b4_6
  obtain ⟨_, _, ⟨T8, L8, k8, n8⟩, -, X8, ⟨Lc8, hQ8, l8, y8, z8⟩, st8⟩ := X7.virtualBack hx (y := Y7) (z := Y7) hown (mvT hZ (ww hw 53 rfl)) (mvT hZ (ww hw 54 rfl)) (notFace_of_selects (args := #[]) (mvT hZ (ww hw 56 rfl))) (mvT hZ (ww hw 56 rfl)) (mvT hZ (ww hw 55 rfl)) (by decide) (backOf (W := 0) (own_count0 l Z a0 hw u0 u1 u2 u3 u4 G b4 bb5 kk5 ((0 : Int64) + own_h p3 0) ((0 : Int64) + own_h p3 1) ((0 : Int64) + own_h p3 2) ((0 : Int64) + own_h p3 3) h6 n0 O6 ⟨X_b4_6, F_b4_counts_6, Vn6, nb5, g_b4, g_bb5⟩ []) hZ (ww hw 57 rfl) (ww hw 13 rfl) (by decide) (by decide)) qa8 qc8 (g := (mkF m 141 #[vi p1, vi p2, vi p3, vi p4, vi (0 : Int32), vi (0 : Int32), vi (1 : Int32), vr va1, vr va2, vr va3, vr b4, vj (1 : Int64), .second] [xr u0, xr b4])) rfl (by rw [hml]; rfl) (Steps.refl _) (argsL := [xr u0]) (rest := []) (lenOf pd4 rfl) rfl (by show 2 * 0 + _ ≤ _; exact Nat.le_of_eq rfl) (hb hby at_141) (fun _ _ => ⟨rfl, e7, (by decide : 3 + 0 ≤ _), (by decide : 9 + 0 ≤ _)⟩)
  dsimp only [Pt.U, Pt.locs, Pt.cells, Pt.slots] at X8 l8 y8 z8 st8 hQ8
  subst l8 y8 z8
  obtain ⟨rfl, Nq8, e8⟩ := hQ8
  have N8 := Fr.app N6 Nq8
  obtain ⟨_, _, ⟨T9, L9, k9, n9⟩, -, X9, ⟨Lc9, hQ9, l9, y9, z9⟩, st9⟩ := Jvm.LawKit.callS X8 hx (y := Y9) hown (mvT hZ (ww hw 58 rfl)) (mvT hZ (ww hw 59 rfl)) (mvT hZ (ww hw 2 rfl)) (mvT hZ (ww hw 60 rfl)) (by decide) (backOf (W := 2) (own_c8_expected l Z a0 hw u0 u1 u2 u3 u4 G p1 p2 p3 p4 as6 as8 as11 h6 n0 O6 []) hZ (ww hw 60 rfl) (ww hw 2 rfl) (by decide) (by decide)) (g := (mkF m 149 #[vi p1, vi p2, vi p3, vi p4, vi (0 : Int32), vi (0 : Int32), vi (1 : Int32), vr va1, vr va2, vr va3, vr b4, vj (1 : Int64), .second] [xi p4, xi p3, xi p2, xi p1, xi (0 : Int32), xj ((0 : Int64) + own_h p3 0)])) rfl (by rw [hml]; rfl) (argsL := [xi (0 : Int32), xi p1, xi p2, xi p3, xi p4]) (rest := [xj ((0 : Int64) + own_h p3 0)]) (lenOf pd6 rfl) rfl (by show 2 * 0 + _ ≤ _; exact Nat.le_of_eq rfl) (hb hby at_149) (fun _ _ => ⟨rfl, e8, (by decide : 3 + 0 ≤ _), (by decide : 9 + 0 ≤ _)⟩)
  dsimp only [Pt.U, Pt.locs, Pt.cells, Pt.slots] at X9 l9 y9 z9 st9 hQ9
  subst l9 y9 z9
  obtain ⟨rfl, Nq9, e9⟩ := hQ9
  have N9 := Fr.app N8 Nq9
  obtain ⟨T10, X10, e10, st10⟩ := getS2 X9 hx hZ hown (host := "") (Or.inl (ww hw 64 rfl)) Via.refl e9 ((own_S_u4 G).ext O6.2) (g := (mkF m 158 #[vi p1, vi p2, vi p3, vi p4, vi (0 : Int32), vi (0 : Int32), vi (1 : Int32), vr va1, vr va2, vr va3, vr b4, vj (1 : Int64), .second] [xr b4])) rfl (hb hby at_158)
  obtain ⟨cq11, kq11, qa11, qb11, qc11⟩ := isOf hZ e10 X_b4_6
  obtain ⟨_, _, ⟨T11, L11, k11, n11⟩, -, X11, ⟨Lc11, hQ11, l11, y11, z11⟩, st11⟩ := X10.virtualBack hx (y := Y7) (z := Y7) hown (mvT hZ (ww hw 53 rfl)) (mvT hZ (ww hw 54 rfl)) (notFace_of_selects (args := #[]) (mvT hZ (ww hw 56 rfl))) (mvT hZ (ww hw 56 rfl)) (mvT hZ (ww hw 55 rfl)) (by decide) (backOf (W := 0) (own_count1 l Z a0 hw u0 u1 u2 u3 u4 G b4 bb5 kk5 ((0 : Int64) + own_h p3 0) ((0 : Int64) + own_h p3 1) ((0 : Int64) + own_h p3 2) ((0 : Int64) + own_h p3 3) h6 n0 O6 ⟨X_b4_6, F_b4_counts_6, Vn6, nb5, g_b4, g_bb5⟩ []) hZ (ww hw 57 rfl) (ww hw 13 rfl) (by decide) (by decide)) qa11 qc11 (g := (mkF m 161 #[vi p1, vi p2, vi p3, vi p4, vi (0 : Int32), vi (0 : Int32), vi (1 : Int32), vr va1, vr va2, vr va3, vr b4, vj (1 : Int64), .second] [xr u4, xr b4])) rfl (by rw [hml]; rfl) (Steps.refl _) (argsL := [xr u4]) (rest := []) (lenOf pd4 rfl) rfl (by show 2 * 0 + _ ≤ _; exact Nat.le_of_eq rfl) (hb hby at_161) (fun _ _ => ⟨rfl, e10, (by decide : 3 + 0 ≤ _), (by decide : 9 + 0 ≤ _)⟩)
  dsimp only [Pt.U, Pt.locs, Pt.cells, Pt.slots] at X11 l11 y11 z11 st11 hQ11
  subst l11 y11 z11
  obtain ⟨rfl, Nq11, e11⟩ := hQ11
  have N11 := Fr.app N9 Nq11
  obtain ⟨_, _, ⟨T12, L12, k12, n12⟩, -, X12, ⟨Lc12, hQ12, l12, y12, z12⟩, st12⟩ := Jvm.LawKit.callS X11 hx (y := Y9) hown (mvT hZ (ww hw 58 rfl)) (mvT hZ (ww hw 59 rfl)) (mvT hZ (ww hw 2 rfl)) (mvT hZ (ww hw 60 rfl)) (by decide) (backOf (W := 2) (own_c9_expected l Z a0 hw u0 u1 u2 u3 u4 G p1 p2 p3 p4 as6 as8 as11 h6 n0 O6 []) hZ (ww hw 60 rfl) (ww hw 2 rfl) (by decide) (by decide)) (g := (mkF m 169 #[vi p1, vi p2, vi p3, vi p4, vi (0 : Int32), vi (0 : Int32), vi (1 : Int32), vr va1, vr va2, vr va3, vr b4, vj (1 : Int64), .second] [xi p4, xi p3, xi p2, xi p1, xi (1 : Int32), xj ((0 : Int64) + own_h p3 1)])) rfl (by rw [hml]; rfl) (argsL := [xi (1 : Int32), xi p1, xi p2, xi p3, xi p4]) (rest := [xj ((0 : Int64) + own_h p3 1)]) (lenOf pd6 rfl) rfl (by show 2 * 0 + _ ≤ _; exact Nat.le_of_eq rfl) (hb hby at_169) (fun _ _ => ⟨rfl, e11, (by decide : 3 + 0 ≤ _), (by decide : 9 + 0 ≤ _)⟩)
  dsimp only [Pt.U, Pt.locs, Pt.cells, Pt.slots] at X12 l12 y12 z12 st12 hQ12
  subst l12 y12 z12
  obtain ⟨rfl, Nq12, e12⟩ := hQ12
  have N12 := Fr.app N11 Nq12
  obtain ⟨T13, X13, e13, st13⟩ := getS2 X12 hx hZ hown (host := "") (Or.inl (ww hw 9 rfl)) Via.refl e12 ((own_S_u2 G).ext O6.2) (g := (mkF m 178 #[vi p1, vi p2, vi p3, vi p4, vi (0 : Int32), vi (0 : Int32), vi (1 : Int32), vr va1, vr va2, vr va3, vr b4, vj (1 : Int64), .second] [xr b4])) rfl (hb hby at_178)
  obtain ⟨cq14, kq14, qa14, qb14, qc14⟩ := isOf hZ e13 X_b4_6
  obtain ⟨_, _, ⟨T14, L14, k14, n14⟩, -, X14, ⟨Lc14, hQ14, l14, y14, z14⟩, st14⟩ := X13.virtualBack hx (y := Y7) (z := Y7) hown (mvT hZ (ww hw 53 rfl)) (mvT hZ (ww hw 54 rfl)) (notFace_of_selects (args := #[]) (mvT hZ (ww hw 56 rfl))) (mvT hZ (ww hw 56 rfl)) (mvT hZ (ww hw 55 rfl)) (by decide) (backOf (W := 0) (own_count2 l Z a0 hw u0 u1 u2 u3 u4 G b4 bb5 kk5 ((0 : Int64) + own_h p3 0) ((0 : Int64) + own_h p3 1) ((0 : Int64) + own_h p3 2) ((0 : Int64) + own_h p3 3) h6 n0 O6 ⟨X_b4_6, F_b4_counts_6, Vn6, nb5, g_b4, g_bb5⟩ []) hZ (ww hw 57 rfl) (ww hw 13 rfl) (by decide) (by decide)) qa14 qc14 (g := (mkF m 181 #[vi p1, vi p2, vi p3, vi p4, vi (0 : Int32), vi (0 : Int32), vi (1 : Int32), vr va1, vr va2, vr va3, vr b4, vj (1 : Int64), .second] [xr u2, xr b4])) rfl (by rw [hml]; rfl) (Steps.refl _) (argsL := [xr u2]) (rest := []) (lenOf pd4 rfl) rfl (by show 2 * 0 + _ ≤ _; exact Nat.le_of_eq rfl) (hb hby at_181) (fun _ _ => ⟨rfl, e13, (by decide : 3 + 0 ≤ _), (by decide : 9 + 0 ≤ _)⟩)
  dsimp only [Pt.U, Pt.locs, Pt.cells, Pt.slots] at X14 l14 y14 z14 st14 hQ14
  subst l14 y14 z14
  obtain ⟨rfl, Nq14, e14⟩ := hQ14
  have N14 := Fr.app N12 Nq14
  obtain ⟨_, _, ⟨T15, L15, k15, n15⟩, -, X15, ⟨Lc15, hQ15, l15, y15, z15⟩, st15⟩ := Jvm.LawKit.callS X14 hx (y := Y9) hown (mvT hZ (ww hw 58 rfl)) (mvT hZ (ww hw 59 rfl)) (mvT hZ (ww hw 2 rfl)) (mvT hZ (ww hw 60 rfl)) (by decide) (backOf (W := 2) (own_c10_expected l Z a0 hw u0 u1 u2 u3 u4 G p1 p2 p3 p4 as6 as8 as11 h6 n0 O6 []) hZ (ww hw 60 rfl) (ww hw 2 rfl) (by decide) (by decide)) (g := (mkF m 189 #[vi p1, vi p2, vi p3, vi p4, vi (0 : Int32), vi (0 : Int32), vi (1 : Int32), vr va1, vr va2, vr va3, vr b4, vj (1 : Int64), .second] [xi p4, xi p3, xi p2, xi p1, xi (2 : Int32), xj ((0 : Int64) + own_h p3 2)])) rfl (by rw [hml]; rfl) (argsL := [xi (2 : Int32), xi p1, xi p2, xi p3, xi p4]) (rest := [xj ((0 : Int64) + own_h p3 2)]) (lenOf pd6 rfl) rfl (by show 2 * 0 + _ ≤ _; exact Nat.le_of_eq rfl) (hb hby at_189) (fun _ _ => ⟨rfl, e14, (by decide : 3 + 0 ≤ _), (by decide : 9 + 0 ≤ _)⟩)
  dsimp only [Pt.U, Pt.locs, Pt.cells, Pt.slots] at X15 l15 y15 z15 st15 hQ15
  subst l15 y15 z15
  obtain ⟨rfl, Nq15, e15⟩ := hQ15
  have N15 := Fr.app N14 Nq15
  obtain ⟨T16, X16, e16, st16⟩ := getS2 X15 hx hZ hown (host := "") (Or.inl (ww hw 7 rfl)) Via.refl e15 ((own_S_u1 G).ext O6.2) (g := (mkF m 198 #[vi p1, vi p2, vi p3, vi p4, vi (0 : Int32), vi (0 : Int32), vi (1 : Int32), vr va1, vr va2, vr va3, vr b4, vj (1 : Int64), .second] [xr b4])) rfl (hb hby at_198)
  obtain ⟨cq17, kq17, qa17, qb17, qc17⟩ := isOf hZ e16 X_b4_6
  obtain ⟨_, _, ⟨T17, L17, k17, n17⟩, -, X17, ⟨Lc17, hQ17, l17, y17, z17⟩, st17⟩ := X16.virtualBack hx (y := Y7) (z := Y7) hown (mvT hZ (ww hw 53 rfl)) (mvT hZ (ww hw 54 rfl)) (notFace_of_selects (args := #[]) (mvT hZ (ww hw 56 rfl))) (mvT hZ (ww hw 56 rfl)) (mvT hZ (ww hw 55 rfl)) (by decide) (backOf (W := 0) (own_count3 l Z a0 hw u0 u1 u2 u3 u4 G b4 bb5 kk5 ((0 : Int64) + own_h p3 0) ((0 : Int64) + own_h p3 1) ((0 : Int64) + own_h p3 2) ((0 : Int64) + own_h p3 3) h6 n0 O6 ⟨X_b4_6, F_b4_counts_6, Vn6, nb5, g_b4, g_bb5⟩ []) hZ (ww hw 57 rfl) (ww hw 13 rfl) (by decide) (by decide)) qa17 qc17 (g := (mkF m 201 #[vi p1, vi p2, vi p3, vi p4, vi (0 : Int32), vi (0 : Int32), vi (1 : Int32), vr va1, vr va2, vr va3, vr b4, vj (1 : Int64), .second] [xr u1, xr b4])) rfl (by rw [hml]; rfl) (Steps.refl _) (argsL := [xr u1]) (rest := []) (lenOf pd4 rfl) rfl (by show 2 * 0 + _ ≤ _; exact Nat.le_of_eq rfl) (hb hby at_201) (fun _ _ => ⟨rfl, e16, (by decide : 3 + 0 ≤ _), (by decide : 9 + 0 ≤ _)⟩)
  dsimp only [Pt.U, Pt.locs, Pt.cells, Pt.slots] at X17 l17 y17 z17 st17 hQ17
  subst l17 y17 z17
  obtain ⟨rfl, Nq17, e17⟩ := hQ17
  have N17 := Fr.app N15 Nq17
  obtain ⟨_, _, ⟨T18, L18, k18, n18⟩, -, X18, ⟨Lc18, hQ18, l18, y18, z18⟩, st18⟩ := Jvm.LawKit.callS X17 hx (y := Y9) hown (mvT hZ (ww hw 58 rfl)) (mvT hZ (ww hw 59 rfl)) (mvT hZ (ww hw 2 rfl)) (mvT hZ (ww hw 60 rfl)) (by decide) (backOf (W := 2) (own_c11_expected l Z a0 hw u0 u1 u2 u3 u4 G p1 p2 p3 p4 as6 as8 as11 h6 n0 O6 []) hZ (ww hw 60 rfl) (ww hw 2 rfl) (by decide) (by decide)) (g := (mkF m 209 #[vi p1, vi p2, vi p3, vi p4, vi (0 : Int32), vi (0 : Int32), vi (1 : Int32), vr va1, vr va2, vr va3, vr b4, vj (1 : Int64), .second] [xi p4, xi p3, xi p2, xi p1, xi (3 : Int32), xj ((0 : Int64) + own_h p3 3)])) rfl (by rw [hml]; rfl) (argsL := [xi (3 : Int32), xi p1, xi p2, xi p3, xi p4]) (rest := [xj ((0 : Int64) + own_h p3 3)]) (lenOf pd6 rfl) rfl (by show 2 * 0 + _ ≤ _; exact Nat.le_of_eq rfl) (hb hby at_209) (fun _ _ => ⟨rfl, e17, (by decide : 3 + 0 ≤ _), (by decide : 9 + 0 ≤ _)⟩)
  dsimp only [Pt.U, Pt.locs, Pt.cells, Pt.slots] at X18 l18 y18 z18 st18 hQ18
  subst l18 y18 z18
  obtain ⟨rfl, Nq18, e18⟩ := hQ18
  have N18 := Fr.app N17 Nq18
  obtain ⟨cq19, kq19, qa19, qb19, qc19⟩ := isOf hZ e18 X_b4_6
  obtain ⟨_, _, ⟨T19, L19, k19, n19⟩, -, X19, ⟨Lc19, hQ19, l19, y19, z19⟩, st19⟩ := X18.virtualBack hx (y := Y8) (z := Y8) hown (mvT hZ (ww hw 65 rfl)) (mvT hZ (ww hw 66 rfl)) (notFace_of_selects (args := #[]) (mvT hZ (ww hw 68 rfl))) (mvT hZ (ww hw 68 rfl)) (mvT hZ (ww hw 67 rfl)) (by decide) (backOf (W := 0) (own_records l Z a0 hw u0 u1 u2 u3 u4 G b4 bb5 kk5 ((0 : Int64) + own_h p3 0) ((0 : Int64) + own_h p3 1) ((0 : Int64) + own_h p3 2) ((0 : Int64) + own_h p3 3) h6 n0 O6 ⟨X_b4_6, F_b4_counts_6, Vn6, nb5, g_b4, g_bb5⟩ []) hZ (ww hw 69 rfl) (ww hw 13 rfl) (by decide) (by decide)) qa19 qc19 (g := (mkF m 218 #[vi p1, vi p2, vi p3, vi p4, vi (0 : Int32), vi (0 : Int32), vi (1 : Int32), vr va1, vr va2, vr va3, vr b4, vj (1 : Int64), .second] [xr b4])) rfl (by rw [hml]; rfl) (Steps.refl _) (argsL := []) (rest := []) (lenOf pd7 rfl) rfl (by show 2 * 0 + _ ≤ _; exact Nat.le_of_eq rfl) (hb hby at_218) (fun _ _ => ⟨rfl, e18, (by decide : 3 + 0 ≤ _), (by decide : 9 + 0 ≤ _)⟩)
  dsimp only [Pt.U, Pt.locs, Pt.cells, Pt.slots] at X19 l19 y19 z19 st19 hQ19
  subst l19 y19 z19
  obtain ⟨rfl, Nq19, e19⟩ := hQ19
  have N19 := Fr.app N18 Nq19
  obtain ⟨fs, hr, hrun, hended, hW, hsame⟩ := X19.leave (v := some (xi (1 : Int32))) (fun h => by rw [Bd.returns] at h; cases h)
  refine ⟨_, _, pre0 _ ?_, hrun, hended, _, _, rfl, ?_, ⟨_, rfl⟩, hW, hsame.mono (by decide) (by decide)⟩
  · show own_S p e below s₁ (mkF m 0 #[vi p1, vi p2, vi p3, vi p4, vu, vu, vu, vu, vu, vu, vu, vu, vu] []) _
    refine XS.iloadN X0.here hx rfl (hb hby at_0) rfl ?_
    show own_S p e below s₁ (mkF m 1 #[vi p1, vi p2, vi p3, vi p4, vu, vu, vu, vu, vu, vu, vu, vu, vu] [xi p4]) _
    refine XS.iconst X0.here hx rfl (hb hby at_1) ?_
    show own_S p e below s₁ (mkF m 2 #[vi p1, vi p2, vi p3, vi p4, vu, vu, vu, vu, vu, vu, vu, vu, vu] [xi (1 : Int32), xi p4]) _
    refine XS.iand X0.here hx rfl (hb hby at_2) rfl ?_
    show own_S p e below s₁ (mkF m 3 #[vi p1, vi p2, vi p3, vi p4, vu, vu, vu, vu, vu, vu, vu, vu, vu] [xi (p4 &&& (1 : Int32))]) _
    refine castTop (show (mkF m 3 #[vi p1, vi p2, vi p3, vi p4, vu, vu, vu, vu, vu, vu, vu, vu, vu] [xi (p4 &&& (1 : Int32))]) = (mkF m 3 #[vi p1, vi p2, vi p3, vi p4, vu, vu, vu, vu, vu, vu, vu, vu, vu] [xi (0 : Int32)]) from by rw [as6]) ?_
    show own_S p e below s₁ (mkF m 3 #[vi p1, vi p2, vi p3, vi p4, vu, vu, vu, vu, vu, vu, vu, vu, vu] [xi (0 : Int32)]) _
    refine XS.ifYes X0.here hx rfl (pc0 := 3) (pc' := 10) rfl (hb hby at_3) rfl (by decide) (by decide) (by decide) ?_
    show own_S p e below s₁ (mkF m 10 #[vi p1, vi p2, vi p3, vi p4, vu, vu, vu, vu, vu, vu, vu, vu, vu] []) _
    refine XS.iconst X0.here hx rfl (hb hby at_10) ?_
    show own_S p e below s₁ (mkF m 11 #[vi p1, vi p2, vi p3, vi p4, vu, vu, vu, vu, vu, vu, vu, vu, vu] [xi (0 : Int32)]) _
    refine XS.istore X0.here hx rfl (hb hby at_11) rfl (l' := #[vi p1, vi p2, vi p3, vi p4, vi (0 : Int32), vu, vu, vu, vu, vu, vu, vu, vu]) rfl ?_
    show own_S p e below s₁ (mkF m 13 #[vi p1, vi p2, vi p3, vi p4, vi (0 : Int32), vu, vu, vu, vu, vu, vu, vu, vu] []) _
    refine XS.iloadN X0.here hx rfl (hb hby at_13) rfl ?_
    show own_S p e below s₁ (mkF m 14 #[vi p1, vi p2, vi p3, vi p4, vi (0 : Int32), vu, vu, vu, vu, vu, vu, vu, vu] [xi p4]) _
    refine XS.iconst X0.here hx rfl (hb hby at_14) ?_
    show own_S p e below s₁ (mkF m 15 #[vi p1, vi p2, vi p3, vi p4, vi (0 : Int32), vu, vu, vu, vu, vu, vu, vu, vu] [xi (2 : Int32), xi p4]) _
    refine XS.iand X0.here hx rfl (hb hby at_15) rfl ?_
    show own_S p e below s₁ (mkF m 16 #[vi p1, vi p2, vi p3, vi p4, vi (0 : Int32), vu, vu, vu, vu, vu, vu, vu, vu] [xi (p4 &&& (2 : Int32))]) _
    refine castTop (show (mkF m 16 #[vi p1, vi p2, vi p3, vi p4, vi (0 : Int32), vu, vu, vu, vu, vu, vu, vu, vu] [xi (p4 &&& (2 : Int32))]) = (mkF m 16 #[vi p1, vi p2, vi p3, vi p4, vi (0 : Int32), vu, vu, vu, vu, vu, vu, vu, vu] [xi (0 : Int32)]) from by rw [as8]) ?_
    show own_S p e below s₁ (mkF m 16 #[vi p1, vi p2, vi p3, vi p4, vi (0 : Int32), vu, vu, vu, vu, vu, vu, vu, vu] [xi (0 : Int32)]) _
    refine XS.ifYes X0.here hx rfl (pc0 := 16) (pc' := 23) rfl (hb hby at_16) rfl (by decide) (by decide) (by decide) ?_
    show own_S p e below s₁ (mkF m 23 #[vi p1, vi p2, vi p3, vi p4, vi (0 : Int32), vu, vu, vu, vu, vu, vu, vu, vu] []) _
    refine XS.iconst X0.here hx rfl (hb hby at_23) ?_
    show own_S p e below s₁ (mkF m 24 #[vi p1, vi p2, vi p3, vi p4, vi (0 : Int32), vu, vu, vu, vu, vu, vu, vu, vu] [xi (0 : Int32)]) _
    refine XS.istore X0.here hx rfl (hb hby at_24) rfl (l' := #[vi p1, vi p2, vi p3, vi p4, vi (0 : Int32), vi (0 : Int32), vu, vu, vu, vu, vu, vu, vu]) rfl ?_
    show own_S p e below s₁ (mkF m 26 #[vi p1, vi p2, vi p3, vi p4, vi (0 : Int32), vi (0 : Int32), vu, vu, vu, vu, vu, vu, vu] []) _
    refine XS.iloadN X0.here hx rfl (hb hby at_26) rfl ?_
    show own_S p e below s₁ (mkF m 27 #[vi p1, vi p2, vi p3, vi p4, vi (0 : Int32), vi (0 : Int32), vu, vu, vu, vu, vu, vu, vu] [xi p4]) _
    refine XS.iconst X0.here hx rfl (hb hby at_27) ?_
    show own_S p e below s₁ (mkF m 28 #[vi p1, vi p2, vi p3, vi p4, vi (0 : Int32), vi (0 : Int32), vu, vu, vu, vu, vu, vu, vu] [xi (4 : Int32), xi p4]) _
    refine XS.iand X0.here hx rfl (hb hby at_28) rfl ?_
    show own_S p e below s₁ (mkF m 29 #[vi p1, vi p2, vi p3, vi p4, vi (0 : Int32), vi (0 : Int32), vu, vu, vu, vu, vu, vu, vu] [xi (p4 &&& (4 : Int32))]) _
    refine castTop (show (mkF m 29 #[vi p1, vi p2, vi p3, vi p4, vi (0 : Int32), vi (0 : Int32), vu, vu, vu, vu, vu, vu, vu] [xi (p4 &&& (4 : Int32))]) = (mkF m 29 #[vi p1, vi p2, vi p3, vi p4, vi (0 : Int32), vi (0 : Int32), vu, vu, vu, vu, vu, vu, vu] [xi (4 : Int32)]) from by rw [as11]) ?_
    show own_S p e below s₁ (mkF m 29 #[vi p1, vi p2, vi p3, vi p4, vi (0 : Int32), vi (0 : Int32), vu, vu, vu, vu, vu, vu, vu] [xi (4 : Int32)]) _
    refine XS.ifNo X0.here hx rfl (hb hby at_29) rfl (by decide) ?_
    show own_S p e below s₁ (mkF m 32 #[vi p1, vi p2, vi p3, vi p4, vi (0 : Int32), vi (0 : Int32), vu, vu, vu, vu, vu, vu, vu] []) _
    refine XS.iconst X0.here hx rfl (hb hby at_32) ?_
    show own_S p e below s₁ (mkF m 33 #[vi p1, vi p2, vi p3, vi p4, vi (0 : Int32), vi (0 : Int32), vu, vu, vu, vu, vu, vu, vu] [xi (1 : Int32)]) _
    refine XS.goto X0.here hx rfl (pc0 := 33) (pc' := 37) rfl (hb hby at_33) (by decide) (by decide) ?_
    show own_S p e below s₁ (mkF m 37 #[vi p1, vi p2, vi p3, vi p4, vi (0 : Int32), vi (0 : Int32), vu, vu, vu, vu, vu, vu, vu] [xi (1 : Int32)]) _
    refine XS.istore X0.here hx rfl (hb hby at_37) rfl (l' := #[vi p1, vi p2, vi p3, vi p4, vi (0 : Int32), vi (0 : Int32), vi (1 : Int32), vu, vu, vu, vu, vu, vu]) rfl ?_
    show own_S p e below s₁ (mkF m 39 #[vi p1, vi p2, vi p3, vi p4, vi (0 : Int32), vi (0 : Int32), vi (1 : Int32), vu, vu, vu, vu, vu, vu] []) _
    refine XS.iloadN X0.here hx rfl (hb hby at_39) rfl ?_
    show own_S p e below s₁ (mkF m 40 #[vi p1, vi p2, vi p3, vi p4, vi (0 : Int32), vi (0 : Int32), vi (1 : Int32), vu, vu, vu, vu, vu, vu] [xi p1]) _
    refine st1 _ ?_
    show own_S p e below T1 (mkF m 43 #[vi p1, vi p2, vi p3, vi p4, vi (0 : Int32), vi (0 : Int32), vi (1 : Int32), vu, vu, vu, vu, vu, vu] [xr va1]) _
    refine XS.astore X1.here hx rfl (hb hby at_43) rfl rfl (l' := #[vi p1, vi p2, vi p3, vi p4, vi (0 : Int32), vi (0 : Int32), vi (1 : Int32), vr va1, vu, vu, vu, vu, vu]) rfl ?_
    show own_S p e below T1 (mkF m 45 #[vi p1, vi p2, vi p3, vi p4, vi (0 : Int32), vi (0 : Int32), vi (1 : Int32), vr va1, vu, vu, vu, vu, vu] []) _
    refine XS.iloadN X1.here hx rfl (hb hby at_45) rfl ?_
    show own_S p e below T1 (mkF m 46 #[vi p1, vi p2, vi p3, vi p4, vi (0 : Int32), vi (0 : Int32), vi (1 : Int32), vr va1, vu, vu, vu, vu, vu] [xi p2]) _
    refine st2 _ ?_
    show own_S p e below T2 (mkF m 49 #[vi p1, vi p2, vi p3, vi p4, vi (0 : Int32), vi (0 : Int32), vi (1 : Int32), vr va1, vu, vu, vu, vu, vu] [xr va2]) _
    refine XS.astore X2.here hx rfl (hb hby at_49) rfl rfl (l' := #[vi p1, vi p2, vi p3, vi p4, vi (0 : Int32), vi (0 : Int32), vi (1 : Int32), vr va1, vr va2, vu, vu, vu, vu]) rfl ?_
    show own_S p e below T2 (mkF m 51 #[vi p1, vi p2, vi p3, vi p4, vi (0 : Int32), vi (0 : Int32), vi (1 : Int32), vr va1, vr va2, vu, vu, vu, vu] []) _
    refine XS.iloadN X2.here hx rfl (hb hby at_51) rfl ?_
    show own_S p e below T2 (mkF m 52 #[vi p1, vi p2, vi p3, vi p4, vi (0 : Int32), vi (0 : Int32), vi (1 : Int32), vr va1, vr va2, vu, vu, vu, vu] [xi p3]) _
    refine st3 _ ?_
    show own_S p e below T3 (mkF m 55 #[vi p1, vi p2, vi p3, vi p4, vi (0 : Int32), vi (0 : Int32), vi (1 : Int32), vr va1, vr va2, vu, vu, vu, vu] [xr va3]) _
    refine XS.astore X3.here hx rfl (hb hby at_55) rfl rfl (l' := #[vi p1, vi p2, vi p3, vi p4, vi (0 : Int32), vi (0 : Int32), vi (1 : Int32), vr va1, vr va2, vr va3, vu, vu, vu]) rfl ?_
    show own_S p e below T3 (mkF m 57 #[vi p1, vi p2, vi p3, vi p4, vi (0 : Int32), vi (0 : Int32), vi (1 : Int32), vr va1, vr va2, vr va3, vu, vu, vu] []) _
    refine st4 _ ?_
    show own_S p e below T4 (mkF m 60 #[vi p1, vi p2, vi p3, vi p4, vi (0 : Int32), vi (0 : Int32), vi (1 : Int32), vr va1, vr va2, vr va3, vu, vu, vu] [xr b4]) _
    refine XS.dup X4.here hx rfl (hb hby at_60) rfl rfl ?_
    show own_S p e below T4 (mkF m 61 #[vi p1, vi p2, vi p3, vi p4, vi (0 : Int32), vi (0 : Int32), vi (1 : Int32), vr va1, vr va2, vr va3, vu, vu, vu] [xr b4, xr b4]) _
    refine st5.trans ?_
    show own_S p e below T5 (mkF m 64 #[vi p1, vi p2, vi p3, vi p4, vi (0 : Int32), vi (0 : Int32), vi (1 : Int32), vr va1, vr va2, vr va3, vu, vu, vu] [xr b4]) _
    refine XS.astore X5.here hx rfl (hb hby at_64) rfl rfl (l' := #[vi p1, vi p2, vi p3, vi p4, vi (0 : Int32), vi (0 : Int32), vi (1 : Int32), vr va1, vr va2, vr va3, vr b4, vu, vu]) rfl ?_
    show own_S p e below T5 (mkF m 66 #[vi p1, vi p2, vi p3, vi p4, vi (0 : Int32), vi (0 : Int32), vi (1 : Int32), vr va1, vr va2, vr va3, vr b4, vu, vu] []) _
    refine XS.iload X5.here hx rfl (hb hby at_66) rfl ?_
    show own_S p e below T5 (mkF m 68 #[vi p1, vi p2, vi p3, vi p4, vi (0 : Int32), vi (0 : Int32), vi (1 : Int32), vr va1, vr va2, vr va3, vr b4, vu, vu] [xi (0 : Int32)]) _
    refine XS.ifYes X5.here hx rfl (pc0 := 68) (pc' := 78) rfl (hb hby at_68) rfl (by decide) (by decide) (by decide) ?_
    show own_S p e below T5 (mkF m 78 #[vi p1, vi p2, vi p3, vi p4, vi (0 : Int32), vi (0 : Int32), vi (1 : Int32), vr va1, vr va2, vr va3, vr b4, vu, vu] []) _
    refine XS.iload X5.here hx rfl (hb hby at_78) rfl ?_
    show own_S p e below T5 (mkF m 80 #[vi p1, vi p2, vi p3, vi p4, vi (0 : Int32), vi (0 : Int32), vi (1 : Int32), vr va1, vr va2, vr va3, vr b4, vu, vu] [xi (0 : Int32)]) _
    refine XS.ifYes X5.here hx rfl (pc0 := 80) (pc' := 90) rfl (hb hby at_80) rfl (by decide) (by decide) (by decide) ?_
    show own_S p e below T5 (mkF m 90 #[vi p1, vi p2, vi p3, vi p4, vi (0 : Int32), vi (0 : Int32), vi (1 : Int32), vr va1, vr va2, vr va3, vr b4, vu, vu] []) _
    refine XS.iload X5.here hx rfl (hb hby at_90) rfl ?_
    show own_S p e below T5 (mkF m 92 #[vi p1, vi p2, vi p3, vi p4, vi (0 : Int32), vi (0 : Int32), vi (1 : Int32), vr va1, vr va2, vr va3, vr b4, vu, vu] [xi (1 : Int32)]) _
    refine XS.ifNo X5.here hx rfl (hb hby at_92) rfl (by decide) ?_
    show own_S p e below T5 (mkF m 95 #[vi p1, vi p2, vi p3, vi p4, vi (0 : Int32), vi (0 : Int32), vi (1 : Int32), vr va1, vr va2, vr va3, vr b4, vu, vu] []) _
    refine XS.aload X5.here hx rfl (hb hby at_95) rfl rfl ?_
    show own_S p e below T5 (mkF m 97 #[vi p1, vi p2, vi p3, vi p4, vi (0 : Int32), vi (0 : Int32), vi (1 : Int32), vr va1, vr va2, vr va3, vr b4, vu, vu] [xr b4]) _
    refine XS.aload X5.here hx rfl (hb hby at_97) rfl rfl ?_
    show own_S p e below T5 (mkF m 99 #[vi p1, vi p2, vi p3, vi p4, vi (0 : Int32), vi (0 : Int32), vi (1 : Int32), vr va1, vr va2, vr va3, vr b4, vu, vu] [xr va3, xr b4]) _
    refine st6.trans ?_
    show own_S p e below T6 (mkF m 102 #[vi p1, vi p2, vi p3, vi p4, vi (0 : Int32), vi (0 : Int32), vi (1 : Int32), vr va1, vr va2, vr va3, vr b4, vu, vu] []) _
    refine XS.iload X6.here hx rfl (hb hby at_102) rfl ?_
    show own_S p e below T6 (mkF m 104 #[vi p1, vi p2, vi p3, vi p4, vi (0 : Int32), vi (0 : Int32), vi (1 : Int32), vr va1, vr va2, vr va3, vr b4, vu, vu] [xi (0 : Int32)]) _
    refine XS.ifYes X6.here hx rfl (pc0 := 104) (pc' := 111) rfl (hb hby at_104) rfl (by decide) (by decide) (by decide) ?_
    show own_S p e below T6 (mkF m 111 #[vi p1, vi p2, vi p3, vi p4, vi (0 : Int32), vi (0 : Int32), vi (1 : Int32), vr va1, vr va2, vr va3, vr b4, vu, vu] []) _
    refine XS.lconst X6.here hx rfl (hb hby at_111) ?_
    show own_S p e below T6 (mkF m 112 #[vi p1, vi p2, vi p3, vi p4, vi (0 : Int32), vi (0 : Int32), vi (1 : Int32), vr va1, vr va2, vr va3, vr b4, vu, vu] [xj (0 : Int64)]) _
    refine XS.iload X6.here hx rfl (hb hby at_112) rfl ?_
    show own_S p e below T6 (mkF m 114 #[vi p1, vi p2, vi p3, vi p4, vi (0 : Int32), vi (0 : Int32), vi (1 : Int32), vr va1, vr va2, vr va3, vr b4, vu, vu] [xi (0 : Int32), xj (0 : Int64)]) _
    refine XS.ifYes X6.here hx rfl (pc0 := 114) (pc' := 121) rfl (hb hby at_114) rfl (by decide) (by decide) (by decide) ?_
    show own_S p e below T6 (mkF m 121 #[vi p1, vi p2, vi p3, vi p4, vi (0 : Int32), vi (0 : Int32), vi (1 : Int32), vr va1, vr va2, vr va3, vr b4, vu, vu] [xj (0 : Int64)]) _
    refine XS.lconst X6.here hx rfl (hb hby at_121) ?_
    show own_S p e below T6 (mkF m 122 #[vi p1, vi p2, vi p3, vi p4, vi (0 : Int32), vi (0 : Int32), vi (1 : Int32), vr va1, vr va2, vr va3, vr b4, vu, vu] [xj (0 : Int64), xj (0 : Int64)]) _
    refine XS.ladd X6.here hx rfl (hb hby at_122) rfl ?_
    show own_S p e below T6 (mkF m 123 #[vi p1, vi p2, vi p3, vi p4, vi (0 : Int32), vi (0 : Int32), vi (1 : Int32), vr va1, vr va2, vr va3, vr b4, vu, vu] [xj ((0 : Int64) + (0 : Int64))]) _
    refine castTop (show (mkF m 123 #[vi p1, vi p2, vi p3, vi p4, vi (0 : Int32), vi (0 : Int32), vi (1 : Int32), vr va1, vr va2, vr va3, vr b4, vu, vu] [xj ((0 : Int64) + (0 : Int64))]) = (mkF m 123 #[vi p1, vi p2, vi p3, vi p4, vi (0 : Int32), vi (0 : Int32), vi (1 : Int32), vr va1, vr va2, vr va3, vr b4, vu, vu] [xj (0 : Int64)]) from by rw [show ((0 : Int64) + (0 : Int64)) = (0 : Int64) from by decide]) ?_
    show own_S p e below T6 (mkF m 123 #[vi p1, vi p2, vi p3, vi p4, vi (0 : Int32), vi (0 : Int32), vi (1 : Int32), vr va1, vr va2, vr va3, vr b4, vu, vu] [xj (0 : Int64)]) _
    refine XS.iload X6.here hx rfl (hb hby at_123) rfl ?_
    show own_S p e below T6 (mkF m 125 #[vi p1, vi p2, vi p3, vi p4, vi (0 : Int32), vi (0 : Int32), vi (1 : Int32), vr va1, vr va2, vr va3, vr b4, vu, vu] [xi (1 : Int32), xj (0 : Int64)]) _
    refine XS.ifNo X6.here hx rfl (hb hby at_125) rfl (by decide) ?_
    show own_S p e below T6 (mkF m 128 #[vi p1, vi p2, vi p3, vi p4, vi (0 : Int32), vi (0 : Int32), vi (1 : Int32), vr va1, vr va2, vr va3, vr b4, vu, vu] [xj (0 : Int64)]) _
    refine XS.lconst X6.here hx rfl (hb hby at_128) ?_
    show own_S p e below T6 (mkF m 129 #[vi p1, vi p2, vi p3, vi p4, vi (0 : Int32), vi (0 : Int32), vi (1 : Int32), vr va1, vr va2, vr va3, vr b4, vu, vu] [xj (1 : Int64), xj (0 : Int64)]) _
    refine XS.goto X6.here hx rfl (pc0 := 129) (pc' := 133) rfl (hb hby at_129) (by decide) (by decide) ?_
    show own_S p e below T6 (mkF m 133 #[vi p1, vi p2, vi p3, vi p4, vi (0 : Int32), vi (0 : Int32), vi (1 : Int32), vr va1, vr va2, vr va3, vr b4, vu, vu] [xj (1 : Int64), xj (0 : Int64)]) _
    refine XS.ladd X6.here hx rfl (hb hby at_133) rfl ?_
    show own_S p e below T6 (mkF m 134 #[vi p1, vi p2, vi p3, vi p4, vi (0 : Int32), vi (0 : Int32), vi (1 : Int32), vr va1, vr va2, vr va3, vr b4, vu, vu] [xj ((0 : Int64) + (1 : Int64))]) _
    refine castTop (show (mkF m 134 #[vi p1, vi p2, vi p3, vi p4, vi (0 : Int32), vi (0 : Int32), vi (1 : Int32), vr va1, vr va2, vr va3, vr b4, vu, vu] [xj ((0 : Int64) + (1 : Int64))]) = (mkF m 134 #[vi p1, vi p2, vi p3, vi p4, vi (0 : Int32), vi (0 : Int32), vi (1 : Int32), vr va1, vr va2, vr va3, vr b4, vu, vu] [xj (1 : Int64)]) from by rw [show ((0 : Int64) + (1 : Int64)) = (1 : Int64) from by decide]) ?_
    show own_S p e below T6 (mkF m 134 #[vi p1, vi p2, vi p3, vi p4, vi (0 : Int32), vi (0 : Int32), vi (1 : Int32), vr va1, vr va2, vr va3, vr b4, vu, vu] [xj (1 : Int64)]) _
    refine XS.lstore X6.here hx rfl (hb hby at_134) rfl (l' := #[vi p1, vi p2, vi p3, vi p4, vi (0 : Int32), vi (0 : Int32), vi (1 : Int32), vr va1, vr va2, vr va3, vr b4, vj (1 : Int64), .second]) rfl ?_
    show own_S p e below T6 (mkF m 136 #[vi p1, vi p2, vi p3, vi p4, vi (0 : Int32), vi (0 : Int32), vi (1 : Int32), vr va1, vr va2, vr va3, vr b4, vj (1 : Int64), .second] []) _
    refine XS.aload X6.here hx rfl (hb hby at_136) rfl rfl ?_
    show own_S p e below T6 (mkF m 138 #[vi p1, vi p2, vi p3, vi p4, vi (0 : Int32), vi (0 : Int32), vi (1 : Int32), vr va1, vr va2, vr va3, vr b4, vj (1 : Int64), .second] [xr b4]) _
    refine st7 _ ?_
    show own_S p e below T7 (mkF m 141 #[vi p1, vi p2, vi p3, vi p4, vi (0 : Int32), vi (0 : Int32), vi (1 : Int32), vr va1, vr va2, vr va3, vr b4, vj (1 : Int64), .second] [xr u0, xr b4]) _
    refine st8.trans ?_
    show own_S p e below T8 (mkF m 144 #[vi p1, vi p2, vi p3, vi p4, vi (0 : Int32), vi (0 : Int32), vi (1 : Int32), vr va1, vr va2, vr va3, vr b4, vj (1 : Int64), .second] [xj ((0 : Int64) + own_h p3 0)]) _
    refine XS.iconst X8.here hx rfl (hb hby at_144) ?_
    show own_S p e below T8 (mkF m 145 #[vi p1, vi p2, vi p3, vi p4, vi (0 : Int32), vi (0 : Int32), vi (1 : Int32), vr va1, vr va2, vr va3, vr b4, vj (1 : Int64), .second] [xi (0 : Int32), xj ((0 : Int64) + own_h p3 0)]) _
    refine XS.iloadN X8.here hx rfl (hb hby at_145) rfl ?_
    show own_S p e below T8 (mkF m 146 #[vi p1, vi p2, vi p3, vi p4, vi (0 : Int32), vi (0 : Int32), vi (1 : Int32), vr va1, vr va2, vr va3, vr b4, vj (1 : Int64), .second] [xi p1, xi (0 : Int32), xj ((0 : Int64) + own_h p3 0)]) _
    refine XS.iloadN X8.here hx rfl (hb hby at_146) rfl ?_
    show own_S p e below T8 (mkF m 147 #[vi p1, vi p2, vi p3, vi p4, vi (0 : Int32), vi (0 : Int32), vi (1 : Int32), vr va1, vr va2, vr va3, vr b4, vj (1 : Int64), .second] [xi p2, xi p1, xi (0 : Int32), xj ((0 : Int64) + own_h p3 0)]) _
    refine XS.iloadN X8.here hx rfl (hb hby at_147) rfl ?_
    show own_S p e below T8 (mkF m 148 #[vi p1, vi p2, vi p3, vi p4, vi (0 : Int32), vi (0 : Int32), vi (1 : Int32), vr va1, vr va2, vr va3, vr b4, vj (1 : Int64), .second] [xi p3, xi p2, xi p1, xi (0 : Int32), xj ((0 : Int64) + own_h p3 0)]) _
    refine XS.iloadN X8.here hx rfl (hb hby at_148) rfl ?_
    show own_S p e below T8 (mkF m 149 #[vi p1, vi p2, vi p3, vi p4, vi (0 : Int32), vi (0 : Int32), vi (1 : Int32), vr va1, vr va2, vr va3, vr b4, vj (1 : Int64), .second] [xi p4, xi p3, xi p2, xi p1, xi (0 : Int32), xj ((0 : Int64) + own_h p3 0)]) _
    refine st9 _ ?_
    show own_S p e below T9 (mkF m 152 #[vi p1, vi p2, vi p3, vi p4, vi (0 : Int32), vi (0 : Int32), vi (1 : Int32), vr va1, vr va2, vr va3, vr b4, vj (1 : Int64), .second] [xj ((0 : Int64) + (own_h p3 (0 : Int32))), xj ((0 : Int64) + own_h p3 0)]) _
    refine XS.lcmp X9.here hx rfl (hb hby at_152) rfl ?_
    show own_S p e below T9 (mkF m 153 #[vi p1, vi p2, vi p3, vi p4, vi (0 : Int32), vi (0 : Int32), vi (1 : Int32), vr va1, vr va2, vr va3, vr b4, vj (1 : Int64), .second] [xi (lcmpW ((0 : Int64) + own_h p3 0) ((0 : Int64) + (own_h p3 (0 : Int32))))]) _
    show own_S p e below T9 (mkF m 153 #[vi p1, vi p2, vi p3, vi p4, vi (0 : Int32), vi (0 : Int32), vi (1 : Int32), vr va1, vr va2, vr va3, vr b4, vj (1 : Int64), .second] [xi (lcmpW ((0 : Int64) + own_h p3 0) ((0 : Int64) + (own_h p3 (0 : Int32))))]) _
    refine XS.ifNo X9.here hx rfl (hb hby at_153) rfl (by simp [lcmpW, ifCond.holds, Int64.zero_add, Int64.add_zero]) ?_
    show own_S p e below T9 (mkF m 156 #[vi p1, vi p2, vi p3, vi p4, vi (0 : Int32), vi (0 : Int32), vi (1 : Int32), vr va1, vr va2, vr va3, vr b4, vj (1 : Int64), .second] []) _
    refine XS.aload X9.here hx rfl (hb hby at_156) rfl rfl ?_
    show own_S p e below T9 (mkF m 158 #[vi p1, vi p2, vi p3, vi p4, vi (0 : Int32), vi (0 : Int32), vi (1 : Int32), vr va1, vr va2, vr va3, vr b4, vj (1 : Int64), .second] [xr b4]) _
    refine st10 _ ?_
    show own_S p e below T10 (mkF m 161 #[vi p1, vi p2, vi p3, vi p4, vi (0 : Int32), vi (0 : Int32), vi (1 : Int32), vr va1, vr va2, vr va3, vr b4, vj (1 : Int64), .second] [xr u4, xr b4]) _
    refine st11.trans ?_
    show own_S p e below T11 (mkF m 164 #[vi p1, vi p2, vi p3, vi p4, vi (0 : Int32), vi (0 : Int32), vi (1 : Int32), vr va1, vr va2, vr va3, vr b4, vj (1 : Int64), .second] [xj ((0 : Int64) + own_h p3 1)]) _
    refine XS.iconst X11.here hx rfl (hb hby at_164) ?_
    show own_S p e below T11 (mkF m 165 #[vi p1, vi p2, vi p3, vi p4, vi (0 : Int32), vi (0 : Int32), vi (1 : Int32), vr va1, vr va2, vr va3, vr b4, vj (1 : Int64), .second] [xi (1 : Int32), xj ((0 : Int64) + own_h p3 1)]) _
    refine XS.iloadN X11.here hx rfl (hb hby at_165) rfl ?_
    show own_S p e below T11 (mkF m 166 #[vi p1, vi p2, vi p3, vi p4, vi (0 : Int32), vi (0 : Int32), vi (1 : Int32), vr va1, vr va2, vr va3, vr b4, vj (1 : Int64), .second] [xi p1, xi (1 : Int32), xj ((0 : Int64) + own_h p3 1)]) _
    refine XS.iloadN X11.here hx rfl (hb hby at_166) rfl ?_
    show own_S p e below T11 (mkF m 167 #[vi p1, vi p2, vi p3, vi p4, vi (0 : Int32), vi (0 : Int32), vi (1 : Int32), vr va1, vr va2, vr va3, vr b4, vj (1 : Int64), .second] [xi p2, xi p1, xi (1 : Int32), xj ((0 : Int64) + own_h p3 1)]) _
    refine XS.iloadN X11.here hx rfl (hb hby at_167) rfl ?_
    show own_S p e below T11 (mkF m 168 #[vi p1, vi p2, vi p3, vi p4, vi (0 : Int32), vi (0 : Int32), vi (1 : Int32), vr va1, vr va2, vr va3, vr b4, vj (1 : Int64), .second] [xi p3, xi p2, xi p1, xi (1 : Int32), xj ((0 : Int64) + own_h p3 1)]) _
    refine XS.iloadN X11.here hx rfl (hb hby at_168) rfl ?_
    show own_S p e below T11 (mkF m 169 #[vi p1, vi p2, vi p3, vi p4, vi (0 : Int32), vi (0 : Int32), vi (1 : Int32), vr va1, vr va2, vr va3, vr b4, vj (1 : Int64), .second] [xi p4, xi p3, xi p2, xi p1, xi (1 : Int32), xj ((0 : Int64) + own_h p3 1)]) _
    refine st12 _ ?_
    show own_S p e below T12 (mkF m 172 #[vi p1, vi p2, vi p3, vi p4, vi (0 : Int32), vi (0 : Int32), vi (1 : Int32), vr va1, vr va2, vr va3, vr b4, vj (1 : Int64), .second] [xj ((0 : Int64) + (own_h p3 (1 : Int32))), xj ((0 : Int64) + own_h p3 1)]) _
    refine XS.lcmp X12.here hx rfl (hb hby at_172) rfl ?_
    show own_S p e below T12 (mkF m 173 #[vi p1, vi p2, vi p3, vi p4, vi (0 : Int32), vi (0 : Int32), vi (1 : Int32), vr va1, vr va2, vr va3, vr b4, vj (1 : Int64), .second] [xi (lcmpW ((0 : Int64) + own_h p3 1) ((0 : Int64) + (own_h p3 (1 : Int32))))]) _
    show own_S p e below T12 (mkF m 173 #[vi p1, vi p2, vi p3, vi p4, vi (0 : Int32), vi (0 : Int32), vi (1 : Int32), vr va1, vr va2, vr va3, vr b4, vj (1 : Int64), .second] [xi (lcmpW ((0 : Int64) + own_h p3 1) ((0 : Int64) + (own_h p3 (1 : Int32))))]) _
    refine XS.ifNo X12.here hx rfl (hb hby at_173) rfl (by simp [lcmpW, ifCond.holds, Int64.zero_add, Int64.add_zero]) ?_
    show own_S p e below T12 (mkF m 176 #[vi p1, vi p2, vi p3, vi p4, vi (0 : Int32), vi (0 : Int32), vi (1 : Int32), vr va1, vr va2, vr va3, vr b4, vj (1 : Int64), .second] []) _
    refine XS.aload X12.here hx rfl (hb hby at_176) rfl rfl ?_
    show own_S p e below T12 (mkF m 178 #[vi p1, vi p2, vi p3, vi p4, vi (0 : Int32), vi (0 : Int32), vi (1 : Int32), vr va1, vr va2, vr va3, vr b4, vj (1 : Int64), .second] [xr b4]) _
    refine st13 _ ?_
    show own_S p e below T13 (mkF m 181 #[vi p1, vi p2, vi p3, vi p4, vi (0 : Int32), vi (0 : Int32), vi (1 : Int32), vr va1, vr va2, vr va3, vr b4, vj (1 : Int64), .second] [xr u2, xr b4]) _
    refine st14.trans ?_
    show own_S p e below T14 (mkF m 184 #[vi p1, vi p2, vi p3, vi p4, vi (0 : Int32), vi (0 : Int32), vi (1 : Int32), vr va1, vr va2, vr va3, vr b4, vj (1 : Int64), .second] [xj ((0 : Int64) + own_h p3 2)]) _
    refine XS.iconst X14.here hx rfl (hb hby at_184) ?_
    show own_S p e below T14 (mkF m 185 #[vi p1, vi p2, vi p3, vi p4, vi (0 : Int32), vi (0 : Int32), vi (1 : Int32), vr va1, vr va2, vr va3, vr b4, vj (1 : Int64), .second] [xi (2 : Int32), xj ((0 : Int64) + own_h p3 2)]) _
    refine XS.iloadN X14.here hx rfl (hb hby at_185) rfl ?_
    show own_S p e below T14 (mkF m 186 #[vi p1, vi p2, vi p3, vi p4, vi (0 : Int32), vi (0 : Int32), vi (1 : Int32), vr va1, vr va2, vr va3, vr b4, vj (1 : Int64), .second] [xi p1, xi (2 : Int32), xj ((0 : Int64) + own_h p3 2)]) _
    refine XS.iloadN X14.here hx rfl (hb hby at_186) rfl ?_
    show own_S p e below T14 (mkF m 187 #[vi p1, vi p2, vi p3, vi p4, vi (0 : Int32), vi (0 : Int32), vi (1 : Int32), vr va1, vr va2, vr va3, vr b4, vj (1 : Int64), .second] [xi p2, xi p1, xi (2 : Int32), xj ((0 : Int64) + own_h p3 2)]) _
    refine XS.iloadN X14.here hx rfl (hb hby at_187) rfl ?_
    show own_S p e below T14 (mkF m 188 #[vi p1, vi p2, vi p3, vi p4, vi (0 : Int32), vi (0 : Int32), vi (1 : Int32), vr va1, vr va2, vr va3, vr b4, vj (1 : Int64), .second] [xi p3, xi p2, xi p1, xi (2 : Int32), xj ((0 : Int64) + own_h p3 2)]) _
    refine XS.iloadN X14.here hx rfl (hb hby at_188) rfl ?_
    show own_S p e below T14 (mkF m 189 #[vi p1, vi p2, vi p3, vi p4, vi (0 : Int32), vi (0 : Int32), vi (1 : Int32), vr va1, vr va2, vr va3, vr b4, vj (1 : Int64), .second] [xi p4, xi p3, xi p2, xi p1, xi (2 : Int32), xj ((0 : Int64) + own_h p3 2)]) _
    refine st15 _ ?_
    show own_S p e below T15 (mkF m 192 #[vi p1, vi p2, vi p3, vi p4, vi (0 : Int32), vi (0 : Int32), vi (1 : Int32), vr va1, vr va2, vr va3, vr b4, vj (1 : Int64), .second] [xj ((0 : Int64) + (own_h p3 (2 : Int32))), xj ((0 : Int64) + own_h p3 2)]) _
    refine XS.lcmp X15.here hx rfl (hb hby at_192) rfl ?_
    show own_S p e below T15 (mkF m 193 #[vi p1, vi p2, vi p3, vi p4, vi (0 : Int32), vi (0 : Int32), vi (1 : Int32), vr va1, vr va2, vr va3, vr b4, vj (1 : Int64), .second] [xi (lcmpW ((0 : Int64) + own_h p3 2) ((0 : Int64) + (own_h p3 (2 : Int32))))]) _
    show own_S p e below T15 (mkF m 193 #[vi p1, vi p2, vi p3, vi p4, vi (0 : Int32), vi (0 : Int32), vi (1 : Int32), vr va1, vr va2, vr va3, vr b4, vj (1 : Int64), .second] [xi (lcmpW ((0 : Int64) + own_h p3 2) ((0 : Int64) + (own_h p3 (2 : Int32))))]) _
    refine XS.ifNo X15.here hx rfl (hb hby at_193) rfl (by simp [lcmpW, ifCond.holds, Int64.zero_add, Int64.add_zero]) ?_
    show own_S p e below T15 (mkF m 196 #[vi p1, vi p2, vi p3, vi p4, vi (0 : Int32), vi (0 : Int32), vi (1 : Int32), vr va1, vr va2, vr va3, vr b4, vj (1 : Int64), .second] []) _
    refine XS.aload X15.here hx rfl (hb hby at_196) rfl rfl ?_
    show own_S p e below T15 (mkF m 198 #[vi p1, vi p2, vi p3, vi p4, vi (0 : Int32), vi (0 : Int32), vi (1 : Int32), vr va1, vr va2, vr va3, vr b4, vj (1 : Int64), .second] [xr b4]) _
    refine st16 _ ?_
    show own_S p e below T16 (mkF m 201 #[vi p1, vi p2, vi p3, vi p4, vi (0 : Int32), vi (0 : Int32), vi (1 : Int32), vr va1, vr va2, vr va3, vr b4, vj (1 : Int64), .second] [xr u1, xr b4]) _
    refine st17.trans ?_
    show own_S p e below T17 (mkF m 204 #[vi p1, vi p2, vi p3, vi p4, vi (0 : Int32), vi (0 : Int32), vi (1 : Int32), vr va1, vr va2, vr va3, vr b4, vj (1 : Int64), .second] [xj ((0 : Int64) + own_h p3 3)]) _
    refine XS.iconst X17.here hx rfl (hb hby at_204) ?_
    show own_S p e below T17 (mkF m 205 #[vi p1, vi p2, vi p3, vi p4, vi (0 : Int32), vi (0 : Int32), vi (1 : Int32), vr va1, vr va2, vr va3, vr b4, vj (1 : Int64), .second] [xi (3 : Int32), xj ((0 : Int64) + own_h p3 3)]) _
    refine XS.iloadN X17.here hx rfl (hb hby at_205) rfl ?_
    show own_S p e below T17 (mkF m 206 #[vi p1, vi p2, vi p3, vi p4, vi (0 : Int32), vi (0 : Int32), vi (1 : Int32), vr va1, vr va2, vr va3, vr b4, vj (1 : Int64), .second] [xi p1, xi (3 : Int32), xj ((0 : Int64) + own_h p3 3)]) _
    refine XS.iloadN X17.here hx rfl (hb hby at_206) rfl ?_
    show own_S p e below T17 (mkF m 207 #[vi p1, vi p2, vi p3, vi p4, vi (0 : Int32), vi (0 : Int32), vi (1 : Int32), vr va1, vr va2, vr va3, vr b4, vj (1 : Int64), .second] [xi p2, xi p1, xi (3 : Int32), xj ((0 : Int64) + own_h p3 3)]) _
    refine XS.iloadN X17.here hx rfl (hb hby at_207) rfl ?_
    show own_S p e below T17 (mkF m 208 #[vi p1, vi p2, vi p3, vi p4, vi (0 : Int32), vi (0 : Int32), vi (1 : Int32), vr va1, vr va2, vr va3, vr b4, vj (1 : Int64), .second] [xi p3, xi p2, xi p1, xi (3 : Int32), xj ((0 : Int64) + own_h p3 3)]) _
    refine XS.iloadN X17.here hx rfl (hb hby at_208) rfl ?_
    show own_S p e below T17 (mkF m 209 #[vi p1, vi p2, vi p3, vi p4, vi (0 : Int32), vi (0 : Int32), vi (1 : Int32), vr va1, vr va2, vr va3, vr b4, vj (1 : Int64), .second] [xi p4, xi p3, xi p2, xi p1, xi (3 : Int32), xj ((0 : Int64) + own_h p3 3)]) _
    refine st18 _ ?_
    show own_S p e below T18 (mkF m 212 #[vi p1, vi p2, vi p3, vi p4, vi (0 : Int32), vi (0 : Int32), vi (1 : Int32), vr va1, vr va2, vr va3, vr b4, vj (1 : Int64), .second] [xj ((0 : Int64) + (own_h p3 (3 : Int32))), xj ((0 : Int64) + own_h p3 3)]) _
    refine XS.lcmp X18.here hx rfl (hb hby at_212) rfl ?_
    show own_S p e below T18 (mkF m 213 #[vi p1, vi p2, vi p3, vi p4, vi (0 : Int32), vi (0 : Int32), vi (1 : Int32), vr va1, vr va2, vr va3, vr b4, vj (1 : Int64), .second] [xi (lcmpW ((0 : Int64) + own_h p3 3) ((0 : Int64) + (own_h p3 (3 : Int32))))]) _
    show own_S p e below T18 (mkF m 213 #[vi p1, vi p2, vi p3, vi p4, vi (0 : Int32), vi (0 : Int32), vi (1 : Int32), vr va1, vr va2, vr va3, vr b4, vj (1 : Int64), .second] [xi (lcmpW ((0 : Int64) + own_h p3 3) ((0 : Int64) + (own_h p3 (3 : Int32))))]) _
    refine XS.ifNo X18.here hx rfl (hb hby at_213) rfl (by simp [lcmpW, ifCond.holds, Int64.zero_add, Int64.add_zero]) ?_
    show own_S p e below T18 (mkF m 216 #[vi p1, vi p2, vi p3, vi p4, vi (0 : Int32), vi (0 : Int32), vi (1 : Int32), vr va1, vr va2, vr va3, vr b4, vj (1 : Int64), .second] []) _
    refine XS.aload X18.here hx rfl (hb hby at_216) rfl rfl ?_
    show own_S p e below T18 (mkF m 218 #[vi p1, vi p2, vi p3, vi p4, vi (0 : Int32), vi (0 : Int32), vi (1 : Int32), vr va1, vr va2, vr va3, vr b4, vj (1 : Int64), .second] [xr b4]) _
    refine st19.trans ?_
    show own_S p e below T19 (mkF m 221 #[vi p1, vi p2, vi p3, vi p4, vi (0 : Int32), vi (0 : Int32), vi (1 : Int32), vr va1, vr va2, vr va3, vr b4, vj (1 : Int64), .second] [xj (((((0 : Int64) + ((0 : Int64) + own_h p3 0)) + ((0 : Int64) + own_h p3 1)) + ((0 : Int64) + own_h p3 2)) + ((0 : Int64) + own_h p3 3))]) _
    refine XS.lload X19.here hx rfl (hb hby at_221) rfl ?_
    show own_S p e below T19 (mkF m 223 #[vi p1, vi p2, vi p3, vi p4, vi (0 : Int32), vi (0 : Int32), vi (1 : Int32), vr va1, vr va2, vr va3, vr b4, vj (1 : Int64), .second] [xj (1 : Int64), xj (((((0 : Int64) + ((0 : Int64) + own_h p3 0)) + ((0 : Int64) + own_h p3 1)) + ((0 : Int64) + own_h p3 2)) + ((0 : Int64) + own_h p3 3))]) _
    refine XS.lcmp X19.here hx rfl (hb hby at_223) rfl ?_
    show own_S p e below T19 (mkF m 224 #[vi p1, vi p2, vi p3, vi p4, vi (0 : Int32), vi (0 : Int32), vi (1 : Int32), vr va1, vr va2, vr va3, vr b4, vj (1 : Int64), .second] [xi (lcmpW (((((0 : Int64) + ((0 : Int64) + own_h p3 0)) + ((0 : Int64) + own_h p3 1)) + ((0 : Int64) + own_h p3 2)) + ((0 : Int64) + own_h p3 3)) (1 : Int64))]) _
    show own_S p e below T19 (mkF m 224 #[vi p1, vi p2, vi p3, vi p4, vi (0 : Int32), vi (0 : Int32), vi (1 : Int32), vr va1, vr va2, vr va3, vr b4, vj (1 : Int64), .second] [xi (lcmpW (((((0 : Int64) + ((0 : Int64) + own_h p3 0)) + ((0 : Int64) + own_h p3 1)) + ((0 : Int64) + own_h p3 2)) + ((0 : Int64) + own_h p3 3)) (1 : Int64))]) _
    refine XS.ifNo X19.here hx rfl (hb hby at_224) rfl (by rw [show (((((0 : Int64) + ((0 : Int64) + own_h p3 0)) + ((0 : Int64) + own_h p3 1)) + ((0 : Int64) + own_h p3 2)) + ((0 : Int64) + own_h p3 3)) = (own_h p3 0 + own_h p3 1 + own_h p3 2 + own_h p3 3) from by simp only [Int64.zero_add]; try ac_rfl]; simp only [own_hsum]; try decide) ?_
    show own_S p e below T19 (mkF m 227 #[vi p1, vi p2, vi p3, vi p4, vi (0 : Int32), vi (0 : Int32), vi (1 : Int32), vr va1, vr va2, vr va3, vr b4, vj (1 : Int64), .second] []) _
    refine XS.iconst X19.here hx rfl (hb hby at_227) ?_
    show own_S p e below T19 (mkF m 228 #[vi p1, vi p2, vi p3, vi p4, vi (0 : Int32), vi (0 : Int32), vi (1 : Int32), vr va1, vr va2, vr va3, vr b4, vj (1 : Int64), .second] [xi (1 : Int32)]) _
    refine XS.goto X19.here hx rfl (pc0 := 228) (pc' := 232) rfl (hb hby at_228) (by decide) (by decide) ?_
    show own_S p e below T19 (mkF m 232 #[vi p1, vi p2, vi p3, vi p4, vi (0 : Int32), vi (0 : Int32), vi (1 : Int32), vr va1, vr va2, vr va3, vr b4, vj (1 : Int64), .second] [xi (1 : Int32)]) _
    exact retN X19 hx (t := .boolean) Bd.returns (by simp) (hb hby at_232) hr
  · exact ⟨rfl, N19⟩
theorem d8_24 : decode method_4_code 24 = .ok (.iconst 1, 1) := by decide +kernel
theorem d8_25 : decode method_4_code 25 = .ok (.goto 4, 3) := by decide +kernel
theorem ef_own_c12_expected (m : MethodId) (u0 u1 u2 u3 u4 : Addr) (p1 : Int32) (p2 : Int32) (p3 : Int32) (p4 : Int32) : entryFrame m #[xi (0 : Int32), xi p1, xi p2, xi p3, xi p4] 5 = (mkF m 0 #[vi (0 : Int32), vi p1, vi p2, vi p3, vi p4] []) := by first | (simp [entryFrame, mkF, argsToLocals, Value.category]; done) | rfl
set_option maxRecDepth 65536 in
set_option maxHeartbeats 40000000 in
theorem own_c12_expected (l : Launch) (Z : State) (a0 : Array Value) (hw : ∀ d ∈ tables_1, d.before a0 Z = true) (u0 u1 u2 u3 u4 : Addr) (G : own_St Z u0 u1 u2 u3 u4) (p1 : Int32) (p2 : Int32) (p3 : Int32) (p4 : Int32) (as6 : (p4 &&& (1 : Int32)) = (0 : Int32)) (as9 : (p4 &&& (2 : Int32)) = (2 : Int32)) (as10 : (p4 &&& (4 : Int32)) = (0 : Int32)) (h0 : Heap) (n0 : Nat) (O0 : Old Z n0 h0) : own_Met l Z Y9 method_4_code 5 (some .long) ({ frames := 1, cells := 0, slots := 0, locals := 16 } : Room) #[xi (0 : Int32), xi p1, xi p2, xi p3, xi p4] h0 (own_QR (some (xj (((0 : Int64) + (own_h p2 (0 : Int32))) + (0 : Int64)))) h0 n0) := by
  intro ws
  refine MetFree.of_bodySF (plainFor_of_name pn3) hisR ?_
  intro p e s m args below meth c s₁ Bd hml0 hP hK
  obtain ⟨rfl, hZ, hh⟩ := hP
  have hx := Bd.exec
  have hby := Bd.bytes
  have hml : c.maxLocals = 5 := hml0
  have hown : s.vm.findClass "com/example/feedwright/feedwright/LoadSummaryAddPinLaw" = some m.cls := findClass_of_methodNamed Bd.named
  have hnm := (name_of_methodNamed Bd.named Bd.method).1
  have X0 : Stand p l e ({ frames := 1, cells := 0, slots := 0, locals := 16 } : Room) s m #[xi (0 : Int32), xi p1, xi p2, xi p3, xi p4] below meth c s₁ [] 0 0 := Stand.of_body Bd
  have e0 : s₁.heap = h0 := by rw [← hh, Bd.state]; rfl
  have N0 := Fr.nil n0
  have pre0 : ∀ t, Steps p.tables e below (s₁.setTop (mkF m 0 #[vi (0 : Int32), vi p1, vi p2, vi p3, vi p4] [])) t → Steps p.tables e below (s₁.setTop (entryFrame m #[xi (0 : Int32), xi p1, xi p2, xi p3, xi p4] 5)) t := fun t st => castTop (ef_own_c12_expected m u0 u1 u2 u3 u4 p1 p2 p3 p4) st
  obtain ⟨_, _, ⟨T1, L1, k1, n1⟩, -, X1, ⟨Lc1, hQ1, l1, y1, z1⟩, st1⟩ := Jvm.LawKit.callS X0 hx (y := Y6) hown (mvT hZ (ww hw 61 rfl)) (mvT hZ (ww hw 62 rfl)) (mvT hZ (ww hw 2 rfl)) (mvT hZ (ww hw 63 rfl)) (by decide) (backOf (W := 0) (own_hit_off l Z a0 hw u0 u1 u2 u3 u4 G p1 (0 : Int32) h0 n0 O0 []) hZ (ww hw 63 rfl) (ww hw 2 rfl) (by decide) (by decide)) (g := (mkF m 14 #[vi (0 : Int32), vi p1, vi p2, vi p3, vi p4] [xi (0 : Int32), xi p1, xi (0 : Int32)])) rfl (by rw [hml]; rfl) (argsL := [xi (0 : Int32), xi p1, xi (0 : Int32)]) (rest := []) (lenOf pd5 rfl) rfl (by show 2 * 0 + _ ≤ _; exact Nat.le_of_eq rfl) (hb hby d8_14) (fun _ _ => ⟨rfl, e0, (by decide : 0 + 0 ≤ _), (by decide : 0 + 0 ≤ _)⟩)
  dsimp only [Pt.U, Pt.locs, Pt.cells, Pt.slots] at X1 l1 y1 z1 st1 hQ1
  subst l1 y1 z1
  obtain ⟨rfl, Nq1, e1⟩ := hQ1
  have N1 := Fr.app N0 Nq1
  obtain ⟨_, _, ⟨T2, L2, k2, n2⟩, -, X2, ⟨Lc2, hQ2, l2, y2, z2⟩, st2⟩ := Jvm.LawKit.callS X1 hx (y := Y6) hown (mvT hZ (ww hw 61 rfl)) (mvT hZ (ww hw 62 rfl)) (mvT hZ (ww hw 2 rfl)) (mvT hZ (ww hw 63 rfl)) (by decide) (backOf (W := 2) (own_hit l Z a0 hw u0 u1 u2 u3 u4 G p2 (0 : Int32) h0 n0 O0 []) hZ (ww hw 63 rfl) (ww hw 2 rfl) (by decide) (by decide)) (g := (mkF m 31 #[vi (0 : Int32), vi p1, vi p2, vi p3, vi p4] [xi (0 : Int32), xi p2, xi (1 : Int32), xj (0 : Int64)])) rfl (by rw [hml]; rfl) (argsL := [xi (1 : Int32), xi p2, xi (0 : Int32)]) (rest := [xj (0 : Int64)]) (lenOf pd5 rfl) rfl (by show 2 * 0 + _ ≤ _; exact Nat.le_of_eq rfl) (hb hby d8_31) (fun _ _ => ⟨rfl, e1, (by decide : 0 + 0 ≤ _), (by decide : 0 + 0 ≤ _)⟩)
  dsimp only [Pt.U, Pt.locs, Pt.cells, Pt.slots] at X2 l2 y2 z2 st2 hQ2
  subst l2 y2 z2
  obtain ⟨rfl, Nq2, e2⟩ := hQ2
  have N2 := Fr.app N1 Nq2
  obtain ⟨_, _, ⟨T3, L3, k3, n3⟩, -, X3, ⟨Lc3, hQ3, l3, y3, z3⟩, st3⟩ := Jvm.LawKit.callS X2 hx (y := Y6) hown (mvT hZ (ww hw 61 rfl)) (mvT hZ (ww hw 62 rfl)) (mvT hZ (ww hw 2 rfl)) (mvT hZ (ww hw 63 rfl)) (by decide) (backOf (W := 2) (own_hit_off l Z a0 hw u0 u1 u2 u3 u4 G p3 (0 : Int32) h0 n0 O0 []) hZ (ww hw 63 rfl) (ww hw 2 rfl) (by decide) (by decide)) (g := (mkF m 49 #[vi (0 : Int32), vi p1, vi p2, vi p3, vi p4] [xi (0 : Int32), xi p3, xi (0 : Int32), xj ((0 : Int64) + (own_h p2 (0 : Int32)))])) rfl (by rw [hml]; rfl) (argsL := [xi (0 : Int32), xi p3, xi (0 : Int32)]) (rest := [xj ((0 : Int64) + (own_h p2 (0 : Int32)))]) (lenOf pd5 rfl) rfl (by show 2 * 0 + _ ≤ _; exact Nat.le_of_eq rfl) (hb hby d8_49) (fun _ _ => ⟨rfl, e2, (by decide : 0 + 0 ≤ _), (by decide : 0 + 0 ≤ _)⟩)
  dsimp only [Pt.U, Pt.locs, Pt.cells, Pt.slots] at X3 l3 y3 z3 st3 hQ3
  subst l3 y3 z3
  obtain ⟨rfl, Nq3, e3⟩ := hQ3
  have N3 := Fr.app N2 Nq3
  obtain ⟨fs, hr, hrun, hended, hW, hsame⟩ := X3.leave (v := some (xj (((0 : Int64) + (own_h p2 (0 : Int32))) + (0 : Int64)))) (fun h => by rw [Bd.returns] at h; cases h)
  refine ⟨_, _, pre0 _ ?_, hrun, hended, _, _, rfl, ?_, ⟨_, rfl⟩, hW, hsame.mono (by decide) (by decide)⟩
  · show own_S p e below s₁ (mkF m 0 #[vi (0 : Int32), vi p1, vi p2, vi p3, vi p4] []) _
    refine XS.iload X0.here hx rfl (hb hby d8_0) rfl ?_
    show own_S p e below s₁ (mkF m 2 #[vi (0 : Int32), vi p1, vi p2, vi p3, vi p4] [xi p4]) _
    refine XS.iconst X0.here hx rfl (hb hby d8_2) ?_
    show own_S p e below s₁ (mkF m 3 #[vi (0 : Int32), vi p1, vi p2, vi p3, vi p4] [xi (1 : Int32), xi p4]) _
    refine XS.iand X0.here hx rfl (hb hby d8_3) rfl ?_
    show own_S p e below s₁ (mkF m 4 #[vi (0 : Int32), vi p1, vi p2, vi p3, vi p4] [xi (p4 &&& (1 : Int32))]) _
    refine castTop (show (mkF m 4 #[vi (0 : Int32), vi p1, vi p2, vi p3, vi p4] [xi (p4 &&& (1 : Int32))]) = (mkF m 4 #[vi (0 : Int32), vi p1, vi p2, vi p3, vi p4] [xi (0 : Int32)]) from by rw [as6]) ?_
    show own_S p e below s₁ (mkF m 4 #[vi (0 : Int32), vi p1, vi p2, vi p3, vi p4] [xi (0 : Int32)]) _
    refine XS.ifYes X0.here hx rfl (pc0 := 4) (pc' := 11) rfl (hb hby d8_4) rfl (by decide) (by decide) (by decide) ?_
    show own_S p e below s₁ (mkF m 11 #[vi (0 : Int32), vi p1, vi p2, vi p3, vi p4] []) _
    refine XS.iconst X0.here hx rfl (hb hby d8_11) ?_
    show own_S p e below s₁ (mkF m 12 #[vi (0 : Int32), vi p1, vi p2, vi p3, vi p4] [xi (0 : Int32)]) _
    refine XS.iloadN X0.here hx rfl (hb hby d8_12) rfl ?_
    show own_S p e below s₁ (mkF m 13 #[vi (0 : Int32), vi p1, vi p2, vi p3, vi p4] [xi p1, xi (0 : Int32)]) _
    refine XS.iloadN X0.here hx rfl (hb hby d8_13) rfl ?_
    show own_S p e below s₁ (mkF m 14 #[vi (0 : Int32), vi p1, vi p2, vi p3, vi p4] [xi (0 : Int32), xi p1, xi (0 : Int32)]) _
    refine st1 _ ?_
    show own_S p e below T1 (mkF m 17 #[vi (0 : Int32), vi p1, vi p2, vi p3, vi p4] [xj (0 : Int64)]) _
    refine XS.iload X1.here hx rfl (hb hby d8_17) rfl ?_
    show own_S p e below T1 (mkF m 19 #[vi (0 : Int32), vi p1, vi p2, vi p3, vi p4] [xi p4, xj (0 : Int64)]) _
    refine XS.iconst X1.here hx rfl (hb hby d8_19) ?_
    show own_S p e below T1 (mkF m 20 #[vi (0 : Int32), vi p1, vi p2, vi p3, vi p4] [xi (2 : Int32), xi p4, xj (0 : Int64)]) _
    refine XS.iand X1.here hx rfl (hb hby d8_20) rfl ?_
    show own_S p e below T1 (mkF m 21 #[vi (0 : Int32), vi p1, vi p2, vi p3, vi p4] [xi (p4 &&& (2 : Int32)), xj (0 : Int64)]) _
    refine castTop (show (mkF m 21 #[vi (0 : Int32), vi p1, vi p2, vi p3, vi p4] [xi (p4 &&& (2 : Int32)), xj (0 : Int64)]) = (mkF m 21 #[vi (0 : Int32), vi p1, vi p2, vi p3, vi p4] [xi (2 : Int32), xj (0 : Int64)]) from by rw [as9]) ?_
    show own_S p e below T1 (mkF m 21 #[vi (0 : Int32), vi p1, vi p2, vi p3, vi p4] [xi (2 : Int32), xj (0 : Int64)]) _
    refine XS.ifNo X1.here hx rfl (hb hby d8_21) rfl (by decide) ?_
    show own_S p e below T1 (mkF m 24 #[vi (0 : Int32), vi p1, vi p2, vi p3, vi p4] [xj (0 : Int64)]) _
    refine XS.iconst X1.here hx rfl (hb hby d8_24) ?_
    show own_S p e below T1 (mkF m 25 #[vi (0 : Int32), vi p1, vi p2, vi p3, vi p4] [xi (1 : Int32), xj (0 : Int64)]) _
    refine XS.goto X1.here hx rfl (pc0 := 25) (pc' := 29) rfl (hb hby d8_25) (by decide) (by decide) ?_
    show own_S p e below T1 (mkF m 29 #[vi (0 : Int32), vi p1, vi p2, vi p3, vi p4] [xi (1 : Int32), xj (0 : Int64)]) _
    refine XS.iloadN X1.here hx rfl (hb hby d8_29) rfl ?_
    show own_S p e below T1 (mkF m 30 #[vi (0 : Int32), vi p1, vi p2, vi p3, vi p4] [xi p2, xi (1 : Int32), xj (0 : Int64)]) _
    refine XS.iloadN X1.here hx rfl (hb hby d8_30) rfl ?_
    show own_S p e below T1 (mkF m 31 #[vi (0 : Int32), vi p1, vi p2, vi p3, vi p4] [xi (0 : Int32), xi p2, xi (1 : Int32), xj (0 : Int64)]) _
    refine st2 _ ?_
    show own_S p e below T2 (mkF m 34 #[vi (0 : Int32), vi p1, vi p2, vi p3, vi p4] [xj (own_h p2 (0 : Int32)), xj (0 : Int64)]) _
    refine XS.ladd X2.here hx rfl (hb hby d8_34) rfl ?_
    show own_S p e below T2 (mkF m 35 #[vi (0 : Int32), vi p1, vi p2, vi p3, vi p4] [xj ((0 : Int64) + (own_h p2 (0 : Int32)))]) _
    show own_S p e below T2 (mkF m 35 #[vi (0 : Int32), vi p1, vi p2, vi p3, vi p4] [xj ((0 : Int64) + (own_h p2 (0 : Int32)))]) _
    refine XS.iload X2.here hx rfl (hb hby d8_35) rfl ?_
    show own_S p e below T2 (mkF m 37 #[vi (0 : Int32), vi p1, vi p2, vi p3, vi p4] [xi p4, xj ((0 : Int64) + (own_h p2 (0 : Int32)))]) _
    refine XS.iconst X2.here hx rfl (hb hby d8_37) ?_
    show own_S p e below T2 (mkF m 38 #[vi (0 : Int32), vi p1, vi p2, vi p3, vi p4] [xi (4 : Int32), xi p4, xj ((0 : Int64) + (own_h p2 (0 : Int32)))]) _
    refine XS.iand X2.here hx rfl (hb hby d8_38) rfl ?_
    show own_S p e below T2 (mkF m 39 #[vi (0 : Int32), vi p1, vi p2, vi p3, vi p4] [xi (p4 &&& (4 : Int32)), xj ((0 : Int64) + (own_h p2 (0 : Int32)))]) _
    refine castTop (show (mkF m 39 #[vi (0 : Int32), vi p1, vi p2, vi p3, vi p4] [xi (p4 &&& (4 : Int32)), xj ((0 : Int64) + (own_h p2 (0 : Int32)))]) = (mkF m 39 #[vi (0 : Int32), vi p1, vi p2, vi p3, vi p4] [xi (0 : Int32), xj ((0 : Int64) + (own_h p2 (0 : Int32)))]) from by rw [as10]) ?_
    show own_S p e below T2 (mkF m 39 #[vi (0 : Int32), vi p1, vi p2, vi p3, vi p4] [xi (0 : Int32), xj ((0 : Int64) + (own_h p2 (0 : Int32)))]) _
    refine XS.ifYes X2.here hx rfl (pc0 := 39) (pc' := 46) rfl (hb hby d8_39) rfl (by decide) (by decide) (by decide) ?_
    show own_S p e below T2 (mkF m 46 #[vi (0 : Int32), vi p1, vi p2, vi p3, vi p4] [xj ((0 : Int64) + (own_h p2 (0 : Int32)))]) _
    refine XS.iconst X2.here hx rfl (hb hby d8_46) ?_
    show own_S p e below T2 (mkF m 47 #[vi (0 : Int32), vi p1, vi p2, vi p3, vi p4] [xi (0 : Int32), xj ((0 : Int64) + (own_h p2 (0 : Int32)))]) _
    refine XS.iloadN X2.here hx rfl (hb hby d8_47) rfl ?_
    show own_S p e below T2 (mkF m 48 #[vi (0 : Int32), vi p1, vi p2, vi p3, vi p4] [xi p3, xi (0 : Int32), xj ((0 : Int64) + (own_h p2 (0 : Int32)))]) _
    refine XS.iloadN X2.here hx rfl (hb hby d8_48) rfl ?_
    show own_S p e below T2 (mkF m 49 #[vi (0 : Int32), vi p1, vi p2, vi p3, vi p4] [xi (0 : Int32), xi p3, xi (0 : Int32), xj ((0 : Int64) + (own_h p2 (0 : Int32)))]) _
    refine st3 _ ?_
    show own_S p e below T3 (mkF m 52 #[vi (0 : Int32), vi p1, vi p2, vi p3, vi p4] [xj (0 : Int64), xj ((0 : Int64) + (own_h p2 (0 : Int32)))]) _
    refine XS.ladd X3.here hx rfl (hb hby d8_52) rfl ?_
    show own_S p e below T3 (mkF m 53 #[vi (0 : Int32), vi p1, vi p2, vi p3, vi p4] [xj (((0 : Int64) + (own_h p2 (0 : Int32))) + (0 : Int64))]) _
    show own_S p e below T3 (mkF m 53 #[vi (0 : Int32), vi p1, vi p2, vi p3, vi p4] [xj (((0 : Int64) + (own_h p2 (0 : Int32))) + (0 : Int64))]) _
    exact X3.lreturnOut hx Bd.returns (hb hby d8_53) hr
  · exact ⟨rfl, N3, e3⟩
theorem ef_own_c13_expected (m : MethodId) (u0 u1 u2 u3 u4 : Addr) (p1 : Int32) (p2 : Int32) (p3 : Int32) (p4 : Int32) : entryFrame m #[xi (1 : Int32), xi p1, xi p2, xi p3, xi p4] 5 = (mkF m 0 #[vi (1 : Int32), vi p1, vi p2, vi p3, vi p4] []) := by first | (simp [entryFrame, mkF, argsToLocals, Value.category]; done) | rfl
set_option maxRecDepth 65536 in
set_option maxHeartbeats 40000000 in
theorem own_c13_expected (l : Launch) (Z : State) (a0 : Array Value) (hw : ∀ d ∈ tables_1, d.before a0 Z = true) (u0 u1 u2 u3 u4 : Addr) (G : own_St Z u0 u1 u2 u3 u4) (p1 : Int32) (p2 : Int32) (p3 : Int32) (p4 : Int32) (as6 : (p4 &&& (1 : Int32)) = (0 : Int32)) (as9 : (p4 &&& (2 : Int32)) = (2 : Int32)) (as10 : (p4 &&& (4 : Int32)) = (0 : Int32)) (h0 : Heap) (n0 : Nat) (O0 : Old Z n0 h0) : own_Met l Z Y9 method_4_code 5 (some .long) ({ frames := 1, cells := 0, slots := 0, locals := 16 } : Room) #[xi (1 : Int32), xi p1, xi p2, xi p3, xi p4] h0 (own_QR (some (xj (((0 : Int64) + (own_h p2 (1 : Int32))) + (0 : Int64)))) h0 n0) := by
  intro ws
  refine MetFree.of_bodySF (plainFor_of_name pn3) hisR ?_
  intro p e s m args below meth c s₁ Bd hml0 hP hK
  obtain ⟨rfl, hZ, hh⟩ := hP
  have hx := Bd.exec
  have hby := Bd.bytes
  have hml : c.maxLocals = 5 := hml0
  have hown : s.vm.findClass "com/example/feedwright/feedwright/LoadSummaryAddPinLaw" = some m.cls := findClass_of_methodNamed Bd.named
  have hnm := (name_of_methodNamed Bd.named Bd.method).1
  have X0 : Stand p l e ({ frames := 1, cells := 0, slots := 0, locals := 16 } : Room) s m #[xi (1 : Int32), xi p1, xi p2, xi p3, xi p4] below meth c s₁ [] 0 0 := Stand.of_body Bd
  have e0 : s₁.heap = h0 := by rw [← hh, Bd.state]; rfl
  have N0 := Fr.nil n0
  have pre0 : ∀ t, Steps p.tables e below (s₁.setTop (mkF m 0 #[vi (1 : Int32), vi p1, vi p2, vi p3, vi p4] [])) t → Steps p.tables e below (s₁.setTop (entryFrame m #[xi (1 : Int32), xi p1, xi p2, xi p3, xi p4] 5)) t := fun t st => castTop (ef_own_c13_expected m u0 u1 u2 u3 u4 p1 p2 p3 p4) st
  obtain ⟨_, _, ⟨T1, L1, k1, n1⟩, -, X1, ⟨Lc1, hQ1, l1, y1, z1⟩, st1⟩ := Jvm.LawKit.callS X0 hx (y := Y6) hown (mvT hZ (ww hw 61 rfl)) (mvT hZ (ww hw 62 rfl)) (mvT hZ (ww hw 2 rfl)) (mvT hZ (ww hw 63 rfl)) (by decide) (backOf (W := 0) (own_hit_off l Z a0 hw u0 u1 u2 u3 u4 G p1 (1 : Int32) h0 n0 O0 []) hZ (ww hw 63 rfl) (ww hw 2 rfl) (by decide) (by decide)) (g := (mkF m 14 #[vi (1 : Int32), vi p1, vi p2, vi p3, vi p4] [xi (1 : Int32), xi p1, xi (0 : Int32)])) rfl (by rw [hml]; rfl) (argsL := [xi (0 : Int32), xi p1, xi (1 : Int32)]) (rest := []) (lenOf pd5 rfl) rfl (by show 2 * 0 + _ ≤ _; exact Nat.le_of_eq rfl) (hb hby d8_14) (fun _ _ => ⟨rfl, e0, (by decide : 0 + 0 ≤ _), (by decide : 0 + 0 ≤ _)⟩)
  dsimp only [Pt.U, Pt.locs, Pt.cells, Pt.slots] at X1 l1 y1 z1 st1 hQ1
  subst l1 y1 z1
  obtain ⟨rfl, Nq1, e1⟩ := hQ1
  have N1 := Fr.app N0 Nq1
  obtain ⟨_, _, ⟨T2, L2, k2, n2⟩, -, X2, ⟨Lc2, hQ2, l2, y2, z2⟩, st2⟩ := Jvm.LawKit.callS X1 hx (y := Y6) hown (mvT hZ (ww hw 61 rfl)) (mvT hZ (ww hw 62 rfl)) (mvT hZ (ww hw 2 rfl)) (mvT hZ (ww hw 63 rfl)) (by decide) (backOf (W := 2) (own_hit l Z a0 hw u0 u1 u2 u3 u4 G p2 (1 : Int32) h0 n0 O0 []) hZ (ww hw 63 rfl) (ww hw 2 rfl) (by decide) (by decide)) (g := (mkF m 31 #[vi (1 : Int32), vi p1, vi p2, vi p3, vi p4] [xi (1 : Int32), xi p2, xi (1 : Int32), xj (0 : Int64)])) rfl (by rw [hml]; rfl) (argsL := [xi (1 : Int32), xi p2, xi (1 : Int32)]) (rest := [xj (0 : Int64)]) (lenOf pd5 rfl) rfl (by show 2 * 0 + _ ≤ _; exact Nat.le_of_eq rfl) (hb hby d8_31) (fun _ _ => ⟨rfl, e1, (by decide : 0 + 0 ≤ _), (by decide : 0 + 0 ≤ _)⟩)
  dsimp only [Pt.U, Pt.locs, Pt.cells, Pt.slots] at X2 l2 y2 z2 st2 hQ2
  subst l2 y2 z2
  obtain ⟨rfl, Nq2, e2⟩ := hQ2
  have N2 := Fr.app N1 Nq2
  obtain ⟨_, _, ⟨T3, L3, k3, n3⟩, -, X3, ⟨Lc3, hQ3, l3, y3, z3⟩, st3⟩ := Jvm.LawKit.callS X2 hx (y := Y6) hown (mvT hZ (ww hw 61 rfl)) (mvT hZ (ww hw 62 rfl)) (mvT hZ (ww hw 2 rfl)) (mvT hZ (ww hw 63 rfl)) (by decide) (backOf (W := 2) (own_hit_off l Z a0 hw u0 u1 u2 u3 u4 G p3 (1 : Int32) h0 n0 O0 []) hZ (ww hw 63 rfl) (ww hw 2 rfl) (by decide) (by decide)) (g := (mkF m 49 #[vi (1 : Int32), vi p1, vi p2, vi p3, vi p4] [xi (1 : Int32), xi p3, xi (0 : Int32), xj ((0 : Int64) + (own_h p2 (1 : Int32)))])) rfl (by rw [hml]; rfl) (argsL := [xi (0 : Int32), xi p3, xi (1 : Int32)]) (rest := [xj ((0 : Int64) + (own_h p2 (1 : Int32)))]) (lenOf pd5 rfl) rfl (by show 2 * 0 + _ ≤ _; exact Nat.le_of_eq rfl) (hb hby d8_49) (fun _ _ => ⟨rfl, e2, (by decide : 0 + 0 ≤ _), (by decide : 0 + 0 ≤ _)⟩)
  dsimp only [Pt.U, Pt.locs, Pt.cells, Pt.slots] at X3 l3 y3 z3 st3 hQ3
  subst l3 y3 z3
  obtain ⟨rfl, Nq3, e3⟩ := hQ3
  have N3 := Fr.app N2 Nq3
  obtain ⟨fs, hr, hrun, hended, hW, hsame⟩ := X3.leave (v := some (xj (((0 : Int64) + (own_h p2 (1 : Int32))) + (0 : Int64)))) (fun h => by rw [Bd.returns] at h; cases h)
  refine ⟨_, _, pre0 _ ?_, hrun, hended, _, _, rfl, ?_, ⟨_, rfl⟩, hW, hsame.mono (by decide) (by decide)⟩
  · show own_S p e below s₁ (mkF m 0 #[vi (1 : Int32), vi p1, vi p2, vi p3, vi p4] []) _
    refine XS.iload X0.here hx rfl (hb hby d8_0) rfl ?_
    show own_S p e below s₁ (mkF m 2 #[vi (1 : Int32), vi p1, vi p2, vi p3, vi p4] [xi p4]) _
    refine XS.iconst X0.here hx rfl (hb hby d8_2) ?_
    show own_S p e below s₁ (mkF m 3 #[vi (1 : Int32), vi p1, vi p2, vi p3, vi p4] [xi (1 : Int32), xi p4]) _
    refine XS.iand X0.here hx rfl (hb hby d8_3) rfl ?_
    show own_S p e below s₁ (mkF m 4 #[vi (1 : Int32), vi p1, vi p2, vi p3, vi p4] [xi (p4 &&& (1 : Int32))]) _
    refine castTop (show (mkF m 4 #[vi (1 : Int32), vi p1, vi p2, vi p3, vi p4] [xi (p4 &&& (1 : Int32))]) = (mkF m 4 #[vi (1 : Int32), vi p1, vi p2, vi p3, vi p4] [xi (0 : Int32)]) from by rw [as6]) ?_
    show own_S p e below s₁ (mkF m 4 #[vi (1 : Int32), vi p1, vi p2, vi p3, vi p4] [xi (0 : Int32)]) _
    refine XS.ifYes X0.here hx rfl (pc0 := 4) (pc' := 11) rfl (hb hby d8_4) rfl (by decide) (by decide) (by decide) ?_
    show own_S p e below s₁ (mkF m 11 #[vi (1 : Int32), vi p1, vi p2, vi p3, vi p4] []) _
    refine XS.iconst X0.here hx rfl (hb hby d8_11) ?_
    show own_S p e below s₁ (mkF m 12 #[vi (1 : Int32), vi p1, vi p2, vi p3, vi p4] [xi (0 : Int32)]) _
    refine XS.iloadN X0.here hx rfl (hb hby d8_12) rfl ?_
    show own_S p e below s₁ (mkF m 13 #[vi (1 : Int32), vi p1, vi p2, vi p3, vi p4] [xi p1, xi (0 : Int32)]) _
    refine XS.iloadN X0.here hx rfl (hb hby d8_13) rfl ?_
    show own_S p e below s₁ (mkF m 14 #[vi (1 : Int32), vi p1, vi p2, vi p3, vi p4] [xi (1 : Int32), xi p1, xi (0 : Int32)]) _
    refine st1 _ ?_
    show own_S p e below T1 (mkF m 17 #[vi (1 : Int32), vi p1, vi p2, vi p3, vi p4] [xj (0 : Int64)]) _
    refine XS.iload X1.here hx rfl (hb hby d8_17) rfl ?_
    show own_S p e below T1 (mkF m 19 #[vi (1 : Int32), vi p1, vi p2, vi p3, vi p4] [xi p4, xj (0 : Int64)]) _
    refine XS.iconst X1.here hx rfl (hb hby d8_19) ?_
    show own_S p e below T1 (mkF m 20 #[vi (1 : Int32), vi p1, vi p2, vi p3, vi p4] [xi (2 : Int32), xi p4, xj (0 : Int64)]) _
    refine XS.iand X1.here hx rfl (hb hby d8_20) rfl ?_
    show own_S p e below T1 (mkF m 21 #[vi (1 : Int32), vi p1, vi p2, vi p3, vi p4] [xi (p4 &&& (2 : Int32)), xj (0 : Int64)]) _
    refine castTop (show (mkF m 21 #[vi (1 : Int32), vi p1, vi p2, vi p3, vi p4] [xi (p4 &&& (2 : Int32)), xj (0 : Int64)]) = (mkF m 21 #[vi (1 : Int32), vi p1, vi p2, vi p3, vi p4] [xi (2 : Int32), xj (0 : Int64)]) from by rw [as9]) ?_
    show own_S p e below T1 (mkF m 21 #[vi (1 : Int32), vi p1, vi p2, vi p3, vi p4] [xi (2 : Int32), xj (0 : Int64)]) _
    refine XS.ifNo X1.here hx rfl (hb hby d8_21) rfl (by decide) ?_
    show own_S p e below T1 (mkF m 24 #[vi (1 : Int32), vi p1, vi p2, vi p3, vi p4] [xj (0 : Int64)]) _
    refine XS.iconst X1.here hx rfl (hb hby d8_24) ?_
    show own_S p e below T1 (mkF m 25 #[vi (1 : Int32), vi p1, vi p2, vi p3, vi p4] [xi (1 : Int32), xj (0 : Int64)]) _
    refine XS.goto X1.here hx rfl (pc0 := 25) (pc' := 29) rfl (hb hby d8_25) (by decide) (by decide) ?_
    show own_S p e below T1 (mkF m 29 #[vi (1 : Int32), vi p1, vi p2, vi p3, vi p4] [xi (1 : Int32), xj (0 : Int64)]) _
    refine XS.iloadN X1.here hx rfl (hb hby d8_29) rfl ?_
    show own_S p e below T1 (mkF m 30 #[vi (1 : Int32), vi p1, vi p2, vi p3, vi p4] [xi p2, xi (1 : Int32), xj (0 : Int64)]) _
    refine XS.iloadN X1.here hx rfl (hb hby d8_30) rfl ?_
    show own_S p e below T1 (mkF m 31 #[vi (1 : Int32), vi p1, vi p2, vi p3, vi p4] [xi (1 : Int32), xi p2, xi (1 : Int32), xj (0 : Int64)]) _
    refine st2 _ ?_
    show own_S p e below T2 (mkF m 34 #[vi (1 : Int32), vi p1, vi p2, vi p3, vi p4] [xj (own_h p2 (1 : Int32)), xj (0 : Int64)]) _
    refine XS.ladd X2.here hx rfl (hb hby d8_34) rfl ?_
    show own_S p e below T2 (mkF m 35 #[vi (1 : Int32), vi p1, vi p2, vi p3, vi p4] [xj ((0 : Int64) + (own_h p2 (1 : Int32)))]) _
    show own_S p e below T2 (mkF m 35 #[vi (1 : Int32), vi p1, vi p2, vi p3, vi p4] [xj ((0 : Int64) + (own_h p2 (1 : Int32)))]) _
    refine XS.iload X2.here hx rfl (hb hby d8_35) rfl ?_
    show own_S p e below T2 (mkF m 37 #[vi (1 : Int32), vi p1, vi p2, vi p3, vi p4] [xi p4, xj ((0 : Int64) + (own_h p2 (1 : Int32)))]) _
    refine XS.iconst X2.here hx rfl (hb hby d8_37) ?_
    show own_S p e below T2 (mkF m 38 #[vi (1 : Int32), vi p1, vi p2, vi p3, vi p4] [xi (4 : Int32), xi p4, xj ((0 : Int64) + (own_h p2 (1 : Int32)))]) _
    refine XS.iand X2.here hx rfl (hb hby d8_38) rfl ?_
    show own_S p e below T2 (mkF m 39 #[vi (1 : Int32), vi p1, vi p2, vi p3, vi p4] [xi (p4 &&& (4 : Int32)), xj ((0 : Int64) + (own_h p2 (1 : Int32)))]) _
    refine castTop (show (mkF m 39 #[vi (1 : Int32), vi p1, vi p2, vi p3, vi p4] [xi (p4 &&& (4 : Int32)), xj ((0 : Int64) + (own_h p2 (1 : Int32)))]) = (mkF m 39 #[vi (1 : Int32), vi p1, vi p2, vi p3, vi p4] [xi (0 : Int32), xj ((0 : Int64) + (own_h p2 (1 : Int32)))]) from by rw [as10]) ?_
    show own_S p e below T2 (mkF m 39 #[vi (1 : Int32), vi p1, vi p2, vi p3, vi p4] [xi (0 : Int32), xj ((0 : Int64) + (own_h p2 (1 : Int32)))]) _
    refine XS.ifYes X2.here hx rfl (pc0 := 39) (pc' := 46) rfl (hb hby d8_39) rfl (by decide) (by decide) (by decide) ?_
    show own_S p e below T2 (mkF m 46 #[vi (1 : Int32), vi p1, vi p2, vi p3, vi p4] [xj ((0 : Int64) + (own_h p2 (1 : Int32)))]) _
    refine XS.iconst X2.here hx rfl (hb hby d8_46) ?_
    show own_S p e below T2 (mkF m 47 #[vi (1 : Int32), vi p1, vi p2, vi p3, vi p4] [xi (0 : Int32), xj ((0 : Int64) + (own_h p2 (1 : Int32)))]) _
    refine XS.iloadN X2.here hx rfl (hb hby d8_47) rfl ?_
    show own_S p e below T2 (mkF m 48 #[vi (1 : Int32), vi p1, vi p2, vi p3, vi p4] [xi p3, xi (0 : Int32), xj ((0 : Int64) + (own_h p2 (1 : Int32)))]) _
    refine XS.iloadN X2.here hx rfl (hb hby d8_48) rfl ?_
    show own_S p e below T2 (mkF m 49 #[vi (1 : Int32), vi p1, vi p2, vi p3, vi p4] [xi (1 : Int32), xi p3, xi (0 : Int32), xj ((0 : Int64) + (own_h p2 (1 : Int32)))]) _
    refine st3 _ ?_
    show own_S p e below T3 (mkF m 52 #[vi (1 : Int32), vi p1, vi p2, vi p3, vi p4] [xj (0 : Int64), xj ((0 : Int64) + (own_h p2 (1 : Int32)))]) _
    refine XS.ladd X3.here hx rfl (hb hby d8_52) rfl ?_
    show own_S p e below T3 (mkF m 53 #[vi (1 : Int32), vi p1, vi p2, vi p3, vi p4] [xj (((0 : Int64) + (own_h p2 (1 : Int32))) + (0 : Int64))]) _
    show own_S p e below T3 (mkF m 53 #[vi (1 : Int32), vi p1, vi p2, vi p3, vi p4] [xj (((0 : Int64) + (own_h p2 (1 : Int32))) + (0 : Int64))]) _
    exact X3.lreturnOut hx Bd.returns (hb hby d8_53) hr
  · exact ⟨rfl, N3, e3⟩
theorem ef_own_c14_expected (m : MethodId) (u0 u1 u2 u3 u4 : Addr) (p1 : Int32) (p2 : Int32) (p3 : Int32) (p4 : Int32) : entryFrame m #[xi (2 : Int32), xi p1, xi p2, xi p3, xi p4] 5 = (mkF m 0 #[vi (2 : Int32), vi p1, vi p2, vi p3, vi p4] []) := by first | (simp [entryFrame, mkF, argsToLocals, Value.category]; done) | rfl
set_option maxRecDepth 65536 in
set_option maxHeartbeats 40000000 in
theorem own_c14_expected (l : Launch) (Z : State) (a0 : Array Value) (hw : ∀ d ∈ tables_1, d.before a0 Z = true) (u0 u1 u2 u3 u4 : Addr) (G : own_St Z u0 u1 u2 u3 u4) (p1 : Int32) (p2 : Int32) (p3 : Int32) (p4 : Int32) (as6 : (p4 &&& (1 : Int32)) = (0 : Int32)) (as9 : (p4 &&& (2 : Int32)) = (2 : Int32)) (as10 : (p4 &&& (4 : Int32)) = (0 : Int32)) (h0 : Heap) (n0 : Nat) (O0 : Old Z n0 h0) : own_Met l Z Y9 method_4_code 5 (some .long) ({ frames := 1, cells := 0, slots := 0, locals := 16 } : Room) #[xi (2 : Int32), xi p1, xi p2, xi p3, xi p4] h0 (own_QR (some (xj (((0 : Int64) + (own_h p2 (2 : Int32))) + (0 : Int64)))) h0 n0) := by
  intro ws
  refine MetFree.of_bodySF (plainFor_of_name pn3) hisR ?_
  intro p e s m args below meth c s₁ Bd hml0 hP hK
  obtain ⟨rfl, hZ, hh⟩ := hP
  have hx := Bd.exec
  have hby := Bd.bytes
  have hml : c.maxLocals = 5 := hml0
  have hown : s.vm.findClass "com/example/feedwright/feedwright/LoadSummaryAddPinLaw" = some m.cls := findClass_of_methodNamed Bd.named
  have hnm := (name_of_methodNamed Bd.named Bd.method).1
  have X0 : Stand p l e ({ frames := 1, cells := 0, slots := 0, locals := 16 } : Room) s m #[xi (2 : Int32), xi p1, xi p2, xi p3, xi p4] below meth c s₁ [] 0 0 := Stand.of_body Bd
  have e0 : s₁.heap = h0 := by rw [← hh, Bd.state]; rfl
  have N0 := Fr.nil n0
  have pre0 : ∀ t, Steps p.tables e below (s₁.setTop (mkF m 0 #[vi (2 : Int32), vi p1, vi p2, vi p3, vi p4] [])) t → Steps p.tables e below (s₁.setTop (entryFrame m #[xi (2 : Int32), xi p1, xi p2, xi p3, xi p4] 5)) t := fun t st => castTop (ef_own_c14_expected m u0 u1 u2 u3 u4 p1 p2 p3 p4) st
  obtain ⟨_, _, ⟨T1, L1, k1, n1⟩, -, X1, ⟨Lc1, hQ1, l1, y1, z1⟩, st1⟩ := Jvm.LawKit.callS X0 hx (y := Y6) hown (mvT hZ (ww hw 61 rfl)) (mvT hZ (ww hw 62 rfl)) (mvT hZ (ww hw 2 rfl)) (mvT hZ (ww hw 63 rfl)) (by decide) (backOf (W := 0) (own_hit_off l Z a0 hw u0 u1 u2 u3 u4 G p1 (2 : Int32) h0 n0 O0 []) hZ (ww hw 63 rfl) (ww hw 2 rfl) (by decide) (by decide)) (g := (mkF m 14 #[vi (2 : Int32), vi p1, vi p2, vi p3, vi p4] [xi (2 : Int32), xi p1, xi (0 : Int32)])) rfl (by rw [hml]; rfl) (argsL := [xi (0 : Int32), xi p1, xi (2 : Int32)]) (rest := []) (lenOf pd5 rfl) rfl (by show 2 * 0 + _ ≤ _; exact Nat.le_of_eq rfl) (hb hby d8_14) (fun _ _ => ⟨rfl, e0, (by decide : 0 + 0 ≤ _), (by decide : 0 + 0 ≤ _)⟩)
  dsimp only [Pt.U, Pt.locs, Pt.cells, Pt.slots] at X1 l1 y1 z1 st1 hQ1
  subst l1 y1 z1
  obtain ⟨rfl, Nq1, e1⟩ := hQ1
  have N1 := Fr.app N0 Nq1
  obtain ⟨_, _, ⟨T2, L2, k2, n2⟩, -, X2, ⟨Lc2, hQ2, l2, y2, z2⟩, st2⟩ := Jvm.LawKit.callS X1 hx (y := Y6) hown (mvT hZ (ww hw 61 rfl)) (mvT hZ (ww hw 62 rfl)) (mvT hZ (ww hw 2 rfl)) (mvT hZ (ww hw 63 rfl)) (by decide) (backOf (W := 2) (own_hit l Z a0 hw u0 u1 u2 u3 u4 G p2 (2 : Int32) h0 n0 O0 []) hZ (ww hw 63 rfl) (ww hw 2 rfl) (by decide) (by decide)) (g := (mkF m 31 #[vi (2 : Int32), vi p1, vi p2, vi p3, vi p4] [xi (2 : Int32), xi p2, xi (1 : Int32), xj (0 : Int64)])) rfl (by rw [hml]; rfl) (argsL := [xi (1 : Int32), xi p2, xi (2 : Int32)]) (rest := [xj (0 : Int64)]) (lenOf pd5 rfl) rfl (by show 2 * 0 + _ ≤ _; exact Nat.le_of_eq rfl) (hb hby d8_31) (fun _ _ => ⟨rfl, e1, (by decide : 0 + 0 ≤ _), (by decide : 0 + 0 ≤ _)⟩)
  dsimp only [Pt.U, Pt.locs, Pt.cells, Pt.slots] at X2 l2 y2 z2 st2 hQ2
  subst l2 y2 z2
  obtain ⟨rfl, Nq2, e2⟩ := hQ2
  have N2 := Fr.app N1 Nq2
  obtain ⟨_, _, ⟨T3, L3, k3, n3⟩, -, X3, ⟨Lc3, hQ3, l3, y3, z3⟩, st3⟩ := Jvm.LawKit.callS X2 hx (y := Y6) hown (mvT hZ (ww hw 61 rfl)) (mvT hZ (ww hw 62 rfl)) (mvT hZ (ww hw 2 rfl)) (mvT hZ (ww hw 63 rfl)) (by decide) (backOf (W := 2) (own_hit_off l Z a0 hw u0 u1 u2 u3 u4 G p3 (2 : Int32) h0 n0 O0 []) hZ (ww hw 63 rfl) (ww hw 2 rfl) (by decide) (by decide)) (g := (mkF m 49 #[vi (2 : Int32), vi p1, vi p2, vi p3, vi p4] [xi (2 : Int32), xi p3, xi (0 : Int32), xj ((0 : Int64) + (own_h p2 (2 : Int32)))])) rfl (by rw [hml]; rfl) (argsL := [xi (0 : Int32), xi p3, xi (2 : Int32)]) (rest := [xj ((0 : Int64) + (own_h p2 (2 : Int32)))]) (lenOf pd5 rfl) rfl (by show 2 * 0 + _ ≤ _; exact Nat.le_of_eq rfl) (hb hby d8_49) (fun _ _ => ⟨rfl, e2, (by decide : 0 + 0 ≤ _), (by decide : 0 + 0 ≤ _)⟩)
  dsimp only [Pt.U, Pt.locs, Pt.cells, Pt.slots] at X3 l3 y3 z3 st3 hQ3
  subst l3 y3 z3
  obtain ⟨rfl, Nq3, e3⟩ := hQ3
  have N3 := Fr.app N2 Nq3
  obtain ⟨fs, hr, hrun, hended, hW, hsame⟩ := X3.leave (v := some (xj (((0 : Int64) + (own_h p2 (2 : Int32))) + (0 : Int64)))) (fun h => by rw [Bd.returns] at h; cases h)
  refine ⟨_, _, pre0 _ ?_, hrun, hended, _, _, rfl, ?_, ⟨_, rfl⟩, hW, hsame.mono (by decide) (by decide)⟩
  · show own_S p e below s₁ (mkF m 0 #[vi (2 : Int32), vi p1, vi p2, vi p3, vi p4] []) _
    refine XS.iload X0.here hx rfl (hb hby d8_0) rfl ?_
    show own_S p e below s₁ (mkF m 2 #[vi (2 : Int32), vi p1, vi p2, vi p3, vi p4] [xi p4]) _
    refine XS.iconst X0.here hx rfl (hb hby d8_2) ?_
    show own_S p e below s₁ (mkF m 3 #[vi (2 : Int32), vi p1, vi p2, vi p3, vi p4] [xi (1 : Int32), xi p4]) _
    refine XS.iand X0.here hx rfl (hb hby d8_3) rfl ?_
    show own_S p e below s₁ (mkF m 4 #[vi (2 : Int32), vi p1, vi p2, vi p3, vi p4] [xi (p4 &&& (1 : Int32))]) _
    refine castTop (show (mkF m 4 #[vi (2 : Int32), vi p1, vi p2, vi p3, vi p4] [xi (p4 &&& (1 : Int32))]) = (mkF m 4 #[vi (2 : Int32), vi p1, vi p2, vi p3, vi p4] [xi (0 : Int32)]) from by rw [as6]) ?_
    show own_S p e below s₁ (mkF m 4 #[vi (2 : Int32), vi p1, vi p2, vi p3, vi p4] [xi (0 : Int32)]) _
    refine XS.ifYes X0.here hx rfl (pc0 := 4) (pc' := 11) rfl (hb hby d8_4) rfl (by decide) (by decide) (by decide) ?_
    show own_S p e below s₁ (mkF m 11 #[vi (2 : Int32), vi p1, vi p2, vi p3, vi p4] []) _
    refine XS.iconst X0.here hx rfl (hb hby d8_11) ?_
    show own_S p e below s₁ (mkF m 12 #[vi (2 : Int32), vi p1, vi p2, vi p3, vi p4] [xi (0 : Int32)]) _
    refine XS.iloadN X0.here hx rfl (hb hby d8_12) rfl ?_
    show own_S p e below s₁ (mkF m 13 #[vi (2 : Int32), vi p1, vi p2, vi p3, vi p4] [xi p1, xi (0 : Int32)]) _
    refine XS.iloadN X0.here hx rfl (hb hby d8_13) rfl ?_
    show own_S p e below s₁ (mkF m 14 #[vi (2 : Int32), vi p1, vi p2, vi p3, vi p4] [xi (2 : Int32), xi p1, xi (0 : Int32)]) _
    refine st1 _ ?_
    show own_S p e below T1 (mkF m 17 #[vi (2 : Int32), vi p1, vi p2, vi p3, vi p4] [xj (0 : Int64)]) _
    refine XS.iload X1.here hx rfl (hb hby d8_17) rfl ?_
    show own_S p e below T1 (mkF m 19 #[vi (2 : Int32), vi p1, vi p2, vi p3, vi p4] [xi p4, xj (0 : Int64)]) _
    refine XS.iconst X1.here hx rfl (hb hby d8_19) ?_
    show own_S p e below T1 (mkF m 20 #[vi (2 : Int32), vi p1, vi p2, vi p3, vi p4] [xi (2 : Int32), xi p4, xj (0 : Int64)]) _
    refine XS.iand X1.here hx rfl (hb hby d8_20) rfl ?_
    show own_S p e below T1 (mkF m 21 #[vi (2 : Int32), vi p1, vi p2, vi p3, vi p4] [xi (p4 &&& (2 : Int32)), xj (0 : Int64)]) _
    refine castTop (show (mkF m 21 #[vi (2 : Int32), vi p1, vi p2, vi p3, vi p4] [xi (p4 &&& (2 : Int32)), xj (0 : Int64)]) = (mkF m 21 #[vi (2 : Int32), vi p1, vi p2, vi p3, vi p4] [xi (2 : Int32), xj (0 : Int64)]) from by rw [as9]) ?_
    show own_S p e below T1 (mkF m 21 #[vi (2 : Int32), vi p1, vi p2, vi p3, vi p4] [xi (2 : Int32), xj (0 : Int64)]) _
    refine XS.ifNo X1.here hx rfl (hb hby d8_21) rfl (by decide) ?_
    show own_S p e below T1 (mkF m 24 #[vi (2 : Int32), vi p1, vi p2, vi p3, vi p4] [xj (0 : Int64)]) _
    refine XS.iconst X1.here hx rfl (hb hby d8_24) ?_
    show own_S p e below T1 (mkF m 25 #[vi (2 : Int32), vi p1, vi p2, vi p3, vi p4] [xi (1 : Int32), xj (0 : Int64)]) _
    refine XS.goto X1.here hx rfl (pc0 := 25) (pc' := 29) rfl (hb hby d8_25) (by decide) (by decide) ?_
    show own_S p e below T1 (mkF m 29 #[vi (2 : Int32), vi p1, vi p2, vi p3, vi p4] [xi (1 : Int32), xj (0 : Int64)]) _
    refine XS.iloadN X1.here hx rfl (hb hby d8_29) rfl ?_
    show own_S p e below T1 (mkF m 30 #[vi (2 : Int32), vi p1, vi p2, vi p3, vi p4] [xi p2, xi (1 : Int32), xj (0 : Int64)]) _
    refine XS.iloadN X1.here hx rfl (hb hby d8_30) rfl ?_
    show own_S p e below T1 (mkF m 31 #[vi (2 : Int32), vi p1, vi p2, vi p3, vi p4] [xi (2 : Int32), xi p2, xi (1 : Int32), xj (0 : Int64)]) _
    refine st2 _ ?_
    show own_S p e below T2 (mkF m 34 #[vi (2 : Int32), vi p1, vi p2, vi p3, vi p4] [xj (own_h p2 (2 : Int32)), xj (0 : Int64)]) _
    refine XS.ladd X2.here hx rfl (hb hby d8_34) rfl ?_
    show own_S p e below T2 (mkF m 35 #[vi (2 : Int32), vi p1, vi p2, vi p3, vi p4] [xj ((0 : Int64) + (own_h p2 (2 : Int32)))]) _
    show own_S p e below T2 (mkF m 35 #[vi (2 : Int32), vi p1, vi p2, vi p3, vi p4] [xj ((0 : Int64) + (own_h p2 (2 : Int32)))]) _
    refine XS.iload X2.here hx rfl (hb hby d8_35) rfl ?_
    show own_S p e below T2 (mkF m 37 #[vi (2 : Int32), vi p1, vi p2, vi p3, vi p4] [xi p4, xj ((0 : Int64) + (own_h p2 (2 : Int32)))]) _
    refine XS.iconst X2.here hx rfl (hb hby d8_37) ?_
    show own_S p e below T2 (mkF m 38 #[vi (2 : Int32), vi p1, vi p2, vi p3, vi p4] [xi (4 : Int32), xi p4, xj ((0 : Int64) + (own_h p2 (2 : Int32)))]) _
    refine XS.iand X2.here hx rfl (hb hby d8_38) rfl ?_
    show own_S p e below T2 (mkF m 39 #[vi (2 : Int32), vi p1, vi p2, vi p3, vi p4] [xi (p4 &&& (4 : Int32)), xj ((0 : Int64) + (own_h p2 (2 : Int32)))]) _
    refine castTop (show (mkF m 39 #[vi (2 : Int32), vi p1, vi p2, vi p3, vi p4] [xi (p4 &&& (4 : Int32)), xj ((0 : Int64) + (own_h p2 (2 : Int32)))]) = (mkF m 39 #[vi (2 : Int32), vi p1, vi p2, vi p3, vi p4] [xi (0 : Int32), xj ((0 : Int64) + (own_h p2 (2 : Int32)))]) from by rw [as10]) ?_
    show own_S p e below T2 (mkF m 39 #[vi (2 : Int32), vi p1, vi p2, vi p3, vi p4] [xi (0 : Int32), xj ((0 : Int64) + (own_h p2 (2 : Int32)))]) _
    refine XS.ifYes X2.here hx rfl (pc0 := 39) (pc' := 46) rfl (hb hby d8_39) rfl (by decide) (by decide) (by decide) ?_
    show own_S p e below T2 (mkF m 46 #[vi (2 : Int32), vi p1, vi p2, vi p3, vi p4] [xj ((0 : Int64) + (own_h p2 (2 : Int32)))]) _
    refine XS.iconst X2.here hx rfl (hb hby d8_46) ?_
    show own_S p e below T2 (mkF m 47 #[vi (2 : Int32), vi p1, vi p2, vi p3, vi p4] [xi (0 : Int32), xj ((0 : Int64) + (own_h p2 (2 : Int32)))]) _
    refine XS.iloadN X2.here hx rfl (hb hby d8_47) rfl ?_
    show own_S p e below T2 (mkF m 48 #[vi (2 : Int32), vi p1, vi p2, vi p3, vi p4] [xi p3, xi (0 : Int32), xj ((0 : Int64) + (own_h p2 (2 : Int32)))]) _
    refine XS.iloadN X2.here hx rfl (hb hby d8_48) rfl ?_
    show own_S p e below T2 (mkF m 49 #[vi (2 : Int32), vi p1, vi p2, vi p3, vi p4] [xi (2 : Int32), xi p3, xi (0 : Int32), xj ((0 : Int64) + (own_h p2 (2 : Int32)))]) _
    refine st3 _ ?_
    show own_S p e below T3 (mkF m 52 #[vi (2 : Int32), vi p1, vi p2, vi p3, vi p4] [xj (0 : Int64), xj ((0 : Int64) + (own_h p2 (2 : Int32)))]) _
    refine XS.ladd X3.here hx rfl (hb hby d8_52) rfl ?_
    show own_S p e below T3 (mkF m 53 #[vi (2 : Int32), vi p1, vi p2, vi p3, vi p4] [xj (((0 : Int64) + (own_h p2 (2 : Int32))) + (0 : Int64))]) _
    show own_S p e below T3 (mkF m 53 #[vi (2 : Int32), vi p1, vi p2, vi p3, vi p4] [xj (((0 : Int64) + (own_h p2 (2 : Int32))) + (0 : Int64))]) _
    exact X3.lreturnOut hx Bd.returns (hb hby d8_53) hr
  · exact ⟨rfl, N3, e3⟩
theorem ef_own_c15_expected (m : MethodId) (u0 u1 u2 u3 u4 : Addr) (p1 : Int32) (p2 : Int32) (p3 : Int32) (p4 : Int32) : entryFrame m #[xi (3 : Int32), xi p1, xi p2, xi p3, xi p4] 5 = (mkF m 0 #[vi (3 : Int32), vi p1, vi p2, vi p3, vi p4] []) := by first | (simp [entryFrame, mkF, argsToLocals, Value.category]; done) | rfl
set_option maxRecDepth 65536 in
set_option maxHeartbeats 40000000 in
theorem own_c15_expected (l : Launch) (Z : State) (a0 : Array Value) (hw : ∀ d ∈ tables_1, d.before a0 Z = true) (u0 u1 u2 u3 u4 : Addr) (G : own_St Z u0 u1 u2 u3 u4) (p1 : Int32) (p2 : Int32) (p3 : Int32) (p4 : Int32) (as6 : (p4 &&& (1 : Int32)) = (0 : Int32)) (as9 : (p4 &&& (2 : Int32)) = (2 : Int32)) (as10 : (p4 &&& (4 : Int32)) = (0 : Int32)) (h0 : Heap) (n0 : Nat) (O0 : Old Z n0 h0) : own_Met l Z Y9 method_4_code 5 (some .long) ({ frames := 1, cells := 0, slots := 0, locals := 16 } : Room) #[xi (3 : Int32), xi p1, xi p2, xi p3, xi p4] h0 (own_QR (some (xj (((0 : Int64) + (own_h p2 (3 : Int32))) + (0 : Int64)))) h0 n0) := by
  intro ws
  refine MetFree.of_bodySF (plainFor_of_name pn3) hisR ?_
  intro p e s m args below meth c s₁ Bd hml0 hP hK
  obtain ⟨rfl, hZ, hh⟩ := hP
  have hx := Bd.exec
  have hby := Bd.bytes
  have hml : c.maxLocals = 5 := hml0
  have hown : s.vm.findClass "com/example/feedwright/feedwright/LoadSummaryAddPinLaw" = some m.cls := findClass_of_methodNamed Bd.named
  have hnm := (name_of_methodNamed Bd.named Bd.method).1
  have X0 : Stand p l e ({ frames := 1, cells := 0, slots := 0, locals := 16 } : Room) s m #[xi (3 : Int32), xi p1, xi p2, xi p3, xi p4] below meth c s₁ [] 0 0 := Stand.of_body Bd
  have e0 : s₁.heap = h0 := by rw [← hh, Bd.state]; rfl
  have N0 := Fr.nil n0
  have pre0 : ∀ t, Steps p.tables e below (s₁.setTop (mkF m 0 #[vi (3 : Int32), vi p1, vi p2, vi p3, vi p4] [])) t → Steps p.tables e below (s₁.setTop (entryFrame m #[xi (3 : Int32), xi p1, xi p2, xi p3, xi p4] 5)) t := fun t st => castTop (ef_own_c15_expected m u0 u1 u2 u3 u4 p1 p2 p3 p4) st
  obtain ⟨_, _, ⟨T1, L1, k1, n1⟩, -, X1, ⟨Lc1, hQ1, l1, y1, z1⟩, st1⟩ := Jvm.LawKit.callS X0 hx (y := Y6) hown (mvT hZ (ww hw 61 rfl)) (mvT hZ (ww hw 62 rfl)) (mvT hZ (ww hw 2 rfl)) (mvT hZ (ww hw 63 rfl)) (by decide) (backOf (W := 0) (own_hit_off l Z a0 hw u0 u1 u2 u3 u4 G p1 (3 : Int32) h0 n0 O0 []) hZ (ww hw 63 rfl) (ww hw 2 rfl) (by decide) (by decide)) (g := (mkF m 14 #[vi (3 : Int32), vi p1, vi p2, vi p3, vi p4] [xi (3 : Int32), xi p1, xi (0 : Int32)])) rfl (by rw [hml]; rfl) (argsL := [xi (0 : Int32), xi p1, xi (3 : Int32)]) (rest := []) (lenOf pd5 rfl) rfl (by show 2 * 0 + _ ≤ _; exact Nat.le_of_eq rfl) (hb hby d8_14) (fun _ _ => ⟨rfl, e0, (by decide : 0 + 0 ≤ _), (by decide : 0 + 0 ≤ _)⟩)
  dsimp only [Pt.U, Pt.locs, Pt.cells, Pt.slots] at X1 l1 y1 z1 st1 hQ1
  subst l1 y1 z1
  obtain ⟨rfl, Nq1, e1⟩ := hQ1
  have N1 := Fr.app N0 Nq1
  obtain ⟨_, _, ⟨T2, L2, k2, n2⟩, -, X2, ⟨Lc2, hQ2, l2, y2, z2⟩, st2⟩ := Jvm.LawKit.callS X1 hx (y := Y6) hown (mvT hZ (ww hw 61 rfl)) (mvT hZ (ww hw 62 rfl)) (mvT hZ (ww hw 2 rfl)) (mvT hZ (ww hw 63 rfl)) (by decide) (backOf (W := 2) (own_hit l Z a0 hw u0 u1 u2 u3 u4 G p2 (3 : Int32) h0 n0 O0 []) hZ (ww hw 63 rfl) (ww hw 2 rfl) (by decide) (by decide)) (g := (mkF m 31 #[vi (3 : Int32), vi p1, vi p2, vi p3, vi p4] [xi (3 : Int32), xi p2, xi (1 : Int32), xj (0 : Int64)])) rfl (by rw [hml]; rfl) (argsL := [xi (1 : Int32), xi p2, xi (3 : Int32)]) (rest := [xj (0 : Int64)]) (lenOf pd5 rfl) rfl (by show 2 * 0 + _ ≤ _; exact Nat.le_of_eq rfl) (hb hby d8_31) (fun _ _ => ⟨rfl, e1, (by decide : 0 + 0 ≤ _), (by decide : 0 + 0 ≤ _)⟩)
  dsimp only [Pt.U, Pt.locs, Pt.cells, Pt.slots] at X2 l2 y2 z2 st2 hQ2
  subst l2 y2 z2
  obtain ⟨rfl, Nq2, e2⟩ := hQ2
  have N2 := Fr.app N1 Nq2
  obtain ⟨_, _, ⟨T3, L3, k3, n3⟩, -, X3, ⟨Lc3, hQ3, l3, y3, z3⟩, st3⟩ := Jvm.LawKit.callS X2 hx (y := Y6) hown (mvT hZ (ww hw 61 rfl)) (mvT hZ (ww hw 62 rfl)) (mvT hZ (ww hw 2 rfl)) (mvT hZ (ww hw 63 rfl)) (by decide) (backOf (W := 2) (own_hit_off l Z a0 hw u0 u1 u2 u3 u4 G p3 (3 : Int32) h0 n0 O0 []) hZ (ww hw 63 rfl) (ww hw 2 rfl) (by decide) (by decide)) (g := (mkF m 49 #[vi (3 : Int32), vi p1, vi p2, vi p3, vi p4] [xi (3 : Int32), xi p3, xi (0 : Int32), xj ((0 : Int64) + (own_h p2 (3 : Int32)))])) rfl (by rw [hml]; rfl) (argsL := [xi (0 : Int32), xi p3, xi (3 : Int32)]) (rest := [xj ((0 : Int64) + (own_h p2 (3 : Int32)))]) (lenOf pd5 rfl) rfl (by show 2 * 0 + _ ≤ _; exact Nat.le_of_eq rfl) (hb hby d8_49) (fun _ _ => ⟨rfl, e2, (by decide : 0 + 0 ≤ _), (by decide : 0 + 0 ≤ _)⟩)
  dsimp only [Pt.U, Pt.locs, Pt.cells, Pt.slots] at X3 l3 y3 z3 st3 hQ3
  subst l3 y3 z3
  obtain ⟨rfl, Nq3, e3⟩ := hQ3
  have N3 := Fr.app N2 Nq3
  obtain ⟨fs, hr, hrun, hended, hW, hsame⟩ := X3.leave (v := some (xj (((0 : Int64) + (own_h p2 (3 : Int32))) + (0 : Int64)))) (fun h => by rw [Bd.returns] at h; cases h)
  refine ⟨_, _, pre0 _ ?_, hrun, hended, _, _, rfl, ?_, ⟨_, rfl⟩, hW, hsame.mono (by decide) (by decide)⟩
  · show own_S p e below s₁ (mkF m 0 #[vi (3 : Int32), vi p1, vi p2, vi p3, vi p4] []) _
    refine XS.iload X0.here hx rfl (hb hby d8_0) rfl ?_
    show own_S p e below s₁ (mkF m 2 #[vi (3 : Int32), vi p1, vi p2, vi p3, vi p4] [xi p4]) _
    refine XS.iconst X0.here hx rfl (hb hby d8_2) ?_
    show own_S p e below s₁ (mkF m 3 #[vi (3 : Int32), vi p1, vi p2, vi p3, vi p4] [xi (1 : Int32), xi p4]) _
    refine XS.iand X0.here hx rfl (hb hby d8_3) rfl ?_
    show own_S p e below s₁ (mkF m 4 #[vi (3 : Int32), vi p1, vi p2, vi p3, vi p4] [xi (p4 &&& (1 : Int32))]) _
    refine castTop (show (mkF m 4 #[vi (3 : Int32), vi p1, vi p2, vi p3, vi p4] [xi (p4 &&& (1 : Int32))]) = (mkF m 4 #[vi (3 : Int32), vi p1, vi p2, vi p3, vi p4] [xi (0 : Int32)]) from by rw [as6]) ?_
    show own_S p e below s₁ (mkF m 4 #[vi (3 : Int32), vi p1, vi p2, vi p3, vi p4] [xi (0 : Int32)]) _
    refine XS.ifYes X0.here hx rfl (pc0 := 4) (pc' := 11) rfl (hb hby d8_4) rfl (by decide) (by decide) (by decide) ?_
    show own_S p e below s₁ (mkF m 11 #[vi (3 : Int32), vi p1, vi p2, vi p3, vi p4] []) _
    refine XS.iconst X0.here hx rfl (hb hby d8_11) ?_
    show own_S p e below s₁ (mkF m 12 #[vi (3 : Int32), vi p1, vi p2, vi p3, vi p4] [xi (0 : Int32)]) _
    refine XS.iloadN X0.here hx rfl (hb hby d8_12) rfl ?_
    show own_S p e below s₁ (mkF m 13 #[vi (3 : Int32), vi p1, vi p2, vi p3, vi p4] [xi p1, xi (0 : Int32)]) _
    refine XS.iloadN X0.here hx rfl (hb hby d8_13) rfl ?_
    show own_S p e below s₁ (mkF m 14 #[vi (3 : Int32), vi p1, vi p2, vi p3, vi p4] [xi (3 : Int32), xi p1, xi (0 : Int32)]) _
    refine st1 _ ?_
    show own_S p e below T1 (mkF m 17 #[vi (3 : Int32), vi p1, vi p2, vi p3, vi p4] [xj (0 : Int64)]) _
    refine XS.iload X1.here hx rfl (hb hby d8_17) rfl ?_
    show own_S p e below T1 (mkF m 19 #[vi (3 : Int32), vi p1, vi p2, vi p3, vi p4] [xi p4, xj (0 : Int64)]) _
    refine XS.iconst X1.here hx rfl (hb hby d8_19) ?_
    show own_S p e below T1 (mkF m 20 #[vi (3 : Int32), vi p1, vi p2, vi p3, vi p4] [xi (2 : Int32), xi p4, xj (0 : Int64)]) _
    refine XS.iand X1.here hx rfl (hb hby d8_20) rfl ?_
    show own_S p e below T1 (mkF m 21 #[vi (3 : Int32), vi p1, vi p2, vi p3, vi p4] [xi (p4 &&& (2 : Int32)), xj (0 : Int64)]) _
    refine castTop (show (mkF m 21 #[vi (3 : Int32), vi p1, vi p2, vi p3, vi p4] [xi (p4 &&& (2 : Int32)), xj (0 : Int64)]) = (mkF m 21 #[vi (3 : Int32), vi p1, vi p2, vi p3, vi p4] [xi (2 : Int32), xj (0 : Int64)]) from by rw [as9]) ?_
    show own_S p e below T1 (mkF m 21 #[vi (3 : Int32), vi p1, vi p2, vi p3, vi p4] [xi (2 : Int32), xj (0 : Int64)]) _
    refine XS.ifNo X1.here hx rfl (hb hby d8_21) rfl (by decide) ?_
    show own_S p e below T1 (mkF m 24 #[vi (3 : Int32), vi p1, vi p2, vi p3, vi p4] [xj (0 : Int64)]) _
    refine XS.iconst X1.here hx rfl (hb hby d8_24) ?_
    show own_S p e below T1 (mkF m 25 #[vi (3 : Int32), vi p1, vi p2, vi p3, vi p4] [xi (1 : Int32), xj (0 : Int64)]) _
    refine XS.goto X1.here hx rfl (pc0 := 25) (pc' := 29) rfl (hb hby d8_25) (by decide) (by decide) ?_
    show own_S p e below T1 (mkF m 29 #[vi (3 : Int32), vi p1, vi p2, vi p3, vi p4] [xi (1 : Int32), xj (0 : Int64)]) _
    refine XS.iloadN X1.here hx rfl (hb hby d8_29) rfl ?_
    show own_S p e below T1 (mkF m 30 #[vi (3 : Int32), vi p1, vi p2, vi p3, vi p4] [xi p2, xi (1 : Int32), xj (0 : Int64)]) _
    refine XS.iloadN X1.here hx rfl (hb hby d8_30) rfl ?_
    show own_S p e below T1 (mkF m 31 #[vi (3 : Int32), vi p1, vi p2, vi p3, vi p4] [xi (3 : Int32), xi p2, xi (1 : Int32), xj (0 : Int64)]) _
    refine st2 _ ?_
    show own_S p e below T2 (mkF m 34 #[vi (3 : Int32), vi p1, vi p2, vi p3, vi p4] [xj (own_h p2 (3 : Int32)), xj (0 : Int64)]) _
    refine XS.ladd X2.here hx rfl (hb hby d8_34) rfl ?_
    show own_S p e below T2 (mkF m 35 #[vi (3 : Int32), vi p1, vi p2, vi p3, vi p4] [xj ((0 : Int64) + (own_h p2 (3 : Int32)))]) _
    show own_S p e below T2 (mkF m 35 #[vi (3 : Int32), vi p1, vi p2, vi p3, vi p4] [xj ((0 : Int64) + (own_h p2 (3 : Int32)))]) _
    refine XS.iload X2.here hx rfl (hb hby d8_35) rfl ?_
    show own_S p e below T2 (mkF m 37 #[vi (3 : Int32), vi p1, vi p2, vi p3, vi p4] [xi p4, xj ((0 : Int64) + (own_h p2 (3 : Int32)))]) _
    refine XS.iconst X2.here hx rfl (hb hby d8_37) ?_
    show own_S p e below T2 (mkF m 38 #[vi (3 : Int32), vi p1, vi p2, vi p3, vi p4] [xi (4 : Int32), xi p4, xj ((0 : Int64) + (own_h p2 (3 : Int32)))]) _
    refine XS.iand X2.here hx rfl (hb hby d8_38) rfl ?_
    show own_S p e below T2 (mkF m 39 #[vi (3 : Int32), vi p1, vi p2, vi p3, vi p4] [xi (p4 &&& (4 : Int32)), xj ((0 : Int64) + (own_h p2 (3 : Int32)))]) _
    refine castTop (show (mkF m 39 #[vi (3 : Int32), vi p1, vi p2, vi p3, vi p4] [xi (p4 &&& (4 : Int32)), xj ((0 : Int64) + (own_h p2 (3 : Int32)))]) = (mkF m 39 #[vi (3 : Int32), vi p1, vi p2, vi p3, vi p4] [xi (0 : Int32), xj ((0 : Int64) + (own_h p2 (3 : Int32)))]) from by rw [as10]) ?_
    show own_S p e below T2 (mkF m 39 #[vi (3 : Int32), vi p1, vi p2, vi p3, vi p4] [xi (0 : Int32), xj ((0 : Int64) + (own_h p2 (3 : Int32)))]) _
    refine XS.ifYes X2.here hx rfl (pc0 := 39) (pc' := 46) rfl (hb hby d8_39) rfl (by decide) (by decide) (by decide) ?_
    show own_S p e below T2 (mkF m 46 #[vi (3 : Int32), vi p1, vi p2, vi p3, vi p4] [xj ((0 : Int64) + (own_h p2 (3 : Int32)))]) _
    refine XS.iconst X2.here hx rfl (hb hby d8_46) ?_
    show own_S p e below T2 (mkF m 47 #[vi (3 : Int32), vi p1, vi p2, vi p3, vi p4] [xi (0 : Int32), xj ((0 : Int64) + (own_h p2 (3 : Int32)))]) _
    refine XS.iloadN X2.here hx rfl (hb hby d8_47) rfl ?_
    show own_S p e below T2 (mkF m 48 #[vi (3 : Int32), vi p1, vi p2, vi p3, vi p4] [xi p3, xi (0 : Int32), xj ((0 : Int64) + (own_h p2 (3 : Int32)))]) _
    refine XS.iloadN X2.here hx rfl (hb hby d8_48) rfl ?_
    show own_S p e below T2 (mkF m 49 #[vi (3 : Int32), vi p1, vi p2, vi p3, vi p4] [xi (3 : Int32), xi p3, xi (0 : Int32), xj ((0 : Int64) + (own_h p2 (3 : Int32)))]) _
    refine st3 _ ?_
    show own_S p e below T3 (mkF m 52 #[vi (3 : Int32), vi p1, vi p2, vi p3, vi p4] [xj (0 : Int64), xj ((0 : Int64) + (own_h p2 (3 : Int32)))]) _
    refine XS.ladd X3.here hx rfl (hb hby d8_52) rfl ?_
    show own_S p e below T3 (mkF m 53 #[vi (3 : Int32), vi p1, vi p2, vi p3, vi p4] [xj (((0 : Int64) + (own_h p2 (3 : Int32))) + (0 : Int64))]) _
    show own_S p e below T3 (mkF m 53 #[vi (3 : Int32), vi p1, vi p2, vi p3, vi p4] [xj (((0 : Int64) + (own_h p2 (3 : Int32))) + (0 : Int64))]) _
    exact X3.lreturnOut hx Bd.returns (hb hby d8_53) hr
  · exact ⟨rfl, N3, e3⟩
theorem ef_own_l2 (m : MethodId) (u0 u1 u2 u3 u4 : Addr) (p1 : Int32) (p2 : Int32) (p3 : Int32) (p4 : Int32) (va1 : Addr) (va2 : Addr) (va3 : Addr) : entryFrame m #[xi p1, xi p2, xi p3, xi p4] maxLocals = (mkF m 0 #[vi p1, vi p2, vi p3, vi p4, vu, vu, vu, vu, vu, vu, vu, vu, vu] []) := by first | (simp [entryFrame, mkF, argsToLocals, Value.category, maxLocals]; done) | rfl
set_option maxRecDepth 65536 in
set_option maxHeartbeats 40000000 in
theorem own_l2 (l : Launch) (Z : State) (a0 : Array Value) (hw : ∀ d ∈ tables_1, d.before a0 Z = true) (u0 u1 u2 u3 u4 : Addr) (G : own_St Z u0 u1 u2 u3 u4) (p1 : Int32) (p2 : Int32) (p3 : Int32) (p4 : Int32) (va1 : Addr) (va2 : Addr) (va3 : Addr) (as6 : (p4 &&& (1 : Int32)) = (0 : Int32)) (as9 : (p4 &&& (2 : Int32)) = (2 : Int32)) (as10 : (p4 &&& (4 : Int32)) = (0 : Int32)) (hv1 : own_is u0 u1 u2 u3 u4 p1 va1) (hv2 : own_is u0 u1 u2 u3 u4 p2 va2) (hv3 : own_is u0 u1 u2 u3 u4 p3 va3) (h0 : Heap) (n0 : Nat) (O0 : Old Z n0 h0) : own_Met l Z x code maxLocals ret room_1 #[xi p1, xi p2, xi p3, xi p4] h0 (own_QL (some (xi (1 : Int32))) n0) := by
  intro ws
  refine MetFree.of_bodySF (plainFor_of_name pn3) hisR ?_
  intro p e s m args below meth c s₁ Bd hml0 hP hK
  obtain ⟨rfl, hZ, hh⟩ := hP
  have hx := Bd.exec
  have hby := Bd.bytes
  have hml : c.maxLocals = 13 := hml0
  have hown : s.vm.findClass "com/example/feedwright/feedwright/LoadSummaryAddPinLaw" = some m.cls := findClass_of_methodNamed Bd.named
  have hnm := (name_of_methodNamed Bd.named Bd.method).1
  have X0 : Stand p l e room_1 s m #[xi p1, xi p2, xi p3, xi p4] below meth c s₁ [] 0 0 := Stand.of_body Bd
  have e0 : s₁.heap = h0 := by rw [← hh, Bd.state]; rfl
  have N0 := Fr.nil n0
  have pre0 : ∀ t, Steps p.tables e below (s₁.setTop (mkF m 0 #[vi p1, vi p2, vi p3, vi p4, vu, vu, vu, vu, vu, vu, vu, vu, vu] [])) t → Steps p.tables e below (s₁.setTop (entryFrame m #[xi p1, xi p2, xi p3, xi p4] maxLocals)) t := fun t st => castTop (ef_own_l2 m u0 u1 u2 u3 u4 p1 p2 p3 p4 va1 va2 va3) st
  obtain ⟨_, _, ⟨T1, L1, k1, n1⟩, -, X1, ⟨Lc1, hQ1, l1, y1, z1⟩, st1⟩ := Jvm.LawKit.callS X0 hx (y := Y5) hown (mvT hZ (ww hw 0 rfl)) (mvT hZ (ww hw 1 rfl)) (mvT hZ (ww hw 2 rfl)) (mvT hZ (ww hw 3 rfl)) (by decide) (backOf (W := 0) (own_pick l Z a0 hw u0 u1 u2 u3 u4 G p1 va1 hv1 h0 n0 O0 []) hZ (ww hw 3 rfl) (ww hw 2 rfl) (by decide) (by decide)) (g := (mkF m 40 #[vi p1, vi p2, vi p3, vi p4, vi (0 : Int32), vi (1 : Int32), vi (0 : Int32), vu, vu, vu, vu, vu, vu] [xi p1])) rfl (by rw [hml]; rfl) (argsL := [xi p1]) (rest := []) (lenOf pd2 rfl) rfl (by show 2 * 0 + _ ≤ _; exact Nat.le_of_eq rfl) (hb hby at_40) (fun _ _ => ⟨rfl, e0, (by decide : 0 + 0 ≤ _), (by decide : 0 + 0 ≤ _)⟩)
  dsimp only [Pt.U, Pt.locs, Pt.cells, Pt.slots] at X1 l1 y1 z1 st1 hQ1
  subst l1 y1 z1
  obtain ⟨rfl, Nq1, e1⟩ := hQ1
  have N1 := Fr.app N0 Nq1
  obtain ⟨_, _, ⟨T2, L2, k2, n2⟩, -, X2, ⟨Lc2, hQ2, l2, y2, z2⟩, st2⟩ := Jvm.LawKit.callS X1 hx (y := Y5) hown (mvT hZ (ww hw 0 rfl)) (mvT hZ (ww hw 1 rfl)) (mvT hZ (ww hw 2 rfl)) (mvT hZ (ww hw 3 rfl)) (by decide) (backOf (W := 0) (own_pick l Z a0 hw u0 u1 u2 u3 u4 G p2 va2 hv2 h0 n0 O0 []) hZ (ww hw 3 rfl) (ww hw 2 rfl) (by decide) (by decide)) (g := (mkF m 46 #[vi p1, vi p2, vi p3, vi p4, vi (0 : Int32), vi (1 : Int32), vi (0 : Int32), vr va1, vu, vu, vu, vu, vu] [xi p2])) rfl (by rw [hml]; rfl) (argsL := [xi p2]) (rest := []) (lenOf pd2 rfl) rfl (by show 2 * 0 + _ ≤ _; exact Nat.le_of_eq rfl) (hb hby at_46) (fun _ _ => ⟨rfl, e1, (by decide : 0 + 0 ≤ _), (by decide : 0 + 0 ≤ _)⟩)
  dsimp only [Pt.U, Pt.locs, Pt.cells, Pt.slots] at X2 l2 y2 z2 st2 hQ2
  subst l2 y2 z2
  obtain ⟨rfl, Nq2, e2⟩ := hQ2
  have N2 := Fr.app N1 Nq2
  obtain ⟨_, _, ⟨T3, L3, k3, n3⟩, -, X3, ⟨Lc3, hQ3, l3, y3, z3⟩, st3⟩ := Jvm.LawKit.callS X2 hx (y := Y5) hown (mvT hZ (ww hw 0 rfl)) (mvT hZ (ww hw 1 rfl)) (mvT hZ (ww hw 2 rfl)) (mvT hZ (ww hw 3 rfl)) (by decide) (backOf (W := 0) (own_pick l Z a0 hw u0 u1 u2 u3 u4 G p3 va3 hv3 h0 n0 O0 []) hZ (ww hw 3 rfl) (ww hw 2 rfl) (by decide) (by decide)) (g := (mkF m 52 #[vi p1, vi p2, vi p3, vi p4, vi (0 : Int32), vi (1 : Int32), vi (0 : Int32), vr va1, vr va2, vu, vu, vu, vu] [xi p3])) rfl (by rw [hml]; rfl) (argsL := [xi p3]) (rest := []) (lenOf pd2 rfl) rfl (by show 2 * 0 + _ ≤ _; exact Nat.le_of_eq rfl) (hb hby at_52) (fun _ _ => ⟨rfl, e2, (by decide : 0 + 0 ≤ _), (by decide : 0 + 0 ≤ _)⟩)
  dsimp only [Pt.U, Pt.locs, Pt.cells, Pt.slots] at X3 l3 y3 z3 st3 hQ3
  subst l3 y3 z3
  obtain ⟨rfl, Nq3, e3⟩ := hQ3
  have N3 := Fr.app N2 Nq3
  obtain ⟨T4, h4, X4, e4, E4, A4, D4, -, st4⟩ := newO X3 hx hZ hown (ww hw 11 rfl) (ww hw 12 rfl) (ww hw 13 rfl) e3 (g := (mkF m 57 #[vi p1, vi p2, vi p3, vi p4, vi (0 : Int32), vi (1 : Int32), vi (0 : Int32), vr va1, vr va2, vr va3, vu, vu, vu] [])) rfl (hb hby at_57) (by decide) (by decide)
  obtain ⟨b4, g4⟩ : ∃ z, z = h0.size := ⟨_, rfl⟩
  rw [← g4] at A4 D4 st4
  have g_b4 : n0 ≤ b4 := own_fresh O0 g4
  have O4 : Old Z n0 h4 := O0.ext E4
  have F_b4_counts : Fld Z h4 b4 "com/example/feedwright/feedwright/LoadSummary" "counts" "[J" .null := D4 (Or.inr (ww hw 38 rfl)) (ty := (.array .long)) (by decide)
  obtain ⟨_, _, ⟨T5, L5, k5, n5⟩, -, X5, ⟨Lc5, hQ5, l5, y5, z5⟩, st5⟩ := X4.specialBack hx (y := Y1) rfl hown (mvT hZ (ww hw 14 rfl)) (mvT hZ (ww hw 15 rfl)) (mvT hZ (ww hw 16 rfl)) (by decide) (backOf (W := 1) (own_init l Z a0 hw u0 u1 u2 u3 u4 G b4 h4 n0 O4 A4 F_b4_counts g_b4 []) hZ (ww hw 16 rfl) (ww hw 13 rfl) (by decide) (by decide)) (g := (mkF m 61 #[vi p1, vi p2, vi p3, vi p4, vi (0 : Int32), vi (1 : Int32), vi (0 : Int32), vr va1, vr va2, vr va3, vu, vu, vu] [xr b4, xr b4])) rfl (by rw [hml]; rfl) (Steps.refl _) (a := b4) (argsL := []) (rest := [xr b4]) (lenOf pd3 rfl) rfl (by show 2 * 0 + _ ≤ _; exact Nat.le_of_eq rfl) (hb hby at_61) (fun _ _ => ⟨rfl, e4, (by decide : 1 + 2 ≤ _), (by decide : 1 + 8 ≤ _)⟩)
  dsimp only [Pt.U, Pt.locs, Pt.cells, Pt.slots] at X5 l5 y5 z5 st5 hQ5
  subst l5 y5 z5
  obtain ⟨h5, e5⟩ : ∃ z, T5.heap = z := ⟨_, rfl⟩
  rw [e5] at hQ5
  obtain ⟨rfl, Nq5, K5, bb5, kk5, -, Fc5, Vb5, nb5, -, g_bb5⟩ := hQ5
  have N5 := Fr.app N3 Nq5
  have O5 : Old Z n0 h5 := O4.keep K5 (allS g_b4 all0)
  have X_b4_5 := A4.keep K5
  obtain ⟨cq6, kq6, qa6, qb6, qc6⟩ := isOf hZ e5 X_b4_5
  obtain ⟨_, _, ⟨T6, L6, k6, n6⟩, -, X6, ⟨Lc6, hQ6, l6, y6, z6⟩, st6⟩ := X5.virtualBack hx (y := Y4) (z := Y4) hown (mvT hZ (ww hw 39 rfl)) (mvT hZ (ww hw 40 rfl)) (notFace_of_selects (args := #[]) (mvT hZ (ww hw 42 rfl))) (mvT hZ (ww hw 42 rfl)) (mvT hZ (ww hw 41 rfl)) (by decide) (backOf (W := 0) (own_add l Z a0 hw u0 u1 u2 u3 u4 G b4 bb5 kk5 (0 : Int64) (0 : Int64) (0 : Int64) (0 : Int64) p2 va2 hv2 h5 n0 O5 ⟨X_b4_5, Fc5, Vb5, nb5, g_b4, g_bb5⟩ []) hZ (ww hw 43 rfl) (ww hw 13 rfl) (by decide) (by decide)) qa6 qc6 (g := (mkF m 87 #[vi p1, vi p2, vi p3, vi p4, vi (0 : Int32), vi (1 : Int32), vi (0 : Int32), vr va1, vr va2, vr va3, vr b4, vu, vu] [xr va2, xr b4])) rfl (by rw [hml]; rfl) (Steps.refl _) (argsL := [xr va2]) (rest := []) (lenOf pd8 rfl) rfl (by show 2 * 0 + _ ≤ _; exact Nat.le_of_eq rfl) (hb hby at_87) (fun _ _ => ⟨rfl, e5, (by decide : 3 + 0 ≤ _), (by decide : 9 + 0 ≤ _)⟩)
  dsimp only [Pt.U, Pt.locs, Pt.cells, Pt.slots] at X6 l6 y6 z6 st6 hQ6
  subst l6 y6 z6
  obtain ⟨h6, e6⟩ : ∃ z, T6.heap = z := ⟨_, rfl⟩
  rw [e6] at hQ6
  obtain ⟨rfl, Nq6, K6, -, -, Vn6, -⟩ := hQ6
  have N6 := Fr.app N5 Nq6
  have O6 : Old Z n0 h6 := O5.keep K6 (allS g_bb5 all0)
  have X_b4_6 := X_b4_5.keep K6
  have F_b4_counts_6 := Fc5.keep K6 (ninS nb5 nin0)
  obtain ⟨T7, X7, e7, st7⟩ := getS2 X6 hx hZ hown (host := "") (Or.inl (ww hw 4 rfl)) Via.refl e6 ((own_S_u0 G).ext O6.2) (g := (mkF m 138 #[vi p1, vi p2, vi p3, vi p4, vi (0 : Int32), vi (1 : Int32), vi (0 : Int32), vr va1, vr va2, vr va3, vr b4, vj (1 : Int64), .second] [xr b4])) rfl (hb hby at_138)
  obtain ⟨cq8, kq8, qa8, qb8, qc8⟩ := isOf hZ e7 X_b4_6
  obtain ⟨_, _, ⟨T8, L8, k8, n8⟩, -, X8, ⟨Lc8, hQ8, l8, y8, z8⟩, st8⟩ := X7.virtualBack hx (y := Y7) (z := Y7) hown (mvT hZ (ww hw 53 rfl)) (mvT hZ (ww hw 54 rfl)) (notFace_of_selects (args := #[]) (mvT hZ (ww hw 56 rfl))) (mvT hZ (ww hw 56 rfl)) (mvT hZ (ww hw 55 rfl)) (by decide) (backOf (W := 0) (own_count0 l Z a0 hw u0 u1 u2 u3 u4 G b4 bb5 kk5 ((0 : Int64) + own_h p2 0) ((0 : Int64) + own_h p2 1) ((0 : Int64) + own_h p2 2) ((0 : Int64) + own_h p2 3) h6 n0 O6 ⟨X_b4_6, F_b4_counts_6, Vn6, nb5, g_b4, g_bb5⟩ []) hZ (ww hw 57 rfl) (ww hw 13 rfl) (by decide) (by decide)) qa8 qc8 (g := (mkF m 141 #[vi p1, vi p2, vi p3, vi p4, vi (0 : Int32), vi (1 : Int32), vi (0 : Int32), vr va1, vr va2, vr va3, vr b4, vj (1 : Int64), .second] [xr u0, xr b4])) rfl (by rw [hml]; rfl) (Steps.refl _) (argsL := [xr u0]) (rest := []) (lenOf pd4 rfl) rfl (by show 2 * 0 + _ ≤ _; exact Nat.le_of_eq rfl) (hb hby at_141) (fun _ _ => ⟨rfl, e7, (by decide : 3 + 0 ≤ _), (by decide : 9 + 0 ≤ _)⟩)
  dsimp only [Pt.U, Pt.locs, Pt.cells, Pt.slots] at X8 l8 y8 z8 st8 hQ8
  subst l8 y8 z8
  obtain ⟨rfl, Nq8, e8⟩ := hQ8
  have N8 := Fr.app N6 Nq8
  obtain ⟨_, _, ⟨T9, L9, k9, n9⟩, -, X9, ⟨Lc9, hQ9, l9, y9, z9⟩, st9⟩ := Jvm.LawKit.callS X8 hx (y := Y9) hown (mvT hZ (ww hw 58 rfl)) (mvT hZ (ww hw 59 rfl)) (mvT hZ (ww hw 2 rfl)) (mvT hZ (ww hw 60 rfl)) (by decide) (backOf (W := 2) (own_c12_expected l Z a0 hw u0 u1 u2 u3 u4 G p1 p2 p3 p4 as6 as9 as10 h6 n0 O6 []) hZ (ww hw 60 rfl) (ww hw 2 rfl) (by decide) (by decide)) (g := (mkF m 149 #[vi p1, vi p2, vi p3, vi p4, vi (0 : Int32), vi (1 : Int32), vi (0 : Int32), vr va1, vr va2, vr va3, vr b4, vj (1 : Int64), .second] [xi p4, xi p3, xi p2, xi p1, xi (0 : Int32), xj ((0 : Int64) + own_h p2 0)])) rfl (by rw [hml]; rfl) (argsL := [xi (0 : Int32), xi p1, xi p2, xi p3, xi p4]) (rest := [xj ((0 : Int64) + own_h p2 0)]) (lenOf pd6 rfl) rfl (by show 2 * 0 + _ ≤ _; exact Nat.le_of_eq rfl) (hb hby at_149) (fun _ _ => ⟨rfl, e8, (by decide : 3 + 0 ≤ _), (by decide : 9 + 0 ≤ _)⟩)
  dsimp only [Pt.U, Pt.locs, Pt.cells, Pt.slots] at X9 l9 y9 z9 st9 hQ9
  subst l9 y9 z9
  obtain ⟨rfl, Nq9, e9⟩ := hQ9
  have N9 := Fr.app N8 Nq9
  obtain ⟨T10, X10, e10, st10⟩ := getS2 X9 hx hZ hown (host := "") (Or.inl (ww hw 64 rfl)) Via.refl e9 ((own_S_u4 G).ext O6.2) (g := (mkF m 158 #[vi p1, vi p2, vi p3, vi p4, vi (0 : Int32), vi (1 : Int32), vi (0 : Int32), vr va1, vr va2, vr va3, vr b4, vj (1 : Int64), .second] [xr b4])) rfl (hb hby at_158)
  obtain ⟨cq11, kq11, qa11, qb11, qc11⟩ := isOf hZ e10 X_b4_6
  obtain ⟨_, _, ⟨T11, L11, k11, n11⟩, -, X11, ⟨Lc11, hQ11, l11, y11, z11⟩, st11⟩ := X10.virtualBack hx (y := Y7) (z := Y7) hown (mvT hZ (ww hw 53 rfl)) (mvT hZ (ww hw 54 rfl)) (notFace_of_selects (args := #[]) (mvT hZ (ww hw 56 rfl))) (mvT hZ (ww hw 56 rfl)) (mvT hZ (ww hw 55 rfl)) (by decide) (backOf (W := 0) (own_count1 l Z a0 hw u0 u1 u2 u3 u4 G b4 bb5 kk5 ((0 : Int64) + own_h p2 0) ((0 : Int64) + own_h p2 1) ((0 : Int64) + own_h p2 2) ((0 : Int64) + own_h p2 3) h6 n0 O6 ⟨X_b4_6, F_b4_counts_6, Vn6, nb5, g_b4, g_bb5⟩ []) hZ (ww hw 57 rfl) (ww hw 13 rfl) (by decide) (by decide)) qa11 qc11 (g := (mkF m 161 #[vi p1, vi p2, vi p3, vi p4, vi (0 : Int32), vi (1 : Int32), vi (0 : Int32), vr va1, vr va2, vr va3, vr b4, vj (1 : Int64), .second] [xr u4, xr b4])) rfl (by rw [hml]; rfl) (Steps.refl _) (argsL := [xr u4]) (rest := []) (lenOf pd4 rfl) rfl (by show 2 * 0 + _ ≤ _; exact Nat.le_of_eq rfl) (hb hby at_161) (fun _ _ => ⟨rfl, e10, (by decide : 3 + 0 ≤ _), (by decide : 9 + 0 ≤ _)⟩)
  dsimp only [Pt.U, Pt.locs, Pt.cells, Pt.slots] at X11 l11 y11 z11 st11 hQ11
  subst l11 y11 z11
  obtain ⟨rfl, Nq11, e11⟩ := hQ11
  have N11 := Fr.app N9 Nq11
  obtain ⟨_, _, ⟨T12, L12, k12, n12⟩, -, X12, ⟨Lc12, hQ12, l12, y12, z12⟩, st12⟩ := Jvm.LawKit.callS X11 hx (y := Y9) hown (mvT hZ (ww hw 58 rfl)) (mvT hZ (ww hw 59 rfl)) (mvT hZ (ww hw 2 rfl)) (mvT hZ (ww hw 60 rfl)) (by decide) (backOf (W := 2) (own_c13_expected l Z a0 hw u0 u1 u2 u3 u4 G p1 p2 p3 p4 as6 as9 as10 h6 n0 O6 []) hZ (ww hw 60 rfl) (ww hw 2 rfl) (by decide) (by decide)) (g := (mkF m 169 #[vi p1, vi p2, vi p3, vi p4, vi (0 : Int32), vi (1 : Int32), vi (0 : Int32), vr va1, vr va2, vr va3, vr b4, vj (1 : Int64), .second] [xi p4, xi p3, xi p2, xi p1, xi (1 : Int32), xj ((0 : Int64) + own_h p2 1)])) rfl (by rw [hml]; rfl) (argsL := [xi (1 : Int32), xi p1, xi p2, xi p3, xi p4]) (rest := [xj ((0 : Int64) + own_h p2 1)]) (lenOf pd6 rfl) rfl (by show 2 * 0 + _ ≤ _; exact Nat.le_of_eq rfl) (hb hby at_169) (fun _ _ => ⟨rfl, e11, (by decide : 3 + 0 ≤ _), (by decide : 9 + 0 ≤ _)⟩)
  dsimp only [Pt.U, Pt.locs, Pt.cells, Pt.slots] at X12 l12 y12 z12 st12 hQ12
  subst l12 y12 z12
  obtain ⟨rfl, Nq12, e12⟩ := hQ12
  have N12 := Fr.app N11 Nq12
  obtain ⟨T13, X13, e13, st13⟩ := getS2 X12 hx hZ hown (host := "") (Or.inl (ww hw 9 rfl)) Via.refl e12 ((own_S_u2 G).ext O6.2) (g := (mkF m 178 #[vi p1, vi p2, vi p3, vi p4, vi (0 : Int32), vi (1 : Int32), vi (0 : Int32), vr va1, vr va2, vr va3, vr b4, vj (1 : Int64), .second] [xr b4])) rfl (hb hby at_178)
  obtain ⟨cq14, kq14, qa14, qb14, qc14⟩ := isOf hZ e13 X_b4_6
  obtain ⟨_, _, ⟨T14, L14, k14, n14⟩, -, X14, ⟨Lc14, hQ14, l14, y14, z14⟩, st14⟩ := X13.virtualBack hx (y := Y7) (z := Y7) hown (mvT hZ (ww hw 53 rfl)) (mvT hZ (ww hw 54 rfl)) (notFace_of_selects (args := #[]) (mvT hZ (ww hw 56 rfl))) (mvT hZ (ww hw 56 rfl)) (mvT hZ (ww hw 55 rfl)) (by decide) (backOf (W := 0) (own_count2 l Z a0 hw u0 u1 u2 u3 u4 G b4 bb5 kk5 ((0 : Int64) + own_h p2 0) ((0 : Int64) + own_h p2 1) ((0 : Int64) + own_h p2 2) ((0 : Int64) + own_h p2 3) h6 n0 O6 ⟨X_b4_6, F_b4_counts_6, Vn6, nb5, g_b4, g_bb5⟩ []) hZ (ww hw 57 rfl) (ww hw 13 rfl) (by decide) (by decide)) qa14 qc14 (g := (mkF m 181 #[vi p1, vi p2, vi p3, vi p4, vi (0 : Int32), vi (1 : Int32), vi (0 : Int32), vr va1, vr va2, vr va3, vr b4, vj (1 : Int64), .second] [xr u2, xr b4])) rfl (by rw [hml]; rfl) (Steps.refl _) (argsL := [xr u2]) (rest := []) (lenOf pd4 rfl) rfl (by show 2 * 0 + _ ≤ _; exact Nat.le_of_eq rfl) (hb hby at_181) (fun _ _ => ⟨rfl, e13, (by decide : 3 + 0 ≤ _), (by decide : 9 + 0 ≤ _)⟩)
  dsimp only [Pt.U, Pt.locs, Pt.cells, Pt.slots] at X14 l14 y14 z14 st14 hQ14
  subst l14 y14 z14
  obtain ⟨rfl, Nq14, e14⟩ := hQ14
  have N14 := Fr.app N12 Nq14
  obtain ⟨_, _, ⟨T15, L15, k15, n15⟩, -, X15, ⟨Lc15, hQ15, l15, y15, z15⟩, st15⟩ := Jvm.LawKit.callS X14 hx (y := Y9) hown (mvT hZ (ww hw 58 rfl)) (mvT hZ (ww hw 59 rfl)) (mvT hZ (ww hw 2 rfl)) (mvT hZ (ww hw 60 rfl)) (by decide) (backOf (W := 2) (own_c14_expected l Z a0 hw u0 u1 u2 u3 u4 G p1 p2 p3 p4 as6 as9 as10 h6 n0 O6 []) hZ (ww hw 60 rfl) (ww hw 2 rfl) (by decide) (by decide)) (g := (mkF m 189 #[vi p1, vi p2, vi p3, vi p4, vi (0 : Int32), vi (1 : Int32), vi (0 : Int32), vr va1, vr va2, vr va3, vr b4, vj (1 : Int64), .second] [xi p4, xi p3, xi p2, xi p1, xi (2 : Int32), xj ((0 : Int64) + own_h p2 2)])) rfl (by rw [hml]; rfl) (argsL := [xi (2 : Int32), xi p1, xi p2, xi p3, xi p4]) (rest := [xj ((0 : Int64) + own_h p2 2)]) (lenOf pd6 rfl) rfl (by show 2 * 0 + _ ≤ _; exact Nat.le_of_eq rfl) (hb hby at_189) (fun _ _ => ⟨rfl, e14, (by decide : 3 + 0 ≤ _), (by decide : 9 + 0 ≤ _)⟩)
  dsimp only [Pt.U, Pt.locs, Pt.cells, Pt.slots] at X15 l15 y15 z15 st15 hQ15
  subst l15 y15 z15
  obtain ⟨rfl, Nq15, e15⟩ := hQ15
  have N15 := Fr.app N14 Nq15
  obtain ⟨T16, X16, e16, st16⟩ := getS2 X15 hx hZ hown (host := "") (Or.inl (ww hw 7 rfl)) Via.refl e15 ((own_S_u1 G).ext O6.2) (g := (mkF m 198 #[vi p1, vi p2, vi p3, vi p4, vi (0 : Int32), vi (1 : Int32), vi (0 : Int32), vr va1, vr va2, vr va3, vr b4, vj (1 : Int64), .second] [xr b4])) rfl (hb hby at_198)
  obtain ⟨cq17, kq17, qa17, qb17, qc17⟩ := isOf hZ e16 X_b4_6
  obtain ⟨_, _, ⟨T17, L17, k17, n17⟩, -, X17, ⟨Lc17, hQ17, l17, y17, z17⟩, st17⟩ := X16.virtualBack hx (y := Y7) (z := Y7) hown (mvT hZ (ww hw 53 rfl)) (mvT hZ (ww hw 54 rfl)) (notFace_of_selects (args := #[]) (mvT hZ (ww hw 56 rfl))) (mvT hZ (ww hw 56 rfl)) (mvT hZ (ww hw 55 rfl)) (by decide) (backOf (W := 0) (own_count3 l Z a0 hw u0 u1 u2 u3 u4 G b4 bb5 kk5 ((0 : Int64) + own_h p2 0) ((0 : Int64) + own_h p2 1) ((0 : Int64) + own_h p2 2) ((0 : Int64) + own_h p2 3) h6 n0 O6 ⟨X_b4_6, F_b4_counts_6, Vn6, nb5, g_b4, g_bb5⟩ []) hZ (ww hw 57 rfl) (ww hw 13 rfl) (by decide) (by decide)) qa17 qc17 (g := (mkF m 201 #[vi p1, vi p2, vi p3, vi p4, vi (0 : Int32), vi (1 : Int32), vi (0 : Int32), vr va1, vr va2, vr va3, vr b4, vj (1 : Int64), .second] [xr u1, xr b4])) rfl (by rw [hml]; rfl) (Steps.refl _) (argsL := [xr u1]) (rest := []) (lenOf pd4 rfl) rfl (by show 2 * 0 + _ ≤ _; exact Nat.le_of_eq rfl) (hb hby at_201) (fun _ _ => ⟨rfl, e16, (by decide : 3 + 0 ≤ _), (by decide : 9 + 0 ≤ _)⟩)
  dsimp only [Pt.U, Pt.locs, Pt.cells, Pt.slots] at X17 l17 y17 z17 st17 hQ17
  subst l17 y17 z17
  obtain ⟨rfl, Nq17, e17⟩ := hQ17
  have N17 := Fr.app N15 Nq17
  obtain ⟨_, _, ⟨T18, L18, k18, n18⟩, -, X18, ⟨Lc18, hQ18, l18, y18, z18⟩, st18⟩ := Jvm.LawKit.callS X17 hx (y := Y9) hown (mvT hZ (ww hw 58 rfl)) (mvT hZ (ww hw 59 rfl)) (mvT hZ (ww hw 2 rfl)) (mvT hZ (ww hw 60 rfl)) (by decide) (backOf (W := 2) (own_c15_expected l Z a0 hw u0 u1 u2 u3 u4 G p1 p2 p3 p4 as6 as9 as10 h6 n0 O6 []) hZ (ww hw 60 rfl) (ww hw 2 rfl) (by decide) (by decide)) (g := (mkF m 209 #[vi p1, vi p2, vi p3, vi p4, vi (0 : Int32), vi (1 : Int32), vi (0 : Int32), vr va1, vr va2, vr va3, vr b4, vj (1 : Int64), .second] [xi p4, xi p3, xi p2, xi p1, xi (3 : Int32), xj ((0 : Int64) + own_h p2 3)])) rfl (by rw [hml]; rfl) (argsL := [xi (3 : Int32), xi p1, xi p2, xi p3, xi p4]) (rest := [xj ((0 : Int64) + own_h p2 3)]) (lenOf pd6 rfl) rfl (by show 2 * 0 + _ ≤ _; exact Nat.le_of_eq rfl) (hb hby at_209) (fun _ _ => ⟨rfl, e17, (by decide : 3 + 0 ≤ _), (by decide : 9 + 0 ≤ _)⟩)
  dsimp only [Pt.U, Pt.locs, Pt.cells, Pt.slots] at X18 l18 y18 z18 st18 hQ18
  subst l18 y18 z18
  obtain ⟨rfl, Nq18, e18⟩ := hQ18
  have N18 := Fr.app N17 Nq18
  obtain ⟨cq19, kq19, qa19, qb19, qc19⟩ := isOf hZ e18 X_b4_6
  obtain ⟨_, _, ⟨T19, L19, k19, n19⟩, -, X19, ⟨Lc19, hQ19, l19, y19, z19⟩, st19⟩ := X18.virtualBack hx (y := Y8) (z := Y8) hown (mvT hZ (ww hw 65 rfl)) (mvT hZ (ww hw 66 rfl)) (notFace_of_selects (args := #[]) (mvT hZ (ww hw 68 rfl))) (mvT hZ (ww hw 68 rfl)) (mvT hZ (ww hw 67 rfl)) (by decide) (backOf (W := 0) (own_records l Z a0 hw u0 u1 u2 u3 u4 G b4 bb5 kk5 ((0 : Int64) + own_h p2 0) ((0 : Int64) + own_h p2 1) ((0 : Int64) + own_h p2 2) ((0 : Int64) + own_h p2 3) h6 n0 O6 ⟨X_b4_6, F_b4_counts_6, Vn6, nb5, g_b4, g_bb5⟩ []) hZ (ww hw 69 rfl) (ww hw 13 rfl) (by decide) (by decide)) qa19 qc19 (g := (mkF m 218 #[vi p1, vi p2, vi p3, vi p4, vi (0 : Int32), vi (1 : Int32), vi (0 : Int32), vr va1, vr va2, vr va3, vr b4, vj (1 : Int64), .second] [xr b4])) rfl (by rw [hml]; rfl) (Steps.refl _) (argsL := []) (rest := []) (lenOf pd7 rfl) rfl (by show 2 * 0 + _ ≤ _; exact Nat.le_of_eq rfl) (hb hby at_218) (fun _ _ => ⟨rfl, e18, (by decide : 3 + 0 ≤ _), (by decide : 9 + 0 ≤ _)⟩)
  dsimp only [Pt.U, Pt.locs, Pt.cells, Pt.slots] at X19 l19 y19 z19 st19 hQ19
  subst l19 y19 z19
  obtain ⟨rfl, Nq19, e19⟩ := hQ19
  have N19 := Fr.app N18 Nq19
  obtain ⟨fs, hr, hrun, hended, hW, hsame⟩ := X19.leave (v := some (xi (1 : Int32))) (fun h => by rw [Bd.returns] at h; cases h)
  refine ⟨_, _, pre0 _ ?_, hrun, hended, _, _, rfl, ?_, ⟨_, rfl⟩, hW, hsame.mono (by decide) (by decide)⟩
  · show own_S p e below s₁ (mkF m 0 #[vi p1, vi p2, vi p3, vi p4, vu, vu, vu, vu, vu, vu, vu, vu, vu] []) _
    refine XS.iloadN X0.here hx rfl (hb hby at_0) rfl ?_
    show own_S p e below s₁ (mkF m 1 #[vi p1, vi p2, vi p3, vi p4, vu, vu, vu, vu, vu, vu, vu, vu, vu] [xi p4]) _
    refine XS.iconst X0.here hx rfl (hb hby at_1) ?_
    show own_S p e below s₁ (mkF m 2 #[vi p1, vi p2, vi p3, vi p4, vu, vu, vu, vu, vu, vu, vu, vu, vu] [xi (1 : Int32), xi p4]) _
    refine XS.iand X0.here hx rfl (hb hby at_2) rfl ?_
    show own_S p e below s₁ (mkF m 3 #[vi p1, vi p2, vi p3, vi p4, vu, vu, vu, vu, vu, vu, vu, vu, vu] [xi (p4 &&& (1 : Int32))]) _
    refine castTop (show (mkF m 3 #[vi p1, vi p2, vi p3, vi p4, vu, vu, vu, vu, vu, vu, vu, vu, vu] [xi (p4 &&& (1 : Int32))]) = (mkF m 3 #[vi p1, vi p2, vi p3, vi p4, vu, vu, vu, vu, vu, vu, vu, vu, vu] [xi (0 : Int32)]) from by rw [as6]) ?_
    show own_S p e below s₁ (mkF m 3 #[vi p1, vi p2, vi p3, vi p4, vu, vu, vu, vu, vu, vu, vu, vu, vu] [xi (0 : Int32)]) _
    refine XS.ifYes X0.here hx rfl (pc0 := 3) (pc' := 10) rfl (hb hby at_3) rfl (by decide) (by decide) (by decide) ?_
    show own_S p e below s₁ (mkF m 10 #[vi p1, vi p2, vi p3, vi p4, vu, vu, vu, vu, vu, vu, vu, vu, vu] []) _
    refine XS.iconst X0.here hx rfl (hb hby at_10) ?_
    show own_S p e below s₁ (mkF m 11 #[vi p1, vi p2, vi p3, vi p4, vu, vu, vu, vu, vu, vu, vu, vu, vu] [xi (0 : Int32)]) _
    refine XS.istore X0.here hx rfl (hb hby at_11) rfl (l' := #[vi p1, vi p2, vi p3, vi p4, vi (0 : Int32), vu, vu, vu, vu, vu, vu, vu, vu]) rfl ?_
    show own_S p e below s₁ (mkF m 13 #[vi p1, vi p2, vi p3, vi p4, vi (0 : Int32), vu, vu, vu, vu, vu, vu, vu, vu] []) _
    refine XS.iloadN X0.here hx rfl (hb hby at_13) rfl ?_
    show own_S p e below s₁ (mkF m 14 #[vi p1, vi p2, vi p3, vi p4, vi (0 : Int32), vu, vu, vu, vu, vu, vu, vu, vu] [xi p4]) _
    refine XS.iconst X0.here hx rfl (hb hby at_14) ?_
    show own_S p e below s₁ (mkF m 15 #[vi p1, vi p2, vi p3, vi p4, vi (0 : Int32), vu, vu, vu, vu, vu, vu, vu, vu] [xi (2 : Int32), xi p4]) _
    refine XS.iand X0.here hx rfl (hb hby at_15) rfl ?_
    show own_S p e below s₁ (mkF m 16 #[vi p1, vi p2, vi p3, vi p4, vi (0 : Int32), vu, vu, vu, vu, vu, vu, vu, vu] [xi (p4 &&& (2 : Int32))]) _
    refine castTop (show (mkF m 16 #[vi p1, vi p2, vi p3, vi p4, vi (0 : Int32), vu, vu, vu, vu, vu, vu, vu, vu] [xi (p4 &&& (2 : Int32))]) = (mkF m 16 #[vi p1, vi p2, vi p3, vi p4, vi (0 : Int32), vu, vu, vu, vu, vu, vu, vu, vu] [xi (2 : Int32)]) from by rw [as9]) ?_
    show own_S p e below s₁ (mkF m 16 #[vi p1, vi p2, vi p3, vi p4, vi (0 : Int32), vu, vu, vu, vu, vu, vu, vu, vu] [xi (2 : Int32)]) _
    refine XS.ifNo X0.here hx rfl (hb hby at_16) rfl (by decide) ?_
    show own_S p e below s₁ (mkF m 19 #[vi p1, vi p2, vi p3, vi p4, vi (0 : Int32), vu, vu, vu, vu, vu, vu, vu, vu] []) _
    refine XS.iconst X0.here hx rfl (hb hby at_19) ?_
    show own_S p e below s₁ (mkF m 20 #[vi p1, vi p2, vi p3, vi p4, vi (0 : Int32), vu, vu, vu, vu, vu, vu, vu, vu] [xi (1 : Int32)]) _
    refine XS.goto X0.here hx rfl (pc0 := 20) (pc' := 24) rfl (hb hby at_20) (by decide) (by decide) ?_
    show own_S p e below s₁ (mkF m 24 #[vi p1, vi p2, vi p3, vi p4, vi (0 : Int32), vu, vu, vu, vu, vu, vu, vu, vu] [xi (1 : Int32)]) _
    refine XS.istore X0.here hx rfl (hb hby at_24) rfl (l' := #[vi p1, vi p2, vi p3, vi p4, vi (0 : Int32), vi (1 : Int32), vu, vu, vu, vu, vu, vu, vu]) rfl ?_
    show own_S p e below s₁ (mkF m 26 #[vi p1, vi p2, vi p3, vi p4, vi (0 : Int32), vi (1 : Int32), vu, vu, vu, vu, vu, vu, vu] []) _
    refine XS.iloadN X0.here hx rfl (hb hby at_26) rfl ?_
    show own_S p e below s₁ (mkF m 27 #[vi p1, vi p2, vi p3, vi p4, vi (0 : Int32), vi (1 : Int32), vu, vu, vu, vu, vu, vu, vu] [xi p4]) _
    refine XS.iconst X0.here hx rfl (hb hby at_27) ?_
    show own_S p e below s₁ (mkF m 28 #[vi p1, vi p2, vi p3, vi p4, vi (0 : Int32), vi (1 : Int32), vu, vu, vu, vu, vu, vu, vu] [xi (4 : Int32), xi p4]) _
    refine XS.iand X0.here hx rfl (hb hby at_28) rfl ?_
    show own_S p e below s₁ (mkF m 29 #[vi p1, vi p2, vi p3, vi p4, vi (0 : Int32), vi (1 : Int32), vu, vu, vu, vu, vu, vu, vu] [xi (p4 &&& (4 : Int32))]) _
    refine castTop (show (mkF m 29 #[vi p1, vi p2, vi p3, vi p4, vi (0 : Int32), vi (1 : Int32), vu, vu, vu, vu, vu, vu, vu] [xi (p4 &&& (4 : Int32))]) = (mkF m 29 #[vi p1, vi p2, vi p3, vi p4, vi (0 : Int32), vi (1 : Int32), vu, vu, vu, vu, vu, vu, vu] [xi (0 : Int32)]) from by rw [as10]) ?_
    show own_S p e below s₁ (mkF m 29 #[vi p1, vi p2, vi p3, vi p4, vi (0 : Int32), vi (1 : Int32), vu, vu, vu, vu, vu, vu, vu] [xi (0 : Int32)]) _
    refine XS.ifYes X0.here hx rfl (pc0 := 29) (pc' := 36) rfl (hb hby at_29) rfl (by decide) (by decide) (by decide) ?_
    show own_S p e below s₁ (mkF m 36 #[vi p1, vi p2, vi p3, vi p4, vi (0 : Int32), vi (1 : Int32), vu, vu, vu, vu, vu, vu, vu] []) _
    refine XS.iconst X0.here hx rfl (hb hby at_36) ?_
    show own_S p e below s₁ (mkF m 37 #[vi p1, vi p2, vi p3, vi p4, vi (0 : Int32), vi (1 : Int32), vu, vu, vu, vu, vu, vu, vu] [xi (0 : Int32)]) _
    refine XS.istore X0.here hx rfl (hb hby at_37) rfl (l' := #[vi p1, vi p2, vi p3, vi p4, vi (0 : Int32), vi (1 : Int32), vi (0 : Int32), vu, vu, vu, vu, vu, vu]) rfl ?_
    show own_S p e below s₁ (mkF m 39 #[vi p1, vi p2, vi p3, vi p4, vi (0 : Int32), vi (1 : Int32), vi (0 : Int32), vu, vu, vu, vu, vu, vu] []) _
    refine XS.iloadN X0.here hx rfl (hb hby at_39) rfl ?_
    show own_S p e below s₁ (mkF m 40 #[vi p1, vi p2, vi p3, vi p4, vi (0 : Int32), vi (1 : Int32), vi (0 : Int32), vu, vu, vu, vu, vu, vu] [xi p1]) _
    refine st1 _ ?_
    show own_S p e below T1 (mkF m 43 #[vi p1, vi p2, vi p3, vi p4, vi (0 : Int32), vi (1 : Int32), vi (0 : Int32), vu, vu, vu, vu, vu, vu] [xr va1]) _
    refine XS.astore X1.here hx rfl (hb hby at_43) rfl rfl (l' := #[vi p1, vi p2, vi p3, vi p4, vi (0 : Int32), vi (1 : Int32), vi (0 : Int32), vr va1, vu, vu, vu, vu, vu]) rfl ?_
    show own_S p e below T1 (mkF m 45 #[vi p1, vi p2, vi p3, vi p4, vi (0 : Int32), vi (1 : Int32), vi (0 : Int32), vr va1, vu, vu, vu, vu, vu] []) _
    refine XS.iloadN X1.here hx rfl (hb hby at_45) rfl ?_
    show own_S p e below T1 (mkF m 46 #[vi p1, vi p2, vi p3, vi p4, vi (0 : Int32), vi (1 : Int32), vi (0 : Int32), vr va1, vu, vu, vu, vu, vu] [xi p2]) _
    refine st2 _ ?_
    show own_S p e below T2 (mkF m 49 #[vi p1, vi p2, vi p3, vi p4, vi (0 : Int32), vi (1 : Int32), vi (0 : Int32), vr va1, vu, vu, vu, vu, vu] [xr va2]) _
    refine XS.astore X2.here hx rfl (hb hby at_49) rfl rfl (l' := #[vi p1, vi p2, vi p3, vi p4, vi (0 : Int32), vi (1 : Int32), vi (0 : Int32), vr va1, vr va2, vu, vu, vu, vu]) rfl ?_
    show own_S p e below T2 (mkF m 51 #[vi p1, vi p2, vi p3, vi p4, vi (0 : Int32), vi (1 : Int32), vi (0 : Int32), vr va1, vr va2, vu, vu, vu, vu] []) _
    refine XS.iloadN X2.here hx rfl (hb hby at_51) rfl ?_
    show own_S p e below T2 (mkF m 52 #[vi p1, vi p2, vi p3, vi p4, vi (0 : Int32), vi (1 : Int32), vi (0 : Int32), vr va1, vr va2, vu, vu, vu, vu] [xi p3]) _
    refine st3 _ ?_
    show own_S p e below T3 (mkF m 55 #[vi p1, vi p2, vi p3, vi p4, vi (0 : Int32), vi (1 : Int32), vi (0 : Int32), vr va1, vr va2, vu, vu, vu, vu] [xr va3]) _
    refine XS.astore X3.here hx rfl (hb hby at_55) rfl rfl (l' := #[vi p1, vi p2, vi p3, vi p4, vi (0 : Int32), vi (1 : Int32), vi (0 : Int32), vr va1, vr va2, vr va3, vu, vu, vu]) rfl ?_
    show own_S p e below T3 (mkF m 57 #[vi p1, vi p2, vi p3, vi p4, vi (0 : Int32), vi (1 : Int32), vi (0 : Int32), vr va1, vr va2, vr va3, vu, vu, vu] []) _
    refine st4 _ ?_
    show own_S p e below T4 (mkF m 60 #[vi p1, vi p2, vi p3, vi p4, vi (0 : Int32), vi (1 : Int32), vi (0 : Int32), vr va1, vr va2, vr va3, vu, vu, vu] [xr b4]) _
    refine XS.dup X4.here hx rfl (hb hby at_60) rfl rfl ?_
    show own_S p e below T4 (mkF m 61 #[vi p1, vi p2, vi p3, vi p4, vi (0 : Int32), vi (1 : Int32), vi (0 : Int32), vr va1, vr va2, vr va3, vu, vu, vu] [xr b4, xr b4]) _
    refine st5.trans ?_
    show own_S p e below T5 (mkF m 64 #[vi p1, vi p2, vi p3, vi p4, vi (0 : Int32), vi (1 : Int32), vi (0 : Int32), vr va1, vr va2, vr va3, vu, vu, vu] [xr b4]) _
    refine XS.astore X5.here hx rfl (hb hby at_64) rfl rfl (l' := #[vi p1, vi p2, vi p3, vi p4, vi (0 : Int32), vi (1 : Int32), vi (0 : Int32), vr va1, vr va2, vr va3, vr b4, vu, vu]) rfl ?_
    show own_S p e below T5 (mkF m 66 #[vi p1, vi p2, vi p3, vi p4, vi (0 : Int32), vi (1 : Int32), vi (0 : Int32), vr va1, vr va2, vr va3, vr b4, vu, vu] []) _
    refine XS.iload X5.here hx rfl (hb hby at_66) rfl ?_
    show own_S p e below T5 (mkF m 68 #[vi p1, vi p2, vi p3, vi p4, vi (0 : Int32), vi (1 : Int32), vi (0 : Int32), vr va1, vr va2, vr va3, vr b4, vu, vu] [xi (0 : Int32)]) _
    refine XS.ifYes X5.here hx rfl (pc0 := 68) (pc' := 78) rfl (hb hby at_68) rfl (by decide) (by decide) (by decide) ?_
    show own_S p e below T5 (mkF m 78 #[vi p1, vi p2, vi p3, vi p4, vi (0 : Int32), vi (1 : Int32), vi (0 : Int32), vr va1, vr va2, vr va3, vr b4, vu, vu] []) _
    refine XS.iload X5.here hx rfl (hb hby at_78) rfl ?_
    show own_S p e below T5 (mkF m 80 #[vi p1, vi p2, vi p3, vi p4, vi (0 : Int32), vi (1 : Int32), vi (0 : Int32), vr va1, vr va2, vr va3, vr b4, vu, vu] [xi (1 : Int32)]) _
    refine XS.ifNo X5.here hx rfl (hb hby at_80) rfl (by decide) ?_
    show own_S p e below T5 (mkF m 83 #[vi p1, vi p2, vi p3, vi p4, vi (0 : Int32), vi (1 : Int32), vi (0 : Int32), vr va1, vr va2, vr va3, vr b4, vu, vu] []) _
    refine XS.aload X5.here hx rfl (hb hby at_83) rfl rfl ?_
    show own_S p e below T5 (mkF m 85 #[vi p1, vi p2, vi p3, vi p4, vi (0 : Int32), vi (1 : Int32), vi (0 : Int32), vr va1, vr va2, vr va3, vr b4, vu, vu] [xr b4]) _
    refine XS.aload X5.here hx rfl (hb hby at_85) rfl rfl ?_
    show own_S p e below T5 (mkF m 87 #[vi p1, vi p2, vi p3, vi p4, vi (0 : Int32), vi (1 : Int32), vi (0 : Int32), vr va1, vr va2, vr va3, vr b4, vu, vu] [xr va2, xr b4]) _
    refine st6.trans ?_
    show own_S p e below T6 (mkF m 90 #[vi p1, vi p2, vi p3, vi p4, vi (0 : Int32), vi (1 : Int32), vi (0 : Int32), vr va1, vr va2, vr va3, vr b4, vu, vu] []) _
    refine XS.iload X6.here hx rfl (hb hby at_90) rfl ?_
    show own_S p e below T6 (mkF m 92 #[vi p1, vi p2, vi p3, vi p4, vi (0 : Int32), vi (1 : Int32), vi (0 : Int32), vr va1, vr va2, vr va3, vr b4, vu, vu] [xi (0 : Int32)]) _
    refine XS.ifYes X6.here hx rfl (pc0 := 92) (pc' := 102) rfl (hb hby at_92) rfl (by decide) (by decide) (by decide) ?_
    show own_S p e below T6 (mkF m 102 #[vi p1, vi p2, vi p3, vi p4, vi (0 : Int32), vi (1 : Int32), vi (0 : Int32), vr va1, vr va2, vr va3, vr b4, vu, vu] []) _
    refine XS.iload X6.here hx rfl (hb hby at_102) rfl ?_
    show own_S p e below T6 (mkF m 104 #[vi p1, vi p2, vi p3, vi p4, vi (0 : Int32), vi (1 : Int32), vi (0 : Int32), vr va1, vr va2, vr va3, vr b4, vu, vu] [xi (0 : Int32)]) _
    refine XS.ifYes X6.here hx rfl (pc0 := 104) (pc' := 111) rfl (hb hby at_104) rfl (by decide) (by decide) (by decide) ?_
    show own_S p e below T6 (mkF m 111 #[vi p1, vi p2, vi p3, vi p4, vi (0 : Int32), vi (1 : Int32), vi (0 : Int32), vr va1, vr va2, vr va3, vr b4, vu, vu] []) _
    refine XS.lconst X6.here hx rfl (hb hby at_111) ?_
    show own_S p e below T6 (mkF m 112 #[vi p1, vi p2, vi p3, vi p4, vi (0 : Int32), vi (1 : Int32), vi (0 : Int32), vr va1, vr va2, vr va3, vr b4, vu, vu] [xj (0 : Int64)]) _
    refine XS.iload X6.here hx rfl (hb hby at_112) rfl ?_
    show own_S p e below T6 (mkF m 114 #[vi p1, vi p2, vi p3, vi p4, vi (0 : Int32), vi (1 : Int32), vi (0 : Int32), vr va1, vr va2, vr va3, vr b4, vu, vu] [xi (1 : Int32), xj (0 : Int64)]) _
    refine XS.ifNo X6.here hx rfl (hb hby at_114) rfl (by decide) ?_
    show own_S p e below T6 (mkF m 117 #[vi p1, vi p2, vi p3, vi p4, vi (0 : Int32), vi (1 : Int32), vi (0 : Int32), vr va1, vr va2, vr va3, vr b4, vu, vu] [xj (0 : Int64)]) _
    refine XS.lconst X6.here hx rfl (hb hby at_117) ?_
    show own_S p e below T6 (mkF m 118 #[vi p1, vi p2, vi p3, vi p4, vi (0 : Int32), vi (1 : Int32), vi (0 : Int32), vr va1, vr va2, vr va3, vr b4, vu, vu] [xj (1 : Int64), xj (0 : Int64)]) _
    refine XS.goto X6.here hx rfl (pc0 := 118) (pc' := 122) rfl (hb hby at_118) (by decide) (by decide) ?_
    show own_S p e below T6 (mkF m 122 #[vi p1, vi p2, vi p3, vi p4, vi (0 : Int32), vi (1 : Int32), vi (0 : Int32), vr va1, vr va2, vr va3, vr b4, vu, vu] [xj (1 : Int64), xj (0 : Int64)]) _
    refine XS.ladd X6.here hx rfl (hb hby at_122) rfl ?_
    show own_S p e below T6 (mkF m 123 #[vi p1, vi p2, vi p3, vi p4, vi (0 : Int32), vi (1 : Int32), vi (0 : Int32), vr va1, vr va2, vr va3, vr b4, vu, vu] [xj ((0 : Int64) + (1 : Int64))]) _
    refine castTop (show (mkF m 123 #[vi p1, vi p2, vi p3, vi p4, vi (0 : Int32), vi (1 : Int32), vi (0 : Int32), vr va1, vr va2, vr va3, vr b4, vu, vu] [xj ((0 : Int64) + (1 : Int64))]) = (mkF m 123 #[vi p1, vi p2, vi p3, vi p4, vi (0 : Int32), vi (1 : Int32), vi (0 : Int32), vr va1, vr va2, vr va3, vr b4, vu, vu] [xj (1 : Int64)]) from by rw [show ((0 : Int64) + (1 : Int64)) = (1 : Int64) from by decide]) ?_
    show own_S p e below T6 (mkF m 123 #[vi p1, vi p2, vi p3, vi p4, vi (0 : Int32), vi (1 : Int32), vi (0 : Int32), vr va1, vr va2, vr va3, vr b4, vu, vu] [xj (1 : Int64)]) _
    refine XS.iload X6.here hx rfl (hb hby at_123) rfl ?_
    show own_S p e below T6 (mkF m 125 #[vi p1, vi p2, vi p3, vi p4, vi (0 : Int32), vi (1 : Int32), vi (0 : Int32), vr va1, vr va2, vr va3, vr b4, vu, vu] [xi (0 : Int32), xj (1 : Int64)]) _
    refine XS.ifYes X6.here hx rfl (pc0 := 125) (pc' := 132) rfl (hb hby at_125) rfl (by decide) (by decide) (by decide) ?_
    show own_S p e below T6 (mkF m 132 #[vi p1, vi p2, vi p3, vi p4, vi (0 : Int32), vi (1 : Int32), vi (0 : Int32), vr va1, vr va2, vr va3, vr b4, vu, vu] [xj (1 : Int64)]) _
    refine XS.lconst X6.here hx rfl (hb hby at_132) ?_
    show own_S p e below T6 (mkF m 133 #[vi p1, vi p2, vi p3, vi p4, vi (0 : Int32), vi (1 : Int32), vi (0 : Int32), vr va1, vr va2, vr va3, vr b4, vu, vu] [xj (0 : Int64), xj (1 : Int64)]) _
    refine XS.ladd X6.here hx rfl (hb hby at_133) rfl ?_
    show own_S p e below T6 (mkF m 134 #[vi p1, vi p2, vi p3, vi p4, vi (0 : Int32), vi (1 : Int32), vi (0 : Int32), vr va1, vr va2, vr va3, vr b4, vu, vu] [xj ((1 : Int64) + (0 : Int64))]) _
    refine castTop (show (mkF m 134 #[vi p1, vi p2, vi p3, vi p4, vi (0 : Int32), vi (1 : Int32), vi (0 : Int32), vr va1, vr va2, vr va3, vr b4, vu, vu] [xj ((1 : Int64) + (0 : Int64))]) = (mkF m 134 #[vi p1, vi p2, vi p3, vi p4, vi (0 : Int32), vi (1 : Int32), vi (0 : Int32), vr va1, vr va2, vr va3, vr b4, vu, vu] [xj (1 : Int64)]) from by rw [show ((1 : Int64) + (0 : Int64)) = (1 : Int64) from by decide]) ?_
    show own_S p e below T6 (mkF m 134 #[vi p1, vi p2, vi p3, vi p4, vi (0 : Int32), vi (1 : Int32), vi (0 : Int32), vr va1, vr va2, vr va3, vr b4, vu, vu] [xj (1 : Int64)]) _
    refine XS.lstore X6.here hx rfl (hb hby at_134) rfl (l' := #[vi p1, vi p2, vi p3, vi p4, vi (0 : Int32), vi (1 : Int32), vi (0 : Int32), vr va1, vr va2, vr va3, vr b4, vj (1 : Int64), .second]) rfl ?_
    show own_S p e below T6 (mkF m 136 #[vi p1, vi p2, vi p3, vi p4, vi (0 : Int32), vi (1 : Int32), vi (0 : Int32), vr va1, vr va2, vr va3, vr b4, vj (1 : Int64), .second] []) _
    refine XS.aload X6.here hx rfl (hb hby at_136) rfl rfl ?_
    show own_S p e below T6 (mkF m 138 #[vi p1, vi p2, vi p3, vi p4, vi (0 : Int32), vi (1 : Int32), vi (0 : Int32), vr va1, vr va2, vr va3, vr b4, vj (1 : Int64), .second] [xr b4]) _
    refine st7 _ ?_
    show own_S p e below T7 (mkF m 141 #[vi p1, vi p2, vi p3, vi p4, vi (0 : Int32), vi (1 : Int32), vi (0 : Int32), vr va1, vr va2, vr va3, vr b4, vj (1 : Int64), .second] [xr u0, xr b4]) _
    refine st8.trans ?_
    show own_S p e below T8 (mkF m 144 #[vi p1, vi p2, vi p3, vi p4, vi (0 : Int32), vi (1 : Int32), vi (0 : Int32), vr va1, vr va2, vr va3, vr b4, vj (1 : Int64), .second] [xj ((0 : Int64) + own_h p2 0)]) _
    refine XS.iconst X8.here hx rfl (hb hby at_144) ?_
    show own_S p e below T8 (mkF m 145 #[vi p1, vi p2, vi p3, vi p4, vi (0 : Int32), vi (1 : Int32), vi (0 : Int32), vr va1, vr va2, vr va3, vr b4, vj (1 : Int64), .second] [xi (0 : Int32), xj ((0 : Int64) + own_h p2 0)]) _
    refine XS.iloadN X8.here hx rfl (hb hby at_145) rfl ?_
    show own_S p e below T8 (mkF m 146 #[vi p1, vi p2, vi p3, vi p4, vi (0 : Int32), vi (1 : Int32), vi (0 : Int32), vr va1, vr va2, vr va3, vr b4, vj (1 : Int64), .second] [xi p1, xi (0 : Int32), xj ((0 : Int64) + own_h p2 0)]) _
    refine XS.iloadN X8.here hx rfl (hb hby at_146) rfl ?_
    show own_S p e below T8 (mkF m 147 #[vi p1, vi p2, vi p3, vi p4, vi (0 : Int32), vi (1 : Int32), vi (0 : Int32), vr va1, vr va2, vr va3, vr b4, vj (1 : Int64), .second] [xi p2, xi p1, xi (0 : Int32), xj ((0 : Int64) + own_h p2 0)]) _
    refine XS.iloadN X8.here hx rfl (hb hby at_147) rfl ?_
    show own_S p e below T8 (mkF m 148 #[vi p1, vi p2, vi p3, vi p4, vi (0 : Int32), vi (1 : Int32), vi (0 : Int32), vr va1, vr va2, vr va3, vr b4, vj (1 : Int64), .second] [xi p3, xi p2, xi p1, xi (0 : Int32), xj ((0 : Int64) + own_h p2 0)]) _
    refine XS.iloadN X8.here hx rfl (hb hby at_148) rfl ?_
    show own_S p e below T8 (mkF m 149 #[vi p1, vi p2, vi p3, vi p4, vi (0 : Int32), vi (1 : Int32), vi (0 : Int32), vr va1, vr va2, vr va3, vr b4, vj (1 : Int64), .second] [xi p4, xi p3, xi p2, xi p1, xi (0 : Int32), xj ((0 : Int64) + own_h p2 0)]) _
    refine st9 _ ?_
    show own_S p e below T9 (mkF m 152 #[vi p1, vi p2, vi p3, vi p4, vi (0 : Int32), vi (1 : Int32), vi (0 : Int32), vr va1, vr va2, vr va3, vr b4, vj (1 : Int64), .second] [xj (((0 : Int64) + (own_h p2 (0 : Int32))) + (0 : Int64)), xj ((0 : Int64) + own_h p2 0)]) _
    refine XS.lcmp X9.here hx rfl (hb hby at_152) rfl ?_
    show own_S p e below T9 (mkF m 153 #[vi p1, vi p2, vi p3, vi p4, vi (0 : Int32), vi (1 : Int32), vi (0 : Int32), vr va1, vr va2, vr va3, vr b4, vj (1 : Int64), .second] [xi (lcmpW ((0 : Int64) + own_h p2 0) (((0 : Int64) + (own_h p2 (0 : Int32))) + (0 : Int64)))]) _
    show own_S p e below T9 (mkF m 153 #[vi p1, vi p2, vi p3, vi p4, vi (0 : Int32), vi (1 : Int32), vi (0 : Int32), vr va1, vr va2, vr va3, vr b4, vj (1 : Int64), .second] [xi (lcmpW ((0 : Int64) + own_h p2 0) (((0 : Int64) + (own_h p2 (0 : Int32))) + (0 : Int64)))]) _
    refine XS.ifNo X9.here hx rfl (hb hby at_153) rfl (by simp [lcmpW, ifCond.holds, Int64.zero_add, Int64.add_zero]) ?_
    show own_S p e below T9 (mkF m 156 #[vi p1, vi p2, vi p3, vi p4, vi (0 : Int32), vi (1 : Int32), vi (0 : Int32), vr va1, vr va2, vr va3, vr b4, vj (1 : Int64), .second] []) _
    refine XS.aload X9.here hx rfl (hb hby at_156) rfl rfl ?_
    show own_S p e below T9 (mkF m 158 #[vi p1, vi p2, vi p3, vi p4, vi (0 : Int32), vi (1 : Int32), vi (0 : Int32), vr va1, vr va2, vr va3, vr b4, vj (1 : Int64), .second] [xr b4]) _
    refine st10 _ ?_
    show own_S p e below T10 (mkF m 161 #[vi p1, vi p2, vi p3, vi p4, vi (0 : Int32), vi (1 : Int32), vi (0 : Int32), vr va1, vr va2, vr va3, vr b4, vj (1 : Int64), .second] [xr u4, xr b4]) _
    refine st11.trans ?_
    show own_S p e below T11 (mkF m 164 #[vi p1, vi p2, vi p3, vi p4, vi (0 : Int32), vi (1 : Int32), vi (0 : Int32), vr va1, vr va2, vr va3, vr b4, vj (1 : Int64), .second] [xj ((0 : Int64) + own_h p2 1)]) _
    refine XS.iconst X11.here hx rfl (hb hby at_164) ?_
    show own_S p e below T11 (mkF m 165 #[vi p1, vi p2, vi p3, vi p4, vi (0 : Int32), vi (1 : Int32), vi (0 : Int32), vr va1, vr va2, vr va3, vr b4, vj (1 : Int64), .second] [xi (1 : Int32), xj ((0 : Int64) + own_h p2 1)]) _
    refine XS.iloadN X11.here hx rfl (hb hby at_165) rfl ?_
    show own_S p e below T11 (mkF m 166 #[vi p1, vi p2, vi p3, vi p4, vi (0 : Int32), vi (1 : Int32), vi (0 : Int32), vr va1, vr va2, vr va3, vr b4, vj (1 : Int64), .second] [xi p1, xi (1 : Int32), xj ((0 : Int64) + own_h p2 1)]) _
    refine XS.iloadN X11.here hx rfl (hb hby at_166) rfl ?_
    show own_S p e below T11 (mkF m 167 #[vi p1, vi p2, vi p3, vi p4, vi (0 : Int32), vi (1 : Int32), vi (0 : Int32), vr va1, vr va2, vr va3, vr b4, vj (1 : Int64), .second] [xi p2, xi p1, xi (1 : Int32), xj ((0 : Int64) + own_h p2 1)]) _
    refine XS.iloadN X11.here hx rfl (hb hby at_167) rfl ?_
    show own_S p e below T11 (mkF m 168 #[vi p1, vi p2, vi p3, vi p4, vi (0 : Int32), vi (1 : Int32), vi (0 : Int32), vr va1, vr va2, vr va3, vr b4, vj (1 : Int64), .second] [xi p3, xi p2, xi p1, xi (1 : Int32), xj ((0 : Int64) + own_h p2 1)]) _
    refine XS.iloadN X11.here hx rfl (hb hby at_168) rfl ?_
    show own_S p e below T11 (mkF m 169 #[vi p1, vi p2, vi p3, vi p4, vi (0 : Int32), vi (1 : Int32), vi (0 : Int32), vr va1, vr va2, vr va3, vr b4, vj (1 : Int64), .second] [xi p4, xi p3, xi p2, xi p1, xi (1 : Int32), xj ((0 : Int64) + own_h p2 1)]) _
    refine st12 _ ?_
    show own_S p e below T12 (mkF m 172 #[vi p1, vi p2, vi p3, vi p4, vi (0 : Int32), vi (1 : Int32), vi (0 : Int32), vr va1, vr va2, vr va3, vr b4, vj (1 : Int64), .second] [xj (((0 : Int64) + (own_h p2 (1 : Int32))) + (0 : Int64)), xj ((0 : Int64) + own_h p2 1)]) _
    refine XS.lcmp X12.here hx rfl (hb hby at_172) rfl ?_
    show own_S p e below T12 (mkF m 173 #[vi p1, vi p2, vi p3, vi p4, vi (0 : Int32), vi (1 : Int32), vi (0 : Int32), vr va1, vr va2, vr va3, vr b4, vj (1 : Int64), .second] [xi (lcmpW ((0 : Int64) + own_h p2 1) (((0 : Int64) + (own_h p2 (1 : Int32))) + (0 : Int64)))]) _
    show own_S p e below T12 (mkF m 173 #[vi p1, vi p2, vi p3, vi p4, vi (0 : Int32), vi (1 : Int32), vi (0 : Int32), vr va1, vr va2, vr va3, vr b4, vj (1 : Int64), .second] [xi (lcmpW ((0 : Int64) + own_h p2 1) (((0 : Int64) + (own_h p2 (1 : Int32))) + (0 : Int64)))]) _
    refine XS.ifNo X12.here hx rfl (hb hby at_173) rfl (by simp [lcmpW, ifCond.holds, Int64.zero_add, Int64.add_zero]) ?_
    show own_S p e below T12 (mkF m 176 #[vi p1, vi p2, vi p3, vi p4, vi (0 : Int32), vi (1 : Int32), vi (0 : Int32), vr va1, vr va2, vr va3, vr b4, vj (1 : Int64), .second] []) _
    refine XS.aload X12.here hx rfl (hb hby at_176) rfl rfl ?_
    show own_S p e below T12 (mkF m 178 #[vi p1, vi p2, vi p3, vi p4, vi (0 : Int32), vi (1 : Int32), vi (0 : Int32), vr va1, vr va2, vr va3, vr b4, vj (1 : Int64), .second] [xr b4]) _
    refine st13 _ ?_
    show own_S p e below T13 (mkF m 181 #[vi p1, vi p2, vi p3, vi p4, vi (0 : Int32), vi (1 : Int32), vi (0 : Int32), vr va1, vr va2, vr va3, vr b4, vj (1 : Int64), .second] [xr u2, xr b4]) _
    refine st14.trans ?_
    show own_S p e below T14 (mkF m 184 #[vi p1, vi p2, vi p3, vi p4, vi (0 : Int32), vi (1 : Int32), vi (0 : Int32), vr va1, vr va2, vr va3, vr b4, vj (1 : Int64), .second] [xj ((0 : Int64) + own_h p2 2)]) _
    refine XS.iconst X14.here hx rfl (hb hby at_184) ?_
    show own_S p e below T14 (mkF m 185 #[vi p1, vi p2, vi p3, vi p4, vi (0 : Int32), vi (1 : Int32), vi (0 : Int32), vr va1, vr va2, vr va3, vr b4, vj (1 : Int64), .second] [xi (2 : Int32), xj ((0 : Int64) + own_h p2 2)]) _
    refine XS.iloadN X14.here hx rfl (hb hby at_185) rfl ?_
    show own_S p e below T14 (mkF m 186 #[vi p1, vi p2, vi p3, vi p4, vi (0 : Int32), vi (1 : Int32), vi (0 : Int32), vr va1, vr va2, vr va3, vr b4, vj (1 : Int64), .second] [xi p1, xi (2 : Int32), xj ((0 : Int64) + own_h p2 2)]) _
    refine XS.iloadN X14.here hx rfl (hb hby at_186) rfl ?_
    show own_S p e below T14 (mkF m 187 #[vi p1, vi p2, vi p3, vi p4, vi (0 : Int32), vi (1 : Int32), vi (0 : Int32), vr va1, vr va2, vr va3, vr b4, vj (1 : Int64), .second] [xi p2, xi p1, xi (2 : Int32), xj ((0 : Int64) + own_h p2 2)]) _
    refine XS.iloadN X14.here hx rfl (hb hby at_187) rfl ?_
    show own_S p e below T14 (mkF m 188 #[vi p1, vi p2, vi p3, vi p4, vi (0 : Int32), vi (1 : Int32), vi (0 : Int32), vr va1, vr va2, vr va3, vr b4, vj (1 : Int64), .second] [xi p3, xi p2, xi p1, xi (2 : Int32), xj ((0 : Int64) + own_h p2 2)]) _
    refine XS.iloadN X14.here hx rfl (hb hby at_188) rfl ?_
    show own_S p e below T14 (mkF m 189 #[vi p1, vi p2, vi p3, vi p4, vi (0 : Int32), vi (1 : Int32), vi (0 : Int32), vr va1, vr va2, vr va3, vr b4, vj (1 : Int64), .second] [xi p4, xi p3, xi p2, xi p1, xi (2 : Int32), xj ((0 : Int64) + own_h p2 2)]) _
    refine st15 _ ?_
    show own_S p e below T15 (mkF m 192 #[vi p1, vi p2, vi p3, vi p4, vi (0 : Int32), vi (1 : Int32), vi (0 : Int32), vr va1, vr va2, vr va3, vr b4, vj (1 : Int64), .second] [xj (((0 : Int64) + (own_h p2 (2 : Int32))) + (0 : Int64)), xj ((0 : Int64) + own_h p2 2)]) _
    refine XS.lcmp X15.here hx rfl (hb hby at_192) rfl ?_
    show own_S p e below T15 (mkF m 193 #[vi p1, vi p2, vi p3, vi p4, vi (0 : Int32), vi (1 : Int32), vi (0 : Int32), vr va1, vr va2, vr va3, vr b4, vj (1 : Int64), .second] [xi (lcmpW ((0 : Int64) + own_h p2 2) (((0 : Int64) + (own_h p2 (2 : Int32))) + (0 : Int64)))]) _
    show own_S p e below T15 (mkF m 193 #[vi p1, vi p2, vi p3, vi p4, vi (0 : Int32), vi (1 : Int32), vi (0 : Int32), vr va1, vr va2, vr va3, vr b4, vj (1 : Int64), .second] [xi (lcmpW ((0 : Int64) + own_h p2 2) (((0 : Int64) + (own_h p2 (2 : Int32))) + (0 : Int64)))]) _
    refine XS.ifNo X15.here hx rfl (hb hby at_193) rfl (by simp [lcmpW, ifCond.holds, Int64.zero_add, Int64.add_zero]) ?_
    show own_S p e below T15 (mkF m 196 #[vi p1, vi p2, vi p3, vi p4, vi (0 : Int32), vi (1 : Int32), vi (0 : Int32), vr va1, vr va2, vr va3, vr b4, vj (1 : Int64), .second] []) _
    refine XS.aload X15.here hx rfl (hb hby at_196) rfl rfl ?_
    show own_S p e below T15 (mkF m 198 #[vi p1, vi p2, vi p3, vi p4, vi (0 : Int32), vi (1 : Int32), vi (0 : Int32), vr va1, vr va2, vr va3, vr b4, vj (1 : Int64), .second] [xr b4]) _
    refine st16 _ ?_
    show own_S p e below T16 (mkF m 201 #[vi p1, vi p2, vi p3, vi p4, vi (0 : Int32), vi (1 : Int32), vi (0 : Int32), vr va1, vr va2, vr va3, vr b4, vj (1 : Int64), .second] [xr u1, xr b4]) _
    refine st17.trans ?_
    show own_S p e below T17 (mkF m 204 #[vi p1, vi p2, vi p3, vi p4, vi (0 : Int32), vi (1 : Int32), vi (0 : Int32), vr va1, vr va2, vr va3, vr b4, vj (1 : Int64), .second] [xj ((0 : Int64) + own_h p2 3)]) _
    refine XS.iconst X17.here hx rfl (hb hby at_204) ?_
    show own_S p e below T17 (mkF m 205 #[vi p1, vi p2, vi p3, vi p4, vi (0 : Int32), vi (1 : Int32), vi (0 : Int32), vr va1, vr va2, vr va3, vr b4, vj (1 : Int64), .second] [xi (3 : Int32), xj ((0 : Int64) + own_h p2 3)]) _
    refine XS.iloadN X17.here hx rfl (hb hby at_205) rfl ?_
    show own_S p e below T17 (mkF m 206 #[vi p1, vi p2, vi p3, vi p4, vi (0 : Int32), vi (1 : Int32), vi (0 : Int32), vr va1, vr va2, vr va3, vr b4, vj (1 : Int64), .second] [xi p1, xi (3 : Int32), xj ((0 : Int64) + own_h p2 3)]) _
    refine XS.iloadN X17.here hx rfl (hb hby at_206) rfl ?_
    show own_S p e below T17 (mkF m 207 #[vi p1, vi p2, vi p3, vi p4, vi (0 : Int32), vi (1 : Int32), vi (0 : Int32), vr va1, vr va2, vr va3, vr b4, vj (1 : Int64), .second] [xi p2, xi p1, xi (3 : Int32), xj ((0 : Int64) + own_h p2 3)]) _
    refine XS.iloadN X17.here hx rfl (hb hby at_207) rfl ?_
    show own_S p e below T17 (mkF m 208 #[vi p1, vi p2, vi p3, vi p4, vi (0 : Int32), vi (1 : Int32), vi (0 : Int32), vr va1, vr va2, vr va3, vr b4, vj (1 : Int64), .second] [xi p3, xi p2, xi p1, xi (3 : Int32), xj ((0 : Int64) + own_h p2 3)]) _
    refine XS.iloadN X17.here hx rfl (hb hby at_208) rfl ?_
    show own_S p e below T17 (mkF m 209 #[vi p1, vi p2, vi p3, vi p4, vi (0 : Int32), vi (1 : Int32), vi (0 : Int32), vr va1, vr va2, vr va3, vr b4, vj (1 : Int64), .second] [xi p4, xi p3, xi p2, xi p1, xi (3 : Int32), xj ((0 : Int64) + own_h p2 3)]) _
    refine st18 _ ?_
    show own_S p e below T18 (mkF m 212 #[vi p1, vi p2, vi p3, vi p4, vi (0 : Int32), vi (1 : Int32), vi (0 : Int32), vr va1, vr va2, vr va3, vr b4, vj (1 : Int64), .second] [xj (((0 : Int64) + (own_h p2 (3 : Int32))) + (0 : Int64)), xj ((0 : Int64) + own_h p2 3)]) _
    refine XS.lcmp X18.here hx rfl (hb hby at_212) rfl ?_
    show own_S p e below T18 (mkF m 213 #[vi p1, vi p2, vi p3, vi p4, vi (0 : Int32), vi (1 : Int32), vi (0 : Int32), vr va1, vr va2, vr va3, vr b4, vj (1 : Int64), .second] [xi (lcmpW ((0 : Int64) + own_h p2 3) (((0 : Int64) + (own_h p2 (3 : Int32))) + (0 : Int64)))]) _
    show own_S p e below T18 (mkF m 213 #[vi p1, vi p2, vi p3, vi p4, vi (0 : Int32), vi (1 : Int32), vi (0 : Int32), vr va1, vr va2, vr va3, vr b4, vj (1 : Int64), .second] [xi (lcmpW ((0 : Int64) + own_h p2 3) (((0 : Int64) + (own_h p2 (3 : Int32))) + (0 : Int64)))]) _
    refine XS.ifNo X18.here hx rfl (hb hby at_213) rfl (by simp [lcmpW, ifCond.holds, Int64.zero_add, Int64.add_zero]) ?_
    show own_S p e below T18 (mkF m 216 #[vi p1, vi p2, vi p3, vi p4, vi (0 : Int32), vi (1 : Int32), vi (0 : Int32), vr va1, vr va2, vr va3, vr b4, vj (1 : Int64), .second] []) _
    refine XS.aload X18.here hx rfl (hb hby at_216) rfl rfl ?_
    show own_S p e below T18 (mkF m 218 #[vi p1, vi p2, vi p3, vi p4, vi (0 : Int32), vi (1 : Int32), vi (0 : Int32), vr va1, vr va2, vr va3, vr b4, vj (1 : Int64), .second] [xr b4]) _
    refine st19.trans ?_
    show own_S p e below T19 (mkF m 221 #[vi p1, vi p2, vi p3, vi p4, vi (0 : Int32), vi (1 : Int32), vi (0 : Int32), vr va1, vr va2, vr va3, vr b4, vj (1 : Int64), .second] [xj (((((0 : Int64) + ((0 : Int64) + own_h p2 0)) + ((0 : Int64) + own_h p2 1)) + ((0 : Int64) + own_h p2 2)) + ((0 : Int64) + own_h p2 3))]) _
    refine XS.lload X19.here hx rfl (hb hby at_221) rfl ?_
    show own_S p e below T19 (mkF m 223 #[vi p1, vi p2, vi p3, vi p4, vi (0 : Int32), vi (1 : Int32), vi (0 : Int32), vr va1, vr va2, vr va3, vr b4, vj (1 : Int64), .second] [xj (1 : Int64), xj (((((0 : Int64) + ((0 : Int64) + own_h p2 0)) + ((0 : Int64) + own_h p2 1)) + ((0 : Int64) + own_h p2 2)) + ((0 : Int64) + own_h p2 3))]) _
    refine XS.lcmp X19.here hx rfl (hb hby at_223) rfl ?_
    show own_S p e below T19 (mkF m 224 #[vi p1, vi p2, vi p3, vi p4, vi (0 : Int32), vi (1 : Int32), vi (0 : Int32), vr va1, vr va2, vr va3, vr b4, vj (1 : Int64), .second] [xi (lcmpW (((((0 : Int64) + ((0 : Int64) + own_h p2 0)) + ((0 : Int64) + own_h p2 1)) + ((0 : Int64) + own_h p2 2)) + ((0 : Int64) + own_h p2 3)) (1 : Int64))]) _
    show own_S p e below T19 (mkF m 224 #[vi p1, vi p2, vi p3, vi p4, vi (0 : Int32), vi (1 : Int32), vi (0 : Int32), vr va1, vr va2, vr va3, vr b4, vj (1 : Int64), .second] [xi (lcmpW (((((0 : Int64) + ((0 : Int64) + own_h p2 0)) + ((0 : Int64) + own_h p2 1)) + ((0 : Int64) + own_h p2 2)) + ((0 : Int64) + own_h p2 3)) (1 : Int64))]) _
    refine XS.ifNo X19.here hx rfl (hb hby at_224) rfl (by rw [show (((((0 : Int64) + ((0 : Int64) + own_h p2 0)) + ((0 : Int64) + own_h p2 1)) + ((0 : Int64) + own_h p2 2)) + ((0 : Int64) + own_h p2 3)) = (own_h p2 0 + own_h p2 1 + own_h p2 2 + own_h p2 3) from by simp only [Int64.zero_add]; try ac_rfl]; simp only [own_hsum]; try decide) ?_
    show own_S p e below T19 (mkF m 227 #[vi p1, vi p2, vi p3, vi p4, vi (0 : Int32), vi (1 : Int32), vi (0 : Int32), vr va1, vr va2, vr va3, vr b4, vj (1 : Int64), .second] []) _
    refine XS.iconst X19.here hx rfl (hb hby at_227) ?_
    show own_S p e below T19 (mkF m 228 #[vi p1, vi p2, vi p3, vi p4, vi (0 : Int32), vi (1 : Int32), vi (0 : Int32), vr va1, vr va2, vr va3, vr b4, vj (1 : Int64), .second] [xi (1 : Int32)]) _
    refine XS.goto X19.here hx rfl (pc0 := 228) (pc' := 232) rfl (hb hby at_228) (by decide) (by decide) ?_
    show own_S p e below T19 (mkF m 232 #[vi p1, vi p2, vi p3, vi p4, vi (0 : Int32), vi (1 : Int32), vi (0 : Int32), vr va1, vr va2, vr va3, vr b4, vj (1 : Int64), .second] [xi (1 : Int32)]) _
    exact retN X19 hx (t := .boolean) Bd.returns (by simp) (hb hby at_232) hr
  · exact ⟨rfl, N19⟩
theorem ef_own_c16_expected (m : MethodId) (u0 u1 u2 u3 u4 : Addr) (p1 : Int32) (p2 : Int32) (p3 : Int32) (p4 : Int32) : entryFrame m #[xi (0 : Int32), xi p1, xi p2, xi p3, xi p4] 5 = (mkF m 0 #[vi (0 : Int32), vi p1, vi p2, vi p3, vi p4] []) := by first | (simp [entryFrame, mkF, argsToLocals, Value.category]; done) | rfl
set_option maxRecDepth 65536 in
set_option maxHeartbeats 40000000 in
theorem own_c16_expected (l : Launch) (Z : State) (a0 : Array Value) (hw : ∀ d ∈ tables_1, d.before a0 Z = true) (u0 u1 u2 u3 u4 : Addr) (G : own_St Z u0 u1 u2 u3 u4) (p1 : Int32) (p2 : Int32) (p3 : Int32) (p4 : Int32) (as6 : (p4 &&& (1 : Int32)) = (0 : Int32)) (as9 : (p4 &&& (2 : Int32)) = (2 : Int32)) (as11 : (p4 &&& (4 : Int32)) = (4 : Int32)) (h0 : Heap) (n0 : Nat) (O0 : Old Z n0 h0) : own_Met l Z Y9 method_4_code 5 (some .long) ({ frames := 1, cells := 0, slots := 0, locals := 16 } : Room) #[xi (0 : Int32), xi p1, xi p2, xi p3, xi p4] h0 (own_QR (some (xj (((0 : Int64) + (own_h p2 (0 : Int32))) + (own_h p3 (0 : Int32))))) h0 n0) := by
  intro ws
  refine MetFree.of_bodySF (plainFor_of_name pn3) hisR ?_
  intro p e s m args below meth c s₁ Bd hml0 hP hK
  obtain ⟨rfl, hZ, hh⟩ := hP
  have hx := Bd.exec
  have hby := Bd.bytes
  have hml : c.maxLocals = 5 := hml0
  have hown : s.vm.findClass "com/example/feedwright/feedwright/LoadSummaryAddPinLaw" = some m.cls := findClass_of_methodNamed Bd.named
  have hnm := (name_of_methodNamed Bd.named Bd.method).1
  have X0 : Stand p l e ({ frames := 1, cells := 0, slots := 0, locals := 16 } : Room) s m #[xi (0 : Int32), xi p1, xi p2, xi p3, xi p4] below meth c s₁ [] 0 0 := Stand.of_body Bd
  have e0 : s₁.heap = h0 := by rw [← hh, Bd.state]; rfl
  have N0 := Fr.nil n0
  have pre0 : ∀ t, Steps p.tables e below (s₁.setTop (mkF m 0 #[vi (0 : Int32), vi p1, vi p2, vi p3, vi p4] [])) t → Steps p.tables e below (s₁.setTop (entryFrame m #[xi (0 : Int32), xi p1, xi p2, xi p3, xi p4] 5)) t := fun t st => castTop (ef_own_c16_expected m u0 u1 u2 u3 u4 p1 p2 p3 p4) st
  obtain ⟨_, _, ⟨T1, L1, k1, n1⟩, -, X1, ⟨Lc1, hQ1, l1, y1, z1⟩, st1⟩ := Jvm.LawKit.callS X0 hx (y := Y6) hown (mvT hZ (ww hw 61 rfl)) (mvT hZ (ww hw 62 rfl)) (mvT hZ (ww hw 2 rfl)) (mvT hZ (ww hw 63 rfl)) (by decide) (backOf (W := 0) (own_hit_off l Z a0 hw u0 u1 u2 u3 u4 G p1 (0 : Int32) h0 n0 O0 []) hZ (ww hw 63 rfl) (ww hw 2 rfl) (by decide) (by decide)) (g := (mkF m 14 #[vi (0 : Int32), vi p1, vi p2, vi p3, vi p4] [xi (0 : Int32), xi p1, xi (0 : Int32)])) rfl (by rw [hml]; rfl) (argsL := [xi (0 : Int32), xi p1, xi (0 : Int32)]) (rest := []) (lenOf pd5 rfl) rfl (by show 2 * 0 + _ ≤ _; exact Nat.le_of_eq rfl) (hb hby d8_14) (fun _ _ => ⟨rfl, e0, (by decide : 0 + 0 ≤ _), (by decide : 0 + 0 ≤ _)⟩)
  dsimp only [Pt.U, Pt.locs, Pt.cells, Pt.slots] at X1 l1 y1 z1 st1 hQ1
  subst l1 y1 z1
  obtain ⟨rfl, Nq1, e1⟩ := hQ1
  have N1 := Fr.app N0 Nq1
  obtain ⟨_, _, ⟨T2, L2, k2, n2⟩, -, X2, ⟨Lc2, hQ2, l2, y2, z2⟩, st2⟩ := Jvm.LawKit.callS X1 hx (y := Y6) hown (mvT hZ (ww hw 61 rfl)) (mvT hZ (ww hw 62 rfl)) (mvT hZ (ww hw 2 rfl)) (mvT hZ (ww hw 63 rfl)) (by decide) (backOf (W := 2) (own_hit l Z a0 hw u0 u1 u2 u3 u4 G p2 (0 : Int32) h0 n0 O0 []) hZ (ww hw 63 rfl) (ww hw 2 rfl) (by decide) (by decide)) (g := (mkF m 31 #[vi (0 : Int32), vi p1, vi p2, vi p3, vi p4] [xi (0 : Int32), xi p2, xi (1 : Int32), xj (0 : Int64)])) rfl (by rw [hml]; rfl) (argsL := [xi (1 : Int32), xi p2, xi (0 : Int32)]) (rest := [xj (0 : Int64)]) (lenOf pd5 rfl) rfl (by show 2 * 0 + _ ≤ _; exact Nat.le_of_eq rfl) (hb hby d8_31) (fun _ _ => ⟨rfl, e1, (by decide : 0 + 0 ≤ _), (by decide : 0 + 0 ≤ _)⟩)
  dsimp only [Pt.U, Pt.locs, Pt.cells, Pt.slots] at X2 l2 y2 z2 st2 hQ2
  subst l2 y2 z2
  obtain ⟨rfl, Nq2, e2⟩ := hQ2
  have N2 := Fr.app N1 Nq2
  obtain ⟨_, _, ⟨T3, L3, k3, n3⟩, -, X3, ⟨Lc3, hQ3, l3, y3, z3⟩, st3⟩ := Jvm.LawKit.callS X2 hx (y := Y6) hown (mvT hZ (ww hw 61 rfl)) (mvT hZ (ww hw 62 rfl)) (mvT hZ (ww hw 2 rfl)) (mvT hZ (ww hw 63 rfl)) (by decide) (backOf (W := 2) (own_hit l Z a0 hw u0 u1 u2 u3 u4 G p3 (0 : Int32) h0 n0 O0 []) hZ (ww hw 63 rfl) (ww hw 2 rfl) (by decide) (by decide)) (g := (mkF m 49 #[vi (0 : Int32), vi p1, vi p2, vi p3, vi p4] [xi (0 : Int32), xi p3, xi (1 : Int32), xj ((0 : Int64) + (own_h p2 (0 : Int32)))])) rfl (by rw [hml]; rfl) (argsL := [xi (1 : Int32), xi p3, xi (0 : Int32)]) (rest := [xj ((0 : Int64) + (own_h p2 (0 : Int32)))]) (lenOf pd5 rfl) rfl (by show 2 * 0 + _ ≤ _; exact Nat.le_of_eq rfl) (hb hby d8_49) (fun _ _ => ⟨rfl, e2, (by decide : 0 + 0 ≤ _), (by decide : 0 + 0 ≤ _)⟩)
  dsimp only [Pt.U, Pt.locs, Pt.cells, Pt.slots] at X3 l3 y3 z3 st3 hQ3
  subst l3 y3 z3
  obtain ⟨rfl, Nq3, e3⟩ := hQ3
  have N3 := Fr.app N2 Nq3
  obtain ⟨fs, hr, hrun, hended, hW, hsame⟩ := X3.leave (v := some (xj (((0 : Int64) + (own_h p2 (0 : Int32))) + (own_h p3 (0 : Int32))))) (fun h => by rw [Bd.returns] at h; cases h)
  refine ⟨_, _, pre0 _ ?_, hrun, hended, _, _, rfl, ?_, ⟨_, rfl⟩, hW, hsame.mono (by decide) (by decide)⟩
  · show own_S p e below s₁ (mkF m 0 #[vi (0 : Int32), vi p1, vi p2, vi p3, vi p4] []) _
    refine XS.iload X0.here hx rfl (hb hby d8_0) rfl ?_
    show own_S p e below s₁ (mkF m 2 #[vi (0 : Int32), vi p1, vi p2, vi p3, vi p4] [xi p4]) _
    refine XS.iconst X0.here hx rfl (hb hby d8_2) ?_
    show own_S p e below s₁ (mkF m 3 #[vi (0 : Int32), vi p1, vi p2, vi p3, vi p4] [xi (1 : Int32), xi p4]) _
    refine XS.iand X0.here hx rfl (hb hby d8_3) rfl ?_
    show own_S p e below s₁ (mkF m 4 #[vi (0 : Int32), vi p1, vi p2, vi p3, vi p4] [xi (p4 &&& (1 : Int32))]) _
    refine castTop (show (mkF m 4 #[vi (0 : Int32), vi p1, vi p2, vi p3, vi p4] [xi (p4 &&& (1 : Int32))]) = (mkF m 4 #[vi (0 : Int32), vi p1, vi p2, vi p3, vi p4] [xi (0 : Int32)]) from by rw [as6]) ?_
    show own_S p e below s₁ (mkF m 4 #[vi (0 : Int32), vi p1, vi p2, vi p3, vi p4] [xi (0 : Int32)]) _
    refine XS.ifYes X0.here hx rfl (pc0 := 4) (pc' := 11) rfl (hb hby d8_4) rfl (by decide) (by decide) (by decide) ?_
    show own_S p e below s₁ (mkF m 11 #[vi (0 : Int32), vi p1, vi p2, vi p3, vi p4] []) _
    refine XS.iconst X0.here hx rfl (hb hby d8_11) ?_
    show own_S p e below s₁ (mkF m 12 #[vi (0 : Int32), vi p1, vi p2, vi p3, vi p4] [xi (0 : Int32)]) _
    refine XS.iloadN X0.here hx rfl (hb hby d8_12) rfl ?_
    show own_S p e below s₁ (mkF m 13 #[vi (0 : Int32), vi p1, vi p2, vi p3, vi p4] [xi p1, xi (0 : Int32)]) _
    refine XS.iloadN X0.here hx rfl (hb hby d8_13) rfl ?_
    show own_S p e below s₁ (mkF m 14 #[vi (0 : Int32), vi p1, vi p2, vi p3, vi p4] [xi (0 : Int32), xi p1, xi (0 : Int32)]) _
    refine st1 _ ?_
    show own_S p e below T1 (mkF m 17 #[vi (0 : Int32), vi p1, vi p2, vi p3, vi p4] [xj (0 : Int64)]) _
    refine XS.iload X1.here hx rfl (hb hby d8_17) rfl ?_
    show own_S p e below T1 (mkF m 19 #[vi (0 : Int32), vi p1, vi p2, vi p3, vi p4] [xi p4, xj (0 : Int64)]) _
    refine XS.iconst X1.here hx rfl (hb hby d8_19) ?_
    show own_S p e below T1 (mkF m 20 #[vi (0 : Int32), vi p1, vi p2, vi p3, vi p4] [xi (2 : Int32), xi p4, xj (0 : Int64)]) _
    refine XS.iand X1.here hx rfl (hb hby d8_20) rfl ?_
    show own_S p e below T1 (mkF m 21 #[vi (0 : Int32), vi p1, vi p2, vi p3, vi p4] [xi (p4 &&& (2 : Int32)), xj (0 : Int64)]) _
    refine castTop (show (mkF m 21 #[vi (0 : Int32), vi p1, vi p2, vi p3, vi p4] [xi (p4 &&& (2 : Int32)), xj (0 : Int64)]) = (mkF m 21 #[vi (0 : Int32), vi p1, vi p2, vi p3, vi p4] [xi (2 : Int32), xj (0 : Int64)]) from by rw [as9]) ?_
    show own_S p e below T1 (mkF m 21 #[vi (0 : Int32), vi p1, vi p2, vi p3, vi p4] [xi (2 : Int32), xj (0 : Int64)]) _
    refine XS.ifNo X1.here hx rfl (hb hby d8_21) rfl (by decide) ?_
    show own_S p e below T1 (mkF m 24 #[vi (0 : Int32), vi p1, vi p2, vi p3, vi p4] [xj (0 : Int64)]) _
    refine XS.iconst X1.here hx rfl (hb hby d8_24) ?_
    show own_S p e below T1 (mkF m 25 #[vi (0 : Int32), vi p1, vi p2, vi p3, vi p4] [xi (1 : Int32), xj (0 : Int64)]) _
    refine XS.goto X1.here hx rfl (pc0 := 25) (pc' := 29) rfl (hb hby d8_25) (by decide) (by decide) ?_
    show own_S p e below T1 (mkF m 29 #[vi (0 : Int32), vi p1, vi p2, vi p3, vi p4] [xi (1 : Int32), xj (0 : Int64)]) _
    refine XS.iloadN X1.here hx rfl (hb hby d8_29) rfl ?_
    show own_S p e below T1 (mkF m 30 #[vi (0 : Int32), vi p1, vi p2, vi p3, vi p4] [xi p2, xi (1 : Int32), xj (0 : Int64)]) _
    refine XS.iloadN X1.here hx rfl (hb hby d8_30) rfl ?_
    show own_S p e below T1 (mkF m 31 #[vi (0 : Int32), vi p1, vi p2, vi p3, vi p4] [xi (0 : Int32), xi p2, xi (1 : Int32), xj (0 : Int64)]) _
    refine st2 _ ?_
    show own_S p e below T2 (mkF m 34 #[vi (0 : Int32), vi p1, vi p2, vi p3, vi p4] [xj (own_h p2 (0 : Int32)), xj (0 : Int64)]) _
    refine XS.ladd X2.here hx rfl (hb hby d8_34) rfl ?_
    show own_S p e below T2 (mkF m 35 #[vi (0 : Int32), vi p1, vi p2, vi p3, vi p4] [xj ((0 : Int64) + (own_h p2 (0 : Int32)))]) _
    show own_S p e below T2 (mkF m 35 #[vi (0 : Int32), vi p1, vi p2, vi p3, vi p4] [xj ((0 : Int64) + (own_h p2 (0 : Int32)))]) _
    refine XS.iload X2.here hx rfl (hb hby d8_35) rfl ?_
    show own_S p e below T2 (mkF m 37 #[vi (0 : Int32), vi p1, vi p2, vi p3, vi p4] [xi p4, xj ((0 : Int64) + (own_h p2 (0 : Int32)))]) _
    refine XS.iconst X2.here hx rfl (hb hby d8_37) ?_
    show own_S p e below T2 (mkF m 38 #[vi (0 : Int32), vi p1, vi p2, vi p3, vi p4] [xi (4 : Int32), xi p4, xj ((0 : Int64) + (own_h p2 (0 : Int32)))]) _
    refine XS.iand X2.here hx rfl (hb hby d8_38) rfl ?_
    show own_S p e below T2 (mkF m 39 #[vi (0 : Int32), vi p1, vi p2, vi p3, vi p4] [xi (p4 &&& (4 : Int32)), xj ((0 : Int64) + (own_h p2 (0 : Int32)))]) _
    refine castTop (show (mkF m 39 #[vi (0 : Int32), vi p1, vi p2, vi p3, vi p4] [xi (p4 &&& (4 : Int32)), xj ((0 : Int64) + (own_h p2 (0 : Int32)))]) = (mkF m 39 #[vi (0 : Int32), vi p1, vi p2, vi p3, vi p4] [xi (4 : Int32), xj ((0 : Int64) + (own_h p2 (0 : Int32)))]) from by rw [as11]) ?_
    show own_S p e below T2 (mkF m 39 #[vi (0 : Int32), vi p1, vi p2, vi p3, vi p4] [xi (4 : Int32), xj ((0 : Int64) + (own_h p2 (0 : Int32)))]) _
    refine XS.ifNo X2.here hx rfl (hb hby d8_39) rfl (by decide) ?_
    show own_S p e below T2 (mkF m 42 #[vi (0 : Int32), vi p1, vi p2, vi p3, vi p4] [xj ((0 : Int64) + (own_h p2 (0 : Int32)))]) _
    refine XS.iconst X2.here hx rfl (hb hby d8_42) ?_
    show own_S p e below T2 (mkF m 43 #[vi (0 : Int32), vi p1, vi p2, vi p3, vi p4] [xi (1 : Int32), xj ((0 : Int64) + (own_h p2 (0 : Int32)))]) _
    refine XS.goto X2.here hx rfl (pc0 := 43) (pc' := 47) rfl (hb hby d8_43) (by decide) (by decide) ?_
    show own_S p e below T2 (mkF m 47 #[vi (0 : Int32), vi p1, vi p2, vi p3, vi p4] [xi (1 : Int32), xj ((0 : Int64) + (own_h p2 (0 : Int32)))]) _
    refine XS.iloadN X2.here hx rfl (hb hby d8_47) rfl ?_
    show own_S p e below T2 (mkF m 48 #[vi (0 : Int32), vi p1, vi p2, vi p3, vi p4] [xi p3, xi (1 : Int32), xj ((0 : Int64) + (own_h p2 (0 : Int32)))]) _
    refine XS.iloadN X2.here hx rfl (hb hby d8_48) rfl ?_
    show own_S p e below T2 (mkF m 49 #[vi (0 : Int32), vi p1, vi p2, vi p3, vi p4] [xi (0 : Int32), xi p3, xi (1 : Int32), xj ((0 : Int64) + (own_h p2 (0 : Int32)))]) _
    refine st3 _ ?_
    show own_S p e below T3 (mkF m 52 #[vi (0 : Int32), vi p1, vi p2, vi p3, vi p4] [xj (own_h p3 (0 : Int32)), xj ((0 : Int64) + (own_h p2 (0 : Int32)))]) _
    refine XS.ladd X3.here hx rfl (hb hby d8_52) rfl ?_
    show own_S p e below T3 (mkF m 53 #[vi (0 : Int32), vi p1, vi p2, vi p3, vi p4] [xj (((0 : Int64) + (own_h p2 (0 : Int32))) + (own_h p3 (0 : Int32)))]) _
    show own_S p e below T3 (mkF m 53 #[vi (0 : Int32), vi p1, vi p2, vi p3, vi p4] [xj (((0 : Int64) + (own_h p2 (0 : Int32))) + (own_h p3 (0 : Int32)))]) _
    exact X3.lreturnOut hx Bd.returns (hb hby d8_53) hr
  · exact ⟨rfl, N3, e3⟩
theorem ef_own_c17_expected (m : MethodId) (u0 u1 u2 u3 u4 : Addr) (p1 : Int32) (p2 : Int32) (p3 : Int32) (p4 : Int32) : entryFrame m #[xi (1 : Int32), xi p1, xi p2, xi p3, xi p4] 5 = (mkF m 0 #[vi (1 : Int32), vi p1, vi p2, vi p3, vi p4] []) := by first | (simp [entryFrame, mkF, argsToLocals, Value.category]; done) | rfl
set_option maxRecDepth 65536 in
set_option maxHeartbeats 40000000 in
theorem own_c17_expected (l : Launch) (Z : State) (a0 : Array Value) (hw : ∀ d ∈ tables_1, d.before a0 Z = true) (u0 u1 u2 u3 u4 : Addr) (G : own_St Z u0 u1 u2 u3 u4) (p1 : Int32) (p2 : Int32) (p3 : Int32) (p4 : Int32) (as6 : (p4 &&& (1 : Int32)) = (0 : Int32)) (as9 : (p4 &&& (2 : Int32)) = (2 : Int32)) (as11 : (p4 &&& (4 : Int32)) = (4 : Int32)) (h0 : Heap) (n0 : Nat) (O0 : Old Z n0 h0) : own_Met l Z Y9 method_4_code 5 (some .long) ({ frames := 1, cells := 0, slots := 0, locals := 16 } : Room) #[xi (1 : Int32), xi p1, xi p2, xi p3, xi p4] h0 (own_QR (some (xj (((0 : Int64) + (own_h p2 (1 : Int32))) + (own_h p3 (1 : Int32))))) h0 n0) := by
  intro ws
  refine MetFree.of_bodySF (plainFor_of_name pn3) hisR ?_
  intro p e s m args below meth c s₁ Bd hml0 hP hK
  obtain ⟨rfl, hZ, hh⟩ := hP
  have hx := Bd.exec
  have hby := Bd.bytes
  have hml : c.maxLocals = 5 := hml0
  have hown : s.vm.findClass "com/example/feedwright/feedwright/LoadSummaryAddPinLaw" = some m.cls := findClass_of_methodNamed Bd.named
  have hnm := (name_of_methodNamed Bd.named Bd.method).1
  have X0 : Stand p l e ({ frames := 1, cells := 0, slots := 0, locals := 16 } : Room) s m #[xi (1 : Int32), xi p1, xi p2, xi p3, xi p4] below meth c s₁ [] 0 0 := Stand.of_body Bd
  have e0 : s₁.heap = h0 := by rw [← hh, Bd.state]; rfl
  have N0 := Fr.nil n0
  have pre0 : ∀ t, Steps p.tables e below (s₁.setTop (mkF m 0 #[vi (1 : Int32), vi p1, vi p2, vi p3, vi p4] [])) t → Steps p.tables e below (s₁.setTop (entryFrame m #[xi (1 : Int32), xi p1, xi p2, xi p3, xi p4] 5)) t := fun t st => castTop (ef_own_c17_expected m u0 u1 u2 u3 u4 p1 p2 p3 p4) st
  obtain ⟨_, _, ⟨T1, L1, k1, n1⟩, -, X1, ⟨Lc1, hQ1, l1, y1, z1⟩, st1⟩ := Jvm.LawKit.callS X0 hx (y := Y6) hown (mvT hZ (ww hw 61 rfl)) (mvT hZ (ww hw 62 rfl)) (mvT hZ (ww hw 2 rfl)) (mvT hZ (ww hw 63 rfl)) (by decide) (backOf (W := 0) (own_hit_off l Z a0 hw u0 u1 u2 u3 u4 G p1 (1 : Int32) h0 n0 O0 []) hZ (ww hw 63 rfl) (ww hw 2 rfl) (by decide) (by decide)) (g := (mkF m 14 #[vi (1 : Int32), vi p1, vi p2, vi p3, vi p4] [xi (1 : Int32), xi p1, xi (0 : Int32)])) rfl (by rw [hml]; rfl) (argsL := [xi (0 : Int32), xi p1, xi (1 : Int32)]) (rest := []) (lenOf pd5 rfl) rfl (by show 2 * 0 + _ ≤ _; exact Nat.le_of_eq rfl) (hb hby d8_14) (fun _ _ => ⟨rfl, e0, (by decide : 0 + 0 ≤ _), (by decide : 0 + 0 ≤ _)⟩)
  dsimp only [Pt.U, Pt.locs, Pt.cells, Pt.slots] at X1 l1 y1 z1 st1 hQ1
  subst l1 y1 z1
  obtain ⟨rfl, Nq1, e1⟩ := hQ1
  have N1 := Fr.app N0 Nq1
  obtain ⟨_, _, ⟨T2, L2, k2, n2⟩, -, X2, ⟨Lc2, hQ2, l2, y2, z2⟩, st2⟩ := Jvm.LawKit.callS X1 hx (y := Y6) hown (mvT hZ (ww hw 61 rfl)) (mvT hZ (ww hw 62 rfl)) (mvT hZ (ww hw 2 rfl)) (mvT hZ (ww hw 63 rfl)) (by decide) (backOf (W := 2) (own_hit l Z a0 hw u0 u1 u2 u3 u4 G p2 (1 : Int32) h0 n0 O0 []) hZ (ww hw 63 rfl) (ww hw 2 rfl) (by decide) (by decide)) (g := (mkF m 31 #[vi (1 : Int32), vi p1, vi p2, vi p3, vi p4] [xi (1 : Int32), xi p2, xi (1 : Int32), xj (0 : Int64)])) rfl (by rw [hml]; rfl) (argsL := [xi (1 : Int32), xi p2, xi (1 : Int32)]) (rest := [xj (0 : Int64)]) (lenOf pd5 rfl) rfl (by show 2 * 0 + _ ≤ _; exact Nat.le_of_eq rfl) (hb hby d8_31) (fun _ _ => ⟨rfl, e1, (by decide : 0 + 0 ≤ _), (by decide : 0 + 0 ≤ _)⟩)
  dsimp only [Pt.U, Pt.locs, Pt.cells, Pt.slots] at X2 l2 y2 z2 st2 hQ2
  subst l2 y2 z2
  obtain ⟨rfl, Nq2, e2⟩ := hQ2
  have N2 := Fr.app N1 Nq2
  obtain ⟨_, _, ⟨T3, L3, k3, n3⟩, -, X3, ⟨Lc3, hQ3, l3, y3, z3⟩, st3⟩ := Jvm.LawKit.callS X2 hx (y := Y6) hown (mvT hZ (ww hw 61 rfl)) (mvT hZ (ww hw 62 rfl)) (mvT hZ (ww hw 2 rfl)) (mvT hZ (ww hw 63 rfl)) (by decide) (backOf (W := 2) (own_hit l Z a0 hw u0 u1 u2 u3 u4 G p3 (1 : Int32) h0 n0 O0 []) hZ (ww hw 63 rfl) (ww hw 2 rfl) (by decide) (by decide)) (g := (mkF m 49 #[vi (1 : Int32), vi p1, vi p2, vi p3, vi p4] [xi (1 : Int32), xi p3, xi (1 : Int32), xj ((0 : Int64) + (own_h p2 (1 : Int32)))])) rfl (by rw [hml]; rfl) (argsL := [xi (1 : Int32), xi p3, xi (1 : Int32)]) (rest := [xj ((0 : Int64) + (own_h p2 (1 : Int32)))]) (lenOf pd5 rfl) rfl (by show 2 * 0 + _ ≤ _; exact Nat.le_of_eq rfl) (hb hby d8_49) (fun _ _ => ⟨rfl, e2, (by decide : 0 + 0 ≤ _), (by decide : 0 + 0 ≤ _)⟩)
  dsimp only [Pt.U, Pt.locs, Pt.cells, Pt.slots] at X3 l3 y3 z3 st3 hQ3
  subst l3 y3 z3
  obtain ⟨rfl, Nq3, e3⟩ := hQ3
  have N3 := Fr.app N2 Nq3
  obtain ⟨fs, hr, hrun, hended, hW, hsame⟩ := X3.leave (v := some (xj (((0 : Int64) + (own_h p2 (1 : Int32))) + (own_h p3 (1 : Int32))))) (fun h => by rw [Bd.returns] at h; cases h)
  refine ⟨_, _, pre0 _ ?_, hrun, hended, _, _, rfl, ?_, ⟨_, rfl⟩, hW, hsame.mono (by decide) (by decide)⟩
  · show own_S p e below s₁ (mkF m 0 #[vi (1 : Int32), vi p1, vi p2, vi p3, vi p4] []) _
    refine XS.iload X0.here hx rfl (hb hby d8_0) rfl ?_
    show own_S p e below s₁ (mkF m 2 #[vi (1 : Int32), vi p1, vi p2, vi p3, vi p4] [xi p4]) _
    refine XS.iconst X0.here hx rfl (hb hby d8_2) ?_
    show own_S p e below s₁ (mkF m 3 #[vi (1 : Int32), vi p1, vi p2, vi p3, vi p4] [xi (1 : Int32), xi p4]) _
    refine XS.iand X0.here hx rfl (hb hby d8_3) rfl ?_
    show own_S p e below s₁ (mkF m 4 #[vi (1 : Int32), vi p1, vi p2, vi p3, vi p4] [xi (p4 &&& (1 : Int32))]) _
    refine castTop (show (mkF m 4 #[vi (1 : Int32), vi p1, vi p2, vi p3, vi p4] [xi (p4 &&& (1 : Int32))]) = (mkF m 4 #[vi (1 : Int32), vi p1, vi p2, vi p3, vi p4] [xi (0 : Int32)]) from by rw [as6]) ?_
    show own_S p e below s₁ (mkF m 4 #[vi (1 : Int32), vi p1, vi p2, vi p3, vi p4] [xi (0 : Int32)]) _
    refine XS.ifYes X0.here hx rfl (pc0 := 4) (pc' := 11) rfl (hb hby d8_4) rfl (by decide) (by decide) (by decide) ?_
    show own_S p e below s₁ (mkF m 11 #[vi (1 : Int32), vi p1, vi p2, vi p3, vi p4] []) _
    refine XS.iconst X0.here hx rfl (hb hby d8_11) ?_
    show own_S p e below s₁ (mkF m 12 #[vi (1 : Int32), vi p1, vi p2, vi p3, vi p4] [xi (0 : Int32)]) _
    refine XS.iloadN X0.here hx rfl (hb hby d8_12) rfl ?_
    show own_S p e below s₁ (mkF m 13 #[vi (1 : Int32), vi p1, vi p2, vi p3, vi p4] [xi p1, xi (0 : Int32)]) _
    refine XS.iloadN X0.here hx rfl (hb hby d8_13) rfl ?_
    show own_S p e below s₁ (mkF m 14 #[vi (1 : Int32), vi p1, vi p2, vi p3, vi p4] [xi (1 : Int32), xi p1, xi (0 : Int32)]) _
    refine st1 _ ?_
    show own_S p e below T1 (mkF m 17 #[vi (1 : Int32), vi p1, vi p2, vi p3, vi p4] [xj (0 : Int64)]) _
    refine XS.iload X1.here hx rfl (hb hby d8_17) rfl ?_
    show own_S p e below T1 (mkF m 19 #[vi (1 : Int32), vi p1, vi p2, vi p3, vi p4] [xi p4, xj (0 : Int64)]) _
    refine XS.iconst X1.here hx rfl (hb hby d8_19) ?_
    show own_S p e below T1 (mkF m 20 #[vi (1 : Int32), vi p1, vi p2, vi p3, vi p4] [xi (2 : Int32), xi p4, xj (0 : Int64)]) _
    refine XS.iand X1.here hx rfl (hb hby d8_20) rfl ?_
    show own_S p e below T1 (mkF m 21 #[vi (1 : Int32), vi p1, vi p2, vi p3, vi p4] [xi (p4 &&& (2 : Int32)), xj (0 : Int64)]) _
    refine castTop (show (mkF m 21 #[vi (1 : Int32), vi p1, vi p2, vi p3, vi p4] [xi (p4 &&& (2 : Int32)), xj (0 : Int64)]) = (mkF m 21 #[vi (1 : Int32), vi p1, vi p2, vi p3, vi p4] [xi (2 : Int32), xj (0 : Int64)]) from by rw [as9]) ?_
    show own_S p e below T1 (mkF m 21 #[vi (1 : Int32), vi p1, vi p2, vi p3, vi p4] [xi (2 : Int32), xj (0 : Int64)]) _
    refine XS.ifNo X1.here hx rfl (hb hby d8_21) rfl (by decide) ?_
    show own_S p e below T1 (mkF m 24 #[vi (1 : Int32), vi p1, vi p2, vi p3, vi p4] [xj (0 : Int64)]) _
    refine XS.iconst X1.here hx rfl (hb hby d8_24) ?_
    show own_S p e below T1 (mkF m 25 #[vi (1 : Int32), vi p1, vi p2, vi p3, vi p4] [xi (1 : Int32), xj (0 : Int64)]) _
    refine XS.goto X1.here hx rfl (pc0 := 25) (pc' := 29) rfl (hb hby d8_25) (by decide) (by decide) ?_
    show own_S p e below T1 (mkF m 29 #[vi (1 : Int32), vi p1, vi p2, vi p3, vi p4] [xi (1 : Int32), xj (0 : Int64)]) _
    refine XS.iloadN X1.here hx rfl (hb hby d8_29) rfl ?_
    show own_S p e below T1 (mkF m 30 #[vi (1 : Int32), vi p1, vi p2, vi p3, vi p4] [xi p2, xi (1 : Int32), xj (0 : Int64)]) _
    refine XS.iloadN X1.here hx rfl (hb hby d8_30) rfl ?_
    show own_S p e below T1 (mkF m 31 #[vi (1 : Int32), vi p1, vi p2, vi p3, vi p4] [xi (1 : Int32), xi p2, xi (1 : Int32), xj (0 : Int64)]) _
    refine st2 _ ?_
    show own_S p e below T2 (mkF m 34 #[vi (1 : Int32), vi p1, vi p2, vi p3, vi p4] [xj (own_h p2 (1 : Int32)), xj (0 : Int64)]) _
    refine XS.ladd X2.here hx rfl (hb hby d8_34) rfl ?_
    show own_S p e below T2 (mkF m 35 #[vi (1 : Int32), vi p1, vi p2, vi p3, vi p4] [xj ((0 : Int64) + (own_h p2 (1 : Int32)))]) _
    show own_S p e below T2 (mkF m 35 #[vi (1 : Int32), vi p1, vi p2, vi p3, vi p4] [xj ((0 : Int64) + (own_h p2 (1 : Int32)))]) _
    refine XS.iload X2.here hx rfl (hb hby d8_35) rfl ?_
    show own_S p e below T2 (mkF m 37 #[vi (1 : Int32), vi p1, vi p2, vi p3, vi p4] [xi p4, xj ((0 : Int64) + (own_h p2 (1 : Int32)))]) _
    refine XS.iconst X2.here hx rfl (hb hby d8_37) ?_
    show own_S p e below T2 (mkF m 38 #[vi (1 : Int32), vi p1, vi p2, vi p3, vi p4] [xi (4 : Int32), xi p4, xj ((0 : Int64) + (own_h p2 (1 : Int32)))]) _
    refine XS.iand X2.here hx rfl (hb hby d8_38) rfl ?_
    show own_S p e below T2 (mkF m 39 #[vi (1 : Int32), vi p1, vi p2, vi p3, vi p4] [xi (p4 &&& (4 : Int32)), xj ((0 : Int64) + (own_h p2 (1 : Int32)))]) _
    refine castTop (show (mkF m 39 #[vi (1 : Int32), vi p1, vi p2, vi p3, vi p4] [xi (p4 &&& (4 : Int32)), xj ((0 : Int64) + (own_h p2 (1 : Int32)))]) = (mkF m 39 #[vi (1 : Int32), vi p1, vi p2, vi p3, vi p4] [xi (4 : Int32), xj ((0 : Int64) + (own_h p2 (1 : Int32)))]) from by rw [as11]) ?_
    show own_S p e below T2 (mkF m 39 #[vi (1 : Int32), vi p1, vi p2, vi p3, vi p4] [xi (4 : Int32), xj ((0 : Int64) + (own_h p2 (1 : Int32)))]) _
    refine XS.ifNo X2.here hx rfl (hb hby d8_39) rfl (by decide) ?_
    show own_S p e below T2 (mkF m 42 #[vi (1 : Int32), vi p1, vi p2, vi p3, vi p4] [xj ((0 : Int64) + (own_h p2 (1 : Int32)))]) _
    refine XS.iconst X2.here hx rfl (hb hby d8_42) ?_
    show own_S p e below T2 (mkF m 43 #[vi (1 : Int32), vi p1, vi p2, vi p3, vi p4] [xi (1 : Int32), xj ((0 : Int64) + (own_h p2 (1 : Int32)))]) _
    refine XS.goto X2.here hx rfl (pc0 := 43) (pc' := 47) rfl (hb hby d8_43) (by decide) (by decide) ?_
    show own_S p e below T2 (mkF m 47 #[vi (1 : Int32), vi p1, vi p2, vi p3, vi p4] [xi (1 : Int32), xj ((0 : Int64) + (own_h p2 (1 : Int32)))]) _
    refine XS.iloadN X2.here hx rfl (hb hby d8_47) rfl ?_
    show own_S p e below T2 (mkF m 48 #[vi (1 : Int32), vi p1, vi p2, vi p3, vi p4] [xi p3, xi (1 : Int32), xj ((0 : Int64) + (own_h p2 (1 : Int32)))]) _
    refine XS.iloadN X2.here hx rfl (hb hby d8_48) rfl ?_
    show own_S p e below T2 (mkF m 49 #[vi (1 : Int32), vi p1, vi p2, vi p3, vi p4] [xi (1 : Int32), xi p3, xi (1 : Int32), xj ((0 : Int64) + (own_h p2 (1 : Int32)))]) _
    refine st3 _ ?_
    show own_S p e below T3 (mkF m 52 #[vi (1 : Int32), vi p1, vi p2, vi p3, vi p4] [xj (own_h p3 (1 : Int32)), xj ((0 : Int64) + (own_h p2 (1 : Int32)))]) _
    refine XS.ladd X3.here hx rfl (hb hby d8_52) rfl ?_
    show own_S p e below T3 (mkF m 53 #[vi (1 : Int32), vi p1, vi p2, vi p3, vi p4] [xj (((0 : Int64) + (own_h p2 (1 : Int32))) + (own_h p3 (1 : Int32)))]) _
    show own_S p e below T3 (mkF m 53 #[vi (1 : Int32), vi p1, vi p2, vi p3, vi p4] [xj (((0 : Int64) + (own_h p2 (1 : Int32))) + (own_h p3 (1 : Int32)))]) _
    exact X3.lreturnOut hx Bd.returns (hb hby d8_53) hr
  · exact ⟨rfl, N3, e3⟩
theorem ef_own_c18_expected (m : MethodId) (u0 u1 u2 u3 u4 : Addr) (p1 : Int32) (p2 : Int32) (p3 : Int32) (p4 : Int32) : entryFrame m #[xi (2 : Int32), xi p1, xi p2, xi p3, xi p4] 5 = (mkF m 0 #[vi (2 : Int32), vi p1, vi p2, vi p3, vi p4] []) := by first | (simp [entryFrame, mkF, argsToLocals, Value.category]; done) | rfl
set_option maxRecDepth 65536 in
set_option maxHeartbeats 40000000 in
theorem own_c18_expected (l : Launch) (Z : State) (a0 : Array Value) (hw : ∀ d ∈ tables_1, d.before a0 Z = true) (u0 u1 u2 u3 u4 : Addr) (G : own_St Z u0 u1 u2 u3 u4) (p1 : Int32) (p2 : Int32) (p3 : Int32) (p4 : Int32) (as6 : (p4 &&& (1 : Int32)) = (0 : Int32)) (as9 : (p4 &&& (2 : Int32)) = (2 : Int32)) (as11 : (p4 &&& (4 : Int32)) = (4 : Int32)) (h0 : Heap) (n0 : Nat) (O0 : Old Z n0 h0) : own_Met l Z Y9 method_4_code 5 (some .long) ({ frames := 1, cells := 0, slots := 0, locals := 16 } : Room) #[xi (2 : Int32), xi p1, xi p2, xi p3, xi p4] h0 (own_QR (some (xj (((0 : Int64) + (own_h p2 (2 : Int32))) + (own_h p3 (2 : Int32))))) h0 n0) := by
  intro ws
  refine MetFree.of_bodySF (plainFor_of_name pn3) hisR ?_
  intro p e s m args below meth c s₁ Bd hml0 hP hK
  obtain ⟨rfl, hZ, hh⟩ := hP
  have hx := Bd.exec
  have hby := Bd.bytes
  have hml : c.maxLocals = 5 := hml0
  have hown : s.vm.findClass "com/example/feedwright/feedwright/LoadSummaryAddPinLaw" = some m.cls := findClass_of_methodNamed Bd.named
  have hnm := (name_of_methodNamed Bd.named Bd.method).1
  have X0 : Stand p l e ({ frames := 1, cells := 0, slots := 0, locals := 16 } : Room) s m #[xi (2 : Int32), xi p1, xi p2, xi p3, xi p4] below meth c s₁ [] 0 0 := Stand.of_body Bd
  have e0 : s₁.heap = h0 := by rw [← hh, Bd.state]; rfl
  have N0 := Fr.nil n0
  have pre0 : ∀ t, Steps p.tables e below (s₁.setTop (mkF m 0 #[vi (2 : Int32), vi p1, vi p2, vi p3, vi p4] [])) t → Steps p.tables e below (s₁.setTop (entryFrame m #[xi (2 : Int32), xi p1, xi p2, xi p3, xi p4] 5)) t := fun t st => castTop (ef_own_c18_expected m u0 u1 u2 u3 u4 p1 p2 p3 p4) st
  obtain ⟨_, _, ⟨T1, L1, k1, n1⟩, -, X1, ⟨Lc1, hQ1, l1, y1, z1⟩, st1⟩ := Jvm.LawKit.callS X0 hx (y := Y6) hown (mvT hZ (ww hw 61 rfl)) (mvT hZ (ww hw 62 rfl)) (mvT hZ (ww hw 2 rfl)) (mvT hZ (ww hw 63 rfl)) (by decide) (backOf (W := 0) (own_hit_off l Z a0 hw u0 u1 u2 u3 u4 G p1 (2 : Int32) h0 n0 O0 []) hZ (ww hw 63 rfl) (ww hw 2 rfl) (by decide) (by decide)) (g := (mkF m 14 #[vi (2 : Int32), vi p1, vi p2, vi p3, vi p4] [xi (2 : Int32), xi p1, xi (0 : Int32)])) rfl (by rw [hml]; rfl) (argsL := [xi (0 : Int32), xi p1, xi (2 : Int32)]) (rest := []) (lenOf pd5 rfl) rfl (by show 2 * 0 + _ ≤ _; exact Nat.le_of_eq rfl) (hb hby d8_14) (fun _ _ => ⟨rfl, e0, (by decide : 0 + 0 ≤ _), (by decide : 0 + 0 ≤ _)⟩)
  dsimp only [Pt.U, Pt.locs, Pt.cells, Pt.slots] at X1 l1 y1 z1 st1 hQ1
  subst l1 y1 z1
  obtain ⟨rfl, Nq1, e1⟩ := hQ1
  have N1 := Fr.app N0 Nq1
  obtain ⟨_, _, ⟨T2, L2, k2, n2⟩, -, X2, ⟨Lc2, hQ2, l2, y2, z2⟩, st2⟩ := Jvm.LawKit.callS X1 hx (y := Y6) hown (mvT hZ (ww hw 61 rfl)) (mvT hZ (ww hw 62 rfl)) (mvT hZ (ww hw 2 rfl)) (mvT hZ (ww hw 63 rfl)) (by decide) (backOf (W := 2) (own_hit l Z a0 hw u0 u1 u2 u3 u4 G p2 (2 : Int32) h0 n0 O0 []) hZ (ww hw 63 rfl) (ww hw 2 rfl) (by decide) (by decide)) (g := (mkF m 31 #[vi (2 : Int32), vi p1, vi p2, vi p3, vi p4] [xi (2 : Int32), xi p2, xi (1 : Int32), xj (0 : Int64)])) rfl (by rw [hml]; rfl) (argsL := [xi (1 : Int32), xi p2, xi (2 : Int32)]) (rest := [xj (0 : Int64)]) (lenOf pd5 rfl) rfl (by show 2 * 0 + _ ≤ _; exact Nat.le_of_eq rfl) (hb hby d8_31) (fun _ _ => ⟨rfl, e1, (by decide : 0 + 0 ≤ _), (by decide : 0 + 0 ≤ _)⟩)
  dsimp only [Pt.U, Pt.locs, Pt.cells, Pt.slots] at X2 l2 y2 z2 st2 hQ2
  subst l2 y2 z2
  obtain ⟨rfl, Nq2, e2⟩ := hQ2
  have N2 := Fr.app N1 Nq2
  obtain ⟨_, _, ⟨T3, L3, k3, n3⟩, -, X3, ⟨Lc3, hQ3, l3, y3, z3⟩, st3⟩ := Jvm.LawKit.callS X2 hx (y := Y6) hown (mvT hZ (ww hw 61 rfl)) (mvT hZ (ww hw 62 rfl)) (mvT hZ (ww hw 2 rfl)) (mvT hZ (ww hw 63 rfl)) (by decide) (backOf (W := 2) (own_hit l Z a0 hw u0 u1 u2 u3 u4 G p3 (2 : Int32) h0 n0 O0 []) hZ (ww hw 63 rfl) (ww hw 2 rfl) (by decide) (by decide)) (g := (mkF m 49 #[vi (2 : Int32), vi p1, vi p2, vi p3, vi p4] [xi (2 : Int32), xi p3, xi (1 : Int32), xj ((0 : Int64) + (own_h p2 (2 : Int32)))])) rfl (by rw [hml]; rfl) (argsL := [xi (1 : Int32), xi p3, xi (2 : Int32)]) (rest := [xj ((0 : Int64) + (own_h p2 (2 : Int32)))]) (lenOf pd5 rfl) rfl (by show 2 * 0 + _ ≤ _; exact Nat.le_of_eq rfl) (hb hby d8_49) (fun _ _ => ⟨rfl, e2, (by decide : 0 + 0 ≤ _), (by decide : 0 + 0 ≤ _)⟩)
  dsimp only [Pt.U, Pt.locs, Pt.cells, Pt.slots] at X3 l3 y3 z3 st3 hQ3
  subst l3 y3 z3
  obtain ⟨rfl, Nq3, e3⟩ := hQ3
  have N3 := Fr.app N2 Nq3
  obtain ⟨fs, hr, hrun, hended, hW, hsame⟩ := X3.leave (v := some (xj (((0 : Int64) + (own_h p2 (2 : Int32))) + (own_h p3 (2 : Int32))))) (fun h => by rw [Bd.returns] at h; cases h)
  refine ⟨_, _, pre0 _ ?_, hrun, hended, _, _, rfl, ?_, ⟨_, rfl⟩, hW, hsame.mono (by decide) (by decide)⟩
  · show own_S p e below s₁ (mkF m 0 #[vi (2 : Int32), vi p1, vi p2, vi p3, vi p4] []) _
    refine XS.iload X0.here hx rfl (hb hby d8_0) rfl ?_
    show own_S p e below s₁ (mkF m 2 #[vi (2 : Int32), vi p1, vi p2, vi p3, vi p4] [xi p4]) _
    refine XS.iconst X0.here hx rfl (hb hby d8_2) ?_
    show own_S p e below s₁ (mkF m 3 #[vi (2 : Int32), vi p1, vi p2, vi p3, vi p4] [xi (1 : Int32), xi p4]) _
    refine XS.iand X0.here hx rfl (hb hby d8_3) rfl ?_
    show own_S p e below s₁ (mkF m 4 #[vi (2 : Int32), vi p1, vi p2, vi p3, vi p4] [xi (p4 &&& (1 : Int32))]) _
    refine castTop (show (mkF m 4 #[vi (2 : Int32), vi p1, vi p2, vi p3, vi p4] [xi (p4 &&& (1 : Int32))]) = (mkF m 4 #[vi (2 : Int32), vi p1, vi p2, vi p3, vi p4] [xi (0 : Int32)]) from by rw [as6]) ?_
    show own_S p e below s₁ (mkF m 4 #[vi (2 : Int32), vi p1, vi p2, vi p3, vi p4] [xi (0 : Int32)]) _
    refine XS.ifYes X0.here hx rfl (pc0 := 4) (pc' := 11) rfl (hb hby d8_4) rfl (by decide) (by decide) (by decide) ?_
    show own_S p e below s₁ (mkF m 11 #[vi (2 : Int32), vi p1, vi p2, vi p3, vi p4] []) _
    refine XS.iconst X0.here hx rfl (hb hby d8_11) ?_
    show own_S p e below s₁ (mkF m 12 #[vi (2 : Int32), vi p1, vi p2, vi p3, vi p4] [xi (0 : Int32)]) _
    refine XS.iloadN X0.here hx rfl (hb hby d8_12) rfl ?_
    show own_S p e below s₁ (mkF m 13 #[vi (2 : Int32), vi p1, vi p2, vi p3, vi p4] [xi p1, xi (0 : Int32)]) _
    refine XS.iloadN X0.here hx rfl (hb hby d8_13) rfl ?_
    show own_S p e below s₁ (mkF m 14 #[vi (2 : Int32), vi p1, vi p2, vi p3, vi p4] [xi (2 : Int32), xi p1, xi (0 : Int32)]) _
    refine st1 _ ?_
    show own_S p e below T1 (mkF m 17 #[vi (2 : Int32), vi p1, vi p2, vi p3, vi p4] [xj (0 : Int64)]) _
    refine XS.iload X1.here hx rfl (hb hby d8_17) rfl ?_
    show own_S p e below T1 (mkF m 19 #[vi (2 : Int32), vi p1, vi p2, vi p3, vi p4] [xi p4, xj (0 : Int64)]) _
    refine XS.iconst X1.here hx rfl (hb hby d8_19) ?_
    show own_S p e below T1 (mkF m 20 #[vi (2 : Int32), vi p1, vi p2, vi p3, vi p4] [xi (2 : Int32), xi p4, xj (0 : Int64)]) _
    refine XS.iand X1.here hx rfl (hb hby d8_20) rfl ?_
    show own_S p e below T1 (mkF m 21 #[vi (2 : Int32), vi p1, vi p2, vi p3, vi p4] [xi (p4 &&& (2 : Int32)), xj (0 : Int64)]) _
    refine castTop (show (mkF m 21 #[vi (2 : Int32), vi p1, vi p2, vi p3, vi p4] [xi (p4 &&& (2 : Int32)), xj (0 : Int64)]) = (mkF m 21 #[vi (2 : Int32), vi p1, vi p2, vi p3, vi p4] [xi (2 : Int32), xj (0 : Int64)]) from by rw [as9]) ?_
    show own_S p e below T1 (mkF m 21 #[vi (2 : Int32), vi p1, vi p2, vi p3, vi p4] [xi (2 : Int32), xj (0 : Int64)]) _
    refine XS.ifNo X1.here hx rfl (hb hby d8_21) rfl (by decide) ?_
    show own_S p e below T1 (mkF m 24 #[vi (2 : Int32), vi p1, vi p2, vi p3, vi p4] [xj (0 : Int64)]) _
    refine XS.iconst X1.here hx rfl (hb hby d8_24) ?_
    show own_S p e below T1 (mkF m 25 #[vi (2 : Int32), vi p1, vi p2, vi p3, vi p4] [xi (1 : Int32), xj (0 : Int64)]) _
    refine XS.goto X1.here hx rfl (pc0 := 25) (pc' := 29) rfl (hb hby d8_25) (by decide) (by decide) ?_
    show own_S p e below T1 (mkF m 29 #[vi (2 : Int32), vi p1, vi p2, vi p3, vi p4] [xi (1 : Int32), xj (0 : Int64)]) _
    refine XS.iloadN X1.here hx rfl (hb hby d8_29) rfl ?_
    show own_S p e below T1 (mkF m 30 #[vi (2 : Int32), vi p1, vi p2, vi p3, vi p4] [xi p2, xi (1 : Int32), xj (0 : Int64)]) _
    refine XS.iloadN X1.here hx rfl (hb hby d8_30) rfl ?_
    show own_S p e below T1 (mkF m 31 #[vi (2 : Int32), vi p1, vi p2, vi p3, vi p4] [xi (2 : Int32), xi p2, xi (1 : Int32), xj (0 : Int64)]) _
    refine st2 _ ?_
    show own_S p e below T2 (mkF m 34 #[vi (2 : Int32), vi p1, vi p2, vi p3, vi p4] [xj (own_h p2 (2 : Int32)), xj (0 : Int64)]) _
    refine XS.ladd X2.here hx rfl (hb hby d8_34) rfl ?_
    show own_S p e below T2 (mkF m 35 #[vi (2 : Int32), vi p1, vi p2, vi p3, vi p4] [xj ((0 : Int64) + (own_h p2 (2 : Int32)))]) _
    show own_S p e below T2 (mkF m 35 #[vi (2 : Int32), vi p1, vi p2, vi p3, vi p4] [xj ((0 : Int64) + (own_h p2 (2 : Int32)))]) _
    refine XS.iload X2.here hx rfl (hb hby d8_35) rfl ?_
    show own_S p e below T2 (mkF m 37 #[vi (2 : Int32), vi p1, vi p2, vi p3, vi p4] [xi p4, xj ((0 : Int64) + (own_h p2 (2 : Int32)))]) _
    refine XS.iconst X2.here hx rfl (hb hby d8_37) ?_
    show own_S p e below T2 (mkF m 38 #[vi (2 : Int32), vi p1, vi p2, vi p3, vi p4] [xi (4 : Int32), xi p4, xj ((0 : Int64) + (own_h p2 (2 : Int32)))]) _
    refine XS.iand X2.here hx rfl (hb hby d8_38) rfl ?_
    show own_S p e below T2 (mkF m 39 #[vi (2 : Int32), vi p1, vi p2, vi p3, vi p4] [xi (p4 &&& (4 : Int32)), xj ((0 : Int64) + (own_h p2 (2 : Int32)))]) _
    refine castTop (show (mkF m 39 #[vi (2 : Int32), vi p1, vi p2, vi p3, vi p4] [xi (p4 &&& (4 : Int32)), xj ((0 : Int64) + (own_h p2 (2 : Int32)))]) = (mkF m 39 #[vi (2 : Int32), vi p1, vi p2, vi p3, vi p4] [xi (4 : Int32), xj ((0 : Int64) + (own_h p2 (2 : Int32)))]) from by rw [as11]) ?_
    show own_S p e below T2 (mkF m 39 #[vi (2 : Int32), vi p1, vi p2, vi p3, vi p4] [xi (4 : Int32), xj ((0 : Int64) + (own_h p2 (2 : Int32)))]) _
    refine XS.ifNo X2.here hx rfl (hb hby d8_39) rfl (by decide) ?_
    show own_S p e below T2 (mkF m 42 #[vi (2 : Int32), vi p1, vi p2, vi p3, vi p4] [xj ((0 : Int64) + (own_h p2 (2 : Int32)))]) _
    refine XS.iconst X2.here hx rfl (hb hby d8_42) ?_
    show own_S p e below T2 (mkF m 43 #[vi (2 : Int32), vi p1, vi p2, vi p3, vi p4] [xi (1 : Int32), xj ((0 : Int64) + (own_h p2 (2 : Int32)))]) _
    refine XS.goto X2.here hx rfl (pc0 := 43) (pc' := 47) rfl (hb hby d8_43) (by decide) (by decide) ?_
    show own_S p e below T2 (mkF m 47 #[vi (2 : Int32), vi p1, vi p2, vi p3, vi p4] [xi (1 : Int32), xj ((0 : Int64) + (own_h p2 (2 : Int32)))]) _
    refine XS.iloadN X2.here hx rfl (hb hby d8_47) rfl ?_
    show own_S p e below T2 (mkF m 48 #[vi (2 : Int32), vi p1, vi p2, vi p3, vi p4] [xi p3, xi (1 : Int32), xj ((0 : Int64) + (own_h p2 (2 : Int32)))]) _
    refine XS.iloadN X2.here hx rfl (hb hby d8_48) rfl ?_
    show own_S p e below T2 (mkF m 49 #[vi (2 : Int32), vi p1, vi p2, vi p3, vi p4] [xi (2 : Int32), xi p3, xi (1 : Int32), xj ((0 : Int64) + (own_h p2 (2 : Int32)))]) _
    refine st3 _ ?_
    show own_S p e below T3 (mkF m 52 #[vi (2 : Int32), vi p1, vi p2, vi p3, vi p4] [xj (own_h p3 (2 : Int32)), xj ((0 : Int64) + (own_h p2 (2 : Int32)))]) _
    refine XS.ladd X3.here hx rfl (hb hby d8_52) rfl ?_
    show own_S p e below T3 (mkF m 53 #[vi (2 : Int32), vi p1, vi p2, vi p3, vi p4] [xj (((0 : Int64) + (own_h p2 (2 : Int32))) + (own_h p3 (2 : Int32)))]) _
    show own_S p e below T3 (mkF m 53 #[vi (2 : Int32), vi p1, vi p2, vi p3, vi p4] [xj (((0 : Int64) + (own_h p2 (2 : Int32))) + (own_h p3 (2 : Int32)))]) _
    exact X3.lreturnOut hx Bd.returns (hb hby d8_53) hr
  · exact ⟨rfl, N3, e3⟩
theorem ef_own_c19_expected (m : MethodId) (u0 u1 u2 u3 u4 : Addr) (p1 : Int32) (p2 : Int32) (p3 : Int32) (p4 : Int32) : entryFrame m #[xi (3 : Int32), xi p1, xi p2, xi p3, xi p4] 5 = (mkF m 0 #[vi (3 : Int32), vi p1, vi p2, vi p3, vi p4] []) := by first | (simp [entryFrame, mkF, argsToLocals, Value.category]; done) | rfl
set_option maxRecDepth 65536 in
set_option maxHeartbeats 40000000 in
theorem own_c19_expected (l : Launch) (Z : State) (a0 : Array Value) (hw : ∀ d ∈ tables_1, d.before a0 Z = true) (u0 u1 u2 u3 u4 : Addr) (G : own_St Z u0 u1 u2 u3 u4) (p1 : Int32) (p2 : Int32) (p3 : Int32) (p4 : Int32) (as6 : (p4 &&& (1 : Int32)) = (0 : Int32)) (as9 : (p4 &&& (2 : Int32)) = (2 : Int32)) (as11 : (p4 &&& (4 : Int32)) = (4 : Int32)) (h0 : Heap) (n0 : Nat) (O0 : Old Z n0 h0) : own_Met l Z Y9 method_4_code 5 (some .long) ({ frames := 1, cells := 0, slots := 0, locals := 16 } : Room) #[xi (3 : Int32), xi p1, xi p2, xi p3, xi p4] h0 (own_QR (some (xj (((0 : Int64) + (own_h p2 (3 : Int32))) + (own_h p3 (3 : Int32))))) h0 n0) := by
  intro ws
  refine MetFree.of_bodySF (plainFor_of_name pn3) hisR ?_
  intro p e s m args below meth c s₁ Bd hml0 hP hK
  obtain ⟨rfl, hZ, hh⟩ := hP
  have hx := Bd.exec
  have hby := Bd.bytes
  have hml : c.maxLocals = 5 := hml0
  have hown : s.vm.findClass "com/example/feedwright/feedwright/LoadSummaryAddPinLaw" = some m.cls := findClass_of_methodNamed Bd.named
  have hnm := (name_of_methodNamed Bd.named Bd.method).1
  have X0 : Stand p l e ({ frames := 1, cells := 0, slots := 0, locals := 16 } : Room) s m #[xi (3 : Int32), xi p1, xi p2, xi p3, xi p4] below meth c s₁ [] 0 0 := Stand.of_body Bd
  have e0 : s₁.heap = h0 := by rw [← hh, Bd.state]; rfl
  have N0 := Fr.nil n0
  have pre0 : ∀ t, Steps p.tables e below (s₁.setTop (mkF m 0 #[vi (3 : Int32), vi p1, vi p2, vi p3, vi p4] [])) t → Steps p.tables e below (s₁.setTop (entryFrame m #[xi (3 : Int32), xi p1, xi p2, xi p3, xi p4] 5)) t := fun t st => castTop (ef_own_c19_expected m u0 u1 u2 u3 u4 p1 p2 p3 p4) st
  obtain ⟨_, _, ⟨T1, L1, k1, n1⟩, -, X1, ⟨Lc1, hQ1, l1, y1, z1⟩, st1⟩ := Jvm.LawKit.callS X0 hx (y := Y6) hown (mvT hZ (ww hw 61 rfl)) (mvT hZ (ww hw 62 rfl)) (mvT hZ (ww hw 2 rfl)) (mvT hZ (ww hw 63 rfl)) (by decide) (backOf (W := 0) (own_hit_off l Z a0 hw u0 u1 u2 u3 u4 G p1 (3 : Int32) h0 n0 O0 []) hZ (ww hw 63 rfl) (ww hw 2 rfl) (by decide) (by decide)) (g := (mkF m 14 #[vi (3 : Int32), vi p1, vi p2, vi p3, vi p4] [xi (3 : Int32), xi p1, xi (0 : Int32)])) rfl (by rw [hml]; rfl) (argsL := [xi (0 : Int32), xi p1, xi (3 : Int32)]) (rest := []) (lenOf pd5 rfl) rfl (by show 2 * 0 + _ ≤ _; exact Nat.le_of_eq rfl) (hb hby d8_14) (fun _ _ => ⟨rfl, e0, (by decide : 0 + 0 ≤ _), (by decide : 0 + 0 ≤ _)⟩)
  dsimp only [Pt.U, Pt.locs, Pt.cells, Pt.slots] at X1 l1 y1 z1 st1 hQ1
  subst l1 y1 z1
  obtain ⟨rfl, Nq1, e1⟩ := hQ1
  have N1 := Fr.app N0 Nq1
  obtain ⟨_, _, ⟨T2, L2, k2, n2⟩, -, X2, ⟨Lc2, hQ2, l2, y2, z2⟩, st2⟩ := Jvm.LawKit.callS X1 hx (y := Y6) hown (mvT hZ (ww hw 61 rfl)) (mvT hZ (ww hw 62 rfl)) (mvT hZ (ww hw 2 rfl)) (mvT hZ (ww hw 63 rfl)) (by decide) (backOf (W := 2) (own_hit l Z a0 hw u0 u1 u2 u3 u4 G p2 (3 : Int32) h0 n0 O0 []) hZ (ww hw 63 rfl) (ww hw 2 rfl) (by decide) (by decide)) (g := (mkF m 31 #[vi (3 : Int32), vi p1, vi p2, vi p3, vi p4] [xi (3 : Int32), xi p2, xi (1 : Int32), xj (0 : Int64)])) rfl (by rw [hml]; rfl) (argsL := [xi (1 : Int32), xi p2, xi (3 : Int32)]) (rest := [xj (0 : Int64)]) (lenOf pd5 rfl) rfl (by show 2 * 0 + _ ≤ _; exact Nat.le_of_eq rfl) (hb hby d8_31) (fun _ _ => ⟨rfl, e1, (by decide : 0 + 0 ≤ _), (by decide : 0 + 0 ≤ _)⟩)
  dsimp only [Pt.U, Pt.locs, Pt.cells, Pt.slots] at X2 l2 y2 z2 st2 hQ2
  subst l2 y2 z2
  obtain ⟨rfl, Nq2, e2⟩ := hQ2
  have N2 := Fr.app N1 Nq2
  obtain ⟨_, _, ⟨T3, L3, k3, n3⟩, -, X3, ⟨Lc3, hQ3, l3, y3, z3⟩, st3⟩ := Jvm.LawKit.callS X2 hx (y := Y6) hown (mvT hZ (ww hw 61 rfl)) (mvT hZ (ww hw 62 rfl)) (mvT hZ (ww hw 2 rfl)) (mvT hZ (ww hw 63 rfl)) (by decide) (backOf (W := 2) (own_hit l Z a0 hw u0 u1 u2 u3 u4 G p3 (3 : Int32) h0 n0 O0 []) hZ (ww hw 63 rfl) (ww hw 2 rfl) (by decide) (by decide)) (g := (mkF m 49 #[vi (3 : Int32), vi p1, vi p2, vi p3, vi p4] [xi (3 : Int32), xi p3, xi (1 : Int32), xj ((0 : Int64) + (own_h p2 (3 : Int32)))])) rfl (by rw [hml]; rfl) (argsL := [xi (1 : Int32), xi p3, xi (3 : Int32)]) (rest := [xj ((0 : Int64) + (own_h p2 (3 : Int32)))]) (lenOf pd5 rfl) rfl (by show 2 * 0 + _ ≤ _; exact Nat.le_of_eq rfl) (hb hby d8_49) (fun _ _ => ⟨rfl, e2, (by decide : 0 + 0 ≤ _), (by decide : 0 + 0 ≤ _)⟩)
  dsimp only [Pt.U, Pt.locs, Pt.cells, Pt.slots] at X3 l3 y3 z3 st3 hQ3
  subst l3 y3 z3
  obtain ⟨rfl, Nq3, e3⟩ := hQ3
  have N3 := Fr.app N2 Nq3
  obtain ⟨fs, hr, hrun, hended, hW, hsame⟩ := X3.leave (v := some (xj (((0 : Int64) + (own_h p2 (3 : Int32))) + (own_h p3 (3 : Int32))))) (fun h => by rw [Bd.returns] at h; cases h)
  refine ⟨_, _, pre0 _ ?_, hrun, hended, _, _, rfl, ?_, ⟨_, rfl⟩, hW, hsame.mono (by decide) (by decide)⟩
  · show own_S p e below s₁ (mkF m 0 #[vi (3 : Int32), vi p1, vi p2, vi p3, vi p4] []) _
    refine XS.iload X0.here hx rfl (hb hby d8_0) rfl ?_
    show own_S p e below s₁ (mkF m 2 #[vi (3 : Int32), vi p1, vi p2, vi p3, vi p4] [xi p4]) _
    refine XS.iconst X0.here hx rfl (hb hby d8_2) ?_
    show own_S p e below s₁ (mkF m 3 #[vi (3 : Int32), vi p1, vi p2, vi p3, vi p4] [xi (1 : Int32), xi p4]) _
    refine XS.iand X0.here hx rfl (hb hby d8_3) rfl ?_
    show own_S p e below s₁ (mkF m 4 #[vi (3 : Int32), vi p1, vi p2, vi p3, vi p4] [xi (p4 &&& (1 : Int32))]) _
    refine castTop (show (mkF m 4 #[vi (3 : Int32), vi p1, vi p2, vi p3, vi p4] [xi (p4 &&& (1 : Int32))]) = (mkF m 4 #[vi (3 : Int32), vi p1, vi p2, vi p3, vi p4] [xi (0 : Int32)]) from by rw [as6]) ?_
    show own_S p e below s₁ (mkF m 4 #[vi (3 : Int32), vi p1, vi p2, vi p3, vi p4] [xi (0 : Int32)]) _
    refine XS.ifYes X0.here hx rfl (pc0 := 4) (pc' := 11) rfl (hb hby d8_4) rfl (by decide) (by decide) (by decide) ?_
    show own_S p e below s₁ (mkF m 11 #[vi (3 : Int32), vi p1, vi p2, vi p3, vi p4] []) _
    refine XS.iconst X0.here hx rfl (hb hby d8_11) ?_
    show own_S p e below s₁ (mkF m 12 #[vi (3 : Int32), vi p1, vi p2, vi p3, vi p4] [xi (0 : Int32)]) _
    refine XS.iloadN X0.here hx rfl (hb hby d8_12) rfl ?_
    show own_S p e below s₁ (mkF m 13 #[vi (3 : Int32), vi p1, vi p2, vi p3, vi p4] [xi p1, xi (0 : Int32)]) _
    refine XS.iloadN X0.here hx rfl (hb hby d8_13) rfl ?_
    show own_S p e below s₁ (mkF m 14 #[vi (3 : Int32), vi p1, vi p2, vi p3, vi p4] [xi (3 : Int32), xi p1, xi (0 : Int32)]) _
    refine st1 _ ?_
    show own_S p e below T1 (mkF m 17 #[vi (3 : Int32), vi p1, vi p2, vi p3, vi p4] [xj (0 : Int64)]) _
    refine XS.iload X1.here hx rfl (hb hby d8_17) rfl ?_
    show own_S p e below T1 (mkF m 19 #[vi (3 : Int32), vi p1, vi p2, vi p3, vi p4] [xi p4, xj (0 : Int64)]) _
    refine XS.iconst X1.here hx rfl (hb hby d8_19) ?_
    show own_S p e below T1 (mkF m 20 #[vi (3 : Int32), vi p1, vi p2, vi p3, vi p4] [xi (2 : Int32), xi p4, xj (0 : Int64)]) _
    refine XS.iand X1.here hx rfl (hb hby d8_20) rfl ?_
    show own_S p e below T1 (mkF m 21 #[vi (3 : Int32), vi p1, vi p2, vi p3, vi p4] [xi (p4 &&& (2 : Int32)), xj (0 : Int64)]) _
    refine castTop (show (mkF m 21 #[vi (3 : Int32), vi p1, vi p2, vi p3, vi p4] [xi (p4 &&& (2 : Int32)), xj (0 : Int64)]) = (mkF m 21 #[vi (3 : Int32), vi p1, vi p2, vi p3, vi p4] [xi (2 : Int32), xj (0 : Int64)]) from by rw [as9]) ?_
    show own_S p e below T1 (mkF m 21 #[vi (3 : Int32), vi p1, vi p2, vi p3, vi p4] [xi (2 : Int32), xj (0 : Int64)]) _
    refine XS.ifNo X1.here hx rfl (hb hby d8_21) rfl (by decide) ?_
    show own_S p e below T1 (mkF m 24 #[vi (3 : Int32), vi p1, vi p2, vi p3, vi p4] [xj (0 : Int64)]) _
    refine XS.iconst X1.here hx rfl (hb hby d8_24) ?_
    show own_S p e below T1 (mkF m 25 #[vi (3 : Int32), vi p1, vi p2, vi p3, vi p4] [xi (1 : Int32), xj (0 : Int64)]) _
    refine XS.goto X1.here hx rfl (pc0 := 25) (pc' := 29) rfl (hb hby d8_25) (by decide) (by decide) ?_
    show own_S p e below T1 (mkF m 29 #[vi (3 : Int32), vi p1, vi p2, vi p3, vi p4] [xi (1 : Int32), xj (0 : Int64)]) _
    refine XS.iloadN X1.here hx rfl (hb hby d8_29) rfl ?_
    show own_S p e below T1 (mkF m 30 #[vi (3 : Int32), vi p1, vi p2, vi p3, vi p4] [xi p2, xi (1 : Int32), xj (0 : Int64)]) _
    refine XS.iloadN X1.here hx rfl (hb hby d8_30) rfl ?_
    show own_S p e below T1 (mkF m 31 #[vi (3 : Int32), vi p1, vi p2, vi p3, vi p4] [xi (3 : Int32), xi p2, xi (1 : Int32), xj (0 : Int64)]) _
    refine st2 _ ?_
    show own_S p e below T2 (mkF m 34 #[vi (3 : Int32), vi p1, vi p2, vi p3, vi p4] [xj (own_h p2 (3 : Int32)), xj (0 : Int64)]) _
    refine XS.ladd X2.here hx rfl (hb hby d8_34) rfl ?_
    show own_S p e below T2 (mkF m 35 #[vi (3 : Int32), vi p1, vi p2, vi p3, vi p4] [xj ((0 : Int64) + (own_h p2 (3 : Int32)))]) _
    show own_S p e below T2 (mkF m 35 #[vi (3 : Int32), vi p1, vi p2, vi p3, vi p4] [xj ((0 : Int64) + (own_h p2 (3 : Int32)))]) _
    refine XS.iload X2.here hx rfl (hb hby d8_35) rfl ?_
    show own_S p e below T2 (mkF m 37 #[vi (3 : Int32), vi p1, vi p2, vi p3, vi p4] [xi p4, xj ((0 : Int64) + (own_h p2 (3 : Int32)))]) _
    refine XS.iconst X2.here hx rfl (hb hby d8_37) ?_
    show own_S p e below T2 (mkF m 38 #[vi (3 : Int32), vi p1, vi p2, vi p3, vi p4] [xi (4 : Int32), xi p4, xj ((0 : Int64) + (own_h p2 (3 : Int32)))]) _
    refine XS.iand X2.here hx rfl (hb hby d8_38) rfl ?_
    show own_S p e below T2 (mkF m 39 #[vi (3 : Int32), vi p1, vi p2, vi p3, vi p4] [xi (p4 &&& (4 : Int32)), xj ((0 : Int64) + (own_h p2 (3 : Int32)))]) _
    refine castTop (show (mkF m 39 #[vi (3 : Int32), vi p1, vi p2, vi p3, vi p4] [xi (p4 &&& (4 : Int32)), xj ((0 : Int64) + (own_h p2 (3 : Int32)))]) = (mkF m 39 #[vi (3 : Int32), vi p1, vi p2, vi p3, vi p4] [xi (4 : Int32), xj ((0 : Int64) + (own_h p2 (3 : Int32)))]) from by rw [as11]) ?_
    show own_S p e below T2 (mkF m 39 #[vi (3 : Int32), vi p1, vi p2, vi p3, vi p4] [xi (4 : Int32), xj ((0 : Int64) + (own_h p2 (3 : Int32)))]) _
    refine XS.ifNo X2.here hx rfl (hb hby d8_39) rfl (by decide) ?_
    show own_S p e below T2 (mkF m 42 #[vi (3 : Int32), vi p1, vi p2, vi p3, vi p4] [xj ((0 : Int64) + (own_h p2 (3 : Int32)))]) _
    refine XS.iconst X2.here hx rfl (hb hby d8_42) ?_
    show own_S p e below T2 (mkF m 43 #[vi (3 : Int32), vi p1, vi p2, vi p3, vi p4] [xi (1 : Int32), xj ((0 : Int64) + (own_h p2 (3 : Int32)))]) _
    refine XS.goto X2.here hx rfl (pc0 := 43) (pc' := 47) rfl (hb hby d8_43) (by decide) (by decide) ?_
    show own_S p e below T2 (mkF m 47 #[vi (3 : Int32), vi p1, vi p2, vi p3, vi p4] [xi (1 : Int32), xj ((0 : Int64) + (own_h p2 (3 : Int32)))]) _
    refine XS.iloadN X2.here hx rfl (hb hby d8_47) rfl ?_
    show own_S p e below T2 (mkF m 48 #[vi (3 : Int32), vi p1, vi p2, vi p3, vi p4] [xi p3, xi (1 : Int32), xj ((0 : Int64) + (own_h p2 (3 : Int32)))]) _
    refine XS.iloadN X2.here hx rfl (hb hby d8_48) rfl ?_
    show own_S p e below T2 (mkF m 49 #[vi (3 : Int32), vi p1, vi p2, vi p3, vi p4] [xi (3 : Int32), xi p3, xi (1 : Int32), xj ((0 : Int64) + (own_h p2 (3 : Int32)))]) _
    refine st3 _ ?_
    show own_S p e below T3 (mkF m 52 #[vi (3 : Int32), vi p1, vi p2, vi p3, vi p4] [xj (own_h p3 (3 : Int32)), xj ((0 : Int64) + (own_h p2 (3 : Int32)))]) _
    refine XS.ladd X3.here hx rfl (hb hby d8_52) rfl ?_
    show own_S p e below T3 (mkF m 53 #[vi (3 : Int32), vi p1, vi p2, vi p3, vi p4] [xj (((0 : Int64) + (own_h p2 (3 : Int32))) + (own_h p3 (3 : Int32)))]) _
    show own_S p e below T3 (mkF m 53 #[vi (3 : Int32), vi p1, vi p2, vi p3, vi p4] [xj (((0 : Int64) + (own_h p2 (3 : Int32))) + (own_h p3 (3 : Int32)))]) _
    exact X3.lreturnOut hx Bd.returns (hb hby d8_53) hr
  · exact ⟨rfl, N3, e3⟩
theorem ef_own_l3 (m : MethodId) (u0 u1 u2 u3 u4 : Addr) (p1 : Int32) (p2 : Int32) (p3 : Int32) (p4 : Int32) (va1 : Addr) (va2 : Addr) (va3 : Addr) : entryFrame m #[xi p1, xi p2, xi p3, xi p4] maxLocals = (mkF m 0 #[vi p1, vi p2, vi p3, vi p4, vu, vu, vu, vu, vu, vu, vu, vu, vu] []) := by first | (simp [entryFrame, mkF, argsToLocals, Value.category, maxLocals]; done) | rfl
set_option maxRecDepth 65536 in
set_option maxHeartbeats 40000000 in
theorem own_l3 (l : Launch) (Z : State) (a0 : Array Value) (hw : ∀ d ∈ tables_1, d.before a0 Z = true) (u0 u1 u2 u3 u4 : Addr) (G : own_St Z u0 u1 u2 u3 u4) (p1 : Int32) (p2 : Int32) (p3 : Int32) (p4 : Int32) (va1 : Addr) (va2 : Addr) (va3 : Addr) (as6 : (p4 &&& (1 : Int32)) = (0 : Int32)) (as9 : (p4 &&& (2 : Int32)) = (2 : Int32)) (as11 : (p4 &&& (4 : Int32)) = (4 : Int32)) (hv1 : own_is u0 u1 u2 u3 u4 p1 va1) (hv2 : own_is u0 u1 u2 u3 u4 p2 va2) (hv3 : own_is u0 u1 u2 u3 u4 p3 va3) (h0 : Heap) (n0 : Nat) (O0 : Old Z n0 h0) : own_Met l Z x code maxLocals ret room_1 #[xi p1, xi p2, xi p3, xi p4] h0 (own_QL (some (xi (1 : Int32))) n0) := by
  intro ws
  refine MetFree.of_bodySF (plainFor_of_name pn3) hisR ?_
  intro p e s m args below meth c s₁ Bd hml0 hP hK
  obtain ⟨rfl, hZ, hh⟩ := hP
  have hx := Bd.exec
  have hby := Bd.bytes
  have hml : c.maxLocals = 13 := hml0
  have hown : s.vm.findClass "com/example/feedwright/feedwright/LoadSummaryAddPinLaw" = some m.cls := findClass_of_methodNamed Bd.named
  have hnm := (name_of_methodNamed Bd.named Bd.method).1
  have X0 : Stand p l e room_1 s m #[xi p1, xi p2, xi p3, xi p4] below meth c s₁ [] 0 0 := Stand.of_body Bd
  have e0 : s₁.heap = h0 := by rw [← hh, Bd.state]; rfl
  have N0 := Fr.nil n0
  have pre0 : ∀ t, Steps p.tables e below (s₁.setTop (mkF m 0 #[vi p1, vi p2, vi p3, vi p4, vu, vu, vu, vu, vu, vu, vu, vu, vu] [])) t → Steps p.tables e below (s₁.setTop (entryFrame m #[xi p1, xi p2, xi p3, xi p4] maxLocals)) t := fun t st => castTop (ef_own_l3 m u0 u1 u2 u3 u4 p1 p2 p3 p4 va1 va2 va3) st
  obtain ⟨_, _, ⟨T1, L1, k1, n1⟩, -, X1, ⟨Lc1, hQ1, l1, y1, z1⟩, st1⟩ := Jvm.LawKit.callS X0 hx (y := Y5) hown (mvT hZ (ww hw 0 rfl)) (mvT hZ (ww hw 1 rfl)) (mvT hZ (ww hw 2 rfl)) (mvT hZ (ww hw 3 rfl)) (by decide) (backOf (W := 0) (own_pick l Z a0 hw u0 u1 u2 u3 u4 G p1 va1 hv1 h0 n0 O0 []) hZ (ww hw 3 rfl) (ww hw 2 rfl) (by decide) (by decide)) (g := (mkF m 40 #[vi p1, vi p2, vi p3, vi p4, vi (0 : Int32), vi (1 : Int32), vi (1 : Int32), vu, vu, vu, vu, vu, vu] [xi p1])) rfl (by rw [hml]; rfl) (argsL := [xi p1]) (rest := []) (lenOf pd2 rfl) rfl (by show 2 * 0 + _ ≤ _; exact Nat.le_of_eq rfl) (hb hby at_40) (fun _ _ => ⟨rfl, e0, (by decide : 0 + 0 ≤ _), (by decide : 0 + 0 ≤ _)⟩)
  dsimp only [Pt.U, Pt.locs, Pt.cells, Pt.slots] at X1 l1 y1 z1 st1 hQ1
  subst l1 y1 z1
  obtain ⟨rfl, Nq1, e1⟩ := hQ1
  have N1 := Fr.app N0 Nq1
  obtain ⟨_, _, ⟨T2, L2, k2, n2⟩, -, X2, ⟨Lc2, hQ2, l2, y2, z2⟩, st2⟩ := Jvm.LawKit.callS X1 hx (y := Y5) hown (mvT hZ (ww hw 0 rfl)) (mvT hZ (ww hw 1 rfl)) (mvT hZ (ww hw 2 rfl)) (mvT hZ (ww hw 3 rfl)) (by decide) (backOf (W := 0) (own_pick l Z a0 hw u0 u1 u2 u3 u4 G p2 va2 hv2 h0 n0 O0 []) hZ (ww hw 3 rfl) (ww hw 2 rfl) (by decide) (by decide)) (g := (mkF m 46 #[vi p1, vi p2, vi p3, vi p4, vi (0 : Int32), vi (1 : Int32), vi (1 : Int32), vr va1, vu, vu, vu, vu, vu] [xi p2])) rfl (by rw [hml]; rfl) (argsL := [xi p2]) (rest := []) (lenOf pd2 rfl) rfl (by show 2 * 0 + _ ≤ _; exact Nat.le_of_eq rfl) (hb hby at_46) (fun _ _ => ⟨rfl, e1, (by decide : 0 + 0 ≤ _), (by decide : 0 + 0 ≤ _)⟩)
  dsimp only [Pt.U, Pt.locs, Pt.cells, Pt.slots] at X2 l2 y2 z2 st2 hQ2
  subst l2 y2 z2
  obtain ⟨rfl, Nq2, e2⟩ := hQ2
  have N2 := Fr.app N1 Nq2
  obtain ⟨_, _, ⟨T3, L3, k3, n3⟩, -, X3, ⟨Lc3, hQ3, l3, y3, z3⟩, st3⟩ := Jvm.LawKit.callS X2 hx (y := Y5) hown (mvT hZ (ww hw 0 rfl)) (mvT hZ (ww hw 1 rfl)) (mvT hZ (ww hw 2 rfl)) (mvT hZ (ww hw 3 rfl)) (by decide) (backOf (W := 0) (own_pick l Z a0 hw u0 u1 u2 u3 u4 G p3 va3 hv3 h0 n0 O0 []) hZ (ww hw 3 rfl) (ww hw 2 rfl) (by decide) (by decide)) (g := (mkF m 52 #[vi p1, vi p2, vi p3, vi p4, vi (0 : Int32), vi (1 : Int32), vi (1 : Int32), vr va1, vr va2, vu, vu, vu, vu] [xi p3])) rfl (by rw [hml]; rfl) (argsL := [xi p3]) (rest := []) (lenOf pd2 rfl) rfl (by show 2 * 0 + _ ≤ _; exact Nat.le_of_eq rfl) (hb hby at_52) (fun _ _ => ⟨rfl, e2, (by decide : 0 + 0 ≤ _), (by decide : 0 + 0 ≤ _)⟩)
  dsimp only [Pt.U, Pt.locs, Pt.cells, Pt.slots] at X3 l3 y3 z3 st3 hQ3
  subst l3 y3 z3
  obtain ⟨rfl, Nq3, e3⟩ := hQ3
  have N3 := Fr.app N2 Nq3
  obtain ⟨T4, h4, X4, e4, E4, A4, D4, -, st4⟩ := newO X3 hx hZ hown (ww hw 11 rfl) (ww hw 12 rfl) (ww hw 13 rfl) e3 (g := (mkF m 57 #[vi p1, vi p2, vi p3, vi p4, vi (0 : Int32), vi (1 : Int32), vi (1 : Int32), vr va1, vr va2, vr va3, vu, vu, vu] [])) rfl (hb hby at_57) (by decide) (by decide)
  obtain ⟨b4, g4⟩ : ∃ z, z = h0.size := ⟨_, rfl⟩
  rw [← g4] at A4 D4 st4
  have g_b4 : n0 ≤ b4 := own_fresh O0 g4
  have O4 : Old Z n0 h4 := O0.ext E4
  have F_b4_counts : Fld Z h4 b4 "com/example/feedwright/feedwright/LoadSummary" "counts" "[J" .null := D4 (Or.inr (ww hw 38 rfl)) (ty := (.array .long)) (by decide)
  obtain ⟨_, _, ⟨T5, L5, k5, n5⟩, -, X5, ⟨Lc5, hQ5, l5, y5, z5⟩, st5⟩ := X4.specialBack hx (y := Y1) rfl hown (mvT hZ (ww hw 14 rfl)) (mvT hZ (ww hw 15 rfl)) (mvT hZ (ww hw 16 rfl)) (by decide) (backOf (W := 1) (own_init l Z a0 hw u0 u1 u2 u3 u4 G b4 h4 n0 O4 A4 F_b4_counts g_b4 []) hZ (ww hw 16 rfl) (ww hw 13 rfl) (by decide) (by decide)) (g := (mkF m 61 #[vi p1, vi p2, vi p3, vi p4, vi (0 : Int32), vi (1 : Int32), vi (1 : Int32), vr va1, vr va2, vr va3, vu, vu, vu] [xr b4, xr b4])) rfl (by rw [hml]; rfl) (Steps.refl _) (a := b4) (argsL := []) (rest := [xr b4]) (lenOf pd3 rfl) rfl (by show 2 * 0 + _ ≤ _; exact Nat.le_of_eq rfl) (hb hby at_61) (fun _ _ => ⟨rfl, e4, (by decide : 1 + 2 ≤ _), (by decide : 1 + 8 ≤ _)⟩)
  dsimp only [Pt.U, Pt.locs, Pt.cells, Pt.slots] at X5 l5 y5 z5 st5 hQ5
  subst l5 y5 z5
  obtain ⟨h5, e5⟩ : ∃ z, T5.heap = z := ⟨_, rfl⟩
  rw [e5] at hQ5
  obtain ⟨rfl, Nq5, K5, bb5, kk5, -, Fc5, Vb5, nb5, -, g_bb5⟩ := hQ5
  have N5 := Fr.app N3 Nq5
  have O5 : Old Z n0 h5 := O4.keep K5 (allS g_b4 all0)
  have X_b4_5 := A4.keep K5
  obtain ⟨cq6, kq6, qa6, qb6, qc6⟩ := isOf hZ e5 X_b4_5
  obtain ⟨_, _, ⟨T6, L6, k6, n6⟩, -, X6, ⟨Lc6, hQ6, l6, y6, z6⟩, st6⟩ := X5.virtualBack hx (y := Y4) (z := Y4) hown (mvT hZ (ww hw 39 rfl)) (mvT hZ (ww hw 40 rfl)) (notFace_of_selects (args := #[]) (mvT hZ (ww hw 42 rfl))) (mvT hZ (ww hw 42 rfl)) (mvT hZ (ww hw 41 rfl)) (by decide) (backOf (W := 0) (own_add l Z a0 hw u0 u1 u2 u3 u4 G b4 bb5 kk5 (0 : Int64) (0 : Int64) (0 : Int64) (0 : Int64) p2 va2 hv2 h5 n0 O5 ⟨X_b4_5, Fc5, Vb5, nb5, g_b4, g_bb5⟩ []) hZ (ww hw 43 rfl) (ww hw 13 rfl) (by decide) (by decide)) qa6 qc6 (g := (mkF m 87 #[vi p1, vi p2, vi p3, vi p4, vi (0 : Int32), vi (1 : Int32), vi (1 : Int32), vr va1, vr va2, vr va3, vr b4, vu, vu] [xr va2, xr b4])) rfl (by rw [hml]; rfl) (Steps.refl _) (argsL := [xr va2]) (rest := []) (lenOf pd8 rfl) rfl (by show 2 * 0 + _ ≤ _; exact Nat.le_of_eq rfl) (hb hby at_87) (fun _ _ => ⟨rfl, e5, (by decide : 3 + 0 ≤ _), (by decide : 9 + 0 ≤ _)⟩)
  dsimp only [Pt.U, Pt.locs, Pt.cells, Pt.slots] at X6 l6 y6 z6 st6 hQ6
  subst l6 y6 z6
  obtain ⟨h6, e6⟩ : ∃ z, T6.heap = z := ⟨_, rfl⟩
  rw [e6] at hQ6
  obtain ⟨rfl, Nq6, K6, -, -, Vn6, -⟩ := hQ6
  have N6 := Fr.app N5 Nq6
  have O6 : Old Z n0 h6 := O5.keep K6 (allS g_bb5 all0)
  have X_b4_6 := X_b4_5.keep K6
  have F_b4_counts_6 := Fc5.keep K6 (ninS nb5 nin0)
  obtain ⟨cq7, kq7, qa7, qb7, qc7⟩ := isOf hZ e6 X_b4_6
  obtain ⟨_, _, ⟨T7, L7, k7, n7⟩, -, X7, ⟨Lc7, hQ7, l7, y7, z7⟩, st7⟩ := X6.virtualBack hx (y := Y4) (z := Y4) hown (mvT hZ (ww hw 39 rfl)) (mvT hZ (ww hw 40 rfl)) (notFace_of_selects (args := #[]) (mvT hZ (ww hw 42 rfl))) (mvT hZ (ww hw 42 rfl)) (mvT hZ (ww hw 41 rfl)) (by decide) (backOf (W := 0) (own_add l Z a0 hw u0 u1 u2 u3 u4 G b4 bb5 kk5 ((0 : Int64) + own_h p2 0) ((0 : Int64) + own_h p2 1) ((0 : Int64) + own_h p2 2) ((0 : Int64) + own_h p2 3) p3 va3 hv3 h6 n0 O6 ⟨X_b4_6, F_b4_counts_6, Vn6, nb5, g_b4, g_bb5⟩ []) hZ (ww hw 43 rfl) (ww hw 13 rfl) (by decide) (by decide)) qa7 qc7 (g := (mkF m 99 #[vi p1, vi p2, vi p3, vi p4, vi (0 : Int32), vi (1 : Int32), vi (1 : Int32), vr va1, vr va2, vr va3, vr b4, vu, vu] [xr va3, xr b4])) rfl (by rw [hml]; rfl) (Steps.refl _) (argsL := [xr va3]) (rest := []) (lenOf pd8 rfl) rfl (by show 2 * 0 + _ ≤ _; exact Nat.le_of_eq rfl) (hb hby at_99) (fun _ _ => ⟨rfl, e6, (by decide : 3 + 0 ≤ _), (by decide : 9 + 0 ≤ _)⟩)
  dsimp only [Pt.U, Pt.locs, Pt.cells, Pt.slots] at X7 l7 y7 z7 st7 hQ7
  subst l7 y7 z7
  obtain ⟨h7, e7⟩ : ∃ z, T7.heap = z := ⟨_, rfl⟩
  rw [e7] at hQ7
  obtain ⟨rfl, Nq7, K7, -, -, Vn7, -⟩ := hQ7
  have N7 := Fr.app N6 Nq7
  have O7 : Old Z n0 h7 := O6.keep K7 (allS g_bb5 all0)
  have X_b4_7 := X_b4_6.keep K7
  have F_b4_counts_7 := F_b4_counts_6.keep K7 (ninS nb5 nin0)
  obtain ⟨T8, X8, e8, st8⟩ := getS2 X7 hx hZ hown (host := "") (Or.inl (ww hw 4 rfl)) Via.refl e7 ((own_S_u0 G).ext O7.2) (g := (mkF m 138 #[vi p1, vi p2, vi p3, vi p4, vi (0 : Int32), vi (1 : Int32), vi (1 : Int32), vr va1, vr va2, vr va3, vr b4, vj (2 : Int64), .second] [xr b4])) rfl (hb hby at_138)
  obtain ⟨cq9, kq9, qa9, qb9, qc9⟩ := isOf hZ e8 X_b4_7
  obtain ⟨_, _, ⟨T9, L9, k9, n9⟩, -, X9, ⟨Lc9, hQ9, l9, y9, z9⟩, st9⟩ := X8.virtualBack hx (y := Y7) (z := Y7) hown (mvT hZ (ww hw 53 rfl)) (mvT hZ (ww hw 54 rfl)) (notFace_of_selects (args := #[]) (mvT hZ (ww hw 56 rfl))) (mvT hZ (ww hw 56 rfl)) (mvT hZ (ww hw 55 rfl)) (by decide) (backOf (W := 0) (own_count0 l Z a0 hw u0 u1 u2 u3 u4 G b4 bb5 kk5 (((0 : Int64) + own_h p2 0) + own_h p3 0) (((0 : Int64) + own_h p2 1) + own_h p3 1) (((0 : Int64) + own_h p2 2) + own_h p3 2) (((0 : Int64) + own_h p2 3) + own_h p3 3) h7 n0 O7 ⟨X_b4_7, F_b4_counts_7, Vn7, nb5, g_b4, g_bb5⟩ []) hZ (ww hw 57 rfl) (ww hw 13 rfl) (by decide) (by decide)) qa9 qc9 (g := (mkF m 141 #[vi p1, vi p2, vi p3, vi p4, vi (0 : Int32), vi (1 : Int32), vi (1 : Int32), vr va1, vr va2, vr va3, vr b4, vj (2 : Int64), .second] [xr u0, xr b4])) rfl (by rw [hml]; rfl) (Steps.refl _) (argsL := [xr u0]) (rest := []) (lenOf pd4 rfl) rfl (by show 2 * 0 + _ ≤ _; exact Nat.le_of_eq rfl) (hb hby at_141) (fun _ _ => ⟨rfl, e8, (by decide : 3 + 0 ≤ _), (by decide : 9 + 0 ≤ _)⟩)
  dsimp only [Pt.U, Pt.locs, Pt.cells, Pt.slots] at X9 l9 y9 z9 st9 hQ9
  subst l9 y9 z9
  obtain ⟨rfl, Nq9, e9⟩ := hQ9
  have N9 := Fr.app N7 Nq9
  obtain ⟨_, _, ⟨T10, L10, k10, n10⟩, -, X10, ⟨Lc10, hQ10, l10, y10, z10⟩, st10⟩ := Jvm.LawKit.callS X9 hx (y := Y9) hown (mvT hZ (ww hw 58 rfl)) (mvT hZ (ww hw 59 rfl)) (mvT hZ (ww hw 2 rfl)) (mvT hZ (ww hw 60 rfl)) (by decide) (backOf (W := 2) (own_c16_expected l Z a0 hw u0 u1 u2 u3 u4 G p1 p2 p3 p4 as6 as9 as11 h7 n0 O7 []) hZ (ww hw 60 rfl) (ww hw 2 rfl) (by decide) (by decide)) (g := (mkF m 149 #[vi p1, vi p2, vi p3, vi p4, vi (0 : Int32), vi (1 : Int32), vi (1 : Int32), vr va1, vr va2, vr va3, vr b4, vj (2 : Int64), .second] [xi p4, xi p3, xi p2, xi p1, xi (0 : Int32), xj (((0 : Int64) + own_h p2 0) + own_h p3 0)])) rfl (by rw [hml]; rfl) (argsL := [xi (0 : Int32), xi p1, xi p2, xi p3, xi p4]) (rest := [xj (((0 : Int64) + own_h p2 0) + own_h p3 0)]) (lenOf pd6 rfl) rfl (by show 2 * 0 + _ ≤ _; exact Nat.le_of_eq rfl) (hb hby at_149) (fun _ _ => ⟨rfl, e9, (by decide : 3 + 0 ≤ _), (by decide : 9 + 0 ≤ _)⟩)
  dsimp only [Pt.U, Pt.locs, Pt.cells, Pt.slots] at X10 l10 y10 z10 st10 hQ10
  subst l10 y10 z10
  obtain ⟨rfl, Nq10, e10⟩ := hQ10
  have N10 := Fr.app N9 Nq10
  obtain ⟨T11, X11, e11, st11⟩ := getS2 X10 hx hZ hown (host := "") (Or.inl (ww hw 64 rfl)) Via.refl e10 ((own_S_u4 G).ext O7.2) (g := (mkF m 158 #[vi p1, vi p2, vi p3, vi p4, vi (0 : Int32), vi (1 : Int32), vi (1 : Int32), vr va1, vr va2, vr va3, vr b4, vj (2 : Int64), .second] [xr b4])) rfl (hb hby at_158)
  obtain ⟨cq12, kq12, qa12, qb12, qc12⟩ := isOf hZ e11 X_b4_7
  obtain ⟨_, _, ⟨T12, L12, k12, n12⟩, -, X12, ⟨Lc12, hQ12, l12, y12, z12⟩, st12⟩ := X11.virtualBack hx (y := Y7) (z := Y7) hown (mvT hZ (ww hw 53 rfl)) (mvT hZ (ww hw 54 rfl)) (notFace_of_selects (args := #[]) (mvT hZ (ww hw 56 rfl))) (mvT hZ (ww hw 56 rfl)) (mvT hZ (ww hw 55 rfl)) (by decide) (backOf (W := 0) (own_count1 l Z a0 hw u0 u1 u2 u3 u4 G b4 bb5 kk5 (((0 : Int64) + own_h p2 0) + own_h p3 0) (((0 : Int64) + own_h p2 1) + own_h p3 1) (((0 : Int64) + own_h p2 2) + own_h p3 2) (((0 : Int64) + own_h p2 3) + own_h p3 3) h7 n0 O7 ⟨X_b4_7, F_b4_counts_7, Vn7, nb5, g_b4, g_bb5⟩ []) hZ (ww hw 57 rfl) (ww hw 13 rfl) (by decide) (by decide)) qa12 qc12 (g := (mkF m 161 #[vi p1, vi p2, vi p3, vi p4, vi (0 : Int32), vi (1 : Int32), vi (1 : Int32), vr va1, vr va2, vr va3, vr b4, vj (2 : Int64), .second] [xr u4, xr b4])) rfl (by rw [hml]; rfl) (Steps.refl _) (argsL := [xr u4]) (rest := []) (lenOf pd4 rfl) rfl (by show 2 * 0 + _ ≤ _; exact Nat.le_of_eq rfl) (hb hby at_161) (fun _ _ => ⟨rfl, e11, (by decide : 3 + 0 ≤ _), (by decide : 9 + 0 ≤ _)⟩)
  dsimp only [Pt.U, Pt.locs, Pt.cells, Pt.slots] at X12 l12 y12 z12 st12 hQ12
  subst l12 y12 z12
  obtain ⟨rfl, Nq12, e12⟩ := hQ12
  have N12 := Fr.app N10 Nq12
  obtain ⟨_, _, ⟨T13, L13, k13, n13⟩, -, X13, ⟨Lc13, hQ13, l13, y13, z13⟩, st13⟩ := Jvm.LawKit.callS X12 hx (y := Y9) hown (mvT hZ (ww hw 58 rfl)) (mvT hZ (ww hw 59 rfl)) (mvT hZ (ww hw 2 rfl)) (mvT hZ (ww hw 60 rfl)) (by decide) (backOf (W := 2) (own_c17_expected l Z a0 hw u0 u1 u2 u3 u4 G p1 p2 p3 p4 as6 as9 as11 h7 n0 O7 []) hZ (ww hw 60 rfl) (ww hw 2 rfl) (by decide) (by decide)) (g := (mkF m 169 #[vi p1, vi p2, vi p3, vi p4, vi (0 : Int32), vi (1 : Int32), vi (1 : Int32), vr va1, vr va2, vr va3, vr b4, vj (2 : Int64), .second] [xi p4, xi p3, xi p2, xi p1, xi (1 : Int32), xj (((0 : Int64) + own_h p2 1) + own_h p3 1)])) rfl (by rw [hml]; rfl) (argsL := [xi (1 : Int32), xi p1, xi p2, xi p3, xi p4]) (rest := [xj (((0 : Int64) + own_h p2 1) + own_h p3 1)]) (lenOf pd6 rfl) rfl (by show 2 * 0 + _ ≤ _; exact Nat.le_of_eq rfl) (hb hby at_169) (fun _ _ => ⟨rfl, e12, (by decide : 3 + 0 ≤ _), (by decide : 9 + 0 ≤ _)⟩)
  dsimp only [Pt.U, Pt.locs, Pt.cells, Pt.slots] at X13 l13 y13 z13 st13 hQ13
  subst l13 y13 z13
  obtain ⟨rfl, Nq13, e13⟩ := hQ13
  have N13 := Fr.app N12 Nq13
  obtain ⟨T14, X14, e14, st14⟩ := getS2 X13 hx hZ hown (host := "") (Or.inl (ww hw 9 rfl)) Via.refl e13 ((own_S_u2 G).ext O7.2) (g := (mkF m 178 #[vi p1, vi p2, vi p3, vi p4, vi (0 : Int32), vi (1 : Int32), vi (1 : Int32), vr va1, vr va2, vr va3, vr b4, vj (2 : Int64), .second] [xr b4])) rfl (hb hby at_178)
  obtain ⟨cq15, kq15, qa15, qb15, qc15⟩ := isOf hZ e14 X_b4_7
  obtain ⟨_, _, ⟨T15, L15, k15, n15⟩, -, X15, ⟨Lc15, hQ15, l15, y15, z15⟩, st15⟩ := X14.virtualBack hx (y := Y7) (z := Y7) hown (mvT hZ (ww hw 53 rfl)) (mvT hZ (ww hw 54 rfl)) (notFace_of_selects (args := #[]) (mvT hZ (ww hw 56 rfl))) (mvT hZ (ww hw 56 rfl)) (mvT hZ (ww hw 55 rfl)) (by decide) (backOf (W := 0) (own_count2 l Z a0 hw u0 u1 u2 u3 u4 G b4 bb5 kk5 (((0 : Int64) + own_h p2 0) + own_h p3 0) (((0 : Int64) + own_h p2 1) + own_h p3 1) (((0 : Int64) + own_h p2 2) + own_h p3 2) (((0 : Int64) + own_h p2 3) + own_h p3 3) h7 n0 O7 ⟨X_b4_7, F_b4_counts_7, Vn7, nb5, g_b4, g_bb5⟩ []) hZ (ww hw 57 rfl) (ww hw 13 rfl) (by decide) (by decide)) qa15 qc15 (g := (mkF m 181 #[vi p1, vi p2, vi p3, vi p4, vi (0 : Int32), vi (1 : Int32), vi (1 : Int32), vr va1, vr va2, vr va3, vr b4, vj (2 : Int64), .second] [xr u2, xr b4])) rfl (by rw [hml]; rfl) (Steps.refl _) (argsL := [xr u2]) (rest := []) (lenOf pd4 rfl) rfl (by show 2 * 0 + _ ≤ _; exact Nat.le_of_eq rfl) (hb hby at_181) (fun _ _ => ⟨rfl, e14, (by decide : 3 + 0 ≤ _), (by decide : 9 + 0 ≤ _)⟩)
  dsimp only [Pt.U, Pt.locs, Pt.cells, Pt.slots] at X15 l15 y15 z15 st15 hQ15
  subst l15 y15 z15
  obtain ⟨rfl, Nq15, e15⟩ := hQ15
  have N15 := Fr.app N13 Nq15
  obtain ⟨_, _, ⟨T16, L16, k16, n16⟩, -, X16, ⟨Lc16, hQ16, l16, y16, z16⟩, st16⟩ := Jvm.LawKit.callS X15 hx (y := Y9) hown (mvT hZ (ww hw 58 rfl)) (mvT hZ (ww hw 59 rfl)) (mvT hZ (ww hw 2 rfl)) (mvT hZ (ww hw 60 rfl)) (by decide) (backOf (W := 2) (own_c18_expected l Z a0 hw u0 u1 u2 u3 u4 G p1 p2 p3 p4 as6 as9 as11 h7 n0 O7 []) hZ (ww hw 60 rfl) (ww hw 2 rfl) (by decide) (by decide)) (g := (mkF m 189 #[vi p1, vi p2, vi p3, vi p4, vi (0 : Int32), vi (1 : Int32), vi (1 : Int32), vr va1, vr va2, vr va3, vr b4, vj (2 : Int64), .second] [xi p4, xi p3, xi p2, xi p1, xi (2 : Int32), xj (((0 : Int64) + own_h p2 2) + own_h p3 2)])) rfl (by rw [hml]; rfl) (argsL := [xi (2 : Int32), xi p1, xi p2, xi p3, xi p4]) (rest := [xj (((0 : Int64) + own_h p2 2) + own_h p3 2)]) (lenOf pd6 rfl) rfl (by show 2 * 0 + _ ≤ _; exact Nat.le_of_eq rfl) (hb hby at_189) (fun _ _ => ⟨rfl, e15, (by decide : 3 + 0 ≤ _), (by decide : 9 + 0 ≤ _)⟩)
  dsimp only [Pt.U, Pt.locs, Pt.cells, Pt.slots] at X16 l16 y16 z16 st16 hQ16
  subst l16 y16 z16
  obtain ⟨rfl, Nq16, e16⟩ := hQ16
  have N16 := Fr.app N15 Nq16
  obtain ⟨T17, X17, e17, st17⟩ := getS2 X16 hx hZ hown (host := "") (Or.inl (ww hw 7 rfl)) Via.refl e16 ((own_S_u1 G).ext O7.2) (g := (mkF m 198 #[vi p1, vi p2, vi p3, vi p4, vi (0 : Int32), vi (1 : Int32), vi (1 : Int32), vr va1, vr va2, vr va3, vr b4, vj (2 : Int64), .second] [xr b4])) rfl (hb hby at_198)
  obtain ⟨cq18, kq18, qa18, qb18, qc18⟩ := isOf hZ e17 X_b4_7
  obtain ⟨_, _, ⟨T18, L18, k18, n18⟩, -, X18, ⟨Lc18, hQ18, l18, y18, z18⟩, st18⟩ := X17.virtualBack hx (y := Y7) (z := Y7) hown (mvT hZ (ww hw 53 rfl)) (mvT hZ (ww hw 54 rfl)) (notFace_of_selects (args := #[]) (mvT hZ (ww hw 56 rfl))) (mvT hZ (ww hw 56 rfl)) (mvT hZ (ww hw 55 rfl)) (by decide) (backOf (W := 0) (own_count3 l Z a0 hw u0 u1 u2 u3 u4 G b4 bb5 kk5 (((0 : Int64) + own_h p2 0) + own_h p3 0) (((0 : Int64) + own_h p2 1) + own_h p3 1) (((0 : Int64) + own_h p2 2) + own_h p3 2) (((0 : Int64) + own_h p2 3) + own_h p3 3) h7 n0 O7 ⟨X_b4_7, F_b4_counts_7, Vn7, nb5, g_b4, g_bb5⟩ []) hZ (ww hw 57 rfl) (ww hw 13 rfl) (by decide) (by decide)) qa18 qc18 (g := (mkF m 201 #[vi p1, vi p2, vi p3, vi p4, vi (0 : Int32), vi (1 : Int32), vi (1 : Int32), vr va1, vr va2, vr va3, vr b4, vj (2 : Int64), .second] [xr u1, xr b4])) rfl (by rw [hml]; rfl) (Steps.refl _) (argsL := [xr u1]) (rest := []) (lenOf pd4 rfl) rfl (by show 2 * 0 + _ ≤ _; exact Nat.le_of_eq rfl) (hb hby at_201) (fun _ _ => ⟨rfl, e17, (by decide : 3 + 0 ≤ _), (by decide : 9 + 0 ≤ _)⟩)
  dsimp only [Pt.U, Pt.locs, Pt.cells, Pt.slots] at X18 l18 y18 z18 st18 hQ18
  subst l18 y18 z18
  obtain ⟨rfl, Nq18, e18⟩ := hQ18
  have N18 := Fr.app N16 Nq18
  obtain ⟨_, _, ⟨T19, L19, k19, n19⟩, -, X19, ⟨Lc19, hQ19, l19, y19, z19⟩, st19⟩ := Jvm.LawKit.callS X18 hx (y := Y9) hown (mvT hZ (ww hw 58 rfl)) (mvT hZ (ww hw 59 rfl)) (mvT hZ (ww hw 2 rfl)) (mvT hZ (ww hw 60 rfl)) (by decide) (backOf (W := 2) (own_c19_expected l Z a0 hw u0 u1 u2 u3 u4 G p1 p2 p3 p4 as6 as9 as11 h7 n0 O7 []) hZ (ww hw 60 rfl) (ww hw 2 rfl) (by decide) (by decide)) (g := (mkF m 209 #[vi p1, vi p2, vi p3, vi p4, vi (0 : Int32), vi (1 : Int32), vi (1 : Int32), vr va1, vr va2, vr va3, vr b4, vj (2 : Int64), .second] [xi p4, xi p3, xi p2, xi p1, xi (3 : Int32), xj (((0 : Int64) + own_h p2 3) + own_h p3 3)])) rfl (by rw [hml]; rfl) (argsL := [xi (3 : Int32), xi p1, xi p2, xi p3, xi p4]) (rest := [xj (((0 : Int64) + own_h p2 3) + own_h p3 3)]) (lenOf pd6 rfl) rfl (by show 2 * 0 + _ ≤ _; exact Nat.le_of_eq rfl) (hb hby at_209) (fun _ _ => ⟨rfl, e18, (by decide : 3 + 0 ≤ _), (by decide : 9 + 0 ≤ _)⟩)
  dsimp only [Pt.U, Pt.locs, Pt.cells, Pt.slots] at X19 l19 y19 z19 st19 hQ19
  subst l19 y19 z19
  obtain ⟨rfl, Nq19, e19⟩ := hQ19
  have N19 := Fr.app N18 Nq19
  obtain ⟨cq20, kq20, qa20, qb20, qc20⟩ := isOf hZ e19 X_b4_7
  obtain ⟨_, _, ⟨T20, L20, k20, n20⟩, -, X20, ⟨Lc20, hQ20, l20, y20, z20⟩, st20⟩ := X19.virtualBack hx (y := Y8) (z := Y8) hown (mvT hZ (ww hw 65 rfl)) (mvT hZ (ww hw 66 rfl)) (notFace_of_selects (args := #[]) (mvT hZ (ww hw 68 rfl))) (mvT hZ (ww hw 68 rfl)) (mvT hZ (ww hw 67 rfl)) (by decide) (backOf (W := 0) (own_records l Z a0 hw u0 u1 u2 u3 u4 G b4 bb5 kk5 (((0 : Int64) + own_h p2 0) + own_h p3 0) (((0 : Int64) + own_h p2 1) + own_h p3 1) (((0 : Int64) + own_h p2 2) + own_h p3 2) (((0 : Int64) + own_h p2 3) + own_h p3 3) h7 n0 O7 ⟨X_b4_7, F_b4_counts_7, Vn7, nb5, g_b4, g_bb5⟩ []) hZ (ww hw 69 rfl) (ww hw 13 rfl) (by decide) (by decide)) qa20 qc20 (g := (mkF m 218 #[vi p1, vi p2, vi p3, vi p4, vi (0 : Int32), vi (1 : Int32), vi (1 : Int32), vr va1, vr va2, vr va3, vr b4, vj (2 : Int64), .second] [xr b4])) rfl (by rw [hml]; rfl) (Steps.refl _) (argsL := []) (rest := []) (lenOf pd7 rfl) rfl (by show 2 * 0 + _ ≤ _; exact Nat.le_of_eq rfl) (hb hby at_218) (fun _ _ => ⟨rfl, e19, (by decide : 3 + 0 ≤ _), (by decide : 9 + 0 ≤ _)⟩)
  dsimp only [Pt.U, Pt.locs, Pt.cells, Pt.slots] at X20 l20 y20 z20 st20 hQ20
  subst l20 y20 z20
  obtain ⟨rfl, Nq20, e20⟩ := hQ20
  have N20 := Fr.app N19 Nq20
  obtain ⟨fs, hr, hrun, hended, hW, hsame⟩ := X20.leave (v := some (xi (1 : Int32))) (fun h => by rw [Bd.returns] at h; cases h)
  refine ⟨_, _, pre0 _ ?_, hrun, hended, _, _, rfl, ?_, ⟨_, rfl⟩, hW, hsame.mono (by decide) (by decide)⟩
  · show own_S p e below s₁ (mkF m 0 #[vi p1, vi p2, vi p3, vi p4, vu, vu, vu, vu, vu, vu, vu, vu, vu] []) _
    refine XS.iloadN X0.here hx rfl (hb hby at_0) rfl ?_
    show own_S p e below s₁ (mkF m 1 #[vi p1, vi p2, vi p3, vi p4, vu, vu, vu, vu, vu, vu, vu, vu, vu] [xi p4]) _
    refine XS.iconst X0.here hx rfl (hb hby at_1) ?_
    show own_S p e below s₁ (mkF m 2 #[vi p1, vi p2, vi p3, vi p4, vu, vu, vu, vu, vu, vu, vu, vu, vu] [xi (1 : Int32), xi p4]) _
    refine XS.iand X0.here hx rfl (hb hby at_2) rfl ?_
    show own_S p e below s₁ (mkF m 3 #[vi p1, vi p2, vi p3, vi p4, vu, vu, vu, vu, vu, vu, vu, vu, vu] [xi (p4 &&& (1 : Int32))]) _
    refine castTop (show (mkF m 3 #[vi p1, vi p2, vi p3, vi p4, vu, vu, vu, vu, vu, vu, vu, vu, vu] [xi (p4 &&& (1 : Int32))]) = (mkF m 3 #[vi p1, vi p2, vi p3, vi p4, vu, vu, vu, vu, vu, vu, vu, vu, vu] [xi (0 : Int32)]) from by rw [as6]) ?_
    show own_S p e below s₁ (mkF m 3 #[vi p1, vi p2, vi p3, vi p4, vu, vu, vu, vu, vu, vu, vu, vu, vu] [xi (0 : Int32)]) _
    refine XS.ifYes X0.here hx rfl (pc0 := 3) (pc' := 10) rfl (hb hby at_3) rfl (by decide) (by decide) (by decide) ?_
    show own_S p e below s₁ (mkF m 10 #[vi p1, vi p2, vi p3, vi p4, vu, vu, vu, vu, vu, vu, vu, vu, vu] []) _
    refine XS.iconst X0.here hx rfl (hb hby at_10) ?_
    show own_S p e below s₁ (mkF m 11 #[vi p1, vi p2, vi p3, vi p4, vu, vu, vu, vu, vu, vu, vu, vu, vu] [xi (0 : Int32)]) _
    refine XS.istore X0.here hx rfl (hb hby at_11) rfl (l' := #[vi p1, vi p2, vi p3, vi p4, vi (0 : Int32), vu, vu, vu, vu, vu, vu, vu, vu]) rfl ?_
    show own_S p e below s₁ (mkF m 13 #[vi p1, vi p2, vi p3, vi p4, vi (0 : Int32), vu, vu, vu, vu, vu, vu, vu, vu] []) _
    refine XS.iloadN X0.here hx rfl (hb hby at_13) rfl ?_
    show own_S p e below s₁ (mkF m 14 #[vi p1, vi p2, vi p3, vi p4, vi (0 : Int32), vu, vu, vu, vu, vu, vu, vu, vu] [xi p4]) _
    refine XS.iconst X0.here hx rfl (hb hby at_14) ?_
    show own_S p e below s₁ (mkF m 15 #[vi p1, vi p2, vi p3, vi p4, vi (0 : Int32), vu, vu, vu, vu, vu, vu, vu, vu] [xi (2 : Int32), xi p4]) _
    refine XS.iand X0.here hx rfl (hb hby at_15) rfl ?_
    show own_S p e below s₁ (mkF m 16 #[vi p1, vi p2, vi p3, vi p4, vi (0 : Int32), vu, vu, vu, vu, vu, vu, vu, vu] [xi (p4 &&& (2 : Int32))]) _
    refine castTop (show (mkF m 16 #[vi p1, vi p2, vi p3, vi p4, vi (0 : Int32), vu, vu, vu, vu, vu, vu, vu, vu] [xi (p4 &&& (2 : Int32))]) = (mkF m 16 #[vi p1, vi p2, vi p3, vi p4, vi (0 : Int32), vu, vu, vu, vu, vu, vu, vu, vu] [xi (2 : Int32)]) from by rw [as9]) ?_
    show own_S p e below s₁ (mkF m 16 #[vi p1, vi p2, vi p3, vi p4, vi (0 : Int32), vu, vu, vu, vu, vu, vu, vu, vu] [xi (2 : Int32)]) _
    refine XS.ifNo X0.here hx rfl (hb hby at_16) rfl (by decide) ?_
    show own_S p e below s₁ (mkF m 19 #[vi p1, vi p2, vi p3, vi p4, vi (0 : Int32), vu, vu, vu, vu, vu, vu, vu, vu] []) _
    refine XS.iconst X0.here hx rfl (hb hby at_19) ?_
    show own_S p e below s₁ (mkF m 20 #[vi p1, vi p2, vi p3, vi p4, vi (0 : Int32), vu, vu, vu, vu, vu, vu, vu, vu] [xi (1 : Int32)]) _
    refine XS.goto X0.here hx rfl (pc0 := 20) (pc' := 24) rfl (hb hby at_20) (by decide) (by decide) ?_
    show own_S p e below s₁ (mkF m 24 #[vi p1, vi p2, vi p3, vi p4, vi (0 : Int32), vu, vu, vu, vu, vu, vu, vu, vu] [xi (1 : Int32)]) _
    refine XS.istore X0.here hx rfl (hb hby at_24) rfl (l' := #[vi p1, vi p2, vi p3, vi p4, vi (0 : Int32), vi (1 : Int32), vu, vu, vu, vu, vu, vu, vu]) rfl ?_
    show own_S p e below s₁ (mkF m 26 #[vi p1, vi p2, vi p3, vi p4, vi (0 : Int32), vi (1 : Int32), vu, vu, vu, vu, vu, vu, vu] []) _
    refine XS.iloadN X0.here hx rfl (hb hby at_26) rfl ?_
    show own_S p e below s₁ (mkF m 27 #[vi p1, vi p2, vi p3, vi p4, vi (0 : Int32), vi (1 : Int32), vu, vu, vu, vu, vu, vu, vu] [xi p4]) _
    refine XS.iconst X0.here hx rfl (hb hby at_27) ?_
    show own_S p e below s₁ (mkF m 28 #[vi p1, vi p2, vi p3, vi p4, vi (0 : Int32), vi (1 : Int32), vu, vu, vu, vu, vu, vu, vu] [xi (4 : Int32), xi p4]) _
    refine XS.iand X0.here hx rfl (hb hby at_28) rfl ?_
    show own_S p e below s₁ (mkF m 29 #[vi p1, vi p2, vi p3, vi p4, vi (0 : Int32), vi (1 : Int32), vu, vu, vu, vu, vu, vu, vu] [xi (p4 &&& (4 : Int32))]) _
    refine castTop (show (mkF m 29 #[vi p1, vi p2, vi p3, vi p4, vi (0 : Int32), vi (1 : Int32), vu, vu, vu, vu, vu, vu, vu] [xi (p4 &&& (4 : Int32))]) = (mkF m 29 #[vi p1, vi p2, vi p3, vi p4, vi (0 : Int32), vi (1 : Int32), vu, vu, vu, vu, vu, vu, vu] [xi (4 : Int32)]) from by rw [as11]) ?_
    show own_S p e below s₁ (mkF m 29 #[vi p1, vi p2, vi p3, vi p4, vi (0 : Int32), vi (1 : Int32), vu, vu, vu, vu, vu, vu, vu] [xi (4 : Int32)]) _
    refine XS.ifNo X0.here hx rfl (hb hby at_29) rfl (by decide) ?_
    show own_S p e below s₁ (mkF m 32 #[vi p1, vi p2, vi p3, vi p4, vi (0 : Int32), vi (1 : Int32), vu, vu, vu, vu, vu, vu, vu] []) _
    refine XS.iconst X0.here hx rfl (hb hby at_32) ?_
    show own_S p e below s₁ (mkF m 33 #[vi p1, vi p2, vi p3, vi p4, vi (0 : Int32), vi (1 : Int32), vu, vu, vu, vu, vu, vu, vu] [xi (1 : Int32)]) _
    refine XS.goto X0.here hx rfl (pc0 := 33) (pc' := 37) rfl (hb hby at_33) (by decide) (by decide) ?_
    show own_S p e below s₁ (mkF m 37 #[vi p1, vi p2, vi p3, vi p4, vi (0 : Int32), vi (1 : Int32), vu, vu, vu, vu, vu, vu, vu] [xi (1 : Int32)]) _
    refine XS.istore X0.here hx rfl (hb hby at_37) rfl (l' := #[vi p1, vi p2, vi p3, vi p4, vi (0 : Int32), vi (1 : Int32), vi (1 : Int32), vu, vu, vu, vu, vu, vu]) rfl ?_
    show own_S p e below s₁ (mkF m 39 #[vi p1, vi p2, vi p3, vi p4, vi (0 : Int32), vi (1 : Int32), vi (1 : Int32), vu, vu, vu, vu, vu, vu] []) _
    refine XS.iloadN X0.here hx rfl (hb hby at_39) rfl ?_
    show own_S p e below s₁ (mkF m 40 #[vi p1, vi p2, vi p3, vi p4, vi (0 : Int32), vi (1 : Int32), vi (1 : Int32), vu, vu, vu, vu, vu, vu] [xi p1]) _
    refine st1 _ ?_
    show own_S p e below T1 (mkF m 43 #[vi p1, vi p2, vi p3, vi p4, vi (0 : Int32), vi (1 : Int32), vi (1 : Int32), vu, vu, vu, vu, vu, vu] [xr va1]) _
    refine XS.astore X1.here hx rfl (hb hby at_43) rfl rfl (l' := #[vi p1, vi p2, vi p3, vi p4, vi (0 : Int32), vi (1 : Int32), vi (1 : Int32), vr va1, vu, vu, vu, vu, vu]) rfl ?_
    show own_S p e below T1 (mkF m 45 #[vi p1, vi p2, vi p3, vi p4, vi (0 : Int32), vi (1 : Int32), vi (1 : Int32), vr va1, vu, vu, vu, vu, vu] []) _
    refine XS.iloadN X1.here hx rfl (hb hby at_45) rfl ?_
    show own_S p e below T1 (mkF m 46 #[vi p1, vi p2, vi p3, vi p4, vi (0 : Int32), vi (1 : Int32), vi (1 : Int32), vr va1, vu, vu, vu, vu, vu] [xi p2]) _
    refine st2 _ ?_
    show own_S p e below T2 (mkF m 49 #[vi p1, vi p2, vi p3, vi p4, vi (0 : Int32), vi (1 : Int32), vi (1 : Int32), vr va1, vu, vu, vu, vu, vu] [xr va2]) _
    refine XS.astore X2.here hx rfl (hb hby at_49) rfl rfl (l' := #[vi p1, vi p2, vi p3, vi p4, vi (0 : Int32), vi (1 : Int32), vi (1 : Int32), vr va1, vr va2, vu, vu, vu, vu]) rfl ?_
    show own_S p e below T2 (mkF m 51 #[vi p1, vi p2, vi p3, vi p4, vi (0 : Int32), vi (1 : Int32), vi (1 : Int32), vr va1, vr va2, vu, vu, vu, vu] []) _
    refine XS.iloadN X2.here hx rfl (hb hby at_51) rfl ?_
    show own_S p e below T2 (mkF m 52 #[vi p1, vi p2, vi p3, vi p4, vi (0 : Int32), vi (1 : Int32), vi (1 : Int32), vr va1, vr va2, vu, vu, vu, vu] [xi p3]) _
    refine st3 _ ?_
    show own_S p e below T3 (mkF m 55 #[vi p1, vi p2, vi p3, vi p4, vi (0 : Int32), vi (1 : Int32), vi (1 : Int32), vr va1, vr va2, vu, vu, vu, vu] [xr va3]) _
    refine XS.astore X3.here hx rfl (hb hby at_55) rfl rfl (l' := #[vi p1, vi p2, vi p3, vi p4, vi (0 : Int32), vi (1 : Int32), vi (1 : Int32), vr va1, vr va2, vr va3, vu, vu, vu]) rfl ?_
    show own_S p e below T3 (mkF m 57 #[vi p1, vi p2, vi p3, vi p4, vi (0 : Int32), vi (1 : Int32), vi (1 : Int32), vr va1, vr va2, vr va3, vu, vu, vu] []) _
    refine st4 _ ?_
    show own_S p e below T4 (mkF m 60 #[vi p1, vi p2, vi p3, vi p4, vi (0 : Int32), vi (1 : Int32), vi (1 : Int32), vr va1, vr va2, vr va3, vu, vu, vu] [xr b4]) _
    refine XS.dup X4.here hx rfl (hb hby at_60) rfl rfl ?_
    show own_S p e below T4 (mkF m 61 #[vi p1, vi p2, vi p3, vi p4, vi (0 : Int32), vi (1 : Int32), vi (1 : Int32), vr va1, vr va2, vr va3, vu, vu, vu] [xr b4, xr b4]) _
    refine st5.trans ?_
    show own_S p e below T5 (mkF m 64 #[vi p1, vi p2, vi p3, vi p4, vi (0 : Int32), vi (1 : Int32), vi (1 : Int32), vr va1, vr va2, vr va3, vu, vu, vu] [xr b4]) _
    refine XS.astore X5.here hx rfl (hb hby at_64) rfl rfl (l' := #[vi p1, vi p2, vi p3, vi p4, vi (0 : Int32), vi (1 : Int32), vi (1 : Int32), vr va1, vr va2, vr va3, vr b4, vu, vu]) rfl ?_
    show own_S p e below T5 (mkF m 66 #[vi p1, vi p2, vi p3, vi p4, vi (0 : Int32), vi (1 : Int32), vi (1 : Int32), vr va1, vr va2, vr va3, vr b4, vu, vu] []) _
    refine XS.iload X5.here hx rfl (hb hby at_66) rfl ?_
    show own_S p e below T5 (mkF m 68 #[vi p1, vi p2, vi p3, vi p4, vi (0 : Int32), vi (1 : Int32), vi (1 : Int32), vr va1, vr va2, vr va3, vr b4, vu, vu] [xi (0 : Int32)]) _
    refine XS.ifYes X5.here hx rfl (pc0 := 68) (pc' := 78) rfl (hb hby at_68) rfl (by decide) (by decide) (by decide) ?_
    show own_S p e below T5 (mkF m 78 #[vi p1, vi p2, vi p3, vi p4, vi (0 : Int32), vi (1 : Int32), vi (1 : Int32), vr va1, vr va2, vr va3, vr b4, vu, vu] []) _
    refine XS.iload X5.here hx rfl (hb hby at_78) rfl ?_
    show own_S p e below T5 (mkF m 80 #[vi p1, vi p2, vi p3, vi p4, vi (0 : Int32), vi (1 : Int32), vi (1 : Int32), vr va1, vr va2, vr va3, vr b4, vu, vu] [xi (1 : Int32)]) _
    refine XS.ifNo X5.here hx rfl (hb hby at_80) rfl (by decide) ?_
    show own_S p e below T5 (mkF m 83 #[vi p1, vi p2, vi p3, vi p4, vi (0 : Int32), vi (1 : Int32), vi (1 : Int32), vr va1, vr va2, vr va3, vr b4, vu, vu] []) _
    refine XS.aload X5.here hx rfl (hb hby at_83) rfl rfl ?_
    show own_S p e below T5 (mkF m 85 #[vi p1, vi p2, vi p3, vi p4, vi (0 : Int32), vi (1 : Int32), vi (1 : Int32), vr va1, vr va2, vr va3, vr b4, vu, vu] [xr b4]) _
    refine XS.aload X5.here hx rfl (hb hby at_85) rfl rfl ?_
    show own_S p e below T5 (mkF m 87 #[vi p1, vi p2, vi p3, vi p4, vi (0 : Int32), vi (1 : Int32), vi (1 : Int32), vr va1, vr va2, vr va3, vr b4, vu, vu] [xr va2, xr b4]) _
    refine st6.trans ?_
    show own_S p e below T6 (mkF m 90 #[vi p1, vi p2, vi p3, vi p4, vi (0 : Int32), vi (1 : Int32), vi (1 : Int32), vr va1, vr va2, vr va3, vr b4, vu, vu] []) _
    refine XS.iload X6.here hx rfl (hb hby at_90) rfl ?_
    show own_S p e below T6 (mkF m 92 #[vi p1, vi p2, vi p3, vi p4, vi (0 : Int32), vi (1 : Int32), vi (1 : Int32), vr va1, vr va2, vr va3, vr b4, vu, vu] [xi (1 : Int32)]) _
    refine XS.ifNo X6.here hx rfl (hb hby at_92) rfl (by decide) ?_
    show own_S p e below T6 (mkF m 95 #[vi p1, vi p2, vi p3, vi p4, vi (0 : Int32), vi (1 : Int32), vi (1 : Int32), vr va1, vr va2, vr va3, vr b4, vu, vu] []) _
    refine XS.aload X6.here hx rfl (hb hby at_95) rfl rfl ?_
    show own_S p e below T6 (mkF m 97 #[vi p1, vi p2, vi p3, vi p4, vi (0 : Int32), vi (1 : Int32), vi (1 : Int32), vr va1, vr va2, vr va3, vr b4, vu, vu] [xr b4]) _
    refine XS.aload X6.here hx rfl (hb hby at_97) rfl rfl ?_
    show own_S p e below T6 (mkF m 99 #[vi p1, vi p2, vi p3, vi p4, vi (0 : Int32), vi (1 : Int32), vi (1 : Int32), vr va1, vr va2, vr va3, vr b4, vu, vu] [xr va3, xr b4]) _
    refine st7.trans ?_
    show own_S p e below T7 (mkF m 102 #[vi p1, vi p2, vi p3, vi p4, vi (0 : Int32), vi (1 : Int32), vi (1 : Int32), vr va1, vr va2, vr va3, vr b4, vu, vu] []) _
    refine XS.iload X7.here hx rfl (hb hby at_102) rfl ?_
    show own_S p e below T7 (mkF m 104 #[vi p1, vi p2, vi p3, vi p4, vi (0 : Int32), vi (1 : Int32), vi (1 : Int32), vr va1, vr va2, vr va3, vr b4, vu, vu] [xi (0 : Int32)]) _
    refine XS.ifYes X7.here hx rfl (pc0 := 104) (pc' := 111) rfl (hb hby at_104) rfl (by decide) (by decide) (by decide) ?_
    show own_S p e below T7 (mkF m 111 #[vi p1, vi p2, vi p3, vi p4, vi (0 : Int32), vi (1 : Int32), vi (1 : Int32), vr va1, vr va2, vr va3, vr b4, vu, vu] []) _
    refine XS.lconst X7.here hx rfl (hb hby at_111) ?_
    show own_S p e below T7 (mkF m 112 #[vi p1, vi p2, vi p3, vi p4, vi (0 : Int32), vi (1 : Int32), vi (1 : Int32), vr va1, vr va2, vr va3, vr b4, vu, vu] [xj (0 : Int64)]) _
    refine XS.iload X7.here hx rfl (hb hby at_112) rfl ?_
    show own_S p e below T7 (mkF m 114 #[vi p1, vi p2, vi p3, vi p4, vi (0 : Int32), vi (1 : Int32), vi (1 : Int32), vr va1, vr va2, vr va3, vr b4, vu, vu] [xi (1 : Int32), xj (0 : Int64)]) _
    refine XS.ifNo X7.here hx rfl (hb hby at_114) rfl (by decide) ?_
    show own_S p e below T7 (mkF m 117 #[vi p1, vi p2, vi p3, vi p4, vi (0 : Int32), vi (1 : Int32), vi (1 : Int32), vr va1, vr va2, vr va3, vr b4, vu, vu] [xj (0 : Int64)]) _
    refine XS.lconst X7.here hx rfl (hb hby at_117) ?_
    show own_S p e below T7 (mkF m 118 #[vi p1, vi p2, vi p3, vi p4, vi (0 : Int32), vi (1 : Int32), vi (1 : Int32), vr va1, vr va2, vr va3, vr b4, vu, vu] [xj (1 : Int64), xj (0 : Int64)]) _
    refine XS.goto X7.here hx rfl (pc0 := 118) (pc' := 122) rfl (hb hby at_118) (by decide) (by decide) ?_
    show own_S p e below T7 (mkF m 122 #[vi p1, vi p2, vi p3, vi p4, vi (0 : Int32), vi (1 : Int32), vi (1 : Int32), vr va1, vr va2, vr va3, vr b4, vu, vu] [xj (1 : Int64), xj (0 : Int64)]) _
    refine XS.ladd X7.here hx rfl (hb hby at_122) rfl ?_
    show own_S p e below T7 (mkF m 123 #[vi p1, vi p2, vi p3, vi p4, vi (0 : Int32), vi (1 : Int32), vi (1 : Int32), vr va1, vr va2, vr va3, vr b4, vu, vu] [xj ((0 : Int64) + (1 : Int64))]) _
    refine castTop (show (mkF m 123 #[vi p1, vi p2, vi p3, vi p4, vi (0 : Int32), vi (1 : Int32), vi (1 : Int32), vr va1, vr va2, vr va3, vr b4, vu, vu] [xj ((0 : Int64) + (1 : Int64))]) = (mkF m 123 #[vi p1, vi p2, vi p3, vi p4, vi (0 : Int32), vi (1 : Int32), vi (1 : Int32), vr va1, vr va2, vr va3, vr b4, vu, vu] [xj (1 : Int64)]) from by rw [show ((0 : Int64) + (1 : Int64)) = (1 : Int64) from by decide]) ?_
    show own_S p e below T7 (mkF m 123 #[vi p1, vi p2, vi p3, vi p4, vi (0 : Int32), vi (1 : Int32), vi (1 : Int32), vr va1, vr va2, vr va3, vr b4, vu, vu] [xj (1 : Int64)]) _
    refine XS.iload X7.here hx rfl (hb hby at_123) rfl ?_
    show own_S p e below T7 (mkF m 125 #[vi p1, vi p2, vi p3, vi p4, vi (0 : Int32), vi (1 : Int32), vi (1 : Int32), vr va1, vr va2, vr va3, vr b4, vu, vu] [xi (1 : Int32), xj (1 : Int64)]) _
    refine XS.ifNo X7.here hx rfl (hb hby at_125) rfl (by decide) ?_
    show own_S p e below T7 (mkF m 128 #[vi p1, vi p2, vi p3, vi p4, vi (0 : Int32), vi (1 : Int32), vi (1 : Int32), vr va1, vr va2, vr va3, vr b4, vu, vu] [xj (1 : Int64)]) _
    refine XS.lconst X7.here hx rfl (hb hby at_128) ?_
    show own_S p e below T7 (mkF m 129 #[vi p1, vi p2, vi p3, vi p4, vi (0 : Int32), vi (1 : Int32), vi (1 : Int32), vr va1, vr va2, vr va3, vr b4, vu, vu] [xj (1 : Int64), xj (1 : Int64)]) _
    refine XS.goto X7.here hx rfl (pc0 := 129) (pc' := 133) rfl (hb hby at_129) (by decide) (by decide) ?_
    show own_S p e below T7 (mkF m 133 #[vi p1, vi p2, vi p3, vi p4, vi (0 : Int32), vi (1 : Int32), vi (1 : Int32), vr va1, vr va2, vr va3, vr b4, vu, vu] [xj (1 : Int64), xj (1 : Int64)]) _
    refine XS.ladd X7.here hx rfl (hb hby at_133) rfl ?_
    show own_S p e below T7 (mkF m 134 #[vi p1, vi p2, vi p3, vi p4, vi (0 : Int32), vi (1 : Int32), vi (1 : Int32), vr va1, vr va2, vr va3, vr b4, vu, vu] [xj ((1 : Int64) + (1 : Int64))]) _
    refine castTop (show (mkF m 134 #[vi p1, vi p2, vi p3, vi p4, vi (0 : Int32), vi (1 : Int32), vi (1 : Int32), vr va1, vr va2, vr va3, vr b4, vu, vu] [xj ((1 : Int64) + (1 : Int64))]) = (mkF m 134 #[vi p1, vi p2, vi p3, vi p4, vi (0 : Int32), vi (1 : Int32), vi (1 : Int32), vr va1, vr va2, vr va3, vr b4, vu, vu] [xj (2 : Int64)]) from by rw [show ((1 : Int64) + (1 : Int64)) = (2 : Int64) from by decide]) ?_
    show own_S p e below T7 (mkF m 134 #[vi p1, vi p2, vi p3, vi p4, vi (0 : Int32), vi (1 : Int32), vi (1 : Int32), vr va1, vr va2, vr va3, vr b4, vu, vu] [xj (2 : Int64)]) _
    refine XS.lstore X7.here hx rfl (hb hby at_134) rfl (l' := #[vi p1, vi p2, vi p3, vi p4, vi (0 : Int32), vi (1 : Int32), vi (1 : Int32), vr va1, vr va2, vr va3, vr b4, vj (2 : Int64), .second]) rfl ?_
    show own_S p e below T7 (mkF m 136 #[vi p1, vi p2, vi p3, vi p4, vi (0 : Int32), vi (1 : Int32), vi (1 : Int32), vr va1, vr va2, vr va3, vr b4, vj (2 : Int64), .second] []) _
    refine XS.aload X7.here hx rfl (hb hby at_136) rfl rfl ?_
    show own_S p e below T7 (mkF m 138 #[vi p1, vi p2, vi p3, vi p4, vi (0 : Int32), vi (1 : Int32), vi (1 : Int32), vr va1, vr va2, vr va3, vr b4, vj (2 : Int64), .second] [xr b4]) _
    refine st8 _ ?_
    show own_S p e below T8 (mkF m 141 #[vi p1, vi p2, vi p3, vi p4, vi (0 : Int32), vi (1 : Int32), vi (1 : Int32), vr va1, vr va2, vr va3, vr b4, vj (2 : Int64), .second] [xr u0, xr b4]) _
    refine st9.trans ?_
    show own_S p e below T9 (mkF m 144 #[vi p1, vi p2, vi p3, vi p4, vi (0 : Int32), vi (1 : Int32), vi (1 : Int32), vr va1, vr va2, vr va3, vr b4, vj (2 : Int64), .second] [xj (((0 : Int64) + own_h p2 0) + own_h p3 0)]) _
    refine XS.iconst X9.here hx rfl (hb hby at_144) ?_
    show own_S p e below T9 (mkF m 145 #[vi p1, vi p2, vi p3, vi p4, vi (0 : Int32), vi (1 : Int32), vi (1 : Int32), vr va1, vr va2, vr va3, vr b4, vj (2 : Int64), .second] [xi (0 : Int32), xj (((0 : Int64) + own_h p2 0) + own_h p3 0)]) _
    refine XS.iloadN X9.here hx rfl (hb hby at_145) rfl ?_
    show own_S p e below T9 (mkF m 146 #[vi p1, vi p2, vi p3, vi p4, vi (0 : Int32), vi (1 : Int32), vi (1 : Int32), vr va1, vr va2, vr va3, vr b4, vj (2 : Int64), .second] [xi p1, xi (0 : Int32), xj (((0 : Int64) + own_h p2 0) + own_h p3 0)]) _
    refine XS.iloadN X9.here hx rfl (hb hby at_146) rfl ?_
    show own_S p e below T9 (mkF m 147 #[vi p1, vi p2, vi p3, vi p4, vi (0 : Int32), vi (1 : Int32), vi (1 : Int32), vr va1, vr va2, vr va3, vr b4, vj (2 : Int64), .second] [xi p2, xi p1, xi (0 : Int32), xj (((0 : Int64) + own_h p2 0) + own_h p3 0)]) _
    refine XS.iloadN X9.here hx rfl (hb hby at_147) rfl ?_
    show own_S p e below T9 (mkF m 148 #[vi p1, vi p2, vi p3, vi p4, vi (0 : Int32), vi (1 : Int32), vi (1 : Int32), vr va1, vr va2, vr va3, vr b4, vj (2 : Int64), .second] [xi p3, xi p2, xi p1, xi (0 : Int32), xj (((0 : Int64) + own_h p2 0) + own_h p3 0)]) _
    refine XS.iloadN X9.here hx rfl (hb hby at_148) rfl ?_
    show own_S p e below T9 (mkF m 149 #[vi p1, vi p2, vi p3, vi p4, vi (0 : Int32), vi (1 : Int32), vi (1 : Int32), vr va1, vr va2, vr va3, vr b4, vj (2 : Int64), .second] [xi p4, xi p3, xi p2, xi p1, xi (0 : Int32), xj (((0 : Int64) + own_h p2 0) + own_h p3 0)]) _
    refine st10 _ ?_
    show own_S p e below T10 (mkF m 152 #[vi p1, vi p2, vi p3, vi p4, vi (0 : Int32), vi (1 : Int32), vi (1 : Int32), vr va1, vr va2, vr va3, vr b4, vj (2 : Int64), .second] [xj (((0 : Int64) + (own_h p2 (0 : Int32))) + (own_h p3 (0 : Int32))), xj (((0 : Int64) + own_h p2 0) + own_h p3 0)]) _
    refine XS.lcmp X10.here hx rfl (hb hby at_152) rfl ?_
    show own_S p e below T10 (mkF m 153 #[vi p1, vi p2, vi p3, vi p4, vi (0 : Int32), vi (1 : Int32), vi (1 : Int32), vr va1, vr va2, vr va3, vr b4, vj (2 : Int64), .second] [xi (lcmpW (((0 : Int64) + own_h p2 0) + own_h p3 0) (((0 : Int64) + (own_h p2 (0 : Int32))) + (own_h p3 (0 : Int32))))]) _
    show own_S p e below T10 (mkF m 153 #[vi p1, vi p2, vi p3, vi p4, vi (0 : Int32), vi (1 : Int32), vi (1 : Int32), vr va1, vr va2, vr va3, vr b4, vj (2 : Int64), .second] [xi (lcmpW (((0 : Int64) + own_h p2 0) + own_h p3 0) (((0 : Int64) + (own_h p2 (0 : Int32))) + (own_h p3 (0 : Int32))))]) _
    refine XS.ifNo X10.here hx rfl (hb hby at_153) rfl (by simp [lcmpW, ifCond.holds, Int64.zero_add, Int64.add_zero]) ?_
    show own_S p e below T10 (mkF m 156 #[vi p1, vi p2, vi p3, vi p4, vi (0 : Int32), vi (1 : Int32), vi (1 : Int32), vr va1, vr va2, vr va3, vr b4, vj (2 : Int64), .second] []) _
    refine XS.aload X10.here hx rfl (hb hby at_156) rfl rfl ?_
    show own_S p e below T10 (mkF m 158 #[vi p1, vi p2, vi p3, vi p4, vi (0 : Int32), vi (1 : Int32), vi (1 : Int32), vr va1, vr va2, vr va3, vr b4, vj (2 : Int64), .second] [xr b4]) _
    refine st11 _ ?_
    show own_S p e below T11 (mkF m 161 #[vi p1, vi p2, vi p3, vi p4, vi (0 : Int32), vi (1 : Int32), vi (1 : Int32), vr va1, vr va2, vr va3, vr b4, vj (2 : Int64), .second] [xr u4, xr b4]) _
    refine st12.trans ?_
    show own_S p e below T12 (mkF m 164 #[vi p1, vi p2, vi p3, vi p4, vi (0 : Int32), vi (1 : Int32), vi (1 : Int32), vr va1, vr va2, vr va3, vr b4, vj (2 : Int64), .second] [xj (((0 : Int64) + own_h p2 1) + own_h p3 1)]) _
    refine XS.iconst X12.here hx rfl (hb hby at_164) ?_
    show own_S p e below T12 (mkF m 165 #[vi p1, vi p2, vi p3, vi p4, vi (0 : Int32), vi (1 : Int32), vi (1 : Int32), vr va1, vr va2, vr va3, vr b4, vj (2 : Int64), .second] [xi (1 : Int32), xj (((0 : Int64) + own_h p2 1) + own_h p3 1)]) _
    refine XS.iloadN X12.here hx rfl (hb hby at_165) rfl ?_
    show own_S p e below T12 (mkF m 166 #[vi p1, vi p2, vi p3, vi p4, vi (0 : Int32), vi (1 : Int32), vi (1 : Int32), vr va1, vr va2, vr va3, vr b4, vj (2 : Int64), .second] [xi p1, xi (1 : Int32), xj (((0 : Int64) + own_h p2 1) + own_h p3 1)]) _
    refine XS.iloadN X12.here hx rfl (hb hby at_166) rfl ?_
    show own_S p e below T12 (mkF m 167 #[vi p1, vi p2, vi p3, vi p4, vi (0 : Int32), vi (1 : Int32), vi (1 : Int32), vr va1, vr va2, vr va3, vr b4, vj (2 : Int64), .second] [xi p2, xi p1, xi (1 : Int32), xj (((0 : Int64) + own_h p2 1) + own_h p3 1)]) _
    refine XS.iloadN X12.here hx rfl (hb hby at_167) rfl ?_
    show own_S p e below T12 (mkF m 168 #[vi p1, vi p2, vi p3, vi p4, vi (0 : Int32), vi (1 : Int32), vi (1 : Int32), vr va1, vr va2, vr va3, vr b4, vj (2 : Int64), .second] [xi p3, xi p2, xi p1, xi (1 : Int32), xj (((0 : Int64) + own_h p2 1) + own_h p3 1)]) _
    refine XS.iloadN X12.here hx rfl (hb hby at_168) rfl ?_
    show own_S p e below T12 (mkF m 169 #[vi p1, vi p2, vi p3, vi p4, vi (0 : Int32), vi (1 : Int32), vi (1 : Int32), vr va1, vr va2, vr va3, vr b4, vj (2 : Int64), .second] [xi p4, xi p3, xi p2, xi p1, xi (1 : Int32), xj (((0 : Int64) + own_h p2 1) + own_h p3 1)]) _
    refine st13 _ ?_
    show own_S p e below T13 (mkF m 172 #[vi p1, vi p2, vi p3, vi p4, vi (0 : Int32), vi (1 : Int32), vi (1 : Int32), vr va1, vr va2, vr va3, vr b4, vj (2 : Int64), .second] [xj (((0 : Int64) + (own_h p2 (1 : Int32))) + (own_h p3 (1 : Int32))), xj (((0 : Int64) + own_h p2 1) + own_h p3 1)]) _
    refine XS.lcmp X13.here hx rfl (hb hby at_172) rfl ?_
    show own_S p e below T13 (mkF m 173 #[vi p1, vi p2, vi p3, vi p4, vi (0 : Int32), vi (1 : Int32), vi (1 : Int32), vr va1, vr va2, vr va3, vr b4, vj (2 : Int64), .second] [xi (lcmpW (((0 : Int64) + own_h p2 1) + own_h p3 1) (((0 : Int64) + (own_h p2 (1 : Int32))) + (own_h p3 (1 : Int32))))]) _
    show own_S p e below T13 (mkF m 173 #[vi p1, vi p2, vi p3, vi p4, vi (0 : Int32), vi (1 : Int32), vi (1 : Int32), vr va1, vr va2, vr va3, vr b4, vj (2 : Int64), .second] [xi (lcmpW (((0 : Int64) + own_h p2 1) + own_h p3 1) (((0 : Int64) + (own_h p2 (1 : Int32))) + (own_h p3 (1 : Int32))))]) _
    refine XS.ifNo X13.here hx rfl (hb hby at_173) rfl (by simp [lcmpW, ifCond.holds, Int64.zero_add, Int64.add_zero]) ?_
    show own_S p e below T13 (mkF m 176 #[vi p1, vi p2, vi p3, vi p4, vi (0 : Int32), vi (1 : Int32), vi (1 : Int32), vr va1, vr va2, vr va3, vr b4, vj (2 : Int64), .second] []) _
    refine XS.aload X13.here hx rfl (hb hby at_176) rfl rfl ?_
    show own_S p e below T13 (mkF m 178 #[vi p1, vi p2, vi p3, vi p4, vi (0 : Int32), vi (1 : Int32), vi (1 : Int32), vr va1, vr va2, vr va3, vr b4, vj (2 : Int64), .second] [xr b4]) _
    refine st14 _ ?_
    show own_S p e below T14 (mkF m 181 #[vi p1, vi p2, vi p3, vi p4, vi (0 : Int32), vi (1 : Int32), vi (1 : Int32), vr va1, vr va2, vr va3, vr b4, vj (2 : Int64), .second] [xr u2, xr b4]) _
    refine st15.trans ?_
    show own_S p e below T15 (mkF m 184 #[vi p1, vi p2, vi p3, vi p4, vi (0 : Int32), vi (1 : Int32), vi (1 : Int32), vr va1, vr va2, vr va3, vr b4, vj (2 : Int64), .second] [xj (((0 : Int64) + own_h p2 2) + own_h p3 2)]) _
    refine XS.iconst X15.here hx rfl (hb hby at_184) ?_
    show own_S p e below T15 (mkF m 185 #[vi p1, vi p2, vi p3, vi p4, vi (0 : Int32), vi (1 : Int32), vi (1 : Int32), vr va1, vr va2, vr va3, vr b4, vj (2 : Int64), .second] [xi (2 : Int32), xj (((0 : Int64) + own_h p2 2) + own_h p3 2)]) _
    refine XS.iloadN X15.here hx rfl (hb hby at_185) rfl ?_
    show own_S p e below T15 (mkF m 186 #[vi p1, vi p2, vi p3, vi p4, vi (0 : Int32), vi (1 : Int32), vi (1 : Int32), vr va1, vr va2, vr va3, vr b4, vj (2 : Int64), .second] [xi p1, xi (2 : Int32), xj (((0 : Int64) + own_h p2 2) + own_h p3 2)]) _
    refine XS.iloadN X15.here hx rfl (hb hby at_186) rfl ?_
    show own_S p e below T15 (mkF m 187 #[vi p1, vi p2, vi p3, vi p4, vi (0 : Int32), vi (1 : Int32), vi (1 : Int32), vr va1, vr va2, vr va3, vr b4, vj (2 : Int64), .second] [xi p2, xi p1, xi (2 : Int32), xj (((0 : Int64) + own_h p2 2) + own_h p3 2)]) _
    refine XS.iloadN X15.here hx rfl (hb hby at_187) rfl ?_
    show own_S p e below T15 (mkF m 188 #[vi p1, vi p2, vi p3, vi p4, vi (0 : Int32), vi (1 : Int32), vi (1 : Int32), vr va1, vr va2, vr va3, vr b4, vj (2 : Int64), .second] [xi p3, xi p2, xi p1, xi (2 : Int32), xj (((0 : Int64) + own_h p2 2) + own_h p3 2)]) _
    refine XS.iloadN X15.here hx rfl (hb hby at_188) rfl ?_
    show own_S p e below T15 (mkF m 189 #[vi p1, vi p2, vi p3, vi p4, vi (0 : Int32), vi (1 : Int32), vi (1 : Int32), vr va1, vr va2, vr va3, vr b4, vj (2 : Int64), .second] [xi p4, xi p3, xi p2, xi p1, xi (2 : Int32), xj (((0 : Int64) + own_h p2 2) + own_h p3 2)]) _
    refine st16 _ ?_
    show own_S p e below T16 (mkF m 192 #[vi p1, vi p2, vi p3, vi p4, vi (0 : Int32), vi (1 : Int32), vi (1 : Int32), vr va1, vr va2, vr va3, vr b4, vj (2 : Int64), .second] [xj (((0 : Int64) + (own_h p2 (2 : Int32))) + (own_h p3 (2 : Int32))), xj (((0 : Int64) + own_h p2 2) + own_h p3 2)]) _
    refine XS.lcmp X16.here hx rfl (hb hby at_192) rfl ?_
    show own_S p e below T16 (mkF m 193 #[vi p1, vi p2, vi p3, vi p4, vi (0 : Int32), vi (1 : Int32), vi (1 : Int32), vr va1, vr va2, vr va3, vr b4, vj (2 : Int64), .second] [xi (lcmpW (((0 : Int64) + own_h p2 2) + own_h p3 2) (((0 : Int64) + (own_h p2 (2 : Int32))) + (own_h p3 (2 : Int32))))]) _
    show own_S p e below T16 (mkF m 193 #[vi p1, vi p2, vi p3, vi p4, vi (0 : Int32), vi (1 : Int32), vi (1 : Int32), vr va1, vr va2, vr va3, vr b4, vj (2 : Int64), .second] [xi (lcmpW (((0 : Int64) + own_h p2 2) + own_h p3 2) (((0 : Int64) + (own_h p2 (2 : Int32))) + (own_h p3 (2 : Int32))))]) _
    refine XS.ifNo X16.here hx rfl (hb hby at_193) rfl (by simp [lcmpW, ifCond.holds, Int64.zero_add, Int64.add_zero]) ?_
    show own_S p e below T16 (mkF m 196 #[vi p1, vi p2, vi p3, vi p4, vi (0 : Int32), vi (1 : Int32), vi (1 : Int32), vr va1, vr va2, vr va3, vr b4, vj (2 : Int64), .second] []) _
    refine XS.aload X16.here hx rfl (hb hby at_196) rfl rfl ?_
    show own_S p e below T16 (mkF m 198 #[vi p1, vi p2, vi p3, vi p4, vi (0 : Int32), vi (1 : Int32), vi (1 : Int32), vr va1, vr va2, vr va3, vr b4, vj (2 : Int64), .second] [xr b4]) _
    refine st17 _ ?_
    show own_S p e below T17 (mkF m 201 #[vi p1, vi p2, vi p3, vi p4, vi (0 : Int32), vi (1 : Int32), vi (1 : Int32), vr va1, vr va2, vr va3, vr b4, vj (2 : Int64), .second] [xr u1, xr b4]) _
    refine st18.trans ?_
    show own_S p e below T18 (mkF m 204 #[vi p1, vi p2, vi p3, vi p4, vi (0 : Int32), vi (1 : Int32), vi (1 : Int32), vr va1, vr va2, vr va3, vr b4, vj (2 : Int64), .second] [xj (((0 : Int64) + own_h p2 3) + own_h p3 3)]) _
    refine XS.iconst X18.here hx rfl (hb hby at_204) ?_
    show own_S p e below T18 (mkF m 205 #[vi p1, vi p2, vi p3, vi p4, vi (0 : Int32), vi (1 : Int32), vi (1 : Int32), vr va1, vr va2, vr va3, vr b4, vj (2 : Int64), .second] [xi (3 : Int32), xj (((0 : Int64) + own_h p2 3) + own_h p3 3)]) _
    refine XS.iloadN X18.here hx rfl (hb hby at_205) rfl ?_
    show own_S p e below T18 (mkF m 206 #[vi p1, vi p2, vi p3, vi p4, vi (0 : Int32), vi (1 : Int32), vi (1 : Int32), vr va1, vr va2, vr va3, vr b4, vj (2 : Int64), .second] [xi p1, xi (3 : Int32), xj (((0 : Int64) + own_h p2 3) + own_h p3 3)]) _
    refine XS.iloadN X18.here hx rfl (hb hby at_206) rfl ?_
    show own_S p e below T18 (mkF m 207 #[vi p1, vi p2, vi p3, vi p4, vi (0 : Int32), vi (1 : Int32), vi (1 : Int32), vr va1, vr va2, vr va3, vr b4, vj (2 : Int64), .second] [xi p2, xi p1, xi (3 : Int32), xj (((0 : Int64) + own_h p2 3) + own_h p3 3)]) _
    refine XS.iloadN X18.here hx rfl (hb hby at_207) rfl ?_
    show own_S p e below T18 (mkF m 208 #[vi p1, vi p2, vi p3, vi p4, vi (0 : Int32), vi (1 : Int32), vi (1 : Int32), vr va1, vr va2, vr va3, vr b4, vj (2 : Int64), .second] [xi p3, xi p2, xi p1, xi (3 : Int32), xj (((0 : Int64) + own_h p2 3) + own_h p3 3)]) _
    refine XS.iloadN X18.here hx rfl (hb hby at_208) rfl ?_
    show own_S p e below T18 (mkF m 209 #[vi p1, vi p2, vi p3, vi p4, vi (0 : Int32), vi (1 : Int32), vi (1 : Int32), vr va1, vr va2, vr va3, vr b4, vj (2 : Int64), .second] [xi p4, xi p3, xi p2, xi p1, xi (3 : Int32), xj (((0 : Int64) + own_h p2 3) + own_h p3 3)]) _
    refine st19 _ ?_
    show own_S p e below T19 (mkF m 212 #[vi p1, vi p2, vi p3, vi p4, vi (0 : Int32), vi (1 : Int32), vi (1 : Int32), vr va1, vr va2, vr va3, vr b4, vj (2 : Int64), .second] [xj (((0 : Int64) + (own_h p2 (3 : Int32))) + (own_h p3 (3 : Int32))), xj (((0 : Int64) + own_h p2 3) + own_h p3 3)]) _
    refine XS.lcmp X19.here hx rfl (hb hby at_212) rfl ?_
    show own_S p e below T19 (mkF m 213 #[vi p1, vi p2, vi p3, vi p4, vi (0 : Int32), vi (1 : Int32), vi (1 : Int32), vr va1, vr va2, vr va3, vr b4, vj (2 : Int64), .second] [xi (lcmpW (((0 : Int64) + own_h p2 3) + own_h p3 3) (((0 : Int64) + (own_h p2 (3 : Int32))) + (own_h p3 (3 : Int32))))]) _
    show own_S p e below T19 (mkF m 213 #[vi p1, vi p2, vi p3, vi p4, vi (0 : Int32), vi (1 : Int32), vi (1 : Int32), vr va1, vr va2, vr va3, vr b4, vj (2 : Int64), .second] [xi (lcmpW (((0 : Int64) + own_h p2 3) + own_h p3 3) (((0 : Int64) + (own_h p2 (3 : Int32))) + (own_h p3 (3 : Int32))))]) _
    refine XS.ifNo X19.here hx rfl (hb hby at_213) rfl (by simp [lcmpW, ifCond.holds, Int64.zero_add, Int64.add_zero]) ?_
    show own_S p e below T19 (mkF m 216 #[vi p1, vi p2, vi p3, vi p4, vi (0 : Int32), vi (1 : Int32), vi (1 : Int32), vr va1, vr va2, vr va3, vr b4, vj (2 : Int64), .second] []) _
    refine XS.aload X19.here hx rfl (hb hby at_216) rfl rfl ?_
    show own_S p e below T19 (mkF m 218 #[vi p1, vi p2, vi p3, vi p4, vi (0 : Int32), vi (1 : Int32), vi (1 : Int32), vr va1, vr va2, vr va3, vr b4, vj (2 : Int64), .second] [xr b4]) _
    refine st20.trans ?_
    show own_S p e below T20 (mkF m 221 #[vi p1, vi p2, vi p3, vi p4, vi (0 : Int32), vi (1 : Int32), vi (1 : Int32), vr va1, vr va2, vr va3, vr b4, vj (2 : Int64), .second] [xj (((((0 : Int64) + (((0 : Int64) + own_h p2 0) + own_h p3 0)) + (((0 : Int64) + own_h p2 1) + own_h p3 1)) + (((0 : Int64) + own_h p2 2) + own_h p3 2)) + (((0 : Int64) + own_h p2 3) + own_h p3 3))]) _
    refine XS.lload X20.here hx rfl (hb hby at_221) rfl ?_
    show own_S p e below T20 (mkF m 223 #[vi p1, vi p2, vi p3, vi p4, vi (0 : Int32), vi (1 : Int32), vi (1 : Int32), vr va1, vr va2, vr va3, vr b4, vj (2 : Int64), .second] [xj (2 : Int64), xj (((((0 : Int64) + (((0 : Int64) + own_h p2 0) + own_h p3 0)) + (((0 : Int64) + own_h p2 1) + own_h p3 1)) + (((0 : Int64) + own_h p2 2) + own_h p3 2)) + (((0 : Int64) + own_h p2 3) + own_h p3 3))]) _
    refine XS.lcmp X20.here hx rfl (hb hby at_223) rfl ?_
    show own_S p e below T20 (mkF m 224 #[vi p1, vi p2, vi p3, vi p4, vi (0 : Int32), vi (1 : Int32), vi (1 : Int32), vr va1, vr va2, vr va3, vr b4, vj (2 : Int64), .second] [xi (lcmpW (((((0 : Int64) + (((0 : Int64) + own_h p2 0) + own_h p3 0)) + (((0 : Int64) + own_h p2 1) + own_h p3 1)) + (((0 : Int64) + own_h p2 2) + own_h p3 2)) + (((0 : Int64) + own_h p2 3) + own_h p3 3)) (2 : Int64))]) _
    show own_S p e below T20 (mkF m 224 #[vi p1, vi p2, vi p3, vi p4, vi (0 : Int32), vi (1 : Int32), vi (1 : Int32), vr va1, vr va2, vr va3, vr b4, vj (2 : Int64), .second] [xi (lcmpW (((((0 : Int64) + (((0 : Int64) + own_h p2 0) + own_h p3 0)) + (((0 : Int64) + own_h p2 1) + own_h p3 1)) + (((0 : Int64) + own_h p2 2) + own_h p3 2)) + (((0 : Int64) + own_h p2 3) + own_h p3 3)) (2 : Int64))]) _
    refine XS.ifNo X20.here hx rfl (hb hby at_224) rfl (by rw [show (((((0 : Int64) + (((0 : Int64) + own_h p2 0) + own_h p3 0)) + (((0 : Int64) + own_h p2 1) + own_h p3 1)) + (((0 : Int64) + own_h p2 2) + own_h p3 2)) + (((0 : Int64) + own_h p2 3) + own_h p3 3)) = (own_h p2 0 + own_h p2 1 + own_h p2 2 + own_h p2 3) + (own_h p3 0 + own_h p3 1 + own_h p3 2 + own_h p3 3) from by simp only [Int64.zero_add]; try ac_rfl]; simp only [own_hsum]; try decide) ?_
    show own_S p e below T20 (mkF m 227 #[vi p1, vi p2, vi p3, vi p4, vi (0 : Int32), vi (1 : Int32), vi (1 : Int32), vr va1, vr va2, vr va3, vr b4, vj (2 : Int64), .second] []) _
    refine XS.iconst X20.here hx rfl (hb hby at_227) ?_
    show own_S p e below T20 (mkF m 228 #[vi p1, vi p2, vi p3, vi p4, vi (0 : Int32), vi (1 : Int32), vi (1 : Int32), vr va1, vr va2, vr va3, vr b4, vj (2 : Int64), .second] [xi (1 : Int32)]) _
    refine XS.goto X20.here hx rfl (pc0 := 228) (pc' := 232) rfl (hb hby at_228) (by decide) (by decide) ?_
    show own_S p e below T20 (mkF m 232 #[vi p1, vi p2, vi p3, vi p4, vi (0 : Int32), vi (1 : Int32), vi (1 : Int32), vr va1, vr va2, vr va3, vr b4, vj (2 : Int64), .second] [xi (1 : Int32)]) _
    exact retN X20 hx (t := .boolean) Bd.returns (by simp) (hb hby at_232) hr
  · exact ⟨rfl, N20⟩
theorem d8_7 : decode method_4_code 7 = .ok (.iconst 1, 1) := by decide +kernel
theorem d8_8 : decode method_4_code 8 = .ok (.goto 4, 3) := by decide +kernel
theorem ef_own_c20_expected (m : MethodId) (u0 u1 u2 u3 u4 : Addr) (p1 : Int32) (p2 : Int32) (p3 : Int32) (p4 : Int32) : entryFrame m #[xi (0 : Int32), xi p1, xi p2, xi p3, xi p4] 5 = (mkF m 0 #[vi (0 : Int32), vi p1, vi p2, vi p3, vi p4] []) := by first | (simp [entryFrame, mkF, argsToLocals, Value.category]; done) | rfl
set_option maxRecDepth 65536 in
set_option maxHeartbeats 40000000 in
theorem own_c20_expected (l : Launch) (Z : State) (a0 : Array Value) (hw : ∀ d ∈ tables_1, d.before a0 Z = true) (u0 u1 u2 u3 u4 : Addr) (G : own_St Z u0 u1 u2 u3 u4) (p1 : Int32) (p2 : Int32) (p3 : Int32) (p4 : Int32) (as7 : (p4 &&& (1 : Int32)) = (1 : Int32)) (as8 : (p4 &&& (2 : Int32)) = (0 : Int32)) (as10 : (p4 &&& (4 : Int32)) = (0 : Int32)) (h0 : Heap) (n0 : Nat) (O0 : Old Z n0 h0) : own_Met l Z Y9 method_4_code 5 (some .long) ({ frames := 1, cells := 0, slots := 0, locals := 16 } : Room) #[xi (0 : Int32), xi p1, xi p2, xi p3, xi p4] h0 (own_QR (some (xj (((own_h p1 (0 : Int32)) + (0 : Int64)) + (0 : Int64)))) h0 n0) := by
  intro ws
  refine MetFree.of_bodySF (plainFor_of_name pn3) hisR ?_
  intro p e s m args below meth c s₁ Bd hml0 hP hK
  obtain ⟨rfl, hZ, hh⟩ := hP
  have hx := Bd.exec
  have hby := Bd.bytes
  have hml : c.maxLocals = 5 := hml0
  have hown : s.vm.findClass "com/example/feedwright/feedwright/LoadSummaryAddPinLaw" = some m.cls := findClass_of_methodNamed Bd.named
  have hnm := (name_of_methodNamed Bd.named Bd.method).1
  have X0 : Stand p l e ({ frames := 1, cells := 0, slots := 0, locals := 16 } : Room) s m #[xi (0 : Int32), xi p1, xi p2, xi p3, xi p4] below meth c s₁ [] 0 0 := Stand.of_body Bd
  have e0 : s₁.heap = h0 := by rw [← hh, Bd.state]; rfl
  have N0 := Fr.nil n0
  have pre0 : ∀ t, Steps p.tables e below (s₁.setTop (mkF m 0 #[vi (0 : Int32), vi p1, vi p2, vi p3, vi p4] [])) t → Steps p.tables e below (s₁.setTop (entryFrame m #[xi (0 : Int32), xi p1, xi p2, xi p3, xi p4] 5)) t := fun t st => castTop (ef_own_c20_expected m u0 u1 u2 u3 u4 p1 p2 p3 p4) st
  obtain ⟨_, _, ⟨T1, L1, k1, n1⟩, -, X1, ⟨Lc1, hQ1, l1, y1, z1⟩, st1⟩ := Jvm.LawKit.callS X0 hx (y := Y6) hown (mvT hZ (ww hw 61 rfl)) (mvT hZ (ww hw 62 rfl)) (mvT hZ (ww hw 2 rfl)) (mvT hZ (ww hw 63 rfl)) (by decide) (backOf (W := 0) (own_hit l Z a0 hw u0 u1 u2 u3 u4 G p1 (0 : Int32) h0 n0 O0 []) hZ (ww hw 63 rfl) (ww hw 2 rfl) (by decide) (by decide)) (g := (mkF m 14 #[vi (0 : Int32), vi p1, vi p2, vi p3, vi p4] [xi (0 : Int32), xi p1, xi (1 : Int32)])) rfl (by rw [hml]; rfl) (argsL := [xi (1 : Int32), xi p1, xi (0 : Int32)]) (rest := []) (lenOf pd5 rfl) rfl (by show 2 * 0 + _ ≤ _; exact Nat.le_of_eq rfl) (hb hby d8_14) (fun _ _ => ⟨rfl, e0, (by decide : 0 + 0 ≤ _), (by decide : 0 + 0 ≤ _)⟩)
  dsimp only [Pt.U, Pt.locs, Pt.cells, Pt.slots] at X1 l1 y1 z1 st1 hQ1
  subst l1 y1 z1
  obtain ⟨rfl, Nq1, e1⟩ := hQ1
  have N1 := Fr.app N0 Nq1
  obtain ⟨_, _, ⟨T2, L2, k2, n2⟩, -, X2, ⟨Lc2, hQ2, l2, y2, z2⟩, st2⟩ := Jvm.LawKit.callS X1 hx (y := Y6) hown (mvT hZ (ww hw 61 rfl)) (mvT hZ (ww hw 62 rfl)) (mvT hZ (ww hw 2 rfl)) (mvT hZ (ww hw 63 rfl)) (by decide) (backOf (W := 2) (own_hit_off l Z a0 hw u0 u1 u2 u3 u4 G p2 (0 : Int32) h0 n0 O0 []) hZ (ww hw 63 rfl) (ww hw 2 rfl) (by decide) (by decide)) (g := (mkF m 31 #[vi (0 : Int32), vi p1, vi p2, vi p3, vi p4] [xi (0 : Int32), xi p2, xi (0 : Int32), xj (own_h p1 (0 : Int32))])) rfl (by rw [hml]; rfl) (argsL := [xi (0 : Int32), xi p2, xi (0 : Int32)]) (rest := [xj (own_h p1 (0 : Int32))]) (lenOf pd5 rfl) rfl (by show 2 * 0 + _ ≤ _; exact Nat.le_of_eq rfl) (hb hby d8_31) (fun _ _ => ⟨rfl, e1, (by decide : 0 + 0 ≤ _), (by decide : 0 + 0 ≤ _)⟩)
  dsimp only [Pt.U, Pt.locs, Pt.cells, Pt.slots] at X2 l2 y2 z2 st2 hQ2
  subst l2 y2 z2
  obtain ⟨rfl, Nq2, e2⟩ := hQ2
  have N2 := Fr.app N1 Nq2
  obtain ⟨_, _, ⟨T3, L3, k3, n3⟩, -, X3, ⟨Lc3, hQ3, l3, y3, z3⟩, st3⟩ := Jvm.LawKit.callS X2 hx (y := Y6) hown (mvT hZ (ww hw 61 rfl)) (mvT hZ (ww hw 62 rfl)) (mvT hZ (ww hw 2 rfl)) (mvT hZ (ww hw 63 rfl)) (by decide) (backOf (W := 2) (own_hit_off l Z a0 hw u0 u1 u2 u3 u4 G p3 (0 : Int32) h0 n0 O0 []) hZ (ww hw 63 rfl) (ww hw 2 rfl) (by decide) (by decide)) (g := (mkF m 49 #[vi (0 : Int32), vi p1, vi p2, vi p3, vi p4] [xi (0 : Int32), xi p3, xi (0 : Int32), xj ((own_h p1 (0 : Int32)) + (0 : Int64))])) rfl (by rw [hml]; rfl) (argsL := [xi (0 : Int32), xi p3, xi (0 : Int32)]) (rest := [xj ((own_h p1 (0 : Int32)) + (0 : Int64))]) (lenOf pd5 rfl) rfl (by show 2 * 0 + _ ≤ _; exact Nat.le_of_eq rfl) (hb hby d8_49) (fun _ _ => ⟨rfl, e2, (by decide : 0 + 0 ≤ _), (by decide : 0 + 0 ≤ _)⟩)
  dsimp only [Pt.U, Pt.locs, Pt.cells, Pt.slots] at X3 l3 y3 z3 st3 hQ3
  subst l3 y3 z3
  obtain ⟨rfl, Nq3, e3⟩ := hQ3
  have N3 := Fr.app N2 Nq3
  obtain ⟨fs, hr, hrun, hended, hW, hsame⟩ := X3.leave (v := some (xj (((own_h p1 (0 : Int32)) + (0 : Int64)) + (0 : Int64)))) (fun h => by rw [Bd.returns] at h; cases h)
  refine ⟨_, _, pre0 _ ?_, hrun, hended, _, _, rfl, ?_, ⟨_, rfl⟩, hW, hsame.mono (by decide) (by decide)⟩
  · show own_S p e below s₁ (mkF m 0 #[vi (0 : Int32), vi p1, vi p2, vi p3, vi p4] []) _
    refine XS.iload X0.here hx rfl (hb hby d8_0) rfl ?_
    show own_S p e below s₁ (mkF m 2 #[vi (0 : Int32), vi p1, vi p2, vi p3, vi p4] [xi p4]) _
    refine XS.iconst X0.here hx rfl (hb hby d8_2) ?_
    show own_S p e below s₁ (mkF m 3 #[vi (0 : Int32), vi p1, vi p2, vi p3, vi p4] [xi (1 : Int32), xi p4]) _
    refine XS.iand X0.here hx rfl (hb hby d8_3) rfl ?_
    show own_S p e below s₁ (mkF m 4 #[vi (0 : Int32), vi p1, vi p2, vi p3, vi p4] [xi (p4 &&& (1 : Int32))]) _
    refine castTop (show (mkF m 4 #[vi (0 : Int32), vi p1, vi p2, vi p3, vi p4] [xi (p4 &&& (1 : Int32))]) = (mkF m 4 #[vi (0 : Int32), vi p1, vi p2, vi p3, vi p4] [xi (1 : Int32)]) from by rw [as7]) ?_
    show own_S p e below s₁ (mkF m 4 #[vi (0 : Int32), vi p1, vi p2, vi p3, vi p4] [xi (1 : Int32)]) _
    refine XS.ifNo X0.here hx rfl (hb hby d8_4) rfl (by decide) ?_
    show own_S p e below s₁ (mkF m 7 #[vi (0 : Int32), vi p1, vi p2, vi p3, vi p4] []) _
    refine XS.iconst X0.here hx rfl (hb hby d8_7) ?_
    show own_S p e below s₁ (mkF m 8 #[vi (0 : Int32), vi p1, vi p2, vi p3, vi p4] [xi (1 : Int32)]) _
    refine XS.goto X0.here hx rfl (pc0 := 8) (pc' := 12) rfl (hb hby d8_8) (by decide) (by decide) ?_
    show own_S p e below s₁ (mkF m 12 #[vi (0 : Int32), vi p1, vi p2, vi p3, vi p4] [xi (1 : Int32)]) _
    refine XS.iloadN X0.here hx rfl (hb hby d8_12) rfl ?_
    show own_S p e below s₁ (mkF m 13 #[vi (0 : Int32), vi p1, vi p2, vi p3, vi p4] [xi p1, xi (1 : Int32)]) _
    refine XS.iloadN X0.here hx rfl (hb hby d8_13) rfl ?_
    show own_S p e below s₁ (mkF m 14 #[vi (0 : Int32), vi p1, vi p2, vi p3, vi p4] [xi (0 : Int32), xi p1, xi (1 : Int32)]) _
    refine st1 _ ?_
    show own_S p e below T1 (mkF m 17 #[vi (0 : Int32), vi p1, vi p2, vi p3, vi p4] [xj (own_h p1 (0 : Int32))]) _
    refine XS.iload X1.here hx rfl (hb hby d8_17) rfl ?_
    show own_S p e below T1 (mkF m 19 #[vi (0 : Int32), vi p1, vi p2, vi p3, vi p4] [xi p4, xj (own_h p1 (0 : Int32))]) _
    refine XS.iconst X1.here hx rfl (hb hby d8_19) ?_
    show own_S p e below T1 (mkF m 20 #[vi (0 : Int32), vi p1, vi p2, vi p3, vi p4] [xi (2 : Int32), xi p4, xj (own_h p1 (0 : Int32))]) _
    refine XS.iand X1.here hx rfl (hb hby d8_20) rfl ?_
    show own_S p e below T1 (mkF m 21 #[vi (0 : Int32), vi p1, vi p2, vi p3, vi p4] [xi (p4 &&& (2 : Int32)), xj (own_h p1 (0 : Int32))]) _
    refine castTop (show (mkF m 21 #[vi (0 : Int32), vi p1, vi p2, vi p3, vi p4] [xi (p4 &&& (2 : Int32)), xj (own_h p1 (0 : Int32))]) = (mkF m 21 #[vi (0 : Int32), vi p1, vi p2, vi p3, vi p4] [xi (0 : Int32), xj (own_h p1 (0 : Int32))]) from by rw [as8]) ?_
    show own_S p e below T1 (mkF m 21 #[vi (0 : Int32), vi p1, vi p2, vi p3, vi p4] [xi (0 : Int32), xj (own_h p1 (0 : Int32))]) _
    refine XS.ifYes X1.here hx rfl (pc0 := 21) (pc' := 28) rfl (hb hby d8_21) rfl (by decide) (by decide) (by decide) ?_
    show own_S p e below T1 (mkF m 28 #[vi (0 : Int32), vi p1, vi p2, vi p3, vi p4] [xj (own_h p1 (0 : Int32))]) _
    refine XS.iconst X1.here hx rfl (hb hby d8_28) ?_
    show own_S p e below T1 (mkF m 29 #[vi (0 : Int32), vi p1, vi p2, vi p3, vi p4] [xi (0 : Int32), xj (own_h p1 (0 : Int32))]) _
    refine XS.iloadN X1.here hx rfl (hb hby d8_29) rfl ?_
    show own_S p e below T1 (mkF m 30 #[vi (0 : Int32), vi p1, vi p2, vi p3, vi p4] [xi p2, xi (0 : Int32), xj (own_h p1 (0 : Int32))]) _
    refine XS.iloadN X1.here hx rfl (hb hby d8_30) rfl ?_
    show own_S p e below T1 (mkF m 31 #[vi (0 : Int32), vi p1, vi p2, vi p3, vi p4] [xi (0 : Int32), xi p2, xi (0 : Int32), xj (own_h p1 (0 : Int32))]) _
    refine st2 _ ?_
    show own_S p e below T2 (mkF m 34 #[vi (0 : Int32), vi p1, vi p2, vi p3, vi p4] [xj (0 : Int64), xj (own_h p1 (0 : Int32))]) _
    refine XS.ladd X2.here hx rfl (hb hby d8_34) rfl ?_
    show own_S p e below T2 (mkF m 35 #[vi (0 : Int32), vi p1, vi p2, vi p3, vi p4] [xj ((own_h p1 (0 : Int32)) + (0 : Int64))]) _
    show own_S p e below T2 (mkF m 35 #[vi (0 : Int32), vi p1, vi p2, vi p3, vi p4] [xj ((own_h p1 (0 : Int32)) + (0 : Int64))]) _
    refine XS.iload X2.here hx rfl (hb hby d8_35) rfl ?_
    show own_S p e below T2 (mkF m 37 #[vi (0 : Int32), vi p1, vi p2, vi p3, vi p4] [xi p4, xj ((own_h p1 (0 : Int32)) + (0 : Int64))]) _
    refine XS.iconst X2.here hx rfl (hb hby d8_37) ?_
    show own_S p e below T2 (mkF m 38 #[vi (0 : Int32), vi p1, vi p2, vi p3, vi p4] [xi (4 : Int32), xi p4, xj ((own_h p1 (0 : Int32)) + (0 : Int64))]) _
    refine XS.iand X2.here hx rfl (hb hby d8_38) rfl ?_
    show own_S p e below T2 (mkF m 39 #[vi (0 : Int32), vi p1, vi p2, vi p3, vi p4] [xi (p4 &&& (4 : Int32)), xj ((own_h p1 (0 : Int32)) + (0 : Int64))]) _
    refine castTop (show (mkF m 39 #[vi (0 : Int32), vi p1, vi p2, vi p3, vi p4] [xi (p4 &&& (4 : Int32)), xj ((own_h p1 (0 : Int32)) + (0 : Int64))]) = (mkF m 39 #[vi (0 : Int32), vi p1, vi p2, vi p3, vi p4] [xi (0 : Int32), xj ((own_h p1 (0 : Int32)) + (0 : Int64))]) from by rw [as10]) ?_
    show own_S p e below T2 (mkF m 39 #[vi (0 : Int32), vi p1, vi p2, vi p3, vi p4] [xi (0 : Int32), xj ((own_h p1 (0 : Int32)) + (0 : Int64))]) _
    refine XS.ifYes X2.here hx rfl (pc0 := 39) (pc' := 46) rfl (hb hby d8_39) rfl (by decide) (by decide) (by decide) ?_
    show own_S p e below T2 (mkF m 46 #[vi (0 : Int32), vi p1, vi p2, vi p3, vi p4] [xj ((own_h p1 (0 : Int32)) + (0 : Int64))]) _
    refine XS.iconst X2.here hx rfl (hb hby d8_46) ?_
    show own_S p e below T2 (mkF m 47 #[vi (0 : Int32), vi p1, vi p2, vi p3, vi p4] [xi (0 : Int32), xj ((own_h p1 (0 : Int32)) + (0 : Int64))]) _
    refine XS.iloadN X2.here hx rfl (hb hby d8_47) rfl ?_
    show own_S p e below T2 (mkF m 48 #[vi (0 : Int32), vi p1, vi p2, vi p3, vi p4] [xi p3, xi (0 : Int32), xj ((own_h p1 (0 : Int32)) + (0 : Int64))]) _
    refine XS.iloadN X2.here hx rfl (hb hby d8_48) rfl ?_
    show own_S p e below T2 (mkF m 49 #[vi (0 : Int32), vi p1, vi p2, vi p3, vi p4] [xi (0 : Int32), xi p3, xi (0 : Int32), xj ((own_h p1 (0 : Int32)) + (0 : Int64))]) _
    refine st3 _ ?_
    show own_S p e below T3 (mkF m 52 #[vi (0 : Int32), vi p1, vi p2, vi p3, vi p4] [xj (0 : Int64), xj ((own_h p1 (0 : Int32)) + (0 : Int64))]) _
    refine XS.ladd X3.here hx rfl (hb hby d8_52) rfl ?_
    show own_S p e below T3 (mkF m 53 #[vi (0 : Int32), vi p1, vi p2, vi p3, vi p4] [xj (((own_h p1 (0 : Int32)) + (0 : Int64)) + (0 : Int64))]) _
    show own_S p e below T3 (mkF m 53 #[vi (0 : Int32), vi p1, vi p2, vi p3, vi p4] [xj (((own_h p1 (0 : Int32)) + (0 : Int64)) + (0 : Int64))]) _
    exact X3.lreturnOut hx Bd.returns (hb hby d8_53) hr
  · exact ⟨rfl, N3, e3⟩
theorem ef_own_c21_expected (m : MethodId) (u0 u1 u2 u3 u4 : Addr) (p1 : Int32) (p2 : Int32) (p3 : Int32) (p4 : Int32) : entryFrame m #[xi (1 : Int32), xi p1, xi p2, xi p3, xi p4] 5 = (mkF m 0 #[vi (1 : Int32), vi p1, vi p2, vi p3, vi p4] []) := by first | (simp [entryFrame, mkF, argsToLocals, Value.category]; done) | rfl
set_option maxRecDepth 65536 in
set_option maxHeartbeats 40000000 in
theorem own_c21_expected (l : Launch) (Z : State) (a0 : Array Value) (hw : ∀ d ∈ tables_1, d.before a0 Z = true) (u0 u1 u2 u3 u4 : Addr) (G : own_St Z u0 u1 u2 u3 u4) (p1 : Int32) (p2 : Int32) (p3 : Int32) (p4 : Int32) (as7 : (p4 &&& (1 : Int32)) = (1 : Int32)) (as8 : (p4 &&& (2 : Int32)) = (0 : Int32)) (as10 : (p4 &&& (4 : Int32)) = (0 : Int32)) (h0 : Heap) (n0 : Nat) (O0 : Old Z n0 h0) : own_Met l Z Y9 method_4_code 5 (some .long) ({ frames := 1, cells := 0, slots := 0, locals := 16 } : Room) #[xi (1 : Int32), xi p1, xi p2, xi p3, xi p4] h0 (own_QR (some (xj (((own_h p1 (1 : Int32)) + (0 : Int64)) + (0 : Int64)))) h0 n0) := by
  intro ws
  refine MetFree.of_bodySF (plainFor_of_name pn3) hisR ?_
  intro p e s m args below meth c s₁ Bd hml0 hP hK
  obtain ⟨rfl, hZ, hh⟩ := hP
  have hx := Bd.exec
  have hby := Bd.bytes
  have hml : c.maxLocals = 5 := hml0
  have hown : s.vm.findClass "com/example/feedwright/feedwright/LoadSummaryAddPinLaw" = some m.cls := findClass_of_methodNamed Bd.named
  have hnm := (name_of_methodNamed Bd.named Bd.method).1
  have X0 : Stand p l e ({ frames := 1, cells := 0, slots := 0, locals := 16 } : Room) s m #[xi (1 : Int32), xi p1, xi p2, xi p3, xi p4] below meth c s₁ [] 0 0 := Stand.of_body Bd
  have e0 : s₁.heap = h0 := by rw [← hh, Bd.state]; rfl
  have N0 := Fr.nil n0
  have pre0 : ∀ t, Steps p.tables e below (s₁.setTop (mkF m 0 #[vi (1 : Int32), vi p1, vi p2, vi p3, vi p4] [])) t → Steps p.tables e below (s₁.setTop (entryFrame m #[xi (1 : Int32), xi p1, xi p2, xi p3, xi p4] 5)) t := fun t st => castTop (ef_own_c21_expected m u0 u1 u2 u3 u4 p1 p2 p3 p4) st
  obtain ⟨_, _, ⟨T1, L1, k1, n1⟩, -, X1, ⟨Lc1, hQ1, l1, y1, z1⟩, st1⟩ := Jvm.LawKit.callS X0 hx (y := Y6) hown (mvT hZ (ww hw 61 rfl)) (mvT hZ (ww hw 62 rfl)) (mvT hZ (ww hw 2 rfl)) (mvT hZ (ww hw 63 rfl)) (by decide) (backOf (W := 0) (own_hit l Z a0 hw u0 u1 u2 u3 u4 G p1 (1 : Int32) h0 n0 O0 []) hZ (ww hw 63 rfl) (ww hw 2 rfl) (by decide) (by decide)) (g := (mkF m 14 #[vi (1 : Int32), vi p1, vi p2, vi p3, vi p4] [xi (1 : Int32), xi p1, xi (1 : Int32)])) rfl (by rw [hml]; rfl) (argsL := [xi (1 : Int32), xi p1, xi (1 : Int32)]) (rest := []) (lenOf pd5 rfl) rfl (by show 2 * 0 + _ ≤ _; exact Nat.le_of_eq rfl) (hb hby d8_14) (fun _ _ => ⟨rfl, e0, (by decide : 0 + 0 ≤ _), (by decide : 0 + 0 ≤ _)⟩)
  dsimp only [Pt.U, Pt.locs, Pt.cells, Pt.slots] at X1 l1 y1 z1 st1 hQ1
  subst l1 y1 z1
  obtain ⟨rfl, Nq1, e1⟩ := hQ1
  have N1 := Fr.app N0 Nq1
  obtain ⟨_, _, ⟨T2, L2, k2, n2⟩, -, X2, ⟨Lc2, hQ2, l2, y2, z2⟩, st2⟩ := Jvm.LawKit.callS X1 hx (y := Y6) hown (mvT hZ (ww hw 61 rfl)) (mvT hZ (ww hw 62 rfl)) (mvT hZ (ww hw 2 rfl)) (mvT hZ (ww hw 63 rfl)) (by decide) (backOf (W := 2) (own_hit_off l Z a0 hw u0 u1 u2 u3 u4 G p2 (1 : Int32) h0 n0 O0 []) hZ (ww hw 63 rfl) (ww hw 2 rfl) (by decide) (by decide)) (g := (mkF m 31 #[vi (1 : Int32), vi p1, vi p2, vi p3, vi p4] [xi (1 : Int32), xi p2, xi (0 : Int32), xj (own_h p1 (1 : Int32))])) rfl (by rw [hml]; rfl) (argsL := [xi (0 : Int32), xi p2, xi (1 : Int32)]) (rest := [xj (own_h p1 (1 : Int32))]) (lenOf pd5 rfl) rfl (by show 2 * 0 + _ ≤ _; exact Nat.le_of_eq rfl) (hb hby d8_31) (fun _ _ => ⟨rfl, e1, (by decide : 0 + 0 ≤ _), (by decide : 0 + 0 ≤ _)⟩)
  dsimp only [Pt.U, Pt.locs, Pt.cells, Pt.slots] at X2 l2 y2 z2 st2 hQ2
  subst l2 y2 z2
  obtain ⟨rfl, Nq2, e2⟩ := hQ2
  have N2 := Fr.app N1 Nq2
  obtain ⟨_, _, ⟨T3, L3, k3, n3⟩, -, X3, ⟨Lc3, hQ3, l3, y3, z3⟩, st3⟩ := Jvm.LawKit.callS X2 hx (y := Y6) hown (mvT hZ (ww hw 61 rfl)) (mvT hZ (ww hw 62 rfl)) (mvT hZ (ww hw 2 rfl)) (mvT hZ (ww hw 63 rfl)) (by decide) (backOf (W := 2) (own_hit_off l Z a0 hw u0 u1 u2 u3 u4 G p3 (1 : Int32) h0 n0 O0 []) hZ (ww hw 63 rfl) (ww hw 2 rfl) (by decide) (by decide)) (g := (mkF m 49 #[vi (1 : Int32), vi p1, vi p2, vi p3, vi p4] [xi (1 : Int32), xi p3, xi (0 : Int32), xj ((own_h p1 (1 : Int32)) + (0 : Int64))])) rfl (by rw [hml]; rfl) (argsL := [xi (0 : Int32), xi p3, xi (1 : Int32)]) (rest := [xj ((own_h p1 (1 : Int32)) + (0 : Int64))]) (lenOf pd5 rfl) rfl (by show 2 * 0 + _ ≤ _; exact Nat.le_of_eq rfl) (hb hby d8_49) (fun _ _ => ⟨rfl, e2, (by decide : 0 + 0 ≤ _), (by decide : 0 + 0 ≤ _)⟩)
  dsimp only [Pt.U, Pt.locs, Pt.cells, Pt.slots] at X3 l3 y3 z3 st3 hQ3
  subst l3 y3 z3
  obtain ⟨rfl, Nq3, e3⟩ := hQ3
  have N3 := Fr.app N2 Nq3
  obtain ⟨fs, hr, hrun, hended, hW, hsame⟩ := X3.leave (v := some (xj (((own_h p1 (1 : Int32)) + (0 : Int64)) + (0 : Int64)))) (fun h => by rw [Bd.returns] at h; cases h)
  refine ⟨_, _, pre0 _ ?_, hrun, hended, _, _, rfl, ?_, ⟨_, rfl⟩, hW, hsame.mono (by decide) (by decide)⟩
  · show own_S p e below s₁ (mkF m 0 #[vi (1 : Int32), vi p1, vi p2, vi p3, vi p4] []) _
    refine XS.iload X0.here hx rfl (hb hby d8_0) rfl ?_
    show own_S p e below s₁ (mkF m 2 #[vi (1 : Int32), vi p1, vi p2, vi p3, vi p4] [xi p4]) _
    refine XS.iconst X0.here hx rfl (hb hby d8_2) ?_
    show own_S p e below s₁ (mkF m 3 #[vi (1 : Int32), vi p1, vi p2, vi p3, vi p4] [xi (1 : Int32), xi p4]) _
    refine XS.iand X0.here hx rfl (hb hby d8_3) rfl ?_
    show own_S p e below s₁ (mkF m 4 #[vi (1 : Int32), vi p1, vi p2, vi p3, vi p4] [xi (p4 &&& (1 : Int32))]) _
    refine castTop (show (mkF m 4 #[vi (1 : Int32), vi p1, vi p2, vi p3, vi p4] [xi (p4 &&& (1 : Int32))]) = (mkF m 4 #[vi (1 : Int32), vi p1, vi p2, vi p3, vi p4] [xi (1 : Int32)]) from by rw [as7]) ?_
    show own_S p e below s₁ (mkF m 4 #[vi (1 : Int32), vi p1, vi p2, vi p3, vi p4] [xi (1 : Int32)]) _
    refine XS.ifNo X0.here hx rfl (hb hby d8_4) rfl (by decide) ?_
    show own_S p e below s₁ (mkF m 7 #[vi (1 : Int32), vi p1, vi p2, vi p3, vi p4] []) _
    refine XS.iconst X0.here hx rfl (hb hby d8_7) ?_
    show own_S p e below s₁ (mkF m 8 #[vi (1 : Int32), vi p1, vi p2, vi p3, vi p4] [xi (1 : Int32)]) _
    refine XS.goto X0.here hx rfl (pc0 := 8) (pc' := 12) rfl (hb hby d8_8) (by decide) (by decide) ?_
    show own_S p e below s₁ (mkF m 12 #[vi (1 : Int32), vi p1, vi p2, vi p3, vi p4] [xi (1 : Int32)]) _
    refine XS.iloadN X0.here hx rfl (hb hby d8_12) rfl ?_
    show own_S p e below s₁ (mkF m 13 #[vi (1 : Int32), vi p1, vi p2, vi p3, vi p4] [xi p1, xi (1 : Int32)]) _
    refine XS.iloadN X0.here hx rfl (hb hby d8_13) rfl ?_
    show own_S p e below s₁ (mkF m 14 #[vi (1 : Int32), vi p1, vi p2, vi p3, vi p4] [xi (1 : Int32), xi p1, xi (1 : Int32)]) _
    refine st1 _ ?_
    show own_S p e below T1 (mkF m 17 #[vi (1 : Int32), vi p1, vi p2, vi p3, vi p4] [xj (own_h p1 (1 : Int32))]) _
    refine XS.iload X1.here hx rfl (hb hby d8_17) rfl ?_
    show own_S p e below T1 (mkF m 19 #[vi (1 : Int32), vi p1, vi p2, vi p3, vi p4] [xi p4, xj (own_h p1 (1 : Int32))]) _
    refine XS.iconst X1.here hx rfl (hb hby d8_19) ?_
    show own_S p e below T1 (mkF m 20 #[vi (1 : Int32), vi p1, vi p2, vi p3, vi p4] [xi (2 : Int32), xi p4, xj (own_h p1 (1 : Int32))]) _
    refine XS.iand X1.here hx rfl (hb hby d8_20) rfl ?_
    show own_S p e below T1 (mkF m 21 #[vi (1 : Int32), vi p1, vi p2, vi p3, vi p4] [xi (p4 &&& (2 : Int32)), xj (own_h p1 (1 : Int32))]) _
    refine castTop (show (mkF m 21 #[vi (1 : Int32), vi p1, vi p2, vi p3, vi p4] [xi (p4 &&& (2 : Int32)), xj (own_h p1 (1 : Int32))]) = (mkF m 21 #[vi (1 : Int32), vi p1, vi p2, vi p3, vi p4] [xi (0 : Int32), xj (own_h p1 (1 : Int32))]) from by rw [as8]) ?_
    show own_S p e below T1 (mkF m 21 #[vi (1 : Int32), vi p1, vi p2, vi p3, vi p4] [xi (0 : Int32), xj (own_h p1 (1 : Int32))]) _
    refine XS.ifYes X1.here hx rfl (pc0 := 21) (pc' := 28) rfl (hb hby d8_21) rfl (by decide) (by decide) (by decide) ?_
    show own_S p e below T1 (mkF m 28 #[vi (1 : Int32), vi p1, vi p2, vi p3, vi p4] [xj (own_h p1 (1 : Int32))]) _
    refine XS.iconst X1.here hx rfl (hb hby d8_28) ?_
    show own_S p e below T1 (mkF m 29 #[vi (1 : Int32), vi p1, vi p2, vi p3, vi p4] [xi (0 : Int32), xj (own_h p1 (1 : Int32))]) _
    refine XS.iloadN X1.here hx rfl (hb hby d8_29) rfl ?_
    show own_S p e below T1 (mkF m 30 #[vi (1 : Int32), vi p1, vi p2, vi p3, vi p4] [xi p2, xi (0 : Int32), xj (own_h p1 (1 : Int32))]) _
    refine XS.iloadN X1.here hx rfl (hb hby d8_30) rfl ?_
    show own_S p e below T1 (mkF m 31 #[vi (1 : Int32), vi p1, vi p2, vi p3, vi p4] [xi (1 : Int32), xi p2, xi (0 : Int32), xj (own_h p1 (1 : Int32))]) _
    refine st2 _ ?_
    show own_S p e below T2 (mkF m 34 #[vi (1 : Int32), vi p1, vi p2, vi p3, vi p4] [xj (0 : Int64), xj (own_h p1 (1 : Int32))]) _
    refine XS.ladd X2.here hx rfl (hb hby d8_34) rfl ?_
    show own_S p e below T2 (mkF m 35 #[vi (1 : Int32), vi p1, vi p2, vi p3, vi p4] [xj ((own_h p1 (1 : Int32)) + (0 : Int64))]) _
    show own_S p e below T2 (mkF m 35 #[vi (1 : Int32), vi p1, vi p2, vi p3, vi p4] [xj ((own_h p1 (1 : Int32)) + (0 : Int64))]) _
    refine XS.iload X2.here hx rfl (hb hby d8_35) rfl ?_
    show own_S p e below T2 (mkF m 37 #[vi (1 : Int32), vi p1, vi p2, vi p3, vi p4] [xi p4, xj ((own_h p1 (1 : Int32)) + (0 : Int64))]) _
    refine XS.iconst X2.here hx rfl (hb hby d8_37) ?_
    show own_S p e below T2 (mkF m 38 #[vi (1 : Int32), vi p1, vi p2, vi p3, vi p4] [xi (4 : Int32), xi p4, xj ((own_h p1 (1 : Int32)) + (0 : Int64))]) _
    refine XS.iand X2.here hx rfl (hb hby d8_38) rfl ?_
    show own_S p e below T2 (mkF m 39 #[vi (1 : Int32), vi p1, vi p2, vi p3, vi p4] [xi (p4 &&& (4 : Int32)), xj ((own_h p1 (1 : Int32)) + (0 : Int64))]) _
    refine castTop (show (mkF m 39 #[vi (1 : Int32), vi p1, vi p2, vi p3, vi p4] [xi (p4 &&& (4 : Int32)), xj ((own_h p1 (1 : Int32)) + (0 : Int64))]) = (mkF m 39 #[vi (1 : Int32), vi p1, vi p2, vi p3, vi p4] [xi (0 : Int32), xj ((own_h p1 (1 : Int32)) + (0 : Int64))]) from by rw [as10]) ?_
    show own_S p e below T2 (mkF m 39 #[vi (1 : Int32), vi p1, vi p2, vi p3, vi p4] [xi (0 : Int32), xj ((own_h p1 (1 : Int32)) + (0 : Int64))]) _
    refine XS.ifYes X2.here hx rfl (pc0 := 39) (pc' := 46) rfl (hb hby d8_39) rfl (by decide) (by decide) (by decide) ?_
    show own_S p e below T2 (mkF m 46 #[vi (1 : Int32), vi p1, vi p2, vi p3, vi p4] [xj ((own_h p1 (1 : Int32)) + (0 : Int64))]) _
    refine XS.iconst X2.here hx rfl (hb hby d8_46) ?_
    show own_S p e below T2 (mkF m 47 #[vi (1 : Int32), vi p1, vi p2, vi p3, vi p4] [xi (0 : Int32), xj ((own_h p1 (1 : Int32)) + (0 : Int64))]) _
    refine XS.iloadN X2.here hx rfl (hb hby d8_47) rfl ?_
    show own_S p e below T2 (mkF m 48 #[vi (1 : Int32), vi p1, vi p2, vi p3, vi p4] [xi p3, xi (0 : Int32), xj ((own_h p1 (1 : Int32)) + (0 : Int64))]) _
    refine XS.iloadN X2.here hx rfl (hb hby d8_48) rfl ?_
    show own_S p e below T2 (mkF m 49 #[vi (1 : Int32), vi p1, vi p2, vi p3, vi p4] [xi (1 : Int32), xi p3, xi (0 : Int32), xj ((own_h p1 (1 : Int32)) + (0 : Int64))]) _
    refine st3 _ ?_
    show own_S p e below T3 (mkF m 52 #[vi (1 : Int32), vi p1, vi p2, vi p3, vi p4] [xj (0 : Int64), xj ((own_h p1 (1 : Int32)) + (0 : Int64))]) _
    refine XS.ladd X3.here hx rfl (hb hby d8_52) rfl ?_
    show own_S p e below T3 (mkF m 53 #[vi (1 : Int32), vi p1, vi p2, vi p3, vi p4] [xj (((own_h p1 (1 : Int32)) + (0 : Int64)) + (0 : Int64))]) _
    show own_S p e below T3 (mkF m 53 #[vi (1 : Int32), vi p1, vi p2, vi p3, vi p4] [xj (((own_h p1 (1 : Int32)) + (0 : Int64)) + (0 : Int64))]) _
    exact X3.lreturnOut hx Bd.returns (hb hby d8_53) hr
  · exact ⟨rfl, N3, e3⟩
theorem ef_own_c22_expected (m : MethodId) (u0 u1 u2 u3 u4 : Addr) (p1 : Int32) (p2 : Int32) (p3 : Int32) (p4 : Int32) : entryFrame m #[xi (2 : Int32), xi p1, xi p2, xi p3, xi p4] 5 = (mkF m 0 #[vi (2 : Int32), vi p1, vi p2, vi p3, vi p4] []) := by first | (simp [entryFrame, mkF, argsToLocals, Value.category]; done) | rfl
set_option maxRecDepth 65536 in
set_option maxHeartbeats 40000000 in
theorem own_c22_expected (l : Launch) (Z : State) (a0 : Array Value) (hw : ∀ d ∈ tables_1, d.before a0 Z = true) (u0 u1 u2 u3 u4 : Addr) (G : own_St Z u0 u1 u2 u3 u4) (p1 : Int32) (p2 : Int32) (p3 : Int32) (p4 : Int32) (as7 : (p4 &&& (1 : Int32)) = (1 : Int32)) (as8 : (p4 &&& (2 : Int32)) = (0 : Int32)) (as10 : (p4 &&& (4 : Int32)) = (0 : Int32)) (h0 : Heap) (n0 : Nat) (O0 : Old Z n0 h0) : own_Met l Z Y9 method_4_code 5 (some .long) ({ frames := 1, cells := 0, slots := 0, locals := 16 } : Room) #[xi (2 : Int32), xi p1, xi p2, xi p3, xi p4] h0 (own_QR (some (xj (((own_h p1 (2 : Int32)) + (0 : Int64)) + (0 : Int64)))) h0 n0) := by
  intro ws
  refine MetFree.of_bodySF (plainFor_of_name pn3) hisR ?_
  intro p e s m args below meth c s₁ Bd hml0 hP hK
  obtain ⟨rfl, hZ, hh⟩ := hP
  have hx := Bd.exec
  have hby := Bd.bytes
  have hml : c.maxLocals = 5 := hml0
  have hown : s.vm.findClass "com/example/feedwright/feedwright/LoadSummaryAddPinLaw" = some m.cls := findClass_of_methodNamed Bd.named
  have hnm := (name_of_methodNamed Bd.named Bd.method).1
  have X0 : Stand p l e ({ frames := 1, cells := 0, slots := 0, locals := 16 } : Room) s m #[xi (2 : Int32), xi p1, xi p2, xi p3, xi p4] below meth c s₁ [] 0 0 := Stand.of_body Bd
  have e0 : s₁.heap = h0 := by rw [← hh, Bd.state]; rfl
  have N0 := Fr.nil n0
  have pre0 : ∀ t, Steps p.tables e below (s₁.setTop (mkF m 0 #[vi (2 : Int32), vi p1, vi p2, vi p3, vi p4] [])) t → Steps p.tables e below (s₁.setTop (entryFrame m #[xi (2 : Int32), xi p1, xi p2, xi p3, xi p4] 5)) t := fun t st => castTop (ef_own_c22_expected m u0 u1 u2 u3 u4 p1 p2 p3 p4) st
  obtain ⟨_, _, ⟨T1, L1, k1, n1⟩, -, X1, ⟨Lc1, hQ1, l1, y1, z1⟩, st1⟩ := Jvm.LawKit.callS X0 hx (y := Y6) hown (mvT hZ (ww hw 61 rfl)) (mvT hZ (ww hw 62 rfl)) (mvT hZ (ww hw 2 rfl)) (mvT hZ (ww hw 63 rfl)) (by decide) (backOf (W := 0) (own_hit l Z a0 hw u0 u1 u2 u3 u4 G p1 (2 : Int32) h0 n0 O0 []) hZ (ww hw 63 rfl) (ww hw 2 rfl) (by decide) (by decide)) (g := (mkF m 14 #[vi (2 : Int32), vi p1, vi p2, vi p3, vi p4] [xi (2 : Int32), xi p1, xi (1 : Int32)])) rfl (by rw [hml]; rfl) (argsL := [xi (1 : Int32), xi p1, xi (2 : Int32)]) (rest := []) (lenOf pd5 rfl) rfl (by show 2 * 0 + _ ≤ _; exact Nat.le_of_eq rfl) (hb hby d8_14) (fun _ _ => ⟨rfl, e0, (by decide : 0 + 0 ≤ _), (by decide : 0 + 0 ≤ _)⟩)
  dsimp only [Pt.U, Pt.locs, Pt.cells, Pt.slots] at X1 l1 y1 z1 st1 hQ1
  subst l1 y1 z1
  obtain ⟨rfl, Nq1, e1⟩ := hQ1
  have N1 := Fr.app N0 Nq1
  obtain ⟨_, _, ⟨T2, L2, k2, n2⟩, -, X2, ⟨Lc2, hQ2, l2, y2, z2⟩, st2⟩ := Jvm.LawKit.callS X1 hx (y := Y6) hown (mvT hZ (ww hw 61 rfl)) (mvT hZ (ww hw 62 rfl)) (mvT hZ (ww hw 2 rfl)) (mvT hZ (ww hw 63 rfl)) (by decide) (backOf (W := 2) (own_hit_off l Z a0 hw u0 u1 u2 u3 u4 G p2 (2 : Int32) h0 n0 O0 []) hZ (ww hw 63 rfl) (ww hw 2 rfl) (by decide) (by decide)) (g := (mkF m 31 #[vi (2 : Int32), vi p1, vi p2, vi p3, vi p4] [xi (2 : Int32), xi p2, xi (0 : Int32), xj (own_h p1 (2 : Int32))])) rfl (by rw [hml]; rfl) (argsL := [xi (0 : Int32), xi p2, xi (2 : Int32)]) (rest := [xj (own_h p1 (2 : Int32))]) (lenOf pd5 rfl) rfl (by show 2 * 0 + _ ≤ _; exact Nat.le_of_eq rfl) (hb hby d8_31) (fun _ _ => ⟨rfl, e1, (by decide : 0 + 0 ≤ _), (by decide : 0 + 0 ≤ _)⟩)
  dsimp only [Pt.U, Pt.locs, Pt.cells, Pt.slots] at X2 l2 y2 z2 st2 hQ2
  subst l2 y2 z2
  obtain ⟨rfl, Nq2, e2⟩ := hQ2
  have N2 := Fr.app N1 Nq2
  obtain ⟨_, _, ⟨T3, L3, k3, n3⟩, -, X3, ⟨Lc3, hQ3, l3, y3, z3⟩, st3⟩ := Jvm.LawKit.callS X2 hx (y := Y6) hown (mvT hZ (ww hw 61 rfl)) (mvT hZ (ww hw 62 rfl)) (mvT hZ (ww hw 2 rfl)) (mvT hZ (ww hw 63 rfl)) (by decide) (backOf (W := 2) (own_hit_off l Z a0 hw u0 u1 u2 u3 u4 G p3 (2 : Int32) h0 n0 O0 []) hZ (ww hw 63 rfl) (ww hw 2 rfl) (by decide) (by decide)) (g := (mkF m 49 #[vi (2 : Int32), vi p1, vi p2, vi p3, vi p4] [xi (2 : Int32), xi p3, xi (0 : Int32), xj ((own_h p1 (2 : Int32)) + (0 : Int64))])) rfl (by rw [hml]; rfl) (argsL := [xi (0 : Int32), xi p3, xi (2 : Int32)]) (rest := [xj ((own_h p1 (2 : Int32)) + (0 : Int64))]) (lenOf pd5 rfl) rfl (by show 2 * 0 + _ ≤ _; exact Nat.le_of_eq rfl) (hb hby d8_49) (fun _ _ => ⟨rfl, e2, (by decide : 0 + 0 ≤ _), (by decide : 0 + 0 ≤ _)⟩)
  dsimp only [Pt.U, Pt.locs, Pt.cells, Pt.slots] at X3 l3 y3 z3 st3 hQ3
  subst l3 y3 z3
  obtain ⟨rfl, Nq3, e3⟩ := hQ3
  have N3 := Fr.app N2 Nq3
  obtain ⟨fs, hr, hrun, hended, hW, hsame⟩ := X3.leave (v := some (xj (((own_h p1 (2 : Int32)) + (0 : Int64)) + (0 : Int64)))) (fun h => by rw [Bd.returns] at h; cases h)
  refine ⟨_, _, pre0 _ ?_, hrun, hended, _, _, rfl, ?_, ⟨_, rfl⟩, hW, hsame.mono (by decide) (by decide)⟩
  · show own_S p e below s₁ (mkF m 0 #[vi (2 : Int32), vi p1, vi p2, vi p3, vi p4] []) _
    refine XS.iload X0.here hx rfl (hb hby d8_0) rfl ?_
    show own_S p e below s₁ (mkF m 2 #[vi (2 : Int32), vi p1, vi p2, vi p3, vi p4] [xi p4]) _
    refine XS.iconst X0.here hx rfl (hb hby d8_2) ?_
    show own_S p e below s₁ (mkF m 3 #[vi (2 : Int32), vi p1, vi p2, vi p3, vi p4] [xi (1 : Int32), xi p4]) _
    refine XS.iand X0.here hx rfl (hb hby d8_3) rfl ?_
    show own_S p e below s₁ (mkF m 4 #[vi (2 : Int32), vi p1, vi p2, vi p3, vi p4] [xi (p4 &&& (1 : Int32))]) _
    refine castTop (show (mkF m 4 #[vi (2 : Int32), vi p1, vi p2, vi p3, vi p4] [xi (p4 &&& (1 : Int32))]) = (mkF m 4 #[vi (2 : Int32), vi p1, vi p2, vi p3, vi p4] [xi (1 : Int32)]) from by rw [as7]) ?_
    show own_S p e below s₁ (mkF m 4 #[vi (2 : Int32), vi p1, vi p2, vi p3, vi p4] [xi (1 : Int32)]) _
    refine XS.ifNo X0.here hx rfl (hb hby d8_4) rfl (by decide) ?_
    show own_S p e below s₁ (mkF m 7 #[vi (2 : Int32), vi p1, vi p2, vi p3, vi p4] []) _
    refine XS.iconst X0.here hx rfl (hb hby d8_7) ?_
    show own_S p e below s₁ (mkF m 8 #[vi (2 : Int32), vi p1, vi p2, vi p3, vi p4] [xi (1 : Int32)]) _
    refine XS.goto X0.here hx rfl (pc0 := 8) (pc' := 12) rfl (hb hby d8_8) (by decide) (by decide) ?_
    show own_S p e below s₁ (mkF m 12 #[vi (2 : Int32), vi p1, vi p2, vi p3, vi p4] [xi (1 : Int32)]) _
    refine XS.iloadN X0.here hx rfl (hb hby d8_12) rfl ?_
    show own_S p e below s₁ (mkF m 13 #[vi (2 : Int32), vi p1, vi p2, vi p3, vi p4] [xi p1, xi (1 : Int32)]) _
    refine XS.iloadN X0.here hx rfl (hb hby d8_13) rfl ?_
    show own_S p e below s₁ (mkF m 14 #[vi (2 : Int32), vi p1, vi p2, vi p3, vi p4] [xi (2 : Int32), xi p1, xi (1 : Int32)]) _
    refine st1 _ ?_
    show own_S p e below T1 (mkF m 17 #[vi (2 : Int32), vi p1, vi p2, vi p3, vi p4] [xj (own_h p1 (2 : Int32))]) _
    refine XS.iload X1.here hx rfl (hb hby d8_17) rfl ?_
    show own_S p e below T1 (mkF m 19 #[vi (2 : Int32), vi p1, vi p2, vi p3, vi p4] [xi p4, xj (own_h p1 (2 : Int32))]) _
    refine XS.iconst X1.here hx rfl (hb hby d8_19) ?_
    show own_S p e below T1 (mkF m 20 #[vi (2 : Int32), vi p1, vi p2, vi p3, vi p4] [xi (2 : Int32), xi p4, xj (own_h p1 (2 : Int32))]) _
    refine XS.iand X1.here hx rfl (hb hby d8_20) rfl ?_
    show own_S p e below T1 (mkF m 21 #[vi (2 : Int32), vi p1, vi p2, vi p3, vi p4] [xi (p4 &&& (2 : Int32)), xj (own_h p1 (2 : Int32))]) _
    refine castTop (show (mkF m 21 #[vi (2 : Int32), vi p1, vi p2, vi p3, vi p4] [xi (p4 &&& (2 : Int32)), xj (own_h p1 (2 : Int32))]) = (mkF m 21 #[vi (2 : Int32), vi p1, vi p2, vi p3, vi p4] [xi (0 : Int32), xj (own_h p1 (2 : Int32))]) from by rw [as8]) ?_
    show own_S p e below T1 (mkF m 21 #[vi (2 : Int32), vi p1, vi p2, vi p3, vi p4] [xi (0 : Int32), xj (own_h p1 (2 : Int32))]) _
    refine XS.ifYes X1.here hx rfl (pc0 := 21) (pc' := 28) rfl (hb hby d8_21) rfl (by decide) (by decide) (by decide) ?_
    show own_S p e below T1 (mkF m 28 #[vi (2 : Int32), vi p1, vi p2, vi p3, vi p4] [xj (own_h p1 (2 : Int32))]) _
    refine XS.iconst X1.here hx rfl (hb hby d8_28) ?_
    show own_S p e below T1 (mkF m 29 #[vi (2 : Int32), vi p1, vi p2, vi p3, vi p4] [xi (0 : Int32), xj (own_h p1 (2 : Int32))]) _
    refine XS.iloadN X1.here hx rfl (hb hby d8_29) rfl ?_
    show own_S p e below T1 (mkF m 30 #[vi (2 : Int32), vi p1, vi p2, vi p3, vi p4] [xi p2, xi (0 : Int32), xj (own_h p1 (2 : Int32))]) _
    refine XS.iloadN X1.here hx rfl (hb hby d8_30) rfl ?_
    show own_S p e below T1 (mkF m 31 #[vi (2 : Int32), vi p1, vi p2, vi p3, vi p4] [xi (2 : Int32), xi p2, xi (0 : Int32), xj (own_h p1 (2 : Int32))]) _
    refine st2 _ ?_
    show own_S p e below T2 (mkF m 34 #[vi (2 : Int32), vi p1, vi p2, vi p3, vi p4] [xj (0 : Int64), xj (own_h p1 (2 : Int32))]) _
    refine XS.ladd X2.here hx rfl (hb hby d8_34) rfl ?_
    show own_S p e below T2 (mkF m 35 #[vi (2 : Int32), vi p1, vi p2, vi p3, vi p4] [xj ((own_h p1 (2 : Int32)) + (0 : Int64))]) _
    show own_S p e below T2 (mkF m 35 #[vi (2 : Int32), vi p1, vi p2, vi p3, vi p4] [xj ((own_h p1 (2 : Int32)) + (0 : Int64))]) _
    refine XS.iload X2.here hx rfl (hb hby d8_35) rfl ?_
    show own_S p e below T2 (mkF m 37 #[vi (2 : Int32), vi p1, vi p2, vi p3, vi p4] [xi p4, xj ((own_h p1 (2 : Int32)) + (0 : Int64))]) _
    refine XS.iconst X2.here hx rfl (hb hby d8_37) ?_
    show own_S p e below T2 (mkF m 38 #[vi (2 : Int32), vi p1, vi p2, vi p3, vi p4] [xi (4 : Int32), xi p4, xj ((own_h p1 (2 : Int32)) + (0 : Int64))]) _
    refine XS.iand X2.here hx rfl (hb hby d8_38) rfl ?_
    show own_S p e below T2 (mkF m 39 #[vi (2 : Int32), vi p1, vi p2, vi p3, vi p4] [xi (p4 &&& (4 : Int32)), xj ((own_h p1 (2 : Int32)) + (0 : Int64))]) _
    refine castTop (show (mkF m 39 #[vi (2 : Int32), vi p1, vi p2, vi p3, vi p4] [xi (p4 &&& (4 : Int32)), xj ((own_h p1 (2 : Int32)) + (0 : Int64))]) = (mkF m 39 #[vi (2 : Int32), vi p1, vi p2, vi p3, vi p4] [xi (0 : Int32), xj ((own_h p1 (2 : Int32)) + (0 : Int64))]) from by rw [as10]) ?_
    show own_S p e below T2 (mkF m 39 #[vi (2 : Int32), vi p1, vi p2, vi p3, vi p4] [xi (0 : Int32), xj ((own_h p1 (2 : Int32)) + (0 : Int64))]) _
    refine XS.ifYes X2.here hx rfl (pc0 := 39) (pc' := 46) rfl (hb hby d8_39) rfl (by decide) (by decide) (by decide) ?_
    show own_S p e below T2 (mkF m 46 #[vi (2 : Int32), vi p1, vi p2, vi p3, vi p4] [xj ((own_h p1 (2 : Int32)) + (0 : Int64))]) _
    refine XS.iconst X2.here hx rfl (hb hby d8_46) ?_
    show own_S p e below T2 (mkF m 47 #[vi (2 : Int32), vi p1, vi p2, vi p3, vi p4] [xi (0 : Int32), xj ((own_h p1 (2 : Int32)) + (0 : Int64))]) _
    refine XS.iloadN X2.here hx rfl (hb hby d8_47) rfl ?_
    show own_S p e below T2 (mkF m 48 #[vi (2 : Int32), vi p1, vi p2, vi p3, vi p4] [xi p3, xi (0 : Int32), xj ((own_h p1 (2 : Int32)) + (0 : Int64))]) _
    refine XS.iloadN X2.here hx rfl (hb hby d8_48) rfl ?_
    show own_S p e below T2 (mkF m 49 #[vi (2 : Int32), vi p1, vi p2, vi p3, vi p4] [xi (2 : Int32), xi p3, xi (0 : Int32), xj ((own_h p1 (2 : Int32)) + (0 : Int64))]) _
    refine st3 _ ?_
    show own_S p e below T3 (mkF m 52 #[vi (2 : Int32), vi p1, vi p2, vi p3, vi p4] [xj (0 : Int64), xj ((own_h p1 (2 : Int32)) + (0 : Int64))]) _
    refine XS.ladd X3.here hx rfl (hb hby d8_52) rfl ?_
    show own_S p e below T3 (mkF m 53 #[vi (2 : Int32), vi p1, vi p2, vi p3, vi p4] [xj (((own_h p1 (2 : Int32)) + (0 : Int64)) + (0 : Int64))]) _
    show own_S p e below T3 (mkF m 53 #[vi (2 : Int32), vi p1, vi p2, vi p3, vi p4] [xj (((own_h p1 (2 : Int32)) + (0 : Int64)) + (0 : Int64))]) _
    exact X3.lreturnOut hx Bd.returns (hb hby d8_53) hr
  · exact ⟨rfl, N3, e3⟩
theorem ef_own_c23_expected (m : MethodId) (u0 u1 u2 u3 u4 : Addr) (p1 : Int32) (p2 : Int32) (p3 : Int32) (p4 : Int32) : entryFrame m #[xi (3 : Int32), xi p1, xi p2, xi p3, xi p4] 5 = (mkF m 0 #[vi (3 : Int32), vi p1, vi p2, vi p3, vi p4] []) := by first | (simp [entryFrame, mkF, argsToLocals, Value.category]; done) | rfl
set_option maxRecDepth 65536 in
set_option maxHeartbeats 40000000 in
theorem own_c23_expected (l : Launch) (Z : State) (a0 : Array Value) (hw : ∀ d ∈ tables_1, d.before a0 Z = true) (u0 u1 u2 u3 u4 : Addr) (G : own_St Z u0 u1 u2 u3 u4) (p1 : Int32) (p2 : Int32) (p3 : Int32) (p4 : Int32) (as7 : (p4 &&& (1 : Int32)) = (1 : Int32)) (as8 : (p4 &&& (2 : Int32)) = (0 : Int32)) (as10 : (p4 &&& (4 : Int32)) = (0 : Int32)) (h0 : Heap) (n0 : Nat) (O0 : Old Z n0 h0) : own_Met l Z Y9 method_4_code 5 (some .long) ({ frames := 1, cells := 0, slots := 0, locals := 16 } : Room) #[xi (3 : Int32), xi p1, xi p2, xi p3, xi p4] h0 (own_QR (some (xj (((own_h p1 (3 : Int32)) + (0 : Int64)) + (0 : Int64)))) h0 n0) := by
  intro ws
  refine MetFree.of_bodySF (plainFor_of_name pn3) hisR ?_
  intro p e s m args below meth c s₁ Bd hml0 hP hK
  obtain ⟨rfl, hZ, hh⟩ := hP
  have hx := Bd.exec
  have hby := Bd.bytes
  have hml : c.maxLocals = 5 := hml0
  have hown : s.vm.findClass "com/example/feedwright/feedwright/LoadSummaryAddPinLaw" = some m.cls := findClass_of_methodNamed Bd.named
  have hnm := (name_of_methodNamed Bd.named Bd.method).1
  have X0 : Stand p l e ({ frames := 1, cells := 0, slots := 0, locals := 16 } : Room) s m #[xi (3 : Int32), xi p1, xi p2, xi p3, xi p4] below meth c s₁ [] 0 0 := Stand.of_body Bd
  have e0 : s₁.heap = h0 := by rw [← hh, Bd.state]; rfl
  have N0 := Fr.nil n0
  have pre0 : ∀ t, Steps p.tables e below (s₁.setTop (mkF m 0 #[vi (3 : Int32), vi p1, vi p2, vi p3, vi p4] [])) t → Steps p.tables e below (s₁.setTop (entryFrame m #[xi (3 : Int32), xi p1, xi p2, xi p3, xi p4] 5)) t := fun t st => castTop (ef_own_c23_expected m u0 u1 u2 u3 u4 p1 p2 p3 p4) st
  obtain ⟨_, _, ⟨T1, L1, k1, n1⟩, -, X1, ⟨Lc1, hQ1, l1, y1, z1⟩, st1⟩ := Jvm.LawKit.callS X0 hx (y := Y6) hown (mvT hZ (ww hw 61 rfl)) (mvT hZ (ww hw 62 rfl)) (mvT hZ (ww hw 2 rfl)) (mvT hZ (ww hw 63 rfl)) (by decide) (backOf (W := 0) (own_hit l Z a0 hw u0 u1 u2 u3 u4 G p1 (3 : Int32) h0 n0 O0 []) hZ (ww hw 63 rfl) (ww hw 2 rfl) (by decide) (by decide)) (g := (mkF m 14 #[vi (3 : Int32), vi p1, vi p2, vi p3, vi p4] [xi (3 : Int32), xi p1, xi (1 : Int32)])) rfl (by rw [hml]; rfl) (argsL := [xi (1 : Int32), xi p1, xi (3 : Int32)]) (rest := []) (lenOf pd5 rfl) rfl (by show 2 * 0 + _ ≤ _; exact Nat.le_of_eq rfl) (hb hby d8_14) (fun _ _ => ⟨rfl, e0, (by decide : 0 + 0 ≤ _), (by decide : 0 + 0 ≤ _)⟩)
  dsimp only [Pt.U, Pt.locs, Pt.cells, Pt.slots] at X1 l1 y1 z1 st1 hQ1
  subst l1 y1 z1
  obtain ⟨rfl, Nq1, e1⟩ := hQ1
  have N1 := Fr.app N0 Nq1
  obtain ⟨_, _, ⟨T2, L2, k2, n2⟩, -, X2, ⟨Lc2, hQ2, l2, y2, z2⟩, st2⟩ := Jvm.LawKit.callS X1 hx (y := Y6) hown (mvT hZ (ww hw 61 rfl)) (mvT hZ (ww hw 62 rfl)) (mvT hZ (ww hw 2 rfl)) (mvT hZ (ww hw 63 rfl)) (by decide) (backOf (W := 2) (own_hit_off l Z a0 hw u0 u1 u2 u3 u4 G p2 (3 : Int32) h0 n0 O0 []) hZ (ww hw 63 rfl) (ww hw 2 rfl) (by decide) (by decide)) (g := (mkF m 31 #[vi (3 : Int32), vi p1, vi p2, vi p3, vi p4] [xi (3 : Int32), xi p2, xi (0 : Int32), xj (own_h p1 (3 : Int32))])) rfl (by rw [hml]; rfl) (argsL := [xi (0 : Int32), xi p2, xi (3 : Int32)]) (rest := [xj (own_h p1 (3 : Int32))]) (lenOf pd5 rfl) rfl (by show 2 * 0 + _ ≤ _; exact Nat.le_of_eq rfl) (hb hby d8_31) (fun _ _ => ⟨rfl, e1, (by decide : 0 + 0 ≤ _), (by decide : 0 + 0 ≤ _)⟩)
  dsimp only [Pt.U, Pt.locs, Pt.cells, Pt.slots] at X2 l2 y2 z2 st2 hQ2
  subst l2 y2 z2
  obtain ⟨rfl, Nq2, e2⟩ := hQ2
  have N2 := Fr.app N1 Nq2
  obtain ⟨_, _, ⟨T3, L3, k3, n3⟩, -, X3, ⟨Lc3, hQ3, l3, y3, z3⟩, st3⟩ := Jvm.LawKit.callS X2 hx (y := Y6) hown (mvT hZ (ww hw 61 rfl)) (mvT hZ (ww hw 62 rfl)) (mvT hZ (ww hw 2 rfl)) (mvT hZ (ww hw 63 rfl)) (by decide) (backOf (W := 2) (own_hit_off l Z a0 hw u0 u1 u2 u3 u4 G p3 (3 : Int32) h0 n0 O0 []) hZ (ww hw 63 rfl) (ww hw 2 rfl) (by decide) (by decide)) (g := (mkF m 49 #[vi (3 : Int32), vi p1, vi p2, vi p3, vi p4] [xi (3 : Int32), xi p3, xi (0 : Int32), xj ((own_h p1 (3 : Int32)) + (0 : Int64))])) rfl (by rw [hml]; rfl) (argsL := [xi (0 : Int32), xi p3, xi (3 : Int32)]) (rest := [xj ((own_h p1 (3 : Int32)) + (0 : Int64))]) (lenOf pd5 rfl) rfl (by show 2 * 0 + _ ≤ _; exact Nat.le_of_eq rfl) (hb hby d8_49) (fun _ _ => ⟨rfl, e2, (by decide : 0 + 0 ≤ _), (by decide : 0 + 0 ≤ _)⟩)
  dsimp only [Pt.U, Pt.locs, Pt.cells, Pt.slots] at X3 l3 y3 z3 st3 hQ3
  subst l3 y3 z3
  obtain ⟨rfl, Nq3, e3⟩ := hQ3
  have N3 := Fr.app N2 Nq3
  obtain ⟨fs, hr, hrun, hended, hW, hsame⟩ := X3.leave (v := some (xj (((own_h p1 (3 : Int32)) + (0 : Int64)) + (0 : Int64)))) (fun h => by rw [Bd.returns] at h; cases h)
  refine ⟨_, _, pre0 _ ?_, hrun, hended, _, _, rfl, ?_, ⟨_, rfl⟩, hW, hsame.mono (by decide) (by decide)⟩
  · show own_S p e below s₁ (mkF m 0 #[vi (3 : Int32), vi p1, vi p2, vi p3, vi p4] []) _
    refine XS.iload X0.here hx rfl (hb hby d8_0) rfl ?_
    show own_S p e below s₁ (mkF m 2 #[vi (3 : Int32), vi p1, vi p2, vi p3, vi p4] [xi p4]) _
    refine XS.iconst X0.here hx rfl (hb hby d8_2) ?_
    show own_S p e below s₁ (mkF m 3 #[vi (3 : Int32), vi p1, vi p2, vi p3, vi p4] [xi (1 : Int32), xi p4]) _
    refine XS.iand X0.here hx rfl (hb hby d8_3) rfl ?_
    show own_S p e below s₁ (mkF m 4 #[vi (3 : Int32), vi p1, vi p2, vi p3, vi p4] [xi (p4 &&& (1 : Int32))]) _
    refine castTop (show (mkF m 4 #[vi (3 : Int32), vi p1, vi p2, vi p3, vi p4] [xi (p4 &&& (1 : Int32))]) = (mkF m 4 #[vi (3 : Int32), vi p1, vi p2, vi p3, vi p4] [xi (1 : Int32)]) from by rw [as7]) ?_
    show own_S p e below s₁ (mkF m 4 #[vi (3 : Int32), vi p1, vi p2, vi p3, vi p4] [xi (1 : Int32)]) _
    refine XS.ifNo X0.here hx rfl (hb hby d8_4) rfl (by decide) ?_
    show own_S p e below s₁ (mkF m 7 #[vi (3 : Int32), vi p1, vi p2, vi p3, vi p4] []) _
    refine XS.iconst X0.here hx rfl (hb hby d8_7) ?_
    show own_S p e below s₁ (mkF m 8 #[vi (3 : Int32), vi p1, vi p2, vi p3, vi p4] [xi (1 : Int32)]) _
    refine XS.goto X0.here hx rfl (pc0 := 8) (pc' := 12) rfl (hb hby d8_8) (by decide) (by decide) ?_
    show own_S p e below s₁ (mkF m 12 #[vi (3 : Int32), vi p1, vi p2, vi p3, vi p4] [xi (1 : Int32)]) _
    refine XS.iloadN X0.here hx rfl (hb hby d8_12) rfl ?_
    show own_S p e below s₁ (mkF m 13 #[vi (3 : Int32), vi p1, vi p2, vi p3, vi p4] [xi p1, xi (1 : Int32)]) _
    refine XS.iloadN X0.here hx rfl (hb hby d8_13) rfl ?_
    show own_S p e below s₁ (mkF m 14 #[vi (3 : Int32), vi p1, vi p2, vi p3, vi p4] [xi (3 : Int32), xi p1, xi (1 : Int32)]) _
    refine st1 _ ?_
    show own_S p e below T1 (mkF m 17 #[vi (3 : Int32), vi p1, vi p2, vi p3, vi p4] [xj (own_h p1 (3 : Int32))]) _
    refine XS.iload X1.here hx rfl (hb hby d8_17) rfl ?_
    show own_S p e below T1 (mkF m 19 #[vi (3 : Int32), vi p1, vi p2, vi p3, vi p4] [xi p4, xj (own_h p1 (3 : Int32))]) _
    refine XS.iconst X1.here hx rfl (hb hby d8_19) ?_
    show own_S p e below T1 (mkF m 20 #[vi (3 : Int32), vi p1, vi p2, vi p3, vi p4] [xi (2 : Int32), xi p4, xj (own_h p1 (3 : Int32))]) _
    refine XS.iand X1.here hx rfl (hb hby d8_20) rfl ?_
    show own_S p e below T1 (mkF m 21 #[vi (3 : Int32), vi p1, vi p2, vi p3, vi p4] [xi (p4 &&& (2 : Int32)), xj (own_h p1 (3 : Int32))]) _
    refine castTop (show (mkF m 21 #[vi (3 : Int32), vi p1, vi p2, vi p3, vi p4] [xi (p4 &&& (2 : Int32)), xj (own_h p1 (3 : Int32))]) = (mkF m 21 #[vi (3 : Int32), vi p1, vi p2, vi p3, vi p4] [xi (0 : Int32), xj (own_h p1 (3 : Int32))]) from by rw [as8]) ?_
    show own_S p e below T1 (mkF m 21 #[vi (3 : Int32), vi p1, vi p2, vi p3, vi p4] [xi (0 : Int32), xj (own_h p1 (3 : Int32))]) _
    refine XS.ifYes X1.here hx rfl (pc0 := 21) (pc' := 28) rfl (hb hby d8_21) rfl (by decide) (by decide) (by decide) ?_
    show own_S p e below T1 (mkF m 28 #[vi (3 : Int32), vi p1, vi p2, vi p3, vi p4] [xj (own_h p1 (3 : Int32))]) _
    refine XS.iconst X1.here hx rfl (hb hby d8_28) ?_
    show own_S p e below T1 (mkF m 29 #[vi (3 : Int32), vi p1, vi p2, vi p3, vi p4] [xi (0 : Int32), xj (own_h p1 (3 : Int32))]) _
    refine XS.iloadN X1.here hx rfl (hb hby d8_29) rfl ?_
    show own_S p e below T1 (mkF m 30 #[vi (3 : Int32), vi p1, vi p2, vi p3, vi p4] [xi p2, xi (0 : Int32), xj (own_h p1 (3 : Int32))]) _
    refine XS.iloadN X1.here hx rfl (hb hby d8_30) rfl ?_
    show own_S p e below T1 (mkF m 31 #[vi (3 : Int32), vi p1, vi p2, vi p3, vi p4] [xi (3 : Int32), xi p2, xi (0 : Int32), xj (own_h p1 (3 : Int32))]) _
    refine st2 _ ?_
    show own_S p e below T2 (mkF m 34 #[vi (3 : Int32), vi p1, vi p2, vi p3, vi p4] [xj (0 : Int64), xj (own_h p1 (3 : Int32))]) _
    refine XS.ladd X2.here hx rfl (hb hby d8_34) rfl ?_
    show own_S p e below T2 (mkF m 35 #[vi (3 : Int32), vi p1, vi p2, vi p3, vi p4] [xj ((own_h p1 (3 : Int32)) + (0 : Int64))]) _
    show own_S p e below T2 (mkF m 35 #[vi (3 : Int32), vi p1, vi p2, vi p3, vi p4] [xj ((own_h p1 (3 : Int32)) + (0 : Int64))]) _
    refine XS.iload X2.here hx rfl (hb hby d8_35) rfl ?_
    show own_S p e below T2 (mkF m 37 #[vi (3 : Int32), vi p1, vi p2, vi p3, vi p4] [xi p4, xj ((own_h p1 (3 : Int32)) + (0 : Int64))]) _
    refine XS.iconst X2.here hx rfl (hb hby d8_37) ?_
    show own_S p e below T2 (mkF m 38 #[vi (3 : Int32), vi p1, vi p2, vi p3, vi p4] [xi (4 : Int32), xi p4, xj ((own_h p1 (3 : Int32)) + (0 : Int64))]) _
    refine XS.iand X2.here hx rfl (hb hby d8_38) rfl ?_
    show own_S p e below T2 (mkF m 39 #[vi (3 : Int32), vi p1, vi p2, vi p3, vi p4] [xi (p4 &&& (4 : Int32)), xj ((own_h p1 (3 : Int32)) + (0 : Int64))]) _
    refine castTop (show (mkF m 39 #[vi (3 : Int32), vi p1, vi p2, vi p3, vi p4] [xi (p4 &&& (4 : Int32)), xj ((own_h p1 (3 : Int32)) + (0 : Int64))]) = (mkF m 39 #[vi (3 : Int32), vi p1, vi p2, vi p3, vi p4] [xi (0 : Int32), xj ((own_h p1 (3 : Int32)) + (0 : Int64))]) from by rw [as10]) ?_
    show own_S p e below T2 (mkF m 39 #[vi (3 : Int32), vi p1, vi p2, vi p3, vi p4] [xi (0 : Int32), xj ((own_h p1 (3 : Int32)) + (0 : Int64))]) _
    refine XS.ifYes X2.here hx rfl (pc0 := 39) (pc' := 46) rfl (hb hby d8_39) rfl (by decide) (by decide) (by decide) ?_
    show own_S p e below T2 (mkF m 46 #[vi (3 : Int32), vi p1, vi p2, vi p3, vi p4] [xj ((own_h p1 (3 : Int32)) + (0 : Int64))]) _
    refine XS.iconst X2.here hx rfl (hb hby d8_46) ?_
    show own_S p e below T2 (mkF m 47 #[vi (3 : Int32), vi p1, vi p2, vi p3, vi p4] [xi (0 : Int32), xj ((own_h p1 (3 : Int32)) + (0 : Int64))]) _
    refine XS.iloadN X2.here hx rfl (hb hby d8_47) rfl ?_
    show own_S p e below T2 (mkF m 48 #[vi (3 : Int32), vi p1, vi p2, vi p3, vi p4] [xi p3, xi (0 : Int32), xj ((own_h p1 (3 : Int32)) + (0 : Int64))]) _
    refine XS.iloadN X2.here hx rfl (hb hby d8_48) rfl ?_
    show own_S p e below T2 (mkF m 49 #[vi (3 : Int32), vi p1, vi p2, vi p3, vi p4] [xi (3 : Int32), xi p3, xi (0 : Int32), xj ((own_h p1 (3 : Int32)) + (0 : Int64))]) _
    refine st3 _ ?_
    show own_S p e below T3 (mkF m 52 #[vi (3 : Int32), vi p1, vi p2, vi p3, vi p4] [xj (0 : Int64), xj ((own_h p1 (3 : Int32)) + (0 : Int64))]) _
    refine XS.ladd X3.here hx rfl (hb hby d8_52) rfl ?_
    show own_S p e below T3 (mkF m 53 #[vi (3 : Int32), vi p1, vi p2, vi p3, vi p4] [xj (((own_h p1 (3 : Int32)) + (0 : Int64)) + (0 : Int64))]) _
    show own_S p e below T3 (mkF m 53 #[vi (3 : Int32), vi p1, vi p2, vi p3, vi p4] [xj (((own_h p1 (3 : Int32)) + (0 : Int64)) + (0 : Int64))]) _
    exact X3.lreturnOut hx Bd.returns (hb hby d8_53) hr
  · exact ⟨rfl, N3, e3⟩
theorem ef_own_l4 (m : MethodId) (u0 u1 u2 u3 u4 : Addr) (p1 : Int32) (p2 : Int32) (p3 : Int32) (p4 : Int32) (va1 : Addr) (va2 : Addr) (va3 : Addr) : entryFrame m #[xi p1, xi p2, xi p3, xi p4] maxLocals = (mkF m 0 #[vi p1, vi p2, vi p3, vi p4, vu, vu, vu, vu, vu, vu, vu, vu, vu] []) := by first | (simp [entryFrame, mkF, argsToLocals, Value.category, maxLocals]; done) | rfl
set_option maxRecDepth 65536 in
set_option maxHeartbeats 40000000 in
theorem own_l4 (l : Launch) (Z : State) (a0 : Array Value) (hw : ∀ d ∈ tables_1, d.before a0 Z = true) (u0 u1 u2 u3 u4 : Addr) (G : own_St Z u0 u1 u2 u3 u4) (p1 : Int32) (p2 : Int32) (p3 : Int32) (p4 : Int32) (va1 : Addr) (va2 : Addr) (va3 : Addr) (as7 : (p4 &&& (1 : Int32)) = (1 : Int32)) (as8 : (p4 &&& (2 : Int32)) = (0 : Int32)) (as10 : (p4 &&& (4 : Int32)) = (0 : Int32)) (hv1 : own_is u0 u1 u2 u3 u4 p1 va1) (hv2 : own_is u0 u1 u2 u3 u4 p2 va2) (hv3 : own_is u0 u1 u2 u3 u4 p3 va3) (h0 : Heap) (n0 : Nat) (O0 : Old Z n0 h0) : own_Met l Z x code maxLocals ret room_1 #[xi p1, xi p2, xi p3, xi p4] h0 (own_QL (some (xi (1 : Int32))) n0) := by
  intro ws
  refine MetFree.of_bodySF (plainFor_of_name pn3) hisR ?_
  intro p e s m args below meth c s₁ Bd hml0 hP hK
  obtain ⟨rfl, hZ, hh⟩ := hP
  have hx := Bd.exec
  have hby := Bd.bytes
  have hml : c.maxLocals = 13 := hml0
  have hown : s.vm.findClass "com/example/feedwright/feedwright/LoadSummaryAddPinLaw" = some m.cls := findClass_of_methodNamed Bd.named
  have hnm := (name_of_methodNamed Bd.named Bd.method).1
  have X0 : Stand p l e room_1 s m #[xi p1, xi p2, xi p3, xi p4] below meth c s₁ [] 0 0 := Stand.of_body Bd
  have e0 : s₁.heap = h0 := by rw [← hh, Bd.state]; rfl
  have N0 := Fr.nil n0
  have pre0 : ∀ t, Steps p.tables e below (s₁.setTop (mkF m 0 #[vi p1, vi p2, vi p3, vi p4, vu, vu, vu, vu, vu, vu, vu, vu, vu] [])) t → Steps p.tables e below (s₁.setTop (entryFrame m #[xi p1, xi p2, xi p3, xi p4] maxLocals)) t := fun t st => castTop (ef_own_l4 m u0 u1 u2 u3 u4 p1 p2 p3 p4 va1 va2 va3) st
  obtain ⟨_, _, ⟨T1, L1, k1, n1⟩, -, X1, ⟨Lc1, hQ1, l1, y1, z1⟩, st1⟩ := Jvm.LawKit.callS X0 hx (y := Y5) hown (mvT hZ (ww hw 0 rfl)) (mvT hZ (ww hw 1 rfl)) (mvT hZ (ww hw 2 rfl)) (mvT hZ (ww hw 3 rfl)) (by decide) (backOf (W := 0) (own_pick l Z a0 hw u0 u1 u2 u3 u4 G p1 va1 hv1 h0 n0 O0 []) hZ (ww hw 3 rfl) (ww hw 2 rfl) (by decide) (by decide)) (g := (mkF m 40 #[vi p1, vi p2, vi p3, vi p4, vi (1 : Int32), vi (0 : Int32), vi (0 : Int32), vu, vu, vu, vu, vu, vu] [xi p1])) rfl (by rw [hml]; rfl) (argsL := [xi p1]) (rest := []) (lenOf pd2 rfl) rfl (by show 2 * 0 + _ ≤ _; exact Nat.le_of_eq rfl) (hb hby at_40) (fun _ _ => ⟨rfl, e0, (by decide : 0 + 0 ≤ _), (by decide : 0 + 0 ≤ _)⟩)
  dsimp only [Pt.U, Pt.locs, Pt.cells, Pt.slots] at X1 l1 y1 z1 st1 hQ1
  subst l1 y1 z1
  obtain ⟨rfl, Nq1, e1⟩ := hQ1
  have N1 := Fr.app N0 Nq1
  obtain ⟨_, _, ⟨T2, L2, k2, n2⟩, -, X2, ⟨Lc2, hQ2, l2, y2, z2⟩, st2⟩ := Jvm.LawKit.callS X1 hx (y := Y5) hown (mvT hZ (ww hw 0 rfl)) (mvT hZ (ww hw 1 rfl)) (mvT hZ (ww hw 2 rfl)) (mvT hZ (ww hw 3 rfl)) (by decide) (backOf (W := 0) (own_pick l Z a0 hw u0 u1 u2 u3 u4 G p2 va2 hv2 h0 n0 O0 []) hZ (ww hw 3 rfl) (ww hw 2 rfl) (by decide) (by decide)) (g := (mkF m 46 #[vi p1, vi p2, vi p3, vi p4, vi (1 : Int32), vi (0 : Int32), vi (0 : Int32), vr va1, vu, vu, vu, vu, vu] [xi p2])) rfl (by rw [hml]; rfl) (argsL := [xi p2]) (rest := []) (lenOf pd2 rfl) rfl (by show 2 * 0 + _ ≤ _; exact Nat.le_of_eq rfl) (hb hby at_46) (fun _ _ => ⟨rfl, e1, (by decide : 0 + 0 ≤ _), (by decide : 0 + 0 ≤ _)⟩)
  dsimp only [Pt.U, Pt.locs, Pt.cells, Pt.slots] at X2 l2 y2 z2 st2 hQ2
  subst l2 y2 z2
  obtain ⟨rfl, Nq2, e2⟩ := hQ2
  have N2 := Fr.app N1 Nq2
  obtain ⟨_, _, ⟨T3, L3, k3, n3⟩, -, X3, ⟨Lc3, hQ3, l3, y3, z3⟩, st3⟩ := Jvm.LawKit.callS X2 hx (y := Y5) hown (mvT hZ (ww hw 0 rfl)) (mvT hZ (ww hw 1 rfl)) (mvT hZ (ww hw 2 rfl)) (mvT hZ (ww hw 3 rfl)) (by decide) (backOf (W := 0) (own_pick l Z a0 hw u0 u1 u2 u3 u4 G p3 va3 hv3 h0 n0 O0 []) hZ (ww hw 3 rfl) (ww hw 2 rfl) (by decide) (by decide)) (g := (mkF m 52 #[vi p1, vi p2, vi p3, vi p4, vi (1 : Int32), vi (0 : Int32), vi (0 : Int32), vr va1, vr va2, vu, vu, vu, vu] [xi p3])) rfl (by rw [hml]; rfl) (argsL := [xi p3]) (rest := []) (lenOf pd2 rfl) rfl (by show 2 * 0 + _ ≤ _; exact Nat.le_of_eq rfl) (hb hby at_52) (fun _ _ => ⟨rfl, e2, (by decide : 0 + 0 ≤ _), (by decide : 0 + 0 ≤ _)⟩)
  dsimp only [Pt.U, Pt.locs, Pt.cells, Pt.slots] at X3 l3 y3 z3 st3 hQ3
  subst l3 y3 z3
  obtain ⟨rfl, Nq3, e3⟩ := hQ3
  have N3 := Fr.app N2 Nq3
  obtain ⟨T4, h4, X4, e4, E4, A4, D4, -, st4⟩ := newO X3 hx hZ hown (ww hw 11 rfl) (ww hw 12 rfl) (ww hw 13 rfl) e3 (g := (mkF m 57 #[vi p1, vi p2, vi p3, vi p4, vi (1 : Int32), vi (0 : Int32), vi (0 : Int32), vr va1, vr va2, vr va3, vu, vu, vu] [])) rfl (hb hby at_57) (by decide) (by decide)
  obtain ⟨b4, g4⟩ : ∃ z, z = h0.size := ⟨_, rfl⟩
  rw [← g4] at A4 D4 st4
  have g_b4 : n0 ≤ b4 := own_fresh O0 g4
  have O4 : Old Z n0 h4 := O0.ext E4
  have F_b4_counts : Fld Z h4 b4 "com/example/feedwright/feedwright/LoadSummary" "counts" "[J" .null := D4 (Or.inr (ww hw 38 rfl)) (ty := (.array .long)) (by decide)
  obtain ⟨_, _, ⟨T5, L5, k5, n5⟩, -, X5, ⟨Lc5, hQ5, l5, y5, z5⟩, st5⟩ := X4.specialBack hx (y := Y1) rfl hown (mvT hZ (ww hw 14 rfl)) (mvT hZ (ww hw 15 rfl)) (mvT hZ (ww hw 16 rfl)) (by decide) (backOf (W := 1) (own_init l Z a0 hw u0 u1 u2 u3 u4 G b4 h4 n0 O4 A4 F_b4_counts g_b4 []) hZ (ww hw 16 rfl) (ww hw 13 rfl) (by decide) (by decide)) (g := (mkF m 61 #[vi p1, vi p2, vi p3, vi p4, vi (1 : Int32), vi (0 : Int32), vi (0 : Int32), vr va1, vr va2, vr va3, vu, vu, vu] [xr b4, xr b4])) rfl (by rw [hml]; rfl) (Steps.refl _) (a := b4) (argsL := []) (rest := [xr b4]) (lenOf pd3 rfl) rfl (by show 2 * 0 + _ ≤ _; exact Nat.le_of_eq rfl) (hb hby at_61) (fun _ _ => ⟨rfl, e4, (by decide : 1 + 2 ≤ _), (by decide : 1 + 8 ≤ _)⟩)
  dsimp only [Pt.U, Pt.locs, Pt.cells, Pt.slots] at X5 l5 y5 z5 st5 hQ5
  subst l5 y5 z5
  obtain ⟨h5, e5⟩ : ∃ z, T5.heap = z := ⟨_, rfl⟩
  rw [e5] at hQ5
  obtain ⟨rfl, Nq5, K5, bb5, kk5, -, Fc5, Vb5, nb5, -, g_bb5⟩ := hQ5
  have N5 := Fr.app N3 Nq5
  have O5 : Old Z n0 h5 := O4.keep K5 (allS g_b4 all0)
  have X_b4_5 := A4.keep K5
  obtain ⟨cq6, kq6, qa6, qb6, qc6⟩ := isOf hZ e5 X_b4_5
  obtain ⟨_, _, ⟨T6, L6, k6, n6⟩, -, X6, ⟨Lc6, hQ6, l6, y6, z6⟩, st6⟩ := X5.virtualBack hx (y := Y4) (z := Y4) hown (mvT hZ (ww hw 39 rfl)) (mvT hZ (ww hw 40 rfl)) (notFace_of_selects (args := #[]) (mvT hZ (ww hw 42 rfl))) (mvT hZ (ww hw 42 rfl)) (mvT hZ (ww hw 41 rfl)) (by decide) (backOf (W := 0) (own_add l Z a0 hw u0 u1 u2 u3 u4 G b4 bb5 kk5 (0 : Int64) (0 : Int64) (0 : Int64) (0 : Int64) p1 va1 hv1 h5 n0 O5 ⟨X_b4_5, Fc5, Vb5, nb5, g_b4, g_bb5⟩ []) hZ (ww hw 43 rfl) (ww hw 13 rfl) (by decide) (by decide)) qa6 qc6 (g := (mkF m 75 #[vi p1, vi p2, vi p3, vi p4, vi (1 : Int32), vi (0 : Int32), vi (0 : Int32), vr va1, vr va2, vr va3, vr b4, vu, vu] [xr va1, xr b4])) rfl (by rw [hml]; rfl) (Steps.refl _) (argsL := [xr va1]) (rest := []) (lenOf pd8 rfl) rfl (by show 2 * 0 + _ ≤ _; exact Nat.le_of_eq rfl) (hb hby at_75) (fun _ _ => ⟨rfl, e5, (by decide : 3 + 0 ≤ _), (by decide : 9 + 0 ≤ _)⟩)
  dsimp only [Pt.U, Pt.locs, Pt.cells, Pt.slots] at X6 l6 y6 z6 st6 hQ6
  subst l6 y6 z6
  obtain ⟨h6, e6⟩ : ∃ z, T6.heap = z := ⟨_, rfl⟩
  rw [e6] at hQ6
  obtain ⟨rfl, Nq6, K6, -, -, Vn6, -⟩ := hQ6
  have N6 := Fr.app N5 Nq6
  have O6 : Old Z n0 h6 := O5.keep K6 (allS g_bb5 all0)
  have X_b4_6 := X_b4_5.keep K6
  have F_b4_counts_6 := Fc5.keep K6 (ninS nb5 nin0)
  obtain ⟨T7, X7, e7, st7⟩ := getS2 X6 hx hZ hown (host := "") (Or.inl (ww hw 4 rfl)) Via.refl e6 ((own_S_u0 G).ext O6.2) (g := (mkF m 138 #[vi p1, vi p2, vi p3, vi p4, vi (1 : Int32), vi (0 : Int32), vi (0 : Int32), vr va1, vr va2, vr va3, vr b4, vj (1 : Int64), .second] [xr b4])) rfl (hb hby at_138)
  obtain ⟨cq8, kq8, qa8, qb8, qc8⟩ := isOf hZ e7 X_b4_6
  obtain ⟨_, _, ⟨T8, L8, k8, n8⟩, -, X8, ⟨Lc8, hQ8, l8, y8, z8⟩, st8⟩ := X7.virtualBack hx (y := Y7) (z := Y7) hown (mvT hZ (ww hw 53 rfl)) (mvT hZ (ww hw 54 rfl)) (notFace_of_selects (args := #[]) (mvT hZ (ww hw 56 rfl))) (mvT hZ (ww hw 56 rfl)) (mvT hZ (ww hw 55 rfl)) (by decide) (backOf (W := 0) (own_count0 l Z a0 hw u0 u1 u2 u3 u4 G b4 bb5 kk5 ((0 : Int64) + own_h p1 0) ((0 : Int64) + own_h p1 1) ((0 : Int64) + own_h p1 2) ((0 : Int64) + own_h p1 3) h6 n0 O6 ⟨X_b4_6, F_b4_counts_6, Vn6, nb5, g_b4, g_bb5⟩ []) hZ (ww hw 57 rfl) (ww hw 13 rfl) (by decide) (by decide)) qa8 qc8 (g := (mkF m 141 #[vi p1, vi p2, vi p3, vi p4, vi (1 : Int32), vi (0 : Int32), vi (0 : Int32), vr va1, vr va2, vr va3, vr b4, vj (1 : Int64), .second] [xr u0, xr b4])) rfl (by rw [hml]; rfl) (Steps.refl _) (argsL := [xr u0]) (rest := []) (lenOf pd4 rfl) rfl (by show 2 * 0 + _ ≤ _; exact Nat.le_of_eq rfl) (hb hby at_141) (fun _ _ => ⟨rfl, e7, (by decide : 3 + 0 ≤ _), (by decide : 9 + 0 ≤ _)⟩)
  dsimp only [Pt.U, Pt.locs, Pt.cells, Pt.slots] at X8 l8 y8 z8 st8 hQ8
  subst l8 y8 z8
  obtain ⟨rfl, Nq8, e8⟩ := hQ8
  have N8 := Fr.app N6 Nq8
  obtain ⟨_, _, ⟨T9, L9, k9, n9⟩, -, X9, ⟨Lc9, hQ9, l9, y9, z9⟩, st9⟩ := Jvm.LawKit.callS X8 hx (y := Y9) hown (mvT hZ (ww hw 58 rfl)) (mvT hZ (ww hw 59 rfl)) (mvT hZ (ww hw 2 rfl)) (mvT hZ (ww hw 60 rfl)) (by decide) (backOf (W := 2) (own_c20_expected l Z a0 hw u0 u1 u2 u3 u4 G p1 p2 p3 p4 as7 as8 as10 h6 n0 O6 []) hZ (ww hw 60 rfl) (ww hw 2 rfl) (by decide) (by decide)) (g := (mkF m 149 #[vi p1, vi p2, vi p3, vi p4, vi (1 : Int32), vi (0 : Int32), vi (0 : Int32), vr va1, vr va2, vr va3, vr b4, vj (1 : Int64), .second] [xi p4, xi p3, xi p2, xi p1, xi (0 : Int32), xj ((0 : Int64) + own_h p1 0)])) rfl (by rw [hml]; rfl) (argsL := [xi (0 : Int32), xi p1, xi p2, xi p3, xi p4]) (rest := [xj ((0 : Int64) + own_h p1 0)]) (lenOf pd6 rfl) rfl (by show 2 * 0 + _ ≤ _; exact Nat.le_of_eq rfl) (hb hby at_149) (fun _ _ => ⟨rfl, e8, (by decide : 3 + 0 ≤ _), (by decide : 9 + 0 ≤ _)⟩)
  dsimp only [Pt.U, Pt.locs, Pt.cells, Pt.slots] at X9 l9 y9 z9 st9 hQ9
  subst l9 y9 z9
  obtain ⟨rfl, Nq9, e9⟩ := hQ9
  have N9 := Fr.app N8 Nq9
  obtain ⟨T10, X10, e10, st10⟩ := getS2 X9 hx hZ hown (host := "") (Or.inl (ww hw 64 rfl)) Via.refl e9 ((own_S_u4 G).ext O6.2) (g := (mkF m 158 #[vi p1, vi p2, vi p3, vi p4, vi (1 : Int32), vi (0 : Int32), vi (0 : Int32), vr va1, vr va2, vr va3, vr b4, vj (1 : Int64), .second] [xr b4])) rfl (hb hby at_158)
  obtain ⟨cq11, kq11, qa11, qb11, qc11⟩ := isOf hZ e10 X_b4_6
  obtain ⟨_, _, ⟨T11, L11, k11, n11⟩, -, X11, ⟨Lc11, hQ11, l11, y11, z11⟩, st11⟩ := X10.virtualBack hx (y := Y7) (z := Y7) hown (mvT hZ (ww hw 53 rfl)) (mvT hZ (ww hw 54 rfl)) (notFace_of_selects (args := #[]) (mvT hZ (ww hw 56 rfl))) (mvT hZ (ww hw 56 rfl)) (mvT hZ (ww hw 55 rfl)) (by decide) (backOf (W := 0) (own_count1 l Z a0 hw u0 u1 u2 u3 u4 G b4 bb5 kk5 ((0 : Int64) + own_h p1 0) ((0 : Int64) + own_h p1 1) ((0 : Int64) + own_h p1 2) ((0 : Int64) + own_h p1 3) h6 n0 O6 ⟨X_b4_6, F_b4_counts_6, Vn6, nb5, g_b4, g_bb5⟩ []) hZ (ww hw 57 rfl) (ww hw 13 rfl) (by decide) (by decide)) qa11 qc11 (g := (mkF m 161 #[vi p1, vi p2, vi p3, vi p4, vi (1 : Int32), vi (0 : Int32), vi (0 : Int32), vr va1, vr va2, vr va3, vr b4, vj (1 : Int64), .second] [xr u4, xr b4])) rfl (by rw [hml]; rfl) (Steps.refl _) (argsL := [xr u4]) (rest := []) (lenOf pd4 rfl) rfl (by show 2 * 0 + _ ≤ _; exact Nat.le_of_eq rfl) (hb hby at_161) (fun _ _ => ⟨rfl, e10, (by decide : 3 + 0 ≤ _), (by decide : 9 + 0 ≤ _)⟩)
  dsimp only [Pt.U, Pt.locs, Pt.cells, Pt.slots] at X11 l11 y11 z11 st11 hQ11
  subst l11 y11 z11
  obtain ⟨rfl, Nq11, e11⟩ := hQ11
  have N11 := Fr.app N9 Nq11
  obtain ⟨_, _, ⟨T12, L12, k12, n12⟩, -, X12, ⟨Lc12, hQ12, l12, y12, z12⟩, st12⟩ := Jvm.LawKit.callS X11 hx (y := Y9) hown (mvT hZ (ww hw 58 rfl)) (mvT hZ (ww hw 59 rfl)) (mvT hZ (ww hw 2 rfl)) (mvT hZ (ww hw 60 rfl)) (by decide) (backOf (W := 2) (own_c21_expected l Z a0 hw u0 u1 u2 u3 u4 G p1 p2 p3 p4 as7 as8 as10 h6 n0 O6 []) hZ (ww hw 60 rfl) (ww hw 2 rfl) (by decide) (by decide)) (g := (mkF m 169 #[vi p1, vi p2, vi p3, vi p4, vi (1 : Int32), vi (0 : Int32), vi (0 : Int32), vr va1, vr va2, vr va3, vr b4, vj (1 : Int64), .second] [xi p4, xi p3, xi p2, xi p1, xi (1 : Int32), xj ((0 : Int64) + own_h p1 1)])) rfl (by rw [hml]; rfl) (argsL := [xi (1 : Int32), xi p1, xi p2, xi p3, xi p4]) (rest := [xj ((0 : Int64) + own_h p1 1)]) (lenOf pd6 rfl) rfl (by show 2 * 0 + _ ≤ _; exact Nat.le_of_eq rfl) (hb hby at_169) (fun _ _ => ⟨rfl, e11, (by decide : 3 + 0 ≤ _), (by decide : 9 + 0 ≤ _)⟩)
  dsimp only [Pt.U, Pt.locs, Pt.cells, Pt.slots] at X12 l12 y12 z12 st12 hQ12
  subst l12 y12 z12
  obtain ⟨rfl, Nq12, e12⟩ := hQ12
  have N12 := Fr.app N11 Nq12
  obtain ⟨T13, X13, e13, st13⟩ := getS2 X12 hx hZ hown (host := "") (Or.inl (ww hw 9 rfl)) Via.refl e12 ((own_S_u2 G).ext O6.2) (g := (mkF m 178 #[vi p1, vi p2, vi p3, vi p4, vi (1 : Int32), vi (0 : Int32), vi (0 : Int32), vr va1, vr va2, vr va3, vr b4, vj (1 : Int64), .second] [xr b4])) rfl (hb hby at_178)
  obtain ⟨cq14, kq14, qa14, qb14, qc14⟩ := isOf hZ e13 X_b4_6
  obtain ⟨_, _, ⟨T14, L14, k14, n14⟩, -, X14, ⟨Lc14, hQ14, l14, y14, z14⟩, st14⟩ := X13.virtualBack hx (y := Y7) (z := Y7) hown (mvT hZ (ww hw 53 rfl)) (mvT hZ (ww hw 54 rfl)) (notFace_of_selects (args := #[]) (mvT hZ (ww hw 56 rfl))) (mvT hZ (ww hw 56 rfl)) (mvT hZ (ww hw 55 rfl)) (by decide) (backOf (W := 0) (own_count2 l Z a0 hw u0 u1 u2 u3 u4 G b4 bb5 kk5 ((0 : Int64) + own_h p1 0) ((0 : Int64) + own_h p1 1) ((0 : Int64) + own_h p1 2) ((0 : Int64) + own_h p1 3) h6 n0 O6 ⟨X_b4_6, F_b4_counts_6, Vn6, nb5, g_b4, g_bb5⟩ []) hZ (ww hw 57 rfl) (ww hw 13 rfl) (by decide) (by decide)) qa14 qc14 (g := (mkF m 181 #[vi p1, vi p2, vi p3, vi p4, vi (1 : Int32), vi (0 : Int32), vi (0 : Int32), vr va1, vr va2, vr va3, vr b4, vj (1 : Int64), .second] [xr u2, xr b4])) rfl (by rw [hml]; rfl) (Steps.refl _) (argsL := [xr u2]) (rest := []) (lenOf pd4 rfl) rfl (by show 2 * 0 + _ ≤ _; exact Nat.le_of_eq rfl) (hb hby at_181) (fun _ _ => ⟨rfl, e13, (by decide : 3 + 0 ≤ _), (by decide : 9 + 0 ≤ _)⟩)
  dsimp only [Pt.U, Pt.locs, Pt.cells, Pt.slots] at X14 l14 y14 z14 st14 hQ14
  subst l14 y14 z14
  obtain ⟨rfl, Nq14, e14⟩ := hQ14
  have N14 := Fr.app N12 Nq14
  obtain ⟨_, _, ⟨T15, L15, k15, n15⟩, -, X15, ⟨Lc15, hQ15, l15, y15, z15⟩, st15⟩ := Jvm.LawKit.callS X14 hx (y := Y9) hown (mvT hZ (ww hw 58 rfl)) (mvT hZ (ww hw 59 rfl)) (mvT hZ (ww hw 2 rfl)) (mvT hZ (ww hw 60 rfl)) (by decide) (backOf (W := 2) (own_c22_expected l Z a0 hw u0 u1 u2 u3 u4 G p1 p2 p3 p4 as7 as8 as10 h6 n0 O6 []) hZ (ww hw 60 rfl) (ww hw 2 rfl) (by decide) (by decide)) (g := (mkF m 189 #[vi p1, vi p2, vi p3, vi p4, vi (1 : Int32), vi (0 : Int32), vi (0 : Int32), vr va1, vr va2, vr va3, vr b4, vj (1 : Int64), .second] [xi p4, xi p3, xi p2, xi p1, xi (2 : Int32), xj ((0 : Int64) + own_h p1 2)])) rfl (by rw [hml]; rfl) (argsL := [xi (2 : Int32), xi p1, xi p2, xi p3, xi p4]) (rest := [xj ((0 : Int64) + own_h p1 2)]) (lenOf pd6 rfl) rfl (by show 2 * 0 + _ ≤ _; exact Nat.le_of_eq rfl) (hb hby at_189) (fun _ _ => ⟨rfl, e14, (by decide : 3 + 0 ≤ _), (by decide : 9 + 0 ≤ _)⟩)
  dsimp only [Pt.U, Pt.locs, Pt.cells, Pt.slots] at X15 l15 y15 z15 st15 hQ15
  subst l15 y15 z15
  obtain ⟨rfl, Nq15, e15⟩ := hQ15
  have N15 := Fr.app N14 Nq15
  obtain ⟨T16, X16, e16, st16⟩ := getS2 X15 hx hZ hown (host := "") (Or.inl (ww hw 7 rfl)) Via.refl e15 ((own_S_u1 G).ext O6.2) (g := (mkF m 198 #[vi p1, vi p2, vi p3, vi p4, vi (1 : Int32), vi (0 : Int32), vi (0 : Int32), vr va1, vr va2, vr va3, vr b4, vj (1 : Int64), .second] [xr b4])) rfl (hb hby at_198)
  obtain ⟨cq17, kq17, qa17, qb17, qc17⟩ := isOf hZ e16 X_b4_6
  obtain ⟨_, _, ⟨T17, L17, k17, n17⟩, -, X17, ⟨Lc17, hQ17, l17, y17, z17⟩, st17⟩ := X16.virtualBack hx (y := Y7) (z := Y7) hown (mvT hZ (ww hw 53 rfl)) (mvT hZ (ww hw 54 rfl)) (notFace_of_selects (args := #[]) (mvT hZ (ww hw 56 rfl))) (mvT hZ (ww hw 56 rfl)) (mvT hZ (ww hw 55 rfl)) (by decide) (backOf (W := 0) (own_count3 l Z a0 hw u0 u1 u2 u3 u4 G b4 bb5 kk5 ((0 : Int64) + own_h p1 0) ((0 : Int64) + own_h p1 1) ((0 : Int64) + own_h p1 2) ((0 : Int64) + own_h p1 3) h6 n0 O6 ⟨X_b4_6, F_b4_counts_6, Vn6, nb5, g_b4, g_bb5⟩ []) hZ (ww hw 57 rfl) (ww hw 13 rfl) (by decide) (by decide)) qa17 qc17 (g := (mkF m 201 #[vi p1, vi p2, vi p3, vi p4, vi (1 : Int32), vi (0 : Int32), vi (0 : Int32), vr va1, vr va2, vr va3, vr b4, vj (1 : Int64), .second] [xr u1, xr b4])) rfl (by rw [hml]; rfl) (Steps.refl _) (argsL := [xr u1]) (rest := []) (lenOf pd4 rfl) rfl (by show 2 * 0 + _ ≤ _; exact Nat.le_of_eq rfl) (hb hby at_201) (fun _ _ => ⟨rfl, e16, (by decide : 3 + 0 ≤ _), (by decide : 9 + 0 ≤ _)⟩)
  dsimp only [Pt.U, Pt.locs, Pt.cells, Pt.slots] at X17 l17 y17 z17 st17 hQ17
  subst l17 y17 z17
  obtain ⟨rfl, Nq17, e17⟩ := hQ17
  have N17 := Fr.app N15 Nq17
  obtain ⟨_, _, ⟨T18, L18, k18, n18⟩, -, X18, ⟨Lc18, hQ18, l18, y18, z18⟩, st18⟩ := Jvm.LawKit.callS X17 hx (y := Y9) hown (mvT hZ (ww hw 58 rfl)) (mvT hZ (ww hw 59 rfl)) (mvT hZ (ww hw 2 rfl)) (mvT hZ (ww hw 60 rfl)) (by decide) (backOf (W := 2) (own_c23_expected l Z a0 hw u0 u1 u2 u3 u4 G p1 p2 p3 p4 as7 as8 as10 h6 n0 O6 []) hZ (ww hw 60 rfl) (ww hw 2 rfl) (by decide) (by decide)) (g := (mkF m 209 #[vi p1, vi p2, vi p3, vi p4, vi (1 : Int32), vi (0 : Int32), vi (0 : Int32), vr va1, vr va2, vr va3, vr b4, vj (1 : Int64), .second] [xi p4, xi p3, xi p2, xi p1, xi (3 : Int32), xj ((0 : Int64) + own_h p1 3)])) rfl (by rw [hml]; rfl) (argsL := [xi (3 : Int32), xi p1, xi p2, xi p3, xi p4]) (rest := [xj ((0 : Int64) + own_h p1 3)]) (lenOf pd6 rfl) rfl (by show 2 * 0 + _ ≤ _; exact Nat.le_of_eq rfl) (hb hby at_209) (fun _ _ => ⟨rfl, e17, (by decide : 3 + 0 ≤ _), (by decide : 9 + 0 ≤ _)⟩)
  dsimp only [Pt.U, Pt.locs, Pt.cells, Pt.slots] at X18 l18 y18 z18 st18 hQ18
  subst l18 y18 z18
  obtain ⟨rfl, Nq18, e18⟩ := hQ18
  have N18 := Fr.app N17 Nq18
  obtain ⟨cq19, kq19, qa19, qb19, qc19⟩ := isOf hZ e18 X_b4_6
  obtain ⟨_, _, ⟨T19, L19, k19, n19⟩, -, X19, ⟨Lc19, hQ19, l19, y19, z19⟩, st19⟩ := X18.virtualBack hx (y := Y8) (z := Y8) hown (mvT hZ (ww hw 65 rfl)) (mvT hZ (ww hw 66 rfl)) (notFace_of_selects (args := #[]) (mvT hZ (ww hw 68 rfl))) (mvT hZ (ww hw 68 rfl)) (mvT hZ (ww hw 67 rfl)) (by decide) (backOf (W := 0) (own_records l Z a0 hw u0 u1 u2 u3 u4 G b4 bb5 kk5 ((0 : Int64) + own_h p1 0) ((0 : Int64) + own_h p1 1) ((0 : Int64) + own_h p1 2) ((0 : Int64) + own_h p1 3) h6 n0 O6 ⟨X_b4_6, F_b4_counts_6, Vn6, nb5, g_b4, g_bb5⟩ []) hZ (ww hw 69 rfl) (ww hw 13 rfl) (by decide) (by decide)) qa19 qc19 (g := (mkF m 218 #[vi p1, vi p2, vi p3, vi p4, vi (1 : Int32), vi (0 : Int32), vi (0 : Int32), vr va1, vr va2, vr va3, vr b4, vj (1 : Int64), .second] [xr b4])) rfl (by rw [hml]; rfl) (Steps.refl _) (argsL := []) (rest := []) (lenOf pd7 rfl) rfl (by show 2 * 0 + _ ≤ _; exact Nat.le_of_eq rfl) (hb hby at_218) (fun _ _ => ⟨rfl, e18, (by decide : 3 + 0 ≤ _), (by decide : 9 + 0 ≤ _)⟩)
  dsimp only [Pt.U, Pt.locs, Pt.cells, Pt.slots] at X19 l19 y19 z19 st19 hQ19
  subst l19 y19 z19
  obtain ⟨rfl, Nq19, e19⟩ := hQ19
  have N19 := Fr.app N18 Nq19
  obtain ⟨fs, hr, hrun, hended, hW, hsame⟩ := X19.leave (v := some (xi (1 : Int32))) (fun h => by rw [Bd.returns] at h; cases h)
  refine ⟨_, _, pre0 _ ?_, hrun, hended, _, _, rfl, ?_, ⟨_, rfl⟩, hW, hsame.mono (by decide) (by decide)⟩
  · show own_S p e below s₁ (mkF m 0 #[vi p1, vi p2, vi p3, vi p4, vu, vu, vu, vu, vu, vu, vu, vu, vu] []) _
    refine XS.iloadN X0.here hx rfl (hb hby at_0) rfl ?_
    show own_S p e below s₁ (mkF m 1 #[vi p1, vi p2, vi p3, vi p4, vu, vu, vu, vu, vu, vu, vu, vu, vu] [xi p4]) _
    refine XS.iconst X0.here hx rfl (hb hby at_1) ?_
    show own_S p e below s₁ (mkF m 2 #[vi p1, vi p2, vi p3, vi p4, vu, vu, vu, vu, vu, vu, vu, vu, vu] [xi (1 : Int32), xi p4]) _
    refine XS.iand X0.here hx rfl (hb hby at_2) rfl ?_
    show own_S p e below s₁ (mkF m 3 #[vi p1, vi p2, vi p3, vi p4, vu, vu, vu, vu, vu, vu, vu, vu, vu] [xi (p4 &&& (1 : Int32))]) _
    refine castTop (show (mkF m 3 #[vi p1, vi p2, vi p3, vi p4, vu, vu, vu, vu, vu, vu, vu, vu, vu] [xi (p4 &&& (1 : Int32))]) = (mkF m 3 #[vi p1, vi p2, vi p3, vi p4, vu, vu, vu, vu, vu, vu, vu, vu, vu] [xi (1 : Int32)]) from by rw [as7]) ?_
    show own_S p e below s₁ (mkF m 3 #[vi p1, vi p2, vi p3, vi p4, vu, vu, vu, vu, vu, vu, vu, vu, vu] [xi (1 : Int32)]) _
    refine XS.ifNo X0.here hx rfl (hb hby at_3) rfl (by decide) ?_
    show own_S p e below s₁ (mkF m 6 #[vi p1, vi p2, vi p3, vi p4, vu, vu, vu, vu, vu, vu, vu, vu, vu] []) _
    refine XS.iconst X0.here hx rfl (hb hby at_6) ?_
    show own_S p e below s₁ (mkF m 7 #[vi p1, vi p2, vi p3, vi p4, vu, vu, vu, vu, vu, vu, vu, vu, vu] [xi (1 : Int32)]) _
    refine XS.goto X0.here hx rfl (pc0 := 7) (pc' := 11) rfl (hb hby at_7) (by decide) (by decide) ?_
    show own_S p e below s₁ (mkF m 11 #[vi p1, vi p2, vi p3, vi p4, vu, vu, vu, vu, vu, vu, vu, vu, vu] [xi (1 : Int32)]) _
    refine XS.istore X0.here hx rfl (hb hby at_11) rfl (l' := #[vi p1, vi p2, vi p3, vi p4, vi (1 : Int32), vu, vu, vu, vu, vu, vu, vu, vu]) rfl ?_
    show own_S p e below s₁ (mkF m 13 #[vi p1, vi p2, vi p3, vi p4, vi (1 : Int32), vu, vu, vu, vu, vu, vu, vu, vu] []) _
    refine XS.iloadN X0.here hx rfl (hb hby at_13) rfl ?_
    show own_S p e below s₁ (mkF m 14 #[vi p1, vi p2, vi p3, vi p4, vi (1 : Int32), vu, vu, vu, vu, vu, vu, vu, vu] [xi p4]) _
    refine XS.iconst X0.here hx rfl (hb hby at_14) ?_
    show own_S p e below s₁ (mkF m 15 #[vi p1, vi p2, vi p3, vi p4, vi (1 : Int32), vu, vu, vu, vu, vu, vu, vu, vu] [xi (2 : Int32), xi p4]) _
    refine XS.iand X0.here hx rfl (hb hby at_15) rfl ?_
    show own_S p e below s₁ (mkF m 16 #[vi p1, vi p2, vi p3, vi p4, vi (1 : Int32), vu, vu, vu, vu, vu, vu, vu, vu] [xi (p4 &&& (2 : Int32))]) _
    refine castTop (show (mkF m 16 #[vi p1, vi p2, vi p3, vi p4, vi (1 : Int32), vu, vu, vu, vu, vu, vu, vu, vu] [xi (p4 &&& (2 : Int32))]) = (mkF m 16 #[vi p1, vi p2, vi p3, vi p4, vi (1 : Int32), vu, vu, vu, vu, vu, vu, vu, vu] [xi (0 : Int32)]) from by rw [as8]) ?_
    show own_S p e below s₁ (mkF m 16 #[vi p1, vi p2, vi p3, vi p4, vi (1 : Int32), vu, vu, vu, vu, vu, vu, vu, vu] [xi (0 : Int32)]) _
    refine XS.ifYes X0.here hx rfl (pc0 := 16) (pc' := 23) rfl (hb hby at_16) rfl (by decide) (by decide) (by decide) ?_
    show own_S p e below s₁ (mkF m 23 #[vi p1, vi p2, vi p3, vi p4, vi (1 : Int32), vu, vu, vu, vu, vu, vu, vu, vu] []) _
    refine XS.iconst X0.here hx rfl (hb hby at_23) ?_
    show own_S p e below s₁ (mkF m 24 #[vi p1, vi p2, vi p3, vi p4, vi (1 : Int32), vu, vu, vu, vu, vu, vu, vu, vu] [xi (0 : Int32)]) _
    refine XS.istore X0.here hx rfl (hb hby at_24) rfl (l' := #[vi p1, vi p2, vi p3, vi p4, vi (1 : Int32), vi (0 : Int32), vu, vu, vu, vu, vu, vu, vu]) rfl ?_
    show own_S p e below s₁ (mkF m 26 #[vi p1, vi p2, vi p3, vi p4, vi (1 : Int32), vi (0 : Int32), vu, vu, vu, vu, vu, vu, vu] []) _
    refine XS.iloadN X0.here hx rfl (hb hby at_26) rfl ?_
    show own_S p e below s₁ (mkF m 27 #[vi p1, vi p2, vi p3, vi p4, vi (1 : Int32), vi (0 : Int32), vu, vu, vu, vu, vu, vu, vu] [xi p4]) _
    refine XS.iconst X0.here hx rfl (hb hby at_27) ?_
    show own_S p e below s₁ (mkF m 28 #[vi p1, vi p2, vi p3, vi p4, vi (1 : Int32), vi (0 : Int32), vu, vu, vu, vu, vu, vu, vu] [xi (4 : Int32), xi p4]) _
    refine XS.iand X0.here hx rfl (hb hby at_28) rfl ?_
    show own_S p e below s₁ (mkF m 29 #[vi p1, vi p2, vi p3, vi p4, vi (1 : Int32), vi (0 : Int32), vu, vu, vu, vu, vu, vu, vu] [xi (p4 &&& (4 : Int32))]) _
    refine castTop (show (mkF m 29 #[vi p1, vi p2, vi p3, vi p4, vi (1 : Int32), vi (0 : Int32), vu, vu, vu, vu, vu, vu, vu] [xi (p4 &&& (4 : Int32))]) = (mkF m 29 #[vi p1, vi p2, vi p3, vi p4, vi (1 : Int32), vi (0 : Int32), vu, vu, vu, vu, vu, vu, vu] [xi (0 : Int32)]) from by rw [as10]) ?_
    show own_S p e below s₁ (mkF m 29 #[vi p1, vi p2, vi p3, vi p4, vi (1 : Int32), vi (0 : Int32), vu, vu, vu, vu, vu, vu, vu] [xi (0 : Int32)]) _
    refine XS.ifYes X0.here hx rfl (pc0 := 29) (pc' := 36) rfl (hb hby at_29) rfl (by decide) (by decide) (by decide) ?_
    show own_S p e below s₁ (mkF m 36 #[vi p1, vi p2, vi p3, vi p4, vi (1 : Int32), vi (0 : Int32), vu, vu, vu, vu, vu, vu, vu] []) _
    refine XS.iconst X0.here hx rfl (hb hby at_36) ?_
    show own_S p e below s₁ (mkF m 37 #[vi p1, vi p2, vi p3, vi p4, vi (1 : Int32), vi (0 : Int32), vu, vu, vu, vu, vu, vu, vu] [xi (0 : Int32)]) _
    refine XS.istore X0.here hx rfl (hb hby at_37) rfl (l' := #[vi p1, vi p2, vi p3, vi p4, vi (1 : Int32), vi (0 : Int32), vi (0 : Int32), vu, vu, vu, vu, vu, vu]) rfl ?_
    show own_S p e below s₁ (mkF m 39 #[vi p1, vi p2, vi p3, vi p4, vi (1 : Int32), vi (0 : Int32), vi (0 : Int32), vu, vu, vu, vu, vu, vu] []) _
    refine XS.iloadN X0.here hx rfl (hb hby at_39) rfl ?_
    show own_S p e below s₁ (mkF m 40 #[vi p1, vi p2, vi p3, vi p4, vi (1 : Int32), vi (0 : Int32), vi (0 : Int32), vu, vu, vu, vu, vu, vu] [xi p1]) _
    refine st1 _ ?_
    show own_S p e below T1 (mkF m 43 #[vi p1, vi p2, vi p3, vi p4, vi (1 : Int32), vi (0 : Int32), vi (0 : Int32), vu, vu, vu, vu, vu, vu] [xr va1]) _
    refine XS.astore X1.here hx rfl (hb hby at_43) rfl rfl (l' := #[vi p1, vi p2, vi p3, vi p4, vi (1 : Int32), vi (0 : Int32), vi (0 : Int32), vr va1, vu, vu, vu, vu, vu]) rfl ?_
    show own_S p e below T1 (mkF m 45 #[vi p1, vi p2, vi p3, vi p4, vi (1 : Int32), vi (0 : Int32), vi (0 : Int32), vr va1, vu, vu, vu, vu, vu] []) _
    refine XS.iloadN X1.here hx rfl (hb hby at_45) rfl ?_
    show own_S p e below T1 (mkF m 46 #[vi p1, vi p2, vi p3, vi p4, vi (1 : Int32), vi (0 : Int32), vi (0 : Int32), vr va1, vu, vu, vu, vu, vu] [xi p2]) _
    refine st2 _ ?_
    show own_S p e below T2 (mkF m 49 #[vi p1, vi p2, vi p3, vi p4, vi (1 : Int32), vi (0 : Int32), vi (0 : Int32), vr va1, vu, vu, vu, vu, vu] [xr va2]) _
    refine XS.astore X2.here hx rfl (hb hby at_49) rfl rfl (l' := #[vi p1, vi p2, vi p3, vi p4, vi (1 : Int32), vi (0 : Int32), vi (0 : Int32), vr va1, vr va2, vu, vu, vu, vu]) rfl ?_
    show own_S p e below T2 (mkF m 51 #[vi p1, vi p2, vi p3, vi p4, vi (1 : Int32), vi (0 : Int32), vi (0 : Int32), vr va1, vr va2, vu, vu, vu, vu] []) _
    refine XS.iloadN X2.here hx rfl (hb hby at_51) rfl ?_
    show own_S p e below T2 (mkF m 52 #[vi p1, vi p2, vi p3, vi p4, vi (1 : Int32), vi (0 : Int32), vi (0 : Int32), vr va1, vr va2, vu, vu, vu, vu] [xi p3]) _
    refine st3 _ ?_
    show own_S p e below T3 (mkF m 55 #[vi p1, vi p2, vi p3, vi p4, vi (1 : Int32), vi (0 : Int32), vi (0 : Int32), vr va1, vr va2, vu, vu, vu, vu] [xr va3]) _
    refine XS.astore X3.here hx rfl (hb hby at_55) rfl rfl (l' := #[vi p1, vi p2, vi p3, vi p4, vi (1 : Int32), vi (0 : Int32), vi (0 : Int32), vr va1, vr va2, vr va3, vu, vu, vu]) rfl ?_
    show own_S p e below T3 (mkF m 57 #[vi p1, vi p2, vi p3, vi p4, vi (1 : Int32), vi (0 : Int32), vi (0 : Int32), vr va1, vr va2, vr va3, vu, vu, vu] []) _
    refine st4 _ ?_
    show own_S p e below T4 (mkF m 60 #[vi p1, vi p2, vi p3, vi p4, vi (1 : Int32), vi (0 : Int32), vi (0 : Int32), vr va1, vr va2, vr va3, vu, vu, vu] [xr b4]) _
    refine XS.dup X4.here hx rfl (hb hby at_60) rfl rfl ?_
    show own_S p e below T4 (mkF m 61 #[vi p1, vi p2, vi p3, vi p4, vi (1 : Int32), vi (0 : Int32), vi (0 : Int32), vr va1, vr va2, vr va3, vu, vu, vu] [xr b4, xr b4]) _
    refine st5.trans ?_
    show own_S p e below T5 (mkF m 64 #[vi p1, vi p2, vi p3, vi p4, vi (1 : Int32), vi (0 : Int32), vi (0 : Int32), vr va1, vr va2, vr va3, vu, vu, vu] [xr b4]) _
    refine XS.astore X5.here hx rfl (hb hby at_64) rfl rfl (l' := #[vi p1, vi p2, vi p3, vi p4, vi (1 : Int32), vi (0 : Int32), vi (0 : Int32), vr va1, vr va2, vr va3, vr b4, vu, vu]) rfl ?_
    show own_S p e below T5 (mkF m 66 #[vi p1, vi p2, vi p3, vi p4, vi (1 : Int32), vi (0 : Int32), vi (0 : Int32), vr va1, vr va2, vr va3, vr b4, vu, vu] []) _
    refine XS.iload X5.here hx rfl (hb hby at_66) rfl ?_
    show own_S p e below T5 (mkF m 68 #[vi p1, vi p2, vi p3, vi p4, vi (1 : Int32), vi (0 : Int32), vi (0 : Int32), vr va1, vr va2, vr va3, vr b4, vu, vu] [xi (1 : Int32)]) _
    refine XS.ifNo X5.here hx rfl (hb hby at_68) rfl (by decide) ?_
    show own_S p e below T5 (mkF m 71 #[vi p1, vi p2, vi p3, vi p4, vi (1 : Int32), vi (0 : Int32), vi (0 : Int32), vr va1, vr va2, vr va3, vr b4, vu, vu] []) _
    refine XS.aload X5.here hx rfl (hb hby at_71) rfl rfl ?_
    show own_S p e below T5 (mkF m 73 #[vi p1, vi p2, vi p3, vi p4, vi (1 : Int32), vi (0 : Int32), vi (0 : Int32), vr va1, vr va2, vr va3, vr b4, vu, vu] [xr b4]) _
    refine XS.aload X5.here hx rfl (hb hby at_73) rfl rfl ?_
    show own_S p e below T5 (mkF m 75 #[vi p1, vi p2, vi p3, vi p4, vi (1 : Int32), vi (0 : Int32), vi (0 : Int32), vr va1, vr va2, vr va3, vr b4, vu, vu] [xr va1, xr b4]) _
    refine st6.trans ?_
    show own_S p e below T6 (mkF m 78 #[vi p1, vi p2, vi p3, vi p4, vi (1 : Int32), vi (0 : Int32), vi (0 : Int32), vr va1, vr va2, vr va3, vr b4, vu, vu] []) _
    refine XS.iload X6.here hx rfl (hb hby at_78) rfl ?_
    show own_S p e below T6 (mkF m 80 #[vi p1, vi p2, vi p3, vi p4, vi (1 : Int32), vi (0 : Int32), vi (0 : Int32), vr va1, vr va2, vr va3, vr b4, vu, vu] [xi (0 : Int32)]) _
    refine XS.ifYes X6.here hx rfl (pc0 := 80) (pc' := 90) rfl (hb hby at_80) rfl (by decide) (by decide) (by decide) ?_
    show own_S p e below T6 (mkF m 90 #[vi p1, vi p2, vi p3, vi p4, vi (1 : Int32), vi (0 : Int32), vi (0 : Int32), vr va1, vr va2, vr va3, vr b4, vu, vu] []) _
    refine XS.iload X6.here hx rfl (hb hby at_90) rfl ?_
    show own_S p e below T6 (mkF m 92 #[vi p1, vi p2, vi p3, vi p4, vi (1 : Int32), vi (0 : Int32), vi (0 : Int32), vr va1, vr va2, vr va3, vr b4, vu, vu] [xi (0 : Int32)]) _
    refine XS.ifYes X6.here hx rfl (pc0 := 92) (pc' := 102) rfl (hb hby at_92) rfl (by decide) (by decide) (by decide) ?_
    show own_S p e below T6 (mkF m 102 #[vi p1, vi p2, vi p3, vi p4, vi (1 : Int32), vi (0 : Int32), vi (0 : Int32), vr va1, vr va2, vr va3, vr b4, vu, vu] []) _
    refine XS.iload X6.here hx rfl (hb hby at_102) rfl ?_
    show own_S p e below T6 (mkF m 104 #[vi p1, vi p2, vi p3, vi p4, vi (1 : Int32), vi (0 : Int32), vi (0 : Int32), vr va1, vr va2, vr va3, vr b4, vu, vu] [xi (1 : Int32)]) _
    refine XS.ifNo X6.here hx rfl (hb hby at_104) rfl (by decide) ?_
    show own_S p e below T6 (mkF m 107 #[vi p1, vi p2, vi p3, vi p4, vi (1 : Int32), vi (0 : Int32), vi (0 : Int32), vr va1, vr va2, vr va3, vr b4, vu, vu] []) _
    refine XS.lconst X6.here hx rfl (hb hby at_107) ?_
    show own_S p e below T6 (mkF m 108 #[vi p1, vi p2, vi p3, vi p4, vi (1 : Int32), vi (0 : Int32), vi (0 : Int32), vr va1, vr va2, vr va3, vr b4, vu, vu] [xj (1 : Int64)]) _
    refine XS.goto X6.here hx rfl (pc0 := 108) (pc' := 112) rfl (hb hby at_108) (by decide) (by decide) ?_
    show own_S p e below T6 (mkF m 112 #[vi p1, vi p2, vi p3, vi p4, vi (1 : Int32), vi (0 : Int32), vi (0 : Int32), vr va1, vr va2, vr va3, vr b4, vu, vu] [xj (1 : Int64)]) _
    refine XS.iload X6.here hx rfl (hb hby at_112) rfl ?_
    show own_S p e below T6 (mkF m 114 #[vi p1, vi p2, vi p3, vi p4, vi (1 : Int32), vi (0 : Int32), vi (0 : Int32), vr va1, vr va2, vr va3, vr b4, vu, vu] [xi (0 : Int32), xj (1 : Int64)]) _
    refine XS.ifYes X6.here hx rfl (pc0 := 114) (pc' := 121) rfl (hb hby at_114) rfl (by decide) (by decide) (by decide) ?_
    show own_S p e below T6 (mkF m 121 #[vi p1, vi p2, vi p3, vi p4, vi (1 : Int32), vi (0 : Int32), vi (0 : Int32), vr va1, vr va2, vr va3, vr b4, vu, vu] [xj (1 : Int64)]) _
    refine XS.lconst X6.here hx rfl (hb hby at_121) ?_
    show own_S p e below T6 (mkF m 122 #[vi p1, vi p2, vi p3, vi p4, vi (1 : Int32), vi (0 : Int32), vi (0 : Int32), vr va1, vr va2, vr va3, vr b4, vu, vu] [xj (0 : Int64), xj (1 : Int64)]) _
    refine XS.ladd X6.here hx rfl (hb hby at_122) rfl ?_
    show own_S p e below T6 (mkF m 123 #[vi p1, vi p2, vi p3, vi p4, vi (1 : Int32), vi (0 : Int32), vi (0 : Int32), vr va1, vr va2, vr va3, vr b4, vu, vu] [xj ((1 : Int64) + (0 : Int64))]) _
    refine castTop (show (mkF m 123 #[vi p1, vi p2, vi p3, vi p4, vi (1 : Int32), vi (0 : Int32), vi (0 : Int32), vr va1, vr va2, vr va3, vr b4, vu, vu] [xj ((1 : Int64) + (0 : Int64))]) = (mkF m 123 #[vi p1, vi p2, vi p3, vi p4, vi (1 : Int32), vi (0 : Int32), vi (0 : Int32), vr va1, vr va2, vr va3, vr b4, vu, vu] [xj (1 : Int64)]) from by rw [show ((1 : Int64) + (0 : Int64)) = (1 : Int64) from by decide]) ?_
    show own_S p e below T6 (mkF m 123 #[vi p1, vi p2, vi p3, vi p4, vi (1 : Int32), vi (0 : Int32), vi (0 : Int32), vr va1, vr va2, vr va3, vr b4, vu, vu] [xj (1 : Int64)]) _
    refine XS.iload X6.here hx rfl (hb hby at_123) rfl ?_
    show own_S p e below T6 (mkF m 125 #[vi p1, vi p2, vi p3, vi p4, vi (1 : Int32), vi (0 : Int32), vi (0 : Int32), vr va1, vr va2, vr va3, vr b4, vu, vu] [xi (0 : Int32), xj (1 : Int64)]) _
    refine XS.ifYes X6.here hx rfl (pc0 := 125) (pc' := 132) rfl (hb hby at_125) rfl (by decide) (by decide) (by decide) ?_
    show own_S p e below T6 (mkF m 132 #[vi p1, vi p2, vi p3, vi p4, vi (1 : Int32), vi (0 : Int32), vi (0 : Int32), vr va1, vr va2, vr va3, vr b4, vu, vu] [xj (1 : Int64)]) _
    refine XS.lconst X6.here hx rfl (hb hby at_132) ?_
    show own_S p e below T6 (mkF m 133 #[vi p1, vi p2, vi p3, vi p4, vi (1 : Int32), vi (0 : Int32), vi (0 : Int32), vr va1, vr va2, vr va3, vr b4, vu, vu] [xj (0 : Int64), xj (1 : Int64)]) _
    refine XS.ladd X6.here hx rfl (hb hby at_133) rfl ?_
    show own_S p e below T6 (mkF m 134 #[vi p1, vi p2, vi p3, vi p4, vi (1 : Int32), vi (0 : Int32), vi (0 : Int32), vr va1, vr va2, vr va3, vr b4, vu, vu] [xj ((1 : Int64) + (0 : Int64))]) _
    refine castTop (show (mkF m 134 #[vi p1, vi p2, vi p3, vi p4, vi (1 : Int32), vi (0 : Int32), vi (0 : Int32), vr va1, vr va2, vr va3, vr b4, vu, vu] [xj ((1 : Int64) + (0 : Int64))]) = (mkF m 134 #[vi p1, vi p2, vi p3, vi p4, vi (1 : Int32), vi (0 : Int32), vi (0 : Int32), vr va1, vr va2, vr va3, vr b4, vu, vu] [xj (1 : Int64)]) from by rw [show ((1 : Int64) + (0 : Int64)) = (1 : Int64) from by decide]) ?_
    show own_S p e below T6 (mkF m 134 #[vi p1, vi p2, vi p3, vi p4, vi (1 : Int32), vi (0 : Int32), vi (0 : Int32), vr va1, vr va2, vr va3, vr b4, vu, vu] [xj (1 : Int64)]) _
    refine XS.lstore X6.here hx rfl (hb hby at_134) rfl (l' := #[vi p1, vi p2, vi p3, vi p4, vi (1 : Int32), vi (0 : Int32), vi (0 : Int32), vr va1, vr va2, vr va3, vr b4, vj (1 : Int64), .second]) rfl ?_
    show own_S p e below T6 (mkF m 136 #[vi p1, vi p2, vi p3, vi p4, vi (1 : Int32), vi (0 : Int32), vi (0 : Int32), vr va1, vr va2, vr va3, vr b4, vj (1 : Int64), .second] []) _
    refine XS.aload X6.here hx rfl (hb hby at_136) rfl rfl ?_
    show own_S p e below T6 (mkF m 138 #[vi p1, vi p2, vi p3, vi p4, vi (1 : Int32), vi (0 : Int32), vi (0 : Int32), vr va1, vr va2, vr va3, vr b4, vj (1 : Int64), .second] [xr b4]) _
    refine st7 _ ?_
    show own_S p e below T7 (mkF m 141 #[vi p1, vi p2, vi p3, vi p4, vi (1 : Int32), vi (0 : Int32), vi (0 : Int32), vr va1, vr va2, vr va3, vr b4, vj (1 : Int64), .second] [xr u0, xr b4]) _
    refine st8.trans ?_
    show own_S p e below T8 (mkF m 144 #[vi p1, vi p2, vi p3, vi p4, vi (1 : Int32), vi (0 : Int32), vi (0 : Int32), vr va1, vr va2, vr va3, vr b4, vj (1 : Int64), .second] [xj ((0 : Int64) + own_h p1 0)]) _
    refine XS.iconst X8.here hx rfl (hb hby at_144) ?_
    show own_S p e below T8 (mkF m 145 #[vi p1, vi p2, vi p3, vi p4, vi (1 : Int32), vi (0 : Int32), vi (0 : Int32), vr va1, vr va2, vr va3, vr b4, vj (1 : Int64), .second] [xi (0 : Int32), xj ((0 : Int64) + own_h p1 0)]) _
    refine XS.iloadN X8.here hx rfl (hb hby at_145) rfl ?_
    show own_S p e below T8 (mkF m 146 #[vi p1, vi p2, vi p3, vi p4, vi (1 : Int32), vi (0 : Int32), vi (0 : Int32), vr va1, vr va2, vr va3, vr b4, vj (1 : Int64), .second] [xi p1, xi (0 : Int32), xj ((0 : Int64) + own_h p1 0)]) _
    refine XS.iloadN X8.here hx rfl (hb hby at_146) rfl ?_
    show own_S p e below T8 (mkF m 147 #[vi p1, vi p2, vi p3, vi p4, vi (1 : Int32), vi (0 : Int32), vi (0 : Int32), vr va1, vr va2, vr va3, vr b4, vj (1 : Int64), .second] [xi p2, xi p1, xi (0 : Int32), xj ((0 : Int64) + own_h p1 0)]) _
    refine XS.iloadN X8.here hx rfl (hb hby at_147) rfl ?_
    show own_S p e below T8 (mkF m 148 #[vi p1, vi p2, vi p3, vi p4, vi (1 : Int32), vi (0 : Int32), vi (0 : Int32), vr va1, vr va2, vr va3, vr b4, vj (1 : Int64), .second] [xi p3, xi p2, xi p1, xi (0 : Int32), xj ((0 : Int64) + own_h p1 0)]) _
    refine XS.iloadN X8.here hx rfl (hb hby at_148) rfl ?_
    show own_S p e below T8 (mkF m 149 #[vi p1, vi p2, vi p3, vi p4, vi (1 : Int32), vi (0 : Int32), vi (0 : Int32), vr va1, vr va2, vr va3, vr b4, vj (1 : Int64), .second] [xi p4, xi p3, xi p2, xi p1, xi (0 : Int32), xj ((0 : Int64) + own_h p1 0)]) _
    refine st9 _ ?_
    show own_S p e below T9 (mkF m 152 #[vi p1, vi p2, vi p3, vi p4, vi (1 : Int32), vi (0 : Int32), vi (0 : Int32), vr va1, vr va2, vr va3, vr b4, vj (1 : Int64), .second] [xj (((own_h p1 (0 : Int32)) + (0 : Int64)) + (0 : Int64)), xj ((0 : Int64) + own_h p1 0)]) _
    refine XS.lcmp X9.here hx rfl (hb hby at_152) rfl ?_
    show own_S p e below T9 (mkF m 153 #[vi p1, vi p2, vi p3, vi p4, vi (1 : Int32), vi (0 : Int32), vi (0 : Int32), vr va1, vr va2, vr va3, vr b4, vj (1 : Int64), .second] [xi (lcmpW ((0 : Int64) + own_h p1 0) (((own_h p1 (0 : Int32)) + (0 : Int64)) + (0 : Int64)))]) _
    show own_S p e below T9 (mkF m 153 #[vi p1, vi p2, vi p3, vi p4, vi (1 : Int32), vi (0 : Int32), vi (0 : Int32), vr va1, vr va2, vr va3, vr b4, vj (1 : Int64), .second] [xi (lcmpW ((0 : Int64) + own_h p1 0) (((own_h p1 (0 : Int32)) + (0 : Int64)) + (0 : Int64)))]) _
    refine XS.ifNo X9.here hx rfl (hb hby at_153) rfl (by simp [lcmpW, ifCond.holds, Int64.zero_add, Int64.add_zero]) ?_
    show own_S p e below T9 (mkF m 156 #[vi p1, vi p2, vi p3, vi p4, vi (1 : Int32), vi (0 : Int32), vi (0 : Int32), vr va1, vr va2, vr va3, vr b4, vj (1 : Int64), .second] []) _
    refine XS.aload X9.here hx rfl (hb hby at_156) rfl rfl ?_
    show own_S p e below T9 (mkF m 158 #[vi p1, vi p2, vi p3, vi p4, vi (1 : Int32), vi (0 : Int32), vi (0 : Int32), vr va1, vr va2, vr va3, vr b4, vj (1 : Int64), .second] [xr b4]) _
    refine st10 _ ?_
    show own_S p e below T10 (mkF m 161 #[vi p1, vi p2, vi p3, vi p4, vi (1 : Int32), vi (0 : Int32), vi (0 : Int32), vr va1, vr va2, vr va3, vr b4, vj (1 : Int64), .second] [xr u4, xr b4]) _
    refine st11.trans ?_
    show own_S p e below T11 (mkF m 164 #[vi p1, vi p2, vi p3, vi p4, vi (1 : Int32), vi (0 : Int32), vi (0 : Int32), vr va1, vr va2, vr va3, vr b4, vj (1 : Int64), .second] [xj ((0 : Int64) + own_h p1 1)]) _
    refine XS.iconst X11.here hx rfl (hb hby at_164) ?_
    show own_S p e below T11 (mkF m 165 #[vi p1, vi p2, vi p3, vi p4, vi (1 : Int32), vi (0 : Int32), vi (0 : Int32), vr va1, vr va2, vr va3, vr b4, vj (1 : Int64), .second] [xi (1 : Int32), xj ((0 : Int64) + own_h p1 1)]) _
    refine XS.iloadN X11.here hx rfl (hb hby at_165) rfl ?_
    show own_S p e below T11 (mkF m 166 #[vi p1, vi p2, vi p3, vi p4, vi (1 : Int32), vi (0 : Int32), vi (0 : Int32), vr va1, vr va2, vr va3, vr b4, vj (1 : Int64), .second] [xi p1, xi (1 : Int32), xj ((0 : Int64) + own_h p1 1)]) _
    refine XS.iloadN X11.here hx rfl (hb hby at_166) rfl ?_
    show own_S p e below T11 (mkF m 167 #[vi p1, vi p2, vi p3, vi p4, vi (1 : Int32), vi (0 : Int32), vi (0 : Int32), vr va1, vr va2, vr va3, vr b4, vj (1 : Int64), .second] [xi p2, xi p1, xi (1 : Int32), xj ((0 : Int64) + own_h p1 1)]) _
    refine XS.iloadN X11.here hx rfl (hb hby at_167) rfl ?_
    show own_S p e below T11 (mkF m 168 #[vi p1, vi p2, vi p3, vi p4, vi (1 : Int32), vi (0 : Int32), vi (0 : Int32), vr va1, vr va2, vr va3, vr b4, vj (1 : Int64), .second] [xi p3, xi p2, xi p1, xi (1 : Int32), xj ((0 : Int64) + own_h p1 1)]) _
    refine XS.iloadN X11.here hx rfl (hb hby at_168) rfl ?_
    show own_S p e below T11 (mkF m 169 #[vi p1, vi p2, vi p3, vi p4, vi (1 : Int32), vi (0 : Int32), vi (0 : Int32), vr va1, vr va2, vr va3, vr b4, vj (1 : Int64), .second] [xi p4, xi p3, xi p2, xi p1, xi (1 : Int32), xj ((0 : Int64) + own_h p1 1)]) _
    refine st12 _ ?_
    show own_S p e below T12 (mkF m 172 #[vi p1, vi p2, vi p3, vi p4, vi (1 : Int32), vi (0 : Int32), vi (0 : Int32), vr va1, vr va2, vr va3, vr b4, vj (1 : Int64), .second] [xj (((own_h p1 (1 : Int32)) + (0 : Int64)) + (0 : Int64)), xj ((0 : Int64) + own_h p1 1)]) _
    refine XS.lcmp X12.here hx rfl (hb hby at_172) rfl ?_
    show own_S p e below T12 (mkF m 173 #[vi p1, vi p2, vi p3, vi p4, vi (1 : Int32), vi (0 : Int32), vi (0 : Int32), vr va1, vr va2, vr va3, vr b4, vj (1 : Int64), .second] [xi (lcmpW ((0 : Int64) + own_h p1 1) (((own_h p1 (1 : Int32)) + (0 : Int64)) + (0 : Int64)))]) _
    show own_S p e below T12 (mkF m 173 #[vi p1, vi p2, vi p3, vi p4, vi (1 : Int32), vi (0 : Int32), vi (0 : Int32), vr va1, vr va2, vr va3, vr b4, vj (1 : Int64), .second] [xi (lcmpW ((0 : Int64) + own_h p1 1) (((own_h p1 (1 : Int32)) + (0 : Int64)) + (0 : Int64)))]) _
    refine XS.ifNo X12.here hx rfl (hb hby at_173) rfl (by simp [lcmpW, ifCond.holds, Int64.zero_add, Int64.add_zero]) ?_
    show own_S p e below T12 (mkF m 176 #[vi p1, vi p2, vi p3, vi p4, vi (1 : Int32), vi (0 : Int32), vi (0 : Int32), vr va1, vr va2, vr va3, vr b4, vj (1 : Int64), .second] []) _
    refine XS.aload X12.here hx rfl (hb hby at_176) rfl rfl ?_
    show own_S p e below T12 (mkF m 178 #[vi p1, vi p2, vi p3, vi p4, vi (1 : Int32), vi (0 : Int32), vi (0 : Int32), vr va1, vr va2, vr va3, vr b4, vj (1 : Int64), .second] [xr b4]) _
    refine st13 _ ?_
    show own_S p e below T13 (mkF m 181 #[vi p1, vi p2, vi p3, vi p4, vi (1 : Int32), vi (0 : Int32), vi (0 : Int32), vr va1, vr va2, vr va3, vr b4, vj (1 : Int64), .second] [xr u2, xr b4]) _
    refine st14.trans ?_
    show own_S p e below T14 (mkF m 184 #[vi p1, vi p2, vi p3, vi p4, vi (1 : Int32), vi (0 : Int32), vi (0 : Int32), vr va1, vr va2, vr va3, vr b4, vj (1 : Int64), .second] [xj ((0 : Int64) + own_h p1 2)]) _
    refine XS.iconst X14.here hx rfl (hb hby at_184) ?_
    show own_S p e below T14 (mkF m 185 #[vi p1, vi p2, vi p3, vi p4, vi (1 : Int32), vi (0 : Int32), vi (0 : Int32), vr va1, vr va2, vr va3, vr b4, vj (1 : Int64), .second] [xi (2 : Int32), xj ((0 : Int64) + own_h p1 2)]) _
    refine XS.iloadN X14.here hx rfl (hb hby at_185) rfl ?_
    show own_S p e below T14 (mkF m 186 #[vi p1, vi p2, vi p3, vi p4, vi (1 : Int32), vi (0 : Int32), vi (0 : Int32), vr va1, vr va2, vr va3, vr b4, vj (1 : Int64), .second] [xi p1, xi (2 : Int32), xj ((0 : Int64) + own_h p1 2)]) _
    refine XS.iloadN X14.here hx rfl (hb hby at_186) rfl ?_
    show own_S p e below T14 (mkF m 187 #[vi p1, vi p2, vi p3, vi p4, vi (1 : Int32), vi (0 : Int32), vi (0 : Int32), vr va1, vr va2, vr va3, vr b4, vj (1 : Int64), .second] [xi p2, xi p1, xi (2 : Int32), xj ((0 : Int64) + own_h p1 2)]) _
    refine XS.iloadN X14.here hx rfl (hb hby at_187) rfl ?_
    show own_S p e below T14 (mkF m 188 #[vi p1, vi p2, vi p3, vi p4, vi (1 : Int32), vi (0 : Int32), vi (0 : Int32), vr va1, vr va2, vr va3, vr b4, vj (1 : Int64), .second] [xi p3, xi p2, xi p1, xi (2 : Int32), xj ((0 : Int64) + own_h p1 2)]) _
    refine XS.iloadN X14.here hx rfl (hb hby at_188) rfl ?_
    show own_S p e below T14 (mkF m 189 #[vi p1, vi p2, vi p3, vi p4, vi (1 : Int32), vi (0 : Int32), vi (0 : Int32), vr va1, vr va2, vr va3, vr b4, vj (1 : Int64), .second] [xi p4, xi p3, xi p2, xi p1, xi (2 : Int32), xj ((0 : Int64) + own_h p1 2)]) _
    refine st15 _ ?_
    show own_S p e below T15 (mkF m 192 #[vi p1, vi p2, vi p3, vi p4, vi (1 : Int32), vi (0 : Int32), vi (0 : Int32), vr va1, vr va2, vr va3, vr b4, vj (1 : Int64), .second] [xj (((own_h p1 (2 : Int32)) + (0 : Int64)) + (0 : Int64)), xj ((0 : Int64) + own_h p1 2)]) _
    refine XS.lcmp X15.here hx rfl (hb hby at_192) rfl ?_
    show own_S p e below T15 (mkF m 193 #[vi p1, vi p2, vi p3, vi p4, vi (1 : Int32), vi (0 : Int32), vi (0 : Int32), vr va1, vr va2, vr va3, vr b4, vj (1 : Int64), .second] [xi (lcmpW ((0 : Int64) + own_h p1 2) (((own_h p1 (2 : Int32)) + (0 : Int64)) + (0 : Int64)))]) _
    show own_S p e below T15 (mkF m 193 #[vi p1, vi p2, vi p3, vi p4, vi (1 : Int32), vi (0 : Int32), vi (0 : Int32), vr va1, vr va2, vr va3, vr b4, vj (1 : Int64), .second] [xi (lcmpW ((0 : Int64) + own_h p1 2) (((own_h p1 (2 : Int32)) + (0 : Int64)) + (0 : Int64)))]) _
    refine XS.ifNo X15.here hx rfl (hb hby at_193) rfl (by simp [lcmpW, ifCond.holds, Int64.zero_add, Int64.add_zero]) ?_
    show own_S p e below T15 (mkF m 196 #[vi p1, vi p2, vi p3, vi p4, vi (1 : Int32), vi (0 : Int32), vi (0 : Int32), vr va1, vr va2, vr va3, vr b4, vj (1 : Int64), .second] []) _
    refine XS.aload X15.here hx rfl (hb hby at_196) rfl rfl ?_
    show own_S p e below T15 (mkF m 198 #[vi p1, vi p2, vi p3, vi p4, vi (1 : Int32), vi (0 : Int32), vi (0 : Int32), vr va1, vr va2, vr va3, vr b4, vj (1 : Int64), .second] [xr b4]) _
    refine st16 _ ?_
    show own_S p e below T16 (mkF m 201 #[vi p1, vi p2, vi p3, vi p4, vi (1 : Int32), vi (0 : Int32), vi (0 : Int32), vr va1, vr va2, vr va3, vr b4, vj (1 : Int64), .second] [xr u1, xr b4]) _
    refine st17.trans ?_
    show own_S p e below T17 (mkF m 204 #[vi p1, vi p2, vi p3, vi p4, vi (1 : Int32), vi (0 : Int32), vi (0 : Int32), vr va1, vr va2, vr va3, vr b4, vj (1 : Int64), .second] [xj ((0 : Int64) + own_h p1 3)]) _
    refine XS.iconst X17.here hx rfl (hb hby at_204) ?_
    show own_S p e below T17 (mkF m 205 #[vi p1, vi p2, vi p3, vi p4, vi (1 : Int32), vi (0 : Int32), vi (0 : Int32), vr va1, vr va2, vr va3, vr b4, vj (1 : Int64), .second] [xi (3 : Int32), xj ((0 : Int64) + own_h p1 3)]) _
    refine XS.iloadN X17.here hx rfl (hb hby at_205) rfl ?_
    show own_S p e below T17 (mkF m 206 #[vi p1, vi p2, vi p3, vi p4, vi (1 : Int32), vi (0 : Int32), vi (0 : Int32), vr va1, vr va2, vr va3, vr b4, vj (1 : Int64), .second] [xi p1, xi (3 : Int32), xj ((0 : Int64) + own_h p1 3)]) _
    refine XS.iloadN X17.here hx rfl (hb hby at_206) rfl ?_
    show own_S p e below T17 (mkF m 207 #[vi p1, vi p2, vi p3, vi p4, vi (1 : Int32), vi (0 : Int32), vi (0 : Int32), vr va1, vr va2, vr va3, vr b4, vj (1 : Int64), .second] [xi p2, xi p1, xi (3 : Int32), xj ((0 : Int64) + own_h p1 3)]) _
    refine XS.iloadN X17.here hx rfl (hb hby at_207) rfl ?_
    show own_S p e below T17 (mkF m 208 #[vi p1, vi p2, vi p3, vi p4, vi (1 : Int32), vi (0 : Int32), vi (0 : Int32), vr va1, vr va2, vr va3, vr b4, vj (1 : Int64), .second] [xi p3, xi p2, xi p1, xi (3 : Int32), xj ((0 : Int64) + own_h p1 3)]) _
    refine XS.iloadN X17.here hx rfl (hb hby at_208) rfl ?_
    show own_S p e below T17 (mkF m 209 #[vi p1, vi p2, vi p3, vi p4, vi (1 : Int32), vi (0 : Int32), vi (0 : Int32), vr va1, vr va2, vr va3, vr b4, vj (1 : Int64), .second] [xi p4, xi p3, xi p2, xi p1, xi (3 : Int32), xj ((0 : Int64) + own_h p1 3)]) _
    refine st18 _ ?_
    show own_S p e below T18 (mkF m 212 #[vi p1, vi p2, vi p3, vi p4, vi (1 : Int32), vi (0 : Int32), vi (0 : Int32), vr va1, vr va2, vr va3, vr b4, vj (1 : Int64), .second] [xj (((own_h p1 (3 : Int32)) + (0 : Int64)) + (0 : Int64)), xj ((0 : Int64) + own_h p1 3)]) _
    refine XS.lcmp X18.here hx rfl (hb hby at_212) rfl ?_
    show own_S p e below T18 (mkF m 213 #[vi p1, vi p2, vi p3, vi p4, vi (1 : Int32), vi (0 : Int32), vi (0 : Int32), vr va1, vr va2, vr va3, vr b4, vj (1 : Int64), .second] [xi (lcmpW ((0 : Int64) + own_h p1 3) (((own_h p1 (3 : Int32)) + (0 : Int64)) + (0 : Int64)))]) _
    show own_S p e below T18 (mkF m 213 #[vi p1, vi p2, vi p3, vi p4, vi (1 : Int32), vi (0 : Int32), vi (0 : Int32), vr va1, vr va2, vr va3, vr b4, vj (1 : Int64), .second] [xi (lcmpW ((0 : Int64) + own_h p1 3) (((own_h p1 (3 : Int32)) + (0 : Int64)) + (0 : Int64)))]) _
    refine XS.ifNo X18.here hx rfl (hb hby at_213) rfl (by simp [lcmpW, ifCond.holds, Int64.zero_add, Int64.add_zero]) ?_
    show own_S p e below T18 (mkF m 216 #[vi p1, vi p2, vi p3, vi p4, vi (1 : Int32), vi (0 : Int32), vi (0 : Int32), vr va1, vr va2, vr va3, vr b4, vj (1 : Int64), .second] []) _
    refine XS.aload X18.here hx rfl (hb hby at_216) rfl rfl ?_
    show own_S p e below T18 (mkF m 218 #[vi p1, vi p2, vi p3, vi p4, vi (1 : Int32), vi (0 : Int32), vi (0 : Int32), vr va1, vr va2, vr va3, vr b4, vj (1 : Int64), .second] [xr b4]) _
    refine st19.trans ?_
    show own_S p e below T19 (mkF m 221 #[vi p1, vi p2, vi p3, vi p4, vi (1 : Int32), vi (0 : Int32), vi (0 : Int32), vr va1, vr va2, vr va3, vr b4, vj (1 : Int64), .second] [xj (((((0 : Int64) + ((0 : Int64) + own_h p1 0)) + ((0 : Int64) + own_h p1 1)) + ((0 : Int64) + own_h p1 2)) + ((0 : Int64) + own_h p1 3))]) _
    refine XS.lload X19.here hx rfl (hb hby at_221) rfl ?_
    show own_S p e below T19 (mkF m 223 #[vi p1, vi p2, vi p3, vi p4, vi (1 : Int32), vi (0 : Int32), vi (0 : Int32), vr va1, vr va2, vr va3, vr b4, vj (1 : Int64), .second] [xj (1 : Int64), xj (((((0 : Int64) + ((0 : Int64) + own_h p1 0)) + ((0 : Int64) + own_h p1 1)) + ((0 : Int64) + own_h p1 2)) + ((0 : Int64) + own_h p1 3))]) _
    refine XS.lcmp X19.here hx rfl (hb hby at_223) rfl ?_
    show own_S p e below T19 (mkF m 224 #[vi p1, vi p2, vi p3, vi p4, vi (1 : Int32), vi (0 : Int32), vi (0 : Int32), vr va1, vr va2, vr va3, vr b4, vj (1 : Int64), .second] [xi (lcmpW (((((0 : Int64) + ((0 : Int64) + own_h p1 0)) + ((0 : Int64) + own_h p1 1)) + ((0 : Int64) + own_h p1 2)) + ((0 : Int64) + own_h p1 3)) (1 : Int64))]) _
    show own_S p e below T19 (mkF m 224 #[vi p1, vi p2, vi p3, vi p4, vi (1 : Int32), vi (0 : Int32), vi (0 : Int32), vr va1, vr va2, vr va3, vr b4, vj (1 : Int64), .second] [xi (lcmpW (((((0 : Int64) + ((0 : Int64) + own_h p1 0)) + ((0 : Int64) + own_h p1 1)) + ((0 : Int64) + own_h p1 2)) + ((0 : Int64) + own_h p1 3)) (1 : Int64))]) _
    refine XS.ifNo X19.here hx rfl (hb hby at_224) rfl (by rw [show (((((0 : Int64) + ((0 : Int64) + own_h p1 0)) + ((0 : Int64) + own_h p1 1)) + ((0 : Int64) + own_h p1 2)) + ((0 : Int64) + own_h p1 3)) = (own_h p1 0 + own_h p1 1 + own_h p1 2 + own_h p1 3) from by simp only [Int64.zero_add]; try ac_rfl]; simp only [own_hsum]; try decide) ?_
    show own_S p e below T19 (mkF m 227 #[vi p1, vi p2, vi p3, vi p4, vi (1 : Int32), vi (0 : Int32), vi (0 : Int32), vr va1, vr va2, vr va3, vr b4, vj (1 : Int64), .second] []) _
    refine XS.iconst X19.here hx rfl (hb hby at_227) ?_
    show own_S p e below T19 (mkF m 228 #[vi p1, vi p2, vi p3, vi p4, vi (1 : Int32), vi (0 : Int32), vi (0 : Int32), vr va1, vr va2, vr va3, vr b4, vj (1 : Int64), .second] [xi (1 : Int32)]) _
    refine XS.goto X19.here hx rfl (pc0 := 228) (pc' := 232) rfl (hb hby at_228) (by decide) (by decide) ?_
    show own_S p e below T19 (mkF m 232 #[vi p1, vi p2, vi p3, vi p4, vi (1 : Int32), vi (0 : Int32), vi (0 : Int32), vr va1, vr va2, vr va3, vr b4, vj (1 : Int64), .second] [xi (1 : Int32)]) _
    exact retN X19 hx (t := .boolean) Bd.returns (by simp) (hb hby at_232) hr
  · exact ⟨rfl, N19⟩
theorem ef_own_c24_expected (m : MethodId) (u0 u1 u2 u3 u4 : Addr) (p1 : Int32) (p2 : Int32) (p3 : Int32) (p4 : Int32) : entryFrame m #[xi (0 : Int32), xi p1, xi p2, xi p3, xi p4] 5 = (mkF m 0 #[vi (0 : Int32), vi p1, vi p2, vi p3, vi p4] []) := by first | (simp [entryFrame, mkF, argsToLocals, Value.category]; done) | rfl
set_option maxRecDepth 65536 in
set_option maxHeartbeats 40000000 in
theorem own_c24_expected (l : Launch) (Z : State) (a0 : Array Value) (hw : ∀ d ∈ tables_1, d.before a0 Z = true) (u0 u1 u2 u3 u4 : Addr) (G : own_St Z u0 u1 u2 u3 u4) (p1 : Int32) (p2 : Int32) (p3 : Int32) (p4 : Int32) (as7 : (p4 &&& (1 : Int32)) = (1 : Int32)) (as8 : (p4 &&& (2 : Int32)) = (0 : Int32)) (as11 : (p4 &&& (4 : Int32)) = (4 : Int32)) (h0 : Heap) (n0 : Nat) (O0 : Old Z n0 h0) : own_Met l Z Y9 method_4_code 5 (some .long) ({ frames := 1, cells := 0, slots := 0, locals := 16 } : Room) #[xi (0 : Int32), xi p1, xi p2, xi p3, xi p4] h0 (own_QR (some (xj (((own_h p1 (0 : Int32)) + (0 : Int64)) + (own_h p3 (0 : Int32))))) h0 n0) := by
  intro ws
  refine MetFree.of_bodySF (plainFor_of_name pn3) hisR ?_
  intro p e s m args below meth c s₁ Bd hml0 hP hK
  obtain ⟨rfl, hZ, hh⟩ := hP
  have hx := Bd.exec
  have hby := Bd.bytes
  have hml : c.maxLocals = 5 := hml0
  have hown : s.vm.findClass "com/example/feedwright/feedwright/LoadSummaryAddPinLaw" = some m.cls := findClass_of_methodNamed Bd.named
  have hnm := (name_of_methodNamed Bd.named Bd.method).1
  have X0 : Stand p l e ({ frames := 1, cells := 0, slots := 0, locals := 16 } : Room) s m #[xi (0 : Int32), xi p1, xi p2, xi p3, xi p4] below meth c s₁ [] 0 0 := Stand.of_body Bd
  have e0 : s₁.heap = h0 := by rw [← hh, Bd.state]; rfl
  have N0 := Fr.nil n0
  have pre0 : ∀ t, Steps p.tables e below (s₁.setTop (mkF m 0 #[vi (0 : Int32), vi p1, vi p2, vi p3, vi p4] [])) t → Steps p.tables e below (s₁.setTop (entryFrame m #[xi (0 : Int32), xi p1, xi p2, xi p3, xi p4] 5)) t := fun t st => castTop (ef_own_c24_expected m u0 u1 u2 u3 u4 p1 p2 p3 p4) st
  obtain ⟨_, _, ⟨T1, L1, k1, n1⟩, -, X1, ⟨Lc1, hQ1, l1, y1, z1⟩, st1⟩ := Jvm.LawKit.callS X0 hx (y := Y6) hown (mvT hZ (ww hw 61 rfl)) (mvT hZ (ww hw 62 rfl)) (mvT hZ (ww hw 2 rfl)) (mvT hZ (ww hw 63 rfl)) (by decide) (backOf (W := 0) (own_hit l Z a0 hw u0 u1 u2 u3 u4 G p1 (0 : Int32) h0 n0 O0 []) hZ (ww hw 63 rfl) (ww hw 2 rfl) (by decide) (by decide)) (g := (mkF m 14 #[vi (0 : Int32), vi p1, vi p2, vi p3, vi p4] [xi (0 : Int32), xi p1, xi (1 : Int32)])) rfl (by rw [hml]; rfl) (argsL := [xi (1 : Int32), xi p1, xi (0 : Int32)]) (rest := []) (lenOf pd5 rfl) rfl (by show 2 * 0 + _ ≤ _; exact Nat.le_of_eq rfl) (hb hby d8_14) (fun _ _ => ⟨rfl, e0, (by decide : 0 + 0 ≤ _), (by decide : 0 + 0 ≤ _)⟩)
  dsimp only [Pt.U, Pt.locs, Pt.cells, Pt.slots] at X1 l1 y1 z1 st1 hQ1
  subst l1 y1 z1
  obtain ⟨rfl, Nq1, e1⟩ := hQ1
  have N1 := Fr.app N0 Nq1
  obtain ⟨_, _, ⟨T2, L2, k2, n2⟩, -, X2, ⟨Lc2, hQ2, l2, y2, z2⟩, st2⟩ := Jvm.LawKit.callS X1 hx (y := Y6) hown (mvT hZ (ww hw 61 rfl)) (mvT hZ (ww hw 62 rfl)) (mvT hZ (ww hw 2 rfl)) (mvT hZ (ww hw 63 rfl)) (by decide) (backOf (W := 2) (own_hit_off l Z a0 hw u0 u1 u2 u3 u4 G p2 (0 : Int32) h0 n0 O0 []) hZ (ww hw 63 rfl) (ww hw 2 rfl) (by decide) (by decide)) (g := (mkF m 31 #[vi (0 : Int32), vi p1, vi p2, vi p3, vi p4] [xi (0 : Int32), xi p2, xi (0 : Int32), xj (own_h p1 (0 : Int32))])) rfl (by rw [hml]; rfl) (argsL := [xi (0 : Int32), xi p2, xi (0 : Int32)]) (rest := [xj (own_h p1 (0 : Int32))]) (lenOf pd5 rfl) rfl (by show 2 * 0 + _ ≤ _; exact Nat.le_of_eq rfl) (hb hby d8_31) (fun _ _ => ⟨rfl, e1, (by decide : 0 + 0 ≤ _), (by decide : 0 + 0 ≤ _)⟩)
  dsimp only [Pt.U, Pt.locs, Pt.cells, Pt.slots] at X2 l2 y2 z2 st2 hQ2
  subst l2 y2 z2
  obtain ⟨rfl, Nq2, e2⟩ := hQ2
  have N2 := Fr.app N1 Nq2
  obtain ⟨_, _, ⟨T3, L3, k3, n3⟩, -, X3, ⟨Lc3, hQ3, l3, y3, z3⟩, st3⟩ := Jvm.LawKit.callS X2 hx (y := Y6) hown (mvT hZ (ww hw 61 rfl)) (mvT hZ (ww hw 62 rfl)) (mvT hZ (ww hw 2 rfl)) (mvT hZ (ww hw 63 rfl)) (by decide) (backOf (W := 2) (own_hit l Z a0 hw u0 u1 u2 u3 u4 G p3 (0 : Int32) h0 n0 O0 []) hZ (ww hw 63 rfl) (ww hw 2 rfl) (by decide) (by decide)) (g := (mkF m 49 #[vi (0 : Int32), vi p1, vi p2, vi p3, vi p4] [xi (0 : Int32), xi p3, xi (1 : Int32), xj ((own_h p1 (0 : Int32)) + (0 : Int64))])) rfl (by rw [hml]; rfl) (argsL := [xi (1 : Int32), xi p3, xi (0 : Int32)]) (rest := [xj ((own_h p1 (0 : Int32)) + (0 : Int64))]) (lenOf pd5 rfl) rfl (by show 2 * 0 + _ ≤ _; exact Nat.le_of_eq rfl) (hb hby d8_49) (fun _ _ => ⟨rfl, e2, (by decide : 0 + 0 ≤ _), (by decide : 0 + 0 ≤ _)⟩)
  dsimp only [Pt.U, Pt.locs, Pt.cells, Pt.slots] at X3 l3 y3 z3 st3 hQ3
  subst l3 y3 z3
  obtain ⟨rfl, Nq3, e3⟩ := hQ3
  have N3 := Fr.app N2 Nq3
  obtain ⟨fs, hr, hrun, hended, hW, hsame⟩ := X3.leave (v := some (xj (((own_h p1 (0 : Int32)) + (0 : Int64)) + (own_h p3 (0 : Int32))))) (fun h => by rw [Bd.returns] at h; cases h)
  refine ⟨_, _, pre0 _ ?_, hrun, hended, _, _, rfl, ?_, ⟨_, rfl⟩, hW, hsame.mono (by decide) (by decide)⟩
  · show own_S p e below s₁ (mkF m 0 #[vi (0 : Int32), vi p1, vi p2, vi p3, vi p4] []) _
    refine XS.iload X0.here hx rfl (hb hby d8_0) rfl ?_
    show own_S p e below s₁ (mkF m 2 #[vi (0 : Int32), vi p1, vi p2, vi p3, vi p4] [xi p4]) _
    refine XS.iconst X0.here hx rfl (hb hby d8_2) ?_
    show own_S p e below s₁ (mkF m 3 #[vi (0 : Int32), vi p1, vi p2, vi p3, vi p4] [xi (1 : Int32), xi p4]) _
    refine XS.iand X0.here hx rfl (hb hby d8_3) rfl ?_
    show own_S p e below s₁ (mkF m 4 #[vi (0 : Int32), vi p1, vi p2, vi p3, vi p4] [xi (p4 &&& (1 : Int32))]) _
    refine castTop (show (mkF m 4 #[vi (0 : Int32), vi p1, vi p2, vi p3, vi p4] [xi (p4 &&& (1 : Int32))]) = (mkF m 4 #[vi (0 : Int32), vi p1, vi p2, vi p3, vi p4] [xi (1 : Int32)]) from by rw [as7]) ?_
    show own_S p e below s₁ (mkF m 4 #[vi (0 : Int32), vi p1, vi p2, vi p3, vi p4] [xi (1 : Int32)]) _
    refine XS.ifNo X0.here hx rfl (hb hby d8_4) rfl (by decide) ?_
    show own_S p e below s₁ (mkF m 7 #[vi (0 : Int32), vi p1, vi p2, vi p3, vi p4] []) _
    refine XS.iconst X0.here hx rfl (hb hby d8_7) ?_
    show own_S p e below s₁ (mkF m 8 #[vi (0 : Int32), vi p1, vi p2, vi p3, vi p4] [xi (1 : Int32)]) _
    refine XS.goto X0.here hx rfl (pc0 := 8) (pc' := 12) rfl (hb hby d8_8) (by decide) (by decide) ?_
    show own_S p e below s₁ (mkF m 12 #[vi (0 : Int32), vi p1, vi p2, vi p3, vi p4] [xi (1 : Int32)]) _
    refine XS.iloadN X0.here hx rfl (hb hby d8_12) rfl ?_
    show own_S p e below s₁ (mkF m 13 #[vi (0 : Int32), vi p1, vi p2, vi p3, vi p4] [xi p1, xi (1 : Int32)]) _
    refine XS.iloadN X0.here hx rfl (hb hby d8_13) rfl ?_
    show own_S p e below s₁ (mkF m 14 #[vi (0 : Int32), vi p1, vi p2, vi p3, vi p4] [xi (0 : Int32), xi p1, xi (1 : Int32)]) _
    refine st1 _ ?_
    show own_S p e below T1 (mkF m 17 #[vi (0 : Int32), vi p1, vi p2, vi p3, vi p4] [xj (own_h p1 (0 : Int32))]) _
    refine XS.iload X1.here hx rfl (hb hby d8_17) rfl ?_
    show own_S p e below T1 (mkF m 19 #[vi (0 : Int32), vi p1, vi p2, vi p3, vi p4] [xi p4, xj (own_h p1 (0 : Int32))]) _
    refine XS.iconst X1.here hx rfl (hb hby d8_19) ?_
    show own_S p e below T1 (mkF m 20 #[vi (0 : Int32), vi p1, vi p2, vi p3, vi p4] [xi (2 : Int32), xi p4, xj (own_h p1 (0 : Int32))]) _
    refine XS.iand X1.here hx rfl (hb hby d8_20) rfl ?_
    show own_S p e below T1 (mkF m 21 #[vi (0 : Int32), vi p1, vi p2, vi p3, vi p4] [xi (p4 &&& (2 : Int32)), xj (own_h p1 (0 : Int32))]) _
    refine castTop (show (mkF m 21 #[vi (0 : Int32), vi p1, vi p2, vi p3, vi p4] [xi (p4 &&& (2 : Int32)), xj (own_h p1 (0 : Int32))]) = (mkF m 21 #[vi (0 : Int32), vi p1, vi p2, vi p3, vi p4] [xi (0 : Int32), xj (own_h p1 (0 : Int32))]) from by rw [as8]) ?_
    show own_S p e below T1 (mkF m 21 #[vi (0 : Int32), vi p1, vi p2, vi p3, vi p4] [xi (0 : Int32), xj (own_h p1 (0 : Int32))]) _
    refine XS.ifYes X1.here hx rfl (pc0 := 21) (pc' := 28) rfl (hb hby d8_21) rfl (by decide) (by decide) (by decide) ?_
    show own_S p e below T1 (mkF m 28 #[vi (0 : Int32), vi p1, vi p2, vi p3, vi p4] [xj (own_h p1 (0 : Int32))]) _
    refine XS.iconst X1.here hx rfl (hb hby d8_28) ?_
    show own_S p e below T1 (mkF m 29 #[vi (0 : Int32), vi p1, vi p2, vi p3, vi p4] [xi (0 : Int32), xj (own_h p1 (0 : Int32))]) _
    refine XS.iloadN X1.here hx rfl (hb hby d8_29) rfl ?_
    show own_S p e below T1 (mkF m 30 #[vi (0 : Int32), vi p1, vi p2, vi p3, vi p4] [xi p2, xi (0 : Int32), xj (own_h p1 (0 : Int32))]) _
    refine XS.iloadN X1.here hx rfl (hb hby d8_30) rfl ?_
    show own_S p e below T1 (mkF m 31 #[vi (0 : Int32), vi p1, vi p2, vi p3, vi p4] [xi (0 : Int32), xi p2, xi (0 : Int32), xj (own_h p1 (0 : Int32))]) _
    refine st2 _ ?_
    show own_S p e below T2 (mkF m 34 #[vi (0 : Int32), vi p1, vi p2, vi p3, vi p4] [xj (0 : Int64), xj (own_h p1 (0 : Int32))]) _
    refine XS.ladd X2.here hx rfl (hb hby d8_34) rfl ?_
    show own_S p e below T2 (mkF m 35 #[vi (0 : Int32), vi p1, vi p2, vi p3, vi p4] [xj ((own_h p1 (0 : Int32)) + (0 : Int64))]) _
    show own_S p e below T2 (mkF m 35 #[vi (0 : Int32), vi p1, vi p2, vi p3, vi p4] [xj ((own_h p1 (0 : Int32)) + (0 : Int64))]) _
    refine XS.iload X2.here hx rfl (hb hby d8_35) rfl ?_
    show own_S p e below T2 (mkF m 37 #[vi (0 : Int32), vi p1, vi p2, vi p3, vi p4] [xi p4, xj ((own_h p1 (0 : Int32)) + (0 : Int64))]) _
    refine XS.iconst X2.here hx rfl (hb hby d8_37) ?_
    show own_S p e below T2 (mkF m 38 #[vi (0 : Int32), vi p1, vi p2, vi p3, vi p4] [xi (4 : Int32), xi p4, xj ((own_h p1 (0 : Int32)) + (0 : Int64))]) _
    refine XS.iand X2.here hx rfl (hb hby d8_38) rfl ?_
    show own_S p e below T2 (mkF m 39 #[vi (0 : Int32), vi p1, vi p2, vi p3, vi p4] [xi (p4 &&& (4 : Int32)), xj ((own_h p1 (0 : Int32)) + (0 : Int64))]) _
    refine castTop (show (mkF m 39 #[vi (0 : Int32), vi p1, vi p2, vi p3, vi p4] [xi (p4 &&& (4 : Int32)), xj ((own_h p1 (0 : Int32)) + (0 : Int64))]) = (mkF m 39 #[vi (0 : Int32), vi p1, vi p2, vi p3, vi p4] [xi (4 : Int32), xj ((own_h p1 (0 : Int32)) + (0 : Int64))]) from by rw [as11]) ?_
    show own_S p e below T2 (mkF m 39 #[vi (0 : Int32), vi p1, vi p2, vi p3, vi p4] [xi (4 : Int32), xj ((own_h p1 (0 : Int32)) + (0 : Int64))]) _
    refine XS.ifNo X2.here hx rfl (hb hby d8_39) rfl (by decide) ?_
    show own_S p e below T2 (mkF m 42 #[vi (0 : Int32), vi p1, vi p2, vi p3, vi p4] [xj ((own_h p1 (0 : Int32)) + (0 : Int64))]) _
    refine XS.iconst X2.here hx rfl (hb hby d8_42) ?_
    show own_S p e below T2 (mkF m 43 #[vi (0 : Int32), vi p1, vi p2, vi p3, vi p4] [xi (1 : Int32), xj ((own_h p1 (0 : Int32)) + (0 : Int64))]) _
    refine XS.goto X2.here hx rfl (pc0 := 43) (pc' := 47) rfl (hb hby d8_43) (by decide) (by decide) ?_
    show own_S p e below T2 (mkF m 47 #[vi (0 : Int32), vi p1, vi p2, vi p3, vi p4] [xi (1 : Int32), xj ((own_h p1 (0 : Int32)) + (0 : Int64))]) _
    refine XS.iloadN X2.here hx rfl (hb hby d8_47) rfl ?_
    show own_S p e below T2 (mkF m 48 #[vi (0 : Int32), vi p1, vi p2, vi p3, vi p4] [xi p3, xi (1 : Int32), xj ((own_h p1 (0 : Int32)) + (0 : Int64))]) _
    refine XS.iloadN X2.here hx rfl (hb hby d8_48) rfl ?_
    show own_S p e below T2 (mkF m 49 #[vi (0 : Int32), vi p1, vi p2, vi p3, vi p4] [xi (0 : Int32), xi p3, xi (1 : Int32), xj ((own_h p1 (0 : Int32)) + (0 : Int64))]) _
    refine st3 _ ?_
    show own_S p e below T3 (mkF m 52 #[vi (0 : Int32), vi p1, vi p2, vi p3, vi p4] [xj (own_h p3 (0 : Int32)), xj ((own_h p1 (0 : Int32)) + (0 : Int64))]) _
    refine XS.ladd X3.here hx rfl (hb hby d8_52) rfl ?_
    show own_S p e below T3 (mkF m 53 #[vi (0 : Int32), vi p1, vi p2, vi p3, vi p4] [xj (((own_h p1 (0 : Int32)) + (0 : Int64)) + (own_h p3 (0 : Int32)))]) _
    show own_S p e below T3 (mkF m 53 #[vi (0 : Int32), vi p1, vi p2, vi p3, vi p4] [xj (((own_h p1 (0 : Int32)) + (0 : Int64)) + (own_h p3 (0 : Int32)))]) _
    exact X3.lreturnOut hx Bd.returns (hb hby d8_53) hr
  · exact ⟨rfl, N3, e3⟩
theorem ef_own_c25_expected (m : MethodId) (u0 u1 u2 u3 u4 : Addr) (p1 : Int32) (p2 : Int32) (p3 : Int32) (p4 : Int32) : entryFrame m #[xi (1 : Int32), xi p1, xi p2, xi p3, xi p4] 5 = (mkF m 0 #[vi (1 : Int32), vi p1, vi p2, vi p3, vi p4] []) := by first | (simp [entryFrame, mkF, argsToLocals, Value.category]; done) | rfl
set_option maxRecDepth 65536 in
set_option maxHeartbeats 40000000 in
theorem own_c25_expected (l : Launch) (Z : State) (a0 : Array Value) (hw : ∀ d ∈ tables_1, d.before a0 Z = true) (u0 u1 u2 u3 u4 : Addr) (G : own_St Z u0 u1 u2 u3 u4) (p1 : Int32) (p2 : Int32) (p3 : Int32) (p4 : Int32) (as7 : (p4 &&& (1 : Int32)) = (1 : Int32)) (as8 : (p4 &&& (2 : Int32)) = (0 : Int32)) (as11 : (p4 &&& (4 : Int32)) = (4 : Int32)) (h0 : Heap) (n0 : Nat) (O0 : Old Z n0 h0) : own_Met l Z Y9 method_4_code 5 (some .long) ({ frames := 1, cells := 0, slots := 0, locals := 16 } : Room) #[xi (1 : Int32), xi p1, xi p2, xi p3, xi p4] h0 (own_QR (some (xj (((own_h p1 (1 : Int32)) + (0 : Int64)) + (own_h p3 (1 : Int32))))) h0 n0) := by
  intro ws
  refine MetFree.of_bodySF (plainFor_of_name pn3) hisR ?_
  intro p e s m args below meth c s₁ Bd hml0 hP hK
  obtain ⟨rfl, hZ, hh⟩ := hP
  have hx := Bd.exec
  have hby := Bd.bytes
  have hml : c.maxLocals = 5 := hml0
  have hown : s.vm.findClass "com/example/feedwright/feedwright/LoadSummaryAddPinLaw" = some m.cls := findClass_of_methodNamed Bd.named
  have hnm := (name_of_methodNamed Bd.named Bd.method).1
  have X0 : Stand p l e ({ frames := 1, cells := 0, slots := 0, locals := 16 } : Room) s m #[xi (1 : Int32), xi p1, xi p2, xi p3, xi p4] below meth c s₁ [] 0 0 := Stand.of_body Bd
  have e0 : s₁.heap = h0 := by rw [← hh, Bd.state]; rfl
  have N0 := Fr.nil n0
  have pre0 : ∀ t, Steps p.tables e below (s₁.setTop (mkF m 0 #[vi (1 : Int32), vi p1, vi p2, vi p3, vi p4] [])) t → Steps p.tables e below (s₁.setTop (entryFrame m #[xi (1 : Int32), xi p1, xi p2, xi p3, xi p4] 5)) t := fun t st => castTop (ef_own_c25_expected m u0 u1 u2 u3 u4 p1 p2 p3 p4) st
  obtain ⟨_, _, ⟨T1, L1, k1, n1⟩, -, X1, ⟨Lc1, hQ1, l1, y1, z1⟩, st1⟩ := Jvm.LawKit.callS X0 hx (y := Y6) hown (mvT hZ (ww hw 61 rfl)) (mvT hZ (ww hw 62 rfl)) (mvT hZ (ww hw 2 rfl)) (mvT hZ (ww hw 63 rfl)) (by decide) (backOf (W := 0) (own_hit l Z a0 hw u0 u1 u2 u3 u4 G p1 (1 : Int32) h0 n0 O0 []) hZ (ww hw 63 rfl) (ww hw 2 rfl) (by decide) (by decide)) (g := (mkF m 14 #[vi (1 : Int32), vi p1, vi p2, vi p3, vi p4] [xi (1 : Int32), xi p1, xi (1 : Int32)])) rfl (by rw [hml]; rfl) (argsL := [xi (1 : Int32), xi p1, xi (1 : Int32)]) (rest := []) (lenOf pd5 rfl) rfl (by show 2 * 0 + _ ≤ _; exact Nat.le_of_eq rfl) (hb hby d8_14) (fun _ _ => ⟨rfl, e0, (by decide : 0 + 0 ≤ _), (by decide : 0 + 0 ≤ _)⟩)
  dsimp only [Pt.U, Pt.locs, Pt.cells, Pt.slots] at X1 l1 y1 z1 st1 hQ1
  subst l1 y1 z1
  obtain ⟨rfl, Nq1, e1⟩ := hQ1
  have N1 := Fr.app N0 Nq1
  obtain ⟨_, _, ⟨T2, L2, k2, n2⟩, -, X2, ⟨Lc2, hQ2, l2, y2, z2⟩, st2⟩ := Jvm.LawKit.callS X1 hx (y := Y6) hown (mvT hZ (ww hw 61 rfl)) (mvT hZ (ww hw 62 rfl)) (mvT hZ (ww hw 2 rfl)) (mvT hZ (ww hw 63 rfl)) (by decide) (backOf (W := 2) (own_hit_off l Z a0 hw u0 u1 u2 u3 u4 G p2 (1 : Int32) h0 n0 O0 []) hZ (ww hw 63 rfl) (ww hw 2 rfl) (by decide) (by decide)) (g := (mkF m 31 #[vi (1 : Int32), vi p1, vi p2, vi p3, vi p4] [xi (1 : Int32), xi p2, xi (0 : Int32), xj (own_h p1 (1 : Int32))])) rfl (by rw [hml]; rfl) (argsL := [xi (0 : Int32), xi p2, xi (1 : Int32)]) (rest := [xj (own_h p1 (1 : Int32))]) (lenOf pd5 rfl) rfl (by show 2 * 0 + _ ≤ _; exact Nat.le_of_eq rfl) (hb hby d8_31) (fun _ _ => ⟨rfl, e1, (by decide : 0 + 0 ≤ _), (by decide : 0 + 0 ≤ _)⟩)
  dsimp only [Pt.U, Pt.locs, Pt.cells, Pt.slots] at X2 l2 y2 z2 st2 hQ2
  subst l2 y2 z2
  obtain ⟨rfl, Nq2, e2⟩ := hQ2
  have N2 := Fr.app N1 Nq2
  obtain ⟨_, _, ⟨T3, L3, k3, n3⟩, -, X3, ⟨Lc3, hQ3, l3, y3, z3⟩, st3⟩ := Jvm.LawKit.callS X2 hx (y := Y6) hown (mvT hZ (ww hw 61 rfl)) (mvT hZ (ww hw 62 rfl)) (mvT hZ (ww hw 2 rfl)) (mvT hZ (ww hw 63 rfl)) (by decide) (backOf (W := 2) (own_hit l Z a0 hw u0 u1 u2 u3 u4 G p3 (1 : Int32) h0 n0 O0 []) hZ (ww hw 63 rfl) (ww hw 2 rfl) (by decide) (by decide)) (g := (mkF m 49 #[vi (1 : Int32), vi p1, vi p2, vi p3, vi p4] [xi (1 : Int32), xi p3, xi (1 : Int32), xj ((own_h p1 (1 : Int32)) + (0 : Int64))])) rfl (by rw [hml]; rfl) (argsL := [xi (1 : Int32), xi p3, xi (1 : Int32)]) (rest := [xj ((own_h p1 (1 : Int32)) + (0 : Int64))]) (lenOf pd5 rfl) rfl (by show 2 * 0 + _ ≤ _; exact Nat.le_of_eq rfl) (hb hby d8_49) (fun _ _ => ⟨rfl, e2, (by decide : 0 + 0 ≤ _), (by decide : 0 + 0 ≤ _)⟩)
  dsimp only [Pt.U, Pt.locs, Pt.cells, Pt.slots] at X3 l3 y3 z3 st3 hQ3
  subst l3 y3 z3
  obtain ⟨rfl, Nq3, e3⟩ := hQ3
  have N3 := Fr.app N2 Nq3
  obtain ⟨fs, hr, hrun, hended, hW, hsame⟩ := X3.leave (v := some (xj (((own_h p1 (1 : Int32)) + (0 : Int64)) + (own_h p3 (1 : Int32))))) (fun h => by rw [Bd.returns] at h; cases h)
  refine ⟨_, _, pre0 _ ?_, hrun, hended, _, _, rfl, ?_, ⟨_, rfl⟩, hW, hsame.mono (by decide) (by decide)⟩
  · show own_S p e below s₁ (mkF m 0 #[vi (1 : Int32), vi p1, vi p2, vi p3, vi p4] []) _
    refine XS.iload X0.here hx rfl (hb hby d8_0) rfl ?_
    show own_S p e below s₁ (mkF m 2 #[vi (1 : Int32), vi p1, vi p2, vi p3, vi p4] [xi p4]) _
    refine XS.iconst X0.here hx rfl (hb hby d8_2) ?_
    show own_S p e below s₁ (mkF m 3 #[vi (1 : Int32), vi p1, vi p2, vi p3, vi p4] [xi (1 : Int32), xi p4]) _
    refine XS.iand X0.here hx rfl (hb hby d8_3) rfl ?_
    show own_S p e below s₁ (mkF m 4 #[vi (1 : Int32), vi p1, vi p2, vi p3, vi p4] [xi (p4 &&& (1 : Int32))]) _
    refine castTop (show (mkF m 4 #[vi (1 : Int32), vi p1, vi p2, vi p3, vi p4] [xi (p4 &&& (1 : Int32))]) = (mkF m 4 #[vi (1 : Int32), vi p1, vi p2, vi p3, vi p4] [xi (1 : Int32)]) from by rw [as7]) ?_
    show own_S p e below s₁ (mkF m 4 #[vi (1 : Int32), vi p1, vi p2, vi p3, vi p4] [xi (1 : Int32)]) _
    refine XS.ifNo X0.here hx rfl (hb hby d8_4) rfl (by decide) ?_
    show own_S p e below s₁ (mkF m 7 #[vi (1 : Int32), vi p1, vi p2, vi p3, vi p4] []) _
    refine XS.iconst X0.here hx rfl (hb hby d8_7) ?_
    show own_S p e below s₁ (mkF m 8 #[vi (1 : Int32), vi p1, vi p2, vi p3, vi p4] [xi (1 : Int32)]) _
    refine XS.goto X0.here hx rfl (pc0 := 8) (pc' := 12) rfl (hb hby d8_8) (by decide) (by decide) ?_
    show own_S p e below s₁ (mkF m 12 #[vi (1 : Int32), vi p1, vi p2, vi p3, vi p4] [xi (1 : Int32)]) _
    refine XS.iloadN X0.here hx rfl (hb hby d8_12) rfl ?_
    show own_S p e below s₁ (mkF m 13 #[vi (1 : Int32), vi p1, vi p2, vi p3, vi p4] [xi p1, xi (1 : Int32)]) _
    refine XS.iloadN X0.here hx rfl (hb hby d8_13) rfl ?_
    show own_S p e below s₁ (mkF m 14 #[vi (1 : Int32), vi p1, vi p2, vi p3, vi p4] [xi (1 : Int32), xi p1, xi (1 : Int32)]) _
    refine st1 _ ?_
    show own_S p e below T1 (mkF m 17 #[vi (1 : Int32), vi p1, vi p2, vi p3, vi p4] [xj (own_h p1 (1 : Int32))]) _
    refine XS.iload X1.here hx rfl (hb hby d8_17) rfl ?_
    show own_S p e below T1 (mkF m 19 #[vi (1 : Int32), vi p1, vi p2, vi p3, vi p4] [xi p4, xj (own_h p1 (1 : Int32))]) _
    refine XS.iconst X1.here hx rfl (hb hby d8_19) ?_
    show own_S p e below T1 (mkF m 20 #[vi (1 : Int32), vi p1, vi p2, vi p3, vi p4] [xi (2 : Int32), xi p4, xj (own_h p1 (1 : Int32))]) _
    refine XS.iand X1.here hx rfl (hb hby d8_20) rfl ?_
    show own_S p e below T1 (mkF m 21 #[vi (1 : Int32), vi p1, vi p2, vi p3, vi p4] [xi (p4 &&& (2 : Int32)), xj (own_h p1 (1 : Int32))]) _
    refine castTop (show (mkF m 21 #[vi (1 : Int32), vi p1, vi p2, vi p3, vi p4] [xi (p4 &&& (2 : Int32)), xj (own_h p1 (1 : Int32))]) = (mkF m 21 #[vi (1 : Int32), vi p1, vi p2, vi p3, vi p4] [xi (0 : Int32), xj (own_h p1 (1 : Int32))]) from by rw [as8]) ?_
    show own_S p e below T1 (mkF m 21 #[vi (1 : Int32), vi p1, vi p2, vi p3, vi p4] [xi (0 : Int32), xj (own_h p1 (1 : Int32))]) _
    refine XS.ifYes X1.here hx rfl (pc0 := 21) (pc' := 28) rfl (hb hby d8_21) rfl (by decide) (by decide) (by decide) ?_
    show own_S p e below T1 (mkF m 28 #[vi (1 : Int32), vi p1, vi p2, vi p3, vi p4] [xj (own_h p1 (1 : Int32))]) _
    refine XS.iconst X1.here hx rfl (hb hby d8_28) ?_
    show own_S p e below T1 (mkF m 29 #[vi (1 : Int32), vi p1, vi p2, vi p3, vi p4] [xi (0 : Int32), xj (own_h p1 (1 : Int32))]) _
    refine XS.iloadN X1.here hx rfl (hb hby d8_29) rfl ?_
    show own_S p e below T1 (mkF m 30 #[vi (1 : Int32), vi p1, vi p2, vi p3, vi p4] [xi p2, xi (0 : Int32), xj (own_h p1 (1 : Int32))]) _
    refine XS.iloadN X1.here hx rfl (hb hby d8_30) rfl ?_
    show own_S p e below T1 (mkF m 31 #[vi (1 : Int32), vi p1, vi p2, vi p3, vi p4] [xi (1 : Int32), xi p2, xi (0 : Int32), xj (own_h p1 (1 : Int32))]) _
    refine st2 _ ?_
    show own_S p e below T2 (mkF m 34 #[vi (1 : Int32), vi p1, vi p2, vi p3, vi p4] [xj (0 : Int64), xj (own_h p1 (1 : Int32))]) _
    refine XS.ladd X2.here hx rfl (hb hby d8_34) rfl ?_
    show own_S p e below T2 (mkF m 35 #[vi (1 : Int32), vi p1, vi p2, vi p3, vi p4] [xj ((own_h p1 (1 : Int32)) + (0 : Int64))]) _
    show own_S p e below T2 (mkF m 35 #[vi (1 : Int32), vi p1, vi p2, vi p3, vi p4] [xj ((own_h p1 (1 : Int32)) + (0 : Int64))]) _
    refine XS.iload X2.here hx rfl (hb hby d8_35) rfl ?_
    show own_S p e below T2 (mkF m 37 #[vi (1 : Int32), vi p1, vi p2, vi p3, vi p4] [xi p4, xj ((own_h p1 (1 : Int32)) + (0 : Int64))]) _
    refine XS.iconst X2.here hx rfl (hb hby d8_37) ?_
    show own_S p e below T2 (mkF m 38 #[vi (1 : Int32), vi p1, vi p2, vi p3, vi p4] [xi (4 : Int32), xi p4, xj ((own_h p1 (1 : Int32)) + (0 : Int64))]) _
    refine XS.iand X2.here hx rfl (hb hby d8_38) rfl ?_
    show own_S p e below T2 (mkF m 39 #[vi (1 : Int32), vi p1, vi p2, vi p3, vi p4] [xi (p4 &&& (4 : Int32)), xj ((own_h p1 (1 : Int32)) + (0 : Int64))]) _
    refine castTop (show (mkF m 39 #[vi (1 : Int32), vi p1, vi p2, vi p3, vi p4] [xi (p4 &&& (4 : Int32)), xj ((own_h p1 (1 : Int32)) + (0 : Int64))]) = (mkF m 39 #[vi (1 : Int32), vi p1, vi p2, vi p3, vi p4] [xi (4 : Int32), xj ((own_h p1 (1 : Int32)) + (0 : Int64))]) from by rw [as11]) ?_
    show own_S p e below T2 (mkF m 39 #[vi (1 : Int32), vi p1, vi p2, vi p3, vi p4] [xi (4 : Int32), xj ((own_h p1 (1 : Int32)) + (0 : Int64))]) _
    refine XS.ifNo X2.here hx rfl (hb hby d8_39) rfl (by decide) ?_
    show own_S p e below T2 (mkF m 42 #[vi (1 : Int32), vi p1, vi p2, vi p3, vi p4] [xj ((own_h p1 (1 : Int32)) + (0 : Int64))]) _
    refine XS.iconst X2.here hx rfl (hb hby d8_42) ?_
    show own_S p e below T2 (mkF m 43 #[vi (1 : Int32), vi p1, vi p2, vi p3, vi p4] [xi (1 : Int32), xj ((own_h p1 (1 : Int32)) + (0 : Int64))]) _
    refine XS.goto X2.here hx rfl (pc0 := 43) (pc' := 47) rfl (hb hby d8_43) (by decide) (by decide) ?_
    show own_S p e below T2 (mkF m 47 #[vi (1 : Int32), vi p1, vi p2, vi p3, vi p4] [xi (1 : Int32), xj ((own_h p1 (1 : Int32)) + (0 : Int64))]) _
    refine XS.iloadN X2.here hx rfl (hb hby d8_47) rfl ?_
    show own_S p e below T2 (mkF m 48 #[vi (1 : Int32), vi p1, vi p2, vi p3, vi p4] [xi p3, xi (1 : Int32), xj ((own_h p1 (1 : Int32)) + (0 : Int64))]) _
    refine XS.iloadN X2.here hx rfl (hb hby d8_48) rfl ?_
    show own_S p e below T2 (mkF m 49 #[vi (1 : Int32), vi p1, vi p2, vi p3, vi p4] [xi (1 : Int32), xi p3, xi (1 : Int32), xj ((own_h p1 (1 : Int32)) + (0 : Int64))]) _
    refine st3 _ ?_
    show own_S p e below T3 (mkF m 52 #[vi (1 : Int32), vi p1, vi p2, vi p3, vi p4] [xj (own_h p3 (1 : Int32)), xj ((own_h p1 (1 : Int32)) + (0 : Int64))]) _
    refine XS.ladd X3.here hx rfl (hb hby d8_52) rfl ?_
    show own_S p e below T3 (mkF m 53 #[vi (1 : Int32), vi p1, vi p2, vi p3, vi p4] [xj (((own_h p1 (1 : Int32)) + (0 : Int64)) + (own_h p3 (1 : Int32)))]) _
    show own_S p e below T3 (mkF m 53 #[vi (1 : Int32), vi p1, vi p2, vi p3, vi p4] [xj (((own_h p1 (1 : Int32)) + (0 : Int64)) + (own_h p3 (1 : Int32)))]) _
    exact X3.lreturnOut hx Bd.returns (hb hby d8_53) hr
  · exact ⟨rfl, N3, e3⟩
theorem ef_own_c26_expected (m : MethodId) (u0 u1 u2 u3 u4 : Addr) (p1 : Int32) (p2 : Int32) (p3 : Int32) (p4 : Int32) : entryFrame m #[xi (2 : Int32), xi p1, xi p2, xi p3, xi p4] 5 = (mkF m 0 #[vi (2 : Int32), vi p1, vi p2, vi p3, vi p4] []) := by first | (simp [entryFrame, mkF, argsToLocals, Value.category]; done) | rfl
set_option maxRecDepth 65536 in
set_option maxHeartbeats 40000000 in
theorem own_c26_expected (l : Launch) (Z : State) (a0 : Array Value) (hw : ∀ d ∈ tables_1, d.before a0 Z = true) (u0 u1 u2 u3 u4 : Addr) (G : own_St Z u0 u1 u2 u3 u4) (p1 : Int32) (p2 : Int32) (p3 : Int32) (p4 : Int32) (as7 : (p4 &&& (1 : Int32)) = (1 : Int32)) (as8 : (p4 &&& (2 : Int32)) = (0 : Int32)) (as11 : (p4 &&& (4 : Int32)) = (4 : Int32)) (h0 : Heap) (n0 : Nat) (O0 : Old Z n0 h0) : own_Met l Z Y9 method_4_code 5 (some .long) ({ frames := 1, cells := 0, slots := 0, locals := 16 } : Room) #[xi (2 : Int32), xi p1, xi p2, xi p3, xi p4] h0 (own_QR (some (xj (((own_h p1 (2 : Int32)) + (0 : Int64)) + (own_h p3 (2 : Int32))))) h0 n0) := by
  intro ws
  refine MetFree.of_bodySF (plainFor_of_name pn3) hisR ?_
  intro p e s m args below meth c s₁ Bd hml0 hP hK
  obtain ⟨rfl, hZ, hh⟩ := hP
  have hx := Bd.exec
  have hby := Bd.bytes
  have hml : c.maxLocals = 5 := hml0
  have hown : s.vm.findClass "com/example/feedwright/feedwright/LoadSummaryAddPinLaw" = some m.cls := findClass_of_methodNamed Bd.named
  have hnm := (name_of_methodNamed Bd.named Bd.method).1
  have X0 : Stand p l e ({ frames := 1, cells := 0, slots := 0, locals := 16 } : Room) s m #[xi (2 : Int32), xi p1, xi p2, xi p3, xi p4] below meth c s₁ [] 0 0 := Stand.of_body Bd
  have e0 : s₁.heap = h0 := by rw [← hh, Bd.state]; rfl
  have N0 := Fr.nil n0
  have pre0 : ∀ t, Steps p.tables e below (s₁.setTop (mkF m 0 #[vi (2 : Int32), vi p1, vi p2, vi p3, vi p4] [])) t → Steps p.tables e below (s₁.setTop (entryFrame m #[xi (2 : Int32), xi p1, xi p2, xi p3, xi p4] 5)) t := fun t st => castTop (ef_own_c26_expected m u0 u1 u2 u3 u4 p1 p2 p3 p4) st
  obtain ⟨_, _, ⟨T1, L1, k1, n1⟩, -, X1, ⟨Lc1, hQ1, l1, y1, z1⟩, st1⟩ := Jvm.LawKit.callS X0 hx (y := Y6) hown (mvT hZ (ww hw 61 rfl)) (mvT hZ (ww hw 62 rfl)) (mvT hZ (ww hw 2 rfl)) (mvT hZ (ww hw 63 rfl)) (by decide) (backOf (W := 0) (own_hit l Z a0 hw u0 u1 u2 u3 u4 G p1 (2 : Int32) h0 n0 O0 []) hZ (ww hw 63 rfl) (ww hw 2 rfl) (by decide) (by decide)) (g := (mkF m 14 #[vi (2 : Int32), vi p1, vi p2, vi p3, vi p4] [xi (2 : Int32), xi p1, xi (1 : Int32)])) rfl (by rw [hml]; rfl) (argsL := [xi (1 : Int32), xi p1, xi (2 : Int32)]) (rest := []) (lenOf pd5 rfl) rfl (by show 2 * 0 + _ ≤ _; exact Nat.le_of_eq rfl) (hb hby d8_14) (fun _ _ => ⟨rfl, e0, (by decide : 0 + 0 ≤ _), (by decide : 0 + 0 ≤ _)⟩)
  dsimp only [Pt.U, Pt.locs, Pt.cells, Pt.slots] at X1 l1 y1 z1 st1 hQ1
  subst l1 y1 z1
  obtain ⟨rfl, Nq1, e1⟩ := hQ1
  have N1 := Fr.app N0 Nq1
  obtain ⟨_, _, ⟨T2, L2, k2, n2⟩, -, X2, ⟨Lc2, hQ2, l2, y2, z2⟩, st2⟩ := Jvm.LawKit.callS X1 hx (y := Y6) hown (mvT hZ (ww hw 61 rfl)) (mvT hZ (ww hw 62 rfl)) (mvT hZ (ww hw 2 rfl)) (mvT hZ (ww hw 63 rfl)) (by decide) (backOf (W := 2) (own_hit_off l Z a0 hw u0 u1 u2 u3 u4 G p2 (2 : Int32) h0 n0 O0 []) hZ (ww hw 63 rfl) (ww hw 2 rfl) (by decide) (by decide)) (g := (mkF m 31 #[vi (2 : Int32), vi p1, vi p2, vi p3, vi p4] [xi (2 : Int32), xi p2, xi (0 : Int32), xj (own_h p1 (2 : Int32))])) rfl (by rw [hml]; rfl) (argsL := [xi (0 : Int32), xi p2, xi (2 : Int32)]) (rest := [xj (own_h p1 (2 : Int32))]) (lenOf pd5 rfl) rfl (by show 2 * 0 + _ ≤ _; exact Nat.le_of_eq rfl) (hb hby d8_31) (fun _ _ => ⟨rfl, e1, (by decide : 0 + 0 ≤ _), (by decide : 0 + 0 ≤ _)⟩)
  dsimp only [Pt.U, Pt.locs, Pt.cells, Pt.slots] at X2 l2 y2 z2 st2 hQ2
  subst l2 y2 z2
  obtain ⟨rfl, Nq2, e2⟩ := hQ2
  have N2 := Fr.app N1 Nq2
  obtain ⟨_, _, ⟨T3, L3, k3, n3⟩, -, X3, ⟨Lc3, hQ3, l3, y3, z3⟩, st3⟩ := Jvm.LawKit.callS X2 hx (y := Y6) hown (mvT hZ (ww hw 61 rfl)) (mvT hZ (ww hw 62 rfl)) (mvT hZ (ww hw 2 rfl)) (mvT hZ (ww hw 63 rfl)) (by decide) (backOf (W := 2) (own_hit l Z a0 hw u0 u1 u2 u3 u4 G p3 (2 : Int32) h0 n0 O0 []) hZ (ww hw 63 rfl) (ww hw 2 rfl) (by decide) (by decide)) (g := (mkF m 49 #[vi (2 : Int32), vi p1, vi p2, vi p3, vi p4] [xi (2 : Int32), xi p3, xi (1 : Int32), xj ((own_h p1 (2 : Int32)) + (0 : Int64))])) rfl (by rw [hml]; rfl) (argsL := [xi (1 : Int32), xi p3, xi (2 : Int32)]) (rest := [xj ((own_h p1 (2 : Int32)) + (0 : Int64))]) (lenOf pd5 rfl) rfl (by show 2 * 0 + _ ≤ _; exact Nat.le_of_eq rfl) (hb hby d8_49) (fun _ _ => ⟨rfl, e2, (by decide : 0 + 0 ≤ _), (by decide : 0 + 0 ≤ _)⟩)
  dsimp only [Pt.U, Pt.locs, Pt.cells, Pt.slots] at X3 l3 y3 z3 st3 hQ3
  subst l3 y3 z3
  obtain ⟨rfl, Nq3, e3⟩ := hQ3
  have N3 := Fr.app N2 Nq3
  obtain ⟨fs, hr, hrun, hended, hW, hsame⟩ := X3.leave (v := some (xj (((own_h p1 (2 : Int32)) + (0 : Int64)) + (own_h p3 (2 : Int32))))) (fun h => by rw [Bd.returns] at h; cases h)
  refine ⟨_, _, pre0 _ ?_, hrun, hended, _, _, rfl, ?_, ⟨_, rfl⟩, hW, hsame.mono (by decide) (by decide)⟩
  · show own_S p e below s₁ (mkF m 0 #[vi (2 : Int32), vi p1, vi p2, vi p3, vi p4] []) _
    refine XS.iload X0.here hx rfl (hb hby d8_0) rfl ?_
    show own_S p e below s₁ (mkF m 2 #[vi (2 : Int32), vi p1, vi p2, vi p3, vi p4] [xi p4]) _
    refine XS.iconst X0.here hx rfl (hb hby d8_2) ?_
    show own_S p e below s₁ (mkF m 3 #[vi (2 : Int32), vi p1, vi p2, vi p3, vi p4] [xi (1 : Int32), xi p4]) _
    refine XS.iand X0.here hx rfl (hb hby d8_3) rfl ?_
    show own_S p e below s₁ (mkF m 4 #[vi (2 : Int32), vi p1, vi p2, vi p3, vi p4] [xi (p4 &&& (1 : Int32))]) _
    refine castTop (show (mkF m 4 #[vi (2 : Int32), vi p1, vi p2, vi p3, vi p4] [xi (p4 &&& (1 : Int32))]) = (mkF m 4 #[vi (2 : Int32), vi p1, vi p2, vi p3, vi p4] [xi (1 : Int32)]) from by rw [as7]) ?_
    show own_S p e below s₁ (mkF m 4 #[vi (2 : Int32), vi p1, vi p2, vi p3, vi p4] [xi (1 : Int32)]) _
    refine XS.ifNo X0.here hx rfl (hb hby d8_4) rfl (by decide) ?_
    show own_S p e below s₁ (mkF m 7 #[vi (2 : Int32), vi p1, vi p2, vi p3, vi p4] []) _
    refine XS.iconst X0.here hx rfl (hb hby d8_7) ?_
    show own_S p e below s₁ (mkF m 8 #[vi (2 : Int32), vi p1, vi p2, vi p3, vi p4] [xi (1 : Int32)]) _
    refine XS.goto X0.here hx rfl (pc0 := 8) (pc' := 12) rfl (hb hby d8_8) (by decide) (by decide) ?_
    show own_S p e below s₁ (mkF m 12 #[vi (2 : Int32), vi p1, vi p2, vi p3, vi p4] [xi (1 : Int32)]) _
    refine XS.iloadN X0.here hx rfl (hb hby d8_12) rfl ?_
    show own_S p e below s₁ (mkF m 13 #[vi (2 : Int32), vi p1, vi p2, vi p3, vi p4] [xi p1, xi (1 : Int32)]) _
    refine XS.iloadN X0.here hx rfl (hb hby d8_13) rfl ?_
    show own_S p e below s₁ (mkF m 14 #[vi (2 : Int32), vi p1, vi p2, vi p3, vi p4] [xi (2 : Int32), xi p1, xi (1 : Int32)]) _
    refine st1 _ ?_
    show own_S p e below T1 (mkF m 17 #[vi (2 : Int32), vi p1, vi p2, vi p3, vi p4] [xj (own_h p1 (2 : Int32))]) _
    refine XS.iload X1.here hx rfl (hb hby d8_17) rfl ?_
    show own_S p e below T1 (mkF m 19 #[vi (2 : Int32), vi p1, vi p2, vi p3, vi p4] [xi p4, xj (own_h p1 (2 : Int32))]) _
    refine XS.iconst X1.here hx rfl (hb hby d8_19) ?_
    show own_S p e below T1 (mkF m 20 #[vi (2 : Int32), vi p1, vi p2, vi p3, vi p4] [xi (2 : Int32), xi p4, xj (own_h p1 (2 : Int32))]) _
    refine XS.iand X1.here hx rfl (hb hby d8_20) rfl ?_
    show own_S p e below T1 (mkF m 21 #[vi (2 : Int32), vi p1, vi p2, vi p3, vi p4] [xi (p4 &&& (2 : Int32)), xj (own_h p1 (2 : Int32))]) _
    refine castTop (show (mkF m 21 #[vi (2 : Int32), vi p1, vi p2, vi p3, vi p4] [xi (p4 &&& (2 : Int32)), xj (own_h p1 (2 : Int32))]) = (mkF m 21 #[vi (2 : Int32), vi p1, vi p2, vi p3, vi p4] [xi (0 : Int32), xj (own_h p1 (2 : Int32))]) from by rw [as8]) ?_
    show own_S p e below T1 (mkF m 21 #[vi (2 : Int32), vi p1, vi p2, vi p3, vi p4] [xi (0 : Int32), xj (own_h p1 (2 : Int32))]) _
    refine XS.ifYes X1.here hx rfl (pc0 := 21) (pc' := 28) rfl (hb hby d8_21) rfl (by decide) (by decide) (by decide) ?_
    show own_S p e below T1 (mkF m 28 #[vi (2 : Int32), vi p1, vi p2, vi p3, vi p4] [xj (own_h p1 (2 : Int32))]) _
    refine XS.iconst X1.here hx rfl (hb hby d8_28) ?_
    show own_S p e below T1 (mkF m 29 #[vi (2 : Int32), vi p1, vi p2, vi p3, vi p4] [xi (0 : Int32), xj (own_h p1 (2 : Int32))]) _
    refine XS.iloadN X1.here hx rfl (hb hby d8_29) rfl ?_
    show own_S p e below T1 (mkF m 30 #[vi (2 : Int32), vi p1, vi p2, vi p3, vi p4] [xi p2, xi (0 : Int32), xj (own_h p1 (2 : Int32))]) _
    refine XS.iloadN X1.here hx rfl (hb hby d8_30) rfl ?_
    show own_S p e below T1 (mkF m 31 #[vi (2 : Int32), vi p1, vi p2, vi p3, vi p4] [xi (2 : Int32), xi p2, xi (0 : Int32), xj (own_h p1 (2 : Int32))]) _
    refine st2 _ ?_
    show own_S p e below T2 (mkF m 34 #[vi (2 : Int32), vi p1, vi p2, vi p3, vi p4] [xj (0 : Int64), xj (own_h p1 (2 : Int32))]) _
    refine XS.ladd X2.here hx rfl (hb hby d8_34) rfl ?_
    show own_S p e below T2 (mkF m 35 #[vi (2 : Int32), vi p1, vi p2, vi p3, vi p4] [xj ((own_h p1 (2 : Int32)) + (0 : Int64))]) _
    show own_S p e below T2 (mkF m 35 #[vi (2 : Int32), vi p1, vi p2, vi p3, vi p4] [xj ((own_h p1 (2 : Int32)) + (0 : Int64))]) _
    refine XS.iload X2.here hx rfl (hb hby d8_35) rfl ?_
    show own_S p e below T2 (mkF m 37 #[vi (2 : Int32), vi p1, vi p2, vi p3, vi p4] [xi p4, xj ((own_h p1 (2 : Int32)) + (0 : Int64))]) _
    refine XS.iconst X2.here hx rfl (hb hby d8_37) ?_
    show own_S p e below T2 (mkF m 38 #[vi (2 : Int32), vi p1, vi p2, vi p3, vi p4] [xi (4 : Int32), xi p4, xj ((own_h p1 (2 : Int32)) + (0 : Int64))]) _
    refine XS.iand X2.here hx rfl (hb hby d8_38) rfl ?_
    show own_S p e below T2 (mkF m 39 #[vi (2 : Int32), vi p1, vi p2, vi p3, vi p4] [xi (p4 &&& (4 : Int32)), xj ((own_h p1 (2 : Int32)) + (0 : Int64))]) _
    refine castTop (show (mkF m 39 #[vi (2 : Int32), vi p1, vi p2, vi p3, vi p4] [xi (p4 &&& (4 : Int32)), xj ((own_h p1 (2 : Int32)) + (0 : Int64))]) = (mkF m 39 #[vi (2 : Int32), vi p1, vi p2, vi p3, vi p4] [xi (4 : Int32), xj ((own_h p1 (2 : Int32)) + (0 : Int64))]) from by rw [as11]) ?_
    show own_S p e below T2 (mkF m 39 #[vi (2 : Int32), vi p1, vi p2, vi p3, vi p4] [xi (4 : Int32), xj ((own_h p1 (2 : Int32)) + (0 : Int64))]) _
    refine XS.ifNo X2.here hx rfl (hb hby d8_39) rfl (by decide) ?_
    show own_S p e below T2 (mkF m 42 #[vi (2 : Int32), vi p1, vi p2, vi p3, vi p4] [xj ((own_h p1 (2 : Int32)) + (0 : Int64))]) _
    refine XS.iconst X2.here hx rfl (hb hby d8_42) ?_
    show own_S p e below T2 (mkF m 43 #[vi (2 : Int32), vi p1, vi p2, vi p3, vi p4] [xi (1 : Int32), xj ((own_h p1 (2 : Int32)) + (0 : Int64))]) _
    refine XS.goto X2.here hx rfl (pc0 := 43) (pc' := 47) rfl (hb hby d8_43) (by decide) (by decide) ?_
    show own_S p e below T2 (mkF m 47 #[vi (2 : Int32), vi p1, vi p2, vi p3, vi p4] [xi (1 : Int32), xj ((own_h p1 (2 : Int32)) + (0 : Int64))]) _
    refine XS.iloadN X2.here hx rfl (hb hby d8_47) rfl ?_
    show own_S p e below T2 (mkF m 48 #[vi (2 : Int32), vi p1, vi p2, vi p3, vi p4] [xi p3, xi (1 : Int32), xj ((own_h p1 (2 : Int32)) + (0 : Int64))]) _
    refine XS.iloadN X2.here hx rfl (hb hby d8_48) rfl ?_
    show own_S p e below T2 (mkF m 49 #[vi (2 : Int32), vi p1, vi p2, vi p3, vi p4] [xi (2 : Int32), xi p3, xi (1 : Int32), xj ((own_h p1 (2 : Int32)) + (0 : Int64))]) _
    refine st3 _ ?_
    show own_S p e below T3 (mkF m 52 #[vi (2 : Int32), vi p1, vi p2, vi p3, vi p4] [xj (own_h p3 (2 : Int32)), xj ((own_h p1 (2 : Int32)) + (0 : Int64))]) _
    refine XS.ladd X3.here hx rfl (hb hby d8_52) rfl ?_
    show own_S p e below T3 (mkF m 53 #[vi (2 : Int32), vi p1, vi p2, vi p3, vi p4] [xj (((own_h p1 (2 : Int32)) + (0 : Int64)) + (own_h p3 (2 : Int32)))]) _
    show own_S p e below T3 (mkF m 53 #[vi (2 : Int32), vi p1, vi p2, vi p3, vi p4] [xj (((own_h p1 (2 : Int32)) + (0 : Int64)) + (own_h p3 (2 : Int32)))]) _
    exact X3.lreturnOut hx Bd.returns (hb hby d8_53) hr
  · exact ⟨rfl, N3, e3⟩
theorem ef_own_c27_expected (m : MethodId) (u0 u1 u2 u3 u4 : Addr) (p1 : Int32) (p2 : Int32) (p3 : Int32) (p4 : Int32) : entryFrame m #[xi (3 : Int32), xi p1, xi p2, xi p3, xi p4] 5 = (mkF m 0 #[vi (3 : Int32), vi p1, vi p2, vi p3, vi p4] []) := by first | (simp [entryFrame, mkF, argsToLocals, Value.category]; done) | rfl
set_option maxRecDepth 65536 in
set_option maxHeartbeats 40000000 in
theorem own_c27_expected (l : Launch) (Z : State) (a0 : Array Value) (hw : ∀ d ∈ tables_1, d.before a0 Z = true) (u0 u1 u2 u3 u4 : Addr) (G : own_St Z u0 u1 u2 u3 u4) (p1 : Int32) (p2 : Int32) (p3 : Int32) (p4 : Int32) (as7 : (p4 &&& (1 : Int32)) = (1 : Int32)) (as8 : (p4 &&& (2 : Int32)) = (0 : Int32)) (as11 : (p4 &&& (4 : Int32)) = (4 : Int32)) (h0 : Heap) (n0 : Nat) (O0 : Old Z n0 h0) : own_Met l Z Y9 method_4_code 5 (some .long) ({ frames := 1, cells := 0, slots := 0, locals := 16 } : Room) #[xi (3 : Int32), xi p1, xi p2, xi p3, xi p4] h0 (own_QR (some (xj (((own_h p1 (3 : Int32)) + (0 : Int64)) + (own_h p3 (3 : Int32))))) h0 n0) := by
  intro ws
  refine MetFree.of_bodySF (plainFor_of_name pn3) hisR ?_
  intro p e s m args below meth c s₁ Bd hml0 hP hK
  obtain ⟨rfl, hZ, hh⟩ := hP
  have hx := Bd.exec
  have hby := Bd.bytes
  have hml : c.maxLocals = 5 := hml0
  have hown : s.vm.findClass "com/example/feedwright/feedwright/LoadSummaryAddPinLaw" = some m.cls := findClass_of_methodNamed Bd.named
  have hnm := (name_of_methodNamed Bd.named Bd.method).1
  have X0 : Stand p l e ({ frames := 1, cells := 0, slots := 0, locals := 16 } : Room) s m #[xi (3 : Int32), xi p1, xi p2, xi p3, xi p4] below meth c s₁ [] 0 0 := Stand.of_body Bd
  have e0 : s₁.heap = h0 := by rw [← hh, Bd.state]; rfl
  have N0 := Fr.nil n0
  have pre0 : ∀ t, Steps p.tables e below (s₁.setTop (mkF m 0 #[vi (3 : Int32), vi p1, vi p2, vi p3, vi p4] [])) t → Steps p.tables e below (s₁.setTop (entryFrame m #[xi (3 : Int32), xi p1, xi p2, xi p3, xi p4] 5)) t := fun t st => castTop (ef_own_c27_expected m u0 u1 u2 u3 u4 p1 p2 p3 p4) st
  obtain ⟨_, _, ⟨T1, L1, k1, n1⟩, -, X1, ⟨Lc1, hQ1, l1, y1, z1⟩, st1⟩ := Jvm.LawKit.callS X0 hx (y := Y6) hown (mvT hZ (ww hw 61 rfl)) (mvT hZ (ww hw 62 rfl)) (mvT hZ (ww hw 2 rfl)) (mvT hZ (ww hw 63 rfl)) (by decide) (backOf (W := 0) (own_hit l Z a0 hw u0 u1 u2 u3 u4 G p1 (3 : Int32) h0 n0 O0 []) hZ (ww hw 63 rfl) (ww hw 2 rfl) (by decide) (by decide)) (g := (mkF m 14 #[vi (3 : Int32), vi p1, vi p2, vi p3, vi p4] [xi (3 : Int32), xi p1, xi (1 : Int32)])) rfl (by rw [hml]; rfl) (argsL := [xi (1 : Int32), xi p1, xi (3 : Int32)]) (rest := []) (lenOf pd5 rfl) rfl (by show 2 * 0 + _ ≤ _; exact Nat.le_of_eq rfl) (hb hby d8_14) (fun _ _ => ⟨rfl, e0, (by decide : 0 + 0 ≤ _), (by decide : 0 + 0 ≤ _)⟩)
  dsimp only [Pt.U, Pt.locs, Pt.cells, Pt.slots] at X1 l1 y1 z1 st1 hQ1
  subst l1 y1 z1
  obtain ⟨rfl, Nq1, e1⟩ := hQ1
  have N1 := Fr.app N0 Nq1
  obtain ⟨_, _, ⟨T2, L2, k2, n2⟩, -, X2, ⟨Lc2, hQ2, l2, y2, z2⟩, st2⟩ := Jvm.LawKit.callS X1 hx (y := Y6) hown (mvT hZ (ww hw 61 rfl)) (mvT hZ (ww hw 62 rfl)) (mvT hZ (ww hw 2 rfl)) (mvT hZ (ww hw 63 rfl)) (by decide) (backOf (W := 2) (own_hit_off l Z a0 hw u0 u1 u2 u3 u4 G p2 (3 : Int32) h0 n0 O0 []) hZ (ww hw 63 rfl) (ww hw 2 rfl) (by decide) (by decide)) (g := (mkF m 31 #[vi (3 : Int32), vi p1, vi p2, vi p3, vi p4] [xi (3 : Int32), xi p2, xi (0 : Int32), xj (own_h p1 (3 : Int32))])) rfl (by rw [hml]; rfl) (argsL := [xi (0 : Int32), xi p2, xi (3 : Int32)]) (rest := [xj (own_h p1 (3 : Int32))]) (lenOf pd5 rfl) rfl (by show 2 * 0 + _ ≤ _; exact Nat.le_of_eq rfl) (hb hby d8_31) (fun _ _ => ⟨rfl, e1, (by decide : 0 + 0 ≤ _), (by decide : 0 + 0 ≤ _)⟩)
  dsimp only [Pt.U, Pt.locs, Pt.cells, Pt.slots] at X2 l2 y2 z2 st2 hQ2
  subst l2 y2 z2
  obtain ⟨rfl, Nq2, e2⟩ := hQ2
  have N2 := Fr.app N1 Nq2
  obtain ⟨_, _, ⟨T3, L3, k3, n3⟩, -, X3, ⟨Lc3, hQ3, l3, y3, z3⟩, st3⟩ := Jvm.LawKit.callS X2 hx (y := Y6) hown (mvT hZ (ww hw 61 rfl)) (mvT hZ (ww hw 62 rfl)) (mvT hZ (ww hw 2 rfl)) (mvT hZ (ww hw 63 rfl)) (by decide) (backOf (W := 2) (own_hit l Z a0 hw u0 u1 u2 u3 u4 G p3 (3 : Int32) h0 n0 O0 []) hZ (ww hw 63 rfl) (ww hw 2 rfl) (by decide) (by decide)) (g := (mkF m 49 #[vi (3 : Int32), vi p1, vi p2, vi p3, vi p4] [xi (3 : Int32), xi p3, xi (1 : Int32), xj ((own_h p1 (3 : Int32)) + (0 : Int64))])) rfl (by rw [hml]; rfl) (argsL := [xi (1 : Int32), xi p3, xi (3 : Int32)]) (rest := [xj ((own_h p1 (3 : Int32)) + (0 : Int64))]) (lenOf pd5 rfl) rfl (by show 2 * 0 + _ ≤ _; exact Nat.le_of_eq rfl) (hb hby d8_49) (fun _ _ => ⟨rfl, e2, (by decide : 0 + 0 ≤ _), (by decide : 0 + 0 ≤ _)⟩)
  dsimp only [Pt.U, Pt.locs, Pt.cells, Pt.slots] at X3 l3 y3 z3 st3 hQ3
  subst l3 y3 z3
  obtain ⟨rfl, Nq3, e3⟩ := hQ3
  have N3 := Fr.app N2 Nq3
  obtain ⟨fs, hr, hrun, hended, hW, hsame⟩ := X3.leave (v := some (xj (((own_h p1 (3 : Int32)) + (0 : Int64)) + (own_h p3 (3 : Int32))))) (fun h => by rw [Bd.returns] at h; cases h)
  refine ⟨_, _, pre0 _ ?_, hrun, hended, _, _, rfl, ?_, ⟨_, rfl⟩, hW, hsame.mono (by decide) (by decide)⟩
  · show own_S p e below s₁ (mkF m 0 #[vi (3 : Int32), vi p1, vi p2, vi p3, vi p4] []) _
    refine XS.iload X0.here hx rfl (hb hby d8_0) rfl ?_
    show own_S p e below s₁ (mkF m 2 #[vi (3 : Int32), vi p1, vi p2, vi p3, vi p4] [xi p4]) _
    refine XS.iconst X0.here hx rfl (hb hby d8_2) ?_
    show own_S p e below s₁ (mkF m 3 #[vi (3 : Int32), vi p1, vi p2, vi p3, vi p4] [xi (1 : Int32), xi p4]) _
    refine XS.iand X0.here hx rfl (hb hby d8_3) rfl ?_
    show own_S p e below s₁ (mkF m 4 #[vi (3 : Int32), vi p1, vi p2, vi p3, vi p4] [xi (p4 &&& (1 : Int32))]) _
    refine castTop (show (mkF m 4 #[vi (3 : Int32), vi p1, vi p2, vi p3, vi p4] [xi (p4 &&& (1 : Int32))]) = (mkF m 4 #[vi (3 : Int32), vi p1, vi p2, vi p3, vi p4] [xi (1 : Int32)]) from by rw [as7]) ?_
    show own_S p e below s₁ (mkF m 4 #[vi (3 : Int32), vi p1, vi p2, vi p3, vi p4] [xi (1 : Int32)]) _
    refine XS.ifNo X0.here hx rfl (hb hby d8_4) rfl (by decide) ?_
    show own_S p e below s₁ (mkF m 7 #[vi (3 : Int32), vi p1, vi p2, vi p3, vi p4] []) _
    refine XS.iconst X0.here hx rfl (hb hby d8_7) ?_
    show own_S p e below s₁ (mkF m 8 #[vi (3 : Int32), vi p1, vi p2, vi p3, vi p4] [xi (1 : Int32)]) _
    refine XS.goto X0.here hx rfl (pc0 := 8) (pc' := 12) rfl (hb hby d8_8) (by decide) (by decide) ?_
    show own_S p e below s₁ (mkF m 12 #[vi (3 : Int32), vi p1, vi p2, vi p3, vi p4] [xi (1 : Int32)]) _
    refine XS.iloadN X0.here hx rfl (hb hby d8_12) rfl ?_
    show own_S p e below s₁ (mkF m 13 #[vi (3 : Int32), vi p1, vi p2, vi p3, vi p4] [xi p1, xi (1 : Int32)]) _
    refine XS.iloadN X0.here hx rfl (hb hby d8_13) rfl ?_
    show own_S p e below s₁ (mkF m 14 #[vi (3 : Int32), vi p1, vi p2, vi p3, vi p4] [xi (3 : Int32), xi p1, xi (1 : Int32)]) _
    refine st1 _ ?_
    show own_S p e below T1 (mkF m 17 #[vi (3 : Int32), vi p1, vi p2, vi p3, vi p4] [xj (own_h p1 (3 : Int32))]) _
    refine XS.iload X1.here hx rfl (hb hby d8_17) rfl ?_
    show own_S p e below T1 (mkF m 19 #[vi (3 : Int32), vi p1, vi p2, vi p3, vi p4] [xi p4, xj (own_h p1 (3 : Int32))]) _
    refine XS.iconst X1.here hx rfl (hb hby d8_19) ?_
    show own_S p e below T1 (mkF m 20 #[vi (3 : Int32), vi p1, vi p2, vi p3, vi p4] [xi (2 : Int32), xi p4, xj (own_h p1 (3 : Int32))]) _
    refine XS.iand X1.here hx rfl (hb hby d8_20) rfl ?_
    show own_S p e below T1 (mkF m 21 #[vi (3 : Int32), vi p1, vi p2, vi p3, vi p4] [xi (p4 &&& (2 : Int32)), xj (own_h p1 (3 : Int32))]) _
    refine castTop (show (mkF m 21 #[vi (3 : Int32), vi p1, vi p2, vi p3, vi p4] [xi (p4 &&& (2 : Int32)), xj (own_h p1 (3 : Int32))]) = (mkF m 21 #[vi (3 : Int32), vi p1, vi p2, vi p3, vi p4] [xi (0 : Int32), xj (own_h p1 (3 : Int32))]) from by rw [as8]) ?_
    show own_S p e below T1 (mkF m 21 #[vi (3 : Int32), vi p1, vi p2, vi p3, vi p4] [xi (0 : Int32), xj (own_h p1 (3 : Int32))]) _
    refine XS.ifYes X1.here hx rfl (pc0 := 21) (pc' := 28) rfl (hb hby d8_21) rfl (by decide) (by decide) (by decide) ?_
    show own_S p e below T1 (mkF m 28 #[vi (3 : Int32), vi p1, vi p2, vi p3, vi p4] [xj (own_h p1 (3 : Int32))]) _
    refine XS.iconst X1.here hx rfl (hb hby d8_28) ?_
    show own_S p e below T1 (mkF m 29 #[vi (3 : Int32), vi p1, vi p2, vi p3, vi p4] [xi (0 : Int32), xj (own_h p1 (3 : Int32))]) _
    refine XS.iloadN X1.here hx rfl (hb hby d8_29) rfl ?_
    show own_S p e below T1 (mkF m 30 #[vi (3 : Int32), vi p1, vi p2, vi p3, vi p4] [xi p2, xi (0 : Int32), xj (own_h p1 (3 : Int32))]) _
    refine XS.iloadN X1.here hx rfl (hb hby d8_30) rfl ?_
    show own_S p e below T1 (mkF m 31 #[vi (3 : Int32), vi p1, vi p2, vi p3, vi p4] [xi (3 : Int32), xi p2, xi (0 : Int32), xj (own_h p1 (3 : Int32))]) _
    refine st2 _ ?_
    show own_S p e below T2 (mkF m 34 #[vi (3 : Int32), vi p1, vi p2, vi p3, vi p4] [xj (0 : Int64), xj (own_h p1 (3 : Int32))]) _
    refine XS.ladd X2.here hx rfl (hb hby d8_34) rfl ?_
    show own_S p e below T2 (mkF m 35 #[vi (3 : Int32), vi p1, vi p2, vi p3, vi p4] [xj ((own_h p1 (3 : Int32)) + (0 : Int64))]) _
    show own_S p e below T2 (mkF m 35 #[vi (3 : Int32), vi p1, vi p2, vi p3, vi p4] [xj ((own_h p1 (3 : Int32)) + (0 : Int64))]) _
    refine XS.iload X2.here hx rfl (hb hby d8_35) rfl ?_
    show own_S p e below T2 (mkF m 37 #[vi (3 : Int32), vi p1, vi p2, vi p3, vi p4] [xi p4, xj ((own_h p1 (3 : Int32)) + (0 : Int64))]) _
    refine XS.iconst X2.here hx rfl (hb hby d8_37) ?_
    show own_S p e below T2 (mkF m 38 #[vi (3 : Int32), vi p1, vi p2, vi p3, vi p4] [xi (4 : Int32), xi p4, xj ((own_h p1 (3 : Int32)) + (0 : Int64))]) _
    refine XS.iand X2.here hx rfl (hb hby d8_38) rfl ?_
    show own_S p e below T2 (mkF m 39 #[vi (3 : Int32), vi p1, vi p2, vi p3, vi p4] [xi (p4 &&& (4 : Int32)), xj ((own_h p1 (3 : Int32)) + (0 : Int64))]) _
    refine castTop (show (mkF m 39 #[vi (3 : Int32), vi p1, vi p2, vi p3, vi p4] [xi (p4 &&& (4 : Int32)), xj ((own_h p1 (3 : Int32)) + (0 : Int64))]) = (mkF m 39 #[vi (3 : Int32), vi p1, vi p2, vi p3, vi p4] [xi (4 : Int32), xj ((own_h p1 (3 : Int32)) + (0 : Int64))]) from by rw [as11]) ?_
    show own_S p e below T2 (mkF m 39 #[vi (3 : Int32), vi p1, vi p2, vi p3, vi p4] [xi (4 : Int32), xj ((own_h p1 (3 : Int32)) + (0 : Int64))]) _
    refine XS.ifNo X2.here hx rfl (hb hby d8_39) rfl (by decide) ?_
    show own_S p e below T2 (mkF m 42 #[vi (3 : Int32), vi p1, vi p2, vi p3, vi p4] [xj ((own_h p1 (3 : Int32)) + (0 : Int64))]) _
    refine XS.iconst X2.here hx rfl (hb hby d8_42) ?_
    show own_S p e below T2 (mkF m 43 #[vi (3 : Int32), vi p1, vi p2, vi p3, vi p4] [xi (1 : Int32), xj ((own_h p1 (3 : Int32)) + (0 : Int64))]) _
    refine XS.goto X2.here hx rfl (pc0 := 43) (pc' := 47) rfl (hb hby d8_43) (by decide) (by decide) ?_
    show own_S p e below T2 (mkF m 47 #[vi (3 : Int32), vi p1, vi p2, vi p3, vi p4] [xi (1 : Int32), xj ((own_h p1 (3 : Int32)) + (0 : Int64))]) _
    refine XS.iloadN X2.here hx rfl (hb hby d8_47) rfl ?_
    show own_S p e below T2 (mkF m 48 #[vi (3 : Int32), vi p1, vi p2, vi p3, vi p4] [xi p3, xi (1 : Int32), xj ((own_h p1 (3 : Int32)) + (0 : Int64))]) _
    refine XS.iloadN X2.here hx rfl (hb hby d8_48) rfl ?_
    show own_S p e below T2 (mkF m 49 #[vi (3 : Int32), vi p1, vi p2, vi p3, vi p4] [xi (3 : Int32), xi p3, xi (1 : Int32), xj ((own_h p1 (3 : Int32)) + (0 : Int64))]) _
    refine st3 _ ?_
    show own_S p e below T3 (mkF m 52 #[vi (3 : Int32), vi p1, vi p2, vi p3, vi p4] [xj (own_h p3 (3 : Int32)), xj ((own_h p1 (3 : Int32)) + (0 : Int64))]) _
    refine XS.ladd X3.here hx rfl (hb hby d8_52) rfl ?_
    show own_S p e below T3 (mkF m 53 #[vi (3 : Int32), vi p1, vi p2, vi p3, vi p4] [xj (((own_h p1 (3 : Int32)) + (0 : Int64)) + (own_h p3 (3 : Int32)))]) _
    show own_S p e below T3 (mkF m 53 #[vi (3 : Int32), vi p1, vi p2, vi p3, vi p4] [xj (((own_h p1 (3 : Int32)) + (0 : Int64)) + (own_h p3 (3 : Int32)))]) _
    exact X3.lreturnOut hx Bd.returns (hb hby d8_53) hr
  · exact ⟨rfl, N3, e3⟩
theorem ef_own_l5 (m : MethodId) (u0 u1 u2 u3 u4 : Addr) (p1 : Int32) (p2 : Int32) (p3 : Int32) (p4 : Int32) (va1 : Addr) (va2 : Addr) (va3 : Addr) : entryFrame m #[xi p1, xi p2, xi p3, xi p4] maxLocals = (mkF m 0 #[vi p1, vi p2, vi p3, vi p4, vu, vu, vu, vu, vu, vu, vu, vu, vu] []) := by first | (simp [entryFrame, mkF, argsToLocals, Value.category, maxLocals]; done) | rfl
set_option maxRecDepth 65536 in
set_option maxHeartbeats 40000000 in
theorem own_l5 (l : Launch) (Z : State) (a0 : Array Value) (hw : ∀ d ∈ tables_1, d.before a0 Z = true) (u0 u1 u2 u3 u4 : Addr) (G : own_St Z u0 u1 u2 u3 u4) (p1 : Int32) (p2 : Int32) (p3 : Int32) (p4 : Int32) (va1 : Addr) (va2 : Addr) (va3 : Addr) (as7 : (p4 &&& (1 : Int32)) = (1 : Int32)) (as8 : (p4 &&& (2 : Int32)) = (0 : Int32)) (as11 : (p4 &&& (4 : Int32)) = (4 : Int32)) (hv1 : own_is u0 u1 u2 u3 u4 p1 va1) (hv2 : own_is u0 u1 u2 u3 u4 p2 va2) (hv3 : own_is u0 u1 u2 u3 u4 p3 va3) (h0 : Heap) (n0 : Nat) (O0 : Old Z n0 h0) : own_Met l Z x code maxLocals ret room_1 #[xi p1, xi p2, xi p3, xi p4] h0 (own_QL (some (xi (1 : Int32))) n0) := by
  intro ws
  refine MetFree.of_bodySF (plainFor_of_name pn3) hisR ?_
  intro p e s m args below meth c s₁ Bd hml0 hP hK
  obtain ⟨rfl, hZ, hh⟩ := hP
  have hx := Bd.exec
  have hby := Bd.bytes
  have hml : c.maxLocals = 13 := hml0
  have hown : s.vm.findClass "com/example/feedwright/feedwright/LoadSummaryAddPinLaw" = some m.cls := findClass_of_methodNamed Bd.named
  have hnm := (name_of_methodNamed Bd.named Bd.method).1
  have X0 : Stand p l e room_1 s m #[xi p1, xi p2, xi p3, xi p4] below meth c s₁ [] 0 0 := Stand.of_body Bd
  have e0 : s₁.heap = h0 := by rw [← hh, Bd.state]; rfl
  have N0 := Fr.nil n0
  have pre0 : ∀ t, Steps p.tables e below (s₁.setTop (mkF m 0 #[vi p1, vi p2, vi p3, vi p4, vu, vu, vu, vu, vu, vu, vu, vu, vu] [])) t → Steps p.tables e below (s₁.setTop (entryFrame m #[xi p1, xi p2, xi p3, xi p4] maxLocals)) t := fun t st => castTop (ef_own_l5 m u0 u1 u2 u3 u4 p1 p2 p3 p4 va1 va2 va3) st
  obtain ⟨_, _, ⟨T1, L1, k1, n1⟩, -, X1, ⟨Lc1, hQ1, l1, y1, z1⟩, st1⟩ := Jvm.LawKit.callS X0 hx (y := Y5) hown (mvT hZ (ww hw 0 rfl)) (mvT hZ (ww hw 1 rfl)) (mvT hZ (ww hw 2 rfl)) (mvT hZ (ww hw 3 rfl)) (by decide) (backOf (W := 0) (own_pick l Z a0 hw u0 u1 u2 u3 u4 G p1 va1 hv1 h0 n0 O0 []) hZ (ww hw 3 rfl) (ww hw 2 rfl) (by decide) (by decide)) (g := (mkF m 40 #[vi p1, vi p2, vi p3, vi p4, vi (1 : Int32), vi (0 : Int32), vi (1 : Int32), vu, vu, vu, vu, vu, vu] [xi p1])) rfl (by rw [hml]; rfl) (argsL := [xi p1]) (rest := []) (lenOf pd2 rfl) rfl (by show 2 * 0 + _ ≤ _; exact Nat.le_of_eq rfl) (hb hby at_40) (fun _ _ => ⟨rfl, e0, (by decide : 0 + 0 ≤ _), (by decide : 0 + 0 ≤ _)⟩)
  dsimp only [Pt.U, Pt.locs, Pt.cells, Pt.slots] at X1 l1 y1 z1 st1 hQ1
  subst l1 y1 z1
  obtain ⟨rfl, Nq1, e1⟩ := hQ1
  have N1 := Fr.app N0 Nq1
  obtain ⟨_, _, ⟨T2, L2, k2, n2⟩, -, X2, ⟨Lc2, hQ2, l2, y2, z2⟩, st2⟩ := Jvm.LawKit.callS X1 hx (y := Y5) hown (mvT hZ (ww hw 0 rfl)) (mvT hZ (ww hw 1 rfl)) (mvT hZ (ww hw 2 rfl)) (mvT hZ (ww hw 3 rfl)) (by decide) (backOf (W := 0) (own_pick l Z a0 hw u0 u1 u2 u3 u4 G p2 va2 hv2 h0 n0 O0 []) hZ (ww hw 3 rfl) (ww hw 2 rfl) (by decide) (by decide)) (g := (mkF m 46 #[vi p1, vi p2, vi p3, vi p4, vi (1 : Int32), vi (0 : Int32), vi (1 : Int32), vr va1, vu, vu, vu, vu, vu] [xi p2])) rfl (by rw [hml]; rfl) (argsL := [xi p2]) (rest := []) (lenOf pd2 rfl) rfl (by show 2 * 0 + _ ≤ _; exact Nat.le_of_eq rfl) (hb hby at_46) (fun _ _ => ⟨rfl, e1, (by decide : 0 + 0 ≤ _), (by decide : 0 + 0 ≤ _)⟩)
  dsimp only [Pt.U, Pt.locs, Pt.cells, Pt.slots] at X2 l2 y2 z2 st2 hQ2
  subst l2 y2 z2
  obtain ⟨rfl, Nq2, e2⟩ := hQ2
  have N2 := Fr.app N1 Nq2
  obtain ⟨_, _, ⟨T3, L3, k3, n3⟩, -, X3, ⟨Lc3, hQ3, l3, y3, z3⟩, st3⟩ := Jvm.LawKit.callS X2 hx (y := Y5) hown (mvT hZ (ww hw 0 rfl)) (mvT hZ (ww hw 1 rfl)) (mvT hZ (ww hw 2 rfl)) (mvT hZ (ww hw 3 rfl)) (by decide) (backOf (W := 0) (own_pick l Z a0 hw u0 u1 u2 u3 u4 G p3 va3 hv3 h0 n0 O0 []) hZ (ww hw 3 rfl) (ww hw 2 rfl) (by decide) (by decide)) (g := (mkF m 52 #[vi p1, vi p2, vi p3, vi p4, vi (1 : Int32), vi (0 : Int32), vi (1 : Int32), vr va1, vr va2, vu, vu, vu, vu] [xi p3])) rfl (by rw [hml]; rfl) (argsL := [xi p3]) (rest := []) (lenOf pd2 rfl) rfl (by show 2 * 0 + _ ≤ _; exact Nat.le_of_eq rfl) (hb hby at_52) (fun _ _ => ⟨rfl, e2, (by decide : 0 + 0 ≤ _), (by decide : 0 + 0 ≤ _)⟩)
  dsimp only [Pt.U, Pt.locs, Pt.cells, Pt.slots] at X3 l3 y3 z3 st3 hQ3
  subst l3 y3 z3
  obtain ⟨rfl, Nq3, e3⟩ := hQ3
  have N3 := Fr.app N2 Nq3
  obtain ⟨T4, h4, X4, e4, E4, A4, D4, -, st4⟩ := newO X3 hx hZ hown (ww hw 11 rfl) (ww hw 12 rfl) (ww hw 13 rfl) e3 (g := (mkF m 57 #[vi p1, vi p2, vi p3, vi p4, vi (1 : Int32), vi (0 : Int32), vi (1 : Int32), vr va1, vr va2, vr va3, vu, vu, vu] [])) rfl (hb hby at_57) (by decide) (by decide)
  obtain ⟨b4, g4⟩ : ∃ z, z = h0.size := ⟨_, rfl⟩
  rw [← g4] at A4 D4 st4
  have g_b4 : n0 ≤ b4 := own_fresh O0 g4
  have O4 : Old Z n0 h4 := O0.ext E4
  have F_b4_counts : Fld Z h4 b4 "com/example/feedwright/feedwright/LoadSummary" "counts" "[J" .null := D4 (Or.inr (ww hw 38 rfl)) (ty := (.array .long)) (by decide)
  obtain ⟨_, _, ⟨T5, L5, k5, n5⟩, -, X5, ⟨Lc5, hQ5, l5, y5, z5⟩, st5⟩ := X4.specialBack hx (y := Y1) rfl hown (mvT hZ (ww hw 14 rfl)) (mvT hZ (ww hw 15 rfl)) (mvT hZ (ww hw 16 rfl)) (by decide) (backOf (W := 1) (own_init l Z a0 hw u0 u1 u2 u3 u4 G b4 h4 n0 O4 A4 F_b4_counts g_b4 []) hZ (ww hw 16 rfl) (ww hw 13 rfl) (by decide) (by decide)) (g := (mkF m 61 #[vi p1, vi p2, vi p3, vi p4, vi (1 : Int32), vi (0 : Int32), vi (1 : Int32), vr va1, vr va2, vr va3, vu, vu, vu] [xr b4, xr b4])) rfl (by rw [hml]; rfl) (Steps.refl _) (a := b4) (argsL := []) (rest := [xr b4]) (lenOf pd3 rfl) rfl (by show 2 * 0 + _ ≤ _; exact Nat.le_of_eq rfl) (hb hby at_61) (fun _ _ => ⟨rfl, e4, (by decide : 1 + 2 ≤ _), (by decide : 1 + 8 ≤ _)⟩)
  dsimp only [Pt.U, Pt.locs, Pt.cells, Pt.slots] at X5 l5 y5 z5 st5 hQ5
  subst l5 y5 z5
  obtain ⟨h5, e5⟩ : ∃ z, T5.heap = z := ⟨_, rfl⟩
  rw [e5] at hQ5
  obtain ⟨rfl, Nq5, K5, bb5, kk5, -, Fc5, Vb5, nb5, -, g_bb5⟩ := hQ5
  have N5 := Fr.app N3 Nq5
  have O5 : Old Z n0 h5 := O4.keep K5 (allS g_b4 all0)
  have X_b4_5 := A4.keep K5
  obtain ⟨cq6, kq6, qa6, qb6, qc6⟩ := isOf hZ e5 X_b4_5
  obtain ⟨_, _, ⟨T6, L6, k6, n6⟩, -, X6, ⟨Lc6, hQ6, l6, y6, z6⟩, st6⟩ := X5.virtualBack hx (y := Y4) (z := Y4) hown (mvT hZ (ww hw 39 rfl)) (mvT hZ (ww hw 40 rfl)) (notFace_of_selects (args := #[]) (mvT hZ (ww hw 42 rfl))) (mvT hZ (ww hw 42 rfl)) (mvT hZ (ww hw 41 rfl)) (by decide) (backOf (W := 0) (own_add l Z a0 hw u0 u1 u2 u3 u4 G b4 bb5 kk5 (0 : Int64) (0 : Int64) (0 : Int64) (0 : Int64) p1 va1 hv1 h5 n0 O5 ⟨X_b4_5, Fc5, Vb5, nb5, g_b4, g_bb5⟩ []) hZ (ww hw 43 rfl) (ww hw 13 rfl) (by decide) (by decide)) qa6 qc6 (g := (mkF m 75 #[vi p1, vi p2, vi p3, vi p4, vi (1 : Int32), vi (0 : Int32), vi (1 : Int32), vr va1, vr va2, vr va3, vr b4, vu, vu] [xr va1, xr b4])) rfl (by rw [hml]; rfl) (Steps.refl _) (argsL := [xr va1]) (rest := []) (lenOf pd8 rfl) rfl (by show 2 * 0 + _ ≤ _; exact Nat.le_of_eq rfl) (hb hby at_75) (fun _ _ => ⟨rfl, e5, (by decide : 3 + 0 ≤ _), (by decide : 9 + 0 ≤ _)⟩)
  dsimp only [Pt.U, Pt.locs, Pt.cells, Pt.slots] at X6 l6 y6 z6 st6 hQ6
  subst l6 y6 z6
  obtain ⟨h6, e6⟩ : ∃ z, T6.heap = z := ⟨_, rfl⟩
  rw [e6] at hQ6
  obtain ⟨rfl, Nq6, K6, -, -, Vn6, -⟩ := hQ6
  have N6 := Fr.app N5 Nq6
  have O6 : Old Z n0 h6 := O5.keep K6 (allS g_bb5 all0)
  have X_b4_6 := X_b4_5.keep K6
  have F_b4_counts_6 := Fc5.keep K6 (ninS nb5 nin0)
  obtain ⟨cq7, kq7, qa7, qb7, qc7⟩ := isOf hZ e6 X_b4_6
  obtain ⟨_, _, ⟨T7, L7, k7, n7⟩, -, X7, ⟨Lc7, hQ7, l7, y7, z7⟩, st7⟩ := X6.virtualBack hx (y := Y4) (z := Y4) hown (mvT hZ (ww hw 39 rfl)) (mvT hZ (ww hw 40 rfl)) (notFace_of_selects (args := #[]) (mvT hZ (ww hw 42 rfl))) (mvT hZ (ww hw 42 rfl)) (mvT hZ (ww hw 41 rfl)) (by decide) (backOf (W := 0) (own_add l Z a0 hw u0 u1 u2 u3 u4 G b4 bb5 kk5 ((0 : Int64) + own_h p1 0) ((0 : Int64) + own_h p1 1) ((0 : Int64) + own_h p1 2) ((0 : Int64) + own_h p1 3) p3 va3 hv3 h6 n0 O6 ⟨X_b4_6, F_b4_counts_6, Vn6, nb5, g_b4, g_bb5⟩ []) hZ (ww hw 43 rfl) (ww hw 13 rfl) (by decide) (by decide)) qa7 qc7 (g := (mkF m 99 #[vi p1, vi p2, vi p3, vi p4, vi (1 : Int32), vi (0 : Int32), vi (1 : Int32), vr va1, vr va2, vr va3, vr b4, vu, vu] [xr va3, xr b4])) rfl (by rw [hml]; rfl) (Steps.refl _) (argsL := [xr va3]) (rest := []) (lenOf pd8 rfl) rfl (by show 2 * 0 + _ ≤ _; exact Nat.le_of_eq rfl) (hb hby at_99) (fun _ _ => ⟨rfl, e6, (by decide : 3 + 0 ≤ _), (by decide : 9 + 0 ≤ _)⟩)
  dsimp only [Pt.U, Pt.locs, Pt.cells, Pt.slots] at X7 l7 y7 z7 st7 hQ7
  subst l7 y7 z7
  obtain ⟨h7, e7⟩ : ∃ z, T7.heap = z := ⟨_, rfl⟩
  rw [e7] at hQ7
  obtain ⟨rfl, Nq7, K7, -, -, Vn7, -⟩ := hQ7
  have N7 := Fr.app N6 Nq7
  have O7 : Old Z n0 h7 := O6.keep K7 (allS g_bb5 all0)
  have X_b4_7 := X_b4_6.keep K7
  have F_b4_counts_7 := F_b4_counts_6.keep K7 (ninS nb5 nin0)
  obtain ⟨T8, X8, e8, st8⟩ := getS2 X7 hx hZ hown (host := "") (Or.inl (ww hw 4 rfl)) Via.refl e7 ((own_S_u0 G).ext O7.2) (g := (mkF m 138 #[vi p1, vi p2, vi p3, vi p4, vi (1 : Int32), vi (0 : Int32), vi (1 : Int32), vr va1, vr va2, vr va3, vr b4, vj (2 : Int64), .second] [xr b4])) rfl (hb hby at_138)
  obtain ⟨cq9, kq9, qa9, qb9, qc9⟩ := isOf hZ e8 X_b4_7
  obtain ⟨_, _, ⟨T9, L9, k9, n9⟩, -, X9, ⟨Lc9, hQ9, l9, y9, z9⟩, st9⟩ := X8.virtualBack hx (y := Y7) (z := Y7) hown (mvT hZ (ww hw 53 rfl)) (mvT hZ (ww hw 54 rfl)) (notFace_of_selects (args := #[]) (mvT hZ (ww hw 56 rfl))) (mvT hZ (ww hw 56 rfl)) (mvT hZ (ww hw 55 rfl)) (by decide) (backOf (W := 0) (own_count0 l Z a0 hw u0 u1 u2 u3 u4 G b4 bb5 kk5 (((0 : Int64) + own_h p1 0) + own_h p3 0) (((0 : Int64) + own_h p1 1) + own_h p3 1) (((0 : Int64) + own_h p1 2) + own_h p3 2) (((0 : Int64) + own_h p1 3) + own_h p3 3) h7 n0 O7 ⟨X_b4_7, F_b4_counts_7, Vn7, nb5, g_b4, g_bb5⟩ []) hZ (ww hw 57 rfl) (ww hw 13 rfl) (by decide) (by decide)) qa9 qc9 (g := (mkF m 141 #[vi p1, vi p2, vi p3, vi p4, vi (1 : Int32), vi (0 : Int32), vi (1 : Int32), vr va1, vr va2, vr va3, vr b4, vj (2 : Int64), .second] [xr u0, xr b4])) rfl (by rw [hml]; rfl) (Steps.refl _) (argsL := [xr u0]) (rest := []) (lenOf pd4 rfl) rfl (by show 2 * 0 + _ ≤ _; exact Nat.le_of_eq rfl) (hb hby at_141) (fun _ _ => ⟨rfl, e8, (by decide : 3 + 0 ≤ _), (by decide : 9 + 0 ≤ _)⟩)
  dsimp only [Pt.U, Pt.locs, Pt.cells, Pt.slots] at X9 l9 y9 z9 st9 hQ9
  subst l9 y9 z9
  obtain ⟨rfl, Nq9, e9⟩ := hQ9
  have N9 := Fr.app N7 Nq9
  obtain ⟨_, _, ⟨T10, L10, k10, n10⟩, -, X10, ⟨Lc10, hQ10, l10, y10, z10⟩, st10⟩ := Jvm.LawKit.callS X9 hx (y := Y9) hown (mvT hZ (ww hw 58 rfl)) (mvT hZ (ww hw 59 rfl)) (mvT hZ (ww hw 2 rfl)) (mvT hZ (ww hw 60 rfl)) (by decide) (backOf (W := 2) (own_c24_expected l Z a0 hw u0 u1 u2 u3 u4 G p1 p2 p3 p4 as7 as8 as11 h7 n0 O7 []) hZ (ww hw 60 rfl) (ww hw 2 rfl) (by decide) (by decide)) (g := (mkF m 149 #[vi p1, vi p2, vi p3, vi p4, vi (1 : Int32), vi (0 : Int32), vi (1 : Int32), vr va1, vr va2, vr va3, vr b4, vj (2 : Int64), .second] [xi p4, xi p3, xi p2, xi p1, xi (0 : Int32), xj (((0 : Int64) + own_h p1 0) + own_h p3 0)])) rfl (by rw [hml]; rfl) (argsL := [xi (0 : Int32), xi p1, xi p2, xi p3, xi p4]) (rest := [xj (((0 : Int64) + own_h p1 0) + own_h p3 0)]) (lenOf pd6 rfl) rfl (by show 2 * 0 + _ ≤ _; exact Nat.le_of_eq rfl) (hb hby at_149) (fun _ _ => ⟨rfl, e9, (by decide : 3 + 0 ≤ _), (by decide : 9 + 0 ≤ _)⟩)
  dsimp only [Pt.U, Pt.locs, Pt.cells, Pt.slots] at X10 l10 y10 z10 st10 hQ10
  subst l10 y10 z10
  obtain ⟨rfl, Nq10, e10⟩ := hQ10
  have N10 := Fr.app N9 Nq10
  obtain ⟨T11, X11, e11, st11⟩ := getS2 X10 hx hZ hown (host := "") (Or.inl (ww hw 64 rfl)) Via.refl e10 ((own_S_u4 G).ext O7.2) (g := (mkF m 158 #[vi p1, vi p2, vi p3, vi p4, vi (1 : Int32), vi (0 : Int32), vi (1 : Int32), vr va1, vr va2, vr va3, vr b4, vj (2 : Int64), .second] [xr b4])) rfl (hb hby at_158)
  obtain ⟨cq12, kq12, qa12, qb12, qc12⟩ := isOf hZ e11 X_b4_7
  obtain ⟨_, _, ⟨T12, L12, k12, n12⟩, -, X12, ⟨Lc12, hQ12, l12, y12, z12⟩, st12⟩ := X11.virtualBack hx (y := Y7) (z := Y7) hown (mvT hZ (ww hw 53 rfl)) (mvT hZ (ww hw 54 rfl)) (notFace_of_selects (args := #[]) (mvT hZ (ww hw 56 rfl))) (mvT hZ (ww hw 56 rfl)) (mvT hZ (ww hw 55 rfl)) (by decide) (backOf (W := 0) (own_count1 l Z a0 hw u0 u1 u2 u3 u4 G b4 bb5 kk5 (((0 : Int64) + own_h p1 0) + own_h p3 0) (((0 : Int64) + own_h p1 1) + own_h p3 1) (((0 : Int64) + own_h p1 2) + own_h p3 2) (((0 : Int64) + own_h p1 3) + own_h p3 3) h7 n0 O7 ⟨X_b4_7, F_b4_counts_7, Vn7, nb5, g_b4, g_bb5⟩ []) hZ (ww hw 57 rfl) (ww hw 13 rfl) (by decide) (by decide)) qa12 qc12 (g := (mkF m 161 #[vi p1, vi p2, vi p3, vi p4, vi (1 : Int32), vi (0 : Int32), vi (1 : Int32), vr va1, vr va2, vr va3, vr b4, vj (2 : Int64), .second] [xr u4, xr b4])) rfl (by rw [hml]; rfl) (Steps.refl _) (argsL := [xr u4]) (rest := []) (lenOf pd4 rfl) rfl (by show 2 * 0 + _ ≤ _; exact Nat.le_of_eq rfl) (hb hby at_161) (fun _ _ => ⟨rfl, e11, (by decide : 3 + 0 ≤ _), (by decide : 9 + 0 ≤ _)⟩)
  dsimp only [Pt.U, Pt.locs, Pt.cells, Pt.slots] at X12 l12 y12 z12 st12 hQ12
  subst l12 y12 z12
  obtain ⟨rfl, Nq12, e12⟩ := hQ12
  have N12 := Fr.app N10 Nq12
  obtain ⟨_, _, ⟨T13, L13, k13, n13⟩, -, X13, ⟨Lc13, hQ13, l13, y13, z13⟩, st13⟩ := Jvm.LawKit.callS X12 hx (y := Y9) hown (mvT hZ (ww hw 58 rfl)) (mvT hZ (ww hw 59 rfl)) (mvT hZ (ww hw 2 rfl)) (mvT hZ (ww hw 60 rfl)) (by decide) (backOf (W := 2) (own_c25_expected l Z a0 hw u0 u1 u2 u3 u4 G p1 p2 p3 p4 as7 as8 as11 h7 n0 O7 []) hZ (ww hw 60 rfl) (ww hw 2 rfl) (by decide) (by decide)) (g := (mkF m 169 #[vi p1, vi p2, vi p3, vi p4, vi (1 : Int32), vi (0 : Int32), vi (1 : Int32), vr va1, vr va2, vr va3, vr b4, vj (2 : Int64), .second] [xi p4, xi p3, xi p2, xi p1, xi (1 : Int32), xj (((0 : Int64) + own_h p1 1) + own_h p3 1)])) rfl (by rw [hml]; rfl) (argsL := [xi (1 : Int32), xi p1, xi p2, xi p3, xi p4]) (rest := [xj (((0 : Int64) + own_h p1 1) + own_h p3 1)]) (lenOf pd6 rfl) rfl (by show 2 * 0 + _ ≤ _; exact Nat.le_of_eq rfl) (hb hby at_169) (fun _ _ => ⟨rfl, e12, (by decide : 3 + 0 ≤ _), (by decide : 9 + 0 ≤ _)⟩)
  dsimp only [Pt.U, Pt.locs, Pt.cells, Pt.slots] at X13 l13 y13 z13 st13 hQ13
  subst l13 y13 z13
  obtain ⟨rfl, Nq13, e13⟩ := hQ13
  have N13 := Fr.app N12 Nq13
  obtain ⟨T14, X14, e14, st14⟩ := getS2 X13 hx hZ hown (host := "") (Or.inl (ww hw 9 rfl)) Via.refl e13 ((own_S_u2 G).ext O7.2) (g := (mkF m 178 #[vi p1, vi p2, vi p3, vi p4, vi (1 : Int32), vi (0 : Int32), vi (1 : Int32), vr va1, vr va2, vr va3, vr b4, vj (2 : Int64), .second] [xr b4])) rfl (hb hby at_178)
  obtain ⟨cq15, kq15, qa15, qb15, qc15⟩ := isOf hZ e14 X_b4_7
  obtain ⟨_, _, ⟨T15, L15, k15, n15⟩, -, X15, ⟨Lc15, hQ15, l15, y15, z15⟩, st15⟩ := X14.virtualBack hx (y := Y7) (z := Y7) hown (mvT hZ (ww hw 53 rfl)) (mvT hZ (ww hw 54 rfl)) (notFace_of_selects (args := #[]) (mvT hZ (ww hw 56 rfl))) (mvT hZ (ww hw 56 rfl)) (mvT hZ (ww hw 55 rfl)) (by decide) (backOf (W := 0) (own_count2 l Z a0 hw u0 u1 u2 u3 u4 G b4 bb5 kk5 (((0 : Int64) + own_h p1 0) + own_h p3 0) (((0 : Int64) + own_h p1 1) + own_h p3 1) (((0 : Int64) + own_h p1 2) + own_h p3 2) (((0 : Int64) + own_h p1 3) + own_h p3 3) h7 n0 O7 ⟨X_b4_7, F_b4_counts_7, Vn7, nb5, g_b4, g_bb5⟩ []) hZ (ww hw 57 rfl) (ww hw 13 rfl) (by decide) (by decide)) qa15 qc15 (g := (mkF m 181 #[vi p1, vi p2, vi p3, vi p4, vi (1 : Int32), vi (0 : Int32), vi (1 : Int32), vr va1, vr va2, vr va3, vr b4, vj (2 : Int64), .second] [xr u2, xr b4])) rfl (by rw [hml]; rfl) (Steps.refl _) (argsL := [xr u2]) (rest := []) (lenOf pd4 rfl) rfl (by show 2 * 0 + _ ≤ _; exact Nat.le_of_eq rfl) (hb hby at_181) (fun _ _ => ⟨rfl, e14, (by decide : 3 + 0 ≤ _), (by decide : 9 + 0 ≤ _)⟩)
  dsimp only [Pt.U, Pt.locs, Pt.cells, Pt.slots] at X15 l15 y15 z15 st15 hQ15
  subst l15 y15 z15
  obtain ⟨rfl, Nq15, e15⟩ := hQ15
  have N15 := Fr.app N13 Nq15
  obtain ⟨_, _, ⟨T16, L16, k16, n16⟩, -, X16, ⟨Lc16, hQ16, l16, y16, z16⟩, st16⟩ := Jvm.LawKit.callS X15 hx (y := Y9) hown (mvT hZ (ww hw 58 rfl)) (mvT hZ (ww hw 59 rfl)) (mvT hZ (ww hw 2 rfl)) (mvT hZ (ww hw 60 rfl)) (by decide) (backOf (W := 2) (own_c26_expected l Z a0 hw u0 u1 u2 u3 u4 G p1 p2 p3 p4 as7 as8 as11 h7 n0 O7 []) hZ (ww hw 60 rfl) (ww hw 2 rfl) (by decide) (by decide)) (g := (mkF m 189 #[vi p1, vi p2, vi p3, vi p4, vi (1 : Int32), vi (0 : Int32), vi (1 : Int32), vr va1, vr va2, vr va3, vr b4, vj (2 : Int64), .second] [xi p4, xi p3, xi p2, xi p1, xi (2 : Int32), xj (((0 : Int64) + own_h p1 2) + own_h p3 2)])) rfl (by rw [hml]; rfl) (argsL := [xi (2 : Int32), xi p1, xi p2, xi p3, xi p4]) (rest := [xj (((0 : Int64) + own_h p1 2) + own_h p3 2)]) (lenOf pd6 rfl) rfl (by show 2 * 0 + _ ≤ _; exact Nat.le_of_eq rfl) (hb hby at_189) (fun _ _ => ⟨rfl, e15, (by decide : 3 + 0 ≤ _), (by decide : 9 + 0 ≤ _)⟩)
  dsimp only [Pt.U, Pt.locs, Pt.cells, Pt.slots] at X16 l16 y16 z16 st16 hQ16
  subst l16 y16 z16
  obtain ⟨rfl, Nq16, e16⟩ := hQ16
  have N16 := Fr.app N15 Nq16
  obtain ⟨T17, X17, e17, st17⟩ := getS2 X16 hx hZ hown (host := "") (Or.inl (ww hw 7 rfl)) Via.refl e16 ((own_S_u1 G).ext O7.2) (g := (mkF m 198 #[vi p1, vi p2, vi p3, vi p4, vi (1 : Int32), vi (0 : Int32), vi (1 : Int32), vr va1, vr va2, vr va3, vr b4, vj (2 : Int64), .second] [xr b4])) rfl (hb hby at_198)
  obtain ⟨cq18, kq18, qa18, qb18, qc18⟩ := isOf hZ e17 X_b4_7
  obtain ⟨_, _, ⟨T18, L18, k18, n18⟩, -, X18, ⟨Lc18, hQ18, l18, y18, z18⟩, st18⟩ := X17.virtualBack hx (y := Y7) (z := Y7) hown (mvT hZ (ww hw 53 rfl)) (mvT hZ (ww hw 54 rfl)) (notFace_of_selects (args := #[]) (mvT hZ (ww hw 56 rfl))) (mvT hZ (ww hw 56 rfl)) (mvT hZ (ww hw 55 rfl)) (by decide) (backOf (W := 0) (own_count3 l Z a0 hw u0 u1 u2 u3 u4 G b4 bb5 kk5 (((0 : Int64) + own_h p1 0) + own_h p3 0) (((0 : Int64) + own_h p1 1) + own_h p3 1) (((0 : Int64) + own_h p1 2) + own_h p3 2) (((0 : Int64) + own_h p1 3) + own_h p3 3) h7 n0 O7 ⟨X_b4_7, F_b4_counts_7, Vn7, nb5, g_b4, g_bb5⟩ []) hZ (ww hw 57 rfl) (ww hw 13 rfl) (by decide) (by decide)) qa18 qc18 (g := (mkF m 201 #[vi p1, vi p2, vi p3, vi p4, vi (1 : Int32), vi (0 : Int32), vi (1 : Int32), vr va1, vr va2, vr va3, vr b4, vj (2 : Int64), .second] [xr u1, xr b4])) rfl (by rw [hml]; rfl) (Steps.refl _) (argsL := [xr u1]) (rest := []) (lenOf pd4 rfl) rfl (by show 2 * 0 + _ ≤ _; exact Nat.le_of_eq rfl) (hb hby at_201) (fun _ _ => ⟨rfl, e17, (by decide : 3 + 0 ≤ _), (by decide : 9 + 0 ≤ _)⟩)
  dsimp only [Pt.U, Pt.locs, Pt.cells, Pt.slots] at X18 l18 y18 z18 st18 hQ18
  subst l18 y18 z18
  obtain ⟨rfl, Nq18, e18⟩ := hQ18
  have N18 := Fr.app N16 Nq18
  obtain ⟨_, _, ⟨T19, L19, k19, n19⟩, -, X19, ⟨Lc19, hQ19, l19, y19, z19⟩, st19⟩ := Jvm.LawKit.callS X18 hx (y := Y9) hown (mvT hZ (ww hw 58 rfl)) (mvT hZ (ww hw 59 rfl)) (mvT hZ (ww hw 2 rfl)) (mvT hZ (ww hw 60 rfl)) (by decide) (backOf (W := 2) (own_c27_expected l Z a0 hw u0 u1 u2 u3 u4 G p1 p2 p3 p4 as7 as8 as11 h7 n0 O7 []) hZ (ww hw 60 rfl) (ww hw 2 rfl) (by decide) (by decide)) (g := (mkF m 209 #[vi p1, vi p2, vi p3, vi p4, vi (1 : Int32), vi (0 : Int32), vi (1 : Int32), vr va1, vr va2, vr va3, vr b4, vj (2 : Int64), .second] [xi p4, xi p3, xi p2, xi p1, xi (3 : Int32), xj (((0 : Int64) + own_h p1 3) + own_h p3 3)])) rfl (by rw [hml]; rfl) (argsL := [xi (3 : Int32), xi p1, xi p2, xi p3, xi p4]) (rest := [xj (((0 : Int64) + own_h p1 3) + own_h p3 3)]) (lenOf pd6 rfl) rfl (by show 2 * 0 + _ ≤ _; exact Nat.le_of_eq rfl) (hb hby at_209) (fun _ _ => ⟨rfl, e18, (by decide : 3 + 0 ≤ _), (by decide : 9 + 0 ≤ _)⟩)
  dsimp only [Pt.U, Pt.locs, Pt.cells, Pt.slots] at X19 l19 y19 z19 st19 hQ19
  subst l19 y19 z19
  obtain ⟨rfl, Nq19, e19⟩ := hQ19
  have N19 := Fr.app N18 Nq19
  obtain ⟨cq20, kq20, qa20, qb20, qc20⟩ := isOf hZ e19 X_b4_7
  obtain ⟨_, _, ⟨T20, L20, k20, n20⟩, -, X20, ⟨Lc20, hQ20, l20, y20, z20⟩, st20⟩ := X19.virtualBack hx (y := Y8) (z := Y8) hown (mvT hZ (ww hw 65 rfl)) (mvT hZ (ww hw 66 rfl)) (notFace_of_selects (args := #[]) (mvT hZ (ww hw 68 rfl))) (mvT hZ (ww hw 68 rfl)) (mvT hZ (ww hw 67 rfl)) (by decide) (backOf (W := 0) (own_records l Z a0 hw u0 u1 u2 u3 u4 G b4 bb5 kk5 (((0 : Int64) + own_h p1 0) + own_h p3 0) (((0 : Int64) + own_h p1 1) + own_h p3 1) (((0 : Int64) + own_h p1 2) + own_h p3 2) (((0 : Int64) + own_h p1 3) + own_h p3 3) h7 n0 O7 ⟨X_b4_7, F_b4_counts_7, Vn7, nb5, g_b4, g_bb5⟩ []) hZ (ww hw 69 rfl) (ww hw 13 rfl) (by decide) (by decide)) qa20 qc20 (g := (mkF m 218 #[vi p1, vi p2, vi p3, vi p4, vi (1 : Int32), vi (0 : Int32), vi (1 : Int32), vr va1, vr va2, vr va3, vr b4, vj (2 : Int64), .second] [xr b4])) rfl (by rw [hml]; rfl) (Steps.refl _) (argsL := []) (rest := []) (lenOf pd7 rfl) rfl (by show 2 * 0 + _ ≤ _; exact Nat.le_of_eq rfl) (hb hby at_218) (fun _ _ => ⟨rfl, e19, (by decide : 3 + 0 ≤ _), (by decide : 9 + 0 ≤ _)⟩)
  dsimp only [Pt.U, Pt.locs, Pt.cells, Pt.slots] at X20 l20 y20 z20 st20 hQ20
  subst l20 y20 z20
  obtain ⟨rfl, Nq20, e20⟩ := hQ20
  have N20 := Fr.app N19 Nq20
  obtain ⟨fs, hr, hrun, hended, hW, hsame⟩ := X20.leave (v := some (xi (1 : Int32))) (fun h => by rw [Bd.returns] at h; cases h)
  refine ⟨_, _, pre0 _ ?_, hrun, hended, _, _, rfl, ?_, ⟨_, rfl⟩, hW, hsame.mono (by decide) (by decide)⟩
  · show own_S p e below s₁ (mkF m 0 #[vi p1, vi p2, vi p3, vi p4, vu, vu, vu, vu, vu, vu, vu, vu, vu] []) _
    refine XS.iloadN X0.here hx rfl (hb hby at_0) rfl ?_
    show own_S p e below s₁ (mkF m 1 #[vi p1, vi p2, vi p3, vi p4, vu, vu, vu, vu, vu, vu, vu, vu, vu] [xi p4]) _
    refine XS.iconst X0.here hx rfl (hb hby at_1) ?_
    show own_S p e below s₁ (mkF m 2 #[vi p1, vi p2, vi p3, vi p4, vu, vu, vu, vu, vu, vu, vu, vu, vu] [xi (1 : Int32), xi p4]) _
    refine XS.iand X0.here hx rfl (hb hby at_2) rfl ?_
    show own_S p e below s₁ (mkF m 3 #[vi p1, vi p2, vi p3, vi p4, vu, vu, vu, vu, vu, vu, vu, vu, vu] [xi (p4 &&& (1 : Int32))]) _
    refine castTop (show (mkF m 3 #[vi p1, vi p2, vi p3, vi p4, vu, vu, vu, vu, vu, vu, vu, vu, vu] [xi (p4 &&& (1 : Int32))]) = (mkF m 3 #[vi p1, vi p2, vi p3, vi p4, vu, vu, vu, vu, vu, vu, vu, vu, vu] [xi (1 : Int32)]) from by rw [as7]) ?_
    show own_S p e below s₁ (mkF m 3 #[vi p1, vi p2, vi p3, vi p4, vu, vu, vu, vu, vu, vu, vu, vu, vu] [xi (1 : Int32)]) _
    refine XS.ifNo X0.here hx rfl (hb hby at_3) rfl (by decide) ?_
    show own_S p e below s₁ (mkF m 6 #[vi p1, vi p2, vi p3, vi p4, vu, vu, vu, vu, vu, vu, vu, vu, vu] []) _
    refine XS.iconst X0.here hx rfl (hb hby at_6) ?_
    show own_S p e below s₁ (mkF m 7 #[vi p1, vi p2, vi p3, vi p4, vu, vu, vu, vu, vu, vu, vu, vu, vu] [xi (1 : Int32)]) _
    refine XS.goto X0.here hx rfl (pc0 := 7) (pc' := 11) rfl (hb hby at_7) (by decide) (by decide) ?_
    show own_S p e below s₁ (mkF m 11 #[vi p1, vi p2, vi p3, vi p4, vu, vu, vu, vu, vu, vu, vu, vu, vu] [xi (1 : Int32)]) _
    refine XS.istore X0.here hx rfl (hb hby at_11) rfl (l' := #[vi p1, vi p2, vi p3, vi p4, vi (1 : Int32), vu, vu, vu, vu, vu, vu, vu, vu]) rfl ?_
    show own_S p e below s₁ (mkF m 13 #[vi p1, vi p2, vi p3, vi p4, vi (1 : Int32), vu, vu, vu, vu, vu, vu, vu, vu] []) _
    refine XS.iloadN X0.here hx rfl (hb hby at_13) rfl ?_
    show own_S p e below s₁ (mkF m 14 #[vi p1, vi p2, vi p3, vi p4, vi (1 : Int32), vu, vu, vu, vu, vu, vu, vu, vu] [xi p4]) _
    refine XS.iconst X0.here hx rfl (hb hby at_14) ?_
    show own_S p e below s₁ (mkF m 15 #[vi p1, vi p2, vi p3, vi p4, vi (1 : Int32), vu, vu, vu, vu, vu, vu, vu, vu] [xi (2 : Int32), xi p4]) _
    refine XS.iand X0.here hx rfl (hb hby at_15) rfl ?_
    show own_S p e below s₁ (mkF m 16 #[vi p1, vi p2, vi p3, vi p4, vi (1 : Int32), vu, vu, vu, vu, vu, vu, vu, vu] [xi (p4 &&& (2 : Int32))]) _
    refine castTop (show (mkF m 16 #[vi p1, vi p2, vi p3, vi p4, vi (1 : Int32), vu, vu, vu, vu, vu, vu, vu, vu] [xi (p4 &&& (2 : Int32))]) = (mkF m 16 #[vi p1, vi p2, vi p3, vi p4, vi (1 : Int32), vu, vu, vu, vu, vu, vu, vu, vu] [xi (0 : Int32)]) from by rw [as8]) ?_
    show own_S p e below s₁ (mkF m 16 #[vi p1, vi p2, vi p3, vi p4, vi (1 : Int32), vu, vu, vu, vu, vu, vu, vu, vu] [xi (0 : Int32)]) _
    refine XS.ifYes X0.here hx rfl (pc0 := 16) (pc' := 23) rfl (hb hby at_16) rfl (by decide) (by decide) (by decide) ?_
    show own_S p e below s₁ (mkF m 23 #[vi p1, vi p2, vi p3, vi p4, vi (1 : Int32), vu, vu, vu, vu, vu, vu, vu, vu] []) _
    refine XS.iconst X0.here hx rfl (hb hby at_23) ?_
    show own_S p e below s₁ (mkF m 24 #[vi p1, vi p2, vi p3, vi p4, vi (1 : Int32), vu, vu, vu, vu, vu, vu, vu, vu] [xi (0 : Int32)]) _
    refine XS.istore X0.here hx rfl (hb hby at_24) rfl (l' := #[vi p1, vi p2, vi p3, vi p4, vi (1 : Int32), vi (0 : Int32), vu, vu, vu, vu, vu, vu, vu]) rfl ?_
    show own_S p e below s₁ (mkF m 26 #[vi p1, vi p2, vi p3, vi p4, vi (1 : Int32), vi (0 : Int32), vu, vu, vu, vu, vu, vu, vu] []) _
    refine XS.iloadN X0.here hx rfl (hb hby at_26) rfl ?_
    show own_S p e below s₁ (mkF m 27 #[vi p1, vi p2, vi p3, vi p4, vi (1 : Int32), vi (0 : Int32), vu, vu, vu, vu, vu, vu, vu] [xi p4]) _
    refine XS.iconst X0.here hx rfl (hb hby at_27) ?_
    show own_S p e below s₁ (mkF m 28 #[vi p1, vi p2, vi p3, vi p4, vi (1 : Int32), vi (0 : Int32), vu, vu, vu, vu, vu, vu, vu] [xi (4 : Int32), xi p4]) _
    refine XS.iand X0.here hx rfl (hb hby at_28) rfl ?_
    show own_S p e below s₁ (mkF m 29 #[vi p1, vi p2, vi p3, vi p4, vi (1 : Int32), vi (0 : Int32), vu, vu, vu, vu, vu, vu, vu] [xi (p4 &&& (4 : Int32))]) _
    refine castTop (show (mkF m 29 #[vi p1, vi p2, vi p3, vi p4, vi (1 : Int32), vi (0 : Int32), vu, vu, vu, vu, vu, vu, vu] [xi (p4 &&& (4 : Int32))]) = (mkF m 29 #[vi p1, vi p2, vi p3, vi p4, vi (1 : Int32), vi (0 : Int32), vu, vu, vu, vu, vu, vu, vu] [xi (4 : Int32)]) from by rw [as11]) ?_
    show own_S p e below s₁ (mkF m 29 #[vi p1, vi p2, vi p3, vi p4, vi (1 : Int32), vi (0 : Int32), vu, vu, vu, vu, vu, vu, vu] [xi (4 : Int32)]) _
    refine XS.ifNo X0.here hx rfl (hb hby at_29) rfl (by decide) ?_
    show own_S p e below s₁ (mkF m 32 #[vi p1, vi p2, vi p3, vi p4, vi (1 : Int32), vi (0 : Int32), vu, vu, vu, vu, vu, vu, vu] []) _
    refine XS.iconst X0.here hx rfl (hb hby at_32) ?_
    show own_S p e below s₁ (mkF m 33 #[vi p1, vi p2, vi p3, vi p4, vi (1 : Int32), vi (0 : Int32), vu, vu, vu, vu, vu, vu, vu] [xi (1 : Int32)]) _
    refine XS.goto X0.here hx rfl (pc0 := 33) (pc' := 37) rfl (hb hby at_33) (by decide) (by decide) ?_
    show own_S p e below s₁ (mkF m 37 #[vi p1, vi p2, vi p3, vi p4, vi (1 : Int32), vi (0 : Int32), vu, vu, vu, vu, vu, vu, vu] [xi (1 : Int32)]) _
    refine XS.istore X0.here hx rfl (hb hby at_37) rfl (l' := #[vi p1, vi p2, vi p3, vi p4, vi (1 : Int32), vi (0 : Int32), vi (1 : Int32), vu, vu, vu, vu, vu, vu]) rfl ?_
    show own_S p e below s₁ (mkF m 39 #[vi p1, vi p2, vi p3, vi p4, vi (1 : Int32), vi (0 : Int32), vi (1 : Int32), vu, vu, vu, vu, vu, vu] []) _
    refine XS.iloadN X0.here hx rfl (hb hby at_39) rfl ?_
    show own_S p e below s₁ (mkF m 40 #[vi p1, vi p2, vi p3, vi p4, vi (1 : Int32), vi (0 : Int32), vi (1 : Int32), vu, vu, vu, vu, vu, vu] [xi p1]) _
    refine st1 _ ?_
    show own_S p e below T1 (mkF m 43 #[vi p1, vi p2, vi p3, vi p4, vi (1 : Int32), vi (0 : Int32), vi (1 : Int32), vu, vu, vu, vu, vu, vu] [xr va1]) _
    refine XS.astore X1.here hx rfl (hb hby at_43) rfl rfl (l' := #[vi p1, vi p2, vi p3, vi p4, vi (1 : Int32), vi (0 : Int32), vi (1 : Int32), vr va1, vu, vu, vu, vu, vu]) rfl ?_
    show own_S p e below T1 (mkF m 45 #[vi p1, vi p2, vi p3, vi p4, vi (1 : Int32), vi (0 : Int32), vi (1 : Int32), vr va1, vu, vu, vu, vu, vu] []) _
    refine XS.iloadN X1.here hx rfl (hb hby at_45) rfl ?_
    show own_S p e below T1 (mkF m 46 #[vi p1, vi p2, vi p3, vi p4, vi (1 : Int32), vi (0 : Int32), vi (1 : Int32), vr va1, vu, vu, vu, vu, vu] [xi p2]) _
    refine st2 _ ?_
    show own_S p e below T2 (mkF m 49 #[vi p1, vi p2, vi p3, vi p4, vi (1 : Int32), vi (0 : Int32), vi (1 : Int32), vr va1, vu, vu, vu, vu, vu] [xr va2]) _
    refine XS.astore X2.here hx rfl (hb hby at_49) rfl rfl (l' := #[vi p1, vi p2, vi p3, vi p4, vi (1 : Int32), vi (0 : Int32), vi (1 : Int32), vr va1, vr va2, vu, vu, vu, vu]) rfl ?_
    show own_S p e below T2 (mkF m 51 #[vi p1, vi p2, vi p3, vi p4, vi (1 : Int32), vi (0 : Int32), vi (1 : Int32), vr va1, vr va2, vu, vu, vu, vu] []) _
    refine XS.iloadN X2.here hx rfl (hb hby at_51) rfl ?_
    show own_S p e below T2 (mkF m 52 #[vi p1, vi p2, vi p3, vi p4, vi (1 : Int32), vi (0 : Int32), vi (1 : Int32), vr va1, vr va2, vu, vu, vu, vu] [xi p3]) _
    refine st3 _ ?_
    show own_S p e below T3 (mkF m 55 #[vi p1, vi p2, vi p3, vi p4, vi (1 : Int32), vi (0 : Int32), vi (1 : Int32), vr va1, vr va2, vu, vu, vu, vu] [xr va3]) _
    refine XS.astore X3.here hx rfl (hb hby at_55) rfl rfl (l' := #[vi p1, vi p2, vi p3, vi p4, vi (1 : Int32), vi (0 : Int32), vi (1 : Int32), vr va1, vr va2, vr va3, vu, vu, vu]) rfl ?_
    show own_S p e below T3 (mkF m 57 #[vi p1, vi p2, vi p3, vi p4, vi (1 : Int32), vi (0 : Int32), vi (1 : Int32), vr va1, vr va2, vr va3, vu, vu, vu] []) _
    refine st4 _ ?_
    show own_S p e below T4 (mkF m 60 #[vi p1, vi p2, vi p3, vi p4, vi (1 : Int32), vi (0 : Int32), vi (1 : Int32), vr va1, vr va2, vr va3, vu, vu, vu] [xr b4]) _
    refine XS.dup X4.here hx rfl (hb hby at_60) rfl rfl ?_
    show own_S p e below T4 (mkF m 61 #[vi p1, vi p2, vi p3, vi p4, vi (1 : Int32), vi (0 : Int32), vi (1 : Int32), vr va1, vr va2, vr va3, vu, vu, vu] [xr b4, xr b4]) _
    refine st5.trans ?_
    show own_S p e below T5 (mkF m 64 #[vi p1, vi p2, vi p3, vi p4, vi (1 : Int32), vi (0 : Int32), vi (1 : Int32), vr va1, vr va2, vr va3, vu, vu, vu] [xr b4]) _
    refine XS.astore X5.here hx rfl (hb hby at_64) rfl rfl (l' := #[vi p1, vi p2, vi p3, vi p4, vi (1 : Int32), vi (0 : Int32), vi (1 : Int32), vr va1, vr va2, vr va3, vr b4, vu, vu]) rfl ?_
    show own_S p e below T5 (mkF m 66 #[vi p1, vi p2, vi p3, vi p4, vi (1 : Int32), vi (0 : Int32), vi (1 : Int32), vr va1, vr va2, vr va3, vr b4, vu, vu] []) _
    refine XS.iload X5.here hx rfl (hb hby at_66) rfl ?_
    show own_S p e below T5 (mkF m 68 #[vi p1, vi p2, vi p3, vi p4, vi (1 : Int32), vi (0 : Int32), vi (1 : Int32), vr va1, vr va2, vr va3, vr b4, vu, vu] [xi (1 : Int32)]) _
    refine XS.ifNo X5.here hx rfl (hb hby at_68) rfl (by decide) ?_
    show own_S p e below T5 (mkF m 71 #[vi p1, vi p2, vi p3, vi p4, vi (1 : Int32), vi (0 : Int32), vi (1 : Int32), vr va1, vr va2, vr va3, vr b4, vu, vu] []) _
    refine XS.aload X5.here hx rfl (hb hby at_71) rfl rfl ?_
    show own_S p e below T5 (mkF m 73 #[vi p1, vi p2, vi p3, vi p4, vi (1 : Int32), vi (0 : Int32), vi (1 : Int32), vr va1, vr va2, vr va3, vr b4, vu, vu] [xr b4]) _
    refine XS.aload X5.here hx rfl (hb hby at_73) rfl rfl ?_
    show own_S p e below T5 (mkF m 75 #[vi p1, vi p2, vi p3, vi p4, vi (1 : Int32), vi (0 : Int32), vi (1 : Int32), vr va1, vr va2, vr va3, vr b4, vu, vu] [xr va1, xr b4]) _
    refine st6.trans ?_
    show own_S p e below T6 (mkF m 78 #[vi p1, vi p2, vi p3, vi p4, vi (1 : Int32), vi (0 : Int32), vi (1 : Int32), vr va1, vr va2, vr va3, vr b4, vu, vu] []) _
    refine XS.iload X6.here hx rfl (hb hby at_78) rfl ?_
    show own_S p e below T6 (mkF m 80 #[vi p1, vi p2, vi p3, vi p4, vi (1 : Int32), vi (0 : Int32), vi (1 : Int32), vr va1, vr va2, vr va3, vr b4, vu, vu] [xi (0 : Int32)]) _
    refine XS.ifYes X6.here hx rfl (pc0 := 80) (pc' := 90) rfl (hb hby at_80) rfl (by decide) (by decide) (by decide) ?_
    show own_S p e below T6 (mkF m 90 #[vi p1, vi p2, vi p3, vi p4, vi (1 : Int32), vi (0 : Int32), vi (1 : Int32), vr va1, vr va2, vr va3, vr b4, vu, vu] []) _
    refine XS.iload X6.here hx rfl (hb hby at_90) rfl ?_
    show own_S p e below T6 (mkF m 92 #[vi p1, vi p2, vi p3, vi p4, vi (1 : Int32), vi (0 : Int32), vi (1 : Int32), vr va1, vr va2, vr va3, vr b4, vu, vu] [xi (1 : Int32)]) _
    refine XS.ifNo X6.here hx rfl (hb hby at_92) rfl (by decide) ?_
    show own_S p e below T6 (mkF m 95 #[vi p1, vi p2, vi p3, vi p4, vi (1 : Int32), vi (0 : Int32), vi (1 : Int32), vr va1, vr va2, vr va3, vr b4, vu, vu] []) _
    refine XS.aload X6.here hx rfl (hb hby at_95) rfl rfl ?_
    show own_S p e below T6 (mkF m 97 #[vi p1, vi p2, vi p3, vi p4, vi (1 : Int32), vi (0 : Int32), vi (1 : Int32), vr va1, vr va2, vr va3, vr b4, vu, vu] [xr b4]) _
    refine XS.aload X6.here hx rfl (hb hby at_97) rfl rfl ?_
    show own_S p e below T6 (mkF m 99 #[vi p1, vi p2, vi p3, vi p4, vi (1 : Int32), vi (0 : Int32), vi (1 : Int32), vr va1, vr va2, vr va3, vr b4, vu, vu] [xr va3, xr b4]) _
    refine st7.trans ?_
    show own_S p e below T7 (mkF m 102 #[vi p1, vi p2, vi p3, vi p4, vi (1 : Int32), vi (0 : Int32), vi (1 : Int32), vr va1, vr va2, vr va3, vr b4, vu, vu] []) _
    refine XS.iload X7.here hx rfl (hb hby at_102) rfl ?_
    show own_S p e below T7 (mkF m 104 #[vi p1, vi p2, vi p3, vi p4, vi (1 : Int32), vi (0 : Int32), vi (1 : Int32), vr va1, vr va2, vr va3, vr b4, vu, vu] [xi (1 : Int32)]) _
    refine XS.ifNo X7.here hx rfl (hb hby at_104) rfl (by decide) ?_
    show own_S p e below T7 (mkF m 107 #[vi p1, vi p2, vi p3, vi p4, vi (1 : Int32), vi (0 : Int32), vi (1 : Int32), vr va1, vr va2, vr va3, vr b4, vu, vu] []) _
    refine XS.lconst X7.here hx rfl (hb hby at_107) ?_
    show own_S p e below T7 (mkF m 108 #[vi p1, vi p2, vi p3, vi p4, vi (1 : Int32), vi (0 : Int32), vi (1 : Int32), vr va1, vr va2, vr va3, vr b4, vu, vu] [xj (1 : Int64)]) _
    refine XS.goto X7.here hx rfl (pc0 := 108) (pc' := 112) rfl (hb hby at_108) (by decide) (by decide) ?_
    show own_S p e below T7 (mkF m 112 #[vi p1, vi p2, vi p3, vi p4, vi (1 : Int32), vi (0 : Int32), vi (1 : Int32), vr va1, vr va2, vr va3, vr b4, vu, vu] [xj (1 : Int64)]) _
    refine XS.iload X7.here hx rfl (hb hby at_112) rfl ?_
    show own_S p e below T7 (mkF m 114 #[vi p1, vi p2, vi p3, vi p4, vi (1 : Int32), vi (0 : Int32), vi (1 : Int32), vr va1, vr va2, vr va3, vr b4, vu, vu] [xi (0 : Int32), xj (1 : Int64)]) _
    refine XS.ifYes X7.here hx rfl (pc0 := 114) (pc' := 121) rfl (hb hby at_114) rfl (by decide) (by decide) (by decide) ?_
    show own_S p e below T7 (mkF m 121 #[vi p1, vi p2, vi p3, vi p4, vi (1 : Int32), vi (0 : Int32), vi (1 : Int32), vr va1, vr va2, vr va3, vr b4, vu, vu] [xj (1 : Int64)]) _
    refine XS.lconst X7.here hx rfl (hb hby at_121) ?_
    show own_S p e below T7 (mkF m 122 #[vi p1, vi p2, vi p3, vi p4, vi (1 : Int32), vi (0 : Int32), vi (1 : Int32), vr va1, vr va2, vr va3, vr b4, vu, vu] [xj (0 : Int64), xj (1 : Int64)]) _
    refine XS.ladd X7.here hx rfl (hb hby at_122) rfl ?_
    show own_S p e below T7 (mkF m 123 #[vi p1, vi p2, vi p3, vi p4, vi (1 : Int32), vi (0 : Int32), vi (1 : Int32), vr va1, vr va2, vr va3, vr b4, vu, vu] [xj ((1 : Int64) + (0 : Int64))]) _
    refine castTop (show (mkF m 123 #[vi p1, vi p2, vi p3, vi p4, vi (1 : Int32), vi (0 : Int32), vi (1 : Int32), vr va1, vr va2, vr va3, vr b4, vu, vu] [xj ((1 : Int64) + (0 : Int64))]) = (mkF m 123 #[vi p1, vi p2, vi p3, vi p4, vi (1 : Int32), vi (0 : Int32), vi (1 : Int32), vr va1, vr va2, vr va3, vr b4, vu, vu] [xj (1 : Int64)]) from by rw [show ((1 : Int64) + (0 : Int64)) = (1 : Int64) from by decide]) ?_
    show own_S p e below T7 (mkF m 123 #[vi p1, vi p2, vi p3, vi p4, vi (1 : Int32), vi (0 : Int32), vi (1 : Int32), vr va1, vr va2, vr va3, vr b4, vu, vu] [xj (1 : Int64)]) _
    refine XS.iload X7.here hx rfl (hb hby at_123) rfl ?_
    show own_S p e below T7 (mkF m 125 #[vi p1, vi p2, vi p3, vi p4, vi (1 : Int32), vi (0 : Int32), vi (1 : Int32), vr va1, vr va2, vr va3, vr b4, vu, vu] [xi (1 : Int32), xj (1 : Int64)]) _
    refine XS.ifNo X7.here hx rfl (hb hby at_125) rfl (by decide) ?_
    show own_S p e below T7 (mkF m 128 #[vi p1, vi p2, vi p3, vi p4, vi (1 : Int32), vi (0 : Int32), vi (1 : Int32), vr va1, vr va2, vr va3, vr b4, vu, vu] [xj (1 : Int64)]) _
    refine XS.lconst X7.here hx rfl (hb hby at_128) ?_
    show own_S p e below T7 (mkF m 129 #[vi p1, vi p2, vi p3, vi p4, vi (1 : Int32), vi (0 : Int32), vi (1 : Int32), vr va1, vr va2, vr va3, vr b4, vu, vu] [xj (1 : Int64), xj (1 : Int64)]) _
    refine XS.goto X7.here hx rfl (pc0 := 129) (pc' := 133) rfl (hb hby at_129) (by decide) (by decide) ?_
    show own_S p e below T7 (mkF m 133 #[vi p1, vi p2, vi p3, vi p4, vi (1 : Int32), vi (0 : Int32), vi (1 : Int32), vr va1, vr va2, vr va3, vr b4, vu, vu] [xj (1 : Int64), xj (1 : Int64)]) _
    refine XS.ladd X7.here hx rfl (hb hby at_133) rfl ?_
    show own_S p e below T7 (mkF m 134 #[vi p1, vi p2, vi p3, vi p4, vi (1 : Int32), vi (0 : Int32), vi (1 : Int32), vr va1, vr va2, vr va3, vr b4, vu, vu] [xj ((1 : Int64) + (1 : Int64))]) _
    refine castTop (show (mkF m 134 #[vi p1, vi p2, vi p3, vi p4, vi (1 : Int32), vi (0 : Int32), vi (1 : Int32), vr va1, vr va2, vr va3, vr b4, vu, vu] [xj ((1 : Int64) + (1 : Int64))]) = (mkF m 134 #[vi p1, vi p2, vi p3, vi p4, vi (1 : Int32), vi (0 : Int32), vi (1 : Int32), vr va1, vr va2, vr va3, vr b4, vu, vu] [xj (2 : Int64)]) from by rw [show ((1 : Int64) + (1 : Int64)) = (2 : Int64) from by decide]) ?_
    show own_S p e below T7 (mkF m 134 #[vi p1, vi p2, vi p3, vi p4, vi (1 : Int32), vi (0 : Int32), vi (1 : Int32), vr va1, vr va2, vr va3, vr b4, vu, vu] [xj (2 : Int64)]) _
    refine XS.lstore X7.here hx rfl (hb hby at_134) rfl (l' := #[vi p1, vi p2, vi p3, vi p4, vi (1 : Int32), vi (0 : Int32), vi (1 : Int32), vr va1, vr va2, vr va3, vr b4, vj (2 : Int64), .second]) rfl ?_
    show own_S p e below T7 (mkF m 136 #[vi p1, vi p2, vi p3, vi p4, vi (1 : Int32), vi (0 : Int32), vi (1 : Int32), vr va1, vr va2, vr va3, vr b4, vj (2 : Int64), .second] []) _
    refine XS.aload X7.here hx rfl (hb hby at_136) rfl rfl ?_
    show own_S p e below T7 (mkF m 138 #[vi p1, vi p2, vi p3, vi p4, vi (1 : Int32), vi (0 : Int32), vi (1 : Int32), vr va1, vr va2, vr va3, vr b4, vj (2 : Int64), .second] [xr b4]) _
    refine st8 _ ?_
    show own_S p e below T8 (mkF m 141 #[vi p1, vi p2, vi p3, vi p4, vi (1 : Int32), vi (0 : Int32), vi (1 : Int32), vr va1, vr va2, vr va3, vr b4, vj (2 : Int64), .second] [xr u0, xr b4]) _
    refine st9.trans ?_
    show own_S p e below T9 (mkF m 144 #[vi p1, vi p2, vi p3, vi p4, vi (1 : Int32), vi (0 : Int32), vi (1 : Int32), vr va1, vr va2, vr va3, vr b4, vj (2 : Int64), .second] [xj (((0 : Int64) + own_h p1 0) + own_h p3 0)]) _
    refine XS.iconst X9.here hx rfl (hb hby at_144) ?_
    show own_S p e below T9 (mkF m 145 #[vi p1, vi p2, vi p3, vi p4, vi (1 : Int32), vi (0 : Int32), vi (1 : Int32), vr va1, vr va2, vr va3, vr b4, vj (2 : Int64), .second] [xi (0 : Int32), xj (((0 : Int64) + own_h p1 0) + own_h p3 0)]) _
    refine XS.iloadN X9.here hx rfl (hb hby at_145) rfl ?_
    show own_S p e below T9 (mkF m 146 #[vi p1, vi p2, vi p3, vi p4, vi (1 : Int32), vi (0 : Int32), vi (1 : Int32), vr va1, vr va2, vr va3, vr b4, vj (2 : Int64), .second] [xi p1, xi (0 : Int32), xj (((0 : Int64) + own_h p1 0) + own_h p3 0)]) _
    refine XS.iloadN X9.here hx rfl (hb hby at_146) rfl ?_
    show own_S p e below T9 (mkF m 147 #[vi p1, vi p2, vi p3, vi p4, vi (1 : Int32), vi (0 : Int32), vi (1 : Int32), vr va1, vr va2, vr va3, vr b4, vj (2 : Int64), .second] [xi p2, xi p1, xi (0 : Int32), xj (((0 : Int64) + own_h p1 0) + own_h p3 0)]) _
    refine XS.iloadN X9.here hx rfl (hb hby at_147) rfl ?_
    show own_S p e below T9 (mkF m 148 #[vi p1, vi p2, vi p3, vi p4, vi (1 : Int32), vi (0 : Int32), vi (1 : Int32), vr va1, vr va2, vr va3, vr b4, vj (2 : Int64), .second] [xi p3, xi p2, xi p1, xi (0 : Int32), xj (((0 : Int64) + own_h p1 0) + own_h p3 0)]) _
    refine XS.iloadN X9.here hx rfl (hb hby at_148) rfl ?_
    show own_S p e below T9 (mkF m 149 #[vi p1, vi p2, vi p3, vi p4, vi (1 : Int32), vi (0 : Int32), vi (1 : Int32), vr va1, vr va2, vr va3, vr b4, vj (2 : Int64), .second] [xi p4, xi p3, xi p2, xi p1, xi (0 : Int32), xj (((0 : Int64) + own_h p1 0) + own_h p3 0)]) _
    refine st10 _ ?_
    show own_S p e below T10 (mkF m 152 #[vi p1, vi p2, vi p3, vi p4, vi (1 : Int32), vi (0 : Int32), vi (1 : Int32), vr va1, vr va2, vr va3, vr b4, vj (2 : Int64), .second] [xj (((own_h p1 (0 : Int32)) + (0 : Int64)) + (own_h p3 (0 : Int32))), xj (((0 : Int64) + own_h p1 0) + own_h p3 0)]) _
    refine XS.lcmp X10.here hx rfl (hb hby at_152) rfl ?_
    show own_S p e below T10 (mkF m 153 #[vi p1, vi p2, vi p3, vi p4, vi (1 : Int32), vi (0 : Int32), vi (1 : Int32), vr va1, vr va2, vr va3, vr b4, vj (2 : Int64), .second] [xi (lcmpW (((0 : Int64) + own_h p1 0) + own_h p3 0) (((own_h p1 (0 : Int32)) + (0 : Int64)) + (own_h p3 (0 : Int32))))]) _
    show own_S p e below T10 (mkF m 153 #[vi p1, vi p2, vi p3, vi p4, vi (1 : Int32), vi (0 : Int32), vi (1 : Int32), vr va1, vr va2, vr va3, vr b4, vj (2 : Int64), .second] [xi (lcmpW (((0 : Int64) + own_h p1 0) + own_h p3 0) (((own_h p1 (0 : Int32)) + (0 : Int64)) + (own_h p3 (0 : Int32))))]) _
    refine XS.ifNo X10.here hx rfl (hb hby at_153) rfl (by simp [lcmpW, ifCond.holds, Int64.zero_add, Int64.add_zero]) ?_
    show own_S p e below T10 (mkF m 156 #[vi p1, vi p2, vi p3, vi p4, vi (1 : Int32), vi (0 : Int32), vi (1 : Int32), vr va1, vr va2, vr va3, vr b4, vj (2 : Int64), .second] []) _
    refine XS.aload X10.here hx rfl (hb hby at_156) rfl rfl ?_
    show own_S p e below T10 (mkF m 158 #[vi p1, vi p2, vi p3, vi p4, vi (1 : Int32), vi (0 : Int32), vi (1 : Int32), vr va1, vr va2, vr va3, vr b4, vj (2 : Int64), .second] [xr b4]) _
    refine st11 _ ?_
    show own_S p e below T11 (mkF m 161 #[vi p1, vi p2, vi p3, vi p4, vi (1 : Int32), vi (0 : Int32), vi (1 : Int32), vr va1, vr va2, vr va3, vr b4, vj (2 : Int64), .second] [xr u4, xr b4]) _
    refine st12.trans ?_
    show own_S p e below T12 (mkF m 164 #[vi p1, vi p2, vi p3, vi p4, vi (1 : Int32), vi (0 : Int32), vi (1 : Int32), vr va1, vr va2, vr va3, vr b4, vj (2 : Int64), .second] [xj (((0 : Int64) + own_h p1 1) + own_h p3 1)]) _
    refine XS.iconst X12.here hx rfl (hb hby at_164) ?_
    show own_S p e below T12 (mkF m 165 #[vi p1, vi p2, vi p3, vi p4, vi (1 : Int32), vi (0 : Int32), vi (1 : Int32), vr va1, vr va2, vr va3, vr b4, vj (2 : Int64), .second] [xi (1 : Int32), xj (((0 : Int64) + own_h p1 1) + own_h p3 1)]) _
    refine XS.iloadN X12.here hx rfl (hb hby at_165) rfl ?_
    show own_S p e below T12 (mkF m 166 #[vi p1, vi p2, vi p3, vi p4, vi (1 : Int32), vi (0 : Int32), vi (1 : Int32), vr va1, vr va2, vr va3, vr b4, vj (2 : Int64), .second] [xi p1, xi (1 : Int32), xj (((0 : Int64) + own_h p1 1) + own_h p3 1)]) _
    refine XS.iloadN X12.here hx rfl (hb hby at_166) rfl ?_
    show own_S p e below T12 (mkF m 167 #[vi p1, vi p2, vi p3, vi p4, vi (1 : Int32), vi (0 : Int32), vi (1 : Int32), vr va1, vr va2, vr va3, vr b4, vj (2 : Int64), .second] [xi p2, xi p1, xi (1 : Int32), xj (((0 : Int64) + own_h p1 1) + own_h p3 1)]) _
    refine XS.iloadN X12.here hx rfl (hb hby at_167) rfl ?_
    show own_S p e below T12 (mkF m 168 #[vi p1, vi p2, vi p3, vi p4, vi (1 : Int32), vi (0 : Int32), vi (1 : Int32), vr va1, vr va2, vr va3, vr b4, vj (2 : Int64), .second] [xi p3, xi p2, xi p1, xi (1 : Int32), xj (((0 : Int64) + own_h p1 1) + own_h p3 1)]) _
    refine XS.iloadN X12.here hx rfl (hb hby at_168) rfl ?_
    show own_S p e below T12 (mkF m 169 #[vi p1, vi p2, vi p3, vi p4, vi (1 : Int32), vi (0 : Int32), vi (1 : Int32), vr va1, vr va2, vr va3, vr b4, vj (2 : Int64), .second] [xi p4, xi p3, xi p2, xi p1, xi (1 : Int32), xj (((0 : Int64) + own_h p1 1) + own_h p3 1)]) _
    refine st13 _ ?_
    show own_S p e below T13 (mkF m 172 #[vi p1, vi p2, vi p3, vi p4, vi (1 : Int32), vi (0 : Int32), vi (1 : Int32), vr va1, vr va2, vr va3, vr b4, vj (2 : Int64), .second] [xj (((own_h p1 (1 : Int32)) + (0 : Int64)) + (own_h p3 (1 : Int32))), xj (((0 : Int64) + own_h p1 1) + own_h p3 1)]) _
    refine XS.lcmp X13.here hx rfl (hb hby at_172) rfl ?_
    show own_S p e below T13 (mkF m 173 #[vi p1, vi p2, vi p3, vi p4, vi (1 : Int32), vi (0 : Int32), vi (1 : Int32), vr va1, vr va2, vr va3, vr b4, vj (2 : Int64), .second] [xi (lcmpW (((0 : Int64) + own_h p1 1) + own_h p3 1) (((own_h p1 (1 : Int32)) + (0 : Int64)) + (own_h p3 (1 : Int32))))]) _
    show own_S p e below T13 (mkF m 173 #[vi p1, vi p2, vi p3, vi p4, vi (1 : Int32), vi (0 : Int32), vi (1 : Int32), vr va1, vr va2, vr va3, vr b4, vj (2 : Int64), .second] [xi (lcmpW (((0 : Int64) + own_h p1 1) + own_h p3 1) (((own_h p1 (1 : Int32)) + (0 : Int64)) + (own_h p3 (1 : Int32))))]) _
    refine XS.ifNo X13.here hx rfl (hb hby at_173) rfl (by simp [lcmpW, ifCond.holds, Int64.zero_add, Int64.add_zero]) ?_
    show own_S p e below T13 (mkF m 176 #[vi p1, vi p2, vi p3, vi p4, vi (1 : Int32), vi (0 : Int32), vi (1 : Int32), vr va1, vr va2, vr va3, vr b4, vj (2 : Int64), .second] []) _
    refine XS.aload X13.here hx rfl (hb hby at_176) rfl rfl ?_
    show own_S p e below T13 (mkF m 178 #[vi p1, vi p2, vi p3, vi p4, vi (1 : Int32), vi (0 : Int32), vi (1 : Int32), vr va1, vr va2, vr va3, vr b4, vj (2 : Int64), .second] [xr b4]) _
    refine st14 _ ?_
    show own_S p e below T14 (mkF m 181 #[vi p1, vi p2, vi p3, vi p4, vi (1 : Int32), vi (0 : Int32), vi (1 : Int32), vr va1, vr va2, vr va3, vr b4, vj (2 : Int64), .second] [xr u2, xr b4]) _
    refine st15.trans ?_
    show own_S p e below T15 (mkF m 184 #[vi p1, vi p2, vi p3, vi p4, vi (1 : Int32), vi (0 : Int32), vi (1 : Int32), vr va1, vr va2, vr va3, vr b4, vj (2 : Int64), .second] [xj (((0 : Int64) + own_h p1 2) + own_h p3 2)]) _
    refine XS.iconst X15.here hx rfl (hb hby at_184) ?_
    show own_S p e below T15 (mkF m 185 #[vi p1, vi p2, vi p3, vi p4, vi (1 : Int32), vi (0 : Int32), vi (1 : Int32), vr va1, vr va2, vr va3, vr b4, vj (2 : Int64), .second] [xi (2 : Int32), xj (((0 : Int64) + own_h p1 2) + own_h p3 2)]) _
    refine XS.iloadN X15.here hx rfl (hb hby at_185) rfl ?_
    show own_S p e below T15 (mkF m 186 #[vi p1, vi p2, vi p3, vi p4, vi (1 : Int32), vi (0 : Int32), vi (1 : Int32), vr va1, vr va2, vr va3, vr b4, vj (2 : Int64), .second] [xi p1, xi (2 : Int32), xj (((0 : Int64) + own_h p1 2) + own_h p3 2)]) _
    refine XS.iloadN X15.here hx rfl (hb hby at_186) rfl ?_
    show own_S p e below T15 (mkF m 187 #[vi p1, vi p2, vi p3, vi p4, vi (1 : Int32), vi (0 : Int32), vi (1 : Int32), vr va1, vr va2, vr va3, vr b4, vj (2 : Int64), .second] [xi p2, xi p1, xi (2 : Int32), xj (((0 : Int64) + own_h p1 2) + own_h p3 2)]) _
    refine XS.iloadN X15.here hx rfl (hb hby at_187) rfl ?_
    show own_S p e below T15 (mkF m 188 #[vi p1, vi p2, vi p3, vi p4, vi (1 : Int32), vi (0 : Int32), vi (1 : Int32), vr va1, vr va2, vr va3, vr b4, vj (2 : Int64), .second] [xi p3, xi p2, xi p1, xi (2 : Int32), xj (((0 : Int64) + own_h p1 2) + own_h p3 2)]) _
    refine XS.iloadN X15.here hx rfl (hb hby at_188) rfl ?_
    show own_S p e below T15 (mkF m 189 #[vi p1, vi p2, vi p3, vi p4, vi (1 : Int32), vi (0 : Int32), vi (1 : Int32), vr va1, vr va2, vr va3, vr b4, vj (2 : Int64), .second] [xi p4, xi p3, xi p2, xi p1, xi (2 : Int32), xj (((0 : Int64) + own_h p1 2) + own_h p3 2)]) _
    refine st16 _ ?_
    show own_S p e below T16 (mkF m 192 #[vi p1, vi p2, vi p3, vi p4, vi (1 : Int32), vi (0 : Int32), vi (1 : Int32), vr va1, vr va2, vr va3, vr b4, vj (2 : Int64), .second] [xj (((own_h p1 (2 : Int32)) + (0 : Int64)) + (own_h p3 (2 : Int32))), xj (((0 : Int64) + own_h p1 2) + own_h p3 2)]) _
    refine XS.lcmp X16.here hx rfl (hb hby at_192) rfl ?_
    show own_S p e below T16 (mkF m 193 #[vi p1, vi p2, vi p3, vi p4, vi (1 : Int32), vi (0 : Int32), vi (1 : Int32), vr va1, vr va2, vr va3, vr b4, vj (2 : Int64), .second] [xi (lcmpW (((0 : Int64) + own_h p1 2) + own_h p3 2) (((own_h p1 (2 : Int32)) + (0 : Int64)) + (own_h p3 (2 : Int32))))]) _
    show own_S p e below T16 (mkF m 193 #[vi p1, vi p2, vi p3, vi p4, vi (1 : Int32), vi (0 : Int32), vi (1 : Int32), vr va1, vr va2, vr va3, vr b4, vj (2 : Int64), .second] [xi (lcmpW (((0 : Int64) + own_h p1 2) + own_h p3 2) (((own_h p1 (2 : Int32)) + (0 : Int64)) + (own_h p3 (2 : Int32))))]) _
    refine XS.ifNo X16.here hx rfl (hb hby at_193) rfl (by simp [lcmpW, ifCond.holds, Int64.zero_add, Int64.add_zero]) ?_
    show own_S p e below T16 (mkF m 196 #[vi p1, vi p2, vi p3, vi p4, vi (1 : Int32), vi (0 : Int32), vi (1 : Int32), vr va1, vr va2, vr va3, vr b4, vj (2 : Int64), .second] []) _
    refine XS.aload X16.here hx rfl (hb hby at_196) rfl rfl ?_
    show own_S p e below T16 (mkF m 198 #[vi p1, vi p2, vi p3, vi p4, vi (1 : Int32), vi (0 : Int32), vi (1 : Int32), vr va1, vr va2, vr va3, vr b4, vj (2 : Int64), .second] [xr b4]) _
    refine st17 _ ?_
    show own_S p e below T17 (mkF m 201 #[vi p1, vi p2, vi p3, vi p4, vi (1 : Int32), vi (0 : Int32), vi (1 : Int32), vr va1, vr va2, vr va3, vr b4, vj (2 : Int64), .second] [xr u1, xr b4]) _
    refine st18.trans ?_
    show own_S p e below T18 (mkF m 204 #[vi p1, vi p2, vi p3, vi p4, vi (1 : Int32), vi (0 : Int32), vi (1 : Int32), vr va1, vr va2, vr va3, vr b4, vj (2 : Int64), .second] [xj (((0 : Int64) + own_h p1 3) + own_h p3 3)]) _
    refine XS.iconst X18.here hx rfl (hb hby at_204) ?_
    show own_S p e below T18 (mkF m 205 #[vi p1, vi p2, vi p3, vi p4, vi (1 : Int32), vi (0 : Int32), vi (1 : Int32), vr va1, vr va2, vr va3, vr b4, vj (2 : Int64), .second] [xi (3 : Int32), xj (((0 : Int64) + own_h p1 3) + own_h p3 3)]) _
    refine XS.iloadN X18.here hx rfl (hb hby at_205) rfl ?_
    show own_S p e below T18 (mkF m 206 #[vi p1, vi p2, vi p3, vi p4, vi (1 : Int32), vi (0 : Int32), vi (1 : Int32), vr va1, vr va2, vr va3, vr b4, vj (2 : Int64), .second] [xi p1, xi (3 : Int32), xj (((0 : Int64) + own_h p1 3) + own_h p3 3)]) _
    refine XS.iloadN X18.here hx rfl (hb hby at_206) rfl ?_
    show own_S p e below T18 (mkF m 207 #[vi p1, vi p2, vi p3, vi p4, vi (1 : Int32), vi (0 : Int32), vi (1 : Int32), vr va1, vr va2, vr va3, vr b4, vj (2 : Int64), .second] [xi p2, xi p1, xi (3 : Int32), xj (((0 : Int64) + own_h p1 3) + own_h p3 3)]) _
    refine XS.iloadN X18.here hx rfl (hb hby at_207) rfl ?_
    show own_S p e below T18 (mkF m 208 #[vi p1, vi p2, vi p3, vi p4, vi (1 : Int32), vi (0 : Int32), vi (1 : Int32), vr va1, vr va2, vr va3, vr b4, vj (2 : Int64), .second] [xi p3, xi p2, xi p1, xi (3 : Int32), xj (((0 : Int64) + own_h p1 3) + own_h p3 3)]) _
    refine XS.iloadN X18.here hx rfl (hb hby at_208) rfl ?_
    show own_S p e below T18 (mkF m 209 #[vi p1, vi p2, vi p3, vi p4, vi (1 : Int32), vi (0 : Int32), vi (1 : Int32), vr va1, vr va2, vr va3, vr b4, vj (2 : Int64), .second] [xi p4, xi p3, xi p2, xi p1, xi (3 : Int32), xj (((0 : Int64) + own_h p1 3) + own_h p3 3)]) _
    refine st19 _ ?_
    show own_S p e below T19 (mkF m 212 #[vi p1, vi p2, vi p3, vi p4, vi (1 : Int32), vi (0 : Int32), vi (1 : Int32), vr va1, vr va2, vr va3, vr b4, vj (2 : Int64), .second] [xj (((own_h p1 (3 : Int32)) + (0 : Int64)) + (own_h p3 (3 : Int32))), xj (((0 : Int64) + own_h p1 3) + own_h p3 3)]) _
    refine XS.lcmp X19.here hx rfl (hb hby at_212) rfl ?_
    show own_S p e below T19 (mkF m 213 #[vi p1, vi p2, vi p3, vi p4, vi (1 : Int32), vi (0 : Int32), vi (1 : Int32), vr va1, vr va2, vr va3, vr b4, vj (2 : Int64), .second] [xi (lcmpW (((0 : Int64) + own_h p1 3) + own_h p3 3) (((own_h p1 (3 : Int32)) + (0 : Int64)) + (own_h p3 (3 : Int32))))]) _
    show own_S p e below T19 (mkF m 213 #[vi p1, vi p2, vi p3, vi p4, vi (1 : Int32), vi (0 : Int32), vi (1 : Int32), vr va1, vr va2, vr va3, vr b4, vj (2 : Int64), .second] [xi (lcmpW (((0 : Int64) + own_h p1 3) + own_h p3 3) (((own_h p1 (3 : Int32)) + (0 : Int64)) + (own_h p3 (3 : Int32))))]) _
    refine XS.ifNo X19.here hx rfl (hb hby at_213) rfl (by simp [lcmpW, ifCond.holds, Int64.zero_add, Int64.add_zero]) ?_
    show own_S p e below T19 (mkF m 216 #[vi p1, vi p2, vi p3, vi p4, vi (1 : Int32), vi (0 : Int32), vi (1 : Int32), vr va1, vr va2, vr va3, vr b4, vj (2 : Int64), .second] []) _
    refine XS.aload X19.here hx rfl (hb hby at_216) rfl rfl ?_
    show own_S p e below T19 (mkF m 218 #[vi p1, vi p2, vi p3, vi p4, vi (1 : Int32), vi (0 : Int32), vi (1 : Int32), vr va1, vr va2, vr va3, vr b4, vj (2 : Int64), .second] [xr b4]) _
    refine st20.trans ?_
    show own_S p e below T20 (mkF m 221 #[vi p1, vi p2, vi p3, vi p4, vi (1 : Int32), vi (0 : Int32), vi (1 : Int32), vr va1, vr va2, vr va3, vr b4, vj (2 : Int64), .second] [xj (((((0 : Int64) + (((0 : Int64) + own_h p1 0) + own_h p3 0)) + (((0 : Int64) + own_h p1 1) + own_h p3 1)) + (((0 : Int64) + own_h p1 2) + own_h p3 2)) + (((0 : Int64) + own_h p1 3) + own_h p3 3))]) _
    refine XS.lload X20.here hx rfl (hb hby at_221) rfl ?_
    show own_S p e below T20 (mkF m 223 #[vi p1, vi p2, vi p3, vi p4, vi (1 : Int32), vi (0 : Int32), vi (1 : Int32), vr va1, vr va2, vr va3, vr b4, vj (2 : Int64), .second] [xj (2 : Int64), xj (((((0 : Int64) + (((0 : Int64) + own_h p1 0) + own_h p3 0)) + (((0 : Int64) + own_h p1 1) + own_h p3 1)) + (((0 : Int64) + own_h p1 2) + own_h p3 2)) + (((0 : Int64) + own_h p1 3) + own_h p3 3))]) _
    refine XS.lcmp X20.here hx rfl (hb hby at_223) rfl ?_
    show own_S p e below T20 (mkF m 224 #[vi p1, vi p2, vi p3, vi p4, vi (1 : Int32), vi (0 : Int32), vi (1 : Int32), vr va1, vr va2, vr va3, vr b4, vj (2 : Int64), .second] [xi (lcmpW (((((0 : Int64) + (((0 : Int64) + own_h p1 0) + own_h p3 0)) + (((0 : Int64) + own_h p1 1) + own_h p3 1)) + (((0 : Int64) + own_h p1 2) + own_h p3 2)) + (((0 : Int64) + own_h p1 3) + own_h p3 3)) (2 : Int64))]) _
    show own_S p e below T20 (mkF m 224 #[vi p1, vi p2, vi p3, vi p4, vi (1 : Int32), vi (0 : Int32), vi (1 : Int32), vr va1, vr va2, vr va3, vr b4, vj (2 : Int64), .second] [xi (lcmpW (((((0 : Int64) + (((0 : Int64) + own_h p1 0) + own_h p3 0)) + (((0 : Int64) + own_h p1 1) + own_h p3 1)) + (((0 : Int64) + own_h p1 2) + own_h p3 2)) + (((0 : Int64) + own_h p1 3) + own_h p3 3)) (2 : Int64))]) _
    refine XS.ifNo X20.here hx rfl (hb hby at_224) rfl (by rw [show (((((0 : Int64) + (((0 : Int64) + own_h p1 0) + own_h p3 0)) + (((0 : Int64) + own_h p1 1) + own_h p3 1)) + (((0 : Int64) + own_h p1 2) + own_h p3 2)) + (((0 : Int64) + own_h p1 3) + own_h p3 3)) = (own_h p1 0 + own_h p1 1 + own_h p1 2 + own_h p1 3) + (own_h p3 0 + own_h p3 1 + own_h p3 2 + own_h p3 3) from by simp only [Int64.zero_add]; try ac_rfl]; simp only [own_hsum]; try decide) ?_
    show own_S p e below T20 (mkF m 227 #[vi p1, vi p2, vi p3, vi p4, vi (1 : Int32), vi (0 : Int32), vi (1 : Int32), vr va1, vr va2, vr va3, vr b4, vj (2 : Int64), .second] []) _
    refine XS.iconst X20.here hx rfl (hb hby at_227) ?_
    show own_S p e below T20 (mkF m 228 #[vi p1, vi p2, vi p3, vi p4, vi (1 : Int32), vi (0 : Int32), vi (1 : Int32), vr va1, vr va2, vr va3, vr b4, vj (2 : Int64), .second] [xi (1 : Int32)]) _
    refine XS.goto X20.here hx rfl (pc0 := 228) (pc' := 232) rfl (hb hby at_228) (by decide) (by decide) ?_
    show own_S p e below T20 (mkF m 232 #[vi p1, vi p2, vi p3, vi p4, vi (1 : Int32), vi (0 : Int32), vi (1 : Int32), vr va1, vr va2, vr va3, vr b4, vj (2 : Int64), .second] [xi (1 : Int32)]) _
    exact retN X20 hx (t := .boolean) Bd.returns (by simp) (hb hby at_232) hr
  · exact ⟨rfl, N20⟩
theorem ef_own_c28_expected (m : MethodId) (u0 u1 u2 u3 u4 : Addr) (p1 : Int32) (p2 : Int32) (p3 : Int32) (p4 : Int32) : entryFrame m #[xi (0 : Int32), xi p1, xi p2, xi p3, xi p4] 5 = (mkF m 0 #[vi (0 : Int32), vi p1, vi p2, vi p3, vi p4] []) := by first | (simp [entryFrame, mkF, argsToLocals, Value.category]; done) | rfl
set_option maxRecDepth 65536 in
set_option maxHeartbeats 40000000 in
theorem own_c28_expected (l : Launch) (Z : State) (a0 : Array Value) (hw : ∀ d ∈ tables_1, d.before a0 Z = true) (u0 u1 u2 u3 u4 : Addr) (G : own_St Z u0 u1 u2 u3 u4) (p1 : Int32) (p2 : Int32) (p3 : Int32) (p4 : Int32) (as7 : (p4 &&& (1 : Int32)) = (1 : Int32)) (as9 : (p4 &&& (2 : Int32)) = (2 : Int32)) (as10 : (p4 &&& (4 : Int32)) = (0 : Int32)) (h0 : Heap) (n0 : Nat) (O0 : Old Z n0 h0) : own_Met l Z Y9 method_4_code 5 (some .long) ({ frames := 1, cells := 0, slots := 0, locals := 16 } : Room) #[xi (0 : Int32), xi p1, xi p2, xi p3, xi p4] h0 (own_QR (some (xj (((own_h p1 (0 : Int32)) + (own_h p2 (0 : Int32))) + (0 : Int64)))) h0 n0) := by
  intro ws
  refine MetFree.of_bodySF (plainFor_of_name pn3) hisR ?_
  intro p e s m args below meth c s₁ Bd hml0 hP hK
  obtain ⟨rfl, hZ, hh⟩ := hP
  have hx := Bd.exec
  have hby := Bd.bytes
  have hml : c.maxLocals = 5 := hml0
  have hown : s.vm.findClass "com/example/feedwright/feedwright/LoadSummaryAddPinLaw" = some m.cls := findClass_of_methodNamed Bd.named
  have hnm := (name_of_methodNamed Bd.named Bd.method).1
  have X0 : Stand p l e ({ frames := 1, cells := 0, slots := 0, locals := 16 } : Room) s m #[xi (0 : Int32), xi p1, xi p2, xi p3, xi p4] below meth c s₁ [] 0 0 := Stand.of_body Bd
  have e0 : s₁.heap = h0 := by rw [← hh, Bd.state]; rfl
  have N0 := Fr.nil n0
  have pre0 : ∀ t, Steps p.tables e below (s₁.setTop (mkF m 0 #[vi (0 : Int32), vi p1, vi p2, vi p3, vi p4] [])) t → Steps p.tables e below (s₁.setTop (entryFrame m #[xi (0 : Int32), xi p1, xi p2, xi p3, xi p4] 5)) t := fun t st => castTop (ef_own_c28_expected m u0 u1 u2 u3 u4 p1 p2 p3 p4) st
  obtain ⟨_, _, ⟨T1, L1, k1, n1⟩, -, X1, ⟨Lc1, hQ1, l1, y1, z1⟩, st1⟩ := Jvm.LawKit.callS X0 hx (y := Y6) hown (mvT hZ (ww hw 61 rfl)) (mvT hZ (ww hw 62 rfl)) (mvT hZ (ww hw 2 rfl)) (mvT hZ (ww hw 63 rfl)) (by decide) (backOf (W := 0) (own_hit l Z a0 hw u0 u1 u2 u3 u4 G p1 (0 : Int32) h0 n0 O0 []) hZ (ww hw 63 rfl) (ww hw 2 rfl) (by decide) (by decide)) (g := (mkF m 14 #[vi (0 : Int32), vi p1, vi p2, vi p3, vi p4] [xi (0 : Int32), xi p1, xi (1 : Int32)])) rfl (by rw [hml]; rfl) (argsL := [xi (1 : Int32), xi p1, xi (0 : Int32)]) (rest := []) (lenOf pd5 rfl) rfl (by show 2 * 0 + _ ≤ _; exact Nat.le_of_eq rfl) (hb hby d8_14) (fun _ _ => ⟨rfl, e0, (by decide : 0 + 0 ≤ _), (by decide : 0 + 0 ≤ _)⟩)
  dsimp only [Pt.U, Pt.locs, Pt.cells, Pt.slots] at X1 l1 y1 z1 st1 hQ1
  subst l1 y1 z1
  obtain ⟨rfl, Nq1, e1⟩ := hQ1
  have N1 := Fr.app N0 Nq1
  obtain ⟨_, _, ⟨T2, L2, k2, n2⟩, -, X2, ⟨Lc2, hQ2, l2, y2, z2⟩, st2⟩ := Jvm.LawKit.callS X1 hx (y := Y6) hown (mvT hZ (ww hw 61 rfl)) (mvT hZ (ww hw 62 rfl)) (mvT hZ (ww hw 2 rfl)) (mvT hZ (ww hw 63 rfl)) (by decide) (backOf (W := 2) (own_hit l Z a0 hw u0 u1 u2 u3 u4 G p2 (0 : Int32) h0 n0 O0 []) hZ (ww hw 63 rfl) (ww hw 2 rfl) (by decide) (by decide)) (g := (mkF m 31 #[vi (0 : Int32), vi p1, vi p2, vi p3, vi p4] [xi (0 : Int32), xi p2, xi (1 : Int32), xj (own_h p1 (0 : Int32))])) rfl (by rw [hml]; rfl) (argsL := [xi (1 : Int32), xi p2, xi (0 : Int32)]) (rest := [xj (own_h p1 (0 : Int32))]) (lenOf pd5 rfl) rfl (by show 2 * 0 + _ ≤ _; exact Nat.le_of_eq rfl) (hb hby d8_31) (fun _ _ => ⟨rfl, e1, (by decide : 0 + 0 ≤ _), (by decide : 0 + 0 ≤ _)⟩)
  dsimp only [Pt.U, Pt.locs, Pt.cells, Pt.slots] at X2 l2 y2 z2 st2 hQ2
  subst l2 y2 z2
  obtain ⟨rfl, Nq2, e2⟩ := hQ2
  have N2 := Fr.app N1 Nq2
  obtain ⟨_, _, ⟨T3, L3, k3, n3⟩, -, X3, ⟨Lc3, hQ3, l3, y3, z3⟩, st3⟩ := Jvm.LawKit.callS X2 hx (y := Y6) hown (mvT hZ (ww hw 61 rfl)) (mvT hZ (ww hw 62 rfl)) (mvT hZ (ww hw 2 rfl)) (mvT hZ (ww hw 63 rfl)) (by decide) (backOf (W := 2) (own_hit_off l Z a0 hw u0 u1 u2 u3 u4 G p3 (0 : Int32) h0 n0 O0 []) hZ (ww hw 63 rfl) (ww hw 2 rfl) (by decide) (by decide)) (g := (mkF m 49 #[vi (0 : Int32), vi p1, vi p2, vi p3, vi p4] [xi (0 : Int32), xi p3, xi (0 : Int32), xj ((own_h p1 (0 : Int32)) + (own_h p2 (0 : Int32)))])) rfl (by rw [hml]; rfl) (argsL := [xi (0 : Int32), xi p3, xi (0 : Int32)]) (rest := [xj ((own_h p1 (0 : Int32)) + (own_h p2 (0 : Int32)))]) (lenOf pd5 rfl) rfl (by show 2 * 0 + _ ≤ _; exact Nat.le_of_eq rfl) (hb hby d8_49) (fun _ _ => ⟨rfl, e2, (by decide : 0 + 0 ≤ _), (by decide : 0 + 0 ≤ _)⟩)
  dsimp only [Pt.U, Pt.locs, Pt.cells, Pt.slots] at X3 l3 y3 z3 st3 hQ3
  subst l3 y3 z3
  obtain ⟨rfl, Nq3, e3⟩ := hQ3
  have N3 := Fr.app N2 Nq3
  obtain ⟨fs, hr, hrun, hended, hW, hsame⟩ := X3.leave (v := some (xj (((own_h p1 (0 : Int32)) + (own_h p2 (0 : Int32))) + (0 : Int64)))) (fun h => by rw [Bd.returns] at h; cases h)
  refine ⟨_, _, pre0 _ ?_, hrun, hended, _, _, rfl, ?_, ⟨_, rfl⟩, hW, hsame.mono (by decide) (by decide)⟩
  · show own_S p e below s₁ (mkF m 0 #[vi (0 : Int32), vi p1, vi p2, vi p3, vi p4] []) _
    refine XS.iload X0.here hx rfl (hb hby d8_0) rfl ?_
    show own_S p e below s₁ (mkF m 2 #[vi (0 : Int32), vi p1, vi p2, vi p3, vi p4] [xi p4]) _
    refine XS.iconst X0.here hx rfl (hb hby d8_2) ?_
    show own_S p e below s₁ (mkF m 3 #[vi (0 : Int32), vi p1, vi p2, vi p3, vi p4] [xi (1 : Int32), xi p4]) _
    refine XS.iand X0.here hx rfl (hb hby d8_3) rfl ?_
    show own_S p e below s₁ (mkF m 4 #[vi (0 : Int32), vi p1, vi p2, vi p3, vi p4] [xi (p4 &&& (1 : Int32))]) _
    refine castTop (show (mkF m 4 #[vi (0 : Int32), vi p1, vi p2, vi p3, vi p4] [xi (p4 &&& (1 : Int32))]) = (mkF m 4 #[vi (0 : Int32), vi p1, vi p2, vi p3, vi p4] [xi (1 : Int32)]) from by rw [as7]) ?_
    show own_S p e below s₁ (mkF m 4 #[vi (0 : Int32), vi p1, vi p2, vi p3, vi p4] [xi (1 : Int32)]) _
    refine XS.ifNo X0.here hx rfl (hb hby d8_4) rfl (by decide) ?_
    show own_S p e below s₁ (mkF m 7 #[vi (0 : Int32), vi p1, vi p2, vi p3, vi p4] []) _
    refine XS.iconst X0.here hx rfl (hb hby d8_7) ?_
    show own_S p e below s₁ (mkF m 8 #[vi (0 : Int32), vi p1, vi p2, vi p3, vi p4] [xi (1 : Int32)]) _
    refine XS.goto X0.here hx rfl (pc0 := 8) (pc' := 12) rfl (hb hby d8_8) (by decide) (by decide) ?_
    show own_S p e below s₁ (mkF m 12 #[vi (0 : Int32), vi p1, vi p2, vi p3, vi p4] [xi (1 : Int32)]) _
    refine XS.iloadN X0.here hx rfl (hb hby d8_12) rfl ?_
    show own_S p e below s₁ (mkF m 13 #[vi (0 : Int32), vi p1, vi p2, vi p3, vi p4] [xi p1, xi (1 : Int32)]) _
    refine XS.iloadN X0.here hx rfl (hb hby d8_13) rfl ?_
    show own_S p e below s₁ (mkF m 14 #[vi (0 : Int32), vi p1, vi p2, vi p3, vi p4] [xi (0 : Int32), xi p1, xi (1 : Int32)]) _
    refine st1 _ ?_
    show own_S p e below T1 (mkF m 17 #[vi (0 : Int32), vi p1, vi p2, vi p3, vi p4] [xj (own_h p1 (0 : Int32))]) _
    refine XS.iload X1.here hx rfl (hb hby d8_17) rfl ?_
    show own_S p e below T1 (mkF m 19 #[vi (0 : Int32), vi p1, vi p2, vi p3, vi p4] [xi p4, xj (own_h p1 (0 : Int32))]) _
    refine XS.iconst X1.here hx rfl (hb hby d8_19) ?_
    show own_S p e below T1 (mkF m 20 #[vi (0 : Int32), vi p1, vi p2, vi p3, vi p4] [xi (2 : Int32), xi p4, xj (own_h p1 (0 : Int32))]) _
    refine XS.iand X1.here hx rfl (hb hby d8_20) rfl ?_
    show own_S p e below T1 (mkF m 21 #[vi (0 : Int32), vi p1, vi p2, vi p3, vi p4] [xi (p4 &&& (2 : Int32)), xj (own_h p1 (0 : Int32))]) _
    refine castTop (show (mkF m 21 #[vi (0 : Int32), vi p1, vi p2, vi p3, vi p4] [xi (p4 &&& (2 : Int32)), xj (own_h p1 (0 : Int32))]) = (mkF m 21 #[vi (0 : Int32), vi p1, vi p2, vi p3, vi p4] [xi (2 : Int32), xj (own_h p1 (0 : Int32))]) from by rw [as9]) ?_
    show own_S p e below T1 (mkF m 21 #[vi (0 : Int32), vi p1, vi p2, vi p3, vi p4] [xi (2 : Int32), xj (own_h p1 (0 : Int32))]) _
    refine XS.ifNo X1.here hx rfl (hb hby d8_21) rfl (by decide) ?_
    show own_S p e below T1 (mkF m 24 #[vi (0 : Int32), vi p1, vi p2, vi p3, vi p4] [xj (own_h p1 (0 : Int32))]) _
    refine XS.iconst X1.here hx rfl (hb hby d8_24) ?_
    show own_S p e below T1 (mkF m 25 #[vi (0 : Int32), vi p1, vi p2, vi p3, vi p4] [xi (1 : Int32), xj (own_h p1 (0 : Int32))]) _
    refine XS.goto X1.here hx rfl (pc0 := 25) (pc' := 29) rfl (hb hby d8_25) (by decide) (by decide) ?_
    show own_S p e below T1 (mkF m 29 #[vi (0 : Int32), vi p1, vi p2, vi p3, vi p4] [xi (1 : Int32), xj (own_h p1 (0 : Int32))]) _
    refine XS.iloadN X1.here hx rfl (hb hby d8_29) rfl ?_
    show own_S p e below T1 (mkF m 30 #[vi (0 : Int32), vi p1, vi p2, vi p3, vi p4] [xi p2, xi (1 : Int32), xj (own_h p1 (0 : Int32))]) _
    refine XS.iloadN X1.here hx rfl (hb hby d8_30) rfl ?_
    show own_S p e below T1 (mkF m 31 #[vi (0 : Int32), vi p1, vi p2, vi p3, vi p4] [xi (0 : Int32), xi p2, xi (1 : Int32), xj (own_h p1 (0 : Int32))]) _
    refine st2 _ ?_
    show own_S p e below T2 (mkF m 34 #[vi (0 : Int32), vi p1, vi p2, vi p3, vi p4] [xj (own_h p2 (0 : Int32)), xj (own_h p1 (0 : Int32))]) _
    refine XS.ladd X2.here hx rfl (hb hby d8_34) rfl ?_
    show own_S p e below T2 (mkF m 35 #[vi (0 : Int32), vi p1, vi p2, vi p3, vi p4] [xj ((own_h p1 (0 : Int32)) + (own_h p2 (0 : Int32)))]) _
    show own_S p e below T2 (mkF m 35 #[vi (0 : Int32), vi p1, vi p2, vi p3, vi p4] [xj ((own_h p1 (0 : Int32)) + (own_h p2 (0 : Int32)))]) _
    refine XS.iload X2.here hx rfl (hb hby d8_35) rfl ?_
    show own_S p e below T2 (mkF m 37 #[vi (0 : Int32), vi p1, vi p2, vi p3, vi p4] [xi p4, xj ((own_h p1 (0 : Int32)) + (own_h p2 (0 : Int32)))]) _
    refine XS.iconst X2.here hx rfl (hb hby d8_37) ?_
    show own_S p e below T2 (mkF m 38 #[vi (0 : Int32), vi p1, vi p2, vi p3, vi p4] [xi (4 : Int32), xi p4, xj ((own_h p1 (0 : Int32)) + (own_h p2 (0 : Int32)))]) _
    refine XS.iand X2.here hx rfl (hb hby d8_38) rfl ?_
    show own_S p e below T2 (mkF m 39 #[vi (0 : Int32), vi p1, vi p2, vi p3, vi p4] [xi (p4 &&& (4 : Int32)), xj ((own_h p1 (0 : Int32)) + (own_h p2 (0 : Int32)))]) _
    refine castTop (show (mkF m 39 #[vi (0 : Int32), vi p1, vi p2, vi p3, vi p4] [xi (p4 &&& (4 : Int32)), xj ((own_h p1 (0 : Int32)) + (own_h p2 (0 : Int32)))]) = (mkF m 39 #[vi (0 : Int32), vi p1, vi p2, vi p3, vi p4] [xi (0 : Int32), xj ((own_h p1 (0 : Int32)) + (own_h p2 (0 : Int32)))]) from by rw [as10]) ?_
    show own_S p e below T2 (mkF m 39 #[vi (0 : Int32), vi p1, vi p2, vi p3, vi p4] [xi (0 : Int32), xj ((own_h p1 (0 : Int32)) + (own_h p2 (0 : Int32)))]) _
    refine XS.ifYes X2.here hx rfl (pc0 := 39) (pc' := 46) rfl (hb hby d8_39) rfl (by decide) (by decide) (by decide) ?_
    show own_S p e below T2 (mkF m 46 #[vi (0 : Int32), vi p1, vi p2, vi p3, vi p4] [xj ((own_h p1 (0 : Int32)) + (own_h p2 (0 : Int32)))]) _
    refine XS.iconst X2.here hx rfl (hb hby d8_46) ?_
    show own_S p e below T2 (mkF m 47 #[vi (0 : Int32), vi p1, vi p2, vi p3, vi p4] [xi (0 : Int32), xj ((own_h p1 (0 : Int32)) + (own_h p2 (0 : Int32)))]) _
    refine XS.iloadN X2.here hx rfl (hb hby d8_47) rfl ?_
    show own_S p e below T2 (mkF m 48 #[vi (0 : Int32), vi p1, vi p2, vi p3, vi p4] [xi p3, xi (0 : Int32), xj ((own_h p1 (0 : Int32)) + (own_h p2 (0 : Int32)))]) _
    refine XS.iloadN X2.here hx rfl (hb hby d8_48) rfl ?_
    show own_S p e below T2 (mkF m 49 #[vi (0 : Int32), vi p1, vi p2, vi p3, vi p4] [xi (0 : Int32), xi p3, xi (0 : Int32), xj ((own_h p1 (0 : Int32)) + (own_h p2 (0 : Int32)))]) _
    refine st3 _ ?_
    show own_S p e below T3 (mkF m 52 #[vi (0 : Int32), vi p1, vi p2, vi p3, vi p4] [xj (0 : Int64), xj ((own_h p1 (0 : Int32)) + (own_h p2 (0 : Int32)))]) _
    refine XS.ladd X3.here hx rfl (hb hby d8_52) rfl ?_
    show own_S p e below T3 (mkF m 53 #[vi (0 : Int32), vi p1, vi p2, vi p3, vi p4] [xj (((own_h p1 (0 : Int32)) + (own_h p2 (0 : Int32))) + (0 : Int64))]) _
    show own_S p e below T3 (mkF m 53 #[vi (0 : Int32), vi p1, vi p2, vi p3, vi p4] [xj (((own_h p1 (0 : Int32)) + (own_h p2 (0 : Int32))) + (0 : Int64))]) _
    exact X3.lreturnOut hx Bd.returns (hb hby d8_53) hr
  · exact ⟨rfl, N3, e3⟩
theorem ef_own_c29_expected (m : MethodId) (u0 u1 u2 u3 u4 : Addr) (p1 : Int32) (p2 : Int32) (p3 : Int32) (p4 : Int32) : entryFrame m #[xi (1 : Int32), xi p1, xi p2, xi p3, xi p4] 5 = (mkF m 0 #[vi (1 : Int32), vi p1, vi p2, vi p3, vi p4] []) := by first | (simp [entryFrame, mkF, argsToLocals, Value.category]; done) | rfl
set_option maxRecDepth 65536 in
set_option maxHeartbeats 40000000 in
theorem own_c29_expected (l : Launch) (Z : State) (a0 : Array Value) (hw : ∀ d ∈ tables_1, d.before a0 Z = true) (u0 u1 u2 u3 u4 : Addr) (G : own_St Z u0 u1 u2 u3 u4) (p1 : Int32) (p2 : Int32) (p3 : Int32) (p4 : Int32) (as7 : (p4 &&& (1 : Int32)) = (1 : Int32)) (as9 : (p4 &&& (2 : Int32)) = (2 : Int32)) (as10 : (p4 &&& (4 : Int32)) = (0 : Int32)) (h0 : Heap) (n0 : Nat) (O0 : Old Z n0 h0) : own_Met l Z Y9 method_4_code 5 (some .long) ({ frames := 1, cells := 0, slots := 0, locals := 16 } : Room) #[xi (1 : Int32), xi p1, xi p2, xi p3, xi p4] h0 (own_QR (some (xj (((own_h p1 (1 : Int32)) + (own_h p2 (1 : Int32))) + (0 : Int64)))) h0 n0) := by
  intro ws
  refine MetFree.of_bodySF (plainFor_of_name pn3) hisR ?_
  intro p e s m args below meth c s₁ Bd hml0 hP hK
  obtain ⟨rfl, hZ, hh⟩ := hP
  have hx := Bd.exec
  have hby := Bd.bytes
  have hml : c.maxLocals = 5 := hml0
  have hown : s.vm.findClass "com/example/feedwright/feedwright/LoadSummaryAddPinLaw" = some m.cls := findClass_of_methodNamed Bd.named
  have hnm := (name_of_methodNamed Bd.named Bd.method).1
  have X0 : Stand p l e ({ frames := 1, cells := 0, slots := 0, locals := 16 } : Room) s m #[xi (1 : Int32), xi p1, xi p2, xi p3, xi p4] below meth c s₁ [] 0 0 := Stand.of_body Bd
  have e0 : s₁.heap = h0 := by rw [← hh, Bd.state]; rfl
  have N0 := Fr.nil n0
  have pre0 : ∀ t, Steps p.tables e below (s₁.setTop (mkF m 0 #[vi (1 : Int32), vi p1, vi p2, vi p3, vi p4] [])) t → Steps p.tables e below (s₁.setTop (entryFrame m #[xi (1 : Int32), xi p1, xi p2, xi p3, xi p4] 5)) t := fun t st => castTop (ef_own_c29_expected m u0 u1 u2 u3 u4 p1 p2 p3 p4) st
  obtain ⟨_, _, ⟨T1, L1, k1, n1⟩, -, X1, ⟨Lc1, hQ1, l1, y1, z1⟩, st1⟩ := Jvm.LawKit.callS X0 hx (y := Y6) hown (mvT hZ (ww hw 61 rfl)) (mvT hZ (ww hw 62 rfl)) (mvT hZ (ww hw 2 rfl)) (mvT hZ (ww hw 63 rfl)) (by decide) (backOf (W := 0) (own_hit l Z a0 hw u0 u1 u2 u3 u4 G p1 (1 : Int32) h0 n0 O0 []) hZ (ww hw 63 rfl) (ww hw 2 rfl) (by decide) (by decide)) (g := (mkF m 14 #[vi (1 : Int32), vi p1, vi p2, vi p3, vi p4] [xi (1 : Int32), xi p1, xi (1 : Int32)])) rfl (by rw [hml]; rfl) (argsL := [xi (1 : Int32), xi p1, xi (1 : Int32)]) (rest := []) (lenOf pd5 rfl) rfl (by show 2 * 0 + _ ≤ _; exact Nat.le_of_eq rfl) (hb hby d8_14) (fun _ _ => ⟨rfl, e0, (by decide : 0 + 0 ≤ _), (by decide : 0 + 0 ≤ _)⟩)
  dsimp only [Pt.U, Pt.locs, Pt.cells, Pt.slots] at X1 l1 y1 z1 st1 hQ1
  subst l1 y1 z1
  obtain ⟨rfl, Nq1, e1⟩ := hQ1
  have N1 := Fr.app N0 Nq1
  obtain ⟨_, _, ⟨T2, L2, k2, n2⟩, -, X2, ⟨Lc2, hQ2, l2, y2, z2⟩, st2⟩ := Jvm.LawKit.callS X1 hx (y := Y6) hown (mvT hZ (ww hw 61 rfl)) (mvT hZ (ww hw 62 rfl)) (mvT hZ (ww hw 2 rfl)) (mvT hZ (ww hw 63 rfl)) (by decide) (backOf (W := 2) (own_hit l Z a0 hw u0 u1 u2 u3 u4 G p2 (1 : Int32) h0 n0 O0 []) hZ (ww hw 63 rfl) (ww hw 2 rfl) (by decide) (by decide)) (g := (mkF m 31 #[vi (1 : Int32), vi p1, vi p2, vi p3, vi p4] [xi (1 : Int32), xi p2, xi (1 : Int32), xj (own_h p1 (1 : Int32))])) rfl (by rw [hml]; rfl) (argsL := [xi (1 : Int32), xi p2, xi (1 : Int32)]) (rest := [xj (own_h p1 (1 : Int32))]) (lenOf pd5 rfl) rfl (by show 2 * 0 + _ ≤ _; exact Nat.le_of_eq rfl) (hb hby d8_31) (fun _ _ => ⟨rfl, e1, (by decide : 0 + 0 ≤ _), (by decide : 0 + 0 ≤ _)⟩)
  dsimp only [Pt.U, Pt.locs, Pt.cells, Pt.slots] at X2 l2 y2 z2 st2 hQ2
  subst l2 y2 z2
  obtain ⟨rfl, Nq2, e2⟩ := hQ2
  have N2 := Fr.app N1 Nq2
  obtain ⟨_, _, ⟨T3, L3, k3, n3⟩, -, X3, ⟨Lc3, hQ3, l3, y3, z3⟩, st3⟩ := Jvm.LawKit.callS X2 hx (y := Y6) hown (mvT hZ (ww hw 61 rfl)) (mvT hZ (ww hw 62 rfl)) (mvT hZ (ww hw 2 rfl)) (mvT hZ (ww hw 63 rfl)) (by decide) (backOf (W := 2) (own_hit_off l Z a0 hw u0 u1 u2 u3 u4 G p3 (1 : Int32) h0 n0 O0 []) hZ (ww hw 63 rfl) (ww hw 2 rfl) (by decide) (by decide)) (g := (mkF m 49 #[vi (1 : Int32), vi p1, vi p2, vi p3, vi p4] [xi (1 : Int32), xi p3, xi (0 : Int32), xj ((own_h p1 (1 : Int32)) + (own_h p2 (1 : Int32)))])) rfl (by rw [hml]; rfl) (argsL := [xi (0 : Int32), xi p3, xi (1 : Int32)]) (rest := [xj ((own_h p1 (1 : Int32)) + (own_h p2 (1 : Int32)))]) (lenOf pd5 rfl) rfl (by show 2 * 0 + _ ≤ _; exact Nat.le_of_eq rfl) (hb hby d8_49) (fun _ _ => ⟨rfl, e2, (by decide : 0 + 0 ≤ _), (by decide : 0 + 0 ≤ _)⟩)
  dsimp only [Pt.U, Pt.locs, Pt.cells, Pt.slots] at X3 l3 y3 z3 st3 hQ3
  subst l3 y3 z3
  obtain ⟨rfl, Nq3, e3⟩ := hQ3
  have N3 := Fr.app N2 Nq3
  obtain ⟨fs, hr, hrun, hended, hW, hsame⟩ := X3.leave (v := some (xj (((own_h p1 (1 : Int32)) + (own_h p2 (1 : Int32))) + (0 : Int64)))) (fun h => by rw [Bd.returns] at h; cases h)
  refine ⟨_, _, pre0 _ ?_, hrun, hended, _, _, rfl, ?_, ⟨_, rfl⟩, hW, hsame.mono (by decide) (by decide)⟩
  · show own_S p e below s₁ (mkF m 0 #[vi (1 : Int32), vi p1, vi p2, vi p3, vi p4] []) _
    refine XS.iload X0.here hx rfl (hb hby d8_0) rfl ?_
    show own_S p e below s₁ (mkF m 2 #[vi (1 : Int32), vi p1, vi p2, vi p3, vi p4] [xi p4]) _
    refine XS.iconst X0.here hx rfl (hb hby d8_2) ?_
    show own_S p e below s₁ (mkF m 3 #[vi (1 : Int32), vi p1, vi p2, vi p3, vi p4] [xi (1 : Int32), xi p4]) _
    refine XS.iand X0.here hx rfl (hb hby d8_3) rfl ?_
    show own_S p e below s₁ (mkF m 4 #[vi (1 : Int32), vi p1, vi p2, vi p3, vi p4] [xi (p4 &&& (1 : Int32))]) _
    refine castTop (show (mkF m 4 #[vi (1 : Int32), vi p1, vi p2, vi p3, vi p4] [xi (p4 &&& (1 : Int32))]) = (mkF m 4 #[vi (1 : Int32), vi p1, vi p2, vi p3, vi p4] [xi (1 : Int32)]) from by rw [as7]) ?_
    show own_S p e below s₁ (mkF m 4 #[vi (1 : Int32), vi p1, vi p2, vi p3, vi p4] [xi (1 : Int32)]) _
    refine XS.ifNo X0.here hx rfl (hb hby d8_4) rfl (by decide) ?_
    show own_S p e below s₁ (mkF m 7 #[vi (1 : Int32), vi p1, vi p2, vi p3, vi p4] []) _
    refine XS.iconst X0.here hx rfl (hb hby d8_7) ?_
    show own_S p e below s₁ (mkF m 8 #[vi (1 : Int32), vi p1, vi p2, vi p3, vi p4] [xi (1 : Int32)]) _
    refine XS.goto X0.here hx rfl (pc0 := 8) (pc' := 12) rfl (hb hby d8_8) (by decide) (by decide) ?_
    show own_S p e below s₁ (mkF m 12 #[vi (1 : Int32), vi p1, vi p2, vi p3, vi p4] [xi (1 : Int32)]) _
    refine XS.iloadN X0.here hx rfl (hb hby d8_12) rfl ?_
    show own_S p e below s₁ (mkF m 13 #[vi (1 : Int32), vi p1, vi p2, vi p3, vi p4] [xi p1, xi (1 : Int32)]) _
    refine XS.iloadN X0.here hx rfl (hb hby d8_13) rfl ?_
    show own_S p e below s₁ (mkF m 14 #[vi (1 : Int32), vi p1, vi p2, vi p3, vi p4] [xi (1 : Int32), xi p1, xi (1 : Int32)]) _
    refine st1 _ ?_
    show own_S p e below T1 (mkF m 17 #[vi (1 : Int32), vi p1, vi p2, vi p3, vi p4] [xj (own_h p1 (1 : Int32))]) _
    refine XS.iload X1.here hx rfl (hb hby d8_17) rfl ?_
    show own_S p e below T1 (mkF m 19 #[vi (1 : Int32), vi p1, vi p2, vi p3, vi p4] [xi p4, xj (own_h p1 (1 : Int32))]) _
    refine XS.iconst X1.here hx rfl (hb hby d8_19) ?_
    show own_S p e below T1 (mkF m 20 #[vi (1 : Int32), vi p1, vi p2, vi p3, vi p4] [xi (2 : Int32), xi p4, xj (own_h p1 (1 : Int32))]) _
    refine XS.iand X1.here hx rfl (hb hby d8_20) rfl ?_
    show own_S p e below T1 (mkF m 21 #[vi (1 : Int32), vi p1, vi p2, vi p3, vi p4] [xi (p4 &&& (2 : Int32)), xj (own_h p1 (1 : Int32))]) _
    refine castTop (show (mkF m 21 #[vi (1 : Int32), vi p1, vi p2, vi p3, vi p4] [xi (p4 &&& (2 : Int32)), xj (own_h p1 (1 : Int32))]) = (mkF m 21 #[vi (1 : Int32), vi p1, vi p2, vi p3, vi p4] [xi (2 : Int32), xj (own_h p1 (1 : Int32))]) from by rw [as9]) ?_
    show own_S p e below T1 (mkF m 21 #[vi (1 : Int32), vi p1, vi p2, vi p3, vi p4] [xi (2 : Int32), xj (own_h p1 (1 : Int32))]) _
    refine XS.ifNo X1.here hx rfl (hb hby d8_21) rfl (by decide) ?_
    show own_S p e below T1 (mkF m 24 #[vi (1 : Int32), vi p1, vi p2, vi p3, vi p4] [xj (own_h p1 (1 : Int32))]) _
    refine XS.iconst X1.here hx rfl (hb hby d8_24) ?_
    show own_S p e below T1 (mkF m 25 #[vi (1 : Int32), vi p1, vi p2, vi p3, vi p4] [xi (1 : Int32), xj (own_h p1 (1 : Int32))]) _
    refine XS.goto X1.here hx rfl (pc0 := 25) (pc' := 29) rfl (hb hby d8_25) (by decide) (by decide) ?_
    show own_S p e below T1 (mkF m 29 #[vi (1 : Int32), vi p1, vi p2, vi p3, vi p4] [xi (1 : Int32), xj (own_h p1 (1 : Int32))]) _
    refine XS.iloadN X1.here hx rfl (hb hby d8_29) rfl ?_
    show own_S p e below T1 (mkF m 30 #[vi (1 : Int32), vi p1, vi p2, vi p3, vi p4] [xi p2, xi (1 : Int32), xj (own_h p1 (1 : Int32))]) _
    refine XS.iloadN X1.here hx rfl (hb hby d8_30) rfl ?_
    show own_S p e below T1 (mkF m 31 #[vi (1 : Int32), vi p1, vi p2, vi p3, vi p4] [xi (1 : Int32), xi p2, xi (1 : Int32), xj (own_h p1 (1 : Int32))]) _
    refine st2 _ ?_
    show own_S p e below T2 (mkF m 34 #[vi (1 : Int32), vi p1, vi p2, vi p3, vi p4] [xj (own_h p2 (1 : Int32)), xj (own_h p1 (1 : Int32))]) _
    refine XS.ladd X2.here hx rfl (hb hby d8_34) rfl ?_
    show own_S p e below T2 (mkF m 35 #[vi (1 : Int32), vi p1, vi p2, vi p3, vi p4] [xj ((own_h p1 (1 : Int32)) + (own_h p2 (1 : Int32)))]) _
    show own_S p e below T2 (mkF m 35 #[vi (1 : Int32), vi p1, vi p2, vi p3, vi p4] [xj ((own_h p1 (1 : Int32)) + (own_h p2 (1 : Int32)))]) _
    refine XS.iload X2.here hx rfl (hb hby d8_35) rfl ?_
    show own_S p e below T2 (mkF m 37 #[vi (1 : Int32), vi p1, vi p2, vi p3, vi p4] [xi p4, xj ((own_h p1 (1 : Int32)) + (own_h p2 (1 : Int32)))]) _
    refine XS.iconst X2.here hx rfl (hb hby d8_37) ?_
    show own_S p e below T2 (mkF m 38 #[vi (1 : Int32), vi p1, vi p2, vi p3, vi p4] [xi (4 : Int32), xi p4, xj ((own_h p1 (1 : Int32)) + (own_h p2 (1 : Int32)))]) _
    refine XS.iand X2.here hx rfl (hb hby d8_38) rfl ?_
    show own_S p e below T2 (mkF m 39 #[vi (1 : Int32), vi p1, vi p2, vi p3, vi p4] [xi (p4 &&& (4 : Int32)), xj ((own_h p1 (1 : Int32)) + (own_h p2 (1 : Int32)))]) _
    refine castTop (show (mkF m 39 #[vi (1 : Int32), vi p1, vi p2, vi p3, vi p4] [xi (p4 &&& (4 : Int32)), xj ((own_h p1 (1 : Int32)) + (own_h p2 (1 : Int32)))]) = (mkF m 39 #[vi (1 : Int32), vi p1, vi p2, vi p3, vi p4] [xi (0 : Int32), xj ((own_h p1 (1 : Int32)) + (own_h p2 (1 : Int32)))]) from by rw [as10]) ?_
    show own_S p e below T2 (mkF m 39 #[vi (1 : Int32), vi p1, vi p2, vi p3, vi p4] [xi (0 : Int32), xj ((own_h p1 (1 : Int32)) + (own_h p2 (1 : Int32)))]) _
    refine XS.ifYes X2.here hx rfl (pc0 := 39) (pc' := 46) rfl (hb hby d8_39) rfl (by decide) (by decide) (by decide) ?_
    show own_S p e below T2 (mkF m 46 #[vi (1 : Int32), vi p1, vi p2, vi p3, vi p4] [xj ((own_h p1 (1 : Int32)) + (own_h p2 (1 : Int32)))]) _
    refine XS.iconst X2.here hx rfl (hb hby d8_46) ?_
    show own_S p e below T2 (mkF m 47 #[vi (1 : Int32), vi p1, vi p2, vi p3, vi p4] [xi (0 : Int32), xj ((own_h p1 (1 : Int32)) + (own_h p2 (1 : Int32)))]) _
    refine XS.iloadN X2.here hx rfl (hb hby d8_47) rfl ?_
    show own_S p e below T2 (mkF m 48 #[vi (1 : Int32), vi p1, vi p2, vi p3, vi p4] [xi p3, xi (0 : Int32), xj ((own_h p1 (1 : Int32)) + (own_h p2 (1 : Int32)))]) _
    refine XS.iloadN X2.here hx rfl (hb hby d8_48) rfl ?_
    show own_S p e below T2 (mkF m 49 #[vi (1 : Int32), vi p1, vi p2, vi p3, vi p4] [xi (1 : Int32), xi p3, xi (0 : Int32), xj ((own_h p1 (1 : Int32)) + (own_h p2 (1 : Int32)))]) _
    refine st3 _ ?_
    show own_S p e below T3 (mkF m 52 #[vi (1 : Int32), vi p1, vi p2, vi p3, vi p4] [xj (0 : Int64), xj ((own_h p1 (1 : Int32)) + (own_h p2 (1 : Int32)))]) _
    refine XS.ladd X3.here hx rfl (hb hby d8_52) rfl ?_
    show own_S p e below T3 (mkF m 53 #[vi (1 : Int32), vi p1, vi p2, vi p3, vi p4] [xj (((own_h p1 (1 : Int32)) + (own_h p2 (1 : Int32))) + (0 : Int64))]) _
    show own_S p e below T3 (mkF m 53 #[vi (1 : Int32), vi p1, vi p2, vi p3, vi p4] [xj (((own_h p1 (1 : Int32)) + (own_h p2 (1 : Int32))) + (0 : Int64))]) _
    exact X3.lreturnOut hx Bd.returns (hb hby d8_53) hr
  · exact ⟨rfl, N3, e3⟩
theorem ef_own_c30_expected (m : MethodId) (u0 u1 u2 u3 u4 : Addr) (p1 : Int32) (p2 : Int32) (p3 : Int32) (p4 : Int32) : entryFrame m #[xi (2 : Int32), xi p1, xi p2, xi p3, xi p4] 5 = (mkF m 0 #[vi (2 : Int32), vi p1, vi p2, vi p3, vi p4] []) := by first | (simp [entryFrame, mkF, argsToLocals, Value.category]; done) | rfl
set_option maxRecDepth 65536 in
set_option maxHeartbeats 40000000 in
theorem own_c30_expected (l : Launch) (Z : State) (a0 : Array Value) (hw : ∀ d ∈ tables_1, d.before a0 Z = true) (u0 u1 u2 u3 u4 : Addr) (G : own_St Z u0 u1 u2 u3 u4) (p1 : Int32) (p2 : Int32) (p3 : Int32) (p4 : Int32) (as7 : (p4 &&& (1 : Int32)) = (1 : Int32)) (as9 : (p4 &&& (2 : Int32)) = (2 : Int32)) (as10 : (p4 &&& (4 : Int32)) = (0 : Int32)) (h0 : Heap) (n0 : Nat) (O0 : Old Z n0 h0) : own_Met l Z Y9 method_4_code 5 (some .long) ({ frames := 1, cells := 0, slots := 0, locals := 16 } : Room) #[xi (2 : Int32), xi p1, xi p2, xi p3, xi p4] h0 (own_QR (some (xj (((own_h p1 (2 : Int32)) + (own_h p2 (2 : Int32))) + (0 : Int64)))) h0 n0) := by
  intro ws
  refine MetFree.of_bodySF (plainFor_of_name pn3) hisR ?_
  intro p e s m args below meth c s₁ Bd hml0 hP hK
  obtain ⟨rfl, hZ, hh⟩ := hP
  have hx := Bd.exec
  have hby := Bd.bytes
  have hml : c.maxLocals = 5 := hml0
  have hown : s.vm.findClass "com/example/feedwright/feedwright/LoadSummaryAddPinLaw" = some m.cls := findClass_of_methodNamed Bd.named
  have hnm := (name_of_methodNamed Bd.named Bd.method).1
  have X0 : Stand p l e ({ frames := 1, cells := 0, slots := 0, locals := 16 } : Room) s m #[xi (2 : Int32), xi p1, xi p2, xi p3, xi p4] below meth c s₁ [] 0 0 := Stand.of_body Bd
  have e0 : s₁.heap = h0 := by rw [← hh, Bd.state]; rfl
  have N0 := Fr.nil n0
  have pre0 : ∀ t, Steps p.tables e below (s₁.setTop (mkF m 0 #[vi (2 : Int32), vi p1, vi p2, vi p3, vi p4] [])) t → Steps p.tables e below (s₁.setTop (entryFrame m #[xi (2 : Int32), xi p1, xi p2, xi p3, xi p4] 5)) t := fun t st => castTop (ef_own_c30_expected m u0 u1 u2 u3 u4 p1 p2 p3 p4) st
  obtain ⟨_, _, ⟨T1, L1, k1, n1⟩, -, X1, ⟨Lc1, hQ1, l1, y1, z1⟩, st1⟩ := Jvm.LawKit.callS X0 hx (y := Y6) hown (mvT hZ (ww hw 61 rfl)) (mvT hZ (ww hw 62 rfl)) (mvT hZ (ww hw 2 rfl)) (mvT hZ (ww hw 63 rfl)) (by decide) (backOf (W := 0) (own_hit l Z a0 hw u0 u1 u2 u3 u4 G p1 (2 : Int32) h0 n0 O0 []) hZ (ww hw 63 rfl) (ww hw 2 rfl) (by decide) (by decide)) (g := (mkF m 14 #[vi (2 : Int32), vi p1, vi p2, vi p3, vi p4] [xi (2 : Int32), xi p1, xi (1 : Int32)])) rfl (by rw [hml]; rfl) (argsL := [xi (1 : Int32), xi p1, xi (2 : Int32)]) (rest := []) (lenOf pd5 rfl) rfl (by show 2 * 0 + _ ≤ _; exact Nat.le_of_eq rfl) (hb hby d8_14) (fun _ _ => ⟨rfl, e0, (by decide : 0 + 0 ≤ _), (by decide : 0 + 0 ≤ _)⟩)
  dsimp only [Pt.U, Pt.locs, Pt.cells, Pt.slots] at X1 l1 y1 z1 st1 hQ1
  subst l1 y1 z1
  obtain ⟨rfl, Nq1, e1⟩ := hQ1
  have N1 := Fr.app N0 Nq1
  obtain ⟨_, _, ⟨T2, L2, k2, n2⟩, -, X2, ⟨Lc2, hQ2, l2, y2, z2⟩, st2⟩ := Jvm.LawKit.callS X1 hx (y := Y6) hown (mvT hZ (ww hw 61 rfl)) (mvT hZ (ww hw 62 rfl)) (mvT hZ (ww hw 2 rfl)) (mvT hZ (ww hw 63 rfl)) (by decide) (backOf (W := 2) (own_hit l Z a0 hw u0 u1 u2 u3 u4 G p2 (2 : Int32) h0 n0 O0 []) hZ (ww hw 63 rfl) (ww hw 2 rfl) (by decide) (by decide)) (g := (mkF m 31 #[vi (2 : Int32), vi p1, vi p2, vi p3, vi p4] [xi (2 : Int32), xi p2, xi (1 : Int32), xj (own_h p1 (2 : Int32))])) rfl (by rw [hml]; rfl) (argsL := [xi (1 : Int32), xi p2, xi (2 : Int32)]) (rest := [xj (own_h p1 (2 : Int32))]) (lenOf pd5 rfl) rfl (by show 2 * 0 + _ ≤ _; exact Nat.le_of_eq rfl) (hb hby d8_31) (fun _ _ => ⟨rfl, e1, (by decide : 0 + 0 ≤ _), (by decide : 0 + 0 ≤ _)⟩)
  dsimp only [Pt.U, Pt.locs, Pt.cells, Pt.slots] at X2 l2 y2 z2 st2 hQ2
  subst l2 y2 z2
  obtain ⟨rfl, Nq2, e2⟩ := hQ2
  have N2 := Fr.app N1 Nq2
  obtain ⟨_, _, ⟨T3, L3, k3, n3⟩, -, X3, ⟨Lc3, hQ3, l3, y3, z3⟩, st3⟩ := Jvm.LawKit.callS X2 hx (y := Y6) hown (mvT hZ (ww hw 61 rfl)) (mvT hZ (ww hw 62 rfl)) (mvT hZ (ww hw 2 rfl)) (mvT hZ (ww hw 63 rfl)) (by decide) (backOf (W := 2) (own_hit_off l Z a0 hw u0 u1 u2 u3 u4 G p3 (2 : Int32) h0 n0 O0 []) hZ (ww hw 63 rfl) (ww hw 2 rfl) (by decide) (by decide)) (g := (mkF m 49 #[vi (2 : Int32), vi p1, vi p2, vi p3, vi p4] [xi (2 : Int32), xi p3, xi (0 : Int32), xj ((own_h p1 (2 : Int32)) + (own_h p2 (2 : Int32)))])) rfl (by rw [hml]; rfl) (argsL := [xi (0 : Int32), xi p3, xi (2 : Int32)]) (rest := [xj ((own_h p1 (2 : Int32)) + (own_h p2 (2 : Int32)))]) (lenOf pd5 rfl) rfl (by show 2 * 0 + _ ≤ _; exact Nat.le_of_eq rfl) (hb hby d8_49) (fun _ _ => ⟨rfl, e2, (by decide : 0 + 0 ≤ _), (by decide : 0 + 0 ≤ _)⟩)
  dsimp only [Pt.U, Pt.locs, Pt.cells, Pt.slots] at X3 l3 y3 z3 st3 hQ3
  subst l3 y3 z3
  obtain ⟨rfl, Nq3, e3⟩ := hQ3
  have N3 := Fr.app N2 Nq3
  obtain ⟨fs, hr, hrun, hended, hW, hsame⟩ := X3.leave (v := some (xj (((own_h p1 (2 : Int32)) + (own_h p2 (2 : Int32))) + (0 : Int64)))) (fun h => by rw [Bd.returns] at h; cases h)
  refine ⟨_, _, pre0 _ ?_, hrun, hended, _, _, rfl, ?_, ⟨_, rfl⟩, hW, hsame.mono (by decide) (by decide)⟩
  · show own_S p e below s₁ (mkF m 0 #[vi (2 : Int32), vi p1, vi p2, vi p3, vi p4] []) _
    refine XS.iload X0.here hx rfl (hb hby d8_0) rfl ?_
    show own_S p e below s₁ (mkF m 2 #[vi (2 : Int32), vi p1, vi p2, vi p3, vi p4] [xi p4]) _
    refine XS.iconst X0.here hx rfl (hb hby d8_2) ?_
    show own_S p e below s₁ (mkF m 3 #[vi (2 : Int32), vi p1, vi p2, vi p3, vi p4] [xi (1 : Int32), xi p4]) _
    refine XS.iand X0.here hx rfl (hb hby d8_3) rfl ?_
    show own_S p e below s₁ (mkF m 4 #[vi (2 : Int32), vi p1, vi p2, vi p3, vi p4] [xi (p4 &&& (1 : Int32))]) _
    refine castTop (show (mkF m 4 #[vi (2 : Int32), vi p1, vi p2, vi p3, vi p4] [xi (p4 &&& (1 : Int32))]) = (mkF m 4 #[vi (2 : Int32), vi p1, vi p2, vi p3, vi p4] [xi (1 : Int32)]) from by rw [as7]) ?_
    show own_S p e below s₁ (mkF m 4 #[vi (2 : Int32), vi p1, vi p2, vi p3, vi p4] [xi (1 : Int32)]) _
    refine XS.ifNo X0.here hx rfl (hb hby d8_4) rfl (by decide) ?_
    show own_S p e below s₁ (mkF m 7 #[vi (2 : Int32), vi p1, vi p2, vi p3, vi p4] []) _
    refine XS.iconst X0.here hx rfl (hb hby d8_7) ?_
    show own_S p e below s₁ (mkF m 8 #[vi (2 : Int32), vi p1, vi p2, vi p3, vi p4] [xi (1 : Int32)]) _
    refine XS.goto X0.here hx rfl (pc0 := 8) (pc' := 12) rfl (hb hby d8_8) (by decide) (by decide) ?_
    show own_S p e below s₁ (mkF m 12 #[vi (2 : Int32), vi p1, vi p2, vi p3, vi p4] [xi (1 : Int32)]) _
    refine XS.iloadN X0.here hx rfl (hb hby d8_12) rfl ?_
    show own_S p e below s₁ (mkF m 13 #[vi (2 : Int32), vi p1, vi p2, vi p3, vi p4] [xi p1, xi (1 : Int32)]) _
    refine XS.iloadN X0.here hx rfl (hb hby d8_13) rfl ?_
    show own_S p e below s₁ (mkF m 14 #[vi (2 : Int32), vi p1, vi p2, vi p3, vi p4] [xi (2 : Int32), xi p1, xi (1 : Int32)]) _
    refine st1 _ ?_
    show own_S p e below T1 (mkF m 17 #[vi (2 : Int32), vi p1, vi p2, vi p3, vi p4] [xj (own_h p1 (2 : Int32))]) _
    refine XS.iload X1.here hx rfl (hb hby d8_17) rfl ?_
    show own_S p e below T1 (mkF m 19 #[vi (2 : Int32), vi p1, vi p2, vi p3, vi p4] [xi p4, xj (own_h p1 (2 : Int32))]) _
    refine XS.iconst X1.here hx rfl (hb hby d8_19) ?_
    show own_S p e below T1 (mkF m 20 #[vi (2 : Int32), vi p1, vi p2, vi p3, vi p4] [xi (2 : Int32), xi p4, xj (own_h p1 (2 : Int32))]) _
    refine XS.iand X1.here hx rfl (hb hby d8_20) rfl ?_
    show own_S p e below T1 (mkF m 21 #[vi (2 : Int32), vi p1, vi p2, vi p3, vi p4] [xi (p4 &&& (2 : Int32)), xj (own_h p1 (2 : Int32))]) _
    refine castTop (show (mkF m 21 #[vi (2 : Int32), vi p1, vi p2, vi p3, vi p4] [xi (p4 &&& (2 : Int32)), xj (own_h p1 (2 : Int32))]) = (mkF m 21 #[vi (2 : Int32), vi p1, vi p2, vi p3, vi p4] [xi (2 : Int32), xj (own_h p1 (2 : Int32))]) from by rw [as9]) ?_
    show own_S p e below T1 (mkF m 21 #[vi (2 : Int32), vi p1, vi p2, vi p3, vi p4] [xi (2 : Int32), xj (own_h p1 (2 : Int32))]) _
    refine XS.ifNo X1.here hx rfl (hb hby d8_21) rfl (by decide) ?_
    show own_S p e below T1 (mkF m 24 #[vi (2 : Int32), vi p1, vi p2, vi p3, vi p4] [xj (own_h p1 (2 : Int32))]) _
    refine XS.iconst X1.here hx rfl (hb hby d8_24) ?_
    show own_S p e below T1 (mkF m 25 #[vi (2 : Int32), vi p1, vi p2, vi p3, vi p4] [xi (1 : Int32), xj (own_h p1 (2 : Int32))]) _
    refine XS.goto X1.here hx rfl (pc0 := 25) (pc' := 29) rfl (hb hby d8_25) (by decide) (by decide) ?_
    show own_S p e below T1 (mkF m 29 #[vi (2 : Int32), vi p1, vi p2, vi p3, vi p4] [xi (1 : Int32), xj (own_h p1 (2 : Int32))]) _
    refine XS.iloadN X1.here hx rfl (hb hby d8_29) rfl ?_
    show own_S p e below T1 (mkF m 30 #[vi (2 : Int32), vi p1, vi p2, vi p3, vi p4] [xi p2, xi (1 : Int32), xj (own_h p1 (2 : Int32))]) _
    refine XS.iloadN X1.here hx rfl (hb hby d8_30) rfl ?_
    show own_S p e below T1 (mkF m 31 #[vi (2 : Int32), vi p1, vi p2, vi p3, vi p4] [xi (2 : Int32), xi p2, xi (1 : Int32), xj (own_h p1 (2 : Int32))]) _
    refine st2 _ ?_
    show own_S p e below T2 (mkF m 34 #[vi (2 : Int32), vi p1, vi p2, vi p3, vi p4] [xj (own_h p2 (2 : Int32)), xj (own_h p1 (2 : Int32))]) _
    refine XS.ladd X2.here hx rfl (hb hby d8_34) rfl ?_
    show own_S p e below T2 (mkF m 35 #[vi (2 : Int32), vi p1, vi p2, vi p3, vi p4] [xj ((own_h p1 (2 : Int32)) + (own_h p2 (2 : Int32)))]) _
    show own_S p e below T2 (mkF m 35 #[vi (2 : Int32), vi p1, vi p2, vi p3, vi p4] [xj ((own_h p1 (2 : Int32)) + (own_h p2 (2 : Int32)))]) _
    refine XS.iload X2.here hx rfl (hb hby d8_35) rfl ?_
    show own_S p e below T2 (mkF m 37 #[vi (2 : Int32), vi p1, vi p2, vi p3, vi p4] [xi p4, xj ((own_h p1 (2 : Int32)) + (own_h p2 (2 : Int32)))]) _
    refine XS.iconst X2.here hx rfl (hb hby d8_37) ?_
    show own_S p e below T2 (mkF m 38 #[vi (2 : Int32), vi p1, vi p2, vi p3, vi p4] [xi (4 : Int32), xi p4, xj ((own_h p1 (2 : Int32)) + (own_h p2 (2 : Int32)))]) _
    refine XS.iand X2.here hx rfl (hb hby d8_38) rfl ?_
    show own_S p e below T2 (mkF m 39 #[vi (2 : Int32), vi p1, vi p2, vi p3, vi p4] [xi (p4 &&& (4 : Int32)), xj ((own_h p1 (2 : Int32)) + (own_h p2 (2 : Int32)))]) _
    refine castTop (show (mkF m 39 #[vi (2 : Int32), vi p1, vi p2, vi p3, vi p4] [xi (p4 &&& (4 : Int32)), xj ((own_h p1 (2 : Int32)) + (own_h p2 (2 : Int32)))]) = (mkF m 39 #[vi (2 : Int32), vi p1, vi p2, vi p3, vi p4] [xi (0 : Int32), xj ((own_h p1 (2 : Int32)) + (own_h p2 (2 : Int32)))]) from by rw [as10]) ?_
    show own_S p e below T2 (mkF m 39 #[vi (2 : Int32), vi p1, vi p2, vi p3, vi p4] [xi (0 : Int32), xj ((own_h p1 (2 : Int32)) + (own_h p2 (2 : Int32)))]) _
    refine XS.ifYes X2.here hx rfl (pc0 := 39) (pc' := 46) rfl (hb hby d8_39) rfl (by decide) (by decide) (by decide) ?_
    show own_S p e below T2 (mkF m 46 #[vi (2 : Int32), vi p1, vi p2, vi p3, vi p4] [xj ((own_h p1 (2 : Int32)) + (own_h p2 (2 : Int32)))]) _
    refine XS.iconst X2.here hx rfl (hb hby d8_46) ?_
    show own_S p e below T2 (mkF m 47 #[vi (2 : Int32), vi p1, vi p2, vi p3, vi p4] [xi (0 : Int32), xj ((own_h p1 (2 : Int32)) + (own_h p2 (2 : Int32)))]) _
    refine XS.iloadN X2.here hx rfl (hb hby d8_47) rfl ?_
    show own_S p e below T2 (mkF m 48 #[vi (2 : Int32), vi p1, vi p2, vi p3, vi p4] [xi p3, xi (0 : Int32), xj ((own_h p1 (2 : Int32)) + (own_h p2 (2 : Int32)))]) _
    refine XS.iloadN X2.here hx rfl (hb hby d8_48) rfl ?_
    show own_S p e below T2 (mkF m 49 #[vi (2 : Int32), vi p1, vi p2, vi p3, vi p4] [xi (2 : Int32), xi p3, xi (0 : Int32), xj ((own_h p1 (2 : Int32)) + (own_h p2 (2 : Int32)))]) _
    refine st3 _ ?_
    show own_S p e below T3 (mkF m 52 #[vi (2 : Int32), vi p1, vi p2, vi p3, vi p4] [xj (0 : Int64), xj ((own_h p1 (2 : Int32)) + (own_h p2 (2 : Int32)))]) _
    refine XS.ladd X3.here hx rfl (hb hby d8_52) rfl ?_
    show own_S p e below T3 (mkF m 53 #[vi (2 : Int32), vi p1, vi p2, vi p3, vi p4] [xj (((own_h p1 (2 : Int32)) + (own_h p2 (2 : Int32))) + (0 : Int64))]) _
    show own_S p e below T3 (mkF m 53 #[vi (2 : Int32), vi p1, vi p2, vi p3, vi p4] [xj (((own_h p1 (2 : Int32)) + (own_h p2 (2 : Int32))) + (0 : Int64))]) _
    exact X3.lreturnOut hx Bd.returns (hb hby d8_53) hr
  · exact ⟨rfl, N3, e3⟩
theorem ef_own_c31_expected (m : MethodId) (u0 u1 u2 u3 u4 : Addr) (p1 : Int32) (p2 : Int32) (p3 : Int32) (p4 : Int32) : entryFrame m #[xi (3 : Int32), xi p1, xi p2, xi p3, xi p4] 5 = (mkF m 0 #[vi (3 : Int32), vi p1, vi p2, vi p3, vi p4] []) := by first | (simp [entryFrame, mkF, argsToLocals, Value.category]; done) | rfl
set_option maxRecDepth 65536 in
set_option maxHeartbeats 40000000 in
theorem own_c31_expected (l : Launch) (Z : State) (a0 : Array Value) (hw : ∀ d ∈ tables_1, d.before a0 Z = true) (u0 u1 u2 u3 u4 : Addr) (G : own_St Z u0 u1 u2 u3 u4) (p1 : Int32) (p2 : Int32) (p3 : Int32) (p4 : Int32) (as7 : (p4 &&& (1 : Int32)) = (1 : Int32)) (as9 : (p4 &&& (2 : Int32)) = (2 : Int32)) (as10 : (p4 &&& (4 : Int32)) = (0 : Int32)) (h0 : Heap) (n0 : Nat) (O0 : Old Z n0 h0) : own_Met l Z Y9 method_4_code 5 (some .long) ({ frames := 1, cells := 0, slots := 0, locals := 16 } : Room) #[xi (3 : Int32), xi p1, xi p2, xi p3, xi p4] h0 (own_QR (some (xj (((own_h p1 (3 : Int32)) + (own_h p2 (3 : Int32))) + (0 : Int64)))) h0 n0) := by
  intro ws
  refine MetFree.of_bodySF (plainFor_of_name pn3) hisR ?_
  intro p e s m args below meth c s₁ Bd hml0 hP hK
  obtain ⟨rfl, hZ, hh⟩ := hP
  have hx := Bd.exec
  have hby := Bd.bytes
  have hml : c.maxLocals = 5 := hml0
  have hown : s.vm.findClass "com/example/feedwright/feedwright/LoadSummaryAddPinLaw" = some m.cls := findClass_of_methodNamed Bd.named
  have hnm := (name_of_methodNamed Bd.named Bd.method).1
  have X0 : Stand p l e ({ frames := 1, cells := 0, slots := 0, locals := 16 } : Room) s m #[xi (3 : Int32), xi p1, xi p2, xi p3, xi p4] below meth c s₁ [] 0 0 := Stand.of_body Bd
  have e0 : s₁.heap = h0 := by rw [← hh, Bd.state]; rfl
  have N0 := Fr.nil n0
  have pre0 : ∀ t, Steps p.tables e below (s₁.setTop (mkF m 0 #[vi (3 : Int32), vi p1, vi p2, vi p3, vi p4] [])) t → Steps p.tables e below (s₁.setTop (entryFrame m #[xi (3 : Int32), xi p1, xi p2, xi p3, xi p4] 5)) t := fun t st => castTop (ef_own_c31_expected m u0 u1 u2 u3 u4 p1 p2 p3 p4) st
  obtain ⟨_, _, ⟨T1, L1, k1, n1⟩, -, X1, ⟨Lc1, hQ1, l1, y1, z1⟩, st1⟩ := Jvm.LawKit.callS X0 hx (y := Y6) hown (mvT hZ (ww hw 61 rfl)) (mvT hZ (ww hw 62 rfl)) (mvT hZ (ww hw 2 rfl)) (mvT hZ (ww hw 63 rfl)) (by decide) (backOf (W := 0) (own_hit l Z a0 hw u0 u1 u2 u3 u4 G p1 (3 : Int32) h0 n0 O0 []) hZ (ww hw 63 rfl) (ww hw 2 rfl) (by decide) (by decide)) (g := (mkF m 14 #[vi (3 : Int32), vi p1, vi p2, vi p3, vi p4] [xi (3 : Int32), xi p1, xi (1 : Int32)])) rfl (by rw [hml]; rfl) (argsL := [xi (1 : Int32), xi p1, xi (3 : Int32)]) (rest := []) (lenOf pd5 rfl) rfl (by show 2 * 0 + _ ≤ _; exact Nat.le_of_eq rfl) (hb hby d8_14) (fun _ _ => ⟨rfl, e0, (by decide : 0 + 0 ≤ _), (by decide : 0 + 0 ≤ _)⟩)
  dsimp only [Pt.U, Pt.locs, Pt.cells, Pt.slots] at X1 l1 y1 z1 st1 hQ1
  subst l1 y1 z1
  obtain ⟨rfl, Nq1, e1⟩ := hQ1
  have N1 := Fr.app N0 Nq1
  obtain ⟨_, _, ⟨T2, L2, k2, n2⟩, -, X2, ⟨Lc2, hQ2, l2, y2, z2⟩, st2⟩ := Jvm.LawKit.callS X1 hx (y := Y6) hown (mvT hZ (ww hw 61 rfl)) (mvT hZ (ww hw 62 rfl)) (mvT hZ (ww hw 2 rfl)) (mvT hZ (ww hw 63 rfl)) (by decide) (backOf (W := 2) (own_hit l Z a0 hw u0 u1 u2 u3 u4 G p2 (3 : Int32) h0 n0 O0 []) hZ (ww hw 63 rfl) (ww hw 2 rfl) (by decide) (by decide)) (g := (mkF m 31 #[vi (3 : Int32), vi p1, vi p2, vi p3, vi p4] [xi (3 : Int32), xi p2, xi (1 : Int32), xj (own_h p1 (3 : Int32))])) rfl (by rw [hml]; rfl) (argsL := [xi (1 : Int32), xi p2, xi (3 : Int32)]) (rest := [xj (own_h p1 (3 : Int32))]) (lenOf pd5 rfl) rfl (by show 2 * 0 + _ ≤ _; exact Nat.le_of_eq rfl) (hb hby d8_31) (fun _ _ => ⟨rfl, e1, (by decide : 0 + 0 ≤ _), (by decide : 0 + 0 ≤ _)⟩)
  dsimp only [Pt.U, Pt.locs, Pt.cells, Pt.slots] at X2 l2 y2 z2 st2 hQ2
  subst l2 y2 z2
  obtain ⟨rfl, Nq2, e2⟩ := hQ2
  have N2 := Fr.app N1 Nq2
  obtain ⟨_, _, ⟨T3, L3, k3, n3⟩, -, X3, ⟨Lc3, hQ3, l3, y3, z3⟩, st3⟩ := Jvm.LawKit.callS X2 hx (y := Y6) hown (mvT hZ (ww hw 61 rfl)) (mvT hZ (ww hw 62 rfl)) (mvT hZ (ww hw 2 rfl)) (mvT hZ (ww hw 63 rfl)) (by decide) (backOf (W := 2) (own_hit_off l Z a0 hw u0 u1 u2 u3 u4 G p3 (3 : Int32) h0 n0 O0 []) hZ (ww hw 63 rfl) (ww hw 2 rfl) (by decide) (by decide)) (g := (mkF m 49 #[vi (3 : Int32), vi p1, vi p2, vi p3, vi p4] [xi (3 : Int32), xi p3, xi (0 : Int32), xj ((own_h p1 (3 : Int32)) + (own_h p2 (3 : Int32)))])) rfl (by rw [hml]; rfl) (argsL := [xi (0 : Int32), xi p3, xi (3 : Int32)]) (rest := [xj ((own_h p1 (3 : Int32)) + (own_h p2 (3 : Int32)))]) (lenOf pd5 rfl) rfl (by show 2 * 0 + _ ≤ _; exact Nat.le_of_eq rfl) (hb hby d8_49) (fun _ _ => ⟨rfl, e2, (by decide : 0 + 0 ≤ _), (by decide : 0 + 0 ≤ _)⟩)
  dsimp only [Pt.U, Pt.locs, Pt.cells, Pt.slots] at X3 l3 y3 z3 st3 hQ3
  subst l3 y3 z3
  obtain ⟨rfl, Nq3, e3⟩ := hQ3
  have N3 := Fr.app N2 Nq3
  obtain ⟨fs, hr, hrun, hended, hW, hsame⟩ := X3.leave (v := some (xj (((own_h p1 (3 : Int32)) + (own_h p2 (3 : Int32))) + (0 : Int64)))) (fun h => by rw [Bd.returns] at h; cases h)
  refine ⟨_, _, pre0 _ ?_, hrun, hended, _, _, rfl, ?_, ⟨_, rfl⟩, hW, hsame.mono (by decide) (by decide)⟩
  · show own_S p e below s₁ (mkF m 0 #[vi (3 : Int32), vi p1, vi p2, vi p3, vi p4] []) _
    refine XS.iload X0.here hx rfl (hb hby d8_0) rfl ?_
    show own_S p e below s₁ (mkF m 2 #[vi (3 : Int32), vi p1, vi p2, vi p3, vi p4] [xi p4]) _
    refine XS.iconst X0.here hx rfl (hb hby d8_2) ?_
    show own_S p e below s₁ (mkF m 3 #[vi (3 : Int32), vi p1, vi p2, vi p3, vi p4] [xi (1 : Int32), xi p4]) _
    refine XS.iand X0.here hx rfl (hb hby d8_3) rfl ?_
    show own_S p e below s₁ (mkF m 4 #[vi (3 : Int32), vi p1, vi p2, vi p3, vi p4] [xi (p4 &&& (1 : Int32))]) _
    refine castTop (show (mkF m 4 #[vi (3 : Int32), vi p1, vi p2, vi p3, vi p4] [xi (p4 &&& (1 : Int32))]) = (mkF m 4 #[vi (3 : Int32), vi p1, vi p2, vi p3, vi p4] [xi (1 : Int32)]) from by rw [as7]) ?_
    show own_S p e below s₁ (mkF m 4 #[vi (3 : Int32), vi p1, vi p2, vi p3, vi p4] [xi (1 : Int32)]) _
    refine XS.ifNo X0.here hx rfl (hb hby d8_4) rfl (by decide) ?_
    show own_S p e below s₁ (mkF m 7 #[vi (3 : Int32), vi p1, vi p2, vi p3, vi p4] []) _
    refine XS.iconst X0.here hx rfl (hb hby d8_7) ?_
    show own_S p e below s₁ (mkF m 8 #[vi (3 : Int32), vi p1, vi p2, vi p3, vi p4] [xi (1 : Int32)]) _
    refine XS.goto X0.here hx rfl (pc0 := 8) (pc' := 12) rfl (hb hby d8_8) (by decide) (by decide) ?_
    show own_S p e below s₁ (mkF m 12 #[vi (3 : Int32), vi p1, vi p2, vi p3, vi p4] [xi (1 : Int32)]) _
    refine XS.iloadN X0.here hx rfl (hb hby d8_12) rfl ?_
    show own_S p e below s₁ (mkF m 13 #[vi (3 : Int32), vi p1, vi p2, vi p3, vi p4] [xi p1, xi (1 : Int32)]) _
    refine XS.iloadN X0.here hx rfl (hb hby d8_13) rfl ?_
    show own_S p e below s₁ (mkF m 14 #[vi (3 : Int32), vi p1, vi p2, vi p3, vi p4] [xi (3 : Int32), xi p1, xi (1 : Int32)]) _
    refine st1 _ ?_
    show own_S p e below T1 (mkF m 17 #[vi (3 : Int32), vi p1, vi p2, vi p3, vi p4] [xj (own_h p1 (3 : Int32))]) _
    refine XS.iload X1.here hx rfl (hb hby d8_17) rfl ?_
    show own_S p e below T1 (mkF m 19 #[vi (3 : Int32), vi p1, vi p2, vi p3, vi p4] [xi p4, xj (own_h p1 (3 : Int32))]) _
    refine XS.iconst X1.here hx rfl (hb hby d8_19) ?_
    show own_S p e below T1 (mkF m 20 #[vi (3 : Int32), vi p1, vi p2, vi p3, vi p4] [xi (2 : Int32), xi p4, xj (own_h p1 (3 : Int32))]) _
    refine XS.iand X1.here hx rfl (hb hby d8_20) rfl ?_
    show own_S p e below T1 (mkF m 21 #[vi (3 : Int32), vi p1, vi p2, vi p3, vi p4] [xi (p4 &&& (2 : Int32)), xj (own_h p1 (3 : Int32))]) _
    refine castTop (show (mkF m 21 #[vi (3 : Int32), vi p1, vi p2, vi p3, vi p4] [xi (p4 &&& (2 : Int32)), xj (own_h p1 (3 : Int32))]) = (mkF m 21 #[vi (3 : Int32), vi p1, vi p2, vi p3, vi p4] [xi (2 : Int32), xj (own_h p1 (3 : Int32))]) from by rw [as9]) ?_
    show own_S p e below T1 (mkF m 21 #[vi (3 : Int32), vi p1, vi p2, vi p3, vi p4] [xi (2 : Int32), xj (own_h p1 (3 : Int32))]) _
    refine XS.ifNo X1.here hx rfl (hb hby d8_21) rfl (by decide) ?_
    show own_S p e below T1 (mkF m 24 #[vi (3 : Int32), vi p1, vi p2, vi p3, vi p4] [xj (own_h p1 (3 : Int32))]) _
    refine XS.iconst X1.here hx rfl (hb hby d8_24) ?_
    show own_S p e below T1 (mkF m 25 #[vi (3 : Int32), vi p1, vi p2, vi p3, vi p4] [xi (1 : Int32), xj (own_h p1 (3 : Int32))]) _
    refine XS.goto X1.here hx rfl (pc0 := 25) (pc' := 29) rfl (hb hby d8_25) (by decide) (by decide) ?_
    show own_S p e below T1 (mkF m 29 #[vi (3 : Int32), vi p1, vi p2, vi p3, vi p4] [xi (1 : Int32), xj (own_h p1 (3 : Int32))]) _
    refine XS.iloadN X1.here hx rfl (hb hby d8_29) rfl ?_
    show own_S p e below T1 (mkF m 30 #[vi (3 : Int32), vi p1, vi p2, vi p3, vi p4] [xi p2, xi (1 : Int32), xj (own_h p1 (3 : Int32))]) _
    refine XS.iloadN X1.here hx rfl (hb hby d8_30) rfl ?_
    show own_S p e below T1 (mkF m 31 #[vi (3 : Int32), vi p1, vi p2, vi p3, vi p4] [xi (3 : Int32), xi p2, xi (1 : Int32), xj (own_h p1 (3 : Int32))]) _
    refine st2 _ ?_
    show own_S p e below T2 (mkF m 34 #[vi (3 : Int32), vi p1, vi p2, vi p3, vi p4] [xj (own_h p2 (3 : Int32)), xj (own_h p1 (3 : Int32))]) _
    refine XS.ladd X2.here hx rfl (hb hby d8_34) rfl ?_
    show own_S p e below T2 (mkF m 35 #[vi (3 : Int32), vi p1, vi p2, vi p3, vi p4] [xj ((own_h p1 (3 : Int32)) + (own_h p2 (3 : Int32)))]) _
    show own_S p e below T2 (mkF m 35 #[vi (3 : Int32), vi p1, vi p2, vi p3, vi p4] [xj ((own_h p1 (3 : Int32)) + (own_h p2 (3 : Int32)))]) _
    refine XS.iload X2.here hx rfl (hb hby d8_35) rfl ?_
    show own_S p e below T2 (mkF m 37 #[vi (3 : Int32), vi p1, vi p2, vi p3, vi p4] [xi p4, xj ((own_h p1 (3 : Int32)) + (own_h p2 (3 : Int32)))]) _
    refine XS.iconst X2.here hx rfl (hb hby d8_37) ?_
    show own_S p e below T2 (mkF m 38 #[vi (3 : Int32), vi p1, vi p2, vi p3, vi p4] [xi (4 : Int32), xi p4, xj ((own_h p1 (3 : Int32)) + (own_h p2 (3 : Int32)))]) _
    refine XS.iand X2.here hx rfl (hb hby d8_38) rfl ?_
    show own_S p e below T2 (mkF m 39 #[vi (3 : Int32), vi p1, vi p2, vi p3, vi p4] [xi (p4 &&& (4 : Int32)), xj ((own_h p1 (3 : Int32)) + (own_h p2 (3 : Int32)))]) _
    refine castTop (show (mkF m 39 #[vi (3 : Int32), vi p1, vi p2, vi p3, vi p4] [xi (p4 &&& (4 : Int32)), xj ((own_h p1 (3 : Int32)) + (own_h p2 (3 : Int32)))]) = (mkF m 39 #[vi (3 : Int32), vi p1, vi p2, vi p3, vi p4] [xi (0 : Int32), xj ((own_h p1 (3 : Int32)) + (own_h p2 (3 : Int32)))]) from by rw [as10]) ?_
    show own_S p e below T2 (mkF m 39 #[vi (3 : Int32), vi p1, vi p2, vi p3, vi p4] [xi (0 : Int32), xj ((own_h p1 (3 : Int32)) + (own_h p2 (3 : Int32)))]) _
    refine XS.ifYes X2.here hx rfl (pc0 := 39) (pc' := 46) rfl (hb hby d8_39) rfl (by decide) (by decide) (by decide) ?_
    show own_S p e below T2 (mkF m 46 #[vi (3 : Int32), vi p1, vi p2, vi p3, vi p4] [xj ((own_h p1 (3 : Int32)) + (own_h p2 (3 : Int32)))]) _
    refine XS.iconst X2.here hx rfl (hb hby d8_46) ?_
    show own_S p e below T2 (mkF m 47 #[vi (3 : Int32), vi p1, vi p2, vi p3, vi p4] [xi (0 : Int32), xj ((own_h p1 (3 : Int32)) + (own_h p2 (3 : Int32)))]) _
    refine XS.iloadN X2.here hx rfl (hb hby d8_47) rfl ?_
    show own_S p e below T2 (mkF m 48 #[vi (3 : Int32), vi p1, vi p2, vi p3, vi p4] [xi p3, xi (0 : Int32), xj ((own_h p1 (3 : Int32)) + (own_h p2 (3 : Int32)))]) _
    refine XS.iloadN X2.here hx rfl (hb hby d8_48) rfl ?_
    show own_S p e below T2 (mkF m 49 #[vi (3 : Int32), vi p1, vi p2, vi p3, vi p4] [xi (3 : Int32), xi p3, xi (0 : Int32), xj ((own_h p1 (3 : Int32)) + (own_h p2 (3 : Int32)))]) _
    refine st3 _ ?_
    show own_S p e below T3 (mkF m 52 #[vi (3 : Int32), vi p1, vi p2, vi p3, vi p4] [xj (0 : Int64), xj ((own_h p1 (3 : Int32)) + (own_h p2 (3 : Int32)))]) _
    refine XS.ladd X3.here hx rfl (hb hby d8_52) rfl ?_
    show own_S p e below T3 (mkF m 53 #[vi (3 : Int32), vi p1, vi p2, vi p3, vi p4] [xj (((own_h p1 (3 : Int32)) + (own_h p2 (3 : Int32))) + (0 : Int64))]) _
    show own_S p e below T3 (mkF m 53 #[vi (3 : Int32), vi p1, vi p2, vi p3, vi p4] [xj (((own_h p1 (3 : Int32)) + (own_h p2 (3 : Int32))) + (0 : Int64))]) _
    exact X3.lreturnOut hx Bd.returns (hb hby d8_53) hr
  · exact ⟨rfl, N3, e3⟩
theorem ef_own_l6 (m : MethodId) (u0 u1 u2 u3 u4 : Addr) (p1 : Int32) (p2 : Int32) (p3 : Int32) (p4 : Int32) (va1 : Addr) (va2 : Addr) (va3 : Addr) : entryFrame m #[xi p1, xi p2, xi p3, xi p4] maxLocals = (mkF m 0 #[vi p1, vi p2, vi p3, vi p4, vu, vu, vu, vu, vu, vu, vu, vu, vu] []) := by first | (simp [entryFrame, mkF, argsToLocals, Value.category, maxLocals]; done) | rfl
set_option maxRecDepth 65536 in
set_option maxHeartbeats 40000000 in
theorem own_l6 (l : Launch) (Z : State) (a0 : Array Value) (hw : ∀ d ∈ tables_1, d.before a0 Z = true) (u0 u1 u2 u3 u4 : Addr) (G : own_St Z u0 u1 u2 u3 u4) (p1 : Int32) (p2 : Int32) (p3 : Int32) (p4 : Int32) (va1 : Addr) (va2 : Addr) (va3 : Addr) (as7 : (p4 &&& (1 : Int32)) = (1 : Int32)) (as9 : (p4 &&& (2 : Int32)) = (2 : Int32)) (as10 : (p4 &&& (4 : Int32)) = (0 : Int32)) (hv1 : own_is u0 u1 u2 u3 u4 p1 va1) (hv2 : own_is u0 u1 u2 u3 u4 p2 va2) (hv3 : own_is u0 u1 u2 u3 u4 p3 va3) (h0 : Heap) (n0 : Nat) (O0 : Old Z n0 h0) : own_Met l Z x code maxLocals ret room_1 #[xi p1, xi p2, xi p3, xi p4] h0 (own_QL (some (xi (1 : Int32))) n0) := by
  intro ws
  refine MetFree.of_bodySF (plainFor_of_name pn3) hisR ?_
  intro p e s m args below meth c s₁ Bd hml0 hP hK
  obtain ⟨rfl, hZ, hh⟩ := hP
  have hx := Bd.exec
  have hby := Bd.bytes
  have hml : c.maxLocals = 13 := hml0
  have hown : s.vm.findClass "com/example/feedwright/feedwright/LoadSummaryAddPinLaw" = some m.cls := findClass_of_methodNamed Bd.named
  have hnm := (name_of_methodNamed Bd.named Bd.method).1
  have X0 : Stand p l e room_1 s m #[xi p1, xi p2, xi p3, xi p4] below meth c s₁ [] 0 0 := Stand.of_body Bd
  have e0 : s₁.heap = h0 := by rw [← hh, Bd.state]; rfl
  have N0 := Fr.nil n0
  have pre0 : ∀ t, Steps p.tables e below (s₁.setTop (mkF m 0 #[vi p1, vi p2, vi p3, vi p4, vu, vu, vu, vu, vu, vu, vu, vu, vu] [])) t → Steps p.tables e below (s₁.setTop (entryFrame m #[xi p1, xi p2, xi p3, xi p4] maxLocals)) t := fun t st => castTop (ef_own_l6 m u0 u1 u2 u3 u4 p1 p2 p3 p4 va1 va2 va3) st
  obtain ⟨_, _, ⟨T1, L1, k1, n1⟩, -, X1, ⟨Lc1, hQ1, l1, y1, z1⟩, st1⟩ := Jvm.LawKit.callS X0 hx (y := Y5) hown (mvT hZ (ww hw 0 rfl)) (mvT hZ (ww hw 1 rfl)) (mvT hZ (ww hw 2 rfl)) (mvT hZ (ww hw 3 rfl)) (by decide) (backOf (W := 0) (own_pick l Z a0 hw u0 u1 u2 u3 u4 G p1 va1 hv1 h0 n0 O0 []) hZ (ww hw 3 rfl) (ww hw 2 rfl) (by decide) (by decide)) (g := (mkF m 40 #[vi p1, vi p2, vi p3, vi p4, vi (1 : Int32), vi (1 : Int32), vi (0 : Int32), vu, vu, vu, vu, vu, vu] [xi p1])) rfl (by rw [hml]; rfl) (argsL := [xi p1]) (rest := []) (lenOf pd2 rfl) rfl (by show 2 * 0 + _ ≤ _; exact Nat.le_of_eq rfl) (hb hby at_40) (fun _ _ => ⟨rfl, e0, (by decide : 0 + 0 ≤ _), (by decide : 0 + 0 ≤ _)⟩)
  dsimp only [Pt.U, Pt.locs, Pt.cells, Pt.slots] at X1 l1 y1 z1 st1 hQ1
  subst l1 y1 z1
  obtain ⟨rfl, Nq1, e1⟩ := hQ1
  have N1 := Fr.app N0 Nq1
  obtain ⟨_, _, ⟨T2, L2, k2, n2⟩, -, X2, ⟨Lc2, hQ2, l2, y2, z2⟩, st2⟩ := Jvm.LawKit.callS X1 hx (y := Y5) hown (mvT hZ (ww hw 0 rfl)) (mvT hZ (ww hw 1 rfl)) (mvT hZ (ww hw 2 rfl)) (mvT hZ (ww hw 3 rfl)) (by decide) (backOf (W := 0) (own_pick l Z a0 hw u0 u1 u2 u3 u4 G p2 va2 hv2 h0 n0 O0 []) hZ (ww hw 3 rfl) (ww hw 2 rfl) (by decide) (by decide)) (g := (mkF m 46 #[vi p1, vi p2, vi p3, vi p4, vi (1 : Int32), vi (1 : Int32), vi (0 : Int32), vr va1, vu, vu, vu, vu, vu] [xi p2])) rfl (by rw [hml]; rfl) (argsL := [xi p2]) (rest := []) (lenOf pd2 rfl) rfl (by show 2 * 0 + _ ≤ _; exact Nat.le_of_eq rfl) (hb hby at_46) (fun _ _ => ⟨rfl, e1, (by decide : 0 + 0 ≤ _), (by decide : 0 + 0 ≤ _)⟩)
  dsimp only [Pt.U, Pt.locs, Pt.cells, Pt.slots] at X2 l2 y2 z2 st2 hQ2
  subst l2 y2 z2
  obtain ⟨rfl, Nq2, e2⟩ := hQ2
  have N2 := Fr.app N1 Nq2
  obtain ⟨_, _, ⟨T3, L3, k3, n3⟩, -, X3, ⟨Lc3, hQ3, l3, y3, z3⟩, st3⟩ := Jvm.LawKit.callS X2 hx (y := Y5) hown (mvT hZ (ww hw 0 rfl)) (mvT hZ (ww hw 1 rfl)) (mvT hZ (ww hw 2 rfl)) (mvT hZ (ww hw 3 rfl)) (by decide) (backOf (W := 0) (own_pick l Z a0 hw u0 u1 u2 u3 u4 G p3 va3 hv3 h0 n0 O0 []) hZ (ww hw 3 rfl) (ww hw 2 rfl) (by decide) (by decide)) (g := (mkF m 52 #[vi p1, vi p2, vi p3, vi p4, vi (1 : Int32), vi (1 : Int32), vi (0 : Int32), vr va1, vr va2, vu, vu, vu, vu] [xi p3])) rfl (by rw [hml]; rfl) (argsL := [xi p3]) (rest := []) (lenOf pd2 rfl) rfl (by show 2 * 0 + _ ≤ _; exact Nat.le_of_eq rfl) (hb hby at_52) (fun _ _ => ⟨rfl, e2, (by decide : 0 + 0 ≤ _), (by decide : 0 + 0 ≤ _)⟩)
  dsimp only [Pt.U, Pt.locs, Pt.cells, Pt.slots] at X3 l3 y3 z3 st3 hQ3
  subst l3 y3 z3
  obtain ⟨rfl, Nq3, e3⟩ := hQ3
  have N3 := Fr.app N2 Nq3
  obtain ⟨T4, h4, X4, e4, E4, A4, D4, -, st4⟩ := newO X3 hx hZ hown (ww hw 11 rfl) (ww hw 12 rfl) (ww hw 13 rfl) e3 (g := (mkF m 57 #[vi p1, vi p2, vi p3, vi p4, vi (1 : Int32), vi (1 : Int32), vi (0 : Int32), vr va1, vr va2, vr va3, vu, vu, vu] [])) rfl (hb hby at_57) (by decide) (by decide)
  obtain ⟨b4, g4⟩ : ∃ z, z = h0.size := ⟨_, rfl⟩
  rw [← g4] at A4 D4 st4
  have g_b4 : n0 ≤ b4 := own_fresh O0 g4
  have O4 : Old Z n0 h4 := O0.ext E4
  have F_b4_counts : Fld Z h4 b4 "com/example/feedwright/feedwright/LoadSummary" "counts" "[J" .null := D4 (Or.inr (ww hw 38 rfl)) (ty := (.array .long)) (by decide)
  obtain ⟨_, _, ⟨T5, L5, k5, n5⟩, -, X5, ⟨Lc5, hQ5, l5, y5, z5⟩, st5⟩ := X4.specialBack hx (y := Y1) rfl hown (mvT hZ (ww hw 14 rfl)) (mvT hZ (ww hw 15 rfl)) (mvT hZ (ww hw 16 rfl)) (by decide) (backOf (W := 1) (own_init l Z a0 hw u0 u1 u2 u3 u4 G b4 h4 n0 O4 A4 F_b4_counts g_b4 []) hZ (ww hw 16 rfl) (ww hw 13 rfl) (by decide) (by decide)) (g := (mkF m 61 #[vi p1, vi p2, vi p3, vi p4, vi (1 : Int32), vi (1 : Int32), vi (0 : Int32), vr va1, vr va2, vr va3, vu, vu, vu] [xr b4, xr b4])) rfl (by rw [hml]; rfl) (Steps.refl _) (a := b4) (argsL := []) (rest := [xr b4]) (lenOf pd3 rfl) rfl (by show 2 * 0 + _ ≤ _; exact Nat.le_of_eq rfl) (hb hby at_61) (fun _ _ => ⟨rfl, e4, (by decide : 1 + 2 ≤ _), (by decide : 1 + 8 ≤ _)⟩)
  dsimp only [Pt.U, Pt.locs, Pt.cells, Pt.slots] at X5 l5 y5 z5 st5 hQ5
  subst l5 y5 z5
  obtain ⟨h5, e5⟩ : ∃ z, T5.heap = z := ⟨_, rfl⟩
  rw [e5] at hQ5
  obtain ⟨rfl, Nq5, K5, bb5, kk5, -, Fc5, Vb5, nb5, -, g_bb5⟩ := hQ5
  have N5 := Fr.app N3 Nq5
  have O5 : Old Z n0 h5 := O4.keep K5 (allS g_b4 all0)
  have X_b4_5 := A4.keep K5
  obtain ⟨cq6, kq6, qa6, qb6, qc6⟩ := isOf hZ e5 X_b4_5
  obtain ⟨_, _, ⟨T6, L6, k6, n6⟩, -, X6, ⟨Lc6, hQ6, l6, y6, z6⟩, st6⟩ := X5.virtualBack hx (y := Y4) (z := Y4) hown (mvT hZ (ww hw 39 rfl)) (mvT hZ (ww hw 40 rfl)) (notFace_of_selects (args := #[]) (mvT hZ (ww hw 42 rfl))) (mvT hZ (ww hw 42 rfl)) (mvT hZ (ww hw 41 rfl)) (by decide) (backOf (W := 0) (own_add l Z a0 hw u0 u1 u2 u3 u4 G b4 bb5 kk5 (0 : Int64) (0 : Int64) (0 : Int64) (0 : Int64) p1 va1 hv1 h5 n0 O5 ⟨X_b4_5, Fc5, Vb5, nb5, g_b4, g_bb5⟩ []) hZ (ww hw 43 rfl) (ww hw 13 rfl) (by decide) (by decide)) qa6 qc6 (g := (mkF m 75 #[vi p1, vi p2, vi p3, vi p4, vi (1 : Int32), vi (1 : Int32), vi (0 : Int32), vr va1, vr va2, vr va3, vr b4, vu, vu] [xr va1, xr b4])) rfl (by rw [hml]; rfl) (Steps.refl _) (argsL := [xr va1]) (rest := []) (lenOf pd8 rfl) rfl (by show 2 * 0 + _ ≤ _; exact Nat.le_of_eq rfl) (hb hby at_75) (fun _ _ => ⟨rfl, e5, (by decide : 3 + 0 ≤ _), (by decide : 9 + 0 ≤ _)⟩)
  dsimp only [Pt.U, Pt.locs, Pt.cells, Pt.slots] at X6 l6 y6 z6 st6 hQ6
  subst l6 y6 z6
  obtain ⟨h6, e6⟩ : ∃ z, T6.heap = z := ⟨_, rfl⟩
  rw [e6] at hQ6
  obtain ⟨rfl, Nq6, K6, -, -, Vn6, -⟩ := hQ6
  have N6 := Fr.app N5 Nq6
  have O6 : Old Z n0 h6 := O5.keep K6 (allS g_bb5 all0)
  have X_b4_6 := X_b4_5.keep K6
  have F_b4_counts_6 := Fc5.keep K6 (ninS nb5 nin0)
  obtain ⟨cq7, kq7, qa7, qb7, qc7⟩ := isOf hZ e6 X_b4_6
  obtain ⟨_, _, ⟨T7, L7, k7, n7⟩, -, X7, ⟨Lc7, hQ7, l7, y7, z7⟩, st7⟩ := X6.virtualBack hx (y := Y4) (z := Y4) hown (mvT hZ (ww hw 39 rfl)) (mvT hZ (ww hw 40 rfl)) (notFace_of_selects (args := #[]) (mvT hZ (ww hw 42 rfl))) (mvT hZ (ww hw 42 rfl)) (mvT hZ (ww hw 41 rfl)) (by decide) (backOf (W := 0) (own_add l Z a0 hw u0 u1 u2 u3 u4 G b4 bb5 kk5 ((0 : Int64) + own_h p1 0) ((0 : Int64) + own_h p1 1) ((0 : Int64) + own_h p1 2) ((0 : Int64) + own_h p1 3) p2 va2 hv2 h6 n0 O6 ⟨X_b4_6, F_b4_counts_6, Vn6, nb5, g_b4, g_bb5⟩ []) hZ (ww hw 43 rfl) (ww hw 13 rfl) (by decide) (by decide)) qa7 qc7 (g := (mkF m 87 #[vi p1, vi p2, vi p3, vi p4, vi (1 : Int32), vi (1 : Int32), vi (0 : Int32), vr va1, vr va2, vr va3, vr b4, vu, vu] [xr va2, xr b4])) rfl (by rw [hml]; rfl) (Steps.refl _) (argsL := [xr va2]) (rest := []) (lenOf pd8 rfl) rfl (by show 2 * 0 + _ ≤ _; exact Nat.le_of_eq rfl) (hb hby at_87) (fun _ _ => ⟨rfl, e6, (by decide : 3 + 0 ≤ _), (by decide : 9 + 0 ≤ _)⟩)
  dsimp only [Pt.U, Pt.locs, Pt.cells, Pt.slots] at X7 l7 y7 z7 st7 hQ7
  subst l7 y7 z7
  obtain ⟨h7, e7⟩ : ∃ z, T7.heap = z := ⟨_, rfl⟩
  rw [e7] at hQ7
  obtain ⟨rfl, Nq7, K7, -, -, Vn7, -⟩ := hQ7
  have N7 := Fr.app N6 Nq7
  have O7 : Old Z n0 h7 := O6.keep K7 (allS g_bb5 all0)
  have X_b4_7 := X_b4_6.keep K7
  have F_b4_counts_7 := F_b4_counts_6.keep K7 (ninS nb5 nin0)
  obtain ⟨T8, X8, e8, st8⟩ := getS2 X7 hx hZ hown (host := "") (Or.inl (ww hw 4 rfl)) Via.refl e7 ((own_S_u0 G).ext O7.2) (g := (mkF m 138 #[vi p1, vi p2, vi p3, vi p4, vi (1 : Int32), vi (1 : Int32), vi (0 : Int32), vr va1, vr va2, vr va3, vr b4, vj (2 : Int64), .second] [xr b4])) rfl (hb hby at_138)
  obtain ⟨cq9, kq9, qa9, qb9, qc9⟩ := isOf hZ e8 X_b4_7
  obtain ⟨_, _, ⟨T9, L9, k9, n9⟩, -, X9, ⟨Lc9, hQ9, l9, y9, z9⟩, st9⟩ := X8.virtualBack hx (y := Y7) (z := Y7) hown (mvT hZ (ww hw 53 rfl)) (mvT hZ (ww hw 54 rfl)) (notFace_of_selects (args := #[]) (mvT hZ (ww hw 56 rfl))) (mvT hZ (ww hw 56 rfl)) (mvT hZ (ww hw 55 rfl)) (by decide) (backOf (W := 0) (own_count0 l Z a0 hw u0 u1 u2 u3 u4 G b4 bb5 kk5 (((0 : Int64) + own_h p1 0) + own_h p2 0) (((0 : Int64) + own_h p1 1) + own_h p2 1) (((0 : Int64) + own_h p1 2) + own_h p2 2) (((0 : Int64) + own_h p1 3) + own_h p2 3) h7 n0 O7 ⟨X_b4_7, F_b4_counts_7, Vn7, nb5, g_b4, g_bb5⟩ []) hZ (ww hw 57 rfl) (ww hw 13 rfl) (by decide) (by decide)) qa9 qc9 (g := (mkF m 141 #[vi p1, vi p2, vi p3, vi p4, vi (1 : Int32), vi (1 : Int32), vi (0 : Int32), vr va1, vr va2, vr va3, vr b4, vj (2 : Int64), .second] [xr u0, xr b4])) rfl (by rw [hml]; rfl) (Steps.refl _) (argsL := [xr u0]) (rest := []) (lenOf pd4 rfl) rfl (by show 2 * 0 + _ ≤ _; exact Nat.le_of_eq rfl) (hb hby at_141) (fun _ _ => ⟨rfl, e8, (by decide : 3 + 0 ≤ _), (by decide : 9 + 0 ≤ _)⟩)
  dsimp only [Pt.U, Pt.locs, Pt.cells, Pt.slots] at X9 l9 y9 z9 st9 hQ9
  subst l9 y9 z9
  obtain ⟨rfl, Nq9, e9⟩ := hQ9
  have N9 := Fr.app N7 Nq9
  obtain ⟨_, _, ⟨T10, L10, k10, n10⟩, -, X10, ⟨Lc10, hQ10, l10, y10, z10⟩, st10⟩ := Jvm.LawKit.callS X9 hx (y := Y9) hown (mvT hZ (ww hw 58 rfl)) (mvT hZ (ww hw 59 rfl)) (mvT hZ (ww hw 2 rfl)) (mvT hZ (ww hw 60 rfl)) (by decide) (backOf (W := 2) (own_c28_expected l Z a0 hw u0 u1 u2 u3 u4 G p1 p2 p3 p4 as7 as9 as10 h7 n0 O7 []) hZ (ww hw 60 rfl) (ww hw 2 rfl) (by decide) (by decide)) (g := (mkF m 149 #[vi p1, vi p2, vi p3, vi p4, vi (1 : Int32), vi (1 : Int32), vi (0 : Int32), vr va1, vr va2, vr va3, vr b4, vj (2 : Int64), .second] [xi p4, xi p3, xi p2, xi p1, xi (0 : Int32), xj (((0 : Int64) + own_h p1 0) + own_h p2 0)])) rfl (by rw [hml]; rfl) (argsL := [xi (0 : Int32), xi p1, xi p2, xi p3, xi p4]) (rest := [xj (((0 : Int64) + own_h p1 0) + own_h p2 0)]) (lenOf pd6 rfl) rfl (by show 2 * 0 + _ ≤ _; exact Nat.le_of_eq rfl) (hb hby at_149) (fun _ _ => ⟨rfl, e9, (by decide : 3 + 0 ≤ _), (by decide : 9 + 0 ≤ _)⟩)
  dsimp only [Pt.U, Pt.locs, Pt.cells, Pt.slots] at X10 l10 y10 z10 st10 hQ10
  subst l10 y10 z10
  obtain ⟨rfl, Nq10, e10⟩ := hQ10
  have N10 := Fr.app N9 Nq10
  obtain ⟨T11, X11, e11, st11⟩ := getS2 X10 hx hZ hown (host := "") (Or.inl (ww hw 64 rfl)) Via.refl e10 ((own_S_u4 G).ext O7.2) (g := (mkF m 158 #[vi p1, vi p2, vi p3, vi p4, vi (1 : Int32), vi (1 : Int32), vi (0 : Int32), vr va1, vr va2, vr va3, vr b4, vj (2 : Int64), .second] [xr b4])) rfl (hb hby at_158)
  obtain ⟨cq12, kq12, qa12, qb12, qc12⟩ := isOf hZ e11 X_b4_7
  obtain ⟨_, _, ⟨T12, L12, k12, n12⟩, -, X12, ⟨Lc12, hQ12, l12, y12, z12⟩, st12⟩ := X11.virtualBack hx (y := Y7) (z := Y7) hown (mvT hZ (ww hw 53 rfl)) (mvT hZ (ww hw 54 rfl)) (notFace_of_selects (args := #[]) (mvT hZ (ww hw 56 rfl))) (mvT hZ (ww hw 56 rfl)) (mvT hZ (ww hw 55 rfl)) (by decide) (backOf (W := 0) (own_count1 l Z a0 hw u0 u1 u2 u3 u4 G b4 bb5 kk5 (((0 : Int64) + own_h p1 0) + own_h p2 0) (((0 : Int64) + own_h p1 1) + own_h p2 1) (((0 : Int64) + own_h p1 2) + own_h p2 2) (((0 : Int64) + own_h p1 3) + own_h p2 3) h7 n0 O7 ⟨X_b4_7, F_b4_counts_7, Vn7, nb5, g_b4, g_bb5⟩ []) hZ (ww hw 57 rfl) (ww hw 13 rfl) (by decide) (by decide)) qa12 qc12 (g := (mkF m 161 #[vi p1, vi p2, vi p3, vi p4, vi (1 : Int32), vi (1 : Int32), vi (0 : Int32), vr va1, vr va2, vr va3, vr b4, vj (2 : Int64), .second] [xr u4, xr b4])) rfl (by rw [hml]; rfl) (Steps.refl _) (argsL := [xr u4]) (rest := []) (lenOf pd4 rfl) rfl (by show 2 * 0 + _ ≤ _; exact Nat.le_of_eq rfl) (hb hby at_161) (fun _ _ => ⟨rfl, e11, (by decide : 3 + 0 ≤ _), (by decide : 9 + 0 ≤ _)⟩)
  dsimp only [Pt.U, Pt.locs, Pt.cells, Pt.slots] at X12 l12 y12 z12 st12 hQ12
  subst l12 y12 z12
  obtain ⟨rfl, Nq12, e12⟩ := hQ12
  have N12 := Fr.app N10 Nq12
  obtain ⟨_, _, ⟨T13, L13, k13, n13⟩, -, X13, ⟨Lc13, hQ13, l13, y13, z13⟩, st13⟩ := Jvm.LawKit.callS X12 hx (y := Y9) hown (mvT hZ (ww hw 58 rfl)) (mvT hZ (ww hw 59 rfl)) (mvT hZ (ww hw 2 rfl)) (mvT hZ (ww hw 60 rfl)) (by decide) (backOf (W := 2) (own_c29_expected l Z a0 hw u0 u1 u2 u3 u4 G p1 p2 p3 p4 as7 as9 as10 h7 n0 O7 []) hZ (ww hw 60 rfl) (ww hw 2 rfl) (by decide) (by decide)) (g := (mkF m 169 #[vi p1, vi p2, vi p3, vi p4, vi (1 : Int32), vi (1 : Int32), vi (0 : Int32), vr va1, vr va2, vr va3, vr b4, vj (2 : Int64), .second] [xi p4, xi p3, xi p2, xi p1, xi (1 : Int32), xj (((0 : Int64) + own_h p1 1) + own_h p2 1)])) rfl (by rw [hml]; rfl) (argsL := [xi (1 : Int32), xi p1, xi p2, xi p3, xi p4]) (rest := [xj (((0 : Int64) + own_h p1 1) + own_h p2 1)]) (lenOf pd6 rfl) rfl (by show 2 * 0 + _ ≤ _; exact Nat.le_of_eq rfl) (hb hby at_169) (fun _ _ => ⟨rfl, e12, (by decide : 3 + 0 ≤ _), (by decide : 9 + 0 ≤ _)⟩)
  dsimp only [Pt.U, Pt.locs, Pt.cells, Pt.slots] at X13 l13 y13 z13 st13 hQ13
  subst l13 y13 z13
  obtain ⟨rfl, Nq13, e13⟩ := hQ13
  have N13 := Fr.app N12 Nq13
  obtain ⟨T14, X14, e14, st14⟩ := getS2 X13 hx hZ hown (host := "") (Or.inl (ww hw 9 rfl)) Via.refl e13 ((own_S_u2 G).ext O7.2) (g := (mkF m 178 #[vi p1, vi p2, vi p3, vi p4, vi (1 : Int32), vi (1 : Int32), vi (0 : Int32), vr va1, vr va2, vr va3, vr b4, vj (2 : Int64), .second] [xr b4])) rfl (hb hby at_178)
  obtain ⟨cq15, kq15, qa15, qb15, qc15⟩ := isOf hZ e14 X_b4_7
  obtain ⟨_, _, ⟨T15, L15, k15, n15⟩, -, X15, ⟨Lc15, hQ15, l15, y15, z15⟩, st15⟩ := X14.virtualBack hx (y := Y7) (z := Y7) hown (mvT hZ (ww hw 53 rfl)) (mvT hZ (ww hw 54 rfl)) (notFace_of_selects (args := #[]) (mvT hZ (ww hw 56 rfl))) (mvT hZ (ww hw 56 rfl)) (mvT hZ (ww hw 55 rfl)) (by decide) (backOf (W := 0) (own_count2 l Z a0 hw u0 u1 u2 u3 u4 G b4 bb5 kk5 (((0 : Int64) + own_h p1 0) + own_h p2 0) (((0 : Int64) + own_h p1 1) + own_h p2 1) (((0 : Int64) + own_h p1 2) + own_h p2 2) (((0 : Int64) + own_h p1 3) + own_h p2 3) h7 n0 O7 ⟨X_b4_7, F_b4_counts_7, Vn7, nb5, g_b4, g_bb5⟩ []) hZ (ww hw 57 rfl) (ww hw 13 rfl) (by decide) (by decide)) qa15 qc15 (g := (mkF m 181 #[vi p1, vi p2, vi p3, vi p4, vi (1 : Int32), vi (1 : Int32), vi (0 : Int32), vr va1, vr va2, vr va3, vr b4, vj (2 : Int64), .second] [xr u2, xr b4])) rfl (by rw [hml]; rfl) (Steps.refl _) (argsL := [xr u2]) (rest := []) (lenOf pd4 rfl) rfl (by show 2 * 0 + _ ≤ _; exact Nat.le_of_eq rfl) (hb hby at_181) (fun _ _ => ⟨rfl, e14, (by decide : 3 + 0 ≤ _), (by decide : 9 + 0 ≤ _)⟩)
  dsimp only [Pt.U, Pt.locs, Pt.cells, Pt.slots] at X15 l15 y15 z15 st15 hQ15
  subst l15 y15 z15
  obtain ⟨rfl, Nq15, e15⟩ := hQ15
  have N15 := Fr.app N13 Nq15
  obtain ⟨_, _, ⟨T16, L16, k16, n16⟩, -, X16, ⟨Lc16, hQ16, l16, y16, z16⟩, st16⟩ := Jvm.LawKit.callS X15 hx (y := Y9) hown (mvT hZ (ww hw 58 rfl)) (mvT hZ (ww hw 59 rfl)) (mvT hZ (ww hw 2 rfl)) (mvT hZ (ww hw 60 rfl)) (by decide) (backOf (W := 2) (own_c30_expected l Z a0 hw u0 u1 u2 u3 u4 G p1 p2 p3 p4 as7 as9 as10 h7 n0 O7 []) hZ (ww hw 60 rfl) (ww hw 2 rfl) (by decide) (by decide)) (g := (mkF m 189 #[vi p1, vi p2, vi p3, vi p4, vi (1 : Int32), vi (1 : Int32), vi (0 : Int32), vr va1, vr va2, vr va3, vr b4, vj (2 : Int64), .second] [xi p4, xi p3, xi p2, xi p1, xi (2 : Int32), xj (((0 : Int64) + own_h p1 2) + own_h p2 2)])) rfl (by rw [hml]; rfl) (argsL := [xi (2 : Int32), xi p1, xi p2, xi p3, xi p4]) (rest := [xj (((0 : Int64) + own_h p1 2) + own_h p2 2)]) (lenOf pd6 rfl) rfl (by show 2 * 0 + _ ≤ _; exact Nat.le_of_eq rfl) (hb hby at_189) (fun _ _ => ⟨rfl, e15, (by decide : 3 + 0 ≤ _), (by decide : 9 + 0 ≤ _)⟩)
  dsimp only [Pt.U, Pt.locs, Pt.cells, Pt.slots] at X16 l16 y16 z16 st16 hQ16
  subst l16 y16 z16
  obtain ⟨rfl, Nq16, e16⟩ := hQ16
  have N16 := Fr.app N15 Nq16
  obtain ⟨T17, X17, e17, st17⟩ := getS2 X16 hx hZ hown (host := "") (Or.inl (ww hw 7 rfl)) Via.refl e16 ((own_S_u1 G).ext O7.2) (g := (mkF m 198 #[vi p1, vi p2, vi p3, vi p4, vi (1 : Int32), vi (1 : Int32), vi (0 : Int32), vr va1, vr va2, vr va3, vr b4, vj (2 : Int64), .second] [xr b4])) rfl (hb hby at_198)
  obtain ⟨cq18, kq18, qa18, qb18, qc18⟩ := isOf hZ e17 X_b4_7
  obtain ⟨_, _, ⟨T18, L18, k18, n18⟩, -, X18, ⟨Lc18, hQ18, l18, y18, z18⟩, st18⟩ := X17.virtualBack hx (y := Y7) (z := Y7) hown (mvT hZ (ww hw 53 rfl)) (mvT hZ (ww hw 54 rfl)) (notFace_of_selects (args := #[]) (mvT hZ (ww hw 56 rfl))) (mvT hZ (ww hw 56 rfl)) (mvT hZ (ww hw 55 rfl)) (by decide) (backOf (W := 0) (own_count3 l Z a0 hw u0 u1 u2 u3 u4 G b4 bb5 kk5 (((0 : Int64) + own_h p1 0) + own_h p2 0) (((0 : Int64) + own_h p1 1) + own_h p2 1) (((0 : Int64) + own_h p1 2) + own_h p2 2) (((0 : Int64) + own_h p1 3) + own_h p2 3) h7 n0 O7 ⟨X_b4_7, F_b4_counts_7, Vn7, nb5, g_b4, g_bb5⟩ []) hZ (ww hw 57 rfl) (ww hw 13 rfl) (by decide) (by decide)) qa18 qc18 (g := (mkF m 201 #[vi p1, vi p2, vi p3, vi p4, vi (1 : Int32), vi (1 : Int32), vi (0 : Int32), vr va1, vr va2, vr va3, vr b4, vj (2 : Int64), .second] [xr u1, xr b4])) rfl (by rw [hml]; rfl) (Steps.refl _) (argsL := [xr u1]) (rest := []) (lenOf pd4 rfl) rfl (by show 2 * 0 + _ ≤ _; exact Nat.le_of_eq rfl) (hb hby at_201) (fun _ _ => ⟨rfl, e17, (by decide : 3 + 0 ≤ _), (by decide : 9 + 0 ≤ _)⟩)
  dsimp only [Pt.U, Pt.locs, Pt.cells, Pt.slots] at X18 l18 y18 z18 st18 hQ18
  subst l18 y18 z18
  obtain ⟨rfl, Nq18, e18⟩ := hQ18
  have N18 := Fr.app N16 Nq18
  obtain ⟨_, _, ⟨T19, L19, k19, n19⟩, -, X19, ⟨Lc19, hQ19, l19, y19, z19⟩, st19⟩ := Jvm.LawKit.callS X18 hx (y := Y9) hown (mvT hZ (ww hw 58 rfl)) (mvT hZ (ww hw 59 rfl)) (mvT hZ (ww hw 2 rfl)) (mvT hZ (ww hw 60 rfl)) (by decide) (backOf (W := 2) (own_c31_expected l Z a0 hw u0 u1 u2 u3 u4 G p1 p2 p3 p4 as7 as9 as10 h7 n0 O7 []) hZ (ww hw 60 rfl) (ww hw 2 rfl) (by decide) (by decide)) (g := (mkF m 209 #[vi p1, vi p2, vi p3, vi p4, vi (1 : Int32), vi (1 : Int32), vi (0 : Int32), vr va1, vr va2, vr va3, vr b4, vj (2 : Int64), .second] [xi p4, xi p3, xi p2, xi p1, xi (3 : Int32), xj (((0 : Int64) + own_h p1 3) + own_h p2 3)])) rfl (by rw [hml]; rfl) (argsL := [xi (3 : Int32), xi p1, xi p2, xi p3, xi p4]) (rest := [xj (((0 : Int64) + own_h p1 3) + own_h p2 3)]) (lenOf pd6 rfl) rfl (by show 2 * 0 + _ ≤ _; exact Nat.le_of_eq rfl) (hb hby at_209) (fun _ _ => ⟨rfl, e18, (by decide : 3 + 0 ≤ _), (by decide : 9 + 0 ≤ _)⟩)
  dsimp only [Pt.U, Pt.locs, Pt.cells, Pt.slots] at X19 l19 y19 z19 st19 hQ19
  subst l19 y19 z19
  obtain ⟨rfl, Nq19, e19⟩ := hQ19
  have N19 := Fr.app N18 Nq19
  obtain ⟨cq20, kq20, qa20, qb20, qc20⟩ := isOf hZ e19 X_b4_7
  obtain ⟨_, _, ⟨T20, L20, k20, n20⟩, -, X20, ⟨Lc20, hQ20, l20, y20, z20⟩, st20⟩ := X19.virtualBack hx (y := Y8) (z := Y8) hown (mvT hZ (ww hw 65 rfl)) (mvT hZ (ww hw 66 rfl)) (notFace_of_selects (args := #[]) (mvT hZ (ww hw 68 rfl))) (mvT hZ (ww hw 68 rfl)) (mvT hZ (ww hw 67 rfl)) (by decide) (backOf (W := 0) (own_records l Z a0 hw u0 u1 u2 u3 u4 G b4 bb5 kk5 (((0 : Int64) + own_h p1 0) + own_h p2 0) (((0 : Int64) + own_h p1 1) + own_h p2 1) (((0 : Int64) + own_h p1 2) + own_h p2 2) (((0 : Int64) + own_h p1 3) + own_h p2 3) h7 n0 O7 ⟨X_b4_7, F_b4_counts_7, Vn7, nb5, g_b4, g_bb5⟩ []) hZ (ww hw 69 rfl) (ww hw 13 rfl) (by decide) (by decide)) qa20 qc20 (g := (mkF m 218 #[vi p1, vi p2, vi p3, vi p4, vi (1 : Int32), vi (1 : Int32), vi (0 : Int32), vr va1, vr va2, vr va3, vr b4, vj (2 : Int64), .second] [xr b4])) rfl (by rw [hml]; rfl) (Steps.refl _) (argsL := []) (rest := []) (lenOf pd7 rfl) rfl (by show 2 * 0 + _ ≤ _; exact Nat.le_of_eq rfl) (hb hby at_218) (fun _ _ => ⟨rfl, e19, (by decide : 3 + 0 ≤ _), (by decide : 9 + 0 ≤ _)⟩)
  dsimp only [Pt.U, Pt.locs, Pt.cells, Pt.slots] at X20 l20 y20 z20 st20 hQ20
  subst l20 y20 z20
  obtain ⟨rfl, Nq20, e20⟩ := hQ20
  have N20 := Fr.app N19 Nq20
  obtain ⟨fs, hr, hrun, hended, hW, hsame⟩ := X20.leave (v := some (xi (1 : Int32))) (fun h => by rw [Bd.returns] at h; cases h)
  refine ⟨_, _, pre0 _ ?_, hrun, hended, _, _, rfl, ?_, ⟨_, rfl⟩, hW, hsame.mono (by decide) (by decide)⟩
  · show own_S p e below s₁ (mkF m 0 #[vi p1, vi p2, vi p3, vi p4, vu, vu, vu, vu, vu, vu, vu, vu, vu] []) _
    refine XS.iloadN X0.here hx rfl (hb hby at_0) rfl ?_
    show own_S p e below s₁ (mkF m 1 #[vi p1, vi p2, vi p3, vi p4, vu, vu, vu, vu, vu, vu, vu, vu, vu] [xi p4]) _
    refine XS.iconst X0.here hx rfl (hb hby at_1) ?_
    show own_S p e below s₁ (mkF m 2 #[vi p1, vi p2, vi p3, vi p4, vu, vu, vu, vu, vu, vu, vu, vu, vu] [xi (1 : Int32), xi p4]) _
    refine XS.iand X0.here hx rfl (hb hby at_2) rfl ?_
    show own_S p e below s₁ (mkF m 3 #[vi p1, vi p2, vi p3, vi p4, vu, vu, vu, vu, vu, vu, vu, vu, vu] [xi (p4 &&& (1 : Int32))]) _
    refine castTop (show (mkF m 3 #[vi p1, vi p2, vi p3, vi p4, vu, vu, vu, vu, vu, vu, vu, vu, vu] [xi (p4 &&& (1 : Int32))]) = (mkF m 3 #[vi p1, vi p2, vi p3, vi p4, vu, vu, vu, vu, vu, vu, vu, vu, vu] [xi (1 : Int32)]) from by rw [as7]) ?_
    show own_S p e below s₁ (mkF m 3 #[vi p1, vi p2, vi p3, vi p4, vu, vu, vu, vu, vu, vu, vu, vu, vu] [xi (1 : Int32)]) _
    refine XS.ifNo X0.here hx rfl (hb hby at_3) rfl (by decide) ?_
    show own_S p e below s₁ (mkF m 6 #[vi p1, vi p2, vi p3, vi p4, vu, vu, vu, vu, vu, vu, vu, vu, vu] []) _
    refine XS.iconst X0.here hx rfl (hb hby at_6) ?_
    show own_S p e below s₁ (mkF m 7 #[vi p1, vi p2, vi p3, vi p4, vu, vu, vu, vu, vu, vu, vu, vu, vu] [xi (1 : Int32)]) _
    refine XS.goto X0.here hx rfl (pc0 := 7) (pc' := 11) rfl (hb hby at_7) (by decide) (by decide) ?_
    show own_S p e below s₁ (mkF m 11 #[vi p1, vi p2, vi p3, vi p4, vu, vu, vu, vu, vu, vu, vu, vu, vu] [xi (1 : Int32)]) _
    refine XS.istore X0.here hx rfl (hb hby at_11) rfl (l' := #[vi p1, vi p2, vi p3, vi p4, vi (1 : Int32), vu, vu, vu, vu, vu, vu, vu, vu]) rfl ?_
    show own_S p e below s₁ (mkF m 13 #[vi p1, vi p2, vi p3, vi p4, vi (1 : Int32), vu, vu, vu, vu, vu, vu, vu, vu] []) _
    refine XS.iloadN X0.here hx rfl (hb hby at_13) rfl ?_
    show own_S p e below s₁ (mkF m 14 #[vi p1, vi p2, vi p3, vi p4, vi (1 : Int32), vu, vu, vu, vu, vu, vu, vu, vu] [xi p4]) _
    refine XS.iconst X0.here hx rfl (hb hby at_14) ?_
    show own_S p e below s₁ (mkF m 15 #[vi p1, vi p2, vi p3, vi p4, vi (1 : Int32), vu, vu, vu, vu, vu, vu, vu, vu] [xi (2 : Int32), xi p4]) _
    refine XS.iand X0.here hx rfl (hb hby at_15) rfl ?_
    show own_S p e below s₁ (mkF m 16 #[vi p1, vi p2, vi p3, vi p4, vi (1 : Int32), vu, vu, vu, vu, vu, vu, vu, vu] [xi (p4 &&& (2 : Int32))]) _
    refine castTop (show (mkF m 16 #[vi p1, vi p2, vi p3, vi p4, vi (1 : Int32), vu, vu, vu, vu, vu, vu, vu, vu] [xi (p4 &&& (2 : Int32))]) = (mkF m 16 #[vi p1, vi p2, vi p3, vi p4, vi (1 : Int32), vu, vu, vu, vu, vu, vu, vu, vu] [xi (2 : Int32)]) from by rw [as9]) ?_
    show own_S p e below s₁ (mkF m 16 #[vi p1, vi p2, vi p3, vi p4, vi (1 : Int32), vu, vu, vu, vu, vu, vu, vu, vu] [xi (2 : Int32)]) _
    refine XS.ifNo X0.here hx rfl (hb hby at_16) rfl (by decide) ?_
    show own_S p e below s₁ (mkF m 19 #[vi p1, vi p2, vi p3, vi p4, vi (1 : Int32), vu, vu, vu, vu, vu, vu, vu, vu] []) _
    refine XS.iconst X0.here hx rfl (hb hby at_19) ?_
    show own_S p e below s₁ (mkF m 20 #[vi p1, vi p2, vi p3, vi p4, vi (1 : Int32), vu, vu, vu, vu, vu, vu, vu, vu] [xi (1 : Int32)]) _
    refine XS.goto X0.here hx rfl (pc0 := 20) (pc' := 24) rfl (hb hby at_20) (by decide) (by decide) ?_
    show own_S p e below s₁ (mkF m 24 #[vi p1, vi p2, vi p3, vi p4, vi (1 : Int32), vu, vu, vu, vu, vu, vu, vu, vu] [xi (1 : Int32)]) _
    refine XS.istore X0.here hx rfl (hb hby at_24) rfl (l' := #[vi p1, vi p2, vi p3, vi p4, vi (1 : Int32), vi (1 : Int32), vu, vu, vu, vu, vu, vu, vu]) rfl ?_
    show own_S p e below s₁ (mkF m 26 #[vi p1, vi p2, vi p3, vi p4, vi (1 : Int32), vi (1 : Int32), vu, vu, vu, vu, vu, vu, vu] []) _
    refine XS.iloadN X0.here hx rfl (hb hby at_26) rfl ?_
    show own_S p e below s₁ (mkF m 27 #[vi p1, vi p2, vi p3, vi p4, vi (1 : Int32), vi (1 : Int32), vu, vu, vu, vu, vu, vu, vu] [xi p4]) _
    refine XS.iconst X0.here hx rfl (hb hby at_27) ?_
    show own_S p e below s₁ (mkF m 28 #[vi p1, vi p2, vi p3, vi p4, vi (1 : Int32), vi (1 : Int32), vu, vu, vu, vu, vu, vu, vu] [xi (4 : Int32), xi p4]) _
    refine XS.iand X0.here hx rfl (hb hby at_28) rfl ?_
    show own_S p e below s₁ (mkF m 29 #[vi p1, vi p2, vi p3, vi p4, vi (1 : Int32), vi (1 : Int32), vu, vu, vu, vu, vu, vu, vu] [xi (p4 &&& (4 : Int32))]) _
    refine castTop (show (mkF m 29 #[vi p1, vi p2, vi p3, vi p4, vi (1 : Int32), vi (1 : Int32), vu, vu, vu, vu, vu, vu, vu] [xi (p4 &&& (4 : Int32))]) = (mkF m 29 #[vi p1, vi p2, vi p3, vi p4, vi (1 : Int32), vi (1 : Int32), vu, vu, vu, vu, vu, vu, vu] [xi (0 : Int32)]) from by rw [as10]) ?_
    show own_S p e below s₁ (mkF m 29 #[vi p1, vi p2, vi p3, vi p4, vi (1 : Int32), vi (1 : Int32), vu, vu, vu, vu, vu, vu, vu] [xi (0 : Int32)]) _
    refine XS.ifYes X0.here hx rfl (pc0 := 29) (pc' := 36) rfl (hb hby at_29) rfl (by decide) (by decide) (by decide) ?_
    show own_S p e below s₁ (mkF m 36 #[vi p1, vi p2, vi p3, vi p4, vi (1 : Int32), vi (1 : Int32), vu, vu, vu, vu, vu, vu, vu] []) _
    refine XS.iconst X0.here hx rfl (hb hby at_36) ?_
    show own_S p e below s₁ (mkF m 37 #[vi p1, vi p2, vi p3, vi p4, vi (1 : Int32), vi (1 : Int32), vu, vu, vu, vu, vu, vu, vu] [xi (0 : Int32)]) _
    refine XS.istore X0.here hx rfl (hb hby at_37) rfl (l' := #[vi p1, vi p2, vi p3, vi p4, vi (1 : Int32), vi (1 : Int32), vi (0 : Int32), vu, vu, vu, vu, vu, vu]) rfl ?_
    show own_S p e below s₁ (mkF m 39 #[vi p1, vi p2, vi p3, vi p4, vi (1 : Int32), vi (1 : Int32), vi (0 : Int32), vu, vu, vu, vu, vu, vu] []) _
    refine XS.iloadN X0.here hx rfl (hb hby at_39) rfl ?_
    show own_S p e below s₁ (mkF m 40 #[vi p1, vi p2, vi p3, vi p4, vi (1 : Int32), vi (1 : Int32), vi (0 : Int32), vu, vu, vu, vu, vu, vu] [xi p1]) _
    refine st1 _ ?_
    show own_S p e below T1 (mkF m 43 #[vi p1, vi p2, vi p3, vi p4, vi (1 : Int32), vi (1 : Int32), vi (0 : Int32), vu, vu, vu, vu, vu, vu] [xr va1]) _
    refine XS.astore X1.here hx rfl (hb hby at_43) rfl rfl (l' := #[vi p1, vi p2, vi p3, vi p4, vi (1 : Int32), vi (1 : Int32), vi (0 : Int32), vr va1, vu, vu, vu, vu, vu]) rfl ?_
    show own_S p e below T1 (mkF m 45 #[vi p1, vi p2, vi p3, vi p4, vi (1 : Int32), vi (1 : Int32), vi (0 : Int32), vr va1, vu, vu, vu, vu, vu] []) _
    refine XS.iloadN X1.here hx rfl (hb hby at_45) rfl ?_
    show own_S p e below T1 (mkF m 46 #[vi p1, vi p2, vi p3, vi p4, vi (1 : Int32), vi (1 : Int32), vi (0 : Int32), vr va1, vu, vu, vu, vu, vu] [xi p2]) _
    refine st2 _ ?_
    show own_S p e below T2 (mkF m 49 #[vi p1, vi p2, vi p3, vi p4, vi (1 : Int32), vi (1 : Int32), vi (0 : Int32), vr va1, vu, vu, vu, vu, vu] [xr va2]) _
    refine XS.astore X2.here hx rfl (hb hby at_49) rfl rfl (l' := #[vi p1, vi p2, vi p3, vi p4, vi (1 : Int32), vi (1 : Int32), vi (0 : Int32), vr va1, vr va2, vu, vu, vu, vu]) rfl ?_
    show own_S p e below T2 (mkF m 51 #[vi p1, vi p2, vi p3, vi p4, vi (1 : Int32), vi (1 : Int32), vi (0 : Int32), vr va1, vr va2, vu, vu, vu, vu] []) _
    refine XS.iloadN X2.here hx rfl (hb hby at_51) rfl ?_
    show own_S p e below T2 (mkF m 52 #[vi p1, vi p2, vi p3, vi p4, vi (1 : Int32), vi (1 : Int32), vi (0 : Int32), vr va1, vr va2, vu, vu, vu, vu] [xi p3]) _
    refine st3 _ ?_
    show own_S p e below T3 (mkF m 55 #[vi p1, vi p2, vi p3, vi p4, vi (1 : Int32), vi (1 : Int32), vi (0 : Int32), vr va1, vr va2, vu, vu, vu, vu] [xr va3]) _
    refine XS.astore X3.here hx rfl (hb hby at_55) rfl rfl (l' := #[vi p1, vi p2, vi p3, vi p4, vi (1 : Int32), vi (1 : Int32), vi (0 : Int32), vr va1, vr va2, vr va3, vu, vu, vu]) rfl ?_
    show own_S p e below T3 (mkF m 57 #[vi p1, vi p2, vi p3, vi p4, vi (1 : Int32), vi (1 : Int32), vi (0 : Int32), vr va1, vr va2, vr va3, vu, vu, vu] []) _
    refine st4 _ ?_
    show own_S p e below T4 (mkF m 60 #[vi p1, vi p2, vi p3, vi p4, vi (1 : Int32), vi (1 : Int32), vi (0 : Int32), vr va1, vr va2, vr va3, vu, vu, vu] [xr b4]) _
    refine XS.dup X4.here hx rfl (hb hby at_60) rfl rfl ?_
    show own_S p e below T4 (mkF m 61 #[vi p1, vi p2, vi p3, vi p4, vi (1 : Int32), vi (1 : Int32), vi (0 : Int32), vr va1, vr va2, vr va3, vu, vu, vu] [xr b4, xr b4]) _
    refine st5.trans ?_
    show own_S p e below T5 (mkF m 64 #[vi p1, vi p2, vi p3, vi p4, vi (1 : Int32), vi (1 : Int32), vi (0 : Int32), vr va1, vr va2, vr va3, vu, vu, vu] [xr b4]) _
    refine XS.astore X5.here hx rfl (hb hby at_64) rfl rfl (l' := #[vi p1, vi p2, vi p3, vi p4, vi (1 : Int32), vi (1 : Int32), vi (0 : Int32), vr va1, vr va2, vr va3, vr b4, vu, vu]) rfl ?_
    show own_S p e below T5 (mkF m 66 #[vi p1, vi p2, vi p3, vi p4, vi (1 : Int32), vi (1 : Int32), vi (0 : Int32), vr va1, vr va2, vr va3, vr b4, vu, vu] []) _
    refine XS.iload X5.here hx rfl (hb hby at_66) rfl ?_
    show own_S p e below T5 (mkF m 68 #[vi p1, vi p2, vi p3, vi p4, vi (1 : Int32), vi (1 : Int32), vi (0 : Int32), vr va1, vr va2, vr va3, vr b4, vu, vu] [xi (1 : Int32)]) _
    refine XS.ifNo X5.here hx rfl (hb hby at_68) rfl (by decide) ?_
    show own_S p e below T5 (mkF m 71 #[vi p1, vi p2, vi p3, vi p4, vi (1 : Int32), vi (1 : Int32), vi (0 : Int32), vr va1, vr va2, vr va3, vr b4, vu, vu] []) _
    refine XS.aload X5.here hx rfl (hb hby at_71) rfl rfl ?_
    show own_S p e below T5 (mkF m 73 #[vi p1, vi p2, vi p3, vi p4, vi (1 : Int32), vi (1 : Int32), vi (0 : Int32), vr va1, vr va2, vr va3, vr b4, vu, vu] [xr b4]) _
    refine XS.aload X5.here hx rfl (hb hby at_73) rfl rfl ?_
    show own_S p e below T5 (mkF m 75 #[vi p1, vi p2, vi p3, vi p4, vi (1 : Int32), vi (1 : Int32), vi (0 : Int32), vr va1, vr va2, vr va3, vr b4, vu, vu] [xr va1, xr b4]) _
    refine st6.trans ?_
    show own_S p e below T6 (mkF m 78 #[vi p1, vi p2, vi p3, vi p4, vi (1 : Int32), vi (1 : Int32), vi (0 : Int32), vr va1, vr va2, vr va3, vr b4, vu, vu] []) _
    refine XS.iload X6.here hx rfl (hb hby at_78) rfl ?_
    show own_S p e below T6 (mkF m 80 #[vi p1, vi p2, vi p3, vi p4, vi (1 : Int32), vi (1 : Int32), vi (0 : Int32), vr va1, vr va2, vr va3, vr b4, vu, vu] [xi (1 : Int32)]) _
    refine XS.ifNo X6.here hx rfl (hb hby at_80) rfl (by decide) ?_
    show own_S p e below T6 (mkF m 83 #[vi p1, vi p2, vi p3, vi p4, vi (1 : Int32), vi (1 : Int32), vi (0 : Int32), vr va1, vr va2, vr va3, vr b4, vu, vu] []) _
    refine XS.aload X6.here hx rfl (hb hby at_83) rfl rfl ?_
    show own_S p e below T6 (mkF m 85 #[vi p1, vi p2, vi p3, vi p4, vi (1 : Int32), vi (1 : Int32), vi (0 : Int32), vr va1, vr va2, vr va3, vr b4, vu, vu] [xr b4]) _
    refine XS.aload X6.here hx rfl (hb hby at_85) rfl rfl ?_
    show own_S p e below T6 (mkF m 87 #[vi p1, vi p2, vi p3, vi p4, vi (1 : Int32), vi (1 : Int32), vi (0 : Int32), vr va1, vr va2, vr va3, vr b4, vu, vu] [xr va2, xr b4]) _
    refine st7.trans ?_
    show own_S p e below T7 (mkF m 90 #[vi p1, vi p2, vi p3, vi p4, vi (1 : Int32), vi (1 : Int32), vi (0 : Int32), vr va1, vr va2, vr va3, vr b4, vu, vu] []) _
    refine XS.iload X7.here hx rfl (hb hby at_90) rfl ?_
    show own_S p e below T7 (mkF m 92 #[vi p1, vi p2, vi p3, vi p4, vi (1 : Int32), vi (1 : Int32), vi (0 : Int32), vr va1, vr va2, vr va3, vr b4, vu, vu] [xi (0 : Int32)]) _
    refine XS.ifYes X7.here hx rfl (pc0 := 92) (pc' := 102) rfl (hb hby at_92) rfl (by decide) (by decide) (by decide) ?_
    show own_S p e below T7 (mkF m 102 #[vi p1, vi p2, vi p3, vi p4, vi (1 : Int32), vi (1 : Int32), vi (0 : Int32), vr va1, vr va2, vr va3, vr b4, vu, vu] []) _
    refine XS.iload X7.here hx rfl (hb hby at_102) rfl ?_
    show own_S p e below T7 (mkF m 104 #[vi p1, vi p2, vi p3, vi p4, vi (1 : Int32), vi (1 : Int32), vi (0 : Int32), vr va1, vr va2, vr va3, vr b4, vu, vu] [xi (1 : Int32)]) _
    refine XS.ifNo X7.here hx rfl (hb hby at_104) rfl (by decide) ?_
    show own_S p e below T7 (mkF m 107 #[vi p1, vi p2, vi p3, vi p4, vi (1 : Int32), vi (1 : Int32), vi (0 : Int32), vr va1, vr va2, vr va3, vr b4, vu, vu] []) _
    refine XS.lconst X7.here hx rfl (hb hby at_107) ?_
    show own_S p e below T7 (mkF m 108 #[vi p1, vi p2, vi p3, vi p4, vi (1 : Int32), vi (1 : Int32), vi (0 : Int32), vr va1, vr va2, vr va3, vr b4, vu, vu] [xj (1 : Int64)]) _
    refine XS.goto X7.here hx rfl (pc0 := 108) (pc' := 112) rfl (hb hby at_108) (by decide) (by decide) ?_
    show own_S p e below T7 (mkF m 112 #[vi p1, vi p2, vi p3, vi p4, vi (1 : Int32), vi (1 : Int32), vi (0 : Int32), vr va1, vr va2, vr va3, vr b4, vu, vu] [xj (1 : Int64)]) _
    refine XS.iload X7.here hx rfl (hb hby at_112) rfl ?_
    show own_S p e below T7 (mkF m 114 #[vi p1, vi p2, vi p3, vi p4, vi (1 : Int32), vi (1 : Int32), vi (0 : Int32), vr va1, vr va2, vr va3, vr b4, vu, vu] [xi (1 : Int32), xj (1 : Int64)]) _
    refine XS.ifNo X7.here hx rfl (hb hby at_114) rfl (by decide) ?_
    show own_S p e below T7 (mkF m 117 #[vi p1, vi p2, vi p3, vi p4, vi (1 : Int32), vi (1 : Int32), vi (0 : Int32), vr va1, vr va2, vr va3, vr b4, vu, vu] [xj (1 : Int64)]) _
    refine XS.lconst X7.here hx rfl (hb hby at_117) ?_
    show own_S p e below T7 (mkF m 118 #[vi p1, vi p2, vi p3, vi p4, vi (1 : Int32), vi (1 : Int32), vi (0 : Int32), vr va1, vr va2, vr va3, vr b4, vu, vu] [xj (1 : Int64), xj (1 : Int64)]) _
    refine XS.goto X7.here hx rfl (pc0 := 118) (pc' := 122) rfl (hb hby at_118) (by decide) (by decide) ?_
    show own_S p e below T7 (mkF m 122 #[vi p1, vi p2, vi p3, vi p4, vi (1 : Int32), vi (1 : Int32), vi (0 : Int32), vr va1, vr va2, vr va3, vr b4, vu, vu] [xj (1 : Int64), xj (1 : Int64)]) _
    refine XS.ladd X7.here hx rfl (hb hby at_122) rfl ?_
    show own_S p e below T7 (mkF m 123 #[vi p1, vi p2, vi p3, vi p4, vi (1 : Int32), vi (1 : Int32), vi (0 : Int32), vr va1, vr va2, vr va3, vr b4, vu, vu] [xj ((1 : Int64) + (1 : Int64))]) _
    refine castTop (show (mkF m 123 #[vi p1, vi p2, vi p3, vi p4, vi (1 : Int32), vi (1 : Int32), vi (0 : Int32), vr va1, vr va2, vr va3, vr b4, vu, vu] [xj ((1 : Int64) + (1 : Int64))]) = (mkF m 123 #[vi p1, vi p2, vi p3, vi p4, vi (1 : Int32), vi (1 : Int32), vi (0 : Int32), vr va1, vr va2, vr va3, vr b4, vu, vu] [xj (2 : Int64)]) from by rw [show ((1 : Int64) + (1 : Int64)) = (2 : Int64) from by decide]) ?_
    show own_S p e below T7 (mkF m 123 #[vi p1, vi p2, vi p3, vi p4, vi (1 : Int32), vi (1 : Int32), vi (0 : Int32), vr va1, vr va2, vr va3, vr b4, vu, vu] [xj (2 : Int64)]) _
    refine XS.iload X7.here hx rfl (hb hby at_123) rfl ?_
    show own_S p e below T7 (mkF m 125 #[vi p1, vi p2, vi p3, vi p4, vi (1 : Int32), vi (1 : Int32), vi (0 : Int32), vr va1, vr va2, vr va3, vr b4, vu, vu] [xi (0 : Int32), xj (2 : Int64)]) _
    refine XS.ifYes X7.here hx rfl (pc0 := 125) (pc' := 132) rfl (hb hby at_125) rfl (by decide) (by decide) (by decide) ?_
    show own_S p e below T7 (mkF m 132 #[vi p1, vi p2, vi p3, vi p4, vi (1 : Int32), vi (1 : Int32), vi (0 : Int32), vr va1, vr va2, vr va3, vr b4, vu, vu] [xj (2 : Int64)]) _
    refine XS.lconst X7.here hx rfl (hb hby at_132) ?_
    show own_S p e below T7 (mkF m 133 #[vi p1, vi p2, vi p3, vi p4, vi (1 : Int32), vi (1 : Int32), vi (0 : Int32), vr va1, vr va2, vr va3, vr b4, vu, vu] [xj (0 : Int64), xj (2 : Int64)]) _
    refine XS.ladd X7.here hx rfl (hb hby at_133) rfl ?_
    show own_S p e below T7 (mkF m 134 #[vi p1, vi p2, vi p3, vi p4, vi (1 : Int32), vi (1 : Int32), vi (0 : Int32), vr va1, vr va2, vr va3, vr b4, vu, vu] [xj ((2 : Int64) + (0 : Int64))]) _
    refine castTop (show (mkF m 134 #[vi p1, vi p2, vi p3, vi p4, vi (1 : Int32), vi (1 : Int32), vi (0 : Int32), vr va1, vr va2, vr va3, vr b4, vu, vu] [xj ((2 : Int64) + (0 : Int64))]) = (mkF m 134 #[vi p1, vi p2, vi p3, vi p4, vi (1 : Int32), vi (1 : Int32), vi (0 : Int32), vr va1, vr va2, vr va3, vr b4, vu, vu] [xj (2 : Int64)]) from by rw [show ((2 : Int64) + (0 : Int64)) = (2 : Int64) from by decide]) ?_
    show own_S p e below T7 (mkF m 134 #[vi p1, vi p2, vi p3, vi p4, vi (1 : Int32), vi (1 : Int32), vi (0 : Int32), vr va1, vr va2, vr va3, vr b4, vu, vu] [xj (2 : Int64)]) _
    refine XS.lstore X7.here hx rfl (hb hby at_134) rfl (l' := #[vi p1, vi p2, vi p3, vi p4, vi (1 : Int32), vi (1 : Int32), vi (0 : Int32), vr va1, vr va2, vr va3, vr b4, vj (2 : Int64), .second]) rfl ?_
    show own_S p e below T7 (mkF m 136 #[vi p1, vi p2, vi p3, vi p4, vi (1 : Int32), vi (1 : Int32), vi (0 : Int32), vr va1, vr va2, vr va3, vr b4, vj (2 : Int64), .second] []) _
    refine XS.aload X7.here hx rfl (hb hby at_136) rfl rfl ?_
    show own_S p e below T7 (mkF m 138 #[vi p1, vi p2, vi p3, vi p4, vi (1 : Int32), vi (1 : Int32), vi (0 : Int32), vr va1, vr va2, vr va3, vr b4, vj (2 : Int64), .second] [xr b4]) _
    refine st8 _ ?_
    show own_S p e below T8 (mkF m 141 #[vi p1, vi p2, vi p3, vi p4, vi (1 : Int32), vi (1 : Int32), vi (0 : Int32), vr va1, vr va2, vr va3, vr b4, vj (2 : Int64), .second] [xr u0, xr b4]) _
    refine st9.trans ?_
    show own_S p e below T9 (mkF m 144 #[vi p1, vi p2, vi p3, vi p4, vi (1 : Int32), vi (1 : Int32), vi (0 : Int32), vr va1, vr va2, vr va3, vr b4, vj (2 : Int64), .second] [xj (((0 : Int64) + own_h p1 0) + own_h p2 0)]) _
    refine XS.iconst X9.here hx rfl (hb hby at_144) ?_
    show own_S p e below T9 (mkF m 145 #[vi p1, vi p2, vi p3, vi p4, vi (1 : Int32), vi (1 : Int32), vi (0 : Int32), vr va1, vr va2, vr va3, vr b4, vj (2 : Int64), .second] [xi (0 : Int32), xj (((0 : Int64) + own_h p1 0) + own_h p2 0)]) _
    refine XS.iloadN X9.here hx rfl (hb hby at_145) rfl ?_
    show own_S p e below T9 (mkF m 146 #[vi p1, vi p2, vi p3, vi p4, vi (1 : Int32), vi (1 : Int32), vi (0 : Int32), vr va1, vr va2, vr va3, vr b4, vj (2 : Int64), .second] [xi p1, xi (0 : Int32), xj (((0 : Int64) + own_h p1 0) + own_h p2 0)]) _
    refine XS.iloadN X9.here hx rfl (hb hby at_146) rfl ?_
    show own_S p e below T9 (mkF m 147 #[vi p1, vi p2, vi p3, vi p4, vi (1 : Int32), vi (1 : Int32), vi (0 : Int32), vr va1, vr va2, vr va3, vr b4, vj (2 : Int64), .second] [xi p2, xi p1, xi (0 : Int32), xj (((0 : Int64) + own_h p1 0) + own_h p2 0)]) _
    refine XS.iloadN X9.here hx rfl (hb hby at_147) rfl ?_
    show own_S p e below T9 (mkF m 148 #[vi p1, vi p2, vi p3, vi p4, vi (1 : Int32), vi (1 : Int32), vi (0 : Int32), vr va1, vr va2, vr va3, vr b4, vj (2 : Int64), .second] [xi p3, xi p2, xi p1, xi (0 : Int32), xj (((0 : Int64) + own_h p1 0) + own_h p2 0)]) _
    refine XS.iloadN X9.here hx rfl (hb hby at_148) rfl ?_
    show own_S p e below T9 (mkF m 149 #[vi p1, vi p2, vi p3, vi p4, vi (1 : Int32), vi (1 : Int32), vi (0 : Int32), vr va1, vr va2, vr va3, vr b4, vj (2 : Int64), .second] [xi p4, xi p3, xi p2, xi p1, xi (0 : Int32), xj (((0 : Int64) + own_h p1 0) + own_h p2 0)]) _
    refine st10 _ ?_
    show own_S p e below T10 (mkF m 152 #[vi p1, vi p2, vi p3, vi p4, vi (1 : Int32), vi (1 : Int32), vi (0 : Int32), vr va1, vr va2, vr va3, vr b4, vj (2 : Int64), .second] [xj (((own_h p1 (0 : Int32)) + (own_h p2 (0 : Int32))) + (0 : Int64)), xj (((0 : Int64) + own_h p1 0) + own_h p2 0)]) _
    refine XS.lcmp X10.here hx rfl (hb hby at_152) rfl ?_
    show own_S p e below T10 (mkF m 153 #[vi p1, vi p2, vi p3, vi p4, vi (1 : Int32), vi (1 : Int32), vi (0 : Int32), vr va1, vr va2, vr va3, vr b4, vj (2 : Int64), .second] [xi (lcmpW (((0 : Int64) + own_h p1 0) + own_h p2 0) (((own_h p1 (0 : Int32)) + (own_h p2 (0 : Int32))) + (0 : Int64)))]) _
    show own_S p e below T10 (mkF m 153 #[vi p1, vi p2, vi p3, vi p4, vi (1 : Int32), vi (1 : Int32), vi (0 : Int32), vr va1, vr va2, vr va3, vr b4, vj (2 : Int64), .second] [xi (lcmpW (((0 : Int64) + own_h p1 0) + own_h p2 0) (((own_h p1 (0 : Int32)) + (own_h p2 (0 : Int32))) + (0 : Int64)))]) _
    refine XS.ifNo X10.here hx rfl (hb hby at_153) rfl (by simp [lcmpW, ifCond.holds, Int64.zero_add, Int64.add_zero]) ?_
    show own_S p e below T10 (mkF m 156 #[vi p1, vi p2, vi p3, vi p4, vi (1 : Int32), vi (1 : Int32), vi (0 : Int32), vr va1, vr va2, vr va3, vr b4, vj (2 : Int64), .second] []) _
    refine XS.aload X10.here hx rfl (hb hby at_156) rfl rfl ?_
    show own_S p e below T10 (mkF m 158 #[vi p1, vi p2, vi p3, vi p4, vi (1 : Int32), vi (1 : Int32), vi (0 : Int32), vr va1, vr va2, vr va3, vr b4, vj (2 : Int64), .second] [xr b4]) _
    refine st11 _ ?_
    show own_S p e below T11 (mkF m 161 #[vi p1, vi p2, vi p3, vi p4, vi (1 : Int32), vi (1 : Int32), vi (0 : Int32), vr va1, vr va2, vr va3, vr b4, vj (2 : Int64), .second] [xr u4, xr b4]) _
    refine st12.trans ?_
    show own_S p e below T12 (mkF m 164 #[vi p1, vi p2, vi p3, vi p4, vi (1 : Int32), vi (1 : Int32), vi (0 : Int32), vr va1, vr va2, vr va3, vr b4, vj (2 : Int64), .second] [xj (((0 : Int64) + own_h p1 1) + own_h p2 1)]) _
    refine XS.iconst X12.here hx rfl (hb hby at_164) ?_
    show own_S p e below T12 (mkF m 165 #[vi p1, vi p2, vi p3, vi p4, vi (1 : Int32), vi (1 : Int32), vi (0 : Int32), vr va1, vr va2, vr va3, vr b4, vj (2 : Int64), .second] [xi (1 : Int32), xj (((0 : Int64) + own_h p1 1) + own_h p2 1)]) _
    refine XS.iloadN X12.here hx rfl (hb hby at_165) rfl ?_
    show own_S p e below T12 (mkF m 166 #[vi p1, vi p2, vi p3, vi p4, vi (1 : Int32), vi (1 : Int32), vi (0 : Int32), vr va1, vr va2, vr va3, vr b4, vj (2 : Int64), .second] [xi p1, xi (1 : Int32), xj (((0 : Int64) + own_h p1 1) + own_h p2 1)]) _
    refine XS.iloadN X12.here hx rfl (hb hby at_166) rfl ?_
    show own_S p e below T12 (mkF m 167 #[vi p1, vi p2, vi p3, vi p4, vi (1 : Int32), vi (1 : Int32), vi (0 : Int32), vr va1, vr va2, vr va3, vr b4, vj (2 : Int64), .second] [xi p2, xi p1, xi (1 : Int32), xj (((0 : Int64) + own_h p1 1) + own_h p2 1)]) _
    refine XS.iloadN X12.here hx rfl (hb hby at_167) rfl ?_
    show own_S p e below T12 (mkF m 168 #[vi p1, vi p2, vi p3, vi p4, vi (1 : Int32), vi (1 : Int32), vi (0 : Int32), vr va1, vr va2, vr va3, vr b4, vj (2 : Int64), .second] [xi p3, xi p2, xi p1, xi (1 : Int32), xj (((0 : Int64) + own_h p1 1) + own_h p2 1)]) _
    refine XS.iloadN X12.here hx rfl (hb hby at_168) rfl ?_
    show own_S p e below T12 (mkF m 169 #[vi p1, vi p2, vi p3, vi p4, vi (1 : Int32), vi (1 : Int32), vi (0 : Int32), vr va1, vr va2, vr va3, vr b4, vj (2 : Int64), .second] [xi p4, xi p3, xi p2, xi p1, xi (1 : Int32), xj (((0 : Int64) + own_h p1 1) + own_h p2 1)]) _
    refine st13 _ ?_
    show own_S p e below T13 (mkF m 172 #[vi p1, vi p2, vi p3, vi p4, vi (1 : Int32), vi (1 : Int32), vi (0 : Int32), vr va1, vr va2, vr va3, vr b4, vj (2 : Int64), .second] [xj (((own_h p1 (1 : Int32)) + (own_h p2 (1 : Int32))) + (0 : Int64)), xj (((0 : Int64) + own_h p1 1) + own_h p2 1)]) _
    refine XS.lcmp X13.here hx rfl (hb hby at_172) rfl ?_
    show own_S p e below T13 (mkF m 173 #[vi p1, vi p2, vi p3, vi p4, vi (1 : Int32), vi (1 : Int32), vi (0 : Int32), vr va1, vr va2, vr va3, vr b4, vj (2 : Int64), .second] [xi (lcmpW (((0 : Int64) + own_h p1 1) + own_h p2 1) (((own_h p1 (1 : Int32)) + (own_h p2 (1 : Int32))) + (0 : Int64)))]) _
    show own_S p e below T13 (mkF m 173 #[vi p1, vi p2, vi p3, vi p4, vi (1 : Int32), vi (1 : Int32), vi (0 : Int32), vr va1, vr va2, vr va3, vr b4, vj (2 : Int64), .second] [xi (lcmpW (((0 : Int64) + own_h p1 1) + own_h p2 1) (((own_h p1 (1 : Int32)) + (own_h p2 (1 : Int32))) + (0 : Int64)))]) _
    refine XS.ifNo X13.here hx rfl (hb hby at_173) rfl (by simp [lcmpW, ifCond.holds, Int64.zero_add, Int64.add_zero]) ?_
    show own_S p e below T13 (mkF m 176 #[vi p1, vi p2, vi p3, vi p4, vi (1 : Int32), vi (1 : Int32), vi (0 : Int32), vr va1, vr va2, vr va3, vr b4, vj (2 : Int64), .second] []) _
    refine XS.aload X13.here hx rfl (hb hby at_176) rfl rfl ?_
    show own_S p e below T13 (mkF m 178 #[vi p1, vi p2, vi p3, vi p4, vi (1 : Int32), vi (1 : Int32), vi (0 : Int32), vr va1, vr va2, vr va3, vr b4, vj (2 : Int64), .second] [xr b4]) _
    refine st14 _ ?_
    show own_S p e below T14 (mkF m 181 #[vi p1, vi p2, vi p3, vi p4, vi (1 : Int32), vi (1 : Int32), vi (0 : Int32), vr va1, vr va2, vr va3, vr b4, vj (2 : Int64), .second] [xr u2, xr b4]) _
    refine st15.trans ?_
    show own_S p e below T15 (mkF m 184 #[vi p1, vi p2, vi p3, vi p4, vi (1 : Int32), vi (1 : Int32), vi (0 : Int32), vr va1, vr va2, vr va3, vr b4, vj (2 : Int64), .second] [xj (((0 : Int64) + own_h p1 2) + own_h p2 2)]) _
    refine XS.iconst X15.here hx rfl (hb hby at_184) ?_
    show own_S p e below T15 (mkF m 185 #[vi p1, vi p2, vi p3, vi p4, vi (1 : Int32), vi (1 : Int32), vi (0 : Int32), vr va1, vr va2, vr va3, vr b4, vj (2 : Int64), .second] [xi (2 : Int32), xj (((0 : Int64) + own_h p1 2) + own_h p2 2)]) _
    refine XS.iloadN X15.here hx rfl (hb hby at_185) rfl ?_
    show own_S p e below T15 (mkF m 186 #[vi p1, vi p2, vi p3, vi p4, vi (1 : Int32), vi (1 : Int32), vi (0 : Int32), vr va1, vr va2, vr va3, vr b4, vj (2 : Int64), .second] [xi p1, xi (2 : Int32), xj (((0 : Int64) + own_h p1 2) + own_h p2 2)]) _
    refine XS.iloadN X15.here hx rfl (hb hby at_186) rfl ?_
    show own_S p e below T15 (mkF m 187 #[vi p1, vi p2, vi p3, vi p4, vi (1 : Int32), vi (1 : Int32), vi (0 : Int32), vr va1, vr va2, vr va3, vr b4, vj (2 : Int64), .second] [xi p2, xi p1, xi (2 : Int32), xj (((0 : Int64) + own_h p1 2) + own_h p2 2)]) _
    refine XS.iloadN X15.here hx rfl (hb hby at_187) rfl ?_
    show own_S p e below T15 (mkF m 188 #[vi p1, vi p2, vi p3, vi p4, vi (1 : Int32), vi (1 : Int32), vi (0 : Int32), vr va1, vr va2, vr va3, vr b4, vj (2 : Int64), .second] [xi p3, xi p2, xi p1, xi (2 : Int32), xj (((0 : Int64) + own_h p1 2) + own_h p2 2)]) _
    refine XS.iloadN X15.here hx rfl (hb hby at_188) rfl ?_
    show own_S p e below T15 (mkF m 189 #[vi p1, vi p2, vi p3, vi p4, vi (1 : Int32), vi (1 : Int32), vi (0 : Int32), vr va1, vr va2, vr va3, vr b4, vj (2 : Int64), .second] [xi p4, xi p3, xi p2, xi p1, xi (2 : Int32), xj (((0 : Int64) + own_h p1 2) + own_h p2 2)]) _
    refine st16 _ ?_
    show own_S p e below T16 (mkF m 192 #[vi p1, vi p2, vi p3, vi p4, vi (1 : Int32), vi (1 : Int32), vi (0 : Int32), vr va1, vr va2, vr va3, vr b4, vj (2 : Int64), .second] [xj (((own_h p1 (2 : Int32)) + (own_h p2 (2 : Int32))) + (0 : Int64)), xj (((0 : Int64) + own_h p1 2) + own_h p2 2)]) _
    refine XS.lcmp X16.here hx rfl (hb hby at_192) rfl ?_
    show own_S p e below T16 (mkF m 193 #[vi p1, vi p2, vi p3, vi p4, vi (1 : Int32), vi (1 : Int32), vi (0 : Int32), vr va1, vr va2, vr va3, vr b4, vj (2 : Int64), .second] [xi (lcmpW (((0 : Int64) + own_h p1 2) + own_h p2 2) (((own_h p1 (2 : Int32)) + (own_h p2 (2 : Int32))) + (0 : Int64)))]) _
    show own_S p e below T16 (mkF m 193 #[vi p1, vi p2, vi p3, vi p4, vi (1 : Int32), vi (1 : Int32), vi (0 : Int32), vr va1, vr va2, vr va3, vr b4, vj (2 : Int64), .second] [xi (lcmpW (((0 : Int64) + own_h p1 2) + own_h p2 2) (((own_h p1 (2 : Int32)) + (own_h p2 (2 : Int32))) + (0 : Int64)))]) _
    refine XS.ifNo X16.here hx rfl (hb hby at_193) rfl (by simp [lcmpW, ifCond.holds, Int64.zero_add, Int64.add_zero]) ?_
    show own_S p e below T16 (mkF m 196 #[vi p1, vi p2, vi p3, vi p4, vi (1 : Int32), vi (1 : Int32), vi (0 : Int32), vr va1, vr va2, vr va3, vr b4, vj (2 : Int64), .second] []) _
    refine XS.aload X16.here hx rfl (hb hby at_196) rfl rfl ?_
    show own_S p e below T16 (mkF m 198 #[vi p1, vi p2, vi p3, vi p4, vi (1 : Int32), vi (1 : Int32), vi (0 : Int32), vr va1, vr va2, vr va3, vr b4, vj (2 : Int64), .second] [xr b4]) _
    refine st17 _ ?_
    show own_S p e below T17 (mkF m 201 #[vi p1, vi p2, vi p3, vi p4, vi (1 : Int32), vi (1 : Int32), vi (0 : Int32), vr va1, vr va2, vr va3, vr b4, vj (2 : Int64), .second] [xr u1, xr b4]) _
    refine st18.trans ?_
    show own_S p e below T18 (mkF m 204 #[vi p1, vi p2, vi p3, vi p4, vi (1 : Int32), vi (1 : Int32), vi (0 : Int32), vr va1, vr va2, vr va3, vr b4, vj (2 : Int64), .second] [xj (((0 : Int64) + own_h p1 3) + own_h p2 3)]) _
    refine XS.iconst X18.here hx rfl (hb hby at_204) ?_
    show own_S p e below T18 (mkF m 205 #[vi p1, vi p2, vi p3, vi p4, vi (1 : Int32), vi (1 : Int32), vi (0 : Int32), vr va1, vr va2, vr va3, vr b4, vj (2 : Int64), .second] [xi (3 : Int32), xj (((0 : Int64) + own_h p1 3) + own_h p2 3)]) _
    refine XS.iloadN X18.here hx rfl (hb hby at_205) rfl ?_
    show own_S p e below T18 (mkF m 206 #[vi p1, vi p2, vi p3, vi p4, vi (1 : Int32), vi (1 : Int32), vi (0 : Int32), vr va1, vr va2, vr va3, vr b4, vj (2 : Int64), .second] [xi p1, xi (3 : Int32), xj (((0 : Int64) + own_h p1 3) + own_h p2 3)]) _
    refine XS.iloadN X18.here hx rfl (hb hby at_206) rfl ?_
    show own_S p e below T18 (mkF m 207 #[vi p1, vi p2, vi p3, vi p4, vi (1 : Int32), vi (1 : Int32), vi (0 : Int32), vr va1, vr va2, vr va3, vr b4, vj (2 : Int64), .second] [xi p2, xi p1, xi (3 : Int32), xj (((0 : Int64) + own_h p1 3) + own_h p2 3)]) _
    refine XS.iloadN X18.here hx rfl (hb hby at_207) rfl ?_
    show own_S p e below T18 (mkF m 208 #[vi p1, vi p2, vi p3, vi p4, vi (1 : Int32), vi (1 : Int32), vi (0 : Int32), vr va1, vr va2, vr va3, vr b4, vj (2 : Int64), .second] [xi p3, xi p2, xi p1, xi (3 : Int32), xj (((0 : Int64) + own_h p1 3) + own_h p2 3)]) _
    refine XS.iloadN X18.here hx rfl (hb hby at_208) rfl ?_
    show own_S p e below T18 (mkF m 209 #[vi p1, vi p2, vi p3, vi p4, vi (1 : Int32), vi (1 : Int32), vi (0 : Int32), vr va1, vr va2, vr va3, vr b4, vj (2 : Int64), .second] [xi p4, xi p3, xi p2, xi p1, xi (3 : Int32), xj (((0 : Int64) + own_h p1 3) + own_h p2 3)]) _
    refine st19 _ ?_
    show own_S p e below T19 (mkF m 212 #[vi p1, vi p2, vi p3, vi p4, vi (1 : Int32), vi (1 : Int32), vi (0 : Int32), vr va1, vr va2, vr va3, vr b4, vj (2 : Int64), .second] [xj (((own_h p1 (3 : Int32)) + (own_h p2 (3 : Int32))) + (0 : Int64)), xj (((0 : Int64) + own_h p1 3) + own_h p2 3)]) _
    refine XS.lcmp X19.here hx rfl (hb hby at_212) rfl ?_
    show own_S p e below T19 (mkF m 213 #[vi p1, vi p2, vi p3, vi p4, vi (1 : Int32), vi (1 : Int32), vi (0 : Int32), vr va1, vr va2, vr va3, vr b4, vj (2 : Int64), .second] [xi (lcmpW (((0 : Int64) + own_h p1 3) + own_h p2 3) (((own_h p1 (3 : Int32)) + (own_h p2 (3 : Int32))) + (0 : Int64)))]) _
    show own_S p e below T19 (mkF m 213 #[vi p1, vi p2, vi p3, vi p4, vi (1 : Int32), vi (1 : Int32), vi (0 : Int32), vr va1, vr va2, vr va3, vr b4, vj (2 : Int64), .second] [xi (lcmpW (((0 : Int64) + own_h p1 3) + own_h p2 3) (((own_h p1 (3 : Int32)) + (own_h p2 (3 : Int32))) + (0 : Int64)))]) _
    refine XS.ifNo X19.here hx rfl (hb hby at_213) rfl (by simp [lcmpW, ifCond.holds, Int64.zero_add, Int64.add_zero]) ?_
    show own_S p e below T19 (mkF m 216 #[vi p1, vi p2, vi p3, vi p4, vi (1 : Int32), vi (1 : Int32), vi (0 : Int32), vr va1, vr va2, vr va3, vr b4, vj (2 : Int64), .second] []) _
    refine XS.aload X19.here hx rfl (hb hby at_216) rfl rfl ?_
    show own_S p e below T19 (mkF m 218 #[vi p1, vi p2, vi p3, vi p4, vi (1 : Int32), vi (1 : Int32), vi (0 : Int32), vr va1, vr va2, vr va3, vr b4, vj (2 : Int64), .second] [xr b4]) _
    refine st20.trans ?_
    show own_S p e below T20 (mkF m 221 #[vi p1, vi p2, vi p3, vi p4, vi (1 : Int32), vi (1 : Int32), vi (0 : Int32), vr va1, vr va2, vr va3, vr b4, vj (2 : Int64), .second] [xj (((((0 : Int64) + (((0 : Int64) + own_h p1 0) + own_h p2 0)) + (((0 : Int64) + own_h p1 1) + own_h p2 1)) + (((0 : Int64) + own_h p1 2) + own_h p2 2)) + (((0 : Int64) + own_h p1 3) + own_h p2 3))]) _
    refine XS.lload X20.here hx rfl (hb hby at_221) rfl ?_
    show own_S p e below T20 (mkF m 223 #[vi p1, vi p2, vi p3, vi p4, vi (1 : Int32), vi (1 : Int32), vi (0 : Int32), vr va1, vr va2, vr va3, vr b4, vj (2 : Int64), .second] [xj (2 : Int64), xj (((((0 : Int64) + (((0 : Int64) + own_h p1 0) + own_h p2 0)) + (((0 : Int64) + own_h p1 1) + own_h p2 1)) + (((0 : Int64) + own_h p1 2) + own_h p2 2)) + (((0 : Int64) + own_h p1 3) + own_h p2 3))]) _
    refine XS.lcmp X20.here hx rfl (hb hby at_223) rfl ?_
    show own_S p e below T20 (mkF m 224 #[vi p1, vi p2, vi p3, vi p4, vi (1 : Int32), vi (1 : Int32), vi (0 : Int32), vr va1, vr va2, vr va3, vr b4, vj (2 : Int64), .second] [xi (lcmpW (((((0 : Int64) + (((0 : Int64) + own_h p1 0) + own_h p2 0)) + (((0 : Int64) + own_h p1 1) + own_h p2 1)) + (((0 : Int64) + own_h p1 2) + own_h p2 2)) + (((0 : Int64) + own_h p1 3) + own_h p2 3)) (2 : Int64))]) _
    show own_S p e below T20 (mkF m 224 #[vi p1, vi p2, vi p3, vi p4, vi (1 : Int32), vi (1 : Int32), vi (0 : Int32), vr va1, vr va2, vr va3, vr b4, vj (2 : Int64), .second] [xi (lcmpW (((((0 : Int64) + (((0 : Int64) + own_h p1 0) + own_h p2 0)) + (((0 : Int64) + own_h p1 1) + own_h p2 1)) + (((0 : Int64) + own_h p1 2) + own_h p2 2)) + (((0 : Int64) + own_h p1 3) + own_h p2 3)) (2 : Int64))]) _
    refine XS.ifNo X20.here hx rfl (hb hby at_224) rfl (by rw [show (((((0 : Int64) + (((0 : Int64) + own_h p1 0) + own_h p2 0)) + (((0 : Int64) + own_h p1 1) + own_h p2 1)) + (((0 : Int64) + own_h p1 2) + own_h p2 2)) + (((0 : Int64) + own_h p1 3) + own_h p2 3)) = (own_h p1 0 + own_h p1 1 + own_h p1 2 + own_h p1 3) + (own_h p2 0 + own_h p2 1 + own_h p2 2 + own_h p2 3) from by simp only [Int64.zero_add]; try ac_rfl]; simp only [own_hsum]; try decide) ?_
    show own_S p e below T20 (mkF m 227 #[vi p1, vi p2, vi p3, vi p4, vi (1 : Int32), vi (1 : Int32), vi (0 : Int32), vr va1, vr va2, vr va3, vr b4, vj (2 : Int64), .second] []) _
    refine XS.iconst X20.here hx rfl (hb hby at_227) ?_
    show own_S p e below T20 (mkF m 228 #[vi p1, vi p2, vi p3, vi p4, vi (1 : Int32), vi (1 : Int32), vi (0 : Int32), vr va1, vr va2, vr va3, vr b4, vj (2 : Int64), .second] [xi (1 : Int32)]) _
    refine XS.goto X20.here hx rfl (pc0 := 228) (pc' := 232) rfl (hb hby at_228) (by decide) (by decide) ?_
    show own_S p e below T20 (mkF m 232 #[vi p1, vi p2, vi p3, vi p4, vi (1 : Int32), vi (1 : Int32), vi (0 : Int32), vr va1, vr va2, vr va3, vr b4, vj (2 : Int64), .second] [xi (1 : Int32)]) _
    exact retN X20 hx (t := .boolean) Bd.returns (by simp) (hb hby at_232) hr
  · exact ⟨rfl, N20⟩
theorem ef_own_c32_expected (m : MethodId) (u0 u1 u2 u3 u4 : Addr) (p1 : Int32) (p2 : Int32) (p3 : Int32) (p4 : Int32) : entryFrame m #[xi (0 : Int32), xi p1, xi p2, xi p3, xi p4] 5 = (mkF m 0 #[vi (0 : Int32), vi p1, vi p2, vi p3, vi p4] []) := by first | (simp [entryFrame, mkF, argsToLocals, Value.category]; done) | rfl
set_option maxRecDepth 65536 in
set_option maxHeartbeats 40000000 in
theorem own_c32_expected (l : Launch) (Z : State) (a0 : Array Value) (hw : ∀ d ∈ tables_1, d.before a0 Z = true) (u0 u1 u2 u3 u4 : Addr) (G : own_St Z u0 u1 u2 u3 u4) (p1 : Int32) (p2 : Int32) (p3 : Int32) (p4 : Int32) (as7 : (p4 &&& (1 : Int32)) = (1 : Int32)) (as9 : (p4 &&& (2 : Int32)) = (2 : Int32)) (as11 : (p4 &&& (4 : Int32)) = (4 : Int32)) (h0 : Heap) (n0 : Nat) (O0 : Old Z n0 h0) : own_Met l Z Y9 method_4_code 5 (some .long) ({ frames := 1, cells := 0, slots := 0, locals := 16 } : Room) #[xi (0 : Int32), xi p1, xi p2, xi p3, xi p4] h0 (own_QR (some (xj (((own_h p1 (0 : Int32)) + (own_h p2 (0 : Int32))) + (own_h p3 (0 : Int32))))) h0 n0) := by
  intro ws
  refine MetFree.of_bodySF (plainFor_of_name pn3) hisR ?_
  intro p e s m args below meth c s₁ Bd hml0 hP hK
  obtain ⟨rfl, hZ, hh⟩ := hP
  have hx := Bd.exec
  have hby := Bd.bytes
  have hml : c.maxLocals = 5 := hml0
  have hown : s.vm.findClass "com/example/feedwright/feedwright/LoadSummaryAddPinLaw" = some m.cls := findClass_of_methodNamed Bd.named
  have hnm := (name_of_methodNamed Bd.named Bd.method).1
  have X0 : Stand p l e ({ frames := 1, cells := 0, slots := 0, locals := 16 } : Room) s m #[xi (0 : Int32), xi p1, xi p2, xi p3, xi p4] below meth c s₁ [] 0 0 := Stand.of_body Bd
  have e0 : s₁.heap = h0 := by rw [← hh, Bd.state]; rfl
  have N0 := Fr.nil n0
  have pre0 : ∀ t, Steps p.tables e below (s₁.setTop (mkF m 0 #[vi (0 : Int32), vi p1, vi p2, vi p3, vi p4] [])) t → Steps p.tables e below (s₁.setTop (entryFrame m #[xi (0 : Int32), xi p1, xi p2, xi p3, xi p4] 5)) t := fun t st => castTop (ef_own_c32_expected m u0 u1 u2 u3 u4 p1 p2 p3 p4) st
  obtain ⟨_, _, ⟨T1, L1, k1, n1⟩, -, X1, ⟨Lc1, hQ1, l1, y1, z1⟩, st1⟩ := Jvm.LawKit.callS X0 hx (y := Y6) hown (mvT hZ (ww hw 61 rfl)) (mvT hZ (ww hw 62 rfl)) (mvT hZ (ww hw 2 rfl)) (mvT hZ (ww hw 63 rfl)) (by decide) (backOf (W := 0) (own_hit l Z a0 hw u0 u1 u2 u3 u4 G p1 (0 : Int32) h0 n0 O0 []) hZ (ww hw 63 rfl) (ww hw 2 rfl) (by decide) (by decide)) (g := (mkF m 14 #[vi (0 : Int32), vi p1, vi p2, vi p3, vi p4] [xi (0 : Int32), xi p1, xi (1 : Int32)])) rfl (by rw [hml]; rfl) (argsL := [xi (1 : Int32), xi p1, xi (0 : Int32)]) (rest := []) (lenOf pd5 rfl) rfl (by show 2 * 0 + _ ≤ _; exact Nat.le_of_eq rfl) (hb hby d8_14) (fun _ _ => ⟨rfl, e0, (by decide : 0 + 0 ≤ _), (by decide : 0 + 0 ≤ _)⟩)
  dsimp only [Pt.U, Pt.locs, Pt.cells, Pt.slots] at X1 l1 y1 z1 st1 hQ1
  subst l1 y1 z1
  obtain ⟨rfl, Nq1, e1⟩ := hQ1
  have N1 := Fr.app N0 Nq1
  obtain ⟨_, _, ⟨T2, L2, k2, n2⟩, -, X2, ⟨Lc2, hQ2, l2, y2, z2⟩, st2⟩ := Jvm.LawKit.callS X1 hx (y := Y6) hown (mvT hZ (ww hw 61 rfl)) (mvT hZ (ww hw 62 rfl)) (mvT hZ (ww hw 2 rfl)) (mvT hZ (ww hw 63 rfl)) (by decide) (backOf (W := 2) (own_hit l Z a0 hw u0 u1 u2 u3 u4 G p2 (0 : Int32) h0 n0 O0 []) hZ (ww hw 63 rfl) (ww hw 2 rfl) (by decide) (by decide)) (g := (mkF m 31 #[vi (0 : Int32), vi p1, vi p2, vi p3, vi p4] [xi (0 : Int32), xi p2, xi (1 : Int32), xj (own_h p1 (0 : Int32))])) rfl (by rw [hml]; rfl) (argsL := [xi (1 : Int32), xi p2, xi (0 : Int32)]) (rest := [xj (own_h p1 (0 : Int32))]) (lenOf pd5 rfl) rfl (by show 2 * 0 + _ ≤ _; exact Nat.le_of_eq rfl) (hb hby d8_31) (fun _ _ => ⟨rfl, e1, (by decide : 0 + 0 ≤ _), (by decide : 0 + 0 ≤ _)⟩)
  dsimp only [Pt.U, Pt.locs, Pt.cells, Pt.slots] at X2 l2 y2 z2 st2 hQ2
  subst l2 y2 z2
  obtain ⟨rfl, Nq2, e2⟩ := hQ2
  have N2 := Fr.app N1 Nq2
  obtain ⟨_, _, ⟨T3, L3, k3, n3⟩, -, X3, ⟨Lc3, hQ3, l3, y3, z3⟩, st3⟩ := Jvm.LawKit.callS X2 hx (y := Y6) hown (mvT hZ (ww hw 61 rfl)) (mvT hZ (ww hw 62 rfl)) (mvT hZ (ww hw 2 rfl)) (mvT hZ (ww hw 63 rfl)) (by decide) (backOf (W := 2) (own_hit l Z a0 hw u0 u1 u2 u3 u4 G p3 (0 : Int32) h0 n0 O0 []) hZ (ww hw 63 rfl) (ww hw 2 rfl) (by decide) (by decide)) (g := (mkF m 49 #[vi (0 : Int32), vi p1, vi p2, vi p3, vi p4] [xi (0 : Int32), xi p3, xi (1 : Int32), xj ((own_h p1 (0 : Int32)) + (own_h p2 (0 : Int32)))])) rfl (by rw [hml]; rfl) (argsL := [xi (1 : Int32), xi p3, xi (0 : Int32)]) (rest := [xj ((own_h p1 (0 : Int32)) + (own_h p2 (0 : Int32)))]) (lenOf pd5 rfl) rfl (by show 2 * 0 + _ ≤ _; exact Nat.le_of_eq rfl) (hb hby d8_49) (fun _ _ => ⟨rfl, e2, (by decide : 0 + 0 ≤ _), (by decide : 0 + 0 ≤ _)⟩)
  dsimp only [Pt.U, Pt.locs, Pt.cells, Pt.slots] at X3 l3 y3 z3 st3 hQ3
  subst l3 y3 z3
  obtain ⟨rfl, Nq3, e3⟩ := hQ3
  have N3 := Fr.app N2 Nq3
  obtain ⟨fs, hr, hrun, hended, hW, hsame⟩ := X3.leave (v := some (xj (((own_h p1 (0 : Int32)) + (own_h p2 (0 : Int32))) + (own_h p3 (0 : Int32))))) (fun h => by rw [Bd.returns] at h; cases h)
  refine ⟨_, _, pre0 _ ?_, hrun, hended, _, _, rfl, ?_, ⟨_, rfl⟩, hW, hsame.mono (by decide) (by decide)⟩
  · show own_S p e below s₁ (mkF m 0 #[vi (0 : Int32), vi p1, vi p2, vi p3, vi p4] []) _
    refine XS.iload X0.here hx rfl (hb hby d8_0) rfl ?_
    show own_S p e below s₁ (mkF m 2 #[vi (0 : Int32), vi p1, vi p2, vi p3, vi p4] [xi p4]) _
    refine XS.iconst X0.here hx rfl (hb hby d8_2) ?_
    show own_S p e below s₁ (mkF m 3 #[vi (0 : Int32), vi p1, vi p2, vi p3, vi p4] [xi (1 : Int32), xi p4]) _
    refine XS.iand X0.here hx rfl (hb hby d8_3) rfl ?_
    show own_S p e below s₁ (mkF m 4 #[vi (0 : Int32), vi p1, vi p2, vi p3, vi p4] [xi (p4 &&& (1 : Int32))]) _
    refine castTop (show (mkF m 4 #[vi (0 : Int32), vi p1, vi p2, vi p3, vi p4] [xi (p4 &&& (1 : Int32))]) = (mkF m 4 #[vi (0 : Int32), vi p1, vi p2, vi p3, vi p4] [xi (1 : Int32)]) from by rw [as7]) ?_
    show own_S p e below s₁ (mkF m 4 #[vi (0 : Int32), vi p1, vi p2, vi p3, vi p4] [xi (1 : Int32)]) _
    refine XS.ifNo X0.here hx rfl (hb hby d8_4) rfl (by decide) ?_
    show own_S p e below s₁ (mkF m 7 #[vi (0 : Int32), vi p1, vi p2, vi p3, vi p4] []) _
    refine XS.iconst X0.here hx rfl (hb hby d8_7) ?_
    show own_S p e below s₁ (mkF m 8 #[vi (0 : Int32), vi p1, vi p2, vi p3, vi p4] [xi (1 : Int32)]) _
    refine XS.goto X0.here hx rfl (pc0 := 8) (pc' := 12) rfl (hb hby d8_8) (by decide) (by decide) ?_
    show own_S p e below s₁ (mkF m 12 #[vi (0 : Int32), vi p1, vi p2, vi p3, vi p4] [xi (1 : Int32)]) _
    refine XS.iloadN X0.here hx rfl (hb hby d8_12) rfl ?_
    show own_S p e below s₁ (mkF m 13 #[vi (0 : Int32), vi p1, vi p2, vi p3, vi p4] [xi p1, xi (1 : Int32)]) _
    refine XS.iloadN X0.here hx rfl (hb hby d8_13) rfl ?_
    show own_S p e below s₁ (mkF m 14 #[vi (0 : Int32), vi p1, vi p2, vi p3, vi p4] [xi (0 : Int32), xi p1, xi (1 : Int32)]) _
    refine st1 _ ?_
    show own_S p e below T1 (mkF m 17 #[vi (0 : Int32), vi p1, vi p2, vi p3, vi p4] [xj (own_h p1 (0 : Int32))]) _
    refine XS.iload X1.here hx rfl (hb hby d8_17) rfl ?_
    show own_S p e below T1 (mkF m 19 #[vi (0 : Int32), vi p1, vi p2, vi p3, vi p4] [xi p4, xj (own_h p1 (0 : Int32))]) _
    refine XS.iconst X1.here hx rfl (hb hby d8_19) ?_
    show own_S p e below T1 (mkF m 20 #[vi (0 : Int32), vi p1, vi p2, vi p3, vi p4] [xi (2 : Int32), xi p4, xj (own_h p1 (0 : Int32))]) _
    refine XS.iand X1.here hx rfl (hb hby d8_20) rfl ?_
    show own_S p e below T1 (mkF m 21 #[vi (0 : Int32), vi p1, vi p2, vi p3, vi p4] [xi (p4 &&& (2 : Int32)), xj (own_h p1 (0 : Int32))]) _
    refine castTop (show (mkF m 21 #[vi (0 : Int32), vi p1, vi p2, vi p3, vi p4] [xi (p4 &&& (2 : Int32)), xj (own_h p1 (0 : Int32))]) = (mkF m 21 #[vi (0 : Int32), vi p1, vi p2, vi p3, vi p4] [xi (2 : Int32), xj (own_h p1 (0 : Int32))]) from by rw [as9]) ?_
    show own_S p e below T1 (mkF m 21 #[vi (0 : Int32), vi p1, vi p2, vi p3, vi p4] [xi (2 : Int32), xj (own_h p1 (0 : Int32))]) _
    refine XS.ifNo X1.here hx rfl (hb hby d8_21) rfl (by decide) ?_
    show own_S p e below T1 (mkF m 24 #[vi (0 : Int32), vi p1, vi p2, vi p3, vi p4] [xj (own_h p1 (0 : Int32))]) _
    refine XS.iconst X1.here hx rfl (hb hby d8_24) ?_
    show own_S p e below T1 (mkF m 25 #[vi (0 : Int32), vi p1, vi p2, vi p3, vi p4] [xi (1 : Int32), xj (own_h p1 (0 : Int32))]) _
    refine XS.goto X1.here hx rfl (pc0 := 25) (pc' := 29) rfl (hb hby d8_25) (by decide) (by decide) ?_
    show own_S p e below T1 (mkF m 29 #[vi (0 : Int32), vi p1, vi p2, vi p3, vi p4] [xi (1 : Int32), xj (own_h p1 (0 : Int32))]) _
    refine XS.iloadN X1.here hx rfl (hb hby d8_29) rfl ?_
    show own_S p e below T1 (mkF m 30 #[vi (0 : Int32), vi p1, vi p2, vi p3, vi p4] [xi p2, xi (1 : Int32), xj (own_h p1 (0 : Int32))]) _
    refine XS.iloadN X1.here hx rfl (hb hby d8_30) rfl ?_
    show own_S p e below T1 (mkF m 31 #[vi (0 : Int32), vi p1, vi p2, vi p3, vi p4] [xi (0 : Int32), xi p2, xi (1 : Int32), xj (own_h p1 (0 : Int32))]) _
    refine st2 _ ?_
    show own_S p e below T2 (mkF m 34 #[vi (0 : Int32), vi p1, vi p2, vi p3, vi p4] [xj (own_h p2 (0 : Int32)), xj (own_h p1 (0 : Int32))]) _
    refine XS.ladd X2.here hx rfl (hb hby d8_34) rfl ?_
    show own_S p e below T2 (mkF m 35 #[vi (0 : Int32), vi p1, vi p2, vi p3, vi p4] [xj ((own_h p1 (0 : Int32)) + (own_h p2 (0 : Int32)))]) _
    show own_S p e below T2 (mkF m 35 #[vi (0 : Int32), vi p1, vi p2, vi p3, vi p4] [xj ((own_h p1 (0 : Int32)) + (own_h p2 (0 : Int32)))]) _
    refine XS.iload X2.here hx rfl (hb hby d8_35) rfl ?_
    show own_S p e below T2 (mkF m 37 #[vi (0 : Int32), vi p1, vi p2, vi p3, vi p4] [xi p4, xj ((own_h p1 (0 : Int32)) + (own_h p2 (0 : Int32)))]) _
    refine XS.iconst X2.here hx rfl (hb hby d8_37) ?_
    show own_S p e below T2 (mkF m 38 #[vi (0 : Int32), vi p1, vi p2, vi p3, vi p4] [xi (4 : Int32), xi p4, xj ((own_h p1 (0 : Int32)) + (own_h p2 (0 : Int32)))]) _
    refine XS.iand X2.here hx rfl (hb hby d8_38) rfl ?_
    show own_S p e below T2 (mkF m 39 #[vi (0 : Int32), vi p1, vi p2, vi p3, vi p4] [xi (p4 &&& (4 : Int32)), xj ((own_h p1 (0 : Int32)) + (own_h p2 (0 : Int32)))]) _
    refine castTop (show (mkF m 39 #[vi (0 : Int32), vi p1, vi p2, vi p3, vi p4] [xi (p4 &&& (4 : Int32)), xj ((own_h p1 (0 : Int32)) + (own_h p2 (0 : Int32)))]) = (mkF m 39 #[vi (0 : Int32), vi p1, vi p2, vi p3, vi p4] [xi (4 : Int32), xj ((own_h p1 (0 : Int32)) + (own_h p2 (0 : Int32)))]) from by rw [as11]) ?_
    show own_S p e below T2 (mkF m 39 #[vi (0 : Int32), vi p1, vi p2, vi p3, vi p4] [xi (4 : Int32), xj ((own_h p1 (0 : Int32)) + (own_h p2 (0 : Int32)))]) _
    refine XS.ifNo X2.here hx rfl (hb hby d8_39) rfl (by decide) ?_
    show own_S p e below T2 (mkF m 42 #[vi (0 : Int32), vi p1, vi p2, vi p3, vi p4] [xj ((own_h p1 (0 : Int32)) + (own_h p2 (0 : Int32)))]) _
    refine XS.iconst X2.here hx rfl (hb hby d8_42) ?_
    show own_S p e below T2 (mkF m 43 #[vi (0 : Int32), vi p1, vi p2, vi p3, vi p4] [xi (1 : Int32), xj ((own_h p1 (0 : Int32)) + (own_h p2 (0 : Int32)))]) _
    refine XS.goto X2.here hx rfl (pc0 := 43) (pc' := 47) rfl (hb hby d8_43) (by decide) (by decide) ?_
    show own_S p e below T2 (mkF m 47 #[vi (0 : Int32), vi p1, vi p2, vi p3, vi p4] [xi (1 : Int32), xj ((own_h p1 (0 : Int32)) + (own_h p2 (0 : Int32)))]) _
    refine XS.iloadN X2.here hx rfl (hb hby d8_47) rfl ?_
    show own_S p e below T2 (mkF m 48 #[vi (0 : Int32), vi p1, vi p2, vi p3, vi p4] [xi p3, xi (1 : Int32), xj ((own_h p1 (0 : Int32)) + (own_h p2 (0 : Int32)))]) _
    refine XS.iloadN X2.here hx rfl (hb hby d8_48) rfl ?_
    show own_S p e below T2 (mkF m 49 #[vi (0 : Int32), vi p1, vi p2, vi p3, vi p4] [xi (0 : Int32), xi p3, xi (1 : Int32), xj ((own_h p1 (0 : Int32)) + (own_h p2 (0 : Int32)))]) _
    refine st3 _ ?_
    show own_S p e below T3 (mkF m 52 #[vi (0 : Int32), vi p1, vi p2, vi p3, vi p4] [xj (own_h p3 (0 : Int32)), xj ((own_h p1 (0 : Int32)) + (own_h p2 (0 : Int32)))]) _
    refine XS.ladd X3.here hx rfl (hb hby d8_52) rfl ?_
    show own_S p e below T3 (mkF m 53 #[vi (0 : Int32), vi p1, vi p2, vi p3, vi p4] [xj (((own_h p1 (0 : Int32)) + (own_h p2 (0 : Int32))) + (own_h p3 (0 : Int32)))]) _
    show own_S p e below T3 (mkF m 53 #[vi (0 : Int32), vi p1, vi p2, vi p3, vi p4] [xj (((own_h p1 (0 : Int32)) + (own_h p2 (0 : Int32))) + (own_h p3 (0 : Int32)))]) _
    exact X3.lreturnOut hx Bd.returns (hb hby d8_53) hr
  · exact ⟨rfl, N3, e3⟩
theorem ef_own_c33_expected (m : MethodId) (u0 u1 u2 u3 u4 : Addr) (p1 : Int32) (p2 : Int32) (p3 : Int32) (p4 : Int32) : entryFrame m #[xi (1 : Int32), xi p1, xi p2, xi p3, xi p4] 5 = (mkF m 0 #[vi (1 : Int32), vi p1, vi p2, vi p3, vi p4] []) := by first | (simp [entryFrame, mkF, argsToLocals, Value.category]; done) | rfl
set_option maxRecDepth 65536 in
set_option maxHeartbeats 40000000 in
theorem own_c33_expected (l : Launch) (Z : State) (a0 : Array Value) (hw : ∀ d ∈ tables_1, d.before a0 Z = true) (u0 u1 u2 u3 u4 : Addr) (G : own_St Z u0 u1 u2 u3 u4) (p1 : Int32) (p2 : Int32) (p3 : Int32) (p4 : Int32) (as7 : (p4 &&& (1 : Int32)) = (1 : Int32)) (as9 : (p4 &&& (2 : Int32)) = (2 : Int32)) (as11 : (p4 &&& (4 : Int32)) = (4 : Int32)) (h0 : Heap) (n0 : Nat) (O0 : Old Z n0 h0) : own_Met l Z Y9 method_4_code 5 (some .long) ({ frames := 1, cells := 0, slots := 0, locals := 16 } : Room) #[xi (1 : Int32), xi p1, xi p2, xi p3, xi p4] h0 (own_QR (some (xj (((own_h p1 (1 : Int32)) + (own_h p2 (1 : Int32))) + (own_h p3 (1 : Int32))))) h0 n0) := by
  intro ws
  refine MetFree.of_bodySF (plainFor_of_name pn3) hisR ?_
  intro p e s m args below meth c s₁ Bd hml0 hP hK
  obtain ⟨rfl, hZ, hh⟩ := hP
  have hx := Bd.exec
  have hby := Bd.bytes
  have hml : c.maxLocals = 5 := hml0
  have hown : s.vm.findClass "com/example/feedwright/feedwright/LoadSummaryAddPinLaw" = some m.cls := findClass_of_methodNamed Bd.named
  have hnm := (name_of_methodNamed Bd.named Bd.method).1
  have X0 : Stand p l e ({ frames := 1, cells := 0, slots := 0, locals := 16 } : Room) s m #[xi (1 : Int32), xi p1, xi p2, xi p3, xi p4] below meth c s₁ [] 0 0 := Stand.of_body Bd
  have e0 : s₁.heap = h0 := by rw [← hh, Bd.state]; rfl
  have N0 := Fr.nil n0
  have pre0 : ∀ t, Steps p.tables e below (s₁.setTop (mkF m 0 #[vi (1 : Int32), vi p1, vi p2, vi p3, vi p4] [])) t → Steps p.tables e below (s₁.setTop (entryFrame m #[xi (1 : Int32), xi p1, xi p2, xi p3, xi p4] 5)) t := fun t st => castTop (ef_own_c33_expected m u0 u1 u2 u3 u4 p1 p2 p3 p4) st
  obtain ⟨_, _, ⟨T1, L1, k1, n1⟩, -, X1, ⟨Lc1, hQ1, l1, y1, z1⟩, st1⟩ := Jvm.LawKit.callS X0 hx (y := Y6) hown (mvT hZ (ww hw 61 rfl)) (mvT hZ (ww hw 62 rfl)) (mvT hZ (ww hw 2 rfl)) (mvT hZ (ww hw 63 rfl)) (by decide) (backOf (W := 0) (own_hit l Z a0 hw u0 u1 u2 u3 u4 G p1 (1 : Int32) h0 n0 O0 []) hZ (ww hw 63 rfl) (ww hw 2 rfl) (by decide) (by decide)) (g := (mkF m 14 #[vi (1 : Int32), vi p1, vi p2, vi p3, vi p4] [xi (1 : Int32), xi p1, xi (1 : Int32)])) rfl (by rw [hml]; rfl) (argsL := [xi (1 : Int32), xi p1, xi (1 : Int32)]) (rest := []) (lenOf pd5 rfl) rfl (by show 2 * 0 + _ ≤ _; exact Nat.le_of_eq rfl) (hb hby d8_14) (fun _ _ => ⟨rfl, e0, (by decide : 0 + 0 ≤ _), (by decide : 0 + 0 ≤ _)⟩)
  dsimp only [Pt.U, Pt.locs, Pt.cells, Pt.slots] at X1 l1 y1 z1 st1 hQ1
  subst l1 y1 z1
  obtain ⟨rfl, Nq1, e1⟩ := hQ1
  have N1 := Fr.app N0 Nq1
  obtain ⟨_, _, ⟨T2, L2, k2, n2⟩, -, X2, ⟨Lc2, hQ2, l2, y2, z2⟩, st2⟩ := Jvm.LawKit.callS X1 hx (y := Y6) hown (mvT hZ (ww hw 61 rfl)) (mvT hZ (ww hw 62 rfl)) (mvT hZ (ww hw 2 rfl)) (mvT hZ (ww hw 63 rfl)) (by decide) (backOf (W := 2) (own_hit l Z a0 hw u0 u1 u2 u3 u4 G p2 (1 : Int32) h0 n0 O0 []) hZ (ww hw 63 rfl) (ww hw 2 rfl) (by decide) (by decide)) (g := (mkF m 31 #[vi (1 : Int32), vi p1, vi p2, vi p3, vi p4] [xi (1 : Int32), xi p2, xi (1 : Int32), xj (own_h p1 (1 : Int32))])) rfl (by rw [hml]; rfl) (argsL := [xi (1 : Int32), xi p2, xi (1 : Int32)]) (rest := [xj (own_h p1 (1 : Int32))]) (lenOf pd5 rfl) rfl (by show 2 * 0 + _ ≤ _; exact Nat.le_of_eq rfl) (hb hby d8_31) (fun _ _ => ⟨rfl, e1, (by decide : 0 + 0 ≤ _), (by decide : 0 + 0 ≤ _)⟩)
  dsimp only [Pt.U, Pt.locs, Pt.cells, Pt.slots] at X2 l2 y2 z2 st2 hQ2
  subst l2 y2 z2
  obtain ⟨rfl, Nq2, e2⟩ := hQ2
  have N2 := Fr.app N1 Nq2
  obtain ⟨_, _, ⟨T3, L3, k3, n3⟩, -, X3, ⟨Lc3, hQ3, l3, y3, z3⟩, st3⟩ := Jvm.LawKit.callS X2 hx (y := Y6) hown (mvT hZ (ww hw 61 rfl)) (mvT hZ (ww hw 62 rfl)) (mvT hZ (ww hw 2 rfl)) (mvT hZ (ww hw 63 rfl)) (by decide) (backOf (W := 2) (own_hit l Z a0 hw u0 u1 u2 u3 u4 G p3 (1 : Int32) h0 n0 O0 []) hZ (ww hw 63 rfl) (ww hw 2 rfl) (by decide) (by decide)) (g := (mkF m 49 #[vi (1 : Int32), vi p1, vi p2, vi p3, vi p4] [xi (1 : Int32), xi p3, xi (1 : Int32), xj ((own_h p1 (1 : Int32)) + (own_h p2 (1 : Int32)))])) rfl (by rw [hml]; rfl) (argsL := [xi (1 : Int32), xi p3, xi (1 : Int32)]) (rest := [xj ((own_h p1 (1 : Int32)) + (own_h p2 (1 : Int32)))]) (lenOf pd5 rfl) rfl (by show 2 * 0 + _ ≤ _; exact Nat.le_of_eq rfl) (hb hby d8_49) (fun _ _ => ⟨rfl, e2, (by decide : 0 + 0 ≤ _), (by decide : 0 + 0 ≤ _)⟩)
  dsimp only [Pt.U, Pt.locs, Pt.cells, Pt.slots] at X3 l3 y3 z3 st3 hQ3
  subst l3 y3 z3
  obtain ⟨rfl, Nq3, e3⟩ := hQ3
  have N3 := Fr.app N2 Nq3
  obtain ⟨fs, hr, hrun, hended, hW, hsame⟩ := X3.leave (v := some (xj (((own_h p1 (1 : Int32)) + (own_h p2 (1 : Int32))) + (own_h p3 (1 : Int32))))) (fun h => by rw [Bd.returns] at h; cases h)
  refine ⟨_, _, pre0 _ ?_, hrun, hended, _, _, rfl, ?_, ⟨_, rfl⟩, hW, hsame.mono (by decide) (by decide)⟩
  · show own_S p e below s₁ (mkF m 0 #[vi (1 : Int32), vi p1, vi p2, vi p3, vi p4] []) _
    refine XS.iload X0.here hx rfl (hb hby d8_0) rfl ?_
    show own_S p e below s₁ (mkF m 2 #[vi (1 : Int32), vi p1, vi p2, vi p3, vi p4] [xi p4]) _
    refine XS.iconst X0.here hx rfl (hb hby d8_2) ?_
    show own_S p e below s₁ (mkF m 3 #[vi (1 : Int32), vi p1, vi p2, vi p3, vi p4] [xi (1 : Int32), xi p4]) _
    refine XS.iand X0.here hx rfl (hb hby d8_3) rfl ?_
    show own_S p e below s₁ (mkF m 4 #[vi (1 : Int32), vi p1, vi p2, vi p3, vi p4] [xi (p4 &&& (1 : Int32))]) _
    refine castTop (show (mkF m 4 #[vi (1 : Int32), vi p1, vi p2, vi p3, vi p4] [xi (p4 &&& (1 : Int32))]) = (mkF m 4 #[vi (1 : Int32), vi p1, vi p2, vi p3, vi p4] [xi (1 : Int32)]) from by rw [as7]) ?_
    show own_S p e below s₁ (mkF m 4 #[vi (1 : Int32), vi p1, vi p2, vi p3, vi p4] [xi (1 : Int32)]) _
    refine XS.ifNo X0.here hx rfl (hb hby d8_4) rfl (by decide) ?_
    show own_S p e below s₁ (mkF m 7 #[vi (1 : Int32), vi p1, vi p2, vi p3, vi p4] []) _
    refine XS.iconst X0.here hx rfl (hb hby d8_7) ?_
    show own_S p e below s₁ (mkF m 8 #[vi (1 : Int32), vi p1, vi p2, vi p3, vi p4] [xi (1 : Int32)]) _
    refine XS.goto X0.here hx rfl (pc0 := 8) (pc' := 12) rfl (hb hby d8_8) (by decide) (by decide) ?_
    show own_S p e below s₁ (mkF m 12 #[vi (1 : Int32), vi p1, vi p2, vi p3, vi p4] [xi (1 : Int32)]) _
    refine XS.iloadN X0.here hx rfl (hb hby d8_12) rfl ?_
    show own_S p e below s₁ (mkF m 13 #[vi (1 : Int32), vi p1, vi p2, vi p3, vi p4] [xi p1, xi (1 : Int32)]) _
    refine XS.iloadN X0.here hx rfl (hb hby d8_13) rfl ?_
    show own_S p e below s₁ (mkF m 14 #[vi (1 : Int32), vi p1, vi p2, vi p3, vi p4] [xi (1 : Int32), xi p1, xi (1 : Int32)]) _
    refine st1 _ ?_
    show own_S p e below T1 (mkF m 17 #[vi (1 : Int32), vi p1, vi p2, vi p3, vi p4] [xj (own_h p1 (1 : Int32))]) _
    refine XS.iload X1.here hx rfl (hb hby d8_17) rfl ?_
    show own_S p e below T1 (mkF m 19 #[vi (1 : Int32), vi p1, vi p2, vi p3, vi p4] [xi p4, xj (own_h p1 (1 : Int32))]) _
    refine XS.iconst X1.here hx rfl (hb hby d8_19) ?_
    show own_S p e below T1 (mkF m 20 #[vi (1 : Int32), vi p1, vi p2, vi p3, vi p4] [xi (2 : Int32), xi p4, xj (own_h p1 (1 : Int32))]) _
    refine XS.iand X1.here hx rfl (hb hby d8_20) rfl ?_
    show own_S p e below T1 (mkF m 21 #[vi (1 : Int32), vi p1, vi p2, vi p3, vi p4] [xi (p4 &&& (2 : Int32)), xj (own_h p1 (1 : Int32))]) _
    refine castTop (show (mkF m 21 #[vi (1 : Int32), vi p1, vi p2, vi p3, vi p4] [xi (p4 &&& (2 : Int32)), xj (own_h p1 (1 : Int32))]) = (mkF m 21 #[vi (1 : Int32), vi p1, vi p2, vi p3, vi p4] [xi (2 : Int32), xj (own_h p1 (1 : Int32))]) from by rw [as9]) ?_
    show own_S p e below T1 (mkF m 21 #[vi (1 : Int32), vi p1, vi p2, vi p3, vi p4] [xi (2 : Int32), xj (own_h p1 (1 : Int32))]) _
    refine XS.ifNo X1.here hx rfl (hb hby d8_21) rfl (by decide) ?_
    show own_S p e below T1 (mkF m 24 #[vi (1 : Int32), vi p1, vi p2, vi p3, vi p4] [xj (own_h p1 (1 : Int32))]) _
    refine XS.iconst X1.here hx rfl (hb hby d8_24) ?_
    show own_S p e below T1 (mkF m 25 #[vi (1 : Int32), vi p1, vi p2, vi p3, vi p4] [xi (1 : Int32), xj (own_h p1 (1 : Int32))]) _
    refine XS.goto X1.here hx rfl (pc0 := 25) (pc' := 29) rfl (hb hby d8_25) (by decide) (by decide) ?_
    show own_S p e below T1 (mkF m 29 #[vi (1 : Int32), vi p1, vi p2, vi p3, vi p4] [xi (1 : Int32), xj (own_h p1 (1 : Int32))]) _
    refine XS.iloadN X1.here hx rfl (hb hby d8_29) rfl ?_
    show own_S p e below T1 (mkF m 30 #[vi (1 : Int32), vi p1, vi p2, vi p3, vi p4] [xi p2, xi (1 : Int32), xj (own_h p1 (1 : Int32))]) _
    refine XS.iloadN X1.here hx rfl (hb hby d8_30) rfl ?_
    show own_S p e below T1 (mkF m 31 #[vi (1 : Int32), vi p1, vi p2, vi p3, vi p4] [xi (1 : Int32), xi p2, xi (1 : Int32), xj (own_h p1 (1 : Int32))]) _
    refine st2 _ ?_
    show own_S p e below T2 (mkF m 34 #[vi (1 : Int32), vi p1, vi p2, vi p3, vi p4] [xj (own_h p2 (1 : Int32)), xj (own_h p1 (1 : Int32))]) _
    refine XS.ladd X2.here hx rfl (hb hby d8_34) rfl ?_
    show own_S p e below T2 (mkF m 35 #[vi (1 : Int32), vi p1, vi p2, vi p3, vi p4] [xj ((own_h p1 (1 : Int32)) + (own_h p2 (1 : Int32)))]) _
    show own_S p e below T2 (mkF m 35 #[vi (1 : Int32), vi p1, vi p2, vi p3, vi p4] [xj ((own_h p1 (1 : Int32)) + (own_h p2 (1 : Int32)))]) _
    refine XS.iload X2.here hx rfl (hb hby d8_35) rfl ?_
    show own_S p e below T2 (mkF m 37 #[vi (1 : Int32), vi p1, vi p2, vi p3, vi p4] [xi p4, xj ((own_h p1 (1 : Int32)) + (own_h p2 (1 : Int32)))]) _
    refine XS.iconst X2.here hx rfl (hb hby d8_37) ?_
    show own_S p e below T2 (mkF m 38 #[vi (1 : Int32), vi p1, vi p2, vi p3, vi p4] [xi (4 : Int32), xi p4, xj ((own_h p1 (1 : Int32)) + (own_h p2 (1 : Int32)))]) _
    refine XS.iand X2.here hx rfl (hb hby d8_38) rfl ?_
    show own_S p e below T2 (mkF m 39 #[vi (1 : Int32), vi p1, vi p2, vi p3, vi p4] [xi (p4 &&& (4 : Int32)), xj ((own_h p1 (1 : Int32)) + (own_h p2 (1 : Int32)))]) _
    refine castTop (show (mkF m 39 #[vi (1 : Int32), vi p1, vi p2, vi p3, vi p4] [xi (p4 &&& (4 : Int32)), xj ((own_h p1 (1 : Int32)) + (own_h p2 (1 : Int32)))]) = (mkF m 39 #[vi (1 : Int32), vi p1, vi p2, vi p3, vi p4] [xi (4 : Int32), xj ((own_h p1 (1 : Int32)) + (own_h p2 (1 : Int32)))]) from by rw [as11]) ?_
    show own_S p e below T2 (mkF m 39 #[vi (1 : Int32), vi p1, vi p2, vi p3, vi p4] [xi (4 : Int32), xj ((own_h p1 (1 : Int32)) + (own_h p2 (1 : Int32)))]) _
    refine XS.ifNo X2.here hx rfl (hb hby d8_39) rfl (by decide) ?_
    show own_S p e below T2 (mkF m 42 #[vi (1 : Int32), vi p1, vi p2, vi p3, vi p4] [xj ((own_h p1 (1 : Int32)) + (own_h p2 (1 : Int32)))]) _
    refine XS.iconst X2.here hx rfl (hb hby d8_42) ?_
    show own_S p e below T2 (mkF m 43 #[vi (1 : Int32), vi p1, vi p2, vi p3, vi p4] [xi (1 : Int32), xj ((own_h p1 (1 : Int32)) + (own_h p2 (1 : Int32)))]) _
    refine XS.goto X2.here hx rfl (pc0 := 43) (pc' := 47) rfl (hb hby d8_43) (by decide) (by decide) ?_
    show own_S p e below T2 (mkF m 47 #[vi (1 : Int32), vi p1, vi p2, vi p3, vi p4] [xi (1 : Int32), xj ((own_h p1 (1 : Int32)) + (own_h p2 (1 : Int32)))]) _
    refine XS.iloadN X2.here hx rfl (hb hby d8_47) rfl ?_
    show own_S p e below T2 (mkF m 48 #[vi (1 : Int32), vi p1, vi p2, vi p3, vi p4] [xi p3, xi (1 : Int32), xj ((own_h p1 (1 : Int32)) + (own_h p2 (1 : Int32)))]) _
    refine XS.iloadN X2.here hx rfl (hb hby d8_48) rfl ?_
    show own_S p e below T2 (mkF m 49 #[vi (1 : Int32), vi p1, vi p2, vi p3, vi p4] [xi (1 : Int32), xi p3, xi (1 : Int32), xj ((own_h p1 (1 : Int32)) + (own_h p2 (1 : Int32)))]) _
    refine st3 _ ?_
    show own_S p e below T3 (mkF m 52 #[vi (1 : Int32), vi p1, vi p2, vi p3, vi p4] [xj (own_h p3 (1 : Int32)), xj ((own_h p1 (1 : Int32)) + (own_h p2 (1 : Int32)))]) _
    refine XS.ladd X3.here hx rfl (hb hby d8_52) rfl ?_
    show own_S p e below T3 (mkF m 53 #[vi (1 : Int32), vi p1, vi p2, vi p3, vi p4] [xj (((own_h p1 (1 : Int32)) + (own_h p2 (1 : Int32))) + (own_h p3 (1 : Int32)))]) _
    show own_S p e below T3 (mkF m 53 #[vi (1 : Int32), vi p1, vi p2, vi p3, vi p4] [xj (((own_h p1 (1 : Int32)) + (own_h p2 (1 : Int32))) + (own_h p3 (1 : Int32)))]) _
    exact X3.lreturnOut hx Bd.returns (hb hby d8_53) hr
  · exact ⟨rfl, N3, e3⟩
theorem ef_own_c34_expected (m : MethodId) (u0 u1 u2 u3 u4 : Addr) (p1 : Int32) (p2 : Int32) (p3 : Int32) (p4 : Int32) : entryFrame m #[xi (2 : Int32), xi p1, xi p2, xi p3, xi p4] 5 = (mkF m 0 #[vi (2 : Int32), vi p1, vi p2, vi p3, vi p4] []) := by first | (simp [entryFrame, mkF, argsToLocals, Value.category]; done) | rfl
set_option maxRecDepth 65536 in
set_option maxHeartbeats 40000000 in
theorem own_c34_expected (l : Launch) (Z : State) (a0 : Array Value) (hw : ∀ d ∈ tables_1, d.before a0 Z = true) (u0 u1 u2 u3 u4 : Addr) (G : own_St Z u0 u1 u2 u3 u4) (p1 : Int32) (p2 : Int32) (p3 : Int32) (p4 : Int32) (as7 : (p4 &&& (1 : Int32)) = (1 : Int32)) (as9 : (p4 &&& (2 : Int32)) = (2 : Int32)) (as11 : (p4 &&& (4 : Int32)) = (4 : Int32)) (h0 : Heap) (n0 : Nat) (O0 : Old Z n0 h0) : own_Met l Z Y9 method_4_code 5 (some .long) ({ frames := 1, cells := 0, slots := 0, locals := 16 } : Room) #[xi (2 : Int32), xi p1, xi p2, xi p3, xi p4] h0 (own_QR (some (xj (((own_h p1 (2 : Int32)) + (own_h p2 (2 : Int32))) + (own_h p3 (2 : Int32))))) h0 n0) := by
  intro ws
  refine MetFree.of_bodySF (plainFor_of_name pn3) hisR ?_
  intro p e s m args below meth c s₁ Bd hml0 hP hK
  obtain ⟨rfl, hZ, hh⟩ := hP
  have hx := Bd.exec
  have hby := Bd.bytes
  have hml : c.maxLocals = 5 := hml0
  have hown : s.vm.findClass "com/example/feedwright/feedwright/LoadSummaryAddPinLaw" = some m.cls := findClass_of_methodNamed Bd.named
  have hnm := (name_of_methodNamed Bd.named Bd.method).1
  have X0 : Stand p l e ({ frames := 1, cells := 0, slots := 0, locals := 16 } : Room) s m #[xi (2 : Int32), xi p1, xi p2, xi p3, xi p4] below meth c s₁ [] 0 0 := Stand.of_body Bd
  have e0 : s₁.heap = h0 := by rw [← hh, Bd.state]; rfl
  have N0 := Fr.nil n0
  have pre0 : ∀ t, Steps p.tables e below (s₁.setTop (mkF m 0 #[vi (2 : Int32), vi p1, vi p2, vi p3, vi p4] [])) t → Steps p.tables e below (s₁.setTop (entryFrame m #[xi (2 : Int32), xi p1, xi p2, xi p3, xi p4] 5)) t := fun t st => castTop (ef_own_c34_expected m u0 u1 u2 u3 u4 p1 p2 p3 p4) st
  obtain ⟨_, _, ⟨T1, L1, k1, n1⟩, -, X1, ⟨Lc1, hQ1, l1, y1, z1⟩, st1⟩ := Jvm.LawKit.callS X0 hx (y := Y6) hown (mvT hZ (ww hw 61 rfl)) (mvT hZ (ww hw 62 rfl)) (mvT hZ (ww hw 2 rfl)) (mvT hZ (ww hw 63 rfl)) (by decide) (backOf (W := 0) (own_hit l Z a0 hw u0 u1 u2 u3 u4 G p1 (2 : Int32) h0 n0 O0 []) hZ (ww hw 63 rfl) (ww hw 2 rfl) (by decide) (by decide)) (g := (mkF m 14 #[vi (2 : Int32), vi p1, vi p2, vi p3, vi p4] [xi (2 : Int32), xi p1, xi (1 : Int32)])) rfl (by rw [hml]; rfl) (argsL := [xi (1 : Int32), xi p1, xi (2 : Int32)]) (rest := []) (lenOf pd5 rfl) rfl (by show 2 * 0 + _ ≤ _; exact Nat.le_of_eq rfl) (hb hby d8_14) (fun _ _ => ⟨rfl, e0, (by decide : 0 + 0 ≤ _), (by decide : 0 + 0 ≤ _)⟩)
  dsimp only [Pt.U, Pt.locs, Pt.cells, Pt.slots] at X1 l1 y1 z1 st1 hQ1
  subst l1 y1 z1
  obtain ⟨rfl, Nq1, e1⟩ := hQ1
  have N1 := Fr.app N0 Nq1
  obtain ⟨_, _, ⟨T2, L2, k2, n2⟩, -, X2, ⟨Lc2, hQ2, l2, y2, z2⟩, st2⟩ := Jvm.LawKit.callS X1 hx (y := Y6) hown (mvT hZ (ww hw 61 rfl)) (mvT hZ (ww hw 62 rfl)) (mvT hZ (ww hw 2 rfl)) (mvT hZ (ww hw 63 rfl)) (by decide) (backOf (W := 2) (own_hit l Z a0 hw u0 u1 u2 u3 u4 G p2 (2 : Int32) h0 n0 O0 []) hZ (ww hw 63 rfl) (ww hw 2 rfl) (by decide) (by decide)) (g := (mkF m 31 #[vi (2 : Int32), vi p1, vi p2, vi p3, vi p4] [xi (2 : Int32), xi p2, xi (1 : Int32), xj (own_h p1 (2 : Int32))])) rfl (by rw [hml]; rfl) (argsL := [xi (1 : Int32), xi p2, xi (2 : Int32)]) (rest := [xj (own_h p1 (2 : Int32))]) (lenOf pd5 rfl) rfl (by show 2 * 0 + _ ≤ _; exact Nat.le_of_eq rfl) (hb hby d8_31) (fun _ _ => ⟨rfl, e1, (by decide : 0 + 0 ≤ _), (by decide : 0 + 0 ≤ _)⟩)
  dsimp only [Pt.U, Pt.locs, Pt.cells, Pt.slots] at X2 l2 y2 z2 st2 hQ2
  subst l2 y2 z2
  obtain ⟨rfl, Nq2, e2⟩ := hQ2
  have N2 := Fr.app N1 Nq2
  obtain ⟨_, _, ⟨T3, L3, k3, n3⟩, -, X3, ⟨Lc3, hQ3, l3, y3, z3⟩, st3⟩ := Jvm.LawKit.callS X2 hx (y := Y6) hown (mvT hZ (ww hw 61 rfl)) (mvT hZ (ww hw 62 rfl)) (mvT hZ (ww hw 2 rfl)) (mvT hZ (ww hw 63 rfl)) (by decide) (backOf (W := 2) (own_hit l Z a0 hw u0 u1 u2 u3 u4 G p3 (2 : Int32) h0 n0 O0 []) hZ (ww hw 63 rfl) (ww hw 2 rfl) (by decide) (by decide)) (g := (mkF m 49 #[vi (2 : Int32), vi p1, vi p2, vi p3, vi p4] [xi (2 : Int32), xi p3, xi (1 : Int32), xj ((own_h p1 (2 : Int32)) + (own_h p2 (2 : Int32)))])) rfl (by rw [hml]; rfl) (argsL := [xi (1 : Int32), xi p3, xi (2 : Int32)]) (rest := [xj ((own_h p1 (2 : Int32)) + (own_h p2 (2 : Int32)))]) (lenOf pd5 rfl) rfl (by show 2 * 0 + _ ≤ _; exact Nat.le_of_eq rfl) (hb hby d8_49) (fun _ _ => ⟨rfl, e2, (by decide : 0 + 0 ≤ _), (by decide : 0 + 0 ≤ _)⟩)
  dsimp only [Pt.U, Pt.locs, Pt.cells, Pt.slots] at X3 l3 y3 z3 st3 hQ3
  subst l3 y3 z3
  obtain ⟨rfl, Nq3, e3⟩ := hQ3
  have N3 := Fr.app N2 Nq3
  obtain ⟨fs, hr, hrun, hended, hW, hsame⟩ := X3.leave (v := some (xj (((own_h p1 (2 : Int32)) + (own_h p2 (2 : Int32))) + (own_h p3 (2 : Int32))))) (fun h => by rw [Bd.returns] at h; cases h)
  refine ⟨_, _, pre0 _ ?_, hrun, hended, _, _, rfl, ?_, ⟨_, rfl⟩, hW, hsame.mono (by decide) (by decide)⟩
  · show own_S p e below s₁ (mkF m 0 #[vi (2 : Int32), vi p1, vi p2, vi p3, vi p4] []) _
    refine XS.iload X0.here hx rfl (hb hby d8_0) rfl ?_
    show own_S p e below s₁ (mkF m 2 #[vi (2 : Int32), vi p1, vi p2, vi p3, vi p4] [xi p4]) _
    refine XS.iconst X0.here hx rfl (hb hby d8_2) ?_
    show own_S p e below s₁ (mkF m 3 #[vi (2 : Int32), vi p1, vi p2, vi p3, vi p4] [xi (1 : Int32), xi p4]) _
    refine XS.iand X0.here hx rfl (hb hby d8_3) rfl ?_
    show own_S p e below s₁ (mkF m 4 #[vi (2 : Int32), vi p1, vi p2, vi p3, vi p4] [xi (p4 &&& (1 : Int32))]) _
    refine castTop (show (mkF m 4 #[vi (2 : Int32), vi p1, vi p2, vi p3, vi p4] [xi (p4 &&& (1 : Int32))]) = (mkF m 4 #[vi (2 : Int32), vi p1, vi p2, vi p3, vi p4] [xi (1 : Int32)]) from by rw [as7]) ?_
    show own_S p e below s₁ (mkF m 4 #[vi (2 : Int32), vi p1, vi p2, vi p3, vi p4] [xi (1 : Int32)]) _
    refine XS.ifNo X0.here hx rfl (hb hby d8_4) rfl (by decide) ?_
    show own_S p e below s₁ (mkF m 7 #[vi (2 : Int32), vi p1, vi p2, vi p3, vi p4] []) _
    refine XS.iconst X0.here hx rfl (hb hby d8_7) ?_
    show own_S p e below s₁ (mkF m 8 #[vi (2 : Int32), vi p1, vi p2, vi p3, vi p4] [xi (1 : Int32)]) _
    refine XS.goto X0.here hx rfl (pc0 := 8) (pc' := 12) rfl (hb hby d8_8) (by decide) (by decide) ?_
    show own_S p e below s₁ (mkF m 12 #[vi (2 : Int32), vi p1, vi p2, vi p3, vi p4] [xi (1 : Int32)]) _
    refine XS.iloadN X0.here hx rfl (hb hby d8_12) rfl ?_
    show own_S p e below s₁ (mkF m 13 #[vi (2 : Int32), vi p1, vi p2, vi p3, vi p4] [xi p1, xi (1 : Int32)]) _
    refine XS.iloadN X0.here hx rfl (hb hby d8_13) rfl ?_
    show own_S p e below s₁ (mkF m 14 #[vi (2 : Int32), vi p1, vi p2, vi p3, vi p4] [xi (2 : Int32), xi p1, xi (1 : Int32)]) _
    refine st1 _ ?_
    show own_S p e below T1 (mkF m 17 #[vi (2 : Int32), vi p1, vi p2, vi p3, vi p4] [xj (own_h p1 (2 : Int32))]) _
    refine XS.iload X1.here hx rfl (hb hby d8_17) rfl ?_
    show own_S p e below T1 (mkF m 19 #[vi (2 : Int32), vi p1, vi p2, vi p3, vi p4] [xi p4, xj (own_h p1 (2 : Int32))]) _
    refine XS.iconst X1.here hx rfl (hb hby d8_19) ?_
    show own_S p e below T1 (mkF m 20 #[vi (2 : Int32), vi p1, vi p2, vi p3, vi p4] [xi (2 : Int32), xi p4, xj (own_h p1 (2 : Int32))]) _
    refine XS.iand X1.here hx rfl (hb hby d8_20) rfl ?_
    show own_S p e below T1 (mkF m 21 #[vi (2 : Int32), vi p1, vi p2, vi p3, vi p4] [xi (p4 &&& (2 : Int32)), xj (own_h p1 (2 : Int32))]) _
    refine castTop (show (mkF m 21 #[vi (2 : Int32), vi p1, vi p2, vi p3, vi p4] [xi (p4 &&& (2 : Int32)), xj (own_h p1 (2 : Int32))]) = (mkF m 21 #[vi (2 : Int32), vi p1, vi p2, vi p3, vi p4] [xi (2 : Int32), xj (own_h p1 (2 : Int32))]) from by rw [as9]) ?_
    show own_S p e below T1 (mkF m 21 #[vi (2 : Int32), vi p1, vi p2, vi p3, vi p4] [xi (2 : Int32), xj (own_h p1 (2 : Int32))]) _
    refine XS.ifNo X1.here hx rfl (hb hby d8_21) rfl (by decide) ?_
    show own_S p e below T1 (mkF m 24 #[vi (2 : Int32), vi p1, vi p2, vi p3, vi p4] [xj (own_h p1 (2 : Int32))]) _
    refine XS.iconst X1.here hx rfl (hb hby d8_24) ?_
    show own_S p e below T1 (mkF m 25 #[vi (2 : Int32), vi p1, vi p2, vi p3, vi p4] [xi (1 : Int32), xj (own_h p1 (2 : Int32))]) _
    refine XS.goto X1.here hx rfl (pc0 := 25) (pc' := 29) rfl (hb hby d8_25) (by decide) (by decide) ?_
    show own_S p e below T1 (mkF m 29 #[vi (2 : Int32), vi p1, vi p2, vi p3, vi p4] [xi (1 : Int32), xj (own_h p1 (2 : Int32))]) _
    refine XS.iloadN X1.here hx rfl (hb hby d8_29) rfl ?_
    show own_S p e below T1 (mkF m 30 #[vi (2 : Int32), vi p1, vi p2, vi p3, vi p4] [xi p2, xi (1 : Int32), xj (own_h p1 (2 : Int32))]) _
    refine XS.iloadN X1.here hx rfl (hb hby d8_30) rfl ?_
    show own_S p e below T1 (mkF m 31 #[vi (2 : Int32), vi p1, vi p2, vi p3, vi p4] [xi (2 : Int32), xi p2, xi (1 : Int32), xj (own_h p1 (2 : Int32))]) _
    refine st2 _ ?_
    show own_S p e below T2 (mkF m 34 #[vi (2 : Int32), vi p1, vi p2, vi p3, vi p4] [xj (own_h p2 (2 : Int32)), xj (own_h p1 (2 : Int32))]) _
    refine XS.ladd X2.here hx rfl (hb hby d8_34) rfl ?_
    show own_S p e below T2 (mkF m 35 #[vi (2 : Int32), vi p1, vi p2, vi p3, vi p4] [xj ((own_h p1 (2 : Int32)) + (own_h p2 (2 : Int32)))]) _
    show own_S p e below T2 (mkF m 35 #[vi (2 : Int32), vi p1, vi p2, vi p3, vi p4] [xj ((own_h p1 (2 : Int32)) + (own_h p2 (2 : Int32)))]) _
    refine XS.iload X2.here hx rfl (hb hby d8_35) rfl ?_
    show own_S p e below T2 (mkF m 37 #[vi (2 : Int32), vi p1, vi p2, vi p3, vi p4] [xi p4, xj ((own_h p1 (2 : Int32)) + (own_h p2 (2 : Int32)))]) _
    refine XS.iconst X2.here hx rfl (hb hby d8_37) ?_
    show own_S p e below T2 (mkF m 38 #[vi (2 : Int32), vi p1, vi p2, vi p3, vi p4] [xi (4 : Int32), xi p4, xj ((own_h p1 (2 : Int32)) + (own_h p2 (2 : Int32)))]) _
    refine XS.iand X2.here hx rfl (hb hby d8_38) rfl ?_
    show own_S p e below T2 (mkF m 39 #[vi (2 : Int32), vi p1, vi p2, vi p3, vi p4] [xi (p4 &&& (4 : Int32)), xj ((own_h p1 (2 : Int32)) + (own_h p2 (2 : Int32)))]) _
    refine castTop (show (mkF m 39 #[vi (2 : Int32), vi p1, vi p2, vi p3, vi p4] [xi (p4 &&& (4 : Int32)), xj ((own_h p1 (2 : Int32)) + (own_h p2 (2 : Int32)))]) = (mkF m 39 #[vi (2 : Int32), vi p1, vi p2, vi p3, vi p4] [xi (4 : Int32), xj ((own_h p1 (2 : Int32)) + (own_h p2 (2 : Int32)))]) from by rw [as11]) ?_
    show own_S p e below T2 (mkF m 39 #[vi (2 : Int32), vi p1, vi p2, vi p3, vi p4] [xi (4 : Int32), xj ((own_h p1 (2 : Int32)) + (own_h p2 (2 : Int32)))]) _
    refine XS.ifNo X2.here hx rfl (hb hby d8_39) rfl (by decide) ?_
    show own_S p e below T2 (mkF m 42 #[vi (2 : Int32), vi p1, vi p2, vi p3, vi p4] [xj ((own_h p1 (2 : Int32)) + (own_h p2 (2 : Int32)))]) _
    refine XS.iconst X2.here hx rfl (hb hby d8_42) ?_
    show own_S p e below T2 (mkF m 43 #[vi (2 : Int32), vi p1, vi p2, vi p3, vi p4] [xi (1 : Int32), xj ((own_h p1 (2 : Int32)) + (own_h p2 (2 : Int32)))]) _
    refine XS.goto X2.here hx rfl (pc0 := 43) (pc' := 47) rfl (hb hby d8_43) (by decide) (by decide) ?_
    show own_S p e below T2 (mkF m 47 #[vi (2 : Int32), vi p1, vi p2, vi p3, vi p4] [xi (1 : Int32), xj ((own_h p1 (2 : Int32)) + (own_h p2 (2 : Int32)))]) _
    refine XS.iloadN X2.here hx rfl (hb hby d8_47) rfl ?_
    show own_S p e below T2 (mkF m 48 #[vi (2 : Int32), vi p1, vi p2, vi p3, vi p4] [xi p3, xi (1 : Int32), xj ((own_h p1 (2 : Int32)) + (own_h p2 (2 : Int32)))]) _
    refine XS.iloadN X2.here hx rfl (hb hby d8_48) rfl ?_
    show own_S p e below T2 (mkF m 49 #[vi (2 : Int32), vi p1, vi p2, vi p3, vi p4] [xi (2 : Int32), xi p3, xi (1 : Int32), xj ((own_h p1 (2 : Int32)) + (own_h p2 (2 : Int32)))]) _
    refine st3 _ ?_
    show own_S p e below T3 (mkF m 52 #[vi (2 : Int32), vi p1, vi p2, vi p3, vi p4] [xj (own_h p3 (2 : Int32)), xj ((own_h p1 (2 : Int32)) + (own_h p2 (2 : Int32)))]) _
    refine XS.ladd X3.here hx rfl (hb hby d8_52) rfl ?_
    show own_S p e below T3 (mkF m 53 #[vi (2 : Int32), vi p1, vi p2, vi p3, vi p4] [xj (((own_h p1 (2 : Int32)) + (own_h p2 (2 : Int32))) + (own_h p3 (2 : Int32)))]) _
    show own_S p e below T3 (mkF m 53 #[vi (2 : Int32), vi p1, vi p2, vi p3, vi p4] [xj (((own_h p1 (2 : Int32)) + (own_h p2 (2 : Int32))) + (own_h p3 (2 : Int32)))]) _
    exact X3.lreturnOut hx Bd.returns (hb hby d8_53) hr
  · exact ⟨rfl, N3, e3⟩
theorem ef_own_c35_expected (m : MethodId) (u0 u1 u2 u3 u4 : Addr) (p1 : Int32) (p2 : Int32) (p3 : Int32) (p4 : Int32) : entryFrame m #[xi (3 : Int32), xi p1, xi p2, xi p3, xi p4] 5 = (mkF m 0 #[vi (3 : Int32), vi p1, vi p2, vi p3, vi p4] []) := by first | (simp [entryFrame, mkF, argsToLocals, Value.category]; done) | rfl
set_option maxRecDepth 65536 in
set_option maxHeartbeats 40000000 in
theorem own_c35_expected (l : Launch) (Z : State) (a0 : Array Value) (hw : ∀ d ∈ tables_1, d.before a0 Z = true) (u0 u1 u2 u3 u4 : Addr) (G : own_St Z u0 u1 u2 u3 u4) (p1 : Int32) (p2 : Int32) (p3 : Int32) (p4 : Int32) (as7 : (p4 &&& (1 : Int32)) = (1 : Int32)) (as9 : (p4 &&& (2 : Int32)) = (2 : Int32)) (as11 : (p4 &&& (4 : Int32)) = (4 : Int32)) (h0 : Heap) (n0 : Nat) (O0 : Old Z n0 h0) : own_Met l Z Y9 method_4_code 5 (some .long) ({ frames := 1, cells := 0, slots := 0, locals := 16 } : Room) #[xi (3 : Int32), xi p1, xi p2, xi p3, xi p4] h0 (own_QR (some (xj (((own_h p1 (3 : Int32)) + (own_h p2 (3 : Int32))) + (own_h p3 (3 : Int32))))) h0 n0) := by
  intro ws
  refine MetFree.of_bodySF (plainFor_of_name pn3) hisR ?_
  intro p e s m args below meth c s₁ Bd hml0 hP hK
  obtain ⟨rfl, hZ, hh⟩ := hP
  have hx := Bd.exec
  have hby := Bd.bytes
  have hml : c.maxLocals = 5 := hml0
  have hown : s.vm.findClass "com/example/feedwright/feedwright/LoadSummaryAddPinLaw" = some m.cls := findClass_of_methodNamed Bd.named
  have hnm := (name_of_methodNamed Bd.named Bd.method).1
  have X0 : Stand p l e ({ frames := 1, cells := 0, slots := 0, locals := 16 } : Room) s m #[xi (3 : Int32), xi p1, xi p2, xi p3, xi p4] below meth c s₁ [] 0 0 := Stand.of_body Bd
  have e0 : s₁.heap = h0 := by rw [← hh, Bd.state]; rfl
  have N0 := Fr.nil n0
  have pre0 : ∀ t, Steps p.tables e below (s₁.setTop (mkF m 0 #[vi (3 : Int32), vi p1, vi p2, vi p3, vi p4] [])) t → Steps p.tables e below (s₁.setTop (entryFrame m #[xi (3 : Int32), xi p1, xi p2, xi p3, xi p4] 5)) t := fun t st => castTop (ef_own_c35_expected m u0 u1 u2 u3 u4 p1 p2 p3 p4) st
  obtain ⟨_, _, ⟨T1, L1, k1, n1⟩, -, X1, ⟨Lc1, hQ1, l1, y1, z1⟩, st1⟩ := Jvm.LawKit.callS X0 hx (y := Y6) hown (mvT hZ (ww hw 61 rfl)) (mvT hZ (ww hw 62 rfl)) (mvT hZ (ww hw 2 rfl)) (mvT hZ (ww hw 63 rfl)) (by decide) (backOf (W := 0) (own_hit l Z a0 hw u0 u1 u2 u3 u4 G p1 (3 : Int32) h0 n0 O0 []) hZ (ww hw 63 rfl) (ww hw 2 rfl) (by decide) (by decide)) (g := (mkF m 14 #[vi (3 : Int32), vi p1, vi p2, vi p3, vi p4] [xi (3 : Int32), xi p1, xi (1 : Int32)])) rfl (by rw [hml]; rfl) (argsL := [xi (1 : Int32), xi p1, xi (3 : Int32)]) (rest := []) (lenOf pd5 rfl) rfl (by show 2 * 0 + _ ≤ _; exact Nat.le_of_eq rfl) (hb hby d8_14) (fun _ _ => ⟨rfl, e0, (by decide : 0 + 0 ≤ _), (by decide : 0 + 0 ≤ _)⟩)
  dsimp only [Pt.U, Pt.locs, Pt.cells, Pt.slots] at X1 l1 y1 z1 st1 hQ1
  subst l1 y1 z1
  obtain ⟨rfl, Nq1, e1⟩ := hQ1
  have N1 := Fr.app N0 Nq1
  obtain ⟨_, _, ⟨T2, L2, k2, n2⟩, -, X2, ⟨Lc2, hQ2, l2, y2, z2⟩, st2⟩ := Jvm.LawKit.callS X1 hx (y := Y6) hown (mvT hZ (ww hw 61 rfl)) (mvT hZ (ww hw 62 rfl)) (mvT hZ (ww hw 2 rfl)) (mvT hZ (ww hw 63 rfl)) (by decide) (backOf (W := 2) (own_hit l Z a0 hw u0 u1 u2 u3 u4 G p2 (3 : Int32) h0 n0 O0 []) hZ (ww hw 63 rfl) (ww hw 2 rfl) (by decide) (by decide)) (g := (mkF m 31 #[vi (3 : Int32), vi p1, vi p2, vi p3, vi p4] [xi (3 : Int32), xi p2, xi (1 : Int32), xj (own_h p1 (3 : Int32))])) rfl (by rw [hml]; rfl) (argsL := [xi (1 : Int32), xi p2, xi (3 : Int32)]) (rest := [xj (own_h p1 (3 : Int32))]) (lenOf pd5 rfl) rfl (by show 2 * 0 + _ ≤ _; exact Nat.le_of_eq rfl) (hb hby d8_31) (fun _ _ => ⟨rfl, e1, (by decide : 0 + 0 ≤ _), (by decide : 0 + 0 ≤ _)⟩)
  dsimp only [Pt.U, Pt.locs, Pt.cells, Pt.slots] at X2 l2 y2 z2 st2 hQ2
  subst l2 y2 z2
  obtain ⟨rfl, Nq2, e2⟩ := hQ2
  have N2 := Fr.app N1 Nq2
  obtain ⟨_, _, ⟨T3, L3, k3, n3⟩, -, X3, ⟨Lc3, hQ3, l3, y3, z3⟩, st3⟩ := Jvm.LawKit.callS X2 hx (y := Y6) hown (mvT hZ (ww hw 61 rfl)) (mvT hZ (ww hw 62 rfl)) (mvT hZ (ww hw 2 rfl)) (mvT hZ (ww hw 63 rfl)) (by decide) (backOf (W := 2) (own_hit l Z a0 hw u0 u1 u2 u3 u4 G p3 (3 : Int32) h0 n0 O0 []) hZ (ww hw 63 rfl) (ww hw 2 rfl) (by decide) (by decide)) (g := (mkF m 49 #[vi (3 : Int32), vi p1, vi p2, vi p3, vi p4] [xi (3 : Int32), xi p3, xi (1 : Int32), xj ((own_h p1 (3 : Int32)) + (own_h p2 (3 : Int32)))])) rfl (by rw [hml]; rfl) (argsL := [xi (1 : Int32), xi p3, xi (3 : Int32)]) (rest := [xj ((own_h p1 (3 : Int32)) + (own_h p2 (3 : Int32)))]) (lenOf pd5 rfl) rfl (by show 2 * 0 + _ ≤ _; exact Nat.le_of_eq rfl) (hb hby d8_49) (fun _ _ => ⟨rfl, e2, (by decide : 0 + 0 ≤ _), (by decide : 0 + 0 ≤ _)⟩)
  dsimp only [Pt.U, Pt.locs, Pt.cells, Pt.slots] at X3 l3 y3 z3 st3 hQ3
  subst l3 y3 z3
  obtain ⟨rfl, Nq3, e3⟩ := hQ3
  have N3 := Fr.app N2 Nq3
  obtain ⟨fs, hr, hrun, hended, hW, hsame⟩ := X3.leave (v := some (xj (((own_h p1 (3 : Int32)) + (own_h p2 (3 : Int32))) + (own_h p3 (3 : Int32))))) (fun h => by rw [Bd.returns] at h; cases h)
  refine ⟨_, _, pre0 _ ?_, hrun, hended, _, _, rfl, ?_, ⟨_, rfl⟩, hW, hsame.mono (by decide) (by decide)⟩
  · show own_S p e below s₁ (mkF m 0 #[vi (3 : Int32), vi p1, vi p2, vi p3, vi p4] []) _
    refine XS.iload X0.here hx rfl (hb hby d8_0) rfl ?_
    show own_S p e below s₁ (mkF m 2 #[vi (3 : Int32), vi p1, vi p2, vi p3, vi p4] [xi p4]) _
    refine XS.iconst X0.here hx rfl (hb hby d8_2) ?_
    show own_S p e below s₁ (mkF m 3 #[vi (3 : Int32), vi p1, vi p2, vi p3, vi p4] [xi (1 : Int32), xi p4]) _
    refine XS.iand X0.here hx rfl (hb hby d8_3) rfl ?_
    show own_S p e below s₁ (mkF m 4 #[vi (3 : Int32), vi p1, vi p2, vi p3, vi p4] [xi (p4 &&& (1 : Int32))]) _
    refine castTop (show (mkF m 4 #[vi (3 : Int32), vi p1, vi p2, vi p3, vi p4] [xi (p4 &&& (1 : Int32))]) = (mkF m 4 #[vi (3 : Int32), vi p1, vi p2, vi p3, vi p4] [xi (1 : Int32)]) from by rw [as7]) ?_
    show own_S p e below s₁ (mkF m 4 #[vi (3 : Int32), vi p1, vi p2, vi p3, vi p4] [xi (1 : Int32)]) _
    refine XS.ifNo X0.here hx rfl (hb hby d8_4) rfl (by decide) ?_
    show own_S p e below s₁ (mkF m 7 #[vi (3 : Int32), vi p1, vi p2, vi p3, vi p4] []) _
    refine XS.iconst X0.here hx rfl (hb hby d8_7) ?_
    show own_S p e below s₁ (mkF m 8 #[vi (3 : Int32), vi p1, vi p2, vi p3, vi p4] [xi (1 : Int32)]) _
    refine XS.goto X0.here hx rfl (pc0 := 8) (pc' := 12) rfl (hb hby d8_8) (by decide) (by decide) ?_
    show own_S p e below s₁ (mkF m 12 #[vi (3 : Int32), vi p1, vi p2, vi p3, vi p4] [xi (1 : Int32)]) _
    refine XS.iloadN X0.here hx rfl (hb hby d8_12) rfl ?_
    show own_S p e below s₁ (mkF m 13 #[vi (3 : Int32), vi p1, vi p2, vi p3, vi p4] [xi p1, xi (1 : Int32)]) _
    refine XS.iloadN X0.here hx rfl (hb hby d8_13) rfl ?_
    show own_S p e below s₁ (mkF m 14 #[vi (3 : Int32), vi p1, vi p2, vi p3, vi p4] [xi (3 : Int32), xi p1, xi (1 : Int32)]) _
    refine st1 _ ?_
    show own_S p e below T1 (mkF m 17 #[vi (3 : Int32), vi p1, vi p2, vi p3, vi p4] [xj (own_h p1 (3 : Int32))]) _
    refine XS.iload X1.here hx rfl (hb hby d8_17) rfl ?_
    show own_S p e below T1 (mkF m 19 #[vi (3 : Int32), vi p1, vi p2, vi p3, vi p4] [xi p4, xj (own_h p1 (3 : Int32))]) _
    refine XS.iconst X1.here hx rfl (hb hby d8_19) ?_
    show own_S p e below T1 (mkF m 20 #[vi (3 : Int32), vi p1, vi p2, vi p3, vi p4] [xi (2 : Int32), xi p4, xj (own_h p1 (3 : Int32))]) _
    refine XS.iand X1.here hx rfl (hb hby d8_20) rfl ?_
    show own_S p e below T1 (mkF m 21 #[vi (3 : Int32), vi p1, vi p2, vi p3, vi p4] [xi (p4 &&& (2 : Int32)), xj (own_h p1 (3 : Int32))]) _
    refine castTop (show (mkF m 21 #[vi (3 : Int32), vi p1, vi p2, vi p3, vi p4] [xi (p4 &&& (2 : Int32)), xj (own_h p1 (3 : Int32))]) = (mkF m 21 #[vi (3 : Int32), vi p1, vi p2, vi p3, vi p4] [xi (2 : Int32), xj (own_h p1 (3 : Int32))]) from by rw [as9]) ?_
    show own_S p e below T1 (mkF m 21 #[vi (3 : Int32), vi p1, vi p2, vi p3, vi p4] [xi (2 : Int32), xj (own_h p1 (3 : Int32))]) _
    refine XS.ifNo X1.here hx rfl (hb hby d8_21) rfl (by decide) ?_
    show own_S p e below T1 (mkF m 24 #[vi (3 : Int32), vi p1, vi p2, vi p3, vi p4] [xj (own_h p1 (3 : Int32))]) _
    refine XS.iconst X1.here hx rfl (hb hby d8_24) ?_
    show own_S p e below T1 (mkF m 25 #[vi (3 : Int32), vi p1, vi p2, vi p3, vi p4] [xi (1 : Int32), xj (own_h p1 (3 : Int32))]) _
    refine XS.goto X1.here hx rfl (pc0 := 25) (pc' := 29) rfl (hb hby d8_25) (by decide) (by decide) ?_
    show own_S p e below T1 (mkF m 29 #[vi (3 : Int32), vi p1, vi p2, vi p3, vi p4] [xi (1 : Int32), xj (own_h p1 (3 : Int32))]) _
    refine XS.iloadN X1.here hx rfl (hb hby d8_29) rfl ?_
    show own_S p e below T1 (mkF m 30 #[vi (3 : Int32), vi p1, vi p2, vi p3, vi p4] [xi p2, xi (1 : Int32), xj (own_h p1 (3 : Int32))]) _
    refine XS.iloadN X1.here hx rfl (hb hby d8_30) rfl ?_
    show own_S p e below T1 (mkF m 31 #[vi (3 : Int32), vi p1, vi p2, vi p3, vi p4] [xi (3 : Int32), xi p2, xi (1 : Int32), xj (own_h p1 (3 : Int32))]) _
    refine st2 _ ?_
    show own_S p e below T2 (mkF m 34 #[vi (3 : Int32), vi p1, vi p2, vi p3, vi p4] [xj (own_h p2 (3 : Int32)), xj (own_h p1 (3 : Int32))]) _
    refine XS.ladd X2.here hx rfl (hb hby d8_34) rfl ?_
    show own_S p e below T2 (mkF m 35 #[vi (3 : Int32), vi p1, vi p2, vi p3, vi p4] [xj ((own_h p1 (3 : Int32)) + (own_h p2 (3 : Int32)))]) _
    show own_S p e below T2 (mkF m 35 #[vi (3 : Int32), vi p1, vi p2, vi p3, vi p4] [xj ((own_h p1 (3 : Int32)) + (own_h p2 (3 : Int32)))]) _
    refine XS.iload X2.here hx rfl (hb hby d8_35) rfl ?_
    show own_S p e below T2 (mkF m 37 #[vi (3 : Int32), vi p1, vi p2, vi p3, vi p4] [xi p4, xj ((own_h p1 (3 : Int32)) + (own_h p2 (3 : Int32)))]) _
    refine XS.iconst X2.here hx rfl (hb hby d8_37) ?_
    show own_S p e below T2 (mkF m 38 #[vi (3 : Int32), vi p1, vi p2, vi p3, vi p4] [xi (4 : Int32), xi p4, xj ((own_h p1 (3 : Int32)) + (own_h p2 (3 : Int32)))]) _
    refine XS.iand X2.here hx rfl (hb hby d8_38) rfl ?_
    show own_S p e below T2 (mkF m 39 #[vi (3 : Int32), vi p1, vi p2, vi p3, vi p4] [xi (p4 &&& (4 : Int32)), xj ((own_h p1 (3 : Int32)) + (own_h p2 (3 : Int32)))]) _
    refine castTop (show (mkF m 39 #[vi (3 : Int32), vi p1, vi p2, vi p3, vi p4] [xi (p4 &&& (4 : Int32)), xj ((own_h p1 (3 : Int32)) + (own_h p2 (3 : Int32)))]) = (mkF m 39 #[vi (3 : Int32), vi p1, vi p2, vi p3, vi p4] [xi (4 : Int32), xj ((own_h p1 (3 : Int32)) + (own_h p2 (3 : Int32)))]) from by rw [as11]) ?_
    show own_S p e below T2 (mkF m 39 #[vi (3 : Int32), vi p1, vi p2, vi p3, vi p4] [xi (4 : Int32), xj ((own_h p1 (3 : Int32)) + (own_h p2 (3 : Int32)))]) _
    refine XS.ifNo X2.here hx rfl (hb hby d8_39) rfl (by decide) ?_
    show own_S p e below T2 (mkF m 42 #[vi (3 : Int32), vi p1, vi p2, vi p3, vi p4] [xj ((own_h p1 (3 : Int32)) + (own_h p2 (3 : Int32)))]) _
    refine XS.iconst X2.here hx rfl (hb hby d8_42) ?_
    show own_S p e below T2 (mkF m 43 #[vi (3 : Int32), vi p1, vi p2, vi p3, vi p4] [xi (1 : Int32), xj ((own_h p1 (3 : Int32)) + (own_h p2 (3 : Int32)))]) _
    refine XS.goto X2.here hx rfl (pc0 := 43) (pc' := 47) rfl (hb hby d8_43) (by decide) (by decide) ?_
    show own_S p e below T2 (mkF m 47 #[vi (3 : Int32), vi p1, vi p2, vi p3, vi p4] [xi (1 : Int32), xj ((own_h p1 (3 : Int32)) + (own_h p2 (3 : Int32)))]) _
    refine XS.iloadN X2.here hx rfl (hb hby d8_47) rfl ?_
    show own_S p e below T2 (mkF m 48 #[vi (3 : Int32), vi p1, vi p2, vi p3, vi p4] [xi p3, xi (1 : Int32), xj ((own_h p1 (3 : Int32)) + (own_h p2 (3 : Int32)))]) _
    refine XS.iloadN X2.here hx rfl (hb hby d8_48) rfl ?_
    show own_S p e below T2 (mkF m 49 #[vi (3 : Int32), vi p1, vi p2, vi p3, vi p4] [xi (3 : Int32), xi p3, xi (1 : Int32), xj ((own_h p1 (3 : Int32)) + (own_h p2 (3 : Int32)))]) _
    refine st3 _ ?_
    show own_S p e below T3 (mkF m 52 #[vi (3 : Int32), vi p1, vi p2, vi p3, vi p4] [xj (own_h p3 (3 : Int32)), xj ((own_h p1 (3 : Int32)) + (own_h p2 (3 : Int32)))]) _
    refine XS.ladd X3.here hx rfl (hb hby d8_52) rfl ?_
    show own_S p e below T3 (mkF m 53 #[vi (3 : Int32), vi p1, vi p2, vi p3, vi p4] [xj (((own_h p1 (3 : Int32)) + (own_h p2 (3 : Int32))) + (own_h p3 (3 : Int32)))]) _
    show own_S p e below T3 (mkF m 53 #[vi (3 : Int32), vi p1, vi p2, vi p3, vi p4] [xj (((own_h p1 (3 : Int32)) + (own_h p2 (3 : Int32))) + (own_h p3 (3 : Int32)))]) _
    exact X3.lreturnOut hx Bd.returns (hb hby d8_53) hr
  · exact ⟨rfl, N3, e3⟩
theorem ef_own_l7 (m : MethodId) (u0 u1 u2 u3 u4 : Addr) (p1 : Int32) (p2 : Int32) (p3 : Int32) (p4 : Int32) (va1 : Addr) (va2 : Addr) (va3 : Addr) : entryFrame m #[xi p1, xi p2, xi p3, xi p4] maxLocals = (mkF m 0 #[vi p1, vi p2, vi p3, vi p4, vu, vu, vu, vu, vu, vu, vu, vu, vu] []) := by first | (simp [entryFrame, mkF, argsToLocals, Value.category, maxLocals]; done) | rfl
set_option maxRecDepth 65536 in
set_option maxHeartbeats 40000000 in
theorem own_l7 (l : Launch) (Z : State) (a0 : Array Value) (hw : ∀ d ∈ tables_1, d.before a0 Z = true) (u0 u1 u2 u3 u4 : Addr) (G : own_St Z u0 u1 u2 u3 u4) (p1 : Int32) (p2 : Int32) (p3 : Int32) (p4 : Int32) (va1 : Addr) (va2 : Addr) (va3 : Addr) (as7 : (p4 &&& (1 : Int32)) = (1 : Int32)) (as9 : (p4 &&& (2 : Int32)) = (2 : Int32)) (as11 : (p4 &&& (4 : Int32)) = (4 : Int32)) (hv1 : own_is u0 u1 u2 u3 u4 p1 va1) (hv2 : own_is u0 u1 u2 u3 u4 p2 va2) (hv3 : own_is u0 u1 u2 u3 u4 p3 va3) (h0 : Heap) (n0 : Nat) (O0 : Old Z n0 h0) : own_Met l Z x code maxLocals ret room_1 #[xi p1, xi p2, xi p3, xi p4] h0 (own_QL (some (xi (1 : Int32))) n0) := by
  intro ws
  refine MetFree.of_bodySF (plainFor_of_name pn3) hisR ?_
  intro p e s m args below meth c s₁ Bd hml0 hP hK
  obtain ⟨rfl, hZ, hh⟩ := hP
  have hx := Bd.exec
  have hby := Bd.bytes
  have hml : c.maxLocals = 13 := hml0
  have hown : s.vm.findClass "com/example/feedwright/feedwright/LoadSummaryAddPinLaw" = some m.cls := findClass_of_methodNamed Bd.named
  have hnm := (name_of_methodNamed Bd.named Bd.method).1
  have X0 : Stand p l e room_1 s m #[xi p1, xi p2, xi p3, xi p4] below meth c s₁ [] 0 0 := Stand.of_body Bd
  have e0 : s₁.heap = h0 := by rw [← hh, Bd.state]; rfl
  have N0 := Fr.nil n0
  have pre0 : ∀ t, Steps p.tables e below (s₁.setTop (mkF m 0 #[vi p1, vi p2, vi p3, vi p4, vu, vu, vu, vu, vu, vu, vu, vu, vu] [])) t → Steps p.tables e below (s₁.setTop (entryFrame m #[xi p1, xi p2, xi p3, xi p4] maxLocals)) t := fun t st => castTop (ef_own_l7 m u0 u1 u2 u3 u4 p1 p2 p3 p4 va1 va2 va3) st
  obtain ⟨_, _, ⟨T1, L1, k1, n1⟩, -, X1, ⟨Lc1, hQ1, l1, y1, z1⟩, st1⟩ := Jvm.LawKit.callS X0 hx (y := Y5) hown (mvT hZ (ww hw 0 rfl)) (mvT hZ (ww hw 1 rfl)) (mvT hZ (ww hw 2 rfl)) (mvT hZ (ww hw 3 rfl)) (by decide) (backOf (W := 0) (own_pick l Z a0 hw u0 u1 u2 u3 u4 G p1 va1 hv1 h0 n0 O0 []) hZ (ww hw 3 rfl) (ww hw 2 rfl) (by decide) (by decide)) (g := (mkF m 40 #[vi p1, vi p2, vi p3, vi p4, vi (1 : Int32), vi (1 : Int32), vi (1 : Int32), vu, vu, vu, vu, vu, vu] [xi p1])) rfl (by rw [hml]; rfl) (argsL := [xi p1]) (rest := []) (lenOf pd2 rfl) rfl (by show 2 * 0 + _ ≤ _; exact Nat.le_of_eq rfl) (hb hby at_40) (fun _ _ => ⟨rfl, e0, (by decide : 0 + 0 ≤ _), (by decide : 0 + 0 ≤ _)⟩)
  dsimp only [Pt.U, Pt.locs, Pt.cells, Pt.slots] at X1 l1 y1 z1 st1 hQ1
  subst l1 y1 z1
  obtain ⟨rfl, Nq1, e1⟩ := hQ1
  have N1 := Fr.app N0 Nq1
  obtain ⟨_, _, ⟨T2, L2, k2, n2⟩, -, X2, ⟨Lc2, hQ2, l2, y2, z2⟩, st2⟩ := Jvm.LawKit.callS X1 hx (y := Y5) hown (mvT hZ (ww hw 0 rfl)) (mvT hZ (ww hw 1 rfl)) (mvT hZ (ww hw 2 rfl)) (mvT hZ (ww hw 3 rfl)) (by decide) (backOf (W := 0) (own_pick l Z a0 hw u0 u1 u2 u3 u4 G p2 va2 hv2 h0 n0 O0 []) hZ (ww hw 3 rfl) (ww hw 2 rfl) (by decide) (by decide)) (g := (mkF m 46 #[vi p1, vi p2, vi p3, vi p4, vi (1 : Int32), vi (1 : Int32), vi (1 : Int32), vr va1, vu, vu, vu, vu, vu] [xi p2])) rfl (by rw [hml]; rfl) (argsL := [xi p2]) (rest := []) (lenOf pd2 rfl) rfl (by show 2 * 0 + _ ≤ _; exact Nat.le_of_eq rfl) (hb hby at_46) (fun _ _ => ⟨rfl, e1, (by decide : 0 + 0 ≤ _), (by decide : 0 + 0 ≤ _)⟩)
  dsimp only [Pt.U, Pt.locs, Pt.cells, Pt.slots] at X2 l2 y2 z2 st2 hQ2
  subst l2 y2 z2
  obtain ⟨rfl, Nq2, e2⟩ := hQ2
  have N2 := Fr.app N1 Nq2
  obtain ⟨_, _, ⟨T3, L3, k3, n3⟩, -, X3, ⟨Lc3, hQ3, l3, y3, z3⟩, st3⟩ := Jvm.LawKit.callS X2 hx (y := Y5) hown (mvT hZ (ww hw 0 rfl)) (mvT hZ (ww hw 1 rfl)) (mvT hZ (ww hw 2 rfl)) (mvT hZ (ww hw 3 rfl)) (by decide) (backOf (W := 0) (own_pick l Z a0 hw u0 u1 u2 u3 u4 G p3 va3 hv3 h0 n0 O0 []) hZ (ww hw 3 rfl) (ww hw 2 rfl) (by decide) (by decide)) (g := (mkF m 52 #[vi p1, vi p2, vi p3, vi p4, vi (1 : Int32), vi (1 : Int32), vi (1 : Int32), vr va1, vr va2, vu, vu, vu, vu] [xi p3])) rfl (by rw [hml]; rfl) (argsL := [xi p3]) (rest := []) (lenOf pd2 rfl) rfl (by show 2 * 0 + _ ≤ _; exact Nat.le_of_eq rfl) (hb hby at_52) (fun _ _ => ⟨rfl, e2, (by decide : 0 + 0 ≤ _), (by decide : 0 + 0 ≤ _)⟩)
  dsimp only [Pt.U, Pt.locs, Pt.cells, Pt.slots] at X3 l3 y3 z3 st3 hQ3
  subst l3 y3 z3
  obtain ⟨rfl, Nq3, e3⟩ := hQ3
  have N3 := Fr.app N2 Nq3
  obtain ⟨T4, h4, X4, e4, E4, A4, D4, -, st4⟩ := newO X3 hx hZ hown (ww hw 11 rfl) (ww hw 12 rfl) (ww hw 13 rfl) e3 (g := (mkF m 57 #[vi p1, vi p2, vi p3, vi p4, vi (1 : Int32), vi (1 : Int32), vi (1 : Int32), vr va1, vr va2, vr va3, vu, vu, vu] [])) rfl (hb hby at_57) (by decide) (by decide)
  obtain ⟨b4, g4⟩ : ∃ z, z = h0.size := ⟨_, rfl⟩
  rw [← g4] at A4 D4 st4
  have g_b4 : n0 ≤ b4 := own_fresh O0 g4
  have O4 : Old Z n0 h4 := O0.ext E4
  have F_b4_counts : Fld Z h4 b4 "com/example/feedwright/feedwright/LoadSummary" "counts" "[J" .null := D4 (Or.inr (ww hw 38 rfl)) (ty := (.array .long)) (by decide)
  obtain ⟨_, _, ⟨T5, L5, k5, n5⟩, -, X5, ⟨Lc5, hQ5, l5, y5, z5⟩, st5⟩ := X4.specialBack hx (y := Y1) rfl hown (mvT hZ (ww hw 14 rfl)) (mvT hZ (ww hw 15 rfl)) (mvT hZ (ww hw 16 rfl)) (by decide) (backOf (W := 1) (own_init l Z a0 hw u0 u1 u2 u3 u4 G b4 h4 n0 O4 A4 F_b4_counts g_b4 []) hZ (ww hw 16 rfl) (ww hw 13 rfl) (by decide) (by decide)) (g := (mkF m 61 #[vi p1, vi p2, vi p3, vi p4, vi (1 : Int32), vi (1 : Int32), vi (1 : Int32), vr va1, vr va2, vr va3, vu, vu, vu] [xr b4, xr b4])) rfl (by rw [hml]; rfl) (Steps.refl _) (a := b4) (argsL := []) (rest := [xr b4]) (lenOf pd3 rfl) rfl (by show 2 * 0 + _ ≤ _; exact Nat.le_of_eq rfl) (hb hby at_61) (fun _ _ => ⟨rfl, e4, (by decide : 1 + 2 ≤ _), (by decide : 1 + 8 ≤ _)⟩)
  dsimp only [Pt.U, Pt.locs, Pt.cells, Pt.slots] at X5 l5 y5 z5 st5 hQ5
  subst l5 y5 z5
  obtain ⟨h5, e5⟩ : ∃ z, T5.heap = z := ⟨_, rfl⟩
  rw [e5] at hQ5
  obtain ⟨rfl, Nq5, K5, bb5, kk5, -, Fc5, Vb5, nb5, -, g_bb5⟩ := hQ5
  have N5 := Fr.app N3 Nq5
  have O5 : Old Z n0 h5 := O4.keep K5 (allS g_b4 all0)
  have X_b4_5 := A4.keep K5
  obtain ⟨cq6, kq6, qa6, qb6, qc6⟩ := isOf hZ e5 X_b4_5
  obtain ⟨_, _, ⟨T6, L6, k6, n6⟩, -, X6, ⟨Lc6, hQ6, l6, y6, z6⟩, st6⟩ := X5.virtualBack hx (y := Y4) (z := Y4) hown (mvT hZ (ww hw 39 rfl)) (mvT hZ (ww hw 40 rfl)) (notFace_of_selects (args := #[]) (mvT hZ (ww hw 42 rfl))) (mvT hZ (ww hw 42 rfl)) (mvT hZ (ww hw 41 rfl)) (by decide) (backOf (W := 0) (own_add l Z a0 hw u0 u1 u2 u3 u4 G b4 bb5 kk5 (0 : Int64) (0 : Int64) (0 : Int64) (0 : Int64) p1 va1 hv1 h5 n0 O5 ⟨X_b4_5, Fc5, Vb5, nb5, g_b4, g_bb5⟩ []) hZ (ww hw 43 rfl) (ww hw 13 rfl) (by decide) (by decide)) qa6 qc6 (g := (mkF m 75 #[vi p1, vi p2, vi p3, vi p4, vi (1 : Int32), vi (1 : Int32), vi (1 : Int32), vr va1, vr va2, vr va3, vr b4, vu, vu] [xr va1, xr b4])) rfl (by rw [hml]; rfl) (Steps.refl _) (argsL := [xr va1]) (rest := []) (lenOf pd8 rfl) rfl (by show 2 * 0 + _ ≤ _; exact Nat.le_of_eq rfl) (hb hby at_75) (fun _ _ => ⟨rfl, e5, (by decide : 3 + 0 ≤ _), (by decide : 9 + 0 ≤ _)⟩)
  dsimp only [Pt.U, Pt.locs, Pt.cells, Pt.slots] at X6 l6 y6 z6 st6 hQ6
  subst l6 y6 z6
  obtain ⟨h6, e6⟩ : ∃ z, T6.heap = z := ⟨_, rfl⟩
  rw [e6] at hQ6
  obtain ⟨rfl, Nq6, K6, -, -, Vn6, -⟩ := hQ6
  have N6 := Fr.app N5 Nq6
  have O6 : Old Z n0 h6 := O5.keep K6 (allS g_bb5 all0)
  have X_b4_6 := X_b4_5.keep K6
  have F_b4_counts_6 := Fc5.keep K6 (ninS nb5 nin0)
  obtain ⟨cq7, kq7, qa7, qb7, qc7⟩ := isOf hZ e6 X_b4_6
  obtain ⟨_, _, ⟨T7, L7, k7, n7⟩, -, X7, ⟨Lc7, hQ7, l7, y7, z7⟩, st7⟩ := X6.virtualBack hx (y := Y4) (z := Y4) hown (mvT hZ (ww hw 39 rfl)) (mvT hZ (ww hw 40 rfl)) (notFace_of_selects (args := #[]) (mvT hZ (ww hw 42 rfl))) (mvT hZ (ww hw 42 rfl)) (mvT hZ (ww hw 41 rfl)) (by decide) (backOf (W := 0) (own_add l Z a0 hw u0 u1 u2 u3 u4 G b4 bb5 kk5 ((0 : Int64) + own_h p1 0) ((0 : Int64) + own_h p1 1) ((0 : Int64) + own_h p1 2) ((0 : Int64) + own_h p1 3) p2 va2 hv2 h6 n0 O6 ⟨X_b4_6, F_b4_counts_6, Vn6, nb5, g_b4, g_bb5⟩ []) hZ (ww hw 43 rfl) (ww hw 13 rfl) (by decide) (by decide)) qa7 qc7 (g := (mkF m 87 #[vi p1, vi p2, vi p3, vi p4, vi (1 : Int32), vi (1 : Int32), vi (1 : Int32), vr va1, vr va2, vr va3, vr b4, vu, vu] [xr va2, xr b4])) rfl (by rw [hml]; rfl) (Steps.refl _) (argsL := [xr va2]) (rest := []) (lenOf pd8 rfl) rfl (by show 2 * 0 + _ ≤ _; exact Nat.le_of_eq rfl) (hb hby at_87) (fun _ _ => ⟨rfl, e6, (by decide : 3 + 0 ≤ _), (by decide : 9 + 0 ≤ _)⟩)
  dsimp only [Pt.U, Pt.locs, Pt.cells, Pt.slots] at X7 l7 y7 z7 st7 hQ7
  subst l7 y7 z7
  obtain ⟨h7, e7⟩ : ∃ z, T7.heap = z := ⟨_, rfl⟩
  rw [e7] at hQ7
  obtain ⟨rfl, Nq7, K7, -, -, Vn7, -⟩ := hQ7
  have N7 := Fr.app N6 Nq7
  have O7 : Old Z n0 h7 := O6.keep K7 (allS g_bb5 all0)
  have X_b4_7 := X_b4_6.keep K7
  have F_b4_counts_7 := F_b4_counts_6.keep K7 (ninS nb5 nin0)
  obtain ⟨cq8, kq8, qa8, qb8, qc8⟩ := isOf hZ e7 X_b4_7
  obtain ⟨_, _, ⟨T8, L8, k8, n8⟩, -, X8, ⟨Lc8, hQ8, l8, y8, z8⟩, st8⟩ := X7.virtualBack hx (y := Y4) (z := Y4) hown (mvT hZ (ww hw 39 rfl)) (mvT hZ (ww hw 40 rfl)) (notFace_of_selects (args := #[]) (mvT hZ (ww hw 42 rfl))) (mvT hZ (ww hw 42 rfl)) (mvT hZ (ww hw 41 rfl)) (by decide) (backOf (W := 0) (own_add l Z a0 hw u0 u1 u2 u3 u4 G b4 bb5 kk5 (((0 : Int64) + own_h p1 0) + own_h p2 0) (((0 : Int64) + own_h p1 1) + own_h p2 1) (((0 : Int64) + own_h p1 2) + own_h p2 2) (((0 : Int64) + own_h p1 3) + own_h p2 3) p3 va3 hv3 h7 n0 O7 ⟨X_b4_7, F_b4_counts_7, Vn7, nb5, g_b4, g_bb5⟩ []) hZ (ww hw 43 rfl) (ww hw 13 rfl) (by decide) (by decide)) qa8 qc8 (g := (mkF m 99 #[vi p1, vi p2, vi p3, vi p4, vi (1 : Int32), vi (1 : Int32), vi (1 : Int32), vr va1, vr va2, vr va3, vr b4, vu, vu] [xr va3, xr b4])) rfl (by rw [hml]; rfl) (Steps.refl _) (argsL := [xr va3]) (rest := []) (lenOf pd8 rfl) rfl (by show 2 * 0 + _ ≤ _; exact Nat.le_of_eq rfl) (hb hby at_99) (fun _ _ => ⟨rfl, e7, (by decide : 3 + 0 ≤ _), (by decide : 9 + 0 ≤ _)⟩)
  dsimp only [Pt.U, Pt.locs, Pt.cells, Pt.slots] at X8 l8 y8 z8 st8 hQ8
  subst l8 y8 z8
  obtain ⟨h8, e8⟩ : ∃ z, T8.heap = z := ⟨_, rfl⟩
  rw [e8] at hQ8
  obtain ⟨rfl, Nq8, K8, -, -, Vn8, -⟩ := hQ8
  have N8 := Fr.app N7 Nq8
  have O8 : Old Z n0 h8 := O7.keep K8 (allS g_bb5 all0)
  have X_b4_8 := X_b4_7.keep K8
  have F_b4_counts_8 := F_b4_counts_7.keep K8 (ninS nb5 nin0)
  obtain ⟨T9, X9, e9, st9⟩ := getS2 X8 hx hZ hown (host := "") (Or.inl (ww hw 4 rfl)) Via.refl e8 ((own_S_u0 G).ext O8.2) (g := (mkF m 138 #[vi p1, vi p2, vi p3, vi p4, vi (1 : Int32), vi (1 : Int32), vi (1 : Int32), vr va1, vr va2, vr va3, vr b4, vj (3 : Int64), .second] [xr b4])) rfl (hb hby at_138)
  obtain ⟨cq10, kq10, qa10, qb10, qc10⟩ := isOf hZ e9 X_b4_8
  obtain ⟨_, _, ⟨T10, L10, k10, n10⟩, -, X10, ⟨Lc10, hQ10, l10, y10, z10⟩, st10⟩ := X9.virtualBack hx (y := Y7) (z := Y7) hown (mvT hZ (ww hw 53 rfl)) (mvT hZ (ww hw 54 rfl)) (notFace_of_selects (args := #[]) (mvT hZ (ww hw 56 rfl))) (mvT hZ (ww hw 56 rfl)) (mvT hZ (ww hw 55 rfl)) (by decide) (backOf (W := 0) (own_count0 l Z a0 hw u0 u1 u2 u3 u4 G b4 bb5 kk5 ((((0 : Int64) + own_h p1 0) + own_h p2 0) + own_h p3 0) ((((0 : Int64) + own_h p1 1) + own_h p2 1) + own_h p3 1) ((((0 : Int64) + own_h p1 2) + own_h p2 2) + own_h p3 2) ((((0 : Int64) + own_h p1 3) + own_h p2 3) + own_h p3 3) h8 n0 O8 ⟨X_b4_8, F_b4_counts_8, Vn8, nb5, g_b4, g_bb5⟩ []) hZ (ww hw 57 rfl) (ww hw 13 rfl) (by decide) (by decide)) qa10 qc10 (g := (mkF m 141 #[vi p1, vi p2, vi p3, vi p4, vi (1 : Int32), vi (1 : Int32), vi (1 : Int32), vr va1, vr va2, vr va3, vr b4, vj (3 : Int64), .second] [xr u0, xr b4])) rfl (by rw [hml]; rfl) (Steps.refl _) (argsL := [xr u0]) (rest := []) (lenOf pd4 rfl) rfl (by show 2 * 0 + _ ≤ _; exact Nat.le_of_eq rfl) (hb hby at_141) (fun _ _ => ⟨rfl, e9, (by decide : 3 + 0 ≤ _), (by decide : 9 + 0 ≤ _)⟩)
  dsimp only [Pt.U, Pt.locs, Pt.cells, Pt.slots] at X10 l10 y10 z10 st10 hQ10
  subst l10 y10 z10
  obtain ⟨rfl, Nq10, e10⟩ := hQ10
  have N10 := Fr.app N8 Nq10
  obtain ⟨_, _, ⟨T11, L11, k11, n11⟩, -, X11, ⟨Lc11, hQ11, l11, y11, z11⟩, st11⟩ := Jvm.LawKit.callS X10 hx (y := Y9) hown (mvT hZ (ww hw 58 rfl)) (mvT hZ (ww hw 59 rfl)) (mvT hZ (ww hw 2 rfl)) (mvT hZ (ww hw 60 rfl)) (by decide) (backOf (W := 2) (own_c32_expected l Z a0 hw u0 u1 u2 u3 u4 G p1 p2 p3 p4 as7 as9 as11 h8 n0 O8 []) hZ (ww hw 60 rfl) (ww hw 2 rfl) (by decide) (by decide)) (g := (mkF m 149 #[vi p1, vi p2, vi p3, vi p4, vi (1 : Int32), vi (1 : Int32), vi (1 : Int32), vr va1, vr va2, vr va3, vr b4, vj (3 : Int64), .second] [xi p4, xi p3, xi p2, xi p1, xi (0 : Int32), xj ((((0 : Int64) + own_h p1 0) + own_h p2 0) + own_h p3 0)])) rfl (by rw [hml]; rfl) (argsL := [xi (0 : Int32), xi p1, xi p2, xi p3, xi p4]) (rest := [xj ((((0 : Int64) + own_h p1 0) + own_h p2 0) + own_h p3 0)]) (lenOf pd6 rfl) rfl (by show 2 * 0 + _ ≤ _; exact Nat.le_of_eq rfl) (hb hby at_149) (fun _ _ => ⟨rfl, e10, (by decide : 3 + 0 ≤ _), (by decide : 9 + 0 ≤ _)⟩)
  dsimp only [Pt.U, Pt.locs, Pt.cells, Pt.slots] at X11 l11 y11 z11 st11 hQ11
  subst l11 y11 z11
  obtain ⟨rfl, Nq11, e11⟩ := hQ11
  have N11 := Fr.app N10 Nq11
  obtain ⟨T12, X12, e12, st12⟩ := getS2 X11 hx hZ hown (host := "") (Or.inl (ww hw 64 rfl)) Via.refl e11 ((own_S_u4 G).ext O8.2) (g := (mkF m 158 #[vi p1, vi p2, vi p3, vi p4, vi (1 : Int32), vi (1 : Int32), vi (1 : Int32), vr va1, vr va2, vr va3, vr b4, vj (3 : Int64), .second] [xr b4])) rfl (hb hby at_158)
  obtain ⟨cq13, kq13, qa13, qb13, qc13⟩ := isOf hZ e12 X_b4_8
  obtain ⟨_, _, ⟨T13, L13, k13, n13⟩, -, X13, ⟨Lc13, hQ13, l13, y13, z13⟩, st13⟩ := X12.virtualBack hx (y := Y7) (z := Y7) hown (mvT hZ (ww hw 53 rfl)) (mvT hZ (ww hw 54 rfl)) (notFace_of_selects (args := #[]) (mvT hZ (ww hw 56 rfl))) (mvT hZ (ww hw 56 rfl)) (mvT hZ (ww hw 55 rfl)) (by decide) (backOf (W := 0) (own_count1 l Z a0 hw u0 u1 u2 u3 u4 G b4 bb5 kk5 ((((0 : Int64) + own_h p1 0) + own_h p2 0) + own_h p3 0) ((((0 : Int64) + own_h p1 1) + own_h p2 1) + own_h p3 1) ((((0 : Int64) + own_h p1 2) + own_h p2 2) + own_h p3 2) ((((0 : Int64) + own_h p1 3) + own_h p2 3) + own_h p3 3) h8 n0 O8 ⟨X_b4_8, F_b4_counts_8, Vn8, nb5, g_b4, g_bb5⟩ []) hZ (ww hw 57 rfl) (ww hw 13 rfl) (by decide) (by decide)) qa13 qc13 (g := (mkF m 161 #[vi p1, vi p2, vi p3, vi p4, vi (1 : Int32), vi (1 : Int32), vi (1 : Int32), vr va1, vr va2, vr va3, vr b4, vj (3 : Int64), .second] [xr u4, xr b4])) rfl (by rw [hml]; rfl) (Steps.refl _) (argsL := [xr u4]) (rest := []) (lenOf pd4 rfl) rfl (by show 2 * 0 + _ ≤ _; exact Nat.le_of_eq rfl) (hb hby at_161) (fun _ _ => ⟨rfl, e12, (by decide : 3 + 0 ≤ _), (by decide : 9 + 0 ≤ _)⟩)
  dsimp only [Pt.U, Pt.locs, Pt.cells, Pt.slots] at X13 l13 y13 z13 st13 hQ13
  subst l13 y13 z13
  obtain ⟨rfl, Nq13, e13⟩ := hQ13
  have N13 := Fr.app N11 Nq13
  obtain ⟨_, _, ⟨T14, L14, k14, n14⟩, -, X14, ⟨Lc14, hQ14, l14, y14, z14⟩, st14⟩ := Jvm.LawKit.callS X13 hx (y := Y9) hown (mvT hZ (ww hw 58 rfl)) (mvT hZ (ww hw 59 rfl)) (mvT hZ (ww hw 2 rfl)) (mvT hZ (ww hw 60 rfl)) (by decide) (backOf (W := 2) (own_c33_expected l Z a0 hw u0 u1 u2 u3 u4 G p1 p2 p3 p4 as7 as9 as11 h8 n0 O8 []) hZ (ww hw 60 rfl) (ww hw 2 rfl) (by decide) (by decide)) (g := (mkF m 169 #[vi p1, vi p2, vi p3, vi p4, vi (1 : Int32), vi (1 : Int32), vi (1 : Int32), vr va1, vr va2, vr va3, vr b4, vj (3 : Int64), .second] [xi p4, xi p3, xi p2, xi p1, xi (1 : Int32), xj ((((0 : Int64) + own_h p1 1) + own_h p2 1) + own_h p3 1)])) rfl (by rw [hml]; rfl) (argsL := [xi (1 : Int32), xi p1, xi p2, xi p3, xi p4]) (rest := [xj ((((0 : Int64) + own_h p1 1) + own_h p2 1) + own_h p3 1)]) (lenOf pd6 rfl) rfl (by show 2 * 0 + _ ≤ _; exact Nat.le_of_eq rfl) (hb hby at_169) (fun _ _ => ⟨rfl, e13, (by decide : 3 + 0 ≤ _), (by decide : 9 + 0 ≤ _)⟩)
  dsimp only [Pt.U, Pt.locs, Pt.cells, Pt.slots] at X14 l14 y14 z14 st14 hQ14
  subst l14 y14 z14
  obtain ⟨rfl, Nq14, e14⟩ := hQ14
  have N14 := Fr.app N13 Nq14
  obtain ⟨T15, X15, e15, st15⟩ := getS2 X14 hx hZ hown (host := "") (Or.inl (ww hw 9 rfl)) Via.refl e14 ((own_S_u2 G).ext O8.2) (g := (mkF m 178 #[vi p1, vi p2, vi p3, vi p4, vi (1 : Int32), vi (1 : Int32), vi (1 : Int32), vr va1, vr va2, vr va3, vr b4, vj (3 : Int64), .second] [xr b4])) rfl (hb hby at_178)
  obtain ⟨cq16, kq16, qa16, qb16, qc16⟩ := isOf hZ e15 X_b4_8
  obtain ⟨_, _, ⟨T16, L16, k16, n16⟩, -, X16, ⟨Lc16, hQ16, l16, y16, z16⟩, st16⟩ := X15.virtualBack hx (y := Y7) (z := Y7) hown (mvT hZ (ww hw 53 rfl)) (mvT hZ (ww hw 54 rfl)) (notFace_of_selects (args := #[]) (mvT hZ (ww hw 56 rfl))) (mvT hZ (ww hw 56 rfl)) (mvT hZ (ww hw 55 rfl)) (by decide) (backOf (W := 0) (own_count2 l Z a0 hw u0 u1 u2 u3 u4 G b4 bb5 kk5 ((((0 : Int64) + own_h p1 0) + own_h p2 0) + own_h p3 0) ((((0 : Int64) + own_h p1 1) + own_h p2 1) + own_h p3 1) ((((0 : Int64) + own_h p1 2) + own_h p2 2) + own_h p3 2) ((((0 : Int64) + own_h p1 3) + own_h p2 3) + own_h p3 3) h8 n0 O8 ⟨X_b4_8, F_b4_counts_8, Vn8, nb5, g_b4, g_bb5⟩ []) hZ (ww hw 57 rfl) (ww hw 13 rfl) (by decide) (by decide)) qa16 qc16 (g := (mkF m 181 #[vi p1, vi p2, vi p3, vi p4, vi (1 : Int32), vi (1 : Int32), vi (1 : Int32), vr va1, vr va2, vr va3, vr b4, vj (3 : Int64), .second] [xr u2, xr b4])) rfl (by rw [hml]; rfl) (Steps.refl _) (argsL := [xr u2]) (rest := []) (lenOf pd4 rfl) rfl (by show 2 * 0 + _ ≤ _; exact Nat.le_of_eq rfl) (hb hby at_181) (fun _ _ => ⟨rfl, e15, (by decide : 3 + 0 ≤ _), (by decide : 9 + 0 ≤ _)⟩)
  dsimp only [Pt.U, Pt.locs, Pt.cells, Pt.slots] at X16 l16 y16 z16 st16 hQ16
  subst l16 y16 z16
  obtain ⟨rfl, Nq16, e16⟩ := hQ16
  have N16 := Fr.app N14 Nq16
  obtain ⟨_, _, ⟨T17, L17, k17, n17⟩, -, X17, ⟨Lc17, hQ17, l17, y17, z17⟩, st17⟩ := Jvm.LawKit.callS X16 hx (y := Y9) hown (mvT hZ (ww hw 58 rfl)) (mvT hZ (ww hw 59 rfl)) (mvT hZ (ww hw 2 rfl)) (mvT hZ (ww hw 60 rfl)) (by decide) (backOf (W := 2) (own_c34_expected l Z a0 hw u0 u1 u2 u3 u4 G p1 p2 p3 p4 as7 as9 as11 h8 n0 O8 []) hZ (ww hw 60 rfl) (ww hw 2 rfl) (by decide) (by decide)) (g := (mkF m 189 #[vi p1, vi p2, vi p3, vi p4, vi (1 : Int32), vi (1 : Int32), vi (1 : Int32), vr va1, vr va2, vr va3, vr b4, vj (3 : Int64), .second] [xi p4, xi p3, xi p2, xi p1, xi (2 : Int32), xj ((((0 : Int64) + own_h p1 2) + own_h p2 2) + own_h p3 2)])) rfl (by rw [hml]; rfl) (argsL := [xi (2 : Int32), xi p1, xi p2, xi p3, xi p4]) (rest := [xj ((((0 : Int64) + own_h p1 2) + own_h p2 2) + own_h p3 2)]) (lenOf pd6 rfl) rfl (by show 2 * 0 + _ ≤ _; exact Nat.le_of_eq rfl) (hb hby at_189) (fun _ _ => ⟨rfl, e16, (by decide : 3 + 0 ≤ _), (by decide : 9 + 0 ≤ _)⟩)
  dsimp only [Pt.U, Pt.locs, Pt.cells, Pt.slots] at X17 l17 y17 z17 st17 hQ17
  subst l17 y17 z17
  obtain ⟨rfl, Nq17, e17⟩ := hQ17
  have N17 := Fr.app N16 Nq17
  obtain ⟨T18, X18, e18, st18⟩ := getS2 X17 hx hZ hown (host := "") (Or.inl (ww hw 7 rfl)) Via.refl e17 ((own_S_u1 G).ext O8.2) (g := (mkF m 198 #[vi p1, vi p2, vi p3, vi p4, vi (1 : Int32), vi (1 : Int32), vi (1 : Int32), vr va1, vr va2, vr va3, vr b4, vj (3 : Int64), .second] [xr b4])) rfl (hb hby at_198)
  obtain ⟨cq19, kq19, qa19, qb19, qc19⟩ := isOf hZ e18 X_b4_8
  obtain ⟨_, _, ⟨T19, L19, k19, n19⟩, -, X19, ⟨Lc19, hQ19, l19, y19, z19⟩, st19⟩ := X18.virtualBack hx (y := Y7) (z := Y7) hown (mvT hZ (ww hw 53 rfl)) (mvT hZ (ww hw 54 rfl)) (notFace_of_selects (args := #[]) (mvT hZ (ww hw 56 rfl))) (mvT hZ (ww hw 56 rfl)) (mvT hZ (ww hw 55 rfl)) (by decide) (backOf (W := 0) (own_count3 l Z a0 hw u0 u1 u2 u3 u4 G b4 bb5 kk5 ((((0 : Int64) + own_h p1 0) + own_h p2 0) + own_h p3 0) ((((0 : Int64) + own_h p1 1) + own_h p2 1) + own_h p3 1) ((((0 : Int64) + own_h p1 2) + own_h p2 2) + own_h p3 2) ((((0 : Int64) + own_h p1 3) + own_h p2 3) + own_h p3 3) h8 n0 O8 ⟨X_b4_8, F_b4_counts_8, Vn8, nb5, g_b4, g_bb5⟩ []) hZ (ww hw 57 rfl) (ww hw 13 rfl) (by decide) (by decide)) qa19 qc19 (g := (mkF m 201 #[vi p1, vi p2, vi p3, vi p4, vi (1 : Int32), vi (1 : Int32), vi (1 : Int32), vr va1, vr va2, vr va3, vr b4, vj (3 : Int64), .second] [xr u1, xr b4])) rfl (by rw [hml]; rfl) (Steps.refl _) (argsL := [xr u1]) (rest := []) (lenOf pd4 rfl) rfl (by show 2 * 0 + _ ≤ _; exact Nat.le_of_eq rfl) (hb hby at_201) (fun _ _ => ⟨rfl, e18, (by decide : 3 + 0 ≤ _), (by decide : 9 + 0 ≤ _)⟩)
  dsimp only [Pt.U, Pt.locs, Pt.cells, Pt.slots] at X19 l19 y19 z19 st19 hQ19
  subst l19 y19 z19
  obtain ⟨rfl, Nq19, e19⟩ := hQ19
  have N19 := Fr.app N17 Nq19
  obtain ⟨_, _, ⟨T20, L20, k20, n20⟩, -, X20, ⟨Lc20, hQ20, l20, y20, z20⟩, st20⟩ := Jvm.LawKit.callS X19 hx (y := Y9) hown (mvT hZ (ww hw 58 rfl)) (mvT hZ (ww hw 59 rfl)) (mvT hZ (ww hw 2 rfl)) (mvT hZ (ww hw 60 rfl)) (by decide) (backOf (W := 2) (own_c35_expected l Z a0 hw u0 u1 u2 u3 u4 G p1 p2 p3 p4 as7 as9 as11 h8 n0 O8 []) hZ (ww hw 60 rfl) (ww hw 2 rfl) (by decide) (by decide)) (g := (mkF m 209 #[vi p1, vi p2, vi p3, vi p4, vi (1 : Int32), vi (1 : Int32), vi (1 : Int32), vr va1, vr va2, vr va3, vr b4, vj (3 : Int64), .second] [xi p4, xi p3, xi p2, xi p1, xi (3 : Int32), xj ((((0 : Int64) + own_h p1 3) + own_h p2 3) + own_h p3 3)])) rfl (by rw [hml]; rfl) (argsL := [xi (3 : Int32), xi p1, xi p2, xi p3, xi p4]) (rest := [xj ((((0 : Int64) + own_h p1 3) + own_h p2 3) + own_h p3 3)]) (lenOf pd6 rfl) rfl (by show 2 * 0 + _ ≤ _; exact Nat.le_of_eq rfl) (hb hby at_209) (fun _ _ => ⟨rfl, e19, (by decide : 3 + 0 ≤ _), (by decide : 9 + 0 ≤ _)⟩)
  dsimp only [Pt.U, Pt.locs, Pt.cells, Pt.slots] at X20 l20 y20 z20 st20 hQ20
  subst l20 y20 z20
  obtain ⟨rfl, Nq20, e20⟩ := hQ20
  have N20 := Fr.app N19 Nq20
  obtain ⟨cq21, kq21, qa21, qb21, qc21⟩ := isOf hZ e20 X_b4_8
  obtain ⟨_, _, ⟨T21, L21, k21, n21⟩, -, X21, ⟨Lc21, hQ21, l21, y21, z21⟩, st21⟩ := X20.virtualBack hx (y := Y8) (z := Y8) hown (mvT hZ (ww hw 65 rfl)) (mvT hZ (ww hw 66 rfl)) (notFace_of_selects (args := #[]) (mvT hZ (ww hw 68 rfl))) (mvT hZ (ww hw 68 rfl)) (mvT hZ (ww hw 67 rfl)) (by decide) (backOf (W := 0) (own_records l Z a0 hw u0 u1 u2 u3 u4 G b4 bb5 kk5 ((((0 : Int64) + own_h p1 0) + own_h p2 0) + own_h p3 0) ((((0 : Int64) + own_h p1 1) + own_h p2 1) + own_h p3 1) ((((0 : Int64) + own_h p1 2) + own_h p2 2) + own_h p3 2) ((((0 : Int64) + own_h p1 3) + own_h p2 3) + own_h p3 3) h8 n0 O8 ⟨X_b4_8, F_b4_counts_8, Vn8, nb5, g_b4, g_bb5⟩ []) hZ (ww hw 69 rfl) (ww hw 13 rfl) (by decide) (by decide)) qa21 qc21 (g := (mkF m 218 #[vi p1, vi p2, vi p3, vi p4, vi (1 : Int32), vi (1 : Int32), vi (1 : Int32), vr va1, vr va2, vr va3, vr b4, vj (3 : Int64), .second] [xr b4])) rfl (by rw [hml]; rfl) (Steps.refl _) (argsL := []) (rest := []) (lenOf pd7 rfl) rfl (by show 2 * 0 + _ ≤ _; exact Nat.le_of_eq rfl) (hb hby at_218) (fun _ _ => ⟨rfl, e20, (by decide : 3 + 0 ≤ _), (by decide : 9 + 0 ≤ _)⟩)
  dsimp only [Pt.U, Pt.locs, Pt.cells, Pt.slots] at X21 l21 y21 z21 st21 hQ21
  subst l21 y21 z21
  obtain ⟨rfl, Nq21, e21⟩ := hQ21
  have N21 := Fr.app N20 Nq21
  obtain ⟨fs, hr, hrun, hended, hW, hsame⟩ := X21.leave (v := some (xi (1 : Int32))) (fun h => by rw [Bd.returns] at h; cases h)
  refine ⟨_, _, pre0 _ ?_, hrun, hended, _, _, rfl, ?_, ⟨_, rfl⟩, hW, hsame.mono (by decide) (by decide)⟩
  · show own_S p e below s₁ (mkF m 0 #[vi p1, vi p2, vi p3, vi p4, vu, vu, vu, vu, vu, vu, vu, vu, vu] []) _
    refine XS.iloadN X0.here hx rfl (hb hby at_0) rfl ?_
    show own_S p e below s₁ (mkF m 1 #[vi p1, vi p2, vi p3, vi p4, vu, vu, vu, vu, vu, vu, vu, vu, vu] [xi p4]) _
    refine XS.iconst X0.here hx rfl (hb hby at_1) ?_
    show own_S p e below s₁ (mkF m 2 #[vi p1, vi p2, vi p3, vi p4, vu, vu, vu, vu, vu, vu, vu, vu, vu] [xi (1 : Int32), xi p4]) _
    refine XS.iand X0.here hx rfl (hb hby at_2) rfl ?_
    show own_S p e below s₁ (mkF m 3 #[vi p1, vi p2, vi p3, vi p4, vu, vu, vu, vu, vu, vu, vu, vu, vu] [xi (p4 &&& (1 : Int32))]) _
    refine castTop (show (mkF m 3 #[vi p1, vi p2, vi p3, vi p4, vu, vu, vu, vu, vu, vu, vu, vu, vu] [xi (p4 &&& (1 : Int32))]) = (mkF m 3 #[vi p1, vi p2, vi p3, vi p4, vu, vu, vu, vu, vu, vu, vu, vu, vu] [xi (1 : Int32)]) from by rw [as7]) ?_
    show own_S p e below s₁ (mkF m 3 #[vi p1, vi p2, vi p3, vi p4, vu, vu, vu, vu, vu, vu, vu, vu, vu] [xi (1 : Int32)]) _
    refine XS.ifNo X0.here hx rfl (hb hby at_3) rfl (by decide) ?_
    show own_S p e below s₁ (mkF m 6 #[vi p1, vi p2, vi p3, vi p4, vu, vu, vu, vu, vu, vu, vu, vu, vu] []) _
    refine XS.iconst X0.here hx rfl (hb hby at_6) ?_
    show own_S p e below s₁ (mkF m 7 #[vi p1, vi p2, vi p3, vi p4, vu, vu, vu, vu, vu, vu, vu, vu, vu] [xi (1 : Int32)]) _
    refine XS.goto X0.here hx rfl (pc0 := 7) (pc' := 11) rfl (hb hby at_7) (by decide) (by decide) ?_
    show own_S p e below s₁ (mkF m 11 #[vi p1, vi p2, vi p3, vi p4, vu, vu, vu, vu, vu, vu, vu, vu, vu] [xi (1 : Int32)]) _
    refine XS.istore X0.here hx rfl (hb hby at_11) rfl (l' := #[vi p1, vi p2, vi p3, vi p4, vi (1 : Int32), vu, vu, vu, vu, vu, vu, vu, vu]) rfl ?_
    show own_S p e below s₁ (mkF m 13 #[vi p1, vi p2, vi p3, vi p4, vi (1 : Int32), vu, vu, vu, vu, vu, vu, vu, vu] []) _
    refine XS.iloadN X0.here hx rfl (hb hby at_13) rfl ?_
    show own_S p e below s₁ (mkF m 14 #[vi p1, vi p2, vi p3, vi p4, vi (1 : Int32), vu, vu, vu, vu, vu, vu, vu, vu] [xi p4]) _
    refine XS.iconst X0.here hx rfl (hb hby at_14) ?_
    show own_S p e below s₁ (mkF m 15 #[vi p1, vi p2, vi p3, vi p4, vi (1 : Int32), vu, vu, vu, vu, vu, vu, vu, vu] [xi (2 : Int32), xi p4]) _
    refine XS.iand X0.here hx rfl (hb hby at_15) rfl ?_
    show own_S p e below s₁ (mkF m 16 #[vi p1, vi p2, vi p3, vi p4, vi (1 : Int32), vu, vu, vu, vu, vu, vu, vu, vu] [xi (p4 &&& (2 : Int32))]) _
    refine castTop (show (mkF m 16 #[vi p1, vi p2, vi p3, vi p4, vi (1 : Int32), vu, vu, vu, vu, vu, vu, vu, vu] [xi (p4 &&& (2 : Int32))]) = (mkF m 16 #[vi p1, vi p2, vi p3, vi p4, vi (1 : Int32), vu, vu, vu, vu, vu, vu, vu, vu] [xi (2 : Int32)]) from by rw [as9]) ?_
    show own_S p e below s₁ (mkF m 16 #[vi p1, vi p2, vi p3, vi p4, vi (1 : Int32), vu, vu, vu, vu, vu, vu, vu, vu] [xi (2 : Int32)]) _
    refine XS.ifNo X0.here hx rfl (hb hby at_16) rfl (by decide) ?_
    show own_S p e below s₁ (mkF m 19 #[vi p1, vi p2, vi p3, vi p4, vi (1 : Int32), vu, vu, vu, vu, vu, vu, vu, vu] []) _
    refine XS.iconst X0.here hx rfl (hb hby at_19) ?_
    show own_S p e below s₁ (mkF m 20 #[vi p1, vi p2, vi p3, vi p4, vi (1 : Int32), vu, vu, vu, vu, vu, vu, vu, vu] [xi (1 : Int32)]) _
    refine XS.goto X0.here hx rfl (pc0 := 20) (pc' := 24) rfl (hb hby at_20) (by decide) (by decide) ?_
    show own_S p e below s₁ (mkF m 24 #[vi p1, vi p2, vi p3, vi p4, vi (1 : Int32), vu, vu, vu, vu, vu, vu, vu, vu] [xi (1 : Int32)]) _
    refine XS.istore X0.here hx rfl (hb hby at_24) rfl (l' := #[vi p1, vi p2, vi p3, vi p4, vi (1 : Int32), vi (1 : Int32), vu, vu, vu, vu, vu, vu, vu]) rfl ?_
    show own_S p e below s₁ (mkF m 26 #[vi p1, vi p2, vi p3, vi p4, vi (1 : Int32), vi (1 : Int32), vu, vu, vu, vu, vu, vu, vu] []) _
    refine XS.iloadN X0.here hx rfl (hb hby at_26) rfl ?_
    show own_S p e below s₁ (mkF m 27 #[vi p1, vi p2, vi p3, vi p4, vi (1 : Int32), vi (1 : Int32), vu, vu, vu, vu, vu, vu, vu] [xi p4]) _
    refine XS.iconst X0.here hx rfl (hb hby at_27) ?_
    show own_S p e below s₁ (mkF m 28 #[vi p1, vi p2, vi p3, vi p4, vi (1 : Int32), vi (1 : Int32), vu, vu, vu, vu, vu, vu, vu] [xi (4 : Int32), xi p4]) _
    refine XS.iand X0.here hx rfl (hb hby at_28) rfl ?_
    show own_S p e below s₁ (mkF m 29 #[vi p1, vi p2, vi p3, vi p4, vi (1 : Int32), vi (1 : Int32), vu, vu, vu, vu, vu, vu, vu] [xi (p4 &&& (4 : Int32))]) _
    refine castTop (show (mkF m 29 #[vi p1, vi p2, vi p3, vi p4, vi (1 : Int32), vi (1 : Int32), vu, vu, vu, vu, vu, vu, vu] [xi (p4 &&& (4 : Int32))]) = (mkF m 29 #[vi p1, vi p2, vi p3, vi p4, vi (1 : Int32), vi (1 : Int32), vu, vu, vu, vu, vu, vu, vu] [xi (4 : Int32)]) from by rw [as11]) ?_
    show own_S p e below s₁ (mkF m 29 #[vi p1, vi p2, vi p3, vi p4, vi (1 : Int32), vi (1 : Int32), vu, vu, vu, vu, vu, vu, vu] [xi (4 : Int32)]) _
    refine XS.ifNo X0.here hx rfl (hb hby at_29) rfl (by decide) ?_
    show own_S p e below s₁ (mkF m 32 #[vi p1, vi p2, vi p3, vi p4, vi (1 : Int32), vi (1 : Int32), vu, vu, vu, vu, vu, vu, vu] []) _
    refine XS.iconst X0.here hx rfl (hb hby at_32) ?_
    show own_S p e below s₁ (mkF m 33 #[vi p1, vi p2, vi p3, vi p4, vi (1 : Int32), vi (1 : Int32), vu, vu, vu, vu, vu, vu, vu] [xi (1 : Int32)]) _
    refine XS.goto X0.here hx rfl (pc0 := 33) (pc' := 37) rfl (hb hby at_33) (by decide) (by decide) ?_
    show own_S p e below s₁ (mkF m 37 #[vi p1, vi p2, vi p3, vi p4, vi (1 : Int32), vi (1 : Int32), vu, vu, vu, vu, vu, vu, vu] [xi (1 : Int32)]) _
    refine XS.istore X0.here hx rfl (hb hby at_37) rfl (l' := #[vi p1, vi p2, vi p3, vi p4, vi (1 : Int32), vi (1 : Int32), vi (1 : Int32), vu, vu, vu, vu, vu, vu]) rfl ?_
    show own_S p e below s₁ (mkF m 39 #[vi p1, vi p2, vi p3, vi p4, vi (1 : Int32), vi (1 : Int32), vi (1 : Int32), vu, vu, vu, vu, vu, vu] []) _
    refine XS.iloadN X0.here hx rfl (hb hby at_39) rfl ?_
    show own_S p e below s₁ (mkF m 40 #[vi p1, vi p2, vi p3, vi p4, vi (1 : Int32), vi (1 : Int32), vi (1 : Int32), vu, vu, vu, vu, vu, vu] [xi p1]) _
    refine st1 _ ?_
    show own_S p e below T1 (mkF m 43 #[vi p1, vi p2, vi p3, vi p4, vi (1 : Int32), vi (1 : Int32), vi (1 : Int32), vu, vu, vu, vu, vu, vu] [xr va1]) _
    refine XS.astore X1.here hx rfl (hb hby at_43) rfl rfl (l' := #[vi p1, vi p2, vi p3, vi p4, vi (1 : Int32), vi (1 : Int32), vi (1 : Int32), vr va1, vu, vu, vu, vu, vu]) rfl ?_
    show own_S p e below T1 (mkF m 45 #[vi p1, vi p2, vi p3, vi p4, vi (1 : Int32), vi (1 : Int32), vi (1 : Int32), vr va1, vu, vu, vu, vu, vu] []) _
    refine XS.iloadN X1.here hx rfl (hb hby at_45) rfl ?_
    show own_S p e below T1 (mkF m 46 #[vi p1, vi p2, vi p3, vi p4, vi (1 : Int32), vi (1 : Int32), vi (1 : Int32), vr va1, vu, vu, vu, vu, vu] [xi p2]) _
    refine st2 _ ?_
    show own_S p e below T2 (mkF m 49 #[vi p1, vi p2, vi p3, vi p4, vi (1 : Int32), vi (1 : Int32), vi (1 : Int32), vr va1, vu, vu, vu, vu, vu] [xr va2]) _
    refine XS.astore X2.here hx rfl (hb hby at_49) rfl rfl (l' := #[vi p1, vi p2, vi p3, vi p4, vi (1 : Int32), vi (1 : Int32), vi (1 : Int32), vr va1, vr va2, vu, vu, vu, vu]) rfl ?_
    show own_S p e below T2 (mkF m 51 #[vi p1, vi p2, vi p3, vi p4, vi (1 : Int32), vi (1 : Int32), vi (1 : Int32), vr va1, vr va2, vu, vu, vu, vu] []) _
    refine XS.iloadN X2.here hx rfl (hb hby at_51) rfl ?_
    show own_S p e below T2 (mkF m 52 #[vi p1, vi p2, vi p3, vi p4, vi (1 : Int32), vi (1 : Int32), vi (1 : Int32), vr va1, vr va2, vu, vu, vu, vu] [xi p3]) _
    refine st3 _ ?_
    show own_S p e below T3 (mkF m 55 #[vi p1, vi p2, vi p3, vi p4, vi (1 : Int32), vi (1 : Int32), vi (1 : Int32), vr va1, vr va2, vu, vu, vu, vu] [xr va3]) _
    refine XS.astore X3.here hx rfl (hb hby at_55) rfl rfl (l' := #[vi p1, vi p2, vi p3, vi p4, vi (1 : Int32), vi (1 : Int32), vi (1 : Int32), vr va1, vr va2, vr va3, vu, vu, vu]) rfl ?_
    show own_S p e below T3 (mkF m 57 #[vi p1, vi p2, vi p3, vi p4, vi (1 : Int32), vi (1 : Int32), vi (1 : Int32), vr va1, vr va2, vr va3, vu, vu, vu] []) _
    refine st4 _ ?_
    show own_S p e below T4 (mkF m 60 #[vi p1, vi p2, vi p3, vi p4, vi (1 : Int32), vi (1 : Int32), vi (1 : Int32), vr va1, vr va2, vr va3, vu, vu, vu] [xr b4]) _
    refine XS.dup X4.here hx rfl (hb hby at_60) rfl rfl ?_
    show own_S p e below T4 (mkF m 61 #[vi p1, vi p2, vi p3, vi p4, vi (1 : Int32), vi (1 : Int32), vi (1 : Int32), vr va1, vr va2, vr va3, vu, vu, vu] [xr b4, xr b4]) _
    refine st5.trans ?_
    show own_S p e below T5 (mkF m 64 #[vi p1, vi p2, vi p3, vi p4, vi (1 : Int32), vi (1 : Int32), vi (1 : Int32), vr va1, vr va2, vr va3, vu, vu, vu] [xr b4]) _
    refine XS.astore X5.here hx rfl (hb hby at_64) rfl rfl (l' := #[vi p1, vi p2, vi p3, vi p4, vi (1 : Int32), vi (1 : Int32), vi (1 : Int32), vr va1, vr va2, vr va3, vr b4, vu, vu]) rfl ?_
    show own_S p e below T5 (mkF m 66 #[vi p1, vi p2, vi p3, vi p4, vi (1 : Int32), vi (1 : Int32), vi (1 : Int32), vr va1, vr va2, vr va3, vr b4, vu, vu] []) _
    refine XS.iload X5.here hx rfl (hb hby at_66) rfl ?_
    show own_S p e below T5 (mkF m 68 #[vi p1, vi p2, vi p3, vi p4, vi (1 : Int32), vi (1 : Int32), vi (1 : Int32), vr va1, vr va2, vr va3, vr b4, vu, vu] [xi (1 : Int32)]) _
    refine XS.ifNo X5.here hx rfl (hb hby at_68) rfl (by decide) ?_
    show own_S p e below T5 (mkF m 71 #[vi p1, vi p2, vi p3, vi p4, vi (1 : Int32), vi (1 : Int32), vi (1 : Int32), vr va1, vr va2, vr va3, vr b4, vu, vu] []) _
    refine XS.aload X5.here hx rfl (hb hby at_71) rfl rfl ?_
    show own_S p e below T5 (mkF m 73 #[vi p1, vi p2, vi p3, vi p4, vi (1 : Int32), vi (1 : Int32), vi (1 : Int32), vr va1, vr va2, vr va3, vr b4, vu, vu] [xr b4]) _
    refine XS.aload X5.here hx rfl (hb hby at_73) rfl rfl ?_
    show own_S p e below T5 (mkF m 75 #[vi p1, vi p2, vi p3, vi p4, vi (1 : Int32), vi (1 : Int32), vi (1 : Int32), vr va1, vr va2, vr va3, vr b4, vu, vu] [xr va1, xr b4]) _
    refine st6.trans ?_
    show own_S p e below T6 (mkF m 78 #[vi p1, vi p2, vi p3, vi p4, vi (1 : Int32), vi (1 : Int32), vi (1 : Int32), vr va1, vr va2, vr va3, vr b4, vu, vu] []) _
    refine XS.iload X6.here hx rfl (hb hby at_78) rfl ?_
    show own_S p e below T6 (mkF m 80 #[vi p1, vi p2, vi p3, vi p4, vi (1 : Int32), vi (1 : Int32), vi (1 : Int32), vr va1, vr va2, vr va3, vr b4, vu, vu] [xi (1 : Int32)]) _
    refine XS.ifNo X6.here hx rfl (hb hby at_80) rfl (by decide) ?_
    show own_S p e below T6 (mkF m 83 #[vi p1, vi p2, vi p3, vi p4, vi (1 : Int32), vi (1 : Int32), vi (1 : Int32), vr va1, vr va2, vr va3, vr b4, vu, vu] []) _
    refine XS.aload X6.here hx rfl (hb hby at_83) rfl rfl ?_
    show own_S p e below T6 (mkF m 85 #[vi p1, vi p2, vi p3, vi p4, vi (1 : Int32), vi (1 : Int32), vi (1 : Int32), vr va1, vr va2, vr va3, vr b4, vu, vu] [xr b4]) _
    refine XS.aload X6.here hx rfl (hb hby at_85) rfl rfl ?_
    show own_S p e below T6 (mkF m 87 #[vi p1, vi p2, vi p3, vi p4, vi (1 : Int32), vi (1 : Int32), vi (1 : Int32), vr va1, vr va2, vr va3, vr b4, vu, vu] [xr va2, xr b4]) _
    refine st7.trans ?_
    show own_S p e below T7 (mkF m 90 #[vi p1, vi p2, vi p3, vi p4, vi (1 : Int32), vi (1 : Int32), vi (1 : Int32), vr va1, vr va2, vr va3, vr b4, vu, vu] []) _
    refine XS.iload X7.here hx rfl (hb hby at_90) rfl ?_
    show own_S p e below T7 (mkF m 92 #[vi p1, vi p2, vi p3, vi p4, vi (1 : Int32), vi (1 : Int32), vi (1 : Int32), vr va1, vr va2, vr va3, vr b4, vu, vu] [xi (1 : Int32)]) _
    refine XS.ifNo X7.here hx rfl (hb hby at_92) rfl (by decide) ?_
    show own_S p e below T7 (mkF m 95 #[vi p1, vi p2, vi p3, vi p4, vi (1 : Int32), vi (1 : Int32), vi (1 : Int32), vr va1, vr va2, vr va3, vr b4, vu, vu] []) _
    refine XS.aload X7.here hx rfl (hb hby at_95) rfl rfl ?_
    show own_S p e below T7 (mkF m 97 #[vi p1, vi p2, vi p3, vi p4, vi (1 : Int32), vi (1 : Int32), vi (1 : Int32), vr va1, vr va2, vr va3, vr b4, vu, vu] [xr b4]) _
    refine XS.aload X7.here hx rfl (hb hby at_97) rfl rfl ?_
    show own_S p e below T7 (mkF m 99 #[vi p1, vi p2, vi p3, vi p4, vi (1 : Int32), vi (1 : Int32), vi (1 : Int32), vr va1, vr va2, vr va3, vr b4, vu, vu] [xr va3, xr b4]) _
    refine st8.trans ?_
    show own_S p e below T8 (mkF m 102 #[vi p1, vi p2, vi p3, vi p4, vi (1 : Int32), vi (1 : Int32), vi (1 : Int32), vr va1, vr va2, vr va3, vr b4, vu, vu] []) _
    refine XS.iload X8.here hx rfl (hb hby at_102) rfl ?_
    show own_S p e below T8 (mkF m 104 #[vi p1, vi p2, vi p3, vi p4, vi (1 : Int32), vi (1 : Int32), vi (1 : Int32), vr va1, vr va2, vr va3, vr b4, vu, vu] [xi (1 : Int32)]) _
    refine XS.ifNo X8.here hx rfl (hb hby at_104) rfl (by decide) ?_
    show own_S p e below T8 (mkF m 107 #[vi p1, vi p2, vi p3, vi p4, vi (1 : Int32), vi (1 : Int32), vi (1 : Int32), vr va1, vr va2, vr va3, vr b4, vu, vu] []) _
    refine XS.lconst X8.here hx rfl (hb hby at_107) ?_
    show own_S p e below T8 (mkF m 108 #[vi p1, vi p2, vi p3, vi p4, vi (1 : Int32), vi (1 : Int32), vi (1 : Int32), vr va1, vr va2, vr va3, vr b4, vu, vu] [xj (1 : Int64)]) _
    refine XS.goto X8.here hx rfl (pc0 := 108) (pc' := 112) rfl (hb hby at_108) (by decide) (by decide) ?_
    show own_S p e below T8 (mkF m 112 #[vi p1, vi p2, vi p3, vi p4, vi (1 : Int32), vi (1 : Int32), vi (1 : Int32), vr va1, vr va2, vr va3, vr b4, vu, vu] [xj (1 : Int64)]) _
    refine XS.iload X8.here hx rfl (hb hby at_112) rfl ?_
    show own_S p e below T8 (mkF m 114 #[vi p1, vi p2, vi p3, vi p4, vi (1 : Int32), vi (1 : Int32), vi (1 : Int32), vr va1, vr va2, vr va3, vr b4, vu, vu] [xi (1 : Int32), xj (1 : Int64)]) _
    refine XS.ifNo X8.here hx rfl (hb hby at_114) rfl (by decide) ?_
    show own_S p e below T8 (mkF m 117 #[vi p1, vi p2, vi p3, vi p4, vi (1 : Int32), vi (1 : Int32), vi (1 : Int32), vr va1, vr va2, vr va3, vr b4, vu, vu] [xj (1 : Int64)]) _
    refine XS.lconst X8.here hx rfl (hb hby at_117) ?_
    show own_S p e below T8 (mkF m 118 #[vi p1, vi p2, vi p3, vi p4, vi (1 : Int32), vi (1 : Int32), vi (1 : Int32), vr va1, vr va2, vr va3, vr b4, vu, vu] [xj (1 : Int64), xj (1 : Int64)]) _
    refine XS.goto X8.here hx rfl (pc0 := 118) (pc' := 122) rfl (hb hby at_118) (by decide) (by decide) ?_
    show own_S p e below T8 (mkF m 122 #[vi p1, vi p2, vi p3, vi p4, vi (1 : Int32), vi (1 : Int32), vi (1 : Int32), vr va1, vr va2, vr va3, vr b4, vu, vu] [xj (1 : Int64), xj (1 : Int64)]) _
    refine XS.ladd X8.here hx rfl (hb hby at_122) rfl ?_
    show own_S p e below T8 (mkF m 123 #[vi p1, vi p2, vi p3, vi p4, vi (1 : Int32), vi (1 : Int32), vi (1 : Int32), vr va1, vr va2, vr va3, vr b4, vu, vu] [xj ((1 : Int64) + (1 : Int64))]) _
    refine castTop (show (mkF m 123 #[vi p1, vi p2, vi p3, vi p4, vi (1 : Int32), vi (1 : Int32), vi (1 : Int32), vr va1, vr va2, vr va3, vr b4, vu, vu] [xj ((1 : Int64) + (1 : Int64))]) = (mkF m 123 #[vi p1, vi p2, vi p3, vi p4, vi (1 : Int32), vi (1 : Int32), vi (1 : Int32), vr va1, vr va2, vr va3, vr b4, vu, vu] [xj (2 : Int64)]) from by rw [show ((1 : Int64) + (1 : Int64)) = (2 : Int64) from by decide]) ?_
    show own_S p e below T8 (mkF m 123 #[vi p1, vi p2, vi p3, vi p4, vi (1 : Int32), vi (1 : Int32), vi (1 : Int32), vr va1, vr va2, vr va3, vr b4, vu, vu] [xj (2 : Int64)]) _
    refine XS.iload X8.here hx rfl (hb hby at_123) rfl ?_
    show own_S p e below T8 (mkF m 125 #[vi p1, vi p2, vi p3, vi p4, vi (1 : Int32), vi (1 : Int32), vi (1 : Int32), vr va1, vr va2, vr va3, vr b4, vu, vu] [xi (1 : Int32), xj (2 : Int64)]) _
    refine XS.ifNo X8.here hx rfl (hb hby at_125) rfl (by decide) ?_
    show own_S p e below T8 (mkF m 128 #[vi p1, vi p2, vi p3, vi p4, vi (1 : Int32), vi (1 : Int32), vi (1 : Int32), vr va1, vr va2, vr va3, vr b4, vu, vu] [xj (2 : Int64)]) _
    refine XS.lconst X8.here hx rfl (hb hby at_128) ?_
    show own_S p e below T8 (mkF m 129 #[vi p1, vi p2, vi p3, vi p4, vi (1 : Int32), vi (1 : Int32), vi (1 : Int32), vr va1, vr va2, vr va3, vr b4, vu, vu] [xj (1 : Int64), xj (2 : Int64)]) _
    refine XS.goto X8.here hx rfl (pc0 := 129) (pc' := 133) rfl (hb hby at_129) (by decide) (by decide) ?_
    show own_S p e below T8 (mkF m 133 #[vi p1, vi p2, vi p3, vi p4, vi (1 : Int32), vi (1 : Int32), vi (1 : Int32), vr va1, vr va2, vr va3, vr b4, vu, vu] [xj (1 : Int64), xj (2 : Int64)]) _
    refine XS.ladd X8.here hx rfl (hb hby at_133) rfl ?_
    show own_S p e below T8 (mkF m 134 #[vi p1, vi p2, vi p3, vi p4, vi (1 : Int32), vi (1 : Int32), vi (1 : Int32), vr va1, vr va2, vr va3, vr b4, vu, vu] [xj ((2 : Int64) + (1 : Int64))]) _
    refine castTop (show (mkF m 134 #[vi p1, vi p2, vi p3, vi p4, vi (1 : Int32), vi (1 : Int32), vi (1 : Int32), vr va1, vr va2, vr va3, vr b4, vu, vu] [xj ((2 : Int64) + (1 : Int64))]) = (mkF m 134 #[vi p1, vi p2, vi p3, vi p4, vi (1 : Int32), vi (1 : Int32), vi (1 : Int32), vr va1, vr va2, vr va3, vr b4, vu, vu] [xj (3 : Int64)]) from by rw [show ((2 : Int64) + (1 : Int64)) = (3 : Int64) from by decide]) ?_
    show own_S p e below T8 (mkF m 134 #[vi p1, vi p2, vi p3, vi p4, vi (1 : Int32), vi (1 : Int32), vi (1 : Int32), vr va1, vr va2, vr va3, vr b4, vu, vu] [xj (3 : Int64)]) _
    refine XS.lstore X8.here hx rfl (hb hby at_134) rfl (l' := #[vi p1, vi p2, vi p3, vi p4, vi (1 : Int32), vi (1 : Int32), vi (1 : Int32), vr va1, vr va2, vr va3, vr b4, vj (3 : Int64), .second]) rfl ?_
    show own_S p e below T8 (mkF m 136 #[vi p1, vi p2, vi p3, vi p4, vi (1 : Int32), vi (1 : Int32), vi (1 : Int32), vr va1, vr va2, vr va3, vr b4, vj (3 : Int64), .second] []) _
    refine XS.aload X8.here hx rfl (hb hby at_136) rfl rfl ?_
    show own_S p e below T8 (mkF m 138 #[vi p1, vi p2, vi p3, vi p4, vi (1 : Int32), vi (1 : Int32), vi (1 : Int32), vr va1, vr va2, vr va3, vr b4, vj (3 : Int64), .second] [xr b4]) _
    refine st9 _ ?_
    show own_S p e below T9 (mkF m 141 #[vi p1, vi p2, vi p3, vi p4, vi (1 : Int32), vi (1 : Int32), vi (1 : Int32), vr va1, vr va2, vr va3, vr b4, vj (3 : Int64), .second] [xr u0, xr b4]) _
    refine st10.trans ?_
    show own_S p e below T10 (mkF m 144 #[vi p1, vi p2, vi p3, vi p4, vi (1 : Int32), vi (1 : Int32), vi (1 : Int32), vr va1, vr va2, vr va3, vr b4, vj (3 : Int64), .second] [xj ((((0 : Int64) + own_h p1 0) + own_h p2 0) + own_h p3 0)]) _
    refine XS.iconst X10.here hx rfl (hb hby at_144) ?_
    show own_S p e below T10 (mkF m 145 #[vi p1, vi p2, vi p3, vi p4, vi (1 : Int32), vi (1 : Int32), vi (1 : Int32), vr va1, vr va2, vr va3, vr b4, vj (3 : Int64), .second] [xi (0 : Int32), xj ((((0 : Int64) + own_h p1 0) + own_h p2 0) + own_h p3 0)]) _
    refine XS.iloadN X10.here hx rfl (hb hby at_145) rfl ?_
    show own_S p e below T10 (mkF m 146 #[vi p1, vi p2, vi p3, vi p4, vi (1 : Int32), vi (1 : Int32), vi (1 : Int32), vr va1, vr va2, vr va3, vr b4, vj (3 : Int64), .second] [xi p1, xi (0 : Int32), xj ((((0 : Int64) + own_h p1 0) + own_h p2 0) + own_h p3 0)]) _
    refine XS.iloadN X10.here hx rfl (hb hby at_146) rfl ?_
    show own_S p e below T10 (mkF m 147 #[vi p1, vi p2, vi p3, vi p4, vi (1 : Int32), vi (1 : Int32), vi (1 : Int32), vr va1, vr va2, vr va3, vr b4, vj (3 : Int64), .second] [xi p2, xi p1, xi (0 : Int32), xj ((((0 : Int64) + own_h p1 0) + own_h p2 0) + own_h p3 0)]) _
    refine XS.iloadN X10.here hx rfl (hb hby at_147) rfl ?_
    show own_S p e below T10 (mkF m 148 #[vi p1, vi p2, vi p3, vi p4, vi (1 : Int32), vi (1 : Int32), vi (1 : Int32), vr va1, vr va2, vr va3, vr b4, vj (3 : Int64), .second] [xi p3, xi p2, xi p1, xi (0 : Int32), xj ((((0 : Int64) + own_h p1 0) + own_h p2 0) + own_h p3 0)]) _
    refine XS.iloadN X10.here hx rfl (hb hby at_148) rfl ?_
    show own_S p e below T10 (mkF m 149 #[vi p1, vi p2, vi p3, vi p4, vi (1 : Int32), vi (1 : Int32), vi (1 : Int32), vr va1, vr va2, vr va3, vr b4, vj (3 : Int64), .second] [xi p4, xi p3, xi p2, xi p1, xi (0 : Int32), xj ((((0 : Int64) + own_h p1 0) + own_h p2 0) + own_h p3 0)]) _
    refine st11 _ ?_
    show own_S p e below T11 (mkF m 152 #[vi p1, vi p2, vi p3, vi p4, vi (1 : Int32), vi (1 : Int32), vi (1 : Int32), vr va1, vr va2, vr va3, vr b4, vj (3 : Int64), .second] [xj (((own_h p1 (0 : Int32)) + (own_h p2 (0 : Int32))) + (own_h p3 (0 : Int32))), xj ((((0 : Int64) + own_h p1 0) + own_h p2 0) + own_h p3 0)]) _
    refine XS.lcmp X11.here hx rfl (hb hby at_152) rfl ?_
    show own_S p e below T11 (mkF m 153 #[vi p1, vi p2, vi p3, vi p4, vi (1 : Int32), vi (1 : Int32), vi (1 : Int32), vr va1, vr va2, vr va3, vr b4, vj (3 : Int64), .second] [xi (lcmpW ((((0 : Int64) + own_h p1 0) + own_h p2 0) + own_h p3 0) (((own_h p1 (0 : Int32)) + (own_h p2 (0 : Int32))) + (own_h p3 (0 : Int32))))]) _
    show own_S p e below T11 (mkF m 153 #[vi p1, vi p2, vi p3, vi p4, vi (1 : Int32), vi (1 : Int32), vi (1 : Int32), vr va1, vr va2, vr va3, vr b4, vj (3 : Int64), .second] [xi (lcmpW ((((0 : Int64) + own_h p1 0) + own_h p2 0) + own_h p3 0) (((own_h p1 (0 : Int32)) + (own_h p2 (0 : Int32))) + (own_h p3 (0 : Int32))))]) _
    refine XS.ifNo X11.here hx rfl (hb hby at_153) rfl (by simp [lcmpW, ifCond.holds, Int64.zero_add, Int64.add_zero]) ?_
    show own_S p e below T11 (mkF m 156 #[vi p1, vi p2, vi p3, vi p4, vi (1 : Int32), vi (1 : Int32), vi (1 : Int32), vr va1, vr va2, vr va3, vr b4, vj (3 : Int64), .second] []) _
    refine XS.aload X11.here hx rfl (hb hby at_156) rfl rfl ?_
    show own_S p e below T11 (mkF m 158 #[vi p1, vi p2, vi p3, vi p4, vi (1 : Int32), vi (1 : Int32), vi (1 : Int32), vr va1, vr va2, vr va3, vr b4, vj (3 : Int64), .second] [xr b4]) _
    refine st12 _ ?_
    show own_S p e below T12 (mkF m 161 #[vi p1, vi p2, vi p3, vi p4, vi (1 : Int32), vi (1 : Int32), vi (1 : Int32), vr va1, vr va2, vr va3, vr b4, vj (3 : Int64), .second] [xr u4, xr b4]) _
    refine st13.trans ?_
    show own_S p e below T13 (mkF m 164 #[vi p1, vi p2, vi p3, vi p4, vi (1 : Int32), vi (1 : Int32), vi (1 : Int32), vr va1, vr va2, vr va3, vr b4, vj (3 : Int64), .second] [xj ((((0 : Int64) + own_h p1 1) + own_h p2 1) + own_h p3 1)]) _
    refine XS.iconst X13.here hx rfl (hb hby at_164) ?_
    show own_S p e below T13 (mkF m 165 #[vi p1, vi p2, vi p3, vi p4, vi (1 : Int32), vi (1 : Int32), vi (1 : Int32), vr va1, vr va2, vr va3, vr b4, vj (3 : Int64), .second] [xi (1 : Int32), xj ((((0 : Int64) + own_h p1 1) + own_h p2 1) + own_h p3 1)]) _
    refine XS.iloadN X13.here hx rfl (hb hby at_165) rfl ?_
    show own_S p e below T13 (mkF m 166 #[vi p1, vi p2, vi p3, vi p4, vi (1 : Int32), vi (1 : Int32), vi (1 : Int32), vr va1, vr va2, vr va3, vr b4, vj (3 : Int64), .second] [xi p1, xi (1 : Int32), xj ((((0 : Int64) + own_h p1 1) + own_h p2 1) + own_h p3 1)]) _
    refine XS.iloadN X13.here hx rfl (hb hby at_166) rfl ?_
    show own_S p e below T13 (mkF m 167 #[vi p1, vi p2, vi p3, vi p4, vi (1 : Int32), vi (1 : Int32), vi (1 : Int32), vr va1, vr va2, vr va3, vr b4, vj (3 : Int64), .second] [xi p2, xi p1, xi (1 : Int32), xj ((((0 : Int64) + own_h p1 1) + own_h p2 1) + own_h p3 1)]) _
    refine XS.iloadN X13.here hx rfl (hb hby at_167) rfl ?_
    show own_S p e below T13 (mkF m 168 #[vi p1, vi p2, vi p3, vi p4, vi (1 : Int32), vi (1 : Int32), vi (1 : Int32), vr va1, vr va2, vr va3, vr b4, vj (3 : Int64), .second] [xi p3, xi p2, xi p1, xi (1 : Int32), xj ((((0 : Int64) + own_h p1 1) + own_h p2 1) + own_h p3 1)]) _
    refine XS.iloadN X13.here hx rfl (hb hby at_168) rfl ?_
    show own_S p e below T13 (mkF m 169 #[vi p1, vi p2, vi p3, vi p4, vi (1 : Int32), vi (1 : Int32), vi (1 : Int32), vr va1, vr va2, vr va3, vr b4, vj (3 : Int64), .second] [xi p4, xi p3, xi p2, xi p1, xi (1 : Int32), xj ((((0 : Int64) + own_h p1 1) + own_h p2 1) + own_h p3 1)]) _
    refine st14 _ ?_
    show own_S p e below T14 (mkF m 172 #[vi p1, vi p2, vi p3, vi p4, vi (1 : Int32), vi (1 : Int32), vi (1 : Int32), vr va1, vr va2, vr va3, vr b4, vj (3 : Int64), .second] [xj (((own_h p1 (1 : Int32)) + (own_h p2 (1 : Int32))) + (own_h p3 (1 : Int32))), xj ((((0 : Int64) + own_h p1 1) + own_h p2 1) + own_h p3 1)]) _
    refine XS.lcmp X14.here hx rfl (hb hby at_172) rfl ?_
    show own_S p e below T14 (mkF m 173 #[vi p1, vi p2, vi p3, vi p4, vi (1 : Int32), vi (1 : Int32), vi (1 : Int32), vr va1, vr va2, vr va3, vr b4, vj (3 : Int64), .second] [xi (lcmpW ((((0 : Int64) + own_h p1 1) + own_h p2 1) + own_h p3 1) (((own_h p1 (1 : Int32)) + (own_h p2 (1 : Int32))) + (own_h p3 (1 : Int32))))]) _
    show own_S p e below T14 (mkF m 173 #[vi p1, vi p2, vi p3, vi p4, vi (1 : Int32), vi (1 : Int32), vi (1 : Int32), vr va1, vr va2, vr va3, vr b4, vj (3 : Int64), .second] [xi (lcmpW ((((0 : Int64) + own_h p1 1) + own_h p2 1) + own_h p3 1) (((own_h p1 (1 : Int32)) + (own_h p2 (1 : Int32))) + (own_h p3 (1 : Int32))))]) _
    refine XS.ifNo X14.here hx rfl (hb hby at_173) rfl (by simp [lcmpW, ifCond.holds, Int64.zero_add, Int64.add_zero]) ?_
    show own_S p e below T14 (mkF m 176 #[vi p1, vi p2, vi p3, vi p4, vi (1 : Int32), vi (1 : Int32), vi (1 : Int32), vr va1, vr va2, vr va3, vr b4, vj (3 : Int64), .second] []) _
    refine XS.aload X14.here hx rfl (hb hby at_176) rfl rfl ?_
    show own_S p e below T14 (mkF m 178 #[vi p1, vi p2, vi p3, vi p4, vi (1 : Int32), vi (1 : Int32), vi (1 : Int32), vr va1, vr va2, vr va3, vr b4, vj (3 : Int64), .second] [xr b4]) _
    refine st15 _ ?_
    show own_S p e below T15 (mkF m 181 #[vi p1, vi p2, vi p3, vi p4, vi (1 : Int32), vi (1 : Int32), vi (1 : Int32), vr va1, vr va2, vr va3, vr b4, vj (3 : Int64), .second] [xr u2, xr b4]) _
    refine st16.trans ?_
    show own_S p e below T16 (mkF m 184 #[vi p1, vi p2, vi p3, vi p4, vi (1 : Int32), vi (1 : Int32), vi (1 : Int32), vr va1, vr va2, vr va3, vr b4, vj (3 : Int64), .second] [xj ((((0 : Int64) + own_h p1 2) + own_h p2 2) + own_h p3 2)]) _
    refine XS.iconst X16.here hx rfl (hb hby at_184) ?_
    show own_S p e below T16 (mkF m 185 #[vi p1, vi p2, vi p3, vi p4, vi (1 : Int32), vi (1 : Int32), vi (1 : Int32), vr va1, vr va2, vr va3, vr b4, vj (3 : Int64), .second] [xi (2 : Int32), xj ((((0 : Int64) + own_h p1 2) + own_h p2 2) + own_h p3 2)]) _
    refine XS.iloadN X16.here hx rfl (hb hby at_185) rfl ?_
    show own_S p e below T16 (mkF m 186 #[vi p1, vi p2, vi p3, vi p4, vi (1 : Int32), vi (1 : Int32), vi (1 : Int32), vr va1, vr va2, vr va3, vr b4, vj (3 : Int64), .second] [xi p1, xi (2 : Int32), xj ((((0 : Int64) + own_h p1 2) + own_h p2 2) + own_h p3 2)]) _
    refine XS.iloadN X16.here hx rfl (hb hby at_186) rfl ?_
    show own_S p e below T16 (mkF m 187 #[vi p1, vi p2, vi p3, vi p4, vi (1 : Int32), vi (1 : Int32), vi (1 : Int32), vr va1, vr va2, vr va3, vr b4, vj (3 : Int64), .second] [xi p2, xi p1, xi (2 : Int32), xj ((((0 : Int64) + own_h p1 2) + own_h p2 2) + own_h p3 2)]) _
    refine XS.iloadN X16.here hx rfl (hb hby at_187) rfl ?_
    show own_S p e below T16 (mkF m 188 #[vi p1, vi p2, vi p3, vi p4, vi (1 : Int32), vi (1 : Int32), vi (1 : Int32), vr va1, vr va2, vr va3, vr b4, vj (3 : Int64), .second] [xi p3, xi p2, xi p1, xi (2 : Int32), xj ((((0 : Int64) + own_h p1 2) + own_h p2 2) + own_h p3 2)]) _
    refine XS.iloadN X16.here hx rfl (hb hby at_188) rfl ?_
    show own_S p e below T16 (mkF m 189 #[vi p1, vi p2, vi p3, vi p4, vi (1 : Int32), vi (1 : Int32), vi (1 : Int32), vr va1, vr va2, vr va3, vr b4, vj (3 : Int64), .second] [xi p4, xi p3, xi p2, xi p1, xi (2 : Int32), xj ((((0 : Int64) + own_h p1 2) + own_h p2 2) + own_h p3 2)]) _
    refine st17 _ ?_
    show own_S p e below T17 (mkF m 192 #[vi p1, vi p2, vi p3, vi p4, vi (1 : Int32), vi (1 : Int32), vi (1 : Int32), vr va1, vr va2, vr va3, vr b4, vj (3 : Int64), .second] [xj (((own_h p1 (2 : Int32)) + (own_h p2 (2 : Int32))) + (own_h p3 (2 : Int32))), xj ((((0 : Int64) + own_h p1 2) + own_h p2 2) + own_h p3 2)]) _
    refine XS.lcmp X17.here hx rfl (hb hby at_192) rfl ?_
    show own_S p e below T17 (mkF m 193 #[vi p1, vi p2, vi p3, vi p4, vi (1 : Int32), vi (1 : Int32), vi (1 : Int32), vr va1, vr va2, vr va3, vr b4, vj (3 : Int64), .second] [xi (lcmpW ((((0 : Int64) + own_h p1 2) + own_h p2 2) + own_h p3 2) (((own_h p1 (2 : Int32)) + (own_h p2 (2 : Int32))) + (own_h p3 (2 : Int32))))]) _
    show own_S p e below T17 (mkF m 193 #[vi p1, vi p2, vi p3, vi p4, vi (1 : Int32), vi (1 : Int32), vi (1 : Int32), vr va1, vr va2, vr va3, vr b4, vj (3 : Int64), .second] [xi (lcmpW ((((0 : Int64) + own_h p1 2) + own_h p2 2) + own_h p3 2) (((own_h p1 (2 : Int32)) + (own_h p2 (2 : Int32))) + (own_h p3 (2 : Int32))))]) _
    refine XS.ifNo X17.here hx rfl (hb hby at_193) rfl (by simp [lcmpW, ifCond.holds, Int64.zero_add, Int64.add_zero]) ?_
    show own_S p e below T17 (mkF m 196 #[vi p1, vi p2, vi p3, vi p4, vi (1 : Int32), vi (1 : Int32), vi (1 : Int32), vr va1, vr va2, vr va3, vr b4, vj (3 : Int64), .second] []) _
    refine XS.aload X17.here hx rfl (hb hby at_196) rfl rfl ?_
    show own_S p e below T17 (mkF m 198 #[vi p1, vi p2, vi p3, vi p4, vi (1 : Int32), vi (1 : Int32), vi (1 : Int32), vr va1, vr va2, vr va3, vr b4, vj (3 : Int64), .second] [xr b4]) _
    refine st18 _ ?_
    show own_S p e below T18 (mkF m 201 #[vi p1, vi p2, vi p3, vi p4, vi (1 : Int32), vi (1 : Int32), vi (1 : Int32), vr va1, vr va2, vr va3, vr b4, vj (3 : Int64), .second] [xr u1, xr b4]) _
    refine st19.trans ?_
    show own_S p e below T19 (mkF m 204 #[vi p1, vi p2, vi p3, vi p4, vi (1 : Int32), vi (1 : Int32), vi (1 : Int32), vr va1, vr va2, vr va3, vr b4, vj (3 : Int64), .second] [xj ((((0 : Int64) + own_h p1 3) + own_h p2 3) + own_h p3 3)]) _
    refine XS.iconst X19.here hx rfl (hb hby at_204) ?_
    show own_S p e below T19 (mkF m 205 #[vi p1, vi p2, vi p3, vi p4, vi (1 : Int32), vi (1 : Int32), vi (1 : Int32), vr va1, vr va2, vr va3, vr b4, vj (3 : Int64), .second] [xi (3 : Int32), xj ((((0 : Int64) + own_h p1 3) + own_h p2 3) + own_h p3 3)]) _
    refine XS.iloadN X19.here hx rfl (hb hby at_205) rfl ?_
    show own_S p e below T19 (mkF m 206 #[vi p1, vi p2, vi p3, vi p4, vi (1 : Int32), vi (1 : Int32), vi (1 : Int32), vr va1, vr va2, vr va3, vr b4, vj (3 : Int64), .second] [xi p1, xi (3 : Int32), xj ((((0 : Int64) + own_h p1 3) + own_h p2 3) + own_h p3 3)]) _
    refine XS.iloadN X19.here hx rfl (hb hby at_206) rfl ?_
    show own_S p e below T19 (mkF m 207 #[vi p1, vi p2, vi p3, vi p4, vi (1 : Int32), vi (1 : Int32), vi (1 : Int32), vr va1, vr va2, vr va3, vr b4, vj (3 : Int64), .second] [xi p2, xi p1, xi (3 : Int32), xj ((((0 : Int64) + own_h p1 3) + own_h p2 3) + own_h p3 3)]) _
    refine XS.iloadN X19.here hx rfl (hb hby at_207) rfl ?_
    show own_S p e below T19 (mkF m 208 #[vi p1, vi p2, vi p3, vi p4, vi (1 : Int32), vi (1 : Int32), vi (1 : Int32), vr va1, vr va2, vr va3, vr b4, vj (3 : Int64), .second] [xi p3, xi p2, xi p1, xi (3 : Int32), xj ((((0 : Int64) + own_h p1 3) + own_h p2 3) + own_h p3 3)]) _
    refine XS.iloadN X19.here hx rfl (hb hby at_208) rfl ?_
    show own_S p e below T19 (mkF m 209 #[vi p1, vi p2, vi p3, vi p4, vi (1 : Int32), vi (1 : Int32), vi (1 : Int32), vr va1, vr va2, vr va3, vr b4, vj (3 : Int64), .second] [xi p4, xi p3, xi p2, xi p1, xi (3 : Int32), xj ((((0 : Int64) + own_h p1 3) + own_h p2 3) + own_h p3 3)]) _
    refine st20 _ ?_
    show own_S p e below T20 (mkF m 212 #[vi p1, vi p2, vi p3, vi p4, vi (1 : Int32), vi (1 : Int32), vi (1 : Int32), vr va1, vr va2, vr va3, vr b4, vj (3 : Int64), .second] [xj (((own_h p1 (3 : Int32)) + (own_h p2 (3 : Int32))) + (own_h p3 (3 : Int32))), xj ((((0 : Int64) + own_h p1 3) + own_h p2 3) + own_h p3 3)]) _
    refine XS.lcmp X20.here hx rfl (hb hby at_212) rfl ?_
    show own_S p e below T20 (mkF m 213 #[vi p1, vi p2, vi p3, vi p4, vi (1 : Int32), vi (1 : Int32), vi (1 : Int32), vr va1, vr va2, vr va3, vr b4, vj (3 : Int64), .second] [xi (lcmpW ((((0 : Int64) + own_h p1 3) + own_h p2 3) + own_h p3 3) (((own_h p1 (3 : Int32)) + (own_h p2 (3 : Int32))) + (own_h p3 (3 : Int32))))]) _
    show own_S p e below T20 (mkF m 213 #[vi p1, vi p2, vi p3, vi p4, vi (1 : Int32), vi (1 : Int32), vi (1 : Int32), vr va1, vr va2, vr va3, vr b4, vj (3 : Int64), .second] [xi (lcmpW ((((0 : Int64) + own_h p1 3) + own_h p2 3) + own_h p3 3) (((own_h p1 (3 : Int32)) + (own_h p2 (3 : Int32))) + (own_h p3 (3 : Int32))))]) _
    refine XS.ifNo X20.here hx rfl (hb hby at_213) rfl (by simp [lcmpW, ifCond.holds, Int64.zero_add, Int64.add_zero]) ?_
    show own_S p e below T20 (mkF m 216 #[vi p1, vi p2, vi p3, vi p4, vi (1 : Int32), vi (1 : Int32), vi (1 : Int32), vr va1, vr va2, vr va3, vr b4, vj (3 : Int64), .second] []) _
    refine XS.aload X20.here hx rfl (hb hby at_216) rfl rfl ?_
    show own_S p e below T20 (mkF m 218 #[vi p1, vi p2, vi p3, vi p4, vi (1 : Int32), vi (1 : Int32), vi (1 : Int32), vr va1, vr va2, vr va3, vr b4, vj (3 : Int64), .second] [xr b4]) _
    refine st21.trans ?_
    show own_S p e below T21 (mkF m 221 #[vi p1, vi p2, vi p3, vi p4, vi (1 : Int32), vi (1 : Int32), vi (1 : Int32), vr va1, vr va2, vr va3, vr b4, vj (3 : Int64), .second] [xj (((((0 : Int64) + ((((0 : Int64) + own_h p1 0) + own_h p2 0) + own_h p3 0)) + ((((0 : Int64) + own_h p1 1) + own_h p2 1) + own_h p3 1)) + ((((0 : Int64) + own_h p1 2) + own_h p2 2) + own_h p3 2)) + ((((0 : Int64) + own_h p1 3) + own_h p2 3) + own_h p3 3))]) _
    refine XS.lload X21.here hx rfl (hb hby at_221) rfl ?_
    show own_S p e below T21 (mkF m 223 #[vi p1, vi p2, vi p3, vi p4, vi (1 : Int32), vi (1 : Int32), vi (1 : Int32), vr va1, vr va2, vr va3, vr b4, vj (3 : Int64), .second] [xj (3 : Int64), xj (((((0 : Int64) + ((((0 : Int64) + own_h p1 0) + own_h p2 0) + own_h p3 0)) + ((((0 : Int64) + own_h p1 1) + own_h p2 1) + own_h p3 1)) + ((((0 : Int64) + own_h p1 2) + own_h p2 2) + own_h p3 2)) + ((((0 : Int64) + own_h p1 3) + own_h p2 3) + own_h p3 3))]) _
    refine XS.lcmp X21.here hx rfl (hb hby at_223) rfl ?_
    show own_S p e below T21 (mkF m 224 #[vi p1, vi p2, vi p3, vi p4, vi (1 : Int32), vi (1 : Int32), vi (1 : Int32), vr va1, vr va2, vr va3, vr b4, vj (3 : Int64), .second] [xi (lcmpW (((((0 : Int64) + ((((0 : Int64) + own_h p1 0) + own_h p2 0) + own_h p3 0)) + ((((0 : Int64) + own_h p1 1) + own_h p2 1) + own_h p3 1)) + ((((0 : Int64) + own_h p1 2) + own_h p2 2) + own_h p3 2)) + ((((0 : Int64) + own_h p1 3) + own_h p2 3) + own_h p3 3)) (3 : Int64))]) _
    show own_S p e below T21 (mkF m 224 #[vi p1, vi p2, vi p3, vi p4, vi (1 : Int32), vi (1 : Int32), vi (1 : Int32), vr va1, vr va2, vr va3, vr b4, vj (3 : Int64), .second] [xi (lcmpW (((((0 : Int64) + ((((0 : Int64) + own_h p1 0) + own_h p2 0) + own_h p3 0)) + ((((0 : Int64) + own_h p1 1) + own_h p2 1) + own_h p3 1)) + ((((0 : Int64) + own_h p1 2) + own_h p2 2) + own_h p3 2)) + ((((0 : Int64) + own_h p1 3) + own_h p2 3) + own_h p3 3)) (3 : Int64))]) _
    refine XS.ifNo X21.here hx rfl (hb hby at_224) rfl (by rw [show (((((0 : Int64) + ((((0 : Int64) + own_h p1 0) + own_h p2 0) + own_h p3 0)) + ((((0 : Int64) + own_h p1 1) + own_h p2 1) + own_h p3 1)) + ((((0 : Int64) + own_h p1 2) + own_h p2 2) + own_h p3 2)) + ((((0 : Int64) + own_h p1 3) + own_h p2 3) + own_h p3 3)) = (own_h p1 0 + own_h p1 1 + own_h p1 2 + own_h p1 3) + (own_h p2 0 + own_h p2 1 + own_h p2 2 + own_h p2 3) + (own_h p3 0 + own_h p3 1 + own_h p3 2 + own_h p3 3) from by simp only [Int64.zero_add]; try ac_rfl]; simp only [own_hsum]; try decide) ?_
    show own_S p e below T21 (mkF m 227 #[vi p1, vi p2, vi p3, vi p4, vi (1 : Int32), vi (1 : Int32), vi (1 : Int32), vr va1, vr va2, vr va3, vr b4, vj (3 : Int64), .second] []) _
    refine XS.iconst X21.here hx rfl (hb hby at_227) ?_
    show own_S p e below T21 (mkF m 228 #[vi p1, vi p2, vi p3, vi p4, vi (1 : Int32), vi (1 : Int32), vi (1 : Int32), vr va1, vr va2, vr va3, vr b4, vj (3 : Int64), .second] [xi (1 : Int32)]) _
    refine XS.goto X21.here hx rfl (pc0 := 228) (pc' := 232) rfl (hb hby at_228) (by decide) (by decide) ?_
    show own_S p e below T21 (mkF m 232 #[vi p1, vi p2, vi p3, vi p4, vi (1 : Int32), vi (1 : Int32), vi (1 : Int32), vr va1, vr va2, vr va3, vr b4, vj (3 : Int64), .second] [xi (1 : Int32)]) _
    exact retN X21 hx (t := .boolean) Bd.returns (by simp) (hb hby at_232) hr
  · exact ⟨rfl, N21⟩
theorem own_law (l : Launch) (Z : State) (a0 : Array Value) (hw : ∀ d ∈ tables_1, d.before a0 Z = true) (u0 u1 u2 u3 u4 : Addr) (G : own_St Z u0 u1 u2 u3 u4) (p1 : Int32) (p2 : Int32) (p3 : Int32) (p4 : Int32) (h0 : Heap) (n0 : Nat) (O0 : Old Z n0 h0) : own_Met l Z x code maxLocals ret room_1 #[(.int p1), (.int p2), (.int p3), (.int p4)] h0 (own_QL (some (.int (1 : Int32))) n0) := by
  obtain ⟨va1, hv1⟩ : ∃ v, own_is u0 u1 u2 u3 u4 p1 v := by rcases own_mask3 p1 with h | h | h | h <;> simp [own_is, h]
  obtain ⟨va2, hv2⟩ : ∃ v, own_is u0 u1 u2 u3 u4 p2 v := by rcases own_mask3 p2 with h | h | h | h <;> simp [own_is, h]
  obtain ⟨va3, hv3⟩ : ∃ v, own_is u0 u1 u2 u3 u4 p3 v := by rcases own_mask3 p3 with h | h | h | h <;> simp [own_is, h]
  rcases own_mask1 p4 with as6 | as7
  · rcases own_bit2 p4 with as8 | as9
    · rcases own_bit4 p4 with as10 | as11
      · exact own_l0 l Z a0 hw u0 u1 u2 u3 u4 G p1 p2 p3 p4 va1 va2 va3 as6 as8 as10 hv1 hv2 hv3 h0 n0 O0
      · exact own_l1 l Z a0 hw u0 u1 u2 u3 u4 G p1 p2 p3 p4 va1 va2 va3 as6 as8 as11 hv1 hv2 hv3 h0 n0 O0
    · rcases own_bit4 p4 with as10 | as11
      · exact own_l2 l Z a0 hw u0 u1 u2 u3 u4 G p1 p2 p3 p4 va1 va2 va3 as6 as9 as10 hv1 hv2 hv3 h0 n0 O0
      · exact own_l3 l Z a0 hw u0 u1 u2 u3 u4 G p1 p2 p3 p4 va1 va2 va3 as6 as9 as11 hv1 hv2 hv3 h0 n0 O0
  · rcases own_bit2 p4 with as8 | as9
    · rcases own_bit4 p4 with as10 | as11
      · exact own_l4 l Z a0 hw u0 u1 u2 u3 u4 G p1 p2 p3 p4 va1 va2 va3 as7 as8 as10 hv1 hv2 hv3 h0 n0 O0
      · exact own_l5 l Z a0 hw u0 u1 u2 u3 u4 G p1 p2 p3 p4 va1 va2 va3 as7 as8 as11 hv1 hv2 hv3 h0 n0 O0
    · rcases own_bit4 p4 with as10 | as11
      · exact own_l6 l Z a0 hw u0 u1 u2 u3 u4 G p1 p2 p3 p4 va1 va2 va3 as7 as9 as10 hv1 hv2 hv3 h0 n0 O0
      · exact own_l7 l Z a0 hw u0 u1 u2 u3 u4 G p1 p2 p3 p4 va1 va2 va3 as7 as9 as11 hv1 hv2 hv3 h0 n0 O0
set_option maxRecDepth 65536 in
set_option maxHeartbeats 40000000 in
theorem comes_1 {Post : Tables → Env → Array Value → State → Outcome → State → Prop} (hpost : ∀ tb e args s v u, (limb_1_1.after args s (.returned v) u = true ∧ limb_1_2.after args s (.returned v) u = true ∧ True) → FrameEnd s (.returned v) u (Jvm.fieldLocs frame_1_writes args s ++ Jvm.arrayLocs frame_1_arrays args s ++ Jvm.staticLocs frame_1_statics s) 16 128 → Post tb e args s (.returned v) u) :
    ArmFor flags0 classFile x code maxLocals ret World_1 tables_1 room_1 Calls_1 rest_1 Pre_1 Post := by
  intro l hfl _ _ p e ha hc hk s m args below hf hA hF happ hP
  obtain ⟨hcalls, hrest, hpre⟩ := hP
  obtain ⟨-, -, -, hnamed, -, -, -, hat⟩ := (Spec.applies_iff hf).mp happ
  obtain ⟨hg, hn⟩ := and_e (Cond.before_iff.mp (show (Jvm.Cond.and given_1 narrow_1).before args s = true from hpre))
  obtain ⟨hcount, hg0⟩ := and_e hg
  obtain ⟨ga0, hg1⟩ := and_e hg0
  obtain ⟨ga1, hg2⟩ := and_e hg1
  obtain ⟨ga2, hg3⟩ := and_e hg2
  have ga3 := hg3
  obtain ⟨w0, w1, w2, w3, rfl⟩ : ∃ w0 w1 w2 w3 : Value, args = #[w0, w1, w2, w3] := by
    have hs : args.size = 4 := by simpa [Cond.value, given_1] using hcount
    obtain ⟨L⟩ := args
    match L, hs with
    | [w0, w1, w2, w3], _ => exact ⟨w0, w1, w2, w3, rfl⟩
  have hw := fun d (hd : d ∈ tables_1) => atoms_spec (ws := Jvm.Cond.code x code maxLocals ret :: tables_1) hat d (List.mem_cons_of_mem _ hd)
  have hfit : Fit s := fun {y c} hc i hi => by
    obtain ⟨ha, rfl⟩ := Array.getElem?_eq_some_iff.mp hc
    have q := List.all_eq_true.mp ((Array.all_eq_true_iff_forall_mem.mp hF) _ (Array.getElem_mem ha)) i (List.mem_range.mpr hi)
    simpa [Array.getElem?_eq_getElem hi] using q
  obtain ⟨p1, ei0⟩ := is_v ga0
  obtain rfl : w0 = (.int p1) := Option.some.inj ei0
  obtain ⟨p2, ei1⟩ := is_v ga1
  obtain rfl : w1 = (.int p2) := Option.some.inj ei1
  obtain ⟨p3, ei2⟩ := is_v ga2
  obtain rfl : w2 = (.int p3) := Option.some.inj ei2
  obtain ⟨p4, ei3⟩ := is_v ga3
  obtain rfl : w3 = (.int p4) := Option.some.inj ei3
  have hc0 := hn
  obtain ⟨ca0, hc1⟩ := and_e hc0
  obtain ⟨ca1, hc2⟩ := and_e hc1
  obtain ⟨ca2, hc3⟩ := and_e hc2
  obtain ⟨ca3, hc4⟩ := and_e hc3
  obtain ⟨ca4, hc5⟩ := and_e hc4
  obtain ⟨ca5, hc6⟩ := and_e hc5
  obtain ⟨ca6, hc7⟩ := and_e hc6
  obtain ⟨ca7, hc8⟩ := and_e hc7
  obtain ⟨ca8, hc9⟩ := and_e hc8
  obtain ⟨ca9, hc10⟩ := and_e hc9
  obtain ⟨ca10, hc11⟩ := and_e hc10
  obtain ⟨ca11, hc12⟩ := and_e hc11
  obtain ⟨ca12, hc13⟩ := and_e hc12
  obtain ⟨ca13, hc14⟩ := and_e hc13
  have ca14 := hc14
  obtain ⟨u0, ev_u0⟩ := exa_v ca0
  have pX_u0 := Exa.start ev_u0 ca0
  have pS_u0 : Sta s s.heap "com/example/feedwright/feedwright/Verdict" "INSERTED" "Lcom/example/feedwright/feedwright/Verdict;" (.ref u0) := Sta.start ev_u0 (Or.inr ⟨(ww hw 5 rfl), (ww hw 6 rfl)⟩)
  obtain ⟨u1, ev_u1⟩ := exa_v ca1
  have pX_u1 := Exa.start ev_u1 ca1
  have pS_u1 : Sta s s.heap "com/example/feedwright/feedwright/Verdict" "NOT_PROCESSED" "Lcom/example/feedwright/feedwright/Verdict;" (.ref u1) := Sta.start ev_u1 (Or.inr ⟨(ww hw 5 rfl), (ww hw 8 rfl)⟩)
  obtain ⟨u2, ev_u2⟩ := exa_v ca2
  have pX_u2 := Exa.start ev_u2 ca2
  have pS_u2 : Sta s s.heap "com/example/feedwright/feedwright/Verdict" "UNCHANGED" "Lcom/example/feedwright/feedwright/Verdict;" (.ref u2) := Sta.start ev_u2 (Or.inr ⟨(ww hw 5 rfl), (ww hw 10 rfl)⟩)
  obtain ⟨u3, ev_u3⟩ := exa_v ca4
  have pX_u3 := Exa.start ev_u3 ca4
  have pS_u3 : Sta s s.heap "com/example/feedwright/feedwright/Verdict" "$VALUES" "[Lcom/example/feedwright/feedwright/Verdict;" (.ref u3) := Sta.start ev_u3 (Or.inr ⟨(ww hw 5 rfl), (ww hw 24 rfl)⟩)
  obtain ⟨u4, ev_u4⟩ := exa_v ca7
  have pX_u4 := Exa.start ev_u4 ca7
  have pS_u4 : Sta s s.heap "com/example/feedwright/feedwright/Verdict" "UPDATED" "Lcom/example/feedwright/feedwright/Verdict;" (.ref u4) := Sta.start ev_u4 (Or.inr ⟨(ww hw 5 rfl), (ww hw 32 rfl)⟩)
  have pF_u0_ordinal := own_fld ev_u0 ca11
  have pF_u4_ordinal := own_fld ev_u4 ca12
  have pF_u2_ordinal := own_fld ev_u2 ca13
  have pF_u1_ordinal := own_fld ev_u1 ca14
  obtain ⟨cl_u3, pA_u3⟩ := Arr.start ev_u3 ca3
  have pl_u3 := own_len ev_u3 pA_u3 ca5 (k' := 4) (by decide)
  have pVA_u3 := FitC.start hfit pA_u3
  have G : own_St s u0 u1 u2 u3 u4 := ⟨pS_u0, pX_u0, pS_u1, pX_u1, pS_u2, pX_u2, pS_u3, pX_u3, pS_u4, pX_u4, pF_u0_ordinal, pF_u4_ordinal, pF_u2_ordinal, pF_u1_ordinal, ⟨cl_u3, pA_u3, pl_u3, pVA_u3⟩⟩
  obtain ⟨n, o, h1, h2, h3, _, L, rfl, ⟨rfl, N⟩, hq⟩ := own_law l s _ hw u0 u1 u2 u3 u4 G p1 p2 p3 p4 s.heap s.heap.size (Old.start s) tables_1 p e ha hc hk s m _ below hf ((Spec.applies_iff_loose hf).mp happ).1 ⟨rfl, State.Warmed39.refl s, rfl⟩ trivial
  refine ⟨n, _, h1, h2, h3, hpost _ _ _ _ _ _ ⟨Cond.after_iff.mpr rfl, Cond.after_iff.mpr (eq_i res_at (Term.int_eval (1)) rfl), trivial⟩ ⟨hq.1, hq.2.1, (hq.2.2.sift fun y hy => Or.inr (N y hy)).mono (by decide) (by decide)⟩⟩
theorem main_1_1 : Claimed_1_1 := comes_1 fun _ _ _ _ _ _ h hF => ⟨h.1, hF⟩
theorem main_1_2 : Claimed_1_2 := comes_1 fun _ _ _ _ _ _ h hF => ⟨h.2.1, hF⟩
end Jvm.Pilot.@@N@@
namespace Jvm.Pilot.@@N@@
open Jvm Jvm.ClassFile Sem Op Lib Jvm.Free Jvm.Stand Jvm.Pilot.@@N@@.Jvm.D
/-! MADE BY PROGRAM (witnessworld.py) out of the Statement's table words and the real class files: 16 classes; the members and pool entries that the words name. The judged class is class 1, her method 4. -/
namespace start1
open Jvm.ClassFile
def u (s : String) : CpInfo := .utf8 (stringToUtf16 s)
/-- a pool by its gaps: so many unusable entries, then the entry; so many at the end -/
def gap : Nat → List CpInfo → List CpInfo
  | 0, r => r
  | n + 1, r => .unusable :: gap n r
def poolList (es : List (Nat × CpInfo)) (last : Nat) : List CpInfo := es.foldr (fun e r => gap e.1 (e.2 :: r)) (gap last [])
def pool (es : List (Nat × CpInfo)) (last : Nat) : Array CpInfo := ⟨poolList es last⟩
def fileOf (pool : Array CpInfo) (this : Nat) (attrs : Array Attribute := #[]) (ms : Array MethodInfo := #[]) (fl : Nat := 33) (sup : Nat := 0) (ifs : Array Nat := #[]) (fds : Array FieldInfo := #[]) : ClassFile where
  minorVersion := 0
  majorVersion := 65
  constantPool := pool
  accessFlags := fl
  thisClass := this
  superClass := sup
  interfaces := ifs
  fields := fds
  methods := ms
  attributes := attrs
def plain (name : String) (sup : Option ClassId) : Class where
  name := name
  kind := .ordinary
  loader := none
  accessFlags := 33
  super := sup
  interfaces := #[]
  cf := none
  fields := #[]
  methods := #[]
  instanceTypes := #[]
  staticTypes := #[]
  resolved := #[]
  callSites := []
  init := .initialized
  statics := none
  mirror := none

def pool0 : Array CpInfo := pool [(5, u "<init>"), (0, u "()V"), (1, .class_ 10), (1, u "java/lang/Object"), (85, u "clone"), (0, u "()Ljava/lang/Object;")] 26

def k0c0 : Code := { maxStack := 0, maxLocals := 1, code := object_method_1_code, exceptionTable := #[], attributes := #[] }
def k0m0 : Method := { name := "<init>", desc := "()V", sig := { parameters := [], returnType := none }, accessFlags := 1, code := some k0c0 }
def k0m1 : Method := { name := "clone", desc := "()Ljava/lang/Object;", sig := { parameters := [], returnType := some (.object "java/lang/Object") }, accessFlags := 260, code := none }
/-- java/lang/Object -/
def k0 : Class := { plain "java/lang/Object" none with
  accessFlags := 33
  interfaces := #[]
  cf := some (fileOf pool0 8 #[] #[{ accessFlags := 1, nameIndex := 5, descriptorIndex := 6, attributes := #[] }, { accessFlags := 260, nameIndex := 96, descriptorIndex := 97, attributes := #[] }] 33 0 #[] #[])
  fields := #[]
  methods := #[k0m0, k0m1]
  instanceTypes := #[]
  staticTypes := #[]
  resolved := Array.replicate 124 none
  statics := none }

def pool1 : Array CpInfo := pool [(2, .class_ 4), (0, .nameAndType 5 6), (0, u "java/lang/Object"), (0, u "<init>"), (0, u "()V"), (0, .fieldref 8 9), (0, .class_ 10), (0, .nameAndType 11 12), (0, u "com/example/feedwright/feedwright/Verdict"), (0, u "INSERTED"), (0, u "Lcom/example/feedwright/feedwright/Verdict;"), (0, .fieldref 8 14), (0, .nameAndType 15 12), (0, u "UPDATED"), (0, .fieldref 8 17), (0, .nameAndType 18 12), (0, u "UNCHANGED"), (0, .fieldref 8 20), (0, .nameAndType 21 12), (0, u "NOT_PROCESSED"), (0, .methodref 23 24), (0, .class_ 25), (0, .nameAndType 26 27), (0, u "com/example/feedwright/feedwright/LoadSummaryAddPinLaw"), (0, u "hit"), (0, u "(ZII)J"), (0, .methodref 23 29), (0, .nameAndType 30 31), (0, u "pick"), (0, u "(I)Lcom/example/feedwright/feedwright/Verdict;"), (0, .class_ 33), (0, u "com/example/feedwright/feedwright/LoadSummary"), (0, .methodref 32 3), (0, .methodref 32 36), (0, .nameAndType 37 38), (0, u "add"), (0, u "(Lcom/example/feedwright/feedwright/Verdict;)V"), (0, .methodref 32 40), (0, .nameAndType 41 42), (0, u "count"), (0, u "(Lcom/example/feedwright/feedwright/Verdict;)J"), (0, .methodref 23 44), (0, .nameAndType 45 46), (0, u "expected"), (0, u "(IIIII)J"), (0, .methodref 32 48), (0, .nameAndType 49 50), (0, u "records"), (0, u "()J"), (3, u "law"), (0, u "(IIII)Z")] 2

def k1m0 : Method := { name := "<init>", desc := "()V", sig := { parameters := [], returnType := none }, accessFlags := 1, code := none }
def k1c1 : Code := { maxStack := 2, maxLocals := 2, code := method_2_code, exceptionTable := #[], attributes := #[] }
def k1m1 : Method := { name := "pick", desc := "(I)Lcom/example/feedwright/feedwright/Verdict;", sig := { parameters := [.int], returnType := some (.object "com/example/feedwright/feedwright/Verdict") }, accessFlags := 10, code := some k1c1 }
def k1c2 : Code := { maxStack := 2, maxLocals := 3, code := method_3_code, exceptionTable := #[], attributes := #[] }
def k1m2 : Method := { name := "hit", desc := "(ZII)J", sig := { parameters := [.boolean, .int, .int], returnType := some .long }, accessFlags := 10, code := some k1c2 }
def k1c3 : Code := { maxStack := 5, maxLocals := 5, code := method_4_code, exceptionTable := #[], attributes := #[] }
def k1m3 : Method := { name := "expected", desc := "(IIIII)J", sig := { parameters := [.int, .int, .int, .int, .int], returnType := some .long }, accessFlags := 10, code := some k1c3 }
def k1c4 : Code := { maxStack := 7, maxLocals := 13, code := code, exceptionTable := #[], attributes := #[] }
def k1m4 : Method := { name := "law", desc := "(IIII)Z", sig := { parameters := [.int, .int, .int, .int], returnType := some .boolean }, accessFlags := 9, code := some k1c4 }
/-- com/example/feedwright/feedwright/LoadSummaryAddPinLaw -/
def k1 : Class := { plain "com/example/feedwright/feedwright/LoadSummaryAddPinLaw" (some 0) with
  accessFlags := 49
  interfaces := #[]
  cf := some (fileOf pool1 23 #[] #[{ accessFlags := 1, nameIndex := 5, descriptorIndex := 6, attributes := #[] }, { accessFlags := 10, nameIndex := 30, descriptorIndex := 31, attributes := #[] }, { accessFlags := 10, nameIndex := 26, descriptorIndex := 27, attributes := #[] }, { accessFlags := 10, nameIndex := 45, descriptorIndex := 46, attributes := #[] }, { accessFlags := 9, nameIndex := 54, descriptorIndex := 55, attributes := #[] }] 49 2 #[] #[])
  fields := #[]
  methods := #[k1m0, k1m1, k1m2, k1m3, k1m4]
  instanceTypes := #[]
  staticTypes := #[]
  resolved := Array.replicate 58 none
  statics := none }

def pool2 : Array CpInfo := pool [(1, .class_ 2), (0, u "java/lang/constant/Constable"), (0, .class_ 4), (0, u "java/lang/Object")] 6

/-- java/lang/constant/Constable -/
def k2 : Class := { plain "java/lang/constant/Constable" (some 0) with
  accessFlags := 1537
  interfaces := #[]
  cf := some (fileOf pool2 1 #[] #[] 1537 3 #[] #[])
  fields := #[]
  methods := #[]
  instanceTypes := #[]
  staticTypes := #[]
  resolved := Array.replicate 11 none
  statics := none }

def pool3 : Array CpInfo := pool [(1, .class_ 2), (0, u "java/lang/Comparable"), (0, .class_ 4), (0, u "java/lang/Object")] 7

/-- java/lang/Comparable -/
def k3 : Class := { plain "java/lang/Comparable" (some 0) with
  accessFlags := 1537
  interfaces := #[]
  cf := some (fileOf pool3 1 #[] #[] 1537 3 #[] #[])
  fields := #[]
  methods := #[]
  instanceTypes := #[]
  staticTypes := #[]
  resolved := Array.replicate 12 none
  statics := none }

def pool4 : Array CpInfo := pool [(1, .class_ 2), (0, u "java/io/Serializable"), (0, .class_ 4), (0, u "java/lang/Object")] 2

/-- java/io/Serializable -/
def k4 : Class := { plain "java/io/Serializable" (some 0) with
  accessFlags := 1537
  interfaces := #[]
  cf := some (fileOf pool4 1 #[] #[] 1537 3 #[] #[])
  fields := #[]
  methods := #[]
  instanceTypes := #[]
  staticTypes := #[]
  resolved := Array.replicate 7 none
  statics := none }

def pool5 : Array CpInfo := pool [(2, .class_ 4), (1, u "java/lang/Enum"), (0, u "name"), (0, u "Ljava/lang/String;"), (0, .fieldref 2 8), (0, .nameAndType 9 10), (0, u "ordinal"), (0, u "I"), (1, .class_ 14), (1, u "java/lang/Object"), (4, u "hash"), (86, .class_ 108), (1, u "java/lang/Enum$EnumDesc"), (2, .class_ 112), (0, u "java/lang/constant/Constable"), (0, .class_ 114), (0, u "java/lang/Comparable"), (0, .class_ 116), (0, u "java/io/Serializable"), (9, u "()I")] 77

def k5c0 : Code := { maxStack := 1, maxLocals := 1, code := jdk_37_method_2_code, exceptionTable := #[], attributes := #[] }
def k5m0 : Method := { name := "ordinal", desc := "()I", sig := { parameters := [], returnType := some .int }, accessFlags := 17, code := some k5c0 }
/-- java/lang/Enum -/
def k5 : Class := { plain "java/lang/Enum" (some 0) with
  accessFlags := 1057
  interfaces := #[2, 3, 4]
  cf := some (fileOf pool5 2 #[.nestMembers #[106]] #[{ accessFlags := 17, nameIndex := 9, descriptorIndex := 126, attributes := #[] }] 1057 12 #[111, 113, 115] #[{ accessFlags := 18, nameIndex := 5, descriptorIndex := 6, attributes := #[] }, { accessFlags := 18, nameIndex := 9, descriptorIndex := 10, attributes := #[] }, { accessFlags := 2, nameIndex := 19, descriptorIndex := 10, attributes := #[] }])
  fields := #[{ name := "name", type := (.object "java/lang/String"), accessFlags := 18, slot := 0, constantValue := 0 }, { name := "ordinal", type := .int, accessFlags := 18, slot := 1, constantValue := 0 }, { name := "hash", type := .int, accessFlags := 2, slot := 2, constantValue := 0 }]
  methods := #[k5m0]
  instanceTypes := #[(.object "java/lang/String"), .int, .int]
  staticTypes := #[]
  resolved := Array.replicate 204 none
  statics := none }

def pool6 : Array CpInfo := pool [(1, .class_ 2), (0, u "com/example/feedwright/feedwright/Verdict"), (2, u "INSERTED"), (0, u "Lcom/example/feedwright/feedwright/Verdict;"), (2, u "UPDATED"), (2, u "UNCHANGED"), (2, u "NOT_PROCESSED"), (0, .fieldref 1 17), (0, .nameAndType 18 19), (0, u "$VALUES"), (0, u "[Lcom/example/feedwright/feedwright/Verdict;"), (0, .methodref 21 22), (0, .class_ 19), (0, .nameAndType 23 24), (0, u "clone"), (0, u "()Ljava/lang/Object;"), (1, .class_ 28), (1, u "java/lang/Enum"), (30, u "()[Lcom/example/feedwright/feedwright/Verdict;"), (0, u "values")] 11

def k6c0 : Code := { maxStack := 1, maxLocals := 0, code := prog_29_method_1_code, exceptionTable := #[], attributes := #[] }
def k6m0 : Method := { name := "values", desc := "()[Lcom/example/feedwright/feedwright/Verdict;", sig := { parameters := [], returnType := some (.array (.object "com/example/feedwright/feedwright/Verdict")) }, accessFlags := 9, code := some k6c0 }
/-- com/example/feedwright/feedwright/Verdict -/
def k6 : Class := { plain "com/example/feedwright/feedwright/Verdict" (some 5) with
  accessFlags := 16432
  interfaces := #[]
  cf := some (fileOf pool6 1 #[] #[{ accessFlags := 9, nameIndex := 60, descriptorIndex := 59, attributes := #[] }] 16432 26 #[] #[{ accessFlags := 16409, nameIndex := 5, descriptorIndex := 6, attributes := #[] }, { accessFlags := 16409, nameIndex := 9, descriptorIndex := 6, attributes := #[] }, { accessFlags := 16409, nameIndex := 12, descriptorIndex := 6, attributes := #[] }, { accessFlags := 16409, nameIndex := 15, descriptorIndex := 6, attributes := #[] }, { accessFlags := 4122, nameIndex := 18, descriptorIndex := 19, attributes := #[] }])
  fields := #[{ name := "INSERTED", type := (.object "com/example/feedwright/feedwright/Verdict"), accessFlags := 16409, slot := 0, constantValue := 0 }, { name := "UPDATED", type := (.object "com/example/feedwright/feedwright/Verdict"), accessFlags := 16409, slot := 1, constantValue := 0 }, { name := "UNCHANGED", type := (.object "com/example/feedwright/feedwright/Verdict"), accessFlags := 16409, slot := 2, constantValue := 0 }, { name := "NOT_PROCESSED", type := (.object "com/example/feedwright/feedwright/Verdict"), accessFlags := 16409, slot := 3, constantValue := 0 }, { name := "$VALUES", type := (.array (.object "com/example/feedwright/feedwright/Verdict")), accessFlags := 4122, slot := 4, constantValue := 0 }]
  methods := #[k6m0]
  instanceTypes := #[(.object "java/lang/String"), .int, .int]
  staticTypes := #[(.object "com/example/feedwright/feedwright/Verdict"), (.object "com/example/feedwright/feedwright/Verdict"), (.object "com/example/feedwright/feedwright/Verdict"), (.object "com/example/feedwright/feedwright/Verdict"), (.array (.object "com/example/feedwright/feedwright/Verdict"))]
  resolved := Array.replicate 72 none
  statics := some 0 }

def pool7 : Array CpInfo := pool [(1, .methodref 2 3), (0, .class_ 4), (0, .nameAndType 5 6), (0, u "java/lang/Object"), (0, u "<init>"), (0, u "()V"), (0, .methodref 8 9), (0, .class_ 10), (0, .nameAndType 11 12), (0, u "com/example/feedwright/feedwright/Verdict"), (0, u "values"), (0, u "()[Lcom/example/feedwright/feedwright/Verdict;"), (0, .fieldref 14 15), (0, .class_ 16), (0, .nameAndType 17 18), (0, u "com/example/feedwright/feedwright/LoadSummary"), (0, u "counts"), (0, u "[J"), (0, .methodref 8 20), (0, .nameAndType 21 22), (0, u "ordinal"), (0, u "()I"), (4, u "records"), (2, u "()J"), (18, u "count"), (0, u "(Lcom/example/feedwright/feedwright/Verdict;)J"), (49, u "add"), (6, u "(Lcom/example/feedwright/feedwright/Verdict;)V")] 25

def k7c0 : Code := { maxStack := 2, maxLocals := 1, code := prog_16_method_1_code, exceptionTable := #[], attributes := #[] }
def k7m0 : Method := { name := "<init>", desc := "()V", sig := { parameters := [], returnType := none }, accessFlags := 0, code := some k7c0 }
def k7c1 : Code := { maxStack := 6, maxLocals := 2, code := prog_16_method_2_code, exceptionTable := #[], attributes := #[] }
def k7m1 : Method := { name := "add", desc := "(Lcom/example/feedwright/feedwright/Verdict;)V", sig := { parameters := [(.object "com/example/feedwright/feedwright/Verdict")], returnType := none }, accessFlags := 0, code := some k7c1 }
def k7c2 : Code := { maxStack := 2, maxLocals := 2, code := prog_16_method_3_code, exceptionTable := #[], attributes := #[] }
def k7m2 : Method := { name := "count", desc := "(Lcom/example/feedwright/feedwright/Verdict;)J", sig := { parameters := [(.object "com/example/feedwright/feedwright/Verdict")], returnType := some .long }, accessFlags := 0, code := some k7c2 }
def k7c3 : Code := { maxStack := 4, maxLocals := 8, code := prog_16_method_4_code, exceptionTable := #[], attributes := #[] }
def k7m3 : Method := { name := "records", desc := "()J", sig := { parameters := [], returnType := some .long }, accessFlags := 0, code := some k7c3 }
/-- com/example/feedwright/feedwright/LoadSummary -/
def k7 : Class := { plain "com/example/feedwright/feedwright/LoadSummary" (some 0) with
  accessFlags := 48
  interfaces := #[]
  cf := some (fileOf pool7 14 #[] #[{ accessFlags := 0, nameIndex := 5, descriptorIndex := 6, attributes := #[] }, { accessFlags := 0, nameIndex := 100, descriptorIndex := 107, attributes := #[] }, { accessFlags := 0, nameIndex := 49, descriptorIndex := 50, attributes := #[] }, { accessFlags := 0, nameIndex := 27, descriptorIndex := 30, attributes := #[] }] 48 2 #[] #[{ accessFlags := 18, nameIndex := 17, descriptorIndex := 18, attributes := #[] }])
  fields := #[{ name := "counts", type := (.array .long), accessFlags := 18, slot := 0, constantValue := 0 }]
  methods := #[k7m0, k7m1, k7m2, k7m3]
  instanceTypes := #[(.array .long)]
  staticTypes := #[]
  resolved := Array.replicate 133 none
  statics := none }

def pool8 : Array CpInfo := pool [(1, .class_ 2), (0, u "java/lang/Cloneable"), (0, .class_ 4), (0, u "java/lang/Object")] 2

/-- java/lang/Cloneable -/
def k8 : Class := { plain "java/lang/Cloneable" (some 0) with
  accessFlags := 1537
  interfaces := #[]
  cf := some (fileOf pool8 1 #[] #[] 1537 3 #[] #[])
  fields := #[]
  methods := #[]
  instanceTypes := #[]
  staticTypes := #[]
  resolved := Array.replicate 7 none
  statics := none }

/-- the primitive byte -/
def k9 : Class := { plain "byte" none with kind := .primitive 'B', accessFlags := 0x411 }
/-- [B -/
def k10 : Class := { plain "[B" (some 0) with kind := .array 9 .byte, interfaces := #[8, 4], accessFlags := 1041 }

/-- the primitive int -/
def k11 : Class := { plain "int" none with kind := .primitive 'I', accessFlags := 0x411 }
/-- [I -/
def k12 : Class := { plain "[I" (some 0) with kind := .array 11 .int, interfaces := #[8, 4], accessFlags := 1041 }

/-- the primitive long -/
def k13 : Class := { plain "long" none with kind := .primitive 'J', accessFlags := 0x411 }
/-- [J -/
def k14 : Class := { plain "[J" (some 0) with kind := .array 13 .long, interfaces := #[8, 4], accessFlags := 1041 }

/-- [Lcom/example/feedwright/feedwright/Verdict; -/
def k15 : Class := { plain "[Lcom/example/feedwright/feedwright/Verdict;" (some 0) with kind := .array 6 (.object "com/example/feedwright/feedwright/Verdict"), interfaces := #[8, 4], accessFlags := 1041 }

def heap : Heap := #[{ cls := 6, slots := #[.ref 2, .ref 5, .ref 4, .ref 3, .ref 1], vm := .statics 6 },
  { cls := 15, slots := #[.ref 2, .ref 5, .ref 4, .ref 3], vm := .none },
  { cls := 6, slots := #[.null, .int 0, .int 0], vm := .none },
  { cls := 6, slots := #[.null, .int 3, .int 0], vm := .none },
  { cls := 6, slots := #[.null, .int 2, .int 0], vm := .none },
  { cls := 6, slots := #[.null, .int 1, .int 0], vm := .none }]
def classes : Array Class := #[k0, k1, k2, k3, k4, k5, k6, k7, k8, k9, k10, k11, k12, k13, k14, k15]
def interned : List (Array UInt16 × Addr) := []
def slotsUsed : Nat := 21
def theMethod : MethodId := ⟨1, 4⟩
def args0 : Array Value := #[.int 4, .int 5, .int 6, .int 7]
def aboutOver (below : List Frame) : State where
  vm := { classes := classes, interned := interned.toArray }
  heap := heap
  slotsUsed := slotsUsed
  threads := #[{ frames := .invoking theMethod args0 :: below }]
def below0 : List Frame := [.native { method := ⟨0, 0⟩, args := #[] }]
def about1 : State := aboutOver below0
def p0 : Program := .bare "" "" ""
def e0 : Env := launch0.env 0 0 0
theorem w_frames : about1.frames = Frame.invoking theMethod args0 :: below0 := rfl
set_option maxRecDepth 65536 in
theorem w_args : argsFit about1.vm theMethod args0 = true := by decide +kernel
set_option maxRecDepth 65536 in
theorem w_heap : heapFits about1 = true := by decide +kernel
set_option maxRecDepth 65536 in
theorem w_runnable : about1.curStatus? = some .runnable := by decide +kernel
set_option maxRecDepth 65536 in
theorem w_alone : about1.alone = true := by decide +kernel
set_option maxRecDepth 65536 in
theorem w_named : about1.methodNamed? x = some theMethod := by decide +kernel
set_option maxRecDepth 65536 in
theorem w_hears : about1.hears theMethod below0 = true := by decide +kernel
set_option maxRecDepth 65536 in
theorem w_ripe : about1.ripe theMethod args0 below0 = true := by decide +kernel
theorem w_running : about1.status = .running := rfl
set_option maxRecDepth 65536 in
theorem w_room : about1.hasRoom e0.platform room_1 = true :=
  launch0.hasRoom_least _ room_1 (by decide +kernel) (by decide +kernel) (by decide +kernel) (by decide +kernel) (by decide +kernel) (by decide +kernel)
theorem allAtoms_all (ts : List Jvm.Cond) (a : Array Jvm.Value) (st : Jvm.State) : (allAtoms ts).before a st = ts.all (fun c => c.before a st) := by
  induction ts with
  | nil => rfl
  | cons c t ih =>
    show (Jvm.Cond.and c (allAtoms t)).before a st = _
    rw [Jvm.Cond.before_and, ih, List.all_cons]
def words1 : List Jvm.Cond := Jvm.Cond.code x code maxLocals ret :: tables_1
/-- a 'code' word, met by the world's own term for the bytes: nothing is compared byte by byte -/
theorem code_word {y : MethodName} {bytes : ByteArray} {mx : Nat} {rt : Option FieldType} {a : Array Value} {s : State} {m : MethodId} {meth : Method} {c : Code} (h1 : s.methodNamed? y = some m) (h2 : s.vm.method? m = some meth) (h3 : meth.code = some c) (h4 : c.code = bytes)
    (h5 : (c.maxLocals == mx && c.exceptionTable.isEmpty && decide (c.maxStack ≤ mostOperands) && decide (meth.sig.returnType = rt) && !meth.locks && decide (parseMethodDescriptor y.desc = some meth.sig)) = true) : (Jvm.Cond.code y bytes mx rt).before a s = true := by
  simp only [Bool.and_eq_true, beq_iff_eq, Bool.not_eq_true', decide_eq_true_eq] at h5
  obtain ⟨⟨⟨⟨⟨g1, g2⟩, g3⟩, g4⟩, g5⟩, g6⟩ := h5
  simp [Cond.before, Cond.holds, Cond.value, h1, h2, h3, h4, g1, g2, g3, g4, g5, g6]
def isCode : Jvm.Cond → Bool
  | .code _ _ _ _ => true
  | _ => false
theorem all_split {L : List Jvm.Cond} {P : Jvm.Cond → Bool} (h1 : L.all (fun c => isCode c || P c) = true) (h2 : ∀ c ∈ L.filter isCode, P c = true) : L.all P = true := by
  refine List.all_eq_true.mpr fun c hc => ?_
  have h := List.all_eq_true.mp h1 c hc
  rcases Bool.eq_false_or_eq_true (isCode c) with hi | hi
  · exact h2 c (List.mem_filter.mpr ⟨hc, hi⟩)
  · simpa [hi] using h
set_option maxRecDepth 65536 in
theorem w_c0 : (Jvm.Cond.code x code maxLocals ret).before args0 about1 = true := code_word (m := ⟨1, 4⟩) (meth := k1m4) (c := k1c4) (by decide +kernel) rfl rfl rfl (by decide +kernel)
set_option maxRecDepth 65536 in
theorem w_c1 : (Jvm.Cond.code ({ cls := "com/example/feedwright/feedwright/LoadSummaryAddPinLaw", name := "pick", desc := "(I)Lcom/example/feedwright/feedwright/Verdict;" } : Jvm.MethodName) method_2_code (2 : Nat) (Option.some (Jvm.ClassFile.FieldType.object "com/example/feedwright/feedwright/Verdict"))).before args0 about1 = true := code_word (m := ⟨1, 1⟩) (meth := k1m1) (c := k1c1) (by decide +kernel) rfl rfl rfl (by decide +kernel)
set_option maxRecDepth 65536 in
theorem w_c2 : (Jvm.Cond.code ({ cls := "com/example/feedwright/feedwright/LoadSummary", name := "<init>", desc := "()V" } : Jvm.MethodName) prog_16_method_1_code (1 : Nat) (Option.none : Option Jvm.ClassFile.FieldType)).before args0 about1 = true := code_word (m := ⟨7, 0⟩) (meth := k7m0) (c := k7c0) (by decide +kernel) rfl rfl rfl (by decide +kernel)
set_option maxRecDepth 65536 in
theorem w_c3 : (Jvm.Cond.code ({ cls := "java/lang/Object", name := "<init>", desc := "()V" } : Jvm.MethodName) object_method_1_code (1 : Nat) (Option.none : Option Jvm.ClassFile.FieldType)).before args0 about1 = true := code_word (m := ⟨0, 0⟩) (meth := k0m0) (c := k0c0) (by decide +kernel) rfl rfl rfl (by decide +kernel)
set_option maxRecDepth 65536 in
theorem w_c4 : (Jvm.Cond.code ({ cls := "com/example/feedwright/feedwright/Verdict", name := "values", desc := "()[Lcom/example/feedwright/feedwright/Verdict;" } : Jvm.MethodName) prog_29_method_1_code (0 : Nat) (Option.some (Jvm.ClassFile.FieldType.array (Jvm.ClassFile.FieldType.object "com/example/feedwright/feedwright/Verdict")))).before args0 about1 = true := code_word (m := ⟨6, 0⟩) (meth := k6m0) (c := k6c0) (by decide +kernel) rfl rfl rfl (by decide +kernel)
set_option maxRecDepth 65536 in
theorem w_c5 : (Jvm.Cond.code ({ cls := "com/example/feedwright/feedwright/LoadSummary", name := "add", desc := "(Lcom/example/feedwright/feedwright/Verdict;)V" } : Jvm.MethodName) prog_16_method_2_code (2 : Nat) (Option.none : Option Jvm.ClassFile.FieldType)).before args0 about1 = true := code_word (m := ⟨7, 1⟩) (meth := k7m1) (c := k7c1) (by decide +kernel) rfl rfl rfl (by decide +kernel)
set_option maxRecDepth 65536 in
theorem w_c6 : (Jvm.Cond.code ({ cls := "java/lang/Enum", name := "ordinal", desc := "()I" } : Jvm.MethodName) jdk_37_method_2_code (1 : Nat) (Option.some Jvm.ClassFile.FieldType.int)).before args0 about1 = true := code_word (m := ⟨5, 0⟩) (meth := k5m0) (c := k5c0) (by decide +kernel) rfl rfl rfl (by decide +kernel)
set_option maxRecDepth 65536 in
theorem w_c7 : (Jvm.Cond.code ({ cls := "com/example/feedwright/feedwright/LoadSummary", name := "count", desc := "(Lcom/example/feedwright/feedwright/Verdict;)J" } : Jvm.MethodName) prog_16_method_3_code (2 : Nat) (Option.some Jvm.ClassFile.FieldType.long)).before args0 about1 = true := code_word (m := ⟨7, 2⟩) (meth := k7m2) (c := k7c2) (by decide +kernel) rfl rfl rfl (by decide +kernel)
set_option maxRecDepth 65536 in
theorem w_c8 : (Jvm.Cond.code ({ cls := "com/example/feedwright/feedwright/LoadSummaryAddPinLaw", name := "expected", desc := "(IIIII)J" } : Jvm.MethodName) method_4_code (5 : Nat) (Option.some Jvm.ClassFile.FieldType.long)).before args0 about1 = true := code_word (m := ⟨1, 3⟩) (meth := k1m3) (c := k1c3) (by decide +kernel) rfl rfl rfl (by decide +kernel)
set_option maxRecDepth 65536 in
theorem w_c9 : (Jvm.Cond.code ({ cls := "com/example/feedwright/feedwright/LoadSummaryAddPinLaw", name := "hit", desc := "(ZII)J" } : Jvm.MethodName) method_3_code (3 : Nat) (Option.some Jvm.ClassFile.FieldType.long)).before args0 about1 = true := code_word (m := ⟨1, 2⟩) (meth := k1m2) (c := k1c2) (by decide +kernel) rfl rfl rfl (by decide +kernel)
set_option maxRecDepth 65536 in
theorem w_c10 : (Jvm.Cond.code ({ cls := "com/example/feedwright/feedwright/LoadSummary", name := "records", desc := "()J" } : Jvm.MethodName) prog_16_method_4_code (8 : Nat) (Option.some Jvm.ClassFile.FieldType.long)).before args0 about1 = true := code_word (m := ⟨7, 3⟩) (meth := k7m3) (c := k7c3) (by decide +kernel) rfl rfl rfl (by decide +kernel)
def codes1 : List Jvm.Cond := [Jvm.Cond.code x code maxLocals ret, Jvm.Cond.code ({ cls := "com/example/feedwright/feedwright/LoadSummaryAddPinLaw", name := "pick", desc := "(I)Lcom/example/feedwright/feedwright/Verdict;" } : Jvm.MethodName) method_2_code (2 : Nat) (Option.some (Jvm.ClassFile.FieldType.object "com/example/feedwright/feedwright/Verdict")), Jvm.Cond.code ({ cls := "com/example/feedwright/feedwright/LoadSummary", name := "<init>", desc := "()V" } : Jvm.MethodName) prog_16_method_1_code (1 : Nat) (Option.none : Option Jvm.ClassFile.FieldType), Jvm.Cond.code ({ cls := "java/lang/Object", name := "<init>", desc := "()V" } : Jvm.MethodName) object_method_1_code (1 : Nat) (Option.none : Option Jvm.ClassFile.FieldType), Jvm.Cond.code ({ cls := "com/example/feedwright/feedwright/Verdict", name := "values", desc := "()[Lcom/example/feedwright/feedwright/Verdict;" } : Jvm.MethodName) prog_29_method_1_code (0 : Nat) (Option.some (Jvm.ClassFile.FieldType.array (Jvm.ClassFile.FieldType.object "com/example/feedwright/feedwright/Verdict"))), Jvm.Cond.code ({ cls := "com/example/feedwright/feedwright/LoadSummary", name := "add", desc := "(Lcom/example/feedwright/feedwright/Verdict;)V" } : Jvm.MethodName) prog_16_method_2_code (2 : Nat) (Option.none : Option Jvm.ClassFile.FieldType), Jvm.Cond.code ({ cls := "java/lang/Enum", name := "ordinal", desc := "()I" } : Jvm.MethodName) jdk_37_method_2_code (1 : Nat) (Option.some Jvm.ClassFile.FieldType.int), Jvm.Cond.code ({ cls := "com/example/feedwright/feedwright/LoadSummary", name := "count", desc := "(Lcom/example/feedwright/feedwright/Verdict;)J" } : Jvm.MethodName) prog_16_method_3_code (2 : Nat) (Option.some Jvm.ClassFile.FieldType.long), Jvm.Cond.code ({ cls := "com/example/feedwright/feedwright/LoadSummaryAddPinLaw", name := "expected", desc := "(IIIII)J" } : Jvm.MethodName) method_4_code (5 : Nat) (Option.some Jvm.ClassFile.FieldType.long), Jvm.Cond.code ({ cls := "com/example/feedwright/feedwright/LoadSummaryAddPinLaw", name := "hit", desc := "(ZII)J" } : Jvm.MethodName) method_3_code (3 : Nat) (Option.some Jvm.ClassFile.FieldType.long), Jvm.Cond.code ({ cls := "com/example/feedwright/feedwright/LoadSummary", name := "records", desc := "()J" } : Jvm.MethodName) prog_16_method_4_code (8 : Nat) (Option.some Jvm.ClassFile.FieldType.long)]
set_option maxRecDepth 65536 in
theorem codes_eq : words1.filter isCode = codes1 := rfl
theorem w_codes : ∀ c ∈ words1.filter isCode, c.before args0 about1 = true := by
  rw [codes_eq]
  intro c hc
  simp only [codes1, List.mem_cons, List.not_mem_nil, or_false] at hc
  rcases hc with rfl | rfl | rfl | rfl | rfl | rfl | rfl | rfl | rfl | rfl | rfl
  · exact w_c0
  · exact w_c1
  · exact w_c2
  · exact w_c3
  · exact w_c4
  · exact w_c5
  · exact w_c6
  · exact w_c7
  · exact w_c8
  · exact w_c9
  · exact w_c10
set_option maxRecDepth 65536 in
theorem w_t1 : (words1.take 24).all (fun c => isCode c || c.before args0 about1) = true := by decide +kernel
set_option maxRecDepth 65536 in
theorem w_t2 : ((words1.drop 24).take 24).all (fun c => isCode c || c.before args0 about1) = true := by decide +kernel
set_option maxRecDepth 65536 in
theorem w_t3 : ((words1.drop 24).drop 24).all (fun c => isCode c || c.before args0 about1) = true := by decide +kernel
theorem w_tables : (allAtoms (Jvm.Cond.code x code maxLocals ret :: tables_1)).before args0 about1 = true := by
  rw [allAtoms_all]
  show words1.all (fun c => c.before args0 about1) = true
  refine all_split ?_ w_codes
  rw [← List.take_append_drop 24 words1, List.all_append, w_t1, ← List.take_append_drop 24 (words1.drop 24), List.all_append, w_t2, w_t3]
  rfl
set_option maxRecDepth 65536 in
theorem w_case : (Jvm.Cond.and given_1 narrow_1).before args0 about1 = true := by decide +kernel
theorem w_applies : (headSpec (Jvm.Cond.code x code maxLocals ret :: tables_1) room_1).applies x e0.platform about1 = true :=
  (Spec.applies_iff w_frames).mpr ⟨w_running, w_runnable, w_alone, w_named, w_hears, w_ripe, w_room, w_tables⟩
theorem atStart : AtStart classFile x code maxLocals ret World_1 tables_1 room_1 Calls_1 rest_1 Pre_1 launch0 p0 e0 about1 theMethod args0 below0 :=
  ⟨lists_1, trivial, launch0.admits_env _ _ _, launch0.least_env, fairChoices_fair.cas, fairChoices_fair.clock, w_frames, w_args, w_heap, w_applies, trivial, trivial, w_case⟩
end start1
theorem witness_1 : WitnessClaimed_1 := ⟨start1.p0, start1.e0, start1.about1, start1.theMethod, start1.args0, start1.below0, start1.atStart⟩
end Jvm.Pilot.@@N@@
