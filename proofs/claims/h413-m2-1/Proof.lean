import JvmDerived
import JvmDerived.Pilot.@@N@@Statement
import JvmDerived.Pilot.@@N@@Code
set_option linter.unusedVariables false
set_option linter.unusedSimpArgs false
namespace Jvm.RoadKit
open Sem ClassFile Op Lib Jvm.Stand Jvm.Free Jvm.LawKit
section New
variable {p : Program} {l : Launch} {e : Env} {R : Room} {s : State} {m : MethodId} {args : Array Value} {below : List Frame} {meth : Method} {c : Code} {T : State} {locs : List Loc} {cells slots : Nat}
theorem retI (X : Stand p l e R s m args below meth c T locs cells slots) (hx : p.tables.exec = Jvm.exec) {pc : Nat} {Ls : Array Slot} {z : Int32} {rest : List Value} (hret : meth.sig.returnType = some .int) (hd : decode c.code pc = .ok (.ireturn, 1)) {fs : List Frame}
    (hl : ∀ (f : JFrame) (acts : List Action), f.method = m → f.locked = none → f.entered = [] → (doReturn e (T.setTop f) acts (some (.int z))).1 = T.setFrames fs) : Steps p.tables e below (T.setTop (mkF m pc Ls (.int z :: rest))) (T.setFrames fs) := by
  have hm' : T.vm.method? m = some meth := X.method'
  have hn : narrow .int (.int z) = .int z := rfl
  show Steps p.tables e below (T.setTop { method := m, pc := pc, locals := Ls, stack := _ :: rest, locked := none }) _
  jvm_step X.here [X.here.top, hx, hd, hm', hret, hn]
  first | (intro acts; rw [hl _ acts rfl rfl rfl]) | rw [hl _ _ rfl rfl rfl]
  exact Steps.refl _
end New
end Jvm.RoadKit
namespace Jvm.Pilot.@@N@@
open Jvm Jvm.ClassFile Sem Op Lib Jvm.Free Jvm.Stand Jvm.LawKit Jvm.RoadKit Bundle Jvm.Pilot.@@N@@.Jvm.D
theorem ww {a0 : Array Value} {Z : State} (hw : ∀ d ∈ tables_1, d.before a0 Z = true) (i : Nat) {d : Jvm.Cond} (h : tables_1[i]? = some d) : d.before a0 Z = true := hw d (List.mem_of_getElem? h)
abbrev vi (x : Int32) : Slot := .val (.int x)
abbrev vj (x : Int64) : Slot := .val (.long x)
abbrev vr (x : Addr) : Slot := .val (.ref x)
abbrev vn : Slot := .val .null
abbrev vu : Slot := .unset
abbrev xi (x : Int32) : Value := .int x
abbrev xj (x : Int64) : Value := .long x
abbrev xr (x : Addr) : Value := .ref x
abbrev own_S (p : Program) (e : Env) (below : List Frame) (T : State) (g : JFrame) (t : State) : Prop := Steps p.tables e below (T.setTop g) t
/-- a body's contract: at these arguments and this heap it returns as Q says -/
abbrev own_Met (l : Launch) (Z : State) (y : MethodName) (bytes : ByteArray) (maxL : Nat) (rt : Option FieldType) (rm : Room) (as' : Array Value) (h0 : Heap) (Qy : Option Value → Heap → List Loc → Prop) : Prop :=
  ∀ ws : List Jvm.Cond, MetFree l y (head1 (Jvm.Cond.code y bytes maxL rt :: ws) rm) (fun a U => a = as' ∧ Z.Warmed39 U.vm ∧ U.heap = h0) (fun _ _ _ _ _ => True) (fun _ U o U' => ∃ v L, o = .returned v ∧ Qy v U'.heap L ∧ FrameEnd U o U' L rm.cells rm.slots)
/-- it returns r and leaves the heap -/
def own_QR (r : Option Value) (h0 : Heap) (n0 : Nat) (v : Option Value) (h : Heap) (L : List Loc) : Prop := v = r ∧ Fr n0 L ∧ h = h0
/-- it returns r and writes nothing that stood at the start -/
def own_QL (r : Option Value) (n0 : Nat) (v : Option Value) (h : Heap) (L : List Loc) : Prop := v = r ∧ Fr n0 L
theorem own_le {Z : State} {n0 : Nat} {h : Heap} (O : Old Z n0 h) : n0 ≤ h.size := O.1 ▸ O.2.1
theorem own_fresh {Z : State} {n0 : Nat} {h : Heap} {a : Addr} (O : Old Z n0 h) (g : a = h.size) : n0 ≤ a := g ▸ own_le O
theorem own_fld {s : State} {args : Array Value} {t : Term} {C n d : String} {a : Addr} {k : Int32} (ht : t.eval args s none [] s = some (.ref a)) (h : (Jvm.Cond.eq (.field t C n d) (.int k)).value args s none s [] = some true) : Fld s s.heap a C n d (.int k) := by
  refine Fld.start ?_
  simp only [Cond.value, Term.eval, ht] at h
  cases hv : s.fieldOf? a C n d with
  | none => simp [hv] at h
  | some v => cases v <;> simp [hv] at h; subst h; rfl
theorem own_fldN {s : State} {args : Array Value} {t : Term} {C n d : String} {a : Addr} (ht : t.eval args s none [] s = some (.ref a)) (h : (Jvm.Cond.eq (.field t C n d) .null).value args s none s [] = some true) : Fld s s.heap a C n d .null :=
  Fld.start ((fld_at ht).symm.trans (null_v h))
theorem own_fldX {s : State} {args : Array Value} {t : Term} {C n d K : String} {a : Addr} (ht : t.eval args s none [] s = some (.ref a)) (h : (Jvm.Cond.exactly (.field t C n d) K).value args s none s [] = some true) : ∃ b, Fld s s.heap a C n d (.ref b) ∧ Exa s s.heap b K := by
  obtain ⟨b, eb⟩ := exa_v h
  exact ⟨b, Fld.start ((fld_at ht).symm.trans eb), Exa.start eb h⟩
theorem own_len {s : State} {args : Array Value} {t : Term} {a : Addr} {cl : Cell} {ty : FieldType} {k : Int32} {k' : Nat} (ht : t.eval args s none [] s = some (.ref a)) (A : Arr s s.heap a cl ty) (h : (Jvm.Cond.eq (.length t) (.int k)).value args s none s [] = some true) (hk : k.toInt = k') : cl.slots.size = k' := by
  obtain ⟨v, hv⟩ : ∃ v, (Term.length t).eval args s none [] s = some v := by
    cases hq : (Term.length t).eval args s none [] s with
    | none => simp [Cond.value, hq] at h
    | some v => exact ⟨v, rfl⟩
  have ha : s.arrayAt? a = some cl := Arr.fin (Vm.Alike.refl _) A
  by_cases hl : cl.slots.size < 2 ^ 31
  · rw [len_f ht ha hl] at hv
    have h2 := len_f ht ha hl
    have h3 : cl.slots.size.toInt32 = k := gotT (Cond.eq_ints h2 (Term.int_eval k)) h
    have h4 := len_toInt hl
    rw [h3, hk] at h4
    omega
  · simp [Term.eval, ht, ha, hl] at hv
theorem own_ref {x y : Addr} (h : x ≠ y) : decide ((Value.ref x : Value) = .ref y) = false := by simp [h]
theorem own_mask (x : Int32) : 0 ≤ (x &&& (2147483647 : Int32)).toInt := by
  have := c_mask x 2147483647 31 (by decide) (by decide); omega
def own_St (Z : State) (u0 u1 u2 : Addr) : Prop := (Sta Z Z.heap "com/example/tidemark/tidemark/Change" "ADDED" "Lcom/example/tidemark/tidemark/Change;" (.ref u0)) ∧ (Exa Z Z.heap u0 "com/example/tidemark/tidemark/Change") ∧ (Sta Z Z.heap "com/example/tidemark/tidemark/Change" "REMOVED" "Lcom/example/tidemark/tidemark/Change;" (.ref u1)) ∧ (Exa Z Z.heap u1 "com/example/tidemark/tidemark/Change") ∧ (Sta Z Z.heap "com/example/tidemark/tidemark/Change" "TOGGLED" "Lcom/example/tidemark/tidemark/Change;" (.ref u2)) ∧ (Exa Z Z.heap u2 "com/example/tidemark/tidemark/Change") ∧ (Fld Z Z.heap u0 "java/lang/Enum" "ordinal" "I" (.int (0 : Int32))) ∧ (Fld Z Z.heap u2 "java/lang/Enum" "ordinal" "I" (.int (2 : Int32))) ∧ (Fld Z Z.heap u1 "java/lang/Enum" "ordinal" "I" (.int (1 : Int32)))
theorem own_S_u0 {Z : State} {u0 u1 u2 : Addr} (G : own_St Z u0 u1 u2) : Sta Z Z.heap "com/example/tidemark/tidemark/Change" "ADDED" "Lcom/example/tidemark/tidemark/Change;" (.ref u0) := G.1
theorem own_X_u0 {Z : State} {u0 u1 u2 : Addr} (G : own_St Z u0 u1 u2) : Exa Z Z.heap u0 "com/example/tidemark/tidemark/Change" := G.2.1
theorem own_S_u1 {Z : State} {u0 u1 u2 : Addr} (G : own_St Z u0 u1 u2) : Sta Z Z.heap "com/example/tidemark/tidemark/Change" "REMOVED" "Lcom/example/tidemark/tidemark/Change;" (.ref u1) := G.2.2.1
theorem own_X_u1 {Z : State} {u0 u1 u2 : Addr} (G : own_St Z u0 u1 u2) : Exa Z Z.heap u1 "com/example/tidemark/tidemark/Change" := G.2.2.2.1
theorem own_S_u2 {Z : State} {u0 u1 u2 : Addr} (G : own_St Z u0 u1 u2) : Sta Z Z.heap "com/example/tidemark/tidemark/Change" "TOGGLED" "Lcom/example/tidemark/tidemark/Change;" (.ref u2) := G.2.2.2.2.1
theorem own_X_u2 {Z : State} {u0 u1 u2 : Addr} (G : own_St Z u0 u1 u2) : Exa Z Z.heap u2 "com/example/tidemark/tidemark/Change" := G.2.2.2.2.2.1
theorem own_F_u0_ordinal {Z : State} {u0 u1 u2 : Addr} (G : own_St Z u0 u1 u2) : Fld Z Z.heap u0 "java/lang/Enum" "ordinal" "I" (.int (0 : Int32)) := G.2.2.2.2.2.2.1
theorem own_F_u2_ordinal {Z : State} {u0 u1 u2 : Addr} (G : own_St Z u0 u1 u2) : Fld Z Z.heap u2 "java/lang/Enum" "ordinal" "I" (.int (2 : Int32)) := G.2.2.2.2.2.2.2.1
theorem own_F_u1_ordinal {Z : State} {u0 u1 u2 : Addr} (G : own_St Z u0 u1 u2) : Fld Z Z.heap u1 "java/lang/Enum" "ordinal" "I" (.int (1 : Int32)) := G.2.2.2.2.2.2.2.2
theorem own_rem3 (x : Int32) : ((x &&& (2147483647 : Int32)) - ((x &&& (2147483647 : Int32)) / (3 : Int32)) * (3 : Int32)) = (0 : Int32) ∨ ((x &&& (2147483647 : Int32)) - ((x &&& (2147483647 : Int32)) / (3 : Int32)) * (3 : Int32)) = (1 : Int32) ∨ ((x &&& (2147483647 : Int32)) - ((x &&& (2147483647 : Int32)) / (3 : Int32)) * (3 : Int32)) = (2 : Int32) := by
  have h0 := own_mask x
  have h1 := Jvm.LawKit.rem_toInt (x &&& (2147483647 : Int32)) (3 : Int32)
  have h2 : ((3 : Int32)).toInt = 3 := by decide
  rw [h2, Int.tmod_eq_emod_of_nonneg h0] at h1
  have h3 : ((x &&& (2147483647 : Int32)) - ((x &&& (2147483647 : Int32)) / (3 : Int32)) * (3 : Int32)).toInt = 0 ∨ ((x &&& (2147483647 : Int32)) - ((x &&& (2147483647 : Int32)) / (3 : Int32)) * (3 : Int32)).toInt = 1 ∨ ((x &&& (2147483647 : Int32)) - ((x &&& (2147483647 : Int32)) / (3 : Int32)) * (3 : Int32)).toInt = 2 := by omega
  rcases h3 with h | h | h
  · exact Or.inl (Int32.toInt_inj.mp (h.trans (by decide)))
  · exact Or.inr <| Or.inl (Int32.toInt_inj.mp (h.trans (by decide)))
  · exact Or.inr <| Or.inr <| (Int32.toInt_inj.mp (h.trans (by decide)))
theorem own_mask3 (x : Int32) : (x &&& (3 : Int32)) = (0 : Int32) ∨ (x &&& (3 : Int32)) = (1 : Int32) ∨ (x &&& (3 : Int32)) = (2 : Int32) ∨ (x &&& (3 : Int32)) = (3 : Int32) := by
  have h1 := c_mask x 3 2 (by decide) (by decide)
  have h3 : (x &&& (3 : Int32)).toInt = 0 ∨ (x &&& (3 : Int32)).toInt = 1 ∨ (x &&& (3 : Int32)).toInt = 2 ∨ (x &&& (3 : Int32)).toInt = 3 := by omega
  rcases h3 with h | h | h | h
  · exact Or.inl (Int32.toInt_inj.mp (h.trans (by decide)))
  · exact Or.inr <| Or.inl (Int32.toInt_inj.mp (h.trans (by decide)))
  · exact Or.inr <| Or.inr <| Or.inl (Int32.toInt_inj.mp (h.trans (by decide)))
  · exact Or.inr <| Or.inr <| Or.inr <| (Int32.toInt_inj.mp (h.trans (by decide)))
theorem d1_0 : decode prog_1_method_7_code 0 = .ok (.aload_n 1, 1) := by decide +kernel
theorem d1_1 : decode prog_1_method_7_code 1 = .ok (.astore_n 2, 1) := by decide +kernel
theorem d1_2 : decode prog_1_method_7_code 2 = .ok (.aload_n 1, 1) := by decide +kernel
theorem d1_3 : decode prog_1_method_7_code 3 = .ok (.getstatic 10, 3) := by decide +kernel
theorem d1_6 : decode prog_1_method_7_code 6 = .ok (.if_acmp .ne 62, 3) := by decide +kernel
theorem own_ne_u0_u2 {Z : State} {u0 u1 u2 : Addr} (G : own_St Z u0 u1 u2) : u0 ≠ u2 := Fld.ne (own_F_u0_ordinal G) (own_F_u2_ordinal G) (by decide)
theorem d1_68 : decode prog_1_method_7_code 68 = .ok (.aload_n 2, 1) := by decide +kernel
theorem d1_69 : decode prog_1_method_7_code 69 = .ok (.areturn, 1) := by decide +kernel
abbrev Y0 : MethodName := (⟨"com/example/tidemark/tidemark/Change", "composed", "(Lcom/example/tidemark/tidemark/Change;Lcom/example/tidemark/tidemark/Change;)Lcom/example/tidemark/tidemark/Change;"⟩ : MethodName)
theorem pn0 : plainName "com/example/tidemark/tidemark/Change" = true := by first | (simp [plainName, overriddenIn]; done) | decide +kernel
theorem ef_own_c0_composed (m : MethodId) (u0 u1 u2 : Addr) : entryFrame m #[xr u0, xr u0] 3 = (mkF m 0 #[vr u0, vr u0, vu] []) := by first | (simp [entryFrame, mkF, argsToLocals, Value.category]; done) | rfl
set_option maxRecDepth 65536 in
set_option maxHeartbeats 40000000 in
theorem own_c0_composed (l : Launch) (Z : State) (a0 : Array Value) (hw : ∀ d ∈ tables_1, d.before a0 Z = true) (u0 u1 u2 : Addr) (G : own_St Z u0 u1 u2) (h0 : Heap) (n0 : Nat) (O0 : Old Z n0 h0) : own_Met l Z Y0 prog_1_method_7_code 3 (some (.object "com/example/tidemark/tidemark/Change")) ({ frames := 0, cells := 0, slots := 0, locals := 0 } : Room) #[xr u0, xr u0] h0 (own_QR (some (xr u0)) h0 n0) := by
  intro ws
  refine MetFree.of_bodySF (plainFor_of_name pn0) hisR ?_
  intro p e s m args below meth c s₁ Bd hml0 hP hK
  obtain ⟨rfl, hZ, hh⟩ := hP
  have hx := Bd.exec
  have hby := Bd.bytes
  have hml : c.maxLocals = 3 := hml0
  have hown : s.vm.findClass "com/example/tidemark/tidemark/Change" = some m.cls := findClass_of_methodNamed Bd.named
  have hnm := (name_of_methodNamed Bd.named Bd.method).1
  have X0 : Stand p l e ({ frames := 0, cells := 0, slots := 0, locals := 0 } : Room) s m #[xr u0, xr u0] below meth c s₁ [] 0 0 := Stand.of_body Bd
  have e0 : s₁.heap = h0 := by rw [← hh, Bd.state]; rfl
  have N0 := Fr.nil n0
  have pre0 : ∀ t, Steps p.tables e below (s₁.setTop (mkF m 0 #[vr u0, vr u0, vu] [])) t → Steps p.tables e below (s₁.setTop (entryFrame m #[xr u0, xr u0] 3)) t := fun t st => castTop (ef_own_c0_composed m u0 u1 u2) st
  obtain ⟨T1, X1, e1, st1⟩ := getS2 X0 hx hZ hown (host := "") (Or.inl (ww hw 14 rfl)) Via.refl e0 ((own_S_u2 G).ext O0.2) (g := (mkF m 3 #[vr u0, vr u0, vr u0] [xr u0])) rfl (hb hby d1_3)
  obtain ⟨fs, hr, hrun, hended, hW, hsame⟩ := X1.leave (v := some (xr u0)) (fun h => by rw [Bd.returns] at h; cases h)
  refine ⟨_, _, pre0 _ ?_, hrun, hended, _, _, rfl, ?_, ⟨_, rfl⟩, hW, hsame.mono (by decide) (by decide)⟩
  · show own_S p e below s₁ (mkF m 0 #[vr u0, vr u0, vu] []) _
    refine XS.aloadN X0.here hx rfl (hb hby d1_0) rfl rfl ?_
    show own_S p e below s₁ (mkF m 1 #[vr u0, vr u0, vu] [xr u0]) _
    refine XS.astoreN X0.here hx rfl (hb hby d1_1) rfl rfl (l' := #[vr u0, vr u0, vr u0]) rfl ?_
    show own_S p e below s₁ (mkF m 2 #[vr u0, vr u0, vr u0] []) _
    refine XS.aloadN X0.here hx rfl (hb hby d1_2) rfl rfl ?_
    show own_S p e below s₁ (mkF m 3 #[vr u0, vr u0, vr u0] [xr u0]) _
    refine st1 _ ?_
    show own_S p e below T1 (mkF m 6 #[vr u0, vr u0, vr u0] [xr u2, xr u0]) _
    refine Jvm.RoadKit.acmp (g := (mkF m 6 #[vr u0, vr u0, vr u0] [xr u2, xr u0])) X1 hx rfl rfl rfl (pc0 := 6) (pc' := 68) (same := false) rfl (hb hby d1_6) rfl (own_ref (own_ne_u0_u2 G)) (by decide) (by decide) ?_
    show own_S p e below T1 (mkF m 68 #[vr u0, vr u0, vr u0] []) _
    refine XS.aloadN X1.here hx rfl (hb hby d1_68) rfl rfl ?_
    show own_S p e below T1 (mkF m 69 #[vr u0, vr u0, vr u0] [xr u0]) _
    exact X1.areturnOut hx rfl Bd.returns rfl (hb hby d1_69) hr
  · exact ⟨rfl, N0, e1⟩
theorem pd0 : parseMethodDescriptor "(Lcom/example/tidemark/tidemark/Change;Lcom/example/tidemark/tidemark/Change;)Lcom/example/tidemark/tidemark/Change;" = some ⟨[(.object "com/example/tidemark/tidemark/Change"), (.object "com/example/tidemark/tidemark/Change")], some (.object "com/example/tidemark/tidemark/Change")⟩ := by decide +kernel
theorem d2_0 : decode method_2_code 0 = .ok (.aload_n 0, 1) := by decide +kernel
theorem d2_1 : decode method_2_code 1 = .ok (.ifnonnull 5, 3) := by decide +kernel
theorem d2_6 : decode method_2_code 6 = .ok (.aload_n 0, 1) := by decide +kernel
theorem d2_7 : decode method_2_code 7 = .ok (.iload_n 1, 1) := by decide +kernel
theorem d2_8 : decode method_2_code 8 = .ok (.invokevirtual 7, 3) := by decide +kernel
theorem d3_0 : decode prog_1_method_6_code 0 = .ok (.aload_n 0, 1) := by decide +kernel
theorem d3_1 : decode prog_1_method_6_code 1 = .ok (.invokevirtual 55, 3) := by decide +kernel
theorem d4_0 : decode jdk_37_method_2_code 0 = .ok (.aload_n 0, 1) := by decide +kernel
theorem d4_1 : decode jdk_37_method_2_code 1 = .ok (.getfield 7, 3) := by decide +kernel
theorem d4_4 : decode jdk_37_method_2_code 4 = .ok (.ireturn, 1) := by decide +kernel
abbrev Y1 : MethodName := (⟨"java/lang/Enum", "ordinal", "()I"⟩ : MethodName)
theorem pn1 : plainName "java/lang/Enum" = true := by first | (simp [plainName, overriddenIn]; done) | decide +kernel
theorem ef_own_c1_ordinal (m : MethodId) (u0 u1 u2 : Addr) : entryFrame m #[xr u0] 1 = (mkF m 0 #[vr u0] []) := by first | (simp [entryFrame, mkF, argsToLocals, Value.category]; done) | rfl
set_option maxRecDepth 65536 in
set_option maxHeartbeats 40000000 in
theorem own_c1_ordinal (l : Launch) (Z : State) (a0 : Array Value) (hw : ∀ d ∈ tables_1, d.before a0 Z = true) (u0 u1 u2 : Addr) (G : own_St Z u0 u1 u2) (h0 : Heap) (n0 : Nat) (O0 : Old Z n0 h0) : own_Met l Z Y1 jdk_37_method_2_code 1 (some .int) ({ frames := 0, cells := 0, slots := 0, locals := 0 } : Room) #[xr u0] h0 (own_QR (some (xi (0 : Int32))) h0 n0) := by
  intro ws
  refine MetFree.of_bodySF (plainFor_of_name pn1) hisR ?_
  intro p e s m args below meth c s₁ Bd hml0 hP hK
  obtain ⟨rfl, hZ, hh⟩ := hP
  have hx := Bd.exec
  have hby := Bd.bytes
  have hml : c.maxLocals = 1 := hml0
  have hown : s.vm.findClass "java/lang/Enum" = some m.cls := findClass_of_methodNamed Bd.named
  have hnm := (name_of_methodNamed Bd.named Bd.method).1
  have X0 : Stand p l e ({ frames := 0, cells := 0, slots := 0, locals := 0 } : Room) s m #[xr u0] below meth c s₁ [] 0 0 := Stand.of_body Bd
  have e0 : s₁.heap = h0 := by rw [← hh, Bd.state]; rfl
  have N0 := Fr.nil n0
  have pre0 : ∀ t, Steps p.tables e below (s₁.setTop (mkF m 0 #[vr u0] [])) t → Steps p.tables e below (s₁.setTop (entryFrame m #[xr u0] 1)) t := fun t st => castTop (ef_own_c1_ordinal m u0 u1 u2) st
  obtain ⟨T1, X1, e1, st1⟩ := getF X0 hx hZ hown (host := "") (Or.inl (ww hw 31 rfl)) Via.refl e0 ((own_F_u0_ordinal G).ext O0.2) (g := (mkF m 1 #[vr u0] [xr u0])) rfl rfl (hb hby d4_1)
  obtain ⟨fs, hr, hrun, hended, hW, hsame⟩ := X1.leave (v := some (xi (0 : Int32))) (fun h => by rw [Bd.returns] at h; cases h)
  refine ⟨_, _, pre0 _ ?_, hrun, hended, _, _, rfl, ?_, ⟨_, rfl⟩, hW, hsame.mono (by decide) (by decide)⟩
  · show own_S p e below s₁ (mkF m 0 #[vr u0] []) _
    refine XS.aloadN X0.here hx rfl (hb hby d4_0) rfl rfl ?_
    show own_S p e below s₁ (mkF m 1 #[vr u0] [xr u0]) _
    refine st1 _ ?_
    show own_S p e below T1 (mkF m 4 #[vr u0] [xi (0 : Int32)]) _
    exact retI X1 hx Bd.returns (hb hby d4_4) hr
  · exact ⟨rfl, N0, e1⟩
theorem pd1 : parseMethodDescriptor "()I" = some ⟨[], some .int⟩ := by decide +kernel
abbrev Y2 : MethodName := (⟨"com/example/tidemark/tidemark/Change", "ordinal", "()I"⟩ : MethodName)
theorem d3_4 : decode prog_1_method_6_code 4 = .ok (.tableswitch 28 0 2 #[38, 42, 46], 28) := by decide +kernel
theorem d3_42 : decode prog_1_method_6_code 42 = .ok (.iconst 1, 1) := by decide +kernel
theorem d3_43 : decode prog_1_method_6_code 43 = .ok (.goto 16, 3) := by decide +kernel
theorem d3_59 : decode prog_1_method_6_code 59 = .ok (.istore_n 2, 1) := by decide +kernel
theorem d3_60 : decode prog_1_method_6_code 60 = .ok (.iload_n 2, 1) := by decide +kernel
theorem d3_61 : decode prog_1_method_6_code 61 = .ok (.ireturn, 1) := by decide +kernel
abbrev Y3 : MethodName := (⟨"com/example/tidemark/tidemark/Change", "applyTo", "(Z)Z"⟩ : MethodName)
theorem ef_own_c1_applyTo (m : MethodId) (u0 u1 u2 : Addr) : entryFrame m #[xr u0, xi (0 : Int32)] 3 = (mkF m 0 #[vr u0, vi (0 : Int32), vu] []) := by first | (simp [entryFrame, mkF, argsToLocals, Value.category]; done) | rfl
set_option maxRecDepth 65536 in
set_option maxHeartbeats 40000000 in
theorem own_c1_applyTo (l : Launch) (Z : State) (a0 : Array Value) (hw : ∀ d ∈ tables_1, d.before a0 Z = true) (u0 u1 u2 : Addr) (G : own_St Z u0 u1 u2) (h0 : Heap) (n0 : Nat) (O0 : Old Z n0 h0) : own_Met l Z Y3 prog_1_method_6_code 3 (some .boolean) ({ frames := 1, cells := 0, slots := 0, locals := 12 } : Room) #[xr u0, xi (0 : Int32)] h0 (own_QR (some (xi (1 : Int32))) h0 n0) := by
  intro ws
  refine MetFree.of_bodySF (plainFor_of_name pn0) hisR ?_
  intro p e s m args below meth c s₁ Bd hml0 hP hK
  obtain ⟨rfl, hZ, hh⟩ := hP
  have hx := Bd.exec
  have hby := Bd.bytes
  have hml : c.maxLocals = 3 := hml0
  have hown : s.vm.findClass "com/example/tidemark/tidemark/Change" = some m.cls := findClass_of_methodNamed Bd.named
  have hnm := (name_of_methodNamed Bd.named Bd.method).1
  have X0 : Stand p l e ({ frames := 1, cells := 0, slots := 0, locals := 12 } : Room) s m #[xr u0, xi (0 : Int32)] below meth c s₁ [] 0 0 := Stand.of_body Bd
  have e0 : s₁.heap = h0 := by rw [← hh, Bd.state]; rfl
  have N0 := Fr.nil n0
  have pre0 : ∀ t, Steps p.tables e below (s₁.setTop (mkF m 0 #[vr u0, vi (0 : Int32), vu] [])) t → Steps p.tables e below (s₁.setTop (entryFrame m #[xr u0, xi (0 : Int32)] 3)) t := fun t st => castTop (ef_own_c1_applyTo m u0 u1 u2) st
  obtain ⟨cq1, kq1, qa1, qb1, qc1⟩ := isOf hZ e0 ((own_X_u0 G).ext O0.2)
  obtain ⟨_, _, ⟨T1, L1, k1, n1⟩, -, X1, ⟨Lc1, hQ1, l1, y1, z1⟩, st1⟩ := X0.virtualBackUp hx (x := Y2) (y := Y1) hown (mvT hZ (ww hw 24 rfl)) (mvT hZ (ww hw 25 rfl)) (mvT hZ (ww hw 26 rfl)) (by decide) (mvT hZ (ww hw 28 rfl)) (mvT hZ (ww hw 27 rfl)) (backOf (W := 0) (own_c1_ordinal l Z a0 hw u0 u1 u2 G h0 n0 O0 []) hZ (ww hw 30 rfl) (ww hw 29 rfl) (by decide) (by decide)) qa1 qc1 (g := (mkF m 1 #[vr u0, vi (0 : Int32), vu] [xr u0])) rfl (by rw [hml]; rfl) (Steps.refl _) (argsL := []) (rest := []) (lenOf pd1 rfl) rfl (by show 2 * 0 + _ ≤ _; exact Nat.le_of_eq rfl) (hb hby d3_1) (fun _ _ => ⟨rfl, e0, (by decide : 0 + 0 ≤ _), (by decide : 0 + 0 ≤ _)⟩)
  dsimp only [Pt.U, Pt.locs, Pt.cells, Pt.slots] at X1 l1 y1 z1 st1 hQ1
  subst l1 y1 z1
  obtain ⟨rfl, Nq1, e1⟩ := hQ1
  have N1 := Fr.app N0 Nq1
  obtain ⟨fs, hr, hrun, hended, hW, hsame⟩ := X1.leave (v := some (xi (1 : Int32))) (fun h => by rw [Bd.returns] at h; cases h)
  refine ⟨_, _, pre0 _ ?_, hrun, hended, _, _, rfl, ?_, ⟨_, rfl⟩, hW, hsame.mono (by decide) (by decide)⟩
  · show own_S p e below s₁ (mkF m 0 #[vr u0, vi (0 : Int32), vu] []) _
    refine XS.aloadN X0.here hx rfl (hb hby d3_0) rfl rfl ?_
    show own_S p e below s₁ (mkF m 1 #[vr u0, vi (0 : Int32), vu] [xr u0]) _
    refine st1.trans ?_
    show own_S p e below T1 (mkF m 4 #[vr u0, vi (0 : Int32), vu] [xi (0 : Int32)]) _
    refine XS.tswIn X1.here hx rfl (pc0 := 4) (pc' := 42) (o := 38) rfl (hb hby d3_4) rfl (by decide) (by decide) (by decide) (by decide) ?_
    show own_S p e below T1 (mkF m 42 #[vr u0, vi (0 : Int32), vu] []) _
    refine XS.iconst X1.here hx rfl (hb hby d3_42) ?_
    show own_S p e below T1 (mkF m 43 #[vr u0, vi (0 : Int32), vu] [xi (1 : Int32)]) _
    refine XS.goto X1.here hx rfl (pc0 := 43) (pc' := 59) rfl (hb hby d3_43) (by decide) (by decide) ?_
    show own_S p e below T1 (mkF m 59 #[vr u0, vi (0 : Int32), vu] [xi (1 : Int32)]) _
    refine XS.istoreN X1.here hx rfl (hb hby d3_59) rfl (l' := #[vr u0, vi (0 : Int32), vi (1 : Int32)]) rfl ?_
    show own_S p e below T1 (mkF m 60 #[vr u0, vi (0 : Int32), vi (1 : Int32)] []) _
    refine XS.iloadN X1.here hx rfl (hb hby d3_60) rfl ?_
    show own_S p e below T1 (mkF m 61 #[vr u0, vi (0 : Int32), vi (1 : Int32)] [xi (1 : Int32)]) _
    exact retN X1 hx (t := .boolean) Bd.returns (by simp) (hb hby d3_61) hr
  · exact ⟨rfl, N1, e1⟩
theorem pd2 : parseMethodDescriptor "(Z)Z" = some ⟨[.boolean], some .boolean⟩ := by decide +kernel
theorem d2_11 : decode method_2_code 11 = .ok (.ireturn, 1) := by decide +kernel
abbrev Y4 : MethodName := (⟨"com/example/tidemark/tidemark/ChangeComposedPinLaw", "apply", "(Lcom/example/tidemark/tidemark/Change;Z)Z"⟩ : MethodName)
theorem pn2 : plainName "com/example/tidemark/tidemark/ChangeComposedPinLaw" = true := by first | (simp [plainName, overriddenIn]; done) | decide +kernel
theorem ef_own_c1_apply (m : MethodId) (u0 u1 u2 : Addr) : entryFrame m #[xr u0, xi (0 : Int32)] 2 = (mkF m 0 #[vr u0, vi (0 : Int32)] []) := by first | (simp [entryFrame, mkF, argsToLocals, Value.category]; done) | rfl
set_option maxRecDepth 65536 in
set_option maxHeartbeats 40000000 in
theorem own_c1_apply (l : Launch) (Z : State) (a0 : Array Value) (hw : ∀ d ∈ tables_1, d.before a0 Z = true) (u0 u1 u2 : Addr) (G : own_St Z u0 u1 u2) (h0 : Heap) (n0 : Nat) (O0 : Old Z n0 h0) : own_Met l Z Y4 method_2_code 2 (some .boolean) ({ frames := 2, cells := 0, slots := 0, locals := 26 } : Room) #[xr u0, xi (0 : Int32)] h0 (own_QR (some (xi (1 : Int32))) h0 n0) := by
  intro ws
  refine MetFree.of_bodySF (plainFor_of_name pn2) hisR ?_
  intro p e s m args below meth c s₁ Bd hml0 hP hK
  obtain ⟨rfl, hZ, hh⟩ := hP
  have hx := Bd.exec
  have hby := Bd.bytes
  have hml : c.maxLocals = 2 := hml0
  have hown : s.vm.findClass "com/example/tidemark/tidemark/ChangeComposedPinLaw" = some m.cls := findClass_of_methodNamed Bd.named
  have hnm := (name_of_methodNamed Bd.named Bd.method).1
  have X0 : Stand p l e ({ frames := 2, cells := 0, slots := 0, locals := 26 } : Room) s m #[xr u0, xi (0 : Int32)] below meth c s₁ [] 0 0 := Stand.of_body Bd
  have e0 : s₁.heap = h0 := by rw [← hh, Bd.state]; rfl
  have N0 := Fr.nil n0
  have pre0 : ∀ t, Steps p.tables e below (s₁.setTop (mkF m 0 #[vr u0, vi (0 : Int32)] [])) t → Steps p.tables e below (s₁.setTop (entryFrame m #[xr u0, xi (0 : Int32)] 2)) t := fun t st => castTop (ef_own_c1_apply m u0 u1 u2) st
  obtain ⟨cq1, kq1, qa1, qb1, qc1⟩ := isOf hZ e0 ((own_X_u0 G).ext O0.2)
  obtain ⟨_, _, ⟨T1, L1, k1, n1⟩, -, X1, ⟨Lc1, hQ1, l1, y1, z1⟩, st1⟩ := X0.virtualBack hx (y := Y3) (z := Y3) hown (mvT hZ (ww hw 19 rfl)) (mvT hZ (ww hw 20 rfl)) (notFace_of_selects (args := #[]) (mvT hZ (ww hw 22 rfl))) (mvT hZ (ww hw 22 rfl)) (mvT hZ (ww hw 21 rfl)) (by decide) (backOf (W := 0) (own_c1_applyTo l Z a0 hw u0 u1 u2 G h0 n0 O0 []) hZ (ww hw 23 rfl) (ww hw 3 rfl) (by decide) (by decide)) qa1 qc1 (g := (mkF m 8 #[vr u0, vi (0 : Int32)] [xi (0 : Int32), xr u0])) rfl (by rw [hml]; rfl) (Steps.refl _) (argsL := [xi (0 : Int32)]) (rest := []) (lenOf pd2 rfl) rfl (by show 2 * 0 + _ ≤ _; exact Nat.le_of_eq rfl) (hb hby d2_8) (fun _ _ => ⟨rfl, e0, (by decide : 0 + 0 ≤ _), (by decide : 0 + 0 ≤ _)⟩)
  dsimp only [Pt.U, Pt.locs, Pt.cells, Pt.slots] at X1 l1 y1 z1 st1 hQ1
  subst l1 y1 z1
  obtain ⟨rfl, Nq1, e1⟩ := hQ1
  have N1 := Fr.app N0 Nq1
  obtain ⟨fs, hr, hrun, hended, hW, hsame⟩ := X1.leave (v := some (xi (1 : Int32))) (fun h => by rw [Bd.returns] at h; cases h)
  refine ⟨_, _, pre0 _ ?_, hrun, hended, _, _, rfl, ?_, ⟨_, rfl⟩, hW, hsame.mono (by decide) (by decide)⟩
  · show own_S p e below s₁ (mkF m 0 #[vr u0, vi (0 : Int32)] []) _
    refine XS.aloadN X0.here hx rfl (hb hby d2_0) rfl rfl ?_
    show own_S p e below s₁ (mkF m 1 #[vr u0, vi (0 : Int32)] [xr u0]) _
    refine Jvm.Free.XT.nonnullYes X0.here hx rfl (pc0 := 1) (pc' := 6) rfl (hb hby d2_1) rfl rfl (by simp) (by decide) (by decide) ?_
    show own_S p e below s₁ (mkF m 6 #[vr u0, vi (0 : Int32)] []) _
    refine XS.aloadN X0.here hx rfl (hb hby d2_6) rfl rfl ?_
    show own_S p e below s₁ (mkF m 7 #[vr u0, vi (0 : Int32)] [xr u0]) _
    refine XS.iloadN X0.here hx rfl (hb hby d2_7) rfl ?_
    show own_S p e below s₁ (mkF m 8 #[vr u0, vi (0 : Int32)] [xi (0 : Int32), xr u0]) _
    refine st1.trans ?_
    show own_S p e below T1 (mkF m 11 #[vr u0, vi (0 : Int32)] [xi (1 : Int32)]) _
    exact retN X1 hx (t := .boolean) Bd.returns (by simp) (hb hby d2_11) hr
  · exact ⟨rfl, N1, e1⟩
theorem pd3 : parseMethodDescriptor "(Lcom/example/tidemark/tidemark/Change;Z)Z" = some ⟨[(.object "com/example/tidemark/tidemark/Change"), .boolean], some .boolean⟩ := by decide +kernel
theorem ef_own_c4_applyTo (m : MethodId) (u0 u1 u2 : Addr) : entryFrame m #[xr u0, xi (1 : Int32)] 3 = (mkF m 0 #[vr u0, vi (1 : Int32), vu] []) := by first | (simp [entryFrame, mkF, argsToLocals, Value.category]; done) | rfl
set_option maxRecDepth 65536 in
set_option maxHeartbeats 40000000 in
theorem own_c4_applyTo (l : Launch) (Z : State) (a0 : Array Value) (hw : ∀ d ∈ tables_1, d.before a0 Z = true) (u0 u1 u2 : Addr) (G : own_St Z u0 u1 u2) (h0 : Heap) (n0 : Nat) (O0 : Old Z n0 h0) : own_Met l Z Y3 prog_1_method_6_code 3 (some .boolean) ({ frames := 1, cells := 0, slots := 0, locals := 12 } : Room) #[xr u0, xi (1 : Int32)] h0 (own_QR (some (xi (1 : Int32))) h0 n0) := by
  intro ws
  refine MetFree.of_bodySF (plainFor_of_name pn0) hisR ?_
  intro p e s m args below meth c s₁ Bd hml0 hP hK
  obtain ⟨rfl, hZ, hh⟩ := hP
  have hx := Bd.exec
  have hby := Bd.bytes
  have hml : c.maxLocals = 3 := hml0
  have hown : s.vm.findClass "com/example/tidemark/tidemark/Change" = some m.cls := findClass_of_methodNamed Bd.named
  have hnm := (name_of_methodNamed Bd.named Bd.method).1
  have X0 : Stand p l e ({ frames := 1, cells := 0, slots := 0, locals := 12 } : Room) s m #[xr u0, xi (1 : Int32)] below meth c s₁ [] 0 0 := Stand.of_body Bd
  have e0 : s₁.heap = h0 := by rw [← hh, Bd.state]; rfl
  have N0 := Fr.nil n0
  have pre0 : ∀ t, Steps p.tables e below (s₁.setTop (mkF m 0 #[vr u0, vi (1 : Int32), vu] [])) t → Steps p.tables e below (s₁.setTop (entryFrame m #[xr u0, xi (1 : Int32)] 3)) t := fun t st => castTop (ef_own_c4_applyTo m u0 u1 u2) st
  obtain ⟨cq1, kq1, qa1, qb1, qc1⟩ := isOf hZ e0 ((own_X_u0 G).ext O0.2)
  obtain ⟨_, _, ⟨T1, L1, k1, n1⟩, -, X1, ⟨Lc1, hQ1, l1, y1, z1⟩, st1⟩ := X0.virtualBackUp hx (x := Y2) (y := Y1) hown (mvT hZ (ww hw 24 rfl)) (mvT hZ (ww hw 25 rfl)) (mvT hZ (ww hw 26 rfl)) (by decide) (mvT hZ (ww hw 28 rfl)) (mvT hZ (ww hw 27 rfl)) (backOf (W := 0) (own_c1_ordinal l Z a0 hw u0 u1 u2 G h0 n0 O0 []) hZ (ww hw 30 rfl) (ww hw 29 rfl) (by decide) (by decide)) qa1 qc1 (g := (mkF m 1 #[vr u0, vi (1 : Int32), vu] [xr u0])) rfl (by rw [hml]; rfl) (Steps.refl _) (argsL := []) (rest := []) (lenOf pd1 rfl) rfl (by show 2 * 0 + _ ≤ _; exact Nat.le_of_eq rfl) (hb hby d3_1) (fun _ _ => ⟨rfl, e0, (by decide : 0 + 0 ≤ _), (by decide : 0 + 0 ≤ _)⟩)
  dsimp only [Pt.U, Pt.locs, Pt.cells, Pt.slots] at X1 l1 y1 z1 st1 hQ1
  subst l1 y1 z1
  obtain ⟨rfl, Nq1, e1⟩ := hQ1
  have N1 := Fr.app N0 Nq1
  obtain ⟨fs, hr, hrun, hended, hW, hsame⟩ := X1.leave (v := some (xi (1 : Int32))) (fun h => by rw [Bd.returns] at h; cases h)
  refine ⟨_, _, pre0 _ ?_, hrun, hended, _, _, rfl, ?_, ⟨_, rfl⟩, hW, hsame.mono (by decide) (by decide)⟩
  · show own_S p e below s₁ (mkF m 0 #[vr u0, vi (1 : Int32), vu] []) _
    refine XS.aloadN X0.here hx rfl (hb hby d3_0) rfl rfl ?_
    show own_S p e below s₁ (mkF m 1 #[vr u0, vi (1 : Int32), vu] [xr u0]) _
    refine st1.trans ?_
    show own_S p e below T1 (mkF m 4 #[vr u0, vi (1 : Int32), vu] [xi (0 : Int32)]) _
    refine XS.tswIn X1.here hx rfl (pc0 := 4) (pc' := 42) (o := 38) rfl (hb hby d3_4) rfl (by decide) (by decide) (by decide) (by decide) ?_
    show own_S p e below T1 (mkF m 42 #[vr u0, vi (1 : Int32), vu] []) _
    refine XS.iconst X1.here hx rfl (hb hby d3_42) ?_
    show own_S p e below T1 (mkF m 43 #[vr u0, vi (1 : Int32), vu] [xi (1 : Int32)]) _
    refine XS.goto X1.here hx rfl (pc0 := 43) (pc' := 59) rfl (hb hby d3_43) (by decide) (by decide) ?_
    show own_S p e below T1 (mkF m 59 #[vr u0, vi (1 : Int32), vu] [xi (1 : Int32)]) _
    refine XS.istoreN X1.here hx rfl (hb hby d3_59) rfl (l' := #[vr u0, vi (1 : Int32), vi (1 : Int32)]) rfl ?_
    show own_S p e below T1 (mkF m 60 #[vr u0, vi (1 : Int32), vi (1 : Int32)] []) _
    refine XS.iloadN X1.here hx rfl (hb hby d3_60) rfl ?_
    show own_S p e below T1 (mkF m 61 #[vr u0, vi (1 : Int32), vi (1 : Int32)] [xi (1 : Int32)]) _
    exact retN X1 hx (t := .boolean) Bd.returns (by simp) (hb hby d3_61) hr
  · exact ⟨rfl, N1, e1⟩
theorem ef_own_c4_apply (m : MethodId) (u0 u1 u2 : Addr) : entryFrame m #[xr u0, xi (1 : Int32)] 2 = (mkF m 0 #[vr u0, vi (1 : Int32)] []) := by first | (simp [entryFrame, mkF, argsToLocals, Value.category]; done) | rfl
set_option maxRecDepth 65536 in
set_option maxHeartbeats 40000000 in
theorem own_c4_apply (l : Launch) (Z : State) (a0 : Array Value) (hw : ∀ d ∈ tables_1, d.before a0 Z = true) (u0 u1 u2 : Addr) (G : own_St Z u0 u1 u2) (h0 : Heap) (n0 : Nat) (O0 : Old Z n0 h0) : own_Met l Z Y4 method_2_code 2 (some .boolean) ({ frames := 2, cells := 0, slots := 0, locals := 26 } : Room) #[xr u0, xi (1 : Int32)] h0 (own_QR (some (xi (1 : Int32))) h0 n0) := by
  intro ws
  refine MetFree.of_bodySF (plainFor_of_name pn2) hisR ?_
  intro p e s m args below meth c s₁ Bd hml0 hP hK
  obtain ⟨rfl, hZ, hh⟩ := hP
  have hx := Bd.exec
  have hby := Bd.bytes
  have hml : c.maxLocals = 2 := hml0
  have hown : s.vm.findClass "com/example/tidemark/tidemark/ChangeComposedPinLaw" = some m.cls := findClass_of_methodNamed Bd.named
  have hnm := (name_of_methodNamed Bd.named Bd.method).1
  have X0 : Stand p l e ({ frames := 2, cells := 0, slots := 0, locals := 26 } : Room) s m #[xr u0, xi (1 : Int32)] below meth c s₁ [] 0 0 := Stand.of_body Bd
  have e0 : s₁.heap = h0 := by rw [← hh, Bd.state]; rfl
  have N0 := Fr.nil n0
  have pre0 : ∀ t, Steps p.tables e below (s₁.setTop (mkF m 0 #[vr u0, vi (1 : Int32)] [])) t → Steps p.tables e below (s₁.setTop (entryFrame m #[xr u0, xi (1 : Int32)] 2)) t := fun t st => castTop (ef_own_c4_apply m u0 u1 u2) st
  obtain ⟨cq1, kq1, qa1, qb1, qc1⟩ := isOf hZ e0 ((own_X_u0 G).ext O0.2)
  obtain ⟨_, _, ⟨T1, L1, k1, n1⟩, -, X1, ⟨Lc1, hQ1, l1, y1, z1⟩, st1⟩ := X0.virtualBack hx (y := Y3) (z := Y3) hown (mvT hZ (ww hw 19 rfl)) (mvT hZ (ww hw 20 rfl)) (notFace_of_selects (args := #[]) (mvT hZ (ww hw 22 rfl))) (mvT hZ (ww hw 22 rfl)) (mvT hZ (ww hw 21 rfl)) (by decide) (backOf (W := 0) (own_c4_applyTo l Z a0 hw u0 u1 u2 G h0 n0 O0 []) hZ (ww hw 23 rfl) (ww hw 3 rfl) (by decide) (by decide)) qa1 qc1 (g := (mkF m 8 #[vr u0, vi (1 : Int32)] [xi (1 : Int32), xr u0])) rfl (by rw [hml]; rfl) (Steps.refl _) (argsL := [xi (1 : Int32)]) (rest := []) (lenOf pd2 rfl) rfl (by show 2 * 0 + _ ≤ _; exact Nat.le_of_eq rfl) (hb hby d2_8) (fun _ _ => ⟨rfl, e0, (by decide : 0 + 0 ≤ _), (by decide : 0 + 0 ≤ _)⟩)
  dsimp only [Pt.U, Pt.locs, Pt.cells, Pt.slots] at X1 l1 y1 z1 st1 hQ1
  subst l1 y1 z1
  obtain ⟨rfl, Nq1, e1⟩ := hQ1
  have N1 := Fr.app N0 Nq1
  obtain ⟨fs, hr, hrun, hended, hW, hsame⟩ := X1.leave (v := some (xi (1 : Int32))) (fun h => by rw [Bd.returns] at h; cases h)
  refine ⟨_, _, pre0 _ ?_, hrun, hended, _, _, rfl, ?_, ⟨_, rfl⟩, hW, hsame.mono (by decide) (by decide)⟩
  · show own_S p e below s₁ (mkF m 0 #[vr u0, vi (1 : Int32)] []) _
    refine XS.aloadN X0.here hx rfl (hb hby d2_0) rfl rfl ?_
    show own_S p e below s₁ (mkF m 1 #[vr u0, vi (1 : Int32)] [xr u0]) _
    refine Jvm.Free.XT.nonnullYes X0.here hx rfl (pc0 := 1) (pc' := 6) rfl (hb hby d2_1) rfl rfl (by simp) (by decide) (by decide) ?_
    show own_S p e below s₁ (mkF m 6 #[vr u0, vi (1 : Int32)] []) _
    refine XS.aloadN X0.here hx rfl (hb hby d2_6) rfl rfl ?_
    show own_S p e below s₁ (mkF m 7 #[vr u0, vi (1 : Int32)] [xr u0]) _
    refine XS.iloadN X0.here hx rfl (hb hby d2_7) rfl ?_
    show own_S p e below s₁ (mkF m 8 #[vr u0, vi (1 : Int32)] [xi (1 : Int32), xr u0]) _
    refine st1.trans ?_
    show own_S p e below T1 (mkF m 11 #[vr u0, vi (1 : Int32)] [xi (1 : Int32)]) _
    exact retN X1 hx (t := .boolean) Bd.returns (by simp) (hb hby d2_11) hr
  · exact ⟨rfl, N1, e1⟩
theorem ef_own_l0 (m : MethodId) (u0 u1 u2 : Addr) (p1 : Int32) (p2 : Int32) : entryFrame m #[xi p1, xi p2] maxLocals = (mkF m 0 #[vi p1, vi p2, vu, vu, vu, vu, vu, vu, vu] []) := by first | (simp [entryFrame, mkF, argsToLocals, Value.category, maxLocals]; done) | rfl
set_option maxRecDepth 65536 in
set_option maxHeartbeats 40000000 in
theorem own_l0 (l : Launch) (Z : State) (a0 : Array Value) (hw : ∀ d ∈ tables_1, d.before a0 Z = true) (u0 u1 u2 : Addr) (G : own_St Z u0 u1 u2) (p1 : Int32) (p2 : Int32) (as0 : (p1 &&& (3 : Int32)) = (0 : Int32)) (as4 : ((p2 &&& (2147483647 : Int32)) - ((p2 &&& (2147483647 : Int32)) / (3 : Int32)) * (3 : Int32)) = (0 : Int32)) (h0 : Heap) (n0 : Nat) (O0 : Old Z n0 h0) : own_Met l Z x code maxLocals ret room_1 #[xi p1, xi p2] h0 (own_QL (some (xi (1 : Int32))) n0) := by
  intro ws
  refine MetFree.of_bodySF (plainFor_of_name pn2) hisR ?_
  intro p e s m args below meth c s₁ Bd hml0 hP hK
  obtain ⟨rfl, hZ, hh⟩ := hP
  have hx := Bd.exec
  have hby := Bd.bytes
  have hml : c.maxLocals = 9 := hml0
  have hown : s.vm.findClass "com/example/tidemark/tidemark/ChangeComposedPinLaw" = some m.cls := findClass_of_methodNamed Bd.named
  have hnm := (name_of_methodNamed Bd.named Bd.method).1
  have X0 : Stand p l e room_1 s m #[xi p1, xi p2] below meth c s₁ [] 0 0 := Stand.of_body Bd
  have e0 : s₁.heap = h0 := by rw [← hh, Bd.state]; rfl
  have N0 := Fr.nil n0
  have pre0 : ∀ t, Steps p.tables e below (s₁.setTop (mkF m 0 #[vi p1, vi p2, vu, vu, vu, vu, vu, vu, vu] [])) t → Steps p.tables e below (s₁.setTop (entryFrame m #[xi p1, xi p2] maxLocals)) t := fun t st => castTop (ef_own_l0 m u0 u1 u2 p1 p2) st
  obtain ⟨T1, h1, k1, X1, e1, E1, A1, Ov1, st1⟩ := newR X0 hx hZ hown (ww hw 0 rfl) (ww hw 1 rfl) e0 (g := (mkF m 1 #[vi p1, vi p2, vu, vu, vu, vu, vu, vu, vu] [xi (3 : Int32)])) rfl (hb hby at_1) rfl (by decide) (cap := 3) (by decide) (by decide) (by decide) (by decide)
  obtain ⟨b1, g1⟩ : ∃ z, z = h0.size := ⟨_, rfl⟩
  rw [← g1] at A1 st1
  have g_b1 : n0 ≤ b1 := own_fresh O0 g1
  have O1 : Old Z n0 h1 := O0.ext E1
  have V_b1 : Arv Z h1 b1 k1 (.object "com/example/tidemark/tidemark/Change") (3 : Int32) [.null, .null, .null] .null := (Arv.new A1 (by decide)).pad (pad_rep [] .null 3)
  obtain ⟨T2, X2, e2, st2⟩ := getS2 X1 hx hZ hown (host := "") (Or.inl (ww hw 2 rfl)) Via.refl e1 ((own_S_u0 G).ext O1.2) (g := (mkF m 6 #[vi p1, vi p2, vu, vu, vu, vu, vu, vu, vu] [xi (0 : Int32), xr b1, xr b1])) rfl (hb hby at_6)
  obtain ⟨cl3, Ar3, q3, S3, N3_, H3, G3⟩ := id V_b1
  have hin3 : ¬ ((0 : Int32) < 0 ∨ cl3.slots.size ≤ ((0 : Int32)).toNatClampNeg) := inb_of S3 ⟨by decide, by decide⟩
  obtain ⟨T4, h4, X4, e4, W4, st4⟩ := stR X2 hx hZ e2 Ar3 (j := (0 : Int32)) hin3 rfl (Sto.ofV Ar3 q3 Ov1 (Ins.self ((own_X_u0 G).ext O1.2))) (g := (mkF m 9 #[vi p1, vi p2, vu, vu, vu, vu, vu, vu, vu] [xr u0, xi (0 : Int32), xr b1, xr b1])) rfl rfl (hb hby at_9)
  have V_b1_4 : Arv Z h4 b1 k1 (.object "com/example/tidemark/tidemark/Change") (3 : Int32) [xr u0, .null, .null] .null := Arv.set Ar3 q3 S3 N3_ H3 G3 rfl W4 0 rfl (Nat.le_of_ble_eq_true rfl)
  have O4 : Old Z n0 h4 := O1.wr W4 g_b1
  have N4 := Fr.snoc X4 N0 g_b1
  obtain ⟨T5, X5, e5, st5⟩ := getS2 X4 hx hZ hown (host := "") (Or.inl (ww hw 6 rfl)) Via.refl e4 ((own_S_u1 G).ext O4.2) (g := (mkF m 12 #[vi p1, vi p2, vu, vu, vu, vu, vu, vu, vu] [xi (1 : Int32), xr b1, xr b1])) rfl (hb hby at_12)
  obtain ⟨cl6, Ar6, q6, S6, N6_, H6, G6⟩ := id V_b1_4
  have hin6 : ¬ ((1 : Int32) < 0 ∨ cl6.slots.size ≤ ((1 : Int32)).toNatClampNeg) := inb_of S6 ⟨by decide, by decide⟩
  obtain ⟨T7, h7, X7, e7, W7, st7⟩ := stR X5 hx hZ e5 Ar6 (j := (1 : Int32)) hin6 rfl (Sto.ofV Ar6 q6 Ov1 (Ins.self ((own_X_u1 G).ext O4.2))) (g := (mkF m 15 #[vi p1, vi p2, vu, vu, vu, vu, vu, vu, vu] [xr u1, xi (1 : Int32), xr b1, xr b1])) rfl rfl (hb hby at_15)
  have V_b1_7 : Arv Z h7 b1 k1 (.object "com/example/tidemark/tidemark/Change") (3 : Int32) [xr u0, xr u1, .null] .null := Arv.set Ar6 q6 S6 N6_ H6 G6 rfl W7 1 rfl (Nat.le_of_ble_eq_true rfl)
  have O7 : Old Z n0 h7 := O4.wr W7 g_b1
  have N7 := Fr.snoc X7 N4 g_b1
  obtain ⟨T8, X8, e8, st8⟩ := getS2 X7 hx hZ hown (host := "") (Or.inl (ww hw 8 rfl)) Via.refl e7 ((own_S_u2 G).ext O7.2) (g := (mkF m 18 #[vi p1, vi p2, vu, vu, vu, vu, vu, vu, vu] [xi (2 : Int32), xr b1, xr b1])) rfl (hb hby at_18)
  obtain ⟨cl9, Ar9, q9, S9, N9_, H9, G9⟩ := id V_b1_7
  have hin9 : ¬ ((2 : Int32) < 0 ∨ cl9.slots.size ≤ ((2 : Int32)).toNatClampNeg) := inb_of S9 ⟨by decide, by decide⟩
  obtain ⟨T10, h10, X10, e10, W10, st10⟩ := stR X8 hx hZ e8 Ar9 (j := (2 : Int32)) hin9 rfl (Sto.ofV Ar9 q9 Ov1 (Ins.self ((own_X_u2 G).ext O7.2))) (g := (mkF m 21 #[vi p1, vi p2, vu, vu, vu, vu, vu, vu, vu] [xr u2, xi (2 : Int32), xr b1, xr b1])) rfl rfl (hb hby at_21)
  have V_b1_10 : Arv Z h10 b1 k1 (.object "com/example/tidemark/tidemark/Change") (3 : Int32) [xr u0, xr u1, xr u2] .null := Arv.set Ar9 q9 S9 N9_ H9 G9 rfl W10 2 rfl (Nat.le_of_ble_eq_true rfl)
  have O10 : Old Z n0 h10 := O7.wr W10 g_b1
  have N10 := Fr.snoc X10 N7 g_b1
  obtain ⟨cl11, Ar11, q11, S11, N11_, H11, G11⟩ := id V_b1_10
  have hin11 : ¬ ((0 : Int32) < 0 ∨ cl11.slots.size ≤ ((0 : Int32)).toNatClampNeg) := inb_of S11 ⟨by decide, by decide⟩
  have hat11 : cl11.slots[((0 : Int32)).toNatClampNeg]? = some (xr u0) := Has.at H11 hin11 rfl
  obtain ⟨cl12, Ar12, q12, S12, N12_, H12, G12⟩ := id V_b1_10
  have hin12 : ¬ ((0 : Int32) < 0 ∨ cl12.slots.size ≤ ((0 : Int32)).toNatClampNeg) := inb_of S12 ⟨by decide, by decide⟩
  have hat12 : cl12.slots[((0 : Int32)).toNatClampNeg]? = some (xr u0) := Has.at H12 hin12 rfl
  obtain ⟨_, _, ⟨T13, L13, k13, n13⟩, -, X13, ⟨Lc13, hQ13, l13, y13, z13⟩, st13⟩ := Jvm.LawKit.callS X10 hx (y := Y0) hown (mvT hZ (ww hw 11 rfl)) (mvT hZ (ww hw 12 rfl)) (mvT hZ (ww hw 3 rfl)) (mvT hZ (ww hw 13 rfl)) (by decide) (backOf (W := 0) (own_c0_composed l Z a0 hw u0 u1 u2 G h10 n0 O10 []) hZ (ww hw 13 rfl) (ww hw 3 rfl) (by decide) (by decide)) (g := (mkF m 55 #[vi p1, vi p2, vr b1, vi (0 : Int32), vr u0, vr u0, vu, vu, vu] [xr u0, xr u0])) rfl (by rw [hml]; rfl) (argsL := [xr u0, xr u0]) (rest := []) (lenOf pd0 rfl) rfl (by show 2 * 0 + _ ≤ _; exact Nat.le_of_eq rfl) (hb hby at_55) (fun _ _ => ⟨rfl, e10, (by decide : 1 + 0 ≤ _), (by decide : 3 + 0 ≤ _)⟩)
  dsimp only [Pt.U, Pt.locs, Pt.cells, Pt.slots] at X13 l13 y13 z13 st13 hQ13
  subst l13 y13 z13
  obtain ⟨rfl, Nq13, e13⟩ := hQ13
  have N13 := Fr.app N10 Nq13
  obtain ⟨_, _, ⟨T14, L14, k14, n14⟩, -, X14, ⟨Lc14, hQ14, l14, y14, z14⟩, st14⟩ := Jvm.LawKit.callS X13 hx (y := Y4) hown (mvT hZ (ww hw 15 rfl)) (mvT hZ (ww hw 16 rfl)) (mvT hZ (ww hw 17 rfl)) (mvT hZ (ww hw 18 rfl)) (by decide) (backOf (W := 0) (own_c1_apply l Z a0 hw u0 u1 u2 G h10 n0 O10 []) hZ (ww hw 18 rfl) (ww hw 17 rfl) (by decide) (by decide)) (g := (mkF m 63 #[vi p1, vi p2, vr b1, vi (0 : Int32), vr u0, vr u0, vr u0, vu, vu] [xi (0 : Int32), xr u0])) rfl (by rw [hml]; rfl) (argsL := [xr u0, xi (0 : Int32)]) (rest := []) (lenOf pd3 rfl) rfl (by show 2 * 0 + _ ≤ _; exact Nat.le_of_eq rfl) (hb hby at_63) (fun _ _ => ⟨rfl, e13, (by decide : 1 + 0 ≤ _), (by decide : 3 + 0 ≤ _)⟩)
  dsimp only [Pt.U, Pt.locs, Pt.cells, Pt.slots] at X14 l14 y14 z14 st14 hQ14
  subst l14 y14 z14
  obtain ⟨rfl, Nq14, e14⟩ := hQ14
  have N14 := Fr.app N13 Nq14
  obtain ⟨_, _, ⟨T15, L15, k15, n15⟩, -, X15, ⟨Lc15, hQ15, l15, y15, z15⟩, st15⟩ := Jvm.LawKit.callS X14 hx (y := Y4) hown (mvT hZ (ww hw 15 rfl)) (mvT hZ (ww hw 16 rfl)) (mvT hZ (ww hw 17 rfl)) (mvT hZ (ww hw 18 rfl)) (by decide) (backOf (W := 2) (own_c1_apply l Z a0 hw u0 u1 u2 G h10 n0 O10 []) hZ (ww hw 18 rfl) (ww hw 17 rfl) (by decide) (by decide)) (g := (mkF m 71 #[vi p1, vi p2, vr b1, vi (0 : Int32), vr u0, vr u0, vr u0, vu, vu] [xi (0 : Int32), xr u0, xr u0, xi (1 : Int32)])) rfl (by rw [hml]; rfl) (argsL := [xr u0, xi (0 : Int32)]) (rest := [xr u0, xi (1 : Int32)]) (lenOf pd3 rfl) rfl (by show 2 * 0 + _ ≤ _; exact Nat.le_of_eq rfl) (hb hby at_71) (fun _ _ => ⟨rfl, e14, (by decide : 1 + 0 ≤ _), (by decide : 3 + 0 ≤ _)⟩)
  dsimp only [Pt.U, Pt.locs, Pt.cells, Pt.slots] at X15 l15 y15 z15 st15 hQ15
  subst l15 y15 z15
  obtain ⟨rfl, Nq15, e15⟩ := hQ15
  have N15 := Fr.app N14 Nq15
  obtain ⟨_, _, ⟨T16, L16, k16, n16⟩, -, X16, ⟨Lc16, hQ16, l16, y16, z16⟩, st16⟩ := Jvm.LawKit.callS X15 hx (y := Y4) hown (mvT hZ (ww hw 15 rfl)) (mvT hZ (ww hw 16 rfl)) (mvT hZ (ww hw 17 rfl)) (mvT hZ (ww hw 18 rfl)) (by decide) (backOf (W := 1) (own_c4_apply l Z a0 hw u0 u1 u2 G h10 n0 O10 []) hZ (ww hw 18 rfl) (ww hw 17 rfl) (by decide) (by decide)) (g := (mkF m 74 #[vi p1, vi p2, vr b1, vi (0 : Int32), vr u0, vr u0, vr u0, vu, vu] [xi (1 : Int32), xr u0, xi (1 : Int32)])) rfl (by rw [hml]; rfl) (argsL := [xr u0, xi (1 : Int32)]) (rest := [xi (1 : Int32)]) (lenOf pd3 rfl) rfl (by show 2 * 0 + _ ≤ _; exact Nat.le_of_eq rfl) (hb hby at_74) (fun _ _ => ⟨rfl, e15, (by decide : 1 + 0 ≤ _), (by decide : 3 + 0 ≤ _)⟩)
  dsimp only [Pt.U, Pt.locs, Pt.cells, Pt.slots] at X16 l16 y16 z16 st16 hQ16
  subst l16 y16 z16
  obtain ⟨rfl, Nq16, e16⟩ := hQ16
  have N16 := Fr.app N15 Nq16
  obtain ⟨_, _, ⟨T17, L17, k17, n17⟩, -, X17, ⟨Lc17, hQ17, l17, y17, z17⟩, st17⟩ := Jvm.LawKit.callS X16 hx (y := Y4) hown (mvT hZ (ww hw 15 rfl)) (mvT hZ (ww hw 16 rfl)) (mvT hZ (ww hw 17 rfl)) (mvT hZ (ww hw 18 rfl)) (by decide) (backOf (W := 0) (own_c4_apply l Z a0 hw u0 u1 u2 G h10 n0 O10 []) hZ (ww hw 18 rfl) (ww hw 17 rfl) (by decide) (by decide)) (g := (mkF m 90 #[vi p1, vi p2, vr b1, vi (0 : Int32), vr u0, vr u0, vr u0, vi (1 : Int32), vu] [xi (1 : Int32), xr u0])) rfl (by rw [hml]; rfl) (argsL := [xr u0, xi (1 : Int32)]) (rest := []) (lenOf pd3 rfl) rfl (by show 2 * 0 + _ ≤ _; exact Nat.le_of_eq rfl) (hb hby at_90) (fun _ _ => ⟨rfl, e16, (by decide : 1 + 0 ≤ _), (by decide : 3 + 0 ≤ _)⟩)
  dsimp only [Pt.U, Pt.locs, Pt.cells, Pt.slots] at X17 l17 y17 z17 st17 hQ17
  subst l17 y17 z17
  obtain ⟨rfl, Nq17, e17⟩ := hQ17
  have N17 := Fr.app N16 Nq17
  obtain ⟨_, _, ⟨T18, L18, k18, n18⟩, -, X18, ⟨Lc18, hQ18, l18, y18, z18⟩, st18⟩ := Jvm.LawKit.callS X17 hx (y := Y4) hown (mvT hZ (ww hw 15 rfl)) (mvT hZ (ww hw 16 rfl)) (mvT hZ (ww hw 17 rfl)) (mvT hZ (ww hw 18 rfl)) (by decide) (backOf (W := 2) (own_c4_apply l Z a0 hw u0 u1 u2 G h10 n0 O10 []) hZ (ww hw 18 rfl) (ww hw 17 rfl) (by decide) (by decide)) (g := (mkF m 98 #[vi p1, vi p2, vr b1, vi (0 : Int32), vr u0, vr u0, vr u0, vi (1 : Int32), vu] [xi (1 : Int32), xr u0, xr u0, xi (1 : Int32)])) rfl (by rw [hml]; rfl) (argsL := [xr u0, xi (1 : Int32)]) (rest := [xr u0, xi (1 : Int32)]) (lenOf pd3 rfl) rfl (by show 2 * 0 + _ ≤ _; exact Nat.le_of_eq rfl) (hb hby at_98) (fun _ _ => ⟨rfl, e17, (by decide : 1 + 0 ≤ _), (by decide : 3 + 0 ≤ _)⟩)
  dsimp only [Pt.U, Pt.locs, Pt.cells, Pt.slots] at X18 l18 y18 z18 st18 hQ18
  subst l18 y18 z18
  obtain ⟨rfl, Nq18, e18⟩ := hQ18
  have N18 := Fr.app N17 Nq18
  obtain ⟨_, _, ⟨T19, L19, k19, n19⟩, -, X19, ⟨Lc19, hQ19, l19, y19, z19⟩, st19⟩ := Jvm.LawKit.callS X18 hx (y := Y4) hown (mvT hZ (ww hw 15 rfl)) (mvT hZ (ww hw 16 rfl)) (mvT hZ (ww hw 17 rfl)) (mvT hZ (ww hw 18 rfl)) (by decide) (backOf (W := 1) (own_c4_apply l Z a0 hw u0 u1 u2 G h10 n0 O10 []) hZ (ww hw 18 rfl) (ww hw 17 rfl) (by decide) (by decide)) (g := (mkF m 101 #[vi p1, vi p2, vr b1, vi (0 : Int32), vr u0, vr u0, vr u0, vi (1 : Int32), vu] [xi (1 : Int32), xr u0, xi (1 : Int32)])) rfl (by rw [hml]; rfl) (argsL := [xr u0, xi (1 : Int32)]) (rest := [xi (1 : Int32)]) (lenOf pd3 rfl) rfl (by show 2 * 0 + _ ≤ _; exact Nat.le_of_eq rfl) (hb hby at_101) (fun _ _ => ⟨rfl, e18, (by decide : 1 + 0 ≤ _), (by decide : 3 + 0 ≤ _)⟩)
  dsimp only [Pt.U, Pt.locs, Pt.cells, Pt.slots] at X19 l19 y19 z19 st19 hQ19
  subst l19 y19 z19
  obtain ⟨rfl, Nq19, e19⟩ := hQ19
  have N19 := Fr.app N18 Nq19
  obtain ⟨fs, hr, hrun, hended, hW, hsame⟩ := X19.leave (v := some (xi (1 : Int32))) (fun h => by rw [Bd.returns] at h; cases h)
  refine ⟨_, _, pre0 _ ?_, hrun, hended, _, _, rfl, ?_, ⟨_, rfl⟩, hW, hsame.mono (by decide) (by decide)⟩
  · show own_S p e below s₁ (mkF m 0 #[vi p1, vi p2, vu, vu, vu, vu, vu, vu, vu] []) _
    refine XS.iconst X0.here hx rfl (hb hby at_0) ?_
    show own_S p e below s₁ (mkF m 1 #[vi p1, vi p2, vu, vu, vu, vu, vu, vu, vu] [xi (3 : Int32)]) _
    refine st1 _ ?_
    show own_S p e below T1 (mkF m 4 #[vi p1, vi p2, vu, vu, vu, vu, vu, vu, vu] [xr b1]) _
    refine XS.dup X1.here hx rfl (hb hby at_4) rfl rfl ?_
    show own_S p e below T1 (mkF m 5 #[vi p1, vi p2, vu, vu, vu, vu, vu, vu, vu] [xr b1, xr b1]) _
    refine XS.iconst X1.here hx rfl (hb hby at_5) ?_
    show own_S p e below T1 (mkF m 6 #[vi p1, vi p2, vu, vu, vu, vu, vu, vu, vu] [xi (0 : Int32), xr b1, xr b1]) _
    refine st2 _ ?_
    show own_S p e below T2 (mkF m 9 #[vi p1, vi p2, vu, vu, vu, vu, vu, vu, vu] [xr u0, xi (0 : Int32), xr b1, xr b1]) _
    refine st4 _ ?_
    show own_S p e below T4 (mkF m 10 #[vi p1, vi p2, vu, vu, vu, vu, vu, vu, vu] [xr b1]) _
    refine XS.dup X4.here hx rfl (hb hby at_10) rfl rfl ?_
    show own_S p e below T4 (mkF m 11 #[vi p1, vi p2, vu, vu, vu, vu, vu, vu, vu] [xr b1, xr b1]) _
    refine XS.iconst X4.here hx rfl (hb hby at_11) ?_
    show own_S p e below T4 (mkF m 12 #[vi p1, vi p2, vu, vu, vu, vu, vu, vu, vu] [xi (1 : Int32), xr b1, xr b1]) _
    refine st5 _ ?_
    show own_S p e below T5 (mkF m 15 #[vi p1, vi p2, vu, vu, vu, vu, vu, vu, vu] [xr u1, xi (1 : Int32), xr b1, xr b1]) _
    refine st7 _ ?_
    show own_S p e below T7 (mkF m 16 #[vi p1, vi p2, vu, vu, vu, vu, vu, vu, vu] [xr b1]) _
    refine XS.dup X7.here hx rfl (hb hby at_16) rfl rfl ?_
    show own_S p e below T7 (mkF m 17 #[vi p1, vi p2, vu, vu, vu, vu, vu, vu, vu] [xr b1, xr b1]) _
    refine XS.iconst X7.here hx rfl (hb hby at_17) ?_
    show own_S p e below T7 (mkF m 18 #[vi p1, vi p2, vu, vu, vu, vu, vu, vu, vu] [xi (2 : Int32), xr b1, xr b1]) _
    refine st8 _ ?_
    show own_S p e below T8 (mkF m 21 #[vi p1, vi p2, vu, vu, vu, vu, vu, vu, vu] [xr u2, xi (2 : Int32), xr b1, xr b1]) _
    refine st10 _ ?_
    show own_S p e below T10 (mkF m 22 #[vi p1, vi p2, vu, vu, vu, vu, vu, vu, vu] [xr b1]) _
    refine XS.astoreN X10.here hx rfl (hb hby at_22) rfl rfl (l' := #[vi p1, vi p2, vr b1, vu, vu, vu, vu, vu, vu]) rfl ?_
    show own_S p e below T10 (mkF m 23 #[vi p1, vi p2, vr b1, vu, vu, vu, vu, vu, vu] []) _
    refine XS.iloadN X10.here hx rfl (hb hby at_23) rfl ?_
    show own_S p e below T10 (mkF m 24 #[vi p1, vi p2, vr b1, vu, vu, vu, vu, vu, vu] [xi p1]) _
    refine XS.iconst X10.here hx rfl (hb hby at_24) ?_
    show own_S p e below T10 (mkF m 25 #[vi p1, vi p2, vr b1, vu, vu, vu, vu, vu, vu] [xi (3 : Int32), xi p1]) _
    refine XS.iand X10.here hx rfl (hb hby at_25) rfl ?_
    show own_S p e below T10 (mkF m 26 #[vi p1, vi p2, vr b1, vu, vu, vu, vu, vu, vu] [xi (p1 &&& (3 : Int32))]) _
    refine castTop (show (mkF m 26 #[vi p1, vi p2, vr b1, vu, vu, vu, vu, vu, vu] [xi (p1 &&& (3 : Int32))]) = (mkF m 26 #[vi p1, vi p2, vr b1, vu, vu, vu, vu, vu, vu] [xi (0 : Int32)]) from by rw [as0]) ?_
    show own_S p e below T10 (mkF m 26 #[vi p1, vi p2, vr b1, vu, vu, vu, vu, vu, vu] [xi (0 : Int32)]) _
    refine XS.istoreN X10.here hx rfl (hb hby at_26) rfl (l' := #[vi p1, vi p2, vr b1, vi (0 : Int32), vu, vu, vu, vu, vu]) rfl ?_
    show own_S p e below T10 (mkF m 27 #[vi p1, vi p2, vr b1, vi (0 : Int32), vu, vu, vu, vu, vu] []) _
    refine XS.iloadN X10.here hx rfl (hb hby at_27) rfl ?_
    show own_S p e below T10 (mkF m 28 #[vi p1, vi p2, vr b1, vi (0 : Int32), vu, vu, vu, vu, vu] [xi (0 : Int32)]) _
    refine XS.iconst X10.here hx rfl (hb hby at_28) ?_
    show own_S p e below T10 (mkF m 29 #[vi p1, vi p2, vr b1, vi (0 : Int32), vu, vu, vu, vu, vu] [xi (3 : Int32), xi (0 : Int32)]) _
    refine XS.icmpYes X10.here hx rfl (pc0 := 29) (pc' := 36) rfl (hb hby at_29) rfl (by decide) (by decide) (by decide) ?_
    show own_S p e below T10 (mkF m 36 #[vi p1, vi p2, vr b1, vi (0 : Int32), vu, vu, vu, vu, vu] []) _
    refine XS.aloadN X10.here hx rfl (hb hby at_36) rfl rfl ?_
    show own_S p e below T10 (mkF m 37 #[vi p1, vi p2, vr b1, vi (0 : Int32), vu, vu, vu, vu, vu] [xr b1]) _
    refine XS.iloadN X10.here hx rfl (hb hby at_37) rfl ?_
    show own_S p e below T10 (mkF m 38 #[vi p1, vi p2, vr b1, vi (0 : Int32), vu, vu, vu, vu, vu] [xi (0 : Int32), xr b1]) _
    refine X10.aaload hx (j := (0 : Int32)) (v := (xr u0)) (by rw [e10]; exact Ar11.1) (State.isArrayOf_alike hZ.alike Ar11.2.1) rfl Ar11.2.2 hin11 hat11 (g := (mkF m 38 #[vi p1, vi p2, vr b1, vi (0 : Int32), vu, vu, vu, vu, vu] [xi (0 : Int32), xr b1])) rfl rfl (hb hby at_38) _ ?_
    show own_S p e below T10 (mkF m 39 #[vi p1, vi p2, vr b1, vi (0 : Int32), vu, vu, vu, vu, vu] [xr u0]) _
    refine XS.astore X10.here hx rfl (hb hby at_39) rfl rfl (l' := #[vi p1, vi p2, vr b1, vi (0 : Int32), vr u0, vu, vu, vu, vu]) rfl ?_
    show own_S p e below T10 (mkF m 41 #[vi p1, vi p2, vr b1, vi (0 : Int32), vr u0, vu, vu, vu, vu] []) _
    refine XS.aloadN X10.here hx rfl (hb hby at_41) rfl rfl ?_
    show own_S p e below T10 (mkF m 42 #[vi p1, vi p2, vr b1, vi (0 : Int32), vr u0, vu, vu, vu, vu] [xr b1]) _
    refine XS.iloadN X10.here hx rfl (hb hby at_42) rfl ?_
    show own_S p e below T10 (mkF m 43 #[vi p1, vi p2, vr b1, vi (0 : Int32), vr u0, vu, vu, vu, vu] [xi p2, xr b1]) _
    refine X10.ldcI hx hown (mvT hZ (ww hw 10 rfl)) (g := (mkF m 43 #[vi p1, vi p2, vr b1, vi (0 : Int32), vr u0, vu, vu, vu, vu] [xi p2, xr b1])) rfl (hb hby at_43) ?_
    show own_S p e below T10 (mkF m 45 #[vi p1, vi p2, vr b1, vi (0 : Int32), vr u0, vu, vu, vu, vu] [xi (2147483647 : Int32), xi p2, xr b1]) _
    refine XS.iand X10.here hx rfl (hb hby at_45) rfl ?_
    show own_S p e below T10 (mkF m 46 #[vi p1, vi p2, vr b1, vi (0 : Int32), vr u0, vu, vu, vu, vu] [xi (p2 &&& (2147483647 : Int32)), xr b1]) _
    show own_S p e below T10 (mkF m 46 #[vi p1, vi p2, vr b1, vi (0 : Int32), vr u0, vu, vu, vu, vu] [xi (p2 &&& (2147483647 : Int32)), xr b1]) _
    refine XS.iconst X10.here hx rfl (hb hby at_46) ?_
    show own_S p e below T10 (mkF m 47 #[vi p1, vi p2, vr b1, vi (0 : Int32), vr u0, vu, vu, vu, vu] [xi (3 : Int32), xi (p2 &&& (2147483647 : Int32)), xr b1]) _
    refine XS.irem X10.here hx rfl (hb hby at_47) rfl (by decide) ?_
    show own_S p e below T10 (mkF m 48 #[vi p1, vi p2, vr b1, vi (0 : Int32), vr u0, vu, vu, vu, vu] [xi ((p2 &&& (2147483647 : Int32)) - ((p2 &&& (2147483647 : Int32)) / (3 : Int32)) * (3 : Int32)), xr b1]) _
    refine castTop (show (mkF m 48 #[vi p1, vi p2, vr b1, vi (0 : Int32), vr u0, vu, vu, vu, vu] [xi ((p2 &&& (2147483647 : Int32)) - ((p2 &&& (2147483647 : Int32)) / (3 : Int32)) * (3 : Int32)), xr b1]) = (mkF m 48 #[vi p1, vi p2, vr b1, vi (0 : Int32), vr u0, vu, vu, vu, vu] [xi (0 : Int32), xr b1]) from by rw [as4]) ?_
    show own_S p e below T10 (mkF m 48 #[vi p1, vi p2, vr b1, vi (0 : Int32), vr u0, vu, vu, vu, vu] [xi (0 : Int32), xr b1]) _
    refine X10.aaload hx (j := (0 : Int32)) (v := (xr u0)) (by rw [e10]; exact Ar12.1) (State.isArrayOf_alike hZ.alike Ar12.2.1) rfl Ar12.2.2 hin12 hat12 (g := (mkF m 48 #[vi p1, vi p2, vr b1, vi (0 : Int32), vr u0, vu, vu, vu, vu] [xi (0 : Int32), xr b1])) rfl rfl (hb hby at_48) _ ?_
    show own_S p e below T10 (mkF m 49 #[vi p1, vi p2, vr b1, vi (0 : Int32), vr u0, vu, vu, vu, vu] [xr u0]) _
    refine XS.astore X10.here hx rfl (hb hby at_49) rfl rfl (l' := #[vi p1, vi p2, vr b1, vi (0 : Int32), vr u0, vr u0, vu, vu, vu]) rfl ?_
    show own_S p e below T10 (mkF m 51 #[vi p1, vi p2, vr b1, vi (0 : Int32), vr u0, vr u0, vu, vu, vu] []) _
    refine XS.aload X10.here hx rfl (hb hby at_51) rfl rfl ?_
    show own_S p e below T10 (mkF m 53 #[vi p1, vi p2, vr b1, vi (0 : Int32), vr u0, vr u0, vu, vu, vu] [xr u0]) _
    refine XS.aload X10.here hx rfl (hb hby at_53) rfl rfl ?_
    show own_S p e below T10 (mkF m 55 #[vi p1, vi p2, vr b1, vi (0 : Int32), vr u0, vr u0, vu, vu, vu] [xr u0, xr u0]) _
    refine st13 _ ?_
    show own_S p e below T13 (mkF m 58 #[vi p1, vi p2, vr b1, vi (0 : Int32), vr u0, vr u0, vu, vu, vu] [xr u0]) _
    refine XS.astore X13.here hx rfl (hb hby at_58) rfl rfl (l' := #[vi p1, vi p2, vr b1, vi (0 : Int32), vr u0, vr u0, vr u0, vu, vu]) rfl ?_
    show own_S p e below T13 (mkF m 60 #[vi p1, vi p2, vr b1, vi (0 : Int32), vr u0, vr u0, vr u0, vu, vu] []) _
    refine XS.aload X13.here hx rfl (hb hby at_60) rfl rfl ?_
    show own_S p e below T13 (mkF m 62 #[vi p1, vi p2, vr b1, vi (0 : Int32), vr u0, vr u0, vr u0, vu, vu] [xr u0]) _
    refine XS.iconst X13.here hx rfl (hb hby at_62) ?_
    show own_S p e below T13 (mkF m 63 #[vi p1, vi p2, vr b1, vi (0 : Int32), vr u0, vr u0, vr u0, vu, vu] [xi (0 : Int32), xr u0]) _
    refine st14 _ ?_
    show own_S p e below T14 (mkF m 66 #[vi p1, vi p2, vr b1, vi (0 : Int32), vr u0, vr u0, vr u0, vu, vu] [xi (1 : Int32)]) _
    refine XS.aload X14.here hx rfl (hb hby at_66) rfl rfl ?_
    show own_S p e below T14 (mkF m 68 #[vi p1, vi p2, vr b1, vi (0 : Int32), vr u0, vr u0, vr u0, vu, vu] [xr u0, xi (1 : Int32)]) _
    refine XS.aload X14.here hx rfl (hb hby at_68) rfl rfl ?_
    show own_S p e below T14 (mkF m 70 #[vi p1, vi p2, vr b1, vi (0 : Int32), vr u0, vr u0, vr u0, vu, vu] [xr u0, xr u0, xi (1 : Int32)]) _
    refine XS.iconst X14.here hx rfl (hb hby at_70) ?_
    show own_S p e below T14 (mkF m 71 #[vi p1, vi p2, vr b1, vi (0 : Int32), vr u0, vr u0, vr u0, vu, vu] [xi (0 : Int32), xr u0, xr u0, xi (1 : Int32)]) _
    refine st15 _ ?_
    show own_S p e below T15 (mkF m 74 #[vi p1, vi p2, vr b1, vi (0 : Int32), vr u0, vr u0, vr u0, vu, vu] [xi (1 : Int32), xr u0, xi (1 : Int32)]) _
    refine st16 _ ?_
    show own_S p e below T16 (mkF m 77 #[vi p1, vi p2, vr b1, vi (0 : Int32), vr u0, vr u0, vr u0, vu, vu] [xi (1 : Int32), xi (1 : Int32)]) _
    refine XS.icmpNo X16.here hx rfl (hb hby at_77) rfl (by decide) ?_
    show own_S p e below T16 (mkF m 80 #[vi p1, vi p2, vr b1, vi (0 : Int32), vr u0, vr u0, vr u0, vu, vu] []) _
    refine XS.iconst X16.here hx rfl (hb hby at_80) ?_
    show own_S p e below T16 (mkF m 81 #[vi p1, vi p2, vr b1, vi (0 : Int32), vr u0, vr u0, vr u0, vu, vu] [xi (1 : Int32)]) _
    refine XS.goto X16.here hx rfl (pc0 := 81) (pc' := 85) rfl (hb hby at_81) (by decide) (by decide) ?_
    show own_S p e below T16 (mkF m 85 #[vi p1, vi p2, vr b1, vi (0 : Int32), vr u0, vr u0, vr u0, vu, vu] [xi (1 : Int32)]) _
    refine XS.istore X16.here hx rfl (hb hby at_85) rfl (l' := #[vi p1, vi p2, vr b1, vi (0 : Int32), vr u0, vr u0, vr u0, vi (1 : Int32), vu]) rfl ?_
    show own_S p e below T16 (mkF m 87 #[vi p1, vi p2, vr b1, vi (0 : Int32), vr u0, vr u0, vr u0, vi (1 : Int32), vu] []) _
    refine XS.aload X16.here hx rfl (hb hby at_87) rfl rfl ?_
    show own_S p e below T16 (mkF m 89 #[vi p1, vi p2, vr b1, vi (0 : Int32), vr u0, vr u0, vr u0, vi (1 : Int32), vu] [xr u0]) _
    refine XS.iconst X16.here hx rfl (hb hby at_89) ?_
    show own_S p e below T16 (mkF m 90 #[vi p1, vi p2, vr b1, vi (0 : Int32), vr u0, vr u0, vr u0, vi (1 : Int32), vu] [xi (1 : Int32), xr u0]) _
    refine st17 _ ?_
    show own_S p e below T17 (mkF m 93 #[vi p1, vi p2, vr b1, vi (0 : Int32), vr u0, vr u0, vr u0, vi (1 : Int32), vu] [xi (1 : Int32)]) _
    refine XS.aload X17.here hx rfl (hb hby at_93) rfl rfl ?_
    show own_S p e below T17 (mkF m 95 #[vi p1, vi p2, vr b1, vi (0 : Int32), vr u0, vr u0, vr u0, vi (1 : Int32), vu] [xr u0, xi (1 : Int32)]) _
    refine XS.aload X17.here hx rfl (hb hby at_95) rfl rfl ?_
    show own_S p e below T17 (mkF m 97 #[vi p1, vi p2, vr b1, vi (0 : Int32), vr u0, vr u0, vr u0, vi (1 : Int32), vu] [xr u0, xr u0, xi (1 : Int32)]) _
    refine XS.iconst X17.here hx rfl (hb hby at_97) ?_
    show own_S p e below T17 (mkF m 98 #[vi p1, vi p2, vr b1, vi (0 : Int32), vr u0, vr u0, vr u0, vi (1 : Int32), vu] [xi (1 : Int32), xr u0, xr u0, xi (1 : Int32)]) _
    refine st18 _ ?_
    show own_S p e below T18 (mkF m 101 #[vi p1, vi p2, vr b1, vi (0 : Int32), vr u0, vr u0, vr u0, vi (1 : Int32), vu] [xi (1 : Int32), xr u0, xi (1 : Int32)]) _
    refine st19 _ ?_
    show own_S p e below T19 (mkF m 104 #[vi p1, vi p2, vr b1, vi (0 : Int32), vr u0, vr u0, vr u0, vi (1 : Int32), vu] [xi (1 : Int32), xi (1 : Int32)]) _
    refine XS.icmpNo X19.here hx rfl (hb hby at_104) rfl (by decide) ?_
    show own_S p e below T19 (mkF m 107 #[vi p1, vi p2, vr b1, vi (0 : Int32), vr u0, vr u0, vr u0, vi (1 : Int32), vu] []) _
    refine XS.iconst X19.here hx rfl (hb hby at_107) ?_
    show own_S p e below T19 (mkF m 108 #[vi p1, vi p2, vr b1, vi (0 : Int32), vr u0, vr u0, vr u0, vi (1 : Int32), vu] [xi (1 : Int32)]) _
    refine XS.goto X19.here hx rfl (pc0 := 108) (pc' := 112) rfl (hb hby at_108) (by decide) (by decide) ?_
    show own_S p e below T19 (mkF m 112 #[vi p1, vi p2, vr b1, vi (0 : Int32), vr u0, vr u0, vr u0, vi (1 : Int32), vu] [xi (1 : Int32)]) _
    refine XS.istore X19.here hx rfl (hb hby at_112) rfl (l' := #[vi p1, vi p2, vr b1, vi (0 : Int32), vr u0, vr u0, vr u0, vi (1 : Int32), vi (1 : Int32)]) rfl ?_
    show own_S p e below T19 (mkF m 114 #[vi p1, vi p2, vr b1, vi (0 : Int32), vr u0, vr u0, vr u0, vi (1 : Int32), vi (1 : Int32)] []) _
    refine XS.iload X19.here hx rfl (hb hby at_114) rfl ?_
    show own_S p e below T19 (mkF m 116 #[vi p1, vi p2, vr b1, vi (0 : Int32), vr u0, vr u0, vr u0, vi (1 : Int32), vi (1 : Int32)] [xi (1 : Int32)]) _
    refine XS.ifNo X19.here hx rfl (hb hby at_116) rfl (by decide) ?_
    show own_S p e below T19 (mkF m 119 #[vi p1, vi p2, vr b1, vi (0 : Int32), vr u0, vr u0, vr u0, vi (1 : Int32), vi (1 : Int32)] []) _
    refine XS.iload X19.here hx rfl (hb hby at_119) rfl ?_
    show own_S p e below T19 (mkF m 121 #[vi p1, vi p2, vr b1, vi (0 : Int32), vr u0, vr u0, vr u0, vi (1 : Int32), vi (1 : Int32)] [xi (1 : Int32)]) _
    refine XS.ifNo X19.here hx rfl (hb hby at_121) rfl (by decide) ?_
    show own_S p e below T19 (mkF m 124 #[vi p1, vi p2, vr b1, vi (0 : Int32), vr u0, vr u0, vr u0, vi (1 : Int32), vi (1 : Int32)] []) _
    refine XS.iconst X19.here hx rfl (hb hby at_124) ?_
    show own_S p e below T19 (mkF m 125 #[vi p1, vi p2, vr b1, vi (0 : Int32), vr u0, vr u0, vr u0, vi (1 : Int32), vi (1 : Int32)] [xi (1 : Int32)]) _
    refine XS.goto X19.here hx rfl (pc0 := 125) (pc' := 129) rfl (hb hby at_125) (by decide) (by decide) ?_
    show own_S p e below T19 (mkF m 129 #[vi p1, vi p2, vr b1, vi (0 : Int32), vr u0, vr u0, vr u0, vi (1 : Int32), vi (1 : Int32)] [xi (1 : Int32)]) _
    exact retN X19 hx (t := .boolean) Bd.returns (by simp) (hb hby at_129) hr
  · exact ⟨rfl, N19⟩
theorem own_ne_u1_u2 {Z : State} {u0 u1 u2 : Addr} (G : own_St Z u0 u1 u2) : u1 ≠ u2 := Fld.ne (own_F_u1_ordinal G) (own_F_u2_ordinal G) (by decide)
theorem ef_own_c6_composed (m : MethodId) (u0 u1 u2 : Addr) : entryFrame m #[xr u0, xr u1] 3 = (mkF m 0 #[vr u0, vr u1, vu] []) := by first | (simp [entryFrame, mkF, argsToLocals, Value.category]; done) | rfl
set_option maxRecDepth 65536 in
set_option maxHeartbeats 40000000 in
theorem own_c6_composed (l : Launch) (Z : State) (a0 : Array Value) (hw : ∀ d ∈ tables_1, d.before a0 Z = true) (u0 u1 u2 : Addr) (G : own_St Z u0 u1 u2) (h0 : Heap) (n0 : Nat) (O0 : Old Z n0 h0) : own_Met l Z Y0 prog_1_method_7_code 3 (some (.object "com/example/tidemark/tidemark/Change")) ({ frames := 0, cells := 0, slots := 0, locals := 0 } : Room) #[xr u0, xr u1] h0 (own_QR (some (xr u1)) h0 n0) := by
  intro ws
  refine MetFree.of_bodySF (plainFor_of_name pn0) hisR ?_
  intro p e s m args below meth c s₁ Bd hml0 hP hK
  obtain ⟨rfl, hZ, hh⟩ := hP
  have hx := Bd.exec
  have hby := Bd.bytes
  have hml : c.maxLocals = 3 := hml0
  have hown : s.vm.findClass "com/example/tidemark/tidemark/Change" = some m.cls := findClass_of_methodNamed Bd.named
  have hnm := (name_of_methodNamed Bd.named Bd.method).1
  have X0 : Stand p l e ({ frames := 0, cells := 0, slots := 0, locals := 0 } : Room) s m #[xr u0, xr u1] below meth c s₁ [] 0 0 := Stand.of_body Bd
  have e0 : s₁.heap = h0 := by rw [← hh, Bd.state]; rfl
  have N0 := Fr.nil n0
  have pre0 : ∀ t, Steps p.tables e below (s₁.setTop (mkF m 0 #[vr u0, vr u1, vu] [])) t → Steps p.tables e below (s₁.setTop (entryFrame m #[xr u0, xr u1] 3)) t := fun t st => castTop (ef_own_c6_composed m u0 u1 u2) st
  obtain ⟨T1, X1, e1, st1⟩ := getS2 X0 hx hZ hown (host := "") (Or.inl (ww hw 14 rfl)) Via.refl e0 ((own_S_u2 G).ext O0.2) (g := (mkF m 3 #[vr u0, vr u1, vr u1] [xr u1])) rfl (hb hby d1_3)
  obtain ⟨fs, hr, hrun, hended, hW, hsame⟩ := X1.leave (v := some (xr u1)) (fun h => by rw [Bd.returns] at h; cases h)
  refine ⟨_, _, pre0 _ ?_, hrun, hended, _, _, rfl, ?_, ⟨_, rfl⟩, hW, hsame.mono (by decide) (by decide)⟩
  · show own_S p e below s₁ (mkF m 0 #[vr u0, vr u1, vu] []) _
    refine XS.aloadN X0.here hx rfl (hb hby d1_0) rfl rfl ?_
    show own_S p e below s₁ (mkF m 1 #[vr u0, vr u1, vu] [xr u1]) _
    refine XS.astoreN X0.here hx rfl (hb hby d1_1) rfl rfl (l' := #[vr u0, vr u1, vr u1]) rfl ?_
    show own_S p e below s₁ (mkF m 2 #[vr u0, vr u1, vr u1] []) _
    refine XS.aloadN X0.here hx rfl (hb hby d1_2) rfl rfl ?_
    show own_S p e below s₁ (mkF m 3 #[vr u0, vr u1, vr u1] [xr u1]) _
    refine st1 _ ?_
    show own_S p e below T1 (mkF m 6 #[vr u0, vr u1, vr u1] [xr u2, xr u1]) _
    refine Jvm.RoadKit.acmp (g := (mkF m 6 #[vr u0, vr u1, vr u1] [xr u2, xr u1])) X1 hx rfl rfl rfl (pc0 := 6) (pc' := 68) (same := false) rfl (hb hby d1_6) rfl (own_ref (own_ne_u1_u2 G)) (by decide) (by decide) ?_
    show own_S p e below T1 (mkF m 68 #[vr u0, vr u1, vr u1] []) _
    refine XS.aloadN X1.here hx rfl (hb hby d1_68) rfl rfl ?_
    show own_S p e below T1 (mkF m 69 #[vr u0, vr u1, vr u1] [xr u1]) _
    exact X1.areturnOut hx rfl Bd.returns rfl (hb hby d1_69) hr
  · exact ⟨rfl, N0, e1⟩
theorem ef_own_c7_ordinal (m : MethodId) (u0 u1 u2 : Addr) : entryFrame m #[xr u1] 1 = (mkF m 0 #[vr u1] []) := by first | (simp [entryFrame, mkF, argsToLocals, Value.category]; done) | rfl
set_option maxRecDepth 65536 in
set_option maxHeartbeats 40000000 in
theorem own_c7_ordinal (l : Launch) (Z : State) (a0 : Array Value) (hw : ∀ d ∈ tables_1, d.before a0 Z = true) (u0 u1 u2 : Addr) (G : own_St Z u0 u1 u2) (h0 : Heap) (n0 : Nat) (O0 : Old Z n0 h0) : own_Met l Z Y1 jdk_37_method_2_code 1 (some .int) ({ frames := 0, cells := 0, slots := 0, locals := 0 } : Room) #[xr u1] h0 (own_QR (some (xi (1 : Int32))) h0 n0) := by
  intro ws
  refine MetFree.of_bodySF (plainFor_of_name pn1) hisR ?_
  intro p e s m args below meth c s₁ Bd hml0 hP hK
  obtain ⟨rfl, hZ, hh⟩ := hP
  have hx := Bd.exec
  have hby := Bd.bytes
  have hml : c.maxLocals = 1 := hml0
  have hown : s.vm.findClass "java/lang/Enum" = some m.cls := findClass_of_methodNamed Bd.named
  have hnm := (name_of_methodNamed Bd.named Bd.method).1
  have X0 : Stand p l e ({ frames := 0, cells := 0, slots := 0, locals := 0 } : Room) s m #[xr u1] below meth c s₁ [] 0 0 := Stand.of_body Bd
  have e0 : s₁.heap = h0 := by rw [← hh, Bd.state]; rfl
  have N0 := Fr.nil n0
  have pre0 : ∀ t, Steps p.tables e below (s₁.setTop (mkF m 0 #[vr u1] [])) t → Steps p.tables e below (s₁.setTop (entryFrame m #[xr u1] 1)) t := fun t st => castTop (ef_own_c7_ordinal m u0 u1 u2) st
  obtain ⟨T1, X1, e1, st1⟩ := getF X0 hx hZ hown (host := "") (Or.inl (ww hw 31 rfl)) Via.refl e0 ((own_F_u1_ordinal G).ext O0.2) (g := (mkF m 1 #[vr u1] [xr u1])) rfl rfl (hb hby d4_1)
  obtain ⟨fs, hr, hrun, hended, hW, hsame⟩ := X1.leave (v := some (xi (1 : Int32))) (fun h => by rw [Bd.returns] at h; cases h)
  refine ⟨_, _, pre0 _ ?_, hrun, hended, _, _, rfl, ?_, ⟨_, rfl⟩, hW, hsame.mono (by decide) (by decide)⟩
  · show own_S p e below s₁ (mkF m 0 #[vr u1] []) _
    refine XS.aloadN X0.here hx rfl (hb hby d4_0) rfl rfl ?_
    show own_S p e below s₁ (mkF m 1 #[vr u1] [xr u1]) _
    refine st1 _ ?_
    show own_S p e below T1 (mkF m 4 #[vr u1] [xi (1 : Int32)]) _
    exact retI X1 hx Bd.returns (hb hby d4_4) hr
  · exact ⟨rfl, N0, e1⟩
theorem d3_46 : decode prog_1_method_6_code 46 = .ok (.iconst 0, 1) := by decide +kernel
theorem d3_47 : decode prog_1_method_6_code 47 = .ok (.goto 12, 3) := by decide +kernel
theorem ef_own_c7_applyTo (m : MethodId) (u0 u1 u2 : Addr) : entryFrame m #[xr u1, xi (0 : Int32)] 3 = (mkF m 0 #[vr u1, vi (0 : Int32), vu] []) := by first | (simp [entryFrame, mkF, argsToLocals, Value.category]; done) | rfl
set_option maxRecDepth 65536 in
set_option maxHeartbeats 40000000 in
theorem own_c7_applyTo (l : Launch) (Z : State) (a0 : Array Value) (hw : ∀ d ∈ tables_1, d.before a0 Z = true) (u0 u1 u2 : Addr) (G : own_St Z u0 u1 u2) (h0 : Heap) (n0 : Nat) (O0 : Old Z n0 h0) : own_Met l Z Y3 prog_1_method_6_code 3 (some .boolean) ({ frames := 1, cells := 0, slots := 0, locals := 12 } : Room) #[xr u1, xi (0 : Int32)] h0 (own_QR (some (xi (0 : Int32))) h0 n0) := by
  intro ws
  refine MetFree.of_bodySF (plainFor_of_name pn0) hisR ?_
  intro p e s m args below meth c s₁ Bd hml0 hP hK
  obtain ⟨rfl, hZ, hh⟩ := hP
  have hx := Bd.exec
  have hby := Bd.bytes
  have hml : c.maxLocals = 3 := hml0
  have hown : s.vm.findClass "com/example/tidemark/tidemark/Change" = some m.cls := findClass_of_methodNamed Bd.named
  have hnm := (name_of_methodNamed Bd.named Bd.method).1
  have X0 : Stand p l e ({ frames := 1, cells := 0, slots := 0, locals := 12 } : Room) s m #[xr u1, xi (0 : Int32)] below meth c s₁ [] 0 0 := Stand.of_body Bd
  have e0 : s₁.heap = h0 := by rw [← hh, Bd.state]; rfl
  have N0 := Fr.nil n0
  have pre0 : ∀ t, Steps p.tables e below (s₁.setTop (mkF m 0 #[vr u1, vi (0 : Int32), vu] [])) t → Steps p.tables e below (s₁.setTop (entryFrame m #[xr u1, xi (0 : Int32)] 3)) t := fun t st => castTop (ef_own_c7_applyTo m u0 u1 u2) st
  obtain ⟨cq1, kq1, qa1, qb1, qc1⟩ := isOf hZ e0 ((own_X_u1 G).ext O0.2)
  obtain ⟨_, _, ⟨T1, L1, k1, n1⟩, -, X1, ⟨Lc1, hQ1, l1, y1, z1⟩, st1⟩ := X0.virtualBackUp hx (x := Y2) (y := Y1) hown (mvT hZ (ww hw 24 rfl)) (mvT hZ (ww hw 25 rfl)) (mvT hZ (ww hw 26 rfl)) (by decide) (mvT hZ (ww hw 28 rfl)) (mvT hZ (ww hw 27 rfl)) (backOf (W := 0) (own_c7_ordinal l Z a0 hw u0 u1 u2 G h0 n0 O0 []) hZ (ww hw 30 rfl) (ww hw 29 rfl) (by decide) (by decide)) qa1 qc1 (g := (mkF m 1 #[vr u1, vi (0 : Int32), vu] [xr u1])) rfl (by rw [hml]; rfl) (Steps.refl _) (argsL := []) (rest := []) (lenOf pd1 rfl) rfl (by show 2 * 0 + _ ≤ _; exact Nat.le_of_eq rfl) (hb hby d3_1) (fun _ _ => ⟨rfl, e0, (by decide : 0 + 0 ≤ _), (by decide : 0 + 0 ≤ _)⟩)
  dsimp only [Pt.U, Pt.locs, Pt.cells, Pt.slots] at X1 l1 y1 z1 st1 hQ1
  subst l1 y1 z1
  obtain ⟨rfl, Nq1, e1⟩ := hQ1
  have N1 := Fr.app N0 Nq1
  obtain ⟨fs, hr, hrun, hended, hW, hsame⟩ := X1.leave (v := some (xi (0 : Int32))) (fun h => by rw [Bd.returns] at h; cases h)
  refine ⟨_, _, pre0 _ ?_, hrun, hended, _, _, rfl, ?_, ⟨_, rfl⟩, hW, hsame.mono (by decide) (by decide)⟩
  · show own_S p e below s₁ (mkF m 0 #[vr u1, vi (0 : Int32), vu] []) _
    refine XS.aloadN X0.here hx rfl (hb hby d3_0) rfl rfl ?_
    show own_S p e below s₁ (mkF m 1 #[vr u1, vi (0 : Int32), vu] [xr u1]) _
    refine st1.trans ?_
    show own_S p e below T1 (mkF m 4 #[vr u1, vi (0 : Int32), vu] [xi (1 : Int32)]) _
    refine XS.tswIn X1.here hx rfl (pc0 := 4) (pc' := 46) (o := 42) rfl (hb hby d3_4) rfl (by decide) (by decide) (by decide) (by decide) ?_
    show own_S p e below T1 (mkF m 46 #[vr u1, vi (0 : Int32), vu] []) _
    refine XS.iconst X1.here hx rfl (hb hby d3_46) ?_
    show own_S p e below T1 (mkF m 47 #[vr u1, vi (0 : Int32), vu] [xi (0 : Int32)]) _
    refine XS.goto X1.here hx rfl (pc0 := 47) (pc' := 59) rfl (hb hby d3_47) (by decide) (by decide) ?_
    show own_S p e below T1 (mkF m 59 #[vr u1, vi (0 : Int32), vu] [xi (0 : Int32)]) _
    refine XS.istoreN X1.here hx rfl (hb hby d3_59) rfl (l' := #[vr u1, vi (0 : Int32), vi (0 : Int32)]) rfl ?_
    show own_S p e below T1 (mkF m 60 #[vr u1, vi (0 : Int32), vi (0 : Int32)] []) _
    refine XS.iloadN X1.here hx rfl (hb hby d3_60) rfl ?_
    show own_S p e below T1 (mkF m 61 #[vr u1, vi (0 : Int32), vi (0 : Int32)] [xi (0 : Int32)]) _
    exact retN X1 hx (t := .boolean) Bd.returns (by simp) (hb hby d3_61) hr
  · exact ⟨rfl, N1, e1⟩
theorem ef_own_c7_apply (m : MethodId) (u0 u1 u2 : Addr) : entryFrame m #[xr u1, xi (0 : Int32)] 2 = (mkF m 0 #[vr u1, vi (0 : Int32)] []) := by first | (simp [entryFrame, mkF, argsToLocals, Value.category]; done) | rfl
set_option maxRecDepth 65536 in
set_option maxHeartbeats 40000000 in
theorem own_c7_apply (l : Launch) (Z : State) (a0 : Array Value) (hw : ∀ d ∈ tables_1, d.before a0 Z = true) (u0 u1 u2 : Addr) (G : own_St Z u0 u1 u2) (h0 : Heap) (n0 : Nat) (O0 : Old Z n0 h0) : own_Met l Z Y4 method_2_code 2 (some .boolean) ({ frames := 2, cells := 0, slots := 0, locals := 26 } : Room) #[xr u1, xi (0 : Int32)] h0 (own_QR (some (xi (0 : Int32))) h0 n0) := by
  intro ws
  refine MetFree.of_bodySF (plainFor_of_name pn2) hisR ?_
  intro p e s m args below meth c s₁ Bd hml0 hP hK
  obtain ⟨rfl, hZ, hh⟩ := hP
  have hx := Bd.exec
  have hby := Bd.bytes
  have hml : c.maxLocals = 2 := hml0
  have hown : s.vm.findClass "com/example/tidemark/tidemark/ChangeComposedPinLaw" = some m.cls := findClass_of_methodNamed Bd.named
  have hnm := (name_of_methodNamed Bd.named Bd.method).1
  have X0 : Stand p l e ({ frames := 2, cells := 0, slots := 0, locals := 26 } : Room) s m #[xr u1, xi (0 : Int32)] below meth c s₁ [] 0 0 := Stand.of_body Bd
  have e0 : s₁.heap = h0 := by rw [← hh, Bd.state]; rfl
  have N0 := Fr.nil n0
  have pre0 : ∀ t, Steps p.tables e below (s₁.setTop (mkF m 0 #[vr u1, vi (0 : Int32)] [])) t → Steps p.tables e below (s₁.setTop (entryFrame m #[xr u1, xi (0 : Int32)] 2)) t := fun t st => castTop (ef_own_c7_apply m u0 u1 u2) st
  obtain ⟨cq1, kq1, qa1, qb1, qc1⟩ := isOf hZ e0 ((own_X_u1 G).ext O0.2)
  obtain ⟨_, _, ⟨T1, L1, k1, n1⟩, -, X1, ⟨Lc1, hQ1, l1, y1, z1⟩, st1⟩ := X0.virtualBack hx (y := Y3) (z := Y3) hown (mvT hZ (ww hw 19 rfl)) (mvT hZ (ww hw 20 rfl)) (notFace_of_selects (args := #[]) (mvT hZ (ww hw 22 rfl))) (mvT hZ (ww hw 22 rfl)) (mvT hZ (ww hw 21 rfl)) (by decide) (backOf (W := 0) (own_c7_applyTo l Z a0 hw u0 u1 u2 G h0 n0 O0 []) hZ (ww hw 23 rfl) (ww hw 3 rfl) (by decide) (by decide)) qa1 qc1 (g := (mkF m 8 #[vr u1, vi (0 : Int32)] [xi (0 : Int32), xr u1])) rfl (by rw [hml]; rfl) (Steps.refl _) (argsL := [xi (0 : Int32)]) (rest := []) (lenOf pd2 rfl) rfl (by show 2 * 0 + _ ≤ _; exact Nat.le_of_eq rfl) (hb hby d2_8) (fun _ _ => ⟨rfl, e0, (by decide : 0 + 0 ≤ _), (by decide : 0 + 0 ≤ _)⟩)
  dsimp only [Pt.U, Pt.locs, Pt.cells, Pt.slots] at X1 l1 y1 z1 st1 hQ1
  subst l1 y1 z1
  obtain ⟨rfl, Nq1, e1⟩ := hQ1
  have N1 := Fr.app N0 Nq1
  obtain ⟨fs, hr, hrun, hended, hW, hsame⟩ := X1.leave (v := some (xi (0 : Int32))) (fun h => by rw [Bd.returns] at h; cases h)
  refine ⟨_, _, pre0 _ ?_, hrun, hended, _, _, rfl, ?_, ⟨_, rfl⟩, hW, hsame.mono (by decide) (by decide)⟩
  · show own_S p e below s₁ (mkF m 0 #[vr u1, vi (0 : Int32)] []) _
    refine XS.aloadN X0.here hx rfl (hb hby d2_0) rfl rfl ?_
    show own_S p e below s₁ (mkF m 1 #[vr u1, vi (0 : Int32)] [xr u1]) _
    refine Jvm.Free.XT.nonnullYes X0.here hx rfl (pc0 := 1) (pc' := 6) rfl (hb hby d2_1) rfl rfl (by simp) (by decide) (by decide) ?_
    show own_S p e below s₁ (mkF m 6 #[vr u1, vi (0 : Int32)] []) _
    refine XS.aloadN X0.here hx rfl (hb hby d2_6) rfl rfl ?_
    show own_S p e below s₁ (mkF m 7 #[vr u1, vi (0 : Int32)] [xr u1]) _
    refine XS.iloadN X0.here hx rfl (hb hby d2_7) rfl ?_
    show own_S p e below s₁ (mkF m 8 #[vr u1, vi (0 : Int32)] [xi (0 : Int32), xr u1]) _
    refine st1.trans ?_
    show own_S p e below T1 (mkF m 11 #[vr u1, vi (0 : Int32)] [xi (0 : Int32)]) _
    exact retN X1 hx (t := .boolean) Bd.returns (by simp) (hb hby d2_11) hr
  · exact ⟨rfl, N1, e1⟩
theorem ef_own_c10_applyTo (m : MethodId) (u0 u1 u2 : Addr) : entryFrame m #[xr u1, xi (1 : Int32)] 3 = (mkF m 0 #[vr u1, vi (1 : Int32), vu] []) := by first | (simp [entryFrame, mkF, argsToLocals, Value.category]; done) | rfl
set_option maxRecDepth 65536 in
set_option maxHeartbeats 40000000 in
theorem own_c10_applyTo (l : Launch) (Z : State) (a0 : Array Value) (hw : ∀ d ∈ tables_1, d.before a0 Z = true) (u0 u1 u2 : Addr) (G : own_St Z u0 u1 u2) (h0 : Heap) (n0 : Nat) (O0 : Old Z n0 h0) : own_Met l Z Y3 prog_1_method_6_code 3 (some .boolean) ({ frames := 1, cells := 0, slots := 0, locals := 12 } : Room) #[xr u1, xi (1 : Int32)] h0 (own_QR (some (xi (0 : Int32))) h0 n0) := by
  intro ws
  refine MetFree.of_bodySF (plainFor_of_name pn0) hisR ?_
  intro p e s m args below meth c s₁ Bd hml0 hP hK
  obtain ⟨rfl, hZ, hh⟩ := hP
  have hx := Bd.exec
  have hby := Bd.bytes
  have hml : c.maxLocals = 3 := hml0
  have hown : s.vm.findClass "com/example/tidemark/tidemark/Change" = some m.cls := findClass_of_methodNamed Bd.named
  have hnm := (name_of_methodNamed Bd.named Bd.method).1
  have X0 : Stand p l e ({ frames := 1, cells := 0, slots := 0, locals := 12 } : Room) s m #[xr u1, xi (1 : Int32)] below meth c s₁ [] 0 0 := Stand.of_body Bd
  have e0 : s₁.heap = h0 := by rw [← hh, Bd.state]; rfl
  have N0 := Fr.nil n0
  have pre0 : ∀ t, Steps p.tables e below (s₁.setTop (mkF m 0 #[vr u1, vi (1 : Int32), vu] [])) t → Steps p.tables e below (s₁.setTop (entryFrame m #[xr u1, xi (1 : Int32)] 3)) t := fun t st => castTop (ef_own_c10_applyTo m u0 u1 u2) st
  obtain ⟨cq1, kq1, qa1, qb1, qc1⟩ := isOf hZ e0 ((own_X_u1 G).ext O0.2)
  obtain ⟨_, _, ⟨T1, L1, k1, n1⟩, -, X1, ⟨Lc1, hQ1, l1, y1, z1⟩, st1⟩ := X0.virtualBackUp hx (x := Y2) (y := Y1) hown (mvT hZ (ww hw 24 rfl)) (mvT hZ (ww hw 25 rfl)) (mvT hZ (ww hw 26 rfl)) (by decide) (mvT hZ (ww hw 28 rfl)) (mvT hZ (ww hw 27 rfl)) (backOf (W := 0) (own_c7_ordinal l Z a0 hw u0 u1 u2 G h0 n0 O0 []) hZ (ww hw 30 rfl) (ww hw 29 rfl) (by decide) (by decide)) qa1 qc1 (g := (mkF m 1 #[vr u1, vi (1 : Int32), vu] [xr u1])) rfl (by rw [hml]; rfl) (Steps.refl _) (argsL := []) (rest := []) (lenOf pd1 rfl) rfl (by show 2 * 0 + _ ≤ _; exact Nat.le_of_eq rfl) (hb hby d3_1) (fun _ _ => ⟨rfl, e0, (by decide : 0 + 0 ≤ _), (by decide : 0 + 0 ≤ _)⟩)
  dsimp only [Pt.U, Pt.locs, Pt.cells, Pt.slots] at X1 l1 y1 z1 st1 hQ1
  subst l1 y1 z1
  obtain ⟨rfl, Nq1, e1⟩ := hQ1
  have N1 := Fr.app N0 Nq1
  obtain ⟨fs, hr, hrun, hended, hW, hsame⟩ := X1.leave (v := some (xi (0 : Int32))) (fun h => by rw [Bd.returns] at h; cases h)
  refine ⟨_, _, pre0 _ ?_, hrun, hended, _, _, rfl, ?_, ⟨_, rfl⟩, hW, hsame.mono (by decide) (by decide)⟩
  · show own_S p e below s₁ (mkF m 0 #[vr u1, vi (1 : Int32), vu] []) _
    refine XS.aloadN X0.here hx rfl (hb hby d3_0) rfl rfl ?_
    show own_S p e below s₁ (mkF m 1 #[vr u1, vi (1 : Int32), vu] [xr u1]) _
    refine st1.trans ?_
    show own_S p e below T1 (mkF m 4 #[vr u1, vi (1 : Int32), vu] [xi (1 : Int32)]) _
    refine XS.tswIn X1.here hx rfl (pc0 := 4) (pc' := 46) (o := 42) rfl (hb hby d3_4) rfl (by decide) (by decide) (by decide) (by decide) ?_
    show own_S p e below T1 (mkF m 46 #[vr u1, vi (1 : Int32), vu] []) _
    refine XS.iconst X1.here hx rfl (hb hby d3_46) ?_
    show own_S p e below T1 (mkF m 47 #[vr u1, vi (1 : Int32), vu] [xi (0 : Int32)]) _
    refine XS.goto X1.here hx rfl (pc0 := 47) (pc' := 59) rfl (hb hby d3_47) (by decide) (by decide) ?_
    show own_S p e below T1 (mkF m 59 #[vr u1, vi (1 : Int32), vu] [xi (0 : Int32)]) _
    refine XS.istoreN X1.here hx rfl (hb hby d3_59) rfl (l' := #[vr u1, vi (1 : Int32), vi (0 : Int32)]) rfl ?_
    show own_S p e below T1 (mkF m 60 #[vr u1, vi (1 : Int32), vi (0 : Int32)] []) _
    refine XS.iloadN X1.here hx rfl (hb hby d3_60) rfl ?_
    show own_S p e below T1 (mkF m 61 #[vr u1, vi (1 : Int32), vi (0 : Int32)] [xi (0 : Int32)]) _
    exact retN X1 hx (t := .boolean) Bd.returns (by simp) (hb hby d3_61) hr
  · exact ⟨rfl, N1, e1⟩
theorem ef_own_c10_apply (m : MethodId) (u0 u1 u2 : Addr) : entryFrame m #[xr u1, xi (1 : Int32)] 2 = (mkF m 0 #[vr u1, vi (1 : Int32)] []) := by first | (simp [entryFrame, mkF, argsToLocals, Value.category]; done) | rfl
set_option maxRecDepth 65536 in
set_option maxHeartbeats 40000000 in
theorem own_c10_apply (l : Launch) (Z : State) (a0 : Array Value) (hw : ∀ d ∈ tables_1, d.before a0 Z = true) (u0 u1 u2 : Addr) (G : own_St Z u0 u1 u2) (h0 : Heap) (n0 : Nat) (O0 : Old Z n0 h0) : own_Met l Z Y4 method_2_code 2 (some .boolean) ({ frames := 2, cells := 0, slots := 0, locals := 26 } : Room) #[xr u1, xi (1 : Int32)] h0 (own_QR (some (xi (0 : Int32))) h0 n0) := by
  intro ws
  refine MetFree.of_bodySF (plainFor_of_name pn2) hisR ?_
  intro p e s m args below meth c s₁ Bd hml0 hP hK
  obtain ⟨rfl, hZ, hh⟩ := hP
  have hx := Bd.exec
  have hby := Bd.bytes
  have hml : c.maxLocals = 2 := hml0
  have hown : s.vm.findClass "com/example/tidemark/tidemark/ChangeComposedPinLaw" = some m.cls := findClass_of_methodNamed Bd.named
  have hnm := (name_of_methodNamed Bd.named Bd.method).1
  have X0 : Stand p l e ({ frames := 2, cells := 0, slots := 0, locals := 26 } : Room) s m #[xr u1, xi (1 : Int32)] below meth c s₁ [] 0 0 := Stand.of_body Bd
  have e0 : s₁.heap = h0 := by rw [← hh, Bd.state]; rfl
  have N0 := Fr.nil n0
  have pre0 : ∀ t, Steps p.tables e below (s₁.setTop (mkF m 0 #[vr u1, vi (1 : Int32)] [])) t → Steps p.tables e below (s₁.setTop (entryFrame m #[xr u1, xi (1 : Int32)] 2)) t := fun t st => castTop (ef_own_c10_apply m u0 u1 u2) st
  obtain ⟨cq1, kq1, qa1, qb1, qc1⟩ := isOf hZ e0 ((own_X_u1 G).ext O0.2)
  obtain ⟨_, _, ⟨T1, L1, k1, n1⟩, -, X1, ⟨Lc1, hQ1, l1, y1, z1⟩, st1⟩ := X0.virtualBack hx (y := Y3) (z := Y3) hown (mvT hZ (ww hw 19 rfl)) (mvT hZ (ww hw 20 rfl)) (notFace_of_selects (args := #[]) (mvT hZ (ww hw 22 rfl))) (mvT hZ (ww hw 22 rfl)) (mvT hZ (ww hw 21 rfl)) (by decide) (backOf (W := 0) (own_c10_applyTo l Z a0 hw u0 u1 u2 G h0 n0 O0 []) hZ (ww hw 23 rfl) (ww hw 3 rfl) (by decide) (by decide)) qa1 qc1 (g := (mkF m 8 #[vr u1, vi (1 : Int32)] [xi (1 : Int32), xr u1])) rfl (by rw [hml]; rfl) (Steps.refl _) (argsL := [xi (1 : Int32)]) (rest := []) (lenOf pd2 rfl) rfl (by show 2 * 0 + _ ≤ _; exact Nat.le_of_eq rfl) (hb hby d2_8) (fun _ _ => ⟨rfl, e0, (by decide : 0 + 0 ≤ _), (by decide : 0 + 0 ≤ _)⟩)
  dsimp only [Pt.U, Pt.locs, Pt.cells, Pt.slots] at X1 l1 y1 z1 st1 hQ1
  subst l1 y1 z1
  obtain ⟨rfl, Nq1, e1⟩ := hQ1
  have N1 := Fr.app N0 Nq1
  obtain ⟨fs, hr, hrun, hended, hW, hsame⟩ := X1.leave (v := some (xi (0 : Int32))) (fun h => by rw [Bd.returns] at h; cases h)
  refine ⟨_, _, pre0 _ ?_, hrun, hended, _, _, rfl, ?_, ⟨_, rfl⟩, hW, hsame.mono (by decide) (by decide)⟩
  · show own_S p e below s₁ (mkF m 0 #[vr u1, vi (1 : Int32)] []) _
    refine XS.aloadN X0.here hx rfl (hb hby d2_0) rfl rfl ?_
    show own_S p e below s₁ (mkF m 1 #[vr u1, vi (1 : Int32)] [xr u1]) _
    refine Jvm.Free.XT.nonnullYes X0.here hx rfl (pc0 := 1) (pc' := 6) rfl (hb hby d2_1) rfl rfl (by simp) (by decide) (by decide) ?_
    show own_S p e below s₁ (mkF m 6 #[vr u1, vi (1 : Int32)] []) _
    refine XS.aloadN X0.here hx rfl (hb hby d2_6) rfl rfl ?_
    show own_S p e below s₁ (mkF m 7 #[vr u1, vi (1 : Int32)] [xr u1]) _
    refine XS.iloadN X0.here hx rfl (hb hby d2_7) rfl ?_
    show own_S p e below s₁ (mkF m 8 #[vr u1, vi (1 : Int32)] [xi (1 : Int32), xr u1]) _
    refine st1.trans ?_
    show own_S p e below T1 (mkF m 11 #[vr u1, vi (1 : Int32)] [xi (0 : Int32)]) _
    exact retN X1 hx (t := .boolean) Bd.returns (by simp) (hb hby d2_11) hr
  · exact ⟨rfl, N1, e1⟩
theorem ef_own_l1 (m : MethodId) (u0 u1 u2 : Addr) (p1 : Int32) (p2 : Int32) : entryFrame m #[xi p1, xi p2] maxLocals = (mkF m 0 #[vi p1, vi p2, vu, vu, vu, vu, vu, vu, vu] []) := by first | (simp [entryFrame, mkF, argsToLocals, Value.category, maxLocals]; done) | rfl
set_option maxRecDepth 65536 in
set_option maxHeartbeats 40000000 in
theorem own_l1 (l : Launch) (Z : State) (a0 : Array Value) (hw : ∀ d ∈ tables_1, d.before a0 Z = true) (u0 u1 u2 : Addr) (G : own_St Z u0 u1 u2) (p1 : Int32) (p2 : Int32) (as0 : (p1 &&& (3 : Int32)) = (0 : Int32)) (as5 : ((p2 &&& (2147483647 : Int32)) - ((p2 &&& (2147483647 : Int32)) / (3 : Int32)) * (3 : Int32)) = (1 : Int32)) (h0 : Heap) (n0 : Nat) (O0 : Old Z n0 h0) : own_Met l Z x code maxLocals ret room_1 #[xi p1, xi p2] h0 (own_QL (some (xi (1 : Int32))) n0) := by
  intro ws
  refine MetFree.of_bodySF (plainFor_of_name pn2) hisR ?_
  intro p e s m args below meth c s₁ Bd hml0 hP hK
  obtain ⟨rfl, hZ, hh⟩ := hP
  have hx := Bd.exec
  have hby := Bd.bytes
  have hml : c.maxLocals = 9 := hml0
  have hown : s.vm.findClass "com/example/tidemark/tidemark/ChangeComposedPinLaw" = some m.cls := findClass_of_methodNamed Bd.named
  have hnm := (name_of_methodNamed Bd.named Bd.method).1
  have X0 : Stand p l e room_1 s m #[xi p1, xi p2] below meth c s₁ [] 0 0 := Stand.of_body Bd
  have e0 : s₁.heap = h0 := by rw [← hh, Bd.state]; rfl
  have N0 := Fr.nil n0
  have pre0 : ∀ t, Steps p.tables e below (s₁.setTop (mkF m 0 #[vi p1, vi p2, vu, vu, vu, vu, vu, vu, vu] [])) t → Steps p.tables e below (s₁.setTop (entryFrame m #[xi p1, xi p2] maxLocals)) t := fun t st => castTop (ef_own_l1 m u0 u1 u2 p1 p2) st
  obtain ⟨T1, h1, k1, X1, e1, E1, A1, Ov1, st1⟩ := newR X0 hx hZ hown (ww hw 0 rfl) (ww hw 1 rfl) e0 (g := (mkF m 1 #[vi p1, vi p2, vu, vu, vu, vu, vu, vu, vu] [xi (3 : Int32)])) rfl (hb hby at_1) rfl (by decide) (cap := 3) (by decide) (by decide) (by decide) (by decide)
  obtain ⟨b1, g1⟩ : ∃ z, z = h0.size := ⟨_, rfl⟩
  rw [← g1] at A1 st1
  have g_b1 : n0 ≤ b1 := own_fresh O0 g1
  have O1 : Old Z n0 h1 := O0.ext E1
  have V_b1 : Arv Z h1 b1 k1 (.object "com/example/tidemark/tidemark/Change") (3 : Int32) [.null, .null, .null] .null := (Arv.new A1 (by decide)).pad (pad_rep [] .null 3)
  obtain ⟨T2, X2, e2, st2⟩ := getS2 X1 hx hZ hown (host := "") (Or.inl (ww hw 2 rfl)) Via.refl e1 ((own_S_u0 G).ext O1.2) (g := (mkF m 6 #[vi p1, vi p2, vu, vu, vu, vu, vu, vu, vu] [xi (0 : Int32), xr b1, xr b1])) rfl (hb hby at_6)
  obtain ⟨cl3, Ar3, q3, S3, N3_, H3, G3⟩ := id V_b1
  have hin3 : ¬ ((0 : Int32) < 0 ∨ cl3.slots.size ≤ ((0 : Int32)).toNatClampNeg) := inb_of S3 ⟨by decide, by decide⟩
  obtain ⟨T4, h4, X4, e4, W4, st4⟩ := stR X2 hx hZ e2 Ar3 (j := (0 : Int32)) hin3 rfl (Sto.ofV Ar3 q3 Ov1 (Ins.self ((own_X_u0 G).ext O1.2))) (g := (mkF m 9 #[vi p1, vi p2, vu, vu, vu, vu, vu, vu, vu] [xr u0, xi (0 : Int32), xr b1, xr b1])) rfl rfl (hb hby at_9)
  have V_b1_4 : Arv Z h4 b1 k1 (.object "com/example/tidemark/tidemark/Change") (3 : Int32) [xr u0, .null, .null] .null := Arv.set Ar3 q3 S3 N3_ H3 G3 rfl W4 0 rfl (Nat.le_of_ble_eq_true rfl)
  have O4 : Old Z n0 h4 := O1.wr W4 g_b1
  have N4 := Fr.snoc X4 N0 g_b1
  obtain ⟨T5, X5, e5, st5⟩ := getS2 X4 hx hZ hown (host := "") (Or.inl (ww hw 6 rfl)) Via.refl e4 ((own_S_u1 G).ext O4.2) (g := (mkF m 12 #[vi p1, vi p2, vu, vu, vu, vu, vu, vu, vu] [xi (1 : Int32), xr b1, xr b1])) rfl (hb hby at_12)
  obtain ⟨cl6, Ar6, q6, S6, N6_, H6, G6⟩ := id V_b1_4
  have hin6 : ¬ ((1 : Int32) < 0 ∨ cl6.slots.size ≤ ((1 : Int32)).toNatClampNeg) := inb_of S6 ⟨by decide, by decide⟩
  obtain ⟨T7, h7, X7, e7, W7, st7⟩ := stR X5 hx hZ e5 Ar6 (j := (1 : Int32)) hin6 rfl (Sto.ofV Ar6 q6 Ov1 (Ins.self ((own_X_u1 G).ext O4.2))) (g := (mkF m 15 #[vi p1, vi p2, vu, vu, vu, vu, vu, vu, vu] [xr u1, xi (1 : Int32), xr b1, xr b1])) rfl rfl (hb hby at_15)
  have V_b1_7 : Arv Z h7 b1 k1 (.object "com/example/tidemark/tidemark/Change") (3 : Int32) [xr u0, xr u1, .null] .null := Arv.set Ar6 q6 S6 N6_ H6 G6 rfl W7 1 rfl (Nat.le_of_ble_eq_true rfl)
  have O7 : Old Z n0 h7 := O4.wr W7 g_b1
  have N7 := Fr.snoc X7 N4 g_b1
  obtain ⟨T8, X8, e8, st8⟩ := getS2 X7 hx hZ hown (host := "") (Or.inl (ww hw 8 rfl)) Via.refl e7 ((own_S_u2 G).ext O7.2) (g := (mkF m 18 #[vi p1, vi p2, vu, vu, vu, vu, vu, vu, vu] [xi (2 : Int32), xr b1, xr b1])) rfl (hb hby at_18)
  obtain ⟨cl9, Ar9, q9, S9, N9_, H9, G9⟩ := id V_b1_7
  have hin9 : ¬ ((2 : Int32) < 0 ∨ cl9.slots.size ≤ ((2 : Int32)).toNatClampNeg) := inb_of S9 ⟨by decide, by decide⟩
  obtain ⟨T10, h10, X10, e10, W10, st10⟩ := stR X8 hx hZ e8 Ar9 (j := (2 : Int32)) hin9 rfl (Sto.ofV Ar9 q9 Ov1 (Ins.self ((own_X_u2 G).ext O7.2))) (g := (mkF m 21 #[vi p1, vi p2, vu, vu, vu, vu, vu, vu, vu] [xr u2, xi (2 : Int32), xr b1, xr b1])) rfl rfl (hb hby at_21)
  have V_b1_10 : Arv Z h10 b1 k1 (.object "com/example/tidemark/tidemark/Change") (3 : Int32) [xr u0, xr u1, xr u2] .null := Arv.set Ar9 q9 S9 N9_ H9 G9 rfl W10 2 rfl (Nat.le_of_ble_eq_true rfl)
  have O10 : Old Z n0 h10 := O7.wr W10 g_b1
  have N10 := Fr.snoc X10 N7 g_b1
  obtain ⟨cl11, Ar11, q11, S11, N11_, H11, G11⟩ := id V_b1_10
  have hin11 : ¬ ((0 : Int32) < 0 ∨ cl11.slots.size ≤ ((0 : Int32)).toNatClampNeg) := inb_of S11 ⟨by decide, by decide⟩
  have hat11 : cl11.slots[((0 : Int32)).toNatClampNeg]? = some (xr u0) := Has.at H11 hin11 rfl
  obtain ⟨cl12, Ar12, q12, S12, N12_, H12, G12⟩ := id V_b1_10
  have hin12 : ¬ ((1 : Int32) < 0 ∨ cl12.slots.size ≤ ((1 : Int32)).toNatClampNeg) := inb_of S12 ⟨by decide, by decide⟩
  have hat12 : cl12.slots[((1 : Int32)).toNatClampNeg]? = some (xr u1) := Has.at H12 hin12 rfl
  obtain ⟨_, _, ⟨T13, L13, k13, n13⟩, -, X13, ⟨Lc13, hQ13, l13, y13, z13⟩, st13⟩ := Jvm.LawKit.callS X10 hx (y := Y0) hown (mvT hZ (ww hw 11 rfl)) (mvT hZ (ww hw 12 rfl)) (mvT hZ (ww hw 3 rfl)) (mvT hZ (ww hw 13 rfl)) (by decide) (backOf (W := 0) (own_c6_composed l Z a0 hw u0 u1 u2 G h10 n0 O10 []) hZ (ww hw 13 rfl) (ww hw 3 rfl) (by decide) (by decide)) (g := (mkF m 55 #[vi p1, vi p2, vr b1, vi (0 : Int32), vr u0, vr u1, vu, vu, vu] [xr u1, xr u0])) rfl (by rw [hml]; rfl) (argsL := [xr u0, xr u1]) (rest := []) (lenOf pd0 rfl) rfl (by show 2 * 0 + _ ≤ _; exact Nat.le_of_eq rfl) (hb hby at_55) (fun _ _ => ⟨rfl, e10, (by decide : 1 + 0 ≤ _), (by decide : 3 + 0 ≤ _)⟩)
  dsimp only [Pt.U, Pt.locs, Pt.cells, Pt.slots] at X13 l13 y13 z13 st13 hQ13
  subst l13 y13 z13
  obtain ⟨rfl, Nq13, e13⟩ := hQ13
  have N13 := Fr.app N10 Nq13
  obtain ⟨_, _, ⟨T14, L14, k14, n14⟩, -, X14, ⟨Lc14, hQ14, l14, y14, z14⟩, st14⟩ := Jvm.LawKit.callS X13 hx (y := Y4) hown (mvT hZ (ww hw 15 rfl)) (mvT hZ (ww hw 16 rfl)) (mvT hZ (ww hw 17 rfl)) (mvT hZ (ww hw 18 rfl)) (by decide) (backOf (W := 0) (own_c7_apply l Z a0 hw u0 u1 u2 G h10 n0 O10 []) hZ (ww hw 18 rfl) (ww hw 17 rfl) (by decide) (by decide)) (g := (mkF m 63 #[vi p1, vi p2, vr b1, vi (0 : Int32), vr u0, vr u1, vr u1, vu, vu] [xi (0 : Int32), xr u1])) rfl (by rw [hml]; rfl) (argsL := [xr u1, xi (0 : Int32)]) (rest := []) (lenOf pd3 rfl) rfl (by show 2 * 0 + _ ≤ _; exact Nat.le_of_eq rfl) (hb hby at_63) (fun _ _ => ⟨rfl, e13, (by decide : 1 + 0 ≤ _), (by decide : 3 + 0 ≤ _)⟩)
  dsimp only [Pt.U, Pt.locs, Pt.cells, Pt.slots] at X14 l14 y14 z14 st14 hQ14
  subst l14 y14 z14
  obtain ⟨rfl, Nq14, e14⟩ := hQ14
  have N14 := Fr.app N13 Nq14
  obtain ⟨_, _, ⟨T15, L15, k15, n15⟩, -, X15, ⟨Lc15, hQ15, l15, y15, z15⟩, st15⟩ := Jvm.LawKit.callS X14 hx (y := Y4) hown (mvT hZ (ww hw 15 rfl)) (mvT hZ (ww hw 16 rfl)) (mvT hZ (ww hw 17 rfl)) (mvT hZ (ww hw 18 rfl)) (by decide) (backOf (W := 2) (own_c1_apply l Z a0 hw u0 u1 u2 G h10 n0 O10 []) hZ (ww hw 18 rfl) (ww hw 17 rfl) (by decide) (by decide)) (g := (mkF m 71 #[vi p1, vi p2, vr b1, vi (0 : Int32), vr u0, vr u1, vr u1, vu, vu] [xi (0 : Int32), xr u0, xr u1, xi (0 : Int32)])) rfl (by rw [hml]; rfl) (argsL := [xr u0, xi (0 : Int32)]) (rest := [xr u1, xi (0 : Int32)]) (lenOf pd3 rfl) rfl (by show 2 * 0 + _ ≤ _; exact Nat.le_of_eq rfl) (hb hby at_71) (fun _ _ => ⟨rfl, e14, (by decide : 1 + 0 ≤ _), (by decide : 3 + 0 ≤ _)⟩)
  dsimp only [Pt.U, Pt.locs, Pt.cells, Pt.slots] at X15 l15 y15 z15 st15 hQ15
  subst l15 y15 z15
  obtain ⟨rfl, Nq15, e15⟩ := hQ15
  have N15 := Fr.app N14 Nq15
  obtain ⟨_, _, ⟨T16, L16, k16, n16⟩, -, X16, ⟨Lc16, hQ16, l16, y16, z16⟩, st16⟩ := Jvm.LawKit.callS X15 hx (y := Y4) hown (mvT hZ (ww hw 15 rfl)) (mvT hZ (ww hw 16 rfl)) (mvT hZ (ww hw 17 rfl)) (mvT hZ (ww hw 18 rfl)) (by decide) (backOf (W := 1) (own_c10_apply l Z a0 hw u0 u1 u2 G h10 n0 O10 []) hZ (ww hw 18 rfl) (ww hw 17 rfl) (by decide) (by decide)) (g := (mkF m 74 #[vi p1, vi p2, vr b1, vi (0 : Int32), vr u0, vr u1, vr u1, vu, vu] [xi (1 : Int32), xr u1, xi (0 : Int32)])) rfl (by rw [hml]; rfl) (argsL := [xr u1, xi (1 : Int32)]) (rest := [xi (0 : Int32)]) (lenOf pd3 rfl) rfl (by show 2 * 0 + _ ≤ _; exact Nat.le_of_eq rfl) (hb hby at_74) (fun _ _ => ⟨rfl, e15, (by decide : 1 + 0 ≤ _), (by decide : 3 + 0 ≤ _)⟩)
  dsimp only [Pt.U, Pt.locs, Pt.cells, Pt.slots] at X16 l16 y16 z16 st16 hQ16
  subst l16 y16 z16
  obtain ⟨rfl, Nq16, e16⟩ := hQ16
  have N16 := Fr.app N15 Nq16
  obtain ⟨_, _, ⟨T17, L17, k17, n17⟩, -, X17, ⟨Lc17, hQ17, l17, y17, z17⟩, st17⟩ := Jvm.LawKit.callS X16 hx (y := Y4) hown (mvT hZ (ww hw 15 rfl)) (mvT hZ (ww hw 16 rfl)) (mvT hZ (ww hw 17 rfl)) (mvT hZ (ww hw 18 rfl)) (by decide) (backOf (W := 0) (own_c10_apply l Z a0 hw u0 u1 u2 G h10 n0 O10 []) hZ (ww hw 18 rfl) (ww hw 17 rfl) (by decide) (by decide)) (g := (mkF m 90 #[vi p1, vi p2, vr b1, vi (0 : Int32), vr u0, vr u1, vr u1, vi (1 : Int32), vu] [xi (1 : Int32), xr u1])) rfl (by rw [hml]; rfl) (argsL := [xr u1, xi (1 : Int32)]) (rest := []) (lenOf pd3 rfl) rfl (by show 2 * 0 + _ ≤ _; exact Nat.le_of_eq rfl) (hb hby at_90) (fun _ _ => ⟨rfl, e16, (by decide : 1 + 0 ≤ _), (by decide : 3 + 0 ≤ _)⟩)
  dsimp only [Pt.U, Pt.locs, Pt.cells, Pt.slots] at X17 l17 y17 z17 st17 hQ17
  subst l17 y17 z17
  obtain ⟨rfl, Nq17, e17⟩ := hQ17
  have N17 := Fr.app N16 Nq17
  obtain ⟨_, _, ⟨T18, L18, k18, n18⟩, -, X18, ⟨Lc18, hQ18, l18, y18, z18⟩, st18⟩ := Jvm.LawKit.callS X17 hx (y := Y4) hown (mvT hZ (ww hw 15 rfl)) (mvT hZ (ww hw 16 rfl)) (mvT hZ (ww hw 17 rfl)) (mvT hZ (ww hw 18 rfl)) (by decide) (backOf (W := 2) (own_c4_apply l Z a0 hw u0 u1 u2 G h10 n0 O10 []) hZ (ww hw 18 rfl) (ww hw 17 rfl) (by decide) (by decide)) (g := (mkF m 98 #[vi p1, vi p2, vr b1, vi (0 : Int32), vr u0, vr u1, vr u1, vi (1 : Int32), vu] [xi (1 : Int32), xr u0, xr u1, xi (0 : Int32)])) rfl (by rw [hml]; rfl) (argsL := [xr u0, xi (1 : Int32)]) (rest := [xr u1, xi (0 : Int32)]) (lenOf pd3 rfl) rfl (by show 2 * 0 + _ ≤ _; exact Nat.le_of_eq rfl) (hb hby at_98) (fun _ _ => ⟨rfl, e17, (by decide : 1 + 0 ≤ _), (by decide : 3 + 0 ≤ _)⟩)
  dsimp only [Pt.U, Pt.locs, Pt.cells, Pt.slots] at X18 l18 y18 z18 st18 hQ18
  subst l18 y18 z18
  obtain ⟨rfl, Nq18, e18⟩ := hQ18
  have N18 := Fr.app N17 Nq18
  obtain ⟨_, _, ⟨T19, L19, k19, n19⟩, -, X19, ⟨Lc19, hQ19, l19, y19, z19⟩, st19⟩ := Jvm.LawKit.callS X18 hx (y := Y4) hown (mvT hZ (ww hw 15 rfl)) (mvT hZ (ww hw 16 rfl)) (mvT hZ (ww hw 17 rfl)) (mvT hZ (ww hw 18 rfl)) (by decide) (backOf (W := 1) (own_c10_apply l Z a0 hw u0 u1 u2 G h10 n0 O10 []) hZ (ww hw 18 rfl) (ww hw 17 rfl) (by decide) (by decide)) (g := (mkF m 101 #[vi p1, vi p2, vr b1, vi (0 : Int32), vr u0, vr u1, vr u1, vi (1 : Int32), vu] [xi (1 : Int32), xr u1, xi (0 : Int32)])) rfl (by rw [hml]; rfl) (argsL := [xr u1, xi (1 : Int32)]) (rest := [xi (0 : Int32)]) (lenOf pd3 rfl) rfl (by show 2 * 0 + _ ≤ _; exact Nat.le_of_eq rfl) (hb hby at_101) (fun _ _ => ⟨rfl, e18, (by decide : 1 + 0 ≤ _), (by decide : 3 + 0 ≤ _)⟩)
  dsimp only [Pt.U, Pt.locs, Pt.cells, Pt.slots] at X19 l19 y19 z19 st19 hQ19
  subst l19 y19 z19
  obtain ⟨rfl, Nq19, e19⟩ := hQ19
  have N19 := Fr.app N18 Nq19
  obtain ⟨fs, hr, hrun, hended, hW, hsame⟩ := X19.leave (v := some (xi (1 : Int32))) (fun h => by rw [Bd.returns] at h; cases h)
  refine ⟨_, _, pre0 _ ?_, hrun, hended, _, _, rfl, ?_, ⟨_, rfl⟩, hW, hsame.mono (by decide) (by decide)⟩
  · show own_S p e below s₁ (mkF m 0 #[vi p1, vi p2, vu, vu, vu, vu, vu, vu, vu] []) _
    refine XS.iconst X0.here hx rfl (hb hby at_0) ?_
    show own_S p e below s₁ (mkF m 1 #[vi p1, vi p2, vu, vu, vu, vu, vu, vu, vu] [xi (3 : Int32)]) _
    refine st1 _ ?_
    show own_S p e below T1 (mkF m 4 #[vi p1, vi p2, vu, vu, vu, vu, vu, vu, vu] [xr b1]) _
    refine XS.dup X1.here hx rfl (hb hby at_4) rfl rfl ?_
    show own_S p e below T1 (mkF m 5 #[vi p1, vi p2, vu, vu, vu, vu, vu, vu, vu] [xr b1, xr b1]) _
    refine XS.iconst X1.here hx rfl (hb hby at_5) ?_
    show own_S p e below T1 (mkF m 6 #[vi p1, vi p2, vu, vu, vu, vu, vu, vu, vu] [xi (0 : Int32), xr b1, xr b1]) _
    refine st2 _ ?_
    show own_S p e below T2 (mkF m 9 #[vi p1, vi p2, vu, vu, vu, vu, vu, vu, vu] [xr u0, xi (0 : Int32), xr b1, xr b1]) _
    refine st4 _ ?_
    show own_S p e below T4 (mkF m 10 #[vi p1, vi p2, vu, vu, vu, vu, vu, vu, vu] [xr b1]) _
    refine XS.dup X4.here hx rfl (hb hby at_10) rfl rfl ?_
    show own_S p e below T4 (mkF m 11 #[vi p1, vi p2, vu, vu, vu, vu, vu, vu, vu] [xr b1, xr b1]) _
    refine XS.iconst X4.here hx rfl (hb hby at_11) ?_
    show own_S p e below T4 (mkF m 12 #[vi p1, vi p2, vu, vu, vu, vu, vu, vu, vu] [xi (1 : Int32), xr b1, xr b1]) _
    refine st5 _ ?_
    show own_S p e below T5 (mkF m 15 #[vi p1, vi p2, vu, vu, vu, vu, vu, vu, vu] [xr u1, xi (1 : Int32), xr b1, xr b1]) _
    refine st7 _ ?_
    show own_S p e below T7 (mkF m 16 #[vi p1, vi p2, vu, vu, vu, vu, vu, vu, vu] [xr b1]) _
    refine XS.dup X7.here hx rfl (hb hby at_16) rfl rfl ?_
    show own_S p e below T7 (mkF m 17 #[vi p1, vi p2, vu, vu, vu, vu, vu, vu, vu] [xr b1, xr b1]) _
    refine XS.iconst X7.here hx rfl (hb hby at_17) ?_
    show own_S p e below T7 (mkF m 18 #[vi p1, vi p2, vu, vu, vu, vu, vu, vu, vu] [xi (2 : Int32), xr b1, xr b1]) _
    refine st8 _ ?_
    show own_S p e below T8 (mkF m 21 #[vi p1, vi p2, vu, vu, vu, vu, vu, vu, vu] [xr u2, xi (2 : Int32), xr b1, xr b1]) _
    refine st10 _ ?_
    show own_S p e below T10 (mkF m 22 #[vi p1, vi p2, vu, vu, vu, vu, vu, vu, vu] [xr b1]) _
    refine XS.astoreN X10.here hx rfl (hb hby at_22) rfl rfl (l' := #[vi p1, vi p2, vr b1, vu, vu, vu, vu, vu, vu]) rfl ?_
    show own_S p e below T10 (mkF m 23 #[vi p1, vi p2, vr b1, vu, vu, vu, vu, vu, vu] []) _
    refine XS.iloadN X10.here hx rfl (hb hby at_23) rfl ?_
    show own_S p e below T10 (mkF m 24 #[vi p1, vi p2, vr b1, vu, vu, vu, vu, vu, vu] [xi p1]) _
    refine XS.iconst X10.here hx rfl (hb hby at_24) ?_
    show own_S p e below T10 (mkF m 25 #[vi p1, vi p2, vr b1, vu, vu, vu, vu, vu, vu] [xi (3 : Int32), xi p1]) _
    refine XS.iand X10.here hx rfl (hb hby at_25) rfl ?_
    show own_S p e below T10 (mkF m 26 #[vi p1, vi p2, vr b1, vu, vu, vu, vu, vu, vu] [xi (p1 &&& (3 : Int32))]) _
    refine castTop (show (mkF m 26 #[vi p1, vi p2, vr b1, vu, vu, vu, vu, vu, vu] [xi (p1 &&& (3 : Int32))]) = (mkF m 26 #[vi p1, vi p2, vr b1, vu, vu, vu, vu, vu, vu] [xi (0 : Int32)]) from by rw [as0]) ?_
    show own_S p e below T10 (mkF m 26 #[vi p1, vi p2, vr b1, vu, vu, vu, vu, vu, vu] [xi (0 : Int32)]) _
    refine XS.istoreN X10.here hx rfl (hb hby at_26) rfl (l' := #[vi p1, vi p2, vr b1, vi (0 : Int32), vu, vu, vu, vu, vu]) rfl ?_
    show own_S p e below T10 (mkF m 27 #[vi p1, vi p2, vr b1, vi (0 : Int32), vu, vu, vu, vu, vu] []) _
    refine XS.iloadN X10.here hx rfl (hb hby at_27) rfl ?_
    show own_S p e below T10 (mkF m 28 #[vi p1, vi p2, vr b1, vi (0 : Int32), vu, vu, vu, vu, vu] [xi (0 : Int32)]) _
    refine XS.iconst X10.here hx rfl (hb hby at_28) ?_
    show own_S p e below T10 (mkF m 29 #[vi p1, vi p2, vr b1, vi (0 : Int32), vu, vu, vu, vu, vu] [xi (3 : Int32), xi (0 : Int32)]) _
    refine XS.icmpYes X10.here hx rfl (pc0 := 29) (pc' := 36) rfl (hb hby at_29) rfl (by decide) (by decide) (by decide) ?_
    show own_S p e below T10 (mkF m 36 #[vi p1, vi p2, vr b1, vi (0 : Int32), vu, vu, vu, vu, vu] []) _
    refine XS.aloadN X10.here hx rfl (hb hby at_36) rfl rfl ?_
    show own_S p e below T10 (mkF m 37 #[vi p1, vi p2, vr b1, vi (0 : Int32), vu, vu, vu, vu, vu] [xr b1]) _
    refine XS.iloadN X10.here hx rfl (hb hby at_37) rfl ?_
    show own_S p e below T10 (mkF m 38 #[vi p1, vi p2, vr b1, vi (0 : Int32), vu, vu, vu, vu, vu] [xi (0 : Int32), xr b1]) _
    refine X10.aaload hx (j := (0 : Int32)) (v := (xr u0)) (by rw [e10]; exact Ar11.1) (State.isArrayOf_alike hZ.alike Ar11.2.1) rfl Ar11.2.2 hin11 hat11 (g := (mkF m 38 #[vi p1, vi p2, vr b1, vi (0 : Int32), vu, vu, vu, vu, vu] [xi (0 : Int32), xr b1])) rfl rfl (hb hby at_38) _ ?_
    show own_S p e below T10 (mkF m 39 #[vi p1, vi p2, vr b1, vi (0 : Int32), vu, vu, vu, vu, vu] [xr u0]) _
    refine XS.astore X10.here hx rfl (hb hby at_39) rfl rfl (l' := #[vi p1, vi p2, vr b1, vi (0 : Int32), vr u0, vu, vu, vu, vu]) rfl ?_
    show own_S p e below T10 (mkF m 41 #[vi p1, vi p2, vr b1, vi (0 : Int32), vr u0, vu, vu, vu, vu] []) _
    refine XS.aloadN X10.here hx rfl (hb hby at_41) rfl rfl ?_
    show own_S p e below T10 (mkF m 42 #[vi p1, vi p2, vr b1, vi (0 : Int32), vr u0, vu, vu, vu, vu] [xr b1]) _
    refine XS.iloadN X10.here hx rfl (hb hby at_42) rfl ?_
    show own_S p e below T10 (mkF m 43 #[vi p1, vi p2, vr b1, vi (0 : Int32), vr u0, vu, vu, vu, vu] [xi p2, xr b1]) _
    refine X10.ldcI hx hown (mvT hZ (ww hw 10 rfl)) (g := (mkF m 43 #[vi p1, vi p2, vr b1, vi (0 : Int32), vr u0, vu, vu, vu, vu] [xi p2, xr b1])) rfl (hb hby at_43) ?_
    show own_S p e below T10 (mkF m 45 #[vi p1, vi p2, vr b1, vi (0 : Int32), vr u0, vu, vu, vu, vu] [xi (2147483647 : Int32), xi p2, xr b1]) _
    refine XS.iand X10.here hx rfl (hb hby at_45) rfl ?_
    show own_S p e below T10 (mkF m 46 #[vi p1, vi p2, vr b1, vi (0 : Int32), vr u0, vu, vu, vu, vu] [xi (p2 &&& (2147483647 : Int32)), xr b1]) _
    show own_S p e below T10 (mkF m 46 #[vi p1, vi p2, vr b1, vi (0 : Int32), vr u0, vu, vu, vu, vu] [xi (p2 &&& (2147483647 : Int32)), xr b1]) _
    refine XS.iconst X10.here hx rfl (hb hby at_46) ?_
    show own_S p e below T10 (mkF m 47 #[vi p1, vi p2, vr b1, vi (0 : Int32), vr u0, vu, vu, vu, vu] [xi (3 : Int32), xi (p2 &&& (2147483647 : Int32)), xr b1]) _
    refine XS.irem X10.here hx rfl (hb hby at_47) rfl (by decide) ?_
    show own_S p e below T10 (mkF m 48 #[vi p1, vi p2, vr b1, vi (0 : Int32), vr u0, vu, vu, vu, vu] [xi ((p2 &&& (2147483647 : Int32)) - ((p2 &&& (2147483647 : Int32)) / (3 : Int32)) * (3 : Int32)), xr b1]) _
    refine castTop (show (mkF m 48 #[vi p1, vi p2, vr b1, vi (0 : Int32), vr u0, vu, vu, vu, vu] [xi ((p2 &&& (2147483647 : Int32)) - ((p2 &&& (2147483647 : Int32)) / (3 : Int32)) * (3 : Int32)), xr b1]) = (mkF m 48 #[vi p1, vi p2, vr b1, vi (0 : Int32), vr u0, vu, vu, vu, vu] [xi (1 : Int32), xr b1]) from by rw [as5]) ?_
    show own_S p e below T10 (mkF m 48 #[vi p1, vi p2, vr b1, vi (0 : Int32), vr u0, vu, vu, vu, vu] [xi (1 : Int32), xr b1]) _
    refine X10.aaload hx (j := (1 : Int32)) (v := (xr u1)) (by rw [e10]; exact Ar12.1) (State.isArrayOf_alike hZ.alike Ar12.2.1) rfl Ar12.2.2 hin12 hat12 (g := (mkF m 48 #[vi p1, vi p2, vr b1, vi (0 : Int32), vr u0, vu, vu, vu, vu] [xi (1 : Int32), xr b1])) rfl rfl (hb hby at_48) _ ?_
    show own_S p e below T10 (mkF m 49 #[vi p1, vi p2, vr b1, vi (0 : Int32), vr u0, vu, vu, vu, vu] [xr u1]) _
    refine XS.astore X10.here hx rfl (hb hby at_49) rfl rfl (l' := #[vi p1, vi p2, vr b1, vi (0 : Int32), vr u0, vr u1, vu, vu, vu]) rfl ?_
    show own_S p e below T10 (mkF m 51 #[vi p1, vi p2, vr b1, vi (0 : Int32), vr u0, vr u1, vu, vu, vu] []) _
    refine XS.aload X10.here hx rfl (hb hby at_51) rfl rfl ?_
    show own_S p e below T10 (mkF m 53 #[vi p1, vi p2, vr b1, vi (0 : Int32), vr u0, vr u1, vu, vu, vu] [xr u0]) _
    refine XS.aload X10.here hx rfl (hb hby at_53) rfl rfl ?_
    show own_S p e below T10 (mkF m 55 #[vi p1, vi p2, vr b1, vi (0 : Int32), vr u0, vr u1, vu, vu, vu] [xr u1, xr u0]) _
    refine st13 _ ?_
    show own_S p e below T13 (mkF m 58 #[vi p1, vi p2, vr b1, vi (0 : Int32), vr u0, vr u1, vu, vu, vu] [xr u1]) _
    refine XS.astore X13.here hx rfl (hb hby at_58) rfl rfl (l' := #[vi p1, vi p2, vr b1, vi (0 : Int32), vr u0, vr u1, vr u1, vu, vu]) rfl ?_
    show own_S p e below T13 (mkF m 60 #[vi p1, vi p2, vr b1, vi (0 : Int32), vr u0, vr u1, vr u1, vu, vu] []) _
    refine XS.aload X13.here hx rfl (hb hby at_60) rfl rfl ?_
    show own_S p e below T13 (mkF m 62 #[vi p1, vi p2, vr b1, vi (0 : Int32), vr u0, vr u1, vr u1, vu, vu] [xr u1]) _
    refine XS.iconst X13.here hx rfl (hb hby at_62) ?_
    show own_S p e below T13 (mkF m 63 #[vi p1, vi p2, vr b1, vi (0 : Int32), vr u0, vr u1, vr u1, vu, vu] [xi (0 : Int32), xr u1]) _
    refine st14 _ ?_
    show own_S p e below T14 (mkF m 66 #[vi p1, vi p2, vr b1, vi (0 : Int32), vr u0, vr u1, vr u1, vu, vu] [xi (0 : Int32)]) _
    refine XS.aload X14.here hx rfl (hb hby at_66) rfl rfl ?_
    show own_S p e below T14 (mkF m 68 #[vi p1, vi p2, vr b1, vi (0 : Int32), vr u0, vr u1, vr u1, vu, vu] [xr u1, xi (0 : Int32)]) _
    refine XS.aload X14.here hx rfl (hb hby at_68) rfl rfl ?_
    show own_S p e below T14 (mkF m 70 #[vi p1, vi p2, vr b1, vi (0 : Int32), vr u0, vr u1, vr u1, vu, vu] [xr u0, xr u1, xi (0 : Int32)]) _
    refine XS.iconst X14.here hx rfl (hb hby at_70) ?_
    show own_S p e below T14 (mkF m 71 #[vi p1, vi p2, vr b1, vi (0 : Int32), vr u0, vr u1, vr u1, vu, vu] [xi (0 : Int32), xr u0, xr u1, xi (0 : Int32)]) _
    refine st15 _ ?_
    show own_S p e below T15 (mkF m 74 #[vi p1, vi p2, vr b1, vi (0 : Int32), vr u0, vr u1, vr u1, vu, vu] [xi (1 : Int32), xr u1, xi (0 : Int32)]) _
    refine st16 _ ?_
    show own_S p e below T16 (mkF m 77 #[vi p1, vi p2, vr b1, vi (0 : Int32), vr u0, vr u1, vr u1, vu, vu] [xi (0 : Int32), xi (0 : Int32)]) _
    refine XS.icmpNo X16.here hx rfl (hb hby at_77) rfl (by decide) ?_
    show own_S p e below T16 (mkF m 80 #[vi p1, vi p2, vr b1, vi (0 : Int32), vr u0, vr u1, vr u1, vu, vu] []) _
    refine XS.iconst X16.here hx rfl (hb hby at_80) ?_
    show own_S p e below T16 (mkF m 81 #[vi p1, vi p2, vr b1, vi (0 : Int32), vr u0, vr u1, vr u1, vu, vu] [xi (1 : Int32)]) _
    refine XS.goto X16.here hx rfl (pc0 := 81) (pc' := 85) rfl (hb hby at_81) (by decide) (by decide) ?_
    show own_S p e below T16 (mkF m 85 #[vi p1, vi p2, vr b1, vi (0 : Int32), vr u0, vr u1, vr u1, vu, vu] [xi (1 : Int32)]) _
    refine XS.istore X16.here hx rfl (hb hby at_85) rfl (l' := #[vi p1, vi p2, vr b1, vi (0 : Int32), vr u0, vr u1, vr u1, vi (1 : Int32), vu]) rfl ?_
    show own_S p e below T16 (mkF m 87 #[vi p1, vi p2, vr b1, vi (0 : Int32), vr u0, vr u1, vr u1, vi (1 : Int32), vu] []) _
    refine XS.aload X16.here hx rfl (hb hby at_87) rfl rfl ?_
    show own_S p e below T16 (mkF m 89 #[vi p1, vi p2, vr b1, vi (0 : Int32), vr u0, vr u1, vr u1, vi (1 : Int32), vu] [xr u1]) _
    refine XS.iconst X16.here hx rfl (hb hby at_89) ?_
    show own_S p e below T16 (mkF m 90 #[vi p1, vi p2, vr b1, vi (0 : Int32), vr u0, vr u1, vr u1, vi (1 : Int32), vu] [xi (1 : Int32), xr u1]) _
    refine st17 _ ?_
    show own_S p e below T17 (mkF m 93 #[vi p1, vi p2, vr b1, vi (0 : Int32), vr u0, vr u1, vr u1, vi (1 : Int32), vu] [xi (0 : Int32)]) _
    refine XS.aload X17.here hx rfl (hb hby at_93) rfl rfl ?_
    show own_S p e below T17 (mkF m 95 #[vi p1, vi p2, vr b1, vi (0 : Int32), vr u0, vr u1, vr u1, vi (1 : Int32), vu] [xr u1, xi (0 : Int32)]) _
    refine XS.aload X17.here hx rfl (hb hby at_95) rfl rfl ?_
    show own_S p e below T17 (mkF m 97 #[vi p1, vi p2, vr b1, vi (0 : Int32), vr u0, vr u1, vr u1, vi (1 : Int32), vu] [xr u0, xr u1, xi (0 : Int32)]) _
    refine XS.iconst X17.here hx rfl (hb hby at_97) ?_
    show own_S p e below T17 (mkF m 98 #[vi p1, vi p2, vr b1, vi (0 : Int32), vr u0, vr u1, vr u1, vi (1 : Int32), vu] [xi (1 : Int32), xr u0, xr u1, xi (0 : Int32)]) _
    refine st18 _ ?_
    show own_S p e below T18 (mkF m 101 #[vi p1, vi p2, vr b1, vi (0 : Int32), vr u0, vr u1, vr u1, vi (1 : Int32), vu] [xi (1 : Int32), xr u1, xi (0 : Int32)]) _
    refine st19 _ ?_
    show own_S p e below T19 (mkF m 104 #[vi p1, vi p2, vr b1, vi (0 : Int32), vr u0, vr u1, vr u1, vi (1 : Int32), vu] [xi (0 : Int32), xi (0 : Int32)]) _
    refine XS.icmpNo X19.here hx rfl (hb hby at_104) rfl (by decide) ?_
    show own_S p e below T19 (mkF m 107 #[vi p1, vi p2, vr b1, vi (0 : Int32), vr u0, vr u1, vr u1, vi (1 : Int32), vu] []) _
    refine XS.iconst X19.here hx rfl (hb hby at_107) ?_
    show own_S p e below T19 (mkF m 108 #[vi p1, vi p2, vr b1, vi (0 : Int32), vr u0, vr u1, vr u1, vi (1 : Int32), vu] [xi (1 : Int32)]) _
    refine XS.goto X19.here hx rfl (pc0 := 108) (pc' := 112) rfl (hb hby at_108) (by decide) (by decide) ?_
    show own_S p e below T19 (mkF m 112 #[vi p1, vi p2, vr b1, vi (0 : Int32), vr u0, vr u1, vr u1, vi (1 : Int32), vu] [xi (1 : Int32)]) _
    refine XS.istore X19.here hx rfl (hb hby at_112) rfl (l' := #[vi p1, vi p2, vr b1, vi (0 : Int32), vr u0, vr u1, vr u1, vi (1 : Int32), vi (1 : Int32)]) rfl ?_
    show own_S p e below T19 (mkF m 114 #[vi p1, vi p2, vr b1, vi (0 : Int32), vr u0, vr u1, vr u1, vi (1 : Int32), vi (1 : Int32)] []) _
    refine XS.iload X19.here hx rfl (hb hby at_114) rfl ?_
    show own_S p e below T19 (mkF m 116 #[vi p1, vi p2, vr b1, vi (0 : Int32), vr u0, vr u1, vr u1, vi (1 : Int32), vi (1 : Int32)] [xi (1 : Int32)]) _
    refine XS.ifNo X19.here hx rfl (hb hby at_116) rfl (by decide) ?_
    show own_S p e below T19 (mkF m 119 #[vi p1, vi p2, vr b1, vi (0 : Int32), vr u0, vr u1, vr u1, vi (1 : Int32), vi (1 : Int32)] []) _
    refine XS.iload X19.here hx rfl (hb hby at_119) rfl ?_
    show own_S p e below T19 (mkF m 121 #[vi p1, vi p2, vr b1, vi (0 : Int32), vr u0, vr u1, vr u1, vi (1 : Int32), vi (1 : Int32)] [xi (1 : Int32)]) _
    refine XS.ifNo X19.here hx rfl (hb hby at_121) rfl (by decide) ?_
    show own_S p e below T19 (mkF m 124 #[vi p1, vi p2, vr b1, vi (0 : Int32), vr u0, vr u1, vr u1, vi (1 : Int32), vi (1 : Int32)] []) _
    refine XS.iconst X19.here hx rfl (hb hby at_124) ?_
    show own_S p e below T19 (mkF m 125 #[vi p1, vi p2, vr b1, vi (0 : Int32), vr u0, vr u1, vr u1, vi (1 : Int32), vi (1 : Int32)] [xi (1 : Int32)]) _
    refine XS.goto X19.here hx rfl (pc0 := 125) (pc' := 129) rfl (hb hby at_125) (by decide) (by decide) ?_
    show own_S p e below T19 (mkF m 129 #[vi p1, vi p2, vr b1, vi (0 : Int32), vr u0, vr u1, vr u1, vi (1 : Int32), vi (1 : Int32)] [xi (1 : Int32)]) _
    exact retN X19 hx (t := .boolean) Bd.returns (by simp) (hb hby at_129) hr
  · exact ⟨rfl, N19⟩
theorem d1_9 : decode prog_1_method_7_code 9 = .ok (.aload_n 0, 1) := by decide +kernel
theorem d1_10 : decode prog_1_method_7_code 10 = .ok (.ifnull 58, 3) := by decide +kernel
theorem d1_13 : decode prog_1_method_7_code 13 = .ok (.aload_n 0, 1) := by decide +kernel
theorem d1_14 : decode prog_1_method_7_code 14 = .ok (.invokevirtual 55, 3) := by decide +kernel
theorem d1_17 : decode prog_1_method_7_code 17 = .ok (.tableswitch 27 0 2 #[37, 43, 49], 27) := by decide +kernel
theorem d1_54 : decode prog_1_method_7_code 54 = .ok (.getstatic 7, 3) := by decide +kernel
theorem d1_57 : decode prog_1_method_7_code 57 = .ok (.goto 10, 3) := by decide +kernel
theorem d1_67 : decode prog_1_method_7_code 67 = .ok (.astore_n 2, 1) := by decide +kernel
theorem ef_own_c12_composed (m : MethodId) (u0 u1 u2 : Addr) : entryFrame m #[xr u0, xr u2] 3 = (mkF m 0 #[vr u0, vr u2, vu] []) := by first | (simp [entryFrame, mkF, argsToLocals, Value.category]; done) | rfl
set_option maxRecDepth 65536 in
set_option maxHeartbeats 40000000 in
theorem own_c12_composed (l : Launch) (Z : State) (a0 : Array Value) (hw : ∀ d ∈ tables_1, d.before a0 Z = true) (u0 u1 u2 : Addr) (G : own_St Z u0 u1 u2) (h0 : Heap) (n0 : Nat) (O0 : Old Z n0 h0) : own_Met l Z Y0 prog_1_method_7_code 3 (some (.object "com/example/tidemark/tidemark/Change")) ({ frames := 1, cells := 0, slots := 0, locals := 12 } : Room) #[xr u0, xr u2] h0 (own_QR (some (xr u1)) h0 n0) := by
  intro ws
  refine MetFree.of_bodySF (plainFor_of_name pn0) hisR ?_
  intro p e s m args below meth c s₁ Bd hml0 hP hK
  obtain ⟨rfl, hZ, hh⟩ := hP
  have hx := Bd.exec
  have hby := Bd.bytes
  have hml : c.maxLocals = 3 := hml0
  have hown : s.vm.findClass "com/example/tidemark/tidemark/Change" = some m.cls := findClass_of_methodNamed Bd.named
  have hnm := (name_of_methodNamed Bd.named Bd.method).1
  have X0 : Stand p l e ({ frames := 1, cells := 0, slots := 0, locals := 12 } : Room) s m #[xr u0, xr u2] below meth c s₁ [] 0 0 := Stand.of_body Bd
  have e0 : s₁.heap = h0 := by rw [← hh, Bd.state]; rfl
  have N0 := Fr.nil n0
  have pre0 : ∀ t, Steps p.tables e below (s₁.setTop (mkF m 0 #[vr u0, vr u2, vu] [])) t → Steps p.tables e below (s₁.setTop (entryFrame m #[xr u0, xr u2] 3)) t := fun t st => castTop (ef_own_c12_composed m u0 u1 u2) st
  obtain ⟨T1, X1, e1, st1⟩ := getS2 X0 hx hZ hown (host := "") (Or.inl (ww hw 14 rfl)) Via.refl e0 ((own_S_u2 G).ext O0.2) (g := (mkF m 3 #[vr u0, vr u2, vr u2] [xr u2])) rfl (hb hby d1_3)
  obtain ⟨cq2, kq2, qa2, qb2, qc2⟩ := isOf hZ e1 ((own_X_u0 G).ext O0.2)
  obtain ⟨_, _, ⟨T2, L2, k2, n2⟩, -, X2, ⟨Lc2, hQ2, l2, y2, z2⟩, st2⟩ := X1.virtualBackUp hx (x := Y2) (y := Y1) hown (mvT hZ (ww hw 24 rfl)) (mvT hZ (ww hw 25 rfl)) (mvT hZ (ww hw 26 rfl)) (by decide) (mvT hZ (ww hw 28 rfl)) (mvT hZ (ww hw 27 rfl)) (backOf (W := 0) (own_c1_ordinal l Z a0 hw u0 u1 u2 G h0 n0 O0 []) hZ (ww hw 30 rfl) (ww hw 29 rfl) (by decide) (by decide)) qa2 qc2 (g := (mkF m 14 #[vr u0, vr u2, vr u2] [xr u0])) rfl (by rw [hml]; rfl) (Steps.refl _) (argsL := []) (rest := []) (lenOf pd1 rfl) rfl (by show 2 * 0 + _ ≤ _; exact Nat.le_of_eq rfl) (hb hby d1_14) (fun _ _ => ⟨rfl, e1, (by decide : 0 + 0 ≤ _), (by decide : 0 + 0 ≤ _)⟩)
  dsimp only [Pt.U, Pt.locs, Pt.cells, Pt.slots] at X2 l2 y2 z2 st2 hQ2
  subst l2 y2 z2
  obtain ⟨rfl, Nq2, e2⟩ := hQ2
  have N2 := Fr.app N0 Nq2
  obtain ⟨T3, X3, e3, st3⟩ := getS2 X2 hx hZ hown (host := "") (Or.inl (ww hw 33 rfl)) Via.refl e2 ((own_S_u1 G).ext O0.2) (g := (mkF m 54 #[vr u0, vr u2, vr u2] [])) rfl (hb hby d1_54)
  obtain ⟨fs, hr, hrun, hended, hW, hsame⟩ := X3.leave (v := some (xr u1)) (fun h => by rw [Bd.returns] at h; cases h)
  refine ⟨_, _, pre0 _ ?_, hrun, hended, _, _, rfl, ?_, ⟨_, rfl⟩, hW, hsame.mono (by decide) (by decide)⟩
  · show own_S p e below s₁ (mkF m 0 #[vr u0, vr u2, vu] []) _
    refine XS.aloadN X0.here hx rfl (hb hby d1_0) rfl rfl ?_
    show own_S p e below s₁ (mkF m 1 #[vr u0, vr u2, vu] [xr u2]) _
    refine XS.astoreN X0.here hx rfl (hb hby d1_1) rfl rfl (l' := #[vr u0, vr u2, vr u2]) rfl ?_
    show own_S p e below s₁ (mkF m 2 #[vr u0, vr u2, vr u2] []) _
    refine XS.aloadN X0.here hx rfl (hb hby d1_2) rfl rfl ?_
    show own_S p e below s₁ (mkF m 3 #[vr u0, vr u2, vr u2] [xr u2]) _
    refine st1 _ ?_
    show own_S p e below T1 (mkF m 6 #[vr u0, vr u2, vr u2] [xr u2, xr u2]) _
    refine Jvm.RoadKit.acmp (g := (mkF m 6 #[vr u0, vr u2, vr u2] [xr u2, xr u2])) X1 hx rfl rfl rfl (pc0 := 6) (pc' := 9) (same := true) rfl (hb hby d1_6) rfl (decide_eq_true rfl) (by decide) (by decide) ?_
    show own_S p e below T1 (mkF m 9 #[vr u0, vr u2, vr u2] []) _
    refine XS.aloadN X1.here hx rfl (hb hby d1_9) rfl rfl ?_
    show own_S p e below T1 (mkF m 10 #[vr u0, vr u2, vr u2] [xr u0]) _
    refine XS.ifnullNo X1.here hx rfl (hb hby d1_10) rfl ?_
    show own_S p e below T1 (mkF m 13 #[vr u0, vr u2, vr u2] []) _
    refine XS.aloadN X1.here hx rfl (hb hby d1_13) rfl rfl ?_
    show own_S p e below T1 (mkF m 14 #[vr u0, vr u2, vr u2] [xr u0]) _
    refine st2.trans ?_
    show own_S p e below T2 (mkF m 17 #[vr u0, vr u2, vr u2] [xi (0 : Int32)]) _
    refine XS.tswIn X2.here hx rfl (pc0 := 17) (pc' := 54) (o := 37) rfl (hb hby d1_17) rfl (by decide) (by decide) (by decide) (by decide) ?_
    show own_S p e below T2 (mkF m 54 #[vr u0, vr u2, vr u2] []) _
    refine st3 _ ?_
    show own_S p e below T3 (mkF m 57 #[vr u0, vr u2, vr u2] [xr u1]) _
    refine XS.goto X3.here hx rfl (pc0 := 57) (pc' := 67) rfl (hb hby d1_57) (by decide) (by decide) ?_
    show own_S p e below T3 (mkF m 67 #[vr u0, vr u2, vr u2] [xr u1]) _
    refine XS.astoreN X3.here hx rfl (hb hby d1_67) rfl rfl (l' := #[vr u0, vr u2, vr u1]) rfl ?_
    show own_S p e below T3 (mkF m 68 #[vr u0, vr u2, vr u1] []) _
    refine XS.aloadN X3.here hx rfl (hb hby d1_68) rfl rfl ?_
    show own_S p e below T3 (mkF m 69 #[vr u0, vr u2, vr u1] [xr u1]) _
    exact X3.areturnOut hx rfl Bd.returns rfl (hb hby d1_69) hr
  · exact ⟨rfl, N2, e3⟩
theorem ef_own_c13_ordinal (m : MethodId) (u0 u1 u2 : Addr) : entryFrame m #[xr u2] 1 = (mkF m 0 #[vr u2] []) := by first | (simp [entryFrame, mkF, argsToLocals, Value.category]; done) | rfl
set_option maxRecDepth 65536 in
set_option maxHeartbeats 40000000 in
theorem own_c13_ordinal (l : Launch) (Z : State) (a0 : Array Value) (hw : ∀ d ∈ tables_1, d.before a0 Z = true) (u0 u1 u2 : Addr) (G : own_St Z u0 u1 u2) (h0 : Heap) (n0 : Nat) (O0 : Old Z n0 h0) : own_Met l Z Y1 jdk_37_method_2_code 1 (some .int) ({ frames := 0, cells := 0, slots := 0, locals := 0 } : Room) #[xr u2] h0 (own_QR (some (xi (2 : Int32))) h0 n0) := by
  intro ws
  refine MetFree.of_bodySF (plainFor_of_name pn1) hisR ?_
  intro p e s m args below meth c s₁ Bd hml0 hP hK
  obtain ⟨rfl, hZ, hh⟩ := hP
  have hx := Bd.exec
  have hby := Bd.bytes
  have hml : c.maxLocals = 1 := hml0
  have hown : s.vm.findClass "java/lang/Enum" = some m.cls := findClass_of_methodNamed Bd.named
  have hnm := (name_of_methodNamed Bd.named Bd.method).1
  have X0 : Stand p l e ({ frames := 0, cells := 0, slots := 0, locals := 0 } : Room) s m #[xr u2] below meth c s₁ [] 0 0 := Stand.of_body Bd
  have e0 : s₁.heap = h0 := by rw [← hh, Bd.state]; rfl
  have N0 := Fr.nil n0
  have pre0 : ∀ t, Steps p.tables e below (s₁.setTop (mkF m 0 #[vr u2] [])) t → Steps p.tables e below (s₁.setTop (entryFrame m #[xr u2] 1)) t := fun t st => castTop (ef_own_c13_ordinal m u0 u1 u2) st
  obtain ⟨T1, X1, e1, st1⟩ := getF X0 hx hZ hown (host := "") (Or.inl (ww hw 31 rfl)) Via.refl e0 ((own_F_u2_ordinal G).ext O0.2) (g := (mkF m 1 #[vr u2] [xr u2])) rfl rfl (hb hby d4_1)
  obtain ⟨fs, hr, hrun, hended, hW, hsame⟩ := X1.leave (v := some (xi (2 : Int32))) (fun h => by rw [Bd.returns] at h; cases h)
  refine ⟨_, _, pre0 _ ?_, hrun, hended, _, _, rfl, ?_, ⟨_, rfl⟩, hW, hsame.mono (by decide) (by decide)⟩
  · show own_S p e below s₁ (mkF m 0 #[vr u2] []) _
    refine XS.aloadN X0.here hx rfl (hb hby d4_0) rfl rfl ?_
    show own_S p e below s₁ (mkF m 1 #[vr u2] [xr u2]) _
    refine st1 _ ?_
    show own_S p e below T1 (mkF m 4 #[vr u2] [xi (2 : Int32)]) _
    exact retI X1 hx Bd.returns (hb hby d4_4) hr
  · exact ⟨rfl, N0, e1⟩
theorem d3_50 : decode prog_1_method_6_code 50 = .ok (.iload_n 1, 1) := by decide +kernel
theorem d3_51 : decode prog_1_method_6_code 51 = .ok (.ifCond .ne 7, 3) := by decide +kernel
theorem d3_58 : decode prog_1_method_6_code 58 = .ok (.iconst 0, 1) := by decide +kernel
theorem ef_own_c13_applyTo (m : MethodId) (u0 u1 u2 : Addr) : entryFrame m #[xr u2, xi (1 : Int32)] 3 = (mkF m 0 #[vr u2, vi (1 : Int32), vu] []) := by first | (simp [entryFrame, mkF, argsToLocals, Value.category]; done) | rfl
set_option maxRecDepth 65536 in
set_option maxHeartbeats 40000000 in
theorem own_c13_applyTo (l : Launch) (Z : State) (a0 : Array Value) (hw : ∀ d ∈ tables_1, d.before a0 Z = true) (u0 u1 u2 : Addr) (G : own_St Z u0 u1 u2) (h0 : Heap) (n0 : Nat) (O0 : Old Z n0 h0) : own_Met l Z Y3 prog_1_method_6_code 3 (some .boolean) ({ frames := 1, cells := 0, slots := 0, locals := 12 } : Room) #[xr u2, xi (1 : Int32)] h0 (own_QR (some (xi (0 : Int32))) h0 n0) := by
  intro ws
  refine MetFree.of_bodySF (plainFor_of_name pn0) hisR ?_
  intro p e s m args below meth c s₁ Bd hml0 hP hK
  obtain ⟨rfl, hZ, hh⟩ := hP
  have hx := Bd.exec
  have hby := Bd.bytes
  have hml : c.maxLocals = 3 := hml0
  have hown : s.vm.findClass "com/example/tidemark/tidemark/Change" = some m.cls := findClass_of_methodNamed Bd.named
  have hnm := (name_of_methodNamed Bd.named Bd.method).1
  have X0 : Stand p l e ({ frames := 1, cells := 0, slots := 0, locals := 12 } : Room) s m #[xr u2, xi (1 : Int32)] below meth c s₁ [] 0 0 := Stand.of_body Bd
  have e0 : s₁.heap = h0 := by rw [← hh, Bd.state]; rfl
  have N0 := Fr.nil n0
  have pre0 : ∀ t, Steps p.tables e below (s₁.setTop (mkF m 0 #[vr u2, vi (1 : Int32), vu] [])) t → Steps p.tables e below (s₁.setTop (entryFrame m #[xr u2, xi (1 : Int32)] 3)) t := fun t st => castTop (ef_own_c13_applyTo m u0 u1 u2) st
  obtain ⟨cq1, kq1, qa1, qb1, qc1⟩ := isOf hZ e0 ((own_X_u2 G).ext O0.2)
  obtain ⟨_, _, ⟨T1, L1, k1, n1⟩, -, X1, ⟨Lc1, hQ1, l1, y1, z1⟩, st1⟩ := X0.virtualBackUp hx (x := Y2) (y := Y1) hown (mvT hZ (ww hw 24 rfl)) (mvT hZ (ww hw 25 rfl)) (mvT hZ (ww hw 26 rfl)) (by decide) (mvT hZ (ww hw 28 rfl)) (mvT hZ (ww hw 27 rfl)) (backOf (W := 0) (own_c13_ordinal l Z a0 hw u0 u1 u2 G h0 n0 O0 []) hZ (ww hw 30 rfl) (ww hw 29 rfl) (by decide) (by decide)) qa1 qc1 (g := (mkF m 1 #[vr u2, vi (1 : Int32), vu] [xr u2])) rfl (by rw [hml]; rfl) (Steps.refl _) (argsL := []) (rest := []) (lenOf pd1 rfl) rfl (by show 2 * 0 + _ ≤ _; exact Nat.le_of_eq rfl) (hb hby d3_1) (fun _ _ => ⟨rfl, e0, (by decide : 0 + 0 ≤ _), (by decide : 0 + 0 ≤ _)⟩)
  dsimp only [Pt.U, Pt.locs, Pt.cells, Pt.slots] at X1 l1 y1 z1 st1 hQ1
  subst l1 y1 z1
  obtain ⟨rfl, Nq1, e1⟩ := hQ1
  have N1 := Fr.app N0 Nq1
  obtain ⟨fs, hr, hrun, hended, hW, hsame⟩ := X1.leave (v := some (xi (0 : Int32))) (fun h => by rw [Bd.returns] at h; cases h)
  refine ⟨_, _, pre0 _ ?_, hrun, hended, _, _, rfl, ?_, ⟨_, rfl⟩, hW, hsame.mono (by decide) (by decide)⟩
  · show own_S p e below s₁ (mkF m 0 #[vr u2, vi (1 : Int32), vu] []) _
    refine XS.aloadN X0.here hx rfl (hb hby d3_0) rfl rfl ?_
    show own_S p e below s₁ (mkF m 1 #[vr u2, vi (1 : Int32), vu] [xr u2]) _
    refine st1.trans ?_
    show own_S p e below T1 (mkF m 4 #[vr u2, vi (1 : Int32), vu] [xi (2 : Int32)]) _
    refine XS.tswIn X1.here hx rfl (pc0 := 4) (pc' := 50) (o := 46) rfl (hb hby d3_4) rfl (by decide) (by decide) (by decide) (by decide) ?_
    show own_S p e below T1 (mkF m 50 #[vr u2, vi (1 : Int32), vu] []) _
    refine XS.iloadN X1.here hx rfl (hb hby d3_50) rfl ?_
    show own_S p e below T1 (mkF m 51 #[vr u2, vi (1 : Int32), vu] [xi (1 : Int32)]) _
    refine XS.ifYes X1.here hx rfl (pc0 := 51) (pc' := 58) rfl (hb hby d3_51) rfl (by decide) (by decide) (by decide) ?_
    show own_S p e below T1 (mkF m 58 #[vr u2, vi (1 : Int32), vu] []) _
    refine XS.iconst X1.here hx rfl (hb hby d3_58) ?_
    show own_S p e below T1 (mkF m 59 #[vr u2, vi (1 : Int32), vu] [xi (0 : Int32)]) _
    refine XS.istoreN X1.here hx rfl (hb hby d3_59) rfl (l' := #[vr u2, vi (1 : Int32), vi (0 : Int32)]) rfl ?_
    show own_S p e below T1 (mkF m 60 #[vr u2, vi (1 : Int32), vi (0 : Int32)] []) _
    refine XS.iloadN X1.here hx rfl (hb hby d3_60) rfl ?_
    show own_S p e below T1 (mkF m 61 #[vr u2, vi (1 : Int32), vi (0 : Int32)] [xi (0 : Int32)]) _
    exact retN X1 hx (t := .boolean) Bd.returns (by simp) (hb hby d3_61) hr
  · exact ⟨rfl, N1, e1⟩
theorem ef_own_c13_apply (m : MethodId) (u0 u1 u2 : Addr) : entryFrame m #[xr u2, xi (1 : Int32)] 2 = (mkF m 0 #[vr u2, vi (1 : Int32)] []) := by first | (simp [entryFrame, mkF, argsToLocals, Value.category]; done) | rfl
set_option maxRecDepth 65536 in
set_option maxHeartbeats 40000000 in
theorem own_c13_apply (l : Launch) (Z : State) (a0 : Array Value) (hw : ∀ d ∈ tables_1, d.before a0 Z = true) (u0 u1 u2 : Addr) (G : own_St Z u0 u1 u2) (h0 : Heap) (n0 : Nat) (O0 : Old Z n0 h0) : own_Met l Z Y4 method_2_code 2 (some .boolean) ({ frames := 2, cells := 0, slots := 0, locals := 26 } : Room) #[xr u2, xi (1 : Int32)] h0 (own_QR (some (xi (0 : Int32))) h0 n0) := by
  intro ws
  refine MetFree.of_bodySF (plainFor_of_name pn2) hisR ?_
  intro p e s m args below meth c s₁ Bd hml0 hP hK
  obtain ⟨rfl, hZ, hh⟩ := hP
  have hx := Bd.exec
  have hby := Bd.bytes
  have hml : c.maxLocals = 2 := hml0
  have hown : s.vm.findClass "com/example/tidemark/tidemark/ChangeComposedPinLaw" = some m.cls := findClass_of_methodNamed Bd.named
  have hnm := (name_of_methodNamed Bd.named Bd.method).1
  have X0 : Stand p l e ({ frames := 2, cells := 0, slots := 0, locals := 26 } : Room) s m #[xr u2, xi (1 : Int32)] below meth c s₁ [] 0 0 := Stand.of_body Bd
  have e0 : s₁.heap = h0 := by rw [← hh, Bd.state]; rfl
  have N0 := Fr.nil n0
  have pre0 : ∀ t, Steps p.tables e below (s₁.setTop (mkF m 0 #[vr u2, vi (1 : Int32)] [])) t → Steps p.tables e below (s₁.setTop (entryFrame m #[xr u2, xi (1 : Int32)] 2)) t := fun t st => castTop (ef_own_c13_apply m u0 u1 u2) st
  obtain ⟨cq1, kq1, qa1, qb1, qc1⟩ := isOf hZ e0 ((own_X_u2 G).ext O0.2)
  obtain ⟨_, _, ⟨T1, L1, k1, n1⟩, -, X1, ⟨Lc1, hQ1, l1, y1, z1⟩, st1⟩ := X0.virtualBack hx (y := Y3) (z := Y3) hown (mvT hZ (ww hw 19 rfl)) (mvT hZ (ww hw 20 rfl)) (notFace_of_selects (args := #[]) (mvT hZ (ww hw 22 rfl))) (mvT hZ (ww hw 22 rfl)) (mvT hZ (ww hw 21 rfl)) (by decide) (backOf (W := 0) (own_c13_applyTo l Z a0 hw u0 u1 u2 G h0 n0 O0 []) hZ (ww hw 23 rfl) (ww hw 3 rfl) (by decide) (by decide)) qa1 qc1 (g := (mkF m 8 #[vr u2, vi (1 : Int32)] [xi (1 : Int32), xr u2])) rfl (by rw [hml]; rfl) (Steps.refl _) (argsL := [xi (1 : Int32)]) (rest := []) (lenOf pd2 rfl) rfl (by show 2 * 0 + _ ≤ _; exact Nat.le_of_eq rfl) (hb hby d2_8) (fun _ _ => ⟨rfl, e0, (by decide : 0 + 0 ≤ _), (by decide : 0 + 0 ≤ _)⟩)
  dsimp only [Pt.U, Pt.locs, Pt.cells, Pt.slots] at X1 l1 y1 z1 st1 hQ1
  subst l1 y1 z1
  obtain ⟨rfl, Nq1, e1⟩ := hQ1
  have N1 := Fr.app N0 Nq1
  obtain ⟨fs, hr, hrun, hended, hW, hsame⟩ := X1.leave (v := some (xi (0 : Int32))) (fun h => by rw [Bd.returns] at h; cases h)
  refine ⟨_, _, pre0 _ ?_, hrun, hended, _, _, rfl, ?_, ⟨_, rfl⟩, hW, hsame.mono (by decide) (by decide)⟩
  · show own_S p e below s₁ (mkF m 0 #[vr u2, vi (1 : Int32)] []) _
    refine XS.aloadN X0.here hx rfl (hb hby d2_0) rfl rfl ?_
    show own_S p e below s₁ (mkF m 1 #[vr u2, vi (1 : Int32)] [xr u2]) _
    refine Jvm.Free.XT.nonnullYes X0.here hx rfl (pc0 := 1) (pc' := 6) rfl (hb hby d2_1) rfl rfl (by simp) (by decide) (by decide) ?_
    show own_S p e below s₁ (mkF m 6 #[vr u2, vi (1 : Int32)] []) _
    refine XS.aloadN X0.here hx rfl (hb hby d2_6) rfl rfl ?_
    show own_S p e below s₁ (mkF m 7 #[vr u2, vi (1 : Int32)] [xr u2]) _
    refine XS.iloadN X0.here hx rfl (hb hby d2_7) rfl ?_
    show own_S p e below s₁ (mkF m 8 #[vr u2, vi (1 : Int32)] [xi (1 : Int32), xr u2]) _
    refine st1.trans ?_
    show own_S p e below T1 (mkF m 11 #[vr u2, vi (1 : Int32)] [xi (0 : Int32)]) _
    exact retN X1 hx (t := .boolean) Bd.returns (by simp) (hb hby d2_11) hr
  · exact ⟨rfl, N1, e1⟩
theorem ef_own_l2 (m : MethodId) (u0 u1 u2 : Addr) (p1 : Int32) (p2 : Int32) : entryFrame m #[xi p1, xi p2] maxLocals = (mkF m 0 #[vi p1, vi p2, vu, vu, vu, vu, vu, vu, vu] []) := by first | (simp [entryFrame, mkF, argsToLocals, Value.category, maxLocals]; done) | rfl
set_option maxRecDepth 65536 in
set_option maxHeartbeats 40000000 in
theorem own_l2 (l : Launch) (Z : State) (a0 : Array Value) (hw : ∀ d ∈ tables_1, d.before a0 Z = true) (u0 u1 u2 : Addr) (G : own_St Z u0 u1 u2) (p1 : Int32) (p2 : Int32) (as0 : (p1 &&& (3 : Int32)) = (0 : Int32)) (as6 : ((p2 &&& (2147483647 : Int32)) - ((p2 &&& (2147483647 : Int32)) / (3 : Int32)) * (3 : Int32)) = (2 : Int32)) (h0 : Heap) (n0 : Nat) (O0 : Old Z n0 h0) : own_Met l Z x code maxLocals ret room_1 #[xi p1, xi p2] h0 (own_QL (some (xi (1 : Int32))) n0) := by
  intro ws
  refine MetFree.of_bodySF (plainFor_of_name pn2) hisR ?_
  intro p e s m args below meth c s₁ Bd hml0 hP hK
  obtain ⟨rfl, hZ, hh⟩ := hP
  have hx := Bd.exec
  have hby := Bd.bytes
  have hml : c.maxLocals = 9 := hml0
  have hown : s.vm.findClass "com/example/tidemark/tidemark/ChangeComposedPinLaw" = some m.cls := findClass_of_methodNamed Bd.named
  have hnm := (name_of_methodNamed Bd.named Bd.method).1
  have X0 : Stand p l e room_1 s m #[xi p1, xi p2] below meth c s₁ [] 0 0 := Stand.of_body Bd
  have e0 : s₁.heap = h0 := by rw [← hh, Bd.state]; rfl
  have N0 := Fr.nil n0
  have pre0 : ∀ t, Steps p.tables e below (s₁.setTop (mkF m 0 #[vi p1, vi p2, vu, vu, vu, vu, vu, vu, vu] [])) t → Steps p.tables e below (s₁.setTop (entryFrame m #[xi p1, xi p2] maxLocals)) t := fun t st => castTop (ef_own_l2 m u0 u1 u2 p1 p2) st
  obtain ⟨T1, h1, k1, X1, e1, E1, A1, Ov1, st1⟩ := newR X0 hx hZ hown (ww hw 0 rfl) (ww hw 1 rfl) e0 (g := (mkF m 1 #[vi p1, vi p2, vu, vu, vu, vu, vu, vu, vu] [xi (3 : Int32)])) rfl (hb hby at_1) rfl (by decide) (cap := 3) (by decide) (by decide) (by decide) (by decide)
  obtain ⟨b1, g1⟩ : ∃ z, z = h0.size := ⟨_, rfl⟩
  rw [← g1] at A1 st1
  have g_b1 : n0 ≤ b1 := own_fresh O0 g1
  have O1 : Old Z n0 h1 := O0.ext E1
  have V_b1 : Arv Z h1 b1 k1 (.object "com/example/tidemark/tidemark/Change") (3 : Int32) [.null, .null, .null] .null := (Arv.new A1 (by decide)).pad (pad_rep [] .null 3)
  obtain ⟨T2, X2, e2, st2⟩ := getS2 X1 hx hZ hown (host := "") (Or.inl (ww hw 2 rfl)) Via.refl e1 ((own_S_u0 G).ext O1.2) (g := (mkF m 6 #[vi p1, vi p2, vu, vu, vu, vu, vu, vu, vu] [xi (0 : Int32), xr b1, xr b1])) rfl (hb hby at_6)
  obtain ⟨cl3, Ar3, q3, S3, N3_, H3, G3⟩ := id V_b1
  have hin3 : ¬ ((0 : Int32) < 0 ∨ cl3.slots.size ≤ ((0 : Int32)).toNatClampNeg) := inb_of S3 ⟨by decide, by decide⟩
  obtain ⟨T4, h4, X4, e4, W4, st4⟩ := stR X2 hx hZ e2 Ar3 (j := (0 : Int32)) hin3 rfl (Sto.ofV Ar3 q3 Ov1 (Ins.self ((own_X_u0 G).ext O1.2))) (g := (mkF m 9 #[vi p1, vi p2, vu, vu, vu, vu, vu, vu, vu] [xr u0, xi (0 : Int32), xr b1, xr b1])) rfl rfl (hb hby at_9)
  have V_b1_4 : Arv Z h4 b1 k1 (.object "com/example/tidemark/tidemark/Change") (3 : Int32) [xr u0, .null, .null] .null := Arv.set Ar3 q3 S3 N3_ H3 G3 rfl W4 0 rfl (Nat.le_of_ble_eq_true rfl)
  have O4 : Old Z n0 h4 := O1.wr W4 g_b1
  have N4 := Fr.snoc X4 N0 g_b1
  obtain ⟨T5, X5, e5, st5⟩ := getS2 X4 hx hZ hown (host := "") (Or.inl (ww hw 6 rfl)) Via.refl e4 ((own_S_u1 G).ext O4.2) (g := (mkF m 12 #[vi p1, vi p2, vu, vu, vu, vu, vu, vu, vu] [xi (1 : Int32), xr b1, xr b1])) rfl (hb hby at_12)
  obtain ⟨cl6, Ar6, q6, S6, N6_, H6, G6⟩ := id V_b1_4
  have hin6 : ¬ ((1 : Int32) < 0 ∨ cl6.slots.size ≤ ((1 : Int32)).toNatClampNeg) := inb_of S6 ⟨by decide, by decide⟩
  obtain ⟨T7, h7, X7, e7, W7, st7⟩ := stR X5 hx hZ e5 Ar6 (j := (1 : Int32)) hin6 rfl (Sto.ofV Ar6 q6 Ov1 (Ins.self ((own_X_u1 G).ext O4.2))) (g := (mkF m 15 #[vi p1, vi p2, vu, vu, vu, vu, vu, vu, vu] [xr u1, xi (1 : Int32), xr b1, xr b1])) rfl rfl (hb hby at_15)
  have V_b1_7 : Arv Z h7 b1 k1 (.object "com/example/tidemark/tidemark/Change") (3 : Int32) [xr u0, xr u1, .null] .null := Arv.set Ar6 q6 S6 N6_ H6 G6 rfl W7 1 rfl (Nat.le_of_ble_eq_true rfl)
  have O7 : Old Z n0 h7 := O4.wr W7 g_b1
  have N7 := Fr.snoc X7 N4 g_b1
  obtain ⟨T8, X8, e8, st8⟩ := getS2 X7 hx hZ hown (host := "") (Or.inl (ww hw 8 rfl)) Via.refl e7 ((own_S_u2 G).ext O7.2) (g := (mkF m 18 #[vi p1, vi p2, vu, vu, vu, vu, vu, vu, vu] [xi (2 : Int32), xr b1, xr b1])) rfl (hb hby at_18)
  obtain ⟨cl9, Ar9, q9, S9, N9_, H9, G9⟩ := id V_b1_7
  have hin9 : ¬ ((2 : Int32) < 0 ∨ cl9.slots.size ≤ ((2 : Int32)).toNatClampNeg) := inb_of S9 ⟨by decide, by decide⟩
  obtain ⟨T10, h10, X10, e10, W10, st10⟩ := stR X8 hx hZ e8 Ar9 (j := (2 : Int32)) hin9 rfl (Sto.ofV Ar9 q9 Ov1 (Ins.self ((own_X_u2 G).ext O7.2))) (g := (mkF m 21 #[vi p1, vi p2, vu, vu, vu, vu, vu, vu, vu] [xr u2, xi (2 : Int32), xr b1, xr b1])) rfl rfl (hb hby at_21)
  have V_b1_10 : Arv Z h10 b1 k1 (.object "com/example/tidemark/tidemark/Change") (3 : Int32) [xr u0, xr u1, xr u2] .null := Arv.set Ar9 q9 S9 N9_ H9 G9 rfl W10 2 rfl (Nat.le_of_ble_eq_true rfl)
  have O10 : Old Z n0 h10 := O7.wr W10 g_b1
  have N10 := Fr.snoc X10 N7 g_b1
  obtain ⟨cl11, Ar11, q11, S11, N11_, H11, G11⟩ := id V_b1_10
  have hin11 : ¬ ((0 : Int32) < 0 ∨ cl11.slots.size ≤ ((0 : Int32)).toNatClampNeg) := inb_of S11 ⟨by decide, by decide⟩
  have hat11 : cl11.slots[((0 : Int32)).toNatClampNeg]? = some (xr u0) := Has.at H11 hin11 rfl
  obtain ⟨cl12, Ar12, q12, S12, N12_, H12, G12⟩ := id V_b1_10
  have hin12 : ¬ ((2 : Int32) < 0 ∨ cl12.slots.size ≤ ((2 : Int32)).toNatClampNeg) := inb_of S12 ⟨by decide, by decide⟩
  have hat12 : cl12.slots[((2 : Int32)).toNatClampNeg]? = some (xr u2) := Has.at H12 hin12 rfl
  obtain ⟨_, _, ⟨T13, L13, k13, n13⟩, -, X13, ⟨Lc13, hQ13, l13, y13, z13⟩, st13⟩ := Jvm.LawKit.callS X10 hx (y := Y0) hown (mvT hZ (ww hw 11 rfl)) (mvT hZ (ww hw 12 rfl)) (mvT hZ (ww hw 3 rfl)) (mvT hZ (ww hw 13 rfl)) (by decide) (backOf (W := 0) (own_c12_composed l Z a0 hw u0 u1 u2 G h10 n0 O10 []) hZ (ww hw 13 rfl) (ww hw 3 rfl) (by decide) (by decide)) (g := (mkF m 55 #[vi p1, vi p2, vr b1, vi (0 : Int32), vr u0, vr u2, vu, vu, vu] [xr u2, xr u0])) rfl (by rw [hml]; rfl) (argsL := [xr u0, xr u2]) (rest := []) (lenOf pd0 rfl) rfl (by show 2 * 0 + _ ≤ _; exact Nat.le_of_eq rfl) (hb hby at_55) (fun _ _ => ⟨rfl, e10, (by decide : 1 + 0 ≤ _), (by decide : 3 + 0 ≤ _)⟩)
  dsimp only [Pt.U, Pt.locs, Pt.cells, Pt.slots] at X13 l13 y13 z13 st13 hQ13
  subst l13 y13 z13
  obtain ⟨rfl, Nq13, e13⟩ := hQ13
  have N13 := Fr.app N10 Nq13
  obtain ⟨_, _, ⟨T14, L14, k14, n14⟩, -, X14, ⟨Lc14, hQ14, l14, y14, z14⟩, st14⟩ := Jvm.LawKit.callS X13 hx (y := Y4) hown (mvT hZ (ww hw 15 rfl)) (mvT hZ (ww hw 16 rfl)) (mvT hZ (ww hw 17 rfl)) (mvT hZ (ww hw 18 rfl)) (by decide) (backOf (W := 0) (own_c7_apply l Z a0 hw u0 u1 u2 G h10 n0 O10 []) hZ (ww hw 18 rfl) (ww hw 17 rfl) (by decide) (by decide)) (g := (mkF m 63 #[vi p1, vi p2, vr b1, vi (0 : Int32), vr u0, vr u2, vr u1, vu, vu] [xi (0 : Int32), xr u1])) rfl (by rw [hml]; rfl) (argsL := [xr u1, xi (0 : Int32)]) (rest := []) (lenOf pd3 rfl) rfl (by show 2 * 0 + _ ≤ _; exact Nat.le_of_eq rfl) (hb hby at_63) (fun _ _ => ⟨rfl, e13, (by decide : 1 + 0 ≤ _), (by decide : 3 + 0 ≤ _)⟩)
  dsimp only [Pt.U, Pt.locs, Pt.cells, Pt.slots] at X14 l14 y14 z14 st14 hQ14
  subst l14 y14 z14
  obtain ⟨rfl, Nq14, e14⟩ := hQ14
  have N14 := Fr.app N13 Nq14
  obtain ⟨_, _, ⟨T15, L15, k15, n15⟩, -, X15, ⟨Lc15, hQ15, l15, y15, z15⟩, st15⟩ := Jvm.LawKit.callS X14 hx (y := Y4) hown (mvT hZ (ww hw 15 rfl)) (mvT hZ (ww hw 16 rfl)) (mvT hZ (ww hw 17 rfl)) (mvT hZ (ww hw 18 rfl)) (by decide) (backOf (W := 2) (own_c1_apply l Z a0 hw u0 u1 u2 G h10 n0 O10 []) hZ (ww hw 18 rfl) (ww hw 17 rfl) (by decide) (by decide)) (g := (mkF m 71 #[vi p1, vi p2, vr b1, vi (0 : Int32), vr u0, vr u2, vr u1, vu, vu] [xi (0 : Int32), xr u0, xr u2, xi (0 : Int32)])) rfl (by rw [hml]; rfl) (argsL := [xr u0, xi (0 : Int32)]) (rest := [xr u2, xi (0 : Int32)]) (lenOf pd3 rfl) rfl (by show 2 * 0 + _ ≤ _; exact Nat.le_of_eq rfl) (hb hby at_71) (fun _ _ => ⟨rfl, e14, (by decide : 1 + 0 ≤ _), (by decide : 3 + 0 ≤ _)⟩)
  dsimp only [Pt.U, Pt.locs, Pt.cells, Pt.slots] at X15 l15 y15 z15 st15 hQ15
  subst l15 y15 z15
  obtain ⟨rfl, Nq15, e15⟩ := hQ15
  have N15 := Fr.app N14 Nq15
  obtain ⟨_, _, ⟨T16, L16, k16, n16⟩, -, X16, ⟨Lc16, hQ16, l16, y16, z16⟩, st16⟩ := Jvm.LawKit.callS X15 hx (y := Y4) hown (mvT hZ (ww hw 15 rfl)) (mvT hZ (ww hw 16 rfl)) (mvT hZ (ww hw 17 rfl)) (mvT hZ (ww hw 18 rfl)) (by decide) (backOf (W := 1) (own_c13_apply l Z a0 hw u0 u1 u2 G h10 n0 O10 []) hZ (ww hw 18 rfl) (ww hw 17 rfl) (by decide) (by decide)) (g := (mkF m 74 #[vi p1, vi p2, vr b1, vi (0 : Int32), vr u0, vr u2, vr u1, vu, vu] [xi (1 : Int32), xr u2, xi (0 : Int32)])) rfl (by rw [hml]; rfl) (argsL := [xr u2, xi (1 : Int32)]) (rest := [xi (0 : Int32)]) (lenOf pd3 rfl) rfl (by show 2 * 0 + _ ≤ _; exact Nat.le_of_eq rfl) (hb hby at_74) (fun _ _ => ⟨rfl, e15, (by decide : 1 + 0 ≤ _), (by decide : 3 + 0 ≤ _)⟩)
  dsimp only [Pt.U, Pt.locs, Pt.cells, Pt.slots] at X16 l16 y16 z16 st16 hQ16
  subst l16 y16 z16
  obtain ⟨rfl, Nq16, e16⟩ := hQ16
  have N16 := Fr.app N15 Nq16
  obtain ⟨_, _, ⟨T17, L17, k17, n17⟩, -, X17, ⟨Lc17, hQ17, l17, y17, z17⟩, st17⟩ := Jvm.LawKit.callS X16 hx (y := Y4) hown (mvT hZ (ww hw 15 rfl)) (mvT hZ (ww hw 16 rfl)) (mvT hZ (ww hw 17 rfl)) (mvT hZ (ww hw 18 rfl)) (by decide) (backOf (W := 0) (own_c10_apply l Z a0 hw u0 u1 u2 G h10 n0 O10 []) hZ (ww hw 18 rfl) (ww hw 17 rfl) (by decide) (by decide)) (g := (mkF m 90 #[vi p1, vi p2, vr b1, vi (0 : Int32), vr u0, vr u2, vr u1, vi (1 : Int32), vu] [xi (1 : Int32), xr u1])) rfl (by rw [hml]; rfl) (argsL := [xr u1, xi (1 : Int32)]) (rest := []) (lenOf pd3 rfl) rfl (by show 2 * 0 + _ ≤ _; exact Nat.le_of_eq rfl) (hb hby at_90) (fun _ _ => ⟨rfl, e16, (by decide : 1 + 0 ≤ _), (by decide : 3 + 0 ≤ _)⟩)
  dsimp only [Pt.U, Pt.locs, Pt.cells, Pt.slots] at X17 l17 y17 z17 st17 hQ17
  subst l17 y17 z17
  obtain ⟨rfl, Nq17, e17⟩ := hQ17
  have N17 := Fr.app N16 Nq17
  obtain ⟨_, _, ⟨T18, L18, k18, n18⟩, -, X18, ⟨Lc18, hQ18, l18, y18, z18⟩, st18⟩ := Jvm.LawKit.callS X17 hx (y := Y4) hown (mvT hZ (ww hw 15 rfl)) (mvT hZ (ww hw 16 rfl)) (mvT hZ (ww hw 17 rfl)) (mvT hZ (ww hw 18 rfl)) (by decide) (backOf (W := 2) (own_c4_apply l Z a0 hw u0 u1 u2 G h10 n0 O10 []) hZ (ww hw 18 rfl) (ww hw 17 rfl) (by decide) (by decide)) (g := (mkF m 98 #[vi p1, vi p2, vr b1, vi (0 : Int32), vr u0, vr u2, vr u1, vi (1 : Int32), vu] [xi (1 : Int32), xr u0, xr u2, xi (0 : Int32)])) rfl (by rw [hml]; rfl) (argsL := [xr u0, xi (1 : Int32)]) (rest := [xr u2, xi (0 : Int32)]) (lenOf pd3 rfl) rfl (by show 2 * 0 + _ ≤ _; exact Nat.le_of_eq rfl) (hb hby at_98) (fun _ _ => ⟨rfl, e17, (by decide : 1 + 0 ≤ _), (by decide : 3 + 0 ≤ _)⟩)
  dsimp only [Pt.U, Pt.locs, Pt.cells, Pt.slots] at X18 l18 y18 z18 st18 hQ18
  subst l18 y18 z18
  obtain ⟨rfl, Nq18, e18⟩ := hQ18
  have N18 := Fr.app N17 Nq18
  obtain ⟨_, _, ⟨T19, L19, k19, n19⟩, -, X19, ⟨Lc19, hQ19, l19, y19, z19⟩, st19⟩ := Jvm.LawKit.callS X18 hx (y := Y4) hown (mvT hZ (ww hw 15 rfl)) (mvT hZ (ww hw 16 rfl)) (mvT hZ (ww hw 17 rfl)) (mvT hZ (ww hw 18 rfl)) (by decide) (backOf (W := 1) (own_c13_apply l Z a0 hw u0 u1 u2 G h10 n0 O10 []) hZ (ww hw 18 rfl) (ww hw 17 rfl) (by decide) (by decide)) (g := (mkF m 101 #[vi p1, vi p2, vr b1, vi (0 : Int32), vr u0, vr u2, vr u1, vi (1 : Int32), vu] [xi (1 : Int32), xr u2, xi (0 : Int32)])) rfl (by rw [hml]; rfl) (argsL := [xr u2, xi (1 : Int32)]) (rest := [xi (0 : Int32)]) (lenOf pd3 rfl) rfl (by show 2 * 0 + _ ≤ _; exact Nat.le_of_eq rfl) (hb hby at_101) (fun _ _ => ⟨rfl, e18, (by decide : 1 + 0 ≤ _), (by decide : 3 + 0 ≤ _)⟩)
  dsimp only [Pt.U, Pt.locs, Pt.cells, Pt.slots] at X19 l19 y19 z19 st19 hQ19
  subst l19 y19 z19
  obtain ⟨rfl, Nq19, e19⟩ := hQ19
  have N19 := Fr.app N18 Nq19
  obtain ⟨fs, hr, hrun, hended, hW, hsame⟩ := X19.leave (v := some (xi (1 : Int32))) (fun h => by rw [Bd.returns] at h; cases h)
  refine ⟨_, _, pre0 _ ?_, hrun, hended, _, _, rfl, ?_, ⟨_, rfl⟩, hW, hsame.mono (by decide) (by decide)⟩
  · show own_S p e below s₁ (mkF m 0 #[vi p1, vi p2, vu, vu, vu, vu, vu, vu, vu] []) _
    refine XS.iconst X0.here hx rfl (hb hby at_0) ?_
    show own_S p e below s₁ (mkF m 1 #[vi p1, vi p2, vu, vu, vu, vu, vu, vu, vu] [xi (3 : Int32)]) _
    refine st1 _ ?_
    show own_S p e below T1 (mkF m 4 #[vi p1, vi p2, vu, vu, vu, vu, vu, vu, vu] [xr b1]) _
    refine XS.dup X1.here hx rfl (hb hby at_4) rfl rfl ?_
    show own_S p e below T1 (mkF m 5 #[vi p1, vi p2, vu, vu, vu, vu, vu, vu, vu] [xr b1, xr b1]) _
    refine XS.iconst X1.here hx rfl (hb hby at_5) ?_
    show own_S p e below T1 (mkF m 6 #[vi p1, vi p2, vu, vu, vu, vu, vu, vu, vu] [xi (0 : Int32), xr b1, xr b1]) _
    refine st2 _ ?_
    show own_S p e below T2 (mkF m 9 #[vi p1, vi p2, vu, vu, vu, vu, vu, vu, vu] [xr u0, xi (0 : Int32), xr b1, xr b1]) _
    refine st4 _ ?_
    show own_S p e below T4 (mkF m 10 #[vi p1, vi p2, vu, vu, vu, vu, vu, vu, vu] [xr b1]) _
    refine XS.dup X4.here hx rfl (hb hby at_10) rfl rfl ?_
    show own_S p e below T4 (mkF m 11 #[vi p1, vi p2, vu, vu, vu, vu, vu, vu, vu] [xr b1, xr b1]) _
    refine XS.iconst X4.here hx rfl (hb hby at_11) ?_
    show own_S p e below T4 (mkF m 12 #[vi p1, vi p2, vu, vu, vu, vu, vu, vu, vu] [xi (1 : Int32), xr b1, xr b1]) _
    refine st5 _ ?_
    show own_S p e below T5 (mkF m 15 #[vi p1, vi p2, vu, vu, vu, vu, vu, vu, vu] [xr u1, xi (1 : Int32), xr b1, xr b1]) _
    refine st7 _ ?_
    show own_S p e below T7 (mkF m 16 #[vi p1, vi p2, vu, vu, vu, vu, vu, vu, vu] [xr b1]) _
    refine XS.dup X7.here hx rfl (hb hby at_16) rfl rfl ?_
    show own_S p e below T7 (mkF m 17 #[vi p1, vi p2, vu, vu, vu, vu, vu, vu, vu] [xr b1, xr b1]) _
    refine XS.iconst X7.here hx rfl (hb hby at_17) ?_
    show own_S p e below T7 (mkF m 18 #[vi p1, vi p2, vu, vu, vu, vu, vu, vu, vu] [xi (2 : Int32), xr b1, xr b1]) _
    refine st8 _ ?_
    show own_S p e below T8 (mkF m 21 #[vi p1, vi p2, vu, vu, vu, vu, vu, vu, vu] [xr u2, xi (2 : Int32), xr b1, xr b1]) _
    refine st10 _ ?_
    show own_S p e below T10 (mkF m 22 #[vi p1, vi p2, vu, vu, vu, vu, vu, vu, vu] [xr b1]) _
    refine XS.astoreN X10.here hx rfl (hb hby at_22) rfl rfl (l' := #[vi p1, vi p2, vr b1, vu, vu, vu, vu, vu, vu]) rfl ?_
    show own_S p e below T10 (mkF m 23 #[vi p1, vi p2, vr b1, vu, vu, vu, vu, vu, vu] []) _
    refine XS.iloadN X10.here hx rfl (hb hby at_23) rfl ?_
    show own_S p e below T10 (mkF m 24 #[vi p1, vi p2, vr b1, vu, vu, vu, vu, vu, vu] [xi p1]) _
    refine XS.iconst X10.here hx rfl (hb hby at_24) ?_
    show own_S p e below T10 (mkF m 25 #[vi p1, vi p2, vr b1, vu, vu, vu, vu, vu, vu] [xi (3 : Int32), xi p1]) _
    refine XS.iand X10.here hx rfl (hb hby at_25) rfl ?_
    show own_S p e below T10 (mkF m 26 #[vi p1, vi p2, vr b1, vu, vu, vu, vu, vu, vu] [xi (p1 &&& (3 : Int32))]) _
    refine castTop (show (mkF m 26 #[vi p1, vi p2, vr b1, vu, vu, vu, vu, vu, vu] [xi (p1 &&& (3 : Int32))]) = (mkF m 26 #[vi p1, vi p2, vr b1, vu, vu, vu, vu, vu, vu] [xi (0 : Int32)]) from by rw [as0]) ?_
    show own_S p e below T10 (mkF m 26 #[vi p1, vi p2, vr b1, vu, vu, vu, vu, vu, vu] [xi (0 : Int32)]) _
    refine XS.istoreN X10.here hx rfl (hb hby at_26) rfl (l' := #[vi p1, vi p2, vr b1, vi (0 : Int32), vu, vu, vu, vu, vu]) rfl ?_
    show own_S p e below T10 (mkF m 27 #[vi p1, vi p2, vr b1, vi (0 : Int32), vu, vu, vu, vu, vu] []) _
    refine XS.iloadN X10.here hx rfl (hb hby at_27) rfl ?_
    show own_S p e below T10 (mkF m 28 #[vi p1, vi p2, vr b1, vi (0 : Int32), vu, vu, vu, vu, vu] [xi (0 : Int32)]) _
    refine XS.iconst X10.here hx rfl (hb hby at_28) ?_
    show own_S p e below T10 (mkF m 29 #[vi p1, vi p2, vr b1, vi (0 : Int32), vu, vu, vu, vu, vu] [xi (3 : Int32), xi (0 : Int32)]) _
    refine XS.icmpYes X10.here hx rfl (pc0 := 29) (pc' := 36) rfl (hb hby at_29) rfl (by decide) (by decide) (by decide) ?_
    show own_S p e below T10 (mkF m 36 #[vi p1, vi p2, vr b1, vi (0 : Int32), vu, vu, vu, vu, vu] []) _
    refine XS.aloadN X10.here hx rfl (hb hby at_36) rfl rfl ?_
    show own_S p e below T10 (mkF m 37 #[vi p1, vi p2, vr b1, vi (0 : Int32), vu, vu, vu, vu, vu] [xr b1]) _
    refine XS.iloadN X10.here hx rfl (hb hby at_37) rfl ?_
    show own_S p e below T10 (mkF m 38 #[vi p1, vi p2, vr b1, vi (0 : Int32), vu, vu, vu, vu, vu] [xi (0 : Int32), xr b1]) _
    refine X10.aaload hx (j := (0 : Int32)) (v := (xr u0)) (by rw [e10]; exact Ar11.1) (State.isArrayOf_alike hZ.alike Ar11.2.1) rfl Ar11.2.2 hin11 hat11 (g := (mkF m 38 #[vi p1, vi p2, vr b1, vi (0 : Int32), vu, vu, vu, vu, vu] [xi (0 : Int32), xr b1])) rfl rfl (hb hby at_38) _ ?_
    show own_S p e below T10 (mkF m 39 #[vi p1, vi p2, vr b1, vi (0 : Int32), vu, vu, vu, vu, vu] [xr u0]) _
    refine XS.astore X10.here hx rfl (hb hby at_39) rfl rfl (l' := #[vi p1, vi p2, vr b1, vi (0 : Int32), vr u0, vu, vu, vu, vu]) rfl ?_
    show own_S p e below T10 (mkF m 41 #[vi p1, vi p2, vr b1, vi (0 : Int32), vr u0, vu, vu, vu, vu] []) _
    refine XS.aloadN X10.here hx rfl (hb hby at_41) rfl rfl ?_
    show own_S p e below T10 (mkF m 42 #[vi p1, vi p2, vr b1, vi (0 : Int32), vr u0, vu, vu, vu, vu] [xr b1]) _
    refine XS.iloadN X10.here hx rfl (hb hby at_42) rfl ?_
    show own_S p e below T10 (mkF m 43 #[vi p1, vi p2, vr b1, vi (0 : Int32), vr u0, vu, vu, vu, vu] [xi p2, xr b1]) _
    refine X10.ldcI hx hown (mvT hZ (ww hw 10 rfl)) (g := (mkF m 43 #[vi p1, vi p2, vr b1, vi (0 : Int32), vr u0, vu, vu, vu, vu] [xi p2, xr b1])) rfl (hb hby at_43) ?_
    show own_S p e below T10 (mkF m 45 #[vi p1, vi p2, vr b1, vi (0 : Int32), vr u0, vu, vu, vu, vu] [xi (2147483647 : Int32), xi p2, xr b1]) _
    refine XS.iand X10.here hx rfl (hb hby at_45) rfl ?_
    show own_S p e below T10 (mkF m 46 #[vi p1, vi p2, vr b1, vi (0 : Int32), vr u0, vu, vu, vu, vu] [xi (p2 &&& (2147483647 : Int32)), xr b1]) _
    show own_S p e below T10 (mkF m 46 #[vi p1, vi p2, vr b1, vi (0 : Int32), vr u0, vu, vu, vu, vu] [xi (p2 &&& (2147483647 : Int32)), xr b1]) _
    refine XS.iconst X10.here hx rfl (hb hby at_46) ?_
    show own_S p e below T10 (mkF m 47 #[vi p1, vi p2, vr b1, vi (0 : Int32), vr u0, vu, vu, vu, vu] [xi (3 : Int32), xi (p2 &&& (2147483647 : Int32)), xr b1]) _
    refine XS.irem X10.here hx rfl (hb hby at_47) rfl (by decide) ?_
    show own_S p e below T10 (mkF m 48 #[vi p1, vi p2, vr b1, vi (0 : Int32), vr u0, vu, vu, vu, vu] [xi ((p2 &&& (2147483647 : Int32)) - ((p2 &&& (2147483647 : Int32)) / (3 : Int32)) * (3 : Int32)), xr b1]) _
    refine castTop (show (mkF m 48 #[vi p1, vi p2, vr b1, vi (0 : Int32), vr u0, vu, vu, vu, vu] [xi ((p2 &&& (2147483647 : Int32)) - ((p2 &&& (2147483647 : Int32)) / (3 : Int32)) * (3 : Int32)), xr b1]) = (mkF m 48 #[vi p1, vi p2, vr b1, vi (0 : Int32), vr u0, vu, vu, vu, vu] [xi (2 : Int32), xr b1]) from by rw [as6]) ?_
    show own_S p e below T10 (mkF m 48 #[vi p1, vi p2, vr b1, vi (0 : Int32), vr u0, vu, vu, vu, vu] [xi (2 : Int32), xr b1]) _
    refine X10.aaload hx (j := (2 : Int32)) (v := (xr u2)) (by rw [e10]; exact Ar12.1) (State.isArrayOf_alike hZ.alike Ar12.2.1) rfl Ar12.2.2 hin12 hat12 (g := (mkF m 48 #[vi p1, vi p2, vr b1, vi (0 : Int32), vr u0, vu, vu, vu, vu] [xi (2 : Int32), xr b1])) rfl rfl (hb hby at_48) _ ?_
    show own_S p e below T10 (mkF m 49 #[vi p1, vi p2, vr b1, vi (0 : Int32), vr u0, vu, vu, vu, vu] [xr u2]) _
    refine XS.astore X10.here hx rfl (hb hby at_49) rfl rfl (l' := #[vi p1, vi p2, vr b1, vi (0 : Int32), vr u0, vr u2, vu, vu, vu]) rfl ?_
    show own_S p e below T10 (mkF m 51 #[vi p1, vi p2, vr b1, vi (0 : Int32), vr u0, vr u2, vu, vu, vu] []) _
    refine XS.aload X10.here hx rfl (hb hby at_51) rfl rfl ?_
    show own_S p e below T10 (mkF m 53 #[vi p1, vi p2, vr b1, vi (0 : Int32), vr u0, vr u2, vu, vu, vu] [xr u0]) _
    refine XS.aload X10.here hx rfl (hb hby at_53) rfl rfl ?_
    show own_S p e below T10 (mkF m 55 #[vi p1, vi p2, vr b1, vi (0 : Int32), vr u0, vr u2, vu, vu, vu] [xr u2, xr u0]) _
    refine st13 _ ?_
    show own_S p e below T13 (mkF m 58 #[vi p1, vi p2, vr b1, vi (0 : Int32), vr u0, vr u2, vu, vu, vu] [xr u1]) _
    refine XS.astore X13.here hx rfl (hb hby at_58) rfl rfl (l' := #[vi p1, vi p2, vr b1, vi (0 : Int32), vr u0, vr u2, vr u1, vu, vu]) rfl ?_
    show own_S p e below T13 (mkF m 60 #[vi p1, vi p2, vr b1, vi (0 : Int32), vr u0, vr u2, vr u1, vu, vu] []) _
    refine XS.aload X13.here hx rfl (hb hby at_60) rfl rfl ?_
    show own_S p e below T13 (mkF m 62 #[vi p1, vi p2, vr b1, vi (0 : Int32), vr u0, vr u2, vr u1, vu, vu] [xr u1]) _
    refine XS.iconst X13.here hx rfl (hb hby at_62) ?_
    show own_S p e below T13 (mkF m 63 #[vi p1, vi p2, vr b1, vi (0 : Int32), vr u0, vr u2, vr u1, vu, vu] [xi (0 : Int32), xr u1]) _
    refine st14 _ ?_
    show own_S p e below T14 (mkF m 66 #[vi p1, vi p2, vr b1, vi (0 : Int32), vr u0, vr u2, vr u1, vu, vu] [xi (0 : Int32)]) _
    refine XS.aload X14.here hx rfl (hb hby at_66) rfl rfl ?_
    show own_S p e below T14 (mkF m 68 #[vi p1, vi p2, vr b1, vi (0 : Int32), vr u0, vr u2, vr u1, vu, vu] [xr u2, xi (0 : Int32)]) _
    refine XS.aload X14.here hx rfl (hb hby at_68) rfl rfl ?_
    show own_S p e below T14 (mkF m 70 #[vi p1, vi p2, vr b1, vi (0 : Int32), vr u0, vr u2, vr u1, vu, vu] [xr u0, xr u2, xi (0 : Int32)]) _
    refine XS.iconst X14.here hx rfl (hb hby at_70) ?_
    show own_S p e below T14 (mkF m 71 #[vi p1, vi p2, vr b1, vi (0 : Int32), vr u0, vr u2, vr u1, vu, vu] [xi (0 : Int32), xr u0, xr u2, xi (0 : Int32)]) _
    refine st15 _ ?_
    show own_S p e below T15 (mkF m 74 #[vi p1, vi p2, vr b1, vi (0 : Int32), vr u0, vr u2, vr u1, vu, vu] [xi (1 : Int32), xr u2, xi (0 : Int32)]) _
    refine st16 _ ?_
    show own_S p e below T16 (mkF m 77 #[vi p1, vi p2, vr b1, vi (0 : Int32), vr u0, vr u2, vr u1, vu, vu] [xi (0 : Int32), xi (0 : Int32)]) _
    refine XS.icmpNo X16.here hx rfl (hb hby at_77) rfl (by decide) ?_
    show own_S p e below T16 (mkF m 80 #[vi p1, vi p2, vr b1, vi (0 : Int32), vr u0, vr u2, vr u1, vu, vu] []) _
    refine XS.iconst X16.here hx rfl (hb hby at_80) ?_
    show own_S p e below T16 (mkF m 81 #[vi p1, vi p2, vr b1, vi (0 : Int32), vr u0, vr u2, vr u1, vu, vu] [xi (1 : Int32)]) _
    refine XS.goto X16.here hx rfl (pc0 := 81) (pc' := 85) rfl (hb hby at_81) (by decide) (by decide) ?_
    show own_S p e below T16 (mkF m 85 #[vi p1, vi p2, vr b1, vi (0 : Int32), vr u0, vr u2, vr u1, vu, vu] [xi (1 : Int32)]) _
    refine XS.istore X16.here hx rfl (hb hby at_85) rfl (l' := #[vi p1, vi p2, vr b1, vi (0 : Int32), vr u0, vr u2, vr u1, vi (1 : Int32), vu]) rfl ?_
    show own_S p e below T16 (mkF m 87 #[vi p1, vi p2, vr b1, vi (0 : Int32), vr u0, vr u2, vr u1, vi (1 : Int32), vu] []) _
    refine XS.aload X16.here hx rfl (hb hby at_87) rfl rfl ?_
    show own_S p e below T16 (mkF m 89 #[vi p1, vi p2, vr b1, vi (0 : Int32), vr u0, vr u2, vr u1, vi (1 : Int32), vu] [xr u1]) _
    refine XS.iconst X16.here hx rfl (hb hby at_89) ?_
    show own_S p e below T16 (mkF m 90 #[vi p1, vi p2, vr b1, vi (0 : Int32), vr u0, vr u2, vr u1, vi (1 : Int32), vu] [xi (1 : Int32), xr u1]) _
    refine st17 _ ?_
    show own_S p e below T17 (mkF m 93 #[vi p1, vi p2, vr b1, vi (0 : Int32), vr u0, vr u2, vr u1, vi (1 : Int32), vu] [xi (0 : Int32)]) _
    refine XS.aload X17.here hx rfl (hb hby at_93) rfl rfl ?_
    show own_S p e below T17 (mkF m 95 #[vi p1, vi p2, vr b1, vi (0 : Int32), vr u0, vr u2, vr u1, vi (1 : Int32), vu] [xr u2, xi (0 : Int32)]) _
    refine XS.aload X17.here hx rfl (hb hby at_95) rfl rfl ?_
    show own_S p e below T17 (mkF m 97 #[vi p1, vi p2, vr b1, vi (0 : Int32), vr u0, vr u2, vr u1, vi (1 : Int32), vu] [xr u0, xr u2, xi (0 : Int32)]) _
    refine XS.iconst X17.here hx rfl (hb hby at_97) ?_
    show own_S p e below T17 (mkF m 98 #[vi p1, vi p2, vr b1, vi (0 : Int32), vr u0, vr u2, vr u1, vi (1 : Int32), vu] [xi (1 : Int32), xr u0, xr u2, xi (0 : Int32)]) _
    refine st18 _ ?_
    show own_S p e below T18 (mkF m 101 #[vi p1, vi p2, vr b1, vi (0 : Int32), vr u0, vr u2, vr u1, vi (1 : Int32), vu] [xi (1 : Int32), xr u2, xi (0 : Int32)]) _
    refine st19 _ ?_
    show own_S p e below T19 (mkF m 104 #[vi p1, vi p2, vr b1, vi (0 : Int32), vr u0, vr u2, vr u1, vi (1 : Int32), vu] [xi (0 : Int32), xi (0 : Int32)]) _
    refine XS.icmpNo X19.here hx rfl (hb hby at_104) rfl (by decide) ?_
    show own_S p e below T19 (mkF m 107 #[vi p1, vi p2, vr b1, vi (0 : Int32), vr u0, vr u2, vr u1, vi (1 : Int32), vu] []) _
    refine XS.iconst X19.here hx rfl (hb hby at_107) ?_
    show own_S p e below T19 (mkF m 108 #[vi p1, vi p2, vr b1, vi (0 : Int32), vr u0, vr u2, vr u1, vi (1 : Int32), vu] [xi (1 : Int32)]) _
    refine XS.goto X19.here hx rfl (pc0 := 108) (pc' := 112) rfl (hb hby at_108) (by decide) (by decide) ?_
    show own_S p e below T19 (mkF m 112 #[vi p1, vi p2, vr b1, vi (0 : Int32), vr u0, vr u2, vr u1, vi (1 : Int32), vu] [xi (1 : Int32)]) _
    refine XS.istore X19.here hx rfl (hb hby at_112) rfl (l' := #[vi p1, vi p2, vr b1, vi (0 : Int32), vr u0, vr u2, vr u1, vi (1 : Int32), vi (1 : Int32)]) rfl ?_
    show own_S p e below T19 (mkF m 114 #[vi p1, vi p2, vr b1, vi (0 : Int32), vr u0, vr u2, vr u1, vi (1 : Int32), vi (1 : Int32)] []) _
    refine XS.iload X19.here hx rfl (hb hby at_114) rfl ?_
    show own_S p e below T19 (mkF m 116 #[vi p1, vi p2, vr b1, vi (0 : Int32), vr u0, vr u2, vr u1, vi (1 : Int32), vi (1 : Int32)] [xi (1 : Int32)]) _
    refine XS.ifNo X19.here hx rfl (hb hby at_116) rfl (by decide) ?_
    show own_S p e below T19 (mkF m 119 #[vi p1, vi p2, vr b1, vi (0 : Int32), vr u0, vr u2, vr u1, vi (1 : Int32), vi (1 : Int32)] []) _
    refine XS.iload X19.here hx rfl (hb hby at_119) rfl ?_
    show own_S p e below T19 (mkF m 121 #[vi p1, vi p2, vr b1, vi (0 : Int32), vr u0, vr u2, vr u1, vi (1 : Int32), vi (1 : Int32)] [xi (1 : Int32)]) _
    refine XS.ifNo X19.here hx rfl (hb hby at_121) rfl (by decide) ?_
    show own_S p e below T19 (mkF m 124 #[vi p1, vi p2, vr b1, vi (0 : Int32), vr u0, vr u2, vr u1, vi (1 : Int32), vi (1 : Int32)] []) _
    refine XS.iconst X19.here hx rfl (hb hby at_124) ?_
    show own_S p e below T19 (mkF m 125 #[vi p1, vi p2, vr b1, vi (0 : Int32), vr u0, vr u2, vr u1, vi (1 : Int32), vi (1 : Int32)] [xi (1 : Int32)]) _
    refine XS.goto X19.here hx rfl (pc0 := 125) (pc' := 129) rfl (hb hby at_125) (by decide) (by decide) ?_
    show own_S p e below T19 (mkF m 129 #[vi p1, vi p2, vr b1, vi (0 : Int32), vr u0, vr u2, vr u1, vi (1 : Int32), vi (1 : Int32)] [xi (1 : Int32)]) _
    exact retN X19 hx (t := .boolean) Bd.returns (by simp) (hb hby at_129) hr
  · exact ⟨rfl, N19⟩
theorem ef_own_c16_composed (m : MethodId) (u0 u1 u2 : Addr) : entryFrame m #[xr u1, xr u0] 3 = (mkF m 0 #[vr u1, vr u0, vu] []) := by first | (simp [entryFrame, mkF, argsToLocals, Value.category]; done) | rfl
set_option maxRecDepth 65536 in
set_option maxHeartbeats 40000000 in
theorem own_c16_composed (l : Launch) (Z : State) (a0 : Array Value) (hw : ∀ d ∈ tables_1, d.before a0 Z = true) (u0 u1 u2 : Addr) (G : own_St Z u0 u1 u2) (h0 : Heap) (n0 : Nat) (O0 : Old Z n0 h0) : own_Met l Z Y0 prog_1_method_7_code 3 (some (.object "com/example/tidemark/tidemark/Change")) ({ frames := 0, cells := 0, slots := 0, locals := 0 } : Room) #[xr u1, xr u0] h0 (own_QR (some (xr u0)) h0 n0) := by
  intro ws
  refine MetFree.of_bodySF (plainFor_of_name pn0) hisR ?_
  intro p e s m args below meth c s₁ Bd hml0 hP hK
  obtain ⟨rfl, hZ, hh⟩ := hP
  have hx := Bd.exec
  have hby := Bd.bytes
  have hml : c.maxLocals = 3 := hml0
  have hown : s.vm.findClass "com/example/tidemark/tidemark/Change" = some m.cls := findClass_of_methodNamed Bd.named
  have hnm := (name_of_methodNamed Bd.named Bd.method).1
  have X0 : Stand p l e ({ frames := 0, cells := 0, slots := 0, locals := 0 } : Room) s m #[xr u1, xr u0] below meth c s₁ [] 0 0 := Stand.of_body Bd
  have e0 : s₁.heap = h0 := by rw [← hh, Bd.state]; rfl
  have N0 := Fr.nil n0
  have pre0 : ∀ t, Steps p.tables e below (s₁.setTop (mkF m 0 #[vr u1, vr u0, vu] [])) t → Steps p.tables e below (s₁.setTop (entryFrame m #[xr u1, xr u0] 3)) t := fun t st => castTop (ef_own_c16_composed m u0 u1 u2) st
  obtain ⟨T1, X1, e1, st1⟩ := getS2 X0 hx hZ hown (host := "") (Or.inl (ww hw 14 rfl)) Via.refl e0 ((own_S_u2 G).ext O0.2) (g := (mkF m 3 #[vr u1, vr u0, vr u0] [xr u0])) rfl (hb hby d1_3)
  obtain ⟨fs, hr, hrun, hended, hW, hsame⟩ := X1.leave (v := some (xr u0)) (fun h => by rw [Bd.returns] at h; cases h)
  refine ⟨_, _, pre0 _ ?_, hrun, hended, _, _, rfl, ?_, ⟨_, rfl⟩, hW, hsame.mono (by decide) (by decide)⟩
  · show own_S p e below s₁ (mkF m 0 #[vr u1, vr u0, vu] []) _
    refine XS.aloadN X0.here hx rfl (hb hby d1_0) rfl rfl ?_
    show own_S p e below s₁ (mkF m 1 #[vr u1, vr u0, vu] [xr u0]) _
    refine XS.astoreN X0.here hx rfl (hb hby d1_1) rfl rfl (l' := #[vr u1, vr u0, vr u0]) rfl ?_
    show own_S p e below s₁ (mkF m 2 #[vr u1, vr u0, vr u0] []) _
    refine XS.aloadN X0.here hx rfl (hb hby d1_2) rfl rfl ?_
    show own_S p e below s₁ (mkF m 3 #[vr u1, vr u0, vr u0] [xr u0]) _
    refine st1 _ ?_
    show own_S p e below T1 (mkF m 6 #[vr u1, vr u0, vr u0] [xr u2, xr u0]) _
    refine Jvm.RoadKit.acmp (g := (mkF m 6 #[vr u1, vr u0, vr u0] [xr u2, xr u0])) X1 hx rfl rfl rfl (pc0 := 6) (pc' := 68) (same := false) rfl (hb hby d1_6) rfl (own_ref (own_ne_u0_u2 G)) (by decide) (by decide) ?_
    show own_S p e below T1 (mkF m 68 #[vr u1, vr u0, vr u0] []) _
    refine XS.aloadN X1.here hx rfl (hb hby d1_68) rfl rfl ?_
    show own_S p e below T1 (mkF m 69 #[vr u1, vr u0, vr u0] [xr u0]) _
    exact X1.areturnOut hx rfl Bd.returns rfl (hb hby d1_69) hr
  · exact ⟨rfl, N0, e1⟩
theorem ef_own_l3 (m : MethodId) (u0 u1 u2 : Addr) (p1 : Int32) (p2 : Int32) : entryFrame m #[xi p1, xi p2] maxLocals = (mkF m 0 #[vi p1, vi p2, vu, vu, vu, vu, vu, vu, vu] []) := by first | (simp [entryFrame, mkF, argsToLocals, Value.category, maxLocals]; done) | rfl
set_option maxRecDepth 65536 in
set_option maxHeartbeats 40000000 in
theorem own_l3 (l : Launch) (Z : State) (a0 : Array Value) (hw : ∀ d ∈ tables_1, d.before a0 Z = true) (u0 u1 u2 : Addr) (G : own_St Z u0 u1 u2) (p1 : Int32) (p2 : Int32) (as1 : (p1 &&& (3 : Int32)) = (1 : Int32)) (as4 : ((p2 &&& (2147483647 : Int32)) - ((p2 &&& (2147483647 : Int32)) / (3 : Int32)) * (3 : Int32)) = (0 : Int32)) (h0 : Heap) (n0 : Nat) (O0 : Old Z n0 h0) : own_Met l Z x code maxLocals ret room_1 #[xi p1, xi p2] h0 (own_QL (some (xi (1 : Int32))) n0) := by
  intro ws
  refine MetFree.of_bodySF (plainFor_of_name pn2) hisR ?_
  intro p e s m args below meth c s₁ Bd hml0 hP hK
  obtain ⟨rfl, hZ, hh⟩ := hP
  have hx := Bd.exec
  have hby := Bd.bytes
  have hml : c.maxLocals = 9 := hml0
  have hown : s.vm.findClass "com/example/tidemark/tidemark/ChangeComposedPinLaw" = some m.cls := findClass_of_methodNamed Bd.named
  have hnm := (name_of_methodNamed Bd.named Bd.method).1
  have X0 : Stand p l e room_1 s m #[xi p1, xi p2] below meth c s₁ [] 0 0 := Stand.of_body Bd
  have e0 : s₁.heap = h0 := by rw [← hh, Bd.state]; rfl
  have N0 := Fr.nil n0
  have pre0 : ∀ t, Steps p.tables e below (s₁.setTop (mkF m 0 #[vi p1, vi p2, vu, vu, vu, vu, vu, vu, vu] [])) t → Steps p.tables e below (s₁.setTop (entryFrame m #[xi p1, xi p2] maxLocals)) t := fun t st => castTop (ef_own_l3 m u0 u1 u2 p1 p2) st
  obtain ⟨T1, h1, k1, X1, e1, E1, A1, Ov1, st1⟩ := newR X0 hx hZ hown (ww hw 0 rfl) (ww hw 1 rfl) e0 (g := (mkF m 1 #[vi p1, vi p2, vu, vu, vu, vu, vu, vu, vu] [xi (3 : Int32)])) rfl (hb hby at_1) rfl (by decide) (cap := 3) (by decide) (by decide) (by decide) (by decide)
  obtain ⟨b1, g1⟩ : ∃ z, z = h0.size := ⟨_, rfl⟩
  rw [← g1] at A1 st1
  have g_b1 : n0 ≤ b1 := own_fresh O0 g1
  have O1 : Old Z n0 h1 := O0.ext E1
  have V_b1 : Arv Z h1 b1 k1 (.object "com/example/tidemark/tidemark/Change") (3 : Int32) [.null, .null, .null] .null := (Arv.new A1 (by decide)).pad (pad_rep [] .null 3)
  obtain ⟨T2, X2, e2, st2⟩ := getS2 X1 hx hZ hown (host := "") (Or.inl (ww hw 2 rfl)) Via.refl e1 ((own_S_u0 G).ext O1.2) (g := (mkF m 6 #[vi p1, vi p2, vu, vu, vu, vu, vu, vu, vu] [xi (0 : Int32), xr b1, xr b1])) rfl (hb hby at_6)
  obtain ⟨cl3, Ar3, q3, S3, N3_, H3, G3⟩ := id V_b1
  have hin3 : ¬ ((0 : Int32) < 0 ∨ cl3.slots.size ≤ ((0 : Int32)).toNatClampNeg) := inb_of S3 ⟨by decide, by decide⟩
  obtain ⟨T4, h4, X4, e4, W4, st4⟩ := stR X2 hx hZ e2 Ar3 (j := (0 : Int32)) hin3 rfl (Sto.ofV Ar3 q3 Ov1 (Ins.self ((own_X_u0 G).ext O1.2))) (g := (mkF m 9 #[vi p1, vi p2, vu, vu, vu, vu, vu, vu, vu] [xr u0, xi (0 : Int32), xr b1, xr b1])) rfl rfl (hb hby at_9)
  have V_b1_4 : Arv Z h4 b1 k1 (.object "com/example/tidemark/tidemark/Change") (3 : Int32) [xr u0, .null, .null] .null := Arv.set Ar3 q3 S3 N3_ H3 G3 rfl W4 0 rfl (Nat.le_of_ble_eq_true rfl)
  have O4 : Old Z n0 h4 := O1.wr W4 g_b1
  have N4 := Fr.snoc X4 N0 g_b1
  obtain ⟨T5, X5, e5, st5⟩ := getS2 X4 hx hZ hown (host := "") (Or.inl (ww hw 6 rfl)) Via.refl e4 ((own_S_u1 G).ext O4.2) (g := (mkF m 12 #[vi p1, vi p2, vu, vu, vu, vu, vu, vu, vu] [xi (1 : Int32), xr b1, xr b1])) rfl (hb hby at_12)
  obtain ⟨cl6, Ar6, q6, S6, N6_, H6, G6⟩ := id V_b1_4
  have hin6 : ¬ ((1 : Int32) < 0 ∨ cl6.slots.size ≤ ((1 : Int32)).toNatClampNeg) := inb_of S6 ⟨by decide, by decide⟩
  obtain ⟨T7, h7, X7, e7, W7, st7⟩ := stR X5 hx hZ e5 Ar6 (j := (1 : Int32)) hin6 rfl (Sto.ofV Ar6 q6 Ov1 (Ins.self ((own_X_u1 G).ext O4.2))) (g := (mkF m 15 #[vi p1, vi p2, vu, vu, vu, vu, vu, vu, vu] [xr u1, xi (1 : Int32), xr b1, xr b1])) rfl rfl (hb hby at_15)
  have V_b1_7 : Arv Z h7 b1 k1 (.object "com/example/tidemark/tidemark/Change") (3 : Int32) [xr u0, xr u1, .null] .null := Arv.set Ar6 q6 S6 N6_ H6 G6 rfl W7 1 rfl (Nat.le_of_ble_eq_true rfl)
  have O7 : Old Z n0 h7 := O4.wr W7 g_b1
  have N7 := Fr.snoc X7 N4 g_b1
  obtain ⟨T8, X8, e8, st8⟩ := getS2 X7 hx hZ hown (host := "") (Or.inl (ww hw 8 rfl)) Via.refl e7 ((own_S_u2 G).ext O7.2) (g := (mkF m 18 #[vi p1, vi p2, vu, vu, vu, vu, vu, vu, vu] [xi (2 : Int32), xr b1, xr b1])) rfl (hb hby at_18)
  obtain ⟨cl9, Ar9, q9, S9, N9_, H9, G9⟩ := id V_b1_7
  have hin9 : ¬ ((2 : Int32) < 0 ∨ cl9.slots.size ≤ ((2 : Int32)).toNatClampNeg) := inb_of S9 ⟨by decide, by decide⟩
  obtain ⟨T10, h10, X10, e10, W10, st10⟩ := stR X8 hx hZ e8 Ar9 (j := (2 : Int32)) hin9 rfl (Sto.ofV Ar9 q9 Ov1 (Ins.self ((own_X_u2 G).ext O7.2))) (g := (mkF m 21 #[vi p1, vi p2, vu, vu, vu, vu, vu, vu, vu] [xr u2, xi (2 : Int32), xr b1, xr b1])) rfl rfl (hb hby at_21)
  have V_b1_10 : Arv Z h10 b1 k1 (.object "com/example/tidemark/tidemark/Change") (3 : Int32) [xr u0, xr u1, xr u2] .null := Arv.set Ar9 q9 S9 N9_ H9 G9 rfl W10 2 rfl (Nat.le_of_ble_eq_true rfl)
  have O10 : Old Z n0 h10 := O7.wr W10 g_b1
  have N10 := Fr.snoc X10 N7 g_b1
  obtain ⟨cl11, Ar11, q11, S11, N11_, H11, G11⟩ := id V_b1_10
  have hin11 : ¬ ((1 : Int32) < 0 ∨ cl11.slots.size ≤ ((1 : Int32)).toNatClampNeg) := inb_of S11 ⟨by decide, by decide⟩
  have hat11 : cl11.slots[((1 : Int32)).toNatClampNeg]? = some (xr u1) := Has.at H11 hin11 rfl
  obtain ⟨cl12, Ar12, q12, S12, N12_, H12, G12⟩ := id V_b1_10
  have hin12 : ¬ ((0 : Int32) < 0 ∨ cl12.slots.size ≤ ((0 : Int32)).toNatClampNeg) := inb_of S12 ⟨by decide, by decide⟩
  have hat12 : cl12.slots[((0 : Int32)).toNatClampNeg]? = some (xr u0) := Has.at H12 hin12 rfl
  obtain ⟨_, _, ⟨T13, L13, k13, n13⟩, -, X13, ⟨Lc13, hQ13, l13, y13, z13⟩, st13⟩ := Jvm.LawKit.callS X10 hx (y := Y0) hown (mvT hZ (ww hw 11 rfl)) (mvT hZ (ww hw 12 rfl)) (mvT hZ (ww hw 3 rfl)) (mvT hZ (ww hw 13 rfl)) (by decide) (backOf (W := 0) (own_c16_composed l Z a0 hw u0 u1 u2 G h10 n0 O10 []) hZ (ww hw 13 rfl) (ww hw 3 rfl) (by decide) (by decide)) (g := (mkF m 55 #[vi p1, vi p2, vr b1, vi (1 : Int32), vr u1, vr u0, vu, vu, vu] [xr u0, xr u1])) rfl (by rw [hml]; rfl) (argsL := [xr u1, xr u0]) (rest := []) (lenOf pd0 rfl) rfl (by show 2 * 0 + _ ≤ _; exact Nat.le_of_eq rfl) (hb hby at_55) (fun _ _ => ⟨rfl, e10, (by decide : 1 + 0 ≤ _), (by decide : 3 + 0 ≤ _)⟩)
  dsimp only [Pt.U, Pt.locs, Pt.cells, Pt.slots] at X13 l13 y13 z13 st13 hQ13
  subst l13 y13 z13
  obtain ⟨rfl, Nq13, e13⟩ := hQ13
  have N13 := Fr.app N10 Nq13
  obtain ⟨_, _, ⟨T14, L14, k14, n14⟩, -, X14, ⟨Lc14, hQ14, l14, y14, z14⟩, st14⟩ := Jvm.LawKit.callS X13 hx (y := Y4) hown (mvT hZ (ww hw 15 rfl)) (mvT hZ (ww hw 16 rfl)) (mvT hZ (ww hw 17 rfl)) (mvT hZ (ww hw 18 rfl)) (by decide) (backOf (W := 0) (own_c1_apply l Z a0 hw u0 u1 u2 G h10 n0 O10 []) hZ (ww hw 18 rfl) (ww hw 17 rfl) (by decide) (by decide)) (g := (mkF m 63 #[vi p1, vi p2, vr b1, vi (1 : Int32), vr u1, vr u0, vr u0, vu, vu] [xi (0 : Int32), xr u0])) rfl (by rw [hml]; rfl) (argsL := [xr u0, xi (0 : Int32)]) (rest := []) (lenOf pd3 rfl) rfl (by show 2 * 0 + _ ≤ _; exact Nat.le_of_eq rfl) (hb hby at_63) (fun _ _ => ⟨rfl, e13, (by decide : 1 + 0 ≤ _), (by decide : 3 + 0 ≤ _)⟩)
  dsimp only [Pt.U, Pt.locs, Pt.cells, Pt.slots] at X14 l14 y14 z14 st14 hQ14
  subst l14 y14 z14
  obtain ⟨rfl, Nq14, e14⟩ := hQ14
  have N14 := Fr.app N13 Nq14
  obtain ⟨_, _, ⟨T15, L15, k15, n15⟩, -, X15, ⟨Lc15, hQ15, l15, y15, z15⟩, st15⟩ := Jvm.LawKit.callS X14 hx (y := Y4) hown (mvT hZ (ww hw 15 rfl)) (mvT hZ (ww hw 16 rfl)) (mvT hZ (ww hw 17 rfl)) (mvT hZ (ww hw 18 rfl)) (by decide) (backOf (W := 2) (own_c7_apply l Z a0 hw u0 u1 u2 G h10 n0 O10 []) hZ (ww hw 18 rfl) (ww hw 17 rfl) (by decide) (by decide)) (g := (mkF m 71 #[vi p1, vi p2, vr b1, vi (1 : Int32), vr u1, vr u0, vr u0, vu, vu] [xi (0 : Int32), xr u1, xr u0, xi (1 : Int32)])) rfl (by rw [hml]; rfl) (argsL := [xr u1, xi (0 : Int32)]) (rest := [xr u0, xi (1 : Int32)]) (lenOf pd3 rfl) rfl (by show 2 * 0 + _ ≤ _; exact Nat.le_of_eq rfl) (hb hby at_71) (fun _ _ => ⟨rfl, e14, (by decide : 1 + 0 ≤ _), (by decide : 3 + 0 ≤ _)⟩)
  dsimp only [Pt.U, Pt.locs, Pt.cells, Pt.slots] at X15 l15 y15 z15 st15 hQ15
  subst l15 y15 z15
  obtain ⟨rfl, Nq15, e15⟩ := hQ15
  have N15 := Fr.app N14 Nq15
  obtain ⟨_, _, ⟨T16, L16, k16, n16⟩, -, X16, ⟨Lc16, hQ16, l16, y16, z16⟩, st16⟩ := Jvm.LawKit.callS X15 hx (y := Y4) hown (mvT hZ (ww hw 15 rfl)) (mvT hZ (ww hw 16 rfl)) (mvT hZ (ww hw 17 rfl)) (mvT hZ (ww hw 18 rfl)) (by decide) (backOf (W := 1) (own_c1_apply l Z a0 hw u0 u1 u2 G h10 n0 O10 []) hZ (ww hw 18 rfl) (ww hw 17 rfl) (by decide) (by decide)) (g := (mkF m 74 #[vi p1, vi p2, vr b1, vi (1 : Int32), vr u1, vr u0, vr u0, vu, vu] [xi (0 : Int32), xr u0, xi (1 : Int32)])) rfl (by rw [hml]; rfl) (argsL := [xr u0, xi (0 : Int32)]) (rest := [xi (1 : Int32)]) (lenOf pd3 rfl) rfl (by show 2 * 0 + _ ≤ _; exact Nat.le_of_eq rfl) (hb hby at_74) (fun _ _ => ⟨rfl, e15, (by decide : 1 + 0 ≤ _), (by decide : 3 + 0 ≤ _)⟩)
  dsimp only [Pt.U, Pt.locs, Pt.cells, Pt.slots] at X16 l16 y16 z16 st16 hQ16
  subst l16 y16 z16
  obtain ⟨rfl, Nq16, e16⟩ := hQ16
  have N16 := Fr.app N15 Nq16
  obtain ⟨_, _, ⟨T17, L17, k17, n17⟩, -, X17, ⟨Lc17, hQ17, l17, y17, z17⟩, st17⟩ := Jvm.LawKit.callS X16 hx (y := Y4) hown (mvT hZ (ww hw 15 rfl)) (mvT hZ (ww hw 16 rfl)) (mvT hZ (ww hw 17 rfl)) (mvT hZ (ww hw 18 rfl)) (by decide) (backOf (W := 0) (own_c4_apply l Z a0 hw u0 u1 u2 G h10 n0 O10 []) hZ (ww hw 18 rfl) (ww hw 17 rfl) (by decide) (by decide)) (g := (mkF m 90 #[vi p1, vi p2, vr b1, vi (1 : Int32), vr u1, vr u0, vr u0, vi (1 : Int32), vu] [xi (1 : Int32), xr u0])) rfl (by rw [hml]; rfl) (argsL := [xr u0, xi (1 : Int32)]) (rest := []) (lenOf pd3 rfl) rfl (by show 2 * 0 + _ ≤ _; exact Nat.le_of_eq rfl) (hb hby at_90) (fun _ _ => ⟨rfl, e16, (by decide : 1 + 0 ≤ _), (by decide : 3 + 0 ≤ _)⟩)
  dsimp only [Pt.U, Pt.locs, Pt.cells, Pt.slots] at X17 l17 y17 z17 st17 hQ17
  subst l17 y17 z17
  obtain ⟨rfl, Nq17, e17⟩ := hQ17
  have N17 := Fr.app N16 Nq17
  obtain ⟨_, _, ⟨T18, L18, k18, n18⟩, -, X18, ⟨Lc18, hQ18, l18, y18, z18⟩, st18⟩ := Jvm.LawKit.callS X17 hx (y := Y4) hown (mvT hZ (ww hw 15 rfl)) (mvT hZ (ww hw 16 rfl)) (mvT hZ (ww hw 17 rfl)) (mvT hZ (ww hw 18 rfl)) (by decide) (backOf (W := 2) (own_c10_apply l Z a0 hw u0 u1 u2 G h10 n0 O10 []) hZ (ww hw 18 rfl) (ww hw 17 rfl) (by decide) (by decide)) (g := (mkF m 98 #[vi p1, vi p2, vr b1, vi (1 : Int32), vr u1, vr u0, vr u0, vi (1 : Int32), vu] [xi (1 : Int32), xr u1, xr u0, xi (1 : Int32)])) rfl (by rw [hml]; rfl) (argsL := [xr u1, xi (1 : Int32)]) (rest := [xr u0, xi (1 : Int32)]) (lenOf pd3 rfl) rfl (by show 2 * 0 + _ ≤ _; exact Nat.le_of_eq rfl) (hb hby at_98) (fun _ _ => ⟨rfl, e17, (by decide : 1 + 0 ≤ _), (by decide : 3 + 0 ≤ _)⟩)
  dsimp only [Pt.U, Pt.locs, Pt.cells, Pt.slots] at X18 l18 y18 z18 st18 hQ18
  subst l18 y18 z18
  obtain ⟨rfl, Nq18, e18⟩ := hQ18
  have N18 := Fr.app N17 Nq18
  obtain ⟨_, _, ⟨T19, L19, k19, n19⟩, -, X19, ⟨Lc19, hQ19, l19, y19, z19⟩, st19⟩ := Jvm.LawKit.callS X18 hx (y := Y4) hown (mvT hZ (ww hw 15 rfl)) (mvT hZ (ww hw 16 rfl)) (mvT hZ (ww hw 17 rfl)) (mvT hZ (ww hw 18 rfl)) (by decide) (backOf (W := 1) (own_c1_apply l Z a0 hw u0 u1 u2 G h10 n0 O10 []) hZ (ww hw 18 rfl) (ww hw 17 rfl) (by decide) (by decide)) (g := (mkF m 101 #[vi p1, vi p2, vr b1, vi (1 : Int32), vr u1, vr u0, vr u0, vi (1 : Int32), vu] [xi (0 : Int32), xr u0, xi (1 : Int32)])) rfl (by rw [hml]; rfl) (argsL := [xr u0, xi (0 : Int32)]) (rest := [xi (1 : Int32)]) (lenOf pd3 rfl) rfl (by show 2 * 0 + _ ≤ _; exact Nat.le_of_eq rfl) (hb hby at_101) (fun _ _ => ⟨rfl, e18, (by decide : 1 + 0 ≤ _), (by decide : 3 + 0 ≤ _)⟩)
  dsimp only [Pt.U, Pt.locs, Pt.cells, Pt.slots] at X19 l19 y19 z19 st19 hQ19
  subst l19 y19 z19
  obtain ⟨rfl, Nq19, e19⟩ := hQ19
  have N19 := Fr.app N18 Nq19
  obtain ⟨fs, hr, hrun, hended, hW, hsame⟩ := X19.leave (v := some (xi (1 : Int32))) (fun h => by rw [Bd.returns] at h; cases h)
  refine ⟨_, _, pre0 _ ?_, hrun, hended, _, _, rfl, ?_, ⟨_, rfl⟩, hW, hsame.mono (by decide) (by decide)⟩
  · show own_S p e below s₁ (mkF m 0 #[vi p1, vi p2, vu, vu, vu, vu, vu, vu, vu] []) _
    refine XS.iconst X0.here hx rfl (hb hby at_0) ?_
    show own_S p e below s₁ (mkF m 1 #[vi p1, vi p2, vu, vu, vu, vu, vu, vu, vu] [xi (3 : Int32)]) _
    refine st1 _ ?_
    show own_S p e below T1 (mkF m 4 #[vi p1, vi p2, vu, vu, vu, vu, vu, vu, vu] [xr b1]) _
    refine XS.dup X1.here hx rfl (hb hby at_4) rfl rfl ?_
    show own_S p e below T1 (mkF m 5 #[vi p1, vi p2, vu, vu, vu, vu, vu, vu, vu] [xr b1, xr b1]) _
    refine XS.iconst X1.here hx rfl (hb hby at_5) ?_
    show own_S p e below T1 (mkF m 6 #[vi p1, vi p2, vu, vu, vu, vu, vu, vu, vu] [xi (0 : Int32), xr b1, xr b1]) _
    refine st2 _ ?_
    show own_S p e below T2 (mkF m 9 #[vi p1, vi p2, vu, vu, vu, vu, vu, vu, vu] [xr u0, xi (0 : Int32), xr b1, xr b1]) _
    refine st4 _ ?_
    show own_S p e below T4 (mkF m 10 #[vi p1, vi p2, vu, vu, vu, vu, vu, vu, vu] [xr b1]) _
    refine XS.dup X4.here hx rfl (hb hby at_10) rfl rfl ?_
    show own_S p e below T4 (mkF m 11 #[vi p1, vi p2, vu, vu, vu, vu, vu, vu, vu] [xr b1, xr b1]) _
    refine XS.iconst X4.here hx rfl (hb hby at_11) ?_
    show own_S p e below T4 (mkF m 12 #[vi p1, vi p2, vu, vu, vu, vu, vu, vu, vu] [xi (1 : Int32), xr b1, xr b1]) _
    refine st5 _ ?_
    show own_S p e below T5 (mkF m 15 #[vi p1, vi p2, vu, vu, vu, vu, vu, vu, vu] [xr u1, xi (1 : Int32), xr b1, xr b1]) _
    refine st7 _ ?_
    show own_S p e below T7 (mkF m 16 #[vi p1, vi p2, vu, vu, vu, vu, vu, vu, vu] [xr b1]) _
    refine XS.dup X7.here hx rfl (hb hby at_16) rfl rfl ?_
    show own_S p e below T7 (mkF m 17 #[vi p1, vi p2, vu, vu, vu, vu, vu, vu, vu] [xr b1, xr b1]) _
    refine XS.iconst X7.here hx rfl (hb hby at_17) ?_
    show own_S p e below T7 (mkF m 18 #[vi p1, vi p2, vu, vu, vu, vu, vu, vu, vu] [xi (2 : Int32), xr b1, xr b1]) _
    refine st8 _ ?_
    show own_S p e below T8 (mkF m 21 #[vi p1, vi p2, vu, vu, vu, vu, vu, vu, vu] [xr u2, xi (2 : Int32), xr b1, xr b1]) _
    refine st10 _ ?_
    show own_S p e below T10 (mkF m 22 #[vi p1, vi p2, vu, vu, vu, vu, vu, vu, vu] [xr b1]) _
    refine XS.astoreN X10.here hx rfl (hb hby at_22) rfl rfl (l' := #[vi p1, vi p2, vr b1, vu, vu, vu, vu, vu, vu]) rfl ?_
    show own_S p e below T10 (mkF m 23 #[vi p1, vi p2, vr b1, vu, vu, vu, vu, vu, vu] []) _
    refine XS.iloadN X10.here hx rfl (hb hby at_23) rfl ?_
    show own_S p e below T10 (mkF m 24 #[vi p1, vi p2, vr b1, vu, vu, vu, vu, vu, vu] [xi p1]) _
    refine XS.iconst X10.here hx rfl (hb hby at_24) ?_
    show own_S p e below T10 (mkF m 25 #[vi p1, vi p2, vr b1, vu, vu, vu, vu, vu, vu] [xi (3 : Int32), xi p1]) _
    refine XS.iand X10.here hx rfl (hb hby at_25) rfl ?_
    show own_S p e below T10 (mkF m 26 #[vi p1, vi p2, vr b1, vu, vu, vu, vu, vu, vu] [xi (p1 &&& (3 : Int32))]) _
    refine castTop (show (mkF m 26 #[vi p1, vi p2, vr b1, vu, vu, vu, vu, vu, vu] [xi (p1 &&& (3 : Int32))]) = (mkF m 26 #[vi p1, vi p2, vr b1, vu, vu, vu, vu, vu, vu] [xi (1 : Int32)]) from by rw [as1]) ?_
    show own_S p e below T10 (mkF m 26 #[vi p1, vi p2, vr b1, vu, vu, vu, vu, vu, vu] [xi (1 : Int32)]) _
    refine XS.istoreN X10.here hx rfl (hb hby at_26) rfl (l' := #[vi p1, vi p2, vr b1, vi (1 : Int32), vu, vu, vu, vu, vu]) rfl ?_
    show own_S p e below T10 (mkF m 27 #[vi p1, vi p2, vr b1, vi (1 : Int32), vu, vu, vu, vu, vu] []) _
    refine XS.iloadN X10.here hx rfl (hb hby at_27) rfl ?_
    show own_S p e below T10 (mkF m 28 #[vi p1, vi p2, vr b1, vi (1 : Int32), vu, vu, vu, vu, vu] [xi (1 : Int32)]) _
    refine XS.iconst X10.here hx rfl (hb hby at_28) ?_
    show own_S p e below T10 (mkF m 29 #[vi p1, vi p2, vr b1, vi (1 : Int32), vu, vu, vu, vu, vu] [xi (3 : Int32), xi (1 : Int32)]) _
    refine XS.icmpYes X10.here hx rfl (pc0 := 29) (pc' := 36) rfl (hb hby at_29) rfl (by decide) (by decide) (by decide) ?_
    show own_S p e below T10 (mkF m 36 #[vi p1, vi p2, vr b1, vi (1 : Int32), vu, vu, vu, vu, vu] []) _
    refine XS.aloadN X10.here hx rfl (hb hby at_36) rfl rfl ?_
    show own_S p e below T10 (mkF m 37 #[vi p1, vi p2, vr b1, vi (1 : Int32), vu, vu, vu, vu, vu] [xr b1]) _
    refine XS.iloadN X10.here hx rfl (hb hby at_37) rfl ?_
    show own_S p e below T10 (mkF m 38 #[vi p1, vi p2, vr b1, vi (1 : Int32), vu, vu, vu, vu, vu] [xi (1 : Int32), xr b1]) _
    refine X10.aaload hx (j := (1 : Int32)) (v := (xr u1)) (by rw [e10]; exact Ar11.1) (State.isArrayOf_alike hZ.alike Ar11.2.1) rfl Ar11.2.2 hin11 hat11 (g := (mkF m 38 #[vi p1, vi p2, vr b1, vi (1 : Int32), vu, vu, vu, vu, vu] [xi (1 : Int32), xr b1])) rfl rfl (hb hby at_38) _ ?_
    show own_S p e below T10 (mkF m 39 #[vi p1, vi p2, vr b1, vi (1 : Int32), vu, vu, vu, vu, vu] [xr u1]) _
    refine XS.astore X10.here hx rfl (hb hby at_39) rfl rfl (l' := #[vi p1, vi p2, vr b1, vi (1 : Int32), vr u1, vu, vu, vu, vu]) rfl ?_
    show own_S p e below T10 (mkF m 41 #[vi p1, vi p2, vr b1, vi (1 : Int32), vr u1, vu, vu, vu, vu] []) _
    refine XS.aloadN X10.here hx rfl (hb hby at_41) rfl rfl ?_
    show own_S p e below T10 (mkF m 42 #[vi p1, vi p2, vr b1, vi (1 : Int32), vr u1, vu, vu, vu, vu] [xr b1]) _
    refine XS.iloadN X10.here hx rfl (hb hby at_42) rfl ?_
    show own_S p e below T10 (mkF m 43 #[vi p1, vi p2, vr b1, vi (1 : Int32), vr u1, vu, vu, vu, vu] [xi p2, xr b1]) _
    refine X10.ldcI hx hown (mvT hZ (ww hw 10 rfl)) (g := (mkF m 43 #[vi p1, vi p2, vr b1, vi (1 : Int32), vr u1, vu, vu, vu, vu] [xi p2, xr b1])) rfl (hb hby at_43) ?_
    show own_S p e below T10 (mkF m 45 #[vi p1, vi p2, vr b1, vi (1 : Int32), vr u1, vu, vu, vu, vu] [xi (2147483647 : Int32), xi p2, xr b1]) _
    refine XS.iand X10.here hx rfl (hb hby at_45) rfl ?_
    show own_S p e below T10 (mkF m 46 #[vi p1, vi p2, vr b1, vi (1 : Int32), vr u1, vu, vu, vu, vu] [xi (p2 &&& (2147483647 : Int32)), xr b1]) _
    show own_S p e below T10 (mkF m 46 #[vi p1, vi p2, vr b1, vi (1 : Int32), vr u1, vu, vu, vu, vu] [xi (p2 &&& (2147483647 : Int32)), xr b1]) _
    refine XS.iconst X10.here hx rfl (hb hby at_46) ?_
    show own_S p e below T10 (mkF m 47 #[vi p1, vi p2, vr b1, vi (1 : Int32), vr u1, vu, vu, vu, vu] [xi (3 : Int32), xi (p2 &&& (2147483647 : Int32)), xr b1]) _
    refine XS.irem X10.here hx rfl (hb hby at_47) rfl (by decide) ?_
    show own_S p e below T10 (mkF m 48 #[vi p1, vi p2, vr b1, vi (1 : Int32), vr u1, vu, vu, vu, vu] [xi ((p2 &&& (2147483647 : Int32)) - ((p2 &&& (2147483647 : Int32)) / (3 : Int32)) * (3 : Int32)), xr b1]) _
    refine castTop (show (mkF m 48 #[vi p1, vi p2, vr b1, vi (1 : Int32), vr u1, vu, vu, vu, vu] [xi ((p2 &&& (2147483647 : Int32)) - ((p2 &&& (2147483647 : Int32)) / (3 : Int32)) * (3 : Int32)), xr b1]) = (mkF m 48 #[vi p1, vi p2, vr b1, vi (1 : Int32), vr u1, vu, vu, vu, vu] [xi (0 : Int32), xr b1]) from by rw [as4]) ?_
    show own_S p e below T10 (mkF m 48 #[vi p1, vi p2, vr b1, vi (1 : Int32), vr u1, vu, vu, vu, vu] [xi (0 : Int32), xr b1]) _
    refine X10.aaload hx (j := (0 : Int32)) (v := (xr u0)) (by rw [e10]; exact Ar12.1) (State.isArrayOf_alike hZ.alike Ar12.2.1) rfl Ar12.2.2 hin12 hat12 (g := (mkF m 48 #[vi p1, vi p2, vr b1, vi (1 : Int32), vr u1, vu, vu, vu, vu] [xi (0 : Int32), xr b1])) rfl rfl (hb hby at_48) _ ?_
    show own_S p e below T10 (mkF m 49 #[vi p1, vi p2, vr b1, vi (1 : Int32), vr u1, vu, vu, vu, vu] [xr u0]) _
    refine XS.astore X10.here hx rfl (hb hby at_49) rfl rfl (l' := #[vi p1, vi p2, vr b1, vi (1 : Int32), vr u1, vr u0, vu, vu, vu]) rfl ?_
    show own_S p e below T10 (mkF m 51 #[vi p1, vi p2, vr b1, vi (1 : Int32), vr u1, vr u0, vu, vu, vu] []) _
    refine XS.aload X10.here hx rfl (hb hby at_51) rfl rfl ?_
    show own_S p e below T10 (mkF m 53 #[vi p1, vi p2, vr b1, vi (1 : Int32), vr u1, vr u0, vu, vu, vu] [xr u1]) _
    refine XS.aload X10.here hx rfl (hb hby at_53) rfl rfl ?_
    show own_S p e below T10 (mkF m 55 #[vi p1, vi p2, vr b1, vi (1 : Int32), vr u1, vr u0, vu, vu, vu] [xr u0, xr u1]) _
    refine st13 _ ?_
    show own_S p e below T13 (mkF m 58 #[vi p1, vi p2, vr b1, vi (1 : Int32), vr u1, vr u0, vu, vu, vu] [xr u0]) _
    refine XS.astore X13.here hx rfl (hb hby at_58) rfl rfl (l' := #[vi p1, vi p2, vr b1, vi (1 : Int32), vr u1, vr u0, vr u0, vu, vu]) rfl ?_
    show own_S p e below T13 (mkF m 60 #[vi p1, vi p2, vr b1, vi (1 : Int32), vr u1, vr u0, vr u0, vu, vu] []) _
    refine XS.aload X13.here hx rfl (hb hby at_60) rfl rfl ?_
    show own_S p e below T13 (mkF m 62 #[vi p1, vi p2, vr b1, vi (1 : Int32), vr u1, vr u0, vr u0, vu, vu] [xr u0]) _
    refine XS.iconst X13.here hx rfl (hb hby at_62) ?_
    show own_S p e below T13 (mkF m 63 #[vi p1, vi p2, vr b1, vi (1 : Int32), vr u1, vr u0, vr u0, vu, vu] [xi (0 : Int32), xr u0]) _
    refine st14 _ ?_
    show own_S p e below T14 (mkF m 66 #[vi p1, vi p2, vr b1, vi (1 : Int32), vr u1, vr u0, vr u0, vu, vu] [xi (1 : Int32)]) _
    refine XS.aload X14.here hx rfl (hb hby at_66) rfl rfl ?_
    show own_S p e below T14 (mkF m 68 #[vi p1, vi p2, vr b1, vi (1 : Int32), vr u1, vr u0, vr u0, vu, vu] [xr u0, xi (1 : Int32)]) _
    refine XS.aload X14.here hx rfl (hb hby at_68) rfl rfl ?_
    show own_S p e below T14 (mkF m 70 #[vi p1, vi p2, vr b1, vi (1 : Int32), vr u1, vr u0, vr u0, vu, vu] [xr u1, xr u0, xi (1 : Int32)]) _
    refine XS.iconst X14.here hx rfl (hb hby at_70) ?_
    show own_S p e below T14 (mkF m 71 #[vi p1, vi p2, vr b1, vi (1 : Int32), vr u1, vr u0, vr u0, vu, vu] [xi (0 : Int32), xr u1, xr u0, xi (1 : Int32)]) _
    refine st15 _ ?_
    show own_S p e below T15 (mkF m 74 #[vi p1, vi p2, vr b1, vi (1 : Int32), vr u1, vr u0, vr u0, vu, vu] [xi (0 : Int32), xr u0, xi (1 : Int32)]) _
    refine st16 _ ?_
    show own_S p e below T16 (mkF m 77 #[vi p1, vi p2, vr b1, vi (1 : Int32), vr u1, vr u0, vr u0, vu, vu] [xi (1 : Int32), xi (1 : Int32)]) _
    refine XS.icmpNo X16.here hx rfl (hb hby at_77) rfl (by decide) ?_
    show own_S p e below T16 (mkF m 80 #[vi p1, vi p2, vr b1, vi (1 : Int32), vr u1, vr u0, vr u0, vu, vu] []) _
    refine XS.iconst X16.here hx rfl (hb hby at_80) ?_
    show own_S p e below T16 (mkF m 81 #[vi p1, vi p2, vr b1, vi (1 : Int32), vr u1, vr u0, vr u0, vu, vu] [xi (1 : Int32)]) _
    refine XS.goto X16.here hx rfl (pc0 := 81) (pc' := 85) rfl (hb hby at_81) (by decide) (by decide) ?_
    show own_S p e below T16 (mkF m 85 #[vi p1, vi p2, vr b1, vi (1 : Int32), vr u1, vr u0, vr u0, vu, vu] [xi (1 : Int32)]) _
    refine XS.istore X16.here hx rfl (hb hby at_85) rfl (l' := #[vi p1, vi p2, vr b1, vi (1 : Int32), vr u1, vr u0, vr u0, vi (1 : Int32), vu]) rfl ?_
    show own_S p e below T16 (mkF m 87 #[vi p1, vi p2, vr b1, vi (1 : Int32), vr u1, vr u0, vr u0, vi (1 : Int32), vu] []) _
    refine XS.aload X16.here hx rfl (hb hby at_87) rfl rfl ?_
    show own_S p e below T16 (mkF m 89 #[vi p1, vi p2, vr b1, vi (1 : Int32), vr u1, vr u0, vr u0, vi (1 : Int32), vu] [xr u0]) _
    refine XS.iconst X16.here hx rfl (hb hby at_89) ?_
    show own_S p e below T16 (mkF m 90 #[vi p1, vi p2, vr b1, vi (1 : Int32), vr u1, vr u0, vr u0, vi (1 : Int32), vu] [xi (1 : Int32), xr u0]) _
    refine st17 _ ?_
    show own_S p e below T17 (mkF m 93 #[vi p1, vi p2, vr b1, vi (1 : Int32), vr u1, vr u0, vr u0, vi (1 : Int32), vu] [xi (1 : Int32)]) _
    refine XS.aload X17.here hx rfl (hb hby at_93) rfl rfl ?_
    show own_S p e below T17 (mkF m 95 #[vi p1, vi p2, vr b1, vi (1 : Int32), vr u1, vr u0, vr u0, vi (1 : Int32), vu] [xr u0, xi (1 : Int32)]) _
    refine XS.aload X17.here hx rfl (hb hby at_95) rfl rfl ?_
    show own_S p e below T17 (mkF m 97 #[vi p1, vi p2, vr b1, vi (1 : Int32), vr u1, vr u0, vr u0, vi (1 : Int32), vu] [xr u1, xr u0, xi (1 : Int32)]) _
    refine XS.iconst X17.here hx rfl (hb hby at_97) ?_
    show own_S p e below T17 (mkF m 98 #[vi p1, vi p2, vr b1, vi (1 : Int32), vr u1, vr u0, vr u0, vi (1 : Int32), vu] [xi (1 : Int32), xr u1, xr u0, xi (1 : Int32)]) _
    refine st18 _ ?_
    show own_S p e below T18 (mkF m 101 #[vi p1, vi p2, vr b1, vi (1 : Int32), vr u1, vr u0, vr u0, vi (1 : Int32), vu] [xi (0 : Int32), xr u0, xi (1 : Int32)]) _
    refine st19 _ ?_
    show own_S p e below T19 (mkF m 104 #[vi p1, vi p2, vr b1, vi (1 : Int32), vr u1, vr u0, vr u0, vi (1 : Int32), vu] [xi (1 : Int32), xi (1 : Int32)]) _
    refine XS.icmpNo X19.here hx rfl (hb hby at_104) rfl (by decide) ?_
    show own_S p e below T19 (mkF m 107 #[vi p1, vi p2, vr b1, vi (1 : Int32), vr u1, vr u0, vr u0, vi (1 : Int32), vu] []) _
    refine XS.iconst X19.here hx rfl (hb hby at_107) ?_
    show own_S p e below T19 (mkF m 108 #[vi p1, vi p2, vr b1, vi (1 : Int32), vr u1, vr u0, vr u0, vi (1 : Int32), vu] [xi (1 : Int32)]) _
    refine XS.goto X19.here hx rfl (pc0 := 108) (pc' := 112) rfl (hb hby at_108) (by decide) (by decide) ?_
    show own_S p e below T19 (mkF m 112 #[vi p1, vi p2, vr b1, vi (1 : Int32), vr u1, vr u0, vr u0, vi (1 : Int32), vu] [xi (1 : Int32)]) _
    refine XS.istore X19.here hx rfl (hb hby at_112) rfl (l' := #[vi p1, vi p2, vr b1, vi (1 : Int32), vr u1, vr u0, vr u0, vi (1 : Int32), vi (1 : Int32)]) rfl ?_
    show own_S p e below T19 (mkF m 114 #[vi p1, vi p2, vr b1, vi (1 : Int32), vr u1, vr u0, vr u0, vi (1 : Int32), vi (1 : Int32)] []) _
    refine XS.iload X19.here hx rfl (hb hby at_114) rfl ?_
    show own_S p e below T19 (mkF m 116 #[vi p1, vi p2, vr b1, vi (1 : Int32), vr u1, vr u0, vr u0, vi (1 : Int32), vi (1 : Int32)] [xi (1 : Int32)]) _
    refine XS.ifNo X19.here hx rfl (hb hby at_116) rfl (by decide) ?_
    show own_S p e below T19 (mkF m 119 #[vi p1, vi p2, vr b1, vi (1 : Int32), vr u1, vr u0, vr u0, vi (1 : Int32), vi (1 : Int32)] []) _
    refine XS.iload X19.here hx rfl (hb hby at_119) rfl ?_
    show own_S p e below T19 (mkF m 121 #[vi p1, vi p2, vr b1, vi (1 : Int32), vr u1, vr u0, vr u0, vi (1 : Int32), vi (1 : Int32)] [xi (1 : Int32)]) _
    refine XS.ifNo X19.here hx rfl (hb hby at_121) rfl (by decide) ?_
    show own_S p e below T19 (mkF m 124 #[vi p1, vi p2, vr b1, vi (1 : Int32), vr u1, vr u0, vr u0, vi (1 : Int32), vi (1 : Int32)] []) _
    refine XS.iconst X19.here hx rfl (hb hby at_124) ?_
    show own_S p e below T19 (mkF m 125 #[vi p1, vi p2, vr b1, vi (1 : Int32), vr u1, vr u0, vr u0, vi (1 : Int32), vi (1 : Int32)] [xi (1 : Int32)]) _
    refine XS.goto X19.here hx rfl (pc0 := 125) (pc' := 129) rfl (hb hby at_125) (by decide) (by decide) ?_
    show own_S p e below T19 (mkF m 129 #[vi p1, vi p2, vr b1, vi (1 : Int32), vr u1, vr u0, vr u0, vi (1 : Int32), vi (1 : Int32)] [xi (1 : Int32)]) _
    exact retN X19 hx (t := .boolean) Bd.returns (by simp) (hb hby at_129) hr
  · exact ⟨rfl, N19⟩
theorem ef_own_c17_composed (m : MethodId) (u0 u1 u2 : Addr) : entryFrame m #[xr u1, xr u1] 3 = (mkF m 0 #[vr u1, vr u1, vu] []) := by first | (simp [entryFrame, mkF, argsToLocals, Value.category]; done) | rfl
set_option maxRecDepth 65536 in
set_option maxHeartbeats 40000000 in
theorem own_c17_composed (l : Launch) (Z : State) (a0 : Array Value) (hw : ∀ d ∈ tables_1, d.before a0 Z = true) (u0 u1 u2 : Addr) (G : own_St Z u0 u1 u2) (h0 : Heap) (n0 : Nat) (O0 : Old Z n0 h0) : own_Met l Z Y0 prog_1_method_7_code 3 (some (.object "com/example/tidemark/tidemark/Change")) ({ frames := 0, cells := 0, slots := 0, locals := 0 } : Room) #[xr u1, xr u1] h0 (own_QR (some (xr u1)) h0 n0) := by
  intro ws
  refine MetFree.of_bodySF (plainFor_of_name pn0) hisR ?_
  intro p e s m args below meth c s₁ Bd hml0 hP hK
  obtain ⟨rfl, hZ, hh⟩ := hP
  have hx := Bd.exec
  have hby := Bd.bytes
  have hml : c.maxLocals = 3 := hml0
  have hown : s.vm.findClass "com/example/tidemark/tidemark/Change" = some m.cls := findClass_of_methodNamed Bd.named
  have hnm := (name_of_methodNamed Bd.named Bd.method).1
  have X0 : Stand p l e ({ frames := 0, cells := 0, slots := 0, locals := 0 } : Room) s m #[xr u1, xr u1] below meth c s₁ [] 0 0 := Stand.of_body Bd
  have e0 : s₁.heap = h0 := by rw [← hh, Bd.state]; rfl
  have N0 := Fr.nil n0
  have pre0 : ∀ t, Steps p.tables e below (s₁.setTop (mkF m 0 #[vr u1, vr u1, vu] [])) t → Steps p.tables e below (s₁.setTop (entryFrame m #[xr u1, xr u1] 3)) t := fun t st => castTop (ef_own_c17_composed m u0 u1 u2) st
  obtain ⟨T1, X1, e1, st1⟩ := getS2 X0 hx hZ hown (host := "") (Or.inl (ww hw 14 rfl)) Via.refl e0 ((own_S_u2 G).ext O0.2) (g := (mkF m 3 #[vr u1, vr u1, vr u1] [xr u1])) rfl (hb hby d1_3)
  obtain ⟨fs, hr, hrun, hended, hW, hsame⟩ := X1.leave (v := some (xr u1)) (fun h => by rw [Bd.returns] at h; cases h)
  refine ⟨_, _, pre0 _ ?_, hrun, hended, _, _, rfl, ?_, ⟨_, rfl⟩, hW, hsame.mono (by decide) (by decide)⟩
  · show own_S p e below s₁ (mkF m 0 #[vr u1, vr u1, vu] []) _
    refine XS.aloadN X0.here hx rfl (hb hby d1_0) rfl rfl ?_
    show own_S p e below s₁ (mkF m 1 #[vr u1, vr u1, vu] [xr u1]) _
    refine XS.astoreN X0.here hx rfl (hb hby d1_1) rfl rfl (l' := #[vr u1, vr u1, vr u1]) rfl ?_
    show own_S p e below s₁ (mkF m 2 #[vr u1, vr u1, vr u1] []) _
    refine XS.aloadN X0.here hx rfl (hb hby d1_2) rfl rfl ?_
    show own_S p e below s₁ (mkF m 3 #[vr u1, vr u1, vr u1] [xr u1]) _
    refine st1 _ ?_
    show own_S p e below T1 (mkF m 6 #[vr u1, vr u1, vr u1] [xr u2, xr u1]) _
    refine Jvm.RoadKit.acmp (g := (mkF m 6 #[vr u1, vr u1, vr u1] [xr u2, xr u1])) X1 hx rfl rfl rfl (pc0 := 6) (pc' := 68) (same := false) rfl (hb hby d1_6) rfl (own_ref (own_ne_u1_u2 G)) (by decide) (by decide) ?_
    show own_S p e below T1 (mkF m 68 #[vr u1, vr u1, vr u1] []) _
    refine XS.aloadN X1.here hx rfl (hb hby d1_68) rfl rfl ?_
    show own_S p e below T1 (mkF m 69 #[vr u1, vr u1, vr u1] [xr u1]) _
    exact X1.areturnOut hx rfl Bd.returns rfl (hb hby d1_69) hr
  · exact ⟨rfl, N0, e1⟩
theorem ef_own_l4 (m : MethodId) (u0 u1 u2 : Addr) (p1 : Int32) (p2 : Int32) : entryFrame m #[xi p1, xi p2] maxLocals = (mkF m 0 #[vi p1, vi p2, vu, vu, vu, vu, vu, vu, vu] []) := by first | (simp [entryFrame, mkF, argsToLocals, Value.category, maxLocals]; done) | rfl
set_option maxRecDepth 65536 in
set_option maxHeartbeats 40000000 in
theorem own_l4 (l : Launch) (Z : State) (a0 : Array Value) (hw : ∀ d ∈ tables_1, d.before a0 Z = true) (u0 u1 u2 : Addr) (G : own_St Z u0 u1 u2) (p1 : Int32) (p2 : Int32) (as1 : (p1 &&& (3 : Int32)) = (1 : Int32)) (as5 : ((p2 &&& (2147483647 : Int32)) - ((p2 &&& (2147483647 : Int32)) / (3 : Int32)) * (3 : Int32)) = (1 : Int32)) (h0 : Heap) (n0 : Nat) (O0 : Old Z n0 h0) : own_Met l Z x code maxLocals ret room_1 #[xi p1, xi p2] h0 (own_QL (some (xi (1 : Int32))) n0) := by
  intro ws
  refine MetFree.of_bodySF (plainFor_of_name pn2) hisR ?_
  intro p e s m args below meth c s₁ Bd hml0 hP hK
  obtain ⟨rfl, hZ, hh⟩ := hP
  have hx := Bd.exec
  have hby := Bd.bytes
  have hml : c.maxLocals = 9 := hml0
  have hown : s.vm.findClass "com/example/tidemark/tidemark/ChangeComposedPinLaw" = some m.cls := findClass_of_methodNamed Bd.named
  have hnm := (name_of_methodNamed Bd.named Bd.method).1
  have X0 : Stand p l e room_1 s m #[xi p1, xi p2] below meth c s₁ [] 0 0 := Stand.of_body Bd
  have e0 : s₁.heap = h0 := by rw [← hh, Bd.state]; rfl
  have N0 := Fr.nil n0
  have pre0 : ∀ t, Steps p.tables e below (s₁.setTop (mkF m 0 #[vi p1, vi p2, vu, vu, vu, vu, vu, vu, vu] [])) t → Steps p.tables e below (s₁.setTop (entryFrame m #[xi p1, xi p2] maxLocals)) t := fun t st => castTop (ef_own_l4 m u0 u1 u2 p1 p2) st
  obtain ⟨T1, h1, k1, X1, e1, E1, A1, Ov1, st1⟩ := newR X0 hx hZ hown (ww hw 0 rfl) (ww hw 1 rfl) e0 (g := (mkF m 1 #[vi p1, vi p2, vu, vu, vu, vu, vu, vu, vu] [xi (3 : Int32)])) rfl (hb hby at_1) rfl (by decide) (cap := 3) (by decide) (by decide) (by decide) (by decide)
  obtain ⟨b1, g1⟩ : ∃ z, z = h0.size := ⟨_, rfl⟩
  rw [← g1] at A1 st1
  have g_b1 : n0 ≤ b1 := own_fresh O0 g1
  have O1 : Old Z n0 h1 := O0.ext E1
  have V_b1 : Arv Z h1 b1 k1 (.object "com/example/tidemark/tidemark/Change") (3 : Int32) [.null, .null, .null] .null := (Arv.new A1 (by decide)).pad (pad_rep [] .null 3)
  obtain ⟨T2, X2, e2, st2⟩ := getS2 X1 hx hZ hown (host := "") (Or.inl (ww hw 2 rfl)) Via.refl e1 ((own_S_u0 G).ext O1.2) (g := (mkF m 6 #[vi p1, vi p2, vu, vu, vu, vu, vu, vu, vu] [xi (0 : Int32), xr b1, xr b1])) rfl (hb hby at_6)
  obtain ⟨cl3, Ar3, q3, S3, N3_, H3, G3⟩ := id V_b1
  have hin3 : ¬ ((0 : Int32) < 0 ∨ cl3.slots.size ≤ ((0 : Int32)).toNatClampNeg) := inb_of S3 ⟨by decide, by decide⟩
  obtain ⟨T4, h4, X4, e4, W4, st4⟩ := stR X2 hx hZ e2 Ar3 (j := (0 : Int32)) hin3 rfl (Sto.ofV Ar3 q3 Ov1 (Ins.self ((own_X_u0 G).ext O1.2))) (g := (mkF m 9 #[vi p1, vi p2, vu, vu, vu, vu, vu, vu, vu] [xr u0, xi (0 : Int32), xr b1, xr b1])) rfl rfl (hb hby at_9)
  have V_b1_4 : Arv Z h4 b1 k1 (.object "com/example/tidemark/tidemark/Change") (3 : Int32) [xr u0, .null, .null] .null := Arv.set Ar3 q3 S3 N3_ H3 G3 rfl W4 0 rfl (Nat.le_of_ble_eq_true rfl)
  have O4 : Old Z n0 h4 := O1.wr W4 g_b1
  have N4 := Fr.snoc X4 N0 g_b1
  obtain ⟨T5, X5, e5, st5⟩ := getS2 X4 hx hZ hown (host := "") (Or.inl (ww hw 6 rfl)) Via.refl e4 ((own_S_u1 G).ext O4.2) (g := (mkF m 12 #[vi p1, vi p2, vu, vu, vu, vu, vu, vu, vu] [xi (1 : Int32), xr b1, xr b1])) rfl (hb hby at_12)
  obtain ⟨cl6, Ar6, q6, S6, N6_, H6, G6⟩ := id V_b1_4
  have hin6 : ¬ ((1 : Int32) < 0 ∨ cl6.slots.size ≤ ((1 : Int32)).toNatClampNeg) := inb_of S6 ⟨by decide, by decide⟩
  obtain ⟨T7, h7, X7, e7, W7, st7⟩ := stR X5 hx hZ e5 Ar6 (j := (1 : Int32)) hin6 rfl (Sto.ofV Ar6 q6 Ov1 (Ins.self ((own_X_u1 G).ext O4.2))) (g := (mkF m 15 #[vi p1, vi p2, vu, vu, vu, vu, vu, vu, vu] [xr u1, xi (1 : Int32), xr b1, xr b1])) rfl rfl (hb hby at_15)
  have V_b1_7 : Arv Z h7 b1 k1 (.object "com/example/tidemark/tidemark/Change") (3 : Int32) [xr u0, xr u1, .null] .null := Arv.set Ar6 q6 S6 N6_ H6 G6 rfl W7 1 rfl (Nat.le_of_ble_eq_true rfl)
  have O7 : Old Z n0 h7 := O4.wr W7 g_b1
  have N7 := Fr.snoc X7 N4 g_b1
  obtain ⟨T8, X8, e8, st8⟩ := getS2 X7 hx hZ hown (host := "") (Or.inl (ww hw 8 rfl)) Via.refl e7 ((own_S_u2 G).ext O7.2) (g := (mkF m 18 #[vi p1, vi p2, vu, vu, vu, vu, vu, vu, vu] [xi (2 : Int32), xr b1, xr b1])) rfl (hb hby at_18)
  obtain ⟨cl9, Ar9, q9, S9, N9_, H9, G9⟩ := id V_b1_7
  have hin9 : ¬ ((2 : Int32) < 0 ∨ cl9.slots.size ≤ ((2 : Int32)).toNatClampNeg) := inb_of S9 ⟨by decide, by decide⟩
  obtain ⟨T10, h10, X10, e10, W10, st10⟩ := stR X8 hx hZ e8 Ar9 (j := (2 : Int32)) hin9 rfl (Sto.ofV Ar9 q9 Ov1 (Ins.self ((own_X_u2 G).ext O7.2))) (g := (mkF m 21 #[vi p1, vi p2, vu, vu, vu, vu, vu, vu, vu] [xr u2, xi (2 : Int32), xr b1, xr b1])) rfl rfl (hb hby at_21)
  have V_b1_10 : Arv Z h10 b1 k1 (.object "com/example/tidemark/tidemark/Change") (3 : Int32) [xr u0, xr u1, xr u2] .null := Arv.set Ar9 q9 S9 N9_ H9 G9 rfl W10 2 rfl (Nat.le_of_ble_eq_true rfl)
  have O10 : Old Z n0 h10 := O7.wr W10 g_b1
  have N10 := Fr.snoc X10 N7 g_b1
  obtain ⟨cl11, Ar11, q11, S11, N11_, H11, G11⟩ := id V_b1_10
  have hin11 : ¬ ((1 : Int32) < 0 ∨ cl11.slots.size ≤ ((1 : Int32)).toNatClampNeg) := inb_of S11 ⟨by decide, by decide⟩
  have hat11 : cl11.slots[((1 : Int32)).toNatClampNeg]? = some (xr u1) := Has.at H11 hin11 rfl
  obtain ⟨cl12, Ar12, q12, S12, N12_, H12, G12⟩ := id V_b1_10
  have hin12 : ¬ ((1 : Int32) < 0 ∨ cl12.slots.size ≤ ((1 : Int32)).toNatClampNeg) := inb_of S12 ⟨by decide, by decide⟩
  have hat12 : cl12.slots[((1 : Int32)).toNatClampNeg]? = some (xr u1) := Has.at H12 hin12 rfl
  obtain ⟨_, _, ⟨T13, L13, k13, n13⟩, -, X13, ⟨Lc13, hQ13, l13, y13, z13⟩, st13⟩ := Jvm.LawKit.callS X10 hx (y := Y0) hown (mvT hZ (ww hw 11 rfl)) (mvT hZ (ww hw 12 rfl)) (mvT hZ (ww hw 3 rfl)) (mvT hZ (ww hw 13 rfl)) (by decide) (backOf (W := 0) (own_c17_composed l Z a0 hw u0 u1 u2 G h10 n0 O10 []) hZ (ww hw 13 rfl) (ww hw 3 rfl) (by decide) (by decide)) (g := (mkF m 55 #[vi p1, vi p2, vr b1, vi (1 : Int32), vr u1, vr u1, vu, vu, vu] [xr u1, xr u1])) rfl (by rw [hml]; rfl) (argsL := [xr u1, xr u1]) (rest := []) (lenOf pd0 rfl) rfl (by show 2 * 0 + _ ≤ _; exact Nat.le_of_eq rfl) (hb hby at_55) (fun _ _ => ⟨rfl, e10, (by decide : 1 + 0 ≤ _), (by decide : 3 + 0 ≤ _)⟩)
  dsimp only [Pt.U, Pt.locs, Pt.cells, Pt.slots] at X13 l13 y13 z13 st13 hQ13
  subst l13 y13 z13
  obtain ⟨rfl, Nq13, e13⟩ := hQ13
  have N13 := Fr.app N10 Nq13
  obtain ⟨_, _, ⟨T14, L14, k14, n14⟩, -, X14, ⟨Lc14, hQ14, l14, y14, z14⟩, st14⟩ := Jvm.LawKit.callS X13 hx (y := Y4) hown (mvT hZ (ww hw 15 rfl)) (mvT hZ (ww hw 16 rfl)) (mvT hZ (ww hw 17 rfl)) (mvT hZ (ww hw 18 rfl)) (by decide) (backOf (W := 0) (own_c7_apply l Z a0 hw u0 u1 u2 G h10 n0 O10 []) hZ (ww hw 18 rfl) (ww hw 17 rfl) (by decide) (by decide)) (g := (mkF m 63 #[vi p1, vi p2, vr b1, vi (1 : Int32), vr u1, vr u1, vr u1, vu, vu] [xi (0 : Int32), xr u1])) rfl (by rw [hml]; rfl) (argsL := [xr u1, xi (0 : Int32)]) (rest := []) (lenOf pd3 rfl) rfl (by show 2 * 0 + _ ≤ _; exact Nat.le_of_eq rfl) (hb hby at_63) (fun _ _ => ⟨rfl, e13, (by decide : 1 + 0 ≤ _), (by decide : 3 + 0 ≤ _)⟩)
  dsimp only [Pt.U, Pt.locs, Pt.cells, Pt.slots] at X14 l14 y14 z14 st14 hQ14
  subst l14 y14 z14
  obtain ⟨rfl, Nq14, e14⟩ := hQ14
  have N14 := Fr.app N13 Nq14
  obtain ⟨_, _, ⟨T15, L15, k15, n15⟩, -, X15, ⟨Lc15, hQ15, l15, y15, z15⟩, st15⟩ := Jvm.LawKit.callS X14 hx (y := Y4) hown (mvT hZ (ww hw 15 rfl)) (mvT hZ (ww hw 16 rfl)) (mvT hZ (ww hw 17 rfl)) (mvT hZ (ww hw 18 rfl)) (by decide) (backOf (W := 2) (own_c7_apply l Z a0 hw u0 u1 u2 G h10 n0 O10 []) hZ (ww hw 18 rfl) (ww hw 17 rfl) (by decide) (by decide)) (g := (mkF m 71 #[vi p1, vi p2, vr b1, vi (1 : Int32), vr u1, vr u1, vr u1, vu, vu] [xi (0 : Int32), xr u1, xr u1, xi (0 : Int32)])) rfl (by rw [hml]; rfl) (argsL := [xr u1, xi (0 : Int32)]) (rest := [xr u1, xi (0 : Int32)]) (lenOf pd3 rfl) rfl (by show 2 * 0 + _ ≤ _; exact Nat.le_of_eq rfl) (hb hby at_71) (fun _ _ => ⟨rfl, e14, (by decide : 1 + 0 ≤ _), (by decide : 3 + 0 ≤ _)⟩)
  dsimp only [Pt.U, Pt.locs, Pt.cells, Pt.slots] at X15 l15 y15 z15 st15 hQ15
  subst l15 y15 z15
  obtain ⟨rfl, Nq15, e15⟩ := hQ15
  have N15 := Fr.app N14 Nq15
  obtain ⟨_, _, ⟨T16, L16, k16, n16⟩, -, X16, ⟨Lc16, hQ16, l16, y16, z16⟩, st16⟩ := Jvm.LawKit.callS X15 hx (y := Y4) hown (mvT hZ (ww hw 15 rfl)) (mvT hZ (ww hw 16 rfl)) (mvT hZ (ww hw 17 rfl)) (mvT hZ (ww hw 18 rfl)) (by decide) (backOf (W := 1) (own_c7_apply l Z a0 hw u0 u1 u2 G h10 n0 O10 []) hZ (ww hw 18 rfl) (ww hw 17 rfl) (by decide) (by decide)) (g := (mkF m 74 #[vi p1, vi p2, vr b1, vi (1 : Int32), vr u1, vr u1, vr u1, vu, vu] [xi (0 : Int32), xr u1, xi (0 : Int32)])) rfl (by rw [hml]; rfl) (argsL := [xr u1, xi (0 : Int32)]) (rest := [xi (0 : Int32)]) (lenOf pd3 rfl) rfl (by show 2 * 0 + _ ≤ _; exact Nat.le_of_eq rfl) (hb hby at_74) (fun _ _ => ⟨rfl, e15, (by decide : 1 + 0 ≤ _), (by decide : 3 + 0 ≤ _)⟩)
  dsimp only [Pt.U, Pt.locs, Pt.cells, Pt.slots] at X16 l16 y16 z16 st16 hQ16
  subst l16 y16 z16
  obtain ⟨rfl, Nq16, e16⟩ := hQ16
  have N16 := Fr.app N15 Nq16
  obtain ⟨_, _, ⟨T17, L17, k17, n17⟩, -, X17, ⟨Lc17, hQ17, l17, y17, z17⟩, st17⟩ := Jvm.LawKit.callS X16 hx (y := Y4) hown (mvT hZ (ww hw 15 rfl)) (mvT hZ (ww hw 16 rfl)) (mvT hZ (ww hw 17 rfl)) (mvT hZ (ww hw 18 rfl)) (by decide) (backOf (W := 0) (own_c10_apply l Z a0 hw u0 u1 u2 G h10 n0 O10 []) hZ (ww hw 18 rfl) (ww hw 17 rfl) (by decide) (by decide)) (g := (mkF m 90 #[vi p1, vi p2, vr b1, vi (1 : Int32), vr u1, vr u1, vr u1, vi (1 : Int32), vu] [xi (1 : Int32), xr u1])) rfl (by rw [hml]; rfl) (argsL := [xr u1, xi (1 : Int32)]) (rest := []) (lenOf pd3 rfl) rfl (by show 2 * 0 + _ ≤ _; exact Nat.le_of_eq rfl) (hb hby at_90) (fun _ _ => ⟨rfl, e16, (by decide : 1 + 0 ≤ _), (by decide : 3 + 0 ≤ _)⟩)
  dsimp only [Pt.U, Pt.locs, Pt.cells, Pt.slots] at X17 l17 y17 z17 st17 hQ17
  subst l17 y17 z17
  obtain ⟨rfl, Nq17, e17⟩ := hQ17
  have N17 := Fr.app N16 Nq17
  obtain ⟨_, _, ⟨T18, L18, k18, n18⟩, -, X18, ⟨Lc18, hQ18, l18, y18, z18⟩, st18⟩ := Jvm.LawKit.callS X17 hx (y := Y4) hown (mvT hZ (ww hw 15 rfl)) (mvT hZ (ww hw 16 rfl)) (mvT hZ (ww hw 17 rfl)) (mvT hZ (ww hw 18 rfl)) (by decide) (backOf (W := 2) (own_c10_apply l Z a0 hw u0 u1 u2 G h10 n0 O10 []) hZ (ww hw 18 rfl) (ww hw 17 rfl) (by decide) (by decide)) (g := (mkF m 98 #[vi p1, vi p2, vr b1, vi (1 : Int32), vr u1, vr u1, vr u1, vi (1 : Int32), vu] [xi (1 : Int32), xr u1, xr u1, xi (0 : Int32)])) rfl (by rw [hml]; rfl) (argsL := [xr u1, xi (1 : Int32)]) (rest := [xr u1, xi (0 : Int32)]) (lenOf pd3 rfl) rfl (by show 2 * 0 + _ ≤ _; exact Nat.le_of_eq rfl) (hb hby at_98) (fun _ _ => ⟨rfl, e17, (by decide : 1 + 0 ≤ _), (by decide : 3 + 0 ≤ _)⟩)
  dsimp only [Pt.U, Pt.locs, Pt.cells, Pt.slots] at X18 l18 y18 z18 st18 hQ18
  subst l18 y18 z18
  obtain ⟨rfl, Nq18, e18⟩ := hQ18
  have N18 := Fr.app N17 Nq18
  obtain ⟨_, _, ⟨T19, L19, k19, n19⟩, -, X19, ⟨Lc19, hQ19, l19, y19, z19⟩, st19⟩ := Jvm.LawKit.callS X18 hx (y := Y4) hown (mvT hZ (ww hw 15 rfl)) (mvT hZ (ww hw 16 rfl)) (mvT hZ (ww hw 17 rfl)) (mvT hZ (ww hw 18 rfl)) (by decide) (backOf (W := 1) (own_c7_apply l Z a0 hw u0 u1 u2 G h10 n0 O10 []) hZ (ww hw 18 rfl) (ww hw 17 rfl) (by decide) (by decide)) (g := (mkF m 101 #[vi p1, vi p2, vr b1, vi (1 : Int32), vr u1, vr u1, vr u1, vi (1 : Int32), vu] [xi (0 : Int32), xr u1, xi (0 : Int32)])) rfl (by rw [hml]; rfl) (argsL := [xr u1, xi (0 : Int32)]) (rest := [xi (0 : Int32)]) (lenOf pd3 rfl) rfl (by show 2 * 0 + _ ≤ _; exact Nat.le_of_eq rfl) (hb hby at_101) (fun _ _ => ⟨rfl, e18, (by decide : 1 + 0 ≤ _), (by decide : 3 + 0 ≤ _)⟩)
  dsimp only [Pt.U, Pt.locs, Pt.cells, Pt.slots] at X19 l19 y19 z19 st19 hQ19
  subst l19 y19 z19
  obtain ⟨rfl, Nq19, e19⟩ := hQ19
  have N19 := Fr.app N18 Nq19
  obtain ⟨fs, hr, hrun, hended, hW, hsame⟩ := X19.leave (v := some (xi (1 : Int32))) (fun h => by rw [Bd.returns] at h; cases h)
  refine ⟨_, _, pre0 _ ?_, hrun, hended, _, _, rfl, ?_, ⟨_, rfl⟩, hW, hsame.mono (by decide) (by decide)⟩
  · show own_S p e below s₁ (mkF m 0 #[vi p1, vi p2, vu, vu, vu, vu, vu, vu, vu] []) _
    refine XS.iconst X0.here hx rfl (hb hby at_0) ?_
    show own_S p e below s₁ (mkF m 1 #[vi p1, vi p2, vu, vu, vu, vu, vu, vu, vu] [xi (3 : Int32)]) _
    refine st1 _ ?_
    show own_S p e below T1 (mkF m 4 #[vi p1, vi p2, vu, vu, vu, vu, vu, vu, vu] [xr b1]) _
    refine XS.dup X1.here hx rfl (hb hby at_4) rfl rfl ?_
    show own_S p e below T1 (mkF m 5 #[vi p1, vi p2, vu, vu, vu, vu, vu, vu, vu] [xr b1, xr b1]) _
    refine XS.iconst X1.here hx rfl (hb hby at_5) ?_
    show own_S p e below T1 (mkF m 6 #[vi p1, vi p2, vu, vu, vu, vu, vu, vu, vu] [xi (0 : Int32), xr b1, xr b1]) _
    refine st2 _ ?_
    show own_S p e below T2 (mkF m 9 #[vi p1, vi p2, vu, vu, vu, vu, vu, vu, vu] [xr u0, xi (0 : Int32), xr b1, xr b1]) _
    refine st4 _ ?_
    show own_S p e below T4 (mkF m 10 #[vi p1, vi p2, vu, vu, vu, vu, vu, vu, vu] [xr b1]) _
    refine XS.dup X4.here hx rfl (hb hby at_10) rfl rfl ?_
    show own_S p e below T4 (mkF m 11 #[vi p1, vi p2, vu, vu, vu, vu, vu, vu, vu] [xr b1, xr b1]) _
    refine XS.iconst X4.here hx rfl (hb hby at_11) ?_
    show own_S p e below T4 (mkF m 12 #[vi p1, vi p2, vu, vu, vu, vu, vu, vu, vu] [xi (1 : Int32), xr b1, xr b1]) _
    refine st5 _ ?_
    show own_S p e below T5 (mkF m 15 #[vi p1, vi p2, vu, vu, vu, vu, vu, vu, vu] [xr u1, xi (1 : Int32), xr b1, xr b1]) _
    refine st7 _ ?_
    show own_S p e below T7 (mkF m 16 #[vi p1, vi p2, vu, vu, vu, vu, vu, vu, vu] [xr b1]) _
    refine XS.dup X7.here hx rfl (hb hby at_16) rfl rfl ?_
    show own_S p e below T7 (mkF m 17 #[vi p1, vi p2, vu, vu, vu, vu, vu, vu, vu] [xr b1, xr b1]) _
    refine XS.iconst X7.here hx rfl (hb hby at_17) ?_
    show own_S p e below T7 (mkF m 18 #[vi p1, vi p2, vu, vu, vu, vu, vu, vu, vu] [xi (2 : Int32), xr b1, xr b1]) _
    refine st8 _ ?_
    show own_S p e below T8 (mkF m 21 #[vi p1, vi p2, vu, vu, vu, vu, vu, vu, vu] [xr u2, xi (2 : Int32), xr b1, xr b1]) _
    refine st10 _ ?_
    show own_S p e below T10 (mkF m 22 #[vi p1, vi p2, vu, vu, vu, vu, vu, vu, vu] [xr b1]) _
    refine XS.astoreN X10.here hx rfl (hb hby at_22) rfl rfl (l' := #[vi p1, vi p2, vr b1, vu, vu, vu, vu, vu, vu]) rfl ?_
    show own_S p e below T10 (mkF m 23 #[vi p1, vi p2, vr b1, vu, vu, vu, vu, vu, vu] []) _
    refine XS.iloadN X10.here hx rfl (hb hby at_23) rfl ?_
    show own_S p e below T10 (mkF m 24 #[vi p1, vi p2, vr b1, vu, vu, vu, vu, vu, vu] [xi p1]) _
    refine XS.iconst X10.here hx rfl (hb hby at_24) ?_
    show own_S p e below T10 (mkF m 25 #[vi p1, vi p2, vr b1, vu, vu, vu, vu, vu, vu] [xi (3 : Int32), xi p1]) _
    refine XS.iand X10.here hx rfl (hb hby at_25) rfl ?_
    show own_S p e below T10 (mkF m 26 #[vi p1, vi p2, vr b1, vu, vu, vu, vu, vu, vu] [xi (p1 &&& (3 : Int32))]) _
    refine castTop (show (mkF m 26 #[vi p1, vi p2, vr b1, vu, vu, vu, vu, vu, vu] [xi (p1 &&& (3 : Int32))]) = (mkF m 26 #[vi p1, vi p2, vr b1, vu, vu, vu, vu, vu, vu] [xi (1 : Int32)]) from by rw [as1]) ?_
    show own_S p e below T10 (mkF m 26 #[vi p1, vi p2, vr b1, vu, vu, vu, vu, vu, vu] [xi (1 : Int32)]) _
    refine XS.istoreN X10.here hx rfl (hb hby at_26) rfl (l' := #[vi p1, vi p2, vr b1, vi (1 : Int32), vu, vu, vu, vu, vu]) rfl ?_
    show own_S p e below T10 (mkF m 27 #[vi p1, vi p2, vr b1, vi (1 : Int32), vu, vu, vu, vu, vu] []) _
    refine XS.iloadN X10.here hx rfl (hb hby at_27) rfl ?_
    show own_S p e below T10 (mkF m 28 #[vi p1, vi p2, vr b1, vi (1 : Int32), vu, vu, vu, vu, vu] [xi (1 : Int32)]) _
    refine XS.iconst X10.here hx rfl (hb hby at_28) ?_
    show own_S p e below T10 (mkF m 29 #[vi p1, vi p2, vr b1, vi (1 : Int32), vu, vu, vu, vu, vu] [xi (3 : Int32), xi (1 : Int32)]) _
    refine XS.icmpYes X10.here hx rfl (pc0 := 29) (pc' := 36) rfl (hb hby at_29) rfl (by decide) (by decide) (by decide) ?_
    show own_S p e below T10 (mkF m 36 #[vi p1, vi p2, vr b1, vi (1 : Int32), vu, vu, vu, vu, vu] []) _
    refine XS.aloadN X10.here hx rfl (hb hby at_36) rfl rfl ?_
    show own_S p e below T10 (mkF m 37 #[vi p1, vi p2, vr b1, vi (1 : Int32), vu, vu, vu, vu, vu] [xr b1]) _
    refine XS.iloadN X10.here hx rfl (hb hby at_37) rfl ?_
    show own_S p e below T10 (mkF m 38 #[vi p1, vi p2, vr b1, vi (1 : Int32), vu, vu, vu, vu, vu] [xi (1 : Int32), xr b1]) _
    refine X10.aaload hx (j := (1 : Int32)) (v := (xr u1)) (by rw [e10]; exact Ar11.1) (State.isArrayOf_alike hZ.alike Ar11.2.1) rfl Ar11.2.2 hin11 hat11 (g := (mkF m 38 #[vi p1, vi p2, vr b1, vi (1 : Int32), vu, vu, vu, vu, vu] [xi (1 : Int32), xr b1])) rfl rfl (hb hby at_38) _ ?_
    show own_S p e below T10 (mkF m 39 #[vi p1, vi p2, vr b1, vi (1 : Int32), vu, vu, vu, vu, vu] [xr u1]) _
    refine XS.astore X10.here hx rfl (hb hby at_39) rfl rfl (l' := #[vi p1, vi p2, vr b1, vi (1 : Int32), vr u1, vu, vu, vu, vu]) rfl ?_
    show own_S p e below T10 (mkF m 41 #[vi p1, vi p2, vr b1, vi (1 : Int32), vr u1, vu, vu, vu, vu] []) _
    refine XS.aloadN X10.here hx rfl (hb hby at_41) rfl rfl ?_
    show own_S p e below T10 (mkF m 42 #[vi p1, vi p2, vr b1, vi (1 : Int32), vr u1, vu, vu, vu, vu] [xr b1]) _
    refine XS.iloadN X10.here hx rfl (hb hby at_42) rfl ?_
    show own_S p e below T10 (mkF m 43 #[vi p1, vi p2, vr b1, vi (1 : Int32), vr u1, vu, vu, vu, vu] [xi p2, xr b1]) _
    refine X10.ldcI hx hown (mvT hZ (ww hw 10 rfl)) (g := (mkF m 43 #[vi p1, vi p2, vr b1, vi (1 : Int32), vr u1, vu, vu, vu, vu] [xi p2, xr b1])) rfl (hb hby at_43) ?_
    show own_S p e below T10 (mkF m 45 #[vi p1, vi p2, vr b1, vi (1 : Int32), vr u1, vu, vu, vu, vu] [xi (2147483647 : Int32), xi p2, xr b1]) _
    refine XS.iand X10.here hx rfl (hb hby at_45) rfl ?_
    show own_S p e below T10 (mkF m 46 #[vi p1, vi p2, vr b1, vi (1 : Int32), vr u1, vu, vu, vu, vu] [xi (p2 &&& (2147483647 : Int32)), xr b1]) _
    show own_S p e below T10 (mkF m 46 #[vi p1, vi p2, vr b1, vi (1 : Int32), vr u1, vu, vu, vu, vu] [xi (p2 &&& (2147483647 : Int32)), xr b1]) _
    refine XS.iconst X10.here hx rfl (hb hby at_46) ?_
    show own_S p e below T10 (mkF m 47 #[vi p1, vi p2, vr b1, vi (1 : Int32), vr u1, vu, vu, vu, vu] [xi (3 : Int32), xi (p2 &&& (2147483647 : Int32)), xr b1]) _
    refine XS.irem X10.here hx rfl (hb hby at_47) rfl (by decide) ?_
    show own_S p e below T10 (mkF m 48 #[vi p1, vi p2, vr b1, vi (1 : Int32), vr u1, vu, vu, vu, vu] [xi ((p2 &&& (2147483647 : Int32)) - ((p2 &&& (2147483647 : Int32)) / (3 : Int32)) * (3 : Int32)), xr b1]) _
    refine castTop (show (mkF m 48 #[vi p1, vi p2, vr b1, vi (1 : Int32), vr u1, vu, vu, vu, vu] [xi ((p2 &&& (2147483647 : Int32)) - ((p2 &&& (2147483647 : Int32)) / (3 : Int32)) * (3 : Int32)), xr b1]) = (mkF m 48 #[vi p1, vi p2, vr b1, vi (1 : Int32), vr u1, vu, vu, vu, vu] [xi (1 : Int32), xr b1]) from by rw [as5]) ?_
    show own_S p e below T10 (mkF m 48 #[vi p1, vi p2, vr b1, vi (1 : Int32), vr u1, vu, vu, vu, vu] [xi (1 : Int32), xr b1]) _
    refine X10.aaload hx (j := (1 : Int32)) (v := (xr u1)) (by rw [e10]; exact Ar12.1) (State.isArrayOf_alike hZ.alike Ar12.2.1) rfl Ar12.2.2 hin12 hat12 (g := (mkF m 48 #[vi p1, vi p2, vr b1, vi (1 : Int32), vr u1, vu, vu, vu, vu] [xi (1 : Int32), xr b1])) rfl rfl (hb hby at_48) _ ?_
    show own_S p e below T10 (mkF m 49 #[vi p1, vi p2, vr b1, vi (1 : Int32), vr u1, vu, vu, vu, vu] [xr u1]) _
    refine XS.astore X10.here hx rfl (hb hby at_49) rfl rfl (l' := #[vi p1, vi p2, vr b1, vi (1 : Int32), vr u1, vr u1, vu, vu, vu]) rfl ?_
    show own_S p e below T10 (mkF m 51 #[vi p1, vi p2, vr b1, vi (1 : Int32), vr u1, vr u1, vu, vu, vu] []) _
    refine XS.aload X10.here hx rfl (hb hby at_51) rfl rfl ?_
    show own_S p e below T10 (mkF m 53 #[vi p1, vi p2, vr b1, vi (1 : Int32), vr u1, vr u1, vu, vu, vu] [xr u1]) _
    refine XS.aload X10.here hx rfl (hb hby at_53) rfl rfl ?_
    show own_S p e below T10 (mkF m 55 #[vi p1, vi p2, vr b1, vi (1 : Int32), vr u1, vr u1, vu, vu, vu] [xr u1, xr u1]) _
    refine st13 _ ?_
    show own_S p e below T13 (mkF m 58 #[vi p1, vi p2, vr b1, vi (1 : Int32), vr u1, vr u1, vu, vu, vu] [xr u1]) _
    refine XS.astore X13.here hx rfl (hb hby at_58) rfl rfl (l' := #[vi p1, vi p2, vr b1, vi (1 : Int32), vr u1, vr u1, vr u1, vu, vu]) rfl ?_
    show own_S p e below T13 (mkF m 60 #[vi p1, vi p2, vr b1, vi (1 : Int32), vr u1, vr u1, vr u1, vu, vu] []) _
    refine XS.aload X13.here hx rfl (hb hby at_60) rfl rfl ?_
    show own_S p e below T13 (mkF m 62 #[vi p1, vi p2, vr b1, vi (1 : Int32), vr u1, vr u1, vr u1, vu, vu] [xr u1]) _
    refine XS.iconst X13.here hx rfl (hb hby at_62) ?_
    show own_S p e below T13 (mkF m 63 #[vi p1, vi p2, vr b1, vi (1 : Int32), vr u1, vr u1, vr u1, vu, vu] [xi (0 : Int32), xr u1]) _
    refine st14 _ ?_
    show own_S p e below T14 (mkF m 66 #[vi p1, vi p2, vr b1, vi (1 : Int32), vr u1, vr u1, vr u1, vu, vu] [xi (0 : Int32)]) _
    refine XS.aload X14.here hx rfl (hb hby at_66) rfl rfl ?_
    show own_S p e below T14 (mkF m 68 #[vi p1, vi p2, vr b1, vi (1 : Int32), vr u1, vr u1, vr u1, vu, vu] [xr u1, xi (0 : Int32)]) _
    refine XS.aload X14.here hx rfl (hb hby at_68) rfl rfl ?_
    show own_S p e below T14 (mkF m 70 #[vi p1, vi p2, vr b1, vi (1 : Int32), vr u1, vr u1, vr u1, vu, vu] [xr u1, xr u1, xi (0 : Int32)]) _
    refine XS.iconst X14.here hx rfl (hb hby at_70) ?_
    show own_S p e below T14 (mkF m 71 #[vi p1, vi p2, vr b1, vi (1 : Int32), vr u1, vr u1, vr u1, vu, vu] [xi (0 : Int32), xr u1, xr u1, xi (0 : Int32)]) _
    refine st15 _ ?_
    show own_S p e below T15 (mkF m 74 #[vi p1, vi p2, vr b1, vi (1 : Int32), vr u1, vr u1, vr u1, vu, vu] [xi (0 : Int32), xr u1, xi (0 : Int32)]) _
    refine st16 _ ?_
    show own_S p e below T16 (mkF m 77 #[vi p1, vi p2, vr b1, vi (1 : Int32), vr u1, vr u1, vr u1, vu, vu] [xi (0 : Int32), xi (0 : Int32)]) _
    refine XS.icmpNo X16.here hx rfl (hb hby at_77) rfl (by decide) ?_
    show own_S p e below T16 (mkF m 80 #[vi p1, vi p2, vr b1, vi (1 : Int32), vr u1, vr u1, vr u1, vu, vu] []) _
    refine XS.iconst X16.here hx rfl (hb hby at_80) ?_
    show own_S p e below T16 (mkF m 81 #[vi p1, vi p2, vr b1, vi (1 : Int32), vr u1, vr u1, vr u1, vu, vu] [xi (1 : Int32)]) _
    refine XS.goto X16.here hx rfl (pc0 := 81) (pc' := 85) rfl (hb hby at_81) (by decide) (by decide) ?_
    show own_S p e below T16 (mkF m 85 #[vi p1, vi p2, vr b1, vi (1 : Int32), vr u1, vr u1, vr u1, vu, vu] [xi (1 : Int32)]) _
    refine XS.istore X16.here hx rfl (hb hby at_85) rfl (l' := #[vi p1, vi p2, vr b1, vi (1 : Int32), vr u1, vr u1, vr u1, vi (1 : Int32), vu]) rfl ?_
    show own_S p e below T16 (mkF m 87 #[vi p1, vi p2, vr b1, vi (1 : Int32), vr u1, vr u1, vr u1, vi (1 : Int32), vu] []) _
    refine XS.aload X16.here hx rfl (hb hby at_87) rfl rfl ?_
    show own_S p e below T16 (mkF m 89 #[vi p1, vi p2, vr b1, vi (1 : Int32), vr u1, vr u1, vr u1, vi (1 : Int32), vu] [xr u1]) _
    refine XS.iconst X16.here hx rfl (hb hby at_89) ?_
    show own_S p e below T16 (mkF m 90 #[vi p1, vi p2, vr b1, vi (1 : Int32), vr u1, vr u1, vr u1, vi (1 : Int32), vu] [xi (1 : Int32), xr u1]) _
    refine st17 _ ?_
    show own_S p e below T17 (mkF m 93 #[vi p1, vi p2, vr b1, vi (1 : Int32), vr u1, vr u1, vr u1, vi (1 : Int32), vu] [xi (0 : Int32)]) _
    refine XS.aload X17.here hx rfl (hb hby at_93) rfl rfl ?_
    show own_S p e below T17 (mkF m 95 #[vi p1, vi p2, vr b1, vi (1 : Int32), vr u1, vr u1, vr u1, vi (1 : Int32), vu] [xr u1, xi (0 : Int32)]) _
    refine XS.aload X17.here hx rfl (hb hby at_95) rfl rfl ?_
    show own_S p e below T17 (mkF m 97 #[vi p1, vi p2, vr b1, vi (1 : Int32), vr u1, vr u1, vr u1, vi (1 : Int32), vu] [xr u1, xr u1, xi (0 : Int32)]) _
    refine XS.iconst X17.here hx rfl (hb hby at_97) ?_
    show own_S p e below T17 (mkF m 98 #[vi p1, vi p2, vr b1, vi (1 : Int32), vr u1, vr u1, vr u1, vi (1 : Int32), vu] [xi (1 : Int32), xr u1, xr u1, xi (0 : Int32)]) _
    refine st18 _ ?_
    show own_S p e below T18 (mkF m 101 #[vi p1, vi p2, vr b1, vi (1 : Int32), vr u1, vr u1, vr u1, vi (1 : Int32), vu] [xi (0 : Int32), xr u1, xi (0 : Int32)]) _
    refine st19 _ ?_
    show own_S p e below T19 (mkF m 104 #[vi p1, vi p2, vr b1, vi (1 : Int32), vr u1, vr u1, vr u1, vi (1 : Int32), vu] [xi (0 : Int32), xi (0 : Int32)]) _
    refine XS.icmpNo X19.here hx rfl (hb hby at_104) rfl (by decide) ?_
    show own_S p e below T19 (mkF m 107 #[vi p1, vi p2, vr b1, vi (1 : Int32), vr u1, vr u1, vr u1, vi (1 : Int32), vu] []) _
    refine XS.iconst X19.here hx rfl (hb hby at_107) ?_
    show own_S p e below T19 (mkF m 108 #[vi p1, vi p2, vr b1, vi (1 : Int32), vr u1, vr u1, vr u1, vi (1 : Int32), vu] [xi (1 : Int32)]) _
    refine XS.goto X19.here hx rfl (pc0 := 108) (pc' := 112) rfl (hb hby at_108) (by decide) (by decide) ?_
    show own_S p e below T19 (mkF m 112 #[vi p1, vi p2, vr b1, vi (1 : Int32), vr u1, vr u1, vr u1, vi (1 : Int32), vu] [xi (1 : Int32)]) _
    refine XS.istore X19.here hx rfl (hb hby at_112) rfl (l' := #[vi p1, vi p2, vr b1, vi (1 : Int32), vr u1, vr u1, vr u1, vi (1 : Int32), vi (1 : Int32)]) rfl ?_
    show own_S p e below T19 (mkF m 114 #[vi p1, vi p2, vr b1, vi (1 : Int32), vr u1, vr u1, vr u1, vi (1 : Int32), vi (1 : Int32)] []) _
    refine XS.iload X19.here hx rfl (hb hby at_114) rfl ?_
    show own_S p e below T19 (mkF m 116 #[vi p1, vi p2, vr b1, vi (1 : Int32), vr u1, vr u1, vr u1, vi (1 : Int32), vi (1 : Int32)] [xi (1 : Int32)]) _
    refine XS.ifNo X19.here hx rfl (hb hby at_116) rfl (by decide) ?_
    show own_S p e below T19 (mkF m 119 #[vi p1, vi p2, vr b1, vi (1 : Int32), vr u1, vr u1, vr u1, vi (1 : Int32), vi (1 : Int32)] []) _
    refine XS.iload X19.here hx rfl (hb hby at_119) rfl ?_
    show own_S p e below T19 (mkF m 121 #[vi p1, vi p2, vr b1, vi (1 : Int32), vr u1, vr u1, vr u1, vi (1 : Int32), vi (1 : Int32)] [xi (1 : Int32)]) _
    refine XS.ifNo X19.here hx rfl (hb hby at_121) rfl (by decide) ?_
    show own_S p e below T19 (mkF m 124 #[vi p1, vi p2, vr b1, vi (1 : Int32), vr u1, vr u1, vr u1, vi (1 : Int32), vi (1 : Int32)] []) _
    refine XS.iconst X19.here hx rfl (hb hby at_124) ?_
    show own_S p e below T19 (mkF m 125 #[vi p1, vi p2, vr b1, vi (1 : Int32), vr u1, vr u1, vr u1, vi (1 : Int32), vi (1 : Int32)] [xi (1 : Int32)]) _
    refine XS.goto X19.here hx rfl (pc0 := 125) (pc' := 129) rfl (hb hby at_125) (by decide) (by decide) ?_
    show own_S p e below T19 (mkF m 129 #[vi p1, vi p2, vr b1, vi (1 : Int32), vr u1, vr u1, vr u1, vi (1 : Int32), vi (1 : Int32)] [xi (1 : Int32)]) _
    exact retN X19 hx (t := .boolean) Bd.returns (by simp) (hb hby at_129) hr
  · exact ⟨rfl, N19⟩
theorem d1_60 : decode prog_1_method_7_code 60 = .ok (.getstatic 3, 3) := by decide +kernel
theorem d1_63 : decode prog_1_method_7_code 63 = .ok (.goto 4, 3) := by decide +kernel
theorem ef_own_c18_composed (m : MethodId) (u0 u1 u2 : Addr) : entryFrame m #[xr u1, xr u2] 3 = (mkF m 0 #[vr u1, vr u2, vu] []) := by first | (simp [entryFrame, mkF, argsToLocals, Value.category]; done) | rfl
set_option maxRecDepth 65536 in
set_option maxHeartbeats 40000000 in
theorem own_c18_composed (l : Launch) (Z : State) (a0 : Array Value) (hw : ∀ d ∈ tables_1, d.before a0 Z = true) (u0 u1 u2 : Addr) (G : own_St Z u0 u1 u2) (h0 : Heap) (n0 : Nat) (O0 : Old Z n0 h0) : own_Met l Z Y0 prog_1_method_7_code 3 (some (.object "com/example/tidemark/tidemark/Change")) ({ frames := 1, cells := 0, slots := 0, locals := 12 } : Room) #[xr u1, xr u2] h0 (own_QR (some (xr u0)) h0 n0) := by
  intro ws
  refine MetFree.of_bodySF (plainFor_of_name pn0) hisR ?_
  intro p e s m args below meth c s₁ Bd hml0 hP hK
  obtain ⟨rfl, hZ, hh⟩ := hP
  have hx := Bd.exec
  have hby := Bd.bytes
  have hml : c.maxLocals = 3 := hml0
  have hown : s.vm.findClass "com/example/tidemark/tidemark/Change" = some m.cls := findClass_of_methodNamed Bd.named
  have hnm := (name_of_methodNamed Bd.named Bd.method).1
  have X0 : Stand p l e ({ frames := 1, cells := 0, slots := 0, locals := 12 } : Room) s m #[xr u1, xr u2] below meth c s₁ [] 0 0 := Stand.of_body Bd
  have e0 : s₁.heap = h0 := by rw [← hh, Bd.state]; rfl
  have N0 := Fr.nil n0
  have pre0 : ∀ t, Steps p.tables e below (s₁.setTop (mkF m 0 #[vr u1, vr u2, vu] [])) t → Steps p.tables e below (s₁.setTop (entryFrame m #[xr u1, xr u2] 3)) t := fun t st => castTop (ef_own_c18_composed m u0 u1 u2) st
  obtain ⟨T1, X1, e1, st1⟩ := getS2 X0 hx hZ hown (host := "") (Or.inl (ww hw 14 rfl)) Via.refl e0 ((own_S_u2 G).ext O0.2) (g := (mkF m 3 #[vr u1, vr u2, vr u2] [xr u2])) rfl (hb hby d1_3)
  obtain ⟨cq2, kq2, qa2, qb2, qc2⟩ := isOf hZ e1 ((own_X_u1 G).ext O0.2)
  obtain ⟨_, _, ⟨T2, L2, k2, n2⟩, -, X2, ⟨Lc2, hQ2, l2, y2, z2⟩, st2⟩ := X1.virtualBackUp hx (x := Y2) (y := Y1) hown (mvT hZ (ww hw 24 rfl)) (mvT hZ (ww hw 25 rfl)) (mvT hZ (ww hw 26 rfl)) (by decide) (mvT hZ (ww hw 28 rfl)) (mvT hZ (ww hw 27 rfl)) (backOf (W := 0) (own_c7_ordinal l Z a0 hw u0 u1 u2 G h0 n0 O0 []) hZ (ww hw 30 rfl) (ww hw 29 rfl) (by decide) (by decide)) qa2 qc2 (g := (mkF m 14 #[vr u1, vr u2, vr u2] [xr u1])) rfl (by rw [hml]; rfl) (Steps.refl _) (argsL := []) (rest := []) (lenOf pd1 rfl) rfl (by show 2 * 0 + _ ≤ _; exact Nat.le_of_eq rfl) (hb hby d1_14) (fun _ _ => ⟨rfl, e1, (by decide : 0 + 0 ≤ _), (by decide : 0 + 0 ≤ _)⟩)
  dsimp only [Pt.U, Pt.locs, Pt.cells, Pt.slots] at X2 l2 y2 z2 st2 hQ2
  subst l2 y2 z2
  obtain ⟨rfl, Nq2, e2⟩ := hQ2
  have N2 := Fr.app N0 Nq2
  obtain ⟨T3, X3, e3, st3⟩ := getS2 X2 hx hZ hown (host := "") (Or.inl (ww hw 34 rfl)) Via.refl e2 ((own_S_u0 G).ext O0.2) (g := (mkF m 60 #[vr u1, vr u2, vr u2] [])) rfl (hb hby d1_60)
  obtain ⟨fs, hr, hrun, hended, hW, hsame⟩ := X3.leave (v := some (xr u0)) (fun h => by rw [Bd.returns] at h; cases h)
  refine ⟨_, _, pre0 _ ?_, hrun, hended, _, _, rfl, ?_, ⟨_, rfl⟩, hW, hsame.mono (by decide) (by decide)⟩
  · show own_S p e below s₁ (mkF m 0 #[vr u1, vr u2, vu] []) _
    refine XS.aloadN X0.here hx rfl (hb hby d1_0) rfl rfl ?_
    show own_S p e below s₁ (mkF m 1 #[vr u1, vr u2, vu] [xr u2]) _
    refine XS.astoreN X0.here hx rfl (hb hby d1_1) rfl rfl (l' := #[vr u1, vr u2, vr u2]) rfl ?_
    show own_S p e below s₁ (mkF m 2 #[vr u1, vr u2, vr u2] []) _
    refine XS.aloadN X0.here hx rfl (hb hby d1_2) rfl rfl ?_
    show own_S p e below s₁ (mkF m 3 #[vr u1, vr u2, vr u2] [xr u2]) _
    refine st1 _ ?_
    show own_S p e below T1 (mkF m 6 #[vr u1, vr u2, vr u2] [xr u2, xr u2]) _
    refine Jvm.RoadKit.acmp (g := (mkF m 6 #[vr u1, vr u2, vr u2] [xr u2, xr u2])) X1 hx rfl rfl rfl (pc0 := 6) (pc' := 9) (same := true) rfl (hb hby d1_6) rfl (decide_eq_true rfl) (by decide) (by decide) ?_
    show own_S p e below T1 (mkF m 9 #[vr u1, vr u2, vr u2] []) _
    refine XS.aloadN X1.here hx rfl (hb hby d1_9) rfl rfl ?_
    show own_S p e below T1 (mkF m 10 #[vr u1, vr u2, vr u2] [xr u1]) _
    refine XS.ifnullNo X1.here hx rfl (hb hby d1_10) rfl ?_
    show own_S p e below T1 (mkF m 13 #[vr u1, vr u2, vr u2] []) _
    refine XS.aloadN X1.here hx rfl (hb hby d1_13) rfl rfl ?_
    show own_S p e below T1 (mkF m 14 #[vr u1, vr u2, vr u2] [xr u1]) _
    refine st2.trans ?_
    show own_S p e below T2 (mkF m 17 #[vr u1, vr u2, vr u2] [xi (1 : Int32)]) _
    refine XS.tswIn X2.here hx rfl (pc0 := 17) (pc' := 60) (o := 43) rfl (hb hby d1_17) rfl (by decide) (by decide) (by decide) (by decide) ?_
    show own_S p e below T2 (mkF m 60 #[vr u1, vr u2, vr u2] []) _
    refine st3 _ ?_
    show own_S p e below T3 (mkF m 63 #[vr u1, vr u2, vr u2] [xr u0]) _
    refine XS.goto X3.here hx rfl (pc0 := 63) (pc' := 67) rfl (hb hby d1_63) (by decide) (by decide) ?_
    show own_S p e below T3 (mkF m 67 #[vr u1, vr u2, vr u2] [xr u0]) _
    refine XS.astoreN X3.here hx rfl (hb hby d1_67) rfl rfl (l' := #[vr u1, vr u2, vr u0]) rfl ?_
    show own_S p e below T3 (mkF m 68 #[vr u1, vr u2, vr u0] []) _
    refine XS.aloadN X3.here hx rfl (hb hby d1_68) rfl rfl ?_
    show own_S p e below T3 (mkF m 69 #[vr u1, vr u2, vr u0] [xr u0]) _
    exact X3.areturnOut hx rfl Bd.returns rfl (hb hby d1_69) hr
  · exact ⟨rfl, N2, e3⟩
theorem d3_54 : decode prog_1_method_6_code 54 = .ok (.iconst 1, 1) := by decide +kernel
theorem d3_55 : decode prog_1_method_6_code 55 = .ok (.goto 4, 3) := by decide +kernel
theorem ef_own_c19_applyTo (m : MethodId) (u0 u1 u2 : Addr) : entryFrame m #[xr u2, xi (0 : Int32)] 3 = (mkF m 0 #[vr u2, vi (0 : Int32), vu] []) := by first | (simp [entryFrame, mkF, argsToLocals, Value.category]; done) | rfl
set_option maxRecDepth 65536 in
set_option maxHeartbeats 40000000 in
theorem own_c19_applyTo (l : Launch) (Z : State) (a0 : Array Value) (hw : ∀ d ∈ tables_1, d.before a0 Z = true) (u0 u1 u2 : Addr) (G : own_St Z u0 u1 u2) (h0 : Heap) (n0 : Nat) (O0 : Old Z n0 h0) : own_Met l Z Y3 prog_1_method_6_code 3 (some .boolean) ({ frames := 1, cells := 0, slots := 0, locals := 12 } : Room) #[xr u2, xi (0 : Int32)] h0 (own_QR (some (xi (1 : Int32))) h0 n0) := by
  intro ws
  refine MetFree.of_bodySF (plainFor_of_name pn0) hisR ?_
  intro p e s m args below meth c s₁ Bd hml0 hP hK
  obtain ⟨rfl, hZ, hh⟩ := hP
  have hx := Bd.exec
  have hby := Bd.bytes
  have hml : c.maxLocals = 3 := hml0
  have hown : s.vm.findClass "com/example/tidemark/tidemark/Change" = some m.cls := findClass_of_methodNamed Bd.named
  have hnm := (name_of_methodNamed Bd.named Bd.method).1
  have X0 : Stand p l e ({ frames := 1, cells := 0, slots := 0, locals := 12 } : Room) s m #[xr u2, xi (0 : Int32)] below meth c s₁ [] 0 0 := Stand.of_body Bd
  have e0 : s₁.heap = h0 := by rw [← hh, Bd.state]; rfl
  have N0 := Fr.nil n0
  have pre0 : ∀ t, Steps p.tables e below (s₁.setTop (mkF m 0 #[vr u2, vi (0 : Int32), vu] [])) t → Steps p.tables e below (s₁.setTop (entryFrame m #[xr u2, xi (0 : Int32)] 3)) t := fun t st => castTop (ef_own_c19_applyTo m u0 u1 u2) st
  obtain ⟨cq1, kq1, qa1, qb1, qc1⟩ := isOf hZ e0 ((own_X_u2 G).ext O0.2)
  obtain ⟨_, _, ⟨T1, L1, k1, n1⟩, -, X1, ⟨Lc1, hQ1, l1, y1, z1⟩, st1⟩ := X0.virtualBackUp hx (x := Y2) (y := Y1) hown (mvT hZ (ww hw 24 rfl)) (mvT hZ (ww hw 25 rfl)) (mvT hZ (ww hw 26 rfl)) (by decide) (mvT hZ (ww hw 28 rfl)) (mvT hZ (ww hw 27 rfl)) (backOf (W := 0) (own_c13_ordinal l Z a0 hw u0 u1 u2 G h0 n0 O0 []) hZ (ww hw 30 rfl) (ww hw 29 rfl) (by decide) (by decide)) qa1 qc1 (g := (mkF m 1 #[vr u2, vi (0 : Int32), vu] [xr u2])) rfl (by rw [hml]; rfl) (Steps.refl _) (argsL := []) (rest := []) (lenOf pd1 rfl) rfl (by show 2 * 0 + _ ≤ _; exact Nat.le_of_eq rfl) (hb hby d3_1) (fun _ _ => ⟨rfl, e0, (by decide : 0 + 0 ≤ _), (by decide : 0 + 0 ≤ _)⟩)
  dsimp only [Pt.U, Pt.locs, Pt.cells, Pt.slots] at X1 l1 y1 z1 st1 hQ1
  subst l1 y1 z1
  obtain ⟨rfl, Nq1, e1⟩ := hQ1
  have N1 := Fr.app N0 Nq1
  obtain ⟨fs, hr, hrun, hended, hW, hsame⟩ := X1.leave (v := some (xi (1 : Int32))) (fun h => by rw [Bd.returns] at h; cases h)
  refine ⟨_, _, pre0 _ ?_, hrun, hended, _, _, rfl, ?_, ⟨_, rfl⟩, hW, hsame.mono (by decide) (by decide)⟩
  · show own_S p e below s₁ (mkF m 0 #[vr u2, vi (0 : Int32), vu] []) _
    refine XS.aloadN X0.here hx rfl (hb hby d3_0) rfl rfl ?_
    show own_S p e below s₁ (mkF m 1 #[vr u2, vi (0 : Int32), vu] [xr u2]) _
    refine st1.trans ?_
    show own_S p e below T1 (mkF m 4 #[vr u2, vi (0 : Int32), vu] [xi (2 : Int32)]) _
    refine XS.tswIn X1.here hx rfl (pc0 := 4) (pc' := 50) (o := 46) rfl (hb hby d3_4) rfl (by decide) (by decide) (by decide) (by decide) ?_
    show own_S p e below T1 (mkF m 50 #[vr u2, vi (0 : Int32), vu] []) _
    refine XS.iloadN X1.here hx rfl (hb hby d3_50) rfl ?_
    show own_S p e below T1 (mkF m 51 #[vr u2, vi (0 : Int32), vu] [xi (0 : Int32)]) _
    refine XS.ifNo X1.here hx rfl (hb hby d3_51) rfl (by decide) ?_
    show own_S p e below T1 (mkF m 54 #[vr u2, vi (0 : Int32), vu] []) _
    refine XS.iconst X1.here hx rfl (hb hby d3_54) ?_
    show own_S p e below T1 (mkF m 55 #[vr u2, vi (0 : Int32), vu] [xi (1 : Int32)]) _
    refine XS.goto X1.here hx rfl (pc0 := 55) (pc' := 59) rfl (hb hby d3_55) (by decide) (by decide) ?_
    show own_S p e below T1 (mkF m 59 #[vr u2, vi (0 : Int32), vu] [xi (1 : Int32)]) _
    refine XS.istoreN X1.here hx rfl (hb hby d3_59) rfl (l' := #[vr u2, vi (0 : Int32), vi (1 : Int32)]) rfl ?_
    show own_S p e below T1 (mkF m 60 #[vr u2, vi (0 : Int32), vi (1 : Int32)] []) _
    refine XS.iloadN X1.here hx rfl (hb hby d3_60) rfl ?_
    show own_S p e below T1 (mkF m 61 #[vr u2, vi (0 : Int32), vi (1 : Int32)] [xi (1 : Int32)]) _
    exact retN X1 hx (t := .boolean) Bd.returns (by simp) (hb hby d3_61) hr
  · exact ⟨rfl, N1, e1⟩
theorem ef_own_c19_apply (m : MethodId) (u0 u1 u2 : Addr) : entryFrame m #[xr u2, xi (0 : Int32)] 2 = (mkF m 0 #[vr u2, vi (0 : Int32)] []) := by first | (simp [entryFrame, mkF, argsToLocals, Value.category]; done) | rfl
set_option maxRecDepth 65536 in
set_option maxHeartbeats 40000000 in
theorem own_c19_apply (l : Launch) (Z : State) (a0 : Array Value) (hw : ∀ d ∈ tables_1, d.before a0 Z = true) (u0 u1 u2 : Addr) (G : own_St Z u0 u1 u2) (h0 : Heap) (n0 : Nat) (O0 : Old Z n0 h0) : own_Met l Z Y4 method_2_code 2 (some .boolean) ({ frames := 2, cells := 0, slots := 0, locals := 26 } : Room) #[xr u2, xi (0 : Int32)] h0 (own_QR (some (xi (1 : Int32))) h0 n0) := by
  intro ws
  refine MetFree.of_bodySF (plainFor_of_name pn2) hisR ?_
  intro p e s m args below meth c s₁ Bd hml0 hP hK
  obtain ⟨rfl, hZ, hh⟩ := hP
  have hx := Bd.exec
  have hby := Bd.bytes
  have hml : c.maxLocals = 2 := hml0
  have hown : s.vm.findClass "com/example/tidemark/tidemark/ChangeComposedPinLaw" = some m.cls := findClass_of_methodNamed Bd.named
  have hnm := (name_of_methodNamed Bd.named Bd.method).1
  have X0 : Stand p l e ({ frames := 2, cells := 0, slots := 0, locals := 26 } : Room) s m #[xr u2, xi (0 : Int32)] below meth c s₁ [] 0 0 := Stand.of_body Bd
  have e0 : s₁.heap = h0 := by rw [← hh, Bd.state]; rfl
  have N0 := Fr.nil n0
  have pre0 : ∀ t, Steps p.tables e below (s₁.setTop (mkF m 0 #[vr u2, vi (0 : Int32)] [])) t → Steps p.tables e below (s₁.setTop (entryFrame m #[xr u2, xi (0 : Int32)] 2)) t := fun t st => castTop (ef_own_c19_apply m u0 u1 u2) st
  obtain ⟨cq1, kq1, qa1, qb1, qc1⟩ := isOf hZ e0 ((own_X_u2 G).ext O0.2)
  obtain ⟨_, _, ⟨T1, L1, k1, n1⟩, -, X1, ⟨Lc1, hQ1, l1, y1, z1⟩, st1⟩ := X0.virtualBack hx (y := Y3) (z := Y3) hown (mvT hZ (ww hw 19 rfl)) (mvT hZ (ww hw 20 rfl)) (notFace_of_selects (args := #[]) (mvT hZ (ww hw 22 rfl))) (mvT hZ (ww hw 22 rfl)) (mvT hZ (ww hw 21 rfl)) (by decide) (backOf (W := 0) (own_c19_applyTo l Z a0 hw u0 u1 u2 G h0 n0 O0 []) hZ (ww hw 23 rfl) (ww hw 3 rfl) (by decide) (by decide)) qa1 qc1 (g := (mkF m 8 #[vr u2, vi (0 : Int32)] [xi (0 : Int32), xr u2])) rfl (by rw [hml]; rfl) (Steps.refl _) (argsL := [xi (0 : Int32)]) (rest := []) (lenOf pd2 rfl) rfl (by show 2 * 0 + _ ≤ _; exact Nat.le_of_eq rfl) (hb hby d2_8) (fun _ _ => ⟨rfl, e0, (by decide : 0 + 0 ≤ _), (by decide : 0 + 0 ≤ _)⟩)
  dsimp only [Pt.U, Pt.locs, Pt.cells, Pt.slots] at X1 l1 y1 z1 st1 hQ1
  subst l1 y1 z1
  obtain ⟨rfl, Nq1, e1⟩ := hQ1
  have N1 := Fr.app N0 Nq1
  obtain ⟨fs, hr, hrun, hended, hW, hsame⟩ := X1.leave (v := some (xi (1 : Int32))) (fun h => by rw [Bd.returns] at h; cases h)
  refine ⟨_, _, pre0 _ ?_, hrun, hended, _, _, rfl, ?_, ⟨_, rfl⟩, hW, hsame.mono (by decide) (by decide)⟩
  · show own_S p e below s₁ (mkF m 0 #[vr u2, vi (0 : Int32)] []) _
    refine XS.aloadN X0.here hx rfl (hb hby d2_0) rfl rfl ?_
    show own_S p e below s₁ (mkF m 1 #[vr u2, vi (0 : Int32)] [xr u2]) _
    refine Jvm.Free.XT.nonnullYes X0.here hx rfl (pc0 := 1) (pc' := 6) rfl (hb hby d2_1) rfl rfl (by simp) (by decide) (by decide) ?_
    show own_S p e below s₁ (mkF m 6 #[vr u2, vi (0 : Int32)] []) _
    refine XS.aloadN X0.here hx rfl (hb hby d2_6) rfl rfl ?_
    show own_S p e below s₁ (mkF m 7 #[vr u2, vi (0 : Int32)] [xr u2]) _
    refine XS.iloadN X0.here hx rfl (hb hby d2_7) rfl ?_
    show own_S p e below s₁ (mkF m 8 #[vr u2, vi (0 : Int32)] [xi (0 : Int32), xr u2]) _
    refine st1.trans ?_
    show own_S p e below T1 (mkF m 11 #[vr u2, vi (0 : Int32)] [xi (1 : Int32)]) _
    exact retN X1 hx (t := .boolean) Bd.returns (by simp) (hb hby d2_11) hr
  · exact ⟨rfl, N1, e1⟩
theorem ef_own_l5 (m : MethodId) (u0 u1 u2 : Addr) (p1 : Int32) (p2 : Int32) : entryFrame m #[xi p1, xi p2] maxLocals = (mkF m 0 #[vi p1, vi p2, vu, vu, vu, vu, vu, vu, vu] []) := by first | (simp [entryFrame, mkF, argsToLocals, Value.category, maxLocals]; done) | rfl
set_option maxRecDepth 65536 in
set_option maxHeartbeats 40000000 in
theorem own_l5 (l : Launch) (Z : State) (a0 : Array Value) (hw : ∀ d ∈ tables_1, d.before a0 Z = true) (u0 u1 u2 : Addr) (G : own_St Z u0 u1 u2) (p1 : Int32) (p2 : Int32) (as1 : (p1 &&& (3 : Int32)) = (1 : Int32)) (as6 : ((p2 &&& (2147483647 : Int32)) - ((p2 &&& (2147483647 : Int32)) / (3 : Int32)) * (3 : Int32)) = (2 : Int32)) (h0 : Heap) (n0 : Nat) (O0 : Old Z n0 h0) : own_Met l Z x code maxLocals ret room_1 #[xi p1, xi p2] h0 (own_QL (some (xi (1 : Int32))) n0) := by
  intro ws
  refine MetFree.of_bodySF (plainFor_of_name pn2) hisR ?_
  intro p e s m args below meth c s₁ Bd hml0 hP hK
  obtain ⟨rfl, hZ, hh⟩ := hP
  have hx := Bd.exec
  have hby := Bd.bytes
  have hml : c.maxLocals = 9 := hml0
  have hown : s.vm.findClass "com/example/tidemark/tidemark/ChangeComposedPinLaw" = some m.cls := findClass_of_methodNamed Bd.named
  have hnm := (name_of_methodNamed Bd.named Bd.method).1
  have X0 : Stand p l e room_1 s m #[xi p1, xi p2] below meth c s₁ [] 0 0 := Stand.of_body Bd
  have e0 : s₁.heap = h0 := by rw [← hh, Bd.state]; rfl
  have N0 := Fr.nil n0
  have pre0 : ∀ t, Steps p.tables e below (s₁.setTop (mkF m 0 #[vi p1, vi p2, vu, vu, vu, vu, vu, vu, vu] [])) t → Steps p.tables e below (s₁.setTop (entryFrame m #[xi p1, xi p2] maxLocals)) t := fun t st => castTop (ef_own_l5 m u0 u1 u2 p1 p2) st
  obtain ⟨T1, h1, k1, X1, e1, E1, A1, Ov1, st1⟩ := newR X0 hx hZ hown (ww hw 0 rfl) (ww hw 1 rfl) e0 (g := (mkF m 1 #[vi p1, vi p2, vu, vu, vu, vu, vu, vu, vu] [xi (3 : Int32)])) rfl (hb hby at_1) rfl (by decide) (cap := 3) (by decide) (by decide) (by decide) (by decide)
  obtain ⟨b1, g1⟩ : ∃ z, z = h0.size := ⟨_, rfl⟩
  rw [← g1] at A1 st1
  have g_b1 : n0 ≤ b1 := own_fresh O0 g1
  have O1 : Old Z n0 h1 := O0.ext E1
  have V_b1 : Arv Z h1 b1 k1 (.object "com/example/tidemark/tidemark/Change") (3 : Int32) [.null, .null, .null] .null := (Arv.new A1 (by decide)).pad (pad_rep [] .null 3)
  obtain ⟨T2, X2, e2, st2⟩ := getS2 X1 hx hZ hown (host := "") (Or.inl (ww hw 2 rfl)) Via.refl e1 ((own_S_u0 G).ext O1.2) (g := (mkF m 6 #[vi p1, vi p2, vu, vu, vu, vu, vu, vu, vu] [xi (0 : Int32), xr b1, xr b1])) rfl (hb hby at_6)
  obtain ⟨cl3, Ar3, q3, S3, N3_, H3, G3⟩ := id V_b1
  have hin3 : ¬ ((0 : Int32) < 0 ∨ cl3.slots.size ≤ ((0 : Int32)).toNatClampNeg) := inb_of S3 ⟨by decide, by decide⟩
  obtain ⟨T4, h4, X4, e4, W4, st4⟩ := stR X2 hx hZ e2 Ar3 (j := (0 : Int32)) hin3 rfl (Sto.ofV Ar3 q3 Ov1 (Ins.self ((own_X_u0 G).ext O1.2))) (g := (mkF m 9 #[vi p1, vi p2, vu, vu, vu, vu, vu, vu, vu] [xr u0, xi (0 : Int32), xr b1, xr b1])) rfl rfl (hb hby at_9)
  have V_b1_4 : Arv Z h4 b1 k1 (.object "com/example/tidemark/tidemark/Change") (3 : Int32) [xr u0, .null, .null] .null := Arv.set Ar3 q3 S3 N3_ H3 G3 rfl W4 0 rfl (Nat.le_of_ble_eq_true rfl)
  have O4 : Old Z n0 h4 := O1.wr W4 g_b1
  have N4 := Fr.snoc X4 N0 g_b1
  obtain ⟨T5, X5, e5, st5⟩ := getS2 X4 hx hZ hown (host := "") (Or.inl (ww hw 6 rfl)) Via.refl e4 ((own_S_u1 G).ext O4.2) (g := (mkF m 12 #[vi p1, vi p2, vu, vu, vu, vu, vu, vu, vu] [xi (1 : Int32), xr b1, xr b1])) rfl (hb hby at_12)
  obtain ⟨cl6, Ar6, q6, S6, N6_, H6, G6⟩ := id V_b1_4
  have hin6 : ¬ ((1 : Int32) < 0 ∨ cl6.slots.size ≤ ((1 : Int32)).toNatClampNeg) := inb_of S6 ⟨by decide, by decide⟩
  obtain ⟨T7, h7, X7, e7, W7, st7⟩ := stR X5 hx hZ e5 Ar6 (j := (1 : Int32)) hin6 rfl (Sto.ofV Ar6 q6 Ov1 (Ins.self ((own_X_u1 G).ext O4.2))) (g := (mkF m 15 #[vi p1, vi p2, vu, vu, vu, vu, vu, vu, vu] [xr u1, xi (1 : Int32), xr b1, xr b1])) rfl rfl (hb hby at_15)
  have V_b1_7 : Arv Z h7 b1 k1 (.object "com/example/tidemark/tidemark/Change") (3 : Int32) [xr u0, xr u1, .null] .null := Arv.set Ar6 q6 S6 N6_ H6 G6 rfl W7 1 rfl (Nat.le_of_ble_eq_true rfl)
  have O7 : Old Z n0 h7 := O4.wr W7 g_b1
  have N7 := Fr.snoc X7 N4 g_b1
  obtain ⟨T8, X8, e8, st8⟩ := getS2 X7 hx hZ hown (host := "") (Or.inl (ww hw 8 rfl)) Via.refl e7 ((own_S_u2 G).ext O7.2) (g := (mkF m 18 #[vi p1, vi p2, vu, vu, vu, vu, vu, vu, vu] [xi (2 : Int32), xr b1, xr b1])) rfl (hb hby at_18)
  obtain ⟨cl9, Ar9, q9, S9, N9_, H9, G9⟩ := id V_b1_7
  have hin9 : ¬ ((2 : Int32) < 0 ∨ cl9.slots.size ≤ ((2 : Int32)).toNatClampNeg) := inb_of S9 ⟨by decide, by decide⟩
  obtain ⟨T10, h10, X10, e10, W10, st10⟩ := stR X8 hx hZ e8 Ar9 (j := (2 : Int32)) hin9 rfl (Sto.ofV Ar9 q9 Ov1 (Ins.self ((own_X_u2 G).ext O7.2))) (g := (mkF m 21 #[vi p1, vi p2, vu, vu, vu, vu, vu, vu, vu] [xr u2, xi (2 : Int32), xr b1, xr b1])) rfl rfl (hb hby at_21)
  have V_b1_10 : Arv Z h10 b1 k1 (.object "com/example/tidemark/tidemark/Change") (3 : Int32) [xr u0, xr u1, xr u2] .null := Arv.set Ar9 q9 S9 N9_ H9 G9 rfl W10 2 rfl (Nat.le_of_ble_eq_true rfl)
  have O10 : Old Z n0 h10 := O7.wr W10 g_b1
  have N10 := Fr.snoc X10 N7 g_b1
  obtain ⟨cl11, Ar11, q11, S11, N11_, H11, G11⟩ := id V_b1_10
  have hin11 : ¬ ((1 : Int32) < 0 ∨ cl11.slots.size ≤ ((1 : Int32)).toNatClampNeg) := inb_of S11 ⟨by decide, by decide⟩
  have hat11 : cl11.slots[((1 : Int32)).toNatClampNeg]? = some (xr u1) := Has.at H11 hin11 rfl
  obtain ⟨cl12, Ar12, q12, S12, N12_, H12, G12⟩ := id V_b1_10
  have hin12 : ¬ ((2 : Int32) < 0 ∨ cl12.slots.size ≤ ((2 : Int32)).toNatClampNeg) := inb_of S12 ⟨by decide, by decide⟩
  have hat12 : cl12.slots[((2 : Int32)).toNatClampNeg]? = some (xr u2) := Has.at H12 hin12 rfl
  obtain ⟨_, _, ⟨T13, L13, k13, n13⟩, -, X13, ⟨Lc13, hQ13, l13, y13, z13⟩, st13⟩ := Jvm.LawKit.callS X10 hx (y := Y0) hown (mvT hZ (ww hw 11 rfl)) (mvT hZ (ww hw 12 rfl)) (mvT hZ (ww hw 3 rfl)) (mvT hZ (ww hw 13 rfl)) (by decide) (backOf (W := 0) (own_c18_composed l Z a0 hw u0 u1 u2 G h10 n0 O10 []) hZ (ww hw 13 rfl) (ww hw 3 rfl) (by decide) (by decide)) (g := (mkF m 55 #[vi p1, vi p2, vr b1, vi (1 : Int32), vr u1, vr u2, vu, vu, vu] [xr u2, xr u1])) rfl (by rw [hml]; rfl) (argsL := [xr u1, xr u2]) (rest := []) (lenOf pd0 rfl) rfl (by show 2 * 0 + _ ≤ _; exact Nat.le_of_eq rfl) (hb hby at_55) (fun _ _ => ⟨rfl, e10, (by decide : 1 + 0 ≤ _), (by decide : 3 + 0 ≤ _)⟩)
  dsimp only [Pt.U, Pt.locs, Pt.cells, Pt.slots] at X13 l13 y13 z13 st13 hQ13
  subst l13 y13 z13
  obtain ⟨rfl, Nq13, e13⟩ := hQ13
  have N13 := Fr.app N10 Nq13
  obtain ⟨_, _, ⟨T14, L14, k14, n14⟩, -, X14, ⟨Lc14, hQ14, l14, y14, z14⟩, st14⟩ := Jvm.LawKit.callS X13 hx (y := Y4) hown (mvT hZ (ww hw 15 rfl)) (mvT hZ (ww hw 16 rfl)) (mvT hZ (ww hw 17 rfl)) (mvT hZ (ww hw 18 rfl)) (by decide) (backOf (W := 0) (own_c1_apply l Z a0 hw u0 u1 u2 G h10 n0 O10 []) hZ (ww hw 18 rfl) (ww hw 17 rfl) (by decide) (by decide)) (g := (mkF m 63 #[vi p1, vi p2, vr b1, vi (1 : Int32), vr u1, vr u2, vr u0, vu, vu] [xi (0 : Int32), xr u0])) rfl (by rw [hml]; rfl) (argsL := [xr u0, xi (0 : Int32)]) (rest := []) (lenOf pd3 rfl) rfl (by show 2 * 0 + _ ≤ _; exact Nat.le_of_eq rfl) (hb hby at_63) (fun _ _ => ⟨rfl, e13, (by decide : 1 + 0 ≤ _), (by decide : 3 + 0 ≤ _)⟩)
  dsimp only [Pt.U, Pt.locs, Pt.cells, Pt.slots] at X14 l14 y14 z14 st14 hQ14
  subst l14 y14 z14
  obtain ⟨rfl, Nq14, e14⟩ := hQ14
  have N14 := Fr.app N13 Nq14
  obtain ⟨_, _, ⟨T15, L15, k15, n15⟩, -, X15, ⟨Lc15, hQ15, l15, y15, z15⟩, st15⟩ := Jvm.LawKit.callS X14 hx (y := Y4) hown (mvT hZ (ww hw 15 rfl)) (mvT hZ (ww hw 16 rfl)) (mvT hZ (ww hw 17 rfl)) (mvT hZ (ww hw 18 rfl)) (by decide) (backOf (W := 2) (own_c7_apply l Z a0 hw u0 u1 u2 G h10 n0 O10 []) hZ (ww hw 18 rfl) (ww hw 17 rfl) (by decide) (by decide)) (g := (mkF m 71 #[vi p1, vi p2, vr b1, vi (1 : Int32), vr u1, vr u2, vr u0, vu, vu] [xi (0 : Int32), xr u1, xr u2, xi (1 : Int32)])) rfl (by rw [hml]; rfl) (argsL := [xr u1, xi (0 : Int32)]) (rest := [xr u2, xi (1 : Int32)]) (lenOf pd3 rfl) rfl (by show 2 * 0 + _ ≤ _; exact Nat.le_of_eq rfl) (hb hby at_71) (fun _ _ => ⟨rfl, e14, (by decide : 1 + 0 ≤ _), (by decide : 3 + 0 ≤ _)⟩)
  dsimp only [Pt.U, Pt.locs, Pt.cells, Pt.slots] at X15 l15 y15 z15 st15 hQ15
  subst l15 y15 z15
  obtain ⟨rfl, Nq15, e15⟩ := hQ15
  have N15 := Fr.app N14 Nq15
  obtain ⟨_, _, ⟨T16, L16, k16, n16⟩, -, X16, ⟨Lc16, hQ16, l16, y16, z16⟩, st16⟩ := Jvm.LawKit.callS X15 hx (y := Y4) hown (mvT hZ (ww hw 15 rfl)) (mvT hZ (ww hw 16 rfl)) (mvT hZ (ww hw 17 rfl)) (mvT hZ (ww hw 18 rfl)) (by decide) (backOf (W := 1) (own_c19_apply l Z a0 hw u0 u1 u2 G h10 n0 O10 []) hZ (ww hw 18 rfl) (ww hw 17 rfl) (by decide) (by decide)) (g := (mkF m 74 #[vi p1, vi p2, vr b1, vi (1 : Int32), vr u1, vr u2, vr u0, vu, vu] [xi (0 : Int32), xr u2, xi (1 : Int32)])) rfl (by rw [hml]; rfl) (argsL := [xr u2, xi (0 : Int32)]) (rest := [xi (1 : Int32)]) (lenOf pd3 rfl) rfl (by show 2 * 0 + _ ≤ _; exact Nat.le_of_eq rfl) (hb hby at_74) (fun _ _ => ⟨rfl, e15, (by decide : 1 + 0 ≤ _), (by decide : 3 + 0 ≤ _)⟩)
  dsimp only [Pt.U, Pt.locs, Pt.cells, Pt.slots] at X16 l16 y16 z16 st16 hQ16
  subst l16 y16 z16
  obtain ⟨rfl, Nq16, e16⟩ := hQ16
  have N16 := Fr.app N15 Nq16
  obtain ⟨_, _, ⟨T17, L17, k17, n17⟩, -, X17, ⟨Lc17, hQ17, l17, y17, z17⟩, st17⟩ := Jvm.LawKit.callS X16 hx (y := Y4) hown (mvT hZ (ww hw 15 rfl)) (mvT hZ (ww hw 16 rfl)) (mvT hZ (ww hw 17 rfl)) (mvT hZ (ww hw 18 rfl)) (by decide) (backOf (W := 0) (own_c4_apply l Z a0 hw u0 u1 u2 G h10 n0 O10 []) hZ (ww hw 18 rfl) (ww hw 17 rfl) (by decide) (by decide)) (g := (mkF m 90 #[vi p1, vi p2, vr b1, vi (1 : Int32), vr u1, vr u2, vr u0, vi (1 : Int32), vu] [xi (1 : Int32), xr u0])) rfl (by rw [hml]; rfl) (argsL := [xr u0, xi (1 : Int32)]) (rest := []) (lenOf pd3 rfl) rfl (by show 2 * 0 + _ ≤ _; exact Nat.le_of_eq rfl) (hb hby at_90) (fun _ _ => ⟨rfl, e16, (by decide : 1 + 0 ≤ _), (by decide : 3 + 0 ≤ _)⟩)
  dsimp only [Pt.U, Pt.locs, Pt.cells, Pt.slots] at X17 l17 y17 z17 st17 hQ17
  subst l17 y17 z17
  obtain ⟨rfl, Nq17, e17⟩ := hQ17
  have N17 := Fr.app N16 Nq17
  obtain ⟨_, _, ⟨T18, L18, k18, n18⟩, -, X18, ⟨Lc18, hQ18, l18, y18, z18⟩, st18⟩ := Jvm.LawKit.callS X17 hx (y := Y4) hown (mvT hZ (ww hw 15 rfl)) (mvT hZ (ww hw 16 rfl)) (mvT hZ (ww hw 17 rfl)) (mvT hZ (ww hw 18 rfl)) (by decide) (backOf (W := 2) (own_c10_apply l Z a0 hw u0 u1 u2 G h10 n0 O10 []) hZ (ww hw 18 rfl) (ww hw 17 rfl) (by decide) (by decide)) (g := (mkF m 98 #[vi p1, vi p2, vr b1, vi (1 : Int32), vr u1, vr u2, vr u0, vi (1 : Int32), vu] [xi (1 : Int32), xr u1, xr u2, xi (1 : Int32)])) rfl (by rw [hml]; rfl) (argsL := [xr u1, xi (1 : Int32)]) (rest := [xr u2, xi (1 : Int32)]) (lenOf pd3 rfl) rfl (by show 2 * 0 + _ ≤ _; exact Nat.le_of_eq rfl) (hb hby at_98) (fun _ _ => ⟨rfl, e17, (by decide : 1 + 0 ≤ _), (by decide : 3 + 0 ≤ _)⟩)
  dsimp only [Pt.U, Pt.locs, Pt.cells, Pt.slots] at X18 l18 y18 z18 st18 hQ18
  subst l18 y18 z18
  obtain ⟨rfl, Nq18, e18⟩ := hQ18
  have N18 := Fr.app N17 Nq18
  obtain ⟨_, _, ⟨T19, L19, k19, n19⟩, -, X19, ⟨Lc19, hQ19, l19, y19, z19⟩, st19⟩ := Jvm.LawKit.callS X18 hx (y := Y4) hown (mvT hZ (ww hw 15 rfl)) (mvT hZ (ww hw 16 rfl)) (mvT hZ (ww hw 17 rfl)) (mvT hZ (ww hw 18 rfl)) (by decide) (backOf (W := 1) (own_c19_apply l Z a0 hw u0 u1 u2 G h10 n0 O10 []) hZ (ww hw 18 rfl) (ww hw 17 rfl) (by decide) (by decide)) (g := (mkF m 101 #[vi p1, vi p2, vr b1, vi (1 : Int32), vr u1, vr u2, vr u0, vi (1 : Int32), vu] [xi (0 : Int32), xr u2, xi (1 : Int32)])) rfl (by rw [hml]; rfl) (argsL := [xr u2, xi (0 : Int32)]) (rest := [xi (1 : Int32)]) (lenOf pd3 rfl) rfl (by show 2 * 0 + _ ≤ _; exact Nat.le_of_eq rfl) (hb hby at_101) (fun _ _ => ⟨rfl, e18, (by decide : 1 + 0 ≤ _), (by decide : 3 + 0 ≤ _)⟩)
  dsimp only [Pt.U, Pt.locs, Pt.cells, Pt.slots] at X19 l19 y19 z19 st19 hQ19
  subst l19 y19 z19
  obtain ⟨rfl, Nq19, e19⟩ := hQ19
  have N19 := Fr.app N18 Nq19
  obtain ⟨fs, hr, hrun, hended, hW, hsame⟩ := X19.leave (v := some (xi (1 : Int32))) (fun h => by rw [Bd.returns] at h; cases h)
  refine ⟨_, _, pre0 _ ?_, hrun, hended, _, _, rfl, ?_, ⟨_, rfl⟩, hW, hsame.mono (by decide) (by decide)⟩
  · show own_S p e below s₁ (mkF m 0 #[vi p1, vi p2, vu, vu, vu, vu, vu, vu, vu] []) _
    refine XS.iconst X0.here hx rfl (hb hby at_0) ?_
    show own_S p e below s₁ (mkF m 1 #[vi p1, vi p2, vu, vu, vu, vu, vu, vu, vu] [xi (3 : Int32)]) _
    refine st1 _ ?_
    show own_S p e below T1 (mkF m 4 #[vi p1, vi p2, vu, vu, vu, vu, vu, vu, vu] [xr b1]) _
    refine XS.dup X1.here hx rfl (hb hby at_4) rfl rfl ?_
    show own_S p e below T1 (mkF m 5 #[vi p1, vi p2, vu, vu, vu, vu, vu, vu, vu] [xr b1, xr b1]) _
    refine XS.iconst X1.here hx rfl (hb hby at_5) ?_
    show own_S p e below T1 (mkF m 6 #[vi p1, vi p2, vu, vu, vu, vu, vu, vu, vu] [xi (0 : Int32), xr b1, xr b1]) _
    refine st2 _ ?_
    show own_S p e below T2 (mkF m 9 #[vi p1, vi p2, vu, vu, vu, vu, vu, vu, vu] [xr u0, xi (0 : Int32), xr b1, xr b1]) _
    refine st4 _ ?_
    show own_S p e below T4 (mkF m 10 #[vi p1, vi p2, vu, vu, vu, vu, vu, vu, vu] [xr b1]) _
    refine XS.dup X4.here hx rfl (hb hby at_10) rfl rfl ?_
    show own_S p e below T4 (mkF m 11 #[vi p1, vi p2, vu, vu, vu, vu, vu, vu, vu] [xr b1, xr b1]) _
    refine XS.iconst X4.here hx rfl (hb hby at_11) ?_
    show own_S p e below T4 (mkF m 12 #[vi p1, vi p2, vu, vu, vu, vu, vu, vu, vu] [xi (1 : Int32), xr b1, xr b1]) _
    refine st5 _ ?_
    show own_S p e below T5 (mkF m 15 #[vi p1, vi p2, vu, vu, vu, vu, vu, vu, vu] [xr u1, xi (1 : Int32), xr b1, xr b1]) _
    refine st7 _ ?_
    show own_S p e below T7 (mkF m 16 #[vi p1, vi p2, vu, vu, vu, vu, vu, vu, vu] [xr b1]) _
    refine XS.dup X7.here hx rfl (hb hby at_16) rfl rfl ?_
    show own_S p e below T7 (mkF m 17 #[vi p1, vi p2, vu, vu, vu, vu, vu, vu, vu] [xr b1, xr b1]) _
    refine XS.iconst X7.here hx rfl (hb hby at_17) ?_
    show own_S p e below T7 (mkF m 18 #[vi p1, vi p2, vu, vu, vu, vu, vu, vu, vu] [xi (2 : Int32), xr b1, xr b1]) _
    refine st8 _ ?_
    show own_S p e below T8 (mkF m 21 #[vi p1, vi p2, vu, vu, vu, vu, vu, vu, vu] [xr u2, xi (2 : Int32), xr b1, xr b1]) _
    refine st10 _ ?_
    show own_S p e below T10 (mkF m 22 #[vi p1, vi p2, vu, vu, vu, vu, vu, vu, vu] [xr b1]) _
    refine XS.astoreN X10.here hx rfl (hb hby at_22) rfl rfl (l' := #[vi p1, vi p2, vr b1, vu, vu, vu, vu, vu, vu]) rfl ?_
    show own_S p e below T10 (mkF m 23 #[vi p1, vi p2, vr b1, vu, vu, vu, vu, vu, vu] []) _
    refine XS.iloadN X10.here hx rfl (hb hby at_23) rfl ?_
    show own_S p e below T10 (mkF m 24 #[vi p1, vi p2, vr b1, vu, vu, vu, vu, vu, vu] [xi p1]) _
    refine XS.iconst X10.here hx rfl (hb hby at_24) ?_
    show own_S p e below T10 (mkF m 25 #[vi p1, vi p2, vr b1, vu, vu, vu, vu, vu, vu] [xi (3 : Int32), xi p1]) _
    refine XS.iand X10.here hx rfl (hb hby at_25) rfl ?_
    show own_S p e below T10 (mkF m 26 #[vi p1, vi p2, vr b1, vu, vu, vu, vu, vu, vu] [xi (p1 &&& (3 : Int32))]) _
    refine castTop (show (mkF m 26 #[vi p1, vi p2, vr b1, vu, vu, vu, vu, vu, vu] [xi (p1 &&& (3 : Int32))]) = (mkF m 26 #[vi p1, vi p2, vr b1, vu, vu, vu, vu, vu, vu] [xi (1 : Int32)]) from by rw [as1]) ?_
    show own_S p e below T10 (mkF m 26 #[vi p1, vi p2, vr b1, vu, vu, vu, vu, vu, vu] [xi (1 : Int32)]) _
    refine XS.istoreN X10.here hx rfl (hb hby at_26) rfl (l' := #[vi p1, vi p2, vr b1, vi (1 : Int32), vu, vu, vu, vu, vu]) rfl ?_
    show own_S p e below T10 (mkF m 27 #[vi p1, vi p2, vr b1, vi (1 : Int32), vu, vu, vu, vu, vu] []) _
    refine XS.iloadN X10.here hx rfl (hb hby at_27) rfl ?_
    show own_S p e below T10 (mkF m 28 #[vi p1, vi p2, vr b1, vi (1 : Int32), vu, vu, vu, vu, vu] [xi (1 : Int32)]) _
    refine XS.iconst X10.here hx rfl (hb hby at_28) ?_
    show own_S p e below T10 (mkF m 29 #[vi p1, vi p2, vr b1, vi (1 : Int32), vu, vu, vu, vu, vu] [xi (3 : Int32), xi (1 : Int32)]) _
    refine XS.icmpYes X10.here hx rfl (pc0 := 29) (pc' := 36) rfl (hb hby at_29) rfl (by decide) (by decide) (by decide) ?_
    show own_S p e below T10 (mkF m 36 #[vi p1, vi p2, vr b1, vi (1 : Int32), vu, vu, vu, vu, vu] []) _
    refine XS.aloadN X10.here hx rfl (hb hby at_36) rfl rfl ?_
    show own_S p e below T10 (mkF m 37 #[vi p1, vi p2, vr b1, vi (1 : Int32), vu, vu, vu, vu, vu] [xr b1]) _
    refine XS.iloadN X10.here hx rfl (hb hby at_37) rfl ?_
    show own_S p e below T10 (mkF m 38 #[vi p1, vi p2, vr b1, vi (1 : Int32), vu, vu, vu, vu, vu] [xi (1 : Int32), xr b1]) _
    refine X10.aaload hx (j := (1 : Int32)) (v := (xr u1)) (by rw [e10]; exact Ar11.1) (State.isArrayOf_alike hZ.alike Ar11.2.1) rfl Ar11.2.2 hin11 hat11 (g := (mkF m 38 #[vi p1, vi p2, vr b1, vi (1 : Int32), vu, vu, vu, vu, vu] [xi (1 : Int32), xr b1])) rfl rfl (hb hby at_38) _ ?_
    show own_S p e below T10 (mkF m 39 #[vi p1, vi p2, vr b1, vi (1 : Int32), vu, vu, vu, vu, vu] [xr u1]) _
    refine XS.astore X10.here hx rfl (hb hby at_39) rfl rfl (l' := #[vi p1, vi p2, vr b1, vi (1 : Int32), vr u1, vu, vu, vu, vu]) rfl ?_
    show own_S p e below T10 (mkF m 41 #[vi p1, vi p2, vr b1, vi (1 : Int32), vr u1, vu, vu, vu, vu] []) _
    refine XS.aloadN X10.here hx rfl (hb hby at_41) rfl rfl ?_
    show own_S p e below T10 (mkF m 42 #[vi p1, vi p2, vr b1, vi (1 : Int32), vr u1, vu, vu, vu, vu] [xr b1]) _
    refine XS.iloadN X10.here hx rfl (hb hby at_42) rfl ?_
    show own_S p e below T10 (mkF m 43 #[vi p1, vi p2, vr b1, vi (1 : Int32), vr u1, vu, vu, vu, vu] [xi p2, xr b1]) _
    refine X10.ldcI hx hown (mvT hZ (ww hw 10 rfl)) (g := (mkF m 43 #[vi p1, vi p2, vr b1, vi (1 : Int32), vr u1, vu, vu, vu, vu] [xi p2, xr b1])) rfl (hb hby at_43) ?_
    show own_S p e below T10 (mkF m 45 #[vi p1, vi p2, vr b1, vi (1 : Int32), vr u1, vu, vu, vu, vu] [xi (2147483647 : Int32), xi p2, xr b1]) _
    refine XS.iand X10.here hx rfl (hb hby at_45) rfl ?_
    show own_S p e below T10 (mkF m 46 #[vi p1, vi p2, vr b1, vi (1 : Int32), vr u1, vu, vu, vu, vu] [xi (p2 &&& (2147483647 : Int32)), xr b1]) _
    show own_S p e below T10 (mkF m 46 #[vi p1, vi p2, vr b1, vi (1 : Int32), vr u1, vu, vu, vu, vu] [xi (p2 &&& (2147483647 : Int32)), xr b1]) _
    refine XS.iconst X10.here hx rfl (hb hby at_46) ?_
    show own_S p e below T10 (mkF m 47 #[vi p1, vi p2, vr b1, vi (1 : Int32), vr u1, vu, vu, vu, vu] [xi (3 : Int32), xi (p2 &&& (2147483647 : Int32)), xr b1]) _
    refine XS.irem X10.here hx rfl (hb hby at_47) rfl (by decide) ?_
    show own_S p e below T10 (mkF m 48 #[vi p1, vi p2, vr b1, vi (1 : Int32), vr u1, vu, vu, vu, vu] [xi ((p2 &&& (2147483647 : Int32)) - ((p2 &&& (2147483647 : Int32)) / (3 : Int32)) * (3 : Int32)), xr b1]) _
    refine castTop (show (mkF m 48 #[vi p1, vi p2, vr b1, vi (1 : Int32), vr u1, vu, vu, vu, vu] [xi ((p2 &&& (2147483647 : Int32)) - ((p2 &&& (2147483647 : Int32)) / (3 : Int32)) * (3 : Int32)), xr b1]) = (mkF m 48 #[vi p1, vi p2, vr b1, vi (1 : Int32), vr u1, vu, vu, vu, vu] [xi (2 : Int32), xr b1]) from by rw [as6]) ?_
    show own_S p e below T10 (mkF m 48 #[vi p1, vi p2, vr b1, vi (1 : Int32), vr u1, vu, vu, vu, vu] [xi (2 : Int32), xr b1]) _
    refine X10.aaload hx (j := (2 : Int32)) (v := (xr u2)) (by rw [e10]; exact Ar12.1) (State.isArrayOf_alike hZ.alike Ar12.2.1) rfl Ar12.2.2 hin12 hat12 (g := (mkF m 48 #[vi p1, vi p2, vr b1, vi (1 : Int32), vr u1, vu, vu, vu, vu] [xi (2 : Int32), xr b1])) rfl rfl (hb hby at_48) _ ?_
    show own_S p e below T10 (mkF m 49 #[vi p1, vi p2, vr b1, vi (1 : Int32), vr u1, vu, vu, vu, vu] [xr u2]) _
    refine XS.astore X10.here hx rfl (hb hby at_49) rfl rfl (l' := #[vi p1, vi p2, vr b1, vi (1 : Int32), vr u1, vr u2, vu, vu, vu]) rfl ?_
    show own_S p e below T10 (mkF m 51 #[vi p1, vi p2, vr b1, vi (1 : Int32), vr u1, vr u2, vu, vu, vu] []) _
    refine XS.aload X10.here hx rfl (hb hby at_51) rfl rfl ?_
    show own_S p e below T10 (mkF m 53 #[vi p1, vi p2, vr b1, vi (1 : Int32), vr u1, vr u2, vu, vu, vu] [xr u1]) _
    refine XS.aload X10.here hx rfl (hb hby at_53) rfl rfl ?_
    show own_S p e below T10 (mkF m 55 #[vi p1, vi p2, vr b1, vi (1 : Int32), vr u1, vr u2, vu, vu, vu] [xr u2, xr u1]) _
    refine st13 _ ?_
    show own_S p e below T13 (mkF m 58 #[vi p1, vi p2, vr b1, vi (1 : Int32), vr u1, vr u2, vu, vu, vu] [xr u0]) _
    refine XS.astore X13.here hx rfl (hb hby at_58) rfl rfl (l' := #[vi p1, vi p2, vr b1, vi (1 : Int32), vr u1, vr u2, vr u0, vu, vu]) rfl ?_
    show own_S p e below T13 (mkF m 60 #[vi p1, vi p2, vr b1, vi (1 : Int32), vr u1, vr u2, vr u0, vu, vu] []) _
    refine XS.aload X13.here hx rfl (hb hby at_60) rfl rfl ?_
    show own_S p e below T13 (mkF m 62 #[vi p1, vi p2, vr b1, vi (1 : Int32), vr u1, vr u2, vr u0, vu, vu] [xr u0]) _
    refine XS.iconst X13.here hx rfl (hb hby at_62) ?_
    show own_S p e below T13 (mkF m 63 #[vi p1, vi p2, vr b1, vi (1 : Int32), vr u1, vr u2, vr u0, vu, vu] [xi (0 : Int32), xr u0]) _
    refine st14 _ ?_
    show own_S p e below T14 (mkF m 66 #[vi p1, vi p2, vr b1, vi (1 : Int32), vr u1, vr u2, vr u0, vu, vu] [xi (1 : Int32)]) _
    refine XS.aload X14.here hx rfl (hb hby at_66) rfl rfl ?_
    show own_S p e below T14 (mkF m 68 #[vi p1, vi p2, vr b1, vi (1 : Int32), vr u1, vr u2, vr u0, vu, vu] [xr u2, xi (1 : Int32)]) _
    refine XS.aload X14.here hx rfl (hb hby at_68) rfl rfl ?_
    show own_S p e below T14 (mkF m 70 #[vi p1, vi p2, vr b1, vi (1 : Int32), vr u1, vr u2, vr u0, vu, vu] [xr u1, xr u2, xi (1 : Int32)]) _
    refine XS.iconst X14.here hx rfl (hb hby at_70) ?_
    show own_S p e below T14 (mkF m 71 #[vi p1, vi p2, vr b1, vi (1 : Int32), vr u1, vr u2, vr u0, vu, vu] [xi (0 : Int32), xr u1, xr u2, xi (1 : Int32)]) _
    refine st15 _ ?_
    show own_S p e below T15 (mkF m 74 #[vi p1, vi p2, vr b1, vi (1 : Int32), vr u1, vr u2, vr u0, vu, vu] [xi (0 : Int32), xr u2, xi (1 : Int32)]) _
    refine st16 _ ?_
    show own_S p e below T16 (mkF m 77 #[vi p1, vi p2, vr b1, vi (1 : Int32), vr u1, vr u2, vr u0, vu, vu] [xi (1 : Int32), xi (1 : Int32)]) _
    refine XS.icmpNo X16.here hx rfl (hb hby at_77) rfl (by decide) ?_
    show own_S p e below T16 (mkF m 80 #[vi p1, vi p2, vr b1, vi (1 : Int32), vr u1, vr u2, vr u0, vu, vu] []) _
    refine XS.iconst X16.here hx rfl (hb hby at_80) ?_
    show own_S p e below T16 (mkF m 81 #[vi p1, vi p2, vr b1, vi (1 : Int32), vr u1, vr u2, vr u0, vu, vu] [xi (1 : Int32)]) _
    refine XS.goto X16.here hx rfl (pc0 := 81) (pc' := 85) rfl (hb hby at_81) (by decide) (by decide) ?_
    show own_S p e below T16 (mkF m 85 #[vi p1, vi p2, vr b1, vi (1 : Int32), vr u1, vr u2, vr u0, vu, vu] [xi (1 : Int32)]) _
    refine XS.istore X16.here hx rfl (hb hby at_85) rfl (l' := #[vi p1, vi p2, vr b1, vi (1 : Int32), vr u1, vr u2, vr u0, vi (1 : Int32), vu]) rfl ?_
    show own_S p e below T16 (mkF m 87 #[vi p1, vi p2, vr b1, vi (1 : Int32), vr u1, vr u2, vr u0, vi (1 : Int32), vu] []) _
    refine XS.aload X16.here hx rfl (hb hby at_87) rfl rfl ?_
    show own_S p e below T16 (mkF m 89 #[vi p1, vi p2, vr b1, vi (1 : Int32), vr u1, vr u2, vr u0, vi (1 : Int32), vu] [xr u0]) _
    refine XS.iconst X16.here hx rfl (hb hby at_89) ?_
    show own_S p e below T16 (mkF m 90 #[vi p1, vi p2, vr b1, vi (1 : Int32), vr u1, vr u2, vr u0, vi (1 : Int32), vu] [xi (1 : Int32), xr u0]) _
    refine st17 _ ?_
    show own_S p e below T17 (mkF m 93 #[vi p1, vi p2, vr b1, vi (1 : Int32), vr u1, vr u2, vr u0, vi (1 : Int32), vu] [xi (1 : Int32)]) _
    refine XS.aload X17.here hx rfl (hb hby at_93) rfl rfl ?_
    show own_S p e below T17 (mkF m 95 #[vi p1, vi p2, vr b1, vi (1 : Int32), vr u1, vr u2, vr u0, vi (1 : Int32), vu] [xr u2, xi (1 : Int32)]) _
    refine XS.aload X17.here hx rfl (hb hby at_95) rfl rfl ?_
    show own_S p e below T17 (mkF m 97 #[vi p1, vi p2, vr b1, vi (1 : Int32), vr u1, vr u2, vr u0, vi (1 : Int32), vu] [xr u1, xr u2, xi (1 : Int32)]) _
    refine XS.iconst X17.here hx rfl (hb hby at_97) ?_
    show own_S p e below T17 (mkF m 98 #[vi p1, vi p2, vr b1, vi (1 : Int32), vr u1, vr u2, vr u0, vi (1 : Int32), vu] [xi (1 : Int32), xr u1, xr u2, xi (1 : Int32)]) _
    refine st18 _ ?_
    show own_S p e below T18 (mkF m 101 #[vi p1, vi p2, vr b1, vi (1 : Int32), vr u1, vr u2, vr u0, vi (1 : Int32), vu] [xi (0 : Int32), xr u2, xi (1 : Int32)]) _
    refine st19 _ ?_
    show own_S p e below T19 (mkF m 104 #[vi p1, vi p2, vr b1, vi (1 : Int32), vr u1, vr u2, vr u0, vi (1 : Int32), vu] [xi (1 : Int32), xi (1 : Int32)]) _
    refine XS.icmpNo X19.here hx rfl (hb hby at_104) rfl (by decide) ?_
    show own_S p e below T19 (mkF m 107 #[vi p1, vi p2, vr b1, vi (1 : Int32), vr u1, vr u2, vr u0, vi (1 : Int32), vu] []) _
    refine XS.iconst X19.here hx rfl (hb hby at_107) ?_
    show own_S p e below T19 (mkF m 108 #[vi p1, vi p2, vr b1, vi (1 : Int32), vr u1, vr u2, vr u0, vi (1 : Int32), vu] [xi (1 : Int32)]) _
    refine XS.goto X19.here hx rfl (pc0 := 108) (pc' := 112) rfl (hb hby at_108) (by decide) (by decide) ?_
    show own_S p e below T19 (mkF m 112 #[vi p1, vi p2, vr b1, vi (1 : Int32), vr u1, vr u2, vr u0, vi (1 : Int32), vu] [xi (1 : Int32)]) _
    refine XS.istore X19.here hx rfl (hb hby at_112) rfl (l' := #[vi p1, vi p2, vr b1, vi (1 : Int32), vr u1, vr u2, vr u0, vi (1 : Int32), vi (1 : Int32)]) rfl ?_
    show own_S p e below T19 (mkF m 114 #[vi p1, vi p2, vr b1, vi (1 : Int32), vr u1, vr u2, vr u0, vi (1 : Int32), vi (1 : Int32)] []) _
    refine XS.iload X19.here hx rfl (hb hby at_114) rfl ?_
    show own_S p e below T19 (mkF m 116 #[vi p1, vi p2, vr b1, vi (1 : Int32), vr u1, vr u2, vr u0, vi (1 : Int32), vi (1 : Int32)] [xi (1 : Int32)]) _
    refine XS.ifNo X19.here hx rfl (hb hby at_116) rfl (by decide) ?_
    show own_S p e below T19 (mkF m 119 #[vi p1, vi p2, vr b1, vi (1 : Int32), vr u1, vr u2, vr u0, vi (1 : Int32), vi (1 : Int32)] []) _
    refine XS.iload X19.here hx rfl (hb hby at_119) rfl ?_
    show own_S p e below T19 (mkF m 121 #[vi p1, vi p2, vr b1, vi (1 : Int32), vr u1, vr u2, vr u0, vi (1 : Int32), vi (1 : Int32)] [xi (1 : Int32)]) _
    refine XS.ifNo X19.here hx rfl (hb hby at_121) rfl (by decide) ?_
    show own_S p e below T19 (mkF m 124 #[vi p1, vi p2, vr b1, vi (1 : Int32), vr u1, vr u2, vr u0, vi (1 : Int32), vi (1 : Int32)] []) _
    refine XS.iconst X19.here hx rfl (hb hby at_124) ?_
    show own_S p e below T19 (mkF m 125 #[vi p1, vi p2, vr b1, vi (1 : Int32), vr u1, vr u2, vr u0, vi (1 : Int32), vi (1 : Int32)] [xi (1 : Int32)]) _
    refine XS.goto X19.here hx rfl (pc0 := 125) (pc' := 129) rfl (hb hby at_125) (by decide) (by decide) ?_
    show own_S p e below T19 (mkF m 129 #[vi p1, vi p2, vr b1, vi (1 : Int32), vr u1, vr u2, vr u0, vi (1 : Int32), vi (1 : Int32)] [xi (1 : Int32)]) _
    exact retN X19 hx (t := .boolean) Bd.returns (by simp) (hb hby at_129) hr
  · exact ⟨rfl, N19⟩
theorem ef_own_c21_composed (m : MethodId) (u0 u1 u2 : Addr) : entryFrame m #[xr u2, xr u0] 3 = (mkF m 0 #[vr u2, vr u0, vu] []) := by first | (simp [entryFrame, mkF, argsToLocals, Value.category]; done) | rfl
set_option maxRecDepth 65536 in
set_option maxHeartbeats 40000000 in
theorem own_c21_composed (l : Launch) (Z : State) (a0 : Array Value) (hw : ∀ d ∈ tables_1, d.before a0 Z = true) (u0 u1 u2 : Addr) (G : own_St Z u0 u1 u2) (h0 : Heap) (n0 : Nat) (O0 : Old Z n0 h0) : own_Met l Z Y0 prog_1_method_7_code 3 (some (.object "com/example/tidemark/tidemark/Change")) ({ frames := 0, cells := 0, slots := 0, locals := 0 } : Room) #[xr u2, xr u0] h0 (own_QR (some (xr u0)) h0 n0) := by
  intro ws
  refine MetFree.of_bodySF (plainFor_of_name pn0) hisR ?_
  intro p e s m args below meth c s₁ Bd hml0 hP hK
  obtain ⟨rfl, hZ, hh⟩ := hP
  have hx := Bd.exec
  have hby := Bd.bytes
  have hml : c.maxLocals = 3 := hml0
  have hown : s.vm.findClass "com/example/tidemark/tidemark/Change" = some m.cls := findClass_of_methodNamed Bd.named
  have hnm := (name_of_methodNamed Bd.named Bd.method).1
  have X0 : Stand p l e ({ frames := 0, cells := 0, slots := 0, locals := 0 } : Room) s m #[xr u2, xr u0] below meth c s₁ [] 0 0 := Stand.of_body Bd
  have e0 : s₁.heap = h0 := by rw [← hh, Bd.state]; rfl
  have N0 := Fr.nil n0
  have pre0 : ∀ t, Steps p.tables e below (s₁.setTop (mkF m 0 #[vr u2, vr u0, vu] [])) t → Steps p.tables e below (s₁.setTop (entryFrame m #[xr u2, xr u0] 3)) t := fun t st => castTop (ef_own_c21_composed m u0 u1 u2) st
  obtain ⟨T1, X1, e1, st1⟩ := getS2 X0 hx hZ hown (host := "") (Or.inl (ww hw 14 rfl)) Via.refl e0 ((own_S_u2 G).ext O0.2) (g := (mkF m 3 #[vr u2, vr u0, vr u0] [xr u0])) rfl (hb hby d1_3)
  obtain ⟨fs, hr, hrun, hended, hW, hsame⟩ := X1.leave (v := some (xr u0)) (fun h => by rw [Bd.returns] at h; cases h)
  refine ⟨_, _, pre0 _ ?_, hrun, hended, _, _, rfl, ?_, ⟨_, rfl⟩, hW, hsame.mono (by decide) (by decide)⟩
  · show own_S p e below s₁ (mkF m 0 #[vr u2, vr u0, vu] []) _
    refine XS.aloadN X0.here hx rfl (hb hby d1_0) rfl rfl ?_
    show own_S p e below s₁ (mkF m 1 #[vr u2, vr u0, vu] [xr u0]) _
    refine XS.astoreN X0.here hx rfl (hb hby d1_1) rfl rfl (l' := #[vr u2, vr u0, vr u0]) rfl ?_
    show own_S p e below s₁ (mkF m 2 #[vr u2, vr u0, vr u0] []) _
    refine XS.aloadN X0.here hx rfl (hb hby d1_2) rfl rfl ?_
    show own_S p e below s₁ (mkF m 3 #[vr u2, vr u0, vr u0] [xr u0]) _
    refine st1 _ ?_
    show own_S p e below T1 (mkF m 6 #[vr u2, vr u0, vr u0] [xr u2, xr u0]) _
    refine Jvm.RoadKit.acmp (g := (mkF m 6 #[vr u2, vr u0, vr u0] [xr u2, xr u0])) X1 hx rfl rfl rfl (pc0 := 6) (pc' := 68) (same := false) rfl (hb hby d1_6) rfl (own_ref (own_ne_u0_u2 G)) (by decide) (by decide) ?_
    show own_S p e below T1 (mkF m 68 #[vr u2, vr u0, vr u0] []) _
    refine XS.aloadN X1.here hx rfl (hb hby d1_68) rfl rfl ?_
    show own_S p e below T1 (mkF m 69 #[vr u2, vr u0, vr u0] [xr u0]) _
    exact X1.areturnOut hx rfl Bd.returns rfl (hb hby d1_69) hr
  · exact ⟨rfl, N0, e1⟩
theorem ef_own_l6 (m : MethodId) (u0 u1 u2 : Addr) (p1 : Int32) (p2 : Int32) : entryFrame m #[xi p1, xi p2] maxLocals = (mkF m 0 #[vi p1, vi p2, vu, vu, vu, vu, vu, vu, vu] []) := by first | (simp [entryFrame, mkF, argsToLocals, Value.category, maxLocals]; done) | rfl
set_option maxRecDepth 65536 in
set_option maxHeartbeats 40000000 in
theorem own_l6 (l : Launch) (Z : State) (a0 : Array Value) (hw : ∀ d ∈ tables_1, d.before a0 Z = true) (u0 u1 u2 : Addr) (G : own_St Z u0 u1 u2) (p1 : Int32) (p2 : Int32) (as2 : (p1 &&& (3 : Int32)) = (2 : Int32)) (as4 : ((p2 &&& (2147483647 : Int32)) - ((p2 &&& (2147483647 : Int32)) / (3 : Int32)) * (3 : Int32)) = (0 : Int32)) (h0 : Heap) (n0 : Nat) (O0 : Old Z n0 h0) : own_Met l Z x code maxLocals ret room_1 #[xi p1, xi p2] h0 (own_QL (some (xi (1 : Int32))) n0) := by
  intro ws
  refine MetFree.of_bodySF (plainFor_of_name pn2) hisR ?_
  intro p e s m args below meth c s₁ Bd hml0 hP hK
  obtain ⟨rfl, hZ, hh⟩ := hP
  have hx := Bd.exec
  have hby := Bd.bytes
  have hml : c.maxLocals = 9 := hml0
  have hown : s.vm.findClass "com/example/tidemark/tidemark/ChangeComposedPinLaw" = some m.cls := findClass_of_methodNamed Bd.named
  have hnm := (name_of_methodNamed Bd.named Bd.method).1
  have X0 : Stand p l e room_1 s m #[xi p1, xi p2] below meth c s₁ [] 0 0 := Stand.of_body Bd
  have e0 : s₁.heap = h0 := by rw [← hh, Bd.state]; rfl
  have N0 := Fr.nil n0
  have pre0 : ∀ t, Steps p.tables e below (s₁.setTop (mkF m 0 #[vi p1, vi p2, vu, vu, vu, vu, vu, vu, vu] [])) t → Steps p.tables e below (s₁.setTop (entryFrame m #[xi p1, xi p2] maxLocals)) t := fun t st => castTop (ef_own_l6 m u0 u1 u2 p1 p2) st
  obtain ⟨T1, h1, k1, X1, e1, E1, A1, Ov1, st1⟩ := newR X0 hx hZ hown (ww hw 0 rfl) (ww hw 1 rfl) e0 (g := (mkF m 1 #[vi p1, vi p2, vu, vu, vu, vu, vu, vu, vu] [xi (3 : Int32)])) rfl (hb hby at_1) rfl (by decide) (cap := 3) (by decide) (by decide) (by decide) (by decide)
  obtain ⟨b1, g1⟩ : ∃ z, z = h0.size := ⟨_, rfl⟩
  rw [← g1] at A1 st1
  have g_b1 : n0 ≤ b1 := own_fresh O0 g1
  have O1 : Old Z n0 h1 := O0.ext E1
  have V_b1 : Arv Z h1 b1 k1 (.object "com/example/tidemark/tidemark/Change") (3 : Int32) [.null, .null, .null] .null := (Arv.new A1 (by decide)).pad (pad_rep [] .null 3)
  obtain ⟨T2, X2, e2, st2⟩ := getS2 X1 hx hZ hown (host := "") (Or.inl (ww hw 2 rfl)) Via.refl e1 ((own_S_u0 G).ext O1.2) (g := (mkF m 6 #[vi p1, vi p2, vu, vu, vu, vu, vu, vu, vu] [xi (0 : Int32), xr b1, xr b1])) rfl (hb hby at_6)
  obtain ⟨cl3, Ar3, q3, S3, N3_, H3, G3⟩ := id V_b1
  have hin3 : ¬ ((0 : Int32) < 0 ∨ cl3.slots.size ≤ ((0 : Int32)).toNatClampNeg) := inb_of S3 ⟨by decide, by decide⟩
  obtain ⟨T4, h4, X4, e4, W4, st4⟩ := stR X2 hx hZ e2 Ar3 (j := (0 : Int32)) hin3 rfl (Sto.ofV Ar3 q3 Ov1 (Ins.self ((own_X_u0 G).ext O1.2))) (g := (mkF m 9 #[vi p1, vi p2, vu, vu, vu, vu, vu, vu, vu] [xr u0, xi (0 : Int32), xr b1, xr b1])) rfl rfl (hb hby at_9)
  have V_b1_4 : Arv Z h4 b1 k1 (.object "com/example/tidemark/tidemark/Change") (3 : Int32) [xr u0, .null, .null] .null := Arv.set Ar3 q3 S3 N3_ H3 G3 rfl W4 0 rfl (Nat.le_of_ble_eq_true rfl)
  have O4 : Old Z n0 h4 := O1.wr W4 g_b1
  have N4 := Fr.snoc X4 N0 g_b1
  obtain ⟨T5, X5, e5, st5⟩ := getS2 X4 hx hZ hown (host := "") (Or.inl (ww hw 6 rfl)) Via.refl e4 ((own_S_u1 G).ext O4.2) (g := (mkF m 12 #[vi p1, vi p2, vu, vu, vu, vu, vu, vu, vu] [xi (1 : Int32), xr b1, xr b1])) rfl (hb hby at_12)
  obtain ⟨cl6, Ar6, q6, S6, N6_, H6, G6⟩ := id V_b1_4
  have hin6 : ¬ ((1 : Int32) < 0 ∨ cl6.slots.size ≤ ((1 : Int32)).toNatClampNeg) := inb_of S6 ⟨by decide, by decide⟩
  obtain ⟨T7, h7, X7, e7, W7, st7⟩ := stR X5 hx hZ e5 Ar6 (j := (1 : Int32)) hin6 rfl (Sto.ofV Ar6 q6 Ov1 (Ins.self ((own_X_u1 G).ext O4.2))) (g := (mkF m 15 #[vi p1, vi p2, vu, vu, vu, vu, vu, vu, vu] [xr u1, xi (1 : Int32), xr b1, xr b1])) rfl rfl (hb hby at_15)
  have V_b1_7 : Arv Z h7 b1 k1 (.object "com/example/tidemark/tidemark/Change") (3 : Int32) [xr u0, xr u1, .null] .null := Arv.set Ar6 q6 S6 N6_ H6 G6 rfl W7 1 rfl (Nat.le_of_ble_eq_true rfl)
  have O7 : Old Z n0 h7 := O4.wr W7 g_b1
  have N7 := Fr.snoc X7 N4 g_b1
  obtain ⟨T8, X8, e8, st8⟩ := getS2 X7 hx hZ hown (host := "") (Or.inl (ww hw 8 rfl)) Via.refl e7 ((own_S_u2 G).ext O7.2) (g := (mkF m 18 #[vi p1, vi p2, vu, vu, vu, vu, vu, vu, vu] [xi (2 : Int32), xr b1, xr b1])) rfl (hb hby at_18)
  obtain ⟨cl9, Ar9, q9, S9, N9_, H9, G9⟩ := id V_b1_7
  have hin9 : ¬ ((2 : Int32) < 0 ∨ cl9.slots.size ≤ ((2 : Int32)).toNatClampNeg) := inb_of S9 ⟨by decide, by decide⟩
  obtain ⟨T10, h10, X10, e10, W10, st10⟩ := stR X8 hx hZ e8 Ar9 (j := (2 : Int32)) hin9 rfl (Sto.ofV Ar9 q9 Ov1 (Ins.self ((own_X_u2 G).ext O7.2))) (g := (mkF m 21 #[vi p1, vi p2, vu, vu, vu, vu, vu, vu, vu] [xr u2, xi (2 : Int32), xr b1, xr b1])) rfl rfl (hb hby at_21)
  have V_b1_10 : Arv Z h10 b1 k1 (.object "com/example/tidemark/tidemark/Change") (3 : Int32) [xr u0, xr u1, xr u2] .null := Arv.set Ar9 q9 S9 N9_ H9 G9 rfl W10 2 rfl (Nat.le_of_ble_eq_true rfl)
  have O10 : Old Z n0 h10 := O7.wr W10 g_b1
  have N10 := Fr.snoc X10 N7 g_b1
  obtain ⟨cl11, Ar11, q11, S11, N11_, H11, G11⟩ := id V_b1_10
  have hin11 : ¬ ((2 : Int32) < 0 ∨ cl11.slots.size ≤ ((2 : Int32)).toNatClampNeg) := inb_of S11 ⟨by decide, by decide⟩
  have hat11 : cl11.slots[((2 : Int32)).toNatClampNeg]? = some (xr u2) := Has.at H11 hin11 rfl
  obtain ⟨cl12, Ar12, q12, S12, N12_, H12, G12⟩ := id V_b1_10
  have hin12 : ¬ ((0 : Int32) < 0 ∨ cl12.slots.size ≤ ((0 : Int32)).toNatClampNeg) := inb_of S12 ⟨by decide, by decide⟩
  have hat12 : cl12.slots[((0 : Int32)).toNatClampNeg]? = some (xr u0) := Has.at H12 hin12 rfl
  obtain ⟨_, _, ⟨T13, L13, k13, n13⟩, -, X13, ⟨Lc13, hQ13, l13, y13, z13⟩, st13⟩ := Jvm.LawKit.callS X10 hx (y := Y0) hown (mvT hZ (ww hw 11 rfl)) (mvT hZ (ww hw 12 rfl)) (mvT hZ (ww hw 3 rfl)) (mvT hZ (ww hw 13 rfl)) (by decide) (backOf (W := 0) (own_c21_composed l Z a0 hw u0 u1 u2 G h10 n0 O10 []) hZ (ww hw 13 rfl) (ww hw 3 rfl) (by decide) (by decide)) (g := (mkF m 55 #[vi p1, vi p2, vr b1, vi (2 : Int32), vr u2, vr u0, vu, vu, vu] [xr u0, xr u2])) rfl (by rw [hml]; rfl) (argsL := [xr u2, xr u0]) (rest := []) (lenOf pd0 rfl) rfl (by show 2 * 0 + _ ≤ _; exact Nat.le_of_eq rfl) (hb hby at_55) (fun _ _ => ⟨rfl, e10, (by decide : 1 + 0 ≤ _), (by decide : 3 + 0 ≤ _)⟩)
  dsimp only [Pt.U, Pt.locs, Pt.cells, Pt.slots] at X13 l13 y13 z13 st13 hQ13
  subst l13 y13 z13
  obtain ⟨rfl, Nq13, e13⟩ := hQ13
  have N13 := Fr.app N10 Nq13
  obtain ⟨_, _, ⟨T14, L14, k14, n14⟩, -, X14, ⟨Lc14, hQ14, l14, y14, z14⟩, st14⟩ := Jvm.LawKit.callS X13 hx (y := Y4) hown (mvT hZ (ww hw 15 rfl)) (mvT hZ (ww hw 16 rfl)) (mvT hZ (ww hw 17 rfl)) (mvT hZ (ww hw 18 rfl)) (by decide) (backOf (W := 0) (own_c1_apply l Z a0 hw u0 u1 u2 G h10 n0 O10 []) hZ (ww hw 18 rfl) (ww hw 17 rfl) (by decide) (by decide)) (g := (mkF m 63 #[vi p1, vi p2, vr b1, vi (2 : Int32), vr u2, vr u0, vr u0, vu, vu] [xi (0 : Int32), xr u0])) rfl (by rw [hml]; rfl) (argsL := [xr u0, xi (0 : Int32)]) (rest := []) (lenOf pd3 rfl) rfl (by show 2 * 0 + _ ≤ _; exact Nat.le_of_eq rfl) (hb hby at_63) (fun _ _ => ⟨rfl, e13, (by decide : 1 + 0 ≤ _), (by decide : 3 + 0 ≤ _)⟩)
  dsimp only [Pt.U, Pt.locs, Pt.cells, Pt.slots] at X14 l14 y14 z14 st14 hQ14
  subst l14 y14 z14
  obtain ⟨rfl, Nq14, e14⟩ := hQ14
  have N14 := Fr.app N13 Nq14
  obtain ⟨_, _, ⟨T15, L15, k15, n15⟩, -, X15, ⟨Lc15, hQ15, l15, y15, z15⟩, st15⟩ := Jvm.LawKit.callS X14 hx (y := Y4) hown (mvT hZ (ww hw 15 rfl)) (mvT hZ (ww hw 16 rfl)) (mvT hZ (ww hw 17 rfl)) (mvT hZ (ww hw 18 rfl)) (by decide) (backOf (W := 2) (own_c19_apply l Z a0 hw u0 u1 u2 G h10 n0 O10 []) hZ (ww hw 18 rfl) (ww hw 17 rfl) (by decide) (by decide)) (g := (mkF m 71 #[vi p1, vi p2, vr b1, vi (2 : Int32), vr u2, vr u0, vr u0, vu, vu] [xi (0 : Int32), xr u2, xr u0, xi (1 : Int32)])) rfl (by rw [hml]; rfl) (argsL := [xr u2, xi (0 : Int32)]) (rest := [xr u0, xi (1 : Int32)]) (lenOf pd3 rfl) rfl (by show 2 * 0 + _ ≤ _; exact Nat.le_of_eq rfl) (hb hby at_71) (fun _ _ => ⟨rfl, e14, (by decide : 1 + 0 ≤ _), (by decide : 3 + 0 ≤ _)⟩)
  dsimp only [Pt.U, Pt.locs, Pt.cells, Pt.slots] at X15 l15 y15 z15 st15 hQ15
  subst l15 y15 z15
  obtain ⟨rfl, Nq15, e15⟩ := hQ15
  have N15 := Fr.app N14 Nq15
  obtain ⟨_, _, ⟨T16, L16, k16, n16⟩, -, X16, ⟨Lc16, hQ16, l16, y16, z16⟩, st16⟩ := Jvm.LawKit.callS X15 hx (y := Y4) hown (mvT hZ (ww hw 15 rfl)) (mvT hZ (ww hw 16 rfl)) (mvT hZ (ww hw 17 rfl)) (mvT hZ (ww hw 18 rfl)) (by decide) (backOf (W := 1) (own_c4_apply l Z a0 hw u0 u1 u2 G h10 n0 O10 []) hZ (ww hw 18 rfl) (ww hw 17 rfl) (by decide) (by decide)) (g := (mkF m 74 #[vi p1, vi p2, vr b1, vi (2 : Int32), vr u2, vr u0, vr u0, vu, vu] [xi (1 : Int32), xr u0, xi (1 : Int32)])) rfl (by rw [hml]; rfl) (argsL := [xr u0, xi (1 : Int32)]) (rest := [xi (1 : Int32)]) (lenOf pd3 rfl) rfl (by show 2 * 0 + _ ≤ _; exact Nat.le_of_eq rfl) (hb hby at_74) (fun _ _ => ⟨rfl, e15, (by decide : 1 + 0 ≤ _), (by decide : 3 + 0 ≤ _)⟩)
  dsimp only [Pt.U, Pt.locs, Pt.cells, Pt.slots] at X16 l16 y16 z16 st16 hQ16
  subst l16 y16 z16
  obtain ⟨rfl, Nq16, e16⟩ := hQ16
  have N16 := Fr.app N15 Nq16
  obtain ⟨_, _, ⟨T17, L17, k17, n17⟩, -, X17, ⟨Lc17, hQ17, l17, y17, z17⟩, st17⟩ := Jvm.LawKit.callS X16 hx (y := Y4) hown (mvT hZ (ww hw 15 rfl)) (mvT hZ (ww hw 16 rfl)) (mvT hZ (ww hw 17 rfl)) (mvT hZ (ww hw 18 rfl)) (by decide) (backOf (W := 0) (own_c4_apply l Z a0 hw u0 u1 u2 G h10 n0 O10 []) hZ (ww hw 18 rfl) (ww hw 17 rfl) (by decide) (by decide)) (g := (mkF m 90 #[vi p1, vi p2, vr b1, vi (2 : Int32), vr u2, vr u0, vr u0, vi (1 : Int32), vu] [xi (1 : Int32), xr u0])) rfl (by rw [hml]; rfl) (argsL := [xr u0, xi (1 : Int32)]) (rest := []) (lenOf pd3 rfl) rfl (by show 2 * 0 + _ ≤ _; exact Nat.le_of_eq rfl) (hb hby at_90) (fun _ _ => ⟨rfl, e16, (by decide : 1 + 0 ≤ _), (by decide : 3 + 0 ≤ _)⟩)
  dsimp only [Pt.U, Pt.locs, Pt.cells, Pt.slots] at X17 l17 y17 z17 st17 hQ17
  subst l17 y17 z17
  obtain ⟨rfl, Nq17, e17⟩ := hQ17
  have N17 := Fr.app N16 Nq17
  obtain ⟨_, _, ⟨T18, L18, k18, n18⟩, -, X18, ⟨Lc18, hQ18, l18, y18, z18⟩, st18⟩ := Jvm.LawKit.callS X17 hx (y := Y4) hown (mvT hZ (ww hw 15 rfl)) (mvT hZ (ww hw 16 rfl)) (mvT hZ (ww hw 17 rfl)) (mvT hZ (ww hw 18 rfl)) (by decide) (backOf (W := 2) (own_c13_apply l Z a0 hw u0 u1 u2 G h10 n0 O10 []) hZ (ww hw 18 rfl) (ww hw 17 rfl) (by decide) (by decide)) (g := (mkF m 98 #[vi p1, vi p2, vr b1, vi (2 : Int32), vr u2, vr u0, vr u0, vi (1 : Int32), vu] [xi (1 : Int32), xr u2, xr u0, xi (1 : Int32)])) rfl (by rw [hml]; rfl) (argsL := [xr u2, xi (1 : Int32)]) (rest := [xr u0, xi (1 : Int32)]) (lenOf pd3 rfl) rfl (by show 2 * 0 + _ ≤ _; exact Nat.le_of_eq rfl) (hb hby at_98) (fun _ _ => ⟨rfl, e17, (by decide : 1 + 0 ≤ _), (by decide : 3 + 0 ≤ _)⟩)
  dsimp only [Pt.U, Pt.locs, Pt.cells, Pt.slots] at X18 l18 y18 z18 st18 hQ18
  subst l18 y18 z18
  obtain ⟨rfl, Nq18, e18⟩ := hQ18
  have N18 := Fr.app N17 Nq18
  obtain ⟨_, _, ⟨T19, L19, k19, n19⟩, -, X19, ⟨Lc19, hQ19, l19, y19, z19⟩, st19⟩ := Jvm.LawKit.callS X18 hx (y := Y4) hown (mvT hZ (ww hw 15 rfl)) (mvT hZ (ww hw 16 rfl)) (mvT hZ (ww hw 17 rfl)) (mvT hZ (ww hw 18 rfl)) (by decide) (backOf (W := 1) (own_c1_apply l Z a0 hw u0 u1 u2 G h10 n0 O10 []) hZ (ww hw 18 rfl) (ww hw 17 rfl) (by decide) (by decide)) (g := (mkF m 101 #[vi p1, vi p2, vr b1, vi (2 : Int32), vr u2, vr u0, vr u0, vi (1 : Int32), vu] [xi (0 : Int32), xr u0, xi (1 : Int32)])) rfl (by rw [hml]; rfl) (argsL := [xr u0, xi (0 : Int32)]) (rest := [xi (1 : Int32)]) (lenOf pd3 rfl) rfl (by show 2 * 0 + _ ≤ _; exact Nat.le_of_eq rfl) (hb hby at_101) (fun _ _ => ⟨rfl, e18, (by decide : 1 + 0 ≤ _), (by decide : 3 + 0 ≤ _)⟩)
  dsimp only [Pt.U, Pt.locs, Pt.cells, Pt.slots] at X19 l19 y19 z19 st19 hQ19
  subst l19 y19 z19
  obtain ⟨rfl, Nq19, e19⟩ := hQ19
  have N19 := Fr.app N18 Nq19
  obtain ⟨fs, hr, hrun, hended, hW, hsame⟩ := X19.leave (v := some (xi (1 : Int32))) (fun h => by rw [Bd.returns] at h; cases h)
  refine ⟨_, _, pre0 _ ?_, hrun, hended, _, _, rfl, ?_, ⟨_, rfl⟩, hW, hsame.mono (by decide) (by decide)⟩
  · show own_S p e below s₁ (mkF m 0 #[vi p1, vi p2, vu, vu, vu, vu, vu, vu, vu] []) _
    refine XS.iconst X0.here hx rfl (hb hby at_0) ?_
    show own_S p e below s₁ (mkF m 1 #[vi p1, vi p2, vu, vu, vu, vu, vu, vu, vu] [xi (3 : Int32)]) _
    refine st1 _ ?_
    show own_S p e below T1 (mkF m 4 #[vi p1, vi p2, vu, vu, vu, vu, vu, vu, vu] [xr b1]) _
    refine XS.dup X1.here hx rfl (hb hby at_4) rfl rfl ?_
    show own_S p e below T1 (mkF m 5 #[vi p1, vi p2, vu, vu, vu, vu, vu, vu, vu] [xr b1, xr b1]) _
    refine XS.iconst X1.here hx rfl (hb hby at_5) ?_
    show own_S p e below T1 (mkF m 6 #[vi p1, vi p2, vu, vu, vu, vu, vu, vu, vu] [xi (0 : Int32), xr b1, xr b1]) _
    refine st2 _ ?_
    show own_S p e below T2 (mkF m 9 #[vi p1, vi p2, vu, vu, vu, vu, vu, vu, vu] [xr u0, xi (0 : Int32), xr b1, xr b1]) _
    refine st4 _ ?_
    show own_S p e below T4 (mkF m 10 #[vi p1, vi p2, vu, vu, vu, vu, vu, vu, vu] [xr b1]) _
    refine XS.dup X4.here hx rfl (hb hby at_10) rfl rfl ?_
    show own_S p e below T4 (mkF m 11 #[vi p1, vi p2, vu, vu, vu, vu, vu, vu, vu] [xr b1, xr b1]) _
    refine XS.iconst X4.here hx rfl (hb hby at_11) ?_
    show own_S p e below T4 (mkF m 12 #[vi p1, vi p2, vu, vu, vu, vu, vu, vu, vu] [xi (1 : Int32), xr b1, xr b1]) _
    refine st5 _ ?_
    show own_S p e below T5 (mkF m 15 #[vi p1, vi p2, vu, vu, vu, vu, vu, vu, vu] [xr u1, xi (1 : Int32), xr b1, xr b1]) _
    refine st7 _ ?_
    show own_S p e below T7 (mkF m 16 #[vi p1, vi p2, vu, vu, vu, vu, vu, vu, vu] [xr b1]) _
    refine XS.dup X7.here hx rfl (hb hby at_16) rfl rfl ?_
    show own_S p e below T7 (mkF m 17 #[vi p1, vi p2, vu, vu, vu, vu, vu, vu, vu] [xr b1, xr b1]) _
    refine XS.iconst X7.here hx rfl (hb hby at_17) ?_
    show own_S p e below T7 (mkF m 18 #[vi p1, vi p2, vu, vu, vu, vu, vu, vu, vu] [xi (2 : Int32), xr b1, xr b1]) _
    refine st8 _ ?_
    show own_S p e below T8 (mkF m 21 #[vi p1, vi p2, vu, vu, vu, vu, vu, vu, vu] [xr u2, xi (2 : Int32), xr b1, xr b1]) _
    refine st10 _ ?_
    show own_S p e below T10 (mkF m 22 #[vi p1, vi p2, vu, vu, vu, vu, vu, vu, vu] [xr b1]) _
    refine XS.astoreN X10.here hx rfl (hb hby at_22) rfl rfl (l' := #[vi p1, vi p2, vr b1, vu, vu, vu, vu, vu, vu]) rfl ?_
    show own_S p e below T10 (mkF m 23 #[vi p1, vi p2, vr b1, vu, vu, vu, vu, vu, vu] []) _
    refine XS.iloadN X10.here hx rfl (hb hby at_23) rfl ?_
    show own_S p e below T10 (mkF m 24 #[vi p1, vi p2, vr b1, vu, vu, vu, vu, vu, vu] [xi p1]) _
    refine XS.iconst X10.here hx rfl (hb hby at_24) ?_
    show own_S p e below T10 (mkF m 25 #[vi p1, vi p2, vr b1, vu, vu, vu, vu, vu, vu] [xi (3 : Int32), xi p1]) _
    refine XS.iand X10.here hx rfl (hb hby at_25) rfl ?_
    show own_S p e below T10 (mkF m 26 #[vi p1, vi p2, vr b1, vu, vu, vu, vu, vu, vu] [xi (p1 &&& (3 : Int32))]) _
    refine castTop (show (mkF m 26 #[vi p1, vi p2, vr b1, vu, vu, vu, vu, vu, vu] [xi (p1 &&& (3 : Int32))]) = (mkF m 26 #[vi p1, vi p2, vr b1, vu, vu, vu, vu, vu, vu] [xi (2 : Int32)]) from by rw [as2]) ?_
    show own_S p e below T10 (mkF m 26 #[vi p1, vi p2, vr b1, vu, vu, vu, vu, vu, vu] [xi (2 : Int32)]) _
    refine XS.istoreN X10.here hx rfl (hb hby at_26) rfl (l' := #[vi p1, vi p2, vr b1, vi (2 : Int32), vu, vu, vu, vu, vu]) rfl ?_
    show own_S p e below T10 (mkF m 27 #[vi p1, vi p2, vr b1, vi (2 : Int32), vu, vu, vu, vu, vu] []) _
    refine XS.iloadN X10.here hx rfl (hb hby at_27) rfl ?_
    show own_S p e below T10 (mkF m 28 #[vi p1, vi p2, vr b1, vi (2 : Int32), vu, vu, vu, vu, vu] [xi (2 : Int32)]) _
    refine XS.iconst X10.here hx rfl (hb hby at_28) ?_
    show own_S p e below T10 (mkF m 29 #[vi p1, vi p2, vr b1, vi (2 : Int32), vu, vu, vu, vu, vu] [xi (3 : Int32), xi (2 : Int32)]) _
    refine XS.icmpYes X10.here hx rfl (pc0 := 29) (pc' := 36) rfl (hb hby at_29) rfl (by decide) (by decide) (by decide) ?_
    show own_S p e below T10 (mkF m 36 #[vi p1, vi p2, vr b1, vi (2 : Int32), vu, vu, vu, vu, vu] []) _
    refine XS.aloadN X10.here hx rfl (hb hby at_36) rfl rfl ?_
    show own_S p e below T10 (mkF m 37 #[vi p1, vi p2, vr b1, vi (2 : Int32), vu, vu, vu, vu, vu] [xr b1]) _
    refine XS.iloadN X10.here hx rfl (hb hby at_37) rfl ?_
    show own_S p e below T10 (mkF m 38 #[vi p1, vi p2, vr b1, vi (2 : Int32), vu, vu, vu, vu, vu] [xi (2 : Int32), xr b1]) _
    refine X10.aaload hx (j := (2 : Int32)) (v := (xr u2)) (by rw [e10]; exact Ar11.1) (State.isArrayOf_alike hZ.alike Ar11.2.1) rfl Ar11.2.2 hin11 hat11 (g := (mkF m 38 #[vi p1, vi p2, vr b1, vi (2 : Int32), vu, vu, vu, vu, vu] [xi (2 : Int32), xr b1])) rfl rfl (hb hby at_38) _ ?_
    show own_S p e below T10 (mkF m 39 #[vi p1, vi p2, vr b1, vi (2 : Int32), vu, vu, vu, vu, vu] [xr u2]) _
    refine XS.astore X10.here hx rfl (hb hby at_39) rfl rfl (l' := #[vi p1, vi p2, vr b1, vi (2 : Int32), vr u2, vu, vu, vu, vu]) rfl ?_
    show own_S p e below T10 (mkF m 41 #[vi p1, vi p2, vr b1, vi (2 : Int32), vr u2, vu, vu, vu, vu] []) _
    refine XS.aloadN X10.here hx rfl (hb hby at_41) rfl rfl ?_
    show own_S p e below T10 (mkF m 42 #[vi p1, vi p2, vr b1, vi (2 : Int32), vr u2, vu, vu, vu, vu] [xr b1]) _
    refine XS.iloadN X10.here hx rfl (hb hby at_42) rfl ?_
    show own_S p e below T10 (mkF m 43 #[vi p1, vi p2, vr b1, vi (2 : Int32), vr u2, vu, vu, vu, vu] [xi p2, xr b1]) _
    refine X10.ldcI hx hown (mvT hZ (ww hw 10 rfl)) (g := (mkF m 43 #[vi p1, vi p2, vr b1, vi (2 : Int32), vr u2, vu, vu, vu, vu] [xi p2, xr b1])) rfl (hb hby at_43) ?_
    show own_S p e below T10 (mkF m 45 #[vi p1, vi p2, vr b1, vi (2 : Int32), vr u2, vu, vu, vu, vu] [xi (2147483647 : Int32), xi p2, xr b1]) _
    refine XS.iand X10.here hx rfl (hb hby at_45) rfl ?_
    show own_S p e below T10 (mkF m 46 #[vi p1, vi p2, vr b1, vi (2 : Int32), vr u2, vu, vu, vu, vu] [xi (p2 &&& (2147483647 : Int32)), xr b1]) _
    show own_S p e below T10 (mkF m 46 #[vi p1, vi p2, vr b1, vi (2 : Int32), vr u2, vu, vu, vu, vu] [xi (p2 &&& (2147483647 : Int32)), xr b1]) _
    refine XS.iconst X10.here hx rfl (hb hby at_46) ?_
    show own_S p e below T10 (mkF m 47 #[vi p1, vi p2, vr b1, vi (2 : Int32), vr u2, vu, vu, vu, vu] [xi (3 : Int32), xi (p2 &&& (2147483647 : Int32)), xr b1]) _
    refine XS.irem X10.here hx rfl (hb hby at_47) rfl (by decide) ?_
    show own_S p e below T10 (mkF m 48 #[vi p1, vi p2, vr b1, vi (2 : Int32), vr u2, vu, vu, vu, vu] [xi ((p2 &&& (2147483647 : Int32)) - ((p2 &&& (2147483647 : Int32)) / (3 : Int32)) * (3 : Int32)), xr b1]) _
    refine castTop (show (mkF m 48 #[vi p1, vi p2, vr b1, vi (2 : Int32), vr u2, vu, vu, vu, vu] [xi ((p2 &&& (2147483647 : Int32)) - ((p2 &&& (2147483647 : Int32)) / (3 : Int32)) * (3 : Int32)), xr b1]) = (mkF m 48 #[vi p1, vi p2, vr b1, vi (2 : Int32), vr u2, vu, vu, vu, vu] [xi (0 : Int32), xr b1]) from by rw [as4]) ?_
    show own_S p e below T10 (mkF m 48 #[vi p1, vi p2, vr b1, vi (2 : Int32), vr u2, vu, vu, vu, vu] [xi (0 : Int32), xr b1]) _
    refine X10.aaload hx (j := (0 : Int32)) (v := (xr u0)) (by rw [e10]; exact Ar12.1) (State.isArrayOf_alike hZ.alike Ar12.2.1) rfl Ar12.2.2 hin12 hat12 (g := (mkF m 48 #[vi p1, vi p2, vr b1, vi (2 : Int32), vr u2, vu, vu, vu, vu] [xi (0 : Int32), xr b1])) rfl rfl (hb hby at_48) _ ?_
    show own_S p e below T10 (mkF m 49 #[vi p1, vi p2, vr b1, vi (2 : Int32), vr u2, vu, vu, vu, vu] [xr u0]) _
    refine XS.astore X10.here hx rfl (hb hby at_49) rfl rfl (l' := #[vi p1, vi p2, vr b1, vi (2 : Int32), vr u2, vr u0, vu, vu, vu]) rfl ?_
    show own_S p e below T10 (mkF m 51 #[vi p1, vi p2, vr b1, vi (2 : Int32), vr u2, vr u0, vu, vu, vu] []) _
    refine XS.aload X10.here hx rfl (hb hby at_51) rfl rfl ?_
    show own_S p e below T10 (mkF m 53 #[vi p1, vi p2, vr b1, vi (2 : Int32), vr u2, vr u0, vu, vu, vu] [xr u2]) _
    refine XS.aload X10.here hx rfl (hb hby at_53) rfl rfl ?_
    show own_S p e below T10 (mkF m 55 #[vi p1, vi p2, vr b1, vi (2 : Int32), vr u2, vr u0, vu, vu, vu] [xr u0, xr u2]) _
    refine st13 _ ?_
    show own_S p e below T13 (mkF m 58 #[vi p1, vi p2, vr b1, vi (2 : Int32), vr u2, vr u0, vu, vu, vu] [xr u0]) _
    refine XS.astore X13.here hx rfl (hb hby at_58) rfl rfl (l' := #[vi p1, vi p2, vr b1, vi (2 : Int32), vr u2, vr u0, vr u0, vu, vu]) rfl ?_
    show own_S p e below T13 (mkF m 60 #[vi p1, vi p2, vr b1, vi (2 : Int32), vr u2, vr u0, vr u0, vu, vu] []) _
    refine XS.aload X13.here hx rfl (hb hby at_60) rfl rfl ?_
    show own_S p e below T13 (mkF m 62 #[vi p1, vi p2, vr b1, vi (2 : Int32), vr u2, vr u0, vr u0, vu, vu] [xr u0]) _
    refine XS.iconst X13.here hx rfl (hb hby at_62) ?_
    show own_S p e below T13 (mkF m 63 #[vi p1, vi p2, vr b1, vi (2 : Int32), vr u2, vr u0, vr u0, vu, vu] [xi (0 : Int32), xr u0]) _
    refine st14 _ ?_
    show own_S p e below T14 (mkF m 66 #[vi p1, vi p2, vr b1, vi (2 : Int32), vr u2, vr u0, vr u0, vu, vu] [xi (1 : Int32)]) _
    refine XS.aload X14.here hx rfl (hb hby at_66) rfl rfl ?_
    show own_S p e below T14 (mkF m 68 #[vi p1, vi p2, vr b1, vi (2 : Int32), vr u2, vr u0, vr u0, vu, vu] [xr u0, xi (1 : Int32)]) _
    refine XS.aload X14.here hx rfl (hb hby at_68) rfl rfl ?_
    show own_S p e below T14 (mkF m 70 #[vi p1, vi p2, vr b1, vi (2 : Int32), vr u2, vr u0, vr u0, vu, vu] [xr u2, xr u0, xi (1 : Int32)]) _
    refine XS.iconst X14.here hx rfl (hb hby at_70) ?_
    show own_S p e below T14 (mkF m 71 #[vi p1, vi p2, vr b1, vi (2 : Int32), vr u2, vr u0, vr u0, vu, vu] [xi (0 : Int32), xr u2, xr u0, xi (1 : Int32)]) _
    refine st15 _ ?_
    show own_S p e below T15 (mkF m 74 #[vi p1, vi p2, vr b1, vi (2 : Int32), vr u2, vr u0, vr u0, vu, vu] [xi (1 : Int32), xr u0, xi (1 : Int32)]) _
    refine st16 _ ?_
    show own_S p e below T16 (mkF m 77 #[vi p1, vi p2, vr b1, vi (2 : Int32), vr u2, vr u0, vr u0, vu, vu] [xi (1 : Int32), xi (1 : Int32)]) _
    refine XS.icmpNo X16.here hx rfl (hb hby at_77) rfl (by decide) ?_
    show own_S p e below T16 (mkF m 80 #[vi p1, vi p2, vr b1, vi (2 : Int32), vr u2, vr u0, vr u0, vu, vu] []) _
    refine XS.iconst X16.here hx rfl (hb hby at_80) ?_
    show own_S p e below T16 (mkF m 81 #[vi p1, vi p2, vr b1, vi (2 : Int32), vr u2, vr u0, vr u0, vu, vu] [xi (1 : Int32)]) _
    refine XS.goto X16.here hx rfl (pc0 := 81) (pc' := 85) rfl (hb hby at_81) (by decide) (by decide) ?_
    show own_S p e below T16 (mkF m 85 #[vi p1, vi p2, vr b1, vi (2 : Int32), vr u2, vr u0, vr u0, vu, vu] [xi (1 : Int32)]) _
    refine XS.istore X16.here hx rfl (hb hby at_85) rfl (l' := #[vi p1, vi p2, vr b1, vi (2 : Int32), vr u2, vr u0, vr u0, vi (1 : Int32), vu]) rfl ?_
    show own_S p e below T16 (mkF m 87 #[vi p1, vi p2, vr b1, vi (2 : Int32), vr u2, vr u0, vr u0, vi (1 : Int32), vu] []) _
    refine XS.aload X16.here hx rfl (hb hby at_87) rfl rfl ?_
    show own_S p e below T16 (mkF m 89 #[vi p1, vi p2, vr b1, vi (2 : Int32), vr u2, vr u0, vr u0, vi (1 : Int32), vu] [xr u0]) _
    refine XS.iconst X16.here hx rfl (hb hby at_89) ?_
    show own_S p e below T16 (mkF m 90 #[vi p1, vi p2, vr b1, vi (2 : Int32), vr u2, vr u0, vr u0, vi (1 : Int32), vu] [xi (1 : Int32), xr u0]) _
    refine st17 _ ?_
    show own_S p e below T17 (mkF m 93 #[vi p1, vi p2, vr b1, vi (2 : Int32), vr u2, vr u0, vr u0, vi (1 : Int32), vu] [xi (1 : Int32)]) _
    refine XS.aload X17.here hx rfl (hb hby at_93) rfl rfl ?_
    show own_S p e below T17 (mkF m 95 #[vi p1, vi p2, vr b1, vi (2 : Int32), vr u2, vr u0, vr u0, vi (1 : Int32), vu] [xr u0, xi (1 : Int32)]) _
    refine XS.aload X17.here hx rfl (hb hby at_95) rfl rfl ?_
    show own_S p e below T17 (mkF m 97 #[vi p1, vi p2, vr b1, vi (2 : Int32), vr u2, vr u0, vr u0, vi (1 : Int32), vu] [xr u2, xr u0, xi (1 : Int32)]) _
    refine XS.iconst X17.here hx rfl (hb hby at_97) ?_
    show own_S p e below T17 (mkF m 98 #[vi p1, vi p2, vr b1, vi (2 : Int32), vr u2, vr u0, vr u0, vi (1 : Int32), vu] [xi (1 : Int32), xr u2, xr u0, xi (1 : Int32)]) _
    refine st18 _ ?_
    show own_S p e below T18 (mkF m 101 #[vi p1, vi p2, vr b1, vi (2 : Int32), vr u2, vr u0, vr u0, vi (1 : Int32), vu] [xi (0 : Int32), xr u0, xi (1 : Int32)]) _
    refine st19 _ ?_
    show own_S p e below T19 (mkF m 104 #[vi p1, vi p2, vr b1, vi (2 : Int32), vr u2, vr u0, vr u0, vi (1 : Int32), vu] [xi (1 : Int32), xi (1 : Int32)]) _
    refine XS.icmpNo X19.here hx rfl (hb hby at_104) rfl (by decide) ?_
    show own_S p e below T19 (mkF m 107 #[vi p1, vi p2, vr b1, vi (2 : Int32), vr u2, vr u0, vr u0, vi (1 : Int32), vu] []) _
    refine XS.iconst X19.here hx rfl (hb hby at_107) ?_
    show own_S p e below T19 (mkF m 108 #[vi p1, vi p2, vr b1, vi (2 : Int32), vr u2, vr u0, vr u0, vi (1 : Int32), vu] [xi (1 : Int32)]) _
    refine XS.goto X19.here hx rfl (pc0 := 108) (pc' := 112) rfl (hb hby at_108) (by decide) (by decide) ?_
    show own_S p e below T19 (mkF m 112 #[vi p1, vi p2, vr b1, vi (2 : Int32), vr u2, vr u0, vr u0, vi (1 : Int32), vu] [xi (1 : Int32)]) _
    refine XS.istore X19.here hx rfl (hb hby at_112) rfl (l' := #[vi p1, vi p2, vr b1, vi (2 : Int32), vr u2, vr u0, vr u0, vi (1 : Int32), vi (1 : Int32)]) rfl ?_
    show own_S p e below T19 (mkF m 114 #[vi p1, vi p2, vr b1, vi (2 : Int32), vr u2, vr u0, vr u0, vi (1 : Int32), vi (1 : Int32)] []) _
    refine XS.iload X19.here hx rfl (hb hby at_114) rfl ?_
    show own_S p e below T19 (mkF m 116 #[vi p1, vi p2, vr b1, vi (2 : Int32), vr u2, vr u0, vr u0, vi (1 : Int32), vi (1 : Int32)] [xi (1 : Int32)]) _
    refine XS.ifNo X19.here hx rfl (hb hby at_116) rfl (by decide) ?_
    show own_S p e below T19 (mkF m 119 #[vi p1, vi p2, vr b1, vi (2 : Int32), vr u2, vr u0, vr u0, vi (1 : Int32), vi (1 : Int32)] []) _
    refine XS.iload X19.here hx rfl (hb hby at_119) rfl ?_
    show own_S p e below T19 (mkF m 121 #[vi p1, vi p2, vr b1, vi (2 : Int32), vr u2, vr u0, vr u0, vi (1 : Int32), vi (1 : Int32)] [xi (1 : Int32)]) _
    refine XS.ifNo X19.here hx rfl (hb hby at_121) rfl (by decide) ?_
    show own_S p e below T19 (mkF m 124 #[vi p1, vi p2, vr b1, vi (2 : Int32), vr u2, vr u0, vr u0, vi (1 : Int32), vi (1 : Int32)] []) _
    refine XS.iconst X19.here hx rfl (hb hby at_124) ?_
    show own_S p e below T19 (mkF m 125 #[vi p1, vi p2, vr b1, vi (2 : Int32), vr u2, vr u0, vr u0, vi (1 : Int32), vi (1 : Int32)] [xi (1 : Int32)]) _
    refine XS.goto X19.here hx rfl (pc0 := 125) (pc' := 129) rfl (hb hby at_125) (by decide) (by decide) ?_
    show own_S p e below T19 (mkF m 129 #[vi p1, vi p2, vr b1, vi (2 : Int32), vr u2, vr u0, vr u0, vi (1 : Int32), vi (1 : Int32)] [xi (1 : Int32)]) _
    exact retN X19 hx (t := .boolean) Bd.returns (by simp) (hb hby at_129) hr
  · exact ⟨rfl, N19⟩
theorem ef_own_c22_composed (m : MethodId) (u0 u1 u2 : Addr) : entryFrame m #[xr u2, xr u1] 3 = (mkF m 0 #[vr u2, vr u1, vu] []) := by first | (simp [entryFrame, mkF, argsToLocals, Value.category]; done) | rfl
set_option maxRecDepth 65536 in
set_option maxHeartbeats 40000000 in
theorem own_c22_composed (l : Launch) (Z : State) (a0 : Array Value) (hw : ∀ d ∈ tables_1, d.before a0 Z = true) (u0 u1 u2 : Addr) (G : own_St Z u0 u1 u2) (h0 : Heap) (n0 : Nat) (O0 : Old Z n0 h0) : own_Met l Z Y0 prog_1_method_7_code 3 (some (.object "com/example/tidemark/tidemark/Change")) ({ frames := 0, cells := 0, slots := 0, locals := 0 } : Room) #[xr u2, xr u1] h0 (own_QR (some (xr u1)) h0 n0) := by
  intro ws
  refine MetFree.of_bodySF (plainFor_of_name pn0) hisR ?_
  intro p e s m args below meth c s₁ Bd hml0 hP hK
  obtain ⟨rfl, hZ, hh⟩ := hP
  have hx := Bd.exec
  have hby := Bd.bytes
  have hml : c.maxLocals = 3 := hml0
  have hown : s.vm.findClass "com/example/tidemark/tidemark/Change" = some m.cls := findClass_of_methodNamed Bd.named
  have hnm := (name_of_methodNamed Bd.named Bd.method).1
  have X0 : Stand p l e ({ frames := 0, cells := 0, slots := 0, locals := 0 } : Room) s m #[xr u2, xr u1] below meth c s₁ [] 0 0 := Stand.of_body Bd
  have e0 : s₁.heap = h0 := by rw [← hh, Bd.state]; rfl
  have N0 := Fr.nil n0
  have pre0 : ∀ t, Steps p.tables e below (s₁.setTop (mkF m 0 #[vr u2, vr u1, vu] [])) t → Steps p.tables e below (s₁.setTop (entryFrame m #[xr u2, xr u1] 3)) t := fun t st => castTop (ef_own_c22_composed m u0 u1 u2) st
  obtain ⟨T1, X1, e1, st1⟩ := getS2 X0 hx hZ hown (host := "") (Or.inl (ww hw 14 rfl)) Via.refl e0 ((own_S_u2 G).ext O0.2) (g := (mkF m 3 #[vr u2, vr u1, vr u1] [xr u1])) rfl (hb hby d1_3)
  obtain ⟨fs, hr, hrun, hended, hW, hsame⟩ := X1.leave (v := some (xr u1)) (fun h => by rw [Bd.returns] at h; cases h)
  refine ⟨_, _, pre0 _ ?_, hrun, hended, _, _, rfl, ?_, ⟨_, rfl⟩, hW, hsame.mono (by decide) (by decide)⟩
  · show own_S p e below s₁ (mkF m 0 #[vr u2, vr u1, vu] []) _
    refine XS.aloadN X0.here hx rfl (hb hby d1_0) rfl rfl ?_
    show own_S p e below s₁ (mkF m 1 #[vr u2, vr u1, vu] [xr u1]) _
    refine XS.astoreN X0.here hx rfl (hb hby d1_1) rfl rfl (l' := #[vr u2, vr u1, vr u1]) rfl ?_
    show own_S p e below s₁ (mkF m 2 #[vr u2, vr u1, vr u1] []) _
    refine XS.aloadN X0.here hx rfl (hb hby d1_2) rfl rfl ?_
    show own_S p e below s₁ (mkF m 3 #[vr u2, vr u1, vr u1] [xr u1]) _
    refine st1 _ ?_
    show own_S p e below T1 (mkF m 6 #[vr u2, vr u1, vr u1] [xr u2, xr u1]) _
    refine Jvm.RoadKit.acmp (g := (mkF m 6 #[vr u2, vr u1, vr u1] [xr u2, xr u1])) X1 hx rfl rfl rfl (pc0 := 6) (pc' := 68) (same := false) rfl (hb hby d1_6) rfl (own_ref (own_ne_u1_u2 G)) (by decide) (by decide) ?_
    show own_S p e below T1 (mkF m 68 #[vr u2, vr u1, vr u1] []) _
    refine XS.aloadN X1.here hx rfl (hb hby d1_68) rfl rfl ?_
    show own_S p e below T1 (mkF m 69 #[vr u2, vr u1, vr u1] [xr u1]) _
    exact X1.areturnOut hx rfl Bd.returns rfl (hb hby d1_69) hr
  · exact ⟨rfl, N0, e1⟩
theorem ef_own_l7 (m : MethodId) (u0 u1 u2 : Addr) (p1 : Int32) (p2 : Int32) : entryFrame m #[xi p1, xi p2] maxLocals = (mkF m 0 #[vi p1, vi p2, vu, vu, vu, vu, vu, vu, vu] []) := by first | (simp [entryFrame, mkF, argsToLocals, Value.category, maxLocals]; done) | rfl
set_option maxRecDepth 65536 in
set_option maxHeartbeats 40000000 in
theorem own_l7 (l : Launch) (Z : State) (a0 : Array Value) (hw : ∀ d ∈ tables_1, d.before a0 Z = true) (u0 u1 u2 : Addr) (G : own_St Z u0 u1 u2) (p1 : Int32) (p2 : Int32) (as2 : (p1 &&& (3 : Int32)) = (2 : Int32)) (as5 : ((p2 &&& (2147483647 : Int32)) - ((p2 &&& (2147483647 : Int32)) / (3 : Int32)) * (3 : Int32)) = (1 : Int32)) (h0 : Heap) (n0 : Nat) (O0 : Old Z n0 h0) : own_Met l Z x code maxLocals ret room_1 #[xi p1, xi p2] h0 (own_QL (some (xi (1 : Int32))) n0) := by
  intro ws
  refine MetFree.of_bodySF (plainFor_of_name pn2) hisR ?_
  intro p e s m args below meth c s₁ Bd hml0 hP hK
  obtain ⟨rfl, hZ, hh⟩ := hP
  have hx := Bd.exec
  have hby := Bd.bytes
  have hml : c.maxLocals = 9 := hml0
  have hown : s.vm.findClass "com/example/tidemark/tidemark/ChangeComposedPinLaw" = some m.cls := findClass_of_methodNamed Bd.named
  have hnm := (name_of_methodNamed Bd.named Bd.method).1
  have X0 : Stand p l e room_1 s m #[xi p1, xi p2] below meth c s₁ [] 0 0 := Stand.of_body Bd
  have e0 : s₁.heap = h0 := by rw [← hh, Bd.state]; rfl
  have N0 := Fr.nil n0
  have pre0 : ∀ t, Steps p.tables e below (s₁.setTop (mkF m 0 #[vi p1, vi p2, vu, vu, vu, vu, vu, vu, vu] [])) t → Steps p.tables e below (s₁.setTop (entryFrame m #[xi p1, xi p2] maxLocals)) t := fun t st => castTop (ef_own_l7 m u0 u1 u2 p1 p2) st
  obtain ⟨T1, h1, k1, X1, e1, E1, A1, Ov1, st1⟩ := newR X0 hx hZ hown (ww hw 0 rfl) (ww hw 1 rfl) e0 (g := (mkF m 1 #[vi p1, vi p2, vu, vu, vu, vu, vu, vu, vu] [xi (3 : Int32)])) rfl (hb hby at_1) rfl (by decide) (cap := 3) (by decide) (by decide) (by decide) (by decide)
  obtain ⟨b1, g1⟩ : ∃ z, z = h0.size := ⟨_, rfl⟩
  rw [← g1] at A1 st1
  have g_b1 : n0 ≤ b1 := own_fresh O0 g1
  have O1 : Old Z n0 h1 := O0.ext E1
  have V_b1 : Arv Z h1 b1 k1 (.object "com/example/tidemark/tidemark/Change") (3 : Int32) [.null, .null, .null] .null := (Arv.new A1 (by decide)).pad (pad_rep [] .null 3)
  obtain ⟨T2, X2, e2, st2⟩ := getS2 X1 hx hZ hown (host := "") (Or.inl (ww hw 2 rfl)) Via.refl e1 ((own_S_u0 G).ext O1.2) (g := (mkF m 6 #[vi p1, vi p2, vu, vu, vu, vu, vu, vu, vu] [xi (0 : Int32), xr b1, xr b1])) rfl (hb hby at_6)
  obtain ⟨cl3, Ar3, q3, S3, N3_, H3, G3⟩ := id V_b1
  have hin3 : ¬ ((0 : Int32) < 0 ∨ cl3.slots.size ≤ ((0 : Int32)).toNatClampNeg) := inb_of S3 ⟨by decide, by decide⟩
  obtain ⟨T4, h4, X4, e4, W4, st4⟩ := stR X2 hx hZ e2 Ar3 (j := (0 : Int32)) hin3 rfl (Sto.ofV Ar3 q3 Ov1 (Ins.self ((own_X_u0 G).ext O1.2))) (g := (mkF m 9 #[vi p1, vi p2, vu, vu, vu, vu, vu, vu, vu] [xr u0, xi (0 : Int32), xr b1, xr b1])) rfl rfl (hb hby at_9)
  have V_b1_4 : Arv Z h4 b1 k1 (.object "com/example/tidemark/tidemark/Change") (3 : Int32) [xr u0, .null, .null] .null := Arv.set Ar3 q3 S3 N3_ H3 G3 rfl W4 0 rfl (Nat.le_of_ble_eq_true rfl)
  have O4 : Old Z n0 h4 := O1.wr W4 g_b1
  have N4 := Fr.snoc X4 N0 g_b1
  obtain ⟨T5, X5, e5, st5⟩ := getS2 X4 hx hZ hown (host := "") (Or.inl (ww hw 6 rfl)) Via.refl e4 ((own_S_u1 G).ext O4.2) (g := (mkF m 12 #[vi p1, vi p2, vu, vu, vu, vu, vu, vu, vu] [xi (1 : Int32), xr b1, xr b1])) rfl (hb hby at_12)
  obtain ⟨cl6, Ar6, q6, S6, N6_, H6, G6⟩ := id V_b1_4
  have hin6 : ¬ ((1 : Int32) < 0 ∨ cl6.slots.size ≤ ((1 : Int32)).toNatClampNeg) := inb_of S6 ⟨by decide, by decide⟩
  obtain ⟨T7, h7, X7, e7, W7, st7⟩ := stR X5 hx hZ e5 Ar6 (j := (1 : Int32)) hin6 rfl (Sto.ofV Ar6 q6 Ov1 (Ins.self ((own_X_u1 G).ext O4.2))) (g := (mkF m 15 #[vi p1, vi p2, vu, vu, vu, vu, vu, vu, vu] [xr u1, xi (1 : Int32), xr b1, xr b1])) rfl rfl (hb hby at_15)
  have V_b1_7 : Arv Z h7 b1 k1 (.object "com/example/tidemark/tidemark/Change") (3 : Int32) [xr u0, xr u1, .null] .null := Arv.set Ar6 q6 S6 N6_ H6 G6 rfl W7 1 rfl (Nat.le_of_ble_eq_true rfl)
  have O7 : Old Z n0 h7 := O4.wr W7 g_b1
  have N7 := Fr.snoc X7 N4 g_b1
  obtain ⟨T8, X8, e8, st8⟩ := getS2 X7 hx hZ hown (host := "") (Or.inl (ww hw 8 rfl)) Via.refl e7 ((own_S_u2 G).ext O7.2) (g := (mkF m 18 #[vi p1, vi p2, vu, vu, vu, vu, vu, vu, vu] [xi (2 : Int32), xr b1, xr b1])) rfl (hb hby at_18)
  obtain ⟨cl9, Ar9, q9, S9, N9_, H9, G9⟩ := id V_b1_7
  have hin9 : ¬ ((2 : Int32) < 0 ∨ cl9.slots.size ≤ ((2 : Int32)).toNatClampNeg) := inb_of S9 ⟨by decide, by decide⟩
  obtain ⟨T10, h10, X10, e10, W10, st10⟩ := stR X8 hx hZ e8 Ar9 (j := (2 : Int32)) hin9 rfl (Sto.ofV Ar9 q9 Ov1 (Ins.self ((own_X_u2 G).ext O7.2))) (g := (mkF m 21 #[vi p1, vi p2, vu, vu, vu, vu, vu, vu, vu] [xr u2, xi (2 : Int32), xr b1, xr b1])) rfl rfl (hb hby at_21)
  have V_b1_10 : Arv Z h10 b1 k1 (.object "com/example/tidemark/tidemark/Change") (3 : Int32) [xr u0, xr u1, xr u2] .null := Arv.set Ar9 q9 S9 N9_ H9 G9 rfl W10 2 rfl (Nat.le_of_ble_eq_true rfl)
  have O10 : Old Z n0 h10 := O7.wr W10 g_b1
  have N10 := Fr.snoc X10 N7 g_b1
  obtain ⟨cl11, Ar11, q11, S11, N11_, H11, G11⟩ := id V_b1_10
  have hin11 : ¬ ((2 : Int32) < 0 ∨ cl11.slots.size ≤ ((2 : Int32)).toNatClampNeg) := inb_of S11 ⟨by decide, by decide⟩
  have hat11 : cl11.slots[((2 : Int32)).toNatClampNeg]? = some (xr u2) := Has.at H11 hin11 rfl
  obtain ⟨cl12, Ar12, q12, S12, N12_, H12, G12⟩ := id V_b1_10
  have hin12 : ¬ ((1 : Int32) < 0 ∨ cl12.slots.size ≤ ((1 : Int32)).toNatClampNeg) := inb_of S12 ⟨by decide, by decide⟩
  have hat12 : cl12.slots[((1 : Int32)).toNatClampNeg]? = some (xr u1) := Has.at H12 hin12 rfl
  obtain ⟨_, _, ⟨T13, L13, k13, n13⟩, -, X13, ⟨Lc13, hQ13, l13, y13, z13⟩, st13⟩ := Jvm.LawKit.callS X10 hx (y := Y0) hown (mvT hZ (ww hw 11 rfl)) (mvT hZ (ww hw 12 rfl)) (mvT hZ (ww hw 3 rfl)) (mvT hZ (ww hw 13 rfl)) (by decide) (backOf (W := 0) (own_c22_composed l Z a0 hw u0 u1 u2 G h10 n0 O10 []) hZ (ww hw 13 rfl) (ww hw 3 rfl) (by decide) (by decide)) (g := (mkF m 55 #[vi p1, vi p2, vr b1, vi (2 : Int32), vr u2, vr u1, vu, vu, vu] [xr u1, xr u2])) rfl (by rw [hml]; rfl) (argsL := [xr u2, xr u1]) (rest := []) (lenOf pd0 rfl) rfl (by show 2 * 0 + _ ≤ _; exact Nat.le_of_eq rfl) (hb hby at_55) (fun _ _ => ⟨rfl, e10, (by decide : 1 + 0 ≤ _), (by decide : 3 + 0 ≤ _)⟩)
  dsimp only [Pt.U, Pt.locs, Pt.cells, Pt.slots] at X13 l13 y13 z13 st13 hQ13
  subst l13 y13 z13
  obtain ⟨rfl, Nq13, e13⟩ := hQ13
  have N13 := Fr.app N10 Nq13
  obtain ⟨_, _, ⟨T14, L14, k14, n14⟩, -, X14, ⟨Lc14, hQ14, l14, y14, z14⟩, st14⟩ := Jvm.LawKit.callS X13 hx (y := Y4) hown (mvT hZ (ww hw 15 rfl)) (mvT hZ (ww hw 16 rfl)) (mvT hZ (ww hw 17 rfl)) (mvT hZ (ww hw 18 rfl)) (by decide) (backOf (W := 0) (own_c7_apply l Z a0 hw u0 u1 u2 G h10 n0 O10 []) hZ (ww hw 18 rfl) (ww hw 17 rfl) (by decide) (by decide)) (g := (mkF m 63 #[vi p1, vi p2, vr b1, vi (2 : Int32), vr u2, vr u1, vr u1, vu, vu] [xi (0 : Int32), xr u1])) rfl (by rw [hml]; rfl) (argsL := [xr u1, xi (0 : Int32)]) (rest := []) (lenOf pd3 rfl) rfl (by show 2 * 0 + _ ≤ _; exact Nat.le_of_eq rfl) (hb hby at_63) (fun _ _ => ⟨rfl, e13, (by decide : 1 + 0 ≤ _), (by decide : 3 + 0 ≤ _)⟩)
  dsimp only [Pt.U, Pt.locs, Pt.cells, Pt.slots] at X14 l14 y14 z14 st14 hQ14
  subst l14 y14 z14
  obtain ⟨rfl, Nq14, e14⟩ := hQ14
  have N14 := Fr.app N13 Nq14
  obtain ⟨_, _, ⟨T15, L15, k15, n15⟩, -, X15, ⟨Lc15, hQ15, l15, y15, z15⟩, st15⟩ := Jvm.LawKit.callS X14 hx (y := Y4) hown (mvT hZ (ww hw 15 rfl)) (mvT hZ (ww hw 16 rfl)) (mvT hZ (ww hw 17 rfl)) (mvT hZ (ww hw 18 rfl)) (by decide) (backOf (W := 2) (own_c19_apply l Z a0 hw u0 u1 u2 G h10 n0 O10 []) hZ (ww hw 18 rfl) (ww hw 17 rfl) (by decide) (by decide)) (g := (mkF m 71 #[vi p1, vi p2, vr b1, vi (2 : Int32), vr u2, vr u1, vr u1, vu, vu] [xi (0 : Int32), xr u2, xr u1, xi (0 : Int32)])) rfl (by rw [hml]; rfl) (argsL := [xr u2, xi (0 : Int32)]) (rest := [xr u1, xi (0 : Int32)]) (lenOf pd3 rfl) rfl (by show 2 * 0 + _ ≤ _; exact Nat.le_of_eq rfl) (hb hby at_71) (fun _ _ => ⟨rfl, e14, (by decide : 1 + 0 ≤ _), (by decide : 3 + 0 ≤ _)⟩)
  dsimp only [Pt.U, Pt.locs, Pt.cells, Pt.slots] at X15 l15 y15 z15 st15 hQ15
  subst l15 y15 z15
  obtain ⟨rfl, Nq15, e15⟩ := hQ15
  have N15 := Fr.app N14 Nq15
  obtain ⟨_, _, ⟨T16, L16, k16, n16⟩, -, X16, ⟨Lc16, hQ16, l16, y16, z16⟩, st16⟩ := Jvm.LawKit.callS X15 hx (y := Y4) hown (mvT hZ (ww hw 15 rfl)) (mvT hZ (ww hw 16 rfl)) (mvT hZ (ww hw 17 rfl)) (mvT hZ (ww hw 18 rfl)) (by decide) (backOf (W := 1) (own_c10_apply l Z a0 hw u0 u1 u2 G h10 n0 O10 []) hZ (ww hw 18 rfl) (ww hw 17 rfl) (by decide) (by decide)) (g := (mkF m 74 #[vi p1, vi p2, vr b1, vi (2 : Int32), vr u2, vr u1, vr u1, vu, vu] [xi (1 : Int32), xr u1, xi (0 : Int32)])) rfl (by rw [hml]; rfl) (argsL := [xr u1, xi (1 : Int32)]) (rest := [xi (0 : Int32)]) (lenOf pd3 rfl) rfl (by show 2 * 0 + _ ≤ _; exact Nat.le_of_eq rfl) (hb hby at_74) (fun _ _ => ⟨rfl, e15, (by decide : 1 + 0 ≤ _), (by decide : 3 + 0 ≤ _)⟩)
  dsimp only [Pt.U, Pt.locs, Pt.cells, Pt.slots] at X16 l16 y16 z16 st16 hQ16
  subst l16 y16 z16
  obtain ⟨rfl, Nq16, e16⟩ := hQ16
  have N16 := Fr.app N15 Nq16
  obtain ⟨_, _, ⟨T17, L17, k17, n17⟩, -, X17, ⟨Lc17, hQ17, l17, y17, z17⟩, st17⟩ := Jvm.LawKit.callS X16 hx (y := Y4) hown (mvT hZ (ww hw 15 rfl)) (mvT hZ (ww hw 16 rfl)) (mvT hZ (ww hw 17 rfl)) (mvT hZ (ww hw 18 rfl)) (by decide) (backOf (W := 0) (own_c10_apply l Z a0 hw u0 u1 u2 G h10 n0 O10 []) hZ (ww hw 18 rfl) (ww hw 17 rfl) (by decide) (by decide)) (g := (mkF m 90 #[vi p1, vi p2, vr b1, vi (2 : Int32), vr u2, vr u1, vr u1, vi (1 : Int32), vu] [xi (1 : Int32), xr u1])) rfl (by rw [hml]; rfl) (argsL := [xr u1, xi (1 : Int32)]) (rest := []) (lenOf pd3 rfl) rfl (by show 2 * 0 + _ ≤ _; exact Nat.le_of_eq rfl) (hb hby at_90) (fun _ _ => ⟨rfl, e16, (by decide : 1 + 0 ≤ _), (by decide : 3 + 0 ≤ _)⟩)
  dsimp only [Pt.U, Pt.locs, Pt.cells, Pt.slots] at X17 l17 y17 z17 st17 hQ17
  subst l17 y17 z17
  obtain ⟨rfl, Nq17, e17⟩ := hQ17
  have N17 := Fr.app N16 Nq17
  obtain ⟨_, _, ⟨T18, L18, k18, n18⟩, -, X18, ⟨Lc18, hQ18, l18, y18, z18⟩, st18⟩ := Jvm.LawKit.callS X17 hx (y := Y4) hown (mvT hZ (ww hw 15 rfl)) (mvT hZ (ww hw 16 rfl)) (mvT hZ (ww hw 17 rfl)) (mvT hZ (ww hw 18 rfl)) (by decide) (backOf (W := 2) (own_c13_apply l Z a0 hw u0 u1 u2 G h10 n0 O10 []) hZ (ww hw 18 rfl) (ww hw 17 rfl) (by decide) (by decide)) (g := (mkF m 98 #[vi p1, vi p2, vr b1, vi (2 : Int32), vr u2, vr u1, vr u1, vi (1 : Int32), vu] [xi (1 : Int32), xr u2, xr u1, xi (0 : Int32)])) rfl (by rw [hml]; rfl) (argsL := [xr u2, xi (1 : Int32)]) (rest := [xr u1, xi (0 : Int32)]) (lenOf pd3 rfl) rfl (by show 2 * 0 + _ ≤ _; exact Nat.le_of_eq rfl) (hb hby at_98) (fun _ _ => ⟨rfl, e17, (by decide : 1 + 0 ≤ _), (by decide : 3 + 0 ≤ _)⟩)
  dsimp only [Pt.U, Pt.locs, Pt.cells, Pt.slots] at X18 l18 y18 z18 st18 hQ18
  subst l18 y18 z18
  obtain ⟨rfl, Nq18, e18⟩ := hQ18
  have N18 := Fr.app N17 Nq18
  obtain ⟨_, _, ⟨T19, L19, k19, n19⟩, -, X19, ⟨Lc19, hQ19, l19, y19, z19⟩, st19⟩ := Jvm.LawKit.callS X18 hx (y := Y4) hown (mvT hZ (ww hw 15 rfl)) (mvT hZ (ww hw 16 rfl)) (mvT hZ (ww hw 17 rfl)) (mvT hZ (ww hw 18 rfl)) (by decide) (backOf (W := 1) (own_c7_apply l Z a0 hw u0 u1 u2 G h10 n0 O10 []) hZ (ww hw 18 rfl) (ww hw 17 rfl) (by decide) (by decide)) (g := (mkF m 101 #[vi p1, vi p2, vr b1, vi (2 : Int32), vr u2, vr u1, vr u1, vi (1 : Int32), vu] [xi (0 : Int32), xr u1, xi (0 : Int32)])) rfl (by rw [hml]; rfl) (argsL := [xr u1, xi (0 : Int32)]) (rest := [xi (0 : Int32)]) (lenOf pd3 rfl) rfl (by show 2 * 0 + _ ≤ _; exact Nat.le_of_eq rfl) (hb hby at_101) (fun _ _ => ⟨rfl, e18, (by decide : 1 + 0 ≤ _), (by decide : 3 + 0 ≤ _)⟩)
  dsimp only [Pt.U, Pt.locs, Pt.cells, Pt.slots] at X19 l19 y19 z19 st19 hQ19
  subst l19 y19 z19
  obtain ⟨rfl, Nq19, e19⟩ := hQ19
  have N19 := Fr.app N18 Nq19
  obtain ⟨fs, hr, hrun, hended, hW, hsame⟩ := X19.leave (v := some (xi (1 : Int32))) (fun h => by rw [Bd.returns] at h; cases h)
  refine ⟨_, _, pre0 _ ?_, hrun, hended, _, _, rfl, ?_, ⟨_, rfl⟩, hW, hsame.mono (by decide) (by decide)⟩
  · show own_S p e below s₁ (mkF m 0 #[vi p1, vi p2, vu, vu, vu, vu, vu, vu, vu] []) _
    refine XS.iconst X0.here hx rfl (hb hby at_0) ?_
    show own_S p e below s₁ (mkF m 1 #[vi p1, vi p2, vu, vu, vu, vu, vu, vu, vu] [xi (3 : Int32)]) _
    refine st1 _ ?_
    show own_S p e below T1 (mkF m 4 #[vi p1, vi p2, vu, vu, vu, vu, vu, vu, vu] [xr b1]) _
    refine XS.dup X1.here hx rfl (hb hby at_4) rfl rfl ?_
    show own_S p e below T1 (mkF m 5 #[vi p1, vi p2, vu, vu, vu, vu, vu, vu, vu] [xr b1, xr b1]) _
    refine XS.iconst X1.here hx rfl (hb hby at_5) ?_
    show own_S p e below T1 (mkF m 6 #[vi p1, vi p2, vu, vu, vu, vu, vu, vu, vu] [xi (0 : Int32), xr b1, xr b1]) _
    refine st2 _ ?_
    show own_S p e below T2 (mkF m 9 #[vi p1, vi p2, vu, vu, vu, vu, vu, vu, vu] [xr u0, xi (0 : Int32), xr b1, xr b1]) _
    refine st4 _ ?_
    show own_S p e below T4 (mkF m 10 #[vi p1, vi p2, vu, vu, vu, vu, vu, vu, vu] [xr b1]) _
    refine XS.dup X4.here hx rfl (hb hby at_10) rfl rfl ?_
    show own_S p e below T4 (mkF m 11 #[vi p1, vi p2, vu, vu, vu, vu, vu, vu, vu] [xr b1, xr b1]) _
    refine XS.iconst X4.here hx rfl (hb hby at_11) ?_
    show own_S p e below T4 (mkF m 12 #[vi p1, vi p2, vu, vu, vu, vu, vu, vu, vu] [xi (1 : Int32), xr b1, xr b1]) _
    refine st5 _ ?_
    show own_S p e below T5 (mkF m 15 #[vi p1, vi p2, vu, vu, vu, vu, vu, vu, vu] [xr u1, xi (1 : Int32), xr b1, xr b1]) _
    refine st7 _ ?_
    show own_S p e below T7 (mkF m 16 #[vi p1, vi p2, vu, vu, vu, vu, vu, vu, vu] [xr b1]) _
    refine XS.dup X7.here hx rfl (hb hby at_16) rfl rfl ?_
    show own_S p e below T7 (mkF m 17 #[vi p1, vi p2, vu, vu, vu, vu, vu, vu, vu] [xr b1, xr b1]) _
    refine XS.iconst X7.here hx rfl (hb hby at_17) ?_
    show own_S p e below T7 (mkF m 18 #[vi p1, vi p2, vu, vu, vu, vu, vu, vu, vu] [xi (2 : Int32), xr b1, xr b1]) _
    refine st8 _ ?_
    show own_S p e below T8 (mkF m 21 #[vi p1, vi p2, vu, vu, vu, vu, vu, vu, vu] [xr u2, xi (2 : Int32), xr b1, xr b1]) _
    refine st10 _ ?_
    show own_S p e below T10 (mkF m 22 #[vi p1, vi p2, vu, vu, vu, vu, vu, vu, vu] [xr b1]) _
    refine XS.astoreN X10.here hx rfl (hb hby at_22) rfl rfl (l' := #[vi p1, vi p2, vr b1, vu, vu, vu, vu, vu, vu]) rfl ?_
    show own_S p e below T10 (mkF m 23 #[vi p1, vi p2, vr b1, vu, vu, vu, vu, vu, vu] []) _
    refine XS.iloadN X10.here hx rfl (hb hby at_23) rfl ?_
    show own_S p e below T10 (mkF m 24 #[vi p1, vi p2, vr b1, vu, vu, vu, vu, vu, vu] [xi p1]) _
    refine XS.iconst X10.here hx rfl (hb hby at_24) ?_
    show own_S p e below T10 (mkF m 25 #[vi p1, vi p2, vr b1, vu, vu, vu, vu, vu, vu] [xi (3 : Int32), xi p1]) _
    refine XS.iand X10.here hx rfl (hb hby at_25) rfl ?_
    show own_S p e below T10 (mkF m 26 #[vi p1, vi p2, vr b1, vu, vu, vu, vu, vu, vu] [xi (p1 &&& (3 : Int32))]) _
    refine castTop (show (mkF m 26 #[vi p1, vi p2, vr b1, vu, vu, vu, vu, vu, vu] [xi (p1 &&& (3 : Int32))]) = (mkF m 26 #[vi p1, vi p2, vr b1, vu, vu, vu, vu, vu, vu] [xi (2 : Int32)]) from by rw [as2]) ?_
    show own_S p e below T10 (mkF m 26 #[vi p1, vi p2, vr b1, vu, vu, vu, vu, vu, vu] [xi (2 : Int32)]) _
    refine XS.istoreN X10.here hx rfl (hb hby at_26) rfl (l' := #[vi p1, vi p2, vr b1, vi (2 : Int32), vu, vu, vu, vu, vu]) rfl ?_
    show own_S p e below T10 (mkF m 27 #[vi p1, vi p2, vr b1, vi (2 : Int32), vu, vu, vu, vu, vu] []) _
    refine XS.iloadN X10.here hx rfl (hb hby at_27) rfl ?_
    show own_S p e below T10 (mkF m 28 #[vi p1, vi p2, vr b1, vi (2 : Int32), vu, vu, vu, vu, vu] [xi (2 : Int32)]) _
    refine XS.iconst X10.here hx rfl (hb hby at_28) ?_
    show own_S p e below T10 (mkF m 29 #[vi p1, vi p2, vr b1, vi (2 : Int32), vu, vu, vu, vu, vu] [xi (3 : Int32), xi (2 : Int32)]) _
    refine XS.icmpYes X10.here hx rfl (pc0 := 29) (pc' := 36) rfl (hb hby at_29) rfl (by decide) (by decide) (by decide) ?_
    show own_S p e below T10 (mkF m 36 #[vi p1, vi p2, vr b1, vi (2 : Int32), vu, vu, vu, vu, vu] []) _
    refine XS.aloadN X10.here hx rfl (hb hby at_36) rfl rfl ?_
    show own_S p e below T10 (mkF m 37 #[vi p1, vi p2, vr b1, vi (2 : Int32), vu, vu, vu, vu, vu] [xr b1]) _
    refine XS.iloadN X10.here hx rfl (hb hby at_37) rfl ?_
    show own_S p e below T10 (mkF m 38 #[vi p1, vi p2, vr b1, vi (2 : Int32), vu, vu, vu, vu, vu] [xi (2 : Int32), xr b1]) _
    refine X10.aaload hx (j := (2 : Int32)) (v := (xr u2)) (by rw [e10]; exact Ar11.1) (State.isArrayOf_alike hZ.alike Ar11.2.1) rfl Ar11.2.2 hin11 hat11 (g := (mkF m 38 #[vi p1, vi p2, vr b1, vi (2 : Int32), vu, vu, vu, vu, vu] [xi (2 : Int32), xr b1])) rfl rfl (hb hby at_38) _ ?_
    show own_S p e below T10 (mkF m 39 #[vi p1, vi p2, vr b1, vi (2 : Int32), vu, vu, vu, vu, vu] [xr u2]) _
    refine XS.astore X10.here hx rfl (hb hby at_39) rfl rfl (l' := #[vi p1, vi p2, vr b1, vi (2 : Int32), vr u2, vu, vu, vu, vu]) rfl ?_
    show own_S p e below T10 (mkF m 41 #[vi p1, vi p2, vr b1, vi (2 : Int32), vr u2, vu, vu, vu, vu] []) _
    refine XS.aloadN X10.here hx rfl (hb hby at_41) rfl rfl ?_
    show own_S p e below T10 (mkF m 42 #[vi p1, vi p2, vr b1, vi (2 : Int32), vr u2, vu, vu, vu, vu] [xr b1]) _
    refine XS.iloadN X10.here hx rfl (hb hby at_42) rfl ?_
    show own_S p e below T10 (mkF m 43 #[vi p1, vi p2, vr b1, vi (2 : Int32), vr u2, vu, vu, vu, vu] [xi p2, xr b1]) _
    refine X10.ldcI hx hown (mvT hZ (ww hw 10 rfl)) (g := (mkF m 43 #[vi p1, vi p2, vr b1, vi (2 : Int32), vr u2, vu, vu, vu, vu] [xi p2, xr b1])) rfl (hb hby at_43) ?_
    show own_S p e below T10 (mkF m 45 #[vi p1, vi p2, vr b1, vi (2 : Int32), vr u2, vu, vu, vu, vu] [xi (2147483647 : Int32), xi p2, xr b1]) _
    refine XS.iand X10.here hx rfl (hb hby at_45) rfl ?_
    show own_S p e below T10 (mkF m 46 #[vi p1, vi p2, vr b1, vi (2 : Int32), vr u2, vu, vu, vu, vu] [xi (p2 &&& (2147483647 : Int32)), xr b1]) _
    show own_S p e below T10 (mkF m 46 #[vi p1, vi p2, vr b1, vi (2 : Int32), vr u2, vu, vu, vu, vu] [xi (p2 &&& (2147483647 : Int32)), xr b1]) _
    refine XS.iconst X10.here hx rfl (hb hby at_46) ?_
    show own_S p e below T10 (mkF m 47 #[vi p1, vi p2, vr b1, vi (2 : Int32), vr u2, vu, vu, vu, vu] [xi (3 : Int32), xi (p2 &&& (2147483647 : Int32)), xr b1]) _
    refine XS.irem X10.here hx rfl (hb hby at_47) rfl (by decide) ?_
    show own_S p e below T10 (mkF m 48 #[vi p1, vi p2, vr b1, vi (2 : Int32), vr u2, vu, vu, vu, vu] [xi ((p2 &&& (2147483647 : Int32)) - ((p2 &&& (2147483647 : Int32)) / (3 : Int32)) * (3 : Int32)), xr b1]) _
    refine castTop (show (mkF m 48 #[vi p1, vi p2, vr b1, vi (2 : Int32), vr u2, vu, vu, vu, vu] [xi ((p2 &&& (2147483647 : Int32)) - ((p2 &&& (2147483647 : Int32)) / (3 : Int32)) * (3 : Int32)), xr b1]) = (mkF m 48 #[vi p1, vi p2, vr b1, vi (2 : Int32), vr u2, vu, vu, vu, vu] [xi (1 : Int32), xr b1]) from by rw [as5]) ?_
    show own_S p e below T10 (mkF m 48 #[vi p1, vi p2, vr b1, vi (2 : Int32), vr u2, vu, vu, vu, vu] [xi (1 : Int32), xr b1]) _
    refine X10.aaload hx (j := (1 : Int32)) (v := (xr u1)) (by rw [e10]; exact Ar12.1) (State.isArrayOf_alike hZ.alike Ar12.2.1) rfl Ar12.2.2 hin12 hat12 (g := (mkF m 48 #[vi p1, vi p2, vr b1, vi (2 : Int32), vr u2, vu, vu, vu, vu] [xi (1 : Int32), xr b1])) rfl rfl (hb hby at_48) _ ?_
    show own_S p e below T10 (mkF m 49 #[vi p1, vi p2, vr b1, vi (2 : Int32), vr u2, vu, vu, vu, vu] [xr u1]) _
    refine XS.astore X10.here hx rfl (hb hby at_49) rfl rfl (l' := #[vi p1, vi p2, vr b1, vi (2 : Int32), vr u2, vr u1, vu, vu, vu]) rfl ?_
    show own_S p e below T10 (mkF m 51 #[vi p1, vi p2, vr b1, vi (2 : Int32), vr u2, vr u1, vu, vu, vu] []) _
    refine XS.aload X10.here hx rfl (hb hby at_51) rfl rfl ?_
    show own_S p e below T10 (mkF m 53 #[vi p1, vi p2, vr b1, vi (2 : Int32), vr u2, vr u1, vu, vu, vu] [xr u2]) _
    refine XS.aload X10.here hx rfl (hb hby at_53) rfl rfl ?_
    show own_S p e below T10 (mkF m 55 #[vi p1, vi p2, vr b1, vi (2 : Int32), vr u2, vr u1, vu, vu, vu] [xr u1, xr u2]) _
    refine st13 _ ?_
    show own_S p e below T13 (mkF m 58 #[vi p1, vi p2, vr b1, vi (2 : Int32), vr u2, vr u1, vu, vu, vu] [xr u1]) _
    refine XS.astore X13.here hx rfl (hb hby at_58) rfl rfl (l' := #[vi p1, vi p2, vr b1, vi (2 : Int32), vr u2, vr u1, vr u1, vu, vu]) rfl ?_
    show own_S p e below T13 (mkF m 60 #[vi p1, vi p2, vr b1, vi (2 : Int32), vr u2, vr u1, vr u1, vu, vu] []) _
    refine XS.aload X13.here hx rfl (hb hby at_60) rfl rfl ?_
    show own_S p e below T13 (mkF m 62 #[vi p1, vi p2, vr b1, vi (2 : Int32), vr u2, vr u1, vr u1, vu, vu] [xr u1]) _
    refine XS.iconst X13.here hx rfl (hb hby at_62) ?_
    show own_S p e below T13 (mkF m 63 #[vi p1, vi p2, vr b1, vi (2 : Int32), vr u2, vr u1, vr u1, vu, vu] [xi (0 : Int32), xr u1]) _
    refine st14 _ ?_
    show own_S p e below T14 (mkF m 66 #[vi p1, vi p2, vr b1, vi (2 : Int32), vr u2, vr u1, vr u1, vu, vu] [xi (0 : Int32)]) _
    refine XS.aload X14.here hx rfl (hb hby at_66) rfl rfl ?_
    show own_S p e below T14 (mkF m 68 #[vi p1, vi p2, vr b1, vi (2 : Int32), vr u2, vr u1, vr u1, vu, vu] [xr u1, xi (0 : Int32)]) _
    refine XS.aload X14.here hx rfl (hb hby at_68) rfl rfl ?_
    show own_S p e below T14 (mkF m 70 #[vi p1, vi p2, vr b1, vi (2 : Int32), vr u2, vr u1, vr u1, vu, vu] [xr u2, xr u1, xi (0 : Int32)]) _
    refine XS.iconst X14.here hx rfl (hb hby at_70) ?_
    show own_S p e below T14 (mkF m 71 #[vi p1, vi p2, vr b1, vi (2 : Int32), vr u2, vr u1, vr u1, vu, vu] [xi (0 : Int32), xr u2, xr u1, xi (0 : Int32)]) _
    refine st15 _ ?_
    show own_S p e below T15 (mkF m 74 #[vi p1, vi p2, vr b1, vi (2 : Int32), vr u2, vr u1, vr u1, vu, vu] [xi (1 : Int32), xr u1, xi (0 : Int32)]) _
    refine st16 _ ?_
    show own_S p e below T16 (mkF m 77 #[vi p1, vi p2, vr b1, vi (2 : Int32), vr u2, vr u1, vr u1, vu, vu] [xi (0 : Int32), xi (0 : Int32)]) _
    refine XS.icmpNo X16.here hx rfl (hb hby at_77) rfl (by decide) ?_
    show own_S p e below T16 (mkF m 80 #[vi p1, vi p2, vr b1, vi (2 : Int32), vr u2, vr u1, vr u1, vu, vu] []) _
    refine XS.iconst X16.here hx rfl (hb hby at_80) ?_
    show own_S p e below T16 (mkF m 81 #[vi p1, vi p2, vr b1, vi (2 : Int32), vr u2, vr u1, vr u1, vu, vu] [xi (1 : Int32)]) _
    refine XS.goto X16.here hx rfl (pc0 := 81) (pc' := 85) rfl (hb hby at_81) (by decide) (by decide) ?_
    show own_S p e below T16 (mkF m 85 #[vi p1, vi p2, vr b1, vi (2 : Int32), vr u2, vr u1, vr u1, vu, vu] [xi (1 : Int32)]) _
    refine XS.istore X16.here hx rfl (hb hby at_85) rfl (l' := #[vi p1, vi p2, vr b1, vi (2 : Int32), vr u2, vr u1, vr u1, vi (1 : Int32), vu]) rfl ?_
    show own_S p e below T16 (mkF m 87 #[vi p1, vi p2, vr b1, vi (2 : Int32), vr u2, vr u1, vr u1, vi (1 : Int32), vu] []) _
    refine XS.aload X16.here hx rfl (hb hby at_87) rfl rfl ?_
    show own_S p e below T16 (mkF m 89 #[vi p1, vi p2, vr b1, vi (2 : Int32), vr u2, vr u1, vr u1, vi (1 : Int32), vu] [xr u1]) _
    refine XS.iconst X16.here hx rfl (hb hby at_89) ?_
    show own_S p e below T16 (mkF m 90 #[vi p1, vi p2, vr b1, vi (2 : Int32), vr u2, vr u1, vr u1, vi (1 : Int32), vu] [xi (1 : Int32), xr u1]) _
    refine st17 _ ?_
    show own_S p e below T17 (mkF m 93 #[vi p1, vi p2, vr b1, vi (2 : Int32), vr u2, vr u1, vr u1, vi (1 : Int32), vu] [xi (0 : Int32)]) _
    refine XS.aload X17.here hx rfl (hb hby at_93) rfl rfl ?_
    show own_S p e below T17 (mkF m 95 #[vi p1, vi p2, vr b1, vi (2 : Int32), vr u2, vr u1, vr u1, vi (1 : Int32), vu] [xr u1, xi (0 : Int32)]) _
    refine XS.aload X17.here hx rfl (hb hby at_95) rfl rfl ?_
    show own_S p e below T17 (mkF m 97 #[vi p1, vi p2, vr b1, vi (2 : Int32), vr u2, vr u1, vr u1, vi (1 : Int32), vu] [xr u2, xr u1, xi (0 : Int32)]) _
    refine XS.iconst X17.here hx rfl (hb hby at_97) ?_
    show own_S p e below T17 (mkF m 98 #[vi p1, vi p2, vr b1, vi (2 : Int32), vr u2, vr u1, vr u1, vi (1 : Int32), vu] [xi (1 : Int32), xr u2, xr u1, xi (0 : Int32)]) _
    refine st18 _ ?_
    show own_S p e below T18 (mkF m 101 #[vi p1, vi p2, vr b1, vi (2 : Int32), vr u2, vr u1, vr u1, vi (1 : Int32), vu] [xi (0 : Int32), xr u1, xi (0 : Int32)]) _
    refine st19 _ ?_
    show own_S p e below T19 (mkF m 104 #[vi p1, vi p2, vr b1, vi (2 : Int32), vr u2, vr u1, vr u1, vi (1 : Int32), vu] [xi (0 : Int32), xi (0 : Int32)]) _
    refine XS.icmpNo X19.here hx rfl (hb hby at_104) rfl (by decide) ?_
    show own_S p e below T19 (mkF m 107 #[vi p1, vi p2, vr b1, vi (2 : Int32), vr u2, vr u1, vr u1, vi (1 : Int32), vu] []) _
    refine XS.iconst X19.here hx rfl (hb hby at_107) ?_
    show own_S p e below T19 (mkF m 108 #[vi p1, vi p2, vr b1, vi (2 : Int32), vr u2, vr u1, vr u1, vi (1 : Int32), vu] [xi (1 : Int32)]) _
    refine XS.goto X19.here hx rfl (pc0 := 108) (pc' := 112) rfl (hb hby at_108) (by decide) (by decide) ?_
    show own_S p e below T19 (mkF m 112 #[vi p1, vi p2, vr b1, vi (2 : Int32), vr u2, vr u1, vr u1, vi (1 : Int32), vu] [xi (1 : Int32)]) _
    refine XS.istore X19.here hx rfl (hb hby at_112) rfl (l' := #[vi p1, vi p2, vr b1, vi (2 : Int32), vr u2, vr u1, vr u1, vi (1 : Int32), vi (1 : Int32)]) rfl ?_
    show own_S p e below T19 (mkF m 114 #[vi p1, vi p2, vr b1, vi (2 : Int32), vr u2, vr u1, vr u1, vi (1 : Int32), vi (1 : Int32)] []) _
    refine XS.iload X19.here hx rfl (hb hby at_114) rfl ?_
    show own_S p e below T19 (mkF m 116 #[vi p1, vi p2, vr b1, vi (2 : Int32), vr u2, vr u1, vr u1, vi (1 : Int32), vi (1 : Int32)] [xi (1 : Int32)]) _
    refine XS.ifNo X19.here hx rfl (hb hby at_116) rfl (by decide) ?_
    show own_S p e below T19 (mkF m 119 #[vi p1, vi p2, vr b1, vi (2 : Int32), vr u2, vr u1, vr u1, vi (1 : Int32), vi (1 : Int32)] []) _
    refine XS.iload X19.here hx rfl (hb hby at_119) rfl ?_
    show own_S p e below T19 (mkF m 121 #[vi p1, vi p2, vr b1, vi (2 : Int32), vr u2, vr u1, vr u1, vi (1 : Int32), vi (1 : Int32)] [xi (1 : Int32)]) _
    refine XS.ifNo X19.here hx rfl (hb hby at_121) rfl (by decide) ?_
    show own_S p e below T19 (mkF m 124 #[vi p1, vi p2, vr b1, vi (2 : Int32), vr u2, vr u1, vr u1, vi (1 : Int32), vi (1 : Int32)] []) _
    refine XS.iconst X19.here hx rfl (hb hby at_124) ?_
    show own_S p e below T19 (mkF m 125 #[vi p1, vi p2, vr b1, vi (2 : Int32), vr u2, vr u1, vr u1, vi (1 : Int32), vi (1 : Int32)] [xi (1 : Int32)]) _
    refine XS.goto X19.here hx rfl (pc0 := 125) (pc' := 129) rfl (hb hby at_125) (by decide) (by decide) ?_
    show own_S p e below T19 (mkF m 129 #[vi p1, vi p2, vr b1, vi (2 : Int32), vr u2, vr u1, vr u1, vi (1 : Int32), vi (1 : Int32)] [xi (1 : Int32)]) _
    exact retN X19 hx (t := .boolean) Bd.returns (by simp) (hb hby at_129) hr
  · exact ⟨rfl, N19⟩
theorem d1_66 : decode prog_1_method_7_code 66 = .ok (.aconst_null, 1) := by decide +kernel
theorem ef_own_c23_composed (m : MethodId) (u0 u1 u2 : Addr) : entryFrame m #[xr u2, xr u2] 3 = (mkF m 0 #[vr u2, vr u2, vu] []) := by first | (simp [entryFrame, mkF, argsToLocals, Value.category]; done) | rfl
set_option maxRecDepth 65536 in
set_option maxHeartbeats 40000000 in
theorem own_c23_composed (l : Launch) (Z : State) (a0 : Array Value) (hw : ∀ d ∈ tables_1, d.before a0 Z = true) (u0 u1 u2 : Addr) (G : own_St Z u0 u1 u2) (h0 : Heap) (n0 : Nat) (O0 : Old Z n0 h0) : own_Met l Z Y0 prog_1_method_7_code 3 (some (.object "com/example/tidemark/tidemark/Change")) ({ frames := 1, cells := 0, slots := 0, locals := 12 } : Room) #[xr u2, xr u2] h0 (own_QR (some .null) h0 n0) := by
  intro ws
  refine MetFree.of_bodySF (plainFor_of_name pn0) hisR ?_
  intro p e s m args below meth c s₁ Bd hml0 hP hK
  obtain ⟨rfl, hZ, hh⟩ := hP
  have hx := Bd.exec
  have hby := Bd.bytes
  have hml : c.maxLocals = 3 := hml0
  have hown : s.vm.findClass "com/example/tidemark/tidemark/Change" = some m.cls := findClass_of_methodNamed Bd.named
  have hnm := (name_of_methodNamed Bd.named Bd.method).1
  have X0 : Stand p l e ({ frames := 1, cells := 0, slots := 0, locals := 12 } : Room) s m #[xr u2, xr u2] below meth c s₁ [] 0 0 := Stand.of_body Bd
  have e0 : s₁.heap = h0 := by rw [← hh, Bd.state]; rfl
  have N0 := Fr.nil n0
  have pre0 : ∀ t, Steps p.tables e below (s₁.setTop (mkF m 0 #[vr u2, vr u2, vu] [])) t → Steps p.tables e below (s₁.setTop (entryFrame m #[xr u2, xr u2] 3)) t := fun t st => castTop (ef_own_c23_composed m u0 u1 u2) st
  obtain ⟨T1, X1, e1, st1⟩ := getS2 X0 hx hZ hown (host := "") (Or.inl (ww hw 14 rfl)) Via.refl e0 ((own_S_u2 G).ext O0.2) (g := (mkF m 3 #[vr u2, vr u2, vr u2] [xr u2])) rfl (hb hby d1_3)
  obtain ⟨cq2, kq2, qa2, qb2, qc2⟩ := isOf hZ e1 ((own_X_u2 G).ext O0.2)
  obtain ⟨_, _, ⟨T2, L2, k2, n2⟩, -, X2, ⟨Lc2, hQ2, l2, y2, z2⟩, st2⟩ := X1.virtualBackUp hx (x := Y2) (y := Y1) hown (mvT hZ (ww hw 24 rfl)) (mvT hZ (ww hw 25 rfl)) (mvT hZ (ww hw 26 rfl)) (by decide) (mvT hZ (ww hw 28 rfl)) (mvT hZ (ww hw 27 rfl)) (backOf (W := 0) (own_c13_ordinal l Z a0 hw u0 u1 u2 G h0 n0 O0 []) hZ (ww hw 30 rfl) (ww hw 29 rfl) (by decide) (by decide)) qa2 qc2 (g := (mkF m 14 #[vr u2, vr u2, vr u2] [xr u2])) rfl (by rw [hml]; rfl) (Steps.refl _) (argsL := []) (rest := []) (lenOf pd1 rfl) rfl (by show 2 * 0 + _ ≤ _; exact Nat.le_of_eq rfl) (hb hby d1_14) (fun _ _ => ⟨rfl, e1, (by decide : 0 + 0 ≤ _), (by decide : 0 + 0 ≤ _)⟩)
  dsimp only [Pt.U, Pt.locs, Pt.cells, Pt.slots] at X2 l2 y2 z2 st2 hQ2
  subst l2 y2 z2
  obtain ⟨rfl, Nq2, e2⟩ := hQ2
  have N2 := Fr.app N0 Nq2
  obtain ⟨fs, hr, hrun, hended, hW, hsame⟩ := X2.leave (v := some .null) (fun h => by rw [Bd.returns] at h; cases h)
  refine ⟨_, _, pre0 _ ?_, hrun, hended, _, _, rfl, ?_, ⟨_, rfl⟩, hW, hsame.mono (by decide) (by decide)⟩
  · show own_S p e below s₁ (mkF m 0 #[vr u2, vr u2, vu] []) _
    refine XS.aloadN X0.here hx rfl (hb hby d1_0) rfl rfl ?_
    show own_S p e below s₁ (mkF m 1 #[vr u2, vr u2, vu] [xr u2]) _
    refine XS.astoreN X0.here hx rfl (hb hby d1_1) rfl rfl (l' := #[vr u2, vr u2, vr u2]) rfl ?_
    show own_S p e below s₁ (mkF m 2 #[vr u2, vr u2, vr u2] []) _
    refine XS.aloadN X0.here hx rfl (hb hby d1_2) rfl rfl ?_
    show own_S p e below s₁ (mkF m 3 #[vr u2, vr u2, vr u2] [xr u2]) _
    refine st1 _ ?_
    show own_S p e below T1 (mkF m 6 #[vr u2, vr u2, vr u2] [xr u2, xr u2]) _
    refine Jvm.RoadKit.acmp (g := (mkF m 6 #[vr u2, vr u2, vr u2] [xr u2, xr u2])) X1 hx rfl rfl rfl (pc0 := 6) (pc' := 9) (same := true) rfl (hb hby d1_6) rfl (decide_eq_true rfl) (by decide) (by decide) ?_
    show own_S p e below T1 (mkF m 9 #[vr u2, vr u2, vr u2] []) _
    refine XS.aloadN X1.here hx rfl (hb hby d1_9) rfl rfl ?_
    show own_S p e below T1 (mkF m 10 #[vr u2, vr u2, vr u2] [xr u2]) _
    refine XS.ifnullNo X1.here hx rfl (hb hby d1_10) rfl ?_
    show own_S p e below T1 (mkF m 13 #[vr u2, vr u2, vr u2] []) _
    refine XS.aloadN X1.here hx rfl (hb hby d1_13) rfl rfl ?_
    show own_S p e below T1 (mkF m 14 #[vr u2, vr u2, vr u2] [xr u2]) _
    refine st2.trans ?_
    show own_S p e below T2 (mkF m 17 #[vr u2, vr u2, vr u2] [xi (2 : Int32)]) _
    refine XS.tswIn X2.here hx rfl (pc0 := 17) (pc' := 66) (o := 49) rfl (hb hby d1_17) rfl (by decide) (by decide) (by decide) (by decide) ?_
    show own_S p e below T2 (mkF m 66 #[vr u2, vr u2, vr u2] []) _
    refine XS.aconstNull X2.here hx rfl (hb hby d1_66) ?_
    show own_S p e below T2 (mkF m 67 #[vr u2, vr u2, vr u2] [.null]) _
    refine XS.astoreN X2.here hx rfl (hb hby d1_67) rfl rfl (l' := #[vr u2, vr u2, vn]) rfl ?_
    show own_S p e below T2 (mkF m 68 #[vr u2, vr u2, vn] []) _
    refine XS.aloadN X2.here hx rfl (hb hby d1_68) rfl rfl ?_
    show own_S p e below T2 (mkF m 69 #[vr u2, vr u2, vn] [.null]) _
    exact X2.areturnOut hx rfl Bd.returns rfl (hb hby d1_69) hr
  · exact ⟨rfl, N2, e2⟩
theorem d2_4 : decode method_2_code 4 = .ok (.iload_n 1, 1) := by decide +kernel
theorem d2_5 : decode method_2_code 5 = .ok (.ireturn, 1) := by decide +kernel
theorem ef_own_c24_apply (m : MethodId) (u0 u1 u2 : Addr) : entryFrame m #[.null, xi (0 : Int32)] 2 = (mkF m 0 #[vn, vi (0 : Int32)] []) := by first | (simp [entryFrame, mkF, argsToLocals, Value.category]; done) | rfl
set_option maxRecDepth 65536 in
set_option maxHeartbeats 40000000 in
theorem own_c24_apply (l : Launch) (Z : State) (a0 : Array Value) (hw : ∀ d ∈ tables_1, d.before a0 Z = true) (u0 u1 u2 : Addr) (G : own_St Z u0 u1 u2) (h0 : Heap) (n0 : Nat) (O0 : Old Z n0 h0) : own_Met l Z Y4 method_2_code 2 (some .boolean) ({ frames := 0, cells := 0, slots := 0, locals := 0 } : Room) #[.null, xi (0 : Int32)] h0 (own_QR (some (xi (0 : Int32))) h0 n0) := by
  intro ws
  refine MetFree.of_bodySF (plainFor_of_name pn2) hisR ?_
  intro p e s m args below meth c s₁ Bd hml0 hP hK
  obtain ⟨rfl, hZ, hh⟩ := hP
  have hx := Bd.exec
  have hby := Bd.bytes
  have hml : c.maxLocals = 2 := hml0
  have hown : s.vm.findClass "com/example/tidemark/tidemark/ChangeComposedPinLaw" = some m.cls := findClass_of_methodNamed Bd.named
  have hnm := (name_of_methodNamed Bd.named Bd.method).1
  have X0 : Stand p l e ({ frames := 0, cells := 0, slots := 0, locals := 0 } : Room) s m #[.null, xi (0 : Int32)] below meth c s₁ [] 0 0 := Stand.of_body Bd
  have e0 : s₁.heap = h0 := by rw [← hh, Bd.state]; rfl
  have N0 := Fr.nil n0
  have pre0 : ∀ t, Steps p.tables e below (s₁.setTop (mkF m 0 #[vn, vi (0 : Int32)] [])) t → Steps p.tables e below (s₁.setTop (entryFrame m #[.null, xi (0 : Int32)] 2)) t := fun t st => castTop (ef_own_c24_apply m u0 u1 u2) st
  obtain ⟨fs, hr, hrun, hended, hW, hsame⟩ := X0.leave (v := some (xi (0 : Int32))) (fun h => by rw [Bd.returns] at h; cases h)
  refine ⟨_, _, pre0 _ ?_, hrun, hended, _, _, rfl, ?_, ⟨_, rfl⟩, hW, hsame.mono (by decide) (by decide)⟩
  · show own_S p e below s₁ (mkF m 0 #[vn, vi (0 : Int32)] []) _
    refine XS.aloadN X0.here hx rfl (hb hby d2_0) rfl rfl ?_
    show own_S p e below s₁ (mkF m 1 #[vn, vi (0 : Int32)] [.null]) _
    refine Jvm.Free.XT.nonnullNo X0.here hx rfl (hb hby d2_1) rfl rfl ?_
    show own_S p e below s₁ (mkF m 4 #[vn, vi (0 : Int32)] []) _
    refine XS.iloadN X0.here hx rfl (hb hby d2_4) rfl ?_
    show own_S p e below s₁ (mkF m 5 #[vn, vi (0 : Int32)] [xi (0 : Int32)]) _
    exact retN X0 hx (t := .boolean) Bd.returns (by simp) (hb hby d2_5) hr
  · exact ⟨rfl, N0, e0⟩
theorem ef_own_c25_apply (m : MethodId) (u0 u1 u2 : Addr) : entryFrame m #[.null, xi (1 : Int32)] 2 = (mkF m 0 #[vn, vi (1 : Int32)] []) := by first | (simp [entryFrame, mkF, argsToLocals, Value.category]; done) | rfl
set_option maxRecDepth 65536 in
set_option maxHeartbeats 40000000 in
theorem own_c25_apply (l : Launch) (Z : State) (a0 : Array Value) (hw : ∀ d ∈ tables_1, d.before a0 Z = true) (u0 u1 u2 : Addr) (G : own_St Z u0 u1 u2) (h0 : Heap) (n0 : Nat) (O0 : Old Z n0 h0) : own_Met l Z Y4 method_2_code 2 (some .boolean) ({ frames := 0, cells := 0, slots := 0, locals := 0 } : Room) #[.null, xi (1 : Int32)] h0 (own_QR (some (xi (1 : Int32))) h0 n0) := by
  intro ws
  refine MetFree.of_bodySF (plainFor_of_name pn2) hisR ?_
  intro p e s m args below meth c s₁ Bd hml0 hP hK
  obtain ⟨rfl, hZ, hh⟩ := hP
  have hx := Bd.exec
  have hby := Bd.bytes
  have hml : c.maxLocals = 2 := hml0
  have hown : s.vm.findClass "com/example/tidemark/tidemark/ChangeComposedPinLaw" = some m.cls := findClass_of_methodNamed Bd.named
  have hnm := (name_of_methodNamed Bd.named Bd.method).1
  have X0 : Stand p l e ({ frames := 0, cells := 0, slots := 0, locals := 0 } : Room) s m #[.null, xi (1 : Int32)] below meth c s₁ [] 0 0 := Stand.of_body Bd
  have e0 : s₁.heap = h0 := by rw [← hh, Bd.state]; rfl
  have N0 := Fr.nil n0
  have pre0 : ∀ t, Steps p.tables e below (s₁.setTop (mkF m 0 #[vn, vi (1 : Int32)] [])) t → Steps p.tables e below (s₁.setTop (entryFrame m #[.null, xi (1 : Int32)] 2)) t := fun t st => castTop (ef_own_c25_apply m u0 u1 u2) st
  obtain ⟨fs, hr, hrun, hended, hW, hsame⟩ := X0.leave (v := some (xi (1 : Int32))) (fun h => by rw [Bd.returns] at h; cases h)
  refine ⟨_, _, pre0 _ ?_, hrun, hended, _, _, rfl, ?_, ⟨_, rfl⟩, hW, hsame.mono (by decide) (by decide)⟩
  · show own_S p e below s₁ (mkF m 0 #[vn, vi (1 : Int32)] []) _
    refine XS.aloadN X0.here hx rfl (hb hby d2_0) rfl rfl ?_
    show own_S p e below s₁ (mkF m 1 #[vn, vi (1 : Int32)] [.null]) _
    refine Jvm.Free.XT.nonnullNo X0.here hx rfl (hb hby d2_1) rfl rfl ?_
    show own_S p e below s₁ (mkF m 4 #[vn, vi (1 : Int32)] []) _
    refine XS.iloadN X0.here hx rfl (hb hby d2_4) rfl ?_
    show own_S p e below s₁ (mkF m 5 #[vn, vi (1 : Int32)] [xi (1 : Int32)]) _
    exact retN X0 hx (t := .boolean) Bd.returns (by simp) (hb hby d2_5) hr
  · exact ⟨rfl, N0, e0⟩
theorem ef_own_l8 (m : MethodId) (u0 u1 u2 : Addr) (p1 : Int32) (p2 : Int32) : entryFrame m #[xi p1, xi p2] maxLocals = (mkF m 0 #[vi p1, vi p2, vu, vu, vu, vu, vu, vu, vu] []) := by first | (simp [entryFrame, mkF, argsToLocals, Value.category, maxLocals]; done) | rfl
set_option maxRecDepth 65536 in
set_option maxHeartbeats 40000000 in
theorem own_l8 (l : Launch) (Z : State) (a0 : Array Value) (hw : ∀ d ∈ tables_1, d.before a0 Z = true) (u0 u1 u2 : Addr) (G : own_St Z u0 u1 u2) (p1 : Int32) (p2 : Int32) (as2 : (p1 &&& (3 : Int32)) = (2 : Int32)) (as6 : ((p2 &&& (2147483647 : Int32)) - ((p2 &&& (2147483647 : Int32)) / (3 : Int32)) * (3 : Int32)) = (2 : Int32)) (h0 : Heap) (n0 : Nat) (O0 : Old Z n0 h0) : own_Met l Z x code maxLocals ret room_1 #[xi p1, xi p2] h0 (own_QL (some (xi (1 : Int32))) n0) := by
  intro ws
  refine MetFree.of_bodySF (plainFor_of_name pn2) hisR ?_
  intro p e s m args below meth c s₁ Bd hml0 hP hK
  obtain ⟨rfl, hZ, hh⟩ := hP
  have hx := Bd.exec
  have hby := Bd.bytes
  have hml : c.maxLocals = 9 := hml0
  have hown : s.vm.findClass "com/example/tidemark/tidemark/ChangeComposedPinLaw" = some m.cls := findClass_of_methodNamed Bd.named
  have hnm := (name_of_methodNamed Bd.named Bd.method).1
  have X0 : Stand p l e room_1 s m #[xi p1, xi p2] below meth c s₁ [] 0 0 := Stand.of_body Bd
  have e0 : s₁.heap = h0 := by rw [← hh, Bd.state]; rfl
  have N0 := Fr.nil n0
  have pre0 : ∀ t, Steps p.tables e below (s₁.setTop (mkF m 0 #[vi p1, vi p2, vu, vu, vu, vu, vu, vu, vu] [])) t → Steps p.tables e below (s₁.setTop (entryFrame m #[xi p1, xi p2] maxLocals)) t := fun t st => castTop (ef_own_l8 m u0 u1 u2 p1 p2) st
  obtain ⟨T1, h1, k1, X1, e1, E1, A1, Ov1, st1⟩ := newR X0 hx hZ hown (ww hw 0 rfl) (ww hw 1 rfl) e0 (g := (mkF m 1 #[vi p1, vi p2, vu, vu, vu, vu, vu, vu, vu] [xi (3 : Int32)])) rfl (hb hby at_1) rfl (by decide) (cap := 3) (by decide) (by decide) (by decide) (by decide)
  obtain ⟨b1, g1⟩ : ∃ z, z = h0.size := ⟨_, rfl⟩
  rw [← g1] at A1 st1
  have g_b1 : n0 ≤ b1 := own_fresh O0 g1
  have O1 : Old Z n0 h1 := O0.ext E1
  have V_b1 : Arv Z h1 b1 k1 (.object "com/example/tidemark/tidemark/Change") (3 : Int32) [.null, .null, .null] .null := (Arv.new A1 (by decide)).pad (pad_rep [] .null 3)
  obtain ⟨T2, X2, e2, st2⟩ := getS2 X1 hx hZ hown (host := "") (Or.inl (ww hw 2 rfl)) Via.refl e1 ((own_S_u0 G).ext O1.2) (g := (mkF m 6 #[vi p1, vi p2, vu, vu, vu, vu, vu, vu, vu] [xi (0 : Int32), xr b1, xr b1])) rfl (hb hby at_6)
  obtain ⟨cl3, Ar3, q3, S3, N3_, H3, G3⟩ := id V_b1
  have hin3 : ¬ ((0 : Int32) < 0 ∨ cl3.slots.size ≤ ((0 : Int32)).toNatClampNeg) := inb_of S3 ⟨by decide, by decide⟩
  obtain ⟨T4, h4, X4, e4, W4, st4⟩ := stR X2 hx hZ e2 Ar3 (j := (0 : Int32)) hin3 rfl (Sto.ofV Ar3 q3 Ov1 (Ins.self ((own_X_u0 G).ext O1.2))) (g := (mkF m 9 #[vi p1, vi p2, vu, vu, vu, vu, vu, vu, vu] [xr u0, xi (0 : Int32), xr b1, xr b1])) rfl rfl (hb hby at_9)
  have V_b1_4 : Arv Z h4 b1 k1 (.object "com/example/tidemark/tidemark/Change") (3 : Int32) [xr u0, .null, .null] .null := Arv.set Ar3 q3 S3 N3_ H3 G3 rfl W4 0 rfl (Nat.le_of_ble_eq_true rfl)
  have O4 : Old Z n0 h4 := O1.wr W4 g_b1
  have N4 := Fr.snoc X4 N0 g_b1
  obtain ⟨T5, X5, e5, st5⟩ := getS2 X4 hx hZ hown (host := "") (Or.inl (ww hw 6 rfl)) Via.refl e4 ((own_S_u1 G).ext O4.2) (g := (mkF m 12 #[vi p1, vi p2, vu, vu, vu, vu, vu, vu, vu] [xi (1 : Int32), xr b1, xr b1])) rfl (hb hby at_12)
  obtain ⟨cl6, Ar6, q6, S6, N6_, H6, G6⟩ := id V_b1_4
  have hin6 : ¬ ((1 : Int32) < 0 ∨ cl6.slots.size ≤ ((1 : Int32)).toNatClampNeg) := inb_of S6 ⟨by decide, by decide⟩
  obtain ⟨T7, h7, X7, e7, W7, st7⟩ := stR X5 hx hZ e5 Ar6 (j := (1 : Int32)) hin6 rfl (Sto.ofV Ar6 q6 Ov1 (Ins.self ((own_X_u1 G).ext O4.2))) (g := (mkF m 15 #[vi p1, vi p2, vu, vu, vu, vu, vu, vu, vu] [xr u1, xi (1 : Int32), xr b1, xr b1])) rfl rfl (hb hby at_15)
  have V_b1_7 : Arv Z h7 b1 k1 (.object "com/example/tidemark/tidemark/Change") (3 : Int32) [xr u0, xr u1, .null] .null := Arv.set Ar6 q6 S6 N6_ H6 G6 rfl W7 1 rfl (Nat.le_of_ble_eq_true rfl)
  have O7 : Old Z n0 h7 := O4.wr W7 g_b1
  have N7 := Fr.snoc X7 N4 g_b1
  obtain ⟨T8, X8, e8, st8⟩ := getS2 X7 hx hZ hown (host := "") (Or.inl (ww hw 8 rfl)) Via.refl e7 ((own_S_u2 G).ext O7.2) (g := (mkF m 18 #[vi p1, vi p2, vu, vu, vu, vu, vu, vu, vu] [xi (2 : Int32), xr b1, xr b1])) rfl (hb hby at_18)
  obtain ⟨cl9, Ar9, q9, S9, N9_, H9, G9⟩ := id V_b1_7
  have hin9 : ¬ ((2 : Int32) < 0 ∨ cl9.slots.size ≤ ((2 : Int32)).toNatClampNeg) := inb_of S9 ⟨by decide, by decide⟩
  obtain ⟨T10, h10, X10, e10, W10, st10⟩ := stR X8 hx hZ e8 Ar9 (j := (2 : Int32)) hin9 rfl (Sto.ofV Ar9 q9 Ov1 (Ins.self ((own_X_u2 G).ext O7.2))) (g := (mkF m 21 #[vi p1, vi p2, vu, vu, vu, vu, vu, vu, vu] [xr u2, xi (2 : Int32), xr b1, xr b1])) rfl rfl (hb hby at_21)
  have V_b1_10 : Arv Z h10 b1 k1 (.object "com/example/tidemark/tidemark/Change") (3 : Int32) [xr u0, xr u1, xr u2] .null := Arv.set Ar9 q9 S9 N9_ H9 G9 rfl W10 2 rfl (Nat.le_of_ble_eq_true rfl)
  have O10 : Old Z n0 h10 := O7.wr W10 g_b1
  have N10 := Fr.snoc X10 N7 g_b1
  obtain ⟨cl11, Ar11, q11, S11, N11_, H11, G11⟩ := id V_b1_10
  have hin11 : ¬ ((2 : Int32) < 0 ∨ cl11.slots.size ≤ ((2 : Int32)).toNatClampNeg) := inb_of S11 ⟨by decide, by decide⟩
  have hat11 : cl11.slots[((2 : Int32)).toNatClampNeg]? = some (xr u2) := Has.at H11 hin11 rfl
  obtain ⟨cl12, Ar12, q12, S12, N12_, H12, G12⟩ := id V_b1_10
  have hin12 : ¬ ((2 : Int32) < 0 ∨ cl12.slots.size ≤ ((2 : Int32)).toNatClampNeg) := inb_of S12 ⟨by decide, by decide⟩
  have hat12 : cl12.slots[((2 : Int32)).toNatClampNeg]? = some (xr u2) := Has.at H12 hin12 rfl
  obtain ⟨_, _, ⟨T13, L13, k13, n13⟩, -, X13, ⟨Lc13, hQ13, l13, y13, z13⟩, st13⟩ := Jvm.LawKit.callS X10 hx (y := Y0) hown (mvT hZ (ww hw 11 rfl)) (mvT hZ (ww hw 12 rfl)) (mvT hZ (ww hw 3 rfl)) (mvT hZ (ww hw 13 rfl)) (by decide) (backOf (W := 0) (own_c23_composed l Z a0 hw u0 u1 u2 G h10 n0 O10 []) hZ (ww hw 13 rfl) (ww hw 3 rfl) (by decide) (by decide)) (g := (mkF m 55 #[vi p1, vi p2, vr b1, vi (2 : Int32), vr u2, vr u2, vu, vu, vu] [xr u2, xr u2])) rfl (by rw [hml]; rfl) (argsL := [xr u2, xr u2]) (rest := []) (lenOf pd0 rfl) rfl (by show 2 * 0 + _ ≤ _; exact Nat.le_of_eq rfl) (hb hby at_55) (fun _ _ => ⟨rfl, e10, (by decide : 1 + 0 ≤ _), (by decide : 3 + 0 ≤ _)⟩)
  dsimp only [Pt.U, Pt.locs, Pt.cells, Pt.slots] at X13 l13 y13 z13 st13 hQ13
  subst l13 y13 z13
  obtain ⟨rfl, Nq13, e13⟩ := hQ13
  have N13 := Fr.app N10 Nq13
  obtain ⟨_, _, ⟨T14, L14, k14, n14⟩, -, X14, ⟨Lc14, hQ14, l14, y14, z14⟩, st14⟩ := Jvm.LawKit.callS X13 hx (y := Y4) hown (mvT hZ (ww hw 15 rfl)) (mvT hZ (ww hw 16 rfl)) (mvT hZ (ww hw 17 rfl)) (mvT hZ (ww hw 18 rfl)) (by decide) (backOf (W := 0) (own_c24_apply l Z a0 hw u0 u1 u2 G h10 n0 O10 []) hZ (ww hw 18 rfl) (ww hw 17 rfl) (by decide) (by decide)) (g := (mkF m 63 #[vi p1, vi p2, vr b1, vi (2 : Int32), vr u2, vr u2, vn, vu, vu] [xi (0 : Int32), .null])) rfl (by rw [hml]; rfl) (argsL := [.null, xi (0 : Int32)]) (rest := []) (lenOf pd3 rfl) rfl (by show 2 * 0 + _ ≤ _; exact Nat.le_of_eq rfl) (hb hby at_63) (fun _ _ => ⟨rfl, e13, (by decide : 1 + 0 ≤ _), (by decide : 3 + 0 ≤ _)⟩)
  dsimp only [Pt.U, Pt.locs, Pt.cells, Pt.slots] at X14 l14 y14 z14 st14 hQ14
  subst l14 y14 z14
  obtain ⟨rfl, Nq14, e14⟩ := hQ14
  have N14 := Fr.app N13 Nq14
  obtain ⟨_, _, ⟨T15, L15, k15, n15⟩, -, X15, ⟨Lc15, hQ15, l15, y15, z15⟩, st15⟩ := Jvm.LawKit.callS X14 hx (y := Y4) hown (mvT hZ (ww hw 15 rfl)) (mvT hZ (ww hw 16 rfl)) (mvT hZ (ww hw 17 rfl)) (mvT hZ (ww hw 18 rfl)) (by decide) (backOf (W := 2) (own_c19_apply l Z a0 hw u0 u1 u2 G h10 n0 O10 []) hZ (ww hw 18 rfl) (ww hw 17 rfl) (by decide) (by decide)) (g := (mkF m 71 #[vi p1, vi p2, vr b1, vi (2 : Int32), vr u2, vr u2, vn, vu, vu] [xi (0 : Int32), xr u2, xr u2, xi (0 : Int32)])) rfl (by rw [hml]; rfl) (argsL := [xr u2, xi (0 : Int32)]) (rest := [xr u2, xi (0 : Int32)]) (lenOf pd3 rfl) rfl (by show 2 * 0 + _ ≤ _; exact Nat.le_of_eq rfl) (hb hby at_71) (fun _ _ => ⟨rfl, e14, (by decide : 1 + 0 ≤ _), (by decide : 3 + 0 ≤ _)⟩)
  dsimp only [Pt.U, Pt.locs, Pt.cells, Pt.slots] at X15 l15 y15 z15 st15 hQ15
  subst l15 y15 z15
  obtain ⟨rfl, Nq15, e15⟩ := hQ15
  have N15 := Fr.app N14 Nq15
  obtain ⟨_, _, ⟨T16, L16, k16, n16⟩, -, X16, ⟨Lc16, hQ16, l16, y16, z16⟩, st16⟩ := Jvm.LawKit.callS X15 hx (y := Y4) hown (mvT hZ (ww hw 15 rfl)) (mvT hZ (ww hw 16 rfl)) (mvT hZ (ww hw 17 rfl)) (mvT hZ (ww hw 18 rfl)) (by decide) (backOf (W := 1) (own_c13_apply l Z a0 hw u0 u1 u2 G h10 n0 O10 []) hZ (ww hw 18 rfl) (ww hw 17 rfl) (by decide) (by decide)) (g := (mkF m 74 #[vi p1, vi p2, vr b1, vi (2 : Int32), vr u2, vr u2, vn, vu, vu] [xi (1 : Int32), xr u2, xi (0 : Int32)])) rfl (by rw [hml]; rfl) (argsL := [xr u2, xi (1 : Int32)]) (rest := [xi (0 : Int32)]) (lenOf pd3 rfl) rfl (by show 2 * 0 + _ ≤ _; exact Nat.le_of_eq rfl) (hb hby at_74) (fun _ _ => ⟨rfl, e15, (by decide : 1 + 0 ≤ _), (by decide : 3 + 0 ≤ _)⟩)
  dsimp only [Pt.U, Pt.locs, Pt.cells, Pt.slots] at X16 l16 y16 z16 st16 hQ16
  subst l16 y16 z16
  obtain ⟨rfl, Nq16, e16⟩ := hQ16
  have N16 := Fr.app N15 Nq16
  obtain ⟨_, _, ⟨T17, L17, k17, n17⟩, -, X17, ⟨Lc17, hQ17, l17, y17, z17⟩, st17⟩ := Jvm.LawKit.callS X16 hx (y := Y4) hown (mvT hZ (ww hw 15 rfl)) (mvT hZ (ww hw 16 rfl)) (mvT hZ (ww hw 17 rfl)) (mvT hZ (ww hw 18 rfl)) (by decide) (backOf (W := 0) (own_c25_apply l Z a0 hw u0 u1 u2 G h10 n0 O10 []) hZ (ww hw 18 rfl) (ww hw 17 rfl) (by decide) (by decide)) (g := (mkF m 90 #[vi p1, vi p2, vr b1, vi (2 : Int32), vr u2, vr u2, vn, vi (1 : Int32), vu] [xi (1 : Int32), .null])) rfl (by rw [hml]; rfl) (argsL := [.null, xi (1 : Int32)]) (rest := []) (lenOf pd3 rfl) rfl (by show 2 * 0 + _ ≤ _; exact Nat.le_of_eq rfl) (hb hby at_90) (fun _ _ => ⟨rfl, e16, (by decide : 1 + 0 ≤ _), (by decide : 3 + 0 ≤ _)⟩)
  dsimp only [Pt.U, Pt.locs, Pt.cells, Pt.slots] at X17 l17 y17 z17 st17 hQ17
  subst l17 y17 z17
  obtain ⟨rfl, Nq17, e17⟩ := hQ17
  have N17 := Fr.app N16 Nq17
  obtain ⟨_, _, ⟨T18, L18, k18, n18⟩, -, X18, ⟨Lc18, hQ18, l18, y18, z18⟩, st18⟩ := Jvm.LawKit.callS X17 hx (y := Y4) hown (mvT hZ (ww hw 15 rfl)) (mvT hZ (ww hw 16 rfl)) (mvT hZ (ww hw 17 rfl)) (mvT hZ (ww hw 18 rfl)) (by decide) (backOf (W := 2) (own_c13_apply l Z a0 hw u0 u1 u2 G h10 n0 O10 []) hZ (ww hw 18 rfl) (ww hw 17 rfl) (by decide) (by decide)) (g := (mkF m 98 #[vi p1, vi p2, vr b1, vi (2 : Int32), vr u2, vr u2, vn, vi (1 : Int32), vu] [xi (1 : Int32), xr u2, xr u2, xi (1 : Int32)])) rfl (by rw [hml]; rfl) (argsL := [xr u2, xi (1 : Int32)]) (rest := [xr u2, xi (1 : Int32)]) (lenOf pd3 rfl) rfl (by show 2 * 0 + _ ≤ _; exact Nat.le_of_eq rfl) (hb hby at_98) (fun _ _ => ⟨rfl, e17, (by decide : 1 + 0 ≤ _), (by decide : 3 + 0 ≤ _)⟩)
  dsimp only [Pt.U, Pt.locs, Pt.cells, Pt.slots] at X18 l18 y18 z18 st18 hQ18
  subst l18 y18 z18
  obtain ⟨rfl, Nq18, e18⟩ := hQ18
  have N18 := Fr.app N17 Nq18
  obtain ⟨_, _, ⟨T19, L19, k19, n19⟩, -, X19, ⟨Lc19, hQ19, l19, y19, z19⟩, st19⟩ := Jvm.LawKit.callS X18 hx (y := Y4) hown (mvT hZ (ww hw 15 rfl)) (mvT hZ (ww hw 16 rfl)) (mvT hZ (ww hw 17 rfl)) (mvT hZ (ww hw 18 rfl)) (by decide) (backOf (W := 1) (own_c19_apply l Z a0 hw u0 u1 u2 G h10 n0 O10 []) hZ (ww hw 18 rfl) (ww hw 17 rfl) (by decide) (by decide)) (g := (mkF m 101 #[vi p1, vi p2, vr b1, vi (2 : Int32), vr u2, vr u2, vn, vi (1 : Int32), vu] [xi (0 : Int32), xr u2, xi (1 : Int32)])) rfl (by rw [hml]; rfl) (argsL := [xr u2, xi (0 : Int32)]) (rest := [xi (1 : Int32)]) (lenOf pd3 rfl) rfl (by show 2 * 0 + _ ≤ _; exact Nat.le_of_eq rfl) (hb hby at_101) (fun _ _ => ⟨rfl, e18, (by decide : 1 + 0 ≤ _), (by decide : 3 + 0 ≤ _)⟩)
  dsimp only [Pt.U, Pt.locs, Pt.cells, Pt.slots] at X19 l19 y19 z19 st19 hQ19
  subst l19 y19 z19
  obtain ⟨rfl, Nq19, e19⟩ := hQ19
  have N19 := Fr.app N18 Nq19
  obtain ⟨fs, hr, hrun, hended, hW, hsame⟩ := X19.leave (v := some (xi (1 : Int32))) (fun h => by rw [Bd.returns] at h; cases h)
  refine ⟨_, _, pre0 _ ?_, hrun, hended, _, _, rfl, ?_, ⟨_, rfl⟩, hW, hsame.mono (by decide) (by decide)⟩
  · show own_S p e below s₁ (mkF m 0 #[vi p1, vi p2, vu, vu, vu, vu, vu, vu, vu] []) _
    refine XS.iconst X0.here hx rfl (hb hby at_0) ?_
    show own_S p e below s₁ (mkF m 1 #[vi p1, vi p2, vu, vu, vu, vu, vu, vu, vu] [xi (3 : Int32)]) _
    refine st1 _ ?_
    show own_S p e below T1 (mkF m 4 #[vi p1, vi p2, vu, vu, vu, vu, vu, vu, vu] [xr b1]) _
    refine XS.dup X1.here hx rfl (hb hby at_4) rfl rfl ?_
    show own_S p e below T1 (mkF m 5 #[vi p1, vi p2, vu, vu, vu, vu, vu, vu, vu] [xr b1, xr b1]) _
    refine XS.iconst X1.here hx rfl (hb hby at_5) ?_
    show own_S p e below T1 (mkF m 6 #[vi p1, vi p2, vu, vu, vu, vu, vu, vu, vu] [xi (0 : Int32), xr b1, xr b1]) _
    refine st2 _ ?_
    show own_S p e below T2 (mkF m 9 #[vi p1, vi p2, vu, vu, vu, vu, vu, vu, vu] [xr u0, xi (0 : Int32), xr b1, xr b1]) _
    refine st4 _ ?_
    show own_S p e below T4 (mkF m 10 #[vi p1, vi p2, vu, vu, vu, vu, vu, vu, vu] [xr b1]) _
    refine XS.dup X4.here hx rfl (hb hby at_10) rfl rfl ?_
    show own_S p e below T4 (mkF m 11 #[vi p1, vi p2, vu, vu, vu, vu, vu, vu, vu] [xr b1, xr b1]) _
    refine XS.iconst X4.here hx rfl (hb hby at_11) ?_
    show own_S p e below T4 (mkF m 12 #[vi p1, vi p2, vu, vu, vu, vu, vu, vu, vu] [xi (1 : Int32), xr b1, xr b1]) _
    refine st5 _ ?_
    show own_S p e below T5 (mkF m 15 #[vi p1, vi p2, vu, vu, vu, vu, vu, vu, vu] [xr u1, xi (1 : Int32), xr b1, xr b1]) _
    refine st7 _ ?_
    show own_S p e below T7 (mkF m 16 #[vi p1, vi p2, vu, vu, vu, vu, vu, vu, vu] [xr b1]) _
    refine XS.dup X7.here hx rfl (hb hby at_16) rfl rfl ?_
    show own_S p e below T7 (mkF m 17 #[vi p1, vi p2, vu, vu, vu, vu, vu, vu, vu] [xr b1, xr b1]) _
    refine XS.iconst X7.here hx rfl (hb hby at_17) ?_
    show own_S p e below T7 (mkF m 18 #[vi p1, vi p2, vu, vu, vu, vu, vu, vu, vu] [xi (2 : Int32), xr b1, xr b1]) _
    refine st8 _ ?_
    show own_S p e below T8 (mkF m 21 #[vi p1, vi p2, vu, vu, vu, vu, vu, vu, vu] [xr u2, xi (2 : Int32), xr b1, xr b1]) _
    refine st10 _ ?_
    show own_S p e below T10 (mkF m 22 #[vi p1, vi p2, vu, vu, vu, vu, vu, vu, vu] [xr b1]) _
    refine XS.astoreN X10.here hx rfl (hb hby at_22) rfl rfl (l' := #[vi p1, vi p2, vr b1, vu, vu, vu, vu, vu, vu]) rfl ?_
    show own_S p e below T10 (mkF m 23 #[vi p1, vi p2, vr b1, vu, vu, vu, vu, vu, vu] []) _
    refine XS.iloadN X10.here hx rfl (hb hby at_23) rfl ?_
    show own_S p e below T10 (mkF m 24 #[vi p1, vi p2, vr b1, vu, vu, vu, vu, vu, vu] [xi p1]) _
    refine XS.iconst X10.here hx rfl (hb hby at_24) ?_
    show own_S p e below T10 (mkF m 25 #[vi p1, vi p2, vr b1, vu, vu, vu, vu, vu, vu] [xi (3 : Int32), xi p1]) _
    refine XS.iand X10.here hx rfl (hb hby at_25) rfl ?_
    show own_S p e below T10 (mkF m 26 #[vi p1, vi p2, vr b1, vu, vu, vu, vu, vu, vu] [xi (p1 &&& (3 : Int32))]) _
    refine castTop (show (mkF m 26 #[vi p1, vi p2, vr b1, vu, vu, vu, vu, vu, vu] [xi (p1 &&& (3 : Int32))]) = (mkF m 26 #[vi p1, vi p2, vr b1, vu, vu, vu, vu, vu, vu] [xi (2 : Int32)]) from by rw [as2]) ?_
    show own_S p e below T10 (mkF m 26 #[vi p1, vi p2, vr b1, vu, vu, vu, vu, vu, vu] [xi (2 : Int32)]) _
    refine XS.istoreN X10.here hx rfl (hb hby at_26) rfl (l' := #[vi p1, vi p2, vr b1, vi (2 : Int32), vu, vu, vu, vu, vu]) rfl ?_
    show own_S p e below T10 (mkF m 27 #[vi p1, vi p2, vr b1, vi (2 : Int32), vu, vu, vu, vu, vu] []) _
    refine XS.iloadN X10.here hx rfl (hb hby at_27) rfl ?_
    show own_S p e below T10 (mkF m 28 #[vi p1, vi p2, vr b1, vi (2 : Int32), vu, vu, vu, vu, vu] [xi (2 : Int32)]) _
    refine XS.iconst X10.here hx rfl (hb hby at_28) ?_
    show own_S p e below T10 (mkF m 29 #[vi p1, vi p2, vr b1, vi (2 : Int32), vu, vu, vu, vu, vu] [xi (3 : Int32), xi (2 : Int32)]) _
    refine XS.icmpYes X10.here hx rfl (pc0 := 29) (pc' := 36) rfl (hb hby at_29) rfl (by decide) (by decide) (by decide) ?_
    show own_S p e below T10 (mkF m 36 #[vi p1, vi p2, vr b1, vi (2 : Int32), vu, vu, vu, vu, vu] []) _
    refine XS.aloadN X10.here hx rfl (hb hby at_36) rfl rfl ?_
    show own_S p e below T10 (mkF m 37 #[vi p1, vi p2, vr b1, vi (2 : Int32), vu, vu, vu, vu, vu] [xr b1]) _
    refine XS.iloadN X10.here hx rfl (hb hby at_37) rfl ?_
    show own_S p e below T10 (mkF m 38 #[vi p1, vi p2, vr b1, vi (2 : Int32), vu, vu, vu, vu, vu] [xi (2 : Int32), xr b1]) _
    refine X10.aaload hx (j := (2 : Int32)) (v := (xr u2)) (by rw [e10]; exact Ar11.1) (State.isArrayOf_alike hZ.alike Ar11.2.1) rfl Ar11.2.2 hin11 hat11 (g := (mkF m 38 #[vi p1, vi p2, vr b1, vi (2 : Int32), vu, vu, vu, vu, vu] [xi (2 : Int32), xr b1])) rfl rfl (hb hby at_38) _ ?_
    show own_S p e below T10 (mkF m 39 #[vi p1, vi p2, vr b1, vi (2 : Int32), vu, vu, vu, vu, vu] [xr u2]) _
    refine XS.astore X10.here hx rfl (hb hby at_39) rfl rfl (l' := #[vi p1, vi p2, vr b1, vi (2 : Int32), vr u2, vu, vu, vu, vu]) rfl ?_
    show own_S p e below T10 (mkF m 41 #[vi p1, vi p2, vr b1, vi (2 : Int32), vr u2, vu, vu, vu, vu] []) _
    refine XS.aloadN X10.here hx rfl (hb hby at_41) rfl rfl ?_
    show own_S p e below T10 (mkF m 42 #[vi p1, vi p2, vr b1, vi (2 : Int32), vr u2, vu, vu, vu, vu] [xr b1]) _
    refine XS.iloadN X10.here hx rfl (hb hby at_42) rfl ?_
    show own_S p e below T10 (mkF m 43 #[vi p1, vi p2, vr b1, vi (2 : Int32), vr u2, vu, vu, vu, vu] [xi p2, xr b1]) _
    refine X10.ldcI hx hown (mvT hZ (ww hw 10 rfl)) (g := (mkF m 43 #[vi p1, vi p2, vr b1, vi (2 : Int32), vr u2, vu, vu, vu, vu] [xi p2, xr b1])) rfl (hb hby at_43) ?_
    show own_S p e below T10 (mkF m 45 #[vi p1, vi p2, vr b1, vi (2 : Int32), vr u2, vu, vu, vu, vu] [xi (2147483647 : Int32), xi p2, xr b1]) _
    refine XS.iand X10.here hx rfl (hb hby at_45) rfl ?_
    show own_S p e below T10 (mkF m 46 #[vi p1, vi p2, vr b1, vi (2 : Int32), vr u2, vu, vu, vu, vu] [xi (p2 &&& (2147483647 : Int32)), xr b1]) _
    show own_S p e below T10 (mkF m 46 #[vi p1, vi p2, vr b1, vi (2 : Int32), vr u2, vu, vu, vu, vu] [xi (p2 &&& (2147483647 : Int32)), xr b1]) _
    refine XS.iconst X10.here hx rfl (hb hby at_46) ?_
    show own_S p e below T10 (mkF m 47 #[vi p1, vi p2, vr b1, vi (2 : Int32), vr u2, vu, vu, vu, vu] [xi (3 : Int32), xi (p2 &&& (2147483647 : Int32)), xr b1]) _
    refine XS.irem X10.here hx rfl (hb hby at_47) rfl (by decide) ?_
    show own_S p e below T10 (mkF m 48 #[vi p1, vi p2, vr b1, vi (2 : Int32), vr u2, vu, vu, vu, vu] [xi ((p2 &&& (2147483647 : Int32)) - ((p2 &&& (2147483647 : Int32)) / (3 : Int32)) * (3 : Int32)), xr b1]) _
    refine castTop (show (mkF m 48 #[vi p1, vi p2, vr b1, vi (2 : Int32), vr u2, vu, vu, vu, vu] [xi ((p2 &&& (2147483647 : Int32)) - ((p2 &&& (2147483647 : Int32)) / (3 : Int32)) * (3 : Int32)), xr b1]) = (mkF m 48 #[vi p1, vi p2, vr b1, vi (2 : Int32), vr u2, vu, vu, vu, vu] [xi (2 : Int32), xr b1]) from by rw [as6]) ?_
    show own_S p e below T10 (mkF m 48 #[vi p1, vi p2, vr b1, vi (2 : Int32), vr u2, vu, vu, vu, vu] [xi (2 : Int32), xr b1]) _
    refine X10.aaload hx (j := (2 : Int32)) (v := (xr u2)) (by rw [e10]; exact Ar12.1) (State.isArrayOf_alike hZ.alike Ar12.2.1) rfl Ar12.2.2 hin12 hat12 (g := (mkF m 48 #[vi p1, vi p2, vr b1, vi (2 : Int32), vr u2, vu, vu, vu, vu] [xi (2 : Int32), xr b1])) rfl rfl (hb hby at_48) _ ?_
    show own_S p e below T10 (mkF m 49 #[vi p1, vi p2, vr b1, vi (2 : Int32), vr u2, vu, vu, vu, vu] [xr u2]) _
    refine XS.astore X10.here hx rfl (hb hby at_49) rfl rfl (l' := #[vi p1, vi p2, vr b1, vi (2 : Int32), vr u2, vr u2, vu, vu, vu]) rfl ?_
    show own_S p e below T10 (mkF m 51 #[vi p1, vi p2, vr b1, vi (2 : Int32), vr u2, vr u2, vu, vu, vu] []) _
    refine XS.aload X10.here hx rfl (hb hby at_51) rfl rfl ?_
    show own_S p e below T10 (mkF m 53 #[vi p1, vi p2, vr b1, vi (2 : Int32), vr u2, vr u2, vu, vu, vu] [xr u2]) _
    refine XS.aload X10.here hx rfl (hb hby at_53) rfl rfl ?_
    show own_S p e below T10 (mkF m 55 #[vi p1, vi p2, vr b1, vi (2 : Int32), vr u2, vr u2, vu, vu, vu] [xr u2, xr u2]) _
    refine st13 _ ?_
    show own_S p e below T13 (mkF m 58 #[vi p1, vi p2, vr b1, vi (2 : Int32), vr u2, vr u2, vu, vu, vu] [.null]) _
    refine XS.astore X13.here hx rfl (hb hby at_58) rfl rfl (l' := #[vi p1, vi p2, vr b1, vi (2 : Int32), vr u2, vr u2, vn, vu, vu]) rfl ?_
    show own_S p e below T13 (mkF m 60 #[vi p1, vi p2, vr b1, vi (2 : Int32), vr u2, vr u2, vn, vu, vu] []) _
    refine XS.aload X13.here hx rfl (hb hby at_60) rfl rfl ?_
    show own_S p e below T13 (mkF m 62 #[vi p1, vi p2, vr b1, vi (2 : Int32), vr u2, vr u2, vn, vu, vu] [.null]) _
    refine XS.iconst X13.here hx rfl (hb hby at_62) ?_
    show own_S p e below T13 (mkF m 63 #[vi p1, vi p2, vr b1, vi (2 : Int32), vr u2, vr u2, vn, vu, vu] [xi (0 : Int32), .null]) _
    refine st14 _ ?_
    show own_S p e below T14 (mkF m 66 #[vi p1, vi p2, vr b1, vi (2 : Int32), vr u2, vr u2, vn, vu, vu] [xi (0 : Int32)]) _
    refine XS.aload X14.here hx rfl (hb hby at_66) rfl rfl ?_
    show own_S p e below T14 (mkF m 68 #[vi p1, vi p2, vr b1, vi (2 : Int32), vr u2, vr u2, vn, vu, vu] [xr u2, xi (0 : Int32)]) _
    refine XS.aload X14.here hx rfl (hb hby at_68) rfl rfl ?_
    show own_S p e below T14 (mkF m 70 #[vi p1, vi p2, vr b1, vi (2 : Int32), vr u2, vr u2, vn, vu, vu] [xr u2, xr u2, xi (0 : Int32)]) _
    refine XS.iconst X14.here hx rfl (hb hby at_70) ?_
    show own_S p e below T14 (mkF m 71 #[vi p1, vi p2, vr b1, vi (2 : Int32), vr u2, vr u2, vn, vu, vu] [xi (0 : Int32), xr u2, xr u2, xi (0 : Int32)]) _
    refine st15 _ ?_
    show own_S p e below T15 (mkF m 74 #[vi p1, vi p2, vr b1, vi (2 : Int32), vr u2, vr u2, vn, vu, vu] [xi (1 : Int32), xr u2, xi (0 : Int32)]) _
    refine st16 _ ?_
    show own_S p e below T16 (mkF m 77 #[vi p1, vi p2, vr b1, vi (2 : Int32), vr u2, vr u2, vn, vu, vu] [xi (0 : Int32), xi (0 : Int32)]) _
    refine XS.icmpNo X16.here hx rfl (hb hby at_77) rfl (by decide) ?_
    show own_S p e below T16 (mkF m 80 #[vi p1, vi p2, vr b1, vi (2 : Int32), vr u2, vr u2, vn, vu, vu] []) _
    refine XS.iconst X16.here hx rfl (hb hby at_80) ?_
    show own_S p e below T16 (mkF m 81 #[vi p1, vi p2, vr b1, vi (2 : Int32), vr u2, vr u2, vn, vu, vu] [xi (1 : Int32)]) _
    refine XS.goto X16.here hx rfl (pc0 := 81) (pc' := 85) rfl (hb hby at_81) (by decide) (by decide) ?_
    show own_S p e below T16 (mkF m 85 #[vi p1, vi p2, vr b1, vi (2 : Int32), vr u2, vr u2, vn, vu, vu] [xi (1 : Int32)]) _
    refine XS.istore X16.here hx rfl (hb hby at_85) rfl (l' := #[vi p1, vi p2, vr b1, vi (2 : Int32), vr u2, vr u2, vn, vi (1 : Int32), vu]) rfl ?_
    show own_S p e below T16 (mkF m 87 #[vi p1, vi p2, vr b1, vi (2 : Int32), vr u2, vr u2, vn, vi (1 : Int32), vu] []) _
    refine XS.aload X16.here hx rfl (hb hby at_87) rfl rfl ?_
    show own_S p e below T16 (mkF m 89 #[vi p1, vi p2, vr b1, vi (2 : Int32), vr u2, vr u2, vn, vi (1 : Int32), vu] [.null]) _
    refine XS.iconst X16.here hx rfl (hb hby at_89) ?_
    show own_S p e below T16 (mkF m 90 #[vi p1, vi p2, vr b1, vi (2 : Int32), vr u2, vr u2, vn, vi (1 : Int32), vu] [xi (1 : Int32), .null]) _
    refine st17 _ ?_
    show own_S p e below T17 (mkF m 93 #[vi p1, vi p2, vr b1, vi (2 : Int32), vr u2, vr u2, vn, vi (1 : Int32), vu] [xi (1 : Int32)]) _
    refine XS.aload X17.here hx rfl (hb hby at_93) rfl rfl ?_
    show own_S p e below T17 (mkF m 95 #[vi p1, vi p2, vr b1, vi (2 : Int32), vr u2, vr u2, vn, vi (1 : Int32), vu] [xr u2, xi (1 : Int32)]) _
    refine XS.aload X17.here hx rfl (hb hby at_95) rfl rfl ?_
    show own_S p e below T17 (mkF m 97 #[vi p1, vi p2, vr b1, vi (2 : Int32), vr u2, vr u2, vn, vi (1 : Int32), vu] [xr u2, xr u2, xi (1 : Int32)]) _
    refine XS.iconst X17.here hx rfl (hb hby at_97) ?_
    show own_S p e below T17 (mkF m 98 #[vi p1, vi p2, vr b1, vi (2 : Int32), vr u2, vr u2, vn, vi (1 : Int32), vu] [xi (1 : Int32), xr u2, xr u2, xi (1 : Int32)]) _
    refine st18 _ ?_
    show own_S p e below T18 (mkF m 101 #[vi p1, vi p2, vr b1, vi (2 : Int32), vr u2, vr u2, vn, vi (1 : Int32), vu] [xi (0 : Int32), xr u2, xi (1 : Int32)]) _
    refine st19 _ ?_
    show own_S p e below T19 (mkF m 104 #[vi p1, vi p2, vr b1, vi (2 : Int32), vr u2, vr u2, vn, vi (1 : Int32), vu] [xi (1 : Int32), xi (1 : Int32)]) _
    refine XS.icmpNo X19.here hx rfl (hb hby at_104) rfl (by decide) ?_
    show own_S p e below T19 (mkF m 107 #[vi p1, vi p2, vr b1, vi (2 : Int32), vr u2, vr u2, vn, vi (1 : Int32), vu] []) _
    refine XS.iconst X19.here hx rfl (hb hby at_107) ?_
    show own_S p e below T19 (mkF m 108 #[vi p1, vi p2, vr b1, vi (2 : Int32), vr u2, vr u2, vn, vi (1 : Int32), vu] [xi (1 : Int32)]) _
    refine XS.goto X19.here hx rfl (pc0 := 108) (pc' := 112) rfl (hb hby at_108) (by decide) (by decide) ?_
    show own_S p e below T19 (mkF m 112 #[vi p1, vi p2, vr b1, vi (2 : Int32), vr u2, vr u2, vn, vi (1 : Int32), vu] [xi (1 : Int32)]) _
    refine XS.istore X19.here hx rfl (hb hby at_112) rfl (l' := #[vi p1, vi p2, vr b1, vi (2 : Int32), vr u2, vr u2, vn, vi (1 : Int32), vi (1 : Int32)]) rfl ?_
    show own_S p e below T19 (mkF m 114 #[vi p1, vi p2, vr b1, vi (2 : Int32), vr u2, vr u2, vn, vi (1 : Int32), vi (1 : Int32)] []) _
    refine XS.iload X19.here hx rfl (hb hby at_114) rfl ?_
    show own_S p e below T19 (mkF m 116 #[vi p1, vi p2, vr b1, vi (2 : Int32), vr u2, vr u2, vn, vi (1 : Int32), vi (1 : Int32)] [xi (1 : Int32)]) _
    refine XS.ifNo X19.here hx rfl (hb hby at_116) rfl (by decide) ?_
    show own_S p e below T19 (mkF m 119 #[vi p1, vi p2, vr b1, vi (2 : Int32), vr u2, vr u2, vn, vi (1 : Int32), vi (1 : Int32)] []) _
    refine XS.iload X19.here hx rfl (hb hby at_119) rfl ?_
    show own_S p e below T19 (mkF m 121 #[vi p1, vi p2, vr b1, vi (2 : Int32), vr u2, vr u2, vn, vi (1 : Int32), vi (1 : Int32)] [xi (1 : Int32)]) _
    refine XS.ifNo X19.here hx rfl (hb hby at_121) rfl (by decide) ?_
    show own_S p e below T19 (mkF m 124 #[vi p1, vi p2, vr b1, vi (2 : Int32), vr u2, vr u2, vn, vi (1 : Int32), vi (1 : Int32)] []) _
    refine XS.iconst X19.here hx rfl (hb hby at_124) ?_
    show own_S p e below T19 (mkF m 125 #[vi p1, vi p2, vr b1, vi (2 : Int32), vr u2, vr u2, vn, vi (1 : Int32), vi (1 : Int32)] [xi (1 : Int32)]) _
    refine XS.goto X19.here hx rfl (pc0 := 125) (pc' := 129) rfl (hb hby at_125) (by decide) (by decide) ?_
    show own_S p e below T19 (mkF m 129 #[vi p1, vi p2, vr b1, vi (2 : Int32), vr u2, vr u2, vn, vi (1 : Int32), vi (1 : Int32)] [xi (1 : Int32)]) _
    exact retN X19 hx (t := .boolean) Bd.returns (by simp) (hb hby at_129) hr
  · exact ⟨rfl, N19⟩
theorem ef_own_c26_composed (m : MethodId) (u0 u1 u2 : Addr) : entryFrame m #[.null, xr u0] 3 = (mkF m 0 #[vn, vr u0, vu] []) := by first | (simp [entryFrame, mkF, argsToLocals, Value.category]; done) | rfl
set_option maxRecDepth 65536 in
set_option maxHeartbeats 40000000 in
theorem own_c26_composed (l : Launch) (Z : State) (a0 : Array Value) (hw : ∀ d ∈ tables_1, d.before a0 Z = true) (u0 u1 u2 : Addr) (G : own_St Z u0 u1 u2) (h0 : Heap) (n0 : Nat) (O0 : Old Z n0 h0) : own_Met l Z Y0 prog_1_method_7_code 3 (some (.object "com/example/tidemark/tidemark/Change")) ({ frames := 0, cells := 0, slots := 0, locals := 0 } : Room) #[.null, xr u0] h0 (own_QR (some (xr u0)) h0 n0) := by
  intro ws
  refine MetFree.of_bodySF (plainFor_of_name pn0) hisR ?_
  intro p e s m args below meth c s₁ Bd hml0 hP hK
  obtain ⟨rfl, hZ, hh⟩ := hP
  have hx := Bd.exec
  have hby := Bd.bytes
  have hml : c.maxLocals = 3 := hml0
  have hown : s.vm.findClass "com/example/tidemark/tidemark/Change" = some m.cls := findClass_of_methodNamed Bd.named
  have hnm := (name_of_methodNamed Bd.named Bd.method).1
  have X0 : Stand p l e ({ frames := 0, cells := 0, slots := 0, locals := 0 } : Room) s m #[.null, xr u0] below meth c s₁ [] 0 0 := Stand.of_body Bd
  have e0 : s₁.heap = h0 := by rw [← hh, Bd.state]; rfl
  have N0 := Fr.nil n0
  have pre0 : ∀ t, Steps p.tables e below (s₁.setTop (mkF m 0 #[vn, vr u0, vu] [])) t → Steps p.tables e below (s₁.setTop (entryFrame m #[.null, xr u0] 3)) t := fun t st => castTop (ef_own_c26_composed m u0 u1 u2) st
  obtain ⟨T1, X1, e1, st1⟩ := getS2 X0 hx hZ hown (host := "") (Or.inl (ww hw 14 rfl)) Via.refl e0 ((own_S_u2 G).ext O0.2) (g := (mkF m 3 #[vn, vr u0, vr u0] [xr u0])) rfl (hb hby d1_3)
  obtain ⟨fs, hr, hrun, hended, hW, hsame⟩ := X1.leave (v := some (xr u0)) (fun h => by rw [Bd.returns] at h; cases h)
  refine ⟨_, _, pre0 _ ?_, hrun, hended, _, _, rfl, ?_, ⟨_, rfl⟩, hW, hsame.mono (by decide) (by decide)⟩
  · show own_S p e below s₁ (mkF m 0 #[vn, vr u0, vu] []) _
    refine XS.aloadN X0.here hx rfl (hb hby d1_0) rfl rfl ?_
    show own_S p e below s₁ (mkF m 1 #[vn, vr u0, vu] [xr u0]) _
    refine XS.astoreN X0.here hx rfl (hb hby d1_1) rfl rfl (l' := #[vn, vr u0, vr u0]) rfl ?_
    show own_S p e below s₁ (mkF m 2 #[vn, vr u0, vr u0] []) _
    refine XS.aloadN X0.here hx rfl (hb hby d1_2) rfl rfl ?_
    show own_S p e below s₁ (mkF m 3 #[vn, vr u0, vr u0] [xr u0]) _
    refine st1 _ ?_
    show own_S p e below T1 (mkF m 6 #[vn, vr u0, vr u0] [xr u2, xr u0]) _
    refine Jvm.RoadKit.acmp (g := (mkF m 6 #[vn, vr u0, vr u0] [xr u2, xr u0])) X1 hx rfl rfl rfl (pc0 := 6) (pc' := 68) (same := false) rfl (hb hby d1_6) rfl (own_ref (own_ne_u0_u2 G)) (by decide) (by decide) ?_
    show own_S p e below T1 (mkF m 68 #[vn, vr u0, vr u0] []) _
    refine XS.aloadN X1.here hx rfl (hb hby d1_68) rfl rfl ?_
    show own_S p e below T1 (mkF m 69 #[vn, vr u0, vr u0] [xr u0]) _
    exact X1.areturnOut hx rfl Bd.returns rfl (hb hby d1_69) hr
  · exact ⟨rfl, N0, e1⟩
theorem ef_own_l9 (m : MethodId) (u0 u1 u2 : Addr) (p1 : Int32) (p2 : Int32) : entryFrame m #[xi p1, xi p2] maxLocals = (mkF m 0 #[vi p1, vi p2, vu, vu, vu, vu, vu, vu, vu] []) := by first | (simp [entryFrame, mkF, argsToLocals, Value.category, maxLocals]; done) | rfl
set_option maxRecDepth 65536 in
set_option maxHeartbeats 40000000 in
theorem own_l9 (l : Launch) (Z : State) (a0 : Array Value) (hw : ∀ d ∈ tables_1, d.before a0 Z = true) (u0 u1 u2 : Addr) (G : own_St Z u0 u1 u2) (p1 : Int32) (p2 : Int32) (as3 : (p1 &&& (3 : Int32)) = (3 : Int32)) (as4 : ((p2 &&& (2147483647 : Int32)) - ((p2 &&& (2147483647 : Int32)) / (3 : Int32)) * (3 : Int32)) = (0 : Int32)) (h0 : Heap) (n0 : Nat) (O0 : Old Z n0 h0) : own_Met l Z x code maxLocals ret room_1 #[xi p1, xi p2] h0 (own_QL (some (xi (1 : Int32))) n0) := by
  intro ws
  refine MetFree.of_bodySF (plainFor_of_name pn2) hisR ?_
  intro p e s m args below meth c s₁ Bd hml0 hP hK
  obtain ⟨rfl, hZ, hh⟩ := hP
  have hx := Bd.exec
  have hby := Bd.bytes
  have hml : c.maxLocals = 9 := hml0
  have hown : s.vm.findClass "com/example/tidemark/tidemark/ChangeComposedPinLaw" = some m.cls := findClass_of_methodNamed Bd.named
  have hnm := (name_of_methodNamed Bd.named Bd.method).1
  have X0 : Stand p l e room_1 s m #[xi p1, xi p2] below meth c s₁ [] 0 0 := Stand.of_body Bd
  have e0 : s₁.heap = h0 := by rw [← hh, Bd.state]; rfl
  have N0 := Fr.nil n0
  have pre0 : ∀ t, Steps p.tables e below (s₁.setTop (mkF m 0 #[vi p1, vi p2, vu, vu, vu, vu, vu, vu, vu] [])) t → Steps p.tables e below (s₁.setTop (entryFrame m #[xi p1, xi p2] maxLocals)) t := fun t st => castTop (ef_own_l9 m u0 u1 u2 p1 p2) st
  obtain ⟨T1, h1, k1, X1, e1, E1, A1, Ov1, st1⟩ := newR X0 hx hZ hown (ww hw 0 rfl) (ww hw 1 rfl) e0 (g := (mkF m 1 #[vi p1, vi p2, vu, vu, vu, vu, vu, vu, vu] [xi (3 : Int32)])) rfl (hb hby at_1) rfl (by decide) (cap := 3) (by decide) (by decide) (by decide) (by decide)
  obtain ⟨b1, g1⟩ : ∃ z, z = h0.size := ⟨_, rfl⟩
  rw [← g1] at A1 st1
  have g_b1 : n0 ≤ b1 := own_fresh O0 g1
  have O1 : Old Z n0 h1 := O0.ext E1
  have V_b1 : Arv Z h1 b1 k1 (.object "com/example/tidemark/tidemark/Change") (3 : Int32) [.null, .null, .null] .null := (Arv.new A1 (by decide)).pad (pad_rep [] .null 3)
  obtain ⟨T2, X2, e2, st2⟩ := getS2 X1 hx hZ hown (host := "") (Or.inl (ww hw 2 rfl)) Via.refl e1 ((own_S_u0 G).ext O1.2) (g := (mkF m 6 #[vi p1, vi p2, vu, vu, vu, vu, vu, vu, vu] [xi (0 : Int32), xr b1, xr b1])) rfl (hb hby at_6)
  obtain ⟨cl3, Ar3, q3, S3, N3_, H3, G3⟩ := id V_b1
  have hin3 : ¬ ((0 : Int32) < 0 ∨ cl3.slots.size ≤ ((0 : Int32)).toNatClampNeg) := inb_of S3 ⟨by decide, by decide⟩
  obtain ⟨T4, h4, X4, e4, W4, st4⟩ := stR X2 hx hZ e2 Ar3 (j := (0 : Int32)) hin3 rfl (Sto.ofV Ar3 q3 Ov1 (Ins.self ((own_X_u0 G).ext O1.2))) (g := (mkF m 9 #[vi p1, vi p2, vu, vu, vu, vu, vu, vu, vu] [xr u0, xi (0 : Int32), xr b1, xr b1])) rfl rfl (hb hby at_9)
  have V_b1_4 : Arv Z h4 b1 k1 (.object "com/example/tidemark/tidemark/Change") (3 : Int32) [xr u0, .null, .null] .null := Arv.set Ar3 q3 S3 N3_ H3 G3 rfl W4 0 rfl (Nat.le_of_ble_eq_true rfl)
  have O4 : Old Z n0 h4 := O1.wr W4 g_b1
  have N4 := Fr.snoc X4 N0 g_b1
  obtain ⟨T5, X5, e5, st5⟩ := getS2 X4 hx hZ hown (host := "") (Or.inl (ww hw 6 rfl)) Via.refl e4 ((own_S_u1 G).ext O4.2) (g := (mkF m 12 #[vi p1, vi p2, vu, vu, vu, vu, vu, vu, vu] [xi (1 : Int32), xr b1, xr b1])) rfl (hb hby at_12)
  obtain ⟨cl6, Ar6, q6, S6, N6_, H6, G6⟩ := id V_b1_4
  have hin6 : ¬ ((1 : Int32) < 0 ∨ cl6.slots.size ≤ ((1 : Int32)).toNatClampNeg) := inb_of S6 ⟨by decide, by decide⟩
  obtain ⟨T7, h7, X7, e7, W7, st7⟩ := stR X5 hx hZ e5 Ar6 (j := (1 : Int32)) hin6 rfl (Sto.ofV Ar6 q6 Ov1 (Ins.self ((own_X_u1 G).ext O4.2))) (g := (mkF m 15 #[vi p1, vi p2, vu, vu, vu, vu, vu, vu, vu] [xr u1, xi (1 : Int32), xr b1, xr b1])) rfl rfl (hb hby at_15)
  have V_b1_7 : Arv Z h7 b1 k1 (.object "com/example/tidemark/tidemark/Change") (3 : Int32) [xr u0, xr u1, .null] .null := Arv.set Ar6 q6 S6 N6_ H6 G6 rfl W7 1 rfl (Nat.le_of_ble_eq_true rfl)
  have O7 : Old Z n0 h7 := O4.wr W7 g_b1
  have N7 := Fr.snoc X7 N4 g_b1
  obtain ⟨T8, X8, e8, st8⟩ := getS2 X7 hx hZ hown (host := "") (Or.inl (ww hw 8 rfl)) Via.refl e7 ((own_S_u2 G).ext O7.2) (g := (mkF m 18 #[vi p1, vi p2, vu, vu, vu, vu, vu, vu, vu] [xi (2 : Int32), xr b1, xr b1])) rfl (hb hby at_18)
  obtain ⟨cl9, Ar9, q9, S9, N9_, H9, G9⟩ := id V_b1_7
  have hin9 : ¬ ((2 : Int32) < 0 ∨ cl9.slots.size ≤ ((2 : Int32)).toNatClampNeg) := inb_of S9 ⟨by decide, by decide⟩
  obtain ⟨T10, h10, X10, e10, W10, st10⟩ := stR X8 hx hZ e8 Ar9 (j := (2 : Int32)) hin9 rfl (Sto.ofV Ar9 q9 Ov1 (Ins.self ((own_X_u2 G).ext O7.2))) (g := (mkF m 21 #[vi p1, vi p2, vu, vu, vu, vu, vu, vu, vu] [xr u2, xi (2 : Int32), xr b1, xr b1])) rfl rfl (hb hby at_21)
  have V_b1_10 : Arv Z h10 b1 k1 (.object "com/example/tidemark/tidemark/Change") (3 : Int32) [xr u0, xr u1, xr u2] .null := Arv.set Ar9 q9 S9 N9_ H9 G9 rfl W10 2 rfl (Nat.le_of_ble_eq_true rfl)
  have O10 : Old Z n0 h10 := O7.wr W10 g_b1
  have N10 := Fr.snoc X10 N7 g_b1
  obtain ⟨cl11, Ar11, q11, S11, N11_, H11, G11⟩ := id V_b1_10
  have hin11 : ¬ ((0 : Int32) < 0 ∨ cl11.slots.size ≤ ((0 : Int32)).toNatClampNeg) := inb_of S11 ⟨by decide, by decide⟩
  have hat11 : cl11.slots[((0 : Int32)).toNatClampNeg]? = some (xr u0) := Has.at H11 hin11 rfl
  obtain ⟨_, _, ⟨T12, L12, k12, n12⟩, -, X12, ⟨Lc12, hQ12, l12, y12, z12⟩, st12⟩ := Jvm.LawKit.callS X10 hx (y := Y0) hown (mvT hZ (ww hw 11 rfl)) (mvT hZ (ww hw 12 rfl)) (mvT hZ (ww hw 3 rfl)) (mvT hZ (ww hw 13 rfl)) (by decide) (backOf (W := 0) (own_c26_composed l Z a0 hw u0 u1 u2 G h10 n0 O10 []) hZ (ww hw 13 rfl) (ww hw 3 rfl) (by decide) (by decide)) (g := (mkF m 55 #[vi p1, vi p2, vr b1, vi (3 : Int32), vn, vr u0, vu, vu, vu] [xr u0, .null])) rfl (by rw [hml]; rfl) (argsL := [.null, xr u0]) (rest := []) (lenOf pd0 rfl) rfl (by show 2 * 0 + _ ≤ _; exact Nat.le_of_eq rfl) (hb hby at_55) (fun _ _ => ⟨rfl, e10, (by decide : 1 + 0 ≤ _), (by decide : 3 + 0 ≤ _)⟩)
  dsimp only [Pt.U, Pt.locs, Pt.cells, Pt.slots] at X12 l12 y12 z12 st12 hQ12
  subst l12 y12 z12
  obtain ⟨rfl, Nq12, e12⟩ := hQ12
  have N12 := Fr.app N10 Nq12
  obtain ⟨_, _, ⟨T13, L13, k13, n13⟩, -, X13, ⟨Lc13, hQ13, l13, y13, z13⟩, st13⟩ := Jvm.LawKit.callS X12 hx (y := Y4) hown (mvT hZ (ww hw 15 rfl)) (mvT hZ (ww hw 16 rfl)) (mvT hZ (ww hw 17 rfl)) (mvT hZ (ww hw 18 rfl)) (by decide) (backOf (W := 0) (own_c1_apply l Z a0 hw u0 u1 u2 G h10 n0 O10 []) hZ (ww hw 18 rfl) (ww hw 17 rfl) (by decide) (by decide)) (g := (mkF m 63 #[vi p1, vi p2, vr b1, vi (3 : Int32), vn, vr u0, vr u0, vu, vu] [xi (0 : Int32), xr u0])) rfl (by rw [hml]; rfl) (argsL := [xr u0, xi (0 : Int32)]) (rest := []) (lenOf pd3 rfl) rfl (by show 2 * 0 + _ ≤ _; exact Nat.le_of_eq rfl) (hb hby at_63) (fun _ _ => ⟨rfl, e12, (by decide : 1 + 0 ≤ _), (by decide : 3 + 0 ≤ _)⟩)
  dsimp only [Pt.U, Pt.locs, Pt.cells, Pt.slots] at X13 l13 y13 z13 st13 hQ13
  subst l13 y13 z13
  obtain ⟨rfl, Nq13, e13⟩ := hQ13
  have N13 := Fr.app N12 Nq13
  obtain ⟨_, _, ⟨T14, L14, k14, n14⟩, -, X14, ⟨Lc14, hQ14, l14, y14, z14⟩, st14⟩ := Jvm.LawKit.callS X13 hx (y := Y4) hown (mvT hZ (ww hw 15 rfl)) (mvT hZ (ww hw 16 rfl)) (mvT hZ (ww hw 17 rfl)) (mvT hZ (ww hw 18 rfl)) (by decide) (backOf (W := 2) (own_c24_apply l Z a0 hw u0 u1 u2 G h10 n0 O10 []) hZ (ww hw 18 rfl) (ww hw 17 rfl) (by decide) (by decide)) (g := (mkF m 71 #[vi p1, vi p2, vr b1, vi (3 : Int32), vn, vr u0, vr u0, vu, vu] [xi (0 : Int32), .null, xr u0, xi (1 : Int32)])) rfl (by rw [hml]; rfl) (argsL := [.null, xi (0 : Int32)]) (rest := [xr u0, xi (1 : Int32)]) (lenOf pd3 rfl) rfl (by show 2 * 0 + _ ≤ _; exact Nat.le_of_eq rfl) (hb hby at_71) (fun _ _ => ⟨rfl, e13, (by decide : 1 + 0 ≤ _), (by decide : 3 + 0 ≤ _)⟩)
  dsimp only [Pt.U, Pt.locs, Pt.cells, Pt.slots] at X14 l14 y14 z14 st14 hQ14
  subst l14 y14 z14
  obtain ⟨rfl, Nq14, e14⟩ := hQ14
  have N14 := Fr.app N13 Nq14
  obtain ⟨_, _, ⟨T15, L15, k15, n15⟩, -, X15, ⟨Lc15, hQ15, l15, y15, z15⟩, st15⟩ := Jvm.LawKit.callS X14 hx (y := Y4) hown (mvT hZ (ww hw 15 rfl)) (mvT hZ (ww hw 16 rfl)) (mvT hZ (ww hw 17 rfl)) (mvT hZ (ww hw 18 rfl)) (by decide) (backOf (W := 1) (own_c1_apply l Z a0 hw u0 u1 u2 G h10 n0 O10 []) hZ (ww hw 18 rfl) (ww hw 17 rfl) (by decide) (by decide)) (g := (mkF m 74 #[vi p1, vi p2, vr b1, vi (3 : Int32), vn, vr u0, vr u0, vu, vu] [xi (0 : Int32), xr u0, xi (1 : Int32)])) rfl (by rw [hml]; rfl) (argsL := [xr u0, xi (0 : Int32)]) (rest := [xi (1 : Int32)]) (lenOf pd3 rfl) rfl (by show 2 * 0 + _ ≤ _; exact Nat.le_of_eq rfl) (hb hby at_74) (fun _ _ => ⟨rfl, e14, (by decide : 1 + 0 ≤ _), (by decide : 3 + 0 ≤ _)⟩)
  dsimp only [Pt.U, Pt.locs, Pt.cells, Pt.slots] at X15 l15 y15 z15 st15 hQ15
  subst l15 y15 z15
  obtain ⟨rfl, Nq15, e15⟩ := hQ15
  have N15 := Fr.app N14 Nq15
  obtain ⟨_, _, ⟨T16, L16, k16, n16⟩, -, X16, ⟨Lc16, hQ16, l16, y16, z16⟩, st16⟩ := Jvm.LawKit.callS X15 hx (y := Y4) hown (mvT hZ (ww hw 15 rfl)) (mvT hZ (ww hw 16 rfl)) (mvT hZ (ww hw 17 rfl)) (mvT hZ (ww hw 18 rfl)) (by decide) (backOf (W := 0) (own_c4_apply l Z a0 hw u0 u1 u2 G h10 n0 O10 []) hZ (ww hw 18 rfl) (ww hw 17 rfl) (by decide) (by decide)) (g := (mkF m 90 #[vi p1, vi p2, vr b1, vi (3 : Int32), vn, vr u0, vr u0, vi (1 : Int32), vu] [xi (1 : Int32), xr u0])) rfl (by rw [hml]; rfl) (argsL := [xr u0, xi (1 : Int32)]) (rest := []) (lenOf pd3 rfl) rfl (by show 2 * 0 + _ ≤ _; exact Nat.le_of_eq rfl) (hb hby at_90) (fun _ _ => ⟨rfl, e15, (by decide : 1 + 0 ≤ _), (by decide : 3 + 0 ≤ _)⟩)
  dsimp only [Pt.U, Pt.locs, Pt.cells, Pt.slots] at X16 l16 y16 z16 st16 hQ16
  subst l16 y16 z16
  obtain ⟨rfl, Nq16, e16⟩ := hQ16
  have N16 := Fr.app N15 Nq16
  obtain ⟨_, _, ⟨T17, L17, k17, n17⟩, -, X17, ⟨Lc17, hQ17, l17, y17, z17⟩, st17⟩ := Jvm.LawKit.callS X16 hx (y := Y4) hown (mvT hZ (ww hw 15 rfl)) (mvT hZ (ww hw 16 rfl)) (mvT hZ (ww hw 17 rfl)) (mvT hZ (ww hw 18 rfl)) (by decide) (backOf (W := 2) (own_c25_apply l Z a0 hw u0 u1 u2 G h10 n0 O10 []) hZ (ww hw 18 rfl) (ww hw 17 rfl) (by decide) (by decide)) (g := (mkF m 98 #[vi p1, vi p2, vr b1, vi (3 : Int32), vn, vr u0, vr u0, vi (1 : Int32), vu] [xi (1 : Int32), .null, xr u0, xi (1 : Int32)])) rfl (by rw [hml]; rfl) (argsL := [.null, xi (1 : Int32)]) (rest := [xr u0, xi (1 : Int32)]) (lenOf pd3 rfl) rfl (by show 2 * 0 + _ ≤ _; exact Nat.le_of_eq rfl) (hb hby at_98) (fun _ _ => ⟨rfl, e16, (by decide : 1 + 0 ≤ _), (by decide : 3 + 0 ≤ _)⟩)
  dsimp only [Pt.U, Pt.locs, Pt.cells, Pt.slots] at X17 l17 y17 z17 st17 hQ17
  subst l17 y17 z17
  obtain ⟨rfl, Nq17, e17⟩ := hQ17
  have N17 := Fr.app N16 Nq17
  obtain ⟨_, _, ⟨T18, L18, k18, n18⟩, -, X18, ⟨Lc18, hQ18, l18, y18, z18⟩, st18⟩ := Jvm.LawKit.callS X17 hx (y := Y4) hown (mvT hZ (ww hw 15 rfl)) (mvT hZ (ww hw 16 rfl)) (mvT hZ (ww hw 17 rfl)) (mvT hZ (ww hw 18 rfl)) (by decide) (backOf (W := 1) (own_c4_apply l Z a0 hw u0 u1 u2 G h10 n0 O10 []) hZ (ww hw 18 rfl) (ww hw 17 rfl) (by decide) (by decide)) (g := (mkF m 101 #[vi p1, vi p2, vr b1, vi (3 : Int32), vn, vr u0, vr u0, vi (1 : Int32), vu] [xi (1 : Int32), xr u0, xi (1 : Int32)])) rfl (by rw [hml]; rfl) (argsL := [xr u0, xi (1 : Int32)]) (rest := [xi (1 : Int32)]) (lenOf pd3 rfl) rfl (by show 2 * 0 + _ ≤ _; exact Nat.le_of_eq rfl) (hb hby at_101) (fun _ _ => ⟨rfl, e17, (by decide : 1 + 0 ≤ _), (by decide : 3 + 0 ≤ _)⟩)
  dsimp only [Pt.U, Pt.locs, Pt.cells, Pt.slots] at X18 l18 y18 z18 st18 hQ18
  subst l18 y18 z18
  obtain ⟨rfl, Nq18, e18⟩ := hQ18
  have N18 := Fr.app N17 Nq18
  obtain ⟨fs, hr, hrun, hended, hW, hsame⟩ := X18.leave (v := some (xi (1 : Int32))) (fun h => by rw [Bd.returns] at h; cases h)
  refine ⟨_, _, pre0 _ ?_, hrun, hended, _, _, rfl, ?_, ⟨_, rfl⟩, hW, hsame.mono (by decide) (by decide)⟩
  · show own_S p e below s₁ (mkF m 0 #[vi p1, vi p2, vu, vu, vu, vu, vu, vu, vu] []) _
    refine XS.iconst X0.here hx rfl (hb hby at_0) ?_
    show own_S p e below s₁ (mkF m 1 #[vi p1, vi p2, vu, vu, vu, vu, vu, vu, vu] [xi (3 : Int32)]) _
    refine st1 _ ?_
    show own_S p e below T1 (mkF m 4 #[vi p1, vi p2, vu, vu, vu, vu, vu, vu, vu] [xr b1]) _
    refine XS.dup X1.here hx rfl (hb hby at_4) rfl rfl ?_
    show own_S p e below T1 (mkF m 5 #[vi p1, vi p2, vu, vu, vu, vu, vu, vu, vu] [xr b1, xr b1]) _
    refine XS.iconst X1.here hx rfl (hb hby at_5) ?_
    show own_S p e below T1 (mkF m 6 #[vi p1, vi p2, vu, vu, vu, vu, vu, vu, vu] [xi (0 : Int32), xr b1, xr b1]) _
    refine st2 _ ?_
    show own_S p e below T2 (mkF m 9 #[vi p1, vi p2, vu, vu, vu, vu, vu, vu, vu] [xr u0, xi (0 : Int32), xr b1, xr b1]) _
    refine st4 _ ?_
    show own_S p e below T4 (mkF m 10 #[vi p1, vi p2, vu, vu, vu, vu, vu, vu, vu] [xr b1]) _
    refine XS.dup X4.here hx rfl (hb hby at_10) rfl rfl ?_
    show own_S p e below T4 (mkF m 11 #[vi p1, vi p2, vu, vu, vu, vu, vu, vu, vu] [xr b1, xr b1]) _
    refine XS.iconst X4.here hx rfl (hb hby at_11) ?_
    show own_S p e below T4 (mkF m 12 #[vi p1, vi p2, vu, vu, vu, vu, vu, vu, vu] [xi (1 : Int32), xr b1, xr b1]) _
    refine st5 _ ?_
    show own_S p e below T5 (mkF m 15 #[vi p1, vi p2, vu, vu, vu, vu, vu, vu, vu] [xr u1, xi (1 : Int32), xr b1, xr b1]) _
    refine st7 _ ?_
    show own_S p e below T7 (mkF m 16 #[vi p1, vi p2, vu, vu, vu, vu, vu, vu, vu] [xr b1]) _
    refine XS.dup X7.here hx rfl (hb hby at_16) rfl rfl ?_
    show own_S p e below T7 (mkF m 17 #[vi p1, vi p2, vu, vu, vu, vu, vu, vu, vu] [xr b1, xr b1]) _
    refine XS.iconst X7.here hx rfl (hb hby at_17) ?_
    show own_S p e below T7 (mkF m 18 #[vi p1, vi p2, vu, vu, vu, vu, vu, vu, vu] [xi (2 : Int32), xr b1, xr b1]) _
    refine st8 _ ?_
    show own_S p e below T8 (mkF m 21 #[vi p1, vi p2, vu, vu, vu, vu, vu, vu, vu] [xr u2, xi (2 : Int32), xr b1, xr b1]) _
    refine st10 _ ?_
    show own_S p e below T10 (mkF m 22 #[vi p1, vi p2, vu, vu, vu, vu, vu, vu, vu] [xr b1]) _
    refine XS.astoreN X10.here hx rfl (hb hby at_22) rfl rfl (l' := #[vi p1, vi p2, vr b1, vu, vu, vu, vu, vu, vu]) rfl ?_
    show own_S p e below T10 (mkF m 23 #[vi p1, vi p2, vr b1, vu, vu, vu, vu, vu, vu] []) _
    refine XS.iloadN X10.here hx rfl (hb hby at_23) rfl ?_
    show own_S p e below T10 (mkF m 24 #[vi p1, vi p2, vr b1, vu, vu, vu, vu, vu, vu] [xi p1]) _
    refine XS.iconst X10.here hx rfl (hb hby at_24) ?_
    show own_S p e below T10 (mkF m 25 #[vi p1, vi p2, vr b1, vu, vu, vu, vu, vu, vu] [xi (3 : Int32), xi p1]) _
    refine XS.iand X10.here hx rfl (hb hby at_25) rfl ?_
    show own_S p e below T10 (mkF m 26 #[vi p1, vi p2, vr b1, vu, vu, vu, vu, vu, vu] [xi (p1 &&& (3 : Int32))]) _
    refine castTop (show (mkF m 26 #[vi p1, vi p2, vr b1, vu, vu, vu, vu, vu, vu] [xi (p1 &&& (3 : Int32))]) = (mkF m 26 #[vi p1, vi p2, vr b1, vu, vu, vu, vu, vu, vu] [xi (3 : Int32)]) from by rw [as3]) ?_
    show own_S p e below T10 (mkF m 26 #[vi p1, vi p2, vr b1, vu, vu, vu, vu, vu, vu] [xi (3 : Int32)]) _
    refine XS.istoreN X10.here hx rfl (hb hby at_26) rfl (l' := #[vi p1, vi p2, vr b1, vi (3 : Int32), vu, vu, vu, vu, vu]) rfl ?_
    show own_S p e below T10 (mkF m 27 #[vi p1, vi p2, vr b1, vi (3 : Int32), vu, vu, vu, vu, vu] []) _
    refine XS.iloadN X10.here hx rfl (hb hby at_27) rfl ?_
    show own_S p e below T10 (mkF m 28 #[vi p1, vi p2, vr b1, vi (3 : Int32), vu, vu, vu, vu, vu] [xi (3 : Int32)]) _
    refine XS.iconst X10.here hx rfl (hb hby at_28) ?_
    show own_S p e below T10 (mkF m 29 #[vi p1, vi p2, vr b1, vi (3 : Int32), vu, vu, vu, vu, vu] [xi (3 : Int32), xi (3 : Int32)]) _
    refine XS.icmpNo X10.here hx rfl (hb hby at_29) rfl (by decide) ?_
    show own_S p e below T10 (mkF m 32 #[vi p1, vi p2, vr b1, vi (3 : Int32), vu, vu, vu, vu, vu] []) _
    refine XS.aconstNull X10.here hx rfl (hb hby at_32) ?_
    show own_S p e below T10 (mkF m 33 #[vi p1, vi p2, vr b1, vi (3 : Int32), vu, vu, vu, vu, vu] [.null]) _
    refine XS.goto X10.here hx rfl (pc0 := 33) (pc' := 39) rfl (hb hby at_33) (by decide) (by decide) ?_
    show own_S p e below T10 (mkF m 39 #[vi p1, vi p2, vr b1, vi (3 : Int32), vu, vu, vu, vu, vu] [.null]) _
    refine XS.astore X10.here hx rfl (hb hby at_39) rfl rfl (l' := #[vi p1, vi p2, vr b1, vi (3 : Int32), vn, vu, vu, vu, vu]) rfl ?_
    show own_S p e below T10 (mkF m 41 #[vi p1, vi p2, vr b1, vi (3 : Int32), vn, vu, vu, vu, vu] []) _
    refine XS.aloadN X10.here hx rfl (hb hby at_41) rfl rfl ?_
    show own_S p e below T10 (mkF m 42 #[vi p1, vi p2, vr b1, vi (3 : Int32), vn, vu, vu, vu, vu] [xr b1]) _
    refine XS.iloadN X10.here hx rfl (hb hby at_42) rfl ?_
    show own_S p e below T10 (mkF m 43 #[vi p1, vi p2, vr b1, vi (3 : Int32), vn, vu, vu, vu, vu] [xi p2, xr b1]) _
    refine X10.ldcI hx hown (mvT hZ (ww hw 10 rfl)) (g := (mkF m 43 #[vi p1, vi p2, vr b1, vi (3 : Int32), vn, vu, vu, vu, vu] [xi p2, xr b1])) rfl (hb hby at_43) ?_
    show own_S p e below T10 (mkF m 45 #[vi p1, vi p2, vr b1, vi (3 : Int32), vn, vu, vu, vu, vu] [xi (2147483647 : Int32), xi p2, xr b1]) _
    refine XS.iand X10.here hx rfl (hb hby at_45) rfl ?_
    show own_S p e below T10 (mkF m 46 #[vi p1, vi p2, vr b1, vi (3 : Int32), vn, vu, vu, vu, vu] [xi (p2 &&& (2147483647 : Int32)), xr b1]) _
    show own_S p e below T10 (mkF m 46 #[vi p1, vi p2, vr b1, vi (3 : Int32), vn, vu, vu, vu, vu] [xi (p2 &&& (2147483647 : Int32)), xr b1]) _
    refine XS.iconst X10.here hx rfl (hb hby at_46) ?_
    show own_S p e below T10 (mkF m 47 #[vi p1, vi p2, vr b1, vi (3 : Int32), vn, vu, vu, vu, vu] [xi (3 : Int32), xi (p2 &&& (2147483647 : Int32)), xr b1]) _
    refine XS.irem X10.here hx rfl (hb hby at_47) rfl (by decide) ?_
    show own_S p e below T10 (mkF m 48 #[vi p1, vi p2, vr b1, vi (3 : Int32), vn, vu, vu, vu, vu] [xi ((p2 &&& (2147483647 : Int32)) - ((p2 &&& (2147483647 : Int32)) / (3 : Int32)) * (3 : Int32)), xr b1]) _
    refine castTop (show (mkF m 48 #[vi p1, vi p2, vr b1, vi (3 : Int32), vn, vu, vu, vu, vu] [xi ((p2 &&& (2147483647 : Int32)) - ((p2 &&& (2147483647 : Int32)) / (3 : Int32)) * (3 : Int32)), xr b1]) = (mkF m 48 #[vi p1, vi p2, vr b1, vi (3 : Int32), vn, vu, vu, vu, vu] [xi (0 : Int32), xr b1]) from by rw [as4]) ?_
    show own_S p e below T10 (mkF m 48 #[vi p1, vi p2, vr b1, vi (3 : Int32), vn, vu, vu, vu, vu] [xi (0 : Int32), xr b1]) _
    refine X10.aaload hx (j := (0 : Int32)) (v := (xr u0)) (by rw [e10]; exact Ar11.1) (State.isArrayOf_alike hZ.alike Ar11.2.1) rfl Ar11.2.2 hin11 hat11 (g := (mkF m 48 #[vi p1, vi p2, vr b1, vi (3 : Int32), vn, vu, vu, vu, vu] [xi (0 : Int32), xr b1])) rfl rfl (hb hby at_48) _ ?_
    show own_S p e below T10 (mkF m 49 #[vi p1, vi p2, vr b1, vi (3 : Int32), vn, vu, vu, vu, vu] [xr u0]) _
    refine XS.astore X10.here hx rfl (hb hby at_49) rfl rfl (l' := #[vi p1, vi p2, vr b1, vi (3 : Int32), vn, vr u0, vu, vu, vu]) rfl ?_
    show own_S p e below T10 (mkF m 51 #[vi p1, vi p2, vr b1, vi (3 : Int32), vn, vr u0, vu, vu, vu] []) _
    refine XS.aload X10.here hx rfl (hb hby at_51) rfl rfl ?_
    show own_S p e below T10 (mkF m 53 #[vi p1, vi p2, vr b1, vi (3 : Int32), vn, vr u0, vu, vu, vu] [.null]) _
    refine XS.aload X10.here hx rfl (hb hby at_53) rfl rfl ?_
    show own_S p e below T10 (mkF m 55 #[vi p1, vi p2, vr b1, vi (3 : Int32), vn, vr u0, vu, vu, vu] [xr u0, .null]) _
    refine st12 _ ?_
    show own_S p e below T12 (mkF m 58 #[vi p1, vi p2, vr b1, vi (3 : Int32), vn, vr u0, vu, vu, vu] [xr u0]) _
    refine XS.astore X12.here hx rfl (hb hby at_58) rfl rfl (l' := #[vi p1, vi p2, vr b1, vi (3 : Int32), vn, vr u0, vr u0, vu, vu]) rfl ?_
    show own_S p e below T12 (mkF m 60 #[vi p1, vi p2, vr b1, vi (3 : Int32), vn, vr u0, vr u0, vu, vu] []) _
    refine XS.aload X12.here hx rfl (hb hby at_60) rfl rfl ?_
    show own_S p e below T12 (mkF m 62 #[vi p1, vi p2, vr b1, vi (3 : Int32), vn, vr u0, vr u0, vu, vu] [xr u0]) _
    refine XS.iconst X12.here hx rfl (hb hby at_62) ?_
    show own_S p e below T12 (mkF m 63 #[vi p1, vi p2, vr b1, vi (3 : Int32), vn, vr u0, vr u0, vu, vu] [xi (0 : Int32), xr u0]) _
    refine st13 _ ?_
    show own_S p e below T13 (mkF m 66 #[vi p1, vi p2, vr b1, vi (3 : Int32), vn, vr u0, vr u0, vu, vu] [xi (1 : Int32)]) _
    refine XS.aload X13.here hx rfl (hb hby at_66) rfl rfl ?_
    show own_S p e below T13 (mkF m 68 #[vi p1, vi p2, vr b1, vi (3 : Int32), vn, vr u0, vr u0, vu, vu] [xr u0, xi (1 : Int32)]) _
    refine XS.aload X13.here hx rfl (hb hby at_68) rfl rfl ?_
    show own_S p e below T13 (mkF m 70 #[vi p1, vi p2, vr b1, vi (3 : Int32), vn, vr u0, vr u0, vu, vu] [.null, xr u0, xi (1 : Int32)]) _
    refine XS.iconst X13.here hx rfl (hb hby at_70) ?_
    show own_S p e below T13 (mkF m 71 #[vi p1, vi p2, vr b1, vi (3 : Int32), vn, vr u0, vr u0, vu, vu] [xi (0 : Int32), .null, xr u0, xi (1 : Int32)]) _
    refine st14 _ ?_
    show own_S p e below T14 (mkF m 74 #[vi p1, vi p2, vr b1, vi (3 : Int32), vn, vr u0, vr u0, vu, vu] [xi (0 : Int32), xr u0, xi (1 : Int32)]) _
    refine st15 _ ?_
    show own_S p e below T15 (mkF m 77 #[vi p1, vi p2, vr b1, vi (3 : Int32), vn, vr u0, vr u0, vu, vu] [xi (1 : Int32), xi (1 : Int32)]) _
    refine XS.icmpNo X15.here hx rfl (hb hby at_77) rfl (by decide) ?_
    show own_S p e below T15 (mkF m 80 #[vi p1, vi p2, vr b1, vi (3 : Int32), vn, vr u0, vr u0, vu, vu] []) _
    refine XS.iconst X15.here hx rfl (hb hby at_80) ?_
    show own_S p e below T15 (mkF m 81 #[vi p1, vi p2, vr b1, vi (3 : Int32), vn, vr u0, vr u0, vu, vu] [xi (1 : Int32)]) _
    refine XS.goto X15.here hx rfl (pc0 := 81) (pc' := 85) rfl (hb hby at_81) (by decide) (by decide) ?_
    show own_S p e below T15 (mkF m 85 #[vi p1, vi p2, vr b1, vi (3 : Int32), vn, vr u0, vr u0, vu, vu] [xi (1 : Int32)]) _
    refine XS.istore X15.here hx rfl (hb hby at_85) rfl (l' := #[vi p1, vi p2, vr b1, vi (3 : Int32), vn, vr u0, vr u0, vi (1 : Int32), vu]) rfl ?_
    show own_S p e below T15 (mkF m 87 #[vi p1, vi p2, vr b1, vi (3 : Int32), vn, vr u0, vr u0, vi (1 : Int32), vu] []) _
    refine XS.aload X15.here hx rfl (hb hby at_87) rfl rfl ?_
    show own_S p e below T15 (mkF m 89 #[vi p1, vi p2, vr b1, vi (3 : Int32), vn, vr u0, vr u0, vi (1 : Int32), vu] [xr u0]) _
    refine XS.iconst X15.here hx rfl (hb hby at_89) ?_
    show own_S p e below T15 (mkF m 90 #[vi p1, vi p2, vr b1, vi (3 : Int32), vn, vr u0, vr u0, vi (1 : Int32), vu] [xi (1 : Int32), xr u0]) _
    refine st16 _ ?_
    show own_S p e below T16 (mkF m 93 #[vi p1, vi p2, vr b1, vi (3 : Int32), vn, vr u0, vr u0, vi (1 : Int32), vu] [xi (1 : Int32)]) _
    refine XS.aload X16.here hx rfl (hb hby at_93) rfl rfl ?_
    show own_S p e below T16 (mkF m 95 #[vi p1, vi p2, vr b1, vi (3 : Int32), vn, vr u0, vr u0, vi (1 : Int32), vu] [xr u0, xi (1 : Int32)]) _
    refine XS.aload X16.here hx rfl (hb hby at_95) rfl rfl ?_
    show own_S p e below T16 (mkF m 97 #[vi p1, vi p2, vr b1, vi (3 : Int32), vn, vr u0, vr u0, vi (1 : Int32), vu] [.null, xr u0, xi (1 : Int32)]) _
    refine XS.iconst X16.here hx rfl (hb hby at_97) ?_
    show own_S p e below T16 (mkF m 98 #[vi p1, vi p2, vr b1, vi (3 : Int32), vn, vr u0, vr u0, vi (1 : Int32), vu] [xi (1 : Int32), .null, xr u0, xi (1 : Int32)]) _
    refine st17 _ ?_
    show own_S p e below T17 (mkF m 101 #[vi p1, vi p2, vr b1, vi (3 : Int32), vn, vr u0, vr u0, vi (1 : Int32), vu] [xi (1 : Int32), xr u0, xi (1 : Int32)]) _
    refine st18 _ ?_
    show own_S p e below T18 (mkF m 104 #[vi p1, vi p2, vr b1, vi (3 : Int32), vn, vr u0, vr u0, vi (1 : Int32), vu] [xi (1 : Int32), xi (1 : Int32)]) _
    refine XS.icmpNo X18.here hx rfl (hb hby at_104) rfl (by decide) ?_
    show own_S p e below T18 (mkF m 107 #[vi p1, vi p2, vr b1, vi (3 : Int32), vn, vr u0, vr u0, vi (1 : Int32), vu] []) _
    refine XS.iconst X18.here hx rfl (hb hby at_107) ?_
    show own_S p e below T18 (mkF m 108 #[vi p1, vi p2, vr b1, vi (3 : Int32), vn, vr u0, vr u0, vi (1 : Int32), vu] [xi (1 : Int32)]) _
    refine XS.goto X18.here hx rfl (pc0 := 108) (pc' := 112) rfl (hb hby at_108) (by decide) (by decide) ?_
    show own_S p e below T18 (mkF m 112 #[vi p1, vi p2, vr b1, vi (3 : Int32), vn, vr u0, vr u0, vi (1 : Int32), vu] [xi (1 : Int32)]) _
    refine XS.istore X18.here hx rfl (hb hby at_112) rfl (l' := #[vi p1, vi p2, vr b1, vi (3 : Int32), vn, vr u0, vr u0, vi (1 : Int32), vi (1 : Int32)]) rfl ?_
    show own_S p e below T18 (mkF m 114 #[vi p1, vi p2, vr b1, vi (3 : Int32), vn, vr u0, vr u0, vi (1 : Int32), vi (1 : Int32)] []) _
    refine XS.iload X18.here hx rfl (hb hby at_114) rfl ?_
    show own_S p e below T18 (mkF m 116 #[vi p1, vi p2, vr b1, vi (3 : Int32), vn, vr u0, vr u0, vi (1 : Int32), vi (1 : Int32)] [xi (1 : Int32)]) _
    refine XS.ifNo X18.here hx rfl (hb hby at_116) rfl (by decide) ?_
    show own_S p e below T18 (mkF m 119 #[vi p1, vi p2, vr b1, vi (3 : Int32), vn, vr u0, vr u0, vi (1 : Int32), vi (1 : Int32)] []) _
    refine XS.iload X18.here hx rfl (hb hby at_119) rfl ?_
    show own_S p e below T18 (mkF m 121 #[vi p1, vi p2, vr b1, vi (3 : Int32), vn, vr u0, vr u0, vi (1 : Int32), vi (1 : Int32)] [xi (1 : Int32)]) _
    refine XS.ifNo X18.here hx rfl (hb hby at_121) rfl (by decide) ?_
    show own_S p e below T18 (mkF m 124 #[vi p1, vi p2, vr b1, vi (3 : Int32), vn, vr u0, vr u0, vi (1 : Int32), vi (1 : Int32)] []) _
    refine XS.iconst X18.here hx rfl (hb hby at_124) ?_
    show own_S p e below T18 (mkF m 125 #[vi p1, vi p2, vr b1, vi (3 : Int32), vn, vr u0, vr u0, vi (1 : Int32), vi (1 : Int32)] [xi (1 : Int32)]) _
    refine XS.goto X18.here hx rfl (pc0 := 125) (pc' := 129) rfl (hb hby at_125) (by decide) (by decide) ?_
    show own_S p e below T18 (mkF m 129 #[vi p1, vi p2, vr b1, vi (3 : Int32), vn, vr u0, vr u0, vi (1 : Int32), vi (1 : Int32)] [xi (1 : Int32)]) _
    exact retN X18 hx (t := .boolean) Bd.returns (by simp) (hb hby at_129) hr
  · exact ⟨rfl, N18⟩
theorem ef_own_c27_composed (m : MethodId) (u0 u1 u2 : Addr) : entryFrame m #[.null, xr u1] 3 = (mkF m 0 #[vn, vr u1, vu] []) := by first | (simp [entryFrame, mkF, argsToLocals, Value.category]; done) | rfl
set_option maxRecDepth 65536 in
set_option maxHeartbeats 40000000 in
theorem own_c27_composed (l : Launch) (Z : State) (a0 : Array Value) (hw : ∀ d ∈ tables_1, d.before a0 Z = true) (u0 u1 u2 : Addr) (G : own_St Z u0 u1 u2) (h0 : Heap) (n0 : Nat) (O0 : Old Z n0 h0) : own_Met l Z Y0 prog_1_method_7_code 3 (some (.object "com/example/tidemark/tidemark/Change")) ({ frames := 0, cells := 0, slots := 0, locals := 0 } : Room) #[.null, xr u1] h0 (own_QR (some (xr u1)) h0 n0) := by
  intro ws
  refine MetFree.of_bodySF (plainFor_of_name pn0) hisR ?_
  intro p e s m args below meth c s₁ Bd hml0 hP hK
  obtain ⟨rfl, hZ, hh⟩ := hP
  have hx := Bd.exec
  have hby := Bd.bytes
  have hml : c.maxLocals = 3 := hml0
  have hown : s.vm.findClass "com/example/tidemark/tidemark/Change" = some m.cls := findClass_of_methodNamed Bd.named
  have hnm := (name_of_methodNamed Bd.named Bd.method).1
  have X0 : Stand p l e ({ frames := 0, cells := 0, slots := 0, locals := 0 } : Room) s m #[.null, xr u1] below meth c s₁ [] 0 0 := Stand.of_body Bd
  have e0 : s₁.heap = h0 := by rw [← hh, Bd.state]; rfl
  have N0 := Fr.nil n0
  have pre0 : ∀ t, Steps p.tables e below (s₁.setTop (mkF m 0 #[vn, vr u1, vu] [])) t → Steps p.tables e below (s₁.setTop (entryFrame m #[.null, xr u1] 3)) t := fun t st => castTop (ef_own_c27_composed m u0 u1 u2) st
  obtain ⟨T1, X1, e1, st1⟩ := getS2 X0 hx hZ hown (host := "") (Or.inl (ww hw 14 rfl)) Via.refl e0 ((own_S_u2 G).ext O0.2) (g := (mkF m 3 #[vn, vr u1, vr u1] [xr u1])) rfl (hb hby d1_3)
  obtain ⟨fs, hr, hrun, hended, hW, hsame⟩ := X1.leave (v := some (xr u1)) (fun h => by rw [Bd.returns] at h; cases h)
  refine ⟨_, _, pre0 _ ?_, hrun, hended, _, _, rfl, ?_, ⟨_, rfl⟩, hW, hsame.mono (by decide) (by decide)⟩
  · show own_S p e below s₁ (mkF m 0 #[vn, vr u1, vu] []) _
    refine XS.aloadN X0.here hx rfl (hb hby d1_0) rfl rfl ?_
    show own_S p e below s₁ (mkF m 1 #[vn, vr u1, vu] [xr u1]) _
    refine XS.astoreN X0.here hx rfl (hb hby d1_1) rfl rfl (l' := #[vn, vr u1, vr u1]) rfl ?_
    show own_S p e below s₁ (mkF m 2 #[vn, vr u1, vr u1] []) _
    refine XS.aloadN X0.here hx rfl (hb hby d1_2) rfl rfl ?_
    show own_S p e below s₁ (mkF m 3 #[vn, vr u1, vr u1] [xr u1]) _
    refine st1 _ ?_
    show own_S p e below T1 (mkF m 6 #[vn, vr u1, vr u1] [xr u2, xr u1]) _
    refine Jvm.RoadKit.acmp (g := (mkF m 6 #[vn, vr u1, vr u1] [xr u2, xr u1])) X1 hx rfl rfl rfl (pc0 := 6) (pc' := 68) (same := false) rfl (hb hby d1_6) rfl (own_ref (own_ne_u1_u2 G)) (by decide) (by decide) ?_
    show own_S p e below T1 (mkF m 68 #[vn, vr u1, vr u1] []) _
    refine XS.aloadN X1.here hx rfl (hb hby d1_68) rfl rfl ?_
    show own_S p e below T1 (mkF m 69 #[vn, vr u1, vr u1] [xr u1]) _
    exact X1.areturnOut hx rfl Bd.returns rfl (hb hby d1_69) hr
  · exact ⟨rfl, N0, e1⟩
theorem ef_own_l10 (m : MethodId) (u0 u1 u2 : Addr) (p1 : Int32) (p2 : Int32) : entryFrame m #[xi p1, xi p2] maxLocals = (mkF m 0 #[vi p1, vi p2, vu, vu, vu, vu, vu, vu, vu] []) := by first | (simp [entryFrame, mkF, argsToLocals, Value.category, maxLocals]; done) | rfl
set_option maxRecDepth 65536 in
set_option maxHeartbeats 40000000 in
theorem own_l10 (l : Launch) (Z : State) (a0 : Array Value) (hw : ∀ d ∈ tables_1, d.before a0 Z = true) (u0 u1 u2 : Addr) (G : own_St Z u0 u1 u2) (p1 : Int32) (p2 : Int32) (as3 : (p1 &&& (3 : Int32)) = (3 : Int32)) (as5 : ((p2 &&& (2147483647 : Int32)) - ((p2 &&& (2147483647 : Int32)) / (3 : Int32)) * (3 : Int32)) = (1 : Int32)) (h0 : Heap) (n0 : Nat) (O0 : Old Z n0 h0) : own_Met l Z x code maxLocals ret room_1 #[xi p1, xi p2] h0 (own_QL (some (xi (1 : Int32))) n0) := by
  intro ws
  refine MetFree.of_bodySF (plainFor_of_name pn2) hisR ?_
  intro p e s m args below meth c s₁ Bd hml0 hP hK
  obtain ⟨rfl, hZ, hh⟩ := hP
  have hx := Bd.exec
  have hby := Bd.bytes
  have hml : c.maxLocals = 9 := hml0
  have hown : s.vm.findClass "com/example/tidemark/tidemark/ChangeComposedPinLaw" = some m.cls := findClass_of_methodNamed Bd.named
  have hnm := (name_of_methodNamed Bd.named Bd.method).1
  have X0 : Stand p l e room_1 s m #[xi p1, xi p2] below meth c s₁ [] 0 0 := Stand.of_body Bd
  have e0 : s₁.heap = h0 := by rw [← hh, Bd.state]; rfl
  have N0 := Fr.nil n0
  have pre0 : ∀ t, Steps p.tables e below (s₁.setTop (mkF m 0 #[vi p1, vi p2, vu, vu, vu, vu, vu, vu, vu] [])) t → Steps p.tables e below (s₁.setTop (entryFrame m #[xi p1, xi p2] maxLocals)) t := fun t st => castTop (ef_own_l10 m u0 u1 u2 p1 p2) st
  obtain ⟨T1, h1, k1, X1, e1, E1, A1, Ov1, st1⟩ := newR X0 hx hZ hown (ww hw 0 rfl) (ww hw 1 rfl) e0 (g := (mkF m 1 #[vi p1, vi p2, vu, vu, vu, vu, vu, vu, vu] [xi (3 : Int32)])) rfl (hb hby at_1) rfl (by decide) (cap := 3) (by decide) (by decide) (by decide) (by decide)
  obtain ⟨b1, g1⟩ : ∃ z, z = h0.size := ⟨_, rfl⟩
  rw [← g1] at A1 st1
  have g_b1 : n0 ≤ b1 := own_fresh O0 g1
  have O1 : Old Z n0 h1 := O0.ext E1
  have V_b1 : Arv Z h1 b1 k1 (.object "com/example/tidemark/tidemark/Change") (3 : Int32) [.null, .null, .null] .null := (Arv.new A1 (by decide)).pad (pad_rep [] .null 3)
  obtain ⟨T2, X2, e2, st2⟩ := getS2 X1 hx hZ hown (host := "") (Or.inl (ww hw 2 rfl)) Via.refl e1 ((own_S_u0 G).ext O1.2) (g := (mkF m 6 #[vi p1, vi p2, vu, vu, vu, vu, vu, vu, vu] [xi (0 : Int32), xr b1, xr b1])) rfl (hb hby at_6)
  obtain ⟨cl3, Ar3, q3, S3, N3_, H3, G3⟩ := id V_b1
  have hin3 : ¬ ((0 : Int32) < 0 ∨ cl3.slots.size ≤ ((0 : Int32)).toNatClampNeg) := inb_of S3 ⟨by decide, by decide⟩
  obtain ⟨T4, h4, X4, e4, W4, st4⟩ := stR X2 hx hZ e2 Ar3 (j := (0 : Int32)) hin3 rfl (Sto.ofV Ar3 q3 Ov1 (Ins.self ((own_X_u0 G).ext O1.2))) (g := (mkF m 9 #[vi p1, vi p2, vu, vu, vu, vu, vu, vu, vu] [xr u0, xi (0 : Int32), xr b1, xr b1])) rfl rfl (hb hby at_9)
  have V_b1_4 : Arv Z h4 b1 k1 (.object "com/example/tidemark/tidemark/Change") (3 : Int32) [xr u0, .null, .null] .null := Arv.set Ar3 q3 S3 N3_ H3 G3 rfl W4 0 rfl (Nat.le_of_ble_eq_true rfl)
  have O4 : Old Z n0 h4 := O1.wr W4 g_b1
  have N4 := Fr.snoc X4 N0 g_b1
  obtain ⟨T5, X5, e5, st5⟩ := getS2 X4 hx hZ hown (host := "") (Or.inl (ww hw 6 rfl)) Via.refl e4 ((own_S_u1 G).ext O4.2) (g := (mkF m 12 #[vi p1, vi p2, vu, vu, vu, vu, vu, vu, vu] [xi (1 : Int32), xr b1, xr b1])) rfl (hb hby at_12)
  obtain ⟨cl6, Ar6, q6, S6, N6_, H6, G6⟩ := id V_b1_4
  have hin6 : ¬ ((1 : Int32) < 0 ∨ cl6.slots.size ≤ ((1 : Int32)).toNatClampNeg) := inb_of S6 ⟨by decide, by decide⟩
  obtain ⟨T7, h7, X7, e7, W7, st7⟩ := stR X5 hx hZ e5 Ar6 (j := (1 : Int32)) hin6 rfl (Sto.ofV Ar6 q6 Ov1 (Ins.self ((own_X_u1 G).ext O4.2))) (g := (mkF m 15 #[vi p1, vi p2, vu, vu, vu, vu, vu, vu, vu] [xr u1, xi (1 : Int32), xr b1, xr b1])) rfl rfl (hb hby at_15)
  have V_b1_7 : Arv Z h7 b1 k1 (.object "com/example/tidemark/tidemark/Change") (3 : Int32) [xr u0, xr u1, .null] .null := Arv.set Ar6 q6 S6 N6_ H6 G6 rfl W7 1 rfl (Nat.le_of_ble_eq_true rfl)
  have O7 : Old Z n0 h7 := O4.wr W7 g_b1
  have N7 := Fr.snoc X7 N4 g_b1
  obtain ⟨T8, X8, e8, st8⟩ := getS2 X7 hx hZ hown (host := "") (Or.inl (ww hw 8 rfl)) Via.refl e7 ((own_S_u2 G).ext O7.2) (g := (mkF m 18 #[vi p1, vi p2, vu, vu, vu, vu, vu, vu, vu] [xi (2 : Int32), xr b1, xr b1])) rfl (hb hby at_18)
  obtain ⟨cl9, Ar9, q9, S9, N9_, H9, G9⟩ := id V_b1_7
  have hin9 : ¬ ((2 : Int32) < 0 ∨ cl9.slots.size ≤ ((2 : Int32)).toNatClampNeg) := inb_of S9 ⟨by decide, by decide⟩
  obtain ⟨T10, h10, X10, e10, W10, st10⟩ := stR X8 hx hZ e8 Ar9 (j := (2 : Int32)) hin9 rfl (Sto.ofV Ar9 q9 Ov1 (Ins.self ((own_X_u2 G).ext O7.2))) (g := (mkF m 21 #[vi p1, vi p2, vu, vu, vu, vu, vu, vu, vu] [xr u2, xi (2 : Int32), xr b1, xr b1])) rfl rfl (hb hby at_21)
  have V_b1_10 : Arv Z h10 b1 k1 (.object "com/example/tidemark/tidemark/Change") (3 : Int32) [xr u0, xr u1, xr u2] .null := Arv.set Ar9 q9 S9 N9_ H9 G9 rfl W10 2 rfl (Nat.le_of_ble_eq_true rfl)
  have O10 : Old Z n0 h10 := O7.wr W10 g_b1
  have N10 := Fr.snoc X10 N7 g_b1
  obtain ⟨cl11, Ar11, q11, S11, N11_, H11, G11⟩ := id V_b1_10
  have hin11 : ¬ ((1 : Int32) < 0 ∨ cl11.slots.size ≤ ((1 : Int32)).toNatClampNeg) := inb_of S11 ⟨by decide, by decide⟩
  have hat11 : cl11.slots[((1 : Int32)).toNatClampNeg]? = some (xr u1) := Has.at H11 hin11 rfl
  obtain ⟨_, _, ⟨T12, L12, k12, n12⟩, -, X12, ⟨Lc12, hQ12, l12, y12, z12⟩, st12⟩ := Jvm.LawKit.callS X10 hx (y := Y0) hown (mvT hZ (ww hw 11 rfl)) (mvT hZ (ww hw 12 rfl)) (mvT hZ (ww hw 3 rfl)) (mvT hZ (ww hw 13 rfl)) (by decide) (backOf (W := 0) (own_c27_composed l Z a0 hw u0 u1 u2 G h10 n0 O10 []) hZ (ww hw 13 rfl) (ww hw 3 rfl) (by decide) (by decide)) (g := (mkF m 55 #[vi p1, vi p2, vr b1, vi (3 : Int32), vn, vr u1, vu, vu, vu] [xr u1, .null])) rfl (by rw [hml]; rfl) (argsL := [.null, xr u1]) (rest := []) (lenOf pd0 rfl) rfl (by show 2 * 0 + _ ≤ _; exact Nat.le_of_eq rfl) (hb hby at_55) (fun _ _ => ⟨rfl, e10, (by decide : 1 + 0 ≤ _), (by decide : 3 + 0 ≤ _)⟩)
  dsimp only [Pt.U, Pt.locs, Pt.cells, Pt.slots] at X12 l12 y12 z12 st12 hQ12
  subst l12 y12 z12
  obtain ⟨rfl, Nq12, e12⟩ := hQ12
  have N12 := Fr.app N10 Nq12
  obtain ⟨_, _, ⟨T13, L13, k13, n13⟩, -, X13, ⟨Lc13, hQ13, l13, y13, z13⟩, st13⟩ := Jvm.LawKit.callS X12 hx (y := Y4) hown (mvT hZ (ww hw 15 rfl)) (mvT hZ (ww hw 16 rfl)) (mvT hZ (ww hw 17 rfl)) (mvT hZ (ww hw 18 rfl)) (by decide) (backOf (W := 0) (own_c7_apply l Z a0 hw u0 u1 u2 G h10 n0 O10 []) hZ (ww hw 18 rfl) (ww hw 17 rfl) (by decide) (by decide)) (g := (mkF m 63 #[vi p1, vi p2, vr b1, vi (3 : Int32), vn, vr u1, vr u1, vu, vu] [xi (0 : Int32), xr u1])) rfl (by rw [hml]; rfl) (argsL := [xr u1, xi (0 : Int32)]) (rest := []) (lenOf pd3 rfl) rfl (by show 2 * 0 + _ ≤ _; exact Nat.le_of_eq rfl) (hb hby at_63) (fun _ _ => ⟨rfl, e12, (by decide : 1 + 0 ≤ _), (by decide : 3 + 0 ≤ _)⟩)
  dsimp only [Pt.U, Pt.locs, Pt.cells, Pt.slots] at X13 l13 y13 z13 st13 hQ13
  subst l13 y13 z13
  obtain ⟨rfl, Nq13, e13⟩ := hQ13
  have N13 := Fr.app N12 Nq13
  obtain ⟨_, _, ⟨T14, L14, k14, n14⟩, -, X14, ⟨Lc14, hQ14, l14, y14, z14⟩, st14⟩ := Jvm.LawKit.callS X13 hx (y := Y4) hown (mvT hZ (ww hw 15 rfl)) (mvT hZ (ww hw 16 rfl)) (mvT hZ (ww hw 17 rfl)) (mvT hZ (ww hw 18 rfl)) (by decide) (backOf (W := 2) (own_c24_apply l Z a0 hw u0 u1 u2 G h10 n0 O10 []) hZ (ww hw 18 rfl) (ww hw 17 rfl) (by decide) (by decide)) (g := (mkF m 71 #[vi p1, vi p2, vr b1, vi (3 : Int32), vn, vr u1, vr u1, vu, vu] [xi (0 : Int32), .null, xr u1, xi (0 : Int32)])) rfl (by rw [hml]; rfl) (argsL := [.null, xi (0 : Int32)]) (rest := [xr u1, xi (0 : Int32)]) (lenOf pd3 rfl) rfl (by show 2 * 0 + _ ≤ _; exact Nat.le_of_eq rfl) (hb hby at_71) (fun _ _ => ⟨rfl, e13, (by decide : 1 + 0 ≤ _), (by decide : 3 + 0 ≤ _)⟩)
  dsimp only [Pt.U, Pt.locs, Pt.cells, Pt.slots] at X14 l14 y14 z14 st14 hQ14
  subst l14 y14 z14
  obtain ⟨rfl, Nq14, e14⟩ := hQ14
  have N14 := Fr.app N13 Nq14
  obtain ⟨_, _, ⟨T15, L15, k15, n15⟩, -, X15, ⟨Lc15, hQ15, l15, y15, z15⟩, st15⟩ := Jvm.LawKit.callS X14 hx (y := Y4) hown (mvT hZ (ww hw 15 rfl)) (mvT hZ (ww hw 16 rfl)) (mvT hZ (ww hw 17 rfl)) (mvT hZ (ww hw 18 rfl)) (by decide) (backOf (W := 1) (own_c7_apply l Z a0 hw u0 u1 u2 G h10 n0 O10 []) hZ (ww hw 18 rfl) (ww hw 17 rfl) (by decide) (by decide)) (g := (mkF m 74 #[vi p1, vi p2, vr b1, vi (3 : Int32), vn, vr u1, vr u1, vu, vu] [xi (0 : Int32), xr u1, xi (0 : Int32)])) rfl (by rw [hml]; rfl) (argsL := [xr u1, xi (0 : Int32)]) (rest := [xi (0 : Int32)]) (lenOf pd3 rfl) rfl (by show 2 * 0 + _ ≤ _; exact Nat.le_of_eq rfl) (hb hby at_74) (fun _ _ => ⟨rfl, e14, (by decide : 1 + 0 ≤ _), (by decide : 3 + 0 ≤ _)⟩)
  dsimp only [Pt.U, Pt.locs, Pt.cells, Pt.slots] at X15 l15 y15 z15 st15 hQ15
  subst l15 y15 z15
  obtain ⟨rfl, Nq15, e15⟩ := hQ15
  have N15 := Fr.app N14 Nq15
  obtain ⟨_, _, ⟨T16, L16, k16, n16⟩, -, X16, ⟨Lc16, hQ16, l16, y16, z16⟩, st16⟩ := Jvm.LawKit.callS X15 hx (y := Y4) hown (mvT hZ (ww hw 15 rfl)) (mvT hZ (ww hw 16 rfl)) (mvT hZ (ww hw 17 rfl)) (mvT hZ (ww hw 18 rfl)) (by decide) (backOf (W := 0) (own_c10_apply l Z a0 hw u0 u1 u2 G h10 n0 O10 []) hZ (ww hw 18 rfl) (ww hw 17 rfl) (by decide) (by decide)) (g := (mkF m 90 #[vi p1, vi p2, vr b1, vi (3 : Int32), vn, vr u1, vr u1, vi (1 : Int32), vu] [xi (1 : Int32), xr u1])) rfl (by rw [hml]; rfl) (argsL := [xr u1, xi (1 : Int32)]) (rest := []) (lenOf pd3 rfl) rfl (by show 2 * 0 + _ ≤ _; exact Nat.le_of_eq rfl) (hb hby at_90) (fun _ _ => ⟨rfl, e15, (by decide : 1 + 0 ≤ _), (by decide : 3 + 0 ≤ _)⟩)
  dsimp only [Pt.U, Pt.locs, Pt.cells, Pt.slots] at X16 l16 y16 z16 st16 hQ16
  subst l16 y16 z16
  obtain ⟨rfl, Nq16, e16⟩ := hQ16
  have N16 := Fr.app N15 Nq16
  obtain ⟨_, _, ⟨T17, L17, k17, n17⟩, -, X17, ⟨Lc17, hQ17, l17, y17, z17⟩, st17⟩ := Jvm.LawKit.callS X16 hx (y := Y4) hown (mvT hZ (ww hw 15 rfl)) (mvT hZ (ww hw 16 rfl)) (mvT hZ (ww hw 17 rfl)) (mvT hZ (ww hw 18 rfl)) (by decide) (backOf (W := 2) (own_c25_apply l Z a0 hw u0 u1 u2 G h10 n0 O10 []) hZ (ww hw 18 rfl) (ww hw 17 rfl) (by decide) (by decide)) (g := (mkF m 98 #[vi p1, vi p2, vr b1, vi (3 : Int32), vn, vr u1, vr u1, vi (1 : Int32), vu] [xi (1 : Int32), .null, xr u1, xi (0 : Int32)])) rfl (by rw [hml]; rfl) (argsL := [.null, xi (1 : Int32)]) (rest := [xr u1, xi (0 : Int32)]) (lenOf pd3 rfl) rfl (by show 2 * 0 + _ ≤ _; exact Nat.le_of_eq rfl) (hb hby at_98) (fun _ _ => ⟨rfl, e16, (by decide : 1 + 0 ≤ _), (by decide : 3 + 0 ≤ _)⟩)
  dsimp only [Pt.U, Pt.locs, Pt.cells, Pt.slots] at X17 l17 y17 z17 st17 hQ17
  subst l17 y17 z17
  obtain ⟨rfl, Nq17, e17⟩ := hQ17
  have N17 := Fr.app N16 Nq17
  obtain ⟨_, _, ⟨T18, L18, k18, n18⟩, -, X18, ⟨Lc18, hQ18, l18, y18, z18⟩, st18⟩ := Jvm.LawKit.callS X17 hx (y := Y4) hown (mvT hZ (ww hw 15 rfl)) (mvT hZ (ww hw 16 rfl)) (mvT hZ (ww hw 17 rfl)) (mvT hZ (ww hw 18 rfl)) (by decide) (backOf (W := 1) (own_c10_apply l Z a0 hw u0 u1 u2 G h10 n0 O10 []) hZ (ww hw 18 rfl) (ww hw 17 rfl) (by decide) (by decide)) (g := (mkF m 101 #[vi p1, vi p2, vr b1, vi (3 : Int32), vn, vr u1, vr u1, vi (1 : Int32), vu] [xi (1 : Int32), xr u1, xi (0 : Int32)])) rfl (by rw [hml]; rfl) (argsL := [xr u1, xi (1 : Int32)]) (rest := [xi (0 : Int32)]) (lenOf pd3 rfl) rfl (by show 2 * 0 + _ ≤ _; exact Nat.le_of_eq rfl) (hb hby at_101) (fun _ _ => ⟨rfl, e17, (by decide : 1 + 0 ≤ _), (by decide : 3 + 0 ≤ _)⟩)
  dsimp only [Pt.U, Pt.locs, Pt.cells, Pt.slots] at X18 l18 y18 z18 st18 hQ18
  subst l18 y18 z18
  obtain ⟨rfl, Nq18, e18⟩ := hQ18
  have N18 := Fr.app N17 Nq18
  obtain ⟨fs, hr, hrun, hended, hW, hsame⟩ := X18.leave (v := some (xi (1 : Int32))) (fun h => by rw [Bd.returns] at h; cases h)
  refine ⟨_, _, pre0 _ ?_, hrun, hended, _, _, rfl, ?_, ⟨_, rfl⟩, hW, hsame.mono (by decide) (by decide)⟩
  · show own_S p e below s₁ (mkF m 0 #[vi p1, vi p2, vu, vu, vu, vu, vu, vu, vu] []) _
    refine XS.iconst X0.here hx rfl (hb hby at_0) ?_
    show own_S p e below s₁ (mkF m 1 #[vi p1, vi p2, vu, vu, vu, vu, vu, vu, vu] [xi (3 : Int32)]) _
    refine st1 _ ?_
    show own_S p e below T1 (mkF m 4 #[vi p1, vi p2, vu, vu, vu, vu, vu, vu, vu] [xr b1]) _
    refine XS.dup X1.here hx rfl (hb hby at_4) rfl rfl ?_
    show own_S p e below T1 (mkF m 5 #[vi p1, vi p2, vu, vu, vu, vu, vu, vu, vu] [xr b1, xr b1]) _
    refine XS.iconst X1.here hx rfl (hb hby at_5) ?_
    show own_S p e below T1 (mkF m 6 #[vi p1, vi p2, vu, vu, vu, vu, vu, vu, vu] [xi (0 : Int32), xr b1, xr b1]) _
    refine st2 _ ?_
    show own_S p e below T2 (mkF m 9 #[vi p1, vi p2, vu, vu, vu, vu, vu, vu, vu] [xr u0, xi (0 : Int32), xr b1, xr b1]) _
    refine st4 _ ?_
    show own_S p e below T4 (mkF m 10 #[vi p1, vi p2, vu, vu, vu, vu, vu, vu, vu] [xr b1]) _
    refine XS.dup X4.here hx rfl (hb hby at_10) rfl rfl ?_
    show own_S p e below T4 (mkF m 11 #[vi p1, vi p2, vu, vu, vu, vu, vu, vu, vu] [xr b1, xr b1]) _
    refine XS.iconst X4.here hx rfl (hb hby at_11) ?_
    show own_S p e below T4 (mkF m 12 #[vi p1, vi p2, vu, vu, vu, vu, vu, vu, vu] [xi (1 : Int32), xr b1, xr b1]) _
    refine st5 _ ?_
    show own_S p e below T5 (mkF m 15 #[vi p1, vi p2, vu, vu, vu, vu, vu, vu, vu] [xr u1, xi (1 : Int32), xr b1, xr b1]) _
    refine st7 _ ?_
    show own_S p e below T7 (mkF m 16 #[vi p1, vi p2, vu, vu, vu, vu, vu, vu, vu] [xr b1]) _
    refine XS.dup X7.here hx rfl (hb hby at_16) rfl rfl ?_
    show own_S p e below T7 (mkF m 17 #[vi p1, vi p2, vu, vu, vu, vu, vu, vu, vu] [xr b1, xr b1]) _
    refine XS.iconst X7.here hx rfl (hb hby at_17) ?_
    show own_S p e below T7 (mkF m 18 #[vi p1, vi p2, vu, vu, vu, vu, vu, vu, vu] [xi (2 : Int32), xr b1, xr b1]) _
    refine st8 _ ?_
    show own_S p e below T8 (mkF m 21 #[vi p1, vi p2, vu, vu, vu, vu, vu, vu, vu] [xr u2, xi (2 : Int32), xr b1, xr b1]) _
    refine st10 _ ?_
    show own_S p e below T10 (mkF m 22 #[vi p1, vi p2, vu, vu, vu, vu, vu, vu, vu] [xr b1]) _
    refine XS.astoreN X10.here hx rfl (hb hby at_22) rfl rfl (l' := #[vi p1, vi p2, vr b1, vu, vu, vu, vu, vu, vu]) rfl ?_
    show own_S p e below T10 (mkF m 23 #[vi p1, vi p2, vr b1, vu, vu, vu, vu, vu, vu] []) _
    refine XS.iloadN X10.here hx rfl (hb hby at_23) rfl ?_
    show own_S p e below T10 (mkF m 24 #[vi p1, vi p2, vr b1, vu, vu, vu, vu, vu, vu] [xi p1]) _
    refine XS.iconst X10.here hx rfl (hb hby at_24) ?_
    show own_S p e below T10 (mkF m 25 #[vi p1, vi p2, vr b1, vu, vu, vu, vu, vu, vu] [xi (3 : Int32), xi p1]) _
    refine XS.iand X10.here hx rfl (hb hby at_25) rfl ?_
    show own_S p e below T10 (mkF m 26 #[vi p1, vi p2, vr b1, vu, vu, vu, vu, vu, vu] [xi (p1 &&& (3 : Int32))]) _
    refine castTop (show (mkF m 26 #[vi p1, vi p2, vr b1, vu, vu, vu, vu, vu, vu] [xi (p1 &&& (3 : Int32))]) = (mkF m 26 #[vi p1, vi p2, vr b1, vu, vu, vu, vu, vu, vu] [xi (3 : Int32)]) from by rw [as3]) ?_
    show own_S p e below T10 (mkF m 26 #[vi p1, vi p2, vr b1, vu, vu, vu, vu, vu, vu] [xi (3 : Int32)]) _
    refine XS.istoreN X10.here hx rfl (hb hby at_26) rfl (l' := #[vi p1, vi p2, vr b1, vi (3 : Int32), vu, vu, vu, vu, vu]) rfl ?_
    show own_S p e below T10 (mkF m 27 #[vi p1, vi p2, vr b1, vi (3 : Int32), vu, vu, vu, vu, vu] []) _
    refine XS.iloadN X10.here hx rfl (hb hby at_27) rfl ?_
    show own_S p e below T10 (mkF m 28 #[vi p1, vi p2, vr b1, vi (3 : Int32), vu, vu, vu, vu, vu] [xi (3 : Int32)]) _
    refine XS.iconst X10.here hx rfl (hb hby at_28) ?_
    show own_S p e below T10 (mkF m 29 #[vi p1, vi p2, vr b1, vi (3 : Int32), vu, vu, vu, vu, vu] [xi (3 : Int32), xi (3 : Int32)]) _
    refine XS.icmpNo X10.here hx rfl (hb hby at_29) rfl (by decide) ?_
    show own_S p e below T10 (mkF m 32 #[vi p1, vi p2, vr b1, vi (3 : Int32), vu, vu, vu, vu, vu] []) _
    refine XS.aconstNull X10.here hx rfl (hb hby at_32) ?_
    show own_S p e below T10 (mkF m 33 #[vi p1, vi p2, vr b1, vi (3 : Int32), vu, vu, vu, vu, vu] [.null]) _
    refine XS.goto X10.here hx rfl (pc0 := 33) (pc' := 39) rfl (hb hby at_33) (by decide) (by decide) ?_
    show own_S p e below T10 (mkF m 39 #[vi p1, vi p2, vr b1, vi (3 : Int32), vu, vu, vu, vu, vu] [.null]) _
    refine XS.astore X10.here hx rfl (hb hby at_39) rfl rfl (l' := #[vi p1, vi p2, vr b1, vi (3 : Int32), vn, vu, vu, vu, vu]) rfl ?_
    show own_S p e below T10 (mkF m 41 #[vi p1, vi p2, vr b1, vi (3 : Int32), vn, vu, vu, vu, vu] []) _
    refine XS.aloadN X10.here hx rfl (hb hby at_41) rfl rfl ?_
    show own_S p e below T10 (mkF m 42 #[vi p1, vi p2, vr b1, vi (3 : Int32), vn, vu, vu, vu, vu] [xr b1]) _
    refine XS.iloadN X10.here hx rfl (hb hby at_42) rfl ?_
    show own_S p e below T10 (mkF m 43 #[vi p1, vi p2, vr b1, vi (3 : Int32), vn, vu, vu, vu, vu] [xi p2, xr b1]) _
    refine X10.ldcI hx hown (mvT hZ (ww hw 10 rfl)) (g := (mkF m 43 #[vi p1, vi p2, vr b1, vi (3 : Int32), vn, vu, vu, vu, vu] [xi p2, xr b1])) rfl (hb hby at_43) ?_
    show own_S p e below T10 (mkF m 45 #[vi p1, vi p2, vr b1, vi (3 : Int32), vn, vu, vu, vu, vu] [xi (2147483647 : Int32), xi p2, xr b1]) _
    refine XS.iand X10.here hx rfl (hb hby at_45) rfl ?_
    show own_S p e below T10 (mkF m 46 #[vi p1, vi p2, vr b1, vi (3 : Int32), vn, vu, vu, vu, vu] [xi (p2 &&& (2147483647 : Int32)), xr b1]) _
    show own_S p e below T10 (mkF m 46 #[vi p1, vi p2, vr b1, vi (3 : Int32), vn, vu, vu, vu, vu] [xi (p2 &&& (2147483647 : Int32)), xr b1]) _
    refine XS.iconst X10.here hx rfl (hb hby at_46) ?_
    show own_S p e below T10 (mkF m 47 #[vi p1, vi p2, vr b1, vi (3 : Int32), vn, vu, vu, vu, vu] [xi (3 : Int32), xi (p2 &&& (2147483647 : Int32)), xr b1]) _
    refine XS.irem X10.here hx rfl (hb hby at_47) rfl (by decide) ?_
    show own_S p e below T10 (mkF m 48 #[vi p1, vi p2, vr b1, vi (3 : Int32), vn, vu, vu, vu, vu] [xi ((p2 &&& (2147483647 : Int32)) - ((p2 &&& (2147483647 : Int32)) / (3 : Int32)) * (3 : Int32)), xr b1]) _
    refine castTop (show (mkF m 48 #[vi p1, vi p2, vr b1, vi (3 : Int32), vn, vu, vu, vu, vu] [xi ((p2 &&& (2147483647 : Int32)) - ((p2 &&& (2147483647 : Int32)) / (3 : Int32)) * (3 : Int32)), xr b1]) = (mkF m 48 #[vi p1, vi p2, vr b1, vi (3 : Int32), vn, vu, vu, vu, vu] [xi (1 : Int32), xr b1]) from by rw [as5]) ?_
    show own_S p e below T10 (mkF m 48 #[vi p1, vi p2, vr b1, vi (3 : Int32), vn, vu, vu, vu, vu] [xi (1 : Int32), xr b1]) _
    refine X10.aaload hx (j := (1 : Int32)) (v := (xr u1)) (by rw [e10]; exact Ar11.1) (State.isArrayOf_alike hZ.alike Ar11.2.1) rfl Ar11.2.2 hin11 hat11 (g := (mkF m 48 #[vi p1, vi p2, vr b1, vi (3 : Int32), vn, vu, vu, vu, vu] [xi (1 : Int32), xr b1])) rfl rfl (hb hby at_48) _ ?_
    show own_S p e below T10 (mkF m 49 #[vi p1, vi p2, vr b1, vi (3 : Int32), vn, vu, vu, vu, vu] [xr u1]) _
    refine XS.astore X10.here hx rfl (hb hby at_49) rfl rfl (l' := #[vi p1, vi p2, vr b1, vi (3 : Int32), vn, vr u1, vu, vu, vu]) rfl ?_
    show own_S p e below T10 (mkF m 51 #[vi p1, vi p2, vr b1, vi (3 : Int32), vn, vr u1, vu, vu, vu] []) _
    refine XS.aload X10.here hx rfl (hb hby at_51) rfl rfl ?_
    show own_S p e below T10 (mkF m 53 #[vi p1, vi p2, vr b1, vi (3 : Int32), vn, vr u1, vu, vu, vu] [.null]) _
    refine XS.aload X10.here hx rfl (hb hby at_53) rfl rfl ?_
    show own_S p e below T10 (mkF m 55 #[vi p1, vi p2, vr b1, vi (3 : Int32), vn, vr u1, vu, vu, vu] [xr u1, .null]) _
    refine st12 _ ?_
    show own_S p e below T12 (mkF m 58 #[vi p1, vi p2, vr b1, vi (3 : Int32), vn, vr u1, vu, vu, vu] [xr u1]) _
    refine XS.astore X12.here hx rfl (hb hby at_58) rfl rfl (l' := #[vi p1, vi p2, vr b1, vi (3 : Int32), vn, vr u1, vr u1, vu, vu]) rfl ?_
    show own_S p e below T12 (mkF m 60 #[vi p1, vi p2, vr b1, vi (3 : Int32), vn, vr u1, vr u1, vu, vu] []) _
    refine XS.aload X12.here hx rfl (hb hby at_60) rfl rfl ?_
    show own_S p e below T12 (mkF m 62 #[vi p1, vi p2, vr b1, vi (3 : Int32), vn, vr u1, vr u1, vu, vu] [xr u1]) _
    refine XS.iconst X12.here hx rfl (hb hby at_62) ?_
    show own_S p e below T12 (mkF m 63 #[vi p1, vi p2, vr b1, vi (3 : Int32), vn, vr u1, vr u1, vu, vu] [xi (0 : Int32), xr u1]) _
    refine st13 _ ?_
    show own_S p e below T13 (mkF m 66 #[vi p1, vi p2, vr b1, vi (3 : Int32), vn, vr u1, vr u1, vu, vu] [xi (0 : Int32)]) _
    refine XS.aload X13.here hx rfl (hb hby at_66) rfl rfl ?_
    show own_S p e below T13 (mkF m 68 #[vi p1, vi p2, vr b1, vi (3 : Int32), vn, vr u1, vr u1, vu, vu] [xr u1, xi (0 : Int32)]) _
    refine XS.aload X13.here hx rfl (hb hby at_68) rfl rfl ?_
    show own_S p e below T13 (mkF m 70 #[vi p1, vi p2, vr b1, vi (3 : Int32), vn, vr u1, vr u1, vu, vu] [.null, xr u1, xi (0 : Int32)]) _
    refine XS.iconst X13.here hx rfl (hb hby at_70) ?_
    show own_S p e below T13 (mkF m 71 #[vi p1, vi p2, vr b1, vi (3 : Int32), vn, vr u1, vr u1, vu, vu] [xi (0 : Int32), .null, xr u1, xi (0 : Int32)]) _
    refine st14 _ ?_
    show own_S p e below T14 (mkF m 74 #[vi p1, vi p2, vr b1, vi (3 : Int32), vn, vr u1, vr u1, vu, vu] [xi (0 : Int32), xr u1, xi (0 : Int32)]) _
    refine st15 _ ?_
    show own_S p e below T15 (mkF m 77 #[vi p1, vi p2, vr b1, vi (3 : Int32), vn, vr u1, vr u1, vu, vu] [xi (0 : Int32), xi (0 : Int32)]) _
    refine XS.icmpNo X15.here hx rfl (hb hby at_77) rfl (by decide) ?_
    show own_S p e below T15 (mkF m 80 #[vi p1, vi p2, vr b1, vi (3 : Int32), vn, vr u1, vr u1, vu, vu] []) _
    refine XS.iconst X15.here hx rfl (hb hby at_80) ?_
    show own_S p e below T15 (mkF m 81 #[vi p1, vi p2, vr b1, vi (3 : Int32), vn, vr u1, vr u1, vu, vu] [xi (1 : Int32)]) _
    refine XS.goto X15.here hx rfl (pc0 := 81) (pc' := 85) rfl (hb hby at_81) (by decide) (by decide) ?_
    show own_S p e below T15 (mkF m 85 #[vi p1, vi p2, vr b1, vi (3 : Int32), vn, vr u1, vr u1, vu, vu] [xi (1 : Int32)]) _
    refine XS.istore X15.here hx rfl (hb hby at_85) rfl (l' := #[vi p1, vi p2, vr b1, vi (3 : Int32), vn, vr u1, vr u1, vi (1 : Int32), vu]) rfl ?_
    show own_S p e below T15 (mkF m 87 #[vi p1, vi p2, vr b1, vi (3 : Int32), vn, vr u1, vr u1, vi (1 : Int32), vu] []) _
    refine XS.aload X15.here hx rfl (hb hby at_87) rfl rfl ?_
    show own_S p e below T15 (mkF m 89 #[vi p1, vi p2, vr b1, vi (3 : Int32), vn, vr u1, vr u1, vi (1 : Int32), vu] [xr u1]) _
    refine XS.iconst X15.here hx rfl (hb hby at_89) ?_
    show own_S p e below T15 (mkF m 90 #[vi p1, vi p2, vr b1, vi (3 : Int32), vn, vr u1, vr u1, vi (1 : Int32), vu] [xi (1 : Int32), xr u1]) _
    refine st16 _ ?_
    show own_S p e below T16 (mkF m 93 #[vi p1, vi p2, vr b1, vi (3 : Int32), vn, vr u1, vr u1, vi (1 : Int32), vu] [xi (0 : Int32)]) _
    refine XS.aload X16.here hx rfl (hb hby at_93) rfl rfl ?_
    show own_S p e below T16 (mkF m 95 #[vi p1, vi p2, vr b1, vi (3 : Int32), vn, vr u1, vr u1, vi (1 : Int32), vu] [xr u1, xi (0 : Int32)]) _
    refine XS.aload X16.here hx rfl (hb hby at_95) rfl rfl ?_
    show own_S p e below T16 (mkF m 97 #[vi p1, vi p2, vr b1, vi (3 : Int32), vn, vr u1, vr u1, vi (1 : Int32), vu] [.null, xr u1, xi (0 : Int32)]) _
    refine XS.iconst X16.here hx rfl (hb hby at_97) ?_
    show own_S p e below T16 (mkF m 98 #[vi p1, vi p2, vr b1, vi (3 : Int32), vn, vr u1, vr u1, vi (1 : Int32), vu] [xi (1 : Int32), .null, xr u1, xi (0 : Int32)]) _
    refine st17 _ ?_
    show own_S p e below T17 (mkF m 101 #[vi p1, vi p2, vr b1, vi (3 : Int32), vn, vr u1, vr u1, vi (1 : Int32), vu] [xi (1 : Int32), xr u1, xi (0 : Int32)]) _
    refine st18 _ ?_
    show own_S p e below T18 (mkF m 104 #[vi p1, vi p2, vr b1, vi (3 : Int32), vn, vr u1, vr u1, vi (1 : Int32), vu] [xi (0 : Int32), xi (0 : Int32)]) _
    refine XS.icmpNo X18.here hx rfl (hb hby at_104) rfl (by decide) ?_
    show own_S p e below T18 (mkF m 107 #[vi p1, vi p2, vr b1, vi (3 : Int32), vn, vr u1, vr u1, vi (1 : Int32), vu] []) _
    refine XS.iconst X18.here hx rfl (hb hby at_107) ?_
    show own_S p e below T18 (mkF m 108 #[vi p1, vi p2, vr b1, vi (3 : Int32), vn, vr u1, vr u1, vi (1 : Int32), vu] [xi (1 : Int32)]) _
    refine XS.goto X18.here hx rfl (pc0 := 108) (pc' := 112) rfl (hb hby at_108) (by decide) (by decide) ?_
    show own_S p e below T18 (mkF m 112 #[vi p1, vi p2, vr b1, vi (3 : Int32), vn, vr u1, vr u1, vi (1 : Int32), vu] [xi (1 : Int32)]) _
    refine XS.istore X18.here hx rfl (hb hby at_112) rfl (l' := #[vi p1, vi p2, vr b1, vi (3 : Int32), vn, vr u1, vr u1, vi (1 : Int32), vi (1 : Int32)]) rfl ?_
    show own_S p e below T18 (mkF m 114 #[vi p1, vi p2, vr b1, vi (3 : Int32), vn, vr u1, vr u1, vi (1 : Int32), vi (1 : Int32)] []) _
    refine XS.iload X18.here hx rfl (hb hby at_114) rfl ?_
    show own_S p e below T18 (mkF m 116 #[vi p1, vi p2, vr b1, vi (3 : Int32), vn, vr u1, vr u1, vi (1 : Int32), vi (1 : Int32)] [xi (1 : Int32)]) _
    refine XS.ifNo X18.here hx rfl (hb hby at_116) rfl (by decide) ?_
    show own_S p e below T18 (mkF m 119 #[vi p1, vi p2, vr b1, vi (3 : Int32), vn, vr u1, vr u1, vi (1 : Int32), vi (1 : Int32)] []) _
    refine XS.iload X18.here hx rfl (hb hby at_119) rfl ?_
    show own_S p e below T18 (mkF m 121 #[vi p1, vi p2, vr b1, vi (3 : Int32), vn, vr u1, vr u1, vi (1 : Int32), vi (1 : Int32)] [xi (1 : Int32)]) _
    refine XS.ifNo X18.here hx rfl (hb hby at_121) rfl (by decide) ?_
    show own_S p e below T18 (mkF m 124 #[vi p1, vi p2, vr b1, vi (3 : Int32), vn, vr u1, vr u1, vi (1 : Int32), vi (1 : Int32)] []) _
    refine XS.iconst X18.here hx rfl (hb hby at_124) ?_
    show own_S p e below T18 (mkF m 125 #[vi p1, vi p2, vr b1, vi (3 : Int32), vn, vr u1, vr u1, vi (1 : Int32), vi (1 : Int32)] [xi (1 : Int32)]) _
    refine XS.goto X18.here hx rfl (pc0 := 125) (pc' := 129) rfl (hb hby at_125) (by decide) (by decide) ?_
    show own_S p e below T18 (mkF m 129 #[vi p1, vi p2, vr b1, vi (3 : Int32), vn, vr u1, vr u1, vi (1 : Int32), vi (1 : Int32)] [xi (1 : Int32)]) _
    exact retN X18 hx (t := .boolean) Bd.returns (by simp) (hb hby at_129) hr
  · exact ⟨rfl, N18⟩
theorem ef_own_c28_composed (m : MethodId) (u0 u1 u2 : Addr) : entryFrame m #[.null, xr u2] 3 = (mkF m 0 #[vn, vr u2, vu] []) := by first | (simp [entryFrame, mkF, argsToLocals, Value.category]; done) | rfl
set_option maxRecDepth 65536 in
set_option maxHeartbeats 40000000 in
theorem own_c28_composed (l : Launch) (Z : State) (a0 : Array Value) (hw : ∀ d ∈ tables_1, d.before a0 Z = true) (u0 u1 u2 : Addr) (G : own_St Z u0 u1 u2) (h0 : Heap) (n0 : Nat) (O0 : Old Z n0 h0) : own_Met l Z Y0 prog_1_method_7_code 3 (some (.object "com/example/tidemark/tidemark/Change")) ({ frames := 0, cells := 0, slots := 0, locals := 0 } : Room) #[.null, xr u2] h0 (own_QR (some (xr u2)) h0 n0) := by
  intro ws
  refine MetFree.of_bodySF (plainFor_of_name pn0) hisR ?_
  intro p e s m args below meth c s₁ Bd hml0 hP hK
  obtain ⟨rfl, hZ, hh⟩ := hP
  have hx := Bd.exec
  have hby := Bd.bytes
  have hml : c.maxLocals = 3 := hml0
  have hown : s.vm.findClass "com/example/tidemark/tidemark/Change" = some m.cls := findClass_of_methodNamed Bd.named
  have hnm := (name_of_methodNamed Bd.named Bd.method).1
  have X0 : Stand p l e ({ frames := 0, cells := 0, slots := 0, locals := 0 } : Room) s m #[.null, xr u2] below meth c s₁ [] 0 0 := Stand.of_body Bd
  have e0 : s₁.heap = h0 := by rw [← hh, Bd.state]; rfl
  have N0 := Fr.nil n0
  have pre0 : ∀ t, Steps p.tables e below (s₁.setTop (mkF m 0 #[vn, vr u2, vu] [])) t → Steps p.tables e below (s₁.setTop (entryFrame m #[.null, xr u2] 3)) t := fun t st => castTop (ef_own_c28_composed m u0 u1 u2) st
  obtain ⟨T1, X1, e1, st1⟩ := getS2 X0 hx hZ hown (host := "") (Or.inl (ww hw 14 rfl)) Via.refl e0 ((own_S_u2 G).ext O0.2) (g := (mkF m 3 #[vn, vr u2, vr u2] [xr u2])) rfl (hb hby d1_3)
  obtain ⟨fs, hr, hrun, hended, hW, hsame⟩ := X1.leave (v := some (xr u2)) (fun h => by rw [Bd.returns] at h; cases h)
  refine ⟨_, _, pre0 _ ?_, hrun, hended, _, _, rfl, ?_, ⟨_, rfl⟩, hW, hsame.mono (by decide) (by decide)⟩
  · show own_S p e below s₁ (mkF m 0 #[vn, vr u2, vu] []) _
    refine XS.aloadN X0.here hx rfl (hb hby d1_0) rfl rfl ?_
    show own_S p e below s₁ (mkF m 1 #[vn, vr u2, vu] [xr u2]) _
    refine XS.astoreN X0.here hx rfl (hb hby d1_1) rfl rfl (l' := #[vn, vr u2, vr u2]) rfl ?_
    show own_S p e below s₁ (mkF m 2 #[vn, vr u2, vr u2] []) _
    refine XS.aloadN X0.here hx rfl (hb hby d1_2) rfl rfl ?_
    show own_S p e below s₁ (mkF m 3 #[vn, vr u2, vr u2] [xr u2]) _
    refine st1 _ ?_
    show own_S p e below T1 (mkF m 6 #[vn, vr u2, vr u2] [xr u2, xr u2]) _
    refine Jvm.RoadKit.acmp (g := (mkF m 6 #[vn, vr u2, vr u2] [xr u2, xr u2])) X1 hx rfl rfl rfl (pc0 := 6) (pc' := 9) (same := true) rfl (hb hby d1_6) rfl (decide_eq_true rfl) (by decide) (by decide) ?_
    show own_S p e below T1 (mkF m 9 #[vn, vr u2, vr u2] []) _
    refine XS.aloadN X1.here hx rfl (hb hby d1_9) rfl rfl ?_
    show own_S p e below T1 (mkF m 10 #[vn, vr u2, vr u2] [.null]) _
    refine XS.ifnullYes X1.here hx rfl (pc0 := 10) (pc' := 68) rfl (hb hby d1_10) rfl (by decide) (by decide) ?_
    show own_S p e below T1 (mkF m 68 #[vn, vr u2, vr u2] []) _
    refine XS.aloadN X1.here hx rfl (hb hby d1_68) rfl rfl ?_
    show own_S p e below T1 (mkF m 69 #[vn, vr u2, vr u2] [xr u2]) _
    exact X1.areturnOut hx rfl Bd.returns rfl (hb hby d1_69) hr
  · exact ⟨rfl, N0, e1⟩
theorem ef_own_l11 (m : MethodId) (u0 u1 u2 : Addr) (p1 : Int32) (p2 : Int32) : entryFrame m #[xi p1, xi p2] maxLocals = (mkF m 0 #[vi p1, vi p2, vu, vu, vu, vu, vu, vu, vu] []) := by first | (simp [entryFrame, mkF, argsToLocals, Value.category, maxLocals]; done) | rfl
set_option maxRecDepth 65536 in
set_option maxHeartbeats 40000000 in
theorem own_l11 (l : Launch) (Z : State) (a0 : Array Value) (hw : ∀ d ∈ tables_1, d.before a0 Z = true) (u0 u1 u2 : Addr) (G : own_St Z u0 u1 u2) (p1 : Int32) (p2 : Int32) (as3 : (p1 &&& (3 : Int32)) = (3 : Int32)) (as6 : ((p2 &&& (2147483647 : Int32)) - ((p2 &&& (2147483647 : Int32)) / (3 : Int32)) * (3 : Int32)) = (2 : Int32)) (h0 : Heap) (n0 : Nat) (O0 : Old Z n0 h0) : own_Met l Z x code maxLocals ret room_1 #[xi p1, xi p2] h0 (own_QL (some (xi (1 : Int32))) n0) := by
  intro ws
  refine MetFree.of_bodySF (plainFor_of_name pn2) hisR ?_
  intro p e s m args below meth c s₁ Bd hml0 hP hK
  obtain ⟨rfl, hZ, hh⟩ := hP
  have hx := Bd.exec
  have hby := Bd.bytes
  have hml : c.maxLocals = 9 := hml0
  have hown : s.vm.findClass "com/example/tidemark/tidemark/ChangeComposedPinLaw" = some m.cls := findClass_of_methodNamed Bd.named
  have hnm := (name_of_methodNamed Bd.named Bd.method).1
  have X0 : Stand p l e room_1 s m #[xi p1, xi p2] below meth c s₁ [] 0 0 := Stand.of_body Bd
  have e0 : s₁.heap = h0 := by rw [← hh, Bd.state]; rfl
  have N0 := Fr.nil n0
  have pre0 : ∀ t, Steps p.tables e below (s₁.setTop (mkF m 0 #[vi p1, vi p2, vu, vu, vu, vu, vu, vu, vu] [])) t → Steps p.tables e below (s₁.setTop (entryFrame m #[xi p1, xi p2] maxLocals)) t := fun t st => castTop (ef_own_l11 m u0 u1 u2 p1 p2) st
  obtain ⟨T1, h1, k1, X1, e1, E1, A1, Ov1, st1⟩ := newR X0 hx hZ hown (ww hw 0 rfl) (ww hw 1 rfl) e0 (g := (mkF m 1 #[vi p1, vi p2, vu, vu, vu, vu, vu, vu, vu] [xi (3 : Int32)])) rfl (hb hby at_1) rfl (by decide) (cap := 3) (by decide) (by decide) (by decide) (by decide)
  obtain ⟨b1, g1⟩ : ∃ z, z = h0.size := ⟨_, rfl⟩
  rw [← g1] at A1 st1
  have g_b1 : n0 ≤ b1 := own_fresh O0 g1
  have O1 : Old Z n0 h1 := O0.ext E1
  have V_b1 : Arv Z h1 b1 k1 (.object "com/example/tidemark/tidemark/Change") (3 : Int32) [.null, .null, .null] .null := (Arv.new A1 (by decide)).pad (pad_rep [] .null 3)
  obtain ⟨T2, X2, e2, st2⟩ := getS2 X1 hx hZ hown (host := "") (Or.inl (ww hw 2 rfl)) Via.refl e1 ((own_S_u0 G).ext O1.2) (g := (mkF m 6 #[vi p1, vi p2, vu, vu, vu, vu, vu, vu, vu] [xi (0 : Int32), xr b1, xr b1])) rfl (hb hby at_6)
  obtain ⟨cl3, Ar3, q3, S3, N3_, H3, G3⟩ := id V_b1
  have hin3 : ¬ ((0 : Int32) < 0 ∨ cl3.slots.size ≤ ((0 : Int32)).toNatClampNeg) := inb_of S3 ⟨by decide, by decide⟩
  obtain ⟨T4, h4, X4, e4, W4, st4⟩ := stR X2 hx hZ e2 Ar3 (j := (0 : Int32)) hin3 rfl (Sto.ofV Ar3 q3 Ov1 (Ins.self ((own_X_u0 G).ext O1.2))) (g := (mkF m 9 #[vi p1, vi p2, vu, vu, vu, vu, vu, vu, vu] [xr u0, xi (0 : Int32), xr b1, xr b1])) rfl rfl (hb hby at_9)
  have V_b1_4 : Arv Z h4 b1 k1 (.object "com/example/tidemark/tidemark/Change") (3 : Int32) [xr u0, .null, .null] .null := Arv.set Ar3 q3 S3 N3_ H3 G3 rfl W4 0 rfl (Nat.le_of_ble_eq_true rfl)
  have O4 : Old Z n0 h4 := O1.wr W4 g_b1
  have N4 := Fr.snoc X4 N0 g_b1
  obtain ⟨T5, X5, e5, st5⟩ := getS2 X4 hx hZ hown (host := "") (Or.inl (ww hw 6 rfl)) Via.refl e4 ((own_S_u1 G).ext O4.2) (g := (mkF m 12 #[vi p1, vi p2, vu, vu, vu, vu, vu, vu, vu] [xi (1 : Int32), xr b1, xr b1])) rfl (hb hby at_12)
  obtain ⟨cl6, Ar6, q6, S6, N6_, H6, G6⟩ := id V_b1_4
  have hin6 : ¬ ((1 : Int32) < 0 ∨ cl6.slots.size ≤ ((1 : Int32)).toNatClampNeg) := inb_of S6 ⟨by decide, by decide⟩
  obtain ⟨T7, h7, X7, e7, W7, st7⟩ := stR X5 hx hZ e5 Ar6 (j := (1 : Int32)) hin6 rfl (Sto.ofV Ar6 q6 Ov1 (Ins.self ((own_X_u1 G).ext O4.2))) (g := (mkF m 15 #[vi p1, vi p2, vu, vu, vu, vu, vu, vu, vu] [xr u1, xi (1 : Int32), xr b1, xr b1])) rfl rfl (hb hby at_15)
  have V_b1_7 : Arv Z h7 b1 k1 (.object "com/example/tidemark/tidemark/Change") (3 : Int32) [xr u0, xr u1, .null] .null := Arv.set Ar6 q6 S6 N6_ H6 G6 rfl W7 1 rfl (Nat.le_of_ble_eq_true rfl)
  have O7 : Old Z n0 h7 := O4.wr W7 g_b1
  have N7 := Fr.snoc X7 N4 g_b1
  obtain ⟨T8, X8, e8, st8⟩ := getS2 X7 hx hZ hown (host := "") (Or.inl (ww hw 8 rfl)) Via.refl e7 ((own_S_u2 G).ext O7.2) (g := (mkF m 18 #[vi p1, vi p2, vu, vu, vu, vu, vu, vu, vu] [xi (2 : Int32), xr b1, xr b1])) rfl (hb hby at_18)
  obtain ⟨cl9, Ar9, q9, S9, N9_, H9, G9⟩ := id V_b1_7
  have hin9 : ¬ ((2 : Int32) < 0 ∨ cl9.slots.size ≤ ((2 : Int32)).toNatClampNeg) := inb_of S9 ⟨by decide, by decide⟩
  obtain ⟨T10, h10, X10, e10, W10, st10⟩ := stR X8 hx hZ e8 Ar9 (j := (2 : Int32)) hin9 rfl (Sto.ofV Ar9 q9 Ov1 (Ins.self ((own_X_u2 G).ext O7.2))) (g := (mkF m 21 #[vi p1, vi p2, vu, vu, vu, vu, vu, vu, vu] [xr u2, xi (2 : Int32), xr b1, xr b1])) rfl rfl (hb hby at_21)
  have V_b1_10 : Arv Z h10 b1 k1 (.object "com/example/tidemark/tidemark/Change") (3 : Int32) [xr u0, xr u1, xr u2] .null := Arv.set Ar9 q9 S9 N9_ H9 G9 rfl W10 2 rfl (Nat.le_of_ble_eq_true rfl)
  have O10 : Old Z n0 h10 := O7.wr W10 g_b1
  have N10 := Fr.snoc X10 N7 g_b1
  obtain ⟨cl11, Ar11, q11, S11, N11_, H11, G11⟩ := id V_b1_10
  have hin11 : ¬ ((2 : Int32) < 0 ∨ cl11.slots.size ≤ ((2 : Int32)).toNatClampNeg) := inb_of S11 ⟨by decide, by decide⟩
  have hat11 : cl11.slots[((2 : Int32)).toNatClampNeg]? = some (xr u2) := Has.at H11 hin11 rfl
  obtain ⟨_, _, ⟨T12, L12, k12, n12⟩, -, X12, ⟨Lc12, hQ12, l12, y12, z12⟩, st12⟩ := Jvm.LawKit.callS X10 hx (y := Y0) hown (mvT hZ (ww hw 11 rfl)) (mvT hZ (ww hw 12 rfl)) (mvT hZ (ww hw 3 rfl)) (mvT hZ (ww hw 13 rfl)) (by decide) (backOf (W := 0) (own_c28_composed l Z a0 hw u0 u1 u2 G h10 n0 O10 []) hZ (ww hw 13 rfl) (ww hw 3 rfl) (by decide) (by decide)) (g := (mkF m 55 #[vi p1, vi p2, vr b1, vi (3 : Int32), vn, vr u2, vu, vu, vu] [xr u2, .null])) rfl (by rw [hml]; rfl) (argsL := [.null, xr u2]) (rest := []) (lenOf pd0 rfl) rfl (by show 2 * 0 + _ ≤ _; exact Nat.le_of_eq rfl) (hb hby at_55) (fun _ _ => ⟨rfl, e10, (by decide : 1 + 0 ≤ _), (by decide : 3 + 0 ≤ _)⟩)
  dsimp only [Pt.U, Pt.locs, Pt.cells, Pt.slots] at X12 l12 y12 z12 st12 hQ12
  subst l12 y12 z12
  obtain ⟨rfl, Nq12, e12⟩ := hQ12
  have N12 := Fr.app N10 Nq12
  obtain ⟨_, _, ⟨T13, L13, k13, n13⟩, -, X13, ⟨Lc13, hQ13, l13, y13, z13⟩, st13⟩ := Jvm.LawKit.callS X12 hx (y := Y4) hown (mvT hZ (ww hw 15 rfl)) (mvT hZ (ww hw 16 rfl)) (mvT hZ (ww hw 17 rfl)) (mvT hZ (ww hw 18 rfl)) (by decide) (backOf (W := 0) (own_c19_apply l Z a0 hw u0 u1 u2 G h10 n0 O10 []) hZ (ww hw 18 rfl) (ww hw 17 rfl) (by decide) (by decide)) (g := (mkF m 63 #[vi p1, vi p2, vr b1, vi (3 : Int32), vn, vr u2, vr u2, vu, vu] [xi (0 : Int32), xr u2])) rfl (by rw [hml]; rfl) (argsL := [xr u2, xi (0 : Int32)]) (rest := []) (lenOf pd3 rfl) rfl (by show 2 * 0 + _ ≤ _; exact Nat.le_of_eq rfl) (hb hby at_63) (fun _ _ => ⟨rfl, e12, (by decide : 1 + 0 ≤ _), (by decide : 3 + 0 ≤ _)⟩)
  dsimp only [Pt.U, Pt.locs, Pt.cells, Pt.slots] at X13 l13 y13 z13 st13 hQ13
  subst l13 y13 z13
  obtain ⟨rfl, Nq13, e13⟩ := hQ13
  have N13 := Fr.app N12 Nq13
  obtain ⟨_, _, ⟨T14, L14, k14, n14⟩, -, X14, ⟨Lc14, hQ14, l14, y14, z14⟩, st14⟩ := Jvm.LawKit.callS X13 hx (y := Y4) hown (mvT hZ (ww hw 15 rfl)) (mvT hZ (ww hw 16 rfl)) (mvT hZ (ww hw 17 rfl)) (mvT hZ (ww hw 18 rfl)) (by decide) (backOf (W := 2) (own_c24_apply l Z a0 hw u0 u1 u2 G h10 n0 O10 []) hZ (ww hw 18 rfl) (ww hw 17 rfl) (by decide) (by decide)) (g := (mkF m 71 #[vi p1, vi p2, vr b1, vi (3 : Int32), vn, vr u2, vr u2, vu, vu] [xi (0 : Int32), .null, xr u2, xi (1 : Int32)])) rfl (by rw [hml]; rfl) (argsL := [.null, xi (0 : Int32)]) (rest := [xr u2, xi (1 : Int32)]) (lenOf pd3 rfl) rfl (by show 2 * 0 + _ ≤ _; exact Nat.le_of_eq rfl) (hb hby at_71) (fun _ _ => ⟨rfl, e13, (by decide : 1 + 0 ≤ _), (by decide : 3 + 0 ≤ _)⟩)
  dsimp only [Pt.U, Pt.locs, Pt.cells, Pt.slots] at X14 l14 y14 z14 st14 hQ14
  subst l14 y14 z14
  obtain ⟨rfl, Nq14, e14⟩ := hQ14
  have N14 := Fr.app N13 Nq14
  obtain ⟨_, _, ⟨T15, L15, k15, n15⟩, -, X15, ⟨Lc15, hQ15, l15, y15, z15⟩, st15⟩ := Jvm.LawKit.callS X14 hx (y := Y4) hown (mvT hZ (ww hw 15 rfl)) (mvT hZ (ww hw 16 rfl)) (mvT hZ (ww hw 17 rfl)) (mvT hZ (ww hw 18 rfl)) (by decide) (backOf (W := 1) (own_c19_apply l Z a0 hw u0 u1 u2 G h10 n0 O10 []) hZ (ww hw 18 rfl) (ww hw 17 rfl) (by decide) (by decide)) (g := (mkF m 74 #[vi p1, vi p2, vr b1, vi (3 : Int32), vn, vr u2, vr u2, vu, vu] [xi (0 : Int32), xr u2, xi (1 : Int32)])) rfl (by rw [hml]; rfl) (argsL := [xr u2, xi (0 : Int32)]) (rest := [xi (1 : Int32)]) (lenOf pd3 rfl) rfl (by show 2 * 0 + _ ≤ _; exact Nat.le_of_eq rfl) (hb hby at_74) (fun _ _ => ⟨rfl, e14, (by decide : 1 + 0 ≤ _), (by decide : 3 + 0 ≤ _)⟩)
  dsimp only [Pt.U, Pt.locs, Pt.cells, Pt.slots] at X15 l15 y15 z15 st15 hQ15
  subst l15 y15 z15
  obtain ⟨rfl, Nq15, e15⟩ := hQ15
  have N15 := Fr.app N14 Nq15
  obtain ⟨_, _, ⟨T16, L16, k16, n16⟩, -, X16, ⟨Lc16, hQ16, l16, y16, z16⟩, st16⟩ := Jvm.LawKit.callS X15 hx (y := Y4) hown (mvT hZ (ww hw 15 rfl)) (mvT hZ (ww hw 16 rfl)) (mvT hZ (ww hw 17 rfl)) (mvT hZ (ww hw 18 rfl)) (by decide) (backOf (W := 0) (own_c13_apply l Z a0 hw u0 u1 u2 G h10 n0 O10 []) hZ (ww hw 18 rfl) (ww hw 17 rfl) (by decide) (by decide)) (g := (mkF m 90 #[vi p1, vi p2, vr b1, vi (3 : Int32), vn, vr u2, vr u2, vi (1 : Int32), vu] [xi (1 : Int32), xr u2])) rfl (by rw [hml]; rfl) (argsL := [xr u2, xi (1 : Int32)]) (rest := []) (lenOf pd3 rfl) rfl (by show 2 * 0 + _ ≤ _; exact Nat.le_of_eq rfl) (hb hby at_90) (fun _ _ => ⟨rfl, e15, (by decide : 1 + 0 ≤ _), (by decide : 3 + 0 ≤ _)⟩)
  dsimp only [Pt.U, Pt.locs, Pt.cells, Pt.slots] at X16 l16 y16 z16 st16 hQ16
  subst l16 y16 z16
  obtain ⟨rfl, Nq16, e16⟩ := hQ16
  have N16 := Fr.app N15 Nq16
  obtain ⟨_, _, ⟨T17, L17, k17, n17⟩, -, X17, ⟨Lc17, hQ17, l17, y17, z17⟩, st17⟩ := Jvm.LawKit.callS X16 hx (y := Y4) hown (mvT hZ (ww hw 15 rfl)) (mvT hZ (ww hw 16 rfl)) (mvT hZ (ww hw 17 rfl)) (mvT hZ (ww hw 18 rfl)) (by decide) (backOf (W := 2) (own_c25_apply l Z a0 hw u0 u1 u2 G h10 n0 O10 []) hZ (ww hw 18 rfl) (ww hw 17 rfl) (by decide) (by decide)) (g := (mkF m 98 #[vi p1, vi p2, vr b1, vi (3 : Int32), vn, vr u2, vr u2, vi (1 : Int32), vu] [xi (1 : Int32), .null, xr u2, xi (0 : Int32)])) rfl (by rw [hml]; rfl) (argsL := [.null, xi (1 : Int32)]) (rest := [xr u2, xi (0 : Int32)]) (lenOf pd3 rfl) rfl (by show 2 * 0 + _ ≤ _; exact Nat.le_of_eq rfl) (hb hby at_98) (fun _ _ => ⟨rfl, e16, (by decide : 1 + 0 ≤ _), (by decide : 3 + 0 ≤ _)⟩)
  dsimp only [Pt.U, Pt.locs, Pt.cells, Pt.slots] at X17 l17 y17 z17 st17 hQ17
  subst l17 y17 z17
  obtain ⟨rfl, Nq17, e17⟩ := hQ17
  have N17 := Fr.app N16 Nq17
  obtain ⟨_, _, ⟨T18, L18, k18, n18⟩, -, X18, ⟨Lc18, hQ18, l18, y18, z18⟩, st18⟩ := Jvm.LawKit.callS X17 hx (y := Y4) hown (mvT hZ (ww hw 15 rfl)) (mvT hZ (ww hw 16 rfl)) (mvT hZ (ww hw 17 rfl)) (mvT hZ (ww hw 18 rfl)) (by decide) (backOf (W := 1) (own_c13_apply l Z a0 hw u0 u1 u2 G h10 n0 O10 []) hZ (ww hw 18 rfl) (ww hw 17 rfl) (by decide) (by decide)) (g := (mkF m 101 #[vi p1, vi p2, vr b1, vi (3 : Int32), vn, vr u2, vr u2, vi (1 : Int32), vu] [xi (1 : Int32), xr u2, xi (0 : Int32)])) rfl (by rw [hml]; rfl) (argsL := [xr u2, xi (1 : Int32)]) (rest := [xi (0 : Int32)]) (lenOf pd3 rfl) rfl (by show 2 * 0 + _ ≤ _; exact Nat.le_of_eq rfl) (hb hby at_101) (fun _ _ => ⟨rfl, e17, (by decide : 1 + 0 ≤ _), (by decide : 3 + 0 ≤ _)⟩)
  dsimp only [Pt.U, Pt.locs, Pt.cells, Pt.slots] at X18 l18 y18 z18 st18 hQ18
  subst l18 y18 z18
  obtain ⟨rfl, Nq18, e18⟩ := hQ18
  have N18 := Fr.app N17 Nq18
  obtain ⟨fs, hr, hrun, hended, hW, hsame⟩ := X18.leave (v := some (xi (1 : Int32))) (fun h => by rw [Bd.returns] at h; cases h)
  refine ⟨_, _, pre0 _ ?_, hrun, hended, _, _, rfl, ?_, ⟨_, rfl⟩, hW, hsame.mono (by decide) (by decide)⟩
  · show own_S p e below s₁ (mkF m 0 #[vi p1, vi p2, vu, vu, vu, vu, vu, vu, vu] []) _
    refine XS.iconst X0.here hx rfl (hb hby at_0) ?_
    show own_S p e below s₁ (mkF m 1 #[vi p1, vi p2, vu, vu, vu, vu, vu, vu, vu] [xi (3 : Int32)]) _
    refine st1 _ ?_
    show own_S p e below T1 (mkF m 4 #[vi p1, vi p2, vu, vu, vu, vu, vu, vu, vu] [xr b1]) _
    refine XS.dup X1.here hx rfl (hb hby at_4) rfl rfl ?_
    show own_S p e below T1 (mkF m 5 #[vi p1, vi p2, vu, vu, vu, vu, vu, vu, vu] [xr b1, xr b1]) _
    refine XS.iconst X1.here hx rfl (hb hby at_5) ?_
    show own_S p e below T1 (mkF m 6 #[vi p1, vi p2, vu, vu, vu, vu, vu, vu, vu] [xi (0 : Int32), xr b1, xr b1]) _
    refine st2 _ ?_
    show own_S p e below T2 (mkF m 9 #[vi p1, vi p2, vu, vu, vu, vu, vu, vu, vu] [xr u0, xi (0 : Int32), xr b1, xr b1]) _
    refine st4 _ ?_
    show own_S p e below T4 (mkF m 10 #[vi p1, vi p2, vu, vu, vu, vu, vu, vu, vu] [xr b1]) _
    refine XS.dup X4.here hx rfl (hb hby at_10) rfl rfl ?_
    show own_S p e below T4 (mkF m 11 #[vi p1, vi p2, vu, vu, vu, vu, vu, vu, vu] [xr b1, xr b1]) _
    refine XS.iconst X4.here hx rfl (hb hby at_11) ?_
    show own_S p e below T4 (mkF m 12 #[vi p1, vi p2, vu, vu, vu, vu, vu, vu, vu] [xi (1 : Int32), xr b1, xr b1]) _
    refine st5 _ ?_
    show own_S p e below T5 (mkF m 15 #[vi p1, vi p2, vu, vu, vu, vu, vu, vu, vu] [xr u1, xi (1 : Int32), xr b1, xr b1]) _
    refine st7 _ ?_
    show own_S p e below T7 (mkF m 16 #[vi p1, vi p2, vu, vu, vu, vu, vu, vu, vu] [xr b1]) _
    refine XS.dup X7.here hx rfl (hb hby at_16) rfl rfl ?_
    show own_S p e below T7 (mkF m 17 #[vi p1, vi p2, vu, vu, vu, vu, vu, vu, vu] [xr b1, xr b1]) _
    refine XS.iconst X7.here hx rfl (hb hby at_17) ?_
    show own_S p e below T7 (mkF m 18 #[vi p1, vi p2, vu, vu, vu, vu, vu, vu, vu] [xi (2 : Int32), xr b1, xr b1]) _
    refine st8 _ ?_
    show own_S p e below T8 (mkF m 21 #[vi p1, vi p2, vu, vu, vu, vu, vu, vu, vu] [xr u2, xi (2 : Int32), xr b1, xr b1]) _
    refine st10 _ ?_
    show own_S p e below T10 (mkF m 22 #[vi p1, vi p2, vu, vu, vu, vu, vu, vu, vu] [xr b1]) _
    refine XS.astoreN X10.here hx rfl (hb hby at_22) rfl rfl (l' := #[vi p1, vi p2, vr b1, vu, vu, vu, vu, vu, vu]) rfl ?_
    show own_S p e below T10 (mkF m 23 #[vi p1, vi p2, vr b1, vu, vu, vu, vu, vu, vu] []) _
    refine XS.iloadN X10.here hx rfl (hb hby at_23) rfl ?_
    show own_S p e below T10 (mkF m 24 #[vi p1, vi p2, vr b1, vu, vu, vu, vu, vu, vu] [xi p1]) _
    refine XS.iconst X10.here hx rfl (hb hby at_24) ?_
    show own_S p e below T10 (mkF m 25 #[vi p1, vi p2, vr b1, vu, vu, vu, vu, vu, vu] [xi (3 : Int32), xi p1]) _
    refine XS.iand X10.here hx rfl (hb hby at_25) rfl ?_
    show own_S p e below T10 (mkF m 26 #[vi p1, vi p2, vr b1, vu, vu, vu, vu, vu, vu] [xi (p1 &&& (3 : Int32))]) _
    refine castTop (show (mkF m 26 #[vi p1, vi p2, vr b1, vu, vu, vu, vu, vu, vu] [xi (p1 &&& (3 : Int32))]) = (mkF m 26 #[vi p1, vi p2, vr b1, vu, vu, vu, vu, vu, vu] [xi (3 : Int32)]) from by rw [as3]) ?_
    show own_S p e below T10 (mkF m 26 #[vi p1, vi p2, vr b1, vu, vu, vu, vu, vu, vu] [xi (3 : Int32)]) _
    refine XS.istoreN X10.here hx rfl (hb hby at_26) rfl (l' := #[vi p1, vi p2, vr b1, vi (3 : Int32), vu, vu, vu, vu, vu]) rfl ?_
    show own_S p e below T10 (mkF m 27 #[vi p1, vi p2, vr b1, vi (3 : Int32), vu, vu, vu, vu, vu] []) _
    refine XS.iloadN X10.here hx rfl (hb hby at_27) rfl ?_
    show own_S p e below T10 (mkF m 28 #[vi p1, vi p2, vr b1, vi (3 : Int32), vu, vu, vu, vu, vu] [xi (3 : Int32)]) _
    refine XS.iconst X10.here hx rfl (hb hby at_28) ?_
    show own_S p e below T10 (mkF m 29 #[vi p1, vi p2, vr b1, vi (3 : Int32), vu, vu, vu, vu, vu] [xi (3 : Int32), xi (3 : Int32)]) _
    refine XS.icmpNo X10.here hx rfl (hb hby at_29) rfl (by decide) ?_
    show own_S p e below T10 (mkF m 32 #[vi p1, vi p2, vr b1, vi (3 : Int32), vu, vu, vu, vu, vu] []) _
    refine XS.aconstNull X10.here hx rfl (hb hby at_32) ?_
    show own_S p e below T10 (mkF m 33 #[vi p1, vi p2, vr b1, vi (3 : Int32), vu, vu, vu, vu, vu] [.null]) _
    refine XS.goto X10.here hx rfl (pc0 := 33) (pc' := 39) rfl (hb hby at_33) (by decide) (by decide) ?_
    show own_S p e below T10 (mkF m 39 #[vi p1, vi p2, vr b1, vi (3 : Int32), vu, vu, vu, vu, vu] [.null]) _
    refine XS.astore X10.here hx rfl (hb hby at_39) rfl rfl (l' := #[vi p1, vi p2, vr b1, vi (3 : Int32), vn, vu, vu, vu, vu]) rfl ?_
    show own_S p e below T10 (mkF m 41 #[vi p1, vi p2, vr b1, vi (3 : Int32), vn, vu, vu, vu, vu] []) _
    refine XS.aloadN X10.here hx rfl (hb hby at_41) rfl rfl ?_
    show own_S p e below T10 (mkF m 42 #[vi p1, vi p2, vr b1, vi (3 : Int32), vn, vu, vu, vu, vu] [xr b1]) _
    refine XS.iloadN X10.here hx rfl (hb hby at_42) rfl ?_
    show own_S p e below T10 (mkF m 43 #[vi p1, vi p2, vr b1, vi (3 : Int32), vn, vu, vu, vu, vu] [xi p2, xr b1]) _
    refine X10.ldcI hx hown (mvT hZ (ww hw 10 rfl)) (g := (mkF m 43 #[vi p1, vi p2, vr b1, vi (3 : Int32), vn, vu, vu, vu, vu] [xi p2, xr b1])) rfl (hb hby at_43) ?_
    show own_S p e below T10 (mkF m 45 #[vi p1, vi p2, vr b1, vi (3 : Int32), vn, vu, vu, vu, vu] [xi (2147483647 : Int32), xi p2, xr b1]) _
    refine XS.iand X10.here hx rfl (hb hby at_45) rfl ?_
    show own_S p e below T10 (mkF m 46 #[vi p1, vi p2, vr b1, vi (3 : Int32), vn, vu, vu, vu, vu] [xi (p2 &&& (2147483647 : Int32)), xr b1]) _
    show own_S p e below T10 (mkF m 46 #[vi p1, vi p2, vr b1, vi (3 : Int32), vn, vu, vu, vu, vu] [xi (p2 &&& (2147483647 : Int32)), xr b1]) _
    refine XS.iconst X10.here hx rfl (hb hby at_46) ?_
    show own_S p e below T10 (mkF m 47 #[vi p1, vi p2, vr b1, vi (3 : Int32), vn, vu, vu, vu, vu] [xi (3 : Int32), xi (p2 &&& (2147483647 : Int32)), xr b1]) _
    refine XS.irem X10.here hx rfl (hb hby at_47) rfl (by decide) ?_
    show own_S p e below T10 (mkF m 48 #[vi p1, vi p2, vr b1, vi (3 : Int32), vn, vu, vu, vu, vu] [xi ((p2 &&& (2147483647 : Int32)) - ((p2 &&& (2147483647 : Int32)) / (3 : Int32)) * (3 : Int32)), xr b1]) _
    refine castTop (show (mkF m 48 #[vi p1, vi p2, vr b1, vi (3 : Int32), vn, vu, vu, vu, vu] [xi ((p2 &&& (2147483647 : Int32)) - ((p2 &&& (2147483647 : Int32)) / (3 : Int32)) * (3 : Int32)), xr b1]) = (mkF m 48 #[vi p1, vi p2, vr b1, vi (3 : Int32), vn, vu, vu, vu, vu] [xi (2 : Int32), xr b1]) from by rw [as6]) ?_
    show own_S p e below T10 (mkF m 48 #[vi p1, vi p2, vr b1, vi (3 : Int32), vn, vu, vu, vu, vu] [xi (2 : Int32), xr b1]) _
    refine X10.aaload hx (j := (2 : Int32)) (v := (xr u2)) (by rw [e10]; exact Ar11.1) (State.isArrayOf_alike hZ.alike Ar11.2.1) rfl Ar11.2.2 hin11 hat11 (g := (mkF m 48 #[vi p1, vi p2, vr b1, vi (3 : Int32), vn, vu, vu, vu, vu] [xi (2 : Int32), xr b1])) rfl rfl (hb hby at_48) _ ?_
    show own_S p e below T10 (mkF m 49 #[vi p1, vi p2, vr b1, vi (3 : Int32), vn, vu, vu, vu, vu] [xr u2]) _
    refine XS.astore X10.here hx rfl (hb hby at_49) rfl rfl (l' := #[vi p1, vi p2, vr b1, vi (3 : Int32), vn, vr u2, vu, vu, vu]) rfl ?_
    show own_S p e below T10 (mkF m 51 #[vi p1, vi p2, vr b1, vi (3 : Int32), vn, vr u2, vu, vu, vu] []) _
    refine XS.aload X10.here hx rfl (hb hby at_51) rfl rfl ?_
    show own_S p e below T10 (mkF m 53 #[vi p1, vi p2, vr b1, vi (3 : Int32), vn, vr u2, vu, vu, vu] [.null]) _
    refine XS.aload X10.here hx rfl (hb hby at_53) rfl rfl ?_
    show own_S p e below T10 (mkF m 55 #[vi p1, vi p2, vr b1, vi (3 : Int32), vn, vr u2, vu, vu, vu] [xr u2, .null]) _
    refine st12 _ ?_
    show own_S p e below T12 (mkF m 58 #[vi p1, vi p2, vr b1, vi (3 : Int32), vn, vr u2, vu, vu, vu] [xr u2]) _
    refine XS.astore X12.here hx rfl (hb hby at_58) rfl rfl (l' := #[vi p1, vi p2, vr b1, vi (3 : Int32), vn, vr u2, vr u2, vu, vu]) rfl ?_
    show own_S p e below T12 (mkF m 60 #[vi p1, vi p2, vr b1, vi (3 : Int32), vn, vr u2, vr u2, vu, vu] []) _
    refine XS.aload X12.here hx rfl (hb hby at_60) rfl rfl ?_
    show own_S p e below T12 (mkF m 62 #[vi p1, vi p2, vr b1, vi (3 : Int32), vn, vr u2, vr u2, vu, vu] [xr u2]) _
    refine XS.iconst X12.here hx rfl (hb hby at_62) ?_
    show own_S p e below T12 (mkF m 63 #[vi p1, vi p2, vr b1, vi (3 : Int32), vn, vr u2, vr u2, vu, vu] [xi (0 : Int32), xr u2]) _
    refine st13 _ ?_
    show own_S p e below T13 (mkF m 66 #[vi p1, vi p2, vr b1, vi (3 : Int32), vn, vr u2, vr u2, vu, vu] [xi (1 : Int32)]) _
    refine XS.aload X13.here hx rfl (hb hby at_66) rfl rfl ?_
    show own_S p e below T13 (mkF m 68 #[vi p1, vi p2, vr b1, vi (3 : Int32), vn, vr u2, vr u2, vu, vu] [xr u2, xi (1 : Int32)]) _
    refine XS.aload X13.here hx rfl (hb hby at_68) rfl rfl ?_
    show own_S p e below T13 (mkF m 70 #[vi p1, vi p2, vr b1, vi (3 : Int32), vn, vr u2, vr u2, vu, vu] [.null, xr u2, xi (1 : Int32)]) _
    refine XS.iconst X13.here hx rfl (hb hby at_70) ?_
    show own_S p e below T13 (mkF m 71 #[vi p1, vi p2, vr b1, vi (3 : Int32), vn, vr u2, vr u2, vu, vu] [xi (0 : Int32), .null, xr u2, xi (1 : Int32)]) _
    refine st14 _ ?_
    show own_S p e below T14 (mkF m 74 #[vi p1, vi p2, vr b1, vi (3 : Int32), vn, vr u2, vr u2, vu, vu] [xi (0 : Int32), xr u2, xi (1 : Int32)]) _
    refine st15 _ ?_
    show own_S p e below T15 (mkF m 77 #[vi p1, vi p2, vr b1, vi (3 : Int32), vn, vr u2, vr u2, vu, vu] [xi (1 : Int32), xi (1 : Int32)]) _
    refine XS.icmpNo X15.here hx rfl (hb hby at_77) rfl (by decide) ?_
    show own_S p e below T15 (mkF m 80 #[vi p1, vi p2, vr b1, vi (3 : Int32), vn, vr u2, vr u2, vu, vu] []) _
    refine XS.iconst X15.here hx rfl (hb hby at_80) ?_
    show own_S p e below T15 (mkF m 81 #[vi p1, vi p2, vr b1, vi (3 : Int32), vn, vr u2, vr u2, vu, vu] [xi (1 : Int32)]) _
    refine XS.goto X15.here hx rfl (pc0 := 81) (pc' := 85) rfl (hb hby at_81) (by decide) (by decide) ?_
    show own_S p e below T15 (mkF m 85 #[vi p1, vi p2, vr b1, vi (3 : Int32), vn, vr u2, vr u2, vu, vu] [xi (1 : Int32)]) _
    refine XS.istore X15.here hx rfl (hb hby at_85) rfl (l' := #[vi p1, vi p2, vr b1, vi (3 : Int32), vn, vr u2, vr u2, vi (1 : Int32), vu]) rfl ?_
    show own_S p e below T15 (mkF m 87 #[vi p1, vi p2, vr b1, vi (3 : Int32), vn, vr u2, vr u2, vi (1 : Int32), vu] []) _
    refine XS.aload X15.here hx rfl (hb hby at_87) rfl rfl ?_
    show own_S p e below T15 (mkF m 89 #[vi p1, vi p2, vr b1, vi (3 : Int32), vn, vr u2, vr u2, vi (1 : Int32), vu] [xr u2]) _
    refine XS.iconst X15.here hx rfl (hb hby at_89) ?_
    show own_S p e below T15 (mkF m 90 #[vi p1, vi p2, vr b1, vi (3 : Int32), vn, vr u2, vr u2, vi (1 : Int32), vu] [xi (1 : Int32), xr u2]) _
    refine st16 _ ?_
    show own_S p e below T16 (mkF m 93 #[vi p1, vi p2, vr b1, vi (3 : Int32), vn, vr u2, vr u2, vi (1 : Int32), vu] [xi (0 : Int32)]) _
    refine XS.aload X16.here hx rfl (hb hby at_93) rfl rfl ?_
    show own_S p e below T16 (mkF m 95 #[vi p1, vi p2, vr b1, vi (3 : Int32), vn, vr u2, vr u2, vi (1 : Int32), vu] [xr u2, xi (0 : Int32)]) _
    refine XS.aload X16.here hx rfl (hb hby at_95) rfl rfl ?_
    show own_S p e below T16 (mkF m 97 #[vi p1, vi p2, vr b1, vi (3 : Int32), vn, vr u2, vr u2, vi (1 : Int32), vu] [.null, xr u2, xi (0 : Int32)]) _
    refine XS.iconst X16.here hx rfl (hb hby at_97) ?_
    show own_S p e below T16 (mkF m 98 #[vi p1, vi p2, vr b1, vi (3 : Int32), vn, vr u2, vr u2, vi (1 : Int32), vu] [xi (1 : Int32), .null, xr u2, xi (0 : Int32)]) _
    refine st17 _ ?_
    show own_S p e below T17 (mkF m 101 #[vi p1, vi p2, vr b1, vi (3 : Int32), vn, vr u2, vr u2, vi (1 : Int32), vu] [xi (1 : Int32), xr u2, xi (0 : Int32)]) _
    refine st18 _ ?_
    show own_S p e below T18 (mkF m 104 #[vi p1, vi p2, vr b1, vi (3 : Int32), vn, vr u2, vr u2, vi (1 : Int32), vu] [xi (0 : Int32), xi (0 : Int32)]) _
    refine XS.icmpNo X18.here hx rfl (hb hby at_104) rfl (by decide) ?_
    show own_S p e below T18 (mkF m 107 #[vi p1, vi p2, vr b1, vi (3 : Int32), vn, vr u2, vr u2, vi (1 : Int32), vu] []) _
    refine XS.iconst X18.here hx rfl (hb hby at_107) ?_
    show own_S p e below T18 (mkF m 108 #[vi p1, vi p2, vr b1, vi (3 : Int32), vn, vr u2, vr u2, vi (1 : Int32), vu] [xi (1 : Int32)]) _
    refine XS.goto X18.here hx rfl (pc0 := 108) (pc' := 112) rfl (hb hby at_108) (by decide) (by decide) ?_
    show own_S p e below T18 (mkF m 112 #[vi p1, vi p2, vr b1, vi (3 : Int32), vn, vr u2, vr u2, vi (1 : Int32), vu] [xi (1 : Int32)]) _
    refine XS.istore X18.here hx rfl (hb hby at_112) rfl (l' := #[vi p1, vi p2, vr b1, vi (3 : Int32), vn, vr u2, vr u2, vi (1 : Int32), vi (1 : Int32)]) rfl ?_
    show own_S p e below T18 (mkF m 114 #[vi p1, vi p2, vr b1, vi (3 : Int32), vn, vr u2, vr u2, vi (1 : Int32), vi (1 : Int32)] []) _
    refine XS.iload X18.here hx rfl (hb hby at_114) rfl ?_
    show own_S p e below T18 (mkF m 116 #[vi p1, vi p2, vr b1, vi (3 : Int32), vn, vr u2, vr u2, vi (1 : Int32), vi (1 : Int32)] [xi (1 : Int32)]) _
    refine XS.ifNo X18.here hx rfl (hb hby at_116) rfl (by decide) ?_
    show own_S p e below T18 (mkF m 119 #[vi p1, vi p2, vr b1, vi (3 : Int32), vn, vr u2, vr u2, vi (1 : Int32), vi (1 : Int32)] []) _
    refine XS.iload X18.here hx rfl (hb hby at_119) rfl ?_
    show own_S p e below T18 (mkF m 121 #[vi p1, vi p2, vr b1, vi (3 : Int32), vn, vr u2, vr u2, vi (1 : Int32), vi (1 : Int32)] [xi (1 : Int32)]) _
    refine XS.ifNo X18.here hx rfl (hb hby at_121) rfl (by decide) ?_
    show own_S p e below T18 (mkF m 124 #[vi p1, vi p2, vr b1, vi (3 : Int32), vn, vr u2, vr u2, vi (1 : Int32), vi (1 : Int32)] []) _
    refine XS.iconst X18.here hx rfl (hb hby at_124) ?_
    show own_S p e below T18 (mkF m 125 #[vi p1, vi p2, vr b1, vi (3 : Int32), vn, vr u2, vr u2, vi (1 : Int32), vi (1 : Int32)] [xi (1 : Int32)]) _
    refine XS.goto X18.here hx rfl (pc0 := 125) (pc' := 129) rfl (hb hby at_125) (by decide) (by decide) ?_
    show own_S p e below T18 (mkF m 129 #[vi p1, vi p2, vr b1, vi (3 : Int32), vn, vr u2, vr u2, vi (1 : Int32), vi (1 : Int32)] [xi (1 : Int32)]) _
    exact retN X18 hx (t := .boolean) Bd.returns (by simp) (hb hby at_129) hr
  · exact ⟨rfl, N18⟩
theorem own_law (l : Launch) (Z : State) (a0 : Array Value) (hw : ∀ d ∈ tables_1, d.before a0 Z = true) (u0 u1 u2 : Addr) (G : own_St Z u0 u1 u2) (p1 : Int32) (p2 : Int32) (h0 : Heap) (n0 : Nat) (O0 : Old Z n0 h0) : own_Met l Z x code maxLocals ret room_1 #[(.int p1), (.int p2)] h0 (own_QL (some (.int (1 : Int32))) n0) := by
  rcases own_mask3 p1 with as0 | as1 | as2 | as3
  · rcases own_rem3 p2 with as4 | as5 | as6
    · exact own_l0 l Z a0 hw u0 u1 u2 G p1 p2 as0 as4 h0 n0 O0
    · exact own_l1 l Z a0 hw u0 u1 u2 G p1 p2 as0 as5 h0 n0 O0
    · exact own_l2 l Z a0 hw u0 u1 u2 G p1 p2 as0 as6 h0 n0 O0
  · rcases own_rem3 p2 with as4 | as5 | as6
    · exact own_l3 l Z a0 hw u0 u1 u2 G p1 p2 as1 as4 h0 n0 O0
    · exact own_l4 l Z a0 hw u0 u1 u2 G p1 p2 as1 as5 h0 n0 O0
    · exact own_l5 l Z a0 hw u0 u1 u2 G p1 p2 as1 as6 h0 n0 O0
  · rcases own_rem3 p2 with as4 | as5 | as6
    · exact own_l6 l Z a0 hw u0 u1 u2 G p1 p2 as2 as4 h0 n0 O0
    · exact own_l7 l Z a0 hw u0 u1 u2 G p1 p2 as2 as5 h0 n0 O0
    · exact own_l8 l Z a0 hw u0 u1 u2 G p1 p2 as2 as6 h0 n0 O0
  · rcases own_rem3 p2 with as4 | as5 | as6
    · exact own_l9 l Z a0 hw u0 u1 u2 G p1 p2 as3 as4 h0 n0 O0
    · exact own_l10 l Z a0 hw u0 u1 u2 G p1 p2 as3 as5 h0 n0 O0
    · exact own_l11 l Z a0 hw u0 u1 u2 G p1 p2 as3 as6 h0 n0 O0
set_option maxRecDepth 65536 in
set_option maxHeartbeats 40000000 in
theorem comes_1 {Post : Tables → Env → Array Value → State → Outcome → State → Prop} (hpost : ∀ tb e args s v u, (limb_1_1.after args s (.returned v) u = true ∧ limb_1_2.after args s (.returned v) u = true ∧ True) → FrameEnd s (.returned v) u (Jvm.fieldLocs frame_1_writes args s ++ Jvm.arrayLocs frame_1_arrays args s ++ Jvm.staticLocs frame_1_statics s) 16 128 → Post tb e args s (.returned v) u) :
    ArmFor flags0 classFile x code maxLocals ret World_1 tables_1 room_1 Calls_1 rest_1 Pre_1 Post := by
  intro l hfl _ _ p e ha hc hk s m args below hf hA hF happ hP
  obtain ⟨hcalls, hrest, hpre⟩ := hP
  obtain ⟨-, -, -, hnamed, -, -, -, hat⟩ := (Spec.applies_iff hf).mp happ
  obtain ⟨hg, hn⟩ := and_e (Cond.before_iff.mp (show (Jvm.Cond.and given_1 narrow_1).before args s = true from hpre))
  obtain ⟨hcount, hg0⟩ := and_e hg
  obtain ⟨ga0, hg1⟩ := and_e hg0
  have ga1 := hg1
  obtain ⟨w0, w1, rfl⟩ : ∃ w0 w1 : Value, args = #[w0, w1] := by
    have hs : args.size = 2 := by simpa [Cond.value, given_1] using hcount
    obtain ⟨L⟩ := args
    match L, hs with
    | [w0, w1], _ => exact ⟨w0, w1, rfl⟩
  have hw := fun d (hd : d ∈ tables_1) => atoms_spec (ws := Jvm.Cond.code x code maxLocals ret :: tables_1) hat d (List.mem_cons_of_mem _ hd)
  have hfit : Fit s := fun {y c} hc i hi => by
    obtain ⟨ha, rfl⟩ := Array.getElem?_eq_some_iff.mp hc
    have q := List.all_eq_true.mp ((Array.all_eq_true_iff_forall_mem.mp hF) _ (Array.getElem_mem ha)) i (List.mem_range.mpr hi)
    simpa [Array.getElem?_eq_getElem hi] using q
  obtain ⟨p1, ei0⟩ := is_v ga0
  obtain rfl : w0 = (.int p1) := Option.some.inj ei0
  obtain ⟨p2, ei1⟩ := is_v ga1
  obtain rfl : w1 = (.int p2) := Option.some.inj ei1
  have hc0 := hn
  obtain ⟨ca0, hc1⟩ := and_e hc0
  obtain ⟨ca1, hc2⟩ := and_e hc1
  obtain ⟨ca2, hc3⟩ := and_e hc2
  obtain ⟨ca3, hc4⟩ := and_e hc3
  obtain ⟨ca4, hc5⟩ := and_e hc4
  have ca5 := hc5
  obtain ⟨u0, ev_u0⟩ := exa_v ca0
  have pX_u0 := Exa.start ev_u0 ca0
  have pS_u0 : Sta s s.heap "com/example/tidemark/tidemark/Change" "ADDED" "Lcom/example/tidemark/tidemark/Change;" (.ref u0) := Sta.start ev_u0 (Or.inr ⟨(ww hw 3 rfl), (ww hw 4 rfl)⟩)
  obtain ⟨u1, ev_u1⟩ := exa_v ca1
  have pX_u1 := Exa.start ev_u1 ca1
  have pS_u1 : Sta s s.heap "com/example/tidemark/tidemark/Change" "REMOVED" "Lcom/example/tidemark/tidemark/Change;" (.ref u1) := Sta.start ev_u1 (Or.inr ⟨(ww hw 3 rfl), (ww hw 7 rfl)⟩)
  obtain ⟨u2, ev_u2⟩ := exa_v ca2
  have pX_u2 := Exa.start ev_u2 ca2
  have pS_u2 : Sta s s.heap "com/example/tidemark/tidemark/Change" "TOGGLED" "Lcom/example/tidemark/tidemark/Change;" (.ref u2) := Sta.start ev_u2 (Or.inr ⟨(ww hw 3 rfl), (ww hw 9 rfl)⟩)
  have pF_u0_ordinal := own_fld ev_u0 ca3
  have pF_u2_ordinal := own_fld ev_u2 ca4
  have pF_u1_ordinal := own_fld ev_u1 ca5
  have G : own_St s u0 u1 u2 := ⟨pS_u0, pX_u0, pS_u1, pX_u1, pS_u2, pX_u2, pF_u0_ordinal, pF_u2_ordinal, pF_u1_ordinal⟩
  obtain ⟨n, o, h1, h2, h3, _, L, rfl, ⟨rfl, N⟩, hq⟩ := own_law l s _ hw u0 u1 u2 G p1 p2 s.heap s.heap.size (Old.start s) tables_1 p e ha hc hk s m _ below hf ((Spec.applies_iff_loose hf).mp happ).1 ⟨rfl, State.Warmed39.refl s, rfl⟩ trivial
  refine ⟨n, _, h1, h2, h3, hpost _ _ _ _ _ _ ⟨Cond.after_iff.mpr rfl, Cond.after_iff.mpr (eq_i res_at (Term.int_eval (1)) rfl), trivial⟩ ⟨hq.1, hq.2.1, (hq.2.2.sift fun y hy => Or.inr (N y hy)).mono (by decide) (by decide)⟩⟩
theorem main_1_1 : Claimed_1_1 := comes_1 fun _ _ _ _ _ _ h hF => ⟨h.1, hF⟩
theorem main_1_2 : Claimed_1_2 := comes_1 fun _ _ _ _ _ _ h hF => ⟨h.2.1, hF⟩
end Jvm.Pilot.@@N@@
namespace Jvm.Pilot.@@N@@
open Jvm Jvm.ClassFile Sem Op Lib Jvm.Free Jvm.Stand Jvm.Pilot.@@N@@.Jvm.D
/-! MADE BY PROGRAM (witnessworld.py) out of the Statement's table words and the real class files: 13 classes; the members and pool entries that the words name. The judged class is class 1, her method 2. -/
namespace start1
open Jvm.ClassFile
def u (s : String) : CpInfo := .utf8 (stringToUtf16 s)
/-- a pool by its gaps: so many unusable entries, then the entry; so many at the end -/
def gap : Nat → List CpInfo → List CpInfo
  | 0, r => r
  | n + 1, r => .unusable :: gap n r
def poolList (es : List (Nat × CpInfo)) (last : Nat) : List CpInfo := es.foldr (fun e r => gap e.1 (e.2 :: r)) (gap last [])
def pool (es : List (Nat × CpInfo)) (last : Nat) : Array CpInfo := ⟨poolList es last⟩
def fileOf (pool : Array CpInfo) (this : Nat) (attrs : Array Attribute := #[]) (ms : Array MethodInfo := #[]) (fl : Nat := 33) (sup : Nat := 0) (ifs : Array Nat := #[]) (fds : Array FieldInfo := #[]) : ClassFile where
  minorVersion := 0
  majorVersion := 65
  constantPool := pool
  accessFlags := fl
  thisClass := this
  superClass := sup
  interfaces := ifs
  fields := fds
  methods := ms
  attributes := attrs
def plain (name : String) (sup : Option ClassId) : Class where
  name := name
  kind := .ordinary
  loader := none
  accessFlags := 33
  super := sup
  interfaces := #[]
  cf := none
  fields := #[]
  methods := #[]
  instanceTypes := #[]
  staticTypes := #[]
  resolved := #[]
  callSites := []
  init := .initialized
  statics := none
  mirror := none

def pool0 : Array CpInfo := pool [(5, u "<init>"), (0, u "()V"), (1, .class_ 10), (1, u "java/lang/Object")] 113

def k0m0 : Method := { name := "<init>", desc := "()V", sig := { parameters := [], returnType := none }, accessFlags := 1, code := none }
/-- java/lang/Object -/
def k0 : Class := { plain "java/lang/Object" none with
  accessFlags := 33
  interfaces := #[]
  cf := some (fileOf pool0 8 #[] #[{ accessFlags := 1, nameIndex := 5, descriptorIndex := 6, attributes := #[] }] 33 0 #[] #[])
  fields := #[]
  methods := #[k0m0]
  instanceTypes := #[]
  staticTypes := #[]
  resolved := Array.replicate 124 none
  statics := none }

def pool1 : Array CpInfo := pool [(2, .class_ 4), (1, u "java/lang/Object"), (0, u "<init>"), (0, u "()V"), (0, .methodref 8 9), (0, .class_ 10), (0, .nameAndType 11 12), (0, u "com/example/tidemark/tidemark/Change"), (0, u "applyTo"), (0, u "(Z)Z"), (0, .fieldref 8 14), (0, .nameAndType 15 16), (0, u "ADDED"), (0, u "Lcom/example/tidemark/tidemark/Change;"), (0, .fieldref 8 18), (0, .nameAndType 19 16), (0, u "REMOVED"), (0, .fieldref 8 21), (0, .nameAndType 22 16), (0, u "TOGGLED"), (0, .integer 2147483647), (0, .methodref 8 25), (0, .nameAndType 26 27), (0, u "composed"), (0, u "(Lcom/example/tidemark/tidemark/Change;Lcom/example/tidemark/tidemark/Change;)Lcom/example/tidemark/tidemark/Change;"), (0, .methodref 29 30), (0, .class_ 31), (0, .nameAndType 32 33), (0, u "com/example/tidemark/tidemark/ChangeComposedPinLaw"), (0, u "apply"), (0, u "(Lcom/example/tidemark/tidemark/Change;Z)Z"), (3, u "law"), (0, u "(II)Z")] 4

def k1m0 : Method := { name := "<init>", desc := "()V", sig := { parameters := [], returnType := none }, accessFlags := 1, code := none }
def k1c1 : Code := { maxStack := 2, maxLocals := 2, code := method_2_code, exceptionTable := #[], attributes := #[] }
def k1m1 : Method := { name := "apply", desc := "(Lcom/example/tidemark/tidemark/Change;Z)Z", sig := { parameters := [(.object "com/example/tidemark/tidemark/Change"), .boolean], returnType := some .boolean }, accessFlags := 10, code := some k1c1 }
def k1c2 : Code := { maxStack := 4, maxLocals := 9, code := code, exceptionTable := #[], attributes := #[] }
def k1m2 : Method := { name := "law", desc := "(II)Z", sig := { parameters := [.int, .int], returnType := some .boolean }, accessFlags := 9, code := some k1c2 }
/-- com/example/tidemark/tidemark/ChangeComposedPinLaw -/
def k1 : Class := { plain "com/example/tidemark/tidemark/ChangeComposedPinLaw" (some 0) with
  accessFlags := 49
  interfaces := #[]
  cf := some (fileOf pool1 29 #[] #[{ accessFlags := 1, nameIndex := 5, descriptorIndex := 6, attributes := #[] }, { accessFlags := 10, nameIndex := 32, descriptorIndex := 33, attributes := #[] }, { accessFlags := 9, nameIndex := 37, descriptorIndex := 38, attributes := #[] }] 49 2 #[] #[])
  fields := #[]
  methods := #[k1m0, k1m1, k1m2]
  instanceTypes := #[]
  staticTypes := #[]
  resolved := Array.replicate 43 none
  statics := none }

def pool2 : Array CpInfo := pool [(1, .class_ 2), (0, u "java/lang/constant/Constable"), (0, .class_ 4), (0, u "java/lang/Object")] 6

/-- java/lang/constant/Constable -/
def k2 : Class := { plain "java/lang/constant/Constable" (some 0) with
  accessFlags := 1537
  interfaces := #[]
  cf := some (fileOf pool2 1 #[] #[] 1537 3 #[] #[])
  fields := #[]
  methods := #[]
  instanceTypes := #[]
  staticTypes := #[]
  resolved := Array.replicate 11 none
  statics := none }

def pool3 : Array CpInfo := pool [(1, .class_ 2), (0, u "java/lang/Comparable"), (0, .class_ 4), (0, u "java/lang/Object")] 7

/-- java/lang/Comparable -/
def k3 : Class := { plain "java/lang/Comparable" (some 0) with
  accessFlags := 1537
  interfaces := #[]
  cf := some (fileOf pool3 1 #[] #[] 1537 3 #[] #[])
  fields := #[]
  methods := #[]
  instanceTypes := #[]
  staticTypes := #[]
  resolved := Array.replicate 12 none
  statics := none }

def pool4 : Array CpInfo := pool [(1, .class_ 2), (0, u "java/io/Serializable"), (0, .class_ 4), (0, u "java/lang/Object")] 2

/-- java/io/Serializable -/
def k4 : Class := { plain "java/io/Serializable" (some 0) with
  accessFlags := 1537
  interfaces := #[]
  cf := some (fileOf pool4 1 #[] #[] 1537 3 #[] #[])
  fields := #[]
  methods := #[]
  instanceTypes := #[]
  staticTypes := #[]
  resolved := Array.replicate 7 none
  statics := none }

def pool5 : Array CpInfo := pool [(2, .class_ 4), (1, u "java/lang/Enum"), (0, u "name"), (0, u "Ljava/lang/String;"), (0, .fieldref 2 8), (0, .nameAndType 9 10), (0, u "ordinal"), (0, u "I"), (1, .class_ 14), (1, u "java/lang/Object"), (4, u "hash"), (86, .class_ 108), (1, u "java/lang/Enum$EnumDesc"), (2, .class_ 112), (0, u "java/lang/constant/Constable"), (0, .class_ 114), (0, u "java/lang/Comparable"), (0, .class_ 116), (0, u "java/io/Serializable"), (9, u "()I")] 77

def k5c0 : Code := { maxStack := 1, maxLocals := 1, code := jdk_37_method_2_code, exceptionTable := #[], attributes := #[] }
def k5m0 : Method := { name := "ordinal", desc := "()I", sig := { parameters := [], returnType := some .int }, accessFlags := 17, code := some k5c0 }
/-- java/lang/Enum -/
def k5 : Class := { plain "java/lang/Enum" (some 0) with
  accessFlags := 1057
  interfaces := #[2, 3, 4]
  cf := some (fileOf pool5 2 #[.nestMembers #[106]] #[{ accessFlags := 17, nameIndex := 9, descriptorIndex := 126, attributes := #[] }] 1057 12 #[111, 113, 115] #[{ accessFlags := 18, nameIndex := 5, descriptorIndex := 6, attributes := #[] }, { accessFlags := 18, nameIndex := 9, descriptorIndex := 10, attributes := #[] }, { accessFlags := 2, nameIndex := 19, descriptorIndex := 10, attributes := #[] }])
  fields := #[{ name := "name", type := (.object "java/lang/String"), accessFlags := 18, slot := 0, constantValue := 0 }, { name := "ordinal", type := .int, accessFlags := 18, slot := 1, constantValue := 0 }, { name := "hash", type := .int, accessFlags := 2, slot := 2, constantValue := 0 }]
  methods := #[k5m0]
  instanceTypes := #[(.object "java/lang/String"), .int, .int]
  staticTypes := #[]
  resolved := Array.replicate 204 none
  statics := none }

def pool6 : Array CpInfo := pool [(1, .class_ 2), (0, u "com/example/tidemark/tidemark/Change"), (0, .fieldref 1 4), (0, .nameAndType 5 6), (0, u "ADDED"), (0, u "Lcom/example/tidemark/tidemark/Change;"), (0, .fieldref 1 8), (0, .nameAndType 9 6), (0, u "REMOVED"), (0, .fieldref 1 11), (0, .nameAndType 12 6), (0, u "TOGGLED"), (2, u "$VALUES"), (0, u "[Lcom/example/tidemark/tidemark/Change;"), (6, .class_ 25), (1, u "java/lang/Enum"), (8, u "code"), (0, u "Ljava/lang/String;"), (19, .methodref 1 56), (0, .nameAndType 57 58), (0, u "ordinal"), (0, u "()I"), (28, u "applyTo"), (0, u "(Z)Z"), (0, u "composed"), (0, u "(Lcom/example/tidemark/tidemark/Change;Lcom/example/tidemark/tidemark/Change;)Lcom/example/tidemark/tidemark/Change;")] 22

def k6c0 : Code := { maxStack := 4, maxLocals := 3, code := prog_1_method_6_code, exceptionTable := #[], attributes := #[] }
def k6m0 : Method := { name := "applyTo", desc := "(Z)Z", sig := { parameters := [.boolean], returnType := some .boolean }, accessFlags := 0, code := some k6c0 }
def k6c1 : Code := { maxStack := 4, maxLocals := 3, code := prog_1_method_7_code, exceptionTable := #[], attributes := #[] }
def k6m1 : Method := { name := "composed", desc := "(Lcom/example/tidemark/tidemark/Change;Lcom/example/tidemark/tidemark/Change;)Lcom/example/tidemark/tidemark/Change;", sig := { parameters := [(.object "com/example/tidemark/tidemark/Change"), (.object "com/example/tidemark/tidemark/Change")], returnType := some (.object "com/example/tidemark/tidemark/Change") }, accessFlags := 8, code := some k6c1 }
/-- com/example/tidemark/tidemark/Change -/
def k6 : Class := { plain "com/example/tidemark/tidemark/Change" (some 5) with
  accessFlags := 16432
  interfaces := #[]
  cf := some (fileOf pool6 1 #[] #[{ accessFlags := 0, nameIndex := 87, descriptorIndex := 88, attributes := #[] }, { accessFlags := 8, nameIndex := 89, descriptorIndex := 90, attributes := #[] }] 16432 23 #[] #[{ accessFlags := 16409, nameIndex := 5, descriptorIndex := 6, attributes := #[] }, { accessFlags := 16409, nameIndex := 9, descriptorIndex := 6, attributes := #[] }, { accessFlags := 16409, nameIndex := 12, descriptorIndex := 6, attributes := #[] }, { accessFlags := 18, nameIndex := 34, descriptorIndex := 35, attributes := #[] }, { accessFlags := 4122, nameIndex := 15, descriptorIndex := 16, attributes := #[] }])
  fields := #[{ name := "ADDED", type := (.object "com/example/tidemark/tidemark/Change"), accessFlags := 16409, slot := 0, constantValue := 0 }, { name := "REMOVED", type := (.object "com/example/tidemark/tidemark/Change"), accessFlags := 16409, slot := 1, constantValue := 0 }, { name := "TOGGLED", type := (.object "com/example/tidemark/tidemark/Change"), accessFlags := 16409, slot := 2, constantValue := 0 }, { name := "code", type := (.object "java/lang/String"), accessFlags := 18, slot := 3, constantValue := 0 }, { name := "$VALUES", type := (.array (.object "com/example/tidemark/tidemark/Change")), accessFlags := 4122, slot := 3, constantValue := 0 }]
  methods := #[k6m0, k6m1]
  instanceTypes := #[(.object "java/lang/String"), .int, .int, (.object "java/lang/String")]
  staticTypes := #[(.object "com/example/tidemark/tidemark/Change"), (.object "com/example/tidemark/tidemark/Change"), (.object "com/example/tidemark/tidemark/Change"), (.array (.object "com/example/tidemark/tidemark/Change"))]
  resolved := Array.replicate 113 none
  statics := some 0 }

def pool7 : Array CpInfo := pool [(1, u "java/lang/Cloneable"), (0, .class_ 1), (0, u "java/lang/Object"), (0, .class_ 3)] 3

/-- java/lang/Cloneable -/
def k7 : Class := { plain "java/lang/Cloneable" (some 0) with
  accessFlags := 1537
  interfaces := #[]
  cf := some (fileOf pool7 2 #[] #[] 1537 4 #[] #[])
  fields := #[]
  methods := #[]
  instanceTypes := #[]
  staticTypes := #[]
  resolved := Array.replicate 8 none
  statics := none }

/-- the primitive byte -/
def k8 : Class := { plain "byte" none with kind := .primitive 'B', accessFlags := 0x411 }
/-- [B -/
def k9 : Class := { plain "[B" (some 0) with kind := .array 8 .byte, interfaces := #[7, 4], accessFlags := 1041 }

/-- the primitive int -/
def k10 : Class := { plain "int" none with kind := .primitive 'I', accessFlags := 0x411 }
/-- [I -/
def k11 : Class := { plain "[I" (some 0) with kind := .array 10 .int, interfaces := #[7, 4], accessFlags := 1041 }

/-- [Lcom/example/tidemark/tidemark/Change; -/
def k12 : Class := { plain "[Lcom/example/tidemark/tidemark/Change;" (some 0) with kind := .array 6 (.object "com/example/tidemark/tidemark/Change"), interfaces := #[7, 4], accessFlags := 1041 }

def heap : Heap := #[{ cls := 6, slots := #[.ref 1, .ref 2, .ref 3, .null], vm := .statics 6 },
  { cls := 6, slots := #[.null, .int 0, .int 0, .null], vm := .none },
  { cls := 6, slots := #[.null, .int 1, .int 0, .null], vm := .none },
  { cls := 6, slots := #[.null, .int 2, .int 0, .null], vm := .none }]
def classes : Array Class := #[k0, k1, k2, k3, k4, k5, k6, k7, k8, k9, k10, k11, k12]
def interned : List (Array UInt16 × Addr) := []
def slotsUsed : Nat := 16
def theMethod : MethodId := ⟨1, 2⟩
def args0 : Array Value := #[.int 5, .int 3]
def aboutOver (below : List Frame) : State where
  vm := { classes := classes, interned := interned.toArray }
  heap := heap
  slotsUsed := slotsUsed
  threads := #[{ frames := .invoking theMethod args0 :: below }]
def below0 : List Frame := [.native { method := ⟨0, 0⟩, args := #[] }]
def about1 : State := aboutOver below0
def p0 : Program := .bare "" "" ""
def e0 : Env := launch0.env 0 0 0
theorem w_frames : about1.frames = Frame.invoking theMethod args0 :: below0 := rfl
set_option maxRecDepth 65536 in
theorem w_args : argsFit about1.vm theMethod args0 = true := by decide +kernel
set_option maxRecDepth 65536 in
theorem w_heap : heapFits about1 = true := by decide +kernel
set_option maxRecDepth 65536 in
theorem w_runnable : about1.curStatus? = some .runnable := by decide +kernel
set_option maxRecDepth 65536 in
theorem w_alone : about1.alone = true := by decide +kernel
set_option maxRecDepth 65536 in
theorem w_named : about1.methodNamed? x = some theMethod := by decide +kernel
set_option maxRecDepth 65536 in
theorem w_hears : about1.hears theMethod below0 = true := by decide +kernel
set_option maxRecDepth 65536 in
theorem w_ripe : about1.ripe theMethod args0 below0 = true := by decide +kernel
theorem w_running : about1.status = .running := rfl
set_option maxRecDepth 65536 in
theorem w_room : about1.hasRoom e0.platform room_1 = true :=
  launch0.hasRoom_least _ room_1 (by decide +kernel) (by decide +kernel) (by decide +kernel) (by decide +kernel) (by decide +kernel) (by decide +kernel)
theorem allAtoms_all (ts : List Jvm.Cond) (a : Array Jvm.Value) (st : Jvm.State) : (allAtoms ts).before a st = ts.all (fun c => c.before a st) := by
  induction ts with
  | nil => rfl
  | cons c t ih =>
    show (Jvm.Cond.and c (allAtoms t)).before a st = _
    rw [Jvm.Cond.before_and, ih, List.all_cons]
def words1 : List Jvm.Cond := Jvm.Cond.code x code maxLocals ret :: tables_1
/-- a 'code' word, met by the world's own term for the bytes: nothing is compared byte by byte -/
theorem code_word {y : MethodName} {bytes : ByteArray} {mx : Nat} {rt : Option FieldType} {a : Array Value} {s : State} {m : MethodId} {meth : Method} {c : Code} (h1 : s.methodNamed? y = some m) (h2 : s.vm.method? m = some meth) (h3 : meth.code = some c) (h4 : c.code = bytes)
    (h5 : (c.maxLocals == mx && c.exceptionTable.isEmpty && decide (c.maxStack ≤ mostOperands) && decide (meth.sig.returnType = rt) && !meth.locks && decide (parseMethodDescriptor y.desc = some meth.sig)) = true) : (Jvm.Cond.code y bytes mx rt).before a s = true := by
  simp only [Bool.and_eq_true, beq_iff_eq, Bool.not_eq_true', decide_eq_true_eq] at h5
  obtain ⟨⟨⟨⟨⟨g1, g2⟩, g3⟩, g4⟩, g5⟩, g6⟩ := h5
  simp [Cond.before, Cond.holds, Cond.value, h1, h2, h3, h4, g1, g2, g3, g4, g5, g6]
def isCode : Jvm.Cond → Bool
  | .code _ _ _ _ => true
  | _ => false
theorem all_split {L : List Jvm.Cond} {P : Jvm.Cond → Bool} (h1 : L.all (fun c => isCode c || P c) = true) (h2 : ∀ c ∈ L.filter isCode, P c = true) : L.all P = true := by
  refine List.all_eq_true.mpr fun c hc => ?_
  have h := List.all_eq_true.mp h1 c hc
  rcases Bool.eq_false_or_eq_true (isCode c) with hi | hi
  · exact h2 c (List.mem_filter.mpr ⟨hc, hi⟩)
  · simpa [hi] using h
set_option maxRecDepth 65536 in
theorem w_c0 : (Jvm.Cond.code x code maxLocals ret).before args0 about1 = true := code_word (m := ⟨1, 2⟩) (meth := k1m2) (c := k1c2) (by decide +kernel) rfl rfl rfl (by decide +kernel)
set_option maxRecDepth 65536 in
theorem w_c1 : (Jvm.Cond.code ({ cls := "com/example/tidemark/tidemark/Change", name := "composed", desc := "(Lcom/example/tidemark/tidemark/Change;Lcom/example/tidemark/tidemark/Change;)Lcom/example/tidemark/tidemark/Change;" } : Jvm.MethodName) prog_1_method_7_code (3 : Nat) (Option.some (Jvm.ClassFile.FieldType.object "com/example/tidemark/tidemark/Change"))).before args0 about1 = true := code_word (m := ⟨6, 1⟩) (meth := k6m1) (c := k6c1) (by decide +kernel) rfl rfl rfl (by decide +kernel)
set_option maxRecDepth 65536 in
theorem w_c2 : (Jvm.Cond.code ({ cls := "com/example/tidemark/tidemark/ChangeComposedPinLaw", name := "apply", desc := "(Lcom/example/tidemark/tidemark/Change;Z)Z" } : Jvm.MethodName) method_2_code (2 : Nat) (Option.some Jvm.ClassFile.FieldType.boolean)).before args0 about1 = true := code_word (m := ⟨1, 1⟩) (meth := k1m1) (c := k1c1) (by decide +kernel) rfl rfl rfl (by decide +kernel)
set_option maxRecDepth 65536 in
theorem w_c3 : (Jvm.Cond.code ({ cls := "com/example/tidemark/tidemark/Change", name := "applyTo", desc := "(Z)Z" } : Jvm.MethodName) prog_1_method_6_code (3 : Nat) (Option.some Jvm.ClassFile.FieldType.boolean)).before args0 about1 = true := code_word (m := ⟨6, 0⟩) (meth := k6m0) (c := k6c0) (by decide +kernel) rfl rfl rfl (by decide +kernel)
set_option maxRecDepth 65536 in
theorem w_c4 : (Jvm.Cond.code ({ cls := "java/lang/Enum", name := "ordinal", desc := "()I" } : Jvm.MethodName) jdk_37_method_2_code (1 : Nat) (Option.some Jvm.ClassFile.FieldType.int)).before args0 about1 = true := code_word (m := ⟨5, 0⟩) (meth := k5m0) (c := k5c0) (by decide +kernel) rfl rfl rfl (by decide +kernel)
def codes1 : List Jvm.Cond := [Jvm.Cond.code x code maxLocals ret, Jvm.Cond.code ({ cls := "com/example/tidemark/tidemark/Change", name := "composed", desc := "(Lcom/example/tidemark/tidemark/Change;Lcom/example/tidemark/tidemark/Change;)Lcom/example/tidemark/tidemark/Change;" } : Jvm.MethodName) prog_1_method_7_code (3 : Nat) (Option.some (Jvm.ClassFile.FieldType.object "com/example/tidemark/tidemark/Change")), Jvm.Cond.code ({ cls := "com/example/tidemark/tidemark/ChangeComposedPinLaw", name := "apply", desc := "(Lcom/example/tidemark/tidemark/Change;Z)Z" } : Jvm.MethodName) method_2_code (2 : Nat) (Option.some Jvm.ClassFile.FieldType.boolean), Jvm.Cond.code ({ cls := "com/example/tidemark/tidemark/Change", name := "applyTo", desc := "(Z)Z" } : Jvm.MethodName) prog_1_method_6_code (3 : Nat) (Option.some Jvm.ClassFile.FieldType.boolean), Jvm.Cond.code ({ cls := "java/lang/Enum", name := "ordinal", desc := "()I" } : Jvm.MethodName) jdk_37_method_2_code (1 : Nat) (Option.some Jvm.ClassFile.FieldType.int)]
set_option maxRecDepth 65536 in
theorem codes_eq : words1.filter isCode = codes1 := rfl
theorem w_codes : ∀ c ∈ words1.filter isCode, c.before args0 about1 = true := by
  rw [codes_eq]
  intro c hc
  simp only [codes1, List.mem_cons, List.not_mem_nil, or_false] at hc
  rcases hc with rfl | rfl | rfl | rfl | rfl
  · exact w_c0
  · exact w_c1
  · exact w_c2
  · exact w_c3
  · exact w_c4
set_option maxRecDepth 65536 in
theorem w_t1 : (words1.take 24).all (fun c => isCode c || c.before args0 about1) = true := by decide +kernel
set_option maxRecDepth 65536 in
theorem w_t2 : (words1.drop 24).all (fun c => isCode c || c.before args0 about1) = true := by decide +kernel
theorem w_tables : (allAtoms (Jvm.Cond.code x code maxLocals ret :: tables_1)).before args0 about1 = true := by
  rw [allAtoms_all]
  show words1.all (fun c => c.before args0 about1) = true
  refine all_split ?_ w_codes
  rw [← List.take_append_drop 24 words1, List.all_append, w_t1, w_t2]
  rfl
set_option maxRecDepth 65536 in
theorem w_case : (Jvm.Cond.and given_1 narrow_1).before args0 about1 = true := by decide +kernel
theorem w_applies : (headSpec (Jvm.Cond.code x code maxLocals ret :: tables_1) room_1).applies x e0.platform about1 = true :=
  (Spec.applies_iff w_frames).mpr ⟨w_running, w_runnable, w_alone, w_named, w_hears, w_ripe, w_room, w_tables⟩
theorem atStart : AtStart classFile x code maxLocals ret World_1 tables_1 room_1 Calls_1 rest_1 Pre_1 launch0 p0 e0 about1 theMethod args0 below0 :=
  ⟨lists_1, trivial, launch0.admits_env _ _ _, launch0.least_env, fairChoices_fair.cas, fairChoices_fair.clock, w_frames, w_args, w_heap, w_applies, trivial, trivial, w_case⟩
end start1
theorem witness_1 : WitnessClaimed_1 := ⟨start1.p0, start1.e0, start1.about1, start1.theMethod, start1.args0, start1.below0, start1.atStart⟩
end Jvm.Pilot.@@N@@
