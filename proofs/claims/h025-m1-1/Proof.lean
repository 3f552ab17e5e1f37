import JvmDerived
import JvmDerived.Pilot.@@N@@Statement
import JvmDerived.Pilot.@@N@@Code
set_option linter.unusedVariables false
set_option linter.unusedSimpArgs false
namespace Jvm.RoadKit
open Sem ClassFile Op Lib Jvm.Stand Jvm.Free Jvm.LawKit
section New
variable {p : Program} {l : Launch} {e : Env} {R : Room} {s : State} {m : MethodId} {args : Array Value} {below : List Frame} {meth : Method} {c : Code} {T : State} {locs : List Loc} {cells slots : Nat}
theorem retI (X : Stand p l e R s m args below meth c T locs cells slots) (hx : p.tables.exec = Jvm.exec) {pc : Nat} {Ls : Array Slot} {z : Int32} {rest : List Value} (hret : meth.sig.returnType = some .int) (hd : decode c.code pc = .ok (.ireturn, 1)) {fs : List Frame}
    (hl : ∀ (f : JFrame) (acts : List Action), f.method = m → f.locked = none → f.entered = [] → (doReturn e (T.setTop f) acts (some (.int z))).1 = T.setFrames fs) : Steps p.tables e below (T.setTop (mkF m pc Ls (.int z :: rest))) (T.setFrames fs) := by
  have hm' : T.vm.method? m = some meth := X.method'
  have hn : narrow .int (.int z) = .int z := rfl
  show Steps p.tables e below (T.setTop { method := m, pc := pc, locals := Ls, stack := _ :: rest, locked := none }) _
  jvm_step X.here [X.here.top, hx, hd, hm', hret, hn]
  first | (intro acts; rw [hl _ acts rfl rfl rfl]) | rw [hl _ _ rfl rfl rfl]
  exact Steps.refl _
end New
end Jvm.RoadKit
namespace Jvm.Pilot.@@N@@
open Jvm Jvm.ClassFile Sem Op Lib Jvm.Free Jvm.Stand Jvm.LawKit Jvm.RoadKit Bundle Jvm.Pilot.@@N@@.Jvm.D
theorem ww {a0 : Array Value} {Z : State} (hw : ∀ d ∈ tables_1, d.before a0 Z = true) (i : Nat) {d : Jvm.Cond} (h : tables_1[i]? = some d) : d.before a0 Z = true := hw d (List.mem_of_getElem? h)
abbrev vi (x : Int32) : Slot := .val (.int x)
abbrev vj (x : Int64) : Slot := .val (.long x)
abbrev vr (x : Addr) : Slot := .val (.ref x)
abbrev vn : Slot := .val .null
abbrev vu : Slot := .unset
abbrev xi (x : Int32) : Value := .int x
abbrev xj (x : Int64) : Value := .long x
abbrev xr (x : Addr) : Value := .ref x
abbrev own_S (p : Program) (e : Env) (below : List Frame) (T : State) (g : JFrame) (t : State) : Prop := Steps p.tables e below (T.setTop g) t
/-- a body's contract: at these arguments and this heap it returns as Q says -/
abbrev own_Met (l : Launch) (Z : State) (y : MethodName) (bytes : ByteArray) (maxL : Nat) (rt : Option FieldType) (rm : Room) (as' : Array Value) (h0 : Heap) (Qy : Option Value → Heap → List Loc → Prop) : Prop :=
  ∀ ws : List Jvm.Cond, MetFree l y (head1 (Jvm.Cond.code y bytes maxL rt :: ws) rm) (fun a U => a = as' ∧ Z.Warmed39 U.vm ∧ U.heap = h0) (fun _ _ _ _ _ => True) (fun _ U o U' => ∃ v L, o = .returned v ∧ Qy v U'.heap L ∧ FrameEnd U o U' L rm.cells rm.slots)
/-- it returns r and leaves the heap -/
def own_QR (r : Option Value) (h0 : Heap) (n0 : Nat) (v : Option Value) (h : Heap) (L : List Loc) : Prop := v = r ∧ Fr n0 L ∧ h = h0
/-- it returns r and writes nothing that stood at the start -/
def own_QL (r : Option Value) (n0 : Nat) (v : Option Value) (h : Heap) (L : List Loc) : Prop := v = r ∧ Fr n0 L
theorem own_le {Z : State} {n0 : Nat} {h : Heap} (O : Old Z n0 h) : n0 ≤ h.size := O.1 ▸ O.2.1
theorem own_fresh {Z : State} {n0 : Nat} {h : Heap} {a : Addr} (O : Old Z n0 h) (g : a = h.size) : n0 ≤ a := g ▸ own_le O
theorem own_fld {s : State} {args : Array Value} {t : Term} {C n d : String} {a : Addr} {k : Int32} (ht : t.eval args s none [] s = some (.ref a)) (h : (Jvm.Cond.eq (.field t C n d) (.int k)).value args s none s [] = some true) : Fld s s.heap a C n d (.int k) := by
  refine Fld.start ?_
  simp only [Cond.value, Term.eval, ht] at h
  cases hv : s.fieldOf? a C n d with
  | none => simp [hv] at h
  | some v => cases v <;> simp [hv] at h; subst h; rfl
theorem own_fldN {s : State} {args : Array Value} {t : Term} {C n d : String} {a : Addr} (ht : t.eval args s none [] s = some (.ref a)) (h : (Jvm.Cond.eq (.field t C n d) .null).value args s none s [] = some true) : Fld s s.heap a C n d .null :=
  Fld.start ((fld_at ht).symm.trans (null_v h))
theorem own_fldX {s : State} {args : Array Value} {t : Term} {C n d K : String} {a : Addr} (ht : t.eval args s none [] s = some (.ref a)) (h : (Jvm.Cond.exactly (.field t C n d) K).value args s none s [] = some true) : ∃ b, Fld s s.heap a C n d (.ref b) ∧ Exa s s.heap b K := by
  obtain ⟨b, eb⟩ := exa_v h
  exact ⟨b, Fld.start ((fld_at ht).symm.trans eb), Exa.start eb h⟩
theorem own_len {s : State} {args : Array Value} {t : Term} {a : Addr} {cl : Cell} {ty : FieldType} {k : Int32} {k' : Nat} (ht : t.eval args s none [] s = some (.ref a)) (A : Arr s s.heap a cl ty) (h : (Jvm.Cond.eq (.length t) (.int k)).value args s none s [] = some true) (hk : k.toInt = k') : cl.slots.size = k' := by
  obtain ⟨v, hv⟩ : ∃ v, (Term.length t).eval args s none [] s = some v := by
    cases hq : (Term.length t).eval args s none [] s with
    | none => simp [Cond.value, hq] at h
    | some v => exact ⟨v, rfl⟩
  have ha : s.arrayAt? a = some cl := Arr.fin (Vm.Alike.refl _) A
  by_cases hl : cl.slots.size < 2 ^ 31
  · rw [len_f ht ha hl] at hv
    have h2 := len_f ht ha hl
    have h3 : cl.slots.size.toInt32 = k := gotT (Cond.eq_ints h2 (Term.int_eval k)) h
    have h4 := len_toInt hl
    rw [h3, hk] at h4
    omega
  · simp [Term.eval, ht, ha, hl] at hv
theorem own_ref {x y : Addr} (h : x ≠ y) : decide ((Value.ref x : Value) = .ref y) = false := by simp [h]
theorem own_mask (x : Int32) : 0 ≤ (x &&& (2147483647 : Int32)).toInt := by
  have := c_mask x 2147483647 31 (by decide) (by decide); omega
def own_St (Z : State) (u0 u1 u2 u0_fixedScopes u2_fixedScopes : Addr) : Prop := (Sta Z Z.heap "com/example/scopelock/scopelock/Kind" "TELEMETRY" "Lcom/example/scopelock/scopelock/Kind;" (.ref u0)) ∧ (Exa Z Z.heap u0 "com/example/scopelock/scopelock/Kind") ∧ (Sta Z Z.heap "com/example/scopelock/scopelock/Kind" "CUSTOM" "Lcom/example/scopelock/scopelock/Kind;" (.ref u1)) ∧ (Exa Z Z.heap u1 "com/example/scopelock/scopelock/Kind") ∧ (Sta Z Z.heap "com/example/scopelock/scopelock/Kind" "SDK_INTEGRATION" "Lcom/example/scopelock/scopelock/Kind;" (.ref u2)) ∧ (Exa Z Z.heap u2 "com/example/scopelock/scopelock/Kind") ∧ (Fld Z Z.heap u0 "com/example/scopelock/scopelock/Kind" "fixedScopes" "Ljava/util/Set;" (.ref u0_fixedScopes)) ∧ (Fld Z Z.heap u1 "com/example/scopelock/scopelock/Kind" "fixedScopes" "Ljava/util/Set;" .null) ∧ (Fld Z Z.heap u2 "com/example/scopelock/scopelock/Kind" "fixedScopes" "Ljava/util/Set;" (.ref u2_fixedScopes))
theorem own_S_u0 {Z : State} {u0 u1 u2 u0_fixedScopes u2_fixedScopes : Addr} (G : own_St Z u0 u1 u2 u0_fixedScopes u2_fixedScopes) : Sta Z Z.heap "com/example/scopelock/scopelock/Kind" "TELEMETRY" "Lcom/example/scopelock/scopelock/Kind;" (.ref u0) := G.1
theorem own_X_u0 {Z : State} {u0 u1 u2 u0_fixedScopes u2_fixedScopes : Addr} (G : own_St Z u0 u1 u2 u0_fixedScopes u2_fixedScopes) : Exa Z Z.heap u0 "com/example/scopelock/scopelock/Kind" := G.2.1
theorem own_S_u1 {Z : State} {u0 u1 u2 u0_fixedScopes u2_fixedScopes : Addr} (G : own_St Z u0 u1 u2 u0_fixedScopes u2_fixedScopes) : Sta Z Z.heap "com/example/scopelock/scopelock/Kind" "CUSTOM" "Lcom/example/scopelock/scopelock/Kind;" (.ref u1) := G.2.2.1
theorem own_X_u1 {Z : State} {u0 u1 u2 u0_fixedScopes u2_fixedScopes : Addr} (G : own_St Z u0 u1 u2 u0_fixedScopes u2_fixedScopes) : Exa Z Z.heap u1 "com/example/scopelock/scopelock/Kind" := G.2.2.2.1
theorem own_S_u2 {Z : State} {u0 u1 u2 u0_fixedScopes u2_fixedScopes : Addr} (G : own_St Z u0 u1 u2 u0_fixedScopes u2_fixedScopes) : Sta Z Z.heap "com/example/scopelock/scopelock/Kind" "SDK_INTEGRATION" "Lcom/example/scopelock/scopelock/Kind;" (.ref u2) := G.2.2.2.2.1
theorem own_X_u2 {Z : State} {u0 u1 u2 u0_fixedScopes u2_fixedScopes : Addr} (G : own_St Z u0 u1 u2 u0_fixedScopes u2_fixedScopes) : Exa Z Z.heap u2 "com/example/scopelock/scopelock/Kind" := G.2.2.2.2.2.1
theorem own_F_u0_fixedScopes {Z : State} {u0 u1 u2 u0_fixedScopes u2_fixedScopes : Addr} (G : own_St Z u0 u1 u2 u0_fixedScopes u2_fixedScopes) : Fld Z Z.heap u0 "com/example/scopelock/scopelock/Kind" "fixedScopes" "Ljava/util/Set;" (.ref u0_fixedScopes) := G.2.2.2.2.2.2.1
theorem own_F_u1_fixedScopes {Z : State} {u0 u1 u2 u0_fixedScopes u2_fixedScopes : Addr} (G : own_St Z u0 u1 u2 u0_fixedScopes u2_fixedScopes) : Fld Z Z.heap u1 "com/example/scopelock/scopelock/Kind" "fixedScopes" "Ljava/util/Set;" .null := G.2.2.2.2.2.2.2.1
theorem own_F_u2_fixedScopes {Z : State} {u0 u1 u2 u0_fixedScopes u2_fixedScopes : Addr} (G : own_St Z u0 u1 u2 u0_fixedScopes u2_fixedScopes) : Fld Z Z.heap u2 "com/example/scopelock/scopelock/Kind" "fixedScopes" "Ljava/util/Set;" (.ref u2_fixedScopes) := G.2.2.2.2.2.2.2.2
theorem own_rem3 (x : Int32) : ((x &&& (2147483647 : Int32)) - ((x &&& (2147483647 : Int32)) / (3 : Int32)) * (3 : Int32)) = (0 : Int32) ∨ ((x &&& (2147483647 : Int32)) - ((x &&& (2147483647 : Int32)) / (3 : Int32)) * (3 : Int32)) = (1 : Int32) ∨ ((x &&& (2147483647 : Int32)) - ((x &&& (2147483647 : Int32)) / (3 : Int32)) * (3 : Int32)) = (2 : Int32) := by
  have h0 := own_mask x
  have h1 := Jvm.LawKit.rem_toInt (x &&& (2147483647 : Int32)) (3 : Int32)
  have h2 : ((3 : Int32)).toInt = 3 := by decide
  rw [h2, Int.tmod_eq_emod_of_nonneg h0] at h1
  have h3 : ((x &&& (2147483647 : Int32)) - ((x &&& (2147483647 : Int32)) / (3 : Int32)) * (3 : Int32)).toInt = 0 ∨ ((x &&& (2147483647 : Int32)) - ((x &&& (2147483647 : Int32)) / (3 : Int32)) * (3 : Int32)).toInt = 1 ∨ ((x &&& (2147483647 : Int32)) - ((x &&& (2147483647 : Int32)) / (3 : Int32)) * (3 : Int32)).toInt = 2 := by omega
  rcases h3 with h | h | h
  · exact Or.inl (Int32.toInt_inj.mp (h.trans (by decide)))
  · exact Or.inr <| Or.inl (Int32.toInt_inj.mp (h.trans (by decide)))
  · exact Or.inr <| Or.inr <| (Int32.toInt_inj.mp (h.trans (by decide)))
theorem d1_0 : decode prog_16_method_6_code 0 = .ok (.aload_n 0, 1) := by decide +kernel
theorem d1_1 : decode prog_16_method_6_code 1 = .ok (.getfield 42, 3) := by decide +kernel
theorem d1_4 : decode prog_16_method_6_code 4 = .ok (.ifnull 7, 3) := by decide +kernel
theorem d1_7 : decode prog_16_method_6_code 7 = .ok (.iconst 1, 1) := by decide +kernel
theorem d1_8 : decode prog_16_method_6_code 8 = .ok (.goto 4, 3) := by decide +kernel
theorem d1_12 : decode prog_16_method_6_code 12 = .ok (.ireturn, 1) := by decide +kernel
abbrev Y0 : MethodName := (⟨"com/example/scopelock/scopelock/Kind", "immutable", "()Z"⟩ : MethodName)
theorem pn0 : plainName "com/example/scopelock/scopelock/Kind" = true := by first | (simp [plainName, overriddenIn]; done) | decide +kernel
theorem ef_own_c0_immutable (m : MethodId) (u0 u1 u2 u0_fixedScopes u2_fixedScopes : Addr) : entryFrame m #[xr u0] 1 = (mkF m 0 #[vr u0] []) := by first | (simp [entryFrame, mkF, argsToLocals, Value.category]; done) | rfl
set_option maxRecDepth 65536 in
set_option maxHeartbeats 40000000 in
theorem own_c0_immutable (l : Launch) (Z : State) (a0 : Array Value) (hw : ∀ d ∈ tables_1, d.before a0 Z = true) (u0 u1 u2 u0_fixedScopes u2_fixedScopes : Addr) (G : own_St Z u0 u1 u2 u0_fixedScopes u2_fixedScopes) (h0 : Heap) (n0 : Nat) (O0 : Old Z n0 h0) : own_Met l Z Y0 prog_16_method_6_code 1 (some .boolean) ({ frames := 0, cells := 0, slots := 0, locals := 0 } : Room) #[xr u0] h0 (own_QR (some (xi (1 : Int32))) h0 n0) := by
  intro ws
  refine MetFree.of_bodySF (plainFor_of_name pn0) hisR ?_
  intro p e s m args below meth c s₁ Bd hml0 hP hK
  obtain ⟨rfl, hZ, hh⟩ := hP
  have hx := Bd.exec
  have hby := Bd.bytes
  have hml : c.maxLocals = 1 := hml0
  have hown : s.vm.findClass "com/example/scopelock/scopelock/Kind" = some m.cls := findClass_of_methodNamed Bd.named
  have hnm := (name_of_methodNamed Bd.named Bd.method).1
  have X0 : Stand p l e ({ frames := 0, cells := 0, slots := 0, locals := 0 } : Room) s m #[xr u0] below meth c s₁ [] 0 0 := Stand.of_body Bd
  have e0 : s₁.heap = h0 := by rw [← hh, Bd.state]; rfl
  have N0 := Fr.nil n0
  have pre0 : ∀ t, Steps p.tables e below (s₁.setTop (mkF m 0 #[vr u0] [])) t → Steps p.tables e below (s₁.setTop (entryFrame m #[xr u0] 1)) t := fun t k => castTop (ef_own_c0_immutable m u0 u1 u2 u0_fixedScopes u2_fixedScopes) k
  obtain ⟨T1, X1, e1, st1⟩ := getF X0 hx hZ hown (host := "") (Or.inl (ww hw 9 rfl)) Via.refl e0 ((own_F_u0_fixedScopes G).ext O0.2) (g := (mkF m 1 #[vr u0] [xr u0])) rfl rfl (hb hby d1_1)
  obtain ⟨fs, hr, hrun, hended, hW, hsame⟩ := X1.leave (v := some (xi (1 : Int32))) (fun h => by rw [Bd.returns] at h; cases h)
  refine ⟨_, _, pre0 _ ?_, hrun, hended, _, _, rfl, ?_, ⟨_, rfl⟩, hW, hsame.mono (by decide) (by decide)⟩
  · show own_S p e below s₁ (mkF m 0 #[vr u0] []) _
    refine XS.aloadN X0.here hx rfl (hb hby d1_0) rfl rfl ?_
    show own_S p e below s₁ (mkF m 1 #[vr u0] [xr u0]) _
    refine st1 _ ?_
    show own_S p e below T1 (mkF m 4 #[vr u0] [xr u0_fixedScopes]) _
    refine XS.ifnullNo X1.here hx rfl (hb hby d1_4) rfl ?_
    show own_S p e below T1 (mkF m 7 #[vr u0] []) _
    refine XS.iconst X1.here hx rfl (hb hby d1_7) ?_
    show own_S p e below T1 (mkF m 8 #[vr u0] [xi (1 : Int32)]) _
    refine XS.goto X1.here hx rfl (pc0 := 8) (pc' := 12) rfl (hb hby d1_8) (by decide) (by decide) ?_
    show own_S p e below T1 (mkF m 12 #[vr u0] [xi (1 : Int32)]) _
    exact retN X1 hx (t := .boolean) Bd.returns (by simp) (hb hby d1_12) hr
  · exact ⟨rfl, N0, e1⟩
theorem pd0 : parseMethodDescriptor "()Z" = some ⟨[], some .boolean⟩ := by decide +kernel
theorem d2_0 : decode prog_16_method_7_code 0 = .ok (.aload_n 0, 1) := by decide +kernel
theorem d2_1 : decode prog_16_method_7_code 1 = .ok (.invokevirtual 52, 3) := by decide +kernel
theorem d2_4 : decode prog_16_method_7_code 4 = .ok (.ifCond .ne 7, 3) := by decide +kernel
theorem d2_11 : decode prog_16_method_7_code 11 = .ok (.iconst 0, 1) := by decide +kernel
theorem d2_12 : decode prog_16_method_7_code 12 = .ok (.ireturn, 1) := by decide +kernel
abbrev Y1 : MethodName := (⟨"com/example/scopelock/scopelock/Kind", "managesKeys", "()Z"⟩ : MethodName)
theorem ef_own_c1_managesKeys (m : MethodId) (u0 u1 u2 u0_fixedScopes u2_fixedScopes : Addr) : entryFrame m #[xr u0] 1 = (mkF m 0 #[vr u0] []) := by first | (simp [entryFrame, mkF, argsToLocals, Value.category]; done) | rfl
set_option maxRecDepth 65536 in
set_option maxHeartbeats 40000000 in
theorem own_c1_managesKeys (l : Launch) (Z : State) (a0 : Array Value) (hw : ∀ d ∈ tables_1, d.before a0 Z = true) (u0 u1 u2 u0_fixedScopes u2_fixedScopes : Addr) (G : own_St Z u0 u1 u2 u0_fixedScopes u2_fixedScopes) (h0 : Heap) (n0 : Nat) (O0 : Old Z n0 h0) : own_Met l Z Y1 prog_16_method_7_code 1 (some .boolean) ({ frames := 1, cells := 0, slots := 0, locals := 12 } : Room) #[xr u0] h0 (own_QR (some (xi (0 : Int32))) h0 n0) := by
  intro ws
  refine MetFree.of_bodySF (plainFor_of_name pn0) hisR ?_
  intro p e s m args below meth c s₁ Bd hml0 hP hK
  obtain ⟨rfl, hZ, hh⟩ := hP
  have hx := Bd.exec
  have hby := Bd.bytes
  have hml : c.maxLocals = 1 := hml0
  have hown : s.vm.findClass "com/example/scopelock/scopelock/Kind" = some m.cls := findClass_of_methodNamed Bd.named
  have hnm := (name_of_methodNamed Bd.named Bd.method).1
  have X0 : Stand p l e ({ frames := 1, cells := 0, slots := 0, locals := 12 } : Room) s m #[xr u0] below meth c s₁ [] 0 0 := Stand.of_body Bd
  have e0 : s₁.heap = h0 := by rw [← hh, Bd.state]; rfl
  have N0 := Fr.nil n0
  have pre0 : ∀ t, Steps p.tables e below (s₁.setTop (mkF m 0 #[vr u0] [])) t → Steps p.tables e below (s₁.setTop (entryFrame m #[xr u0] 1)) t := fun t k => castTop (ef_own_c1_managesKeys m u0 u1 u2 u0_fixedScopes u2_fixedScopes) k
  obtain ⟨cq1, kq1, qa1, qb1, qc1⟩ := isOf hZ e0 ((own_X_u0 G).ext O0.2)
  obtain ⟨_, _, ⟨T1, L1, k1, n1⟩, -, X1, ⟨Lc1, hQ1, l1, y1, z1⟩, st1⟩ := X0.virtualBack hx (y := Y0) (z := Y0) hown (mvT hZ (ww hw 16 rfl)) (mvT hZ (ww hw 5 rfl)) (notFace_of_selects (args := #[]) (mvT hZ (ww hw 7 rfl))) (mvT hZ (ww hw 7 rfl)) (mvT hZ (ww hw 6 rfl)) (by decide) (backOf (W := 0) (own_c0_immutable l Z a0 hw u0 u1 u2 u0_fixedScopes u2_fixedScopes G h0 n0 O0 []) hZ (ww hw 8 rfl) (ww hw 2 rfl) (by decide) (by decide)) qa1 qc1 (g := (mkF m 1 #[vr u0] [xr u0])) rfl (by rw [hml]; rfl) (Steps.refl _) (argsL := []) (rest := []) (lenOf pd0 rfl) rfl (by show 2 * 0 + _ ≤ _; exact Nat.le_of_eq rfl) (hb hby d2_1) (fun _ _ => ⟨rfl, e0, (by decide : 0 + 0 ≤ _), (by decide : 0 + 0 ≤ _)⟩)
  dsimp only [Pt.U, Pt.locs, Pt.cells, Pt.slots] at X1 l1 y1 z1 st1 hQ1
  subst l1 y1 z1
  obtain ⟨rfl, Nq1, e1⟩ := hQ1
  have N1 := Fr.app N0 Nq1
  obtain ⟨fs, hr, hrun, hended, hW, hsame⟩ := X1.leave (v := some (xi (0 : Int32))) (fun h => by rw [Bd.returns] at h; cases h)
  refine ⟨_, _, pre0 _ ?_, hrun, hended, _, _, rfl, ?_, ⟨_, rfl⟩, hW, hsame.mono (by decide) (by decide)⟩
  · show own_S p e below s₁ (mkF m 0 #[vr u0] []) _
    refine XS.aloadN X0.here hx rfl (hb hby d2_0) rfl rfl ?_
    show own_S p e below s₁ (mkF m 1 #[vr u0] [xr u0]) _
    refine st1.trans ?_
    show own_S p e below T1 (mkF m 4 #[vr u0] [xi (1 : Int32)]) _
    refine XS.ifYes X1.here hx rfl (pc0 := 4) (pc' := 11) rfl (hb hby d2_4) rfl (by decide) (by decide) (by decide) ?_
    show own_S p e below T1 (mkF m 11 #[vr u0] []) _
    refine XS.iconst X1.here hx rfl (hb hby d2_11) ?_
    show own_S p e below T1 (mkF m 12 #[vr u0] [xi (0 : Int32)]) _
    exact retN X1 hx (t := .boolean) Bd.returns (by simp) (hb hby d2_12) hr
  · exact ⟨rfl, N1, e1⟩
theorem pn1 : plainName "com/example/scopelock/scopelock/KindImmutablePinLaw" = true := by first | (simp [plainName, overriddenIn]; done) | decide +kernel
theorem ef_own_l0 (m : MethodId) (u0 u1 u2 u0_fixedScopes u2_fixedScopes : Addr) (p1 : Int32) : entryFrame m #[xi p1] maxLocals = (mkF m 0 #[vi p1, vu, vu, vu, vu, vu] []) := by first | (simp [entryFrame, mkF, argsToLocals, Value.category, maxLocals]; done) | rfl
set_option maxRecDepth 65536 in
set_option maxHeartbeats 40000000 in
theorem own_l0 (l : Launch) (Z : State) (a0 : Array Value) (hw : ∀ d ∈ tables_1, d.before a0 Z = true) (u0 u1 u2 u0_fixedScopes u2_fixedScopes : Addr) (G : own_St Z u0 u1 u2 u0_fixedScopes u2_fixedScopes) (p1 : Int32) (as0 : ((p1 &&& (2147483647 : Int32)) - ((p1 &&& (2147483647 : Int32)) / (3 : Int32)) * (3 : Int32)) = (0 : Int32)) (h0 : Heap) (n0 : Nat) (O0 : Old Z n0 h0) : own_Met l Z x code maxLocals ret room_1 #[xi p1] h0 (own_QL (some (xi (1 : Int32))) n0) := by
  intro ws
  refine MetFree.of_bodySF (plainFor_of_name pn1) hisR ?_
  intro p e s m args below meth c s₁ Bd hml0 hP hK
  obtain ⟨rfl, hZ, hh⟩ := hP
  have hx := Bd.exec
  have hby := Bd.bytes
  have hml : c.maxLocals = 6 := hml0
  have hown : s.vm.findClass "com/example/scopelock/scopelock/KindImmutablePinLaw" = some m.cls := findClass_of_methodNamed Bd.named
  have hnm := (name_of_methodNamed Bd.named Bd.method).1
  have X0 : Stand p l e room_1 s m #[xi p1] below meth c s₁ [] 0 0 := Stand.of_body Bd
  have e0 : s₁.heap = h0 := by rw [← hh, Bd.state]; rfl
  have N0 := Fr.nil n0
  have pre0 : ∀ t, Steps p.tables e below (s₁.setTop (mkF m 0 #[vi p1, vu, vu, vu, vu, vu] [])) t → Steps p.tables e below (s₁.setTop (entryFrame m #[xi p1] maxLocals)) t := fun t k => castTop (ef_own_l0 m u0 u1 u2 u0_fixedScopes u2_fixedScopes p1) k
  obtain ⟨T1, X1, e1, st1⟩ := getS2 X0 hx hZ hown (host := "") (Or.inl (ww hw 1 rfl)) Via.refl e0 ((own_S_u0 G).ext O0.2) (g := (mkF m 11 #[vi p1, vi (0 : Int32), vu, vu, vu, vu] [])) rfl (hb hby at_11)
  obtain ⟨cq2, kq2, qa2, qb2, qc2⟩ := isOf hZ e1 ((own_X_u0 G).ext O0.2)
  obtain ⟨_, _, ⟨T2, L2, k2, n2⟩, -, X2, ⟨Lc2, hQ2, l2, y2, z2⟩, st2⟩ := X1.virtualBack hx (y := Y0) (z := Y0) hown (mvT hZ (ww hw 4 rfl)) (mvT hZ (ww hw 5 rfl)) (notFace_of_selects (args := #[]) (mvT hZ (ww hw 7 rfl))) (mvT hZ (ww hw 7 rfl)) (mvT hZ (ww hw 6 rfl)) (by decide) (backOf (W := 0) (own_c0_immutable l Z a0 hw u0 u1 u2 u0_fixedScopes u2_fixedScopes G h0 n0 O0 []) hZ (ww hw 8 rfl) (ww hw 2 rfl) (by decide) (by decide)) qa2 qc2 (g := (mkF m 46 #[vi p1, vi (0 : Int32), vr u0, vi (1 : Int32), vu, vu] [xr u0])) rfl (by rw [hml]; rfl) (Steps.refl _) (argsL := []) (rest := []) (lenOf pd0 rfl) rfl (by show 2 * 0 + _ ≤ _; exact Nat.le_of_eq rfl) (hb hby at_46) (fun _ _ => ⟨rfl, e1, (by decide : 0 + 0 ≤ _), (by decide : 0 + 0 ≤ _)⟩)
  dsimp only [Pt.U, Pt.locs, Pt.cells, Pt.slots] at X2 l2 y2 z2 st2 hQ2
  subst l2 y2 z2
  obtain ⟨rfl, Nq2, e2⟩ := hQ2
  have N2 := Fr.app N0 Nq2
  obtain ⟨cq3, kq3, qa3, qb3, qc3⟩ := isOf hZ e2 ((own_X_u0 G).ext O0.2)
  obtain ⟨_, _, ⟨T3, L3, k3, n3⟩, -, X3, ⟨Lc3, hQ3, l3, y3, z3⟩, st3⟩ := X2.virtualBack hx (y := Y1) (z := Y1) hown (mvT hZ (ww hw 11 rfl)) (mvT hZ (ww hw 12 rfl)) (notFace_of_selects (args := #[]) (mvT hZ (ww hw 14 rfl))) (mvT hZ (ww hw 14 rfl)) (mvT hZ (ww hw 13 rfl)) (by decide) (backOf (W := 0) (own_c1_managesKeys l Z a0 hw u0 u1 u2 u0_fixedScopes u2_fixedScopes G h0 n0 O0 []) hZ (ww hw 15 rfl) (ww hw 2 rfl) (by decide) (by decide)) qa3 qc3 (g := (mkF m 52 #[vi p1, vi (0 : Int32), vr u0, vi (1 : Int32), vi (1 : Int32), vu] [xr u0])) rfl (by rw [hml]; rfl) (Steps.refl _) (argsL := []) (rest := []) (lenOf pd0 rfl) rfl (by show 2 * 0 + _ ≤ _; exact Nat.le_of_eq rfl) (hb hby at_52) (fun _ _ => ⟨rfl, e2, (by decide : 0 + 0 ≤ _), (by decide : 0 + 0 ≤ _)⟩)
  dsimp only [Pt.U, Pt.locs, Pt.cells, Pt.slots] at X3 l3 y3 z3 st3 hQ3
  subst l3 y3 z3
  obtain ⟨rfl, Nq3, e3⟩ := hQ3
  have N3 := Fr.app N2 Nq3
  obtain ⟨fs, hr, hrun, hended, hW, hsame⟩ := X3.leave (v := some (xi (1 : Int32))) (fun h => by rw [Bd.returns] at h; cases h)
  refine ⟨_, _, pre0 _ ?_, hrun, hended, _, _, rfl, ?_, ⟨_, rfl⟩, hW, hsame.mono (by decide) (by decide)⟩
  · show own_S p e below s₁ (mkF m 0 #[vi p1, vu, vu, vu, vu, vu] []) _
    refine XS.iloadN X0.here hx rfl (hb hby at_0) rfl ?_
    show own_S p e below s₁ (mkF m 1 #[vi p1, vu, vu, vu, vu, vu] [xi p1]) _
    refine X0.ldcI hx hown (mvT hZ (ww hw 0 rfl)) (g := (mkF m 1 #[vi p1, vu, vu, vu, vu, vu] [xi p1])) rfl (hb hby at_1) ?_
    show own_S p e below s₁ (mkF m 3 #[vi p1, vu, vu, vu, vu, vu] [xi (2147483647 : Int32), xi p1]) _
    refine XS.iand X0.here hx rfl (hb hby at_3) rfl ?_
    show own_S p e below s₁ (mkF m 4 #[vi p1, vu, vu, vu, vu, vu] [xi (p1 &&& (2147483647 : Int32))]) _
    show own_S p e below s₁ (mkF m 4 #[vi p1, vu, vu, vu, vu, vu] [xi (p1 &&& (2147483647 : Int32))]) _
    refine XS.iconst X0.here hx rfl (hb hby at_4) ?_
    show own_S p e below s₁ (mkF m 5 #[vi p1, vu, vu, vu, vu, vu] [xi (3 : Int32), xi (p1 &&& (2147483647 : Int32))]) _
    refine XS.irem X0.here hx rfl (hb hby at_5) rfl (by decide) ?_
    show own_S p e below s₁ (mkF m 6 #[vi p1, vu, vu, vu, vu, vu] [xi ((p1 &&& (2147483647 : Int32)) - ((p1 &&& (2147483647 : Int32)) / (3 : Int32)) * (3 : Int32))]) _
    refine castTop (show (mkF m 6 #[vi p1, vu, vu, vu, vu, vu] [xi ((p1 &&& (2147483647 : Int32)) - ((p1 &&& (2147483647 : Int32)) / (3 : Int32)) * (3 : Int32))]) = (mkF m 6 #[vi p1, vu, vu, vu, vu, vu] [xi (0 : Int32)]) from by rw [as0]) ?_
    show own_S p e below s₁ (mkF m 6 #[vi p1, vu, vu, vu, vu, vu] [xi (0 : Int32)]) _
    refine XS.istoreN X0.here hx rfl (hb hby at_6) rfl (l' := #[vi p1, vi (0 : Int32), vu, vu, vu, vu]) rfl ?_
    show own_S p e below s₁ (mkF m 7 #[vi p1, vi (0 : Int32), vu, vu, vu, vu] []) _
    refine XS.iloadN X0.here hx rfl (hb hby at_7) rfl ?_
    show own_S p e below s₁ (mkF m 8 #[vi p1, vi (0 : Int32), vu, vu, vu, vu] [xi (0 : Int32)]) _
    refine XS.ifNo X0.here hx rfl (hb hby at_8) rfl (by decide) ?_
    show own_S p e below s₁ (mkF m 11 #[vi p1, vi (0 : Int32), vu, vu, vu, vu] []) _
    refine st1 _ ?_
    show own_S p e below T1 (mkF m 14 #[vi p1, vi (0 : Int32), vu, vu, vu, vu] [xr u0]) _
    refine XS.astoreN X1.here hx rfl (hb hby at_14) rfl rfl (l' := #[vi p1, vi (0 : Int32), vr u0, vu, vu, vu]) rfl ?_
    show own_S p e below T1 (mkF m 15 #[vi p1, vi (0 : Int32), vr u0, vu, vu, vu] []) _
    refine XS.goto X1.here hx rfl (pc0 := 15) (pc' := 34) rfl (hb hby at_15) (by decide) (by decide) ?_
    show own_S p e below T1 (mkF m 34 #[vi p1, vi (0 : Int32), vr u0, vu, vu, vu] []) _
    refine XS.iloadN X1.here hx rfl (hb hby at_34) rfl ?_
    show own_S p e below T1 (mkF m 35 #[vi p1, vi (0 : Int32), vr u0, vu, vu, vu] [xi (0 : Int32)]) _
    refine XS.iconst X1.here hx rfl (hb hby at_35) ?_
    show own_S p e below T1 (mkF m 36 #[vi p1, vi (0 : Int32), vr u0, vu, vu, vu] [xi (2 : Int32), xi (0 : Int32)]) _
    refine XS.icmpNo X1.here hx rfl (hb hby at_36) rfl (by decide) ?_
    show own_S p e below T1 (mkF m 39 #[vi p1, vi (0 : Int32), vr u0, vu, vu, vu] []) _
    refine XS.iconst X1.here hx rfl (hb hby at_39) ?_
    show own_S p e below T1 (mkF m 40 #[vi p1, vi (0 : Int32), vr u0, vu, vu, vu] [xi (1 : Int32)]) _
    refine XS.goto X1.here hx rfl (pc0 := 40) (pc' := 44) rfl (hb hby at_40) (by decide) (by decide) ?_
    show own_S p e below T1 (mkF m 44 #[vi p1, vi (0 : Int32), vr u0, vu, vu, vu] [xi (1 : Int32)]) _
    refine XS.istoreN X1.here hx rfl (hb hby at_44) rfl (l' := #[vi p1, vi (0 : Int32), vr u0, vi (1 : Int32), vu, vu]) rfl ?_
    show own_S p e below T1 (mkF m 45 #[vi p1, vi (0 : Int32), vr u0, vi (1 : Int32), vu, vu] []) _
    refine XS.aloadN X1.here hx rfl (hb hby at_45) rfl rfl ?_
    show own_S p e below T1 (mkF m 46 #[vi p1, vi (0 : Int32), vr u0, vi (1 : Int32), vu, vu] [xr u0]) _
    refine st2.trans ?_
    show own_S p e below T2 (mkF m 49 #[vi p1, vi (0 : Int32), vr u0, vi (1 : Int32), vu, vu] [xi (1 : Int32)]) _
    refine XS.istore X2.here hx rfl (hb hby at_49) rfl (l' := #[vi p1, vi (0 : Int32), vr u0, vi (1 : Int32), vi (1 : Int32), vu]) rfl ?_
    show own_S p e below T2 (mkF m 51 #[vi p1, vi (0 : Int32), vr u0, vi (1 : Int32), vi (1 : Int32), vu] []) _
    refine XS.aloadN X2.here hx rfl (hb hby at_51) rfl rfl ?_
    show own_S p e below T2 (mkF m 52 #[vi p1, vi (0 : Int32), vr u0, vi (1 : Int32), vi (1 : Int32), vu] [xr u0]) _
    refine st3.trans ?_
    show own_S p e below T3 (mkF m 55 #[vi p1, vi (0 : Int32), vr u0, vi (1 : Int32), vi (1 : Int32), vu] [xi (0 : Int32)]) _
    refine XS.istore X3.here hx rfl (hb hby at_55) rfl (l' := #[vi p1, vi (0 : Int32), vr u0, vi (1 : Int32), vi (1 : Int32), vi (0 : Int32)]) rfl ?_
    show own_S p e below T3 (mkF m 57 #[vi p1, vi (0 : Int32), vr u0, vi (1 : Int32), vi (1 : Int32), vi (0 : Int32)] []) _
    refine XS.iload X3.here hx rfl (hb hby at_57) rfl ?_
    show own_S p e below T3 (mkF m 59 #[vi p1, vi (0 : Int32), vr u0, vi (1 : Int32), vi (1 : Int32), vi (0 : Int32)] [xi (1 : Int32)]) _
    refine XS.iloadN X3.here hx rfl (hb hby at_59) rfl ?_
    show own_S p e below T3 (mkF m 60 #[vi p1, vi (0 : Int32), vr u0, vi (1 : Int32), vi (1 : Int32), vi (0 : Int32)] [xi (1 : Int32), xi (1 : Int32)]) _
    refine XS.icmpNo X3.here hx rfl (hb hby at_60) rfl (by decide) ?_
    show own_S p e below T3 (mkF m 63 #[vi p1, vi (0 : Int32), vr u0, vi (1 : Int32), vi (1 : Int32), vi (0 : Int32)] []) _
    refine XS.iload X3.here hx rfl (hb hby at_63) rfl ?_
    show own_S p e below T3 (mkF m 65 #[vi p1, vi (0 : Int32), vr u0, vi (1 : Int32), vi (1 : Int32), vi (0 : Int32)] [xi (0 : Int32)]) _
    refine XS.iloadN X3.here hx rfl (hb hby at_65) rfl ?_
    show own_S p e below T3 (mkF m 66 #[vi p1, vi (0 : Int32), vr u0, vi (1 : Int32), vi (1 : Int32), vi (0 : Int32)] [xi (1 : Int32), xi (0 : Int32)]) _
    refine XS.ifYes X3.here hx rfl (pc0 := 66) (pc' := 73) rfl (hb hby at_66) rfl (by decide) (by decide) (by decide) ?_
    show own_S p e below T3 (mkF m 73 #[vi p1, vi (0 : Int32), vr u0, vi (1 : Int32), vi (1 : Int32), vi (0 : Int32)] [xi (0 : Int32)]) _
    refine XS.iconst X3.here hx rfl (hb hby at_73) ?_
    show own_S p e below T3 (mkF m 74 #[vi p1, vi (0 : Int32), vr u0, vi (1 : Int32), vi (1 : Int32), vi (0 : Int32)] [xi (0 : Int32), xi (0 : Int32)]) _
    refine XS.icmpNo X3.here hx rfl (hb hby at_74) rfl (by decide) ?_
    show own_S p e below T3 (mkF m 77 #[vi p1, vi (0 : Int32), vr u0, vi (1 : Int32), vi (1 : Int32), vi (0 : Int32)] []) _
    refine XS.iconst X3.here hx rfl (hb hby at_77) ?_
    show own_S p e below T3 (mkF m 78 #[vi p1, vi (0 : Int32), vr u0, vi (1 : Int32), vi (1 : Int32), vi (0 : Int32)] [xi (1 : Int32)]) _
    refine XS.goto X3.here hx rfl (pc0 := 78) (pc' := 82) rfl (hb hby at_78) (by decide) (by decide) ?_
    show own_S p e below T3 (mkF m 82 #[vi p1, vi (0 : Int32), vr u0, vi (1 : Int32), vi (1 : Int32), vi (0 : Int32)] [xi (1 : Int32)]) _
    exact retN X3 hx (t := .boolean) Bd.returns (by simp) (hb hby at_82) hr
  · exact ⟨rfl, N3⟩
theorem ef_own_c2_immutable (m : MethodId) (u0 u1 u2 u0_fixedScopes u2_fixedScopes : Addr) : entryFrame m #[xr u2] 1 = (mkF m 0 #[vr u2] []) := by first | (simp [entryFrame, mkF, argsToLocals, Value.category]; done) | rfl
set_option maxRecDepth 65536 in
set_option maxHeartbeats 40000000 in
theorem own_c2_immutable (l : Launch) (Z : State) (a0 : Array Value) (hw : ∀ d ∈ tables_1, d.before a0 Z = true) (u0 u1 u2 u0_fixedScopes u2_fixedScopes : Addr) (G : own_St Z u0 u1 u2 u0_fixedScopes u2_fixedScopes) (h0 : Heap) (n0 : Nat) (O0 : Old Z n0 h0) : own_Met l Z Y0 prog_16_method_6_code 1 (some .boolean) ({ frames := 0, cells := 0, slots := 0, locals := 0 } : Room) #[xr u2] h0 (own_QR (some (xi (1 : Int32))) h0 n0) := by
  intro ws
  refine MetFree.of_bodySF (plainFor_of_name pn0) hisR ?_
  intro p e s m args below meth c s₁ Bd hml0 hP hK
  obtain ⟨rfl, hZ, hh⟩ := hP
  have hx := Bd.exec
  have hby := Bd.bytes
  have hml : c.maxLocals = 1 := hml0
  have hown : s.vm.findClass "com/example/scopelock/scopelock/Kind" = some m.cls := findClass_of_methodNamed Bd.named
  have hnm := (name_of_methodNamed Bd.named Bd.method).1
  have X0 : Stand p l e ({ frames := 0, cells := 0, slots := 0, locals := 0 } : Room) s m #[xr u2] below meth c s₁ [] 0 0 := Stand.of_body Bd
  have e0 : s₁.heap = h0 := by rw [← hh, Bd.state]; rfl
  have N0 := Fr.nil n0
  have pre0 : ∀ t, Steps p.tables e below (s₁.setTop (mkF m 0 #[vr u2] [])) t → Steps p.tables e below (s₁.setTop (entryFrame m #[xr u2] 1)) t := fun t k => castTop (ef_own_c2_immutable m u0 u1 u2 u0_fixedScopes u2_fixedScopes) k
  obtain ⟨T1, X1, e1, st1⟩ := getF X0 hx hZ hown (host := "") (Or.inl (ww hw 9 rfl)) Via.refl e0 ((own_F_u2_fixedScopes G).ext O0.2) (g := (mkF m 1 #[vr u2] [xr u2])) rfl rfl (hb hby d1_1)
  obtain ⟨fs, hr, hrun, hended, hW, hsame⟩ := X1.leave (v := some (xi (1 : Int32))) (fun h => by rw [Bd.returns] at h; cases h)
  refine ⟨_, _, pre0 _ ?_, hrun, hended, _, _, rfl, ?_, ⟨_, rfl⟩, hW, hsame.mono (by decide) (by decide)⟩
  · show own_S p e below s₁ (mkF m 0 #[vr u2] []) _
    refine XS.aloadN X0.here hx rfl (hb hby d1_0) rfl rfl ?_
    show own_S p e below s₁ (mkF m 1 #[vr u2] [xr u2]) _
    refine st1 _ ?_
    show own_S p e below T1 (mkF m 4 #[vr u2] [xr u2_fixedScopes]) _
    refine XS.ifnullNo X1.here hx rfl (hb hby d1_4) rfl ?_
    show own_S p e below T1 (mkF m 7 #[vr u2] []) _
    refine XS.iconst X1.here hx rfl (hb hby d1_7) ?_
    show own_S p e below T1 (mkF m 8 #[vr u2] [xi (1 : Int32)]) _
    refine XS.goto X1.here hx rfl (pc0 := 8) (pc' := 12) rfl (hb hby d1_8) (by decide) (by decide) ?_
    show own_S p e below T1 (mkF m 12 #[vr u2] [xi (1 : Int32)]) _
    exact retN X1 hx (t := .boolean) Bd.returns (by simp) (hb hby d1_12) hr
  · exact ⟨rfl, N0, e1⟩
theorem ef_own_c3_managesKeys (m : MethodId) (u0 u1 u2 u0_fixedScopes u2_fixedScopes : Addr) : entryFrame m #[xr u2] 1 = (mkF m 0 #[vr u2] []) := by first | (simp [entryFrame, mkF, argsToLocals, Value.category]; done) | rfl
set_option maxRecDepth 65536 in
set_option maxHeartbeats 40000000 in
theorem own_c3_managesKeys (l : Launch) (Z : State) (a0 : Array Value) (hw : ∀ d ∈ tables_1, d.before a0 Z = true) (u0 u1 u2 u0_fixedScopes u2_fixedScopes : Addr) (G : own_St Z u0 u1 u2 u0_fixedScopes u2_fixedScopes) (h0 : Heap) (n0 : Nat) (O0 : Old Z n0 h0) : own_Met l Z Y1 prog_16_method_7_code 1 (some .boolean) ({ frames := 1, cells := 0, slots := 0, locals := 12 } : Room) #[xr u2] h0 (own_QR (some (xi (0 : Int32))) h0 n0) := by
  intro ws
  refine MetFree.of_bodySF (plainFor_of_name pn0) hisR ?_
  intro p e s m args below meth c s₁ Bd hml0 hP hK
  obtain ⟨rfl, hZ, hh⟩ := hP
  have hx := Bd.exec
  have hby := Bd.bytes
  have hml : c.maxLocals = 1 := hml0
  have hown : s.vm.findClass "com/example/scopelock/scopelock/Kind" = some m.cls := findClass_of_methodNamed Bd.named
  have hnm := (name_of_methodNamed Bd.named Bd.method).1
  have X0 : Stand p l e ({ frames := 1, cells := 0, slots := 0, locals := 12 } : Room) s m #[xr u2] below meth c s₁ [] 0 0 := Stand.of_body Bd
  have e0 : s₁.heap = h0 := by rw [← hh, Bd.state]; rfl
  have N0 := Fr.nil n0
  have pre0 : ∀ t, Steps p.tables e below (s₁.setTop (mkF m 0 #[vr u2] [])) t → Steps p.tables e below (s₁.setTop (entryFrame m #[xr u2] 1)) t := fun t k => castTop (ef_own_c3_managesKeys m u0 u1 u2 u0_fixedScopes u2_fixedScopes) k
  obtain ⟨cq1, kq1, qa1, qb1, qc1⟩ := isOf hZ e0 ((own_X_u2 G).ext O0.2)
  obtain ⟨_, _, ⟨T1, L1, k1, n1⟩, -, X1, ⟨Lc1, hQ1, l1, y1, z1⟩, st1⟩ := X0.virtualBack hx (y := Y0) (z := Y0) hown (mvT hZ (ww hw 16 rfl)) (mvT hZ (ww hw 5 rfl)) (notFace_of_selects (args := #[]) (mvT hZ (ww hw 7 rfl))) (mvT hZ (ww hw 7 rfl)) (mvT hZ (ww hw 6 rfl)) (by decide) (backOf (W := 0) (own_c2_immutable l Z a0 hw u0 u1 u2 u0_fixedScopes u2_fixedScopes G h0 n0 O0 []) hZ (ww hw 8 rfl) (ww hw 2 rfl) (by decide) (by decide)) qa1 qc1 (g := (mkF m 1 #[vr u2] [xr u2])) rfl (by rw [hml]; rfl) (Steps.refl _) (argsL := []) (rest := []) (lenOf pd0 rfl) rfl (by show 2 * 0 + _ ≤ _; exact Nat.le_of_eq rfl) (hb hby d2_1) (fun _ _ => ⟨rfl, e0, (by decide : 0 + 0 ≤ _), (by decide : 0 + 0 ≤ _)⟩)
  dsimp only [Pt.U, Pt.locs, Pt.cells, Pt.slots] at X1 l1 y1 z1 st1 hQ1
  subst l1 y1 z1
  obtain ⟨rfl, Nq1, e1⟩ := hQ1
  have N1 := Fr.app N0 Nq1
  obtain ⟨fs, hr, hrun, hended, hW, hsame⟩ := X1.leave (v := some (xi (0 : Int32))) (fun h => by rw [Bd.returns] at h; cases h)
  refine ⟨_, _, pre0 _ ?_, hrun, hended, _, _, rfl, ?_, ⟨_, rfl⟩, hW, hsame.mono (by decide) (by decide)⟩
  · show own_S p e below s₁ (mkF m 0 #[vr u2] []) _
    refine XS.aloadN X0.here hx rfl (hb hby d2_0) rfl rfl ?_
    show own_S p e below s₁ (mkF m 1 #[vr u2] [xr u2]) _
    refine st1.trans ?_
    show own_S p e below T1 (mkF m 4 #[vr u2] [xi (1 : Int32)]) _
    refine XS.ifYes X1.here hx rfl (pc0 := 4) (pc' := 11) rfl (hb hby d2_4) rfl (by decide) (by decide) (by decide) ?_
    show own_S p e below T1 (mkF m 11 #[vr u2] []) _
    refine XS.iconst X1.here hx rfl (hb hby d2_11) ?_
    show own_S p e below T1 (mkF m 12 #[vr u2] [xi (0 : Int32)]) _
    exact retN X1 hx (t := .boolean) Bd.returns (by simp) (hb hby d2_12) hr
  · exact ⟨rfl, N1, e1⟩
theorem ef_own_l1 (m : MethodId) (u0 u1 u2 u0_fixedScopes u2_fixedScopes : Addr) (p1 : Int32) : entryFrame m #[xi p1] maxLocals = (mkF m 0 #[vi p1, vu, vu, vu, vu, vu] []) := by first | (simp [entryFrame, mkF, argsToLocals, Value.category, maxLocals]; done) | rfl
set_option maxRecDepth 65536 in
set_option maxHeartbeats 40000000 in
theorem own_l1 (l : Launch) (Z : State) (a0 : Array Value) (hw : ∀ d ∈ tables_1, d.before a0 Z = true) (u0 u1 u2 u0_fixedScopes u2_fixedScopes : Addr) (G : own_St Z u0 u1 u2 u0_fixedScopes u2_fixedScopes) (p1 : Int32) (as1 : ((p1 &&& (2147483647 : Int32)) - ((p1 &&& (2147483647 : Int32)) / (3 : Int32)) * (3 : Int32)) = (1 : Int32)) (h0 : Heap) (n0 : Nat) (O0 : Old Z n0 h0) : own_Met l Z x code maxLocals ret room_1 #[xi p1] h0 (own_QL (some (xi (1 : Int32))) n0) := by
  intro ws
  refine MetFree.of_bodySF (plainFor_of_name pn1) hisR ?_
  intro p e s m args below meth c s₁ Bd hml0 hP hK
  obtain ⟨rfl, hZ, hh⟩ := hP
  have hx := Bd.exec
  have hby := Bd.bytes
  have hml : c.maxLocals = 6 := hml0
  have hown : s.vm.findClass "com/example/scopelock/scopelock/KindImmutablePinLaw" = some m.cls := findClass_of_methodNamed Bd.named
  have hnm := (name_of_methodNamed Bd.named Bd.method).1
  have X0 : Stand p l e room_1 s m #[xi p1] below meth c s₁ [] 0 0 := Stand.of_body Bd
  have e0 : s₁.heap = h0 := by rw [← hh, Bd.state]; rfl
  have N0 := Fr.nil n0
  have pre0 : ∀ t, Steps p.tables e below (s₁.setTop (mkF m 0 #[vi p1, vu, vu, vu, vu, vu] [])) t → Steps p.tables e below (s₁.setTop (entryFrame m #[xi p1] maxLocals)) t := fun t k => castTop (ef_own_l1 m u0 u1 u2 u0_fixedScopes u2_fixedScopes p1) k
  obtain ⟨T1, X1, e1, st1⟩ := getS2 X0 hx hZ hown (host := "") (Or.inl (ww hw 19 rfl)) Via.refl e0 ((own_S_u2 G).ext O0.2) (g := (mkF m 23 #[vi p1, vi (1 : Int32), vu, vu, vu, vu] [])) rfl (hb hby at_23)
  obtain ⟨cq2, kq2, qa2, qb2, qc2⟩ := isOf hZ e1 ((own_X_u2 G).ext O0.2)
  obtain ⟨_, _, ⟨T2, L2, k2, n2⟩, -, X2, ⟨Lc2, hQ2, l2, y2, z2⟩, st2⟩ := X1.virtualBack hx (y := Y0) (z := Y0) hown (mvT hZ (ww hw 4 rfl)) (mvT hZ (ww hw 5 rfl)) (notFace_of_selects (args := #[]) (mvT hZ (ww hw 7 rfl))) (mvT hZ (ww hw 7 rfl)) (mvT hZ (ww hw 6 rfl)) (by decide) (backOf (W := 0) (own_c2_immutable l Z a0 hw u0 u1 u2 u0_fixedScopes u2_fixedScopes G h0 n0 O0 []) hZ (ww hw 8 rfl) (ww hw 2 rfl) (by decide) (by decide)) qa2 qc2 (g := (mkF m 46 #[vi p1, vi (1 : Int32), vr u2, vi (1 : Int32), vu, vu] [xr u2])) rfl (by rw [hml]; rfl) (Steps.refl _) (argsL := []) (rest := []) (lenOf pd0 rfl) rfl (by show 2 * 0 + _ ≤ _; exact Nat.le_of_eq rfl) (hb hby at_46) (fun _ _ => ⟨rfl, e1, (by decide : 0 + 0 ≤ _), (by decide : 0 + 0 ≤ _)⟩)
  dsimp only [Pt.U, Pt.locs, Pt.cells, Pt.slots] at X2 l2 y2 z2 st2 hQ2
  subst l2 y2 z2
  obtain ⟨rfl, Nq2, e2⟩ := hQ2
  have N2 := Fr.app N0 Nq2
  obtain ⟨cq3, kq3, qa3, qb3, qc3⟩ := isOf hZ e2 ((own_X_u2 G).ext O0.2)
  obtain ⟨_, _, ⟨T3, L3, k3, n3⟩, -, X3, ⟨Lc3, hQ3, l3, y3, z3⟩, st3⟩ := X2.virtualBack hx (y := Y1) (z := Y1) hown (mvT hZ (ww hw 11 rfl)) (mvT hZ (ww hw 12 rfl)) (notFace_of_selects (args := #[]) (mvT hZ (ww hw 14 rfl))) (mvT hZ (ww hw 14 rfl)) (mvT hZ (ww hw 13 rfl)) (by decide) (backOf (W := 0) (own_c3_managesKeys l Z a0 hw u0 u1 u2 u0_fixedScopes u2_fixedScopes G h0 n0 O0 []) hZ (ww hw 15 rfl) (ww hw 2 rfl) (by decide) (by decide)) qa3 qc3 (g := (mkF m 52 #[vi p1, vi (1 : Int32), vr u2, vi (1 : Int32), vi (1 : Int32), vu] [xr u2])) rfl (by rw [hml]; rfl) (Steps.refl _) (argsL := []) (rest := []) (lenOf pd0 rfl) rfl (by show 2 * 0 + _ ≤ _; exact Nat.le_of_eq rfl) (hb hby at_52) (fun _ _ => ⟨rfl, e2, (by decide : 0 + 0 ≤ _), (by decide : 0 + 0 ≤ _)⟩)
  dsimp only [Pt.U, Pt.locs, Pt.cells, Pt.slots] at X3 l3 y3 z3 st3 hQ3
  subst l3 y3 z3
  obtain ⟨rfl, Nq3, e3⟩ := hQ3
  have N3 := Fr.app N2 Nq3
  obtain ⟨fs, hr, hrun, hended, hW, hsame⟩ := X3.leave (v := some (xi (1 : Int32))) (fun h => by rw [Bd.returns] at h; cases h)
  refine ⟨_, _, pre0 _ ?_, hrun, hended, _, _, rfl, ?_, ⟨_, rfl⟩, hW, hsame.mono (by decide) (by decide)⟩
  · show own_S p e below s₁ (mkF m 0 #[vi p1, vu, vu, vu, vu, vu] []) _
    refine XS.iloadN X0.here hx rfl (hb hby at_0) rfl ?_
    show own_S p e below s₁ (mkF m 1 #[vi p1, vu, vu, vu, vu, vu] [xi p1]) _
    refine X0.ldcI hx hown (mvT hZ (ww hw 0 rfl)) (g := (mkF m 1 #[vi p1, vu, vu, vu, vu, vu] [xi p1])) rfl (hb hby at_1) ?_
    show own_S p e below s₁ (mkF m 3 #[vi p1, vu, vu, vu, vu, vu] [xi (2147483647 : Int32), xi p1]) _
    refine XS.iand X0.here hx rfl (hb hby at_3) rfl ?_
    show own_S p e below s₁ (mkF m 4 #[vi p1, vu, vu, vu, vu, vu] [xi (p1 &&& (2147483647 : Int32))]) _
    show own_S p e below s₁ (mkF m 4 #[vi p1, vu, vu, vu, vu, vu] [xi (p1 &&& (2147483647 : Int32))]) _
    refine XS.iconst X0.here hx rfl (hb hby at_4) ?_
    show own_S p e below s₁ (mkF m 5 #[vi p1, vu, vu, vu, vu, vu] [xi (3 : Int32), xi (p1 &&& (2147483647 : Int32))]) _
    refine XS.irem X0.here hx rfl (hb hby at_5) rfl (by decide) ?_
    show own_S p e below s₁ (mkF m 6 #[vi p1, vu, vu, vu, vu, vu] [xi ((p1 &&& (2147483647 : Int32)) - ((p1 &&& (2147483647 : Int32)) / (3 : Int32)) * (3 : Int32))]) _
    refine castTop (show (mkF m 6 #[vi p1, vu, vu, vu, vu, vu] [xi ((p1 &&& (2147483647 : Int32)) - ((p1 &&& (2147483647 : Int32)) / (3 : Int32)) * (3 : Int32))]) = (mkF m 6 #[vi p1, vu, vu, vu, vu, vu] [xi (1 : Int32)]) from by rw [as1]) ?_
    show own_S p e below s₁ (mkF m 6 #[vi p1, vu, vu, vu, vu, vu] [xi (1 : Int32)]) _
    refine XS.istoreN X0.here hx rfl (hb hby at_6) rfl (l' := #[vi p1, vi (1 : Int32), vu, vu, vu, vu]) rfl ?_
    show own_S p e below s₁ (mkF m 7 #[vi p1, vi (1 : Int32), vu, vu, vu, vu] []) _
    refine XS.iloadN X0.here hx rfl (hb hby at_7) rfl ?_
    show own_S p e below s₁ (mkF m 8 #[vi p1, vi (1 : Int32), vu, vu, vu, vu] [xi (1 : Int32)]) _
    refine XS.ifYes X0.here hx rfl (pc0 := 8) (pc' := 18) rfl (hb hby at_8) rfl (by decide) (by decide) (by decide) ?_
    show own_S p e below s₁ (mkF m 18 #[vi p1, vi (1 : Int32), vu, vu, vu, vu] []) _
    refine XS.iloadN X0.here hx rfl (hb hby at_18) rfl ?_
    show own_S p e below s₁ (mkF m 19 #[vi p1, vi (1 : Int32), vu, vu, vu, vu] [xi (1 : Int32)]) _
    refine XS.iconst X0.here hx rfl (hb hby at_19) ?_
    show own_S p e below s₁ (mkF m 20 #[vi p1, vi (1 : Int32), vu, vu, vu, vu] [xi (1 : Int32), xi (1 : Int32)]) _
    refine XS.icmpNo X0.here hx rfl (hb hby at_20) rfl (by decide) ?_
    show own_S p e below s₁ (mkF m 23 #[vi p1, vi (1 : Int32), vu, vu, vu, vu] []) _
    refine st1 _ ?_
    show own_S p e below T1 (mkF m 26 #[vi p1, vi (1 : Int32), vu, vu, vu, vu] [xr u2]) _
    refine XS.astoreN X1.here hx rfl (hb hby at_26) rfl rfl (l' := #[vi p1, vi (1 : Int32), vr u2, vu, vu, vu]) rfl ?_
    show own_S p e below T1 (mkF m 27 #[vi p1, vi (1 : Int32), vr u2, vu, vu, vu] []) _
    refine XS.goto X1.here hx rfl (pc0 := 27) (pc' := 34) rfl (hb hby at_27) (by decide) (by decide) ?_
    show own_S p e below T1 (mkF m 34 #[vi p1, vi (1 : Int32), vr u2, vu, vu, vu] []) _
    refine XS.iloadN X1.here hx rfl (hb hby at_34) rfl ?_
    show own_S p e below T1 (mkF m 35 #[vi p1, vi (1 : Int32), vr u2, vu, vu, vu] [xi (1 : Int32)]) _
    refine XS.iconst X1.here hx rfl (hb hby at_35) ?_
    show own_S p e below T1 (mkF m 36 #[vi p1, vi (1 : Int32), vr u2, vu, vu, vu] [xi (2 : Int32), xi (1 : Int32)]) _
    refine XS.icmpNo X1.here hx rfl (hb hby at_36) rfl (by decide) ?_
    show own_S p e below T1 (mkF m 39 #[vi p1, vi (1 : Int32), vr u2, vu, vu, vu] []) _
    refine XS.iconst X1.here hx rfl (hb hby at_39) ?_
    show own_S p e below T1 (mkF m 40 #[vi p1, vi (1 : Int32), vr u2, vu, vu, vu] [xi (1 : Int32)]) _
    refine XS.goto X1.here hx rfl (pc0 := 40) (pc' := 44) rfl (hb hby at_40) (by decide) (by decide) ?_
    show own_S p e below T1 (mkF m 44 #[vi p1, vi (1 : Int32), vr u2, vu, vu, vu] [xi (1 : Int32)]) _
    refine XS.istoreN X1.here hx rfl (hb hby at_44) rfl (l' := #[vi p1, vi (1 : Int32), vr u2, vi (1 : Int32), vu, vu]) rfl ?_
    show own_S p e below T1 (mkF m 45 #[vi p1, vi (1 : Int32), vr u2, vi (1 : Int32), vu, vu] []) _
    refine XS.aloadN X1.here hx rfl (hb hby at_45) rfl rfl ?_
    show own_S p e below T1 (mkF m 46 #[vi p1, vi (1 : Int32), vr u2, vi (1 : Int32), vu, vu] [xr u2]) _
    refine st2.trans ?_
    show own_S p e below T2 (mkF m 49 #[vi p1, vi (1 : Int32), vr u2, vi (1 : Int32), vu, vu] [xi (1 : Int32)]) _
    refine XS.istore X2.here hx rfl (hb hby at_49) rfl (l' := #[vi p1, vi (1 : Int32), vr u2, vi (1 : Int32), vi (1 : Int32), vu]) rfl ?_
    show own_S p e below T2 (mkF m 51 #[vi p1, vi (1 : Int32), vr u2, vi (1 : Int32), vi (1 : Int32), vu] []) _
    refine XS.aloadN X2.here hx rfl (hb hby at_51) rfl rfl ?_
    show own_S p e below T2 (mkF m 52 #[vi p1, vi (1 : Int32), vr u2, vi (1 : Int32), vi (1 : Int32), vu] [xr u2]) _
    refine st3.trans ?_
    show own_S p e below T3 (mkF m 55 #[vi p1, vi (1 : Int32), vr u2, vi (1 : Int32), vi (1 : Int32), vu] [xi (0 : Int32)]) _
    refine XS.istore X3.here hx rfl (hb hby at_55) rfl (l' := #[vi p1, vi (1 : Int32), vr u2, vi (1 : Int32), vi (1 : Int32), vi (0 : Int32)]) rfl ?_
    show own_S p e below T3 (mkF m 57 #[vi p1, vi (1 : Int32), vr u2, vi (1 : Int32), vi (1 : Int32), vi (0 : Int32)] []) _
    refine XS.iload X3.here hx rfl (hb hby at_57) rfl ?_
    show own_S p e below T3 (mkF m 59 #[vi p1, vi (1 : Int32), vr u2, vi (1 : Int32), vi (1 : Int32), vi (0 : Int32)] [xi (1 : Int32)]) _
    refine XS.iloadN X3.here hx rfl (hb hby at_59) rfl ?_
    show own_S p e below T3 (mkF m 60 #[vi p1, vi (1 : Int32), vr u2, vi (1 : Int32), vi (1 : Int32), vi (0 : Int32)] [xi (1 : Int32), xi (1 : Int32)]) _
    refine XS.icmpNo X3.here hx rfl (hb hby at_60) rfl (by decide) ?_
    show own_S p e below T3 (mkF m 63 #[vi p1, vi (1 : Int32), vr u2, vi (1 : Int32), vi (1 : Int32), vi (0 : Int32)] []) _
    refine XS.iload X3.here hx rfl (hb hby at_63) rfl ?_
    show own_S p e below T3 (mkF m 65 #[vi p1, vi (1 : Int32), vr u2, vi (1 : Int32), vi (1 : Int32), vi (0 : Int32)] [xi (0 : Int32)]) _
    refine XS.iloadN X3.here hx rfl (hb hby at_65) rfl ?_
    show own_S p e below T3 (mkF m 66 #[vi p1, vi (1 : Int32), vr u2, vi (1 : Int32), vi (1 : Int32), vi (0 : Int32)] [xi (1 : Int32), xi (0 : Int32)]) _
    refine XS.ifYes X3.here hx rfl (pc0 := 66) (pc' := 73) rfl (hb hby at_66) rfl (by decide) (by decide) (by decide) ?_
    show own_S p e below T3 (mkF m 73 #[vi p1, vi (1 : Int32), vr u2, vi (1 : Int32), vi (1 : Int32), vi (0 : Int32)] [xi (0 : Int32)]) _
    refine XS.iconst X3.here hx rfl (hb hby at_73) ?_
    show own_S p e below T3 (mkF m 74 #[vi p1, vi (1 : Int32), vr u2, vi (1 : Int32), vi (1 : Int32), vi (0 : Int32)] [xi (0 : Int32), xi (0 : Int32)]) _
    refine XS.icmpNo X3.here hx rfl (hb hby at_74) rfl (by decide) ?_
    show own_S p e below T3 (mkF m 77 #[vi p1, vi (1 : Int32), vr u2, vi (1 : Int32), vi (1 : Int32), vi (0 : Int32)] []) _
    refine XS.iconst X3.here hx rfl (hb hby at_77) ?_
    show own_S p e below T3 (mkF m 78 #[vi p1, vi (1 : Int32), vr u2, vi (1 : Int32), vi (1 : Int32), vi (0 : Int32)] [xi (1 : Int32)]) _
    refine XS.goto X3.here hx rfl (pc0 := 78) (pc' := 82) rfl (hb hby at_78) (by decide) (by decide) ?_
    show own_S p e below T3 (mkF m 82 #[vi p1, vi (1 : Int32), vr u2, vi (1 : Int32), vi (1 : Int32), vi (0 : Int32)] [xi (1 : Int32)]) _
    exact retN X3 hx (t := .boolean) Bd.returns (by simp) (hb hby at_82) hr
  · exact ⟨rfl, N3⟩
theorem d1_11 : decode prog_16_method_6_code 11 = .ok (.iconst 0, 1) := by decide +kernel
theorem ef_own_c4_immutable (m : MethodId) (u0 u1 u2 u0_fixedScopes u2_fixedScopes : Addr) : entryFrame m #[xr u1] 1 = (mkF m 0 #[vr u1] []) := by first | (simp [entryFrame, mkF, argsToLocals, Value.category]; done) | rfl
set_option maxRecDepth 65536 in
set_option maxHeartbeats 40000000 in
theorem own_c4_immutable (l : Launch) (Z : State) (a0 : Array Value) (hw : ∀ d ∈ tables_1, d.before a0 Z = true) (u0 u1 u2 u0_fixedScopes u2_fixedScopes : Addr) (G : own_St Z u0 u1 u2 u0_fixedScopes u2_fixedScopes) (h0 : Heap) (n0 : Nat) (O0 : Old Z n0 h0) : own_Met l Z Y0 prog_16_method_6_code 1 (some .boolean) ({ frames := 0, cells := 0, slots := 0, locals := 0 } : Room) #[xr u1] h0 (own_QR (some (xi (0 : Int32))) h0 n0) := by
  intro ws
  refine MetFree.of_bodySF (plainFor_of_name pn0) hisR ?_
  intro p e s m args below meth c s₁ Bd hml0 hP hK
  obtain ⟨rfl, hZ, hh⟩ := hP
  have hx := Bd.exec
  have hby := Bd.bytes
  have hml : c.maxLocals = 1 := hml0
  have hown : s.vm.findClass "com/example/scopelock/scopelock/Kind" = some m.cls := findClass_of_methodNamed Bd.named
  have hnm := (name_of_methodNamed Bd.named Bd.method).1
  have X0 : Stand p l e ({ frames := 0, cells := 0, slots := 0, locals := 0 } : Room) s m #[xr u1] below meth c s₁ [] 0 0 := Stand.of_body Bd
  have e0 : s₁.heap = h0 := by rw [← hh, Bd.state]; rfl
  have N0 := Fr.nil n0
  have pre0 : ∀ t, Steps p.tables e below (s₁.setTop (mkF m 0 #[vr u1] [])) t → Steps p.tables e below (s₁.setTop (entryFrame m #[xr u1] 1)) t := fun t k => castTop (ef_own_c4_immutable m u0 u1 u2 u0_fixedScopes u2_fixedScopes) k
  obtain ⟨T1, X1, e1, st1⟩ := getF X0 hx hZ hown (host := "") (Or.inl (ww hw 9 rfl)) Via.refl e0 ((own_F_u1_fixedScopes G).ext O0.2) (g := (mkF m 1 #[vr u1] [xr u1])) rfl rfl (hb hby d1_1)
  obtain ⟨fs, hr, hrun, hended, hW, hsame⟩ := X1.leave (v := some (xi (0 : Int32))) (fun h => by rw [Bd.returns] at h; cases h)
  refine ⟨_, _, pre0 _ ?_, hrun, hended, _, _, rfl, ?_, ⟨_, rfl⟩, hW, hsame.mono (by decide) (by decide)⟩
  · show own_S p e below s₁ (mkF m 0 #[vr u1] []) _
    refine XS.aloadN X0.here hx rfl (hb hby d1_0) rfl rfl ?_
    show own_S p e below s₁ (mkF m 1 #[vr u1] [xr u1]) _
    refine st1 _ ?_
    show own_S p e below T1 (mkF m 4 #[vr u1] [.null]) _
    refine XS.ifnullYes X1.here hx rfl (pc0 := 4) (pc' := 11) rfl (hb hby d1_4) rfl (by decide) (by decide) ?_
    show own_S p e below T1 (mkF m 11 #[vr u1] []) _
    refine XS.iconst X1.here hx rfl (hb hby d1_11) ?_
    show own_S p e below T1 (mkF m 12 #[vr u1] [xi (0 : Int32)]) _
    exact retN X1 hx (t := .boolean) Bd.returns (by simp) (hb hby d1_12) hr
  · exact ⟨rfl, N0, e1⟩
theorem d2_7 : decode prog_16_method_7_code 7 = .ok (.iconst 1, 1) := by decide +kernel
theorem d2_8 : decode prog_16_method_7_code 8 = .ok (.goto 4, 3) := by decide +kernel
theorem ef_own_c5_managesKeys (m : MethodId) (u0 u1 u2 u0_fixedScopes u2_fixedScopes : Addr) : entryFrame m #[xr u1] 1 = (mkF m 0 #[vr u1] []) := by first | (simp [entryFrame, mkF, argsToLocals, Value.category]; done) | rfl
set_option maxRecDepth 65536 in
set_option maxHeartbeats 40000000 in
theorem own_c5_managesKeys (l : Launch) (Z : State) (a0 : Array Value) (hw : ∀ d ∈ tables_1, d.before a0 Z = true) (u0 u1 u2 u0_fixedScopes u2_fixedScopes : Addr) (G : own_St Z u0 u1 u2 u0_fixedScopes u2_fixedScopes) (h0 : Heap) (n0 : Nat) (O0 : Old Z n0 h0) : own_Met l Z Y1 prog_16_method_7_code 1 (some .boolean) ({ frames := 1, cells := 0, slots := 0, locals := 12 } : Room) #[xr u1] h0 (own_QR (some (xi (1 : Int32))) h0 n0) := by
  intro ws
  refine MetFree.of_bodySF (plainFor_of_name pn0) hisR ?_
  intro p e s m args below meth c s₁ Bd hml0 hP hK
  obtain ⟨rfl, hZ, hh⟩ := hP
  have hx := Bd.exec
  have hby := Bd.bytes
  have hml : c.maxLocals = 1 := hml0
  have hown : s.vm.findClass "com/example/scopelock/scopelock/Kind" = some m.cls := findClass_of_methodNamed Bd.named
  have hnm := (name_of_methodNamed Bd.named Bd.method).1
  have X0 : Stand p l e ({ frames := 1, cells := 0, slots := 0, locals := 12 } : Room) s m #[xr u1] below meth c s₁ [] 0 0 := Stand.of_body Bd
  have e0 : s₁.heap = h0 := by rw [← hh, Bd.state]; rfl
  have N0 := Fr.nil n0
  have pre0 : ∀ t, Steps p.tables e below (s₁.setTop (mkF m 0 #[vr u1] [])) t → Steps p.tables e below (s₁.setTop (entryFrame m #[xr u1] 1)) t := fun t k => castTop (ef_own_c5_managesKeys m u0 u1 u2 u0_fixedScopes u2_fixedScopes) k
  obtain ⟨cq1, kq1, qa1, qb1, qc1⟩ := isOf hZ e0 ((own_X_u1 G).ext O0.2)
  obtain ⟨_, _, ⟨T1, L1, k1, n1⟩, -, X1, ⟨Lc1, hQ1, l1, y1, z1⟩, st1⟩ := X0.virtualBack hx (y := Y0) (z := Y0) hown (mvT hZ (ww hw 16 rfl)) (mvT hZ (ww hw 5 rfl)) (notFace_of_selects (args := #[]) (mvT hZ (ww hw 7 rfl))) (mvT hZ (ww hw 7 rfl)) (mvT hZ (ww hw 6 rfl)) (by decide) (backOf (W := 0) (own_c4_immutable l Z a0 hw u0 u1 u2 u0_fixedScopes u2_fixedScopes G h0 n0 O0 []) hZ (ww hw 8 rfl) (ww hw 2 rfl) (by decide) (by decide)) qa1 qc1 (g := (mkF m 1 #[vr u1] [xr u1])) rfl (by rw [hml]; rfl) (Steps.refl _) (argsL := []) (rest := []) (lenOf pd0 rfl) rfl (by show 2 * 0 + _ ≤ _; exact Nat.le_of_eq rfl) (hb hby d2_1) (fun _ _ => ⟨rfl, e0, (by decide : 0 + 0 ≤ _), (by decide : 0 + 0 ≤ _)⟩)
  dsimp only [Pt.U, Pt.locs, Pt.cells, Pt.slots] at X1 l1 y1 z1 st1 hQ1
  subst l1 y1 z1
  obtain ⟨rfl, Nq1, e1⟩ := hQ1
  have N1 := Fr.app N0 Nq1
  obtain ⟨fs, hr, hrun, hended, hW, hsame⟩ := X1.leave (v := some (xi (1 : Int32))) (fun h => by rw [Bd.returns] at h; cases h)
  refine ⟨_, _, pre0 _ ?_, hrun, hended, _, _, rfl, ?_, ⟨_, rfl⟩, hW, hsame.mono (by decide) (by decide)⟩
  · show own_S p e below s₁ (mkF m 0 #[vr u1] []) _
    refine XS.aloadN X0.here hx rfl (hb hby d2_0) rfl rfl ?_
    show own_S p e below s₁ (mkF m 1 #[vr u1] [xr u1]) _
    refine st1.trans ?_
    show own_S p e below T1 (mkF m 4 #[vr u1] [xi (0 : Int32)]) _
    refine XS.ifNo X1.here hx rfl (hb hby d2_4) rfl (by decide) ?_
    show own_S p e below T1 (mkF m 7 #[vr u1] []) _
    refine XS.iconst X1.here hx rfl (hb hby d2_7) ?_
    show own_S p e below T1 (mkF m 8 #[vr u1] [xi (1 : Int32)]) _
    refine XS.goto X1.here hx rfl (pc0 := 8) (pc' := 12) rfl (hb hby d2_8) (by decide) (by decide) ?_
    show own_S p e below T1 (mkF m 12 #[vr u1] [xi (1 : Int32)]) _
    exact retN X1 hx (t := .boolean) Bd.returns (by simp) (hb hby d2_12) hr
  · exact ⟨rfl, N1, e1⟩
theorem ef_own_l2 (m : MethodId) (u0 u1 u2 u0_fixedScopes u2_fixedScopes : Addr) (p1 : Int32) : entryFrame m #[xi p1] maxLocals = (mkF m 0 #[vi p1, vu, vu, vu, vu, vu] []) := by first | (simp [entryFrame, mkF, argsToLocals, Value.category, maxLocals]; done) | rfl
set_option maxRecDepth 65536 in
set_option maxHeartbeats 40000000 in
theorem own_l2 (l : Launch) (Z : State) (a0 : Array Value) (hw : ∀ d ∈ tables_1, d.before a0 Z = true) (u0 u1 u2 u0_fixedScopes u2_fixedScopes : Addr) (G : own_St Z u0 u1 u2 u0_fixedScopes u2_fixedScopes) (p1 : Int32) (as2 : ((p1 &&& (2147483647 : Int32)) - ((p1 &&& (2147483647 : Int32)) / (3 : Int32)) * (3 : Int32)) = (2 : Int32)) (h0 : Heap) (n0 : Nat) (O0 : Old Z n0 h0) : own_Met l Z x code maxLocals ret room_1 #[xi p1] h0 (own_QL (some (xi (1 : Int32))) n0) := by
  intro ws
  refine MetFree.of_bodySF (plainFor_of_name pn1) hisR ?_
  intro p e s m args below meth c s₁ Bd hml0 hP hK
  obtain ⟨rfl, hZ, hh⟩ := hP
  have hx := Bd.exec
  have hby := Bd.bytes
  have hml : c.maxLocals = 6 := hml0
  have hown : s.vm.findClass "com/example/scopelock/scopelock/KindImmutablePinLaw" = some m.cls := findClass_of_methodNamed Bd.named
  have hnm := (name_of_methodNamed Bd.named Bd.method).1
  have X0 : Stand p l e room_1 s m #[xi p1] below meth c s₁ [] 0 0 := Stand.of_body Bd
  have e0 : s₁.heap = h0 := by rw [← hh, Bd.state]; rfl
  have N0 := Fr.nil n0
  have pre0 : ∀ t, Steps p.tables e below (s₁.setTop (mkF m 0 #[vi p1, vu, vu, vu, vu, vu] [])) t → Steps p.tables e below (s₁.setTop (entryFrame m #[xi p1] maxLocals)) t := fun t k => castTop (ef_own_l2 m u0 u1 u2 u0_fixedScopes u2_fixedScopes p1) k
  obtain ⟨T1, X1, e1, st1⟩ := getS2 X0 hx hZ hown (host := "") (Or.inl (ww hw 17 rfl)) Via.refl e0 ((own_S_u1 G).ext O0.2) (g := (mkF m 30 #[vi p1, vi (2 : Int32), vu, vu, vu, vu] [])) rfl (hb hby at_30)
  obtain ⟨cq2, kq2, qa2, qb2, qc2⟩ := isOf hZ e1 ((own_X_u1 G).ext O0.2)
  obtain ⟨_, _, ⟨T2, L2, k2, n2⟩, -, X2, ⟨Lc2, hQ2, l2, y2, z2⟩, st2⟩ := X1.virtualBack hx (y := Y0) (z := Y0) hown (mvT hZ (ww hw 4 rfl)) (mvT hZ (ww hw 5 rfl)) (notFace_of_selects (args := #[]) (mvT hZ (ww hw 7 rfl))) (mvT hZ (ww hw 7 rfl)) (mvT hZ (ww hw 6 rfl)) (by decide) (backOf (W := 0) (own_c4_immutable l Z a0 hw u0 u1 u2 u0_fixedScopes u2_fixedScopes G h0 n0 O0 []) hZ (ww hw 8 rfl) (ww hw 2 rfl) (by decide) (by decide)) qa2 qc2 (g := (mkF m 46 #[vi p1, vi (2 : Int32), vr u1, vi (0 : Int32), vu, vu] [xr u1])) rfl (by rw [hml]; rfl) (Steps.refl _) (argsL := []) (rest := []) (lenOf pd0 rfl) rfl (by show 2 * 0 + _ ≤ _; exact Nat.le_of_eq rfl) (hb hby at_46) (fun _ _ => ⟨rfl, e1, (by decide : 0 + 0 ≤ _), (by decide : 0 + 0 ≤ _)⟩)
  dsimp only [Pt.U, Pt.locs, Pt.cells, Pt.slots] at X2 l2 y2 z2 st2 hQ2
  subst l2 y2 z2
  obtain ⟨rfl, Nq2, e2⟩ := hQ2
  have N2 := Fr.app N0 Nq2
  obtain ⟨cq3, kq3, qa3, qb3, qc3⟩ := isOf hZ e2 ((own_X_u1 G).ext O0.2)
  obtain ⟨_, _, ⟨T3, L3, k3, n3⟩, -, X3, ⟨Lc3, hQ3, l3, y3, z3⟩, st3⟩ := X2.virtualBack hx (y := Y1) (z := Y1) hown (mvT hZ (ww hw 11 rfl)) (mvT hZ (ww hw 12 rfl)) (notFace_of_selects (args := #[]) (mvT hZ (ww hw 14 rfl))) (mvT hZ (ww hw 14 rfl)) (mvT hZ (ww hw 13 rfl)) (by decide) (backOf (W := 0) (own_c5_managesKeys l Z a0 hw u0 u1 u2 u0_fixedScopes u2_fixedScopes G h0 n0 O0 []) hZ (ww hw 15 rfl) (ww hw 2 rfl) (by decide) (by decide)) qa3 qc3 (g := (mkF m 52 #[vi p1, vi (2 : Int32), vr u1, vi (0 : Int32), vi (0 : Int32), vu] [xr u1])) rfl (by rw [hml]; rfl) (Steps.refl _) (argsL := []) (rest := []) (lenOf pd0 rfl) rfl (by show 2 * 0 + _ ≤ _; exact Nat.le_of_eq rfl) (hb hby at_52) (fun _ _ => ⟨rfl, e2, (by decide : 0 + 0 ≤ _), (by decide : 0 + 0 ≤ _)⟩)
  dsimp only [Pt.U, Pt.locs, Pt.cells, Pt.slots] at X3 l3 y3 z3 st3 hQ3
  subst l3 y3 z3
  obtain ⟨rfl, Nq3, e3⟩ := hQ3
  have N3 := Fr.app N2 Nq3
  obtain ⟨fs, hr, hrun, hended, hW, hsame⟩ := X3.leave (v := some (xi (1 : Int32))) (fun h => by rw [Bd.returns] at h; cases h)
  refine ⟨_, _, pre0 _ ?_, hrun, hended, _, _, rfl, ?_, ⟨_, rfl⟩, hW, hsame.mono (by decide) (by decide)⟩
  · show own_S p e below s₁ (mkF m 0 #[vi p1, vu, vu, vu, vu, vu] []) _
    refine XS.iloadN X0.here hx rfl (hb hby at_0) rfl ?_
    show own_S p e below s₁ (mkF m 1 #[vi p1, vu, vu, vu, vu, vu] [xi p1]) _
    refine X0.ldcI hx hown (mvT hZ (ww hw 0 rfl)) (g := (mkF m 1 #[vi p1, vu, vu, vu, vu, vu] [xi p1])) rfl (hb hby at_1) ?_
    show own_S p e below s₁ (mkF m 3 #[vi p1, vu, vu, vu, vu, vu] [xi (2147483647 : Int32), xi p1]) _
    refine XS.iand X0.here hx rfl (hb hby at_3) rfl ?_
    show own_S p e below s₁ (mkF m 4 #[vi p1, vu, vu, vu, vu, vu] [xi (p1 &&& (2147483647 : Int32))]) _
    show own_S p e below s₁ (mkF m 4 #[vi p1, vu, vu, vu, vu, vu] [xi (p1 &&& (2147483647 : Int32))]) _
    refine XS.iconst X0.here hx rfl (hb hby at_4) ?_
    show own_S p e below s₁ (mkF m 5 #[vi p1, vu, vu, vu, vu, vu] [xi (3 : Int32), xi (p1 &&& (2147483647 : Int32))]) _
    refine XS.irem X0.here hx rfl (hb hby at_5) rfl (by decide) ?_
    show own_S p e below s₁ (mkF m 6 #[vi p1, vu, vu, vu, vu, vu] [xi ((p1 &&& (2147483647 : Int32)) - ((p1 &&& (2147483647 : Int32)) / (3 : Int32)) * (3 : Int32))]) _
    refine castTop (show (mkF m 6 #[vi p1, vu, vu, vu, vu, vu] [xi ((p1 &&& (2147483647 : Int32)) - ((p1 &&& (2147483647 : Int32)) / (3 : Int32)) * (3 : Int32))]) = (mkF m 6 #[vi p1, vu, vu, vu, vu, vu] [xi (2 : Int32)]) from by rw [as2]) ?_
    show own_S p e below s₁ (mkF m 6 #[vi p1, vu, vu, vu, vu, vu] [xi (2 : Int32)]) _
    refine XS.istoreN X0.here hx rfl (hb hby at_6) rfl (l' := #[vi p1, vi (2 : Int32), vu, vu, vu, vu]) rfl ?_
    show own_S p e below s₁ (mkF m 7 #[vi p1, vi (2 : Int32), vu, vu, vu, vu] []) _
    refine XS.iloadN X0.here hx rfl (hb hby at_7) rfl ?_
    show own_S p e below s₁ (mkF m 8 #[vi p1, vi (2 : Int32), vu, vu, vu, vu] [xi (2 : Int32)]) _
    refine XS.ifYes X0.here hx rfl (pc0 := 8) (pc' := 18) rfl (hb hby at_8) rfl (by decide) (by decide) (by decide) ?_
    show own_S p e below s₁ (mkF m 18 #[vi p1, vi (2 : Int32), vu, vu, vu, vu] []) _
    refine XS.iloadN X0.here hx rfl (hb hby at_18) rfl ?_
    show own_S p e below s₁ (mkF m 19 #[vi p1, vi (2 : Int32), vu, vu, vu, vu] [xi (2 : Int32)]) _
    refine XS.iconst X0.here hx rfl (hb hby at_19) ?_
    show own_S p e below s₁ (mkF m 20 #[vi p1, vi (2 : Int32), vu, vu, vu, vu] [xi (1 : Int32), xi (2 : Int32)]) _
    refine XS.icmpYes X0.here hx rfl (pc0 := 20) (pc' := 30) rfl (hb hby at_20) rfl (by decide) (by decide) (by decide) ?_
    show own_S p e below s₁ (mkF m 30 #[vi p1, vi (2 : Int32), vu, vu, vu, vu] []) _
    refine st1 _ ?_
    show own_S p e below T1 (mkF m 33 #[vi p1, vi (2 : Int32), vu, vu, vu, vu] [xr u1]) _
    refine XS.astoreN X1.here hx rfl (hb hby at_33) rfl rfl (l' := #[vi p1, vi (2 : Int32), vr u1, vu, vu, vu]) rfl ?_
    show own_S p e below T1 (mkF m 34 #[vi p1, vi (2 : Int32), vr u1, vu, vu, vu] []) _
    refine XS.iloadN X1.here hx rfl (hb hby at_34) rfl ?_
    show own_S p e below T1 (mkF m 35 #[vi p1, vi (2 : Int32), vr u1, vu, vu, vu] [xi (2 : Int32)]) _
    refine XS.iconst X1.here hx rfl (hb hby at_35) ?_
    show own_S p e below T1 (mkF m 36 #[vi p1, vi (2 : Int32), vr u1, vu, vu, vu] [xi (2 : Int32), xi (2 : Int32)]) _
    refine XS.icmpYes X1.here hx rfl (pc0 := 36) (pc' := 43) rfl (hb hby at_36) rfl (by decide) (by decide) (by decide) ?_
    show own_S p e below T1 (mkF m 43 #[vi p1, vi (2 : Int32), vr u1, vu, vu, vu] []) _
    refine XS.iconst X1.here hx rfl (hb hby at_43) ?_
    show own_S p e below T1 (mkF m 44 #[vi p1, vi (2 : Int32), vr u1, vu, vu, vu] [xi (0 : Int32)]) _
    refine XS.istoreN X1.here hx rfl (hb hby at_44) rfl (l' := #[vi p1, vi (2 : Int32), vr u1, vi (0 : Int32), vu, vu]) rfl ?_
    show own_S p e below T1 (mkF m 45 #[vi p1, vi (2 : Int32), vr u1, vi (0 : Int32), vu, vu] []) _
    refine XS.aloadN X1.here hx rfl (hb hby at_45) rfl rfl ?_
    show own_S p e below T1 (mkF m 46 #[vi p1, vi (2 : Int32), vr u1, vi (0 : Int32), vu, vu] [xr u1]) _
    refine st2.trans ?_
    show own_S p e below T2 (mkF m 49 #[vi p1, vi (2 : Int32), vr u1, vi (0 : Int32), vu, vu] [xi (0 : Int32)]) _
    refine XS.istore X2.here hx rfl (hb hby at_49) rfl (l' := #[vi p1, vi (2 : Int32), vr u1, vi (0 : Int32), vi (0 : Int32), vu]) rfl ?_
    show own_S p e below T2 (mkF m 51 #[vi p1, vi (2 : Int32), vr u1, vi (0 : Int32), vi (0 : Int32), vu] []) _
    refine XS.aloadN X2.here hx rfl (hb hby at_51) rfl rfl ?_
    show own_S p e below T2 (mkF m 52 #[vi p1, vi (2 : Int32), vr u1, vi (0 : Int32), vi (0 : Int32), vu] [xr u1]) _
    refine st3.trans ?_
    show own_S p e below T3 (mkF m 55 #[vi p1, vi (2 : Int32), vr u1, vi (0 : Int32), vi (0 : Int32), vu] [xi (1 : Int32)]) _
    refine XS.istore X3.here hx rfl (hb hby at_55) rfl (l' := #[vi p1, vi (2 : Int32), vr u1, vi (0 : Int32), vi (0 : Int32), vi (1 : Int32)]) rfl ?_
    show own_S p e below T3 (mkF m 57 #[vi p1, vi (2 : Int32), vr u1, vi (0 : Int32), vi (0 : Int32), vi (1 : Int32)] []) _
    refine XS.iload X3.here hx rfl (hb hby at_57) rfl ?_
    show own_S p e below T3 (mkF m 59 #[vi p1, vi (2 : Int32), vr u1, vi (0 : Int32), vi (0 : Int32), vi (1 : Int32)] [xi (0 : Int32)]) _
    refine XS.iloadN X3.here hx rfl (hb hby at_59) rfl ?_
    show own_S p e below T3 (mkF m 60 #[vi p1, vi (2 : Int32), vr u1, vi (0 : Int32), vi (0 : Int32), vi (1 : Int32)] [xi (0 : Int32), xi (0 : Int32)]) _
    refine XS.icmpNo X3.here hx rfl (hb hby at_60) rfl (by decide) ?_
    show own_S p e below T3 (mkF m 63 #[vi p1, vi (2 : Int32), vr u1, vi (0 : Int32), vi (0 : Int32), vi (1 : Int32)] []) _
    refine XS.iload X3.here hx rfl (hb hby at_63) rfl ?_
    show own_S p e below T3 (mkF m 65 #[vi p1, vi (2 : Int32), vr u1, vi (0 : Int32), vi (0 : Int32), vi (1 : Int32)] [xi (1 : Int32)]) _
    refine XS.iloadN X3.here hx rfl (hb hby at_65) rfl ?_
    show own_S p e below T3 (mkF m 66 #[vi p1, vi (2 : Int32), vr u1, vi (0 : Int32), vi (0 : Int32), vi (1 : Int32)] [xi (0 : Int32), xi (1 : Int32)]) _
    refine XS.ifNo X3.here hx rfl (hb hby at_66) rfl (by decide) ?_
    show own_S p e below T3 (mkF m 69 #[vi p1, vi (2 : Int32), vr u1, vi (0 : Int32), vi (0 : Int32), vi (1 : Int32)] [xi (1 : Int32)]) _
    refine XS.iconst X3.here hx rfl (hb hby at_69) ?_
    show own_S p e below T3 (mkF m 70 #[vi p1, vi (2 : Int32), vr u1, vi (0 : Int32), vi (0 : Int32), vi (1 : Int32)] [xi (1 : Int32), xi (1 : Int32)]) _
    refine XS.goto X3.here hx rfl (pc0 := 70) (pc' := 74) rfl (hb hby at_70) (by decide) (by decide) ?_
    show own_S p e below T3 (mkF m 74 #[vi p1, vi (2 : Int32), vr u1, vi (0 : Int32), vi (0 : Int32), vi (1 : Int32)] [xi (1 : Int32), xi (1 : Int32)]) _
    refine XS.icmpNo X3.here hx rfl (hb hby at_74) rfl (by decide) ?_
    show own_S p e below T3 (mkF m 77 #[vi p1, vi (2 : Int32), vr u1, vi (0 : Int32), vi (0 : Int32), vi (1 : Int32)] []) _
    refine XS.iconst X3.here hx rfl (hb hby at_77) ?_
    show own_S p e below T3 (mkF m 78 #[vi p1, vi (2 : Int32), vr u1, vi (0 : Int32), vi (0 : Int32), vi (1 : Int32)] [xi (1 : Int32)]) _
    refine XS.goto X3.here hx rfl (pc0 := 78) (pc' := 82) rfl (hb hby at_78) (by decide) (by decide) ?_
    show own_S p e below T3 (mkF m 82 #[vi p1, vi (2 : Int32), vr u1, vi (0 : Int32), vi (0 : Int32), vi (1 : Int32)] [xi (1 : Int32)]) _
    exact retN X3 hx (t := .boolean) Bd.returns (by simp) (hb hby at_82) hr
  · exact ⟨rfl, N3⟩
theorem own_law (l : Launch) (Z : State) (a0 : Array Value) (hw : ∀ d ∈ tables_1, d.before a0 Z = true) (u0 u1 u2 u0_fixedScopes u2_fixedScopes : Addr) (G : own_St Z u0 u1 u2 u0_fixedScopes u2_fixedScopes) (p1 : Int32) (h0 : Heap) (n0 : Nat) (O0 : Old Z n0 h0) : own_Met l Z x code maxLocals ret room_1 #[(.int p1)] h0 (own_QL (some (.int (1 : Int32))) n0) := by
  rcases own_rem3 p1 with as0 | as1 | as2
  · exact own_l0 l Z a0 hw u0 u1 u2 u0_fixedScopes u2_fixedScopes G p1 as0 h0 n0 O0
  · exact own_l1 l Z a0 hw u0 u1 u2 u0_fixedScopes u2_fixedScopes G p1 as1 h0 n0 O0
  · exact own_l2 l Z a0 hw u0 u1 u2 u0_fixedScopes u2_fixedScopes G p1 as2 h0 n0 O0
set_option maxRecDepth 65536 in
set_option maxHeartbeats 40000000 in
theorem comes_1 {Post : Tables → Env → Array Value → State → Outcome → State → Prop} (hpost : ∀ tb e args s v u, (limb_1_1.after args s (.returned v) u = true ∧ limb_1_2.after args s (.returned v) u = true ∧ True) → FrameEnd s (.returned v) u (Jvm.fieldLocs frame_1_writes args s ++ Jvm.arrayLocs frame_1_arrays args s ++ Jvm.staticLocs frame_1_statics s) 0 0 → Post tb e args s (.returned v) u) :
    ArmFor flags0 classFile x code maxLocals ret World_1 tables_1 room_1 Calls_1 rest_1 Pre_1 Post := by
  intro l hfl _ _ p e ha hc hk s m args below hf hA hF happ hP
  obtain ⟨hcalls, hrest, hpre⟩ := hP
  obtain ⟨-, -, -, hnamed, -, -, -, hat⟩ := (Spec.applies_iff hf).mp happ
  obtain ⟨hg, hn⟩ := and_e (Cond.before_iff.mp (show (Jvm.Cond.and given_1 narrow_1).before args s = true from hpre))
  obtain ⟨hcount, hg0⟩ := and_e hg
  have ga0 := hg0
  obtain ⟨w0, rfl⟩ : ∃ w0 : Value, args = #[w0] := by
    have hs : args.size = 1 := by simpa [Cond.value, given_1] using hcount
    obtain ⟨L⟩ := args
    match L, hs with
    | [w0], _ => exact ⟨w0, rfl⟩
  have hw := fun d (hd : d ∈ tables_1) => atoms_spec (ws := Jvm.Cond.code x code maxLocals ret :: tables_1) hat d (List.mem_cons_of_mem _ hd)
  have hfit : Fit s := fun {y c} hc i hi => by
    obtain ⟨ha, rfl⟩ := Array.getElem?_eq_some_iff.mp hc
    have q := List.all_eq_true.mp ((Array.all_eq_true_iff_forall_mem.mp hF) _ (Array.getElem_mem ha)) i (List.mem_range.mpr hi)
    simpa [Array.getElem?_eq_getElem hi] using q
  obtain ⟨p1, ei0⟩ := is_v ga0
  obtain rfl : w0 = (.int p1) := Option.some.inj ei0
  have hc0 := hn
  obtain ⟨ca0, hc1⟩ := and_e hc0
  obtain ⟨ca1, hc2⟩ := and_e hc1
  obtain ⟨ca2, hc3⟩ := and_e hc2
  obtain ⟨ca3, hc4⟩ := and_e hc3
  obtain ⟨ca4, hc5⟩ := and_e hc4
  have ca5 := hc5
  obtain ⟨u0, ev_u0⟩ := exa_v ca0
  have pX_u0 := Exa.start ev_u0 ca0
  have pS_u0 : Sta s s.heap "com/example/scopelock/scopelock/Kind" "TELEMETRY" "Lcom/example/scopelock/scopelock/Kind;" (.ref u0) := Sta.start ev_u0 (Or.inr ⟨(ww hw 2 rfl), (ww hw 3 rfl)⟩)
  obtain ⟨u1, ev_u1⟩ := exa_v ca2
  have pX_u1 := Exa.start ev_u1 ca2
  have pS_u1 : Sta s s.heap "com/example/scopelock/scopelock/Kind" "CUSTOM" "Lcom/example/scopelock/scopelock/Kind;" (.ref u1) := Sta.start ev_u1 (Or.inr ⟨(ww hw 2 rfl), (ww hw 18 rfl)⟩)
  obtain ⟨u2, ev_u2⟩ := exa_v ca4
  have pX_u2 := Exa.start ev_u2 ca4
  have pS_u2 : Sta s s.heap "com/example/scopelock/scopelock/Kind" "SDK_INTEGRATION" "Lcom/example/scopelock/scopelock/Kind;" (.ref u2) := Sta.start ev_u2 (Or.inr ⟨(ww hw 2 rfl), (ww hw 20 rfl)⟩)
  obtain ⟨u0_fixedScopes, pF_u0_fixedScopes, -⟩ := own_fldX ev_u0 ca1
  have pF_u1_fixedScopes := own_fldN ev_u1 ca3
  obtain ⟨u2_fixedScopes, pF_u2_fixedScopes, -⟩ := own_fldX ev_u2 ca5
  have G : own_St s u0 u1 u2 u0_fixedScopes u2_fixedScopes := ⟨pS_u0, pX_u0, pS_u1, pX_u1, pS_u2, pX_u2, pF_u0_fixedScopes, pF_u1_fixedScopes, pF_u2_fixedScopes⟩
  obtain ⟨n, o, h1, h2, h3, _, L, rfl, ⟨rfl, N⟩, hq⟩ := own_law l s _ hw u0 u1 u2 u0_fixedScopes u2_fixedScopes G p1 s.heap s.heap.size (Old.start s) tables_1 p e ha hc hk s m _ below hf ((Spec.applies_iff_loose hf).mp happ).1 ⟨rfl, State.Warmed39.refl s, rfl⟩ trivial
  refine ⟨n, _, h1, h2, h3, hpost _ _ _ _ _ _ ⟨Cond.after_iff.mpr rfl, Cond.after_iff.mpr (eq_i res_at (Term.int_eval (1)) rfl), trivial⟩ ⟨hq.1, hq.2.1, (hq.2.2.sift fun y hy => Or.inr (N y hy)).mono (by decide) (by decide)⟩⟩
theorem main_1_1 : Claimed_1_1 := comes_1 fun _ _ _ _ _ _ h hF => ⟨h.1, hF⟩
theorem main_1_2 : Claimed_1_2 := comes_1 fun _ _ _ _ _ _ h hF => ⟨h.2.1, hF⟩
end Jvm.Pilot.@@N@@
namespace Jvm.Pilot.@@N@@
open Jvm Jvm.ClassFile Sem Op Lib Jvm.Free Jvm.Stand Jvm.Pilot.@@N@@.Jvm.D
/-! MADE BY PROGRAM (witnessworld.py) out of the Statement's table words and the real class files: 17 classes; the members and pool entries that the words name. The judged class is class 1, her method 1. -/
namespace start1
open Jvm.ClassFile
def u (s : String) : CpInfo := .utf8 (stringToUtf16 s)
/-- a pool by its gaps: so many unusable entries, then the entry; so many at the end -/
def gap : Nat → List CpInfo → List CpInfo
  | 0, r => r
  | n + 1, r => .unusable :: gap n r
def poolList (es : List (Nat × CpInfo)) (last : Nat) : List CpInfo := es.foldr (fun e r => gap e.1 (e.2 :: r)) (gap last [])
def pool (es : List (Nat × CpInfo)) (last : Nat) : Array CpInfo := ⟨poolList es last⟩
def fileOf (pool : Array CpInfo) (this : Nat) (attrs : Array Attribute := #[]) (ms : Array MethodInfo := #[]) (fl : Nat := 33) (sup : Nat := 0) (ifs : Array Nat := #[]) (fds : Array FieldInfo := #[]) : ClassFile where
  minorVersion := 0
  majorVersion := 65
  constantPool := pool
  accessFlags := fl
  thisClass := this
  superClass := sup
  interfaces := ifs
  fields := fds
  methods := ms
  attributes := attrs
def plain (name : String) (sup : Option ClassId) : Class where
  name := name
  kind := .ordinary
  loader := none
  accessFlags := 33
  super := sup
  interfaces := #[]
  cf := none
  fields := #[]
  methods := #[]
  instanceTypes := #[]
  staticTypes := #[]
  resolved := #[]
  callSites := []
  init := .initialized
  statics := none
  mirror := none

def pool0 : Array CpInfo := pool [(5, u "<init>"), (0, u "()V"), (1, .class_ 10), (1, u "java/lang/Object")] 113

def k0m0 : Method := { name := "<init>", desc := "()V", sig := { parameters := [], returnType := none }, accessFlags := 1, code := none }
/-- java/lang/Object -/
def k0 : Class := { plain "java/lang/Object" none with
  accessFlags := 33
  interfaces := #[]
  cf := some (fileOf pool0 8 #[] #[{ accessFlags := 1, nameIndex := 5, descriptorIndex := 6, attributes := #[] }] 33 0 #[] #[])
  fields := #[]
  methods := #[k0m0]
  instanceTypes := #[]
  staticTypes := #[]
  resolved := Array.replicate 124 none
  statics := none }

def pool1 : Array CpInfo := pool [(2, .class_ 4), (1, u "java/lang/Object"), (0, u "<init>"), (0, u "()V"), (0, .integer 2147483647), (0, .fieldref 9 10), (0, .class_ 11), (0, .nameAndType 12 13), (0, u "com/example/scopelock/scopelock/Kind"), (0, u "TELEMETRY"), (0, u "Lcom/example/scopelock/scopelock/Kind;"), (0, .fieldref 9 15), (0, .nameAndType 16 13), (0, u "SDK_INTEGRATION"), (0, .fieldref 9 18), (0, .nameAndType 19 13), (0, u "CUSTOM"), (0, .methodref 9 21), (0, .nameAndType 22 23), (0, u "immutable"), (0, u "()Z"), (0, .methodref 9 25), (0, .nameAndType 26 23), (0, u "managesKeys"), (0, .class_ 28), (0, u "com/example/scopelock/scopelock/KindImmutablePinLaw"), (2, u "law"), (0, u "(I)Z")] 3

def k1m0 : Method := { name := "<init>", desc := "()V", sig := { parameters := [], returnType := none }, accessFlags := 2, code := none }
def k1c1 : Code := { maxStack := 2, maxLocals := 6, code := code, exceptionTable := #[], attributes := #[] }
def k1m1 : Method := { name := "law", desc := "(I)Z", sig := { parameters := [.int], returnType := some .boolean }, accessFlags := 9, code := some k1c1 }
/-- com/example/scopelock/scopelock/KindImmutablePinLaw -/
def k1 : Class := { plain "com/example/scopelock/scopelock/KindImmutablePinLaw" (some 0) with
  accessFlags := 49
  interfaces := #[]
  cf := some (fileOf pool1 27 #[] #[{ accessFlags := 2, nameIndex := 5, descriptorIndex := 6, attributes := #[] }, { accessFlags := 9, nameIndex := 31, descriptorIndex := 32, attributes := #[] }] 49 2 #[] #[])
  fields := #[]
  methods := #[k1m0, k1m1]
  instanceTypes := #[]
  staticTypes := #[]
  resolved := Array.replicate 36 none
  statics := none }

def pool2 : Array CpInfo := pool [(1, .class_ 2), (0, u "java/lang/constant/Constable"), (0, .class_ 4), (0, u "java/lang/Object")] 6

/-- java/lang/constant/Constable -/
def k2 : Class := { plain "java/lang/constant/Constable" (some 0) with
  accessFlags := 1537
  interfaces := #[]
  cf := some (fileOf pool2 1 #[] #[] 1537 3 #[] #[])
  fields := #[]
  methods := #[]
  instanceTypes := #[]
  staticTypes := #[]
  resolved := Array.replicate 11 none
  statics := none }

def pool3 : Array CpInfo := pool [(1, .class_ 2), (0, u "java/lang/Comparable"), (0, .class_ 4), (0, u "java/lang/Object")] 7

/-- java/lang/Comparable -/
def k3 : Class := { plain "java/lang/Comparable" (some 0) with
  accessFlags := 1537
  interfaces := #[]
  cf := some (fileOf pool3 1 #[] #[] 1537 3 #[] #[])
  fields := #[]
  methods := #[]
  instanceTypes := #[]
  staticTypes := #[]
  resolved := Array.replicate 12 none
  statics := none }

def pool4 : Array CpInfo := pool [(1, .class_ 2), (0, u "java/io/Serializable"), (0, .class_ 4), (0, u "java/lang/Object")] 2

/-- java/io/Serializable -/
def k4 : Class := { plain "java/io/Serializable" (some 0) with
  accessFlags := 1537
  interfaces := #[]
  cf := some (fileOf pool4 1 #[] #[] 1537 3 #[] #[])
  fields := #[]
  methods := #[]
  instanceTypes := #[]
  staticTypes := #[]
  resolved := Array.replicate 7 none
  statics := none }

def pool5 : Array CpInfo := pool [(2, .class_ 4), (1, u "java/lang/Enum"), (0, u "name"), (0, u "Ljava/lang/String;"), (2, u "ordinal"), (0, u "I"), (1, .class_ 14), (1, u "java/lang/Object"), (4, u "hash"), (86, .class_ 108), (1, u "java/lang/Enum$EnumDesc"), (2, .class_ 112), (0, u "java/lang/constant/Constable"), (0, .class_ 114), (0, u "java/lang/Comparable"), (0, .class_ 116), (0, u "java/io/Serializable")] 87

/-- java/lang/Enum -/
def k5 : Class := { plain "java/lang/Enum" (some 0) with
  accessFlags := 1057
  interfaces := #[2, 3, 4]
  cf := some (fileOf pool5 2 #[.nestMembers #[106]] #[] 1057 12 #[111, 113, 115] #[{ accessFlags := 18, nameIndex := 5, descriptorIndex := 6, attributes := #[] }, { accessFlags := 18, nameIndex := 9, descriptorIndex := 10, attributes := #[] }, { accessFlags := 2, nameIndex := 19, descriptorIndex := 10, attributes := #[] }])
  fields := #[{ name := "name", type := (.object "java/lang/String"), accessFlags := 18, slot := 0, constantValue := 0 }, { name := "ordinal", type := .int, accessFlags := 18, slot := 1, constantValue := 0 }, { name := "hash", type := .int, accessFlags := 2, slot := 2, constantValue := 0 }]
  methods := #[]
  instanceTypes := #[(.object "java/lang/String"), .int, .int]
  staticTypes := #[]
  resolved := Array.replicate 204 none
  statics := none }

def pool6 : Array CpInfo := pool [(1, .class_ 2), (0, u "com/example/scopelock/scopelock/Kind"), (2, u "TELEMETRY"), (0, u "Lcom/example/scopelock/scopelock/Kind;"), (2, u "SDK_INTEGRATION"), (2, u "CUSTOM"), (2, u "$VALUES"), (0, u "[Lcom/example/scopelock/scopelock/Kind;"), (6, .class_ 25), (1, u "java/lang/Enum"), (8, u "label"), (0, u "Ljava/lang/String;"), (6, .fieldref 1 43), (0, .nameAndType 44 45), (0, u "fixedScopes"), (0, u "Ljava/util/Set;"), (6, .methodref 1 53), (0, .nameAndType 54 55), (0, u "immutable"), (0, u "()Z"), (90, u "managesKeys")] 41

def k6c0 : Code := { maxStack := 1, maxLocals := 1, code := prog_16_method_6_code, exceptionTable := #[], attributes := #[] }
def k6m0 : Method := { name := "immutable", desc := "()Z", sig := { parameters := [], returnType := some .boolean }, accessFlags := 1, code := some k6c0 }
def k6c1 : Code := { maxStack := 1, maxLocals := 1, code := prog_16_method_7_code, exceptionTable := #[], attributes := #[] }
def k6m1 : Method := { name := "managesKeys", desc := "()Z", sig := { parameters := [], returnType := some .boolean }, accessFlags := 1, code := some k6c1 }
/-- com/example/scopelock/scopelock/Kind -/
def k6 : Class := { plain "com/example/scopelock/scopelock/Kind" (some 5) with
  accessFlags := 16433
  interfaces := #[]
  cf := some (fileOf pool6 1 #[] #[{ accessFlags := 1, nameIndex := 54, descriptorIndex := 55, attributes := #[] }, { accessFlags := 1, nameIndex := 146, descriptorIndex := 55, attributes := #[] }] 16433 23 #[] #[{ accessFlags := 16409, nameIndex := 5, descriptorIndex := 6, attributes := #[] }, { accessFlags := 16409, nameIndex := 9, descriptorIndex := 6, attributes := #[] }, { accessFlags := 16409, nameIndex := 12, descriptorIndex := 6, attributes := #[] }, { accessFlags := 18, nameIndex := 34, descriptorIndex := 35, attributes := #[] }, { accessFlags := 18, nameIndex := 44, descriptorIndex := 45, attributes := #[] }, { accessFlags := 4122, nameIndex := 15, descriptorIndex := 16, attributes := #[] }])
  fields := #[{ name := "TELEMETRY", type := (.object "com/example/scopelock/scopelock/Kind"), accessFlags := 16409, slot := 0, constantValue := 0 }, { name := "SDK_INTEGRATION", type := (.object "com/example/scopelock/scopelock/Kind"), accessFlags := 16409, slot := 1, constantValue := 0 }, { name := "CUSTOM", type := (.object "com/example/scopelock/scopelock/Kind"), accessFlags := 16409, slot := 2, constantValue := 0 }, { name := "label", type := (.object "java/lang/String"), accessFlags := 18, slot := 3, constantValue := 0 }, { name := "fixedScopes", type := (.object "java/util/Set"), accessFlags := 18, slot := 4, constantValue := 0 }, { name := "$VALUES", type := (.array (.object "com/example/scopelock/scopelock/Kind")), accessFlags := 4122, slot := 3, constantValue := 0 }]
  methods := #[k6m0, k6m1]
  instanceTypes := #[(.object "java/lang/String"), .int, .int, (.object "java/lang/String"), (.object "java/util/Set")]
  staticTypes := #[(.object "com/example/scopelock/scopelock/Kind"), (.object "com/example/scopelock/scopelock/Kind"), (.object "com/example/scopelock/scopelock/Kind"), (.array (.object "com/example/scopelock/scopelock/Kind"))]
  resolved := Array.replicate 188 none
  statics := some 0 }

def pool7 : Array CpInfo := pool [(8, .class_ 10), (1, u "java/lang/Iterable"), (24, .class_ 36), (0, u "java/lang/Object")] 25

/-- java/lang/Iterable -/
def k7 : Class := { plain "java/lang/Iterable" (some 0) with
  accessFlags := 1537
  interfaces := #[]
  cf := some (fileOf pool7 8 #[] #[] 1537 35 #[] #[])
  fields := #[]
  methods := #[]
  instanceTypes := #[]
  staticTypes := #[]
  resolved := Array.replicate 62 none
  statics := none }

def pool8 : Array CpInfo := pool [(10, .class_ 12), (1, u "java/util/Collection"), (47, .class_ 61), (0, u "java/lang/Object"), (0, .class_ 63), (0, u "java/lang/Iterable")] 51

/-- java/util/Collection -/
def k8 : Class := { plain "java/util/Collection" (some 0) with
  accessFlags := 1537
  interfaces := #[7]
  cf := some (fileOf pool8 10 #[] #[] 1537 60 #[62] #[])
  fields := #[]
  methods := #[]
  instanceTypes := #[]
  staticTypes := #[]
  resolved := Array.replicate 115 none
  statics := none }

def pool9 : Array CpInfo := pool [(2, .class_ 4), (1, u "java/lang/Object"), (6, .class_ 13), (1, u "java/util/Collections$UnmodifiableCollection"), (0, u "c"), (0, u "Ljava/util/Collection;"), (1, .class_ 19), (1, u "java/util/Collection"), (51, .class_ 72), (0, u "java/io/Serializable"), (0, u "serialVersionUID"), (0, u "J"), (57, .class_ 133), (0, u "java/util/Collections")] 2

/-- java/util/Collections$UnmodifiableCollection -/
def k9 : Class := { plain "java/util/Collections$UnmodifiableCollection" (some 0) with
  accessFlags := 32
  interfaces := #[8, 4]
  cf := some (fileOf pool9 11 #[.nestHost 132] #[] 32 2 #[17, 71] #[{ accessFlags := 26, nameIndex := 73, descriptorIndex := 74, attributes := #[] }, { accessFlags := 16, nameIndex := 14, descriptorIndex := 15, attributes := #[] }])
  fields := #[{ name := "serialVersionUID", type := .long, accessFlags := 26, slot := 0, constantValue := 0 }, { name := "c", type := (.object "java/util/Collection"), accessFlags := 16, slot := 0, constantValue := 0 }]
  methods := #[]
  instanceTypes := #[(.object "java/util/Collection")]
  staticTypes := #[.long]
  resolved := Array.replicate 136 none
  statics := none }

def pool10 : Array CpInfo := pool [(26, .class_ 27), (0, u "java/lang/Object"), (5, .class_ 34), (0, u "java/util/Set"), (1, .class_ 38), (1, u "java/util/Collection")] 105

/-- java/util/Set -/
def k10 : Class := { plain "java/util/Set" (some 0) with
  accessFlags := 1537
  interfaces := #[8]
  cf := some (fileOf pool10 33 #[] #[] 1537 26 #[36] #[])
  fields := #[]
  methods := #[]
  instanceTypes := #[]
  staticTypes := #[]
  resolved := Array.replicate 144 none
  statics := none }

def pool11 : Array CpInfo := pool [(2, .class_ 4), (1, u "java/util/Collections$UnmodifiableCollection"), (3, .class_ 10), (1, u "java/util/Collections$UnmodifiableSet"), (12, .class_ 24), (0, u "java/util/Set"), (0, .class_ 26), (0, u "java/io/Serializable"), (0, u "serialVersionUID"), (0, u "J"), (23, .class_ 53), (0, u "java/util/Collections")] 3

/-- java/util/Collections$UnmodifiableSet -/
def k11 : Class := { plain "java/util/Collections$UnmodifiableSet" (some 9) with
  accessFlags := 32
  interfaces := #[10, 4]
  cf := some (fileOf pool11 8 #[.nestHost 52] #[] 32 2 #[23, 25] #[{ accessFlags := 26, nameIndex := 27, descriptorIndex := 28, attributes := #[] }])
  fields := #[{ name := "serialVersionUID", type := .long, accessFlags := 26, slot := 0, constantValue := 0 }]
  methods := #[]
  instanceTypes := #[(.object "java/util/Collection")]
  staticTypes := #[.long]
  resolved := Array.replicate 57 none
  statics := none }

def pool12 : Array CpInfo := pool [(1, u "java/lang/Cloneable"), (0, .class_ 1), (0, u "java/lang/Object"), (0, .class_ 3)] 3

/-- java/lang/Cloneable -/
def k12 : Class := { plain "java/lang/Cloneable" (some 0) with
  accessFlags := 1537
  interfaces := #[]
  cf := some (fileOf pool12 2 #[] #[] 1537 4 #[] #[])
  fields := #[]
  methods := #[]
  instanceTypes := #[]
  staticTypes := #[]
  resolved := Array.replicate 8 none
  statics := none }

/-- the primitive byte -/
def k13 : Class := { plain "byte" none with kind := .primitive 'B', accessFlags := 0x411 }
/-- [B -/
def k14 : Class := { plain "[B" (some 0) with kind := .array 13 .byte, interfaces := #[12, 4], accessFlags := 1041 }

/-- the primitive int -/
def k15 : Class := { plain "int" none with kind := .primitive 'I', accessFlags := 0x411 }
/-- [I -/
def k16 : Class := { plain "[I" (some 0) with kind := .array 15 .int, interfaces := #[12, 4], accessFlags := 1041 }

def heap : Heap := #[{ cls := 6, slots := #[.ref 1, .ref 3, .ref 2, .null], vm := .statics 6 },
  { cls := 6, slots := #[.null, .int 0, .int 0, .null, .ref 4], vm := .none },
  { cls := 6, slots := #[.null, .int 0, .int 0, .null, .null], vm := .none },
  { cls := 6, slots := #[.null, .int 0, .int 0, .null, .ref 5], vm := .none },
  { cls := 11, slots := #[.null], vm := .none },
  { cls := 11, slots := #[.null], vm := .none }]
def classes : Array Class := #[k0, k1, k2, k3, k4, k5, k6, k7, k8, k9, k10, k11, k12, k13, k14, k15, k16]
def interned : List (Array UInt16 × Addr) := []
def slotsUsed : Nat := 21
def theMethod : MethodId := ⟨1, 1⟩
def args0 : Array Value := #[.int 5]
def aboutOver (below : List Frame) : State where
  vm := { classes := classes, interned := interned.toArray }
  heap := heap
  slotsUsed := slotsUsed
  threads := #[{ frames := .invoking theMethod args0 :: below }]
def below0 : List Frame := [.native { method := ⟨0, 0⟩, args := #[] }]
def about1 : State := aboutOver below0
def p0 : Program := .bare "" "" ""
def e0 : Env := launch0.env 0 0 0
theorem w_frames : about1.frames = Frame.invoking theMethod args0 :: below0 := rfl
set_option maxRecDepth 65536 in
theorem w_args : argsFit about1.vm theMethod args0 = true := by decide +kernel
set_option maxRecDepth 65536 in
theorem w_heap : heapFits about1 = true := by decide +kernel
set_option maxRecDepth 65536 in
theorem w_runnable : about1.curStatus? = some .runnable := by decide +kernel
set_option maxRecDepth 65536 in
theorem w_alone : about1.alone = true := by decide +kernel
set_option maxRecDepth 65536 in
theorem w_named : about1.methodNamed? x = some theMethod := by decide +kernel
set_option maxRecDepth 65536 in
theorem w_hears : about1.hears theMethod below0 = true := by decide +kernel
set_option maxRecDepth 65536 in
theorem w_ripe : about1.ripe theMethod args0 below0 = true := by decide +kernel
theorem w_running : about1.status = .running := rfl
set_option maxRecDepth 65536 in
theorem w_room : about1.hasRoom e0.platform room_1 = true :=
  launch0.hasRoom_least _ room_1 (by decide +kernel) (by decide +kernel) (by decide +kernel) (by decide +kernel) (by decide +kernel) (by decide +kernel)
theorem allAtoms_all (ts : List Jvm.Cond) (a : Array Jvm.Value) (st : Jvm.State) : (allAtoms ts).before a st = ts.all (fun c => c.before a st) := by
  induction ts with
  | nil => rfl
  | cons c t ih =>
    show (Jvm.Cond.and c (allAtoms t)).before a st = _
    rw [Jvm.Cond.before_and, ih, List.all_cons]
def words1 : List Jvm.Cond := Jvm.Cond.code x code maxLocals ret :: tables_1
/-- a 'code' word, met by the world's own term for the bytes: nothing is compared byte by byte -/
theorem code_word {y : MethodName} {bytes : ByteArray} {mx : Nat} {rt : Option FieldType} {a : Array Value} {s : State} {m : MethodId} {meth : Method} {c : Code} (h1 : s.methodNamed? y = some m) (h2 : s.vm.method? m = some meth) (h3 : meth.code = some c) (h4 : c.code = bytes)
    (h5 : (c.maxLocals == mx && c.exceptionTable.isEmpty && decide (c.maxStack ≤ mostOperands) && decide (meth.sig.returnType = rt) && !meth.locks && decide (parseMethodDescriptor y.desc = some meth.sig)) = true) : (Jvm.Cond.code y bytes mx rt).before a s = true := by
  simp only [Bool.and_eq_true, beq_iff_eq, Bool.not_eq_true', decide_eq_true_eq] at h5
  obtain ⟨⟨⟨⟨⟨g1, g2⟩, g3⟩, g4⟩, g5⟩, g6⟩ := h5
  simp [Cond.before, Cond.holds, Cond.value, h1, h2, h3, h4, g1, g2, g3, g4, g5, g6]
def isCode : Jvm.Cond → Bool
  | .code _ _ _ _ => true
  | _ => false
theorem all_split {L : List Jvm.Cond} {P : Jvm.Cond → Bool} (h1 : L.all (fun c => isCode c || P c) = true) (h2 : ∀ c ∈ L.filter isCode, P c = true) : L.all P = true := by
  refine List.all_eq_true.mpr fun c hc => ?_
  have h := List.all_eq_true.mp h1 c hc
  rcases Bool.eq_false_or_eq_true (isCode c) with hi | hi
  · exact h2 c (List.mem_filter.mpr ⟨hc, hi⟩)
  · simpa [hi] using h
set_option maxRecDepth 65536 in
theorem w_c0 : (Jvm.Cond.code x code maxLocals ret).before args0 about1 = true := code_word (m := ⟨1, 1⟩) (meth := k1m1) (c := k1c1) (by decide +kernel) rfl rfl rfl (by decide +kernel)
set_option maxRecDepth 65536 in
theorem w_c1 : (Jvm.Cond.code ({ cls := "com/example/scopelock/scopelock/Kind", name := "immutable", desc := "()Z" } : Jvm.MethodName) prog_16_method_6_code (1 : Nat) (Option.some Jvm.ClassFile.FieldType.boolean)).before args0 about1 = true := code_word (m := ⟨6, 0⟩) (meth := k6m0) (c := k6c0) (by decide +kernel) rfl rfl rfl (by decide +kernel)
set_option maxRecDepth 65536 in
theorem w_c2 : (Jvm.Cond.code ({ cls := "com/example/scopelock/scopelock/Kind", name := "managesKeys", desc := "()Z" } : Jvm.MethodName) prog_16_method_7_code (1 : Nat) (Option.some Jvm.ClassFile.FieldType.boolean)).before args0 about1 = true := code_word (m := ⟨6, 1⟩) (meth := k6m1) (c := k6c1) (by decide +kernel) rfl rfl rfl (by decide +kernel)
def codes1 : List Jvm.Cond := [Jvm.Cond.code x code maxLocals ret, Jvm.Cond.code ({ cls := "com/example/scopelock/scopelock/Kind", name := "immutable", desc := "()Z" } : Jvm.MethodName) prog_16_method_6_code (1 : Nat) (Option.some Jvm.ClassFile.FieldType.boolean), Jvm.Cond.code ({ cls := "com/example/scopelock/scopelock/Kind", name := "managesKeys", desc := "()Z" } : Jvm.MethodName) prog_16_method_7_code (1 : Nat) (Option.some Jvm.ClassFile.FieldType.boolean)]
set_option maxRecDepth 65536 in
theorem codes_eq : words1.filter isCode = codes1 := rfl
theorem w_codes : ∀ c ∈ words1.filter isCode, c.before args0 about1 = true := by
  rw [codes_eq]
  intro c hc
  simp only [codes1, List.mem_cons, List.not_mem_nil, or_false] at hc
  rcases hc with rfl | rfl | rfl
  · exact w_c0
  · exact w_c1
  · exact w_c2
set_option maxRecDepth 65536 in
theorem w_t1 : words1.all (fun c => isCode c || c.before args0 about1) = true := by decide +kernel
theorem w_tables : (allAtoms (Jvm.Cond.code x code maxLocals ret :: tables_1)).before args0 about1 = true := by
  rw [allAtoms_all]
  show words1.all (fun c => c.before args0 about1) = true
  refine all_split ?_ w_codes
  rw [w_t1]
set_option maxRecDepth 65536 in
theorem w_case : (Jvm.Cond.and given_1 narrow_1).before args0 about1 = true := by decide +kernel
theorem w_applies : (headSpec (Jvm.Cond.code x code maxLocals ret :: tables_1) room_1).applies x e0.platform about1 = true :=
  (Spec.applies_iff w_frames).mpr ⟨w_running, w_runnable, w_alone, w_named, w_hears, w_ripe, w_room, w_tables⟩
theorem atStart : AtStart classFile x code maxLocals ret World_1 tables_1 room_1 Calls_1 rest_1 Pre_1 launch0 p0 e0 about1 theMethod args0 below0 :=
  ⟨lists_1, trivial, launch0.admits_env _ _ _, launch0.least_env, fairChoices_fair.cas, fairChoices_fair.clock, w_frames, w_args, w_heap, w_applies, trivial, trivial, w_case⟩
end start1
theorem witness_1 : WitnessClaimed_1 := ⟨start1.p0, start1.e0, start1.about1, start1.theMethod, start1.args0, start1.below0, start1.atStart⟩
end Jvm.Pilot.@@N@@
