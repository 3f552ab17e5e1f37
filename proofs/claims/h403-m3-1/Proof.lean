import JvmDerived
import JvmDerived.Pilot.@@N@@Statement
import JvmDerived.Pilot.@@N@@Code
set_option linter.unusedVariables false
set_option linter.unusedSimpArgs false
namespace Jvm.RoadKit
open Sem ClassFile Op Lib Jvm.Stand Jvm.Free Jvm.LawKit
section New
variable {p : Program} {l : Launch} {e : Env} {R : Room} {s : State} {m : MethodId} {args : Array Value} {below : List Frame} {meth : Method} {c : Code} {T : State} {locs : List Loc} {cells slots : Nat}
theorem retI (X : Stand p l e R s m args below meth c T locs cells slots) (hx : p.tables.exec = Jvm.exec) {pc : Nat} {Ls : Array Slot} {z : Int32} {rest : List Value} (hret : meth.sig.returnType = some .int) (hd : decode c.code pc = .ok (.ireturn, 1)) {fs : List Frame}
    (hl : ∀ (f : JFrame) (acts : List Action), f.method = m → f.locked = none → f.entered = [] → (doReturn e (T.setTop f) acts (some (.int z))).1 = T.setFrames fs) : Steps p.tables e below (T.setTop (mkF m pc Ls (.int z :: rest))) (T.setFrames fs) := by
  have hm' : T.vm.method? m = some meth := X.method'
  have hn : narrow .int (.int z) = .int z := rfl
  show Steps p.tables e below (T.setTop { method := m, pc := pc, locals := Ls, stack := _ :: rest, locked := none }) _
  jvm_step X.here [X.here.top, hx, hd, hm', hret, hn]
  first | (intro acts; rw [hl _ acts rfl rfl rfl]) | rw [hl _ _ rfl rfl rfl]
  exact Steps.refl _
end New
end Jvm.RoadKit
namespace Jvm.Pilot.@@N@@
open Jvm Jvm.ClassFile Sem Op Lib Jvm.Free Jvm.Stand Jvm.LawKit Jvm.RoadKit Bundle Jvm.Pilot.@@N@@.Jvm.D
theorem ww {a0 : Array Value} {Z : State} (hw : ∀ d ∈ tables_1, d.before a0 Z = true) (i : Nat) {d : Jvm.Cond} (h : tables_1[i]? = some d) : d.before a0 Z = true := hw d (List.mem_of_getElem? h)
abbrev vi (x : Int32) : Slot := .val (.int x)
abbrev vj (x : Int64) : Slot := .val (.long x)
abbrev vr (x : Addr) : Slot := .val (.ref x)
abbrev vn : Slot := .val .null
abbrev vu : Slot := .unset
abbrev xi (x : Int32) : Value := .int x
abbrev xj (x : Int64) : Value := .long x
abbrev xr (x : Addr) : Value := .ref x
abbrev own_S (p : Program) (e : Env) (below : List Frame) (T : State) (g : JFrame) (t : State) : Prop := Steps p.tables e below (T.setTop g) t
/-- a body's contract: at these arguments and this heap it returns as Q says -/
abbrev own_Met (l : Launch) (Z : State) (y : MethodName) (bytes : ByteArray) (maxL : Nat) (rt : Option FieldType) (rm : Room) (as' : Array Value) (h0 : Heap) (Qy : Option Value → Heap → List Loc → Prop) : Prop :=
  ∀ ws : List Jvm.Cond, MetFree l y (head1 (Jvm.Cond.code y bytes maxL rt :: ws) rm) (fun a U => a = as' ∧ Z.Warmed39 U.vm ∧ U.heap = h0) (fun _ _ _ _ _ => True) (fun _ U o U' => ∃ v L, o = .returned v ∧ Qy v U'.heap L ∧ FrameEnd U o U' L rm.cells rm.slots)
/-- it returns r and leaves the heap -/
def own_QR (r : Option Value) (h0 : Heap) (n0 : Nat) (v : Option Value) (h : Heap) (L : List Loc) : Prop := v = r ∧ Fr n0 L ∧ h = h0
/-- it returns r and writes nothing that stood at the start -/
def own_QL (r : Option Value) (n0 : Nat) (v : Option Value) (h : Heap) (L : List Loc) : Prop := v = r ∧ Fr n0 L
theorem own_le {Z : State} {n0 : Nat} {h : Heap} (O : Old Z n0 h) : n0 ≤ h.size := O.1 ▸ O.2.1
theorem own_fresh {Z : State} {n0 : Nat} {h : Heap} {a : Addr} (O : Old Z n0 h) (g : a = h.size) : n0 ≤ a := g ▸ own_le O
theorem own_fld {s : State} {args : Array Value} {t : Term} {C n d : String} {a : Addr} {k : Int32} (ht : t.eval args s none [] s = some (.ref a)) (h : (Jvm.Cond.eq (.field t C n d) (.int k)).value args s none s [] = some true) : Fld s s.heap a C n d (.int k) := by
  refine Fld.start ?_
  simp only [Cond.value, Term.eval, ht] at h
  cases hv : s.fieldOf? a C n d with
  | none => simp [hv] at h
  | some v => cases v <;> simp [hv] at h; subst h; rfl
theorem own_fldN {s : State} {args : Array Value} {t : Term} {C n d : String} {a : Addr} (ht : t.eval args s none [] s = some (.ref a)) (h : (Jvm.Cond.eq (.field t C n d) .null).value args s none s [] = some true) : Fld s s.heap a C n d .null :=
  Fld.start ((fld_at ht).symm.trans (null_v h))
theorem own_fldX {s : State} {args : Array Value} {t : Term} {C n d K : String} {a : Addr} (ht : t.eval args s none [] s = some (.ref a)) (h : (Jvm.Cond.exactly (.field t C n d) K).value args s none s [] = some true) : ∃ b, Fld s s.heap a C n d (.ref b) ∧ Exa s s.heap b K := by
  obtain ⟨b, eb⟩ := exa_v h
  exact ⟨b, Fld.start ((fld_at ht).symm.trans eb), Exa.start eb h⟩
theorem own_len {s : State} {args : Array Value} {t : Term} {a : Addr} {cl : Cell} {ty : FieldType} {k : Int32} {k' : Nat} (ht : t.eval args s none [] s = some (.ref a)) (A : Arr s s.heap a cl ty) (h : (Jvm.Cond.eq (.length t) (.int k)).value args s none s [] = some true) (hk : k.toInt = k') : cl.slots.size = k' := by
  obtain ⟨v, hv⟩ : ∃ v, (Term.length t).eval args s none [] s = some v := by
    cases hq : (Term.length t).eval args s none [] s with
    | none => simp [Cond.value, hq] at h
    | some v => exact ⟨v, rfl⟩
  have ha : s.arrayAt? a = some cl := Arr.fin (Vm.Alike.refl _) A
  by_cases hl : cl.slots.size < 2 ^ 31
  · rw [len_f ht ha hl] at hv
    have h2 := len_f ht ha hl
    have h3 : cl.slots.size.toInt32 = k := gotT (Cond.eq_ints h2 (Term.int_eval k)) h
    have h4 := len_toInt hl
    rw [h3, hk] at h4
    omega
  · simp [Term.eval, ht, ha, hl] at hv
theorem own_ref {x y : Addr} (h : x ≠ y) : decide ((Value.ref x : Value) = .ref y) = false := by simp [h]
theorem own_mask (x : Int32) : 0 ≤ (x &&& (2147483647 : Int32)).toInt := by
  have := c_mask x 2147483647 31 (by decide) (by decide); omega
def own_St (Z : State) (u0 u1 u2 : Addr) : Prop := (Sta Z Z.heap "com/example/arbitrium/arbitrium/policy/Truth" "TRUE" "Lcom/example/arbitrium/arbitrium/policy/Truth;" (.ref u0)) ∧ (Exa Z Z.heap u0 "com/example/arbitrium/arbitrium/policy/Truth") ∧ (Sta Z Z.heap "com/example/arbitrium/arbitrium/policy/Truth" "FALSE" "Lcom/example/arbitrium/arbitrium/policy/Truth;" (.ref u1)) ∧ (Exa Z Z.heap u1 "com/example/arbitrium/arbitrium/policy/Truth") ∧ (Sta Z Z.heap "com/example/arbitrium/arbitrium/policy/Truth" "UNKNOWN" "Lcom/example/arbitrium/arbitrium/policy/Truth;" (.ref u2)) ∧ (Exa Z Z.heap u2 "com/example/arbitrium/arbitrium/policy/Truth") ∧ (Fld Z Z.heap u1 "java/lang/Enum" "ordinal" "I" (.int (1 : Int32))) ∧ (Fld Z Z.heap u2 "java/lang/Enum" "ordinal" "I" (.int (2 : Int32))) ∧ (Fld Z Z.heap u0 "java/lang/Enum" "ordinal" "I" (.int (0 : Int32)))
theorem own_S_u0 {Z : State} {u0 u1 u2 : Addr} (G : own_St Z u0 u1 u2) : Sta Z Z.heap "com/example/arbitrium/arbitrium/policy/Truth" "TRUE" "Lcom/example/arbitrium/arbitrium/policy/Truth;" (.ref u0) := G.1
theorem own_X_u0 {Z : State} {u0 u1 u2 : Addr} (G : own_St Z u0 u1 u2) : Exa Z Z.heap u0 "com/example/arbitrium/arbitrium/policy/Truth" := G.2.1
theorem own_S_u1 {Z : State} {u0 u1 u2 : Addr} (G : own_St Z u0 u1 u2) : Sta Z Z.heap "com/example/arbitrium/arbitrium/policy/Truth" "FALSE" "Lcom/example/arbitrium/arbitrium/policy/Truth;" (.ref u1) := G.2.2.1
theorem own_X_u1 {Z : State} {u0 u1 u2 : Addr} (G : own_St Z u0 u1 u2) : Exa Z Z.heap u1 "com/example/arbitrium/arbitrium/policy/Truth" := G.2.2.2.1
theorem own_S_u2 {Z : State} {u0 u1 u2 : Addr} (G : own_St Z u0 u1 u2) : Sta Z Z.heap "com/example/arbitrium/arbitrium/policy/Truth" "UNKNOWN" "Lcom/example/arbitrium/arbitrium/policy/Truth;" (.ref u2) := G.2.2.2.2.1
theorem own_X_u2 {Z : State} {u0 u1 u2 : Addr} (G : own_St Z u0 u1 u2) : Exa Z Z.heap u2 "com/example/arbitrium/arbitrium/policy/Truth" := G.2.2.2.2.2.1
theorem own_F_u1_ordinal {Z : State} {u0 u1 u2 : Addr} (G : own_St Z u0 u1 u2) : Fld Z Z.heap u1 "java/lang/Enum" "ordinal" "I" (.int (1 : Int32)) := G.2.2.2.2.2.2.1
theorem own_F_u2_ordinal {Z : State} {u0 u1 u2 : Addr} (G : own_St Z u0 u1 u2) : Fld Z Z.heap u2 "java/lang/Enum" "ordinal" "I" (.int (2 : Int32)) := G.2.2.2.2.2.2.2.1
theorem own_F_u0_ordinal {Z : State} {u0 u1 u2 : Addr} (G : own_St Z u0 u1 u2) : Fld Z Z.heap u0 "java/lang/Enum" "ordinal" "I" (.int (0 : Int32)) := G.2.2.2.2.2.2.2.2
theorem own_rem3 (x : Int32) : ((x &&& (2147483647 : Int32)) - ((x &&& (2147483647 : Int32)) / (3 : Int32)) * (3 : Int32)) = (0 : Int32) ∨ ((x &&& (2147483647 : Int32)) - ((x &&& (2147483647 : Int32)) / (3 : Int32)) * (3 : Int32)) = (1 : Int32) ∨ ((x &&& (2147483647 : Int32)) - ((x &&& (2147483647 : Int32)) / (3 : Int32)) * (3 : Int32)) = (2 : Int32) := by
  have h0 := own_mask x
  have h1 := Jvm.LawKit.rem_toInt (x &&& (2147483647 : Int32)) (3 : Int32)
  have h2 : ((3 : Int32)).toInt = 3 := by decide
  rw [h2, Int.tmod_eq_emod_of_nonneg h0] at h1
  have h3 : ((x &&& (2147483647 : Int32)) - ((x &&& (2147483647 : Int32)) / (3 : Int32)) * (3 : Int32)).toInt = 0 ∨ ((x &&& (2147483647 : Int32)) - ((x &&& (2147483647 : Int32)) / (3 : Int32)) * (3 : Int32)).toInt = 1 ∨ ((x &&& (2147483647 : Int32)) - ((x &&& (2147483647 : Int32)) / (3 : Int32)) * (3 : Int32)).toInt = 2 := by omega
  rcases h3 with h | h | h
  · exact Or.inl (Int32.toInt_inj.mp (h.trans (by decide)))
  · exact Or.inr <| Or.inl (Int32.toInt_inj.mp (h.trans (by decide)))
  · exact Or.inr <| Or.inr <| (Int32.toInt_inj.mp (h.trans (by decide)))
theorem own_mask1 (x : Int32) : (x &&& (1 : Int32)) = (0 : Int32) ∨ (x &&& (1 : Int32)) = (1 : Int32) := by
  have h1 := c_mask x 1 1 (by decide) (by decide)
  have h3 : (x &&& (1 : Int32)).toInt = 0 ∨ (x &&& (1 : Int32)).toInt = 1 := by omega
  rcases h3 with h | h
  · exact Or.inl (Int32.toInt_inj.mp (h.trans (by decide)))
  · exact Or.inr <| (Int32.toInt_inj.mp (h.trans (by decide)))
theorem d1_0 : decode method_2_code 0 = .ok (.iload_n 0, 1) := by decide +kernel
theorem d1_1 : decode method_2_code 1 = .ok (.ldc 7, 2) := by decide +kernel
theorem d1_3 : decode method_2_code 3 = .ok (.iand, 1) := by decide +kernel
theorem d1_4 : decode method_2_code 4 = .ok (.iconst 3, 1) := by decide +kernel
theorem d1_5 : decode method_2_code 5 = .ok (.irem, 1) := by decide +kernel
theorem d1_6 : decode method_2_code 6 = .ok (.istore_n 1, 1) := by decide +kernel
theorem d1_7 : decode method_2_code 7 = .ok (.iload_n 1, 1) := by decide +kernel
theorem d1_8 : decode method_2_code 8 = .ok (.ifCond .ne 7, 3) := by decide +kernel
theorem d1_11 : decode method_2_code 11 = .ok (.getstatic 8, 3) := by decide +kernel
theorem d1_14 : decode method_2_code 14 = .ok (.areturn, 1) := by decide +kernel
abbrev Y0 : MethodName := (⟨"com/example/arbitrium/arbitrium/policy/TruthNotPinLaw", "pick", "(I)Lcom/example/arbitrium/arbitrium/policy/Truth;"⟩ : MethodName)
theorem pn0 : plainName "com/example/arbitrium/arbitrium/policy/TruthNotPinLaw" = true := by first | (simp [plainName, overriddenIn]; done) | decide +kernel
theorem ef_own_c0_pick (m : MethodId) (u0 u1 u2 : Addr) (p1 : Int32) : entryFrame m #[xi p1] 2 = (mkF m 0 #[vi p1, vu] []) := by first | (simp [entryFrame, mkF, argsToLocals, Value.category]; done) | rfl
set_option maxRecDepth 65536 in
set_option maxHeartbeats 40000000 in
theorem own_c0_pick (l : Launch) (Z : State) (a0 : Array Value) (hw : ∀ d ∈ tables_1, d.before a0 Z = true) (u0 u1 u2 : Addr) (G : own_St Z u0 u1 u2) (p1 : Int32) (as0 : ((p1 &&& (2147483647 : Int32)) - ((p1 &&& (2147483647 : Int32)) / (3 : Int32)) * (3 : Int32)) = (0 : Int32)) (h0 : Heap) (n0 : Nat) (O0 : Old Z n0 h0) : own_Met l Z Y0 method_2_code 2 (some (.object "com/example/arbitrium/arbitrium/policy/Truth")) ({ frames := 0, cells := 0, slots := 0, locals := 0 } : Room) #[xi p1] h0 (own_QR (some (xr u0)) h0 n0) := by
  intro ws
  refine MetFree.of_bodySF (plainFor_of_name pn0) hisR ?_
  intro p e s m args below meth c s₁ Bd hml0 hP hK
  obtain ⟨rfl, hZ, hh⟩ := hP
  have hx := Bd.exec
  have hby := Bd.bytes
  have hml : c.maxLocals = 2 := hml0
  have hown : s.vm.findClass "com/example/arbitrium/arbitrium/policy/TruthNotPinLaw" = some m.cls := findClass_of_methodNamed Bd.named
  have hnm := (name_of_methodNamed Bd.named Bd.method).1
  have X0 : Stand p l e ({ frames := 0, cells := 0, slots := 0, locals := 0 } : Room) s m #[xi p1] below meth c s₁ [] 0 0 := Stand.of_body Bd
  have e0 : s₁.heap = h0 := by rw [← hh, Bd.state]; rfl
  have N0 := Fr.nil n0
  have pre0 : ∀ t, Steps p.tables e below (s₁.setTop (mkF m 0 #[vi p1, vu] [])) t → Steps p.tables e below (s₁.setTop (entryFrame m #[xi p1] 2)) t := fun t k => castTop (ef_own_c0_pick m u0 u1 u2 p1) k
  obtain ⟨T1, X1, e1, st1⟩ := getS2 X0 hx hZ hown (host := "") (Or.inl (ww hw 5 rfl)) Via.refl e0 ((own_S_u0 G).ext O0.2) (g := (mkF m 11 #[vi p1, vi (0 : Int32)] [])) rfl (hb hby d1_11)
  obtain ⟨fs, hr, hrun, hended, hW, hsame⟩ := X1.leave (v := some (xr u0)) (fun h => by rw [Bd.returns] at h; cases h)
  refine ⟨_, _, pre0 _ ?_, hrun, hended, _, _, rfl, ?_, ⟨_, rfl⟩, hW, hsame.mono (by decide) (by decide)⟩
  · show own_S p e below s₁ (mkF m 0 #[vi p1, vu] []) _
    refine XS.iloadN X0.here hx rfl (hb hby d1_0) rfl ?_
    show own_S p e below s₁ (mkF m 1 #[vi p1, vu] [xi p1]) _
    refine X0.ldcI hx hown (mvT hZ (ww hw 4 rfl)) (g := (mkF m 1 #[vi p1, vu] [xi p1])) rfl (hb hby d1_1) ?_
    show own_S p e below s₁ (mkF m 3 #[vi p1, vu] [xi (2147483647 : Int32), xi p1]) _
    refine XS.iand X0.here hx rfl (hb hby d1_3) rfl ?_
    show own_S p e below s₁ (mkF m 4 #[vi p1, vu] [xi (p1 &&& (2147483647 : Int32))]) _
    show own_S p e below s₁ (mkF m 4 #[vi p1, vu] [xi (p1 &&& (2147483647 : Int32))]) _
    refine XS.iconst X0.here hx rfl (hb hby d1_4) ?_
    show own_S p e below s₁ (mkF m 5 #[vi p1, vu] [xi (3 : Int32), xi (p1 &&& (2147483647 : Int32))]) _
    refine XS.irem X0.here hx rfl (hb hby d1_5) rfl (by decide) ?_
    show own_S p e below s₁ (mkF m 6 #[vi p1, vu] [xi ((p1 &&& (2147483647 : Int32)) - ((p1 &&& (2147483647 : Int32)) / (3 : Int32)) * (3 : Int32))]) _
    refine castTop (show (mkF m 6 #[vi p1, vu] [xi ((p1 &&& (2147483647 : Int32)) - ((p1 &&& (2147483647 : Int32)) / (3 : Int32)) * (3 : Int32))]) = (mkF m 6 #[vi p1, vu] [xi (0 : Int32)]) from by rw [as0]) ?_
    show own_S p e below s₁ (mkF m 6 #[vi p1, vu] [xi (0 : Int32)]) _
    refine XS.istoreN X0.here hx rfl (hb hby d1_6) rfl (l' := #[vi p1, vi (0 : Int32)]) rfl ?_
    show own_S p e below s₁ (mkF m 7 #[vi p1, vi (0 : Int32)] []) _
    refine XS.iloadN X0.here hx rfl (hb hby d1_7) rfl ?_
    show own_S p e below s₁ (mkF m 8 #[vi p1, vi (0 : Int32)] [xi (0 : Int32)]) _
    refine XS.ifNo X0.here hx rfl (hb hby d1_8) rfl (by decide) ?_
    show own_S p e below s₁ (mkF m 11 #[vi p1, vi (0 : Int32)] []) _
    refine st1 _ ?_
    show own_S p e below T1 (mkF m 14 #[vi p1, vi (0 : Int32)] [xr u0]) _
    exact X1.areturnOut hx rfl Bd.returns rfl (hb hby d1_14) hr
  · exact ⟨rfl, N0, e1⟩
theorem pd0 : parseMethodDescriptor "(I)Lcom/example/arbitrium/arbitrium/policy/Truth;" = some ⟨[.int], some (.object "com/example/arbitrium/arbitrium/policy/Truth")⟩ := by decide +kernel
theorem ef_own_c1_pick (m : MethodId) (u0 u1 u2 : Addr) (p2 : Int32) : entryFrame m #[xi p2] 2 = (mkF m 0 #[vi p2, vu] []) := by first | (simp [entryFrame, mkF, argsToLocals, Value.category]; done) | rfl
set_option maxRecDepth 65536 in
set_option maxHeartbeats 40000000 in
theorem own_c1_pick (l : Launch) (Z : State) (a0 : Array Value) (hw : ∀ d ∈ tables_1, d.before a0 Z = true) (u0 u1 u2 : Addr) (G : own_St Z u0 u1 u2) (p2 : Int32) (as3 : ((p2 &&& (2147483647 : Int32)) - ((p2 &&& (2147483647 : Int32)) / (3 : Int32)) * (3 : Int32)) = (0 : Int32)) (h0 : Heap) (n0 : Nat) (O0 : Old Z n0 h0) : own_Met l Z Y0 method_2_code 2 (some (.object "com/example/arbitrium/arbitrium/policy/Truth")) ({ frames := 0, cells := 0, slots := 0, locals := 0 } : Room) #[xi p2] h0 (own_QR (some (xr u0)) h0 n0) := by
  intro ws
  refine MetFree.of_bodySF (plainFor_of_name pn0) hisR ?_
  intro p e s m args below meth c s₁ Bd hml0 hP hK
  obtain ⟨rfl, hZ, hh⟩ := hP
  have hx := Bd.exec
  have hby := Bd.bytes
  have hml : c.maxLocals = 2 := hml0
  have hown : s.vm.findClass "com/example/arbitrium/arbitrium/policy/TruthNotPinLaw" = some m.cls := findClass_of_methodNamed Bd.named
  have hnm := (name_of_methodNamed Bd.named Bd.method).1
  have X0 : Stand p l e ({ frames := 0, cells := 0, slots := 0, locals := 0 } : Room) s m #[xi p2] below meth c s₁ [] 0 0 := Stand.of_body Bd
  have e0 : s₁.heap = h0 := by rw [← hh, Bd.state]; rfl
  have N0 := Fr.nil n0
  have pre0 : ∀ t, Steps p.tables e below (s₁.setTop (mkF m 0 #[vi p2, vu] [])) t → Steps p.tables e below (s₁.setTop (entryFrame m #[xi p2] 2)) t := fun t k => castTop (ef_own_c1_pick m u0 u1 u2 p2) k
  obtain ⟨T1, X1, e1, st1⟩ := getS2 X0 hx hZ hown (host := "") (Or.inl (ww hw 5 rfl)) Via.refl e0 ((own_S_u0 G).ext O0.2) (g := (mkF m 11 #[vi p2, vi (0 : Int32)] [])) rfl (hb hby d1_11)
  obtain ⟨fs, hr, hrun, hended, hW, hsame⟩ := X1.leave (v := some (xr u0)) (fun h => by rw [Bd.returns] at h; cases h)
  refine ⟨_, _, pre0 _ ?_, hrun, hended, _, _, rfl, ?_, ⟨_, rfl⟩, hW, hsame.mono (by decide) (by decide)⟩
  · show own_S p e below s₁ (mkF m 0 #[vi p2, vu] []) _
    refine XS.iloadN X0.here hx rfl (hb hby d1_0) rfl ?_
    show own_S p e below s₁ (mkF m 1 #[vi p2, vu] [xi p2]) _
    refine X0.ldcI hx hown (mvT hZ (ww hw 4 rfl)) (g := (mkF m 1 #[vi p2, vu] [xi p2])) rfl (hb hby d1_1) ?_
    show own_S p e below s₁ (mkF m 3 #[vi p2, vu] [xi (2147483647 : Int32), xi p2]) _
    refine XS.iand X0.here hx rfl (hb hby d1_3) rfl ?_
    show own_S p e below s₁ (mkF m 4 #[vi p2, vu] [xi (p2 &&& (2147483647 : Int32))]) _
    show own_S p e below s₁ (mkF m 4 #[vi p2, vu] [xi (p2 &&& (2147483647 : Int32))]) _
    refine XS.iconst X0.here hx rfl (hb hby d1_4) ?_
    show own_S p e below s₁ (mkF m 5 #[vi p2, vu] [xi (3 : Int32), xi (p2 &&& (2147483647 : Int32))]) _
    refine XS.irem X0.here hx rfl (hb hby d1_5) rfl (by decide) ?_
    show own_S p e below s₁ (mkF m 6 #[vi p2, vu] [xi ((p2 &&& (2147483647 : Int32)) - ((p2 &&& (2147483647 : Int32)) / (3 : Int32)) * (3 : Int32))]) _
    refine castTop (show (mkF m 6 #[vi p2, vu] [xi ((p2 &&& (2147483647 : Int32)) - ((p2 &&& (2147483647 : Int32)) / (3 : Int32)) * (3 : Int32))]) = (mkF m 6 #[vi p2, vu] [xi (0 : Int32)]) from by rw [as3]) ?_
    show own_S p e below s₁ (mkF m 6 #[vi p2, vu] [xi (0 : Int32)]) _
    refine XS.istoreN X0.here hx rfl (hb hby d1_6) rfl (l' := #[vi p2, vi (0 : Int32)]) rfl ?_
    show own_S p e below s₁ (mkF m 7 #[vi p2, vi (0 : Int32)] []) _
    refine XS.iloadN X0.here hx rfl (hb hby d1_7) rfl ?_
    show own_S p e below s₁ (mkF m 8 #[vi p2, vi (0 : Int32)] [xi (0 : Int32)]) _
    refine XS.ifNo X0.here hx rfl (hb hby d1_8) rfl (by decide) ?_
    show own_S p e below s₁ (mkF m 11 #[vi p2, vi (0 : Int32)] []) _
    refine st1 _ ?_
    show own_S p e below T1 (mkF m 14 #[vi p2, vi (0 : Int32)] [xr u0]) _
    exact X1.areturnOut hx rfl Bd.returns rfl (hb hby d1_14) hr
  · exact ⟨rfl, N0, e1⟩
theorem d2_0 : decode prog_71_method_4_code 0 = .ok (.iload_n 0, 1) := by decide +kernel
theorem d2_1 : decode prog_71_method_4_code 1 = .ok (.ifCond .eq 9, 3) := by decide +kernel
theorem d2_4 : decode prog_71_method_4_code 4 = .ok (.getstatic 3, 3) := by decide +kernel
theorem d2_7 : decode prog_71_method_4_code 7 = .ok (.goto 6, 3) := by decide +kernel
theorem d2_13 : decode prog_71_method_4_code 13 = .ok (.areturn, 1) := by decide +kernel
abbrev Y1 : MethodName := (⟨"com/example/arbitrium/arbitrium/policy/Truth", "of", "(Z)Lcom/example/arbitrium/arbitrium/policy/Truth;"⟩ : MethodName)
theorem pn1 : plainName "com/example/arbitrium/arbitrium/policy/Truth" = true := by first | (simp [plainName, overriddenIn]; done) | decide +kernel
theorem ef_own_c2_of (m : MethodId) (u0 u1 u2 : Addr) : entryFrame m #[xi (1 : Int32)] 1 = (mkF m 0 #[vi (1 : Int32)] []) := by first | (simp [entryFrame, mkF, argsToLocals, Value.category]; done) | rfl
set_option maxRecDepth 65536 in
set_option maxHeartbeats 40000000 in
theorem own_c2_of (l : Launch) (Z : State) (a0 : Array Value) (hw : ∀ d ∈ tables_1, d.before a0 Z = true) (u0 u1 u2 : Addr) (G : own_St Z u0 u1 u2) (h0 : Heap) (n0 : Nat) (O0 : Old Z n0 h0) : own_Met l Z Y1 prog_71_method_4_code 1 (some (.object "com/example/arbitrium/arbitrium/policy/Truth")) ({ frames := 0, cells := 0, slots := 0, locals := 0 } : Room) #[xi (1 : Int32)] h0 (own_QR (some (xr u0)) h0 n0) := by
  intro ws
  refine MetFree.of_bodySF (plainFor_of_name pn1) hisR ?_
  intro p e s m args below meth c s₁ Bd hml0 hP hK
  obtain ⟨rfl, hZ, hh⟩ := hP
  have hx := Bd.exec
  have hby := Bd.bytes
  have hml : c.maxLocals = 1 := hml0
  have hown : s.vm.findClass "com/example/arbitrium/arbitrium/policy/Truth" = some m.cls := findClass_of_methodNamed Bd.named
  have hnm := (name_of_methodNamed Bd.named Bd.method).1
  have X0 : Stand p l e ({ frames := 0, cells := 0, slots := 0, locals := 0 } : Room) s m #[xi (1 : Int32)] below meth c s₁ [] 0 0 := Stand.of_body Bd
  have e0 : s₁.heap = h0 := by rw [← hh, Bd.state]; rfl
  have N0 := Fr.nil n0
  have pre0 : ∀ t, Steps p.tables e below (s₁.setTop (mkF m 0 #[vi (1 : Int32)] [])) t → Steps p.tables e below (s₁.setTop (entryFrame m #[xi (1 : Int32)] 1)) t := fun t k => castTop (ef_own_c2_of m u0 u1 u2) k
  obtain ⟨T1, X1, e1, st1⟩ := getS2 X0 hx hZ hown (host := "") (Or.inl (ww hw 11 rfl)) Via.refl e0 ((own_S_u0 G).ext O0.2) (g := (mkF m 4 #[vi (1 : Int32)] [])) rfl (hb hby d2_4)
  obtain ⟨fs, hr, hrun, hended, hW, hsame⟩ := X1.leave (v := some (xr u0)) (fun h => by rw [Bd.returns] at h; cases h)
  refine ⟨_, _, pre0 _ ?_, hrun, hended, _, _, rfl, ?_, ⟨_, rfl⟩, hW, hsame.mono (by decide) (by decide)⟩
  · show own_S p e below s₁ (mkF m 0 #[vi (1 : Int32)] []) _
    refine XS.iloadN X0.here hx rfl (hb hby d2_0) rfl ?_
    show own_S p e below s₁ (mkF m 1 #[vi (1 : Int32)] [xi (1 : Int32)]) _
    refine XS.ifNo X0.here hx rfl (hb hby d2_1) rfl (by decide) ?_
    show own_S p e below s₁ (mkF m 4 #[vi (1 : Int32)] []) _
    refine st1 _ ?_
    show own_S p e below T1 (mkF m 7 #[vi (1 : Int32)] [xr u0]) _
    refine XS.goto X1.here hx rfl (pc0 := 7) (pc' := 13) rfl (hb hby d2_7) (by decide) (by decide) ?_
    show own_S p e below T1 (mkF m 13 #[vi (1 : Int32)] [xr u0]) _
    exact X1.areturnOut hx rfl Bd.returns rfl (hb hby d2_13) hr
  · exact ⟨rfl, N0, e1⟩
theorem pd1 : parseMethodDescriptor "(Z)Lcom/example/arbitrium/arbitrium/policy/Truth;" = some ⟨[.boolean], some (.object "com/example/arbitrium/arbitrium/policy/Truth")⟩ := by decide +kernel
theorem d2_10 : decode prog_71_method_4_code 10 = .ok (.getstatic 7, 3) := by decide +kernel
theorem ef_own_c3_of (m : MethodId) (u0 u1 u2 : Addr) : entryFrame m #[xi (0 : Int32)] 1 = (mkF m 0 #[vi (0 : Int32)] []) := by first | (simp [entryFrame, mkF, argsToLocals, Value.category]; done) | rfl
set_option maxRecDepth 65536 in
set_option maxHeartbeats 40000000 in
theorem own_c3_of (l : Launch) (Z : State) (a0 : Array Value) (hw : ∀ d ∈ tables_1, d.before a0 Z = true) (u0 u1 u2 : Addr) (G : own_St Z u0 u1 u2) (h0 : Heap) (n0 : Nat) (O0 : Old Z n0 h0) : own_Met l Z Y1 prog_71_method_4_code 1 (some (.object "com/example/arbitrium/arbitrium/policy/Truth")) ({ frames := 0, cells := 0, slots := 0, locals := 0 } : Room) #[xi (0 : Int32)] h0 (own_QR (some (xr u1)) h0 n0) := by
  intro ws
  refine MetFree.of_bodySF (plainFor_of_name pn1) hisR ?_
  intro p e s m args below meth c s₁ Bd hml0 hP hK
  obtain ⟨rfl, hZ, hh⟩ := hP
  have hx := Bd.exec
  have hby := Bd.bytes
  have hml : c.maxLocals = 1 := hml0
  have hown : s.vm.findClass "com/example/arbitrium/arbitrium/policy/Truth" = some m.cls := findClass_of_methodNamed Bd.named
  have hnm := (name_of_methodNamed Bd.named Bd.method).1
  have X0 : Stand p l e ({ frames := 0, cells := 0, slots := 0, locals := 0 } : Room) s m #[xi (0 : Int32)] below meth c s₁ [] 0 0 := Stand.of_body Bd
  have e0 : s₁.heap = h0 := by rw [← hh, Bd.state]; rfl
  have N0 := Fr.nil n0
  have pre0 : ∀ t, Steps p.tables e below (s₁.setTop (mkF m 0 #[vi (0 : Int32)] [])) t → Steps p.tables e below (s₁.setTop (entryFrame m #[xi (0 : Int32)] 1)) t := fun t k => castTop (ef_own_c3_of m u0 u1 u2) k
  obtain ⟨T1, X1, e1, st1⟩ := getS2 X0 hx hZ hown (host := "") (Or.inl (ww hw 12 rfl)) Via.refl e0 ((own_S_u1 G).ext O0.2) (g := (mkF m 10 #[vi (0 : Int32)] [])) rfl (hb hby d2_10)
  obtain ⟨fs, hr, hrun, hended, hW, hsame⟩ := X1.leave (v := some (xr u1)) (fun h => by rw [Bd.returns] at h; cases h)
  refine ⟨_, _, pre0 _ ?_, hrun, hended, _, _, rfl, ?_, ⟨_, rfl⟩, hW, hsame.mono (by decide) (by decide)⟩
  · show own_S p e below s₁ (mkF m 0 #[vi (0 : Int32)] []) _
    refine XS.iloadN X0.here hx rfl (hb hby d2_0) rfl ?_
    show own_S p e below s₁ (mkF m 1 #[vi (0 : Int32)] [xi (0 : Int32)]) _
    refine XS.ifYes X0.here hx rfl (pc0 := 1) (pc' := 10) rfl (hb hby d2_1) rfl (by decide) (by decide) (by decide) ?_
    show own_S p e below s₁ (mkF m 10 #[vi (0 : Int32)] []) _
    refine st1 _ ?_
    show own_S p e below T1 (mkF m 13 #[vi (0 : Int32)] [xr u1]) _
    exact X1.areturnOut hx rfl Bd.returns rfl (hb hby d2_13) hr
  · exact ⟨rfl, N0, e1⟩
theorem d3_0 : decode prog_71_method_7_code 0 = .ok (.aload_n 0, 1) := by decide +kernel
theorem d3_1 : decode prog_71_method_7_code 1 = .ok (.getstatic 10, 3) := by decide +kernel
theorem d3_4 : decode prog_71_method_7_code 4 = .ok (.if_acmp .ne 7, 3) := by decide +kernel
theorem own_ne_u1_u2 {Z : State} {u0 u1 u2 : Addr} (G : own_St Z u0 u1 u2) : u1 ≠ u2 := Fld.ne (own_F_u1_ordinal G) (own_F_u2_ordinal G) (by decide)
theorem d3_11 : decode prog_71_method_7_code 11 = .ok (.aload_n 0, 1) := by decide +kernel
theorem d3_12 : decode prog_71_method_7_code 12 = .ok (.getstatic 3, 3) := by decide +kernel
theorem d3_15 : decode prog_71_method_7_code 15 = .ok (.if_acmp .ne 9, 3) := by decide +kernel
theorem own_ne_u1_u0 {Z : State} {u0 u1 u2 : Addr} (G : own_St Z u0 u1 u2) : u1 ≠ u0 := Fld.ne (own_F_u1_ordinal G) (own_F_u0_ordinal G) (by decide)
theorem d3_24 : decode prog_71_method_7_code 24 = .ok (.getstatic 3, 3) := by decide +kernel
theorem d3_27 : decode prog_71_method_7_code 27 = .ok (.areturn, 1) := by decide +kernel
abbrev Y2 : MethodName := (⟨"com/example/arbitrium/arbitrium/policy/Truth", "not", "()Lcom/example/arbitrium/arbitrium/policy/Truth;"⟩ : MethodName)
theorem ef_own_c4_not (m : MethodId) (u0 u1 u2 : Addr) : entryFrame m #[xr u1] 1 = (mkF m 0 #[vr u1] []) := by first | (simp [entryFrame, mkF, argsToLocals, Value.category]; done) | rfl
set_option maxRecDepth 65536 in
set_option maxHeartbeats 40000000 in
theorem own_c4_not (l : Launch) (Z : State) (a0 : Array Value) (hw : ∀ d ∈ tables_1, d.before a0 Z = true) (u0 u1 u2 : Addr) (G : own_St Z u0 u1 u2) (h0 : Heap) (n0 : Nat) (O0 : Old Z n0 h0) : own_Met l Z Y2 prog_71_method_7_code 1 (some (.object "com/example/arbitrium/arbitrium/policy/Truth")) ({ frames := 0, cells := 0, slots := 0, locals := 0 } : Room) #[xr u1] h0 (own_QR (some (xr u0)) h0 n0) := by
  intro ws
  refine MetFree.of_bodySF (plainFor_of_name pn1) hisR ?_
  intro p e s m args below meth c s₁ Bd hml0 hP hK
  obtain ⟨rfl, hZ, hh⟩ := hP
  have hx := Bd.exec
  have hby := Bd.bytes
  have hml : c.maxLocals = 1 := hml0
  have hown : s.vm.findClass "com/example/arbitrium/arbitrium/policy/Truth" = some m.cls := findClass_of_methodNamed Bd.named
  have hnm := (name_of_methodNamed Bd.named Bd.method).1
  have X0 : Stand p l e ({ frames := 0, cells := 0, slots := 0, locals := 0 } : Room) s m #[xr u1] below meth c s₁ [] 0 0 := Stand.of_body Bd
  have e0 : s₁.heap = h0 := by rw [← hh, Bd.state]; rfl
  have N0 := Fr.nil n0
  have pre0 : ∀ t, Steps p.tables e below (s₁.setTop (mkF m 0 #[vr u1] [])) t → Steps p.tables e below (s₁.setTop (entryFrame m #[xr u1] 1)) t := fun t k => castTop (ef_own_c4_not m u0 u1 u2) k
  obtain ⟨T1, X1, e1, st1⟩ := getS2 X0 hx hZ hown (host := "") (Or.inl (ww hw 19 rfl)) Via.refl e0 ((own_S_u2 G).ext O0.2) (g := (mkF m 1 #[vr u1] [xr u1])) rfl (hb hby d3_1)
  obtain ⟨T2, X2, e2, st2⟩ := getS2 X1 hx hZ hown (host := "") (Or.inl (ww hw 11 rfl)) Via.refl e1 ((own_S_u0 G).ext O0.2) (g := (mkF m 12 #[vr u1] [xr u1])) rfl (hb hby d3_12)
  obtain ⟨T3, X3, e3, st3⟩ := getS2 X2 hx hZ hown (host := "") (Or.inl (ww hw 11 rfl)) Via.refl e2 ((own_S_u0 G).ext O0.2) (g := (mkF m 24 #[vr u1] [])) rfl (hb hby d3_24)
  obtain ⟨fs, hr, hrun, hended, hW, hsame⟩ := X3.leave (v := some (xr u0)) (fun h => by rw [Bd.returns] at h; cases h)
  refine ⟨_, _, pre0 _ ?_, hrun, hended, _, _, rfl, ?_, ⟨_, rfl⟩, hW, hsame.mono (by decide) (by decide)⟩
  · show own_S p e below s₁ (mkF m 0 #[vr u1] []) _
    refine XS.aloadN X0.here hx rfl (hb hby d3_0) rfl rfl ?_
    show own_S p e below s₁ (mkF m 1 #[vr u1] [xr u1]) _
    refine st1 _ ?_
    show own_S p e below T1 (mkF m 4 #[vr u1] [xr u2, xr u1]) _
    refine Jvm.RoadKit.acmp (g := (mkF m 4 #[vr u1] [xr u2, xr u1])) X1 hx rfl rfl rfl (pc0 := 4) (pc' := 11) (same := false) rfl (hb hby d3_4) rfl (own_ref (own_ne_u1_u2 G)) (by decide) (by decide) ?_
    show own_S p e below T1 (mkF m 11 #[vr u1] []) _
    refine XS.aloadN X1.here hx rfl (hb hby d3_11) rfl rfl ?_
    show own_S p e below T1 (mkF m 12 #[vr u1] [xr u1]) _
    refine st2 _ ?_
    show own_S p e below T2 (mkF m 15 #[vr u1] [xr u0, xr u1]) _
    refine Jvm.RoadKit.acmp (g := (mkF m 15 #[vr u1] [xr u0, xr u1])) X2 hx rfl rfl rfl (pc0 := 15) (pc' := 24) (same := false) rfl (hb hby d3_15) rfl (own_ref (own_ne_u1_u0 G)) (by decide) (by decide) ?_
    show own_S p e below T2 (mkF m 24 #[vr u1] []) _
    refine st3 _ ?_
    show own_S p e below T3 (mkF m 27 #[vr u1] [xr u0]) _
    exact X3.areturnOut hx rfl Bd.returns rfl (hb hby d3_27) hr
  · exact ⟨rfl, N0, e3⟩
theorem pd2 : parseMethodDescriptor "()Lcom/example/arbitrium/arbitrium/policy/Truth;" = some ⟨[], some (.object "com/example/arbitrium/arbitrium/policy/Truth")⟩ := by decide +kernel
theorem own_ne_u0_u2 {Z : State} {u0 u1 u2 : Addr} (G : own_St Z u0 u1 u2) : u0 ≠ u2 := Fld.ne (own_F_u0_ordinal G) (own_F_u2_ordinal G) (by decide)
theorem d3_18 : decode prog_71_method_7_code 18 = .ok (.getstatic 7, 3) := by decide +kernel
theorem d3_21 : decode prog_71_method_7_code 21 = .ok (.goto 6, 3) := by decide +kernel
theorem ef_own_c5_not (m : MethodId) (u0 u1 u2 : Addr) : entryFrame m #[xr u0] 1 = (mkF m 0 #[vr u0] []) := by first | (simp [entryFrame, mkF, argsToLocals, Value.category]; done) | rfl
set_option maxRecDepth 65536 in
set_option maxHeartbeats 40000000 in
theorem own_c5_not (l : Launch) (Z : State) (a0 : Array Value) (hw : ∀ d ∈ tables_1, d.before a0 Z = true) (u0 u1 u2 : Addr) (G : own_St Z u0 u1 u2) (h0 : Heap) (n0 : Nat) (O0 : Old Z n0 h0) : own_Met l Z Y2 prog_71_method_7_code 1 (some (.object "com/example/arbitrium/arbitrium/policy/Truth")) ({ frames := 0, cells := 0, slots := 0, locals := 0 } : Room) #[xr u0] h0 (own_QR (some (xr u1)) h0 n0) := by
  intro ws
  refine MetFree.of_bodySF (plainFor_of_name pn1) hisR ?_
  intro p e s m args below meth c s₁ Bd hml0 hP hK
  obtain ⟨rfl, hZ, hh⟩ := hP
  have hx := Bd.exec
  have hby := Bd.bytes
  have hml : c.maxLocals = 1 := hml0
  have hown : s.vm.findClass "com/example/arbitrium/arbitrium/policy/Truth" = some m.cls := findClass_of_methodNamed Bd.named
  have hnm := (name_of_methodNamed Bd.named Bd.method).1
  have X0 : Stand p l e ({ frames := 0, cells := 0, slots := 0, locals := 0 } : Room) s m #[xr u0] below meth c s₁ [] 0 0 := Stand.of_body Bd
  have e0 : s₁.heap = h0 := by rw [← hh, Bd.state]; rfl
  have N0 := Fr.nil n0
  have pre0 : ∀ t, Steps p.tables e below (s₁.setTop (mkF m 0 #[vr u0] [])) t → Steps p.tables e below (s₁.setTop (entryFrame m #[xr u0] 1)) t := fun t k => castTop (ef_own_c5_not m u0 u1 u2) k
  obtain ⟨T1, X1, e1, st1⟩ := getS2 X0 hx hZ hown (host := "") (Or.inl (ww hw 19 rfl)) Via.refl e0 ((own_S_u2 G).ext O0.2) (g := (mkF m 1 #[vr u0] [xr u0])) rfl (hb hby d3_1)
  obtain ⟨T2, X2, e2, st2⟩ := getS2 X1 hx hZ hown (host := "") (Or.inl (ww hw 11 rfl)) Via.refl e1 ((own_S_u0 G).ext O0.2) (g := (mkF m 12 #[vr u0] [xr u0])) rfl (hb hby d3_12)
  obtain ⟨T3, X3, e3, st3⟩ := getS2 X2 hx hZ hown (host := "") (Or.inl (ww hw 12 rfl)) Via.refl e2 ((own_S_u1 G).ext O0.2) (g := (mkF m 18 #[vr u0] [])) rfl (hb hby d3_18)
  obtain ⟨fs, hr, hrun, hended, hW, hsame⟩ := X3.leave (v := some (xr u1)) (fun h => by rw [Bd.returns] at h; cases h)
  refine ⟨_, _, pre0 _ ?_, hrun, hended, _, _, rfl, ?_, ⟨_, rfl⟩, hW, hsame.mono (by decide) (by decide)⟩
  · show own_S p e below s₁ (mkF m 0 #[vr u0] []) _
    refine XS.aloadN X0.here hx rfl (hb hby d3_0) rfl rfl ?_
    show own_S p e below s₁ (mkF m 1 #[vr u0] [xr u0]) _
    refine st1 _ ?_
    show own_S p e below T1 (mkF m 4 #[vr u0] [xr u2, xr u0]) _
    refine Jvm.RoadKit.acmp (g := (mkF m 4 #[vr u0] [xr u2, xr u0])) X1 hx rfl rfl rfl (pc0 := 4) (pc' := 11) (same := false) rfl (hb hby d3_4) rfl (own_ref (own_ne_u0_u2 G)) (by decide) (by decide) ?_
    show own_S p e below T1 (mkF m 11 #[vr u0] []) _
    refine XS.aloadN X1.here hx rfl (hb hby d3_11) rfl rfl ?_
    show own_S p e below T1 (mkF m 12 #[vr u0] [xr u0]) _
    refine st2 _ ?_
    show own_S p e below T2 (mkF m 15 #[vr u0] [xr u0, xr u0]) _
    refine Jvm.RoadKit.acmp (g := (mkF m 15 #[vr u0] [xr u0, xr u0])) X2 hx rfl rfl rfl (pc0 := 15) (pc' := 18) (same := true) rfl (hb hby d3_15) rfl (decide_eq_true rfl) (by decide) (by decide) ?_
    show own_S p e below T2 (mkF m 18 #[vr u0] []) _
    refine st3 _ ?_
    show own_S p e below T3 (mkF m 21 #[vr u0] [xr u1]) _
    refine XS.goto X3.here hx rfl (pc0 := 21) (pc' := 27) rfl (hb hby d3_21) (by decide) (by decide) ?_
    show own_S p e below T3 (mkF m 27 #[vr u0] [xr u1]) _
    exact X3.areturnOut hx rfl Bd.returns rfl (hb hby d3_27) hr
  · exact ⟨rfl, N0, e3⟩
theorem d4_0 : decode prog_71_method_5_code 0 = .ok (.aload_n 0, 1) := by decide +kernel
theorem d4_1 : decode prog_71_method_5_code 1 = .ok (.getstatic 7, 3) := by decide +kernel
theorem d4_4 : decode prog_71_method_5_code 4 = .ok (.if_acmp .eq 10, 3) := by decide +kernel
theorem own_ne_u0_u1 {Z : State} {u0 u1 u2 : Addr} (G : own_St Z u0 u1 u2) : u0 ≠ u1 := Fld.ne (own_F_u0_ordinal G) (own_F_u1_ordinal G) (by decide)
theorem d4_7 : decode prog_71_method_5_code 7 = .ok (.aload_n 1, 1) := by decide +kernel
theorem d4_8 : decode prog_71_method_5_code 8 = .ok (.getstatic 7, 3) := by decide +kernel
theorem d4_11 : decode prog_71_method_5_code 11 = .ok (.if_acmp .ne 7, 3) := by decide +kernel
theorem d4_18 : decode prog_71_method_5_code 18 = .ok (.aload_n 0, 1) := by decide +kernel
theorem d4_19 : decode prog_71_method_5_code 19 = .ok (.getstatic 10, 3) := by decide +kernel
theorem d4_22 : decode prog_71_method_5_code 22 = .ok (.if_acmp .eq 10, 3) := by decide +kernel
theorem d4_25 : decode prog_71_method_5_code 25 = .ok (.aload_n 1, 1) := by decide +kernel
theorem d4_26 : decode prog_71_method_5_code 26 = .ok (.getstatic 10, 3) := by decide +kernel
theorem d4_29 : decode prog_71_method_5_code 29 = .ok (.if_acmp .ne 9, 3) := by decide +kernel
theorem d4_38 : decode prog_71_method_5_code 38 = .ok (.getstatic 3, 3) := by decide +kernel
theorem d4_41 : decode prog_71_method_5_code 41 = .ok (.areturn, 1) := by decide +kernel
abbrev Y3 : MethodName := (⟨"com/example/arbitrium/arbitrium/policy/Truth", "and", "(Lcom/example/arbitrium/arbitrium/policy/Truth;)Lcom/example/arbitrium/arbitrium/policy/Truth;"⟩ : MethodName)
theorem ef_own_c6_and (m : MethodId) (u0 u1 u2 : Addr) : entryFrame m #[xr u0, xr u0] 2 = (mkF m 0 #[vr u0, vr u0] []) := by first | (simp [entryFrame, mkF, argsToLocals, Value.category]; done) | rfl
set_option maxRecDepth 65536 in
set_option maxHeartbeats 40000000 in
theorem own_c6_and (l : Launch) (Z : State) (a0 : Array Value) (hw : ∀ d ∈ tables_1, d.before a0 Z = true) (u0 u1 u2 : Addr) (G : own_St Z u0 u1 u2) (h0 : Heap) (n0 : Nat) (O0 : Old Z n0 h0) : own_Met l Z Y3 prog_71_method_5_code 2 (some (.object "com/example/arbitrium/arbitrium/policy/Truth")) ({ frames := 0, cells := 0, slots := 0, locals := 0 } : Room) #[xr u0, xr u0] h0 (own_QR (some (xr u0)) h0 n0) := by
  intro ws
  refine MetFree.of_bodySF (plainFor_of_name pn1) hisR ?_
  intro p e s m args below meth c s₁ Bd hml0 hP hK
  obtain ⟨rfl, hZ, hh⟩ := hP
  have hx := Bd.exec
  have hby := Bd.bytes
  have hml : c.maxLocals = 2 := hml0
  have hown : s.vm.findClass "com/example/arbitrium/arbitrium/policy/Truth" = some m.cls := findClass_of_methodNamed Bd.named
  have hnm := (name_of_methodNamed Bd.named Bd.method).1
  have X0 : Stand p l e ({ frames := 0, cells := 0, slots := 0, locals := 0 } : Room) s m #[xr u0, xr u0] below meth c s₁ [] 0 0 := Stand.of_body Bd
  have e0 : s₁.heap = h0 := by rw [← hh, Bd.state]; rfl
  have N0 := Fr.nil n0
  have pre0 : ∀ t, Steps p.tables e below (s₁.setTop (mkF m 0 #[vr u0, vr u0] [])) t → Steps p.tables e below (s₁.setTop (entryFrame m #[xr u0, xr u0] 2)) t := fun t k => castTop (ef_own_c6_and m u0 u1 u2) k
  obtain ⟨T1, X1, e1, st1⟩ := getS2 X0 hx hZ hown (host := "") (Or.inl (ww hw 12 rfl)) Via.refl e0 ((own_S_u1 G).ext O0.2) (g := (mkF m 1 #[vr u0, vr u0] [xr u0])) rfl (hb hby d4_1)
  obtain ⟨T2, X2, e2, st2⟩ := getS2 X1 hx hZ hown (host := "") (Or.inl (ww hw 12 rfl)) Via.refl e1 ((own_S_u1 G).ext O0.2) (g := (mkF m 8 #[vr u0, vr u0] [xr u0])) rfl (hb hby d4_8)
  obtain ⟨T3, X3, e3, st3⟩ := getS2 X2 hx hZ hown (host := "") (Or.inl (ww hw 19 rfl)) Via.refl e2 ((own_S_u2 G).ext O0.2) (g := (mkF m 19 #[vr u0, vr u0] [xr u0])) rfl (hb hby d4_19)
  obtain ⟨T4, X4, e4, st4⟩ := getS2 X3 hx hZ hown (host := "") (Or.inl (ww hw 19 rfl)) Via.refl e3 ((own_S_u2 G).ext O0.2) (g := (mkF m 26 #[vr u0, vr u0] [xr u0])) rfl (hb hby d4_26)
  obtain ⟨T5, X5, e5, st5⟩ := getS2 X4 hx hZ hown (host := "") (Or.inl (ww hw 11 rfl)) Via.refl e4 ((own_S_u0 G).ext O0.2) (g := (mkF m 38 #[vr u0, vr u0] [])) rfl (hb hby d4_38)
  obtain ⟨fs, hr, hrun, hended, hW, hsame⟩ := X5.leave (v := some (xr u0)) (fun h => by rw [Bd.returns] at h; cases h)
  refine ⟨_, _, pre0 _ ?_, hrun, hended, _, _, rfl, ?_, ⟨_, rfl⟩, hW, hsame.mono (by decide) (by decide)⟩
  · show own_S p e below s₁ (mkF m 0 #[vr u0, vr u0] []) _
    refine XS.aloadN X0.here hx rfl (hb hby d4_0) rfl rfl ?_
    show own_S p e below s₁ (mkF m 1 #[vr u0, vr u0] [xr u0]) _
    refine st1 _ ?_
    show own_S p e below T1 (mkF m 4 #[vr u0, vr u0] [xr u1, xr u0]) _
    refine Jvm.RoadKit.acmp (g := (mkF m 4 #[vr u0, vr u0] [xr u1, xr u0])) X1 hx rfl rfl rfl (pc0 := 4) (pc' := 7) (same := false) rfl (hb hby d4_4) rfl (own_ref (own_ne_u0_u1 G)) (by decide) (by decide) ?_
    show own_S p e below T1 (mkF m 7 #[vr u0, vr u0] []) _
    refine XS.aloadN X1.here hx rfl (hb hby d4_7) rfl rfl ?_
    show own_S p e below T1 (mkF m 8 #[vr u0, vr u0] [xr u0]) _
    refine st2 _ ?_
    show own_S p e below T2 (mkF m 11 #[vr u0, vr u0] [xr u1, xr u0]) _
    refine Jvm.RoadKit.acmp (g := (mkF m 11 #[vr u0, vr u0] [xr u1, xr u0])) X2 hx rfl rfl rfl (pc0 := 11) (pc' := 18) (same := false) rfl (hb hby d4_11) rfl (own_ref (own_ne_u0_u1 G)) (by decide) (by decide) ?_
    show own_S p e below T2 (mkF m 18 #[vr u0, vr u0] []) _
    refine XS.aloadN X2.here hx rfl (hb hby d4_18) rfl rfl ?_
    show own_S p e below T2 (mkF m 19 #[vr u0, vr u0] [xr u0]) _
    refine st3 _ ?_
    show own_S p e below T3 (mkF m 22 #[vr u0, vr u0] [xr u2, xr u0]) _
    refine Jvm.RoadKit.acmp (g := (mkF m 22 #[vr u0, vr u0] [xr u2, xr u0])) X3 hx rfl rfl rfl (pc0 := 22) (pc' := 25) (same := false) rfl (hb hby d4_22) rfl (own_ref (own_ne_u0_u2 G)) (by decide) (by decide) ?_
    show own_S p e below T3 (mkF m 25 #[vr u0, vr u0] []) _
    refine XS.aloadN X3.here hx rfl (hb hby d4_25) rfl rfl ?_
    show own_S p e below T3 (mkF m 26 #[vr u0, vr u0] [xr u0]) _
    refine st4 _ ?_
    show own_S p e below T4 (mkF m 29 #[vr u0, vr u0] [xr u2, xr u0]) _
    refine Jvm.RoadKit.acmp (g := (mkF m 29 #[vr u0, vr u0] [xr u2, xr u0])) X4 hx rfl rfl rfl (pc0 := 29) (pc' := 38) (same := false) rfl (hb hby d4_29) rfl (own_ref (own_ne_u0_u2 G)) (by decide) (by decide) ?_
    show own_S p e below T4 (mkF m 38 #[vr u0, vr u0] []) _
    refine st5 _ ?_
    show own_S p e below T5 (mkF m 41 #[vr u0, vr u0] [xr u0]) _
    exact X5.areturnOut hx rfl Bd.returns rfl (hb hby d4_41) hr
  · exact ⟨rfl, N0, e5⟩
theorem pd3 : parseMethodDescriptor "(Lcom/example/arbitrium/arbitrium/policy/Truth;)Lcom/example/arbitrium/arbitrium/policy/Truth;" = some ⟨[(.object "com/example/arbitrium/arbitrium/policy/Truth")], some (.object "com/example/arbitrium/arbitrium/policy/Truth")⟩ := by decide +kernel
theorem d5_0 : decode prog_71_method_6_code 0 = .ok (.aload_n 0, 1) := by decide +kernel
theorem d5_1 : decode prog_71_method_6_code 1 = .ok (.getstatic 3, 3) := by decide +kernel
theorem d5_4 : decode prog_71_method_6_code 4 = .ok (.if_acmp .eq 10, 3) := by decide +kernel
theorem d5_7 : decode prog_71_method_6_code 7 = .ok (.aload_n 1, 1) := by decide +kernel
theorem d5_8 : decode prog_71_method_6_code 8 = .ok (.getstatic 3, 3) := by decide +kernel
theorem d5_11 : decode prog_71_method_6_code 11 = .ok (.if_acmp .ne 7, 3) := by decide +kernel
theorem d5_18 : decode prog_71_method_6_code 18 = .ok (.aload_n 0, 1) := by decide +kernel
theorem d5_19 : decode prog_71_method_6_code 19 = .ok (.getstatic 10, 3) := by decide +kernel
theorem d5_22 : decode prog_71_method_6_code 22 = .ok (.if_acmp .eq 10, 3) := by decide +kernel
theorem d5_25 : decode prog_71_method_6_code 25 = .ok (.aload_n 1, 1) := by decide +kernel
theorem d5_26 : decode prog_71_method_6_code 26 = .ok (.getstatic 10, 3) := by decide +kernel
theorem d5_29 : decode prog_71_method_6_code 29 = .ok (.if_acmp .ne 9, 3) := by decide +kernel
theorem d5_38 : decode prog_71_method_6_code 38 = .ok (.getstatic 7, 3) := by decide +kernel
theorem d5_41 : decode prog_71_method_6_code 41 = .ok (.areturn, 1) := by decide +kernel
abbrev Y4 : MethodName := (⟨"com/example/arbitrium/arbitrium/policy/Truth", "or", "(Lcom/example/arbitrium/arbitrium/policy/Truth;)Lcom/example/arbitrium/arbitrium/policy/Truth;"⟩ : MethodName)
theorem ef_own_c7_or (m : MethodId) (u0 u1 u2 : Addr) : entryFrame m #[xr u1, xr u1] 2 = (mkF m 0 #[vr u1, vr u1] []) := by first | (simp [entryFrame, mkF, argsToLocals, Value.category]; done) | rfl
set_option maxRecDepth 65536 in
set_option maxHeartbeats 40000000 in
theorem own_c7_or (l : Launch) (Z : State) (a0 : Array Value) (hw : ∀ d ∈ tables_1, d.before a0 Z = true) (u0 u1 u2 : Addr) (G : own_St Z u0 u1 u2) (h0 : Heap) (n0 : Nat) (O0 : Old Z n0 h0) : own_Met l Z Y4 prog_71_method_6_code 2 (some (.object "com/example/arbitrium/arbitrium/policy/Truth")) ({ frames := 0, cells := 0, slots := 0, locals := 0 } : Room) #[xr u1, xr u1] h0 (own_QR (some (xr u1)) h0 n0) := by
  intro ws
  refine MetFree.of_bodySF (plainFor_of_name pn1) hisR ?_
  intro p e s m args below meth c s₁ Bd hml0 hP hK
  obtain ⟨rfl, hZ, hh⟩ := hP
  have hx := Bd.exec
  have hby := Bd.bytes
  have hml : c.maxLocals = 2 := hml0
  have hown : s.vm.findClass "com/example/arbitrium/arbitrium/policy/Truth" = some m.cls := findClass_of_methodNamed Bd.named
  have hnm := (name_of_methodNamed Bd.named Bd.method).1
  have X0 : Stand p l e ({ frames := 0, cells := 0, slots := 0, locals := 0 } : Room) s m #[xr u1, xr u1] below meth c s₁ [] 0 0 := Stand.of_body Bd
  have e0 : s₁.heap = h0 := by rw [← hh, Bd.state]; rfl
  have N0 := Fr.nil n0
  have pre0 : ∀ t, Steps p.tables e below (s₁.setTop (mkF m 0 #[vr u1, vr u1] [])) t → Steps p.tables e below (s₁.setTop (entryFrame m #[xr u1, xr u1] 2)) t := fun t k => castTop (ef_own_c7_or m u0 u1 u2) k
  obtain ⟨T1, X1, e1, st1⟩ := getS2 X0 hx hZ hown (host := "") (Or.inl (ww hw 11 rfl)) Via.refl e0 ((own_S_u0 G).ext O0.2) (g := (mkF m 1 #[vr u1, vr u1] [xr u1])) rfl (hb hby d5_1)
  obtain ⟨T2, X2, e2, st2⟩ := getS2 X1 hx hZ hown (host := "") (Or.inl (ww hw 11 rfl)) Via.refl e1 ((own_S_u0 G).ext O0.2) (g := (mkF m 8 #[vr u1, vr u1] [xr u1])) rfl (hb hby d5_8)
  obtain ⟨T3, X3, e3, st3⟩ := getS2 X2 hx hZ hown (host := "") (Or.inl (ww hw 19 rfl)) Via.refl e2 ((own_S_u2 G).ext O0.2) (g := (mkF m 19 #[vr u1, vr u1] [xr u1])) rfl (hb hby d5_19)
  obtain ⟨T4, X4, e4, st4⟩ := getS2 X3 hx hZ hown (host := "") (Or.inl (ww hw 19 rfl)) Via.refl e3 ((own_S_u2 G).ext O0.2) (g := (mkF m 26 #[vr u1, vr u1] [xr u1])) rfl (hb hby d5_26)
  obtain ⟨T5, X5, e5, st5⟩ := getS2 X4 hx hZ hown (host := "") (Or.inl (ww hw 12 rfl)) Via.refl e4 ((own_S_u1 G).ext O0.2) (g := (mkF m 38 #[vr u1, vr u1] [])) rfl (hb hby d5_38)
  obtain ⟨fs, hr, hrun, hended, hW, hsame⟩ := X5.leave (v := some (xr u1)) (fun h => by rw [Bd.returns] at h; cases h)
  refine ⟨_, _, pre0 _ ?_, hrun, hended, _, _, rfl, ?_, ⟨_, rfl⟩, hW, hsame.mono (by decide) (by decide)⟩
  · show own_S p e below s₁ (mkF m 0 #[vr u1, vr u1] []) _
    refine XS.aloadN X0.here hx rfl (hb hby d5_0) rfl rfl ?_
    show own_S p e below s₁ (mkF m 1 #[vr u1, vr u1] [xr u1]) _
    refine st1 _ ?_
    show own_S p e below T1 (mkF m 4 #[vr u1, vr u1] [xr u0, xr u1]) _
    refine Jvm.RoadKit.acmp (g := (mkF m 4 #[vr u1, vr u1] [xr u0, xr u1])) X1 hx rfl rfl rfl (pc0 := 4) (pc' := 7) (same := false) rfl (hb hby d5_4) rfl (own_ref (own_ne_u1_u0 G)) (by decide) (by decide) ?_
    show own_S p e below T1 (mkF m 7 #[vr u1, vr u1] []) _
    refine XS.aloadN X1.here hx rfl (hb hby d5_7) rfl rfl ?_
    show own_S p e below T1 (mkF m 8 #[vr u1, vr u1] [xr u1]) _
    refine st2 _ ?_
    show own_S p e below T2 (mkF m 11 #[vr u1, vr u1] [xr u0, xr u1]) _
    refine Jvm.RoadKit.acmp (g := (mkF m 11 #[vr u1, vr u1] [xr u0, xr u1])) X2 hx rfl rfl rfl (pc0 := 11) (pc' := 18) (same := false) rfl (hb hby d5_11) rfl (own_ref (own_ne_u1_u0 G)) (by decide) (by decide) ?_
    show own_S p e below T2 (mkF m 18 #[vr u1, vr u1] []) _
    refine XS.aloadN X2.here hx rfl (hb hby d5_18) rfl rfl ?_
    show own_S p e below T2 (mkF m 19 #[vr u1, vr u1] [xr u1]) _
    refine st3 _ ?_
    show own_S p e below T3 (mkF m 22 #[vr u1, vr u1] [xr u2, xr u1]) _
    refine Jvm.RoadKit.acmp (g := (mkF m 22 #[vr u1, vr u1] [xr u2, xr u1])) X3 hx rfl rfl rfl (pc0 := 22) (pc' := 25) (same := false) rfl (hb hby d5_22) rfl (own_ref (own_ne_u1_u2 G)) (by decide) (by decide) ?_
    show own_S p e below T3 (mkF m 25 #[vr u1, vr u1] []) _
    refine XS.aloadN X3.here hx rfl (hb hby d5_25) rfl rfl ?_
    show own_S p e below T3 (mkF m 26 #[vr u1, vr u1] [xr u1]) _
    refine st4 _ ?_
    show own_S p e below T4 (mkF m 29 #[vr u1, vr u1] [xr u2, xr u1]) _
    refine Jvm.RoadKit.acmp (g := (mkF m 29 #[vr u1, vr u1] [xr u2, xr u1])) X4 hx rfl rfl rfl (pc0 := 29) (pc' := 38) (same := false) rfl (hb hby d5_29) rfl (own_ref (own_ne_u1_u2 G)) (by decide) (by decide) ?_
    show own_S p e below T4 (mkF m 38 #[vr u1, vr u1] []) _
    refine st5 _ ?_
    show own_S p e below T5 (mkF m 41 #[vr u1, vr u1] [xr u1]) _
    exact X5.areturnOut hx rfl Bd.returns rfl (hb hby d5_41) hr
  · exact ⟨rfl, N0, e5⟩
theorem ef_own_l0 (m : MethodId) (u0 u1 u2 : Addr) (p1 : Int32) (p2 : Int32) (p3 : Int32) : entryFrame m #[xi p1, xi p2, xi p3] maxLocals = (mkF m 0 #[vi p1, vi p2, vi p3, vu, vu, vu, vu, vu, vu] []) := by first | (simp [entryFrame, mkF, argsToLocals, Value.category, maxLocals]; done) | rfl
set_option maxRecDepth 65536 in
set_option maxHeartbeats 40000000 in
theorem own_l0 (l : Launch) (Z : State) (a0 : Array Value) (hw : ∀ d ∈ tables_1, d.before a0 Z = true) (u0 u1 u2 : Addr) (G : own_St Z u0 u1 u2) (p1 : Int32) (p2 : Int32) (p3 : Int32) (as6 : (p3 &&& (1 : Int32)) = (0 : Int32)) (as0 : ((p1 &&& (2147483647 : Int32)) - ((p1 &&& (2147483647 : Int32)) / (3 : Int32)) * (3 : Int32)) = (0 : Int32)) (as3 : ((p2 &&& (2147483647 : Int32)) - ((p2 &&& (2147483647 : Int32)) / (3 : Int32)) * (3 : Int32)) = (0 : Int32)) (h0 : Heap) (n0 : Nat) (O0 : Old Z n0 h0) : own_Met l Z x code maxLocals ret room_1 #[xi p1, xi p2, xi p3] h0 (own_QL (some (xi (1 : Int32))) n0) := by
  intro ws
  refine MetFree.of_bodySF (plainFor_of_name pn0) hisR ?_
  intro p e s m args below meth c s₁ Bd hml0 hP hK
  obtain ⟨rfl, hZ, hh⟩ := hP
  have hx := Bd.exec
  have hby := Bd.bytes
  have hml : c.maxLocals = 9 := hml0
  have hown : s.vm.findClass "com/example/arbitrium/arbitrium/policy/TruthNotPinLaw" = some m.cls := findClass_of_methodNamed Bd.named
  have hnm := (name_of_methodNamed Bd.named Bd.method).1
  have X0 : Stand p l e room_1 s m #[xi p1, xi p2, xi p3] below meth c s₁ [] 0 0 := Stand.of_body Bd
  have e0 : s₁.heap = h0 := by rw [← hh, Bd.state]; rfl
  have N0 := Fr.nil n0
  have pre0 : ∀ t, Steps p.tables e below (s₁.setTop (mkF m 0 #[vi p1, vi p2, vi p3, vu, vu, vu, vu, vu, vu] [])) t → Steps p.tables e below (s₁.setTop (entryFrame m #[xi p1, xi p2, xi p3] maxLocals)) t := fun t k => castTop (ef_own_l0 m u0 u1 u2 p1 p2 p3) k
  obtain ⟨_, _, ⟨T1, L1, k1, n1⟩, -, X1, ⟨Lc1, hQ1, l1, y1, z1⟩, st1⟩ := Jvm.LawKit.callS X0 hx (y := Y0) hown (mvT hZ (ww hw 0 rfl)) (mvT hZ (ww hw 1 rfl)) (mvT hZ (ww hw 2 rfl)) (mvT hZ (ww hw 3 rfl)) (by decide) (backOf (W := 0) (own_c0_pick l Z a0 hw u0 u1 u2 G p1 as0 h0 n0 O0 []) hZ (ww hw 3 rfl) (ww hw 2 rfl) (by decide) (by decide)) (g := (mkF m 13 #[vi p1, vi p2, vi p3, vi (0 : Int32), vu, vu, vu, vu, vu] [xi p1])) rfl (by rw [hml]; rfl) (argsL := [xi p1]) (rest := []) (lenOf pd0 rfl) rfl (by show 2 * 0 + _ ≤ _; exact Nat.le_of_eq rfl) (hb hby at_13) (fun _ _ => ⟨rfl, e0, (by decide : 0 + 0 ≤ _), (by decide : 0 + 0 ≤ _)⟩)
  dsimp only [Pt.U, Pt.locs, Pt.cells, Pt.slots] at X1 l1 y1 z1 st1 hQ1
  subst l1 y1 z1
  obtain ⟨rfl, Nq1, e1⟩ := hQ1
  have N1 := Fr.app N0 Nq1
  obtain ⟨_, _, ⟨T2, L2, k2, n2⟩, -, X2, ⟨Lc2, hQ2, l2, y2, z2⟩, st2⟩ := Jvm.LawKit.callS X1 hx (y := Y0) hown (mvT hZ (ww hw 0 rfl)) (mvT hZ (ww hw 1 rfl)) (mvT hZ (ww hw 2 rfl)) (mvT hZ (ww hw 3 rfl)) (by decide) (backOf (W := 0) (own_c1_pick l Z a0 hw u0 u1 u2 G p2 as3 h0 n0 O0 []) hZ (ww hw 3 rfl) (ww hw 2 rfl) (by decide) (by decide)) (g := (mkF m 19 #[vi p1, vi p2, vi p3, vi (0 : Int32), vr u0, vu, vu, vu, vu] [xi p2])) rfl (by rw [hml]; rfl) (argsL := [xi p2]) (rest := []) (lenOf pd0 rfl) rfl (by show 2 * 0 + _ ≤ _; exact Nat.le_of_eq rfl) (hb hby at_19) (fun _ _ => ⟨rfl, e1, (by decide : 0 + 0 ≤ _), (by decide : 0 + 0 ≤ _)⟩)
  dsimp only [Pt.U, Pt.locs, Pt.cells, Pt.slots] at X2 l2 y2 z2 st2 hQ2
  subst l2 y2 z2
  obtain ⟨rfl, Nq2, e2⟩ := hQ2
  have N2 := Fr.app N1 Nq2
  obtain ⟨_, _, ⟨T3, L3, k3, n3⟩, -, X3, ⟨Lc3, hQ3, l3, y3, z3⟩, st3⟩ := Jvm.LawKit.callS X2 hx (y := Y1) hown (mvT hZ (ww hw 8 rfl)) (mvT hZ (ww hw 9 rfl)) (mvT hZ (ww hw 6 rfl)) (mvT hZ (ww hw 10 rfl)) (by decide) (backOf (W := 0) (own_c2_of l Z a0 hw u0 u1 u2 G h0 n0 O0 []) hZ (ww hw 10 rfl) (ww hw 6 rfl) (by decide) (by decide)) (g := (mkF m 33 #[vi p1, vi p2, vi p3, vi (0 : Int32), vr u0, vr u0, vu, vu, vu] [xi (1 : Int32)])) rfl (by rw [hml]; rfl) (argsL := [xi (1 : Int32)]) (rest := []) (lenOf pd1 rfl) rfl (by show 2 * 0 + _ ≤ _; exact Nat.le_of_eq rfl) (hb hby at_33) (fun _ _ => ⟨rfl, e2, (by decide : 0 + 0 ≤ _), (by decide : 0 + 0 ≤ _)⟩)
  dsimp only [Pt.U, Pt.locs, Pt.cells, Pt.slots] at X3 l3 y3 z3 st3 hQ3
  subst l3 y3 z3
  obtain ⟨rfl, Nq3, e3⟩ := hQ3
  have N3 := Fr.app N2 Nq3
  obtain ⟨_, _, ⟨T4, L4, k4, n4⟩, -, X4, ⟨Lc4, hQ4, l4, y4, z4⟩, st4⟩ := Jvm.LawKit.callS X3 hx (y := Y1) hown (mvT hZ (ww hw 8 rfl)) (mvT hZ (ww hw 9 rfl)) (mvT hZ (ww hw 6 rfl)) (mvT hZ (ww hw 10 rfl)) (by decide) (backOf (W := 1) (own_c3_of l Z a0 hw u0 u1 u2 G h0 n0 O0 []) hZ (ww hw 10 rfl) (ww hw 6 rfl) (by decide) (by decide)) (g := (mkF m 37 #[vi p1, vi p2, vi p3, vi (0 : Int32), vr u0, vr u0, vu, vu, vu] [xi (0 : Int32), xr u0])) rfl (by rw [hml]; rfl) (argsL := [xi (0 : Int32)]) (rest := [xr u0]) (lenOf pd1 rfl) rfl (by show 2 * 0 + _ ≤ _; exact Nat.le_of_eq rfl) (hb hby at_37) (fun _ _ => ⟨rfl, e3, (by decide : 0 + 0 ≤ _), (by decide : 0 + 0 ≤ _)⟩)
  dsimp only [Pt.U, Pt.locs, Pt.cells, Pt.slots] at X4 l4 y4 z4 st4 hQ4
  subst l4 y4 z4
  obtain ⟨rfl, Nq4, e4⟩ := hQ4
  have N4 := Fr.app N3 Nq4
  obtain ⟨cq5, kq5, qa5, qb5, qc5⟩ := isOf hZ e4 ((own_X_u1 G).ext O0.2)
  obtain ⟨_, _, ⟨T5, L5, k5, n5⟩, -, X5, ⟨Lc5, hQ5, l5, y5, z5⟩, st5⟩ := X4.virtualBack hx (y := Y2) (z := Y2) hown (mvT hZ (ww hw 14 rfl)) (mvT hZ (ww hw 15 rfl)) (notFace_of_selects (args := #[]) (mvT hZ (ww hw 17 rfl))) (mvT hZ (ww hw 17 rfl)) (mvT hZ (ww hw 16 rfl)) (by decide) (backOf (W := 1) (own_c4_not l Z a0 hw u0 u1 u2 G h0 n0 O0 []) hZ (ww hw 18 rfl) (ww hw 6 rfl) (by decide) (by decide)) qa5 qc5 (g := (mkF m 40 #[vi p1, vi p2, vi p3, vi (0 : Int32), vr u0, vr u0, vu, vu, vu] [xr u1, xr u0])) rfl (by rw [hml]; rfl) (Steps.refl _) (argsL := []) (rest := [xr u0]) (lenOf pd2 rfl) rfl (by show 2 * 0 + _ ≤ _; exact Nat.le_of_eq rfl) (hb hby at_40) (fun _ _ => ⟨rfl, e4, (by decide : 0 + 0 ≤ _), (by decide : 0 + 0 ≤ _)⟩)
  dsimp only [Pt.U, Pt.locs, Pt.cells, Pt.slots] at X5 l5 y5 z5 st5 hQ5
  subst l5 y5 z5
  obtain ⟨rfl, Nq5, e5⟩ := hQ5
  have N5 := Fr.app N4 Nq5
  obtain ⟨cq6, kq6, qa6, qb6, qc6⟩ := isOf hZ e5 ((own_X_u0 G).ext O0.2)
  obtain ⟨_, _, ⟨T6, L6, k6, n6⟩, -, X6, ⟨Lc6, hQ6, l6, y6, z6⟩, st6⟩ := X5.virtualBack hx (y := Y2) (z := Y2) hown (mvT hZ (ww hw 14 rfl)) (mvT hZ (ww hw 15 rfl)) (notFace_of_selects (args := #[]) (mvT hZ (ww hw 17 rfl))) (mvT hZ (ww hw 17 rfl)) (mvT hZ (ww hw 16 rfl)) (by decide) (backOf (W := 0) (own_c5_not l Z a0 hw u0 u1 u2 G h0 n0 O0 []) hZ (ww hw 18 rfl) (ww hw 6 rfl) (by decide) (by decide)) qa6 qc6 (g := (mkF m 55 #[vi p1, vi p2, vi p3, vi (0 : Int32), vr u0, vr u0, vi (1 : Int32), vu, vu] [xr u0])) rfl (by rw [hml]; rfl) (Steps.refl _) (argsL := []) (rest := []) (lenOf pd2 rfl) rfl (by show 2 * 0 + _ ≤ _; exact Nat.le_of_eq rfl) (hb hby at_55) (fun _ _ => ⟨rfl, e5, (by decide : 0 + 0 ≤ _), (by decide : 0 + 0 ≤ _)⟩)
  dsimp only [Pt.U, Pt.locs, Pt.cells, Pt.slots] at X6 l6 y6 z6 st6 hQ6
  subst l6 y6 z6
  obtain ⟨rfl, Nq6, e6⟩ := hQ6
  have N6 := Fr.app N5 Nq6
  obtain ⟨cq7, kq7, qa7, qb7, qc7⟩ := isOf hZ e6 ((own_X_u1 G).ext O0.2)
  obtain ⟨_, _, ⟨T7, L7, k7, n7⟩, -, X7, ⟨Lc7, hQ7, l7, y7, z7⟩, st7⟩ := X6.virtualBack hx (y := Y2) (z := Y2) hown (mvT hZ (ww hw 14 rfl)) (mvT hZ (ww hw 15 rfl)) (notFace_of_selects (args := #[]) (mvT hZ (ww hw 17 rfl))) (mvT hZ (ww hw 17 rfl)) (mvT hZ (ww hw 16 rfl)) (by decide) (backOf (W := 0) (own_c4_not l Z a0 hw u0 u1 u2 G h0 n0 O0 []) hZ (ww hw 18 rfl) (ww hw 6 rfl) (by decide) (by decide)) qa7 qc7 (g := (mkF m 58 #[vi p1, vi p2, vi p3, vi (0 : Int32), vr u0, vr u0, vi (1 : Int32), vu, vu] [xr u1])) rfl (by rw [hml]; rfl) (Steps.refl _) (argsL := []) (rest := []) (lenOf pd2 rfl) rfl (by show 2 * 0 + _ ≤ _; exact Nat.le_of_eq rfl) (hb hby at_58) (fun _ _ => ⟨rfl, e6, (by decide : 0 + 0 ≤ _), (by decide : 0 + 0 ≤ _)⟩)
  dsimp only [Pt.U, Pt.locs, Pt.cells, Pt.slots] at X7 l7 y7 z7 st7 hQ7
  subst l7 y7 z7
  obtain ⟨rfl, Nq7, e7⟩ := hQ7
  have N7 := Fr.app N6 Nq7
  obtain ⟨cq8, kq8, qa8, qb8, qc8⟩ := isOf hZ e7 ((own_X_u0 G).ext O0.2)
  obtain ⟨_, _, ⟨T8, L8, k8, n8⟩, -, X8, ⟨Lc8, hQ8, l8, y8, z8⟩, st8⟩ := X7.virtualBack hx (y := Y3) (z := Y3) hown (mvT hZ (ww hw 21 rfl)) (mvT hZ (ww hw 22 rfl)) (notFace_of_selects (args := #[]) (mvT hZ (ww hw 24 rfl))) (mvT hZ (ww hw 24 rfl)) (mvT hZ (ww hw 23 rfl)) (by decide) (backOf (W := 0) (own_c6_and l Z a0 hw u0 u1 u2 G h0 n0 O0 []) hZ (ww hw 25 rfl) (ww hw 6 rfl) (by decide) (by decide)) qa8 qc8 (g := (mkF m 77 #[vi p1, vi p2, vi p3, vi (0 : Int32), vr u0, vr u0, vi (1 : Int32), vi (1 : Int32), vu] [xr u0, xr u0])) rfl (by rw [hml]; rfl) (Steps.refl _) (argsL := [xr u0]) (rest := []) (lenOf pd3 rfl) rfl (by show 2 * 0 + _ ≤ _; exact Nat.le_of_eq rfl) (hb hby at_77) (fun _ _ => ⟨rfl, e7, (by decide : 0 + 0 ≤ _), (by decide : 0 + 0 ≤ _)⟩)
  dsimp only [Pt.U, Pt.locs, Pt.cells, Pt.slots] at X8 l8 y8 z8 st8 hQ8
  subst l8 y8 z8
  obtain ⟨rfl, Nq8, e8⟩ := hQ8
  have N8 := Fr.app N7 Nq8
  obtain ⟨cq9, kq9, qa9, qb9, qc9⟩ := isOf hZ e8 ((own_X_u0 G).ext O0.2)
  obtain ⟨_, _, ⟨T9, L9, k9, n9⟩, -, X9, ⟨Lc9, hQ9, l9, y9, z9⟩, st9⟩ := X8.virtualBack hx (y := Y2) (z := Y2) hown (mvT hZ (ww hw 14 rfl)) (mvT hZ (ww hw 15 rfl)) (notFace_of_selects (args := #[]) (mvT hZ (ww hw 17 rfl))) (mvT hZ (ww hw 17 rfl)) (mvT hZ (ww hw 16 rfl)) (by decide) (backOf (W := 0) (own_c5_not l Z a0 hw u0 u1 u2 G h0 n0 O0 []) hZ (ww hw 18 rfl) (ww hw 6 rfl) (by decide) (by decide)) qa9 qc9 (g := (mkF m 80 #[vi p1, vi p2, vi p3, vi (0 : Int32), vr u0, vr u0, vi (1 : Int32), vi (1 : Int32), vu] [xr u0])) rfl (by rw [hml]; rfl) (Steps.refl _) (argsL := []) (rest := []) (lenOf pd2 rfl) rfl (by show 2 * 0 + _ ≤ _; exact Nat.le_of_eq rfl) (hb hby at_80) (fun _ _ => ⟨rfl, e8, (by decide : 0 + 0 ≤ _), (by decide : 0 + 0 ≤ _)⟩)
  dsimp only [Pt.U, Pt.locs, Pt.cells, Pt.slots] at X9 l9 y9 z9 st9 hQ9
  subst l9 y9 z9
  obtain ⟨rfl, Nq9, e9⟩ := hQ9
  have N9 := Fr.app N8 Nq9
  obtain ⟨cq10, kq10, qa10, qb10, qc10⟩ := isOf hZ e9 ((own_X_u0 G).ext O0.2)
  obtain ⟨_, _, ⟨T10, L10, k10, n10⟩, -, X10, ⟨Lc10, hQ10, l10, y10, z10⟩, st10⟩ := X9.virtualBack hx (y := Y2) (z := Y2) hown (mvT hZ (ww hw 14 rfl)) (mvT hZ (ww hw 15 rfl)) (notFace_of_selects (args := #[]) (mvT hZ (ww hw 17 rfl))) (mvT hZ (ww hw 17 rfl)) (mvT hZ (ww hw 16 rfl)) (by decide) (backOf (W := 1) (own_c5_not l Z a0 hw u0 u1 u2 G h0 n0 O0 []) hZ (ww hw 18 rfl) (ww hw 6 rfl) (by decide) (by decide)) qa10 qc10 (g := (mkF m 85 #[vi p1, vi p2, vi p3, vi (0 : Int32), vr u0, vr u0, vi (1 : Int32), vi (1 : Int32), vu] [xr u0, xr u1])) rfl (by rw [hml]; rfl) (Steps.refl _) (argsL := []) (rest := [xr u1]) (lenOf pd2 rfl) rfl (by show 2 * 0 + _ ≤ _; exact Nat.le_of_eq rfl) (hb hby at_85) (fun _ _ => ⟨rfl, e9, (by decide : 0 + 0 ≤ _), (by decide : 0 + 0 ≤ _)⟩)
  dsimp only [Pt.U, Pt.locs, Pt.cells, Pt.slots] at X10 l10 y10 z10 st10 hQ10
  subst l10 y10 z10
  obtain ⟨rfl, Nq10, e10⟩ := hQ10
  have N10 := Fr.app N9 Nq10
  obtain ⟨cq11, kq11, qa11, qb11, qc11⟩ := isOf hZ e10 ((own_X_u0 G).ext O0.2)
  obtain ⟨_, _, ⟨T11, L11, k11, n11⟩, -, X11, ⟨Lc11, hQ11, l11, y11, z11⟩, st11⟩ := X10.virtualBack hx (y := Y2) (z := Y2) hown (mvT hZ (ww hw 14 rfl)) (mvT hZ (ww hw 15 rfl)) (notFace_of_selects (args := #[]) (mvT hZ (ww hw 17 rfl))) (mvT hZ (ww hw 17 rfl)) (mvT hZ (ww hw 16 rfl)) (by decide) (backOf (W := 2) (own_c5_not l Z a0 hw u0 u1 u2 G h0 n0 O0 []) hZ (ww hw 18 rfl) (ww hw 6 rfl) (by decide) (by decide)) qa11 qc11 (g := (mkF m 90 #[vi p1, vi p2, vi p3, vi (0 : Int32), vr u0, vr u0, vi (1 : Int32), vi (1 : Int32), vu] [xr u0, xr u1, xr u1])) rfl (by rw [hml]; rfl) (Steps.refl _) (argsL := []) (rest := [xr u1, xr u1]) (lenOf pd2 rfl) rfl (by show 2 * 0 + _ ≤ _; exact Nat.le_of_eq rfl) (hb hby at_90) (fun _ _ => ⟨rfl, e10, (by decide : 0 + 0 ≤ _), (by decide : 0 + 0 ≤ _)⟩)
  dsimp only [Pt.U, Pt.locs, Pt.cells, Pt.slots] at X11 l11 y11 z11 st11 hQ11
  subst l11 y11 z11
  obtain ⟨rfl, Nq11, e11⟩ := hQ11
  have N11 := Fr.app N10 Nq11
  obtain ⟨cq12, kq12, qa12, qb12, qc12⟩ := isOf hZ e11 ((own_X_u1 G).ext O0.2)
  obtain ⟨_, _, ⟨T12, L12, k12, n12⟩, -, X12, ⟨Lc12, hQ12, l12, y12, z12⟩, st12⟩ := X11.virtualBack hx (y := Y4) (z := Y4) hown (mvT hZ (ww hw 26 rfl)) (mvT hZ (ww hw 27 rfl)) (notFace_of_selects (args := #[]) (mvT hZ (ww hw 29 rfl))) (mvT hZ (ww hw 29 rfl)) (mvT hZ (ww hw 28 rfl)) (by decide) (backOf (W := 1) (own_c7_or l Z a0 hw u0 u1 u2 G h0 n0 O0 []) hZ (ww hw 30 rfl) (ww hw 6 rfl) (by decide) (by decide)) qa12 qc12 (g := (mkF m 93 #[vi p1, vi p2, vi p3, vi (0 : Int32), vr u0, vr u0, vi (1 : Int32), vi (1 : Int32), vu] [xr u1, xr u1, xr u1])) rfl (by rw [hml]; rfl) (Steps.refl _) (argsL := [xr u1]) (rest := [xr u1]) (lenOf pd3 rfl) rfl (by show 2 * 0 + _ ≤ _; exact Nat.le_of_eq rfl) (hb hby at_93) (fun _ _ => ⟨rfl, e11, (by decide : 0 + 0 ≤ _), (by decide : 0 + 0 ≤ _)⟩)
  dsimp only [Pt.U, Pt.locs, Pt.cells, Pt.slots] at X12 l12 y12 z12 st12 hQ12
  subst l12 y12 z12
  obtain ⟨rfl, Nq12, e12⟩ := hQ12
  have N12 := Fr.app N11 Nq12
  obtain ⟨fs, hr, hrun, hended, hW, hsame⟩ := X12.leave (v := some (xi (1 : Int32))) (fun h => by rw [Bd.returns] at h; cases h)
  refine ⟨_, _, pre0 _ ?_, hrun, hended, _, _, rfl, ?_, ⟨_, rfl⟩, hW, hsame.mono (by decide) (by decide)⟩
  · show own_S p e below s₁ (mkF m 0 #[vi p1, vi p2, vi p3, vu, vu, vu, vu, vu, vu] []) _
    refine XS.iloadN X0.here hx rfl (hb hby at_0) rfl ?_
    show own_S p e below s₁ (mkF m 1 #[vi p1, vi p2, vi p3, vu, vu, vu, vu, vu, vu] [xi p3]) _
    refine XS.iconst X0.here hx rfl (hb hby at_1) ?_
    show own_S p e below s₁ (mkF m 2 #[vi p1, vi p2, vi p3, vu, vu, vu, vu, vu, vu] [xi (1 : Int32), xi p3]) _
    refine XS.iand X0.here hx rfl (hb hby at_2) rfl ?_
    show own_S p e below s₁ (mkF m 3 #[vi p1, vi p2, vi p3, vu, vu, vu, vu, vu, vu] [xi (p3 &&& (1 : Int32))]) _
    refine castTop (show (mkF m 3 #[vi p1, vi p2, vi p3, vu, vu, vu, vu, vu, vu] [xi (p3 &&& (1 : Int32))]) = (mkF m 3 #[vi p1, vi p2, vi p3, vu, vu, vu, vu, vu, vu] [xi (0 : Int32)]) from by rw [as6]) ?_
    show own_S p e below s₁ (mkF m 3 #[vi p1, vi p2, vi p3, vu, vu, vu, vu, vu, vu] [xi (0 : Int32)]) _
    refine XS.ifYes X0.here hx rfl (pc0 := 3) (pc' := 10) rfl (hb hby at_3) rfl (by decide) (by decide) (by decide) ?_
    show own_S p e below s₁ (mkF m 10 #[vi p1, vi p2, vi p3, vu, vu, vu, vu, vu, vu] []) _
    refine XS.iconst X0.here hx rfl (hb hby at_10) ?_
    show own_S p e below s₁ (mkF m 11 #[vi p1, vi p2, vi p3, vu, vu, vu, vu, vu, vu] [xi (0 : Int32)]) _
    refine XS.istoreN X0.here hx rfl (hb hby at_11) rfl (l' := #[vi p1, vi p2, vi p3, vi (0 : Int32), vu, vu, vu, vu, vu]) rfl ?_
    show own_S p e below s₁ (mkF m 12 #[vi p1, vi p2, vi p3, vi (0 : Int32), vu, vu, vu, vu, vu] []) _
    refine XS.iloadN X0.here hx rfl (hb hby at_12) rfl ?_
    show own_S p e below s₁ (mkF m 13 #[vi p1, vi p2, vi p3, vi (0 : Int32), vu, vu, vu, vu, vu] [xi p1]) _
    refine st1 _ ?_
    show own_S p e below T1 (mkF m 16 #[vi p1, vi p2, vi p3, vi (0 : Int32), vu, vu, vu, vu, vu] [xr u0]) _
    refine XS.astore X1.here hx rfl (hb hby at_16) rfl rfl (l' := #[vi p1, vi p2, vi p3, vi (0 : Int32), vr u0, vu, vu, vu, vu]) rfl ?_
    show own_S p e below T1 (mkF m 18 #[vi p1, vi p2, vi p3, vi (0 : Int32), vr u0, vu, vu, vu, vu] []) _
    refine XS.iloadN X1.here hx rfl (hb hby at_18) rfl ?_
    show own_S p e below T1 (mkF m 19 #[vi p1, vi p2, vi p3, vi (0 : Int32), vr u0, vu, vu, vu, vu] [xi p2]) _
    refine st2 _ ?_
    show own_S p e below T2 (mkF m 22 #[vi p1, vi p2, vi p3, vi (0 : Int32), vr u0, vu, vu, vu, vu] [xr u0]) _
    refine XS.astore X2.here hx rfl (hb hby at_22) rfl rfl (l' := #[vi p1, vi p2, vi p3, vi (0 : Int32), vr u0, vr u0, vu, vu, vu]) rfl ?_
    show own_S p e below T2 (mkF m 24 #[vi p1, vi p2, vi p3, vi (0 : Int32), vr u0, vr u0, vu, vu, vu] []) _
    refine XS.iloadN X2.here hx rfl (hb hby at_24) rfl ?_
    show own_S p e below T2 (mkF m 25 #[vi p1, vi p2, vi p3, vi (0 : Int32), vr u0, vr u0, vu, vu, vu] [xi (0 : Int32)]) _
    refine XS.ifNo X2.here hx rfl (hb hby at_25) rfl (by decide) ?_
    show own_S p e below T2 (mkF m 28 #[vi p1, vi p2, vi p3, vi (0 : Int32), vr u0, vr u0, vu, vu, vu] []) _
    refine XS.iconst X2.here hx rfl (hb hby at_28) ?_
    show own_S p e below T2 (mkF m 29 #[vi p1, vi p2, vi p3, vi (0 : Int32), vr u0, vr u0, vu, vu, vu] [xi (1 : Int32)]) _
    refine XS.goto X2.here hx rfl (pc0 := 29) (pc' := 33) rfl (hb hby at_29) (by decide) (by decide) ?_
    show own_S p e below T2 (mkF m 33 #[vi p1, vi p2, vi p3, vi (0 : Int32), vr u0, vr u0, vu, vu, vu] [xi (1 : Int32)]) _
    refine st3 _ ?_
    show own_S p e below T3 (mkF m 36 #[vi p1, vi p2, vi p3, vi (0 : Int32), vr u0, vr u0, vu, vu, vu] [xr u0]) _
    refine XS.iloadN X3.here hx rfl (hb hby at_36) rfl ?_
    show own_S p e below T3 (mkF m 37 #[vi p1, vi p2, vi p3, vi (0 : Int32), vr u0, vr u0, vu, vu, vu] [xi (0 : Int32), xr u0]) _
    refine st4 _ ?_
    show own_S p e below T4 (mkF m 40 #[vi p1, vi p2, vi p3, vi (0 : Int32), vr u0, vr u0, vu, vu, vu] [xr u1, xr u0]) _
    refine st5.trans ?_
    show own_S p e below T5 (mkF m 43 #[vi p1, vi p2, vi p3, vi (0 : Int32), vr u0, vr u0, vu, vu, vu] [xr u0, xr u0]) _
    refine Jvm.RoadKit.acmp (g := (mkF m 43 #[vi p1, vi p2, vi p3, vi (0 : Int32), vr u0, vr u0, vu, vu, vu] [xr u0, xr u0])) X5 hx rfl rfl rfl (pc0 := 43) (pc' := 46) (same := true) rfl (hb hby at_43) rfl (decide_eq_true rfl) (by decide) (by decide) ?_
    show own_S p e below T5 (mkF m 46 #[vi p1, vi p2, vi p3, vi (0 : Int32), vr u0, vr u0, vu, vu, vu] []) _
    refine XS.iconst X5.here hx rfl (hb hby at_46) ?_
    show own_S p e below T5 (mkF m 47 #[vi p1, vi p2, vi p3, vi (0 : Int32), vr u0, vr u0, vu, vu, vu] [xi (1 : Int32)]) _
    refine XS.goto X5.here hx rfl (pc0 := 47) (pc' := 51) rfl (hb hby at_47) (by decide) (by decide) ?_
    show own_S p e below T5 (mkF m 51 #[vi p1, vi p2, vi p3, vi (0 : Int32), vr u0, vr u0, vu, vu, vu] [xi (1 : Int32)]) _
    refine XS.istore X5.here hx rfl (hb hby at_51) rfl (l' := #[vi p1, vi p2, vi p3, vi (0 : Int32), vr u0, vr u0, vi (1 : Int32), vu, vu]) rfl ?_
    show own_S p e below T5 (mkF m 53 #[vi p1, vi p2, vi p3, vi (0 : Int32), vr u0, vr u0, vi (1 : Int32), vu, vu] []) _
    refine XS.aload X5.here hx rfl (hb hby at_53) rfl rfl ?_
    show own_S p e below T5 (mkF m 55 #[vi p1, vi p2, vi p3, vi (0 : Int32), vr u0, vr u0, vi (1 : Int32), vu, vu] [xr u0]) _
    refine st6.trans ?_
    show own_S p e below T6 (mkF m 58 #[vi p1, vi p2, vi p3, vi (0 : Int32), vr u0, vr u0, vi (1 : Int32), vu, vu] [xr u1]) _
    refine st7.trans ?_
    show own_S p e below T7 (mkF m 61 #[vi p1, vi p2, vi p3, vi (0 : Int32), vr u0, vr u0, vi (1 : Int32), vu, vu] [xr u0]) _
    refine XS.aload X7.here hx rfl (hb hby at_61) rfl rfl ?_
    show own_S p e below T7 (mkF m 63 #[vi p1, vi p2, vi p3, vi (0 : Int32), vr u0, vr u0, vi (1 : Int32), vu, vu] [xr u0, xr u0]) _
    refine Jvm.RoadKit.acmp (g := (mkF m 63 #[vi p1, vi p2, vi p3, vi (0 : Int32), vr u0, vr u0, vi (1 : Int32), vu, vu] [xr u0, xr u0])) X7 hx rfl rfl rfl (pc0 := 63) (pc' := 66) (same := true) rfl (hb hby at_63) rfl (decide_eq_true rfl) (by decide) (by decide) ?_
    show own_S p e below T7 (mkF m 66 #[vi p1, vi p2, vi p3, vi (0 : Int32), vr u0, vr u0, vi (1 : Int32), vu, vu] []) _
    refine XS.iconst X7.here hx rfl (hb hby at_66) ?_
    show own_S p e below T7 (mkF m 67 #[vi p1, vi p2, vi p3, vi (0 : Int32), vr u0, vr u0, vi (1 : Int32), vu, vu] [xi (1 : Int32)]) _
    refine XS.goto X7.here hx rfl (pc0 := 67) (pc' := 71) rfl (hb hby at_67) (by decide) (by decide) ?_
    show own_S p e below T7 (mkF m 71 #[vi p1, vi p2, vi p3, vi (0 : Int32), vr u0, vr u0, vi (1 : Int32), vu, vu] [xi (1 : Int32)]) _
    refine XS.istore X7.here hx rfl (hb hby at_71) rfl (l' := #[vi p1, vi p2, vi p3, vi (0 : Int32), vr u0, vr u0, vi (1 : Int32), vi (1 : Int32), vu]) rfl ?_
    show own_S p e below T7 (mkF m 73 #[vi p1, vi p2, vi p3, vi (0 : Int32), vr u0, vr u0, vi (1 : Int32), vi (1 : Int32), vu] []) _
    refine XS.aload X7.here hx rfl (hb hby at_73) rfl rfl ?_
    show own_S p e below T7 (mkF m 75 #[vi p1, vi p2, vi p3, vi (0 : Int32), vr u0, vr u0, vi (1 : Int32), vi (1 : Int32), vu] [xr u0]) _
    refine XS.aload X7.here hx rfl (hb hby at_75) rfl rfl ?_
    show own_S p e below T7 (mkF m 77 #[vi p1, vi p2, vi p3, vi (0 : Int32), vr u0, vr u0, vi (1 : Int32), vi (1 : Int32), vu] [xr u0, xr u0]) _
    refine st8.trans ?_
    show own_S p e below T8 (mkF m 80 #[vi p1, vi p2, vi p3, vi (0 : Int32), vr u0, vr u0, vi (1 : Int32), vi (1 : Int32), vu] [xr u0]) _
    refine st9.trans ?_
    show own_S p e below T9 (mkF m 83 #[vi p1, vi p2, vi p3, vi (0 : Int32), vr u0, vr u0, vi (1 : Int32), vi (1 : Int32), vu] [xr u1]) _
    refine XS.aload X9.here hx rfl (hb hby at_83) rfl rfl ?_
    show own_S p e below T9 (mkF m 85 #[vi p1, vi p2, vi p3, vi (0 : Int32), vr u0, vr u0, vi (1 : Int32), vi (1 : Int32), vu] [xr u0, xr u1]) _
    refine st10.trans ?_
    show own_S p e below T10 (mkF m 88 #[vi p1, vi p2, vi p3, vi (0 : Int32), vr u0, vr u0, vi (1 : Int32), vi (1 : Int32), vu] [xr u1, xr u1]) _
    refine XS.aload X10.here hx rfl (hb hby at_88) rfl rfl ?_
    show own_S p e below T10 (mkF m 90 #[vi p1, vi p2, vi p3, vi (0 : Int32), vr u0, vr u0, vi (1 : Int32), vi (1 : Int32), vu] [xr u0, xr u1, xr u1]) _
    refine st11.trans ?_
    show own_S p e below T11 (mkF m 93 #[vi p1, vi p2, vi p3, vi (0 : Int32), vr u0, vr u0, vi (1 : Int32), vi (1 : Int32), vu] [xr u1, xr u1, xr u1]) _
    refine st12.trans ?_
    show own_S p e below T12 (mkF m 96 #[vi p1, vi p2, vi p3, vi (0 : Int32), vr u0, vr u0, vi (1 : Int32), vi (1 : Int32), vu] [xr u1, xr u1]) _
    refine Jvm.RoadKit.acmp (g := (mkF m 96 #[vi p1, vi p2, vi p3, vi (0 : Int32), vr u0, vr u0, vi (1 : Int32), vi (1 : Int32), vu] [xr u1, xr u1])) X12 hx rfl rfl rfl (pc0 := 96) (pc' := 99) (same := true) rfl (hb hby at_96) rfl (decide_eq_true rfl) (by decide) (by decide) ?_
    show own_S p e below T12 (mkF m 99 #[vi p1, vi p2, vi p3, vi (0 : Int32), vr u0, vr u0, vi (1 : Int32), vi (1 : Int32), vu] []) _
    refine XS.iconst X12.here hx rfl (hb hby at_99) ?_
    show own_S p e below T12 (mkF m 100 #[vi p1, vi p2, vi p3, vi (0 : Int32), vr u0, vr u0, vi (1 : Int32), vi (1 : Int32), vu] [xi (1 : Int32)]) _
    refine XS.goto X12.here hx rfl (pc0 := 100) (pc' := 104) rfl (hb hby at_100) (by decide) (by decide) ?_
    show own_S p e below T12 (mkF m 104 #[vi p1, vi p2, vi p3, vi (0 : Int32), vr u0, vr u0, vi (1 : Int32), vi (1 : Int32), vu] [xi (1 : Int32)]) _
    refine XS.istore X12.here hx rfl (hb hby at_104) rfl (l' := #[vi p1, vi p2, vi p3, vi (0 : Int32), vr u0, vr u0, vi (1 : Int32), vi (1 : Int32), vi (1 : Int32)]) rfl ?_
    show own_S p e below T12 (mkF m 106 #[vi p1, vi p2, vi p3, vi (0 : Int32), vr u0, vr u0, vi (1 : Int32), vi (1 : Int32), vi (1 : Int32)] []) _
    refine XS.iload X12.here hx rfl (hb hby at_106) rfl ?_
    show own_S p e below T12 (mkF m 108 #[vi p1, vi p2, vi p3, vi (0 : Int32), vr u0, vr u0, vi (1 : Int32), vi (1 : Int32), vi (1 : Int32)] [xi (1 : Int32)]) _
    refine XS.ifNo X12.here hx rfl (hb hby at_108) rfl (by decide) ?_
    show own_S p e below T12 (mkF m 111 #[vi p1, vi p2, vi p3, vi (0 : Int32), vr u0, vr u0, vi (1 : Int32), vi (1 : Int32), vi (1 : Int32)] []) _
    refine XS.iload X12.here hx rfl (hb hby at_111) rfl ?_
    show own_S p e below T12 (mkF m 113 #[vi p1, vi p2, vi p3, vi (0 : Int32), vr u0, vr u0, vi (1 : Int32), vi (1 : Int32), vi (1 : Int32)] [xi (1 : Int32)]) _
    refine XS.ifNo X12.here hx rfl (hb hby at_113) rfl (by decide) ?_
    show own_S p e below T12 (mkF m 116 #[vi p1, vi p2, vi p3, vi (0 : Int32), vr u0, vr u0, vi (1 : Int32), vi (1 : Int32), vi (1 : Int32)] []) _
    refine XS.iload X12.here hx rfl (hb hby at_116) rfl ?_
    show own_S p e below T12 (mkF m 118 #[vi p1, vi p2, vi p3, vi (0 : Int32), vr u0, vr u0, vi (1 : Int32), vi (1 : Int32), vi (1 : Int32)] [xi (1 : Int32)]) _
    refine XS.ifNo X12.here hx rfl (hb hby at_118) rfl (by decide) ?_
    show own_S p e below T12 (mkF m 121 #[vi p1, vi p2, vi p3, vi (0 : Int32), vr u0, vr u0, vi (1 : Int32), vi (1 : Int32), vi (1 : Int32)] []) _
    refine XS.iconst X12.here hx rfl (hb hby at_121) ?_
    show own_S p e below T12 (mkF m 122 #[vi p1, vi p2, vi p3, vi (0 : Int32), vr u0, vr u0, vi (1 : Int32), vi (1 : Int32), vi (1 : Int32)] [xi (1 : Int32)]) _
    refine XS.goto X12.here hx rfl (pc0 := 122) (pc' := 126) rfl (hb hby at_122) (by decide) (by decide) ?_
    show own_S p e below T12 (mkF m 126 #[vi p1, vi p2, vi p3, vi (0 : Int32), vr u0, vr u0, vi (1 : Int32), vi (1 : Int32), vi (1 : Int32)] [xi (1 : Int32)]) _
    exact retN X12 hx (t := .boolean) Bd.returns (by simp) (hb hby at_126) hr
  · exact ⟨rfl, N12⟩
theorem ef_own_l1 (m : MethodId) (u0 u1 u2 : Addr) (p1 : Int32) (p2 : Int32) (p3 : Int32) : entryFrame m #[xi p1, xi p2, xi p3] maxLocals = (mkF m 0 #[vi p1, vi p2, vi p3, vu, vu, vu, vu, vu, vu] []) := by first | (simp [entryFrame, mkF, argsToLocals, Value.category, maxLocals]; done) | rfl
set_option maxRecDepth 65536 in
set_option maxHeartbeats 40000000 in
theorem own_l1 (l : Launch) (Z : State) (a0 : Array Value) (hw : ∀ d ∈ tables_1, d.before a0 Z = true) (u0 u1 u2 : Addr) (G : own_St Z u0 u1 u2) (p1 : Int32) (p2 : Int32) (p3 : Int32) (as7 : (p3 &&& (1 : Int32)) = (1 : Int32)) (as0 : ((p1 &&& (2147483647 : Int32)) - ((p1 &&& (2147483647 : Int32)) / (3 : Int32)) * (3 : Int32)) = (0 : Int32)) (as3 : ((p2 &&& (2147483647 : Int32)) - ((p2 &&& (2147483647 : Int32)) / (3 : Int32)) * (3 : Int32)) = (0 : Int32)) (h0 : Heap) (n0 : Nat) (O0 : Old Z n0 h0) : own_Met l Z x code maxLocals ret room_1 #[xi p1, xi p2, xi p3] h0 (own_QL (some (xi (1 : Int32))) n0) := by
  intro ws
  refine MetFree.of_bodySF (plainFor_of_name pn0) hisR ?_
  intro p e s m args below meth c s₁ Bd hml0 hP hK
  obtain ⟨rfl, hZ, hh⟩ := hP
  have hx := Bd.exec
  have hby := Bd.bytes
  have hml : c.maxLocals = 9 := hml0
  have hown : s.vm.findClass "com/example/arbitrium/arbitrium/policy/TruthNotPinLaw" = some m.cls := findClass_of_methodNamed Bd.named
  have hnm := (name_of_methodNamed Bd.named Bd.method).1
  have X0 : Stand p l e room_1 s m #[xi p1, xi p2, xi p3] below meth c s₁ [] 0 0 := Stand.of_body Bd
  have e0 : s₁.heap = h0 := by rw [← hh, Bd.state]; rfl
  have N0 := Fr.nil n0
  have pre0 : ∀ t, Steps p.tables e below (s₁.setTop (mkF m 0 #[vi p1, vi p2, vi p3, vu, vu, vu, vu, vu, vu] [])) t → Steps p.tables e below (s₁.setTop (entryFrame m #[xi p1, xi p2, xi p3] maxLocals)) t := fun t k => castTop (ef_own_l1 m u0 u1 u2 p1 p2 p3) k
  obtain ⟨_, _, ⟨T1, L1, k1, n1⟩, -, X1, ⟨Lc1, hQ1, l1, y1, z1⟩, st1⟩ := Jvm.LawKit.callS X0 hx (y := Y0) hown (mvT hZ (ww hw 0 rfl)) (mvT hZ (ww hw 1 rfl)) (mvT hZ (ww hw 2 rfl)) (mvT hZ (ww hw 3 rfl)) (by decide) (backOf (W := 0) (own_c0_pick l Z a0 hw u0 u1 u2 G p1 as0 h0 n0 O0 []) hZ (ww hw 3 rfl) (ww hw 2 rfl) (by decide) (by decide)) (g := (mkF m 13 #[vi p1, vi p2, vi p3, vi (1 : Int32), vu, vu, vu, vu, vu] [xi p1])) rfl (by rw [hml]; rfl) (argsL := [xi p1]) (rest := []) (lenOf pd0 rfl) rfl (by show 2 * 0 + _ ≤ _; exact Nat.le_of_eq rfl) (hb hby at_13) (fun _ _ => ⟨rfl, e0, (by decide : 0 + 0 ≤ _), (by decide : 0 + 0 ≤ _)⟩)
  dsimp only [Pt.U, Pt.locs, Pt.cells, Pt.slots] at X1 l1 y1 z1 st1 hQ1
  subst l1 y1 z1
  obtain ⟨rfl, Nq1, e1⟩ := hQ1
  have N1 := Fr.app N0 Nq1
  obtain ⟨_, _, ⟨T2, L2, k2, n2⟩, -, X2, ⟨Lc2, hQ2, l2, y2, z2⟩, st2⟩ := Jvm.LawKit.callS X1 hx (y := Y0) hown (mvT hZ (ww hw 0 rfl)) (mvT hZ (ww hw 1 rfl)) (mvT hZ (ww hw 2 rfl)) (mvT hZ (ww hw 3 rfl)) (by decide) (backOf (W := 0) (own_c1_pick l Z a0 hw u0 u1 u2 G p2 as3 h0 n0 O0 []) hZ (ww hw 3 rfl) (ww hw 2 rfl) (by decide) (by decide)) (g := (mkF m 19 #[vi p1, vi p2, vi p3, vi (1 : Int32), vr u0, vu, vu, vu, vu] [xi p2])) rfl (by rw [hml]; rfl) (argsL := [xi p2]) (rest := []) (lenOf pd0 rfl) rfl (by show 2 * 0 + _ ≤ _; exact Nat.le_of_eq rfl) (hb hby at_19) (fun _ _ => ⟨rfl, e1, (by decide : 0 + 0 ≤ _), (by decide : 0 + 0 ≤ _)⟩)
  dsimp only [Pt.U, Pt.locs, Pt.cells, Pt.slots] at X2 l2 y2 z2 st2 hQ2
  subst l2 y2 z2
  obtain ⟨rfl, Nq2, e2⟩ := hQ2
  have N2 := Fr.app N1 Nq2
  obtain ⟨_, _, ⟨T3, L3, k3, n3⟩, -, X3, ⟨Lc3, hQ3, l3, y3, z3⟩, st3⟩ := Jvm.LawKit.callS X2 hx (y := Y1) hown (mvT hZ (ww hw 8 rfl)) (mvT hZ (ww hw 9 rfl)) (mvT hZ (ww hw 6 rfl)) (mvT hZ (ww hw 10 rfl)) (by decide) (backOf (W := 0) (own_c3_of l Z a0 hw u0 u1 u2 G h0 n0 O0 []) hZ (ww hw 10 rfl) (ww hw 6 rfl) (by decide) (by decide)) (g := (mkF m 33 #[vi p1, vi p2, vi p3, vi (1 : Int32), vr u0, vr u0, vu, vu, vu] [xi (0 : Int32)])) rfl (by rw [hml]; rfl) (argsL := [xi (0 : Int32)]) (rest := []) (lenOf pd1 rfl) rfl (by show 2 * 0 + _ ≤ _; exact Nat.le_of_eq rfl) (hb hby at_33) (fun _ _ => ⟨rfl, e2, (by decide : 0 + 0 ≤ _), (by decide : 0 + 0 ≤ _)⟩)
  dsimp only [Pt.U, Pt.locs, Pt.cells, Pt.slots] at X3 l3 y3 z3 st3 hQ3
  subst l3 y3 z3
  obtain ⟨rfl, Nq3, e3⟩ := hQ3
  have N3 := Fr.app N2 Nq3
  obtain ⟨_, _, ⟨T4, L4, k4, n4⟩, -, X4, ⟨Lc4, hQ4, l4, y4, z4⟩, st4⟩ := Jvm.LawKit.callS X3 hx (y := Y1) hown (mvT hZ (ww hw 8 rfl)) (mvT hZ (ww hw 9 rfl)) (mvT hZ (ww hw 6 rfl)) (mvT hZ (ww hw 10 rfl)) (by decide) (backOf (W := 1) (own_c2_of l Z a0 hw u0 u1 u2 G h0 n0 O0 []) hZ (ww hw 10 rfl) (ww hw 6 rfl) (by decide) (by decide)) (g := (mkF m 37 #[vi p1, vi p2, vi p3, vi (1 : Int32), vr u0, vr u0, vu, vu, vu] [xi (1 : Int32), xr u1])) rfl (by rw [hml]; rfl) (argsL := [xi (1 : Int32)]) (rest := [xr u1]) (lenOf pd1 rfl) rfl (by show 2 * 0 + _ ≤ _; exact Nat.le_of_eq rfl) (hb hby at_37) (fun _ _ => ⟨rfl, e3, (by decide : 0 + 0 ≤ _), (by decide : 0 + 0 ≤ _)⟩)
  dsimp only [Pt.U, Pt.locs, Pt.cells, Pt.slots] at X4 l4 y4 z4 st4 hQ4
  subst l4 y4 z4
  obtain ⟨rfl, Nq4, e4⟩ := hQ4
  have N4 := Fr.app N3 Nq4
  obtain ⟨cq5, kq5, qa5, qb5, qc5⟩ := isOf hZ e4 ((own_X_u0 G).ext O0.2)
  obtain ⟨_, _, ⟨T5, L5, k5, n5⟩, -, X5, ⟨Lc5, hQ5, l5, y5, z5⟩, st5⟩ := X4.virtualBack hx (y := Y2) (z := Y2) hown (mvT hZ (ww hw 14 rfl)) (mvT hZ (ww hw 15 rfl)) (notFace_of_selects (args := #[]) (mvT hZ (ww hw 17 rfl))) (mvT hZ (ww hw 17 rfl)) (mvT hZ (ww hw 16 rfl)) (by decide) (backOf (W := 1) (own_c5_not l Z a0 hw u0 u1 u2 G h0 n0 O0 []) hZ (ww hw 18 rfl) (ww hw 6 rfl) (by decide) (by decide)) qa5 qc5 (g := (mkF m 40 #[vi p1, vi p2, vi p3, vi (1 : Int32), vr u0, vr u0, vu, vu, vu] [xr u0, xr u1])) rfl (by rw [hml]; rfl) (Steps.refl _) (argsL := []) (rest := [xr u1]) (lenOf pd2 rfl) rfl (by show 2 * 0 + _ ≤ _; exact Nat.le_of_eq rfl) (hb hby at_40) (fun _ _ => ⟨rfl, e4, (by decide : 0 + 0 ≤ _), (by decide : 0 + 0 ≤ _)⟩)
  dsimp only [Pt.U, Pt.locs, Pt.cells, Pt.slots] at X5 l5 y5 z5 st5 hQ5
  subst l5 y5 z5
  obtain ⟨rfl, Nq5, e5⟩ := hQ5
  have N5 := Fr.app N4 Nq5
  obtain ⟨cq6, kq6, qa6, qb6, qc6⟩ := isOf hZ e5 ((own_X_u0 G).ext O0.2)
  obtain ⟨_, _, ⟨T6, L6, k6, n6⟩, -, X6, ⟨Lc6, hQ6, l6, y6, z6⟩, st6⟩ := X5.virtualBack hx (y := Y2) (z := Y2) hown (mvT hZ (ww hw 14 rfl)) (mvT hZ (ww hw 15 rfl)) (notFace_of_selects (args := #[]) (mvT hZ (ww hw 17 rfl))) (mvT hZ (ww hw 17 rfl)) (mvT hZ (ww hw 16 rfl)) (by decide) (backOf (W := 0) (own_c5_not l Z a0 hw u0 u1 u2 G h0 n0 O0 []) hZ (ww hw 18 rfl) (ww hw 6 rfl) (by decide) (by decide)) qa6 qc6 (g := (mkF m 55 #[vi p1, vi p2, vi p3, vi (1 : Int32), vr u0, vr u0, vi (1 : Int32), vu, vu] [xr u0])) rfl (by rw [hml]; rfl) (Steps.refl _) (argsL := []) (rest := []) (lenOf pd2 rfl) rfl (by show 2 * 0 + _ ≤ _; exact Nat.le_of_eq rfl) (hb hby at_55) (fun _ _ => ⟨rfl, e5, (by decide : 0 + 0 ≤ _), (by decide : 0 + 0 ≤ _)⟩)
  dsimp only [Pt.U, Pt.locs, Pt.cells, Pt.slots] at X6 l6 y6 z6 st6 hQ6
  subst l6 y6 z6
  obtain ⟨rfl, Nq6, e6⟩ := hQ6
  have N6 := Fr.app N5 Nq6
  obtain ⟨cq7, kq7, qa7, qb7, qc7⟩ := isOf hZ e6 ((own_X_u1 G).ext O0.2)
  obtain ⟨_, _, ⟨T7, L7, k7, n7⟩, -, X7, ⟨Lc7, hQ7, l7, y7, z7⟩, st7⟩ := X6.virtualBack hx (y := Y2) (z := Y2) hown (mvT hZ (ww hw 14 rfl)) (mvT hZ (ww hw 15 rfl)) (notFace_of_selects (args := #[]) (mvT hZ (ww hw 17 rfl))) (mvT hZ (ww hw 17 rfl)) (mvT hZ (ww hw 16 rfl)) (by decide) (backOf (W := 0) (own_c4_not l Z a0 hw u0 u1 u2 G h0 n0 O0 []) hZ (ww hw 18 rfl) (ww hw 6 rfl) (by decide) (by decide)) qa7 qc7 (g := (mkF m 58 #[vi p1, vi p2, vi p3, vi (1 : Int32), vr u0, vr u0, vi (1 : Int32), vu, vu] [xr u1])) rfl (by rw [hml]; rfl) (Steps.refl _) (argsL := []) (rest := []) (lenOf pd2 rfl) rfl (by show 2 * 0 + _ ≤ _; exact Nat.le_of_eq rfl) (hb hby at_58) (fun _ _ => ⟨rfl, e6, (by decide : 0 + 0 ≤ _), (by decide : 0 + 0 ≤ _)⟩)
  dsimp only [Pt.U, Pt.locs, Pt.cells, Pt.slots] at X7 l7 y7 z7 st7 hQ7
  subst l7 y7 z7
  obtain ⟨rfl, Nq7, e7⟩ := hQ7
  have N7 := Fr.app N6 Nq7
  obtain ⟨cq8, kq8, qa8, qb8, qc8⟩ := isOf hZ e7 ((own_X_u0 G).ext O0.2)
  obtain ⟨_, _, ⟨T8, L8, k8, n8⟩, -, X8, ⟨Lc8, hQ8, l8, y8, z8⟩, st8⟩ := X7.virtualBack hx (y := Y3) (z := Y3) hown (mvT hZ (ww hw 21 rfl)) (mvT hZ (ww hw 22 rfl)) (notFace_of_selects (args := #[]) (mvT hZ (ww hw 24 rfl))) (mvT hZ (ww hw 24 rfl)) (mvT hZ (ww hw 23 rfl)) (by decide) (backOf (W := 0) (own_c6_and l Z a0 hw u0 u1 u2 G h0 n0 O0 []) hZ (ww hw 25 rfl) (ww hw 6 rfl) (by decide) (by decide)) qa8 qc8 (g := (mkF m 77 #[vi p1, vi p2, vi p3, vi (1 : Int32), vr u0, vr u0, vi (1 : Int32), vi (1 : Int32), vu] [xr u0, xr u0])) rfl (by rw [hml]; rfl) (Steps.refl _) (argsL := [xr u0]) (rest := []) (lenOf pd3 rfl) rfl (by show 2 * 0 + _ ≤ _; exact Nat.le_of_eq rfl) (hb hby at_77) (fun _ _ => ⟨rfl, e7, (by decide : 0 + 0 ≤ _), (by decide : 0 + 0 ≤ _)⟩)
  dsimp only [Pt.U, Pt.locs, Pt.cells, Pt.slots] at X8 l8 y8 z8 st8 hQ8
  subst l8 y8 z8
  obtain ⟨rfl, Nq8, e8⟩ := hQ8
  have N8 := Fr.app N7 Nq8
  obtain ⟨cq9, kq9, qa9, qb9, qc9⟩ := isOf hZ e8 ((own_X_u0 G).ext O0.2)
  obtain ⟨_, _, ⟨T9, L9, k9, n9⟩, -, X9, ⟨Lc9, hQ9, l9, y9, z9⟩, st9⟩ := X8.virtualBack hx (y := Y2) (z := Y2) hown (mvT hZ (ww hw 14 rfl)) (mvT hZ (ww hw 15 rfl)) (notFace_of_selects (args := #[]) (mvT hZ (ww hw 17 rfl))) (mvT hZ (ww hw 17 rfl)) (mvT hZ (ww hw 16 rfl)) (by decide) (backOf (W := 0) (own_c5_not l Z a0 hw u0 u1 u2 G h0 n0 O0 []) hZ (ww hw 18 rfl) (ww hw 6 rfl) (by decide) (by decide)) qa9 qc9 (g := (mkF m 80 #[vi p1, vi p2, vi p3, vi (1 : Int32), vr u0, vr u0, vi (1 : Int32), vi (1 : Int32), vu] [xr u0])) rfl (by rw [hml]; rfl) (Steps.refl _) (argsL := []) (rest := []) (lenOf pd2 rfl) rfl (by show 2 * 0 + _ ≤ _; exact Nat.le_of_eq rfl) (hb hby at_80) (fun _ _ => ⟨rfl, e8, (by decide : 0 + 0 ≤ _), (by decide : 0 + 0 ≤ _)⟩)
  dsimp only [Pt.U, Pt.locs, Pt.cells, Pt.slots] at X9 l9 y9 z9 st9 hQ9
  subst l9 y9 z9
  obtain ⟨rfl, Nq9, e9⟩ := hQ9
  have N9 := Fr.app N8 Nq9
  obtain ⟨cq10, kq10, qa10, qb10, qc10⟩ := isOf hZ e9 ((own_X_u0 G).ext O0.2)
  obtain ⟨_, _, ⟨T10, L10, k10, n10⟩, -, X10, ⟨Lc10, hQ10, l10, y10, z10⟩, st10⟩ := X9.virtualBack hx (y := Y2) (z := Y2) hown (mvT hZ (ww hw 14 rfl)) (mvT hZ (ww hw 15 rfl)) (notFace_of_selects (args := #[]) (mvT hZ (ww hw 17 rfl))) (mvT hZ (ww hw 17 rfl)) (mvT hZ (ww hw 16 rfl)) (by decide) (backOf (W := 1) (own_c5_not l Z a0 hw u0 u1 u2 G h0 n0 O0 []) hZ (ww hw 18 rfl) (ww hw 6 rfl) (by decide) (by decide)) qa10 qc10 (g := (mkF m 85 #[vi p1, vi p2, vi p3, vi (1 : Int32), vr u0, vr u0, vi (1 : Int32), vi (1 : Int32), vu] [xr u0, xr u1])) rfl (by rw [hml]; rfl) (Steps.refl _) (argsL := []) (rest := [xr u1]) (lenOf pd2 rfl) rfl (by show 2 * 0 + _ ≤ _; exact Nat.le_of_eq rfl) (hb hby at_85) (fun _ _ => ⟨rfl, e9, (by decide : 0 + 0 ≤ _), (by decide : 0 + 0 ≤ _)⟩)
  dsimp only [Pt.U, Pt.locs, Pt.cells, Pt.slots] at X10 l10 y10 z10 st10 hQ10
  subst l10 y10 z10
  obtain ⟨rfl, Nq10, e10⟩ := hQ10
  have N10 := Fr.app N9 Nq10
  obtain ⟨cq11, kq11, qa11, qb11, qc11⟩ := isOf hZ e10 ((own_X_u0 G).ext O0.2)
  obtain ⟨_, _, ⟨T11, L11, k11, n11⟩, -, X11, ⟨Lc11, hQ11, l11, y11, z11⟩, st11⟩ := X10.virtualBack hx (y := Y2) (z := Y2) hown (mvT hZ (ww hw 14 rfl)) (mvT hZ (ww hw 15 rfl)) (notFace_of_selects (args := #[]) (mvT hZ (ww hw 17 rfl))) (mvT hZ (ww hw 17 rfl)) (mvT hZ (ww hw 16 rfl)) (by decide) (backOf (W := 2) (own_c5_not l Z a0 hw u0 u1 u2 G h0 n0 O0 []) hZ (ww hw 18 rfl) (ww hw 6 rfl) (by decide) (by decide)) qa11 qc11 (g := (mkF m 90 #[vi p1, vi p2, vi p3, vi (1 : Int32), vr u0, vr u0, vi (1 : Int32), vi (1 : Int32), vu] [xr u0, xr u1, xr u1])) rfl (by rw [hml]; rfl) (Steps.refl _) (argsL := []) (rest := [xr u1, xr u1]) (lenOf pd2 rfl) rfl (by show 2 * 0 + _ ≤ _; exact Nat.le_of_eq rfl) (hb hby at_90) (fun _ _ => ⟨rfl, e10, (by decide : 0 + 0 ≤ _), (by decide : 0 + 0 ≤ _)⟩)
  dsimp only [Pt.U, Pt.locs, Pt.cells, Pt.slots] at X11 l11 y11 z11 st11 hQ11
  subst l11 y11 z11
  obtain ⟨rfl, Nq11, e11⟩ := hQ11
  have N11 := Fr.app N10 Nq11
  obtain ⟨cq12, kq12, qa12, qb12, qc12⟩ := isOf hZ e11 ((own_X_u1 G).ext O0.2)
  obtain ⟨_, _, ⟨T12, L12, k12, n12⟩, -, X12, ⟨Lc12, hQ12, l12, y12, z12⟩, st12⟩ := X11.virtualBack hx (y := Y4) (z := Y4) hown (mvT hZ (ww hw 26 rfl)) (mvT hZ (ww hw 27 rfl)) (notFace_of_selects (args := #[]) (mvT hZ (ww hw 29 rfl))) (mvT hZ (ww hw 29 rfl)) (mvT hZ (ww hw 28 rfl)) (by decide) (backOf (W := 1) (own_c7_or l Z a0 hw u0 u1 u2 G h0 n0 O0 []) hZ (ww hw 30 rfl) (ww hw 6 rfl) (by decide) (by decide)) qa12 qc12 (g := (mkF m 93 #[vi p1, vi p2, vi p3, vi (1 : Int32), vr u0, vr u0, vi (1 : Int32), vi (1 : Int32), vu] [xr u1, xr u1, xr u1])) rfl (by rw [hml]; rfl) (Steps.refl _) (argsL := [xr u1]) (rest := [xr u1]) (lenOf pd3 rfl) rfl (by show 2 * 0 + _ ≤ _; exact Nat.le_of_eq rfl) (hb hby at_93) (fun _ _ => ⟨rfl, e11, (by decide : 0 + 0 ≤ _), (by decide : 0 + 0 ≤ _)⟩)
  dsimp only [Pt.U, Pt.locs, Pt.cells, Pt.slots] at X12 l12 y12 z12 st12 hQ12
  subst l12 y12 z12
  obtain ⟨rfl, Nq12, e12⟩ := hQ12
  have N12 := Fr.app N11 Nq12
  obtain ⟨fs, hr, hrun, hended, hW, hsame⟩ := X12.leave (v := some (xi (1 : Int32))) (fun h => by rw [Bd.returns] at h; cases h)
  refine ⟨_, _, pre0 _ ?_, hrun, hended, _, _, rfl, ?_, ⟨_, rfl⟩, hW, hsame.mono (by decide) (by decide)⟩
  · show own_S p e below s₁ (mkF m 0 #[vi p1, vi p2, vi p3, vu, vu, vu, vu, vu, vu] []) _
    refine XS.iloadN X0.here hx rfl (hb hby at_0) rfl ?_
    show own_S p e below s₁ (mkF m 1 #[vi p1, vi p2, vi p3, vu, vu, vu, vu, vu, vu] [xi p3]) _
    refine XS.iconst X0.here hx rfl (hb hby at_1) ?_
    show own_S p e below s₁ (mkF m 2 #[vi p1, vi p2, vi p3, vu, vu, vu, vu, vu, vu] [xi (1 : Int32), xi p3]) _
    refine XS.iand X0.here hx rfl (hb hby at_2) rfl ?_
    show own_S p e below s₁ (mkF m 3 #[vi p1, vi p2, vi p3, vu, vu, vu, vu, vu, vu] [xi (p3 &&& (1 : Int32))]) _
    refine castTop (show (mkF m 3 #[vi p1, vi p2, vi p3, vu, vu, vu, vu, vu, vu] [xi (p3 &&& (1 : Int32))]) = (mkF m 3 #[vi p1, vi p2, vi p3, vu, vu, vu, vu, vu, vu] [xi (1 : Int32)]) from by rw [as7]) ?_
    show own_S p e below s₁ (mkF m 3 #[vi p1, vi p2, vi p3, vu, vu, vu, vu, vu, vu] [xi (1 : Int32)]) _
    refine XS.ifNo X0.here hx rfl (hb hby at_3) rfl (by decide) ?_
    show own_S p e below s₁ (mkF m 6 #[vi p1, vi p2, vi p3, vu, vu, vu, vu, vu, vu] []) _
    refine XS.iconst X0.here hx rfl (hb hby at_6) ?_
    show own_S p e below s₁ (mkF m 7 #[vi p1, vi p2, vi p3, vu, vu, vu, vu, vu, vu] [xi (1 : Int32)]) _
    refine XS.goto X0.here hx rfl (pc0 := 7) (pc' := 11) rfl (hb hby at_7) (by decide) (by decide) ?_
    show own_S p e below s₁ (mkF m 11 #[vi p1, vi p2, vi p3, vu, vu, vu, vu, vu, vu] [xi (1 : Int32)]) _
    refine XS.istoreN X0.here hx rfl (hb hby at_11) rfl (l' := #[vi p1, vi p2, vi p3, vi (1 : Int32), vu, vu, vu, vu, vu]) rfl ?_
    show own_S p e below s₁ (mkF m 12 #[vi p1, vi p2, vi p3, vi (1 : Int32), vu, vu, vu, vu, vu] []) _
    refine XS.iloadN X0.here hx rfl (hb hby at_12) rfl ?_
    show own_S p e below s₁ (mkF m 13 #[vi p1, vi p2, vi p3, vi (1 : Int32), vu, vu, vu, vu, vu] [xi p1]) _
    refine st1 _ ?_
    show own_S p e below T1 (mkF m 16 #[vi p1, vi p2, vi p3, vi (1 : Int32), vu, vu, vu, vu, vu] [xr u0]) _
    refine XS.astore X1.here hx rfl (hb hby at_16) rfl rfl (l' := #[vi p1, vi p2, vi p3, vi (1 : Int32), vr u0, vu, vu, vu, vu]) rfl ?_
    show own_S p e below T1 (mkF m 18 #[vi p1, vi p2, vi p3, vi (1 : Int32), vr u0, vu, vu, vu, vu] []) _
    refine XS.iloadN X1.here hx rfl (hb hby at_18) rfl ?_
    show own_S p e below T1 (mkF m 19 #[vi p1, vi p2, vi p3, vi (1 : Int32), vr u0, vu, vu, vu, vu] [xi p2]) _
    refine st2 _ ?_
    show own_S p e below T2 (mkF m 22 #[vi p1, vi p2, vi p3, vi (1 : Int32), vr u0, vu, vu, vu, vu] [xr u0]) _
    refine XS.astore X2.here hx rfl (hb hby at_22) rfl rfl (l' := #[vi p1, vi p2, vi p3, vi (1 : Int32), vr u0, vr u0, vu, vu, vu]) rfl ?_
    show own_S p e below T2 (mkF m 24 #[vi p1, vi p2, vi p3, vi (1 : Int32), vr u0, vr u0, vu, vu, vu] []) _
    refine XS.iloadN X2.here hx rfl (hb hby at_24) rfl ?_
    show own_S p e below T2 (mkF m 25 #[vi p1, vi p2, vi p3, vi (1 : Int32), vr u0, vr u0, vu, vu, vu] [xi (1 : Int32)]) _
    refine XS.ifYes X2.here hx rfl (pc0 := 25) (pc' := 32) rfl (hb hby at_25) rfl (by decide) (by decide) (by decide) ?_
    show own_S p e below T2 (mkF m 32 #[vi p1, vi p2, vi p3, vi (1 : Int32), vr u0, vr u0, vu, vu, vu] []) _
    refine XS.iconst X2.here hx rfl (hb hby at_32) ?_
    show own_S p e below T2 (mkF m 33 #[vi p1, vi p2, vi p3, vi (1 : Int32), vr u0, vr u0, vu, vu, vu] [xi (0 : Int32)]) _
    refine st3 _ ?_
    show own_S p e below T3 (mkF m 36 #[vi p1, vi p2, vi p3, vi (1 : Int32), vr u0, vr u0, vu, vu, vu] [xr u1]) _
    refine XS.iloadN X3.here hx rfl (hb hby at_36) rfl ?_
    show own_S p e below T3 (mkF m 37 #[vi p1, vi p2, vi p3, vi (1 : Int32), vr u0, vr u0, vu, vu, vu] [xi (1 : Int32), xr u1]) _
    refine st4 _ ?_
    show own_S p e below T4 (mkF m 40 #[vi p1, vi p2, vi p3, vi (1 : Int32), vr u0, vr u0, vu, vu, vu] [xr u0, xr u1]) _
    refine st5.trans ?_
    show own_S p e below T5 (mkF m 43 #[vi p1, vi p2, vi p3, vi (1 : Int32), vr u0, vr u0, vu, vu, vu] [xr u1, xr u1]) _
    refine Jvm.RoadKit.acmp (g := (mkF m 43 #[vi p1, vi p2, vi p3, vi (1 : Int32), vr u0, vr u0, vu, vu, vu] [xr u1, xr u1])) X5 hx rfl rfl rfl (pc0 := 43) (pc' := 46) (same := true) rfl (hb hby at_43) rfl (decide_eq_true rfl) (by decide) (by decide) ?_
    show own_S p e below T5 (mkF m 46 #[vi p1, vi p2, vi p3, vi (1 : Int32), vr u0, vr u0, vu, vu, vu] []) _
    refine XS.iconst X5.here hx rfl (hb hby at_46) ?_
    show own_S p e below T5 (mkF m 47 #[vi p1, vi p2, vi p3, vi (1 : Int32), vr u0, vr u0, vu, vu, vu] [xi (1 : Int32)]) _
    refine XS.goto X5.here hx rfl (pc0 := 47) (pc' := 51) rfl (hb hby at_47) (by decide) (by decide) ?_
    show own_S p e below T5 (mkF m 51 #[vi p1, vi p2, vi p3, vi (1 : Int32), vr u0, vr u0, vu, vu, vu] [xi (1 : Int32)]) _
    refine XS.istore X5.here hx rfl (hb hby at_51) rfl (l' := #[vi p1, vi p2, vi p3, vi (1 : Int32), vr u0, vr u0, vi (1 : Int32), vu, vu]) rfl ?_
    show own_S p e below T5 (mkF m 53 #[vi p1, vi p2, vi p3, vi (1 : Int32), vr u0, vr u0, vi (1 : Int32), vu, vu] []) _
    refine XS.aload X5.here hx rfl (hb hby at_53) rfl rfl ?_
    show own_S p e below T5 (mkF m 55 #[vi p1, vi p2, vi p3, vi (1 : Int32), vr u0, vr u0, vi (1 : Int32), vu, vu] [xr u0]) _
    refine st6.trans ?_
    show own_S p e below T6 (mkF m 58 #[vi p1, vi p2, vi p3, vi (1 : Int32), vr u0, vr u0, vi (1 : Int32), vu, vu] [xr u1]) _
    refine st7.trans ?_
    show own_S p e below T7 (mkF m 61 #[vi p1, vi p2, vi p3, vi (1 : Int32), vr u0, vr u0, vi (1 : Int32), vu, vu] [xr u0]) _
    refine XS.aload X7.here hx rfl (hb hby at_61) rfl rfl ?_
    show own_S p e below T7 (mkF m 63 #[vi p1, vi p2, vi p3, vi (1 : Int32), vr u0, vr u0, vi (1 : Int32), vu, vu] [xr u0, xr u0]) _
    refine Jvm.RoadKit.acmp (g := (mkF m 63 #[vi p1, vi p2, vi p3, vi (1 : Int32), vr u0, vr u0, vi (1 : Int32), vu, vu] [xr u0, xr u0])) X7 hx rfl rfl rfl (pc0 := 63) (pc' := 66) (same := true) rfl (hb hby at_63) rfl (decide_eq_true rfl) (by decide) (by decide) ?_
    show own_S p e below T7 (mkF m 66 #[vi p1, vi p2, vi p3, vi (1 : Int32), vr u0, vr u0, vi (1 : Int32), vu, vu] []) _
    refine XS.iconst X7.here hx rfl (hb hby at_66) ?_
    show own_S p e below T7 (mkF m 67 #[vi p1, vi p2, vi p3, vi (1 : Int32), vr u0, vr u0, vi (1 : Int32), vu, vu] [xi (1 : Int32)]) _
    refine XS.goto X7.here hx rfl (pc0 := 67) (pc' := 71) rfl (hb hby at_67) (by decide) (by decide) ?_
    show own_S p e below T7 (mkF m 71 #[vi p1, vi p2, vi p3, vi (1 : Int32), vr u0, vr u0, vi (1 : Int32), vu, vu] [xi (1 : Int32)]) _
    refine XS.istore X7.here hx rfl (hb hby at_71) rfl (l' := #[vi p1, vi p2, vi p3, vi (1 : Int32), vr u0, vr u0, vi (1 : Int32), vi (1 : Int32), vu]) rfl ?_
    show own_S p e below T7 (mkF m 73 #[vi p1, vi p2, vi p3, vi (1 : Int32), vr u0, vr u0, vi (1 : Int32), vi (1 : Int32), vu] []) _
    refine XS.aload X7.here hx rfl (hb hby at_73) rfl rfl ?_
    show own_S p e below T7 (mkF m 75 #[vi p1, vi p2, vi p3, vi (1 : Int32), vr u0, vr u0, vi (1 : Int32), vi (1 : Int32), vu] [xr u0]) _
    refine XS.aload X7.here hx rfl (hb hby at_75) rfl rfl ?_
    show own_S p e below T7 (mkF m 77 #[vi p1, vi p2, vi p3, vi (1 : Int32), vr u0, vr u0, vi (1 : Int32), vi (1 : Int32), vu] [xr u0, xr u0]) _
    refine st8.trans ?_
    show own_S p e below T8 (mkF m 80 #[vi p1, vi p2, vi p3, vi (1 : Int32), vr u0, vr u0, vi (1 : Int32), vi (1 : Int32), vu] [xr u0]) _
    refine st9.trans ?_
    show own_S p e below T9 (mkF m 83 #[vi p1, vi p2, vi p3, vi (1 : Int32), vr u0, vr u0, vi (1 : Int32), vi (1 : Int32), vu] [xr u1]) _
    refine XS.aload X9.here hx rfl (hb hby at_83) rfl rfl ?_
    show own_S p e below T9 (mkF m 85 #[vi p1, vi p2, vi p3, vi (1 : Int32), vr u0, vr u0, vi (1 : Int32), vi (1 : Int32), vu] [xr u0, xr u1]) _
    refine st10.trans ?_
    show own_S p e below T10 (mkF m 88 #[vi p1, vi p2, vi p3, vi (1 : Int32), vr u0, vr u0, vi (1 : Int32), vi (1 : Int32), vu] [xr u1, xr u1]) _
    refine XS.aload X10.here hx rfl (hb hby at_88) rfl rfl ?_
    show own_S p e below T10 (mkF m 90 #[vi p1, vi p2, vi p3, vi (1 : Int32), vr u0, vr u0, vi (1 : Int32), vi (1 : Int32), vu] [xr u0, xr u1, xr u1]) _
    refine st11.trans ?_
    show own_S p e below T11 (mkF m 93 #[vi p1, vi p2, vi p3, vi (1 : Int32), vr u0, vr u0, vi (1 : Int32), vi (1 : Int32), vu] [xr u1, xr u1, xr u1]) _
    refine st12.trans ?_
    show own_S p e below T12 (mkF m 96 #[vi p1, vi p2, vi p3, vi (1 : Int32), vr u0, vr u0, vi (1 : Int32), vi (1 : Int32), vu] [xr u1, xr u1]) _
    refine Jvm.RoadKit.acmp (g := (mkF m 96 #[vi p1, vi p2, vi p3, vi (1 : Int32), vr u0, vr u0, vi (1 : Int32), vi (1 : Int32), vu] [xr u1, xr u1])) X12 hx rfl rfl rfl (pc0 := 96) (pc' := 99) (same := true) rfl (hb hby at_96) rfl (decide_eq_true rfl) (by decide) (by decide) ?_
    show own_S p e below T12 (mkF m 99 #[vi p1, vi p2, vi p3, vi (1 : Int32), vr u0, vr u0, vi (1 : Int32), vi (1 : Int32), vu] []) _
    refine XS.iconst X12.here hx rfl (hb hby at_99) ?_
    show own_S p e below T12 (mkF m 100 #[vi p1, vi p2, vi p3, vi (1 : Int32), vr u0, vr u0, vi (1 : Int32), vi (1 : Int32), vu] [xi (1 : Int32)]) _
    refine XS.goto X12.here hx rfl (pc0 := 100) (pc' := 104) rfl (hb hby at_100) (by decide) (by decide) ?_
    show own_S p e below T12 (mkF m 104 #[vi p1, vi p2, vi p3, vi (1 : Int32), vr u0, vr u0, vi (1 : Int32), vi (1 : Int32), vu] [xi (1 : Int32)]) _
    refine XS.istore X12.here hx rfl (hb hby at_104) rfl (l' := #[vi p1, vi p2, vi p3, vi (1 : Int32), vr u0, vr u0, vi (1 : Int32), vi (1 : Int32), vi (1 : Int32)]) rfl ?_
    show own_S p e below T12 (mkF m 106 #[vi p1, vi p2, vi p3, vi (1 : Int32), vr u0, vr u0, vi (1 : Int32), vi (1 : Int32), vi (1 : Int32)] []) _
    refine XS.iload X12.here hx rfl (hb hby at_106) rfl ?_
    show own_S p e below T12 (mkF m 108 #[vi p1, vi p2, vi p3, vi (1 : Int32), vr u0, vr u0, vi (1 : Int32), vi (1 : Int32), vi (1 : Int32)] [xi (1 : Int32)]) _
    refine XS.ifNo X12.here hx rfl (hb hby at_108) rfl (by decide) ?_
    show own_S p e below T12 (mkF m 111 #[vi p1, vi p2, vi p3, vi (1 : Int32), vr u0, vr u0, vi (1 : Int32), vi (1 : Int32), vi (1 : Int32)] []) _
    refine XS.iload X12.here hx rfl (hb hby at_111) rfl ?_
    show own_S p e below T12 (mkF m 113 #[vi p1, vi p2, vi p3, vi (1 : Int32), vr u0, vr u0, vi (1 : Int32), vi (1 : Int32), vi (1 : Int32)] [xi (1 : Int32)]) _
    refine XS.ifNo X12.here hx rfl (hb hby at_113) rfl (by decide) ?_
    show own_S p e below T12 (mkF m 116 #[vi p1, vi p2, vi p3, vi (1 : Int32), vr u0, vr u0, vi (1 : Int32), vi (1 : Int32), vi (1 : Int32)] []) _
    refine XS.iload X12.here hx rfl (hb hby at_116) rfl ?_
    show own_S p e below T12 (mkF m 118 #[vi p1, vi p2, vi p3, vi (1 : Int32), vr u0, vr u0, vi (1 : Int32), vi (1 : Int32), vi (1 : Int32)] [xi (1 : Int32)]) _
    refine XS.ifNo X12.here hx rfl (hb hby at_118) rfl (by decide) ?_
    show own_S p e below T12 (mkF m 121 #[vi p1, vi p2, vi p3, vi (1 : Int32), vr u0, vr u0, vi (1 : Int32), vi (1 : Int32), vi (1 : Int32)] []) _
    refine XS.iconst X12.here hx rfl (hb hby at_121) ?_
    show own_S p e below T12 (mkF m 122 #[vi p1, vi p2, vi p3, vi (1 : Int32), vr u0, vr u0, vi (1 : Int32), vi (1 : Int32), vi (1 : Int32)] [xi (1 : Int32)]) _
    refine XS.goto X12.here hx rfl (pc0 := 122) (pc' := 126) rfl (hb hby at_122) (by decide) (by decide) ?_
    show own_S p e below T12 (mkF m 126 #[vi p1, vi p2, vi p3, vi (1 : Int32), vr u0, vr u0, vi (1 : Int32), vi (1 : Int32), vi (1 : Int32)] [xi (1 : Int32)]) _
    exact retN X12 hx (t := .boolean) Bd.returns (by simp) (hb hby at_126) hr
  · exact ⟨rfl, N12⟩
theorem d1_15 : decode method_2_code 15 = .ok (.iload_n 1, 1) := by decide +kernel
theorem d1_16 : decode method_2_code 16 = .ok (.iconst 1, 1) := by decide +kernel
theorem d1_17 : decode method_2_code 17 = .ok (.if_icmp .ne 7, 3) := by decide +kernel
theorem d1_20 : decode method_2_code 20 = .ok (.getstatic 14, 3) := by decide +kernel
theorem d1_23 : decode method_2_code 23 = .ok (.areturn, 1) := by decide +kernel
theorem ef_own_c8_pick (m : MethodId) (u0 u1 u2 : Addr) (p2 : Int32) : entryFrame m #[xi p2] 2 = (mkF m 0 #[vi p2, vu] []) := by first | (simp [entryFrame, mkF, argsToLocals, Value.category]; done) | rfl
set_option maxRecDepth 65536 in
set_option maxHeartbeats 40000000 in
theorem own_c8_pick (l : Launch) (Z : State) (a0 : Array Value) (hw : ∀ d ∈ tables_1, d.before a0 Z = true) (u0 u1 u2 : Addr) (G : own_St Z u0 u1 u2) (p2 : Int32) (as4 : ((p2 &&& (2147483647 : Int32)) - ((p2 &&& (2147483647 : Int32)) / (3 : Int32)) * (3 : Int32)) = (1 : Int32)) (h0 : Heap) (n0 : Nat) (O0 : Old Z n0 h0) : own_Met l Z Y0 method_2_code 2 (some (.object "com/example/arbitrium/arbitrium/policy/Truth")) ({ frames := 0, cells := 0, slots := 0, locals := 0 } : Room) #[xi p2] h0 (own_QR (some (xr u1)) h0 n0) := by
  intro ws
  refine MetFree.of_bodySF (plainFor_of_name pn0) hisR ?_
  intro p e s m args below meth c s₁ Bd hml0 hP hK
  obtain ⟨rfl, hZ, hh⟩ := hP
  have hx := Bd.exec
  have hby := Bd.bytes
  have hml : c.maxLocals = 2 := hml0
  have hown : s.vm.findClass "com/example/arbitrium/arbitrium/policy/TruthNotPinLaw" = some m.cls := findClass_of_methodNamed Bd.named
  have hnm := (name_of_methodNamed Bd.named Bd.method).1
  have X0 : Stand p l e ({ frames := 0, cells := 0, slots := 0, locals := 0 } : Room) s m #[xi p2] below meth c s₁ [] 0 0 := Stand.of_body Bd
  have e0 : s₁.heap = h0 := by rw [← hh, Bd.state]; rfl
  have N0 := Fr.nil n0
  have pre0 : ∀ t, Steps p.tables e below (s₁.setTop (mkF m 0 #[vi p2, vu] [])) t → Steps p.tables e below (s₁.setTop (entryFrame m #[xi p2] 2)) t := fun t k => castTop (ef_own_c8_pick m u0 u1 u2 p2) k
  obtain ⟨T1, X1, e1, st1⟩ := getS2 X0 hx hZ hown (host := "") (Or.inl (ww hw 31 rfl)) Via.refl e0 ((own_S_u1 G).ext O0.2) (g := (mkF m 20 #[vi p2, vi (1 : Int32)] [])) rfl (hb hby d1_20)
  obtain ⟨fs, hr, hrun, hended, hW, hsame⟩ := X1.leave (v := some (xr u1)) (fun h => by rw [Bd.returns] at h; cases h)
  refine ⟨_, _, pre0 _ ?_, hrun, hended, _, _, rfl, ?_, ⟨_, rfl⟩, hW, hsame.mono (by decide) (by decide)⟩
  · show own_S p e below s₁ (mkF m 0 #[vi p2, vu] []) _
    refine XS.iloadN X0.here hx rfl (hb hby d1_0) rfl ?_
    show own_S p e below s₁ (mkF m 1 #[vi p2, vu] [xi p2]) _
    refine X0.ldcI hx hown (mvT hZ (ww hw 4 rfl)) (g := (mkF m 1 #[vi p2, vu] [xi p2])) rfl (hb hby d1_1) ?_
    show own_S p e below s₁ (mkF m 3 #[vi p2, vu] [xi (2147483647 : Int32), xi p2]) _
    refine XS.iand X0.here hx rfl (hb hby d1_3) rfl ?_
    show own_S p e below s₁ (mkF m 4 #[vi p2, vu] [xi (p2 &&& (2147483647 : Int32))]) _
    show own_S p e below s₁ (mkF m 4 #[vi p2, vu] [xi (p2 &&& (2147483647 : Int32))]) _
    refine XS.iconst X0.here hx rfl (hb hby d1_4) ?_
    show own_S p e below s₁ (mkF m 5 #[vi p2, vu] [xi (3 : Int32), xi (p2 &&& (2147483647 : Int32))]) _
    refine XS.irem X0.here hx rfl (hb hby d1_5) rfl (by decide) ?_
    show own_S p e below s₁ (mkF m 6 #[vi p2, vu] [xi ((p2 &&& (2147483647 : Int32)) - ((p2 &&& (2147483647 : Int32)) / (3 : Int32)) * (3 : Int32))]) _
    refine castTop (show (mkF m 6 #[vi p2, vu] [xi ((p2 &&& (2147483647 : Int32)) - ((p2 &&& (2147483647 : Int32)) / (3 : Int32)) * (3 : Int32))]) = (mkF m 6 #[vi p2, vu] [xi (1 : Int32)]) from by rw [as4]) ?_
    show own_S p e below s₁ (mkF m 6 #[vi p2, vu] [xi (1 : Int32)]) _
    refine XS.istoreN X0.here hx rfl (hb hby d1_6) rfl (l' := #[vi p2, vi (1 : Int32)]) rfl ?_
    show own_S p e below s₁ (mkF m 7 #[vi p2, vi (1 : Int32)] []) _
    refine XS.iloadN X0.here hx rfl (hb hby d1_7) rfl ?_
    show own_S p e below s₁ (mkF m 8 #[vi p2, vi (1 : Int32)] [xi (1 : Int32)]) _
    refine XS.ifYes X0.here hx rfl (pc0 := 8) (pc' := 15) rfl (hb hby d1_8) rfl (by decide) (by decide) (by decide) ?_
    show own_S p e below s₁ (mkF m 15 #[vi p2, vi (1 : Int32)] []) _
    refine XS.iloadN X0.here hx rfl (hb hby d1_15) rfl ?_
    show own_S p e below s₁ (mkF m 16 #[vi p2, vi (1 : Int32)] [xi (1 : Int32)]) _
    refine XS.iconst X0.here hx rfl (hb hby d1_16) ?_
    show own_S p e below s₁ (mkF m 17 #[vi p2, vi (1 : Int32)] [xi (1 : Int32), xi (1 : Int32)]) _
    refine XS.icmpNo X0.here hx rfl (hb hby d1_17) rfl (by decide) ?_
    show own_S p e below s₁ (mkF m 20 #[vi p2, vi (1 : Int32)] []) _
    refine st1 _ ?_
    show own_S p e below T1 (mkF m 23 #[vi p2, vi (1 : Int32)] [xr u1]) _
    exact X1.areturnOut hx rfl Bd.returns rfl (hb hby d1_23) hr
  · exact ⟨rfl, N0, e1⟩
theorem d4_14 : decode prog_71_method_5_code 14 = .ok (.getstatic 7, 3) := by decide +kernel
theorem d4_17 : decode prog_71_method_5_code 17 = .ok (.areturn, 1) := by decide +kernel
theorem ef_own_c9_and (m : MethodId) (u0 u1 u2 : Addr) : entryFrame m #[xr u0, xr u1] 2 = (mkF m 0 #[vr u0, vr u1] []) := by first | (simp [entryFrame, mkF, argsToLocals, Value.category]; done) | rfl
set_option maxRecDepth 65536 in
set_option maxHeartbeats 40000000 in
theorem own_c9_and (l : Launch) (Z : State) (a0 : Array Value) (hw : ∀ d ∈ tables_1, d.before a0 Z = true) (u0 u1 u2 : Addr) (G : own_St Z u0 u1 u2) (h0 : Heap) (n0 : Nat) (O0 : Old Z n0 h0) : own_Met l Z Y3 prog_71_method_5_code 2 (some (.object "com/example/arbitrium/arbitrium/policy/Truth")) ({ frames := 0, cells := 0, slots := 0, locals := 0 } : Room) #[xr u0, xr u1] h0 (own_QR (some (xr u1)) h0 n0) := by
  intro ws
  refine MetFree.of_bodySF (plainFor_of_name pn1) hisR ?_
  intro p e s m args below meth c s₁ Bd hml0 hP hK
  obtain ⟨rfl, hZ, hh⟩ := hP
  have hx := Bd.exec
  have hby := Bd.bytes
  have hml : c.maxLocals = 2 := hml0
  have hown : s.vm.findClass "com/example/arbitrium/arbitrium/policy/Truth" = some m.cls := findClass_of_methodNamed Bd.named
  have hnm := (name_of_methodNamed Bd.named Bd.method).1
  have X0 : Stand p l e ({ frames := 0, cells := 0, slots := 0, locals := 0 } : Room) s m #[xr u0, xr u1] below meth c s₁ [] 0 0 := Stand.of_body Bd
  have e0 : s₁.heap = h0 := by rw [← hh, Bd.state]; rfl
  have N0 := Fr.nil n0
  have pre0 : ∀ t, Steps p.tables e below (s₁.setTop (mkF m 0 #[vr u0, vr u1] [])) t → Steps p.tables e below (s₁.setTop (entryFrame m #[xr u0, xr u1] 2)) t := fun t k => castTop (ef_own_c9_and m u0 u1 u2) k
  obtain ⟨T1, X1, e1, st1⟩ := getS2 X0 hx hZ hown (host := "") (Or.inl (ww hw 12 rfl)) Via.refl e0 ((own_S_u1 G).ext O0.2) (g := (mkF m 1 #[vr u0, vr u1] [xr u0])) rfl (hb hby d4_1)
  obtain ⟨T2, X2, e2, st2⟩ := getS2 X1 hx hZ hown (host := "") (Or.inl (ww hw 12 rfl)) Via.refl e1 ((own_S_u1 G).ext O0.2) (g := (mkF m 8 #[vr u0, vr u1] [xr u1])) rfl (hb hby d4_8)
  obtain ⟨T3, X3, e3, st3⟩ := getS2 X2 hx hZ hown (host := "") (Or.inl (ww hw 12 rfl)) Via.refl e2 ((own_S_u1 G).ext O0.2) (g := (mkF m 14 #[vr u0, vr u1] [])) rfl (hb hby d4_14)
  obtain ⟨fs, hr, hrun, hended, hW, hsame⟩ := X3.leave (v := some (xr u1)) (fun h => by rw [Bd.returns] at h; cases h)
  refine ⟨_, _, pre0 _ ?_, hrun, hended, _, _, rfl, ?_, ⟨_, rfl⟩, hW, hsame.mono (by decide) (by decide)⟩
  · show own_S p e below s₁ (mkF m 0 #[vr u0, vr u1] []) _
    refine XS.aloadN X0.here hx rfl (hb hby d4_0) rfl rfl ?_
    show own_S p e below s₁ (mkF m 1 #[vr u0, vr u1] [xr u0]) _
    refine st1 _ ?_
    show own_S p e below T1 (mkF m 4 #[vr u0, vr u1] [xr u1, xr u0]) _
    refine Jvm.RoadKit.acmp (g := (mkF m 4 #[vr u0, vr u1] [xr u1, xr u0])) X1 hx rfl rfl rfl (pc0 := 4) (pc' := 7) (same := false) rfl (hb hby d4_4) rfl (own_ref (own_ne_u0_u1 G)) (by decide) (by decide) ?_
    show own_S p e below T1 (mkF m 7 #[vr u0, vr u1] []) _
    refine XS.aloadN X1.here hx rfl (hb hby d4_7) rfl rfl ?_
    show own_S p e below T1 (mkF m 8 #[vr u0, vr u1] [xr u1]) _
    refine st2 _ ?_
    show own_S p e below T2 (mkF m 11 #[vr u0, vr u1] [xr u1, xr u1]) _
    refine Jvm.RoadKit.acmp (g := (mkF m 11 #[vr u0, vr u1] [xr u1, xr u1])) X2 hx rfl rfl rfl (pc0 := 11) (pc' := 14) (same := true) rfl (hb hby d4_11) rfl (decide_eq_true rfl) (by decide) (by decide) ?_
    show own_S p e below T2 (mkF m 14 #[vr u0, vr u1] []) _
    refine st3 _ ?_
    show own_S p e below T3 (mkF m 17 #[vr u0, vr u1] [xr u1]) _
    exact X3.areturnOut hx rfl Bd.returns rfl (hb hby d4_17) hr
  · exact ⟨rfl, N0, e3⟩
theorem d5_14 : decode prog_71_method_6_code 14 = .ok (.getstatic 3, 3) := by decide +kernel
theorem d5_17 : decode prog_71_method_6_code 17 = .ok (.areturn, 1) := by decide +kernel
theorem ef_own_c10_or (m : MethodId) (u0 u1 u2 : Addr) : entryFrame m #[xr u1, xr u0] 2 = (mkF m 0 #[vr u1, vr u0] []) := by first | (simp [entryFrame, mkF, argsToLocals, Value.category]; done) | rfl
set_option maxRecDepth 65536 in
set_option maxHeartbeats 40000000 in
theorem own_c10_or (l : Launch) (Z : State) (a0 : Array Value) (hw : ∀ d ∈ tables_1, d.before a0 Z = true) (u0 u1 u2 : Addr) (G : own_St Z u0 u1 u2) (h0 : Heap) (n0 : Nat) (O0 : Old Z n0 h0) : own_Met l Z Y4 prog_71_method_6_code 2 (some (.object "com/example/arbitrium/arbitrium/policy/Truth")) ({ frames := 0, cells := 0, slots := 0, locals := 0 } : Room) #[xr u1, xr u0] h0 (own_QR (some (xr u0)) h0 n0) := by
  intro ws
  refine MetFree.of_bodySF (plainFor_of_name pn1) hisR ?_
  intro p e s m args below meth c s₁ Bd hml0 hP hK
  obtain ⟨rfl, hZ, hh⟩ := hP
  have hx := Bd.exec
  have hby := Bd.bytes
  have hml : c.maxLocals = 2 := hml0
  have hown : s.vm.findClass "com/example/arbitrium/arbitrium/policy/Truth" = some m.cls := findClass_of_methodNamed Bd.named
  have hnm := (name_of_methodNamed Bd.named Bd.method).1
  have X0 : Stand p l e ({ frames := 0, cells := 0, slots := 0, locals := 0 } : Room) s m #[xr u1, xr u0] below meth c s₁ [] 0 0 := Stand.of_body Bd
  have e0 : s₁.heap = h0 := by rw [← hh, Bd.state]; rfl
  have N0 := Fr.nil n0
  have pre0 : ∀ t, Steps p.tables e below (s₁.setTop (mkF m 0 #[vr u1, vr u0] [])) t → Steps p.tables e below (s₁.setTop (entryFrame m #[xr u1, xr u0] 2)) t := fun t k => castTop (ef_own_c10_or m u0 u1 u2) k
  obtain ⟨T1, X1, e1, st1⟩ := getS2 X0 hx hZ hown (host := "") (Or.inl (ww hw 11 rfl)) Via.refl e0 ((own_S_u0 G).ext O0.2) (g := (mkF m 1 #[vr u1, vr u0] [xr u1])) rfl (hb hby d5_1)
  obtain ⟨T2, X2, e2, st2⟩ := getS2 X1 hx hZ hown (host := "") (Or.inl (ww hw 11 rfl)) Via.refl e1 ((own_S_u0 G).ext O0.2) (g := (mkF m 8 #[vr u1, vr u0] [xr u0])) rfl (hb hby d5_8)
  obtain ⟨T3, X3, e3, st3⟩ := getS2 X2 hx hZ hown (host := "") (Or.inl (ww hw 11 rfl)) Via.refl e2 ((own_S_u0 G).ext O0.2) (g := (mkF m 14 #[vr u1, vr u0] [])) rfl (hb hby d5_14)
  obtain ⟨fs, hr, hrun, hended, hW, hsame⟩ := X3.leave (v := some (xr u0)) (fun h => by rw [Bd.returns] at h; cases h)
  refine ⟨_, _, pre0 _ ?_, hrun, hended, _, _, rfl, ?_, ⟨_, rfl⟩, hW, hsame.mono (by decide) (by decide)⟩
  · show own_S p e below s₁ (mkF m 0 #[vr u1, vr u0] []) _
    refine XS.aloadN X0.here hx rfl (hb hby d5_0) rfl rfl ?_
    show own_S p e below s₁ (mkF m 1 #[vr u1, vr u0] [xr u1]) _
    refine st1 _ ?_
    show own_S p e below T1 (mkF m 4 #[vr u1, vr u0] [xr u0, xr u1]) _
    refine Jvm.RoadKit.acmp (g := (mkF m 4 #[vr u1, vr u0] [xr u0, xr u1])) X1 hx rfl rfl rfl (pc0 := 4) (pc' := 7) (same := false) rfl (hb hby d5_4) rfl (own_ref (own_ne_u1_u0 G)) (by decide) (by decide) ?_
    show own_S p e below T1 (mkF m 7 #[vr u1, vr u0] []) _
    refine XS.aloadN X1.here hx rfl (hb hby d5_7) rfl rfl ?_
    show own_S p e below T1 (mkF m 8 #[vr u1, vr u0] [xr u0]) _
    refine st2 _ ?_
    show own_S p e below T2 (mkF m 11 #[vr u1, vr u0] [xr u0, xr u0]) _
    refine Jvm.RoadKit.acmp (g := (mkF m 11 #[vr u1, vr u0] [xr u0, xr u0])) X2 hx rfl rfl rfl (pc0 := 11) (pc' := 14) (same := true) rfl (hb hby d5_11) rfl (decide_eq_true rfl) (by decide) (by decide) ?_
    show own_S p e below T2 (mkF m 14 #[vr u1, vr u0] []) _
    refine st3 _ ?_
    show own_S p e below T3 (mkF m 17 #[vr u1, vr u0] [xr u0]) _
    exact X3.areturnOut hx rfl Bd.returns rfl (hb hby d5_17) hr
  · exact ⟨rfl, N0, e3⟩
theorem ef_own_l2 (m : MethodId) (u0 u1 u2 : Addr) (p1 : Int32) (p2 : Int32) (p3 : Int32) : entryFrame m #[xi p1, xi p2, xi p3] maxLocals = (mkF m 0 #[vi p1, vi p2, vi p3, vu, vu, vu, vu, vu, vu] []) := by first | (simp [entryFrame, mkF, argsToLocals, Value.category, maxLocals]; done) | rfl
set_option maxRecDepth 65536 in
set_option maxHeartbeats 40000000 in
theorem own_l2 (l : Launch) (Z : State) (a0 : Array Value) (hw : ∀ d ∈ tables_1, d.before a0 Z = true) (u0 u1 u2 : Addr) (G : own_St Z u0 u1 u2) (p1 : Int32) (p2 : Int32) (p3 : Int32) (as6 : (p3 &&& (1 : Int32)) = (0 : Int32)) (as0 : ((p1 &&& (2147483647 : Int32)) - ((p1 &&& (2147483647 : Int32)) / (3 : Int32)) * (3 : Int32)) = (0 : Int32)) (as4 : ((p2 &&& (2147483647 : Int32)) - ((p2 &&& (2147483647 : Int32)) / (3 : Int32)) * (3 : Int32)) = (1 : Int32)) (h0 : Heap) (n0 : Nat) (O0 : Old Z n0 h0) : own_Met l Z x code maxLocals ret room_1 #[xi p1, xi p2, xi p3] h0 (own_QL (some (xi (1 : Int32))) n0) := by
  intro ws
  refine MetFree.of_bodySF (plainFor_of_name pn0) hisR ?_
  intro p e s m args below meth c s₁ Bd hml0 hP hK
  obtain ⟨rfl, hZ, hh⟩ := hP
  have hx := Bd.exec
  have hby := Bd.bytes
  have hml : c.maxLocals = 9 := hml0
  have hown : s.vm.findClass "com/example/arbitrium/arbitrium/policy/TruthNotPinLaw" = some m.cls := findClass_of_methodNamed Bd.named
  have hnm := (name_of_methodNamed Bd.named Bd.method).1
  have X0 : Stand p l e room_1 s m #[xi p1, xi p2, xi p3] below meth c s₁ [] 0 0 := Stand.of_body Bd
  have e0 : s₁.heap = h0 := by rw [← hh, Bd.state]; rfl
  have N0 := Fr.nil n0
  have pre0 : ∀ t, Steps p.tables e below (s₁.setTop (mkF m 0 #[vi p1, vi p2, vi p3, vu, vu, vu, vu, vu, vu] [])) t → Steps p.tables e below (s₁.setTop (entryFrame m #[xi p1, xi p2, xi p3] maxLocals)) t := fun t k => castTop (ef_own_l2 m u0 u1 u2 p1 p2 p3) k
  obtain ⟨_, _, ⟨T1, L1, k1, n1⟩, -, X1, ⟨Lc1, hQ1, l1, y1, z1⟩, st1⟩ := Jvm.LawKit.callS X0 hx (y := Y0) hown (mvT hZ (ww hw 0 rfl)) (mvT hZ (ww hw 1 rfl)) (mvT hZ (ww hw 2 rfl)) (mvT hZ (ww hw 3 rfl)) (by decide) (backOf (W := 0) (own_c0_pick l Z a0 hw u0 u1 u2 G p1 as0 h0 n0 O0 []) hZ (ww hw 3 rfl) (ww hw 2 rfl) (by decide) (by decide)) (g := (mkF m 13 #[vi p1, vi p2, vi p3, vi (0 : Int32), vu, vu, vu, vu, vu] [xi p1])) rfl (by rw [hml]; rfl) (argsL := [xi p1]) (rest := []) (lenOf pd0 rfl) rfl (by show 2 * 0 + _ ≤ _; exact Nat.le_of_eq rfl) (hb hby at_13) (fun _ _ => ⟨rfl, e0, (by decide : 0 + 0 ≤ _), (by decide : 0 + 0 ≤ _)⟩)
  dsimp only [Pt.U, Pt.locs, Pt.cells, Pt.slots] at X1 l1 y1 z1 st1 hQ1
  subst l1 y1 z1
  obtain ⟨rfl, Nq1, e1⟩ := hQ1
  have N1 := Fr.app N0 Nq1
  obtain ⟨_, _, ⟨T2, L2, k2, n2⟩, -, X2, ⟨Lc2, hQ2, l2, y2, z2⟩, st2⟩ := Jvm.LawKit.callS X1 hx (y := Y0) hown (mvT hZ (ww hw 0 rfl)) (mvT hZ (ww hw 1 rfl)) (mvT hZ (ww hw 2 rfl)) (mvT hZ (ww hw 3 rfl)) (by decide) (backOf (W := 0) (own_c8_pick l Z a0 hw u0 u1 u2 G p2 as4 h0 n0 O0 []) hZ (ww hw 3 rfl) (ww hw 2 rfl) (by decide) (by decide)) (g := (mkF m 19 #[vi p1, vi p2, vi p3, vi (0 : Int32), vr u0, vu, vu, vu, vu] [xi p2])) rfl (by rw [hml]; rfl) (argsL := [xi p2]) (rest := []) (lenOf pd0 rfl) rfl (by show 2 * 0 + _ ≤ _; exact Nat.le_of_eq rfl) (hb hby at_19) (fun _ _ => ⟨rfl, e1, (by decide : 0 + 0 ≤ _), (by decide : 0 + 0 ≤ _)⟩)
  dsimp only [Pt.U, Pt.locs, Pt.cells, Pt.slots] at X2 l2 y2 z2 st2 hQ2
  subst l2 y2 z2
  obtain ⟨rfl, Nq2, e2⟩ := hQ2
  have N2 := Fr.app N1 Nq2
  obtain ⟨_, _, ⟨T3, L3, k3, n3⟩, -, X3, ⟨Lc3, hQ3, l3, y3, z3⟩, st3⟩ := Jvm.LawKit.callS X2 hx (y := Y1) hown (mvT hZ (ww hw 8 rfl)) (mvT hZ (ww hw 9 rfl)) (mvT hZ (ww hw 6 rfl)) (mvT hZ (ww hw 10 rfl)) (by decide) (backOf (W := 0) (own_c2_of l Z a0 hw u0 u1 u2 G h0 n0 O0 []) hZ (ww hw 10 rfl) (ww hw 6 rfl) (by decide) (by decide)) (g := (mkF m 33 #[vi p1, vi p2, vi p3, vi (0 : Int32), vr u0, vr u1, vu, vu, vu] [xi (1 : Int32)])) rfl (by rw [hml]; rfl) (argsL := [xi (1 : Int32)]) (rest := []) (lenOf pd1 rfl) rfl (by show 2 * 0 + _ ≤ _; exact Nat.le_of_eq rfl) (hb hby at_33) (fun _ _ => ⟨rfl, e2, (by decide : 0 + 0 ≤ _), (by decide : 0 + 0 ≤ _)⟩)
  dsimp only [Pt.U, Pt.locs, Pt.cells, Pt.slots] at X3 l3 y3 z3 st3 hQ3
  subst l3 y3 z3
  obtain ⟨rfl, Nq3, e3⟩ := hQ3
  have N3 := Fr.app N2 Nq3
  obtain ⟨_, _, ⟨T4, L4, k4, n4⟩, -, X4, ⟨Lc4, hQ4, l4, y4, z4⟩, st4⟩ := Jvm.LawKit.callS X3 hx (y := Y1) hown (mvT hZ (ww hw 8 rfl)) (mvT hZ (ww hw 9 rfl)) (mvT hZ (ww hw 6 rfl)) (mvT hZ (ww hw 10 rfl)) (by decide) (backOf (W := 1) (own_c3_of l Z a0 hw u0 u1 u2 G h0 n0 O0 []) hZ (ww hw 10 rfl) (ww hw 6 rfl) (by decide) (by decide)) (g := (mkF m 37 #[vi p1, vi p2, vi p3, vi (0 : Int32), vr u0, vr u1, vu, vu, vu] [xi (0 : Int32), xr u0])) rfl (by rw [hml]; rfl) (argsL := [xi (0 : Int32)]) (rest := [xr u0]) (lenOf pd1 rfl) rfl (by show 2 * 0 + _ ≤ _; exact Nat.le_of_eq rfl) (hb hby at_37) (fun _ _ => ⟨rfl, e3, (by decide : 0 + 0 ≤ _), (by decide : 0 + 0 ≤ _)⟩)
  dsimp only [Pt.U, Pt.locs, Pt.cells, Pt.slots] at X4 l4 y4 z4 st4 hQ4
  subst l4 y4 z4
  obtain ⟨rfl, Nq4, e4⟩ := hQ4
  have N4 := Fr.app N3 Nq4
  obtain ⟨cq5, kq5, qa5, qb5, qc5⟩ := isOf hZ e4 ((own_X_u1 G).ext O0.2)
  obtain ⟨_, _, ⟨T5, L5, k5, n5⟩, -, X5, ⟨Lc5, hQ5, l5, y5, z5⟩, st5⟩ := X4.virtualBack hx (y := Y2) (z := Y2) hown (mvT hZ (ww hw 14 rfl)) (mvT hZ (ww hw 15 rfl)) (notFace_of_selects (args := #[]) (mvT hZ (ww hw 17 rfl))) (mvT hZ (ww hw 17 rfl)) (mvT hZ (ww hw 16 rfl)) (by decide) (backOf (W := 1) (own_c4_not l Z a0 hw u0 u1 u2 G h0 n0 O0 []) hZ (ww hw 18 rfl) (ww hw 6 rfl) (by decide) (by decide)) qa5 qc5 (g := (mkF m 40 #[vi p1, vi p2, vi p3, vi (0 : Int32), vr u0, vr u1, vu, vu, vu] [xr u1, xr u0])) rfl (by rw [hml]; rfl) (Steps.refl _) (argsL := []) (rest := [xr u0]) (lenOf pd2 rfl) rfl (by show 2 * 0 + _ ≤ _; exact Nat.le_of_eq rfl) (hb hby at_40) (fun _ _ => ⟨rfl, e4, (by decide : 0 + 0 ≤ _), (by decide : 0 + 0 ≤ _)⟩)
  dsimp only [Pt.U, Pt.locs, Pt.cells, Pt.slots] at X5 l5 y5 z5 st5 hQ5
  subst l5 y5 z5
  obtain ⟨rfl, Nq5, e5⟩ := hQ5
  have N5 := Fr.app N4 Nq5
  obtain ⟨cq6, kq6, qa6, qb6, qc6⟩ := isOf hZ e5 ((own_X_u0 G).ext O0.2)
  obtain ⟨_, _, ⟨T6, L6, k6, n6⟩, -, X6, ⟨Lc6, hQ6, l6, y6, z6⟩, st6⟩ := X5.virtualBack hx (y := Y2) (z := Y2) hown (mvT hZ (ww hw 14 rfl)) (mvT hZ (ww hw 15 rfl)) (notFace_of_selects (args := #[]) (mvT hZ (ww hw 17 rfl))) (mvT hZ (ww hw 17 rfl)) (mvT hZ (ww hw 16 rfl)) (by decide) (backOf (W := 0) (own_c5_not l Z a0 hw u0 u1 u2 G h0 n0 O0 []) hZ (ww hw 18 rfl) (ww hw 6 rfl) (by decide) (by decide)) qa6 qc6 (g := (mkF m 55 #[vi p1, vi p2, vi p3, vi (0 : Int32), vr u0, vr u1, vi (1 : Int32), vu, vu] [xr u0])) rfl (by rw [hml]; rfl) (Steps.refl _) (argsL := []) (rest := []) (lenOf pd2 rfl) rfl (by show 2 * 0 + _ ≤ _; exact Nat.le_of_eq rfl) (hb hby at_55) (fun _ _ => ⟨rfl, e5, (by decide : 0 + 0 ≤ _), (by decide : 0 + 0 ≤ _)⟩)
  dsimp only [Pt.U, Pt.locs, Pt.cells, Pt.slots] at X6 l6 y6 z6 st6 hQ6
  subst l6 y6 z6
  obtain ⟨rfl, Nq6, e6⟩ := hQ6
  have N6 := Fr.app N5 Nq6
  obtain ⟨cq7, kq7, qa7, qb7, qc7⟩ := isOf hZ e6 ((own_X_u1 G).ext O0.2)
  obtain ⟨_, _, ⟨T7, L7, k7, n7⟩, -, X7, ⟨Lc7, hQ7, l7, y7, z7⟩, st7⟩ := X6.virtualBack hx (y := Y2) (z := Y2) hown (mvT hZ (ww hw 14 rfl)) (mvT hZ (ww hw 15 rfl)) (notFace_of_selects (args := #[]) (mvT hZ (ww hw 17 rfl))) (mvT hZ (ww hw 17 rfl)) (mvT hZ (ww hw 16 rfl)) (by decide) (backOf (W := 0) (own_c4_not l Z a0 hw u0 u1 u2 G h0 n0 O0 []) hZ (ww hw 18 rfl) (ww hw 6 rfl) (by decide) (by decide)) qa7 qc7 (g := (mkF m 58 #[vi p1, vi p2, vi p3, vi (0 : Int32), vr u0, vr u1, vi (1 : Int32), vu, vu] [xr u1])) rfl (by rw [hml]; rfl) (Steps.refl _) (argsL := []) (rest := []) (lenOf pd2 rfl) rfl (by show 2 * 0 + _ ≤ _; exact Nat.le_of_eq rfl) (hb hby at_58) (fun _ _ => ⟨rfl, e6, (by decide : 0 + 0 ≤ _), (by decide : 0 + 0 ≤ _)⟩)
  dsimp only [Pt.U, Pt.locs, Pt.cells, Pt.slots] at X7 l7 y7 z7 st7 hQ7
  subst l7 y7 z7
  obtain ⟨rfl, Nq7, e7⟩ := hQ7
  have N7 := Fr.app N6 Nq7
  obtain ⟨cq8, kq8, qa8, qb8, qc8⟩ := isOf hZ e7 ((own_X_u0 G).ext O0.2)
  obtain ⟨_, _, ⟨T8, L8, k8, n8⟩, -, X8, ⟨Lc8, hQ8, l8, y8, z8⟩, st8⟩ := X7.virtualBack hx (y := Y3) (z := Y3) hown (mvT hZ (ww hw 21 rfl)) (mvT hZ (ww hw 22 rfl)) (notFace_of_selects (args := #[]) (mvT hZ (ww hw 24 rfl))) (mvT hZ (ww hw 24 rfl)) (mvT hZ (ww hw 23 rfl)) (by decide) (backOf (W := 0) (own_c9_and l Z a0 hw u0 u1 u2 G h0 n0 O0 []) hZ (ww hw 25 rfl) (ww hw 6 rfl) (by decide) (by decide)) qa8 qc8 (g := (mkF m 77 #[vi p1, vi p2, vi p3, vi (0 : Int32), vr u0, vr u1, vi (1 : Int32), vi (1 : Int32), vu] [xr u1, xr u0])) rfl (by rw [hml]; rfl) (Steps.refl _) (argsL := [xr u1]) (rest := []) (lenOf pd3 rfl) rfl (by show 2 * 0 + _ ≤ _; exact Nat.le_of_eq rfl) (hb hby at_77) (fun _ _ => ⟨rfl, e7, (by decide : 0 + 0 ≤ _), (by decide : 0 + 0 ≤ _)⟩)
  dsimp only [Pt.U, Pt.locs, Pt.cells, Pt.slots] at X8 l8 y8 z8 st8 hQ8
  subst l8 y8 z8
  obtain ⟨rfl, Nq8, e8⟩ := hQ8
  have N8 := Fr.app N7 Nq8
  obtain ⟨cq9, kq9, qa9, qb9, qc9⟩ := isOf hZ e8 ((own_X_u1 G).ext O0.2)
  obtain ⟨_, _, ⟨T9, L9, k9, n9⟩, -, X9, ⟨Lc9, hQ9, l9, y9, z9⟩, st9⟩ := X8.virtualBack hx (y := Y2) (z := Y2) hown (mvT hZ (ww hw 14 rfl)) (mvT hZ (ww hw 15 rfl)) (notFace_of_selects (args := #[]) (mvT hZ (ww hw 17 rfl))) (mvT hZ (ww hw 17 rfl)) (mvT hZ (ww hw 16 rfl)) (by decide) (backOf (W := 0) (own_c4_not l Z a0 hw u0 u1 u2 G h0 n0 O0 []) hZ (ww hw 18 rfl) (ww hw 6 rfl) (by decide) (by decide)) qa9 qc9 (g := (mkF m 80 #[vi p1, vi p2, vi p3, vi (0 : Int32), vr u0, vr u1, vi (1 : Int32), vi (1 : Int32), vu] [xr u1])) rfl (by rw [hml]; rfl) (Steps.refl _) (argsL := []) (rest := []) (lenOf pd2 rfl) rfl (by show 2 * 0 + _ ≤ _; exact Nat.le_of_eq rfl) (hb hby at_80) (fun _ _ => ⟨rfl, e8, (by decide : 0 + 0 ≤ _), (by decide : 0 + 0 ≤ _)⟩)
  dsimp only [Pt.U, Pt.locs, Pt.cells, Pt.slots] at X9 l9 y9 z9 st9 hQ9
  subst l9 y9 z9
  obtain ⟨rfl, Nq9, e9⟩ := hQ9
  have N9 := Fr.app N8 Nq9
  obtain ⟨cq10, kq10, qa10, qb10, qc10⟩ := isOf hZ e9 ((own_X_u0 G).ext O0.2)
  obtain ⟨_, _, ⟨T10, L10, k10, n10⟩, -, X10, ⟨Lc10, hQ10, l10, y10, z10⟩, st10⟩ := X9.virtualBack hx (y := Y2) (z := Y2) hown (mvT hZ (ww hw 14 rfl)) (mvT hZ (ww hw 15 rfl)) (notFace_of_selects (args := #[]) (mvT hZ (ww hw 17 rfl))) (mvT hZ (ww hw 17 rfl)) (mvT hZ (ww hw 16 rfl)) (by decide) (backOf (W := 1) (own_c5_not l Z a0 hw u0 u1 u2 G h0 n0 O0 []) hZ (ww hw 18 rfl) (ww hw 6 rfl) (by decide) (by decide)) qa10 qc10 (g := (mkF m 85 #[vi p1, vi p2, vi p3, vi (0 : Int32), vr u0, vr u1, vi (1 : Int32), vi (1 : Int32), vu] [xr u0, xr u0])) rfl (by rw [hml]; rfl) (Steps.refl _) (argsL := []) (rest := [xr u0]) (lenOf pd2 rfl) rfl (by show 2 * 0 + _ ≤ _; exact Nat.le_of_eq rfl) (hb hby at_85) (fun _ _ => ⟨rfl, e9, (by decide : 0 + 0 ≤ _), (by decide : 0 + 0 ≤ _)⟩)
  dsimp only [Pt.U, Pt.locs, Pt.cells, Pt.slots] at X10 l10 y10 z10 st10 hQ10
  subst l10 y10 z10
  obtain ⟨rfl, Nq10, e10⟩ := hQ10
  have N10 := Fr.app N9 Nq10
  obtain ⟨cq11, kq11, qa11, qb11, qc11⟩ := isOf hZ e10 ((own_X_u1 G).ext O0.2)
  obtain ⟨_, _, ⟨T11, L11, k11, n11⟩, -, X11, ⟨Lc11, hQ11, l11, y11, z11⟩, st11⟩ := X10.virtualBack hx (y := Y2) (z := Y2) hown (mvT hZ (ww hw 14 rfl)) (mvT hZ (ww hw 15 rfl)) (notFace_of_selects (args := #[]) (mvT hZ (ww hw 17 rfl))) (mvT hZ (ww hw 17 rfl)) (mvT hZ (ww hw 16 rfl)) (by decide) (backOf (W := 2) (own_c4_not l Z a0 hw u0 u1 u2 G h0 n0 O0 []) hZ (ww hw 18 rfl) (ww hw 6 rfl) (by decide) (by decide)) qa11 qc11 (g := (mkF m 90 #[vi p1, vi p2, vi p3, vi (0 : Int32), vr u0, vr u1, vi (1 : Int32), vi (1 : Int32), vu] [xr u1, xr u1, xr u0])) rfl (by rw [hml]; rfl) (Steps.refl _) (argsL := []) (rest := [xr u1, xr u0]) (lenOf pd2 rfl) rfl (by show 2 * 0 + _ ≤ _; exact Nat.le_of_eq rfl) (hb hby at_90) (fun _ _ => ⟨rfl, e10, (by decide : 0 + 0 ≤ _), (by decide : 0 + 0 ≤ _)⟩)
  dsimp only [Pt.U, Pt.locs, Pt.cells, Pt.slots] at X11 l11 y11 z11 st11 hQ11
  subst l11 y11 z11
  obtain ⟨rfl, Nq11, e11⟩ := hQ11
  have N11 := Fr.app N10 Nq11
  obtain ⟨cq12, kq12, qa12, qb12, qc12⟩ := isOf hZ e11 ((own_X_u1 G).ext O0.2)
  obtain ⟨_, _, ⟨T12, L12, k12, n12⟩, -, X12, ⟨Lc12, hQ12, l12, y12, z12⟩, st12⟩ := X11.virtualBack hx (y := Y4) (z := Y4) hown (mvT hZ (ww hw 26 rfl)) (mvT hZ (ww hw 27 rfl)) (notFace_of_selects (args := #[]) (mvT hZ (ww hw 29 rfl))) (mvT hZ (ww hw 29 rfl)) (mvT hZ (ww hw 28 rfl)) (by decide) (backOf (W := 1) (own_c10_or l Z a0 hw u0 u1 u2 G h0 n0 O0 []) hZ (ww hw 30 rfl) (ww hw 6 rfl) (by decide) (by decide)) qa12 qc12 (g := (mkF m 93 #[vi p1, vi p2, vi p3, vi (0 : Int32), vr u0, vr u1, vi (1 : Int32), vi (1 : Int32), vu] [xr u0, xr u1, xr u0])) rfl (by rw [hml]; rfl) (Steps.refl _) (argsL := [xr u0]) (rest := [xr u0]) (lenOf pd3 rfl) rfl (by show 2 * 0 + _ ≤ _; exact Nat.le_of_eq rfl) (hb hby at_93) (fun _ _ => ⟨rfl, e11, (by decide : 0 + 0 ≤ _), (by decide : 0 + 0 ≤ _)⟩)
  dsimp only [Pt.U, Pt.locs, Pt.cells, Pt.slots] at X12 l12 y12 z12 st12 hQ12
  subst l12 y12 z12
  obtain ⟨rfl, Nq12, e12⟩ := hQ12
  have N12 := Fr.app N11 Nq12
  obtain ⟨fs, hr, hrun, hended, hW, hsame⟩ := X12.leave (v := some (xi (1 : Int32))) (fun h => by rw [Bd.returns] at h; cases h)
  refine ⟨_, _, pre0 _ ?_, hrun, hended, _, _, rfl, ?_, ⟨_, rfl⟩, hW, hsame.mono (by decide) (by decide)⟩
  · show own_S p e below s₁ (mkF m 0 #[vi p1, vi p2, vi p3, vu, vu, vu, vu, vu, vu] []) _
    refine XS.iloadN X0.here hx rfl (hb hby at_0) rfl ?_
    show own_S p e below s₁ (mkF m 1 #[vi p1, vi p2, vi p3, vu, vu, vu, vu, vu, vu] [xi p3]) _
    refine XS.iconst X0.here hx rfl (hb hby at_1) ?_
    show own_S p e below s₁ (mkF m 2 #[vi p1, vi p2, vi p3, vu, vu, vu, vu, vu, vu] [xi (1 : Int32), xi p3]) _
    refine XS.iand X0.here hx rfl (hb hby at_2) rfl ?_
    show own_S p e below s₁ (mkF m 3 #[vi p1, vi p2, vi p3, vu, vu, vu, vu, vu, vu] [xi (p3 &&& (1 : Int32))]) _
    refine castTop (show (mkF m 3 #[vi p1, vi p2, vi p3, vu, vu, vu, vu, vu, vu] [xi (p3 &&& (1 : Int32))]) = (mkF m 3 #[vi p1, vi p2, vi p3, vu, vu, vu, vu, vu, vu] [xi (0 : Int32)]) from by rw [as6]) ?_
    show own_S p e below s₁ (mkF m 3 #[vi p1, vi p2, vi p3, vu, vu, vu, vu, vu, vu] [xi (0 : Int32)]) _
    refine XS.ifYes X0.here hx rfl (pc0 := 3) (pc' := 10) rfl (hb hby at_3) rfl (by decide) (by decide) (by decide) ?_
    show own_S p e below s₁ (mkF m 10 #[vi p1, vi p2, vi p3, vu, vu, vu, vu, vu, vu] []) _
    refine XS.iconst X0.here hx rfl (hb hby at_10) ?_
    show own_S p e below s₁ (mkF m 11 #[vi p1, vi p2, vi p3, vu, vu, vu, vu, vu, vu] [xi (0 : Int32)]) _
    refine XS.istoreN X0.here hx rfl (hb hby at_11) rfl (l' := #[vi p1, vi p2, vi p3, vi (0 : Int32), vu, vu, vu, vu, vu]) rfl ?_
    show own_S p e below s₁ (mkF m 12 #[vi p1, vi p2, vi p3, vi (0 : Int32), vu, vu, vu, vu, vu] []) _
    refine XS.iloadN X0.here hx rfl (hb hby at_12) rfl ?_
    show own_S p e below s₁ (mkF m 13 #[vi p1, vi p2, vi p3, vi (0 : Int32), vu, vu, vu, vu, vu] [xi p1]) _
    refine st1 _ ?_
    show own_S p e below T1 (mkF m 16 #[vi p1, vi p2, vi p3, vi (0 : Int32), vu, vu, vu, vu, vu] [xr u0]) _
    refine XS.astore X1.here hx rfl (hb hby at_16) rfl rfl (l' := #[vi p1, vi p2, vi p3, vi (0 : Int32), vr u0, vu, vu, vu, vu]) rfl ?_
    show own_S p e below T1 (mkF m 18 #[vi p1, vi p2, vi p3, vi (0 : Int32), vr u0, vu, vu, vu, vu] []) _
    refine XS.iloadN X1.here hx rfl (hb hby at_18) rfl ?_
    show own_S p e below T1 (mkF m 19 #[vi p1, vi p2, vi p3, vi (0 : Int32), vr u0, vu, vu, vu, vu] [xi p2]) _
    refine st2 _ ?_
    show own_S p e below T2 (mkF m 22 #[vi p1, vi p2, vi p3, vi (0 : Int32), vr u0, vu, vu, vu, vu] [xr u1]) _
    refine XS.astore X2.here hx rfl (hb hby at_22) rfl rfl (l' := #[vi p1, vi p2, vi p3, vi (0 : Int32), vr u0, vr u1, vu, vu, vu]) rfl ?_
    show own_S p e below T2 (mkF m 24 #[vi p1, vi p2, vi p3, vi (0 : Int32), vr u0, vr u1, vu, vu, vu] []) _
    refine XS.iloadN X2.here hx rfl (hb hby at_24) rfl ?_
    show own_S p e below T2 (mkF m 25 #[vi p1, vi p2, vi p3, vi (0 : Int32), vr u0, vr u1, vu, vu, vu] [xi (0 : Int32)]) _
    refine XS.ifNo X2.here hx rfl (hb hby at_25) rfl (by decide) ?_
    show own_S p e below T2 (mkF m 28 #[vi p1, vi p2, vi p3, vi (0 : Int32), vr u0, vr u1, vu, vu, vu] []) _
    refine XS.iconst X2.here hx rfl (hb hby at_28) ?_
    show own_S p e below T2 (mkF m 29 #[vi p1, vi p2, vi p3, vi (0 : Int32), vr u0, vr u1, vu, vu, vu] [xi (1 : Int32)]) _
    refine XS.goto X2.here hx rfl (pc0 := 29) (pc' := 33) rfl (hb hby at_29) (by decide) (by decide) ?_
    show own_S p e below T2 (mkF m 33 #[vi p1, vi p2, vi p3, vi (0 : Int32), vr u0, vr u1, vu, vu, vu] [xi (1 : Int32)]) _
    refine st3 _ ?_
    show own_S p e below T3 (mkF m 36 #[vi p1, vi p2, vi p3, vi (0 : Int32), vr u0, vr u1, vu, vu, vu] [xr u0]) _
    refine XS.iloadN X3.here hx rfl (hb hby at_36) rfl ?_
    show own_S p e below T3 (mkF m 37 #[vi p1, vi p2, vi p3, vi (0 : Int32), vr u0, vr u1, vu, vu, vu] [xi (0 : Int32), xr u0]) _
    refine st4 _ ?_
    show own_S p e below T4 (mkF m 40 #[vi p1, vi p2, vi p3, vi (0 : Int32), vr u0, vr u1, vu, vu, vu] [xr u1, xr u0]) _
    refine st5.trans ?_
    show own_S p e below T5 (mkF m 43 #[vi p1, vi p2, vi p3, vi (0 : Int32), vr u0, vr u1, vu, vu, vu] [xr u0, xr u0]) _
    refine Jvm.RoadKit.acmp (g := (mkF m 43 #[vi p1, vi p2, vi p3, vi (0 : Int32), vr u0, vr u1, vu, vu, vu] [xr u0, xr u0])) X5 hx rfl rfl rfl (pc0 := 43) (pc' := 46) (same := true) rfl (hb hby at_43) rfl (decide_eq_true rfl) (by decide) (by decide) ?_
    show own_S p e below T5 (mkF m 46 #[vi p1, vi p2, vi p3, vi (0 : Int32), vr u0, vr u1, vu, vu, vu] []) _
    refine XS.iconst X5.here hx rfl (hb hby at_46) ?_
    show own_S p e below T5 (mkF m 47 #[vi p1, vi p2, vi p3, vi (0 : Int32), vr u0, vr u1, vu, vu, vu] [xi (1 : Int32)]) _
    refine XS.goto X5.here hx rfl (pc0 := 47) (pc' := 51) rfl (hb hby at_47) (by decide) (by decide) ?_
    show own_S p e below T5 (mkF m 51 #[vi p1, vi p2, vi p3, vi (0 : Int32), vr u0, vr u1, vu, vu, vu] [xi (1 : Int32)]) _
    refine XS.istore X5.here hx rfl (hb hby at_51) rfl (l' := #[vi p1, vi p2, vi p3, vi (0 : Int32), vr u0, vr u1, vi (1 : Int32), vu, vu]) rfl ?_
    show own_S p e below T5 (mkF m 53 #[vi p1, vi p2, vi p3, vi (0 : Int32), vr u0, vr u1, vi (1 : Int32), vu, vu] []) _
    refine XS.aload X5.here hx rfl (hb hby at_53) rfl rfl ?_
    show own_S p e below T5 (mkF m 55 #[vi p1, vi p2, vi p3, vi (0 : Int32), vr u0, vr u1, vi (1 : Int32), vu, vu] [xr u0]) _
    refine st6.trans ?_
    show own_S p e below T6 (mkF m 58 #[vi p1, vi p2, vi p3, vi (0 : Int32), vr u0, vr u1, vi (1 : Int32), vu, vu] [xr u1]) _
    refine st7.trans ?_
    show own_S p e below T7 (mkF m 61 #[vi p1, vi p2, vi p3, vi (0 : Int32), vr u0, vr u1, vi (1 : Int32), vu, vu] [xr u0]) _
    refine XS.aload X7.here hx rfl (hb hby at_61) rfl rfl ?_
    show own_S p e below T7 (mkF m 63 #[vi p1, vi p2, vi p3, vi (0 : Int32), vr u0, vr u1, vi (1 : Int32), vu, vu] [xr u0, xr u0]) _
    refine Jvm.RoadKit.acmp (g := (mkF m 63 #[vi p1, vi p2, vi p3, vi (0 : Int32), vr u0, vr u1, vi (1 : Int32), vu, vu] [xr u0, xr u0])) X7 hx rfl rfl rfl (pc0 := 63) (pc' := 66) (same := true) rfl (hb hby at_63) rfl (decide_eq_true rfl) (by decide) (by decide) ?_
    show own_S p e below T7 (mkF m 66 #[vi p1, vi p2, vi p3, vi (0 : Int32), vr u0, vr u1, vi (1 : Int32), vu, vu] []) _
    refine XS.iconst X7.here hx rfl (hb hby at_66) ?_
    show own_S p e below T7 (mkF m 67 #[vi p1, vi p2, vi p3, vi (0 : Int32), vr u0, vr u1, vi (1 : Int32), vu, vu] [xi (1 : Int32)]) _
    refine XS.goto X7.here hx rfl (pc0 := 67) (pc' := 71) rfl (hb hby at_67) (by decide) (by decide) ?_
    show own_S p e below T7 (mkF m 71 #[vi p1, vi p2, vi p3, vi (0 : Int32), vr u0, vr u1, vi (1 : Int32), vu, vu] [xi (1 : Int32)]) _
    refine XS.istore X7.here hx rfl (hb hby at_71) rfl (l' := #[vi p1, vi p2, vi p3, vi (0 : Int32), vr u0, vr u1, vi (1 : Int32), vi (1 : Int32), vu]) rfl ?_
    show own_S p e below T7 (mkF m 73 #[vi p1, vi p2, vi p3, vi (0 : Int32), vr u0, vr u1, vi (1 : Int32), vi (1 : Int32), vu] []) _
    refine XS.aload X7.here hx rfl (hb hby at_73) rfl rfl ?_
    show own_S p e below T7 (mkF m 75 #[vi p1, vi p2, vi p3, vi (0 : Int32), vr u0, vr u1, vi (1 : Int32), vi (1 : Int32), vu] [xr u0]) _
    refine XS.aload X7.here hx rfl (hb hby at_75) rfl rfl ?_
    show own_S p e below T7 (mkF m 77 #[vi p1, vi p2, vi p3, vi (0 : Int32), vr u0, vr u1, vi (1 : Int32), vi (1 : Int32), vu] [xr u1, xr u0]) _
    refine st8.trans ?_
    show own_S p e below T8 (mkF m 80 #[vi p1, vi p2, vi p3, vi (0 : Int32), vr u0, vr u1, vi (1 : Int32), vi (1 : Int32), vu] [xr u1]) _
    refine st9.trans ?_
    show own_S p e below T9 (mkF m 83 #[vi p1, vi p2, vi p3, vi (0 : Int32), vr u0, vr u1, vi (1 : Int32), vi (1 : Int32), vu] [xr u0]) _
    refine XS.aload X9.here hx rfl (hb hby at_83) rfl rfl ?_
    show own_S p e below T9 (mkF m 85 #[vi p1, vi p2, vi p3, vi (0 : Int32), vr u0, vr u1, vi (1 : Int32), vi (1 : Int32), vu] [xr u0, xr u0]) _
    refine st10.trans ?_
    show own_S p e below T10 (mkF m 88 #[vi p1, vi p2, vi p3, vi (0 : Int32), vr u0, vr u1, vi (1 : Int32), vi (1 : Int32), vu] [xr u1, xr u0]) _
    refine XS.aload X10.here hx rfl (hb hby at_88) rfl rfl ?_
    show own_S p e below T10 (mkF m 90 #[vi p1, vi p2, vi p3, vi (0 : Int32), vr u0, vr u1, vi (1 : Int32), vi (1 : Int32), vu] [xr u1, xr u1, xr u0]) _
    refine st11.trans ?_
    show own_S p e below T11 (mkF m 93 #[vi p1, vi p2, vi p3, vi (0 : Int32), vr u0, vr u1, vi (1 : Int32), vi (1 : Int32), vu] [xr u0, xr u1, xr u0]) _
    refine st12.trans ?_
    show own_S p e below T12 (mkF m 96 #[vi p1, vi p2, vi p3, vi (0 : Int32), vr u0, vr u1, vi (1 : Int32), vi (1 : Int32), vu] [xr u0, xr u0]) _
    refine Jvm.RoadKit.acmp (g := (mkF m 96 #[vi p1, vi p2, vi p3, vi (0 : Int32), vr u0, vr u1, vi (1 : Int32), vi (1 : Int32), vu] [xr u0, xr u0])) X12 hx rfl rfl rfl (pc0 := 96) (pc' := 99) (same := true) rfl (hb hby at_96) rfl (decide_eq_true rfl) (by decide) (by decide) ?_
    show own_S p e below T12 (mkF m 99 #[vi p1, vi p2, vi p3, vi (0 : Int32), vr u0, vr u1, vi (1 : Int32), vi (1 : Int32), vu] []) _
    refine XS.iconst X12.here hx rfl (hb hby at_99) ?_
    show own_S p e below T12 (mkF m 100 #[vi p1, vi p2, vi p3, vi (0 : Int32), vr u0, vr u1, vi (1 : Int32), vi (1 : Int32), vu] [xi (1 : Int32)]) _
    refine XS.goto X12.here hx rfl (pc0 := 100) (pc' := 104) rfl (hb hby at_100) (by decide) (by decide) ?_
    show own_S p e below T12 (mkF m 104 #[vi p1, vi p2, vi p3, vi (0 : Int32), vr u0, vr u1, vi (1 : Int32), vi (1 : Int32), vu] [xi (1 : Int32)]) _
    refine XS.istore X12.here hx rfl (hb hby at_104) rfl (l' := #[vi p1, vi p2, vi p3, vi (0 : Int32), vr u0, vr u1, vi (1 : Int32), vi (1 : Int32), vi (1 : Int32)]) rfl ?_
    show own_S p e below T12 (mkF m 106 #[vi p1, vi p2, vi p3, vi (0 : Int32), vr u0, vr u1, vi (1 : Int32), vi (1 : Int32), vi (1 : Int32)] []) _
    refine XS.iload X12.here hx rfl (hb hby at_106) rfl ?_
    show own_S p e below T12 (mkF m 108 #[vi p1, vi p2, vi p3, vi (0 : Int32), vr u0, vr u1, vi (1 : Int32), vi (1 : Int32), vi (1 : Int32)] [xi (1 : Int32)]) _
    refine XS.ifNo X12.here hx rfl (hb hby at_108) rfl (by decide) ?_
    show own_S p e below T12 (mkF m 111 #[vi p1, vi p2, vi p3, vi (0 : Int32), vr u0, vr u1, vi (1 : Int32), vi (1 : Int32), vi (1 : Int32)] []) _
    refine XS.iload X12.here hx rfl (hb hby at_111) rfl ?_
    show own_S p e below T12 (mkF m 113 #[vi p1, vi p2, vi p3, vi (0 : Int32), vr u0, vr u1, vi (1 : Int32), vi (1 : Int32), vi (1 : Int32)] [xi (1 : Int32)]) _
    refine XS.ifNo X12.here hx rfl (hb hby at_113) rfl (by decide) ?_
    show own_S p e below T12 (mkF m 116 #[vi p1, vi p2, vi p3, vi (0 : Int32), vr u0, vr u1, vi (1 : Int32), vi (1 : Int32), vi (1 : Int32)] []) _
    refine XS.iload X12.here hx rfl (hb hby at_116) rfl ?_
    show own_S p e below T12 (mkF m 118 #[vi p1, vi p2, vi p3, vi (0 : Int32), vr u0, vr u1, vi (1 : Int32), vi (1 : Int32), vi (1 : Int32)] [xi (1 : Int32)]) _
    refine XS.ifNo X12.here hx rfl (hb hby at_118) rfl (by decide) ?_
    show own_S p e below T12 (mkF m 121 #[vi p1, vi p2, vi p3, vi (0 : Int32), vr u0, vr u1, vi (1 : Int32), vi (1 : Int32), vi (1 : Int32)] []) _
    refine XS.iconst X12.here hx rfl (hb hby at_121) ?_
    show own_S p e below T12 (mkF m 122 #[vi p1, vi p2, vi p3, vi (0 : Int32), vr u0, vr u1, vi (1 : Int32), vi (1 : Int32), vi (1 : Int32)] [xi (1 : Int32)]) _
    refine XS.goto X12.here hx rfl (pc0 := 122) (pc' := 126) rfl (hb hby at_122) (by decide) (by decide) ?_
    show own_S p e below T12 (mkF m 126 #[vi p1, vi p2, vi p3, vi (0 : Int32), vr u0, vr u1, vi (1 : Int32), vi (1 : Int32), vi (1 : Int32)] [xi (1 : Int32)]) _
    exact retN X12 hx (t := .boolean) Bd.returns (by simp) (hb hby at_126) hr
  · exact ⟨rfl, N12⟩
theorem ef_own_l3 (m : MethodId) (u0 u1 u2 : Addr) (p1 : Int32) (p2 : Int32) (p3 : Int32) : entryFrame m #[xi p1, xi p2, xi p3] maxLocals = (mkF m 0 #[vi p1, vi p2, vi p3, vu, vu, vu, vu, vu, vu] []) := by first | (simp [entryFrame, mkF, argsToLocals, Value.category, maxLocals]; done) | rfl
set_option maxRecDepth 65536 in
set_option maxHeartbeats 40000000 in
theorem own_l3 (l : Launch) (Z : State) (a0 : Array Value) (hw : ∀ d ∈ tables_1, d.before a0 Z = true) (u0 u1 u2 : Addr) (G : own_St Z u0 u1 u2) (p1 : Int32) (p2 : Int32) (p3 : Int32) (as7 : (p3 &&& (1 : Int32)) = (1 : Int32)) (as0 : ((p1 &&& (2147483647 : Int32)) - ((p1 &&& (2147483647 : Int32)) / (3 : Int32)) * (3 : Int32)) = (0 : Int32)) (as4 : ((p2 &&& (2147483647 : Int32)) - ((p2 &&& (2147483647 : Int32)) / (3 : Int32)) * (3 : Int32)) = (1 : Int32)) (h0 : Heap) (n0 : Nat) (O0 : Old Z n0 h0) : own_Met l Z x code maxLocals ret room_1 #[xi p1, xi p2, xi p3] h0 (own_QL (some (xi (1 : Int32))) n0) := by
  intro ws
  refine MetFree.of_bodySF (plainFor_of_name pn0) hisR ?_
  intro p e s m args below meth c s₁ Bd hml0 hP hK
  obtain ⟨rfl, hZ, hh⟩ := hP
  have hx := Bd.exec
  have hby := Bd.bytes
  have hml : c.maxLocals = 9 := hml0
  have hown : s.vm.findClass "com/example/arbitrium/arbitrium/policy/TruthNotPinLaw" = some m.cls := findClass_of_methodNamed Bd.named
  have hnm := (name_of_methodNamed Bd.named Bd.method).1
  have X0 : Stand p l e room_1 s m #[xi p1, xi p2, xi p3] below meth c s₁ [] 0 0 := Stand.of_body Bd
  have e0 : s₁.heap = h0 := by rw [← hh, Bd.state]; rfl
  have N0 := Fr.nil n0
  have pre0 : ∀ t, Steps p.tables e below (s₁.setTop (mkF m 0 #[vi p1, vi p2, vi p3, vu, vu, vu, vu, vu, vu] [])) t → Steps p.tables e below (s₁.setTop (entryFrame m #[xi p1, xi p2, xi p3] maxLocals)) t := fun t k => castTop (ef_own_l3 m u0 u1 u2 p1 p2 p3) k
  obtain ⟨_, _, ⟨T1, L1, k1, n1⟩, -, X1, ⟨Lc1, hQ1, l1, y1, z1⟩, st1⟩ := Jvm.LawKit.callS X0 hx (y := Y0) hown (mvT hZ (ww hw 0 rfl)) (mvT hZ (ww hw 1 rfl)) (mvT hZ (ww hw 2 rfl)) (mvT hZ (ww hw 3 rfl)) (by decide) (backOf (W := 0) (own_c0_pick l Z a0 hw u0 u1 u2 G p1 as0 h0 n0 O0 []) hZ (ww hw 3 rfl) (ww hw 2 rfl) (by decide) (by decide)) (g := (mkF m 13 #[vi p1, vi p2, vi p3, vi (1 : Int32), vu, vu, vu, vu, vu] [xi p1])) rfl (by rw [hml]; rfl) (argsL := [xi p1]) (rest := []) (lenOf pd0 rfl) rfl (by show 2 * 0 + _ ≤ _; exact Nat.le_of_eq rfl) (hb hby at_13) (fun _ _ => ⟨rfl, e0, (by decide : 0 + 0 ≤ _), (by decide : 0 + 0 ≤ _)⟩)
  dsimp only [Pt.U, Pt.locs, Pt.cells, Pt.slots] at X1 l1 y1 z1 st1 hQ1
  subst l1 y1 z1
  obtain ⟨rfl, Nq1, e1⟩ := hQ1
  have N1 := Fr.app N0 Nq1
  obtain ⟨_, _, ⟨T2, L2, k2, n2⟩, -, X2, ⟨Lc2, hQ2, l2, y2, z2⟩, st2⟩ := Jvm.LawKit.callS X1 hx (y := Y0) hown (mvT hZ (ww hw 0 rfl)) (mvT hZ (ww hw 1 rfl)) (mvT hZ (ww hw 2 rfl)) (mvT hZ (ww hw 3 rfl)) (by decide) (backOf (W := 0) (own_c8_pick l Z a0 hw u0 u1 u2 G p2 as4 h0 n0 O0 []) hZ (ww hw 3 rfl) (ww hw 2 rfl) (by decide) (by decide)) (g := (mkF m 19 #[vi p1, vi p2, vi p3, vi (1 : Int32), vr u0, vu, vu, vu, vu] [xi p2])) rfl (by rw [hml]; rfl) (argsL := [xi p2]) (rest := []) (lenOf pd0 rfl) rfl (by show 2 * 0 + _ ≤ _; exact Nat.le_of_eq rfl) (hb hby at_19) (fun _ _ => ⟨rfl, e1, (by decide : 0 + 0 ≤ _), (by decide : 0 + 0 ≤ _)⟩)
  dsimp only [Pt.U, Pt.locs, Pt.cells, Pt.slots] at X2 l2 y2 z2 st2 hQ2
  subst l2 y2 z2
  obtain ⟨rfl, Nq2, e2⟩ := hQ2
  have N2 := Fr.app N1 Nq2
  obtain ⟨_, _, ⟨T3, L3, k3, n3⟩, -, X3, ⟨Lc3, hQ3, l3, y3, z3⟩, st3⟩ := Jvm.LawKit.callS X2 hx (y := Y1) hown (mvT hZ (ww hw 8 rfl)) (mvT hZ (ww hw 9 rfl)) (mvT hZ (ww hw 6 rfl)) (mvT hZ (ww hw 10 rfl)) (by decide) (backOf (W := 0) (own_c3_of l Z a0 hw u0 u1 u2 G h0 n0 O0 []) hZ (ww hw 10 rfl) (ww hw 6 rfl) (by decide) (by decide)) (g := (mkF m 33 #[vi p1, vi p2, vi p3, vi (1 : Int32), vr u0, vr u1, vu, vu, vu] [xi (0 : Int32)])) rfl (by rw [hml]; rfl) (argsL := [xi (0 : Int32)]) (rest := []) (lenOf pd1 rfl) rfl (by show 2 * 0 + _ ≤ _; exact Nat.le_of_eq rfl) (hb hby at_33) (fun _ _ => ⟨rfl, e2, (by decide : 0 + 0 ≤ _), (by decide : 0 + 0 ≤ _)⟩)
  dsimp only [Pt.U, Pt.locs, Pt.cells, Pt.slots] at X3 l3 y3 z3 st3 hQ3
  subst l3 y3 z3
  obtain ⟨rfl, Nq3, e3⟩ := hQ3
  have N3 := Fr.app N2 Nq3
  obtain ⟨_, _, ⟨T4, L4, k4, n4⟩, -, X4, ⟨Lc4, hQ4, l4, y4, z4⟩, st4⟩ := Jvm.LawKit.callS X3 hx (y := Y1) hown (mvT hZ (ww hw 8 rfl)) (mvT hZ (ww hw 9 rfl)) (mvT hZ (ww hw 6 rfl)) (mvT hZ (ww hw 10 rfl)) (by decide) (backOf (W := 1) (own_c2_of l Z a0 hw u0 u1 u2 G h0 n0 O0 []) hZ (ww hw 10 rfl) (ww hw 6 rfl) (by decide) (by decide)) (g := (mkF m 37 #[vi p1, vi p2, vi p3, vi (1 : Int32), vr u0, vr u1, vu, vu, vu] [xi (1 : Int32), xr u1])) rfl (by rw [hml]; rfl) (argsL := [xi (1 : Int32)]) (rest := [xr u1]) (lenOf pd1 rfl) rfl (by show 2 * 0 + _ ≤ _; exact Nat.le_of_eq rfl) (hb hby at_37) (fun _ _ => ⟨rfl, e3, (by decide : 0 + 0 ≤ _), (by decide : 0 + 0 ≤ _)⟩)
  dsimp only [Pt.U, Pt.locs, Pt.cells, Pt.slots] at X4 l4 y4 z4 st4 hQ4
  subst l4 y4 z4
  obtain ⟨rfl, Nq4, e4⟩ := hQ4
  have N4 := Fr.app N3 Nq4
  obtain ⟨cq5, kq5, qa5, qb5, qc5⟩ := isOf hZ e4 ((own_X_u0 G).ext O0.2)
  obtain ⟨_, _, ⟨T5, L5, k5, n5⟩, -, X5, ⟨Lc5, hQ5, l5, y5, z5⟩, st5⟩ := X4.virtualBack hx (y := Y2) (z := Y2) hown (mvT hZ (ww hw 14 rfl)) (mvT hZ (ww hw 15 rfl)) (notFace_of_selects (args := #[]) (mvT hZ (ww hw 17 rfl))) (mvT hZ (ww hw 17 rfl)) (mvT hZ (ww hw 16 rfl)) (by decide) (backOf (W := 1) (own_c5_not l Z a0 hw u0 u1 u2 G h0 n0 O0 []) hZ (ww hw 18 rfl) (ww hw 6 rfl) (by decide) (by decide)) qa5 qc5 (g := (mkF m 40 #[vi p1, vi p2, vi p3, vi (1 : Int32), vr u0, vr u1, vu, vu, vu] [xr u0, xr u1])) rfl (by rw [hml]; rfl) (Steps.refl _) (argsL := []) (rest := [xr u1]) (lenOf pd2 rfl) rfl (by show 2 * 0 + _ ≤ _; exact Nat.le_of_eq rfl) (hb hby at_40) (fun _ _ => ⟨rfl, e4, (by decide : 0 + 0 ≤ _), (by decide : 0 + 0 ≤ _)⟩)
  dsimp only [Pt.U, Pt.locs, Pt.cells, Pt.slots] at X5 l5 y5 z5 st5 hQ5
  subst l5 y5 z5
  obtain ⟨rfl, Nq5, e5⟩ := hQ5
  have N5 := Fr.app N4 Nq5
  obtain ⟨cq6, kq6, qa6, qb6, qc6⟩ := isOf hZ e5 ((own_X_u0 G).ext O0.2)
  obtain ⟨_, _, ⟨T6, L6, k6, n6⟩, -, X6, ⟨Lc6, hQ6, l6, y6, z6⟩, st6⟩ := X5.virtualBack hx (y := Y2) (z := Y2) hown (mvT hZ (ww hw 14 rfl)) (mvT hZ (ww hw 15 rfl)) (notFace_of_selects (args := #[]) (mvT hZ (ww hw 17 rfl))) (mvT hZ (ww hw 17 rfl)) (mvT hZ (ww hw 16 rfl)) (by decide) (backOf (W := 0) (own_c5_not l Z a0 hw u0 u1 u2 G h0 n0 O0 []) hZ (ww hw 18 rfl) (ww hw 6 rfl) (by decide) (by decide)) qa6 qc6 (g := (mkF m 55 #[vi p1, vi p2, vi p3, vi (1 : Int32), vr u0, vr u1, vi (1 : Int32), vu, vu] [xr u0])) rfl (by rw [hml]; rfl) (Steps.refl _) (argsL := []) (rest := []) (lenOf pd2 rfl) rfl (by show 2 * 0 + _ ≤ _; exact Nat.le_of_eq rfl) (hb hby at_55) (fun _ _ => ⟨rfl, e5, (by decide : 0 + 0 ≤ _), (by decide : 0 + 0 ≤ _)⟩)
  dsimp only [Pt.U, Pt.locs, Pt.cells, Pt.slots] at X6 l6 y6 z6 st6 hQ6
  subst l6 y6 z6
  obtain ⟨rfl, Nq6, e6⟩ := hQ6
  have N6 := Fr.app N5 Nq6
  obtain ⟨cq7, kq7, qa7, qb7, qc7⟩ := isOf hZ e6 ((own_X_u1 G).ext O0.2)
  obtain ⟨_, _, ⟨T7, L7, k7, n7⟩, -, X7, ⟨Lc7, hQ7, l7, y7, z7⟩, st7⟩ := X6.virtualBack hx (y := Y2) (z := Y2) hown (mvT hZ (ww hw 14 rfl)) (mvT hZ (ww hw 15 rfl)) (notFace_of_selects (args := #[]) (mvT hZ (ww hw 17 rfl))) (mvT hZ (ww hw 17 rfl)) (mvT hZ (ww hw 16 rfl)) (by decide) (backOf (W := 0) (own_c4_not l Z a0 hw u0 u1 u2 G h0 n0 O0 []) hZ (ww hw 18 rfl) (ww hw 6 rfl) (by decide) (by decide)) qa7 qc7 (g := (mkF m 58 #[vi p1, vi p2, vi p3, vi (1 : Int32), vr u0, vr u1, vi (1 : Int32), vu, vu] [xr u1])) rfl (by rw [hml]; rfl) (Steps.refl _) (argsL := []) (rest := []) (lenOf pd2 rfl) rfl (by show 2 * 0 + _ ≤ _; exact Nat.le_of_eq rfl) (hb hby at_58) (fun _ _ => ⟨rfl, e6, (by decide : 0 + 0 ≤ _), (by decide : 0 + 0 ≤ _)⟩)
  dsimp only [Pt.U, Pt.locs, Pt.cells, Pt.slots] at X7 l7 y7 z7 st7 hQ7
  subst l7 y7 z7
  obtain ⟨rfl, Nq7, e7⟩ := hQ7
  have N7 := Fr.app N6 Nq7
  obtain ⟨cq8, kq8, qa8, qb8, qc8⟩ := isOf hZ e7 ((own_X_u0 G).ext O0.2)
  obtain ⟨_, _, ⟨T8, L8, k8, n8⟩, -, X8, ⟨Lc8, hQ8, l8, y8, z8⟩, st8⟩ := X7.virtualBack hx (y := Y3) (z := Y3) hown (mvT hZ (ww hw 21 rfl)) (mvT hZ (ww hw 22 rfl)) (notFace_of_selects (args := #[]) (mvT hZ (ww hw 24 rfl))) (mvT hZ (ww hw 24 rfl)) (mvT hZ (ww hw 23 rfl)) (by decide) (backOf (W := 0) (own_c9_and l Z a0 hw u0 u1 u2 G h0 n0 O0 []) hZ (ww hw 25 rfl) (ww hw 6 rfl) (by decide) (by decide)) qa8 qc8 (g := (mkF m 77 #[vi p1, vi p2, vi p3, vi (1 : Int32), vr u0, vr u1, vi (1 : Int32), vi (1 : Int32), vu] [xr u1, xr u0])) rfl (by rw [hml]; rfl) (Steps.refl _) (argsL := [xr u1]) (rest := []) (lenOf pd3 rfl) rfl (by show 2 * 0 + _ ≤ _; exact Nat.le_of_eq rfl) (hb hby at_77) (fun _ _ => ⟨rfl, e7, (by decide : 0 + 0 ≤ _), (by decide : 0 + 0 ≤ _)⟩)
  dsimp only [Pt.U, Pt.locs, Pt.cells, Pt.slots] at X8 l8 y8 z8 st8 hQ8
  subst l8 y8 z8
  obtain ⟨rfl, Nq8, e8⟩ := hQ8
  have N8 := Fr.app N7 Nq8
  obtain ⟨cq9, kq9, qa9, qb9, qc9⟩ := isOf hZ e8 ((own_X_u1 G).ext O0.2)
  obtain ⟨_, _, ⟨T9, L9, k9, n9⟩, -, X9, ⟨Lc9, hQ9, l9, y9, z9⟩, st9⟩ := X8.virtualBack hx (y := Y2) (z := Y2) hown (mvT hZ (ww hw 14 rfl)) (mvT hZ (ww hw 15 rfl)) (notFace_of_selects (args := #[]) (mvT hZ (ww hw 17 rfl))) (mvT hZ (ww hw 17 rfl)) (mvT hZ (ww hw 16 rfl)) (by decide) (backOf (W := 0) (own_c4_not l Z a0 hw u0 u1 u2 G h0 n0 O0 []) hZ (ww hw 18 rfl) (ww hw 6 rfl) (by decide) (by decide)) qa9 qc9 (g := (mkF m 80 #[vi p1, vi p2, vi p3, vi (1 : Int32), vr u0, vr u1, vi (1 : Int32), vi (1 : Int32), vu] [xr u1])) rfl (by rw [hml]; rfl) (Steps.refl _) (argsL := []) (rest := []) (lenOf pd2 rfl) rfl (by show 2 * 0 + _ ≤ _; exact Nat.le_of_eq rfl) (hb hby at_80) (fun _ _ => ⟨rfl, e8, (by decide : 0 + 0 ≤ _), (by decide : 0 + 0 ≤ _)⟩)
  dsimp only [Pt.U, Pt.locs, Pt.cells, Pt.slots] at X9 l9 y9 z9 st9 hQ9
  subst l9 y9 z9
  obtain ⟨rfl, Nq9, e9⟩ := hQ9
  have N9 := Fr.app N8 Nq9
  obtain ⟨cq10, kq10, qa10, qb10, qc10⟩ := isOf hZ e9 ((own_X_u0 G).ext O0.2)
  obtain ⟨_, _, ⟨T10, L10, k10, n10⟩, -, X10, ⟨Lc10, hQ10, l10, y10, z10⟩, st10⟩ := X9.virtualBack hx (y := Y2) (z := Y2) hown (mvT hZ (ww hw 14 rfl)) (mvT hZ (ww hw 15 rfl)) (notFace_of_selects (args := #[]) (mvT hZ (ww hw 17 rfl))) (mvT hZ (ww hw 17 rfl)) (mvT hZ (ww hw 16 rfl)) (by decide) (backOf (W := 1) (own_c5_not l Z a0 hw u0 u1 u2 G h0 n0 O0 []) hZ (ww hw 18 rfl) (ww hw 6 rfl) (by decide) (by decide)) qa10 qc10 (g := (mkF m 85 #[vi p1, vi p2, vi p3, vi (1 : Int32), vr u0, vr u1, vi (1 : Int32), vi (1 : Int32), vu] [xr u0, xr u0])) rfl (by rw [hml]; rfl) (Steps.refl _) (argsL := []) (rest := [xr u0]) (lenOf pd2 rfl) rfl (by show 2 * 0 + _ ≤ _; exact Nat.le_of_eq rfl) (hb hby at_85) (fun _ _ => ⟨rfl, e9, (by decide : 0 + 0 ≤ _), (by decide : 0 + 0 ≤ _)⟩)
  dsimp only [Pt.U, Pt.locs, Pt.cells, Pt.slots] at X10 l10 y10 z10 st10 hQ10
  subst l10 y10 z10
  obtain ⟨rfl, Nq10, e10⟩ := hQ10
  have N10 := Fr.app N9 Nq10
  obtain ⟨cq11, kq11, qa11, qb11, qc11⟩ := isOf hZ e10 ((own_X_u1 G).ext O0.2)
  obtain ⟨_, _, ⟨T11, L11, k11, n11⟩, -, X11, ⟨Lc11, hQ11, l11, y11, z11⟩, st11⟩ := X10.virtualBack hx (y := Y2) (z := Y2) hown (mvT hZ (ww hw 14 rfl)) (mvT hZ (ww hw 15 rfl)) (notFace_of_selects (args := #[]) (mvT hZ (ww hw 17 rfl))) (mvT hZ (ww hw 17 rfl)) (mvT hZ (ww hw 16 rfl)) (by decide) (backOf (W := 2) (own_c4_not l Z a0 hw u0 u1 u2 G h0 n0 O0 []) hZ (ww hw 18 rfl) (ww hw 6 rfl) (by decide) (by decide)) qa11 qc11 (g := (mkF m 90 #[vi p1, vi p2, vi p3, vi (1 : Int32), vr u0, vr u1, vi (1 : Int32), vi (1 : Int32), vu] [xr u1, xr u1, xr u0])) rfl (by rw [hml]; rfl) (Steps.refl _) (argsL := []) (rest := [xr u1, xr u0]) (lenOf pd2 rfl) rfl (by show 2 * 0 + _ ≤ _; exact Nat.le_of_eq rfl) (hb hby at_90) (fun _ _ => ⟨rfl, e10, (by decide : 0 + 0 ≤ _), (by decide : 0 + 0 ≤ _)⟩)
  dsimp only [Pt.U, Pt.locs, Pt.cells, Pt.slots] at X11 l11 y11 z11 st11 hQ11
  subst l11 y11 z11
  obtain ⟨rfl, Nq11, e11⟩ := hQ11
  have N11 := Fr.app N10 Nq11
  obtain ⟨cq12, kq12, qa12, qb12, qc12⟩ := isOf hZ e11 ((own_X_u1 G).ext O0.2)
  obtain ⟨_, _, ⟨T12, L12, k12, n12⟩, -, X12, ⟨Lc12, hQ12, l12, y12, z12⟩, st12⟩ := X11.virtualBack hx (y := Y4) (z := Y4) hown (mvT hZ (ww hw 26 rfl)) (mvT hZ (ww hw 27 rfl)) (notFace_of_selects (args := #[]) (mvT hZ (ww hw 29 rfl))) (mvT hZ (ww hw 29 rfl)) (mvT hZ (ww hw 28 rfl)) (by decide) (backOf (W := 1) (own_c10_or l Z a0 hw u0 u1 u2 G h0 n0 O0 []) hZ (ww hw 30 rfl) (ww hw 6 rfl) (by decide) (by decide)) qa12 qc12 (g := (mkF m 93 #[vi p1, vi p2, vi p3, vi (1 : Int32), vr u0, vr u1, vi (1 : Int32), vi (1 : Int32), vu] [xr u0, xr u1, xr u0])) rfl (by rw [hml]; rfl) (Steps.refl _) (argsL := [xr u0]) (rest := [xr u0]) (lenOf pd3 rfl) rfl (by show 2 * 0 + _ ≤ _; exact Nat.le_of_eq rfl) (hb hby at_93) (fun _ _ => ⟨rfl, e11, (by decide : 0 + 0 ≤ _), (by decide : 0 + 0 ≤ _)⟩)
  dsimp only [Pt.U, Pt.locs, Pt.cells, Pt.slots] at X12 l12 y12 z12 st12 hQ12
  subst l12 y12 z12
  obtain ⟨rfl, Nq12, e12⟩ := hQ12
  have N12 := Fr.app N11 Nq12
  obtain ⟨fs, hr, hrun, hended, hW, hsame⟩ := X12.leave (v := some (xi (1 : Int32))) (fun h => by rw [Bd.returns] at h; cases h)
  refine ⟨_, _, pre0 _ ?_, hrun, hended, _, _, rfl, ?_, ⟨_, rfl⟩, hW, hsame.mono (by decide) (by decide)⟩
  · show own_S p e below s₁ (mkF m 0 #[vi p1, vi p2, vi p3, vu, vu, vu, vu, vu, vu] []) _
    refine XS.iloadN X0.here hx rfl (hb hby at_0) rfl ?_
    show own_S p e below s₁ (mkF m 1 #[vi p1, vi p2, vi p3, vu, vu, vu, vu, vu, vu] [xi p3]) _
    refine XS.iconst X0.here hx rfl (hb hby at_1) ?_
    show own_S p e below s₁ (mkF m 2 #[vi p1, vi p2, vi p3, vu, vu, vu, vu, vu, vu] [xi (1 : Int32), xi p3]) _
    refine XS.iand X0.here hx rfl (hb hby at_2) rfl ?_
    show own_S p e below s₁ (mkF m 3 #[vi p1, vi p2, vi p3, vu, vu, vu, vu, vu, vu] [xi (p3 &&& (1 : Int32))]) _
    refine castTop (show (mkF m 3 #[vi p1, vi p2, vi p3, vu, vu, vu, vu, vu, vu] [xi (p3 &&& (1 : Int32))]) = (mkF m 3 #[vi p1, vi p2, vi p3, vu, vu, vu, vu, vu, vu] [xi (1 : Int32)]) from by rw [as7]) ?_
    show own_S p e below s₁ (mkF m 3 #[vi p1, vi p2, vi p3, vu, vu, vu, vu, vu, vu] [xi (1 : Int32)]) _
    refine XS.ifNo X0.here hx rfl (hb hby at_3) rfl (by decide) ?_
    show own_S p e below s₁ (mkF m 6 #[vi p1, vi p2, vi p3, vu, vu, vu, vu, vu, vu] []) _
    refine XS.iconst X0.here hx rfl (hb hby at_6) ?_
    show own_S p e below s₁ (mkF m 7 #[vi p1, vi p2, vi p3, vu, vu, vu, vu, vu, vu] [xi (1 : Int32)]) _
    refine XS.goto X0.here hx rfl (pc0 := 7) (pc' := 11) rfl (hb hby at_7) (by decide) (by decide) ?_
    show own_S p e below s₁ (mkF m 11 #[vi p1, vi p2, vi p3, vu, vu, vu, vu, vu, vu] [xi (1 : Int32)]) _
    refine XS.istoreN X0.here hx rfl (hb hby at_11) rfl (l' := #[vi p1, vi p2, vi p3, vi (1 : Int32), vu, vu, vu, vu, vu]) rfl ?_
    show own_S p e below s₁ (mkF m 12 #[vi p1, vi p2, vi p3, vi (1 : Int32), vu, vu, vu, vu, vu] []) _
    refine XS.iloadN X0.here hx rfl (hb hby at_12) rfl ?_
    show own_S p e below s₁ (mkF m 13 #[vi p1, vi p2, vi p3, vi (1 : Int32), vu, vu, vu, vu, vu] [xi p1]) _
    refine st1 _ ?_
    show own_S p e below T1 (mkF m 16 #[vi p1, vi p2, vi p3, vi (1 : Int32), vu, vu, vu, vu, vu] [xr u0]) _
    refine XS.astore X1.here hx rfl (hb hby at_16) rfl rfl (l' := #[vi p1, vi p2, vi p3, vi (1 : Int32), vr u0, vu, vu, vu, vu]) rfl ?_
    show own_S p e below T1 (mkF m 18 #[vi p1, vi p2, vi p3, vi (1 : Int32), vr u0, vu, vu, vu, vu] []) _
    refine XS.iloadN X1.here hx rfl (hb hby at_18) rfl ?_
    show own_S p e below T1 (mkF m 19 #[vi p1, vi p2, vi p3, vi (1 : Int32), vr u0, vu, vu, vu, vu] [xi p2]) _
    refine st2 _ ?_
    show own_S p e below T2 (mkF m 22 #[vi p1, vi p2, vi p3, vi (1 : Int32), vr u0, vu, vu, vu, vu] [xr u1]) _
    refine XS.astore X2.here hx rfl (hb hby at_22) rfl rfl (l' := #[vi p1, vi p2, vi p3, vi (1 : Int32), vr u0, vr u1, vu, vu, vu]) rfl ?_
    show own_S p e below T2 (mkF m 24 #[vi p1, vi p2, vi p3, vi (1 : Int32), vr u0, vr u1, vu, vu, vu] []) _
    refine XS.iloadN X2.here hx rfl (hb hby at_24) rfl ?_
    show own_S p e below T2 (mkF m 25 #[vi p1, vi p2, vi p3, vi (1 : Int32), vr u0, vr u1, vu, vu, vu] [xi (1 : Int32)]) _
    refine XS.ifYes X2.here hx rfl (pc0 := 25) (pc' := 32) rfl (hb hby at_25) rfl (by decide) (by decide) (by decide) ?_
    show own_S p e below T2 (mkF m 32 #[vi p1, vi p2, vi p3, vi (1 : Int32), vr u0, vr u1, vu, vu, vu] []) _
    refine XS.iconst X2.here hx rfl (hb hby at_32) ?_
    show own_S p e below T2 (mkF m 33 #[vi p1, vi p2, vi p3, vi (1 : Int32), vr u0, vr u1, vu, vu, vu] [xi (0 : Int32)]) _
    refine st3 _ ?_
    show own_S p e below T3 (mkF m 36 #[vi p1, vi p2, vi p3, vi (1 : Int32), vr u0, vr u1, vu, vu, vu] [xr u1]) _
    refine XS.iloadN X3.here hx rfl (hb hby at_36) rfl ?_
    show own_S p e below T3 (mkF m 37 #[vi p1, vi p2, vi p3, vi (1 : Int32), vr u0, vr u1, vu, vu, vu] [xi (1 : Int32), xr u1]) _
    refine st4 _ ?_
    show own_S p e below T4 (mkF m 40 #[vi p1, vi p2, vi p3, vi (1 : Int32), vr u0, vr u1, vu, vu, vu] [xr u0, xr u1]) _
    refine st5.trans ?_
    show own_S p e below T5 (mkF m 43 #[vi p1, vi p2, vi p3, vi (1 : Int32), vr u0, vr u1, vu, vu, vu] [xr u1, xr u1]) _
    refine Jvm.RoadKit.acmp (g := (mkF m 43 #[vi p1, vi p2, vi p3, vi (1 : Int32), vr u0, vr u1, vu, vu, vu] [xr u1, xr u1])) X5 hx rfl rfl rfl (pc0 := 43) (pc' := 46) (same := true) rfl (hb hby at_43) rfl (decide_eq_true rfl) (by decide) (by decide) ?_
    show own_S p e below T5 (mkF m 46 #[vi p1, vi p2, vi p3, vi (1 : Int32), vr u0, vr u1, vu, vu, vu] []) _
    refine XS.iconst X5.here hx rfl (hb hby at_46) ?_
    show own_S p e below T5 (mkF m 47 #[vi p1, vi p2, vi p3, vi (1 : Int32), vr u0, vr u1, vu, vu, vu] [xi (1 : Int32)]) _
    refine XS.goto X5.here hx rfl (pc0 := 47) (pc' := 51) rfl (hb hby at_47) (by decide) (by decide) ?_
    show own_S p e below T5 (mkF m 51 #[vi p1, vi p2, vi p3, vi (1 : Int32), vr u0, vr u1, vu, vu, vu] [xi (1 : Int32)]) _
    refine XS.istore X5.here hx rfl (hb hby at_51) rfl (l' := #[vi p1, vi p2, vi p3, vi (1 : Int32), vr u0, vr u1, vi (1 : Int32), vu, vu]) rfl ?_
    show own_S p e below T5 (mkF m 53 #[vi p1, vi p2, vi p3, vi (1 : Int32), vr u0, vr u1, vi (1 : Int32), vu, vu] []) _
    refine XS.aload X5.here hx rfl (hb hby at_53) rfl rfl ?_
    show own_S p e below T5 (mkF m 55 #[vi p1, vi p2, vi p3, vi (1 : Int32), vr u0, vr u1, vi (1 : Int32), vu, vu] [xr u0]) _
    refine st6.trans ?_
    show own_S p e below T6 (mkF m 58 #[vi p1, vi p2, vi p3, vi (1 : Int32), vr u0, vr u1, vi (1 : Int32), vu, vu] [xr u1]) _
    refine st7.trans ?_
    show own_S p e below T7 (mkF m 61 #[vi p1, vi p2, vi p3, vi (1 : Int32), vr u0, vr u1, vi (1 : Int32), vu, vu] [xr u0]) _
    refine XS.aload X7.here hx rfl (hb hby at_61) rfl rfl ?_
    show own_S p e below T7 (mkF m 63 #[vi p1, vi p2, vi p3, vi (1 : Int32), vr u0, vr u1, vi (1 : Int32), vu, vu] [xr u0, xr u0]) _
    refine Jvm.RoadKit.acmp (g := (mkF m 63 #[vi p1, vi p2, vi p3, vi (1 : Int32), vr u0, vr u1, vi (1 : Int32), vu, vu] [xr u0, xr u0])) X7 hx rfl rfl rfl (pc0 := 63) (pc' := 66) (same := true) rfl (hb hby at_63) rfl (decide_eq_true rfl) (by decide) (by decide) ?_
    show own_S p e below T7 (mkF m 66 #[vi p1, vi p2, vi p3, vi (1 : Int32), vr u0, vr u1, vi (1 : Int32), vu, vu] []) _
    refine XS.iconst X7.here hx rfl (hb hby at_66) ?_
    show own_S p e below T7 (mkF m 67 #[vi p1, vi p2, vi p3, vi (1 : Int32), vr u0, vr u1, vi (1 : Int32), vu, vu] [xi (1 : Int32)]) _
    refine XS.goto X7.here hx rfl (pc0 := 67) (pc' := 71) rfl (hb hby at_67) (by decide) (by decide) ?_
    show own_S p e below T7 (mkF m 71 #[vi p1, vi p2, vi p3, vi (1 : Int32), vr u0, vr u1, vi (1 : Int32), vu, vu] [xi (1 : Int32)]) _
    refine XS.istore X7.here hx rfl (hb hby at_71) rfl (l' := #[vi p1, vi p2, vi p3, vi (1 : Int32), vr u0, vr u1, vi (1 : Int32), vi (1 : Int32), vu]) rfl ?_
    show own_S p e below T7 (mkF m 73 #[vi p1, vi p2, vi p3, vi (1 : Int32), vr u0, vr u1, vi (1 : Int32), vi (1 : Int32), vu] []) _
    refine XS.aload X7.here hx rfl (hb hby at_73) rfl rfl ?_
    show own_S p e below T7 (mkF m 75 #[vi p1, vi p2, vi p3, vi (1 : Int32), vr u0, vr u1, vi (1 : Int32), vi (1 : Int32), vu] [xr u0]) _
    refine XS.aload X7.here hx rfl (hb hby at_75) rfl rfl ?_
    show own_S p e below T7 (mkF m 77 #[vi p1, vi p2, vi p3, vi (1 : Int32), vr u0, vr u1, vi (1 : Int32), vi (1 : Int32), vu] [xr u1, xr u0]) _
    refine st8.trans ?_
    show own_S p e below T8 (mkF m 80 #[vi p1, vi p2, vi p3, vi (1 : Int32), vr u0, vr u1, vi (1 : Int32), vi (1 : Int32), vu] [xr u1]) _
    refine st9.trans ?_
    show own_S p e below T9 (mkF m 83 #[vi p1, vi p2, vi p3, vi (1 : Int32), vr u0, vr u1, vi (1 : Int32), vi (1 : Int32), vu] [xr u0]) _
    refine XS.aload X9.here hx rfl (hb hby at_83) rfl rfl ?_
    show own_S p e below T9 (mkF m 85 #[vi p1, vi p2, vi p3, vi (1 : Int32), vr u0, vr u1, vi (1 : Int32), vi (1 : Int32), vu] [xr u0, xr u0]) _
    refine st10.trans ?_
    show own_S p e below T10 (mkF m 88 #[vi p1, vi p2, vi p3, vi (1 : Int32), vr u0, vr u1, vi (1 : Int32), vi (1 : Int32), vu] [xr u1, xr u0]) _
    refine XS.aload X10.here hx rfl (hb hby at_88) rfl rfl ?_
    show own_S p e below T10 (mkF m 90 #[vi p1, vi p2, vi p3, vi (1 : Int32), vr u0, vr u1, vi (1 : Int32), vi (1 : Int32), vu] [xr u1, xr u1, xr u0]) _
    refine st11.trans ?_
    show own_S p e below T11 (mkF m 93 #[vi p1, vi p2, vi p3, vi (1 : Int32), vr u0, vr u1, vi (1 : Int32), vi (1 : Int32), vu] [xr u0, xr u1, xr u0]) _
    refine st12.trans ?_
    show own_S p e below T12 (mkF m 96 #[vi p1, vi p2, vi p3, vi (1 : Int32), vr u0, vr u1, vi (1 : Int32), vi (1 : Int32), vu] [xr u0, xr u0]) _
    refine Jvm.RoadKit.acmp (g := (mkF m 96 #[vi p1, vi p2, vi p3, vi (1 : Int32), vr u0, vr u1, vi (1 : Int32), vi (1 : Int32), vu] [xr u0, xr u0])) X12 hx rfl rfl rfl (pc0 := 96) (pc' := 99) (same := true) rfl (hb hby at_96) rfl (decide_eq_true rfl) (by decide) (by decide) ?_
    show own_S p e below T12 (mkF m 99 #[vi p1, vi p2, vi p3, vi (1 : Int32), vr u0, vr u1, vi (1 : Int32), vi (1 : Int32), vu] []) _
    refine XS.iconst X12.here hx rfl (hb hby at_99) ?_
    show own_S p e below T12 (mkF m 100 #[vi p1, vi p2, vi p3, vi (1 : Int32), vr u0, vr u1, vi (1 : Int32), vi (1 : Int32), vu] [xi (1 : Int32)]) _
    refine XS.goto X12.here hx rfl (pc0 := 100) (pc' := 104) rfl (hb hby at_100) (by decide) (by decide) ?_
    show own_S p e below T12 (mkF m 104 #[vi p1, vi p2, vi p3, vi (1 : Int32), vr u0, vr u1, vi (1 : Int32), vi (1 : Int32), vu] [xi (1 : Int32)]) _
    refine XS.istore X12.here hx rfl (hb hby at_104) rfl (l' := #[vi p1, vi p2, vi p3, vi (1 : Int32), vr u0, vr u1, vi (1 : Int32), vi (1 : Int32), vi (1 : Int32)]) rfl ?_
    show own_S p e below T12 (mkF m 106 #[vi p1, vi p2, vi p3, vi (1 : Int32), vr u0, vr u1, vi (1 : Int32), vi (1 : Int32), vi (1 : Int32)] []) _
    refine XS.iload X12.here hx rfl (hb hby at_106) rfl ?_
    show own_S p e below T12 (mkF m 108 #[vi p1, vi p2, vi p3, vi (1 : Int32), vr u0, vr u1, vi (1 : Int32), vi (1 : Int32), vi (1 : Int32)] [xi (1 : Int32)]) _
    refine XS.ifNo X12.here hx rfl (hb hby at_108) rfl (by decide) ?_
    show own_S p e below T12 (mkF m 111 #[vi p1, vi p2, vi p3, vi (1 : Int32), vr u0, vr u1, vi (1 : Int32), vi (1 : Int32), vi (1 : Int32)] []) _
    refine XS.iload X12.here hx rfl (hb hby at_111) rfl ?_
    show own_S p e below T12 (mkF m 113 #[vi p1, vi p2, vi p3, vi (1 : Int32), vr u0, vr u1, vi (1 : Int32), vi (1 : Int32), vi (1 : Int32)] [xi (1 : Int32)]) _
    refine XS.ifNo X12.here hx rfl (hb hby at_113) rfl (by decide) ?_
    show own_S p e below T12 (mkF m 116 #[vi p1, vi p2, vi p3, vi (1 : Int32), vr u0, vr u1, vi (1 : Int32), vi (1 : Int32), vi (1 : Int32)] []) _
    refine XS.iload X12.here hx rfl (hb hby at_116) rfl ?_
    show own_S p e below T12 (mkF m 118 #[vi p1, vi p2, vi p3, vi (1 : Int32), vr u0, vr u1, vi (1 : Int32), vi (1 : Int32), vi (1 : Int32)] [xi (1 : Int32)]) _
    refine XS.ifNo X12.here hx rfl (hb hby at_118) rfl (by decide) ?_
    show own_S p e below T12 (mkF m 121 #[vi p1, vi p2, vi p3, vi (1 : Int32), vr u0, vr u1, vi (1 : Int32), vi (1 : Int32), vi (1 : Int32)] []) _
    refine XS.iconst X12.here hx rfl (hb hby at_121) ?_
    show own_S p e below T12 (mkF m 122 #[vi p1, vi p2, vi p3, vi (1 : Int32), vr u0, vr u1, vi (1 : Int32), vi (1 : Int32), vi (1 : Int32)] [xi (1 : Int32)]) _
    refine XS.goto X12.here hx rfl (pc0 := 122) (pc' := 126) rfl (hb hby at_122) (by decide) (by decide) ?_
    show own_S p e below T12 (mkF m 126 #[vi p1, vi p2, vi p3, vi (1 : Int32), vr u0, vr u1, vi (1 : Int32), vi (1 : Int32), vi (1 : Int32)] [xi (1 : Int32)]) _
    exact retN X12 hx (t := .boolean) Bd.returns (by simp) (hb hby at_126) hr
  · exact ⟨rfl, N12⟩
theorem d1_24 : decode method_2_code 24 = .ok (.getstatic 17, 3) := by decide +kernel
theorem d1_27 : decode method_2_code 27 = .ok (.areturn, 1) := by decide +kernel
theorem ef_own_c11_pick (m : MethodId) (u0 u1 u2 : Addr) (p2 : Int32) : entryFrame m #[xi p2] 2 = (mkF m 0 #[vi p2, vu] []) := by first | (simp [entryFrame, mkF, argsToLocals, Value.category]; done) | rfl
set_option maxRecDepth 65536 in
set_option maxHeartbeats 40000000 in
theorem own_c11_pick (l : Launch) (Z : State) (a0 : Array Value) (hw : ∀ d ∈ tables_1, d.before a0 Z = true) (u0 u1 u2 : Addr) (G : own_St Z u0 u1 u2) (p2 : Int32) (as5 : ((p2 &&& (2147483647 : Int32)) - ((p2 &&& (2147483647 : Int32)) / (3 : Int32)) * (3 : Int32)) = (2 : Int32)) (h0 : Heap) (n0 : Nat) (O0 : Old Z n0 h0) : own_Met l Z Y0 method_2_code 2 (some (.object "com/example/arbitrium/arbitrium/policy/Truth")) ({ frames := 0, cells := 0, slots := 0, locals := 0 } : Room) #[xi p2] h0 (own_QR (some (xr u2)) h0 n0) := by
  intro ws
  refine MetFree.of_bodySF (plainFor_of_name pn0) hisR ?_
  intro p e s m args below meth c s₁ Bd hml0 hP hK
  obtain ⟨rfl, hZ, hh⟩ := hP
  have hx := Bd.exec
  have hby := Bd.bytes
  have hml : c.maxLocals = 2 := hml0
  have hown : s.vm.findClass "com/example/arbitrium/arbitrium/policy/TruthNotPinLaw" = some m.cls := findClass_of_methodNamed Bd.named
  have hnm := (name_of_methodNamed Bd.named Bd.method).1
  have X0 : Stand p l e ({ frames := 0, cells := 0, slots := 0, locals := 0 } : Room) s m #[xi p2] below meth c s₁ [] 0 0 := Stand.of_body Bd
  have e0 : s₁.heap = h0 := by rw [← hh, Bd.state]; rfl
  have N0 := Fr.nil n0
  have pre0 : ∀ t, Steps p.tables e below (s₁.setTop (mkF m 0 #[vi p2, vu] [])) t → Steps p.tables e below (s₁.setTop (entryFrame m #[xi p2] 2)) t := fun t k => castTop (ef_own_c11_pick m u0 u1 u2 p2) k
  obtain ⟨T1, X1, e1, st1⟩ := getS2 X0 hx hZ hown (host := "") (Or.inl (ww hw 32 rfl)) Via.refl e0 ((own_S_u2 G).ext O0.2) (g := (mkF m 24 #[vi p2, vi (2 : Int32)] [])) rfl (hb hby d1_24)
  obtain ⟨fs, hr, hrun, hended, hW, hsame⟩ := X1.leave (v := some (xr u2)) (fun h => by rw [Bd.returns] at h; cases h)
  refine ⟨_, _, pre0 _ ?_, hrun, hended, _, _, rfl, ?_, ⟨_, rfl⟩, hW, hsame.mono (by decide) (by decide)⟩
  · show own_S p e below s₁ (mkF m 0 #[vi p2, vu] []) _
    refine XS.iloadN X0.here hx rfl (hb hby d1_0) rfl ?_
    show own_S p e below s₁ (mkF m 1 #[vi p2, vu] [xi p2]) _
    refine X0.ldcI hx hown (mvT hZ (ww hw 4 rfl)) (g := (mkF m 1 #[vi p2, vu] [xi p2])) rfl (hb hby d1_1) ?_
    show own_S p e below s₁ (mkF m 3 #[vi p2, vu] [xi (2147483647 : Int32), xi p2]) _
    refine XS.iand X0.here hx rfl (hb hby d1_3) rfl ?_
    show own_S p e below s₁ (mkF m 4 #[vi p2, vu] [xi (p2 &&& (2147483647 : Int32))]) _
    show own_S p e below s₁ (mkF m 4 #[vi p2, vu] [xi (p2 &&& (2147483647 : Int32))]) _
    refine XS.iconst X0.here hx rfl (hb hby d1_4) ?_
    show own_S p e below s₁ (mkF m 5 #[vi p2, vu] [xi (3 : Int32), xi (p2 &&& (2147483647 : Int32))]) _
    refine XS.irem X0.here hx rfl (hb hby d1_5) rfl (by decide) ?_
    show own_S p e below s₁ (mkF m 6 #[vi p2, vu] [xi ((p2 &&& (2147483647 : Int32)) - ((p2 &&& (2147483647 : Int32)) / (3 : Int32)) * (3 : Int32))]) _
    refine castTop (show (mkF m 6 #[vi p2, vu] [xi ((p2 &&& (2147483647 : Int32)) - ((p2 &&& (2147483647 : Int32)) / (3 : Int32)) * (3 : Int32))]) = (mkF m 6 #[vi p2, vu] [xi (2 : Int32)]) from by rw [as5]) ?_
    show own_S p e below s₁ (mkF m 6 #[vi p2, vu] [xi (2 : Int32)]) _
    refine XS.istoreN X0.here hx rfl (hb hby d1_6) rfl (l' := #[vi p2, vi (2 : Int32)]) rfl ?_
    show own_S p e below s₁ (mkF m 7 #[vi p2, vi (2 : Int32)] []) _
    refine XS.iloadN X0.here hx rfl (hb hby d1_7) rfl ?_
    show own_S p e below s₁ (mkF m 8 #[vi p2, vi (2 : Int32)] [xi (2 : Int32)]) _
    refine XS.ifYes X0.here hx rfl (pc0 := 8) (pc' := 15) rfl (hb hby d1_8) rfl (by decide) (by decide) (by decide) ?_
    show own_S p e below s₁ (mkF m 15 #[vi p2, vi (2 : Int32)] []) _
    refine XS.iloadN X0.here hx rfl (hb hby d1_15) rfl ?_
    show own_S p e below s₁ (mkF m 16 #[vi p2, vi (2 : Int32)] [xi (2 : Int32)]) _
    refine XS.iconst X0.here hx rfl (hb hby d1_16) ?_
    show own_S p e below s₁ (mkF m 17 #[vi p2, vi (2 : Int32)] [xi (1 : Int32), xi (2 : Int32)]) _
    refine XS.icmpYes X0.here hx rfl (pc0 := 17) (pc' := 24) rfl (hb hby d1_17) rfl (by decide) (by decide) (by decide) ?_
    show own_S p e below s₁ (mkF m 24 #[vi p2, vi (2 : Int32)] []) _
    refine st1 _ ?_
    show own_S p e below T1 (mkF m 27 #[vi p2, vi (2 : Int32)] [xr u2]) _
    exact X1.areturnOut hx rfl Bd.returns rfl (hb hby d1_27) hr
  · exact ⟨rfl, N0, e1⟩
theorem own_ne_u2_u1 {Z : State} {u0 u1 u2 : Addr} (G : own_St Z u0 u1 u2) : u2 ≠ u1 := Fld.ne (own_F_u2_ordinal G) (own_F_u1_ordinal G) (by decide)
theorem d4_32 : decode prog_71_method_5_code 32 = .ok (.getstatic 10, 3) := by decide +kernel
theorem d4_35 : decode prog_71_method_5_code 35 = .ok (.goto 6, 3) := by decide +kernel
theorem ef_own_c12_and (m : MethodId) (u0 u1 u2 : Addr) : entryFrame m #[xr u0, xr u2] 2 = (mkF m 0 #[vr u0, vr u2] []) := by first | (simp [entryFrame, mkF, argsToLocals, Value.category]; done) | rfl
set_option maxRecDepth 65536 in
set_option maxHeartbeats 40000000 in
theorem own_c12_and (l : Launch) (Z : State) (a0 : Array Value) (hw : ∀ d ∈ tables_1, d.before a0 Z = true) (u0 u1 u2 : Addr) (G : own_St Z u0 u1 u2) (h0 : Heap) (n0 : Nat) (O0 : Old Z n0 h0) : own_Met l Z Y3 prog_71_method_5_code 2 (some (.object "com/example/arbitrium/arbitrium/policy/Truth")) ({ frames := 0, cells := 0, slots := 0, locals := 0 } : Room) #[xr u0, xr u2] h0 (own_QR (some (xr u2)) h0 n0) := by
  intro ws
  refine MetFree.of_bodySF (plainFor_of_name pn1) hisR ?_
  intro p e s m args below meth c s₁ Bd hml0 hP hK
  obtain ⟨rfl, hZ, hh⟩ := hP
  have hx := Bd.exec
  have hby := Bd.bytes
  have hml : c.maxLocals = 2 := hml0
  have hown : s.vm.findClass "com/example/arbitrium/arbitrium/policy/Truth" = some m.cls := findClass_of_methodNamed Bd.named
  have hnm := (name_of_methodNamed Bd.named Bd.method).1
  have X0 : Stand p l e ({ frames := 0, cells := 0, slots := 0, locals := 0 } : Room) s m #[xr u0, xr u2] below meth c s₁ [] 0 0 := Stand.of_body Bd
  have e0 : s₁.heap = h0 := by rw [← hh, Bd.state]; rfl
  have N0 := Fr.nil n0
  have pre0 : ∀ t, Steps p.tables e below (s₁.setTop (mkF m 0 #[vr u0, vr u2] [])) t → Steps p.tables e below (s₁.setTop (entryFrame m #[xr u0, xr u2] 2)) t := fun t k => castTop (ef_own_c12_and m u0 u1 u2) k
  obtain ⟨T1, X1, e1, st1⟩ := getS2 X0 hx hZ hown (host := "") (Or.inl (ww hw 12 rfl)) Via.refl e0 ((own_S_u1 G).ext O0.2) (g := (mkF m 1 #[vr u0, vr u2] [xr u0])) rfl (hb hby d4_1)
  obtain ⟨T2, X2, e2, st2⟩ := getS2 X1 hx hZ hown (host := "") (Or.inl (ww hw 12 rfl)) Via.refl e1 ((own_S_u1 G).ext O0.2) (g := (mkF m 8 #[vr u0, vr u2] [xr u2])) rfl (hb hby d4_8)
  obtain ⟨T3, X3, e3, st3⟩ := getS2 X2 hx hZ hown (host := "") (Or.inl (ww hw 19 rfl)) Via.refl e2 ((own_S_u2 G).ext O0.2) (g := (mkF m 19 #[vr u0, vr u2] [xr u0])) rfl (hb hby d4_19)
  obtain ⟨T4, X4, e4, st4⟩ := getS2 X3 hx hZ hown (host := "") (Or.inl (ww hw 19 rfl)) Via.refl e3 ((own_S_u2 G).ext O0.2) (g := (mkF m 26 #[vr u0, vr u2] [xr u2])) rfl (hb hby d4_26)
  obtain ⟨T5, X5, e5, st5⟩ := getS2 X4 hx hZ hown (host := "") (Or.inl (ww hw 19 rfl)) Via.refl e4 ((own_S_u2 G).ext O0.2) (g := (mkF m 32 #[vr u0, vr u2] [])) rfl (hb hby d4_32)
  obtain ⟨fs, hr, hrun, hended, hW, hsame⟩ := X5.leave (v := some (xr u2)) (fun h => by rw [Bd.returns] at h; cases h)
  refine ⟨_, _, pre0 _ ?_, hrun, hended, _, _, rfl, ?_, ⟨_, rfl⟩, hW, hsame.mono (by decide) (by decide)⟩
  · show own_S p e below s₁ (mkF m 0 #[vr u0, vr u2] []) _
    refine XS.aloadN X0.here hx rfl (hb hby d4_0) rfl rfl ?_
    show own_S p e below s₁ (mkF m 1 #[vr u0, vr u2] [xr u0]) _
    refine st1 _ ?_
    show own_S p e below T1 (mkF m 4 #[vr u0, vr u2] [xr u1, xr u0]) _
    refine Jvm.RoadKit.acmp (g := (mkF m 4 #[vr u0, vr u2] [xr u1, xr u0])) X1 hx rfl rfl rfl (pc0 := 4) (pc' := 7) (same := false) rfl (hb hby d4_4) rfl (own_ref (own_ne_u0_u1 G)) (by decide) (by decide) ?_
    show own_S p e below T1 (mkF m 7 #[vr u0, vr u2] []) _
    refine XS.aloadN X1.here hx rfl (hb hby d4_7) rfl rfl ?_
    show own_S p e below T1 (mkF m 8 #[vr u0, vr u2] [xr u2]) _
    refine st2 _ ?_
    show own_S p e below T2 (mkF m 11 #[vr u0, vr u2] [xr u1, xr u2]) _
    refine Jvm.RoadKit.acmp (g := (mkF m 11 #[vr u0, vr u2] [xr u1, xr u2])) X2 hx rfl rfl rfl (pc0 := 11) (pc' := 18) (same := false) rfl (hb hby d4_11) rfl (own_ref (own_ne_u2_u1 G)) (by decide) (by decide) ?_
    show own_S p e below T2 (mkF m 18 #[vr u0, vr u2] []) _
    refine XS.aloadN X2.here hx rfl (hb hby d4_18) rfl rfl ?_
    show own_S p e below T2 (mkF m 19 #[vr u0, vr u2] [xr u0]) _
    refine st3 _ ?_
    show own_S p e below T3 (mkF m 22 #[vr u0, vr u2] [xr u2, xr u0]) _
    refine Jvm.RoadKit.acmp (g := (mkF m 22 #[vr u0, vr u2] [xr u2, xr u0])) X3 hx rfl rfl rfl (pc0 := 22) (pc' := 25) (same := false) rfl (hb hby d4_22) rfl (own_ref (own_ne_u0_u2 G)) (by decide) (by decide) ?_
    show own_S p e below T3 (mkF m 25 #[vr u0, vr u2] []) _
    refine XS.aloadN X3.here hx rfl (hb hby d4_25) rfl rfl ?_
    show own_S p e below T3 (mkF m 26 #[vr u0, vr u2] [xr u2]) _
    refine st4 _ ?_
    show own_S p e below T4 (mkF m 29 #[vr u0, vr u2] [xr u2, xr u2]) _
    refine Jvm.RoadKit.acmp (g := (mkF m 29 #[vr u0, vr u2] [xr u2, xr u2])) X4 hx rfl rfl rfl (pc0 := 29) (pc' := 32) (same := true) rfl (hb hby d4_29) rfl (decide_eq_true rfl) (by decide) (by decide) ?_
    show own_S p e below T4 (mkF m 32 #[vr u0, vr u2] []) _
    refine st5 _ ?_
    show own_S p e below T5 (mkF m 35 #[vr u0, vr u2] [xr u2]) _
    refine XS.goto X5.here hx rfl (pc0 := 35) (pc' := 41) rfl (hb hby d4_35) (by decide) (by decide) ?_
    show own_S p e below T5 (mkF m 41 #[vr u0, vr u2] [xr u2]) _
    exact X5.areturnOut hx rfl Bd.returns rfl (hb hby d4_41) hr
  · exact ⟨rfl, N0, e5⟩
theorem d3_7 : decode prog_71_method_7_code 7 = .ok (.getstatic 10, 3) := by decide +kernel
theorem d3_10 : decode prog_71_method_7_code 10 = .ok (.areturn, 1) := by decide +kernel
theorem ef_own_c13_not (m : MethodId) (u0 u1 u2 : Addr) : entryFrame m #[xr u2] 1 = (mkF m 0 #[vr u2] []) := by first | (simp [entryFrame, mkF, argsToLocals, Value.category]; done) | rfl
set_option maxRecDepth 65536 in
set_option maxHeartbeats 40000000 in
theorem own_c13_not (l : Launch) (Z : State) (a0 : Array Value) (hw : ∀ d ∈ tables_1, d.before a0 Z = true) (u0 u1 u2 : Addr) (G : own_St Z u0 u1 u2) (h0 : Heap) (n0 : Nat) (O0 : Old Z n0 h0) : own_Met l Z Y2 prog_71_method_7_code 1 (some (.object "com/example/arbitrium/arbitrium/policy/Truth")) ({ frames := 0, cells := 0, slots := 0, locals := 0 } : Room) #[xr u2] h0 (own_QR (some (xr u2)) h0 n0) := by
  intro ws
  refine MetFree.of_bodySF (plainFor_of_name pn1) hisR ?_
  intro p e s m args below meth c s₁ Bd hml0 hP hK
  obtain ⟨rfl, hZ, hh⟩ := hP
  have hx := Bd.exec
  have hby := Bd.bytes
  have hml : c.maxLocals = 1 := hml0
  have hown : s.vm.findClass "com/example/arbitrium/arbitrium/policy/Truth" = some m.cls := findClass_of_methodNamed Bd.named
  have hnm := (name_of_methodNamed Bd.named Bd.method).1
  have X0 : Stand p l e ({ frames := 0, cells := 0, slots := 0, locals := 0 } : Room) s m #[xr u2] below meth c s₁ [] 0 0 := Stand.of_body Bd
  have e0 : s₁.heap = h0 := by rw [← hh, Bd.state]; rfl
  have N0 := Fr.nil n0
  have pre0 : ∀ t, Steps p.tables e below (s₁.setTop (mkF m 0 #[vr u2] [])) t → Steps p.tables e below (s₁.setTop (entryFrame m #[xr u2] 1)) t := fun t k => castTop (ef_own_c13_not m u0 u1 u2) k
  obtain ⟨T1, X1, e1, st1⟩ := getS2 X0 hx hZ hown (host := "") (Or.inl (ww hw 19 rfl)) Via.refl e0 ((own_S_u2 G).ext O0.2) (g := (mkF m 1 #[vr u2] [xr u2])) rfl (hb hby d3_1)
  obtain ⟨T2, X2, e2, st2⟩ := getS2 X1 hx hZ hown (host := "") (Or.inl (ww hw 19 rfl)) Via.refl e1 ((own_S_u2 G).ext O0.2) (g := (mkF m 7 #[vr u2] [])) rfl (hb hby d3_7)
  obtain ⟨fs, hr, hrun, hended, hW, hsame⟩ := X2.leave (v := some (xr u2)) (fun h => by rw [Bd.returns] at h; cases h)
  refine ⟨_, _, pre0 _ ?_, hrun, hended, _, _, rfl, ?_, ⟨_, rfl⟩, hW, hsame.mono (by decide) (by decide)⟩
  · show own_S p e below s₁ (mkF m 0 #[vr u2] []) _
    refine XS.aloadN X0.here hx rfl (hb hby d3_0) rfl rfl ?_
    show own_S p e below s₁ (mkF m 1 #[vr u2] [xr u2]) _
    refine st1 _ ?_
    show own_S p e below T1 (mkF m 4 #[vr u2] [xr u2, xr u2]) _
    refine Jvm.RoadKit.acmp (g := (mkF m 4 #[vr u2] [xr u2, xr u2])) X1 hx rfl rfl rfl (pc0 := 4) (pc' := 7) (same := true) rfl (hb hby d3_4) rfl (decide_eq_true rfl) (by decide) (by decide) ?_
    show own_S p e below T1 (mkF m 7 #[vr u2] []) _
    refine st2 _ ?_
    show own_S p e below T2 (mkF m 10 #[vr u2] [xr u2]) _
    exact X2.areturnOut hx rfl Bd.returns rfl (hb hby d3_10) hr
  · exact ⟨rfl, N0, e2⟩
theorem own_ne_u2_u0 {Z : State} {u0 u1 u2 : Addr} (G : own_St Z u0 u1 u2) : u2 ≠ u0 := Fld.ne (own_F_u2_ordinal G) (own_F_u0_ordinal G) (by decide)
theorem d5_32 : decode prog_71_method_6_code 32 = .ok (.getstatic 10, 3) := by decide +kernel
theorem d5_35 : decode prog_71_method_6_code 35 = .ok (.goto 6, 3) := by decide +kernel
theorem ef_own_c14_or (m : MethodId) (u0 u1 u2 : Addr) : entryFrame m #[xr u1, xr u2] 2 = (mkF m 0 #[vr u1, vr u2] []) := by first | (simp [entryFrame, mkF, argsToLocals, Value.category]; done) | rfl
set_option maxRecDepth 65536 in
set_option maxHeartbeats 40000000 in
theorem own_c14_or (l : Launch) (Z : State) (a0 : Array Value) (hw : ∀ d ∈ tables_1, d.before a0 Z = true) (u0 u1 u2 : Addr) (G : own_St Z u0 u1 u2) (h0 : Heap) (n0 : Nat) (O0 : Old Z n0 h0) : own_Met l Z Y4 prog_71_method_6_code 2 (some (.object "com/example/arbitrium/arbitrium/policy/Truth")) ({ frames := 0, cells := 0, slots := 0, locals := 0 } : Room) #[xr u1, xr u2] h0 (own_QR (some (xr u2)) h0 n0) := by
  intro ws
  refine MetFree.of_bodySF (plainFor_of_name pn1) hisR ?_
  intro p e s m args below meth c s₁ Bd hml0 hP hK
  obtain ⟨rfl, hZ, hh⟩ := hP
  have hx := Bd.exec
  have hby := Bd.bytes
  have hml : c.maxLocals = 2 := hml0
  have hown : s.vm.findClass "com/example/arbitrium/arbitrium/policy/Truth" = some m.cls := findClass_of_methodNamed Bd.named
  have hnm := (name_of_methodNamed Bd.named Bd.method).1
  have X0 : Stand p l e ({ frames := 0, cells := 0, slots := 0, locals := 0 } : Room) s m #[xr u1, xr u2] below meth c s₁ [] 0 0 := Stand.of_body Bd
  have e0 : s₁.heap = h0 := by rw [← hh, Bd.state]; rfl
  have N0 := Fr.nil n0
  have pre0 : ∀ t, Steps p.tables e below (s₁.setTop (mkF m 0 #[vr u1, vr u2] [])) t → Steps p.tables e below (s₁.setTop (entryFrame m #[xr u1, xr u2] 2)) t := fun t k => castTop (ef_own_c14_or m u0 u1 u2) k
  obtain ⟨T1, X1, e1, st1⟩ := getS2 X0 hx hZ hown (host := "") (Or.inl (ww hw 11 rfl)) Via.refl e0 ((own_S_u0 G).ext O0.2) (g := (mkF m 1 #[vr u1, vr u2] [xr u1])) rfl (hb hby d5_1)
  obtain ⟨T2, X2, e2, st2⟩ := getS2 X1 hx hZ hown (host := "") (Or.inl (ww hw 11 rfl)) Via.refl e1 ((own_S_u0 G).ext O0.2) (g := (mkF m 8 #[vr u1, vr u2] [xr u2])) rfl (hb hby d5_8)
  obtain ⟨T3, X3, e3, st3⟩ := getS2 X2 hx hZ hown (host := "") (Or.inl (ww hw 19 rfl)) Via.refl e2 ((own_S_u2 G).ext O0.2) (g := (mkF m 19 #[vr u1, vr u2] [xr u1])) rfl (hb hby d5_19)
  obtain ⟨T4, X4, e4, st4⟩ := getS2 X3 hx hZ hown (host := "") (Or.inl (ww hw 19 rfl)) Via.refl e3 ((own_S_u2 G).ext O0.2) (g := (mkF m 26 #[vr u1, vr u2] [xr u2])) rfl (hb hby d5_26)
  obtain ⟨T5, X5, e5, st5⟩ := getS2 X4 hx hZ hown (host := "") (Or.inl (ww hw 19 rfl)) Via.refl e4 ((own_S_u2 G).ext O0.2) (g := (mkF m 32 #[vr u1, vr u2] [])) rfl (hb hby d5_32)
  obtain ⟨fs, hr, hrun, hended, hW, hsame⟩ := X5.leave (v := some (xr u2)) (fun h => by rw [Bd.returns] at h; cases h)
  refine ⟨_, _, pre0 _ ?_, hrun, hended, _, _, rfl, ?_, ⟨_, rfl⟩, hW, hsame.mono (by decide) (by decide)⟩
  · show own_S p e below s₁ (mkF m 0 #[vr u1, vr u2] []) _
    refine XS.aloadN X0.here hx rfl (hb hby d5_0) rfl rfl ?_
    show own_S p e below s₁ (mkF m 1 #[vr u1, vr u2] [xr u1]) _
    refine st1 _ ?_
    show own_S p e below T1 (mkF m 4 #[vr u1, vr u2] [xr u0, xr u1]) _
    refine Jvm.RoadKit.acmp (g := (mkF m 4 #[vr u1, vr u2] [xr u0, xr u1])) X1 hx rfl rfl rfl (pc0 := 4) (pc' := 7) (same := false) rfl (hb hby d5_4) rfl (own_ref (own_ne_u1_u0 G)) (by decide) (by decide) ?_
    show own_S p e below T1 (mkF m 7 #[vr u1, vr u2] []) _
    refine XS.aloadN X1.here hx rfl (hb hby d5_7) rfl rfl ?_
    show own_S p e below T1 (mkF m 8 #[vr u1, vr u2] [xr u2]) _
    refine st2 _ ?_
    show own_S p e below T2 (mkF m 11 #[vr u1, vr u2] [xr u0, xr u2]) _
    refine Jvm.RoadKit.acmp (g := (mkF m 11 #[vr u1, vr u2] [xr u0, xr u2])) X2 hx rfl rfl rfl (pc0 := 11) (pc' := 18) (same := false) rfl (hb hby d5_11) rfl (own_ref (own_ne_u2_u0 G)) (by decide) (by decide) ?_
    show own_S p e below T2 (mkF m 18 #[vr u1, vr u2] []) _
    refine XS.aloadN X2.here hx rfl (hb hby d5_18) rfl rfl ?_
    show own_S p e below T2 (mkF m 19 #[vr u1, vr u2] [xr u1]) _
    refine st3 _ ?_
    show own_S p e below T3 (mkF m 22 #[vr u1, vr u2] [xr u2, xr u1]) _
    refine Jvm.RoadKit.acmp (g := (mkF m 22 #[vr u1, vr u2] [xr u2, xr u1])) X3 hx rfl rfl rfl (pc0 := 22) (pc' := 25) (same := false) rfl (hb hby d5_22) rfl (own_ref (own_ne_u1_u2 G)) (by decide) (by decide) ?_
    show own_S p e below T3 (mkF m 25 #[vr u1, vr u2] []) _
    refine XS.aloadN X3.here hx rfl (hb hby d5_25) rfl rfl ?_
    show own_S p e below T3 (mkF m 26 #[vr u1, vr u2] [xr u2]) _
    refine st4 _ ?_
    show own_S p e below T4 (mkF m 29 #[vr u1, vr u2] [xr u2, xr u2]) _
    refine Jvm.RoadKit.acmp (g := (mkF m 29 #[vr u1, vr u2] [xr u2, xr u2])) X4 hx rfl rfl rfl (pc0 := 29) (pc' := 32) (same := true) rfl (hb hby d5_29) rfl (decide_eq_true rfl) (by decide) (by decide) ?_
    show own_S p e below T4 (mkF m 32 #[vr u1, vr u2] []) _
    refine st5 _ ?_
    show own_S p e below T5 (mkF m 35 #[vr u1, vr u2] [xr u2]) _
    refine XS.goto X5.here hx rfl (pc0 := 35) (pc' := 41) rfl (hb hby d5_35) (by decide) (by decide) ?_
    show own_S p e below T5 (mkF m 41 #[vr u1, vr u2] [xr u2]) _
    exact X5.areturnOut hx rfl Bd.returns rfl (hb hby d5_41) hr
  · exact ⟨rfl, N0, e5⟩
theorem ef_own_l4 (m : MethodId) (u0 u1 u2 : Addr) (p1 : Int32) (p2 : Int32) (p3 : Int32) : entryFrame m #[xi p1, xi p2, xi p3] maxLocals = (mkF m 0 #[vi p1, vi p2, vi p3, vu, vu, vu, vu, vu, vu] []) := by first | (simp [entryFrame, mkF, argsToLocals, Value.category, maxLocals]; done) | rfl
set_option maxRecDepth 65536 in
set_option maxHeartbeats 40000000 in
theorem own_l4 (l : Launch) (Z : State) (a0 : Array Value) (hw : ∀ d ∈ tables_1, d.before a0 Z = true) (u0 u1 u2 : Addr) (G : own_St Z u0 u1 u2) (p1 : Int32) (p2 : Int32) (p3 : Int32) (as6 : (p3 &&& (1 : Int32)) = (0 : Int32)) (as0 : ((p1 &&& (2147483647 : Int32)) - ((p1 &&& (2147483647 : Int32)) / (3 : Int32)) * (3 : Int32)) = (0 : Int32)) (as5 : ((p2 &&& (2147483647 : Int32)) - ((p2 &&& (2147483647 : Int32)) / (3 : Int32)) * (3 : Int32)) = (2 : Int32)) (h0 : Heap) (n0 : Nat) (O0 : Old Z n0 h0) : own_Met l Z x code maxLocals ret room_1 #[xi p1, xi p2, xi p3] h0 (own_QL (some (xi (1 : Int32))) n0) := by
  intro ws
  refine MetFree.of_bodySF (plainFor_of_name pn0) hisR ?_
  intro p e s m args below meth c s₁ Bd hml0 hP hK
  obtain ⟨rfl, hZ, hh⟩ := hP
  have hx := Bd.exec
  have hby := Bd.bytes
  have hml : c.maxLocals = 9 := hml0
  have hown : s.vm.findClass "com/example/arbitrium/arbitrium/policy/TruthNotPinLaw" = some m.cls := findClass_of_methodNamed Bd.named
  have hnm := (name_of_methodNamed Bd.named Bd.method).1
  have X0 : Stand p l e room_1 s m #[xi p1, xi p2, xi p3] below meth c s₁ [] 0 0 := Stand.of_body Bd
  have e0 : s₁.heap = h0 := by rw [← hh, Bd.state]; rfl
  have N0 := Fr.nil n0
  have pre0 : ∀ t, Steps p.tables e below (s₁.setTop (mkF m 0 #[vi p1, vi p2, vi p3, vu, vu, vu, vu, vu, vu] [])) t → Steps p.tables e below (s₁.setTop (entryFrame m #[xi p1, xi p2, xi p3] maxLocals)) t := fun t k => castTop (ef_own_l4 m u0 u1 u2 p1 p2 p3) k
  obtain ⟨_, _, ⟨T1, L1, k1, n1⟩, -, X1, ⟨Lc1, hQ1, l1, y1, z1⟩, st1⟩ := Jvm.LawKit.callS X0 hx (y := Y0) hown (mvT hZ (ww hw 0 rfl)) (mvT hZ (ww hw 1 rfl)) (mvT hZ (ww hw 2 rfl)) (mvT hZ (ww hw 3 rfl)) (by decide) (backOf (W := 0) (own_c0_pick l Z a0 hw u0 u1 u2 G p1 as0 h0 n0 O0 []) hZ (ww hw 3 rfl) (ww hw 2 rfl) (by decide) (by decide)) (g := (mkF m 13 #[vi p1, vi p2, vi p3, vi (0 : Int32), vu, vu, vu, vu, vu] [xi p1])) rfl (by rw [hml]; rfl) (argsL := [xi p1]) (rest := []) (lenOf pd0 rfl) rfl (by show 2 * 0 + _ ≤ _; exact Nat.le_of_eq rfl) (hb hby at_13) (fun _ _ => ⟨rfl, e0, (by decide : 0 + 0 ≤ _), (by decide : 0 + 0 ≤ _)⟩)
  dsimp only [Pt.U, Pt.locs, Pt.cells, Pt.slots] at X1 l1 y1 z1 st1 hQ1
  subst l1 y1 z1
  obtain ⟨rfl, Nq1, e1⟩ := hQ1
  have N1 := Fr.app N0 Nq1
  obtain ⟨_, _, ⟨T2, L2, k2, n2⟩, -, X2, ⟨Lc2, hQ2, l2, y2, z2⟩, st2⟩ := Jvm.LawKit.callS X1 hx (y := Y0) hown (mvT hZ (ww hw 0 rfl)) (mvT hZ (ww hw 1 rfl)) (mvT hZ (ww hw 2 rfl)) (mvT hZ (ww hw 3 rfl)) (by decide) (backOf (W := 0) (own_c11_pick l Z a0 hw u0 u1 u2 G p2 as5 h0 n0 O0 []) hZ (ww hw 3 rfl) (ww hw 2 rfl) (by decide) (by decide)) (g := (mkF m 19 #[vi p1, vi p2, vi p3, vi (0 : Int32), vr u0, vu, vu, vu, vu] [xi p2])) rfl (by rw [hml]; rfl) (argsL := [xi p2]) (rest := []) (lenOf pd0 rfl) rfl (by show 2 * 0 + _ ≤ _; exact Nat.le_of_eq rfl) (hb hby at_19) (fun _ _ => ⟨rfl, e1, (by decide : 0 + 0 ≤ _), (by decide : 0 + 0 ≤ _)⟩)
  dsimp only [Pt.U, Pt.locs, Pt.cells, Pt.slots] at X2 l2 y2 z2 st2 hQ2
  subst l2 y2 z2
  obtain ⟨rfl, Nq2, e2⟩ := hQ2
  have N2 := Fr.app N1 Nq2
  obtain ⟨_, _, ⟨T3, L3, k3, n3⟩, -, X3, ⟨Lc3, hQ3, l3, y3, z3⟩, st3⟩ := Jvm.LawKit.callS X2 hx (y := Y1) hown (mvT hZ (ww hw 8 rfl)) (mvT hZ (ww hw 9 rfl)) (mvT hZ (ww hw 6 rfl)) (mvT hZ (ww hw 10 rfl)) (by decide) (backOf (W := 0) (own_c2_of l Z a0 hw u0 u1 u2 G h0 n0 O0 []) hZ (ww hw 10 rfl) (ww hw 6 rfl) (by decide) (by decide)) (g := (mkF m 33 #[vi p1, vi p2, vi p3, vi (0 : Int32), vr u0, vr u2, vu, vu, vu] [xi (1 : Int32)])) rfl (by rw [hml]; rfl) (argsL := [xi (1 : Int32)]) (rest := []) (lenOf pd1 rfl) rfl (by show 2 * 0 + _ ≤ _; exact Nat.le_of_eq rfl) (hb hby at_33) (fun _ _ => ⟨rfl, e2, (by decide : 0 + 0 ≤ _), (by decide : 0 + 0 ≤ _)⟩)
  dsimp only [Pt.U, Pt.locs, Pt.cells, Pt.slots] at X3 l3 y3 z3 st3 hQ3
  subst l3 y3 z3
  obtain ⟨rfl, Nq3, e3⟩ := hQ3
  have N3 := Fr.app N2 Nq3
  obtain ⟨_, _, ⟨T4, L4, k4, n4⟩, -, X4, ⟨Lc4, hQ4, l4, y4, z4⟩, st4⟩ := Jvm.LawKit.callS X3 hx (y := Y1) hown (mvT hZ (ww hw 8 rfl)) (mvT hZ (ww hw 9 rfl)) (mvT hZ (ww hw 6 rfl)) (mvT hZ (ww hw 10 rfl)) (by decide) (backOf (W := 1) (own_c3_of l Z a0 hw u0 u1 u2 G h0 n0 O0 []) hZ (ww hw 10 rfl) (ww hw 6 rfl) (by decide) (by decide)) (g := (mkF m 37 #[vi p1, vi p2, vi p3, vi (0 : Int32), vr u0, vr u2, vu, vu, vu] [xi (0 : Int32), xr u0])) rfl (by rw [hml]; rfl) (argsL := [xi (0 : Int32)]) (rest := [xr u0]) (lenOf pd1 rfl) rfl (by show 2 * 0 + _ ≤ _; exact Nat.le_of_eq rfl) (hb hby at_37) (fun _ _ => ⟨rfl, e3, (by decide : 0 + 0 ≤ _), (by decide : 0 + 0 ≤ _)⟩)
  dsimp only [Pt.U, Pt.locs, Pt.cells, Pt.slots] at X4 l4 y4 z4 st4 hQ4
  subst l4 y4 z4
  obtain ⟨rfl, Nq4, e4⟩ := hQ4
  have N4 := Fr.app N3 Nq4
  obtain ⟨cq5, kq5, qa5, qb5, qc5⟩ := isOf hZ e4 ((own_X_u1 G).ext O0.2)
  obtain ⟨_, _, ⟨T5, L5, k5, n5⟩, -, X5, ⟨Lc5, hQ5, l5, y5, z5⟩, st5⟩ := X4.virtualBack hx (y := Y2) (z := Y2) hown (mvT hZ (ww hw 14 rfl)) (mvT hZ (ww hw 15 rfl)) (notFace_of_selects (args := #[]) (mvT hZ (ww hw 17 rfl))) (mvT hZ (ww hw 17 rfl)) (mvT hZ (ww hw 16 rfl)) (by decide) (backOf (W := 1) (own_c4_not l Z a0 hw u0 u1 u2 G h0 n0 O0 []) hZ (ww hw 18 rfl) (ww hw 6 rfl) (by decide) (by decide)) qa5 qc5 (g := (mkF m 40 #[vi p1, vi p2, vi p3, vi (0 : Int32), vr u0, vr u2, vu, vu, vu] [xr u1, xr u0])) rfl (by rw [hml]; rfl) (Steps.refl _) (argsL := []) (rest := [xr u0]) (lenOf pd2 rfl) rfl (by show 2 * 0 + _ ≤ _; exact Nat.le_of_eq rfl) (hb hby at_40) (fun _ _ => ⟨rfl, e4, (by decide : 0 + 0 ≤ _), (by decide : 0 + 0 ≤ _)⟩)
  dsimp only [Pt.U, Pt.locs, Pt.cells, Pt.slots] at X5 l5 y5 z5 st5 hQ5
  subst l5 y5 z5
  obtain ⟨rfl, Nq5, e5⟩ := hQ5
  have N5 := Fr.app N4 Nq5
  obtain ⟨cq6, kq6, qa6, qb6, qc6⟩ := isOf hZ e5 ((own_X_u0 G).ext O0.2)
  obtain ⟨_, _, ⟨T6, L6, k6, n6⟩, -, X6, ⟨Lc6, hQ6, l6, y6, z6⟩, st6⟩ := X5.virtualBack hx (y := Y2) (z := Y2) hown (mvT hZ (ww hw 14 rfl)) (mvT hZ (ww hw 15 rfl)) (notFace_of_selects (args := #[]) (mvT hZ (ww hw 17 rfl))) (mvT hZ (ww hw 17 rfl)) (mvT hZ (ww hw 16 rfl)) (by decide) (backOf (W := 0) (own_c5_not l Z a0 hw u0 u1 u2 G h0 n0 O0 []) hZ (ww hw 18 rfl) (ww hw 6 rfl) (by decide) (by decide)) qa6 qc6 (g := (mkF m 55 #[vi p1, vi p2, vi p3, vi (0 : Int32), vr u0, vr u2, vi (1 : Int32), vu, vu] [xr u0])) rfl (by rw [hml]; rfl) (Steps.refl _) (argsL := []) (rest := []) (lenOf pd2 rfl) rfl (by show 2 * 0 + _ ≤ _; exact Nat.le_of_eq rfl) (hb hby at_55) (fun _ _ => ⟨rfl, e5, (by decide : 0 + 0 ≤ _), (by decide : 0 + 0 ≤ _)⟩)
  dsimp only [Pt.U, Pt.locs, Pt.cells, Pt.slots] at X6 l6 y6 z6 st6 hQ6
  subst l6 y6 z6
  obtain ⟨rfl, Nq6, e6⟩ := hQ6
  have N6 := Fr.app N5 Nq6
  obtain ⟨cq7, kq7, qa7, qb7, qc7⟩ := isOf hZ e6 ((own_X_u1 G).ext O0.2)
  obtain ⟨_, _, ⟨T7, L7, k7, n7⟩, -, X7, ⟨Lc7, hQ7, l7, y7, z7⟩, st7⟩ := X6.virtualBack hx (y := Y2) (z := Y2) hown (mvT hZ (ww hw 14 rfl)) (mvT hZ (ww hw 15 rfl)) (notFace_of_selects (args := #[]) (mvT hZ (ww hw 17 rfl))) (mvT hZ (ww hw 17 rfl)) (mvT hZ (ww hw 16 rfl)) (by decide) (backOf (W := 0) (own_c4_not l Z a0 hw u0 u1 u2 G h0 n0 O0 []) hZ (ww hw 18 rfl) (ww hw 6 rfl) (by decide) (by decide)) qa7 qc7 (g := (mkF m 58 #[vi p1, vi p2, vi p3, vi (0 : Int32), vr u0, vr u2, vi (1 : Int32), vu, vu] [xr u1])) rfl (by rw [hml]; rfl) (Steps.refl _) (argsL := []) (rest := []) (lenOf pd2 rfl) rfl (by show 2 * 0 + _ ≤ _; exact Nat.le_of_eq rfl) (hb hby at_58) (fun _ _ => ⟨rfl, e6, (by decide : 0 + 0 ≤ _), (by decide : 0 + 0 ≤ _)⟩)
  dsimp only [Pt.U, Pt.locs, Pt.cells, Pt.slots] at X7 l7 y7 z7 st7 hQ7
  subst l7 y7 z7
  obtain ⟨rfl, Nq7, e7⟩ := hQ7
  have N7 := Fr.app N6 Nq7
  obtain ⟨cq8, kq8, qa8, qb8, qc8⟩ := isOf hZ e7 ((own_X_u0 G).ext O0.2)
  obtain ⟨_, _, ⟨T8, L8, k8, n8⟩, -, X8, ⟨Lc8, hQ8, l8, y8, z8⟩, st8⟩ := X7.virtualBack hx (y := Y3) (z := Y3) hown (mvT hZ (ww hw 21 rfl)) (mvT hZ (ww hw 22 rfl)) (notFace_of_selects (args := #[]) (mvT hZ (ww hw 24 rfl))) (mvT hZ (ww hw 24 rfl)) (mvT hZ (ww hw 23 rfl)) (by decide) (backOf (W := 0) (own_c12_and l Z a0 hw u0 u1 u2 G h0 n0 O0 []) hZ (ww hw 25 rfl) (ww hw 6 rfl) (by decide) (by decide)) qa8 qc8 (g := (mkF m 77 #[vi p1, vi p2, vi p3, vi (0 : Int32), vr u0, vr u2, vi (1 : Int32), vi (1 : Int32), vu] [xr u2, xr u0])) rfl (by rw [hml]; rfl) (Steps.refl _) (argsL := [xr u2]) (rest := []) (lenOf pd3 rfl) rfl (by show 2 * 0 + _ ≤ _; exact Nat.le_of_eq rfl) (hb hby at_77) (fun _ _ => ⟨rfl, e7, (by decide : 0 + 0 ≤ _), (by decide : 0 + 0 ≤ _)⟩)
  dsimp only [Pt.U, Pt.locs, Pt.cells, Pt.slots] at X8 l8 y8 z8 st8 hQ8
  subst l8 y8 z8
  obtain ⟨rfl, Nq8, e8⟩ := hQ8
  have N8 := Fr.app N7 Nq8
  obtain ⟨cq9, kq9, qa9, qb9, qc9⟩ := isOf hZ e8 ((own_X_u2 G).ext O0.2)
  obtain ⟨_, _, ⟨T9, L9, k9, n9⟩, -, X9, ⟨Lc9, hQ9, l9, y9, z9⟩, st9⟩ := X8.virtualBack hx (y := Y2) (z := Y2) hown (mvT hZ (ww hw 14 rfl)) (mvT hZ (ww hw 15 rfl)) (notFace_of_selects (args := #[]) (mvT hZ (ww hw 17 rfl))) (mvT hZ (ww hw 17 rfl)) (mvT hZ (ww hw 16 rfl)) (by decide) (backOf (W := 0) (own_c13_not l Z a0 hw u0 u1 u2 G h0 n0 O0 []) hZ (ww hw 18 rfl) (ww hw 6 rfl) (by decide) (by decide)) qa9 qc9 (g := (mkF m 80 #[vi p1, vi p2, vi p3, vi (0 : Int32), vr u0, vr u2, vi (1 : Int32), vi (1 : Int32), vu] [xr u2])) rfl (by rw [hml]; rfl) (Steps.refl _) (argsL := []) (rest := []) (lenOf pd2 rfl) rfl (by show 2 * 0 + _ ≤ _; exact Nat.le_of_eq rfl) (hb hby at_80) (fun _ _ => ⟨rfl, e8, (by decide : 0 + 0 ≤ _), (by decide : 0 + 0 ≤ _)⟩)
  dsimp only [Pt.U, Pt.locs, Pt.cells, Pt.slots] at X9 l9 y9 z9 st9 hQ9
  subst l9 y9 z9
  obtain ⟨rfl, Nq9, e9⟩ := hQ9
  have N9 := Fr.app N8 Nq9
  obtain ⟨cq10, kq10, qa10, qb10, qc10⟩ := isOf hZ e9 ((own_X_u0 G).ext O0.2)
  obtain ⟨_, _, ⟨T10, L10, k10, n10⟩, -, X10, ⟨Lc10, hQ10, l10, y10, z10⟩, st10⟩ := X9.virtualBack hx (y := Y2) (z := Y2) hown (mvT hZ (ww hw 14 rfl)) (mvT hZ (ww hw 15 rfl)) (notFace_of_selects (args := #[]) (mvT hZ (ww hw 17 rfl))) (mvT hZ (ww hw 17 rfl)) (mvT hZ (ww hw 16 rfl)) (by decide) (backOf (W := 1) (own_c5_not l Z a0 hw u0 u1 u2 G h0 n0 O0 []) hZ (ww hw 18 rfl) (ww hw 6 rfl) (by decide) (by decide)) qa10 qc10 (g := (mkF m 85 #[vi p1, vi p2, vi p3, vi (0 : Int32), vr u0, vr u2, vi (1 : Int32), vi (1 : Int32), vu] [xr u0, xr u2])) rfl (by rw [hml]; rfl) (Steps.refl _) (argsL := []) (rest := [xr u2]) (lenOf pd2 rfl) rfl (by show 2 * 0 + _ ≤ _; exact Nat.le_of_eq rfl) (hb hby at_85) (fun _ _ => ⟨rfl, e9, (by decide : 0 + 0 ≤ _), (by decide : 0 + 0 ≤ _)⟩)
  dsimp only [Pt.U, Pt.locs, Pt.cells, Pt.slots] at X10 l10 y10 z10 st10 hQ10
  subst l10 y10 z10
  obtain ⟨rfl, Nq10, e10⟩ := hQ10
  have N10 := Fr.app N9 Nq10
  obtain ⟨cq11, kq11, qa11, qb11, qc11⟩ := isOf hZ e10 ((own_X_u2 G).ext O0.2)
  obtain ⟨_, _, ⟨T11, L11, k11, n11⟩, -, X11, ⟨Lc11, hQ11, l11, y11, z11⟩, st11⟩ := X10.virtualBack hx (y := Y2) (z := Y2) hown (mvT hZ (ww hw 14 rfl)) (mvT hZ (ww hw 15 rfl)) (notFace_of_selects (args := #[]) (mvT hZ (ww hw 17 rfl))) (mvT hZ (ww hw 17 rfl)) (mvT hZ (ww hw 16 rfl)) (by decide) (backOf (W := 2) (own_c13_not l Z a0 hw u0 u1 u2 G h0 n0 O0 []) hZ (ww hw 18 rfl) (ww hw 6 rfl) (by decide) (by decide)) qa11 qc11 (g := (mkF m 90 #[vi p1, vi p2, vi p3, vi (0 : Int32), vr u0, vr u2, vi (1 : Int32), vi (1 : Int32), vu] [xr u2, xr u1, xr u2])) rfl (by rw [hml]; rfl) (Steps.refl _) (argsL := []) (rest := [xr u1, xr u2]) (lenOf pd2 rfl) rfl (by show 2 * 0 + _ ≤ _; exact Nat.le_of_eq rfl) (hb hby at_90) (fun _ _ => ⟨rfl, e10, (by decide : 0 + 0 ≤ _), (by decide : 0 + 0 ≤ _)⟩)
  dsimp only [Pt.U, Pt.locs, Pt.cells, Pt.slots] at X11 l11 y11 z11 st11 hQ11
  subst l11 y11 z11
  obtain ⟨rfl, Nq11, e11⟩ := hQ11
  have N11 := Fr.app N10 Nq11
  obtain ⟨cq12, kq12, qa12, qb12, qc12⟩ := isOf hZ e11 ((own_X_u1 G).ext O0.2)
  obtain ⟨_, _, ⟨T12, L12, k12, n12⟩, -, X12, ⟨Lc12, hQ12, l12, y12, z12⟩, st12⟩ := X11.virtualBack hx (y := Y4) (z := Y4) hown (mvT hZ (ww hw 26 rfl)) (mvT hZ (ww hw 27 rfl)) (notFace_of_selects (args := #[]) (mvT hZ (ww hw 29 rfl))) (mvT hZ (ww hw 29 rfl)) (mvT hZ (ww hw 28 rfl)) (by decide) (backOf (W := 1) (own_c14_or l Z a0 hw u0 u1 u2 G h0 n0 O0 []) hZ (ww hw 30 rfl) (ww hw 6 rfl) (by decide) (by decide)) qa12 qc12 (g := (mkF m 93 #[vi p1, vi p2, vi p3, vi (0 : Int32), vr u0, vr u2, vi (1 : Int32), vi (1 : Int32), vu] [xr u2, xr u1, xr u2])) rfl (by rw [hml]; rfl) (Steps.refl _) (argsL := [xr u2]) (rest := [xr u2]) (lenOf pd3 rfl) rfl (by show 2 * 0 + _ ≤ _; exact Nat.le_of_eq rfl) (hb hby at_93) (fun _ _ => ⟨rfl, e11, (by decide : 0 + 0 ≤ _), (by decide : 0 + 0 ≤ _)⟩)
  dsimp only [Pt.U, Pt.locs, Pt.cells, Pt.slots] at X12 l12 y12 z12 st12 hQ12
  subst l12 y12 z12
  obtain ⟨rfl, Nq12, e12⟩ := hQ12
  have N12 := Fr.app N11 Nq12
  obtain ⟨fs, hr, hrun, hended, hW, hsame⟩ := X12.leave (v := some (xi (1 : Int32))) (fun h => by rw [Bd.returns] at h; cases h)
  refine ⟨_, _, pre0 _ ?_, hrun, hended, _, _, rfl, ?_, ⟨_, rfl⟩, hW, hsame.mono (by decide) (by decide)⟩
  · show own_S p e below s₁ (mkF m 0 #[vi p1, vi p2, vi p3, vu, vu, vu, vu, vu, vu] []) _
    refine XS.iloadN X0.here hx rfl (hb hby at_0) rfl ?_
    show own_S p e below s₁ (mkF m 1 #[vi p1, vi p2, vi p3, vu, vu, vu, vu, vu, vu] [xi p3]) _
    refine XS.iconst X0.here hx rfl (hb hby at_1) ?_
    show own_S p e below s₁ (mkF m 2 #[vi p1, vi p2, vi p3, vu, vu, vu, vu, vu, vu] [xi (1 : Int32), xi p3]) _
    refine XS.iand X0.here hx rfl (hb hby at_2) rfl ?_
    show own_S p e below s₁ (mkF m 3 #[vi p1, vi p2, vi p3, vu, vu, vu, vu, vu, vu] [xi (p3 &&& (1 : Int32))]) _
    refine castTop (show (mkF m 3 #[vi p1, vi p2, vi p3, vu, vu, vu, vu, vu, vu] [xi (p3 &&& (1 : Int32))]) = (mkF m 3 #[vi p1, vi p2, vi p3, vu, vu, vu, vu, vu, vu] [xi (0 : Int32)]) from by rw [as6]) ?_
    show own_S p e below s₁ (mkF m 3 #[vi p1, vi p2, vi p3, vu, vu, vu, vu, vu, vu] [xi (0 : Int32)]) _
    refine XS.ifYes X0.here hx rfl (pc0 := 3) (pc' := 10) rfl (hb hby at_3) rfl (by decide) (by decide) (by decide) ?_
    show own_S p e below s₁ (mkF m 10 #[vi p1, vi p2, vi p3, vu, vu, vu, vu, vu, vu] []) _
    refine XS.iconst X0.here hx rfl (hb hby at_10) ?_
    show own_S p e below s₁ (mkF m 11 #[vi p1, vi p2, vi p3, vu, vu, vu, vu, vu, vu] [xi (0 : Int32)]) _
    refine XS.istoreN X0.here hx rfl (hb hby at_11) rfl (l' := #[vi p1, vi p2, vi p3, vi (0 : Int32), vu, vu, vu, vu, vu]) rfl ?_
    show own_S p e below s₁ (mkF m 12 #[vi p1, vi p2, vi p3, vi (0 : Int32), vu, vu, vu, vu, vu] []) _
    refine XS.iloadN X0.here hx rfl (hb hby at_12) rfl ?_
    show own_S p e below s₁ (mkF m 13 #[vi p1, vi p2, vi p3, vi (0 : Int32), vu, vu, vu, vu, vu] [xi p1]) _
    refine st1 _ ?_
    show own_S p e below T1 (mkF m 16 #[vi p1, vi p2, vi p3, vi (0 : Int32), vu, vu, vu, vu, vu] [xr u0]) _
    refine XS.astore X1.here hx rfl (hb hby at_16) rfl rfl (l' := #[vi p1, vi p2, vi p3, vi (0 : Int32), vr u0, vu, vu, vu, vu]) rfl ?_
    show own_S p e below T1 (mkF m 18 #[vi p1, vi p2, vi p3, vi (0 : Int32), vr u0, vu, vu, vu, vu] []) _
    refine XS.iloadN X1.here hx rfl (hb hby at_18) rfl ?_
    show own_S p e below T1 (mkF m 19 #[vi p1, vi p2, vi p3, vi (0 : Int32), vr u0, vu, vu, vu, vu] [xi p2]) _
    refine st2 _ ?_
    show own_S p e below T2 (mkF m 22 #[vi p1, vi p2, vi p3, vi (0 : Int32), vr u0, vu, vu, vu, vu] [xr u2]) _
    refine XS.astore X2.here hx rfl (hb hby at_22) rfl rfl (l' := #[vi p1, vi p2, vi p3, vi (0 : Int32), vr u0, vr u2, vu, vu, vu]) rfl ?_
    show own_S p e below T2 (mkF m 24 #[vi p1, vi p2, vi p3, vi (0 : Int32), vr u0, vr u2, vu, vu, vu] []) _
    refine XS.iloadN X2.here hx rfl (hb hby at_24) rfl ?_
    show own_S p e below T2 (mkF m 25 #[vi p1, vi p2, vi p3, vi (0 : Int32), vr u0, vr u2, vu, vu, vu] [xi (0 : Int32)]) _
    refine XS.ifNo X2.here hx rfl (hb hby at_25) rfl (by decide) ?_
    show own_S p e below T2 (mkF m 28 #[vi p1, vi p2, vi p3, vi (0 : Int32), vr u0, vr u2, vu, vu, vu] []) _
    refine XS.iconst X2.here hx rfl (hb hby at_28) ?_
    show own_S p e below T2 (mkF m 29 #[vi p1, vi p2, vi p3, vi (0 : Int32), vr u0, vr u2, vu, vu, vu] [xi (1 : Int32)]) _
    refine XS.goto X2.here hx rfl (pc0 := 29) (pc' := 33) rfl (hb hby at_29) (by decide) (by decide) ?_
    show own_S p e below T2 (mkF m 33 #[vi p1, vi p2, vi p3, vi (0 : Int32), vr u0, vr u2, vu, vu, vu] [xi (1 : Int32)]) _
    refine st3 _ ?_
    show own_S p e below T3 (mkF m 36 #[vi p1, vi p2, vi p3, vi (0 : Int32), vr u0, vr u2, vu, vu, vu] [xr u0]) _
    refine XS.iloadN X3.here hx rfl (hb hby at_36) rfl ?_
    show own_S p e below T3 (mkF m 37 #[vi p1, vi p2, vi p3, vi (0 : Int32), vr u0, vr u2, vu, vu, vu] [xi (0 : Int32), xr u0]) _
    refine st4 _ ?_
    show own_S p e below T4 (mkF m 40 #[vi p1, vi p2, vi p3, vi (0 : Int32), vr u0, vr u2, vu, vu, vu] [xr u1, xr u0]) _
    refine st5.trans ?_
    show own_S p e below T5 (mkF m 43 #[vi p1, vi p2, vi p3, vi (0 : Int32), vr u0, vr u2, vu, vu, vu] [xr u0, xr u0]) _
    refine Jvm.RoadKit.acmp (g := (mkF m 43 #[vi p1, vi p2, vi p3, vi (0 : Int32), vr u0, vr u2, vu, vu, vu] [xr u0, xr u0])) X5 hx rfl rfl rfl (pc0 := 43) (pc' := 46) (same := true) rfl (hb hby at_43) rfl (decide_eq_true rfl) (by decide) (by decide) ?_
    show own_S p e below T5 (mkF m 46 #[vi p1, vi p2, vi p3, vi (0 : Int32), vr u0, vr u2, vu, vu, vu] []) _
    refine XS.iconst X5.here hx rfl (hb hby at_46) ?_
    show own_S p e below T5 (mkF m 47 #[vi p1, vi p2, vi p3, vi (0 : Int32), vr u0, vr u2, vu, vu, vu] [xi (1 : Int32)]) _
    refine XS.goto X5.here hx rfl (pc0 := 47) (pc' := 51) rfl (hb hby at_47) (by decide) (by decide) ?_
    show own_S p e below T5 (mkF m 51 #[vi p1, vi p2, vi p3, vi (0 : Int32), vr u0, vr u2, vu, vu, vu] [xi (1 : Int32)]) _
    refine XS.istore X5.here hx rfl (hb hby at_51) rfl (l' := #[vi p1, vi p2, vi p3, vi (0 : Int32), vr u0, vr u2, vi (1 : Int32), vu, vu]) rfl ?_
    show own_S p e below T5 (mkF m 53 #[vi p1, vi p2, vi p3, vi (0 : Int32), vr u0, vr u2, vi (1 : Int32), vu, vu] []) _
    refine XS.aload X5.here hx rfl (hb hby at_53) rfl rfl ?_
    show own_S p e below T5 (mkF m 55 #[vi p1, vi p2, vi p3, vi (0 : Int32), vr u0, vr u2, vi (1 : Int32), vu, vu] [xr u0]) _
    refine st6.trans ?_
    show own_S p e below T6 (mkF m 58 #[vi p1, vi p2, vi p3, vi (0 : Int32), vr u0, vr u2, vi (1 : Int32), vu, vu] [xr u1]) _
    refine st7.trans ?_
    show own_S p e below T7 (mkF m 61 #[vi p1, vi p2, vi p3, vi (0 : Int32), vr u0, vr u2, vi (1 : Int32), vu, vu] [xr u0]) _
    refine XS.aload X7.here hx rfl (hb hby at_61) rfl rfl ?_
    show own_S p e below T7 (mkF m 63 #[vi p1, vi p2, vi p3, vi (0 : Int32), vr u0, vr u2, vi (1 : Int32), vu, vu] [xr u0, xr u0]) _
    refine Jvm.RoadKit.acmp (g := (mkF m 63 #[vi p1, vi p2, vi p3, vi (0 : Int32), vr u0, vr u2, vi (1 : Int32), vu, vu] [xr u0, xr u0])) X7 hx rfl rfl rfl (pc0 := 63) (pc' := 66) (same := true) rfl (hb hby at_63) rfl (decide_eq_true rfl) (by decide) (by decide) ?_
    show own_S p e below T7 (mkF m 66 #[vi p1, vi p2, vi p3, vi (0 : Int32), vr u0, vr u2, vi (1 : Int32), vu, vu] []) _
    refine XS.iconst X7.here hx rfl (hb hby at_66) ?_
    show own_S p e below T7 (mkF m 67 #[vi p1, vi p2, vi p3, vi (0 : Int32), vr u0, vr u2, vi (1 : Int32), vu, vu] [xi (1 : Int32)]) _
    refine XS.goto X7.here hx rfl (pc0 := 67) (pc' := 71) rfl (hb hby at_67) (by decide) (by decide) ?_
    show own_S p e below T7 (mkF m 71 #[vi p1, vi p2, vi p3, vi (0 : Int32), vr u0, vr u2, vi (1 : Int32), vu, vu] [xi (1 : Int32)]) _
    refine XS.istore X7.here hx rfl (hb hby at_71) rfl (l' := #[vi p1, vi p2, vi p3, vi (0 : Int32), vr u0, vr u2, vi (1 : Int32), vi (1 : Int32), vu]) rfl ?_
    show own_S p e below T7 (mkF m 73 #[vi p1, vi p2, vi p3, vi (0 : Int32), vr u0, vr u2, vi (1 : Int32), vi (1 : Int32), vu] []) _
    refine XS.aload X7.here hx rfl (hb hby at_73) rfl rfl ?_
    show own_S p e below T7 (mkF m 75 #[vi p1, vi p2, vi p3, vi (0 : Int32), vr u0, vr u2, vi (1 : Int32), vi (1 : Int32), vu] [xr u0]) _
    refine XS.aload X7.here hx rfl (hb hby at_75) rfl rfl ?_
    show own_S p e below T7 (mkF m 77 #[vi p1, vi p2, vi p3, vi (0 : Int32), vr u0, vr u2, vi (1 : Int32), vi (1 : Int32), vu] [xr u2, xr u0]) _
    refine st8.trans ?_
    show own_S p e below T8 (mkF m 80 #[vi p1, vi p2, vi p3, vi (0 : Int32), vr u0, vr u2, vi (1 : Int32), vi (1 : Int32), vu] [xr u2]) _
    refine st9.trans ?_
    show own_S p e below T9 (mkF m 83 #[vi p1, vi p2, vi p3, vi (0 : Int32), vr u0, vr u2, vi (1 : Int32), vi (1 : Int32), vu] [xr u2]) _
    refine XS.aload X9.here hx rfl (hb hby at_83) rfl rfl ?_
    show own_S p e below T9 (mkF m 85 #[vi p1, vi p2, vi p3, vi (0 : Int32), vr u0, vr u2, vi (1 : Int32), vi (1 : Int32), vu] [xr u0, xr u2]) _
    refine st10.trans ?_
    show own_S p e below T10 (mkF m 88 #[vi p1, vi p2, vi p3, vi (0 : Int32), vr u0, vr u2, vi (1 : Int32), vi (1 : Int32), vu] [xr u1, xr u2]) _
    refine XS.aload X10.here hx rfl (hb hby at_88) rfl rfl ?_
    show own_S p e below T10 (mkF m 90 #[vi p1, vi p2, vi p3, vi (0 : Int32), vr u0, vr u2, vi (1 : Int32), vi (1 : Int32), vu] [xr u2, xr u1, xr u2]) _
    refine st11.trans ?_
    show own_S p e below T11 (mkF m 93 #[vi p1, vi p2, vi p3, vi (0 : Int32), vr u0, vr u2, vi (1 : Int32), vi (1 : Int32), vu] [xr u2, xr u1, xr u2]) _
    refine st12.trans ?_
    show own_S p e below T12 (mkF m 96 #[vi p1, vi p2, vi p3, vi (0 : Int32), vr u0, vr u2, vi (1 : Int32), vi (1 : Int32), vu] [xr u2, xr u2]) _
    refine Jvm.RoadKit.acmp (g := (mkF m 96 #[vi p1, vi p2, vi p3, vi (0 : Int32), vr u0, vr u2, vi (1 : Int32), vi (1 : Int32), vu] [xr u2, xr u2])) X12 hx rfl rfl rfl (pc0 := 96) (pc' := 99) (same := true) rfl (hb hby at_96) rfl (decide_eq_true rfl) (by decide) (by decide) ?_
    show own_S p e below T12 (mkF m 99 #[vi p1, vi p2, vi p3, vi (0 : Int32), vr u0, vr u2, vi (1 : Int32), vi (1 : Int32), vu] []) _
    refine XS.iconst X12.here hx rfl (hb hby at_99) ?_
    show own_S p e below T12 (mkF m 100 #[vi p1, vi p2, vi p3, vi (0 : Int32), vr u0, vr u2, vi (1 : Int32), vi (1 : Int32), vu] [xi (1 : Int32)]) _
    refine XS.goto X12.here hx rfl (pc0 := 100) (pc' := 104) rfl (hb hby at_100) (by decide) (by decide) ?_
    show own_S p e below T12 (mkF m 104 #[vi p1, vi p2, vi p3, vi (0 : Int32), vr u0, vr u2, vi (1 : Int32), vi (1 : Int32), vu] [xi (1 : Int32)]) _
    refine XS.istore X12.here hx rfl (hb hby at_104) rfl (l' := #[vi p1, vi p2, vi p3, vi (0 : Int32), vr u0, vr u2, vi (1 : Int32), vi (1 : Int32), vi (1 : Int32)]) rfl ?_
    show own_S p e below T12 (mkF m 106 #[vi p1, vi p2, vi p3, vi (0 : Int32), vr u0, vr u2, vi (1 : Int32), vi (1 : Int32), vi (1 : Int32)] []) _
    refine XS.iload X12.here hx rfl (hb hby at_106) rfl ?_
    show own_S p e below T12 (mkF m 108 #[vi p1, vi p2, vi p3, vi (0 : Int32), vr u0, vr u2, vi (1 : Int32), vi (1 : Int32), vi (1 : Int32)] [xi (1 : Int32)]) _
    refine XS.ifNo X12.here hx rfl (hb hby at_108) rfl (by decide) ?_
    show own_S p e below T12 (mkF m 111 #[vi p1, vi p2, vi p3, vi (0 : Int32), vr u0, vr u2, vi (1 : Int32), vi (1 : Int32), vi (1 : Int32)] []) _
    refine XS.iload X12.here hx rfl (hb hby at_111) rfl ?_
    show own_S p e below T12 (mkF m 113 #[vi p1, vi p2, vi p3, vi (0 : Int32), vr u0, vr u2, vi (1 : Int32), vi (1 : Int32), vi (1 : Int32)] [xi (1 : Int32)]) _
    refine XS.ifNo X12.here hx rfl (hb hby at_113) rfl (by decide) ?_
    show own_S p e below T12 (mkF m 116 #[vi p1, vi p2, vi p3, vi (0 : Int32), vr u0, vr u2, vi (1 : Int32), vi (1 : Int32), vi (1 : Int32)] []) _
    refine XS.iload X12.here hx rfl (hb hby at_116) rfl ?_
    show own_S p e below T12 (mkF m 118 #[vi p1, vi p2, vi p3, vi (0 : Int32), vr u0, vr u2, vi (1 : Int32), vi (1 : Int32), vi (1 : Int32)] [xi (1 : Int32)]) _
    refine XS.ifNo X12.here hx rfl (hb hby at_118) rfl (by decide) ?_
    show own_S p e below T12 (mkF m 121 #[vi p1, vi p2, vi p3, vi (0 : Int32), vr u0, vr u2, vi (1 : Int32), vi (1 : Int32), vi (1 : Int32)] []) _
    refine XS.iconst X12.here hx rfl (hb hby at_121) ?_
    show own_S p e below T12 (mkF m 122 #[vi p1, vi p2, vi p3, vi (0 : Int32), vr u0, vr u2, vi (1 : Int32), vi (1 : Int32), vi (1 : Int32)] [xi (1 : Int32)]) _
    refine XS.goto X12.here hx rfl (pc0 := 122) (pc' := 126) rfl (hb hby at_122) (by decide) (by decide) ?_
    show own_S p e below T12 (mkF m 126 #[vi p1, vi p2, vi p3, vi (0 : Int32), vr u0, vr u2, vi (1 : Int32), vi (1 : Int32), vi (1 : Int32)] [xi (1 : Int32)]) _
    exact retN X12 hx (t := .boolean) Bd.returns (by simp) (hb hby at_126) hr
  · exact ⟨rfl, N12⟩
theorem ef_own_l5 (m : MethodId) (u0 u1 u2 : Addr) (p1 : Int32) (p2 : Int32) (p3 : Int32) : entryFrame m #[xi p1, xi p2, xi p3] maxLocals = (mkF m 0 #[vi p1, vi p2, vi p3, vu, vu, vu, vu, vu, vu] []) := by first | (simp [entryFrame, mkF, argsToLocals, Value.category, maxLocals]; done) | rfl
set_option maxRecDepth 65536 in
set_option maxHeartbeats 40000000 in
theorem own_l5 (l : Launch) (Z : State) (a0 : Array Value) (hw : ∀ d ∈ tables_1, d.before a0 Z = true) (u0 u1 u2 : Addr) (G : own_St Z u0 u1 u2) (p1 : Int32) (p2 : Int32) (p3 : Int32) (as7 : (p3 &&& (1 : Int32)) = (1 : Int32)) (as0 : ((p1 &&& (2147483647 : Int32)) - ((p1 &&& (2147483647 : Int32)) / (3 : Int32)) * (3 : Int32)) = (0 : Int32)) (as5 : ((p2 &&& (2147483647 : Int32)) - ((p2 &&& (2147483647 : Int32)) / (3 : Int32)) * (3 : Int32)) = (2 : Int32)) (h0 : Heap) (n0 : Nat) (O0 : Old Z n0 h0) : own_Met l Z x code maxLocals ret room_1 #[xi p1, xi p2, xi p3] h0 (own_QL (some (xi (1 : Int32))) n0) := by
  intro ws
  refine MetFree.of_bodySF (plainFor_of_name pn0) hisR ?_
  intro p e s m args below meth c s₁ Bd hml0 hP hK
  obtain ⟨rfl, hZ, hh⟩ := hP
  have hx := Bd.exec
  have hby := Bd.bytes
  have hml : c.maxLocals = 9 := hml0
  have hown : s.vm.findClass "com/example/arbitrium/arbitrium/policy/TruthNotPinLaw" = some m.cls := findClass_of_methodNamed Bd.named
  have hnm := (name_of_methodNamed Bd.named Bd.method).1
  have X0 : Stand p l e room_1 s m #[xi p1, xi p2, xi p3] below meth c s₁ [] 0 0 := Stand.of_body Bd
  have e0 : s₁.heap = h0 := by rw [← hh, Bd.state]; rfl
  have N0 := Fr.nil n0
  have pre0 : ∀ t, Steps p.tables e below (s₁.setTop (mkF m 0 #[vi p1, vi p2, vi p3, vu, vu, vu, vu, vu, vu] [])) t → Steps p.tables e below (s₁.setTop (entryFrame m #[xi p1, xi p2, xi p3] maxLocals)) t := fun t k => castTop (ef_own_l5 m u0 u1 u2 p1 p2 p3) k
  obtain ⟨_, _, ⟨T1, L1, k1, n1⟩, -, X1, ⟨Lc1, hQ1, l1, y1, z1⟩, st1⟩ := Jvm.LawKit.callS X0 hx (y := Y0) hown (mvT hZ (ww hw 0 rfl)) (mvT hZ (ww hw 1 rfl)) (mvT hZ (ww hw 2 rfl)) (mvT hZ (ww hw 3 rfl)) (by decide) (backOf (W := 0) (own_c0_pick l Z a0 hw u0 u1 u2 G p1 as0 h0 n0 O0 []) hZ (ww hw 3 rfl) (ww hw 2 rfl) (by decide) (by decide)) (g := (mkF m 13 #[vi p1, vi p2, vi p3, vi (1 : Int32), vu, vu, vu, vu, vu] [xi p1])) rfl (by rw [hml]; rfl) (argsL := [xi p1]) (rest := []) (lenOf pd0 rfl) rfl (by show 2 * 0 + _ ≤ _; exact Nat.le_of_eq rfl) (hb hby at_13) (fun _ _ => ⟨rfl, e0, (by decide : 0 + 0 ≤ _), (by decide : 0 + 0 ≤ _)⟩)
  dsimp only [Pt.U, Pt.locs, Pt.cells, Pt.slots] at X1 l1 y1 z1 st1 hQ1
  subst l1 y1 z1
  obtain ⟨rfl, Nq1, e1⟩ := hQ1
  have N1 := Fr.app N0 Nq1
  obtain ⟨_, _, ⟨T2, L2, k2, n2⟩, -, X2, ⟨Lc2, hQ2, l2, y2, z2⟩, st2⟩ := Jvm.LawKit.callS X1 hx (y := Y0) hown (mvT hZ (ww hw 0 rfl)) (mvT hZ (ww hw 1 rfl)) (mvT hZ (ww hw 2 rfl)) (mvT hZ (ww hw 3 rfl)) (by decide) (backOf (W := 0) (own_c11_pick l Z a0 hw u0 u1 u2 G p2 as5 h0 n0 O0 []) hZ (ww hw 3 rfl) (ww hw 2 rfl) (by decide) (by decide)) (g := (mkF m 19 #[vi p1, vi p2, vi p3, vi (1 : Int32), vr u0, vu, vu, vu, vu] [xi p2])) rfl (by rw [hml]; rfl) (argsL := [xi p2]) (rest := []) (lenOf pd0 rfl) rfl (by show 2 * 0 + _ ≤ _; exact Nat.le_of_eq rfl) (hb hby at_19) (fun _ _ => ⟨rfl, e1, (by decide : 0 + 0 ≤ _), (by decide : 0 + 0 ≤ _)⟩)
  dsimp only [Pt.U, Pt.locs, Pt.cells, Pt.slots] at X2 l2 y2 z2 st2 hQ2
  subst l2 y2 z2
  obtain ⟨rfl, Nq2, e2⟩ := hQ2
  have N2 := Fr.app N1 Nq2
  obtain ⟨_, _, ⟨T3, L3, k3, n3⟩, -, X3, ⟨Lc3, hQ3, l3, y3, z3⟩, st3⟩ := Jvm.LawKit.callS X2 hx (y := Y1) hown (mvT hZ (ww hw 8 rfl)) (mvT hZ (ww hw 9 rfl)) (mvT hZ (ww hw 6 rfl)) (mvT hZ (ww hw 10 rfl)) (by decide) (backOf (W := 0) (own_c3_of l Z a0 hw u0 u1 u2 G h0 n0 O0 []) hZ (ww hw 10 rfl) (ww hw 6 rfl) (by decide) (by decide)) (g := (mkF m 33 #[vi p1, vi p2, vi p3, vi (1 : Int32), vr u0, vr u2, vu, vu, vu] [xi (0 : Int32)])) rfl (by rw [hml]; rfl) (argsL := [xi (0 : Int32)]) (rest := []) (lenOf pd1 rfl) rfl (by show 2 * 0 + _ ≤ _; exact Nat.le_of_eq rfl) (hb hby at_33) (fun _ _ => ⟨rfl, e2, (by decide : 0 + 0 ≤ _), (by decide : 0 + 0 ≤ _)⟩)
  dsimp only [Pt.U, Pt.locs, Pt.cells, Pt.slots] at X3 l3 y3 z3 st3 hQ3
  subst l3 y3 z3
  obtain ⟨rfl, Nq3, e3⟩ := hQ3
  have N3 := Fr.app N2 Nq3
  obtain ⟨_, _, ⟨T4, L4, k4, n4⟩, -, X4, ⟨Lc4, hQ4, l4, y4, z4⟩, st4⟩ := Jvm.LawKit.callS X3 hx (y := Y1) hown (mvT hZ (ww hw 8 rfl)) (mvT hZ (ww hw 9 rfl)) (mvT hZ (ww hw 6 rfl)) (mvT hZ (ww hw 10 rfl)) (by decide) (backOf (W := 1) (own_c2_of l Z a0 hw u0 u1 u2 G h0 n0 O0 []) hZ (ww hw 10 rfl) (ww hw 6 rfl) (by decide) (by decide)) (g := (mkF m 37 #[vi p1, vi p2, vi p3, vi (1 : Int32), vr u0, vr u2, vu, vu, vu] [xi (1 : Int32), xr u1])) rfl (by rw [hml]; rfl) (argsL := [xi (1 : Int32)]) (rest := [xr u1]) (lenOf pd1 rfl) rfl (by show 2 * 0 + _ ≤ _; exact Nat.le_of_eq rfl) (hb hby at_37) (fun _ _ => ⟨rfl, e3, (by decide : 0 + 0 ≤ _), (by decide : 0 + 0 ≤ _)⟩)
  dsimp only [Pt.U, Pt.locs, Pt.cells, Pt.slots] at X4 l4 y4 z4 st4 hQ4
  subst l4 y4 z4
  obtain ⟨rfl, Nq4, e4⟩ := hQ4
  have N4 := Fr.app N3 Nq4
  obtain ⟨cq5, kq5, qa5, qb5, qc5⟩ := isOf hZ e4 ((own_X_u0 G).ext O0.2)
  obtain ⟨_, _, ⟨T5, L5, k5, n5⟩, -, X5, ⟨Lc5, hQ5, l5, y5, z5⟩, st5⟩ := X4.virtualBack hx (y := Y2) (z := Y2) hown (mvT hZ (ww hw 14 rfl)) (mvT hZ (ww hw 15 rfl)) (notFace_of_selects (args := #[]) (mvT hZ (ww hw 17 rfl))) (mvT hZ (ww hw 17 rfl)) (mvT hZ (ww hw 16 rfl)) (by decide) (backOf (W := 1) (own_c5_not l Z a0 hw u0 u1 u2 G h0 n0 O0 []) hZ (ww hw 18 rfl) (ww hw 6 rfl) (by decide) (by decide)) qa5 qc5 (g := (mkF m 40 #[vi p1, vi p2, vi p3, vi (1 : Int32), vr u0, vr u2, vu, vu, vu] [xr u0, xr u1])) rfl (by rw [hml]; rfl) (Steps.refl _) (argsL := []) (rest := [xr u1]) (lenOf pd2 rfl) rfl (by show 2 * 0 + _ ≤ _; exact Nat.le_of_eq rfl) (hb hby at_40) (fun _ _ => ⟨rfl, e4, (by decide : 0 + 0 ≤ _), (by decide : 0 + 0 ≤ _)⟩)
  dsimp only [Pt.U, Pt.locs, Pt.cells, Pt.slots] at X5 l5 y5 z5 st5 hQ5
  subst l5 y5 z5
  obtain ⟨rfl, Nq5, e5⟩ := hQ5
  have N5 := Fr.app N4 Nq5
  obtain ⟨cq6, kq6, qa6, qb6, qc6⟩ := isOf hZ e5 ((own_X_u0 G).ext O0.2)
  obtain ⟨_, _, ⟨T6, L6, k6, n6⟩, -, X6, ⟨Lc6, hQ6, l6, y6, z6⟩, st6⟩ := X5.virtualBack hx (y := Y2) (z := Y2) hown (mvT hZ (ww hw 14 rfl)) (mvT hZ (ww hw 15 rfl)) (notFace_of_selects (args := #[]) (mvT hZ (ww hw 17 rfl))) (mvT hZ (ww hw 17 rfl)) (mvT hZ (ww hw 16 rfl)) (by decide) (backOf (W := 0) (own_c5_not l Z a0 hw u0 u1 u2 G h0 n0 O0 []) hZ (ww hw 18 rfl) (ww hw 6 rfl) (by decide) (by decide)) qa6 qc6 (g := (mkF m 55 #[vi p1, vi p2, vi p3, vi (1 : Int32), vr u0, vr u2, vi (1 : Int32), vu, vu] [xr u0])) rfl (by rw [hml]; rfl) (Steps.refl _) (argsL := []) (rest := []) (lenOf pd2 rfl) rfl (by show 2 * 0 + _ ≤ _; exact Nat.le_of_eq rfl) (hb hby at_55) (fun _ _ => ⟨rfl, e5, (by decide : 0 + 0 ≤ _), (by decide : 0 + 0 ≤ _)⟩)
  dsimp only [Pt.U, Pt.locs, Pt.cells, Pt.slots] at X6 l6 y6 z6 st6 hQ6
  subst l6 y6 z6
  obtain ⟨rfl, Nq6, e6⟩ := hQ6
  have N6 := Fr.app N5 Nq6
  obtain ⟨cq7, kq7, qa7, qb7, qc7⟩ := isOf hZ e6 ((own_X_u1 G).ext O0.2)
  obtain ⟨_, _, ⟨T7, L7, k7, n7⟩, -, X7, ⟨Lc7, hQ7, l7, y7, z7⟩, st7⟩ := X6.virtualBack hx (y := Y2) (z := Y2) hown (mvT hZ (ww hw 14 rfl)) (mvT hZ (ww hw 15 rfl)) (notFace_of_selects (args := #[]) (mvT hZ (ww hw 17 rfl))) (mvT hZ (ww hw 17 rfl)) (mvT hZ (ww hw 16 rfl)) (by decide) (backOf (W := 0) (own_c4_not l Z a0 hw u0 u1 u2 G h0 n0 O0 []) hZ (ww hw 18 rfl) (ww hw 6 rfl) (by decide) (by decide)) qa7 qc7 (g := (mkF m 58 #[vi p1, vi p2, vi p3, vi (1 : Int32), vr u0, vr u2, vi (1 : Int32), vu, vu] [xr u1])) rfl (by rw [hml]; rfl) (Steps.refl _) (argsL := []) (rest := []) (lenOf pd2 rfl) rfl (by show 2 * 0 + _ ≤ _; exact Nat.le_of_eq rfl) (hb hby at_58) (fun _ _ => ⟨rfl, e6, (by decide : 0 + 0 ≤ _), (by decide : 0 + 0 ≤ _)⟩)
  dsimp only [Pt.U, Pt.locs, Pt.cells, Pt.slots] at X7 l7 y7 z7 st7 hQ7
  subst l7 y7 z7
  obtain ⟨rfl, Nq7, e7⟩ := hQ7
  have N7 := Fr.app N6 Nq7
  obtain ⟨cq8, kq8, qa8, qb8, qc8⟩ := isOf hZ e7 ((own_X_u0 G).ext O0.2)
  obtain ⟨_, _, ⟨T8, L8, k8, n8⟩, -, X8, ⟨Lc8, hQ8, l8, y8, z8⟩, st8⟩ := X7.virtualBack hx (y := Y3) (z := Y3) hown (mvT hZ (ww hw 21 rfl)) (mvT hZ (ww hw 22 rfl)) (notFace_of_selects (args := #[]) (mvT hZ (ww hw 24 rfl))) (mvT hZ (ww hw 24 rfl)) (mvT hZ (ww hw 23 rfl)) (by decide) (backOf (W := 0) (own_c12_and l Z a0 hw u0 u1 u2 G h0 n0 O0 []) hZ (ww hw 25 rfl) (ww hw 6 rfl) (by decide) (by decide)) qa8 qc8 (g := (mkF m 77 #[vi p1, vi p2, vi p3, vi (1 : Int32), vr u0, vr u2, vi (1 : Int32), vi (1 : Int32), vu] [xr u2, xr u0])) rfl (by rw [hml]; rfl) (Steps.refl _) (argsL := [xr u2]) (rest := []) (lenOf pd3 rfl) rfl (by show 2 * 0 + _ ≤ _; exact Nat.le_of_eq rfl) (hb hby at_77) (fun _ _ => ⟨rfl, e7, (by decide : 0 + 0 ≤ _), (by decide : 0 + 0 ≤ _)⟩)
  dsimp only [Pt.U, Pt.locs, Pt.cells, Pt.slots] at X8 l8 y8 z8 st8 hQ8
  subst l8 y8 z8
  obtain ⟨rfl, Nq8, e8⟩ := hQ8
  have N8 := Fr.app N7 Nq8
  obtain ⟨cq9, kq9, qa9, qb9, qc9⟩ := isOf hZ e8 ((own_X_u2 G).ext O0.2)
  obtain ⟨_, _, ⟨T9, L9, k9, n9⟩, -, X9, ⟨Lc9, hQ9, l9, y9, z9⟩, st9⟩ := X8.virtualBack hx (y := Y2) (z := Y2) hown (mvT hZ (ww hw 14 rfl)) (mvT hZ (ww hw 15 rfl)) (notFace_of_selects (args := #[]) (mvT hZ (ww hw 17 rfl))) (mvT hZ (ww hw 17 rfl)) (mvT hZ (ww hw 16 rfl)) (by decide) (backOf (W := 0) (own_c13_not l Z a0 hw u0 u1 u2 G h0 n0 O0 []) hZ (ww hw 18 rfl) (ww hw 6 rfl) (by decide) (by decide)) qa9 qc9 (g := (mkF m 80 #[vi p1, vi p2, vi p3, vi (1 : Int32), vr u0, vr u2, vi (1 : Int32), vi (1 : Int32), vu] [xr u2])) rfl (by rw [hml]; rfl) (Steps.refl _) (argsL := []) (rest := []) (lenOf pd2 rfl) rfl (by show 2 * 0 + _ ≤ _; exact Nat.le_of_eq rfl) (hb hby at_80) (fun _ _ => ⟨rfl, e8, (by decide : 0 + 0 ≤ _), (by decide : 0 + 0 ≤ _)⟩)
  dsimp only [Pt.U, Pt.locs, Pt.cells, Pt.slots] at X9 l9 y9 z9 st9 hQ9
  subst l9 y9 z9
  obtain ⟨rfl, Nq9, e9⟩ := hQ9
  have N9 := Fr.app N8 Nq9
  obtain ⟨cq10, kq10, qa10, qb10, qc10⟩ := isOf hZ e9 ((own_X_u0 G).ext O0.2)
  obtain ⟨_, _, ⟨T10, L10, k10, n10⟩, -, X10, ⟨Lc10, hQ10, l10, y10, z10⟩, st10⟩ := X9.virtualBack hx (y := Y2) (z := Y2) hown (mvT hZ (ww hw 14 rfl)) (mvT hZ (ww hw 15 rfl)) (notFace_of_selects (args := #[]) (mvT hZ (ww hw 17 rfl))) (mvT hZ (ww hw 17 rfl)) (mvT hZ (ww hw 16 rfl)) (by decide) (backOf (W := 1) (own_c5_not l Z a0 hw u0 u1 u2 G h0 n0 O0 []) hZ (ww hw 18 rfl) (ww hw 6 rfl) (by decide) (by decide)) qa10 qc10 (g := (mkF m 85 #[vi p1, vi p2, vi p3, vi (1 : Int32), vr u0, vr u2, vi (1 : Int32), vi (1 : Int32), vu] [xr u0, xr u2])) rfl (by rw [hml]; rfl) (Steps.refl _) (argsL := []) (rest := [xr u2]) (lenOf pd2 rfl) rfl (by show 2 * 0 + _ ≤ _; exact Nat.le_of_eq rfl) (hb hby at_85) (fun _ _ => ⟨rfl, e9, (by decide : 0 + 0 ≤ _), (by decide : 0 + 0 ≤ _)⟩)
  dsimp only [Pt.U, Pt.locs, Pt.cells, Pt.slots] at X10 l10 y10 z10 st10 hQ10
  subst l10 y10 z10
  obtain ⟨rfl, Nq10, e10⟩ := hQ10
  have N10 := Fr.app N9 Nq10
  obtain ⟨cq11, kq11, qa11, qb11, qc11⟩ := isOf hZ e10 ((own_X_u2 G).ext O0.2)
  obtain ⟨_, _, ⟨T11, L11, k11, n11⟩, -, X11, ⟨Lc11, hQ11, l11, y11, z11⟩, st11⟩ := X10.virtualBack hx (y := Y2) (z := Y2) hown (mvT hZ (ww hw 14 rfl)) (mvT hZ (ww hw 15 rfl)) (notFace_of_selects (args := #[]) (mvT hZ (ww hw 17 rfl))) (mvT hZ (ww hw 17 rfl)) (mvT hZ (ww hw 16 rfl)) (by decide) (backOf (W := 2) (own_c13_not l Z a0 hw u0 u1 u2 G h0 n0 O0 []) hZ (ww hw 18 rfl) (ww hw 6 rfl) (by decide) (by decide)) qa11 qc11 (g := (mkF m 90 #[vi p1, vi p2, vi p3, vi (1 : Int32), vr u0, vr u2, vi (1 : Int32), vi (1 : Int32), vu] [xr u2, xr u1, xr u2])) rfl (by rw [hml]; rfl) (Steps.refl _) (argsL := []) (rest := [xr u1, xr u2]) (lenOf pd2 rfl) rfl (by show 2 * 0 + _ ≤ _; exact Nat.le_of_eq rfl) (hb hby at_90) (fun _ _ => ⟨rfl, e10, (by decide : 0 + 0 ≤ _), (by decide : 0 + 0 ≤ _)⟩)
  dsimp only [Pt.U, Pt.locs, Pt.cells, Pt.slots] at X11 l11 y11 z11 st11 hQ11
  subst l11 y11 z11
  obtain ⟨rfl, Nq11, e11⟩ := hQ11
  have N11 := Fr.app N10 Nq11
  obtain ⟨cq12, kq12, qa12, qb12, qc12⟩ := isOf hZ e11 ((own_X_u1 G).ext O0.2)
  obtain ⟨_, _, ⟨T12, L12, k12, n12⟩, -, X12, ⟨Lc12, hQ12, l12, y12, z12⟩, st12⟩ := X11.virtualBack hx (y := Y4) (z := Y4) hown (mvT hZ (ww hw 26 rfl)) (mvT hZ (ww hw 27 rfl)) (notFace_of_selects (args := #[]) (mvT hZ (ww hw 29 rfl))) (mvT hZ (ww hw 29 rfl)) (mvT hZ (ww hw 28 rfl)) (by decide) (backOf (W := 1) (own_c14_or l Z a0 hw u0 u1 u2 G h0 n0 O0 []) hZ (ww hw 30 rfl) (ww hw 6 rfl) (by decide) (by decide)) qa12 qc12 (g := (mkF m 93 #[vi p1, vi p2, vi p3, vi (1 : Int32), vr u0, vr u2, vi (1 : Int32), vi (1 : Int32), vu] [xr u2, xr u1, xr u2])) rfl (by rw [hml]; rfl) (Steps.refl _) (argsL := [xr u2]) (rest := [xr u2]) (lenOf pd3 rfl) rfl (by show 2 * 0 + _ ≤ _; exact Nat.le_of_eq rfl) (hb hby at_93) (fun _ _ => ⟨rfl, e11, (by decide : 0 + 0 ≤ _), (by decide : 0 + 0 ≤ _)⟩)
  dsimp only [Pt.U, Pt.locs, Pt.cells, Pt.slots] at X12 l12 y12 z12 st12 hQ12
  subst l12 y12 z12
  obtain ⟨rfl, Nq12, e12⟩ := hQ12
  have N12 := Fr.app N11 Nq12
  obtain ⟨fs, hr, hrun, hended, hW, hsame⟩ := X12.leave (v := some (xi (1 : Int32))) (fun h => by rw [Bd.returns] at h; cases h)
  refine ⟨_, _, pre0 _ ?_, hrun, hended, _, _, rfl, ?_, ⟨_, rfl⟩, hW, hsame.mono (by decide) (by decide)⟩
  · show own_S p e below s₁ (mkF m 0 #[vi p1, vi p2, vi p3, vu, vu, vu, vu, vu, vu] []) _
    refine XS.iloadN X0.here hx rfl (hb hby at_0) rfl ?_
    show own_S p e below s₁ (mkF m 1 #[vi p1, vi p2, vi p3, vu, vu, vu, vu, vu, vu] [xi p3]) _
    refine XS.iconst X0.here hx rfl (hb hby at_1) ?_
    show own_S p e below s₁ (mkF m 2 #[vi p1, vi p2, vi p3, vu, vu, vu, vu, vu, vu] [xi (1 : Int32), xi p3]) _
    refine XS.iand X0.here hx rfl (hb hby at_2) rfl ?_
    show own_S p e below s₁ (mkF m 3 #[vi p1, vi p2, vi p3, vu, vu, vu, vu, vu, vu] [xi (p3 &&& (1 : Int32))]) _
    refine castTop (show (mkF m 3 #[vi p1, vi p2, vi p3, vu, vu, vu, vu, vu, vu] [xi (p3 &&& (1 : Int32))]) = (mkF m 3 #[vi p1, vi p2, vi p3, vu, vu, vu, vu, vu, vu] [xi (1 : Int32)]) from by rw [as7]) ?_
    show own_S p e below s₁ (mkF m 3 #[vi p1, vi p2, vi p3, vu, vu, vu, vu, vu, vu] [xi (1 : Int32)]) _
    refine XS.ifNo X0.here hx rfl (hb hby at_3) rfl (by decide) ?_
    show own_S p e below s₁ (mkF m 6 #[vi p1, vi p2, vi p3, vu, vu, vu, vu, vu, vu] []) _
    refine XS.iconst X0.here hx rfl (hb hby at_6) ?_
    show own_S p e below s₁ (mkF m 7 #[vi p1, vi p2, vi p3, vu, vu, vu, vu, vu, vu] [xi (1 : Int32)]) _
    refine XS.goto X0.here hx rfl (pc0 := 7) (pc' := 11) rfl (hb hby at_7) (by decide) (by decide) ?_
    show own_S p e below s₁ (mkF m 11 #[vi p1, vi p2, vi p3, vu, vu, vu, vu, vu, vu] [xi (1 : Int32)]) _
    refine XS.istoreN X0.here hx rfl (hb hby at_11) rfl (l' := #[vi p1, vi p2, vi p3, vi (1 : Int32), vu, vu, vu, vu, vu]) rfl ?_
    show own_S p e below s₁ (mkF m 12 #[vi p1, vi p2, vi p3, vi (1 : Int32), vu, vu, vu, vu, vu] []) _
    refine XS.iloadN X0.here hx rfl (hb hby at_12) rfl ?_
    show own_S p e below s₁ (mkF m 13 #[vi p1, vi p2, vi p3, vi (1 : Int32), vu, vu, vu, vu, vu] [xi p1]) _
    refine st1 _ ?_
    show own_S p e below T1 (mkF m 16 #[vi p1, vi p2, vi p3, vi (1 : Int32), vu, vu, vu, vu, vu] [xr u0]) _
    refine XS.astore X1.here hx rfl (hb hby at_16) rfl rfl (l' := #[vi p1, vi p2, vi p3, vi (1 : Int32), vr u0, vu, vu, vu, vu]) rfl ?_
    show own_S p e below T1 (mkF m 18 #[vi p1, vi p2, vi p3, vi (1 : Int32), vr u0, vu, vu, vu, vu] []) _
    refine XS.iloadN X1.here hx rfl (hb hby at_18) rfl ?_
    show own_S p e below T1 (mkF m 19 #[vi p1, vi p2, vi p3, vi (1 : Int32), vr u0, vu, vu, vu, vu] [xi p2]) _
    refine st2 _ ?_
    show own_S p e below T2 (mkF m 22 #[vi p1, vi p2, vi p3, vi (1 : Int32), vr u0, vu, vu, vu, vu] [xr u2]) _
    refine XS.astore X2.here hx rfl (hb hby at_22) rfl rfl (l' := #[vi p1, vi p2, vi p3, vi (1 : Int32), vr u0, vr u2, vu, vu, vu]) rfl ?_
    show own_S p e below T2 (mkF m 24 #[vi p1, vi p2, vi p3, vi (1 : Int32), vr u0, vr u2, vu, vu, vu] []) _
    refine XS.iloadN X2.here hx rfl (hb hby at_24) rfl ?_
    show own_S p e below T2 (mkF m 25 #[vi p1, vi p2, vi p3, vi (1 : Int32), vr u0, vr u2, vu, vu, vu] [xi (1 : Int32)]) _
    refine XS.ifYes X2.here hx rfl (pc0 := 25) (pc' := 32) rfl (hb hby at_25) rfl (by decide) (by decide) (by decide) ?_
    show own_S p e below T2 (mkF m 32 #[vi p1, vi p2, vi p3, vi (1 : Int32), vr u0, vr u2, vu, vu, vu] []) _
    refine XS.iconst X2.here hx rfl (hb hby at_32) ?_
    show own_S p e below T2 (mkF m 33 #[vi p1, vi p2, vi p3, vi (1 : Int32), vr u0, vr u2, vu, vu, vu] [xi (0 : Int32)]) _
    refine st3 _ ?_
    show own_S p e below T3 (mkF m 36 #[vi p1, vi p2, vi p3, vi (1 : Int32), vr u0, vr u2, vu, vu, vu] [xr u1]) _
    refine XS.iloadN X3.here hx rfl (hb hby at_36) rfl ?_
    show own_S p e below T3 (mkF m 37 #[vi p1, vi p2, vi p3, vi (1 : Int32), vr u0, vr u2, vu, vu, vu] [xi (1 : Int32), xr u1]) _
    refine st4 _ ?_
    show own_S p e below T4 (mkF m 40 #[vi p1, vi p2, vi p3, vi (1 : Int32), vr u0, vr u2, vu, vu, vu] [xr u0, xr u1]) _
    refine st5.trans ?_
    show own_S p e below T5 (mkF m 43 #[vi p1, vi p2, vi p3, vi (1 : Int32), vr u0, vr u2, vu, vu, vu] [xr u1, xr u1]) _
    refine Jvm.RoadKit.acmp (g := (mkF m 43 #[vi p1, vi p2, vi p3, vi (1 : Int32), vr u0, vr u2, vu, vu, vu] [xr u1, xr u1])) X5 hx rfl rfl rfl (pc0 := 43) (pc' := 46) (same := true) rfl (hb hby at_43) rfl (decide_eq_true rfl) (by decide) (by decide) ?_
    show own_S p e below T5 (mkF m 46 #[vi p1, vi p2, vi p3, vi (1 : Int32), vr u0, vr u2, vu, vu, vu] []) _
    refine XS.iconst X5.here hx rfl (hb hby at_46) ?_
    show own_S p e below T5 (mkF m 47 #[vi p1, vi p2, vi p3, vi (1 : Int32), vr u0, vr u2, vu, vu, vu] [xi (1 : Int32)]) _
    refine XS.goto X5.here hx rfl (pc0 := 47) (pc' := 51) rfl (hb hby at_47) (by decide) (by decide) ?_
    show own_S p e below T5 (mkF m 51 #[vi p1, vi p2, vi p3, vi (1 : Int32), vr u0, vr u2, vu, vu, vu] [xi (1 : Int32)]) _
    refine XS.istore X5.here hx rfl (hb hby at_51) rfl (l' := #[vi p1, vi p2, vi p3, vi (1 : Int32), vr u0, vr u2, vi (1 : Int32), vu, vu]) rfl ?_
    show own_S p e below T5 (mkF m 53 #[vi p1, vi p2, vi p3, vi (1 : Int32), vr u0, vr u2, vi (1 : Int32), vu, vu] []) _
    refine XS.aload X5.here hx rfl (hb hby at_53) rfl rfl ?_
    show own_S p e below T5 (mkF m 55 #[vi p1, vi p2, vi p3, vi (1 : Int32), vr u0, vr u2, vi (1 : Int32), vu, vu] [xr u0]) _
    refine st6.trans ?_
    show own_S p e below T6 (mkF m 58 #[vi p1, vi p2, vi p3, vi (1 : Int32), vr u0, vr u2, vi (1 : Int32), vu, vu] [xr u1]) _
    refine st7.trans ?_
    show own_S p e below T7 (mkF m 61 #[vi p1, vi p2, vi p3, vi (1 : Int32), vr u0, vr u2, vi (1 : Int32), vu, vu] [xr u0]) _
    refine XS.aload X7.here hx rfl (hb hby at_61) rfl rfl ?_
    show own_S p e below T7 (mkF m 63 #[vi p1, vi p2, vi p3, vi (1 : Int32), vr u0, vr u2, vi (1 : Int32), vu, vu] [xr u0, xr u0]) _
    refine Jvm.RoadKit.acmp (g := (mkF m 63 #[vi p1, vi p2, vi p3, vi (1 : Int32), vr u0, vr u2, vi (1 : Int32), vu, vu] [xr u0, xr u0])) X7 hx rfl rfl rfl (pc0 := 63) (pc' := 66) (same := true) rfl (hb hby at_63) rfl (decide_eq_true rfl) (by decide) (by decide) ?_
    show own_S p e below T7 (mkF m 66 #[vi p1, vi p2, vi p3, vi (1 : Int32), vr u0, vr u2, vi (1 : Int32), vu, vu] []) _
    refine XS.iconst X7.here hx rfl (hb hby at_66) ?_
    show own_S p e below T7 (mkF m 67 #[vi p1, vi p2, vi p3, vi (1 : Int32), vr u0, vr u2, vi (1 : Int32), vu, vu] [xi (1 : Int32)]) _
    refine XS.goto X7.here hx rfl (pc0 := 67) (pc' := 71) rfl (hb hby at_67) (by decide) (by decide) ?_
    show own_S p e below T7 (mkF m 71 #[vi p1, vi p2, vi p3, vi (1 : Int32), vr u0, vr u2, vi (1 : Int32), vu, vu] [xi (1 : Int32)]) _
    refine XS.istore X7.here hx rfl (hb hby at_71) rfl (l' := #[vi p1, vi p2, vi p3, vi (1 : Int32), vr u0, vr u2, vi (1 : Int32), vi (1 : Int32), vu]) rfl ?_
    show own_S p e below T7 (mkF m 73 #[vi p1, vi p2, vi p3, vi (1 : Int32), vr u0, vr u2, vi (1 : Int32), vi (1 : Int32), vu] []) _
    refine XS.aload X7.here hx rfl (hb hby at_73) rfl rfl ?_
    show own_S p e below T7 (mkF m 75 #[vi p1, vi p2, vi p3, vi (1 : Int32), vr u0, vr u2, vi (1 : Int32), vi (1 : Int32), vu] [xr u0]) _
    refine XS.aload X7.here hx rfl (hb hby at_75) rfl rfl ?_
    show own_S p e below T7 (mkF m 77 #[vi p1, vi p2, vi p3, vi (1 : Int32), vr u0, vr u2, vi (1 : Int32), vi (1 : Int32), vu] [xr u2, xr u0]) _
    refine st8.trans ?_
    show own_S p e below T8 (mkF m 80 #[vi p1, vi p2, vi p3, vi (1 : Int32), vr u0, vr u2, vi (1 : Int32), vi (1 : Int32), vu] [xr u2]) _
    refine st9.trans ?_
    show own_S p e below T9 (mkF m 83 #[vi p1, vi p2, vi p3, vi (1 : Int32), vr u0, vr u2, vi (1 : Int32), vi (1 : Int32), vu] [xr u2]) _
    refine XS.aload X9.here hx rfl (hb hby at_83) rfl rfl ?_
    show own_S p e below T9 (mkF m 85 #[vi p1, vi p2, vi p3, vi (1 : Int32), vr u0, vr u2, vi (1 : Int32), vi (1 : Int32), vu] [xr u0, xr u2]) _
    refine st10.trans ?_
    show own_S p e below T10 (mkF m 88 #[vi p1, vi p2, vi p3, vi (1 : Int32), vr u0, vr u2, vi (1 : Int32), vi (1 : Int32), vu] [xr u1, xr u2]) _
    refine XS.aload X10.here hx rfl (hb hby at_88) rfl rfl ?_
    show own_S p e below T10 (mkF m 90 #[vi p1, vi p2, vi p3, vi (1 : Int32), vr u0, vr u2, vi (1 : Int32), vi (1 : Int32), vu] [xr u2, xr u1, xr u2]) _
    refine st11.trans ?_
    show own_S p e below T11 (mkF m 93 #[vi p1, vi p2, vi p3, vi (1 : Int32), vr u0, vr u2, vi (1 : Int32), vi (1 : Int32), vu] [xr u2, xr u1, xr u2]) _
    refine st12.trans ?_
    show own_S p e below T12 (mkF m 96 #[vi p1, vi p2, vi p3, vi (1 : Int32), vr u0, vr u2, vi (1 : Int32), vi (1 : Int32), vu] [xr u2, xr u2]) _
    refine Jvm.RoadKit.acmp (g := (mkF m 96 #[vi p1, vi p2, vi p3, vi (1 : Int32), vr u0, vr u2, vi (1 : Int32), vi (1 : Int32), vu] [xr u2, xr u2])) X12 hx rfl rfl rfl (pc0 := 96) (pc' := 99) (same := true) rfl (hb hby at_96) rfl (decide_eq_true rfl) (by decide) (by decide) ?_
    show own_S p e below T12 (mkF m 99 #[vi p1, vi p2, vi p3, vi (1 : Int32), vr u0, vr u2, vi (1 : Int32), vi (1 : Int32), vu] []) _
    refine XS.iconst X12.here hx rfl (hb hby at_99) ?_
    show own_S p e below T12 (mkF m 100 #[vi p1, vi p2, vi p3, vi (1 : Int32), vr u0, vr u2, vi (1 : Int32), vi (1 : Int32), vu] [xi (1 : Int32)]) _
    refine XS.goto X12.here hx rfl (pc0 := 100) (pc' := 104) rfl (hb hby at_100) (by decide) (by decide) ?_
    show own_S p e below T12 (mkF m 104 #[vi p1, vi p2, vi p3, vi (1 : Int32), vr u0, vr u2, vi (1 : Int32), vi (1 : Int32), vu] [xi (1 : Int32)]) _
    refine XS.istore X12.here hx rfl (hb hby at_104) rfl (l' := #[vi p1, vi p2, vi p3, vi (1 : Int32), vr u0, vr u2, vi (1 : Int32), vi (1 : Int32), vi (1 : Int32)]) rfl ?_
    show own_S p e below T12 (mkF m 106 #[vi p1, vi p2, vi p3, vi (1 : Int32), vr u0, vr u2, vi (1 : Int32), vi (1 : Int32), vi (1 : Int32)] []) _
    refine XS.iload X12.here hx rfl (hb hby at_106) rfl ?_
    show own_S p e below T12 (mkF m 108 #[vi p1, vi p2, vi p3, vi (1 : Int32), vr u0, vr u2, vi (1 : Int32), vi (1 : Int32), vi (1 : Int32)] [xi (1 : Int32)]) _
    refine XS.ifNo X12.here hx rfl (hb hby at_108) rfl (by decide) ?_
    show own_S p e below T12 (mkF m 111 #[vi p1, vi p2, vi p3, vi (1 : Int32), vr u0, vr u2, vi (1 : Int32), vi (1 : Int32), vi (1 : Int32)] []) _
    refine XS.iload X12.here hx rfl (hb hby at_111) rfl ?_
    show own_S p e below T12 (mkF m 113 #[vi p1, vi p2, vi p3, vi (1 : Int32), vr u0, vr u2, vi (1 : Int32), vi (1 : Int32), vi (1 : Int32)] [xi (1 : Int32)]) _
    refine XS.ifNo X12.here hx rfl (hb hby at_113) rfl (by decide) ?_
    show own_S p e below T12 (mkF m 116 #[vi p1, vi p2, vi p3, vi (1 : Int32), vr u0, vr u2, vi (1 : Int32), vi (1 : Int32), vi (1 : Int32)] []) _
    refine XS.iload X12.here hx rfl (hb hby at_116) rfl ?_
    show own_S p e below T12 (mkF m 118 #[vi p1, vi p2, vi p3, vi (1 : Int32), vr u0, vr u2, vi (1 : Int32), vi (1 : Int32), vi (1 : Int32)] [xi (1 : Int32)]) _
    refine XS.ifNo X12.here hx rfl (hb hby at_118) rfl (by decide) ?_
    show own_S p e below T12 (mkF m 121 #[vi p1, vi p2, vi p3, vi (1 : Int32), vr u0, vr u2, vi (1 : Int32), vi (1 : Int32), vi (1 : Int32)] []) _
    refine XS.iconst X12.here hx rfl (hb hby at_121) ?_
    show own_S p e below T12 (mkF m 122 #[vi p1, vi p2, vi p3, vi (1 : Int32), vr u0, vr u2, vi (1 : Int32), vi (1 : Int32), vi (1 : Int32)] [xi (1 : Int32)]) _
    refine XS.goto X12.here hx rfl (pc0 := 122) (pc' := 126) rfl (hb hby at_122) (by decide) (by decide) ?_
    show own_S p e below T12 (mkF m 126 #[vi p1, vi p2, vi p3, vi (1 : Int32), vr u0, vr u2, vi (1 : Int32), vi (1 : Int32), vi (1 : Int32)] [xi (1 : Int32)]) _
    exact retN X12 hx (t := .boolean) Bd.returns (by simp) (hb hby at_126) hr
  · exact ⟨rfl, N12⟩
theorem ef_own_c15_pick (m : MethodId) (u0 u1 u2 : Addr) (p1 : Int32) : entryFrame m #[xi p1] 2 = (mkF m 0 #[vi p1, vu] []) := by first | (simp [entryFrame, mkF, argsToLocals, Value.category]; done) | rfl
set_option maxRecDepth 65536 in
set_option maxHeartbeats 40000000 in
theorem own_c15_pick (l : Launch) (Z : State) (a0 : Array Value) (hw : ∀ d ∈ tables_1, d.before a0 Z = true) (u0 u1 u2 : Addr) (G : own_St Z u0 u1 u2) (p1 : Int32) (as1 : ((p1 &&& (2147483647 : Int32)) - ((p1 &&& (2147483647 : Int32)) / (3 : Int32)) * (3 : Int32)) = (1 : Int32)) (h0 : Heap) (n0 : Nat) (O0 : Old Z n0 h0) : own_Met l Z Y0 method_2_code 2 (some (.object "com/example/arbitrium/arbitrium/policy/Truth")) ({ frames := 0, cells := 0, slots := 0, locals := 0 } : Room) #[xi p1] h0 (own_QR (some (xr u1)) h0 n0) := by
  intro ws
  refine MetFree.of_bodySF (plainFor_of_name pn0) hisR ?_
  intro p e s m args below meth c s₁ Bd hml0 hP hK
  obtain ⟨rfl, hZ, hh⟩ := hP
  have hx := Bd.exec
  have hby := Bd.bytes
  have hml : c.maxLocals = 2 := hml0
  have hown : s.vm.findClass "com/example/arbitrium/arbitrium/policy/TruthNotPinLaw" = some m.cls := findClass_of_methodNamed Bd.named
  have hnm := (name_of_methodNamed Bd.named Bd.method).1
  have X0 : Stand p l e ({ frames := 0, cells := 0, slots := 0, locals := 0 } : Room) s m #[xi p1] below meth c s₁ [] 0 0 := Stand.of_body Bd
  have e0 : s₁.heap = h0 := by rw [← hh, Bd.state]; rfl
  have N0 := Fr.nil n0
  have pre0 : ∀ t, Steps p.tables e below (s₁.setTop (mkF m 0 #[vi p1, vu] [])) t → Steps p.tables e below (s₁.setTop (entryFrame m #[xi p1] 2)) t := fun t k => castTop (ef_own_c15_pick m u0 u1 u2 p1) k
  obtain ⟨T1, X1, e1, st1⟩ := getS2 X0 hx hZ hown (host := "") (Or.inl (ww hw 31 rfl)) Via.refl e0 ((own_S_u1 G).ext O0.2) (g := (mkF m 20 #[vi p1, vi (1 : Int32)] [])) rfl (hb hby d1_20)
  obtain ⟨fs, hr, hrun, hended, hW, hsame⟩ := X1.leave (v := some (xr u1)) (fun h => by rw [Bd.returns] at h; cases h)
  refine ⟨_, _, pre0 _ ?_, hrun, hended, _, _, rfl, ?_, ⟨_, rfl⟩, hW, hsame.mono (by decide) (by decide)⟩
  · show own_S p e below s₁ (mkF m 0 #[vi p1, vu] []) _
    refine XS.iloadN X0.here hx rfl (hb hby d1_0) rfl ?_
    show own_S p e below s₁ (mkF m 1 #[vi p1, vu] [xi p1]) _
    refine X0.ldcI hx hown (mvT hZ (ww hw 4 rfl)) (g := (mkF m 1 #[vi p1, vu] [xi p1])) rfl (hb hby d1_1) ?_
    show own_S p e below s₁ (mkF m 3 #[vi p1, vu] [xi (2147483647 : Int32), xi p1]) _
    refine XS.iand X0.here hx rfl (hb hby d1_3) rfl ?_
    show own_S p e below s₁ (mkF m 4 #[vi p1, vu] [xi (p1 &&& (2147483647 : Int32))]) _
    show own_S p e below s₁ (mkF m 4 #[vi p1, vu] [xi (p1 &&& (2147483647 : Int32))]) _
    refine XS.iconst X0.here hx rfl (hb hby d1_4) ?_
    show own_S p e below s₁ (mkF m 5 #[vi p1, vu] [xi (3 : Int32), xi (p1 &&& (2147483647 : Int32))]) _
    refine XS.irem X0.here hx rfl (hb hby d1_5) rfl (by decide) ?_
    show own_S p e below s₁ (mkF m 6 #[vi p1, vu] [xi ((p1 &&& (2147483647 : Int32)) - ((p1 &&& (2147483647 : Int32)) / (3 : Int32)) * (3 : Int32))]) _
    refine castTop (show (mkF m 6 #[vi p1, vu] [xi ((p1 &&& (2147483647 : Int32)) - ((p1 &&& (2147483647 : Int32)) / (3 : Int32)) * (3 : Int32))]) = (mkF m 6 #[vi p1, vu] [xi (1 : Int32)]) from by rw [as1]) ?_
    show own_S p e below s₁ (mkF m 6 #[vi p1, vu] [xi (1 : Int32)]) _
    refine XS.istoreN X0.here hx rfl (hb hby d1_6) rfl (l' := #[vi p1, vi (1 : Int32)]) rfl ?_
    show own_S p e below s₁ (mkF m 7 #[vi p1, vi (1 : Int32)] []) _
    refine XS.iloadN X0.here hx rfl (hb hby d1_7) rfl ?_
    show own_S p e below s₁ (mkF m 8 #[vi p1, vi (1 : Int32)] [xi (1 : Int32)]) _
    refine XS.ifYes X0.here hx rfl (pc0 := 8) (pc' := 15) rfl (hb hby d1_8) rfl (by decide) (by decide) (by decide) ?_
    show own_S p e below s₁ (mkF m 15 #[vi p1, vi (1 : Int32)] []) _
    refine XS.iloadN X0.here hx rfl (hb hby d1_15) rfl ?_
    show own_S p e below s₁ (mkF m 16 #[vi p1, vi (1 : Int32)] [xi (1 : Int32)]) _
    refine XS.iconst X0.here hx rfl (hb hby d1_16) ?_
    show own_S p e below s₁ (mkF m 17 #[vi p1, vi (1 : Int32)] [xi (1 : Int32), xi (1 : Int32)]) _
    refine XS.icmpNo X0.here hx rfl (hb hby d1_17) rfl (by decide) ?_
    show own_S p e below s₁ (mkF m 20 #[vi p1, vi (1 : Int32)] []) _
    refine st1 _ ?_
    show own_S p e below T1 (mkF m 23 #[vi p1, vi (1 : Int32)] [xr u1]) _
    exact X1.areturnOut hx rfl Bd.returns rfl (hb hby d1_23) hr
  · exact ⟨rfl, N0, e1⟩
theorem ef_own_c16_and (m : MethodId) (u0 u1 u2 : Addr) : entryFrame m #[xr u1, xr u0] 2 = (mkF m 0 #[vr u1, vr u0] []) := by first | (simp [entryFrame, mkF, argsToLocals, Value.category]; done) | rfl
set_option maxRecDepth 65536 in
set_option maxHeartbeats 40000000 in
theorem own_c16_and (l : Launch) (Z : State) (a0 : Array Value) (hw : ∀ d ∈ tables_1, d.before a0 Z = true) (u0 u1 u2 : Addr) (G : own_St Z u0 u1 u2) (h0 : Heap) (n0 : Nat) (O0 : Old Z n0 h0) : own_Met l Z Y3 prog_71_method_5_code 2 (some (.object "com/example/arbitrium/arbitrium/policy/Truth")) ({ frames := 0, cells := 0, slots := 0, locals := 0 } : Room) #[xr u1, xr u0] h0 (own_QR (some (xr u1)) h0 n0) := by
  intro ws
  refine MetFree.of_bodySF (plainFor_of_name pn1) hisR ?_
  intro p e s m args below meth c s₁ Bd hml0 hP hK
  obtain ⟨rfl, hZ, hh⟩ := hP
  have hx := Bd.exec
  have hby := Bd.bytes
  have hml : c.maxLocals = 2 := hml0
  have hown : s.vm.findClass "com/example/arbitrium/arbitrium/policy/Truth" = some m.cls := findClass_of_methodNamed Bd.named
  have hnm := (name_of_methodNamed Bd.named Bd.method).1
  have X0 : Stand p l e ({ frames := 0, cells := 0, slots := 0, locals := 0 } : Room) s m #[xr u1, xr u0] below meth c s₁ [] 0 0 := Stand.of_body Bd
  have e0 : s₁.heap = h0 := by rw [← hh, Bd.state]; rfl
  have N0 := Fr.nil n0
  have pre0 : ∀ t, Steps p.tables e below (s₁.setTop (mkF m 0 #[vr u1, vr u0] [])) t → Steps p.tables e below (s₁.setTop (entryFrame m #[xr u1, xr u0] 2)) t := fun t k => castTop (ef_own_c16_and m u0 u1 u2) k
  obtain ⟨T1, X1, e1, st1⟩ := getS2 X0 hx hZ hown (host := "") (Or.inl (ww hw 12 rfl)) Via.refl e0 ((own_S_u1 G).ext O0.2) (g := (mkF m 1 #[vr u1, vr u0] [xr u1])) rfl (hb hby d4_1)
  obtain ⟨T2, X2, e2, st2⟩ := getS2 X1 hx hZ hown (host := "") (Or.inl (ww hw 12 rfl)) Via.refl e1 ((own_S_u1 G).ext O0.2) (g := (mkF m 14 #[vr u1, vr u0] [])) rfl (hb hby d4_14)
  obtain ⟨fs, hr, hrun, hended, hW, hsame⟩ := X2.leave (v := some (xr u1)) (fun h => by rw [Bd.returns] at h; cases h)
  refine ⟨_, _, pre0 _ ?_, hrun, hended, _, _, rfl, ?_, ⟨_, rfl⟩, hW, hsame.mono (by decide) (by decide)⟩
  · show own_S p e below s₁ (mkF m 0 #[vr u1, vr u0] []) _
    refine XS.aloadN X0.here hx rfl (hb hby d4_0) rfl rfl ?_
    show own_S p e below s₁ (mkF m 1 #[vr u1, vr u0] [xr u1]) _
    refine st1 _ ?_
    show own_S p e below T1 (mkF m 4 #[vr u1, vr u0] [xr u1, xr u1]) _
    refine Jvm.RoadKit.acmp (g := (mkF m 4 #[vr u1, vr u0] [xr u1, xr u1])) X1 hx rfl rfl rfl (pc0 := 4) (pc' := 14) (same := true) rfl (hb hby d4_4) rfl (decide_eq_true rfl) (by decide) (by decide) ?_
    show own_S p e below T1 (mkF m 14 #[vr u1, vr u0] []) _
    refine st2 _ ?_
    show own_S p e below T2 (mkF m 17 #[vr u1, vr u0] [xr u1]) _
    exact X2.areturnOut hx rfl Bd.returns rfl (hb hby d4_17) hr
  · exact ⟨rfl, N0, e2⟩
theorem ef_own_c17_or (m : MethodId) (u0 u1 u2 : Addr) : entryFrame m #[xr u0, xr u1] 2 = (mkF m 0 #[vr u0, vr u1] []) := by first | (simp [entryFrame, mkF, argsToLocals, Value.category]; done) | rfl
set_option maxRecDepth 65536 in
set_option maxHeartbeats 40000000 in
theorem own_c17_or (l : Launch) (Z : State) (a0 : Array Value) (hw : ∀ d ∈ tables_1, d.before a0 Z = true) (u0 u1 u2 : Addr) (G : own_St Z u0 u1 u2) (h0 : Heap) (n0 : Nat) (O0 : Old Z n0 h0) : own_Met l Z Y4 prog_71_method_6_code 2 (some (.object "com/example/arbitrium/arbitrium/policy/Truth")) ({ frames := 0, cells := 0, slots := 0, locals := 0 } : Room) #[xr u0, xr u1] h0 (own_QR (some (xr u0)) h0 n0) := by
  intro ws
  refine MetFree.of_bodySF (plainFor_of_name pn1) hisR ?_
  intro p e s m args below meth c s₁ Bd hml0 hP hK
  obtain ⟨rfl, hZ, hh⟩ := hP
  have hx := Bd.exec
  have hby := Bd.bytes
  have hml : c.maxLocals = 2 := hml0
  have hown : s.vm.findClass "com/example/arbitrium/arbitrium/policy/Truth" = some m.cls := findClass_of_methodNamed Bd.named
  have hnm := (name_of_methodNamed Bd.named Bd.method).1
  have X0 : Stand p l e ({ frames := 0, cells := 0, slots := 0, locals := 0 } : Room) s m #[xr u0, xr u1] below meth c s₁ [] 0 0 := Stand.of_body Bd
  have e0 : s₁.heap = h0 := by rw [← hh, Bd.state]; rfl
  have N0 := Fr.nil n0
  have pre0 : ∀ t, Steps p.tables e below (s₁.setTop (mkF m 0 #[vr u0, vr u1] [])) t → Steps p.tables e below (s₁.setTop (entryFrame m #[xr u0, xr u1] 2)) t := fun t k => castTop (ef_own_c17_or m u0 u1 u2) k
  obtain ⟨T1, X1, e1, st1⟩ := getS2 X0 hx hZ hown (host := "") (Or.inl (ww hw 11 rfl)) Via.refl e0 ((own_S_u0 G).ext O0.2) (g := (mkF m 1 #[vr u0, vr u1] [xr u0])) rfl (hb hby d5_1)
  obtain ⟨T2, X2, e2, st2⟩ := getS2 X1 hx hZ hown (host := "") (Or.inl (ww hw 11 rfl)) Via.refl e1 ((own_S_u0 G).ext O0.2) (g := (mkF m 14 #[vr u0, vr u1] [])) rfl (hb hby d5_14)
  obtain ⟨fs, hr, hrun, hended, hW, hsame⟩ := X2.leave (v := some (xr u0)) (fun h => by rw [Bd.returns] at h; cases h)
  refine ⟨_, _, pre0 _ ?_, hrun, hended, _, _, rfl, ?_, ⟨_, rfl⟩, hW, hsame.mono (by decide) (by decide)⟩
  · show own_S p e below s₁ (mkF m 0 #[vr u0, vr u1] []) _
    refine XS.aloadN X0.here hx rfl (hb hby d5_0) rfl rfl ?_
    show own_S p e below s₁ (mkF m 1 #[vr u0, vr u1] [xr u0]) _
    refine st1 _ ?_
    show own_S p e below T1 (mkF m 4 #[vr u0, vr u1] [xr u0, xr u0]) _
    refine Jvm.RoadKit.acmp (g := (mkF m 4 #[vr u0, vr u1] [xr u0, xr u0])) X1 hx rfl rfl rfl (pc0 := 4) (pc' := 14) (same := true) rfl (hb hby d5_4) rfl (decide_eq_true rfl) (by decide) (by decide) ?_
    show own_S p e below T1 (mkF m 14 #[vr u0, vr u1] []) _
    refine st2 _ ?_
    show own_S p e below T2 (mkF m 17 #[vr u0, vr u1] [xr u0]) _
    exact X2.areturnOut hx rfl Bd.returns rfl (hb hby d5_17) hr
  · exact ⟨rfl, N0, e2⟩
theorem ef_own_l6 (m : MethodId) (u0 u1 u2 : Addr) (p1 : Int32) (p2 : Int32) (p3 : Int32) : entryFrame m #[xi p1, xi p2, xi p3] maxLocals = (mkF m 0 #[vi p1, vi p2, vi p3, vu, vu, vu, vu, vu, vu] []) := by first | (simp [entryFrame, mkF, argsToLocals, Value.category, maxLocals]; done) | rfl
set_option maxRecDepth 65536 in
set_option maxHeartbeats 40000000 in
theorem own_l6 (l : Launch) (Z : State) (a0 : Array Value) (hw : ∀ d ∈ tables_1, d.before a0 Z = true) (u0 u1 u2 : Addr) (G : own_St Z u0 u1 u2) (p1 : Int32) (p2 : Int32) (p3 : Int32) (as6 : (p3 &&& (1 : Int32)) = (0 : Int32)) (as1 : ((p1 &&& (2147483647 : Int32)) - ((p1 &&& (2147483647 : Int32)) / (3 : Int32)) * (3 : Int32)) = (1 : Int32)) (as3 : ((p2 &&& (2147483647 : Int32)) - ((p2 &&& (2147483647 : Int32)) / (3 : Int32)) * (3 : Int32)) = (0 : Int32)) (h0 : Heap) (n0 : Nat) (O0 : Old Z n0 h0) : own_Met l Z x code maxLocals ret room_1 #[xi p1, xi p2, xi p3] h0 (own_QL (some (xi (1 : Int32))) n0) := by
  intro ws
  refine MetFree.of_bodySF (plainFor_of_name pn0) hisR ?_
  intro p e s m args below meth c s₁ Bd hml0 hP hK
  obtain ⟨rfl, hZ, hh⟩ := hP
  have hx := Bd.exec
  have hby := Bd.bytes
  have hml : c.maxLocals = 9 := hml0
  have hown : s.vm.findClass "com/example/arbitrium/arbitrium/policy/TruthNotPinLaw" = some m.cls := findClass_of_methodNamed Bd.named
  have hnm := (name_of_methodNamed Bd.named Bd.method).1
  have X0 : Stand p l e room_1 s m #[xi p1, xi p2, xi p3] below meth c s₁ [] 0 0 := Stand.of_body Bd
  have e0 : s₁.heap = h0 := by rw [← hh, Bd.state]; rfl
  have N0 := Fr.nil n0
  have pre0 : ∀ t, Steps p.tables e below (s₁.setTop (mkF m 0 #[vi p1, vi p2, vi p3, vu, vu, vu, vu, vu, vu] [])) t → Steps p.tables e below (s₁.setTop (entryFrame m #[xi p1, xi p2, xi p3] maxLocals)) t := fun t k => castTop (ef_own_l6 m u0 u1 u2 p1 p2 p3) k
  obtain ⟨_, _, ⟨T1, L1, k1, n1⟩, -, X1, ⟨Lc1, hQ1, l1, y1, z1⟩, st1⟩ := Jvm.LawKit.callS X0 hx (y := Y0) hown (mvT hZ (ww hw 0 rfl)) (mvT hZ (ww hw 1 rfl)) (mvT hZ (ww hw 2 rfl)) (mvT hZ (ww hw 3 rfl)) (by decide) (backOf (W := 0) (own_c15_pick l Z a0 hw u0 u1 u2 G p1 as1 h0 n0 O0 []) hZ (ww hw 3 rfl) (ww hw 2 rfl) (by decide) (by decide)) (g := (mkF m 13 #[vi p1, vi p2, vi p3, vi (0 : Int32), vu, vu, vu, vu, vu] [xi p1])) rfl (by rw [hml]; rfl) (argsL := [xi p1]) (rest := []) (lenOf pd0 rfl) rfl (by show 2 * 0 + _ ≤ _; exact Nat.le_of_eq rfl) (hb hby at_13) (fun _ _ => ⟨rfl, e0, (by decide : 0 + 0 ≤ _), (by decide : 0 + 0 ≤ _)⟩)
  dsimp only [Pt.U, Pt.locs, Pt.cells, Pt.slots] at X1 l1 y1 z1 st1 hQ1
  subst l1 y1 z1
  obtain ⟨rfl, Nq1, e1⟩ := hQ1
  have N1 := Fr.app N0 Nq1
  obtain ⟨_, _, ⟨T2, L2, k2, n2⟩, -, X2, ⟨Lc2, hQ2, l2, y2, z2⟩, st2⟩ := Jvm.LawKit.callS X1 hx (y := Y0) hown (mvT hZ (ww hw 0 rfl)) (mvT hZ (ww hw 1 rfl)) (mvT hZ (ww hw 2 rfl)) (mvT hZ (ww hw 3 rfl)) (by decide) (backOf (W := 0) (own_c1_pick l Z a0 hw u0 u1 u2 G p2 as3 h0 n0 O0 []) hZ (ww hw 3 rfl) (ww hw 2 rfl) (by decide) (by decide)) (g := (mkF m 19 #[vi p1, vi p2, vi p3, vi (0 : Int32), vr u1, vu, vu, vu, vu] [xi p2])) rfl (by rw [hml]; rfl) (argsL := [xi p2]) (rest := []) (lenOf pd0 rfl) rfl (by show 2 * 0 + _ ≤ _; exact Nat.le_of_eq rfl) (hb hby at_19) (fun _ _ => ⟨rfl, e1, (by decide : 0 + 0 ≤ _), (by decide : 0 + 0 ≤ _)⟩)
  dsimp only [Pt.U, Pt.locs, Pt.cells, Pt.slots] at X2 l2 y2 z2 st2 hQ2
  subst l2 y2 z2
  obtain ⟨rfl, Nq2, e2⟩ := hQ2
  have N2 := Fr.app N1 Nq2
  obtain ⟨_, _, ⟨T3, L3, k3, n3⟩, -, X3, ⟨Lc3, hQ3, l3, y3, z3⟩, st3⟩ := Jvm.LawKit.callS X2 hx (y := Y1) hown (mvT hZ (ww hw 8 rfl)) (mvT hZ (ww hw 9 rfl)) (mvT hZ (ww hw 6 rfl)) (mvT hZ (ww hw 10 rfl)) (by decide) (backOf (W := 0) (own_c2_of l Z a0 hw u0 u1 u2 G h0 n0 O0 []) hZ (ww hw 10 rfl) (ww hw 6 rfl) (by decide) (by decide)) (g := (mkF m 33 #[vi p1, vi p2, vi p3, vi (0 : Int32), vr u1, vr u0, vu, vu, vu] [xi (1 : Int32)])) rfl (by rw [hml]; rfl) (argsL := [xi (1 : Int32)]) (rest := []) (lenOf pd1 rfl) rfl (by show 2 * 0 + _ ≤ _; exact Nat.le_of_eq rfl) (hb hby at_33) (fun _ _ => ⟨rfl, e2, (by decide : 0 + 0 ≤ _), (by decide : 0 + 0 ≤ _)⟩)
  dsimp only [Pt.U, Pt.locs, Pt.cells, Pt.slots] at X3 l3 y3 z3 st3 hQ3
  subst l3 y3 z3
  obtain ⟨rfl, Nq3, e3⟩ := hQ3
  have N3 := Fr.app N2 Nq3
  obtain ⟨_, _, ⟨T4, L4, k4, n4⟩, -, X4, ⟨Lc4, hQ4, l4, y4, z4⟩, st4⟩ := Jvm.LawKit.callS X3 hx (y := Y1) hown (mvT hZ (ww hw 8 rfl)) (mvT hZ (ww hw 9 rfl)) (mvT hZ (ww hw 6 rfl)) (mvT hZ (ww hw 10 rfl)) (by decide) (backOf (W := 1) (own_c3_of l Z a0 hw u0 u1 u2 G h0 n0 O0 []) hZ (ww hw 10 rfl) (ww hw 6 rfl) (by decide) (by decide)) (g := (mkF m 37 #[vi p1, vi p2, vi p3, vi (0 : Int32), vr u1, vr u0, vu, vu, vu] [xi (0 : Int32), xr u0])) rfl (by rw [hml]; rfl) (argsL := [xi (0 : Int32)]) (rest := [xr u0]) (lenOf pd1 rfl) rfl (by show 2 * 0 + _ ≤ _; exact Nat.le_of_eq rfl) (hb hby at_37) (fun _ _ => ⟨rfl, e3, (by decide : 0 + 0 ≤ _), (by decide : 0 + 0 ≤ _)⟩)
  dsimp only [Pt.U, Pt.locs, Pt.cells, Pt.slots] at X4 l4 y4 z4 st4 hQ4
  subst l4 y4 z4
  obtain ⟨rfl, Nq4, e4⟩ := hQ4
  have N4 := Fr.app N3 Nq4
  obtain ⟨cq5, kq5, qa5, qb5, qc5⟩ := isOf hZ e4 ((own_X_u1 G).ext O0.2)
  obtain ⟨_, _, ⟨T5, L5, k5, n5⟩, -, X5, ⟨Lc5, hQ5, l5, y5, z5⟩, st5⟩ := X4.virtualBack hx (y := Y2) (z := Y2) hown (mvT hZ (ww hw 14 rfl)) (mvT hZ (ww hw 15 rfl)) (notFace_of_selects (args := #[]) (mvT hZ (ww hw 17 rfl))) (mvT hZ (ww hw 17 rfl)) (mvT hZ (ww hw 16 rfl)) (by decide) (backOf (W := 1) (own_c4_not l Z a0 hw u0 u1 u2 G h0 n0 O0 []) hZ (ww hw 18 rfl) (ww hw 6 rfl) (by decide) (by decide)) qa5 qc5 (g := (mkF m 40 #[vi p1, vi p2, vi p3, vi (0 : Int32), vr u1, vr u0, vu, vu, vu] [xr u1, xr u0])) rfl (by rw [hml]; rfl) (Steps.refl _) (argsL := []) (rest := [xr u0]) (lenOf pd2 rfl) rfl (by show 2 * 0 + _ ≤ _; exact Nat.le_of_eq rfl) (hb hby at_40) (fun _ _ => ⟨rfl, e4, (by decide : 0 + 0 ≤ _), (by decide : 0 + 0 ≤ _)⟩)
  dsimp only [Pt.U, Pt.locs, Pt.cells, Pt.slots] at X5 l5 y5 z5 st5 hQ5
  subst l5 y5 z5
  obtain ⟨rfl, Nq5, e5⟩ := hQ5
  have N5 := Fr.app N4 Nq5
  obtain ⟨cq6, kq6, qa6, qb6, qc6⟩ := isOf hZ e5 ((own_X_u1 G).ext O0.2)
  obtain ⟨_, _, ⟨T6, L6, k6, n6⟩, -, X6, ⟨Lc6, hQ6, l6, y6, z6⟩, st6⟩ := X5.virtualBack hx (y := Y2) (z := Y2) hown (mvT hZ (ww hw 14 rfl)) (mvT hZ (ww hw 15 rfl)) (notFace_of_selects (args := #[]) (mvT hZ (ww hw 17 rfl))) (mvT hZ (ww hw 17 rfl)) (mvT hZ (ww hw 16 rfl)) (by decide) (backOf (W := 0) (own_c4_not l Z a0 hw u0 u1 u2 G h0 n0 O0 []) hZ (ww hw 18 rfl) (ww hw 6 rfl) (by decide) (by decide)) qa6 qc6 (g := (mkF m 55 #[vi p1, vi p2, vi p3, vi (0 : Int32), vr u1, vr u0, vi (1 : Int32), vu, vu] [xr u1])) rfl (by rw [hml]; rfl) (Steps.refl _) (argsL := []) (rest := []) (lenOf pd2 rfl) rfl (by show 2 * 0 + _ ≤ _; exact Nat.le_of_eq rfl) (hb hby at_55) (fun _ _ => ⟨rfl, e5, (by decide : 0 + 0 ≤ _), (by decide : 0 + 0 ≤ _)⟩)
  dsimp only [Pt.U, Pt.locs, Pt.cells, Pt.slots] at X6 l6 y6 z6 st6 hQ6
  subst l6 y6 z6
  obtain ⟨rfl, Nq6, e6⟩ := hQ6
  have N6 := Fr.app N5 Nq6
  obtain ⟨cq7, kq7, qa7, qb7, qc7⟩ := isOf hZ e6 ((own_X_u0 G).ext O0.2)
  obtain ⟨_, _, ⟨T7, L7, k7, n7⟩, -, X7, ⟨Lc7, hQ7, l7, y7, z7⟩, st7⟩ := X6.virtualBack hx (y := Y2) (z := Y2) hown (mvT hZ (ww hw 14 rfl)) (mvT hZ (ww hw 15 rfl)) (notFace_of_selects (args := #[]) (mvT hZ (ww hw 17 rfl))) (mvT hZ (ww hw 17 rfl)) (mvT hZ (ww hw 16 rfl)) (by decide) (backOf (W := 0) (own_c5_not l Z a0 hw u0 u1 u2 G h0 n0 O0 []) hZ (ww hw 18 rfl) (ww hw 6 rfl) (by decide) (by decide)) qa7 qc7 (g := (mkF m 58 #[vi p1, vi p2, vi p3, vi (0 : Int32), vr u1, vr u0, vi (1 : Int32), vu, vu] [xr u0])) rfl (by rw [hml]; rfl) (Steps.refl _) (argsL := []) (rest := []) (lenOf pd2 rfl) rfl (by show 2 * 0 + _ ≤ _; exact Nat.le_of_eq rfl) (hb hby at_58) (fun _ _ => ⟨rfl, e6, (by decide : 0 + 0 ≤ _), (by decide : 0 + 0 ≤ _)⟩)
  dsimp only [Pt.U, Pt.locs, Pt.cells, Pt.slots] at X7 l7 y7 z7 st7 hQ7
  subst l7 y7 z7
  obtain ⟨rfl, Nq7, e7⟩ := hQ7
  have N7 := Fr.app N6 Nq7
  obtain ⟨cq8, kq8, qa8, qb8, qc8⟩ := isOf hZ e7 ((own_X_u1 G).ext O0.2)
  obtain ⟨_, _, ⟨T8, L8, k8, n8⟩, -, X8, ⟨Lc8, hQ8, l8, y8, z8⟩, st8⟩ := X7.virtualBack hx (y := Y3) (z := Y3) hown (mvT hZ (ww hw 21 rfl)) (mvT hZ (ww hw 22 rfl)) (notFace_of_selects (args := #[]) (mvT hZ (ww hw 24 rfl))) (mvT hZ (ww hw 24 rfl)) (mvT hZ (ww hw 23 rfl)) (by decide) (backOf (W := 0) (own_c16_and l Z a0 hw u0 u1 u2 G h0 n0 O0 []) hZ (ww hw 25 rfl) (ww hw 6 rfl) (by decide) (by decide)) qa8 qc8 (g := (mkF m 77 #[vi p1, vi p2, vi p3, vi (0 : Int32), vr u1, vr u0, vi (1 : Int32), vi (1 : Int32), vu] [xr u0, xr u1])) rfl (by rw [hml]; rfl) (Steps.refl _) (argsL := [xr u0]) (rest := []) (lenOf pd3 rfl) rfl (by show 2 * 0 + _ ≤ _; exact Nat.le_of_eq rfl) (hb hby at_77) (fun _ _ => ⟨rfl, e7, (by decide : 0 + 0 ≤ _), (by decide : 0 + 0 ≤ _)⟩)
  dsimp only [Pt.U, Pt.locs, Pt.cells, Pt.slots] at X8 l8 y8 z8 st8 hQ8
  subst l8 y8 z8
  obtain ⟨rfl, Nq8, e8⟩ := hQ8
  have N8 := Fr.app N7 Nq8
  obtain ⟨cq9, kq9, qa9, qb9, qc9⟩ := isOf hZ e8 ((own_X_u1 G).ext O0.2)
  obtain ⟨_, _, ⟨T9, L9, k9, n9⟩, -, X9, ⟨Lc9, hQ9, l9, y9, z9⟩, st9⟩ := X8.virtualBack hx (y := Y2) (z := Y2) hown (mvT hZ (ww hw 14 rfl)) (mvT hZ (ww hw 15 rfl)) (notFace_of_selects (args := #[]) (mvT hZ (ww hw 17 rfl))) (mvT hZ (ww hw 17 rfl)) (mvT hZ (ww hw 16 rfl)) (by decide) (backOf (W := 0) (own_c4_not l Z a0 hw u0 u1 u2 G h0 n0 O0 []) hZ (ww hw 18 rfl) (ww hw 6 rfl) (by decide) (by decide)) qa9 qc9 (g := (mkF m 80 #[vi p1, vi p2, vi p3, vi (0 : Int32), vr u1, vr u0, vi (1 : Int32), vi (1 : Int32), vu] [xr u1])) rfl (by rw [hml]; rfl) (Steps.refl _) (argsL := []) (rest := []) (lenOf pd2 rfl) rfl (by show 2 * 0 + _ ≤ _; exact Nat.le_of_eq rfl) (hb hby at_80) (fun _ _ => ⟨rfl, e8, (by decide : 0 + 0 ≤ _), (by decide : 0 + 0 ≤ _)⟩)
  dsimp only [Pt.U, Pt.locs, Pt.cells, Pt.slots] at X9 l9 y9 z9 st9 hQ9
  subst l9 y9 z9
  obtain ⟨rfl, Nq9, e9⟩ := hQ9
  have N9 := Fr.app N8 Nq9
  obtain ⟨cq10, kq10, qa10, qb10, qc10⟩ := isOf hZ e9 ((own_X_u1 G).ext O0.2)
  obtain ⟨_, _, ⟨T10, L10, k10, n10⟩, -, X10, ⟨Lc10, hQ10, l10, y10, z10⟩, st10⟩ := X9.virtualBack hx (y := Y2) (z := Y2) hown (mvT hZ (ww hw 14 rfl)) (mvT hZ (ww hw 15 rfl)) (notFace_of_selects (args := #[]) (mvT hZ (ww hw 17 rfl))) (mvT hZ (ww hw 17 rfl)) (mvT hZ (ww hw 16 rfl)) (by decide) (backOf (W := 1) (own_c4_not l Z a0 hw u0 u1 u2 G h0 n0 O0 []) hZ (ww hw 18 rfl) (ww hw 6 rfl) (by decide) (by decide)) qa10 qc10 (g := (mkF m 85 #[vi p1, vi p2, vi p3, vi (0 : Int32), vr u1, vr u0, vi (1 : Int32), vi (1 : Int32), vu] [xr u1, xr u0])) rfl (by rw [hml]; rfl) (Steps.refl _) (argsL := []) (rest := [xr u0]) (lenOf pd2 rfl) rfl (by show 2 * 0 + _ ≤ _; exact Nat.le_of_eq rfl) (hb hby at_85) (fun _ _ => ⟨rfl, e9, (by decide : 0 + 0 ≤ _), (by decide : 0 + 0 ≤ _)⟩)
  dsimp only [Pt.U, Pt.locs, Pt.cells, Pt.slots] at X10 l10 y10 z10 st10 hQ10
  subst l10 y10 z10
  obtain ⟨rfl, Nq10, e10⟩ := hQ10
  have N10 := Fr.app N9 Nq10
  obtain ⟨cq11, kq11, qa11, qb11, qc11⟩ := isOf hZ e10 ((own_X_u0 G).ext O0.2)
  obtain ⟨_, _, ⟨T11, L11, k11, n11⟩, -, X11, ⟨Lc11, hQ11, l11, y11, z11⟩, st11⟩ := X10.virtualBack hx (y := Y2) (z := Y2) hown (mvT hZ (ww hw 14 rfl)) (mvT hZ (ww hw 15 rfl)) (notFace_of_selects (args := #[]) (mvT hZ (ww hw 17 rfl))) (mvT hZ (ww hw 17 rfl)) (mvT hZ (ww hw 16 rfl)) (by decide) (backOf (W := 2) (own_c5_not l Z a0 hw u0 u1 u2 G h0 n0 O0 []) hZ (ww hw 18 rfl) (ww hw 6 rfl) (by decide) (by decide)) qa11 qc11 (g := (mkF m 90 #[vi p1, vi p2, vi p3, vi (0 : Int32), vr u1, vr u0, vi (1 : Int32), vi (1 : Int32), vu] [xr u0, xr u0, xr u0])) rfl (by rw [hml]; rfl) (Steps.refl _) (argsL := []) (rest := [xr u0, xr u0]) (lenOf pd2 rfl) rfl (by show 2 * 0 + _ ≤ _; exact Nat.le_of_eq rfl) (hb hby at_90) (fun _ _ => ⟨rfl, e10, (by decide : 0 + 0 ≤ _), (by decide : 0 + 0 ≤ _)⟩)
  dsimp only [Pt.U, Pt.locs, Pt.cells, Pt.slots] at X11 l11 y11 z11 st11 hQ11
  subst l11 y11 z11
  obtain ⟨rfl, Nq11, e11⟩ := hQ11
  have N11 := Fr.app N10 Nq11
  obtain ⟨cq12, kq12, qa12, qb12, qc12⟩ := isOf hZ e11 ((own_X_u0 G).ext O0.2)
  obtain ⟨_, _, ⟨T12, L12, k12, n12⟩, -, X12, ⟨Lc12, hQ12, l12, y12, z12⟩, st12⟩ := X11.virtualBack hx (y := Y4) (z := Y4) hown (mvT hZ (ww hw 26 rfl)) (mvT hZ (ww hw 27 rfl)) (notFace_of_selects (args := #[]) (mvT hZ (ww hw 29 rfl))) (mvT hZ (ww hw 29 rfl)) (mvT hZ (ww hw 28 rfl)) (by decide) (backOf (W := 1) (own_c17_or l Z a0 hw u0 u1 u2 G h0 n0 O0 []) hZ (ww hw 30 rfl) (ww hw 6 rfl) (by decide) (by decide)) qa12 qc12 (g := (mkF m 93 #[vi p1, vi p2, vi p3, vi (0 : Int32), vr u1, vr u0, vi (1 : Int32), vi (1 : Int32), vu] [xr u1, xr u0, xr u0])) rfl (by rw [hml]; rfl) (Steps.refl _) (argsL := [xr u1]) (rest := [xr u0]) (lenOf pd3 rfl) rfl (by show 2 * 0 + _ ≤ _; exact Nat.le_of_eq rfl) (hb hby at_93) (fun _ _ => ⟨rfl, e11, (by decide : 0 + 0 ≤ _), (by decide : 0 + 0 ≤ _)⟩)
  dsimp only [Pt.U, Pt.locs, Pt.cells, Pt.slots] at X12 l12 y12 z12 st12 hQ12
  subst l12 y12 z12
  obtain ⟨rfl, Nq12, e12⟩ := hQ12
  have N12 := Fr.app N11 Nq12
  obtain ⟨fs, hr, hrun, hended, hW, hsame⟩ := X12.leave (v := some (xi (1 : Int32))) (fun h => by rw [Bd.returns] at h; cases h)
  refine ⟨_, _, pre0 _ ?_, hrun, hended, _, _, rfl, ?_, ⟨_, rfl⟩, hW, hsame.mono (by decide) (by decide)⟩
  · show own_S p e below s₁ (mkF m 0 #[vi p1, vi p2, vi p3, vu, vu, vu, vu, vu, vu] []) _
    refine XS.iloadN X0.here hx rfl (hb hby at_0) rfl ?_
    show own_S p e below s₁ (mkF m 1 #[vi p1, vi p2, vi p3, vu, vu, vu, vu, vu, vu] [xi p3]) _
    refine XS.iconst X0.here hx rfl (hb hby at_1) ?_
    show own_S p e below s₁ (mkF m 2 #[vi p1, vi p2, vi p3, vu, vu, vu, vu, vu, vu] [xi (1 : Int32), xi p3]) _
    refine XS.iand X0.here hx rfl (hb hby at_2) rfl ?_
    show own_S p e below s₁ (mkF m 3 #[vi p1, vi p2, vi p3, vu, vu, vu, vu, vu, vu] [xi (p3 &&& (1 : Int32))]) _
    refine castTop (show (mkF m 3 #[vi p1, vi p2, vi p3, vu, vu, vu, vu, vu, vu] [xi (p3 &&& (1 : Int32))]) = (mkF m 3 #[vi p1, vi p2, vi p3, vu, vu, vu, vu, vu, vu] [xi (0 : Int32)]) from by rw [as6]) ?_
    show own_S p e below s₁ (mkF m 3 #[vi p1, vi p2, vi p3, vu, vu, vu, vu, vu, vu] [xi (0 : Int32)]) _
    refine XS.ifYes X0.here hx rfl (pc0 := 3) (pc' := 10) rfl (hb hby at_3) rfl (by decide) (by decide) (by decide) ?_
    show own_S p e below s₁ (mkF m 10 #[vi p1, vi p2, vi p3, vu, vu, vu, vu, vu, vu] []) _
    refine XS.iconst X0.here hx rfl (hb hby at_10) ?_
    show own_S p e below s₁ (mkF m 11 #[vi p1, vi p2, vi p3, vu, vu, vu, vu, vu, vu] [xi (0 : Int32)]) _
    refine XS.istoreN X0.here hx rfl (hb hby at_11) rfl (l' := #[vi p1, vi p2, vi p3, vi (0 : Int32), vu, vu, vu, vu, vu]) rfl ?_
    show own_S p e below s₁ (mkF m 12 #[vi p1, vi p2, vi p3, vi (0 : Int32), vu, vu, vu, vu, vu] []) _
    refine XS.iloadN X0.here hx rfl (hb hby at_12) rfl ?_
    show own_S p e below s₁ (mkF m 13 #[vi p1, vi p2, vi p3, vi (0 : Int32), vu, vu, vu, vu, vu] [xi p1]) _
    refine st1 _ ?_
    show own_S p e below T1 (mkF m 16 #[vi p1, vi p2, vi p3, vi (0 : Int32), vu, vu, vu, vu, vu] [xr u1]) _
    refine XS.astore X1.here hx rfl (hb hby at_16) rfl rfl (l' := #[vi p1, vi p2, vi p3, vi (0 : Int32), vr u1, vu, vu, vu, vu]) rfl ?_
    show own_S p e below T1 (mkF m 18 #[vi p1, vi p2, vi p3, vi (0 : Int32), vr u1, vu, vu, vu, vu] []) _
    refine XS.iloadN X1.here hx rfl (hb hby at_18) rfl ?_
    show own_S p e below T1 (mkF m 19 #[vi p1, vi p2, vi p3, vi (0 : Int32), vr u1, vu, vu, vu, vu] [xi p2]) _
    refine st2 _ ?_
    show own_S p e below T2 (mkF m 22 #[vi p1, vi p2, vi p3, vi (0 : Int32), vr u1, vu, vu, vu, vu] [xr u0]) _
    refine XS.astore X2.here hx rfl (hb hby at_22) rfl rfl (l' := #[vi p1, vi p2, vi p3, vi (0 : Int32), vr u1, vr u0, vu, vu, vu]) rfl ?_
    show own_S p e below T2 (mkF m 24 #[vi p1, vi p2, vi p3, vi (0 : Int32), vr u1, vr u0, vu, vu, vu] []) _
    refine XS.iloadN X2.here hx rfl (hb hby at_24) rfl ?_
    show own_S p e below T2 (mkF m 25 #[vi p1, vi p2, vi p3, vi (0 : Int32), vr u1, vr u0, vu, vu, vu] [xi (0 : Int32)]) _
    refine XS.ifNo X2.here hx rfl (hb hby at_25) rfl (by decide) ?_
    show own_S p e below T2 (mkF m 28 #[vi p1, vi p2, vi p3, vi (0 : Int32), vr u1, vr u0, vu, vu, vu] []) _
    refine XS.iconst X2.here hx rfl (hb hby at_28) ?_
    show own_S p e below T2 (mkF m 29 #[vi p1, vi p2, vi p3, vi (0 : Int32), vr u1, vr u0, vu, vu, vu] [xi (1 : Int32)]) _
    refine XS.goto X2.here hx rfl (pc0 := 29) (pc' := 33) rfl (hb hby at_29) (by decide) (by decide) ?_
    show own_S p e below T2 (mkF m 33 #[vi p1, vi p2, vi p3, vi (0 : Int32), vr u1, vr u0, vu, vu, vu] [xi (1 : Int32)]) _
    refine st3 _ ?_
    show own_S p e below T3 (mkF m 36 #[vi p1, vi p2, vi p3, vi (0 : Int32), vr u1, vr u0, vu, vu, vu] [xr u0]) _
    refine XS.iloadN X3.here hx rfl (hb hby at_36) rfl ?_
    show own_S p e below T3 (mkF m 37 #[vi p1, vi p2, vi p3, vi (0 : Int32), vr u1, vr u0, vu, vu, vu] [xi (0 : Int32), xr u0]) _
    refine st4 _ ?_
    show own_S p e below T4 (mkF m 40 #[vi p1, vi p2, vi p3, vi (0 : Int32), vr u1, vr u0, vu, vu, vu] [xr u1, xr u0]) _
    refine st5.trans ?_
    show own_S p e below T5 (mkF m 43 #[vi p1, vi p2, vi p3, vi (0 : Int32), vr u1, vr u0, vu, vu, vu] [xr u0, xr u0]) _
    refine Jvm.RoadKit.acmp (g := (mkF m 43 #[vi p1, vi p2, vi p3, vi (0 : Int32), vr u1, vr u0, vu, vu, vu] [xr u0, xr u0])) X5 hx rfl rfl rfl (pc0 := 43) (pc' := 46) (same := true) rfl (hb hby at_43) rfl (decide_eq_true rfl) (by decide) (by decide) ?_
    show own_S p e below T5 (mkF m 46 #[vi p1, vi p2, vi p3, vi (0 : Int32), vr u1, vr u0, vu, vu, vu] []) _
    refine XS.iconst X5.here hx rfl (hb hby at_46) ?_
    show own_S p e below T5 (mkF m 47 #[vi p1, vi p2, vi p3, vi (0 : Int32), vr u1, vr u0, vu, vu, vu] [xi (1 : Int32)]) _
    refine XS.goto X5.here hx rfl (pc0 := 47) (pc' := 51) rfl (hb hby at_47) (by decide) (by decide) ?_
    show own_S p e below T5 (mkF m 51 #[vi p1, vi p2, vi p3, vi (0 : Int32), vr u1, vr u0, vu, vu, vu] [xi (1 : Int32)]) _
    refine XS.istore X5.here hx rfl (hb hby at_51) rfl (l' := #[vi p1, vi p2, vi p3, vi (0 : Int32), vr u1, vr u0, vi (1 : Int32), vu, vu]) rfl ?_
    show own_S p e below T5 (mkF m 53 #[vi p1, vi p2, vi p3, vi (0 : Int32), vr u1, vr u0, vi (1 : Int32), vu, vu] []) _
    refine XS.aload X5.here hx rfl (hb hby at_53) rfl rfl ?_
    show own_S p e below T5 (mkF m 55 #[vi p1, vi p2, vi p3, vi (0 : Int32), vr u1, vr u0, vi (1 : Int32), vu, vu] [xr u1]) _
    refine st6.trans ?_
    show own_S p e below T6 (mkF m 58 #[vi p1, vi p2, vi p3, vi (0 : Int32), vr u1, vr u0, vi (1 : Int32), vu, vu] [xr u0]) _
    refine st7.trans ?_
    show own_S p e below T7 (mkF m 61 #[vi p1, vi p2, vi p3, vi (0 : Int32), vr u1, vr u0, vi (1 : Int32), vu, vu] [xr u1]) _
    refine XS.aload X7.here hx rfl (hb hby at_61) rfl rfl ?_
    show own_S p e below T7 (mkF m 63 #[vi p1, vi p2, vi p3, vi (0 : Int32), vr u1, vr u0, vi (1 : Int32), vu, vu] [xr u1, xr u1]) _
    refine Jvm.RoadKit.acmp (g := (mkF m 63 #[vi p1, vi p2, vi p3, vi (0 : Int32), vr u1, vr u0, vi (1 : Int32), vu, vu] [xr u1, xr u1])) X7 hx rfl rfl rfl (pc0 := 63) (pc' := 66) (same := true) rfl (hb hby at_63) rfl (decide_eq_true rfl) (by decide) (by decide) ?_
    show own_S p e below T7 (mkF m 66 #[vi p1, vi p2, vi p3, vi (0 : Int32), vr u1, vr u0, vi (1 : Int32), vu, vu] []) _
    refine XS.iconst X7.here hx rfl (hb hby at_66) ?_
    show own_S p e below T7 (mkF m 67 #[vi p1, vi p2, vi p3, vi (0 : Int32), vr u1, vr u0, vi (1 : Int32), vu, vu] [xi (1 : Int32)]) _
    refine XS.goto X7.here hx rfl (pc0 := 67) (pc' := 71) rfl (hb hby at_67) (by decide) (by decide) ?_
    show own_S p e below T7 (mkF m 71 #[vi p1, vi p2, vi p3, vi (0 : Int32), vr u1, vr u0, vi (1 : Int32), vu, vu] [xi (1 : Int32)]) _
    refine XS.istore X7.here hx rfl (hb hby at_71) rfl (l' := #[vi p1, vi p2, vi p3, vi (0 : Int32), vr u1, vr u0, vi (1 : Int32), vi (1 : Int32), vu]) rfl ?_
    show own_S p e below T7 (mkF m 73 #[vi p1, vi p2, vi p3, vi (0 : Int32), vr u1, vr u0, vi (1 : Int32), vi (1 : Int32), vu] []) _
    refine XS.aload X7.here hx rfl (hb hby at_73) rfl rfl ?_
    show own_S p e below T7 (mkF m 75 #[vi p1, vi p2, vi p3, vi (0 : Int32), vr u1, vr u0, vi (1 : Int32), vi (1 : Int32), vu] [xr u1]) _
    refine XS.aload X7.here hx rfl (hb hby at_75) rfl rfl ?_
    show own_S p e below T7 (mkF m 77 #[vi p1, vi p2, vi p3, vi (0 : Int32), vr u1, vr u0, vi (1 : Int32), vi (1 : Int32), vu] [xr u0, xr u1]) _
    refine st8.trans ?_
    show own_S p e below T8 (mkF m 80 #[vi p1, vi p2, vi p3, vi (0 : Int32), vr u1, vr u0, vi (1 : Int32), vi (1 : Int32), vu] [xr u1]) _
    refine st9.trans ?_
    show own_S p e below T9 (mkF m 83 #[vi p1, vi p2, vi p3, vi (0 : Int32), vr u1, vr u0, vi (1 : Int32), vi (1 : Int32), vu] [xr u0]) _
    refine XS.aload X9.here hx rfl (hb hby at_83) rfl rfl ?_
    show own_S p e below T9 (mkF m 85 #[vi p1, vi p2, vi p3, vi (0 : Int32), vr u1, vr u0, vi (1 : Int32), vi (1 : Int32), vu] [xr u1, xr u0]) _
    refine st10.trans ?_
    show own_S p e below T10 (mkF m 88 #[vi p1, vi p2, vi p3, vi (0 : Int32), vr u1, vr u0, vi (1 : Int32), vi (1 : Int32), vu] [xr u0, xr u0]) _
    refine XS.aload X10.here hx rfl (hb hby at_88) rfl rfl ?_
    show own_S p e below T10 (mkF m 90 #[vi p1, vi p2, vi p3, vi (0 : Int32), vr u1, vr u0, vi (1 : Int32), vi (1 : Int32), vu] [xr u0, xr u0, xr u0]) _
    refine st11.trans ?_
    show own_S p e below T11 (mkF m 93 #[vi p1, vi p2, vi p3, vi (0 : Int32), vr u1, vr u0, vi (1 : Int32), vi (1 : Int32), vu] [xr u1, xr u0, xr u0]) _
    refine st12.trans ?_
    show own_S p e below T12 (mkF m 96 #[vi p1, vi p2, vi p3, vi (0 : Int32), vr u1, vr u0, vi (1 : Int32), vi (1 : Int32), vu] [xr u0, xr u0]) _
    refine Jvm.RoadKit.acmp (g := (mkF m 96 #[vi p1, vi p2, vi p3, vi (0 : Int32), vr u1, vr u0, vi (1 : Int32), vi (1 : Int32), vu] [xr u0, xr u0])) X12 hx rfl rfl rfl (pc0 := 96) (pc' := 99) (same := true) rfl (hb hby at_96) rfl (decide_eq_true rfl) (by decide) (by decide) ?_
    show own_S p e below T12 (mkF m 99 #[vi p1, vi p2, vi p3, vi (0 : Int32), vr u1, vr u0, vi (1 : Int32), vi (1 : Int32), vu] []) _
    refine XS.iconst X12.here hx rfl (hb hby at_99) ?_
    show own_S p e below T12 (mkF m 100 #[vi p1, vi p2, vi p3, vi (0 : Int32), vr u1, vr u0, vi (1 : Int32), vi (1 : Int32), vu] [xi (1 : Int32)]) _
    refine XS.goto X12.here hx rfl (pc0 := 100) (pc' := 104) rfl (hb hby at_100) (by decide) (by decide) ?_
    show own_S p e below T12 (mkF m 104 #[vi p1, vi p2, vi p3, vi (0 : Int32), vr u1, vr u0, vi (1 : Int32), vi (1 : Int32), vu] [xi (1 : Int32)]) _
    refine XS.istore X12.here hx rfl (hb hby at_104) rfl (l' := #[vi p1, vi p2, vi p3, vi (0 : Int32), vr u1, vr u0, vi (1 : Int32), vi (1 : Int32), vi (1 : Int32)]) rfl ?_
    show own_S p e below T12 (mkF m 106 #[vi p1, vi p2, vi p3, vi (0 : Int32), vr u1, vr u0, vi (1 : Int32), vi (1 : Int32), vi (1 : Int32)] []) _
    refine XS.iload X12.here hx rfl (hb hby at_106) rfl ?_
    show own_S p e below T12 (mkF m 108 #[vi p1, vi p2, vi p3, vi (0 : Int32), vr u1, vr u0, vi (1 : Int32), vi (1 : Int32), vi (1 : Int32)] [xi (1 : Int32)]) _
    refine XS.ifNo X12.here hx rfl (hb hby at_108) rfl (by decide) ?_
    show own_S p e below T12 (mkF m 111 #[vi p1, vi p2, vi p3, vi (0 : Int32), vr u1, vr u0, vi (1 : Int32), vi (1 : Int32), vi (1 : Int32)] []) _
    refine XS.iload X12.here hx rfl (hb hby at_111) rfl ?_
    show own_S p e below T12 (mkF m 113 #[vi p1, vi p2, vi p3, vi (0 : Int32), vr u1, vr u0, vi (1 : Int32), vi (1 : Int32), vi (1 : Int32)] [xi (1 : Int32)]) _
    refine XS.ifNo X12.here hx rfl (hb hby at_113) rfl (by decide) ?_
    show own_S p e below T12 (mkF m 116 #[vi p1, vi p2, vi p3, vi (0 : Int32), vr u1, vr u0, vi (1 : Int32), vi (1 : Int32), vi (1 : Int32)] []) _
    refine XS.iload X12.here hx rfl (hb hby at_116) rfl ?_
    show own_S p e below T12 (mkF m 118 #[vi p1, vi p2, vi p3, vi (0 : Int32), vr u1, vr u0, vi (1 : Int32), vi (1 : Int32), vi (1 : Int32)] [xi (1 : Int32)]) _
    refine XS.ifNo X12.here hx rfl (hb hby at_118) rfl (by decide) ?_
    show own_S p e below T12 (mkF m 121 #[vi p1, vi p2, vi p3, vi (0 : Int32), vr u1, vr u0, vi (1 : Int32), vi (1 : Int32), vi (1 : Int32)] []) _
    refine XS.iconst X12.here hx rfl (hb hby at_121) ?_
    show own_S p e below T12 (mkF m 122 #[vi p1, vi p2, vi p3, vi (0 : Int32), vr u1, vr u0, vi (1 : Int32), vi (1 : Int32), vi (1 : Int32)] [xi (1 : Int32)]) _
    refine XS.goto X12.here hx rfl (pc0 := 122) (pc' := 126) rfl (hb hby at_122) (by decide) (by decide) ?_
    show own_S p e below T12 (mkF m 126 #[vi p1, vi p2, vi p3, vi (0 : Int32), vr u1, vr u0, vi (1 : Int32), vi (1 : Int32), vi (1 : Int32)] [xi (1 : Int32)]) _
    exact retN X12 hx (t := .boolean) Bd.returns (by simp) (hb hby at_126) hr
  · exact ⟨rfl, N12⟩
theorem ef_own_l7 (m : MethodId) (u0 u1 u2 : Addr) (p1 : Int32) (p2 : Int32) (p3 : Int32) : entryFrame m #[xi p1, xi p2, xi p3] maxLocals = (mkF m 0 #[vi p1, vi p2, vi p3, vu, vu, vu, vu, vu, vu] []) := by first | (simp [entryFrame, mkF, argsToLocals, Value.category, maxLocals]; done) | rfl
set_option maxRecDepth 65536 in
set_option maxHeartbeats 40000000 in
theorem own_l7 (l : Launch) (Z : State) (a0 : Array Value) (hw : ∀ d ∈ tables_1, d.before a0 Z = true) (u0 u1 u2 : Addr) (G : own_St Z u0 u1 u2) (p1 : Int32) (p2 : Int32) (p3 : Int32) (as7 : (p3 &&& (1 : Int32)) = (1 : Int32)) (as1 : ((p1 &&& (2147483647 : Int32)) - ((p1 &&& (2147483647 : Int32)) / (3 : Int32)) * (3 : Int32)) = (1 : Int32)) (as3 : ((p2 &&& (2147483647 : Int32)) - ((p2 &&& (2147483647 : Int32)) / (3 : Int32)) * (3 : Int32)) = (0 : Int32)) (h0 : Heap) (n0 : Nat) (O0 : Old Z n0 h0) : own_Met l Z x code maxLocals ret room_1 #[xi p1, xi p2, xi p3] h0 (own_QL (some (xi (1 : Int32))) n0) := by
  intro ws
  refine MetFree.of_bodySF (plainFor_of_name pn0) hisR ?_
  intro p e s m args below meth c s₁ Bd hml0 hP hK
  obtain ⟨rfl, hZ, hh⟩ := hP
  have hx := Bd.exec
  have hby := Bd.bytes
  have hml : c.maxLocals = 9 := hml0
  have hown : s.vm.findClass "com/example/arbitrium/arbitrium/policy/TruthNotPinLaw" = some m.cls := findClass_of_methodNamed Bd.named
  have hnm := (name_of_methodNamed Bd.named Bd.method).1
  have X0 : Stand p l e room_1 s m #[xi p1, xi p2, xi p3] below meth c s₁ [] 0 0 := Stand.of_body Bd
  have e0 : s₁.heap = h0 := by rw [← hh, Bd.state]; rfl
  have N0 := Fr.nil n0
  have pre0 : ∀ t, Steps p.tables e below (s₁.setTop (mkF m 0 #[vi p1, vi p2, vi p3, vu, vu, vu, vu, vu, vu] [])) t → Steps p.tables e below (s₁.setTop (entryFrame m #[xi p1, xi p2, xi p3] maxLocals)) t := fun t k => castTop (ef_own_l7 m u0 u1 u2 p1 p2 p3) k
  obtain ⟨_, _, ⟨T1, L1, k1, n1⟩, -, X1, ⟨Lc1, hQ1, l1, y1, z1⟩, st1⟩ := Jvm.LawKit.callS X0 hx (y := Y0) hown (mvT hZ (ww hw 0 rfl)) (mvT hZ (ww hw 1 rfl)) (mvT hZ (ww hw 2 rfl)) (mvT hZ (ww hw 3 rfl)) (by decide) (backOf (W := 0) (own_c15_pick l Z a0 hw u0 u1 u2 G p1 as1 h0 n0 O0 []) hZ (ww hw 3 rfl) (ww hw 2 rfl) (by decide) (by decide)) (g := (mkF m 13 #[vi p1, vi p2, vi p3, vi (1 : Int32), vu, vu, vu, vu, vu] [xi p1])) rfl (by rw [hml]; rfl) (argsL := [xi p1]) (rest := []) (lenOf pd0 rfl) rfl (by show 2 * 0 + _ ≤ _; exact Nat.le_of_eq rfl) (hb hby at_13) (fun _ _ => ⟨rfl, e0, (by decide : 0 + 0 ≤ _), (by decide : 0 + 0 ≤ _)⟩)
  dsimp only [Pt.U, Pt.locs, Pt.cells, Pt.slots] at X1 l1 y1 z1 st1 hQ1
  subst l1 y1 z1
  obtain ⟨rfl, Nq1, e1⟩ := hQ1
  have N1 := Fr.app N0 Nq1
  obtain ⟨_, _, ⟨T2, L2, k2, n2⟩, -, X2, ⟨Lc2, hQ2, l2, y2, z2⟩, st2⟩ := Jvm.LawKit.callS X1 hx (y := Y0) hown (mvT hZ (ww hw 0 rfl)) (mvT hZ (ww hw 1 rfl)) (mvT hZ (ww hw 2 rfl)) (mvT hZ (ww hw 3 rfl)) (by decide) (backOf (W := 0) (own_c1_pick l Z a0 hw u0 u1 u2 G p2 as3 h0 n0 O0 []) hZ (ww hw 3 rfl) (ww hw 2 rfl) (by decide) (by decide)) (g := (mkF m 19 #[vi p1, vi p2, vi p3, vi (1 : Int32), vr u1, vu, vu, vu, vu] [xi p2])) rfl (by rw [hml]; rfl) (argsL := [xi p2]) (rest := []) (lenOf pd0 rfl) rfl (by show 2 * 0 + _ ≤ _; exact Nat.le_of_eq rfl) (hb hby at_19) (fun _ _ => ⟨rfl, e1, (by decide : 0 + 0 ≤ _), (by decide : 0 + 0 ≤ _)⟩)
  dsimp only [Pt.U, Pt.locs, Pt.cells, Pt.slots] at X2 l2 y2 z2 st2 hQ2
  subst l2 y2 z2
  obtain ⟨rfl, Nq2, e2⟩ := hQ2
  have N2 := Fr.app N1 Nq2
  obtain ⟨_, _, ⟨T3, L3, k3, n3⟩, -, X3, ⟨Lc3, hQ3, l3, y3, z3⟩, st3⟩ := Jvm.LawKit.callS X2 hx (y := Y1) hown (mvT hZ (ww hw 8 rfl)) (mvT hZ (ww hw 9 rfl)) (mvT hZ (ww hw 6 rfl)) (mvT hZ (ww hw 10 rfl)) (by decide) (backOf (W := 0) (own_c3_of l Z a0 hw u0 u1 u2 G h0 n0 O0 []) hZ (ww hw 10 rfl) (ww hw 6 rfl) (by decide) (by decide)) (g := (mkF m 33 #[vi p1, vi p2, vi p3, vi (1 : Int32), vr u1, vr u0, vu, vu, vu] [xi (0 : Int32)])) rfl (by rw [hml]; rfl) (argsL := [xi (0 : Int32)]) (rest := []) (lenOf pd1 rfl) rfl (by show 2 * 0 + _ ≤ _; exact Nat.le_of_eq rfl) (hb hby at_33) (fun _ _ => ⟨rfl, e2, (by decide : 0 + 0 ≤ _), (by decide : 0 + 0 ≤ _)⟩)
  dsimp only [Pt.U, Pt.locs, Pt.cells, Pt.slots] at X3 l3 y3 z3 st3 hQ3
  subst l3 y3 z3
  obtain ⟨rfl, Nq3, e3⟩ := hQ3
  have N3 := Fr.app N2 Nq3
  obtain ⟨_, _, ⟨T4, L4, k4, n4⟩, -, X4, ⟨Lc4, hQ4, l4, y4, z4⟩, st4⟩ := Jvm.LawKit.callS X3 hx (y := Y1) hown (mvT hZ (ww hw 8 rfl)) (mvT hZ (ww hw 9 rfl)) (mvT hZ (ww hw 6 rfl)) (mvT hZ (ww hw 10 rfl)) (by decide) (backOf (W := 1) (own_c2_of l Z a0 hw u0 u1 u2 G h0 n0 O0 []) hZ (ww hw 10 rfl) (ww hw 6 rfl) (by decide) (by decide)) (g := (mkF m 37 #[vi p1, vi p2, vi p3, vi (1 : Int32), vr u1, vr u0, vu, vu, vu] [xi (1 : Int32), xr u1])) rfl (by rw [hml]; rfl) (argsL := [xi (1 : Int32)]) (rest := [xr u1]) (lenOf pd1 rfl) rfl (by show 2 * 0 + _ ≤ _; exact Nat.le_of_eq rfl) (hb hby at_37) (fun _ _ => ⟨rfl, e3, (by decide : 0 + 0 ≤ _), (by decide : 0 + 0 ≤ _)⟩)
  dsimp only [Pt.U, Pt.locs, Pt.cells, Pt.slots] at X4 l4 y4 z4 st4 hQ4
  subst l4 y4 z4
  obtain ⟨rfl, Nq4, e4⟩ := hQ4
  have N4 := Fr.app N3 Nq4
  obtain ⟨cq5, kq5, qa5, qb5, qc5⟩ := isOf hZ e4 ((own_X_u0 G).ext O0.2)
  obtain ⟨_, _, ⟨T5, L5, k5, n5⟩, -, X5, ⟨Lc5, hQ5, l5, y5, z5⟩, st5⟩ := X4.virtualBack hx (y := Y2) (z := Y2) hown (mvT hZ (ww hw 14 rfl)) (mvT hZ (ww hw 15 rfl)) (notFace_of_selects (args := #[]) (mvT hZ (ww hw 17 rfl))) (mvT hZ (ww hw 17 rfl)) (mvT hZ (ww hw 16 rfl)) (by decide) (backOf (W := 1) (own_c5_not l Z a0 hw u0 u1 u2 G h0 n0 O0 []) hZ (ww hw 18 rfl) (ww hw 6 rfl) (by decide) (by decide)) qa5 qc5 (g := (mkF m 40 #[vi p1, vi p2, vi p3, vi (1 : Int32), vr u1, vr u0, vu, vu, vu] [xr u0, xr u1])) rfl (by rw [hml]; rfl) (Steps.refl _) (argsL := []) (rest := [xr u1]) (lenOf pd2 rfl) rfl (by show 2 * 0 + _ ≤ _; exact Nat.le_of_eq rfl) (hb hby at_40) (fun _ _ => ⟨rfl, e4, (by decide : 0 + 0 ≤ _), (by decide : 0 + 0 ≤ _)⟩)
  dsimp only [Pt.U, Pt.locs, Pt.cells, Pt.slots] at X5 l5 y5 z5 st5 hQ5
  subst l5 y5 z5
  obtain ⟨rfl, Nq5, e5⟩ := hQ5
  have N5 := Fr.app N4 Nq5
  obtain ⟨cq6, kq6, qa6, qb6, qc6⟩ := isOf hZ e5 ((own_X_u1 G).ext O0.2)
  obtain ⟨_, _, ⟨T6, L6, k6, n6⟩, -, X6, ⟨Lc6, hQ6, l6, y6, z6⟩, st6⟩ := X5.virtualBack hx (y := Y2) (z := Y2) hown (mvT hZ (ww hw 14 rfl)) (mvT hZ (ww hw 15 rfl)) (notFace_of_selects (args := #[]) (mvT hZ (ww hw 17 rfl))) (mvT hZ (ww hw 17 rfl)) (mvT hZ (ww hw 16 rfl)) (by decide) (backOf (W := 0) (own_c4_not l Z a0 hw u0 u1 u2 G h0 n0 O0 []) hZ (ww hw 18 rfl) (ww hw 6 rfl) (by decide) (by decide)) qa6 qc6 (g := (mkF m 55 #[vi p1, vi p2, vi p3, vi (1 : Int32), vr u1, vr u0, vi (1 : Int32), vu, vu] [xr u1])) rfl (by rw [hml]; rfl) (Steps.refl _) (argsL := []) (rest := []) (lenOf pd2 rfl) rfl (by show 2 * 0 + _ ≤ _; exact Nat.le_of_eq rfl) (hb hby at_55) (fun _ _ => ⟨rfl, e5, (by decide : 0 + 0 ≤ _), (by decide : 0 + 0 ≤ _)⟩)
  dsimp only [Pt.U, Pt.locs, Pt.cells, Pt.slots] at X6 l6 y6 z6 st6 hQ6
  subst l6 y6 z6
  obtain ⟨rfl, Nq6, e6⟩ := hQ6
  have N6 := Fr.app N5 Nq6
  obtain ⟨cq7, kq7, qa7, qb7, qc7⟩ := isOf hZ e6 ((own_X_u0 G).ext O0.2)
  obtain ⟨_, _, ⟨T7, L7, k7, n7⟩, -, X7, ⟨Lc7, hQ7, l7, y7, z7⟩, st7⟩ := X6.virtualBack hx (y := Y2) (z := Y2) hown (mvT hZ (ww hw 14 rfl)) (mvT hZ (ww hw 15 rfl)) (notFace_of_selects (args := #[]) (mvT hZ (ww hw 17 rfl))) (mvT hZ (ww hw 17 rfl)) (mvT hZ (ww hw 16 rfl)) (by decide) (backOf (W := 0) (own_c5_not l Z a0 hw u0 u1 u2 G h0 n0 O0 []) hZ (ww hw 18 rfl) (ww hw 6 rfl) (by decide) (by decide)) qa7 qc7 (g := (mkF m 58 #[vi p1, vi p2, vi p3, vi (1 : Int32), vr u1, vr u0, vi (1 : Int32), vu, vu] [xr u0])) rfl (by rw [hml]; rfl) (Steps.refl _) (argsL := []) (rest := []) (lenOf pd2 rfl) rfl (by show 2 * 0 + _ ≤ _; exact Nat.le_of_eq rfl) (hb hby at_58) (fun _ _ => ⟨rfl, e6, (by decide : 0 + 0 ≤ _), (by decide : 0 + 0 ≤ _)⟩)
  dsimp only [Pt.U, Pt.locs, Pt.cells, Pt.slots] at X7 l7 y7 z7 st7 hQ7
  subst l7 y7 z7
  obtain ⟨rfl, Nq7, e7⟩ := hQ7
  have N7 := Fr.app N6 Nq7
  obtain ⟨cq8, kq8, qa8, qb8, qc8⟩ := isOf hZ e7 ((own_X_u1 G).ext O0.2)
  obtain ⟨_, _, ⟨T8, L8, k8, n8⟩, -, X8, ⟨Lc8, hQ8, l8, y8, z8⟩, st8⟩ := X7.virtualBack hx (y := Y3) (z := Y3) hown (mvT hZ (ww hw 21 rfl)) (mvT hZ (ww hw 22 rfl)) (notFace_of_selects (args := #[]) (mvT hZ (ww hw 24 rfl))) (mvT hZ (ww hw 24 rfl)) (mvT hZ (ww hw 23 rfl)) (by decide) (backOf (W := 0) (own_c16_and l Z a0 hw u0 u1 u2 G h0 n0 O0 []) hZ (ww hw 25 rfl) (ww hw 6 rfl) (by decide) (by decide)) qa8 qc8 (g := (mkF m 77 #[vi p1, vi p2, vi p3, vi (1 : Int32), vr u1, vr u0, vi (1 : Int32), vi (1 : Int32), vu] [xr u0, xr u1])) rfl (by rw [hml]; rfl) (Steps.refl _) (argsL := [xr u0]) (rest := []) (lenOf pd3 rfl) rfl (by show 2 * 0 + _ ≤ _; exact Nat.le_of_eq rfl) (hb hby at_77) (fun _ _ => ⟨rfl, e7, (by decide : 0 + 0 ≤ _), (by decide : 0 + 0 ≤ _)⟩)
  dsimp only [Pt.U, Pt.locs, Pt.cells, Pt.slots] at X8 l8 y8 z8 st8 hQ8
  subst l8 y8 z8
  obtain ⟨rfl, Nq8, e8⟩ := hQ8
  have N8 := Fr.app N7 Nq8
  obtain ⟨cq9, kq9, qa9, qb9, qc9⟩ := isOf hZ e8 ((own_X_u1 G).ext O0.2)
  obtain ⟨_, _, ⟨T9, L9, k9, n9⟩, -, X9, ⟨Lc9, hQ9, l9, y9, z9⟩, st9⟩ := X8.virtualBack hx (y := Y2) (z := Y2) hown (mvT hZ (ww hw 14 rfl)) (mvT hZ (ww hw 15 rfl)) (notFace_of_selects (args := #[]) (mvT hZ (ww hw 17 rfl))) (mvT hZ (ww hw 17 rfl)) (mvT hZ (ww hw 16 rfl)) (by decide) (backOf (W := 0) (own_c4_not l Z a0 hw u0 u1 u2 G h0 n0 O0 []) hZ (ww hw 18 rfl) (ww hw 6 rfl) (by decide) (by decide)) qa9 qc9 (g := (mkF m 80 #[vi p1, vi p2, vi p3, vi (1 : Int32), vr u1, vr u0, vi (1 : Int32), vi (1 : Int32), vu] [xr u1])) rfl (by rw [hml]; rfl) (Steps.refl _) (argsL := []) (rest := []) (lenOf pd2 rfl) rfl (by show 2 * 0 + _ ≤ _; exact Nat.le_of_eq rfl) (hb hby at_80) (fun _ _ => ⟨rfl, e8, (by decide : 0 + 0 ≤ _), (by decide : 0 + 0 ≤ _)⟩)
  dsimp only [Pt.U, Pt.locs, Pt.cells, Pt.slots] at X9 l9 y9 z9 st9 hQ9
  subst l9 y9 z9
  obtain ⟨rfl, Nq9, e9⟩ := hQ9
  have N9 := Fr.app N8 Nq9
  obtain ⟨cq10, kq10, qa10, qb10, qc10⟩ := isOf hZ e9 ((own_X_u1 G).ext O0.2)
  obtain ⟨_, _, ⟨T10, L10, k10, n10⟩, -, X10, ⟨Lc10, hQ10, l10, y10, z10⟩, st10⟩ := X9.virtualBack hx (y := Y2) (z := Y2) hown (mvT hZ (ww hw 14 rfl)) (mvT hZ (ww hw 15 rfl)) (notFace_of_selects (args := #[]) (mvT hZ (ww hw 17 rfl))) (mvT hZ (ww hw 17 rfl)) (mvT hZ (ww hw 16 rfl)) (by decide) (backOf (W := 1) (own_c4_not l Z a0 hw u0 u1 u2 G h0 n0 O0 []) hZ (ww hw 18 rfl) (ww hw 6 rfl) (by decide) (by decide)) qa10 qc10 (g := (mkF m 85 #[vi p1, vi p2, vi p3, vi (1 : Int32), vr u1, vr u0, vi (1 : Int32), vi (1 : Int32), vu] [xr u1, xr u0])) rfl (by rw [hml]; rfl) (Steps.refl _) (argsL := []) (rest := [xr u0]) (lenOf pd2 rfl) rfl (by show 2 * 0 + _ ≤ _; exact Nat.le_of_eq rfl) (hb hby at_85) (fun _ _ => ⟨rfl, e9, (by decide : 0 + 0 ≤ _), (by decide : 0 + 0 ≤ _)⟩)
  dsimp only [Pt.U, Pt.locs, Pt.cells, Pt.slots] at X10 l10 y10 z10 st10 hQ10
  subst l10 y10 z10
  obtain ⟨rfl, Nq10, e10⟩ := hQ10
  have N10 := Fr.app N9 Nq10
  obtain ⟨cq11, kq11, qa11, qb11, qc11⟩ := isOf hZ e10 ((own_X_u0 G).ext O0.2)
  obtain ⟨_, _, ⟨T11, L11, k11, n11⟩, -, X11, ⟨Lc11, hQ11, l11, y11, z11⟩, st11⟩ := X10.virtualBack hx (y := Y2) (z := Y2) hown (mvT hZ (ww hw 14 rfl)) (mvT hZ (ww hw 15 rfl)) (notFace_of_selects (args := #[]) (mvT hZ (ww hw 17 rfl))) (mvT hZ (ww hw 17 rfl)) (mvT hZ (ww hw 16 rfl)) (by decide) (backOf (W := 2) (own_c5_not l Z a0 hw u0 u1 u2 G h0 n0 O0 []) hZ (ww hw 18 rfl) (ww hw 6 rfl) (by decide) (by decide)) qa11 qc11 (g := (mkF m 90 #[vi p1, vi p2, vi p3, vi (1 : Int32), vr u1, vr u0, vi (1 : Int32), vi (1 : Int32), vu] [xr u0, xr u0, xr u0])) rfl (by rw [hml]; rfl) (Steps.refl _) (argsL := []) (rest := [xr u0, xr u0]) (lenOf pd2 rfl) rfl (by show 2 * 0 + _ ≤ _; exact Nat.le_of_eq rfl) (hb hby at_90) (fun _ _ => ⟨rfl, e10, (by decide : 0 + 0 ≤ _), (by decide : 0 + 0 ≤ _)⟩)
  dsimp only [Pt.U, Pt.locs, Pt.cells, Pt.slots] at X11 l11 y11 z11 st11 hQ11
  subst l11 y11 z11
  obtain ⟨rfl, Nq11, e11⟩ := hQ11
  have N11 := Fr.app N10 Nq11
  obtain ⟨cq12, kq12, qa12, qb12, qc12⟩ := isOf hZ e11 ((own_X_u0 G).ext O0.2)
  obtain ⟨_, _, ⟨T12, L12, k12, n12⟩, -, X12, ⟨Lc12, hQ12, l12, y12, z12⟩, st12⟩ := X11.virtualBack hx (y := Y4) (z := Y4) hown (mvT hZ (ww hw 26 rfl)) (mvT hZ (ww hw 27 rfl)) (notFace_of_selects (args := #[]) (mvT hZ (ww hw 29 rfl))) (mvT hZ (ww hw 29 rfl)) (mvT hZ (ww hw 28 rfl)) (by decide) (backOf (W := 1) (own_c17_or l Z a0 hw u0 u1 u2 G h0 n0 O0 []) hZ (ww hw 30 rfl) (ww hw 6 rfl) (by decide) (by decide)) qa12 qc12 (g := (mkF m 93 #[vi p1, vi p2, vi p3, vi (1 : Int32), vr u1, vr u0, vi (1 : Int32), vi (1 : Int32), vu] [xr u1, xr u0, xr u0])) rfl (by rw [hml]; rfl) (Steps.refl _) (argsL := [xr u1]) (rest := [xr u0]) (lenOf pd3 rfl) rfl (by show 2 * 0 + _ ≤ _; exact Nat.le_of_eq rfl) (hb hby at_93) (fun _ _ => ⟨rfl, e11, (by decide : 0 + 0 ≤ _), (by decide : 0 + 0 ≤ _)⟩)
  dsimp only [Pt.U, Pt.locs, Pt.cells, Pt.slots] at X12 l12 y12 z12 st12 hQ12
  subst l12 y12 z12
  obtain ⟨rfl, Nq12, e12⟩ := hQ12
  have N12 := Fr.app N11 Nq12
  obtain ⟨fs, hr, hrun, hended, hW, hsame⟩ := X12.leave (v := some (xi (1 : Int32))) (fun h => by rw [Bd.returns] at h; cases h)
  refine ⟨_, _, pre0 _ ?_, hrun, hended, _, _, rfl, ?_, ⟨_, rfl⟩, hW, hsame.mono (by decide) (by decide)⟩
  · show own_S p e below s₁ (mkF m 0 #[vi p1, vi p2, vi p3, vu, vu, vu, vu, vu, vu] []) _
    refine XS.iloadN X0.here hx rfl (hb hby at_0) rfl ?_
    show own_S p e below s₁ (mkF m 1 #[vi p1, vi p2, vi p3, vu, vu, vu, vu, vu, vu] [xi p3]) _
    refine XS.iconst X0.here hx rfl (hb hby at_1) ?_
    show own_S p e below s₁ (mkF m 2 #[vi p1, vi p2, vi p3, vu, vu, vu, vu, vu, vu] [xi (1 : Int32), xi p3]) _
    refine XS.iand X0.here hx rfl (hb hby at_2) rfl ?_
    show own_S p e below s₁ (mkF m 3 #[vi p1, vi p2, vi p3, vu, vu, vu, vu, vu, vu] [xi (p3 &&& (1 : Int32))]) _
    refine castTop (show (mkF m 3 #[vi p1, vi p2, vi p3, vu, vu, vu, vu, vu, vu] [xi (p3 &&& (1 : Int32))]) = (mkF m 3 #[vi p1, vi p2, vi p3, vu, vu, vu, vu, vu, vu] [xi (1 : Int32)]) from by rw [as7]) ?_
    show own_S p e below s₁ (mkF m 3 #[vi p1, vi p2, vi p3, vu, vu, vu, vu, vu, vu] [xi (1 : Int32)]) _
    refine XS.ifNo X0.here hx rfl (hb hby at_3) rfl (by decide) ?_
    show own_S p e below s₁ (mkF m 6 #[vi p1, vi p2, vi p3, vu, vu, vu, vu, vu, vu] []) _
    refine XS.iconst X0.here hx rfl (hb hby at_6) ?_
    show own_S p e below s₁ (mkF m 7 #[vi p1, vi p2, vi p3, vu, vu, vu, vu, vu, vu] [xi (1 : Int32)]) _
    refine XS.goto X0.here hx rfl (pc0 := 7) (pc' := 11) rfl (hb hby at_7) (by decide) (by decide) ?_
    show own_S p e below s₁ (mkF m 11 #[vi p1, vi p2, vi p3, vu, vu, vu, vu, vu, vu] [xi (1 : Int32)]) _
    refine XS.istoreN X0.here hx rfl (hb hby at_11) rfl (l' := #[vi p1, vi p2, vi p3, vi (1 : Int32), vu, vu, vu, vu, vu]) rfl ?_
    show own_S p e below s₁ (mkF m 12 #[vi p1, vi p2, vi p3, vi (1 : Int32), vu, vu, vu, vu, vu] []) _
    refine XS.iloadN X0.here hx rfl (hb hby at_12) rfl ?_
    show own_S p e below s₁ (mkF m 13 #[vi p1, vi p2, vi p3, vi (1 : Int32), vu, vu, vu, vu, vu] [xi p1]) _
    refine st1 _ ?_
    show own_S p e below T1 (mkF m 16 #[vi p1, vi p2, vi p3, vi (1 : Int32), vu, vu, vu, vu, vu] [xr u1]) _
    refine XS.astore X1.here hx rfl (hb hby at_16) rfl rfl (l' := #[vi p1, vi p2, vi p3, vi (1 : Int32), vr u1, vu, vu, vu, vu]) rfl ?_
    show own_S p e below T1 (mkF m 18 #[vi p1, vi p2, vi p3, vi (1 : Int32), vr u1, vu, vu, vu, vu] []) _
    refine XS.iloadN X1.here hx rfl (hb hby at_18) rfl ?_
    show own_S p e below T1 (mkF m 19 #[vi p1, vi p2, vi p3, vi (1 : Int32), vr u1, vu, vu, vu, vu] [xi p2]) _
    refine st2 _ ?_
    show own_S p e below T2 (mkF m 22 #[vi p1, vi p2, vi p3, vi (1 : Int32), vr u1, vu, vu, vu, vu] [xr u0]) _
    refine XS.astore X2.here hx rfl (hb hby at_22) rfl rfl (l' := #[vi p1, vi p2, vi p3, vi (1 : Int32), vr u1, vr u0, vu, vu, vu]) rfl ?_
    show own_S p e below T2 (mkF m 24 #[vi p1, vi p2, vi p3, vi (1 : Int32), vr u1, vr u0, vu, vu, vu] []) _
    refine XS.iloadN X2.here hx rfl (hb hby at_24) rfl ?_
    show own_S p e below T2 (mkF m 25 #[vi p1, vi p2, vi p3, vi (1 : Int32), vr u1, vr u0, vu, vu, vu] [xi (1 : Int32)]) _
    refine XS.ifYes X2.here hx rfl (pc0 := 25) (pc' := 32) rfl (hb hby at_25) rfl (by decide) (by decide) (by decide) ?_
    show own_S p e below T2 (mkF m 32 #[vi p1, vi p2, vi p3, vi (1 : Int32), vr u1, vr u0, vu, vu, vu] []) _
    refine XS.iconst X2.here hx rfl (hb hby at_32) ?_
    show own_S p e below T2 (mkF m 33 #[vi p1, vi p2, vi p3, vi (1 : Int32), vr u1, vr u0, vu, vu, vu] [xi (0 : Int32)]) _
    refine st3 _ ?_
    show own_S p e below T3 (mkF m 36 #[vi p1, vi p2, vi p3, vi (1 : Int32), vr u1, vr u0, vu, vu, vu] [xr u1]) _
    refine XS.iloadN X3.here hx rfl (hb hby at_36) rfl ?_
    show own_S p e below T3 (mkF m 37 #[vi p1, vi p2, vi p3, vi (1 : Int32), vr u1, vr u0, vu, vu, vu] [xi (1 : Int32), xr u1]) _
    refine st4 _ ?_
    show own_S p e below T4 (mkF m 40 #[vi p1, vi p2, vi p3, vi (1 : Int32), vr u1, vr u0, vu, vu, vu] [xr u0, xr u1]) _
    refine st5.trans ?_
    show own_S p e below T5 (mkF m 43 #[vi p1, vi p2, vi p3, vi (1 : Int32), vr u1, vr u0, vu, vu, vu] [xr u1, xr u1]) _
    refine Jvm.RoadKit.acmp (g := (mkF m 43 #[vi p1, vi p2, vi p3, vi (1 : Int32), vr u1, vr u0, vu, vu, vu] [xr u1, xr u1])) X5 hx rfl rfl rfl (pc0 := 43) (pc' := 46) (same := true) rfl (hb hby at_43) rfl (decide_eq_true rfl) (by decide) (by decide) ?_
    show own_S p e below T5 (mkF m 46 #[vi p1, vi p2, vi p3, vi (1 : Int32), vr u1, vr u0, vu, vu, vu] []) _
    refine XS.iconst X5.here hx rfl (hb hby at_46) ?_
    show own_S p e below T5 (mkF m 47 #[vi p1, vi p2, vi p3, vi (1 : Int32), vr u1, vr u0, vu, vu, vu] [xi (1 : Int32)]) _
    refine XS.goto X5.here hx rfl (pc0 := 47) (pc' := 51) rfl (hb hby at_47) (by decide) (by decide) ?_
    show own_S p e below T5 (mkF m 51 #[vi p1, vi p2, vi p3, vi (1 : Int32), vr u1, vr u0, vu, vu, vu] [xi (1 : Int32)]) _
    refine XS.istore X5.here hx rfl (hb hby at_51) rfl (l' := #[vi p1, vi p2, vi p3, vi (1 : Int32), vr u1, vr u0, vi (1 : Int32), vu, vu]) rfl ?_
    show own_S p e below T5 (mkF m 53 #[vi p1, vi p2, vi p3, vi (1 : Int32), vr u1, vr u0, vi (1 : Int32), vu, vu] []) _
    refine XS.aload X5.here hx rfl (hb hby at_53) rfl rfl ?_
    show own_S p e below T5 (mkF m 55 #[vi p1, vi p2, vi p3, vi (1 : Int32), vr u1, vr u0, vi (1 : Int32), vu, vu] [xr u1]) _
    refine st6.trans ?_
    show own_S p e below T6 (mkF m 58 #[vi p1, vi p2, vi p3, vi (1 : Int32), vr u1, vr u0, vi (1 : Int32), vu, vu] [xr u0]) _
    refine st7.trans ?_
    show own_S p e below T7 (mkF m 61 #[vi p1, vi p2, vi p3, vi (1 : Int32), vr u1, vr u0, vi (1 : Int32), vu, vu] [xr u1]) _
    refine XS.aload X7.here hx rfl (hb hby at_61) rfl rfl ?_
    show own_S p e below T7 (mkF m 63 #[vi p1, vi p2, vi p3, vi (1 : Int32), vr u1, vr u0, vi (1 : Int32), vu, vu] [xr u1, xr u1]) _
    refine Jvm.RoadKit.acmp (g := (mkF m 63 #[vi p1, vi p2, vi p3, vi (1 : Int32), vr u1, vr u0, vi (1 : Int32), vu, vu] [xr u1, xr u1])) X7 hx rfl rfl rfl (pc0 := 63) (pc' := 66) (same := true) rfl (hb hby at_63) rfl (decide_eq_true rfl) (by decide) (by decide) ?_
    show own_S p e below T7 (mkF m 66 #[vi p1, vi p2, vi p3, vi (1 : Int32), vr u1, vr u0, vi (1 : Int32), vu, vu] []) _
    refine XS.iconst X7.here hx rfl (hb hby at_66) ?_
    show own_S p e below T7 (mkF m 67 #[vi p1, vi p2, vi p3, vi (1 : Int32), vr u1, vr u0, vi (1 : Int32), vu, vu] [xi (1 : Int32)]) _
    refine XS.goto X7.here hx rfl (pc0 := 67) (pc' := 71) rfl (hb hby at_67) (by decide) (by decide) ?_
    show own_S p e below T7 (mkF m 71 #[vi p1, vi p2, vi p3, vi (1 : Int32), vr u1, vr u0, vi (1 : Int32), vu, vu] [xi (1 : Int32)]) _
    refine XS.istore X7.here hx rfl (hb hby at_71) rfl (l' := #[vi p1, vi p2, vi p3, vi (1 : Int32), vr u1, vr u0, vi (1 : Int32), vi (1 : Int32), vu]) rfl ?_
    show own_S p e below T7 (mkF m 73 #[vi p1, vi p2, vi p3, vi (1 : Int32), vr u1, vr u0, vi (1 : Int32), vi (1 : Int32), vu] []) _
    refine XS.aload X7.here hx rfl (hb hby at_73) rfl rfl ?_
    show own_S p e below T7 (mkF m 75 #[vi p1, vi p2, vi p3, vi (1 : Int32), vr u1, vr u0, vi (1 : Int32), vi (1 : Int32), vu] [xr u1]) _
    refine XS.aload X7.here hx rfl (hb hby at_75) rfl rfl ?_
    show own_S p e below T7 (mkF m 77 #[vi p1, vi p2, vi p3, vi (1 : Int32), vr u1, vr u0, vi (1 : Int32), vi (1 : Int32), vu] [xr u0, xr u1]) _
    refine st8.trans ?_
    show own_S p e below T8 (mkF m 80 #[vi p1, vi p2, vi p3, vi (1 : Int32), vr u1, vr u0, vi (1 : Int32), vi (1 : Int32), vu] [xr u1]) _
    refine st9.trans ?_
    show own_S p e below T9 (mkF m 83 #[vi p1, vi p2, vi p3, vi (1 : Int32), vr u1, vr u0, vi (1 : Int32), vi (1 : Int32), vu] [xr u0]) _
    refine XS.aload X9.here hx rfl (hb hby at_83) rfl rfl ?_
    show own_S p e below T9 (mkF m 85 #[vi p1, vi p2, vi p3, vi (1 : Int32), vr u1, vr u0, vi (1 : Int32), vi (1 : Int32), vu] [xr u1, xr u0]) _
    refine st10.trans ?_
    show own_S p e below T10 (mkF m 88 #[vi p1, vi p2, vi p3, vi (1 : Int32), vr u1, vr u0, vi (1 : Int32), vi (1 : Int32), vu] [xr u0, xr u0]) _
    refine XS.aload X10.here hx rfl (hb hby at_88) rfl rfl ?_
    show own_S p e below T10 (mkF m 90 #[vi p1, vi p2, vi p3, vi (1 : Int32), vr u1, vr u0, vi (1 : Int32), vi (1 : Int32), vu] [xr u0, xr u0, xr u0]) _
    refine st11.trans ?_
    show own_S p e below T11 (mkF m 93 #[vi p1, vi p2, vi p3, vi (1 : Int32), vr u1, vr u0, vi (1 : Int32), vi (1 : Int32), vu] [xr u1, xr u0, xr u0]) _
    refine st12.trans ?_
    show own_S p e below T12 (mkF m 96 #[vi p1, vi p2, vi p3, vi (1 : Int32), vr u1, vr u0, vi (1 : Int32), vi (1 : Int32), vu] [xr u0, xr u0]) _
    refine Jvm.RoadKit.acmp (g := (mkF m 96 #[vi p1, vi p2, vi p3, vi (1 : Int32), vr u1, vr u0, vi (1 : Int32), vi (1 : Int32), vu] [xr u0, xr u0])) X12 hx rfl rfl rfl (pc0 := 96) (pc' := 99) (same := true) rfl (hb hby at_96) rfl (decide_eq_true rfl) (by decide) (by decide) ?_
    show own_S p e below T12 (mkF m 99 #[vi p1, vi p2, vi p3, vi (1 : Int32), vr u1, vr u0, vi (1 : Int32), vi (1 : Int32), vu] []) _
    refine XS.iconst X12.here hx rfl (hb hby at_99) ?_
    show own_S p e below T12 (mkF m 100 #[vi p1, vi p2, vi p3, vi (1 : Int32), vr u1, vr u0, vi (1 : Int32), vi (1 : Int32), vu] [xi (1 : Int32)]) _
    refine XS.goto X12.here hx rfl (pc0 := 100) (pc' := 104) rfl (hb hby at_100) (by decide) (by decide) ?_
    show own_S p e below T12 (mkF m 104 #[vi p1, vi p2, vi p3, vi (1 : Int32), vr u1, vr u0, vi (1 : Int32), vi (1 : Int32), vu] [xi (1 : Int32)]) _
    refine XS.istore X12.here hx rfl (hb hby at_104) rfl (l' := #[vi p1, vi p2, vi p3, vi (1 : Int32), vr u1, vr u0, vi (1 : Int32), vi (1 : Int32), vi (1 : Int32)]) rfl ?_
    show own_S p e below T12 (mkF m 106 #[vi p1, vi p2, vi p3, vi (1 : Int32), vr u1, vr u0, vi (1 : Int32), vi (1 : Int32), vi (1 : Int32)] []) _
    refine XS.iload X12.here hx rfl (hb hby at_106) rfl ?_
    show own_S p e below T12 (mkF m 108 #[vi p1, vi p2, vi p3, vi (1 : Int32), vr u1, vr u0, vi (1 : Int32), vi (1 : Int32), vi (1 : Int32)] [xi (1 : Int32)]) _
    refine XS.ifNo X12.here hx rfl (hb hby at_108) rfl (by decide) ?_
    show own_S p e below T12 (mkF m 111 #[vi p1, vi p2, vi p3, vi (1 : Int32), vr u1, vr u0, vi (1 : Int32), vi (1 : Int32), vi (1 : Int32)] []) _
    refine XS.iload X12.here hx rfl (hb hby at_111) rfl ?_
    show own_S p e below T12 (mkF m 113 #[vi p1, vi p2, vi p3, vi (1 : Int32), vr u1, vr u0, vi (1 : Int32), vi (1 : Int32), vi (1 : Int32)] [xi (1 : Int32)]) _
    refine XS.ifNo X12.here hx rfl (hb hby at_113) rfl (by decide) ?_
    show own_S p e below T12 (mkF m 116 #[vi p1, vi p2, vi p3, vi (1 : Int32), vr u1, vr u0, vi (1 : Int32), vi (1 : Int32), vi (1 : Int32)] []) _
    refine XS.iload X12.here hx rfl (hb hby at_116) rfl ?_
    show own_S p e below T12 (mkF m 118 #[vi p1, vi p2, vi p3, vi (1 : Int32), vr u1, vr u0, vi (1 : Int32), vi (1 : Int32), vi (1 : Int32)] [xi (1 : Int32)]) _
    refine XS.ifNo X12.here hx rfl (hb hby at_118) rfl (by decide) ?_
    show own_S p e below T12 (mkF m 121 #[vi p1, vi p2, vi p3, vi (1 : Int32), vr u1, vr u0, vi (1 : Int32), vi (1 : Int32), vi (1 : Int32)] []) _
    refine XS.iconst X12.here hx rfl (hb hby at_121) ?_
    show own_S p e below T12 (mkF m 122 #[vi p1, vi p2, vi p3, vi (1 : Int32), vr u1, vr u0, vi (1 : Int32), vi (1 : Int32), vi (1 : Int32)] [xi (1 : Int32)]) _
    refine XS.goto X12.here hx rfl (pc0 := 122) (pc' := 126) rfl (hb hby at_122) (by decide) (by decide) ?_
    show own_S p e below T12 (mkF m 126 #[vi p1, vi p2, vi p3, vi (1 : Int32), vr u1, vr u0, vi (1 : Int32), vi (1 : Int32), vi (1 : Int32)] [xi (1 : Int32)]) _
    exact retN X12 hx (t := .boolean) Bd.returns (by simp) (hb hby at_126) hr
  · exact ⟨rfl, N12⟩
theorem ef_own_c18_and (m : MethodId) (u0 u1 u2 : Addr) : entryFrame m #[xr u1, xr u1] 2 = (mkF m 0 #[vr u1, vr u1] []) := by first | (simp [entryFrame, mkF, argsToLocals, Value.category]; done) | rfl
set_option maxRecDepth 65536 in
set_option maxHeartbeats 40000000 in
theorem own_c18_and (l : Launch) (Z : State) (a0 : Array Value) (hw : ∀ d ∈ tables_1, d.before a0 Z = true) (u0 u1 u2 : Addr) (G : own_St Z u0 u1 u2) (h0 : Heap) (n0 : Nat) (O0 : Old Z n0 h0) : own_Met l Z Y3 prog_71_method_5_code 2 (some (.object "com/example/arbitrium/arbitrium/policy/Truth")) ({ frames := 0, cells := 0, slots := 0, locals := 0 } : Room) #[xr u1, xr u1] h0 (own_QR (some (xr u1)) h0 n0) := by
  intro ws
  refine MetFree.of_bodySF (plainFor_of_name pn1) hisR ?_
  intro p e s m args below meth c s₁ Bd hml0 hP hK
  obtain ⟨rfl, hZ, hh⟩ := hP
  have hx := Bd.exec
  have hby := Bd.bytes
  have hml : c.maxLocals = 2 := hml0
  have hown : s.vm.findClass "com/example/arbitrium/arbitrium/policy/Truth" = some m.cls := findClass_of_methodNamed Bd.named
  have hnm := (name_of_methodNamed Bd.named Bd.method).1
  have X0 : Stand p l e ({ frames := 0, cells := 0, slots := 0, locals := 0 } : Room) s m #[xr u1, xr u1] below meth c s₁ [] 0 0 := Stand.of_body Bd
  have e0 : s₁.heap = h0 := by rw [← hh, Bd.state]; rfl
  have N0 := Fr.nil n0
  have pre0 : ∀ t, Steps p.tables e below (s₁.setTop (mkF m 0 #[vr u1, vr u1] [])) t → Steps p.tables e below (s₁.setTop (entryFrame m #[xr u1, xr u1] 2)) t := fun t k => castTop (ef_own_c18_and m u0 u1 u2) k
  obtain ⟨T1, X1, e1, st1⟩ := getS2 X0 hx hZ hown (host := "") (Or.inl (ww hw 12 rfl)) Via.refl e0 ((own_S_u1 G).ext O0.2) (g := (mkF m 1 #[vr u1, vr u1] [xr u1])) rfl (hb hby d4_1)
  obtain ⟨T2, X2, e2, st2⟩ := getS2 X1 hx hZ hown (host := "") (Or.inl (ww hw 12 rfl)) Via.refl e1 ((own_S_u1 G).ext O0.2) (g := (mkF m 14 #[vr u1, vr u1] [])) rfl (hb hby d4_14)
  obtain ⟨fs, hr, hrun, hended, hW, hsame⟩ := X2.leave (v := some (xr u1)) (fun h => by rw [Bd.returns] at h; cases h)
  refine ⟨_, _, pre0 _ ?_, hrun, hended, _, _, rfl, ?_, ⟨_, rfl⟩, hW, hsame.mono (by decide) (by decide)⟩
  · show own_S p e below s₁ (mkF m 0 #[vr u1, vr u1] []) _
    refine XS.aloadN X0.here hx rfl (hb hby d4_0) rfl rfl ?_
    show own_S p e below s₁ (mkF m 1 #[vr u1, vr u1] [xr u1]) _
    refine st1 _ ?_
    show own_S p e below T1 (mkF m 4 #[vr u1, vr u1] [xr u1, xr u1]) _
    refine Jvm.RoadKit.acmp (g := (mkF m 4 #[vr u1, vr u1] [xr u1, xr u1])) X1 hx rfl rfl rfl (pc0 := 4) (pc' := 14) (same := true) rfl (hb hby d4_4) rfl (decide_eq_true rfl) (by decide) (by decide) ?_
    show own_S p e below T1 (mkF m 14 #[vr u1, vr u1] []) _
    refine st2 _ ?_
    show own_S p e below T2 (mkF m 17 #[vr u1, vr u1] [xr u1]) _
    exact X2.areturnOut hx rfl Bd.returns rfl (hb hby d4_17) hr
  · exact ⟨rfl, N0, e2⟩
theorem ef_own_c19_or (m : MethodId) (u0 u1 u2 : Addr) : entryFrame m #[xr u0, xr u0] 2 = (mkF m 0 #[vr u0, vr u0] []) := by first | (simp [entryFrame, mkF, argsToLocals, Value.category]; done) | rfl
set_option maxRecDepth 65536 in
set_option maxHeartbeats 40000000 in
theorem own_c19_or (l : Launch) (Z : State) (a0 : Array Value) (hw : ∀ d ∈ tables_1, d.before a0 Z = true) (u0 u1 u2 : Addr) (G : own_St Z u0 u1 u2) (h0 : Heap) (n0 : Nat) (O0 : Old Z n0 h0) : own_Met l Z Y4 prog_71_method_6_code 2 (some (.object "com/example/arbitrium/arbitrium/policy/Truth")) ({ frames := 0, cells := 0, slots := 0, locals := 0 } : Room) #[xr u0, xr u0] h0 (own_QR (some (xr u0)) h0 n0) := by
  intro ws
  refine MetFree.of_bodySF (plainFor_of_name pn1) hisR ?_
  intro p e s m args below meth c s₁ Bd hml0 hP hK
  obtain ⟨rfl, hZ, hh⟩ := hP
  have hx := Bd.exec
  have hby := Bd.bytes
  have hml : c.maxLocals = 2 := hml0
  have hown : s.vm.findClass "com/example/arbitrium/arbitrium/policy/Truth" = some m.cls := findClass_of_methodNamed Bd.named
  have hnm := (name_of_methodNamed Bd.named Bd.method).1
  have X0 : Stand p l e ({ frames := 0, cells := 0, slots := 0, locals := 0 } : Room) s m #[xr u0, xr u0] below meth c s₁ [] 0 0 := Stand.of_body Bd
  have e0 : s₁.heap = h0 := by rw [← hh, Bd.state]; rfl
  have N0 := Fr.nil n0
  have pre0 : ∀ t, Steps p.tables e below (s₁.setTop (mkF m 0 #[vr u0, vr u0] [])) t → Steps p.tables e below (s₁.setTop (entryFrame m #[xr u0, xr u0] 2)) t := fun t k => castTop (ef_own_c19_or m u0 u1 u2) k
  obtain ⟨T1, X1, e1, st1⟩ := getS2 X0 hx hZ hown (host := "") (Or.inl (ww hw 11 rfl)) Via.refl e0 ((own_S_u0 G).ext O0.2) (g := (mkF m 1 #[vr u0, vr u0] [xr u0])) rfl (hb hby d5_1)
  obtain ⟨T2, X2, e2, st2⟩ := getS2 X1 hx hZ hown (host := "") (Or.inl (ww hw 11 rfl)) Via.refl e1 ((own_S_u0 G).ext O0.2) (g := (mkF m 14 #[vr u0, vr u0] [])) rfl (hb hby d5_14)
  obtain ⟨fs, hr, hrun, hended, hW, hsame⟩ := X2.leave (v := some (xr u0)) (fun h => by rw [Bd.returns] at h; cases h)
  refine ⟨_, _, pre0 _ ?_, hrun, hended, _, _, rfl, ?_, ⟨_, rfl⟩, hW, hsame.mono (by decide) (by decide)⟩
  · show own_S p e below s₁ (mkF m 0 #[vr u0, vr u0] []) _
    refine XS.aloadN X0.here hx rfl (hb hby d5_0) rfl rfl ?_
    show own_S p e below s₁ (mkF m 1 #[vr u0, vr u0] [xr u0]) _
    refine st1 _ ?_
    show own_S p e below T1 (mkF m 4 #[vr u0, vr u0] [xr u0, xr u0]) _
    refine Jvm.RoadKit.acmp (g := (mkF m 4 #[vr u0, vr u0] [xr u0, xr u0])) X1 hx rfl rfl rfl (pc0 := 4) (pc' := 14) (same := true) rfl (hb hby d5_4) rfl (decide_eq_true rfl) (by decide) (by decide) ?_
    show own_S p e below T1 (mkF m 14 #[vr u0, vr u0] []) _
    refine st2 _ ?_
    show own_S p e below T2 (mkF m 17 #[vr u0, vr u0] [xr u0]) _
    exact X2.areturnOut hx rfl Bd.returns rfl (hb hby d5_17) hr
  · exact ⟨rfl, N0, e2⟩
theorem ef_own_l8 (m : MethodId) (u0 u1 u2 : Addr) (p1 : Int32) (p2 : Int32) (p3 : Int32) : entryFrame m #[xi p1, xi p2, xi p3] maxLocals = (mkF m 0 #[vi p1, vi p2, vi p3, vu, vu, vu, vu, vu, vu] []) := by first | (simp [entryFrame, mkF, argsToLocals, Value.category, maxLocals]; done) | rfl
set_option maxRecDepth 65536 in
set_option maxHeartbeats 40000000 in
theorem own_l8 (l : Launch) (Z : State) (a0 : Array Value) (hw : ∀ d ∈ tables_1, d.before a0 Z = true) (u0 u1 u2 : Addr) (G : own_St Z u0 u1 u2) (p1 : Int32) (p2 : Int32) (p3 : Int32) (as6 : (p3 &&& (1 : Int32)) = (0 : Int32)) (as1 : ((p1 &&& (2147483647 : Int32)) - ((p1 &&& (2147483647 : Int32)) / (3 : Int32)) * (3 : Int32)) = (1 : Int32)) (as4 : ((p2 &&& (2147483647 : Int32)) - ((p2 &&& (2147483647 : Int32)) / (3 : Int32)) * (3 : Int32)) = (1 : Int32)) (h0 : Heap) (n0 : Nat) (O0 : Old Z n0 h0) : own_Met l Z x code maxLocals ret room_1 #[xi p1, xi p2, xi p3] h0 (own_QL (some (xi (1 : Int32))) n0) := by
  intro ws
  refine MetFree.of_bodySF (plainFor_of_name pn0) hisR ?_
  intro p e s m args below meth c s₁ Bd hml0 hP hK
  obtain ⟨rfl, hZ, hh⟩ := hP
  have hx := Bd.exec
  have hby := Bd.bytes
  have hml : c.maxLocals = 9 := hml0
  have hown : s.vm.findClass "com/example/arbitrium/arbitrium/policy/TruthNotPinLaw" = some m.cls := findClass_of_methodNamed Bd.named
  have hnm := (name_of_methodNamed Bd.named Bd.method).1
  have X0 : Stand p l e room_1 s m #[xi p1, xi p2, xi p3] below meth c s₁ [] 0 0 := Stand.of_body Bd
  have e0 : s₁.heap = h0 := by rw [← hh, Bd.state]; rfl
  have N0 := Fr.nil n0
  have pre0 : ∀ t, Steps p.tables e below (s₁.setTop (mkF m 0 #[vi p1, vi p2, vi p3, vu, vu, vu, vu, vu, vu] [])) t → Steps p.tables e below (s₁.setTop (entryFrame m #[xi p1, xi p2, xi p3] maxLocals)) t := fun t k => castTop (ef_own_l8 m u0 u1 u2 p1 p2 p3) k
  obtain ⟨_, _, ⟨T1, L1, k1, n1⟩, -, X1, ⟨Lc1, hQ1, l1, y1, z1⟩, st1⟩ := Jvm.LawKit.callS X0 hx (y := Y0) hown (mvT hZ (ww hw 0 rfl)) (mvT hZ (ww hw 1 rfl)) (mvT hZ (ww hw 2 rfl)) (mvT hZ (ww hw 3 rfl)) (by decide) (backOf (W := 0) (own_c15_pick l Z a0 hw u0 u1 u2 G p1 as1 h0 n0 O0 []) hZ (ww hw 3 rfl) (ww hw 2 rfl) (by decide) (by decide)) (g := (mkF m 13 #[vi p1, vi p2, vi p3, vi (0 : Int32), vu, vu, vu, vu, vu] [xi p1])) rfl (by rw [hml]; rfl) (argsL := [xi p1]) (rest := []) (lenOf pd0 rfl) rfl (by show 2 * 0 + _ ≤ _; exact Nat.le_of_eq rfl) (hb hby at_13) (fun _ _ => ⟨rfl, e0, (by decide : 0 + 0 ≤ _), (by decide : 0 + 0 ≤ _)⟩)
  dsimp only [Pt.U, Pt.locs, Pt.cells, Pt.slots] at X1 l1 y1 z1 st1 hQ1
  subst l1 y1 z1
  obtain ⟨rfl, Nq1, e1⟩ := hQ1
  have N1 := Fr.app N0 Nq1
  obtain ⟨_, _, ⟨T2, L2, k2, n2⟩, -, X2, ⟨Lc2, hQ2, l2, y2, z2⟩, st2⟩ := Jvm.LawKit.callS X1 hx (y := Y0) hown (mvT hZ (ww hw 0 rfl)) (mvT hZ (ww hw 1 rfl)) (mvT hZ (ww hw 2 rfl)) (mvT hZ (ww hw 3 rfl)) (by decide) (backOf (W := 0) (own_c8_pick l Z a0 hw u0 u1 u2 G p2 as4 h0 n0 O0 []) hZ (ww hw 3 rfl) (ww hw 2 rfl) (by decide) (by decide)) (g := (mkF m 19 #[vi p1, vi p2, vi p3, vi (0 : Int32), vr u1, vu, vu, vu, vu] [xi p2])) rfl (by rw [hml]; rfl) (argsL := [xi p2]) (rest := []) (lenOf pd0 rfl) rfl (by show 2 * 0 + _ ≤ _; exact Nat.le_of_eq rfl) (hb hby at_19) (fun _ _ => ⟨rfl, e1, (by decide : 0 + 0 ≤ _), (by decide : 0 + 0 ≤ _)⟩)
  dsimp only [Pt.U, Pt.locs, Pt.cells, Pt.slots] at X2 l2 y2 z2 st2 hQ2
  subst l2 y2 z2
  obtain ⟨rfl, Nq2, e2⟩ := hQ2
  have N2 := Fr.app N1 Nq2
  obtain ⟨_, _, ⟨T3, L3, k3, n3⟩, -, X3, ⟨Lc3, hQ3, l3, y3, z3⟩, st3⟩ := Jvm.LawKit.callS X2 hx (y := Y1) hown (mvT hZ (ww hw 8 rfl)) (mvT hZ (ww hw 9 rfl)) (mvT hZ (ww hw 6 rfl)) (mvT hZ (ww hw 10 rfl)) (by decide) (backOf (W := 0) (own_c2_of l Z a0 hw u0 u1 u2 G h0 n0 O0 []) hZ (ww hw 10 rfl) (ww hw 6 rfl) (by decide) (by decide)) (g := (mkF m 33 #[vi p1, vi p2, vi p3, vi (0 : Int32), vr u1, vr u1, vu, vu, vu] [xi (1 : Int32)])) rfl (by rw [hml]; rfl) (argsL := [xi (1 : Int32)]) (rest := []) (lenOf pd1 rfl) rfl (by show 2 * 0 + _ ≤ _; exact Nat.le_of_eq rfl) (hb hby at_33) (fun _ _ => ⟨rfl, e2, (by decide : 0 + 0 ≤ _), (by decide : 0 + 0 ≤ _)⟩)
  dsimp only [Pt.U, Pt.locs, Pt.cells, Pt.slots] at X3 l3 y3 z3 st3 hQ3
  subst l3 y3 z3
  obtain ⟨rfl, Nq3, e3⟩ := hQ3
  have N3 := Fr.app N2 Nq3
  obtain ⟨_, _, ⟨T4, L4, k4, n4⟩, -, X4, ⟨Lc4, hQ4, l4, y4, z4⟩, st4⟩ := Jvm.LawKit.callS X3 hx (y := Y1) hown (mvT hZ (ww hw 8 rfl)) (mvT hZ (ww hw 9 rfl)) (mvT hZ (ww hw 6 rfl)) (mvT hZ (ww hw 10 rfl)) (by decide) (backOf (W := 1) (own_c3_of l Z a0 hw u0 u1 u2 G h0 n0 O0 []) hZ (ww hw 10 rfl) (ww hw 6 rfl) (by decide) (by decide)) (g := (mkF m 37 #[vi p1, vi p2, vi p3, vi (0 : Int32), vr u1, vr u1, vu, vu, vu] [xi (0 : Int32), xr u0])) rfl (by rw [hml]; rfl) (argsL := [xi (0 : Int32)]) (rest := [xr u0]) (lenOf pd1 rfl) rfl (by show 2 * 0 + _ ≤ _; exact Nat.le_of_eq rfl) (hb hby at_37) (fun _ _ => ⟨rfl, e3, (by decide : 0 + 0 ≤ _), (by decide : 0 + 0 ≤ _)⟩)
  dsimp only [Pt.U, Pt.locs, Pt.cells, Pt.slots] at X4 l4 y4 z4 st4 hQ4
  subst l4 y4 z4
  obtain ⟨rfl, Nq4, e4⟩ := hQ4
  have N4 := Fr.app N3 Nq4
  obtain ⟨cq5, kq5, qa5, qb5, qc5⟩ := isOf hZ e4 ((own_X_u1 G).ext O0.2)
  obtain ⟨_, _, ⟨T5, L5, k5, n5⟩, -, X5, ⟨Lc5, hQ5, l5, y5, z5⟩, st5⟩ := X4.virtualBack hx (y := Y2) (z := Y2) hown (mvT hZ (ww hw 14 rfl)) (mvT hZ (ww hw 15 rfl)) (notFace_of_selects (args := #[]) (mvT hZ (ww hw 17 rfl))) (mvT hZ (ww hw 17 rfl)) (mvT hZ (ww hw 16 rfl)) (by decide) (backOf (W := 1) (own_c4_not l Z a0 hw u0 u1 u2 G h0 n0 O0 []) hZ (ww hw 18 rfl) (ww hw 6 rfl) (by decide) (by decide)) qa5 qc5 (g := (mkF m 40 #[vi p1, vi p2, vi p3, vi (0 : Int32), vr u1, vr u1, vu, vu, vu] [xr u1, xr u0])) rfl (by rw [hml]; rfl) (Steps.refl _) (argsL := []) (rest := [xr u0]) (lenOf pd2 rfl) rfl (by show 2 * 0 + _ ≤ _; exact Nat.le_of_eq rfl) (hb hby at_40) (fun _ _ => ⟨rfl, e4, (by decide : 0 + 0 ≤ _), (by decide : 0 + 0 ≤ _)⟩)
  dsimp only [Pt.U, Pt.locs, Pt.cells, Pt.slots] at X5 l5 y5 z5 st5 hQ5
  subst l5 y5 z5
  obtain ⟨rfl, Nq5, e5⟩ := hQ5
  have N5 := Fr.app N4 Nq5
  obtain ⟨cq6, kq6, qa6, qb6, qc6⟩ := isOf hZ e5 ((own_X_u1 G).ext O0.2)
  obtain ⟨_, _, ⟨T6, L6, k6, n6⟩, -, X6, ⟨Lc6, hQ6, l6, y6, z6⟩, st6⟩ := X5.virtualBack hx (y := Y2) (z := Y2) hown (mvT hZ (ww hw 14 rfl)) (mvT hZ (ww hw 15 rfl)) (notFace_of_selects (args := #[]) (mvT hZ (ww hw 17 rfl))) (mvT hZ (ww hw 17 rfl)) (mvT hZ (ww hw 16 rfl)) (by decide) (backOf (W := 0) (own_c4_not l Z a0 hw u0 u1 u2 G h0 n0 O0 []) hZ (ww hw 18 rfl) (ww hw 6 rfl) (by decide) (by decide)) qa6 qc6 (g := (mkF m 55 #[vi p1, vi p2, vi p3, vi (0 : Int32), vr u1, vr u1, vi (1 : Int32), vu, vu] [xr u1])) rfl (by rw [hml]; rfl) (Steps.refl _) (argsL := []) (rest := []) (lenOf pd2 rfl) rfl (by show 2 * 0 + _ ≤ _; exact Nat.le_of_eq rfl) (hb hby at_55) (fun _ _ => ⟨rfl, e5, (by decide : 0 + 0 ≤ _), (by decide : 0 + 0 ≤ _)⟩)
  dsimp only [Pt.U, Pt.locs, Pt.cells, Pt.slots] at X6 l6 y6 z6 st6 hQ6
  subst l6 y6 z6
  obtain ⟨rfl, Nq6, e6⟩ := hQ6
  have N6 := Fr.app N5 Nq6
  obtain ⟨cq7, kq7, qa7, qb7, qc7⟩ := isOf hZ e6 ((own_X_u0 G).ext O0.2)
  obtain ⟨_, _, ⟨T7, L7, k7, n7⟩, -, X7, ⟨Lc7, hQ7, l7, y7, z7⟩, st7⟩ := X6.virtualBack hx (y := Y2) (z := Y2) hown (mvT hZ (ww hw 14 rfl)) (mvT hZ (ww hw 15 rfl)) (notFace_of_selects (args := #[]) (mvT hZ (ww hw 17 rfl))) (mvT hZ (ww hw 17 rfl)) (mvT hZ (ww hw 16 rfl)) (by decide) (backOf (W := 0) (own_c5_not l Z a0 hw u0 u1 u2 G h0 n0 O0 []) hZ (ww hw 18 rfl) (ww hw 6 rfl) (by decide) (by decide)) qa7 qc7 (g := (mkF m 58 #[vi p1, vi p2, vi p3, vi (0 : Int32), vr u1, vr u1, vi (1 : Int32), vu, vu] [xr u0])) rfl (by rw [hml]; rfl) (Steps.refl _) (argsL := []) (rest := []) (lenOf pd2 rfl) rfl (by show 2 * 0 + _ ≤ _; exact Nat.le_of_eq rfl) (hb hby at_58) (fun _ _ => ⟨rfl, e6, (by decide : 0 + 0 ≤ _), (by decide : 0 + 0 ≤ _)⟩)
  dsimp only [Pt.U, Pt.locs, Pt.cells, Pt.slots] at X7 l7 y7 z7 st7 hQ7
  subst l7 y7 z7
  obtain ⟨rfl, Nq7, e7⟩ := hQ7
  have N7 := Fr.app N6 Nq7
  obtain ⟨cq8, kq8, qa8, qb8, qc8⟩ := isOf hZ e7 ((own_X_u1 G).ext O0.2)
  obtain ⟨_, _, ⟨T8, L8, k8, n8⟩, -, X8, ⟨Lc8, hQ8, l8, y8, z8⟩, st8⟩ := X7.virtualBack hx (y := Y3) (z := Y3) hown (mvT hZ (ww hw 21 rfl)) (mvT hZ (ww hw 22 rfl)) (notFace_of_selects (args := #[]) (mvT hZ (ww hw 24 rfl))) (mvT hZ (ww hw 24 rfl)) (mvT hZ (ww hw 23 rfl)) (by decide) (backOf (W := 0) (own_c18_and l Z a0 hw u0 u1 u2 G h0 n0 O0 []) hZ (ww hw 25 rfl) (ww hw 6 rfl) (by decide) (by decide)) qa8 qc8 (g := (mkF m 77 #[vi p1, vi p2, vi p3, vi (0 : Int32), vr u1, vr u1, vi (1 : Int32), vi (1 : Int32), vu] [xr u1, xr u1])) rfl (by rw [hml]; rfl) (Steps.refl _) (argsL := [xr u1]) (rest := []) (lenOf pd3 rfl) rfl (by show 2 * 0 + _ ≤ _; exact Nat.le_of_eq rfl) (hb hby at_77) (fun _ _ => ⟨rfl, e7, (by decide : 0 + 0 ≤ _), (by decide : 0 + 0 ≤ _)⟩)
  dsimp only [Pt.U, Pt.locs, Pt.cells, Pt.slots] at X8 l8 y8 z8 st8 hQ8
  subst l8 y8 z8
  obtain ⟨rfl, Nq8, e8⟩ := hQ8
  have N8 := Fr.app N7 Nq8
  obtain ⟨cq9, kq9, qa9, qb9, qc9⟩ := isOf hZ e8 ((own_X_u1 G).ext O0.2)
  obtain ⟨_, _, ⟨T9, L9, k9, n9⟩, -, X9, ⟨Lc9, hQ9, l9, y9, z9⟩, st9⟩ := X8.virtualBack hx (y := Y2) (z := Y2) hown (mvT hZ (ww hw 14 rfl)) (mvT hZ (ww hw 15 rfl)) (notFace_of_selects (args := #[]) (mvT hZ (ww hw 17 rfl))) (mvT hZ (ww hw 17 rfl)) (mvT hZ (ww hw 16 rfl)) (by decide) (backOf (W := 0) (own_c4_not l Z a0 hw u0 u1 u2 G h0 n0 O0 []) hZ (ww hw 18 rfl) (ww hw 6 rfl) (by decide) (by decide)) qa9 qc9 (g := (mkF m 80 #[vi p1, vi p2, vi p3, vi (0 : Int32), vr u1, vr u1, vi (1 : Int32), vi (1 : Int32), vu] [xr u1])) rfl (by rw [hml]; rfl) (Steps.refl _) (argsL := []) (rest := []) (lenOf pd2 rfl) rfl (by show 2 * 0 + _ ≤ _; exact Nat.le_of_eq rfl) (hb hby at_80) (fun _ _ => ⟨rfl, e8, (by decide : 0 + 0 ≤ _), (by decide : 0 + 0 ≤ _)⟩)
  dsimp only [Pt.U, Pt.locs, Pt.cells, Pt.slots] at X9 l9 y9 z9 st9 hQ9
  subst l9 y9 z9
  obtain ⟨rfl, Nq9, e9⟩ := hQ9
  have N9 := Fr.app N8 Nq9
  obtain ⟨cq10, kq10, qa10, qb10, qc10⟩ := isOf hZ e9 ((own_X_u1 G).ext O0.2)
  obtain ⟨_, _, ⟨T10, L10, k10, n10⟩, -, X10, ⟨Lc10, hQ10, l10, y10, z10⟩, st10⟩ := X9.virtualBack hx (y := Y2) (z := Y2) hown (mvT hZ (ww hw 14 rfl)) (mvT hZ (ww hw 15 rfl)) (notFace_of_selects (args := #[]) (mvT hZ (ww hw 17 rfl))) (mvT hZ (ww hw 17 rfl)) (mvT hZ (ww hw 16 rfl)) (by decide) (backOf (W := 1) (own_c4_not l Z a0 hw u0 u1 u2 G h0 n0 O0 []) hZ (ww hw 18 rfl) (ww hw 6 rfl) (by decide) (by decide)) qa10 qc10 (g := (mkF m 85 #[vi p1, vi p2, vi p3, vi (0 : Int32), vr u1, vr u1, vi (1 : Int32), vi (1 : Int32), vu] [xr u1, xr u0])) rfl (by rw [hml]; rfl) (Steps.refl _) (argsL := []) (rest := [xr u0]) (lenOf pd2 rfl) rfl (by show 2 * 0 + _ ≤ _; exact Nat.le_of_eq rfl) (hb hby at_85) (fun _ _ => ⟨rfl, e9, (by decide : 0 + 0 ≤ _), (by decide : 0 + 0 ≤ _)⟩)
  dsimp only [Pt.U, Pt.locs, Pt.cells, Pt.slots] at X10 l10 y10 z10 st10 hQ10
  subst l10 y10 z10
  obtain ⟨rfl, Nq10, e10⟩ := hQ10
  have N10 := Fr.app N9 Nq10
  obtain ⟨cq11, kq11, qa11, qb11, qc11⟩ := isOf hZ e10 ((own_X_u1 G).ext O0.2)
  obtain ⟨_, _, ⟨T11, L11, k11, n11⟩, -, X11, ⟨Lc11, hQ11, l11, y11, z11⟩, st11⟩ := X10.virtualBack hx (y := Y2) (z := Y2) hown (mvT hZ (ww hw 14 rfl)) (mvT hZ (ww hw 15 rfl)) (notFace_of_selects (args := #[]) (mvT hZ (ww hw 17 rfl))) (mvT hZ (ww hw 17 rfl)) (mvT hZ (ww hw 16 rfl)) (by decide) (backOf (W := 2) (own_c4_not l Z a0 hw u0 u1 u2 G h0 n0 O0 []) hZ (ww hw 18 rfl) (ww hw 6 rfl) (by decide) (by decide)) qa11 qc11 (g := (mkF m 90 #[vi p1, vi p2, vi p3, vi (0 : Int32), vr u1, vr u1, vi (1 : Int32), vi (1 : Int32), vu] [xr u1, xr u0, xr u0])) rfl (by rw [hml]; rfl) (Steps.refl _) (argsL := []) (rest := [xr u0, xr u0]) (lenOf pd2 rfl) rfl (by show 2 * 0 + _ ≤ _; exact Nat.le_of_eq rfl) (hb hby at_90) (fun _ _ => ⟨rfl, e10, (by decide : 0 + 0 ≤ _), (by decide : 0 + 0 ≤ _)⟩)
  dsimp only [Pt.U, Pt.locs, Pt.cells, Pt.slots] at X11 l11 y11 z11 st11 hQ11
  subst l11 y11 z11
  obtain ⟨rfl, Nq11, e11⟩ := hQ11
  have N11 := Fr.app N10 Nq11
  obtain ⟨cq12, kq12, qa12, qb12, qc12⟩ := isOf hZ e11 ((own_X_u0 G).ext O0.2)
  obtain ⟨_, _, ⟨T12, L12, k12, n12⟩, -, X12, ⟨Lc12, hQ12, l12, y12, z12⟩, st12⟩ := X11.virtualBack hx (y := Y4) (z := Y4) hown (mvT hZ (ww hw 26 rfl)) (mvT hZ (ww hw 27 rfl)) (notFace_of_selects (args := #[]) (mvT hZ (ww hw 29 rfl))) (mvT hZ (ww hw 29 rfl)) (mvT hZ (ww hw 28 rfl)) (by decide) (backOf (W := 1) (own_c19_or l Z a0 hw u0 u1 u2 G h0 n0 O0 []) hZ (ww hw 30 rfl) (ww hw 6 rfl) (by decide) (by decide)) qa12 qc12 (g := (mkF m 93 #[vi p1, vi p2, vi p3, vi (0 : Int32), vr u1, vr u1, vi (1 : Int32), vi (1 : Int32), vu] [xr u0, xr u0, xr u0])) rfl (by rw [hml]; rfl) (Steps.refl _) (argsL := [xr u0]) (rest := [xr u0]) (lenOf pd3 rfl) rfl (by show 2 * 0 + _ ≤ _; exact Nat.le_of_eq rfl) (hb hby at_93) (fun _ _ => ⟨rfl, e11, (by decide : 0 + 0 ≤ _), (by decide : 0 + 0 ≤ _)⟩)
  dsimp only [Pt.U, Pt.locs, Pt.cells, Pt.slots] at X12 l12 y12 z12 st12 hQ12
  subst l12 y12 z12
  obtain ⟨rfl, Nq12, e12⟩ := hQ12
  have N12 := Fr.app N11 Nq12
  obtain ⟨fs, hr, hrun, hended, hW, hsame⟩ := X12.leave (v := some (xi (1 : Int32))) (fun h => by rw [Bd.returns] at h; cases h)
  refine ⟨_, _, pre0 _ ?_, hrun, hended, _, _, rfl, ?_, ⟨_, rfl⟩, hW, hsame.mono (by decide) (by decide)⟩
  · show own_S p e below s₁ (mkF m 0 #[vi p1, vi p2, vi p3, vu, vu, vu, vu, vu, vu] []) _
    refine XS.iloadN X0.here hx rfl (hb hby at_0) rfl ?_
    show own_S p e below s₁ (mkF m 1 #[vi p1, vi p2, vi p3, vu, vu, vu, vu, vu, vu] [xi p3]) _
    refine XS.iconst X0.here hx rfl (hb hby at_1) ?_
    show own_S p e below s₁ (mkF m 2 #[vi p1, vi p2, vi p3, vu, vu, vu, vu, vu, vu] [xi (1 : Int32), xi p3]) _
    refine XS.iand X0.here hx rfl (hb hby at_2) rfl ?_
    show own_S p e below s₁ (mkF m 3 #[vi p1, vi p2, vi p3, vu, vu, vu, vu, vu, vu] [xi (p3 &&& (1 : Int32))]) _
    refine castTop (show (mkF m 3 #[vi p1, vi p2, vi p3, vu, vu, vu, vu, vu, vu] [xi (p3 &&& (1 : Int32))]) = (mkF m 3 #[vi p1, vi p2, vi p3, vu, vu, vu, vu, vu, vu] [xi (0 : Int32)]) from by rw [as6]) ?_
    show own_S p e below s₁ (mkF m 3 #[vi p1, vi p2, vi p3, vu, vu, vu, vu, vu, vu] [xi (0 : Int32)]) _
    refine XS.ifYes X0.here hx rfl (pc0 := 3) (pc' := 10) rfl (hb hby at_3) rfl (by decide) (by decide) (by decide) ?_
    show own_S p e below s₁ (mkF m 10 #[vi p1, vi p2, vi p3, vu, vu, vu, vu, vu, vu] []) _
    refine XS.iconst X0.here hx rfl (hb hby at_10) ?_
    show own_S p e below s₁ (mkF m 11 #[vi p1, vi p2, vi p3, vu, vu, vu, vu, vu, vu] [xi (0 : Int32)]) _
    refine XS.istoreN X0.here hx rfl (hb hby at_11) rfl (l' := #[vi p1, vi p2, vi p3, vi (0 : Int32), vu, vu, vu, vu, vu]) rfl ?_
    show own_S p e below s₁ (mkF m 12 #[vi p1, vi p2, vi p3, vi (0 : Int32), vu, vu, vu, vu, vu] []) _
    refine XS.iloadN X0.here hx rfl (hb hby at_12) rfl ?_
    show own_S p e below s₁ (mkF m 13 #[vi p1, vi p2, vi p3, vi (0 : Int32), vu, vu, vu, vu, vu] [xi p1]) _
    refine st1 _ ?_
    show own_S p e below T1 (mkF m 16 #[vi p1, vi p2, vi p3, vi (0 : Int32), vu, vu, vu, vu, vu] [xr u1]) _
    refine XS.astore X1.here hx rfl (hb hby at_16) rfl rfl (l' := #[vi p1, vi p2, vi p3, vi (0 : Int32), vr u1, vu, vu, vu, vu]) rfl ?_
    show own_S p e below T1 (mkF m 18 #[vi p1, vi p2, vi p3, vi (0 : Int32), vr u1, vu, vu, vu, vu] []) _
    refine XS.iloadN X1.here hx rfl (hb hby at_18) rfl ?_
    show own_S p e below T1 (mkF m 19 #[vi p1, vi p2, vi p3, vi (0 : Int32), vr u1, vu, vu, vu, vu] [xi p2]) _
    refine st2 _ ?_
    show own_S p e below T2 (mkF m 22 #[vi p1, vi p2, vi p3, vi (0 : Int32), vr u1, vu, vu, vu, vu] [xr u1]) _
    refine XS.astore X2.here hx rfl (hb hby at_22) rfl rfl (l' := #[vi p1, vi p2, vi p3, vi (0 : Int32), vr u1, vr u1, vu, vu, vu]) rfl ?_
    show own_S p e below T2 (mkF m 24 #[vi p1, vi p2, vi p3, vi (0 : Int32), vr u1, vr u1, vu, vu, vu] []) _
    refine XS.iloadN X2.here hx rfl (hb hby at_24) rfl ?_
    show own_S p e below T2 (mkF m 25 #[vi p1, vi p2, vi p3, vi (0 : Int32), vr u1, vr u1, vu, vu, vu] [xi (0 : Int32)]) _
    refine XS.ifNo X2.here hx rfl (hb hby at_25) rfl (by decide) ?_
    show own_S p e below T2 (mkF m 28 #[vi p1, vi p2, vi p3, vi (0 : Int32), vr u1, vr u1, vu, vu, vu] []) _
    refine XS.iconst X2.here hx rfl (hb hby at_28) ?_
    show own_S p e below T2 (mkF m 29 #[vi p1, vi p2, vi p3, vi (0 : Int32), vr u1, vr u1, vu, vu, vu] [xi (1 : Int32)]) _
    refine XS.goto X2.here hx rfl (pc0 := 29) (pc' := 33) rfl (hb hby at_29) (by decide) (by decide) ?_
    show own_S p e below T2 (mkF m 33 #[vi p1, vi p2, vi p3, vi (0 : Int32), vr u1, vr u1, vu, vu, vu] [xi (1 : Int32)]) _
    refine st3 _ ?_
    show own_S p e below T3 (mkF m 36 #[vi p1, vi p2, vi p3, vi (0 : Int32), vr u1, vr u1, vu, vu, vu] [xr u0]) _
    refine XS.iloadN X3.here hx rfl (hb hby at_36) rfl ?_
    show own_S p e below T3 (mkF m 37 #[vi p1, vi p2, vi p3, vi (0 : Int32), vr u1, vr u1, vu, vu, vu] [xi (0 : Int32), xr u0]) _
    refine st4 _ ?_
    show own_S p e below T4 (mkF m 40 #[vi p1, vi p2, vi p3, vi (0 : Int32), vr u1, vr u1, vu, vu, vu] [xr u1, xr u0]) _
    refine st5.trans ?_
    show own_S p e below T5 (mkF m 43 #[vi p1, vi p2, vi p3, vi (0 : Int32), vr u1, vr u1, vu, vu, vu] [xr u0, xr u0]) _
    refine Jvm.RoadKit.acmp (g := (mkF m 43 #[vi p1, vi p2, vi p3, vi (0 : Int32), vr u1, vr u1, vu, vu, vu] [xr u0, xr u0])) X5 hx rfl rfl rfl (pc0 := 43) (pc' := 46) (same := true) rfl (hb hby at_43) rfl (decide_eq_true rfl) (by decide) (by decide) ?_
    show own_S p e below T5 (mkF m 46 #[vi p1, vi p2, vi p3, vi (0 : Int32), vr u1, vr u1, vu, vu, vu] []) _
    refine XS.iconst X5.here hx rfl (hb hby at_46) ?_
    show own_S p e below T5 (mkF m 47 #[vi p1, vi p2, vi p3, vi (0 : Int32), vr u1, vr u1, vu, vu, vu] [xi (1 : Int32)]) _
    refine XS.goto X5.here hx rfl (pc0 := 47) (pc' := 51) rfl (hb hby at_47) (by decide) (by decide) ?_
    show own_S p e below T5 (mkF m 51 #[vi p1, vi p2, vi p3, vi (0 : Int32), vr u1, vr u1, vu, vu, vu] [xi (1 : Int32)]) _
    refine XS.istore X5.here hx rfl (hb hby at_51) rfl (l' := #[vi p1, vi p2, vi p3, vi (0 : Int32), vr u1, vr u1, vi (1 : Int32), vu, vu]) rfl ?_
    show own_S p e below T5 (mkF m 53 #[vi p1, vi p2, vi p3, vi (0 : Int32), vr u1, vr u1, vi (1 : Int32), vu, vu] []) _
    refine XS.aload X5.here hx rfl (hb hby at_53) rfl rfl ?_
    show own_S p e below T5 (mkF m 55 #[vi p1, vi p2, vi p3, vi (0 : Int32), vr u1, vr u1, vi (1 : Int32), vu, vu] [xr u1]) _
    refine st6.trans ?_
    show own_S p e below T6 (mkF m 58 #[vi p1, vi p2, vi p3, vi (0 : Int32), vr u1, vr u1, vi (1 : Int32), vu, vu] [xr u0]) _
    refine st7.trans ?_
    show own_S p e below T7 (mkF m 61 #[vi p1, vi p2, vi p3, vi (0 : Int32), vr u1, vr u1, vi (1 : Int32), vu, vu] [xr u1]) _
    refine XS.aload X7.here hx rfl (hb hby at_61) rfl rfl ?_
    show own_S p e below T7 (mkF m 63 #[vi p1, vi p2, vi p3, vi (0 : Int32), vr u1, vr u1, vi (1 : Int32), vu, vu] [xr u1, xr u1]) _
    refine Jvm.RoadKit.acmp (g := (mkF m 63 #[vi p1, vi p2, vi p3, vi (0 : Int32), vr u1, vr u1, vi (1 : Int32), vu, vu] [xr u1, xr u1])) X7 hx rfl rfl rfl (pc0 := 63) (pc' := 66) (same := true) rfl (hb hby at_63) rfl (decide_eq_true rfl) (by decide) (by decide) ?_
    show own_S p e below T7 (mkF m 66 #[vi p1, vi p2, vi p3, vi (0 : Int32), vr u1, vr u1, vi (1 : Int32), vu, vu] []) _
    refine XS.iconst X7.here hx rfl (hb hby at_66) ?_
    show own_S p e below T7 (mkF m 67 #[vi p1, vi p2, vi p3, vi (0 : Int32), vr u1, vr u1, vi (1 : Int32), vu, vu] [xi (1 : Int32)]) _
    refine XS.goto X7.here hx rfl (pc0 := 67) (pc' := 71) rfl (hb hby at_67) (by decide) (by decide) ?_
    show own_S p e below T7 (mkF m 71 #[vi p1, vi p2, vi p3, vi (0 : Int32), vr u1, vr u1, vi (1 : Int32), vu, vu] [xi (1 : Int32)]) _
    refine XS.istore X7.here hx rfl (hb hby at_71) rfl (l' := #[vi p1, vi p2, vi p3, vi (0 : Int32), vr u1, vr u1, vi (1 : Int32), vi (1 : Int32), vu]) rfl ?_
    show own_S p e below T7 (mkF m 73 #[vi p1, vi p2, vi p3, vi (0 : Int32), vr u1, vr u1, vi (1 : Int32), vi (1 : Int32), vu] []) _
    refine XS.aload X7.here hx rfl (hb hby at_73) rfl rfl ?_
    show own_S p e below T7 (mkF m 75 #[vi p1, vi p2, vi p3, vi (0 : Int32), vr u1, vr u1, vi (1 : Int32), vi (1 : Int32), vu] [xr u1]) _
    refine XS.aload X7.here hx rfl (hb hby at_75) rfl rfl ?_
    show own_S p e below T7 (mkF m 77 #[vi p1, vi p2, vi p3, vi (0 : Int32), vr u1, vr u1, vi (1 : Int32), vi (1 : Int32), vu] [xr u1, xr u1]) _
    refine st8.trans ?_
    show own_S p e below T8 (mkF m 80 #[vi p1, vi p2, vi p3, vi (0 : Int32), vr u1, vr u1, vi (1 : Int32), vi (1 : Int32), vu] [xr u1]) _
    refine st9.trans ?_
    show own_S p e below T9 (mkF m 83 #[vi p1, vi p2, vi p3, vi (0 : Int32), vr u1, vr u1, vi (1 : Int32), vi (1 : Int32), vu] [xr u0]) _
    refine XS.aload X9.here hx rfl (hb hby at_83) rfl rfl ?_
    show own_S p e below T9 (mkF m 85 #[vi p1, vi p2, vi p3, vi (0 : Int32), vr u1, vr u1, vi (1 : Int32), vi (1 : Int32), vu] [xr u1, xr u0]) _
    refine st10.trans ?_
    show own_S p e below T10 (mkF m 88 #[vi p1, vi p2, vi p3, vi (0 : Int32), vr u1, vr u1, vi (1 : Int32), vi (1 : Int32), vu] [xr u0, xr u0]) _
    refine XS.aload X10.here hx rfl (hb hby at_88) rfl rfl ?_
    show own_S p e below T10 (mkF m 90 #[vi p1, vi p2, vi p3, vi (0 : Int32), vr u1, vr u1, vi (1 : Int32), vi (1 : Int32), vu] [xr u1, xr u0, xr u0]) _
    refine st11.trans ?_
    show own_S p e below T11 (mkF m 93 #[vi p1, vi p2, vi p3, vi (0 : Int32), vr u1, vr u1, vi (1 : Int32), vi (1 : Int32), vu] [xr u0, xr u0, xr u0]) _
    refine st12.trans ?_
    show own_S p e below T12 (mkF m 96 #[vi p1, vi p2, vi p3, vi (0 : Int32), vr u1, vr u1, vi (1 : Int32), vi (1 : Int32), vu] [xr u0, xr u0]) _
    refine Jvm.RoadKit.acmp (g := (mkF m 96 #[vi p1, vi p2, vi p3, vi (0 : Int32), vr u1, vr u1, vi (1 : Int32), vi (1 : Int32), vu] [xr u0, xr u0])) X12 hx rfl rfl rfl (pc0 := 96) (pc' := 99) (same := true) rfl (hb hby at_96) rfl (decide_eq_true rfl) (by decide) (by decide) ?_
    show own_S p e below T12 (mkF m 99 #[vi p1, vi p2, vi p3, vi (0 : Int32), vr u1, vr u1, vi (1 : Int32), vi (1 : Int32), vu] []) _
    refine XS.iconst X12.here hx rfl (hb hby at_99) ?_
    show own_S p e below T12 (mkF m 100 #[vi p1, vi p2, vi p3, vi (0 : Int32), vr u1, vr u1, vi (1 : Int32), vi (1 : Int32), vu] [xi (1 : Int32)]) _
    refine XS.goto X12.here hx rfl (pc0 := 100) (pc' := 104) rfl (hb hby at_100) (by decide) (by decide) ?_
    show own_S p e below T12 (mkF m 104 #[vi p1, vi p2, vi p3, vi (0 : Int32), vr u1, vr u1, vi (1 : Int32), vi (1 : Int32), vu] [xi (1 : Int32)]) _
    refine XS.istore X12.here hx rfl (hb hby at_104) rfl (l' := #[vi p1, vi p2, vi p3, vi (0 : Int32), vr u1, vr u1, vi (1 : Int32), vi (1 : Int32), vi (1 : Int32)]) rfl ?_
    show own_S p e below T12 (mkF m 106 #[vi p1, vi p2, vi p3, vi (0 : Int32), vr u1, vr u1, vi (1 : Int32), vi (1 : Int32), vi (1 : Int32)] []) _
    refine XS.iload X12.here hx rfl (hb hby at_106) rfl ?_
    show own_S p e below T12 (mkF m 108 #[vi p1, vi p2, vi p3, vi (0 : Int32), vr u1, vr u1, vi (1 : Int32), vi (1 : Int32), vi (1 : Int32)] [xi (1 : Int32)]) _
    refine XS.ifNo X12.here hx rfl (hb hby at_108) rfl (by decide) ?_
    show own_S p e below T12 (mkF m 111 #[vi p1, vi p2, vi p3, vi (0 : Int32), vr u1, vr u1, vi (1 : Int32), vi (1 : Int32), vi (1 : Int32)] []) _
    refine XS.iload X12.here hx rfl (hb hby at_111) rfl ?_
    show own_S p e below T12 (mkF m 113 #[vi p1, vi p2, vi p3, vi (0 : Int32), vr u1, vr u1, vi (1 : Int32), vi (1 : Int32), vi (1 : Int32)] [xi (1 : Int32)]) _
    refine XS.ifNo X12.here hx rfl (hb hby at_113) rfl (by decide) ?_
    show own_S p e below T12 (mkF m 116 #[vi p1, vi p2, vi p3, vi (0 : Int32), vr u1, vr u1, vi (1 : Int32), vi (1 : Int32), vi (1 : Int32)] []) _
    refine XS.iload X12.here hx rfl (hb hby at_116) rfl ?_
    show own_S p e below T12 (mkF m 118 #[vi p1, vi p2, vi p3, vi (0 : Int32), vr u1, vr u1, vi (1 : Int32), vi (1 : Int32), vi (1 : Int32)] [xi (1 : Int32)]) _
    refine XS.ifNo X12.here hx rfl (hb hby at_118) rfl (by decide) ?_
    show own_S p e below T12 (mkF m 121 #[vi p1, vi p2, vi p3, vi (0 : Int32), vr u1, vr u1, vi (1 : Int32), vi (1 : Int32), vi (1 : Int32)] []) _
    refine XS.iconst X12.here hx rfl (hb hby at_121) ?_
    show own_S p e below T12 (mkF m 122 #[vi p1, vi p2, vi p3, vi (0 : Int32), vr u1, vr u1, vi (1 : Int32), vi (1 : Int32), vi (1 : Int32)] [xi (1 : Int32)]) _
    refine XS.goto X12.here hx rfl (pc0 := 122) (pc' := 126) rfl (hb hby at_122) (by decide) (by decide) ?_
    show own_S p e below T12 (mkF m 126 #[vi p1, vi p2, vi p3, vi (0 : Int32), vr u1, vr u1, vi (1 : Int32), vi (1 : Int32), vi (1 : Int32)] [xi (1 : Int32)]) _
    exact retN X12 hx (t := .boolean) Bd.returns (by simp) (hb hby at_126) hr
  · exact ⟨rfl, N12⟩
theorem ef_own_l9 (m : MethodId) (u0 u1 u2 : Addr) (p1 : Int32) (p2 : Int32) (p3 : Int32) : entryFrame m #[xi p1, xi p2, xi p3] maxLocals = (mkF m 0 #[vi p1, vi p2, vi p3, vu, vu, vu, vu, vu, vu] []) := by first | (simp [entryFrame, mkF, argsToLocals, Value.category, maxLocals]; done) | rfl
set_option maxRecDepth 65536 in
set_option maxHeartbeats 40000000 in
theorem own_l9 (l : Launch) (Z : State) (a0 : Array Value) (hw : ∀ d ∈ tables_1, d.before a0 Z = true) (u0 u1 u2 : Addr) (G : own_St Z u0 u1 u2) (p1 : Int32) (p2 : Int32) (p3 : Int32) (as7 : (p3 &&& (1 : Int32)) = (1 : Int32)) (as1 : ((p1 &&& (2147483647 : Int32)) - ((p1 &&& (2147483647 : Int32)) / (3 : Int32)) * (3 : Int32)) = (1 : Int32)) (as4 : ((p2 &&& (2147483647 : Int32)) - ((p2 &&& (2147483647 : Int32)) / (3 : Int32)) * (3 : Int32)) = (1 : Int32)) (h0 : Heap) (n0 : Nat) (O0 : Old Z n0 h0) : own_Met l Z x code maxLocals ret room_1 #[xi p1, xi p2, xi p3] h0 (own_QL (some (xi (1 : Int32))) n0) := by
  intro ws
  refine MetFree.of_bodySF (plainFor_of_name pn0) hisR ?_
  intro p e s m args below meth c s₁ Bd hml0 hP hK
  obtain ⟨rfl, hZ, hh⟩ := hP
  have hx := Bd.exec
  have hby := Bd.bytes
  have hml : c.maxLocals = 9 := hml0
  have hown : s.vm.findClass "com/example/arbitrium/arbitrium/policy/TruthNotPinLaw" = some m.cls := findClass_of_methodNamed Bd.named
  have hnm := (name_of_methodNamed Bd.named Bd.method).1
  have X0 : Stand p l e room_1 s m #[xi p1, xi p2, xi p3] below meth c s₁ [] 0 0 := Stand.of_body Bd
  have e0 : s₁.heap = h0 := by rw [← hh, Bd.state]; rfl
  have N0 := Fr.nil n0
  have pre0 : ∀ t, Steps p.tables e below (s₁.setTop (mkF m 0 #[vi p1, vi p2, vi p3, vu, vu, vu, vu, vu, vu] [])) t → Steps p.tables e below (s₁.setTop (entryFrame m #[xi p1, xi p2, xi p3] maxLocals)) t := fun t k => castTop (ef_own_l9 m u0 u1 u2 p1 p2 p3) k
  obtain ⟨_, _, ⟨T1, L1, k1, n1⟩, -, X1, ⟨Lc1, hQ1, l1, y1, z1⟩, st1⟩ := Jvm.LawKit.callS X0 hx (y := Y0) hown (mvT hZ (ww hw 0 rfl)) (mvT hZ (ww hw 1 rfl)) (mvT hZ (ww hw 2 rfl)) (mvT hZ (ww hw 3 rfl)) (by decide) (backOf (W := 0) (own_c15_pick l Z a0 hw u0 u1 u2 G p1 as1 h0 n0 O0 []) hZ (ww hw 3 rfl) (ww hw 2 rfl) (by decide) (by decide)) (g := (mkF m 13 #[vi p1, vi p2, vi p3, vi (1 : Int32), vu, vu, vu, vu, vu] [xi p1])) rfl (by rw [hml]; rfl) (argsL := [xi p1]) (rest := []) (lenOf pd0 rfl) rfl (by show 2 * 0 + _ ≤ _; exact Nat.le_of_eq rfl) (hb hby at_13) (fun _ _ => ⟨rfl, e0, (by decide : 0 + 0 ≤ _), (by decide : 0 + 0 ≤ _)⟩)
  dsimp only [Pt.U, Pt.locs, Pt.cells, Pt.slots] at X1 l1 y1 z1 st1 hQ1
  subst l1 y1 z1
  obtain ⟨rfl, Nq1, e1⟩ := hQ1
  have N1 := Fr.app N0 Nq1
  obtain ⟨_, _, ⟨T2, L2, k2, n2⟩, -, X2, ⟨Lc2, hQ2, l2, y2, z2⟩, st2⟩ := Jvm.LawKit.callS X1 hx (y := Y0) hown (mvT hZ (ww hw 0 rfl)) (mvT hZ (ww hw 1 rfl)) (mvT hZ (ww hw 2 rfl)) (mvT hZ (ww hw 3 rfl)) (by decide) (backOf (W := 0) (own_c8_pick l Z a0 hw u0 u1 u2 G p2 as4 h0 n0 O0 []) hZ (ww hw 3 rfl) (ww hw 2 rfl) (by decide) (by decide)) (g := (mkF m 19 #[vi p1, vi p2, vi p3, vi (1 : Int32), vr u1, vu, vu, vu, vu] [xi p2])) rfl (by rw [hml]; rfl) (argsL := [xi p2]) (rest := []) (lenOf pd0 rfl) rfl (by show 2 * 0 + _ ≤ _; exact Nat.le_of_eq rfl) (hb hby at_19) (fun _ _ => ⟨rfl, e1, (by decide : 0 + 0 ≤ _), (by decide : 0 + 0 ≤ _)⟩)
  dsimp only [Pt.U, Pt.locs, Pt.cells, Pt.slots] at X2 l2 y2 z2 st2 hQ2
  subst l2 y2 z2
  obtain ⟨rfl, Nq2, e2⟩ := hQ2
  have N2 := Fr.app N1 Nq2
  obtain ⟨_, _, ⟨T3, L3, k3, n3⟩, -, X3, ⟨Lc3, hQ3, l3, y3, z3⟩, st3⟩ := Jvm.LawKit.callS X2 hx (y := Y1) hown (mvT hZ (ww hw 8 rfl)) (mvT hZ (ww hw 9 rfl)) (mvT hZ (ww hw 6 rfl)) (mvT hZ (ww hw 10 rfl)) (by decide) (backOf (W := 0) (own_c3_of l Z a0 hw u0 u1 u2 G h0 n0 O0 []) hZ (ww hw 10 rfl) (ww hw 6 rfl) (by decide) (by decide)) (g := (mkF m 33 #[vi p1, vi p2, vi p3, vi (1 : Int32), vr u1, vr u1, vu, vu, vu] [xi (0 : Int32)])) rfl (by rw [hml]; rfl) (argsL := [xi (0 : Int32)]) (rest := []) (lenOf pd1 rfl) rfl (by show 2 * 0 + _ ≤ _; exact Nat.le_of_eq rfl) (hb hby at_33) (fun _ _ => ⟨rfl, e2, (by decide : 0 + 0 ≤ _), (by decide : 0 + 0 ≤ _)⟩)
  dsimp only [Pt.U, Pt.locs, Pt.cells, Pt.slots] at X3 l3 y3 z3 st3 hQ3
  subst l3 y3 z3
  obtain ⟨rfl, Nq3, e3⟩ := hQ3
  have N3 := Fr.app N2 Nq3
  obtain ⟨_, _, ⟨T4, L4, k4, n4⟩, -, X4, ⟨Lc4, hQ4, l4, y4, z4⟩, st4⟩ := Jvm.LawKit.callS X3 hx (y := Y1) hown (mvT hZ (ww hw 8 rfl)) (mvT hZ (ww hw 9 rfl)) (mvT hZ (ww hw 6 rfl)) (mvT hZ (ww hw 10 rfl)) (by decide) (backOf (W := 1) (own_c2_of l Z a0 hw u0 u1 u2 G h0 n0 O0 []) hZ (ww hw 10 rfl) (ww hw 6 rfl) (by decide) (by decide)) (g := (mkF m 37 #[vi p1, vi p2, vi p3, vi (1 : Int32), vr u1, vr u1, vu, vu, vu] [xi (1 : Int32), xr u1])) rfl (by rw [hml]; rfl) (argsL := [xi (1 : Int32)]) (rest := [xr u1]) (lenOf pd1 rfl) rfl (by show 2 * 0 + _ ≤ _; exact Nat.le_of_eq rfl) (hb hby at_37) (fun _ _ => ⟨rfl, e3, (by decide : 0 + 0 ≤ _), (by decide : 0 + 0 ≤ _)⟩)
  dsimp only [Pt.U, Pt.locs, Pt.cells, Pt.slots] at X4 l4 y4 z4 st4 hQ4
  subst l4 y4 z4
  obtain ⟨rfl, Nq4, e4⟩ := hQ4
  have N4 := Fr.app N3 Nq4
  obtain ⟨cq5, kq5, qa5, qb5, qc5⟩ := isOf hZ e4 ((own_X_u0 G).ext O0.2)
  obtain ⟨_, _, ⟨T5, L5, k5, n5⟩, -, X5, ⟨Lc5, hQ5, l5, y5, z5⟩, st5⟩ := X4.virtualBack hx (y := Y2) (z := Y2) hown (mvT hZ (ww hw 14 rfl)) (mvT hZ (ww hw 15 rfl)) (notFace_of_selects (args := #[]) (mvT hZ (ww hw 17 rfl))) (mvT hZ (ww hw 17 rfl)) (mvT hZ (ww hw 16 rfl)) (by decide) (backOf (W := 1) (own_c5_not l Z a0 hw u0 u1 u2 G h0 n0 O0 []) hZ (ww hw 18 rfl) (ww hw 6 rfl) (by decide) (by decide)) qa5 qc5 (g := (mkF m 40 #[vi p1, vi p2, vi p3, vi (1 : Int32), vr u1, vr u1, vu, vu, vu] [xr u0, xr u1])) rfl (by rw [hml]; rfl) (Steps.refl _) (argsL := []) (rest := [xr u1]) (lenOf pd2 rfl) rfl (by show 2 * 0 + _ ≤ _; exact Nat.le_of_eq rfl) (hb hby at_40) (fun _ _ => ⟨rfl, e4, (by decide : 0 + 0 ≤ _), (by decide : 0 + 0 ≤ _)⟩)
  dsimp only [Pt.U, Pt.locs, Pt.cells, Pt.slots] at X5 l5 y5 z5 st5 hQ5
  subst l5 y5 z5
  obtain ⟨rfl, Nq5, e5⟩ := hQ5
  have N5 := Fr.app N4 Nq5
  obtain ⟨cq6, kq6, qa6, qb6, qc6⟩ := isOf hZ e5 ((own_X_u1 G).ext O0.2)
  obtain ⟨_, _, ⟨T6, L6, k6, n6⟩, -, X6, ⟨Lc6, hQ6, l6, y6, z6⟩, st6⟩ := X5.virtualBack hx (y := Y2) (z := Y2) hown (mvT hZ (ww hw 14 rfl)) (mvT hZ (ww hw 15 rfl)) (notFace_of_selects (args := #[]) (mvT hZ (ww hw 17 rfl))) (mvT hZ (ww hw 17 rfl)) (mvT hZ (ww hw 16 rfl)) (by decide) (backOf (W := 0) (own_c4_not l Z a0 hw u0 u1 u2 G h0 n0 O0 []) hZ (ww hw 18 rfl) (ww hw 6 rfl) (by decide) (by decide)) qa6 qc6 (g := (mkF m 55 #[vi p1, vi p2, vi p3, vi (1 : Int32), vr u1, vr u1, vi (1 : Int32), vu, vu] [xr u1])) rfl (by rw [hml]; rfl) (Steps.refl _) (argsL := []) (rest := []) (lenOf pd2 rfl) rfl (by show 2 * 0 + _ ≤ _; exact Nat.le_of_eq rfl) (hb hby at_55) (fun _ _ => ⟨rfl, e5, (by decide : 0 + 0 ≤ _), (by decide : 0 + 0 ≤ _)⟩)
  dsimp only [Pt.U, Pt.locs, Pt.cells, Pt.slots] at X6 l6 y6 z6 st6 hQ6
  subst l6 y6 z6
  obtain ⟨rfl, Nq6, e6⟩ := hQ6
  have N6 := Fr.app N5 Nq6
  obtain ⟨cq7, kq7, qa7, qb7, qc7⟩ := isOf hZ e6 ((own_X_u0 G).ext O0.2)
  obtain ⟨_, _, ⟨T7, L7, k7, n7⟩, -, X7, ⟨Lc7, hQ7, l7, y7, z7⟩, st7⟩ := X6.virtualBack hx (y := Y2) (z := Y2) hown (mvT hZ (ww hw 14 rfl)) (mvT hZ (ww hw 15 rfl)) (notFace_of_selects (args := #[]) (mvT hZ (ww hw 17 rfl))) (mvT hZ (ww hw 17 rfl)) (mvT hZ (ww hw 16 rfl)) (by decide) (backOf (W := 0) (own_c5_not l Z a0 hw u0 u1 u2 G h0 n0 O0 []) hZ (ww hw 18 rfl) (ww hw 6 rfl) (by decide) (by decide)) qa7 qc7 (g := (mkF m 58 #[vi p1, vi p2, vi p3, vi (1 : Int32), vr u1, vr u1, vi (1 : Int32), vu, vu] [xr u0])) rfl (by rw [hml]; rfl) (Steps.refl _) (argsL := []) (rest := []) (lenOf pd2 rfl) rfl (by show 2 * 0 + _ ≤ _; exact Nat.le_of_eq rfl) (hb hby at_58) (fun _ _ => ⟨rfl, e6, (by decide : 0 + 0 ≤ _), (by decide : 0 + 0 ≤ _)⟩)
  dsimp only [Pt.U, Pt.locs, Pt.cells, Pt.slots] at X7 l7 y7 z7 st7 hQ7
  subst l7 y7 z7
  obtain ⟨rfl, Nq7, e7⟩ := hQ7
  have N7 := Fr.app N6 Nq7
  obtain ⟨cq8, kq8, qa8, qb8, qc8⟩ := isOf hZ e7 ((own_X_u1 G).ext O0.2)
  obtain ⟨_, _, ⟨T8, L8, k8, n8⟩, -, X8, ⟨Lc8, hQ8, l8, y8, z8⟩, st8⟩ := X7.virtualBack hx (y := Y3) (z := Y3) hown (mvT hZ (ww hw 21 rfl)) (mvT hZ (ww hw 22 rfl)) (notFace_of_selects (args := #[]) (mvT hZ (ww hw 24 rfl))) (mvT hZ (ww hw 24 rfl)) (mvT hZ (ww hw 23 rfl)) (by decide) (backOf (W := 0) (own_c18_and l Z a0 hw u0 u1 u2 G h0 n0 O0 []) hZ (ww hw 25 rfl) (ww hw 6 rfl) (by decide) (by decide)) qa8 qc8 (g := (mkF m 77 #[vi p1, vi p2, vi p3, vi (1 : Int32), vr u1, vr u1, vi (1 : Int32), vi (1 : Int32), vu] [xr u1, xr u1])) rfl (by rw [hml]; rfl) (Steps.refl _) (argsL := [xr u1]) (rest := []) (lenOf pd3 rfl) rfl (by show 2 * 0 + _ ≤ _; exact Nat.le_of_eq rfl) (hb hby at_77) (fun _ _ => ⟨rfl, e7, (by decide : 0 + 0 ≤ _), (by decide : 0 + 0 ≤ _)⟩)
  dsimp only [Pt.U, Pt.locs, Pt.cells, Pt.slots] at X8 l8 y8 z8 st8 hQ8
  subst l8 y8 z8
  obtain ⟨rfl, Nq8, e8⟩ := hQ8
  have N8 := Fr.app N7 Nq8
  obtain ⟨cq9, kq9, qa9, qb9, qc9⟩ := isOf hZ e8 ((own_X_u1 G).ext O0.2)
  obtain ⟨_, _, ⟨T9, L9, k9, n9⟩, -, X9, ⟨Lc9, hQ9, l9, y9, z9⟩, st9⟩ := X8.virtualBack hx (y := Y2) (z := Y2) hown (mvT hZ (ww hw 14 rfl)) (mvT hZ (ww hw 15 rfl)) (notFace_of_selects (args := #[]) (mvT hZ (ww hw 17 rfl))) (mvT hZ (ww hw 17 rfl)) (mvT hZ (ww hw 16 rfl)) (by decide) (backOf (W := 0) (own_c4_not l Z a0 hw u0 u1 u2 G h0 n0 O0 []) hZ (ww hw 18 rfl) (ww hw 6 rfl) (by decide) (by decide)) qa9 qc9 (g := (mkF m 80 #[vi p1, vi p2, vi p3, vi (1 : Int32), vr u1, vr u1, vi (1 : Int32), vi (1 : Int32), vu] [xr u1])) rfl (by rw [hml]; rfl) (Steps.refl _) (argsL := []) (rest := []) (lenOf pd2 rfl) rfl (by show 2 * 0 + _ ≤ _; exact Nat.le_of_eq rfl) (hb hby at_80) (fun _ _ => ⟨rfl, e8, (by decide : 0 + 0 ≤ _), (by decide : 0 + 0 ≤ _)⟩)
  dsimp only [Pt.U, Pt.locs, Pt.cells, Pt.slots] at X9 l9 y9 z9 st9 hQ9
  subst l9 y9 z9
  obtain ⟨rfl, Nq9, e9⟩ := hQ9
  have N9 := Fr.app N8 Nq9
  obtain ⟨cq10, kq10, qa10, qb10, qc10⟩ := isOf hZ e9 ((own_X_u1 G).ext O0.2)
  obtain ⟨_, _, ⟨T10, L10, k10, n10⟩, -, X10, ⟨Lc10, hQ10, l10, y10, z10⟩, st10⟩ := X9.virtualBack hx (y := Y2) (z := Y2) hown (mvT hZ (ww hw 14 rfl)) (mvT hZ (ww hw 15 rfl)) (notFace_of_selects (args := #[]) (mvT hZ (ww hw 17 rfl))) (mvT hZ (ww hw 17 rfl)) (mvT hZ (ww hw 16 rfl)) (by decide) (backOf (W := 1) (own_c4_not l Z a0 hw u0 u1 u2 G h0 n0 O0 []) hZ (ww hw 18 rfl) (ww hw 6 rfl) (by decide) (by decide)) qa10 qc10 (g := (mkF m 85 #[vi p1, vi p2, vi p3, vi (1 : Int32), vr u1, vr u1, vi (1 : Int32), vi (1 : Int32), vu] [xr u1, xr u0])) rfl (by rw [hml]; rfl) (Steps.refl _) (argsL := []) (rest := [xr u0]) (lenOf pd2 rfl) rfl (by show 2 * 0 + _ ≤ _; exact Nat.le_of_eq rfl) (hb hby at_85) (fun _ _ => ⟨rfl, e9, (by decide : 0 + 0 ≤ _), (by decide : 0 + 0 ≤ _)⟩)
  dsimp only [Pt.U, Pt.locs, Pt.cells, Pt.slots] at X10 l10 y10 z10 st10 hQ10
  subst l10 y10 z10
  obtain ⟨rfl, Nq10, e10⟩ := hQ10
  have N10 := Fr.app N9 Nq10
  obtain ⟨cq11, kq11, qa11, qb11, qc11⟩ := isOf hZ e10 ((own_X_u1 G).ext O0.2)
  obtain ⟨_, _, ⟨T11, L11, k11, n11⟩, -, X11, ⟨Lc11, hQ11, l11, y11, z11⟩, st11⟩ := X10.virtualBack hx (y := Y2) (z := Y2) hown (mvT hZ (ww hw 14 rfl)) (mvT hZ (ww hw 15 rfl)) (notFace_of_selects (args := #[]) (mvT hZ (ww hw 17 rfl))) (mvT hZ (ww hw 17 rfl)) (mvT hZ (ww hw 16 rfl)) (by decide) (backOf (W := 2) (own_c4_not l Z a0 hw u0 u1 u2 G h0 n0 O0 []) hZ (ww hw 18 rfl) (ww hw 6 rfl) (by decide) (by decide)) qa11 qc11 (g := (mkF m 90 #[vi p1, vi p2, vi p3, vi (1 : Int32), vr u1, vr u1, vi (1 : Int32), vi (1 : Int32), vu] [xr u1, xr u0, xr u0])) rfl (by rw [hml]; rfl) (Steps.refl _) (argsL := []) (rest := [xr u0, xr u0]) (lenOf pd2 rfl) rfl (by show 2 * 0 + _ ≤ _; exact Nat.le_of_eq rfl) (hb hby at_90) (fun _ _ => ⟨rfl, e10, (by decide : 0 + 0 ≤ _), (by decide : 0 + 0 ≤ _)⟩)
  dsimp only [Pt.U, Pt.locs, Pt.cells, Pt.slots] at X11 l11 y11 z11 st11 hQ11
  subst l11 y11 z11
  obtain ⟨rfl, Nq11, e11⟩ := hQ11
  have N11 := Fr.app N10 Nq11
  obtain ⟨cq12, kq12, qa12, qb12, qc12⟩ := isOf hZ e11 ((own_X_u0 G).ext O0.2)
  obtain ⟨_, _, ⟨T12, L12, k12, n12⟩, -, X12, ⟨Lc12, hQ12, l12, y12, z12⟩, st12⟩ := X11.virtualBack hx (y := Y4) (z := Y4) hown (mvT hZ (ww hw 26 rfl)) (mvT hZ (ww hw 27 rfl)) (notFace_of_selects (args := #[]) (mvT hZ (ww hw 29 rfl))) (mvT hZ (ww hw 29 rfl)) (mvT hZ (ww hw 28 rfl)) (by decide) (backOf (W := 1) (own_c19_or l Z a0 hw u0 u1 u2 G h0 n0 O0 []) hZ (ww hw 30 rfl) (ww hw 6 rfl) (by decide) (by decide)) qa12 qc12 (g := (mkF m 93 #[vi p1, vi p2, vi p3, vi (1 : Int32), vr u1, vr u1, vi (1 : Int32), vi (1 : Int32), vu] [xr u0, xr u0, xr u0])) rfl (by rw [hml]; rfl) (Steps.refl _) (argsL := [xr u0]) (rest := [xr u0]) (lenOf pd3 rfl) rfl (by show 2 * 0 + _ ≤ _; exact Nat.le_of_eq rfl) (hb hby at_93) (fun _ _ => ⟨rfl, e11, (by decide : 0 + 0 ≤ _), (by decide : 0 + 0 ≤ _)⟩)
  dsimp only [Pt.U, Pt.locs, Pt.cells, Pt.slots] at X12 l12 y12 z12 st12 hQ12
  subst l12 y12 z12
  obtain ⟨rfl, Nq12, e12⟩ := hQ12
  have N12 := Fr.app N11 Nq12
  obtain ⟨fs, hr, hrun, hended, hW, hsame⟩ := X12.leave (v := some (xi (1 : Int32))) (fun h => by rw [Bd.returns] at h; cases h)
  refine ⟨_, _, pre0 _ ?_, hrun, hended, _, _, rfl, ?_, ⟨_, rfl⟩, hW, hsame.mono (by decide) (by decide)⟩
  · show own_S p e below s₁ (mkF m 0 #[vi p1, vi p2, vi p3, vu, vu, vu, vu, vu, vu] []) _
    refine XS.iloadN X0.here hx rfl (hb hby at_0) rfl ?_
    show own_S p e below s₁ (mkF m 1 #[vi p1, vi p2, vi p3, vu, vu, vu, vu, vu, vu] [xi p3]) _
    refine XS.iconst X0.here hx rfl (hb hby at_1) ?_
    show own_S p e below s₁ (mkF m 2 #[vi p1, vi p2, vi p3, vu, vu, vu, vu, vu, vu] [xi (1 : Int32), xi p3]) _
    refine XS.iand X0.here hx rfl (hb hby at_2) rfl ?_
    show own_S p e below s₁ (mkF m 3 #[vi p1, vi p2, vi p3, vu, vu, vu, vu, vu, vu] [xi (p3 &&& (1 : Int32))]) _
    refine castTop (show (mkF m 3 #[vi p1, vi p2, vi p3, vu, vu, vu, vu, vu, vu] [xi (p3 &&& (1 : Int32))]) = (mkF m 3 #[vi p1, vi p2, vi p3, vu, vu, vu, vu, vu, vu] [xi (1 : Int32)]) from by rw [as7]) ?_
    show own_S p e below s₁ (mkF m 3 #[vi p1, vi p2, vi p3, vu, vu, vu, vu, vu, vu] [xi (1 : Int32)]) _
    refine XS.ifNo X0.here hx rfl (hb hby at_3) rfl (by decide) ?_
    show own_S p e below s₁ (mkF m 6 #[vi p1, vi p2, vi p3, vu, vu, vu, vu, vu, vu] []) _
    refine XS.iconst X0.here hx rfl (hb hby at_6) ?_
    show own_S p e below s₁ (mkF m 7 #[vi p1, vi p2, vi p3, vu, vu, vu, vu, vu, vu] [xi (1 : Int32)]) _
    refine XS.goto X0.here hx rfl (pc0 := 7) (pc' := 11) rfl (hb hby at_7) (by decide) (by decide) ?_
    show own_S p e below s₁ (mkF m 11 #[vi p1, vi p2, vi p3, vu, vu, vu, vu, vu, vu] [xi (1 : Int32)]) _
    refine XS.istoreN X0.here hx rfl (hb hby at_11) rfl (l' := #[vi p1, vi p2, vi p3, vi (1 : Int32), vu, vu, vu, vu, vu]) rfl ?_
    show own_S p e below s₁ (mkF m 12 #[vi p1, vi p2, vi p3, vi (1 : Int32), vu, vu, vu, vu, vu] []) _
    refine XS.iloadN X0.here hx rfl (hb hby at_12) rfl ?_
    show own_S p e below s₁ (mkF m 13 #[vi p1, vi p2, vi p3, vi (1 : Int32), vu, vu, vu, vu, vu] [xi p1]) _
    refine st1 _ ?_
    show own_S p e below T1 (mkF m 16 #[vi p1, vi p2, vi p3, vi (1 : Int32), vu, vu, vu, vu, vu] [xr u1]) _
    refine XS.astore X1.here hx rfl (hb hby at_16) rfl rfl (l' := #[vi p1, vi p2, vi p3, vi (1 : Int32), vr u1, vu, vu, vu, vu]) rfl ?_
    show own_S p e below T1 (mkF m 18 #[vi p1, vi p2, vi p3, vi (1 : Int32), vr u1, vu, vu, vu, vu] []) _
    refine XS.iloadN X1.here hx rfl (hb hby at_18) rfl ?_
    show own_S p e below T1 (mkF m 19 #[vi p1, vi p2, vi p3, vi (1 : Int32), vr u1, vu, vu, vu, vu] [xi p2]) _
    refine st2 _ ?_
    show own_S p e below T2 (mkF m 22 #[vi p1, vi p2, vi p3, vi (1 : Int32), vr u1, vu, vu, vu, vu] [xr u1]) _
    refine XS.astore X2.here hx rfl (hb hby at_22) rfl rfl (l' := #[vi p1, vi p2, vi p3, vi (1 : Int32), vr u1, vr u1, vu, vu, vu]) rfl ?_
    show own_S p e below T2 (mkF m 24 #[vi p1, vi p2, vi p3, vi (1 : Int32), vr u1, vr u1, vu, vu, vu] []) _
    refine XS.iloadN X2.here hx rfl (hb hby at_24) rfl ?_
    show own_S p e below T2 (mkF m 25 #[vi p1, vi p2, vi p3, vi (1 : Int32), vr u1, vr u1, vu, vu, vu] [xi (1 : Int32)]) _
    refine XS.ifYes X2.here hx rfl (pc0 := 25) (pc' := 32) rfl (hb hby at_25) rfl (by decide) (by decide) (by decide) ?_
    show own_S p e below T2 (mkF m 32 #[vi p1, vi p2, vi p3, vi (1 : Int32), vr u1, vr u1, vu, vu, vu] []) _
    refine XS.iconst X2.here hx rfl (hb hby at_32) ?_
    show own_S p e below T2 (mkF m 33 #[vi p1, vi p2, vi p3, vi (1 : Int32), vr u1, vr u1, vu, vu, vu] [xi (0 : Int32)]) _
    refine st3 _ ?_
    show own_S p e below T3 (mkF m 36 #[vi p1, vi p2, vi p3, vi (1 : Int32), vr u1, vr u1, vu, vu, vu] [xr u1]) _
    refine XS.iloadN X3.here hx rfl (hb hby at_36) rfl ?_
    show own_S p e below T3 (mkF m 37 #[vi p1, vi p2, vi p3, vi (1 : Int32), vr u1, vr u1, vu, vu, vu] [xi (1 : Int32), xr u1]) _
    refine st4 _ ?_
    show own_S p e below T4 (mkF m 40 #[vi p1, vi p2, vi p3, vi (1 : Int32), vr u1, vr u1, vu, vu, vu] [xr u0, xr u1]) _
    refine st5.trans ?_
    show own_S p e below T5 (mkF m 43 #[vi p1, vi p2, vi p3, vi (1 : Int32), vr u1, vr u1, vu, vu, vu] [xr u1, xr u1]) _
    refine Jvm.RoadKit.acmp (g := (mkF m 43 #[vi p1, vi p2, vi p3, vi (1 : Int32), vr u1, vr u1, vu, vu, vu] [xr u1, xr u1])) X5 hx rfl rfl rfl (pc0 := 43) (pc' := 46) (same := true) rfl (hb hby at_43) rfl (decide_eq_true rfl) (by decide) (by decide) ?_
    show own_S p e below T5 (mkF m 46 #[vi p1, vi p2, vi p3, vi (1 : Int32), vr u1, vr u1, vu, vu, vu] []) _
    refine XS.iconst X5.here hx rfl (hb hby at_46) ?_
    show own_S p e below T5 (mkF m 47 #[vi p1, vi p2, vi p3, vi (1 : Int32), vr u1, vr u1, vu, vu, vu] [xi (1 : Int32)]) _
    refine XS.goto X5.here hx rfl (pc0 := 47) (pc' := 51) rfl (hb hby at_47) (by decide) (by decide) ?_
    show own_S p e below T5 (mkF m 51 #[vi p1, vi p2, vi p3, vi (1 : Int32), vr u1, vr u1, vu, vu, vu] [xi (1 : Int32)]) _
    refine XS.istore X5.here hx rfl (hb hby at_51) rfl (l' := #[vi p1, vi p2, vi p3, vi (1 : Int32), vr u1, vr u1, vi (1 : Int32), vu, vu]) rfl ?_
    show own_S p e below T5 (mkF m 53 #[vi p1, vi p2, vi p3, vi (1 : Int32), vr u1, vr u1, vi (1 : Int32), vu, vu] []) _
    refine XS.aload X5.here hx rfl (hb hby at_53) rfl rfl ?_
    show own_S p e below T5 (mkF m 55 #[vi p1, vi p2, vi p3, vi (1 : Int32), vr u1, vr u1, vi (1 : Int32), vu, vu] [xr u1]) _
    refine st6.trans ?_
    show own_S p e below T6 (mkF m 58 #[vi p1, vi p2, vi p3, vi (1 : Int32), vr u1, vr u1, vi (1 : Int32), vu, vu] [xr u0]) _
    refine st7.trans ?_
    show own_S p e below T7 (mkF m 61 #[vi p1, vi p2, vi p3, vi (1 : Int32), vr u1, vr u1, vi (1 : Int32), vu, vu] [xr u1]) _
    refine XS.aload X7.here hx rfl (hb hby at_61) rfl rfl ?_
    show own_S p e below T7 (mkF m 63 #[vi p1, vi p2, vi p3, vi (1 : Int32), vr u1, vr u1, vi (1 : Int32), vu, vu] [xr u1, xr u1]) _
    refine Jvm.RoadKit.acmp (g := (mkF m 63 #[vi p1, vi p2, vi p3, vi (1 : Int32), vr u1, vr u1, vi (1 : Int32), vu, vu] [xr u1, xr u1])) X7 hx rfl rfl rfl (pc0 := 63) (pc' := 66) (same := true) rfl (hb hby at_63) rfl (decide_eq_true rfl) (by decide) (by decide) ?_
    show own_S p e below T7 (mkF m 66 #[vi p1, vi p2, vi p3, vi (1 : Int32), vr u1, vr u1, vi (1 : Int32), vu, vu] []) _
    refine XS.iconst X7.here hx rfl (hb hby at_66) ?_
    show own_S p e below T7 (mkF m 67 #[vi p1, vi p2, vi p3, vi (1 : Int32), vr u1, vr u1, vi (1 : Int32), vu, vu] [xi (1 : Int32)]) _
    refine XS.goto X7.here hx rfl (pc0 := 67) (pc' := 71) rfl (hb hby at_67) (by decide) (by decide) ?_
    show own_S p e below T7 (mkF m 71 #[vi p1, vi p2, vi p3, vi (1 : Int32), vr u1, vr u1, vi (1 : Int32), vu, vu] [xi (1 : Int32)]) _
    refine XS.istore X7.here hx rfl (hb hby at_71) rfl (l' := #[vi p1, vi p2, vi p3, vi (1 : Int32), vr u1, vr u1, vi (1 : Int32), vi (1 : Int32), vu]) rfl ?_
    show own_S p e below T7 (mkF m 73 #[vi p1, vi p2, vi p3, vi (1 : Int32), vr u1, vr u1, vi (1 : Int32), vi (1 : Int32), vu] []) _
    refine XS.aload X7.here hx rfl (hb hby at_73) rfl rfl ?_
    show own_S p e below T7 (mkF m 75 #[vi p1, vi p2, vi p3, vi (1 : Int32), vr u1, vr u1, vi (1 : Int32), vi (1 : Int32), vu] [xr u1]) _
    refine XS.aload X7.here hx rfl (hb hby at_75) rfl rfl ?_
    show own_S p e below T7 (mkF m 77 #[vi p1, vi p2, vi p3, vi (1 : Int32), vr u1, vr u1, vi (1 : Int32), vi (1 : Int32), vu] [xr u1, xr u1]) _
    refine st8.trans ?_
    show own_S p e below T8 (mkF m 80 #[vi p1, vi p2, vi p3, vi (1 : Int32), vr u1, vr u1, vi (1 : Int32), vi (1 : Int32), vu] [xr u1]) _
    refine st9.trans ?_
    show own_S p e below T9 (mkF m 83 #[vi p1, vi p2, vi p3, vi (1 : Int32), vr u1, vr u1, vi (1 : Int32), vi (1 : Int32), vu] [xr u0]) _
    refine XS.aload X9.here hx rfl (hb hby at_83) rfl rfl ?_
    show own_S p e below T9 (mkF m 85 #[vi p1, vi p2, vi p3, vi (1 : Int32), vr u1, vr u1, vi (1 : Int32), vi (1 : Int32), vu] [xr u1, xr u0]) _
    refine st10.trans ?_
    show own_S p e below T10 (mkF m 88 #[vi p1, vi p2, vi p3, vi (1 : Int32), vr u1, vr u1, vi (1 : Int32), vi (1 : Int32), vu] [xr u0, xr u0]) _
    refine XS.aload X10.here hx rfl (hb hby at_88) rfl rfl ?_
    show own_S p e below T10 (mkF m 90 #[vi p1, vi p2, vi p3, vi (1 : Int32), vr u1, vr u1, vi (1 : Int32), vi (1 : Int32), vu] [xr u1, xr u0, xr u0]) _
    refine st11.trans ?_
    show own_S p e below T11 (mkF m 93 #[vi p1, vi p2, vi p3, vi (1 : Int32), vr u1, vr u1, vi (1 : Int32), vi (1 : Int32), vu] [xr u0, xr u0, xr u0]) _
    refine st12.trans ?_
    show own_S p e below T12 (mkF m 96 #[vi p1, vi p2, vi p3, vi (1 : Int32), vr u1, vr u1, vi (1 : Int32), vi (1 : Int32), vu] [xr u0, xr u0]) _
    refine Jvm.RoadKit.acmp (g := (mkF m 96 #[vi p1, vi p2, vi p3, vi (1 : Int32), vr u1, vr u1, vi (1 : Int32), vi (1 : Int32), vu] [xr u0, xr u0])) X12 hx rfl rfl rfl (pc0 := 96) (pc' := 99) (same := true) rfl (hb hby at_96) rfl (decide_eq_true rfl) (by decide) (by decide) ?_
    show own_S p e below T12 (mkF m 99 #[vi p1, vi p2, vi p3, vi (1 : Int32), vr u1, vr u1, vi (1 : Int32), vi (1 : Int32), vu] []) _
    refine XS.iconst X12.here hx rfl (hb hby at_99) ?_
    show own_S p e below T12 (mkF m 100 #[vi p1, vi p2, vi p3, vi (1 : Int32), vr u1, vr u1, vi (1 : Int32), vi (1 : Int32), vu] [xi (1 : Int32)]) _
    refine XS.goto X12.here hx rfl (pc0 := 100) (pc' := 104) rfl (hb hby at_100) (by decide) (by decide) ?_
    show own_S p e below T12 (mkF m 104 #[vi p1, vi p2, vi p3, vi (1 : Int32), vr u1, vr u1, vi (1 : Int32), vi (1 : Int32), vu] [xi (1 : Int32)]) _
    refine XS.istore X12.here hx rfl (hb hby at_104) rfl (l' := #[vi p1, vi p2, vi p3, vi (1 : Int32), vr u1, vr u1, vi (1 : Int32), vi (1 : Int32), vi (1 : Int32)]) rfl ?_
    show own_S p e below T12 (mkF m 106 #[vi p1, vi p2, vi p3, vi (1 : Int32), vr u1, vr u1, vi (1 : Int32), vi (1 : Int32), vi (1 : Int32)] []) _
    refine XS.iload X12.here hx rfl (hb hby at_106) rfl ?_
    show own_S p e below T12 (mkF m 108 #[vi p1, vi p2, vi p3, vi (1 : Int32), vr u1, vr u1, vi (1 : Int32), vi (1 : Int32), vi (1 : Int32)] [xi (1 : Int32)]) _
    refine XS.ifNo X12.here hx rfl (hb hby at_108) rfl (by decide) ?_
    show own_S p e below T12 (mkF m 111 #[vi p1, vi p2, vi p3, vi (1 : Int32), vr u1, vr u1, vi (1 : Int32), vi (1 : Int32), vi (1 : Int32)] []) _
    refine XS.iload X12.here hx rfl (hb hby at_111) rfl ?_
    show own_S p e below T12 (mkF m 113 #[vi p1, vi p2, vi p3, vi (1 : Int32), vr u1, vr u1, vi (1 : Int32), vi (1 : Int32), vi (1 : Int32)] [xi (1 : Int32)]) _
    refine XS.ifNo X12.here hx rfl (hb hby at_113) rfl (by decide) ?_
    show own_S p e below T12 (mkF m 116 #[vi p1, vi p2, vi p3, vi (1 : Int32), vr u1, vr u1, vi (1 : Int32), vi (1 : Int32), vi (1 : Int32)] []) _
    refine XS.iload X12.here hx rfl (hb hby at_116) rfl ?_
    show own_S p e below T12 (mkF m 118 #[vi p1, vi p2, vi p3, vi (1 : Int32), vr u1, vr u1, vi (1 : Int32), vi (1 : Int32), vi (1 : Int32)] [xi (1 : Int32)]) _
    refine XS.ifNo X12.here hx rfl (hb hby at_118) rfl (by decide) ?_
    show own_S p e below T12 (mkF m 121 #[vi p1, vi p2, vi p3, vi (1 : Int32), vr u1, vr u1, vi (1 : Int32), vi (1 : Int32), vi (1 : Int32)] []) _
    refine XS.iconst X12.here hx rfl (hb hby at_121) ?_
    show own_S p e below T12 (mkF m 122 #[vi p1, vi p2, vi p3, vi (1 : Int32), vr u1, vr u1, vi (1 : Int32), vi (1 : Int32), vi (1 : Int32)] [xi (1 : Int32)]) _
    refine XS.goto X12.here hx rfl (pc0 := 122) (pc' := 126) rfl (hb hby at_122) (by decide) (by decide) ?_
    show own_S p e below T12 (mkF m 126 #[vi p1, vi p2, vi p3, vi (1 : Int32), vr u1, vr u1, vi (1 : Int32), vi (1 : Int32), vi (1 : Int32)] [xi (1 : Int32)]) _
    exact retN X12 hx (t := .boolean) Bd.returns (by simp) (hb hby at_126) hr
  · exact ⟨rfl, N12⟩
theorem ef_own_c20_and (m : MethodId) (u0 u1 u2 : Addr) : entryFrame m #[xr u1, xr u2] 2 = (mkF m 0 #[vr u1, vr u2] []) := by first | (simp [entryFrame, mkF, argsToLocals, Value.category]; done) | rfl
set_option maxRecDepth 65536 in
set_option maxHeartbeats 40000000 in
theorem own_c20_and (l : Launch) (Z : State) (a0 : Array Value) (hw : ∀ d ∈ tables_1, d.before a0 Z = true) (u0 u1 u2 : Addr) (G : own_St Z u0 u1 u2) (h0 : Heap) (n0 : Nat) (O0 : Old Z n0 h0) : own_Met l Z Y3 prog_71_method_5_code 2 (some (.object "com/example/arbitrium/arbitrium/policy/Truth")) ({ frames := 0, cells := 0, slots := 0, locals := 0 } : Room) #[xr u1, xr u2] h0 (own_QR (some (xr u1)) h0 n0) := by
  intro ws
  refine MetFree.of_bodySF (plainFor_of_name pn1) hisR ?_
  intro p e s m args below meth c s₁ Bd hml0 hP hK
  obtain ⟨rfl, hZ, hh⟩ := hP
  have hx := Bd.exec
  have hby := Bd.bytes
  have hml : c.maxLocals = 2 := hml0
  have hown : s.vm.findClass "com/example/arbitrium/arbitrium/policy/Truth" = some m.cls := findClass_of_methodNamed Bd.named
  have hnm := (name_of_methodNamed Bd.named Bd.method).1
  have X0 : Stand p l e ({ frames := 0, cells := 0, slots := 0, locals := 0 } : Room) s m #[xr u1, xr u2] below meth c s₁ [] 0 0 := Stand.of_body Bd
  have e0 : s₁.heap = h0 := by rw [← hh, Bd.state]; rfl
  have N0 := Fr.nil n0
  have pre0 : ∀ t, Steps p.tables e below (s₁.setTop (mkF m 0 #[vr u1, vr u2] [])) t → Steps p.tables e below (s₁.setTop (entryFrame m #[xr u1, xr u2] 2)) t := fun t k => castTop (ef_own_c20_and m u0 u1 u2) k
  obtain ⟨T1, X1, e1, st1⟩ := getS2 X0 hx hZ hown (host := "") (Or.inl (ww hw 12 rfl)) Via.refl e0 ((own_S_u1 G).ext O0.2) (g := (mkF m 1 #[vr u1, vr u2] [xr u1])) rfl (hb hby d4_1)
  obtain ⟨T2, X2, e2, st2⟩ := getS2 X1 hx hZ hown (host := "") (Or.inl (ww hw 12 rfl)) Via.refl e1 ((own_S_u1 G).ext O0.2) (g := (mkF m 14 #[vr u1, vr u2] [])) rfl (hb hby d4_14)
  obtain ⟨fs, hr, hrun, hended, hW, hsame⟩ := X2.leave (v := some (xr u1)) (fun h => by rw [Bd.returns] at h; cases h)
  refine ⟨_, _, pre0 _ ?_, hrun, hended, _, _, rfl, ?_, ⟨_, rfl⟩, hW, hsame.mono (by decide) (by decide)⟩
  · show own_S p e below s₁ (mkF m 0 #[vr u1, vr u2] []) _
    refine XS.aloadN X0.here hx rfl (hb hby d4_0) rfl rfl ?_
    show own_S p e below s₁ (mkF m 1 #[vr u1, vr u2] [xr u1]) _
    refine st1 _ ?_
    show own_S p e below T1 (mkF m 4 #[vr u1, vr u2] [xr u1, xr u1]) _
    refine Jvm.RoadKit.acmp (g := (mkF m 4 #[vr u1, vr u2] [xr u1, xr u1])) X1 hx rfl rfl rfl (pc0 := 4) (pc' := 14) (same := true) rfl (hb hby d4_4) rfl (decide_eq_true rfl) (by decide) (by decide) ?_
    show own_S p e below T1 (mkF m 14 #[vr u1, vr u2] []) _
    refine st2 _ ?_
    show own_S p e below T2 (mkF m 17 #[vr u1, vr u2] [xr u1]) _
    exact X2.areturnOut hx rfl Bd.returns rfl (hb hby d4_17) hr
  · exact ⟨rfl, N0, e2⟩
theorem ef_own_c21_or (m : MethodId) (u0 u1 u2 : Addr) : entryFrame m #[xr u0, xr u2] 2 = (mkF m 0 #[vr u0, vr u2] []) := by first | (simp [entryFrame, mkF, argsToLocals, Value.category]; done) | rfl
set_option maxRecDepth 65536 in
set_option maxHeartbeats 40000000 in
theorem own_c21_or (l : Launch) (Z : State) (a0 : Array Value) (hw : ∀ d ∈ tables_1, d.before a0 Z = true) (u0 u1 u2 : Addr) (G : own_St Z u0 u1 u2) (h0 : Heap) (n0 : Nat) (O0 : Old Z n0 h0) : own_Met l Z Y4 prog_71_method_6_code 2 (some (.object "com/example/arbitrium/arbitrium/policy/Truth")) ({ frames := 0, cells := 0, slots := 0, locals := 0 } : Room) #[xr u0, xr u2] h0 (own_QR (some (xr u0)) h0 n0) := by
  intro ws
  refine MetFree.of_bodySF (plainFor_of_name pn1) hisR ?_
  intro p e s m args below meth c s₁ Bd hml0 hP hK
  obtain ⟨rfl, hZ, hh⟩ := hP
  have hx := Bd.exec
  have hby := Bd.bytes
  have hml : c.maxLocals = 2 := hml0
  have hown : s.vm.findClass "com/example/arbitrium/arbitrium/policy/Truth" = some m.cls := findClass_of_methodNamed Bd.named
  have hnm := (name_of_methodNamed Bd.named Bd.method).1
  have X0 : Stand p l e ({ frames := 0, cells := 0, slots := 0, locals := 0 } : Room) s m #[xr u0, xr u2] below meth c s₁ [] 0 0 := Stand.of_body Bd
  have e0 : s₁.heap = h0 := by rw [← hh, Bd.state]; rfl
  have N0 := Fr.nil n0
  have pre0 : ∀ t, Steps p.tables e below (s₁.setTop (mkF m 0 #[vr u0, vr u2] [])) t → Steps p.tables e below (s₁.setTop (entryFrame m #[xr u0, xr u2] 2)) t := fun t k => castTop (ef_own_c21_or m u0 u1 u2) k
  obtain ⟨T1, X1, e1, st1⟩ := getS2 X0 hx hZ hown (host := "") (Or.inl (ww hw 11 rfl)) Via.refl e0 ((own_S_u0 G).ext O0.2) (g := (mkF m 1 #[vr u0, vr u2] [xr u0])) rfl (hb hby d5_1)
  obtain ⟨T2, X2, e2, st2⟩ := getS2 X1 hx hZ hown (host := "") (Or.inl (ww hw 11 rfl)) Via.refl e1 ((own_S_u0 G).ext O0.2) (g := (mkF m 14 #[vr u0, vr u2] [])) rfl (hb hby d5_14)
  obtain ⟨fs, hr, hrun, hended, hW, hsame⟩ := X2.leave (v := some (xr u0)) (fun h => by rw [Bd.returns] at h; cases h)
  refine ⟨_, _, pre0 _ ?_, hrun, hended, _, _, rfl, ?_, ⟨_, rfl⟩, hW, hsame.mono (by decide) (by decide)⟩
  · show own_S p e below s₁ (mkF m 0 #[vr u0, vr u2] []) _
    refine XS.aloadN X0.here hx rfl (hb hby d5_0) rfl rfl ?_
    show own_S p e below s₁ (mkF m 1 #[vr u0, vr u2] [xr u0]) _
    refine st1 _ ?_
    show own_S p e below T1 (mkF m 4 #[vr u0, vr u2] [xr u0, xr u0]) _
    refine Jvm.RoadKit.acmp (g := (mkF m 4 #[vr u0, vr u2] [xr u0, xr u0])) X1 hx rfl rfl rfl (pc0 := 4) (pc' := 14) (same := true) rfl (hb hby d5_4) rfl (decide_eq_true rfl) (by decide) (by decide) ?_
    show own_S p e below T1 (mkF m 14 #[vr u0, vr u2] []) _
    refine st2 _ ?_
    show own_S p e below T2 (mkF m 17 #[vr u0, vr u2] [xr u0]) _
    exact X2.areturnOut hx rfl Bd.returns rfl (hb hby d5_17) hr
  · exact ⟨rfl, N0, e2⟩
theorem ef_own_l10 (m : MethodId) (u0 u1 u2 : Addr) (p1 : Int32) (p2 : Int32) (p3 : Int32) : entryFrame m #[xi p1, xi p2, xi p3] maxLocals = (mkF m 0 #[vi p1, vi p2, vi p3, vu, vu, vu, vu, vu, vu] []) := by first | (simp [entryFrame, mkF, argsToLocals, Value.category, maxLocals]; done) | rfl
set_option maxRecDepth 65536 in
set_option maxHeartbeats 40000000 in
theorem own_l10 (l : Launch) (Z : State) (a0 : Array Value) (hw : ∀ d ∈ tables_1, d.before a0 Z = true) (u0 u1 u2 : Addr) (G : own_St Z u0 u1 u2) (p1 : Int32) (p2 : Int32) (p3 : Int32) (as6 : (p3 &&& (1 : Int32)) = (0 : Int32)) (as1 : ((p1 &&& (2147483647 : Int32)) - ((p1 &&& (2147483647 : Int32)) / (3 : Int32)) * (3 : Int32)) = (1 : Int32)) (as5 : ((p2 &&& (2147483647 : Int32)) - ((p2 &&& (2147483647 : Int32)) / (3 : Int32)) * (3 : Int32)) = (2 : Int32)) (h0 : Heap) (n0 : Nat) (O0 : Old Z n0 h0) : own_Met l Z x code maxLocals ret room_1 #[xi p1, xi p2, xi p3] h0 (own_QL (some (xi (1 : Int32))) n0) := by
  intro ws
  refine MetFree.of_bodySF (plainFor_of_name pn0) hisR ?_
  intro p e s m args below meth c s₁ Bd hml0 hP hK
  obtain ⟨rfl, hZ, hh⟩ := hP
  have hx := Bd.exec
  have hby := Bd.bytes
  have hml : c.maxLocals = 9 := hml0
  have hown : s.vm.findClass "com/example/arbitrium/arbitrium/policy/TruthNotPinLaw" = some m.cls := findClass_of_methodNamed Bd.named
  have hnm := (name_of_methodNamed Bd.named Bd.method).1
  have X0 : Stand p l e room_1 s m #[xi p1, xi p2, xi p3] below meth c s₁ [] 0 0 := Stand.of_body Bd
  have e0 : s₁.heap = h0 := by rw [← hh, Bd.state]; rfl
  have N0 := Fr.nil n0
  have pre0 : ∀ t, Steps p.tables e below (s₁.setTop (mkF m 0 #[vi p1, vi p2, vi p3, vu, vu, vu, vu, vu, vu] [])) t → Steps p.tables e below (s₁.setTop (entryFrame m #[xi p1, xi p2, xi p3] maxLocals)) t := fun t k => castTop (ef_own_l10 m u0 u1 u2 p1 p2 p3) k
  obtain ⟨_, _, ⟨T1, L1, k1, n1⟩, -, X1, ⟨Lc1, hQ1, l1, y1, z1⟩, st1⟩ := Jvm.LawKit.callS X0 hx (y := Y0) hown (mvT hZ (ww hw 0 rfl)) (mvT hZ (ww hw 1 rfl)) (mvT hZ (ww hw 2 rfl)) (mvT hZ (ww hw 3 rfl)) (by decide) (backOf (W := 0) (own_c15_pick l Z a0 hw u0 u1 u2 G p1 as1 h0 n0 O0 []) hZ (ww hw 3 rfl) (ww hw 2 rfl) (by decide) (by decide)) (g := (mkF m 13 #[vi p1, vi p2, vi p3, vi (0 : Int32), vu, vu, vu, vu, vu] [xi p1])) rfl (by rw [hml]; rfl) (argsL := [xi p1]) (rest := []) (lenOf pd0 rfl) rfl (by show 2 * 0 + _ ≤ _; exact Nat.le_of_eq rfl) (hb hby at_13) (fun _ _ => ⟨rfl, e0, (by decide : 0 + 0 ≤ _), (by decide : 0 + 0 ≤ _)⟩)
  dsimp only [Pt.U, Pt.locs, Pt.cells, Pt.slots] at X1 l1 y1 z1 st1 hQ1
  subst l1 y1 z1
  obtain ⟨rfl, Nq1, e1⟩ := hQ1
  have N1 := Fr.app N0 Nq1
  obtain ⟨_, _, ⟨T2, L2, k2, n2⟩, -, X2, ⟨Lc2, hQ2, l2, y2, z2⟩, st2⟩ := Jvm.LawKit.callS X1 hx (y := Y0) hown (mvT hZ (ww hw 0 rfl)) (mvT hZ (ww hw 1 rfl)) (mvT hZ (ww hw 2 rfl)) (mvT hZ (ww hw 3 rfl)) (by decide) (backOf (W := 0) (own_c11_pick l Z a0 hw u0 u1 u2 G p2 as5 h0 n0 O0 []) hZ (ww hw 3 rfl) (ww hw 2 rfl) (by decide) (by decide)) (g := (mkF m 19 #[vi p1, vi p2, vi p3, vi (0 : Int32), vr u1, vu, vu, vu, vu] [xi p2])) rfl (by rw [hml]; rfl) (argsL := [xi p2]) (rest := []) (lenOf pd0 rfl) rfl (by show 2 * 0 + _ ≤ _; exact Nat.le_of_eq rfl) (hb hby at_19) (fun _ _ => ⟨rfl, e1, (by decide : 0 + 0 ≤ _), (by decide : 0 + 0 ≤ _)⟩)
  dsimp only [Pt.U, Pt.locs, Pt.cells, Pt.slots] at X2 l2 y2 z2 st2 hQ2
  subst l2 y2 z2
  obtain ⟨rfl, Nq2, e2⟩ := hQ2
  have N2 := Fr.app N1 Nq2
  obtain ⟨_, _, ⟨T3, L3, k3, n3⟩, -, X3, ⟨Lc3, hQ3, l3, y3, z3⟩, st3⟩ := Jvm.LawKit.callS X2 hx (y := Y1) hown (mvT hZ (ww hw 8 rfl)) (mvT hZ (ww hw 9 rfl)) (mvT hZ (ww hw 6 rfl)) (mvT hZ (ww hw 10 rfl)) (by decide) (backOf (W := 0) (own_c2_of l Z a0 hw u0 u1 u2 G h0 n0 O0 []) hZ (ww hw 10 rfl) (ww hw 6 rfl) (by decide) (by decide)) (g := (mkF m 33 #[vi p1, vi p2, vi p3, vi (0 : Int32), vr u1, vr u2, vu, vu, vu] [xi (1 : Int32)])) rfl (by rw [hml]; rfl) (argsL := [xi (1 : Int32)]) (rest := []) (lenOf pd1 rfl) rfl (by show 2 * 0 + _ ≤ _; exact Nat.le_of_eq rfl) (hb hby at_33) (fun _ _ => ⟨rfl, e2, (by decide : 0 + 0 ≤ _), (by decide : 0 + 0 ≤ _)⟩)
  dsimp only [Pt.U, Pt.locs, Pt.cells, Pt.slots] at X3 l3 y3 z3 st3 hQ3
  subst l3 y3 z3
  obtain ⟨rfl, Nq3, e3⟩ := hQ3
  have N3 := Fr.app N2 Nq3
  obtain ⟨_, _, ⟨T4, L4, k4, n4⟩, -, X4, ⟨Lc4, hQ4, l4, y4, z4⟩, st4⟩ := Jvm.LawKit.callS X3 hx (y := Y1) hown (mvT hZ (ww hw 8 rfl)) (mvT hZ (ww hw 9 rfl)) (mvT hZ (ww hw 6 rfl)) (mvT hZ (ww hw 10 rfl)) (by decide) (backOf (W := 1) (own_c3_of l Z a0 hw u0 u1 u2 G h0 n0 O0 []) hZ (ww hw 10 rfl) (ww hw 6 rfl) (by decide) (by decide)) (g := (mkF m 37 #[vi p1, vi p2, vi p3, vi (0 : Int32), vr u1, vr u2, vu, vu, vu] [xi (0 : Int32), xr u0])) rfl (by rw [hml]; rfl) (argsL := [xi (0 : Int32)]) (rest := [xr u0]) (lenOf pd1 rfl) rfl (by show 2 * 0 + _ ≤ _; exact Nat.le_of_eq rfl) (hb hby at_37) (fun _ _ => ⟨rfl, e3, (by decide : 0 + 0 ≤ _), (by decide : 0 + 0 ≤ _)⟩)
  dsimp only [Pt.U, Pt.locs, Pt.cells, Pt.slots] at X4 l4 y4 z4 st4 hQ4
  subst l4 y4 z4
  obtain ⟨rfl, Nq4, e4⟩ := hQ4
  have N4 := Fr.app N3 Nq4
  obtain ⟨cq5, kq5, qa5, qb5, qc5⟩ := isOf hZ e4 ((own_X_u1 G).ext O0.2)
  obtain ⟨_, _, ⟨T5, L5, k5, n5⟩, -, X5, ⟨Lc5, hQ5, l5, y5, z5⟩, st5⟩ := X4.virtualBack hx (y := Y2) (z := Y2) hown (mvT hZ (ww hw 14 rfl)) (mvT hZ (ww hw 15 rfl)) (notFace_of_selects (args := #[]) (mvT hZ (ww hw 17 rfl))) (mvT hZ (ww hw 17 rfl)) (mvT hZ (ww hw 16 rfl)) (by decide) (backOf (W := 1) (own_c4_not l Z a0 hw u0 u1 u2 G h0 n0 O0 []) hZ (ww hw 18 rfl) (ww hw 6 rfl) (by decide) (by decide)) qa5 qc5 (g := (mkF m 40 #[vi p1, vi p2, vi p3, vi (0 : Int32), vr u1, vr u2, vu, vu, vu] [xr u1, xr u0])) rfl (by rw [hml]; rfl) (Steps.refl _) (argsL := []) (rest := [xr u0]) (lenOf pd2 rfl) rfl (by show 2 * 0 + _ ≤ _; exact Nat.le_of_eq rfl) (hb hby at_40) (fun _ _ => ⟨rfl, e4, (by decide : 0 + 0 ≤ _), (by decide : 0 + 0 ≤ _)⟩)
  dsimp only [Pt.U, Pt.locs, Pt.cells, Pt.slots] at X5 l5 y5 z5 st5 hQ5
  subst l5 y5 z5
  obtain ⟨rfl, Nq5, e5⟩ := hQ5
  have N5 := Fr.app N4 Nq5
  obtain ⟨cq6, kq6, qa6, qb6, qc6⟩ := isOf hZ e5 ((own_X_u1 G).ext O0.2)
  obtain ⟨_, _, ⟨T6, L6, k6, n6⟩, -, X6, ⟨Lc6, hQ6, l6, y6, z6⟩, st6⟩ := X5.virtualBack hx (y := Y2) (z := Y2) hown (mvT hZ (ww hw 14 rfl)) (mvT hZ (ww hw 15 rfl)) (notFace_of_selects (args := #[]) (mvT hZ (ww hw 17 rfl))) (mvT hZ (ww hw 17 rfl)) (mvT hZ (ww hw 16 rfl)) (by decide) (backOf (W := 0) (own_c4_not l Z a0 hw u0 u1 u2 G h0 n0 O0 []) hZ (ww hw 18 rfl) (ww hw 6 rfl) (by decide) (by decide)) qa6 qc6 (g := (mkF m 55 #[vi p1, vi p2, vi p3, vi (0 : Int32), vr u1, vr u2, vi (1 : Int32), vu, vu] [xr u1])) rfl (by rw [hml]; rfl) (Steps.refl _) (argsL := []) (rest := []) (lenOf pd2 rfl) rfl (by show 2 * 0 + _ ≤ _; exact Nat.le_of_eq rfl) (hb hby at_55) (fun _ _ => ⟨rfl, e5, (by decide : 0 + 0 ≤ _), (by decide : 0 + 0 ≤ _)⟩)
  dsimp only [Pt.U, Pt.locs, Pt.cells, Pt.slots] at X6 l6 y6 z6 st6 hQ6
  subst l6 y6 z6
  obtain ⟨rfl, Nq6, e6⟩ := hQ6
  have N6 := Fr.app N5 Nq6
  obtain ⟨cq7, kq7, qa7, qb7, qc7⟩ := isOf hZ e6 ((own_X_u0 G).ext O0.2)
  obtain ⟨_, _, ⟨T7, L7, k7, n7⟩, -, X7, ⟨Lc7, hQ7, l7, y7, z7⟩, st7⟩ := X6.virtualBack hx (y := Y2) (z := Y2) hown (mvT hZ (ww hw 14 rfl)) (mvT hZ (ww hw 15 rfl)) (notFace_of_selects (args := #[]) (mvT hZ (ww hw 17 rfl))) (mvT hZ (ww hw 17 rfl)) (mvT hZ (ww hw 16 rfl)) (by decide) (backOf (W := 0) (own_c5_not l Z a0 hw u0 u1 u2 G h0 n0 O0 []) hZ (ww hw 18 rfl) (ww hw 6 rfl) (by decide) (by decide)) qa7 qc7 (g := (mkF m 58 #[vi p1, vi p2, vi p3, vi (0 : Int32), vr u1, vr u2, vi (1 : Int32), vu, vu] [xr u0])) rfl (by rw [hml]; rfl) (Steps.refl _) (argsL := []) (rest := []) (lenOf pd2 rfl) rfl (by show 2 * 0 + _ ≤ _; exact Nat.le_of_eq rfl) (hb hby at_58) (fun _ _ => ⟨rfl, e6, (by decide : 0 + 0 ≤ _), (by decide : 0 + 0 ≤ _)⟩)
  dsimp only [Pt.U, Pt.locs, Pt.cells, Pt.slots] at X7 l7 y7 z7 st7 hQ7
  subst l7 y7 z7
  obtain ⟨rfl, Nq7, e7⟩ := hQ7
  have N7 := Fr.app N6 Nq7
  obtain ⟨cq8, kq8, qa8, qb8, qc8⟩ := isOf hZ e7 ((own_X_u1 G).ext O0.2)
  obtain ⟨_, _, ⟨T8, L8, k8, n8⟩, -, X8, ⟨Lc8, hQ8, l8, y8, z8⟩, st8⟩ := X7.virtualBack hx (y := Y3) (z := Y3) hown (mvT hZ (ww hw 21 rfl)) (mvT hZ (ww hw 22 rfl)) (notFace_of_selects (args := #[]) (mvT hZ (ww hw 24 rfl))) (mvT hZ (ww hw 24 rfl)) (mvT hZ (ww hw 23 rfl)) (by decide) (backOf (W := 0) (own_c20_and l Z a0 hw u0 u1 u2 G h0 n0 O0 []) hZ (ww hw 25 rfl) (ww hw 6 rfl) (by decide) (by decide)) qa8 qc8 (g := (mkF m 77 #[vi p1, vi p2, vi p3, vi (0 : Int32), vr u1, vr u2, vi (1 : Int32), vi (1 : Int32), vu] [xr u2, xr u1])) rfl (by rw [hml]; rfl) (Steps.refl _) (argsL := [xr u2]) (rest := []) (lenOf pd3 rfl) rfl (by show 2 * 0 + _ ≤ _; exact Nat.le_of_eq rfl) (hb hby at_77) (fun _ _ => ⟨rfl, e7, (by decide : 0 + 0 ≤ _), (by decide : 0 + 0 ≤ _)⟩)
  dsimp only [Pt.U, Pt.locs, Pt.cells, Pt.slots] at X8 l8 y8 z8 st8 hQ8
  subst l8 y8 z8
  obtain ⟨rfl, Nq8, e8⟩ := hQ8
  have N8 := Fr.app N7 Nq8
  obtain ⟨cq9, kq9, qa9, qb9, qc9⟩ := isOf hZ e8 ((own_X_u1 G).ext O0.2)
  obtain ⟨_, _, ⟨T9, L9, k9, n9⟩, -, X9, ⟨Lc9, hQ9, l9, y9, z9⟩, st9⟩ := X8.virtualBack hx (y := Y2) (z := Y2) hown (mvT hZ (ww hw 14 rfl)) (mvT hZ (ww hw 15 rfl)) (notFace_of_selects (args := #[]) (mvT hZ (ww hw 17 rfl))) (mvT hZ (ww hw 17 rfl)) (mvT hZ (ww hw 16 rfl)) (by decide) (backOf (W := 0) (own_c4_not l Z a0 hw u0 u1 u2 G h0 n0 O0 []) hZ (ww hw 18 rfl) (ww hw 6 rfl) (by decide) (by decide)) qa9 qc9 (g := (mkF m 80 #[vi p1, vi p2, vi p3, vi (0 : Int32), vr u1, vr u2, vi (1 : Int32), vi (1 : Int32), vu] [xr u1])) rfl (by rw [hml]; rfl) (Steps.refl _) (argsL := []) (rest := []) (lenOf pd2 rfl) rfl (by show 2 * 0 + _ ≤ _; exact Nat.le_of_eq rfl) (hb hby at_80) (fun _ _ => ⟨rfl, e8, (by decide : 0 + 0 ≤ _), (by decide : 0 + 0 ≤ _)⟩)
  dsimp only [Pt.U, Pt.locs, Pt.cells, Pt.slots] at X9 l9 y9 z9 st9 hQ9
  subst l9 y9 z9
  obtain ⟨rfl, Nq9, e9⟩ := hQ9
  have N9 := Fr.app N8 Nq9
  obtain ⟨cq10, kq10, qa10, qb10, qc10⟩ := isOf hZ e9 ((own_X_u1 G).ext O0.2)
  obtain ⟨_, _, ⟨T10, L10, k10, n10⟩, -, X10, ⟨Lc10, hQ10, l10, y10, z10⟩, st10⟩ := X9.virtualBack hx (y := Y2) (z := Y2) hown (mvT hZ (ww hw 14 rfl)) (mvT hZ (ww hw 15 rfl)) (notFace_of_selects (args := #[]) (mvT hZ (ww hw 17 rfl))) (mvT hZ (ww hw 17 rfl)) (mvT hZ (ww hw 16 rfl)) (by decide) (backOf (W := 1) (own_c4_not l Z a0 hw u0 u1 u2 G h0 n0 O0 []) hZ (ww hw 18 rfl) (ww hw 6 rfl) (by decide) (by decide)) qa10 qc10 (g := (mkF m 85 #[vi p1, vi p2, vi p3, vi (0 : Int32), vr u1, vr u2, vi (1 : Int32), vi (1 : Int32), vu] [xr u1, xr u0])) rfl (by rw [hml]; rfl) (Steps.refl _) (argsL := []) (rest := [xr u0]) (lenOf pd2 rfl) rfl (by show 2 * 0 + _ ≤ _; exact Nat.le_of_eq rfl) (hb hby at_85) (fun _ _ => ⟨rfl, e9, (by decide : 0 + 0 ≤ _), (by decide : 0 + 0 ≤ _)⟩)
  dsimp only [Pt.U, Pt.locs, Pt.cells, Pt.slots] at X10 l10 y10 z10 st10 hQ10
  subst l10 y10 z10
  obtain ⟨rfl, Nq10, e10⟩ := hQ10
  have N10 := Fr.app N9 Nq10
  obtain ⟨cq11, kq11, qa11, qb11, qc11⟩ := isOf hZ e10 ((own_X_u2 G).ext O0.2)
  obtain ⟨_, _, ⟨T11, L11, k11, n11⟩, -, X11, ⟨Lc11, hQ11, l11, y11, z11⟩, st11⟩ := X10.virtualBack hx (y := Y2) (z := Y2) hown (mvT hZ (ww hw 14 rfl)) (mvT hZ (ww hw 15 rfl)) (notFace_of_selects (args := #[]) (mvT hZ (ww hw 17 rfl))) (mvT hZ (ww hw 17 rfl)) (mvT hZ (ww hw 16 rfl)) (by decide) (backOf (W := 2) (own_c13_not l Z a0 hw u0 u1 u2 G h0 n0 O0 []) hZ (ww hw 18 rfl) (ww hw 6 rfl) (by decide) (by decide)) qa11 qc11 (g := (mkF m 90 #[vi p1, vi p2, vi p3, vi (0 : Int32), vr u1, vr u2, vi (1 : Int32), vi (1 : Int32), vu] [xr u2, xr u0, xr u0])) rfl (by rw [hml]; rfl) (Steps.refl _) (argsL := []) (rest := [xr u0, xr u0]) (lenOf pd2 rfl) rfl (by show 2 * 0 + _ ≤ _; exact Nat.le_of_eq rfl) (hb hby at_90) (fun _ _ => ⟨rfl, e10, (by decide : 0 + 0 ≤ _), (by decide : 0 + 0 ≤ _)⟩)
  dsimp only [Pt.U, Pt.locs, Pt.cells, Pt.slots] at X11 l11 y11 z11 st11 hQ11
  subst l11 y11 z11
  obtain ⟨rfl, Nq11, e11⟩ := hQ11
  have N11 := Fr.app N10 Nq11
  obtain ⟨cq12, kq12, qa12, qb12, qc12⟩ := isOf hZ e11 ((own_X_u0 G).ext O0.2)
  obtain ⟨_, _, ⟨T12, L12, k12, n12⟩, -, X12, ⟨Lc12, hQ12, l12, y12, z12⟩, st12⟩ := X11.virtualBack hx (y := Y4) (z := Y4) hown (mvT hZ (ww hw 26 rfl)) (mvT hZ (ww hw 27 rfl)) (notFace_of_selects (args := #[]) (mvT hZ (ww hw 29 rfl))) (mvT hZ (ww hw 29 rfl)) (mvT hZ (ww hw 28 rfl)) (by decide) (backOf (W := 1) (own_c21_or l Z a0 hw u0 u1 u2 G h0 n0 O0 []) hZ (ww hw 30 rfl) (ww hw 6 rfl) (by decide) (by decide)) qa12 qc12 (g := (mkF m 93 #[vi p1, vi p2, vi p3, vi (0 : Int32), vr u1, vr u2, vi (1 : Int32), vi (1 : Int32), vu] [xr u2, xr u0, xr u0])) rfl (by rw [hml]; rfl) (Steps.refl _) (argsL := [xr u2]) (rest := [xr u0]) (lenOf pd3 rfl) rfl (by show 2 * 0 + _ ≤ _; exact Nat.le_of_eq rfl) (hb hby at_93) (fun _ _ => ⟨rfl, e11, (by decide : 0 + 0 ≤ _), (by decide : 0 + 0 ≤ _)⟩)
  dsimp only [Pt.U, Pt.locs, Pt.cells, Pt.slots] at X12 l12 y12 z12 st12 hQ12
  subst l12 y12 z12
  obtain ⟨rfl, Nq12, e12⟩ := hQ12
  have N12 := Fr.app N11 Nq12
  obtain ⟨fs, hr, hrun, hended, hW, hsame⟩ := X12.leave (v := some (xi (1 : Int32))) (fun h => by rw [Bd.returns] at h; cases h)
  refine ⟨_, _, pre0 _ ?_, hrun, hended, _, _, rfl, ?_, ⟨_, rfl⟩, hW, hsame.mono (by decide) (by decide)⟩
  · show own_S p e below s₁ (mkF m 0 #[vi p1, vi p2, vi p3, vu, vu, vu, vu, vu, vu] []) _
    refine XS.iloadN X0.here hx rfl (hb hby at_0) rfl ?_
    show own_S p e below s₁ (mkF m 1 #[vi p1, vi p2, vi p3, vu, vu, vu, vu, vu, vu] [xi p3]) _
    refine XS.iconst X0.here hx rfl (hb hby at_1) ?_
    show own_S p e below s₁ (mkF m 2 #[vi p1, vi p2, vi p3, vu, vu, vu, vu, vu, vu] [xi (1 : Int32), xi p3]) _
    refine XS.iand X0.here hx rfl (hb hby at_2) rfl ?_
    show own_S p e below s₁ (mkF m 3 #[vi p1, vi p2, vi p3, vu, vu, vu, vu, vu, vu] [xi (p3 &&& (1 : Int32))]) _
    refine castTop (show (mkF m 3 #[vi p1, vi p2, vi p3, vu, vu, vu, vu, vu, vu] [xi (p3 &&& (1 : Int32))]) = (mkF m 3 #[vi p1, vi p2, vi p3, vu, vu, vu, vu, vu, vu] [xi (0 : Int32)]) from by rw [as6]) ?_
    show own_S p e below s₁ (mkF m 3 #[vi p1, vi p2, vi p3, vu, vu, vu, vu, vu, vu] [xi (0 : Int32)]) _
    refine XS.ifYes X0.here hx rfl (pc0 := 3) (pc' := 10) rfl (hb hby at_3) rfl (by decide) (by decide) (by decide) ?_
    show own_S p e below s₁ (mkF m 10 #[vi p1, vi p2, vi p3, vu, vu, vu, vu, vu, vu] []) _
    refine XS.iconst X0.here hx rfl (hb hby at_10) ?_
    show own_S p e below s₁ (mkF m 11 #[vi p1, vi p2, vi p3, vu, vu, vu, vu, vu, vu] [xi (0 : Int32)]) _
    refine XS.istoreN X0.here hx rfl (hb hby at_11) rfl (l' := #[vi p1, vi p2, vi p3, vi (0 : Int32), vu, vu, vu, vu, vu]) rfl ?_
    show own_S p e below s₁ (mkF m 12 #[vi p1, vi p2, vi p3, vi (0 : Int32), vu, vu, vu, vu, vu] []) _
    refine XS.iloadN X0.here hx rfl (hb hby at_12) rfl ?_
    show own_S p e below s₁ (mkF m 13 #[vi p1, vi p2, vi p3, vi (0 : Int32), vu, vu, vu, vu, vu] [xi p1]) _
    refine st1 _ ?_
    show own_S p e below T1 (mkF m 16 #[vi p1, vi p2, vi p3, vi (0 : Int32), vu, vu, vu, vu, vu] [xr u1]) _
    refine XS.astore X1.here hx rfl (hb hby at_16) rfl rfl (l' := #[vi p1, vi p2, vi p3, vi (0 : Int32), vr u1, vu, vu, vu, vu]) rfl ?_
    show own_S p e below T1 (mkF m 18 #[vi p1, vi p2, vi p3, vi (0 : Int32), vr u1, vu, vu, vu, vu] []) _
    refine XS.iloadN X1.here hx rfl (hb hby at_18) rfl ?_
    show own_S p e below T1 (mkF m 19 #[vi p1, vi p2, vi p3, vi (0 : Int32), vr u1, vu, vu, vu, vu] [xi p2]) _
    refine st2 _ ?_
    show own_S p e below T2 (mkF m 22 #[vi p1, vi p2, vi p3, vi (0 : Int32), vr u1, vu, vu, vu, vu] [xr u2]) _
    refine XS.astore X2.here hx rfl (hb hby at_22) rfl rfl (l' := #[vi p1, vi p2, vi p3, vi (0 : Int32), vr u1, vr u2, vu, vu, vu]) rfl ?_
    show own_S p e below T2 (mkF m 24 #[vi p1, vi p2, vi p3, vi (0 : Int32), vr u1, vr u2, vu, vu, vu] []) _
    refine XS.iloadN X2.here hx rfl (hb hby at_24) rfl ?_
    show own_S p e below T2 (mkF m 25 #[vi p1, vi p2, vi p3, vi (0 : Int32), vr u1, vr u2, vu, vu, vu] [xi (0 : Int32)]) _
    refine XS.ifNo X2.here hx rfl (hb hby at_25) rfl (by decide) ?_
    show own_S p e below T2 (mkF m 28 #[vi p1, vi p2, vi p3, vi (0 : Int32), vr u1, vr u2, vu, vu, vu] []) _
    refine XS.iconst X2.here hx rfl (hb hby at_28) ?_
    show own_S p e below T2 (mkF m 29 #[vi p1, vi p2, vi p3, vi (0 : Int32), vr u1, vr u2, vu, vu, vu] [xi (1 : Int32)]) _
    refine XS.goto X2.here hx rfl (pc0 := 29) (pc' := 33) rfl (hb hby at_29) (by decide) (by decide) ?_
    show own_S p e below T2 (mkF m 33 #[vi p1, vi p2, vi p3, vi (0 : Int32), vr u1, vr u2, vu, vu, vu] [xi (1 : Int32)]) _
    refine st3 _ ?_
    show own_S p e below T3 (mkF m 36 #[vi p1, vi p2, vi p3, vi (0 : Int32), vr u1, vr u2, vu, vu, vu] [xr u0]) _
    refine XS.iloadN X3.here hx rfl (hb hby at_36) rfl ?_
    show own_S p e below T3 (mkF m 37 #[vi p1, vi p2, vi p3, vi (0 : Int32), vr u1, vr u2, vu, vu, vu] [xi (0 : Int32), xr u0]) _
    refine st4 _ ?_
    show own_S p e below T4 (mkF m 40 #[vi p1, vi p2, vi p3, vi (0 : Int32), vr u1, vr u2, vu, vu, vu] [xr u1, xr u0]) _
    refine st5.trans ?_
    show own_S p e below T5 (mkF m 43 #[vi p1, vi p2, vi p3, vi (0 : Int32), vr u1, vr u2, vu, vu, vu] [xr u0, xr u0]) _
    refine Jvm.RoadKit.acmp (g := (mkF m 43 #[vi p1, vi p2, vi p3, vi (0 : Int32), vr u1, vr u2, vu, vu, vu] [xr u0, xr u0])) X5 hx rfl rfl rfl (pc0 := 43) (pc' := 46) (same := true) rfl (hb hby at_43) rfl (decide_eq_true rfl) (by decide) (by decide) ?_
    show own_S p e below T5 (mkF m 46 #[vi p1, vi p2, vi p3, vi (0 : Int32), vr u1, vr u2, vu, vu, vu] []) _
    refine XS.iconst X5.here hx rfl (hb hby at_46) ?_
    show own_S p e below T5 (mkF m 47 #[vi p1, vi p2, vi p3, vi (0 : Int32), vr u1, vr u2, vu, vu, vu] [xi (1 : Int32)]) _
    refine XS.goto X5.here hx rfl (pc0 := 47) (pc' := 51) rfl (hb hby at_47) (by decide) (by decide) ?_
    show own_S p e below T5 (mkF m 51 #[vi p1, vi p2, vi p3, vi (0 : Int32), vr u1, vr u2, vu, vu, vu] [xi (1 : Int32)]) _
    refine XS.istore X5.here hx rfl (hb hby at_51) rfl (l' := #[vi p1, vi p2, vi p3, vi (0 : Int32), vr u1, vr u2, vi (1 : Int32), vu, vu]) rfl ?_
    show own_S p e below T5 (mkF m 53 #[vi p1, vi p2, vi p3, vi (0 : Int32), vr u1, vr u2, vi (1 : Int32), vu, vu] []) _
    refine XS.aload X5.here hx rfl (hb hby at_53) rfl rfl ?_
    show own_S p e below T5 (mkF m 55 #[vi p1, vi p2, vi p3, vi (0 : Int32), vr u1, vr u2, vi (1 : Int32), vu, vu] [xr u1]) _
    refine st6.trans ?_
    show own_S p e below T6 (mkF m 58 #[vi p1, vi p2, vi p3, vi (0 : Int32), vr u1, vr u2, vi (1 : Int32), vu, vu] [xr u0]) _
    refine st7.trans ?_
    show own_S p e below T7 (mkF m 61 #[vi p1, vi p2, vi p3, vi (0 : Int32), vr u1, vr u2, vi (1 : Int32), vu, vu] [xr u1]) _
    refine XS.aload X7.here hx rfl (hb hby at_61) rfl rfl ?_
    show own_S p e below T7 (mkF m 63 #[vi p1, vi p2, vi p3, vi (0 : Int32), vr u1, vr u2, vi (1 : Int32), vu, vu] [xr u1, xr u1]) _
    refine Jvm.RoadKit.acmp (g := (mkF m 63 #[vi p1, vi p2, vi p3, vi (0 : Int32), vr u1, vr u2, vi (1 : Int32), vu, vu] [xr u1, xr u1])) X7 hx rfl rfl rfl (pc0 := 63) (pc' := 66) (same := true) rfl (hb hby at_63) rfl (decide_eq_true rfl) (by decide) (by decide) ?_
    show own_S p e below T7 (mkF m 66 #[vi p1, vi p2, vi p3, vi (0 : Int32), vr u1, vr u2, vi (1 : Int32), vu, vu] []) _
    refine XS.iconst X7.here hx rfl (hb hby at_66) ?_
    show own_S p e below T7 (mkF m 67 #[vi p1, vi p2, vi p3, vi (0 : Int32), vr u1, vr u2, vi (1 : Int32), vu, vu] [xi (1 : Int32)]) _
    refine XS.goto X7.here hx rfl (pc0 := 67) (pc' := 71) rfl (hb hby at_67) (by decide) (by decide) ?_
    show own_S p e below T7 (mkF m 71 #[vi p1, vi p2, vi p3, vi (0 : Int32), vr u1, vr u2, vi (1 : Int32), vu, vu] [xi (1 : Int32)]) _
    refine XS.istore X7.here hx rfl (hb hby at_71) rfl (l' := #[vi p1, vi p2, vi p3, vi (0 : Int32), vr u1, vr u2, vi (1 : Int32), vi (1 : Int32), vu]) rfl ?_
    show own_S p e below T7 (mkF m 73 #[vi p1, vi p2, vi p3, vi (0 : Int32), vr u1, vr u2, vi (1 : Int32), vi (1 : Int32), vu] []) _
    refine XS.aload X7.here hx rfl (hb hby at_73) rfl rfl ?_
    show own_S p e below T7 (mkF m 75 #[vi p1, vi p2, vi p3, vi (0 : Int32), vr u1, vr u2, vi (1 : Int32), vi (1 : Int32), vu] [xr u1]) _
    refine XS.aload X7.here hx rfl (hb hby at_75) rfl rfl ?_
    show own_S p e below T7 (mkF m 77 #[vi p1, vi p2, vi p3, vi (0 : Int32), vr u1, vr u2, vi (1 : Int32), vi (1 : Int32), vu] [xr u2, xr u1]) _
    refine st8.trans ?_
    show own_S p e below T8 (mkF m 80 #[vi p1, vi p2, vi p3, vi (0 : Int32), vr u1, vr u2, vi (1 : Int32), vi (1 : Int32), vu] [xr u1]) _
    refine st9.trans ?_
    show own_S p e below T9 (mkF m 83 #[vi p1, vi p2, vi p3, vi (0 : Int32), vr u1, vr u2, vi (1 : Int32), vi (1 : Int32), vu] [xr u0]) _
    refine XS.aload X9.here hx rfl (hb hby at_83) rfl rfl ?_
    show own_S p e below T9 (mkF m 85 #[vi p1, vi p2, vi p3, vi (0 : Int32), vr u1, vr u2, vi (1 : Int32), vi (1 : Int32), vu] [xr u1, xr u0]) _
    refine st10.trans ?_
    show own_S p e below T10 (mkF m 88 #[vi p1, vi p2, vi p3, vi (0 : Int32), vr u1, vr u2, vi (1 : Int32), vi (1 : Int32), vu] [xr u0, xr u0]) _
    refine XS.aload X10.here hx rfl (hb hby at_88) rfl rfl ?_
    show own_S p e below T10 (mkF m 90 #[vi p1, vi p2, vi p3, vi (0 : Int32), vr u1, vr u2, vi (1 : Int32), vi (1 : Int32), vu] [xr u2, xr u0, xr u0]) _
    refine st11.trans ?_
    show own_S p e below T11 (mkF m 93 #[vi p1, vi p2, vi p3, vi (0 : Int32), vr u1, vr u2, vi (1 : Int32), vi (1 : Int32), vu] [xr u2, xr u0, xr u0]) _
    refine st12.trans ?_
    show own_S p e below T12 (mkF m 96 #[vi p1, vi p2, vi p3, vi (0 : Int32), vr u1, vr u2, vi (1 : Int32), vi (1 : Int32), vu] [xr u0, xr u0]) _
    refine Jvm.RoadKit.acmp (g := (mkF m 96 #[vi p1, vi p2, vi p3, vi (0 : Int32), vr u1, vr u2, vi (1 : Int32), vi (1 : Int32), vu] [xr u0, xr u0])) X12 hx rfl rfl rfl (pc0 := 96) (pc' := 99) (same := true) rfl (hb hby at_96) rfl (decide_eq_true rfl) (by decide) (by decide) ?_
    show own_S p e below T12 (mkF m 99 #[vi p1, vi p2, vi p3, vi (0 : Int32), vr u1, vr u2, vi (1 : Int32), vi (1 : Int32), vu] []) _
    refine XS.iconst X12.here hx rfl (hb hby at_99) ?_
    show own_S p e below T12 (mkF m 100 #[vi p1, vi p2, vi p3, vi (0 : Int32), vr u1, vr u2, vi (1 : Int32), vi (1 : Int32), vu] [xi (1 : Int32)]) _
    refine XS.goto X12.here hx rfl (pc0 := 100) (pc' := 104) rfl (hb hby at_100) (by decide) (by decide) ?_
    show own_S p e below T12 (mkF m 104 #[vi p1, vi p2, vi p3, vi (0 : Int32), vr u1, vr u2, vi (1 : Int32), vi (1 : Int32), vu] [xi (1 : Int32)]) _
    refine XS.istore X12.here hx rfl (hb hby at_104) rfl (l' := #[vi p1, vi p2, vi p3, vi (0 : Int32), vr u1, vr u2, vi (1 : Int32), vi (1 : Int32), vi (1 : Int32)]) rfl ?_
    show own_S p e below T12 (mkF m 106 #[vi p1, vi p2, vi p3, vi (0 : Int32), vr u1, vr u2, vi (1 : Int32), vi (1 : Int32), vi (1 : Int32)] []) _
    refine XS.iload X12.here hx rfl (hb hby at_106) rfl ?_
    show own_S p e below T12 (mkF m 108 #[vi p1, vi p2, vi p3, vi (0 : Int32), vr u1, vr u2, vi (1 : Int32), vi (1 : Int32), vi (1 : Int32)] [xi (1 : Int32)]) _
    refine XS.ifNo X12.here hx rfl (hb hby at_108) rfl (by decide) ?_
    show own_S p e below T12 (mkF m 111 #[vi p1, vi p2, vi p3, vi (0 : Int32), vr u1, vr u2, vi (1 : Int32), vi (1 : Int32), vi (1 : Int32)] []) _
    refine XS.iload X12.here hx rfl (hb hby at_111) rfl ?_
    show own_S p e below T12 (mkF m 113 #[vi p1, vi p2, vi p3, vi (0 : Int32), vr u1, vr u2, vi (1 : Int32), vi (1 : Int32), vi (1 : Int32)] [xi (1 : Int32)]) _
    refine XS.ifNo X12.here hx rfl (hb hby at_113) rfl (by decide) ?_
    show own_S p e below T12 (mkF m 116 #[vi p1, vi p2, vi p3, vi (0 : Int32), vr u1, vr u2, vi (1 : Int32), vi (1 : Int32), vi (1 : Int32)] []) _
    refine XS.iload X12.here hx rfl (hb hby at_116) rfl ?_
    show own_S p e below T12 (mkF m 118 #[vi p1, vi p2, vi p3, vi (0 : Int32), vr u1, vr u2, vi (1 : Int32), vi (1 : Int32), vi (1 : Int32)] [xi (1 : Int32)]) _
    refine XS.ifNo X12.here hx rfl (hb hby at_118) rfl (by decide) ?_
    show own_S p e below T12 (mkF m 121 #[vi p1, vi p2, vi p3, vi (0 : Int32), vr u1, vr u2, vi (1 : Int32), vi (1 : Int32), vi (1 : Int32)] []) _
    refine XS.iconst X12.here hx rfl (hb hby at_121) ?_
    show own_S p e below T12 (mkF m 122 #[vi p1, vi p2, vi p3, vi (0 : Int32), vr u1, vr u2, vi (1 : Int32), vi (1 : Int32), vi (1 : Int32)] [xi (1 : Int32)]) _
    refine XS.goto X12.here hx rfl (pc0 := 122) (pc' := 126) rfl (hb hby at_122) (by decide) (by decide) ?_
    show own_S p e below T12 (mkF m 126 #[vi p1, vi p2, vi p3, vi (0 : Int32), vr u1, vr u2, vi (1 : Int32), vi (1 : Int32), vi (1 : Int32)] [xi (1 : Int32)]) _
    exact retN X12 hx (t := .boolean) Bd.returns (by simp) (hb hby at_126) hr
  · exact ⟨rfl, N12⟩
theorem ef_own_l11 (m : MethodId) (u0 u1 u2 : Addr) (p1 : Int32) (p2 : Int32) (p3 : Int32) : entryFrame m #[xi p1, xi p2, xi p3] maxLocals = (mkF m 0 #[vi p1, vi p2, vi p3, vu, vu, vu, vu, vu, vu] []) := by first | (simp [entryFrame, mkF, argsToLocals, Value.category, maxLocals]; done) | rfl
set_option maxRecDepth 65536 in
set_option maxHeartbeats 40000000 in
theorem own_l11 (l : Launch) (Z : State) (a0 : Array Value) (hw : ∀ d ∈ tables_1, d.before a0 Z = true) (u0 u1 u2 : Addr) (G : own_St Z u0 u1 u2) (p1 : Int32) (p2 : Int32) (p3 : Int32) (as7 : (p3 &&& (1 : Int32)) = (1 : Int32)) (as1 : ((p1 &&& (2147483647 : Int32)) - ((p1 &&& (2147483647 : Int32)) / (3 : Int32)) * (3 : Int32)) = (1 : Int32)) (as5 : ((p2 &&& (2147483647 : Int32)) - ((p2 &&& (2147483647 : Int32)) / (3 : Int32)) * (3 : Int32)) = (2 : Int32)) (h0 : Heap) (n0 : Nat) (O0 : Old Z n0 h0) : own_Met l Z x code maxLocals ret room_1 #[xi p1, xi p2, xi p3] h0 (own_QL (some (xi (1 : Int32))) n0) := by
  intro ws
  refine MetFree.of_bodySF (plainFor_of_name pn0) hisR ?_
  intro p e s m args below meth c s₁ Bd hml0 hP hK
  obtain ⟨rfl, hZ, hh⟩ := hP
  have hx := Bd.exec
  have hby := Bd.bytes
  have hml : c.maxLocals = 9 := hml0
  have hown : s.vm.findClass "com/example/arbitrium/arbitrium/policy/TruthNotPinLaw" = some m.cls := findClass_of_methodNamed Bd.named
  have hnm := (name_of_methodNamed Bd.named Bd.method).1
  have X0 : Stand p l e room_1 s m #[xi p1, xi p2, xi p3] below meth c s₁ [] 0 0 := Stand.of_body Bd
  have e0 : s₁.heap = h0 := by rw [← hh, Bd.state]; rfl
  have N0 := Fr.nil n0
  have pre0 : ∀ t, Steps p.tables e below (s₁.setTop (mkF m 0 #[vi p1, vi p2, vi p3, vu, vu, vu, vu, vu, vu] [])) t → Steps p.tables e below (s₁.setTop (entryFrame m #[xi p1, xi p2, xi p3] maxLocals)) t := fun t k => castTop (ef_own_l11 m u0 u1 u2 p1 p2 p3) k
  obtain ⟨_, _, ⟨T1, L1, k1, n1⟩, -, X1, ⟨Lc1, hQ1, l1, y1, z1⟩, st1⟩ := Jvm.LawKit.callS X0 hx (y := Y0) hown (mvT hZ (ww hw 0 rfl)) (mvT hZ (ww hw 1 rfl)) (mvT hZ (ww hw 2 rfl)) (mvT hZ (ww hw 3 rfl)) (by decide) (backOf (W := 0) (own_c15_pick l Z a0 hw u0 u1 u2 G p1 as1 h0 n0 O0 []) hZ (ww hw 3 rfl) (ww hw 2 rfl) (by decide) (by decide)) (g := (mkF m 13 #[vi p1, vi p2, vi p3, vi (1 : Int32), vu, vu, vu, vu, vu] [xi p1])) rfl (by rw [hml]; rfl) (argsL := [xi p1]) (rest := []) (lenOf pd0 rfl) rfl (by show 2 * 0 + _ ≤ _; exact Nat.le_of_eq rfl) (hb hby at_13) (fun _ _ => ⟨rfl, e0, (by decide : 0 + 0 ≤ _), (by decide : 0 + 0 ≤ _)⟩)
  dsimp only [Pt.U, Pt.locs, Pt.cells, Pt.slots] at X1 l1 y1 z1 st1 hQ1
  subst l1 y1 z1
  obtain ⟨rfl, Nq1, e1⟩ := hQ1
  have N1 := Fr.app N0 Nq1
  obtain ⟨_, _, ⟨T2, L2, k2, n2⟩, -, X2, ⟨Lc2, hQ2, l2, y2, z2⟩, st2⟩ := Jvm.LawKit.callS X1 hx (y := Y0) hown (mvT hZ (ww hw 0 rfl)) (mvT hZ (ww hw 1 rfl)) (mvT hZ (ww hw 2 rfl)) (mvT hZ (ww hw 3 rfl)) (by decide) (backOf (W := 0) (own_c11_pick l Z a0 hw u0 u1 u2 G p2 as5 h0 n0 O0 []) hZ (ww hw 3 rfl) (ww hw 2 rfl) (by decide) (by decide)) (g := (mkF m 19 #[vi p1, vi p2, vi p3, vi (1 : Int32), vr u1, vu, vu, vu, vu] [xi p2])) rfl (by rw [hml]; rfl) (argsL := [xi p2]) (rest := []) (lenOf pd0 rfl) rfl (by show 2 * 0 + _ ≤ _; exact Nat.le_of_eq rfl) (hb hby at_19) (fun _ _ => ⟨rfl, e1, (by decide : 0 + 0 ≤ _), (by decide : 0 + 0 ≤ _)⟩)
  dsimp only [Pt.U, Pt.locs, Pt.cells, Pt.slots] at X2 l2 y2 z2 st2 hQ2
  subst l2 y2 z2
  obtain ⟨rfl, Nq2, e2⟩ := hQ2
  have N2 := Fr.app N1 Nq2
  obtain ⟨_, _, ⟨T3, L3, k3, n3⟩, -, X3, ⟨Lc3, hQ3, l3, y3, z3⟩, st3⟩ := Jvm.LawKit.callS X2 hx (y := Y1) hown (mvT hZ (ww hw 8 rfl)) (mvT hZ (ww hw 9 rfl)) (mvT hZ (ww hw 6 rfl)) (mvT hZ (ww hw 10 rfl)) (by decide) (backOf (W := 0) (own_c3_of l Z a0 hw u0 u1 u2 G h0 n0 O0 []) hZ (ww hw 10 rfl) (ww hw 6 rfl) (by decide) (by decide)) (g := (mkF m 33 #[vi p1, vi p2, vi p3, vi (1 : Int32), vr u1, vr u2, vu, vu, vu] [xi (0 : Int32)])) rfl (by rw [hml]; rfl) (argsL := [xi (0 : Int32)]) (rest := []) (lenOf pd1 rfl) rfl (by show 2 * 0 + _ ≤ _; exact Nat.le_of_eq rfl) (hb hby at_33) (fun _ _ => ⟨rfl, e2, (by decide : 0 + 0 ≤ _), (by decide : 0 + 0 ≤ _)⟩)
  dsimp only [Pt.U, Pt.locs, Pt.cells, Pt.slots] at X3 l3 y3 z3 st3 hQ3
  subst l3 y3 z3
  obtain ⟨rfl, Nq3, e3⟩ := hQ3
  have N3 := Fr.app N2 Nq3
  obtain ⟨_, _, ⟨T4, L4, k4, n4⟩, -, X4, ⟨Lc4, hQ4, l4, y4, z4⟩, st4⟩ := Jvm.LawKit.callS X3 hx (y := Y1) hown (mvT hZ (ww hw 8 rfl)) (mvT hZ (ww hw 9 rfl)) (mvT hZ (ww hw 6 rfl)) (mvT hZ (ww hw 10 rfl)) (by decide) (backOf (W := 1) (own_c2_of l Z a0 hw u0 u1 u2 G h0 n0 O0 []) hZ (ww hw 10 rfl) (ww hw 6 rfl) (by decide) (by decide)) (g := (mkF m 37 #[vi p1, vi p2, vi p3, vi (1 : Int32), vr u1, vr u2, vu, vu, vu] [xi (1 : Int32), xr u1])) rfl (by rw [hml]; rfl) (argsL := [xi (1 : Int32)]) (rest := [xr u1]) (lenOf pd1 rfl) rfl (by show 2 * 0 + _ ≤ _; exact Nat.le_of_eq rfl) (hb hby at_37) (fun _ _ => ⟨rfl, e3, (by decide : 0 + 0 ≤ _), (by decide : 0 + 0 ≤ _)⟩)
  dsimp only [Pt.U, Pt.locs, Pt.cells, Pt.slots] at X4 l4 y4 z4 st4 hQ4
  subst l4 y4 z4
  obtain ⟨rfl, Nq4, e4⟩ := hQ4
  have N4 := Fr.app N3 Nq4
  obtain ⟨cq5, kq5, qa5, qb5, qc5⟩ := isOf hZ e4 ((own_X_u0 G).ext O0.2)
  obtain ⟨_, _, ⟨T5, L5, k5, n5⟩, -, X5, ⟨Lc5, hQ5, l5, y5, z5⟩, st5⟩ := X4.virtualBack hx (y := Y2) (z := Y2) hown (mvT hZ (ww hw 14 rfl)) (mvT hZ (ww hw 15 rfl)) (notFace_of_selects (args := #[]) (mvT hZ (ww hw 17 rfl))) (mvT hZ (ww hw 17 rfl)) (mvT hZ (ww hw 16 rfl)) (by decide) (backOf (W := 1) (own_c5_not l Z a0 hw u0 u1 u2 G h0 n0 O0 []) hZ (ww hw 18 rfl) (ww hw 6 rfl) (by decide) (by decide)) qa5 qc5 (g := (mkF m 40 #[vi p1, vi p2, vi p3, vi (1 : Int32), vr u1, vr u2, vu, vu, vu] [xr u0, xr u1])) rfl (by rw [hml]; rfl) (Steps.refl _) (argsL := []) (rest := [xr u1]) (lenOf pd2 rfl) rfl (by show 2 * 0 + _ ≤ _; exact Nat.le_of_eq rfl) (hb hby at_40) (fun _ _ => ⟨rfl, e4, (by decide : 0 + 0 ≤ _), (by decide : 0 + 0 ≤ _)⟩)
  dsimp only [Pt.U, Pt.locs, Pt.cells, Pt.slots] at X5 l5 y5 z5 st5 hQ5
  subst l5 y5 z5
  obtain ⟨rfl, Nq5, e5⟩ := hQ5
  have N5 := Fr.app N4 Nq5
  obtain ⟨cq6, kq6, qa6, qb6, qc6⟩ := isOf hZ e5 ((own_X_u1 G).ext O0.2)
  obtain ⟨_, _, ⟨T6, L6, k6, n6⟩, -, X6, ⟨Lc6, hQ6, l6, y6, z6⟩, st6⟩ := X5.virtualBack hx (y := Y2) (z := Y2) hown (mvT hZ (ww hw 14 rfl)) (mvT hZ (ww hw 15 rfl)) (notFace_of_selects (args := #[]) (mvT hZ (ww hw 17 rfl))) (mvT hZ (ww hw 17 rfl)) (mvT hZ (ww hw 16 rfl)) (by decide) (backOf (W := 0) (own_c4_not l Z a0 hw u0 u1 u2 G h0 n0 O0 []) hZ (ww hw 18 rfl) (ww hw 6 rfl) (by decide) (by decide)) qa6 qc6 (g := (mkF m 55 #[vi p1, vi p2, vi p3, vi (1 : Int32), vr u1, vr u2, vi (1 : Int32), vu, vu] [xr u1])) rfl (by rw [hml]; rfl) (Steps.refl _) (argsL := []) (rest := []) (lenOf pd2 rfl) rfl (by show 2 * 0 + _ ≤ _; exact Nat.le_of_eq rfl) (hb hby at_55) (fun _ _ => ⟨rfl, e5, (by decide : 0 + 0 ≤ _), (by decide : 0 + 0 ≤ _)⟩)
  dsimp only [Pt.U, Pt.locs, Pt.cells, Pt.slots] at X6 l6 y6 z6 st6 hQ6
  subst l6 y6 z6
  obtain ⟨rfl, Nq6, e6⟩ := hQ6
  have N6 := Fr.app N5 Nq6
  obtain ⟨cq7, kq7, qa7, qb7, qc7⟩ := isOf hZ e6 ((own_X_u0 G).ext O0.2)
  obtain ⟨_, _, ⟨T7, L7, k7, n7⟩, -, X7, ⟨Lc7, hQ7, l7, y7, z7⟩, st7⟩ := X6.virtualBack hx (y := Y2) (z := Y2) hown (mvT hZ (ww hw 14 rfl)) (mvT hZ (ww hw 15 rfl)) (notFace_of_selects (args := #[]) (mvT hZ (ww hw 17 rfl))) (mvT hZ (ww hw 17 rfl)) (mvT hZ (ww hw 16 rfl)) (by decide) (backOf (W := 0) (own_c5_not l Z a0 hw u0 u1 u2 G h0 n0 O0 []) hZ (ww hw 18 rfl) (ww hw 6 rfl) (by decide) (by decide)) qa7 qc7 (g := (mkF m 58 #[vi p1, vi p2, vi p3, vi (1 : Int32), vr u1, vr u2, vi (1 : Int32), vu, vu] [xr u0])) rfl (by rw [hml]; rfl) (Steps.refl _) (argsL := []) (rest := []) (lenOf pd2 rfl) rfl (by show 2 * 0 + _ ≤ _; exact Nat.le_of_eq rfl) (hb hby at_58) (fun _ _ => ⟨rfl, e6, (by decide : 0 + 0 ≤ _), (by decide : 0 + 0 ≤ _)⟩)
  dsimp only [Pt.U, Pt.locs, Pt.cells, Pt.slots] at X7 l7 y7 z7 st7 hQ7
  subst l7 y7 z7
  obtain ⟨rfl, Nq7, e7⟩ := hQ7
  have N7 := Fr.app N6 Nq7
  obtain ⟨cq8, kq8, qa8, qb8, qc8⟩ := isOf hZ e7 ((own_X_u1 G).ext O0.2)
  obtain ⟨_, _, ⟨T8, L8, k8, n8⟩, -, X8, ⟨Lc8, hQ8, l8, y8, z8⟩, st8⟩ := X7.virtualBack hx (y := Y3) (z := Y3) hown (mvT hZ (ww hw 21 rfl)) (mvT hZ (ww hw 22 rfl)) (notFace_of_selects (args := #[]) (mvT hZ (ww hw 24 rfl))) (mvT hZ (ww hw 24 rfl)) (mvT hZ (ww hw 23 rfl)) (by decide) (backOf (W := 0) (own_c20_and l Z a0 hw u0 u1 u2 G h0 n0 O0 []) hZ (ww hw 25 rfl) (ww hw 6 rfl) (by decide) (by decide)) qa8 qc8 (g := (mkF m 77 #[vi p1, vi p2, vi p3, vi (1 : Int32), vr u1, vr u2, vi (1 : Int32), vi (1 : Int32), vu] [xr u2, xr u1])) rfl (by rw [hml]; rfl) (Steps.refl _) (argsL := [xr u2]) (rest := []) (lenOf pd3 rfl) rfl (by show 2 * 0 + _ ≤ _; exact Nat.le_of_eq rfl) (hb hby at_77) (fun _ _ => ⟨rfl, e7, (by decide : 0 + 0 ≤ _), (by decide : 0 + 0 ≤ _)⟩)
  dsimp only [Pt.U, Pt.locs, Pt.cells, Pt.slots] at X8 l8 y8 z8 st8 hQ8
  subst l8 y8 z8
  obtain ⟨rfl, Nq8, e8⟩ := hQ8
  have N8 := Fr.app N7 Nq8
  obtain ⟨cq9, kq9, qa9, qb9, qc9⟩ := isOf hZ e8 ((own_X_u1 G).ext O0.2)
  obtain ⟨_, _, ⟨T9, L9, k9, n9⟩, -, X9, ⟨Lc9, hQ9, l9, y9, z9⟩, st9⟩ := X8.virtualBack hx (y := Y2) (z := Y2) hown (mvT hZ (ww hw 14 rfl)) (mvT hZ (ww hw 15 rfl)) (notFace_of_selects (args := #[]) (mvT hZ (ww hw 17 rfl))) (mvT hZ (ww hw 17 rfl)) (mvT hZ (ww hw 16 rfl)) (by decide) (backOf (W := 0) (own_c4_not l Z a0 hw u0 u1 u2 G h0 n0 O0 []) hZ (ww hw 18 rfl) (ww hw 6 rfl) (by decide) (by decide)) qa9 qc9 (g := (mkF m 80 #[vi p1, vi p2, vi p3, vi (1 : Int32), vr u1, vr u2, vi (1 : Int32), vi (1 : Int32), vu] [xr u1])) rfl (by rw [hml]; rfl) (Steps.refl _) (argsL := []) (rest := []) (lenOf pd2 rfl) rfl (by show 2 * 0 + _ ≤ _; exact Nat.le_of_eq rfl) (hb hby at_80) (fun _ _ => ⟨rfl, e8, (by decide : 0 + 0 ≤ _), (by decide : 0 + 0 ≤ _)⟩)
  dsimp only [Pt.U, Pt.locs, Pt.cells, Pt.slots] at X9 l9 y9 z9 st9 hQ9
  subst l9 y9 z9
  obtain ⟨rfl, Nq9, e9⟩ := hQ9
  have N9 := Fr.app N8 Nq9
  obtain ⟨cq10, kq10, qa10, qb10, qc10⟩ := isOf hZ e9 ((own_X_u1 G).ext O0.2)
  obtain ⟨_, _, ⟨T10, L10, k10, n10⟩, -, X10, ⟨Lc10, hQ10, l10, y10, z10⟩, st10⟩ := X9.virtualBack hx (y := Y2) (z := Y2) hown (mvT hZ (ww hw 14 rfl)) (mvT hZ (ww hw 15 rfl)) (notFace_of_selects (args := #[]) (mvT hZ (ww hw 17 rfl))) (mvT hZ (ww hw 17 rfl)) (mvT hZ (ww hw 16 rfl)) (by decide) (backOf (W := 1) (own_c4_not l Z a0 hw u0 u1 u2 G h0 n0 O0 []) hZ (ww hw 18 rfl) (ww hw 6 rfl) (by decide) (by decide)) qa10 qc10 (g := (mkF m 85 #[vi p1, vi p2, vi p3, vi (1 : Int32), vr u1, vr u2, vi (1 : Int32), vi (1 : Int32), vu] [xr u1, xr u0])) rfl (by rw [hml]; rfl) (Steps.refl _) (argsL := []) (rest := [xr u0]) (lenOf pd2 rfl) rfl (by show 2 * 0 + _ ≤ _; exact Nat.le_of_eq rfl) (hb hby at_85) (fun _ _ => ⟨rfl, e9, (by decide : 0 + 0 ≤ _), (by decide : 0 + 0 ≤ _)⟩)
  dsimp only [Pt.U, Pt.locs, Pt.cells, Pt.slots] at X10 l10 y10 z10 st10 hQ10
  subst l10 y10 z10
  obtain ⟨rfl, Nq10, e10⟩ := hQ10
  have N10 := Fr.app N9 Nq10
  obtain ⟨cq11, kq11, qa11, qb11, qc11⟩ := isOf hZ e10 ((own_X_u2 G).ext O0.2)
  obtain ⟨_, _, ⟨T11, L11, k11, n11⟩, -, X11, ⟨Lc11, hQ11, l11, y11, z11⟩, st11⟩ := X10.virtualBack hx (y := Y2) (z := Y2) hown (mvT hZ (ww hw 14 rfl)) (mvT hZ (ww hw 15 rfl)) (notFace_of_selects (args := #[]) (mvT hZ (ww hw 17 rfl))) (mvT hZ (ww hw 17 rfl)) (mvT hZ (ww hw 16 rfl)) (by decide) (backOf (W := 2) (own_c13_not l Z a0 hw u0 u1 u2 G h0 n0 O0 []) hZ (ww hw 18 rfl) (ww hw 6 rfl) (by decide) (by decide)) qa11 qc11 (g := (mkF m 90 #[vi p1, vi p2, vi p3, vi (1 : Int32), vr u1, vr u2, vi (1 : Int32), vi (1 : Int32), vu] [xr u2, xr u0, xr u0])) rfl (by rw [hml]; rfl) (Steps.refl _) (argsL := []) (rest := [xr u0, xr u0]) (lenOf pd2 rfl) rfl (by show 2 * 0 + _ ≤ _; exact Nat.le_of_eq rfl) (hb hby at_90) (fun _ _ => ⟨rfl, e10, (by decide : 0 + 0 ≤ _), (by decide : 0 + 0 ≤ _)⟩)
  dsimp only [Pt.U, Pt.locs, Pt.cells, Pt.slots] at X11 l11 y11 z11 st11 hQ11
  subst l11 y11 z11
  obtain ⟨rfl, Nq11, e11⟩ := hQ11
  have N11 := Fr.app N10 Nq11
  obtain ⟨cq12, kq12, qa12, qb12, qc12⟩ := isOf hZ e11 ((own_X_u0 G).ext O0.2)
  obtain ⟨_, _, ⟨T12, L12, k12, n12⟩, -, X12, ⟨Lc12, hQ12, l12, y12, z12⟩, st12⟩ := X11.virtualBack hx (y := Y4) (z := Y4) hown (mvT hZ (ww hw 26 rfl)) (mvT hZ (ww hw 27 rfl)) (notFace_of_selects (args := #[]) (mvT hZ (ww hw 29 rfl))) (mvT hZ (ww hw 29 rfl)) (mvT hZ (ww hw 28 rfl)) (by decide) (backOf (W := 1) (own_c21_or l Z a0 hw u0 u1 u2 G h0 n0 O0 []) hZ (ww hw 30 rfl) (ww hw 6 rfl) (by decide) (by decide)) qa12 qc12 (g := (mkF m 93 #[vi p1, vi p2, vi p3, vi (1 : Int32), vr u1, vr u2, vi (1 : Int32), vi (1 : Int32), vu] [xr u2, xr u0, xr u0])) rfl (by rw [hml]; rfl) (Steps.refl _) (argsL := [xr u2]) (rest := [xr u0]) (lenOf pd3 rfl) rfl (by show 2 * 0 + _ ≤ _; exact Nat.le_of_eq rfl) (hb hby at_93) (fun _ _ => ⟨rfl, e11, (by decide : 0 + 0 ≤ _), (by decide : 0 + 0 ≤ _)⟩)
  dsimp only [Pt.U, Pt.locs, Pt.cells, Pt.slots] at X12 l12 y12 z12 st12 hQ12
  subst l12 y12 z12
  obtain ⟨rfl, Nq12, e12⟩ := hQ12
  have N12 := Fr.app N11 Nq12
  obtain ⟨fs, hr, hrun, hended, hW, hsame⟩ := X12.leave (v := some (xi (1 : Int32))) (fun h => by rw [Bd.returns] at h; cases h)
  refine ⟨_, _, pre0 _ ?_, hrun, hended, _, _, rfl, ?_, ⟨_, rfl⟩, hW, hsame.mono (by decide) (by decide)⟩
  · show own_S p e below s₁ (mkF m 0 #[vi p1, vi p2, vi p3, vu, vu, vu, vu, vu, vu] []) _
    refine XS.iloadN X0.here hx rfl (hb hby at_0) rfl ?_
    show own_S p e below s₁ (mkF m 1 #[vi p1, vi p2, vi p3, vu, vu, vu, vu, vu, vu] [xi p3]) _
    refine XS.iconst X0.here hx rfl (hb hby at_1) ?_
    show own_S p e below s₁ (mkF m 2 #[vi p1, vi p2, vi p3, vu, vu, vu, vu, vu, vu] [xi (1 : Int32), xi p3]) _
    refine XS.iand X0.here hx rfl (hb hby at_2) rfl ?_
    show own_S p e below s₁ (mkF m 3 #[vi p1, vi p2, vi p3, vu, vu, vu, vu, vu, vu] [xi (p3 &&& (1 : Int32))]) _
    refine castTop (show (mkF m 3 #[vi p1, vi p2, vi p3, vu, vu, vu, vu, vu, vu] [xi (p3 &&& (1 : Int32))]) = (mkF m 3 #[vi p1, vi p2, vi p3, vu, vu, vu, vu, vu, vu] [xi (1 : Int32)]) from by rw [as7]) ?_
    show own_S p e below s₁ (mkF m 3 #[vi p1, vi p2, vi p3, vu, vu, vu, vu, vu, vu] [xi (1 : Int32)]) _
    refine XS.ifNo X0.here hx rfl (hb hby at_3) rfl (by decide) ?_
    show own_S p e below s₁ (mkF m 6 #[vi p1, vi p2, vi p3, vu, vu, vu, vu, vu, vu] []) _
    refine XS.iconst X0.here hx rfl (hb hby at_6) ?_
    show own_S p e below s₁ (mkF m 7 #[vi p1, vi p2, vi p3, vu, vu, vu, vu, vu, vu] [xi (1 : Int32)]) _
    refine XS.goto X0.here hx rfl (pc0 := 7) (pc' := 11) rfl (hb hby at_7) (by decide) (by decide) ?_
    show own_S p e below s₁ (mkF m 11 #[vi p1, vi p2, vi p3, vu, vu, vu, vu, vu, vu] [xi (1 : Int32)]) _
    refine XS.istoreN X0.here hx rfl (hb hby at_11) rfl (l' := #[vi p1, vi p2, vi p3, vi (1 : Int32), vu, vu, vu, vu, vu]) rfl ?_
    show own_S p e below s₁ (mkF m 12 #[vi p1, vi p2, vi p3, vi (1 : Int32), vu, vu, vu, vu, vu] []) _
    refine XS.iloadN X0.here hx rfl (hb hby at_12) rfl ?_
    show own_S p e below s₁ (mkF m 13 #[vi p1, vi p2, vi p3, vi (1 : Int32), vu, vu, vu, vu, vu] [xi p1]) _
    refine st1 _ ?_
    show own_S p e below T1 (mkF m 16 #[vi p1, vi p2, vi p3, vi (1 : Int32), vu, vu, vu, vu, vu] [xr u1]) _
    refine XS.astore X1.here hx rfl (hb hby at_16) rfl rfl (l' := #[vi p1, vi p2, vi p3, vi (1 : Int32), vr u1, vu, vu, vu, vu]) rfl ?_
    show own_S p e below T1 (mkF m 18 #[vi p1, vi p2, vi p3, vi (1 : Int32), vr u1, vu, vu, vu, vu] []) _
    refine XS.iloadN X1.here hx rfl (hb hby at_18) rfl ?_
    show own_S p e below T1 (mkF m 19 #[vi p1, vi p2, vi p3, vi (1 : Int32), vr u1, vu, vu, vu, vu] [xi p2]) _
    refine st2 _ ?_
    show own_S p e below T2 (mkF m 22 #[vi p1, vi p2, vi p3, vi (1 : Int32), vr u1, vu, vu, vu, vu] [xr u2]) _
    refine XS.astore X2.here hx rfl (hb hby at_22) rfl rfl (l' := #[vi p1, vi p2, vi p3, vi (1 : Int32), vr u1, vr u2, vu, vu, vu]) rfl ?_
    show own_S p e below T2 (mkF m 24 #[vi p1, vi p2, vi p3, vi (1 : Int32), vr u1, vr u2, vu, vu, vu] []) _
    refine XS.iloadN X2.here hx rfl (hb hby at_24) rfl ?_
    show own_S p e below T2 (mkF m 25 #[vi p1, vi p2, vi p3, vi (1 : Int32), vr u1, vr u2, vu, vu, vu] [xi (1 : Int32)]) _
    refine XS.ifYes X2.here hx rfl (pc0 := 25) (pc' := 32) rfl (hb hby at_25) rfl (by decide) (by decide) (by decide) ?_
    show own_S p e below T2 (mkF m 32 #[vi p1, vi p2, vi p3, vi (1 : Int32), vr u1, vr u2, vu, vu, vu] []) _
    refine XS.iconst X2.here hx rfl (hb hby at_32) ?_
    show own_S p e below T2 (mkF m 33 #[vi p1, vi p2, vi p3, vi (1 : Int32), vr u1, vr u2, vu, vu, vu] [xi (0 : Int32)]) _
    refine st3 _ ?_
    show own_S p e below T3 (mkF m 36 #[vi p1, vi p2, vi p3, vi (1 : Int32), vr u1, vr u2, vu, vu, vu] [xr u1]) _
    refine XS.iloadN X3.here hx rfl (hb hby at_36) rfl ?_
    show own_S p e below T3 (mkF m 37 #[vi p1, vi p2, vi p3, vi (1 : Int32), vr u1, vr u2, vu, vu, vu] [xi (1 : Int32), xr u1]) _
    refine st4 _ ?_
    show own_S p e below T4 (mkF m 40 #[vi p1, vi p2, vi p3, vi (1 : Int32), vr u1, vr u2, vu, vu, vu] [xr u0, xr u1]) _
    refine st5.trans ?_
    show own_S p e below T5 (mkF m 43 #[vi p1, vi p2, vi p3, vi (1 : Int32), vr u1, vr u2, vu, vu, vu] [xr u1, xr u1]) _
    refine Jvm.RoadKit.acmp (g := (mkF m 43 #[vi p1, vi p2, vi p3, vi (1 : Int32), vr u1, vr u2, vu, vu, vu] [xr u1, xr u1])) X5 hx rfl rfl rfl (pc0 := 43) (pc' := 46) (same := true) rfl (hb hby at_43) rfl (decide_eq_true rfl) (by decide) (by decide) ?_
    show own_S p e below T5 (mkF m 46 #[vi p1, vi p2, vi p3, vi (1 : Int32), vr u1, vr u2, vu, vu, vu] []) _
    refine XS.iconst X5.here hx rfl (hb hby at_46) ?_
    show own_S p e below T5 (mkF m 47 #[vi p1, vi p2, vi p3, vi (1 : Int32), vr u1, vr u2, vu, vu, vu] [xi (1 : Int32)]) _
    refine XS.goto X5.here hx rfl (pc0 := 47) (pc' := 51) rfl (hb hby at_47) (by decide) (by decide) ?_
    show own_S p e below T5 (mkF m 51 #[vi p1, vi p2, vi p3, vi (1 : Int32), vr u1, vr u2, vu, vu, vu] [xi (1 : Int32)]) _
    refine XS.istore X5.here hx rfl (hb hby at_51) rfl (l' := #[vi p1, vi p2, vi p3, vi (1 : Int32), vr u1, vr u2, vi (1 : Int32), vu, vu]) rfl ?_
    show own_S p e below T5 (mkF m 53 #[vi p1, vi p2, vi p3, vi (1 : Int32), vr u1, vr u2, vi (1 : Int32), vu, vu] []) _
    refine XS.aload X5.here hx rfl (hb hby at_53) rfl rfl ?_
    show own_S p e below T5 (mkF m 55 #[vi p1, vi p2, vi p3, vi (1 : Int32), vr u1, vr u2, vi (1 : Int32), vu, vu] [xr u1]) _
    refine st6.trans ?_
    show own_S p e below T6 (mkF m 58 #[vi p1, vi p2, vi p3, vi (1 : Int32), vr u1, vr u2, vi (1 : Int32), vu, vu] [xr u0]) _
    refine st7.trans ?_
    show own_S p e below T7 (mkF m 61 #[vi p1, vi p2, vi p3, vi (1 : Int32), vr u1, vr u2, vi (1 : Int32), vu, vu] [xr u1]) _
    refine XS.aload X7.here hx rfl (hb hby at_61) rfl rfl ?_
    show own_S p e below T7 (mkF m 63 #[vi p1, vi p2, vi p3, vi (1 : Int32), vr u1, vr u2, vi (1 : Int32), vu, vu] [xr u1, xr u1]) _
    refine Jvm.RoadKit.acmp (g := (mkF m 63 #[vi p1, vi p2, vi p3, vi (1 : Int32), vr u1, vr u2, vi (1 : Int32), vu, vu] [xr u1, xr u1])) X7 hx rfl rfl rfl (pc0 := 63) (pc' := 66) (same := true) rfl (hb hby at_63) rfl (decide_eq_true rfl) (by decide) (by decide) ?_
    show own_S p e below T7 (mkF m 66 #[vi p1, vi p2, vi p3, vi (1 : Int32), vr u1, vr u2, vi (1 : Int32), vu, vu] []) _
    refine XS.iconst X7.here hx rfl (hb hby at_66) ?_
    show own_S p e below T7 (mkF m 67 #[vi p1, vi p2, vi p3, vi (1 : Int32), vr u1, vr u2, vi (1 : Int32), vu, vu] [xi (1 : Int32)]) _
    refine XS.goto X7.here hx rfl (pc0 := 67) (pc' := 71) rfl (hb hby at_67) (by decide) (by decide) ?_
    show own_S p e below T7 (mkF m 71 #[vi p1, vi p2, vi p3, vi (1 : Int32), vr u1, vr u2, vi (1 : Int32), vu, vu] [xi (1 : Int32)]) _
    refine XS.istore X7.here hx rfl (hb hby at_71) rfl (l' := #[vi p1, vi p2, vi p3, vi (1 : Int32), vr u1, vr u2, vi (1 : Int32), vi (1 : Int32), vu]) rfl ?_
    show own_S p e below T7 (mkF m 73 #[vi p1, vi p2, vi p3, vi (1 : Int32), vr u1, vr u2, vi (1 : Int32), vi (1 : Int32), vu] []) _
    refine XS.aload X7.here hx rfl (hb hby at_73) rfl rfl ?_
    show own_S p e below T7 (mkF m 75 #[vi p1, vi p2, vi p3, vi (1 : Int32), vr u1, vr u2, vi (1 : Int32), vi (1 : Int32), vu] [xr u1]) _
    refine XS.aload X7.here hx rfl (hb hby at_75) rfl rfl ?_
    show own_S p e below T7 (mkF m 77 #[vi p1, vi p2, vi p3, vi (1 : Int32), vr u1, vr u2, vi (1 : Int32), vi (1 : Int32), vu] [xr u2, xr u1]) _
    refine st8.trans ?_
    show own_S p e below T8 (mkF m 80 #[vi p1, vi p2, vi p3, vi (1 : Int32), vr u1, vr u2, vi (1 : Int32), vi (1 : Int32), vu] [xr u1]) _
    refine st9.trans ?_
    show own_S p e below T9 (mkF m 83 #[vi p1, vi p2, vi p3, vi (1 : Int32), vr u1, vr u2, vi (1 : Int32), vi (1 : Int32), vu] [xr u0]) _
    refine XS.aload X9.here hx rfl (hb hby at_83) rfl rfl ?_
    show own_S p e below T9 (mkF m 85 #[vi p1, vi p2, vi p3, vi (1 : Int32), vr u1, vr u2, vi (1 : Int32), vi (1 : Int32), vu] [xr u1, xr u0]) _
    refine st10.trans ?_
    show own_S p e below T10 (mkF m 88 #[vi p1, vi p2, vi p3, vi (1 : Int32), vr u1, vr u2, vi (1 : Int32), vi (1 : Int32), vu] [xr u0, xr u0]) _
    refine XS.aload X10.here hx rfl (hb hby at_88) rfl rfl ?_
    show own_S p e below T10 (mkF m 90 #[vi p1, vi p2, vi p3, vi (1 : Int32), vr u1, vr u2, vi (1 : Int32), vi (1 : Int32), vu] [xr u2, xr u0, xr u0]) _
    refine st11.trans ?_
    show own_S p e below T11 (mkF m 93 #[vi p1, vi p2, vi p3, vi (1 : Int32), vr u1, vr u2, vi (1 : Int32), vi (1 : Int32), vu] [xr u2, xr u0, xr u0]) _
    refine st12.trans ?_
    show own_S p e below T12 (mkF m 96 #[vi p1, vi p2, vi p3, vi (1 : Int32), vr u1, vr u2, vi (1 : Int32), vi (1 : Int32), vu] [xr u0, xr u0]) _
    refine Jvm.RoadKit.acmp (g := (mkF m 96 #[vi p1, vi p2, vi p3, vi (1 : Int32), vr u1, vr u2, vi (1 : Int32), vi (1 : Int32), vu] [xr u0, xr u0])) X12 hx rfl rfl rfl (pc0 := 96) (pc' := 99) (same := true) rfl (hb hby at_96) rfl (decide_eq_true rfl) (by decide) (by decide) ?_
    show own_S p e below T12 (mkF m 99 #[vi p1, vi p2, vi p3, vi (1 : Int32), vr u1, vr u2, vi (1 : Int32), vi (1 : Int32), vu] []) _
    refine XS.iconst X12.here hx rfl (hb hby at_99) ?_
    show own_S p e below T12 (mkF m 100 #[vi p1, vi p2, vi p3, vi (1 : Int32), vr u1, vr u2, vi (1 : Int32), vi (1 : Int32), vu] [xi (1 : Int32)]) _
    refine XS.goto X12.here hx rfl (pc0 := 100) (pc' := 104) rfl (hb hby at_100) (by decide) (by decide) ?_
    show own_S p e below T12 (mkF m 104 #[vi p1, vi p2, vi p3, vi (1 : Int32), vr u1, vr u2, vi (1 : Int32), vi (1 : Int32), vu] [xi (1 : Int32)]) _
    refine XS.istore X12.here hx rfl (hb hby at_104) rfl (l' := #[vi p1, vi p2, vi p3, vi (1 : Int32), vr u1, vr u2, vi (1 : Int32), vi (1 : Int32), vi (1 : Int32)]) rfl ?_
    show own_S p e below T12 (mkF m 106 #[vi p1, vi p2, vi p3, vi (1 : Int32), vr u1, vr u2, vi (1 : Int32), vi (1 : Int32), vi (1 : Int32)] []) _
    refine XS.iload X12.here hx rfl (hb hby at_106) rfl ?_
    show own_S p e below T12 (mkF m 108 #[vi p1, vi p2, vi p3, vi (1 : Int32), vr u1, vr u2, vi (1 : Int32), vi (1 : Int32), vi (1 : Int32)] [xi (1 : Int32)]) _
    refine XS.ifNo X12.here hx rfl (hb hby at_108) rfl (by decide) ?_
    show own_S p e below T12 (mkF m 111 #[vi p1, vi p2, vi p3, vi (1 : Int32), vr u1, vr u2, vi (1 : Int32), vi (1 : Int32), vi (1 : Int32)] []) _
    refine XS.iload X12.here hx rfl (hb hby at_111) rfl ?_
    show own_S p e below T12 (mkF m 113 #[vi p1, vi p2, vi p3, vi (1 : Int32), vr u1, vr u2, vi (1 : Int32), vi (1 : Int32), vi (1 : Int32)] [xi (1 : Int32)]) _
    refine XS.ifNo X12.here hx rfl (hb hby at_113) rfl (by decide) ?_
    show own_S p e below T12 (mkF m 116 #[vi p1, vi p2, vi p3, vi (1 : Int32), vr u1, vr u2, vi (1 : Int32), vi (1 : Int32), vi (1 : Int32)] []) _
    refine XS.iload X12.here hx rfl (hb hby at_116) rfl ?_
    show own_S p e below T12 (mkF m 118 #[vi p1, vi p2, vi p3, vi (1 : Int32), vr u1, vr u2, vi (1 : Int32), vi (1 : Int32), vi (1 : Int32)] [xi (1 : Int32)]) _
    refine XS.ifNo X12.here hx rfl (hb hby at_118) rfl (by decide) ?_
    show own_S p e below T12 (mkF m 121 #[vi p1, vi p2, vi p3, vi (1 : Int32), vr u1, vr u2, vi (1 : Int32), vi (1 : Int32), vi (1 : Int32)] []) _
    refine XS.iconst X12.here hx rfl (hb hby at_121) ?_
    show own_S p e below T12 (mkF m 122 #[vi p1, vi p2, vi p3, vi (1 : Int32), vr u1, vr u2, vi (1 : Int32), vi (1 : Int32), vi (1 : Int32)] [xi (1 : Int32)]) _
    refine XS.goto X12.here hx rfl (pc0 := 122) (pc' := 126) rfl (hb hby at_122) (by decide) (by decide) ?_
    show own_S p e below T12 (mkF m 126 #[vi p1, vi p2, vi p3, vi (1 : Int32), vr u1, vr u2, vi (1 : Int32), vi (1 : Int32), vi (1 : Int32)] [xi (1 : Int32)]) _
    exact retN X12 hx (t := .boolean) Bd.returns (by simp) (hb hby at_126) hr
  · exact ⟨rfl, N12⟩
theorem ef_own_c22_pick (m : MethodId) (u0 u1 u2 : Addr) (p1 : Int32) : entryFrame m #[xi p1] 2 = (mkF m 0 #[vi p1, vu] []) := by first | (simp [entryFrame, mkF, argsToLocals, Value.category]; done) | rfl
set_option maxRecDepth 65536 in
set_option maxHeartbeats 40000000 in
theorem own_c22_pick (l : Launch) (Z : State) (a0 : Array Value) (hw : ∀ d ∈ tables_1, d.before a0 Z = true) (u0 u1 u2 : Addr) (G : own_St Z u0 u1 u2) (p1 : Int32) (as2 : ((p1 &&& (2147483647 : Int32)) - ((p1 &&& (2147483647 : Int32)) / (3 : Int32)) * (3 : Int32)) = (2 : Int32)) (h0 : Heap) (n0 : Nat) (O0 : Old Z n0 h0) : own_Met l Z Y0 method_2_code 2 (some (.object "com/example/arbitrium/arbitrium/policy/Truth")) ({ frames := 0, cells := 0, slots := 0, locals := 0 } : Room) #[xi p1] h0 (own_QR (some (xr u2)) h0 n0) := by
  intro ws
  refine MetFree.of_bodySF (plainFor_of_name pn0) hisR ?_
  intro p e s m args below meth c s₁ Bd hml0 hP hK
  obtain ⟨rfl, hZ, hh⟩ := hP
  have hx := Bd.exec
  have hby := Bd.bytes
  have hml : c.maxLocals = 2 := hml0
  have hown : s.vm.findClass "com/example/arbitrium/arbitrium/policy/TruthNotPinLaw" = some m.cls := findClass_of_methodNamed Bd.named
  have hnm := (name_of_methodNamed Bd.named Bd.method).1
  have X0 : Stand p l e ({ frames := 0, cells := 0, slots := 0, locals := 0 } : Room) s m #[xi p1] below meth c s₁ [] 0 0 := Stand.of_body Bd
  have e0 : s₁.heap = h0 := by rw [← hh, Bd.state]; rfl
  have N0 := Fr.nil n0
  have pre0 : ∀ t, Steps p.tables e below (s₁.setTop (mkF m 0 #[vi p1, vu] [])) t → Steps p.tables e below (s₁.setTop (entryFrame m #[xi p1] 2)) t := fun t k => castTop (ef_own_c22_pick m u0 u1 u2 p1) k
  obtain ⟨T1, X1, e1, st1⟩ := getS2 X0 hx hZ hown (host := "") (Or.inl (ww hw 32 rfl)) Via.refl e0 ((own_S_u2 G).ext O0.2) (g := (mkF m 24 #[vi p1, vi (2 : Int32)] [])) rfl (hb hby d1_24)
  obtain ⟨fs, hr, hrun, hended, hW, hsame⟩ := X1.leave (v := some (xr u2)) (fun h => by rw [Bd.returns] at h; cases h)
  refine ⟨_, _, pre0 _ ?_, hrun, hended, _, _, rfl, ?_, ⟨_, rfl⟩, hW, hsame.mono (by decide) (by decide)⟩
  · show own_S p e below s₁ (mkF m 0 #[vi p1, vu] []) _
    refine XS.iloadN X0.here hx rfl (hb hby d1_0) rfl ?_
    show own_S p e below s₁ (mkF m 1 #[vi p1, vu] [xi p1]) _
    refine X0.ldcI hx hown (mvT hZ (ww hw 4 rfl)) (g := (mkF m 1 #[vi p1, vu] [xi p1])) rfl (hb hby d1_1) ?_
    show own_S p e below s₁ (mkF m 3 #[vi p1, vu] [xi (2147483647 : Int32), xi p1]) _
    refine XS.iand X0.here hx rfl (hb hby d1_3) rfl ?_
    show own_S p e below s₁ (mkF m 4 #[vi p1, vu] [xi (p1 &&& (2147483647 : Int32))]) _
    show own_S p e below s₁ (mkF m 4 #[vi p1, vu] [xi (p1 &&& (2147483647 : Int32))]) _
    refine XS.iconst X0.here hx rfl (hb hby d1_4) ?_
    show own_S p e below s₁ (mkF m 5 #[vi p1, vu] [xi (3 : Int32), xi (p1 &&& (2147483647 : Int32))]) _
    refine XS.irem X0.here hx rfl (hb hby d1_5) rfl (by decide) ?_
    show own_S p e below s₁ (mkF m 6 #[vi p1, vu] [xi ((p1 &&& (2147483647 : Int32)) - ((p1 &&& (2147483647 : Int32)) / (3 : Int32)) * (3 : Int32))]) _
    refine castTop (show (mkF m 6 #[vi p1, vu] [xi ((p1 &&& (2147483647 : Int32)) - ((p1 &&& (2147483647 : Int32)) / (3 : Int32)) * (3 : Int32))]) = (mkF m 6 #[vi p1, vu] [xi (2 : Int32)]) from by rw [as2]) ?_
    show own_S p e below s₁ (mkF m 6 #[vi p1, vu] [xi (2 : Int32)]) _
    refine XS.istoreN X0.here hx rfl (hb hby d1_6) rfl (l' := #[vi p1, vi (2 : Int32)]) rfl ?_
    show own_S p e below s₁ (mkF m 7 #[vi p1, vi (2 : Int32)] []) _
    refine XS.iloadN X0.here hx rfl (hb hby d1_7) rfl ?_
    show own_S p e below s₁ (mkF m 8 #[vi p1, vi (2 : Int32)] [xi (2 : Int32)]) _
    refine XS.ifYes X0.here hx rfl (pc0 := 8) (pc' := 15) rfl (hb hby d1_8) rfl (by decide) (by decide) (by decide) ?_
    show own_S p e below s₁ (mkF m 15 #[vi p1, vi (2 : Int32)] []) _
    refine XS.iloadN X0.here hx rfl (hb hby d1_15) rfl ?_
    show own_S p e below s₁ (mkF m 16 #[vi p1, vi (2 : Int32)] [xi (2 : Int32)]) _
    refine XS.iconst X0.here hx rfl (hb hby d1_16) ?_
    show own_S p e below s₁ (mkF m 17 #[vi p1, vi (2 : Int32)] [xi (1 : Int32), xi (2 : Int32)]) _
    refine XS.icmpYes X0.here hx rfl (pc0 := 17) (pc' := 24) rfl (hb hby d1_17) rfl (by decide) (by decide) (by decide) ?_
    show own_S p e below s₁ (mkF m 24 #[vi p1, vi (2 : Int32)] []) _
    refine st1 _ ?_
    show own_S p e below T1 (mkF m 27 #[vi p1, vi (2 : Int32)] [xr u2]) _
    exact X1.areturnOut hx rfl Bd.returns rfl (hb hby d1_27) hr
  · exact ⟨rfl, N0, e1⟩
theorem ef_own_c23_and (m : MethodId) (u0 u1 u2 : Addr) : entryFrame m #[xr u2, xr u0] 2 = (mkF m 0 #[vr u2, vr u0] []) := by first | (simp [entryFrame, mkF, argsToLocals, Value.category]; done) | rfl
set_option maxRecDepth 65536 in
set_option maxHeartbeats 40000000 in
theorem own_c23_and (l : Launch) (Z : State) (a0 : Array Value) (hw : ∀ d ∈ tables_1, d.before a0 Z = true) (u0 u1 u2 : Addr) (G : own_St Z u0 u1 u2) (h0 : Heap) (n0 : Nat) (O0 : Old Z n0 h0) : own_Met l Z Y3 prog_71_method_5_code 2 (some (.object "com/example/arbitrium/arbitrium/policy/Truth")) ({ frames := 0, cells := 0, slots := 0, locals := 0 } : Room) #[xr u2, xr u0] h0 (own_QR (some (xr u2)) h0 n0) := by
  intro ws
  refine MetFree.of_bodySF (plainFor_of_name pn1) hisR ?_
  intro p e s m args below meth c s₁ Bd hml0 hP hK
  obtain ⟨rfl, hZ, hh⟩ := hP
  have hx := Bd.exec
  have hby := Bd.bytes
  have hml : c.maxLocals = 2 := hml0
  have hown : s.vm.findClass "com/example/arbitrium/arbitrium/policy/Truth" = some m.cls := findClass_of_methodNamed Bd.named
  have hnm := (name_of_methodNamed Bd.named Bd.method).1
  have X0 : Stand p l e ({ frames := 0, cells := 0, slots := 0, locals := 0 } : Room) s m #[xr u2, xr u0] below meth c s₁ [] 0 0 := Stand.of_body Bd
  have e0 : s₁.heap = h0 := by rw [← hh, Bd.state]; rfl
  have N0 := Fr.nil n0
  have pre0 : ∀ t, Steps p.tables e below (s₁.setTop (mkF m 0 #[vr u2, vr u0] [])) t → Steps p.tables e below (s₁.setTop (entryFrame m #[xr u2, xr u0] 2)) t := fun t k => castTop (ef_own_c23_and m u0 u1 u2) k
  obtain ⟨T1, X1, e1, st1⟩ := getS2 X0 hx hZ hown (host := "") (Or.inl (ww hw 12 rfl)) Via.refl e0 ((own_S_u1 G).ext O0.2) (g := (mkF m 1 #[vr u2, vr u0] [xr u2])) rfl (hb hby d4_1)
  obtain ⟨T2, X2, e2, st2⟩ := getS2 X1 hx hZ hown (host := "") (Or.inl (ww hw 12 rfl)) Via.refl e1 ((own_S_u1 G).ext O0.2) (g := (mkF m 8 #[vr u2, vr u0] [xr u0])) rfl (hb hby d4_8)
  obtain ⟨T3, X3, e3, st3⟩ := getS2 X2 hx hZ hown (host := "") (Or.inl (ww hw 19 rfl)) Via.refl e2 ((own_S_u2 G).ext O0.2) (g := (mkF m 19 #[vr u2, vr u0] [xr u2])) rfl (hb hby d4_19)
  obtain ⟨T4, X4, e4, st4⟩ := getS2 X3 hx hZ hown (host := "") (Or.inl (ww hw 19 rfl)) Via.refl e3 ((own_S_u2 G).ext O0.2) (g := (mkF m 32 #[vr u2, vr u0] [])) rfl (hb hby d4_32)
  obtain ⟨fs, hr, hrun, hended, hW, hsame⟩ := X4.leave (v := some (xr u2)) (fun h => by rw [Bd.returns] at h; cases h)
  refine ⟨_, _, pre0 _ ?_, hrun, hended, _, _, rfl, ?_, ⟨_, rfl⟩, hW, hsame.mono (by decide) (by decide)⟩
  · show own_S p e below s₁ (mkF m 0 #[vr u2, vr u0] []) _
    refine XS.aloadN X0.here hx rfl (hb hby d4_0) rfl rfl ?_
    show own_S p e below s₁ (mkF m 1 #[vr u2, vr u0] [xr u2]) _
    refine st1 _ ?_
    show own_S p e below T1 (mkF m 4 #[vr u2, vr u0] [xr u1, xr u2]) _
    refine Jvm.RoadKit.acmp (g := (mkF m 4 #[vr u2, vr u0] [xr u1, xr u2])) X1 hx rfl rfl rfl (pc0 := 4) (pc' := 7) (same := false) rfl (hb hby d4_4) rfl (own_ref (own_ne_u2_u1 G)) (by decide) (by decide) ?_
    show own_S p e below T1 (mkF m 7 #[vr u2, vr u0] []) _
    refine XS.aloadN X1.here hx rfl (hb hby d4_7) rfl rfl ?_
    show own_S p e below T1 (mkF m 8 #[vr u2, vr u0] [xr u0]) _
    refine st2 _ ?_
    show own_S p e below T2 (mkF m 11 #[vr u2, vr u0] [xr u1, xr u0]) _
    refine Jvm.RoadKit.acmp (g := (mkF m 11 #[vr u2, vr u0] [xr u1, xr u0])) X2 hx rfl rfl rfl (pc0 := 11) (pc' := 18) (same := false) rfl (hb hby d4_11) rfl (own_ref (own_ne_u0_u1 G)) (by decide) (by decide) ?_
    show own_S p e below T2 (mkF m 18 #[vr u2, vr u0] []) _
    refine XS.aloadN X2.here hx rfl (hb hby d4_18) rfl rfl ?_
    show own_S p e below T2 (mkF m 19 #[vr u2, vr u0] [xr u2]) _
    refine st3 _ ?_
    show own_S p e below T3 (mkF m 22 #[vr u2, vr u0] [xr u2, xr u2]) _
    refine Jvm.RoadKit.acmp (g := (mkF m 22 #[vr u2, vr u0] [xr u2, xr u2])) X3 hx rfl rfl rfl (pc0 := 22) (pc' := 32) (same := true) rfl (hb hby d4_22) rfl (decide_eq_true rfl) (by decide) (by decide) ?_
    show own_S p e below T3 (mkF m 32 #[vr u2, vr u0] []) _
    refine st4 _ ?_
    show own_S p e below T4 (mkF m 35 #[vr u2, vr u0] [xr u2]) _
    refine XS.goto X4.here hx rfl (pc0 := 35) (pc' := 41) rfl (hb hby d4_35) (by decide) (by decide) ?_
    show own_S p e below T4 (mkF m 41 #[vr u2, vr u0] [xr u2]) _
    exact X4.areturnOut hx rfl Bd.returns rfl (hb hby d4_41) hr
  · exact ⟨rfl, N0, e4⟩
theorem ef_own_c24_or (m : MethodId) (u0 u1 u2 : Addr) : entryFrame m #[xr u2, xr u1] 2 = (mkF m 0 #[vr u2, vr u1] []) := by first | (simp [entryFrame, mkF, argsToLocals, Value.category]; done) | rfl
set_option maxRecDepth 65536 in
set_option maxHeartbeats 40000000 in
theorem own_c24_or (l : Launch) (Z : State) (a0 : Array Value) (hw : ∀ d ∈ tables_1, d.before a0 Z = true) (u0 u1 u2 : Addr) (G : own_St Z u0 u1 u2) (h0 : Heap) (n0 : Nat) (O0 : Old Z n0 h0) : own_Met l Z Y4 prog_71_method_6_code 2 (some (.object "com/example/arbitrium/arbitrium/policy/Truth")) ({ frames := 0, cells := 0, slots := 0, locals := 0 } : Room) #[xr u2, xr u1] h0 (own_QR (some (xr u2)) h0 n0) := by
  intro ws
  refine MetFree.of_bodySF (plainFor_of_name pn1) hisR ?_
  intro p e s m args below meth c s₁ Bd hml0 hP hK
  obtain ⟨rfl, hZ, hh⟩ := hP
  have hx := Bd.exec
  have hby := Bd.bytes
  have hml : c.maxLocals = 2 := hml0
  have hown : s.vm.findClass "com/example/arbitrium/arbitrium/policy/Truth" = some m.cls := findClass_of_methodNamed Bd.named
  have hnm := (name_of_methodNamed Bd.named Bd.method).1
  have X0 : Stand p l e ({ frames := 0, cells := 0, slots := 0, locals := 0 } : Room) s m #[xr u2, xr u1] below meth c s₁ [] 0 0 := Stand.of_body Bd
  have e0 : s₁.heap = h0 := by rw [← hh, Bd.state]; rfl
  have N0 := Fr.nil n0
  have pre0 : ∀ t, Steps p.tables e below (s₁.setTop (mkF m 0 #[vr u2, vr u1] [])) t → Steps p.tables e below (s₁.setTop (entryFrame m #[xr u2, xr u1] 2)) t := fun t k => castTop (ef_own_c24_or m u0 u1 u2) k
  obtain ⟨T1, X1, e1, st1⟩ := getS2 X0 hx hZ hown (host := "") (Or.inl (ww hw 11 rfl)) Via.refl e0 ((own_S_u0 G).ext O0.2) (g := (mkF m 1 #[vr u2, vr u1] [xr u2])) rfl (hb hby d5_1)
  obtain ⟨T2, X2, e2, st2⟩ := getS2 X1 hx hZ hown (host := "") (Or.inl (ww hw 11 rfl)) Via.refl e1 ((own_S_u0 G).ext O0.2) (g := (mkF m 8 #[vr u2, vr u1] [xr u1])) rfl (hb hby d5_8)
  obtain ⟨T3, X3, e3, st3⟩ := getS2 X2 hx hZ hown (host := "") (Or.inl (ww hw 19 rfl)) Via.refl e2 ((own_S_u2 G).ext O0.2) (g := (mkF m 19 #[vr u2, vr u1] [xr u2])) rfl (hb hby d5_19)
  obtain ⟨T4, X4, e4, st4⟩ := getS2 X3 hx hZ hown (host := "") (Or.inl (ww hw 19 rfl)) Via.refl e3 ((own_S_u2 G).ext O0.2) (g := (mkF m 32 #[vr u2, vr u1] [])) rfl (hb hby d5_32)
  obtain ⟨fs, hr, hrun, hended, hW, hsame⟩ := X4.leave (v := some (xr u2)) (fun h => by rw [Bd.returns] at h; cases h)
  refine ⟨_, _, pre0 _ ?_, hrun, hended, _, _, rfl, ?_, ⟨_, rfl⟩, hW, hsame.mono (by decide) (by decide)⟩
  · show own_S p e below s₁ (mkF m 0 #[vr u2, vr u1] []) _
    refine XS.aloadN X0.here hx rfl (hb hby d5_0) rfl rfl ?_
    show own_S p e below s₁ (mkF m 1 #[vr u2, vr u1] [xr u2]) _
    refine st1 _ ?_
    show own_S p e below T1 (mkF m 4 #[vr u2, vr u1] [xr u0, xr u2]) _
    refine Jvm.RoadKit.acmp (g := (mkF m 4 #[vr u2, vr u1] [xr u0, xr u2])) X1 hx rfl rfl rfl (pc0 := 4) (pc' := 7) (same := false) rfl (hb hby d5_4) rfl (own_ref (own_ne_u2_u0 G)) (by decide) (by decide) ?_
    show own_S p e below T1 (mkF m 7 #[vr u2, vr u1] []) _
    refine XS.aloadN X1.here hx rfl (hb hby d5_7) rfl rfl ?_
    show own_S p e below T1 (mkF m 8 #[vr u2, vr u1] [xr u1]) _
    refine st2 _ ?_
    show own_S p e below T2 (mkF m 11 #[vr u2, vr u1] [xr u0, xr u1]) _
    refine Jvm.RoadKit.acmp (g := (mkF m 11 #[vr u2, vr u1] [xr u0, xr u1])) X2 hx rfl rfl rfl (pc0 := 11) (pc' := 18) (same := false) rfl (hb hby d5_11) rfl (own_ref (own_ne_u1_u0 G)) (by decide) (by decide) ?_
    show own_S p e below T2 (mkF m 18 #[vr u2, vr u1] []) _
    refine XS.aloadN X2.here hx rfl (hb hby d5_18) rfl rfl ?_
    show own_S p e below T2 (mkF m 19 #[vr u2, vr u1] [xr u2]) _
    refine st3 _ ?_
    show own_S p e below T3 (mkF m 22 #[vr u2, vr u1] [xr u2, xr u2]) _
    refine Jvm.RoadKit.acmp (g := (mkF m 22 #[vr u2, vr u1] [xr u2, xr u2])) X3 hx rfl rfl rfl (pc0 := 22) (pc' := 32) (same := true) rfl (hb hby d5_22) rfl (decide_eq_true rfl) (by decide) (by decide) ?_
    show own_S p e below T3 (mkF m 32 #[vr u2, vr u1] []) _
    refine st4 _ ?_
    show own_S p e below T4 (mkF m 35 #[vr u2, vr u1] [xr u2]) _
    refine XS.goto X4.here hx rfl (pc0 := 35) (pc' := 41) rfl (hb hby d5_35) (by decide) (by decide) ?_
    show own_S p e below T4 (mkF m 41 #[vr u2, vr u1] [xr u2]) _
    exact X4.areturnOut hx rfl Bd.returns rfl (hb hby d5_41) hr
  · exact ⟨rfl, N0, e4⟩
theorem ef_own_l12 (m : MethodId) (u0 u1 u2 : Addr) (p1 : Int32) (p2 : Int32) (p3 : Int32) : entryFrame m #[xi p1, xi p2, xi p3] maxLocals = (mkF m 0 #[vi p1, vi p2, vi p3, vu, vu, vu, vu, vu, vu] []) := by first | (simp [entryFrame, mkF, argsToLocals, Value.category, maxLocals]; done) | rfl
set_option maxRecDepth 65536 in
set_option maxHeartbeats 40000000 in
theorem own_l12 (l : Launch) (Z : State) (a0 : Array Value) (hw : ∀ d ∈ tables_1, d.before a0 Z = true) (u0 u1 u2 : Addr) (G : own_St Z u0 u1 u2) (p1 : Int32) (p2 : Int32) (p3 : Int32) (as6 : (p3 &&& (1 : Int32)) = (0 : Int32)) (as2 : ((p1 &&& (2147483647 : Int32)) - ((p1 &&& (2147483647 : Int32)) / (3 : Int32)) * (3 : Int32)) = (2 : Int32)) (as3 : ((p2 &&& (2147483647 : Int32)) - ((p2 &&& (2147483647 : Int32)) / (3 : Int32)) * (3 : Int32)) = (0 : Int32)) (h0 : Heap) (n0 : Nat) (O0 : Old Z n0 h0) : own_Met l Z x code maxLocals ret room_1 #[xi p1, xi p2, xi p3] h0 (own_QL (some (xi (1 : Int32))) n0) := by
  intro ws
  refine MetFree.of_bodySF (plainFor_of_name pn0) hisR ?_
  intro p e s m args below meth c s₁ Bd hml0 hP hK
  obtain ⟨rfl, hZ, hh⟩ := hP
  have hx := Bd.exec
  have hby := Bd.bytes
  have hml : c.maxLocals = 9 := hml0
  have hown : s.vm.findClass "com/example/arbitrium/arbitrium/policy/TruthNotPinLaw" = some m.cls := findClass_of_methodNamed Bd.named
  have hnm := (name_of_methodNamed Bd.named Bd.method).1
  have X0 : Stand p l e room_1 s m #[xi p1, xi p2, xi p3] below meth c s₁ [] 0 0 := Stand.of_body Bd
  have e0 : s₁.heap = h0 := by rw [← hh, Bd.state]; rfl
  have N0 := Fr.nil n0
  have pre0 : ∀ t, Steps p.tables e below (s₁.setTop (mkF m 0 #[vi p1, vi p2, vi p3, vu, vu, vu, vu, vu, vu] [])) t → Steps p.tables e below (s₁.setTop (entryFrame m #[xi p1, xi p2, xi p3] maxLocals)) t := fun t k => castTop (ef_own_l12 m u0 u1 u2 p1 p2 p3) k
  obtain ⟨_, _, ⟨T1, L1, k1, n1⟩, -, X1, ⟨Lc1, hQ1, l1, y1, z1⟩, st1⟩ := Jvm.LawKit.callS X0 hx (y := Y0) hown (mvT hZ (ww hw 0 rfl)) (mvT hZ (ww hw 1 rfl)) (mvT hZ (ww hw 2 rfl)) (mvT hZ (ww hw 3 rfl)) (by decide) (backOf (W := 0) (own_c22_pick l Z a0 hw u0 u1 u2 G p1 as2 h0 n0 O0 []) hZ (ww hw 3 rfl) (ww hw 2 rfl) (by decide) (by decide)) (g := (mkF m 13 #[vi p1, vi p2, vi p3, vi (0 : Int32), vu, vu, vu, vu, vu] [xi p1])) rfl (by rw [hml]; rfl) (argsL := [xi p1]) (rest := []) (lenOf pd0 rfl) rfl (by show 2 * 0 + _ ≤ _; exact Nat.le_of_eq rfl) (hb hby at_13) (fun _ _ => ⟨rfl, e0, (by decide : 0 + 0 ≤ _), (by decide : 0 + 0 ≤ _)⟩)
  dsimp only [Pt.U, Pt.locs, Pt.cells, Pt.slots] at X1 l1 y1 z1 st1 hQ1
  subst l1 y1 z1
  obtain ⟨rfl, Nq1, e1⟩ := hQ1
  have N1 := Fr.app N0 Nq1
  obtain ⟨_, _, ⟨T2, L2, k2, n2⟩, -, X2, ⟨Lc2, hQ2, l2, y2, z2⟩, st2⟩ := Jvm.LawKit.callS X1 hx (y := Y0) hown (mvT hZ (ww hw 0 rfl)) (mvT hZ (ww hw 1 rfl)) (mvT hZ (ww hw 2 rfl)) (mvT hZ (ww hw 3 rfl)) (by decide) (backOf (W := 0) (own_c1_pick l Z a0 hw u0 u1 u2 G p2 as3 h0 n0 O0 []) hZ (ww hw 3 rfl) (ww hw 2 rfl) (by decide) (by decide)) (g := (mkF m 19 #[vi p1, vi p2, vi p3, vi (0 : Int32), vr u2, vu, vu, vu, vu] [xi p2])) rfl (by rw [hml]; rfl) (argsL := [xi p2]) (rest := []) (lenOf pd0 rfl) rfl (by show 2 * 0 + _ ≤ _; exact Nat.le_of_eq rfl) (hb hby at_19) (fun _ _ => ⟨rfl, e1, (by decide : 0 + 0 ≤ _), (by decide : 0 + 0 ≤ _)⟩)
  dsimp only [Pt.U, Pt.locs, Pt.cells, Pt.slots] at X2 l2 y2 z2 st2 hQ2
  subst l2 y2 z2
  obtain ⟨rfl, Nq2, e2⟩ := hQ2
  have N2 := Fr.app N1 Nq2
  obtain ⟨_, _, ⟨T3, L3, k3, n3⟩, -, X3, ⟨Lc3, hQ3, l3, y3, z3⟩, st3⟩ := Jvm.LawKit.callS X2 hx (y := Y1) hown (mvT hZ (ww hw 8 rfl)) (mvT hZ (ww hw 9 rfl)) (mvT hZ (ww hw 6 rfl)) (mvT hZ (ww hw 10 rfl)) (by decide) (backOf (W := 0) (own_c2_of l Z a0 hw u0 u1 u2 G h0 n0 O0 []) hZ (ww hw 10 rfl) (ww hw 6 rfl) (by decide) (by decide)) (g := (mkF m 33 #[vi p1, vi p2, vi p3, vi (0 : Int32), vr u2, vr u0, vu, vu, vu] [xi (1 : Int32)])) rfl (by rw [hml]; rfl) (argsL := [xi (1 : Int32)]) (rest := []) (lenOf pd1 rfl) rfl (by show 2 * 0 + _ ≤ _; exact Nat.le_of_eq rfl) (hb hby at_33) (fun _ _ => ⟨rfl, e2, (by decide : 0 + 0 ≤ _), (by decide : 0 + 0 ≤ _)⟩)
  dsimp only [Pt.U, Pt.locs, Pt.cells, Pt.slots] at X3 l3 y3 z3 st3 hQ3
  subst l3 y3 z3
  obtain ⟨rfl, Nq3, e3⟩ := hQ3
  have N3 := Fr.app N2 Nq3
  obtain ⟨_, _, ⟨T4, L4, k4, n4⟩, -, X4, ⟨Lc4, hQ4, l4, y4, z4⟩, st4⟩ := Jvm.LawKit.callS X3 hx (y := Y1) hown (mvT hZ (ww hw 8 rfl)) (mvT hZ (ww hw 9 rfl)) (mvT hZ (ww hw 6 rfl)) (mvT hZ (ww hw 10 rfl)) (by decide) (backOf (W := 1) (own_c3_of l Z a0 hw u0 u1 u2 G h0 n0 O0 []) hZ (ww hw 10 rfl) (ww hw 6 rfl) (by decide) (by decide)) (g := (mkF m 37 #[vi p1, vi p2, vi p3, vi (0 : Int32), vr u2, vr u0, vu, vu, vu] [xi (0 : Int32), xr u0])) rfl (by rw [hml]; rfl) (argsL := [xi (0 : Int32)]) (rest := [xr u0]) (lenOf pd1 rfl) rfl (by show 2 * 0 + _ ≤ _; exact Nat.le_of_eq rfl) (hb hby at_37) (fun _ _ => ⟨rfl, e3, (by decide : 0 + 0 ≤ _), (by decide : 0 + 0 ≤ _)⟩)
  dsimp only [Pt.U, Pt.locs, Pt.cells, Pt.slots] at X4 l4 y4 z4 st4 hQ4
  subst l4 y4 z4
  obtain ⟨rfl, Nq4, e4⟩ := hQ4
  have N4 := Fr.app N3 Nq4
  obtain ⟨cq5, kq5, qa5, qb5, qc5⟩ := isOf hZ e4 ((own_X_u1 G).ext O0.2)
  obtain ⟨_, _, ⟨T5, L5, k5, n5⟩, -, X5, ⟨Lc5, hQ5, l5, y5, z5⟩, st5⟩ := X4.virtualBack hx (y := Y2) (z := Y2) hown (mvT hZ (ww hw 14 rfl)) (mvT hZ (ww hw 15 rfl)) (notFace_of_selects (args := #[]) (mvT hZ (ww hw 17 rfl))) (mvT hZ (ww hw 17 rfl)) (mvT hZ (ww hw 16 rfl)) (by decide) (backOf (W := 1) (own_c4_not l Z a0 hw u0 u1 u2 G h0 n0 O0 []) hZ (ww hw 18 rfl) (ww hw 6 rfl) (by decide) (by decide)) qa5 qc5 (g := (mkF m 40 #[vi p1, vi p2, vi p3, vi (0 : Int32), vr u2, vr u0, vu, vu, vu] [xr u1, xr u0])) rfl (by rw [hml]; rfl) (Steps.refl _) (argsL := []) (rest := [xr u0]) (lenOf pd2 rfl) rfl (by show 2 * 0 + _ ≤ _; exact Nat.le_of_eq rfl) (hb hby at_40) (fun _ _ => ⟨rfl, e4, (by decide : 0 + 0 ≤ _), (by decide : 0 + 0 ≤ _)⟩)
  dsimp only [Pt.U, Pt.locs, Pt.cells, Pt.slots] at X5 l5 y5 z5 st5 hQ5
  subst l5 y5 z5
  obtain ⟨rfl, Nq5, e5⟩ := hQ5
  have N5 := Fr.app N4 Nq5
  obtain ⟨cq6, kq6, qa6, qb6, qc6⟩ := isOf hZ e5 ((own_X_u2 G).ext O0.2)
  obtain ⟨_, _, ⟨T6, L6, k6, n6⟩, -, X6, ⟨Lc6, hQ6, l6, y6, z6⟩, st6⟩ := X5.virtualBack hx (y := Y2) (z := Y2) hown (mvT hZ (ww hw 14 rfl)) (mvT hZ (ww hw 15 rfl)) (notFace_of_selects (args := #[]) (mvT hZ (ww hw 17 rfl))) (mvT hZ (ww hw 17 rfl)) (mvT hZ (ww hw 16 rfl)) (by decide) (backOf (W := 0) (own_c13_not l Z a0 hw u0 u1 u2 G h0 n0 O0 []) hZ (ww hw 18 rfl) (ww hw 6 rfl) (by decide) (by decide)) qa6 qc6 (g := (mkF m 55 #[vi p1, vi p2, vi p3, vi (0 : Int32), vr u2, vr u0, vi (1 : Int32), vu, vu] [xr u2])) rfl (by rw [hml]; rfl) (Steps.refl _) (argsL := []) (rest := []) (lenOf pd2 rfl) rfl (by show 2 * 0 + _ ≤ _; exact Nat.le_of_eq rfl) (hb hby at_55) (fun _ _ => ⟨rfl, e5, (by decide : 0 + 0 ≤ _), (by decide : 0 + 0 ≤ _)⟩)
  dsimp only [Pt.U, Pt.locs, Pt.cells, Pt.slots] at X6 l6 y6 z6 st6 hQ6
  subst l6 y6 z6
  obtain ⟨rfl, Nq6, e6⟩ := hQ6
  have N6 := Fr.app N5 Nq6
  obtain ⟨cq7, kq7, qa7, qb7, qc7⟩ := isOf hZ e6 ((own_X_u2 G).ext O0.2)
  obtain ⟨_, _, ⟨T7, L7, k7, n7⟩, -, X7, ⟨Lc7, hQ7, l7, y7, z7⟩, st7⟩ := X6.virtualBack hx (y := Y2) (z := Y2) hown (mvT hZ (ww hw 14 rfl)) (mvT hZ (ww hw 15 rfl)) (notFace_of_selects (args := #[]) (mvT hZ (ww hw 17 rfl))) (mvT hZ (ww hw 17 rfl)) (mvT hZ (ww hw 16 rfl)) (by decide) (backOf (W := 0) (own_c13_not l Z a0 hw u0 u1 u2 G h0 n0 O0 []) hZ (ww hw 18 rfl) (ww hw 6 rfl) (by decide) (by decide)) qa7 qc7 (g := (mkF m 58 #[vi p1, vi p2, vi p3, vi (0 : Int32), vr u2, vr u0, vi (1 : Int32), vu, vu] [xr u2])) rfl (by rw [hml]; rfl) (Steps.refl _) (argsL := []) (rest := []) (lenOf pd2 rfl) rfl (by show 2 * 0 + _ ≤ _; exact Nat.le_of_eq rfl) (hb hby at_58) (fun _ _ => ⟨rfl, e6, (by decide : 0 + 0 ≤ _), (by decide : 0 + 0 ≤ _)⟩)
  dsimp only [Pt.U, Pt.locs, Pt.cells, Pt.slots] at X7 l7 y7 z7 st7 hQ7
  subst l7 y7 z7
  obtain ⟨rfl, Nq7, e7⟩ := hQ7
  have N7 := Fr.app N6 Nq7
  obtain ⟨cq8, kq8, qa8, qb8, qc8⟩ := isOf hZ e7 ((own_X_u2 G).ext O0.2)
  obtain ⟨_, _, ⟨T8, L8, k8, n8⟩, -, X8, ⟨Lc8, hQ8, l8, y8, z8⟩, st8⟩ := X7.virtualBack hx (y := Y3) (z := Y3) hown (mvT hZ (ww hw 21 rfl)) (mvT hZ (ww hw 22 rfl)) (notFace_of_selects (args := #[]) (mvT hZ (ww hw 24 rfl))) (mvT hZ (ww hw 24 rfl)) (mvT hZ (ww hw 23 rfl)) (by decide) (backOf (W := 0) (own_c23_and l Z a0 hw u0 u1 u2 G h0 n0 O0 []) hZ (ww hw 25 rfl) (ww hw 6 rfl) (by decide) (by decide)) qa8 qc8 (g := (mkF m 77 #[vi p1, vi p2, vi p3, vi (0 : Int32), vr u2, vr u0, vi (1 : Int32), vi (1 : Int32), vu] [xr u0, xr u2])) rfl (by rw [hml]; rfl) (Steps.refl _) (argsL := [xr u0]) (rest := []) (lenOf pd3 rfl) rfl (by show 2 * 0 + _ ≤ _; exact Nat.le_of_eq rfl) (hb hby at_77) (fun _ _ => ⟨rfl, e7, (by decide : 0 + 0 ≤ _), (by decide : 0 + 0 ≤ _)⟩)
  dsimp only [Pt.U, Pt.locs, Pt.cells, Pt.slots] at X8 l8 y8 z8 st8 hQ8
  subst l8 y8 z8
  obtain ⟨rfl, Nq8, e8⟩ := hQ8
  have N8 := Fr.app N7 Nq8
  obtain ⟨cq9, kq9, qa9, qb9, qc9⟩ := isOf hZ e8 ((own_X_u2 G).ext O0.2)
  obtain ⟨_, _, ⟨T9, L9, k9, n9⟩, -, X9, ⟨Lc9, hQ9, l9, y9, z9⟩, st9⟩ := X8.virtualBack hx (y := Y2) (z := Y2) hown (mvT hZ (ww hw 14 rfl)) (mvT hZ (ww hw 15 rfl)) (notFace_of_selects (args := #[]) (mvT hZ (ww hw 17 rfl))) (mvT hZ (ww hw 17 rfl)) (mvT hZ (ww hw 16 rfl)) (by decide) (backOf (W := 0) (own_c13_not l Z a0 hw u0 u1 u2 G h0 n0 O0 []) hZ (ww hw 18 rfl) (ww hw 6 rfl) (by decide) (by decide)) qa9 qc9 (g := (mkF m 80 #[vi p1, vi p2, vi p3, vi (0 : Int32), vr u2, vr u0, vi (1 : Int32), vi (1 : Int32), vu] [xr u2])) rfl (by rw [hml]; rfl) (Steps.refl _) (argsL := []) (rest := []) (lenOf pd2 rfl) rfl (by show 2 * 0 + _ ≤ _; exact Nat.le_of_eq rfl) (hb hby at_80) (fun _ _ => ⟨rfl, e8, (by decide : 0 + 0 ≤ _), (by decide : 0 + 0 ≤ _)⟩)
  dsimp only [Pt.U, Pt.locs, Pt.cells, Pt.slots] at X9 l9 y9 z9 st9 hQ9
  subst l9 y9 z9
  obtain ⟨rfl, Nq9, e9⟩ := hQ9
  have N9 := Fr.app N8 Nq9
  obtain ⟨cq10, kq10, qa10, qb10, qc10⟩ := isOf hZ e9 ((own_X_u2 G).ext O0.2)
  obtain ⟨_, _, ⟨T10, L10, k10, n10⟩, -, X10, ⟨Lc10, hQ10, l10, y10, z10⟩, st10⟩ := X9.virtualBack hx (y := Y2) (z := Y2) hown (mvT hZ (ww hw 14 rfl)) (mvT hZ (ww hw 15 rfl)) (notFace_of_selects (args := #[]) (mvT hZ (ww hw 17 rfl))) (mvT hZ (ww hw 17 rfl)) (mvT hZ (ww hw 16 rfl)) (by decide) (backOf (W := 1) (own_c13_not l Z a0 hw u0 u1 u2 G h0 n0 O0 []) hZ (ww hw 18 rfl) (ww hw 6 rfl) (by decide) (by decide)) qa10 qc10 (g := (mkF m 85 #[vi p1, vi p2, vi p3, vi (0 : Int32), vr u2, vr u0, vi (1 : Int32), vi (1 : Int32), vu] [xr u2, xr u2])) rfl (by rw [hml]; rfl) (Steps.refl _) (argsL := []) (rest := [xr u2]) (lenOf pd2 rfl) rfl (by show 2 * 0 + _ ≤ _; exact Nat.le_of_eq rfl) (hb hby at_85) (fun _ _ => ⟨rfl, e9, (by decide : 0 + 0 ≤ _), (by decide : 0 + 0 ≤ _)⟩)
  dsimp only [Pt.U, Pt.locs, Pt.cells, Pt.slots] at X10 l10 y10 z10 st10 hQ10
  subst l10 y10 z10
  obtain ⟨rfl, Nq10, e10⟩ := hQ10
  have N10 := Fr.app N9 Nq10
  obtain ⟨cq11, kq11, qa11, qb11, qc11⟩ := isOf hZ e10 ((own_X_u0 G).ext O0.2)
  obtain ⟨_, _, ⟨T11, L11, k11, n11⟩, -, X11, ⟨Lc11, hQ11, l11, y11, z11⟩, st11⟩ := X10.virtualBack hx (y := Y2) (z := Y2) hown (mvT hZ (ww hw 14 rfl)) (mvT hZ (ww hw 15 rfl)) (notFace_of_selects (args := #[]) (mvT hZ (ww hw 17 rfl))) (mvT hZ (ww hw 17 rfl)) (mvT hZ (ww hw 16 rfl)) (by decide) (backOf (W := 2) (own_c5_not l Z a0 hw u0 u1 u2 G h0 n0 O0 []) hZ (ww hw 18 rfl) (ww hw 6 rfl) (by decide) (by decide)) qa11 qc11 (g := (mkF m 90 #[vi p1, vi p2, vi p3, vi (0 : Int32), vr u2, vr u0, vi (1 : Int32), vi (1 : Int32), vu] [xr u0, xr u2, xr u2])) rfl (by rw [hml]; rfl) (Steps.refl _) (argsL := []) (rest := [xr u2, xr u2]) (lenOf pd2 rfl) rfl (by show 2 * 0 + _ ≤ _; exact Nat.le_of_eq rfl) (hb hby at_90) (fun _ _ => ⟨rfl, e10, (by decide : 0 + 0 ≤ _), (by decide : 0 + 0 ≤ _)⟩)
  dsimp only [Pt.U, Pt.locs, Pt.cells, Pt.slots] at X11 l11 y11 z11 st11 hQ11
  subst l11 y11 z11
  obtain ⟨rfl, Nq11, e11⟩ := hQ11
  have N11 := Fr.app N10 Nq11
  obtain ⟨cq12, kq12, qa12, qb12, qc12⟩ := isOf hZ e11 ((own_X_u2 G).ext O0.2)
  obtain ⟨_, _, ⟨T12, L12, k12, n12⟩, -, X12, ⟨Lc12, hQ12, l12, y12, z12⟩, st12⟩ := X11.virtualBack hx (y := Y4) (z := Y4) hown (mvT hZ (ww hw 26 rfl)) (mvT hZ (ww hw 27 rfl)) (notFace_of_selects (args := #[]) (mvT hZ (ww hw 29 rfl))) (mvT hZ (ww hw 29 rfl)) (mvT hZ (ww hw 28 rfl)) (by decide) (backOf (W := 1) (own_c24_or l Z a0 hw u0 u1 u2 G h0 n0 O0 []) hZ (ww hw 30 rfl) (ww hw 6 rfl) (by decide) (by decide)) qa12 qc12 (g := (mkF m 93 #[vi p1, vi p2, vi p3, vi (0 : Int32), vr u2, vr u0, vi (1 : Int32), vi (1 : Int32), vu] [xr u1, xr u2, xr u2])) rfl (by rw [hml]; rfl) (Steps.refl _) (argsL := [xr u1]) (rest := [xr u2]) (lenOf pd3 rfl) rfl (by show 2 * 0 + _ ≤ _; exact Nat.le_of_eq rfl) (hb hby at_93) (fun _ _ => ⟨rfl, e11, (by decide : 0 + 0 ≤ _), (by decide : 0 + 0 ≤ _)⟩)
  dsimp only [Pt.U, Pt.locs, Pt.cells, Pt.slots] at X12 l12 y12 z12 st12 hQ12
  subst l12 y12 z12
  obtain ⟨rfl, Nq12, e12⟩ := hQ12
  have N12 := Fr.app N11 Nq12
  obtain ⟨fs, hr, hrun, hended, hW, hsame⟩ := X12.leave (v := some (xi (1 : Int32))) (fun h => by rw [Bd.returns] at h; cases h)
  refine ⟨_, _, pre0 _ ?_, hrun, hended, _, _, rfl, ?_, ⟨_, rfl⟩, hW, hsame.mono (by decide) (by decide)⟩
  · show own_S p e below s₁ (mkF m 0 #[vi p1, vi p2, vi p3, vu, vu, vu, vu, vu, vu] []) _
    refine XS.iloadN X0.here hx rfl (hb hby at_0) rfl ?_
    show own_S p e below s₁ (mkF m 1 #[vi p1, vi p2, vi p3, vu, vu, vu, vu, vu, vu] [xi p3]) _
    refine XS.iconst X0.here hx rfl (hb hby at_1) ?_
    show own_S p e below s₁ (mkF m 2 #[vi p1, vi p2, vi p3, vu, vu, vu, vu, vu, vu] [xi (1 : Int32), xi p3]) _
    refine XS.iand X0.here hx rfl (hb hby at_2) rfl ?_
    show own_S p e below s₁ (mkF m 3 #[vi p1, vi p2, vi p3, vu, vu, vu, vu, vu, vu] [xi (p3 &&& (1 : Int32))]) _
    refine castTop (show (mkF m 3 #[vi p1, vi p2, vi p3, vu, vu, vu, vu, vu, vu] [xi (p3 &&& (1 : Int32))]) = (mkF m 3 #[vi p1, vi p2, vi p3, vu, vu, vu, vu, vu, vu] [xi (0 : Int32)]) from by rw [as6]) ?_
    show own_S p e below s₁ (mkF m 3 #[vi p1, vi p2, vi p3, vu, vu, vu, vu, vu, vu] [xi (0 : Int32)]) _
    refine XS.ifYes X0.here hx rfl (pc0 := 3) (pc' := 10) rfl (hb hby at_3) rfl (by decide) (by decide) (by decide) ?_
    show own_S p e below s₁ (mkF m 10 #[vi p1, vi p2, vi p3, vu, vu, vu, vu, vu, vu] []) _
    refine XS.iconst X0.here hx rfl (hb hby at_10) ?_
    show own_S p e below s₁ (mkF m 11 #[vi p1, vi p2, vi p3, vu, vu, vu, vu, vu, vu] [xi (0 : Int32)]) _
    refine XS.istoreN X0.here hx rfl (hb hby at_11) rfl (l' := #[vi p1, vi p2, vi p3, vi (0 : Int32), vu, vu, vu, vu, vu]) rfl ?_
    show own_S p e below s₁ (mkF m 12 #[vi p1, vi p2, vi p3, vi (0 : Int32), vu, vu, vu, vu, vu] []) _
    refine XS.iloadN X0.here hx rfl (hb hby at_12) rfl ?_
    show own_S p e below s₁ (mkF m 13 #[vi p1, vi p2, vi p3, vi (0 : Int32), vu, vu, vu, vu, vu] [xi p1]) _
    refine st1 _ ?_
    show own_S p e below T1 (mkF m 16 #[vi p1, vi p2, vi p3, vi (0 : Int32), vu, vu, vu, vu, vu] [xr u2]) _
    refine XS.astore X1.here hx rfl (hb hby at_16) rfl rfl (l' := #[vi p1, vi p2, vi p3, vi (0 : Int32), vr u2, vu, vu, vu, vu]) rfl ?_
    show own_S p e below T1 (mkF m 18 #[vi p1, vi p2, vi p3, vi (0 : Int32), vr u2, vu, vu, vu, vu] []) _
    refine XS.iloadN X1.here hx rfl (hb hby at_18) rfl ?_
    show own_S p e below T1 (mkF m 19 #[vi p1, vi p2, vi p3, vi (0 : Int32), vr u2, vu, vu, vu, vu] [xi p2]) _
    refine st2 _ ?_
    show own_S p e below T2 (mkF m 22 #[vi p1, vi p2, vi p3, vi (0 : Int32), vr u2, vu, vu, vu, vu] [xr u0]) _
    refine XS.astore X2.here hx rfl (hb hby at_22) rfl rfl (l' := #[vi p1, vi p2, vi p3, vi (0 : Int32), vr u2, vr u0, vu, vu, vu]) rfl ?_
    show own_S p e below T2 (mkF m 24 #[vi p1, vi p2, vi p3, vi (0 : Int32), vr u2, vr u0, vu, vu, vu] []) _
    refine XS.iloadN X2.here hx rfl (hb hby at_24) rfl ?_
    show own_S p e below T2 (mkF m 25 #[vi p1, vi p2, vi p3, vi (0 : Int32), vr u2, vr u0, vu, vu, vu] [xi (0 : Int32)]) _
    refine XS.ifNo X2.here hx rfl (hb hby at_25) rfl (by decide) ?_
    show own_S p e below T2 (mkF m 28 #[vi p1, vi p2, vi p3, vi (0 : Int32), vr u2, vr u0, vu, vu, vu] []) _
    refine XS.iconst X2.here hx rfl (hb hby at_28) ?_
    show own_S p e below T2 (mkF m 29 #[vi p1, vi p2, vi p3, vi (0 : Int32), vr u2, vr u0, vu, vu, vu] [xi (1 : Int32)]) _
    refine XS.goto X2.here hx rfl (pc0 := 29) (pc' := 33) rfl (hb hby at_29) (by decide) (by decide) ?_
    show own_S p e below T2 (mkF m 33 #[vi p1, vi p2, vi p3, vi (0 : Int32), vr u2, vr u0, vu, vu, vu] [xi (1 : Int32)]) _
    refine st3 _ ?_
    show own_S p e below T3 (mkF m 36 #[vi p1, vi p2, vi p3, vi (0 : Int32), vr u2, vr u0, vu, vu, vu] [xr u0]) _
    refine XS.iloadN X3.here hx rfl (hb hby at_36) rfl ?_
    show own_S p e below T3 (mkF m 37 #[vi p1, vi p2, vi p3, vi (0 : Int32), vr u2, vr u0, vu, vu, vu] [xi (0 : Int32), xr u0]) _
    refine st4 _ ?_
    show own_S p e below T4 (mkF m 40 #[vi p1, vi p2, vi p3, vi (0 : Int32), vr u2, vr u0, vu, vu, vu] [xr u1, xr u0]) _
    refine st5.trans ?_
    show own_S p e below T5 (mkF m 43 #[vi p1, vi p2, vi p3, vi (0 : Int32), vr u2, vr u0, vu, vu, vu] [xr u0, xr u0]) _
    refine Jvm.RoadKit.acmp (g := (mkF m 43 #[vi p1, vi p2, vi p3, vi (0 : Int32), vr u2, vr u0, vu, vu, vu] [xr u0, xr u0])) X5 hx rfl rfl rfl (pc0 := 43) (pc' := 46) (same := true) rfl (hb hby at_43) rfl (decide_eq_true rfl) (by decide) (by decide) ?_
    show own_S p e below T5 (mkF m 46 #[vi p1, vi p2, vi p3, vi (0 : Int32), vr u2, vr u0, vu, vu, vu] []) _
    refine XS.iconst X5.here hx rfl (hb hby at_46) ?_
    show own_S p e below T5 (mkF m 47 #[vi p1, vi p2, vi p3, vi (0 : Int32), vr u2, vr u0, vu, vu, vu] [xi (1 : Int32)]) _
    refine XS.goto X5.here hx rfl (pc0 := 47) (pc' := 51) rfl (hb hby at_47) (by decide) (by decide) ?_
    show own_S p e below T5 (mkF m 51 #[vi p1, vi p2, vi p3, vi (0 : Int32), vr u2, vr u0, vu, vu, vu] [xi (1 : Int32)]) _
    refine XS.istore X5.here hx rfl (hb hby at_51) rfl (l' := #[vi p1, vi p2, vi p3, vi (0 : Int32), vr u2, vr u0, vi (1 : Int32), vu, vu]) rfl ?_
    show own_S p e below T5 (mkF m 53 #[vi p1, vi p2, vi p3, vi (0 : Int32), vr u2, vr u0, vi (1 : Int32), vu, vu] []) _
    refine XS.aload X5.here hx rfl (hb hby at_53) rfl rfl ?_
    show own_S p e below T5 (mkF m 55 #[vi p1, vi p2, vi p3, vi (0 : Int32), vr u2, vr u0, vi (1 : Int32), vu, vu] [xr u2]) _
    refine st6.trans ?_
    show own_S p e below T6 (mkF m 58 #[vi p1, vi p2, vi p3, vi (0 : Int32), vr u2, vr u0, vi (1 : Int32), vu, vu] [xr u2]) _
    refine st7.trans ?_
    show own_S p e below T7 (mkF m 61 #[vi p1, vi p2, vi p3, vi (0 : Int32), vr u2, vr u0, vi (1 : Int32), vu, vu] [xr u2]) _
    refine XS.aload X7.here hx rfl (hb hby at_61) rfl rfl ?_
    show own_S p e below T7 (mkF m 63 #[vi p1, vi p2, vi p3, vi (0 : Int32), vr u2, vr u0, vi (1 : Int32), vu, vu] [xr u2, xr u2]) _
    refine Jvm.RoadKit.acmp (g := (mkF m 63 #[vi p1, vi p2, vi p3, vi (0 : Int32), vr u2, vr u0, vi (1 : Int32), vu, vu] [xr u2, xr u2])) X7 hx rfl rfl rfl (pc0 := 63) (pc' := 66) (same := true) rfl (hb hby at_63) rfl (decide_eq_true rfl) (by decide) (by decide) ?_
    show own_S p e below T7 (mkF m 66 #[vi p1, vi p2, vi p3, vi (0 : Int32), vr u2, vr u0, vi (1 : Int32), vu, vu] []) _
    refine XS.iconst X7.here hx rfl (hb hby at_66) ?_
    show own_S p e below T7 (mkF m 67 #[vi p1, vi p2, vi p3, vi (0 : Int32), vr u2, vr u0, vi (1 : Int32), vu, vu] [xi (1 : Int32)]) _
    refine XS.goto X7.here hx rfl (pc0 := 67) (pc' := 71) rfl (hb hby at_67) (by decide) (by decide) ?_
    show own_S p e below T7 (mkF m 71 #[vi p1, vi p2, vi p3, vi (0 : Int32), vr u2, vr u0, vi (1 : Int32), vu, vu] [xi (1 : Int32)]) _
    refine XS.istore X7.here hx rfl (hb hby at_71) rfl (l' := #[vi p1, vi p2, vi p3, vi (0 : Int32), vr u2, vr u0, vi (1 : Int32), vi (1 : Int32), vu]) rfl ?_
    show own_S p e below T7 (mkF m 73 #[vi p1, vi p2, vi p3, vi (0 : Int32), vr u2, vr u0, vi (1 : Int32), vi (1 : Int32), vu] []) _
    refine XS.aload X7.here hx rfl (hb hby at_73) rfl rfl ?_
    show own_S p e below T7 (mkF m 75 #[vi p1, vi p2, vi p3, vi (0 : Int32), vr u2, vr u0, vi (1 : Int32), vi (1 : Int32), vu] [xr u2]) _
    refine XS.aload X7.here hx rfl (hb hby at_75) rfl rfl ?_
    show own_S p e below T7 (mkF m 77 #[vi p1, vi p2, vi p3, vi (0 : Int32), vr u2, vr u0, vi (1 : Int32), vi (1 : Int32), vu] [xr u0, xr u2]) _
    refine st8.trans ?_
    show own_S p e below T8 (mkF m 80 #[vi p1, vi p2, vi p3, vi (0 : Int32), vr u2, vr u0, vi (1 : Int32), vi (1 : Int32), vu] [xr u2]) _
    refine st9.trans ?_
    show own_S p e below T9 (mkF m 83 #[vi p1, vi p2, vi p3, vi (0 : Int32), vr u2, vr u0, vi (1 : Int32), vi (1 : Int32), vu] [xr u2]) _
    refine XS.aload X9.here hx rfl (hb hby at_83) rfl rfl ?_
    show own_S p e below T9 (mkF m 85 #[vi p1, vi p2, vi p3, vi (0 : Int32), vr u2, vr u0, vi (1 : Int32), vi (1 : Int32), vu] [xr u2, xr u2]) _
    refine st10.trans ?_
    show own_S p e below T10 (mkF m 88 #[vi p1, vi p2, vi p3, vi (0 : Int32), vr u2, vr u0, vi (1 : Int32), vi (1 : Int32), vu] [xr u2, xr u2]) _
    refine XS.aload X10.here hx rfl (hb hby at_88) rfl rfl ?_
    show own_S p e below T10 (mkF m 90 #[vi p1, vi p2, vi p3, vi (0 : Int32), vr u2, vr u0, vi (1 : Int32), vi (1 : Int32), vu] [xr u0, xr u2, xr u2]) _
    refine st11.trans ?_
    show own_S p e below T11 (mkF m 93 #[vi p1, vi p2, vi p3, vi (0 : Int32), vr u2, vr u0, vi (1 : Int32), vi (1 : Int32), vu] [xr u1, xr u2, xr u2]) _
    refine st12.trans ?_
    show own_S p e below T12 (mkF m 96 #[vi p1, vi p2, vi p3, vi (0 : Int32), vr u2, vr u0, vi (1 : Int32), vi (1 : Int32), vu] [xr u2, xr u2]) _
    refine Jvm.RoadKit.acmp (g := (mkF m 96 #[vi p1, vi p2, vi p3, vi (0 : Int32), vr u2, vr u0, vi (1 : Int32), vi (1 : Int32), vu] [xr u2, xr u2])) X12 hx rfl rfl rfl (pc0 := 96) (pc' := 99) (same := true) rfl (hb hby at_96) rfl (decide_eq_true rfl) (by decide) (by decide) ?_
    show own_S p e below T12 (mkF m 99 #[vi p1, vi p2, vi p3, vi (0 : Int32), vr u2, vr u0, vi (1 : Int32), vi (1 : Int32), vu] []) _
    refine XS.iconst X12.here hx rfl (hb hby at_99) ?_
    show own_S p e below T12 (mkF m 100 #[vi p1, vi p2, vi p3, vi (0 : Int32), vr u2, vr u0, vi (1 : Int32), vi (1 : Int32), vu] [xi (1 : Int32)]) _
    refine XS.goto X12.here hx rfl (pc0 := 100) (pc' := 104) rfl (hb hby at_100) (by decide) (by decide) ?_
    show own_S p e below T12 (mkF m 104 #[vi p1, vi p2, vi p3, vi (0 : Int32), vr u2, vr u0, vi (1 : Int32), vi (1 : Int32), vu] [xi (1 : Int32)]) _
    refine XS.istore X12.here hx rfl (hb hby at_104) rfl (l' := #[vi p1, vi p2, vi p3, vi (0 : Int32), vr u2, vr u0, vi (1 : Int32), vi (1 : Int32), vi (1 : Int32)]) rfl ?_
    show own_S p e below T12 (mkF m 106 #[vi p1, vi p2, vi p3, vi (0 : Int32), vr u2, vr u0, vi (1 : Int32), vi (1 : Int32), vi (1 : Int32)] []) _
    refine XS.iload X12.here hx rfl (hb hby at_106) rfl ?_
    show own_S p e below T12 (mkF m 108 #[vi p1, vi p2, vi p3, vi (0 : Int32), vr u2, vr u0, vi (1 : Int32), vi (1 : Int32), vi (1 : Int32)] [xi (1 : Int32)]) _
    refine XS.ifNo X12.here hx rfl (hb hby at_108) rfl (by decide) ?_
    show own_S p e below T12 (mkF m 111 #[vi p1, vi p2, vi p3, vi (0 : Int32), vr u2, vr u0, vi (1 : Int32), vi (1 : Int32), vi (1 : Int32)] []) _
    refine XS.iload X12.here hx rfl (hb hby at_111) rfl ?_
    show own_S p e below T12 (mkF m 113 #[vi p1, vi p2, vi p3, vi (0 : Int32), vr u2, vr u0, vi (1 : Int32), vi (1 : Int32), vi (1 : Int32)] [xi (1 : Int32)]) _
    refine XS.ifNo X12.here hx rfl (hb hby at_113) rfl (by decide) ?_
    show own_S p e below T12 (mkF m 116 #[vi p1, vi p2, vi p3, vi (0 : Int32), vr u2, vr u0, vi (1 : Int32), vi (1 : Int32), vi (1 : Int32)] []) _
    refine XS.iload X12.here hx rfl (hb hby at_116) rfl ?_
    show own_S p e below T12 (mkF m 118 #[vi p1, vi p2, vi p3, vi (0 : Int32), vr u2, vr u0, vi (1 : Int32), vi (1 : Int32), vi (1 : Int32)] [xi (1 : Int32)]) _
    refine XS.ifNo X12.here hx rfl (hb hby at_118) rfl (by decide) ?_
    show own_S p e below T12 (mkF m 121 #[vi p1, vi p2, vi p3, vi (0 : Int32), vr u2, vr u0, vi (1 : Int32), vi (1 : Int32), vi (1 : Int32)] []) _
    refine XS.iconst X12.here hx rfl (hb hby at_121) ?_
    show own_S p e below T12 (mkF m 122 #[vi p1, vi p2, vi p3, vi (0 : Int32), vr u2, vr u0, vi (1 : Int32), vi (1 : Int32), vi (1 : Int32)] [xi (1 : Int32)]) _
    refine XS.goto X12.here hx rfl (pc0 := 122) (pc' := 126) rfl (hb hby at_122) (by decide) (by decide) ?_
    show own_S p e below T12 (mkF m 126 #[vi p1, vi p2, vi p3, vi (0 : Int32), vr u2, vr u0, vi (1 : Int32), vi (1 : Int32), vi (1 : Int32)] [xi (1 : Int32)]) _
    exact retN X12 hx (t := .boolean) Bd.returns (by simp) (hb hby at_126) hr
  · exact ⟨rfl, N12⟩
theorem ef_own_l13 (m : MethodId) (u0 u1 u2 : Addr) (p1 : Int32) (p2 : Int32) (p3 : Int32) : entryFrame m #[xi p1, xi p2, xi p3] maxLocals = (mkF m 0 #[vi p1, vi p2, vi p3, vu, vu, vu, vu, vu, vu] []) := by first | (simp [entryFrame, mkF, argsToLocals, Value.category, maxLocals]; done) | rfl
set_option maxRecDepth 65536 in
set_option maxHeartbeats 40000000 in
theorem own_l13 (l : Launch) (Z : State) (a0 : Array Value) (hw : ∀ d ∈ tables_1, d.before a0 Z = true) (u0 u1 u2 : Addr) (G : own_St Z u0 u1 u2) (p1 : Int32) (p2 : Int32) (p3 : Int32) (as7 : (p3 &&& (1 : Int32)) = (1 : Int32)) (as2 : ((p1 &&& (2147483647 : Int32)) - ((p1 &&& (2147483647 : Int32)) / (3 : Int32)) * (3 : Int32)) = (2 : Int32)) (as3 : ((p2 &&& (2147483647 : Int32)) - ((p2 &&& (2147483647 : Int32)) / (3 : Int32)) * (3 : Int32)) = (0 : Int32)) (h0 : Heap) (n0 : Nat) (O0 : Old Z n0 h0) : own_Met l Z x code maxLocals ret room_1 #[xi p1, xi p2, xi p3] h0 (own_QL (some (xi (1 : Int32))) n0) := by
  intro ws
  refine MetFree.of_bodySF (plainFor_of_name pn0) hisR ?_
  intro p e s m args below meth c s₁ Bd hml0 hP hK
  obtain ⟨rfl, hZ, hh⟩ := hP
  have hx := Bd.exec
  have hby := Bd.bytes
  have hml : c.maxLocals = 9 := hml0
  have hown : s.vm.findClass "com/example/arbitrium/arbitrium/policy/TruthNotPinLaw" = some m.cls := findClass_of_methodNamed Bd.named
  have hnm := (name_of_methodNamed Bd.named Bd.method).1
  have X0 : Stand p l e room_1 s m #[xi p1, xi p2, xi p3] below meth c s₁ [] 0 0 := Stand.of_body Bd
  have e0 : s₁.heap = h0 := by rw [← hh, Bd.state]; rfl
  have N0 := Fr.nil n0
  have pre0 : ∀ t, Steps p.tables e below (s₁.setTop (mkF m 0 #[vi p1, vi p2, vi p3, vu, vu, vu, vu, vu, vu] [])) t → Steps p.tables e below (s₁.setTop (entryFrame m #[xi p1, xi p2, xi p3] maxLocals)) t := fun t k => castTop (ef_own_l13 m u0 u1 u2 p1 p2 p3) k
  obtain ⟨_, _, ⟨T1, L1, k1, n1⟩, -, X1, ⟨Lc1, hQ1, l1, y1, z1⟩, st1⟩ := Jvm.LawKit.callS X0 hx (y := Y0) hown (mvT hZ (ww hw 0 rfl)) (mvT hZ (ww hw 1 rfl)) (mvT hZ (ww hw 2 rfl)) (mvT hZ (ww hw 3 rfl)) (by decide) (backOf (W := 0) (own_c22_pick l Z a0 hw u0 u1 u2 G p1 as2 h0 n0 O0 []) hZ (ww hw 3 rfl) (ww hw 2 rfl) (by decide) (by decide)) (g := (mkF m 13 #[vi p1, vi p2, vi p3, vi (1 : Int32), vu, vu, vu, vu, vu] [xi p1])) rfl (by rw [hml]; rfl) (argsL := [xi p1]) (rest := []) (lenOf pd0 rfl) rfl (by show 2 * 0 + _ ≤ _; exact Nat.le_of_eq rfl) (hb hby at_13) (fun _ _ => ⟨rfl, e0, (by decide : 0 + 0 ≤ _), (by decide : 0 + 0 ≤ _)⟩)
  dsimp only [Pt.U, Pt.locs, Pt.cells, Pt.slots] at X1 l1 y1 z1 st1 hQ1
  subst l1 y1 z1
  obtain ⟨rfl, Nq1, e1⟩ := hQ1
  have N1 := Fr.app N0 Nq1
  obtain ⟨_, _, ⟨T2, L2, k2, n2⟩, -, X2, ⟨Lc2, hQ2, l2, y2, z2⟩, st2⟩ := Jvm.LawKit.callS X1 hx (y := Y0) hown (mvT hZ (ww hw 0 rfl)) (mvT hZ (ww hw 1 rfl)) (mvT hZ (ww hw 2 rfl)) (mvT hZ (ww hw 3 rfl)) (by decide) (backOf (W := 0) (own_c1_pick l Z a0 hw u0 u1 u2 G p2 as3 h0 n0 O0 []) hZ (ww hw 3 rfl) (ww hw 2 rfl) (by decide) (by decide)) (g := (mkF m 19 #[vi p1, vi p2, vi p3, vi (1 : Int32), vr u2, vu, vu, vu, vu] [xi p2])) rfl (by rw [hml]; rfl) (argsL := [xi p2]) (rest := []) (lenOf pd0 rfl) rfl (by show 2 * 0 + _ ≤ _; exact Nat.le_of_eq rfl) (hb hby at_19) (fun _ _ => ⟨rfl, e1, (by decide : 0 + 0 ≤ _), (by decide : 0 + 0 ≤ _)⟩)
  dsimp only [Pt.U, Pt.locs, Pt.cells, Pt.slots] at X2 l2 y2 z2 st2 hQ2
  subst l2 y2 z2
  obtain ⟨rfl, Nq2, e2⟩ := hQ2
  have N2 := Fr.app N1 Nq2
  obtain ⟨_, _, ⟨T3, L3, k3, n3⟩, -, X3, ⟨Lc3, hQ3, l3, y3, z3⟩, st3⟩ := Jvm.LawKit.callS X2 hx (y := Y1) hown (mvT hZ (ww hw 8 rfl)) (mvT hZ (ww hw 9 rfl)) (mvT hZ (ww hw 6 rfl)) (mvT hZ (ww hw 10 rfl)) (by decide) (backOf (W := 0) (own_c3_of l Z a0 hw u0 u1 u2 G h0 n0 O0 []) hZ (ww hw 10 rfl) (ww hw 6 rfl) (by decide) (by decide)) (g := (mkF m 33 #[vi p1, vi p2, vi p3, vi (1 : Int32), vr u2, vr u0, vu, vu, vu] [xi (0 : Int32)])) rfl (by rw [hml]; rfl) (argsL := [xi (0 : Int32)]) (rest := []) (lenOf pd1 rfl) rfl (by show 2 * 0 + _ ≤ _; exact Nat.le_of_eq rfl) (hb hby at_33) (fun _ _ => ⟨rfl, e2, (by decide : 0 + 0 ≤ _), (by decide : 0 + 0 ≤ _)⟩)
  dsimp only [Pt.U, Pt.locs, Pt.cells, Pt.slots] at X3 l3 y3 z3 st3 hQ3
  subst l3 y3 z3
  obtain ⟨rfl, Nq3, e3⟩ := hQ3
  have N3 := Fr.app N2 Nq3
  obtain ⟨_, _, ⟨T4, L4, k4, n4⟩, -, X4, ⟨Lc4, hQ4, l4, y4, z4⟩, st4⟩ := Jvm.LawKit.callS X3 hx (y := Y1) hown (mvT hZ (ww hw 8 rfl)) (mvT hZ (ww hw 9 rfl)) (mvT hZ (ww hw 6 rfl)) (mvT hZ (ww hw 10 rfl)) (by decide) (backOf (W := 1) (own_c2_of l Z a0 hw u0 u1 u2 G h0 n0 O0 []) hZ (ww hw 10 rfl) (ww hw 6 rfl) (by decide) (by decide)) (g := (mkF m 37 #[vi p1, vi p2, vi p3, vi (1 : Int32), vr u2, vr u0, vu, vu, vu] [xi (1 : Int32), xr u1])) rfl (by rw [hml]; rfl) (argsL := [xi (1 : Int32)]) (rest := [xr u1]) (lenOf pd1 rfl) rfl (by show 2 * 0 + _ ≤ _; exact Nat.le_of_eq rfl) (hb hby at_37) (fun _ _ => ⟨rfl, e3, (by decide : 0 + 0 ≤ _), (by decide : 0 + 0 ≤ _)⟩)
  dsimp only [Pt.U, Pt.locs, Pt.cells, Pt.slots] at X4 l4 y4 z4 st4 hQ4
  subst l4 y4 z4
  obtain ⟨rfl, Nq4, e4⟩ := hQ4
  have N4 := Fr.app N3 Nq4
  obtain ⟨cq5, kq5, qa5, qb5, qc5⟩ := isOf hZ e4 ((own_X_u0 G).ext O0.2)
  obtain ⟨_, _, ⟨T5, L5, k5, n5⟩, -, X5, ⟨Lc5, hQ5, l5, y5, z5⟩, st5⟩ := X4.virtualBack hx (y := Y2) (z := Y2) hown (mvT hZ (ww hw 14 rfl)) (mvT hZ (ww hw 15 rfl)) (notFace_of_selects (args := #[]) (mvT hZ (ww hw 17 rfl))) (mvT hZ (ww hw 17 rfl)) (mvT hZ (ww hw 16 rfl)) (by decide) (backOf (W := 1) (own_c5_not l Z a0 hw u0 u1 u2 G h0 n0 O0 []) hZ (ww hw 18 rfl) (ww hw 6 rfl) (by decide) (by decide)) qa5 qc5 (g := (mkF m 40 #[vi p1, vi p2, vi p3, vi (1 : Int32), vr u2, vr u0, vu, vu, vu] [xr u0, xr u1])) rfl (by rw [hml]; rfl) (Steps.refl _) (argsL := []) (rest := [xr u1]) (lenOf pd2 rfl) rfl (by show 2 * 0 + _ ≤ _; exact Nat.le_of_eq rfl) (hb hby at_40) (fun _ _ => ⟨rfl, e4, (by decide : 0 + 0 ≤ _), (by decide : 0 + 0 ≤ _)⟩)
  dsimp only [Pt.U, Pt.locs, Pt.cells, Pt.slots] at X5 l5 y5 z5 st5 hQ5
  subst l5 y5 z5
  obtain ⟨rfl, Nq5, e5⟩ := hQ5
  have N5 := Fr.app N4 Nq5
  obtain ⟨cq6, kq6, qa6, qb6, qc6⟩ := isOf hZ e5 ((own_X_u2 G).ext O0.2)
  obtain ⟨_, _, ⟨T6, L6, k6, n6⟩, -, X6, ⟨Lc6, hQ6, l6, y6, z6⟩, st6⟩ := X5.virtualBack hx (y := Y2) (z := Y2) hown (mvT hZ (ww hw 14 rfl)) (mvT hZ (ww hw 15 rfl)) (notFace_of_selects (args := #[]) (mvT hZ (ww hw 17 rfl))) (mvT hZ (ww hw 17 rfl)) (mvT hZ (ww hw 16 rfl)) (by decide) (backOf (W := 0) (own_c13_not l Z a0 hw u0 u1 u2 G h0 n0 O0 []) hZ (ww hw 18 rfl) (ww hw 6 rfl) (by decide) (by decide)) qa6 qc6 (g := (mkF m 55 #[vi p1, vi p2, vi p3, vi (1 : Int32), vr u2, vr u0, vi (1 : Int32), vu, vu] [xr u2])) rfl (by rw [hml]; rfl) (Steps.refl _) (argsL := []) (rest := []) (lenOf pd2 rfl) rfl (by show 2 * 0 + _ ≤ _; exact Nat.le_of_eq rfl) (hb hby at_55) (fun _ _ => ⟨rfl, e5, (by decide : 0 + 0 ≤ _), (by decide : 0 + 0 ≤ _)⟩)
  dsimp only [Pt.U, Pt.locs, Pt.cells, Pt.slots] at X6 l6 y6 z6 st6 hQ6
  subst l6 y6 z6
  obtain ⟨rfl, Nq6, e6⟩ := hQ6
  have N6 := Fr.app N5 Nq6
  obtain ⟨cq7, kq7, qa7, qb7, qc7⟩ := isOf hZ e6 ((own_X_u2 G).ext O0.2)
  obtain ⟨_, _, ⟨T7, L7, k7, n7⟩, -, X7, ⟨Lc7, hQ7, l7, y7, z7⟩, st7⟩ := X6.virtualBack hx (y := Y2) (z := Y2) hown (mvT hZ (ww hw 14 rfl)) (mvT hZ (ww hw 15 rfl)) (notFace_of_selects (args := #[]) (mvT hZ (ww hw 17 rfl))) (mvT hZ (ww hw 17 rfl)) (mvT hZ (ww hw 16 rfl)) (by decide) (backOf (W := 0) (own_c13_not l Z a0 hw u0 u1 u2 G h0 n0 O0 []) hZ (ww hw 18 rfl) (ww hw 6 rfl) (by decide) (by decide)) qa7 qc7 (g := (mkF m 58 #[vi p1, vi p2, vi p3, vi (1 : Int32), vr u2, vr u0, vi (1 : Int32), vu, vu] [xr u2])) rfl (by rw [hml]; rfl) (Steps.refl _) (argsL := []) (rest := []) (lenOf pd2 rfl) rfl (by show 2 * 0 + _ ≤ _; exact Nat.le_of_eq rfl) (hb hby at_58) (fun _ _ => ⟨rfl, e6, (by decide : 0 + 0 ≤ _), (by decide : 0 + 0 ≤ _)⟩)
  dsimp only [Pt.U, Pt.locs, Pt.cells, Pt.slots] at X7 l7 y7 z7 st7 hQ7
  subst l7 y7 z7
  obtain ⟨rfl, Nq7, e7⟩ := hQ7
  have N7 := Fr.app N6 Nq7
  obtain ⟨cq8, kq8, qa8, qb8, qc8⟩ := isOf hZ e7 ((own_X_u2 G).ext O0.2)
  obtain ⟨_, _, ⟨T8, L8, k8, n8⟩, -, X8, ⟨Lc8, hQ8, l8, y8, z8⟩, st8⟩ := X7.virtualBack hx (y := Y3) (z := Y3) hown (mvT hZ (ww hw 21 rfl)) (mvT hZ (ww hw 22 rfl)) (notFace_of_selects (args := #[]) (mvT hZ (ww hw 24 rfl))) (mvT hZ (ww hw 24 rfl)) (mvT hZ (ww hw 23 rfl)) (by decide) (backOf (W := 0) (own_c23_and l Z a0 hw u0 u1 u2 G h0 n0 O0 []) hZ (ww hw 25 rfl) (ww hw 6 rfl) (by decide) (by decide)) qa8 qc8 (g := (mkF m 77 #[vi p1, vi p2, vi p3, vi (1 : Int32), vr u2, vr u0, vi (1 : Int32), vi (1 : Int32), vu] [xr u0, xr u2])) rfl (by rw [hml]; rfl) (Steps.refl _) (argsL := [xr u0]) (rest := []) (lenOf pd3 rfl) rfl (by show 2 * 0 + _ ≤ _; exact Nat.le_of_eq rfl) (hb hby at_77) (fun _ _ => ⟨rfl, e7, (by decide : 0 + 0 ≤ _), (by decide : 0 + 0 ≤ _)⟩)
  dsimp only [Pt.U, Pt.locs, Pt.cells, Pt.slots] at X8 l8 y8 z8 st8 hQ8
  subst l8 y8 z8
  obtain ⟨rfl, Nq8, e8⟩ := hQ8
  have N8 := Fr.app N7 Nq8
  obtain ⟨cq9, kq9, qa9, qb9, qc9⟩ := isOf hZ e8 ((own_X_u2 G).ext O0.2)
  obtain ⟨_, _, ⟨T9, L9, k9, n9⟩, -, X9, ⟨Lc9, hQ9, l9, y9, z9⟩, st9⟩ := X8.virtualBack hx (y := Y2) (z := Y2) hown (mvT hZ (ww hw 14 rfl)) (mvT hZ (ww hw 15 rfl)) (notFace_of_selects (args := #[]) (mvT hZ (ww hw 17 rfl))) (mvT hZ (ww hw 17 rfl)) (mvT hZ (ww hw 16 rfl)) (by decide) (backOf (W := 0) (own_c13_not l Z a0 hw u0 u1 u2 G h0 n0 O0 []) hZ (ww hw 18 rfl) (ww hw 6 rfl) (by decide) (by decide)) qa9 qc9 (g := (mkF m 80 #[vi p1, vi p2, vi p3, vi (1 : Int32), vr u2, vr u0, vi (1 : Int32), vi (1 : Int32), vu] [xr u2])) rfl (by rw [hml]; rfl) (Steps.refl _) (argsL := []) (rest := []) (lenOf pd2 rfl) rfl (by show 2 * 0 + _ ≤ _; exact Nat.le_of_eq rfl) (hb hby at_80) (fun _ _ => ⟨rfl, e8, (by decide : 0 + 0 ≤ _), (by decide : 0 + 0 ≤ _)⟩)
  dsimp only [Pt.U, Pt.locs, Pt.cells, Pt.slots] at X9 l9 y9 z9 st9 hQ9
  subst l9 y9 z9
  obtain ⟨rfl, Nq9, e9⟩ := hQ9
  have N9 := Fr.app N8 Nq9
  obtain ⟨cq10, kq10, qa10, qb10, qc10⟩ := isOf hZ e9 ((own_X_u2 G).ext O0.2)
  obtain ⟨_, _, ⟨T10, L10, k10, n10⟩, -, X10, ⟨Lc10, hQ10, l10, y10, z10⟩, st10⟩ := X9.virtualBack hx (y := Y2) (z := Y2) hown (mvT hZ (ww hw 14 rfl)) (mvT hZ (ww hw 15 rfl)) (notFace_of_selects (args := #[]) (mvT hZ (ww hw 17 rfl))) (mvT hZ (ww hw 17 rfl)) (mvT hZ (ww hw 16 rfl)) (by decide) (backOf (W := 1) (own_c13_not l Z a0 hw u0 u1 u2 G h0 n0 O0 []) hZ (ww hw 18 rfl) (ww hw 6 rfl) (by decide) (by decide)) qa10 qc10 (g := (mkF m 85 #[vi p1, vi p2, vi p3, vi (1 : Int32), vr u2, vr u0, vi (1 : Int32), vi (1 : Int32), vu] [xr u2, xr u2])) rfl (by rw [hml]; rfl) (Steps.refl _) (argsL := []) (rest := [xr u2]) (lenOf pd2 rfl) rfl (by show 2 * 0 + _ ≤ _; exact Nat.le_of_eq rfl) (hb hby at_85) (fun _ _ => ⟨rfl, e9, (by decide : 0 + 0 ≤ _), (by decide : 0 + 0 ≤ _)⟩)
  dsimp only [Pt.U, Pt.locs, Pt.cells, Pt.slots] at X10 l10 y10 z10 st10 hQ10
  subst l10 y10 z10
  obtain ⟨rfl, Nq10, e10⟩ := hQ10
  have N10 := Fr.app N9 Nq10
  obtain ⟨cq11, kq11, qa11, qb11, qc11⟩ := isOf hZ e10 ((own_X_u0 G).ext O0.2)
  obtain ⟨_, _, ⟨T11, L11, k11, n11⟩, -, X11, ⟨Lc11, hQ11, l11, y11, z11⟩, st11⟩ := X10.virtualBack hx (y := Y2) (z := Y2) hown (mvT hZ (ww hw 14 rfl)) (mvT hZ (ww hw 15 rfl)) (notFace_of_selects (args := #[]) (mvT hZ (ww hw 17 rfl))) (mvT hZ (ww hw 17 rfl)) (mvT hZ (ww hw 16 rfl)) (by decide) (backOf (W := 2) (own_c5_not l Z a0 hw u0 u1 u2 G h0 n0 O0 []) hZ (ww hw 18 rfl) (ww hw 6 rfl) (by decide) (by decide)) qa11 qc11 (g := (mkF m 90 #[vi p1, vi p2, vi p3, vi (1 : Int32), vr u2, vr u0, vi (1 : Int32), vi (1 : Int32), vu] [xr u0, xr u2, xr u2])) rfl (by rw [hml]; rfl) (Steps.refl _) (argsL := []) (rest := [xr u2, xr u2]) (lenOf pd2 rfl) rfl (by show 2 * 0 + _ ≤ _; exact Nat.le_of_eq rfl) (hb hby at_90) (fun _ _ => ⟨rfl, e10, (by decide : 0 + 0 ≤ _), (by decide : 0 + 0 ≤ _)⟩)
  dsimp only [Pt.U, Pt.locs, Pt.cells, Pt.slots] at X11 l11 y11 z11 st11 hQ11
  subst l11 y11 z11
  obtain ⟨rfl, Nq11, e11⟩ := hQ11
  have N11 := Fr.app N10 Nq11
  obtain ⟨cq12, kq12, qa12, qb12, qc12⟩ := isOf hZ e11 ((own_X_u2 G).ext O0.2)
  obtain ⟨_, _, ⟨T12, L12, k12, n12⟩, -, X12, ⟨Lc12, hQ12, l12, y12, z12⟩, st12⟩ := X11.virtualBack hx (y := Y4) (z := Y4) hown (mvT hZ (ww hw 26 rfl)) (mvT hZ (ww hw 27 rfl)) (notFace_of_selects (args := #[]) (mvT hZ (ww hw 29 rfl))) (mvT hZ (ww hw 29 rfl)) (mvT hZ (ww hw 28 rfl)) (by decide) (backOf (W := 1) (own_c24_or l Z a0 hw u0 u1 u2 G h0 n0 O0 []) hZ (ww hw 30 rfl) (ww hw 6 rfl) (by decide) (by decide)) qa12 qc12 (g := (mkF m 93 #[vi p1, vi p2, vi p3, vi (1 : Int32), vr u2, vr u0, vi (1 : Int32), vi (1 : Int32), vu] [xr u1, xr u2, xr u2])) rfl (by rw [hml]; rfl) (Steps.refl _) (argsL := [xr u1]) (rest := [xr u2]) (lenOf pd3 rfl) rfl (by show 2 * 0 + _ ≤ _; exact Nat.le_of_eq rfl) (hb hby at_93) (fun _ _ => ⟨rfl, e11, (by decide : 0 + 0 ≤ _), (by decide : 0 + 0 ≤ _)⟩)
  dsimp only [Pt.U, Pt.locs, Pt.cells, Pt.slots] at X12 l12 y12 z12 st12 hQ12
  subst l12 y12 z12
  obtain ⟨rfl, Nq12, e12⟩ := hQ12
  have N12 := Fr.app N11 Nq12
  obtain ⟨fs, hr, hrun, hended, hW, hsame⟩ := X12.leave (v := some (xi (1 : Int32))) (fun h => by rw [Bd.returns] at h; cases h)
  refine ⟨_, _, pre0 _ ?_, hrun, hended, _, _, rfl, ?_, ⟨_, rfl⟩, hW, hsame.mono (by decide) (by decide)⟩
  · show own_S p e below s₁ (mkF m 0 #[vi p1, vi p2, vi p3, vu, vu, vu, vu, vu, vu] []) _
    refine XS.iloadN X0.here hx rfl (hb hby at_0) rfl ?_
    show own_S p e below s₁ (mkF m 1 #[vi p1, vi p2, vi p3, vu, vu, vu, vu, vu, vu] [xi p3]) _
    refine XS.iconst X0.here hx rfl (hb hby at_1) ?_
    show own_S p e below s₁ (mkF m 2 #[vi p1, vi p2, vi p3, vu, vu, vu, vu, vu, vu] [xi (1 : Int32), xi p3]) _
    refine XS.iand X0.here hx rfl (hb hby at_2) rfl ?_
    show own_S p e below s₁ (mkF m 3 #[vi p1, vi p2, vi p3, vu, vu, vu, vu, vu, vu] [xi (p3 &&& (1 : Int32))]) _
    refine castTop (show (mkF m 3 #[vi p1, vi p2, vi p3, vu, vu, vu, vu, vu, vu] [xi (p3 &&& (1 : Int32))]) = (mkF m 3 #[vi p1, vi p2, vi p3, vu, vu, vu, vu, vu, vu] [xi (1 : Int32)]) from by rw [as7]) ?_
    show own_S p e below s₁ (mkF m 3 #[vi p1, vi p2, vi p3, vu, vu, vu, vu, vu, vu] [xi (1 : Int32)]) _
    refine XS.ifNo X0.here hx rfl (hb hby at_3) rfl (by decide) ?_
    show own_S p e below s₁ (mkF m 6 #[vi p1, vi p2, vi p3, vu, vu, vu, vu, vu, vu] []) _
    refine XS.iconst X0.here hx rfl (hb hby at_6) ?_
    show own_S p e below s₁ (mkF m 7 #[vi p1, vi p2, vi p3, vu, vu, vu, vu, vu, vu] [xi (1 : Int32)]) _
    refine XS.goto X0.here hx rfl (pc0 := 7) (pc' := 11) rfl (hb hby at_7) (by decide) (by decide) ?_
    show own_S p e below s₁ (mkF m 11 #[vi p1, vi p2, vi p3, vu, vu, vu, vu, vu, vu] [xi (1 : Int32)]) _
    refine XS.istoreN X0.here hx rfl (hb hby at_11) rfl (l' := #[vi p1, vi p2, vi p3, vi (1 : Int32), vu, vu, vu, vu, vu]) rfl ?_
    show own_S p e below s₁ (mkF m 12 #[vi p1, vi p2, vi p3, vi (1 : Int32), vu, vu, vu, vu, vu] []) _
    refine XS.iloadN X0.here hx rfl (hb hby at_12) rfl ?_
    show own_S p e below s₁ (mkF m 13 #[vi p1, vi p2, vi p3, vi (1 : Int32), vu, vu, vu, vu, vu] [xi p1]) _
    refine st1 _ ?_
    show own_S p e below T1 (mkF m 16 #[vi p1, vi p2, vi p3, vi (1 : Int32), vu, vu, vu, vu, vu] [xr u2]) _
    refine XS.astore X1.here hx rfl (hb hby at_16) rfl rfl (l' := #[vi p1, vi p2, vi p3, vi (1 : Int32), vr u2, vu, vu, vu, vu]) rfl ?_
    show own_S p e below T1 (mkF m 18 #[vi p1, vi p2, vi p3, vi (1 : Int32), vr u2, vu, vu, vu, vu] []) _
    refine XS.iloadN X1.here hx rfl (hb hby at_18) rfl ?_
    show own_S p e below T1 (mkF m 19 #[vi p1, vi p2, vi p3, vi (1 : Int32), vr u2, vu, vu, vu, vu] [xi p2]) _
    refine st2 _ ?_
    show own_S p e below T2 (mkF m 22 #[vi p1, vi p2, vi p3, vi (1 : Int32), vr u2, vu, vu, vu, vu] [xr u0]) _
    refine XS.astore X2.here hx rfl (hb hby at_22) rfl rfl (l' := #[vi p1, vi p2, vi p3, vi (1 : Int32), vr u2, vr u0, vu, vu, vu]) rfl ?_
    show own_S p e below T2 (mkF m 24 #[vi p1, vi p2, vi p3, vi (1 : Int32), vr u2, vr u0, vu, vu, vu] []) _
    refine XS.iloadN X2.here hx rfl (hb hby at_24) rfl ?_
    show own_S p e below T2 (mkF m 25 #[vi p1, vi p2, vi p3, vi (1 : Int32), vr u2, vr u0, vu, vu, vu] [xi (1 : Int32)]) _
    refine XS.ifYes X2.here hx rfl (pc0 := 25) (pc' := 32) rfl (hb hby at_25) rfl (by decide) (by decide) (by decide) ?_
    show own_S p e below T2 (mkF m 32 #[vi p1, vi p2, vi p3, vi (1 : Int32), vr u2, vr u0, vu, vu, vu] []) _
    refine XS.iconst X2.here hx rfl (hb hby at_32) ?_
    show own_S p e below T2 (mkF m 33 #[vi p1, vi p2, vi p3, vi (1 : Int32), vr u2, vr u0, vu, vu, vu] [xi (0 : Int32)]) _
    refine st3 _ ?_
    show own_S p e below T3 (mkF m 36 #[vi p1, vi p2, vi p3, vi (1 : Int32), vr u2, vr u0, vu, vu, vu] [xr u1]) _
    refine XS.iloadN X3.here hx rfl (hb hby at_36) rfl ?_
    show own_S p e below T3 (mkF m 37 #[vi p1, vi p2, vi p3, vi (1 : Int32), vr u2, vr u0, vu, vu, vu] [xi (1 : Int32), xr u1]) _
    refine st4 _ ?_
    show own_S p e below T4 (mkF m 40 #[vi p1, vi p2, vi p3, vi (1 : Int32), vr u2, vr u0, vu, vu, vu] [xr u0, xr u1]) _
    refine st5.trans ?_
    show own_S p e below T5 (mkF m 43 #[vi p1, vi p2, vi p3, vi (1 : Int32), vr u2, vr u0, vu, vu, vu] [xr u1, xr u1]) _
    refine Jvm.RoadKit.acmp (g := (mkF m 43 #[vi p1, vi p2, vi p3, vi (1 : Int32), vr u2, vr u0, vu, vu, vu] [xr u1, xr u1])) X5 hx rfl rfl rfl (pc0 := 43) (pc' := 46) (same := true) rfl (hb hby at_43) rfl (decide_eq_true rfl) (by decide) (by decide) ?_
    show own_S p e below T5 (mkF m 46 #[vi p1, vi p2, vi p3, vi (1 : Int32), vr u2, vr u0, vu, vu, vu] []) _
    refine XS.iconst X5.here hx rfl (hb hby at_46) ?_
    show own_S p e below T5 (mkF m 47 #[vi p1, vi p2, vi p3, vi (1 : Int32), vr u2, vr u0, vu, vu, vu] [xi (1 : Int32)]) _
    refine XS.goto X5.here hx rfl (pc0 := 47) (pc' := 51) rfl (hb hby at_47) (by decide) (by decide) ?_
    show own_S p e below T5 (mkF m 51 #[vi p1, vi p2, vi p3, vi (1 : Int32), vr u2, vr u0, vu, vu, vu] [xi (1 : Int32)]) _
    refine XS.istore X5.here hx rfl (hb hby at_51) rfl (l' := #[vi p1, vi p2, vi p3, vi (1 : Int32), vr u2, vr u0, vi (1 : Int32), vu, vu]) rfl ?_
    show own_S p e below T5 (mkF m 53 #[vi p1, vi p2, vi p3, vi (1 : Int32), vr u2, vr u0, vi (1 : Int32), vu, vu] []) _
    refine XS.aload X5.here hx rfl (hb hby at_53) rfl rfl ?_
    show own_S p e below T5 (mkF m 55 #[vi p1, vi p2, vi p3, vi (1 : Int32), vr u2, vr u0, vi (1 : Int32), vu, vu] [xr u2]) _
    refine st6.trans ?_
    show own_S p e below T6 (mkF m 58 #[vi p1, vi p2, vi p3, vi (1 : Int32), vr u2, vr u0, vi (1 : Int32), vu, vu] [xr u2]) _
    refine st7.trans ?_
    show own_S p e below T7 (mkF m 61 #[vi p1, vi p2, vi p3, vi (1 : Int32), vr u2, vr u0, vi (1 : Int32), vu, vu] [xr u2]) _
    refine XS.aload X7.here hx rfl (hb hby at_61) rfl rfl ?_
    show own_S p e below T7 (mkF m 63 #[vi p1, vi p2, vi p3, vi (1 : Int32), vr u2, vr u0, vi (1 : Int32), vu, vu] [xr u2, xr u2]) _
    refine Jvm.RoadKit.acmp (g := (mkF m 63 #[vi p1, vi p2, vi p3, vi (1 : Int32), vr u2, vr u0, vi (1 : Int32), vu, vu] [xr u2, xr u2])) X7 hx rfl rfl rfl (pc0 := 63) (pc' := 66) (same := true) rfl (hb hby at_63) rfl (decide_eq_true rfl) (by decide) (by decide) ?_
    show own_S p e below T7 (mkF m 66 #[vi p1, vi p2, vi p3, vi (1 : Int32), vr u2, vr u0, vi (1 : Int32), vu, vu] []) _
    refine XS.iconst X7.here hx rfl (hb hby at_66) ?_
    show own_S p e below T7 (mkF m 67 #[vi p1, vi p2, vi p3, vi (1 : Int32), vr u2, vr u0, vi (1 : Int32), vu, vu] [xi (1 : Int32)]) _
    refine XS.goto X7.here hx rfl (pc0 := 67) (pc' := 71) rfl (hb hby at_67) (by decide) (by decide) ?_
    show own_S p e below T7 (mkF m 71 #[vi p1, vi p2, vi p3, vi (1 : Int32), vr u2, vr u0, vi (1 : Int32), vu, vu] [xi (1 : Int32)]) _
    refine XS.istore X7.here hx rfl (hb hby at_71) rfl (l' := #[vi p1, vi p2, vi p3, vi (1 : Int32), vr u2, vr u0, vi (1 : Int32), vi (1 : Int32), vu]) rfl ?_
    show own_S p e below T7 (mkF m 73 #[vi p1, vi p2, vi p3, vi (1 : Int32), vr u2, vr u0, vi (1 : Int32), vi (1 : Int32), vu] []) _
    refine XS.aload X7.here hx rfl (hb hby at_73) rfl rfl ?_
    show own_S p e below T7 (mkF m 75 #[vi p1, vi p2, vi p3, vi (1 : Int32), vr u2, vr u0, vi (1 : Int32), vi (1 : Int32), vu] [xr u2]) _
    refine XS.aload X7.here hx rfl (hb hby at_75) rfl rfl ?_
    show own_S p e below T7 (mkF m 77 #[vi p1, vi p2, vi p3, vi (1 : Int32), vr u2, vr u0, vi (1 : Int32), vi (1 : Int32), vu] [xr u0, xr u2]) _
    refine st8.trans ?_
    show own_S p e below T8 (mkF m 80 #[vi p1, vi p2, vi p3, vi (1 : Int32), vr u2, vr u0, vi (1 : Int32), vi (1 : Int32), vu] [xr u2]) _
    refine st9.trans ?_
    show own_S p e below T9 (mkF m 83 #[vi p1, vi p2, vi p3, vi (1 : Int32), vr u2, vr u0, vi (1 : Int32), vi (1 : Int32), vu] [xr u2]) _
    refine XS.aload X9.here hx rfl (hb hby at_83) rfl rfl ?_
    show own_S p e below T9 (mkF m 85 #[vi p1, vi p2, vi p3, vi (1 : Int32), vr u2, vr u0, vi (1 : Int32), vi (1 : Int32), vu] [xr u2, xr u2]) _
    refine st10.trans ?_
    show own_S p e below T10 (mkF m 88 #[vi p1, vi p2, vi p3, vi (1 : Int32), vr u2, vr u0, vi (1 : Int32), vi (1 : Int32), vu] [xr u2, xr u2]) _
    refine XS.aload X10.here hx rfl (hb hby at_88) rfl rfl ?_
    show own_S p e below T10 (mkF m 90 #[vi p1, vi p2, vi p3, vi (1 : Int32), vr u2, vr u0, vi (1 : Int32), vi (1 : Int32), vu] [xr u0, xr u2, xr u2]) _
    refine st11.trans ?_
    show own_S p e below T11 (mkF m 93 #[vi p1, vi p2, vi p3, vi (1 : Int32), vr u2, vr u0, vi (1 : Int32), vi (1 : Int32), vu] [xr u1, xr u2, xr u2]) _
    refine st12.trans ?_
    show own_S p e below T12 (mkF m 96 #[vi p1, vi p2, vi p3, vi (1 : Int32), vr u2, vr u0, vi (1 : Int32), vi (1 : Int32), vu] [xr u2, xr u2]) _
    refine Jvm.RoadKit.acmp (g := (mkF m 96 #[vi p1, vi p2, vi p3, vi (1 : Int32), vr u2, vr u0, vi (1 : Int32), vi (1 : Int32), vu] [xr u2, xr u2])) X12 hx rfl rfl rfl (pc0 := 96) (pc' := 99) (same := true) rfl (hb hby at_96) rfl (decide_eq_true rfl) (by decide) (by decide) ?_
    show own_S p e below T12 (mkF m 99 #[vi p1, vi p2, vi p3, vi (1 : Int32), vr u2, vr u0, vi (1 : Int32), vi (1 : Int32), vu] []) _
    refine XS.iconst X12.here hx rfl (hb hby at_99) ?_
    show own_S p e below T12 (mkF m 100 #[vi p1, vi p2, vi p3, vi (1 : Int32), vr u2, vr u0, vi (1 : Int32), vi (1 : Int32), vu] [xi (1 : Int32)]) _
    refine XS.goto X12.here hx rfl (pc0 := 100) (pc' := 104) rfl (hb hby at_100) (by decide) (by decide) ?_
    show own_S p e below T12 (mkF m 104 #[vi p1, vi p2, vi p3, vi (1 : Int32), vr u2, vr u0, vi (1 : Int32), vi (1 : Int32), vu] [xi (1 : Int32)]) _
    refine XS.istore X12.here hx rfl (hb hby at_104) rfl (l' := #[vi p1, vi p2, vi p3, vi (1 : Int32), vr u2, vr u0, vi (1 : Int32), vi (1 : Int32), vi (1 : Int32)]) rfl ?_
    show own_S p e below T12 (mkF m 106 #[vi p1, vi p2, vi p3, vi (1 : Int32), vr u2, vr u0, vi (1 : Int32), vi (1 : Int32), vi (1 : Int32)] []) _
    refine XS.iload X12.here hx rfl (hb hby at_106) rfl ?_
    show own_S p e below T12 (mkF m 108 #[vi p1, vi p2, vi p3, vi (1 : Int32), vr u2, vr u0, vi (1 : Int32), vi (1 : Int32), vi (1 : Int32)] [xi (1 : Int32)]) _
    refine XS.ifNo X12.here hx rfl (hb hby at_108) rfl (by decide) ?_
    show own_S p e below T12 (mkF m 111 #[vi p1, vi p2, vi p3, vi (1 : Int32), vr u2, vr u0, vi (1 : Int32), vi (1 : Int32), vi (1 : Int32)] []) _
    refine XS.iload X12.here hx rfl (hb hby at_111) rfl ?_
    show own_S p e below T12 (mkF m 113 #[vi p1, vi p2, vi p3, vi (1 : Int32), vr u2, vr u0, vi (1 : Int32), vi (1 : Int32), vi (1 : Int32)] [xi (1 : Int32)]) _
    refine XS.ifNo X12.here hx rfl (hb hby at_113) rfl (by decide) ?_
    show own_S p e below T12 (mkF m 116 #[vi p1, vi p2, vi p3, vi (1 : Int32), vr u2, vr u0, vi (1 : Int32), vi (1 : Int32), vi (1 : Int32)] []) _
    refine XS.iload X12.here hx rfl (hb hby at_116) rfl ?_
    show own_S p e below T12 (mkF m 118 #[vi p1, vi p2, vi p3, vi (1 : Int32), vr u2, vr u0, vi (1 : Int32), vi (1 : Int32), vi (1 : Int32)] [xi (1 : Int32)]) _
    refine XS.ifNo X12.here hx rfl (hb hby at_118) rfl (by decide) ?_
    show own_S p e below T12 (mkF m 121 #[vi p1, vi p2, vi p3, vi (1 : Int32), vr u2, vr u0, vi (1 : Int32), vi (1 : Int32), vi (1 : Int32)] []) _
    refine XS.iconst X12.here hx rfl (hb hby at_121) ?_
    show own_S p e below T12 (mkF m 122 #[vi p1, vi p2, vi p3, vi (1 : Int32), vr u2, vr u0, vi (1 : Int32), vi (1 : Int32), vi (1 : Int32)] [xi (1 : Int32)]) _
    refine XS.goto X12.here hx rfl (pc0 := 122) (pc' := 126) rfl (hb hby at_122) (by decide) (by decide) ?_
    show own_S p e below T12 (mkF m 126 #[vi p1, vi p2, vi p3, vi (1 : Int32), vr u2, vr u0, vi (1 : Int32), vi (1 : Int32), vi (1 : Int32)] [xi (1 : Int32)]) _
    exact retN X12 hx (t := .boolean) Bd.returns (by simp) (hb hby at_126) hr
  · exact ⟨rfl, N12⟩
theorem ef_own_c25_and (m : MethodId) (u0 u1 u2 : Addr) : entryFrame m #[xr u2, xr u1] 2 = (mkF m 0 #[vr u2, vr u1] []) := by first | (simp [entryFrame, mkF, argsToLocals, Value.category]; done) | rfl
set_option maxRecDepth 65536 in
set_option maxHeartbeats 40000000 in
theorem own_c25_and (l : Launch) (Z : State) (a0 : Array Value) (hw : ∀ d ∈ tables_1, d.before a0 Z = true) (u0 u1 u2 : Addr) (G : own_St Z u0 u1 u2) (h0 : Heap) (n0 : Nat) (O0 : Old Z n0 h0) : own_Met l Z Y3 prog_71_method_5_code 2 (some (.object "com/example/arbitrium/arbitrium/policy/Truth")) ({ frames := 0, cells := 0, slots := 0, locals := 0 } : Room) #[xr u2, xr u1] h0 (own_QR (some (xr u1)) h0 n0) := by
  intro ws
  refine MetFree.of_bodySF (plainFor_of_name pn1) hisR ?_
  intro p e s m args below meth c s₁ Bd hml0 hP hK
  obtain ⟨rfl, hZ, hh⟩ := hP
  have hx := Bd.exec
  have hby := Bd.bytes
  have hml : c.maxLocals = 2 := hml0
  have hown : s.vm.findClass "com/example/arbitrium/arbitrium/policy/Truth" = some m.cls := findClass_of_methodNamed Bd.named
  have hnm := (name_of_methodNamed Bd.named Bd.method).1
  have X0 : Stand p l e ({ frames := 0, cells := 0, slots := 0, locals := 0 } : Room) s m #[xr u2, xr u1] below meth c s₁ [] 0 0 := Stand.of_body Bd
  have e0 : s₁.heap = h0 := by rw [← hh, Bd.state]; rfl
  have N0 := Fr.nil n0
  have pre0 : ∀ t, Steps p.tables e below (s₁.setTop (mkF m 0 #[vr u2, vr u1] [])) t → Steps p.tables e below (s₁.setTop (entryFrame m #[xr u2, xr u1] 2)) t := fun t k => castTop (ef_own_c25_and m u0 u1 u2) k
  obtain ⟨T1, X1, e1, st1⟩ := getS2 X0 hx hZ hown (host := "") (Or.inl (ww hw 12 rfl)) Via.refl e0 ((own_S_u1 G).ext O0.2) (g := (mkF m 1 #[vr u2, vr u1] [xr u2])) rfl (hb hby d4_1)
  obtain ⟨T2, X2, e2, st2⟩ := getS2 X1 hx hZ hown (host := "") (Or.inl (ww hw 12 rfl)) Via.refl e1 ((own_S_u1 G).ext O0.2) (g := (mkF m 8 #[vr u2, vr u1] [xr u1])) rfl (hb hby d4_8)
  obtain ⟨T3, X3, e3, st3⟩ := getS2 X2 hx hZ hown (host := "") (Or.inl (ww hw 12 rfl)) Via.refl e2 ((own_S_u1 G).ext O0.2) (g := (mkF m 14 #[vr u2, vr u1] [])) rfl (hb hby d4_14)
  obtain ⟨fs, hr, hrun, hended, hW, hsame⟩ := X3.leave (v := some (xr u1)) (fun h => by rw [Bd.returns] at h; cases h)
  refine ⟨_, _, pre0 _ ?_, hrun, hended, _, _, rfl, ?_, ⟨_, rfl⟩, hW, hsame.mono (by decide) (by decide)⟩
  · show own_S p e below s₁ (mkF m 0 #[vr u2, vr u1] []) _
    refine XS.aloadN X0.here hx rfl (hb hby d4_0) rfl rfl ?_
    show own_S p e below s₁ (mkF m 1 #[vr u2, vr u1] [xr u2]) _
    refine st1 _ ?_
    show own_S p e below T1 (mkF m 4 #[vr u2, vr u1] [xr u1, xr u2]) _
    refine Jvm.RoadKit.acmp (g := (mkF m 4 #[vr u2, vr u1] [xr u1, xr u2])) X1 hx rfl rfl rfl (pc0 := 4) (pc' := 7) (same := false) rfl (hb hby d4_4) rfl (own_ref (own_ne_u2_u1 G)) (by decide) (by decide) ?_
    show own_S p e below T1 (mkF m 7 #[vr u2, vr u1] []) _
    refine XS.aloadN X1.here hx rfl (hb hby d4_7) rfl rfl ?_
    show own_S p e below T1 (mkF m 8 #[vr u2, vr u1] [xr u1]) _
    refine st2 _ ?_
    show own_S p e below T2 (mkF m 11 #[vr u2, vr u1] [xr u1, xr u1]) _
    refine Jvm.RoadKit.acmp (g := (mkF m 11 #[vr u2, vr u1] [xr u1, xr u1])) X2 hx rfl rfl rfl (pc0 := 11) (pc' := 14) (same := true) rfl (hb hby d4_11) rfl (decide_eq_true rfl) (by decide) (by decide) ?_
    show own_S p e below T2 (mkF m 14 #[vr u2, vr u1] []) _
    refine st3 _ ?_
    show own_S p e below T3 (mkF m 17 #[vr u2, vr u1] [xr u1]) _
    exact X3.areturnOut hx rfl Bd.returns rfl (hb hby d4_17) hr
  · exact ⟨rfl, N0, e3⟩
theorem ef_own_c26_or (m : MethodId) (u0 u1 u2 : Addr) : entryFrame m #[xr u2, xr u0] 2 = (mkF m 0 #[vr u2, vr u0] []) := by first | (simp [entryFrame, mkF, argsToLocals, Value.category]; done) | rfl
set_option maxRecDepth 65536 in
set_option maxHeartbeats 40000000 in
theorem own_c26_or (l : Launch) (Z : State) (a0 : Array Value) (hw : ∀ d ∈ tables_1, d.before a0 Z = true) (u0 u1 u2 : Addr) (G : own_St Z u0 u1 u2) (h0 : Heap) (n0 : Nat) (O0 : Old Z n0 h0) : own_Met l Z Y4 prog_71_method_6_code 2 (some (.object "com/example/arbitrium/arbitrium/policy/Truth")) ({ frames := 0, cells := 0, slots := 0, locals := 0 } : Room) #[xr u2, xr u0] h0 (own_QR (some (xr u0)) h0 n0) := by
  intro ws
  refine MetFree.of_bodySF (plainFor_of_name pn1) hisR ?_
  intro p e s m args below meth c s₁ Bd hml0 hP hK
  obtain ⟨rfl, hZ, hh⟩ := hP
  have hx := Bd.exec
  have hby := Bd.bytes
  have hml : c.maxLocals = 2 := hml0
  have hown : s.vm.findClass "com/example/arbitrium/arbitrium/policy/Truth" = some m.cls := findClass_of_methodNamed Bd.named
  have hnm := (name_of_methodNamed Bd.named Bd.method).1
  have X0 : Stand p l e ({ frames := 0, cells := 0, slots := 0, locals := 0 } : Room) s m #[xr u2, xr u0] below meth c s₁ [] 0 0 := Stand.of_body Bd
  have e0 : s₁.heap = h0 := by rw [← hh, Bd.state]; rfl
  have N0 := Fr.nil n0
  have pre0 : ∀ t, Steps p.tables e below (s₁.setTop (mkF m 0 #[vr u2, vr u0] [])) t → Steps p.tables e below (s₁.setTop (entryFrame m #[xr u2, xr u0] 2)) t := fun t k => castTop (ef_own_c26_or m u0 u1 u2) k
  obtain ⟨T1, X1, e1, st1⟩ := getS2 X0 hx hZ hown (host := "") (Or.inl (ww hw 11 rfl)) Via.refl e0 ((own_S_u0 G).ext O0.2) (g := (mkF m 1 #[vr u2, vr u0] [xr u2])) rfl (hb hby d5_1)
  obtain ⟨T2, X2, e2, st2⟩ := getS2 X1 hx hZ hown (host := "") (Or.inl (ww hw 11 rfl)) Via.refl e1 ((own_S_u0 G).ext O0.2) (g := (mkF m 8 #[vr u2, vr u0] [xr u0])) rfl (hb hby d5_8)
  obtain ⟨T3, X3, e3, st3⟩ := getS2 X2 hx hZ hown (host := "") (Or.inl (ww hw 11 rfl)) Via.refl e2 ((own_S_u0 G).ext O0.2) (g := (mkF m 14 #[vr u2, vr u0] [])) rfl (hb hby d5_14)
  obtain ⟨fs, hr, hrun, hended, hW, hsame⟩ := X3.leave (v := some (xr u0)) (fun h => by rw [Bd.returns] at h; cases h)
  refine ⟨_, _, pre0 _ ?_, hrun, hended, _, _, rfl, ?_, ⟨_, rfl⟩, hW, hsame.mono (by decide) (by decide)⟩
  · show own_S p e below s₁ (mkF m 0 #[vr u2, vr u0] []) _
    refine XS.aloadN X0.here hx rfl (hb hby d5_0) rfl rfl ?_
    show own_S p e below s₁ (mkF m 1 #[vr u2, vr u0] [xr u2]) _
    refine st1 _ ?_
    show own_S p e below T1 (mkF m 4 #[vr u2, vr u0] [xr u0, xr u2]) _
    refine Jvm.RoadKit.acmp (g := (mkF m 4 #[vr u2, vr u0] [xr u0, xr u2])) X1 hx rfl rfl rfl (pc0 := 4) (pc' := 7) (same := false) rfl (hb hby d5_4) rfl (own_ref (own_ne_u2_u0 G)) (by decide) (by decide) ?_
    show own_S p e below T1 (mkF m 7 #[vr u2, vr u0] []) _
    refine XS.aloadN X1.here hx rfl (hb hby d5_7) rfl rfl ?_
    show own_S p e below T1 (mkF m 8 #[vr u2, vr u0] [xr u0]) _
    refine st2 _ ?_
    show own_S p e below T2 (mkF m 11 #[vr u2, vr u0] [xr u0, xr u0]) _
    refine Jvm.RoadKit.acmp (g := (mkF m 11 #[vr u2, vr u0] [xr u0, xr u0])) X2 hx rfl rfl rfl (pc0 := 11) (pc' := 14) (same := true) rfl (hb hby d5_11) rfl (decide_eq_true rfl) (by decide) (by decide) ?_
    show own_S p e below T2 (mkF m 14 #[vr u2, vr u0] []) _
    refine st3 _ ?_
    show own_S p e below T3 (mkF m 17 #[vr u2, vr u0] [xr u0]) _
    exact X3.areturnOut hx rfl Bd.returns rfl (hb hby d5_17) hr
  · exact ⟨rfl, N0, e3⟩
theorem ef_own_l14 (m : MethodId) (u0 u1 u2 : Addr) (p1 : Int32) (p2 : Int32) (p3 : Int32) : entryFrame m #[xi p1, xi p2, xi p3] maxLocals = (mkF m 0 #[vi p1, vi p2, vi p3, vu, vu, vu, vu, vu, vu] []) := by first | (simp [entryFrame, mkF, argsToLocals, Value.category, maxLocals]; done) | rfl
set_option maxRecDepth 65536 in
set_option maxHeartbeats 40000000 in
theorem own_l14 (l : Launch) (Z : State) (a0 : Array Value) (hw : ∀ d ∈ tables_1, d.before a0 Z = true) (u0 u1 u2 : Addr) (G : own_St Z u0 u1 u2) (p1 : Int32) (p2 : Int32) (p3 : Int32) (as6 : (p3 &&& (1 : Int32)) = (0 : Int32)) (as2 : ((p1 &&& (2147483647 : Int32)) - ((p1 &&& (2147483647 : Int32)) / (3 : Int32)) * (3 : Int32)) = (2 : Int32)) (as4 : ((p2 &&& (2147483647 : Int32)) - ((p2 &&& (2147483647 : Int32)) / (3 : Int32)) * (3 : Int32)) = (1 : Int32)) (h0 : Heap) (n0 : Nat) (O0 : Old Z n0 h0) : own_Met l Z x code maxLocals ret room_1 #[xi p1, xi p2, xi p3] h0 (own_QL (some (xi (1 : Int32))) n0) := by
  intro ws
  refine MetFree.of_bodySF (plainFor_of_name pn0) hisR ?_
  intro p e s m args below meth c s₁ Bd hml0 hP hK
  obtain ⟨rfl, hZ, hh⟩ := hP
  have hx := Bd.exec
  have hby := Bd.bytes
  have hml : c.maxLocals = 9 := hml0
  have hown : s.vm.findClass "com/example/arbitrium/arbitrium/policy/TruthNotPinLaw" = some m.cls := findClass_of_methodNamed Bd.named
  have hnm := (name_of_methodNamed Bd.named Bd.method).1
  have X0 : Stand p l e room_1 s m #[xi p1, xi p2, xi p3] below meth c s₁ [] 0 0 := Stand.of_body Bd
  have e0 : s₁.heap = h0 := by rw [← hh, Bd.state]; rfl
  have N0 := Fr.nil n0
  have pre0 : ∀ t, Steps p.tables e below (s₁.setTop (mkF m 0 #[vi p1, vi p2, vi p3, vu, vu, vu, vu, vu, vu] [])) t → Steps p.tables e below (s₁.setTop (entryFrame m #[xi p1, xi p2, xi p3] maxLocals)) t := fun t k => castTop (ef_own_l14 m u0 u1 u2 p1 p2 p3) k
  obtain ⟨_, _, ⟨T1, L1, k1, n1⟩, -, X1, ⟨Lc1, hQ1, l1, y1, z1⟩, st1⟩ := Jvm.LawKit.callS X0 hx (y := Y0) hown (mvT hZ (ww hw 0 rfl)) (mvT hZ (ww hw 1 rfl)) (mvT hZ (ww hw 2 rfl)) (mvT hZ (ww hw 3 rfl)) (by decide) (backOf (W := 0) (own_c22_pick l Z a0 hw u0 u1 u2 G p1 as2 h0 n0 O0 []) hZ (ww hw 3 rfl) (ww hw 2 rfl) (by decide) (by decide)) (g := (mkF m 13 #[vi p1, vi p2, vi p3, vi (0 : Int32), vu, vu, vu, vu, vu] [xi p1])) rfl (by rw [hml]; rfl) (argsL := [xi p1]) (rest := []) (lenOf pd0 rfl) rfl (by show 2 * 0 + _ ≤ _; exact Nat.le_of_eq rfl) (hb hby at_13) (fun _ _ => ⟨rfl, e0, (by decide : 0 + 0 ≤ _), (by decide : 0 + 0 ≤ _)⟩)
  dsimp only [Pt.U, Pt.locs, Pt.cells, Pt.slots] at X1 l1 y1 z1 st1 hQ1
  subst l1 y1 z1
  obtain ⟨rfl, Nq1, e1⟩ := hQ1
  have N1 := Fr.app N0 Nq1
  obtain ⟨_, _, ⟨T2, L2, k2, n2⟩, -, X2, ⟨Lc2, hQ2, l2, y2, z2⟩, st2⟩ := Jvm.LawKit.callS X1 hx (y := Y0) hown (mvT hZ (ww hw 0 rfl)) (mvT hZ (ww hw 1 rfl)) (mvT hZ (ww hw 2 rfl)) (mvT hZ (ww hw 3 rfl)) (by decide) (backOf (W := 0) (own_c8_pick l Z a0 hw u0 u1 u2 G p2 as4 h0 n0 O0 []) hZ (ww hw 3 rfl) (ww hw 2 rfl) (by decide) (by decide)) (g := (mkF m 19 #[vi p1, vi p2, vi p3, vi (0 : Int32), vr u2, vu, vu, vu, vu] [xi p2])) rfl (by rw [hml]; rfl) (argsL := [xi p2]) (rest := []) (lenOf pd0 rfl) rfl (by show 2 * 0 + _ ≤ _; exact Nat.le_of_eq rfl) (hb hby at_19) (fun _ _ => ⟨rfl, e1, (by decide : 0 + 0 ≤ _), (by decide : 0 + 0 ≤ _)⟩)
  dsimp only [Pt.U, Pt.locs, Pt.cells, Pt.slots] at X2 l2 y2 z2 st2 hQ2
  subst l2 y2 z2
  obtain ⟨rfl, Nq2, e2⟩ := hQ2
  have N2 := Fr.app N1 Nq2
  obtain ⟨_, _, ⟨T3, L3, k3, n3⟩, -, X3, ⟨Lc3, hQ3, l3, y3, z3⟩, st3⟩ := Jvm.LawKit.callS X2 hx (y := Y1) hown (mvT hZ (ww hw 8 rfl)) (mvT hZ (ww hw 9 rfl)) (mvT hZ (ww hw 6 rfl)) (mvT hZ (ww hw 10 rfl)) (by decide) (backOf (W := 0) (own_c2_of l Z a0 hw u0 u1 u2 G h0 n0 O0 []) hZ (ww hw 10 rfl) (ww hw 6 rfl) (by decide) (by decide)) (g := (mkF m 33 #[vi p1, vi p2, vi p3, vi (0 : Int32), vr u2, vr u1, vu, vu, vu] [xi (1 : Int32)])) rfl (by rw [hml]; rfl) (argsL := [xi (1 : Int32)]) (rest := []) (lenOf pd1 rfl) rfl (by show 2 * 0 + _ ≤ _; exact Nat.le_of_eq rfl) (hb hby at_33) (fun _ _ => ⟨rfl, e2, (by decide : 0 + 0 ≤ _), (by decide : 0 + 0 ≤ _)⟩)
  dsimp only [Pt.U, Pt.locs, Pt.cells, Pt.slots] at X3 l3 y3 z3 st3 hQ3
  subst l3 y3 z3
  obtain ⟨rfl, Nq3, e3⟩ := hQ3
  have N3 := Fr.app N2 Nq3
  obtain ⟨_, _, ⟨T4, L4, k4, n4⟩, -, X4, ⟨Lc4, hQ4, l4, y4, z4⟩, st4⟩ := Jvm.LawKit.callS X3 hx (y := Y1) hown (mvT hZ (ww hw 8 rfl)) (mvT hZ (ww hw 9 rfl)) (mvT hZ (ww hw 6 rfl)) (mvT hZ (ww hw 10 rfl)) (by decide) (backOf (W := 1) (own_c3_of l Z a0 hw u0 u1 u2 G h0 n0 O0 []) hZ (ww hw 10 rfl) (ww hw 6 rfl) (by decide) (by decide)) (g := (mkF m 37 #[vi p1, vi p2, vi p3, vi (0 : Int32), vr u2, vr u1, vu, vu, vu] [xi (0 : Int32), xr u0])) rfl (by rw [hml]; rfl) (argsL := [xi (0 : Int32)]) (rest := [xr u0]) (lenOf pd1 rfl) rfl (by show 2 * 0 + _ ≤ _; exact Nat.le_of_eq rfl) (hb hby at_37) (fun _ _ => ⟨rfl, e3, (by decide : 0 + 0 ≤ _), (by decide : 0 + 0 ≤ _)⟩)
  dsimp only [Pt.U, Pt.locs, Pt.cells, Pt.slots] at X4 l4 y4 z4 st4 hQ4
  subst l4 y4 z4
  obtain ⟨rfl, Nq4, e4⟩ := hQ4
  have N4 := Fr.app N3 Nq4
  obtain ⟨cq5, kq5, qa5, qb5, qc5⟩ := isOf hZ e4 ((own_X_u1 G).ext O0.2)
  obtain ⟨_, _, ⟨T5, L5, k5, n5⟩, -, X5, ⟨Lc5, hQ5, l5, y5, z5⟩, st5⟩ := X4.virtualBack hx (y := Y2) (z := Y2) hown (mvT hZ (ww hw 14 rfl)) (mvT hZ (ww hw 15 rfl)) (notFace_of_selects (args := #[]) (mvT hZ (ww hw 17 rfl))) (mvT hZ (ww hw 17 rfl)) (mvT hZ (ww hw 16 rfl)) (by decide) (backOf (W := 1) (own_c4_not l Z a0 hw u0 u1 u2 G h0 n0 O0 []) hZ (ww hw 18 rfl) (ww hw 6 rfl) (by decide) (by decide)) qa5 qc5 (g := (mkF m 40 #[vi p1, vi p2, vi p3, vi (0 : Int32), vr u2, vr u1, vu, vu, vu] [xr u1, xr u0])) rfl (by rw [hml]; rfl) (Steps.refl _) (argsL := []) (rest := [xr u0]) (lenOf pd2 rfl) rfl (by show 2 * 0 + _ ≤ _; exact Nat.le_of_eq rfl) (hb hby at_40) (fun _ _ => ⟨rfl, e4, (by decide : 0 + 0 ≤ _), (by decide : 0 + 0 ≤ _)⟩)
  dsimp only [Pt.U, Pt.locs, Pt.cells, Pt.slots] at X5 l5 y5 z5 st5 hQ5
  subst l5 y5 z5
  obtain ⟨rfl, Nq5, e5⟩ := hQ5
  have N5 := Fr.app N4 Nq5
  obtain ⟨cq6, kq6, qa6, qb6, qc6⟩ := isOf hZ e5 ((own_X_u2 G).ext O0.2)
  obtain ⟨_, _, ⟨T6, L6, k6, n6⟩, -, X6, ⟨Lc6, hQ6, l6, y6, z6⟩, st6⟩ := X5.virtualBack hx (y := Y2) (z := Y2) hown (mvT hZ (ww hw 14 rfl)) (mvT hZ (ww hw 15 rfl)) (notFace_of_selects (args := #[]) (mvT hZ (ww hw 17 rfl))) (mvT hZ (ww hw 17 rfl)) (mvT hZ (ww hw 16 rfl)) (by decide) (backOf (W := 0) (own_c13_not l Z a0 hw u0 u1 u2 G h0 n0 O0 []) hZ (ww hw 18 rfl) (ww hw 6 rfl) (by decide) (by decide)) qa6 qc6 (g := (mkF m 55 #[vi p1, vi p2, vi p3, vi (0 : Int32), vr u2, vr u1, vi (1 : Int32), vu, vu] [xr u2])) rfl (by rw [hml]; rfl) (Steps.refl _) (argsL := []) (rest := []) (lenOf pd2 rfl) rfl (by show 2 * 0 + _ ≤ _; exact Nat.le_of_eq rfl) (hb hby at_55) (fun _ _ => ⟨rfl, e5, (by decide : 0 + 0 ≤ _), (by decide : 0 + 0 ≤ _)⟩)
  dsimp only [Pt.U, Pt.locs, Pt.cells, Pt.slots] at X6 l6 y6 z6 st6 hQ6
  subst l6 y6 z6
  obtain ⟨rfl, Nq6, e6⟩ := hQ6
  have N6 := Fr.app N5 Nq6
  obtain ⟨cq7, kq7, qa7, qb7, qc7⟩ := isOf hZ e6 ((own_X_u2 G).ext O0.2)
  obtain ⟨_, _, ⟨T7, L7, k7, n7⟩, -, X7, ⟨Lc7, hQ7, l7, y7, z7⟩, st7⟩ := X6.virtualBack hx (y := Y2) (z := Y2) hown (mvT hZ (ww hw 14 rfl)) (mvT hZ (ww hw 15 rfl)) (notFace_of_selects (args := #[]) (mvT hZ (ww hw 17 rfl))) (mvT hZ (ww hw 17 rfl)) (mvT hZ (ww hw 16 rfl)) (by decide) (backOf (W := 0) (own_c13_not l Z a0 hw u0 u1 u2 G h0 n0 O0 []) hZ (ww hw 18 rfl) (ww hw 6 rfl) (by decide) (by decide)) qa7 qc7 (g := (mkF m 58 #[vi p1, vi p2, vi p3, vi (0 : Int32), vr u2, vr u1, vi (1 : Int32), vu, vu] [xr u2])) rfl (by rw [hml]; rfl) (Steps.refl _) (argsL := []) (rest := []) (lenOf pd2 rfl) rfl (by show 2 * 0 + _ ≤ _; exact Nat.le_of_eq rfl) (hb hby at_58) (fun _ _ => ⟨rfl, e6, (by decide : 0 + 0 ≤ _), (by decide : 0 + 0 ≤ _)⟩)
  dsimp only [Pt.U, Pt.locs, Pt.cells, Pt.slots] at X7 l7 y7 z7 st7 hQ7
  subst l7 y7 z7
  obtain ⟨rfl, Nq7, e7⟩ := hQ7
  have N7 := Fr.app N6 Nq7
  obtain ⟨cq8, kq8, qa8, qb8, qc8⟩ := isOf hZ e7 ((own_X_u2 G).ext O0.2)
  obtain ⟨_, _, ⟨T8, L8, k8, n8⟩, -, X8, ⟨Lc8, hQ8, l8, y8, z8⟩, st8⟩ := X7.virtualBack hx (y := Y3) (z := Y3) hown (mvT hZ (ww hw 21 rfl)) (mvT hZ (ww hw 22 rfl)) (notFace_of_selects (args := #[]) (mvT hZ (ww hw 24 rfl))) (mvT hZ (ww hw 24 rfl)) (mvT hZ (ww hw 23 rfl)) (by decide) (backOf (W := 0) (own_c25_and l Z a0 hw u0 u1 u2 G h0 n0 O0 []) hZ (ww hw 25 rfl) (ww hw 6 rfl) (by decide) (by decide)) qa8 qc8 (g := (mkF m 77 #[vi p1, vi p2, vi p3, vi (0 : Int32), vr u2, vr u1, vi (1 : Int32), vi (1 : Int32), vu] [xr u1, xr u2])) rfl (by rw [hml]; rfl) (Steps.refl _) (argsL := [xr u1]) (rest := []) (lenOf pd3 rfl) rfl (by show 2 * 0 + _ ≤ _; exact Nat.le_of_eq rfl) (hb hby at_77) (fun _ _ => ⟨rfl, e7, (by decide : 0 + 0 ≤ _), (by decide : 0 + 0 ≤ _)⟩)
  dsimp only [Pt.U, Pt.locs, Pt.cells, Pt.slots] at X8 l8 y8 z8 st8 hQ8
  subst l8 y8 z8
  obtain ⟨rfl, Nq8, e8⟩ := hQ8
  have N8 := Fr.app N7 Nq8
  obtain ⟨cq9, kq9, qa9, qb9, qc9⟩ := isOf hZ e8 ((own_X_u1 G).ext O0.2)
  obtain ⟨_, _, ⟨T9, L9, k9, n9⟩, -, X9, ⟨Lc9, hQ9, l9, y9, z9⟩, st9⟩ := X8.virtualBack hx (y := Y2) (z := Y2) hown (mvT hZ (ww hw 14 rfl)) (mvT hZ (ww hw 15 rfl)) (notFace_of_selects (args := #[]) (mvT hZ (ww hw 17 rfl))) (mvT hZ (ww hw 17 rfl)) (mvT hZ (ww hw 16 rfl)) (by decide) (backOf (W := 0) (own_c4_not l Z a0 hw u0 u1 u2 G h0 n0 O0 []) hZ (ww hw 18 rfl) (ww hw 6 rfl) (by decide) (by decide)) qa9 qc9 (g := (mkF m 80 #[vi p1, vi p2, vi p3, vi (0 : Int32), vr u2, vr u1, vi (1 : Int32), vi (1 : Int32), vu] [xr u1])) rfl (by rw [hml]; rfl) (Steps.refl _) (argsL := []) (rest := []) (lenOf pd2 rfl) rfl (by show 2 * 0 + _ ≤ _; exact Nat.le_of_eq rfl) (hb hby at_80) (fun _ _ => ⟨rfl, e8, (by decide : 0 + 0 ≤ _), (by decide : 0 + 0 ≤ _)⟩)
  dsimp only [Pt.U, Pt.locs, Pt.cells, Pt.slots] at X9 l9 y9 z9 st9 hQ9
  subst l9 y9 z9
  obtain ⟨rfl, Nq9, e9⟩ := hQ9
  have N9 := Fr.app N8 Nq9
  obtain ⟨cq10, kq10, qa10, qb10, qc10⟩ := isOf hZ e9 ((own_X_u2 G).ext O0.2)
  obtain ⟨_, _, ⟨T10, L10, k10, n10⟩, -, X10, ⟨Lc10, hQ10, l10, y10, z10⟩, st10⟩ := X9.virtualBack hx (y := Y2) (z := Y2) hown (mvT hZ (ww hw 14 rfl)) (mvT hZ (ww hw 15 rfl)) (notFace_of_selects (args := #[]) (mvT hZ (ww hw 17 rfl))) (mvT hZ (ww hw 17 rfl)) (mvT hZ (ww hw 16 rfl)) (by decide) (backOf (W := 1) (own_c13_not l Z a0 hw u0 u1 u2 G h0 n0 O0 []) hZ (ww hw 18 rfl) (ww hw 6 rfl) (by decide) (by decide)) qa10 qc10 (g := (mkF m 85 #[vi p1, vi p2, vi p3, vi (0 : Int32), vr u2, vr u1, vi (1 : Int32), vi (1 : Int32), vu] [xr u2, xr u0])) rfl (by rw [hml]; rfl) (Steps.refl _) (argsL := []) (rest := [xr u0]) (lenOf pd2 rfl) rfl (by show 2 * 0 + _ ≤ _; exact Nat.le_of_eq rfl) (hb hby at_85) (fun _ _ => ⟨rfl, e9, (by decide : 0 + 0 ≤ _), (by decide : 0 + 0 ≤ _)⟩)
  dsimp only [Pt.U, Pt.locs, Pt.cells, Pt.slots] at X10 l10 y10 z10 st10 hQ10
  subst l10 y10 z10
  obtain ⟨rfl, Nq10, e10⟩ := hQ10
  have N10 := Fr.app N9 Nq10
  obtain ⟨cq11, kq11, qa11, qb11, qc11⟩ := isOf hZ e10 ((own_X_u1 G).ext O0.2)
  obtain ⟨_, _, ⟨T11, L11, k11, n11⟩, -, X11, ⟨Lc11, hQ11, l11, y11, z11⟩, st11⟩ := X10.virtualBack hx (y := Y2) (z := Y2) hown (mvT hZ (ww hw 14 rfl)) (mvT hZ (ww hw 15 rfl)) (notFace_of_selects (args := #[]) (mvT hZ (ww hw 17 rfl))) (mvT hZ (ww hw 17 rfl)) (mvT hZ (ww hw 16 rfl)) (by decide) (backOf (W := 2) (own_c4_not l Z a0 hw u0 u1 u2 G h0 n0 O0 []) hZ (ww hw 18 rfl) (ww hw 6 rfl) (by decide) (by decide)) qa11 qc11 (g := (mkF m 90 #[vi p1, vi p2, vi p3, vi (0 : Int32), vr u2, vr u1, vi (1 : Int32), vi (1 : Int32), vu] [xr u1, xr u2, xr u0])) rfl (by rw [hml]; rfl) (Steps.refl _) (argsL := []) (rest := [xr u2, xr u0]) (lenOf pd2 rfl) rfl (by show 2 * 0 + _ ≤ _; exact Nat.le_of_eq rfl) (hb hby at_90) (fun _ _ => ⟨rfl, e10, (by decide : 0 + 0 ≤ _), (by decide : 0 + 0 ≤ _)⟩)
  dsimp only [Pt.U, Pt.locs, Pt.cells, Pt.slots] at X11 l11 y11 z11 st11 hQ11
  subst l11 y11 z11
  obtain ⟨rfl, Nq11, e11⟩ := hQ11
  have N11 := Fr.app N10 Nq11
  obtain ⟨cq12, kq12, qa12, qb12, qc12⟩ := isOf hZ e11 ((own_X_u2 G).ext O0.2)
  obtain ⟨_, _, ⟨T12, L12, k12, n12⟩, -, X12, ⟨Lc12, hQ12, l12, y12, z12⟩, st12⟩ := X11.virtualBack hx (y := Y4) (z := Y4) hown (mvT hZ (ww hw 26 rfl)) (mvT hZ (ww hw 27 rfl)) (notFace_of_selects (args := #[]) (mvT hZ (ww hw 29 rfl))) (mvT hZ (ww hw 29 rfl)) (mvT hZ (ww hw 28 rfl)) (by decide) (backOf (W := 1) (own_c26_or l Z a0 hw u0 u1 u2 G h0 n0 O0 []) hZ (ww hw 30 rfl) (ww hw 6 rfl) (by decide) (by decide)) qa12 qc12 (g := (mkF m 93 #[vi p1, vi p2, vi p3, vi (0 : Int32), vr u2, vr u1, vi (1 : Int32), vi (1 : Int32), vu] [xr u0, xr u2, xr u0])) rfl (by rw [hml]; rfl) (Steps.refl _) (argsL := [xr u0]) (rest := [xr u0]) (lenOf pd3 rfl) rfl (by show 2 * 0 + _ ≤ _; exact Nat.le_of_eq rfl) (hb hby at_93) (fun _ _ => ⟨rfl, e11, (by decide : 0 + 0 ≤ _), (by decide : 0 + 0 ≤ _)⟩)
  dsimp only [Pt.U, Pt.locs, Pt.cells, Pt.slots] at X12 l12 y12 z12 st12 hQ12
  subst l12 y12 z12
  obtain ⟨rfl, Nq12, e12⟩ := hQ12
  have N12 := Fr.app N11 Nq12
  obtain ⟨fs, hr, hrun, hended, hW, hsame⟩ := X12.leave (v := some (xi (1 : Int32))) (fun h => by rw [Bd.returns] at h; cases h)
  refine ⟨_, _, pre0 _ ?_, hrun, hended, _, _, rfl, ?_, ⟨_, rfl⟩, hW, hsame.mono (by decide) (by decide)⟩
  · show own_S p e below s₁ (mkF m 0 #[vi p1, vi p2, vi p3, vu, vu, vu, vu, vu, vu] []) _
    refine XS.iloadN X0.here hx rfl (hb hby at_0) rfl ?_
    show own_S p e below s₁ (mkF m 1 #[vi p1, vi p2, vi p3, vu, vu, vu, vu, vu, vu] [xi p3]) _
    refine XS.iconst X0.here hx rfl (hb hby at_1) ?_
    show own_S p e below s₁ (mkF m 2 #[vi p1, vi p2, vi p3, vu, vu, vu, vu, vu, vu] [xi (1 : Int32), xi p3]) _
    refine XS.iand X0.here hx rfl (hb hby at_2) rfl ?_
    show own_S p e below s₁ (mkF m 3 #[vi p1, vi p2, vi p3, vu, vu, vu, vu, vu, vu] [xi (p3 &&& (1 : Int32))]) _
    refine castTop (show (mkF m 3 #[vi p1, vi p2, vi p3, vu, vu, vu, vu, vu, vu] [xi (p3 &&& (1 : Int32))]) = (mkF m 3 #[vi p1, vi p2, vi p3, vu, vu, vu, vu, vu, vu] [xi (0 : Int32)]) from by rw [as6]) ?_
    show own_S p e below s₁ (mkF m 3 #[vi p1, vi p2, vi p3, vu, vu, vu, vu, vu, vu] [xi (0 : Int32)]) _
    refine XS.ifYes X0.here hx rfl (pc0 := 3) (pc' := 10) rfl (hb hby at_3) rfl (by decide) (by decide) (by decide) ?_
    show own_S p e below s₁ (mkF m 10 #[vi p1, vi p2, vi p3, vu, vu, vu, vu, vu, vu] []) _
    refine XS.iconst X0.here hx rfl (hb hby at_10) ?_
    show own_S p e below s₁ (mkF m 11 #[vi p1, vi p2, vi p3, vu, vu, vu, vu, vu, vu] [xi (0 : Int32)]) _
    refine XS.istoreN X0.here hx rfl (hb hby at_11) rfl (l' := #[vi p1, vi p2, vi p3, vi (0 : Int32), vu, vu, vu, vu, vu]) rfl ?_
    show own_S p e below s₁ (mkF m 12 #[vi p1, vi p2, vi p3, vi (0 : Int32), vu, vu, vu, vu, vu] []) _
    refine XS.iloadN X0.here hx rfl (hb hby at_12) rfl ?_
    show own_S p e below s₁ (mkF m 13 #[vi p1, vi p2, vi p3, vi (0 : Int32), vu, vu, vu, vu, vu] [xi p1]) _
    refine st1 _ ?_
    show own_S p e below T1 (mkF m 16 #[vi p1, vi p2, vi p3, vi (0 : Int32), vu, vu, vu, vu, vu] [xr u2]) _
    refine XS.astore X1.here hx rfl (hb hby at_16) rfl rfl (l' := #[vi p1, vi p2, vi p3, vi (0 : Int32), vr u2, vu, vu, vu, vu]) rfl ?_
    show own_S p e below T1 (mkF m 18 #[vi p1, vi p2, vi p3, vi (0 : Int32), vr u2, vu, vu, vu, vu] []) _
    refine XS.iloadN X1.here hx rfl (hb hby at_18) rfl ?_
    show own_S p e below T1 (mkF m 19 #[vi p1, vi p2, vi p3, vi (0 : Int32), vr u2, vu, vu, vu, vu] [xi p2]) _
    refine st2 _ ?_
    show own_S p e below T2 (mkF m 22 #[vi p1, vi p2, vi p3, vi (0 : Int32), vr u2, vu, vu, vu, vu] [xr u1]) _
    refine XS.astore X2.here hx rfl (hb hby at_22) rfl rfl (l' := #[vi p1, vi p2, vi p3, vi (0 : Int32), vr u2, vr u1, vu, vu, vu]) rfl ?_
    show own_S p e below T2 (mkF m 24 #[vi p1, vi p2, vi p3, vi (0 : Int32), vr u2, vr u1, vu, vu, vu] []) _
    refine XS.iloadN X2.here hx rfl (hb hby at_24) rfl ?_
    show own_S p e below T2 (mkF m 25 #[vi p1, vi p2, vi p3, vi (0 : Int32), vr u2, vr u1, vu, vu, vu] [xi (0 : Int32)]) _
    refine XS.ifNo X2.here hx rfl (hb hby at_25) rfl (by decide) ?_
    show own_S p e below T2 (mkF m 28 #[vi p1, vi p2, vi p3, vi (0 : Int32), vr u2, vr u1, vu, vu, vu] []) _
    refine XS.iconst X2.here hx rfl (hb hby at_28) ?_
    show own_S p e below T2 (mkF m 29 #[vi p1, vi p2, vi p3, vi (0 : Int32), vr u2, vr u1, vu, vu, vu] [xi (1 : Int32)]) _
    refine XS.goto X2.here hx rfl (pc0 := 29) (pc' := 33) rfl (hb hby at_29) (by decide) (by decide) ?_
    show own_S p e below T2 (mkF m 33 #[vi p1, vi p2, vi p3, vi (0 : Int32), vr u2, vr u1, vu, vu, vu] [xi (1 : Int32)]) _
    refine st3 _ ?_
    show own_S p e below T3 (mkF m 36 #[vi p1, vi p2, vi p3, vi (0 : Int32), vr u2, vr u1, vu, vu, vu] [xr u0]) _
    refine XS.iloadN X3.here hx rfl (hb hby at_36) rfl ?_
    show own_S p e below T3 (mkF m 37 #[vi p1, vi p2, vi p3, vi (0 : Int32), vr u2, vr u1, vu, vu, vu] [xi (0 : Int32), xr u0]) _
    refine st4 _ ?_
    show own_S p e below T4 (mkF m 40 #[vi p1, vi p2, vi p3, vi (0 : Int32), vr u2, vr u1, vu, vu, vu] [xr u1, xr u0]) _
    refine st5.trans ?_
    show own_S p e below T5 (mkF m 43 #[vi p1, vi p2, vi p3, vi (0 : Int32), vr u2, vr u1, vu, vu, vu] [xr u0, xr u0]) _
    refine Jvm.RoadKit.acmp (g := (mkF m 43 #[vi p1, vi p2, vi p3, vi (0 : Int32), vr u2, vr u1, vu, vu, vu] [xr u0, xr u0])) X5 hx rfl rfl rfl (pc0 := 43) (pc' := 46) (same := true) rfl (hb hby at_43) rfl (decide_eq_true rfl) (by decide) (by decide) ?_
    show own_S p e below T5 (mkF m 46 #[vi p1, vi p2, vi p3, vi (0 : Int32), vr u2, vr u1, vu, vu, vu] []) _
    refine XS.iconst X5.here hx rfl (hb hby at_46) ?_
    show own_S p e below T5 (mkF m 47 #[vi p1, vi p2, vi p3, vi (0 : Int32), vr u2, vr u1, vu, vu, vu] [xi (1 : Int32)]) _
    refine XS.goto X5.here hx rfl (pc0 := 47) (pc' := 51) rfl (hb hby at_47) (by decide) (by decide) ?_
    show own_S p e below T5 (mkF m 51 #[vi p1, vi p2, vi p3, vi (0 : Int32), vr u2, vr u1, vu, vu, vu] [xi (1 : Int32)]) _
    refine XS.istore X5.here hx rfl (hb hby at_51) rfl (l' := #[vi p1, vi p2, vi p3, vi (0 : Int32), vr u2, vr u1, vi (1 : Int32), vu, vu]) rfl ?_
    show own_S p e below T5 (mkF m 53 #[vi p1, vi p2, vi p3, vi (0 : Int32), vr u2, vr u1, vi (1 : Int32), vu, vu] []) _
    refine XS.aload X5.here hx rfl (hb hby at_53) rfl rfl ?_
    show own_S p e below T5 (mkF m 55 #[vi p1, vi p2, vi p3, vi (0 : Int32), vr u2, vr u1, vi (1 : Int32), vu, vu] [xr u2]) _
    refine st6.trans ?_
    show own_S p e below T6 (mkF m 58 #[vi p1, vi p2, vi p3, vi (0 : Int32), vr u2, vr u1, vi (1 : Int32), vu, vu] [xr u2]) _
    refine st7.trans ?_
    show own_S p e below T7 (mkF m 61 #[vi p1, vi p2, vi p3, vi (0 : Int32), vr u2, vr u1, vi (1 : Int32), vu, vu] [xr u2]) _
    refine XS.aload X7.here hx rfl (hb hby at_61) rfl rfl ?_
    show own_S p e below T7 (mkF m 63 #[vi p1, vi p2, vi p3, vi (0 : Int32), vr u2, vr u1, vi (1 : Int32), vu, vu] [xr u2, xr u2]) _
    refine Jvm.RoadKit.acmp (g := (mkF m 63 #[vi p1, vi p2, vi p3, vi (0 : Int32), vr u2, vr u1, vi (1 : Int32), vu, vu] [xr u2, xr u2])) X7 hx rfl rfl rfl (pc0 := 63) (pc' := 66) (same := true) rfl (hb hby at_63) rfl (decide_eq_true rfl) (by decide) (by decide) ?_
    show own_S p e below T7 (mkF m 66 #[vi p1, vi p2, vi p3, vi (0 : Int32), vr u2, vr u1, vi (1 : Int32), vu, vu] []) _
    refine XS.iconst X7.here hx rfl (hb hby at_66) ?_
    show own_S p e below T7 (mkF m 67 #[vi p1, vi p2, vi p3, vi (0 : Int32), vr u2, vr u1, vi (1 : Int32), vu, vu] [xi (1 : Int32)]) _
    refine XS.goto X7.here hx rfl (pc0 := 67) (pc' := 71) rfl (hb hby at_67) (by decide) (by decide) ?_
    show own_S p e below T7 (mkF m 71 #[vi p1, vi p2, vi p3, vi (0 : Int32), vr u2, vr u1, vi (1 : Int32), vu, vu] [xi (1 : Int32)]) _
    refine XS.istore X7.here hx rfl (hb hby at_71) rfl (l' := #[vi p1, vi p2, vi p3, vi (0 : Int32), vr u2, vr u1, vi (1 : Int32), vi (1 : Int32), vu]) rfl ?_
    show own_S p e below T7 (mkF m 73 #[vi p1, vi p2, vi p3, vi (0 : Int32), vr u2, vr u1, vi (1 : Int32), vi (1 : Int32), vu] []) _
    refine XS.aload X7.here hx rfl (hb hby at_73) rfl rfl ?_
    show own_S p e below T7 (mkF m 75 #[vi p1, vi p2, vi p3, vi (0 : Int32), vr u2, vr u1, vi (1 : Int32), vi (1 : Int32), vu] [xr u2]) _
    refine XS.aload X7.here hx rfl (hb hby at_75) rfl rfl ?_
    show own_S p e below T7 (mkF m 77 #[vi p1, vi p2, vi p3, vi (0 : Int32), vr u2, vr u1, vi (1 : Int32), vi (1 : Int32), vu] [xr u1, xr u2]) _
    refine st8.trans ?_
    show own_S p e below T8 (mkF m 80 #[vi p1, vi p2, vi p3, vi (0 : Int32), vr u2, vr u1, vi (1 : Int32), vi (1 : Int32), vu] [xr u1]) _
    refine st9.trans ?_
    show own_S p e below T9 (mkF m 83 #[vi p1, vi p2, vi p3, vi (0 : Int32), vr u2, vr u1, vi (1 : Int32), vi (1 : Int32), vu] [xr u0]) _
    refine XS.aload X9.here hx rfl (hb hby at_83) rfl rfl ?_
    show own_S p e below T9 (mkF m 85 #[vi p1, vi p2, vi p3, vi (0 : Int32), vr u2, vr u1, vi (1 : Int32), vi (1 : Int32), vu] [xr u2, xr u0]) _
    refine st10.trans ?_
    show own_S p e below T10 (mkF m 88 #[vi p1, vi p2, vi p3, vi (0 : Int32), vr u2, vr u1, vi (1 : Int32), vi (1 : Int32), vu] [xr u2, xr u0]) _
    refine XS.aload X10.here hx rfl (hb hby at_88) rfl rfl ?_
    show own_S p e below T10 (mkF m 90 #[vi p1, vi p2, vi p3, vi (0 : Int32), vr u2, vr u1, vi (1 : Int32), vi (1 : Int32), vu] [xr u1, xr u2, xr u0]) _
    refine st11.trans ?_
    show own_S p e below T11 (mkF m 93 #[vi p1, vi p2, vi p3, vi (0 : Int32), vr u2, vr u1, vi (1 : Int32), vi (1 : Int32), vu] [xr u0, xr u2, xr u0]) _
    refine st12.trans ?_
    show own_S p e below T12 (mkF m 96 #[vi p1, vi p2, vi p3, vi (0 : Int32), vr u2, vr u1, vi (1 : Int32), vi (1 : Int32), vu] [xr u0, xr u0]) _
    refine Jvm.RoadKit.acmp (g := (mkF m 96 #[vi p1, vi p2, vi p3, vi (0 : Int32), vr u2, vr u1, vi (1 : Int32), vi (1 : Int32), vu] [xr u0, xr u0])) X12 hx rfl rfl rfl (pc0 := 96) (pc' := 99) (same := true) rfl (hb hby at_96) rfl (decide_eq_true rfl) (by decide) (by decide) ?_
    show own_S p e below T12 (mkF m 99 #[vi p1, vi p2, vi p3, vi (0 : Int32), vr u2, vr u1, vi (1 : Int32), vi (1 : Int32), vu] []) _
    refine XS.iconst X12.here hx rfl (hb hby at_99) ?_
    show own_S p e below T12 (mkF m 100 #[vi p1, vi p2, vi p3, vi (0 : Int32), vr u2, vr u1, vi (1 : Int32), vi (1 : Int32), vu] [xi (1 : Int32)]) _
    refine XS.goto X12.here hx rfl (pc0 := 100) (pc' := 104) rfl (hb hby at_100) (by decide) (by decide) ?_
    show own_S p e below T12 (mkF m 104 #[vi p1, vi p2, vi p3, vi (0 : Int32), vr u2, vr u1, vi (1 : Int32), vi (1 : Int32), vu] [xi (1 : Int32)]) _
    refine XS.istore X12.here hx rfl (hb hby at_104) rfl (l' := #[vi p1, vi p2, vi p3, vi (0 : Int32), vr u2, vr u1, vi (1 : Int32), vi (1 : Int32), vi (1 : Int32)]) rfl ?_
    show own_S p e below T12 (mkF m 106 #[vi p1, vi p2, vi p3, vi (0 : Int32), vr u2, vr u1, vi (1 : Int32), vi (1 : Int32), vi (1 : Int32)] []) _
    refine XS.iload X12.here hx rfl (hb hby at_106) rfl ?_
    show own_S p e below T12 (mkF m 108 #[vi p1, vi p2, vi p3, vi (0 : Int32), vr u2, vr u1, vi (1 : Int32), vi (1 : Int32), vi (1 : Int32)] [xi (1 : Int32)]) _
    refine XS.ifNo X12.here hx rfl (hb hby at_108) rfl (by decide) ?_
    show own_S p e below T12 (mkF m 111 #[vi p1, vi p2, vi p3, vi (0 : Int32), vr u2, vr u1, vi (1 : Int32), vi (1 : Int32), vi (1 : Int32)] []) _
    refine XS.iload X12.here hx rfl (hb hby at_111) rfl ?_
    show own_S p e below T12 (mkF m 113 #[vi p1, vi p2, vi p3, vi (0 : Int32), vr u2, vr u1, vi (1 : Int32), vi (1 : Int32), vi (1 : Int32)] [xi (1 : Int32)]) _
    refine XS.ifNo X12.here hx rfl (hb hby at_113) rfl (by decide) ?_
    show own_S p e below T12 (mkF m 116 #[vi p1, vi p2, vi p3, vi (0 : Int32), vr u2, vr u1, vi (1 : Int32), vi (1 : Int32), vi (1 : Int32)] []) _
    refine XS.iload X12.here hx rfl (hb hby at_116) rfl ?_
    show own_S p e below T12 (mkF m 118 #[vi p1, vi p2, vi p3, vi (0 : Int32), vr u2, vr u1, vi (1 : Int32), vi (1 : Int32), vi (1 : Int32)] [xi (1 : Int32)]) _
    refine XS.ifNo X12.here hx rfl (hb hby at_118) rfl (by decide) ?_
    show own_S p e below T12 (mkF m 121 #[vi p1, vi p2, vi p3, vi (0 : Int32), vr u2, vr u1, vi (1 : Int32), vi (1 : Int32), vi (1 : Int32)] []) _
    refine XS.iconst X12.here hx rfl (hb hby at_121) ?_
    show own_S p e below T12 (mkF m 122 #[vi p1, vi p2, vi p3, vi (0 : Int32), vr u2, vr u1, vi (1 : Int32), vi (1 : Int32), vi (1 : Int32)] [xi (1 : Int32)]) _
    refine XS.goto X12.here hx rfl (pc0 := 122) (pc' := 126) rfl (hb hby at_122) (by decide) (by decide) ?_
    show own_S p e below T12 (mkF m 126 #[vi p1, vi p2, vi p3, vi (0 : Int32), vr u2, vr u1, vi (1 : Int32), vi (1 : Int32), vi (1 : Int32)] [xi (1 : Int32)]) _
    exact retN X12 hx (t := .boolean) Bd.returns (by simp) (hb hby at_126) hr
  · exact ⟨rfl, N12⟩
theorem ef_own_l15 (m : MethodId) (u0 u1 u2 : Addr) (p1 : Int32) (p2 : Int32) (p3 : Int32) : entryFrame m #[xi p1, xi p2, xi p3] maxLocals = (mkF m 0 #[vi p1, vi p2, vi p3, vu, vu, vu, vu, vu, vu] []) := by first | (simp [entryFrame, mkF, argsToLocals, Value.category, maxLocals]; done) | rfl
set_option maxRecDepth 65536 in
set_option maxHeartbeats 40000000 in
theorem own_l15 (l : Launch) (Z : State) (a0 : Array Value) (hw : ∀ d ∈ tables_1, d.before a0 Z = true) (u0 u1 u2 : Addr) (G : own_St Z u0 u1 u2) (p1 : Int32) (p2 : Int32) (p3 : Int32) (as7 : (p3 &&& (1 : Int32)) = (1 : Int32)) (as2 : ((p1 &&& (2147483647 : Int32)) - ((p1 &&& (2147483647 : Int32)) / (3 : Int32)) * (3 : Int32)) = (2 : Int32)) (as4 : ((p2 &&& (2147483647 : Int32)) - ((p2 &&& (2147483647 : Int32)) / (3 : Int32)) * (3 : Int32)) = (1 : Int32)) (h0 : Heap) (n0 : Nat) (O0 : Old Z n0 h0) : own_Met l Z x code maxLocals ret room_1 #[xi p1, xi p2, xi p3] h0 (own_QL (some (xi (1 : Int32))) n0) := by
  intro ws
  refine MetFree.of_bodySF (plainFor_of_name pn0) hisR ?_
  intro p e s m args below meth c s₁ Bd hml0 hP hK
  obtain ⟨rfl, hZ, hh⟩ := hP
  have hx := Bd.exec
  have hby := Bd.bytes
  have hml : c.maxLocals = 9 := hml0
  have hown : s.vm.findClass "com/example/arbitrium/arbitrium/policy/TruthNotPinLaw" = some m.cls := findClass_of_methodNamed Bd.named
  have hnm := (name_of_methodNamed Bd.named Bd.method).1
  have X0 : Stand p l e room_1 s m #[xi p1, xi p2, xi p3] below meth c s₁ [] 0 0 := Stand.of_body Bd
  have e0 : s₁.heap = h0 := by rw [← hh, Bd.state]; rfl
  have N0 := Fr.nil n0
  have pre0 : ∀ t, Steps p.tables e below (s₁.setTop (mkF m 0 #[vi p1, vi p2, vi p3, vu, vu, vu, vu, vu, vu] [])) t → Steps p.tables e below (s₁.setTop (entryFrame m #[xi p1, xi p2, xi p3] maxLocals)) t := fun t k => castTop (ef_own_l15 m u0 u1 u2 p1 p2 p3) k
  obtain ⟨_, _, ⟨T1, L1, k1, n1⟩, -, X1, ⟨Lc1, hQ1, l1, y1, z1⟩, st1⟩ := Jvm.LawKit.callS X0 hx (y := Y0) hown (mvT hZ (ww hw 0 rfl)) (mvT hZ (ww hw 1 rfl)) (mvT hZ (ww hw 2 rfl)) (mvT hZ (ww hw 3 rfl)) (by decide) (backOf (W := 0) (own_c22_pick l Z a0 hw u0 u1 u2 G p1 as2 h0 n0 O0 []) hZ (ww hw 3 rfl) (ww hw 2 rfl) (by decide) (by decide)) (g := (mkF m 13 #[vi p1, vi p2, vi p3, vi (1 : Int32), vu, vu, vu, vu, vu] [xi p1])) rfl (by rw [hml]; rfl) (argsL := [xi p1]) (rest := []) (lenOf pd0 rfl) rfl (by show 2 * 0 + _ ≤ _; exact Nat.le_of_eq rfl) (hb hby at_13) (fun _ _ => ⟨rfl, e0, (by decide : 0 + 0 ≤ _), (by decide : 0 + 0 ≤ _)⟩)
  dsimp only [Pt.U, Pt.locs, Pt.cells, Pt.slots] at X1 l1 y1 z1 st1 hQ1
  subst l1 y1 z1
  obtain ⟨rfl, Nq1, e1⟩ := hQ1
  have N1 := Fr.app N0 Nq1
  obtain ⟨_, _, ⟨T2, L2, k2, n2⟩, -, X2, ⟨Lc2, hQ2, l2, y2, z2⟩, st2⟩ := Jvm.LawKit.callS X1 hx (y := Y0) hown (mvT hZ (ww hw 0 rfl)) (mvT hZ (ww hw 1 rfl)) (mvT hZ (ww hw 2 rfl)) (mvT hZ (ww hw 3 rfl)) (by decide) (backOf (W := 0) (own_c8_pick l Z a0 hw u0 u1 u2 G p2 as4 h0 n0 O0 []) hZ (ww hw 3 rfl) (ww hw 2 rfl) (by decide) (by decide)) (g := (mkF m 19 #[vi p1, vi p2, vi p3, vi (1 : Int32), vr u2, vu, vu, vu, vu] [xi p2])) rfl (by rw [hml]; rfl) (argsL := [xi p2]) (rest := []) (lenOf pd0 rfl) rfl (by show 2 * 0 + _ ≤ _; exact Nat.le_of_eq rfl) (hb hby at_19) (fun _ _ => ⟨rfl, e1, (by decide : 0 + 0 ≤ _), (by decide : 0 + 0 ≤ _)⟩)
  dsimp only [Pt.U, Pt.locs, Pt.cells, Pt.slots] at X2 l2 y2 z2 st2 hQ2
  subst l2 y2 z2
  obtain ⟨rfl, Nq2, e2⟩ := hQ2
  have N2 := Fr.app N1 Nq2
  obtain ⟨_, _, ⟨T3, L3, k3, n3⟩, -, X3, ⟨Lc3, hQ3, l3, y3, z3⟩, st3⟩ := Jvm.LawKit.callS X2 hx (y := Y1) hown (mvT hZ (ww hw 8 rfl)) (mvT hZ (ww hw 9 rfl)) (mvT hZ (ww hw 6 rfl)) (mvT hZ (ww hw 10 rfl)) (by decide) (backOf (W := 0) (own_c3_of l Z a0 hw u0 u1 u2 G h0 n0 O0 []) hZ (ww hw 10 rfl) (ww hw 6 rfl) (by decide) (by decide)) (g := (mkF m 33 #[vi p1, vi p2, vi p3, vi (1 : Int32), vr u2, vr u1, vu, vu, vu] [xi (0 : Int32)])) rfl (by rw [hml]; rfl) (argsL := [xi (0 : Int32)]) (rest := []) (lenOf pd1 rfl) rfl (by show 2 * 0 + _ ≤ _; exact Nat.le_of_eq rfl) (hb hby at_33) (fun _ _ => ⟨rfl, e2, (by decide : 0 + 0 ≤ _), (by decide : 0 + 0 ≤ _)⟩)
  dsimp only [Pt.U, Pt.locs, Pt.cells, Pt.slots] at X3 l3 y3 z3 st3 hQ3
  subst l3 y3 z3
  obtain ⟨rfl, Nq3, e3⟩ := hQ3
  have N3 := Fr.app N2 Nq3
  obtain ⟨_, _, ⟨T4, L4, k4, n4⟩, -, X4, ⟨Lc4, hQ4, l4, y4, z4⟩, st4⟩ := Jvm.LawKit.callS X3 hx (y := Y1) hown (mvT hZ (ww hw 8 rfl)) (mvT hZ (ww hw 9 rfl)) (mvT hZ (ww hw 6 rfl)) (mvT hZ (ww hw 10 rfl)) (by decide) (backOf (W := 1) (own_c2_of l Z a0 hw u0 u1 u2 G h0 n0 O0 []) hZ (ww hw 10 rfl) (ww hw 6 rfl) (by decide) (by decide)) (g := (mkF m 37 #[vi p1, vi p2, vi p3, vi (1 : Int32), vr u2, vr u1, vu, vu, vu] [xi (1 : Int32), xr u1])) rfl (by rw [hml]; rfl) (argsL := [xi (1 : Int32)]) (rest := [xr u1]) (lenOf pd1 rfl) rfl (by show 2 * 0 + _ ≤ _; exact Nat.le_of_eq rfl) (hb hby at_37) (fun _ _ => ⟨rfl, e3, (by decide : 0 + 0 ≤ _), (by decide : 0 + 0 ≤ _)⟩)
  dsimp only [Pt.U, Pt.locs, Pt.cells, Pt.slots] at X4 l4 y4 z4 st4 hQ4
  subst l4 y4 z4
  obtain ⟨rfl, Nq4, e4⟩ := hQ4
  have N4 := Fr.app N3 Nq4
  obtain ⟨cq5, kq5, qa5, qb5, qc5⟩ := isOf hZ e4 ((own_X_u0 G).ext O0.2)
  obtain ⟨_, _, ⟨T5, L5, k5, n5⟩, -, X5, ⟨Lc5, hQ5, l5, y5, z5⟩, st5⟩ := X4.virtualBack hx (y := Y2) (z := Y2) hown (mvT hZ (ww hw 14 rfl)) (mvT hZ (ww hw 15 rfl)) (notFace_of_selects (args := #[]) (mvT hZ (ww hw 17 rfl))) (mvT hZ (ww hw 17 rfl)) (mvT hZ (ww hw 16 rfl)) (by decide) (backOf (W := 1) (own_c5_not l Z a0 hw u0 u1 u2 G h0 n0 O0 []) hZ (ww hw 18 rfl) (ww hw 6 rfl) (by decide) (by decide)) qa5 qc5 (g := (mkF m 40 #[vi p1, vi p2, vi p3, vi (1 : Int32), vr u2, vr u1, vu, vu, vu] [xr u0, xr u1])) rfl (by rw [hml]; rfl) (Steps.refl _) (argsL := []) (rest := [xr u1]) (lenOf pd2 rfl) rfl (by show 2 * 0 + _ ≤ _; exact Nat.le_of_eq rfl) (hb hby at_40) (fun _ _ => ⟨rfl, e4, (by decide : 0 + 0 ≤ _), (by decide : 0 + 0 ≤ _)⟩)
  dsimp only [Pt.U, Pt.locs, Pt.cells, Pt.slots] at X5 l5 y5 z5 st5 hQ5
  subst l5 y5 z5
  obtain ⟨rfl, Nq5, e5⟩ := hQ5
  have N5 := Fr.app N4 Nq5
  obtain ⟨cq6, kq6, qa6, qb6, qc6⟩ := isOf hZ e5 ((own_X_u2 G).ext O0.2)
  obtain ⟨_, _, ⟨T6, L6, k6, n6⟩, -, X6, ⟨Lc6, hQ6, l6, y6, z6⟩, st6⟩ := X5.virtualBack hx (y := Y2) (z := Y2) hown (mvT hZ (ww hw 14 rfl)) (mvT hZ (ww hw 15 rfl)) (notFace_of_selects (args := #[]) (mvT hZ (ww hw 17 rfl))) (mvT hZ (ww hw 17 rfl)) (mvT hZ (ww hw 16 rfl)) (by decide) (backOf (W := 0) (own_c13_not l Z a0 hw u0 u1 u2 G h0 n0 O0 []) hZ (ww hw 18 rfl) (ww hw 6 rfl) (by decide) (by decide)) qa6 qc6 (g := (mkF m 55 #[vi p1, vi p2, vi p3, vi (1 : Int32), vr u2, vr u1, vi (1 : Int32), vu, vu] [xr u2])) rfl (by rw [hml]; rfl) (Steps.refl _) (argsL := []) (rest := []) (lenOf pd2 rfl) rfl (by show 2 * 0 + _ ≤ _; exact Nat.le_of_eq rfl) (hb hby at_55) (fun _ _ => ⟨rfl, e5, (by decide : 0 + 0 ≤ _), (by decide : 0 + 0 ≤ _)⟩)
  dsimp only [Pt.U, Pt.locs, Pt.cells, Pt.slots] at X6 l6 y6 z6 st6 hQ6
  subst l6 y6 z6
  obtain ⟨rfl, Nq6, e6⟩ := hQ6
  have N6 := Fr.app N5 Nq6
  obtain ⟨cq7, kq7, qa7, qb7, qc7⟩ := isOf hZ e6 ((own_X_u2 G).ext O0.2)
  obtain ⟨_, _, ⟨T7, L7, k7, n7⟩, -, X7, ⟨Lc7, hQ7, l7, y7, z7⟩, st7⟩ := X6.virtualBack hx (y := Y2) (z := Y2) hown (mvT hZ (ww hw 14 rfl)) (mvT hZ (ww hw 15 rfl)) (notFace_of_selects (args := #[]) (mvT hZ (ww hw 17 rfl))) (mvT hZ (ww hw 17 rfl)) (mvT hZ (ww hw 16 rfl)) (by decide) (backOf (W := 0) (own_c13_not l Z a0 hw u0 u1 u2 G h0 n0 O0 []) hZ (ww hw 18 rfl) (ww hw 6 rfl) (by decide) (by decide)) qa7 qc7 (g := (mkF m 58 #[vi p1, vi p2, vi p3, vi (1 : Int32), vr u2, vr u1, vi (1 : Int32), vu, vu] [xr u2])) rfl (by rw [hml]; rfl) (Steps.refl _) (argsL := []) (rest := []) (lenOf pd2 rfl) rfl (by show 2 * 0 + _ ≤ _; exact Nat.le_of_eq rfl) (hb hby at_58) (fun _ _ => ⟨rfl, e6, (by decide : 0 + 0 ≤ _), (by decide : 0 + 0 ≤ _)⟩)
  dsimp only [Pt.U, Pt.locs, Pt.cells, Pt.slots] at X7 l7 y7 z7 st7 hQ7
  subst l7 y7 z7
  obtain ⟨rfl, Nq7, e7⟩ := hQ7
  have N7 := Fr.app N6 Nq7
  obtain ⟨cq8, kq8, qa8, qb8, qc8⟩ := isOf hZ e7 ((own_X_u2 G).ext O0.2)
  obtain ⟨_, _, ⟨T8, L8, k8, n8⟩, -, X8, ⟨Lc8, hQ8, l8, y8, z8⟩, st8⟩ := X7.virtualBack hx (y := Y3) (z := Y3) hown (mvT hZ (ww hw 21 rfl)) (mvT hZ (ww hw 22 rfl)) (notFace_of_selects (args := #[]) (mvT hZ (ww hw 24 rfl))) (mvT hZ (ww hw 24 rfl)) (mvT hZ (ww hw 23 rfl)) (by decide) (backOf (W := 0) (own_c25_and l Z a0 hw u0 u1 u2 G h0 n0 O0 []) hZ (ww hw 25 rfl) (ww hw 6 rfl) (by decide) (by decide)) qa8 qc8 (g := (mkF m 77 #[vi p1, vi p2, vi p3, vi (1 : Int32), vr u2, vr u1, vi (1 : Int32), vi (1 : Int32), vu] [xr u1, xr u2])) rfl (by rw [hml]; rfl) (Steps.refl _) (argsL := [xr u1]) (rest := []) (lenOf pd3 rfl) rfl (by show 2 * 0 + _ ≤ _; exact Nat.le_of_eq rfl) (hb hby at_77) (fun _ _ => ⟨rfl, e7, (by decide : 0 + 0 ≤ _), (by decide : 0 + 0 ≤ _)⟩)
  dsimp only [Pt.U, Pt.locs, Pt.cells, Pt.slots] at X8 l8 y8 z8 st8 hQ8
  subst l8 y8 z8
  obtain ⟨rfl, Nq8, e8⟩ := hQ8
  have N8 := Fr.app N7 Nq8
  obtain ⟨cq9, kq9, qa9, qb9, qc9⟩ := isOf hZ e8 ((own_X_u1 G).ext O0.2)
  obtain ⟨_, _, ⟨T9, L9, k9, n9⟩, -, X9, ⟨Lc9, hQ9, l9, y9, z9⟩, st9⟩ := X8.virtualBack hx (y := Y2) (z := Y2) hown (mvT hZ (ww hw 14 rfl)) (mvT hZ (ww hw 15 rfl)) (notFace_of_selects (args := #[]) (mvT hZ (ww hw 17 rfl))) (mvT hZ (ww hw 17 rfl)) (mvT hZ (ww hw 16 rfl)) (by decide) (backOf (W := 0) (own_c4_not l Z a0 hw u0 u1 u2 G h0 n0 O0 []) hZ (ww hw 18 rfl) (ww hw 6 rfl) (by decide) (by decide)) qa9 qc9 (g := (mkF m 80 #[vi p1, vi p2, vi p3, vi (1 : Int32), vr u2, vr u1, vi (1 : Int32), vi (1 : Int32), vu] [xr u1])) rfl (by rw [hml]; rfl) (Steps.refl _) (argsL := []) (rest := []) (lenOf pd2 rfl) rfl (by show 2 * 0 + _ ≤ _; exact Nat.le_of_eq rfl) (hb hby at_80) (fun _ _ => ⟨rfl, e8, (by decide : 0 + 0 ≤ _), (by decide : 0 + 0 ≤ _)⟩)
  dsimp only [Pt.U, Pt.locs, Pt.cells, Pt.slots] at X9 l9 y9 z9 st9 hQ9
  subst l9 y9 z9
  obtain ⟨rfl, Nq9, e9⟩ := hQ9
  have N9 := Fr.app N8 Nq9
  obtain ⟨cq10, kq10, qa10, qb10, qc10⟩ := isOf hZ e9 ((own_X_u2 G).ext O0.2)
  obtain ⟨_, _, ⟨T10, L10, k10, n10⟩, -, X10, ⟨Lc10, hQ10, l10, y10, z10⟩, st10⟩ := X9.virtualBack hx (y := Y2) (z := Y2) hown (mvT hZ (ww hw 14 rfl)) (mvT hZ (ww hw 15 rfl)) (notFace_of_selects (args := #[]) (mvT hZ (ww hw 17 rfl))) (mvT hZ (ww hw 17 rfl)) (mvT hZ (ww hw 16 rfl)) (by decide) (backOf (W := 1) (own_c13_not l Z a0 hw u0 u1 u2 G h0 n0 O0 []) hZ (ww hw 18 rfl) (ww hw 6 rfl) (by decide) (by decide)) qa10 qc10 (g := (mkF m 85 #[vi p1, vi p2, vi p3, vi (1 : Int32), vr u2, vr u1, vi (1 : Int32), vi (1 : Int32), vu] [xr u2, xr u0])) rfl (by rw [hml]; rfl) (Steps.refl _) (argsL := []) (rest := [xr u0]) (lenOf pd2 rfl) rfl (by show 2 * 0 + _ ≤ _; exact Nat.le_of_eq rfl) (hb hby at_85) (fun _ _ => ⟨rfl, e9, (by decide : 0 + 0 ≤ _), (by decide : 0 + 0 ≤ _)⟩)
  dsimp only [Pt.U, Pt.locs, Pt.cells, Pt.slots] at X10 l10 y10 z10 st10 hQ10
  subst l10 y10 z10
  obtain ⟨rfl, Nq10, e10⟩ := hQ10
  have N10 := Fr.app N9 Nq10
  obtain ⟨cq11, kq11, qa11, qb11, qc11⟩ := isOf hZ e10 ((own_X_u1 G).ext O0.2)
  obtain ⟨_, _, ⟨T11, L11, k11, n11⟩, -, X11, ⟨Lc11, hQ11, l11, y11, z11⟩, st11⟩ := X10.virtualBack hx (y := Y2) (z := Y2) hown (mvT hZ (ww hw 14 rfl)) (mvT hZ (ww hw 15 rfl)) (notFace_of_selects (args := #[]) (mvT hZ (ww hw 17 rfl))) (mvT hZ (ww hw 17 rfl)) (mvT hZ (ww hw 16 rfl)) (by decide) (backOf (W := 2) (own_c4_not l Z a0 hw u0 u1 u2 G h0 n0 O0 []) hZ (ww hw 18 rfl) (ww hw 6 rfl) (by decide) (by decide)) qa11 qc11 (g := (mkF m 90 #[vi p1, vi p2, vi p3, vi (1 : Int32), vr u2, vr u1, vi (1 : Int32), vi (1 : Int32), vu] [xr u1, xr u2, xr u0])) rfl (by rw [hml]; rfl) (Steps.refl _) (argsL := []) (rest := [xr u2, xr u0]) (lenOf pd2 rfl) rfl (by show 2 * 0 + _ ≤ _; exact Nat.le_of_eq rfl) (hb hby at_90) (fun _ _ => ⟨rfl, e10, (by decide : 0 + 0 ≤ _), (by decide : 0 + 0 ≤ _)⟩)
  dsimp only [Pt.U, Pt.locs, Pt.cells, Pt.slots] at X11 l11 y11 z11 st11 hQ11
  subst l11 y11 z11
  obtain ⟨rfl, Nq11, e11⟩ := hQ11
  have N11 := Fr.app N10 Nq11
  obtain ⟨cq12, kq12, qa12, qb12, qc12⟩ := isOf hZ e11 ((own_X_u2 G).ext O0.2)
  obtain ⟨_, _, ⟨T12, L12, k12, n12⟩, -, X12, ⟨Lc12, hQ12, l12, y12, z12⟩, st12⟩ := X11.virtualBack hx (y := Y4) (z := Y4) hown (mvT hZ (ww hw 26 rfl)) (mvT hZ (ww hw 27 rfl)) (notFace_of_selects (args := #[]) (mvT hZ (ww hw 29 rfl))) (mvT hZ (ww hw 29 rfl)) (mvT hZ (ww hw 28 rfl)) (by decide) (backOf (W := 1) (own_c26_or l Z a0 hw u0 u1 u2 G h0 n0 O0 []) hZ (ww hw 30 rfl) (ww hw 6 rfl) (by decide) (by decide)) qa12 qc12 (g := (mkF m 93 #[vi p1, vi p2, vi p3, vi (1 : Int32), vr u2, vr u1, vi (1 : Int32), vi (1 : Int32), vu] [xr u0, xr u2, xr u0])) rfl (by rw [hml]; rfl) (Steps.refl _) (argsL := [xr u0]) (rest := [xr u0]) (lenOf pd3 rfl) rfl (by show 2 * 0 + _ ≤ _; exact Nat.le_of_eq rfl) (hb hby at_93) (fun _ _ => ⟨rfl, e11, (by decide : 0 + 0 ≤ _), (by decide : 0 + 0 ≤ _)⟩)
  dsimp only [Pt.U, Pt.locs, Pt.cells, Pt.slots] at X12 l12 y12 z12 st12 hQ12
  subst l12 y12 z12
  obtain ⟨rfl, Nq12, e12⟩ := hQ12
  have N12 := Fr.app N11 Nq12
  obtain ⟨fs, hr, hrun, hended, hW, hsame⟩ := X12.leave (v := some (xi (1 : Int32))) (fun h => by rw [Bd.returns] at h; cases h)
  refine ⟨_, _, pre0 _ ?_, hrun, hended, _, _, rfl, ?_, ⟨_, rfl⟩, hW, hsame.mono (by decide) (by decide)⟩
  · show own_S p e below s₁ (mkF m 0 #[vi p1, vi p2, vi p3, vu, vu, vu, vu, vu, vu] []) _
    refine XS.iloadN X0.here hx rfl (hb hby at_0) rfl ?_
    show own_S p e below s₁ (mkF m 1 #[vi p1, vi p2, vi p3, vu, vu, vu, vu, vu, vu] [xi p3]) _
    refine XS.iconst X0.here hx rfl (hb hby at_1) ?_
    show own_S p e below s₁ (mkF m 2 #[vi p1, vi p2, vi p3, vu, vu, vu, vu, vu, vu] [xi (1 : Int32), xi p3]) _
    refine XS.iand X0.here hx rfl (hb hby at_2) rfl ?_
    show own_S p e below s₁ (mkF m 3 #[vi p1, vi p2, vi p3, vu, vu, vu, vu, vu, vu] [xi (p3 &&& (1 : Int32))]) _
    refine castTop (show (mkF m 3 #[vi p1, vi p2, vi p3, vu, vu, vu, vu, vu, vu] [xi (p3 &&& (1 : Int32))]) = (mkF m 3 #[vi p1, vi p2, vi p3, vu, vu, vu, vu, vu, vu] [xi (1 : Int32)]) from by rw [as7]) ?_
    show own_S p e below s₁ (mkF m 3 #[vi p1, vi p2, vi p3, vu, vu, vu, vu, vu, vu] [xi (1 : Int32)]) _
    refine XS.ifNo X0.here hx rfl (hb hby at_3) rfl (by decide) ?_
    show own_S p e below s₁ (mkF m 6 #[vi p1, vi p2, vi p3, vu, vu, vu, vu, vu, vu] []) _
    refine XS.iconst X0.here hx rfl (hb hby at_6) ?_
    show own_S p e below s₁ (mkF m 7 #[vi p1, vi p2, vi p3, vu, vu, vu, vu, vu, vu] [xi (1 : Int32)]) _
    refine XS.goto X0.here hx rfl (pc0 := 7) (pc' := 11) rfl (hb hby at_7) (by decide) (by decide) ?_
    show own_S p e below s₁ (mkF m 11 #[vi p1, vi p2, vi p3, vu, vu, vu, vu, vu, vu] [xi (1 : Int32)]) _
    refine XS.istoreN X0.here hx rfl (hb hby at_11) rfl (l' := #[vi p1, vi p2, vi p3, vi (1 : Int32), vu, vu, vu, vu, vu]) rfl ?_
    show own_S p e below s₁ (mkF m 12 #[vi p1, vi p2, vi p3, vi (1 : Int32), vu, vu, vu, vu, vu] []) _
    refine XS.iloadN X0.here hx rfl (hb hby at_12) rfl ?_
    show own_S p e below s₁ (mkF m 13 #[vi p1, vi p2, vi p3, vi (1 : Int32), vu, vu, vu, vu, vu] [xi p1]) _
    refine st1 _ ?_
    show own_S p e below T1 (mkF m 16 #[vi p1, vi p2, vi p3, vi (1 : Int32), vu, vu, vu, vu, vu] [xr u2]) _
    refine XS.astore X1.here hx rfl (hb hby at_16) rfl rfl (l' := #[vi p1, vi p2, vi p3, vi (1 : Int32), vr u2, vu, vu, vu, vu]) rfl ?_
    show own_S p e below T1 (mkF m 18 #[vi p1, vi p2, vi p3, vi (1 : Int32), vr u2, vu, vu, vu, vu] []) _
    refine XS.iloadN X1.here hx rfl (hb hby at_18) rfl ?_
    show own_S p e below T1 (mkF m 19 #[vi p1, vi p2, vi p3, vi (1 : Int32), vr u2, vu, vu, vu, vu] [xi p2]) _
    refine st2 _ ?_
    show own_S p e below T2 (mkF m 22 #[vi p1, vi p2, vi p3, vi (1 : Int32), vr u2, vu, vu, vu, vu] [xr u1]) _
    refine XS.astore X2.here hx rfl (hb hby at_22) rfl rfl (l' := #[vi p1, vi p2, vi p3, vi (1 : Int32), vr u2, vr u1, vu, vu, vu]) rfl ?_
    show own_S p e below T2 (mkF m 24 #[vi p1, vi p2, vi p3, vi (1 : Int32), vr u2, vr u1, vu, vu, vu] []) _
    refine XS.iloadN X2.here hx rfl (hb hby at_24) rfl ?_
    show own_S p e below T2 (mkF m 25 #[vi p1, vi p2, vi p3, vi (1 : Int32), vr u2, vr u1, vu, vu, vu] [xi (1 : Int32)]) _
    refine XS.ifYes X2.here hx rfl (pc0 := 25) (pc' := 32) rfl (hb hby at_25) rfl (by decide) (by decide) (by decide) ?_
    show own_S p e below T2 (mkF m 32 #[vi p1, vi p2, vi p3, vi (1 : Int32), vr u2, vr u1, vu, vu, vu] []) _
    refine XS.iconst X2.here hx rfl (hb hby at_32) ?_
    show own_S p e below T2 (mkF m 33 #[vi p1, vi p2, vi p3, vi (1 : Int32), vr u2, vr u1, vu, vu, vu] [xi (0 : Int32)]) _
    refine st3 _ ?_
    show own_S p e below T3 (mkF m 36 #[vi p1, vi p2, vi p3, vi (1 : Int32), vr u2, vr u1, vu, vu, vu] [xr u1]) _
    refine XS.iloadN X3.here hx rfl (hb hby at_36) rfl ?_
    show own_S p e below T3 (mkF m 37 #[vi p1, vi p2, vi p3, vi (1 : Int32), vr u2, vr u1, vu, vu, vu] [xi (1 : Int32), xr u1]) _
    refine st4 _ ?_
    show own_S p e below T4 (mkF m 40 #[vi p1, vi p2, vi p3, vi (1 : Int32), vr u2, vr u1, vu, vu, vu] [xr u0, xr u1]) _
    refine st5.trans ?_
    show own_S p e below T5 (mkF m 43 #[vi p1, vi p2, vi p3, vi (1 : Int32), vr u2, vr u1, vu, vu, vu] [xr u1, xr u1]) _
    refine Jvm.RoadKit.acmp (g := (mkF m 43 #[vi p1, vi p2, vi p3, vi (1 : Int32), vr u2, vr u1, vu, vu, vu] [xr u1, xr u1])) X5 hx rfl rfl rfl (pc0 := 43) (pc' := 46) (same := true) rfl (hb hby at_43) rfl (decide_eq_true rfl) (by decide) (by decide) ?_
    show own_S p e below T5 (mkF m 46 #[vi p1, vi p2, vi p3, vi (1 : Int32), vr u2, vr u1, vu, vu, vu] []) _
    refine XS.iconst X5.here hx rfl (hb hby at_46) ?_
    show own_S p e below T5 (mkF m 47 #[vi p1, vi p2, vi p3, vi (1 : Int32), vr u2, vr u1, vu, vu, vu] [xi (1 : Int32)]) _
    refine XS.goto X5.here hx rfl (pc0 := 47) (pc' := 51) rfl (hb hby at_47) (by decide) (by decide) ?_
    show own_S p e below T5 (mkF m 51 #[vi p1, vi p2, vi p3, vi (1 : Int32), vr u2, vr u1, vu, vu, vu] [xi (1 : Int32)]) _
    refine XS.istore X5.here hx rfl (hb hby at_51) rfl (l' := #[vi p1, vi p2, vi p3, vi (1 : Int32), vr u2, vr u1, vi (1 : Int32), vu, vu]) rfl ?_
    show own_S p e below T5 (mkF m 53 #[vi p1, vi p2, vi p3, vi (1 : Int32), vr u2, vr u1, vi (1 : Int32), vu, vu] []) _
    refine XS.aload X5.here hx rfl (hb hby at_53) rfl rfl ?_
    show own_S p e below T5 (mkF m 55 #[vi p1, vi p2, vi p3, vi (1 : Int32), vr u2, vr u1, vi (1 : Int32), vu, vu] [xr u2]) _
    refine st6.trans ?_
    show own_S p e below T6 (mkF m 58 #[vi p1, vi p2, vi p3, vi (1 : Int32), vr u2, vr u1, vi (1 : Int32), vu, vu] [xr u2]) _
    refine st7.trans ?_
    show own_S p e below T7 (mkF m 61 #[vi p1, vi p2, vi p3, vi (1 : Int32), vr u2, vr u1, vi (1 : Int32), vu, vu] [xr u2]) _
    refine XS.aload X7.here hx rfl (hb hby at_61) rfl rfl ?_
    show own_S p e below T7 (mkF m 63 #[vi p1, vi p2, vi p3, vi (1 : Int32), vr u2, vr u1, vi (1 : Int32), vu, vu] [xr u2, xr u2]) _
    refine Jvm.RoadKit.acmp (g := (mkF m 63 #[vi p1, vi p2, vi p3, vi (1 : Int32), vr u2, vr u1, vi (1 : Int32), vu, vu] [xr u2, xr u2])) X7 hx rfl rfl rfl (pc0 := 63) (pc' := 66) (same := true) rfl (hb hby at_63) rfl (decide_eq_true rfl) (by decide) (by decide) ?_
    show own_S p e below T7 (mkF m 66 #[vi p1, vi p2, vi p3, vi (1 : Int32), vr u2, vr u1, vi (1 : Int32), vu, vu] []) _
    refine XS.iconst X7.here hx rfl (hb hby at_66) ?_
    show own_S p e below T7 (mkF m 67 #[vi p1, vi p2, vi p3, vi (1 : Int32), vr u2, vr u1, vi (1 : Int32), vu, vu] [xi (1 : Int32)]) _
    refine XS.goto X7.here hx rfl (pc0 := 67) (pc' := 71) rfl (hb hby at_67) (by decide) (by decide) ?_
    show own_S p e below T7 (mkF m 71 #[vi p1, vi p2, vi p3, vi (1 : Int32), vr u2, vr u1, vi (1 : Int32), vu, vu] [xi (1 : Int32)]) _
    refine XS.istore X7.here hx rfl (hb hby at_71) rfl (l' := #[vi p1, vi p2, vi p3, vi (1 : Int32), vr u2, vr u1, vi (1 : Int32), vi (1 : Int32), vu]) rfl ?_
    show own_S p e below T7 (mkF m 73 #[vi p1, vi p2, vi p3, vi (1 : Int32), vr u2, vr u1, vi (1 : Int32), vi (1 : Int32), vu] []) _
    refine XS.aload X7.here hx rfl (hb hby at_73) rfl rfl ?_
    show own_S p e below T7 (mkF m 75 #[vi p1, vi p2, vi p3, vi (1 : Int32), vr u2, vr u1, vi (1 : Int32), vi (1 : Int32), vu] [xr u2]) _
    refine XS.aload X7.here hx rfl (hb hby at_75) rfl rfl ?_
    show own_S p e below T7 (mkF m 77 #[vi p1, vi p2, vi p3, vi (1 : Int32), vr u2, vr u1, vi (1 : Int32), vi (1 : Int32), vu] [xr u1, xr u2]) _
    refine st8.trans ?_
    show own_S p e below T8 (mkF m 80 #[vi p1, vi p2, vi p3, vi (1 : Int32), vr u2, vr u1, vi (1 : Int32), vi (1 : Int32), vu] [xr u1]) _
    refine st9.trans ?_
    show own_S p e below T9 (mkF m 83 #[vi p1, vi p2, vi p3, vi (1 : Int32), vr u2, vr u1, vi (1 : Int32), vi (1 : Int32), vu] [xr u0]) _
    refine XS.aload X9.here hx rfl (hb hby at_83) rfl rfl ?_
    show own_S p e below T9 (mkF m 85 #[vi p1, vi p2, vi p3, vi (1 : Int32), vr u2, vr u1, vi (1 : Int32), vi (1 : Int32), vu] [xr u2, xr u0]) _
    refine st10.trans ?_
    show own_S p e below T10 (mkF m 88 #[vi p1, vi p2, vi p3, vi (1 : Int32), vr u2, vr u1, vi (1 : Int32), vi (1 : Int32), vu] [xr u2, xr u0]) _
    refine XS.aload X10.here hx rfl (hb hby at_88) rfl rfl ?_
    show own_S p e below T10 (mkF m 90 #[vi p1, vi p2, vi p3, vi (1 : Int32), vr u2, vr u1, vi (1 : Int32), vi (1 : Int32), vu] [xr u1, xr u2, xr u0]) _
    refine st11.trans ?_
    show own_S p e below T11 (mkF m 93 #[vi p1, vi p2, vi p3, vi (1 : Int32), vr u2, vr u1, vi (1 : Int32), vi (1 : Int32), vu] [xr u0, xr u2, xr u0]) _
    refine st12.trans ?_
    show own_S p e below T12 (mkF m 96 #[vi p1, vi p2, vi p3, vi (1 : Int32), vr u2, vr u1, vi (1 : Int32), vi (1 : Int32), vu] [xr u0, xr u0]) _
    refine Jvm.RoadKit.acmp (g := (mkF m 96 #[vi p1, vi p2, vi p3, vi (1 : Int32), vr u2, vr u1, vi (1 : Int32), vi (1 : Int32), vu] [xr u0, xr u0])) X12 hx rfl rfl rfl (pc0 := 96) (pc' := 99) (same := true) rfl (hb hby at_96) rfl (decide_eq_true rfl) (by decide) (by decide) ?_
    show own_S p e below T12 (mkF m 99 #[vi p1, vi p2, vi p3, vi (1 : Int32), vr u2, vr u1, vi (1 : Int32), vi (1 : Int32), vu] []) _
    refine XS.iconst X12.here hx rfl (hb hby at_99) ?_
    show own_S p e below T12 (mkF m 100 #[vi p1, vi p2, vi p3, vi (1 : Int32), vr u2, vr u1, vi (1 : Int32), vi (1 : Int32), vu] [xi (1 : Int32)]) _
    refine XS.goto X12.here hx rfl (pc0 := 100) (pc' := 104) rfl (hb hby at_100) (by decide) (by decide) ?_
    show own_S p e below T12 (mkF m 104 #[vi p1, vi p2, vi p3, vi (1 : Int32), vr u2, vr u1, vi (1 : Int32), vi (1 : Int32), vu] [xi (1 : Int32)]) _
    refine XS.istore X12.here hx rfl (hb hby at_104) rfl (l' := #[vi p1, vi p2, vi p3, vi (1 : Int32), vr u2, vr u1, vi (1 : Int32), vi (1 : Int32), vi (1 : Int32)]) rfl ?_
    show own_S p e below T12 (mkF m 106 #[vi p1, vi p2, vi p3, vi (1 : Int32), vr u2, vr u1, vi (1 : Int32), vi (1 : Int32), vi (1 : Int32)] []) _
    refine XS.iload X12.here hx rfl (hb hby at_106) rfl ?_
    show own_S p e below T12 (mkF m 108 #[vi p1, vi p2, vi p3, vi (1 : Int32), vr u2, vr u1, vi (1 : Int32), vi (1 : Int32), vi (1 : Int32)] [xi (1 : Int32)]) _
    refine XS.ifNo X12.here hx rfl (hb hby at_108) rfl (by decide) ?_
    show own_S p e below T12 (mkF m 111 #[vi p1, vi p2, vi p3, vi (1 : Int32), vr u2, vr u1, vi (1 : Int32), vi (1 : Int32), vi (1 : Int32)] []) _
    refine XS.iload X12.here hx rfl (hb hby at_111) rfl ?_
    show own_S p e below T12 (mkF m 113 #[vi p1, vi p2, vi p3, vi (1 : Int32), vr u2, vr u1, vi (1 : Int32), vi (1 : Int32), vi (1 : Int32)] [xi (1 : Int32)]) _
    refine XS.ifNo X12.here hx rfl (hb hby at_113) rfl (by decide) ?_
    show own_S p e below T12 (mkF m 116 #[vi p1, vi p2, vi p3, vi (1 : Int32), vr u2, vr u1, vi (1 : Int32), vi (1 : Int32), vi (1 : Int32)] []) _
    refine XS.iload X12.here hx rfl (hb hby at_116) rfl ?_
    show own_S p e below T12 (mkF m 118 #[vi p1, vi p2, vi p3, vi (1 : Int32), vr u2, vr u1, vi (1 : Int32), vi (1 : Int32), vi (1 : Int32)] [xi (1 : Int32)]) _
    refine XS.ifNo X12.here hx rfl (hb hby at_118) rfl (by decide) ?_
    show own_S p e below T12 (mkF m 121 #[vi p1, vi p2, vi p3, vi (1 : Int32), vr u2, vr u1, vi (1 : Int32), vi (1 : Int32), vi (1 : Int32)] []) _
    refine XS.iconst X12.here hx rfl (hb hby at_121) ?_
    show own_S p e below T12 (mkF m 122 #[vi p1, vi p2, vi p3, vi (1 : Int32), vr u2, vr u1, vi (1 : Int32), vi (1 : Int32), vi (1 : Int32)] [xi (1 : Int32)]) _
    refine XS.goto X12.here hx rfl (pc0 := 122) (pc' := 126) rfl (hb hby at_122) (by decide) (by decide) ?_
    show own_S p e below T12 (mkF m 126 #[vi p1, vi p2, vi p3, vi (1 : Int32), vr u2, vr u1, vi (1 : Int32), vi (1 : Int32), vi (1 : Int32)] [xi (1 : Int32)]) _
    exact retN X12 hx (t := .boolean) Bd.returns (by simp) (hb hby at_126) hr
  · exact ⟨rfl, N12⟩
theorem ef_own_c27_and (m : MethodId) (u0 u1 u2 : Addr) : entryFrame m #[xr u2, xr u2] 2 = (mkF m 0 #[vr u2, vr u2] []) := by first | (simp [entryFrame, mkF, argsToLocals, Value.category]; done) | rfl
set_option maxRecDepth 65536 in
set_option maxHeartbeats 40000000 in
theorem own_c27_and (l : Launch) (Z : State) (a0 : Array Value) (hw : ∀ d ∈ tables_1, d.before a0 Z = true) (u0 u1 u2 : Addr) (G : own_St Z u0 u1 u2) (h0 : Heap) (n0 : Nat) (O0 : Old Z n0 h0) : own_Met l Z Y3 prog_71_method_5_code 2 (some (.object "com/example/arbitrium/arbitrium/policy/Truth")) ({ frames := 0, cells := 0, slots := 0, locals := 0 } : Room) #[xr u2, xr u2] h0 (own_QR (some (xr u2)) h0 n0) := by
  intro ws
  refine MetFree.of_bodySF (plainFor_of_name pn1) hisR ?_
  intro p e s m args below meth c s₁ Bd hml0 hP hK
  obtain ⟨rfl, hZ, hh⟩ := hP
  have hx := Bd.exec
  have hby := Bd.bytes
  have hml : c.maxLocals = 2 := hml0
  have hown : s.vm.findClass "com/example/arbitrium/arbitrium/policy/Truth" = some m.cls := findClass_of_methodNamed Bd.named
  have hnm := (name_of_methodNamed Bd.named Bd.method).1
  have X0 : Stand p l e ({ frames := 0, cells := 0, slots := 0, locals := 0 } : Room) s m #[xr u2, xr u2] below meth c s₁ [] 0 0 := Stand.of_body Bd
  have e0 : s₁.heap = h0 := by rw [← hh, Bd.state]; rfl
  have N0 := Fr.nil n0
  have pre0 : ∀ t, Steps p.tables e below (s₁.setTop (mkF m 0 #[vr u2, vr u2] [])) t → Steps p.tables e below (s₁.setTop (entryFrame m #[xr u2, xr u2] 2)) t := fun t k => castTop (ef_own_c27_and m u0 u1 u2) k
  obtain ⟨T1, X1, e1, st1⟩ := getS2 X0 hx hZ hown (host := "") (Or.inl (ww hw 12 rfl)) Via.refl e0 ((own_S_u1 G).ext O0.2) (g := (mkF m 1 #[vr u2, vr u2] [xr u2])) rfl (hb hby d4_1)
  obtain ⟨T2, X2, e2, st2⟩ := getS2 X1 hx hZ hown (host := "") (Or.inl (ww hw 12 rfl)) Via.refl e1 ((own_S_u1 G).ext O0.2) (g := (mkF m 8 #[vr u2, vr u2] [xr u2])) rfl (hb hby d4_8)
  obtain ⟨T3, X3, e3, st3⟩ := getS2 X2 hx hZ hown (host := "") (Or.inl (ww hw 19 rfl)) Via.refl e2 ((own_S_u2 G).ext O0.2) (g := (mkF m 19 #[vr u2, vr u2] [xr u2])) rfl (hb hby d4_19)
  obtain ⟨T4, X4, e4, st4⟩ := getS2 X3 hx hZ hown (host := "") (Or.inl (ww hw 19 rfl)) Via.refl e3 ((own_S_u2 G).ext O0.2) (g := (mkF m 32 #[vr u2, vr u2] [])) rfl (hb hby d4_32)
  obtain ⟨fs, hr, hrun, hended, hW, hsame⟩ := X4.leave (v := some (xr u2)) (fun h => by rw [Bd.returns] at h; cases h)
  refine ⟨_, _, pre0 _ ?_, hrun, hended, _, _, rfl, ?_, ⟨_, rfl⟩, hW, hsame.mono (by decide) (by decide)⟩
  · show own_S p e below s₁ (mkF m 0 #[vr u2, vr u2] []) _
    refine XS.aloadN X0.here hx rfl (hb hby d4_0) rfl rfl ?_
    show own_S p e below s₁ (mkF m 1 #[vr u2, vr u2] [xr u2]) _
    refine st1 _ ?_
    show own_S p e below T1 (mkF m 4 #[vr u2, vr u2] [xr u1, xr u2]) _
    refine Jvm.RoadKit.acmp (g := (mkF m 4 #[vr u2, vr u2] [xr u1, xr u2])) X1 hx rfl rfl rfl (pc0 := 4) (pc' := 7) (same := false) rfl (hb hby d4_4) rfl (own_ref (own_ne_u2_u1 G)) (by decide) (by decide) ?_
    show own_S p e below T1 (mkF m 7 #[vr u2, vr u2] []) _
    refine XS.aloadN X1.here hx rfl (hb hby d4_7) rfl rfl ?_
    show own_S p e below T1 (mkF m 8 #[vr u2, vr u2] [xr u2]) _
    refine st2 _ ?_
    show own_S p e below T2 (mkF m 11 #[vr u2, vr u2] [xr u1, xr u2]) _
    refine Jvm.RoadKit.acmp (g := (mkF m 11 #[vr u2, vr u2] [xr u1, xr u2])) X2 hx rfl rfl rfl (pc0 := 11) (pc' := 18) (same := false) rfl (hb hby d4_11) rfl (own_ref (own_ne_u2_u1 G)) (by decide) (by decide) ?_
    show own_S p e below T2 (mkF m 18 #[vr u2, vr u2] []) _
    refine XS.aloadN X2.here hx rfl (hb hby d4_18) rfl rfl ?_
    show own_S p e below T2 (mkF m 19 #[vr u2, vr u2] [xr u2]) _
    refine st3 _ ?_
    show own_S p e below T3 (mkF m 22 #[vr u2, vr u2] [xr u2, xr u2]) _
    refine Jvm.RoadKit.acmp (g := (mkF m 22 #[vr u2, vr u2] [xr u2, xr u2])) X3 hx rfl rfl rfl (pc0 := 22) (pc' := 32) (same := true) rfl (hb hby d4_22) rfl (decide_eq_true rfl) (by decide) (by decide) ?_
    show own_S p e below T3 (mkF m 32 #[vr u2, vr u2] []) _
    refine st4 _ ?_
    show own_S p e below T4 (mkF m 35 #[vr u2, vr u2] [xr u2]) _
    refine XS.goto X4.here hx rfl (pc0 := 35) (pc' := 41) rfl (hb hby d4_35) (by decide) (by decide) ?_
    show own_S p e below T4 (mkF m 41 #[vr u2, vr u2] [xr u2]) _
    exact X4.areturnOut hx rfl Bd.returns rfl (hb hby d4_41) hr
  · exact ⟨rfl, N0, e4⟩
theorem ef_own_c28_or (m : MethodId) (u0 u1 u2 : Addr) : entryFrame m #[xr u2, xr u2] 2 = (mkF m 0 #[vr u2, vr u2] []) := by first | (simp [entryFrame, mkF, argsToLocals, Value.category]; done) | rfl
set_option maxRecDepth 65536 in
set_option maxHeartbeats 40000000 in
theorem own_c28_or (l : Launch) (Z : State) (a0 : Array Value) (hw : ∀ d ∈ tables_1, d.before a0 Z = true) (u0 u1 u2 : Addr) (G : own_St Z u0 u1 u2) (h0 : Heap) (n0 : Nat) (O0 : Old Z n0 h0) : own_Met l Z Y4 prog_71_method_6_code 2 (some (.object "com/example/arbitrium/arbitrium/policy/Truth")) ({ frames := 0, cells := 0, slots := 0, locals := 0 } : Room) #[xr u2, xr u2] h0 (own_QR (some (xr u2)) h0 n0) := by
  intro ws
  refine MetFree.of_bodySF (plainFor_of_name pn1) hisR ?_
  intro p e s m args below meth c s₁ Bd hml0 hP hK
  obtain ⟨rfl, hZ, hh⟩ := hP
  have hx := Bd.exec
  have hby := Bd.bytes
  have hml : c.maxLocals = 2 := hml0
  have hown : s.vm.findClass "com/example/arbitrium/arbitrium/policy/Truth" = some m.cls := findClass_of_methodNamed Bd.named
  have hnm := (name_of_methodNamed Bd.named Bd.method).1
  have X0 : Stand p l e ({ frames := 0, cells := 0, slots := 0, locals := 0 } : Room) s m #[xr u2, xr u2] below meth c s₁ [] 0 0 := Stand.of_body Bd
  have e0 : s₁.heap = h0 := by rw [← hh, Bd.state]; rfl
  have N0 := Fr.nil n0
  have pre0 : ∀ t, Steps p.tables e below (s₁.setTop (mkF m 0 #[vr u2, vr u2] [])) t → Steps p.tables e below (s₁.setTop (entryFrame m #[xr u2, xr u2] 2)) t := fun t k => castTop (ef_own_c28_or m u0 u1 u2) k
  obtain ⟨T1, X1, e1, st1⟩ := getS2 X0 hx hZ hown (host := "") (Or.inl (ww hw 11 rfl)) Via.refl e0 ((own_S_u0 G).ext O0.2) (g := (mkF m 1 #[vr u2, vr u2] [xr u2])) rfl (hb hby d5_1)
  obtain ⟨T2, X2, e2, st2⟩ := getS2 X1 hx hZ hown (host := "") (Or.inl (ww hw 11 rfl)) Via.refl e1 ((own_S_u0 G).ext O0.2) (g := (mkF m 8 #[vr u2, vr u2] [xr u2])) rfl (hb hby d5_8)
  obtain ⟨T3, X3, e3, st3⟩ := getS2 X2 hx hZ hown (host := "") (Or.inl (ww hw 19 rfl)) Via.refl e2 ((own_S_u2 G).ext O0.2) (g := (mkF m 19 #[vr u2, vr u2] [xr u2])) rfl (hb hby d5_19)
  obtain ⟨T4, X4, e4, st4⟩ := getS2 X3 hx hZ hown (host := "") (Or.inl (ww hw 19 rfl)) Via.refl e3 ((own_S_u2 G).ext O0.2) (g := (mkF m 32 #[vr u2, vr u2] [])) rfl (hb hby d5_32)
  obtain ⟨fs, hr, hrun, hended, hW, hsame⟩ := X4.leave (v := some (xr u2)) (fun h => by rw [Bd.returns] at h; cases h)
  refine ⟨_, _, pre0 _ ?_, hrun, hended, _, _, rfl, ?_, ⟨_, rfl⟩, hW, hsame.mono (by decide) (by decide)⟩
  · show own_S p e below s₁ (mkF m 0 #[vr u2, vr u2] []) _
    refine XS.aloadN X0.here hx rfl (hb hby d5_0) rfl rfl ?_
    show own_S p e below s₁ (mkF m 1 #[vr u2, vr u2] [xr u2]) _
    refine st1 _ ?_
    show own_S p e below T1 (mkF m 4 #[vr u2, vr u2] [xr u0, xr u2]) _
    refine Jvm.RoadKit.acmp (g := (mkF m 4 #[vr u2, vr u2] [xr u0, xr u2])) X1 hx rfl rfl rfl (pc0 := 4) (pc' := 7) (same := false) rfl (hb hby d5_4) rfl (own_ref (own_ne_u2_u0 G)) (by decide) (by decide) ?_
    show own_S p e below T1 (mkF m 7 #[vr u2, vr u2] []) _
    refine XS.aloadN X1.here hx rfl (hb hby d5_7) rfl rfl ?_
    show own_S p e below T1 (mkF m 8 #[vr u2, vr u2] [xr u2]) _
    refine st2 _ ?_
    show own_S p e below T2 (mkF m 11 #[vr u2, vr u2] [xr u0, xr u2]) _
    refine Jvm.RoadKit.acmp (g := (mkF m 11 #[vr u2, vr u2] [xr u0, xr u2])) X2 hx rfl rfl rfl (pc0 := 11) (pc' := 18) (same := false) rfl (hb hby d5_11) rfl (own_ref (own_ne_u2_u0 G)) (by decide) (by decide) ?_
    show own_S p e below T2 (mkF m 18 #[vr u2, vr u2] []) _
    refine XS.aloadN X2.here hx rfl (hb hby d5_18) rfl rfl ?_
    show own_S p e below T2 (mkF m 19 #[vr u2, vr u2] [xr u2]) _
    refine st3 _ ?_
    show own_S p e below T3 (mkF m 22 #[vr u2, vr u2] [xr u2, xr u2]) _
    refine Jvm.RoadKit.acmp (g := (mkF m 22 #[vr u2, vr u2] [xr u2, xr u2])) X3 hx rfl rfl rfl (pc0 := 22) (pc' := 32) (same := true) rfl (hb hby d5_22) rfl (decide_eq_true rfl) (by decide) (by decide) ?_
    show own_S p e below T3 (mkF m 32 #[vr u2, vr u2] []) _
    refine st4 _ ?_
    show own_S p e below T4 (mkF m 35 #[vr u2, vr u2] [xr u2]) _
    refine XS.goto X4.here hx rfl (pc0 := 35) (pc' := 41) rfl (hb hby d5_35) (by decide) (by decide) ?_
    show own_S p e below T4 (mkF m 41 #[vr u2, vr u2] [xr u2]) _
    exact X4.areturnOut hx rfl Bd.returns rfl (hb hby d5_41) hr
  · exact ⟨rfl, N0, e4⟩
theorem ef_own_l16 (m : MethodId) (u0 u1 u2 : Addr) (p1 : Int32) (p2 : Int32) (p3 : Int32) : entryFrame m #[xi p1, xi p2, xi p3] maxLocals = (mkF m 0 #[vi p1, vi p2, vi p3, vu, vu, vu, vu, vu, vu] []) := by first | (simp [entryFrame, mkF, argsToLocals, Value.category, maxLocals]; done) | rfl
set_option maxRecDepth 65536 in
set_option maxHeartbeats 40000000 in
theorem own_l16 (l : Launch) (Z : State) (a0 : Array Value) (hw : ∀ d ∈ tables_1, d.before a0 Z = true) (u0 u1 u2 : Addr) (G : own_St Z u0 u1 u2) (p1 : Int32) (p2 : Int32) (p3 : Int32) (as6 : (p3 &&& (1 : Int32)) = (0 : Int32)) (as2 : ((p1 &&& (2147483647 : Int32)) - ((p1 &&& (2147483647 : Int32)) / (3 : Int32)) * (3 : Int32)) = (2 : Int32)) (as5 : ((p2 &&& (2147483647 : Int32)) - ((p2 &&& (2147483647 : Int32)) / (3 : Int32)) * (3 : Int32)) = (2 : Int32)) (h0 : Heap) (n0 : Nat) (O0 : Old Z n0 h0) : own_Met l Z x code maxLocals ret room_1 #[xi p1, xi p2, xi p3] h0 (own_QL (some (xi (1 : Int32))) n0) := by
  intro ws
  refine MetFree.of_bodySF (plainFor_of_name pn0) hisR ?_
  intro p e s m args below meth c s₁ Bd hml0 hP hK
  obtain ⟨rfl, hZ, hh⟩ := hP
  have hx := Bd.exec
  have hby := Bd.bytes
  have hml : c.maxLocals = 9 := hml0
  have hown : s.vm.findClass "com/example/arbitrium/arbitrium/policy/TruthNotPinLaw" = some m.cls := findClass_of_methodNamed Bd.named
  have hnm := (name_of_methodNamed Bd.named Bd.method).1
  have X0 : Stand p l e room_1 s m #[xi p1, xi p2, xi p3] below meth c s₁ [] 0 0 := Stand.of_body Bd
  have e0 : s₁.heap = h0 := by rw [← hh, Bd.state]; rfl
  have N0 := Fr.nil n0
  have pre0 : ∀ t, Steps p.tables e below (s₁.setTop (mkF m 0 #[vi p1, vi p2, vi p3, vu, vu, vu, vu, vu, vu] [])) t → Steps p.tables e below (s₁.setTop (entryFrame m #[xi p1, xi p2, xi p3] maxLocals)) t := fun t k => castTop (ef_own_l16 m u0 u1 u2 p1 p2 p3) k
  obtain ⟨_, _, ⟨T1, L1, k1, n1⟩, -, X1, ⟨Lc1, hQ1, l1, y1, z1⟩, st1⟩ := Jvm.LawKit.callS X0 hx (y := Y0) hown (mvT hZ (ww hw 0 rfl)) (mvT hZ (ww hw 1 rfl)) (mvT hZ (ww hw 2 rfl)) (mvT hZ (ww hw 3 rfl)) (by decide) (backOf (W := 0) (own_c22_pick l Z a0 hw u0 u1 u2 G p1 as2 h0 n0 O0 []) hZ (ww hw 3 rfl) (ww hw 2 rfl) (by decide) (by decide)) (g := (mkF m 13 #[vi p1, vi p2, vi p3, vi (0 : Int32), vu, vu, vu, vu, vu] [xi p1])) rfl (by rw [hml]; rfl) (argsL := [xi p1]) (rest := []) (lenOf pd0 rfl) rfl (by show 2 * 0 + _ ≤ _; exact Nat.le_of_eq rfl) (hb hby at_13) (fun _ _ => ⟨rfl, e0, (by decide : 0 + 0 ≤ _), (by decide : 0 + 0 ≤ _)⟩)
  dsimp only [Pt.U, Pt.locs, Pt.cells, Pt.slots] at X1 l1 y1 z1 st1 hQ1
  subst l1 y1 z1
  obtain ⟨rfl, Nq1, e1⟩ := hQ1
  have N1 := Fr.app N0 Nq1
  obtain ⟨_, _, ⟨T2, L2, k2, n2⟩, -, X2, ⟨Lc2, hQ2, l2, y2, z2⟩, st2⟩ := Jvm.LawKit.callS X1 hx (y := Y0) hown (mvT hZ (ww hw 0 rfl)) (mvT hZ (ww hw 1 rfl)) (mvT hZ (ww hw 2 rfl)) (mvT hZ (ww hw 3 rfl)) (by decide) (backOf (W := 0) (own_c11_pick l Z a0 hw u0 u1 u2 G p2 as5 h0 n0 O0 []) hZ (ww hw 3 rfl) (ww hw 2 rfl) (by decide) (by decide)) (g := (mkF m 19 #[vi p1, vi p2, vi p3, vi (0 : Int32), vr u2, vu, vu, vu, vu] [xi p2])) rfl (by rw [hml]; rfl) (argsL := [xi p2]) (rest := []) (lenOf pd0 rfl) rfl (by show 2 * 0 + _ ≤ _; exact Nat.le_of_eq rfl) (hb hby at_19) (fun _ _ => ⟨rfl, e1, (by decide : 0 + 0 ≤ _), (by decide : 0 + 0 ≤ _)⟩)
  dsimp only [Pt.U, Pt.locs, Pt.cells, Pt.slots] at X2 l2 y2 z2 st2 hQ2
  subst l2 y2 z2
  obtain ⟨rfl, Nq2, e2⟩ := hQ2
  have N2 := Fr.app N1 Nq2
  obtain ⟨_, _, ⟨T3, L3, k3, n3⟩, -, X3, ⟨Lc3, hQ3, l3, y3, z3⟩, st3⟩ := Jvm.LawKit.callS X2 hx (y := Y1) hown (mvT hZ (ww hw 8 rfl)) (mvT hZ (ww hw 9 rfl)) (mvT hZ (ww hw 6 rfl)) (mvT hZ (ww hw 10 rfl)) (by decide) (backOf (W := 0) (own_c2_of l Z a0 hw u0 u1 u2 G h0 n0 O0 []) hZ (ww hw 10 rfl) (ww hw 6 rfl) (by decide) (by decide)) (g := (mkF m 33 #[vi p1, vi p2, vi p3, vi (0 : Int32), vr u2, vr u2, vu, vu, vu] [xi (1 : Int32)])) rfl (by rw [hml]; rfl) (argsL := [xi (1 : Int32)]) (rest := []) (lenOf pd1 rfl) rfl (by show 2 * 0 + _ ≤ _; exact Nat.le_of_eq rfl) (hb hby at_33) (fun _ _ => ⟨rfl, e2, (by decide : 0 + 0 ≤ _), (by decide : 0 + 0 ≤ _)⟩)
  dsimp only [Pt.U, Pt.locs, Pt.cells, Pt.slots] at X3 l3 y3 z3 st3 hQ3
  subst l3 y3 z3
  obtain ⟨rfl, Nq3, e3⟩ := hQ3
  have N3 := Fr.app N2 Nq3
  obtain ⟨_, _, ⟨T4, L4, k4, n4⟩, -, X4, ⟨Lc4, hQ4, l4, y4, z4⟩, st4⟩ := Jvm.LawKit.callS X3 hx (y := Y1) hown (mvT hZ (ww hw 8 rfl)) (mvT hZ (ww hw 9 rfl)) (mvT hZ (ww hw 6 rfl)) (mvT hZ (ww hw 10 rfl)) (by decide) (backOf (W := 1) (own_c3_of l Z a0 hw u0 u1 u2 G h0 n0 O0 []) hZ (ww hw 10 rfl) (ww hw 6 rfl) (by decide) (by decide)) (g := (mkF m 37 #[vi p1, vi p2, vi p3, vi (0 : Int32), vr u2, vr u2, vu, vu, vu] [xi (0 : Int32), xr u0])) rfl (by rw [hml]; rfl) (argsL := [xi (0 : Int32)]) (rest := [xr u0]) (lenOf pd1 rfl) rfl (by show 2 * 0 + _ ≤ _; exact Nat.le_of_eq rfl) (hb hby at_37) (fun _ _ => ⟨rfl, e3, (by decide : 0 + 0 ≤ _), (by decide : 0 + 0 ≤ _)⟩)
  dsimp only [Pt.U, Pt.locs, Pt.cells, Pt.slots] at X4 l4 y4 z4 st4 hQ4
  subst l4 y4 z4
  obtain ⟨rfl, Nq4, e4⟩ := hQ4
  have N4 := Fr.app N3 Nq4
  obtain ⟨cq5, kq5, qa5, qb5, qc5⟩ := isOf hZ e4 ((own_X_u1 G).ext O0.2)
  obtain ⟨_, _, ⟨T5, L5, k5, n5⟩, -, X5, ⟨Lc5, hQ5, l5, y5, z5⟩, st5⟩ := X4.virtualBack hx (y := Y2) (z := Y2) hown (mvT hZ (ww hw 14 rfl)) (mvT hZ (ww hw 15 rfl)) (notFace_of_selects (args := #[]) (mvT hZ (ww hw 17 rfl))) (mvT hZ (ww hw 17 rfl)) (mvT hZ (ww hw 16 rfl)) (by decide) (backOf (W := 1) (own_c4_not l Z a0 hw u0 u1 u2 G h0 n0 O0 []) hZ (ww hw 18 rfl) (ww hw 6 rfl) (by decide) (by decide)) qa5 qc5 (g := (mkF m 40 #[vi p1, vi p2, vi p3, vi (0 : Int32), vr u2, vr u2, vu, vu, vu] [xr u1, xr u0])) rfl (by rw [hml]; rfl) (Steps.refl _) (argsL := []) (rest := [xr u0]) (lenOf pd2 rfl) rfl (by show 2 * 0 + _ ≤ _; exact Nat.le_of_eq rfl) (hb hby at_40) (fun _ _ => ⟨rfl, e4, (by decide : 0 + 0 ≤ _), (by decide : 0 + 0 ≤ _)⟩)
  dsimp only [Pt.U, Pt.locs, Pt.cells, Pt.slots] at X5 l5 y5 z5 st5 hQ5
  subst l5 y5 z5
  obtain ⟨rfl, Nq5, e5⟩ := hQ5
  have N5 := Fr.app N4 Nq5
  obtain ⟨cq6, kq6, qa6, qb6, qc6⟩ := isOf hZ e5 ((own_X_u2 G).ext O0.2)
  obtain ⟨_, _, ⟨T6, L6, k6, n6⟩, -, X6, ⟨Lc6, hQ6, l6, y6, z6⟩, st6⟩ := X5.virtualBack hx (y := Y2) (z := Y2) hown (mvT hZ (ww hw 14 rfl)) (mvT hZ (ww hw 15 rfl)) (notFace_of_selects (args := #[]) (mvT hZ (ww hw 17 rfl))) (mvT hZ (ww hw 17 rfl)) (mvT hZ (ww hw 16 rfl)) (by decide) (backOf (W := 0) (own_c13_not l Z a0 hw u0 u1 u2 G h0 n0 O0 []) hZ (ww hw 18 rfl) (ww hw 6 rfl) (by decide) (by decide)) qa6 qc6 (g := (mkF m 55 #[vi p1, vi p2, vi p3, vi (0 : Int32), vr u2, vr u2, vi (1 : Int32), vu, vu] [xr u2])) rfl (by rw [hml]; rfl) (Steps.refl _) (argsL := []) (rest := []) (lenOf pd2 rfl) rfl (by show 2 * 0 + _ ≤ _; exact Nat.le_of_eq rfl) (hb hby at_55) (fun _ _ => ⟨rfl, e5, (by decide : 0 + 0 ≤ _), (by decide : 0 + 0 ≤ _)⟩)
  dsimp only [Pt.U, Pt.locs, Pt.cells, Pt.slots] at X6 l6 y6 z6 st6 hQ6
  subst l6 y6 z6
  obtain ⟨rfl, Nq6, e6⟩ := hQ6
  have N6 := Fr.app N5 Nq6
  obtain ⟨cq7, kq7, qa7, qb7, qc7⟩ := isOf hZ e6 ((own_X_u2 G).ext O0.2)
  obtain ⟨_, _, ⟨T7, L7, k7, n7⟩, -, X7, ⟨Lc7, hQ7, l7, y7, z7⟩, st7⟩ := X6.virtualBack hx (y := Y2) (z := Y2) hown (mvT hZ (ww hw 14 rfl)) (mvT hZ (ww hw 15 rfl)) (notFace_of_selects (args := #[]) (mvT hZ (ww hw 17 rfl))) (mvT hZ (ww hw 17 rfl)) (mvT hZ (ww hw 16 rfl)) (by decide) (backOf (W := 0) (own_c13_not l Z a0 hw u0 u1 u2 G h0 n0 O0 []) hZ (ww hw 18 rfl) (ww hw 6 rfl) (by decide) (by decide)) qa7 qc7 (g := (mkF m 58 #[vi p1, vi p2, vi p3, vi (0 : Int32), vr u2, vr u2, vi (1 : Int32), vu, vu] [xr u2])) rfl (by rw [hml]; rfl) (Steps.refl _) (argsL := []) (rest := []) (lenOf pd2 rfl) rfl (by show 2 * 0 + _ ≤ _; exact Nat.le_of_eq rfl) (hb hby at_58) (fun _ _ => ⟨rfl, e6, (by decide : 0 + 0 ≤ _), (by decide : 0 + 0 ≤ _)⟩)
  dsimp only [Pt.U, Pt.locs, Pt.cells, Pt.slots] at X7 l7 y7 z7 st7 hQ7
  subst l7 y7 z7
  obtain ⟨rfl, Nq7, e7⟩ := hQ7
  have N7 := Fr.app N6 Nq7
  obtain ⟨cq8, kq8, qa8, qb8, qc8⟩ := isOf hZ e7 ((own_X_u2 G).ext O0.2)
  obtain ⟨_, _, ⟨T8, L8, k8, n8⟩, -, X8, ⟨Lc8, hQ8, l8, y8, z8⟩, st8⟩ := X7.virtualBack hx (y := Y3) (z := Y3) hown (mvT hZ (ww hw 21 rfl)) (mvT hZ (ww hw 22 rfl)) (notFace_of_selects (args := #[]) (mvT hZ (ww hw 24 rfl))) (mvT hZ (ww hw 24 rfl)) (mvT hZ (ww hw 23 rfl)) (by decide) (backOf (W := 0) (own_c27_and l Z a0 hw u0 u1 u2 G h0 n0 O0 []) hZ (ww hw 25 rfl) (ww hw 6 rfl) (by decide) (by decide)) qa8 qc8 (g := (mkF m 77 #[vi p1, vi p2, vi p3, vi (0 : Int32), vr u2, vr u2, vi (1 : Int32), vi (1 : Int32), vu] [xr u2, xr u2])) rfl (by rw [hml]; rfl) (Steps.refl _) (argsL := [xr u2]) (rest := []) (lenOf pd3 rfl) rfl (by show 2 * 0 + _ ≤ _; exact Nat.le_of_eq rfl) (hb hby at_77) (fun _ _ => ⟨rfl, e7, (by decide : 0 + 0 ≤ _), (by decide : 0 + 0 ≤ _)⟩)
  dsimp only [Pt.U, Pt.locs, Pt.cells, Pt.slots] at X8 l8 y8 z8 st8 hQ8
  subst l8 y8 z8
  obtain ⟨rfl, Nq8, e8⟩ := hQ8
  have N8 := Fr.app N7 Nq8
  obtain ⟨cq9, kq9, qa9, qb9, qc9⟩ := isOf hZ e8 ((own_X_u2 G).ext O0.2)
  obtain ⟨_, _, ⟨T9, L9, k9, n9⟩, -, X9, ⟨Lc9, hQ9, l9, y9, z9⟩, st9⟩ := X8.virtualBack hx (y := Y2) (z := Y2) hown (mvT hZ (ww hw 14 rfl)) (mvT hZ (ww hw 15 rfl)) (notFace_of_selects (args := #[]) (mvT hZ (ww hw 17 rfl))) (mvT hZ (ww hw 17 rfl)) (mvT hZ (ww hw 16 rfl)) (by decide) (backOf (W := 0) (own_c13_not l Z a0 hw u0 u1 u2 G h0 n0 O0 []) hZ (ww hw 18 rfl) (ww hw 6 rfl) (by decide) (by decide)) qa9 qc9 (g := (mkF m 80 #[vi p1, vi p2, vi p3, vi (0 : Int32), vr u2, vr u2, vi (1 : Int32), vi (1 : Int32), vu] [xr u2])) rfl (by rw [hml]; rfl) (Steps.refl _) (argsL := []) (rest := []) (lenOf pd2 rfl) rfl (by show 2 * 0 + _ ≤ _; exact Nat.le_of_eq rfl) (hb hby at_80) (fun _ _ => ⟨rfl, e8, (by decide : 0 + 0 ≤ _), (by decide : 0 + 0 ≤ _)⟩)
  dsimp only [Pt.U, Pt.locs, Pt.cells, Pt.slots] at X9 l9 y9 z9 st9 hQ9
  subst l9 y9 z9
  obtain ⟨rfl, Nq9, e9⟩ := hQ9
  have N9 := Fr.app N8 Nq9
  obtain ⟨cq10, kq10, qa10, qb10, qc10⟩ := isOf hZ e9 ((own_X_u2 G).ext O0.2)
  obtain ⟨_, _, ⟨T10, L10, k10, n10⟩, -, X10, ⟨Lc10, hQ10, l10, y10, z10⟩, st10⟩ := X9.virtualBack hx (y := Y2) (z := Y2) hown (mvT hZ (ww hw 14 rfl)) (mvT hZ (ww hw 15 rfl)) (notFace_of_selects (args := #[]) (mvT hZ (ww hw 17 rfl))) (mvT hZ (ww hw 17 rfl)) (mvT hZ (ww hw 16 rfl)) (by decide) (backOf (W := 1) (own_c13_not l Z a0 hw u0 u1 u2 G h0 n0 O0 []) hZ (ww hw 18 rfl) (ww hw 6 rfl) (by decide) (by decide)) qa10 qc10 (g := (mkF m 85 #[vi p1, vi p2, vi p3, vi (0 : Int32), vr u2, vr u2, vi (1 : Int32), vi (1 : Int32), vu] [xr u2, xr u2])) rfl (by rw [hml]; rfl) (Steps.refl _) (argsL := []) (rest := [xr u2]) (lenOf pd2 rfl) rfl (by show 2 * 0 + _ ≤ _; exact Nat.le_of_eq rfl) (hb hby at_85) (fun _ _ => ⟨rfl, e9, (by decide : 0 + 0 ≤ _), (by decide : 0 + 0 ≤ _)⟩)
  dsimp only [Pt.U, Pt.locs, Pt.cells, Pt.slots] at X10 l10 y10 z10 st10 hQ10
  subst l10 y10 z10
  obtain ⟨rfl, Nq10, e10⟩ := hQ10
  have N10 := Fr.app N9 Nq10
  obtain ⟨cq11, kq11, qa11, qb11, qc11⟩ := isOf hZ e10 ((own_X_u2 G).ext O0.2)
  obtain ⟨_, _, ⟨T11, L11, k11, n11⟩, -, X11, ⟨Lc11, hQ11, l11, y11, z11⟩, st11⟩ := X10.virtualBack hx (y := Y2) (z := Y2) hown (mvT hZ (ww hw 14 rfl)) (mvT hZ (ww hw 15 rfl)) (notFace_of_selects (args := #[]) (mvT hZ (ww hw 17 rfl))) (mvT hZ (ww hw 17 rfl)) (mvT hZ (ww hw 16 rfl)) (by decide) (backOf (W := 2) (own_c13_not l Z a0 hw u0 u1 u2 G h0 n0 O0 []) hZ (ww hw 18 rfl) (ww hw 6 rfl) (by decide) (by decide)) qa11 qc11 (g := (mkF m 90 #[vi p1, vi p2, vi p3, vi (0 : Int32), vr u2, vr u2, vi (1 : Int32), vi (1 : Int32), vu] [xr u2, xr u2, xr u2])) rfl (by rw [hml]; rfl) (Steps.refl _) (argsL := []) (rest := [xr u2, xr u2]) (lenOf pd2 rfl) rfl (by show 2 * 0 + _ ≤ _; exact Nat.le_of_eq rfl) (hb hby at_90) (fun _ _ => ⟨rfl, e10, (by decide : 0 + 0 ≤ _), (by decide : 0 + 0 ≤ _)⟩)
  dsimp only [Pt.U, Pt.locs, Pt.cells, Pt.slots] at X11 l11 y11 z11 st11 hQ11
  subst l11 y11 z11
  obtain ⟨rfl, Nq11, e11⟩ := hQ11
  have N11 := Fr.app N10 Nq11
  obtain ⟨cq12, kq12, qa12, qb12, qc12⟩ := isOf hZ e11 ((own_X_u2 G).ext O0.2)
  obtain ⟨_, _, ⟨T12, L12, k12, n12⟩, -, X12, ⟨Lc12, hQ12, l12, y12, z12⟩, st12⟩ := X11.virtualBack hx (y := Y4) (z := Y4) hown (mvT hZ (ww hw 26 rfl)) (mvT hZ (ww hw 27 rfl)) (notFace_of_selects (args := #[]) (mvT hZ (ww hw 29 rfl))) (mvT hZ (ww hw 29 rfl)) (mvT hZ (ww hw 28 rfl)) (by decide) (backOf (W := 1) (own_c28_or l Z a0 hw u0 u1 u2 G h0 n0 O0 []) hZ (ww hw 30 rfl) (ww hw 6 rfl) (by decide) (by decide)) qa12 qc12 (g := (mkF m 93 #[vi p1, vi p2, vi p3, vi (0 : Int32), vr u2, vr u2, vi (1 : Int32), vi (1 : Int32), vu] [xr u2, xr u2, xr u2])) rfl (by rw [hml]; rfl) (Steps.refl _) (argsL := [xr u2]) (rest := [xr u2]) (lenOf pd3 rfl) rfl (by show 2 * 0 + _ ≤ _; exact Nat.le_of_eq rfl) (hb hby at_93) (fun _ _ => ⟨rfl, e11, (by decide : 0 + 0 ≤ _), (by decide : 0 + 0 ≤ _)⟩)
  dsimp only [Pt.U, Pt.locs, Pt.cells, Pt.slots] at X12 l12 y12 z12 st12 hQ12
  subst l12 y12 z12
  obtain ⟨rfl, Nq12, e12⟩ := hQ12
  have N12 := Fr.app N11 Nq12
  obtain ⟨fs, hr, hrun, hended, hW, hsame⟩ := X12.leave (v := some (xi (1 : Int32))) (fun h => by rw [Bd.returns] at h; cases h)
  refine ⟨_, _, pre0 _ ?_, hrun, hended, _, _, rfl, ?_, ⟨_, rfl⟩, hW, hsame.mono (by decide) (by decide)⟩
  · show own_S p e below s₁ (mkF m 0 #[vi p1, vi p2, vi p3, vu, vu, vu, vu, vu, vu] []) _
    refine XS.iloadN X0.here hx rfl (hb hby at_0) rfl ?_
    show own_S p e below s₁ (mkF m 1 #[vi p1, vi p2, vi p3, vu, vu, vu, vu, vu, vu] [xi p3]) _
    refine XS.iconst X0.here hx rfl (hb hby at_1) ?_
    show own_S p e below s₁ (mkF m 2 #[vi p1, vi p2, vi p3, vu, vu, vu, vu, vu, vu] [xi (1 : Int32), xi p3]) _
    refine XS.iand X0.here hx rfl (hb hby at_2) rfl ?_
    show own_S p e below s₁ (mkF m 3 #[vi p1, vi p2, vi p3, vu, vu, vu, vu, vu, vu] [xi (p3 &&& (1 : Int32))]) _
    refine castTop (show (mkF m 3 #[vi p1, vi p2, vi p3, vu, vu, vu, vu, vu, vu] [xi (p3 &&& (1 : Int32))]) = (mkF m 3 #[vi p1, vi p2, vi p3, vu, vu, vu, vu, vu, vu] [xi (0 : Int32)]) from by rw [as6]) ?_
    show own_S p e below s₁ (mkF m 3 #[vi p1, vi p2, vi p3, vu, vu, vu, vu, vu, vu] [xi (0 : Int32)]) _
    refine XS.ifYes X0.here hx rfl (pc0 := 3) (pc' := 10) rfl (hb hby at_3) rfl (by decide) (by decide) (by decide) ?_
    show own_S p e below s₁ (mkF m 10 #[vi p1, vi p2, vi p3, vu, vu, vu, vu, vu, vu] []) _
    refine XS.iconst X0.here hx rfl (hb hby at_10) ?_
    show own_S p e below s₁ (mkF m 11 #[vi p1, vi p2, vi p3, vu, vu, vu, vu, vu, vu] [xi (0 : Int32)]) _
    refine XS.istoreN X0.here hx rfl (hb hby at_11) rfl (l' := #[vi p1, vi p2, vi p3, vi (0 : Int32), vu, vu, vu, vu, vu]) rfl ?_
    show own_S p e below s₁ (mkF m 12 #[vi p1, vi p2, vi p3, vi (0 : Int32), vu, vu, vu, vu, vu] []) _
    refine XS.iloadN X0.here hx rfl (hb hby at_12) rfl ?_
    show own_S p e below s₁ (mkF m 13 #[vi p1, vi p2, vi p3, vi (0 : Int32), vu, vu, vu, vu, vu] [xi p1]) _
    refine st1 _ ?_
    show own_S p e below T1 (mkF m 16 #[vi p1, vi p2, vi p3, vi (0 : Int32), vu, vu, vu, vu, vu] [xr u2]) _
    refine XS.astore X1.here hx rfl (hb hby at_16) rfl rfl (l' := #[vi p1, vi p2, vi p3, vi (0 : Int32), vr u2, vu, vu, vu, vu]) rfl ?_
    show own_S p e below T1 (mkF m 18 #[vi p1, vi p2, vi p3, vi (0 : Int32), vr u2, vu, vu, vu, vu] []) _
    refine XS.iloadN X1.here hx rfl (hb hby at_18) rfl ?_
    show own_S p e below T1 (mkF m 19 #[vi p1, vi p2, vi p3, vi (0 : Int32), vr u2, vu, vu, vu, vu] [xi p2]) _
    refine st2 _ ?_
    show own_S p e below T2 (mkF m 22 #[vi p1, vi p2, vi p3, vi (0 : Int32), vr u2, vu, vu, vu, vu] [xr u2]) _
    refine XS.astore X2.here hx rfl (hb hby at_22) rfl rfl (l' := #[vi p1, vi p2, vi p3, vi (0 : Int32), vr u2, vr u2, vu, vu, vu]) rfl ?_
    show own_S p e below T2 (mkF m 24 #[vi p1, vi p2, vi p3, vi (0 : Int32), vr u2, vr u2, vu, vu, vu] []) _
    refine XS.iloadN X2.here hx rfl (hb hby at_24) rfl ?_
    show own_S p e below T2 (mkF m 25 #[vi p1, vi p2, vi p3, vi (0 : Int32), vr u2, vr u2, vu, vu, vu] [xi (0 : Int32)]) _
    refine XS.ifNo X2.here hx rfl (hb hby at_25) rfl (by decide) ?_
    show own_S p e below T2 (mkF m 28 #[vi p1, vi p2, vi p3, vi (0 : Int32), vr u2, vr u2, vu, vu, vu] []) _
    refine XS.iconst X2.here hx rfl (hb hby at_28) ?_
    show own_S p e below T2 (mkF m 29 #[vi p1, vi p2, vi p3, vi (0 : Int32), vr u2, vr u2, vu, vu, vu] [xi (1 : Int32)]) _
    refine XS.goto X2.here hx rfl (pc0 := 29) (pc' := 33) rfl (hb hby at_29) (by decide) (by decide) ?_
    show own_S p e below T2 (mkF m 33 #[vi p1, vi p2, vi p3, vi (0 : Int32), vr u2, vr u2, vu, vu, vu] [xi (1 : Int32)]) _
    refine st3 _ ?_
    show own_S p e below T3 (mkF m 36 #[vi p1, vi p2, vi p3, vi (0 : Int32), vr u2, vr u2, vu, vu, vu] [xr u0]) _
    refine XS.iloadN X3.here hx rfl (hb hby at_36) rfl ?_
    show own_S p e below T3 (mkF m 37 #[vi p1, vi p2, vi p3, vi (0 : Int32), vr u2, vr u2, vu, vu, vu] [xi (0 : Int32), xr u0]) _
    refine st4 _ ?_
    show own_S p e below T4 (mkF m 40 #[vi p1, vi p2, vi p3, vi (0 : Int32), vr u2, vr u2, vu, vu, vu] [xr u1, xr u0]) _
    refine st5.trans ?_
    show own_S p e below T5 (mkF m 43 #[vi p1, vi p2, vi p3, vi (0 : Int32), vr u2, vr u2, vu, vu, vu] [xr u0, xr u0]) _
    refine Jvm.RoadKit.acmp (g := (mkF m 43 #[vi p1, vi p2, vi p3, vi (0 : Int32), vr u2, vr u2, vu, vu, vu] [xr u0, xr u0])) X5 hx rfl rfl rfl (pc0 := 43) (pc' := 46) (same := true) rfl (hb hby at_43) rfl (decide_eq_true rfl) (by decide) (by decide) ?_
    show own_S p e below T5 (mkF m 46 #[vi p1, vi p2, vi p3, vi (0 : Int32), vr u2, vr u2, vu, vu, vu] []) _
    refine XS.iconst X5.here hx rfl (hb hby at_46) ?_
    show own_S p e below T5 (mkF m 47 #[vi p1, vi p2, vi p3, vi (0 : Int32), vr u2, vr u2, vu, vu, vu] [xi (1 : Int32)]) _
    refine XS.goto X5.here hx rfl (pc0 := 47) (pc' := 51) rfl (hb hby at_47) (by decide) (by decide) ?_
    show own_S p e below T5 (mkF m 51 #[vi p1, vi p2, vi p3, vi (0 : Int32), vr u2, vr u2, vu, vu, vu] [xi (1 : Int32)]) _
    refine XS.istore X5.here hx rfl (hb hby at_51) rfl (l' := #[vi p1, vi p2, vi p3, vi (0 : Int32), vr u2, vr u2, vi (1 : Int32), vu, vu]) rfl ?_
    show own_S p e below T5 (mkF m 53 #[vi p1, vi p2, vi p3, vi (0 : Int32), vr u2, vr u2, vi (1 : Int32), vu, vu] []) _
    refine XS.aload X5.here hx rfl (hb hby at_53) rfl rfl ?_
    show own_S p e below T5 (mkF m 55 #[vi p1, vi p2, vi p3, vi (0 : Int32), vr u2, vr u2, vi (1 : Int32), vu, vu] [xr u2]) _
    refine st6.trans ?_
    show own_S p e below T6 (mkF m 58 #[vi p1, vi p2, vi p3, vi (0 : Int32), vr u2, vr u2, vi (1 : Int32), vu, vu] [xr u2]) _
    refine st7.trans ?_
    show own_S p e below T7 (mkF m 61 #[vi p1, vi p2, vi p3, vi (0 : Int32), vr u2, vr u2, vi (1 : Int32), vu, vu] [xr u2]) _
    refine XS.aload X7.here hx rfl (hb hby at_61) rfl rfl ?_
    show own_S p e below T7 (mkF m 63 #[vi p1, vi p2, vi p3, vi (0 : Int32), vr u2, vr u2, vi (1 : Int32), vu, vu] [xr u2, xr u2]) _
    refine Jvm.RoadKit.acmp (g := (mkF m 63 #[vi p1, vi p2, vi p3, vi (0 : Int32), vr u2, vr u2, vi (1 : Int32), vu, vu] [xr u2, xr u2])) X7 hx rfl rfl rfl (pc0 := 63) (pc' := 66) (same := true) rfl (hb hby at_63) rfl (decide_eq_true rfl) (by decide) (by decide) ?_
    show own_S p e below T7 (mkF m 66 #[vi p1, vi p2, vi p3, vi (0 : Int32), vr u2, vr u2, vi (1 : Int32), vu, vu] []) _
    refine XS.iconst X7.here hx rfl (hb hby at_66) ?_
    show own_S p e below T7 (mkF m 67 #[vi p1, vi p2, vi p3, vi (0 : Int32), vr u2, vr u2, vi (1 : Int32), vu, vu] [xi (1 : Int32)]) _
    refine XS.goto X7.here hx rfl (pc0 := 67) (pc' := 71) rfl (hb hby at_67) (by decide) (by decide) ?_
    show own_S p e below T7 (mkF m 71 #[vi p1, vi p2, vi p3, vi (0 : Int32), vr u2, vr u2, vi (1 : Int32), vu, vu] [xi (1 : Int32)]) _
    refine XS.istore X7.here hx rfl (hb hby at_71) rfl (l' := #[vi p1, vi p2, vi p3, vi (0 : Int32), vr u2, vr u2, vi (1 : Int32), vi (1 : Int32), vu]) rfl ?_
    show own_S p e below T7 (mkF m 73 #[vi p1, vi p2, vi p3, vi (0 : Int32), vr u2, vr u2, vi (1 : Int32), vi (1 : Int32), vu] []) _
    refine XS.aload X7.here hx rfl (hb hby at_73) rfl rfl ?_
    show own_S p e below T7 (mkF m 75 #[vi p1, vi p2, vi p3, vi (0 : Int32), vr u2, vr u2, vi (1 : Int32), vi (1 : Int32), vu] [xr u2]) _
    refine XS.aload X7.here hx rfl (hb hby at_75) rfl rfl ?_
    show own_S p e below T7 (mkF m 77 #[vi p1, vi p2, vi p3, vi (0 : Int32), vr u2, vr u2, vi (1 : Int32), vi (1 : Int32), vu] [xr u2, xr u2]) _
    refine st8.trans ?_
    show own_S p e below T8 (mkF m 80 #[vi p1, vi p2, vi p3, vi (0 : Int32), vr u2, vr u2, vi (1 : Int32), vi (1 : Int32), vu] [xr u2]) _
    refine st9.trans ?_
    show own_S p e below T9 (mkF m 83 #[vi p1, vi p2, vi p3, vi (0 : Int32), vr u2, vr u2, vi (1 : Int32), vi (1 : Int32), vu] [xr u2]) _
    refine XS.aload X9.here hx rfl (hb hby at_83) rfl rfl ?_
    show own_S p e below T9 (mkF m 85 #[vi p1, vi p2, vi p3, vi (0 : Int32), vr u2, vr u2, vi (1 : Int32), vi (1 : Int32), vu] [xr u2, xr u2]) _
    refine st10.trans ?_
    show own_S p e below T10 (mkF m 88 #[vi p1, vi p2, vi p3, vi (0 : Int32), vr u2, vr u2, vi (1 : Int32), vi (1 : Int32), vu] [xr u2, xr u2]) _
    refine XS.aload X10.here hx rfl (hb hby at_88) rfl rfl ?_
    show own_S p e below T10 (mkF m 90 #[vi p1, vi p2, vi p3, vi (0 : Int32), vr u2, vr u2, vi (1 : Int32), vi (1 : Int32), vu] [xr u2, xr u2, xr u2]) _
    refine st11.trans ?_
    show own_S p e below T11 (mkF m 93 #[vi p1, vi p2, vi p3, vi (0 : Int32), vr u2, vr u2, vi (1 : Int32), vi (1 : Int32), vu] [xr u2, xr u2, xr u2]) _
    refine st12.trans ?_
    show own_S p e below T12 (mkF m 96 #[vi p1, vi p2, vi p3, vi (0 : Int32), vr u2, vr u2, vi (1 : Int32), vi (1 : Int32), vu] [xr u2, xr u2]) _
    refine Jvm.RoadKit.acmp (g := (mkF m 96 #[vi p1, vi p2, vi p3, vi (0 : Int32), vr u2, vr u2, vi (1 : Int32), vi (1 : Int32), vu] [xr u2, xr u2])) X12 hx rfl rfl rfl (pc0 := 96) (pc' := 99) (same := true) rfl (hb hby at_96) rfl (decide_eq_true rfl) (by decide) (by decide) ?_
    show own_S p e below T12 (mkF m 99 #[vi p1, vi p2, vi p3, vi (0 : Int32), vr u2, vr u2, vi (1 : Int32), vi (1 : Int32), vu] []) _
    refine XS.iconst X12.here hx rfl (hb hby at_99) ?_
    show own_S p e below T12 (mkF m 100 #[vi p1, vi p2, vi p3, vi (0 : Int32), vr u2, vr u2, vi (1 : Int32), vi (1 : Int32), vu] [xi (1 : Int32)]) _
    refine XS.goto X12.here hx rfl (pc0 := 100) (pc' := 104) rfl (hb hby at_100) (by decide) (by decide) ?_
    show own_S p e below T12 (mkF m 104 #[vi p1, vi p2, vi p3, vi (0 : Int32), vr u2, vr u2, vi (1 : Int32), vi (1 : Int32), vu] [xi (1 : Int32)]) _
    refine XS.istore X12.here hx rfl (hb hby at_104) rfl (l' := #[vi p1, vi p2, vi p3, vi (0 : Int32), vr u2, vr u2, vi (1 : Int32), vi (1 : Int32), vi (1 : Int32)]) rfl ?_
    show own_S p e below T12 (mkF m 106 #[vi p1, vi p2, vi p3, vi (0 : Int32), vr u2, vr u2, vi (1 : Int32), vi (1 : Int32), vi (1 : Int32)] []) _
    refine XS.iload X12.here hx rfl (hb hby at_106) rfl ?_
    show own_S p e below T12 (mkF m 108 #[vi p1, vi p2, vi p3, vi (0 : Int32), vr u2, vr u2, vi (1 : Int32), vi (1 : Int32), vi (1 : Int32)] [xi (1 : Int32)]) _
    refine XS.ifNo X12.here hx rfl (hb hby at_108) rfl (by decide) ?_
    show own_S p e below T12 (mkF m 111 #[vi p1, vi p2, vi p3, vi (0 : Int32), vr u2, vr u2, vi (1 : Int32), vi (1 : Int32), vi (1 : Int32)] []) _
    refine XS.iload X12.here hx rfl (hb hby at_111) rfl ?_
    show own_S p e below T12 (mkF m 113 #[vi p1, vi p2, vi p3, vi (0 : Int32), vr u2, vr u2, vi (1 : Int32), vi (1 : Int32), vi (1 : Int32)] [xi (1 : Int32)]) _
    refine XS.ifNo X12.here hx rfl (hb hby at_113) rfl (by decide) ?_
    show own_S p e below T12 (mkF m 116 #[vi p1, vi p2, vi p3, vi (0 : Int32), vr u2, vr u2, vi (1 : Int32), vi (1 : Int32), vi (1 : Int32)] []) _
    refine XS.iload X12.here hx rfl (hb hby at_116) rfl ?_
    show own_S p e below T12 (mkF m 118 #[vi p1, vi p2, vi p3, vi (0 : Int32), vr u2, vr u2, vi (1 : Int32), vi (1 : Int32), vi (1 : Int32)] [xi (1 : Int32)]) _
    refine XS.ifNo X12.here hx rfl (hb hby at_118) rfl (by decide) ?_
    show own_S p e below T12 (mkF m 121 #[vi p1, vi p2, vi p3, vi (0 : Int32), vr u2, vr u2, vi (1 : Int32), vi (1 : Int32), vi (1 : Int32)] []) _
    refine XS.iconst X12.here hx rfl (hb hby at_121) ?_
    show own_S p e below T12 (mkF m 122 #[vi p1, vi p2, vi p3, vi (0 : Int32), vr u2, vr u2, vi (1 : Int32), vi (1 : Int32), vi (1 : Int32)] [xi (1 : Int32)]) _
    refine XS.goto X12.here hx rfl (pc0 := 122) (pc' := 126) rfl (hb hby at_122) (by decide) (by decide) ?_
    show own_S p e below T12 (mkF m 126 #[vi p1, vi p2, vi p3, vi (0 : Int32), vr u2, vr u2, vi (1 : Int32), vi (1 : Int32), vi (1 : Int32)] [xi (1 : Int32)]) _
    exact retN X12 hx (t := .boolean) Bd.returns (by simp) (hb hby at_126) hr
  · exact ⟨rfl, N12⟩
theorem ef_own_l17 (m : MethodId) (u0 u1 u2 : Addr) (p1 : Int32) (p2 : Int32) (p3 : Int32) : entryFrame m #[xi p1, xi p2, xi p3] maxLocals = (mkF m 0 #[vi p1, vi p2, vi p3, vu, vu, vu, vu, vu, vu] []) := by first | (simp [entryFrame, mkF, argsToLocals, Value.category, maxLocals]; done) | rfl
set_option maxRecDepth 65536 in
set_option maxHeartbeats 40000000 in
theorem own_l17 (l : Launch) (Z : State) (a0 : Array Value) (hw : ∀ d ∈ tables_1, d.before a0 Z = true) (u0 u1 u2 : Addr) (G : own_St Z u0 u1 u2) (p1 : Int32) (p2 : Int32) (p3 : Int32) (as7 : (p3 &&& (1 : Int32)) = (1 : Int32)) (as2 : ((p1 &&& (2147483647 : Int32)) - ((p1 &&& (2147483647 : Int32)) / (3 : Int32)) * (3 : Int32)) = (2 : Int32)) (as5 : ((p2 &&& (2147483647 : Int32)) - ((p2 &&& (2147483647 : Int32)) / (3 : Int32)) * (3 : Int32)) = (2 : Int32)) (h0 : Heap) (n0 : Nat) (O0 : Old Z n0 h0) : own_Met l Z x code maxLocals ret room_1 #[xi p1, xi p2, xi p3] h0 (own_QL (some (xi (1 : Int32))) n0) := by
  intro ws
  refine MetFree.of_bodySF (plainFor_of_name pn0) hisR ?_
  intro p e s m args below meth c s₁ Bd hml0 hP hK
  obtain ⟨rfl, hZ, hh⟩ := hP
  have hx := Bd.exec
  have hby := Bd.bytes
  have hml : c.maxLocals = 9 := hml0
  have hown : s.vm.findClass "com/example/arbitrium/arbitrium/policy/TruthNotPinLaw" = some m.cls := findClass_of_methodNamed Bd.named
  have hnm := (name_of_methodNamed Bd.named Bd.method).1
  have X0 : Stand p l e room_1 s m #[xi p1, xi p2, xi p3] below meth c s₁ [] 0 0 := Stand.of_body Bd
  have e0 : s₁.heap = h0 := by rw [← hh, Bd.state]; rfl
  have N0 := Fr.nil n0
  have pre0 : ∀ t, Steps p.tables e below (s₁.setTop (mkF m 0 #[vi p1, vi p2, vi p3, vu, vu, vu, vu, vu, vu] [])) t → Steps p.tables e below (s₁.setTop (entryFrame m #[xi p1, xi p2, xi p3] maxLocals)) t := fun t k => castTop (ef_own_l17 m u0 u1 u2 p1 p2 p3) k
  obtain ⟨_, _, ⟨T1, L1, k1, n1⟩, -, X1, ⟨Lc1, hQ1, l1, y1, z1⟩, st1⟩ := Jvm.LawKit.callS X0 hx (y := Y0) hown (mvT hZ (ww hw 0 rfl)) (mvT hZ (ww hw 1 rfl)) (mvT hZ (ww hw 2 rfl)) (mvT hZ (ww hw 3 rfl)) (by decide) (backOf (W := 0) (own_c22_pick l Z a0 hw u0 u1 u2 G p1 as2 h0 n0 O0 []) hZ (ww hw 3 rfl) (ww hw 2 rfl) (by decide) (by decide)) (g := (mkF m 13 #[vi p1, vi p2, vi p3, vi (1 : Int32), vu, vu, vu, vu, vu] [xi p1])) rfl (by rw [hml]; rfl) (argsL := [xi p1]) (rest := []) (lenOf pd0 rfl) rfl (by show 2 * 0 + _ ≤ _; exact Nat.le_of_eq rfl) (hb hby at_13) (fun _ _ => ⟨rfl, e0, (by decide : 0 + 0 ≤ _), (by decide : 0 + 0 ≤ _)⟩)
  dsimp only [Pt.U, Pt.locs, Pt.cells, Pt.slots] at X1 l1 y1 z1 st1 hQ1
  subst l1 y1 z1
  obtain ⟨rfl, Nq1, e1⟩ := hQ1
  have N1 := Fr.app N0 Nq1
  obtain ⟨_, _, ⟨T2, L2, k2, n2⟩, -, X2, ⟨Lc2, hQ2, l2, y2, z2⟩, st2⟩ := Jvm.LawKit.callS X1 hx (y := Y0) hown (mvT hZ (ww hw 0 rfl)) (mvT hZ (ww hw 1 rfl)) (mvT hZ (ww hw 2 rfl)) (mvT hZ (ww hw 3 rfl)) (by decide) (backOf (W := 0) (own_c11_pick l Z a0 hw u0 u1 u2 G p2 as5 h0 n0 O0 []) hZ (ww hw 3 rfl) (ww hw 2 rfl) (by decide) (by decide)) (g := (mkF m 19 #[vi p1, vi p2, vi p3, vi (1 : Int32), vr u2, vu, vu, vu, vu] [xi p2])) rfl (by rw [hml]; rfl) (argsL := [xi p2]) (rest := []) (lenOf pd0 rfl) rfl (by show 2 * 0 + _ ≤ _; exact Nat.le_of_eq rfl) (hb hby at_19) (fun _ _ => ⟨rfl, e1, (by decide : 0 + 0 ≤ _), (by decide : 0 + 0 ≤ _)⟩)
  dsimp only [Pt.U, Pt.locs, Pt.cells, Pt.slots] at X2 l2 y2 z2 st2 hQ2
  subst l2 y2 z2
  obtain ⟨rfl, Nq2, e2⟩ := hQ2
  have N2 := Fr.app N1 Nq2
  obtain ⟨_, _, ⟨T3, L3, k3, n3⟩, -, X3, ⟨Lc3, hQ3, l3, y3, z3⟩, st3⟩ := Jvm.LawKit.callS X2 hx (y := Y1) hown (mvT hZ (ww hw 8 rfl)) (mvT hZ (ww hw 9 rfl)) (mvT hZ (ww hw 6 rfl)) (mvT hZ (ww hw 10 rfl)) (by decide) (backOf (W := 0) (own_c3_of l Z a0 hw u0 u1 u2 G h0 n0 O0 []) hZ (ww hw 10 rfl) (ww hw 6 rfl) (by decide) (by decide)) (g := (mkF m 33 #[vi p1, vi p2, vi p3, vi (1 : Int32), vr u2, vr u2, vu, vu, vu] [xi (0 : Int32)])) rfl (by rw [hml]; rfl) (argsL := [xi (0 : Int32)]) (rest := []) (lenOf pd1 rfl) rfl (by show 2 * 0 + _ ≤ _; exact Nat.le_of_eq rfl) (hb hby at_33) (fun _ _ => ⟨rfl, e2, (by decide : 0 + 0 ≤ _), (by decide : 0 + 0 ≤ _)⟩)
  dsimp only [Pt.U, Pt.locs, Pt.cells, Pt.slots] at X3 l3 y3 z3 st3 hQ3
  subst l3 y3 z3
  obtain ⟨rfl, Nq3, e3⟩ := hQ3
  have N3 := Fr.app N2 Nq3
  obtain ⟨_, _, ⟨T4, L4, k4, n4⟩, -, X4, ⟨Lc4, hQ4, l4, y4, z4⟩, st4⟩ := Jvm.LawKit.callS X3 hx (y := Y1) hown (mvT hZ (ww hw 8 rfl)) (mvT hZ (ww hw 9 rfl)) (mvT hZ (ww hw 6 rfl)) (mvT hZ (ww hw 10 rfl)) (by decide) (backOf (W := 1) (own_c2_of l Z a0 hw u0 u1 u2 G h0 n0 O0 []) hZ (ww hw 10 rfl) (ww hw 6 rfl) (by decide) (by decide)) (g := (mkF m 37 #[vi p1, vi p2, vi p3, vi (1 : Int32), vr u2, vr u2, vu, vu, vu] [xi (1 : Int32), xr u1])) rfl (by rw [hml]; rfl) (argsL := [xi (1 : Int32)]) (rest := [xr u1]) (lenOf pd1 rfl) rfl (by show 2 * 0 + _ ≤ _; exact Nat.le_of_eq rfl) (hb hby at_37) (fun _ _ => ⟨rfl, e3, (by decide : 0 + 0 ≤ _), (by decide : 0 + 0 ≤ _)⟩)
  dsimp only [Pt.U, Pt.locs, Pt.cells, Pt.slots] at X4 l4 y4 z4 st4 hQ4
  subst l4 y4 z4
  obtain ⟨rfl, Nq4, e4⟩ := hQ4
  have N4 := Fr.app N3 Nq4
  obtain ⟨cq5, kq5, qa5, qb5, qc5⟩ := isOf hZ e4 ((own_X_u0 G).ext O0.2)
  obtain ⟨_, _, ⟨T5, L5, k5, n5⟩, -, X5, ⟨Lc5, hQ5, l5, y5, z5⟩, st5⟩ := X4.virtualBack hx (y := Y2) (z := Y2) hown (mvT hZ (ww hw 14 rfl)) (mvT hZ (ww hw 15 rfl)) (notFace_of_selects (args := #[]) (mvT hZ (ww hw 17 rfl))) (mvT hZ (ww hw 17 rfl)) (mvT hZ (ww hw 16 rfl)) (by decide) (backOf (W := 1) (own_c5_not l Z a0 hw u0 u1 u2 G h0 n0 O0 []) hZ (ww hw 18 rfl) (ww hw 6 rfl) (by decide) (by decide)) qa5 qc5 (g := (mkF m 40 #[vi p1, vi p2, vi p3, vi (1 : Int32), vr u2, vr u2, vu, vu, vu] [xr u0, xr u1])) rfl (by rw [hml]; rfl) (Steps.refl _) (argsL := []) (rest := [xr u1]) (lenOf pd2 rfl) rfl (by show 2 * 0 + _ ≤ _; exact Nat.le_of_eq rfl) (hb hby at_40) (fun _ _ => ⟨rfl, e4, (by decide : 0 + 0 ≤ _), (by decide : 0 + 0 ≤ _)⟩)
  dsimp only [Pt.U, Pt.locs, Pt.cells, Pt.slots] at X5 l5 y5 z5 st5 hQ5
  subst l5 y5 z5
  obtain ⟨rfl, Nq5, e5⟩ := hQ5
  have N5 := Fr.app N4 Nq5
  obtain ⟨cq6, kq6, qa6, qb6, qc6⟩ := isOf hZ e5 ((own_X_u2 G).ext O0.2)
  obtain ⟨_, _, ⟨T6, L6, k6, n6⟩, -, X6, ⟨Lc6, hQ6, l6, y6, z6⟩, st6⟩ := X5.virtualBack hx (y := Y2) (z := Y2) hown (mvT hZ (ww hw 14 rfl)) (mvT hZ (ww hw 15 rfl)) (notFace_of_selects (args := #[]) (mvT hZ (ww hw 17 rfl))) (mvT hZ (ww hw 17 rfl)) (mvT hZ (ww hw 16 rfl)) (by decide) (backOf (W := 0) (own_c13_not l Z a0 hw u0 u1 u2 G h0 n0 O0 []) hZ (ww hw 18 rfl) (ww hw 6 rfl) (by decide) (by decide)) qa6 qc6 (g := (mkF m 55 #[vi p1, vi p2, vi p3, vi (1 : Int32), vr u2, vr u2, vi (1 : Int32), vu, vu] [xr u2])) rfl (by rw [hml]; rfl) (Steps.refl _) (argsL := []) (rest := []) (lenOf pd2 rfl) rfl (by show 2 * 0 + _ ≤ _; exact Nat.le_of_eq rfl) (hb hby at_55) (fun _ _ => ⟨rfl, e5, (by decide : 0 + 0 ≤ _), (by decide : 0 + 0 ≤ _)⟩)
  dsimp only [Pt.U, Pt.locs, Pt.cells, Pt.slots] at X6 l6 y6 z6 st6 hQ6
  subst l6 y6 z6
  obtain ⟨rfl, Nq6, e6⟩ := hQ6
  have N6 := Fr.app N5 Nq6
  obtain ⟨cq7, kq7, qa7, qb7, qc7⟩ := isOf hZ e6 ((own_X_u2 G).ext O0.2)
  obtain ⟨_, _, ⟨T7, L7, k7, n7⟩, -, X7, ⟨Lc7, hQ7, l7, y7, z7⟩, st7⟩ := X6.virtualBack hx (y := Y2) (z := Y2) hown (mvT hZ (ww hw 14 rfl)) (mvT hZ (ww hw 15 rfl)) (notFace_of_selects (args := #[]) (mvT hZ (ww hw 17 rfl))) (mvT hZ (ww hw 17 rfl)) (mvT hZ (ww hw 16 rfl)) (by decide) (backOf (W := 0) (own_c13_not l Z a0 hw u0 u1 u2 G h0 n0 O0 []) hZ (ww hw 18 rfl) (ww hw 6 rfl) (by decide) (by decide)) qa7 qc7 (g := (mkF m 58 #[vi p1, vi p2, vi p3, vi (1 : Int32), vr u2, vr u2, vi (1 : Int32), vu, vu] [xr u2])) rfl (by rw [hml]; rfl) (Steps.refl _) (argsL := []) (rest := []) (lenOf pd2 rfl) rfl (by show 2 * 0 + _ ≤ _; exact Nat.le_of_eq rfl) (hb hby at_58) (fun _ _ => ⟨rfl, e6, (by decide : 0 + 0 ≤ _), (by decide : 0 + 0 ≤ _)⟩)
  dsimp only [Pt.U, Pt.locs, Pt.cells, Pt.slots] at X7 l7 y7 z7 st7 hQ7
  subst l7 y7 z7
  obtain ⟨rfl, Nq7, e7⟩ := hQ7
  have N7 := Fr.app N6 Nq7
  obtain ⟨cq8, kq8, qa8, qb8, qc8⟩ := isOf hZ e7 ((own_X_u2 G).ext O0.2)
  obtain ⟨_, _, ⟨T8, L8, k8, n8⟩, -, X8, ⟨Lc8, hQ8, l8, y8, z8⟩, st8⟩ := X7.virtualBack hx (y := Y3) (z := Y3) hown (mvT hZ (ww hw 21 rfl)) (mvT hZ (ww hw 22 rfl)) (notFace_of_selects (args := #[]) (mvT hZ (ww hw 24 rfl))) (mvT hZ (ww hw 24 rfl)) (mvT hZ (ww hw 23 rfl)) (by decide) (backOf (W := 0) (own_c27_and l Z a0 hw u0 u1 u2 G h0 n0 O0 []) hZ (ww hw 25 rfl) (ww hw 6 rfl) (by decide) (by decide)) qa8 qc8 (g := (mkF m 77 #[vi p1, vi p2, vi p3, vi (1 : Int32), vr u2, vr u2, vi (1 : Int32), vi (1 : Int32), vu] [xr u2, xr u2])) rfl (by rw [hml]; rfl) (Steps.refl _) (argsL := [xr u2]) (rest := []) (lenOf pd3 rfl) rfl (by show 2 * 0 + _ ≤ _; exact Nat.le_of_eq rfl) (hb hby at_77) (fun _ _ => ⟨rfl, e7, (by decide : 0 + 0 ≤ _), (by decide : 0 + 0 ≤ _)⟩)
  dsimp only [Pt.U, Pt.locs, Pt.cells, Pt.slots] at X8 l8 y8 z8 st8 hQ8
  subst l8 y8 z8
  obtain ⟨rfl, Nq8, e8⟩ := hQ8
  have N8 := Fr.app N7 Nq8
  obtain ⟨cq9, kq9, qa9, qb9, qc9⟩ := isOf hZ e8 ((own_X_u2 G).ext O0.2)
  obtain ⟨_, _, ⟨T9, L9, k9, n9⟩, -, X9, ⟨Lc9, hQ9, l9, y9, z9⟩, st9⟩ := X8.virtualBack hx (y := Y2) (z := Y2) hown (mvT hZ (ww hw 14 rfl)) (mvT hZ (ww hw 15 rfl)) (notFace_of_selects (args := #[]) (mvT hZ (ww hw 17 rfl))) (mvT hZ (ww hw 17 rfl)) (mvT hZ (ww hw 16 rfl)) (by decide) (backOf (W := 0) (own_c13_not l Z a0 hw u0 u1 u2 G h0 n0 O0 []) hZ (ww hw 18 rfl) (ww hw 6 rfl) (by decide) (by decide)) qa9 qc9 (g := (mkF m 80 #[vi p1, vi p2, vi p3, vi (1 : Int32), vr u2, vr u2, vi (1 : Int32), vi (1 : Int32), vu] [xr u2])) rfl (by rw [hml]; rfl) (Steps.refl _) (argsL := []) (rest := []) (lenOf pd2 rfl) rfl (by show 2 * 0 + _ ≤ _; exact Nat.le_of_eq rfl) (hb hby at_80) (fun _ _ => ⟨rfl, e8, (by decide : 0 + 0 ≤ _), (by decide : 0 + 0 ≤ _)⟩)
  dsimp only [Pt.U, Pt.locs, Pt.cells, Pt.slots] at X9 l9 y9 z9 st9 hQ9
  subst l9 y9 z9
  obtain ⟨rfl, Nq9, e9⟩ := hQ9
  have N9 := Fr.app N8 Nq9
  obtain ⟨cq10, kq10, qa10, qb10, qc10⟩ := isOf hZ e9 ((own_X_u2 G).ext O0.2)
  obtain ⟨_, _, ⟨T10, L10, k10, n10⟩, -, X10, ⟨Lc10, hQ10, l10, y10, z10⟩, st10⟩ := X9.virtualBack hx (y := Y2) (z := Y2) hown (mvT hZ (ww hw 14 rfl)) (mvT hZ (ww hw 15 rfl)) (notFace_of_selects (args := #[]) (mvT hZ (ww hw 17 rfl))) (mvT hZ (ww hw 17 rfl)) (mvT hZ (ww hw 16 rfl)) (by decide) (backOf (W := 1) (own_c13_not l Z a0 hw u0 u1 u2 G h0 n0 O0 []) hZ (ww hw 18 rfl) (ww hw 6 rfl) (by decide) (by decide)) qa10 qc10 (g := (mkF m 85 #[vi p1, vi p2, vi p3, vi (1 : Int32), vr u2, vr u2, vi (1 : Int32), vi (1 : Int32), vu] [xr u2, xr u2])) rfl (by rw [hml]; rfl) (Steps.refl _) (argsL := []) (rest := [xr u2]) (lenOf pd2 rfl) rfl (by show 2 * 0 + _ ≤ _; exact Nat.le_of_eq rfl) (hb hby at_85) (fun _ _ => ⟨rfl, e9, (by decide : 0 + 0 ≤ _), (by decide : 0 + 0 ≤ _)⟩)
  dsimp only [Pt.U, Pt.locs, Pt.cells, Pt.slots] at X10 l10 y10 z10 st10 hQ10
  subst l10 y10 z10
  obtain ⟨rfl, Nq10, e10⟩ := hQ10
  have N10 := Fr.app N9 Nq10
  obtain ⟨cq11, kq11, qa11, qb11, qc11⟩ := isOf hZ e10 ((own_X_u2 G).ext O0.2)
  obtain ⟨_, _, ⟨T11, L11, k11, n11⟩, -, X11, ⟨Lc11, hQ11, l11, y11, z11⟩, st11⟩ := X10.virtualBack hx (y := Y2) (z := Y2) hown (mvT hZ (ww hw 14 rfl)) (mvT hZ (ww hw 15 rfl)) (notFace_of_selects (args := #[]) (mvT hZ (ww hw 17 rfl))) (mvT hZ (ww hw 17 rfl)) (mvT hZ (ww hw 16 rfl)) (by decide) (backOf (W := 2) (own_c13_not l Z a0 hw u0 u1 u2 G h0 n0 O0 []) hZ (ww hw 18 rfl) (ww hw 6 rfl) (by decide) (by decide)) qa11 qc11 (g := (mkF m 90 #[vi p1, vi p2, vi p3, vi (1 : Int32), vr u2, vr u2, vi (1 : Int32), vi (1 : Int32), vu] [xr u2, xr u2, xr u2])) rfl (by rw [hml]; rfl) (Steps.refl _) (argsL := []) (rest := [xr u2, xr u2]) (lenOf pd2 rfl) rfl (by show 2 * 0 + _ ≤ _; exact Nat.le_of_eq rfl) (hb hby at_90) (fun _ _ => ⟨rfl, e10, (by decide : 0 + 0 ≤ _), (by decide : 0 + 0 ≤ _)⟩)
  dsimp only [Pt.U, Pt.locs, Pt.cells, Pt.slots] at X11 l11 y11 z11 st11 hQ11
  subst l11 y11 z11
  obtain ⟨rfl, Nq11, e11⟩ := hQ11
  have N11 := Fr.app N10 Nq11
  obtain ⟨cq12, kq12, qa12, qb12, qc12⟩ := isOf hZ e11 ((own_X_u2 G).ext O0.2)
  obtain ⟨_, _, ⟨T12, L12, k12, n12⟩, -, X12, ⟨Lc12, hQ12, l12, y12, z12⟩, st12⟩ := X11.virtualBack hx (y := Y4) (z := Y4) hown (mvT hZ (ww hw 26 rfl)) (mvT hZ (ww hw 27 rfl)) (notFace_of_selects (args := #[]) (mvT hZ (ww hw 29 rfl))) (mvT hZ (ww hw 29 rfl)) (mvT hZ (ww hw 28 rfl)) (by decide) (backOf (W := 1) (own_c28_or l Z a0 hw u0 u1 u2 G h0 n0 O0 []) hZ (ww hw 30 rfl) (ww hw 6 rfl) (by decide) (by decide)) qa12 qc12 (g := (mkF m 93 #[vi p1, vi p2, vi p3, vi (1 : Int32), vr u2, vr u2, vi (1 : Int32), vi (1 : Int32), vu] [xr u2, xr u2, xr u2])) rfl (by rw [hml]; rfl) (Steps.refl _) (argsL := [xr u2]) (rest := [xr u2]) (lenOf pd3 rfl) rfl (by show 2 * 0 + _ ≤ _; exact Nat.le_of_eq rfl) (hb hby at_93) (fun _ _ => ⟨rfl, e11, (by decide : 0 + 0 ≤ _), (by decide : 0 + 0 ≤ _)⟩)
  dsimp only [Pt.U, Pt.locs, Pt.cells, Pt.slots] at X12 l12 y12 z12 st12 hQ12
  subst l12 y12 z12
  obtain ⟨rfl, Nq12, e12⟩ := hQ12
  have N12 := Fr.app N11 Nq12
  obtain ⟨fs, hr, hrun, hended, hW, hsame⟩ := X12.leave (v := some (xi (1 : Int32))) (fun h => by rw [Bd.returns] at h; cases h)
  refine ⟨_, _, pre0 _ ?_, hrun, hended, _, _, rfl, ?_, ⟨_, rfl⟩, hW, hsame.mono (by decide) (by decide)⟩
  · show own_S p e below s₁ (mkF m 0 #[vi p1, vi p2, vi p3, vu, vu, vu, vu, vu, vu] []) _
    refine XS.iloadN X0.here hx rfl (hb hby at_0) rfl ?_
    show own_S p e below s₁ (mkF m 1 #[vi p1, vi p2, vi p3, vu, vu, vu, vu, vu, vu] [xi p3]) _
    refine XS.iconst X0.here hx rfl (hb hby at_1) ?_
    show own_S p e below s₁ (mkF m 2 #[vi p1, vi p2, vi p3, vu, vu, vu, vu, vu, vu] [xi (1 : Int32), xi p3]) _
    refine XS.iand X0.here hx rfl (hb hby at_2) rfl ?_
    show own_S p e below s₁ (mkF m 3 #[vi p1, vi p2, vi p3, vu, vu, vu, vu, vu, vu] [xi (p3 &&& (1 : Int32))]) _
    refine castTop (show (mkF m 3 #[vi p1, vi p2, vi p3, vu, vu, vu, vu, vu, vu] [xi (p3 &&& (1 : Int32))]) = (mkF m 3 #[vi p1, vi p2, vi p3, vu, vu, vu, vu, vu, vu] [xi (1 : Int32)]) from by rw [as7]) ?_
    show own_S p e below s₁ (mkF m 3 #[vi p1, vi p2, vi p3, vu, vu, vu, vu, vu, vu] [xi (1 : Int32)]) _
    refine XS.ifNo X0.here hx rfl (hb hby at_3) rfl (by decide) ?_
    show own_S p e below s₁ (mkF m 6 #[vi p1, vi p2, vi p3, vu, vu, vu, vu, vu, vu] []) _
    refine XS.iconst X0.here hx rfl (hb hby at_6) ?_
    show own_S p e below s₁ (mkF m 7 #[vi p1, vi p2, vi p3, vu, vu, vu, vu, vu, vu] [xi (1 : Int32)]) _
    refine XS.goto X0.here hx rfl (pc0 := 7) (pc' := 11) rfl (hb hby at_7) (by decide) (by decide) ?_
    show own_S p e below s₁ (mkF m 11 #[vi p1, vi p2, vi p3, vu, vu, vu, vu, vu, vu] [xi (1 : Int32)]) _
    refine XS.istoreN X0.here hx rfl (hb hby at_11) rfl (l' := #[vi p1, vi p2, vi p3, vi (1 : Int32), vu, vu, vu, vu, vu]) rfl ?_
    show own_S p e below s₁ (mkF m 12 #[vi p1, vi p2, vi p3, vi (1 : Int32), vu, vu, vu, vu, vu] []) _
    refine XS.iloadN X0.here hx rfl (hb hby at_12) rfl ?_
    show own_S p e below s₁ (mkF m 13 #[vi p1, vi p2, vi p3, vi (1 : Int32), vu, vu, vu, vu, vu] [xi p1]) _
    refine st1 _ ?_
    show own_S p e below T1 (mkF m 16 #[vi p1, vi p2, vi p3, vi (1 : Int32), vu, vu, vu, vu, vu] [xr u2]) _
    refine XS.astore X1.here hx rfl (hb hby at_16) rfl rfl (l' := #[vi p1, vi p2, vi p3, vi (1 : Int32), vr u2, vu, vu, vu, vu]) rfl ?_
    show own_S p e below T1 (mkF m 18 #[vi p1, vi p2, vi p3, vi (1 : Int32), vr u2, vu, vu, vu, vu] []) _
    refine XS.iloadN X1.here hx rfl (hb hby at_18) rfl ?_
    show own_S p e below T1 (mkF m 19 #[vi p1, vi p2, vi p3, vi (1 : Int32), vr u2, vu, vu, vu, vu] [xi p2]) _
    refine st2 _ ?_
    show own_S p e below T2 (mkF m 22 #[vi p1, vi p2, vi p3, vi (1 : Int32), vr u2, vu, vu, vu, vu] [xr u2]) _
    refine XS.astore X2.here hx rfl (hb hby at_22) rfl rfl (l' := #[vi p1, vi p2, vi p3, vi (1 : Int32), vr u2, vr u2, vu, vu, vu]) rfl ?_
    show own_S p e below T2 (mkF m 24 #[vi p1, vi p2, vi p3, vi (1 : Int32), vr u2, vr u2, vu, vu, vu] []) _
    refine XS.iloadN X2.here hx rfl (hb hby at_24) rfl ?_
    show own_S p e below T2 (mkF m 25 #[vi p1, vi p2, vi p3, vi (1 : Int32), vr u2, vr u2, vu, vu, vu] [xi (1 : Int32)]) _
    refine XS.ifYes X2.here hx rfl (pc0 := 25) (pc' := 32) rfl (hb hby at_25) rfl (by decide) (by decide) (by decide) ?_
    show own_S p e below T2 (mkF m 32 #[vi p1, vi p2, vi p3, vi (1 : Int32), vr u2, vr u2, vu, vu, vu] []) _
    refine XS.iconst X2.here hx rfl (hb hby at_32) ?_
    show own_S p e below T2 (mkF m 33 #[vi p1, vi p2, vi p3, vi (1 : Int32), vr u2, vr u2, vu, vu, vu] [xi (0 : Int32)]) _
    refine st3 _ ?_
    show own_S p e below T3 (mkF m 36 #[vi p1, vi p2, vi p3, vi (1 : Int32), vr u2, vr u2, vu, vu, vu] [xr u1]) _
    refine XS.iloadN X3.here hx rfl (hb hby at_36) rfl ?_
    show own_S p e below T3 (mkF m 37 #[vi p1, vi p2, vi p3, vi (1 : Int32), vr u2, vr u2, vu, vu, vu] [xi (1 : Int32), xr u1]) _
    refine st4 _ ?_
    show own_S p e below T4 (mkF m 40 #[vi p1, vi p2, vi p3, vi (1 : Int32), vr u2, vr u2, vu, vu, vu] [xr u0, xr u1]) _
    refine st5.trans ?_
    show own_S p e below T5 (mkF m 43 #[vi p1, vi p2, vi p3, vi (1 : Int32), vr u2, vr u2, vu, vu, vu] [xr u1, xr u1]) _
    refine Jvm.RoadKit.acmp (g := (mkF m 43 #[vi p1, vi p2, vi p3, vi (1 : Int32), vr u2, vr u2, vu, vu, vu] [xr u1, xr u1])) X5 hx rfl rfl rfl (pc0 := 43) (pc' := 46) (same := true) rfl (hb hby at_43) rfl (decide_eq_true rfl) (by decide) (by decide) ?_
    show own_S p e below T5 (mkF m 46 #[vi p1, vi p2, vi p3, vi (1 : Int32), vr u2, vr u2, vu, vu, vu] []) _
    refine XS.iconst X5.here hx rfl (hb hby at_46) ?_
    show own_S p e below T5 (mkF m 47 #[vi p1, vi p2, vi p3, vi (1 : Int32), vr u2, vr u2, vu, vu, vu] [xi (1 : Int32)]) _
    refine XS.goto X5.here hx rfl (pc0 := 47) (pc' := 51) rfl (hb hby at_47) (by decide) (by decide) ?_
    show own_S p e below T5 (mkF m 51 #[vi p1, vi p2, vi p3, vi (1 : Int32), vr u2, vr u2, vu, vu, vu] [xi (1 : Int32)]) _
    refine XS.istore X5.here hx rfl (hb hby at_51) rfl (l' := #[vi p1, vi p2, vi p3, vi (1 : Int32), vr u2, vr u2, vi (1 : Int32), vu, vu]) rfl ?_
    show own_S p e below T5 (mkF m 53 #[vi p1, vi p2, vi p3, vi (1 : Int32), vr u2, vr u2, vi (1 : Int32), vu, vu] []) _
    refine XS.aload X5.here hx rfl (hb hby at_53) rfl rfl ?_
    show own_S p e below T5 (mkF m 55 #[vi p1, vi p2, vi p3, vi (1 : Int32), vr u2, vr u2, vi (1 : Int32), vu, vu] [xr u2]) _
    refine st6.trans ?_
    show own_S p e below T6 (mkF m 58 #[vi p1, vi p2, vi p3, vi (1 : Int32), vr u2, vr u2, vi (1 : Int32), vu, vu] [xr u2]) _
    refine st7.trans ?_
    show own_S p e below T7 (mkF m 61 #[vi p1, vi p2, vi p3, vi (1 : Int32), vr u2, vr u2, vi (1 : Int32), vu, vu] [xr u2]) _
    refine XS.aload X7.here hx rfl (hb hby at_61) rfl rfl ?_
    show own_S p e below T7 (mkF m 63 #[vi p1, vi p2, vi p3, vi (1 : Int32), vr u2, vr u2, vi (1 : Int32), vu, vu] [xr u2, xr u2]) _
    refine Jvm.RoadKit.acmp (g := (mkF m 63 #[vi p1, vi p2, vi p3, vi (1 : Int32), vr u2, vr u2, vi (1 : Int32), vu, vu] [xr u2, xr u2])) X7 hx rfl rfl rfl (pc0 := 63) (pc' := 66) (same := true) rfl (hb hby at_63) rfl (decide_eq_true rfl) (by decide) (by decide) ?_
    show own_S p e below T7 (mkF m 66 #[vi p1, vi p2, vi p3, vi (1 : Int32), vr u2, vr u2, vi (1 : Int32), vu, vu] []) _
    refine XS.iconst X7.here hx rfl (hb hby at_66) ?_
    show own_S p e below T7 (mkF m 67 #[vi p1, vi p2, vi p3, vi (1 : Int32), vr u2, vr u2, vi (1 : Int32), vu, vu] [xi (1 : Int32)]) _
    refine XS.goto X7.here hx rfl (pc0 := 67) (pc' := 71) rfl (hb hby at_67) (by decide) (by decide) ?_
    show own_S p e below T7 (mkF m 71 #[vi p1, vi p2, vi p3, vi (1 : Int32), vr u2, vr u2, vi (1 : Int32), vu, vu] [xi (1 : Int32)]) _
    refine XS.istore X7.here hx rfl (hb hby at_71) rfl (l' := #[vi p1, vi p2, vi p3, vi (1 : Int32), vr u2, vr u2, vi (1 : Int32), vi (1 : Int32), vu]) rfl ?_
    show own_S p e below T7 (mkF m 73 #[vi p1, vi p2, vi p3, vi (1 : Int32), vr u2, vr u2, vi (1 : Int32), vi (1 : Int32), vu] []) _
    refine XS.aload X7.here hx rfl (hb hby at_73) rfl rfl ?_
    show own_S p e below T7 (mkF m 75 #[vi p1, vi p2, vi p3, vi (1 : Int32), vr u2, vr u2, vi (1 : Int32), vi (1 : Int32), vu] [xr u2]) _
    refine XS.aload X7.here hx rfl (hb hby at_75) rfl rfl ?_
    show own_S p e below T7 (mkF m 77 #[vi p1, vi p2, vi p3, vi (1 : Int32), vr u2, vr u2, vi (1 : Int32), vi (1 : Int32), vu] [xr u2, xr u2]) _
    refine st8.trans ?_
    show own_S p e below T8 (mkF m 80 #[vi p1, vi p2, vi p3, vi (1 : Int32), vr u2, vr u2, vi (1 : Int32), vi (1 : Int32), vu] [xr u2]) _
    refine st9.trans ?_
    show own_S p e below T9 (mkF m 83 #[vi p1, vi p2, vi p3, vi (1 : Int32), vr u2, vr u2, vi (1 : Int32), vi (1 : Int32), vu] [xr u2]) _
    refine XS.aload X9.here hx rfl (hb hby at_83) rfl rfl ?_
    show own_S p e below T9 (mkF m 85 #[vi p1, vi p2, vi p3, vi (1 : Int32), vr u2, vr u2, vi (1 : Int32), vi (1 : Int32), vu] [xr u2, xr u2]) _
    refine st10.trans ?_
    show own_S p e below T10 (mkF m 88 #[vi p1, vi p2, vi p3, vi (1 : Int32), vr u2, vr u2, vi (1 : Int32), vi (1 : Int32), vu] [xr u2, xr u2]) _
    refine XS.aload X10.here hx rfl (hb hby at_88) rfl rfl ?_
    show own_S p e below T10 (mkF m 90 #[vi p1, vi p2, vi p3, vi (1 : Int32), vr u2, vr u2, vi (1 : Int32), vi (1 : Int32), vu] [xr u2, xr u2, xr u2]) _
    refine st11.trans ?_
    show own_S p e below T11 (mkF m 93 #[vi p1, vi p2, vi p3, vi (1 : Int32), vr u2, vr u2, vi (1 : Int32), vi (1 : Int32), vu] [xr u2, xr u2, xr u2]) _
    refine st12.trans ?_
    show own_S p e below T12 (mkF m 96 #[vi p1, vi p2, vi p3, vi (1 : Int32), vr u2, vr u2, vi (1 : Int32), vi (1 : Int32), vu] [xr u2, xr u2]) _
    refine Jvm.RoadKit.acmp (g := (mkF m 96 #[vi p1, vi p2, vi p3, vi (1 : Int32), vr u2, vr u2, vi (1 : Int32), vi (1 : Int32), vu] [xr u2, xr u2])) X12 hx rfl rfl rfl (pc0 := 96) (pc' := 99) (same := true) rfl (hb hby at_96) rfl (decide_eq_true rfl) (by decide) (by decide) ?_
    show own_S p e below T12 (mkF m 99 #[vi p1, vi p2, vi p3, vi (1 : Int32), vr u2, vr u2, vi (1 : Int32), vi (1 : Int32), vu] []) _
    refine XS.iconst X12.here hx rfl (hb hby at_99) ?_
    show own_S p e below T12 (mkF m 100 #[vi p1, vi p2, vi p3, vi (1 : Int32), vr u2, vr u2, vi (1 : Int32), vi (1 : Int32), vu] [xi (1 : Int32)]) _
    refine XS.goto X12.here hx rfl (pc0 := 100) (pc' := 104) rfl (hb hby at_100) (by decide) (by decide) ?_
    show own_S p e below T12 (mkF m 104 #[vi p1, vi p2, vi p3, vi (1 : Int32), vr u2, vr u2, vi (1 : Int32), vi (1 : Int32), vu] [xi (1 : Int32)]) _
    refine XS.istore X12.here hx rfl (hb hby at_104) rfl (l' := #[vi p1, vi p2, vi p3, vi (1 : Int32), vr u2, vr u2, vi (1 : Int32), vi (1 : Int32), vi (1 : Int32)]) rfl ?_
    show own_S p e below T12 (mkF m 106 #[vi p1, vi p2, vi p3, vi (1 : Int32), vr u2, vr u2, vi (1 : Int32), vi (1 : Int32), vi (1 : Int32)] []) _
    refine XS.iload X12.here hx rfl (hb hby at_106) rfl ?_
    show own_S p e below T12 (mkF m 108 #[vi p1, vi p2, vi p3, vi (1 : Int32), vr u2, vr u2, vi (1 : Int32), vi (1 : Int32), vi (1 : Int32)] [xi (1 : Int32)]) _
    refine XS.ifNo X12.here hx rfl (hb hby at_108) rfl (by decide) ?_
    show own_S p e below T12 (mkF m 111 #[vi p1, vi p2, vi p3, vi (1 : Int32), vr u2, vr u2, vi (1 : Int32), vi (1 : Int32), vi (1 : Int32)] []) _
    refine XS.iload X12.here hx rfl (hb hby at_111) rfl ?_
    show own_S p e below T12 (mkF m 113 #[vi p1, vi p2, vi p3, vi (1 : Int32), vr u2, vr u2, vi (1 : Int32), vi (1 : Int32), vi (1 : Int32)] [xi (1 : Int32)]) _
    refine XS.ifNo X12.here hx rfl (hb hby at_113) rfl (by decide) ?_
    show own_S p e below T12 (mkF m 116 #[vi p1, vi p2, vi p3, vi (1 : Int32), vr u2, vr u2, vi (1 : Int32), vi (1 : Int32), vi (1 : Int32)] []) _
    refine XS.iload X12.here hx rfl (hb hby at_116) rfl ?_
    show own_S p e below T12 (mkF m 118 #[vi p1, vi p2, vi p3, vi (1 : Int32), vr u2, vr u2, vi (1 : Int32), vi (1 : Int32), vi (1 : Int32)] [xi (1 : Int32)]) _
    refine XS.ifNo X12.here hx rfl (hb hby at_118) rfl (by decide) ?_
    show own_S p e below T12 (mkF m 121 #[vi p1, vi p2, vi p3, vi (1 : Int32), vr u2, vr u2, vi (1 : Int32), vi (1 : Int32), vi (1 : Int32)] []) _
    refine XS.iconst X12.here hx rfl (hb hby at_121) ?_
    show own_S p e below T12 (mkF m 122 #[vi p1, vi p2, vi p3, vi (1 : Int32), vr u2, vr u2, vi (1 : Int32), vi (1 : Int32), vi (1 : Int32)] [xi (1 : Int32)]) _
    refine XS.goto X12.here hx rfl (pc0 := 122) (pc' := 126) rfl (hb hby at_122) (by decide) (by decide) ?_
    show own_S p e below T12 (mkF m 126 #[vi p1, vi p2, vi p3, vi (1 : Int32), vr u2, vr u2, vi (1 : Int32), vi (1 : Int32), vi (1 : Int32)] [xi (1 : Int32)]) _
    exact retN X12 hx (t := .boolean) Bd.returns (by simp) (hb hby at_126) hr
  · exact ⟨rfl, N12⟩
theorem own_law (l : Launch) (Z : State) (a0 : Array Value) (hw : ∀ d ∈ tables_1, d.before a0 Z = true) (u0 u1 u2 : Addr) (G : own_St Z u0 u1 u2) (p1 : Int32) (p2 : Int32) (p3 : Int32) (h0 : Heap) (n0 : Nat) (O0 : Old Z n0 h0) : own_Met l Z x code maxLocals ret room_1 #[(.int p1), (.int p2), (.int p3)] h0 (own_QL (some (.int (1 : Int32))) n0) := by
  rcases own_rem3 p1 with as0 | as1 | as2
  · rcases own_rem3 p2 with as3 | as4 | as5
    · rcases own_mask1 p3 with as6 | as7
      · exact own_l0 l Z a0 hw u0 u1 u2 G p1 p2 p3 as6 as0 as3 h0 n0 O0
      · exact own_l1 l Z a0 hw u0 u1 u2 G p1 p2 p3 as7 as0 as3 h0 n0 O0
    · rcases own_mask1 p3 with as6 | as7
      · exact own_l2 l Z a0 hw u0 u1 u2 G p1 p2 p3 as6 as0 as4 h0 n0 O0
      · exact own_l3 l Z a0 hw u0 u1 u2 G p1 p2 p3 as7 as0 as4 h0 n0 O0
    · rcases own_mask1 p3 with as6 | as7
      · exact own_l4 l Z a0 hw u0 u1 u2 G p1 p2 p3 as6 as0 as5 h0 n0 O0
      · exact own_l5 l Z a0 hw u0 u1 u2 G p1 p2 p3 as7 as0 as5 h0 n0 O0
  · rcases own_rem3 p2 with as3 | as4 | as5
    · rcases own_mask1 p3 with as6 | as7
      · exact own_l6 l Z a0 hw u0 u1 u2 G p1 p2 p3 as6 as1 as3 h0 n0 O0
      · exact own_l7 l Z a0 hw u0 u1 u2 G p1 p2 p3 as7 as1 as3 h0 n0 O0
    · rcases own_mask1 p3 with as6 | as7
      · exact own_l8 l Z a0 hw u0 u1 u2 G p1 p2 p3 as6 as1 as4 h0 n0 O0
      · exact own_l9 l Z a0 hw u0 u1 u2 G p1 p2 p3 as7 as1 as4 h0 n0 O0
    · rcases own_mask1 p3 with as6 | as7
      · exact own_l10 l Z a0 hw u0 u1 u2 G p1 p2 p3 as6 as1 as5 h0 n0 O0
      · exact own_l11 l Z a0 hw u0 u1 u2 G p1 p2 p3 as7 as1 as5 h0 n0 O0
  · rcases own_rem3 p2 with as3 | as4 | as5
    · rcases own_mask1 p3 with as6 | as7
      · exact own_l12 l Z a0 hw u0 u1 u2 G p1 p2 p3 as6 as2 as3 h0 n0 O0
      · exact own_l13 l Z a0 hw u0 u1 u2 G p1 p2 p3 as7 as2 as3 h0 n0 O0
    · rcases own_mask1 p3 with as6 | as7
      · exact own_l14 l Z a0 hw u0 u1 u2 G p1 p2 p3 as6 as2 as4 h0 n0 O0
      · exact own_l15 l Z a0 hw u0 u1 u2 G p1 p2 p3 as7 as2 as4 h0 n0 O0
    · rcases own_mask1 p3 with as6 | as7
      · exact own_l16 l Z a0 hw u0 u1 u2 G p1 p2 p3 as6 as2 as5 h0 n0 O0
      · exact own_l17 l Z a0 hw u0 u1 u2 G p1 p2 p3 as7 as2 as5 h0 n0 O0
set_option maxRecDepth 65536 in
set_option maxHeartbeats 40000000 in
theorem comes_1 {Post : Tables → Env → Array Value → State → Outcome → State → Prop} (hpost : ∀ tb e args s v u, (limb_1_1.after args s (.returned v) u = true ∧ limb_1_2.after args s (.returned v) u = true ∧ True) → FrameEnd s (.returned v) u (Jvm.fieldLocs frame_1_writes args s ++ Jvm.arrayLocs frame_1_arrays args s ++ Jvm.staticLocs frame_1_statics s) 0 0 → Post tb e args s (.returned v) u) :
    ArmFor flags0 classFile x code maxLocals ret World_1 tables_1 room_1 Calls_1 rest_1 Pre_1 Post := by
  intro l hfl _ _ p e ha hc hk s m args below hf hA hF happ hP
  obtain ⟨hcalls, hrest, hpre⟩ := hP
  obtain ⟨-, -, -, hnamed, -, -, -, hat⟩ := (Spec.applies_iff hf).mp happ
  obtain ⟨hg, hn⟩ := and_e (Cond.before_iff.mp (show (Jvm.Cond.and given_1 narrow_1).before args s = true from hpre))
  obtain ⟨hcount, hg0⟩ := and_e hg
  obtain ⟨ga0, hg1⟩ := and_e hg0
  obtain ⟨ga1, hg2⟩ := and_e hg1
  have ga2 := hg2
  obtain ⟨w0, w1, w2, rfl⟩ : ∃ w0 w1 w2 : Value, args = #[w0, w1, w2] := by
    have hs : args.size = 3 := by simpa [Cond.value, given_1] using hcount
    obtain ⟨L⟩ := args
    match L, hs with
    | [w0, w1, w2], _ => exact ⟨w0, w1, w2, rfl⟩
  have hw := fun d (hd : d ∈ tables_1) => atoms_spec (ws := Jvm.Cond.code x code maxLocals ret :: tables_1) hat d (List.mem_cons_of_mem _ hd)
  have hfit : Fit s := fun {y c} hc i hi => by
    obtain ⟨ha, rfl⟩ := Array.getElem?_eq_some_iff.mp hc
    have q := List.all_eq_true.mp ((Array.all_eq_true_iff_forall_mem.mp hF) _ (Array.getElem_mem ha)) i (List.mem_range.mpr hi)
    simpa [Array.getElem?_eq_getElem hi] using q
  obtain ⟨p1, ei0⟩ := is_v ga0
  obtain rfl : w0 = (.int p1) := Option.some.inj ei0
  obtain ⟨p2, ei1⟩ := is_v ga1
  obtain rfl : w1 = (.int p2) := Option.some.inj ei1
  obtain ⟨p3, ei2⟩ := is_v ga2
  obtain rfl : w2 = (.int p3) := Option.some.inj ei2
  have hc0 := hn
  obtain ⟨ca0, hc1⟩ := and_e hc0
  obtain ⟨ca1, hc2⟩ := and_e hc1
  obtain ⟨ca2, hc3⟩ := and_e hc2
  obtain ⟨ca3, hc4⟩ := and_e hc3
  obtain ⟨ca4, hc5⟩ := and_e hc4
  have ca5 := hc5
  obtain ⟨u0, ev_u0⟩ := exa_v ca0
  have pX_u0 := Exa.start ev_u0 ca0
  have pS_u0 : Sta s s.heap "com/example/arbitrium/arbitrium/policy/Truth" "TRUE" "Lcom/example/arbitrium/arbitrium/policy/Truth;" (.ref u0) := Sta.start ev_u0 (Or.inr ⟨(ww hw 6 rfl), (ww hw 7 rfl)⟩)
  obtain ⟨u1, ev_u1⟩ := exa_v ca1
  have pX_u1 := Exa.start ev_u1 ca1
  have pS_u1 : Sta s s.heap "com/example/arbitrium/arbitrium/policy/Truth" "FALSE" "Lcom/example/arbitrium/arbitrium/policy/Truth;" (.ref u1) := Sta.start ev_u1 (Or.inr ⟨(ww hw 6 rfl), (ww hw 13 rfl)⟩)
  obtain ⟨u2, ev_u2⟩ := exa_v ca2
  have pX_u2 := Exa.start ev_u2 ca2
  have pS_u2 : Sta s s.heap "com/example/arbitrium/arbitrium/policy/Truth" "UNKNOWN" "Lcom/example/arbitrium/arbitrium/policy/Truth;" (.ref u2) := Sta.start ev_u2 (Or.inr ⟨(ww hw 6 rfl), (ww hw 20 rfl)⟩)
  have pF_u1_ordinal := own_fld ev_u1 ca3
  have pF_u2_ordinal := own_fld ev_u2 ca4
  have pF_u0_ordinal := own_fld ev_u0 ca5
  have G : own_St s u0 u1 u2 := ⟨pS_u0, pX_u0, pS_u1, pX_u1, pS_u2, pX_u2, pF_u1_ordinal, pF_u2_ordinal, pF_u0_ordinal⟩
  obtain ⟨n, o, h1, h2, h3, _, L, rfl, ⟨rfl, N⟩, hq⟩ := own_law l s _ hw u0 u1 u2 G p1 p2 p3 s.heap s.heap.size (Old.start s) tables_1 p e ha hc hk s m _ below hf ((Spec.applies_iff_loose hf).mp happ).1 ⟨rfl, State.Warmed39.refl s, rfl⟩ trivial
  refine ⟨n, _, h1, h2, h3, hpost _ _ _ _ _ _ ⟨Cond.after_iff.mpr rfl, Cond.after_iff.mpr (eq_i res_at (Term.int_eval (1)) rfl), trivial⟩ ⟨hq.1, hq.2.1, (hq.2.2.sift fun y hy => Or.inr (N y hy)).mono (by decide) (by decide)⟩⟩
theorem main_1_1 : Claimed_1_1 := comes_1 fun _ _ _ _ _ _ h hF => ⟨h.1, hF⟩
theorem main_1_2 : Claimed_1_2 := comes_1 fun _ _ _ _ _ _ h hF => ⟨h.2.1, hF⟩
end Jvm.Pilot.@@N@@
namespace Jvm.Pilot.@@N@@
open Jvm Jvm.ClassFile Sem Op Lib Jvm.Free Jvm.Stand Jvm.Pilot.@@N@@.Jvm.D
/-! MADE BY PROGRAM (witnessworld.py) out of the Statement's table words and the real class files: 12 classes; the members and pool entries that the words name. The judged class is class 1, her method 2. -/
namespace start1
open Jvm.ClassFile
def u (s : String) : CpInfo := .utf8 (stringToUtf16 s)
/-- a pool by its gaps: so many unusable entries, then the entry; so many at the end -/
def gap : Nat → List CpInfo → List CpInfo
  | 0, r => r
  | n + 1, r => .unusable :: gap n r
def poolList (es : List (Nat × CpInfo)) (last : Nat) : List CpInfo := es.foldr (fun e r => gap e.1 (e.2 :: r)) (gap last [])
def pool (es : List (Nat × CpInfo)) (last : Nat) : Array CpInfo := ⟨poolList es last⟩
def fileOf (pool : Array CpInfo) (this : Nat) (attrs : Array Attribute := #[]) (ms : Array MethodInfo := #[]) (fl : Nat := 33) (sup : Nat := 0) (ifs : Array Nat := #[]) (fds : Array FieldInfo := #[]) : ClassFile where
  minorVersion := 0
  majorVersion := 65
  constantPool := pool
  accessFlags := fl
  thisClass := this
  superClass := sup
  interfaces := ifs
  fields := fds
  methods := ms
  attributes := attrs
def plain (name : String) (sup : Option ClassId) : Class where
  name := name
  kind := .ordinary
  loader := none
  accessFlags := 33
  super := sup
  interfaces := #[]
  cf := none
  fields := #[]
  methods := #[]
  instanceTypes := #[]
  staticTypes := #[]
  resolved := #[]
  callSites := []
  init := .initialized
  statics := none
  mirror := none

def pool0 : Array CpInfo := pool [(5, u "<init>"), (0, u "()V"), (1, .class_ 10), (1, u "java/lang/Object")] 113

def k0m0 : Method := { name := "<init>", desc := "()V", sig := { parameters := [], returnType := none }, accessFlags := 1, code := none }
/-- java/lang/Object -/
def k0 : Class := { plain "java/lang/Object" none with
  accessFlags := 33
  interfaces := #[]
  cf := some (fileOf pool0 8 #[] #[{ accessFlags := 1, nameIndex := 5, descriptorIndex := 6, attributes := #[] }] 33 0 #[] #[])
  fields := #[]
  methods := #[k0m0]
  instanceTypes := #[]
  staticTypes := #[]
  resolved := Array.replicate 124 none
  statics := none }

def pool1 : Array CpInfo := pool [(2, .class_ 4), (1, u "java/lang/Object"), (0, u "<init>"), (0, u "()V"), (0, .integer 2147483647), (0, .fieldref 9 10), (0, .class_ 11), (0, .nameAndType 12 13), (0, u "com/example/arbitrium/arbitrium/policy/Truth"), (0, u "TRUE"), (0, u "Lcom/example/arbitrium/arbitrium/policy/Truth;"), (0, .fieldref 9 15), (0, .nameAndType 16 13), (0, u "FALSE"), (0, .fieldref 9 18), (0, .nameAndType 19 13), (0, u "UNKNOWN"), (0, .methodref 21 22), (0, .class_ 23), (0, .nameAndType 24 25), (0, u "com/example/arbitrium/arbitrium/policy/TruthNotPinLaw"), (0, u "pick"), (0, u "(I)Lcom/example/arbitrium/arbitrium/policy/Truth;"), (0, .methodref 9 27), (0, .nameAndType 28 29), (0, u "of"), (0, u "(Z)Lcom/example/arbitrium/arbitrium/policy/Truth;"), (0, .methodref 9 31), (0, .nameAndType 32 33), (0, u "not"), (0, u "()Lcom/example/arbitrium/arbitrium/policy/Truth;"), (0, .methodref 9 35), (0, .nameAndType 36 37), (0, u "and"), (0, u "(Lcom/example/arbitrium/arbitrium/policy/Truth;)Lcom/example/arbitrium/arbitrium/policy/Truth;"), (0, .methodref 9 39), (0, .nameAndType 40 37), (0, u "or"), (3, u "law"), (0, u "(III)Z")] 2

def k1m0 : Method := { name := "<init>", desc := "()V", sig := { parameters := [], returnType := none }, accessFlags := 1, code := none }
def k1c1 : Code := { maxStack := 2, maxLocals := 2, code := method_2_code, exceptionTable := #[], attributes := #[] }
def k1m1 : Method := { name := "pick", desc := "(I)Lcom/example/arbitrium/arbitrium/policy/Truth;", sig := { parameters := [.int], returnType := some (.object "com/example/arbitrium/arbitrium/policy/Truth") }, accessFlags := 10, code := some k1c1 }
def k1c2 : Code := { maxStack := 3, maxLocals := 9, code := code, exceptionTable := #[], attributes := #[] }
def k1m2 : Method := { name := "law", desc := "(III)Z", sig := { parameters := [.int, .int, .int], returnType := some .boolean }, accessFlags := 9, code := some k1c2 }
/-- com/example/arbitrium/arbitrium/policy/TruthNotPinLaw -/
def k1 : Class := { plain "com/example/arbitrium/arbitrium/policy/TruthNotPinLaw" (some 0) with
  accessFlags := 49
  interfaces := #[]
  cf := some (fileOf pool1 21 #[] #[{ accessFlags := 1, nameIndex := 5, descriptorIndex := 6, attributes := #[] }, { accessFlags := 10, nameIndex := 24, descriptorIndex := 25, attributes := #[] }, { accessFlags := 9, nameIndex := 44, descriptorIndex := 45, attributes := #[] }] 49 2 #[] #[])
  fields := #[]
  methods := #[k1m0, k1m1, k1m2]
  instanceTypes := #[]
  staticTypes := #[]
  resolved := Array.replicate 48 none
  statics := none }

def pool2 : Array CpInfo := pool [(1, .class_ 2), (0, u "java/lang/constant/Constable"), (0, .class_ 4), (0, u "java/lang/Object")] 6

/-- java/lang/constant/Constable -/
def k2 : Class := { plain "java/lang/constant/Constable" (some 0) with
  accessFlags := 1537
  interfaces := #[]
  cf := some (fileOf pool2 1 #[] #[] 1537 3 #[] #[])
  fields := #[]
  methods := #[]
  instanceTypes := #[]
  staticTypes := #[]
  resolved := Array.replicate 11 none
  statics := none }

def pool3 : Array CpInfo := pool [(1, .class_ 2), (0, u "java/lang/Comparable"), (0, .class_ 4), (0, u "java/lang/Object")] 7

/-- java/lang/Comparable -/
def k3 : Class := { plain "java/lang/Comparable" (some 0) with
  accessFlags := 1537
  interfaces := #[]
  cf := some (fileOf pool3 1 #[] #[] 1537 3 #[] #[])
  fields := #[]
  methods := #[]
  instanceTypes := #[]
  staticTypes := #[]
  resolved := Array.replicate 12 none
  statics := none }

def pool4 : Array CpInfo := pool [(1, .class_ 2), (0, u "java/io/Serializable"), (0, .class_ 4), (0, u "java/lang/Object")] 2

/-- java/io/Serializable -/
def k4 : Class := { plain "java/io/Serializable" (some 0) with
  accessFlags := 1537
  interfaces := #[]
  cf := some (fileOf pool4 1 #[] #[] 1537 3 #[] #[])
  fields := #[]
  methods := #[]
  instanceTypes := #[]
  staticTypes := #[]
  resolved := Array.replicate 7 none
  statics := none }

def pool5 : Array CpInfo := pool [(2, .class_ 4), (1, u "java/lang/Enum"), (0, u "name"), (0, u "Ljava/lang/String;"), (2, u "ordinal"), (0, u "I"), (1, .class_ 14), (1, u "java/lang/Object"), (4, u "hash"), (86, .class_ 108), (1, u "java/lang/Enum$EnumDesc"), (2, .class_ 112), (0, u "java/lang/constant/Constable"), (0, .class_ 114), (0, u "java/lang/Comparable"), (0, .class_ 116), (0, u "java/io/Serializable")] 87

/-- java/lang/Enum -/
def k5 : Class := { plain "java/lang/Enum" (some 0) with
  accessFlags := 1057
  interfaces := #[2, 3, 4]
  cf := some (fileOf pool5 2 #[.nestMembers #[106]] #[] 1057 12 #[111, 113, 115] #[{ accessFlags := 18, nameIndex := 5, descriptorIndex := 6, attributes := #[] }, { accessFlags := 18, nameIndex := 9, descriptorIndex := 10, attributes := #[] }, { accessFlags := 2, nameIndex := 19, descriptorIndex := 10, attributes := #[] }])
  fields := #[{ name := "name", type := (.object "java/lang/String"), accessFlags := 18, slot := 0, constantValue := 0 }, { name := "ordinal", type := .int, accessFlags := 18, slot := 1, constantValue := 0 }, { name := "hash", type := .int, accessFlags := 2, slot := 2, constantValue := 0 }]
  methods := #[]
  instanceTypes := #[(.object "java/lang/String"), .int, .int]
  staticTypes := #[]
  resolved := Array.replicate 204 none
  statics := none }

def pool6 : Array CpInfo := pool [(1, .class_ 2), (0, u "com/example/arbitrium/arbitrium/policy/Truth"), (0, .fieldref 1 4), (0, .nameAndType 5 6), (0, u "TRUE"), (0, u "Lcom/example/arbitrium/arbitrium/policy/Truth;"), (0, .fieldref 1 8), (0, .nameAndType 9 6), (0, u "FALSE"), (0, .fieldref 1 11), (0, .nameAndType 12 6), (0, u "UNKNOWN"), (2, u "$VALUES"), (0, u "[Lcom/example/arbitrium/arbitrium/policy/Truth;"), (6, .class_ 25), (1, u "java/lang/Enum"), (21, u "of"), (0, u "(Z)Lcom/example/arbitrium/arbitrium/policy/Truth;"), (1, u "and"), (0, u "(Lcom/example/arbitrium/arbitrium/policy/Truth;)Lcom/example/arbitrium/arbitrium/policy/Truth;"), (0, u "or"), (0, u "not"), (0, u "()Lcom/example/arbitrium/arbitrium/policy/Truth;")] 4

def k6c0 : Code := { maxStack := 1, maxLocals := 1, code := prog_71_method_4_code, exceptionTable := #[], attributes := #[] }
def k6m0 : Method := { name := "of", desc := "(Z)Lcom/example/arbitrium/arbitrium/policy/Truth;", sig := { parameters := [.boolean], returnType := some (.object "com/example/arbitrium/arbitrium/policy/Truth") }, accessFlags := 9, code := some k6c0 }
def k6c1 : Code := { maxStack := 2, maxLocals := 2, code := prog_71_method_5_code, exceptionTable := #[], attributes := #[] }
def k6m1 : Method := { name := "and", desc := "(Lcom/example/arbitrium/arbitrium/policy/Truth;)Lcom/example/arbitrium/arbitrium/policy/Truth;", sig := { parameters := [(.object "com/example/arbitrium/arbitrium/policy/Truth")], returnType := some (.object "com/example/arbitrium/arbitrium/policy/Truth") }, accessFlags := 1, code := some k6c1 }
def k6c2 : Code := { maxStack := 2, maxLocals := 2, code := prog_71_method_6_code, exceptionTable := #[], attributes := #[] }
def k6m2 : Method := { name := "or", desc := "(Lcom/example/arbitrium/arbitrium/policy/Truth;)Lcom/example/arbitrium/arbitrium/policy/Truth;", sig := { parameters := [(.object "com/example/arbitrium/arbitrium/policy/Truth")], returnType := some (.object "com/example/arbitrium/arbitrium/policy/Truth") }, accessFlags := 1, code := some k6c2 }
def k6c3 : Code := { maxStack := 2, maxLocals := 1, code := prog_71_method_7_code, exceptionTable := #[], attributes := #[] }
def k6m3 : Method := { name := "not", desc := "()Lcom/example/arbitrium/arbitrium/policy/Truth;", sig := { parameters := [], returnType := some (.object "com/example/arbitrium/arbitrium/policy/Truth") }, accessFlags := 1, code := some k6c3 }
/-- com/example/arbitrium/arbitrium/policy/Truth -/
def k6 : Class := { plain "com/example/arbitrium/arbitrium/policy/Truth" (some 5) with
  accessFlags := 16433
  interfaces := #[]
  cf := some (fileOf pool6 1 #[] #[{ accessFlags := 9, nameIndex := 47, descriptorIndex := 48, attributes := #[] }, { accessFlags := 1, nameIndex := 50, descriptorIndex := 51, attributes := #[] }, { accessFlags := 1, nameIndex := 52, descriptorIndex := 51, attributes := #[] }, { accessFlags := 1, nameIndex := 53, descriptorIndex := 54, attributes := #[] }] 16433 23 #[] #[{ accessFlags := 16409, nameIndex := 5, descriptorIndex := 6, attributes := #[] }, { accessFlags := 16409, nameIndex := 9, descriptorIndex := 6, attributes := #[] }, { accessFlags := 16409, nameIndex := 12, descriptorIndex := 6, attributes := #[] }, { accessFlags := 4122, nameIndex := 15, descriptorIndex := 16, attributes := #[] }])
  fields := #[{ name := "TRUE", type := (.object "com/example/arbitrium/arbitrium/policy/Truth"), accessFlags := 16409, slot := 0, constantValue := 0 }, { name := "FALSE", type := (.object "com/example/arbitrium/arbitrium/policy/Truth"), accessFlags := 16409, slot := 1, constantValue := 0 }, { name := "UNKNOWN", type := (.object "com/example/arbitrium/arbitrium/policy/Truth"), accessFlags := 16409, slot := 2, constantValue := 0 }, { name := "$VALUES", type := (.array (.object "com/example/arbitrium/arbitrium/policy/Truth")), accessFlags := 4122, slot := 3, constantValue := 0 }]
  methods := #[k6m0, k6m1, k6m2, k6m3]
  instanceTypes := #[(.object "java/lang/String"), .int, .int]
  staticTypes := #[(.object "com/example/arbitrium/arbitrium/policy/Truth"), (.object "com/example/arbitrium/arbitrium/policy/Truth"), (.object "com/example/arbitrium/arbitrium/policy/Truth"), (.array (.object "com/example/arbitrium/arbitrium/policy/Truth"))]
  resolved := Array.replicate 59 none
  statics := some 0 }

def pool7 : Array CpInfo := pool [(1, u "java/lang/Cloneable"), (0, .class_ 1), (0, u "java/lang/Object"), (0, .class_ 3)] 3

/-- java/lang/Cloneable -/
def k7 : Class := { plain "java/lang/Cloneable" (some 0) with
  accessFlags := 1537
  interfaces := #[]
  cf := some (fileOf pool7 2 #[] #[] 1537 4 #[] #[])
  fields := #[]
  methods := #[]
  instanceTypes := #[]
  staticTypes := #[]
  resolved := Array.replicate 8 none
  statics := none }

/-- the primitive byte -/
def k8 : Class := { plain "byte" none with kind := .primitive 'B', accessFlags := 0x411 }
/-- [B -/
def k9 : Class := { plain "[B" (some 0) with kind := .array 8 .byte, interfaces := #[7, 4], accessFlags := 1041 }

/-- the primitive int -/
def k10 : Class := { plain "int" none with kind := .primitive 'I', accessFlags := 0x411 }
/-- [I -/
def k11 : Class := { plain "[I" (some 0) with kind := .array 10 .int, interfaces := #[7, 4], accessFlags := 1041 }

def heap : Heap := #[{ cls := 6, slots := #[.ref 1, .ref 2, .ref 3, .null], vm := .statics 6 },
  { cls := 6, slots := #[.null, .int 0, .int 0], vm := .none },
  { cls := 6, slots := #[.null, .int 1, .int 0], vm := .none },
  { cls := 6, slots := #[.null, .int 2, .int 0], vm := .none }]
def classes : Array Class := #[k0, k1, k2, k3, k4, k5, k6, k7, k8, k9, k10, k11]
def interned : List (Array UInt16 × Addr) := []
def slotsUsed : Nat := 13
def theMethod : MethodId := ⟨1, 2⟩
def args0 : Array Value := #[.int 5, .int 7, .int 1]
def aboutOver (below : List Frame) : State where
  vm := { classes := classes, interned := interned.toArray }
  heap := heap
  slotsUsed := slotsUsed
  threads := #[{ frames := .invoking theMethod args0 :: below }]
def below0 : List Frame := [.native { method := ⟨0, 0⟩, args := #[] }]
def about1 : State := aboutOver below0
def p0 : Program := .bare "" "" ""
def e0 : Env := launch0.env 0 0 0
theorem w_frames : about1.frames = Frame.invoking theMethod args0 :: below0 := rfl
set_option maxRecDepth 65536 in
theorem w_args : argsFit about1.vm theMethod args0 = true := by decide +kernel
set_option maxRecDepth 65536 in
theorem w_heap : heapFits about1 = true := by decide +kernel
set_option maxRecDepth 65536 in
theorem w_runnable : about1.curStatus? = some .runnable := by decide +kernel
set_option maxRecDepth 65536 in
theorem w_alone : about1.alone = true := by decide +kernel
set_option maxRecDepth 65536 in
theorem w_named : about1.methodNamed? x = some theMethod := by decide +kernel
set_option maxRecDepth 65536 in
theorem w_hears : about1.hears theMethod below0 = true := by decide +kernel
set_option maxRecDepth 65536 in
theorem w_ripe : about1.ripe theMethod args0 below0 = true := by decide +kernel
theorem w_running : about1.status = .running := rfl
set_option maxRecDepth 65536 in
theorem w_room : about1.hasRoom e0.platform room_1 = true :=
  launch0.hasRoom_least _ room_1 (by decide +kernel) (by decide +kernel) (by decide +kernel) (by decide +kernel) (by decide +kernel) (by decide +kernel)
theorem allAtoms_all (ts : List Jvm.Cond) (a : Array Jvm.Value) (st : Jvm.State) : (allAtoms ts).before a st = ts.all (fun c => c.before a st) := by
  induction ts with
  | nil => rfl
  | cons c t ih =>
    show (Jvm.Cond.and c (allAtoms t)).before a st = _
    rw [Jvm.Cond.before_and, ih, List.all_cons]
def words1 : List Jvm.Cond := Jvm.Cond.code x code maxLocals ret :: tables_1
/-- a 'code' word, met by the world's own term for the bytes: nothing is compared byte by byte -/
theorem code_word {y : MethodName} {bytes : ByteArray} {mx : Nat} {rt : Option FieldType} {a : Array Value} {s : State} {m : MethodId} {meth : Method} {c : Code} (h1 : s.methodNamed? y = some m) (h2 : s.vm.method? m = some meth) (h3 : meth.code = some c) (h4 : c.code = bytes)
    (h5 : (c.maxLocals == mx && c.exceptionTable.isEmpty && decide (c.maxStack ≤ mostOperands) && decide (meth.sig.returnType = rt) && !meth.locks && decide (parseMethodDescriptor y.desc = some meth.sig)) = true) : (Jvm.Cond.code y bytes mx rt).before a s = true := by
  simp only [Bool.and_eq_true, beq_iff_eq, Bool.not_eq_true', decide_eq_true_eq] at h5
  obtain ⟨⟨⟨⟨⟨g1, g2⟩, g3⟩, g4⟩, g5⟩, g6⟩ := h5
  simp [Cond.before, Cond.holds, Cond.value, h1, h2, h3, h4, g1, g2, g3, g4, g5, g6]
def isCode : Jvm.Cond → Bool
  | .code _ _ _ _ => true
  | _ => false
theorem all_split {L : List Jvm.Cond} {P : Jvm.Cond → Bool} (h1 : L.all (fun c => isCode c || P c) = true) (h2 : ∀ c ∈ L.filter isCode, P c = true) : L.all P = true := by
  refine List.all_eq_true.mpr fun c hc => ?_
  have h := List.all_eq_true.mp h1 c hc
  rcases Bool.eq_false_or_eq_true (isCode c) with hi | hi
  · exact h2 c (List.mem_filter.mpr ⟨hc, hi⟩)
  · simpa [hi] using h
set_option maxRecDepth 65536 in
theorem w_c0 : (Jvm.Cond.code x code maxLocals ret).before args0 about1 = true := code_word (m := ⟨1, 2⟩) (meth := k1m2) (c := k1c2) (by decide +kernel) rfl rfl rfl (by decide +kernel)
set_option maxRecDepth 65536 in
theorem w_c1 : (Jvm.Cond.code ({ cls := "com/example/arbitrium/arbitrium/policy/TruthNotPinLaw", name := "pick", desc := "(I)Lcom/example/arbitrium/arbitrium/policy/Truth;" } : Jvm.MethodName) method_2_code (2 : Nat) (Option.some (Jvm.ClassFile.FieldType.object "com/example/arbitrium/arbitrium/policy/Truth"))).before args0 about1 = true := code_word (m := ⟨1, 1⟩) (meth := k1m1) (c := k1c1) (by decide +kernel) rfl rfl rfl (by decide +kernel)
set_option maxRecDepth 65536 in
theorem w_c2 : (Jvm.Cond.code ({ cls := "com/example/arbitrium/arbitrium/policy/Truth", name := "of", desc := "(Z)Lcom/example/arbitrium/arbitrium/policy/Truth;" } : Jvm.MethodName) prog_71_method_4_code (1 : Nat) (Option.some (Jvm.ClassFile.FieldType.object "com/example/arbitrium/arbitrium/policy/Truth"))).before args0 about1 = true := code_word (m := ⟨6, 0⟩) (meth := k6m0) (c := k6c0) (by decide +kernel) rfl rfl rfl (by decide +kernel)
set_option maxRecDepth 65536 in
theorem w_c3 : (Jvm.Cond.code ({ cls := "com/example/arbitrium/arbitrium/policy/Truth", name := "not", desc := "()Lcom/example/arbitrium/arbitrium/policy/Truth;" } : Jvm.MethodName) prog_71_method_7_code (1 : Nat) (Option.some (Jvm.ClassFile.FieldType.object "com/example/arbitrium/arbitrium/policy/Truth"))).before args0 about1 = true := code_word (m := ⟨6, 3⟩) (meth := k6m3) (c := k6c3) (by decide +kernel) rfl rfl rfl (by decide +kernel)
set_option maxRecDepth 65536 in
theorem w_c4 : (Jvm.Cond.code ({ cls := "com/example/arbitrium/arbitrium/policy/Truth", name := "and", desc := "(Lcom/example/arbitrium/arbitrium/policy/Truth;)Lcom/example/arbitrium/arbitrium/policy/Truth;" } : Jvm.MethodName) prog_71_method_5_code (2 : Nat) (Option.some (Jvm.ClassFile.FieldType.object "com/example/arbitrium/arbitrium/policy/Truth"))).before args0 about1 = true := code_word (m := ⟨6, 1⟩) (meth := k6m1) (c := k6c1) (by decide +kernel) rfl rfl rfl (by decide +kernel)
set_option maxRecDepth 65536 in
theorem w_c5 : (Jvm.Cond.code ({ cls := "com/example/arbitrium/arbitrium/policy/Truth", name := "or", desc := "(Lcom/example/arbitrium/arbitrium/policy/Truth;)Lcom/example/arbitrium/arbitrium/policy/Truth;" } : Jvm.MethodName) prog_71_method_6_code (2 : Nat) (Option.some (Jvm.ClassFile.FieldType.object "com/example/arbitrium/arbitrium/policy/Truth"))).before args0 about1 = true := code_word (m := ⟨6, 2⟩) (meth := k6m2) (c := k6c2) (by decide +kernel) rfl rfl rfl (by decide +kernel)
def codes1 : List Jvm.Cond := [Jvm.Cond.code x code maxLocals ret, Jvm.Cond.code ({ cls := "com/example/arbitrium/arbitrium/policy/TruthNotPinLaw", name := "pick", desc := "(I)Lcom/example/arbitrium/arbitrium/policy/Truth;" } : Jvm.MethodName) method_2_code (2 : Nat) (Option.some (Jvm.ClassFile.FieldType.object "com/example/arbitrium/arbitrium/policy/Truth")), Jvm.Cond.code ({ cls := "com/example/arbitrium/arbitrium/policy/Truth", name := "of", desc := "(Z)Lcom/example/arbitrium/arbitrium/policy/Truth;" } : Jvm.MethodName) prog_71_method_4_code (1 : Nat) (Option.some (Jvm.ClassFile.FieldType.object "com/example/arbitrium/arbitrium/policy/Truth")), Jvm.Cond.code ({ cls := "com/example/arbitrium/arbitrium/policy/Truth", name := "not", desc := "()Lcom/example/arbitrium/arbitrium/policy/Truth;" } : Jvm.MethodName) prog_71_method_7_code (1 : Nat) (Option.some (Jvm.ClassFile.FieldType.object "com/example/arbitrium/arbitrium/policy/Truth")), Jvm.Cond.code ({ cls := "com/example/arbitrium/arbitrium/policy/Truth", name := "and", desc := "(Lcom/example/arbitrium/arbitrium/policy/Truth;)Lcom/example/arbitrium/arbitrium/policy/Truth;" } : Jvm.MethodName) prog_71_method_5_code (2 : Nat) (Option.some (Jvm.ClassFile.FieldType.object "com/example/arbitrium/arbitrium/policy/Truth")), Jvm.Cond.code ({ cls := "com/example/arbitrium/arbitrium/policy/Truth", name := "or", desc := "(Lcom/example/arbitrium/arbitrium/policy/Truth;)Lcom/example/arbitrium/arbitrium/policy/Truth;" } : Jvm.MethodName) prog_71_method_6_code (2 : Nat) (Option.some (Jvm.ClassFile.FieldType.object "com/example/arbitrium/arbitrium/policy/Truth"))]
set_option maxRecDepth 65536 in
theorem codes_eq : words1.filter isCode = codes1 := rfl
theorem w_codes : ∀ c ∈ words1.filter isCode, c.before args0 about1 = true := by
  rw [codes_eq]
  intro c hc
  simp only [codes1, List.mem_cons, List.not_mem_nil, or_false] at hc
  rcases hc with rfl | rfl | rfl | rfl | rfl | rfl
  · exact w_c0
  · exact w_c1
  · exact w_c2
  · exact w_c3
  · exact w_c4
  · exact w_c5
set_option maxRecDepth 65536 in
theorem w_t1 : (words1.take 24).all (fun c => isCode c || c.before args0 about1) = true := by decide +kernel
set_option maxRecDepth 65536 in
theorem w_t2 : (words1.drop 24).all (fun c => isCode c || c.before args0 about1) = true := by decide +kernel
theorem w_tables : (allAtoms (Jvm.Cond.code x code maxLocals ret :: tables_1)).before args0 about1 = true := by
  rw [allAtoms_all]
  show words1.all (fun c => c.before args0 about1) = true
  refine all_split ?_ w_codes
  rw [← List.take_append_drop 24 words1, List.all_append, w_t1, w_t2]
  rfl
set_option maxRecDepth 65536 in
theorem w_case : (Jvm.Cond.and given_1 narrow_1).before args0 about1 = true := by decide +kernel
theorem w_applies : (headSpec (Jvm.Cond.code x code maxLocals ret :: tables_1) room_1).applies x e0.platform about1 = true :=
  (Spec.applies_iff w_frames).mpr ⟨w_running, w_runnable, w_alone, w_named, w_hears, w_ripe, w_room, w_tables⟩
theorem atStart : AtStart classFile x code maxLocals ret World_1 tables_1 room_1 Calls_1 rest_1 Pre_1 launch0 p0 e0 about1 theMethod args0 below0 :=
  ⟨lists_1, trivial, launch0.admits_env _ _ _, launch0.least_env, fairChoices_fair.cas, fairChoices_fair.clock, w_frames, w_args, w_heap, w_applies, trivial, trivial, w_case⟩
end start1
theorem witness_1 : WitnessClaimed_1 := ⟨start1.p0, start1.e0, start1.about1, start1.theMethod, start1.args0, start1.below0, start1.atStart⟩
end Jvm.Pilot.@@N@@
