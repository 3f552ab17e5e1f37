import JvmDerived
import JvmDerived.Pilot.@@N@@Statement
import JvmDerived.Pilot.@@N@@Code
set_option linter.unusedVariables false
set_option linter.unusedSimpArgs false
namespace Jvm.RoadKit
open Sem ClassFile Op Lib Jvm.Stand Jvm.Free Jvm.LawKit
section New
variable {p : Program} {l : Launch} {e : Env} {R : Room} {s : State} {m : MethodId} {args : Array Value} {below : List Frame} {meth : Method} {c : Code} {T : State} {locs : List Loc} {cells slots : Nat}
theorem retI (X : Stand p l e R s m args below meth c T locs cells slots) (hx : p.tables.exec = Jvm.exec) {pc : Nat} {Ls : Array Slot} {z : Int32} {rest : List Value} (hret : meth.sig.returnType = some .int) (hd : decode c.code pc = .ok (.ireturn, 1)) {fs : List Frame}
    (hl : ∀ (f : JFrame) (acts : List Action), f.method = m → f.locked = none → f.entered = [] → (doReturn e (T.setTop f) acts (some (.int z))).1 = T.setFrames fs) : Steps p.tables e below (T.setTop (mkF m pc Ls (.int z :: rest))) (T.setFrames fs) := by
  have hm' : T.vm.method? m = some meth := X.method'
  have hn : narrow .int (.int z) = .int z := rfl
  show Steps p.tables e below (T.setTop { method := m, pc := pc, locals := Ls, stack := _ :: rest, locked := none }) _
  jvm_step X.here [X.here.top, hx, hd, hm', hret, hn]
  first | (intro acts; rw [hl _ acts rfl rfl rfl]) | rw [hl _ _ rfl rfl rfl]
  exact Steps.refl _
end New
end Jvm.RoadKit
namespace Jvm.Pilot.@@N@@
open Jvm Jvm.ClassFile Sem Op Lib Jvm.Free Jvm.Stand Jvm.LawKit Jvm.RoadKit Bundle Jvm.Pilot.@@N@@.Jvm.D
theorem ww {a0 : Array Value} {Z : State} (hw : ∀ d ∈ tables_1, d.before a0 Z = true) (i : Nat) {d : Jvm.Cond} (h : tables_1[i]? = some d) : d.before a0 Z = true := hw d (List.mem_of_getElem? h)
abbrev vi (x : Int32) : Slot := .val (.int x)
abbrev vj (x : Int64) : Slot := .val (.long x)
abbrev vr (x : Addr) : Slot := .val (.ref x)
abbrev vn : Slot := .val .null
abbrev vu : Slot := .unset
abbrev xi (x : Int32) : Value := .int x
abbrev xj (x : Int64) : Value := .long x
abbrev xr (x : Addr) : Value := .ref x
abbrev own_S (p : Program) (e : Env) (below : List Frame) (T : State) (g : JFrame) (t : State) : Prop := Steps p.tables e below (T.setTop g) t
/-- a body's contract: at these arguments and this heap it returns as Q says -/
abbrev own_Met (l : Launch) (Z : State) (y : MethodName) (bytes : ByteArray) (maxL : Nat) (rt : Option FieldType) (rm : Room) (as' : Array Value) (h0 : Heap) (Qy : Option Value → Heap → List Loc → Prop) : Prop :=
  ∀ ws : List Jvm.Cond, MetFree l y (head1 (Jvm.Cond.code y bytes maxL rt :: ws) rm) (fun a U => a = as' ∧ Z.Warmed39 U.vm ∧ U.heap = h0) (fun _ _ _ _ _ => True) (fun _ U o U' => ∃ v L, o = .returned v ∧ Qy v U'.heap L ∧ FrameEnd U o U' L rm.cells rm.slots)
/-- it returns r and leaves the heap -/
def own_QR (r : Option Value) (h0 : Heap) (n0 : Nat) (v : Option Value) (h : Heap) (L : List Loc) : Prop := v = r ∧ Fr n0 L ∧ h = h0
/-- it returns r and writes nothing that stood at the start -/
def own_QL (r : Option Value) (n0 : Nat) (v : Option Value) (h : Heap) (L : List Loc) : Prop := v = r ∧ Fr n0 L
theorem own_le {Z : State} {n0 : Nat} {h : Heap} (O : Old Z n0 h) : n0 ≤ h.size := O.1 ▸ O.2.1
theorem own_fresh {Z : State} {n0 : Nat} {h : Heap} {a : Addr} (O : Old Z n0 h) (g : a = h.size) : n0 ≤ a := g ▸ own_le O
theorem own_fld {s : State} {args : Array Value} {t : Term} {C n d : String} {a : Addr} {k : Int32} (ht : t.eval args s none [] s = some (.ref a)) (h : (Jvm.Cond.eq (.field t C n d) (.int k)).value args s none s [] = some true) : Fld s s.heap a C n d (.int k) := by
  refine Fld.start ?_
  simp only [Cond.value, Term.eval, ht] at h
  cases hv : s.fieldOf? a C n d with
  | none => simp [hv] at h
  | some v => cases v <;> simp [hv] at h; subst h; rfl
theorem own_fldN {s : State} {args : Array Value} {t : Term} {C n d : String} {a : Addr} (ht : t.eval args s none [] s = some (.ref a)) (h : (Jvm.Cond.eq (.field t C n d) .null).value args s none s [] = some true) : Fld s s.heap a C n d .null :=
  Fld.start ((fld_at ht).symm.trans (null_v h))
theorem own_fldX {s : State} {args : Array Value} {t : Term} {C n d K : String} {a : Addr} (ht : t.eval args s none [] s = some (.ref a)) (h : (Jvm.Cond.exactly (.field t C n d) K).value args s none s [] = some true) : ∃ b, Fld s s.heap a C n d (.ref b) ∧ Exa s s.heap b K := by
  obtain ⟨b, eb⟩ := exa_v h
  exact ⟨b, Fld.start ((fld_at ht).symm.trans eb), Exa.start eb h⟩
theorem own_len {s : State} {args : Array Value} {t : Term} {a : Addr} {cl : Cell} {ty : FieldType} {k : Int32} {k' : Nat} (ht : t.eval args s none [] s = some (.ref a)) (A : Arr s s.heap a cl ty) (h : (Jvm.Cond.eq (.length t) (.int k)).value args s none s [] = some true) (hk : k.toInt = k') : cl.slots.size = k' := by
  obtain ⟨v, hv⟩ : ∃ v, (Term.length t).eval args s none [] s = some v := by
    cases hq : (Term.length t).eval args s none [] s with
    | none => simp [Cond.value, hq] at h
    | some v => exact ⟨v, rfl⟩
  have ha : s.arrayAt? a = some cl := Arr.fin (Vm.Alike.refl _) A
  by_cases hl : cl.slots.size < 2 ^ 31
  · rw [len_f ht ha hl] at hv
    have h2 := len_f ht ha hl
    have h3 : cl.slots.size.toInt32 = k := gotT (Cond.eq_ints h2 (Term.int_eval k)) h
    have h4 := len_toInt hl
    rw [h3, hk] at h4
    omega
  · simp [Term.eval, ht, ha, hl] at hv
theorem own_pack {p : Program} {l : Launch} {e : Env} {R : Room} {s : State} {m : MethodId} {args : Array Value} {below : List Frame} {meth : Method} {c : Code} {T : State} {locs : List Loc} {cells slots n0 : Nat} (X : Stand p l e R s m args below meth c T locs cells slots) (N : Fr n0 locs) : ∃ L, Stand p l e R s m args below meth c T L cells slots ∧ Fr n0 L := ⟨_, X, N⟩
theorem own_ref {x y : Addr} (h : x ≠ y) : decide ((Value.ref x : Value) = .ref y) = false := by simp [h]
theorem own_mask (x : Int32) : 0 ≤ (x &&& (2147483647 : Int32)).toInt := by
  have := c_mask x 2147483647 31 (by decide) (by decide); omega
theorem wj {a0 : Array Value} {Z : State} (hj : ∀ d ∈ jdkStatics_1, d.before a0 Z = true) (i : Nat) {d : Jvm.Cond} (h : jdkStatics_1[i]? = some d) : d.before a0 Z = true := hj d (List.mem_of_getElem? h)
def own_St (Z : State) {a0 : Array Value} (hj : ∀ d ∈ jdkStatics_1, d.before a0 Z = true)  (ki0 : Int32) (vf0 : Value) : Prop := (Sta Z Z.heap "java/lang/String" "COMPACT_STRINGS" "Z" (.int ki0)) ∧ (¬ ki0 = (0 : Int32)) ∧ (Sta Z Z.heap "jdk/internal/util/Preconditions" "SIOOBE_FORMATTER" "Ljava/util/function/BiFunction;" vf0) ∧ (vf0.isRef = true) ∧ (Sta Z Z.heap "java/lang/StringUTF16" "$assertionsDisabled" "Z" (.int (1 : Int32))) ∧ (Sta Z Z.heap "java/lang/StringUTF16" "HI_BYTE_SHIFT" "I" (.int (0 : Int32))) ∧ (Sta Z Z.heap "java/lang/StringUTF16" "LO_BYTE_SHIFT" "I" (.int (8 : Int32)))
theorem own_S_ki0 {Z : State} {a0 : Array Value} {hj : ∀ d ∈ jdkStatics_1, d.before a0 Z = true}  {ki0 : Int32} {vf0 : Value} (G : own_St Z hj ki0 vf0) : Sta Z Z.heap "java/lang/String" "COMPACT_STRINGS" "Z" (.int ki0) := G.1
theorem own_nz_ki0 {Z : State} {a0 : Array Value} {hj : ∀ d ∈ jdkStatics_1, d.before a0 Z = true}  {ki0 : Int32} {vf0 : Value} (G : own_St Z hj ki0 vf0) : ¬ ki0 = (0 : Int32) := G.2.1
theorem own_S_vf0 {Z : State} {a0 : Array Value} {hj : ∀ d ∈ jdkStatics_1, d.before a0 Z = true}  {ki0 : Int32} {vf0 : Value} (G : own_St Z hj ki0 vf0) : Sta Z Z.heap "jdk/internal/util/Preconditions" "SIOOBE_FORMATTER" "Ljava/util/function/BiFunction;" vf0 := G.2.2.1
theorem own_R_vf0 {Z : State} {a0 : Array Value} {hj : ∀ d ∈ jdkStatics_1, d.before a0 Z = true}  {ki0 : Int32} {vf0 : Value} (G : own_St Z hj ki0 vf0) : vf0.isRef = true := G.2.2.2.1
theorem own_S_ke0 {Z : State} {a0 : Array Value} {hj : ∀ d ∈ jdkStatics_1, d.before a0 Z = true}  {ki0 : Int32} {vf0 : Value} (G : own_St Z hj ki0 vf0) : Sta Z Z.heap "java/lang/StringUTF16" "$assertionsDisabled" "Z" (.int (1 : Int32)) := G.2.2.2.2.1
theorem own_S_ke1 {Z : State} {a0 : Array Value} {hj : ∀ d ∈ jdkStatics_1, d.before a0 Z = true}  {ki0 : Int32} {vf0 : Value} (G : own_St Z hj ki0 vf0) : Sta Z Z.heap "java/lang/StringUTF16" "HI_BYTE_SHIFT" "I" (.int (0 : Int32)) := G.2.2.2.2.2.1
theorem own_S_ke2 {Z : State} {a0 : Array Value} {hj : ∀ d ∈ jdkStatics_1, d.before a0 Z = true}  {ki0 : Int32} {vf0 : Value} (G : own_St Z hj ki0 vf0) : Sta Z Z.heap "java/lang/StringUTF16" "LO_BYTE_SHIFT" "I" (.int (8 : Int32)) := G.2.2.2.2.2.2
def own_vs (f : Nat → Int32) (N : Nat) : List Value := (List.range N).map fun i => .int (f i)
theorem own_vs_len (f : Nat → Int32) (N : Nat) : (own_vs f N).length = N := by simp [own_vs]
theorem own_vs_get {f : Nat → Int32} {N i : Nat} {d : Value} (h : i < N) : (own_vs f N).getD i d = .int (f i) := by
  simp [own_vs, List.getD, h]
theorem own_pad0 (N : Nat) : ∀ i, (own_vs (fun _ => (0 : Int32)) N).getD i (.int (0 : Int32)) = ([] : List Value).getD i (.int (0 : Int32)) := fun i => by
  by_cases h : i < N
  · rw [own_vs_get h]; simp
  · simp [own_vs, List.getD, h]
def own_up (f : Nat → Int32) (i : Nat) (v : Int32) : Nat → Int32 := fun j => if j = i then v else f j
theorem own_vs_set (f : Nat → Int32) (N i : Nat) (v : Int32) : (own_vs f N).set i (.int v) = own_vs (own_up f i v) N := by
  apply List.ext_getElem
  · simp [own_vs]
  · intro j h1 h2
    simp only [own_vs, List.getElem_set, List.getElem_map, List.getElem_range, own_up]
    by_cases h : i = j
    · subst h; simp
    · have h' : ¬ j = i := fun e => h e.symm
      simp [h, h']
theorem own_vs_congr {f g : Nat → Int32} {N : Nat} (h : ∀ i, i < N → f i = g i) : own_vs f N = own_vs g N := by
  apply List.map_congr_left
  intro i hi; rw [h i (List.mem_range.mp hi)]
theorem own_toInt {i : Nat} (h : i < 2147483648) : (Int32.ofNat i).toInt = i := Int32.toInt_ofNat_of_lt (by omega)
theorem own_nat {i : Nat} (h : i < 2147483648) : (Int32.ofNat i).toNatClampNeg = i := by
  rw [Int32.toNatClampNeg, own_toInt h]; rfl
theorem own_in {i N : Nat} (h : i < N) (hN : N < 2147483648) : ¬ Int32.ofNat i < 0 ∧ Int32.ofNat i < Int32.ofNat N := by
  constructor
  · rw [Int32.lt_iff_toInt_lt, own_toInt (by omega)]; have : ((0 : Int32)).toInt = 0 := by decide
    omega
  · rw [Int32.lt_iff_toInt_lt, own_toInt (by omega), own_toInt hN]; omega
theorem own_nneg {N : Nat} (hN : N < 2147483648) : ¬ Int32.ofNat N < 0 := by
  rw [Int32.lt_iff_toInt_lt, own_toInt hN]; have : ((0 : Int32)).toInt = 0 := by decide
  omega
theorem own_suc (i : Nat) : Int32.ofNat i + (1 : Int32) = Int32.ofNat (i + 1) := (Int32.ofNat_add i 1).symm
theorem own_dbl {i : Nat} (h : i < 1073741824) : (Int32.ofNat i <<< ((1 : Int32) &&& 31)) = Int32.ofNat (2 * i) := by
  refine Int32.toInt_inj.mp ?_
  have h1 := c_ishl (Int32.ofNat i) 1 1 (by decide)
  rw [own_toInt (by omega)] at h1
  rw [own_toInt (by omega)]
  have h2 := rng32 (Int32.ofNat i <<< ((1 : Int32) &&& 31))
  omega
theorem own_half {n : Nat} (h : n < 2147483648) : (Int32.ofNat n >>> ((1 : Int32) &&& 31)) = Int32.ofNat (n / 2) := by
  refine Int32.toInt_inj.mp ?_
  rw [c_ishr _ _ 1 (by decide), own_toInt h, own_toInt (by omega)]; omega
theorem own_sh0 (x : Int32) : (x >>> ((0 : Int32) &&& 31)) = x := by
  refine Int32.toInt_inj.mp ?_
  rw [c_ishr _ _ 0 (by decide)]; simp
theorem own_seq {s : State} {args : Array Value} {t : Term} {k : Int32} (h : (Jvm.Cond.eq t (.int k)).value args s none s [] = some true) : ∃ v, t.eval args s none [] s = some v ∧ v = .int k := by
  cases hv : t.eval args s none [] s with
  | none => simp [Cond.value, hv] at h
  | some v => cases v <;> simp [Cond.value, hv, Term.eval] at h; subst h; exact ⟨_, rfl, rfl⟩
def own_One (sl : Slot) : Prop := sl = .unset ∨ ∃ w, sl = .val w ∧ w.category = 1
theorem own_one_i (x : Int32) : own_One (vi x) := Or.inr ⟨_, rfl, rfl⟩
theorem own_one_u : own_One vu := Or.inl rfl
theorem d8_3 : decode jdk_52_method_21_code 3 = .ok (.iload 5, 2) := by decide +kernel
theorem d8_5 : decode jdk_52_method_21_code 5 = .ok (.iload 4, 2) := by decide +kernel
theorem d8_7 : decode jdk_52_method_21_code 7 = .ok (.if_icmp .ge 37, 3) := by decide +kernel
theorem d8_10 : decode jdk_52_method_21_code 10 = .ok (.aload_n 0, 1) := by decide +kernel
theorem d8_11 : decode jdk_52_method_21_code 11 = .ok (.iload_n 1, 1) := by decide +kernel
theorem d8_12 : decode jdk_52_method_21_code 12 = .ok (.caload, 1) := by decide +kernel
theorem d8_13 : decode jdk_52_method_21_code 13 = .ok (.istore 6, 2) := by decide +kernel
theorem d8_15 : decode jdk_52_method_21_code 15 = .ok (.iload 6, 2) := by decide +kernel
theorem d8_17 : decode jdk_52_method_21_code 17 = .ok (.sipush 255, 3) := by decide +kernel
theorem d8_20 : decode jdk_52_method_21_code 20 = .ok (.if_icmp .le 6, 3) := by decide +kernel
theorem d8_26 : decode jdk_52_method_21_code 26 = .ok (.aload_n 2, 1) := by decide +kernel
theorem d8_27 : decode jdk_52_method_21_code 27 = .ok (.iload_n 3, 1) := by decide +kernel
theorem d8_28 : decode jdk_52_method_21_code 28 = .ok (.iload 6, 2) := by decide +kernel
theorem d8_30 : decode jdk_52_method_21_code 30 = .ok (.i2b, 1) := by decide +kernel
theorem d8_31 : decode jdk_52_method_21_code 31 = .ok (.bastore, 1) := by decide +kernel
theorem d8_32 : decode jdk_52_method_21_code 32 = .ok (.iinc 1 1, 3) := by decide +kernel
theorem d8_35 : decode jdk_52_method_21_code 35 = .ok (.iinc 3 1, 3) := by decide +kernel
theorem d8_38 : decode jdk_52_method_21_code 38 = .ok (.iinc 5 1, 3) := by decide +kernel
theorem d8_41 : decode jdk_52_method_21_code 41 = .ok (.goto (-38), 3) := by decide +kernel
set_option maxRecDepth 65536 in
set_option maxHeartbeats 40000000 in
theorem own_cmp_turn {p : Program} {l : Launch} {e : Env} {s : State} {m : MethodId} {args : Array Value} {below : List Frame} {meth : Method} {c : Code} {T0 : State} {locs : List Loc} {Z : State} {a0 : Array Value} (hw : ∀ d ∈ tables_1, d.before a0 Z = true) (hj : ∀ d ∈ jdkStatics_1, d.before a0 Z = true)  (ki0 : Int32) (vf0 : Value) (G : own_St Z hj ki0 vf0) (a : Addr) (b : Addr) (ks : ClassId) (kd : ClassId) (i : Nat) (N : Nat) (f : Nat → Int32) (g : Nat → Int32) (s6 : Slot) (hx : p.tables.exec = Jvm.exec) (hZ : Z.Warmed39 s.vm) (hby : c.code = jdk_52_method_21_code) (hml : c.maxLocals = 7) (hown : s.vm.findClass "java/lang/StringUTF16" = some m.cls) {h0 : Heap} {n0 : Nat} (X0 : Stand p l e ({ frames := 0, cells := 0, slots := 0, locals := 0 } : Room) s m args below meth c T0 locs 0 0) (e0 : T0.heap = h0) (N0 : Fr n0 locs) (O0 : Old Z n0 h0) (hN : N < 2147483648) (VA : Arv Z h0 a ks .char (Int32.ofNat N) (own_vs f N) (.int (0 : Int32))) (VB : Arv Z h0 b kd .byte (Int32.ofNat N) (own_vs g N) (.int (0 : Int32))) (ne_a_b : a ≠ b) (g_b : n0 ≤ b) (hlt : i < N) (hle : if_icmp.holds .le (f i) (255 : Int32) = true) (h6 : own_One s6) :
    ∃ (T1 : State) (L1 : List Loc) (h1 : Heap), Stand p l e ({ frames := 0, cells := 0, slots := 0, locals := 0 } : Room) s m args below meth c T1 L1 0 0 ∧ T1.heap = h1 ∧ Fr n0 L1 ∧ Old Z n0 h1 ∧ (Arv Z h1 a ks .char (Int32.ofNat N) (own_vs f N) (.int (0 : Int32)) ∧ Arv Z h1 b kd .byte (Int32.ofNat N) (own_vs (own_up g i (nar .byte ((f i).toInt8.toInt32))) N) (.int (0 : Int32)) ∧ Keep h0 h1 [b]) ∧ ∀ t, Steps p.tables e below (T1.setTop (mkF m 3 #[vr a, vi (Int32.ofNat (i + 1)), vr b, vi (Int32.ofNat (i + 1)), vi (Int32.ofNat N), vi (Int32.ofNat (i + 1)), vi (f i)] [])) t → Steps p.tables e below (T0.setTop (mkF m 3 #[vr a, vi (Int32.ofNat i), vr b, vi (Int32.ofNat i), vi (Int32.ofNat N), vi (Int32.ofNat i), s6] [])) t := by
  obtain ⟨cl1, Ar1, q1, S1, N1_, H1, G1⟩ := id VA
  have hin1 : ¬ ((Int32.ofNat i) < 0 ∨ cl1.slots.size ≤ ((Int32.ofNat i)).toNatClampNeg) := inb_of S1 (own_in hlt hN)
  have hat1 : cl1.slots[((Int32.ofNat i)).toNatClampNeg]? = some (xi (f i)) := Has.at H1 hin1 (by rw [own_nat (Nat.lt_trans hlt hN)]; exact own_vs_get hlt)
  obtain ⟨cl2, Ar2, q2, S2, N2_, H2, G2⟩ := id VB
  obtain ⟨T3, h3, X3, e3, W3, st3⟩ := stB X0 hx hZ e0 Ar2 (j := (Int32.ofNat i)) (inb_of S2 (own_in hlt hN)) (g := (mkF m 31 #[vr a, vi (Int32.ofNat i), vr b, vi (Int32.ofNat i), vi (Int32.ofNat N), vi (Int32.ofNat i), vi (f i)] [xi ((f i).toInt8.toInt32), xi (Int32.ofNat i), xr b])) rfl rfl (hb hby d8_31)
  have V_b_3 : Arv Z h3 b kd .byte (Int32.ofNat N) (own_vs (own_up g i (nar .byte ((f i).toInt8.toInt32))) N) (.int (0 : Int32)) := by rw [← own_vs_set]; exact Arv.set Ar2 q2 S2 N2_ H2 G2 (fits_nar_byte _) W3 _ (own_nat (Nat.lt_trans hlt hN)) (by rw [own_vs_len]; exact hlt)
  have O3 := O0.wr W3 g_b
  have Kp3 : Keep h0 h3 [b] := (Keep.refl h0 [b]).wr W3 (Or.inl (by simp))
  have V_a_3 := VA.other W3 ne_a_b
  have N3 := Fr.snoc X3 N0 g_b
  obtain ⟨LL3, X3, N3⟩ := own_pack X3 N3
  refine ⟨_, _, _, X3, e3, N3, O3, ⟨V_a_3, V_b_3, Kp3⟩, fun t st => ?_⟩
  show own_S p e below T0 (mkF m 3 #[vr a, vi (Int32.ofNat i), vr b, vi (Int32.ofNat i), vi (Int32.ofNat N), vi (Int32.ofNat i), s6] []) _
  refine XS.iload X0.here hx rfl (hb hby d8_3) rfl ?_
  refine XS.iload X0.here hx rfl (hb hby d8_5) rfl ?_
  show own_S p e below T0 (mkF m 7 #[vr a, vi (Int32.ofNat i), vr b, vi (Int32.ofNat i), vi (Int32.ofNat N), vi (Int32.ofNat i), s6] [xi (Int32.ofNat N), xi (Int32.ofNat i)]) _
  refine XS.icmpNo X0.here hx rfl (hb hby d8_7) rfl (tlt (own_in hlt hN).2).2.1 ?_
  refine XS.aloadN X0.here hx rfl (hb hby d8_10) rfl rfl ?_
  refine XS.iloadN X0.here hx rfl (hb hby d8_11) rfl ?_
  show own_S p e below T0 (mkF m 12 #[vr a, vi (Int32.ofNat i), vr b, vi (Int32.ofNat i), vi (Int32.ofNat N), vi (Int32.ofNat i), s6] [xi (Int32.ofNat i), xr a]) _
  refine X0.caload hx (j := (Int32.ofNat i)) (v := (xi (f i))) (by rw [e0]; exact Ar1.1) (State.isArrayOf_alike hZ.alike Ar1.2.1) Ar1.2.2 hin1 hat1 (g := (mkF m 12 #[vr a, vi (Int32.ofNat i), vr b, vi (Int32.ofNat i), vi (Int32.ofNat N), vi (Int32.ofNat i), s6] [xi (Int32.ofNat i), xr a])) rfl rfl (hb hby d8_12) _ ?_
  refine XS.istoreS X0.here hx rfl (hb hby d8_13) rfl rfl h6 ?_
  refine XS.iload X0.here hx rfl (hb hby d8_15) rfl ?_
  refine XS.sipush X0.here hx rfl (hb hby d8_17) ?_
  show own_S p e below T0 (mkF m 20 #[vr a, vi (Int32.ofNat i), vr b, vi (Int32.ofNat i), vi (Int32.ofNat N), vi (Int32.ofNat i), vi (f i)] [xi (255 : Int32), xi (f i)]) _
  refine XS.icmpYes X0.here hx rfl (pc0 := 20) (pc' := 26) rfl (hb hby d8_20) rfl hle (by decide) (by decide) ?_
  refine XS.aloadN X0.here hx rfl (hb hby d8_26) rfl rfl ?_
  refine XS.iloadN X0.here hx rfl (hb hby d8_27) rfl ?_
  refine XS.iload X0.here hx rfl (hb hby d8_28) rfl ?_
  show own_S p e below T0 (mkF m 30 #[vr a, vi (Int32.ofNat i), vr b, vi (Int32.ofNat i), vi (Int32.ofNat N), vi (Int32.ofNat i), vi (f i)] [xi (f i), xi (Int32.ofNat i), xr b]) _
  refine XS.i2b X0.here hx rfl (hb hby d8_30) rfl ?_
  show own_S p e below T0 (mkF m 31 #[vr a, vi (Int32.ofNat i), vr b, vi (Int32.ofNat i), vi (Int32.ofNat N), vi (Int32.ofNat i), vi (f i)] [xi ((f i).toInt8.toInt32), xi (Int32.ofNat i), xr b]) _
  show own_S p e below T0 (mkF m 31 #[vr a, vi (Int32.ofNat i), vr b, vi (Int32.ofNat i), vi (Int32.ofNat N), vi (Int32.ofNat i), vi (f i)] [xi ((f i).toInt8.toInt32), xi (Int32.ofNat i), xr b]) _
  refine st3 _ ?_
  show own_S p e below T3 (mkF m 32 #[vr a, vi (Int32.ofNat i), vr b, vi (Int32.ofNat i), vi (Int32.ofNat N), vi (Int32.ofNat i), vi (f i)] []) _
  refine XS.iinc X3.here hx rfl (hb hby d8_32) rfl (l' := #[vr a, vi ((Int32.ofNat i) + (1 : Int32)), vr b, vi (Int32.ofNat i), vi (Int32.ofNat N), vi (Int32.ofNat i), vi (f i)]) rfl ?_
  refine castTop (show (mkF m 35 #[vr a, vi ((Int32.ofNat i) + (1 : Int32)), vr b, vi (Int32.ofNat i), vi (Int32.ofNat N), vi (Int32.ofNat i), vi (f i)] []) = (mkF m 35 #[vr a, vi (Int32.ofNat (i + 1)), vr b, vi (Int32.ofNat i), vi (Int32.ofNat N), vi (Int32.ofNat i), vi (f i)] []) from by rw [own_suc]) ?_
  show own_S p e below T3 (mkF m 35 #[vr a, vi (Int32.ofNat (i + 1)), vr b, vi (Int32.ofNat i), vi (Int32.ofNat N), vi (Int32.ofNat i), vi (f i)] []) _
  refine XS.iinc X3.here hx rfl (hb hby d8_35) rfl (l' := #[vr a, vi (Int32.ofNat (i + 1)), vr b, vi ((Int32.ofNat i) + (1 : Int32)), vi (Int32.ofNat N), vi (Int32.ofNat i), vi (f i)]) rfl ?_
  refine castTop (show (mkF m 38 #[vr a, vi (Int32.ofNat (i + 1)), vr b, vi ((Int32.ofNat i) + (1 : Int32)), vi (Int32.ofNat N), vi (Int32.ofNat i), vi (f i)] []) = (mkF m 38 #[vr a, vi (Int32.ofNat (i + 1)), vr b, vi (Int32.ofNat (i + 1)), vi (Int32.ofNat N), vi (Int32.ofNat i), vi (f i)] []) from by rw [own_suc]) ?_
  show own_S p e below T3 (mkF m 38 #[vr a, vi (Int32.ofNat (i + 1)), vr b, vi (Int32.ofNat (i + 1)), vi (Int32.ofNat N), vi (Int32.ofNat i), vi (f i)] []) _
  refine XS.iinc X3.here hx rfl (hb hby d8_38) rfl (l' := #[vr a, vi (Int32.ofNat (i + 1)), vr b, vi (Int32.ofNat (i + 1)), vi (Int32.ofNat N), vi ((Int32.ofNat i) + (1 : Int32)), vi (f i)]) rfl ?_
  refine castTop (show (mkF m 41 #[vr a, vi (Int32.ofNat (i + 1)), vr b, vi (Int32.ofNat (i + 1)), vi (Int32.ofNat N), vi ((Int32.ofNat i) + (1 : Int32)), vi (f i)] []) = (mkF m 41 #[vr a, vi (Int32.ofNat (i + 1)), vr b, vi (Int32.ofNat (i + 1)), vi (Int32.ofNat N), vi (Int32.ofNat (i + 1)), vi (f i)] []) from by rw [own_suc]) ?_
  refine XS.goto X3.here hx rfl (pc0 := 41) (pc' := 3) rfl (hb hby d8_41) (by decide) (by decide) ?_
  exact st
theorem own_cmp_loop {p : Program} {l : Launch} {e : Env} {s : State} {m : MethodId} {args : Array Value} {below : List Frame} {meth : Method} {c : Code} {Z : State} {a0 : Array Value} (hw : ∀ d ∈ tables_1, d.before a0 Z = true) (hj : ∀ d ∈ jdkStatics_1, d.before a0 Z = true)  (ki0 : Int32) (vf0 : Value) (G : own_St Z hj ki0 vf0) (a b : Addr) (ks kd : ClassId) (N : Nat) (f : Nat → Int32) (hx : p.tables.exec = Jvm.exec) (hZ : Z.Warmed39 s.vm) (hby : c.code = jdk_52_method_21_code) (hml : c.maxLocals = 7) (hown : s.vm.findClass "java/lang/StringUTF16" = some m.cls) (hN : N < 2147483648) (ne_a_b : a ≠ b) (n0 : Nat) (g_b : n0 ≤ b) (k : Nat) : ∀ (i : Nat) (g : Nat → Int32) (s6 : Slot) (T0 : State) (locs : List Loc) (h0 : Heap), Stand p l e ({ frames := 0, cells := 0, slots := 0, locals := 0 } : Room) s m args below meth c T0 locs 0 0 → T0.heap = h0 → Fr n0 locs → Old Z n0 h0 → Arv Z h0 a ks .char (Int32.ofNat N) (own_vs f N) (.int (0 : Int32)) → Arv Z h0 b kd .byte (Int32.ofNat N) (own_vs g N) (.int (0 : Int32)) → own_One s6 → i + k ≤ N → (∀ j, i ≤ j → j < i + k → if_icmp.holds .le (f j) (255 : Int32) = true) →
    ∃ (T1 : State) (L1 : List Loc) (h1 : Heap) (s6' : Slot), Stand p l e ({ frames := 0, cells := 0, slots := 0, locals := 0 } : Room) s m args below meth c T1 L1 0 0 ∧ T1.heap = h1 ∧ Fr n0 L1 ∧ Old Z n0 h1 ∧ Arv Z h1 a ks .char (Int32.ofNat N) (own_vs f N) (.int (0 : Int32)) ∧ Arv Z h1 b kd .byte (Int32.ofNat N) (own_vs (fun j => if i ≤ j ∧ j < i + k then nar .byte ((f j).toInt8.toInt32) else g j) N) (.int (0 : Int32)) ∧ Keep h0 h1 [b] ∧ own_One s6' ∧ ∀ t, Steps p.tables e below (T1.setTop (mkF m 3 #[vr a, vi (Int32.ofNat (i + k)), vr b, vi (Int32.ofNat (i + k)), vi (Int32.ofNat N), vi (Int32.ofNat (i + k)), s6'] [])) t → Steps p.tables e below (T0.setTop (mkF m 3 #[vr a, vi (Int32.ofNat i), vr b, vi (Int32.ofNat i), vi (Int32.ofNat N), vi (Int32.ofNat i), s6] [])) t := by
  induction k with
  | zero =>
    intro i g s6 T0 locs h0 X e0 Nf O VA VB h6 hk hall
    exact ⟨T0, locs, h0, s6, X, e0, Nf, O, VA, by rw [own_vs_congr (g := g) (fun j _ => by simp; omega)]; exact VB, Keep.refl _ _, h6, fun t st => st⟩
  | succ k ih =>
    intro i g s6 T0 locs h0 X e0 Nf O VA VB h6 hk hall
    obtain ⟨T1, L1, h1, X1, e1, N1, O1, ⟨VA1, VB1, K1⟩, st1⟩ := own_cmp_turn hw hj ki0 vf0 G a b ks kd i N f g s6 hx hZ hby hml hown X e0 Nf O hN VA VB ne_a_b g_b (by omega) (hall i (Nat.le_refl _) (by omega)) h6
    obtain ⟨T2, L2, h2, s6', X2, e2, N2, O2, VA2, VB2, K2, h62, st2⟩ := ih (i + 1) _ (vi (f i)) T1 L1 h1 X1 e1 N1 O1 VA1 VB1 (own_one_i _) (by omega) (fun j h1 h2 => hall j (by omega) (by omega))
    refine ⟨T2, L2, h2, s6', X2, e2, N2, O2, VA2, ?_, K1.trans K2 (fun x hx => Or.inl hx), h62, fun t st => st1 t (st2 t (by rw [show i + 1 + k = i + (k + 1) from by omega]; exact st))⟩
    rw [own_vs_congr (g := fun j => if i + 1 ≤ j ∧ j < i + 1 + k then nar .byte ((f j).toInt8.toInt32) else own_up g i (nar .byte ((f i).toInt8.toInt32)) j)]
    · exact VB2
    · intro j _
      simp only [own_up]
      by_cases h1 : j = i
      · subst h1
        rw [if_pos (by omega), if_neg (by omega), if_pos rfl]
      · by_cases h2 : i + 1 ≤ j ∧ j < i + 1 + k
        · rw [if_pos (by omega), if_pos h2]
        · rw [if_neg (by omega), if_neg h2, if_neg h1]
def own_QC (Z : State) (h0 : Heap) (n0 : Nat) (b : Addr) (kd : ClassId) (N : Nat) (f : Nat → Int32) (M : Nat) (v : Option Value) (h : Heap) (L : List Loc) : Prop := v = some (.int (Int32.ofNat M)) ∧ Fr n0 L ∧ Keep h0 h [b] ∧ Arv Z h b kd .byte (Int32.ofNat N) (own_vs (fun j => if 0 ≤ j ∧ j < 0 + M then nar .byte ((f j).toInt8.toInt32) else 0) N) (.int (0 : Int32))
theorem d8_0 : decode jdk_52_method_21_code 0 = .ok (.iconst 0, 1) := by decide +kernel
theorem d8_1 : decode jdk_52_method_21_code 1 = .ok (.istore 5, 2) := by decide +kernel
theorem d8_44 : decode jdk_52_method_21_code 44 = .ok (.iload 4, 2) := by decide +kernel
theorem d8_46 : decode jdk_52_method_21_code 46 = .ok (.ireturn, 1) := by decide +kernel
abbrev Y0 : MethodName := (⟨"java/lang/StringUTF16", "compress", "([CI[BII)I"⟩ : MethodName)
theorem pn0 : plainName "java/lang/StringUTF16" = true := by first | (simp [plainName, overriddenIn]; done) | decide +kernel
theorem ef_own_cmp_all (m : MethodId)  (ki0 : Int32) (vf0 : Value) (a : Addr) (b : Addr) (ks : ClassId) (kd : ClassId) (N : Nat) (f : Nat → Int32) : entryFrame m #[xr a, xi (0 : Int32), xr b, xi (0 : Int32), xi (Int32.ofNat N)] 7 = (mkF m 0 #[vr a, vi (0 : Int32), vr b, vi (0 : Int32), vi (Int32.ofNat N), vu, vu] []) := by first | (simp [entryFrame, mkF, argsToLocals, Value.category]; done) | rfl
set_option maxRecDepth 65536 in
set_option maxHeartbeats 40000000 in
theorem own_cmp_all (l : Launch) (Z : State) (a0 : Array Value) (hw : ∀ d ∈ tables_1, d.before a0 Z = true) (hj : ∀ d ∈ jdkStatics_1, d.before a0 Z = true)  (ki0 : Int32) (vf0 : Value) (G : own_St Z hj ki0 vf0) (a : Addr) (b : Addr) (ks : ClassId) (kd : ClassId) (N : Nat) (f : Nat → Int32) (h0 : Heap) (n0 : Nat) (O0 : Old Z n0 h0) (hN : N < 2147483648) (VA : Arv Z h0 a ks .char (Int32.ofNat N) (own_vs f N) (.int (0 : Int32))) (VB : Arv Z h0 b kd .byte (Int32.ofNat N) (own_vs (fun _ => (0 : Int32)) N) (.int (0 : Int32))) (ne_a_b : a ≠ b) (g_b : n0 ≤ b) (hall : ∀ j, j < N → if_icmp.holds .le (f j) (255 : Int32) = true) : own_Met l Z Y0 jdk_52_method_21_code 7 (some .int) ({ frames := 0, cells := 0, slots := 0, locals := 0 } : Room) #[xr a, xi (0 : Int32), xr b, xi (0 : Int32), xi (Int32.ofNat N)] h0 (own_QC Z h0 n0 b kd N f N) := by
  intro ws
  refine MetFree.of_bodySF (plainFor_of_name pn0) hisR ?_
  intro p e s m args below meth c s₁ Bd hml0 hP hK
  obtain ⟨rfl, hZ, hh⟩ := hP
  have hx := Bd.exec
  have hby := Bd.bytes
  have hml : c.maxLocals = 7 := hml0
  have hown : s.vm.findClass "java/lang/StringUTF16" = some m.cls := findClass_of_methodNamed Bd.named
  have hnm := (name_of_methodNamed Bd.named Bd.method).1
  have X0 : Stand p l e ({ frames := 0, cells := 0, slots := 0, locals := 0 } : Room) s m #[xr a, xi (0 : Int32), xr b, xi (0 : Int32), xi (Int32.ofNat N)] below meth c s₁ [] 0 0 := Stand.of_body Bd
  have e0 : s₁.heap = h0 := by rw [← hh, Bd.state]; rfl
  have N0 := Fr.nil n0
  have pre0 : ∀ t, Steps p.tables e below (s₁.setTop (mkF m 0 #[vr a, vi (0 : Int32), vr b, vi (0 : Int32), vi (Int32.ofNat N), vu, vu] [])) t → Steps p.tables e below (s₁.setTop (entryFrame m #[xr a, xi (0 : Int32), xr b, xi (0 : Int32), xi (Int32.ofNat N)] 7)) t := fun t st => castTop (ef_own_cmp_all m ki0 vf0 a b ks kd N f) st
  obtain ⟨TL, LL, hL, s6L, XL, eL, NL, OL, VAL, VBL, KL, h6L, stL⟩ := own_cmp_loop hw hj ki0 vf0 G a b ks kd N f hx hZ hby hml hown hN ne_a_b n0 g_b N 0 (fun _ => (0 : Int32)) vu s₁ [] h0 X0 e0 N0 O0 VA VB own_one_u (by omega) (fun j _ h => hall j (by omega))
  rw [Nat.zero_add] at stL
  obtain ⟨fs, hr, hrun, hended, hW, hsame⟩ := XL.leave (v := some (xi (Int32.ofNat N))) (fun h => by rw [Bd.returns] at h; cases h)
  refine ⟨_, _, pre0 _ ?_, hrun, hended, _, _, rfl, ?_, ⟨_, rfl⟩, hW, hsame.mono (by decide) (by decide)⟩
  · show own_S p e below s₁ (mkF m 0 #[vr a, vi (0 : Int32), vr b, vi (0 : Int32), vi (Int32.ofNat N), vu, vu] []) _
    refine XS.iconst X0.here hx rfl (hb hby d8_0) ?_
    refine XS.istore X0.here hx rfl (hb hby d8_1) rfl (l' := #[vr a, vi (0 : Int32), vr b, vi (0 : Int32), vi (Int32.ofNat N), vi (0 : Int32), vu]) rfl ?_
    refine stL _ ?_
    refine XS.iload XL.here hx rfl (hb hby d8_3) rfl ?_
    refine XS.iload XL.here hx rfl (hb hby d8_5) rfl ?_
    show own_S p e below TL (mkF m 7 #[vr a, vi (Int32.ofNat N), vr b, vi (Int32.ofNat N), vi (Int32.ofNat N), vi (Int32.ofNat N), s6L] [xi (Int32.ofNat N), xi (Int32.ofNat N)]) _
    refine XS.icmpYes XL.here hx rfl (pc0 := 7) (pc' := 44) rfl (hb hby d8_7) rfl (by simp [if_icmp.holds]) (by decide) (by decide) ?_
    refine XS.iload XL.here hx rfl (hb hby d8_44) rfl ?_
    show own_S p e below TL (mkF m 46 #[vr a, vi (Int32.ofNat N), vr b, vi (Int32.ofNat N), vi (Int32.ofNat N), vi (Int32.ofNat N), s6L] [xi (Int32.ofNat N)]) _
    exact retI XL hx Bd.returns (hb hby d8_46) hr
  · show (own_QC Z h0 n0 b kd N f N) _ TL.heap _
    rw [eL]
    exact ⟨rfl, NL, KL, VBL⟩
theorem d8_23 : decode jdk_52_method_21_code 23 = .ok (.iload 5, 2) := by decide +kernel
theorem d8_25 : decode jdk_52_method_21_code 25 = .ok (.ireturn, 1) := by decide +kernel
theorem ef_own_cmp_some (m : MethodId)  (ki0 : Int32) (vf0 : Value) (a : Addr) (b : Addr) (ks : ClassId) (kd : ClassId) (N : Nat) (f : Nat → Int32) (mm : Nat) : entryFrame m #[xr a, xi (0 : Int32), xr b, xi (0 : Int32), xi (Int32.ofNat N)] 7 = (mkF m 0 #[vr a, vi (0 : Int32), vr b, vi (0 : Int32), vi (Int32.ofNat N), vu, vu] []) := by first | (simp [entryFrame, mkF, argsToLocals, Value.category]; done) | rfl
set_option maxRecDepth 65536 in
set_option maxHeartbeats 40000000 in
theorem own_cmp_some (l : Launch) (Z : State) (a0 : Array Value) (hw : ∀ d ∈ tables_1, d.before a0 Z = true) (hj : ∀ d ∈ jdkStatics_1, d.before a0 Z = true)  (ki0 : Int32) (vf0 : Value) (G : own_St Z hj ki0 vf0) (a : Addr) (b : Addr) (ks : ClassId) (kd : ClassId) (N : Nat) (f : Nat → Int32) (mm : Nat) (h0 : Heap) (n0 : Nat) (O0 : Old Z n0 h0) (hN : N < 2147483648) (VA : Arv Z h0 a ks .char (Int32.ofNat N) (own_vs f N) (.int (0 : Int32))) (VB : Arv Z h0 b kd .byte (Int32.ofNat N) (own_vs (fun _ => (0 : Int32)) N) (.int (0 : Int32))) (ne_a_b : a ≠ b) (g_b : n0 ≤ b) (hall : ∀ j, j < mm → if_icmp.holds .le (f j) (255 : Int32) = true) (hlt : mm < N) (hgt : if_icmp.holds .le (f mm) (255 : Int32) = false) : own_Met l Z Y0 jdk_52_method_21_code 7 (some .int) ({ frames := 0, cells := 0, slots := 0, locals := 0 } : Room) #[xr a, xi (0 : Int32), xr b, xi (0 : Int32), xi (Int32.ofNat N)] h0 (own_QC Z h0 n0 b kd N f mm) := by
  intro ws
  refine MetFree.of_bodySF (plainFor_of_name pn0) hisR ?_
  intro p e s m args below meth c s₁ Bd hml0 hP hK
  obtain ⟨rfl, hZ, hh⟩ := hP
  have hx := Bd.exec
  have hby := Bd.bytes
  have hml : c.maxLocals = 7 := hml0
  have hown : s.vm.findClass "java/lang/StringUTF16" = some m.cls := findClass_of_methodNamed Bd.named
  have hnm := (name_of_methodNamed Bd.named Bd.method).1
  have X0 : Stand p l e ({ frames := 0, cells := 0, slots := 0, locals := 0 } : Room) s m #[xr a, xi (0 : Int32), xr b, xi (0 : Int32), xi (Int32.ofNat N)] below meth c s₁ [] 0 0 := Stand.of_body Bd
  have e0 : s₁.heap = h0 := by rw [← hh, Bd.state]; rfl
  have N0 := Fr.nil n0
  have pre0 : ∀ t, Steps p.tables e below (s₁.setTop (mkF m 0 #[vr a, vi (0 : Int32), vr b, vi (0 : Int32), vi (Int32.ofNat N), vu, vu] [])) t → Steps p.tables e below (s₁.setTop (entryFrame m #[xr a, xi (0 : Int32), xr b, xi (0 : Int32), xi (Int32.ofNat N)] 7)) t := fun t st => castTop (ef_own_cmp_some m ki0 vf0 a b ks kd N f mm) st
  obtain ⟨TL, LL, hL, s6L, XL, eL, NL, OL, VAL, VBL, KL, h6L, stL⟩ := own_cmp_loop hw hj ki0 vf0 G a b ks kd N f hx hZ hby hml hown hN ne_a_b n0 g_b mm 0 (fun _ => (0 : Int32)) vu s₁ [] h0 X0 e0 N0 O0 VA VB own_one_u (by omega) (fun j _ h => hall j (by omega))
  rw [Nat.zero_add] at stL
  obtain ⟨cl1, Ar1, q1, S1, N1_, H1, G1⟩ := id VAL
  have hin1 : ¬ ((Int32.ofNat mm) < 0 ∨ cl1.slots.size ≤ ((Int32.ofNat mm)).toNatClampNeg) := inb_of S1 (own_in hlt hN)
  have hat1 : cl1.slots[((Int32.ofNat mm)).toNatClampNeg]? = some (xi (f mm)) := Has.at H1 hin1 (by rw [own_nat (Nat.lt_trans hlt hN)]; exact own_vs_get hlt)
  obtain ⟨fs, hr, hrun, hended, hW, hsame⟩ := XL.leave (v := some (xi (Int32.ofNat mm))) (fun h => by rw [Bd.returns] at h; cases h)
  refine ⟨_, _, pre0 _ ?_, hrun, hended, _, _, rfl, ?_, ⟨_, rfl⟩, hW, hsame.mono (by decide) (by decide)⟩
  · show own_S p e below s₁ (mkF m 0 #[vr a, vi (0 : Int32), vr b, vi (0 : Int32), vi (Int32.ofNat N), vu, vu] []) _
    refine XS.iconst X0.here hx rfl (hb hby d8_0) ?_
    refine XS.istore X0.here hx rfl (hb hby d8_1) rfl (l' := #[vr a, vi (0 : Int32), vr b, vi (0 : Int32), vi (Int32.ofNat N), vi (0 : Int32), vu]) rfl ?_
    refine stL _ ?_
    refine XS.iload XL.here hx rfl (hb hby d8_3) rfl ?_
    refine XS.iload XL.here hx rfl (hb hby d8_5) rfl ?_
    show own_S p e below TL (mkF m 7 #[vr a, vi (Int32.ofNat mm), vr b, vi (Int32.ofNat mm), vi (Int32.ofNat N), vi (Int32.ofNat mm), s6L] [xi (Int32.ofNat N), xi (Int32.ofNat mm)]) _
    refine XS.icmpNo XL.here hx rfl (hb hby d8_7) rfl (tlt (own_in hlt hN).2).2.1 ?_
    refine XS.aloadN XL.here hx rfl (hb hby d8_10) rfl rfl ?_
    refine XS.iloadN XL.here hx rfl (hb hby d8_11) rfl ?_
    show own_S p e below TL (mkF m 12 #[vr a, vi (Int32.ofNat mm), vr b, vi (Int32.ofNat mm), vi (Int32.ofNat N), vi (Int32.ofNat mm), s6L] [xi (Int32.ofNat mm), xr a]) _
    refine XL.caload hx (j := (Int32.ofNat mm)) (v := (xi (f mm))) (by rw [eL]; exact Ar1.1) (State.isArrayOf_alike hZ.alike Ar1.2.1) Ar1.2.2 hin1 hat1 (g := (mkF m 12 #[vr a, vi (Int32.ofNat mm), vr b, vi (Int32.ofNat mm), vi (Int32.ofNat N), vi (Int32.ofNat mm), s6L] [xi (Int32.ofNat mm), xr a])) rfl rfl (hb hby d8_12) _ ?_
    refine XS.istoreS XL.here hx rfl (hb hby d8_13) rfl rfl h6L ?_
    refine XS.iload XL.here hx rfl (hb hby d8_15) rfl ?_
    refine XS.sipush XL.here hx rfl (hb hby d8_17) ?_
    show own_S p e below TL (mkF m 20 #[vr a, vi (Int32.ofNat mm), vr b, vi (Int32.ofNat mm), vi (Int32.ofNat N), vi (Int32.ofNat mm), vi (f mm)] [xi (255 : Int32), xi (f mm)]) _
    refine XS.icmpNo XL.here hx rfl (hb hby d8_20) rfl hgt ?_
    refine XS.iload XL.here hx rfl (hb hby d8_23) rfl ?_
    show own_S p e below TL (mkF m 25 #[vr a, vi (Int32.ofNat mm), vr b, vi (Int32.ofNat mm), vi (Int32.ofNat N), vi (Int32.ofNat mm), vi (f mm)] [xi (Int32.ofNat mm)]) _
    exact retI XL hx Bd.returns (hb hby d8_25) hr
  · show (own_QC Z h0 n0 b kd N f mm) _ TL.heap _
    rw [eL]
    exact ⟨rfl, NL, KL, VBL⟩
theorem own_ge0 {N : Nat} (h : N < 2147483648) : ifCond.holds .ge (Int32.ofNat N) = true := by rw [if0]; exact (flt (own_nneg h)).2.1
theorem own_ltM {N : Nat} (h : N ≤ 45) : if_icmp.holds .lt (Int32.ofNat N) (1073741823 : Int32) = true := by
  refine (tlt ?_).1
  rw [Int32.lt_iff_toInt_lt, own_toInt (by omega)]; have : ((1073741823 : Int32)).toInt = 1073741823 := by decide
  omega
theorem d28_0 : decode jdk_52_method_3_code 0 = .ok (.iload_n 0, 1) := by decide +kernel
theorem d28_1 : decode jdk_52_method_3_code 1 = .ok (.ifCond .ge 11, 3) := by decide +kernel
theorem d28_12 : decode jdk_52_method_3_code 12 = .ok (.iload_n 0, 1) := by decide +kernel
theorem d28_13 : decode jdk_52_method_3_code 13 = .ok (.ldc 20, 2) := by decide +kernel
theorem d28_15 : decode jdk_52_method_3_code 15 = .ok (.if_icmp .lt 40, 3) := by decide +kernel
theorem d28_55 : decode jdk_52_method_3_code 55 = .ok (.iload_n 0, 1) := by decide +kernel
theorem d28_56 : decode jdk_52_method_3_code 56 = .ok (.iconst 1, 1) := by decide +kernel
theorem d28_57 : decode jdk_52_method_3_code 57 = .ok (.ishl, 1) := by decide +kernel
theorem d28_58 : decode jdk_52_method_3_code 58 = .ok (.ireturn, 1) := by decide +kernel
abbrev Y1 : MethodName := (⟨"java/lang/StringUTF16", "newBytesLength", "(I)I"⟩ : MethodName)
theorem ef_own_nbl (m : MethodId)  (ki0 : Int32) (vf0 : Value) (N : Nat) : entryFrame m #[xi (Int32.ofNat N)] 1 = (mkF m 0 #[vi (Int32.ofNat N)] []) := by first | (simp [entryFrame, mkF, argsToLocals, Value.category]; done) | rfl
set_option maxRecDepth 65536 in
set_option maxHeartbeats 40000000 in
theorem own_nbl (l : Launch) (Z : State) (a0 : Array Value) (hw : ∀ d ∈ tables_1, d.before a0 Z = true) (hj : ∀ d ∈ jdkStatics_1, d.before a0 Z = true)  (ki0 : Int32) (vf0 : Value) (G : own_St Z hj ki0 vf0) (N : Nat) (h0 : Heap) (n0 : Nat) (O0 : Old Z n0 h0) (hn : N ≤ 45) : own_Met l Z Y1 jdk_52_method_3_code 1 (some .int) ({ frames := 0, cells := 0, slots := 0, locals := 0 } : Room) #[xi (Int32.ofNat N)] h0 (own_QR (some (xi (Int32.ofNat (2 * N)))) h0 n0) := by
  intro ws
  refine MetFree.of_bodySF (plainFor_of_name pn0) hisR ?_
  intro p e s m args below meth c s₁ Bd hml0 hP hK
  obtain ⟨rfl, hZ, hh⟩ := hP
  have hx := Bd.exec
  have hby := Bd.bytes
  have hml : c.maxLocals = 1 := hml0
  have hown : s.vm.findClass "java/lang/StringUTF16" = some m.cls := findClass_of_methodNamed Bd.named
  have hnm := (name_of_methodNamed Bd.named Bd.method).1
  have X0 : Stand p l e ({ frames := 0, cells := 0, slots := 0, locals := 0 } : Room) s m #[xi (Int32.ofNat N)] below meth c s₁ [] 0 0 := Stand.of_body Bd
  have e0 : s₁.heap = h0 := by rw [← hh, Bd.state]; rfl
  have N0 := Fr.nil n0
  have pre0 : ∀ t, Steps p.tables e below (s₁.setTop (mkF m 0 #[vi (Int32.ofNat N)] [])) t → Steps p.tables e below (s₁.setTop (entryFrame m #[xi (Int32.ofNat N)] 1)) t := fun t st => castTop (ef_own_nbl m ki0 vf0 N) st
  obtain ⟨fs, hr, hrun, hended, hW, hsame⟩ := X0.leave (v := some (xi (Int32.ofNat (2 * N)))) (fun h => by rw [Bd.returns] at h; cases h)
  refine ⟨_, _, pre0 _ ?_, hrun, hended, _, _, rfl, ?_, ⟨_, rfl⟩, hW, hsame.mono (by decide) (by decide)⟩
  · show own_S p e below s₁ (mkF m 0 #[vi (Int32.ofNat N)] []) _
    refine XS.iloadN X0.here hx rfl (hb hby d28_0) rfl ?_
    show own_S p e below s₁ (mkF m 1 #[vi (Int32.ofNat N)] [xi (Int32.ofNat N)]) _
    refine XS.ifYes X0.here hx rfl (pc0 := 1) (pc' := 12) rfl (hb hby d28_1) rfl (own_ge0 (by omega)) (by decide) (by decide) ?_
    refine XS.iloadN X0.here hx rfl (hb hby d28_12) rfl ?_
    show own_S p e below s₁ (mkF m 13 #[vi (Int32.ofNat N)] [xi (Int32.ofNat N)]) _
    refine X0.ldcI hx hown (mvT hZ (ww hw 120 rfl)) (g := (mkF m 13 #[vi (Int32.ofNat N)] [xi (Int32.ofNat N)])) rfl (hb hby d28_13) ?_
    show own_S p e below s₁ (mkF m 15 #[vi (Int32.ofNat N)] [xi (1073741823 : Int32), xi (Int32.ofNat N)]) _
    refine XS.icmpYes X0.here hx rfl (pc0 := 15) (pc' := 55) rfl (hb hby d28_15) rfl (own_ltM hn) (by decide) (by decide) ?_
    refine XS.iloadN X0.here hx rfl (hb hby d28_55) rfl ?_
    refine XS.iconst X0.here hx rfl (hb hby d28_56) ?_
    show own_S p e below s₁ (mkF m 57 #[vi (Int32.ofNat N)] [xi (1 : Int32), xi (Int32.ofNat N)]) _
    refine XS.ishl X0.here hx rfl (hb hby d28_57) rfl ?_
    show own_S p e below s₁ (mkF m 58 #[vi (Int32.ofNat N)] [xi ((Int32.ofNat N) <<< ((1 : Int32) &&& 31))]) _
    refine castTop (show (mkF m 58 #[vi (Int32.ofNat N)] [xi ((Int32.ofNat N) <<< ((1 : Int32) &&& 31))]) = (mkF m 58 #[vi (Int32.ofNat N)] [xi (Int32.ofNat (2 * N))]) from by rw [own_dbl (by omega)]) ?_
    show own_S p e below s₁ (mkF m 58 #[vi (Int32.ofNat N)] [xi (Int32.ofNat (2 * N))]) _
    exact retI X0 hx Bd.returns (hb hby d28_58) hr
  · exact ⟨rfl, N0, e0⟩
def own_QN (Z : State) (h0 : Heap) (n0 : Nat) (N : Nat) (v : Option Value) (h : Heap) (L : List Loc) : Prop := ∃ b kd, v = some (.ref b) ∧ Fr n0 L ∧ Keep h0 h [] ∧ Arv Z h b kd .byte (Int32.ofNat N) (own_vs (fun _ => (0 : Int32)) N) (.int (0 : Int32)) ∧ n0 ≤ b ∧ h0.size ≤ b
theorem d27_0 : decode jdk_52_method_2_code 0 = .ok (.iload_n 0, 1) := by decide +kernel
theorem d27_1 : decode jdk_52_method_2_code 1 = .ok (.invokestatic 11, 3) := by decide +kernel
theorem pd0 : parseMethodDescriptor "(I)I" = some ⟨[.int], some .int⟩ := by decide +kernel
theorem d27_4 : decode jdk_52_method_2_code 4 = .ok (.newarray .byte, 2) := by decide +kernel
theorem d27_6 : decode jdk_52_method_2_code 6 = .ok (.areturn, 1) := by decide +kernel
abbrev Y2 : MethodName := (⟨"java/lang/StringUTF16", "newBytesFor", "(I)[B"⟩ : MethodName)
theorem ef_own_nbf (m : MethodId)  (ki0 : Int32) (vf0 : Value) (N : Nat) : entryFrame m #[xi (Int32.ofNat N)] 1 = (mkF m 0 #[vi (Int32.ofNat N)] []) := by first | (simp [entryFrame, mkF, argsToLocals, Value.category]; done) | rfl
set_option maxRecDepth 65536 in
set_option maxHeartbeats 40000000 in
theorem own_nbf (l : Launch) (Z : State) (a0 : Array Value) (hw : ∀ d ∈ tables_1, d.before a0 Z = true) (hj : ∀ d ∈ jdkStatics_1, d.before a0 Z = true)  (ki0 : Int32) (vf0 : Value) (G : own_St Z hj ki0 vf0) (N : Nat) (h0 : Heap) (n0 : Nat) (O0 : Old Z n0 h0) (hn : N ≤ 45) : own_Met l Z Y2 jdk_52_method_2_code 1 (some (.array .byte)) ({ frames := 1, cells := 1, slots := 90, locals := 12 } : Room) #[xi (Int32.ofNat N)] h0 (own_QN Z h0 n0 (2 * N)) := by
  intro ws
  refine MetFree.of_bodySF (plainFor_of_name pn0) hisR ?_
  intro p e s m args below meth c s₁ Bd hml0 hP hK
  obtain ⟨rfl, hZ, hh⟩ := hP
  have hx := Bd.exec
  have hby := Bd.bytes
  have hml : c.maxLocals = 1 := hml0
  have hown : s.vm.findClass "java/lang/StringUTF16" = some m.cls := findClass_of_methodNamed Bd.named
  have hnm := (name_of_methodNamed Bd.named Bd.method).1
  have X0 : Stand p l e ({ frames := 1, cells := 1, slots := 90, locals := 12 } : Room) s m #[xi (Int32.ofNat N)] below meth c s₁ [] 0 0 := Stand.of_body Bd
  have e0 : s₁.heap = h0 := by rw [← hh, Bd.state]; rfl
  have N0 := Fr.nil n0
  have pre0 : ∀ t, Steps p.tables e below (s₁.setTop (mkF m 0 #[vi (Int32.ofNat N)] [])) t → Steps p.tables e below (s₁.setTop (entryFrame m #[xi (Int32.ofNat N)] 1)) t := fun t st => castTop (ef_own_nbf m ki0 vf0 N) st
  obtain ⟨_, _, ⟨T1, L1, k1, n1⟩, -, X1, ⟨Lc1, hQ1, l1, y1, z1⟩, st1⟩ := Jvm.LawKit.callS X0 hx (y := Y1) hown (mvT hZ (ww hw 117 rfl)) (mvT hZ (ww hw 118 rfl)) (mvT hZ (ww hw 29 rfl)) (mvT hZ (ww hw 119 rfl)) (by decide) (backOf (W := 0) (own_nbl l Z a0 hw hj ki0 vf0 G N h0 n0 O0 hn []) hZ (ww hw 119 rfl) (ww hw 29 rfl) (by decide) (by decide)) (g := (mkF m 1 #[vi (Int32.ofNat N)] [xi (Int32.ofNat N)])) rfl (by rw [hml]; rfl) (argsL := [xi (Int32.ofNat N)]) (rest := []) (lenOf pd0 rfl) rfl (by show 2 * 0 + _ ≤ _; exact Nat.le_of_eq rfl) (hb hby d27_1) (fun _ _ => ⟨rfl, e0, (by decide : 0 + 0 ≤ _), (by decide : 0 + 0 ≤ _)⟩)
  dsimp only [Pt.U, Pt.locs, Pt.cells, Pt.slots] at X1 l1 y1 z1 st1 hQ1
  subst l1 y1 z1
  obtain ⟨rfl, Nq1, e1⟩ := hQ1
  have N1 := Fr.app N0 Nq1
  obtain ⟨T2, h2, k2, X2, e2, E2, A2, st2⟩ := newP X1 hx hZ (ww hw 31 rfl) e1 (g := (mkF m 4 #[vi (Int32.ofNat N)] [xi (Int32.ofNat (2 * N))])) rfl (hb hby d27_4) rfl (own_nneg (show 2 * N < 2147483648 by omega)) (cap := 90) (by first | decide | (rw [own_nat (show 2 * N < 2147483648 by omega)]; exact (show 2 * N ≤ 90 by omega))) (by decide) (by decide) (by decide)
  obtain ⟨b2, g2⟩ : ∃ z, z = h0.size := ⟨_, rfl⟩
  rw [← g2] at A2 st2
  have g_b2 : n0 ≤ b2 := own_fresh O0 g2
  have sz_b2 : h0.size ≤ b2 := Nat.le_trans (Keep.refl h0 []).1 (Nat.le_of_eq g2.symm)
  have O2 := O0.ext E2
  have Kp2 : Keep h0 h2 [] := (Keep.refl h0 []).ext E2
  have V_b2 : Arv Z h2 b2 k2 .byte (Int32.ofNat (2 * N)) (own_vs (fun _ => (0 : Int32)) (2 * N)) (.int (0 : Int32)) := (Arv.new A2 (own_nneg (show 2 * N < 2147483648 by omega))).pad (own_pad0 (2 * N))
  obtain ⟨fs, hr, hrun, hended, hW, hsame⟩ := X2.leave (v := some (xr b2)) (fun h => by rw [Bd.returns] at h; cases h)
  refine ⟨_, _, pre0 _ ?_, hrun, hended, _, _, rfl, ?_, ⟨_, rfl⟩, hW, hsame.mono (by decide) (by decide)⟩
  · show own_S p e below s₁ (mkF m 0 #[vi (Int32.ofNat N)] []) _
    refine XS.iloadN X0.here hx rfl (hb hby d27_0) rfl ?_
    show own_S p e below s₁ (mkF m 1 #[vi (Int32.ofNat N)] [xi (Int32.ofNat N)]) _
    refine st1 _ ?_
    show own_S p e below T1 (mkF m 4 #[vi (Int32.ofNat N)] [xi (Int32.ofNat (2 * N))]) _
    refine st2 _ ?_
    show own_S p e below T2 (mkF m 6 #[vi (Int32.ofNat N)] [xr b2]) _
    exact X2.areturnOut hx rfl Bd.returns rfl (hb hby d27_6) hr
  · show (own_QN Z h0 n0 (2 * N)) _ T2.heap _
    rw [e2]
    exact ⟨b2, k2, rfl, N1, Kp2, V_b2, g_b2, sz_b2⟩
def own_QP (Z : State) (h0 : Heap) (n0 : Nat) (b : Addr) (kd : ClassId) (M : Nat) (g : Nat → Int32) (v : Option Value) (h : Heap) (L : List Loc) : Prop := v = none ∧ Fr n0 L ∧ Keep h0 h [b] ∧ Arv Z h b kd .byte (Int32.ofNat M) (own_vs g M) (.int (0 : Int32))
theorem d29_0 : decode jdk_52_method_4_code 0 = .ok (.getstatic 44, 3) := by decide +kernel
theorem d29_3 : decode jdk_52_method_4_code 3 = .ok (.ifCond .ne 25, 3) := by decide +kernel
theorem d29_28 : decode jdk_52_method_4_code 28 = .ok (.iload_n 1, 1) := by decide +kernel
theorem d29_29 : decode jdk_52_method_4_code 29 = .ok (.iconst 1, 1) := by decide +kernel
theorem d29_30 : decode jdk_52_method_4_code 30 = .ok (.ishl, 1) := by decide +kernel
theorem d29_31 : decode jdk_52_method_4_code 31 = .ok (.istore_n 1, 1) := by decide +kernel
theorem d29_32 : decode jdk_52_method_4_code 32 = .ok (.aload_n 0, 1) := by decide +kernel
theorem d29_33 : decode jdk_52_method_4_code 33 = .ok (.iload_n 1, 1) := by decide +kernel
theorem d29_34 : decode jdk_52_method_4_code 34 = .ok (.iinc 1 1, 3) := by decide +kernel
theorem d29_37 : decode jdk_52_method_4_code 37 = .ok (.iload_n 2, 1) := by decide +kernel
theorem d29_38 : decode jdk_52_method_4_code 38 = .ok (.getstatic 59, 3) := by decide +kernel
theorem d29_41 : decode jdk_52_method_4_code 41 = .ok (.ishr, 1) := by decide +kernel
theorem d29_42 : decode jdk_52_method_4_code 42 = .ok (.i2b, 1) := by decide +kernel
theorem d29_43 : decode jdk_52_method_4_code 43 = .ok (.bastore, 1) := by decide +kernel
theorem d29_44 : decode jdk_52_method_4_code 44 = .ok (.aload_n 0, 1) := by decide +kernel
theorem d29_45 : decode jdk_52_method_4_code 45 = .ok (.iload_n 1, 1) := by decide +kernel
theorem d29_46 : decode jdk_52_method_4_code 46 = .ok (.iload_n 2, 1) := by decide +kernel
theorem d29_47 : decode jdk_52_method_4_code 47 = .ok (.getstatic 63, 3) := by decide +kernel
theorem d29_50 : decode jdk_52_method_4_code 50 = .ok (.ishr, 1) := by decide +kernel
theorem d29_51 : decode jdk_52_method_4_code 51 = .ok (.i2b, 1) := by decide +kernel
theorem d29_52 : decode jdk_52_method_4_code 52 = .ok (.bastore, 1) := by decide +kernel
theorem d29_53 : decode jdk_52_method_4_code 53 = .ok (.return_, 1) := by decide +kernel
abbrev Y3 : MethodName := (⟨"java/lang/StringUTF16", "putChar", "([BII)V"⟩ : MethodName)
theorem ef_own_putChar (m : MethodId)  (ki0 : Int32) (vf0 : Value) (b : Addr) (kd : ClassId) (i : Nat) (M : Nat) (g : Nat → Int32) (ch : Int32) : entryFrame m #[xr b, xi (Int32.ofNat i), xi ch] 3 = (mkF m 0 #[vr b, vi (Int32.ofNat i), vi ch] []) := by first | (simp [entryFrame, mkF, argsToLocals, Value.category]; done) | rfl
set_option maxRecDepth 65536 in
set_option maxHeartbeats 40000000 in
theorem own_putChar (l : Launch) (Z : State) (a0 : Array Value) (hw : ∀ d ∈ tables_1, d.before a0 Z = true) (hj : ∀ d ∈ jdkStatics_1, d.before a0 Z = true)  (ki0 : Int32) (vf0 : Value) (G : own_St Z hj ki0 vf0) (b : Addr) (kd : ClassId) (i : Nat) (M : Nat) (g : Nat → Int32) (ch : Int32) (h0 : Heap) (n0 : Nat) (O0 : Old Z n0 h0) (hM : M < 2147483648) (VB : Arv Z h0 b kd .byte (Int32.ofNat M) (own_vs g M) (.int (0 : Int32))) (hi : 2 * i + 1 < M) (g_b : n0 ≤ b) : own_Met l Z Y3 jdk_52_method_4_code 3 none ({ frames := 0, cells := 0, slots := 0, locals := 0 } : Room) #[xr b, xi (Int32.ofNat i), xi ch] h0 (own_QP Z h0 n0 b kd M (own_up (own_up g (2 * i) (nar .byte (ch.toInt8.toInt32))) ((2 * i) + 1) (nar .byte ((ch >>> ((8 : Int32) &&& 31)).toInt8.toInt32)))) := by
  intro ws
  refine MetFree.of_bodySF (plainFor_of_name pn0) hisR ?_
  intro p e s m args below meth c s₁ Bd hml0 hP hK
  obtain ⟨rfl, hZ, hh⟩ := hP
  have hx := Bd.exec
  have hby := Bd.bytes
  have hml : c.maxLocals = 3 := hml0
  have hown : s.vm.findClass "java/lang/StringUTF16" = some m.cls := findClass_of_methodNamed Bd.named
  have hnm := (name_of_methodNamed Bd.named Bd.method).1
  have X0 : Stand p l e ({ frames := 0, cells := 0, slots := 0, locals := 0 } : Room) s m #[xr b, xi (Int32.ofNat i), xi ch] below meth c s₁ [] 0 0 := Stand.of_body Bd
  have e0 : s₁.heap = h0 := by rw [← hh, Bd.state]; rfl
  have N0 := Fr.nil n0
  have pre0 : ∀ t, Steps p.tables e below (s₁.setTop (mkF m 0 #[vr b, vi (Int32.ofNat i), vi ch] [])) t → Steps p.tables e below (s₁.setTop (entryFrame m #[xr b, xi (Int32.ofNat i), xi ch] 3)) t := fun t st => castTop (ef_own_putChar m ki0 vf0 b kd i M g ch) st
  obtain ⟨T1, X1, e1, st1⟩ := getS2 X0 hx hZ hown (host := "") (Or.inl (ww hw 124 rfl)) Via.refl e0 ((own_S_ke0 G).ext O0.2) (g := (mkF m 0 #[vr b, vi (Int32.ofNat i), vi ch] [])) rfl (hb hby d29_0)
  obtain ⟨T2, X2, e2, st2⟩ := getS2 X1 hx hZ hown (host := "") (Or.inl (ww hw 125 rfl)) Via.refl e1 ((own_S_ke1 G).ext O0.2) (g := (mkF m 38 #[vr b, vi (Int32.ofNat ((2 * i) + 1)), vi ch] [xi ch, xi (Int32.ofNat (2 * i)), xr b])) rfl (hb hby d29_38)
  obtain ⟨cl3, Ar3, q3, S3, N3_, H3, G3⟩ := id VB
  obtain ⟨T4, h4, X4, e4, W4, st4⟩ := stB X2 hx hZ e2 Ar3 (j := (Int32.ofNat (2 * i))) (inb_of S3 (own_in (show 2 * i < M by omega) hM)) (g := (mkF m 43 #[vr b, vi (Int32.ofNat ((2 * i) + 1)), vi ch] [xi (ch.toInt8.toInt32), xi (Int32.ofNat (2 * i)), xr b])) rfl rfl (hb hby d29_43)
  have V_b_4 : Arv Z h4 b kd .byte (Int32.ofNat M) (own_vs (own_up g (2 * i) (nar .byte (ch.toInt8.toInt32))) M) (.int (0 : Int32)) := by rw [← own_vs_set]; exact Arv.set Ar3 q3 S3 N3_ H3 G3 (fits_nar_byte _) W4 _ (own_nat (Nat.lt_trans (show 2 * i < M by omega) hM)) (by rw [own_vs_len]; exact (show 2 * i < M by omega))
  have O4 := O0.wr W4 g_b
  have Kp4 : Keep h0 h4 [b] := (Keep.refl h0 [b]).wr W4 (Or.inl (by simp))
  have N4 := Fr.snoc X4 N0 g_b
  obtain ⟨LL4, X4, N4⟩ := own_pack X4 N4
  obtain ⟨T5, X5, e5, st5⟩ := getS2 X4 hx hZ hown (host := "") (Or.inl (ww hw 126 rfl)) Via.refl e4 ((own_S_ke2 G).ext O4.2) (g := (mkF m 47 #[vr b, vi (Int32.ofNat ((2 * i) + 1)), vi ch] [xi ch, xi (Int32.ofNat ((2 * i) + 1)), xr b])) rfl (hb hby d29_47)
  obtain ⟨cl6, Ar6, q6, S6, N6_, H6, G6⟩ := id V_b_4
  obtain ⟨T7, h7, X7, e7, W7, st7⟩ := stB X5 hx hZ e5 Ar6 (j := (Int32.ofNat ((2 * i) + 1))) (inb_of S6 (own_in (show 2 * i + 1 < M by omega) hM)) (g := (mkF m 52 #[vr b, vi (Int32.ofNat ((2 * i) + 1)), vi ch] [xi ((ch >>> ((8 : Int32) &&& 31)).toInt8.toInt32), xi (Int32.ofNat ((2 * i) + 1)), xr b])) rfl rfl (hb hby d29_52)
  have V_b_7 : Arv Z h7 b kd .byte (Int32.ofNat M) (own_vs (own_up (own_up g (2 * i) (nar .byte (ch.toInt8.toInt32))) ((2 * i) + 1) (nar .byte ((ch >>> ((8 : Int32) &&& 31)).toInt8.toInt32))) M) (.int (0 : Int32)) := by rw [← own_vs_set]; exact Arv.set Ar6 q6 S6 N6_ H6 G6 (fits_nar_byte _) W7 _ (own_nat (Nat.lt_trans (show 2 * i + 1 < M by omega) hM)) (by rw [own_vs_len]; exact (show 2 * i + 1 < M by omega))
  have O7 := O4.wr W7 g_b
  have Kp7 := Kp4.wr W7 (Or.inl (by simp))
  have N7 := Fr.snoc X7 N4 g_b
  obtain ⟨LL7, X7, N7⟩ := own_pack X7 N7
  obtain ⟨fs, hr, hrun, hended, hW, hsame⟩ := X7.leave (v := none) (fun _ => rfl)
  refine ⟨_, _, pre0 _ ?_, hrun, hended, _, _, rfl, ?_, ⟨_, rfl⟩, hW, hsame.mono (by decide) (by decide)⟩
  · show own_S p e below s₁ (mkF m 0 #[vr b, vi (Int32.ofNat i), vi ch] []) _
    refine st1 _ ?_
    show own_S p e below T1 (mkF m 3 #[vr b, vi (Int32.ofNat i), vi ch] [xi (1 : Int32)]) _
    refine XS.ifYes X1.here hx rfl (pc0 := 3) (pc' := 28) rfl (hb hby d29_3) rfl (by decide) (by decide) (by decide) ?_
    refine XS.iloadN X1.here hx rfl (hb hby d29_28) rfl ?_
    refine XS.iconst X1.here hx rfl (hb hby d29_29) ?_
    show own_S p e below T1 (mkF m 30 #[vr b, vi (Int32.ofNat i), vi ch] [xi (1 : Int32), xi (Int32.ofNat i)]) _
    refine XS.ishl X1.here hx rfl (hb hby d29_30) rfl ?_
    show own_S p e below T1 (mkF m 31 #[vr b, vi (Int32.ofNat i), vi ch] [xi ((Int32.ofNat i) <<< ((1 : Int32) &&& 31))]) _
    refine castTop (show (mkF m 31 #[vr b, vi (Int32.ofNat i), vi ch] [xi ((Int32.ofNat i) <<< ((1 : Int32) &&& 31))]) = (mkF m 31 #[vr b, vi (Int32.ofNat i), vi ch] [xi (Int32.ofNat (2 * i))]) from by rw [own_dbl (by omega)]) ?_
    refine XS.istoreN X1.here hx rfl (hb hby d29_31) rfl (l' := #[vr b, vi (Int32.ofNat (2 * i)), vi ch]) rfl ?_
    refine XS.aloadN X1.here hx rfl (hb hby d29_32) rfl rfl ?_
    refine XS.iloadN X1.here hx rfl (hb hby d29_33) rfl ?_
    show own_S p e below T1 (mkF m 34 #[vr b, vi (Int32.ofNat (2 * i)), vi ch] [xi (Int32.ofNat (2 * i)), xr b]) _
    refine XS.iinc X1.here hx rfl (hb hby d29_34) rfl (l' := #[vr b, vi ((Int32.ofNat (2 * i)) + (1 : Int32)), vi ch]) rfl ?_
    refine castTop (show (mkF m 37 #[vr b, vi ((Int32.ofNat (2 * i)) + (1 : Int32)), vi ch] [xi (Int32.ofNat (2 * i)), xr b]) = (mkF m 37 #[vr b, vi (Int32.ofNat ((2 * i) + 1)), vi ch] [xi (Int32.ofNat (2 * i)), xr b]) from by rw [own_suc]) ?_
    refine XS.iloadN X1.here hx rfl (hb hby d29_37) rfl ?_
    show own_S p e below T1 (mkF m 38 #[vr b, vi (Int32.ofNat ((2 * i) + 1)), vi ch] [xi ch, xi (Int32.ofNat (2 * i)), xr b]) _
    refine st2 _ ?_
    show own_S p e below T2 (mkF m 41 #[vr b, vi (Int32.ofNat ((2 * i) + 1)), vi ch] [xi (0 : Int32), xi ch, xi (Int32.ofNat (2 * i)), xr b]) _
    refine XS.ishr X2.here hx rfl (hb hby d29_41) rfl ?_
    show own_S p e below T2 (mkF m 42 #[vr b, vi (Int32.ofNat ((2 * i) + 1)), vi ch] [xi (ch >>> ((0 : Int32) &&& 31)), xi (Int32.ofNat (2 * i)), xr b]) _
    refine castTop (show (mkF m 42 #[vr b, vi (Int32.ofNat ((2 * i) + 1)), vi ch] [xi (ch >>> ((0 : Int32) &&& 31)), xi (Int32.ofNat (2 * i)), xr b]) = (mkF m 42 #[vr b, vi (Int32.ofNat ((2 * i) + 1)), vi ch] [xi ch, xi (Int32.ofNat (2 * i)), xr b]) from by rw [own_sh0]) ?_
    show own_S p e below T2 (mkF m 42 #[vr b, vi (Int32.ofNat ((2 * i) + 1)), vi ch] [xi ch, xi (Int32.ofNat (2 * i)), xr b]) _
    refine XS.i2b X2.here hx rfl (hb hby d29_42) rfl ?_
    show own_S p e below T2 (mkF m 43 #[vr b, vi (Int32.ofNat ((2 * i) + 1)), vi ch] [xi (ch.toInt8.toInt32), xi (Int32.ofNat (2 * i)), xr b]) _
    show own_S p e below T2 (mkF m 43 #[vr b, vi (Int32.ofNat ((2 * i) + 1)), vi ch] [xi (ch.toInt8.toInt32), xi (Int32.ofNat (2 * i)), xr b]) _
    refine st4 _ ?_
    refine XS.aloadN X4.here hx rfl (hb hby d29_44) rfl rfl ?_
    refine XS.iloadN X4.here hx rfl (hb hby d29_45) rfl ?_
    refine XS.iloadN X4.here hx rfl (hb hby d29_46) rfl ?_
    show own_S p e below T4 (mkF m 47 #[vr b, vi (Int32.ofNat ((2 * i) + 1)), vi ch] [xi ch, xi (Int32.ofNat ((2 * i) + 1)), xr b]) _
    refine st5 _ ?_
    show own_S p e below T5 (mkF m 50 #[vr b, vi (Int32.ofNat ((2 * i) + 1)), vi ch] [xi (8 : Int32), xi ch, xi (Int32.ofNat ((2 * i) + 1)), xr b]) _
    refine XS.ishr X5.here hx rfl (hb hby d29_50) rfl ?_
    show own_S p e below T5 (mkF m 51 #[vr b, vi (Int32.ofNat ((2 * i) + 1)), vi ch] [xi (ch >>> ((8 : Int32) &&& 31)), xi (Int32.ofNat ((2 * i) + 1)), xr b]) _
    show own_S p e below T5 (mkF m 51 #[vr b, vi (Int32.ofNat ((2 * i) + 1)), vi ch] [xi (ch >>> ((8 : Int32) &&& 31)), xi (Int32.ofNat ((2 * i) + 1)), xr b]) _
    refine XS.i2b X5.here hx rfl (hb hby d29_51) rfl ?_
    show own_S p e below T5 (mkF m 52 #[vr b, vi (Int32.ofNat ((2 * i) + 1)), vi ch] [xi ((ch >>> ((8 : Int32) &&& 31)).toInt8.toInt32), xi (Int32.ofNat ((2 * i) + 1)), xr b]) _
    show own_S p e below T5 (mkF m 52 #[vr b, vi (Int32.ofNat ((2 * i) + 1)), vi ch] [xi ((ch >>> ((8 : Int32) &&& 31)).toInt8.toInt32), xi (Int32.ofNat ((2 * i) + 1)), xr b]) _
    refine st7 _ ?_
    show own_S p e below T7 (mkF m 53 #[vr b, vi (Int32.ofNat ((2 * i) + 1)), vi ch] []) _
    exact X7.returnOut hx Bd.returns (hb hby d29_53) hr
  · show (own_QP Z h0 n0 b kd M (own_up (own_up g (2 * i) (nar .byte (ch.toInt8.toInt32))) ((2 * i) + 1) (nar .byte ((ch >>> ((8 : Int32) &&& 31)).toInt8.toInt32)))) _ T7.heap _
    rw [e7]
    exact ⟨rfl, N7, Kp7, V_b_7⟩
theorem d30_0 : decode jdk_52_method_5_code 0 = .ok (.getstatic 44, 3) := by decide +kernel
theorem d30_3 : decode jdk_52_method_5_code 3 = .ok (.ifCond .ne 25, 3) := by decide +kernel
theorem d30_28 : decode jdk_52_method_5_code 28 = .ok (.iload_n 1, 1) := by decide +kernel
theorem d30_29 : decode jdk_52_method_5_code 29 = .ok (.iconst 1, 1) := by decide +kernel
theorem d30_30 : decode jdk_52_method_5_code 30 = .ok (.ishl, 1) := by decide +kernel
theorem d30_31 : decode jdk_52_method_5_code 31 = .ok (.istore_n 1, 1) := by decide +kernel
theorem d30_32 : decode jdk_52_method_5_code 32 = .ok (.aload_n 0, 1) := by decide +kernel
theorem d30_33 : decode jdk_52_method_5_code 33 = .ok (.iload_n 1, 1) := by decide +kernel
theorem d30_34 : decode jdk_52_method_5_code 34 = .ok (.iinc 1 1, 3) := by decide +kernel
theorem d30_37 : decode jdk_52_method_5_code 37 = .ok (.baload, 1) := by decide +kernel
theorem d30_38 : decode jdk_52_method_5_code 38 = .ok (.sipush 255, 3) := by decide +kernel
theorem d30_41 : decode jdk_52_method_5_code 41 = .ok (.iand, 1) := by decide +kernel
theorem d30_42 : decode jdk_52_method_5_code 42 = .ok (.getstatic 59, 3) := by decide +kernel
theorem d30_45 : decode jdk_52_method_5_code 45 = .ok (.ishl, 1) := by decide +kernel
theorem d30_46 : decode jdk_52_method_5_code 46 = .ok (.aload_n 0, 1) := by decide +kernel
theorem d30_47 : decode jdk_52_method_5_code 47 = .ok (.iload_n 1, 1) := by decide +kernel
theorem d30_48 : decode jdk_52_method_5_code 48 = .ok (.baload, 1) := by decide +kernel
theorem d30_49 : decode jdk_52_method_5_code 49 = .ok (.sipush 255, 3) := by decide +kernel
theorem d30_52 : decode jdk_52_method_5_code 52 = .ok (.iand, 1) := by decide +kernel
theorem d30_53 : decode jdk_52_method_5_code 53 = .ok (.getstatic 63, 3) := by decide +kernel
theorem d30_56 : decode jdk_52_method_5_code 56 = .ok (.ishl, 1) := by decide +kernel
theorem d30_57 : decode jdk_52_method_5_code 57 = .ok (.ior, 1) := by decide +kernel
theorem d30_58 : decode jdk_52_method_5_code 58 = .ok (.i2c, 1) := by decide +kernel
theorem d30_59 : decode jdk_52_method_5_code 59 = .ok (.ireturn, 1) := by decide +kernel
abbrev Y4 : MethodName := (⟨"java/lang/StringUTF16", "getChar", "([BI)C"⟩ : MethodName)
theorem ef_own_getChar0 (m : MethodId)  (ki0 : Int32) (vf0 : Value) (b : Addr) (kd : ClassId) (i : Nat) (M : Nat) (g : Nat → Int32) : entryFrame m #[xr b, xi (Int32.ofNat i)] 2 = (mkF m 0 #[vr b, vi (Int32.ofNat i)] []) := by first | (simp [entryFrame, mkF, argsToLocals, Value.category]; done) | rfl
set_option maxRecDepth 65536 in
set_option maxHeartbeats 40000000 in
theorem own_getChar0 (l : Launch) (Z : State) (a0 : Array Value) (hw : ∀ d ∈ tables_1, d.before a0 Z = true) (hj : ∀ d ∈ jdkStatics_1, d.before a0 Z = true)  (ki0 : Int32) (vf0 : Value) (G : own_St Z hj ki0 vf0) (b : Addr) (kd : ClassId) (i : Nat) (M : Nat) (g : Nat → Int32) (h0 : Heap) (n0 : Nat) (O0 : Old Z n0 h0) (hM : M < 2147483648) (VB : Arv Z h0 b kd .byte (Int32.ofNat M) (own_vs g M) (.int (0 : Int32))) (hi : 2 * i + 1 < M) : own_Met l Z Y4 jdk_52_method_5_code 2 (some .char) ({ frames := 0, cells := 0, slots := 0, locals := 0 } : Room) #[xr b, xi (Int32.ofNat i)] h0 (own_QR (some (xi (nar .char (((((g (2 * i)) &&& (255 : Int32)) <<< ((0 : Int32) &&& 31)) ||| (((g ((2 * i) + 1)) &&& (255 : Int32)) <<< ((8 : Int32) &&& 31))).toUInt32.toUInt16.toUInt32.toInt32)))) h0 n0) := by
  intro ws
  refine MetFree.of_bodySF (plainFor_of_name pn0) hisR ?_
  intro p e s m args below meth c s₁ Bd hml0 hP hK
  obtain ⟨rfl, hZ, hh⟩ := hP
  have hx := Bd.exec
  have hby := Bd.bytes
  have hml : c.maxLocals = 2 := hml0
  have hown : s.vm.findClass "java/lang/StringUTF16" = some m.cls := findClass_of_methodNamed Bd.named
  have hnm := (name_of_methodNamed Bd.named Bd.method).1
  have X0 : Stand p l e ({ frames := 0, cells := 0, slots := 0, locals := 0 } : Room) s m #[xr b, xi (Int32.ofNat i)] below meth c s₁ [] 0 0 := Stand.of_body Bd
  have e0 : s₁.heap = h0 := by rw [← hh, Bd.state]; rfl
  have N0 := Fr.nil n0
  have pre0 : ∀ t, Steps p.tables e below (s₁.setTop (mkF m 0 #[vr b, vi (Int32.ofNat i)] [])) t → Steps p.tables e below (s₁.setTop (entryFrame m #[xr b, xi (Int32.ofNat i)] 2)) t := fun t st => castTop (ef_own_getChar0 m ki0 vf0 b kd i M g) st
  obtain ⟨T1, X1, e1, st1⟩ := getS2 X0 hx hZ hown (host := "") (Or.inl (ww hw 124 rfl)) Via.refl e0 ((own_S_ke0 G).ext O0.2) (g := (mkF m 0 #[vr b, vi (Int32.ofNat i)] [])) rfl (hb hby d30_0)
  obtain ⟨cl2, Ar2, q2, S2, N2_, H2, G2⟩ := id VB
  have hin2 : ¬ ((Int32.ofNat (2 * i)) < 0 ∨ cl2.slots.size ≤ ((Int32.ofNat (2 * i))).toNatClampNeg) := inb_of S2 (own_in (show 2 * i < M by omega) hM)
  have hat2 : cl2.slots[((Int32.ofNat (2 * i))).toNatClampNeg]? = some (xi (g (2 * i))) := Has.at H2 hin2 (by rw [own_nat (Nat.lt_trans (show 2 * i < M by omega) hM)]; exact own_vs_get (show 2 * i < M by omega))
  obtain ⟨T3, X3, e3, st3⟩ := getS2 X1 hx hZ hown (host := "") (Or.inl (ww hw 125 rfl)) Via.refl e1 ((own_S_ke1 G).ext O0.2) (g := (mkF m 42 #[vr b, vi (Int32.ofNat ((2 * i) + 1))] [xi ((g (2 * i)) &&& (255 : Int32))])) rfl (hb hby d30_42)
  obtain ⟨cl4, Ar4, q4, S4, N4_, H4, G4⟩ := id VB
  have hin4 : ¬ ((Int32.ofNat ((2 * i) + 1)) < 0 ∨ cl4.slots.size ≤ ((Int32.ofNat ((2 * i) + 1))).toNatClampNeg) := inb_of S4 (own_in (show 2 * i + 1 < M by omega) hM)
  have hat4 : cl4.slots[((Int32.ofNat ((2 * i) + 1))).toNatClampNeg]? = some (xi (g ((2 * i) + 1))) := Has.at H4 hin4 (by rw [own_nat (Nat.lt_trans (show 2 * i + 1 < M by omega) hM)]; exact own_vs_get (show 2 * i + 1 < M by omega))
  obtain ⟨T5, X5, e5, st5⟩ := getS2 X3 hx hZ hown (host := "") (Or.inl (ww hw 126 rfl)) Via.refl e3 ((own_S_ke2 G).ext O0.2) (g := (mkF m 53 #[vr b, vi (Int32.ofNat ((2 * i) + 1))] [xi ((g ((2 * i) + 1)) &&& (255 : Int32)), xi (((g (2 * i)) &&& (255 : Int32)) <<< ((0 : Int32) &&& 31))])) rfl (hb hby d30_53)
  obtain ⟨fs, hr, hrun, hended, hW, hsame⟩ := X5.leave (v := some (xi (nar .char (((((g (2 * i)) &&& (255 : Int32)) <<< ((0 : Int32) &&& 31)) ||| (((g ((2 * i) + 1)) &&& (255 : Int32)) <<< ((8 : Int32) &&& 31))).toUInt32.toUInt16.toUInt32.toInt32)))) (fun h => by rw [Bd.returns] at h; cases h)
  refine ⟨_, _, pre0 _ ?_, hrun, hended, _, _, rfl, ?_, ⟨_, rfl⟩, hW, hsame.mono (by decide) (by decide)⟩
  · show own_S p e below s₁ (mkF m 0 #[vr b, vi (Int32.ofNat i)] []) _
    refine st1 _ ?_
    show own_S p e below T1 (mkF m 3 #[vr b, vi (Int32.ofNat i)] [xi (1 : Int32)]) _
    refine XS.ifYes X1.here hx rfl (pc0 := 3) (pc' := 28) rfl (hb hby d30_3) rfl (by decide) (by decide) (by decide) ?_
    refine XS.iloadN X1.here hx rfl (hb hby d30_28) rfl ?_
    refine XS.iconst X1.here hx rfl (hb hby d30_29) ?_
    show own_S p e below T1 (mkF m 30 #[vr b, vi (Int32.ofNat i)] [xi (1 : Int32), xi (Int32.ofNat i)]) _
    refine XS.ishl X1.here hx rfl (hb hby d30_30) rfl ?_
    show own_S p e below T1 (mkF m 31 #[vr b, vi (Int32.ofNat i)] [xi ((Int32.ofNat i) <<< ((1 : Int32) &&& 31))]) _
    refine castTop (show (mkF m 31 #[vr b, vi (Int32.ofNat i)] [xi ((Int32.ofNat i) <<< ((1 : Int32) &&& 31))]) = (mkF m 31 #[vr b, vi (Int32.ofNat i)] [xi (Int32.ofNat (2 * i))]) from by rw [own_dbl (by omega)]) ?_
    refine XS.istoreN X1.here hx rfl (hb hby d30_31) rfl (l' := #[vr b, vi (Int32.ofNat (2 * i))]) rfl ?_
    refine XS.aloadN X1.here hx rfl (hb hby d30_32) rfl rfl ?_
    refine XS.iloadN X1.here hx rfl (hb hby d30_33) rfl ?_
    show own_S p e below T1 (mkF m 34 #[vr b, vi (Int32.ofNat (2 * i))] [xi (Int32.ofNat (2 * i)), xr b]) _
    refine XS.iinc X1.here hx rfl (hb hby d30_34) rfl (l' := #[vr b, vi ((Int32.ofNat (2 * i)) + (1 : Int32))]) rfl ?_
    refine castTop (show (mkF m 37 #[vr b, vi ((Int32.ofNat (2 * i)) + (1 : Int32))] [xi (Int32.ofNat (2 * i)), xr b]) = (mkF m 37 #[vr b, vi (Int32.ofNat ((2 * i) + 1))] [xi (Int32.ofNat (2 * i)), xr b]) from by rw [own_suc]) ?_
    show own_S p e below T1 (mkF m 37 #[vr b, vi (Int32.ofNat ((2 * i) + 1))] [xi (Int32.ofNat (2 * i)), xr b]) _
    refine X1.baloadBytes hx (j := (Int32.ofNat (2 * i))) (v := (xi (g (2 * i)))) (by rw [e1]; exact Ar2.1) (State.isArrayOf_alike hZ.alike Ar2.2.1) Ar2.2.2 hin2 hat2 (g := (mkF m 37 #[vr b, vi (Int32.ofNat ((2 * i) + 1))] [xi (Int32.ofNat (2 * i)), xr b])) rfl rfl (hb hby d30_37) _ ?_
    refine XS.sipush X1.here hx rfl (hb hby d30_38) ?_
    show own_S p e below T1 (mkF m 41 #[vr b, vi (Int32.ofNat ((2 * i) + 1))] [xi (255 : Int32), xi (g (2 * i))]) _
    refine XS.iand X1.here hx rfl (hb hby d30_41) rfl ?_
    show own_S p e below T1 (mkF m 42 #[vr b, vi (Int32.ofNat ((2 * i) + 1))] [xi ((g (2 * i)) &&& (255 : Int32))]) _
    show own_S p e below T1 (mkF m 42 #[vr b, vi (Int32.ofNat ((2 * i) + 1))] [xi ((g (2 * i)) &&& (255 : Int32))]) _
    refine st3 _ ?_
    show own_S p e below T3 (mkF m 45 #[vr b, vi (Int32.ofNat ((2 * i) + 1))] [xi (0 : Int32), xi ((g (2 * i)) &&& (255 : Int32))]) _
    refine XS.ishl X3.here hx rfl (hb hby d30_45) rfl ?_
    show own_S p e below T3 (mkF m 46 #[vr b, vi (Int32.ofNat ((2 * i) + 1))] [xi (((g (2 * i)) &&& (255 : Int32)) <<< ((0 : Int32) &&& 31))]) _
    refine XS.aloadN X3.here hx rfl (hb hby d30_46) rfl rfl ?_
    refine XS.iloadN X3.here hx rfl (hb hby d30_47) rfl ?_
    show own_S p e below T3 (mkF m 48 #[vr b, vi (Int32.ofNat ((2 * i) + 1))] [xi (Int32.ofNat ((2 * i) + 1)), xr b, xi (((g (2 * i)) &&& (255 : Int32)) <<< ((0 : Int32) &&& 31))]) _
    refine X3.baloadBytes hx (j := (Int32.ofNat ((2 * i) + 1))) (v := (xi (g ((2 * i) + 1)))) (by rw [e3]; exact Ar4.1) (State.isArrayOf_alike hZ.alike Ar4.2.1) Ar4.2.2 hin4 hat4 (g := (mkF m 48 #[vr b, vi (Int32.ofNat ((2 * i) + 1))] [xi (Int32.ofNat ((2 * i) + 1)), xr b, xi (((g (2 * i)) &&& (255 : Int32)) <<< ((0 : Int32) &&& 31))])) rfl rfl (hb hby d30_48) _ ?_
    refine XS.sipush X3.here hx rfl (hb hby d30_49) ?_
    show own_S p e below T3 (mkF m 52 #[vr b, vi (Int32.ofNat ((2 * i) + 1))] [xi (255 : Int32), xi (g ((2 * i) + 1)), xi (((g (2 * i)) &&& (255 : Int32)) <<< ((0 : Int32) &&& 31))]) _
    refine XS.iand X3.here hx rfl (hb hby d30_52) rfl ?_
    show own_S p e below T3 (mkF m 53 #[vr b, vi (Int32.ofNat ((2 * i) + 1))] [xi ((g ((2 * i) + 1)) &&& (255 : Int32)), xi (((g (2 * i)) &&& (255 : Int32)) <<< ((0 : Int32) &&& 31))]) _
    show own_S p e below T3 (mkF m 53 #[vr b, vi (Int32.ofNat ((2 * i) + 1))] [xi ((g ((2 * i) + 1)) &&& (255 : Int32)), xi (((g (2 * i)) &&& (255 : Int32)) <<< ((0 : Int32) &&& 31))]) _
    refine st5 _ ?_
    show own_S p e below T5 (mkF m 56 #[vr b, vi (Int32.ofNat ((2 * i) + 1))] [xi (8 : Int32), xi ((g ((2 * i) + 1)) &&& (255 : Int32)), xi (((g (2 * i)) &&& (255 : Int32)) <<< ((0 : Int32) &&& 31))]) _
    refine XS.ishl X5.here hx rfl (hb hby d30_56) rfl ?_
    show own_S p e below T5 (mkF m 57 #[vr b, vi (Int32.ofNat ((2 * i) + 1))] [xi (((g ((2 * i) + 1)) &&& (255 : Int32)) <<< ((8 : Int32) &&& 31)), xi (((g (2 * i)) &&& (255 : Int32)) <<< ((0 : Int32) &&& 31))]) _
    show own_S p e below T5 (mkF m 57 #[vr b, vi (Int32.ofNat ((2 * i) + 1))] [xi (((g ((2 * i) + 1)) &&& (255 : Int32)) <<< ((8 : Int32) &&& 31)), xi (((g (2 * i)) &&& (255 : Int32)) <<< ((0 : Int32) &&& 31))]) _
    refine XS.ior X5.here hx rfl (hb hby d30_57) rfl ?_
    show own_S p e below T5 (mkF m 58 #[vr b, vi (Int32.ofNat ((2 * i) + 1))] [xi ((((g (2 * i)) &&& (255 : Int32)) <<< ((0 : Int32) &&& 31)) ||| (((g ((2 * i) + 1)) &&& (255 : Int32)) <<< ((8 : Int32) &&& 31)))]) _
    show own_S p e below T5 (mkF m 58 #[vr b, vi (Int32.ofNat ((2 * i) + 1))] [xi ((((g (2 * i)) &&& (255 : Int32)) <<< ((0 : Int32) &&& 31)) ||| (((g ((2 * i) + 1)) &&& (255 : Int32)) <<< ((8 : Int32) &&& 31)))]) _
    refine XS.i2c X5.here hx rfl (hb hby d30_58) rfl ?_
    show own_S p e below T5 (mkF m 59 #[vr b, vi (Int32.ofNat ((2 * i) + 1))] [xi (((((g (2 * i)) &&& (255 : Int32)) <<< ((0 : Int32) &&& 31)) ||| (((g ((2 * i) + 1)) &&& (255 : Int32)) <<< ((8 : Int32) &&& 31))).toUInt32.toUInt16.toUInt32.toInt32)]) _
    show own_S p e below T5 (mkF m 59 #[vr b, vi (Int32.ofNat ((2 * i) + 1))] [xi (((((g (2 * i)) &&& (255 : Int32)) <<< ((0 : Int32) &&& 31)) ||| (((g ((2 * i) + 1)) &&& (255 : Int32)) <<< ((8 : Int32) &&& 31))).toUInt32.toUInt16.toUInt32.toInt32)]) _
    exact retN X5 hx (t := .char) Bd.returns (by simp) (hb hby d30_59) hr
  · exact ⟨rfl, N0, e5⟩
theorem own_getChar (l : Launch) (Z : State) (a0 : Array Value) (hw : ∀ d ∈ tables_1, d.before a0 Z = true) (hj : ∀ d ∈ jdkStatics_1, d.before a0 Z = true)  (ki0 : Int32) (vf0 : Value) (G : own_St Z hj ki0 vf0) (b : Addr) (kd : ClassId) (i M : Nat) (g : Nat → Int32) (cc : Int32) (hc : (nar .char (((((g (2 * i)) &&& (255 : Int32)) <<< ((0 : Int32) &&& 31)) ||| (((g ((2 * i) + 1)) &&& (255 : Int32)) <<< ((8 : Int32) &&& 31))).toUInt32.toUInt16.toUInt32.toInt32)) = cc) (h0 : Heap) (n0 : Nat) (O0 : Old Z n0 h0) (hM : M < 2147483648) (VB : Arv Z h0 b kd .byte (Int32.ofNat M) (own_vs g M) (.int (0 : Int32))) (hi : 2 * i + 1 < M) : own_Met l Z Y4 jdk_52_method_5_code 2 (some .char) ({ frames := 0, cells := 0, slots := 0, locals := 0 } : Room) #[xr b, xi (Int32.ofNat i)] h0 (own_QR (some (xi cc)) h0 n0) := by
  rw [← hc]; exact own_getChar0 l Z a0 hw hj ki0 vf0 G b kd i M g h0 n0 O0 hM VB hi
theorem d26_8 : decode jdk_52_method_14_code 8 = .ok (.iload 4, 2) := by decide +kernel
theorem d26_10 : decode jdk_52_method_14_code 10 = .ok (.iload_n 2, 1) := by decide +kernel
theorem d26_11 : decode jdk_52_method_14_code 11 = .ok (.if_icmp .ge 21, 3) := by decide +kernel
theorem d26_14 : decode jdk_52_method_14_code 14 = .ok (.aload_n 3, 1) := by decide +kernel
theorem d26_15 : decode jdk_52_method_14_code 15 = .ok (.iload 4, 2) := by decide +kernel
theorem d26_17 : decode jdk_52_method_14_code 17 = .ok (.aload_n 0, 1) := by decide +kernel
theorem d26_18 : decode jdk_52_method_14_code 18 = .ok (.iload_n 1, 1) := by decide +kernel
theorem d26_19 : decode jdk_52_method_14_code 19 = .ok (.caload, 1) := by decide +kernel
theorem d26_20 : decode jdk_52_method_14_code 20 = .ok (.invokestatic 111, 3) := by decide +kernel
theorem pd1 : parseMethodDescriptor "([BII)V" = some ⟨[(.array .byte), .int, .int], none⟩ := by decide +kernel
theorem d26_23 : decode jdk_52_method_14_code 23 = .ok (.iinc 1 1, 3) := by decide +kernel
theorem d26_26 : decode jdk_52_method_14_code 26 = .ok (.iinc 4 1, 3) := by decide +kernel
theorem d26_29 : decode jdk_52_method_14_code 29 = .ok (.goto (-21), 3) := by decide +kernel
set_option maxRecDepth 65536 in
set_option maxHeartbeats 40000000 in
theorem own_tb_turn {p : Program} {l : Launch} {e : Env} {s : State} {m : MethodId} {args : Array Value} {below : List Frame} {meth : Method} {c : Code} {T0 : State} {locs : List Loc} {Z : State} {a0 : Array Value} (hw : ∀ d ∈ tables_1, d.before a0 Z = true) (hj : ∀ d ∈ jdkStatics_1, d.before a0 Z = true)  (ki0 : Int32) (vf0 : Value) (G : own_St Z hj ki0 vf0) (a : Addr) (b : Addr) (ks : ClassId) (kd : ClassId) (i : Nat) (N : Nat) (f : Nat → Int32) (g : Nat → Int32) (hx : p.tables.exec = Jvm.exec) (hZ : Z.Warmed39 s.vm) (hby : c.code = jdk_52_method_14_code) (hml : c.maxLocals = 5) (hown : s.vm.findClass "java/lang/StringUTF16" = some m.cls) {h0 : Heap} {n0 : Nat} (X0 : Stand p l e ({ frames := 2, cells := 1, slots := 90, locals := 26 } : Room) s m args below meth c T0 locs 1 90) (e0 : T0.heap = h0) (N0 : Fr n0 locs) (O0 : Old Z n0 h0) (hn : N ≤ 45) (VA : Arv Z h0 a ks .char (Int32.ofNat N) (own_vs f N) (.int (0 : Int32))) (VB : Arv Z h0 b kd .byte (Int32.ofNat (2 * N)) (own_vs g (2 * N)) (.int (0 : Int32))) (ne_a_b : a ≠ b) (g_b : n0 ≤ b) (hlt : i < N) :
    ∃ (T1 : State) (L1 : List Loc) (h1 : Heap), Stand p l e ({ frames := 2, cells := 1, slots := 90, locals := 26 } : Room) s m args below meth c T1 L1 1 90 ∧ T1.heap = h1 ∧ Fr n0 L1 ∧ Old Z n0 h1 ∧ (Arv Z h1 a ks .char (Int32.ofNat N) (own_vs f N) (.int (0 : Int32)) ∧ Arv Z h1 b kd .byte (Int32.ofNat (2 * N)) (own_vs (own_up (own_up g (2 * i) (nar .byte ((f i).toInt8.toInt32))) ((2 * i) + 1) (nar .byte (((f i) >>> ((8 : Int32) &&& 31)).toInt8.toInt32))) (2 * N)) (.int (0 : Int32)) ∧ Keep h0 h1 [b]) ∧ ∀ t, Steps p.tables e below (T1.setTop (mkF m 8 #[vr a, vi (Int32.ofNat (i + 1)), vi (Int32.ofNat N), vr b, vi (Int32.ofNat (i + 1))] [])) t → Steps p.tables e below (T0.setTop (mkF m 8 #[vr a, vi (Int32.ofNat i), vi (Int32.ofNat N), vr b, vi (Int32.ofNat i)] [])) t := by
  obtain ⟨cl1, Ar1, q1, S1, N1_, H1, G1⟩ := id VA
  have hin1 : ¬ ((Int32.ofNat i) < 0 ∨ cl1.slots.size ≤ ((Int32.ofNat i)).toNatClampNeg) := inb_of S1 (own_in hlt (show N < 2147483648 by omega))
  have hat1 : cl1.slots[((Int32.ofNat i)).toNatClampNeg]? = some (xi (f i)) := Has.at H1 hin1 (by rw [own_nat (Nat.lt_trans hlt (show N < 2147483648 by omega))]; exact own_vs_get hlt)
  obtain ⟨_, _, ⟨T2, L2, k2, n2⟩, -, X2, ⟨Lc2, hQ2, l2, y2, z2⟩, st2⟩ := Jvm.LawKit.callS X0 hx (y := Y3) hown (mvT hZ (ww hw 121 rfl)) (mvT hZ (ww hw 122 rfl)) (mvT hZ (ww hw 29 rfl)) (mvT hZ (ww hw 123 rfl)) (by decide) (backOf (W := 0) (own_putChar l Z a0 hw hj ki0 vf0 G b kd i (2 * N) g (f i) h0 n0 O0 (show 2 * N < 2147483648 by omega) VB (by omega) g_b []) hZ (ww hw 123 rfl) (ww hw 29 rfl) (by decide) (by decide)) (g := (mkF m 20 #[vr a, vi (Int32.ofNat i), vi (Int32.ofNat N), vr b, vi (Int32.ofNat i)] [xi (f i), xi (Int32.ofNat i), xr b])) rfl (by rw [hml]; rfl) (argsL := [xr b, xi (Int32.ofNat i), xi (f i)]) (rest := []) (lenOf pd1 rfl) rfl (by show 2 * 0 + _ ≤ _; exact Nat.le_of_eq rfl) (hb hby d26_20) (fun _ _ => ⟨rfl, e0, (by decide : 1 + 0 ≤ _), (by decide : 90 + 0 ≤ _)⟩)
  dsimp only [Pt.U, Pt.locs, Pt.cells, Pt.slots] at X2 l2 y2 z2 st2 hQ2
  subst l2 y2 z2
  obtain ⟨h2, e2⟩ : ∃ z, T2.heap = z := ⟨_, rfl⟩
  rw [e2] at hQ2
  obtain ⟨rfl, Nq2, K2, Vp2⟩ := hQ2
  have N2 := Fr.app N0 Nq2
  have O2 : Old Z n0 h2 := O0.keep K2 (allS g_b all0)
  have Kp2 : Keep h0 h2 [b] := (Keep.refl h0 [b]).trans K2 (allS (Or.inl (by simp)) all0)
  have V_a_2 := VA.keep K2 (ninS ne_a_b nin0)
  refine ⟨_, _, _, X2, e2, N2, O2, ⟨V_a_2, Vp2, Kp2⟩, fun t st => ?_⟩
  show own_S p e below T0 (mkF m 8 #[vr a, vi (Int32.ofNat i), vi (Int32.ofNat N), vr b, vi (Int32.ofNat i)] []) _
  refine XS.iload X0.here hx rfl (hb hby d26_8) rfl ?_
  refine XS.iloadN X0.here hx rfl (hb hby d26_10) rfl ?_
  show own_S p e below T0 (mkF m 11 #[vr a, vi (Int32.ofNat i), vi (Int32.ofNat N), vr b, vi (Int32.ofNat i)] [xi (Int32.ofNat N), xi (Int32.ofNat i)]) _
  refine XS.icmpNo X0.here hx rfl (hb hby d26_11) rfl (tlt (own_in hlt (by omega)).2).2.1 ?_
  refine XS.aloadN X0.here hx rfl (hb hby d26_14) rfl rfl ?_
  refine XS.iload X0.here hx rfl (hb hby d26_15) rfl ?_
  refine XS.aloadN X0.here hx rfl (hb hby d26_17) rfl rfl ?_
  show own_S p e below T0 (mkF m 18 #[vr a, vi (Int32.ofNat i), vi (Int32.ofNat N), vr b, vi (Int32.ofNat i)] [xr a, xi (Int32.ofNat i), xr b]) _
  refine XS.iloadN X0.here hx rfl (hb hby d26_18) rfl ?_
  show own_S p e below T0 (mkF m 19 #[vr a, vi (Int32.ofNat i), vi (Int32.ofNat N), vr b, vi (Int32.ofNat i)] [xi (Int32.ofNat i), xr a, xi (Int32.ofNat i), xr b]) _
  refine X0.caload hx (j := (Int32.ofNat i)) (v := (xi (f i))) (by rw [e0]; exact Ar1.1) (State.isArrayOf_alike hZ.alike Ar1.2.1) Ar1.2.2 hin1 hat1 (g := (mkF m 19 #[vr a, vi (Int32.ofNat i), vi (Int32.ofNat N), vr b, vi (Int32.ofNat i)] [xi (Int32.ofNat i), xr a, xi (Int32.ofNat i), xr b])) rfl rfl (hb hby d26_19) _ ?_
  show own_S p e below T0 (mkF m 20 #[vr a, vi (Int32.ofNat i), vi (Int32.ofNat N), vr b, vi (Int32.ofNat i)] [xi (f i), xi (Int32.ofNat i), xr b]) _
  refine st2 _ ?_
  show own_S p e below T2 (mkF m 23 #[vr a, vi (Int32.ofNat i), vi (Int32.ofNat N), vr b, vi (Int32.ofNat i)] []) _
  refine XS.iinc X2.here hx rfl (hb hby d26_23) rfl (l' := #[vr a, vi ((Int32.ofNat i) + (1 : Int32)), vi (Int32.ofNat N), vr b, vi (Int32.ofNat i)]) rfl ?_
  refine castTop (show (mkF m 26 #[vr a, vi ((Int32.ofNat i) + (1 : Int32)), vi (Int32.ofNat N), vr b, vi (Int32.ofNat i)] []) = (mkF m 26 #[vr a, vi (Int32.ofNat (i + 1)), vi (Int32.ofNat N), vr b, vi (Int32.ofNat i)] []) from by rw [own_suc]) ?_
  show own_S p e below T2 (mkF m 26 #[vr a, vi (Int32.ofNat (i + 1)), vi (Int32.ofNat N), vr b, vi (Int32.ofNat i)] []) _
  refine XS.iinc X2.here hx rfl (hb hby d26_26) rfl (l' := #[vr a, vi (Int32.ofNat (i + 1)), vi (Int32.ofNat N), vr b, vi ((Int32.ofNat i) + (1 : Int32))]) rfl ?_
  refine castTop (show (mkF m 29 #[vr a, vi (Int32.ofNat (i + 1)), vi (Int32.ofNat N), vr b, vi ((Int32.ofNat i) + (1 : Int32))] []) = (mkF m 29 #[vr a, vi (Int32.ofNat (i + 1)), vi (Int32.ofNat N), vr b, vi (Int32.ofNat (i + 1))] []) from by rw [own_suc]) ?_
  refine XS.goto X2.here hx rfl (pc0 := 29) (pc' := 8) rfl (hb hby d26_29) (by decide) (by decide) ?_
  exact st
def own_u16 (f : Nat → Int32) (t : Nat) : Int32 := if t % 2 = 0 then nar .byte ((f (t / 2)).toInt8.toInt32) else nar .byte (((f (t / 2)) >>> ((8 : Int32) &&& 31)).toInt8.toInt32)
theorem own_tb_loop {p : Program} {l : Launch} {e : Env} {s : State} {m : MethodId} {args : Array Value} {below : List Frame} {meth : Method} {c : Code} {Z : State} {a0 : Array Value} (hw : ∀ d ∈ tables_1, d.before a0 Z = true) (hj : ∀ d ∈ jdkStatics_1, d.before a0 Z = true)  (ki0 : Int32) (vf0 : Value) (G : own_St Z hj ki0 vf0) (a b : Addr) (ks kd : ClassId) (N : Nat) (f : Nat → Int32) (hx : p.tables.exec = Jvm.exec) (hZ : Z.Warmed39 s.vm) (hby : c.code = jdk_52_method_14_code) (hml : c.maxLocals = 5) (hown : s.vm.findClass "java/lang/StringUTF16" = some m.cls) (hn : N ≤ 45) (ne_a_b : a ≠ b) (n0 : Nat) (g_b : n0 ≤ b) (k : Nat) : ∀ (i : Nat) (g : Nat → Int32) (T0 : State) (locs : List Loc) (h0 : Heap), Stand p l e ({ frames := 2, cells := 1, slots := 90, locals := 26 } : Room) s m args below meth c T0 locs 1 90 → T0.heap = h0 → Fr n0 locs → Old Z n0 h0 → Arv Z h0 a ks .char (Int32.ofNat N) (own_vs f N) (.int (0 : Int32)) → Arv Z h0 b kd .byte (Int32.ofNat (2 * N)) (own_vs g (2 * N)) (.int (0 : Int32)) → i + k = N → (∀ t, t < 2 * i → g t = own_u16 f t) →
    ∃ (T1 : State) (L1 : List Loc) (h1 : Heap), Stand p l e ({ frames := 2, cells := 1, slots := 90, locals := 26 } : Room) s m args below meth c T1 L1 1 90 ∧ T1.heap = h1 ∧ Fr n0 L1 ∧ Old Z n0 h1 ∧ Arv Z h1 a ks .char (Int32.ofNat N) (own_vs f N) (.int (0 : Int32)) ∧ Arv Z h1 b kd .byte (Int32.ofNat (2 * N)) (own_vs (own_u16 f) (2 * N)) (.int (0 : Int32)) ∧ Keep h0 h1 [b] ∧ ∀ t, Steps p.tables e below (T1.setTop (mkF m 8 #[vr a, vi (Int32.ofNat N), vi (Int32.ofNat N), vr b, vi (Int32.ofNat N)] [])) t → Steps p.tables e below (T0.setTop (mkF m 8 #[vr a, vi (Int32.ofNat i), vi (Int32.ofNat N), vr b, vi (Int32.ofNat i)] [])) t := by
  induction k with
  | zero =>
    intro i g T0 locs h0 X e0 Nf O VA VB hk hg
    refine ⟨T0, locs, h0, X, e0, Nf, O, VA, ?_, Keep.refl _ _, fun t st => by rw [show i = N from by omega]; exact st⟩
    rw [own_vs_congr (g := g) (fun t ht => (hg t (by omega)).symm)]; exact VB
  | succ k ih =>
    intro i g T0 locs h0 X e0 Nf O VA VB hk hg
    obtain ⟨T1, L1, h1, X1, e1, N1, O1, ⟨VA1, VB1, K1⟩, st1⟩ := own_tb_turn hw hj ki0 vf0 G a b ks kd i N f g hx hZ hby hml hown X e0 Nf O hn VA VB ne_a_b g_b (by omega)
    obtain ⟨T2, L2, h2, X2, e2, N2, O2, VA2, VB2, K2, st2⟩ := ih (i + 1) _ T1 L1 h1 X1 e1 N1 O1 VA1 VB1 (by omega) (fun t ht => by
      simp only [own_up, own_u16]
      by_cases h1 : t = 2 * i + 1
      · subst h1
        rw [if_pos rfl, if_neg (by omega), show (2 * i + 1) / 2 = i from by omega]
      · rw [if_neg h1]
        by_cases h2 : t = 2 * i
        · subst h2
          rw [if_pos rfl, if_pos (by omega), show (2 * i) / 2 = i from by omega]
        · rw [if_neg h2]; exact hg t (by omega))
    exact ⟨T2, L2, h2, X2, e2, N2, O2, VA2, VB2, K1.trans K2 (fun x hx => Or.inl hx), fun t st => st1 t (st2 t st)⟩
def own_QT (Z : State) (h0 : Heap) (n0 : Nat) (N : Nat) (f : Nat → Int32) (v : Option Value) (h : Heap) (L : List Loc) : Prop := ∃ b kd, v = some (.ref b) ∧ Fr n0 L ∧ Keep h0 h [] ∧ Arv Z h b kd .byte (Int32.ofNat (2 * N)) (own_vs (own_u16 f) (2 * N)) (.int (0 : Int32)) ∧ n0 ≤ b ∧ h0.size ≤ b
theorem d26_0 : decode jdk_52_method_14_code 0 = .ok (.iload_n 2, 1) := by decide +kernel
theorem d26_1 : decode jdk_52_method_14_code 1 = .ok (.invokestatic 107, 3) := by decide +kernel
theorem pd2 : parseMethodDescriptor "(I)[B" = some ⟨[.int], some (.array .byte)⟩ := by decide +kernel
theorem d26_4 : decode jdk_52_method_14_code 4 = .ok (.astore_n 3, 1) := by decide +kernel
theorem d26_5 : decode jdk_52_method_14_code 5 = .ok (.iconst 0, 1) := by decide +kernel
theorem d26_6 : decode jdk_52_method_14_code 6 = .ok (.istore 4, 2) := by decide +kernel
theorem d26_32 : decode jdk_52_method_14_code 32 = .ok (.aload_n 3, 1) := by decide +kernel
theorem d26_33 : decode jdk_52_method_14_code 33 = .ok (.areturn, 1) := by decide +kernel
abbrev Y5 : MethodName := (⟨"java/lang/StringUTF16", "toBytes", "([CII)[B"⟩ : MethodName)
theorem ef_own_toBytes (m : MethodId)  (ki0 : Int32) (vf0 : Value) (a : Addr) (ks : ClassId) (N : Nat) (f : Nat → Int32) : entryFrame m #[xr a, xi (0 : Int32), xi (Int32.ofNat N)] 5 = (mkF m 0 #[vr a, vi (0 : Int32), vi (Int32.ofNat N), vu, vu] []) := by first | (simp [entryFrame, mkF, argsToLocals, Value.category]; done) | rfl
set_option maxRecDepth 65536 in
set_option maxHeartbeats 40000000 in
theorem own_toBytes (l : Launch) (Z : State) (a0 : Array Value) (hw : ∀ d ∈ tables_1, d.before a0 Z = true) (hj : ∀ d ∈ jdkStatics_1, d.before a0 Z = true)  (ki0 : Int32) (vf0 : Value) (G : own_St Z hj ki0 vf0) (a : Addr) (ks : ClassId) (N : Nat) (f : Nat → Int32) (h0 : Heap) (n0 : Nat) (O0 : Old Z n0 h0) (hn : N ≤ 45) (VA : Arv Z h0 a ks .char (Int32.ofNat N) (own_vs f N) (.int (0 : Int32))) : own_Met l Z Y5 jdk_52_method_14_code 5 (some (.array .byte)) ({ frames := 2, cells := 1, slots := 90, locals := 26 } : Room) #[xr a, xi (0 : Int32), xi (Int32.ofNat N)] h0 (own_QT Z h0 n0 N f) := by
  intro ws
  refine MetFree.of_bodySF (plainFor_of_name pn0) hisR ?_
  intro p e s m args below meth c s₁ Bd hml0 hP hK
  obtain ⟨rfl, hZ, hh⟩ := hP
  have hx := Bd.exec
  have hby := Bd.bytes
  have hml : c.maxLocals = 5 := hml0
  have hown : s.vm.findClass "java/lang/StringUTF16" = some m.cls := findClass_of_methodNamed Bd.named
  have hnm := (name_of_methodNamed Bd.named Bd.method).1
  have X0 : Stand p l e ({ frames := 2, cells := 1, slots := 90, locals := 26 } : Room) s m #[xr a, xi (0 : Int32), xi (Int32.ofNat N)] below meth c s₁ [] 0 0 := Stand.of_body Bd
  have e0 : s₁.heap = h0 := by rw [← hh, Bd.state]; rfl
  have N0 := Fr.nil n0
  have pre0 : ∀ t, Steps p.tables e below (s₁.setTop (mkF m 0 #[vr a, vi (0 : Int32), vi (Int32.ofNat N), vu, vu] [])) t → Steps p.tables e below (s₁.setTop (entryFrame m #[xr a, xi (0 : Int32), xi (Int32.ofNat N)] 5)) t := fun t st => castTop (ef_own_toBytes m ki0 vf0 a ks N f) st
  obtain ⟨_, _, ⟨T1, L1, k1, n1⟩, -, X1, ⟨Lc1, hQ1, l1, y1, z1⟩, st1⟩ := Jvm.LawKit.callS X0 hx (y := Y2) hown (mvT hZ (ww hw 114 rfl)) (mvT hZ (ww hw 115 rfl)) (mvT hZ (ww hw 29 rfl)) (mvT hZ (ww hw 116 rfl)) (by decide) (backOf (W := 0) (own_nbf l Z a0 hw hj ki0 vf0 G N h0 n0 O0 hn []) hZ (ww hw 116 rfl) (ww hw 29 rfl) (by decide) (by decide)) (g := (mkF m 1 #[vr a, vi (0 : Int32), vi (Int32.ofNat N), vu, vu] [xi (Int32.ofNat N)])) rfl (by rw [hml]; rfl) (argsL := [xi (Int32.ofNat N)]) (rest := []) (lenOf pd2 rfl) rfl (by show 2 * 0 + _ ≤ _; exact Nat.le_of_eq rfl) (hb hby d26_1) (fun _ _ => ⟨rfl, e0, (by decide : 0 + 1 ≤ _), (by decide : 0 + 90 ≤ _)⟩)
  dsimp only [Pt.U, Pt.locs, Pt.cells, Pt.slots] at X1 l1 y1 z1 st1 hQ1
  subst l1 y1 z1
  obtain ⟨h1, e1⟩ : ∃ z, T1.heap = z := ⟨_, rfl⟩
  rw [e1] at hQ1
  obtain ⟨bb1, kb1, rfl, Nq1, K1, Vb1, g_bb1, sz_bb1⟩ := hQ1
  have N1 := Fr.app N0 Nq1
  have ne_a_bb1 : a ≠ bb1 := Nat.ne_of_lt (Nat.lt_of_lt_of_le (VA).lt sz_bb1)
  have O1 : Old Z n0 h1 := O0.keep K1 all0
  have Kp1 : Keep h0 h1 [] := (Keep.refl h0 []).trans K1 all0
  have V_a_1 := VA.keep K1 nin0
  obtain ⟨TL, LL, hL, XL, eL, NL, OL, VAL, VBL, KL, stL⟩ := own_tb_loop hw hj ki0 vf0 G a bb1 ks kb1 N f hx hZ hby hml hown hn ne_a_bb1 n0 g_bb1 N 0 (fun _ => (0 : Int32)) T1 _ h1 X1 e1 N1 O1 V_a_1 Vb1 (by omega) (fun t ht => absurd ht (by omega))
  have KpL : Keep h0 hL [] := Kp1.trans KL (allS (Or.inr sz_bb1) all0)
  obtain ⟨fs, hr, hrun, hended, hW, hsame⟩ := XL.leave (v := some (xr bb1)) (fun h => by rw [Bd.returns] at h; cases h)
  refine ⟨_, _, pre0 _ ?_, hrun, hended, _, _, rfl, ?_, ⟨_, rfl⟩, hW, hsame.mono (by decide) (by decide)⟩
  · show own_S p e below s₁ (mkF m 0 #[vr a, vi (0 : Int32), vi (Int32.ofNat N), vu, vu] []) _
    refine XS.iloadN X0.here hx rfl (hb hby d26_0) rfl ?_
    show own_S p e below s₁ (mkF m 1 #[vr a, vi (0 : Int32), vi (Int32.ofNat N), vu, vu] [xi (Int32.ofNat N)]) _
    refine st1 _ ?_
    refine XS.astoreN X1.here hx rfl (hb hby d26_4) rfl rfl (l' := #[vr a, vi (0 : Int32), vi (Int32.ofNat N), vr bb1, vu]) rfl ?_
    refine XS.iconst X1.here hx rfl (hb hby d26_5) ?_
    refine XS.istore X1.here hx rfl (hb hby d26_6) rfl (l' := #[vr a, vi (0 : Int32), vi (Int32.ofNat N), vr bb1, vi (0 : Int32)]) rfl ?_
    refine stL _ ?_
    show own_S p e below TL (mkF m 8 #[vr a, vi (Int32.ofNat N), vi (Int32.ofNat N), vr bb1, vi (Int32.ofNat N)] []) _
    refine XS.iload XL.here hx rfl (hb hby d26_8) rfl ?_
    refine XS.iloadN XL.here hx rfl (hb hby d26_10) rfl ?_
    show own_S p e below TL (mkF m 11 #[vr a, vi (Int32.ofNat N), vi (Int32.ofNat N), vr bb1, vi (Int32.ofNat N)] [xi (Int32.ofNat N), xi (Int32.ofNat N)]) _
    refine XS.icmpYes XL.here hx rfl (pc0 := 11) (pc' := 32) rfl (hb hby d26_11) rfl (by simp [if_icmp.holds]) (by decide) (by decide) ?_
    refine XS.aloadN XL.here hx rfl (hb hby d26_32) rfl rfl ?_
    show own_S p e below TL (mkF m 33 #[vr a, vi (Int32.ofNat N), vi (Int32.ofNat N), vr bb1, vi (Int32.ofNat N)] [xr bb1]) _
    exact XL.areturnOut hx rfl Bd.returns rfl (hb hby d26_33) hr
  · show (own_QT Z h0 n0 N f) _ TL.heap _
    rw [eL]
    exact ⟨bb1, kb1, rfl, NL, KpL, VBL, g_bb1, sz_bb1⟩
theorem own_rt (c : Int32) (h0 : 0 ≤ c.toInt) (h1 : c.toInt < 65536) : (nar .char ((((nar .byte (c.toInt8.toInt32) &&& (255 : Int32)) <<< ((0 : Int32) &&& 31)) ||| ((nar .byte ((c >>> ((8 : Int32) &&& 31)).toInt8.toInt32) &&& (255 : Int32)) <<< ((8 : Int32) &&& 31))).toUInt32.toUInt16.toUInt32.toInt32)) = c := by
  have a1 := c_i2b c
  have a2 := c_i2b (c.toInt8.toInt32)
  have a3 := c_mask (nar .byte (c.toInt8.toInt32)) 255 8 (by decide) (by decide)
  have a4 := c_ishl (nar .byte (c.toInt8.toInt32) &&& (255 : Int32)) 0 0 (by decide)
  have b0 := c_ishr c 8 8 (by decide)
  have b1 := c_i2b (c >>> ((8 : Int32) &&& 31))
  have b2 := c_i2b ((c >>> ((8 : Int32) &&& 31)).toInt8.toInt32)
  have b3 := c_mask (nar .byte ((c >>> ((8 : Int32) &&& 31)).toInt8.toInt32)) 255 8 (by decide) (by decide)
  have b4 := c_ishl (nar .byte ((c >>> ((8 : Int32) &&& 31)).toInt8.toInt32) &&& (255 : Int32)) 8 8 (by decide)
  have n1 : nar .byte (c.toInt8.toInt32) = (c.toInt8.toInt32).toInt8.toInt32 := rfl
  have n2 : nar .byte ((c >>> ((8 : Int32) &&& 31)).toInt8.toInt32) = ((c >>> ((8 : Int32) &&& 31)).toInt8.toInt32).toInt8.toInt32 := rfl
  rw [← n1] at a2
  rw [← n2] at b2
  generalize nar .byte (c.toInt8.toInt32) = L at *
  generalize nar .byte ((c >>> ((8 : Int32) &&& 31)).toInt8.toInt32) = Hh at *
  have r1 := rng32 ((L &&& (255 : Int32)) <<< ((0 : Int32) &&& 31))
  have r2 := rng32 ((Hh &&& (255 : Int32)) <<< ((8 : Int32) &&& 31))
  generalize (L &&& (255 : Int32)) <<< ((0 : Int32) &&& 31) = A at *
  generalize (Hh &&& (255 : Int32)) <<< ((8 : Int32) &&& 31) = Bq at *
  have eA : A.toInt = c.toInt % 256 := by omega
  have eB : Bq.toInt = c.toInt / 256 * 256 := by omega
  have o1 := c_or' A Bq 8 (by decide) 256 (by decide) (by omega) (by omega) (by omega)
  have r3 := rng32 (A ||| Bq)
  have eO : (A ||| Bq).toInt = c.toInt := by omega
  have d1 := c_i2c (A ||| Bq)
  have d2 := c_i2c ((A ||| Bq).toUInt32.toUInt16.toUInt32.toInt32)
  refine Int32.toInt_inj.mp ?_
  show ((A ||| Bq).toUInt32.toUInt16.toUInt32.toInt32).toUInt32.toUInt16.toUInt32.toInt32.toInt = c.toInt
  omega
theorem own_u0 (f : Nat → Int32) (i : Nat) : own_u16 f (2 * i) = nar .byte ((f i).toInt8.toInt32) := by
  simp only [own_u16]; rw [if_pos (by omega), show 2 * i / 2 = i from by omega]
theorem own_u1 (f : Nat → Int32) (i : Nat) : own_u16 f (2 * i + 1) = nar .byte (((f i) >>> ((8 : Int32) &&& 31)).toInt8.toInt32) := by
  simp only [own_u16]; rw [if_neg (by omega), show (2 * i + 1) / 2 = i from by omega]
theorem own_rtu (f : Nat → Int32) (i : Nat) (h0 : 0 ≤ (f i).toInt) (h1 : (f i).toInt < 65536) : (nar .char (((((own_u16 f (2 * i)) &&& (255 : Int32)) <<< ((0 : Int32) &&& 31)) ||| (((own_u16 f ((2 * i) + 1)) &&& (255 : Int32)) <<< ((8 : Int32) &&& 31))).toUInt32.toUInt16.toUInt32.toInt32)) = f i := by
  rw [own_u0, own_u1]; exact own_rt (f i) h0 h1
def own_lat (f : Nat → Int32) (t : Nat) : Int32 := nar .byte ((f t).toInt8.toInt32)
def own_QB (Z : State) (h0 : Heap) (n0 : Nat) (M : Nat) (g : Nat → Int32) (v : Option Value) (h : Heap) (L : List Loc) : Prop := ∃ b kd, v = some (.ref b) ∧ Fr n0 L ∧ Keep h0 h [] ∧ Arv Z h b kd .byte (Int32.ofNat M) (own_vs g M) (.int (0 : Int32)) ∧ n0 ≤ b ∧ h0.size ≤ b
theorem own_gt_of {x : Int32} (h : if_icmp.holds .le x (255 : Int32) = false) : if_icmp.holds .gt x (255 : Int32) = true := by
  by_cases q : (255 : Int32) < x
  · exact (tlt q).2.2.1
  · rw [(flt q).2.2.2] at h; cases h
theorem own_neN {i N : Nat} (h : i < N) (hN : N < 2147483648) : if_icmp.holds .eq (Int32.ofNat i) (Int32.ofNat N) = false := by
  refine (feq (fun e => ?_)).1
  have := congrArg Int32.toInt e
  rw [own_toInt (by omega), own_toInt hN] at this; omega
theorem d7_0 : decode jdk_52_method_16_code 0 = .ok (.iload_n 2, 1) := by decide +kernel
theorem d7_1 : decode jdk_52_method_16_code 1 = .ok (.newarray .byte, 2) := by decide +kernel
theorem d7_3 : decode jdk_52_method_16_code 3 = .ok (.astore_n 3, 1) := by decide +kernel
theorem d7_4 : decode jdk_52_method_16_code 4 = .ok (.aload_n 0, 1) := by decide +kernel
theorem d7_5 : decode jdk_52_method_16_code 5 = .ok (.iload_n 1, 1) := by decide +kernel
theorem d7_6 : decode jdk_52_method_16_code 6 = .ok (.aload_n 3, 1) := by decide +kernel
theorem d7_7 : decode jdk_52_method_16_code 7 = .ok (.iconst 0, 1) := by decide +kernel
theorem d7_8 : decode jdk_52_method_16_code 8 = .ok (.iload_n 2, 1) := by decide +kernel
theorem d7_9 : decode jdk_52_method_16_code 9 = .ok (.invokestatic 115, 3) := by decide +kernel
theorem pd3 : parseMethodDescriptor "([CI[BII)I" = some ⟨[(.array .char), .int, (.array .byte), .int, .int], some .int⟩ := by decide +kernel
theorem d7_12 : decode jdk_52_method_16_code 12 = .ok (.istore 4, 2) := by decide +kernel
theorem d7_14 : decode jdk_52_method_16_code 14 = .ok (.iload 4, 2) := by decide +kernel
theorem d7_16 : decode jdk_52_method_16_code 16 = .ok (.iload_n 2, 1) := by decide +kernel
theorem d7_17 : decode jdk_52_method_16_code 17 = .ok (.if_icmp .eq 40, 3) := by decide +kernel
theorem d7_57 : decode jdk_52_method_16_code 57 = .ok (.aload_n 3, 1) := by decide +kernel
theorem d7_58 : decode jdk_52_method_16_code 58 = .ok (.areturn, 1) := by decide +kernel
abbrev Y6 : MethodName := (⟨"java/lang/StringUTF16", "compress", "([CII)[B"⟩ : MethodName)
theorem ef_own_c2_all (m : MethodId)  (ki0 : Int32) (vf0 : Value) (a : Addr) (ks : ClassId) (N : Nat) (f : Nat → Int32) : entryFrame m #[xr a, xi (0 : Int32), xi (Int32.ofNat N)] 6 = (mkF m 0 #[vr a, vi (0 : Int32), vi (Int32.ofNat N), vu, vu, vu] []) := by first | (simp [entryFrame, mkF, argsToLocals, Value.category]; done) | rfl
set_option maxRecDepth 65536 in
set_option maxHeartbeats 40000000 in
theorem own_c2_all (l : Launch) (Z : State) (a0 : Array Value) (hw : ∀ d ∈ tables_1, d.before a0 Z = true) (hj : ∀ d ∈ jdkStatics_1, d.before a0 Z = true)  (ki0 : Int32) (vf0 : Value) (G : own_St Z hj ki0 vf0) (a : Addr) (ks : ClassId) (N : Nat) (f : Nat → Int32) (h0 : Heap) (n0 : Nat) (O0 : Old Z n0 h0) (hn : N ≤ 45) (VA : Arv Z h0 a ks .char (Int32.ofNat N) (own_vs f N) (.int (0 : Int32))) (hall : ∀ j, j < N → if_icmp.holds .le (f j) (255 : Int32) = true) : own_Met l Z Y6 jdk_52_method_16_code 6 (some (.array .byte)) ({ frames := 3, cells := 2, slots := 135, locals := 60 } : Room) #[xr a, xi (0 : Int32), xi (Int32.ofNat N)] h0 (own_QB Z h0 n0 N (own_lat f)) := by
  intro ws
  refine MetFree.of_bodySF (plainFor_of_name pn0) hisR ?_
  intro p e s m args below meth c s₁ Bd hml0 hP hK
  obtain ⟨rfl, hZ, hh⟩ := hP
  have hx := Bd.exec
  have hby := Bd.bytes
  have hml : c.maxLocals = 6 := hml0
  have hown : s.vm.findClass "java/lang/StringUTF16" = some m.cls := findClass_of_methodNamed Bd.named
  have hnm := (name_of_methodNamed Bd.named Bd.method).1
  have X0 : Stand p l e ({ frames := 3, cells := 2, slots := 135, locals := 60 } : Room) s m #[xr a, xi (0 : Int32), xi (Int32.ofNat N)] below meth c s₁ [] 0 0 := Stand.of_body Bd
  have e0 : s₁.heap = h0 := by rw [← hh, Bd.state]; rfl
  have N0 := Fr.nil n0
  have pre0 : ∀ t, Steps p.tables e below (s₁.setTop (mkF m 0 #[vr a, vi (0 : Int32), vi (Int32.ofNat N), vu, vu, vu] [])) t → Steps p.tables e below (s₁.setTop (entryFrame m #[xr a, xi (0 : Int32), xi (Int32.ofNat N)] 6)) t := fun t st => castTop (ef_own_c2_all m ki0 vf0 a ks N f) st
  obtain ⟨T1, h1, k1, X1, e1, E1, A1, st1⟩ := newP X0 hx hZ (ww hw 31 rfl) e0 (g := (mkF m 1 #[vr a, vi (0 : Int32), vi (Int32.ofNat N), vu, vu, vu] [xi (Int32.ofNat N)])) rfl (hb hby d7_1) rfl (own_nneg (show N < 2147483648 by omega)) (cap := 45) (by first | decide | (rw [own_nat (show N < 2147483648 by omega)]; exact hn)) (by decide) (by decide) (by decide)
  obtain ⟨b1, g1⟩ : ∃ z, z = h0.size := ⟨_, rfl⟩
  rw [← g1] at A1 st1
  have g_b1 : n0 ≤ b1 := own_fresh O0 g1
  have ne_a_b1 : a ≠ b1 := Nat.ne_of_lt (Nat.lt_of_lt_of_le (VA).lt (Nat.le_of_eq g1.symm))
  have sz_b1 : h0.size ≤ b1 := Nat.le_trans (Keep.refl h0 []).1 (Nat.le_of_eq g1.symm)
  have O1 := O0.ext E1
  have Kp1 : Keep h0 h1 [] := (Keep.refl h0 []).ext E1
  have V_a_1 := VA.ext E1
  have V_b1 : Arv Z h1 b1 k1 .byte (Int32.ofNat N) (own_vs (fun _ => (0 : Int32)) N) (.int (0 : Int32)) := (Arv.new A1 (own_nneg (show N < 2147483648 by omega))).pad (own_pad0 N)
  obtain ⟨_, _, ⟨T2, L2, k2, n2⟩, -, X2, ⟨Lc2, hQ2, l2, y2, z2⟩, st2⟩ := Jvm.LawKit.callS X1 hx (y := Y0) hown (mvT hZ (ww hw 32 rfl)) (mvT hZ (ww hw 33 rfl)) (mvT hZ (ww hw 29 rfl)) (mvT hZ (ww hw 34 rfl)) (by decide) (backOf (W := 0) (own_cmp_all l Z a0 hw hj ki0 vf0 G a b1 ks k1 N f h1 n0 O1 (by omega) V_a_1 V_b1 ne_a_b1 g_b1 hall []) hZ (ww hw 34 rfl) (ww hw 29 rfl) (by decide) (by decide)) (g := (mkF m 9 #[vr a, vi (0 : Int32), vi (Int32.ofNat N), vr b1, vu, vu] [xi (Int32.ofNat N), xi (0 : Int32), xr b1, xi (0 : Int32), xr a])) rfl (by rw [hml]; rfl) (argsL := [xr a, xi (0 : Int32), xr b1, xi (0 : Int32), xi (Int32.ofNat N)]) (rest := []) (lenOf pd3 rfl) rfl (by show 2 * 0 + _ ≤ _; exact Nat.le_of_eq rfl) (hb hby d7_9) (fun _ _ => ⟨rfl, e1, (by decide : 1 + 0 ≤ _), (by decide : 45 + 0 ≤ _)⟩)
  dsimp only [Pt.U, Pt.locs, Pt.cells, Pt.slots] at X2 l2 y2 z2 st2 hQ2
  subst l2 y2 z2
  obtain ⟨h2, e2⟩ : ∃ z, T2.heap = z := ⟨_, rfl⟩
  rw [e2] at hQ2
  obtain ⟨rfl, Nq2, K2, Vc2⟩ := hQ2
  have N2 := Fr.app N0 Nq2
  have O2 : Old Z n0 h2 := O1.keep K2 (allS g_b1 all0)
  have Kp2 : Keep h0 h2 [] := Kp1.trans K2 (allS (Or.inr sz_b1) all0)
  have V_a_2 := V_a_1.keep K2 (ninS ne_a_b1 nin0)
  obtain ⟨fs, hr, hrun, hended, hW, hsame⟩ := X2.leave (v := some (xr b1)) (fun h => by rw [Bd.returns] at h; cases h)
  refine ⟨_, _, pre0 _ ?_, hrun, hended, _, _, rfl, ?_, ⟨_, rfl⟩, hW, hsame.mono (by decide) (by decide)⟩
  · show own_S p e below s₁ (mkF m 0 #[vr a, vi (0 : Int32), vi (Int32.ofNat N), vu, vu, vu] []) _
    refine XS.iloadN X0.here hx rfl (hb hby d7_0) rfl ?_
    show own_S p e below s₁ (mkF m 1 #[vr a, vi (0 : Int32), vi (Int32.ofNat N), vu, vu, vu] [xi (Int32.ofNat N)]) _
    refine st1 _ ?_
    refine XS.astoreN X1.here hx rfl (hb hby d7_3) rfl rfl (l' := #[vr a, vi (0 : Int32), vi (Int32.ofNat N), vr b1, vu, vu]) rfl ?_
    refine XS.aloadN X1.here hx rfl (hb hby d7_4) rfl rfl ?_
    refine XS.iloadN X1.here hx rfl (hb hby d7_5) rfl ?_
    show own_S p e below T1 (mkF m 6 #[vr a, vi (0 : Int32), vi (Int32.ofNat N), vr b1, vu, vu] [xi (0 : Int32), xr a]) _
    refine XS.aloadN X1.here hx rfl (hb hby d7_6) rfl rfl ?_
    refine XS.iconst X1.here hx rfl (hb hby d7_7) ?_
    refine XS.iloadN X1.here hx rfl (hb hby d7_8) rfl ?_
    show own_S p e below T1 (mkF m 9 #[vr a, vi (0 : Int32), vi (Int32.ofNat N), vr b1, vu, vu] [xi (Int32.ofNat N), xi (0 : Int32), xr b1, xi (0 : Int32), xr a]) _
    refine st2 _ ?_
    refine XS.istore X2.here hx rfl (hb hby d7_12) rfl (l' := #[vr a, vi (0 : Int32), vi (Int32.ofNat N), vr b1, vi (Int32.ofNat N), vu]) rfl ?_
    refine XS.iload X2.here hx rfl (hb hby d7_14) rfl ?_
    refine XS.iloadN X2.here hx rfl (hb hby d7_16) rfl ?_
    show own_S p e below T2 (mkF m 17 #[vr a, vi (0 : Int32), vi (Int32.ofNat N), vr b1, vi (Int32.ofNat N), vu] [xi (Int32.ofNat N), xi (Int32.ofNat N)]) _
    refine XS.icmpYes X2.here hx rfl (pc0 := 17) (pc' := 57) rfl (hb hby d7_17) rfl (by simp [if_icmp.holds]) (by decide) (by decide) ?_
    refine XS.aloadN X2.here hx rfl (hb hby d7_57) rfl rfl ?_
    show own_S p e below T2 (mkF m 58 #[vr a, vi (0 : Int32), vi (Int32.ofNat N), vr b1, vi (Int32.ofNat N), vu] [xr b1]) _
    exact X2.areturnOut hx rfl Bd.returns rfl (hb hby d7_58) hr
  · show (own_QB Z h0 n0 N (own_lat f)) _ T2.heap _
    rw [e2]
    exact ⟨b1, k1, rfl, N2, Kp2, by rw [own_vs_congr (g := (fun j => if 0 ≤ j ∧ j < 0 + N then nar .byte ((f j).toInt8.toInt32) else 0)) (fun j hj => by simp only [own_lat]; rw [if_pos (by omega)])]; exact Vc2, g_b1, sz_b1⟩
theorem d7_20 : decode jdk_52_method_16_code 20 = .ok (.aload_n 0, 1) := by decide +kernel
theorem d7_21 : decode jdk_52_method_16_code 21 = .ok (.iload_n 1, 1) := by decide +kernel
theorem d7_22 : decode jdk_52_method_16_code 22 = .ok (.iload_n 2, 1) := by decide +kernel
theorem d7_23 : decode jdk_52_method_16_code 23 = .ok (.invokestatic 119, 3) := by decide +kernel
theorem pd4 : parseMethodDescriptor "([CII)[B" = some ⟨[(.array .char), .int, .int], some (.array .byte)⟩ := by decide +kernel
theorem d7_26 : decode jdk_52_method_16_code 26 = .ok (.astore 5, 2) := by decide +kernel
theorem d7_28 : decode jdk_52_method_16_code 28 = .ok (.aload 5, 2) := by decide +kernel
theorem d7_30 : decode jdk_52_method_16_code 30 = .ok (.iload 4, 2) := by decide +kernel
theorem d7_32 : decode jdk_52_method_16_code 32 = .ok (.invokestatic 71, 3) := by decide +kernel
theorem pd5 : parseMethodDescriptor "([BI)C" = some ⟨[(.array .byte), .int], some .char⟩ := by decide +kernel
theorem d7_35 : decode jdk_52_method_16_code 35 = .ok (.sipush 255, 3) := by decide +kernel
theorem d7_38 : decode jdk_52_method_16_code 38 = .ok (.if_icmp .gt 16, 3) := by decide +kernel
theorem d7_54 : decode jdk_52_method_16_code 54 = .ok (.aload 5, 2) := by decide +kernel
theorem d7_56 : decode jdk_52_method_16_code 56 = .ok (.areturn, 1) := by decide +kernel
theorem ef_own_c2_some (m : MethodId)  (ki0 : Int32) (vf0 : Value) (a : Addr) (ks : ClassId) (N : Nat) (f : Nat → Int32) (mm : Nat) : entryFrame m #[xr a, xi (0 : Int32), xi (Int32.ofNat N)] 6 = (mkF m 0 #[vr a, vi (0 : Int32), vi (Int32.ofNat N), vu, vu, vu] []) := by first | (simp [entryFrame, mkF, argsToLocals, Value.category]; done) | rfl
set_option maxRecDepth 65536 in
set_option maxHeartbeats 40000000 in
theorem own_c2_some (l : Launch) (Z : State) (a0 : Array Value) (hw : ∀ d ∈ tables_1, d.before a0 Z = true) (hj : ∀ d ∈ jdkStatics_1, d.before a0 Z = true)  (ki0 : Int32) (vf0 : Value) (G : own_St Z hj ki0 vf0) (a : Addr) (ks : ClassId) (N : Nat) (f : Nat → Int32) (mm : Nat) (h0 : Heap) (n0 : Nat) (O0 : Old Z n0 h0) (hn : N ≤ 45) (VA : Arv Z h0 a ks .char (Int32.ofNat N) (own_vs f N) (.int (0 : Int32))) (hall : ∀ j, j < mm → if_icmp.holds .le (f j) (255 : Int32) = true) (hch : ∀ j, j < N → 0 ≤ (f j).toInt ∧ (f j).toInt < 65536) (hlt : mm < N) (hgt : if_icmp.holds .le (f mm) (255 : Int32) = false) : own_Met l Z Y6 jdk_52_method_16_code 6 (some (.array .byte)) ({ frames := 3, cells := 2, slots := 135, locals := 60 } : Room) #[xr a, xi (0 : Int32), xi (Int32.ofNat N)] h0 (own_QB Z h0 n0 (2 * N) (own_u16 f)) := by
  intro ws
  refine MetFree.of_bodySF (plainFor_of_name pn0) hisR ?_
  intro p e s m args below meth c s₁ Bd hml0 hP hK
  obtain ⟨rfl, hZ, hh⟩ := hP
  have hx := Bd.exec
  have hby := Bd.bytes
  have hml : c.maxLocals = 6 := hml0
  have hown : s.vm.findClass "java/lang/StringUTF16" = some m.cls := findClass_of_methodNamed Bd.named
  have hnm := (name_of_methodNamed Bd.named Bd.method).1
  have X0 : Stand p l e ({ frames := 3, cells := 2, slots := 135, locals := 60 } : Room) s m #[xr a, xi (0 : Int32), xi (Int32.ofNat N)] below meth c s₁ [] 0 0 := Stand.of_body Bd
  have e0 : s₁.heap = h0 := by rw [← hh, Bd.state]; rfl
  have N0 := Fr.nil n0
  have pre0 : ∀ t, Steps p.tables e below (s₁.setTop (mkF m 0 #[vr a, vi (0 : Int32), vi (Int32.ofNat N), vu, vu, vu] [])) t → Steps p.tables e below (s₁.setTop (entryFrame m #[xr a, xi (0 : Int32), xi (Int32.ofNat N)] 6)) t := fun t st => castTop (ef_own_c2_some m ki0 vf0 a ks N f mm) st
  obtain ⟨T1, h1, k1, X1, e1, E1, A1, st1⟩ := newP X0 hx hZ (ww hw 31 rfl) e0 (g := (mkF m 1 #[vr a, vi (0 : Int32), vi (Int32.ofNat N), vu, vu, vu] [xi (Int32.ofNat N)])) rfl (hb hby d7_1) rfl (own_nneg (show N < 2147483648 by omega)) (cap := 45) (by first | decide | (rw [own_nat (show N < 2147483648 by omega)]; exact hn)) (by decide) (by decide) (by decide)
  obtain ⟨b1, g1⟩ : ∃ z, z = h0.size := ⟨_, rfl⟩
  rw [← g1] at A1 st1
  have g_b1 : n0 ≤ b1 := own_fresh O0 g1
  have ne_a_b1 : a ≠ b1 := Nat.ne_of_lt (Nat.lt_of_lt_of_le (VA).lt (Nat.le_of_eq g1.symm))
  have sz_b1 : h0.size ≤ b1 := Nat.le_trans (Keep.refl h0 []).1 (Nat.le_of_eq g1.symm)
  have O1 := O0.ext E1
  have Kp1 : Keep h0 h1 [] := (Keep.refl h0 []).ext E1
  have V_a_1 := VA.ext E1
  have V_b1 : Arv Z h1 b1 k1 .byte (Int32.ofNat N) (own_vs (fun _ => (0 : Int32)) N) (.int (0 : Int32)) := (Arv.new A1 (own_nneg (show N < 2147483648 by omega))).pad (own_pad0 N)
  obtain ⟨_, _, ⟨T2, L2, k2, n2⟩, -, X2, ⟨Lc2, hQ2, l2, y2, z2⟩, st2⟩ := Jvm.LawKit.callS X1 hx (y := Y0) hown (mvT hZ (ww hw 32 rfl)) (mvT hZ (ww hw 33 rfl)) (mvT hZ (ww hw 29 rfl)) (mvT hZ (ww hw 34 rfl)) (by decide) (backOf (W := 0) (own_cmp_some l Z a0 hw hj ki0 vf0 G a b1 ks k1 N f mm h1 n0 O1 (by omega) V_a_1 V_b1 ne_a_b1 g_b1 hall hlt hgt []) hZ (ww hw 34 rfl) (ww hw 29 rfl) (by decide) (by decide)) (g := (mkF m 9 #[vr a, vi (0 : Int32), vi (Int32.ofNat N), vr b1, vu, vu] [xi (Int32.ofNat N), xi (0 : Int32), xr b1, xi (0 : Int32), xr a])) rfl (by rw [hml]; rfl) (argsL := [xr a, xi (0 : Int32), xr b1, xi (0 : Int32), xi (Int32.ofNat N)]) (rest := []) (lenOf pd3 rfl) rfl (by show 2 * 0 + _ ≤ _; exact Nat.le_of_eq rfl) (hb hby d7_9) (fun _ _ => ⟨rfl, e1, (by decide : 1 + 0 ≤ _), (by decide : 45 + 0 ≤ _)⟩)
  dsimp only [Pt.U, Pt.locs, Pt.cells, Pt.slots] at X2 l2 y2 z2 st2 hQ2
  subst l2 y2 z2
  obtain ⟨h2, e2⟩ : ∃ z, T2.heap = z := ⟨_, rfl⟩
  rw [e2] at hQ2
  obtain ⟨rfl, Nq2, K2, Vc2⟩ := hQ2
  have N2 := Fr.app N0 Nq2
  have O2 : Old Z n0 h2 := O1.keep K2 (allS g_b1 all0)
  have Kp2 : Keep h0 h2 [] := Kp1.trans K2 (allS (Or.inr sz_b1) all0)
  have V_a_2 := V_a_1.keep K2 (ninS ne_a_b1 nin0)
  obtain ⟨_, _, ⟨T3, L3, k3, n3⟩, -, X3, ⟨Lc3, hQ3, l3, y3, z3⟩, st3⟩ := Jvm.LawKit.callS X2 hx (y := Y5) hown (mvT hZ (ww hw 111 rfl)) (mvT hZ (ww hw 112 rfl)) (mvT hZ (ww hw 29 rfl)) (mvT hZ (ww hw 113 rfl)) (by decide) (backOf (W := 0) (own_toBytes l Z a0 hw hj ki0 vf0 G a ks N f h2 n0 O2 hn V_a_2 []) hZ (ww hw 113 rfl) (ww hw 29 rfl) (by decide) (by decide)) (g := (mkF m 23 #[vr a, vi (0 : Int32), vi (Int32.ofNat N), vr b1, vi (Int32.ofNat mm), vu] [xi (Int32.ofNat N), xi (0 : Int32), xr a])) rfl (by rw [hml]; rfl) (argsL := [xr a, xi (0 : Int32), xi (Int32.ofNat N)]) (rest := []) (lenOf pd4 rfl) rfl (by show 2 * 0 + _ ≤ _; exact Nat.le_of_eq rfl) (hb hby d7_23) (fun _ _ => ⟨rfl, e2, (by decide : 1 + 1 ≤ _), (by decide : 45 + 90 ≤ _)⟩)
  dsimp only [Pt.U, Pt.locs, Pt.cells, Pt.slots] at X3 l3 y3 z3 st3 hQ3
  subst l3 y3 z3
  obtain ⟨h3, e3⟩ : ∃ z, T3.heap = z := ⟨_, rfl⟩
  rw [e3] at hQ3
  obtain ⟨bu3, ku3, rfl, Nq3, K3, Vu3, g_bu3, sz0_bu3⟩ := hQ3
  have N3 := Fr.app N2 Nq3
  have ne_a_bu3 : a ≠ bu3 := Nat.ne_of_lt (Nat.lt_of_lt_of_le (V_a_2).lt sz0_bu3)
  have ne_b1_bu3 : b1 ≠ bu3 := Nat.ne_of_lt (Nat.lt_of_lt_of_le (Vc2).lt sz0_bu3)
  have sz_bu3 : h0.size ≤ bu3 := Nat.le_trans Kp2.1 sz0_bu3
  have O3 : Old Z n0 h3 := O2.keep K3 all0
  have Kp3 : Keep h0 h3 [] := Kp2.trans K3 all0
  have V_a_3 := V_a_2.keep K3 nin0
  have V_b1_3 := Vc2.keep K3 nin0
  obtain ⟨_, _, ⟨T4, L4, k4, n4⟩, -, X4, ⟨Lc4, hQ4, l4, y4, z4⟩, st4⟩ := Jvm.LawKit.callS X3 hx (y := Y4) hown (mvT hZ (ww hw 127 rfl)) (mvT hZ (ww hw 128 rfl)) (mvT hZ (ww hw 29 rfl)) (mvT hZ (ww hw 129 rfl)) (by decide) (backOf (W := 0) (own_getChar l Z a0 hw hj ki0 vf0 G bu3 ku3 mm (2 * N) (own_u16 f) (f mm) (own_rtu f mm (hch mm hlt).1 (hch mm hlt).2) h3 n0 O3 (by omega) Vu3 (by omega) []) hZ (ww hw 129 rfl) (ww hw 29 rfl) (by decide) (by decide)) (g := (mkF m 32 #[vr a, vi (0 : Int32), vi (Int32.ofNat N), vr b1, vi (Int32.ofNat mm), vr bu3] [xi (Int32.ofNat mm), xr bu3])) rfl (by rw [hml]; rfl) (argsL := [xr bu3, xi (Int32.ofNat mm)]) (rest := []) (lenOf pd5 rfl) rfl (by show 2 * 0 + _ ≤ _; exact Nat.le_of_eq rfl) (hb hby d7_32) (fun _ _ => ⟨rfl, e3, (by decide : 2 + 0 ≤ _), (by decide : 135 + 0 ≤ _)⟩)
  dsimp only [Pt.U, Pt.locs, Pt.cells, Pt.slots] at X4 l4 y4 z4 st4 hQ4
  subst l4 y4 z4
  obtain ⟨rfl, Nq4, e4⟩ := hQ4
  have N4 := Fr.app N3 Nq4
  obtain ⟨fs, hr, hrun, hended, hW, hsame⟩ := X4.leave (v := some (xr bu3)) (fun h => by rw [Bd.returns] at h; cases h)
  refine ⟨_, _, pre0 _ ?_, hrun, hended, _, _, rfl, ?_, ⟨_, rfl⟩, hW, hsame.mono (by decide) (by decide)⟩
  · show own_S p e below s₁ (mkF m 0 #[vr a, vi (0 : Int32), vi (Int32.ofNat N), vu, vu, vu] []) _
    refine XS.iloadN X0.here hx rfl (hb hby d7_0) rfl ?_
    show own_S p e below s₁ (mkF m 1 #[vr a, vi (0 : Int32), vi (Int32.ofNat N), vu, vu, vu] [xi (Int32.ofNat N)]) _
    refine st1 _ ?_
    refine XS.astoreN X1.here hx rfl (hb hby d7_3) rfl rfl (l' := #[vr a, vi (0 : Int32), vi (Int32.ofNat N), vr b1, vu, vu]) rfl ?_
    refine XS.aloadN X1.here hx rfl (hb hby d7_4) rfl rfl ?_
    refine XS.iloadN X1.here hx rfl (hb hby d7_5) rfl ?_
    show own_S p e below T1 (mkF m 6 #[vr a, vi (0 : Int32), vi (Int32.ofNat N), vr b1, vu, vu] [xi (0 : Int32), xr a]) _
    refine XS.aloadN X1.here hx rfl (hb hby d7_6) rfl rfl ?_
    refine XS.iconst X1.here hx rfl (hb hby d7_7) ?_
    refine XS.iloadN X1.here hx rfl (hb hby d7_8) rfl ?_
    show own_S p e below T1 (mkF m 9 #[vr a, vi (0 : Int32), vi (Int32.ofNat N), vr b1, vu, vu] [xi (Int32.ofNat N), xi (0 : Int32), xr b1, xi (0 : Int32), xr a]) _
    refine st2 _ ?_
    refine XS.istore X2.here hx rfl (hb hby d7_12) rfl (l' := #[vr a, vi (0 : Int32), vi (Int32.ofNat N), vr b1, vi (Int32.ofNat mm), vu]) rfl ?_
    refine XS.iload X2.here hx rfl (hb hby d7_14) rfl ?_
    refine XS.iloadN X2.here hx rfl (hb hby d7_16) rfl ?_
    show own_S p e below T2 (mkF m 17 #[vr a, vi (0 : Int32), vi (Int32.ofNat N), vr b1, vi (Int32.ofNat mm), vu] [xi (Int32.ofNat N), xi (Int32.ofNat mm)]) _
    refine XS.icmpNo X2.here hx rfl (hb hby d7_17) rfl (own_neN hlt (by omega)) ?_
    refine XS.aloadN X2.here hx rfl (hb hby d7_20) rfl rfl ?_
    refine XS.iloadN X2.here hx rfl (hb hby d7_21) rfl ?_
    refine XS.iloadN X2.here hx rfl (hb hby d7_22) rfl ?_
    show own_S p e below T2 (mkF m 23 #[vr a, vi (0 : Int32), vi (Int32.ofNat N), vr b1, vi (Int32.ofNat mm), vu] [xi (Int32.ofNat N), xi (0 : Int32), xr a]) _
    refine st3 _ ?_
    refine XS.astore X3.here hx rfl (hb hby d7_26) rfl rfl (l' := #[vr a, vi (0 : Int32), vi (Int32.ofNat N), vr b1, vi (Int32.ofNat mm), vr bu3]) rfl ?_
    refine XS.aload X3.here hx rfl (hb hby d7_28) rfl rfl ?_
    refine XS.iload X3.here hx rfl (hb hby d7_30) rfl ?_
    show own_S p e below T3 (mkF m 32 #[vr a, vi (0 : Int32), vi (Int32.ofNat N), vr b1, vi (Int32.ofNat mm), vr bu3] [xi (Int32.ofNat mm), xr bu3]) _
    refine st4 _ ?_
    refine XS.sipush X4.here hx rfl (hb hby d7_35) ?_
    show own_S p e below T4 (mkF m 38 #[vr a, vi (0 : Int32), vi (Int32.ofNat N), vr b1, vi (Int32.ofNat mm), vr bu3] [xi (255 : Int32), xi (f mm)]) _
    refine XS.icmpYes X4.here hx rfl (pc0 := 38) (pc' := 54) rfl (hb hby d7_38) rfl (own_gt_of hgt) (by decide) (by decide) ?_
    refine XS.aload X4.here hx rfl (hb hby d7_54) rfl rfl ?_
    show own_S p e below T4 (mkF m 56 #[vr a, vi (0 : Int32), vi (Int32.ofNat N), vr b1, vi (Int32.ofNat mm), vr bu3] [xr bu3]) _
    exact X4.areturnOut hx rfl Bd.returns rfl (hb hby d7_56) hr
  · show (own_QB Z h0 n0 (2 * N) (own_u16 f)) _ T4.heap _
    rw [e4]
    exact ⟨bu3, ku3, rfl, N4, Kp3, Vu3, g_bu3, sz_bu3⟩
theorem own_cod {N : Nat} (h1 : 0 < N) (h2 : N ≤ 45) : ((((Int32.ofNat N) - (Int32.ofNat (2 * N))).toUInt32 >>> ((31 : Int32) &&& 31).toUInt32).toInt32) = (1 : Int32) := by
  refine Int32.toInt_inj.mp ?_
  rw [c_iushr _ _ 31 (by decide) (by decide)]
  have a1 := c_isub (Int32.ofNat N) (Int32.ofNat (2 * N))
  have a2 := rng32 ((Int32.ofNat N) - (Int32.ofNat (2 * N)))
  rw [own_toInt (by omega), own_toInt (by omega)] at a1
  have : ((1 : Int32)).toInt = 1 := by decide
  omega
theorem d9_0 : decode jdk_52_method_15_code 0 = .ok (.iload_n 1, 1) := by decide +kernel
theorem d9_1 : decode jdk_52_method_15_code 1 = .ok (.aload_n 0, 1) := by decide +kernel
theorem d9_2 : decode jdk_52_method_15_code 2 = .ok (.arraylength, 1) := by decide +kernel
theorem d9_3 : decode jdk_52_method_15_code 3 = .ok (.isub, 1) := by decide +kernel
theorem d9_4 : decode jdk_52_method_15_code 4 = .ok (.bipush 31, 2) := by decide +kernel
theorem d9_6 : decode jdk_52_method_15_code 6 = .ok (.iushr, 1) := by decide +kernel
theorem d9_7 : decode jdk_52_method_15_code 7 = .ok (.i2b, 1) := by decide +kernel
theorem d9_8 : decode jdk_52_method_15_code 8 = .ok (.ireturn, 1) := by decide +kernel
abbrev Y7 : MethodName := (⟨"java/lang/StringUTF16", "coderFromArrayLen", "([BI)B"⟩ : MethodName)
theorem ef_own_cf0_ (m : MethodId)  (ki0 : Int32) (vf0 : Value) (b : Addr) (kd : ClassId) (N : Nat) (g : Nat → Int32) : entryFrame m #[xr b, xi (Int32.ofNat N)] 2 = (mkF m 0 #[vr b, vi (Int32.ofNat N)] []) := by first | (simp [entryFrame, mkF, argsToLocals, Value.category]; done) | rfl
set_option maxRecDepth 65536 in
set_option maxHeartbeats 40000000 in
theorem own_cf0_ (l : Launch) (Z : State) (a0 : Array Value) (hw : ∀ d ∈ tables_1, d.before a0 Z = true) (hj : ∀ d ∈ jdkStatics_1, d.before a0 Z = true)  (ki0 : Int32) (vf0 : Value) (G : own_St Z hj ki0 vf0) (b : Addr) (kd : ClassId) (N : Nat) (g : Nat → Int32) (h0 : Heap) (n0 : Nat) (O0 : Old Z n0 h0) (hp : 0 < N) (hn : N ≤ 45) (VB : Arv Z h0 b kd .byte (Int32.ofNat N) (own_vs g N) (.int (0 : Int32))) : own_Met l Z Y7 jdk_52_method_15_code 2 (some .byte) ({ frames := 0, cells := 0, slots := 0, locals := 0 } : Room) #[xr b, xi (Int32.ofNat N)] h0 (own_QR (some (xi (nar .byte (0 : Int32)))) h0 n0) := by
  intro ws
  refine MetFree.of_bodySF (plainFor_of_name pn0) hisR ?_
  intro p e s m args below meth c s₁ Bd hml0 hP hK
  obtain ⟨rfl, hZ, hh⟩ := hP
  have hx := Bd.exec
  have hby := Bd.bytes
  have hml : c.maxLocals = 2 := hml0
  have hown : s.vm.findClass "java/lang/StringUTF16" = some m.cls := findClass_of_methodNamed Bd.named
  have hnm := (name_of_methodNamed Bd.named Bd.method).1
  have X0 : Stand p l e ({ frames := 0, cells := 0, slots := 0, locals := 0 } : Room) s m #[xr b, xi (Int32.ofNat N)] below meth c s₁ [] 0 0 := Stand.of_body Bd
  have e0 : s₁.heap = h0 := by rw [← hh, Bd.state]; rfl
  have N0 := Fr.nil n0
  have pre0 : ∀ t, Steps p.tables e below (s₁.setTop (mkF m 0 #[vr b, vi (Int32.ofNat N)] [])) t → Steps p.tables e below (s₁.setTop (entryFrame m #[xr b, xi (Int32.ofNat N)] 2)) t := fun t st => castTop (ef_own_cf0_ m ki0 vf0 b kd N g) st
  obtain ⟨cl1, Ar1, q1, S1, N1_, H1, G1⟩ := id VB
  obtain ⟨fs, hr, hrun, hended, hW, hsame⟩ := X0.leave (v := some (xi (nar .byte (0 : Int32)))) (fun h => by rw [Bd.returns] at h; cases h)
  refine ⟨_, _, pre0 _ ?_, hrun, hended, _, _, rfl, ?_, ⟨_, rfl⟩, hW, hsame.mono (by decide) (by decide)⟩
  · show own_S p e below s₁ (mkF m 0 #[vr b, vi (Int32.ofNat N)] []) _
    refine XS.iloadN X0.here hx rfl (hb hby d9_0) rfl ?_
    refine XS.aloadN X0.here hx rfl (hb hby d9_1) rfl rfl ?_
    show own_S p e below s₁ (mkF m 2 #[vr b, vi (Int32.ofNat N)] [xr b, xi (Int32.ofNat N)]) _
    refine X0.arraylength hx (by rw [e0]; exact Ar1.1) (State.isArrayOf_alike hZ.alike Ar1.2.1) (g := (mkF m 2 #[vr b, vi (Int32.ofNat N)] [xr b, xi (Int32.ofNat N)])) rfl rfl (hb hby d9_2) _ ?_
    refine castTop (show (mkF m 3 #[vr b, vi (Int32.ofNat N)] [xi cl1.slots.size.toInt32, xi (Int32.ofNat N)]) = (mkF m 3 #[vr b, vi (Int32.ofNat N)] [xi (Int32.ofNat N), xi (Int32.ofNat N)]) from by rw [len_of S1 N1_]) ?_
    show own_S p e below s₁ (mkF m 3 #[vr b, vi (Int32.ofNat N)] [xi (Int32.ofNat N), xi (Int32.ofNat N)]) _
    refine XS.isub X0.here hx rfl (hb hby d9_3) rfl ?_
    show own_S p e below s₁ (mkF m 4 #[vr b, vi (Int32.ofNat N)] [xi ((Int32.ofNat N) - (Int32.ofNat N))]) _
    refine castTop (show (mkF m 4 #[vr b, vi (Int32.ofNat N)] [xi ((Int32.ofNat N) - (Int32.ofNat N))]) = (mkF m 4 #[vr b, vi (Int32.ofNat N)] [xi (0 : Int32)]) from by rw [Int32.sub_self]) ?_
    refine XS.bipush X0.here hx rfl (hb hby d9_4) ?_
    show own_S p e below s₁ (mkF m 6 #[vr b, vi (Int32.ofNat N)] [xi (31 : Int32), xi (0 : Int32)]) _
    refine XS.iushr X0.here hx rfl (hb hby d9_6) rfl ?_
    show own_S p e below s₁ (mkF m 7 #[vr b, vi (Int32.ofNat N)] [xi (((0 : Int32).toUInt32 >>> ((31 : Int32) &&& 31).toUInt32).toInt32)]) _
    refine castTop (show (mkF m 7 #[vr b, vi (Int32.ofNat N)] [xi (((0 : Int32).toUInt32 >>> ((31 : Int32) &&& 31).toUInt32).toInt32)]) = (mkF m 7 #[vr b, vi (Int32.ofNat N)] [xi (0 : Int32)]) from by rw [(by decide : (((0 : Int32).toUInt32 >>> ((31 : Int32) &&& 31).toUInt32).toInt32) = (0 : Int32))]) ?_
    show own_S p e below s₁ (mkF m 7 #[vr b, vi (Int32.ofNat N)] [xi (0 : Int32)]) _
    refine XS.i2b X0.here hx rfl (hb hby d9_7) rfl ?_
    show own_S p e below s₁ (mkF m 8 #[vr b, vi (Int32.ofNat N)] [xi ((0 : Int32).toInt8.toInt32)]) _
    refine castTop (show (mkF m 8 #[vr b, vi (Int32.ofNat N)] [xi ((0 : Int32).toInt8.toInt32)]) = (mkF m 8 #[vr b, vi (Int32.ofNat N)] [xi (0 : Int32)]) from by rw [(by decide : ((0 : Int32).toInt8.toInt32) = (0 : Int32))]) ?_
    show own_S p e below s₁ (mkF m 8 #[vr b, vi (Int32.ofNat N)] [xi (0 : Int32)]) _
    exact retN X0 hx (t := .byte) Bd.returns (by simp) (hb hby d9_8) hr
  · exact ⟨rfl, N0, e0⟩
theorem own_cf0 (l : Launch) (Z : State) (a0 : Array Value) (hw : ∀ d ∈ tables_1, d.before a0 Z = true) (hj : ∀ d ∈ jdkStatics_1, d.before a0 Z = true)  (ki0 : Int32) (vf0 : Value) (G : own_St Z hj ki0 vf0) (b : Addr) (kd : ClassId) (N : Nat) (g : Nat → Int32) (h0 : Heap) (n0 : Nat) (O0 : Old Z n0 h0) (hp : 0 < N) (hn : N ≤ 45) (VB : Arv Z h0 b kd .byte (Int32.ofNat N) (own_vs g N) (.int (0 : Int32))) : own_Met l Z Y7 jdk_52_method_15_code 2 (some .byte) ({ frames := 0, cells := 0, slots := 0, locals := 0 } : Room) #[xr b, xi (Int32.ofNat N)] h0 (own_QR (some (xi (0 : Int32))) h0 n0) := by
  have h := own_cf0_ l Z a0 hw hj ki0 vf0 G b kd N g h0 n0 O0 hp hn VB
  rw [show (nar .byte (0 : Int32)) = (0 : Int32) from by decide] at h; exact h
theorem ef_own_cf1_ (m : MethodId)  (ki0 : Int32) (vf0 : Value) (b : Addr) (kd : ClassId) (N : Nat) (g : Nat → Int32) : entryFrame m #[xr b, xi (Int32.ofNat N)] 2 = (mkF m 0 #[vr b, vi (Int32.ofNat N)] []) := by first | (simp [entryFrame, mkF, argsToLocals, Value.category]; done) | rfl
set_option maxRecDepth 65536 in
set_option maxHeartbeats 40000000 in
theorem own_cf1_ (l : Launch) (Z : State) (a0 : Array Value) (hw : ∀ d ∈ tables_1, d.before a0 Z = true) (hj : ∀ d ∈ jdkStatics_1, d.before a0 Z = true)  (ki0 : Int32) (vf0 : Value) (G : own_St Z hj ki0 vf0) (b : Addr) (kd : ClassId) (N : Nat) (g : Nat → Int32) (h0 : Heap) (n0 : Nat) (O0 : Old Z n0 h0) (hp : 0 < N) (hn : N ≤ 45) (VB : Arv Z h0 b kd .byte (Int32.ofNat (2 * N)) (own_vs g (2 * N)) (.int (0 : Int32))) : own_Met l Z Y7 jdk_52_method_15_code 2 (some .byte) ({ frames := 0, cells := 0, slots := 0, locals := 0 } : Room) #[xr b, xi (Int32.ofNat N)] h0 (own_QR (some (xi (nar .byte (1 : Int32)))) h0 n0) := by
  intro ws
  refine MetFree.of_bodySF (plainFor_of_name pn0) hisR ?_
  intro p e s m args below meth c s₁ Bd hml0 hP hK
  obtain ⟨rfl, hZ, hh⟩ := hP
  have hx := Bd.exec
  have hby := Bd.bytes
  have hml : c.maxLocals = 2 := hml0
  have hown : s.vm.findClass "java/lang/StringUTF16" = some m.cls := findClass_of_methodNamed Bd.named
  have hnm := (name_of_methodNamed Bd.named Bd.method).1
  have X0 : Stand p l e ({ frames := 0, cells := 0, slots := 0, locals := 0 } : Room) s m #[xr b, xi (Int32.ofNat N)] below meth c s₁ [] 0 0 := Stand.of_body Bd
  have e0 : s₁.heap = h0 := by rw [← hh, Bd.state]; rfl
  have N0 := Fr.nil n0
  have pre0 : ∀ t, Steps p.tables e below (s₁.setTop (mkF m 0 #[vr b, vi (Int32.ofNat N)] [])) t → Steps p.tables e below (s₁.setTop (entryFrame m #[xr b, xi (Int32.ofNat N)] 2)) t := fun t st => castTop (ef_own_cf1_ m ki0 vf0 b kd N g) st
  obtain ⟨cl1, Ar1, q1, S1, N1_, H1, G1⟩ := id VB
  obtain ⟨fs, hr, hrun, hended, hW, hsame⟩ := X0.leave (v := some (xi (nar .byte (1 : Int32)))) (fun h => by rw [Bd.returns] at h; cases h)
  refine ⟨_, _, pre0 _ ?_, hrun, hended, _, _, rfl, ?_, ⟨_, rfl⟩, hW, hsame.mono (by decide) (by decide)⟩
  · show own_S p e below s₁ (mkF m 0 #[vr b, vi (Int32.ofNat N)] []) _
    refine XS.iloadN X0.here hx rfl (hb hby d9_0) rfl ?_
    refine XS.aloadN X0.here hx rfl (hb hby d9_1) rfl rfl ?_
    show own_S p e below s₁ (mkF m 2 #[vr b, vi (Int32.ofNat N)] [xr b, xi (Int32.ofNat N)]) _
    refine X0.arraylength hx (by rw [e0]; exact Ar1.1) (State.isArrayOf_alike hZ.alike Ar1.2.1) (g := (mkF m 2 #[vr b, vi (Int32.ofNat N)] [xr b, xi (Int32.ofNat N)])) rfl rfl (hb hby d9_2) _ ?_
    refine castTop (show (mkF m 3 #[vr b, vi (Int32.ofNat N)] [xi cl1.slots.size.toInt32, xi (Int32.ofNat N)]) = (mkF m 3 #[vr b, vi (Int32.ofNat N)] [xi (Int32.ofNat (2 * N)), xi (Int32.ofNat N)]) from by rw [len_of S1 N1_]) ?_
    show own_S p e below s₁ (mkF m 3 #[vr b, vi (Int32.ofNat N)] [xi (Int32.ofNat (2 * N)), xi (Int32.ofNat N)]) _
    refine XS.isub X0.here hx rfl (hb hby d9_3) rfl ?_
    show own_S p e below s₁ (mkF m 4 #[vr b, vi (Int32.ofNat N)] [xi ((Int32.ofNat N) - (Int32.ofNat (2 * N)))]) _
    refine XS.bipush X0.here hx rfl (hb hby d9_4) ?_
    show own_S p e below s₁ (mkF m 6 #[vr b, vi (Int32.ofNat N)] [xi (31 : Int32), xi ((Int32.ofNat N) - (Int32.ofNat (2 * N)))]) _
    refine XS.iushr X0.here hx rfl (hb hby d9_6) rfl ?_
    show own_S p e below s₁ (mkF m 7 #[vr b, vi (Int32.ofNat N)] [xi ((((Int32.ofNat N) - (Int32.ofNat (2 * N))).toUInt32 >>> ((31 : Int32) &&& 31).toUInt32).toInt32)]) _
    refine castTop (show (mkF m 7 #[vr b, vi (Int32.ofNat N)] [xi ((((Int32.ofNat N) - (Int32.ofNat (2 * N))).toUInt32 >>> ((31 : Int32) &&& 31).toUInt32).toInt32)]) = (mkF m 7 #[vr b, vi (Int32.ofNat N)] [xi (1 : Int32)]) from by rw [own_cod hp hn]) ?_
    show own_S p e below s₁ (mkF m 7 #[vr b, vi (Int32.ofNat N)] [xi (1 : Int32)]) _
    refine XS.i2b X0.here hx rfl (hb hby d9_7) rfl ?_
    show own_S p e below s₁ (mkF m 8 #[vr b, vi (Int32.ofNat N)] [xi ((1 : Int32).toInt8.toInt32)]) _
    refine castTop (show (mkF m 8 #[vr b, vi (Int32.ofNat N)] [xi ((1 : Int32).toInt8.toInt32)]) = (mkF m 8 #[vr b, vi (Int32.ofNat N)] [xi (1 : Int32)]) from by rw [(by decide : ((1 : Int32).toInt8.toInt32) = (1 : Int32))]) ?_
    show own_S p e below s₁ (mkF m 8 #[vr b, vi (Int32.ofNat N)] [xi (1 : Int32)]) _
    exact retN X0 hx (t := .byte) Bd.returns (by simp) (hb hby d9_8) hr
  · exact ⟨rfl, N0, e0⟩
theorem own_cf1 (l : Launch) (Z : State) (a0 : Array Value) (hw : ∀ d ∈ tables_1, d.before a0 Z = true) (hj : ∀ d ∈ jdkStatics_1, d.before a0 Z = true)  (ki0 : Int32) (vf0 : Value) (G : own_St Z hj ki0 vf0) (b : Addr) (kd : ClassId) (N : Nat) (g : Nat → Int32) (h0 : Heap) (n0 : Nat) (O0 : Old Z n0 h0) (hp : 0 < N) (hn : N ≤ 45) (VB : Arv Z h0 b kd .byte (Int32.ofNat (2 * N)) (own_vs g (2 * N)) (.int (0 : Int32))) : own_Met l Z Y7 jdk_52_method_15_code 2 (some .byte) ({ frames := 0, cells := 0, slots := 0, locals := 0 } : Room) #[xr b, xi (Int32.ofNat N)] h0 (own_QR (some (xi (1 : Int32))) h0 n0) := by
  have h := own_cf1_ l Z a0 hw hj ki0 vf0 G b kd N g h0 n0 O0 hp hn VB
  rw [show (nar .byte (1 : Int32)) = (1 : Int32) from by decide] at h; exact h
def own_SS (Z : State) (h : Heap) (sa b : Addr) (kd : ClassId) (M : Nat) (k : Int32) (g : Nat → Int32) : Prop := Exa Z h sa "java/lang/String" ∧ Fld Z h sa "java/lang/String" "coder" "B" (.int k) ∧ Fld Z h sa "java/lang/String" "value" "[B" (.ref b) ∧ Arv Z h b kd .byte (Int32.ofNat M) (own_vs g M) (.int (0 : Int32))
def own_QI (Z : State) (h0 : Heap) (n0 : Nat) (sa : Addr) (M : Nat) (k : Int32) (g : Nat → Int32) (v : Option Value) (h : Heap) (L : List Loc) : Prop := v = none ∧ Fr n0 L ∧ Keep h0 h [sa] ∧ ∃ b kd, own_SS Z h sa b kd M k g ∧ n0 ≤ b
theorem own_cse {Z : State} {a0 : Array Value} {hj : ∀ d ∈ jdkStatics_1, d.before a0 Z = true}  {ki0 : Int32} {vf0 : Value} (G : own_St Z hj ki0 vf0) : ifCond.holds .eq ki0 = false := by
  rw [if0]; exact (feq (own_nz_ki0 G)).1
theorem own_ne0 {N : Nat} (h : 0 < N) (h2 : N ≤ 45) : ifCond.holds .ne (Int32.ofNat N) = true := by
  rw [if0]; refine (feq (fun e => ?_)).2
  have := congrArg Int32.toInt e
  rw [own_toInt (by omega)] at this; have h3 : ((0 : Int32)).toInt = 0 := by decide
  omega
theorem d5_0 : decode jdk_42_method_149_code 0 = .ok (.aload_n 0, 1) := by decide +kernel
theorem d5_1 : decode jdk_42_method_149_code 1 = .ok (.invokespecial 1, 3) := by decide +kernel
theorem d5_4 : decode jdk_42_method_149_code 4 = .ok (.iload_n 3, 1) := by decide +kernel
theorem d5_5 : decode jdk_42_method_149_code 5 = .ok (.ifCond .ne 22, 3) := by decide +kernel
theorem d5_27 : decode jdk_42_method_149_code 27 = .ok (.getstatic 38, 3) := by decide +kernel
theorem d5_30 : decode jdk_42_method_149_code 30 = .ok (.ifCond .eq 28, 3) := by decide +kernel
theorem d5_33 : decode jdk_42_method_149_code 33 = .ok (.aload_n 1, 1) := by decide +kernel
theorem d5_34 : decode jdk_42_method_149_code 34 = .ok (.iload_n 2, 1) := by decide +kernel
theorem d5_35 : decode jdk_42_method_149_code 35 = .ok (.iload_n 3, 1) := by decide +kernel
theorem d5_36 : decode jdk_42_method_149_code 36 = .ok (.invokestatic 177, 3) := by decide +kernel
theorem d5_39 : decode jdk_42_method_149_code 39 = .ok (.astore 5, 2) := by decide +kernel
theorem d5_41 : decode jdk_42_method_149_code 41 = .ok (.aload_n 0, 1) := by decide +kernel
theorem d5_42 : decode jdk_42_method_149_code 42 = .ok (.aload 5, 2) := by decide +kernel
theorem d5_44 : decode jdk_42_method_149_code 44 = .ok (.iload_n 3, 1) := by decide +kernel
theorem d5_45 : decode jdk_42_method_149_code 45 = .ok (.invokestatic 47, 3) := by decide +kernel
theorem pd6 : parseMethodDescriptor "([BI)B" = some ⟨[(.array .byte), .int], some .byte⟩ := by decide +kernel
theorem d5_48 : decode jdk_42_method_149_code 48 = .ok (.putfield 15, 3) := by decide +kernel
theorem d5_51 : decode jdk_42_method_149_code 51 = .ok (.aload_n 0, 1) := by decide +kernel
theorem d5_52 : decode jdk_42_method_149_code 52 = .ok (.aload 5, 2) := by decide +kernel
theorem d5_54 : decode jdk_42_method_149_code 54 = .ok (.putfield 9, 3) := by decide +kernel
theorem d5_57 : decode jdk_42_method_149_code 57 = .ok (.return_, 1) := by decide +kernel
abbrev Y8 : MethodName := (⟨"java/lang/String", "<init>", "([CIILjava/lang/Void;)V"⟩ : MethodName)
theorem pn1 : plainName "java/lang/String" = true := by first | (simp [plainName, overriddenIn]; done) | decide +kernel
theorem ef_own_i5_0 (m : MethodId)  (ki0 : Int32) (vf0 : Value) (sa : Addr) (a : Addr) (ks : ClassId) (N : Nat) (f : Nat → Int32) : entryFrame m #[xr sa, xr a, xi (0 : Int32), xi (Int32.ofNat N), .null] 6 = (mkF m 0 #[vr sa, vr a, vi (0 : Int32), vi (Int32.ofNat N), vn, vu] []) := by first | (simp [entryFrame, mkF, argsToLocals, Value.category]; done) | rfl
set_option maxRecDepth 65536 in
set_option maxHeartbeats 40000000 in
theorem own_i5_0 (l : Launch) (Z : State) (a0 : Array Value) (hw : ∀ d ∈ tables_1, d.before a0 Z = true) (hj : ∀ d ∈ jdkStatics_1, d.before a0 Z = true)  (ki0 : Int32) (vf0 : Value) (G : own_St Z hj ki0 vf0) (sa : Addr) (a : Addr) (ks : ClassId) (N : Nat) (f : Nat → Int32) (h0 : Heap) (n0 : Nat) (O0 : Old Z n0 h0) (hn : N ≤ 45) (VA : Arv Z h0 a ks .char (Int32.ofNat N) (own_vs f N) (.int (0 : Int32))) (hp : 0 < N) (EA : Exa Z h0 sa "java/lang/String") (FV : Fld Z h0 sa "java/lang/String" "value" "[B" .null) (FC : Fld Z h0 sa "java/lang/String" "coder" "B" (.int (0 : Int32))) (g_sa : n0 ≤ sa) (ne_sa_a : sa ≠ a) (hall : ∀ j, j < N → if_icmp.holds .le (f j) (255 : Int32) = true) : own_Met l Z Y8 jdk_42_method_149_code 6 none ({ frames := 4, cells := 2, slots := 135, locals := 80 } : Room) #[xr sa, xr a, xi (0 : Int32), xi (Int32.ofNat N), .null] h0 (own_QI Z h0 n0 sa N (0 : Int32) (own_lat f)) := by
  intro ws
  refine MetFree.of_bodySF (plainFor_of_name pn1) hisR ?_
  intro p e s m args below meth c s₁ Bd hml0 hP hK
  obtain ⟨rfl, hZ, hh⟩ := hP
  have hx := Bd.exec
  have hby := Bd.bytes
  have hml : c.maxLocals = 6 := hml0
  have hown : s.vm.findClass "java/lang/String" = some m.cls := findClass_of_methodNamed Bd.named
  have hnm := (name_of_methodNamed Bd.named Bd.method).1
  have X0 : Stand p l e ({ frames := 4, cells := 2, slots := 135, locals := 80 } : Room) s m #[xr sa, xr a, xi (0 : Int32), xi (Int32.ofNat N), .null] below meth c s₁ [] 0 0 := Stand.of_body Bd
  have e0 : s₁.heap = h0 := by rw [← hh, Bd.state]; rfl
  have N0 := Fr.nil n0
  have pre0 : ∀ t, Steps p.tables e below (s₁.setTop (mkF m 0 #[vr sa, vr a, vi (0 : Int32), vi (Int32.ofNat N), vn, vu] [])) t → Steps p.tables e below (s₁.setTop (entryFrame m #[xr sa, xr a, xi (0 : Int32), xi (Int32.ofNat N), .null] 6)) t := fun t st => castTop (ef_own_i5_0 m ki0 vf0 sa a ks N f) st
  obtain ⟨T1, X1, e1, st1⟩ := initO X0 hx hZ hown (ww hw 23 rfl) (ww hw 24 rfl) (ww hw 25 rfl) e0 (g := (mkF m 1 #[vr sa, vr a, vi (0 : Int32), vi (Int32.ofNat N), vn, vu] [xr sa])) rfl (by rw [hml]; rfl) rfl (hb hby d5_1) (by decide) (W := 0) (by show 2 * 0 + _ ≤ _; exact Nat.le_of_eq rfl) (by decide)
  obtain ⟨T2, X2, e2, st2⟩ := getS2 X1 hx hZ hown (host := "") (Or.inl (ww hw 26 rfl)) Via.refl e1 ((own_S_ki0 G).ext O0.2) (g := (mkF m 27 #[vr sa, vr a, vi (0 : Int32), vi (Int32.ofNat N), vn, vu] [])) rfl (hb hby d5_27)
  obtain ⟨_, _, ⟨T3, L3, k3, n3⟩, -, X3, ⟨Lc3, hQ3, l3, y3, z3⟩, st3⟩ := Jvm.LawKit.callS X2 hx (y := Y6) hown (mvT hZ (ww hw 27 rfl)) (mvT hZ (ww hw 28 rfl)) (mvT hZ (ww hw 29 rfl)) (mvT hZ (ww hw 30 rfl)) (by decide) (backOf (W := 0) (own_c2_all l Z a0 hw hj ki0 vf0 G a ks N f h0 n0 O0 hn VA hall []) hZ (ww hw 30 rfl) (ww hw 29 rfl) (by decide) (by decide)) (g := (mkF m 36 #[vr sa, vr a, vi (0 : Int32), vi (Int32.ofNat N), vn, vu] [xi (Int32.ofNat N), xi (0 : Int32), xr a])) rfl (by rw [hml]; rfl) (argsL := [xr a, xi (0 : Int32), xi (Int32.ofNat N)]) (rest := []) (lenOf pd4 rfl) rfl (by show 2 * 0 + _ ≤ _; exact Nat.le_of_eq rfl) (hb hby d5_36) (fun _ _ => ⟨rfl, e2, (by decide : 0 + 2 ≤ _), (by decide : 0 + 135 ≤ _)⟩)
  dsimp only [Pt.U, Pt.locs, Pt.cells, Pt.slots] at X3 l3 y3 z3 st3 hQ3
  subst l3 y3 z3
  obtain ⟨h3, e3⟩ : ∃ z, T3.heap = z := ⟨_, rfl⟩
  rw [e3] at hQ3
  obtain ⟨bc3, kc3, rfl, Nq3, K3, Vc3, g_bc3, sz0_bc3⟩ := hQ3
  have N3 := Fr.app N0 Nq3
  have ne_a_bc3 : a ≠ bc3 := Nat.ne_of_lt (Nat.lt_of_lt_of_le (VA).lt sz0_bc3)
  have ne_sa_bc3 : sa ≠ bc3 := Nat.ne_of_lt (Nat.lt_of_lt_of_le (EA).lt sz0_bc3)
  have sz_bc3 : h0.size ≤ bc3 := Nat.le_trans (Keep.refl h0 [sa]).1 sz0_bc3
  have O3 : Old Z n0 h3 := O0.keep K3 all0
  have Kp3 : Keep h0 h3 [sa] := (Keep.refl h0 [sa]).trans K3 all0
  have V_a_3 := VA.keep K3 nin0
  have X_sa_3 := EA.keep K3
  have F_sa_value_3 := FV.keep K3 nin0
  have F_sa_coder_3 := FC.keep K3 nin0
  obtain ⟨_, _, ⟨T4, L4, k4, n4⟩, -, X4, ⟨Lc4, hQ4, l4, y4, z4⟩, st4⟩ := Jvm.LawKit.callS X3 hx (y := Y7) hown (mvT hZ (ww hw 35 rfl)) (mvT hZ (ww hw 36 rfl)) (mvT hZ (ww hw 29 rfl)) (mvT hZ (ww hw 37 rfl)) (by decide) (backOf (W := 1) (own_cf0 l Z a0 hw hj ki0 vf0 G bc3 kc3 N (own_lat f) h3 n0 O3 hp hn Vc3 []) hZ (ww hw 37 rfl) (ww hw 29 rfl) (by decide) (by decide)) (g := (mkF m 45 #[vr sa, vr a, vi (0 : Int32), vi (Int32.ofNat N), vn, vr bc3] [xi (Int32.ofNat N), xr bc3, xr sa])) rfl (by rw [hml]; rfl) (argsL := [xr bc3, xi (Int32.ofNat N)]) (rest := [xr sa]) (lenOf pd6 rfl) rfl (by show 2 * 0 + _ ≤ _; exact Nat.le_of_eq rfl) (hb hby d5_45) (fun _ _ => ⟨rfl, e3, (by decide : 2 + 0 ≤ _), (by decide : 135 + 0 ≤ _)⟩)
  dsimp only [Pt.U, Pt.locs, Pt.cells, Pt.slots] at X4 l4 y4 z4 st4 hQ4
  subst l4 y4 z4
  obtain ⟨rfl, Nq4, e4⟩ := hQ4
  have N4 := Fr.app N3 Nq4
  obtain ⟨T5, h5, X5, e5, W5, st5⟩ := putF X4 hx hZ hown (host := "") (Or.inl (ww hw 38 rfl)) Via.refl e4 F_sa_coder_3 X_sa_3 (Or.inr ⟨(ww hw 39 rfl), rfl, hnm⟩) (ww hw 14 rfl) (ty := .byte) (by decide) (by first | rfl | decide) (by first | rfl | decide) (g := (mkF m 48 #[vr sa, vr a, vi (0 : Int32), vi (Int32.ofNat N), vn, vr bc3] [xi (0 : Int32), xr sa])) rfl rfl (hb hby d5_48)
  have O5 := O3.wr W5 g_sa
  have Kp5 := Kp3.wr W5 (Or.inl (by simp))
  have V_a_5 := V_a_3.other W5 (Ne.symm ne_sa_a)
  have V_bc3_5 := Vc3.other W5 (Ne.symm ne_sa_bc3)
  have X_sa_5 := X_sa_3.wr W5
  have F_sa_value_5 := F_sa_value_3.other W5 (Or.inr (slot_ne (Or.inr (ww hw 41 rfl)) (Or.inr (ww hw 39 rfl)) (by decide) (t := (.array .byte)) (t' := .byte) (by decide) (by decide)))
  have F_sa_coder_5 := F_sa_coder_3.same W5
  have N5 := Fr.snoc X5 N4 g_sa
  obtain ⟨T6, h6, X6, e6, W6, st6⟩ := putF X5 hx hZ hown (host := "") (Or.inl (ww hw 40 rfl)) Via.refl e5 F_sa_value_5 X_sa_5 (Or.inr ⟨(ww hw 41 rfl), rfl, hnm⟩) (ww hw 14 rfl) (ty := (.array .byte)) (by decide) (by first | rfl | decide) (by first | rfl | decide) (g := (mkF m 54 #[vr sa, vr a, vi (0 : Int32), vi (Int32.ofNat N), vn, vr bc3] [xr bc3, xr sa])) rfl rfl (hb hby d5_54)
  have O6 := O5.wr W6 g_sa
  have Kp6 := Kp5.wr W6 (Or.inl (by simp))
  have V_a_6 := V_a_5.other W6 (Ne.symm ne_sa_a)
  have V_bc3_6 := V_bc3_5.other W6 (Ne.symm ne_sa_bc3)
  have X_sa_6 := X_sa_5.wr W6
  have F_sa_value_6 := F_sa_value_5.same W6
  have F_sa_coder_6 := F_sa_coder_5.other W6 (Or.inr (slot_ne (Or.inr (ww hw 39 rfl)) (Or.inr (ww hw 41 rfl)) (by decide) (t := .byte) (t' := (.array .byte)) (by decide) (by decide)))
  have N6 := Fr.snoc X6 N5 g_sa
  obtain ⟨fs, hr, hrun, hended, hW, hsame⟩ := X6.leave (v := none) (fun _ => rfl)
  refine ⟨_, _, pre0 _ ?_, hrun, hended, _, _, rfl, ?_, ⟨_, rfl⟩, hW, hsame.mono (by decide) (by decide)⟩
  · show own_S p e below s₁ (mkF m 0 #[vr sa, vr a, vi (0 : Int32), vi (Int32.ofNat N), vn, vu] []) _
    refine XS.aloadN X0.here hx rfl (hb hby d5_0) rfl rfl ?_
    show own_S p e below s₁ (mkF m 1 #[vr sa, vr a, vi (0 : Int32), vi (Int32.ofNat N), vn, vu] [xr sa]) _
    refine st1 _ ?_
    refine XS.iloadN X1.here hx rfl (hb hby d5_4) rfl ?_
    show own_S p e below T1 (mkF m 5 #[vr sa, vr a, vi (0 : Int32), vi (Int32.ofNat N), vn, vu] [xi (Int32.ofNat N)]) _
    refine XS.ifYes X1.here hx rfl (pc0 := 5) (pc' := 27) rfl (hb hby d5_5) rfl (own_ne0 hp hn) (by decide) (by decide) ?_
    show own_S p e below T1 (mkF m 27 #[vr sa, vr a, vi (0 : Int32), vi (Int32.ofNat N), vn, vu] []) _
    refine st2 _ ?_
    show own_S p e below T2 (mkF m 30 #[vr sa, vr a, vi (0 : Int32), vi (Int32.ofNat N), vn, vu] [xi ki0]) _
    refine XS.ifNo X2.here hx rfl (hb hby d5_30) rfl (own_cse G) ?_
    refine XS.aloadN X2.here hx rfl (hb hby d5_33) rfl rfl ?_
    refine XS.iloadN X2.here hx rfl (hb hby d5_34) rfl ?_
    refine XS.iloadN X2.here hx rfl (hb hby d5_35) rfl ?_
    show own_S p e below T2 (mkF m 36 #[vr sa, vr a, vi (0 : Int32), vi (Int32.ofNat N), vn, vu] [xi (Int32.ofNat N), xi (0 : Int32), xr a]) _
    refine st3 _ ?_
    refine XS.astore X3.here hx rfl (hb hby d5_39) rfl rfl (l' := #[vr sa, vr a, vi (0 : Int32), vi (Int32.ofNat N), vn, vr bc3]) rfl ?_
    refine XS.aloadN X3.here hx rfl (hb hby d5_41) rfl rfl ?_
    refine XS.aload X3.here hx rfl (hb hby d5_42) rfl rfl ?_
    show own_S p e below T3 (mkF m 44 #[vr sa, vr a, vi (0 : Int32), vi (Int32.ofNat N), vn, vr bc3] [xr bc3, xr sa]) _
    refine XS.iloadN X3.here hx rfl (hb hby d5_44) rfl ?_
    show own_S p e below T3 (mkF m 45 #[vr sa, vr a, vi (0 : Int32), vi (Int32.ofNat N), vn, vr bc3] [xi (Int32.ofNat N), xr bc3, xr sa]) _
    refine st4 _ ?_
    show own_S p e below T4 (mkF m 48 #[vr sa, vr a, vi (0 : Int32), vi (Int32.ofNat N), vn, vr bc3] [xi (0 : Int32), xr sa]) _
    refine st5 _ ?_
    refine XS.aloadN X5.here hx rfl (hb hby d5_51) rfl rfl ?_
    refine XS.aload X5.here hx rfl (hb hby d5_52) rfl rfl ?_
    show own_S p e below T5 (mkF m 54 #[vr sa, vr a, vi (0 : Int32), vi (Int32.ofNat N), vn, vr bc3] [xr bc3, xr sa]) _
    refine st6 _ ?_
    show own_S p e below T6 (mkF m 57 #[vr sa, vr a, vi (0 : Int32), vi (Int32.ofNat N), vn, vr bc3] []) _
    exact X6.returnOut hx Bd.returns (hb hby d5_57) hr
  · show (own_QI Z h0 n0 sa N (0 : Int32) (own_lat f)) _ T6.heap _
    rw [e6]
    exact ⟨rfl, N6, Kp6, bc3, kc3, ⟨X_sa_6, F_sa_coder_6, F_sa_value_6, V_bc3_6⟩, g_bc3⟩
theorem d4_0 : decode jdk_42_method_3_code 0 = .ok (.aload_n 0, 1) := by decide +kernel
theorem d4_1 : decode jdk_42_method_3_code 1 = .ok (.aload_n 1, 1) := by decide +kernel
theorem d4_2 : decode jdk_42_method_3_code 2 = .ok (.iconst 0, 1) := by decide +kernel
theorem d4_3 : decode jdk_42_method_3_code 3 = .ok (.aload_n 1, 1) := by decide +kernel
theorem d4_4 : decode jdk_42_method_3_code 4 = .ok (.arraylength, 1) := by decide +kernel
theorem d4_5 : decode jdk_42_method_3_code 5 = .ok (.aconst_null, 1) := by decide +kernel
theorem d4_6 : decode jdk_42_method_3_code 6 = .ok (.invokespecial 27, 3) := by decide +kernel
theorem pd7 : parseMethodDescriptor "([CIILjava/lang/Void;)V" = some ⟨[(.array .char), .int, .int, (.object "java/lang/Void")], none⟩ := by decide +kernel
theorem d4_9 : decode jdk_42_method_3_code 9 = .ok (.return_, 1) := by decide +kernel
abbrev Y9 : MethodName := (⟨"java/lang/String", "<init>", "([C)V"⟩ : MethodName)
theorem ef_own_i1_0 (m : MethodId)  (ki0 : Int32) (vf0 : Value) (sa : Addr) (a : Addr) (ks : ClassId) (N : Nat) (f : Nat → Int32) : entryFrame m #[xr sa, xr a] 2 = (mkF m 0 #[vr sa, vr a] []) := by first | (simp [entryFrame, mkF, argsToLocals, Value.category]; done) | rfl
set_option maxRecDepth 65536 in
set_option maxHeartbeats 40000000 in
theorem own_i1_0 (l : Launch) (Z : State) (a0 : Array Value) (hw : ∀ d ∈ tables_1, d.before a0 Z = true) (hj : ∀ d ∈ jdkStatics_1, d.before a0 Z = true)  (ki0 : Int32) (vf0 : Value) (G : own_St Z hj ki0 vf0) (sa : Addr) (a : Addr) (ks : ClassId) (N : Nat) (f : Nat → Int32) (h0 : Heap) (n0 : Nat) (O0 : Old Z n0 h0) (hn : N ≤ 45) (VA : Arv Z h0 a ks .char (Int32.ofNat N) (own_vs f N) (.int (0 : Int32))) (hp : 0 < N) (EA : Exa Z h0 sa "java/lang/String") (FV : Fld Z h0 sa "java/lang/String" "value" "[B" .null) (FC : Fld Z h0 sa "java/lang/String" "coder" "B" (.int (0 : Int32))) (g_sa : n0 ≤ sa) (ne_sa_a : sa ≠ a) (hall : ∀ j, j < N → if_icmp.holds .le (f j) (255 : Int32) = true) : own_Met l Z Y9 jdk_42_method_3_code 2 none ({ frames := 5, cells := 2, slots := 135, locals := 100 } : Room) #[xr sa, xr a] h0 (own_QI Z h0 n0 sa N (0 : Int32) (own_lat f)) := by
  intro ws
  refine MetFree.of_bodySF (plainFor_of_name pn1) hisR ?_
  intro p e s m args below meth c s₁ Bd hml0 hP hK
  obtain ⟨rfl, hZ, hh⟩ := hP
  have hx := Bd.exec
  have hby := Bd.bytes
  have hml : c.maxLocals = 2 := hml0
  have hown : s.vm.findClass "java/lang/String" = some m.cls := findClass_of_methodNamed Bd.named
  have hnm := (name_of_methodNamed Bd.named Bd.method).1
  have X0 : Stand p l e ({ frames := 5, cells := 2, slots := 135, locals := 100 } : Room) s m #[xr sa, xr a] below meth c s₁ [] 0 0 := Stand.of_body Bd
  have e0 : s₁.heap = h0 := by rw [← hh, Bd.state]; rfl
  have N0 := Fr.nil n0
  have pre0 : ∀ t, Steps p.tables e below (s₁.setTop (mkF m 0 #[vr sa, vr a] [])) t → Steps p.tables e below (s₁.setTop (entryFrame m #[xr sa, xr a] 2)) t := fun t st => castTop (ef_own_i1_0 m ki0 vf0 sa a ks N f) st
  obtain ⟨cl1, Ar1, q1, S1, N1_, H1, G1⟩ := id VA
  obtain ⟨_, _, ⟨T2, L2, k2, n2⟩, -, X2, ⟨Lc2, hQ2, l2, y2, z2⟩, st2⟩ := X0.specialBack hx (y := Y8) rfl hown (mvT hZ (ww hw 19 rfl)) (mvT hZ (ww hw 20 rfl)) (mvT hZ (ww hw 22 rfl)) (by decide) (backOf (W := 0) (own_i5_0 l Z a0 hw hj ki0 vf0 G sa a ks N f h0 n0 O0 hn VA hp EA FV FC g_sa ne_sa_a hall []) hZ (ww hw 22 rfl) (ww hw 15 rfl) (by decide) (by decide)) (g := (mkF m 6 #[vr sa, vr a] [.null, xi (Int32.ofNat N), xi (0 : Int32), xr a, xr sa])) rfl (by rw [hml]; rfl) (Steps.refl _) (a := sa) (argsL := [xr a, xi (0 : Int32), xi (Int32.ofNat N), .null]) (rest := []) (lenOf pd7 rfl) rfl (by show 2 * 0 + _ ≤ _; exact Nat.le_of_eq rfl) (hb hby d4_6) (fun _ _ => ⟨rfl, e0, (by decide : 0 + 2 ≤ _), (by decide : 0 + 135 ≤ _)⟩)
  dsimp only [Pt.U, Pt.locs, Pt.cells, Pt.slots] at X2 l2 y2 z2 st2 hQ2
  subst l2 y2 z2
  obtain ⟨h2, e2⟩ : ∃ z, T2.heap = z := ⟨_, rfl⟩
  rw [e2] at hQ2
  obtain ⟨rfl, Nq2, K2, b52, k52, SS2, g52⟩ := hQ2
  have N2 := Fr.app N0 Nq2
  have O2 : Old Z n0 h2 := O0.keep K2 (allS g_sa all0)
  have Kp2 : Keep h0 h2 [sa] := (Keep.refl h0 [sa]).trans K2 (allS (Or.inl (by simp)) all0)
  have V_a_2 := VA.keep K2 (ninS (Ne.symm ne_sa_a) nin0)
  have X_sa_2 := EA.keep K2
  obtain ⟨fs, hr, hrun, hended, hW, hsame⟩ := X2.leave (v := none) (fun _ => rfl)
  refine ⟨_, _, pre0 _ ?_, hrun, hended, _, _, rfl, ?_, ⟨_, rfl⟩, hW, hsame.mono (by decide) (by decide)⟩
  · show own_S p e below s₁ (mkF m 0 #[vr sa, vr a] []) _
    refine XS.aloadN X0.here hx rfl (hb hby d4_0) rfl rfl ?_
    refine XS.aloadN X0.here hx rfl (hb hby d4_1) rfl rfl ?_
    refine XS.iconst X0.here hx rfl (hb hby d4_2) ?_
    refine XS.aloadN X0.here hx rfl (hb hby d4_3) rfl rfl ?_
    show own_S p e below s₁ (mkF m 4 #[vr sa, vr a] [xr a, xi (0 : Int32), xr a, xr sa]) _
    refine X0.arraylength hx (by rw [e0]; exact Ar1.1) (State.isArrayOf_alike hZ.alike Ar1.2.1) (g := (mkF m 4 #[vr sa, vr a] [xr a, xi (0 : Int32), xr a, xr sa])) rfl rfl (hb hby d4_4) _ ?_
    refine castTop (show (mkF m 5 #[vr sa, vr a] [xi cl1.slots.size.toInt32, xi (0 : Int32), xr a, xr sa]) = (mkF m 5 #[vr sa, vr a] [xi (Int32.ofNat N), xi (0 : Int32), xr a, xr sa]) from by rw [len_of S1 N1_]) ?_
    show own_S p e below s₁ (mkF m 5 #[vr sa, vr a] [xi (Int32.ofNat N), xi (0 : Int32), xr a, xr sa]) _
    refine XS.aconstNull X0.here hx rfl (hb hby d4_5) ?_
    show own_S p e below s₁ (mkF m 6 #[vr sa, vr a] [.null, xi (Int32.ofNat N), xi (0 : Int32), xr a, xr sa]) _
    refine st2.trans ?_
    show own_S p e below T2 (mkF m 9 #[vr sa, vr a] []) _
    exact X2.returnOut hx Bd.returns (hb hby d4_9) hr
  · show (own_QI Z h0 n0 sa N (0 : Int32) (own_lat f)) _ T2.heap _
    rw [e2]
    exact ⟨rfl, N2, Kp2, b52, k52, SS2, g52⟩
theorem ef_own_i5_1 (m : MethodId)  (ki0 : Int32) (vf0 : Value) (sa : Addr) (a : Addr) (ks : ClassId) (N : Nat) (f : Nat → Int32) (mm : Nat) : entryFrame m #[xr sa, xr a, xi (0 : Int32), xi (Int32.ofNat N), .null] 6 = (mkF m 0 #[vr sa, vr a, vi (0 : Int32), vi (Int32.ofNat N), vn, vu] []) := by first | (simp [entryFrame, mkF, argsToLocals, Value.category]; done) | rfl
set_option maxRecDepth 65536 in
set_option maxHeartbeats 40000000 in
theorem own_i5_1 (l : Launch) (Z : State) (a0 : Array Value) (hw : ∀ d ∈ tables_1, d.before a0 Z = true) (hj : ∀ d ∈ jdkStatics_1, d.before a0 Z = true)  (ki0 : Int32) (vf0 : Value) (G : own_St Z hj ki0 vf0) (sa : Addr) (a : Addr) (ks : ClassId) (N : Nat) (f : Nat → Int32) (mm : Nat) (h0 : Heap) (n0 : Nat) (O0 : Old Z n0 h0) (hn : N ≤ 45) (VA : Arv Z h0 a ks .char (Int32.ofNat N) (own_vs f N) (.int (0 : Int32))) (hp : 0 < N) (EA : Exa Z h0 sa "java/lang/String") (FV : Fld Z h0 sa "java/lang/String" "value" "[B" .null) (FC : Fld Z h0 sa "java/lang/String" "coder" "B" (.int (0 : Int32))) (g_sa : n0 ≤ sa) (ne_sa_a : sa ≠ a) (hall : ∀ j, j < mm → if_icmp.holds .le (f j) (255 : Int32) = true) (hch : ∀ j, j < N → 0 ≤ (f j).toInt ∧ (f j).toInt < 65536) (hlt : mm < N) (hgt : if_icmp.holds .le (f mm) (255 : Int32) = false) : own_Met l Z Y8 jdk_42_method_149_code 6 none ({ frames := 4, cells := 2, slots := 135, locals := 80 } : Room) #[xr sa, xr a, xi (0 : Int32), xi (Int32.ofNat N), .null] h0 (own_QI Z h0 n0 sa (2 * N) (1 : Int32) (own_u16 f)) := by
  intro ws
  refine MetFree.of_bodySF (plainFor_of_name pn1) hisR ?_
  intro p e s m args below meth c s₁ Bd hml0 hP hK
  obtain ⟨rfl, hZ, hh⟩ := hP
  have hx := Bd.exec
  have hby := Bd.bytes
  have hml : c.maxLocals = 6 := hml0
  have hown : s.vm.findClass "java/lang/String" = some m.cls := findClass_of_methodNamed Bd.named
  have hnm := (name_of_methodNamed Bd.named Bd.method).1
  have X0 : Stand p l e ({ frames := 4, cells := 2, slots := 135, locals := 80 } : Room) s m #[xr sa, xr a, xi (0 : Int32), xi (Int32.ofNat N), .null] below meth c s₁ [] 0 0 := Stand.of_body Bd
  have e0 : s₁.heap = h0 := by rw [← hh, Bd.state]; rfl
  have N0 := Fr.nil n0
  have pre0 : ∀ t, Steps p.tables e below (s₁.setTop (mkF m 0 #[vr sa, vr a, vi (0 : Int32), vi (Int32.ofNat N), vn, vu] [])) t → Steps p.tables e below (s₁.setTop (entryFrame m #[xr sa, xr a, xi (0 : Int32), xi (Int32.ofNat N), .null] 6)) t := fun t st => castTop (ef_own_i5_1 m ki0 vf0 sa a ks N f mm) st
  obtain ⟨T1, X1, e1, st1⟩ := initO X0 hx hZ hown (ww hw 23 rfl) (ww hw 24 rfl) (ww hw 25 rfl) e0 (g := (mkF m 1 #[vr sa, vr a, vi (0 : Int32), vi (Int32.ofNat N), vn, vu] [xr sa])) rfl (by rw [hml]; rfl) rfl (hb hby d5_1) (by decide) (W := 0) (by show 2 * 0 + _ ≤ _; exact Nat.le_of_eq rfl) (by decide)
  obtain ⟨T2, X2, e2, st2⟩ := getS2 X1 hx hZ hown (host := "") (Or.inl (ww hw 26 rfl)) Via.refl e1 ((own_S_ki0 G).ext O0.2) (g := (mkF m 27 #[vr sa, vr a, vi (0 : Int32), vi (Int32.ofNat N), vn, vu] [])) rfl (hb hby d5_27)
  obtain ⟨_, _, ⟨T3, L3, k3, n3⟩, -, X3, ⟨Lc3, hQ3, l3, y3, z3⟩, st3⟩ := Jvm.LawKit.callS X2 hx (y := Y6) hown (mvT hZ (ww hw 27 rfl)) (mvT hZ (ww hw 28 rfl)) (mvT hZ (ww hw 29 rfl)) (mvT hZ (ww hw 30 rfl)) (by decide) (backOf (W := 0) (own_c2_some l Z a0 hw hj ki0 vf0 G a ks N f mm h0 n0 O0 hn VA hall hch hlt hgt []) hZ (ww hw 30 rfl) (ww hw 29 rfl) (by decide) (by decide)) (g := (mkF m 36 #[vr sa, vr a, vi (0 : Int32), vi (Int32.ofNat N), vn, vu] [xi (Int32.ofNat N), xi (0 : Int32), xr a])) rfl (by rw [hml]; rfl) (argsL := [xr a, xi (0 : Int32), xi (Int32.ofNat N)]) (rest := []) (lenOf pd4 rfl) rfl (by show 2 * 0 + _ ≤ _; exact Nat.le_of_eq rfl) (hb hby d5_36) (fun _ _ => ⟨rfl, e2, (by decide : 0 + 2 ≤ _), (by decide : 0 + 135 ≤ _)⟩)
  dsimp only [Pt.U, Pt.locs, Pt.cells, Pt.slots] at X3 l3 y3 z3 st3 hQ3
  subst l3 y3 z3
  obtain ⟨h3, e3⟩ : ∃ z, T3.heap = z := ⟨_, rfl⟩
  rw [e3] at hQ3
  obtain ⟨bc3, kc3, rfl, Nq3, K3, Vc3, g_bc3, sz0_bc3⟩ := hQ3
  have N3 := Fr.app N0 Nq3
  have ne_a_bc3 : a ≠ bc3 := Nat.ne_of_lt (Nat.lt_of_lt_of_le (VA).lt sz0_bc3)
  have ne_sa_bc3 : sa ≠ bc3 := Nat.ne_of_lt (Nat.lt_of_lt_of_le (EA).lt sz0_bc3)
  have sz_bc3 : h0.size ≤ bc3 := Nat.le_trans (Keep.refl h0 [sa]).1 sz0_bc3
  have O3 : Old Z n0 h3 := O0.keep K3 all0
  have Kp3 : Keep h0 h3 [sa] := (Keep.refl h0 [sa]).trans K3 all0
  have V_a_3 := VA.keep K3 nin0
  have X_sa_3 := EA.keep K3
  have F_sa_value_3 := FV.keep K3 nin0
  have F_sa_coder_3 := FC.keep K3 nin0
  obtain ⟨_, _, ⟨T4, L4, k4, n4⟩, -, X4, ⟨Lc4, hQ4, l4, y4, z4⟩, st4⟩ := Jvm.LawKit.callS X3 hx (y := Y7) hown (mvT hZ (ww hw 35 rfl)) (mvT hZ (ww hw 36 rfl)) (mvT hZ (ww hw 29 rfl)) (mvT hZ (ww hw 37 rfl)) (by decide) (backOf (W := 1) (own_cf1 l Z a0 hw hj ki0 vf0 G bc3 kc3 N (own_u16 f) h3 n0 O3 hp hn Vc3 []) hZ (ww hw 37 rfl) (ww hw 29 rfl) (by decide) (by decide)) (g := (mkF m 45 #[vr sa, vr a, vi (0 : Int32), vi (Int32.ofNat N), vn, vr bc3] [xi (Int32.ofNat N), xr bc3, xr sa])) rfl (by rw [hml]; rfl) (argsL := [xr bc3, xi (Int32.ofNat N)]) (rest := [xr sa]) (lenOf pd6 rfl) rfl (by show 2 * 0 + _ ≤ _; exact Nat.le_of_eq rfl) (hb hby d5_45) (fun _ _ => ⟨rfl, e3, (by decide : 2 + 0 ≤ _), (by decide : 135 + 0 ≤ _)⟩)
  dsimp only [Pt.U, Pt.locs, Pt.cells, Pt.slots] at X4 l4 y4 z4 st4 hQ4
  subst l4 y4 z4
  obtain ⟨rfl, Nq4, e4⟩ := hQ4
  have N4 := Fr.app N3 Nq4
  obtain ⟨T5, h5, X5, e5, W5, st5⟩ := putF X4 hx hZ hown (host := "") (Or.inl (ww hw 38 rfl)) Via.refl e4 F_sa_coder_3 X_sa_3 (Or.inr ⟨(ww hw 39 rfl), rfl, hnm⟩) (ww hw 14 rfl) (ty := .byte) (by decide) (by first | rfl | decide) (by first | rfl | decide) (g := (mkF m 48 #[vr sa, vr a, vi (0 : Int32), vi (Int32.ofNat N), vn, vr bc3] [xi (1 : Int32), xr sa])) rfl rfl (hb hby d5_48)
  have O5 := O3.wr W5 g_sa
  have Kp5 := Kp3.wr W5 (Or.inl (by simp))
  have V_a_5 := V_a_3.other W5 (Ne.symm ne_sa_a)
  have V_bc3_5 := Vc3.other W5 (Ne.symm ne_sa_bc3)
  have X_sa_5 := X_sa_3.wr W5
  have F_sa_value_5 := F_sa_value_3.other W5 (Or.inr (slot_ne (Or.inr (ww hw 41 rfl)) (Or.inr (ww hw 39 rfl)) (by decide) (t := (.array .byte)) (t' := .byte) (by decide) (by decide)))
  have F_sa_coder_5 := F_sa_coder_3.same W5
  have N5 := Fr.snoc X5 N4 g_sa
  obtain ⟨T6, h6, X6, e6, W6, st6⟩ := putF X5 hx hZ hown (host := "") (Or.inl (ww hw 40 rfl)) Via.refl e5 F_sa_value_5 X_sa_5 (Or.inr ⟨(ww hw 41 rfl), rfl, hnm⟩) (ww hw 14 rfl) (ty := (.array .byte)) (by decide) (by first | rfl | decide) (by first | rfl | decide) (g := (mkF m 54 #[vr sa, vr a, vi (0 : Int32), vi (Int32.ofNat N), vn, vr bc3] [xr bc3, xr sa])) rfl rfl (hb hby d5_54)
  have O6 := O5.wr W6 g_sa
  have Kp6 := Kp5.wr W6 (Or.inl (by simp))
  have V_a_6 := V_a_5.other W6 (Ne.symm ne_sa_a)
  have V_bc3_6 := V_bc3_5.other W6 (Ne.symm ne_sa_bc3)
  have X_sa_6 := X_sa_5.wr W6
  have F_sa_value_6 := F_sa_value_5.same W6
  have F_sa_coder_6 := F_sa_coder_5.other W6 (Or.inr (slot_ne (Or.inr (ww hw 39 rfl)) (Or.inr (ww hw 41 rfl)) (by decide) (t := .byte) (t' := (.array .byte)) (by decide) (by decide)))
  have N6 := Fr.snoc X6 N5 g_sa
  obtain ⟨fs, hr, hrun, hended, hW, hsame⟩ := X6.leave (v := none) (fun _ => rfl)
  refine ⟨_, _, pre0 _ ?_, hrun, hended, _, _, rfl, ?_, ⟨_, rfl⟩, hW, hsame.mono (by decide) (by decide)⟩
  · show own_S p e below s₁ (mkF m 0 #[vr sa, vr a, vi (0 : Int32), vi (Int32.ofNat N), vn, vu] []) _
    refine XS.aloadN X0.here hx rfl (hb hby d5_0) rfl rfl ?_
    show own_S p e below s₁ (mkF m 1 #[vr sa, vr a, vi (0 : Int32), vi (Int32.ofNat N), vn, vu] [xr sa]) _
    refine st1 _ ?_
    refine XS.iloadN X1.here hx rfl (hb hby d5_4) rfl ?_
    show own_S p e below T1 (mkF m 5 #[vr sa, vr a, vi (0 : Int32), vi (Int32.ofNat N), vn, vu] [xi (Int32.ofNat N)]) _
    refine XS.ifYes X1.here hx rfl (pc0 := 5) (pc' := 27) rfl (hb hby d5_5) rfl (own_ne0 hp hn) (by decide) (by decide) ?_
    show own_S p e below T1 (mkF m 27 #[vr sa, vr a, vi (0 : Int32), vi (Int32.ofNat N), vn, vu] []) _
    refine st2 _ ?_
    show own_S p e below T2 (mkF m 30 #[vr sa, vr a, vi (0 : Int32), vi (Int32.ofNat N), vn, vu] [xi ki0]) _
    refine XS.ifNo X2.here hx rfl (hb hby d5_30) rfl (own_cse G) ?_
    refine XS.aloadN X2.here hx rfl (hb hby d5_33) rfl rfl ?_
    refine XS.iloadN X2.here hx rfl (hb hby d5_34) rfl ?_
    refine XS.iloadN X2.here hx rfl (hb hby d5_35) rfl ?_
    show own_S p e below T2 (mkF m 36 #[vr sa, vr a, vi (0 : Int32), vi (Int32.ofNat N), vn, vu] [xi (Int32.ofNat N), xi (0 : Int32), xr a]) _
    refine st3 _ ?_
    refine XS.astore X3.here hx rfl (hb hby d5_39) rfl rfl (l' := #[vr sa, vr a, vi (0 : Int32), vi (Int32.ofNat N), vn, vr bc3]) rfl ?_
    refine XS.aloadN X3.here hx rfl (hb hby d5_41) rfl rfl ?_
    refine XS.aload X3.here hx rfl (hb hby d5_42) rfl rfl ?_
    show own_S p e below T3 (mkF m 44 #[vr sa, vr a, vi (0 : Int32), vi (Int32.ofNat N), vn, vr bc3] [xr bc3, xr sa]) _
    refine XS.iloadN X3.here hx rfl (hb hby d5_44) rfl ?_
    show own_S p e below T3 (mkF m 45 #[vr sa, vr a, vi (0 : Int32), vi (Int32.ofNat N), vn, vr bc3] [xi (Int32.ofNat N), xr bc3, xr sa]) _
    refine st4 _ ?_
    show own_S p e below T4 (mkF m 48 #[vr sa, vr a, vi (0 : Int32), vi (Int32.ofNat N), vn, vr bc3] [xi (1 : Int32), xr sa]) _
    refine st5 _ ?_
    refine XS.aloadN X5.here hx rfl (hb hby d5_51) rfl rfl ?_
    refine XS.aload X5.here hx rfl (hb hby d5_52) rfl rfl ?_
    show own_S p e below T5 (mkF m 54 #[vr sa, vr a, vi (0 : Int32), vi (Int32.ofNat N), vn, vr bc3] [xr bc3, xr sa]) _
    refine st6 _ ?_
    show own_S p e below T6 (mkF m 57 #[vr sa, vr a, vi (0 : Int32), vi (Int32.ofNat N), vn, vr bc3] []) _
    exact X6.returnOut hx Bd.returns (hb hby d5_57) hr
  · show (own_QI Z h0 n0 sa (2 * N) (1 : Int32) (own_u16 f)) _ T6.heap _
    rw [e6]
    exact ⟨rfl, N6, Kp6, bc3, kc3, ⟨X_sa_6, F_sa_coder_6, F_sa_value_6, V_bc3_6⟩, g_bc3⟩
theorem ef_own_i1_1 (m : MethodId)  (ki0 : Int32) (vf0 : Value) (sa : Addr) (a : Addr) (ks : ClassId) (N : Nat) (f : Nat → Int32) (mm : Nat) : entryFrame m #[xr sa, xr a] 2 = (mkF m 0 #[vr sa, vr a] []) := by first | (simp [entryFrame, mkF, argsToLocals, Value.category]; done) | rfl
set_option maxRecDepth 65536 in
set_option maxHeartbeats 40000000 in
theorem own_i1_1 (l : Launch) (Z : State) (a0 : Array Value) (hw : ∀ d ∈ tables_1, d.before a0 Z = true) (hj : ∀ d ∈ jdkStatics_1, d.before a0 Z = true)  (ki0 : Int32) (vf0 : Value) (G : own_St Z hj ki0 vf0) (sa : Addr) (a : Addr) (ks : ClassId) (N : Nat) (f : Nat → Int32) (mm : Nat) (h0 : Heap) (n0 : Nat) (O0 : Old Z n0 h0) (hn : N ≤ 45) (VA : Arv Z h0 a ks .char (Int32.ofNat N) (own_vs f N) (.int (0 : Int32))) (hp : 0 < N) (EA : Exa Z h0 sa "java/lang/String") (FV : Fld Z h0 sa "java/lang/String" "value" "[B" .null) (FC : Fld Z h0 sa "java/lang/String" "coder" "B" (.int (0 : Int32))) (g_sa : n0 ≤ sa) (ne_sa_a : sa ≠ a) (hall : ∀ j, j < mm → if_icmp.holds .le (f j) (255 : Int32) = true) (hch : ∀ j, j < N → 0 ≤ (f j).toInt ∧ (f j).toInt < 65536) (hlt : mm < N) (hgt : if_icmp.holds .le (f mm) (255 : Int32) = false) : own_Met l Z Y9 jdk_42_method_3_code 2 none ({ frames := 5, cells := 2, slots := 135, locals := 100 } : Room) #[xr sa, xr a] h0 (own_QI Z h0 n0 sa (2 * N) (1 : Int32) (own_u16 f)) := by
  intro ws
  refine MetFree.of_bodySF (plainFor_of_name pn1) hisR ?_
  intro p e s m args below meth c s₁ Bd hml0 hP hK
  obtain ⟨rfl, hZ, hh⟩ := hP
  have hx := Bd.exec
  have hby := Bd.bytes
  have hml : c.maxLocals = 2 := hml0
  have hown : s.vm.findClass "java/lang/String" = some m.cls := findClass_of_methodNamed Bd.named
  have hnm := (name_of_methodNamed Bd.named Bd.method).1
  have X0 : Stand p l e ({ frames := 5, cells := 2, slots := 135, locals := 100 } : Room) s m #[xr sa, xr a] below meth c s₁ [] 0 0 := Stand.of_body Bd
  have e0 : s₁.heap = h0 := by rw [← hh, Bd.state]; rfl
  have N0 := Fr.nil n0
  have pre0 : ∀ t, Steps p.tables e below (s₁.setTop (mkF m 0 #[vr sa, vr a] [])) t → Steps p.tables e below (s₁.setTop (entryFrame m #[xr sa, xr a] 2)) t := fun t st => castTop (ef_own_i1_1 m ki0 vf0 sa a ks N f mm) st
  obtain ⟨cl1, Ar1, q1, S1, N1_, H1, G1⟩ := id VA
  obtain ⟨_, _, ⟨T2, L2, k2, n2⟩, -, X2, ⟨Lc2, hQ2, l2, y2, z2⟩, st2⟩ := X0.specialBack hx (y := Y8) rfl hown (mvT hZ (ww hw 19 rfl)) (mvT hZ (ww hw 20 rfl)) (mvT hZ (ww hw 22 rfl)) (by decide) (backOf (W := 0) (own_i5_1 l Z a0 hw hj ki0 vf0 G sa a ks N f mm h0 n0 O0 hn VA hp EA FV FC g_sa ne_sa_a hall hch hlt hgt []) hZ (ww hw 22 rfl) (ww hw 15 rfl) (by decide) (by decide)) (g := (mkF m 6 #[vr sa, vr a] [.null, xi (Int32.ofNat N), xi (0 : Int32), xr a, xr sa])) rfl (by rw [hml]; rfl) (Steps.refl _) (a := sa) (argsL := [xr a, xi (0 : Int32), xi (Int32.ofNat N), .null]) (rest := []) (lenOf pd7 rfl) rfl (by show 2 * 0 + _ ≤ _; exact Nat.le_of_eq rfl) (hb hby d4_6) (fun _ _ => ⟨rfl, e0, (by decide : 0 + 2 ≤ _), (by decide : 0 + 135 ≤ _)⟩)
  dsimp only [Pt.U, Pt.locs, Pt.cells, Pt.slots] at X2 l2 y2 z2 st2 hQ2
  subst l2 y2 z2
  obtain ⟨h2, e2⟩ : ∃ z, T2.heap = z := ⟨_, rfl⟩
  rw [e2] at hQ2
  obtain ⟨rfl, Nq2, K2, b52, k52, SS2, g52⟩ := hQ2
  have N2 := Fr.app N0 Nq2
  have O2 : Old Z n0 h2 := O0.keep K2 (allS g_sa all0)
  have Kp2 : Keep h0 h2 [sa] := (Keep.refl h0 [sa]).trans K2 (allS (Or.inl (by simp)) all0)
  have V_a_2 := VA.keep K2 (ninS (Ne.symm ne_sa_a) nin0)
  have X_sa_2 := EA.keep K2
  obtain ⟨fs, hr, hrun, hended, hW, hsame⟩ := X2.leave (v := none) (fun _ => rfl)
  refine ⟨_, _, pre0 _ ?_, hrun, hended, _, _, rfl, ?_, ⟨_, rfl⟩, hW, hsame.mono (by decide) (by decide)⟩
  · show own_S p e below s₁ (mkF m 0 #[vr sa, vr a] []) _
    refine XS.aloadN X0.here hx rfl (hb hby d4_0) rfl rfl ?_
    refine XS.aloadN X0.here hx rfl (hb hby d4_1) rfl rfl ?_
    refine XS.iconst X0.here hx rfl (hb hby d4_2) ?_
    refine XS.aloadN X0.here hx rfl (hb hby d4_3) rfl rfl ?_
    show own_S p e below s₁ (mkF m 4 #[vr sa, vr a] [xr a, xi (0 : Int32), xr a, xr sa]) _
    refine X0.arraylength hx (by rw [e0]; exact Ar1.1) (State.isArrayOf_alike hZ.alike Ar1.2.1) (g := (mkF m 4 #[vr sa, vr a] [xr a, xi (0 : Int32), xr a, xr sa])) rfl rfl (hb hby d4_4) _ ?_
    refine castTop (show (mkF m 5 #[vr sa, vr a] [xi cl1.slots.size.toInt32, xi (0 : Int32), xr a, xr sa]) = (mkF m 5 #[vr sa, vr a] [xi (Int32.ofNat N), xi (0 : Int32), xr a, xr sa]) from by rw [len_of S1 N1_]) ?_
    show own_S p e below s₁ (mkF m 5 #[vr sa, vr a] [xi (Int32.ofNat N), xi (0 : Int32), xr a, xr sa]) _
    refine XS.aconstNull X0.here hx rfl (hb hby d4_5) ?_
    show own_S p e below s₁ (mkF m 6 #[vr sa, vr a] [.null, xi (Int32.ofNat N), xi (0 : Int32), xr a, xr sa]) _
    refine st2.trans ?_
    show own_S p e below T2 (mkF m 9 #[vr sa, vr a] []) _
    exact X2.returnOut hx Bd.returns (hb hby d4_9) hr
  · show (own_QI Z h0 n0 sa (2 * N) (1 : Int32) (own_u16 f)) _ T2.heap _
    rw [e2]
    exact ⟨rfl, N2, Kp2, b52, k52, SS2, g52⟩
abbrev own_ok (c : Int32) : Prop := (¬ c < (97 : Int32) ∧ ¬ (122 : Int32) < c) ∨ (¬ c < (48 : Int32) ∧ ¬ (57 : Int32) < c)
def own_vd (c : Int32) : Int32 := if own_ok c then 1 else 0
theorem d10_0 : decode method_2_code 0 = .ok (.iload_n 0, 1) := by decide +kernel
theorem d10_1 : decode method_2_code 1 = .ok (.bipush 97, 2) := by decide +kernel
theorem d10_3 : decode method_2_code 3 = .ok (.if_icmp .lt 9, 3) := by decide +kernel
theorem d10_6 : decode method_2_code 6 = .ok (.iload_n 0, 1) := by decide +kernel
theorem d10_7 : decode method_2_code 7 = .ok (.bipush 122, 2) := by decide +kernel
theorem d10_9 : decode method_2_code 9 = .ok (.if_icmp .le 15, 3) := by decide +kernel
theorem d10_24 : decode method_2_code 24 = .ok (.iconst 1, 1) := by decide +kernel
theorem d10_25 : decode method_2_code 25 = .ok (.goto 4, 3) := by decide +kernel
theorem d10_29 : decode method_2_code 29 = .ok (.ireturn, 1) := by decide +kernel
abbrev Y10 : MethodName := (⟨"com/example/scopelock/scopelock/KeyWellFormedPinLaw", "valid", "(C)Z"⟩ : MethodName)
theorem pn2 : plainName "com/example/scopelock/scopelock/KeyWellFormedPinLaw" = true := by first | (simp [plainName, overriddenIn]; done) | decide +kernel
theorem ef_own_va1 (m : MethodId)  (ki0 : Int32) (vf0 : Value) (ch : Int32) : entryFrame m #[xi ch] 1 = (mkF m 0 #[vi ch] []) := by first | (simp [entryFrame, mkF, argsToLocals, Value.category]; done) | rfl
set_option maxRecDepth 65536 in
set_option maxHeartbeats 40000000 in
theorem own_va1 (l : Launch) (Z : State) (a0 : Array Value) (hw : ∀ d ∈ tables_1, d.before a0 Z = true) (hj : ∀ d ∈ jdkStatics_1, d.before a0 Z = true)  (ki0 : Int32) (vf0 : Value) (G : own_St Z hj ki0 vf0) (ch : Int32) (as0 : if_icmp.holds .lt ch (97 : Int32) = false) (as1 : if_icmp.holds .le ch (122 : Int32) = true) (h0 : Heap) (n0 : Nat) (O0 : Old Z n0 h0) : own_Met l Z Y10 method_2_code 1 (some .boolean) ({ frames := 0, cells := 0, slots := 0, locals := 0 } : Room) #[xi ch] h0 (own_QR (some (xi (1 : Int32))) h0 n0) := by
  intro ws
  refine MetFree.of_bodySF (plainFor_of_name pn2) hisR ?_
  intro p e s m args below meth c s₁ Bd hml0 hP hK
  obtain ⟨rfl, hZ, hh⟩ := hP
  have hx := Bd.exec
  have hby := Bd.bytes
  have hml : c.maxLocals = 1 := hml0
  have hown : s.vm.findClass "com/example/scopelock/scopelock/KeyWellFormedPinLaw" = some m.cls := findClass_of_methodNamed Bd.named
  have hnm := (name_of_methodNamed Bd.named Bd.method).1
  have X0 : Stand p l e ({ frames := 0, cells := 0, slots := 0, locals := 0 } : Room) s m #[xi ch] below meth c s₁ [] 0 0 := Stand.of_body Bd
  have e0 : s₁.heap = h0 := by rw [← hh, Bd.state]; rfl
  have N0 := Fr.nil n0
  have pre0 : ∀ t, Steps p.tables e below (s₁.setTop (mkF m 0 #[vi ch] [])) t → Steps p.tables e below (s₁.setTop (entryFrame m #[xi ch] 1)) t := fun t st => castTop (ef_own_va1 m ki0 vf0 ch) st
  obtain ⟨fs, hr, hrun, hended, hW, hsame⟩ := X0.leave (v := some (xi (1 : Int32))) (fun h => by rw [Bd.returns] at h; cases h)
  refine ⟨_, _, pre0 _ ?_, hrun, hended, _, _, rfl, ?_, ⟨_, rfl⟩, hW, hsame.mono (by decide) (by decide)⟩
  · show own_S p e below s₁ (mkF m 0 #[vi ch] []) _
    refine XS.iloadN X0.here hx rfl (hb hby d10_0) rfl ?_
    refine XS.bipush X0.here hx rfl (hb hby d10_1) ?_
    show own_S p e below s₁ (mkF m 3 #[vi ch] [xi (97 : Int32), xi ch]) _
    refine XS.icmpNo X0.here hx rfl (hb hby d10_3) rfl as0 ?_
    refine XS.iloadN X0.here hx rfl (hb hby d10_6) rfl ?_
    refine XS.bipush X0.here hx rfl (hb hby d10_7) ?_
    show own_S p e below s₁ (mkF m 9 #[vi ch] [xi (122 : Int32), xi ch]) _
    refine XS.icmpYes X0.here hx rfl (pc0 := 9) (pc' := 24) rfl (hb hby d10_9) rfl as1 (by decide) (by decide) ?_
    refine XS.iconst X0.here hx rfl (hb hby d10_24) ?_
    refine XS.goto X0.here hx rfl (pc0 := 25) (pc' := 29) rfl (hb hby d10_25) (by decide) (by decide) ?_
    show own_S p e below s₁ (mkF m 29 #[vi ch] [xi (1 : Int32)]) _
    exact retN X0 hx (t := .boolean) Bd.returns (by simp) (hb hby d10_29) hr
  · exact ⟨rfl, N0, e0⟩
theorem d10_12 : decode method_2_code 12 = .ok (.iload_n 0, 1) := by decide +kernel
theorem d10_13 : decode method_2_code 13 = .ok (.bipush 48, 2) := by decide +kernel
theorem d10_15 : decode method_2_code 15 = .ok (.if_icmp .lt 13, 3) := by decide +kernel
theorem d10_18 : decode method_2_code 18 = .ok (.iload_n 0, 1) := by decide +kernel
theorem d10_19 : decode method_2_code 19 = .ok (.bipush 57, 2) := by decide +kernel
theorem d10_21 : decode method_2_code 21 = .ok (.if_icmp .gt 7, 3) := by decide +kernel
theorem d10_28 : decode method_2_code 28 = .ok (.iconst 0, 1) := by decide +kernel
theorem ef_own_va2 (m : MethodId)  (ki0 : Int32) (vf0 : Value) (ch : Int32) : entryFrame m #[xi ch] 1 = (mkF m 0 #[vi ch] []) := by first | (simp [entryFrame, mkF, argsToLocals, Value.category]; done) | rfl
set_option maxRecDepth 65536 in
set_option maxHeartbeats 40000000 in
theorem own_va2 (l : Launch) (Z : State) (a0 : Array Value) (hw : ∀ d ∈ tables_1, d.before a0 Z = true) (hj : ∀ d ∈ jdkStatics_1, d.before a0 Z = true)  (ki0 : Int32) (vf0 : Value) (G : own_St Z hj ki0 vf0) (ch : Int32) (as0 : if_icmp.holds .lt ch (97 : Int32) = false) (as2 : if_icmp.holds .le ch (122 : Int32) = false) (as3 : if_icmp.holds .lt ch (48 : Int32) = false) (as4 : if_icmp.holds .gt ch (57 : Int32) = true) (h0 : Heap) (n0 : Nat) (O0 : Old Z n0 h0) : own_Met l Z Y10 method_2_code 1 (some .boolean) ({ frames := 0, cells := 0, slots := 0, locals := 0 } : Room) #[xi ch] h0 (own_QR (some (xi (0 : Int32))) h0 n0) := by
  intro ws
  refine MetFree.of_bodySF (plainFor_of_name pn2) hisR ?_
  intro p e s m args below meth c s₁ Bd hml0 hP hK
  obtain ⟨rfl, hZ, hh⟩ := hP
  have hx := Bd.exec
  have hby := Bd.bytes
  have hml : c.maxLocals = 1 := hml0
  have hown : s.vm.findClass "com/example/scopelock/scopelock/KeyWellFormedPinLaw" = some m.cls := findClass_of_methodNamed Bd.named
  have hnm := (name_of_methodNamed Bd.named Bd.method).1
  have X0 : Stand p l e ({ frames := 0, cells := 0, slots := 0, locals := 0 } : Room) s m #[xi ch] below meth c s₁ [] 0 0 := Stand.of_body Bd
  have e0 : s₁.heap = h0 := by rw [← hh, Bd.state]; rfl
  have N0 := Fr.nil n0
  have pre0 : ∀ t, Steps p.tables e below (s₁.setTop (mkF m 0 #[vi ch] [])) t → Steps p.tables e below (s₁.setTop (entryFrame m #[xi ch] 1)) t := fun t st => castTop (ef_own_va2 m ki0 vf0 ch) st
  obtain ⟨fs, hr, hrun, hended, hW, hsame⟩ := X0.leave (v := some (xi (0 : Int32))) (fun h => by rw [Bd.returns] at h; cases h)
  refine ⟨_, _, pre0 _ ?_, hrun, hended, _, _, rfl, ?_, ⟨_, rfl⟩, hW, hsame.mono (by decide) (by decide)⟩
  · show own_S p e below s₁ (mkF m 0 #[vi ch] []) _
    refine XS.iloadN X0.here hx rfl (hb hby d10_0) rfl ?_
    refine XS.bipush X0.here hx rfl (hb hby d10_1) ?_
    show own_S p e below s₁ (mkF m 3 #[vi ch] [xi (97 : Int32), xi ch]) _
    refine XS.icmpNo X0.here hx rfl (hb hby d10_3) rfl as0 ?_
    refine XS.iloadN X0.here hx rfl (hb hby d10_6) rfl ?_
    refine XS.bipush X0.here hx rfl (hb hby d10_7) ?_
    show own_S p e below s₁ (mkF m 9 #[vi ch] [xi (122 : Int32), xi ch]) _
    refine XS.icmpNo X0.here hx rfl (hb hby d10_9) rfl as2 ?_
    refine XS.iloadN X0.here hx rfl (hb hby d10_12) rfl ?_
    refine XS.bipush X0.here hx rfl (hb hby d10_13) ?_
    show own_S p e below s₁ (mkF m 15 #[vi ch] [xi (48 : Int32), xi ch]) _
    refine XS.icmpNo X0.here hx rfl (hb hby d10_15) rfl as3 ?_
    refine XS.iloadN X0.here hx rfl (hb hby d10_18) rfl ?_
    refine XS.bipush X0.here hx rfl (hb hby d10_19) ?_
    show own_S p e below s₁ (mkF m 21 #[vi ch] [xi (57 : Int32), xi ch]) _
    refine XS.icmpYes X0.here hx rfl (pc0 := 21) (pc' := 28) rfl (hb hby d10_21) rfl as4 (by decide) (by decide) ?_
    refine XS.iconst X0.here hx rfl (hb hby d10_28) ?_
    show own_S p e below s₁ (mkF m 29 #[vi ch] [xi (0 : Int32)]) _
    exact retN X0 hx (t := .boolean) Bd.returns (by simp) (hb hby d10_29) hr
  · exact ⟨rfl, N0, e0⟩
theorem ef_own_va3 (m : MethodId)  (ki0 : Int32) (vf0 : Value) (ch : Int32) : entryFrame m #[xi ch] 1 = (mkF m 0 #[vi ch] []) := by first | (simp [entryFrame, mkF, argsToLocals, Value.category]; done) | rfl
set_option maxRecDepth 65536 in
set_option maxHeartbeats 40000000 in
theorem own_va3 (l : Launch) (Z : State) (a0 : Array Value) (hw : ∀ d ∈ tables_1, d.before a0 Z = true) (hj : ∀ d ∈ jdkStatics_1, d.before a0 Z = true)  (ki0 : Int32) (vf0 : Value) (G : own_St Z hj ki0 vf0) (ch : Int32) (as5 : if_icmp.holds .lt ch (97 : Int32) = true) (as6 : if_icmp.holds .lt ch (48 : Int32) = true) (h0 : Heap) (n0 : Nat) (O0 : Old Z n0 h0) : own_Met l Z Y10 method_2_code 1 (some .boolean) ({ frames := 0, cells := 0, slots := 0, locals := 0 } : Room) #[xi ch] h0 (own_QR (some (xi (0 : Int32))) h0 n0) := by
  intro ws
  refine MetFree.of_bodySF (plainFor_of_name pn2) hisR ?_
  intro p e s m args below meth c s₁ Bd hml0 hP hK
  obtain ⟨rfl, hZ, hh⟩ := hP
  have hx := Bd.exec
  have hby := Bd.bytes
  have hml : c.maxLocals = 1 := hml0
  have hown : s.vm.findClass "com/example/scopelock/scopelock/KeyWellFormedPinLaw" = some m.cls := findClass_of_methodNamed Bd.named
  have hnm := (name_of_methodNamed Bd.named Bd.method).1
  have X0 : Stand p l e ({ frames := 0, cells := 0, slots := 0, locals := 0 } : Room) s m #[xi ch] below meth c s₁ [] 0 0 := Stand.of_body Bd
  have e0 : s₁.heap = h0 := by rw [← hh, Bd.state]; rfl
  have N0 := Fr.nil n0
  have pre0 : ∀ t, Steps p.tables e below (s₁.setTop (mkF m 0 #[vi ch] [])) t → Steps p.tables e below (s₁.setTop (entryFrame m #[xi ch] 1)) t := fun t st => castTop (ef_own_va3 m ki0 vf0 ch) st
  obtain ⟨fs, hr, hrun, hended, hW, hsame⟩ := X0.leave (v := some (xi (0 : Int32))) (fun h => by rw [Bd.returns] at h; cases h)
  refine ⟨_, _, pre0 _ ?_, hrun, hended, _, _, rfl, ?_, ⟨_, rfl⟩, hW, hsame.mono (by decide) (by decide)⟩
  · show own_S p e below s₁ (mkF m 0 #[vi ch] []) _
    refine XS.iloadN X0.here hx rfl (hb hby d10_0) rfl ?_
    refine XS.bipush X0.here hx rfl (hb hby d10_1) ?_
    show own_S p e below s₁ (mkF m 3 #[vi ch] [xi (97 : Int32), xi ch]) _
    refine XS.icmpYes X0.here hx rfl (pc0 := 3) (pc' := 12) rfl (hb hby d10_3) rfl as5 (by decide) (by decide) ?_
    refine XS.iloadN X0.here hx rfl (hb hby d10_12) rfl ?_
    refine XS.bipush X0.here hx rfl (hb hby d10_13) ?_
    show own_S p e below s₁ (mkF m 15 #[vi ch] [xi (48 : Int32), xi ch]) _
    refine XS.icmpYes X0.here hx rfl (pc0 := 15) (pc' := 28) rfl (hb hby d10_15) rfl as6 (by decide) (by decide) ?_
    refine XS.iconst X0.here hx rfl (hb hby d10_28) ?_
    show own_S p e below s₁ (mkF m 29 #[vi ch] [xi (0 : Int32)]) _
    exact retN X0 hx (t := .boolean) Bd.returns (by simp) (hb hby d10_29) hr
  · exact ⟨rfl, N0, e0⟩
theorem ef_own_va4 (m : MethodId)  (ki0 : Int32) (vf0 : Value) (ch : Int32) : entryFrame m #[xi ch] 1 = (mkF m 0 #[vi ch] []) := by first | (simp [entryFrame, mkF, argsToLocals, Value.category]; done) | rfl
set_option maxRecDepth 65536 in
set_option maxHeartbeats 40000000 in
theorem own_va4 (l : Launch) (Z : State) (a0 : Array Value) (hw : ∀ d ∈ tables_1, d.before a0 Z = true) (hj : ∀ d ∈ jdkStatics_1, d.before a0 Z = true)  (ki0 : Int32) (vf0 : Value) (G : own_St Z hj ki0 vf0) (ch : Int32) (as5 : if_icmp.holds .lt ch (97 : Int32) = true) (as3 : if_icmp.holds .lt ch (48 : Int32) = false) (as4 : if_icmp.holds .gt ch (57 : Int32) = true) (h0 : Heap) (n0 : Nat) (O0 : Old Z n0 h0) : own_Met l Z Y10 method_2_code 1 (some .boolean) ({ frames := 0, cells := 0, slots := 0, locals := 0 } : Room) #[xi ch] h0 (own_QR (some (xi (0 : Int32))) h0 n0) := by
  intro ws
  refine MetFree.of_bodySF (plainFor_of_name pn2) hisR ?_
  intro p e s m args below meth c s₁ Bd hml0 hP hK
  obtain ⟨rfl, hZ, hh⟩ := hP
  have hx := Bd.exec
  have hby := Bd.bytes
  have hml : c.maxLocals = 1 := hml0
  have hown : s.vm.findClass "com/example/scopelock/scopelock/KeyWellFormedPinLaw" = some m.cls := findClass_of_methodNamed Bd.named
  have hnm := (name_of_methodNamed Bd.named Bd.method).1
  have X0 : Stand p l e ({ frames := 0, cells := 0, slots := 0, locals := 0 } : Room) s m #[xi ch] below meth c s₁ [] 0 0 := Stand.of_body Bd
  have e0 : s₁.heap = h0 := by rw [← hh, Bd.state]; rfl
  have N0 := Fr.nil n0
  have pre0 : ∀ t, Steps p.tables e below (s₁.setTop (mkF m 0 #[vi ch] [])) t → Steps p.tables e below (s₁.setTop (entryFrame m #[xi ch] 1)) t := fun t st => castTop (ef_own_va4 m ki0 vf0 ch) st
  obtain ⟨fs, hr, hrun, hended, hW, hsame⟩ := X0.leave (v := some (xi (0 : Int32))) (fun h => by rw [Bd.returns] at h; cases h)
  refine ⟨_, _, pre0 _ ?_, hrun, hended, _, _, rfl, ?_, ⟨_, rfl⟩, hW, hsame.mono (by decide) (by decide)⟩
  · show own_S p e below s₁ (mkF m 0 #[vi ch] []) _
    refine XS.iloadN X0.here hx rfl (hb hby d10_0) rfl ?_
    refine XS.bipush X0.here hx rfl (hb hby d10_1) ?_
    show own_S p e below s₁ (mkF m 3 #[vi ch] [xi (97 : Int32), xi ch]) _
    refine XS.icmpYes X0.here hx rfl (pc0 := 3) (pc' := 12) rfl (hb hby d10_3) rfl as5 (by decide) (by decide) ?_
    refine XS.iloadN X0.here hx rfl (hb hby d10_12) rfl ?_
    refine XS.bipush X0.here hx rfl (hb hby d10_13) ?_
    show own_S p e below s₁ (mkF m 15 #[vi ch] [xi (48 : Int32), xi ch]) _
    refine XS.icmpNo X0.here hx rfl (hb hby d10_15) rfl as3 ?_
    refine XS.iloadN X0.here hx rfl (hb hby d10_18) rfl ?_
    refine XS.bipush X0.here hx rfl (hb hby d10_19) ?_
    show own_S p e below s₁ (mkF m 21 #[vi ch] [xi (57 : Int32), xi ch]) _
    refine XS.icmpYes X0.here hx rfl (pc0 := 21) (pc' := 28) rfl (hb hby d10_21) rfl as4 (by decide) (by decide) ?_
    refine XS.iconst X0.here hx rfl (hb hby d10_28) ?_
    show own_S p e below s₁ (mkF m 29 #[vi ch] [xi (0 : Int32)]) _
    exact retN X0 hx (t := .boolean) Bd.returns (by simp) (hb hby d10_29) hr
  · exact ⟨rfl, N0, e0⟩
theorem ef_own_va5 (m : MethodId)  (ki0 : Int32) (vf0 : Value) (ch : Int32) : entryFrame m #[xi ch] 1 = (mkF m 0 #[vi ch] []) := by first | (simp [entryFrame, mkF, argsToLocals, Value.category]; done) | rfl
set_option maxRecDepth 65536 in
set_option maxHeartbeats 40000000 in
theorem own_va5 (l : Launch) (Z : State) (a0 : Array Value) (hw : ∀ d ∈ tables_1, d.before a0 Z = true) (hj : ∀ d ∈ jdkStatics_1, d.before a0 Z = true)  (ki0 : Int32) (vf0 : Value) (G : own_St Z hj ki0 vf0) (ch : Int32) (as5 : if_icmp.holds .lt ch (97 : Int32) = true) (as3 : if_icmp.holds .lt ch (48 : Int32) = false) (as7 : if_icmp.holds .gt ch (57 : Int32) = false) (h0 : Heap) (n0 : Nat) (O0 : Old Z n0 h0) : own_Met l Z Y10 method_2_code 1 (some .boolean) ({ frames := 0, cells := 0, slots := 0, locals := 0 } : Room) #[xi ch] h0 (own_QR (some (xi (1 : Int32))) h0 n0) := by
  intro ws
  refine MetFree.of_bodySF (plainFor_of_name pn2) hisR ?_
  intro p e s m args below meth c s₁ Bd hml0 hP hK
  obtain ⟨rfl, hZ, hh⟩ := hP
  have hx := Bd.exec
  have hby := Bd.bytes
  have hml : c.maxLocals = 1 := hml0
  have hown : s.vm.findClass "com/example/scopelock/scopelock/KeyWellFormedPinLaw" = some m.cls := findClass_of_methodNamed Bd.named
  have hnm := (name_of_methodNamed Bd.named Bd.method).1
  have X0 : Stand p l e ({ frames := 0, cells := 0, slots := 0, locals := 0 } : Room) s m #[xi ch] below meth c s₁ [] 0 0 := Stand.of_body Bd
  have e0 : s₁.heap = h0 := by rw [← hh, Bd.state]; rfl
  have N0 := Fr.nil n0
  have pre0 : ∀ t, Steps p.tables e below (s₁.setTop (mkF m 0 #[vi ch] [])) t → Steps p.tables e below (s₁.setTop (entryFrame m #[xi ch] 1)) t := fun t st => castTop (ef_own_va5 m ki0 vf0 ch) st
  obtain ⟨fs, hr, hrun, hended, hW, hsame⟩ := X0.leave (v := some (xi (1 : Int32))) (fun h => by rw [Bd.returns] at h; cases h)
  refine ⟨_, _, pre0 _ ?_, hrun, hended, _, _, rfl, ?_, ⟨_, rfl⟩, hW, hsame.mono (by decide) (by decide)⟩
  · show own_S p e below s₁ (mkF m 0 #[vi ch] []) _
    refine XS.iloadN X0.here hx rfl (hb hby d10_0) rfl ?_
    refine XS.bipush X0.here hx rfl (hb hby d10_1) ?_
    show own_S p e below s₁ (mkF m 3 #[vi ch] [xi (97 : Int32), xi ch]) _
    refine XS.icmpYes X0.here hx rfl (pc0 := 3) (pc' := 12) rfl (hb hby d10_3) rfl as5 (by decide) (by decide) ?_
    refine XS.iloadN X0.here hx rfl (hb hby d10_12) rfl ?_
    refine XS.bipush X0.here hx rfl (hb hby d10_13) ?_
    show own_S p e below s₁ (mkF m 15 #[vi ch] [xi (48 : Int32), xi ch]) _
    refine XS.icmpNo X0.here hx rfl (hb hby d10_15) rfl as3 ?_
    refine XS.iloadN X0.here hx rfl (hb hby d10_18) rfl ?_
    refine XS.bipush X0.here hx rfl (hb hby d10_19) ?_
    show own_S p e below s₁ (mkF m 21 #[vi ch] [xi (57 : Int32), xi ch]) _
    refine XS.icmpNo X0.here hx rfl (hb hby d10_21) rfl as7 ?_
    refine XS.iconst X0.here hx rfl (hb hby d10_24) ?_
    refine XS.goto X0.here hx rfl (pc0 := 25) (pc' := 29) rfl (hb hby d10_25) (by decide) (by decide) ?_
    show own_S p e below s₁ (mkF m 29 #[vi ch] [xi (1 : Int32)]) _
    exact retN X0 hx (t := .boolean) Bd.returns (by simp) (hb hby d10_29) hr
  · exact ⟨rfl, N0, e0⟩
theorem own_valid (l : Launch) (Z : State) (a0 : Array Value) (hw : ∀ d ∈ tables_1, d.before a0 Z = true) (hj : ∀ d ∈ jdkStatics_1, d.before a0 Z = true)  (ki0 : Int32) (vf0 : Value) (G : own_St Z hj ki0 vf0) (ch : Int32) (h0 : Heap) (n0 : Nat) (O0 : Old Z n0 h0) : own_Met l Z Y10 method_2_code 1 (some .boolean) ({ frames := 0, cells := 0, slots := 0, locals := 0 } : Room) #[xi ch] h0 (own_QR (some (xi (own_vd ch))) h0 n0) := by
  have t48 : ((48 : Int32)).toInt = 48 := by decide
  have t57 : ((57 : Int32)).toInt = 57 := by decide
  have t97 : ((97 : Int32)).toInt = 97 := by decide
  have t122 : ((122 : Int32)).toInt = 122 := by decide
  by_cases q1 : ch < (97 : Int32)
  · by_cases q3 : ch < (48 : Int32)
    · rw [show own_vd ch = 0 from if_neg (by intro h; rcases h with h | h; exact h.1 q1; exact h.1 q3)]
      exact own_va3 l Z a0 hw hj ki0 vf0 G ch (tlt q1).1 (tlt q3).1 h0 n0 O0
    · by_cases q4 : (57 : Int32) < ch
      · rw [show own_vd ch = 0 from if_neg (by intro h; rcases h with h | h; exact h.1 q1; exact h.2 q4)]
        exact own_va4 l Z a0 hw hj ki0 vf0 G ch (tlt q1).1 (flt q3).1 (tlt q4).2.2.1 h0 n0 O0
      · rw [show own_vd ch = 1 from if_pos (Or.inr ⟨q3, q4⟩)]
        exact own_va5 l Z a0 hw hj ki0 vf0 G ch (tlt q1).1 (flt q3).1 (flt q4).2.2.1 h0 n0 O0
  · by_cases q2 : (122 : Int32) < ch
    · have q3 : ¬ ch < (48 : Int32) := by rw [Int32.lt_iff_toInt_lt] at *; omega
      have q4 : (57 : Int32) < ch := by rw [Int32.lt_iff_toInt_lt] at *; omega
      rw [show own_vd ch = 0 from if_neg (by intro h; rcases h with h | h; exact h.2 q2; exact h.2 q4)]
      exact own_va2 l Z a0 hw hj ki0 vf0 G ch (flt q1).1 (tlt q2).2.2.2 (flt q3).1 (tlt q4).2.2.1 h0 n0 O0
    · rw [show own_vd ch = 1 from if_pos (Or.inl ⟨q1, q2⟩)]
      exact own_va1 l Z a0 hw hj ki0 vf0 G ch (flt q1).1 (flt q2).2.2.2 h0 n0 O0
theorem d13_0 : decode jdk_42_method_152_code 0 = .ok (.getstatic 38, 3) := by decide +kernel
theorem d13_3 : decode jdk_42_method_152_code 3 = .ok (.ifCond .eq 10, 3) := by decide +kernel
theorem d13_6 : decode jdk_42_method_152_code 6 = .ok (.aload_n 0, 1) := by decide +kernel
theorem d13_7 : decode jdk_42_method_152_code 7 = .ok (.getfield 15, 3) := by decide +kernel
theorem d13_10 : decode jdk_42_method_152_code 10 = .ok (.goto 4, 3) := by decide +kernel
theorem d13_14 : decode jdk_42_method_152_code 14 = .ok (.ireturn, 1) := by decide +kernel
abbrev Y11 : MethodName := (⟨"java/lang/String", "coder", "()B"⟩ : MethodName)
theorem ef_own_coder0_ (m : MethodId)  (ki0 : Int32) (vf0 : Value) (sa : Addr) (b : Addr) (kd : ClassId) (M : Nat) (g : Nat → Int32) : entryFrame m #[xr sa] 1 = (mkF m 0 #[vr sa] []) := by first | (simp [entryFrame, mkF, argsToLocals, Value.category]; done) | rfl
set_option maxRecDepth 65536 in
set_option maxHeartbeats 40000000 in
theorem own_coder0_ (l : Launch) (Z : State) (a0 : Array Value) (hw : ∀ d ∈ tables_1, d.before a0 Z = true) (hj : ∀ d ∈ jdkStatics_1, d.before a0 Z = true)  (ki0 : Int32) (vf0 : Value) (G : own_St Z hj ki0 vf0) (sa : Addr) (b : Addr) (kd : ClassId) (M : Nat) (g : Nat → Int32) (h0 : Heap) (n0 : Nat) (O0 : Old Z n0 h0) (hM : M < 2147483648) (gS : own_SS Z h0 sa b kd M (0 : Int32) g) : own_Met l Z Y11 jdk_42_method_152_code 1 (some .byte) ({ frames := 0, cells := 0, slots := 0, locals := 0 } : Room) #[xr sa] h0 (own_QR (some (xi (nar .byte (0 : Int32)))) h0 n0) := by
  intro ws
  refine MetFree.of_bodySF (plainFor_of_name pn1) hisR ?_
  intro p e s m args below meth c s₁ Bd hml0 hP hK
  obtain ⟨rfl, hZ, hh⟩ := hP
  have hx := Bd.exec
  have hby := Bd.bytes
  have hml : c.maxLocals = 1 := hml0
  have hown : s.vm.findClass "java/lang/String" = some m.cls := findClass_of_methodNamed Bd.named
  have hnm := (name_of_methodNamed Bd.named Bd.method).1
  have X0 : Stand p l e ({ frames := 0, cells := 0, slots := 0, locals := 0 } : Room) s m #[xr sa] below meth c s₁ [] 0 0 := Stand.of_body Bd
  have e0 : s₁.heap = h0 := by rw [← hh, Bd.state]; rfl
  have N0 := Fr.nil n0
  have pre0 : ∀ t, Steps p.tables e below (s₁.setTop (mkF m 0 #[vr sa] [])) t → Steps p.tables e below (s₁.setTop (entryFrame m #[xr sa] 1)) t := fun t st => castTop (ef_own_coder0_ m ki0 vf0 sa b kd M g) st
  obtain ⟨EA, FC, FV, VB⟩ := id gS
  obtain ⟨T1, X1, e1, st1⟩ := getS2 X0 hx hZ hown (host := "") (Or.inl (ww hw 26 rfl)) Via.refl e0 ((own_S_ki0 G).ext O0.2) (g := (mkF m 0 #[vr sa] [])) rfl (hb hby d13_0)
  obtain ⟨T2, X2, e2, st2⟩ := getF X1 hx hZ hown (host := "") (Or.inl (ww hw 38 rfl)) Via.refl e1 FC (g := (mkF m 7 #[vr sa] [xr sa])) rfl rfl (hb hby d13_7)
  obtain ⟨fs, hr, hrun, hended, hW, hsame⟩ := X2.leave (v := some (xi (nar .byte (0 : Int32)))) (fun h => by rw [Bd.returns] at h; cases h)
  refine ⟨_, _, pre0 _ ?_, hrun, hended, _, _, rfl, ?_, ⟨_, rfl⟩, hW, hsame.mono (by decide) (by decide)⟩
  · show own_S p e below s₁ (mkF m 0 #[vr sa] []) _
    refine st1 _ ?_
    show own_S p e below T1 (mkF m 3 #[vr sa] [xi ki0]) _
    refine XS.ifNo X1.here hx rfl (hb hby d13_3) rfl (own_cse G) ?_
    refine XS.aloadN X1.here hx rfl (hb hby d13_6) rfl rfl ?_
    show own_S p e below T1 (mkF m 7 #[vr sa] [xr sa]) _
    refine st2 _ ?_
    refine XS.goto X2.here hx rfl (pc0 := 10) (pc' := 14) rfl (hb hby d13_10) (by decide) (by decide) ?_
    show own_S p e below T2 (mkF m 14 #[vr sa] [xi (0 : Int32)]) _
    exact retN X2 hx (t := .byte) Bd.returns (by simp) (hb hby d13_14) hr
  · exact ⟨rfl, N0, e2⟩
theorem own_coder0 (l : Launch) (Z : State) (a0 : Array Value) (hw : ∀ d ∈ tables_1, d.before a0 Z = true) (hj : ∀ d ∈ jdkStatics_1, d.before a0 Z = true)  (ki0 : Int32) (vf0 : Value) (G : own_St Z hj ki0 vf0) (sa b : Addr) (kd : ClassId) (M : Nat) (g : Nat → Int32) (h0 : Heap) (n0 : Nat) (O0 : Old Z n0 h0) (hM : M < 2147483648) (gS : own_SS Z h0 sa b kd M (0 : Int32) g) : own_Met l Z Y11 jdk_42_method_152_code 1 (some .byte) ({ frames := 0, cells := 0, slots := 0, locals := 0 } : Room) #[xr sa] h0 (own_QR (some (xi (0 : Int32))) h0 n0) := by
  have h := own_coder0_ l Z a0 hw hj ki0 vf0 G sa b kd M g h0 n0 O0 hM gS
  rw [show (nar .byte (0 : Int32)) = (0 : Int32) from by decide] at h; exact h
theorem d15_0 : decode jdk_42_method_154_code 0 = .ok (.getstatic 38, 3) := by decide +kernel
theorem d15_3 : decode jdk_42_method_154_code 3 = .ok (.ifCond .eq 14, 3) := by decide +kernel
theorem d15_6 : decode jdk_42_method_154_code 6 = .ok (.aload_n 0, 1) := by decide +kernel
theorem d15_7 : decode jdk_42_method_154_code 7 = .ok (.getfield 15, 3) := by decide +kernel
theorem d15_10 : decode jdk_42_method_154_code 10 = .ok (.ifCond .ne 7, 3) := by decide +kernel
theorem d15_13 : decode jdk_42_method_154_code 13 = .ok (.iconst 1, 1) := by decide +kernel
theorem d15_14 : decode jdk_42_method_154_code 14 = .ok (.goto 4, 3) := by decide +kernel
theorem d15_18 : decode jdk_42_method_154_code 18 = .ok (.ireturn, 1) := by decide +kernel
abbrev Y12 : MethodName := (⟨"java/lang/String", "isLatin1", "()Z"⟩ : MethodName)
theorem ef_own_latin0 (m : MethodId)  (ki0 : Int32) (vf0 : Value) (sa : Addr) (b : Addr) (kd : ClassId) (M : Nat) (g : Nat → Int32) : entryFrame m #[xr sa] 1 = (mkF m 0 #[vr sa] []) := by first | (simp [entryFrame, mkF, argsToLocals, Value.category]; done) | rfl
set_option maxRecDepth 65536 in
set_option maxHeartbeats 40000000 in
theorem own_latin0 (l : Launch) (Z : State) (a0 : Array Value) (hw : ∀ d ∈ tables_1, d.before a0 Z = true) (hj : ∀ d ∈ jdkStatics_1, d.before a0 Z = true)  (ki0 : Int32) (vf0 : Value) (G : own_St Z hj ki0 vf0) (sa : Addr) (b : Addr) (kd : ClassId) (M : Nat) (g : Nat → Int32) (h0 : Heap) (n0 : Nat) (O0 : Old Z n0 h0) (hM : M < 2147483648) (gS : own_SS Z h0 sa b kd M (0 : Int32) g) : own_Met l Z Y12 jdk_42_method_154_code 1 (some .boolean) ({ frames := 0, cells := 0, slots := 0, locals := 0 } : Room) #[xr sa] h0 (own_QR (some (xi (1 : Int32))) h0 n0) := by
  intro ws
  refine MetFree.of_bodySF (plainFor_of_name pn1) hisR ?_
  intro p e s m args below meth c s₁ Bd hml0 hP hK
  obtain ⟨rfl, hZ, hh⟩ := hP
  have hx := Bd.exec
  have hby := Bd.bytes
  have hml : c.maxLocals = 1 := hml0
  have hown : s.vm.findClass "java/lang/String" = some m.cls := findClass_of_methodNamed Bd.named
  have hnm := (name_of_methodNamed Bd.named Bd.method).1
  have X0 : Stand p l e ({ frames := 0, cells := 0, slots := 0, locals := 0 } : Room) s m #[xr sa] below meth c s₁ [] 0 0 := Stand.of_body Bd
  have e0 : s₁.heap = h0 := by rw [← hh, Bd.state]; rfl
  have N0 := Fr.nil n0
  have pre0 : ∀ t, Steps p.tables e below (s₁.setTop (mkF m 0 #[vr sa] [])) t → Steps p.tables e below (s₁.setTop (entryFrame m #[xr sa] 1)) t := fun t st => castTop (ef_own_latin0 m ki0 vf0 sa b kd M g) st
  obtain ⟨EA, FC, FV, VB⟩ := id gS
  obtain ⟨T1, X1, e1, st1⟩ := getS2 X0 hx hZ hown (host := "") (Or.inl (ww hw 26 rfl)) Via.refl e0 ((own_S_ki0 G).ext O0.2) (g := (mkF m 0 #[vr sa] [])) rfl (hb hby d15_0)
  obtain ⟨T2, X2, e2, st2⟩ := getF X1 hx hZ hown (host := "") (Or.inl (ww hw 38 rfl)) Via.refl e1 FC (g := (mkF m 7 #[vr sa] [xr sa])) rfl rfl (hb hby d15_7)
  obtain ⟨fs, hr, hrun, hended, hW, hsame⟩ := X2.leave (v := some (xi (1 : Int32))) (fun h => by rw [Bd.returns] at h; cases h)
  refine ⟨_, _, pre0 _ ?_, hrun, hended, _, _, rfl, ?_, ⟨_, rfl⟩, hW, hsame.mono (by decide) (by decide)⟩
  · show own_S p e below s₁ (mkF m 0 #[vr sa] []) _
    refine st1 _ ?_
    show own_S p e below T1 (mkF m 3 #[vr sa] [xi ki0]) _
    refine XS.ifNo X1.here hx rfl (hb hby d15_3) rfl (own_cse G) ?_
    refine XS.aloadN X1.here hx rfl (hb hby d15_6) rfl rfl ?_
    show own_S p e below T1 (mkF m 7 #[vr sa] [xr sa]) _
    refine st2 _ ?_
    show own_S p e below T2 (mkF m 10 #[vr sa] [xi (0 : Int32)]) _
    refine XS.ifNo X2.here hx rfl (hb hby d15_10) rfl (by decide) ?_
    refine XS.iconst X2.here hx rfl (hb hby d15_13) ?_
    refine XS.goto X2.here hx rfl (pc0 := 14) (pc' := 18) rfl (hb hby d15_14) (by decide) (by decide) ?_
    show own_S p e below T2 (mkF m 18 #[vr sa] [xi (1 : Int32)]) _
    exact retN X2 hx (t := .boolean) Bd.returns (by simp) (hb hby d15_18) hr
  · exact ⟨rfl, N0, e2⟩
theorem ef_own_coder1_ (m : MethodId)  (ki0 : Int32) (vf0 : Value) (sa : Addr) (b : Addr) (kd : ClassId) (M : Nat) (g : Nat → Int32) : entryFrame m #[xr sa] 1 = (mkF m 0 #[vr sa] []) := by first | (simp [entryFrame, mkF, argsToLocals, Value.category]; done) | rfl
set_option maxRecDepth 65536 in
set_option maxHeartbeats 40000000 in
theorem own_coder1_ (l : Launch) (Z : State) (a0 : Array Value) (hw : ∀ d ∈ tables_1, d.before a0 Z = true) (hj : ∀ d ∈ jdkStatics_1, d.before a0 Z = true)  (ki0 : Int32) (vf0 : Value) (G : own_St Z hj ki0 vf0) (sa : Addr) (b : Addr) (kd : ClassId) (M : Nat) (g : Nat → Int32) (h0 : Heap) (n0 : Nat) (O0 : Old Z n0 h0) (hM : M < 2147483648) (gS : own_SS Z h0 sa b kd M (1 : Int32) g) : own_Met l Z Y11 jdk_42_method_152_code 1 (some .byte) ({ frames := 0, cells := 0, slots := 0, locals := 0 } : Room) #[xr sa] h0 (own_QR (some (xi (nar .byte (1 : Int32)))) h0 n0) := by
  intro ws
  refine MetFree.of_bodySF (plainFor_of_name pn1) hisR ?_
  intro p e s m args below meth c s₁ Bd hml0 hP hK
  obtain ⟨rfl, hZ, hh⟩ := hP
  have hx := Bd.exec
  have hby := Bd.bytes
  have hml : c.maxLocals = 1 := hml0
  have hown : s.vm.findClass "java/lang/String" = some m.cls := findClass_of_methodNamed Bd.named
  have hnm := (name_of_methodNamed Bd.named Bd.method).1
  have X0 : Stand p l e ({ frames := 0, cells := 0, slots := 0, locals := 0 } : Room) s m #[xr sa] below meth c s₁ [] 0 0 := Stand.of_body Bd
  have e0 : s₁.heap = h0 := by rw [← hh, Bd.state]; rfl
  have N0 := Fr.nil n0
  have pre0 : ∀ t, Steps p.tables e below (s₁.setTop (mkF m 0 #[vr sa] [])) t → Steps p.tables e below (s₁.setTop (entryFrame m #[xr sa] 1)) t := fun t st => castTop (ef_own_coder1_ m ki0 vf0 sa b kd M g) st
  obtain ⟨EA, FC, FV, VB⟩ := id gS
  obtain ⟨T1, X1, e1, st1⟩ := getS2 X0 hx hZ hown (host := "") (Or.inl (ww hw 26 rfl)) Via.refl e0 ((own_S_ki0 G).ext O0.2) (g := (mkF m 0 #[vr sa] [])) rfl (hb hby d13_0)
  obtain ⟨T2, X2, e2, st2⟩ := getF X1 hx hZ hown (host := "") (Or.inl (ww hw 38 rfl)) Via.refl e1 FC (g := (mkF m 7 #[vr sa] [xr sa])) rfl rfl (hb hby d13_7)
  obtain ⟨fs, hr, hrun, hended, hW, hsame⟩ := X2.leave (v := some (xi (nar .byte (1 : Int32)))) (fun h => by rw [Bd.returns] at h; cases h)
  refine ⟨_, _, pre0 _ ?_, hrun, hended, _, _, rfl, ?_, ⟨_, rfl⟩, hW, hsame.mono (by decide) (by decide)⟩
  · show own_S p e below s₁ (mkF m 0 #[vr sa] []) _
    refine st1 _ ?_
    show own_S p e below T1 (mkF m 3 #[vr sa] [xi ki0]) _
    refine XS.ifNo X1.here hx rfl (hb hby d13_3) rfl (own_cse G) ?_
    refine XS.aloadN X1.here hx rfl (hb hby d13_6) rfl rfl ?_
    show own_S p e below T1 (mkF m 7 #[vr sa] [xr sa]) _
    refine st2 _ ?_
    refine XS.goto X2.here hx rfl (pc0 := 10) (pc' := 14) rfl (hb hby d13_10) (by decide) (by decide) ?_
    show own_S p e below T2 (mkF m 14 #[vr sa] [xi (1 : Int32)]) _
    exact retN X2 hx (t := .byte) Bd.returns (by simp) (hb hby d13_14) hr
  · exact ⟨rfl, N0, e2⟩
theorem own_coder1 (l : Launch) (Z : State) (a0 : Array Value) (hw : ∀ d ∈ tables_1, d.before a0 Z = true) (hj : ∀ d ∈ jdkStatics_1, d.before a0 Z = true)  (ki0 : Int32) (vf0 : Value) (G : own_St Z hj ki0 vf0) (sa b : Addr) (kd : ClassId) (M : Nat) (g : Nat → Int32) (h0 : Heap) (n0 : Nat) (O0 : Old Z n0 h0) (hM : M < 2147483648) (gS : own_SS Z h0 sa b kd M (1 : Int32) g) : own_Met l Z Y11 jdk_42_method_152_code 1 (some .byte) ({ frames := 0, cells := 0, slots := 0, locals := 0 } : Room) #[xr sa] h0 (own_QR (some (xi (1 : Int32))) h0 n0) := by
  have h := own_coder1_ l Z a0 hw hj ki0 vf0 G sa b kd M g h0 n0 O0 hM gS
  rw [show (nar .byte (1 : Int32)) = (1 : Int32) from by decide] at h; exact h
theorem d15_17 : decode jdk_42_method_154_code 17 = .ok (.iconst 0, 1) := by decide +kernel
theorem ef_own_latin1 (m : MethodId)  (ki0 : Int32) (vf0 : Value) (sa : Addr) (b : Addr) (kd : ClassId) (M : Nat) (g : Nat → Int32) : entryFrame m #[xr sa] 1 = (mkF m 0 #[vr sa] []) := by first | (simp [entryFrame, mkF, argsToLocals, Value.category]; done) | rfl
set_option maxRecDepth 65536 in
set_option maxHeartbeats 40000000 in
theorem own_latin1 (l : Launch) (Z : State) (a0 : Array Value) (hw : ∀ d ∈ tables_1, d.before a0 Z = true) (hj : ∀ d ∈ jdkStatics_1, d.before a0 Z = true)  (ki0 : Int32) (vf0 : Value) (G : own_St Z hj ki0 vf0) (sa : Addr) (b : Addr) (kd : ClassId) (M : Nat) (g : Nat → Int32) (h0 : Heap) (n0 : Nat) (O0 : Old Z n0 h0) (hM : M < 2147483648) (gS : own_SS Z h0 sa b kd M (1 : Int32) g) : own_Met l Z Y12 jdk_42_method_154_code 1 (some .boolean) ({ frames := 0, cells := 0, slots := 0, locals := 0 } : Room) #[xr sa] h0 (own_QR (some (xi (0 : Int32))) h0 n0) := by
  intro ws
  refine MetFree.of_bodySF (plainFor_of_name pn1) hisR ?_
  intro p e s m args below meth c s₁ Bd hml0 hP hK
  obtain ⟨rfl, hZ, hh⟩ := hP
  have hx := Bd.exec
  have hby := Bd.bytes
  have hml : c.maxLocals = 1 := hml0
  have hown : s.vm.findClass "java/lang/String" = some m.cls := findClass_of_methodNamed Bd.named
  have hnm := (name_of_methodNamed Bd.named Bd.method).1
  have X0 : Stand p l e ({ frames := 0, cells := 0, slots := 0, locals := 0 } : Room) s m #[xr sa] below meth c s₁ [] 0 0 := Stand.of_body Bd
  have e0 : s₁.heap = h0 := by rw [← hh, Bd.state]; rfl
  have N0 := Fr.nil n0
  have pre0 : ∀ t, Steps p.tables e below (s₁.setTop (mkF m 0 #[vr sa] [])) t → Steps p.tables e below (s₁.setTop (entryFrame m #[xr sa] 1)) t := fun t st => castTop (ef_own_latin1 m ki0 vf0 sa b kd M g) st
  obtain ⟨EA, FC, FV, VB⟩ := id gS
  obtain ⟨T1, X1, e1, st1⟩ := getS2 X0 hx hZ hown (host := "") (Or.inl (ww hw 26 rfl)) Via.refl e0 ((own_S_ki0 G).ext O0.2) (g := (mkF m 0 #[vr sa] [])) rfl (hb hby d15_0)
  obtain ⟨T2, X2, e2, st2⟩ := getF X1 hx hZ hown (host := "") (Or.inl (ww hw 38 rfl)) Via.refl e1 FC (g := (mkF m 7 #[vr sa] [xr sa])) rfl rfl (hb hby d15_7)
  obtain ⟨fs, hr, hrun, hended, hW, hsame⟩ := X2.leave (v := some (xi (0 : Int32))) (fun h => by rw [Bd.returns] at h; cases h)
  refine ⟨_, _, pre0 _ ?_, hrun, hended, _, _, rfl, ?_, ⟨_, rfl⟩, hW, hsame.mono (by decide) (by decide)⟩
  · show own_S p e below s₁ (mkF m 0 #[vr sa] []) _
    refine st1 _ ?_
    show own_S p e below T1 (mkF m 3 #[vr sa] [xi ki0]) _
    refine XS.ifNo X1.here hx rfl (hb hby d15_3) rfl (own_cse G) ?_
    refine XS.aloadN X1.here hx rfl (hb hby d15_6) rfl rfl ?_
    show own_S p e below T1 (mkF m 7 #[vr sa] [xr sa]) _
    refine st2 _ ?_
    show own_S p e below T2 (mkF m 10 #[vr sa] [xi (1 : Int32)]) _
    refine XS.ifYes X2.here hx rfl (pc0 := 10) (pc' := 17) rfl (hb hby d15_10) rfl (by decide) (by decide) (by decide) ?_
    refine XS.iconst X2.here hx rfl (hb hby d15_17) ?_
    show own_S p e below T2 (mkF m 18 #[vr sa] [xi (0 : Int32)]) _
    exact retN X2 hx (t := .boolean) Bd.returns (by simp) (hb hby d15_18) hr
  · exact ⟨rfl, N0, e2⟩
theorem own_half2 {N : Nat} (h : 2 * N < 2147483648) : (Int32.ofNat (2 * N) >>> ((1 : Int32) &&& 31)) = Int32.ofNat N := by
  rw [own_half h, show 2 * N / 2 = N from by omega]
theorem d12_0 : decode jdk_42_method_54_code 0 = .ok (.aload_n 0, 1) := by decide +kernel
theorem d12_1 : decode jdk_42_method_54_code 1 = .ok (.getfield 9, 3) := by decide +kernel
theorem d12_4 : decode jdk_42_method_54_code 4 = .ok (.arraylength, 1) := by decide +kernel
theorem d12_5 : decode jdk_42_method_54_code 5 = .ok (.aload_n 0, 1) := by decide +kernel
theorem d12_6 : decode jdk_42_method_54_code 6 = .ok (.invokevirtual 335, 3) := by decide +kernel
theorem pd8 : parseMethodDescriptor "()B" = some ⟨[], some .byte⟩ := by decide +kernel
theorem d12_9 : decode jdk_42_method_54_code 9 = .ok (.ishr, 1) := by decide +kernel
theorem d12_10 : decode jdk_42_method_54_code 10 = .ok (.ireturn, 1) := by decide +kernel
abbrev Y13 : MethodName := (⟨"java/lang/String", "length", "()I"⟩ : MethodName)
theorem ef_own_length0 (m : MethodId)  (ki0 : Int32) (vf0 : Value) (sa : Addr) (b : Addr) (kd : ClassId) (N : Nat) (g : Nat → Int32) : entryFrame m #[xr sa] 1 = (mkF m 0 #[vr sa] []) := by first | (simp [entryFrame, mkF, argsToLocals, Value.category]; done) | rfl
set_option maxRecDepth 65536 in
set_option maxHeartbeats 40000000 in
theorem own_length0 (l : Launch) (Z : State) (a0 : Array Value) (hw : ∀ d ∈ tables_1, d.before a0 Z = true) (hj : ∀ d ∈ jdkStatics_1, d.before a0 Z = true)  (ki0 : Int32) (vf0 : Value) (G : own_St Z hj ki0 vf0) (sa : Addr) (b : Addr) (kd : ClassId) (N : Nat) (g : Nat → Int32) (h0 : Heap) (n0 : Nat) (O0 : Old Z n0 h0) (hM : N < 2147483648) (gS : own_SS Z h0 sa b kd N (0 : Int32) g) : own_Met l Z Y13 jdk_42_method_54_code 1 (some .int) ({ frames := 1, cells := 0, slots := 0, locals := 13 } : Room) #[xr sa] h0 (own_QR (some (xi (Int32.ofNat N))) h0 n0) := by
  intro ws
  refine MetFree.of_bodySF (plainFor_of_name pn1) hisR ?_
  intro p e s m args below meth c s₁ Bd hml0 hP hK
  obtain ⟨rfl, hZ, hh⟩ := hP
  have hx := Bd.exec
  have hby := Bd.bytes
  have hml : c.maxLocals = 1 := hml0
  have hown : s.vm.findClass "java/lang/String" = some m.cls := findClass_of_methodNamed Bd.named
  have hnm := (name_of_methodNamed Bd.named Bd.method).1
  have X0 : Stand p l e ({ frames := 1, cells := 0, slots := 0, locals := 13 } : Room) s m #[xr sa] below meth c s₁ [] 0 0 := Stand.of_body Bd
  have e0 : s₁.heap = h0 := by rw [← hh, Bd.state]; rfl
  have N0 := Fr.nil n0
  have pre0 : ∀ t, Steps p.tables e below (s₁.setTop (mkF m 0 #[vr sa] [])) t → Steps p.tables e below (s₁.setTop (entryFrame m #[xr sa] 1)) t := fun t st => castTop (ef_own_length0 m ki0 vf0 sa b kd N g) st
  obtain ⟨EA, FC, FV, VB⟩ := id gS
  obtain ⟨T1, X1, e1, st1⟩ := getF X0 hx hZ hown (host := "") (Or.inl (ww hw 40 rfl)) Via.refl e0 FV (g := (mkF m 1 #[vr sa] [xr sa])) rfl rfl (hb hby d12_1)
  obtain ⟨cl2, Ar2, q2, S2, N2_, H2, G2⟩ := id VB
  obtain ⟨cq3, kq3, qa3, qb3, qc3⟩ := isOf hZ e1 EA
  obtain ⟨_, _, ⟨T3, L3, k3, n3⟩, -, X3, ⟨Lc3, hQ3, l3, y3, z3⟩, st3⟩ := X1.virtualBack hx (y := Y11) (z := Y11) hown (mvT hZ (ww hw 54 rfl)) (mvT hZ (ww hw 55 rfl)) (notFace_of_selects (args := #[]) (mvT hZ (ww hw 57 rfl))) (mvT hZ (ww hw 57 rfl)) (mvT hZ (ww hw 56 rfl)) (by decide) (backOf (W := 1) (own_coder0 l Z a0 hw hj ki0 vf0 G sa b kd N g h0 n0 O0 hM ⟨EA, FC, FV, VB⟩ []) hZ (ww hw 58 rfl) (ww hw 15 rfl) (by decide) (by decide)) qa3 qc3 (g := (mkF m 6 #[vr sa] [xr sa, xi (Int32.ofNat N)])) rfl (by rw [hml]; rfl) (Steps.refl _) (argsL := []) (rest := [xi (Int32.ofNat N)]) (lenOf pd8 rfl) rfl (by show 2 * 0 + _ ≤ _; exact Nat.le_of_eq rfl) (hb hby d12_6) (fun _ _ => ⟨rfl, e1, (by decide : 0 + 0 ≤ _), (by decide : 0 + 0 ≤ _)⟩)
  dsimp only [Pt.U, Pt.locs, Pt.cells, Pt.slots] at X3 l3 y3 z3 st3 hQ3
  subst l3 y3 z3
  obtain ⟨rfl, Nq3, e3⟩ := hQ3
  have N3 := Fr.app N0 Nq3
  obtain ⟨fs, hr, hrun, hended, hW, hsame⟩ := X3.leave (v := some (xi (Int32.ofNat N))) (fun h => by rw [Bd.returns] at h; cases h)
  refine ⟨_, _, pre0 _ ?_, hrun, hended, _, _, rfl, ?_, ⟨_, rfl⟩, hW, hsame.mono (by decide) (by decide)⟩
  · show own_S p e below s₁ (mkF m 0 #[vr sa] []) _
    refine XS.aloadN X0.here hx rfl (hb hby d12_0) rfl rfl ?_
    show own_S p e below s₁ (mkF m 1 #[vr sa] [xr sa]) _
    refine st1 _ ?_
    show own_S p e below T1 (mkF m 4 #[vr sa] [xr b]) _
    refine X1.arraylength hx (by rw [e1]; exact Ar2.1) (State.isArrayOf_alike hZ.alike Ar2.2.1) (g := (mkF m 4 #[vr sa] [xr b])) rfl rfl (hb hby d12_4) _ ?_
    refine castTop (show (mkF m 5 #[vr sa] [xi cl2.slots.size.toInt32]) = (mkF m 5 #[vr sa] [xi (Int32.ofNat N)]) from by rw [len_of S2 N2_]) ?_
    refine XS.aloadN X1.here hx rfl (hb hby d12_5) rfl rfl ?_
    show own_S p e below T1 (mkF m 6 #[vr sa] [xr sa, xi (Int32.ofNat N)]) _
    refine st3.trans ?_
    show own_S p e below T3 (mkF m 9 #[vr sa] [xi (0 : Int32), xi (Int32.ofNat N)]) _
    refine XS.ishr X3.here hx rfl (hb hby d12_9) rfl ?_
    show own_S p e below T3 (mkF m 10 #[vr sa] [xi ((Int32.ofNat N) >>> ((0 : Int32) &&& 31))]) _
    refine castTop (show (mkF m 10 #[vr sa] [xi ((Int32.ofNat N) >>> ((0 : Int32) &&& 31))]) = (mkF m 10 #[vr sa] [xi (Int32.ofNat N)]) from by rw [own_sh0]) ?_
    show own_S p e below T3 (mkF m 10 #[vr sa] [xi (Int32.ofNat N)]) _
    exact retI X3 hx Bd.returns (hb hby d12_10) hr
  · exact ⟨rfl, N3, e3⟩
theorem ef_own_length1 (m : MethodId)  (ki0 : Int32) (vf0 : Value) (sa : Addr) (b : Addr) (kd : ClassId) (N : Nat) (g : Nat → Int32) : entryFrame m #[xr sa] 1 = (mkF m 0 #[vr sa] []) := by first | (simp [entryFrame, mkF, argsToLocals, Value.category]; done) | rfl
set_option maxRecDepth 65536 in
set_option maxHeartbeats 40000000 in
theorem own_length1 (l : Launch) (Z : State) (a0 : Array Value) (hw : ∀ d ∈ tables_1, d.before a0 Z = true) (hj : ∀ d ∈ jdkStatics_1, d.before a0 Z = true)  (ki0 : Int32) (vf0 : Value) (G : own_St Z hj ki0 vf0) (sa : Addr) (b : Addr) (kd : ClassId) (N : Nat) (g : Nat → Int32) (h0 : Heap) (n0 : Nat) (O0 : Old Z n0 h0) (hM : (2 * N) < 2147483648) (gS : own_SS Z h0 sa b kd (2 * N) (1 : Int32) g) : own_Met l Z Y13 jdk_42_method_54_code 1 (some .int) ({ frames := 1, cells := 0, slots := 0, locals := 13 } : Room) #[xr sa] h0 (own_QR (some (xi (Int32.ofNat N))) h0 n0) := by
  intro ws
  refine MetFree.of_bodySF (plainFor_of_name pn1) hisR ?_
  intro p e s m args below meth c s₁ Bd hml0 hP hK
  obtain ⟨rfl, hZ, hh⟩ := hP
  have hx := Bd.exec
  have hby := Bd.bytes
  have hml : c.maxLocals = 1 := hml0
  have hown : s.vm.findClass "java/lang/String" = some m.cls := findClass_of_methodNamed Bd.named
  have hnm := (name_of_methodNamed Bd.named Bd.method).1
  have X0 : Stand p l e ({ frames := 1, cells := 0, slots := 0, locals := 13 } : Room) s m #[xr sa] below meth c s₁ [] 0 0 := Stand.of_body Bd
  have e0 : s₁.heap = h0 := by rw [← hh, Bd.state]; rfl
  have N0 := Fr.nil n0
  have pre0 : ∀ t, Steps p.tables e below (s₁.setTop (mkF m 0 #[vr sa] [])) t → Steps p.tables e below (s₁.setTop (entryFrame m #[xr sa] 1)) t := fun t st => castTop (ef_own_length1 m ki0 vf0 sa b kd N g) st
  obtain ⟨EA, FC, FV, VB⟩ := id gS
  obtain ⟨T1, X1, e1, st1⟩ := getF X0 hx hZ hown (host := "") (Or.inl (ww hw 40 rfl)) Via.refl e0 FV (g := (mkF m 1 #[vr sa] [xr sa])) rfl rfl (hb hby d12_1)
  obtain ⟨cl2, Ar2, q2, S2, N2_, H2, G2⟩ := id VB
  obtain ⟨cq3, kq3, qa3, qb3, qc3⟩ := isOf hZ e1 EA
  obtain ⟨_, _, ⟨T3, L3, k3, n3⟩, -, X3, ⟨Lc3, hQ3, l3, y3, z3⟩, st3⟩ := X1.virtualBack hx (y := Y11) (z := Y11) hown (mvT hZ (ww hw 54 rfl)) (mvT hZ (ww hw 55 rfl)) (notFace_of_selects (args := #[]) (mvT hZ (ww hw 57 rfl))) (mvT hZ (ww hw 57 rfl)) (mvT hZ (ww hw 56 rfl)) (by decide) (backOf (W := 1) (own_coder1 l Z a0 hw hj ki0 vf0 G sa b kd (2 * N) g h0 n0 O0 hM ⟨EA, FC, FV, VB⟩ []) hZ (ww hw 58 rfl) (ww hw 15 rfl) (by decide) (by decide)) qa3 qc3 (g := (mkF m 6 #[vr sa] [xr sa, xi (Int32.ofNat (2 * N))])) rfl (by rw [hml]; rfl) (Steps.refl _) (argsL := []) (rest := [xi (Int32.ofNat (2 * N))]) (lenOf pd8 rfl) rfl (by show 2 * 0 + _ ≤ _; exact Nat.le_of_eq rfl) (hb hby d12_6) (fun _ _ => ⟨rfl, e1, (by decide : 0 + 0 ≤ _), (by decide : 0 + 0 ≤ _)⟩)
  dsimp only [Pt.U, Pt.locs, Pt.cells, Pt.slots] at X3 l3 y3 z3 st3 hQ3
  subst l3 y3 z3
  obtain ⟨rfl, Nq3, e3⟩ := hQ3
  have N3 := Fr.app N0 Nq3
  obtain ⟨fs, hr, hrun, hended, hW, hsame⟩ := X3.leave (v := some (xi (Int32.ofNat N))) (fun h => by rw [Bd.returns] at h; cases h)
  refine ⟨_, _, pre0 _ ?_, hrun, hended, _, _, rfl, ?_, ⟨_, rfl⟩, hW, hsame.mono (by decide) (by decide)⟩
  · show own_S p e below s₁ (mkF m 0 #[vr sa] []) _
    refine XS.aloadN X0.here hx rfl (hb hby d12_0) rfl rfl ?_
    show own_S p e below s₁ (mkF m 1 #[vr sa] [xr sa]) _
    refine st1 _ ?_
    show own_S p e below T1 (mkF m 4 #[vr sa] [xr b]) _
    refine X1.arraylength hx (by rw [e1]; exact Ar2.1) (State.isArrayOf_alike hZ.alike Ar2.2.1) (g := (mkF m 4 #[vr sa] [xr b])) rfl rfl (hb hby d12_4) _ ?_
    refine castTop (show (mkF m 5 #[vr sa] [xi cl2.slots.size.toInt32]) = (mkF m 5 #[vr sa] [xi (Int32.ofNat (2 * N))]) from by rw [len_of S2 N2_]) ?_
    refine XS.aloadN X1.here hx rfl (hb hby d12_5) rfl rfl ?_
    show own_S p e below T1 (mkF m 6 #[vr sa] [xr sa, xi (Int32.ofNat (2 * N))]) _
    refine st3.trans ?_
    show own_S p e below T3 (mkF m 9 #[vr sa] [xi (1 : Int32), xi (Int32.ofNat (2 * N))]) _
    refine XS.ishr X3.here hx rfl (hb hby d12_9) rfl ?_
    show own_S p e below T3 (mkF m 10 #[vr sa] [xi ((Int32.ofNat (2 * N)) >>> ((1 : Int32) &&& 31))]) _
    refine castTop (show (mkF m 10 #[vr sa] [xi ((Int32.ofNat (2 * N)) >>> ((1 : Int32) &&& 31))]) = (mkF m 10 #[vr sa] [xi (Int32.ofNat N)]) from by rw [own_half2 hM]) ?_
    show own_S p e below T3 (mkF m 10 #[vr sa] [xi (Int32.ofNat N)]) _
    exact retI X3 hx Bd.returns (hb hby d12_10) hr
  · exact ⟨rfl, N3, e3⟩
theorem own_lt0 {i N : Nat} (h : i < N) (hN : N < 2147483648) : ifCond.holds .lt (Int32.ofNat i) = false := by rw [if0]; exact (flt (own_in h hN).1).1
theorem d18_0 : decode jdk_41_method_11_code 0 = .ok (.iload_n 0, 1) := by decide +kernel
theorem d18_1 : decode jdk_41_method_11_code 1 = .ok (.ifCond .lt 8, 3) := by decide +kernel
theorem d18_4 : decode jdk_41_method_11_code 4 = .ok (.iload_n 0, 1) := by decide +kernel
theorem d18_5 : decode jdk_41_method_11_code 5 = .ok (.iload_n 1, 1) := by decide +kernel
theorem d18_6 : decode jdk_41_method_11_code 6 = .ok (.if_icmp .lt 10, 3) := by decide +kernel
theorem d18_16 : decode jdk_41_method_11_code 16 = .ok (.iload_n 0, 1) := by decide +kernel
theorem d18_17 : decode jdk_41_method_11_code 17 = .ok (.ireturn, 1) := by decide +kernel
abbrev Y14 : MethodName := (⟨"jdk/internal/util/Preconditions", "checkIndex", "(IILjava/util/function/BiFunction;)I"⟩ : MethodName)
theorem pn3 : plainName "jdk/internal/util/Preconditions" = true := by first | (simp [plainName, overriddenIn]; done) | decide +kernel
theorem ef_own_pci_n (m : MethodId)  (ki0 : Int32) (vf0 : Value) (i : Nat) (N : Nat) : entryFrame m #[xi (Int32.ofNat i), xi (Int32.ofNat N), .null] 3 = (mkF m 0 #[vi (Int32.ofNat i), vi (Int32.ofNat N), vn] []) := by first | (simp [entryFrame, mkF, argsToLocals, Value.category]; done) | rfl
set_option maxRecDepth 65536 in
set_option maxHeartbeats 40000000 in
theorem own_pci_n (l : Launch) (Z : State) (a0 : Array Value) (hw : ∀ d ∈ tables_1, d.before a0 Z = true) (hj : ∀ d ∈ jdkStatics_1, d.before a0 Z = true)  (ki0 : Int32) (vf0 : Value) (G : own_St Z hj ki0 vf0) (i : Nat) (N : Nat) (h0 : Heap) (n0 : Nat) (O0 : Old Z n0 h0) (hlt : i < N) (hN : N < 2147483648) : own_Met l Z Y14 jdk_41_method_11_code 3 (some .int) ({ frames := 0, cells := 0, slots := 0, locals := 0 } : Room) #[xi (Int32.ofNat i), xi (Int32.ofNat N), .null] h0 (own_QR (some (xi (Int32.ofNat i))) h0 n0) := by
  intro ws
  refine MetFree.of_bodySF (plainFor_of_name pn3) hisR ?_
  intro p e s m args below meth c s₁ Bd hml0 hP hK
  obtain ⟨rfl, hZ, hh⟩ := hP
  have hx := Bd.exec
  have hby := Bd.bytes
  have hml : c.maxLocals = 3 := hml0
  have hown : s.vm.findClass "jdk/internal/util/Preconditions" = some m.cls := findClass_of_methodNamed Bd.named
  have hnm := (name_of_methodNamed Bd.named Bd.method).1
  have X0 : Stand p l e ({ frames := 0, cells := 0, slots := 0, locals := 0 } : Room) s m #[xi (Int32.ofNat i), xi (Int32.ofNat N), .null] below meth c s₁ [] 0 0 := Stand.of_body Bd
  have e0 : s₁.heap = h0 := by rw [← hh, Bd.state]; rfl
  have N0 := Fr.nil n0
  have pre0 : ∀ t, Steps p.tables e below (s₁.setTop (mkF m 0 #[vi (Int32.ofNat i), vi (Int32.ofNat N), vn] [])) t → Steps p.tables e below (s₁.setTop (entryFrame m #[xi (Int32.ofNat i), xi (Int32.ofNat N), .null] 3)) t := fun t st => castTop (ef_own_pci_n m ki0 vf0 i N) st
  obtain ⟨fs, hr, hrun, hended, hW, hsame⟩ := X0.leave (v := some (xi (Int32.ofNat i))) (fun h => by rw [Bd.returns] at h; cases h)
  refine ⟨_, _, pre0 _ ?_, hrun, hended, _, _, rfl, ?_, ⟨_, rfl⟩, hW, hsame.mono (by decide) (by decide)⟩
  · show own_S p e below s₁ (mkF m 0 #[vi (Int32.ofNat i), vi (Int32.ofNat N), vn] []) _
    refine XS.iloadN X0.here hx rfl (hb hby d18_0) rfl ?_
    show own_S p e below s₁ (mkF m 1 #[vi (Int32.ofNat i), vi (Int32.ofNat N), vn] [xi (Int32.ofNat i)]) _
    refine XS.ifNo X0.here hx rfl (hb hby d18_1) rfl (own_lt0 hlt hN) ?_
    refine XS.iloadN X0.here hx rfl (hb hby d18_4) rfl ?_
    refine XS.iloadN X0.here hx rfl (hb hby d18_5) rfl ?_
    show own_S p e below s₁ (mkF m 6 #[vi (Int32.ofNat i), vi (Int32.ofNat N), vn] [xi (Int32.ofNat N), xi (Int32.ofNat i)]) _
    refine XS.icmpYes X0.here hx rfl (pc0 := 6) (pc' := 16) rfl (hb hby d18_6) rfl (tlt (own_in hlt hN).2).1 (by decide) (by decide) ?_
    refine XS.iloadN X0.here hx rfl (hb hby d18_16) rfl ?_
    show own_S p e below s₁ (mkF m 17 #[vi (Int32.ofNat i), vi (Int32.ofNat N), vn] [xi (Int32.ofNat i)]) _
    exact retI X0 hx Bd.returns (hb hby d18_17) hr
  · exact ⟨rfl, N0, e0⟩
theorem ef_own_pci_r (m : MethodId)  (ki0 : Int32) (vf0 : Value) (i : Nat) (N : Nat) (fr : Addr) : entryFrame m #[xi (Int32.ofNat i), xi (Int32.ofNat N), xr fr] 3 = (mkF m 0 #[vi (Int32.ofNat i), vi (Int32.ofNat N), vr fr] []) := by first | (simp [entryFrame, mkF, argsToLocals, Value.category]; done) | rfl
set_option maxRecDepth 65536 in
set_option maxHeartbeats 40000000 in
theorem own_pci_r (l : Launch) (Z : State) (a0 : Array Value) (hw : ∀ d ∈ tables_1, d.before a0 Z = true) (hj : ∀ d ∈ jdkStatics_1, d.before a0 Z = true)  (ki0 : Int32) (vf0 : Value) (G : own_St Z hj ki0 vf0) (i : Nat) (N : Nat) (fr : Addr) (h0 : Heap) (n0 : Nat) (O0 : Old Z n0 h0) (hlt : i < N) (hN : N < 2147483648) : own_Met l Z Y14 jdk_41_method_11_code 3 (some .int) ({ frames := 0, cells := 0, slots := 0, locals := 0 } : Room) #[xi (Int32.ofNat i), xi (Int32.ofNat N), xr fr] h0 (own_QR (some (xi (Int32.ofNat i))) h0 n0) := by
  intro ws
  refine MetFree.of_bodySF (plainFor_of_name pn3) hisR ?_
  intro p e s m args below meth c s₁ Bd hml0 hP hK
  obtain ⟨rfl, hZ, hh⟩ := hP
  have hx := Bd.exec
  have hby := Bd.bytes
  have hml : c.maxLocals = 3 := hml0
  have hown : s.vm.findClass "jdk/internal/util/Preconditions" = some m.cls := findClass_of_methodNamed Bd.named
  have hnm := (name_of_methodNamed Bd.named Bd.method).1
  have X0 : Stand p l e ({ frames := 0, cells := 0, slots := 0, locals := 0 } : Room) s m #[xi (Int32.ofNat i), xi (Int32.ofNat N), xr fr] below meth c s₁ [] 0 0 := Stand.of_body Bd
  have e0 : s₁.heap = h0 := by rw [← hh, Bd.state]; rfl
  have N0 := Fr.nil n0
  have pre0 : ∀ t, Steps p.tables e below (s₁.setTop (mkF m 0 #[vi (Int32.ofNat i), vi (Int32.ofNat N), vr fr] [])) t → Steps p.tables e below (s₁.setTop (entryFrame m #[xi (Int32.ofNat i), xi (Int32.ofNat N), xr fr] 3)) t := fun t st => castTop (ef_own_pci_r m ki0 vf0 i N fr) st
  obtain ⟨fs, hr, hrun, hended, hW, hsame⟩ := X0.leave (v := some (xi (Int32.ofNat i))) (fun h => by rw [Bd.returns] at h; cases h)
  refine ⟨_, _, pre0 _ ?_, hrun, hended, _, _, rfl, ?_, ⟨_, rfl⟩, hW, hsame.mono (by decide) (by decide)⟩
  · show own_S p e below s₁ (mkF m 0 #[vi (Int32.ofNat i), vi (Int32.ofNat N), vr fr] []) _
    refine XS.iloadN X0.here hx rfl (hb hby d18_0) rfl ?_
    show own_S p e below s₁ (mkF m 1 #[vi (Int32.ofNat i), vi (Int32.ofNat N), vr fr] [xi (Int32.ofNat i)]) _
    refine XS.ifNo X0.here hx rfl (hb hby d18_1) rfl (own_lt0 hlt hN) ?_
    refine XS.iloadN X0.here hx rfl (hb hby d18_4) rfl ?_
    refine XS.iloadN X0.here hx rfl (hb hby d18_5) rfl ?_
    show own_S p e below s₁ (mkF m 6 #[vi (Int32.ofNat i), vi (Int32.ofNat N), vr fr] [xi (Int32.ofNat N), xi (Int32.ofNat i)]) _
    refine XS.icmpYes X0.here hx rfl (pc0 := 6) (pc' := 16) rfl (hb hby d18_6) rfl (tlt (own_in hlt hN).2).1 (by decide) (by decide) ?_
    refine XS.iloadN X0.here hx rfl (hb hby d18_16) rfl ?_
    show own_S p e below s₁ (mkF m 17 #[vi (Int32.ofNat i), vi (Int32.ofNat N), vr fr] [xi (Int32.ofNat i)]) _
    exact retI X0 hx Bd.returns (hb hby d18_17) hr
  · exact ⟨rfl, N0, e0⟩
theorem own_pci (l : Launch) (Z : State) (a0 : Array Value) (hw : ∀ d ∈ tables_1, d.before a0 Z = true) (hj : ∀ d ∈ jdkStatics_1, d.before a0 Z = true)  (ki0 : Int32) (vf0 : Value) (G : own_St Z hj ki0 vf0) (i N : Nat) (v : Value) (hv : v.isRef = true) (h0 : Heap) (n0 : Nat) (O0 : Old Z n0 h0) (hlt : i < N) (hN : N < 2147483648) : own_Met l Z Y14 jdk_41_method_11_code 3 (some .int) ({ frames := 0, cells := 0, slots := 0, locals := 0 } : Room) #[xi (Int32.ofNat i), xi (Int32.ofNat N), v] h0 (own_QR (some (xi (Int32.ofNat i))) h0 n0) := by
  rcases ref_cases hv with rfl | ⟨fr, rfl⟩
  · exact own_pci_n l Z a0 hw hj ki0 vf0 G i N h0 n0 O0 hlt hN
  · exact own_pci_r l Z a0 hw hj ki0 vf0 G i N fr h0 n0 O0 hlt hN
theorem d17_0 : decode jdk_42_method_155_code 0 = .ok (.iload_n 0, 1) := by decide +kernel
theorem d17_1 : decode jdk_42_method_155_code 1 = .ok (.iload_n 1, 1) := by decide +kernel
theorem d17_2 : decode jdk_42_method_155_code 2 = .ok (.getstatic 1053, 3) := by decide +kernel
theorem d17_5 : decode jdk_42_method_155_code 5 = .ok (.invokestatic 1059, 3) := by decide +kernel
theorem pd9 : parseMethodDescriptor "(IILjava/util/function/BiFunction;)I" = some ⟨[.int, .int, (.object "java/util/function/BiFunction")], some .int⟩ := by decide +kernel
theorem d17_8 : decode jdk_42_method_155_code 8 = .ok (.pop, 1) := by decide +kernel
theorem d17_9 : decode jdk_42_method_155_code 9 = .ok (.return_, 1) := by decide +kernel
abbrev Y15 : MethodName := (⟨"java/lang/String", "checkIndex", "(II)V"⟩ : MethodName)
theorem ef_own_ci (m : MethodId)  (ki0 : Int32) (vf0 : Value) (i : Nat) (N : Nat) : entryFrame m #[xi (Int32.ofNat i), xi (Int32.ofNat N)] 2 = (mkF m 0 #[vi (Int32.ofNat i), vi (Int32.ofNat N)] []) := by first | (simp [entryFrame, mkF, argsToLocals, Value.category]; done) | rfl
set_option maxRecDepth 65536 in
set_option maxHeartbeats 40000000 in
theorem own_ci (l : Launch) (Z : State) (a0 : Array Value) (hw : ∀ d ∈ tables_1, d.before a0 Z = true) (hj : ∀ d ∈ jdkStatics_1, d.before a0 Z = true)  (ki0 : Int32) (vf0 : Value) (G : own_St Z hj ki0 vf0) (i : Nat) (N : Nat) (h0 : Heap) (n0 : Nat) (O0 : Old Z n0 h0) (hlt : i < N) (hN : N < 2147483648) : own_Met l Z Y15 jdk_42_method_155_code 2 none ({ frames := 1, cells := 0, slots := 0, locals := 14 } : Room) #[xi (Int32.ofNat i), xi (Int32.ofNat N)] h0 (own_QR (none) h0 n0) := by
  intro ws
  refine MetFree.of_bodySF (plainFor_of_name pn1) hisR ?_
  intro p e s m args below meth c s₁ Bd hml0 hP hK
  obtain ⟨rfl, hZ, hh⟩ := hP
  have hx := Bd.exec
  have hby := Bd.bytes
  have hml : c.maxLocals = 2 := hml0
  have hown : s.vm.findClass "java/lang/String" = some m.cls := findClass_of_methodNamed Bd.named
  have hnm := (name_of_methodNamed Bd.named Bd.method).1
  have X0 : Stand p l e ({ frames := 1, cells := 0, slots := 0, locals := 14 } : Room) s m #[xi (Int32.ofNat i), xi (Int32.ofNat N)] below meth c s₁ [] 0 0 := Stand.of_body Bd
  have e0 : s₁.heap = h0 := by rw [← hh, Bd.state]; rfl
  have N0 := Fr.nil n0
  have pre0 : ∀ t, Steps p.tables e below (s₁.setTop (mkF m 0 #[vi (Int32.ofNat i), vi (Int32.ofNat N)] [])) t → Steps p.tables e below (s₁.setTop (entryFrame m #[xi (Int32.ofNat i), xi (Int32.ofNat N)] 2)) t := fun t st => castTop (ef_own_ci m ki0 vf0 i N) st
  obtain ⟨T1, X1, e1, st1⟩ := getS2 X0 hx hZ hown (host := "") (Or.inl (ww hw 79 rfl)) Via.refl e0 ((own_S_vf0 G).ext O0.2) (g := (mkF m 2 #[vi (Int32.ofNat i), vi (Int32.ofNat N)] [xi (Int32.ofNat N), xi (Int32.ofNat i)])) rfl (hb hby d17_2)
  obtain ⟨_, _, ⟨T2, L2, k2, n2⟩, -, X2, ⟨Lc2, hQ2, l2, y2, z2⟩, st2⟩ := Jvm.LawKit.callS X1 hx (y := Y14) hown (mvT hZ (ww hw 81 rfl)) (mvT hZ (ww hw 82 rfl)) (mvT hZ (ww hw 80 rfl)) (mvT hZ (ww hw 83 rfl)) (by decide) (backOf (W := 0) (own_pci l Z a0 hw hj ki0 vf0 G i N vf0 (own_R_vf0 G) h0 n0 O0 hlt hN []) hZ (ww hw 83 rfl) (ww hw 80 rfl) (by decide) (by decide)) (g := (mkF m 5 #[vi (Int32.ofNat i), vi (Int32.ofNat N)] [vf0, xi (Int32.ofNat N), xi (Int32.ofNat i)])) rfl (by rw [hml]; rfl) (argsL := [xi (Int32.ofNat i), xi (Int32.ofNat N), vf0]) (rest := []) (lenOf pd9 rfl) rfl (by show 2 * 0 + _ ≤ _; exact Nat.le_of_eq rfl) (hb hby d17_5) (fun _ _ => ⟨rfl, e1, (by decide : 0 + 0 ≤ _), (by decide : 0 + 0 ≤ _)⟩)
  dsimp only [Pt.U, Pt.locs, Pt.cells, Pt.slots] at X2 l2 y2 z2 st2 hQ2
  subst l2 y2 z2
  obtain ⟨rfl, Nq2, e2⟩ := hQ2
  have N2 := Fr.app N0 Nq2
  obtain ⟨fs, hr, hrun, hended, hW, hsame⟩ := X2.leave (v := none) (fun _ => rfl)
  refine ⟨_, _, pre0 _ ?_, hrun, hended, _, _, rfl, ?_, ⟨_, rfl⟩, hW, hsame.mono (by decide) (by decide)⟩
  · show own_S p e below s₁ (mkF m 0 #[vi (Int32.ofNat i), vi (Int32.ofNat N)] []) _
    refine XS.iloadN X0.here hx rfl (hb hby d17_0) rfl ?_
    refine XS.iloadN X0.here hx rfl (hb hby d17_1) rfl ?_
    show own_S p e below s₁ (mkF m 2 #[vi (Int32.ofNat i), vi (Int32.ofNat N)] [xi (Int32.ofNat N), xi (Int32.ofNat i)]) _
    refine st1 _ ?_
    show own_S p e below T1 (mkF m 5 #[vi (Int32.ofNat i), vi (Int32.ofNat N)] [vf0, xi (Int32.ofNat N), xi (Int32.ofNat i)]) _
    refine st2 _ ?_
    show own_S p e below T2 (mkF m 8 #[vi (Int32.ofNat i), vi (Int32.ofNat N)] [xi (Int32.ofNat i)]) _
    refine XS.pop X2.here hx rfl (hb hby d17_8) rfl rfl ?_
    show own_S p e below T2 (mkF m 9 #[vi (Int32.ofNat i), vi (Int32.ofNat N)] []) _
    exact X2.returnOut hx Bd.returns (hb hby d17_9) hr
  · exact ⟨rfl, N2, e2⟩
theorem d16_0 : decode jdk_43_method_2_code 0 = .ok (.iload_n 1, 1) := by decide +kernel
theorem d16_1 : decode jdk_43_method_2_code 1 = .ok (.aload_n 0, 1) := by decide +kernel
theorem d16_2 : decode jdk_43_method_2_code 2 = .ok (.arraylength, 1) := by decide +kernel
theorem d16_3 : decode jdk_43_method_2_code 3 = .ok (.invokestatic 9, 3) := by decide +kernel
theorem pd10 : parseMethodDescriptor "(II)V" = some ⟨[.int, .int], none⟩ := by decide +kernel
theorem d16_6 : decode jdk_43_method_2_code 6 = .ok (.aload_n 0, 1) := by decide +kernel
theorem d16_7 : decode jdk_43_method_2_code 7 = .ok (.iload_n 1, 1) := by decide +kernel
theorem d16_8 : decode jdk_43_method_2_code 8 = .ok (.baload, 1) := by decide +kernel
theorem d16_9 : decode jdk_43_method_2_code 9 = .ok (.sipush 255, 3) := by decide +kernel
theorem d16_12 : decode jdk_43_method_2_code 12 = .ok (.iand, 1) := by decide +kernel
theorem d16_13 : decode jdk_43_method_2_code 13 = .ok (.i2c, 1) := by decide +kernel
theorem d16_14 : decode jdk_43_method_2_code 14 = .ok (.ireturn, 1) := by decide +kernel
abbrev Y16 : MethodName := (⟨"java/lang/StringLatin1", "charAt", "([BI)C"⟩ : MethodName)
theorem pn4 : plainName "java/lang/StringLatin1" = true := by first | (simp [plainName, overriddenIn]; done) | decide +kernel
theorem ef_own_l1_ (m : MethodId)  (ki0 : Int32) (vf0 : Value) (b : Addr) (kd : ClassId) (i : Nat) (N : Nat) (g : Nat → Int32) : entryFrame m #[xr b, xi (Int32.ofNat i)] 2 = (mkF m 0 #[vr b, vi (Int32.ofNat i)] []) := by first | (simp [entryFrame, mkF, argsToLocals, Value.category]; done) | rfl
set_option maxRecDepth 65536 in
set_option maxHeartbeats 40000000 in
theorem own_l1_ (l : Launch) (Z : State) (a0 : Array Value) (hw : ∀ d ∈ tables_1, d.before a0 Z = true) (hj : ∀ d ∈ jdkStatics_1, d.before a0 Z = true)  (ki0 : Int32) (vf0 : Value) (G : own_St Z hj ki0 vf0) (b : Addr) (kd : ClassId) (i : Nat) (N : Nat) (g : Nat → Int32) (h0 : Heap) (n0 : Nat) (O0 : Old Z n0 h0) (hM : N < 2147483648) (VB : Arv Z h0 b kd .byte (Int32.ofNat N) (own_vs g N) (.int (0 : Int32))) (hlt : i < N) : own_Met l Z Y16 jdk_43_method_2_code 2 (some .char) ({ frames := 2, cells := 0, slots := 0, locals := 27 } : Room) #[xr b, xi (Int32.ofNat i)] h0 (own_QR (some (xi (nar .char (((g i) &&& (255 : Int32)).toUInt32.toUInt16.toUInt32.toInt32)))) h0 n0) := by
  intro ws
  refine MetFree.of_bodySF (plainFor_of_name pn4) hisR ?_
  intro p e s m args below meth c s₁ Bd hml0 hP hK
  obtain ⟨rfl, hZ, hh⟩ := hP
  have hx := Bd.exec
  have hby := Bd.bytes
  have hml : c.maxLocals = 2 := hml0
  have hown : s.vm.findClass "java/lang/StringLatin1" = some m.cls := findClass_of_methodNamed Bd.named
  have hnm := (name_of_methodNamed Bd.named Bd.method).1
  have X0 : Stand p l e ({ frames := 2, cells := 0, slots := 0, locals := 27 } : Room) s m #[xr b, xi (Int32.ofNat i)] below meth c s₁ [] 0 0 := Stand.of_body Bd
  have e0 : s₁.heap = h0 := by rw [← hh, Bd.state]; rfl
  have N0 := Fr.nil n0
  have pre0 : ∀ t, Steps p.tables e below (s₁.setTop (mkF m 0 #[vr b, vi (Int32.ofNat i)] [])) t → Steps p.tables e below (s₁.setTop (entryFrame m #[xr b, xi (Int32.ofNat i)] 2)) t := fun t st => castTop (ef_own_l1_ m ki0 vf0 b kd i N g) st
  obtain ⟨cl1, Ar1, q1, S1, N1_, H1, G1⟩ := id VB
  obtain ⟨_, _, ⟨T2, L2, k2, n2⟩, -, X2, ⟨Lc2, hQ2, l2, y2, z2⟩, st2⟩ := Jvm.LawKit.callS X0 hx (y := Y15) hown (mvT hZ (ww hw 76 rfl)) (mvT hZ (ww hw 77 rfl)) (mvT hZ (ww hw 15 rfl)) (mvT hZ (ww hw 78 rfl)) (by decide) (backOf (W := 0) (own_ci l Z a0 hw hj ki0 vf0 G i N h0 n0 O0 hlt hM []) hZ (ww hw 78 rfl) (ww hw 15 rfl) (by decide) (by decide)) (g := (mkF m 3 #[vr b, vi (Int32.ofNat i)] [xi (Int32.ofNat N), xi (Int32.ofNat i)])) rfl (by rw [hml]; rfl) (argsL := [xi (Int32.ofNat i), xi (Int32.ofNat N)]) (rest := []) (lenOf pd10 rfl) rfl (by show 2 * 0 + _ ≤ _; exact Nat.le_of_eq rfl) (hb hby d16_3) (fun _ _ => ⟨rfl, e0, (by decide : 0 + 0 ≤ _), (by decide : 0 + 0 ≤ _)⟩)
  dsimp only [Pt.U, Pt.locs, Pt.cells, Pt.slots] at X2 l2 y2 z2 st2 hQ2
  subst l2 y2 z2
  obtain ⟨rfl, Nq2, e2⟩ := hQ2
  have N2 := Fr.app N0 Nq2
  obtain ⟨cl3, Ar3, q3, S3, N3_, H3, G3⟩ := id VB
  have hin3 : ¬ ((Int32.ofNat i) < 0 ∨ cl3.slots.size ≤ ((Int32.ofNat i)).toNatClampNeg) := inb_of S3 (own_in hlt hM)
  have hat3 : cl3.slots[((Int32.ofNat i)).toNatClampNeg]? = some (xi (g i)) := Has.at H3 hin3 (by rw [own_nat (Nat.lt_trans hlt hM)]; exact own_vs_get hlt)
  obtain ⟨fs, hr, hrun, hended, hW, hsame⟩ := X2.leave (v := some (xi (nar .char (((g i) &&& (255 : Int32)).toUInt32.toUInt16.toUInt32.toInt32)))) (fun h => by rw [Bd.returns] at h; cases h)
  refine ⟨_, _, pre0 _ ?_, hrun, hended, _, _, rfl, ?_, ⟨_, rfl⟩, hW, hsame.mono (by decide) (by decide)⟩
  · show own_S p e below s₁ (mkF m 0 #[vr b, vi (Int32.ofNat i)] []) _
    refine XS.iloadN X0.here hx rfl (hb hby d16_0) rfl ?_
    refine XS.aloadN X0.here hx rfl (hb hby d16_1) rfl rfl ?_
    show own_S p e below s₁ (mkF m 2 #[vr b, vi (Int32.ofNat i)] [xr b, xi (Int32.ofNat i)]) _
    refine X0.arraylength hx (by rw [e0]; exact Ar1.1) (State.isArrayOf_alike hZ.alike Ar1.2.1) (g := (mkF m 2 #[vr b, vi (Int32.ofNat i)] [xr b, xi (Int32.ofNat i)])) rfl rfl (hb hby d16_2) _ ?_
    refine castTop (show (mkF m 3 #[vr b, vi (Int32.ofNat i)] [xi cl1.slots.size.toInt32, xi (Int32.ofNat i)]) = (mkF m 3 #[vr b, vi (Int32.ofNat i)] [xi (Int32.ofNat N), xi (Int32.ofNat i)]) from by rw [len_of S1 N1_]) ?_
    show own_S p e below s₁ (mkF m 3 #[vr b, vi (Int32.ofNat i)] [xi (Int32.ofNat N), xi (Int32.ofNat i)]) _
    refine st2 _ ?_
    refine XS.aloadN X2.here hx rfl (hb hby d16_6) rfl rfl ?_
    refine XS.iloadN X2.here hx rfl (hb hby d16_7) rfl ?_
    show own_S p e below T2 (mkF m 8 #[vr b, vi (Int32.ofNat i)] [xi (Int32.ofNat i), xr b]) _
    refine X2.baloadBytes hx (j := (Int32.ofNat i)) (v := (xi (g i))) (by rw [e2]; exact Ar3.1) (State.isArrayOf_alike hZ.alike Ar3.2.1) Ar3.2.2 hin3 hat3 (g := (mkF m 8 #[vr b, vi (Int32.ofNat i)] [xi (Int32.ofNat i), xr b])) rfl rfl (hb hby d16_8) _ ?_
    refine XS.sipush X2.here hx rfl (hb hby d16_9) ?_
    show own_S p e below T2 (mkF m 12 #[vr b, vi (Int32.ofNat i)] [xi (255 : Int32), xi (g i)]) _
    refine XS.iand X2.here hx rfl (hb hby d16_12) rfl ?_
    show own_S p e below T2 (mkF m 13 #[vr b, vi (Int32.ofNat i)] [xi ((g i) &&& (255 : Int32))]) _
    show own_S p e below T2 (mkF m 13 #[vr b, vi (Int32.ofNat i)] [xi ((g i) &&& (255 : Int32))]) _
    refine XS.i2c X2.here hx rfl (hb hby d16_13) rfl ?_
    show own_S p e below T2 (mkF m 14 #[vr b, vi (Int32.ofNat i)] [xi (((g i) &&& (255 : Int32)).toUInt32.toUInt16.toUInt32.toInt32)]) _
    show own_S p e below T2 (mkF m 14 #[vr b, vi (Int32.ofNat i)] [xi (((g i) &&& (255 : Int32)).toUInt32.toUInt16.toUInt32.toInt32)]) _
    exact retN X2 hx (t := .char) Bd.returns (by simp) (hb hby d16_14) hr
  · exact ⟨rfl, N2, e2⟩
theorem own_l1 (l : Launch) (Z : State) (a0 : Array Value) (hw : ∀ d ∈ tables_1, d.before a0 Z = true) (hj : ∀ d ∈ jdkStatics_1, d.before a0 Z = true)  (ki0 : Int32) (vf0 : Value) (G : own_St Z hj ki0 vf0) (b : Addr) (kd : ClassId) (i N : Nat) (g : Nat → Int32) (cc : Int32) (hc : (nar .char (((g i) &&& (255 : Int32)).toUInt32.toUInt16.toUInt32.toInt32)) = cc) (h0 : Heap) (n0 : Nat) (O0 : Old Z n0 h0) (hM : N < 2147483648) (VB : Arv Z h0 b kd .byte (Int32.ofNat N) (own_vs g N) (.int (0 : Int32))) (hlt : i < N) : own_Met l Z Y16 jdk_43_method_2_code 2 (some .char) ({ frames := 2, cells := 0, slots := 0, locals := 27 } : Room) #[xr b, xi (Int32.ofNat i)] h0 (own_QR (some (xi cc)) h0 n0) := by
  rw [← hc]; exact own_l1_ l Z a0 hw hj ki0 vf0 G b kd i N g h0 n0 O0 hM VB hlt
theorem d37_0 : decode jdk_52_method_6_code 0 = .ok (.aload_n 0, 1) := by decide +kernel
theorem d37_1 : decode jdk_52_method_6_code 1 = .ok (.arraylength, 1) := by decide +kernel
theorem d37_2 : decode jdk_52_method_6_code 2 = .ok (.iconst 1, 1) := by decide +kernel
theorem d37_3 : decode jdk_52_method_6_code 3 = .ok (.ishr, 1) := by decide +kernel
theorem d37_4 : decode jdk_52_method_6_code 4 = .ok (.ireturn, 1) := by decide +kernel
abbrev Y17 : MethodName := (⟨"java/lang/StringUTF16", "length", "([B)I"⟩ : MethodName)
theorem ef_own_ul (m : MethodId)  (ki0 : Int32) (vf0 : Value) (b : Addr) (kd : ClassId) (N : Nat) (g : Nat → Int32) : entryFrame m #[xr b] 1 = (mkF m 0 #[vr b] []) := by first | (simp [entryFrame, mkF, argsToLocals, Value.category]; done) | rfl
set_option maxRecDepth 65536 in
set_option maxHeartbeats 40000000 in
theorem own_ul (l : Launch) (Z : State) (a0 : Array Value) (hw : ∀ d ∈ tables_1, d.before a0 Z = true) (hj : ∀ d ∈ jdkStatics_1, d.before a0 Z = true)  (ki0 : Int32) (vf0 : Value) (G : own_St Z hj ki0 vf0) (b : Addr) (kd : ClassId) (N : Nat) (g : Nat → Int32) (h0 : Heap) (n0 : Nat) (O0 : Old Z n0 h0) (hM : (2 * N) < 2147483648) (VB : Arv Z h0 b kd .byte (Int32.ofNat (2 * N)) (own_vs g (2 * N)) (.int (0 : Int32))) : own_Met l Z Y17 jdk_52_method_6_code 1 (some .int) ({ frames := 0, cells := 0, slots := 0, locals := 0 } : Room) #[xr b] h0 (own_QR (some (xi (Int32.ofNat N))) h0 n0) := by
  intro ws
  refine MetFree.of_bodySF (plainFor_of_name pn0) hisR ?_
  intro p e s m args below meth c s₁ Bd hml0 hP hK
  obtain ⟨rfl, hZ, hh⟩ := hP
  have hx := Bd.exec
  have hby := Bd.bytes
  have hml : c.maxLocals = 1 := hml0
  have hown : s.vm.findClass "java/lang/StringUTF16" = some m.cls := findClass_of_methodNamed Bd.named
  have hnm := (name_of_methodNamed Bd.named Bd.method).1
  have X0 : Stand p l e ({ frames := 0, cells := 0, slots := 0, locals := 0 } : Room) s m #[xr b] below meth c s₁ [] 0 0 := Stand.of_body Bd
  have e0 : s₁.heap = h0 := by rw [← hh, Bd.state]; rfl
  have N0 := Fr.nil n0
  have pre0 : ∀ t, Steps p.tables e below (s₁.setTop (mkF m 0 #[vr b] [])) t → Steps p.tables e below (s₁.setTop (entryFrame m #[xr b] 1)) t := fun t st => castTop (ef_own_ul m ki0 vf0 b kd N g) st
  obtain ⟨cl1, Ar1, q1, S1, N1_, H1, G1⟩ := id VB
  obtain ⟨fs, hr, hrun, hended, hW, hsame⟩ := X0.leave (v := some (xi (Int32.ofNat N))) (fun h => by rw [Bd.returns] at h; cases h)
  refine ⟨_, _, pre0 _ ?_, hrun, hended, _, _, rfl, ?_, ⟨_, rfl⟩, hW, hsame.mono (by decide) (by decide)⟩
  · show own_S p e below s₁ (mkF m 0 #[vr b] []) _
    refine XS.aloadN X0.here hx rfl (hb hby d37_0) rfl rfl ?_
    show own_S p e below s₁ (mkF m 1 #[vr b] [xr b]) _
    refine X0.arraylength hx (by rw [e0]; exact Ar1.1) (State.isArrayOf_alike hZ.alike Ar1.2.1) (g := (mkF m 1 #[vr b] [xr b])) rfl rfl (hb hby d37_1) _ ?_
    refine castTop (show (mkF m 2 #[vr b] [xi cl1.slots.size.toInt32]) = (mkF m 2 #[vr b] [xi (Int32.ofNat (2 * N))]) from by rw [len_of S1 N1_]) ?_
    refine XS.iconst X0.here hx rfl (hb hby d37_2) ?_
    show own_S p e below s₁ (mkF m 3 #[vr b] [xi (1 : Int32), xi (Int32.ofNat (2 * N))]) _
    refine XS.ishr X0.here hx rfl (hb hby d37_3) rfl ?_
    show own_S p e below s₁ (mkF m 4 #[vr b] [xi ((Int32.ofNat (2 * N)) >>> ((1 : Int32) &&& 31))]) _
    refine castTop (show (mkF m 4 #[vr b] [xi ((Int32.ofNat (2 * N)) >>> ((1 : Int32) &&& 31))]) = (mkF m 4 #[vr b] [xi (Int32.ofNat N)]) from by rw [own_half2 hM]) ?_
    show own_S p e below s₁ (mkF m 4 #[vr b] [xi (Int32.ofNat N)]) _
    exact retI X0 hx Bd.returns (hb hby d37_4) hr
  · exact ⟨rfl, N0, e0⟩
theorem d36_0 : decode jdk_52_method_91_code 0 = .ok (.iload_n 0, 1) := by decide +kernel
theorem d36_1 : decode jdk_52_method_91_code 1 = .ok (.aload_n 1, 1) := by decide +kernel
theorem d36_2 : decode jdk_52_method_91_code 2 = .ok (.invokestatic 48, 3) := by decide +kernel
theorem pd11 : parseMethodDescriptor "([B)I" = some ⟨[(.array .byte)], some .int⟩ := by decide +kernel
theorem d36_5 : decode jdk_52_method_91_code 5 = .ok (.invokestatic 414, 3) := by decide +kernel
theorem d36_8 : decode jdk_52_method_91_code 8 = .ok (.return_, 1) := by decide +kernel
abbrev Y18 : MethodName := (⟨"java/lang/StringUTF16", "checkIndex", "(I[B)V"⟩ : MethodName)
theorem ef_own_uci (m : MethodId)  (ki0 : Int32) (vf0 : Value) (b : Addr) (kd : ClassId) (i : Nat) (N : Nat) (g : Nat → Int32) : entryFrame m #[xi (Int32.ofNat i), xr b] 2 = (mkF m 0 #[vi (Int32.ofNat i), vr b] []) := by first | (simp [entryFrame, mkF, argsToLocals, Value.category]; done) | rfl
set_option maxRecDepth 65536 in
set_option maxHeartbeats 40000000 in
theorem own_uci (l : Launch) (Z : State) (a0 : Array Value) (hw : ∀ d ∈ tables_1, d.before a0 Z = true) (hj : ∀ d ∈ jdkStatics_1, d.before a0 Z = true)  (ki0 : Int32) (vf0 : Value) (G : own_St Z hj ki0 vf0) (b : Addr) (kd : ClassId) (i : Nat) (N : Nat) (g : Nat → Int32) (h0 : Heap) (n0 : Nat) (O0 : Old Z n0 h0) (hM : (2 * N) < 2147483648) (VB : Arv Z h0 b kd .byte (Int32.ofNat (2 * N)) (own_vs g (2 * N)) (.int (0 : Int32))) (hlt : i < N) : own_Met l Z Y18 jdk_52_method_91_code 2 none ({ frames := 2, cells := 0, slots := 0, locals := 27 } : Room) #[xi (Int32.ofNat i), xr b] h0 (own_QR (none) h0 n0) := by
  intro ws
  refine MetFree.of_bodySF (plainFor_of_name pn0) hisR ?_
  intro p e s m args below meth c s₁ Bd hml0 hP hK
  obtain ⟨rfl, hZ, hh⟩ := hP
  have hx := Bd.exec
  have hby := Bd.bytes
  have hml : c.maxLocals = 2 := hml0
  have hown : s.vm.findClass "java/lang/StringUTF16" = some m.cls := findClass_of_methodNamed Bd.named
  have hnm := (name_of_methodNamed Bd.named Bd.method).1
  have X0 : Stand p l e ({ frames := 2, cells := 0, slots := 0, locals := 27 } : Room) s m #[xi (Int32.ofNat i), xr b] below meth c s₁ [] 0 0 := Stand.of_body Bd
  have e0 : s₁.heap = h0 := by rw [← hh, Bd.state]; rfl
  have N0 := Fr.nil n0
  have pre0 : ∀ t, Steps p.tables e below (s₁.setTop (mkF m 0 #[vi (Int32.ofNat i), vr b] [])) t → Steps p.tables e below (s₁.setTop (entryFrame m #[xi (Int32.ofNat i), xr b] 2)) t := fun t st => castTop (ef_own_uci m ki0 vf0 b kd i N g) st
  obtain ⟨_, _, ⟨T1, L1, k1, n1⟩, -, X1, ⟨Lc1, hQ1, l1, y1, z1⟩, st1⟩ := Jvm.LawKit.callS X0 hx (y := Y17) hown (mvT hZ (ww hw 149 rfl)) (mvT hZ (ww hw 150 rfl)) (mvT hZ (ww hw 29 rfl)) (mvT hZ (ww hw 151 rfl)) (by decide) (backOf (W := 1) (own_ul l Z a0 hw hj ki0 vf0 G b kd N g h0 n0 O0 hM VB []) hZ (ww hw 151 rfl) (ww hw 29 rfl) (by decide) (by decide)) (g := (mkF m 2 #[vi (Int32.ofNat i), vr b] [xr b, xi (Int32.ofNat i)])) rfl (by rw [hml]; rfl) (argsL := [xr b]) (rest := [xi (Int32.ofNat i)]) (lenOf pd11 rfl) rfl (by show 2 * 0 + _ ≤ _; exact Nat.le_of_eq rfl) (hb hby d36_2) (fun _ _ => ⟨rfl, e0, (by decide : 0 + 0 ≤ _), (by decide : 0 + 0 ≤ _)⟩)
  dsimp only [Pt.U, Pt.locs, Pt.cells, Pt.slots] at X1 l1 y1 z1 st1 hQ1
  subst l1 y1 z1
  obtain ⟨rfl, Nq1, e1⟩ := hQ1
  have N1 := Fr.app N0 Nq1
  obtain ⟨_, _, ⟨T2, L2, k2, n2⟩, -, X2, ⟨Lc2, hQ2, l2, y2, z2⟩, st2⟩ := Jvm.LawKit.callS X1 hx (y := Y15) hown (mvT hZ (ww hw 152 rfl)) (mvT hZ (ww hw 77 rfl)) (mvT hZ (ww hw 15 rfl)) (mvT hZ (ww hw 78 rfl)) (by decide) (backOf (W := 0) (own_ci l Z a0 hw hj ki0 vf0 G i N h0 n0 O0 hlt (by omega) []) hZ (ww hw 78 rfl) (ww hw 15 rfl) (by decide) (by decide)) (g := (mkF m 5 #[vi (Int32.ofNat i), vr b] [xi (Int32.ofNat N), xi (Int32.ofNat i)])) rfl (by rw [hml]; rfl) (argsL := [xi (Int32.ofNat i), xi (Int32.ofNat N)]) (rest := []) (lenOf pd10 rfl) rfl (by show 2 * 0 + _ ≤ _; exact Nat.le_of_eq rfl) (hb hby d36_5) (fun _ _ => ⟨rfl, e1, (by decide : 0 + 0 ≤ _), (by decide : 0 + 0 ≤ _)⟩)
  dsimp only [Pt.U, Pt.locs, Pt.cells, Pt.slots] at X2 l2 y2 z2 st2 hQ2
  subst l2 y2 z2
  obtain ⟨rfl, Nq2, e2⟩ := hQ2
  have N2 := Fr.app N1 Nq2
  obtain ⟨fs, hr, hrun, hended, hW, hsame⟩ := X2.leave (v := none) (fun _ => rfl)
  refine ⟨_, _, pre0 _ ?_, hrun, hended, _, _, rfl, ?_, ⟨_, rfl⟩, hW, hsame.mono (by decide) (by decide)⟩
  · show own_S p e below s₁ (mkF m 0 #[vi (Int32.ofNat i), vr b] []) _
    refine XS.iloadN X0.here hx rfl (hb hby d36_0) rfl ?_
    refine XS.aloadN X0.here hx rfl (hb hby d36_1) rfl rfl ?_
    show own_S p e below s₁ (mkF m 2 #[vi (Int32.ofNat i), vr b] [xr b, xi (Int32.ofNat i)]) _
    refine st1 _ ?_
    show own_S p e below T1 (mkF m 5 #[vi (Int32.ofNat i), vr b] [xi (Int32.ofNat N), xi (Int32.ofNat i)]) _
    refine st2 _ ?_
    show own_S p e below T2 (mkF m 8 #[vi (Int32.ofNat i), vr b] []) _
    exact X2.returnOut hx Bd.returns (hb hby d36_8) hr
  · exact ⟨rfl, N2, e2⟩
theorem d35_0 : decode jdk_52_method_83_code 0 = .ok (.iload_n 1, 1) := by decide +kernel
theorem d35_1 : decode jdk_52_method_83_code 1 = .ok (.aload_n 0, 1) := by decide +kernel
theorem d35_2 : decode jdk_52_method_83_code 2 = .ok (.invokestatic 67, 3) := by decide +kernel
theorem pd12 : parseMethodDescriptor "(I[B)V" = some ⟨[.int, (.array .byte)], none⟩ := by decide +kernel
theorem d35_5 : decode jdk_52_method_83_code 5 = .ok (.aload_n 0, 1) := by decide +kernel
theorem d35_6 : decode jdk_52_method_83_code 6 = .ok (.iload_n 1, 1) := by decide +kernel
theorem d35_7 : decode jdk_52_method_83_code 7 = .ok (.invokestatic 71, 3) := by decide +kernel
theorem d35_10 : decode jdk_52_method_83_code 10 = .ok (.ireturn, 1) := by decide +kernel
abbrev Y19 : MethodName := (⟨"java/lang/StringUTF16", "charAt", "([BI)C"⟩ : MethodName)
theorem ef_own_ua_ (m : MethodId)  (ki0 : Int32) (vf0 : Value) (b : Addr) (kd : ClassId) (i : Nat) (N : Nat) (g : Nat → Int32) (cc : Int32) : entryFrame m #[xr b, xi (Int32.ofNat i)] 2 = (mkF m 0 #[vr b, vi (Int32.ofNat i)] []) := by first | (simp [entryFrame, mkF, argsToLocals, Value.category]; done) | rfl
set_option maxRecDepth 65536 in
set_option maxHeartbeats 40000000 in
theorem own_ua_ (l : Launch) (Z : State) (a0 : Array Value) (hw : ∀ d ∈ tables_1, d.before a0 Z = true) (hj : ∀ d ∈ jdkStatics_1, d.before a0 Z = true)  (ki0 : Int32) (vf0 : Value) (G : own_St Z hj ki0 vf0) (b : Addr) (kd : ClassId) (i : Nat) (N : Nat) (g : Nat → Int32) (cc : Int32) (h0 : Heap) (n0 : Nat) (O0 : Old Z n0 h0) (hM : (2 * N) < 2147483648) (VB : Arv Z h0 b kd .byte (Int32.ofNat (2 * N)) (own_vs g (2 * N)) (.int (0 : Int32))) (hlt : i < N) (hc : (nar .char (((((g (2 * i)) &&& (255 : Int32)) <<< ((0 : Int32) &&& 31)) ||| (((g ((2 * i) + 1)) &&& (255 : Int32)) <<< ((8 : Int32) &&& 31))).toUInt32.toUInt16.toUInt32.toInt32)) = cc) : own_Met l Z Y19 jdk_52_method_83_code 2 (some .char) ({ frames := 3, cells := 0, slots := 0, locals := 40 } : Room) #[xr b, xi (Int32.ofNat i)] h0 (own_QR (some (xi (nar .char cc))) h0 n0) := by
  intro ws
  refine MetFree.of_bodySF (plainFor_of_name pn0) hisR ?_
  intro p e s m args below meth c s₁ Bd hml0 hP hK
  obtain ⟨rfl, hZ, hh⟩ := hP
  have hx := Bd.exec
  have hby := Bd.bytes
  have hml : c.maxLocals = 2 := hml0
  have hown : s.vm.findClass "java/lang/StringUTF16" = some m.cls := findClass_of_methodNamed Bd.named
  have hnm := (name_of_methodNamed Bd.named Bd.method).1
  have X0 : Stand p l e ({ frames := 3, cells := 0, slots := 0, locals := 40 } : Room) s m #[xr b, xi (Int32.ofNat i)] below meth c s₁ [] 0 0 := Stand.of_body Bd
  have e0 : s₁.heap = h0 := by rw [← hh, Bd.state]; rfl
  have N0 := Fr.nil n0
  have pre0 : ∀ t, Steps p.tables e below (s₁.setTop (mkF m 0 #[vr b, vi (Int32.ofNat i)] [])) t → Steps p.tables e below (s₁.setTop (entryFrame m #[xr b, xi (Int32.ofNat i)] 2)) t := fun t st => castTop (ef_own_ua_ m ki0 vf0 b kd i N g cc) st
  obtain ⟨_, _, ⟨T1, L1, k1, n1⟩, -, X1, ⟨Lc1, hQ1, l1, y1, z1⟩, st1⟩ := Jvm.LawKit.callS X0 hx (y := Y18) hown (mvT hZ (ww hw 146 rfl)) (mvT hZ (ww hw 147 rfl)) (mvT hZ (ww hw 29 rfl)) (mvT hZ (ww hw 148 rfl)) (by decide) (backOf (W := 0) (own_uci l Z a0 hw hj ki0 vf0 G b kd i N g h0 n0 O0 hM VB hlt []) hZ (ww hw 148 rfl) (ww hw 29 rfl) (by decide) (by decide)) (g := (mkF m 2 #[vr b, vi (Int32.ofNat i)] [xr b, xi (Int32.ofNat i)])) rfl (by rw [hml]; rfl) (argsL := [xi (Int32.ofNat i), xr b]) (rest := []) (lenOf pd12 rfl) rfl (by show 2 * 0 + _ ≤ _; exact Nat.le_of_eq rfl) (hb hby d35_2) (fun _ _ => ⟨rfl, e0, (by decide : 0 + 0 ≤ _), (by decide : 0 + 0 ≤ _)⟩)
  dsimp only [Pt.U, Pt.locs, Pt.cells, Pt.slots] at X1 l1 y1 z1 st1 hQ1
  subst l1 y1 z1
  obtain ⟨rfl, Nq1, e1⟩ := hQ1
  have N1 := Fr.app N0 Nq1
  obtain ⟨_, _, ⟨T2, L2, k2, n2⟩, -, X2, ⟨Lc2, hQ2, l2, y2, z2⟩, st2⟩ := Jvm.LawKit.callS X1 hx (y := Y4) hown (mvT hZ (ww hw 127 rfl)) (mvT hZ (ww hw 128 rfl)) (mvT hZ (ww hw 29 rfl)) (mvT hZ (ww hw 129 rfl)) (by decide) (backOf (W := 0) (own_getChar l Z a0 hw hj ki0 vf0 G b kd i (2 * N) g cc hc h0 n0 O0 hM VB (by omega) []) hZ (ww hw 129 rfl) (ww hw 29 rfl) (by decide) (by decide)) (g := (mkF m 7 #[vr b, vi (Int32.ofNat i)] [xi (Int32.ofNat i), xr b])) rfl (by rw [hml]; rfl) (argsL := [xr b, xi (Int32.ofNat i)]) (rest := []) (lenOf pd5 rfl) rfl (by show 2 * 0 + _ ≤ _; exact Nat.le_of_eq rfl) (hb hby d35_7) (fun _ _ => ⟨rfl, e1, (by decide : 0 + 0 ≤ _), (by decide : 0 + 0 ≤ _)⟩)
  dsimp only [Pt.U, Pt.locs, Pt.cells, Pt.slots] at X2 l2 y2 z2 st2 hQ2
  subst l2 y2 z2
  obtain ⟨rfl, Nq2, e2⟩ := hQ2
  have N2 := Fr.app N1 Nq2
  obtain ⟨fs, hr, hrun, hended, hW, hsame⟩ := X2.leave (v := some (xi (nar .char cc))) (fun h => by rw [Bd.returns] at h; cases h)
  refine ⟨_, _, pre0 _ ?_, hrun, hended, _, _, rfl, ?_, ⟨_, rfl⟩, hW, hsame.mono (by decide) (by decide)⟩
  · show own_S p e below s₁ (mkF m 0 #[vr b, vi (Int32.ofNat i)] []) _
    refine XS.iloadN X0.here hx rfl (hb hby d35_0) rfl ?_
    refine XS.aloadN X0.here hx rfl (hb hby d35_1) rfl rfl ?_
    show own_S p e below s₁ (mkF m 2 #[vr b, vi (Int32.ofNat i)] [xr b, xi (Int32.ofNat i)]) _
    refine st1 _ ?_
    refine XS.aloadN X1.here hx rfl (hb hby d35_5) rfl rfl ?_
    refine XS.iloadN X1.here hx rfl (hb hby d35_6) rfl ?_
    show own_S p e below T1 (mkF m 7 #[vr b, vi (Int32.ofNat i)] [xi (Int32.ofNat i), xr b]) _
    refine st2 _ ?_
    show own_S p e below T2 (mkF m 10 #[vr b, vi (Int32.ofNat i)] [xi cc]) _
    exact retN X2 hx (t := .char) Bd.returns (by simp) (hb hby d35_10) hr
  · exact ⟨rfl, N2, e2⟩
theorem own_narc {c : Int32} (h0 : 0 ≤ c.toInt) (h1 : c.toInt < 65536) : nar .char c = c := by
  refine Int32.toInt_inj.mp ?_
  have d := c_i2c c
  show c.toUInt32.toUInt16.toUInt32.toInt32.toInt = c.toInt
  omega
theorem own_rtl (c : Int32) (h0 : 0 ≤ c.toInt) (h1 : c.toInt < 256) : (nar .char (((nar .byte (c.toInt8.toInt32)) &&& (255 : Int32)).toUInt32.toUInt16.toUInt32.toInt32)) = c := by
  have a1 := c_i2b c
  have a2 := c_i2b (c.toInt8.toInt32)
  have a3 := c_mask (nar .byte (c.toInt8.toInt32)) 255 8 (by decide) (by decide)
  have n1 : nar .byte (c.toInt8.toInt32) = (c.toInt8.toInt32).toInt8.toInt32 := rfl
  rw [← n1] at a2
  generalize nar .byte (c.toInt8.toInt32) = L at *
  have d1 := c_i2c (L &&& (255 : Int32))
  have d2 := c_i2c ((L &&& (255 : Int32)).toUInt32.toUInt16.toUInt32.toInt32)
  refine Int32.toInt_inj.mp ?_
  show ((L &&& (255 : Int32)).toUInt32.toUInt16.toUInt32.toInt32).toUInt32.toUInt16.toUInt32.toInt32.toInt = c.toInt
  omega
theorem d14_0 : decode jdk_42_method_56_code 0 = .ok (.aload_n 0, 1) := by decide +kernel
theorem d14_1 : decode jdk_42_method_56_code 1 = .ok (.invokevirtual 492, 3) := by decide +kernel
theorem pd13 : parseMethodDescriptor "()Z" = some ⟨[], some .boolean⟩ := by decide +kernel
theorem d14_4 : decode jdk_42_method_56_code 4 = .ok (.ifCond .eq 12, 3) := by decide +kernel
theorem d14_7 : decode jdk_42_method_56_code 7 = .ok (.aload_n 0, 1) := by decide +kernel
theorem d14_8 : decode jdk_42_method_56_code 8 = .ok (.getfield 9, 3) := by decide +kernel
theorem d14_11 : decode jdk_42_method_56_code 11 = .ok (.iload_n 1, 1) := by decide +kernel
theorem d14_12 : decode jdk_42_method_56_code 12 = .ok (.invokestatic 495, 3) := by decide +kernel
theorem d14_15 : decode jdk_42_method_56_code 15 = .ok (.ireturn, 1) := by decide +kernel
abbrev Y20 : MethodName := (⟨"java/lang/String", "charAt", "(I)C"⟩ : MethodName)
theorem ef_own_charAt0_ (m : MethodId)  (ki0 : Int32) (vf0 : Value) (sa : Addr) (b : Addr) (kd : ClassId) (i : Nat) (N : Nat) (f : Nat → Int32) : entryFrame m #[xr sa, xi (Int32.ofNat i)] 2 = (mkF m 0 #[vr sa, vi (Int32.ofNat i)] []) := by first | (simp [entryFrame, mkF, argsToLocals, Value.category]; done) | rfl
set_option maxRecDepth 65536 in
set_option maxHeartbeats 40000000 in
theorem own_charAt0_ (l : Launch) (Z : State) (a0 : Array Value) (hw : ∀ d ∈ tables_1, d.before a0 Z = true) (hj : ∀ d ∈ jdkStatics_1, d.before a0 Z = true)  (ki0 : Int32) (vf0 : Value) (G : own_St Z hj ki0 vf0) (sa : Addr) (b : Addr) (kd : ClassId) (i : Nat) (N : Nat) (f : Nat → Int32) (h0 : Heap) (n0 : Nat) (O0 : Old Z n0 h0) (hM : N < 2147483648) (gS : own_SS Z h0 sa b kd N (0 : Int32) (own_lat f)) (hlt : i < N) (hch : 0 ≤ (f i).toInt ∧ (f i).toInt < 256) : own_Met l Z Y20 jdk_42_method_56_code 2 (some .char) ({ frames := 3, cells := 0, slots := 0, locals := 40 } : Room) #[xr sa, xi (Int32.ofNat i)] h0 (own_QR (some (xi (nar .char (f i)))) h0 n0) := by
  intro ws
  refine MetFree.of_bodySF (plainFor_of_name pn1) hisR ?_
  intro p e s m args below meth c s₁ Bd hml0 hP hK
  obtain ⟨rfl, hZ, hh⟩ := hP
  have hx := Bd.exec
  have hby := Bd.bytes
  have hml : c.maxLocals = 2 := hml0
  have hown : s.vm.findClass "java/lang/String" = some m.cls := findClass_of_methodNamed Bd.named
  have hnm := (name_of_methodNamed Bd.named Bd.method).1
  have X0 : Stand p l e ({ frames := 3, cells := 0, slots := 0, locals := 40 } : Room) s m #[xr sa, xi (Int32.ofNat i)] below meth c s₁ [] 0 0 := Stand.of_body Bd
  have e0 : s₁.heap = h0 := by rw [← hh, Bd.state]; rfl
  have N0 := Fr.nil n0
  have pre0 : ∀ t, Steps p.tables e below (s₁.setTop (mkF m 0 #[vr sa, vi (Int32.ofNat i)] [])) t → Steps p.tables e below (s₁.setTop (entryFrame m #[xr sa, xi (Int32.ofNat i)] 2)) t := fun t st => castTop (ef_own_charAt0_ m ki0 vf0 sa b kd i N f) st
  obtain ⟨EA, FC, FV, VB⟩ := id gS
  obtain ⟨cq1, kq1, qa1, qb1, qc1⟩ := isOf hZ e0 EA
  obtain ⟨_, _, ⟨T1, L1, k1, n1⟩, -, X1, ⟨Lc1, hQ1, l1, y1, z1⟩, st1⟩ := X0.virtualBack hx (y := Y12) (z := Y12) hown (mvT hZ (ww hw 67 rfl)) (mvT hZ (ww hw 68 rfl)) (notFace_of_selects (args := #[]) (mvT hZ (ww hw 70 rfl))) (mvT hZ (ww hw 70 rfl)) (mvT hZ (ww hw 69 rfl)) (by decide) (backOf (W := 0) (own_latin0 l Z a0 hw hj ki0 vf0 G sa b kd N (own_lat f) h0 n0 O0 hM ⟨EA, FC, FV, VB⟩ []) hZ (ww hw 71 rfl) (ww hw 15 rfl) (by decide) (by decide)) qa1 qc1 (g := (mkF m 1 #[vr sa, vi (Int32.ofNat i)] [xr sa])) rfl (by rw [hml]; rfl) (Steps.refl _) (argsL := []) (rest := []) (lenOf pd13 rfl) rfl (by show 2 * 0 + _ ≤ _; exact Nat.le_of_eq rfl) (hb hby d14_1) (fun _ _ => ⟨rfl, e0, (by decide : 0 + 0 ≤ _), (by decide : 0 + 0 ≤ _)⟩)
  dsimp only [Pt.U, Pt.locs, Pt.cells, Pt.slots] at X1 l1 y1 z1 st1 hQ1
  subst l1 y1 z1
  obtain ⟨rfl, Nq1, e1⟩ := hQ1
  have N1 := Fr.app N0 Nq1
  obtain ⟨T2, X2, e2, st2⟩ := getF X1 hx hZ hown (host := "") (Or.inl (ww hw 40 rfl)) Via.refl e1 FV (g := (mkF m 8 #[vr sa, vi (Int32.ofNat i)] [xr sa])) rfl rfl (hb hby d14_8)
  obtain ⟨_, _, ⟨T3, L3, k3, n3⟩, -, X3, ⟨Lc3, hQ3, l3, y3, z3⟩, st3⟩ := Jvm.LawKit.callS X2 hx (y := Y16) hown (mvT hZ (ww hw 72 rfl)) (mvT hZ (ww hw 73 rfl)) (mvT hZ (ww hw 74 rfl)) (mvT hZ (ww hw 75 rfl)) (by decide) (backOf (W := 0) (own_l1 l Z a0 hw hj ki0 vf0 G b kd i N (own_lat f) (f i) (own_rtl (f i) hch.1 hch.2) h0 n0 O0 hM VB hlt []) hZ (ww hw 75 rfl) (ww hw 74 rfl) (by decide) (by decide)) (g := (mkF m 12 #[vr sa, vi (Int32.ofNat i)] [xi (Int32.ofNat i), xr b])) rfl (by rw [hml]; rfl) (argsL := [xr b, xi (Int32.ofNat i)]) (rest := []) (lenOf pd5 rfl) rfl (by show 2 * 0 + _ ≤ _; exact Nat.le_of_eq rfl) (hb hby d14_12) (fun _ _ => ⟨rfl, e2, (by decide : 0 + 0 ≤ _), (by decide : 0 + 0 ≤ _)⟩)
  dsimp only [Pt.U, Pt.locs, Pt.cells, Pt.slots] at X3 l3 y3 z3 st3 hQ3
  subst l3 y3 z3
  obtain ⟨rfl, Nq3, e3⟩ := hQ3
  have N3 := Fr.app N1 Nq3
  obtain ⟨fs, hr, hrun, hended, hW, hsame⟩ := X3.leave (v := some (xi (nar .char (f i)))) (fun h => by rw [Bd.returns] at h; cases h)
  refine ⟨_, _, pre0 _ ?_, hrun, hended, _, _, rfl, ?_, ⟨_, rfl⟩, hW, hsame.mono (by decide) (by decide)⟩
  · show own_S p e below s₁ (mkF m 0 #[vr sa, vi (Int32.ofNat i)] []) _
    refine XS.aloadN X0.here hx rfl (hb hby d14_0) rfl rfl ?_
    show own_S p e below s₁ (mkF m 1 #[vr sa, vi (Int32.ofNat i)] [xr sa]) _
    refine st1.trans ?_
    show own_S p e below T1 (mkF m 4 #[vr sa, vi (Int32.ofNat i)] [xi (1 : Int32)]) _
    refine XS.ifNo X1.here hx rfl (hb hby d14_4) rfl (by decide) ?_
    refine XS.aloadN X1.here hx rfl (hb hby d14_7) rfl rfl ?_
    show own_S p e below T1 (mkF m 8 #[vr sa, vi (Int32.ofNat i)] [xr sa]) _
    refine st2 _ ?_
    refine XS.iloadN X2.here hx rfl (hb hby d14_11) rfl ?_
    show own_S p e below T2 (mkF m 12 #[vr sa, vi (Int32.ofNat i)] [xi (Int32.ofNat i), xr b]) _
    refine st3 _ ?_
    show own_S p e below T3 (mkF m 15 #[vr sa, vi (Int32.ofNat i)] [xi (f i)]) _
    exact retN X3 hx (t := .char) Bd.returns (by simp) (hb hby d14_15) hr
  · exact ⟨rfl, N3, e3⟩
theorem own_charAt0 (l : Launch) (Z : State) (a0 : Array Value) (hw : ∀ d ∈ tables_1, d.before a0 Z = true) (hj : ∀ d ∈ jdkStatics_1, d.before a0 Z = true)  (ki0 : Int32) (vf0 : Value) (G : own_St Z hj ki0 vf0) (sa b : Addr) (kd : ClassId) (i N : Nat) (f : Nat → Int32) (h0 : Heap) (n0 : Nat) (O0 : Old Z n0 h0) (hM : N < 2147483648) (gS : own_SS Z h0 sa b kd N (0 : Int32) (own_lat f)) (hlt : i < N) (hch : 0 ≤ (f i).toInt ∧ (f i).toInt < 256) : own_Met l Z Y20 jdk_42_method_56_code 2 (some .char) ({ frames := 3, cells := 0, slots := 0, locals := 40 } : Room) #[xr sa, xi (Int32.ofNat i)] h0 (own_QR (some (xi (f i))) h0 n0) := by
  have h := own_charAt0_ l Z a0 hw hj ki0 vf0 G sa b kd i N f h0 n0 O0 hM gS hlt hch
  rw [own_narc hch.1 (by omega)] at h; exact h
theorem d14_16 : decode jdk_42_method_56_code 16 = .ok (.aload_n 0, 1) := by decide +kernel
theorem d14_17 : decode jdk_42_method_56_code 17 = .ok (.getfield 9, 3) := by decide +kernel
theorem d14_20 : decode jdk_42_method_56_code 20 = .ok (.iload_n 1, 1) := by decide +kernel
theorem d14_21 : decode jdk_42_method_56_code 21 = .ok (.invokestatic 498, 3) := by decide +kernel
theorem d14_24 : decode jdk_42_method_56_code 24 = .ok (.ireturn, 1) := by decide +kernel
theorem ef_own_charAt1_ (m : MethodId)  (ki0 : Int32) (vf0 : Value) (sa : Addr) (b : Addr) (kd : ClassId) (i : Nat) (N : Nat) (f : Nat → Int32) : entryFrame m #[xr sa, xi (Int32.ofNat i)] 2 = (mkF m 0 #[vr sa, vi (Int32.ofNat i)] []) := by first | (simp [entryFrame, mkF, argsToLocals, Value.category]; done) | rfl
set_option maxRecDepth 65536 in
set_option maxHeartbeats 40000000 in
theorem own_charAt1_ (l : Launch) (Z : State) (a0 : Array Value) (hw : ∀ d ∈ tables_1, d.before a0 Z = true) (hj : ∀ d ∈ jdkStatics_1, d.before a0 Z = true)  (ki0 : Int32) (vf0 : Value) (G : own_St Z hj ki0 vf0) (sa : Addr) (b : Addr) (kd : ClassId) (i : Nat) (N : Nat) (f : Nat → Int32) (h0 : Heap) (n0 : Nat) (O0 : Old Z n0 h0) (hM : (2 * N) < 2147483648) (gS : own_SS Z h0 sa b kd (2 * N) (1 : Int32) (own_u16 f)) (hlt : i < N) (hch : 0 ≤ (f i).toInt ∧ (f i).toInt < 65536) : own_Met l Z Y20 jdk_42_method_56_code 2 (some .char) ({ frames := 4, cells := 0, slots := 0, locals := 53 } : Room) #[xr sa, xi (Int32.ofNat i)] h0 (own_QR (some (xi (nar .char (nar .char (f i))))) h0 n0) := by
  intro ws
  refine MetFree.of_bodySF (plainFor_of_name pn1) hisR ?_
  intro p e s m args below meth c s₁ Bd hml0 hP hK
  obtain ⟨rfl, hZ, hh⟩ := hP
  have hx := Bd.exec
  have hby := Bd.bytes
  have hml : c.maxLocals = 2 := hml0
  have hown : s.vm.findClass "java/lang/String" = some m.cls := findClass_of_methodNamed Bd.named
  have hnm := (name_of_methodNamed Bd.named Bd.method).1
  have X0 : Stand p l e ({ frames := 4, cells := 0, slots := 0, locals := 53 } : Room) s m #[xr sa, xi (Int32.ofNat i)] below meth c s₁ [] 0 0 := Stand.of_body Bd
  have e0 : s₁.heap = h0 := by rw [← hh, Bd.state]; rfl
  have N0 := Fr.nil n0
  have pre0 : ∀ t, Steps p.tables e below (s₁.setTop (mkF m 0 #[vr sa, vi (Int32.ofNat i)] [])) t → Steps p.tables e below (s₁.setTop (entryFrame m #[xr sa, xi (Int32.ofNat i)] 2)) t := fun t st => castTop (ef_own_charAt1_ m ki0 vf0 sa b kd i N f) st
  obtain ⟨EA, FC, FV, VB⟩ := id gS
  obtain ⟨cq1, kq1, qa1, qb1, qc1⟩ := isOf hZ e0 EA
  obtain ⟨_, _, ⟨T1, L1, k1, n1⟩, -, X1, ⟨Lc1, hQ1, l1, y1, z1⟩, st1⟩ := X0.virtualBack hx (y := Y12) (z := Y12) hown (mvT hZ (ww hw 67 rfl)) (mvT hZ (ww hw 68 rfl)) (notFace_of_selects (args := #[]) (mvT hZ (ww hw 70 rfl))) (mvT hZ (ww hw 70 rfl)) (mvT hZ (ww hw 69 rfl)) (by decide) (backOf (W := 0) (own_latin1 l Z a0 hw hj ki0 vf0 G sa b kd (2 * N) (own_u16 f) h0 n0 O0 hM ⟨EA, FC, FV, VB⟩ []) hZ (ww hw 71 rfl) (ww hw 15 rfl) (by decide) (by decide)) qa1 qc1 (g := (mkF m 1 #[vr sa, vi (Int32.ofNat i)] [xr sa])) rfl (by rw [hml]; rfl) (Steps.refl _) (argsL := []) (rest := []) (lenOf pd13 rfl) rfl (by show 2 * 0 + _ ≤ _; exact Nat.le_of_eq rfl) (hb hby d14_1) (fun _ _ => ⟨rfl, e0, (by decide : 0 + 0 ≤ _), (by decide : 0 + 0 ≤ _)⟩)
  dsimp only [Pt.U, Pt.locs, Pt.cells, Pt.slots] at X1 l1 y1 z1 st1 hQ1
  subst l1 y1 z1
  obtain ⟨rfl, Nq1, e1⟩ := hQ1
  have N1 := Fr.app N0 Nq1
  obtain ⟨T2, X2, e2, st2⟩ := getF X1 hx hZ hown (host := "") (Or.inl (ww hw 40 rfl)) Via.refl e1 FV (g := (mkF m 17 #[vr sa, vi (Int32.ofNat i)] [xr sa])) rfl rfl (hb hby d14_17)
  obtain ⟨_, _, ⟨T3, L3, k3, n3⟩, -, X3, ⟨Lc3, hQ3, l3, y3, z3⟩, st3⟩ := Jvm.LawKit.callS X2 hx (y := Y19) hown (mvT hZ (ww hw 143 rfl)) (mvT hZ (ww hw 144 rfl)) (mvT hZ (ww hw 29 rfl)) (mvT hZ (ww hw 145 rfl)) (by decide) (backOf (W := 0) (own_ua_ l Z a0 hw hj ki0 vf0 G b kd i N (own_u16 f) (f i) h0 n0 O0 hM VB hlt (own_rtu f i hch.1 hch.2) []) hZ (ww hw 145 rfl) (ww hw 29 rfl) (by decide) (by decide)) (g := (mkF m 21 #[vr sa, vi (Int32.ofNat i)] [xi (Int32.ofNat i), xr b])) rfl (by rw [hml]; rfl) (argsL := [xr b, xi (Int32.ofNat i)]) (rest := []) (lenOf pd5 rfl) rfl (by show 2 * 0 + _ ≤ _; exact Nat.le_of_eq rfl) (hb hby d14_21) (fun _ _ => ⟨rfl, e2, (by decide : 0 + 0 ≤ _), (by decide : 0 + 0 ≤ _)⟩)
  dsimp only [Pt.U, Pt.locs, Pt.cells, Pt.slots] at X3 l3 y3 z3 st3 hQ3
  subst l3 y3 z3
  obtain ⟨rfl, Nq3, e3⟩ := hQ3
  have N3 := Fr.app N1 Nq3
  obtain ⟨fs, hr, hrun, hended, hW, hsame⟩ := X3.leave (v := some (xi (nar .char (nar .char (f i))))) (fun h => by rw [Bd.returns] at h; cases h)
  refine ⟨_, _, pre0 _ ?_, hrun, hended, _, _, rfl, ?_, ⟨_, rfl⟩, hW, hsame.mono (by decide) (by decide)⟩
  · show own_S p e below s₁ (mkF m 0 #[vr sa, vi (Int32.ofNat i)] []) _
    refine XS.aloadN X0.here hx rfl (hb hby d14_0) rfl rfl ?_
    show own_S p e below s₁ (mkF m 1 #[vr sa, vi (Int32.ofNat i)] [xr sa]) _
    refine st1.trans ?_
    show own_S p e below T1 (mkF m 4 #[vr sa, vi (Int32.ofNat i)] [xi (0 : Int32)]) _
    refine XS.ifYes X1.here hx rfl (pc0 := 4) (pc' := 16) rfl (hb hby d14_4) rfl (by decide) (by decide) (by decide) ?_
    refine XS.aloadN X1.here hx rfl (hb hby d14_16) rfl rfl ?_
    show own_S p e below T1 (mkF m 17 #[vr sa, vi (Int32.ofNat i)] [xr sa]) _
    refine st2 _ ?_
    refine XS.iloadN X2.here hx rfl (hb hby d14_20) rfl ?_
    show own_S p e below T2 (mkF m 21 #[vr sa, vi (Int32.ofNat i)] [xi (Int32.ofNat i), xr b]) _
    refine st3 _ ?_
    show own_S p e below T3 (mkF m 24 #[vr sa, vi (Int32.ofNat i)] [xi (nar .char (f i))]) _
    exact retN X3 hx (t := .char) Bd.returns (by simp) (hb hby d14_24) hr
  · exact ⟨rfl, N3, e3⟩
theorem own_charAt1 (l : Launch) (Z : State) (a0 : Array Value) (hw : ∀ d ∈ tables_1, d.before a0 Z = true) (hj : ∀ d ∈ jdkStatics_1, d.before a0 Z = true)  (ki0 : Int32) (vf0 : Value) (G : own_St Z hj ki0 vf0) (sa b : Addr) (kd : ClassId) (i N : Nat) (f : Nat → Int32) (h0 : Heap) (n0 : Nat) (O0 : Old Z n0 h0) (hM : (2 * N) < 2147483648) (gS : own_SS Z h0 sa b kd (2 * N) (1 : Int32) (own_u16 f)) (hlt : i < N) (hch : 0 ≤ (f i).toInt ∧ (f i).toInt < 65536) : own_Met l Z Y20 jdk_42_method_56_code 2 (some .char) ({ frames := 4, cells := 0, slots := 0, locals := 53 } : Room) #[xr sa, xi (Int32.ofNat i)] h0 (own_QR (some (xi (f i))) h0 n0) := by
  have h := own_charAt1_ l Z a0 hw hj ki0 vf0 G sa b kd i N f h0 n0 O0 hM gS hlt hch
  rw [own_narc hch.1 hch.2, own_narc hch.1 hch.2] at h; exact h
def own_al (t : Nat) : Int32 := ([97, 98, 99, 100, 101, 102, 103, 104, 105, 106, 107, 108, 109, 110, 111, 112, 113, 114, 115, 116, 117, 118, 119, 120, 121, 122, 48, 49, 50, 51, 52, 53, 54, 55, 56, 57] : List Int32).getD t 0
def own_ixr (ch r : Int32) : Prop := (own_ok ch → ifCond.holds .ge r = true) ∧ (¬ own_ok ch → ifCond.holds .ge r = false)
theorem d22_0 : decode jdk_43_method_4_code 0 = .ok (.iload_n 0, 1) := by decide +kernel
theorem d22_1 : decode jdk_43_method_4_code 1 = .ok (.ifCond .lt 14, 3) := by decide +kernel
theorem d22_4 : decode jdk_43_method_4_code 4 = .ok (.iload_n 0, 1) := by decide +kernel
theorem d22_5 : decode jdk_43_method_4_code 5 = .ok (.sipush 255, 3) := by decide +kernel
theorem d22_8 : decode jdk_43_method_4_code 8 = .ok (.if_icmp .gt 7, 3) := by decide +kernel
theorem d22_11 : decode jdk_43_method_4_code 11 = .ok (.iconst 1, 1) := by decide +kernel
theorem d22_12 : decode jdk_43_method_4_code 12 = .ok (.goto 4, 3) := by decide +kernel
theorem d22_16 : decode jdk_43_method_4_code 16 = .ok (.ireturn, 1) := by decide +kernel
abbrev Y21 : MethodName := (⟨"java/lang/StringLatin1", "canEncode", "(I)Z"⟩ : MethodName)
theorem ef_own_ce1 (m : MethodId)  (ki0 : Int32) (vf0 : Value) (ch : Int32) : entryFrame m #[xi ch] 1 = (mkF m 0 #[vi ch] []) := by first | (simp [entryFrame, mkF, argsToLocals, Value.category]; done) | rfl
set_option maxRecDepth 65536 in
set_option maxHeartbeats 40000000 in
theorem own_ce1 (l : Launch) (Z : State) (a0 : Array Value) (hw : ∀ d ∈ tables_1, d.before a0 Z = true) (hj : ∀ d ∈ jdkStatics_1, d.before a0 Z = true)  (ki0 : Int32) (vf0 : Value) (G : own_St Z hj ki0 vf0) (ch : Int32) (as8 : ifCond.holds .lt ch = false) (as9 : if_icmp.holds .gt ch (255 : Int32) = false) (h0 : Heap) (n0 : Nat) (O0 : Old Z n0 h0) : own_Met l Z Y21 jdk_43_method_4_code 1 (some .boolean) ({ frames := 0, cells := 0, slots := 0, locals := 0 } : Room) #[xi ch] h0 (own_QR (some (xi (1 : Int32))) h0 n0) := by
  intro ws
  refine MetFree.of_bodySF (plainFor_of_name pn4) hisR ?_
  intro p e s m args below meth c s₁ Bd hml0 hP hK
  obtain ⟨rfl, hZ, hh⟩ := hP
  have hx := Bd.exec
  have hby := Bd.bytes
  have hml : c.maxLocals = 1 := hml0
  have hown : s.vm.findClass "java/lang/StringLatin1" = some m.cls := findClass_of_methodNamed Bd.named
  have hnm := (name_of_methodNamed Bd.named Bd.method).1
  have X0 : Stand p l e ({ frames := 0, cells := 0, slots := 0, locals := 0 } : Room) s m #[xi ch] below meth c s₁ [] 0 0 := Stand.of_body Bd
  have e0 : s₁.heap = h0 := by rw [← hh, Bd.state]; rfl
  have N0 := Fr.nil n0
  have pre0 : ∀ t, Steps p.tables e below (s₁.setTop (mkF m 0 #[vi ch] [])) t → Steps p.tables e below (s₁.setTop (entryFrame m #[xi ch] 1)) t := fun t st => castTop (ef_own_ce1 m ki0 vf0 ch) st
  obtain ⟨fs, hr, hrun, hended, hW, hsame⟩ := X0.leave (v := some (xi (1 : Int32))) (fun h => by rw [Bd.returns] at h; cases h)
  refine ⟨_, _, pre0 _ ?_, hrun, hended, _, _, rfl, ?_, ⟨_, rfl⟩, hW, hsame.mono (by decide) (by decide)⟩
  · show own_S p e below s₁ (mkF m 0 #[vi ch] []) _
    refine XS.iloadN X0.here hx rfl (hb hby d22_0) rfl ?_
    show own_S p e below s₁ (mkF m 1 #[vi ch] [xi ch]) _
    refine XS.ifNo X0.here hx rfl (hb hby d22_1) rfl as8 ?_
    refine XS.iloadN X0.here hx rfl (hb hby d22_4) rfl ?_
    refine XS.sipush X0.here hx rfl (hb hby d22_5) ?_
    show own_S p e below s₁ (mkF m 8 #[vi ch] [xi (255 : Int32), xi ch]) _
    refine XS.icmpNo X0.here hx rfl (hb hby d22_8) rfl as9 ?_
    refine XS.iconst X0.here hx rfl (hb hby d22_11) ?_
    refine XS.goto X0.here hx rfl (pc0 := 12) (pc' := 16) rfl (hb hby d22_12) (by decide) (by decide) ?_
    show own_S p e below s₁ (mkF m 16 #[vi ch] [xi (1 : Int32)]) _
    exact retN X0 hx (t := .boolean) Bd.returns (by simp) (hb hby d22_16) hr
  · exact ⟨rfl, N0, e0⟩
theorem d22_15 : decode jdk_43_method_4_code 15 = .ok (.iconst 0, 1) := by decide +kernel
theorem ef_own_ce0 (m : MethodId)  (ki0 : Int32) (vf0 : Value) (ch : Int32) : entryFrame m #[xi ch] 1 = (mkF m 0 #[vi ch] []) := by first | (simp [entryFrame, mkF, argsToLocals, Value.category]; done) | rfl
set_option maxRecDepth 65536 in
set_option maxHeartbeats 40000000 in
theorem own_ce0 (l : Launch) (Z : State) (a0 : Array Value) (hw : ∀ d ∈ tables_1, d.before a0 Z = true) (hj : ∀ d ∈ jdkStatics_1, d.before a0 Z = true)  (ki0 : Int32) (vf0 : Value) (G : own_St Z hj ki0 vf0) (ch : Int32) (as8 : ifCond.holds .lt ch = false) (as10 : if_icmp.holds .gt ch (255 : Int32) = true) (h0 : Heap) (n0 : Nat) (O0 : Old Z n0 h0) : own_Met l Z Y21 jdk_43_method_4_code 1 (some .boolean) ({ frames := 0, cells := 0, slots := 0, locals := 0 } : Room) #[xi ch] h0 (own_QR (some (xi (0 : Int32))) h0 n0) := by
  intro ws
  refine MetFree.of_bodySF (plainFor_of_name pn4) hisR ?_
  intro p e s m args below meth c s₁ Bd hml0 hP hK
  obtain ⟨rfl, hZ, hh⟩ := hP
  have hx := Bd.exec
  have hby := Bd.bytes
  have hml : c.maxLocals = 1 := hml0
  have hown : s.vm.findClass "java/lang/StringLatin1" = some m.cls := findClass_of_methodNamed Bd.named
  have hnm := (name_of_methodNamed Bd.named Bd.method).1
  have X0 : Stand p l e ({ frames := 0, cells := 0, slots := 0, locals := 0 } : Room) s m #[xi ch] below meth c s₁ [] 0 0 := Stand.of_body Bd
  have e0 : s₁.heap = h0 := by rw [← hh, Bd.state]; rfl
  have N0 := Fr.nil n0
  have pre0 : ∀ t, Steps p.tables e below (s₁.setTop (mkF m 0 #[vi ch] [])) t → Steps p.tables e below (s₁.setTop (entryFrame m #[xi ch] 1)) t := fun t st => castTop (ef_own_ce0 m ki0 vf0 ch) st
  obtain ⟨fs, hr, hrun, hended, hW, hsame⟩ := X0.leave (v := some (xi (0 : Int32))) (fun h => by rw [Bd.returns] at h; cases h)
  refine ⟨_, _, pre0 _ ?_, hrun, hended, _, _, rfl, ?_, ⟨_, rfl⟩, hW, hsame.mono (by decide) (by decide)⟩
  · show own_S p e below s₁ (mkF m 0 #[vi ch] []) _
    refine XS.iloadN X0.here hx rfl (hb hby d22_0) rfl ?_
    show own_S p e below s₁ (mkF m 1 #[vi ch] [xi ch]) _
    refine XS.ifNo X0.here hx rfl (hb hby d22_1) rfl as8 ?_
    refine XS.iloadN X0.here hx rfl (hb hby d22_4) rfl ?_
    refine XS.sipush X0.here hx rfl (hb hby d22_5) ?_
    show own_S p e below s₁ (mkF m 8 #[vi ch] [xi (255 : Int32), xi ch]) _
    refine XS.icmpYes X0.here hx rfl (pc0 := 8) (pc' := 15) rfl (hb hby d22_8) rfl as10 (by decide) (by decide) ?_
    refine XS.iconst X0.here hx rfl (hb hby d22_15) ?_
    show own_S p e below s₁ (mkF m 16 #[vi ch] [xi (0 : Int32)]) _
    exact retN X0 hx (t := .boolean) Bd.returns (by simp) (hb hby d22_16) hr
  · exact ⟨rfl, N0, e0⟩
theorem d25_7 : decode jdk_43_method_23_code 7 = .ok (.iload 5, 2) := by decide +kernel
theorem d25_9 : decode jdk_43_method_23_code 9 = .ok (.iload_n 3, 1) := by decide +kernel
theorem d25_10 : decode jdk_43_method_23_code 10 = .ok (.if_icmp .ge 21, 3) := by decide +kernel
theorem d25_13 : decode jdk_43_method_23_code 13 = .ok (.aload_n 0, 1) := by decide +kernel
theorem d25_14 : decode jdk_43_method_23_code 14 = .ok (.iload 5, 2) := by decide +kernel
theorem d25_16 : decode jdk_43_method_23_code 16 = .ok (.baload, 1) := by decide +kernel
theorem d25_17 : decode jdk_43_method_23_code 17 = .ok (.iload 4, 2) := by decide +kernel
theorem d25_19 : decode jdk_43_method_23_code 19 = .ok (.if_icmp .ne 6, 3) := by decide +kernel
theorem d25_25 : decode jdk_43_method_23_code 25 = .ok (.iinc 5 1, 3) := by decide +kernel
theorem d25_28 : decode jdk_43_method_23_code 28 = .ok (.goto (-21), 3) := by decide +kernel
set_option maxRecDepth 65536 in
set_option maxHeartbeats 40000000 in
theorem own_io_turn {p : Program} {l : Launch} {e : Env} {s : State} {m : MethodId} {args : Array Value} {below : List Frame} {meth : Method} {c : Code} {T0 : State} {locs : List Loc} {Z : State} {a0 : Array Value} (hw : ∀ d ∈ tables_1, d.before a0 Z = true) (hj : ∀ d ∈ jdkStatics_1, d.before a0 Z = true)  (ki0 : Int32) (vf0 : Value) (G : own_St Z hj ki0 vf0) (b : Addr) (kd : ClassId) (ch : Int32) (i : Nat) (hx : p.tables.exec = Jvm.exec) (hZ : Z.Warmed39 s.vm) (hby : c.code = jdk_43_method_23_code) (hml : c.maxLocals = 6) (hown : s.vm.findClass "java/lang/StringLatin1" = some m.cls) {h0 : Heap} {n0 : Nat} (X0 : Stand p l e ({ frames := 0, cells := 0, slots := 0, locals := 0 } : Room) s m args below meth c T0 locs 0 0) (e0 : T0.heap = h0) (N0 : Fr n0 locs) (O0 : Old Z n0 h0) (VB : Arv Z h0 b kd .byte (Int32.ofNat 36) (own_vs own_al 36) (.int (0 : Int32))) (hlt : i < 36) (hne : if_icmp.holds .ne (own_al i) (ch.toInt8.toInt32) = true) :
    ∃ (T1 : State) (L1 : List Loc) (h1 : Heap), Stand p l e ({ frames := 0, cells := 0, slots := 0, locals := 0 } : Room) s m args below meth c T1 L1 0 0 ∧ T1.heap = h1 ∧ Fr n0 L1 ∧ Old Z n0 h1 ∧ (h1 = h0 ∧ L1 = locs) ∧ ∀ t, Steps p.tables e below (T1.setTop (mkF m 7 #[vr b, vi ch, vi (0 : Int32), vi (Int32.ofNat 36), vi (ch.toInt8.toInt32), vi (Int32.ofNat (i + 1))] [])) t → Steps p.tables e below (T0.setTop (mkF m 7 #[vr b, vi ch, vi (0 : Int32), vi (Int32.ofNat 36), vi (ch.toInt8.toInt32), vi (Int32.ofNat i)] [])) t := by
  obtain ⟨cl1, Ar1, q1, S1, N1_, H1, G1⟩ := id VB
  have hin1 : ¬ ((Int32.ofNat i) < 0 ∨ cl1.slots.size ≤ ((Int32.ofNat i)).toNatClampNeg) := inb_of S1 (own_in hlt (by decide))
  have hat1 : cl1.slots[((Int32.ofNat i)).toNatClampNeg]? = some (xi (own_al i)) := Has.at H1 hin1 (by rw [own_nat (Nat.lt_trans hlt (by decide))]; exact own_vs_get hlt)
  refine ⟨_, _, _, X0, e0, N0, O0, ⟨rfl, rfl⟩, fun t st => ?_⟩
  show own_S p e below T0 (mkF m 7 #[vr b, vi ch, vi (0 : Int32), vi (Int32.ofNat 36), vi (ch.toInt8.toInt32), vi (Int32.ofNat i)] []) _
  refine XS.iload X0.here hx rfl (hb hby d25_7) rfl ?_
  refine XS.iloadN X0.here hx rfl (hb hby d25_9) rfl ?_
  show own_S p e below T0 (mkF m 10 #[vr b, vi ch, vi (0 : Int32), vi (Int32.ofNat 36), vi (ch.toInt8.toInt32), vi (Int32.ofNat i)] [xi (Int32.ofNat 36), xi (Int32.ofNat i)]) _
  refine XS.icmpNo X0.here hx rfl (hb hby d25_10) rfl (tlt (own_in hlt (by decide)).2).2.1 ?_
  refine XS.aloadN X0.here hx rfl (hb hby d25_13) rfl rfl ?_
  refine XS.iload X0.here hx rfl (hb hby d25_14) rfl ?_
  show own_S p e below T0 (mkF m 16 #[vr b, vi ch, vi (0 : Int32), vi (Int32.ofNat 36), vi (ch.toInt8.toInt32), vi (Int32.ofNat i)] [xi (Int32.ofNat i), xr b]) _
  refine X0.baloadBytes hx (j := (Int32.ofNat i)) (v := (xi (own_al i))) (by rw [e0]; exact Ar1.1) (State.isArrayOf_alike hZ.alike Ar1.2.1) Ar1.2.2 hin1 hat1 (g := (mkF m 16 #[vr b, vi ch, vi (0 : Int32), vi (Int32.ofNat 36), vi (ch.toInt8.toInt32), vi (Int32.ofNat i)] [xi (Int32.ofNat i), xr b])) rfl rfl (hb hby d25_16) _ ?_
  refine XS.iload X0.here hx rfl (hb hby d25_17) rfl ?_
  show own_S p e below T0 (mkF m 19 #[vr b, vi ch, vi (0 : Int32), vi (Int32.ofNat 36), vi (ch.toInt8.toInt32), vi (Int32.ofNat i)] [xi (ch.toInt8.toInt32), xi (own_al i)]) _
  refine XS.icmpYes X0.here hx rfl (pc0 := 19) (pc' := 25) rfl (hb hby d25_19) rfl hne (by decide) (by decide) ?_
  show own_S p e below T0 (mkF m 25 #[vr b, vi ch, vi (0 : Int32), vi (Int32.ofNat 36), vi (ch.toInt8.toInt32), vi (Int32.ofNat i)] []) _
  refine XS.iinc X0.here hx rfl (hb hby d25_25) rfl (l' := #[vr b, vi ch, vi (0 : Int32), vi (Int32.ofNat 36), vi (ch.toInt8.toInt32), vi ((Int32.ofNat i) + (1 : Int32))]) rfl ?_
  refine castTop (show (mkF m 28 #[vr b, vi ch, vi (0 : Int32), vi (Int32.ofNat 36), vi (ch.toInt8.toInt32), vi ((Int32.ofNat i) + (1 : Int32))] []) = (mkF m 28 #[vr b, vi ch, vi (0 : Int32), vi (Int32.ofNat 36), vi (ch.toInt8.toInt32), vi (Int32.ofNat (i + 1))] []) from by rw [own_suc]) ?_
  refine XS.goto X0.here hx rfl (pc0 := 28) (pc' := 7) rfl (hb hby d25_28) (by decide) (by decide) ?_
  exact st
theorem own_io_loop {p : Program} {l : Launch} {e : Env} {s : State} {m : MethodId} {args : Array Value} {below : List Frame} {meth : Method} {c : Code} {Z : State} {a0 : Array Value} (hw : ∀ d ∈ tables_1, d.before a0 Z = true) (hj : ∀ d ∈ jdkStatics_1, d.before a0 Z = true)  (ki0 : Int32) (vf0 : Value) (G : own_St Z hj ki0 vf0) (b : Addr) (kd : ClassId) (ch : Int32) (hx : p.tables.exec = Jvm.exec) (hZ : Z.Warmed39 s.vm) (hby : c.code = jdk_43_method_23_code) (hml : c.maxLocals = 6) (hown : s.vm.findClass "java/lang/StringLatin1" = some m.cls) (n0 : Nat) (h0 : Heap) (VB : Arv Z h0 b kd .byte (Int32.ofNat 36) (own_vs own_al 36) (.int (0 : Int32))) (O0 : Old Z n0 h0) (locs : List Loc) (N0 : Fr n0 locs) (k : Nat) : ∀ (i : Nat) (T0 : State), Stand p l e ({ frames := 0, cells := 0, slots := 0, locals := 0 } : Room) s m args below meth c T0 locs 0 0 → T0.heap = h0 → i + k ≤ 36 → (∀ j, i ≤ j → j < i + k → if_icmp.holds .ne (own_al j) (ch.toInt8.toInt32) = true) →
    ∃ (T1 : State), Stand p l e ({ frames := 0, cells := 0, slots := 0, locals := 0 } : Room) s m args below meth c T1 locs 0 0 ∧ T1.heap = h0 ∧ ∀ t, Steps p.tables e below (T1.setTop (mkF m 7 #[vr b, vi ch, vi (0 : Int32), vi (Int32.ofNat 36), vi (ch.toInt8.toInt32), vi (Int32.ofNat (i + k))] [])) t → Steps p.tables e below (T0.setTop (mkF m 7 #[vr b, vi ch, vi (0 : Int32), vi (Int32.ofNat 36), vi (ch.toInt8.toInt32), vi (Int32.ofNat i)] [])) t := by
  induction k with
  | zero => intro i T0 X e0 hk hall; exact ⟨T0, X, e0, fun t st => st⟩
  | succ k ih =>
    intro i T0 X e0 hk hall
    obtain ⟨T1, L1, h1, X1, e1, -, -, ⟨rfl, rfl⟩, st1⟩ := own_io_turn hw hj ki0 vf0 G b kd ch i hx hZ hby hml hown X e0 N0 O0 VB (by omega) (hall i (Nat.le_refl _) (by omega))
    obtain ⟨T2, X2, e2, st2⟩ := ih (i + 1) T1 X1 e1 (by omega) (fun j h1 h2 => hall j (by omega) (by omega))
    exact ⟨T2, X2, e2, fun t st => st1 t (st2 t (by rw [show i + 1 + k = i + (k + 1) from by omega]; exact st))⟩
theorem d25_0 : decode jdk_43_method_23_code 0 = .ok (.iload_n 1, 1) := by decide +kernel
theorem d25_1 : decode jdk_43_method_23_code 1 = .ok (.i2b, 1) := by decide +kernel
theorem d25_2 : decode jdk_43_method_23_code 2 = .ok (.istore 4, 2) := by decide +kernel
theorem d25_4 : decode jdk_43_method_23_code 4 = .ok (.iload_n 2, 1) := by decide +kernel
theorem d25_5 : decode jdk_43_method_23_code 5 = .ok (.istore 5, 2) := by decide +kernel
theorem d25_31 : decode jdk_43_method_23_code 31 = .ok (.iconst (-1), 1) := by decide +kernel
theorem d25_32 : decode jdk_43_method_23_code 32 = .ok (.ireturn, 1) := by decide +kernel
abbrev Y22 : MethodName := (⟨"java/lang/StringLatin1", "indexOfChar", "([BIII)I"⟩ : MethodName)
theorem ef_own_io_none (m : MethodId)  (ki0 : Int32) (vf0 : Value) (b : Addr) (kd : ClassId) (ch : Int32) : entryFrame m #[xr b, xi ch, xi (0 : Int32), xi (Int32.ofNat 36)] 6 = (mkF m 0 #[vr b, vi ch, vi (0 : Int32), vi (Int32.ofNat 36), vu, vu] []) := by first | (simp [entryFrame, mkF, argsToLocals, Value.category]; done) | rfl
set_option maxRecDepth 65536 in
set_option maxHeartbeats 40000000 in
theorem own_io_none (l : Launch) (Z : State) (a0 : Array Value) (hw : ∀ d ∈ tables_1, d.before a0 Z = true) (hj : ∀ d ∈ jdkStatics_1, d.before a0 Z = true)  (ki0 : Int32) (vf0 : Value) (G : own_St Z hj ki0 vf0) (b : Addr) (kd : ClassId) (ch : Int32) (h0 : Heap) (n0 : Nat) (O0 : Old Z n0 h0) (VB : Arv Z h0 b kd .byte (Int32.ofNat 36) (own_vs own_al 36) (.int (0 : Int32))) (hall : ∀ j, j < 36 → if_icmp.holds .ne (own_al j) (ch.toInt8.toInt32) = true) : own_Met l Z Y22 jdk_43_method_23_code 6 (some .int) ({ frames := 0, cells := 0, slots := 0, locals := 0 } : Room) #[xr b, xi ch, xi (0 : Int32), xi (Int32.ofNat 36)] h0 (own_QR (some (xi (-1 : Int32))) h0 n0) := by
  intro ws
  refine MetFree.of_bodySF (plainFor_of_name pn4) hisR ?_
  intro p e s m args below meth c s₁ Bd hml0 hP hK
  obtain ⟨rfl, hZ, hh⟩ := hP
  have hx := Bd.exec
  have hby := Bd.bytes
  have hml : c.maxLocals = 6 := hml0
  have hown : s.vm.findClass "java/lang/StringLatin1" = some m.cls := findClass_of_methodNamed Bd.named
  have hnm := (name_of_methodNamed Bd.named Bd.method).1
  have X0 : Stand p l e ({ frames := 0, cells := 0, slots := 0, locals := 0 } : Room) s m #[xr b, xi ch, xi (0 : Int32), xi (Int32.ofNat 36)] below meth c s₁ [] 0 0 := Stand.of_body Bd
  have e0 : s₁.heap = h0 := by rw [← hh, Bd.state]; rfl
  have N0 := Fr.nil n0
  have pre0 : ∀ t, Steps p.tables e below (s₁.setTop (mkF m 0 #[vr b, vi ch, vi (0 : Int32), vi (Int32.ofNat 36), vu, vu] [])) t → Steps p.tables e below (s₁.setTop (entryFrame m #[xr b, xi ch, xi (0 : Int32), xi (Int32.ofNat 36)] 6)) t := fun t st => castTop (ef_own_io_none m ki0 vf0 b kd ch) st
  obtain ⟨TL, XL, eL, stL⟩ := own_io_loop hw hj ki0 vf0 G b kd ch hx hZ hby hml hown n0 h0 VB O0 [] N0 36 0 s₁ X0 e0 (by omega) (fun j _ h => hall j (by omega))
  rw [Nat.zero_add] at stL
  obtain ⟨fs, hr, hrun, hended, hW, hsame⟩ := XL.leave (v := some (xi (-1 : Int32))) (fun h => by rw [Bd.returns] at h; cases h)
  refine ⟨_, _, pre0 _ ?_, hrun, hended, _, _, rfl, ?_, ⟨_, rfl⟩, hW, hsame.mono (by decide) (by decide)⟩
  · show own_S p e below s₁ (mkF m 0 #[vr b, vi ch, vi (0 : Int32), vi (Int32.ofNat 36), vu, vu] []) _
    refine XS.iloadN X0.here hx rfl (hb hby d25_0) rfl ?_
    show own_S p e below s₁ (mkF m 1 #[vr b, vi ch, vi (0 : Int32), vi (Int32.ofNat 36), vu, vu] [xi ch]) _
    refine XS.i2b X0.here hx rfl (hb hby d25_1) rfl ?_
    show own_S p e below s₁ (mkF m 2 #[vr b, vi ch, vi (0 : Int32), vi (Int32.ofNat 36), vu, vu] [xi (ch.toInt8.toInt32)]) _
    refine XS.istore X0.here hx rfl (hb hby d25_2) rfl (l' := #[vr b, vi ch, vi (0 : Int32), vi (Int32.ofNat 36), vi (ch.toInt8.toInt32), vu]) rfl ?_
    refine XS.iloadN X0.here hx rfl (hb hby d25_4) rfl ?_
    refine XS.istore X0.here hx rfl (hb hby d25_5) rfl (l' := #[vr b, vi ch, vi (0 : Int32), vi (Int32.ofNat 36), vi (ch.toInt8.toInt32), vi (0 : Int32)]) rfl ?_
    refine stL _ ?_
    show own_S p e below TL (mkF m 7 #[vr b, vi ch, vi (0 : Int32), vi (Int32.ofNat 36), vi (ch.toInt8.toInt32), vi (Int32.ofNat 36)] []) _
    refine XS.iload XL.here hx rfl (hb hby d25_7) rfl ?_
    refine XS.iloadN XL.here hx rfl (hb hby d25_9) rfl ?_
    show own_S p e below TL (mkF m 10 #[vr b, vi ch, vi (0 : Int32), vi (Int32.ofNat 36), vi (ch.toInt8.toInt32), vi (Int32.ofNat 36)] [xi (Int32.ofNat 36), xi (Int32.ofNat 36)]) _
    refine XS.icmpYes XL.here hx rfl (pc0 := 10) (pc' := 31) rfl (hb hby d25_10) rfl (by simp [if_icmp.holds]) (by decide) (by decide) ?_
    refine XS.iconst XL.here hx rfl (hb hby d25_31) ?_
    show own_S p e below TL (mkF m 32 #[vr b, vi ch, vi (0 : Int32), vi (Int32.ofNat 36), vi (ch.toInt8.toInt32), vi (Int32.ofNat 36)] [xi (-1 : Int32)]) _
    exact retI XL hx Bd.returns (hb hby d25_32) hr
  · exact ⟨rfl, N0, eL⟩
theorem d25_22 : decode jdk_43_method_23_code 22 = .ok (.iload 5, 2) := by decide +kernel
theorem d25_24 : decode jdk_43_method_23_code 24 = .ok (.ireturn, 1) := by decide +kernel
theorem ef_own_io_some (m : MethodId)  (ki0 : Int32) (vf0 : Value) (b : Addr) (kd : ClassId) (ch : Int32) (mm : Nat) : entryFrame m #[xr b, xi ch, xi (0 : Int32), xi (Int32.ofNat 36)] 6 = (mkF m 0 #[vr b, vi ch, vi (0 : Int32), vi (Int32.ofNat 36), vu, vu] []) := by first | (simp [entryFrame, mkF, argsToLocals, Value.category]; done) | rfl
set_option maxRecDepth 65536 in
set_option maxHeartbeats 40000000 in
theorem own_io_some (l : Launch) (Z : State) (a0 : Array Value) (hw : ∀ d ∈ tables_1, d.before a0 Z = true) (hj : ∀ d ∈ jdkStatics_1, d.before a0 Z = true)  (ki0 : Int32) (vf0 : Value) (G : own_St Z hj ki0 vf0) (b : Addr) (kd : ClassId) (ch : Int32) (mm : Nat) (h0 : Heap) (n0 : Nat) (O0 : Old Z n0 h0) (VB : Arv Z h0 b kd .byte (Int32.ofNat 36) (own_vs own_al 36) (.int (0 : Int32))) (hall : ∀ j, j < mm → if_icmp.holds .ne (own_al j) (ch.toInt8.toInt32) = true) (hlt : mm < 36) (hyes : if_icmp.holds .ne (own_al mm) (ch.toInt8.toInt32) = false) : own_Met l Z Y22 jdk_43_method_23_code 6 (some .int) ({ frames := 0, cells := 0, slots := 0, locals := 0 } : Room) #[xr b, xi ch, xi (0 : Int32), xi (Int32.ofNat 36)] h0 (own_QR (some (xi (Int32.ofNat mm))) h0 n0) := by
  intro ws
  refine MetFree.of_bodySF (plainFor_of_name pn4) hisR ?_
  intro p e s m args below meth c s₁ Bd hml0 hP hK
  obtain ⟨rfl, hZ, hh⟩ := hP
  have hx := Bd.exec
  have hby := Bd.bytes
  have hml : c.maxLocals = 6 := hml0
  have hown : s.vm.findClass "java/lang/StringLatin1" = some m.cls := findClass_of_methodNamed Bd.named
  have hnm := (name_of_methodNamed Bd.named Bd.method).1
  have X0 : Stand p l e ({ frames := 0, cells := 0, slots := 0, locals := 0 } : Room) s m #[xr b, xi ch, xi (0 : Int32), xi (Int32.ofNat 36)] below meth c s₁ [] 0 0 := Stand.of_body Bd
  have e0 : s₁.heap = h0 := by rw [← hh, Bd.state]; rfl
  have N0 := Fr.nil n0
  have pre0 : ∀ t, Steps p.tables e below (s₁.setTop (mkF m 0 #[vr b, vi ch, vi (0 : Int32), vi (Int32.ofNat 36), vu, vu] [])) t → Steps p.tables e below (s₁.setTop (entryFrame m #[xr b, xi ch, xi (0 : Int32), xi (Int32.ofNat 36)] 6)) t := fun t st => castTop (ef_own_io_some m ki0 vf0 b kd ch mm) st
  obtain ⟨TL, XL, eL, stL⟩ := own_io_loop hw hj ki0 vf0 G b kd ch hx hZ hby hml hown n0 h0 VB O0 [] N0 mm 0 s₁ X0 e0 (by omega) (fun j _ h => hall j (by omega))
  rw [Nat.zero_add] at stL
  obtain ⟨cl1, Ar1, q1, S1, N1_, H1, G1⟩ := id VB
  have hin1 : ¬ ((Int32.ofNat mm) < 0 ∨ cl1.slots.size ≤ ((Int32.ofNat mm)).toNatClampNeg) := inb_of S1 (own_in hlt (by decide))
  have hat1 : cl1.slots[((Int32.ofNat mm)).toNatClampNeg]? = some (xi (own_al mm)) := Has.at H1 hin1 (by rw [own_nat (Nat.lt_trans hlt (by decide))]; exact own_vs_get hlt)
  obtain ⟨fs, hr, hrun, hended, hW, hsame⟩ := XL.leave (v := some (xi (Int32.ofNat mm))) (fun h => by rw [Bd.returns] at h; cases h)
  refine ⟨_, _, pre0 _ ?_, hrun, hended, _, _, rfl, ?_, ⟨_, rfl⟩, hW, hsame.mono (by decide) (by decide)⟩
  · show own_S p e below s₁ (mkF m 0 #[vr b, vi ch, vi (0 : Int32), vi (Int32.ofNat 36), vu, vu] []) _
    refine XS.iloadN X0.here hx rfl (hb hby d25_0) rfl ?_
    show own_S p e below s₁ (mkF m 1 #[vr b, vi ch, vi (0 : Int32), vi (Int32.ofNat 36), vu, vu] [xi ch]) _
    refine XS.i2b X0.here hx rfl (hb hby d25_1) rfl ?_
    show own_S p e below s₁ (mkF m 2 #[vr b, vi ch, vi (0 : Int32), vi (Int32.ofNat 36), vu, vu] [xi (ch.toInt8.toInt32)]) _
    refine XS.istore X0.here hx rfl (hb hby d25_2) rfl (l' := #[vr b, vi ch, vi (0 : Int32), vi (Int32.ofNat 36), vi (ch.toInt8.toInt32), vu]) rfl ?_
    refine XS.iloadN X0.here hx rfl (hb hby d25_4) rfl ?_
    refine XS.istore X0.here hx rfl (hb hby d25_5) rfl (l' := #[vr b, vi ch, vi (0 : Int32), vi (Int32.ofNat 36), vi (ch.toInt8.toInt32), vi (0 : Int32)]) rfl ?_
    refine stL _ ?_
    show own_S p e below TL (mkF m 7 #[vr b, vi ch, vi (0 : Int32), vi (Int32.ofNat 36), vi (ch.toInt8.toInt32), vi (Int32.ofNat mm)] []) _
    refine XS.iload XL.here hx rfl (hb hby d25_7) rfl ?_
    refine XS.iloadN XL.here hx rfl (hb hby d25_9) rfl ?_
    show own_S p e below TL (mkF m 10 #[vr b, vi ch, vi (0 : Int32), vi (Int32.ofNat 36), vi (ch.toInt8.toInt32), vi (Int32.ofNat mm)] [xi (Int32.ofNat 36), xi (Int32.ofNat mm)]) _
    refine XS.icmpNo XL.here hx rfl (hb hby d25_10) rfl (tlt (own_in hlt (by decide)).2).2.1 ?_
    refine XS.aloadN XL.here hx rfl (hb hby d25_13) rfl rfl ?_
    refine XS.iload XL.here hx rfl (hb hby d25_14) rfl ?_
    show own_S p e below TL (mkF m 16 #[vr b, vi ch, vi (0 : Int32), vi (Int32.ofNat 36), vi (ch.toInt8.toInt32), vi (Int32.ofNat mm)] [xi (Int32.ofNat mm), xr b]) _
    refine XL.baloadBytes hx (j := (Int32.ofNat mm)) (v := (xi (own_al mm))) (by rw [eL]; exact Ar1.1) (State.isArrayOf_alike hZ.alike Ar1.2.1) Ar1.2.2 hin1 hat1 (g := (mkF m 16 #[vr b, vi ch, vi (0 : Int32), vi (Int32.ofNat 36), vi (ch.toInt8.toInt32), vi (Int32.ofNat mm)] [xi (Int32.ofNat mm), xr b])) rfl rfl (hb hby d25_16) _ ?_
    refine XS.iload XL.here hx rfl (hb hby d25_17) rfl ?_
    show own_S p e below TL (mkF m 19 #[vr b, vi ch, vi (0 : Int32), vi (Int32.ofNat 36), vi (ch.toInt8.toInt32), vi (Int32.ofNat mm)] [xi (ch.toInt8.toInt32), xi (own_al mm)]) _
    refine XS.icmpNo XL.here hx rfl (hb hby d25_19) rfl hyes ?_
    refine XS.iload XL.here hx rfl (hb hby d25_22) rfl ?_
    show own_S p e below TL (mkF m 24 #[vr b, vi ch, vi (0 : Int32), vi (Int32.ofNat 36), vi (ch.toInt8.toInt32), vi (Int32.ofNat mm)] [xi (Int32.ofNat mm)]) _
    exact retI XL hx Bd.returns (hb hby d25_24) hr
  · exact ⟨rfl, N0, eL⟩
theorem own_first (x : Int32) (n : Nat) : (∀ j, j < n → ¬ own_al j = x) ∨ ∃ mm, mm < n ∧ own_al mm = x ∧ ∀ j, j < mm → ¬ own_al j = x := by
  induction n with
  | zero => exact Or.inl fun j h => absurd h (by omega)
  | succ n ih =>
    rcases ih with h | ⟨mm, h1, h2, h3⟩
    · by_cases q : own_al n = x
      · exact Or.inr ⟨n, by omega, q, h⟩
      · refine Or.inl fun j hj => ?_
        by_cases e : j = n
        · subst e; exact q
        · exact h j (by omega)
    · exact Or.inr ⟨mm, by omega, h2, h3⟩
theorem own_alok : ∀ n : Nat, n < 256 → (own_ok (Int32.ofNat n) ↔ ∃ mm, mm < 36 ∧ own_al mm = (Int32.ofNat n).toInt8.toInt32) := by decide +kernel
theorem own_big {ch : Int32} (h : if_icmp.holds .gt ch (255 : Int32) = true) : ¬ own_ok ch := by
  have t48 : ((48 : Int32)).toInt = 48 := by decide
  have t57 : ((57 : Int32)).toInt = 57 := by decide
  have t122 : ((122 : Int32)).toInt = 122 := by decide
  have t255 : ((255 : Int32)).toInt = 255 := by decide
  have q : (255 : Int32) < ch := by
    by_cases q : (255 : Int32) < ch
    · exact q
    · rw [(flt q).2.2.1] at h; cases h
  intro h; rcases h with h | h
  · apply h.2; rw [Int32.lt_iff_toInt_lt] at *; omega
  · apply h.2; rw [Int32.lt_iff_toInt_lt] at *; omega
theorem d21_0 : decode jdk_43_method_22_code 0 = .ok (.iload_n 1, 1) := by decide +kernel
theorem d21_1 : decode jdk_43_method_22_code 1 = .ok (.invokestatic 88, 3) := by decide +kernel
theorem ef_own_c0_canEncode (m : MethodId)  (ki0 : Int32) (vf0 : Value) (ch : Int32) : entryFrame m #[xi ch] 1 = (mkF m 0 #[vi ch] []) := by first | (simp [entryFrame, mkF, argsToLocals, Value.category]; done) | rfl
set_option maxRecDepth 65536 in
set_option maxHeartbeats 40000000 in
theorem own_c0_canEncode (l : Launch) (Z : State) (a0 : Array Value) (hw : ∀ d ∈ tables_1, d.before a0 Z = true) (hj : ∀ d ∈ jdkStatics_1, d.before a0 Z = true)  (ki0 : Int32) (vf0 : Value) (G : own_St Z hj ki0 vf0) (ch : Int32) (as8 : ifCond.holds .lt ch = false) (as9 : if_icmp.holds .gt ch (255 : Int32) = false) (h0 : Heap) (n0 : Nat) (O0 : Old Z n0 h0) : own_Met l Z Y21 jdk_43_method_4_code 1 (some .boolean) ({ frames := 0, cells := 0, slots := 0, locals := 0 } : Room) #[xi ch] h0 (own_QR (some (xi (1 : Int32))) h0 n0) := by
  intro ws
  refine MetFree.of_bodySF (plainFor_of_name pn4) hisR ?_
  intro p e s m args below meth c s₁ Bd hml0 hP hK
  obtain ⟨rfl, hZ, hh⟩ := hP
  have hx := Bd.exec
  have hby := Bd.bytes
  have hml : c.maxLocals = 1 := hml0
  have hown : s.vm.findClass "java/lang/StringLatin1" = some m.cls := findClass_of_methodNamed Bd.named
  have hnm := (name_of_methodNamed Bd.named Bd.method).1
  have X0 : Stand p l e ({ frames := 0, cells := 0, slots := 0, locals := 0 } : Room) s m #[xi ch] below meth c s₁ [] 0 0 := Stand.of_body Bd
  have e0 : s₁.heap = h0 := by rw [← hh, Bd.state]; rfl
  have N0 := Fr.nil n0
  have pre0 : ∀ t, Steps p.tables e below (s₁.setTop (mkF m 0 #[vi ch] [])) t → Steps p.tables e below (s₁.setTop (entryFrame m #[xi ch] 1)) t := fun t st => castTop (ef_own_c0_canEncode m ki0 vf0 ch) st
  obtain ⟨fs, hr, hrun, hended, hW, hsame⟩ := X0.leave (v := some (xi (1 : Int32))) (fun h => by rw [Bd.returns] at h; cases h)
  refine ⟨_, _, pre0 _ ?_, hrun, hended, _, _, rfl, ?_, ⟨_, rfl⟩, hW, hsame.mono (by decide) (by decide)⟩
  · show own_S p e below s₁ (mkF m 0 #[vi ch] []) _
    refine XS.iloadN X0.here hx rfl (hb hby d22_0) rfl ?_
    show own_S p e below s₁ (mkF m 1 #[vi ch] [xi ch]) _
    refine XS.ifNo X0.here hx rfl (hb hby d22_1) rfl as8 ?_
    refine XS.iloadN X0.here hx rfl (hb hby d22_4) rfl ?_
    refine XS.sipush X0.here hx rfl (hb hby d22_5) ?_
    show own_S p e below s₁ (mkF m 8 #[vi ch] [xi (255 : Int32), xi ch]) _
    refine XS.icmpNo X0.here hx rfl (hb hby d22_8) rfl as9 ?_
    refine XS.iconst X0.here hx rfl (hb hby d22_11) ?_
    refine XS.goto X0.here hx rfl (pc0 := 12) (pc' := 16) rfl (hb hby d22_12) (by decide) (by decide) ?_
    show own_S p e below s₁ (mkF m 16 #[vi ch] [xi (1 : Int32)]) _
    exact retN X0 hx (t := .boolean) Bd.returns (by simp) (hb hby d22_16) hr
  · exact ⟨rfl, N0, e0⟩
theorem pd14 : parseMethodDescriptor "(I)Z" = some ⟨[.int], some .boolean⟩ := by decide +kernel
theorem d21_4 : decode jdk_43_method_22_code 4 = .ok (.ifCond .ne 5, 3) := by decide +kernel
theorem d21_9 : decode jdk_43_method_22_code 9 = .ok (.iload_n 2, 1) := by decide +kernel
theorem d21_10 : decode jdk_43_method_22_code 10 = .ok (.iconst 0, 1) := by decide +kernel
theorem d21_11 : decode jdk_43_method_22_code 11 = .ok (.invokestatic 92, 3) := by decide +kernel
theorem d23_0 : decode jdk_29_method_65_code 0 = .ok (.iload_n 0, 1) := by decide +kernel
theorem d23_1 : decode jdk_29_method_65_code 1 = .ok (.iload_n 1, 1) := by decide +kernel
theorem d23_2 : decode jdk_29_method_65_code 2 = .ok (.if_icmp .lt 7, 3) := by decide +kernel
theorem d23_5 : decode jdk_29_method_65_code 5 = .ok (.iload_n 0, 1) := by decide +kernel
theorem d23_6 : decode jdk_29_method_65_code 6 = .ok (.goto 4, 3) := by decide +kernel
theorem d23_10 : decode jdk_29_method_65_code 10 = .ok (.ireturn, 1) := by decide +kernel
abbrev Y23 : MethodName := (⟨"java/lang/Math", "max", "(II)I"⟩ : MethodName)
theorem pn5 : plainFor (⟨"java/lang/Math", "max", "(II)I"⟩ : MethodName) = true := by decide +kernel
theorem ef_own_c1_max (m : MethodId)  (ki0 : Int32) (vf0 : Value) : entryFrame m #[xi (0 : Int32), xi (0 : Int32)] 2 = (mkF m 0 #[vi (0 : Int32), vi (0 : Int32)] []) := by first | (simp [entryFrame, mkF, argsToLocals, Value.category]; done) | rfl
set_option maxRecDepth 65536 in
set_option maxHeartbeats 40000000 in
theorem own_c1_max (l : Launch) (Z : State) (a0 : Array Value) (hw : ∀ d ∈ tables_1, d.before a0 Z = true) (hj : ∀ d ∈ jdkStatics_1, d.before a0 Z = true)  (ki0 : Int32) (vf0 : Value) (G : own_St Z hj ki0 vf0) (h0 : Heap) (n0 : Nat) (O0 : Old Z n0 h0) : own_Met l Z Y23 jdk_29_method_65_code 2 (some .int) ({ frames := 0, cells := 0, slots := 0, locals := 0 } : Room) #[xi (0 : Int32), xi (0 : Int32)] h0 (own_QR (some (xi (0 : Int32))) h0 n0) := by
  intro ws
  refine MetFree.of_bodySF pn5 hisR ?_
  intro p e s m args below meth c s₁ Bd hml0 hP hK
  obtain ⟨rfl, hZ, hh⟩ := hP
  have hx := Bd.exec
  have hby := Bd.bytes
  have hml : c.maxLocals = 2 := hml0
  have hown : s.vm.findClass "java/lang/Math" = some m.cls := findClass_of_methodNamed Bd.named
  have hnm := (name_of_methodNamed Bd.named Bd.method).1
  have X0 : Stand p l e ({ frames := 0, cells := 0, slots := 0, locals := 0 } : Room) s m #[xi (0 : Int32), xi (0 : Int32)] below meth c s₁ [] 0 0 := Stand.of_body Bd
  have e0 : s₁.heap = h0 := by rw [← hh, Bd.state]; rfl
  have N0 := Fr.nil n0
  have pre0 : ∀ t, Steps p.tables e below (s₁.setTop (mkF m 0 #[vi (0 : Int32), vi (0 : Int32)] [])) t → Steps p.tables e below (s₁.setTop (entryFrame m #[xi (0 : Int32), xi (0 : Int32)] 2)) t := fun t st => castTop (ef_own_c1_max m ki0 vf0) st
  obtain ⟨fs, hr, hrun, hended, hW, hsame⟩ := X0.leave (v := some (xi (0 : Int32))) (fun h => by rw [Bd.returns] at h; cases h)
  refine ⟨_, _, pre0 _ ?_, hrun, hended, _, _, rfl, ?_, ⟨_, rfl⟩, hW, hsame.mono (by decide) (by decide)⟩
  · show own_S p e below s₁ (mkF m 0 #[vi (0 : Int32), vi (0 : Int32)] []) _
    refine XS.iloadN X0.here hx rfl (hb hby d23_0) rfl ?_
    refine XS.iloadN X0.here hx rfl (hb hby d23_1) rfl ?_
    show own_S p e below s₁ (mkF m 2 #[vi (0 : Int32), vi (0 : Int32)] [xi (0 : Int32), xi (0 : Int32)]) _
    refine XS.icmpNo X0.here hx rfl (hb hby d23_2) rfl (by decide) ?_
    refine XS.iloadN X0.here hx rfl (hb hby d23_5) rfl ?_
    refine XS.goto X0.here hx rfl (pc0 := 6) (pc' := 10) rfl (hb hby d23_6) (by decide) (by decide) ?_
    show own_S p e below s₁ (mkF m 10 #[vi (0 : Int32), vi (0 : Int32)] [xi (0 : Int32)]) _
    exact retI X0 hx Bd.returns (hb hby d23_10) hr
  · exact ⟨rfl, N0, e0⟩
theorem pd15 : parseMethodDescriptor "(II)I" = some ⟨[.int, .int], some .int⟩ := by decide +kernel
theorem d21_14 : decode jdk_43_method_22_code 14 = .ok (.istore_n 2, 1) := by decide +kernel
theorem d21_15 : decode jdk_43_method_22_code 15 = .ok (.iload_n 3, 1) := by decide +kernel
theorem d21_16 : decode jdk_43_method_22_code 16 = .ok (.aload_n 0, 1) := by decide +kernel
theorem d21_17 : decode jdk_43_method_22_code 17 = .ok (.arraylength, 1) := by decide +kernel
theorem d21_18 : decode jdk_43_method_22_code 18 = .ok (.invokestatic 38, 3) := by decide +kernel
theorem d24_0 : decode jdk_29_method_69_code 0 = .ok (.iload_n 0, 1) := by decide +kernel
theorem d24_1 : decode jdk_29_method_69_code 1 = .ok (.iload_n 1, 1) := by decide +kernel
theorem d24_2 : decode jdk_29_method_69_code 2 = .ok (.if_icmp .gt 7, 3) := by decide +kernel
theorem d24_5 : decode jdk_29_method_69_code 5 = .ok (.iload_n 0, 1) := by decide +kernel
theorem d24_6 : decode jdk_29_method_69_code 6 = .ok (.goto 4, 3) := by decide +kernel
theorem d24_10 : decode jdk_29_method_69_code 10 = .ok (.ireturn, 1) := by decide +kernel
abbrev Y24 : MethodName := (⟨"java/lang/Math", "min", "(II)I"⟩ : MethodName)
theorem pn6 : plainFor (⟨"java/lang/Math", "min", "(II)I"⟩ : MethodName) = true := by decide +kernel
theorem ef_own_c2_min (m : MethodId)  (ki0 : Int32) (vf0 : Value) : entryFrame m #[xi (Int32.ofNat 36), xi (Int32.ofNat 36)] 2 = (mkF m 0 #[vi (Int32.ofNat 36), vi (Int32.ofNat 36)] []) := by first | (simp [entryFrame, mkF, argsToLocals, Value.category]; done) | rfl
set_option maxRecDepth 65536 in
set_option maxHeartbeats 40000000 in
theorem own_c2_min (l : Launch) (Z : State) (a0 : Array Value) (hw : ∀ d ∈ tables_1, d.before a0 Z = true) (hj : ∀ d ∈ jdkStatics_1, d.before a0 Z = true)  (ki0 : Int32) (vf0 : Value) (G : own_St Z hj ki0 vf0) (h0 : Heap) (n0 : Nat) (O0 : Old Z n0 h0) : own_Met l Z Y24 jdk_29_method_69_code 2 (some .int) ({ frames := 0, cells := 0, slots := 0, locals := 0 } : Room) #[xi (Int32.ofNat 36), xi (Int32.ofNat 36)] h0 (own_QR (some (xi (Int32.ofNat 36))) h0 n0) := by
  intro ws
  refine MetFree.of_bodySF pn6 hisR ?_
  intro p e s m args below meth c s₁ Bd hml0 hP hK
  obtain ⟨rfl, hZ, hh⟩ := hP
  have hx := Bd.exec
  have hby := Bd.bytes
  have hml : c.maxLocals = 2 := hml0
  have hown : s.vm.findClass "java/lang/Math" = some m.cls := findClass_of_methodNamed Bd.named
  have hnm := (name_of_methodNamed Bd.named Bd.method).1
  have X0 : Stand p l e ({ frames := 0, cells := 0, slots := 0, locals := 0 } : Room) s m #[xi (Int32.ofNat 36), xi (Int32.ofNat 36)] below meth c s₁ [] 0 0 := Stand.of_body Bd
  have e0 : s₁.heap = h0 := by rw [← hh, Bd.state]; rfl
  have N0 := Fr.nil n0
  have pre0 : ∀ t, Steps p.tables e below (s₁.setTop (mkF m 0 #[vi (Int32.ofNat 36), vi (Int32.ofNat 36)] [])) t → Steps p.tables e below (s₁.setTop (entryFrame m #[xi (Int32.ofNat 36), xi (Int32.ofNat 36)] 2)) t := fun t st => castTop (ef_own_c2_min m ki0 vf0) st
  obtain ⟨fs, hr, hrun, hended, hW, hsame⟩ := X0.leave (v := some (xi (Int32.ofNat 36))) (fun h => by rw [Bd.returns] at h; cases h)
  refine ⟨_, _, pre0 _ ?_, hrun, hended, _, _, rfl, ?_, ⟨_, rfl⟩, hW, hsame.mono (by decide) (by decide)⟩
  · show own_S p e below s₁ (mkF m 0 #[vi (Int32.ofNat 36), vi (Int32.ofNat 36)] []) _
    refine XS.iloadN X0.here hx rfl (hb hby d24_0) rfl ?_
    refine XS.iloadN X0.here hx rfl (hb hby d24_1) rfl ?_
    show own_S p e below s₁ (mkF m 2 #[vi (Int32.ofNat 36), vi (Int32.ofNat 36)] [xi (Int32.ofNat 36), xi (Int32.ofNat 36)]) _
    refine XS.icmpNo X0.here hx rfl (hb hby d24_2) rfl (by simp [if_icmp.holds]) ?_
    refine XS.iloadN X0.here hx rfl (hb hby d24_5) rfl ?_
    refine XS.goto X0.here hx rfl (pc0 := 6) (pc' := 10) rfl (hb hby d24_6) (by decide) (by decide) ?_
    show own_S p e below s₁ (mkF m 10 #[vi (Int32.ofNat 36), vi (Int32.ofNat 36)] [xi (Int32.ofNat 36)]) _
    exact retI X0 hx Bd.returns (hb hby d24_10) hr
  · exact ⟨rfl, N0, e0⟩
theorem d21_21 : decode jdk_43_method_22_code 21 = .ok (.istore_n 3, 1) := by decide +kernel
theorem d21_22 : decode jdk_43_method_22_code 22 = .ok (.iload_n 2, 1) := by decide +kernel
theorem d21_23 : decode jdk_43_method_22_code 23 = .ok (.iload_n 3, 1) := by decide +kernel
theorem d21_24 : decode jdk_43_method_22_code 24 = .ok (.if_icmp .lt 5, 3) := by decide +kernel
theorem d21_29 : decode jdk_43_method_22_code 29 = .ok (.aload_n 0, 1) := by decide +kernel
theorem d21_30 : decode jdk_43_method_22_code 30 = .ok (.iload_n 1, 1) := by decide +kernel
theorem d21_31 : decode jdk_43_method_22_code 31 = .ok (.iload_n 2, 1) := by decide +kernel
theorem d21_32 : decode jdk_43_method_22_code 32 = .ok (.iload_n 3, 1) := by decide +kernel
theorem d21_33 : decode jdk_43_method_22_code 33 = .ok (.invokestatic 95, 3) := by decide +kernel
theorem pd16 : parseMethodDescriptor "([BIII)I" = some ⟨[(.array .byte), .int, .int, .int], some .int⟩ := by decide +kernel
theorem d21_36 : decode jdk_43_method_22_code 36 = .ok (.ireturn, 1) := by decide +kernel
abbrev Y25 : MethodName := (⟨"java/lang/StringLatin1", "indexOf", "([BIII)I"⟩ : MethodName)
theorem ef_own_li1 (m : MethodId)  (ki0 : Int32) (vf0 : Value) (b : Addr) (kd : ClassId) (ch : Int32) (rr : Int32) : entryFrame m #[xr b, xi ch, xi (0 : Int32), xi (Int32.ofNat 36)] 4 = (mkF m 0 #[vr b, vi ch, vi (0 : Int32), vi (Int32.ofNat 36)] []) := by first | (simp [entryFrame, mkF, argsToLocals, Value.category]; done) | rfl
set_option maxRecDepth 65536 in
set_option maxHeartbeats 40000000 in
theorem own_li1 (l : Launch) (Z : State) (a0 : Array Value) (hw : ∀ d ∈ tables_1, d.before a0 Z = true) (hj : ∀ d ∈ jdkStatics_1, d.before a0 Z = true)  (ki0 : Int32) (vf0 : Value) (G : own_St Z hj ki0 vf0) (b : Addr) (kd : ClassId) (ch : Int32) (rr : Int32) (as8 : ifCond.holds .lt ch = false) (as9 : if_icmp.holds .gt ch (255 : Int32) = false) (h0 : Heap) (n0 : Nat) (O0 : Old Z n0 h0) (VB : Arv Z h0 b kd .byte (Int32.ofNat 36) (own_vs own_al 36) (.int (0 : Int32))) (hI : own_Met l Z Y22 jdk_43_method_23_code 6 (some .int) ({ frames := 0, cells := 0, slots := 0, locals := 0 } : Room) #[xr b, xi ch, xi (0 : Int32), xi (Int32.ofNat 36)] h0 (own_QR (some (xi rr)) h0 n0)) : own_Met l Z Y25 jdk_43_method_22_code 4 (some .int) ({ frames := 1, cells := 0, slots := 0, locals := 17 } : Room) #[xr b, xi ch, xi (0 : Int32), xi (Int32.ofNat 36)] h0 (own_QR (some (xi rr)) h0 n0) := by
  intro ws
  refine MetFree.of_bodySF (plainFor_of_name pn4) hisR ?_
  intro p e s m args below meth c s₁ Bd hml0 hP hK
  obtain ⟨rfl, hZ, hh⟩ := hP
  have hx := Bd.exec
  have hby := Bd.bytes
  have hml : c.maxLocals = 4 := hml0
  have hown : s.vm.findClass "java/lang/StringLatin1" = some m.cls := findClass_of_methodNamed Bd.named
  have hnm := (name_of_methodNamed Bd.named Bd.method).1
  have X0 : Stand p l e ({ frames := 1, cells := 0, slots := 0, locals := 17 } : Room) s m #[xr b, xi ch, xi (0 : Int32), xi (Int32.ofNat 36)] below meth c s₁ [] 0 0 := Stand.of_body Bd
  have e0 : s₁.heap = h0 := by rw [← hh, Bd.state]; rfl
  have N0 := Fr.nil n0
  have pre0 : ∀ t, Steps p.tables e below (s₁.setTop (mkF m 0 #[vr b, vi ch, vi (0 : Int32), vi (Int32.ofNat 36)] [])) t → Steps p.tables e below (s₁.setTop (entryFrame m #[xr b, xi ch, xi (0 : Int32), xi (Int32.ofNat 36)] 4)) t := fun t st => castTop (ef_own_li1 m ki0 vf0 b kd ch rr) st
  obtain ⟨_, _, ⟨T1, L1, k1, n1⟩, -, X1, ⟨Lc1, hQ1, l1, y1, z1⟩, st1⟩ := Jvm.LawKit.callS X0 hx (y := Y21) hown (mvT hZ (ww hw 98 rfl)) (mvT hZ (ww hw 99 rfl)) (mvT hZ (ww hw 74 rfl)) (mvT hZ (ww hw 100 rfl)) (by decide) (backOf (W := 0) (own_c0_canEncode l Z a0 hw hj ki0 vf0 G ch as8 as9 h0 n0 O0 []) hZ (ww hw 100 rfl) (ww hw 74 rfl) (by decide) (by decide)) (g := (mkF m 1 #[vr b, vi ch, vi (0 : Int32), vi (Int32.ofNat 36)] [xi ch])) rfl (by rw [hml]; rfl) (argsL := [xi ch]) (rest := []) (lenOf pd14 rfl) rfl (by show 2 * 0 + _ ≤ _; exact Nat.le_of_eq rfl) (hb hby d21_1) (fun _ _ => ⟨rfl, e0, (by decide : 0 + 0 ≤ _), (by decide : 0 + 0 ≤ _)⟩)
  dsimp only [Pt.U, Pt.locs, Pt.cells, Pt.slots] at X1 l1 y1 z1 st1 hQ1
  subst l1 y1 z1
  obtain ⟨rfl, Nq1, e1⟩ := hQ1
  have N1 := Fr.app N0 Nq1
  obtain ⟨_, _, ⟨T2, L2, k2, n2⟩, -, X2, ⟨Lc2, hQ2, l2, y2, z2⟩, st2⟩ := Jvm.LawKit.callS X1 hx (y := Y23) hown (mvT hZ (ww hw 101 rfl)) (mvT hZ (ww hw 102 rfl)) (mvT hZ (ww hw 103 rfl)) (mvT hZ (ww hw 104 rfl)) (by decide) (backOf (W := 0) (own_c1_max l Z a0 hw hj ki0 vf0 G h0 n0 O0 []) hZ (ww hw 104 rfl) (ww hw 103 rfl) (by decide) (by decide)) (g := (mkF m 11 #[vr b, vi ch, vi (0 : Int32), vi (Int32.ofNat 36)] [xi (0 : Int32), xi (0 : Int32)])) rfl (by rw [hml]; rfl) (argsL := [xi (0 : Int32), xi (0 : Int32)]) (rest := []) (lenOf pd15 rfl) rfl (by show 2 * 0 + _ ≤ _; exact Nat.le_of_eq rfl) (hb hby d21_11) (fun _ _ => ⟨rfl, e1, (by decide : 0 + 0 ≤ _), (by decide : 0 + 0 ≤ _)⟩)
  dsimp only [Pt.U, Pt.locs, Pt.cells, Pt.slots] at X2 l2 y2 z2 st2 hQ2
  subst l2 y2 z2
  obtain ⟨rfl, Nq2, e2⟩ := hQ2
  have N2 := Fr.app N1 Nq2
  obtain ⟨cl3, Ar3, q3, S3, N3_, H3, G3⟩ := id VB
  obtain ⟨_, _, ⟨T4, L4, k4, n4⟩, -, X4, ⟨Lc4, hQ4, l4, y4, z4⟩, st4⟩ := Jvm.LawKit.callS X2 hx (y := Y24) hown (mvT hZ (ww hw 105 rfl)) (mvT hZ (ww hw 106 rfl)) (mvT hZ (ww hw 103 rfl)) (mvT hZ (ww hw 107 rfl)) (by decide) (backOf (W := 0) (own_c2_min l Z a0 hw hj ki0 vf0 G h0 n0 O0 []) hZ (ww hw 107 rfl) (ww hw 103 rfl) (by decide) (by decide)) (g := (mkF m 18 #[vr b, vi ch, vi (0 : Int32), vi (Int32.ofNat 36)] [xi (Int32.ofNat 36), xi (Int32.ofNat 36)])) rfl (by rw [hml]; rfl) (argsL := [xi (Int32.ofNat 36), xi (Int32.ofNat 36)]) (rest := []) (lenOf pd15 rfl) rfl (by show 2 * 0 + _ ≤ _; exact Nat.le_of_eq rfl) (hb hby d21_18) (fun _ _ => ⟨rfl, e2, (by decide : 0 + 0 ≤ _), (by decide : 0 + 0 ≤ _)⟩)
  dsimp only [Pt.U, Pt.locs, Pt.cells, Pt.slots] at X4 l4 y4 z4 st4 hQ4
  subst l4 y4 z4
  obtain ⟨rfl, Nq4, e4⟩ := hQ4
  have N4 := Fr.app N2 Nq4
  obtain ⟨_, _, ⟨T5, L5, k5, n5⟩, -, X5, ⟨Lc5, hQ5, l5, y5, z5⟩, st5⟩ := Jvm.LawKit.callS X4 hx (y := Y22) hown (mvT hZ (ww hw 108 rfl)) (mvT hZ (ww hw 109 rfl)) (mvT hZ (ww hw 74 rfl)) (mvT hZ (ww hw 110 rfl)) (by decide) (backOf (W := 0) (hI []) hZ (ww hw 110 rfl) (ww hw 74 rfl) (by decide) (by decide)) (g := (mkF m 33 #[vr b, vi ch, vi (0 : Int32), vi (Int32.ofNat 36)] [xi (Int32.ofNat 36), xi (0 : Int32), xi ch, xr b])) rfl (by rw [hml]; rfl) (argsL := [xr b, xi ch, xi (0 : Int32), xi (Int32.ofNat 36)]) (rest := []) (lenOf pd16 rfl) rfl (by show 2 * 0 + _ ≤ _; exact Nat.le_of_eq rfl) (hb hby d21_33) (fun _ _ => ⟨rfl, e4, (by decide : 0 + 0 ≤ _), (by decide : 0 + 0 ≤ _)⟩)
  dsimp only [Pt.U, Pt.locs, Pt.cells, Pt.slots] at X5 l5 y5 z5 st5 hQ5
  subst l5 y5 z5
  obtain ⟨rfl, Nq5, e5⟩ := hQ5
  have N5 := Fr.app N4 Nq5
  obtain ⟨fs, hr, hrun, hended, hW, hsame⟩ := X5.leave (v := some (xi rr)) (fun h => by rw [Bd.returns] at h; cases h)
  refine ⟨_, _, pre0 _ ?_, hrun, hended, _, _, rfl, ?_, ⟨_, rfl⟩, hW, hsame.mono (by decide) (by decide)⟩
  · show own_S p e below s₁ (mkF m 0 #[vr b, vi ch, vi (0 : Int32), vi (Int32.ofNat 36)] []) _
    refine XS.iloadN X0.here hx rfl (hb hby d21_0) rfl ?_
    show own_S p e below s₁ (mkF m 1 #[vr b, vi ch, vi (0 : Int32), vi (Int32.ofNat 36)] [xi ch]) _
    refine st1 _ ?_
    show own_S p e below T1 (mkF m 4 #[vr b, vi ch, vi (0 : Int32), vi (Int32.ofNat 36)] [xi (1 : Int32)]) _
    refine XS.ifYes X1.here hx rfl (pc0 := 4) (pc' := 9) rfl (hb hby d21_4) rfl (by decide) (by decide) (by decide) ?_
    refine XS.iloadN X1.here hx rfl (hb hby d21_9) rfl ?_
    refine XS.iconst X1.here hx rfl (hb hby d21_10) ?_
    show own_S p e below T1 (mkF m 11 #[vr b, vi ch, vi (0 : Int32), vi (Int32.ofNat 36)] [xi (0 : Int32), xi (0 : Int32)]) _
    refine st2 _ ?_
    refine XS.istoreN X2.here hx rfl (hb hby d21_14) rfl (l' := #[vr b, vi ch, vi (0 : Int32), vi (Int32.ofNat 36)]) rfl ?_
    refine XS.iloadN X2.here hx rfl (hb hby d21_15) rfl ?_
    refine XS.aloadN X2.here hx rfl (hb hby d21_16) rfl rfl ?_
    show own_S p e below T2 (mkF m 17 #[vr b, vi ch, vi (0 : Int32), vi (Int32.ofNat 36)] [xr b, xi (Int32.ofNat 36)]) _
    refine X2.arraylength hx (by rw [e2]; exact Ar3.1) (State.isArrayOf_alike hZ.alike Ar3.2.1) (g := (mkF m 17 #[vr b, vi ch, vi (0 : Int32), vi (Int32.ofNat 36)] [xr b, xi (Int32.ofNat 36)])) rfl rfl (hb hby d21_17) _ ?_
    refine castTop (show (mkF m 18 #[vr b, vi ch, vi (0 : Int32), vi (Int32.ofNat 36)] [xi cl3.slots.size.toInt32, xi (Int32.ofNat 36)]) = (mkF m 18 #[vr b, vi ch, vi (0 : Int32), vi (Int32.ofNat 36)] [xi (Int32.ofNat 36), xi (Int32.ofNat 36)]) from by rw [len_of S3 N3_]) ?_
    show own_S p e below T2 (mkF m 18 #[vr b, vi ch, vi (0 : Int32), vi (Int32.ofNat 36)] [xi (Int32.ofNat 36), xi (Int32.ofNat 36)]) _
    refine st4 _ ?_
    refine XS.istoreN X4.here hx rfl (hb hby d21_21) rfl (l' := #[vr b, vi ch, vi (0 : Int32), vi (Int32.ofNat 36)]) rfl ?_
    refine XS.iloadN X4.here hx rfl (hb hby d21_22) rfl ?_
    refine XS.iloadN X4.here hx rfl (hb hby d21_23) rfl ?_
    show own_S p e below T4 (mkF m 24 #[vr b, vi ch, vi (0 : Int32), vi (Int32.ofNat 36)] [xi (Int32.ofNat 36), xi (0 : Int32)]) _
    refine XS.icmpYes X4.here hx rfl (pc0 := 24) (pc' := 29) rfl (hb hby d21_24) rfl (by decide) (by decide) (by decide) ?_
    refine XS.aloadN X4.here hx rfl (hb hby d21_29) rfl rfl ?_
    refine XS.iloadN X4.here hx rfl (hb hby d21_30) rfl ?_
    refine XS.iloadN X4.here hx rfl (hb hby d21_31) rfl ?_
    show own_S p e below T4 (mkF m 32 #[vr b, vi ch, vi (0 : Int32), vi (Int32.ofNat 36)] [xi (0 : Int32), xi ch, xr b]) _
    refine XS.iloadN X4.here hx rfl (hb hby d21_32) rfl ?_
    show own_S p e below T4 (mkF m 33 #[vr b, vi ch, vi (0 : Int32), vi (Int32.ofNat 36)] [xi (Int32.ofNat 36), xi (0 : Int32), xi ch, xr b]) _
    refine st5 _ ?_
    show own_S p e below T5 (mkF m 36 #[vr b, vi ch, vi (0 : Int32), vi (Int32.ofNat 36)] [xi rr]) _
    exact retI X5 hx Bd.returns (hb hby d21_36) hr
  · exact ⟨rfl, N5, e5⟩
theorem ef_own_c3_canEncode (m : MethodId)  (ki0 : Int32) (vf0 : Value) (ch : Int32) : entryFrame m #[xi ch] 1 = (mkF m 0 #[vi ch] []) := by first | (simp [entryFrame, mkF, argsToLocals, Value.category]; done) | rfl
set_option maxRecDepth 65536 in
set_option maxHeartbeats 40000000 in
theorem own_c3_canEncode (l : Launch) (Z : State) (a0 : Array Value) (hw : ∀ d ∈ tables_1, d.before a0 Z = true) (hj : ∀ d ∈ jdkStatics_1, d.before a0 Z = true)  (ki0 : Int32) (vf0 : Value) (G : own_St Z hj ki0 vf0) (ch : Int32) (as8 : ifCond.holds .lt ch = false) (as10 : if_icmp.holds .gt ch (255 : Int32) = true) (h0 : Heap) (n0 : Nat) (O0 : Old Z n0 h0) : own_Met l Z Y21 jdk_43_method_4_code 1 (some .boolean) ({ frames := 0, cells := 0, slots := 0, locals := 0 } : Room) #[xi ch] h0 (own_QR (some (xi (0 : Int32))) h0 n0) := by
  intro ws
  refine MetFree.of_bodySF (plainFor_of_name pn4) hisR ?_
  intro p e s m args below meth c s₁ Bd hml0 hP hK
  obtain ⟨rfl, hZ, hh⟩ := hP
  have hx := Bd.exec
  have hby := Bd.bytes
  have hml : c.maxLocals = 1 := hml0
  have hown : s.vm.findClass "java/lang/StringLatin1" = some m.cls := findClass_of_methodNamed Bd.named
  have hnm := (name_of_methodNamed Bd.named Bd.method).1
  have X0 : Stand p l e ({ frames := 0, cells := 0, slots := 0, locals := 0 } : Room) s m #[xi ch] below meth c s₁ [] 0 0 := Stand.of_body Bd
  have e0 : s₁.heap = h0 := by rw [← hh, Bd.state]; rfl
  have N0 := Fr.nil n0
  have pre0 : ∀ t, Steps p.tables e below (s₁.setTop (mkF m 0 #[vi ch] [])) t → Steps p.tables e below (s₁.setTop (entryFrame m #[xi ch] 1)) t := fun t st => castTop (ef_own_c3_canEncode m ki0 vf0 ch) st
  obtain ⟨fs, hr, hrun, hended, hW, hsame⟩ := X0.leave (v := some (xi (0 : Int32))) (fun h => by rw [Bd.returns] at h; cases h)
  refine ⟨_, _, pre0 _ ?_, hrun, hended, _, _, rfl, ?_, ⟨_, rfl⟩, hW, hsame.mono (by decide) (by decide)⟩
  · show own_S p e below s₁ (mkF m 0 #[vi ch] []) _
    refine XS.iloadN X0.here hx rfl (hb hby d22_0) rfl ?_
    show own_S p e below s₁ (mkF m 1 #[vi ch] [xi ch]) _
    refine XS.ifNo X0.here hx rfl (hb hby d22_1) rfl as8 ?_
    refine XS.iloadN X0.here hx rfl (hb hby d22_4) rfl ?_
    refine XS.sipush X0.here hx rfl (hb hby d22_5) ?_
    show own_S p e below s₁ (mkF m 8 #[vi ch] [xi (255 : Int32), xi ch]) _
    refine XS.icmpYes X0.here hx rfl (pc0 := 8) (pc' := 15) rfl (hb hby d22_8) rfl as10 (by decide) (by decide) ?_
    refine XS.iconst X0.here hx rfl (hb hby d22_15) ?_
    show own_S p e below s₁ (mkF m 16 #[vi ch] [xi (0 : Int32)]) _
    exact retN X0 hx (t := .boolean) Bd.returns (by simp) (hb hby d22_16) hr
  · exact ⟨rfl, N0, e0⟩
theorem d21_7 : decode jdk_43_method_22_code 7 = .ok (.iconst (-1), 1) := by decide +kernel
theorem d21_8 : decode jdk_43_method_22_code 8 = .ok (.ireturn, 1) := by decide +kernel
theorem ef_own_li0 (m : MethodId)  (ki0 : Int32) (vf0 : Value) (b : Addr) (kd : ClassId) (ch : Int32) : entryFrame m #[xr b, xi ch, xi (0 : Int32), xi (Int32.ofNat 36)] 4 = (mkF m 0 #[vr b, vi ch, vi (0 : Int32), vi (Int32.ofNat 36)] []) := by first | (simp [entryFrame, mkF, argsToLocals, Value.category]; done) | rfl
set_option maxRecDepth 65536 in
set_option maxHeartbeats 40000000 in
theorem own_li0 (l : Launch) (Z : State) (a0 : Array Value) (hw : ∀ d ∈ tables_1, d.before a0 Z = true) (hj : ∀ d ∈ jdkStatics_1, d.before a0 Z = true)  (ki0 : Int32) (vf0 : Value) (G : own_St Z hj ki0 vf0) (b : Addr) (kd : ClassId) (ch : Int32) (as8 : ifCond.holds .lt ch = false) (as10 : if_icmp.holds .gt ch (255 : Int32) = true) (h0 : Heap) (n0 : Nat) (O0 : Old Z n0 h0) (VB : Arv Z h0 b kd .byte (Int32.ofNat 36) (own_vs own_al 36) (.int (0 : Int32))) : own_Met l Z Y25 jdk_43_method_22_code 4 (some .int) ({ frames := 1, cells := 0, slots := 0, locals := 17 } : Room) #[xr b, xi ch, xi (0 : Int32), xi (Int32.ofNat 36)] h0 (own_QR (some (xi (-1 : Int32))) h0 n0) := by
  intro ws
  refine MetFree.of_bodySF (plainFor_of_name pn4) hisR ?_
  intro p e s m args below meth c s₁ Bd hml0 hP hK
  obtain ⟨rfl, hZ, hh⟩ := hP
  have hx := Bd.exec
  have hby := Bd.bytes
  have hml : c.maxLocals = 4 := hml0
  have hown : s.vm.findClass "java/lang/StringLatin1" = some m.cls := findClass_of_methodNamed Bd.named
  have hnm := (name_of_methodNamed Bd.named Bd.method).1
  have X0 : Stand p l e ({ frames := 1, cells := 0, slots := 0, locals := 17 } : Room) s m #[xr b, xi ch, xi (0 : Int32), xi (Int32.ofNat 36)] below meth c s₁ [] 0 0 := Stand.of_body Bd
  have e0 : s₁.heap = h0 := by rw [← hh, Bd.state]; rfl
  have N0 := Fr.nil n0
  have pre0 : ∀ t, Steps p.tables e below (s₁.setTop (mkF m 0 #[vr b, vi ch, vi (0 : Int32), vi (Int32.ofNat 36)] [])) t → Steps p.tables e below (s₁.setTop (entryFrame m #[xr b, xi ch, xi (0 : Int32), xi (Int32.ofNat 36)] 4)) t := fun t st => castTop (ef_own_li0 m ki0 vf0 b kd ch) st
  obtain ⟨_, _, ⟨T1, L1, k1, n1⟩, -, X1, ⟨Lc1, hQ1, l1, y1, z1⟩, st1⟩ := Jvm.LawKit.callS X0 hx (y := Y21) hown (mvT hZ (ww hw 98 rfl)) (mvT hZ (ww hw 99 rfl)) (mvT hZ (ww hw 74 rfl)) (mvT hZ (ww hw 100 rfl)) (by decide) (backOf (W := 0) (own_c3_canEncode l Z a0 hw hj ki0 vf0 G ch as8 as10 h0 n0 O0 []) hZ (ww hw 100 rfl) (ww hw 74 rfl) (by decide) (by decide)) (g := (mkF m 1 #[vr b, vi ch, vi (0 : Int32), vi (Int32.ofNat 36)] [xi ch])) rfl (by rw [hml]; rfl) (argsL := [xi ch]) (rest := []) (lenOf pd14 rfl) rfl (by show 2 * 0 + _ ≤ _; exact Nat.le_of_eq rfl) (hb hby d21_1) (fun _ _ => ⟨rfl, e0, (by decide : 0 + 0 ≤ _), (by decide : 0 + 0 ≤ _)⟩)
  dsimp only [Pt.U, Pt.locs, Pt.cells, Pt.slots] at X1 l1 y1 z1 st1 hQ1
  subst l1 y1 z1
  obtain ⟨rfl, Nq1, e1⟩ := hQ1
  have N1 := Fr.app N0 Nq1
  obtain ⟨fs, hr, hrun, hended, hW, hsame⟩ := X1.leave (v := some (xi (-1 : Int32))) (fun h => by rw [Bd.returns] at h; cases h)
  refine ⟨_, _, pre0 _ ?_, hrun, hended, _, _, rfl, ?_, ⟨_, rfl⟩, hW, hsame.mono (by decide) (by decide)⟩
  · show own_S p e below s₁ (mkF m 0 #[vr b, vi ch, vi (0 : Int32), vi (Int32.ofNat 36)] []) _
    refine XS.iloadN X0.here hx rfl (hb hby d21_0) rfl ?_
    show own_S p e below s₁ (mkF m 1 #[vr b, vi ch, vi (0 : Int32), vi (Int32.ofNat 36)] [xi ch]) _
    refine st1 _ ?_
    show own_S p e below T1 (mkF m 4 #[vr b, vi ch, vi (0 : Int32), vi (Int32.ofNat 36)] [xi (0 : Int32)]) _
    refine XS.ifNo X1.here hx rfl (hb hby d21_4) rfl (by decide) ?_
    refine XS.iconst X1.here hx rfl (hb hby d21_7) ?_
    show own_S p e below T1 (mkF m 8 #[vr b, vi ch, vi (0 : Int32), vi (Int32.ofNat 36)] [xi (-1 : Int32)]) _
    exact retI X1 hx Bd.returns (hb hby d21_8) hr
  · exact ⟨rfl, N1, e1⟩
theorem d20_0 : decode jdk_42_method_80_code 0 = .ok (.aload_n 0, 1) := by decide +kernel
theorem d20_1 : decode jdk_42_method_80_code 1 = .ok (.invokevirtual 492, 3) := by decide +kernel
theorem d20_4 : decode jdk_42_method_80_code 4 = .ok (.ifCond .eq 19, 3) := by decide +kernel
theorem d20_7 : decode jdk_42_method_80_code 7 = .ok (.aload_n 0, 1) := by decide +kernel
theorem d20_8 : decode jdk_42_method_80_code 8 = .ok (.getfield 9, 3) := by decide +kernel
theorem d20_11 : decode jdk_42_method_80_code 11 = .ok (.iload_n 1, 1) := by decide +kernel
theorem d20_12 : decode jdk_42_method_80_code 12 = .ok (.iload_n 2, 1) := by decide +kernel
theorem d20_13 : decode jdk_42_method_80_code 13 = .ok (.aload_n 0, 1) := by decide +kernel
theorem d20_14 : decode jdk_42_method_80_code 14 = .ok (.invokevirtual 505, 3) := by decide +kernel
theorem pd17 : parseMethodDescriptor "()I" = some ⟨[], some .int⟩ := by decide +kernel
theorem d20_17 : decode jdk_42_method_80_code 17 = .ok (.invokestatic 637, 3) := by decide +kernel
theorem d20_20 : decode jdk_42_method_80_code 20 = .ok (.goto 16, 3) := by decide +kernel
theorem d20_36 : decode jdk_42_method_80_code 36 = .ok (.ireturn, 1) := by decide +kernel
abbrev Y26 : MethodName := (⟨"java/lang/String", "indexOf", "(II)I"⟩ : MethodName)
theorem ef_own_ix2 (m : MethodId)  (ki0 : Int32) (vf0 : Value) (sa : Addr) (b : Addr) (kd : ClassId) (ch : Int32) (rr : Int32) : entryFrame m #[xr sa, xi ch, xi (0 : Int32)] 3 = (mkF m 0 #[vr sa, vi ch, vi (0 : Int32)] []) := by first | (simp [entryFrame, mkF, argsToLocals, Value.category]; done) | rfl
set_option maxRecDepth 65536 in
set_option maxHeartbeats 40000000 in
theorem own_ix2 (l : Launch) (Z : State) (a0 : Array Value) (hw : ∀ d ∈ tables_1, d.before a0 Z = true) (hj : ∀ d ∈ jdkStatics_1, d.before a0 Z = true)  (ki0 : Int32) (vf0 : Value) (G : own_St Z hj ki0 vf0) (sa : Addr) (b : Addr) (kd : ClassId) (ch : Int32) (rr : Int32) (h0 : Heap) (n0 : Nat) (O0 : Old Z n0 h0) (hM : 36 < 2147483648) (gS : own_SS Z h0 sa b kd 36 (0 : Int32) own_al) (hI : own_Met l Z Y25 jdk_43_method_22_code 4 (some .int) ({ frames := 1, cells := 0, slots := 0, locals := 17 } : Room) #[xr b, xi ch, xi (0 : Int32), xi (Int32.ofNat 36)] h0 (own_QR (some (xi rr)) h0 n0)) : own_Met l Z Y26 jdk_42_method_80_code 3 (some .int) ({ frames := 2, cells := 0, slots := 0, locals := 32 } : Room) #[xr sa, xi ch, xi (0 : Int32)] h0 (own_QR (some (xi rr)) h0 n0) := by
  intro ws
  refine MetFree.of_bodySF (plainFor_of_name pn1) hisR ?_
  intro p e s m args below meth c s₁ Bd hml0 hP hK
  obtain ⟨rfl, hZ, hh⟩ := hP
  have hx := Bd.exec
  have hby := Bd.bytes
  have hml : c.maxLocals = 3 := hml0
  have hown : s.vm.findClass "java/lang/String" = some m.cls := findClass_of_methodNamed Bd.named
  have hnm := (name_of_methodNamed Bd.named Bd.method).1
  have X0 : Stand p l e ({ frames := 2, cells := 0, slots := 0, locals := 32 } : Room) s m #[xr sa, xi ch, xi (0 : Int32)] below meth c s₁ [] 0 0 := Stand.of_body Bd
  have e0 : s₁.heap = h0 := by rw [← hh, Bd.state]; rfl
  have N0 := Fr.nil n0
  have pre0 : ∀ t, Steps p.tables e below (s₁.setTop (mkF m 0 #[vr sa, vi ch, vi (0 : Int32)] [])) t → Steps p.tables e below (s₁.setTop (entryFrame m #[xr sa, xi ch, xi (0 : Int32)] 3)) t := fun t st => castTop (ef_own_ix2 m ki0 vf0 sa b kd ch rr) st
  obtain ⟨EA, FC, FV, VB⟩ := id gS
  obtain ⟨cq1, kq1, qa1, qb1, qc1⟩ := isOf hZ e0 EA
  obtain ⟨_, _, ⟨T1, L1, k1, n1⟩, -, X1, ⟨Lc1, hQ1, l1, y1, z1⟩, st1⟩ := X0.virtualBack hx (y := Y12) (z := Y12) hown (mvT hZ (ww hw 67 rfl)) (mvT hZ (ww hw 68 rfl)) (notFace_of_selects (args := #[]) (mvT hZ (ww hw 70 rfl))) (mvT hZ (ww hw 70 rfl)) (mvT hZ (ww hw 69 rfl)) (by decide) (backOf (W := 0) (own_latin0 l Z a0 hw hj ki0 vf0 G sa b kd 36 own_al h0 n0 O0 hM ⟨EA, FC, FV, VB⟩ []) hZ (ww hw 71 rfl) (ww hw 15 rfl) (by decide) (by decide)) qa1 qc1 (g := (mkF m 1 #[vr sa, vi ch, vi (0 : Int32)] [xr sa])) rfl (by rw [hml]; rfl) (Steps.refl _) (argsL := []) (rest := []) (lenOf pd13 rfl) rfl (by show 2 * 0 + _ ≤ _; exact Nat.le_of_eq rfl) (hb hby d20_1) (fun _ _ => ⟨rfl, e0, (by decide : 0 + 0 ≤ _), (by decide : 0 + 0 ≤ _)⟩)
  dsimp only [Pt.U, Pt.locs, Pt.cells, Pt.slots] at X1 l1 y1 z1 st1 hQ1
  subst l1 y1 z1
  obtain ⟨rfl, Nq1, e1⟩ := hQ1
  have N1 := Fr.app N0 Nq1
  obtain ⟨T2, X2, e2, st2⟩ := getF X1 hx hZ hown (host := "") (Or.inl (ww hw 40 rfl)) Via.refl e1 FV (g := (mkF m 8 #[vr sa, vi ch, vi (0 : Int32)] [xr sa])) rfl rfl (hb hby d20_8)
  obtain ⟨cq3, kq3, qa3, qb3, qc3⟩ := isOf hZ e2 EA
  obtain ⟨_, _, ⟨T3, L3, k3, n3⟩, -, X3, ⟨Lc3, hQ3, l3, y3, z3⟩, st3⟩ := X2.virtualBack hx (y := Y13) (z := Y13) hown (mvT hZ (ww hw 94 rfl)) (mvT hZ (ww hw 50 rfl)) (notFace_of_selects (args := #[]) (mvT hZ (ww hw 52 rfl))) (mvT hZ (ww hw 52 rfl)) (mvT hZ (ww hw 51 rfl)) (by decide) (backOf (W := 3) (own_length0 l Z a0 hw hj ki0 vf0 G sa b kd 36 own_al h0 n0 O0 hM ⟨EA, FC, FV, VB⟩ []) hZ (ww hw 53 rfl) (ww hw 15 rfl) (by decide) (by decide)) qa3 qc3 (g := (mkF m 14 #[vr sa, vi ch, vi (0 : Int32)] [xr sa, xi (0 : Int32), xi ch, xr b])) rfl (by rw [hml]; rfl) (Steps.refl _) (argsL := []) (rest := [xi (0 : Int32), xi ch, xr b]) (lenOf pd17 rfl) rfl (by show 2 * 0 + _ ≤ _; exact Nat.le_of_eq rfl) (hb hby d20_14) (fun _ _ => ⟨rfl, e2, (by decide : 0 + 0 ≤ _), (by decide : 0 + 0 ≤ _)⟩)
  dsimp only [Pt.U, Pt.locs, Pt.cells, Pt.slots] at X3 l3 y3 z3 st3 hQ3
  subst l3 y3 z3
  obtain ⟨rfl, Nq3, e3⟩ := hQ3
  have N3 := Fr.app N1 Nq3
  obtain ⟨_, _, ⟨T4, L4, k4, n4⟩, -, X4, ⟨Lc4, hQ4, l4, y4, z4⟩, st4⟩ := Jvm.LawKit.callS X3 hx (y := Y25) hown (mvT hZ (ww hw 95 rfl)) (mvT hZ (ww hw 96 rfl)) (mvT hZ (ww hw 74 rfl)) (mvT hZ (ww hw 97 rfl)) (by decide) (backOf (W := 0) (hI []) hZ (ww hw 97 rfl) (ww hw 74 rfl) (by decide) (by decide)) (g := (mkF m 17 #[vr sa, vi ch, vi (0 : Int32)] [xi (Int32.ofNat 36), xi (0 : Int32), xi ch, xr b])) rfl (by rw [hml]; rfl) (argsL := [xr b, xi ch, xi (0 : Int32), xi (Int32.ofNat 36)]) (rest := []) (lenOf pd16 rfl) rfl (by show 2 * 0 + _ ≤ _; exact Nat.le_of_eq rfl) (hb hby d20_17) (fun _ _ => ⟨rfl, e3, (by decide : 0 + 0 ≤ _), (by decide : 0 + 0 ≤ _)⟩)
  dsimp only [Pt.U, Pt.locs, Pt.cells, Pt.slots] at X4 l4 y4 z4 st4 hQ4
  subst l4 y4 z4
  obtain ⟨rfl, Nq4, e4⟩ := hQ4
  have N4 := Fr.app N3 Nq4
  obtain ⟨fs, hr, hrun, hended, hW, hsame⟩ := X4.leave (v := some (xi rr)) (fun h => by rw [Bd.returns] at h; cases h)
  refine ⟨_, _, pre0 _ ?_, hrun, hended, _, _, rfl, ?_, ⟨_, rfl⟩, hW, hsame.mono (by decide) (by decide)⟩
  · show own_S p e below s₁ (mkF m 0 #[vr sa, vi ch, vi (0 : Int32)] []) _
    refine XS.aloadN X0.here hx rfl (hb hby d20_0) rfl rfl ?_
    show own_S p e below s₁ (mkF m 1 #[vr sa, vi ch, vi (0 : Int32)] [xr sa]) _
    refine st1.trans ?_
    show own_S p e below T1 (mkF m 4 #[vr sa, vi ch, vi (0 : Int32)] [xi (1 : Int32)]) _
    refine XS.ifNo X1.here hx rfl (hb hby d20_4) rfl (by decide) ?_
    refine XS.aloadN X1.here hx rfl (hb hby d20_7) rfl rfl ?_
    show own_S p e below T1 (mkF m 8 #[vr sa, vi ch, vi (0 : Int32)] [xr sa]) _
    refine st2 _ ?_
    refine XS.iloadN X2.here hx rfl (hb hby d20_11) rfl ?_
    refine XS.iloadN X2.here hx rfl (hb hby d20_12) rfl ?_
    refine XS.aloadN X2.here hx rfl (hb hby d20_13) rfl rfl ?_
    show own_S p e below T2 (mkF m 14 #[vr sa, vi ch, vi (0 : Int32)] [xr sa, xi (0 : Int32), xi ch, xr b]) _
    refine st3.trans ?_
    show own_S p e below T3 (mkF m 17 #[vr sa, vi ch, vi (0 : Int32)] [xi (Int32.ofNat 36), xi (0 : Int32), xi ch, xr b]) _
    refine st4 _ ?_
    refine XS.goto X4.here hx rfl (pc0 := 20) (pc' := 36) rfl (hb hby d20_20) (by decide) (by decide) ?_
    show own_S p e below T4 (mkF m 36 #[vr sa, vi ch, vi (0 : Int32)] [xi rr]) _
    exact retI X4 hx Bd.returns (hb hby d20_36) hr
  · exact ⟨rfl, N4, e4⟩
theorem d19_0 : decode jdk_42_method_79_code 0 = .ok (.aload_n 0, 1) := by decide +kernel
theorem d19_1 : decode jdk_42_method_79_code 1 = .ok (.iload_n 1, 1) := by decide +kernel
theorem d19_2 : decode jdk_42_method_79_code 2 = .ok (.iconst 0, 1) := by decide +kernel
theorem d19_3 : decode jdk_42_method_79_code 3 = .ok (.invokevirtual 633, 3) := by decide +kernel
theorem d19_6 : decode jdk_42_method_79_code 6 = .ok (.ireturn, 1) := by decide +kernel
abbrev Y27 : MethodName := (⟨"java/lang/String", "indexOf", "(I)I"⟩ : MethodName)
theorem ef_own_ix1 (m : MethodId)  (ki0 : Int32) (vf0 : Value) (sa : Addr) (b : Addr) (kd : ClassId) (ch : Int32) (rr : Int32) : entryFrame m #[xr sa, xi ch] 2 = (mkF m 0 #[vr sa, vi ch] []) := by first | (simp [entryFrame, mkF, argsToLocals, Value.category]; done) | rfl
set_option maxRecDepth 65536 in
set_option maxHeartbeats 40000000 in
theorem own_ix1 (l : Launch) (Z : State) (a0 : Array Value) (hw : ∀ d ∈ tables_1, d.before a0 Z = true) (hj : ∀ d ∈ jdkStatics_1, d.before a0 Z = true)  (ki0 : Int32) (vf0 : Value) (G : own_St Z hj ki0 vf0) (sa : Addr) (b : Addr) (kd : ClassId) (ch : Int32) (rr : Int32) (h0 : Heap) (n0 : Nat) (O0 : Old Z n0 h0) (hM : 36 < 2147483648) (gS : own_SS Z h0 sa b kd 36 (0 : Int32) own_al) (hI : own_Met l Z Y26 jdk_42_method_80_code 3 (some .int) ({ frames := 2, cells := 0, slots := 0, locals := 32 } : Room) #[xr sa, xi ch, xi (0 : Int32)] h0 (own_QR (some (xi rr)) h0 n0)) : own_Met l Z Y27 jdk_42_method_79_code 2 (some .int) ({ frames := 3, cells := 0, slots := 0, locals := 46 } : Room) #[xr sa, xi ch] h0 (own_QR (some (xi rr)) h0 n0) := by
  intro ws
  refine MetFree.of_bodySF (plainFor_of_name pn1) hisR ?_
  intro p e s m args below meth c s₁ Bd hml0 hP hK
  obtain ⟨rfl, hZ, hh⟩ := hP
  have hx := Bd.exec
  have hby := Bd.bytes
  have hml : c.maxLocals = 2 := hml0
  have hown : s.vm.findClass "java/lang/String" = some m.cls := findClass_of_methodNamed Bd.named
  have hnm := (name_of_methodNamed Bd.named Bd.method).1
  have X0 : Stand p l e ({ frames := 3, cells := 0, slots := 0, locals := 46 } : Room) s m #[xr sa, xi ch] below meth c s₁ [] 0 0 := Stand.of_body Bd
  have e0 : s₁.heap = h0 := by rw [← hh, Bd.state]; rfl
  have N0 := Fr.nil n0
  have pre0 : ∀ t, Steps p.tables e below (s₁.setTop (mkF m 0 #[vr sa, vi ch] [])) t → Steps p.tables e below (s₁.setTop (entryFrame m #[xr sa, xi ch] 2)) t := fun t st => castTop (ef_own_ix1 m ki0 vf0 sa b kd ch rr) st
  obtain ⟨EA, FC, FV, VB⟩ := id gS
  obtain ⟨cq1, kq1, qa1, qb1, qc1⟩ := isOf hZ e0 EA
  obtain ⟨_, _, ⟨T1, L1, k1, n1⟩, -, X1, ⟨Lc1, hQ1, l1, y1, z1⟩, st1⟩ := X0.virtualBack hx (y := Y26) (z := Y26) hown (mvT hZ (ww hw 89 rfl)) (mvT hZ (ww hw 90 rfl)) (notFace_of_selects (args := #[]) (mvT hZ (ww hw 92 rfl))) (mvT hZ (ww hw 92 rfl)) (mvT hZ (ww hw 91 rfl)) (by decide) (backOf (W := 0) (hI []) hZ (ww hw 93 rfl) (ww hw 15 rfl) (by decide) (by decide)) qa1 qc1 (g := (mkF m 3 #[vr sa, vi ch] [xi (0 : Int32), xi ch, xr sa])) rfl (by rw [hml]; rfl) (Steps.refl _) (argsL := [xi ch, xi (0 : Int32)]) (rest := []) (lenOf pd15 rfl) rfl (by show 2 * 0 + _ ≤ _; exact Nat.le_of_eq rfl) (hb hby d19_3) (fun _ _ => ⟨rfl, e0, (by decide : 0 + 0 ≤ _), (by decide : 0 + 0 ≤ _)⟩)
  dsimp only [Pt.U, Pt.locs, Pt.cells, Pt.slots] at X1 l1 y1 z1 st1 hQ1
  subst l1 y1 z1
  obtain ⟨rfl, Nq1, e1⟩ := hQ1
  have N1 := Fr.app N0 Nq1
  obtain ⟨fs, hr, hrun, hended, hW, hsame⟩ := X1.leave (v := some (xi rr)) (fun h => by rw [Bd.returns] at h; cases h)
  refine ⟨_, _, pre0 _ ?_, hrun, hended, _, _, rfl, ?_, ⟨_, rfl⟩, hW, hsame.mono (by decide) (by decide)⟩
  · show own_S p e below s₁ (mkF m 0 #[vr sa, vi ch] []) _
    refine XS.aloadN X0.here hx rfl (hb hby d19_0) rfl rfl ?_
    refine XS.iloadN X0.here hx rfl (hb hby d19_1) rfl ?_
    refine XS.iconst X0.here hx rfl (hb hby d19_2) ?_
    show own_S p e below s₁ (mkF m 3 #[vr sa, vi ch] [xi (0 : Int32), xi ch, xr sa]) _
    refine st1.trans ?_
    show own_S p e below T1 (mkF m 6 #[vr sa, vi ch] [xi rr]) _
    exact retI X1 hx Bd.returns (hb hby d19_6) hr
  · exact ⟨rfl, N1, e1⟩
theorem own_indexOf (l : Launch) (Z : State) (a0 : Array Value) (hw : ∀ d ∈ tables_1, d.before a0 Z = true) (hj : ∀ d ∈ jdkStatics_1, d.before a0 Z = true)  (ki0 : Int32) (vf0 : Value) (G : own_St Z hj ki0 vf0) (sa b : Addr) (kd : ClassId) (ch : Int32) (hc0 : 0 ≤ ch.toInt) (hc1 : ch.toInt < 65536) (h0 : Heap) (n0 : Nat) (O0 : Old Z n0 h0) (gS : own_SS Z h0 sa b kd 36 (0 : Int32) own_al) : ∃ rr, own_ixr ch rr ∧ own_Met l Z Y27 jdk_42_method_79_code 2 (some .int) ({ frames := 3, cells := 0, slots := 0, locals := 46 } : Room) #[xr sa, xi ch] h0 (own_QR (some (xi rr)) h0 n0) := by
  have VB := gS.2.2.2
  have t0 : ((0 : Int32)).toInt = 0 := by decide
  have t255 : ((255 : Int32)).toInt = 255 := by decide
  have q0 : ifCond.holds .lt ch = false := by rw [if0]; exact (flt (by rw [Int32.lt_iff_toInt_lt]; omega)).1
  by_cases q : (255 : Int32) < ch
  · refine ⟨(-1 : Int32), ⟨fun h => absurd h (own_big (tlt q).2.2.1), fun _ => by decide⟩, ?_⟩
    exact own_ix1 l Z a0 hw hj ki0 vf0 G sa b kd ch (-1 : Int32) h0 n0 O0 (by decide) gS (own_ix2 l Z a0 hw hj ki0 vf0 G sa b kd ch (-1 : Int32) h0 n0 O0 (by decide) gS (own_li0 l Z a0 hw hj ki0 vf0 G b kd ch q0 (tlt q).2.2.1 h0 n0 O0 VB))
  · have hn : ch = Int32.ofNat ch.toInt.toNat := Int32.toInt_inj.mp (by
      rw [Int32.lt_iff_toInt_lt] at q
      rw [own_toInt (by omega)]; omega)
    have hlt : ch.toInt.toNat < 256 := by rw [Int32.lt_iff_toInt_lt] at q; omega
    have hok := own_alok _ hlt
    rw [← hn] at hok
    rcases own_first (ch.toInt8.toInt32) 36 with h | ⟨mm, h1, h2, h3⟩
    · refine ⟨(-1 : Int32), ⟨fun o => ?_, fun _ => by decide⟩, ?_⟩
      · obtain ⟨mm, a, e⟩ := hok.mp o; exact absurd e (h mm a)
      · exact own_ix1 l Z a0 hw hj ki0 vf0 G sa b kd ch (-1 : Int32) h0 n0 O0 (by decide) gS (own_ix2 l Z a0 hw hj ki0 vf0 G sa b kd ch (-1 : Int32) h0 n0 O0 (by decide) gS (own_li1 l Z a0 hw hj ki0 vf0 G b kd ch (-1 : Int32) q0 (flt q).2.2.1 h0 n0 O0 VB (own_io_none l Z a0 hw hj ki0 vf0 G b kd ch h0 n0 O0 VB (fun j hj => (feq (h j hj)).2))))
    · refine ⟨Int32.ofNat mm, ⟨fun _ => own_ge0 (by omega), fun o => absurd (hok.mpr ⟨mm, h1, h2⟩) o⟩, ?_⟩
      exact own_ix1 l Z a0 hw hj ki0 vf0 G sa b kd ch (Int32.ofNat mm) h0 n0 O0 (by decide) gS (own_ix2 l Z a0 hw hj ki0 vf0 G sa b kd ch (Int32.ofNat mm) h0 n0 O0 (by decide) gS (own_li1 l Z a0 hw hj ki0 vf0 G b kd ch (Int32.ofNat mm) q0 (flt q).2.2.1 h0 n0 O0 VB (own_io_some l Z a0 hw hj ki0 vf0 G b kd ch mm h0 n0 O0 VB (fun j hj => (feq (h3 j hj)).2) h1 (teq h2).2)))
def own_EL : List (String × Nat) := [("com/example/scopelock/scopelock/Key", 69), ("com/example/scopelock/scopelock/KeyWellFormedPinLaw", 30)]
abbrev own_MetW (l : Launch) (Z : State) (y : MethodName) (bytes : ByteArray) (maxL : Nat) (rt : Option FieldType) (rm : Room) (as' : Array Value) (h0 : Heap) (Qy : Option Value → Heap → List Loc → Prop) : Prop :=
  ∀ ws : List Jvm.Cond, MetFree l y (head1 (Jvm.Cond.code y bytes maxL rt :: ws) rm) (fun a U => a = as' ∧ Z.Warmed39 U.vm ∧ U.heap = h0 ∧ CHv Z own_EL U.vm h0) (fun _ _ _ _ _ => True) (fun _ U o U' => ∃ v L, o = .returned v ∧ Qy v U'.heap L ∧ CHr Z own_EL U.vm U.heap U'.vm U'.heap ∧ ReturnedEndW U o U' L rm.cells rm.slots)
theorem own_t1 : (∀ c ∈ "abcdefghijklmnopqrstuvwxyz0123456789".toList, c.toNat < 256) ∧ "abcdefghijklmnopqrstuvwxyz0123456789".toList.map (fun c => Value.int (Jvm.Lit.byteI c.toNat.toUInt16)) = own_vs own_al 36 := by decide +kernel
theorem own_t2 : 4 * "abcdefghijklmnopqrstuvwxyz0123456789".toList.length ≤ 144 := by decide +kernel
theorem own_EW {a0 : Array Value} {Z : State} (hw : ∀ d ∈ tables_1, d.before a0 Z = true) : EW Z a0 own_EL := EW.cons (ww hw 59 rfl) own_t1.1 (EW.cons (ww hw 153 rfl) (by decide +kernel) EW.nil)
theorem own_strat {a0 : Array Value} {Z : State} (hw : ∀ d ∈ tables_1, d.before a0 Z = true) (hj : ∀ d ∈ jdkStatics_1, d.before a0 Z = true) : ∀ a ∈ Bundle.stringAtoms, a.before a0 Z = true := by
  intro a ha
  simp only [Bundle.stringAtoms, List.mem_cons, List.not_mem_nil, or_false] at ha
  rcases ha with rfl | rfl | rfl | rfl | rfl | rfl | rfl
  · exact (ww hw 15 rfl)
  · exact (ww hw 14 rfl)
  · exact (ww hw 31 rfl)
  · exact (ww hw 41 rfl)
  · exact (ww hw 39 rfl)
  · exact (ww hw 60 rfl)
  · exact (ww hw 61 rfl)
theorem d11_13 : decode prog_12_method_2_code 13 = .ok (.iload_n 1, 1) := by decide +kernel
theorem d11_14 : decode prog_12_method_2_code 14 = .ok (.bipush 44, 2) := by decide +kernel
theorem d11_16 : decode prog_12_method_2_code 16 = .ok (.if_icmp .ge 24, 3) := by decide +kernel
theorem d11_19 : decode prog_12_method_2_code 19 = .ok (.ldc 69, 2) := by decide +kernel
theorem d11_21 : decode prog_12_method_2_code 21 = .ok (.aload_n 0, 1) := by decide +kernel
theorem d11_22 : decode prog_12_method_2_code 22 = .ok (.iload_n 1, 1) := by decide +kernel
theorem d11_23 : decode prog_12_method_2_code 23 = .ok (.invokevirtual 71, 3) := by decide +kernel
theorem pd18 : parseMethodDescriptor "(I)C" = some ⟨[.int], some .char⟩ := by decide +kernel
theorem d11_26 : decode prog_12_method_2_code 26 = .ok (.invokevirtual 75, 3) := by decide +kernel
theorem d11_29 : decode prog_12_method_2_code 29 = .ok (.ifCond .ge 5, 3) := by decide +kernel
theorem d11_34 : decode prog_12_method_2_code 34 = .ok (.iinc 1 1, 3) := by decide +kernel
theorem d11_37 : decode prog_12_method_2_code 37 = .ok (.goto (-24), 3) := by decide +kernel
set_option maxRecDepth 65536 in
set_option maxHeartbeats 40000000 in
theorem own_wf_turn0 {p : Program} {l : Launch} {e : Env} {s : State} {m : MethodId} {args : Array Value} {below : List Frame} {meth : Method} {c : Code} {T0 : State} {locs : List Loc} {Z : State} {a0 : Array Value} (hw : ∀ d ∈ tables_1, d.before a0 Z = true) (hj : ∀ d ∈ jdkStatics_1, d.before a0 Z = true)  (ki0 : Int32) (vf0 : Value) (G : own_St Z hj ki0 vf0) (sa : Addr) (b : Addr) (kd : ClassId) (f : Nat → Int32) (al : Addr) (bl : Addr) (kl : ClassId) (i : Nat) (hx : p.tables.exec = Jvm.exec) (hZ : Z.Warmed39 s.vm) (hby : c.code = prog_12_method_2_code) (hml : c.maxLocals = 2) (hown : s.vm.findClass "com/example/scopelock/scopelock/Key" = some m.cls) {h0 : Heap} {n0 : Nat} (X0 : Stand p l e ({ frames := 6, cells := 2, slots := 148, locals := 100 } : Room) s m args below meth c T0 locs 2 148) (e0 : T0.heap = h0) (N0 : Fr n0 locs) (O0 : Old Z n0 h0) (gS : own_SS Z h0 sa b kd 44 (0 : Int32) (own_lat f)) (hch : ∀ j, j < 44 → 0 ≤ (f j).toInt ∧ (f j).toInt < 256) (gA : own_SS Z h0 al bl kl 36 (0 : Int32) own_al) (hL : Lit s "com/example/scopelock/scopelock/Key" 69 al) (hlt : i < 44) (hok : own_ok (f i)) :
    ∃ (T1 : State) (L1 : List Loc) (h1 : Heap), Stand p l e ({ frames := 6, cells := 2, slots := 148, locals := 100 } : Room) s m args below meth c T1 L1 2 148 ∧ T1.heap = h1 ∧ Fr n0 L1 ∧ Old Z n0 h1 ∧ (h1 = h0) ∧ ∀ t, Steps p.tables e below (T1.setTop (mkF m 13 #[vr sa, vi (Int32.ofNat (i + 1))] [])) t → Steps p.tables e below (T0.setTop (mkF m 13 #[vr sa, vi (Int32.ofNat i)] [])) t := by
  obtain ⟨EA, FC, FV, VB⟩ := id gS
  obtain ⟨EL_, FCL, FVL, VBL⟩ := id gA
  obtain ⟨cq1, kq1, qa1, qb1, qc1⟩ := isOf hZ e0 EA
  obtain ⟨_, _, ⟨T1, L1, k1, n1⟩, -, X1, ⟨Lc1, hQ1, l1, y1, z1⟩, st1⟩ := X0.virtualBack hx (y := Y20) (z := Y20) hown (mvT hZ (ww hw 62 rfl)) (mvT hZ (ww hw 63 rfl)) (notFace_of_selects (args := #[]) (mvT hZ (ww hw 65 rfl))) (mvT hZ (ww hw 65 rfl)) (mvT hZ (ww hw 64 rfl)) (by decide) (backOf (W := 1) (own_charAt0 l Z a0 hw hj ki0 vf0 G sa b kd i 44 f h0 n0 O0 (by decide) ⟨EA, FC, FV, VB⟩ hlt (hch i hlt) []) hZ (ww hw 66 rfl) (ww hw 15 rfl) (by decide) (by decide)) qa1 qc1 (g := (mkF m 23 #[vr sa, vi (Int32.ofNat i)] [xi (Int32.ofNat i), xr sa, xr al])) rfl (by rw [hml]; rfl) (Steps.refl _) (argsL := [xi (Int32.ofNat i)]) (rest := [xr al]) (lenOf pd18 rfl) rfl (by show 2 * 0 + _ ≤ _; exact Nat.le_of_eq rfl) (hb hby d11_23) (fun _ _ => ⟨rfl, e0, (by decide : 2 + 0 ≤ _), (by decide : 148 + 0 ≤ _)⟩)
  dsimp only [Pt.U, Pt.locs, Pt.cells, Pt.slots] at X1 l1 y1 z1 st1 hQ1
  subst l1 y1 z1
  obtain ⟨rfl, Nq1, e1⟩ := hQ1
  have N1 := Fr.app N0 Nq1
  obtain ⟨rr, hrr, hix⟩ := own_indexOf l Z a0 hw hj ki0 vf0 G al bl kl (f i) (hch i hlt).1 (by have := (hch i hlt).2; omega) h0 n0 O0 ⟨EL_, FCL, FVL, VBL⟩
  obtain ⟨cq2, kq2, qa2, qb2, qc2⟩ := isOf hZ e1 EL_
  obtain ⟨_, _, ⟨T2, L2, k2, n2⟩, -, X2, ⟨Lc2, hQ2, l2, y2, z2⟩, st2⟩ := X1.virtualBack hx (y := Y27) (z := Y27) hown (mvT hZ (ww hw 84 rfl)) (mvT hZ (ww hw 85 rfl)) (notFace_of_selects (args := #[]) (mvT hZ (ww hw 87 rfl))) (mvT hZ (ww hw 87 rfl)) (mvT hZ (ww hw 86 rfl)) (by decide) (backOf (W := 0) (hix []) hZ (ww hw 88 rfl) (ww hw 15 rfl) (by decide) (by decide)) qa2 qc2 (g := (mkF m 26 #[vr sa, vi (Int32.ofNat i)] [xi (f i), xr al])) rfl (by rw [hml]; rfl) (Steps.refl _) (argsL := [xi (f i)]) (rest := []) (lenOf pd0 rfl) rfl (by show 2 * 0 + _ ≤ _; exact Nat.le_of_eq rfl) (hb hby d11_26) (fun _ _ => ⟨rfl, e1, (by decide : 2 + 0 ≤ _), (by decide : 148 + 0 ≤ _)⟩)
  dsimp only [Pt.U, Pt.locs, Pt.cells, Pt.slots] at X2 l2 y2 z2 st2 hQ2
  subst l2 y2 z2
  obtain ⟨rfl, Nq2, e2⟩ := hQ2
  have N2 := Fr.app N1 Nq2
  refine ⟨_, _, _, X2, e2, N2, O0, rfl, fun t st => ?_⟩
  show own_S p e below T0 (mkF m 13 #[vr sa, vi (Int32.ofNat i)] []) _
  refine XS.iloadN X0.here hx rfl (hb hby d11_13) rfl ?_
  refine XS.bipush X0.here hx rfl (hb hby d11_14) ?_
  show own_S p e below T0 (mkF m 16 #[vr sa, vi (Int32.ofNat i)] [xi (44 : Int32), xi (Int32.ofNat i)]) _
  refine XS.icmpNo X0.here hx rfl (hb hby d11_16) rfl (tlt (own_in (N := 44) hlt (by decide)).2).2.1 ?_
  show own_S p e below T0 (mkF m 19 #[vr sa, vi (Int32.ofNat i)] []) _
  refine ldcAgain (s := s) (vm0 := s.vm) X0 hx hZ hown (ww hw 59 rfl) hL (g := (mkF m 19 #[vr sa, vi (Int32.ofNat i)] [])) rfl (hb hby d11_19) _ ?_
  refine XS.aloadN X0.here hx rfl (hb hby d11_21) rfl rfl ?_
  refine XS.iloadN X0.here hx rfl (hb hby d11_22) rfl ?_
  show own_S p e below T0 (mkF m 23 #[vr sa, vi (Int32.ofNat i)] [xi (Int32.ofNat i), xr sa, xr al]) _
  refine st1.trans ?_
  show own_S p e below T1 (mkF m 26 #[vr sa, vi (Int32.ofNat i)] [xi (f i), xr al]) _
  refine st2.trans ?_
  show own_S p e below T2 (mkF m 29 #[vr sa, vi (Int32.ofNat i)] [xi rr]) _
  refine XS.ifYes X2.here hx rfl (pc0 := 29) (pc' := 34) rfl (hb hby d11_29) rfl (hrr.1 hok) (by decide) (by decide) ?_
  show own_S p e below T2 (mkF m 34 #[vr sa, vi (Int32.ofNat i)] []) _
  refine XS.iinc X2.here hx rfl (hb hby d11_34) rfl (l' := #[vr sa, vi ((Int32.ofNat i) + (1 : Int32))]) rfl ?_
  refine castTop (show (mkF m 37 #[vr sa, vi ((Int32.ofNat i) + (1 : Int32))] []) = (mkF m 37 #[vr sa, vi (Int32.ofNat (i + 1))] []) from by rw [own_suc]) ?_
  refine XS.goto X2.here hx rfl (pc0 := 37) (pc' := 13) rfl (hb hby d11_37) (by decide) (by decide) ?_
  exact st
theorem own_wf_loop0 {p : Program} {l : Launch} {e : Env} {s : State} {m : MethodId} {args : Array Value} {below : List Frame} {meth : Method} {c : Code} {Z : State} {a0 : Array Value} (hw : ∀ d ∈ tables_1, d.before a0 Z = true) (hj : ∀ d ∈ jdkStatics_1, d.before a0 Z = true)  (ki0 : Int32) (vf0 : Value) (G : own_St Z hj ki0 vf0) (sa b : Addr) (kd : ClassId) (f : Nat → Int32) (al bl : Addr) (kl : ClassId) (hx : p.tables.exec = Jvm.exec) (hZ : Z.Warmed39 s.vm) (hby : c.code = prog_12_method_2_code) (hml : c.maxLocals = 2) (hown : s.vm.findClass "com/example/scopelock/scopelock/Key" = some m.cls) (n0 : Nat) (h0 : Heap) (O0 : Old Z n0 h0) (gS : own_SS Z h0 sa b kd 44 (0 : Int32) (own_lat f)) (hch : ∀ j, j < 44 → 0 ≤ (f j).toInt ∧ (f j).toInt < 256) (gA : own_SS Z h0 al bl kl 36 (0 : Int32) own_al) (hL : Lit s "com/example/scopelock/scopelock/Key" 69 al) (k : Nat) : ∀ (i : Nat) (T0 : State) (locs : List Loc), Stand p l e ({ frames := 6, cells := 2, slots := 148, locals := 100 } : Room) s m args below meth c T0 locs 2 148 → T0.heap = h0 → Fr n0 locs → i + k ≤ 44 → (∀ j, i ≤ j → j < i + k → own_ok (f j)) →
    ∃ (T1 : State) (L1 : List Loc), Stand p l e ({ frames := 6, cells := 2, slots := 148, locals := 100 } : Room) s m args below meth c T1 L1 2 148 ∧ T1.heap = h0 ∧ Fr n0 L1 ∧ ∀ t, Steps p.tables e below (T1.setTop (mkF m 13 #[vr sa, vi (Int32.ofNat (i + k))] [])) t → Steps p.tables e below (T0.setTop (mkF m 13 #[vr sa, vi (Int32.ofNat i)] [])) t := by
  induction k with
  | zero => intro i T0 locs X e0 N0 hk hall; exact ⟨T0, locs, X, e0, N0, fun t st => st⟩
  | succ k ih =>
    intro i T0 locs X e0 N0 hk hall
    obtain ⟨T1, L1, h1, X1, e1, N1, -, rfl, st1⟩ := own_wf_turn0 hw hj ki0 vf0 G sa b kd f al bl kl i hx hZ hby hml hown X e0 N0 O0 gS hch gA hL (by omega) (hall i (Nat.le_refl _) (by omega))
    obtain ⟨T2, L2, X2, e2, N2, st2⟩ := ih (i + 1) T1 L1 X1 e1 N1 (by omega) (fun j h1 h2 => hall j (by omega) (by omega))
    exact ⟨T2, L2, X2, e2, N2, fun t st => st1 t (st2 t (by rw [show i + 1 + k = i + (k + 1) from by omega]; exact st))⟩
theorem d11_0 : decode prog_12_method_2_code 0 = .ok (.aload_n 0, 1) := by decide +kernel
theorem d11_1 : decode prog_12_method_2_code 1 = .ok (.invokevirtual 63, 3) := by decide +kernel
theorem d11_4 : decode prog_12_method_2_code 4 = .ok (.bipush 44, 2) := by decide +kernel
theorem d11_6 : decode prog_12_method_2_code 6 = .ok (.if_icmp .eq 5, 3) := by decide +kernel
theorem d11_11 : decode prog_12_method_2_code 11 = .ok (.iconst 0, 1) := by decide +kernel
theorem d11_12 : decode prog_12_method_2_code 12 = .ok (.istore_n 1, 1) := by decide +kernel
theorem d11_40 : decode prog_12_method_2_code 40 = .ok (.iconst 1, 1) := by decide +kernel
theorem d11_41 : decode prog_12_method_2_code 41 = .ok (.ireturn, 1) := by decide +kernel
abbrev Y28 : MethodName := (⟨"com/example/scopelock/scopelock/Key", "wellFormed", "(Ljava/lang/String;)Z"⟩ : MethodName)
theorem pn7 : plainName "com/example/scopelock/scopelock/Key" = true := by first | (simp [plainName, overriddenIn]; done) | decide +kernel
theorem ef_own_wf0A (m : MethodId)  (ki0 : Int32) (vf0 : Value) (sa : Addr) (b : Addr) (kd : ClassId) (f : Nat → Int32) : entryFrame m #[xr sa] 2 = (mkF m 0 #[vr sa, vu] []) := by first | (simp [entryFrame, mkF, argsToLocals, Value.category]; done) | rfl
set_option maxRecDepth 65536 in
set_option maxHeartbeats 40000000 in
theorem own_wf0A (l : Launch) (Z : State) (a0 : Array Value) (hw : ∀ d ∈ tables_1, d.before a0 Z = true) (hj : ∀ d ∈ jdkStatics_1, d.before a0 Z = true)  (ki0 : Int32) (vf0 : Value) (G : own_St Z hj ki0 vf0) (sa : Addr) (b : Addr) (kd : ClassId) (f : Nat → Int32) (h0 : Heap) (n0 : Nat) (O0 : Old Z n0 h0) (gS : own_SS Z h0 sa b kd 44 (0 : Int32) (own_lat f)) (hch : ∀ j, j < 44 → 0 ≤ (f j).toInt ∧ (f j).toInt < 256) (hall : ∀ j, j < 44 → own_ok (f j)) : own_MetW l Z Y28 prog_12_method_2_code 2 (some .boolean) ({ frames := 6, cells := 2, slots := 148, locals := 100 } : Room) #[xr sa] h0 (own_QL (some (xi (1 : Int32))) n0) := by
  intro ws
  refine MetFree.of_bodySF (plainFor_of_name pn7) hisR ?_
  intro p e s m args below meth c s₁ Bd hml0 hP hK
  obtain ⟨rfl, hZ, hh, hCH⟩ := hP
  have hx := Bd.exec
  have hby := Bd.bytes
  have hml : c.maxLocals = 2 := hml0
  have hown : s.vm.findClass "com/example/scopelock/scopelock/Key" = some m.cls := findClass_of_methodNamed Bd.named
  have hnm := (name_of_methodNamed Bd.named Bd.method).1
  have X0 : Stand p l e ({ frames := 6, cells := 2, slots := 148, locals := 100 } : Room) s m #[xr sa] below meth c s₁ [] 0 0 := Stand.of_body Bd
  have e0 : s₁.heap = h0 := by rw [← hh, Bd.state]; rfl
  have N0 := Fr.nil n0
  have pre0 : ∀ t, Steps p.tables e below (s₁.setTop (mkF m 0 #[vr sa, vu] [])) t → Steps p.tables e below (s₁.setTop (entryFrame m #[xr sa] 2)) t := fun t st => castTop (ef_own_wf0A m ki0 vf0 sa b kd f) st
  obtain ⟨EA, FC, FV, VB⟩ := id gS
  obtain ⟨cq1, kq1, qa1, qb1, qc1⟩ := isOf hZ e0 EA
  obtain ⟨_, _, ⟨T1, L1, k1, n1⟩, -, X1, ⟨Lc1, hQ1, l1, y1, z1⟩, st1⟩ := X0.virtualBack hx (y := Y13) (z := Y13) hown (mvT hZ (ww hw 49 rfl)) (mvT hZ (ww hw 50 rfl)) (notFace_of_selects (args := #[]) (mvT hZ (ww hw 52 rfl))) (mvT hZ (ww hw 52 rfl)) (mvT hZ (ww hw 51 rfl)) (by decide) (backOf (W := 0) (own_length0 l Z a0 hw hj ki0 vf0 G sa b kd 44 (own_lat f) h0 n0 O0 (by decide) ⟨EA, FC, FV, VB⟩ []) hZ (ww hw 53 rfl) (ww hw 15 rfl) (by decide) (by decide)) qa1 qc1 (g := (mkF m 1 #[vr sa, vu] [xr sa])) rfl (by rw [hml]; rfl) (Steps.refl _) (argsL := []) (rest := []) (lenOf pd17 rfl) rfl (by show 2 * 0 + _ ≤ _; exact Nat.le_of_eq rfl) (hb hby d11_1) (fun _ _ => ⟨rfl, e0, (by decide : 0 + 0 ≤ _), (by decide : 0 + 0 ≤ _)⟩)
  dsimp only [Pt.U, Pt.locs, Pt.cells, Pt.slots] at X1 l1 y1 z1 st1 hQ1
  subst l1 y1 z1
  obtain ⟨rfl, Nq1, e1⟩ := hQ1
  have N1 := Fr.app N0 Nq1
  obtain ⟨al, TC, hC, kC, bl, kl, XC, eC, EC, hSC, hkC, hZC, hownC, ExA, FcA, FvA, VaA, -, -, hCr, hLit, -, stC⟩ := ldcCH (s := s) (vm0 := s.vm) X1 hx hZ hown (ww hw 59 rfl) (own_strat hw hj) e1 ((State.WarmedH.refl s).since h0.size) (Nat.le_refl _) (own_EW hw) (List.mem_of_getElem? (i := 0) rfl) hCH (vs := own_vs own_al 36) (z := Int32.ofNat 36) own_t1 (by decide) (by decide) (g := (mkF m 19 #[vr sa, vi (0 : Int32)] [])) rfl (hb hby d11_19) (n := 144) own_t2 (by decide) (by decide) (by decide)
  have hZ0 := hZ
  have hZ := hZC
  have hown := hownC
  have OC := O0.ext EC
  have V_b_C := VB.ext EC
  have X_sa_C := EA.ext EC
  have F_sa_value_C := FV.ext EC
  have F_sa_coder_C := FC.ext EC
  obtain ⟨cq2, kq2, qa2, qb2, qc2⟩ := isOf hZ eC X_sa_C
  obtain ⟨_, _, ⟨T2, L2, k2, n2⟩, -, X2, ⟨Lc2, hQ2, l2, y2, z2⟩, st2⟩ := XC.virtualBack hx (y := Y20) (z := Y20) hown (mvT hZ (ww hw 62 rfl)) (mvT hZ (ww hw 63 rfl)) (notFace_of_selects (args := #[]) (mvT hZ (ww hw 65 rfl))) (mvT hZ (ww hw 65 rfl)) (mvT hZ (ww hw 64 rfl)) (by decide) (backOf (W := 1) (own_charAt0 l Z a0 hw hj ki0 vf0 G sa b kd 0 44 f hC n0 OC (by decide) ⟨X_sa_C, F_sa_coder_C, F_sa_value_C, V_b_C⟩ (by decide) (hch 0 (by decide)) []) hZ (ww hw 66 rfl) (ww hw 15 rfl) (by decide) (by decide)) qa2 qc2 (g := (mkF m 23 #[vr sa, vi (0 : Int32)] [xi (0 : Int32), xr sa, xr al])) rfl (by rw [hml]; rfl) (Steps.refl _) (argsL := [xi (0 : Int32)]) (rest := [xr al]) (lenOf pd18 rfl) rfl (by show 2 * 0 + _ ≤ _; exact Nat.le_of_eq rfl) (hb hby d11_23) (fun _ _ => ⟨rfl, eC, (by decide : 2 + 0 ≤ _), (by decide : 148 + 0 ≤ _)⟩)
  dsimp only [Pt.U, Pt.locs, Pt.cells, Pt.slots] at X2 l2 y2 z2 st2 hQ2
  subst l2 y2 z2
  obtain ⟨rfl, Nq2, e2⟩ := hQ2
  have N2 := Fr.app N1 Nq2
  obtain ⟨rr, hrr, hix⟩ := own_indexOf l Z a0 hw hj ki0 vf0 G al bl kl (f 0) (hch 0 (by decide)).1 (by have := (hch 0 (by decide)).2; omega) hC n0 OC ⟨ExA, FcA, FvA, VaA⟩
  obtain ⟨cq3, kq3, qa3, qb3, qc3⟩ := isOf hZ e2 ExA
  obtain ⟨_, _, ⟨T3, L3, k3, n3⟩, -, X3, ⟨Lc3, hQ3, l3, y3, z3⟩, st3⟩ := X2.virtualBack hx (y := Y27) (z := Y27) hown (mvT hZ (ww hw 84 rfl)) (mvT hZ (ww hw 85 rfl)) (notFace_of_selects (args := #[]) (mvT hZ (ww hw 87 rfl))) (mvT hZ (ww hw 87 rfl)) (mvT hZ (ww hw 86 rfl)) (by decide) (backOf (W := 0) (hix []) hZ (ww hw 88 rfl) (ww hw 15 rfl) (by decide) (by decide)) qa3 qc3 (g := (mkF m 26 #[vr sa, vi (0 : Int32)] [xi (f 0), xr al])) rfl (by rw [hml]; rfl) (Steps.refl _) (argsL := [xi (f 0)]) (rest := []) (lenOf pd0 rfl) rfl (by show 2 * 0 + _ ≤ _; exact Nat.le_of_eq rfl) (hb hby d11_26) (fun _ _ => ⟨rfl, e2, (by decide : 2 + 0 ≤ _), (by decide : 148 + 0 ≤ _)⟩)
  dsimp only [Pt.U, Pt.locs, Pt.cells, Pt.slots] at X3 l3 y3 z3 st3 hQ3
  subst l3 y3 z3
  obtain ⟨rfl, Nq3, e3⟩ := hQ3
  have N3 := Fr.app N2 Nq3
  obtain ⟨TL, LL, XL, eL, NL, stL⟩ := own_wf_loop0 hw hj ki0 vf0 G sa b kd f al bl kl hx hZ hby hml hown n0 hC OC ⟨X_sa_C, F_sa_coder_C, F_sa_value_C, V_b_C⟩ hch ⟨ExA, FcA, FvA, VaA⟩ hLit (44 - 1) 1 T3 _ X3 e3 N3 (by omega) (fun j _ h => hall j (by omega))
  rw [show 1 + (44 - 1) = 44 from by omega] at stL
  obtain ⟨fs, hr, hrun, hended, hW, hsame⟩ := XL.leave (v := some (xi (1 : Int32))) (fun h => by rw [Bd.returns] at h; cases h)
  have hend := hSC.ended hW (show kC ≤ _ by show kC ≤ TL.heap.size; rw [eL]; exact hkC) hsame
  have hq := hCr.trans (CHv.at (s := s) (vm0 := TC.vm) XL hZ (own_EW hw) hCr.1)
  refine ⟨_, _, pre0 _ ?_, hrun, hended, _, _, rfl, ?_, ?_, ⟨_, rfl⟩, hend.1, hend.2.1, hend.2.2.mono (by decide) (by decide)⟩
  · show own_S p e below s₁ (mkF m 0 #[vr sa, vu] []) _
    refine XS.aloadN X0.here hx rfl (hb hby d11_0) rfl rfl ?_
    show own_S p e below s₁ (mkF m 1 #[vr sa, vu] [xr sa]) _
    refine st1.trans ?_
    refine XS.bipush X1.here hx rfl (hb hby d11_4) ?_
    show own_S p e below T1 (mkF m 6 #[vr sa, vu] [xi (44 : Int32), xi (Int32.ofNat 44)]) _
    refine XS.icmpYes X1.here hx rfl (pc0 := 6) (pc' := 11) rfl (hb hby d11_6) rfl (by decide) (by decide) (by decide) ?_
    refine XS.iconst X1.here hx rfl (hb hby d11_11) ?_
    refine XS.istoreN X1.here hx rfl (hb hby d11_12) rfl (l' := #[vr sa, vi (0 : Int32)]) rfl ?_
    refine XS.iloadN X1.here hx rfl (hb hby d11_13) rfl ?_
    show own_S p e below T1 (mkF m 14 #[vr sa, vi (0 : Int32)] [xi (0 : Int32)]) _
    refine XS.bipush X1.here hx rfl (hb hby d11_14) ?_
    show own_S p e below T1 (mkF m 16 #[vr sa, vi (0 : Int32)] [xi (44 : Int32), xi (0 : Int32)]) _
    refine XS.icmpNo X1.here hx rfl (hb hby d11_16) rfl (by decide) ?_
    show own_S p e below T1 (mkF m 19 #[vr sa, vi (0 : Int32)] []) _
    refine stC _ ?_
    refine XS.aloadN XC.here hx rfl (hb hby d11_21) rfl rfl ?_
    refine XS.iloadN XC.here hx rfl (hb hby d11_22) rfl ?_
    show own_S p e below TC (mkF m 23 #[vr sa, vi (0 : Int32)] [xi (0 : Int32), xr sa, xr al]) _
    refine st2.trans ?_
    show own_S p e below T2 (mkF m 26 #[vr sa, vi (0 : Int32)] [xi (f 0), xr al]) _
    refine st3.trans ?_
    show own_S p e below T3 (mkF m 29 #[vr sa, vi (0 : Int32)] [xi rr]) _
    refine XS.ifYes X3.here hx rfl (pc0 := 29) (pc' := 34) rfl (hb hby d11_29) rfl (hrr.1 (hall 0 (by omega))) (by decide) (by decide) ?_
    show own_S p e below T3 (mkF m 34 #[vr sa, vi (0 : Int32)] []) _
    refine XS.iinc X3.here hx rfl (hb hby d11_34) rfl (l' := #[vr sa, vi ((0 : Int32) + (1 : Int32))]) rfl ?_
    refine castTop (show (mkF m 37 #[vr sa, vi ((0 : Int32) + (1 : Int32))] []) = (mkF m 37 #[vr sa, vi (1 : Int32)] []) from by rw [show ((0 : Int32) + (1 : Int32)) = (1 : Int32) from by decide]) ?_
    refine XS.goto X3.here hx rfl (pc0 := 37) (pc' := 13) rfl (hb hby d11_37) (by decide) (by decide) ?_
    refine stL _ ?_
    refine XS.iloadN XL.here hx rfl (hb hby d11_13) rfl ?_
    refine XS.bipush XL.here hx rfl (hb hby d11_14) ?_
    show own_S p e below TL (mkF m 16 #[vr sa, vi (Int32.ofNat 44)] [xi (44 : Int32), xi (Int32.ofNat 44)]) _
    refine XS.icmpYes XL.here hx rfl (pc0 := 16) (pc' := 40) rfl (hb hby d11_16) rfl (by decide) (by decide) (by decide) ?_
    refine XS.iconst XL.here hx rfl (hb hby d11_40) ?_
    show own_S p e below TL (mkF m 41 #[vr sa, vi (Int32.ofNat 44)] [xi (1 : Int32)]) _
    exact retN XL hx (t := .boolean) Bd.returns (by simp) (hb hby d11_41) hr
  · exact ⟨rfl, NL⟩
  · show CHr Z own_EL s.vm s.heap TL.vm TL.heap
    rw [hh, eL]; exact hq
theorem d11_32 : decode prog_12_method_2_code 32 = .ok (.iconst 0, 1) := by decide +kernel
theorem d11_33 : decode prog_12_method_2_code 33 = .ok (.ireturn, 1) := by decide +kernel
theorem ef_own_wf0B (m : MethodId)  (ki0 : Int32) (vf0 : Value) (sa : Addr) (b : Addr) (kd : ClassId) (f : Nat → Int32) : entryFrame m #[xr sa] 2 = (mkF m 0 #[vr sa, vu] []) := by first | (simp [entryFrame, mkF, argsToLocals, Value.category]; done) | rfl
set_option maxRecDepth 65536 in
set_option maxHeartbeats 40000000 in
theorem own_wf0B (l : Launch) (Z : State) (a0 : Array Value) (hw : ∀ d ∈ tables_1, d.before a0 Z = true) (hj : ∀ d ∈ jdkStatics_1, d.before a0 Z = true)  (ki0 : Int32) (vf0 : Value) (G : own_St Z hj ki0 vf0) (sa : Addr) (b : Addr) (kd : ClassId) (f : Nat → Int32) (h0 : Heap) (n0 : Nat) (O0 : Old Z n0 h0) (gS : own_SS Z h0 sa b kd 44 (0 : Int32) (own_lat f)) (hch : ∀ j, j < 44 → 0 ≤ (f j).toInt ∧ (f j).toInt < 256) (hno : ¬ own_ok (f 0)) : own_MetW l Z Y28 prog_12_method_2_code 2 (some .boolean) ({ frames := 6, cells := 2, slots := 148, locals := 100 } : Room) #[xr sa] h0 (own_QL (some (xi (0 : Int32))) n0) := by
  intro ws
  refine MetFree.of_bodySF (plainFor_of_name pn7) hisR ?_
  intro p e s m args below meth c s₁ Bd hml0 hP hK
  obtain ⟨rfl, hZ, hh, hCH⟩ := hP
  have hx := Bd.exec
  have hby := Bd.bytes
  have hml : c.maxLocals = 2 := hml0
  have hown : s.vm.findClass "com/example/scopelock/scopelock/Key" = some m.cls := findClass_of_methodNamed Bd.named
  have hnm := (name_of_methodNamed Bd.named Bd.method).1
  have X0 : Stand p l e ({ frames := 6, cells := 2, slots := 148, locals := 100 } : Room) s m #[xr sa] below meth c s₁ [] 0 0 := Stand.of_body Bd
  have e0 : s₁.heap = h0 := by rw [← hh, Bd.state]; rfl
  have N0 := Fr.nil n0
  have pre0 : ∀ t, Steps p.tables e below (s₁.setTop (mkF m 0 #[vr sa, vu] [])) t → Steps p.tables e below (s₁.setTop (entryFrame m #[xr sa] 2)) t := fun t st => castTop (ef_own_wf0B m ki0 vf0 sa b kd f) st
  obtain ⟨EA, FC, FV, VB⟩ := id gS
  obtain ⟨cq1, kq1, qa1, qb1, qc1⟩ := isOf hZ e0 EA
  obtain ⟨_, _, ⟨T1, L1, k1, n1⟩, -, X1, ⟨Lc1, hQ1, l1, y1, z1⟩, st1⟩ := X0.virtualBack hx (y := Y13) (z := Y13) hown (mvT hZ (ww hw 49 rfl)) (mvT hZ (ww hw 50 rfl)) (notFace_of_selects (args := #[]) (mvT hZ (ww hw 52 rfl))) (mvT hZ (ww hw 52 rfl)) (mvT hZ (ww hw 51 rfl)) (by decide) (backOf (W := 0) (own_length0 l Z a0 hw hj ki0 vf0 G sa b kd 44 (own_lat f) h0 n0 O0 (by decide) ⟨EA, FC, FV, VB⟩ []) hZ (ww hw 53 rfl) (ww hw 15 rfl) (by decide) (by decide)) qa1 qc1 (g := (mkF m 1 #[vr sa, vu] [xr sa])) rfl (by rw [hml]; rfl) (Steps.refl _) (argsL := []) (rest := []) (lenOf pd17 rfl) rfl (by show 2 * 0 + _ ≤ _; exact Nat.le_of_eq rfl) (hb hby d11_1) (fun _ _ => ⟨rfl, e0, (by decide : 0 + 0 ≤ _), (by decide : 0 + 0 ≤ _)⟩)
  dsimp only [Pt.U, Pt.locs, Pt.cells, Pt.slots] at X1 l1 y1 z1 st1 hQ1
  subst l1 y1 z1
  obtain ⟨rfl, Nq1, e1⟩ := hQ1
  have N1 := Fr.app N0 Nq1
  obtain ⟨al, TC, hC, kC, bl, kl, XC, eC, EC, hSC, hkC, hZC, hownC, ExA, FcA, FvA, VaA, -, -, hCr, hLit, -, stC⟩ := ldcCH (s := s) (vm0 := s.vm) X1 hx hZ hown (ww hw 59 rfl) (own_strat hw hj) e1 ((State.WarmedH.refl s).since h0.size) (Nat.le_refl _) (own_EW hw) (List.mem_of_getElem? (i := 0) rfl) hCH (vs := own_vs own_al 36) (z := Int32.ofNat 36) own_t1 (by decide) (by decide) (g := (mkF m 19 #[vr sa, vi (0 : Int32)] [])) rfl (hb hby d11_19) (n := 144) own_t2 (by decide) (by decide) (by decide)
  have hZ0 := hZ
  have hZ := hZC
  have hown := hownC
  have OC := O0.ext EC
  have V_b_C := VB.ext EC
  have X_sa_C := EA.ext EC
  have F_sa_value_C := FV.ext EC
  have F_sa_coder_C := FC.ext EC
  obtain ⟨cq2, kq2, qa2, qb2, qc2⟩ := isOf hZ eC X_sa_C
  obtain ⟨_, _, ⟨T2, L2, k2, n2⟩, -, X2, ⟨Lc2, hQ2, l2, y2, z2⟩, st2⟩ := XC.virtualBack hx (y := Y20) (z := Y20) hown (mvT hZ (ww hw 62 rfl)) (mvT hZ (ww hw 63 rfl)) (notFace_of_selects (args := #[]) (mvT hZ (ww hw 65 rfl))) (mvT hZ (ww hw 65 rfl)) (mvT hZ (ww hw 64 rfl)) (by decide) (backOf (W := 1) (own_charAt0 l Z a0 hw hj ki0 vf0 G sa b kd 0 44 f hC n0 OC (by decide) ⟨X_sa_C, F_sa_coder_C, F_sa_value_C, V_b_C⟩ (by decide) (hch 0 (by decide)) []) hZ (ww hw 66 rfl) (ww hw 15 rfl) (by decide) (by decide)) qa2 qc2 (g := (mkF m 23 #[vr sa, vi (0 : Int32)] [xi (0 : Int32), xr sa, xr al])) rfl (by rw [hml]; rfl) (Steps.refl _) (argsL := [xi (0 : Int32)]) (rest := [xr al]) (lenOf pd18 rfl) rfl (by show 2 * 0 + _ ≤ _; exact Nat.le_of_eq rfl) (hb hby d11_23) (fun _ _ => ⟨rfl, eC, (by decide : 2 + 0 ≤ _), (by decide : 148 + 0 ≤ _)⟩)
  dsimp only [Pt.U, Pt.locs, Pt.cells, Pt.slots] at X2 l2 y2 z2 st2 hQ2
  subst l2 y2 z2
  obtain ⟨rfl, Nq2, e2⟩ := hQ2
  have N2 := Fr.app N1 Nq2
  obtain ⟨rr, hrr, hix⟩ := own_indexOf l Z a0 hw hj ki0 vf0 G al bl kl (f 0) (hch 0 (by decide)).1 (by have := (hch 0 (by decide)).2; omega) hC n0 OC ⟨ExA, FcA, FvA, VaA⟩
  obtain ⟨cq3, kq3, qa3, qb3, qc3⟩ := isOf hZ e2 ExA
  obtain ⟨_, _, ⟨T3, L3, k3, n3⟩, -, X3, ⟨Lc3, hQ3, l3, y3, z3⟩, st3⟩ := X2.virtualBack hx (y := Y27) (z := Y27) hown (mvT hZ (ww hw 84 rfl)) (mvT hZ (ww hw 85 rfl)) (notFace_of_selects (args := #[]) (mvT hZ (ww hw 87 rfl))) (mvT hZ (ww hw 87 rfl)) (mvT hZ (ww hw 86 rfl)) (by decide) (backOf (W := 0) (hix []) hZ (ww hw 88 rfl) (ww hw 15 rfl) (by decide) (by decide)) qa3 qc3 (g := (mkF m 26 #[vr sa, vi (0 : Int32)] [xi (f 0), xr al])) rfl (by rw [hml]; rfl) (Steps.refl _) (argsL := [xi (f 0)]) (rest := []) (lenOf pd0 rfl) rfl (by show 2 * 0 + _ ≤ _; exact Nat.le_of_eq rfl) (hb hby d11_26) (fun _ _ => ⟨rfl, e2, (by decide : 2 + 0 ≤ _), (by decide : 148 + 0 ≤ _)⟩)
  dsimp only [Pt.U, Pt.locs, Pt.cells, Pt.slots] at X3 l3 y3 z3 st3 hQ3
  subst l3 y3 z3
  obtain ⟨rfl, Nq3, e3⟩ := hQ3
  have N3 := Fr.app N2 Nq3
  obtain ⟨fs, hr, hrun, hended, hW, hsame⟩ := X3.leave (v := some (xi (0 : Int32))) (fun h => by rw [Bd.returns] at h; cases h)
  have hend := hSC.ended hW (show kC ≤ _ by show kC ≤ T3.heap.size; rw [e3]; exact hkC) hsame
  have hq := hCr.trans (CHv.at (s := s) (vm0 := TC.vm) X3 hZ (own_EW hw) hCr.1)
  refine ⟨_, _, pre0 _ ?_, hrun, hended, _, _, rfl, ?_, ?_, ⟨_, rfl⟩, hend.1, hend.2.1, hend.2.2.mono (by decide) (by decide)⟩
  · show own_S p e below s₁ (mkF m 0 #[vr sa, vu] []) _
    refine XS.aloadN X0.here hx rfl (hb hby d11_0) rfl rfl ?_
    show own_S p e below s₁ (mkF m 1 #[vr sa, vu] [xr sa]) _
    refine st1.trans ?_
    refine XS.bipush X1.here hx rfl (hb hby d11_4) ?_
    show own_S p e below T1 (mkF m 6 #[vr sa, vu] [xi (44 : Int32), xi (Int32.ofNat 44)]) _
    refine XS.icmpYes X1.here hx rfl (pc0 := 6) (pc' := 11) rfl (hb hby d11_6) rfl (by decide) (by decide) (by decide) ?_
    refine XS.iconst X1.here hx rfl (hb hby d11_11) ?_
    refine XS.istoreN X1.here hx rfl (hb hby d11_12) rfl (l' := #[vr sa, vi (0 : Int32)]) rfl ?_
    refine XS.iloadN X1.here hx rfl (hb hby d11_13) rfl ?_
    show own_S p e below T1 (mkF m 14 #[vr sa, vi (0 : Int32)] [xi (0 : Int32)]) _
    refine XS.bipush X1.here hx rfl (hb hby d11_14) ?_
    show own_S p e below T1 (mkF m 16 #[vr sa, vi (0 : Int32)] [xi (44 : Int32), xi (0 : Int32)]) _
    refine XS.icmpNo X1.here hx rfl (hb hby d11_16) rfl (by decide) ?_
    show own_S p e below T1 (mkF m 19 #[vr sa, vi (0 : Int32)] []) _
    refine stC _ ?_
    refine XS.aloadN XC.here hx rfl (hb hby d11_21) rfl rfl ?_
    refine XS.iloadN XC.here hx rfl (hb hby d11_22) rfl ?_
    show own_S p e below TC (mkF m 23 #[vr sa, vi (0 : Int32)] [xi (0 : Int32), xr sa, xr al]) _
    refine st2.trans ?_
    show own_S p e below T2 (mkF m 26 #[vr sa, vi (0 : Int32)] [xi (f 0), xr al]) _
    refine st3.trans ?_
    show own_S p e below T3 (mkF m 29 #[vr sa, vi (0 : Int32)] [xi rr]) _
    refine XS.ifNo X3.here hx rfl (hb hby d11_29) rfl (hrr.2 hno) ?_
    refine XS.iconst X3.here hx rfl (hb hby d11_32) ?_
    show own_S p e below T3 (mkF m 33 #[vr sa, vi (0 : Int32)] [xi (0 : Int32)]) _
    exact retN X3 hx (t := .boolean) Bd.returns (by simp) (hb hby d11_33) hr
  · exact ⟨rfl, N3⟩
  · show CHr Z own_EL s.vm s.heap T3.vm T3.heap
    rw [hh, e3]; exact hq
theorem ef_own_wf0C (m : MethodId)  (ki0 : Int32) (vf0 : Value) (sa : Addr) (b : Addr) (kd : ClassId) (f : Nat → Int32) (mm : Nat) : entryFrame m #[xr sa] 2 = (mkF m 0 #[vr sa, vu] []) := by first | (simp [entryFrame, mkF, argsToLocals, Value.category]; done) | rfl
set_option maxRecDepth 65536 in
set_option maxHeartbeats 40000000 in
theorem own_wf0C (l : Launch) (Z : State) (a0 : Array Value) (hw : ∀ d ∈ tables_1, d.before a0 Z = true) (hj : ∀ d ∈ jdkStatics_1, d.before a0 Z = true)  (ki0 : Int32) (vf0 : Value) (G : own_St Z hj ki0 vf0) (sa : Addr) (b : Addr) (kd : ClassId) (f : Nat → Int32) (mm : Nat) (h0 : Heap) (n0 : Nat) (O0 : Old Z n0 h0) (gS : own_SS Z h0 sa b kd 44 (0 : Int32) (own_lat f)) (hch : ∀ j, j < 44 → 0 ≤ (f j).toInt ∧ (f j).toInt < 256) (hm0 : 0 < mm) (hlt : mm < 44) (hall : ∀ j, j < mm → own_ok (f j)) (hno : ¬ own_ok (f mm)) : own_MetW l Z Y28 prog_12_method_2_code 2 (some .boolean) ({ frames := 6, cells := 2, slots := 148, locals := 100 } : Room) #[xr sa] h0 (own_QL (some (xi (0 : Int32))) n0) := by
  intro ws
  refine MetFree.of_bodySF (plainFor_of_name pn7) hisR ?_
  intro p e s m args below meth c s₁ Bd hml0 hP hK
  obtain ⟨rfl, hZ, hh, hCH⟩ := hP
  have hx := Bd.exec
  have hby := Bd.bytes
  have hml : c.maxLocals = 2 := hml0
  have hown : s.vm.findClass "com/example/scopelock/scopelock/Key" = some m.cls := findClass_of_methodNamed Bd.named
  have hnm := (name_of_methodNamed Bd.named Bd.method).1
  have X0 : Stand p l e ({ frames := 6, cells := 2, slots := 148, locals := 100 } : Room) s m #[xr sa] below meth c s₁ [] 0 0 := Stand.of_body Bd
  have e0 : s₁.heap = h0 := by rw [← hh, Bd.state]; rfl
  have N0 := Fr.nil n0
  have pre0 : ∀ t, Steps p.tables e below (s₁.setTop (mkF m 0 #[vr sa, vu] [])) t → Steps p.tables e below (s₁.setTop (entryFrame m #[xr sa] 2)) t := fun t st => castTop (ef_own_wf0C m ki0 vf0 sa b kd f mm) st
  obtain ⟨EA, FC, FV, VB⟩ := id gS
  obtain ⟨cq1, kq1, qa1, qb1, qc1⟩ := isOf hZ e0 EA
  obtain ⟨_, _, ⟨T1, L1, k1, n1⟩, -, X1, ⟨Lc1, hQ1, l1, y1, z1⟩, st1⟩ := X0.virtualBack hx (y := Y13) (z := Y13) hown (mvT hZ (ww hw 49 rfl)) (mvT hZ (ww hw 50 rfl)) (notFace_of_selects (args := #[]) (mvT hZ (ww hw 52 rfl))) (mvT hZ (ww hw 52 rfl)) (mvT hZ (ww hw 51 rfl)) (by decide) (backOf (W := 0) (own_length0 l Z a0 hw hj ki0 vf0 G sa b kd 44 (own_lat f) h0 n0 O0 (by decide) ⟨EA, FC, FV, VB⟩ []) hZ (ww hw 53 rfl) (ww hw 15 rfl) (by decide) (by decide)) qa1 qc1 (g := (mkF m 1 #[vr sa, vu] [xr sa])) rfl (by rw [hml]; rfl) (Steps.refl _) (argsL := []) (rest := []) (lenOf pd17 rfl) rfl (by show 2 * 0 + _ ≤ _; exact Nat.le_of_eq rfl) (hb hby d11_1) (fun _ _ => ⟨rfl, e0, (by decide : 0 + 0 ≤ _), (by decide : 0 + 0 ≤ _)⟩)
  dsimp only [Pt.U, Pt.locs, Pt.cells, Pt.slots] at X1 l1 y1 z1 st1 hQ1
  subst l1 y1 z1
  obtain ⟨rfl, Nq1, e1⟩ := hQ1
  have N1 := Fr.app N0 Nq1
  obtain ⟨al, TC, hC, kC, bl, kl, XC, eC, EC, hSC, hkC, hZC, hownC, ExA, FcA, FvA, VaA, -, -, hCr, hLit, -, stC⟩ := ldcCH (s := s) (vm0 := s.vm) X1 hx hZ hown (ww hw 59 rfl) (own_strat hw hj) e1 ((State.WarmedH.refl s).since h0.size) (Nat.le_refl _) (own_EW hw) (List.mem_of_getElem? (i := 0) rfl) hCH (vs := own_vs own_al 36) (z := Int32.ofNat 36) own_t1 (by decide) (by decide) (g := (mkF m 19 #[vr sa, vi (0 : Int32)] [])) rfl (hb hby d11_19) (n := 144) own_t2 (by decide) (by decide) (by decide)
  have hZ0 := hZ
  have hZ := hZC
  have hown := hownC
  have OC := O0.ext EC
  have V_b_C := VB.ext EC
  have X_sa_C := EA.ext EC
  have F_sa_value_C := FV.ext EC
  have F_sa_coder_C := FC.ext EC
  obtain ⟨cq2, kq2, qa2, qb2, qc2⟩ := isOf hZ eC X_sa_C
  obtain ⟨_, _, ⟨T2, L2, k2, n2⟩, -, X2, ⟨Lc2, hQ2, l2, y2, z2⟩, st2⟩ := XC.virtualBack hx (y := Y20) (z := Y20) hown (mvT hZ (ww hw 62 rfl)) (mvT hZ (ww hw 63 rfl)) (notFace_of_selects (args := #[]) (mvT hZ (ww hw 65 rfl))) (mvT hZ (ww hw 65 rfl)) (mvT hZ (ww hw 64 rfl)) (by decide) (backOf (W := 1) (own_charAt0 l Z a0 hw hj ki0 vf0 G sa b kd 0 44 f hC n0 OC (by decide) ⟨X_sa_C, F_sa_coder_C, F_sa_value_C, V_b_C⟩ (by decide) (hch 0 (by decide)) []) hZ (ww hw 66 rfl) (ww hw 15 rfl) (by decide) (by decide)) qa2 qc2 (g := (mkF m 23 #[vr sa, vi (0 : Int32)] [xi (0 : Int32), xr sa, xr al])) rfl (by rw [hml]; rfl) (Steps.refl _) (argsL := [xi (0 : Int32)]) (rest := [xr al]) (lenOf pd18 rfl) rfl (by show 2 * 0 + _ ≤ _; exact Nat.le_of_eq rfl) (hb hby d11_23) (fun _ _ => ⟨rfl, eC, (by decide : 2 + 0 ≤ _), (by decide : 148 + 0 ≤ _)⟩)
  dsimp only [Pt.U, Pt.locs, Pt.cells, Pt.slots] at X2 l2 y2 z2 st2 hQ2
  subst l2 y2 z2
  obtain ⟨rfl, Nq2, e2⟩ := hQ2
  have N2 := Fr.app N1 Nq2
  obtain ⟨rr, hrr, hix⟩ := own_indexOf l Z a0 hw hj ki0 vf0 G al bl kl (f 0) (hch 0 (by decide)).1 (by have := (hch 0 (by decide)).2; omega) hC n0 OC ⟨ExA, FcA, FvA, VaA⟩
  obtain ⟨cq3, kq3, qa3, qb3, qc3⟩ := isOf hZ e2 ExA
  obtain ⟨_, _, ⟨T3, L3, k3, n3⟩, -, X3, ⟨Lc3, hQ3, l3, y3, z3⟩, st3⟩ := X2.virtualBack hx (y := Y27) (z := Y27) hown (mvT hZ (ww hw 84 rfl)) (mvT hZ (ww hw 85 rfl)) (notFace_of_selects (args := #[]) (mvT hZ (ww hw 87 rfl))) (mvT hZ (ww hw 87 rfl)) (mvT hZ (ww hw 86 rfl)) (by decide) (backOf (W := 0) (hix []) hZ (ww hw 88 rfl) (ww hw 15 rfl) (by decide) (by decide)) qa3 qc3 (g := (mkF m 26 #[vr sa, vi (0 : Int32)] [xi (f 0), xr al])) rfl (by rw [hml]; rfl) (Steps.refl _) (argsL := [xi (f 0)]) (rest := []) (lenOf pd0 rfl) rfl (by show 2 * 0 + _ ≤ _; exact Nat.le_of_eq rfl) (hb hby d11_26) (fun _ _ => ⟨rfl, e2, (by decide : 2 + 0 ≤ _), (by decide : 148 + 0 ≤ _)⟩)
  dsimp only [Pt.U, Pt.locs, Pt.cells, Pt.slots] at X3 l3 y3 z3 st3 hQ3
  subst l3 y3 z3
  obtain ⟨rfl, Nq3, e3⟩ := hQ3
  have N3 := Fr.app N2 Nq3
  obtain ⟨TL, LL, XL, eL, NL, stL⟩ := own_wf_loop0 hw hj ki0 vf0 G sa b kd f al bl kl hx hZ hby hml hown n0 hC OC ⟨X_sa_C, F_sa_coder_C, F_sa_value_C, V_b_C⟩ hch ⟨ExA, FcA, FvA, VaA⟩ hLit (mm - 1) 1 T3 _ X3 e3 N3 (by omega) (fun j _ h => hall j (by omega))
  rw [show 1 + (mm - 1) = mm from by omega] at stL
  obtain ⟨cq4, kq4, qa4, qb4, qc4⟩ := isOf hZ eL X_sa_C
  obtain ⟨_, _, ⟨T4, L4, k4, n4⟩, -, X4, ⟨Lc4, hQ4, l4, y4, z4⟩, st4⟩ := XL.virtualBack hx (y := Y20) (z := Y20) hown (mvT hZ (ww hw 62 rfl)) (mvT hZ (ww hw 63 rfl)) (notFace_of_selects (args := #[]) (mvT hZ (ww hw 65 rfl))) (mvT hZ (ww hw 65 rfl)) (mvT hZ (ww hw 64 rfl)) (by decide) (backOf (W := 1) (own_charAt0 l Z a0 hw hj ki0 vf0 G sa b kd mm 44 f hC n0 OC (by decide) ⟨X_sa_C, F_sa_coder_C, F_sa_value_C, V_b_C⟩ hlt (hch mm hlt) []) hZ (ww hw 66 rfl) (ww hw 15 rfl) (by decide) (by decide)) qa4 qc4 (g := (mkF m 23 #[vr sa, vi (Int32.ofNat mm)] [xi (Int32.ofNat mm), xr sa, xr al])) rfl (by rw [hml]; rfl) (Steps.refl _) (argsL := [xi (Int32.ofNat mm)]) (rest := [xr al]) (lenOf pd18 rfl) rfl (by show 2 * 0 + _ ≤ _; exact Nat.le_of_eq rfl) (hb hby d11_23) (fun _ _ => ⟨rfl, eL, (by decide : 2 + 0 ≤ _), (by decide : 148 + 0 ≤ _)⟩)
  dsimp only [Pt.U, Pt.locs, Pt.cells, Pt.slots] at X4 l4 y4 z4 st4 hQ4
  subst l4 y4 z4
  obtain ⟨rfl, Nq4, e4⟩ := hQ4
  have N4 := Fr.app NL Nq4
  obtain ⟨rr2, hrr2, hix2⟩ := own_indexOf l Z a0 hw hj ki0 vf0 G al bl kl (f mm) (hch mm hlt).1 (by have := (hch mm hlt).2; omega) hC n0 OC ⟨ExA, FcA, FvA, VaA⟩
  obtain ⟨cq5, kq5, qa5, qb5, qc5⟩ := isOf hZ e4 ExA
  obtain ⟨_, _, ⟨T5, L5, k5, n5⟩, -, X5, ⟨Lc5, hQ5, l5, y5, z5⟩, st5⟩ := X4.virtualBack hx (y := Y27) (z := Y27) hown (mvT hZ (ww hw 84 rfl)) (mvT hZ (ww hw 85 rfl)) (notFace_of_selects (args := #[]) (mvT hZ (ww hw 87 rfl))) (mvT hZ (ww hw 87 rfl)) (mvT hZ (ww hw 86 rfl)) (by decide) (backOf (W := 0) (hix2 []) hZ (ww hw 88 rfl) (ww hw 15 rfl) (by decide) (by decide)) qa5 qc5 (g := (mkF m 26 #[vr sa, vi (Int32.ofNat mm)] [xi (f mm), xr al])) rfl (by rw [hml]; rfl) (Steps.refl _) (argsL := [xi (f mm)]) (rest := []) (lenOf pd0 rfl) rfl (by show 2 * 0 + _ ≤ _; exact Nat.le_of_eq rfl) (hb hby d11_26) (fun _ _ => ⟨rfl, e4, (by decide : 2 + 0 ≤ _), (by decide : 148 + 0 ≤ _)⟩)
  dsimp only [Pt.U, Pt.locs, Pt.cells, Pt.slots] at X5 l5 y5 z5 st5 hQ5
  subst l5 y5 z5
  obtain ⟨rfl, Nq5, e5⟩ := hQ5
  have N5 := Fr.app N4 Nq5
  obtain ⟨fs, hr, hrun, hended, hW, hsame⟩ := X5.leave (v := some (xi (0 : Int32))) (fun h => by rw [Bd.returns] at h; cases h)
  have hend := hSC.ended hW (show kC ≤ _ by show kC ≤ T5.heap.size; rw [e5]; exact hkC) hsame
  have hq := hCr.trans (CHv.at (s := s) (vm0 := TC.vm) X5 hZ (own_EW hw) hCr.1)
  refine ⟨_, _, pre0 _ ?_, hrun, hended, _, _, rfl, ?_, ?_, ⟨_, rfl⟩, hend.1, hend.2.1, hend.2.2.mono (by decide) (by decide)⟩
  · show own_S p e below s₁ (mkF m 0 #[vr sa, vu] []) _
    refine XS.aloadN X0.here hx rfl (hb hby d11_0) rfl rfl ?_
    show own_S p e below s₁ (mkF m 1 #[vr sa, vu] [xr sa]) _
    refine st1.trans ?_
    refine XS.bipush X1.here hx rfl (hb hby d11_4) ?_
    show own_S p e below T1 (mkF m 6 #[vr sa, vu] [xi (44 : Int32), xi (Int32.ofNat 44)]) _
    refine XS.icmpYes X1.here hx rfl (pc0 := 6) (pc' := 11) rfl (hb hby d11_6) rfl (by decide) (by decide) (by decide) ?_
    refine XS.iconst X1.here hx rfl (hb hby d11_11) ?_
    refine XS.istoreN X1.here hx rfl (hb hby d11_12) rfl (l' := #[vr sa, vi (0 : Int32)]) rfl ?_
    refine XS.iloadN X1.here hx rfl (hb hby d11_13) rfl ?_
    show own_S p e below T1 (mkF m 14 #[vr sa, vi (0 : Int32)] [xi (0 : Int32)]) _
    refine XS.bipush X1.here hx rfl (hb hby d11_14) ?_
    show own_S p e below T1 (mkF m 16 #[vr sa, vi (0 : Int32)] [xi (44 : Int32), xi (0 : Int32)]) _
    refine XS.icmpNo X1.here hx rfl (hb hby d11_16) rfl (by decide) ?_
    show own_S p e below T1 (mkF m 19 #[vr sa, vi (0 : Int32)] []) _
    refine stC _ ?_
    refine XS.aloadN XC.here hx rfl (hb hby d11_21) rfl rfl ?_
    refine XS.iloadN XC.here hx rfl (hb hby d11_22) rfl ?_
    show own_S p e below TC (mkF m 23 #[vr sa, vi (0 : Int32)] [xi (0 : Int32), xr sa, xr al]) _
    refine st2.trans ?_
    show own_S p e below T2 (mkF m 26 #[vr sa, vi (0 : Int32)] [xi (f 0), xr al]) _
    refine st3.trans ?_
    show own_S p e below T3 (mkF m 29 #[vr sa, vi (0 : Int32)] [xi rr]) _
    refine XS.ifYes X3.here hx rfl (pc0 := 29) (pc' := 34) rfl (hb hby d11_29) rfl (hrr.1 (hall 0 (by omega))) (by decide) (by decide) ?_
    show own_S p e below T3 (mkF m 34 #[vr sa, vi (0 : Int32)] []) _
    refine XS.iinc X3.here hx rfl (hb hby d11_34) rfl (l' := #[vr sa, vi ((0 : Int32) + (1 : Int32))]) rfl ?_
    refine castTop (show (mkF m 37 #[vr sa, vi ((0 : Int32) + (1 : Int32))] []) = (mkF m 37 #[vr sa, vi (1 : Int32)] []) from by rw [show ((0 : Int32) + (1 : Int32)) = (1 : Int32) from by decide]) ?_
    refine XS.goto X3.here hx rfl (pc0 := 37) (pc' := 13) rfl (hb hby d11_37) (by decide) (by decide) ?_
    refine stL _ ?_
    refine XS.iloadN XL.here hx rfl (hb hby d11_13) rfl ?_
    refine XS.bipush XL.here hx rfl (hb hby d11_14) ?_
    show own_S p e below TL (mkF m 16 #[vr sa, vi (Int32.ofNat mm)] [xi (44 : Int32), xi (Int32.ofNat mm)]) _
    refine XS.icmpNo XL.here hx rfl (hb hby d11_16) rfl (tlt (own_in (N := 44) hlt (by decide)).2).2.1 ?_
    show own_S p e below TL (mkF m 19 #[vr sa, vi (Int32.ofNat mm)] []) _
    refine ldcAgain (s := s) (vm0 := TC.vm) XL hx hZ hown (ww hw 59 rfl) hLit (g := (mkF m 19 #[vr sa, vi (Int32.ofNat mm)] [])) rfl (hb hby d11_19) _ ?_
    refine XS.aloadN XL.here hx rfl (hb hby d11_21) rfl rfl ?_
    refine XS.iloadN XL.here hx rfl (hb hby d11_22) rfl ?_
    show own_S p e below TL (mkF m 23 #[vr sa, vi (Int32.ofNat mm)] [xi (Int32.ofNat mm), xr sa, xr al]) _
    refine st4.trans ?_
    show own_S p e below T4 (mkF m 26 #[vr sa, vi (Int32.ofNat mm)] [xi (f mm), xr al]) _
    refine st5.trans ?_
    show own_S p e below T5 (mkF m 29 #[vr sa, vi (Int32.ofNat mm)] [xi rr2]) _
    refine XS.ifNo X5.here hx rfl (hb hby d11_29) rfl (hrr2.2 hno) ?_
    refine XS.iconst X5.here hx rfl (hb hby d11_32) ?_
    show own_S p e below T5 (mkF m 33 #[vr sa, vi (Int32.ofNat mm)] [xi (0 : Int32)]) _
    exact retN X5 hx (t := .boolean) Bd.returns (by simp) (hb hby d11_33) hr
  · exact ⟨rfl, N5⟩
  · show CHr Z own_EL s.vm s.heap T5.vm T5.heap
    rw [hh, e5]; exact hq
set_option maxRecDepth 65536 in
set_option maxHeartbeats 40000000 in
theorem own_wf_turn1 {p : Program} {l : Launch} {e : Env} {s : State} {m : MethodId} {args : Array Value} {below : List Frame} {meth : Method} {c : Code} {T0 : State} {locs : List Loc} {Z : State} {a0 : Array Value} (hw : ∀ d ∈ tables_1, d.before a0 Z = true) (hj : ∀ d ∈ jdkStatics_1, d.before a0 Z = true)  (ki0 : Int32) (vf0 : Value) (G : own_St Z hj ki0 vf0) (sa : Addr) (b : Addr) (kd : ClassId) (f : Nat → Int32) (al : Addr) (bl : Addr) (kl : ClassId) (i : Nat) (hx : p.tables.exec = Jvm.exec) (hZ : Z.Warmed39 s.vm) (hby : c.code = prog_12_method_2_code) (hml : c.maxLocals = 2) (hown : s.vm.findClass "com/example/scopelock/scopelock/Key" = some m.cls) {h0 : Heap} {n0 : Nat} (X0 : Stand p l e ({ frames := 6, cells := 2, slots := 148, locals := 100 } : Room) s m args below meth c T0 locs 2 148) (e0 : T0.heap = h0) (N0 : Fr n0 locs) (O0 : Old Z n0 h0) (gS : own_SS Z h0 sa b kd (2 * 44) (1 : Int32) (own_u16 f)) (hch : ∀ j, j < 44 → 0 ≤ (f j).toInt ∧ (f j).toInt < 65536) (gA : own_SS Z h0 al bl kl 36 (0 : Int32) own_al) (hL : Lit s "com/example/scopelock/scopelock/Key" 69 al) (hlt : i < 44) (hok : own_ok (f i)) :
    ∃ (T1 : State) (L1 : List Loc) (h1 : Heap), Stand p l e ({ frames := 6, cells := 2, slots := 148, locals := 100 } : Room) s m args below meth c T1 L1 2 148 ∧ T1.heap = h1 ∧ Fr n0 L1 ∧ Old Z n0 h1 ∧ (h1 = h0) ∧ ∀ t, Steps p.tables e below (T1.setTop (mkF m 13 #[vr sa, vi (Int32.ofNat (i + 1))] [])) t → Steps p.tables e below (T0.setTop (mkF m 13 #[vr sa, vi (Int32.ofNat i)] [])) t := by
  obtain ⟨EA, FC, FV, VB⟩ := id gS
  obtain ⟨EL_, FCL, FVL, VBL⟩ := id gA
  obtain ⟨cq1, kq1, qa1, qb1, qc1⟩ := isOf hZ e0 EA
  obtain ⟨_, _, ⟨T1, L1, k1, n1⟩, -, X1, ⟨Lc1, hQ1, l1, y1, z1⟩, st1⟩ := X0.virtualBack hx (y := Y20) (z := Y20) hown (mvT hZ (ww hw 62 rfl)) (mvT hZ (ww hw 63 rfl)) (notFace_of_selects (args := #[]) (mvT hZ (ww hw 65 rfl))) (mvT hZ (ww hw 65 rfl)) (mvT hZ (ww hw 64 rfl)) (by decide) (backOf (W := 1) (own_charAt1 l Z a0 hw hj ki0 vf0 G sa b kd i 44 f h0 n0 O0 (by decide) ⟨EA, FC, FV, VB⟩ hlt (hch i hlt) []) hZ (ww hw 66 rfl) (ww hw 15 rfl) (by decide) (by decide)) qa1 qc1 (g := (mkF m 23 #[vr sa, vi (Int32.ofNat i)] [xi (Int32.ofNat i), xr sa, xr al])) rfl (by rw [hml]; rfl) (Steps.refl _) (argsL := [xi (Int32.ofNat i)]) (rest := [xr al]) (lenOf pd18 rfl) rfl (by show 2 * 0 + _ ≤ _; exact Nat.le_of_eq rfl) (hb hby d11_23) (fun _ _ => ⟨rfl, e0, (by decide : 2 + 0 ≤ _), (by decide : 148 + 0 ≤ _)⟩)
  dsimp only [Pt.U, Pt.locs, Pt.cells, Pt.slots] at X1 l1 y1 z1 st1 hQ1
  subst l1 y1 z1
  obtain ⟨rfl, Nq1, e1⟩ := hQ1
  have N1 := Fr.app N0 Nq1
  obtain ⟨rr, hrr, hix⟩ := own_indexOf l Z a0 hw hj ki0 vf0 G al bl kl (f i) (hch i hlt).1 (by have := (hch i hlt).2; omega) h0 n0 O0 ⟨EL_, FCL, FVL, VBL⟩
  obtain ⟨cq2, kq2, qa2, qb2, qc2⟩ := isOf hZ e1 EL_
  obtain ⟨_, _, ⟨T2, L2, k2, n2⟩, -, X2, ⟨Lc2, hQ2, l2, y2, z2⟩, st2⟩ := X1.virtualBack hx (y := Y27) (z := Y27) hown (mvT hZ (ww hw 84 rfl)) (mvT hZ (ww hw 85 rfl)) (notFace_of_selects (args := #[]) (mvT hZ (ww hw 87 rfl))) (mvT hZ (ww hw 87 rfl)) (mvT hZ (ww hw 86 rfl)) (by decide) (backOf (W := 0) (hix []) hZ (ww hw 88 rfl) (ww hw 15 rfl) (by decide) (by decide)) qa2 qc2 (g := (mkF m 26 #[vr sa, vi (Int32.ofNat i)] [xi (f i), xr al])) rfl (by rw [hml]; rfl) (Steps.refl _) (argsL := [xi (f i)]) (rest := []) (lenOf pd0 rfl) rfl (by show 2 * 0 + _ ≤ _; exact Nat.le_of_eq rfl) (hb hby d11_26) (fun _ _ => ⟨rfl, e1, (by decide : 2 + 0 ≤ _), (by decide : 148 + 0 ≤ _)⟩)
  dsimp only [Pt.U, Pt.locs, Pt.cells, Pt.slots] at X2 l2 y2 z2 st2 hQ2
  subst l2 y2 z2
  obtain ⟨rfl, Nq2, e2⟩ := hQ2
  have N2 := Fr.app N1 Nq2
  refine ⟨_, _, _, X2, e2, N2, O0, rfl, fun t st => ?_⟩
  show own_S p e below T0 (mkF m 13 #[vr sa, vi (Int32.ofNat i)] []) _
  refine XS.iloadN X0.here hx rfl (hb hby d11_13) rfl ?_
  refine XS.bipush X0.here hx rfl (hb hby d11_14) ?_
  show own_S p e below T0 (mkF m 16 #[vr sa, vi (Int32.ofNat i)] [xi (44 : Int32), xi (Int32.ofNat i)]) _
  refine XS.icmpNo X0.here hx rfl (hb hby d11_16) rfl (tlt (own_in (N := 44) hlt (by decide)).2).2.1 ?_
  show own_S p e below T0 (mkF m 19 #[vr sa, vi (Int32.ofNat i)] []) _
  refine ldcAgain (s := s) (vm0 := s.vm) X0 hx hZ hown (ww hw 59 rfl) hL (g := (mkF m 19 #[vr sa, vi (Int32.ofNat i)] [])) rfl (hb hby d11_19) _ ?_
  refine XS.aloadN X0.here hx rfl (hb hby d11_21) rfl rfl ?_
  refine XS.iloadN X0.here hx rfl (hb hby d11_22) rfl ?_
  show own_S p e below T0 (mkF m 23 #[vr sa, vi (Int32.ofNat i)] [xi (Int32.ofNat i), xr sa, xr al]) _
  refine st1.trans ?_
  show own_S p e below T1 (mkF m 26 #[vr sa, vi (Int32.ofNat i)] [xi (f i), xr al]) _
  refine st2.trans ?_
  show own_S p e below T2 (mkF m 29 #[vr sa, vi (Int32.ofNat i)] [xi rr]) _
  refine XS.ifYes X2.here hx rfl (pc0 := 29) (pc' := 34) rfl (hb hby d11_29) rfl (hrr.1 hok) (by decide) (by decide) ?_
  show own_S p e below T2 (mkF m 34 #[vr sa, vi (Int32.ofNat i)] []) _
  refine XS.iinc X2.here hx rfl (hb hby d11_34) rfl (l' := #[vr sa, vi ((Int32.ofNat i) + (1 : Int32))]) rfl ?_
  refine castTop (show (mkF m 37 #[vr sa, vi ((Int32.ofNat i) + (1 : Int32))] []) = (mkF m 37 #[vr sa, vi (Int32.ofNat (i + 1))] []) from by rw [own_suc]) ?_
  refine XS.goto X2.here hx rfl (pc0 := 37) (pc' := 13) rfl (hb hby d11_37) (by decide) (by decide) ?_
  exact st
theorem own_wf_loop1 {p : Program} {l : Launch} {e : Env} {s : State} {m : MethodId} {args : Array Value} {below : List Frame} {meth : Method} {c : Code} {Z : State} {a0 : Array Value} (hw : ∀ d ∈ tables_1, d.before a0 Z = true) (hj : ∀ d ∈ jdkStatics_1, d.before a0 Z = true)  (ki0 : Int32) (vf0 : Value) (G : own_St Z hj ki0 vf0) (sa b : Addr) (kd : ClassId) (f : Nat → Int32) (al bl : Addr) (kl : ClassId) (hx : p.tables.exec = Jvm.exec) (hZ : Z.Warmed39 s.vm) (hby : c.code = prog_12_method_2_code) (hml : c.maxLocals = 2) (hown : s.vm.findClass "com/example/scopelock/scopelock/Key" = some m.cls) (n0 : Nat) (h0 : Heap) (O0 : Old Z n0 h0) (gS : own_SS Z h0 sa b kd (2 * 44) (1 : Int32) (own_u16 f)) (hch : ∀ j, j < 44 → 0 ≤ (f j).toInt ∧ (f j).toInt < 65536) (gA : own_SS Z h0 al bl kl 36 (0 : Int32) own_al) (hL : Lit s "com/example/scopelock/scopelock/Key" 69 al) (k : Nat) : ∀ (i : Nat) (T0 : State) (locs : List Loc), Stand p l e ({ frames := 6, cells := 2, slots := 148, locals := 100 } : Room) s m args below meth c T0 locs 2 148 → T0.heap = h0 → Fr n0 locs → i + k ≤ 44 → (∀ j, i ≤ j → j < i + k → own_ok (f j)) →
    ∃ (T1 : State) (L1 : List Loc), Stand p l e ({ frames := 6, cells := 2, slots := 148, locals := 100 } : Room) s m args below meth c T1 L1 2 148 ∧ T1.heap = h0 ∧ Fr n0 L1 ∧ ∀ t, Steps p.tables e below (T1.setTop (mkF m 13 #[vr sa, vi (Int32.ofNat (i + k))] [])) t → Steps p.tables e below (T0.setTop (mkF m 13 #[vr sa, vi (Int32.ofNat i)] [])) t := by
  induction k with
  | zero => intro i T0 locs X e0 N0 hk hall; exact ⟨T0, locs, X, e0, N0, fun t st => st⟩
  | succ k ih =>
    intro i T0 locs X e0 N0 hk hall
    obtain ⟨T1, L1, h1, X1, e1, N1, -, rfl, st1⟩ := own_wf_turn1 hw hj ki0 vf0 G sa b kd f al bl kl i hx hZ hby hml hown X e0 N0 O0 gS hch gA hL (by omega) (hall i (Nat.le_refl _) (by omega))
    obtain ⟨T2, L2, X2, e2, N2, st2⟩ := ih (i + 1) T1 L1 X1 e1 N1 (by omega) (fun j h1 h2 => hall j (by omega) (by omega))
    exact ⟨T2, L2, X2, e2, N2, fun t st => st1 t (st2 t (by rw [show i + 1 + k = i + (k + 1) from by omega]; exact st))⟩
theorem ef_own_wf1B (m : MethodId)  (ki0 : Int32) (vf0 : Value) (sa : Addr) (b : Addr) (kd : ClassId) (f : Nat → Int32) : entryFrame m #[xr sa] 2 = (mkF m 0 #[vr sa, vu] []) := by first | (simp [entryFrame, mkF, argsToLocals, Value.category]; done) | rfl
set_option maxRecDepth 65536 in
set_option maxHeartbeats 40000000 in
theorem own_wf1B (l : Launch) (Z : State) (a0 : Array Value) (hw : ∀ d ∈ tables_1, d.before a0 Z = true) (hj : ∀ d ∈ jdkStatics_1, d.before a0 Z = true)  (ki0 : Int32) (vf0 : Value) (G : own_St Z hj ki0 vf0) (sa : Addr) (b : Addr) (kd : ClassId) (f : Nat → Int32) (h0 : Heap) (n0 : Nat) (O0 : Old Z n0 h0) (gS : own_SS Z h0 sa b kd (2 * 44) (1 : Int32) (own_u16 f)) (hch : ∀ j, j < 44 → 0 ≤ (f j).toInt ∧ (f j).toInt < 65536) (hno : ¬ own_ok (f 0)) : own_MetW l Z Y28 prog_12_method_2_code 2 (some .boolean) ({ frames := 6, cells := 2, slots := 148, locals := 100 } : Room) #[xr sa] h0 (own_QL (some (xi (0 : Int32))) n0) := by
  intro ws
  refine MetFree.of_bodySF (plainFor_of_name pn7) hisR ?_
  intro p e s m args below meth c s₁ Bd hml0 hP hK
  obtain ⟨rfl, hZ, hh, hCH⟩ := hP
  have hx := Bd.exec
  have hby := Bd.bytes
  have hml : c.maxLocals = 2 := hml0
  have hown : s.vm.findClass "com/example/scopelock/scopelock/Key" = some m.cls := findClass_of_methodNamed Bd.named
  have hnm := (name_of_methodNamed Bd.named Bd.method).1
  have X0 : Stand p l e ({ frames := 6, cells := 2, slots := 148, locals := 100 } : Room) s m #[xr sa] below meth c s₁ [] 0 0 := Stand.of_body Bd
  have e0 : s₁.heap = h0 := by rw [← hh, Bd.state]; rfl
  have N0 := Fr.nil n0
  have pre0 : ∀ t, Steps p.tables e below (s₁.setTop (mkF m 0 #[vr sa, vu] [])) t → Steps p.tables e below (s₁.setTop (entryFrame m #[xr sa] 2)) t := fun t st => castTop (ef_own_wf1B m ki0 vf0 sa b kd f) st
  obtain ⟨EA, FC, FV, VB⟩ := id gS
  obtain ⟨cq1, kq1, qa1, qb1, qc1⟩ := isOf hZ e0 EA
  obtain ⟨_, _, ⟨T1, L1, k1, n1⟩, -, X1, ⟨Lc1, hQ1, l1, y1, z1⟩, st1⟩ := X0.virtualBack hx (y := Y13) (z := Y13) hown (mvT hZ (ww hw 49 rfl)) (mvT hZ (ww hw 50 rfl)) (notFace_of_selects (args := #[]) (mvT hZ (ww hw 52 rfl))) (mvT hZ (ww hw 52 rfl)) (mvT hZ (ww hw 51 rfl)) (by decide) (backOf (W := 0) (own_length1 l Z a0 hw hj ki0 vf0 G sa b kd 44 (own_u16 f) h0 n0 O0 (by decide) ⟨EA, FC, FV, VB⟩ []) hZ (ww hw 53 rfl) (ww hw 15 rfl) (by decide) (by decide)) qa1 qc1 (g := (mkF m 1 #[vr sa, vu] [xr sa])) rfl (by rw [hml]; rfl) (Steps.refl _) (argsL := []) (rest := []) (lenOf pd17 rfl) rfl (by show 2 * 0 + _ ≤ _; exact Nat.le_of_eq rfl) (hb hby d11_1) (fun _ _ => ⟨rfl, e0, (by decide : 0 + 0 ≤ _), (by decide : 0 + 0 ≤ _)⟩)
  dsimp only [Pt.U, Pt.locs, Pt.cells, Pt.slots] at X1 l1 y1 z1 st1 hQ1
  subst l1 y1 z1
  obtain ⟨rfl, Nq1, e1⟩ := hQ1
  have N1 := Fr.app N0 Nq1
  obtain ⟨al, TC, hC, kC, bl, kl, XC, eC, EC, hSC, hkC, hZC, hownC, ExA, FcA, FvA, VaA, -, -, hCr, hLit, -, stC⟩ := ldcCH (s := s) (vm0 := s.vm) X1 hx hZ hown (ww hw 59 rfl) (own_strat hw hj) e1 ((State.WarmedH.refl s).since h0.size) (Nat.le_refl _) (own_EW hw) (List.mem_of_getElem? (i := 0) rfl) hCH (vs := own_vs own_al 36) (z := Int32.ofNat 36) own_t1 (by decide) (by decide) (g := (mkF m 19 #[vr sa, vi (0 : Int32)] [])) rfl (hb hby d11_19) (n := 144) own_t2 (by decide) (by decide) (by decide)
  have hZ0 := hZ
  have hZ := hZC
  have hown := hownC
  have OC := O0.ext EC
  have V_b_C := VB.ext EC
  have X_sa_C := EA.ext EC
  have F_sa_value_C := FV.ext EC
  have F_sa_coder_C := FC.ext EC
  obtain ⟨cq2, kq2, qa2, qb2, qc2⟩ := isOf hZ eC X_sa_C
  obtain ⟨_, _, ⟨T2, L2, k2, n2⟩, -, X2, ⟨Lc2, hQ2, l2, y2, z2⟩, st2⟩ := XC.virtualBack hx (y := Y20) (z := Y20) hown (mvT hZ (ww hw 62 rfl)) (mvT hZ (ww hw 63 rfl)) (notFace_of_selects (args := #[]) (mvT hZ (ww hw 65 rfl))) (mvT hZ (ww hw 65 rfl)) (mvT hZ (ww hw 64 rfl)) (by decide) (backOf (W := 1) (own_charAt1 l Z a0 hw hj ki0 vf0 G sa b kd 0 44 f hC n0 OC (by decide) ⟨X_sa_C, F_sa_coder_C, F_sa_value_C, V_b_C⟩ (by decide) (hch 0 (by decide)) []) hZ (ww hw 66 rfl) (ww hw 15 rfl) (by decide) (by decide)) qa2 qc2 (g := (mkF m 23 #[vr sa, vi (0 : Int32)] [xi (0 : Int32), xr sa, xr al])) rfl (by rw [hml]; rfl) (Steps.refl _) (argsL := [xi (0 : Int32)]) (rest := [xr al]) (lenOf pd18 rfl) rfl (by show 2 * 0 + _ ≤ _; exact Nat.le_of_eq rfl) (hb hby d11_23) (fun _ _ => ⟨rfl, eC, (by decide : 2 + 0 ≤ _), (by decide : 148 + 0 ≤ _)⟩)
  dsimp only [Pt.U, Pt.locs, Pt.cells, Pt.slots] at X2 l2 y2 z2 st2 hQ2
  subst l2 y2 z2
  obtain ⟨rfl, Nq2, e2⟩ := hQ2
  have N2 := Fr.app N1 Nq2
  obtain ⟨rr, hrr, hix⟩ := own_indexOf l Z a0 hw hj ki0 vf0 G al bl kl (f 0) (hch 0 (by decide)).1 (by have := (hch 0 (by decide)).2; omega) hC n0 OC ⟨ExA, FcA, FvA, VaA⟩
  obtain ⟨cq3, kq3, qa3, qb3, qc3⟩ := isOf hZ e2 ExA
  obtain ⟨_, _, ⟨T3, L3, k3, n3⟩, -, X3, ⟨Lc3, hQ3, l3, y3, z3⟩, st3⟩ := X2.virtualBack hx (y := Y27) (z := Y27) hown (mvT hZ (ww hw 84 rfl)) (mvT hZ (ww hw 85 rfl)) (notFace_of_selects (args := #[]) (mvT hZ (ww hw 87 rfl))) (mvT hZ (ww hw 87 rfl)) (mvT hZ (ww hw 86 rfl)) (by decide) (backOf (W := 0) (hix []) hZ (ww hw 88 rfl) (ww hw 15 rfl) (by decide) (by decide)) qa3 qc3 (g := (mkF m 26 #[vr sa, vi (0 : Int32)] [xi (f 0), xr al])) rfl (by rw [hml]; rfl) (Steps.refl _) (argsL := [xi (f 0)]) (rest := []) (lenOf pd0 rfl) rfl (by show 2 * 0 + _ ≤ _; exact Nat.le_of_eq rfl) (hb hby d11_26) (fun _ _ => ⟨rfl, e2, (by decide : 2 + 0 ≤ _), (by decide : 148 + 0 ≤ _)⟩)
  dsimp only [Pt.U, Pt.locs, Pt.cells, Pt.slots] at X3 l3 y3 z3 st3 hQ3
  subst l3 y3 z3
  obtain ⟨rfl, Nq3, e3⟩ := hQ3
  have N3 := Fr.app N2 Nq3
  obtain ⟨fs, hr, hrun, hended, hW, hsame⟩ := X3.leave (v := some (xi (0 : Int32))) (fun h => by rw [Bd.returns] at h; cases h)
  have hend := hSC.ended hW (show kC ≤ _ by show kC ≤ T3.heap.size; rw [e3]; exact hkC) hsame
  have hq := hCr.trans (CHv.at (s := s) (vm0 := TC.vm) X3 hZ (own_EW hw) hCr.1)
  refine ⟨_, _, pre0 _ ?_, hrun, hended, _, _, rfl, ?_, ?_, ⟨_, rfl⟩, hend.1, hend.2.1, hend.2.2.mono (by decide) (by decide)⟩
  · show own_S p e below s₁ (mkF m 0 #[vr sa, vu] []) _
    refine XS.aloadN X0.here hx rfl (hb hby d11_0) rfl rfl ?_
    show own_S p e below s₁ (mkF m 1 #[vr sa, vu] [xr sa]) _
    refine st1.trans ?_
    refine XS.bipush X1.here hx rfl (hb hby d11_4) ?_
    show own_S p e below T1 (mkF m 6 #[vr sa, vu] [xi (44 : Int32), xi (Int32.ofNat 44)]) _
    refine XS.icmpYes X1.here hx rfl (pc0 := 6) (pc' := 11) rfl (hb hby d11_6) rfl (by decide) (by decide) (by decide) ?_
    refine XS.iconst X1.here hx rfl (hb hby d11_11) ?_
    refine XS.istoreN X1.here hx rfl (hb hby d11_12) rfl (l' := #[vr sa, vi (0 : Int32)]) rfl ?_
    refine XS.iloadN X1.here hx rfl (hb hby d11_13) rfl ?_
    show own_S p e below T1 (mkF m 14 #[vr sa, vi (0 : Int32)] [xi (0 : Int32)]) _
    refine XS.bipush X1.here hx rfl (hb hby d11_14) ?_
    show own_S p e below T1 (mkF m 16 #[vr sa, vi (0 : Int32)] [xi (44 : Int32), xi (0 : Int32)]) _
    refine XS.icmpNo X1.here hx rfl (hb hby d11_16) rfl (by decide) ?_
    show own_S p e below T1 (mkF m 19 #[vr sa, vi (0 : Int32)] []) _
    refine stC _ ?_
    refine XS.aloadN XC.here hx rfl (hb hby d11_21) rfl rfl ?_
    refine XS.iloadN XC.here hx rfl (hb hby d11_22) rfl ?_
    show own_S p e below TC (mkF m 23 #[vr sa, vi (0 : Int32)] [xi (0 : Int32), xr sa, xr al]) _
    refine st2.trans ?_
    show own_S p e below T2 (mkF m 26 #[vr sa, vi (0 : Int32)] [xi (f 0), xr al]) _
    refine st3.trans ?_
    show own_S p e below T3 (mkF m 29 #[vr sa, vi (0 : Int32)] [xi rr]) _
    refine XS.ifNo X3.here hx rfl (hb hby d11_29) rfl (hrr.2 hno) ?_
    refine XS.iconst X3.here hx rfl (hb hby d11_32) ?_
    show own_S p e below T3 (mkF m 33 #[vr sa, vi (0 : Int32)] [xi (0 : Int32)]) _
    exact retN X3 hx (t := .boolean) Bd.returns (by simp) (hb hby d11_33) hr
  · exact ⟨rfl, N3⟩
  · show CHr Z own_EL s.vm s.heap T3.vm T3.heap
    rw [hh, e3]; exact hq
theorem ef_own_wf1C (m : MethodId)  (ki0 : Int32) (vf0 : Value) (sa : Addr) (b : Addr) (kd : ClassId) (f : Nat → Int32) (mm : Nat) : entryFrame m #[xr sa] 2 = (mkF m 0 #[vr sa, vu] []) := by first | (simp [entryFrame, mkF, argsToLocals, Value.category]; done) | rfl
set_option maxRecDepth 65536 in
set_option maxHeartbeats 40000000 in
theorem own_wf1C (l : Launch) (Z : State) (a0 : Array Value) (hw : ∀ d ∈ tables_1, d.before a0 Z = true) (hj : ∀ d ∈ jdkStatics_1, d.before a0 Z = true)  (ki0 : Int32) (vf0 : Value) (G : own_St Z hj ki0 vf0) (sa : Addr) (b : Addr) (kd : ClassId) (f : Nat → Int32) (mm : Nat) (h0 : Heap) (n0 : Nat) (O0 : Old Z n0 h0) (gS : own_SS Z h0 sa b kd (2 * 44) (1 : Int32) (own_u16 f)) (hch : ∀ j, j < 44 → 0 ≤ (f j).toInt ∧ (f j).toInt < 65536) (hm0 : 0 < mm) (hlt : mm < 44) (hall : ∀ j, j < mm → own_ok (f j)) (hno : ¬ own_ok (f mm)) : own_MetW l Z Y28 prog_12_method_2_code 2 (some .boolean) ({ frames := 6, cells := 2, slots := 148, locals := 100 } : Room) #[xr sa] h0 (own_QL (some (xi (0 : Int32))) n0) := by
  intro ws
  refine MetFree.of_bodySF (plainFor_of_name pn7) hisR ?_
  intro p e s m args below meth c s₁ Bd hml0 hP hK
  obtain ⟨rfl, hZ, hh, hCH⟩ := hP
  have hx := Bd.exec
  have hby := Bd.bytes
  have hml : c.maxLocals = 2 := hml0
  have hown : s.vm.findClass "com/example/scopelock/scopelock/Key" = some m.cls := findClass_of_methodNamed Bd.named
  have hnm := (name_of_methodNamed Bd.named Bd.method).1
  have X0 : Stand p l e ({ frames := 6, cells := 2, slots := 148, locals := 100 } : Room) s m #[xr sa] below meth c s₁ [] 0 0 := Stand.of_body Bd
  have e0 : s₁.heap = h0 := by rw [← hh, Bd.state]; rfl
  have N0 := Fr.nil n0
  have pre0 : ∀ t, Steps p.tables e below (s₁.setTop (mkF m 0 #[vr sa, vu] [])) t → Steps p.tables e below (s₁.setTop (entryFrame m #[xr sa] 2)) t := fun t st => castTop (ef_own_wf1C m ki0 vf0 sa b kd f mm) st
  obtain ⟨EA, FC, FV, VB⟩ := id gS
  obtain ⟨cq1, kq1, qa1, qb1, qc1⟩ := isOf hZ e0 EA
  obtain ⟨_, _, ⟨T1, L1, k1, n1⟩, -, X1, ⟨Lc1, hQ1, l1, y1, z1⟩, st1⟩ := X0.virtualBack hx (y := Y13) (z := Y13) hown (mvT hZ (ww hw 49 rfl)) (mvT hZ (ww hw 50 rfl)) (notFace_of_selects (args := #[]) (mvT hZ (ww hw 52 rfl))) (mvT hZ (ww hw 52 rfl)) (mvT hZ (ww hw 51 rfl)) (by decide) (backOf (W := 0) (own_length1 l Z a0 hw hj ki0 vf0 G sa b kd 44 (own_u16 f) h0 n0 O0 (by decide) ⟨EA, FC, FV, VB⟩ []) hZ (ww hw 53 rfl) (ww hw 15 rfl) (by decide) (by decide)) qa1 qc1 (g := (mkF m 1 #[vr sa, vu] [xr sa])) rfl (by rw [hml]; rfl) (Steps.refl _) (argsL := []) (rest := []) (lenOf pd17 rfl) rfl (by show 2 * 0 + _ ≤ _; exact Nat.le_of_eq rfl) (hb hby d11_1) (fun _ _ => ⟨rfl, e0, (by decide : 0 + 0 ≤ _), (by decide : 0 + 0 ≤ _)⟩)
  dsimp only [Pt.U, Pt.locs, Pt.cells, Pt.slots] at X1 l1 y1 z1 st1 hQ1
  subst l1 y1 z1
  obtain ⟨rfl, Nq1, e1⟩ := hQ1
  have N1 := Fr.app N0 Nq1
  obtain ⟨al, TC, hC, kC, bl, kl, XC, eC, EC, hSC, hkC, hZC, hownC, ExA, FcA, FvA, VaA, -, -, hCr, hLit, -, stC⟩ := ldcCH (s := s) (vm0 := s.vm) X1 hx hZ hown (ww hw 59 rfl) (own_strat hw hj) e1 ((State.WarmedH.refl s).since h0.size) (Nat.le_refl _) (own_EW hw) (List.mem_of_getElem? (i := 0) rfl) hCH (vs := own_vs own_al 36) (z := Int32.ofNat 36) own_t1 (by decide) (by decide) (g := (mkF m 19 #[vr sa, vi (0 : Int32)] [])) rfl (hb hby d11_19) (n := 144) own_t2 (by decide) (by decide) (by decide)
  have hZ0 := hZ
  have hZ := hZC
  have hown := hownC
  have OC := O0.ext EC
  have V_b_C := VB.ext EC
  have X_sa_C := EA.ext EC
  have F_sa_value_C := FV.ext EC
  have F_sa_coder_C := FC.ext EC
  obtain ⟨cq2, kq2, qa2, qb2, qc2⟩ := isOf hZ eC X_sa_C
  obtain ⟨_, _, ⟨T2, L2, k2, n2⟩, -, X2, ⟨Lc2, hQ2, l2, y2, z2⟩, st2⟩ := XC.virtualBack hx (y := Y20) (z := Y20) hown (mvT hZ (ww hw 62 rfl)) (mvT hZ (ww hw 63 rfl)) (notFace_of_selects (args := #[]) (mvT hZ (ww hw 65 rfl))) (mvT hZ (ww hw 65 rfl)) (mvT hZ (ww hw 64 rfl)) (by decide) (backOf (W := 1) (own_charAt1 l Z a0 hw hj ki0 vf0 G sa b kd 0 44 f hC n0 OC (by decide) ⟨X_sa_C, F_sa_coder_C, F_sa_value_C, V_b_C⟩ (by decide) (hch 0 (by decide)) []) hZ (ww hw 66 rfl) (ww hw 15 rfl) (by decide) (by decide)) qa2 qc2 (g := (mkF m 23 #[vr sa, vi (0 : Int32)] [xi (0 : Int32), xr sa, xr al])) rfl (by rw [hml]; rfl) (Steps.refl _) (argsL := [xi (0 : Int32)]) (rest := [xr al]) (lenOf pd18 rfl) rfl (by show 2 * 0 + _ ≤ _; exact Nat.le_of_eq rfl) (hb hby d11_23) (fun _ _ => ⟨rfl, eC, (by decide : 2 + 0 ≤ _), (by decide : 148 + 0 ≤ _)⟩)
  dsimp only [Pt.U, Pt.locs, Pt.cells, Pt.slots] at X2 l2 y2 z2 st2 hQ2
  subst l2 y2 z2
  obtain ⟨rfl, Nq2, e2⟩ := hQ2
  have N2 := Fr.app N1 Nq2
  obtain ⟨rr, hrr, hix⟩ := own_indexOf l Z a0 hw hj ki0 vf0 G al bl kl (f 0) (hch 0 (by decide)).1 (by have := (hch 0 (by decide)).2; omega) hC n0 OC ⟨ExA, FcA, FvA, VaA⟩
  obtain ⟨cq3, kq3, qa3, qb3, qc3⟩ := isOf hZ e2 ExA
  obtain ⟨_, _, ⟨T3, L3, k3, n3⟩, -, X3, ⟨Lc3, hQ3, l3, y3, z3⟩, st3⟩ := X2.virtualBack hx (y := Y27) (z := Y27) hown (mvT hZ (ww hw 84 rfl)) (mvT hZ (ww hw 85 rfl)) (notFace_of_selects (args := #[]) (mvT hZ (ww hw 87 rfl))) (mvT hZ (ww hw 87 rfl)) (mvT hZ (ww hw 86 rfl)) (by decide) (backOf (W := 0) (hix []) hZ (ww hw 88 rfl) (ww hw 15 rfl) (by decide) (by decide)) qa3 qc3 (g := (mkF m 26 #[vr sa, vi (0 : Int32)] [xi (f 0), xr al])) rfl (by rw [hml]; rfl) (Steps.refl _) (argsL := [xi (f 0)]) (rest := []) (lenOf pd0 rfl) rfl (by show 2 * 0 + _ ≤ _; exact Nat.le_of_eq rfl) (hb hby d11_26) (fun _ _ => ⟨rfl, e2, (by decide : 2 + 0 ≤ _), (by decide : 148 + 0 ≤ _)⟩)
  dsimp only [Pt.U, Pt.locs, Pt.cells, Pt.slots] at X3 l3 y3 z3 st3 hQ3
  subst l3 y3 z3
  obtain ⟨rfl, Nq3, e3⟩ := hQ3
  have N3 := Fr.app N2 Nq3
  obtain ⟨TL, LL, XL, eL, NL, stL⟩ := own_wf_loop1 hw hj ki0 vf0 G sa b kd f al bl kl hx hZ hby hml hown n0 hC OC ⟨X_sa_C, F_sa_coder_C, F_sa_value_C, V_b_C⟩ hch ⟨ExA, FcA, FvA, VaA⟩ hLit (mm - 1) 1 T3 _ X3 e3 N3 (by omega) (fun j _ h => hall j (by omega))
  rw [show 1 + (mm - 1) = mm from by omega] at stL
  obtain ⟨cq4, kq4, qa4, qb4, qc4⟩ := isOf hZ eL X_sa_C
  obtain ⟨_, _, ⟨T4, L4, k4, n4⟩, -, X4, ⟨Lc4, hQ4, l4, y4, z4⟩, st4⟩ := XL.virtualBack hx (y := Y20) (z := Y20) hown (mvT hZ (ww hw 62 rfl)) (mvT hZ (ww hw 63 rfl)) (notFace_of_selects (args := #[]) (mvT hZ (ww hw 65 rfl))) (mvT hZ (ww hw 65 rfl)) (mvT hZ (ww hw 64 rfl)) (by decide) (backOf (W := 1) (own_charAt1 l Z a0 hw hj ki0 vf0 G sa b kd mm 44 f hC n0 OC (by decide) ⟨X_sa_C, F_sa_coder_C, F_sa_value_C, V_b_C⟩ hlt (hch mm hlt) []) hZ (ww hw 66 rfl) (ww hw 15 rfl) (by decide) (by decide)) qa4 qc4 (g := (mkF m 23 #[vr sa, vi (Int32.ofNat mm)] [xi (Int32.ofNat mm), xr sa, xr al])) rfl (by rw [hml]; rfl) (Steps.refl _) (argsL := [xi (Int32.ofNat mm)]) (rest := [xr al]) (lenOf pd18 rfl) rfl (by show 2 * 0 + _ ≤ _; exact Nat.le_of_eq rfl) (hb hby d11_23) (fun _ _ => ⟨rfl, eL, (by decide : 2 + 0 ≤ _), (by decide : 148 + 0 ≤ _)⟩)
  dsimp only [Pt.U, Pt.locs, Pt.cells, Pt.slots] at X4 l4 y4 z4 st4 hQ4
  subst l4 y4 z4
  obtain ⟨rfl, Nq4, e4⟩ := hQ4
  have N4 := Fr.app NL Nq4
  obtain ⟨rr2, hrr2, hix2⟩ := own_indexOf l Z a0 hw hj ki0 vf0 G al bl kl (f mm) (hch mm hlt).1 (by have := (hch mm hlt).2; omega) hC n0 OC ⟨ExA, FcA, FvA, VaA⟩
  obtain ⟨cq5, kq5, qa5, qb5, qc5⟩ := isOf hZ e4 ExA
  obtain ⟨_, _, ⟨T5, L5, k5, n5⟩, -, X5, ⟨Lc5, hQ5, l5, y5, z5⟩, st5⟩ := X4.virtualBack hx (y := Y27) (z := Y27) hown (mvT hZ (ww hw 84 rfl)) (mvT hZ (ww hw 85 rfl)) (notFace_of_selects (args := #[]) (mvT hZ (ww hw 87 rfl))) (mvT hZ (ww hw 87 rfl)) (mvT hZ (ww hw 86 rfl)) (by decide) (backOf (W := 0) (hix2 []) hZ (ww hw 88 rfl) (ww hw 15 rfl) (by decide) (by decide)) qa5 qc5 (g := (mkF m 26 #[vr sa, vi (Int32.ofNat mm)] [xi (f mm), xr al])) rfl (by rw [hml]; rfl) (Steps.refl _) (argsL := [xi (f mm)]) (rest := []) (lenOf pd0 rfl) rfl (by show 2 * 0 + _ ≤ _; exact Nat.le_of_eq rfl) (hb hby d11_26) (fun _ _ => ⟨rfl, e4, (by decide : 2 + 0 ≤ _), (by decide : 148 + 0 ≤ _)⟩)
  dsimp only [Pt.U, Pt.locs, Pt.cells, Pt.slots] at X5 l5 y5 z5 st5 hQ5
  subst l5 y5 z5
  obtain ⟨rfl, Nq5, e5⟩ := hQ5
  have N5 := Fr.app N4 Nq5
  obtain ⟨fs, hr, hrun, hended, hW, hsame⟩ := X5.leave (v := some (xi (0 : Int32))) (fun h => by rw [Bd.returns] at h; cases h)
  have hend := hSC.ended hW (show kC ≤ _ by show kC ≤ T5.heap.size; rw [e5]; exact hkC) hsame
  have hq := hCr.trans (CHv.at (s := s) (vm0 := TC.vm) X5 hZ (own_EW hw) hCr.1)
  refine ⟨_, _, pre0 _ ?_, hrun, hended, _, _, rfl, ?_, ?_, ⟨_, rfl⟩, hend.1, hend.2.1, hend.2.2.mono (by decide) (by decide)⟩
  · show own_S p e below s₁ (mkF m 0 #[vr sa, vu] []) _
    refine XS.aloadN X0.here hx rfl (hb hby d11_0) rfl rfl ?_
    show own_S p e below s₁ (mkF m 1 #[vr sa, vu] [xr sa]) _
    refine st1.trans ?_
    refine XS.bipush X1.here hx rfl (hb hby d11_4) ?_
    show own_S p e below T1 (mkF m 6 #[vr sa, vu] [xi (44 : Int32), xi (Int32.ofNat 44)]) _
    refine XS.icmpYes X1.here hx rfl (pc0 := 6) (pc' := 11) rfl (hb hby d11_6) rfl (by decide) (by decide) (by decide) ?_
    refine XS.iconst X1.here hx rfl (hb hby d11_11) ?_
    refine XS.istoreN X1.here hx rfl (hb hby d11_12) rfl (l' := #[vr sa, vi (0 : Int32)]) rfl ?_
    refine XS.iloadN X1.here hx rfl (hb hby d11_13) rfl ?_
    show own_S p e below T1 (mkF m 14 #[vr sa, vi (0 : Int32)] [xi (0 : Int32)]) _
    refine XS.bipush X1.here hx rfl (hb hby d11_14) ?_
    show own_S p e below T1 (mkF m 16 #[vr sa, vi (0 : Int32)] [xi (44 : Int32), xi (0 : Int32)]) _
    refine XS.icmpNo X1.here hx rfl (hb hby d11_16) rfl (by decide) ?_
    show own_S p e below T1 (mkF m 19 #[vr sa, vi (0 : Int32)] []) _
    refine stC _ ?_
    refine XS.aloadN XC.here hx rfl (hb hby d11_21) rfl rfl ?_
    refine XS.iloadN XC.here hx rfl (hb hby d11_22) rfl ?_
    show own_S p e below TC (mkF m 23 #[vr sa, vi (0 : Int32)] [xi (0 : Int32), xr sa, xr al]) _
    refine st2.trans ?_
    show own_S p e below T2 (mkF m 26 #[vr sa, vi (0 : Int32)] [xi (f 0), xr al]) _
    refine st3.trans ?_
    show own_S p e below T3 (mkF m 29 #[vr sa, vi (0 : Int32)] [xi rr]) _
    refine XS.ifYes X3.here hx rfl (pc0 := 29) (pc' := 34) rfl (hb hby d11_29) rfl (hrr.1 (hall 0 (by omega))) (by decide) (by decide) ?_
    show own_S p e below T3 (mkF m 34 #[vr sa, vi (0 : Int32)] []) _
    refine XS.iinc X3.here hx rfl (hb hby d11_34) rfl (l' := #[vr sa, vi ((0 : Int32) + (1 : Int32))]) rfl ?_
    refine castTop (show (mkF m 37 #[vr sa, vi ((0 : Int32) + (1 : Int32))] []) = (mkF m 37 #[vr sa, vi (1 : Int32)] []) from by rw [show ((0 : Int32) + (1 : Int32)) = (1 : Int32) from by decide]) ?_
    refine XS.goto X3.here hx rfl (pc0 := 37) (pc' := 13) rfl (hb hby d11_37) (by decide) (by decide) ?_
    refine stL _ ?_
    refine XS.iloadN XL.here hx rfl (hb hby d11_13) rfl ?_
    refine XS.bipush XL.here hx rfl (hb hby d11_14) ?_
    show own_S p e below TL (mkF m 16 #[vr sa, vi (Int32.ofNat mm)] [xi (44 : Int32), xi (Int32.ofNat mm)]) _
    refine XS.icmpNo XL.here hx rfl (hb hby d11_16) rfl (tlt (own_in (N := 44) hlt (by decide)).2).2.1 ?_
    show own_S p e below TL (mkF m 19 #[vr sa, vi (Int32.ofNat mm)] []) _
    refine ldcAgain (s := s) (vm0 := TC.vm) XL hx hZ hown (ww hw 59 rfl) hLit (g := (mkF m 19 #[vr sa, vi (Int32.ofNat mm)] [])) rfl (hb hby d11_19) _ ?_
    refine XS.aloadN XL.here hx rfl (hb hby d11_21) rfl rfl ?_
    refine XS.iloadN XL.here hx rfl (hb hby d11_22) rfl ?_
    show own_S p e below TL (mkF m 23 #[vr sa, vi (Int32.ofNat mm)] [xi (Int32.ofNat mm), xr sa, xr al]) _
    refine st4.trans ?_
    show own_S p e below T4 (mkF m 26 #[vr sa, vi (Int32.ofNat mm)] [xi (f mm), xr al]) _
    refine st5.trans ?_
    show own_S p e below T5 (mkF m 29 #[vr sa, vi (Int32.ofNat mm)] [xi rr2]) _
    refine XS.ifNo X5.here hx rfl (hb hby d11_29) rfl (hrr2.2 hno) ?_
    refine XS.iconst X5.here hx rfl (hb hby d11_32) ?_
    show own_S p e below T5 (mkF m 33 #[vr sa, vi (Int32.ofNat mm)] [xi (0 : Int32)]) _
    exact retN X5 hx (t := .boolean) Bd.returns (by simp) (hb hby d11_33) hr
  · exact ⟨rfl, N5⟩
  · show CHr Z own_EL s.vm s.heap T5.vm T5.heap
    rw [hh, e5]; exact hq
theorem own_ne44 {N : Nat} (h : N ≤ 45) (hne : ¬ N = 44) : if_icmp.holds .eq (Int32.ofNat N) (44 : Int32) = false := by
  refine (feq (fun e => hne ?_)).1
  have := congrArg Int32.toInt e
  rw [own_toInt (by omega)] at this; have t : ((44 : Int32)).toInt = 44 := by decide
  omega
theorem d11_9 : decode prog_12_method_2_code 9 = .ok (.iconst 0, 1) := by decide +kernel
theorem d11_10 : decode prog_12_method_2_code 10 = .ok (.ireturn, 1) := by decide +kernel
theorem ef_own_wfs0 (m : MethodId)  (ki0 : Int32) (vf0 : Value) (sa : Addr) (b : Addr) (kd : ClassId) (N : Nat) (g : Nat → Int32) : entryFrame m #[xr sa] 2 = (mkF m 0 #[vr sa, vu] []) := by first | (simp [entryFrame, mkF, argsToLocals, Value.category]; done) | rfl
set_option maxRecDepth 65536 in
set_option maxHeartbeats 40000000 in
theorem own_wfs0 (l : Launch) (Z : State) (a0 : Array Value) (hw : ∀ d ∈ tables_1, d.before a0 Z = true) (hj : ∀ d ∈ jdkStatics_1, d.before a0 Z = true)  (ki0 : Int32) (vf0 : Value) (G : own_St Z hj ki0 vf0) (sa : Addr) (b : Addr) (kd : ClassId) (N : Nat) (g : Nat → Int32) (h0 : Heap) (n0 : Nat) (O0 : Old Z n0 h0) (hM : N < 2147483648) (gS : own_SS Z h0 sa b kd N (0 : Int32) g) (hN : N ≤ 45) (hne : ¬ N = 44) : own_Met l Z Y28 prog_12_method_2_code 2 (some .boolean) ({ frames := 2, cells := 0, slots := 0, locals := 25 } : Room) #[xr sa] h0 (own_QR (some (xi (0 : Int32))) h0 n0) := by
  intro ws
  refine MetFree.of_bodySF (plainFor_of_name pn7) hisR ?_
  intro p e s m args below meth c s₁ Bd hml0 hP hK
  obtain ⟨rfl, hZ, hh⟩ := hP
  have hx := Bd.exec
  have hby := Bd.bytes
  have hml : c.maxLocals = 2 := hml0
  have hown : s.vm.findClass "com/example/scopelock/scopelock/Key" = some m.cls := findClass_of_methodNamed Bd.named
  have hnm := (name_of_methodNamed Bd.named Bd.method).1
  have X0 : Stand p l e ({ frames := 2, cells := 0, slots := 0, locals := 25 } : Room) s m #[xr sa] below meth c s₁ [] 0 0 := Stand.of_body Bd
  have e0 : s₁.heap = h0 := by rw [← hh, Bd.state]; rfl
  have N0 := Fr.nil n0
  have pre0 : ∀ t, Steps p.tables e below (s₁.setTop (mkF m 0 #[vr sa, vu] [])) t → Steps p.tables e below (s₁.setTop (entryFrame m #[xr sa] 2)) t := fun t st => castTop (ef_own_wfs0 m ki0 vf0 sa b kd N g) st
  obtain ⟨EA, FC, FV, VB⟩ := id gS
  obtain ⟨cq1, kq1, qa1, qb1, qc1⟩ := isOf hZ e0 EA
  obtain ⟨_, _, ⟨T1, L1, k1, n1⟩, -, X1, ⟨Lc1, hQ1, l1, y1, z1⟩, st1⟩ := X0.virtualBack hx (y := Y13) (z := Y13) hown (mvT hZ (ww hw 49 rfl)) (mvT hZ (ww hw 50 rfl)) (notFace_of_selects (args := #[]) (mvT hZ (ww hw 52 rfl))) (mvT hZ (ww hw 52 rfl)) (mvT hZ (ww hw 51 rfl)) (by decide) (backOf (W := 0) (own_length0 l Z a0 hw hj ki0 vf0 G sa b kd N g h0 n0 O0 hM ⟨EA, FC, FV, VB⟩ []) hZ (ww hw 53 rfl) (ww hw 15 rfl) (by decide) (by decide)) qa1 qc1 (g := (mkF m 1 #[vr sa, vu] [xr sa])) rfl (by rw [hml]; rfl) (Steps.refl _) (argsL := []) (rest := []) (lenOf pd17 rfl) rfl (by show 2 * 0 + _ ≤ _; exact Nat.le_of_eq rfl) (hb hby d11_1) (fun _ _ => ⟨rfl, e0, (by decide : 0 + 0 ≤ _), (by decide : 0 + 0 ≤ _)⟩)
  dsimp only [Pt.U, Pt.locs, Pt.cells, Pt.slots] at X1 l1 y1 z1 st1 hQ1
  subst l1 y1 z1
  obtain ⟨rfl, Nq1, e1⟩ := hQ1
  have N1 := Fr.app N0 Nq1
  obtain ⟨fs, hr, hrun, hended, hW, hsame⟩ := X1.leave (v := some (xi (0 : Int32))) (fun h => by rw [Bd.returns] at h; cases h)
  refine ⟨_, _, pre0 _ ?_, hrun, hended, _, _, rfl, ?_, ⟨_, rfl⟩, hW, hsame.mono (by decide) (by decide)⟩
  · show own_S p e below s₁ (mkF m 0 #[vr sa, vu] []) _
    refine XS.aloadN X0.here hx rfl (hb hby d11_0) rfl rfl ?_
    show own_S p e below s₁ (mkF m 1 #[vr sa, vu] [xr sa]) _
    refine st1.trans ?_
    refine XS.bipush X1.here hx rfl (hb hby d11_4) ?_
    show own_S p e below T1 (mkF m 6 #[vr sa, vu] [xi (44 : Int32), xi (Int32.ofNat N)]) _
    refine XS.icmpNo X1.here hx rfl (hb hby d11_6) rfl (own_ne44 hN hne) ?_
    refine XS.iconst X1.here hx rfl (hb hby d11_9) ?_
    show own_S p e below T1 (mkF m 10 #[vr sa, vu] [xi (0 : Int32)]) _
    exact retN X1 hx (t := .boolean) Bd.returns (by simp) (hb hby d11_10) hr
  · exact ⟨rfl, N1, e1⟩
theorem ef_own_wfs1 (m : MethodId)  (ki0 : Int32) (vf0 : Value) (sa : Addr) (b : Addr) (kd : ClassId) (N : Nat) (g : Nat → Int32) : entryFrame m #[xr sa] 2 = (mkF m 0 #[vr sa, vu] []) := by first | (simp [entryFrame, mkF, argsToLocals, Value.category]; done) | rfl
set_option maxRecDepth 65536 in
set_option maxHeartbeats 40000000 in
theorem own_wfs1 (l : Launch) (Z : State) (a0 : Array Value) (hw : ∀ d ∈ tables_1, d.before a0 Z = true) (hj : ∀ d ∈ jdkStatics_1, d.before a0 Z = true)  (ki0 : Int32) (vf0 : Value) (G : own_St Z hj ki0 vf0) (sa : Addr) (b : Addr) (kd : ClassId) (N : Nat) (g : Nat → Int32) (h0 : Heap) (n0 : Nat) (O0 : Old Z n0 h0) (hM : (2 * N) < 2147483648) (gS : own_SS Z h0 sa b kd (2 * N) (1 : Int32) g) (hN : N ≤ 45) (hne : ¬ N = 44) : own_Met l Z Y28 prog_12_method_2_code 2 (some .boolean) ({ frames := 2, cells := 0, slots := 0, locals := 25 } : Room) #[xr sa] h0 (own_QR (some (xi (0 : Int32))) h0 n0) := by
  intro ws
  refine MetFree.of_bodySF (plainFor_of_name pn7) hisR ?_
  intro p e s m args below meth c s₁ Bd hml0 hP hK
  obtain ⟨rfl, hZ, hh⟩ := hP
  have hx := Bd.exec
  have hby := Bd.bytes
  have hml : c.maxLocals = 2 := hml0
  have hown : s.vm.findClass "com/example/scopelock/scopelock/Key" = some m.cls := findClass_of_methodNamed Bd.named
  have hnm := (name_of_methodNamed Bd.named Bd.method).1
  have X0 : Stand p l e ({ frames := 2, cells := 0, slots := 0, locals := 25 } : Room) s m #[xr sa] below meth c s₁ [] 0 0 := Stand.of_body Bd
  have e0 : s₁.heap = h0 := by rw [← hh, Bd.state]; rfl
  have N0 := Fr.nil n0
  have pre0 : ∀ t, Steps p.tables e below (s₁.setTop (mkF m 0 #[vr sa, vu] [])) t → Steps p.tables e below (s₁.setTop (entryFrame m #[xr sa] 2)) t := fun t st => castTop (ef_own_wfs1 m ki0 vf0 sa b kd N g) st
  obtain ⟨EA, FC, FV, VB⟩ := id gS
  obtain ⟨cq1, kq1, qa1, qb1, qc1⟩ := isOf hZ e0 EA
  obtain ⟨_, _, ⟨T1, L1, k1, n1⟩, -, X1, ⟨Lc1, hQ1, l1, y1, z1⟩, st1⟩ := X0.virtualBack hx (y := Y13) (z := Y13) hown (mvT hZ (ww hw 49 rfl)) (mvT hZ (ww hw 50 rfl)) (notFace_of_selects (args := #[]) (mvT hZ (ww hw 52 rfl))) (mvT hZ (ww hw 52 rfl)) (mvT hZ (ww hw 51 rfl)) (by decide) (backOf (W := 0) (own_length1 l Z a0 hw hj ki0 vf0 G sa b kd N g h0 n0 O0 hM ⟨EA, FC, FV, VB⟩ []) hZ (ww hw 53 rfl) (ww hw 15 rfl) (by decide) (by decide)) qa1 qc1 (g := (mkF m 1 #[vr sa, vu] [xr sa])) rfl (by rw [hml]; rfl) (Steps.refl _) (argsL := []) (rest := []) (lenOf pd17 rfl) rfl (by show 2 * 0 + _ ≤ _; exact Nat.le_of_eq rfl) (hb hby d11_1) (fun _ _ => ⟨rfl, e0, (by decide : 0 + 0 ≤ _), (by decide : 0 + 0 ≤ _)⟩)
  dsimp only [Pt.U, Pt.locs, Pt.cells, Pt.slots] at X1 l1 y1 z1 st1 hQ1
  subst l1 y1 z1
  obtain ⟨rfl, Nq1, e1⟩ := hQ1
  have N1 := Fr.app N0 Nq1
  obtain ⟨fs, hr, hrun, hended, hW, hsame⟩ := X1.leave (v := some (xi (0 : Int32))) (fun h => by rw [Bd.returns] at h; cases h)
  refine ⟨_, _, pre0 _ ?_, hrun, hended, _, _, rfl, ?_, ⟨_, rfl⟩, hW, hsame.mono (by decide) (by decide)⟩
  · show own_S p e below s₁ (mkF m 0 #[vr sa, vu] []) _
    refine XS.aloadN X0.here hx rfl (hb hby d11_0) rfl rfl ?_
    show own_S p e below s₁ (mkF m 1 #[vr sa, vu] [xr sa]) _
    refine st1.trans ?_
    refine XS.bipush X1.here hx rfl (hb hby d11_4) ?_
    show own_S p e below T1 (mkF m 6 #[vr sa, vu] [xi (44 : Int32), xi (Int32.ofNat N)]) _
    refine XS.icmpNo X1.here hx rfl (hb hby d11_6) rfl (own_ne44 hN hne) ?_
    refine XS.iconst X1.here hx rfl (hb hby d11_9) ?_
    show own_S p e below T1 (mkF m 10 #[vr sa, vu] [xi (0 : Int32)]) _
    exact retN X1 hx (t := .boolean) Bd.returns (by simp) (hb hby d11_10) hr
  · exact ⟨rfl, N1, e1⟩
def own_QFl (Z : State) (h0 : Heap) (n0 : Nat) (N : Nat) (bb : Int32) (v : Option Value) (h : Heap) (L : List Loc) : Prop := ∃ b k, v = some (.ref b) ∧ Fr n0 L ∧ Keep h0 h [] ∧ Arv Z h b k .char (Int32.ofNat N) (own_vs (fun _ => nar .char bb) N) (.int (0 : Int32)) ∧ n0 ≤ b ∧ h0.size ≤ b
def own_fl (x : Value) (j n : Nat) : List Value := List.replicate j x ++ List.replicate (n - j) (.int (0 : Int32))
theorem d1_0 : decode method_3_code 0 = .ok (.bipush 43, 2) := by decide +kernel
theorem d1_2 : decode method_3_code 2 = .ok (.newarray .char, 2) := by decide +kernel
theorem d1_4 : decode method_3_code 4 = .ok (.dup, 1) := by decide +kernel
theorem d1_5 : decode method_3_code 5 = .ok (.iconst 0, 1) := by decide +kernel
theorem d1_6 : decode method_3_code 6 = .ok (.iload_n 0, 1) := by decide +kernel
theorem d1_7 : decode method_3_code 7 = .ok (.castore, 1) := by decide +kernel
theorem d1_8 : decode method_3_code 8 = .ok (.dup, 1) := by decide +kernel
theorem d1_9 : decode method_3_code 9 = .ok (.iconst 1, 1) := by decide +kernel
theorem d1_10 : decode method_3_code 10 = .ok (.iload_n 0, 1) := by decide +kernel
theorem d1_11 : decode method_3_code 11 = .ok (.castore, 1) := by decide +kernel
theorem d1_12 : decode method_3_code 12 = .ok (.dup, 1) := by decide +kernel
theorem d1_13 : decode method_3_code 13 = .ok (.iconst 2, 1) := by decide +kernel
theorem d1_14 : decode method_3_code 14 = .ok (.iload_n 0, 1) := by decide +kernel
theorem d1_15 : decode method_3_code 15 = .ok (.castore, 1) := by decide +kernel
theorem d1_16 : decode method_3_code 16 = .ok (.dup, 1) := by decide +kernel
theorem d1_17 : decode method_3_code 17 = .ok (.iconst 3, 1) := by decide +kernel
theorem d1_18 : decode method_3_code 18 = .ok (.iload_n 0, 1) := by decide +kernel
theorem d1_19 : decode method_3_code 19 = .ok (.castore, 1) := by decide +kernel
theorem d1_20 : decode method_3_code 20 = .ok (.dup, 1) := by decide +kernel
theorem d1_21 : decode method_3_code 21 = .ok (.iconst 4, 1) := by decide +kernel
theorem d1_22 : decode method_3_code 22 = .ok (.iload_n 0, 1) := by decide +kernel
theorem d1_23 : decode method_3_code 23 = .ok (.castore, 1) := by decide +kernel
theorem d1_24 : decode method_3_code 24 = .ok (.dup, 1) := by decide +kernel
theorem d1_25 : decode method_3_code 25 = .ok (.iconst 5, 1) := by decide +kernel
theorem d1_26 : decode method_3_code 26 = .ok (.iload_n 0, 1) := by decide +kernel
theorem d1_27 : decode method_3_code 27 = .ok (.castore, 1) := by decide +kernel
theorem d1_28 : decode method_3_code 28 = .ok (.dup, 1) := by decide +kernel
theorem d1_29 : decode method_3_code 29 = .ok (.bipush 6, 2) := by decide +kernel
theorem d1_31 : decode method_3_code 31 = .ok (.iload_n 0, 1) := by decide +kernel
theorem d1_32 : decode method_3_code 32 = .ok (.castore, 1) := by decide +kernel
theorem d1_33 : decode method_3_code 33 = .ok (.dup, 1) := by decide +kernel
theorem d1_34 : decode method_3_code 34 = .ok (.bipush 7, 2) := by decide +kernel
theorem d1_36 : decode method_3_code 36 = .ok (.iload_n 0, 1) := by decide +kernel
theorem d1_37 : decode method_3_code 37 = .ok (.castore, 1) := by decide +kernel
theorem d1_38 : decode method_3_code 38 = .ok (.dup, 1) := by decide +kernel
theorem d1_39 : decode method_3_code 39 = .ok (.bipush 8, 2) := by decide +kernel
theorem d1_41 : decode method_3_code 41 = .ok (.iload_n 0, 1) := by decide +kernel
theorem d1_42 : decode method_3_code 42 = .ok (.castore, 1) := by decide +kernel
theorem d1_43 : decode method_3_code 43 = .ok (.dup, 1) := by decide +kernel
theorem d1_44 : decode method_3_code 44 = .ok (.bipush 9, 2) := by decide +kernel
theorem d1_46 : decode method_3_code 46 = .ok (.iload_n 0, 1) := by decide +kernel
theorem d1_47 : decode method_3_code 47 = .ok (.castore, 1) := by decide +kernel
theorem d1_48 : decode method_3_code 48 = .ok (.dup, 1) := by decide +kernel
theorem d1_49 : decode method_3_code 49 = .ok (.bipush 10, 2) := by decide +kernel
theorem d1_51 : decode method_3_code 51 = .ok (.iload_n 0, 1) := by decide +kernel
theorem d1_52 : decode method_3_code 52 = .ok (.castore, 1) := by decide +kernel
theorem d1_53 : decode method_3_code 53 = .ok (.dup, 1) := by decide +kernel
theorem d1_54 : decode method_3_code 54 = .ok (.bipush 11, 2) := by decide +kernel
theorem d1_56 : decode method_3_code 56 = .ok (.iload_n 0, 1) := by decide +kernel
theorem d1_57 : decode method_3_code 57 = .ok (.castore, 1) := by decide +kernel
theorem d1_58 : decode method_3_code 58 = .ok (.dup, 1) := by decide +kernel
theorem d1_59 : decode method_3_code 59 = .ok (.bipush 12, 2) := by decide +kernel
theorem d1_61 : decode method_3_code 61 = .ok (.iload_n 0, 1) := by decide +kernel
theorem d1_62 : decode method_3_code 62 = .ok (.castore, 1) := by decide +kernel
theorem d1_63 : decode method_3_code 63 = .ok (.dup, 1) := by decide +kernel
theorem d1_64 : decode method_3_code 64 = .ok (.bipush 13, 2) := by decide +kernel
theorem d1_66 : decode method_3_code 66 = .ok (.iload_n 0, 1) := by decide +kernel
theorem d1_67 : decode method_3_code 67 = .ok (.castore, 1) := by decide +kernel
theorem d1_68 : decode method_3_code 68 = .ok (.dup, 1) := by decide +kernel
theorem d1_69 : decode method_3_code 69 = .ok (.bipush 14, 2) := by decide +kernel
theorem d1_71 : decode method_3_code 71 = .ok (.iload_n 0, 1) := by decide +kernel
theorem d1_72 : decode method_3_code 72 = .ok (.castore, 1) := by decide +kernel
theorem d1_73 : decode method_3_code 73 = .ok (.dup, 1) := by decide +kernel
theorem d1_74 : decode method_3_code 74 = .ok (.bipush 15, 2) := by decide +kernel
theorem d1_76 : decode method_3_code 76 = .ok (.iload_n 0, 1) := by decide +kernel
theorem d1_77 : decode method_3_code 77 = .ok (.castore, 1) := by decide +kernel
theorem d1_78 : decode method_3_code 78 = .ok (.dup, 1) := by decide +kernel
theorem d1_79 : decode method_3_code 79 = .ok (.bipush 16, 2) := by decide +kernel
theorem d1_81 : decode method_3_code 81 = .ok (.iload_n 0, 1) := by decide +kernel
theorem d1_82 : decode method_3_code 82 = .ok (.castore, 1) := by decide +kernel
theorem d1_83 : decode method_3_code 83 = .ok (.dup, 1) := by decide +kernel
theorem d1_84 : decode method_3_code 84 = .ok (.bipush 17, 2) := by decide +kernel
theorem d1_86 : decode method_3_code 86 = .ok (.iload_n 0, 1) := by decide +kernel
theorem d1_87 : decode method_3_code 87 = .ok (.castore, 1) := by decide +kernel
theorem d1_88 : decode method_3_code 88 = .ok (.dup, 1) := by decide +kernel
theorem d1_89 : decode method_3_code 89 = .ok (.bipush 18, 2) := by decide +kernel
theorem d1_91 : decode method_3_code 91 = .ok (.iload_n 0, 1) := by decide +kernel
theorem d1_92 : decode method_3_code 92 = .ok (.castore, 1) := by decide +kernel
theorem d1_93 : decode method_3_code 93 = .ok (.dup, 1) := by decide +kernel
theorem d1_94 : decode method_3_code 94 = .ok (.bipush 19, 2) := by decide +kernel
theorem d1_96 : decode method_3_code 96 = .ok (.iload_n 0, 1) := by decide +kernel
theorem d1_97 : decode method_3_code 97 = .ok (.castore, 1) := by decide +kernel
theorem d1_98 : decode method_3_code 98 = .ok (.dup, 1) := by decide +kernel
theorem d1_99 : decode method_3_code 99 = .ok (.bipush 20, 2) := by decide +kernel
theorem d1_101 : decode method_3_code 101 = .ok (.iload_n 0, 1) := by decide +kernel
theorem d1_102 : decode method_3_code 102 = .ok (.castore, 1) := by decide +kernel
theorem d1_103 : decode method_3_code 103 = .ok (.dup, 1) := by decide +kernel
theorem d1_104 : decode method_3_code 104 = .ok (.bipush 21, 2) := by decide +kernel
theorem d1_106 : decode method_3_code 106 = .ok (.iload_n 0, 1) := by decide +kernel
theorem d1_107 : decode method_3_code 107 = .ok (.castore, 1) := by decide +kernel
theorem d1_108 : decode method_3_code 108 = .ok (.dup, 1) := by decide +kernel
theorem d1_109 : decode method_3_code 109 = .ok (.bipush 22, 2) := by decide +kernel
theorem d1_111 : decode method_3_code 111 = .ok (.iload_n 0, 1) := by decide +kernel
theorem d1_112 : decode method_3_code 112 = .ok (.castore, 1) := by decide +kernel
theorem d1_113 : decode method_3_code 113 = .ok (.dup, 1) := by decide +kernel
theorem d1_114 : decode method_3_code 114 = .ok (.bipush 23, 2) := by decide +kernel
theorem d1_116 : decode method_3_code 116 = .ok (.iload_n 0, 1) := by decide +kernel
theorem d1_117 : decode method_3_code 117 = .ok (.castore, 1) := by decide +kernel
theorem d1_118 : decode method_3_code 118 = .ok (.dup, 1) := by decide +kernel
theorem d1_119 : decode method_3_code 119 = .ok (.bipush 24, 2) := by decide +kernel
theorem d1_121 : decode method_3_code 121 = .ok (.iload_n 0, 1) := by decide +kernel
theorem d1_122 : decode method_3_code 122 = .ok (.castore, 1) := by decide +kernel
theorem d1_123 : decode method_3_code 123 = .ok (.dup, 1) := by decide +kernel
theorem d1_124 : decode method_3_code 124 = .ok (.bipush 25, 2) := by decide +kernel
theorem d1_126 : decode method_3_code 126 = .ok (.iload_n 0, 1) := by decide +kernel
theorem d1_127 : decode method_3_code 127 = .ok (.castore, 1) := by decide +kernel
theorem d1_128 : decode method_3_code 128 = .ok (.dup, 1) := by decide +kernel
theorem d1_129 : decode method_3_code 129 = .ok (.bipush 26, 2) := by decide +kernel
theorem d1_131 : decode method_3_code 131 = .ok (.iload_n 0, 1) := by decide +kernel
theorem d1_132 : decode method_3_code 132 = .ok (.castore, 1) := by decide +kernel
theorem d1_133 : decode method_3_code 133 = .ok (.dup, 1) := by decide +kernel
theorem d1_134 : decode method_3_code 134 = .ok (.bipush 27, 2) := by decide +kernel
theorem d1_136 : decode method_3_code 136 = .ok (.iload_n 0, 1) := by decide +kernel
theorem d1_137 : decode method_3_code 137 = .ok (.castore, 1) := by decide +kernel
theorem d1_138 : decode method_3_code 138 = .ok (.dup, 1) := by decide +kernel
theorem d1_139 : decode method_3_code 139 = .ok (.bipush 28, 2) := by decide +kernel
theorem d1_141 : decode method_3_code 141 = .ok (.iload_n 0, 1) := by decide +kernel
theorem d1_142 : decode method_3_code 142 = .ok (.castore, 1) := by decide +kernel
theorem d1_143 : decode method_3_code 143 = .ok (.dup, 1) := by decide +kernel
theorem d1_144 : decode method_3_code 144 = .ok (.bipush 29, 2) := by decide +kernel
theorem d1_146 : decode method_3_code 146 = .ok (.iload_n 0, 1) := by decide +kernel
theorem d1_147 : decode method_3_code 147 = .ok (.castore, 1) := by decide +kernel
theorem d1_148 : decode method_3_code 148 = .ok (.dup, 1) := by decide +kernel
theorem d1_149 : decode method_3_code 149 = .ok (.bipush 30, 2) := by decide +kernel
theorem d1_151 : decode method_3_code 151 = .ok (.iload_n 0, 1) := by decide +kernel
theorem d1_152 : decode method_3_code 152 = .ok (.castore, 1) := by decide +kernel
theorem d1_153 : decode method_3_code 153 = .ok (.dup, 1) := by decide +kernel
theorem d1_154 : decode method_3_code 154 = .ok (.bipush 31, 2) := by decide +kernel
theorem d1_156 : decode method_3_code 156 = .ok (.iload_n 0, 1) := by decide +kernel
theorem d1_157 : decode method_3_code 157 = .ok (.castore, 1) := by decide +kernel
theorem d1_158 : decode method_3_code 158 = .ok (.dup, 1) := by decide +kernel
theorem d1_159 : decode method_3_code 159 = .ok (.bipush 32, 2) := by decide +kernel
theorem d1_161 : decode method_3_code 161 = .ok (.iload_n 0, 1) := by decide +kernel
theorem d1_162 : decode method_3_code 162 = .ok (.castore, 1) := by decide +kernel
theorem d1_163 : decode method_3_code 163 = .ok (.dup, 1) := by decide +kernel
theorem d1_164 : decode method_3_code 164 = .ok (.bipush 33, 2) := by decide +kernel
theorem d1_166 : decode method_3_code 166 = .ok (.iload_n 0, 1) := by decide +kernel
theorem d1_167 : decode method_3_code 167 = .ok (.castore, 1) := by decide +kernel
theorem d1_168 : decode method_3_code 168 = .ok (.dup, 1) := by decide +kernel
theorem d1_169 : decode method_3_code 169 = .ok (.bipush 34, 2) := by decide +kernel
theorem d1_171 : decode method_3_code 171 = .ok (.iload_n 0, 1) := by decide +kernel
theorem d1_172 : decode method_3_code 172 = .ok (.castore, 1) := by decide +kernel
theorem d1_173 : decode method_3_code 173 = .ok (.dup, 1) := by decide +kernel
theorem d1_174 : decode method_3_code 174 = .ok (.bipush 35, 2) := by decide +kernel
theorem d1_176 : decode method_3_code 176 = .ok (.iload_n 0, 1) := by decide +kernel
theorem d1_177 : decode method_3_code 177 = .ok (.castore, 1) := by decide +kernel
theorem d1_178 : decode method_3_code 178 = .ok (.dup, 1) := by decide +kernel
theorem d1_179 : decode method_3_code 179 = .ok (.bipush 36, 2) := by decide +kernel
theorem d1_181 : decode method_3_code 181 = .ok (.iload_n 0, 1) := by decide +kernel
theorem d1_182 : decode method_3_code 182 = .ok (.castore, 1) := by decide +kernel
theorem d1_183 : decode method_3_code 183 = .ok (.dup, 1) := by decide +kernel
theorem d1_184 : decode method_3_code 184 = .ok (.bipush 37, 2) := by decide +kernel
theorem d1_186 : decode method_3_code 186 = .ok (.iload_n 0, 1) := by decide +kernel
theorem d1_187 : decode method_3_code 187 = .ok (.castore, 1) := by decide +kernel
theorem d1_188 : decode method_3_code 188 = .ok (.dup, 1) := by decide +kernel
theorem d1_189 : decode method_3_code 189 = .ok (.bipush 38, 2) := by decide +kernel
theorem d1_191 : decode method_3_code 191 = .ok (.iload_n 0, 1) := by decide +kernel
theorem d1_192 : decode method_3_code 192 = .ok (.castore, 1) := by decide +kernel
theorem d1_193 : decode method_3_code 193 = .ok (.dup, 1) := by decide +kernel
theorem d1_194 : decode method_3_code 194 = .ok (.bipush 39, 2) := by decide +kernel
theorem d1_196 : decode method_3_code 196 = .ok (.iload_n 0, 1) := by decide +kernel
theorem d1_197 : decode method_3_code 197 = .ok (.castore, 1) := by decide +kernel
theorem d1_198 : decode method_3_code 198 = .ok (.dup, 1) := by decide +kernel
theorem d1_199 : decode method_3_code 199 = .ok (.bipush 40, 2) := by decide +kernel
theorem d1_201 : decode method_3_code 201 = .ok (.iload_n 0, 1) := by decide +kernel
theorem d1_202 : decode method_3_code 202 = .ok (.castore, 1) := by decide +kernel
theorem d1_203 : decode method_3_code 203 = .ok (.dup, 1) := by decide +kernel
theorem d1_204 : decode method_3_code 204 = .ok (.bipush 41, 2) := by decide +kernel
theorem d1_206 : decode method_3_code 206 = .ok (.iload_n 0, 1) := by decide +kernel
theorem d1_207 : decode method_3_code 207 = .ok (.castore, 1) := by decide +kernel
theorem d1_208 : decode method_3_code 208 = .ok (.dup, 1) := by decide +kernel
theorem d1_209 : decode method_3_code 209 = .ok (.bipush 42, 2) := by decide +kernel
theorem d1_211 : decode method_3_code 211 = .ok (.iload_n 0, 1) := by decide +kernel
theorem d1_212 : decode method_3_code 212 = .ok (.castore, 1) := by decide +kernel
theorem d1_213 : decode method_3_code 213 = .ok (.areturn, 1) := by decide +kernel
abbrev Y29 : MethodName := (⟨"com/example/scopelock/scopelock/KeyWellFormedPinLaw", "filled43", "(C)[C"⟩ : MethodName)
theorem ef_own_filled43 (m : MethodId)  (ki0 : Int32) (vf0 : Value) (bb : Int32) : entryFrame m #[xi bb] 1 = (mkF m 0 #[vi bb] []) := by first | (simp [entryFrame, mkF, argsToLocals, Value.category]; done) | rfl
set_option maxRecDepth 65536 in
set_option maxHeartbeats 40000000 in
theorem own_filled43 (l : Launch) (Z : State) (a0 : Array Value) (hw : ∀ d ∈ tables_1, d.before a0 Z = true) (hj : ∀ d ∈ jdkStatics_1, d.before a0 Z = true)  (ki0 : Int32) (vf0 : Value) (G : own_St Z hj ki0 vf0) (bb : Int32) (h0 : Heap) (n0 : Nat) (O0 : Old Z n0 h0) : own_Met l Z Y29 method_3_code 1 (some (.array .char)) ({ frames := 0, cells := 1, slots := 43, locals := 0 } : Room) #[xi bb] h0 (own_QFl Z h0 n0 43 bb) := by
  intro ws
  refine MetFree.of_bodySF (plainFor_of_name pn2) hisR ?_
  intro p e s m args below meth c s₁ Bd hml0 hP hK
  obtain ⟨rfl, hZ, hh⟩ := hP
  have hx := Bd.exec
  have hby := Bd.bytes
  have hml : c.maxLocals = 1 := hml0
  have hown : s.vm.findClass "com/example/scopelock/scopelock/KeyWellFormedPinLaw" = some m.cls := findClass_of_methodNamed Bd.named
  have hnm := (name_of_methodNamed Bd.named Bd.method).1
  have X0 : Stand p l e ({ frames := 0, cells := 1, slots := 43, locals := 0 } : Room) s m #[xi bb] below meth c s₁ [] 0 0 := Stand.of_body Bd
  have e0 : s₁.heap = h0 := by rw [← hh, Bd.state]; rfl
  have N0 := Fr.nil n0
  have pre0 : ∀ t, Steps p.tables e below (s₁.setTop (mkF m 0 #[vi bb] [])) t → Steps p.tables e below (s₁.setTop (entryFrame m #[xi bb] 1)) t := fun t st => castTop (ef_own_filled43 m ki0 vf0 bb) st
  obtain ⟨T1, h1, k1, X1, e1, E1, A1, st1⟩ := newP X0 hx hZ (ww hw 6 rfl) e0 (g := (mkF m 2 #[vi bb] [xi (43 : Int32)])) rfl (hb hby d1_2) rfl (by decide) (cap := 43) (by decide) (by decide) (by decide) (by decide)
  obtain ⟨b1, g1⟩ : ∃ z, z = h0.size := ⟨_, rfl⟩
  rw [← g1] at A1 st1
  have g_b1 : n0 ≤ b1 := own_fresh O0 g1
  have sz_b1 : h0.size ≤ b1 := Nat.le_trans (Keep.refl h0 []).1 (Nat.le_of_eq g1.symm)
  have O1 := O0.ext E1
  have Kp1 : Keep h0 h1 [] := (Keep.refl h0 []).ext E1
  have V_b1 : Arv Z h1 b1 k1 .char (43 : Int32) [(.int (0 : Int32)), (.int (0 : Int32)), (.int (0 : Int32)), (.int (0 : Int32)), (.int (0 : Int32)), (.int (0 : Int32)), (.int (0 : Int32)), (.int (0 : Int32)), (.int (0 : Int32)), (.int (0 : Int32)), (.int (0 : Int32)), (.int (0 : Int32)), (.int (0 : Int32)), (.int (0 : Int32)), (.int (0 : Int32)), (.int (0 : Int32)), (.int (0 : Int32)), (.int (0 : Int32)), (.int (0 : Int32)), (.int (0 : Int32)), (.int (0 : Int32)), (.int (0 : Int32)), (.int (0 : Int32)), (.int (0 : Int32)), (.int (0 : Int32)), (.int (0 : Int32)), (.int (0 : Int32)), (.int (0 : Int32)), (.int (0 : Int32)), (.int (0 : Int32)), (.int (0 : Int32)), (.int (0 : Int32)), (.int (0 : Int32)), (.int (0 : Int32)), (.int (0 : Int32)), (.int (0 : Int32)), (.int (0 : Int32)), (.int (0 : Int32)), (.int (0 : Int32)), (.int (0 : Int32)), (.int (0 : Int32)), (.int (0 : Int32)), (.int (0 : Int32))] (.int (0 : Int32)) := (Arv.new A1 (by decide)).pad (pad_rep [] (.int (0 : Int32)) 43)
  obtain ⟨cl2, Ar2, q2, S2, N2_, H2, G2⟩ := id V_b1
  obtain ⟨T3, h3, X3, e3, W3, st3⟩ := stC X1 hx hZ e1 Ar2 (j := (0 : Int32)) (inb_of S2 ⟨by decide, by decide⟩) (g := (mkF m 7 #[vi bb] [xi bb, xi (0 : Int32), xr b1, xr b1])) rfl rfl (hb hby d1_7)
  have V_b1_3 : Arv Z h3 b1 k1 .char (43 : Int32) (own_fl (xi (nar .char bb)) 1 43) (.int (0 : Int32)) := Arv.set Ar2 q2 S2 N2_ H2 G2 (fits_nar_char _) W3 0 rfl (Nat.le_of_ble_eq_true rfl)
  have O3 := O1.wr W3 g_b1
  have Kp3 := Kp1.wr W3 (Or.inr sz_b1)
  have N3 := Fr.snoc X3 N0 g_b1
  obtain ⟨LL3, X3, N3⟩ := own_pack X3 N3
  obtain ⟨cl4, Ar4, q4, S4, N4_, H4, G4⟩ := id V_b1_3
  obtain ⟨T5, h5, X5, e5, W5, st5⟩ := stC X3 hx hZ e3 Ar4 (j := (1 : Int32)) (inb_of S4 ⟨by decide, by decide⟩) (g := (mkF m 11 #[vi bb] [xi bb, xi (1 : Int32), xr b1, xr b1])) rfl rfl (hb hby d1_11)
  have V_b1_5 : Arv Z h5 b1 k1 .char (43 : Int32) (own_fl (xi (nar .char bb)) 2 43) (.int (0 : Int32)) := Arv.set Ar4 q4 S4 N4_ H4 G4 (fits_nar_char _) W5 1 rfl (Nat.le_of_ble_eq_true rfl)
  have O5 := O3.wr W5 g_b1
  have Kp5 := Kp3.wr W5 (Or.inr sz_b1)
  have N5 := Fr.snoc X5 N3 g_b1
  obtain ⟨LL5, X5, N5⟩ := own_pack X5 N5
  obtain ⟨cl6, Ar6, q6, S6, N6_, H6, G6⟩ := id V_b1_5
  obtain ⟨T7, h7, X7, e7, W7, st7⟩ := stC X5 hx hZ e5 Ar6 (j := (2 : Int32)) (inb_of S6 ⟨by decide, by decide⟩) (g := (mkF m 15 #[vi bb] [xi bb, xi (2 : Int32), xr b1, xr b1])) rfl rfl (hb hby d1_15)
  have V_b1_7 : Arv Z h7 b1 k1 .char (43 : Int32) (own_fl (xi (nar .char bb)) 3 43) (.int (0 : Int32)) := Arv.set Ar6 q6 S6 N6_ H6 G6 (fits_nar_char _) W7 2 rfl (Nat.le_of_ble_eq_true rfl)
  have O7 := O5.wr W7 g_b1
  have Kp7 := Kp5.wr W7 (Or.inr sz_b1)
  have N7 := Fr.snoc X7 N5 g_b1
  obtain ⟨LL7, X7, N7⟩ := own_pack X7 N7
  obtain ⟨cl8, Ar8, q8, S8, N8_, H8, G8⟩ := id V_b1_7
  obtain ⟨T9, h9, X9, e9, W9, st9⟩ := stC X7 hx hZ e7 Ar8 (j := (3 : Int32)) (inb_of S8 ⟨by decide, by decide⟩) (g := (mkF m 19 #[vi bb] [xi bb, xi (3 : Int32), xr b1, xr b1])) rfl rfl (hb hby d1_19)
  have V_b1_9 : Arv Z h9 b1 k1 .char (43 : Int32) (own_fl (xi (nar .char bb)) 4 43) (.int (0 : Int32)) := Arv.set Ar8 q8 S8 N8_ H8 G8 (fits_nar_char _) W9 3 rfl (Nat.le_of_ble_eq_true rfl)
  have O9 := O7.wr W9 g_b1
  have Kp9 := Kp7.wr W9 (Or.inr sz_b1)
  have N9 := Fr.snoc X9 N7 g_b1
  obtain ⟨LL9, X9, N9⟩ := own_pack X9 N9
  obtain ⟨cl10, Ar10, q10, S10, N10_, H10, G10⟩ := id V_b1_9
  obtain ⟨T11, h11, X11, e11, W11, st11⟩ := stC X9 hx hZ e9 Ar10 (j := (4 : Int32)) (inb_of S10 ⟨by decide, by decide⟩) (g := (mkF m 23 #[vi bb] [xi bb, xi (4 : Int32), xr b1, xr b1])) rfl rfl (hb hby d1_23)
  have V_b1_11 : Arv Z h11 b1 k1 .char (43 : Int32) (own_fl (xi (nar .char bb)) 5 43) (.int (0 : Int32)) := Arv.set Ar10 q10 S10 N10_ H10 G10 (fits_nar_char _) W11 4 rfl (Nat.le_of_ble_eq_true rfl)
  have O11 := O9.wr W11 g_b1
  have Kp11 := Kp9.wr W11 (Or.inr sz_b1)
  have N11 := Fr.snoc X11 N9 g_b1
  obtain ⟨LL11, X11, N11⟩ := own_pack X11 N11
  obtain ⟨cl12, Ar12, q12, S12, N12_, H12, G12⟩ := id V_b1_11
  obtain ⟨T13, h13, X13, e13, W13, st13⟩ := stC X11 hx hZ e11 Ar12 (j := (5 : Int32)) (inb_of S12 ⟨by decide, by decide⟩) (g := (mkF m 27 #[vi bb] [xi bb, xi (5 : Int32), xr b1, xr b1])) rfl rfl (hb hby d1_27)
  have V_b1_13 : Arv Z h13 b1 k1 .char (43 : Int32) (own_fl (xi (nar .char bb)) 6 43) (.int (0 : Int32)) := Arv.set Ar12 q12 S12 N12_ H12 G12 (fits_nar_char _) W13 5 rfl (Nat.le_of_ble_eq_true rfl)
  have O13 := O11.wr W13 g_b1
  have Kp13 := Kp11.wr W13 (Or.inr sz_b1)
  have N13 := Fr.snoc X13 N11 g_b1
  obtain ⟨LL13, X13, N13⟩ := own_pack X13 N13
  obtain ⟨cl14, Ar14, q14, S14, N14_, H14, G14⟩ := id V_b1_13
  obtain ⟨T15, h15, X15, e15, W15, st15⟩ := stC X13 hx hZ e13 Ar14 (j := (6 : Int32)) (inb_of S14 ⟨by decide, by decide⟩) (g := (mkF m 32 #[vi bb] [xi bb, xi (6 : Int32), xr b1, xr b1])) rfl rfl (hb hby d1_32)
  have V_b1_15 : Arv Z h15 b1 k1 .char (43 : Int32) (own_fl (xi (nar .char bb)) 7 43) (.int (0 : Int32)) := Arv.set Ar14 q14 S14 N14_ H14 G14 (fits_nar_char _) W15 6 rfl (Nat.le_of_ble_eq_true rfl)
  have O15 := O13.wr W15 g_b1
  have Kp15 := Kp13.wr W15 (Or.inr sz_b1)
  have N15 := Fr.snoc X15 N13 g_b1
  obtain ⟨LL15, X15, N15⟩ := own_pack X15 N15
  obtain ⟨cl16, Ar16, q16, S16, N16_, H16, G16⟩ := id V_b1_15
  obtain ⟨T17, h17, X17, e17, W17, st17⟩ := stC X15 hx hZ e15 Ar16 (j := (7 : Int32)) (inb_of S16 ⟨by decide, by decide⟩) (g := (mkF m 37 #[vi bb] [xi bb, xi (7 : Int32), xr b1, xr b1])) rfl rfl (hb hby d1_37)
  have V_b1_17 : Arv Z h17 b1 k1 .char (43 : Int32) (own_fl (xi (nar .char bb)) 8 43) (.int (0 : Int32)) := Arv.set Ar16 q16 S16 N16_ H16 G16 (fits_nar_char _) W17 7 rfl (Nat.le_of_ble_eq_true rfl)
  have O17 := O15.wr W17 g_b1
  have Kp17 := Kp15.wr W17 (Or.inr sz_b1)
  have N17 := Fr.snoc X17 N15 g_b1
  obtain ⟨LL17, X17, N17⟩ := own_pack X17 N17
  obtain ⟨cl18, Ar18, q18, S18, N18_, H18, G18⟩ := id V_b1_17
  obtain ⟨T19, h19, X19, e19, W19, st19⟩ := stC X17 hx hZ e17 Ar18 (j := (8 : Int32)) (inb_of S18 ⟨by decide, by decide⟩) (g := (mkF m 42 #[vi bb] [xi bb, xi (8 : Int32), xr b1, xr b1])) rfl rfl (hb hby d1_42)
  have V_b1_19 : Arv Z h19 b1 k1 .char (43 : Int32) (own_fl (xi (nar .char bb)) 9 43) (.int (0 : Int32)) := Arv.set Ar18 q18 S18 N18_ H18 G18 (fits_nar_char _) W19 8 rfl (Nat.le_of_ble_eq_true rfl)
  have O19 := O17.wr W19 g_b1
  have Kp19 := Kp17.wr W19 (Or.inr sz_b1)
  have N19 := Fr.snoc X19 N17 g_b1
  obtain ⟨LL19, X19, N19⟩ := own_pack X19 N19
  obtain ⟨cl20, Ar20, q20, S20, N20_, H20, G20⟩ := id V_b1_19
  obtain ⟨T21, h21, X21, e21, W21, st21⟩ := stC X19 hx hZ e19 Ar20 (j := (9 : Int32)) (inb_of S20 ⟨by decide, by decide⟩) (g := (mkF m 47 #[vi bb] [xi bb, xi (9 : Int32), xr b1, xr b1])) rfl rfl (hb hby d1_47)
  have V_b1_21 : Arv Z h21 b1 k1 .char (43 : Int32) (own_fl (xi (nar .char bb)) 10 43) (.int (0 : Int32)) := Arv.set Ar20 q20 S20 N20_ H20 G20 (fits_nar_char _) W21 9 rfl (Nat.le_of_ble_eq_true rfl)
  have O21 := O19.wr W21 g_b1
  have Kp21 := Kp19.wr W21 (Or.inr sz_b1)
  have N21 := Fr.snoc X21 N19 g_b1
  obtain ⟨LL21, X21, N21⟩ := own_pack X21 N21
  obtain ⟨cl22, Ar22, q22, S22, N22_, H22, G22⟩ := id V_b1_21
  obtain ⟨T23, h23, X23, e23, W23, st23⟩ := stC X21 hx hZ e21 Ar22 (j := (10 : Int32)) (inb_of S22 ⟨by decide, by decide⟩) (g := (mkF m 52 #[vi bb] [xi bb, xi (10 : Int32), xr b1, xr b1])) rfl rfl (hb hby d1_52)
  have V_b1_23 : Arv Z h23 b1 k1 .char (43 : Int32) (own_fl (xi (nar .char bb)) 11 43) (.int (0 : Int32)) := Arv.set Ar22 q22 S22 N22_ H22 G22 (fits_nar_char _) W23 10 rfl (Nat.le_of_ble_eq_true rfl)
  have O23 := O21.wr W23 g_b1
  have Kp23 := Kp21.wr W23 (Or.inr sz_b1)
  have N23 := Fr.snoc X23 N21 g_b1
  obtain ⟨LL23, X23, N23⟩ := own_pack X23 N23
  obtain ⟨cl24, Ar24, q24, S24, N24_, H24, G24⟩ := id V_b1_23
  obtain ⟨T25, h25, X25, e25, W25, st25⟩ := stC X23 hx hZ e23 Ar24 (j := (11 : Int32)) (inb_of S24 ⟨by decide, by decide⟩) (g := (mkF m 57 #[vi bb] [xi bb, xi (11 : Int32), xr b1, xr b1])) rfl rfl (hb hby d1_57)
  have V_b1_25 : Arv Z h25 b1 k1 .char (43 : Int32) (own_fl (xi (nar .char bb)) 12 43) (.int (0 : Int32)) := Arv.set Ar24 q24 S24 N24_ H24 G24 (fits_nar_char _) W25 11 rfl (Nat.le_of_ble_eq_true rfl)
  have O25 := O23.wr W25 g_b1
  have Kp25 := Kp23.wr W25 (Or.inr sz_b1)
  have N25 := Fr.snoc X25 N23 g_b1
  obtain ⟨LL25, X25, N25⟩ := own_pack X25 N25
  obtain ⟨cl26, Ar26, q26, S26, N26_, H26, G26⟩ := id V_b1_25
  obtain ⟨T27, h27, X27, e27, W27, st27⟩ := stC X25 hx hZ e25 Ar26 (j := (12 : Int32)) (inb_of S26 ⟨by decide, by decide⟩) (g := (mkF m 62 #[vi bb] [xi bb, xi (12 : Int32), xr b1, xr b1])) rfl rfl (hb hby d1_62)
  have V_b1_27 : Arv Z h27 b1 k1 .char (43 : Int32) (own_fl (xi (nar .char bb)) 13 43) (.int (0 : Int32)) := Arv.set Ar26 q26 S26 N26_ H26 G26 (fits_nar_char _) W27 12 rfl (Nat.le_of_ble_eq_true rfl)
  have O27 := O25.wr W27 g_b1
  have Kp27 := Kp25.wr W27 (Or.inr sz_b1)
  have N27 := Fr.snoc X27 N25 g_b1
  obtain ⟨LL27, X27, N27⟩ := own_pack X27 N27
  obtain ⟨cl28, Ar28, q28, S28, N28_, H28, G28⟩ := id V_b1_27
  obtain ⟨T29, h29, X29, e29, W29, st29⟩ := stC X27 hx hZ e27 Ar28 (j := (13 : Int32)) (inb_of S28 ⟨by decide, by decide⟩) (g := (mkF m 67 #[vi bb] [xi bb, xi (13 : Int32), xr b1, xr b1])) rfl rfl (hb hby d1_67)
  have V_b1_29 : Arv Z h29 b1 k1 .char (43 : Int32) (own_fl (xi (nar .char bb)) 14 43) (.int (0 : Int32)) := Arv.set Ar28 q28 S28 N28_ H28 G28 (fits_nar_char _) W29 13 rfl (Nat.le_of_ble_eq_true rfl)
  have O29 := O27.wr W29 g_b1
  have Kp29 := Kp27.wr W29 (Or.inr sz_b1)
  have N29 := Fr.snoc X29 N27 g_b1
  obtain ⟨LL29, X29, N29⟩ := own_pack X29 N29
  obtain ⟨cl30, Ar30, q30, S30, N30_, H30, G30⟩ := id V_b1_29
  obtain ⟨T31, h31, X31, e31, W31, st31⟩ := stC X29 hx hZ e29 Ar30 (j := (14 : Int32)) (inb_of S30 ⟨by decide, by decide⟩) (g := (mkF m 72 #[vi bb] [xi bb, xi (14 : Int32), xr b1, xr b1])) rfl rfl (hb hby d1_72)
  have V_b1_31 : Arv Z h31 b1 k1 .char (43 : Int32) (own_fl (xi (nar .char bb)) 15 43) (.int (0 : Int32)) := Arv.set Ar30 q30 S30 N30_ H30 G30 (fits_nar_char _) W31 14 rfl (Nat.le_of_ble_eq_true rfl)
  have O31 := O29.wr W31 g_b1
  have Kp31 := Kp29.wr W31 (Or.inr sz_b1)
  have N31 := Fr.snoc X31 N29 g_b1
  obtain ⟨LL31, X31, N31⟩ := own_pack X31 N31
  obtain ⟨cl32, Ar32, q32, S32, N32_, H32, G32⟩ := id V_b1_31
  obtain ⟨T33, h33, X33, e33, W33, st33⟩ := stC X31 hx hZ e31 Ar32 (j := (15 : Int32)) (inb_of S32 ⟨by decide, by decide⟩) (g := (mkF m 77 #[vi bb] [xi bb, xi (15 : Int32), xr b1, xr b1])) rfl rfl (hb hby d1_77)
  have V_b1_33 : Arv Z h33 b1 k1 .char (43 : Int32) (own_fl (xi (nar .char bb)) 16 43) (.int (0 : Int32)) := Arv.set Ar32 q32 S32 N32_ H32 G32 (fits_nar_char _) W33 15 rfl (Nat.le_of_ble_eq_true rfl)
  have O33 := O31.wr W33 g_b1
  have Kp33 := Kp31.wr W33 (Or.inr sz_b1)
  have N33 := Fr.snoc X33 N31 g_b1
  obtain ⟨LL33, X33, N33⟩ := own_pack X33 N33
  obtain ⟨cl34, Ar34, q34, S34, N34_, H34, G34⟩ := id V_b1_33
  obtain ⟨T35, h35, X35, e35, W35, st35⟩ := stC X33 hx hZ e33 Ar34 (j := (16 : Int32)) (inb_of S34 ⟨by decide, by decide⟩) (g := (mkF m 82 #[vi bb] [xi bb, xi (16 : Int32), xr b1, xr b1])) rfl rfl (hb hby d1_82)
  have V_b1_35 : Arv Z h35 b1 k1 .char (43 : Int32) (own_fl (xi (nar .char bb)) 17 43) (.int (0 : Int32)) := Arv.set Ar34 q34 S34 N34_ H34 G34 (fits_nar_char _) W35 16 rfl (Nat.le_of_ble_eq_true rfl)
  have O35 := O33.wr W35 g_b1
  have Kp35 := Kp33.wr W35 (Or.inr sz_b1)
  have N35 := Fr.snoc X35 N33 g_b1
  obtain ⟨LL35, X35, N35⟩ := own_pack X35 N35
  obtain ⟨cl36, Ar36, q36, S36, N36_, H36, G36⟩ := id V_b1_35
  obtain ⟨T37, h37, X37, e37, W37, st37⟩ := stC X35 hx hZ e35 Ar36 (j := (17 : Int32)) (inb_of S36 ⟨by decide, by decide⟩) (g := (mkF m 87 #[vi bb] [xi bb, xi (17 : Int32), xr b1, xr b1])) rfl rfl (hb hby d1_87)
  have V_b1_37 : Arv Z h37 b1 k1 .char (43 : Int32) (own_fl (xi (nar .char bb)) 18 43) (.int (0 : Int32)) := Arv.set Ar36 q36 S36 N36_ H36 G36 (fits_nar_char _) W37 17 rfl (Nat.le_of_ble_eq_true rfl)
  have O37 := O35.wr W37 g_b1
  have Kp37 := Kp35.wr W37 (Or.inr sz_b1)
  have N37 := Fr.snoc X37 N35 g_b1
  obtain ⟨LL37, X37, N37⟩ := own_pack X37 N37
  obtain ⟨cl38, Ar38, q38, S38, N38_, H38, G38⟩ := id V_b1_37
  obtain ⟨T39, h39, X39, e39, W39, st39⟩ := stC X37 hx hZ e37 Ar38 (j := (18 : Int32)) (inb_of S38 ⟨by decide, by decide⟩) (g := (mkF m 92 #[vi bb] [xi bb, xi (18 : Int32), xr b1, xr b1])) rfl rfl (hb hby d1_92)
  have V_b1_39 : Arv Z h39 b1 k1 .char (43 : Int32) (own_fl (xi (nar .char bb)) 19 43) (.int (0 : Int32)) := Arv.set Ar38 q38 S38 N38_ H38 G38 (fits_nar_char _) W39 18 rfl (Nat.le_of_ble_eq_true rfl)
  have O39 := O37.wr W39 g_b1
  have Kp39 := Kp37.wr W39 (Or.inr sz_b1)
  have N39 := Fr.snoc X39 N37 g_b1
  obtain ⟨LL39, X39, N39⟩ := own_pack X39 N39
  obtain ⟨cl40, Ar40, q40, S40, N40_, H40, G40⟩ := id V_b1_39
  obtain ⟨T41, h41, X41, e41, W41, st41⟩ := stC X39 hx hZ e39 Ar40 (j := (19 : Int32)) (inb_of S40 ⟨by decide, by decide⟩) (g := (mkF m 97 #[vi bb] [xi bb, xi (19 : Int32), xr b1, xr b1])) rfl rfl (hb hby d1_97)
  have V_b1_41 : Arv Z h41 b1 k1 .char (43 : Int32) (own_fl (xi (nar .char bb)) 20 43) (.int (0 : Int32)) := Arv.set Ar40 q40 S40 N40_ H40 G40 (fits_nar_char _) W41 19 rfl (Nat.le_of_ble_eq_true rfl)
  have O41 := O39.wr W41 g_b1
  have Kp41 := Kp39.wr W41 (Or.inr sz_b1)
  have N41 := Fr.snoc X41 N39 g_b1
  obtain ⟨LL41, X41, N41⟩ := own_pack X41 N41
  obtain ⟨cl42, Ar42, q42, S42, N42_, H42, G42⟩ := id V_b1_41
  obtain ⟨T43, h43, X43, e43, W43, st43⟩ := stC X41 hx hZ e41 Ar42 (j := (20 : Int32)) (inb_of S42 ⟨by decide, by decide⟩) (g := (mkF m 102 #[vi bb] [xi bb, xi (20 : Int32), xr b1, xr b1])) rfl rfl (hb hby d1_102)
  have V_b1_43 : Arv Z h43 b1 k1 .char (43 : Int32) (own_fl (xi (nar .char bb)) 21 43) (.int (0 : Int32)) := Arv.set Ar42 q42 S42 N42_ H42 G42 (fits_nar_char _) W43 20 rfl (Nat.le_of_ble_eq_true rfl)
  have O43 := O41.wr W43 g_b1
  have Kp43 := Kp41.wr W43 (Or.inr sz_b1)
  have N43 := Fr.snoc X43 N41 g_b1
  obtain ⟨LL43, X43, N43⟩ := own_pack X43 N43
  obtain ⟨cl44, Ar44, q44, S44, N44_, H44, G44⟩ := id V_b1_43
  obtain ⟨T45, h45, X45, e45, W45, st45⟩ := stC X43 hx hZ e43 Ar44 (j := (21 : Int32)) (inb_of S44 ⟨by decide, by decide⟩) (g := (mkF m 107 #[vi bb] [xi bb, xi (21 : Int32), xr b1, xr b1])) rfl rfl (hb hby d1_107)
  have V_b1_45 : Arv Z h45 b1 k1 .char (43 : Int32) (own_fl (xi (nar .char bb)) 22 43) (.int (0 : Int32)) := Arv.set Ar44 q44 S44 N44_ H44 G44 (fits_nar_char _) W45 21 rfl (Nat.le_of_ble_eq_true rfl)
  have O45 := O43.wr W45 g_b1
  have Kp45 := Kp43.wr W45 (Or.inr sz_b1)
  have N45 := Fr.snoc X45 N43 g_b1
  obtain ⟨LL45, X45, N45⟩ := own_pack X45 N45
  obtain ⟨cl46, Ar46, q46, S46, N46_, H46, G46⟩ := id V_b1_45
  obtain ⟨T47, h47, X47, e47, W47, st47⟩ := stC X45 hx hZ e45 Ar46 (j := (22 : Int32)) (inb_of S46 ⟨by decide, by decide⟩) (g := (mkF m 112 #[vi bb] [xi bb, xi (22 : Int32), xr b1, xr b1])) rfl rfl (hb hby d1_112)
  have V_b1_47 : Arv Z h47 b1 k1 .char (43 : Int32) (own_fl (xi (nar .char bb)) 23 43) (.int (0 : Int32)) := Arv.set Ar46 q46 S46 N46_ H46 G46 (fits_nar_char _) W47 22 rfl (Nat.le_of_ble_eq_true rfl)
  have O47 := O45.wr W47 g_b1
  have Kp47 := Kp45.wr W47 (Or.inr sz_b1)
  have N47 := Fr.snoc X47 N45 g_b1
  obtain ⟨LL47, X47, N47⟩ := own_pack X47 N47
  obtain ⟨cl48, Ar48, q48, S48, N48_, H48, G48⟩ := id V_b1_47
  obtain ⟨T49, h49, X49, e49, W49, st49⟩ := stC X47 hx hZ e47 Ar48 (j := (23 : Int32)) (inb_of S48 ⟨by decide, by decide⟩) (g := (mkF m 117 #[vi bb] [xi bb, xi (23 : Int32), xr b1, xr b1])) rfl rfl (hb hby d1_117)
  have V_b1_49 : Arv Z h49 b1 k1 .char (43 : Int32) (own_fl (xi (nar .char bb)) 24 43) (.int (0 : Int32)) := Arv.set Ar48 q48 S48 N48_ H48 G48 (fits_nar_char _) W49 23 rfl (Nat.le_of_ble_eq_true rfl)
  have O49 := O47.wr W49 g_b1
  have Kp49 := Kp47.wr W49 (Or.inr sz_b1)
  have N49 := Fr.snoc X49 N47 g_b1
  obtain ⟨LL49, X49, N49⟩ := own_pack X49 N49
  obtain ⟨cl50, Ar50, q50, S50, N50_, H50, G50⟩ := id V_b1_49
  obtain ⟨T51, h51, X51, e51, W51, st51⟩ := stC X49 hx hZ e49 Ar50 (j := (24 : Int32)) (inb_of S50 ⟨by decide, by decide⟩) (g := (mkF m 122 #[vi bb] [xi bb, xi (24 : Int32), xr b1, xr b1])) rfl rfl (hb hby d1_122)
  have V_b1_51 : Arv Z h51 b1 k1 .char (43 : Int32) (own_fl (xi (nar .char bb)) 25 43) (.int (0 : Int32)) := Arv.set Ar50 q50 S50 N50_ H50 G50 (fits_nar_char _) W51 24 rfl (Nat.le_of_ble_eq_true rfl)
  have O51 := O49.wr W51 g_b1
  have Kp51 := Kp49.wr W51 (Or.inr sz_b1)
  have N51 := Fr.snoc X51 N49 g_b1
  obtain ⟨LL51, X51, N51⟩ := own_pack X51 N51
  obtain ⟨cl52, Ar52, q52, S52, N52_, H52, G52⟩ := id V_b1_51
  obtain ⟨T53, h53, X53, e53, W53, st53⟩ := stC X51 hx hZ e51 Ar52 (j := (25 : Int32)) (inb_of S52 ⟨by decide, by decide⟩) (g := (mkF m 127 #[vi bb] [xi bb, xi (25 : Int32), xr b1, xr b1])) rfl rfl (hb hby d1_127)
  have V_b1_53 : Arv Z h53 b1 k1 .char (43 : Int32) (own_fl (xi (nar .char bb)) 26 43) (.int (0 : Int32)) := Arv.set Ar52 q52 S52 N52_ H52 G52 (fits_nar_char _) W53 25 rfl (Nat.le_of_ble_eq_true rfl)
  have O53 := O51.wr W53 g_b1
  have Kp53 := Kp51.wr W53 (Or.inr sz_b1)
  have N53 := Fr.snoc X53 N51 g_b1
  obtain ⟨LL53, X53, N53⟩ := own_pack X53 N53
  obtain ⟨cl54, Ar54, q54, S54, N54_, H54, G54⟩ := id V_b1_53
  obtain ⟨T55, h55, X55, e55, W55, st55⟩ := stC X53 hx hZ e53 Ar54 (j := (26 : Int32)) (inb_of S54 ⟨by decide, by decide⟩) (g := (mkF m 132 #[vi bb] [xi bb, xi (26 : Int32), xr b1, xr b1])) rfl rfl (hb hby d1_132)
  have V_b1_55 : Arv Z h55 b1 k1 .char (43 : Int32) (own_fl (xi (nar .char bb)) 27 43) (.int (0 : Int32)) := Arv.set Ar54 q54 S54 N54_ H54 G54 (fits_nar_char _) W55 26 rfl (Nat.le_of_ble_eq_true rfl)
  have O55 := O53.wr W55 g_b1
  have Kp55 := Kp53.wr W55 (Or.inr sz_b1)
  have N55 := Fr.snoc X55 N53 g_b1
  obtain ⟨LL55, X55, N55⟩ := own_pack X55 N55
  obtain ⟨cl56, Ar56, q56, S56, N56_, H56, G56⟩ := id V_b1_55
  obtain ⟨T57, h57, X57, e57, W57, st57⟩ := stC X55 hx hZ e55 Ar56 (j := (27 : Int32)) (inb_of S56 ⟨by decide, by decide⟩) (g := (mkF m 137 #[vi bb] [xi bb, xi (27 : Int32), xr b1, xr b1])) rfl rfl (hb hby d1_137)
  have V_b1_57 : Arv Z h57 b1 k1 .char (43 : Int32) (own_fl (xi (nar .char bb)) 28 43) (.int (0 : Int32)) := Arv.set Ar56 q56 S56 N56_ H56 G56 (fits_nar_char _) W57 27 rfl (Nat.le_of_ble_eq_true rfl)
  have O57 := O55.wr W57 g_b1
  have Kp57 := Kp55.wr W57 (Or.inr sz_b1)
  have N57 := Fr.snoc X57 N55 g_b1
  obtain ⟨LL57, X57, N57⟩ := own_pack X57 N57
  obtain ⟨cl58, Ar58, q58, S58, N58_, H58, G58⟩ := id V_b1_57
  obtain ⟨T59, h59, X59, e59, W59, st59⟩ := stC X57 hx hZ e57 Ar58 (j := (28 : Int32)) (inb_of S58 ⟨by decide, by decide⟩) (g := (mkF m 142 #[vi bb] [xi bb, xi (28 : Int32), xr b1, xr b1])) rfl rfl (hb hby d1_142)
  have V_b1_59 : Arv Z h59 b1 k1 .char (43 : Int32) (own_fl (xi (nar .char bb)) 29 43) (.int (0 : Int32)) := Arv.set Ar58 q58 S58 N58_ H58 G58 (fits_nar_char _) W59 28 rfl (Nat.le_of_ble_eq_true rfl)
  have O59 := O57.wr W59 g_b1
  have Kp59 := Kp57.wr W59 (Or.inr sz_b1)
  have N59 := Fr.snoc X59 N57 g_b1
  obtain ⟨LL59, X59, N59⟩ := own_pack X59 N59
  obtain ⟨cl60, Ar60, q60, S60, N60_, H60, G60⟩ := id V_b1_59
  obtain ⟨T61, h61, X61, e61, W61, st61⟩ := stC X59 hx hZ e59 Ar60 (j := (29 : Int32)) (inb_of S60 ⟨by decide, by decide⟩) (g := (mkF m 147 #[vi bb] [xi bb, xi (29 : Int32), xr b1, xr b1])) rfl rfl (hb hby d1_147)
  have V_b1_61 : Arv Z h61 b1 k1 .char (43 : Int32) (own_fl (xi (nar .char bb)) 30 43) (.int (0 : Int32)) := Arv.set Ar60 q60 S60 N60_ H60 G60 (fits_nar_char _) W61 29 rfl (Nat.le_of_ble_eq_true rfl)
  have O61 := O59.wr W61 g_b1
  have Kp61 := Kp59.wr W61 (Or.inr sz_b1)
  have N61 := Fr.snoc X61 N59 g_b1
  obtain ⟨LL61, X61, N61⟩ := own_pack X61 N61
  obtain ⟨cl62, Ar62, q62, S62, N62_, H62, G62⟩ := id V_b1_61
  obtain ⟨T63, h63, X63, e63, W63, st63⟩ := stC X61 hx hZ e61 Ar62 (j := (30 : Int32)) (inb_of S62 ⟨by decide, by decide⟩) (g := (mkF m 152 #[vi bb] [xi bb, xi (30 : Int32), xr b1, xr b1])) rfl rfl (hb hby d1_152)
  have V_b1_63 : Arv Z h63 b1 k1 .char (43 : Int32) (own_fl (xi (nar .char bb)) 31 43) (.int (0 : Int32)) := Arv.set Ar62 q62 S62 N62_ H62 G62 (fits_nar_char _) W63 30 rfl (Nat.le_of_ble_eq_true rfl)
  have O63 := O61.wr W63 g_b1
  have Kp63 := Kp61.wr W63 (Or.inr sz_b1)
  have N63 := Fr.snoc X63 N61 g_b1
  obtain ⟨LL63, X63, N63⟩ := own_pack X63 N63
  obtain ⟨cl64, Ar64, q64, S64, N64_, H64, G64⟩ := id V_b1_63
  obtain ⟨T65, h65, X65, e65, W65, st65⟩ := stC X63 hx hZ e63 Ar64 (j := (31 : Int32)) (inb_of S64 ⟨by decide, by decide⟩) (g := (mkF m 157 #[vi bb] [xi bb, xi (31 : Int32), xr b1, xr b1])) rfl rfl (hb hby d1_157)
  have V_b1_65 : Arv Z h65 b1 k1 .char (43 : Int32) (own_fl (xi (nar .char bb)) 32 43) (.int (0 : Int32)) := Arv.set Ar64 q64 S64 N64_ H64 G64 (fits_nar_char _) W65 31 rfl (Nat.le_of_ble_eq_true rfl)
  have O65 := O63.wr W65 g_b1
  have Kp65 := Kp63.wr W65 (Or.inr sz_b1)
  have N65 := Fr.snoc X65 N63 g_b1
  obtain ⟨LL65, X65, N65⟩ := own_pack X65 N65
  obtain ⟨cl66, Ar66, q66, S66, N66_, H66, G66⟩ := id V_b1_65
  obtain ⟨T67, h67, X67, e67, W67, st67⟩ := stC X65 hx hZ e65 Ar66 (j := (32 : Int32)) (inb_of S66 ⟨by decide, by decide⟩) (g := (mkF m 162 #[vi bb] [xi bb, xi (32 : Int32), xr b1, xr b1])) rfl rfl (hb hby d1_162)
  have V_b1_67 : Arv Z h67 b1 k1 .char (43 : Int32) (own_fl (xi (nar .char bb)) 33 43) (.int (0 : Int32)) := Arv.set Ar66 q66 S66 N66_ H66 G66 (fits_nar_char _) W67 32 rfl (Nat.le_of_ble_eq_true rfl)
  have O67 := O65.wr W67 g_b1
  have Kp67 := Kp65.wr W67 (Or.inr sz_b1)
  have N67 := Fr.snoc X67 N65 g_b1
  obtain ⟨LL67, X67, N67⟩ := own_pack X67 N67
  obtain ⟨cl68, Ar68, q68, S68, N68_, H68, G68⟩ := id V_b1_67
  obtain ⟨T69, h69, X69, e69, W69, st69⟩ := stC X67 hx hZ e67 Ar68 (j := (33 : Int32)) (inb_of S68 ⟨by decide, by decide⟩) (g := (mkF m 167 #[vi bb] [xi bb, xi (33 : Int32), xr b1, xr b1])) rfl rfl (hb hby d1_167)
  have V_b1_69 : Arv Z h69 b1 k1 .char (43 : Int32) (own_fl (xi (nar .char bb)) 34 43) (.int (0 : Int32)) := Arv.set Ar68 q68 S68 N68_ H68 G68 (fits_nar_char _) W69 33 rfl (Nat.le_of_ble_eq_true rfl)
  have O69 := O67.wr W69 g_b1
  have Kp69 := Kp67.wr W69 (Or.inr sz_b1)
  have N69 := Fr.snoc X69 N67 g_b1
  obtain ⟨LL69, X69, N69⟩ := own_pack X69 N69
  obtain ⟨cl70, Ar70, q70, S70, N70_, H70, G70⟩ := id V_b1_69
  obtain ⟨T71, h71, X71, e71, W71, st71⟩ := stC X69 hx hZ e69 Ar70 (j := (34 : Int32)) (inb_of S70 ⟨by decide, by decide⟩) (g := (mkF m 172 #[vi bb] [xi bb, xi (34 : Int32), xr b1, xr b1])) rfl rfl (hb hby d1_172)
  have V_b1_71 : Arv Z h71 b1 k1 .char (43 : Int32) (own_fl (xi (nar .char bb)) 35 43) (.int (0 : Int32)) := Arv.set Ar70 q70 S70 N70_ H70 G70 (fits_nar_char _) W71 34 rfl (Nat.le_of_ble_eq_true rfl)
  have O71 := O69.wr W71 g_b1
  have Kp71 := Kp69.wr W71 (Or.inr sz_b1)
  have N71 := Fr.snoc X71 N69 g_b1
  obtain ⟨LL71, X71, N71⟩ := own_pack X71 N71
  obtain ⟨cl72, Ar72, q72, S72, N72_, H72, G72⟩ := id V_b1_71
  obtain ⟨T73, h73, X73, e73, W73, st73⟩ := stC X71 hx hZ e71 Ar72 (j := (35 : Int32)) (inb_of S72 ⟨by decide, by decide⟩) (g := (mkF m 177 #[vi bb] [xi bb, xi (35 : Int32), xr b1, xr b1])) rfl rfl (hb hby d1_177)
  have V_b1_73 : Arv Z h73 b1 k1 .char (43 : Int32) (own_fl (xi (nar .char bb)) 36 43) (.int (0 : Int32)) := Arv.set Ar72 q72 S72 N72_ H72 G72 (fits_nar_char _) W73 35 rfl (Nat.le_of_ble_eq_true rfl)
  have O73 := O71.wr W73 g_b1
  have Kp73 := Kp71.wr W73 (Or.inr sz_b1)
  have N73 := Fr.snoc X73 N71 g_b1
  obtain ⟨LL73, X73, N73⟩ := own_pack X73 N73
  obtain ⟨cl74, Ar74, q74, S74, N74_, H74, G74⟩ := id V_b1_73
  obtain ⟨T75, h75, X75, e75, W75, st75⟩ := stC X73 hx hZ e73 Ar74 (j := (36 : Int32)) (inb_of S74 ⟨by decide, by decide⟩) (g := (mkF m 182 #[vi bb] [xi bb, xi (36 : Int32), xr b1, xr b1])) rfl rfl (hb hby d1_182)
  have V_b1_75 : Arv Z h75 b1 k1 .char (43 : Int32) (own_fl (xi (nar .char bb)) 37 43) (.int (0 : Int32)) := Arv.set Ar74 q74 S74 N74_ H74 G74 (fits_nar_char _) W75 36 rfl (Nat.le_of_ble_eq_true rfl)
  have O75 := O73.wr W75 g_b1
  have Kp75 := Kp73.wr W75 (Or.inr sz_b1)
  have N75 := Fr.snoc X75 N73 g_b1
  obtain ⟨LL75, X75, N75⟩ := own_pack X75 N75
  obtain ⟨cl76, Ar76, q76, S76, N76_, H76, G76⟩ := id V_b1_75
  obtain ⟨T77, h77, X77, e77, W77, st77⟩ := stC X75 hx hZ e75 Ar76 (j := (37 : Int32)) (inb_of S76 ⟨by decide, by decide⟩) (g := (mkF m 187 #[vi bb] [xi bb, xi (37 : Int32), xr b1, xr b1])) rfl rfl (hb hby d1_187)
  have V_b1_77 : Arv Z h77 b1 k1 .char (43 : Int32) (own_fl (xi (nar .char bb)) 38 43) (.int (0 : Int32)) := Arv.set Ar76 q76 S76 N76_ H76 G76 (fits_nar_char _) W77 37 rfl (Nat.le_of_ble_eq_true rfl)
  have O77 := O75.wr W77 g_b1
  have Kp77 := Kp75.wr W77 (Or.inr sz_b1)
  have N77 := Fr.snoc X77 N75 g_b1
  obtain ⟨LL77, X77, N77⟩ := own_pack X77 N77
  obtain ⟨cl78, Ar78, q78, S78, N78_, H78, G78⟩ := id V_b1_77
  obtain ⟨T79, h79, X79, e79, W79, st79⟩ := stC X77 hx hZ e77 Ar78 (j := (38 : Int32)) (inb_of S78 ⟨by decide, by decide⟩) (g := (mkF m 192 #[vi bb] [xi bb, xi (38 : Int32), xr b1, xr b1])) rfl rfl (hb hby d1_192)
  have V_b1_79 : Arv Z h79 b1 k1 .char (43 : Int32) (own_fl (xi (nar .char bb)) 39 43) (.int (0 : Int32)) := Arv.set Ar78 q78 S78 N78_ H78 G78 (fits_nar_char _) W79 38 rfl (Nat.le_of_ble_eq_true rfl)
  have O79 := O77.wr W79 g_b1
  have Kp79 := Kp77.wr W79 (Or.inr sz_b1)
  have N79 := Fr.snoc X79 N77 g_b1
  obtain ⟨LL79, X79, N79⟩ := own_pack X79 N79
  obtain ⟨cl80, Ar80, q80, S80, N80_, H80, G80⟩ := id V_b1_79
  obtain ⟨T81, h81, X81, e81, W81, st81⟩ := stC X79 hx hZ e79 Ar80 (j := (39 : Int32)) (inb_of S80 ⟨by decide, by decide⟩) (g := (mkF m 197 #[vi bb] [xi bb, xi (39 : Int32), xr b1, xr b1])) rfl rfl (hb hby d1_197)
  have V_b1_81 : Arv Z h81 b1 k1 .char (43 : Int32) (own_fl (xi (nar .char bb)) 40 43) (.int (0 : Int32)) := Arv.set Ar80 q80 S80 N80_ H80 G80 (fits_nar_char _) W81 39 rfl (Nat.le_of_ble_eq_true rfl)
  have O81 := O79.wr W81 g_b1
  have Kp81 := Kp79.wr W81 (Or.inr sz_b1)
  have N81 := Fr.snoc X81 N79 g_b1
  obtain ⟨LL81, X81, N81⟩ := own_pack X81 N81
  obtain ⟨cl82, Ar82, q82, S82, N82_, H82, G82⟩ := id V_b1_81
  obtain ⟨T83, h83, X83, e83, W83, st83⟩ := stC X81 hx hZ e81 Ar82 (j := (40 : Int32)) (inb_of S82 ⟨by decide, by decide⟩) (g := (mkF m 202 #[vi bb] [xi bb, xi (40 : Int32), xr b1, xr b1])) rfl rfl (hb hby d1_202)
  have V_b1_83 : Arv Z h83 b1 k1 .char (43 : Int32) (own_fl (xi (nar .char bb)) 41 43) (.int (0 : Int32)) := Arv.set Ar82 q82 S82 N82_ H82 G82 (fits_nar_char _) W83 40 rfl (Nat.le_of_ble_eq_true rfl)
  have O83 := O81.wr W83 g_b1
  have Kp83 := Kp81.wr W83 (Or.inr sz_b1)
  have N83 := Fr.snoc X83 N81 g_b1
  obtain ⟨LL83, X83, N83⟩ := own_pack X83 N83
  obtain ⟨cl84, Ar84, q84, S84, N84_, H84, G84⟩ := id V_b1_83
  obtain ⟨T85, h85, X85, e85, W85, st85⟩ := stC X83 hx hZ e83 Ar84 (j := (41 : Int32)) (inb_of S84 ⟨by decide, by decide⟩) (g := (mkF m 207 #[vi bb] [xi bb, xi (41 : Int32), xr b1, xr b1])) rfl rfl (hb hby d1_207)
  have V_b1_85 : Arv Z h85 b1 k1 .char (43 : Int32) (own_fl (xi (nar .char bb)) 42 43) (.int (0 : Int32)) := Arv.set Ar84 q84 S84 N84_ H84 G84 (fits_nar_char _) W85 41 rfl (Nat.le_of_ble_eq_true rfl)
  have O85 := O83.wr W85 g_b1
  have Kp85 := Kp83.wr W85 (Or.inr sz_b1)
  have N85 := Fr.snoc X85 N83 g_b1
  obtain ⟨LL85, X85, N85⟩ := own_pack X85 N85
  obtain ⟨cl86, Ar86, q86, S86, N86_, H86, G86⟩ := id V_b1_85
  obtain ⟨T87, h87, X87, e87, W87, st87⟩ := stC X85 hx hZ e85 Ar86 (j := (42 : Int32)) (inb_of S86 ⟨by decide, by decide⟩) (g := (mkF m 212 #[vi bb] [xi bb, xi (42 : Int32), xr b1, xr b1])) rfl rfl (hb hby d1_212)
  have V_b1_87 : Arv Z h87 b1 k1 .char (43 : Int32) (own_fl (xi (nar .char bb)) 43 43) (.int (0 : Int32)) := Arv.set Ar86 q86 S86 N86_ H86 G86 (fits_nar_char _) W87 42 rfl (Nat.le_of_ble_eq_true rfl)
  have O87 := O85.wr W87 g_b1
  have Kp87 := Kp85.wr W87 (Or.inr sz_b1)
  have N87 := Fr.snoc X87 N85 g_b1
  obtain ⟨LL87, X87, N87⟩ := own_pack X87 N87
  obtain ⟨fs, hr, hrun, hended, hW, hsame⟩ := X87.leave (v := some (xr b1)) (fun h => by rw [Bd.returns] at h; cases h)
  refine ⟨_, _, pre0 _ ?_, hrun, hended, _, _, rfl, ?_, ⟨_, rfl⟩, hW, hsame.mono (by decide) (by decide)⟩
  · show own_S p e below s₁ (mkF m 0 #[vi bb] []) _
    refine XS.bipush X0.here hx rfl (hb hby d1_0) ?_
    show own_S p e below s₁ (mkF m 2 #[vi bb] [xi (43 : Int32)]) _
    refine st1 _ ?_
    refine XS.dup X1.here hx rfl (hb hby d1_4) rfl rfl ?_
    refine XS.iconst X1.here hx rfl (hb hby d1_5) ?_
    refine XS.iloadN X1.here hx rfl (hb hby d1_6) rfl ?_
    show own_S p e below T1 (mkF m 7 #[vi bb] [xi bb, xi (0 : Int32), xr b1, xr b1]) _
    refine st3 _ ?_
    refine XS.dup X3.here hx rfl (hb hby d1_8) rfl rfl ?_
    refine XS.iconst X3.here hx rfl (hb hby d1_9) ?_
    refine XS.iloadN X3.here hx rfl (hb hby d1_10) rfl ?_
    show own_S p e below T3 (mkF m 11 #[vi bb] [xi bb, xi (1 : Int32), xr b1, xr b1]) _
    refine st5 _ ?_
    refine XS.dup X5.here hx rfl (hb hby d1_12) rfl rfl ?_
    refine XS.iconst X5.here hx rfl (hb hby d1_13) ?_
    refine XS.iloadN X5.here hx rfl (hb hby d1_14) rfl ?_
    show own_S p e below T5 (mkF m 15 #[vi bb] [xi bb, xi (2 : Int32), xr b1, xr b1]) _
    refine st7 _ ?_
    refine XS.dup X7.here hx rfl (hb hby d1_16) rfl rfl ?_
    refine XS.iconst X7.here hx rfl (hb hby d1_17) ?_
    refine XS.iloadN X7.here hx rfl (hb hby d1_18) rfl ?_
    show own_S p e below T7 (mkF m 19 #[vi bb] [xi bb, xi (3 : Int32), xr b1, xr b1]) _
    refine st9 _ ?_
    refine XS.dup X9.here hx rfl (hb hby d1_20) rfl rfl ?_
    refine XS.iconst X9.here hx rfl (hb hby d1_21) ?_
    refine XS.iloadN X9.here hx rfl (hb hby d1_22) rfl ?_
    show own_S p e below T9 (mkF m 23 #[vi bb] [xi bb, xi (4 : Int32), xr b1, xr b1]) _
    refine st11 _ ?_
    refine XS.dup X11.here hx rfl (hb hby d1_24) rfl rfl ?_
    refine XS.iconst X11.here hx rfl (hb hby d1_25) ?_
    refine XS.iloadN X11.here hx rfl (hb hby d1_26) rfl ?_
    show own_S p e below T11 (mkF m 27 #[vi bb] [xi bb, xi (5 : Int32), xr b1, xr b1]) _
    refine st13 _ ?_
    refine XS.dup X13.here hx rfl (hb hby d1_28) rfl rfl ?_
    refine XS.bipush X13.here hx rfl (hb hby d1_29) ?_
    refine XS.iloadN X13.here hx rfl (hb hby d1_31) rfl ?_
    show own_S p e below T13 (mkF m 32 #[vi bb] [xi bb, xi (6 : Int32), xr b1, xr b1]) _
    refine st15 _ ?_
    refine XS.dup X15.here hx rfl (hb hby d1_33) rfl rfl ?_
    refine XS.bipush X15.here hx rfl (hb hby d1_34) ?_
    refine XS.iloadN X15.here hx rfl (hb hby d1_36) rfl ?_
    show own_S p e below T15 (mkF m 37 #[vi bb] [xi bb, xi (7 : Int32), xr b1, xr b1]) _
    refine st17 _ ?_
    refine XS.dup X17.here hx rfl (hb hby d1_38) rfl rfl ?_
    refine XS.bipush X17.here hx rfl (hb hby d1_39) ?_
    refine XS.iloadN X17.here hx rfl (hb hby d1_41) rfl ?_
    show own_S p e below T17 (mkF m 42 #[vi bb] [xi bb, xi (8 : Int32), xr b1, xr b1]) _
    refine st19 _ ?_
    refine XS.dup X19.here hx rfl (hb hby d1_43) rfl rfl ?_
    refine XS.bipush X19.here hx rfl (hb hby d1_44) ?_
    refine XS.iloadN X19.here hx rfl (hb hby d1_46) rfl ?_
    show own_S p e below T19 (mkF m 47 #[vi bb] [xi bb, xi (9 : Int32), xr b1, xr b1]) _
    refine st21 _ ?_
    refine XS.dup X21.here hx rfl (hb hby d1_48) rfl rfl ?_
    refine XS.bipush X21.here hx rfl (hb hby d1_49) ?_
    refine XS.iloadN X21.here hx rfl (hb hby d1_51) rfl ?_
    show own_S p e below T21 (mkF m 52 #[vi bb] [xi bb, xi (10 : Int32), xr b1, xr b1]) _
    refine st23 _ ?_
    refine XS.dup X23.here hx rfl (hb hby d1_53) rfl rfl ?_
    refine XS.bipush X23.here hx rfl (hb hby d1_54) ?_
    refine XS.iloadN X23.here hx rfl (hb hby d1_56) rfl ?_
    show own_S p e below T23 (mkF m 57 #[vi bb] [xi bb, xi (11 : Int32), xr b1, xr b1]) _
    refine st25 _ ?_
    refine XS.dup X25.here hx rfl (hb hby d1_58) rfl rfl ?_
    refine XS.bipush X25.here hx rfl (hb hby d1_59) ?_
    refine XS.iloadN X25.here hx rfl (hb hby d1_61) rfl ?_
    show own_S p e below T25 (mkF m 62 #[vi bb] [xi bb, xi (12 : Int32), xr b1, xr b1]) _
    refine st27 _ ?_
    refine XS.dup X27.here hx rfl (hb hby d1_63) rfl rfl ?_
    refine XS.bipush X27.here hx rfl (hb hby d1_64) ?_
    refine XS.iloadN X27.here hx rfl (hb hby d1_66) rfl ?_
    show own_S p e below T27 (mkF m 67 #[vi bb] [xi bb, xi (13 : Int32), xr b1, xr b1]) _
    refine st29 _ ?_
    refine XS.dup X29.here hx rfl (hb hby d1_68) rfl rfl ?_
    refine XS.bipush X29.here hx rfl (hb hby d1_69) ?_
    refine XS.iloadN X29.here hx rfl (hb hby d1_71) rfl ?_
    show own_S p e below T29 (mkF m 72 #[vi bb] [xi bb, xi (14 : Int32), xr b1, xr b1]) _
    refine st31 _ ?_
    refine XS.dup X31.here hx rfl (hb hby d1_73) rfl rfl ?_
    refine XS.bipush X31.here hx rfl (hb hby d1_74) ?_
    refine XS.iloadN X31.here hx rfl (hb hby d1_76) rfl ?_
    show own_S p e below T31 (mkF m 77 #[vi bb] [xi bb, xi (15 : Int32), xr b1, xr b1]) _
    refine st33 _ ?_
    refine XS.dup X33.here hx rfl (hb hby d1_78) rfl rfl ?_
    refine XS.bipush X33.here hx rfl (hb hby d1_79) ?_
    refine XS.iloadN X33.here hx rfl (hb hby d1_81) rfl ?_
    show own_S p e below T33 (mkF m 82 #[vi bb] [xi bb, xi (16 : Int32), xr b1, xr b1]) _
    refine st35 _ ?_
    refine XS.dup X35.here hx rfl (hb hby d1_83) rfl rfl ?_
    refine XS.bipush X35.here hx rfl (hb hby d1_84) ?_
    refine XS.iloadN X35.here hx rfl (hb hby d1_86) rfl ?_
    show own_S p e below T35 (mkF m 87 #[vi bb] [xi bb, xi (17 : Int32), xr b1, xr b1]) _
    refine st37 _ ?_
    refine XS.dup X37.here hx rfl (hb hby d1_88) rfl rfl ?_
    refine XS.bipush X37.here hx rfl (hb hby d1_89) ?_
    refine XS.iloadN X37.here hx rfl (hb hby d1_91) rfl ?_
    show own_S p e below T37 (mkF m 92 #[vi bb] [xi bb, xi (18 : Int32), xr b1, xr b1]) _
    refine st39 _ ?_
    refine XS.dup X39.here hx rfl (hb hby d1_93) rfl rfl ?_
    refine XS.bipush X39.here hx rfl (hb hby d1_94) ?_
    refine XS.iloadN X39.here hx rfl (hb hby d1_96) rfl ?_
    show own_S p e below T39 (mkF m 97 #[vi bb] [xi bb, xi (19 : Int32), xr b1, xr b1]) _
    refine st41 _ ?_
    refine XS.dup X41.here hx rfl (hb hby d1_98) rfl rfl ?_
    refine XS.bipush X41.here hx rfl (hb hby d1_99) ?_
    refine XS.iloadN X41.here hx rfl (hb hby d1_101) rfl ?_
    show own_S p e below T41 (mkF m 102 #[vi bb] [xi bb, xi (20 : Int32), xr b1, xr b1]) _
    refine st43 _ ?_
    refine XS.dup X43.here hx rfl (hb hby d1_103) rfl rfl ?_
    refine XS.bipush X43.here hx rfl (hb hby d1_104) ?_
    refine XS.iloadN X43.here hx rfl (hb hby d1_106) rfl ?_
    show own_S p e below T43 (mkF m 107 #[vi bb] [xi bb, xi (21 : Int32), xr b1, xr b1]) _
    refine st45 _ ?_
    refine XS.dup X45.here hx rfl (hb hby d1_108) rfl rfl ?_
    refine XS.bipush X45.here hx rfl (hb hby d1_109) ?_
    refine XS.iloadN X45.here hx rfl (hb hby d1_111) rfl ?_
    show own_S p e below T45 (mkF m 112 #[vi bb] [xi bb, xi (22 : Int32), xr b1, xr b1]) _
    refine st47 _ ?_
    refine XS.dup X47.here hx rfl (hb hby d1_113) rfl rfl ?_
    refine XS.bipush X47.here hx rfl (hb hby d1_114) ?_
    refine XS.iloadN X47.here hx rfl (hb hby d1_116) rfl ?_
    show own_S p e below T47 (mkF m 117 #[vi bb] [xi bb, xi (23 : Int32), xr b1, xr b1]) _
    refine st49 _ ?_
    refine XS.dup X49.here hx rfl (hb hby d1_118) rfl rfl ?_
    refine XS.bipush X49.here hx rfl (hb hby d1_119) ?_
    refine XS.iloadN X49.here hx rfl (hb hby d1_121) rfl ?_
    show own_S p e below T49 (mkF m 122 #[vi bb] [xi bb, xi (24 : Int32), xr b1, xr b1]) _
    refine st51 _ ?_
    refine XS.dup X51.here hx rfl (hb hby d1_123) rfl rfl ?_
    refine XS.bipush X51.here hx rfl (hb hby d1_124) ?_
    refine XS.iloadN X51.here hx rfl (hb hby d1_126) rfl ?_
    show own_S p e below T51 (mkF m 127 #[vi bb] [xi bb, xi (25 : Int32), xr b1, xr b1]) _
    refine st53 _ ?_
    refine XS.dup X53.here hx rfl (hb hby d1_128) rfl rfl ?_
    refine XS.bipush X53.here hx rfl (hb hby d1_129) ?_
    refine XS.iloadN X53.here hx rfl (hb hby d1_131) rfl ?_
    show own_S p e below T53 (mkF m 132 #[vi bb] [xi bb, xi (26 : Int32), xr b1, xr b1]) _
    refine st55 _ ?_
    refine XS.dup X55.here hx rfl (hb hby d1_133) rfl rfl ?_
    refine XS.bipush X55.here hx rfl (hb hby d1_134) ?_
    refine XS.iloadN X55.here hx rfl (hb hby d1_136) rfl ?_
    show own_S p e below T55 (mkF m 137 #[vi bb] [xi bb, xi (27 : Int32), xr b1, xr b1]) _
    refine st57 _ ?_
    refine XS.dup X57.here hx rfl (hb hby d1_138) rfl rfl ?_
    refine XS.bipush X57.here hx rfl (hb hby d1_139) ?_
    refine XS.iloadN X57.here hx rfl (hb hby d1_141) rfl ?_
    show own_S p e below T57 (mkF m 142 #[vi bb] [xi bb, xi (28 : Int32), xr b1, xr b1]) _
    refine st59 _ ?_
    refine XS.dup X59.here hx rfl (hb hby d1_143) rfl rfl ?_
    refine XS.bipush X59.here hx rfl (hb hby d1_144) ?_
    refine XS.iloadN X59.here hx rfl (hb hby d1_146) rfl ?_
    show own_S p e below T59 (mkF m 147 #[vi bb] [xi bb, xi (29 : Int32), xr b1, xr b1]) _
    refine st61 _ ?_
    refine XS.dup X61.here hx rfl (hb hby d1_148) rfl rfl ?_
    refine XS.bipush X61.here hx rfl (hb hby d1_149) ?_
    refine XS.iloadN X61.here hx rfl (hb hby d1_151) rfl ?_
    show own_S p e below T61 (mkF m 152 #[vi bb] [xi bb, xi (30 : Int32), xr b1, xr b1]) _
    refine st63 _ ?_
    refine XS.dup X63.here hx rfl (hb hby d1_153) rfl rfl ?_
    refine XS.bipush X63.here hx rfl (hb hby d1_154) ?_
    refine XS.iloadN X63.here hx rfl (hb hby d1_156) rfl ?_
    show own_S p e below T63 (mkF m 157 #[vi bb] [xi bb, xi (31 : Int32), xr b1, xr b1]) _
    refine st65 _ ?_
    refine XS.dup X65.here hx rfl (hb hby d1_158) rfl rfl ?_
    refine XS.bipush X65.here hx rfl (hb hby d1_159) ?_
    refine XS.iloadN X65.here hx rfl (hb hby d1_161) rfl ?_
    show own_S p e below T65 (mkF m 162 #[vi bb] [xi bb, xi (32 : Int32), xr b1, xr b1]) _
    refine st67 _ ?_
    refine XS.dup X67.here hx rfl (hb hby d1_163) rfl rfl ?_
    refine XS.bipush X67.here hx rfl (hb hby d1_164) ?_
    refine XS.iloadN X67.here hx rfl (hb hby d1_166) rfl ?_
    show own_S p e below T67 (mkF m 167 #[vi bb] [xi bb, xi (33 : Int32), xr b1, xr b1]) _
    refine st69 _ ?_
    refine XS.dup X69.here hx rfl (hb hby d1_168) rfl rfl ?_
    refine XS.bipush X69.here hx rfl (hb hby d1_169) ?_
    refine XS.iloadN X69.here hx rfl (hb hby d1_171) rfl ?_
    show own_S p e below T69 (mkF m 172 #[vi bb] [xi bb, xi (34 : Int32), xr b1, xr b1]) _
    refine st71 _ ?_
    refine XS.dup X71.here hx rfl (hb hby d1_173) rfl rfl ?_
    refine XS.bipush X71.here hx rfl (hb hby d1_174) ?_
    refine XS.iloadN X71.here hx rfl (hb hby d1_176) rfl ?_
    show own_S p e below T71 (mkF m 177 #[vi bb] [xi bb, xi (35 : Int32), xr b1, xr b1]) _
    refine st73 _ ?_
    refine XS.dup X73.here hx rfl (hb hby d1_178) rfl rfl ?_
    refine XS.bipush X73.here hx rfl (hb hby d1_179) ?_
    refine XS.iloadN X73.here hx rfl (hb hby d1_181) rfl ?_
    show own_S p e below T73 (mkF m 182 #[vi bb] [xi bb, xi (36 : Int32), xr b1, xr b1]) _
    refine st75 _ ?_
    refine XS.dup X75.here hx rfl (hb hby d1_183) rfl rfl ?_
    refine XS.bipush X75.here hx rfl (hb hby d1_184) ?_
    refine XS.iloadN X75.here hx rfl (hb hby d1_186) rfl ?_
    show own_S p e below T75 (mkF m 187 #[vi bb] [xi bb, xi (37 : Int32), xr b1, xr b1]) _
    refine st77 _ ?_
    refine XS.dup X77.here hx rfl (hb hby d1_188) rfl rfl ?_
    refine XS.bipush X77.here hx rfl (hb hby d1_189) ?_
    refine XS.iloadN X77.here hx rfl (hb hby d1_191) rfl ?_
    show own_S p e below T77 (mkF m 192 #[vi bb] [xi bb, xi (38 : Int32), xr b1, xr b1]) _
    refine st79 _ ?_
    refine XS.dup X79.here hx rfl (hb hby d1_193) rfl rfl ?_
    refine XS.bipush X79.here hx rfl (hb hby d1_194) ?_
    refine XS.iloadN X79.here hx rfl (hb hby d1_196) rfl ?_
    show own_S p e below T79 (mkF m 197 #[vi bb] [xi bb, xi (39 : Int32), xr b1, xr b1]) _
    refine st81 _ ?_
    refine XS.dup X81.here hx rfl (hb hby d1_198) rfl rfl ?_
    refine XS.bipush X81.here hx rfl (hb hby d1_199) ?_
    refine XS.iloadN X81.here hx rfl (hb hby d1_201) rfl ?_
    show own_S p e below T81 (mkF m 202 #[vi bb] [xi bb, xi (40 : Int32), xr b1, xr b1]) _
    refine st83 _ ?_
    refine XS.dup X83.here hx rfl (hb hby d1_203) rfl rfl ?_
    refine XS.bipush X83.here hx rfl (hb hby d1_204) ?_
    refine XS.iloadN X83.here hx rfl (hb hby d1_206) rfl ?_
    show own_S p e below T83 (mkF m 207 #[vi bb] [xi bb, xi (41 : Int32), xr b1, xr b1]) _
    refine st85 _ ?_
    refine XS.dup X85.here hx rfl (hb hby d1_208) rfl rfl ?_
    refine XS.bipush X85.here hx rfl (hb hby d1_209) ?_
    refine XS.iloadN X85.here hx rfl (hb hby d1_211) rfl ?_
    show own_S p e below T85 (mkF m 212 #[vi bb] [xi bb, xi (42 : Int32), xr b1, xr b1]) _
    refine st87 _ ?_
    show own_S p e below T87 (mkF m 213 #[vi bb] [xr b1]) _
    exact X87.areturnOut hx rfl Bd.returns rfl (hb hby d1_213) hr
  · show (own_QFl Z h0 n0 43 bb) _ T87.heap _
    rw [e87]
    exact ⟨b1, k1, rfl, N87, Kp87, V_b1_87, g_b1, sz_b1⟩
theorem d2_0 : decode method_4_code 0 = .ok (.bipush 44, 2) := by decide +kernel
theorem d2_2 : decode method_4_code 2 = .ok (.newarray .char, 2) := by decide +kernel
theorem d2_4 : decode method_4_code 4 = .ok (.dup, 1) := by decide +kernel
theorem d2_5 : decode method_4_code 5 = .ok (.iconst 0, 1) := by decide +kernel
theorem d2_6 : decode method_4_code 6 = .ok (.iload_n 0, 1) := by decide +kernel
theorem d2_7 : decode method_4_code 7 = .ok (.castore, 1) := by decide +kernel
theorem d2_8 : decode method_4_code 8 = .ok (.dup, 1) := by decide +kernel
theorem d2_9 : decode method_4_code 9 = .ok (.iconst 1, 1) := by decide +kernel
theorem d2_10 : decode method_4_code 10 = .ok (.iload_n 0, 1) := by decide +kernel
theorem d2_11 : decode method_4_code 11 = .ok (.castore, 1) := by decide +kernel
theorem d2_12 : decode method_4_code 12 = .ok (.dup, 1) := by decide +kernel
theorem d2_13 : decode method_4_code 13 = .ok (.iconst 2, 1) := by decide +kernel
theorem d2_14 : decode method_4_code 14 = .ok (.iload_n 0, 1) := by decide +kernel
theorem d2_15 : decode method_4_code 15 = .ok (.castore, 1) := by decide +kernel
theorem d2_16 : decode method_4_code 16 = .ok (.dup, 1) := by decide +kernel
theorem d2_17 : decode method_4_code 17 = .ok (.iconst 3, 1) := by decide +kernel
theorem d2_18 : decode method_4_code 18 = .ok (.iload_n 0, 1) := by decide +kernel
theorem d2_19 : decode method_4_code 19 = .ok (.castore, 1) := by decide +kernel
theorem d2_20 : decode method_4_code 20 = .ok (.dup, 1) := by decide +kernel
theorem d2_21 : decode method_4_code 21 = .ok (.iconst 4, 1) := by decide +kernel
theorem d2_22 : decode method_4_code 22 = .ok (.iload_n 0, 1) := by decide +kernel
theorem d2_23 : decode method_4_code 23 = .ok (.castore, 1) := by decide +kernel
theorem d2_24 : decode method_4_code 24 = .ok (.dup, 1) := by decide +kernel
theorem d2_25 : decode method_4_code 25 = .ok (.iconst 5, 1) := by decide +kernel
theorem d2_26 : decode method_4_code 26 = .ok (.iload_n 0, 1) := by decide +kernel
theorem d2_27 : decode method_4_code 27 = .ok (.castore, 1) := by decide +kernel
theorem d2_28 : decode method_4_code 28 = .ok (.dup, 1) := by decide +kernel
theorem d2_29 : decode method_4_code 29 = .ok (.bipush 6, 2) := by decide +kernel
theorem d2_31 : decode method_4_code 31 = .ok (.iload_n 0, 1) := by decide +kernel
theorem d2_32 : decode method_4_code 32 = .ok (.castore, 1) := by decide +kernel
theorem d2_33 : decode method_4_code 33 = .ok (.dup, 1) := by decide +kernel
theorem d2_34 : decode method_4_code 34 = .ok (.bipush 7, 2) := by decide +kernel
theorem d2_36 : decode method_4_code 36 = .ok (.iload_n 0, 1) := by decide +kernel
theorem d2_37 : decode method_4_code 37 = .ok (.castore, 1) := by decide +kernel
theorem d2_38 : decode method_4_code 38 = .ok (.dup, 1) := by decide +kernel
theorem d2_39 : decode method_4_code 39 = .ok (.bipush 8, 2) := by decide +kernel
theorem d2_41 : decode method_4_code 41 = .ok (.iload_n 0, 1) := by decide +kernel
theorem d2_42 : decode method_4_code 42 = .ok (.castore, 1) := by decide +kernel
theorem d2_43 : decode method_4_code 43 = .ok (.dup, 1) := by decide +kernel
theorem d2_44 : decode method_4_code 44 = .ok (.bipush 9, 2) := by decide +kernel
theorem d2_46 : decode method_4_code 46 = .ok (.iload_n 0, 1) := by decide +kernel
theorem d2_47 : decode method_4_code 47 = .ok (.castore, 1) := by decide +kernel
theorem d2_48 : decode method_4_code 48 = .ok (.dup, 1) := by decide +kernel
theorem d2_49 : decode method_4_code 49 = .ok (.bipush 10, 2) := by decide +kernel
theorem d2_51 : decode method_4_code 51 = .ok (.iload_n 0, 1) := by decide +kernel
theorem d2_52 : decode method_4_code 52 = .ok (.castore, 1) := by decide +kernel
theorem d2_53 : decode method_4_code 53 = .ok (.dup, 1) := by decide +kernel
theorem d2_54 : decode method_4_code 54 = .ok (.bipush 11, 2) := by decide +kernel
theorem d2_56 : decode method_4_code 56 = .ok (.iload_n 0, 1) := by decide +kernel
theorem d2_57 : decode method_4_code 57 = .ok (.castore, 1) := by decide +kernel
theorem d2_58 : decode method_4_code 58 = .ok (.dup, 1) := by decide +kernel
theorem d2_59 : decode method_4_code 59 = .ok (.bipush 12, 2) := by decide +kernel
theorem d2_61 : decode method_4_code 61 = .ok (.iload_n 0, 1) := by decide +kernel
theorem d2_62 : decode method_4_code 62 = .ok (.castore, 1) := by decide +kernel
theorem d2_63 : decode method_4_code 63 = .ok (.dup, 1) := by decide +kernel
theorem d2_64 : decode method_4_code 64 = .ok (.bipush 13, 2) := by decide +kernel
theorem d2_66 : decode method_4_code 66 = .ok (.iload_n 0, 1) := by decide +kernel
theorem d2_67 : decode method_4_code 67 = .ok (.castore, 1) := by decide +kernel
theorem d2_68 : decode method_4_code 68 = .ok (.dup, 1) := by decide +kernel
theorem d2_69 : decode method_4_code 69 = .ok (.bipush 14, 2) := by decide +kernel
theorem d2_71 : decode method_4_code 71 = .ok (.iload_n 0, 1) := by decide +kernel
theorem d2_72 : decode method_4_code 72 = .ok (.castore, 1) := by decide +kernel
theorem d2_73 : decode method_4_code 73 = .ok (.dup, 1) := by decide +kernel
theorem d2_74 : decode method_4_code 74 = .ok (.bipush 15, 2) := by decide +kernel
theorem d2_76 : decode method_4_code 76 = .ok (.iload_n 0, 1) := by decide +kernel
theorem d2_77 : decode method_4_code 77 = .ok (.castore, 1) := by decide +kernel
theorem d2_78 : decode method_4_code 78 = .ok (.dup, 1) := by decide +kernel
theorem d2_79 : decode method_4_code 79 = .ok (.bipush 16, 2) := by decide +kernel
theorem d2_81 : decode method_4_code 81 = .ok (.iload_n 0, 1) := by decide +kernel
theorem d2_82 : decode method_4_code 82 = .ok (.castore, 1) := by decide +kernel
theorem d2_83 : decode method_4_code 83 = .ok (.dup, 1) := by decide +kernel
theorem d2_84 : decode method_4_code 84 = .ok (.bipush 17, 2) := by decide +kernel
theorem d2_86 : decode method_4_code 86 = .ok (.iload_n 0, 1) := by decide +kernel
theorem d2_87 : decode method_4_code 87 = .ok (.castore, 1) := by decide +kernel
theorem d2_88 : decode method_4_code 88 = .ok (.dup, 1) := by decide +kernel
theorem d2_89 : decode method_4_code 89 = .ok (.bipush 18, 2) := by decide +kernel
theorem d2_91 : decode method_4_code 91 = .ok (.iload_n 0, 1) := by decide +kernel
theorem d2_92 : decode method_4_code 92 = .ok (.castore, 1) := by decide +kernel
theorem d2_93 : decode method_4_code 93 = .ok (.dup, 1) := by decide +kernel
theorem d2_94 : decode method_4_code 94 = .ok (.bipush 19, 2) := by decide +kernel
theorem d2_96 : decode method_4_code 96 = .ok (.iload_n 0, 1) := by decide +kernel
theorem d2_97 : decode method_4_code 97 = .ok (.castore, 1) := by decide +kernel
theorem d2_98 : decode method_4_code 98 = .ok (.dup, 1) := by decide +kernel
theorem d2_99 : decode method_4_code 99 = .ok (.bipush 20, 2) := by decide +kernel
theorem d2_101 : decode method_4_code 101 = .ok (.iload_n 0, 1) := by decide +kernel
theorem d2_102 : decode method_4_code 102 = .ok (.castore, 1) := by decide +kernel
theorem d2_103 : decode method_4_code 103 = .ok (.dup, 1) := by decide +kernel
theorem d2_104 : decode method_4_code 104 = .ok (.bipush 21, 2) := by decide +kernel
theorem d2_106 : decode method_4_code 106 = .ok (.iload_n 0, 1) := by decide +kernel
theorem d2_107 : decode method_4_code 107 = .ok (.castore, 1) := by decide +kernel
theorem d2_108 : decode method_4_code 108 = .ok (.dup, 1) := by decide +kernel
theorem d2_109 : decode method_4_code 109 = .ok (.bipush 22, 2) := by decide +kernel
theorem d2_111 : decode method_4_code 111 = .ok (.iload_n 0, 1) := by decide +kernel
theorem d2_112 : decode method_4_code 112 = .ok (.castore, 1) := by decide +kernel
theorem d2_113 : decode method_4_code 113 = .ok (.dup, 1) := by decide +kernel
theorem d2_114 : decode method_4_code 114 = .ok (.bipush 23, 2) := by decide +kernel
theorem d2_116 : decode method_4_code 116 = .ok (.iload_n 0, 1) := by decide +kernel
theorem d2_117 : decode method_4_code 117 = .ok (.castore, 1) := by decide +kernel
theorem d2_118 : decode method_4_code 118 = .ok (.dup, 1) := by decide +kernel
theorem d2_119 : decode method_4_code 119 = .ok (.bipush 24, 2) := by decide +kernel
theorem d2_121 : decode method_4_code 121 = .ok (.iload_n 0, 1) := by decide +kernel
theorem d2_122 : decode method_4_code 122 = .ok (.castore, 1) := by decide +kernel
theorem d2_123 : decode method_4_code 123 = .ok (.dup, 1) := by decide +kernel
theorem d2_124 : decode method_4_code 124 = .ok (.bipush 25, 2) := by decide +kernel
theorem d2_126 : decode method_4_code 126 = .ok (.iload_n 0, 1) := by decide +kernel
theorem d2_127 : decode method_4_code 127 = .ok (.castore, 1) := by decide +kernel
theorem d2_128 : decode method_4_code 128 = .ok (.dup, 1) := by decide +kernel
theorem d2_129 : decode method_4_code 129 = .ok (.bipush 26, 2) := by decide +kernel
theorem d2_131 : decode method_4_code 131 = .ok (.iload_n 0, 1) := by decide +kernel
theorem d2_132 : decode method_4_code 132 = .ok (.castore, 1) := by decide +kernel
theorem d2_133 : decode method_4_code 133 = .ok (.dup, 1) := by decide +kernel
theorem d2_134 : decode method_4_code 134 = .ok (.bipush 27, 2) := by decide +kernel
theorem d2_136 : decode method_4_code 136 = .ok (.iload_n 0, 1) := by decide +kernel
theorem d2_137 : decode method_4_code 137 = .ok (.castore, 1) := by decide +kernel
theorem d2_138 : decode method_4_code 138 = .ok (.dup, 1) := by decide +kernel
theorem d2_139 : decode method_4_code 139 = .ok (.bipush 28, 2) := by decide +kernel
theorem d2_141 : decode method_4_code 141 = .ok (.iload_n 0, 1) := by decide +kernel
theorem d2_142 : decode method_4_code 142 = .ok (.castore, 1) := by decide +kernel
theorem d2_143 : decode method_4_code 143 = .ok (.dup, 1) := by decide +kernel
theorem d2_144 : decode method_4_code 144 = .ok (.bipush 29, 2) := by decide +kernel
theorem d2_146 : decode method_4_code 146 = .ok (.iload_n 0, 1) := by decide +kernel
theorem d2_147 : decode method_4_code 147 = .ok (.castore, 1) := by decide +kernel
theorem d2_148 : decode method_4_code 148 = .ok (.dup, 1) := by decide +kernel
theorem d2_149 : decode method_4_code 149 = .ok (.bipush 30, 2) := by decide +kernel
theorem d2_151 : decode method_4_code 151 = .ok (.iload_n 0, 1) := by decide +kernel
theorem d2_152 : decode method_4_code 152 = .ok (.castore, 1) := by decide +kernel
theorem d2_153 : decode method_4_code 153 = .ok (.dup, 1) := by decide +kernel
theorem d2_154 : decode method_4_code 154 = .ok (.bipush 31, 2) := by decide +kernel
theorem d2_156 : decode method_4_code 156 = .ok (.iload_n 0, 1) := by decide +kernel
theorem d2_157 : decode method_4_code 157 = .ok (.castore, 1) := by decide +kernel
theorem d2_158 : decode method_4_code 158 = .ok (.dup, 1) := by decide +kernel
theorem d2_159 : decode method_4_code 159 = .ok (.bipush 32, 2) := by decide +kernel
theorem d2_161 : decode method_4_code 161 = .ok (.iload_n 0, 1) := by decide +kernel
theorem d2_162 : decode method_4_code 162 = .ok (.castore, 1) := by decide +kernel
theorem d2_163 : decode method_4_code 163 = .ok (.dup, 1) := by decide +kernel
theorem d2_164 : decode method_4_code 164 = .ok (.bipush 33, 2) := by decide +kernel
theorem d2_166 : decode method_4_code 166 = .ok (.iload_n 0, 1) := by decide +kernel
theorem d2_167 : decode method_4_code 167 = .ok (.castore, 1) := by decide +kernel
theorem d2_168 : decode method_4_code 168 = .ok (.dup, 1) := by decide +kernel
theorem d2_169 : decode method_4_code 169 = .ok (.bipush 34, 2) := by decide +kernel
theorem d2_171 : decode method_4_code 171 = .ok (.iload_n 0, 1) := by decide +kernel
theorem d2_172 : decode method_4_code 172 = .ok (.castore, 1) := by decide +kernel
theorem d2_173 : decode method_4_code 173 = .ok (.dup, 1) := by decide +kernel
theorem d2_174 : decode method_4_code 174 = .ok (.bipush 35, 2) := by decide +kernel
theorem d2_176 : decode method_4_code 176 = .ok (.iload_n 0, 1) := by decide +kernel
theorem d2_177 : decode method_4_code 177 = .ok (.castore, 1) := by decide +kernel
theorem d2_178 : decode method_4_code 178 = .ok (.dup, 1) := by decide +kernel
theorem d2_179 : decode method_4_code 179 = .ok (.bipush 36, 2) := by decide +kernel
theorem d2_181 : decode method_4_code 181 = .ok (.iload_n 0, 1) := by decide +kernel
theorem d2_182 : decode method_4_code 182 = .ok (.castore, 1) := by decide +kernel
theorem d2_183 : decode method_4_code 183 = .ok (.dup, 1) := by decide +kernel
theorem d2_184 : decode method_4_code 184 = .ok (.bipush 37, 2) := by decide +kernel
theorem d2_186 : decode method_4_code 186 = .ok (.iload_n 0, 1) := by decide +kernel
theorem d2_187 : decode method_4_code 187 = .ok (.castore, 1) := by decide +kernel
theorem d2_188 : decode method_4_code 188 = .ok (.dup, 1) := by decide +kernel
theorem d2_189 : decode method_4_code 189 = .ok (.bipush 38, 2) := by decide +kernel
theorem d2_191 : decode method_4_code 191 = .ok (.iload_n 0, 1) := by decide +kernel
theorem d2_192 : decode method_4_code 192 = .ok (.castore, 1) := by decide +kernel
theorem d2_193 : decode method_4_code 193 = .ok (.dup, 1) := by decide +kernel
theorem d2_194 : decode method_4_code 194 = .ok (.bipush 39, 2) := by decide +kernel
theorem d2_196 : decode method_4_code 196 = .ok (.iload_n 0, 1) := by decide +kernel
theorem d2_197 : decode method_4_code 197 = .ok (.castore, 1) := by decide +kernel
theorem d2_198 : decode method_4_code 198 = .ok (.dup, 1) := by decide +kernel
theorem d2_199 : decode method_4_code 199 = .ok (.bipush 40, 2) := by decide +kernel
theorem d2_201 : decode method_4_code 201 = .ok (.iload_n 0, 1) := by decide +kernel
theorem d2_202 : decode method_4_code 202 = .ok (.castore, 1) := by decide +kernel
theorem d2_203 : decode method_4_code 203 = .ok (.dup, 1) := by decide +kernel
theorem d2_204 : decode method_4_code 204 = .ok (.bipush 41, 2) := by decide +kernel
theorem d2_206 : decode method_4_code 206 = .ok (.iload_n 0, 1) := by decide +kernel
theorem d2_207 : decode method_4_code 207 = .ok (.castore, 1) := by decide +kernel
theorem d2_208 : decode method_4_code 208 = .ok (.dup, 1) := by decide +kernel
theorem d2_209 : decode method_4_code 209 = .ok (.bipush 42, 2) := by decide +kernel
theorem d2_211 : decode method_4_code 211 = .ok (.iload_n 0, 1) := by decide +kernel
theorem d2_212 : decode method_4_code 212 = .ok (.castore, 1) := by decide +kernel
theorem d2_213 : decode method_4_code 213 = .ok (.dup, 1) := by decide +kernel
theorem d2_214 : decode method_4_code 214 = .ok (.bipush 43, 2) := by decide +kernel
theorem d2_216 : decode method_4_code 216 = .ok (.iload_n 0, 1) := by decide +kernel
theorem d2_217 : decode method_4_code 217 = .ok (.castore, 1) := by decide +kernel
theorem d2_218 : decode method_4_code 218 = .ok (.areturn, 1) := by decide +kernel
abbrev Y30 : MethodName := (⟨"com/example/scopelock/scopelock/KeyWellFormedPinLaw", "filled44", "(C)[C"⟩ : MethodName)
theorem ef_own_filled44 (m : MethodId)  (ki0 : Int32) (vf0 : Value) (bb : Int32) : entryFrame m #[xi bb] 1 = (mkF m 0 #[vi bb] []) := by first | (simp [entryFrame, mkF, argsToLocals, Value.category]; done) | rfl
set_option maxRecDepth 65536 in
set_option maxHeartbeats 40000000 in
theorem own_filled44 (l : Launch) (Z : State) (a0 : Array Value) (hw : ∀ d ∈ tables_1, d.before a0 Z = true) (hj : ∀ d ∈ jdkStatics_1, d.before a0 Z = true)  (ki0 : Int32) (vf0 : Value) (G : own_St Z hj ki0 vf0) (bb : Int32) (h0 : Heap) (n0 : Nat) (O0 : Old Z n0 h0) : own_Met l Z Y30 method_4_code 1 (some (.array .char)) ({ frames := 0, cells := 1, slots := 44, locals := 0 } : Room) #[xi bb] h0 (own_QFl Z h0 n0 44 bb) := by
  intro ws
  refine MetFree.of_bodySF (plainFor_of_name pn2) hisR ?_
  intro p e s m args below meth c s₁ Bd hml0 hP hK
  obtain ⟨rfl, hZ, hh⟩ := hP
  have hx := Bd.exec
  have hby := Bd.bytes
  have hml : c.maxLocals = 1 := hml0
  have hown : s.vm.findClass "com/example/scopelock/scopelock/KeyWellFormedPinLaw" = some m.cls := findClass_of_methodNamed Bd.named
  have hnm := (name_of_methodNamed Bd.named Bd.method).1
  have X0 : Stand p l e ({ frames := 0, cells := 1, slots := 44, locals := 0 } : Room) s m #[xi bb] below meth c s₁ [] 0 0 := Stand.of_body Bd
  have e0 : s₁.heap = h0 := by rw [← hh, Bd.state]; rfl
  have N0 := Fr.nil n0
  have pre0 : ∀ t, Steps p.tables e below (s₁.setTop (mkF m 0 #[vi bb] [])) t → Steps p.tables e below (s₁.setTop (entryFrame m #[xi bb] 1)) t := fun t st => castTop (ef_own_filled44 m ki0 vf0 bb) st
  obtain ⟨T1, h1, k1, X1, e1, E1, A1, st1⟩ := newP X0 hx hZ (ww hw 6 rfl) e0 (g := (mkF m 2 #[vi bb] [xi (44 : Int32)])) rfl (hb hby d2_2) rfl (by decide) (cap := 44) (by decide) (by decide) (by decide) (by decide)
  obtain ⟨b1, g1⟩ : ∃ z, z = h0.size := ⟨_, rfl⟩
  rw [← g1] at A1 st1
  have g_b1 : n0 ≤ b1 := own_fresh O0 g1
  have sz_b1 : h0.size ≤ b1 := Nat.le_trans (Keep.refl h0 []).1 (Nat.le_of_eq g1.symm)
  have O1 := O0.ext E1
  have Kp1 : Keep h0 h1 [] := (Keep.refl h0 []).ext E1
  have V_b1 : Arv Z h1 b1 k1 .char (44 : Int32) [(.int (0 : Int32)), (.int (0 : Int32)), (.int (0 : Int32)), (.int (0 : Int32)), (.int (0 : Int32)), (.int (0 : Int32)), (.int (0 : Int32)), (.int (0 : Int32)), (.int (0 : Int32)), (.int (0 : Int32)), (.int (0 : Int32)), (.int (0 : Int32)), (.int (0 : Int32)), (.int (0 : Int32)), (.int (0 : Int32)), (.int (0 : Int32)), (.int (0 : Int32)), (.int (0 : Int32)), (.int (0 : Int32)), (.int (0 : Int32)), (.int (0 : Int32)), (.int (0 : Int32)), (.int (0 : Int32)), (.int (0 : Int32)), (.int (0 : Int32)), (.int (0 : Int32)), (.int (0 : Int32)), (.int (0 : Int32)), (.int (0 : Int32)), (.int (0 : Int32)), (.int (0 : Int32)), (.int (0 : Int32)), (.int (0 : Int32)), (.int (0 : Int32)), (.int (0 : Int32)), (.int (0 : Int32)), (.int (0 : Int32)), (.int (0 : Int32)), (.int (0 : Int32)), (.int (0 : Int32)), (.int (0 : Int32)), (.int (0 : Int32)), (.int (0 : Int32)), (.int (0 : Int32))] (.int (0 : Int32)) := (Arv.new A1 (by decide)).pad (pad_rep [] (.int (0 : Int32)) 44)
  obtain ⟨cl2, Ar2, q2, S2, N2_, H2, G2⟩ := id V_b1
  obtain ⟨T3, h3, X3, e3, W3, st3⟩ := stC X1 hx hZ e1 Ar2 (j := (0 : Int32)) (inb_of S2 ⟨by decide, by decide⟩) (g := (mkF m 7 #[vi bb] [xi bb, xi (0 : Int32), xr b1, xr b1])) rfl rfl (hb hby d2_7)
  have V_b1_3 : Arv Z h3 b1 k1 .char (44 : Int32) (own_fl (xi (nar .char bb)) 1 44) (.int (0 : Int32)) := Arv.set Ar2 q2 S2 N2_ H2 G2 (fits_nar_char _) W3 0 rfl (Nat.le_of_ble_eq_true rfl)
  have O3 := O1.wr W3 g_b1
  have Kp3 := Kp1.wr W3 (Or.inr sz_b1)
  have N3 := Fr.snoc X3 N0 g_b1
  obtain ⟨LL3, X3, N3⟩ := own_pack X3 N3
  obtain ⟨cl4, Ar4, q4, S4, N4_, H4, G4⟩ := id V_b1_3
  obtain ⟨T5, h5, X5, e5, W5, st5⟩ := stC X3 hx hZ e3 Ar4 (j := (1 : Int32)) (inb_of S4 ⟨by decide, by decide⟩) (g := (mkF m 11 #[vi bb] [xi bb, xi (1 : Int32), xr b1, xr b1])) rfl rfl (hb hby d2_11)
  have V_b1_5 : Arv Z h5 b1 k1 .char (44 : Int32) (own_fl (xi (nar .char bb)) 2 44) (.int (0 : Int32)) := Arv.set Ar4 q4 S4 N4_ H4 G4 (fits_nar_char _) W5 1 rfl (Nat.le_of_ble_eq_true rfl)
  have O5 := O3.wr W5 g_b1
  have Kp5 := Kp3.wr W5 (Or.inr sz_b1)
  have N5 := Fr.snoc X5 N3 g_b1
  obtain ⟨LL5, X5, N5⟩ := own_pack X5 N5
  obtain ⟨cl6, Ar6, q6, S6, N6_, H6, G6⟩ := id V_b1_5
  obtain ⟨T7, h7, X7, e7, W7, st7⟩ := stC X5 hx hZ e5 Ar6 (j := (2 : Int32)) (inb_of S6 ⟨by decide, by decide⟩) (g := (mkF m 15 #[vi bb] [xi bb, xi (2 : Int32), xr b1, xr b1])) rfl rfl (hb hby d2_15)
  have V_b1_7 : Arv Z h7 b1 k1 .char (44 : Int32) (own_fl (xi (nar .char bb)) 3 44) (.int (0 : Int32)) := Arv.set Ar6 q6 S6 N6_ H6 G6 (fits_nar_char _) W7 2 rfl (Nat.le_of_ble_eq_true rfl)
  have O7 := O5.wr W7 g_b1
  have Kp7 := Kp5.wr W7 (Or.inr sz_b1)
  have N7 := Fr.snoc X7 N5 g_b1
  obtain ⟨LL7, X7, N7⟩ := own_pack X7 N7
  obtain ⟨cl8, Ar8, q8, S8, N8_, H8, G8⟩ := id V_b1_7
  obtain ⟨T9, h9, X9, e9, W9, st9⟩ := stC X7 hx hZ e7 Ar8 (j := (3 : Int32)) (inb_of S8 ⟨by decide, by decide⟩) (g := (mkF m 19 #[vi bb] [xi bb, xi (3 : Int32), xr b1, xr b1])) rfl rfl (hb hby d2_19)
  have V_b1_9 : Arv Z h9 b1 k1 .char (44 : Int32) (own_fl (xi (nar .char bb)) 4 44) (.int (0 : Int32)) := Arv.set Ar8 q8 S8 N8_ H8 G8 (fits_nar_char _) W9 3 rfl (Nat.le_of_ble_eq_true rfl)
  have O9 := O7.wr W9 g_b1
  have Kp9 := Kp7.wr W9 (Or.inr sz_b1)
  have N9 := Fr.snoc X9 N7 g_b1
  obtain ⟨LL9, X9, N9⟩ := own_pack X9 N9
  obtain ⟨cl10, Ar10, q10, S10, N10_, H10, G10⟩ := id V_b1_9
  obtain ⟨T11, h11, X11, e11, W11, st11⟩ := stC X9 hx hZ e9 Ar10 (j := (4 : Int32)) (inb_of S10 ⟨by decide, by decide⟩) (g := (mkF m 23 #[vi bb] [xi bb, xi (4 : Int32), xr b1, xr b1])) rfl rfl (hb hby d2_23)
  have V_b1_11 : Arv Z h11 b1 k1 .char (44 : Int32) (own_fl (xi (nar .char bb)) 5 44) (.int (0 : Int32)) := Arv.set Ar10 q10 S10 N10_ H10 G10 (fits_nar_char _) W11 4 rfl (Nat.le_of_ble_eq_true rfl)
  have O11 := O9.wr W11 g_b1
  have Kp11 := Kp9.wr W11 (Or.inr sz_b1)
  have N11 := Fr.snoc X11 N9 g_b1
  obtain ⟨LL11, X11, N11⟩ := own_pack X11 N11
  obtain ⟨cl12, Ar12, q12, S12, N12_, H12, G12⟩ := id V_b1_11
  obtain ⟨T13, h13, X13, e13, W13, st13⟩ := stC X11 hx hZ e11 Ar12 (j := (5 : Int32)) (inb_of S12 ⟨by decide, by decide⟩) (g := (mkF m 27 #[vi bb] [xi bb, xi (5 : Int32), xr b1, xr b1])) rfl rfl (hb hby d2_27)
  have V_b1_13 : Arv Z h13 b1 k1 .char (44 : Int32) (own_fl (xi (nar .char bb)) 6 44) (.int (0 : Int32)) := Arv.set Ar12 q12 S12 N12_ H12 G12 (fits_nar_char _) W13 5 rfl (Nat.le_of_ble_eq_true rfl)
  have O13 := O11.wr W13 g_b1
  have Kp13 := Kp11.wr W13 (Or.inr sz_b1)
  have N13 := Fr.snoc X13 N11 g_b1
  obtain ⟨LL13, X13, N13⟩ := own_pack X13 N13
  obtain ⟨cl14, Ar14, q14, S14, N14_, H14, G14⟩ := id V_b1_13
  obtain ⟨T15, h15, X15, e15, W15, st15⟩ := stC X13 hx hZ e13 Ar14 (j := (6 : Int32)) (inb_of S14 ⟨by decide, by decide⟩) (g := (mkF m 32 #[vi bb] [xi bb, xi (6 : Int32), xr b1, xr b1])) rfl rfl (hb hby d2_32)
  have V_b1_15 : Arv Z h15 b1 k1 .char (44 : Int32) (own_fl (xi (nar .char bb)) 7 44) (.int (0 : Int32)) := Arv.set Ar14 q14 S14 N14_ H14 G14 (fits_nar_char _) W15 6 rfl (Nat.le_of_ble_eq_true rfl)
  have O15 := O13.wr W15 g_b1
  have Kp15 := Kp13.wr W15 (Or.inr sz_b1)
  have N15 := Fr.snoc X15 N13 g_b1
  obtain ⟨LL15, X15, N15⟩ := own_pack X15 N15
  obtain ⟨cl16, Ar16, q16, S16, N16_, H16, G16⟩ := id V_b1_15
  obtain ⟨T17, h17, X17, e17, W17, st17⟩ := stC X15 hx hZ e15 Ar16 (j := (7 : Int32)) (inb_of S16 ⟨by decide, by decide⟩) (g := (mkF m 37 #[vi bb] [xi bb, xi (7 : Int32), xr b1, xr b1])) rfl rfl (hb hby d2_37)
  have V_b1_17 : Arv Z h17 b1 k1 .char (44 : Int32) (own_fl (xi (nar .char bb)) 8 44) (.int (0 : Int32)) := Arv.set Ar16 q16 S16 N16_ H16 G16 (fits_nar_char _) W17 7 rfl (Nat.le_of_ble_eq_true rfl)
  have O17 := O15.wr W17 g_b1
  have Kp17 := Kp15.wr W17 (Or.inr sz_b1)
  have N17 := Fr.snoc X17 N15 g_b1
  obtain ⟨LL17, X17, N17⟩ := own_pack X17 N17
  obtain ⟨cl18, Ar18, q18, S18, N18_, H18, G18⟩ := id V_b1_17
  obtain ⟨T19, h19, X19, e19, W19, st19⟩ := stC X17 hx hZ e17 Ar18 (j := (8 : Int32)) (inb_of S18 ⟨by decide, by decide⟩) (g := (mkF m 42 #[vi bb] [xi bb, xi (8 : Int32), xr b1, xr b1])) rfl rfl (hb hby d2_42)
  have V_b1_19 : Arv Z h19 b1 k1 .char (44 : Int32) (own_fl (xi (nar .char bb)) 9 44) (.int (0 : Int32)) := Arv.set Ar18 q18 S18 N18_ H18 G18 (fits_nar_char _) W19 8 rfl (Nat.le_of_ble_eq_true rfl)
  have O19 := O17.wr W19 g_b1
  have Kp19 := Kp17.wr W19 (Or.inr sz_b1)
  have N19 := Fr.snoc X19 N17 g_b1
  obtain ⟨LL19, X19, N19⟩ := own_pack X19 N19
  obtain ⟨cl20, Ar20, q20, S20, N20_, H20, G20⟩ := id V_b1_19
  obtain ⟨T21, h21, X21, e21, W21, st21⟩ := stC X19 hx hZ e19 Ar20 (j := (9 : Int32)) (inb_of S20 ⟨by decide, by decide⟩) (g := (mkF m 47 #[vi bb] [xi bb, xi (9 : Int32), xr b1, xr b1])) rfl rfl (hb hby d2_47)
  have V_b1_21 : Arv Z h21 b1 k1 .char (44 : Int32) (own_fl (xi (nar .char bb)) 10 44) (.int (0 : Int32)) := Arv.set Ar20 q20 S20 N20_ H20 G20 (fits_nar_char _) W21 9 rfl (Nat.le_of_ble_eq_true rfl)
  have O21 := O19.wr W21 g_b1
  have Kp21 := Kp19.wr W21 (Or.inr sz_b1)
  have N21 := Fr.snoc X21 N19 g_b1
  obtain ⟨LL21, X21, N21⟩ := own_pack X21 N21
  obtain ⟨cl22, Ar22, q22, S22, N22_, H22, G22⟩ := id V_b1_21
  obtain ⟨T23, h23, X23, e23, W23, st23⟩ := stC X21 hx hZ e21 Ar22 (j := (10 : Int32)) (inb_of S22 ⟨by decide, by decide⟩) (g := (mkF m 52 #[vi bb] [xi bb, xi (10 : Int32), xr b1, xr b1])) rfl rfl (hb hby d2_52)
  have V_b1_23 : Arv Z h23 b1 k1 .char (44 : Int32) (own_fl (xi (nar .char bb)) 11 44) (.int (0 : Int32)) := Arv.set Ar22 q22 S22 N22_ H22 G22 (fits_nar_char _) W23 10 rfl (Nat.le_of_ble_eq_true rfl)
  have O23 := O21.wr W23 g_b1
  have Kp23 := Kp21.wr W23 (Or.inr sz_b1)
  have N23 := Fr.snoc X23 N21 g_b1
  obtain ⟨LL23, X23, N23⟩ := own_pack X23 N23
  obtain ⟨cl24, Ar24, q24, S24, N24_, H24, G24⟩ := id V_b1_23
  obtain ⟨T25, h25, X25, e25, W25, st25⟩ := stC X23 hx hZ e23 Ar24 (j := (11 : Int32)) (inb_of S24 ⟨by decide, by decide⟩) (g := (mkF m 57 #[vi bb] [xi bb, xi (11 : Int32), xr b1, xr b1])) rfl rfl (hb hby d2_57)
  have V_b1_25 : Arv Z h25 b1 k1 .char (44 : Int32) (own_fl (xi (nar .char bb)) 12 44) (.int (0 : Int32)) := Arv.set Ar24 q24 S24 N24_ H24 G24 (fits_nar_char _) W25 11 rfl (Nat.le_of_ble_eq_true rfl)
  have O25 := O23.wr W25 g_b1
  have Kp25 := Kp23.wr W25 (Or.inr sz_b1)
  have N25 := Fr.snoc X25 N23 g_b1
  obtain ⟨LL25, X25, N25⟩ := own_pack X25 N25
  obtain ⟨cl26, Ar26, q26, S26, N26_, H26, G26⟩ := id V_b1_25
  obtain ⟨T27, h27, X27, e27, W27, st27⟩ := stC X25 hx hZ e25 Ar26 (j := (12 : Int32)) (inb_of S26 ⟨by decide, by decide⟩) (g := (mkF m 62 #[vi bb] [xi bb, xi (12 : Int32), xr b1, xr b1])) rfl rfl (hb hby d2_62)
  have V_b1_27 : Arv Z h27 b1 k1 .char (44 : Int32) (own_fl (xi (nar .char bb)) 13 44) (.int (0 : Int32)) := Arv.set Ar26 q26 S26 N26_ H26 G26 (fits_nar_char _) W27 12 rfl (Nat.le_of_ble_eq_true rfl)
  have O27 := O25.wr W27 g_b1
  have Kp27 := Kp25.wr W27 (Or.inr sz_b1)
  have N27 := Fr.snoc X27 N25 g_b1
  obtain ⟨LL27, X27, N27⟩ := own_pack X27 N27
  obtain ⟨cl28, Ar28, q28, S28, N28_, H28, G28⟩ := id V_b1_27
  obtain ⟨T29, h29, X29, e29, W29, st29⟩ := stC X27 hx hZ e27 Ar28 (j := (13 : Int32)) (inb_of S28 ⟨by decide, by decide⟩) (g := (mkF m 67 #[vi bb] [xi bb, xi (13 : Int32), xr b1, xr b1])) rfl rfl (hb hby d2_67)
  have V_b1_29 : Arv Z h29 b1 k1 .char (44 : Int32) (own_fl (xi (nar .char bb)) 14 44) (.int (0 : Int32)) := Arv.set Ar28 q28 S28 N28_ H28 G28 (fits_nar_char _) W29 13 rfl (Nat.le_of_ble_eq_true rfl)
  have O29 := O27.wr W29 g_b1
  have Kp29 := Kp27.wr W29 (Or.inr sz_b1)
  have N29 := Fr.snoc X29 N27 g_b1
  obtain ⟨LL29, X29, N29⟩ := own_pack X29 N29
  obtain ⟨cl30, Ar30, q30, S30, N30_, H30, G30⟩ := id V_b1_29
  obtain ⟨T31, h31, X31, e31, W31, st31⟩ := stC X29 hx hZ e29 Ar30 (j := (14 : Int32)) (inb_of S30 ⟨by decide, by decide⟩) (g := (mkF m 72 #[vi bb] [xi bb, xi (14 : Int32), xr b1, xr b1])) rfl rfl (hb hby d2_72)
  have V_b1_31 : Arv Z h31 b1 k1 .char (44 : Int32) (own_fl (xi (nar .char bb)) 15 44) (.int (0 : Int32)) := Arv.set Ar30 q30 S30 N30_ H30 G30 (fits_nar_char _) W31 14 rfl (Nat.le_of_ble_eq_true rfl)
  have O31 := O29.wr W31 g_b1
  have Kp31 := Kp29.wr W31 (Or.inr sz_b1)
  have N31 := Fr.snoc X31 N29 g_b1
  obtain ⟨LL31, X31, N31⟩ := own_pack X31 N31
  obtain ⟨cl32, Ar32, q32, S32, N32_, H32, G32⟩ := id V_b1_31
  obtain ⟨T33, h33, X33, e33, W33, st33⟩ := stC X31 hx hZ e31 Ar32 (j := (15 : Int32)) (inb_of S32 ⟨by decide, by decide⟩) (g := (mkF m 77 #[vi bb] [xi bb, xi (15 : Int32), xr b1, xr b1])) rfl rfl (hb hby d2_77)
  have V_b1_33 : Arv Z h33 b1 k1 .char (44 : Int32) (own_fl (xi (nar .char bb)) 16 44) (.int (0 : Int32)) := Arv.set Ar32 q32 S32 N32_ H32 G32 (fits_nar_char _) W33 15 rfl (Nat.le_of_ble_eq_true rfl)
  have O33 := O31.wr W33 g_b1
  have Kp33 := Kp31.wr W33 (Or.inr sz_b1)
  have N33 := Fr.snoc X33 N31 g_b1
  obtain ⟨LL33, X33, N33⟩ := own_pack X33 N33
  obtain ⟨cl34, Ar34, q34, S34, N34_, H34, G34⟩ := id V_b1_33
  obtain ⟨T35, h35, X35, e35, W35, st35⟩ := stC X33 hx hZ e33 Ar34 (j := (16 : Int32)) (inb_of S34 ⟨by decide, by decide⟩) (g := (mkF m 82 #[vi bb] [xi bb, xi (16 : Int32), xr b1, xr b1])) rfl rfl (hb hby d2_82)
  have V_b1_35 : Arv Z h35 b1 k1 .char (44 : Int32) (own_fl (xi (nar .char bb)) 17 44) (.int (0 : Int32)) := Arv.set Ar34 q34 S34 N34_ H34 G34 (fits_nar_char _) W35 16 rfl (Nat.le_of_ble_eq_true rfl)
  have O35 := O33.wr W35 g_b1
  have Kp35 := Kp33.wr W35 (Or.inr sz_b1)
  have N35 := Fr.snoc X35 N33 g_b1
  obtain ⟨LL35, X35, N35⟩ := own_pack X35 N35
  obtain ⟨cl36, Ar36, q36, S36, N36_, H36, G36⟩ := id V_b1_35
  obtain ⟨T37, h37, X37, e37, W37, st37⟩ := stC X35 hx hZ e35 Ar36 (j := (17 : Int32)) (inb_of S36 ⟨by decide, by decide⟩) (g := (mkF m 87 #[vi bb] [xi bb, xi (17 : Int32), xr b1, xr b1])) rfl rfl (hb hby d2_87)
  have V_b1_37 : Arv Z h37 b1 k1 .char (44 : Int32) (own_fl (xi (nar .char bb)) 18 44) (.int (0 : Int32)) := Arv.set Ar36 q36 S36 N36_ H36 G36 (fits_nar_char _) W37 17 rfl (Nat.le_of_ble_eq_true rfl)
  have O37 := O35.wr W37 g_b1
  have Kp37 := Kp35.wr W37 (Or.inr sz_b1)
  have N37 := Fr.snoc X37 N35 g_b1
  obtain ⟨LL37, X37, N37⟩ := own_pack X37 N37
  obtain ⟨cl38, Ar38, q38, S38, N38_, H38, G38⟩ := id V_b1_37
  obtain ⟨T39, h39, X39, e39, W39, st39⟩ := stC X37 hx hZ e37 Ar38 (j := (18 : Int32)) (inb_of S38 ⟨by decide, by decide⟩) (g := (mkF m 92 #[vi bb] [xi bb, xi (18 : Int32), xr b1, xr b1])) rfl rfl (hb hby d2_92)
  have V_b1_39 : Arv Z h39 b1 k1 .char (44 : Int32) (own_fl (xi (nar .char bb)) 19 44) (.int (0 : Int32)) := Arv.set Ar38 q38 S38 N38_ H38 G38 (fits_nar_char _) W39 18 rfl (Nat.le_of_ble_eq_true rfl)
  have O39 := O37.wr W39 g_b1
  have Kp39 := Kp37.wr W39 (Or.inr sz_b1)
  have N39 := Fr.snoc X39 N37 g_b1
  obtain ⟨LL39, X39, N39⟩ := own_pack X39 N39
  obtain ⟨cl40, Ar40, q40, S40, N40_, H40, G40⟩ := id V_b1_39
  obtain ⟨T41, h41, X41, e41, W41, st41⟩ := stC X39 hx hZ e39 Ar40 (j := (19 : Int32)) (inb_of S40 ⟨by decide, by decide⟩) (g := (mkF m 97 #[vi bb] [xi bb, xi (19 : Int32), xr b1, xr b1])) rfl rfl (hb hby d2_97)
  have V_b1_41 : Arv Z h41 b1 k1 .char (44 : Int32) (own_fl (xi (nar .char bb)) 20 44) (.int (0 : Int32)) := Arv.set Ar40 q40 S40 N40_ H40 G40 (fits_nar_char _) W41 19 rfl (Nat.le_of_ble_eq_true rfl)
  have O41 := O39.wr W41 g_b1
  have Kp41 := Kp39.wr W41 (Or.inr sz_b1)
  have N41 := Fr.snoc X41 N39 g_b1
  obtain ⟨LL41, X41, N41⟩ := own_pack X41 N41
  obtain ⟨cl42, Ar42, q42, S42, N42_, H42, G42⟩ := id V_b1_41
  obtain ⟨T43, h43, X43, e43, W43, st43⟩ := stC X41 hx hZ e41 Ar42 (j := (20 : Int32)) (inb_of S42 ⟨by decide, by decide⟩) (g := (mkF m 102 #[vi bb] [xi bb, xi (20 : Int32), xr b1, xr b1])) rfl rfl (hb hby d2_102)
  have V_b1_43 : Arv Z h43 b1 k1 .char (44 : Int32) (own_fl (xi (nar .char bb)) 21 44) (.int (0 : Int32)) := Arv.set Ar42 q42 S42 N42_ H42 G42 (fits_nar_char _) W43 20 rfl (Nat.le_of_ble_eq_true rfl)
  have O43 := O41.wr W43 g_b1
  have Kp43 := Kp41.wr W43 (Or.inr sz_b1)
  have N43 := Fr.snoc X43 N41 g_b1
  obtain ⟨LL43, X43, N43⟩ := own_pack X43 N43
  obtain ⟨cl44, Ar44, q44, S44, N44_, H44, G44⟩ := id V_b1_43
  obtain ⟨T45, h45, X45, e45, W45, st45⟩ := stC X43 hx hZ e43 Ar44 (j := (21 : Int32)) (inb_of S44 ⟨by decide, by decide⟩) (g := (mkF m 107 #[vi bb] [xi bb, xi (21 : Int32), xr b1, xr b1])) rfl rfl (hb hby d2_107)
  have V_b1_45 : Arv Z h45 b1 k1 .char (44 : Int32) (own_fl (xi (nar .char bb)) 22 44) (.int (0 : Int32)) := Arv.set Ar44 q44 S44 N44_ H44 G44 (fits_nar_char _) W45 21 rfl (Nat.le_of_ble_eq_true rfl)
  have O45 := O43.wr W45 g_b1
  have Kp45 := Kp43.wr W45 (Or.inr sz_b1)
  have N45 := Fr.snoc X45 N43 g_b1
  obtain ⟨LL45, X45, N45⟩ := own_pack X45 N45
  obtain ⟨cl46, Ar46, q46, S46, N46_, H46, G46⟩ := id V_b1_45
  obtain ⟨T47, h47, X47, e47, W47, st47⟩ := stC X45 hx hZ e45 Ar46 (j := (22 : Int32)) (inb_of S46 ⟨by decide, by decide⟩) (g := (mkF m 112 #[vi bb] [xi bb, xi (22 : Int32), xr b1, xr b1])) rfl rfl (hb hby d2_112)
  have V_b1_47 : Arv Z h47 b1 k1 .char (44 : Int32) (own_fl (xi (nar .char bb)) 23 44) (.int (0 : Int32)) := Arv.set Ar46 q46 S46 N46_ H46 G46 (fits_nar_char _) W47 22 rfl (Nat.le_of_ble_eq_true rfl)
  have O47 := O45.wr W47 g_b1
  have Kp47 := Kp45.wr W47 (Or.inr sz_b1)
  have N47 := Fr.snoc X47 N45 g_b1
  obtain ⟨LL47, X47, N47⟩ := own_pack X47 N47
  obtain ⟨cl48, Ar48, q48, S48, N48_, H48, G48⟩ := id V_b1_47
  obtain ⟨T49, h49, X49, e49, W49, st49⟩ := stC X47 hx hZ e47 Ar48 (j := (23 : Int32)) (inb_of S48 ⟨by decide, by decide⟩) (g := (mkF m 117 #[vi bb] [xi bb, xi (23 : Int32), xr b1, xr b1])) rfl rfl (hb hby d2_117)
  have V_b1_49 : Arv Z h49 b1 k1 .char (44 : Int32) (own_fl (xi (nar .char bb)) 24 44) (.int (0 : Int32)) := Arv.set Ar48 q48 S48 N48_ H48 G48 (fits_nar_char _) W49 23 rfl (Nat.le_of_ble_eq_true rfl)
  have O49 := O47.wr W49 g_b1
  have Kp49 := Kp47.wr W49 (Or.inr sz_b1)
  have N49 := Fr.snoc X49 N47 g_b1
  obtain ⟨LL49, X49, N49⟩ := own_pack X49 N49
  obtain ⟨cl50, Ar50, q50, S50, N50_, H50, G50⟩ := id V_b1_49
  obtain ⟨T51, h51, X51, e51, W51, st51⟩ := stC X49 hx hZ e49 Ar50 (j := (24 : Int32)) (inb_of S50 ⟨by decide, by decide⟩) (g := (mkF m 122 #[vi bb] [xi bb, xi (24 : Int32), xr b1, xr b1])) rfl rfl (hb hby d2_122)
  have V_b1_51 : Arv Z h51 b1 k1 .char (44 : Int32) (own_fl (xi (nar .char bb)) 25 44) (.int (0 : Int32)) := Arv.set Ar50 q50 S50 N50_ H50 G50 (fits_nar_char _) W51 24 rfl (Nat.le_of_ble_eq_true rfl)
  have O51 := O49.wr W51 g_b1
  have Kp51 := Kp49.wr W51 (Or.inr sz_b1)
  have N51 := Fr.snoc X51 N49 g_b1
  obtain ⟨LL51, X51, N51⟩ := own_pack X51 N51
  obtain ⟨cl52, Ar52, q52, S52, N52_, H52, G52⟩ := id V_b1_51
  obtain ⟨T53, h53, X53, e53, W53, st53⟩ := stC X51 hx hZ e51 Ar52 (j := (25 : Int32)) (inb_of S52 ⟨by decide, by decide⟩) (g := (mkF m 127 #[vi bb] [xi bb, xi (25 : Int32), xr b1, xr b1])) rfl rfl (hb hby d2_127)
  have V_b1_53 : Arv Z h53 b1 k1 .char (44 : Int32) (own_fl (xi (nar .char bb)) 26 44) (.int (0 : Int32)) := Arv.set Ar52 q52 S52 N52_ H52 G52 (fits_nar_char _) W53 25 rfl (Nat.le_of_ble_eq_true rfl)
  have O53 := O51.wr W53 g_b1
  have Kp53 := Kp51.wr W53 (Or.inr sz_b1)
  have N53 := Fr.snoc X53 N51 g_b1
  obtain ⟨LL53, X53, N53⟩ := own_pack X53 N53
  obtain ⟨cl54, Ar54, q54, S54, N54_, H54, G54⟩ := id V_b1_53
  obtain ⟨T55, h55, X55, e55, W55, st55⟩ := stC X53 hx hZ e53 Ar54 (j := (26 : Int32)) (inb_of S54 ⟨by decide, by decide⟩) (g := (mkF m 132 #[vi bb] [xi bb, xi (26 : Int32), xr b1, xr b1])) rfl rfl (hb hby d2_132)
  have V_b1_55 : Arv Z h55 b1 k1 .char (44 : Int32) (own_fl (xi (nar .char bb)) 27 44) (.int (0 : Int32)) := Arv.set Ar54 q54 S54 N54_ H54 G54 (fits_nar_char _) W55 26 rfl (Nat.le_of_ble_eq_true rfl)
  have O55 := O53.wr W55 g_b1
  have Kp55 := Kp53.wr W55 (Or.inr sz_b1)
  have N55 := Fr.snoc X55 N53 g_b1
  obtain ⟨LL55, X55, N55⟩ := own_pack X55 N55
  obtain ⟨cl56, Ar56, q56, S56, N56_, H56, G56⟩ := id V_b1_55
  obtain ⟨T57, h57, X57, e57, W57, st57⟩ := stC X55 hx hZ e55 Ar56 (j := (27 : Int32)) (inb_of S56 ⟨by decide, by decide⟩) (g := (mkF m 137 #[vi bb] [xi bb, xi (27 : Int32), xr b1, xr b1])) rfl rfl (hb hby d2_137)
  have V_b1_57 : Arv Z h57 b1 k1 .char (44 : Int32) (own_fl (xi (nar .char bb)) 28 44) (.int (0 : Int32)) := Arv.set Ar56 q56 S56 N56_ H56 G56 (fits_nar_char _) W57 27 rfl (Nat.le_of_ble_eq_true rfl)
  have O57 := O55.wr W57 g_b1
  have Kp57 := Kp55.wr W57 (Or.inr sz_b1)
  have N57 := Fr.snoc X57 N55 g_b1
  obtain ⟨LL57, X57, N57⟩ := own_pack X57 N57
  obtain ⟨cl58, Ar58, q58, S58, N58_, H58, G58⟩ := id V_b1_57
  obtain ⟨T59, h59, X59, e59, W59, st59⟩ := stC X57 hx hZ e57 Ar58 (j := (28 : Int32)) (inb_of S58 ⟨by decide, by decide⟩) (g := (mkF m 142 #[vi bb] [xi bb, xi (28 : Int32), xr b1, xr b1])) rfl rfl (hb hby d2_142)
  have V_b1_59 : Arv Z h59 b1 k1 .char (44 : Int32) (own_fl (xi (nar .char bb)) 29 44) (.int (0 : Int32)) := Arv.set Ar58 q58 S58 N58_ H58 G58 (fits_nar_char _) W59 28 rfl (Nat.le_of_ble_eq_true rfl)
  have O59 := O57.wr W59 g_b1
  have Kp59 := Kp57.wr W59 (Or.inr sz_b1)
  have N59 := Fr.snoc X59 N57 g_b1
  obtain ⟨LL59, X59, N59⟩ := own_pack X59 N59
  obtain ⟨cl60, Ar60, q60, S60, N60_, H60, G60⟩ := id V_b1_59
  obtain ⟨T61, h61, X61, e61, W61, st61⟩ := stC X59 hx hZ e59 Ar60 (j := (29 : Int32)) (inb_of S60 ⟨by decide, by decide⟩) (g := (mkF m 147 #[vi bb] [xi bb, xi (29 : Int32), xr b1, xr b1])) rfl rfl (hb hby d2_147)
  have V_b1_61 : Arv Z h61 b1 k1 .char (44 : Int32) (own_fl (xi (nar .char bb)) 30 44) (.int (0 : Int32)) := Arv.set Ar60 q60 S60 N60_ H60 G60 (fits_nar_char _) W61 29 rfl (Nat.le_of_ble_eq_true rfl)
  have O61 := O59.wr W61 g_b1
  have Kp61 := Kp59.wr W61 (Or.inr sz_b1)
  have N61 := Fr.snoc X61 N59 g_b1
  obtain ⟨LL61, X61, N61⟩ := own_pack X61 N61
  obtain ⟨cl62, Ar62, q62, S62, N62_, H62, G62⟩ := id V_b1_61
  obtain ⟨T63, h63, X63, e63, W63, st63⟩ := stC X61 hx hZ e61 Ar62 (j := (30 : Int32)) (inb_of S62 ⟨by decide, by decide⟩) (g := (mkF m 152 #[vi bb] [xi bb, xi (30 : Int32), xr b1, xr b1])) rfl rfl (hb hby d2_152)
  have V_b1_63 : Arv Z h63 b1 k1 .char (44 : Int32) (own_fl (xi (nar .char bb)) 31 44) (.int (0 : Int32)) := Arv.set Ar62 q62 S62 N62_ H62 G62 (fits_nar_char _) W63 30 rfl (Nat.le_of_ble_eq_true rfl)
  have O63 := O61.wr W63 g_b1
  have Kp63 := Kp61.wr W63 (Or.inr sz_b1)
  have N63 := Fr.snoc X63 N61 g_b1
  obtain ⟨LL63, X63, N63⟩ := own_pack X63 N63
  obtain ⟨cl64, Ar64, q64, S64, N64_, H64, G64⟩ := id V_b1_63
  obtain ⟨T65, h65, X65, e65, W65, st65⟩ := stC X63 hx hZ e63 Ar64 (j := (31 : Int32)) (inb_of S64 ⟨by decide, by decide⟩) (g := (mkF m 157 #[vi bb] [xi bb, xi (31 : Int32), xr b1, xr b1])) rfl rfl (hb hby d2_157)
  have V_b1_65 : Arv Z h65 b1 k1 .char (44 : Int32) (own_fl (xi (nar .char bb)) 32 44) (.int (0 : Int32)) := Arv.set Ar64 q64 S64 N64_ H64 G64 (fits_nar_char _) W65 31 rfl (Nat.le_of_ble_eq_true rfl)
  have O65 := O63.wr W65 g_b1
  have Kp65 := Kp63.wr W65 (Or.inr sz_b1)
  have N65 := Fr.snoc X65 N63 g_b1
  obtain ⟨LL65, X65, N65⟩ := own_pack X65 N65
  obtain ⟨cl66, Ar66, q66, S66, N66_, H66, G66⟩ := id V_b1_65
  obtain ⟨T67, h67, X67, e67, W67, st67⟩ := stC X65 hx hZ e65 Ar66 (j := (32 : Int32)) (inb_of S66 ⟨by decide, by decide⟩) (g := (mkF m 162 #[vi bb] [xi bb, xi (32 : Int32), xr b1, xr b1])) rfl rfl (hb hby d2_162)
  have V_b1_67 : Arv Z h67 b1 k1 .char (44 : Int32) (own_fl (xi (nar .char bb)) 33 44) (.int (0 : Int32)) := Arv.set Ar66 q66 S66 N66_ H66 G66 (fits_nar_char _) W67 32 rfl (Nat.le_of_ble_eq_true rfl)
  have O67 := O65.wr W67 g_b1
  have Kp67 := Kp65.wr W67 (Or.inr sz_b1)
  have N67 := Fr.snoc X67 N65 g_b1
  obtain ⟨LL67, X67, N67⟩ := own_pack X67 N67
  obtain ⟨cl68, Ar68, q68, S68, N68_, H68, G68⟩ := id V_b1_67
  obtain ⟨T69, h69, X69, e69, W69, st69⟩ := stC X67 hx hZ e67 Ar68 (j := (33 : Int32)) (inb_of S68 ⟨by decide, by decide⟩) (g := (mkF m 167 #[vi bb] [xi bb, xi (33 : Int32), xr b1, xr b1])) rfl rfl (hb hby d2_167)
  have V_b1_69 : Arv Z h69 b1 k1 .char (44 : Int32) (own_fl (xi (nar .char bb)) 34 44) (.int (0 : Int32)) := Arv.set Ar68 q68 S68 N68_ H68 G68 (fits_nar_char _) W69 33 rfl (Nat.le_of_ble_eq_true rfl)
  have O69 := O67.wr W69 g_b1
  have Kp69 := Kp67.wr W69 (Or.inr sz_b1)
  have N69 := Fr.snoc X69 N67 g_b1
  obtain ⟨LL69, X69, N69⟩ := own_pack X69 N69
  obtain ⟨cl70, Ar70, q70, S70, N70_, H70, G70⟩ := id V_b1_69
  obtain ⟨T71, h71, X71, e71, W71, st71⟩ := stC X69 hx hZ e69 Ar70 (j := (34 : Int32)) (inb_of S70 ⟨by decide, by decide⟩) (g := (mkF m 172 #[vi bb] [xi bb, xi (34 : Int32), xr b1, xr b1])) rfl rfl (hb hby d2_172)
  have V_b1_71 : Arv Z h71 b1 k1 .char (44 : Int32) (own_fl (xi (nar .char bb)) 35 44) (.int (0 : Int32)) := Arv.set Ar70 q70 S70 N70_ H70 G70 (fits_nar_char _) W71 34 rfl (Nat.le_of_ble_eq_true rfl)
  have O71 := O69.wr W71 g_b1
  have Kp71 := Kp69.wr W71 (Or.inr sz_b1)
  have N71 := Fr.snoc X71 N69 g_b1
  obtain ⟨LL71, X71, N71⟩ := own_pack X71 N71
  obtain ⟨cl72, Ar72, q72, S72, N72_, H72, G72⟩ := id V_b1_71
  obtain ⟨T73, h73, X73, e73, W73, st73⟩ := stC X71 hx hZ e71 Ar72 (j := (35 : Int32)) (inb_of S72 ⟨by decide, by decide⟩) (g := (mkF m 177 #[vi bb] [xi bb, xi (35 : Int32), xr b1, xr b1])) rfl rfl (hb hby d2_177)
  have V_b1_73 : Arv Z h73 b1 k1 .char (44 : Int32) (own_fl (xi (nar .char bb)) 36 44) (.int (0 : Int32)) := Arv.set Ar72 q72 S72 N72_ H72 G72 (fits_nar_char _) W73 35 rfl (Nat.le_of_ble_eq_true rfl)
  have O73 := O71.wr W73 g_b1
  have Kp73 := Kp71.wr W73 (Or.inr sz_b1)
  have N73 := Fr.snoc X73 N71 g_b1
  obtain ⟨LL73, X73, N73⟩ := own_pack X73 N73
  obtain ⟨cl74, Ar74, q74, S74, N74_, H74, G74⟩ := id V_b1_73
  obtain ⟨T75, h75, X75, e75, W75, st75⟩ := stC X73 hx hZ e73 Ar74 (j := (36 : Int32)) (inb_of S74 ⟨by decide, by decide⟩) (g := (mkF m 182 #[vi bb] [xi bb, xi (36 : Int32), xr b1, xr b1])) rfl rfl (hb hby d2_182)
  have V_b1_75 : Arv Z h75 b1 k1 .char (44 : Int32) (own_fl (xi (nar .char bb)) 37 44) (.int (0 : Int32)) := Arv.set Ar74 q74 S74 N74_ H74 G74 (fits_nar_char _) W75 36 rfl (Nat.le_of_ble_eq_true rfl)
  have O75 := O73.wr W75 g_b1
  have Kp75 := Kp73.wr W75 (Or.inr sz_b1)
  have N75 := Fr.snoc X75 N73 g_b1
  obtain ⟨LL75, X75, N75⟩ := own_pack X75 N75
  obtain ⟨cl76, Ar76, q76, S76, N76_, H76, G76⟩ := id V_b1_75
  obtain ⟨T77, h77, X77, e77, W77, st77⟩ := stC X75 hx hZ e75 Ar76 (j := (37 : Int32)) (inb_of S76 ⟨by decide, by decide⟩) (g := (mkF m 187 #[vi bb] [xi bb, xi (37 : Int32), xr b1, xr b1])) rfl rfl (hb hby d2_187)
  have V_b1_77 : Arv Z h77 b1 k1 .char (44 : Int32) (own_fl (xi (nar .char bb)) 38 44) (.int (0 : Int32)) := Arv.set Ar76 q76 S76 N76_ H76 G76 (fits_nar_char _) W77 37 rfl (Nat.le_of_ble_eq_true rfl)
  have O77 := O75.wr W77 g_b1
  have Kp77 := Kp75.wr W77 (Or.inr sz_b1)
  have N77 := Fr.snoc X77 N75 g_b1
  obtain ⟨LL77, X77, N77⟩ := own_pack X77 N77
  obtain ⟨cl78, Ar78, q78, S78, N78_, H78, G78⟩ := id V_b1_77
  obtain ⟨T79, h79, X79, e79, W79, st79⟩ := stC X77 hx hZ e77 Ar78 (j := (38 : Int32)) (inb_of S78 ⟨by decide, by decide⟩) (g := (mkF m 192 #[vi bb] [xi bb, xi (38 : Int32), xr b1, xr b1])) rfl rfl (hb hby d2_192)
  have V_b1_79 : Arv Z h79 b1 k1 .char (44 : Int32) (own_fl (xi (nar .char bb)) 39 44) (.int (0 : Int32)) := Arv.set Ar78 q78 S78 N78_ H78 G78 (fits_nar_char _) W79 38 rfl (Nat.le_of_ble_eq_true rfl)
  have O79 := O77.wr W79 g_b1
  have Kp79 := Kp77.wr W79 (Or.inr sz_b1)
  have N79 := Fr.snoc X79 N77 g_b1
  obtain ⟨LL79, X79, N79⟩ := own_pack X79 N79
  obtain ⟨cl80, Ar80, q80, S80, N80_, H80, G80⟩ := id V_b1_79
  obtain ⟨T81, h81, X81, e81, W81, st81⟩ := stC X79 hx hZ e79 Ar80 (j := (39 : Int32)) (inb_of S80 ⟨by decide, by decide⟩) (g := (mkF m 197 #[vi bb] [xi bb, xi (39 : Int32), xr b1, xr b1])) rfl rfl (hb hby d2_197)
  have V_b1_81 : Arv Z h81 b1 k1 .char (44 : Int32) (own_fl (xi (nar .char bb)) 40 44) (.int (0 : Int32)) := Arv.set Ar80 q80 S80 N80_ H80 G80 (fits_nar_char _) W81 39 rfl (Nat.le_of_ble_eq_true rfl)
  have O81 := O79.wr W81 g_b1
  have Kp81 := Kp79.wr W81 (Or.inr sz_b1)
  have N81 := Fr.snoc X81 N79 g_b1
  obtain ⟨LL81, X81, N81⟩ := own_pack X81 N81
  obtain ⟨cl82, Ar82, q82, S82, N82_, H82, G82⟩ := id V_b1_81
  obtain ⟨T83, h83, X83, e83, W83, st83⟩ := stC X81 hx hZ e81 Ar82 (j := (40 : Int32)) (inb_of S82 ⟨by decide, by decide⟩) (g := (mkF m 202 #[vi bb] [xi bb, xi (40 : Int32), xr b1, xr b1])) rfl rfl (hb hby d2_202)
  have V_b1_83 : Arv Z h83 b1 k1 .char (44 : Int32) (own_fl (xi (nar .char bb)) 41 44) (.int (0 : Int32)) := Arv.set Ar82 q82 S82 N82_ H82 G82 (fits_nar_char _) W83 40 rfl (Nat.le_of_ble_eq_true rfl)
  have O83 := O81.wr W83 g_b1
  have Kp83 := Kp81.wr W83 (Or.inr sz_b1)
  have N83 := Fr.snoc X83 N81 g_b1
  obtain ⟨LL83, X83, N83⟩ := own_pack X83 N83
  obtain ⟨cl84, Ar84, q84, S84, N84_, H84, G84⟩ := id V_b1_83
  obtain ⟨T85, h85, X85, e85, W85, st85⟩ := stC X83 hx hZ e83 Ar84 (j := (41 : Int32)) (inb_of S84 ⟨by decide, by decide⟩) (g := (mkF m 207 #[vi bb] [xi bb, xi (41 : Int32), xr b1, xr b1])) rfl rfl (hb hby d2_207)
  have V_b1_85 : Arv Z h85 b1 k1 .char (44 : Int32) (own_fl (xi (nar .char bb)) 42 44) (.int (0 : Int32)) := Arv.set Ar84 q84 S84 N84_ H84 G84 (fits_nar_char _) W85 41 rfl (Nat.le_of_ble_eq_true rfl)
  have O85 := O83.wr W85 g_b1
  have Kp85 := Kp83.wr W85 (Or.inr sz_b1)
  have N85 := Fr.snoc X85 N83 g_b1
  obtain ⟨LL85, X85, N85⟩ := own_pack X85 N85
  obtain ⟨cl86, Ar86, q86, S86, N86_, H86, G86⟩ := id V_b1_85
  obtain ⟨T87, h87, X87, e87, W87, st87⟩ := stC X85 hx hZ e85 Ar86 (j := (42 : Int32)) (inb_of S86 ⟨by decide, by decide⟩) (g := (mkF m 212 #[vi bb] [xi bb, xi (42 : Int32), xr b1, xr b1])) rfl rfl (hb hby d2_212)
  have V_b1_87 : Arv Z h87 b1 k1 .char (44 : Int32) (own_fl (xi (nar .char bb)) 43 44) (.int (0 : Int32)) := Arv.set Ar86 q86 S86 N86_ H86 G86 (fits_nar_char _) W87 42 rfl (Nat.le_of_ble_eq_true rfl)
  have O87 := O85.wr W87 g_b1
  have Kp87 := Kp85.wr W87 (Or.inr sz_b1)
  have N87 := Fr.snoc X87 N85 g_b1
  obtain ⟨LL87, X87, N87⟩ := own_pack X87 N87
  obtain ⟨cl88, Ar88, q88, S88, N88_, H88, G88⟩ := id V_b1_87
  obtain ⟨T89, h89, X89, e89, W89, st89⟩ := stC X87 hx hZ e87 Ar88 (j := (43 : Int32)) (inb_of S88 ⟨by decide, by decide⟩) (g := (mkF m 217 #[vi bb] [xi bb, xi (43 : Int32), xr b1, xr b1])) rfl rfl (hb hby d2_217)
  have V_b1_89 : Arv Z h89 b1 k1 .char (44 : Int32) (own_fl (xi (nar .char bb)) 44 44) (.int (0 : Int32)) := Arv.set Ar88 q88 S88 N88_ H88 G88 (fits_nar_char _) W89 43 rfl (Nat.le_of_ble_eq_true rfl)
  have O89 := O87.wr W89 g_b1
  have Kp89 := Kp87.wr W89 (Or.inr sz_b1)
  have N89 := Fr.snoc X89 N87 g_b1
  obtain ⟨LL89, X89, N89⟩ := own_pack X89 N89
  obtain ⟨fs, hr, hrun, hended, hW, hsame⟩ := X89.leave (v := some (xr b1)) (fun h => by rw [Bd.returns] at h; cases h)
  refine ⟨_, _, pre0 _ ?_, hrun, hended, _, _, rfl, ?_, ⟨_, rfl⟩, hW, hsame.mono (by decide) (by decide)⟩
  · show own_S p e below s₁ (mkF m 0 #[vi bb] []) _
    refine XS.bipush X0.here hx rfl (hb hby d2_0) ?_
    show own_S p e below s₁ (mkF m 2 #[vi bb] [xi (44 : Int32)]) _
    refine st1 _ ?_
    refine XS.dup X1.here hx rfl (hb hby d2_4) rfl rfl ?_
    refine XS.iconst X1.here hx rfl (hb hby d2_5) ?_
    refine XS.iloadN X1.here hx rfl (hb hby d2_6) rfl ?_
    show own_S p e below T1 (mkF m 7 #[vi bb] [xi bb, xi (0 : Int32), xr b1, xr b1]) _
    refine st3 _ ?_
    refine XS.dup X3.here hx rfl (hb hby d2_8) rfl rfl ?_
    refine XS.iconst X3.here hx rfl (hb hby d2_9) ?_
    refine XS.iloadN X3.here hx rfl (hb hby d2_10) rfl ?_
    show own_S p e below T3 (mkF m 11 #[vi bb] [xi bb, xi (1 : Int32), xr b1, xr b1]) _
    refine st5 _ ?_
    refine XS.dup X5.here hx rfl (hb hby d2_12) rfl rfl ?_
    refine XS.iconst X5.here hx rfl (hb hby d2_13) ?_
    refine XS.iloadN X5.here hx rfl (hb hby d2_14) rfl ?_
    show own_S p e below T5 (mkF m 15 #[vi bb] [xi bb, xi (2 : Int32), xr b1, xr b1]) _
    refine st7 _ ?_
    refine XS.dup X7.here hx rfl (hb hby d2_16) rfl rfl ?_
    refine XS.iconst X7.here hx rfl (hb hby d2_17) ?_
    refine XS.iloadN X7.here hx rfl (hb hby d2_18) rfl ?_
    show own_S p e below T7 (mkF m 19 #[vi bb] [xi bb, xi (3 : Int32), xr b1, xr b1]) _
    refine st9 _ ?_
    refine XS.dup X9.here hx rfl (hb hby d2_20) rfl rfl ?_
    refine XS.iconst X9.here hx rfl (hb hby d2_21) ?_
    refine XS.iloadN X9.here hx rfl (hb hby d2_22) rfl ?_
    show own_S p e below T9 (mkF m 23 #[vi bb] [xi bb, xi (4 : Int32), xr b1, xr b1]) _
    refine st11 _ ?_
    refine XS.dup X11.here hx rfl (hb hby d2_24) rfl rfl ?_
    refine XS.iconst X11.here hx rfl (hb hby d2_25) ?_
    refine XS.iloadN X11.here hx rfl (hb hby d2_26) rfl ?_
    show own_S p e below T11 (mkF m 27 #[vi bb] [xi bb, xi (5 : Int32), xr b1, xr b1]) _
    refine st13 _ ?_
    refine XS.dup X13.here hx rfl (hb hby d2_28) rfl rfl ?_
    refine XS.bipush X13.here hx rfl (hb hby d2_29) ?_
    refine XS.iloadN X13.here hx rfl (hb hby d2_31) rfl ?_
    show own_S p e below T13 (mkF m 32 #[vi bb] [xi bb, xi (6 : Int32), xr b1, xr b1]) _
    refine st15 _ ?_
    refine XS.dup X15.here hx rfl (hb hby d2_33) rfl rfl ?_
    refine XS.bipush X15.here hx rfl (hb hby d2_34) ?_
    refine XS.iloadN X15.here hx rfl (hb hby d2_36) rfl ?_
    show own_S p e below T15 (mkF m 37 #[vi bb] [xi bb, xi (7 : Int32), xr b1, xr b1]) _
    refine st17 _ ?_
    refine XS.dup X17.here hx rfl (hb hby d2_38) rfl rfl ?_
    refine XS.bipush X17.here hx rfl (hb hby d2_39) ?_
    refine XS.iloadN X17.here hx rfl (hb hby d2_41) rfl ?_
    show own_S p e below T17 (mkF m 42 #[vi bb] [xi bb, xi (8 : Int32), xr b1, xr b1]) _
    refine st19 _ ?_
    refine XS.dup X19.here hx rfl (hb hby d2_43) rfl rfl ?_
    refine XS.bipush X19.here hx rfl (hb hby d2_44) ?_
    refine XS.iloadN X19.here hx rfl (hb hby d2_46) rfl ?_
    show own_S p e below T19 (mkF m 47 #[vi bb] [xi bb, xi (9 : Int32), xr b1, xr b1]) _
    refine st21 _ ?_
    refine XS.dup X21.here hx rfl (hb hby d2_48) rfl rfl ?_
    refine XS.bipush X21.here hx rfl (hb hby d2_49) ?_
    refine XS.iloadN X21.here hx rfl (hb hby d2_51) rfl ?_
    show own_S p e below T21 (mkF m 52 #[vi bb] [xi bb, xi (10 : Int32), xr b1, xr b1]) _
    refine st23 _ ?_
    refine XS.dup X23.here hx rfl (hb hby d2_53) rfl rfl ?_
    refine XS.bipush X23.here hx rfl (hb hby d2_54) ?_
    refine XS.iloadN X23.here hx rfl (hb hby d2_56) rfl ?_
    show own_S p e below T23 (mkF m 57 #[vi bb] [xi bb, xi (11 : Int32), xr b1, xr b1]) _
    refine st25 _ ?_
    refine XS.dup X25.here hx rfl (hb hby d2_58) rfl rfl ?_
    refine XS.bipush X25.here hx rfl (hb hby d2_59) ?_
    refine XS.iloadN X25.here hx rfl (hb hby d2_61) rfl ?_
    show own_S p e below T25 (mkF m 62 #[vi bb] [xi bb, xi (12 : Int32), xr b1, xr b1]) _
    refine st27 _ ?_
    refine XS.dup X27.here hx rfl (hb hby d2_63) rfl rfl ?_
    refine XS.bipush X27.here hx rfl (hb hby d2_64) ?_
    refine XS.iloadN X27.here hx rfl (hb hby d2_66) rfl ?_
    show own_S p e below T27 (mkF m 67 #[vi bb] [xi bb, xi (13 : Int32), xr b1, xr b1]) _
    refine st29 _ ?_
    refine XS.dup X29.here hx rfl (hb hby d2_68) rfl rfl ?_
    refine XS.bipush X29.here hx rfl (hb hby d2_69) ?_
    refine XS.iloadN X29.here hx rfl (hb hby d2_71) rfl ?_
    show own_S p e below T29 (mkF m 72 #[vi bb] [xi bb, xi (14 : Int32), xr b1, xr b1]) _
    refine st31 _ ?_
    refine XS.dup X31.here hx rfl (hb hby d2_73) rfl rfl ?_
    refine XS.bipush X31.here hx rfl (hb hby d2_74) ?_
    refine XS.iloadN X31.here hx rfl (hb hby d2_76) rfl ?_
    show own_S p e below T31 (mkF m 77 #[vi bb] [xi bb, xi (15 : Int32), xr b1, xr b1]) _
    refine st33 _ ?_
    refine XS.dup X33.here hx rfl (hb hby d2_78) rfl rfl ?_
    refine XS.bipush X33.here hx rfl (hb hby d2_79) ?_
    refine XS.iloadN X33.here hx rfl (hb hby d2_81) rfl ?_
    show own_S p e below T33 (mkF m 82 #[vi bb] [xi bb, xi (16 : Int32), xr b1, xr b1]) _
    refine st35 _ ?_
    refine XS.dup X35.here hx rfl (hb hby d2_83) rfl rfl ?_
    refine XS.bipush X35.here hx rfl (hb hby d2_84) ?_
    refine XS.iloadN X35.here hx rfl (hb hby d2_86) rfl ?_
    show own_S p e below T35 (mkF m 87 #[vi bb] [xi bb, xi (17 : Int32), xr b1, xr b1]) _
    refine st37 _ ?_
    refine XS.dup X37.here hx rfl (hb hby d2_88) rfl rfl ?_
    refine XS.bipush X37.here hx rfl (hb hby d2_89) ?_
    refine XS.iloadN X37.here hx rfl (hb hby d2_91) rfl ?_
    show own_S p e below T37 (mkF m 92 #[vi bb] [xi bb, xi (18 : Int32), xr b1, xr b1]) _
    refine st39 _ ?_
    refine XS.dup X39.here hx rfl (hb hby d2_93) rfl rfl ?_
    refine XS.bipush X39.here hx rfl (hb hby d2_94) ?_
    refine XS.iloadN X39.here hx rfl (hb hby d2_96) rfl ?_
    show own_S p e below T39 (mkF m 97 #[vi bb] [xi bb, xi (19 : Int32), xr b1, xr b1]) _
    refine st41 _ ?_
    refine XS.dup X41.here hx rfl (hb hby d2_98) rfl rfl ?_
    refine XS.bipush X41.here hx rfl (hb hby d2_99) ?_
    refine XS.iloadN X41.here hx rfl (hb hby d2_101) rfl ?_
    show own_S p e below T41 (mkF m 102 #[vi bb] [xi bb, xi (20 : Int32), xr b1, xr b1]) _
    refine st43 _ ?_
    refine XS.dup X43.here hx rfl (hb hby d2_103) rfl rfl ?_
    refine XS.bipush X43.here hx rfl (hb hby d2_104) ?_
    refine XS.iloadN X43.here hx rfl (hb hby d2_106) rfl ?_
    show own_S p e below T43 (mkF m 107 #[vi bb] [xi bb, xi (21 : Int32), xr b1, xr b1]) _
    refine st45 _ ?_
    refine XS.dup X45.here hx rfl (hb hby d2_108) rfl rfl ?_
    refine XS.bipush X45.here hx rfl (hb hby d2_109) ?_
    refine XS.iloadN X45.here hx rfl (hb hby d2_111) rfl ?_
    show own_S p e below T45 (mkF m 112 #[vi bb] [xi bb, xi (22 : Int32), xr b1, xr b1]) _
    refine st47 _ ?_
    refine XS.dup X47.here hx rfl (hb hby d2_113) rfl rfl ?_
    refine XS.bipush X47.here hx rfl (hb hby d2_114) ?_
    refine XS.iloadN X47.here hx rfl (hb hby d2_116) rfl ?_
    show own_S p e below T47 (mkF m 117 #[vi bb] [xi bb, xi (23 : Int32), xr b1, xr b1]) _
    refine st49 _ ?_
    refine XS.dup X49.here hx rfl (hb hby d2_118) rfl rfl ?_
    refine XS.bipush X49.here hx rfl (hb hby d2_119) ?_
    refine XS.iloadN X49.here hx rfl (hb hby d2_121) rfl ?_
    show own_S p e below T49 (mkF m 122 #[vi bb] [xi bb, xi (24 : Int32), xr b1, xr b1]) _
    refine st51 _ ?_
    refine XS.dup X51.here hx rfl (hb hby d2_123) rfl rfl ?_
    refine XS.bipush X51.here hx rfl (hb hby d2_124) ?_
    refine XS.iloadN X51.here hx rfl (hb hby d2_126) rfl ?_
    show own_S p e below T51 (mkF m 127 #[vi bb] [xi bb, xi (25 : Int32), xr b1, xr b1]) _
    refine st53 _ ?_
    refine XS.dup X53.here hx rfl (hb hby d2_128) rfl rfl ?_
    refine XS.bipush X53.here hx rfl (hb hby d2_129) ?_
    refine XS.iloadN X53.here hx rfl (hb hby d2_131) rfl ?_
    show own_S p e below T53 (mkF m 132 #[vi bb] [xi bb, xi (26 : Int32), xr b1, xr b1]) _
    refine st55 _ ?_
    refine XS.dup X55.here hx rfl (hb hby d2_133) rfl rfl ?_
    refine XS.bipush X55.here hx rfl (hb hby d2_134) ?_
    refine XS.iloadN X55.here hx rfl (hb hby d2_136) rfl ?_
    show own_S p e below T55 (mkF m 137 #[vi bb] [xi bb, xi (27 : Int32), xr b1, xr b1]) _
    refine st57 _ ?_
    refine XS.dup X57.here hx rfl (hb hby d2_138) rfl rfl ?_
    refine XS.bipush X57.here hx rfl (hb hby d2_139) ?_
    refine XS.iloadN X57.here hx rfl (hb hby d2_141) rfl ?_
    show own_S p e below T57 (mkF m 142 #[vi bb] [xi bb, xi (28 : Int32), xr b1, xr b1]) _
    refine st59 _ ?_
    refine XS.dup X59.here hx rfl (hb hby d2_143) rfl rfl ?_
    refine XS.bipush X59.here hx rfl (hb hby d2_144) ?_
    refine XS.iloadN X59.here hx rfl (hb hby d2_146) rfl ?_
    show own_S p e below T59 (mkF m 147 #[vi bb] [xi bb, xi (29 : Int32), xr b1, xr b1]) _
    refine st61 _ ?_
    refine XS.dup X61.here hx rfl (hb hby d2_148) rfl rfl ?_
    refine XS.bipush X61.here hx rfl (hb hby d2_149) ?_
    refine XS.iloadN X61.here hx rfl (hb hby d2_151) rfl ?_
    show own_S p e below T61 (mkF m 152 #[vi bb] [xi bb, xi (30 : Int32), xr b1, xr b1]) _
    refine st63 _ ?_
    refine XS.dup X63.here hx rfl (hb hby d2_153) rfl rfl ?_
    refine XS.bipush X63.here hx rfl (hb hby d2_154) ?_
    refine XS.iloadN X63.here hx rfl (hb hby d2_156) rfl ?_
    show own_S p e below T63 (mkF m 157 #[vi bb] [xi bb, xi (31 : Int32), xr b1, xr b1]) _
    refine st65 _ ?_
    refine XS.dup X65.here hx rfl (hb hby d2_158) rfl rfl ?_
    refine XS.bipush X65.here hx rfl (hb hby d2_159) ?_
    refine XS.iloadN X65.here hx rfl (hb hby d2_161) rfl ?_
    show own_S p e below T65 (mkF m 162 #[vi bb] [xi bb, xi (32 : Int32), xr b1, xr b1]) _
    refine st67 _ ?_
    refine XS.dup X67.here hx rfl (hb hby d2_163) rfl rfl ?_
    refine XS.bipush X67.here hx rfl (hb hby d2_164) ?_
    refine XS.iloadN X67.here hx rfl (hb hby d2_166) rfl ?_
    show own_S p e below T67 (mkF m 167 #[vi bb] [xi bb, xi (33 : Int32), xr b1, xr b1]) _
    refine st69 _ ?_
    refine XS.dup X69.here hx rfl (hb hby d2_168) rfl rfl ?_
    refine XS.bipush X69.here hx rfl (hb hby d2_169) ?_
    refine XS.iloadN X69.here hx rfl (hb hby d2_171) rfl ?_
    show own_S p e below T69 (mkF m 172 #[vi bb] [xi bb, xi (34 : Int32), xr b1, xr b1]) _
    refine st71 _ ?_
    refine XS.dup X71.here hx rfl (hb hby d2_173) rfl rfl ?_
    refine XS.bipush X71.here hx rfl (hb hby d2_174) ?_
    refine XS.iloadN X71.here hx rfl (hb hby d2_176) rfl ?_
    show own_S p e below T71 (mkF m 177 #[vi bb] [xi bb, xi (35 : Int32), xr b1, xr b1]) _
    refine st73 _ ?_
    refine XS.dup X73.here hx rfl (hb hby d2_178) rfl rfl ?_
    refine XS.bipush X73.here hx rfl (hb hby d2_179) ?_
    refine XS.iloadN X73.here hx rfl (hb hby d2_181) rfl ?_
    show own_S p e below T73 (mkF m 182 #[vi bb] [xi bb, xi (36 : Int32), xr b1, xr b1]) _
    refine st75 _ ?_
    refine XS.dup X75.here hx rfl (hb hby d2_183) rfl rfl ?_
    refine XS.bipush X75.here hx rfl (hb hby d2_184) ?_
    refine XS.iloadN X75.here hx rfl (hb hby d2_186) rfl ?_
    show own_S p e below T75 (mkF m 187 #[vi bb] [xi bb, xi (37 : Int32), xr b1, xr b1]) _
    refine st77 _ ?_
    refine XS.dup X77.here hx rfl (hb hby d2_188) rfl rfl ?_
    refine XS.bipush X77.here hx rfl (hb hby d2_189) ?_
    refine XS.iloadN X77.here hx rfl (hb hby d2_191) rfl ?_
    show own_S p e below T77 (mkF m 192 #[vi bb] [xi bb, xi (38 : Int32), xr b1, xr b1]) _
    refine st79 _ ?_
    refine XS.dup X79.here hx rfl (hb hby d2_193) rfl rfl ?_
    refine XS.bipush X79.here hx rfl (hb hby d2_194) ?_
    refine XS.iloadN X79.here hx rfl (hb hby d2_196) rfl ?_
    show own_S p e below T79 (mkF m 197 #[vi bb] [xi bb, xi (39 : Int32), xr b1, xr b1]) _
    refine st81 _ ?_
    refine XS.dup X81.here hx rfl (hb hby d2_198) rfl rfl ?_
    refine XS.bipush X81.here hx rfl (hb hby d2_199) ?_
    refine XS.iloadN X81.here hx rfl (hb hby d2_201) rfl ?_
    show own_S p e below T81 (mkF m 202 #[vi bb] [xi bb, xi (40 : Int32), xr b1, xr b1]) _
    refine st83 _ ?_
    refine XS.dup X83.here hx rfl (hb hby d2_203) rfl rfl ?_
    refine XS.bipush X83.here hx rfl (hb hby d2_204) ?_
    refine XS.iloadN X83.here hx rfl (hb hby d2_206) rfl ?_
    show own_S p e below T83 (mkF m 207 #[vi bb] [xi bb, xi (41 : Int32), xr b1, xr b1]) _
    refine st85 _ ?_
    refine XS.dup X85.here hx rfl (hb hby d2_208) rfl rfl ?_
    refine XS.bipush X85.here hx rfl (hb hby d2_209) ?_
    refine XS.iloadN X85.here hx rfl (hb hby d2_211) rfl ?_
    show own_S p e below T85 (mkF m 212 #[vi bb] [xi bb, xi (42 : Int32), xr b1, xr b1]) _
    refine st87 _ ?_
    refine XS.dup X87.here hx rfl (hb hby d2_213) rfl rfl ?_
    refine XS.bipush X87.here hx rfl (hb hby d2_214) ?_
    refine XS.iloadN X87.here hx rfl (hb hby d2_216) rfl ?_
    show own_S p e below T87 (mkF m 217 #[vi bb] [xi bb, xi (43 : Int32), xr b1, xr b1]) _
    refine st89 _ ?_
    show own_S p e below T89 (mkF m 218 #[vi bb] [xr b1]) _
    exact X89.areturnOut hx rfl Bd.returns rfl (hb hby d2_218) hr
  · show (own_QFl Z h0 n0 44 bb) _ T89.heap _
    rw [e89]
    exact ⟨b1, k1, rfl, N89, Kp89, V_b1_89, g_b1, sz_b1⟩
theorem d3_0 : decode method_5_code 0 = .ok (.bipush 45, 2) := by decide +kernel
theorem d3_2 : decode method_5_code 2 = .ok (.newarray .char, 2) := by decide +kernel
theorem d3_4 : decode method_5_code 4 = .ok (.dup, 1) := by decide +kernel
theorem d3_5 : decode method_5_code 5 = .ok (.iconst 0, 1) := by decide +kernel
theorem d3_6 : decode method_5_code 6 = .ok (.iload_n 0, 1) := by decide +kernel
theorem d3_7 : decode method_5_code 7 = .ok (.castore, 1) := by decide +kernel
theorem d3_8 : decode method_5_code 8 = .ok (.dup, 1) := by decide +kernel
theorem d3_9 : decode method_5_code 9 = .ok (.iconst 1, 1) := by decide +kernel
theorem d3_10 : decode method_5_code 10 = .ok (.iload_n 0, 1) := by decide +kernel
theorem d3_11 : decode method_5_code 11 = .ok (.castore, 1) := by decide +kernel
theorem d3_12 : decode method_5_code 12 = .ok (.dup, 1) := by decide +kernel
theorem d3_13 : decode method_5_code 13 = .ok (.iconst 2, 1) := by decide +kernel
theorem d3_14 : decode method_5_code 14 = .ok (.iload_n 0, 1) := by decide +kernel
theorem d3_15 : decode method_5_code 15 = .ok (.castore, 1) := by decide +kernel
theorem d3_16 : decode method_5_code 16 = .ok (.dup, 1) := by decide +kernel
theorem d3_17 : decode method_5_code 17 = .ok (.iconst 3, 1) := by decide +kernel
theorem d3_18 : decode method_5_code 18 = .ok (.iload_n 0, 1) := by decide +kernel
theorem d3_19 : decode method_5_code 19 = .ok (.castore, 1) := by decide +kernel
theorem d3_20 : decode method_5_code 20 = .ok (.dup, 1) := by decide +kernel
theorem d3_21 : decode method_5_code 21 = .ok (.iconst 4, 1) := by decide +kernel
theorem d3_22 : decode method_5_code 22 = .ok (.iload_n 0, 1) := by decide +kernel
theorem d3_23 : decode method_5_code 23 = .ok (.castore, 1) := by decide +kernel
theorem d3_24 : decode method_5_code 24 = .ok (.dup, 1) := by decide +kernel
theorem d3_25 : decode method_5_code 25 = .ok (.iconst 5, 1) := by decide +kernel
theorem d3_26 : decode method_5_code 26 = .ok (.iload_n 0, 1) := by decide +kernel
theorem d3_27 : decode method_5_code 27 = .ok (.castore, 1) := by decide +kernel
theorem d3_28 : decode method_5_code 28 = .ok (.dup, 1) := by decide +kernel
theorem d3_29 : decode method_5_code 29 = .ok (.bipush 6, 2) := by decide +kernel
theorem d3_31 : decode method_5_code 31 = .ok (.iload_n 0, 1) := by decide +kernel
theorem d3_32 : decode method_5_code 32 = .ok (.castore, 1) := by decide +kernel
theorem d3_33 : decode method_5_code 33 = .ok (.dup, 1) := by decide +kernel
theorem d3_34 : decode method_5_code 34 = .ok (.bipush 7, 2) := by decide +kernel
theorem d3_36 : decode method_5_code 36 = .ok (.iload_n 0, 1) := by decide +kernel
theorem d3_37 : decode method_5_code 37 = .ok (.castore, 1) := by decide +kernel
theorem d3_38 : decode method_5_code 38 = .ok (.dup, 1) := by decide +kernel
theorem d3_39 : decode method_5_code 39 = .ok (.bipush 8, 2) := by decide +kernel
theorem d3_41 : decode method_5_code 41 = .ok (.iload_n 0, 1) := by decide +kernel
theorem d3_42 : decode method_5_code 42 = .ok (.castore, 1) := by decide +kernel
theorem d3_43 : decode method_5_code 43 = .ok (.dup, 1) := by decide +kernel
theorem d3_44 : decode method_5_code 44 = .ok (.bipush 9, 2) := by decide +kernel
theorem d3_46 : decode method_5_code 46 = .ok (.iload_n 0, 1) := by decide +kernel
theorem d3_47 : decode method_5_code 47 = .ok (.castore, 1) := by decide +kernel
theorem d3_48 : decode method_5_code 48 = .ok (.dup, 1) := by decide +kernel
theorem d3_49 : decode method_5_code 49 = .ok (.bipush 10, 2) := by decide +kernel
theorem d3_51 : decode method_5_code 51 = .ok (.iload_n 0, 1) := by decide +kernel
theorem d3_52 : decode method_5_code 52 = .ok (.castore, 1) := by decide +kernel
theorem d3_53 : decode method_5_code 53 = .ok (.dup, 1) := by decide +kernel
theorem d3_54 : decode method_5_code 54 = .ok (.bipush 11, 2) := by decide +kernel
theorem d3_56 : decode method_5_code 56 = .ok (.iload_n 0, 1) := by decide +kernel
theorem d3_57 : decode method_5_code 57 = .ok (.castore, 1) := by decide +kernel
theorem d3_58 : decode method_5_code 58 = .ok (.dup, 1) := by decide +kernel
theorem d3_59 : decode method_5_code 59 = .ok (.bipush 12, 2) := by decide +kernel
theorem d3_61 : decode method_5_code 61 = .ok (.iload_n 0, 1) := by decide +kernel
theorem d3_62 : decode method_5_code 62 = .ok (.castore, 1) := by decide +kernel
theorem d3_63 : decode method_5_code 63 = .ok (.dup, 1) := by decide +kernel
theorem d3_64 : decode method_5_code 64 = .ok (.bipush 13, 2) := by decide +kernel
theorem d3_66 : decode method_5_code 66 = .ok (.iload_n 0, 1) := by decide +kernel
theorem d3_67 : decode method_5_code 67 = .ok (.castore, 1) := by decide +kernel
theorem d3_68 : decode method_5_code 68 = .ok (.dup, 1) := by decide +kernel
theorem d3_69 : decode method_5_code 69 = .ok (.bipush 14, 2) := by decide +kernel
theorem d3_71 : decode method_5_code 71 = .ok (.iload_n 0, 1) := by decide +kernel
theorem d3_72 : decode method_5_code 72 = .ok (.castore, 1) := by decide +kernel
theorem d3_73 : decode method_5_code 73 = .ok (.dup, 1) := by decide +kernel
theorem d3_74 : decode method_5_code 74 = .ok (.bipush 15, 2) := by decide +kernel
theorem d3_76 : decode method_5_code 76 = .ok (.iload_n 0, 1) := by decide +kernel
theorem d3_77 : decode method_5_code 77 = .ok (.castore, 1) := by decide +kernel
theorem d3_78 : decode method_5_code 78 = .ok (.dup, 1) := by decide +kernel
theorem d3_79 : decode method_5_code 79 = .ok (.bipush 16, 2) := by decide +kernel
theorem d3_81 : decode method_5_code 81 = .ok (.iload_n 0, 1) := by decide +kernel
theorem d3_82 : decode method_5_code 82 = .ok (.castore, 1) := by decide +kernel
theorem d3_83 : decode method_5_code 83 = .ok (.dup, 1) := by decide +kernel
theorem d3_84 : decode method_5_code 84 = .ok (.bipush 17, 2) := by decide +kernel
theorem d3_86 : decode method_5_code 86 = .ok (.iload_n 0, 1) := by decide +kernel
theorem d3_87 : decode method_5_code 87 = .ok (.castore, 1) := by decide +kernel
theorem d3_88 : decode method_5_code 88 = .ok (.dup, 1) := by decide +kernel
theorem d3_89 : decode method_5_code 89 = .ok (.bipush 18, 2) := by decide +kernel
theorem d3_91 : decode method_5_code 91 = .ok (.iload_n 0, 1) := by decide +kernel
theorem d3_92 : decode method_5_code 92 = .ok (.castore, 1) := by decide +kernel
theorem d3_93 : decode method_5_code 93 = .ok (.dup, 1) := by decide +kernel
theorem d3_94 : decode method_5_code 94 = .ok (.bipush 19, 2) := by decide +kernel
theorem d3_96 : decode method_5_code 96 = .ok (.iload_n 0, 1) := by decide +kernel
theorem d3_97 : decode method_5_code 97 = .ok (.castore, 1) := by decide +kernel
theorem d3_98 : decode method_5_code 98 = .ok (.dup, 1) := by decide +kernel
theorem d3_99 : decode method_5_code 99 = .ok (.bipush 20, 2) := by decide +kernel
theorem d3_101 : decode method_5_code 101 = .ok (.iload_n 0, 1) := by decide +kernel
theorem d3_102 : decode method_5_code 102 = .ok (.castore, 1) := by decide +kernel
theorem d3_103 : decode method_5_code 103 = .ok (.dup, 1) := by decide +kernel
theorem d3_104 : decode method_5_code 104 = .ok (.bipush 21, 2) := by decide +kernel
theorem d3_106 : decode method_5_code 106 = .ok (.iload_n 0, 1) := by decide +kernel
theorem d3_107 : decode method_5_code 107 = .ok (.castore, 1) := by decide +kernel
theorem d3_108 : decode method_5_code 108 = .ok (.dup, 1) := by decide +kernel
theorem d3_109 : decode method_5_code 109 = .ok (.bipush 22, 2) := by decide +kernel
theorem d3_111 : decode method_5_code 111 = .ok (.iload_n 0, 1) := by decide +kernel
theorem d3_112 : decode method_5_code 112 = .ok (.castore, 1) := by decide +kernel
theorem d3_113 : decode method_5_code 113 = .ok (.dup, 1) := by decide +kernel
theorem d3_114 : decode method_5_code 114 = .ok (.bipush 23, 2) := by decide +kernel
theorem d3_116 : decode method_5_code 116 = .ok (.iload_n 0, 1) := by decide +kernel
theorem d3_117 : decode method_5_code 117 = .ok (.castore, 1) := by decide +kernel
theorem d3_118 : decode method_5_code 118 = .ok (.dup, 1) := by decide +kernel
theorem d3_119 : decode method_5_code 119 = .ok (.bipush 24, 2) := by decide +kernel
theorem d3_121 : decode method_5_code 121 = .ok (.iload_n 0, 1) := by decide +kernel
theorem d3_122 : decode method_5_code 122 = .ok (.castore, 1) := by decide +kernel
theorem d3_123 : decode method_5_code 123 = .ok (.dup, 1) := by decide +kernel
theorem d3_124 : decode method_5_code 124 = .ok (.bipush 25, 2) := by decide +kernel
theorem d3_126 : decode method_5_code 126 = .ok (.iload_n 0, 1) := by decide +kernel
theorem d3_127 : decode method_5_code 127 = .ok (.castore, 1) := by decide +kernel
theorem d3_128 : decode method_5_code 128 = .ok (.dup, 1) := by decide +kernel
theorem d3_129 : decode method_5_code 129 = .ok (.bipush 26, 2) := by decide +kernel
theorem d3_131 : decode method_5_code 131 = .ok (.iload_n 0, 1) := by decide +kernel
theorem d3_132 : decode method_5_code 132 = .ok (.castore, 1) := by decide +kernel
theorem d3_133 : decode method_5_code 133 = .ok (.dup, 1) := by decide +kernel
theorem d3_134 : decode method_5_code 134 = .ok (.bipush 27, 2) := by decide +kernel
theorem d3_136 : decode method_5_code 136 = .ok (.iload_n 0, 1) := by decide +kernel
theorem d3_137 : decode method_5_code 137 = .ok (.castore, 1) := by decide +kernel
theorem d3_138 : decode method_5_code 138 = .ok (.dup, 1) := by decide +kernel
theorem d3_139 : decode method_5_code 139 = .ok (.bipush 28, 2) := by decide +kernel
theorem d3_141 : decode method_5_code 141 = .ok (.iload_n 0, 1) := by decide +kernel
theorem d3_142 : decode method_5_code 142 = .ok (.castore, 1) := by decide +kernel
theorem d3_143 : decode method_5_code 143 = .ok (.dup, 1) := by decide +kernel
theorem d3_144 : decode method_5_code 144 = .ok (.bipush 29, 2) := by decide +kernel
theorem d3_146 : decode method_5_code 146 = .ok (.iload_n 0, 1) := by decide +kernel
theorem d3_147 : decode method_5_code 147 = .ok (.castore, 1) := by decide +kernel
theorem d3_148 : decode method_5_code 148 = .ok (.dup, 1) := by decide +kernel
theorem d3_149 : decode method_5_code 149 = .ok (.bipush 30, 2) := by decide +kernel
theorem d3_151 : decode method_5_code 151 = .ok (.iload_n 0, 1) := by decide +kernel
theorem d3_152 : decode method_5_code 152 = .ok (.castore, 1) := by decide +kernel
theorem d3_153 : decode method_5_code 153 = .ok (.dup, 1) := by decide +kernel
theorem d3_154 : decode method_5_code 154 = .ok (.bipush 31, 2) := by decide +kernel
theorem d3_156 : decode method_5_code 156 = .ok (.iload_n 0, 1) := by decide +kernel
theorem d3_157 : decode method_5_code 157 = .ok (.castore, 1) := by decide +kernel
theorem d3_158 : decode method_5_code 158 = .ok (.dup, 1) := by decide +kernel
theorem d3_159 : decode method_5_code 159 = .ok (.bipush 32, 2) := by decide +kernel
theorem d3_161 : decode method_5_code 161 = .ok (.iload_n 0, 1) := by decide +kernel
theorem d3_162 : decode method_5_code 162 = .ok (.castore, 1) := by decide +kernel
theorem d3_163 : decode method_5_code 163 = .ok (.dup, 1) := by decide +kernel
theorem d3_164 : decode method_5_code 164 = .ok (.bipush 33, 2) := by decide +kernel
theorem d3_166 : decode method_5_code 166 = .ok (.iload_n 0, 1) := by decide +kernel
theorem d3_167 : decode method_5_code 167 = .ok (.castore, 1) := by decide +kernel
theorem d3_168 : decode method_5_code 168 = .ok (.dup, 1) := by decide +kernel
theorem d3_169 : decode method_5_code 169 = .ok (.bipush 34, 2) := by decide +kernel
theorem d3_171 : decode method_5_code 171 = .ok (.iload_n 0, 1) := by decide +kernel
theorem d3_172 : decode method_5_code 172 = .ok (.castore, 1) := by decide +kernel
theorem d3_173 : decode method_5_code 173 = .ok (.dup, 1) := by decide +kernel
theorem d3_174 : decode method_5_code 174 = .ok (.bipush 35, 2) := by decide +kernel
theorem d3_176 : decode method_5_code 176 = .ok (.iload_n 0, 1) := by decide +kernel
theorem d3_177 : decode method_5_code 177 = .ok (.castore, 1) := by decide +kernel
theorem d3_178 : decode method_5_code 178 = .ok (.dup, 1) := by decide +kernel
theorem d3_179 : decode method_5_code 179 = .ok (.bipush 36, 2) := by decide +kernel
theorem d3_181 : decode method_5_code 181 = .ok (.iload_n 0, 1) := by decide +kernel
theorem d3_182 : decode method_5_code 182 = .ok (.castore, 1) := by decide +kernel
theorem d3_183 : decode method_5_code 183 = .ok (.dup, 1) := by decide +kernel
theorem d3_184 : decode method_5_code 184 = .ok (.bipush 37, 2) := by decide +kernel
theorem d3_186 : decode method_5_code 186 = .ok (.iload_n 0, 1) := by decide +kernel
theorem d3_187 : decode method_5_code 187 = .ok (.castore, 1) := by decide +kernel
theorem d3_188 : decode method_5_code 188 = .ok (.dup, 1) := by decide +kernel
theorem d3_189 : decode method_5_code 189 = .ok (.bipush 38, 2) := by decide +kernel
theorem d3_191 : decode method_5_code 191 = .ok (.iload_n 0, 1) := by decide +kernel
theorem d3_192 : decode method_5_code 192 = .ok (.castore, 1) := by decide +kernel
theorem d3_193 : decode method_5_code 193 = .ok (.dup, 1) := by decide +kernel
theorem d3_194 : decode method_5_code 194 = .ok (.bipush 39, 2) := by decide +kernel
theorem d3_196 : decode method_5_code 196 = .ok (.iload_n 0, 1) := by decide +kernel
theorem d3_197 : decode method_5_code 197 = .ok (.castore, 1) := by decide +kernel
theorem d3_198 : decode method_5_code 198 = .ok (.dup, 1) := by decide +kernel
theorem d3_199 : decode method_5_code 199 = .ok (.bipush 40, 2) := by decide +kernel
theorem d3_201 : decode method_5_code 201 = .ok (.iload_n 0, 1) := by decide +kernel
theorem d3_202 : decode method_5_code 202 = .ok (.castore, 1) := by decide +kernel
theorem d3_203 : decode method_5_code 203 = .ok (.dup, 1) := by decide +kernel
theorem d3_204 : decode method_5_code 204 = .ok (.bipush 41, 2) := by decide +kernel
theorem d3_206 : decode method_5_code 206 = .ok (.iload_n 0, 1) := by decide +kernel
theorem d3_207 : decode method_5_code 207 = .ok (.castore, 1) := by decide +kernel
theorem d3_208 : decode method_5_code 208 = .ok (.dup, 1) := by decide +kernel
theorem d3_209 : decode method_5_code 209 = .ok (.bipush 42, 2) := by decide +kernel
theorem d3_211 : decode method_5_code 211 = .ok (.iload_n 0, 1) := by decide +kernel
theorem d3_212 : decode method_5_code 212 = .ok (.castore, 1) := by decide +kernel
theorem d3_213 : decode method_5_code 213 = .ok (.dup, 1) := by decide +kernel
theorem d3_214 : decode method_5_code 214 = .ok (.bipush 43, 2) := by decide +kernel
theorem d3_216 : decode method_5_code 216 = .ok (.iload_n 0, 1) := by decide +kernel
theorem d3_217 : decode method_5_code 217 = .ok (.castore, 1) := by decide +kernel
theorem d3_218 : decode method_5_code 218 = .ok (.dup, 1) := by decide +kernel
theorem d3_219 : decode method_5_code 219 = .ok (.bipush 44, 2) := by decide +kernel
theorem d3_221 : decode method_5_code 221 = .ok (.iload_n 0, 1) := by decide +kernel
theorem d3_222 : decode method_5_code 222 = .ok (.castore, 1) := by decide +kernel
theorem d3_223 : decode method_5_code 223 = .ok (.areturn, 1) := by decide +kernel
abbrev Y31 : MethodName := (⟨"com/example/scopelock/scopelock/KeyWellFormedPinLaw", "filled45", "(C)[C"⟩ : MethodName)
theorem ef_own_filled45 (m : MethodId)  (ki0 : Int32) (vf0 : Value) (bb : Int32) : entryFrame m #[xi bb] 1 = (mkF m 0 #[vi bb] []) := by first | (simp [entryFrame, mkF, argsToLocals, Value.category]; done) | rfl
set_option maxRecDepth 65536 in
set_option maxHeartbeats 40000000 in
theorem own_filled45 (l : Launch) (Z : State) (a0 : Array Value) (hw : ∀ d ∈ tables_1, d.before a0 Z = true) (hj : ∀ d ∈ jdkStatics_1, d.before a0 Z = true)  (ki0 : Int32) (vf0 : Value) (G : own_St Z hj ki0 vf0) (bb : Int32) (h0 : Heap) (n0 : Nat) (O0 : Old Z n0 h0) : own_Met l Z Y31 method_5_code 1 (some (.array .char)) ({ frames := 0, cells := 1, slots := 45, locals := 0 } : Room) #[xi bb] h0 (own_QFl Z h0 n0 45 bb) := by
  intro ws
  refine MetFree.of_bodySF (plainFor_of_name pn2) hisR ?_
  intro p e s m args below meth c s₁ Bd hml0 hP hK
  obtain ⟨rfl, hZ, hh⟩ := hP
  have hx := Bd.exec
  have hby := Bd.bytes
  have hml : c.maxLocals = 1 := hml0
  have hown : s.vm.findClass "com/example/scopelock/scopelock/KeyWellFormedPinLaw" = some m.cls := findClass_of_methodNamed Bd.named
  have hnm := (name_of_methodNamed Bd.named Bd.method).1
  have X0 : Stand p l e ({ frames := 0, cells := 1, slots := 45, locals := 0 } : Room) s m #[xi bb] below meth c s₁ [] 0 0 := Stand.of_body Bd
  have e0 : s₁.heap = h0 := by rw [← hh, Bd.state]; rfl
  have N0 := Fr.nil n0
  have pre0 : ∀ t, Steps p.tables e below (s₁.setTop (mkF m 0 #[vi bb] [])) t → Steps p.tables e below (s₁.setTop (entryFrame m #[xi bb] 1)) t := fun t st => castTop (ef_own_filled45 m ki0 vf0 bb) st
  obtain ⟨T1, h1, k1, X1, e1, E1, A1, st1⟩ := newP X0 hx hZ (ww hw 6 rfl) e0 (g := (mkF m 2 #[vi bb] [xi (45 : Int32)])) rfl (hb hby d3_2) rfl (by decide) (cap := 45) (by decide) (by decide) (by decide) (by decide)
  obtain ⟨b1, g1⟩ : ∃ z, z = h0.size := ⟨_, rfl⟩
  rw [← g1] at A1 st1
  have g_b1 : n0 ≤ b1 := own_fresh O0 g1
  have sz_b1 : h0.size ≤ b1 := Nat.le_trans (Keep.refl h0 []).1 (Nat.le_of_eq g1.symm)
  have O1 := O0.ext E1
  have Kp1 : Keep h0 h1 [] := (Keep.refl h0 []).ext E1
  have V_b1 : Arv Z h1 b1 k1 .char (45 : Int32) [(.int (0 : Int32)), (.int (0 : Int32)), (.int (0 : Int32)), (.int (0 : Int32)), (.int (0 : Int32)), (.int (0 : Int32)), (.int (0 : Int32)), (.int (0 : Int32)), (.int (0 : Int32)), (.int (0 : Int32)), (.int (0 : Int32)), (.int (0 : Int32)), (.int (0 : Int32)), (.int (0 : Int32)), (.int (0 : Int32)), (.int (0 : Int32)), (.int (0 : Int32)), (.int (0 : Int32)), (.int (0 : Int32)), (.int (0 : Int32)), (.int (0 : Int32)), (.int (0 : Int32)), (.int (0 : Int32)), (.int (0 : Int32)), (.int (0 : Int32)), (.int (0 : Int32)), (.int (0 : Int32)), (.int (0 : Int32)), (.int (0 : Int32)), (.int (0 : Int32)), (.int (0 : Int32)), (.int (0 : Int32)), (.int (0 : Int32)), (.int (0 : Int32)), (.int (0 : Int32)), (.int (0 : Int32)), (.int (0 : Int32)), (.int (0 : Int32)), (.int (0 : Int32)), (.int (0 : Int32)), (.int (0 : Int32)), (.int (0 : Int32)), (.int (0 : Int32)), (.int (0 : Int32)), (.int (0 : Int32))] (.int (0 : Int32)) := (Arv.new A1 (by decide)).pad (pad_rep [] (.int (0 : Int32)) 45)
  obtain ⟨cl2, Ar2, q2, S2, N2_, H2, G2⟩ := id V_b1
  obtain ⟨T3, h3, X3, e3, W3, st3⟩ := stC X1 hx hZ e1 Ar2 (j := (0 : Int32)) (inb_of S2 ⟨by decide, by decide⟩) (g := (mkF m 7 #[vi bb] [xi bb, xi (0 : Int32), xr b1, xr b1])) rfl rfl (hb hby d3_7)
  have V_b1_3 : Arv Z h3 b1 k1 .char (45 : Int32) (own_fl (xi (nar .char bb)) 1 45) (.int (0 : Int32)) := Arv.set Ar2 q2 S2 N2_ H2 G2 (fits_nar_char _) W3 0 rfl (Nat.le_of_ble_eq_true rfl)
  have O3 := O1.wr W3 g_b1
  have Kp3 := Kp1.wr W3 (Or.inr sz_b1)
  have N3 := Fr.snoc X3 N0 g_b1
  obtain ⟨LL3, X3, N3⟩ := own_pack X3 N3
  obtain ⟨cl4, Ar4, q4, S4, N4_, H4, G4⟩ := id V_b1_3
  obtain ⟨T5, h5, X5, e5, W5, st5⟩ := stC X3 hx hZ e3 Ar4 (j := (1 : Int32)) (inb_of S4 ⟨by decide, by decide⟩) (g := (mkF m 11 #[vi bb] [xi bb, xi (1 : Int32), xr b1, xr b1])) rfl rfl (hb hby d3_11)
  have V_b1_5 : Arv Z h5 b1 k1 .char (45 : Int32) (own_fl (xi (nar .char bb)) 2 45) (.int (0 : Int32)) := Arv.set Ar4 q4 S4 N4_ H4 G4 (fits_nar_char _) W5 1 rfl (Nat.le_of_ble_eq_true rfl)
  have O5 := O3.wr W5 g_b1
  have Kp5 := Kp3.wr W5 (Or.inr sz_b1)
  have N5 := Fr.snoc X5 N3 g_b1
  obtain ⟨LL5, X5, N5⟩ := own_pack X5 N5
  obtain ⟨cl6, Ar6, q6, S6, N6_, H6, G6⟩ := id V_b1_5
  obtain ⟨T7, h7, X7, e7, W7, st7⟩ := stC X5 hx hZ e5 Ar6 (j := (2 : Int32)) (inb_of S6 ⟨by decide, by decide⟩) (g := (mkF m 15 #[vi bb] [xi bb, xi (2 : Int32), xr b1, xr b1])) rfl rfl (hb hby d3_15)
  have V_b1_7 : Arv Z h7 b1 k1 .char (45 : Int32) (own_fl (xi (nar .char bb)) 3 45) (.int (0 : Int32)) := Arv.set Ar6 q6 S6 N6_ H6 G6 (fits_nar_char _) W7 2 rfl (Nat.le_of_ble_eq_true rfl)
  have O7 := O5.wr W7 g_b1
  have Kp7 := Kp5.wr W7 (Or.inr sz_b1)
  have N7 := Fr.snoc X7 N5 g_b1
  obtain ⟨LL7, X7, N7⟩ := own_pack X7 N7
  obtain ⟨cl8, Ar8, q8, S8, N8_, H8, G8⟩ := id V_b1_7
  obtain ⟨T9, h9, X9, e9, W9, st9⟩ := stC X7 hx hZ e7 Ar8 (j := (3 : Int32)) (inb_of S8 ⟨by decide, by decide⟩) (g := (mkF m 19 #[vi bb] [xi bb, xi (3 : Int32), xr b1, xr b1])) rfl rfl (hb hby d3_19)
  have V_b1_9 : Arv Z h9 b1 k1 .char (45 : Int32) (own_fl (xi (nar .char bb)) 4 45) (.int (0 : Int32)) := Arv.set Ar8 q8 S8 N8_ H8 G8 (fits_nar_char _) W9 3 rfl (Nat.le_of_ble_eq_true rfl)
  have O9 := O7.wr W9 g_b1
  have Kp9 := Kp7.wr W9 (Or.inr sz_b1)
  have N9 := Fr.snoc X9 N7 g_b1
  obtain ⟨LL9, X9, N9⟩ := own_pack X9 N9
  obtain ⟨cl10, Ar10, q10, S10, N10_, H10, G10⟩ := id V_b1_9
  obtain ⟨T11, h11, X11, e11, W11, st11⟩ := stC X9 hx hZ e9 Ar10 (j := (4 : Int32)) (inb_of S10 ⟨by decide, by decide⟩) (g := (mkF m 23 #[vi bb] [xi bb, xi (4 : Int32), xr b1, xr b1])) rfl rfl (hb hby d3_23)
  have V_b1_11 : Arv Z h11 b1 k1 .char (45 : Int32) (own_fl (xi (nar .char bb)) 5 45) (.int (0 : Int32)) := Arv.set Ar10 q10 S10 N10_ H10 G10 (fits_nar_char _) W11 4 rfl (Nat.le_of_ble_eq_true rfl)
  have O11 := O9.wr W11 g_b1
  have Kp11 := Kp9.wr W11 (Or.inr sz_b1)
  have N11 := Fr.snoc X11 N9 g_b1
  obtain ⟨LL11, X11, N11⟩ := own_pack X11 N11
  obtain ⟨cl12, Ar12, q12, S12, N12_, H12, G12⟩ := id V_b1_11
  obtain ⟨T13, h13, X13, e13, W13, st13⟩ := stC X11 hx hZ e11 Ar12 (j := (5 : Int32)) (inb_of S12 ⟨by decide, by decide⟩) (g := (mkF m 27 #[vi bb] [xi bb, xi (5 : Int32), xr b1, xr b1])) rfl rfl (hb hby d3_27)
  have V_b1_13 : Arv Z h13 b1 k1 .char (45 : Int32) (own_fl (xi (nar .char bb)) 6 45) (.int (0 : Int32)) := Arv.set Ar12 q12 S12 N12_ H12 G12 (fits_nar_char _) W13 5 rfl (Nat.le_of_ble_eq_true rfl)
  have O13 := O11.wr W13 g_b1
  have Kp13 := Kp11.wr W13 (Or.inr sz_b1)
  have N13 := Fr.snoc X13 N11 g_b1
  obtain ⟨LL13, X13, N13⟩ := own_pack X13 N13
  obtain ⟨cl14, Ar14, q14, S14, N14_, H14, G14⟩ := id V_b1_13
  obtain ⟨T15, h15, X15, e15, W15, st15⟩ := stC X13 hx hZ e13 Ar14 (j := (6 : Int32)) (inb_of S14 ⟨by decide, by decide⟩) (g := (mkF m 32 #[vi bb] [xi bb, xi (6 : Int32), xr b1, xr b1])) rfl rfl (hb hby d3_32)
  have V_b1_15 : Arv Z h15 b1 k1 .char (45 : Int32) (own_fl (xi (nar .char bb)) 7 45) (.int (0 : Int32)) := Arv.set Ar14 q14 S14 N14_ H14 G14 (fits_nar_char _) W15 6 rfl (Nat.le_of_ble_eq_true rfl)
  have O15 := O13.wr W15 g_b1
  have Kp15 := Kp13.wr W15 (Or.inr sz_b1)
  have N15 := Fr.snoc X15 N13 g_b1
  obtain ⟨LL15, X15, N15⟩ := own_pack X15 N15
  obtain ⟨cl16, Ar16, q16, S16, N16_, H16, G16⟩ := id V_b1_15
  obtain ⟨T17, h17, X17, e17, W17, st17⟩ := stC X15 hx hZ e15 Ar16 (j := (7 : Int32)) (inb_of S16 ⟨by decide, by decide⟩) (g := (mkF m 37 #[vi bb] [xi bb, xi (7 : Int32), xr b1, xr b1])) rfl rfl (hb hby d3_37)
  have V_b1_17 : Arv Z h17 b1 k1 .char (45 : Int32) (own_fl (xi (nar .char bb)) 8 45) (.int (0 : Int32)) := Arv.set Ar16 q16 S16 N16_ H16 G16 (fits_nar_char _) W17 7 rfl (Nat.le_of_ble_eq_true rfl)
  have O17 := O15.wr W17 g_b1
  have Kp17 := Kp15.wr W17 (Or.inr sz_b1)
  have N17 := Fr.snoc X17 N15 g_b1
  obtain ⟨LL17, X17, N17⟩ := own_pack X17 N17
  obtain ⟨cl18, Ar18, q18, S18, N18_, H18, G18⟩ := id V_b1_17
  obtain ⟨T19, h19, X19, e19, W19, st19⟩ := stC X17 hx hZ e17 Ar18 (j := (8 : Int32)) (inb_of S18 ⟨by decide, by decide⟩) (g := (mkF m 42 #[vi bb] [xi bb, xi (8 : Int32), xr b1, xr b1])) rfl rfl (hb hby d3_42)
  have V_b1_19 : Arv Z h19 b1 k1 .char (45 : Int32) (own_fl (xi (nar .char bb)) 9 45) (.int (0 : Int32)) := Arv.set Ar18 q18 S18 N18_ H18 G18 (fits_nar_char _) W19 8 rfl (Nat.le_of_ble_eq_true rfl)
  have O19 := O17.wr W19 g_b1
  have Kp19 := Kp17.wr W19 (Or.inr sz_b1)
  have N19 := Fr.snoc X19 N17 g_b1
  obtain ⟨LL19, X19, N19⟩ := own_pack X19 N19
  obtain ⟨cl20, Ar20, q20, S20, N20_, H20, G20⟩ := id V_b1_19
  obtain ⟨T21, h21, X21, e21, W21, st21⟩ := stC X19 hx hZ e19 Ar20 (j := (9 : Int32)) (inb_of S20 ⟨by decide, by decide⟩) (g := (mkF m 47 #[vi bb] [xi bb, xi (9 : Int32), xr b1, xr b1])) rfl rfl (hb hby d3_47)
  have V_b1_21 : Arv Z h21 b1 k1 .char (45 : Int32) (own_fl (xi (nar .char bb)) 10 45) (.int (0 : Int32)) := Arv.set Ar20 q20 S20 N20_ H20 G20 (fits_nar_char _) W21 9 rfl (Nat.le_of_ble_eq_true rfl)
  have O21 := O19.wr W21 g_b1
  have Kp21 := Kp19.wr W21 (Or.inr sz_b1)
  have N21 := Fr.snoc X21 N19 g_b1
  obtain ⟨LL21, X21, N21⟩ := own_pack X21 N21
  obtain ⟨cl22, Ar22, q22, S22, N22_, H22, G22⟩ := id V_b1_21
  obtain ⟨T23, h23, X23, e23, W23, st23⟩ := stC X21 hx hZ e21 Ar22 (j := (10 : Int32)) (inb_of S22 ⟨by decide, by decide⟩) (g := (mkF m 52 #[vi bb] [xi bb, xi (10 : Int32), xr b1, xr b1])) rfl rfl (hb hby d3_52)
  have V_b1_23 : Arv Z h23 b1 k1 .char (45 : Int32) (own_fl (xi (nar .char bb)) 11 45) (.int (0 : Int32)) := Arv.set Ar22 q22 S22 N22_ H22 G22 (fits_nar_char _) W23 10 rfl (Nat.le_of_ble_eq_true rfl)
  have O23 := O21.wr W23 g_b1
  have Kp23 := Kp21.wr W23 (Or.inr sz_b1)
  have N23 := Fr.snoc X23 N21 g_b1
  obtain ⟨LL23, X23, N23⟩ := own_pack X23 N23
  obtain ⟨cl24, Ar24, q24, S24, N24_, H24, G24⟩ := id V_b1_23
  obtain ⟨T25, h25, X25, e25, W25, st25⟩ := stC X23 hx hZ e23 Ar24 (j := (11 : Int32)) (inb_of S24 ⟨by decide, by decide⟩) (g := (mkF m 57 #[vi bb] [xi bb, xi (11 : Int32), xr b1, xr b1])) rfl rfl (hb hby d3_57)
  have V_b1_25 : Arv Z h25 b1 k1 .char (45 : Int32) (own_fl (xi (nar .char bb)) 12 45) (.int (0 : Int32)) := Arv.set Ar24 q24 S24 N24_ H24 G24 (fits_nar_char _) W25 11 rfl (Nat.le_of_ble_eq_true rfl)
  have O25 := O23.wr W25 g_b1
  have Kp25 := Kp23.wr W25 (Or.inr sz_b1)
  have N25 := Fr.snoc X25 N23 g_b1
  obtain ⟨LL25, X25, N25⟩ := own_pack X25 N25
  obtain ⟨cl26, Ar26, q26, S26, N26_, H26, G26⟩ := id V_b1_25
  obtain ⟨T27, h27, X27, e27, W27, st27⟩ := stC X25 hx hZ e25 Ar26 (j := (12 : Int32)) (inb_of S26 ⟨by decide, by decide⟩) (g := (mkF m 62 #[vi bb] [xi bb, xi (12 : Int32), xr b1, xr b1])) rfl rfl (hb hby d3_62)
  have V_b1_27 : Arv Z h27 b1 k1 .char (45 : Int32) (own_fl (xi (nar .char bb)) 13 45) (.int (0 : Int32)) := Arv.set Ar26 q26 S26 N26_ H26 G26 (fits_nar_char _) W27 12 rfl (Nat.le_of_ble_eq_true rfl)
  have O27 := O25.wr W27 g_b1
  have Kp27 := Kp25.wr W27 (Or.inr sz_b1)
  have N27 := Fr.snoc X27 N25 g_b1
  obtain ⟨LL27, X27, N27⟩ := own_pack X27 N27
  obtain ⟨cl28, Ar28, q28, S28, N28_, H28, G28⟩ := id V_b1_27
  obtain ⟨T29, h29, X29, e29, W29, st29⟩ := stC X27 hx hZ e27 Ar28 (j := (13 : Int32)) (inb_of S28 ⟨by decide, by decide⟩) (g := (mkF m 67 #[vi bb] [xi bb, xi (13 : Int32), xr b1, xr b1])) rfl rfl (hb hby d3_67)
  have V_b1_29 : Arv Z h29 b1 k1 .char (45 : Int32) (own_fl (xi (nar .char bb)) 14 45) (.int (0 : Int32)) := Arv.set Ar28 q28 S28 N28_ H28 G28 (fits_nar_char _) W29 13 rfl (Nat.le_of_ble_eq_true rfl)
  have O29 := O27.wr W29 g_b1
  have Kp29 := Kp27.wr W29 (Or.inr sz_b1)
  have N29 := Fr.snoc X29 N27 g_b1
  obtain ⟨LL29, X29, N29⟩ := own_pack X29 N29
  obtain ⟨cl30, Ar30, q30, S30, N30_, H30, G30⟩ := id V_b1_29
  obtain ⟨T31, h31, X31, e31, W31, st31⟩ := stC X29 hx hZ e29 Ar30 (j := (14 : Int32)) (inb_of S30 ⟨by decide, by decide⟩) (g := (mkF m 72 #[vi bb] [xi bb, xi (14 : Int32), xr b1, xr b1])) rfl rfl (hb hby d3_72)
  have V_b1_31 : Arv Z h31 b1 k1 .char (45 : Int32) (own_fl (xi (nar .char bb)) 15 45) (.int (0 : Int32)) := Arv.set Ar30 q30 S30 N30_ H30 G30 (fits_nar_char _) W31 14 rfl (Nat.le_of_ble_eq_true rfl)
  have O31 := O29.wr W31 g_b1
  have Kp31 := Kp29.wr W31 (Or.inr sz_b1)
  have N31 := Fr.snoc X31 N29 g_b1
  obtain ⟨LL31, X31, N31⟩ := own_pack X31 N31
  obtain ⟨cl32, Ar32, q32, S32, N32_, H32, G32⟩ := id V_b1_31
  obtain ⟨T33, h33, X33, e33, W33, st33⟩ := stC X31 hx hZ e31 Ar32 (j := (15 : Int32)) (inb_of S32 ⟨by decide, by decide⟩) (g := (mkF m 77 #[vi bb] [xi bb, xi (15 : Int32), xr b1, xr b1])) rfl rfl (hb hby d3_77)
  have V_b1_33 : Arv Z h33 b1 k1 .char (45 : Int32) (own_fl (xi (nar .char bb)) 16 45) (.int (0 : Int32)) := Arv.set Ar32 q32 S32 N32_ H32 G32 (fits_nar_char _) W33 15 rfl (Nat.le_of_ble_eq_true rfl)
  have O33 := O31.wr W33 g_b1
  have Kp33 := Kp31.wr W33 (Or.inr sz_b1)
  have N33 := Fr.snoc X33 N31 g_b1
  obtain ⟨LL33, X33, N33⟩ := own_pack X33 N33
  obtain ⟨cl34, Ar34, q34, S34, N34_, H34, G34⟩ := id V_b1_33
  obtain ⟨T35, h35, X35, e35, W35, st35⟩ := stC X33 hx hZ e33 Ar34 (j := (16 : Int32)) (inb_of S34 ⟨by decide, by decide⟩) (g := (mkF m 82 #[vi bb] [xi bb, xi (16 : Int32), xr b1, xr b1])) rfl rfl (hb hby d3_82)
  have V_b1_35 : Arv Z h35 b1 k1 .char (45 : Int32) (own_fl (xi (nar .char bb)) 17 45) (.int (0 : Int32)) := Arv.set Ar34 q34 S34 N34_ H34 G34 (fits_nar_char _) W35 16 rfl (Nat.le_of_ble_eq_true rfl)
  have O35 := O33.wr W35 g_b1
  have Kp35 := Kp33.wr W35 (Or.inr sz_b1)
  have N35 := Fr.snoc X35 N33 g_b1
  obtain ⟨LL35, X35, N35⟩ := own_pack X35 N35
  obtain ⟨cl36, Ar36, q36, S36, N36_, H36, G36⟩ := id V_b1_35
  obtain ⟨T37, h37, X37, e37, W37, st37⟩ := stC X35 hx hZ e35 Ar36 (j := (17 : Int32)) (inb_of S36 ⟨by decide, by decide⟩) (g := (mkF m 87 #[vi bb] [xi bb, xi (17 : Int32), xr b1, xr b1])) rfl rfl (hb hby d3_87)
  have V_b1_37 : Arv Z h37 b1 k1 .char (45 : Int32) (own_fl (xi (nar .char bb)) 18 45) (.int (0 : Int32)) := Arv.set Ar36 q36 S36 N36_ H36 G36 (fits_nar_char _) W37 17 rfl (Nat.le_of_ble_eq_true rfl)
  have O37 := O35.wr W37 g_b1
  have Kp37 := Kp35.wr W37 (Or.inr sz_b1)
  have N37 := Fr.snoc X37 N35 g_b1
  obtain ⟨LL37, X37, N37⟩ := own_pack X37 N37
  obtain ⟨cl38, Ar38, q38, S38, N38_, H38, G38⟩ := id V_b1_37
  obtain ⟨T39, h39, X39, e39, W39, st39⟩ := stC X37 hx hZ e37 Ar38 (j := (18 : Int32)) (inb_of S38 ⟨by decide, by decide⟩) (g := (mkF m 92 #[vi bb] [xi bb, xi (18 : Int32), xr b1, xr b1])) rfl rfl (hb hby d3_92)
  have V_b1_39 : Arv Z h39 b1 k1 .char (45 : Int32) (own_fl (xi (nar .char bb)) 19 45) (.int (0 : Int32)) := Arv.set Ar38 q38 S38 N38_ H38 G38 (fits_nar_char _) W39 18 rfl (Nat.le_of_ble_eq_true rfl)
  have O39 := O37.wr W39 g_b1
  have Kp39 := Kp37.wr W39 (Or.inr sz_b1)
  have N39 := Fr.snoc X39 N37 g_b1
  obtain ⟨LL39, X39, N39⟩ := own_pack X39 N39
  obtain ⟨cl40, Ar40, q40, S40, N40_, H40, G40⟩ := id V_b1_39
  obtain ⟨T41, h41, X41, e41, W41, st41⟩ := stC X39 hx hZ e39 Ar40 (j := (19 : Int32)) (inb_of S40 ⟨by decide, by decide⟩) (g := (mkF m 97 #[vi bb] [xi bb, xi (19 : Int32), xr b1, xr b1])) rfl rfl (hb hby d3_97)
  have V_b1_41 : Arv Z h41 b1 k1 .char (45 : Int32) (own_fl (xi (nar .char bb)) 20 45) (.int (0 : Int32)) := Arv.set Ar40 q40 S40 N40_ H40 G40 (fits_nar_char _) W41 19 rfl (Nat.le_of_ble_eq_true rfl)
  have O41 := O39.wr W41 g_b1
  have Kp41 := Kp39.wr W41 (Or.inr sz_b1)
  have N41 := Fr.snoc X41 N39 g_b1
  obtain ⟨LL41, X41, N41⟩ := own_pack X41 N41
  obtain ⟨cl42, Ar42, q42, S42, N42_, H42, G42⟩ := id V_b1_41
  obtain ⟨T43, h43, X43, e43, W43, st43⟩ := stC X41 hx hZ e41 Ar42 (j := (20 : Int32)) (inb_of S42 ⟨by decide, by decide⟩) (g := (mkF m 102 #[vi bb] [xi bb, xi (20 : Int32), xr b1, xr b1])) rfl rfl (hb hby d3_102)
  have V_b1_43 : Arv Z h43 b1 k1 .char (45 : Int32) (own_fl (xi (nar .char bb)) 21 45) (.int (0 : Int32)) := Arv.set Ar42 q42 S42 N42_ H42 G42 (fits_nar_char _) W43 20 rfl (Nat.le_of_ble_eq_true rfl)
  have O43 := O41.wr W43 g_b1
  have Kp43 := Kp41.wr W43 (Or.inr sz_b1)
  have N43 := Fr.snoc X43 N41 g_b1
  obtain ⟨LL43, X43, N43⟩ := own_pack X43 N43
  obtain ⟨cl44, Ar44, q44, S44, N44_, H44, G44⟩ := id V_b1_43
  obtain ⟨T45, h45, X45, e45, W45, st45⟩ := stC X43 hx hZ e43 Ar44 (j := (21 : Int32)) (inb_of S44 ⟨by decide, by decide⟩) (g := (mkF m 107 #[vi bb] [xi bb, xi (21 : Int32), xr b1, xr b1])) rfl rfl (hb hby d3_107)
  have V_b1_45 : Arv Z h45 b1 k1 .char (45 : Int32) (own_fl (xi (nar .char bb)) 22 45) (.int (0 : Int32)) := Arv.set Ar44 q44 S44 N44_ H44 G44 (fits_nar_char _) W45 21 rfl (Nat.le_of_ble_eq_true rfl)
  have O45 := O43.wr W45 g_b1
  have Kp45 := Kp43.wr W45 (Or.inr sz_b1)
  have N45 := Fr.snoc X45 N43 g_b1
  obtain ⟨LL45, X45, N45⟩ := own_pack X45 N45
  obtain ⟨cl46, Ar46, q46, S46, N46_, H46, G46⟩ := id V_b1_45
  obtain ⟨T47, h47, X47, e47, W47, st47⟩ := stC X45 hx hZ e45 Ar46 (j := (22 : Int32)) (inb_of S46 ⟨by decide, by decide⟩) (g := (mkF m 112 #[vi bb] [xi bb, xi (22 : Int32), xr b1, xr b1])) rfl rfl (hb hby d3_112)
  have V_b1_47 : Arv Z h47 b1 k1 .char (45 : Int32) (own_fl (xi (nar .char bb)) 23 45) (.int (0 : Int32)) := Arv.set Ar46 q46 S46 N46_ H46 G46 (fits_nar_char _) W47 22 rfl (Nat.le_of_ble_eq_true rfl)
  have O47 := O45.wr W47 g_b1
  have Kp47 := Kp45.wr W47 (Or.inr sz_b1)
  have N47 := Fr.snoc X47 N45 g_b1
  obtain ⟨LL47, X47, N47⟩ := own_pack X47 N47
  obtain ⟨cl48, Ar48, q48, S48, N48_, H48, G48⟩ := id V_b1_47
  obtain ⟨T49, h49, X49, e49, W49, st49⟩ := stC X47 hx hZ e47 Ar48 (j := (23 : Int32)) (inb_of S48 ⟨by decide, by decide⟩) (g := (mkF m 117 #[vi bb] [xi bb, xi (23 : Int32), xr b1, xr b1])) rfl rfl (hb hby d3_117)
  have V_b1_49 : Arv Z h49 b1 k1 .char (45 : Int32) (own_fl (xi (nar .char bb)) 24 45) (.int (0 : Int32)) := Arv.set Ar48 q48 S48 N48_ H48 G48 (fits_nar_char _) W49 23 rfl (Nat.le_of_ble_eq_true rfl)
  have O49 := O47.wr W49 g_b1
  have Kp49 := Kp47.wr W49 (Or.inr sz_b1)
  have N49 := Fr.snoc X49 N47 g_b1
  obtain ⟨LL49, X49, N49⟩ := own_pack X49 N49
  obtain ⟨cl50, Ar50, q50, S50, N50_, H50, G50⟩ := id V_b1_49
  obtain ⟨T51, h51, X51, e51, W51, st51⟩ := stC X49 hx hZ e49 Ar50 (j := (24 : Int32)) (inb_of S50 ⟨by decide, by decide⟩) (g := (mkF m 122 #[vi bb] [xi bb, xi (24 : Int32), xr b1, xr b1])) rfl rfl (hb hby d3_122)
  have V_b1_51 : Arv Z h51 b1 k1 .char (45 : Int32) (own_fl (xi (nar .char bb)) 25 45) (.int (0 : Int32)) := Arv.set Ar50 q50 S50 N50_ H50 G50 (fits_nar_char _) W51 24 rfl (Nat.le_of_ble_eq_true rfl)
  have O51 := O49.wr W51 g_b1
  have Kp51 := Kp49.wr W51 (Or.inr sz_b1)
  have N51 := Fr.snoc X51 N49 g_b1
  obtain ⟨LL51, X51, N51⟩ := own_pack X51 N51
  obtain ⟨cl52, Ar52, q52, S52, N52_, H52, G52⟩ := id V_b1_51
  obtain ⟨T53, h53, X53, e53, W53, st53⟩ := stC X51 hx hZ e51 Ar52 (j := (25 : Int32)) (inb_of S52 ⟨by decide, by decide⟩) (g := (mkF m 127 #[vi bb] [xi bb, xi (25 : Int32), xr b1, xr b1])) rfl rfl (hb hby d3_127)
  have V_b1_53 : Arv Z h53 b1 k1 .char (45 : Int32) (own_fl (xi (nar .char bb)) 26 45) (.int (0 : Int32)) := Arv.set Ar52 q52 S52 N52_ H52 G52 (fits_nar_char _) W53 25 rfl (Nat.le_of_ble_eq_true rfl)
  have O53 := O51.wr W53 g_b1
  have Kp53 := Kp51.wr W53 (Or.inr sz_b1)
  have N53 := Fr.snoc X53 N51 g_b1
  obtain ⟨LL53, X53, N53⟩ := own_pack X53 N53
  obtain ⟨cl54, Ar54, q54, S54, N54_, H54, G54⟩ := id V_b1_53
  obtain ⟨T55, h55, X55, e55, W55, st55⟩ := stC X53 hx hZ e53 Ar54 (j := (26 : Int32)) (inb_of S54 ⟨by decide, by decide⟩) (g := (mkF m 132 #[vi bb] [xi bb, xi (26 : Int32), xr b1, xr b1])) rfl rfl (hb hby d3_132)
  have V_b1_55 : Arv Z h55 b1 k1 .char (45 : Int32) (own_fl (xi (nar .char bb)) 27 45) (.int (0 : Int32)) := Arv.set Ar54 q54 S54 N54_ H54 G54 (fits_nar_char _) W55 26 rfl (Nat.le_of_ble_eq_true rfl)
  have O55 := O53.wr W55 g_b1
  have Kp55 := Kp53.wr W55 (Or.inr sz_b1)
  have N55 := Fr.snoc X55 N53 g_b1
  obtain ⟨LL55, X55, N55⟩ := own_pack X55 N55
  obtain ⟨cl56, Ar56, q56, S56, N56_, H56, G56⟩ := id V_b1_55
  obtain ⟨T57, h57, X57, e57, W57, st57⟩ := stC X55 hx hZ e55 Ar56 (j := (27 : Int32)) (inb_of S56 ⟨by decide, by decide⟩) (g := (mkF m 137 #[vi bb] [xi bb, xi (27 : Int32), xr b1, xr b1])) rfl rfl (hb hby d3_137)
  have V_b1_57 : Arv Z h57 b1 k1 .char (45 : Int32) (own_fl (xi (nar .char bb)) 28 45) (.int (0 : Int32)) := Arv.set Ar56 q56 S56 N56_ H56 G56 (fits_nar_char _) W57 27 rfl (Nat.le_of_ble_eq_true rfl)
  have O57 := O55.wr W57 g_b1
  have Kp57 := Kp55.wr W57 (Or.inr sz_b1)
  have N57 := Fr.snoc X57 N55 g_b1
  obtain ⟨LL57, X57, N57⟩ := own_pack X57 N57
  obtain ⟨cl58, Ar58, q58, S58, N58_, H58, G58⟩ := id V_b1_57
  obtain ⟨T59, h59, X59, e59, W59, st59⟩ := stC X57 hx hZ e57 Ar58 (j := (28 : Int32)) (inb_of S58 ⟨by decide, by decide⟩) (g := (mkF m 142 #[vi bb] [xi bb, xi (28 : Int32), xr b1, xr b1])) rfl rfl (hb hby d3_142)
  have V_b1_59 : Arv Z h59 b1 k1 .char (45 : Int32) (own_fl (xi (nar .char bb)) 29 45) (.int (0 : Int32)) := Arv.set Ar58 q58 S58 N58_ H58 G58 (fits_nar_char _) W59 28 rfl (Nat.le_of_ble_eq_true rfl)
  have O59 := O57.wr W59 g_b1
  have Kp59 := Kp57.wr W59 (Or.inr sz_b1)
  have N59 := Fr.snoc X59 N57 g_b1
  obtain ⟨LL59, X59, N59⟩ := own_pack X59 N59
  obtain ⟨cl60, Ar60, q60, S60, N60_, H60, G60⟩ := id V_b1_59
  obtain ⟨T61, h61, X61, e61, W61, st61⟩ := stC X59 hx hZ e59 Ar60 (j := (29 : Int32)) (inb_of S60 ⟨by decide, by decide⟩) (g := (mkF m 147 #[vi bb] [xi bb, xi (29 : Int32), xr b1, xr b1])) rfl rfl (hb hby d3_147)
  have V_b1_61 : Arv Z h61 b1 k1 .char (45 : Int32) (own_fl (xi (nar .char bb)) 30 45) (.int (0 : Int32)) := Arv.set Ar60 q60 S60 N60_ H60 G60 (fits_nar_char _) W61 29 rfl (Nat.le_of_ble_eq_true rfl)
  have O61 := O59.wr W61 g_b1
  have Kp61 := Kp59.wr W61 (Or.inr sz_b1)
  have N61 := Fr.snoc X61 N59 g_b1
  obtain ⟨LL61, X61, N61⟩ := own_pack X61 N61
  obtain ⟨cl62, Ar62, q62, S62, N62_, H62, G62⟩ := id V_b1_61
  obtain ⟨T63, h63, X63, e63, W63, st63⟩ := stC X61 hx hZ e61 Ar62 (j := (30 : Int32)) (inb_of S62 ⟨by decide, by decide⟩) (g := (mkF m 152 #[vi bb] [xi bb, xi (30 : Int32), xr b1, xr b1])) rfl rfl (hb hby d3_152)
  have V_b1_63 : Arv Z h63 b1 k1 .char (45 : Int32) (own_fl (xi (nar .char bb)) 31 45) (.int (0 : Int32)) := Arv.set Ar62 q62 S62 N62_ H62 G62 (fits_nar_char _) W63 30 rfl (Nat.le_of_ble_eq_true rfl)
  have O63 := O61.wr W63 g_b1
  have Kp63 := Kp61.wr W63 (Or.inr sz_b1)
  have N63 := Fr.snoc X63 N61 g_b1
  obtain ⟨LL63, X63, N63⟩ := own_pack X63 N63
  obtain ⟨cl64, Ar64, q64, S64, N64_, H64, G64⟩ := id V_b1_63
  obtain ⟨T65, h65, X65, e65, W65, st65⟩ := stC X63 hx hZ e63 Ar64 (j := (31 : Int32)) (inb_of S64 ⟨by decide, by decide⟩) (g := (mkF m 157 #[vi bb] [xi bb, xi (31 : Int32), xr b1, xr b1])) rfl rfl (hb hby d3_157)
  have V_b1_65 : Arv Z h65 b1 k1 .char (45 : Int32) (own_fl (xi (nar .char bb)) 32 45) (.int (0 : Int32)) := Arv.set Ar64 q64 S64 N64_ H64 G64 (fits_nar_char _) W65 31 rfl (Nat.le_of_ble_eq_true rfl)
  have O65 := O63.wr W65 g_b1
  have Kp65 := Kp63.wr W65 (Or.inr sz_b1)
  have N65 := Fr.snoc X65 N63 g_b1
  obtain ⟨LL65, X65, N65⟩ := own_pack X65 N65
  obtain ⟨cl66, Ar66, q66, S66, N66_, H66, G66⟩ := id V_b1_65
  obtain ⟨T67, h67, X67, e67, W67, st67⟩ := stC X65 hx hZ e65 Ar66 (j := (32 : Int32)) (inb_of S66 ⟨by decide, by decide⟩) (g := (mkF m 162 #[vi bb] [xi bb, xi (32 : Int32), xr b1, xr b1])) rfl rfl (hb hby d3_162)
  have V_b1_67 : Arv Z h67 b1 k1 .char (45 : Int32) (own_fl (xi (nar .char bb)) 33 45) (.int (0 : Int32)) := Arv.set Ar66 q66 S66 N66_ H66 G66 (fits_nar_char _) W67 32 rfl (Nat.le_of_ble_eq_true rfl)
  have O67 := O65.wr W67 g_b1
  have Kp67 := Kp65.wr W67 (Or.inr sz_b1)
  have N67 := Fr.snoc X67 N65 g_b1
  obtain ⟨LL67, X67, N67⟩ := own_pack X67 N67
  obtain ⟨cl68, Ar68, q68, S68, N68_, H68, G68⟩ := id V_b1_67
  obtain ⟨T69, h69, X69, e69, W69, st69⟩ := stC X67 hx hZ e67 Ar68 (j := (33 : Int32)) (inb_of S68 ⟨by decide, by decide⟩) (g := (mkF m 167 #[vi bb] [xi bb, xi (33 : Int32), xr b1, xr b1])) rfl rfl (hb hby d3_167)
  have V_b1_69 : Arv Z h69 b1 k1 .char (45 : Int32) (own_fl (xi (nar .char bb)) 34 45) (.int (0 : Int32)) := Arv.set Ar68 q68 S68 N68_ H68 G68 (fits_nar_char _) W69 33 rfl (Nat.le_of_ble_eq_true rfl)
  have O69 := O67.wr W69 g_b1
  have Kp69 := Kp67.wr W69 (Or.inr sz_b1)
  have N69 := Fr.snoc X69 N67 g_b1
  obtain ⟨LL69, X69, N69⟩ := own_pack X69 N69
  obtain ⟨cl70, Ar70, q70, S70, N70_, H70, G70⟩ := id V_b1_69
  obtain ⟨T71, h71, X71, e71, W71, st71⟩ := stC X69 hx hZ e69 Ar70 (j := (34 : Int32)) (inb_of S70 ⟨by decide, by decide⟩) (g := (mkF m 172 #[vi bb] [xi bb, xi (34 : Int32), xr b1, xr b1])) rfl rfl (hb hby d3_172)
  have V_b1_71 : Arv Z h71 b1 k1 .char (45 : Int32) (own_fl (xi (nar .char bb)) 35 45) (.int (0 : Int32)) := Arv.set Ar70 q70 S70 N70_ H70 G70 (fits_nar_char _) W71 34 rfl (Nat.le_of_ble_eq_true rfl)
  have O71 := O69.wr W71 g_b1
  have Kp71 := Kp69.wr W71 (Or.inr sz_b1)
  have N71 := Fr.snoc X71 N69 g_b1
  obtain ⟨LL71, X71, N71⟩ := own_pack X71 N71
  obtain ⟨cl72, Ar72, q72, S72, N72_, H72, G72⟩ := id V_b1_71
  obtain ⟨T73, h73, X73, e73, W73, st73⟩ := stC X71 hx hZ e71 Ar72 (j := (35 : Int32)) (inb_of S72 ⟨by decide, by decide⟩) (g := (mkF m 177 #[vi bb] [xi bb, xi (35 : Int32), xr b1, xr b1])) rfl rfl (hb hby d3_177)
  have V_b1_73 : Arv Z h73 b1 k1 .char (45 : Int32) (own_fl (xi (nar .char bb)) 36 45) (.int (0 : Int32)) := Arv.set Ar72 q72 S72 N72_ H72 G72 (fits_nar_char _) W73 35 rfl (Nat.le_of_ble_eq_true rfl)
  have O73 := O71.wr W73 g_b1
  have Kp73 := Kp71.wr W73 (Or.inr sz_b1)
  have N73 := Fr.snoc X73 N71 g_b1
  obtain ⟨LL73, X73, N73⟩ := own_pack X73 N73
  obtain ⟨cl74, Ar74, q74, S74, N74_, H74, G74⟩ := id V_b1_73
  obtain ⟨T75, h75, X75, e75, W75, st75⟩ := stC X73 hx hZ e73 Ar74 (j := (36 : Int32)) (inb_of S74 ⟨by decide, by decide⟩) (g := (mkF m 182 #[vi bb] [xi bb, xi (36 : Int32), xr b1, xr b1])) rfl rfl (hb hby d3_182)
  have V_b1_75 : Arv Z h75 b1 k1 .char (45 : Int32) (own_fl (xi (nar .char bb)) 37 45) (.int (0 : Int32)) := Arv.set Ar74 q74 S74 N74_ H74 G74 (fits_nar_char _) W75 36 rfl (Nat.le_of_ble_eq_true rfl)
  have O75 := O73.wr W75 g_b1
  have Kp75 := Kp73.wr W75 (Or.inr sz_b1)
  have N75 := Fr.snoc X75 N73 g_b1
  obtain ⟨LL75, X75, N75⟩ := own_pack X75 N75
  obtain ⟨cl76, Ar76, q76, S76, N76_, H76, G76⟩ := id V_b1_75
  obtain ⟨T77, h77, X77, e77, W77, st77⟩ := stC X75 hx hZ e75 Ar76 (j := (37 : Int32)) (inb_of S76 ⟨by decide, by decide⟩) (g := (mkF m 187 #[vi bb] [xi bb, xi (37 : Int32), xr b1, xr b1])) rfl rfl (hb hby d3_187)
  have V_b1_77 : Arv Z h77 b1 k1 .char (45 : Int32) (own_fl (xi (nar .char bb)) 38 45) (.int (0 : Int32)) := Arv.set Ar76 q76 S76 N76_ H76 G76 (fits_nar_char _) W77 37 rfl (Nat.le_of_ble_eq_true rfl)
  have O77 := O75.wr W77 g_b1
  have Kp77 := Kp75.wr W77 (Or.inr sz_b1)
  have N77 := Fr.snoc X77 N75 g_b1
  obtain ⟨LL77, X77, N77⟩ := own_pack X77 N77
  obtain ⟨cl78, Ar78, q78, S78, N78_, H78, G78⟩ := id V_b1_77
  obtain ⟨T79, h79, X79, e79, W79, st79⟩ := stC X77 hx hZ e77 Ar78 (j := (38 : Int32)) (inb_of S78 ⟨by decide, by decide⟩) (g := (mkF m 192 #[vi bb] [xi bb, xi (38 : Int32), xr b1, xr b1])) rfl rfl (hb hby d3_192)
  have V_b1_79 : Arv Z h79 b1 k1 .char (45 : Int32) (own_fl (xi (nar .char bb)) 39 45) (.int (0 : Int32)) := Arv.set Ar78 q78 S78 N78_ H78 G78 (fits_nar_char _) W79 38 rfl (Nat.le_of_ble_eq_true rfl)
  have O79 := O77.wr W79 g_b1
  have Kp79 := Kp77.wr W79 (Or.inr sz_b1)
  have N79 := Fr.snoc X79 N77 g_b1
  obtain ⟨LL79, X79, N79⟩ := own_pack X79 N79
  obtain ⟨cl80, Ar80, q80, S80, N80_, H80, G80⟩ := id V_b1_79
  obtain ⟨T81, h81, X81, e81, W81, st81⟩ := stC X79 hx hZ e79 Ar80 (j := (39 : Int32)) (inb_of S80 ⟨by decide, by decide⟩) (g := (mkF m 197 #[vi bb] [xi bb, xi (39 : Int32), xr b1, xr b1])) rfl rfl (hb hby d3_197)
  have V_b1_81 : Arv Z h81 b1 k1 .char (45 : Int32) (own_fl (xi (nar .char bb)) 40 45) (.int (0 : Int32)) := Arv.set Ar80 q80 S80 N80_ H80 G80 (fits_nar_char _) W81 39 rfl (Nat.le_of_ble_eq_true rfl)
  have O81 := O79.wr W81 g_b1
  have Kp81 := Kp79.wr W81 (Or.inr sz_b1)
  have N81 := Fr.snoc X81 N79 g_b1
  obtain ⟨LL81, X81, N81⟩ := own_pack X81 N81
  obtain ⟨cl82, Ar82, q82, S82, N82_, H82, G82⟩ := id V_b1_81
  obtain ⟨T83, h83, X83, e83, W83, st83⟩ := stC X81 hx hZ e81 Ar82 (j := (40 : Int32)) (inb_of S82 ⟨by decide, by decide⟩) (g := (mkF m 202 #[vi bb] [xi bb, xi (40 : Int32), xr b1, xr b1])) rfl rfl (hb hby d3_202)
  have V_b1_83 : Arv Z h83 b1 k1 .char (45 : Int32) (own_fl (xi (nar .char bb)) 41 45) (.int (0 : Int32)) := Arv.set Ar82 q82 S82 N82_ H82 G82 (fits_nar_char _) W83 40 rfl (Nat.le_of_ble_eq_true rfl)
  have O83 := O81.wr W83 g_b1
  have Kp83 := Kp81.wr W83 (Or.inr sz_b1)
  have N83 := Fr.snoc X83 N81 g_b1
  obtain ⟨LL83, X83, N83⟩ := own_pack X83 N83
  obtain ⟨cl84, Ar84, q84, S84, N84_, H84, G84⟩ := id V_b1_83
  obtain ⟨T85, h85, X85, e85, W85, st85⟩ := stC X83 hx hZ e83 Ar84 (j := (41 : Int32)) (inb_of S84 ⟨by decide, by decide⟩) (g := (mkF m 207 #[vi bb] [xi bb, xi (41 : Int32), xr b1, xr b1])) rfl rfl (hb hby d3_207)
  have V_b1_85 : Arv Z h85 b1 k1 .char (45 : Int32) (own_fl (xi (nar .char bb)) 42 45) (.int (0 : Int32)) := Arv.set Ar84 q84 S84 N84_ H84 G84 (fits_nar_char _) W85 41 rfl (Nat.le_of_ble_eq_true rfl)
  have O85 := O83.wr W85 g_b1
  have Kp85 := Kp83.wr W85 (Or.inr sz_b1)
  have N85 := Fr.snoc X85 N83 g_b1
  obtain ⟨LL85, X85, N85⟩ := own_pack X85 N85
  obtain ⟨cl86, Ar86, q86, S86, N86_, H86, G86⟩ := id V_b1_85
  obtain ⟨T87, h87, X87, e87, W87, st87⟩ := stC X85 hx hZ e85 Ar86 (j := (42 : Int32)) (inb_of S86 ⟨by decide, by decide⟩) (g := (mkF m 212 #[vi bb] [xi bb, xi (42 : Int32), xr b1, xr b1])) rfl rfl (hb hby d3_212)
  have V_b1_87 : Arv Z h87 b1 k1 .char (45 : Int32) (own_fl (xi (nar .char bb)) 43 45) (.int (0 : Int32)) := Arv.set Ar86 q86 S86 N86_ H86 G86 (fits_nar_char _) W87 42 rfl (Nat.le_of_ble_eq_true rfl)
  have O87 := O85.wr W87 g_b1
  have Kp87 := Kp85.wr W87 (Or.inr sz_b1)
  have N87 := Fr.snoc X87 N85 g_b1
  obtain ⟨LL87, X87, N87⟩ := own_pack X87 N87
  obtain ⟨cl88, Ar88, q88, S88, N88_, H88, G88⟩ := id V_b1_87
  obtain ⟨T89, h89, X89, e89, W89, st89⟩ := stC X87 hx hZ e87 Ar88 (j := (43 : Int32)) (inb_of S88 ⟨by decide, by decide⟩) (g := (mkF m 217 #[vi bb] [xi bb, xi (43 : Int32), xr b1, xr b1])) rfl rfl (hb hby d3_217)
  have V_b1_89 : Arv Z h89 b1 k1 .char (45 : Int32) (own_fl (xi (nar .char bb)) 44 45) (.int (0 : Int32)) := Arv.set Ar88 q88 S88 N88_ H88 G88 (fits_nar_char _) W89 43 rfl (Nat.le_of_ble_eq_true rfl)
  have O89 := O87.wr W89 g_b1
  have Kp89 := Kp87.wr W89 (Or.inr sz_b1)
  have N89 := Fr.snoc X89 N87 g_b1
  obtain ⟨LL89, X89, N89⟩ := own_pack X89 N89
  obtain ⟨cl90, Ar90, q90, S90, N90_, H90, G90⟩ := id V_b1_89
  obtain ⟨T91, h91, X91, e91, W91, st91⟩ := stC X89 hx hZ e89 Ar90 (j := (44 : Int32)) (inb_of S90 ⟨by decide, by decide⟩) (g := (mkF m 222 #[vi bb] [xi bb, xi (44 : Int32), xr b1, xr b1])) rfl rfl (hb hby d3_222)
  have V_b1_91 : Arv Z h91 b1 k1 .char (45 : Int32) (own_fl (xi (nar .char bb)) 45 45) (.int (0 : Int32)) := Arv.set Ar90 q90 S90 N90_ H90 G90 (fits_nar_char _) W91 44 rfl (Nat.le_of_ble_eq_true rfl)
  have O91 := O89.wr W91 g_b1
  have Kp91 := Kp89.wr W91 (Or.inr sz_b1)
  have N91 := Fr.snoc X91 N89 g_b1
  obtain ⟨LL91, X91, N91⟩ := own_pack X91 N91
  obtain ⟨fs, hr, hrun, hended, hW, hsame⟩ := X91.leave (v := some (xr b1)) (fun h => by rw [Bd.returns] at h; cases h)
  refine ⟨_, _, pre0 _ ?_, hrun, hended, _, _, rfl, ?_, ⟨_, rfl⟩, hW, hsame.mono (by decide) (by decide)⟩
  · show own_S p e below s₁ (mkF m 0 #[vi bb] []) _
    refine XS.bipush X0.here hx rfl (hb hby d3_0) ?_
    show own_S p e below s₁ (mkF m 2 #[vi bb] [xi (45 : Int32)]) _
    refine st1 _ ?_
    refine XS.dup X1.here hx rfl (hb hby d3_4) rfl rfl ?_
    refine XS.iconst X1.here hx rfl (hb hby d3_5) ?_
    refine XS.iloadN X1.here hx rfl (hb hby d3_6) rfl ?_
    show own_S p e below T1 (mkF m 7 #[vi bb] [xi bb, xi (0 : Int32), xr b1, xr b1]) _
    refine st3 _ ?_
    refine XS.dup X3.here hx rfl (hb hby d3_8) rfl rfl ?_
    refine XS.iconst X3.here hx rfl (hb hby d3_9) ?_
    refine XS.iloadN X3.here hx rfl (hb hby d3_10) rfl ?_
    show own_S p e below T3 (mkF m 11 #[vi bb] [xi bb, xi (1 : Int32), xr b1, xr b1]) _
    refine st5 _ ?_
    refine XS.dup X5.here hx rfl (hb hby d3_12) rfl rfl ?_
    refine XS.iconst X5.here hx rfl (hb hby d3_13) ?_
    refine XS.iloadN X5.here hx rfl (hb hby d3_14) rfl ?_
    show own_S p e below T5 (mkF m 15 #[vi bb] [xi bb, xi (2 : Int32), xr b1, xr b1]) _
    refine st7 _ ?_
    refine XS.dup X7.here hx rfl (hb hby d3_16) rfl rfl ?_
    refine XS.iconst X7.here hx rfl (hb hby d3_17) ?_
    refine XS.iloadN X7.here hx rfl (hb hby d3_18) rfl ?_
    show own_S p e below T7 (mkF m 19 #[vi bb] [xi bb, xi (3 : Int32), xr b1, xr b1]) _
    refine st9 _ ?_
    refine XS.dup X9.here hx rfl (hb hby d3_20) rfl rfl ?_
    refine XS.iconst X9.here hx rfl (hb hby d3_21) ?_
    refine XS.iloadN X9.here hx rfl (hb hby d3_22) rfl ?_
    show own_S p e below T9 (mkF m 23 #[vi bb] [xi bb, xi (4 : Int32), xr b1, xr b1]) _
    refine st11 _ ?_
    refine XS.dup X11.here hx rfl (hb hby d3_24) rfl rfl ?_
    refine XS.iconst X11.here hx rfl (hb hby d3_25) ?_
    refine XS.iloadN X11.here hx rfl (hb hby d3_26) rfl ?_
    show own_S p e below T11 (mkF m 27 #[vi bb] [xi bb, xi (5 : Int32), xr b1, xr b1]) _
    refine st13 _ ?_
    refine XS.dup X13.here hx rfl (hb hby d3_28) rfl rfl ?_
    refine XS.bipush X13.here hx rfl (hb hby d3_29) ?_
    refine XS.iloadN X13.here hx rfl (hb hby d3_31) rfl ?_
    show own_S p e below T13 (mkF m 32 #[vi bb] [xi bb, xi (6 : Int32), xr b1, xr b1]) _
    refine st15 _ ?_
    refine XS.dup X15.here hx rfl (hb hby d3_33) rfl rfl ?_
    refine XS.bipush X15.here hx rfl (hb hby d3_34) ?_
    refine XS.iloadN X15.here hx rfl (hb hby d3_36) rfl ?_
    show own_S p e below T15 (mkF m 37 #[vi bb] [xi bb, xi (7 : Int32), xr b1, xr b1]) _
    refine st17 _ ?_
    refine XS.dup X17.here hx rfl (hb hby d3_38) rfl rfl ?_
    refine XS.bipush X17.here hx rfl (hb hby d3_39) ?_
    refine XS.iloadN X17.here hx rfl (hb hby d3_41) rfl ?_
    show own_S p e below T17 (mkF m 42 #[vi bb] [xi bb, xi (8 : Int32), xr b1, xr b1]) _
    refine st19 _ ?_
    refine XS.dup X19.here hx rfl (hb hby d3_43) rfl rfl ?_
    refine XS.bipush X19.here hx rfl (hb hby d3_44) ?_
    refine XS.iloadN X19.here hx rfl (hb hby d3_46) rfl ?_
    show own_S p e below T19 (mkF m 47 #[vi bb] [xi bb, xi (9 : Int32), xr b1, xr b1]) _
    refine st21 _ ?_
    refine XS.dup X21.here hx rfl (hb hby d3_48) rfl rfl ?_
    refine XS.bipush X21.here hx rfl (hb hby d3_49) ?_
    refine XS.iloadN X21.here hx rfl (hb hby d3_51) rfl ?_
    show own_S p e below T21 (mkF m 52 #[vi bb] [xi bb, xi (10 : Int32), xr b1, xr b1]) _
    refine st23 _ ?_
    refine XS.dup X23.here hx rfl (hb hby d3_53) rfl rfl ?_
    refine XS.bipush X23.here hx rfl (hb hby d3_54) ?_
    refine XS.iloadN X23.here hx rfl (hb hby d3_56) rfl ?_
    show own_S p e below T23 (mkF m 57 #[vi bb] [xi bb, xi (11 : Int32), xr b1, xr b1]) _
    refine st25 _ ?_
    refine XS.dup X25.here hx rfl (hb hby d3_58) rfl rfl ?_
    refine XS.bipush X25.here hx rfl (hb hby d3_59) ?_
    refine XS.iloadN X25.here hx rfl (hb hby d3_61) rfl ?_
    show own_S p e below T25 (mkF m 62 #[vi bb] [xi bb, xi (12 : Int32), xr b1, xr b1]) _
    refine st27 _ ?_
    refine XS.dup X27.here hx rfl (hb hby d3_63) rfl rfl ?_
    refine XS.bipush X27.here hx rfl (hb hby d3_64) ?_
    refine XS.iloadN X27.here hx rfl (hb hby d3_66) rfl ?_
    show own_S p e below T27 (mkF m 67 #[vi bb] [xi bb, xi (13 : Int32), xr b1, xr b1]) _
    refine st29 _ ?_
    refine XS.dup X29.here hx rfl (hb hby d3_68) rfl rfl ?_
    refine XS.bipush X29.here hx rfl (hb hby d3_69) ?_
    refine XS.iloadN X29.here hx rfl (hb hby d3_71) rfl ?_
    show own_S p e below T29 (mkF m 72 #[vi bb] [xi bb, xi (14 : Int32), xr b1, xr b1]) _
    refine st31 _ ?_
    refine XS.dup X31.here hx rfl (hb hby d3_73) rfl rfl ?_
    refine XS.bipush X31.here hx rfl (hb hby d3_74) ?_
    refine XS.iloadN X31.here hx rfl (hb hby d3_76) rfl ?_
    show own_S p e below T31 (mkF m 77 #[vi bb] [xi bb, xi (15 : Int32), xr b1, xr b1]) _
    refine st33 _ ?_
    refine XS.dup X33.here hx rfl (hb hby d3_78) rfl rfl ?_
    refine XS.bipush X33.here hx rfl (hb hby d3_79) ?_
    refine XS.iloadN X33.here hx rfl (hb hby d3_81) rfl ?_
    show own_S p e below T33 (mkF m 82 #[vi bb] [xi bb, xi (16 : Int32), xr b1, xr b1]) _
    refine st35 _ ?_
    refine XS.dup X35.here hx rfl (hb hby d3_83) rfl rfl ?_
    refine XS.bipush X35.here hx rfl (hb hby d3_84) ?_
    refine XS.iloadN X35.here hx rfl (hb hby d3_86) rfl ?_
    show own_S p e below T35 (mkF m 87 #[vi bb] [xi bb, xi (17 : Int32), xr b1, xr b1]) _
    refine st37 _ ?_
    refine XS.dup X37.here hx rfl (hb hby d3_88) rfl rfl ?_
    refine XS.bipush X37.here hx rfl (hb hby d3_89) ?_
    refine XS.iloadN X37.here hx rfl (hb hby d3_91) rfl ?_
    show own_S p e below T37 (mkF m 92 #[vi bb] [xi bb, xi (18 : Int32), xr b1, xr b1]) _
    refine st39 _ ?_
    refine XS.dup X39.here hx rfl (hb hby d3_93) rfl rfl ?_
    refine XS.bipush X39.here hx rfl (hb hby d3_94) ?_
    refine XS.iloadN X39.here hx rfl (hb hby d3_96) rfl ?_
    show own_S p e below T39 (mkF m 97 #[vi bb] [xi bb, xi (19 : Int32), xr b1, xr b1]) _
    refine st41 _ ?_
    refine XS.dup X41.here hx rfl (hb hby d3_98) rfl rfl ?_
    refine XS.bipush X41.here hx rfl (hb hby d3_99) ?_
    refine XS.iloadN X41.here hx rfl (hb hby d3_101) rfl ?_
    show own_S p e below T41 (mkF m 102 #[vi bb] [xi bb, xi (20 : Int32), xr b1, xr b1]) _
    refine st43 _ ?_
    refine XS.dup X43.here hx rfl (hb hby d3_103) rfl rfl ?_
    refine XS.bipush X43.here hx rfl (hb hby d3_104) ?_
    refine XS.iloadN X43.here hx rfl (hb hby d3_106) rfl ?_
    show own_S p e below T43 (mkF m 107 #[vi bb] [xi bb, xi (21 : Int32), xr b1, xr b1]) _
    refine st45 _ ?_
    refine XS.dup X45.here hx rfl (hb hby d3_108) rfl rfl ?_
    refine XS.bipush X45.here hx rfl (hb hby d3_109) ?_
    refine XS.iloadN X45.here hx rfl (hb hby d3_111) rfl ?_
    show own_S p e below T45 (mkF m 112 #[vi bb] [xi bb, xi (22 : Int32), xr b1, xr b1]) _
    refine st47 _ ?_
    refine XS.dup X47.here hx rfl (hb hby d3_113) rfl rfl ?_
    refine XS.bipush X47.here hx rfl (hb hby d3_114) ?_
    refine XS.iloadN X47.here hx rfl (hb hby d3_116) rfl ?_
    show own_S p e below T47 (mkF m 117 #[vi bb] [xi bb, xi (23 : Int32), xr b1, xr b1]) _
    refine st49 _ ?_
    refine XS.dup X49.here hx rfl (hb hby d3_118) rfl rfl ?_
    refine XS.bipush X49.here hx rfl (hb hby d3_119) ?_
    refine XS.iloadN X49.here hx rfl (hb hby d3_121) rfl ?_
    show own_S p e below T49 (mkF m 122 #[vi bb] [xi bb, xi (24 : Int32), xr b1, xr b1]) _
    refine st51 _ ?_
    refine XS.dup X51.here hx rfl (hb hby d3_123) rfl rfl ?_
    refine XS.bipush X51.here hx rfl (hb hby d3_124) ?_
    refine XS.iloadN X51.here hx rfl (hb hby d3_126) rfl ?_
    show own_S p e below T51 (mkF m 127 #[vi bb] [xi bb, xi (25 : Int32), xr b1, xr b1]) _
    refine st53 _ ?_
    refine XS.dup X53.here hx rfl (hb hby d3_128) rfl rfl ?_
    refine XS.bipush X53.here hx rfl (hb hby d3_129) ?_
    refine XS.iloadN X53.here hx rfl (hb hby d3_131) rfl ?_
    show own_S p e below T53 (mkF m 132 #[vi bb] [xi bb, xi (26 : Int32), xr b1, xr b1]) _
    refine st55 _ ?_
    refine XS.dup X55.here hx rfl (hb hby d3_133) rfl rfl ?_
    refine XS.bipush X55.here hx rfl (hb hby d3_134) ?_
    refine XS.iloadN X55.here hx rfl (hb hby d3_136) rfl ?_
    show own_S p e below T55 (mkF m 137 #[vi bb] [xi bb, xi (27 : Int32), xr b1, xr b1]) _
    refine st57 _ ?_
    refine XS.dup X57.here hx rfl (hb hby d3_138) rfl rfl ?_
    refine XS.bipush X57.here hx rfl (hb hby d3_139) ?_
    refine XS.iloadN X57.here hx rfl (hb hby d3_141) rfl ?_
    show own_S p e below T57 (mkF m 142 #[vi bb] [xi bb, xi (28 : Int32), xr b1, xr b1]) _
    refine st59 _ ?_
    refine XS.dup X59.here hx rfl (hb hby d3_143) rfl rfl ?_
    refine XS.bipush X59.here hx rfl (hb hby d3_144) ?_
    refine XS.iloadN X59.here hx rfl (hb hby d3_146) rfl ?_
    show own_S p e below T59 (mkF m 147 #[vi bb] [xi bb, xi (29 : Int32), xr b1, xr b1]) _
    refine st61 _ ?_
    refine XS.dup X61.here hx rfl (hb hby d3_148) rfl rfl ?_
    refine XS.bipush X61.here hx rfl (hb hby d3_149) ?_
    refine XS.iloadN X61.here hx rfl (hb hby d3_151) rfl ?_
    show own_S p e below T61 (mkF m 152 #[vi bb] [xi bb, xi (30 : Int32), xr b1, xr b1]) _
    refine st63 _ ?_
    refine XS.dup X63.here hx rfl (hb hby d3_153) rfl rfl ?_
    refine XS.bipush X63.here hx rfl (hb hby d3_154) ?_
    refine XS.iloadN X63.here hx rfl (hb hby d3_156) rfl ?_
    show own_S p e below T63 (mkF m 157 #[vi bb] [xi bb, xi (31 : Int32), xr b1, xr b1]) _
    refine st65 _ ?_
    refine XS.dup X65.here hx rfl (hb hby d3_158) rfl rfl ?_
    refine XS.bipush X65.here hx rfl (hb hby d3_159) ?_
    refine XS.iloadN X65.here hx rfl (hb hby d3_161) rfl ?_
    show own_S p e below T65 (mkF m 162 #[vi bb] [xi bb, xi (32 : Int32), xr b1, xr b1]) _
    refine st67 _ ?_
    refine XS.dup X67.here hx rfl (hb hby d3_163) rfl rfl ?_
    refine XS.bipush X67.here hx rfl (hb hby d3_164) ?_
    refine XS.iloadN X67.here hx rfl (hb hby d3_166) rfl ?_
    show own_S p e below T67 (mkF m 167 #[vi bb] [xi bb, xi (33 : Int32), xr b1, xr b1]) _
    refine st69 _ ?_
    refine XS.dup X69.here hx rfl (hb hby d3_168) rfl rfl ?_
    refine XS.bipush X69.here hx rfl (hb hby d3_169) ?_
    refine XS.iloadN X69.here hx rfl (hb hby d3_171) rfl ?_
    show own_S p e below T69 (mkF m 172 #[vi bb] [xi bb, xi (34 : Int32), xr b1, xr b1]) _
    refine st71 _ ?_
    refine XS.dup X71.here hx rfl (hb hby d3_173) rfl rfl ?_
    refine XS.bipush X71.here hx rfl (hb hby d3_174) ?_
    refine XS.iloadN X71.here hx rfl (hb hby d3_176) rfl ?_
    show own_S p e below T71 (mkF m 177 #[vi bb] [xi bb, xi (35 : Int32), xr b1, xr b1]) _
    refine st73 _ ?_
    refine XS.dup X73.here hx rfl (hb hby d3_178) rfl rfl ?_
    refine XS.bipush X73.here hx rfl (hb hby d3_179) ?_
    refine XS.iloadN X73.here hx rfl (hb hby d3_181) rfl ?_
    show own_S p e below T73 (mkF m 182 #[vi bb] [xi bb, xi (36 : Int32), xr b1, xr b1]) _
    refine st75 _ ?_
    refine XS.dup X75.here hx rfl (hb hby d3_183) rfl rfl ?_
    refine XS.bipush X75.here hx rfl (hb hby d3_184) ?_
    refine XS.iloadN X75.here hx rfl (hb hby d3_186) rfl ?_
    show own_S p e below T75 (mkF m 187 #[vi bb] [xi bb, xi (37 : Int32), xr b1, xr b1]) _
    refine st77 _ ?_
    refine XS.dup X77.here hx rfl (hb hby d3_188) rfl rfl ?_
    refine XS.bipush X77.here hx rfl (hb hby d3_189) ?_
    refine XS.iloadN X77.here hx rfl (hb hby d3_191) rfl ?_
    show own_S p e below T77 (mkF m 192 #[vi bb] [xi bb, xi (38 : Int32), xr b1, xr b1]) _
    refine st79 _ ?_
    refine XS.dup X79.here hx rfl (hb hby d3_193) rfl rfl ?_
    refine XS.bipush X79.here hx rfl (hb hby d3_194) ?_
    refine XS.iloadN X79.here hx rfl (hb hby d3_196) rfl ?_
    show own_S p e below T79 (mkF m 197 #[vi bb] [xi bb, xi (39 : Int32), xr b1, xr b1]) _
    refine st81 _ ?_
    refine XS.dup X81.here hx rfl (hb hby d3_198) rfl rfl ?_
    refine XS.bipush X81.here hx rfl (hb hby d3_199) ?_
    refine XS.iloadN X81.here hx rfl (hb hby d3_201) rfl ?_
    show own_S p e below T81 (mkF m 202 #[vi bb] [xi bb, xi (40 : Int32), xr b1, xr b1]) _
    refine st83 _ ?_
    refine XS.dup X83.here hx rfl (hb hby d3_203) rfl rfl ?_
    refine XS.bipush X83.here hx rfl (hb hby d3_204) ?_
    refine XS.iloadN X83.here hx rfl (hb hby d3_206) rfl ?_
    show own_S p e below T83 (mkF m 207 #[vi bb] [xi bb, xi (41 : Int32), xr b1, xr b1]) _
    refine st85 _ ?_
    refine XS.dup X85.here hx rfl (hb hby d3_208) rfl rfl ?_
    refine XS.bipush X85.here hx rfl (hb hby d3_209) ?_
    refine XS.iloadN X85.here hx rfl (hb hby d3_211) rfl ?_
    show own_S p e below T85 (mkF m 212 #[vi bb] [xi bb, xi (42 : Int32), xr b1, xr b1]) _
    refine st87 _ ?_
    refine XS.dup X87.here hx rfl (hb hby d3_213) rfl rfl ?_
    refine XS.bipush X87.here hx rfl (hb hby d3_214) ?_
    refine XS.iloadN X87.here hx rfl (hb hby d3_216) rfl ?_
    show own_S p e below T87 (mkF m 217 #[vi bb] [xi bb, xi (43 : Int32), xr b1, xr b1]) _
    refine st89 _ ?_
    refine XS.dup X89.here hx rfl (hb hby d3_218) rfl rfl ?_
    refine XS.bipush X89.here hx rfl (hb hby d3_219) ?_
    refine XS.iloadN X89.here hx rfl (hb hby d3_221) rfl ?_
    show own_S p e below T89 (mkF m 222 #[vi bb] [xi bb, xi (44 : Int32), xr b1, xr b1]) _
    refine st91 _ ?_
    show own_S p e below T91 (mkF m 223 #[vi bb] [xr b1]) _
    exact X91.areturnOut hx rfl Bd.returns rfl (hb hby d3_223) hr
  · show (own_QFl Z h0 n0 45 bb) _ T91.heap _
    rw [e91]
    exact ⟨b1, k1, rfl, N91, Kp91, V_b1_91, g_b1, sz_b1⟩
def own_fn (bb x1 x2 : Int32) (n1 n2 : Nat) : Nat → Int32 := own_up (own_up (fun _ => nar .char bb) n1 (nar .char x1)) n2 (nar .char x2)
theorem pd19 : parseMethodDescriptor "(C)[C" = some ⟨[.char], some (.array .char)⟩ := by decide +kernel
set_option maxRecDepth 65536 in
set_option maxHeartbeats 40000000 in
theorem own_pre0 {p : Program} {l : Launch} {e : Env} {s : State} {m : MethodId} {args : Array Value} {below : List Frame} {meth : Method} {c : Code} {T0 : State} {locs : List Loc} {Z : State} {a0 : Array Value} (hw : ∀ d ∈ tables_1, d.before a0 Z = true) (hj : ∀ d ∈ jdkStatics_1, d.before a0 Z = true)  (ki0 : Int32) (vf0 : Value) (G : own_St Z hj ki0 vf0) (p1 : Int32) (p2 : Int32) (p3 : Int32) (p4 : Int32) (p5 : Int32) (p6 : Int32) (kk : Int32) (bb : Int32) (x1 : Int32) (x2 : Int32) (n1 : Nat) (n2 : Nat) (m1 : Nat) (m2 : Nat) (o1 : Nat) (o2 : Nat) (as47 : ((p6 &&& (2147483647 : Int32)) - ((p6 &&& (2147483647 : Int32)) / (36 : Int32)) * (36 : Int32)) = kk) (as322 : if_icmp.holds .ge kk (26 : Int32) = false) (as320 : (((97 : Int32) + kk).toUInt32.toUInt16.toUInt32.toInt32) = bb) (as48 : ((p3 &&& (65535 : Int32)).toUInt32.toUInt16.toUInt32.toInt32) = x1) (as49 : ((p5 &&& (65535 : Int32)).toUInt32.toUInt16.toUInt32.toInt32) = x2) (as94 : ((p2 &&& (2147483647 : Int32)) - ((p2 &&& (2147483647 : Int32)) / (44 : Int32)) * (44 : Int32)) = (Int32.ofNat n1)) (as139 : ((p4 &&& (2147483647 : Int32)) - ((p4 &&& (2147483647 : Int32)) / (44 : Int32)) * (44 : Int32)) = (Int32.ofNat n2)) (as183 : ((p2 &&& (2147483647 : Int32)) - ((p2 &&& (2147483647 : Int32)) / (43 : Int32)) * (43 : Int32)) = (Int32.ofNat m1)) (as227 : ((p4 &&& (2147483647 : Int32)) - ((p4 &&& (2147483647 : Int32)) / (43 : Int32)) * (43 : Int32)) = (Int32.ofNat m2)) (as273 : ((p2 &&& (2147483647 : Int32)) - ((p2 &&& (2147483647 : Int32)) / (45 : Int32)) * (45 : Int32)) = (Int32.ofNat o1)) (as319 : ((p4 &&& (2147483647 : Int32)) - ((p4 &&& (2147483647 : Int32)) / (45 : Int32)) * (45 : Int32)) = (Int32.ofNat o2)) (hx : p.tables.exec = Jvm.exec) (hZ : Z.Warmed39 s.vm) (hby : c.code = code) (hml : c.maxLocals = 22) (hown : s.vm.findClass "com/example/scopelock/scopelock/KeyWellFormedPinLaw" = some m.cls) {h0 : Heap} {n0 : Nat} (X0 : Stand p l e ({ frames := 9, cells := 24, slots := 2688, locals := 208 } : Room) s m args below meth c T0 locs 0 0) (e0 : T0.heap = h0) (N0 : Fr n0 locs) (O0 : Old Z n0 h0) (hn1 : n1 < 44) (hn2 : n2 < 44) (hm1 : m1 < 43) (hm2 : m2 < 43) (ho1 : o1 < 45) (ho2 : o2 < 45) :
    ∃ (T1 : State) (L1 : List Loc) (h1 : Heap) (a43 : Addr) (a44 : Addr) (a45 : Addr) (k43 : ClassId) (k44 : ClassId) (k45 : ClassId), Stand p l e ({ frames := 9, cells := 24, slots := 2688, locals := 208 } : Room) s m args below meth c T1 L1 3 132 ∧ T1.heap = h1 ∧ Fr n0 L1 ∧ Old Z n0 h1 ∧ (Arv Z h1 a43 k43 .char (Int32.ofNat 43) (own_vs (own_fn bb x1 x2 m1 m2) 43) (.int (0 : Int32)) ∧ Arv Z h1 a44 k44 .char (Int32.ofNat 44) (own_vs (own_fn bb x1 x2 n1 n2) 44) (.int (0 : Int32)) ∧ Arv Z h1 a45 k45 .char (Int32.ofNat 45) (own_vs (own_fn bb x1 x2 o1 o2) 45) (.int (0 : Int32)) ∧ Keep h0 h1 []) ∧ ∀ t, Steps p.tables e below (T1.setTop (mkF m 175 #[vi p1, vi p2, vi p3, vi p4, vi p5, vi p6, vi kk, vi bb, vi x1, vi x2, vi (p1 &&& (7 : Int32)), vr a43, vr a44, vr a45, vi (Int32.ofNat n1), vi (Int32.ofNat n2), vi (Int32.ofNat m1), vi (Int32.ofNat m2), vi (Int32.ofNat o1), vi (Int32.ofNat o2), vu, vu] [])) t → Steps p.tables e below (T0.setTop (mkF m 0 #[vi p1, vi p2, vi p3, vi p4, vi p5, vi p6, vu, vu, vu, vu, vu, vu, vu, vu, vu, vu, vu, vu, vu, vu, vu, vu] [])) t := by
  obtain ⟨_, _, ⟨T1, L1, k1, n1⟩, -, X1, ⟨Lc1, hQ1, l1, y1, z1⟩, st1⟩ := Jvm.LawKit.callS X0 hx (y := Y29) hown (mvT hZ (ww hw 2 rfl)) (mvT hZ (ww hw 3 rfl)) (mvT hZ (ww hw 4 rfl)) (mvT hZ (ww hw 5 rfl)) (by decide) (backOf (W := 0) (own_filled43 l Z a0 hw hj ki0 vf0 G bb h0 n0 O0 []) hZ (ww hw 5 rfl) (ww hw 4 rfl) (by decide) (by decide)) (g := (mkF m 60 #[vi p1, vi p2, vi p3, vi p4, vi p5, vi p6, vi kk, vi bb, vi x1, vi x2, vi (p1 &&& (7 : Int32)), vu, vu, vu, vu, vu, vu, vu, vu, vu, vu, vu] [xi bb])) rfl (by rw [hml]; rfl) (argsL := [xi bb]) (rest := []) (lenOf pd19 rfl) rfl (by show 2 * 0 + _ ≤ _; exact Nat.le_of_eq rfl) (hb hby at_60) (fun _ _ => ⟨rfl, e0, (by decide : 0 + 1 ≤ _), (by decide : 0 + 43 ≤ _)⟩)
  dsimp only [Pt.U, Pt.locs, Pt.cells, Pt.slots] at X1 l1 y1 z1 st1 hQ1
  subst l1 y1 z1
  obtain ⟨h1, e1⟩ : ∃ z, T1.heap = z := ⟨_, rfl⟩
  rw [e1] at hQ1
  obtain ⟨bf1, kf1, rfl, Nq1, K1, Vf1, g_bf1, sz0_bf1⟩ := hQ1
  have N1 := Fr.app N0 Nq1
  have sz_bf1 : h0.size ≤ bf1 := Nat.le_trans (Keep.refl h0 []).1 sz0_bf1
  have O1 : Old Z n0 h1 := O0.keep K1 all0
  have Kp1 : Keep h0 h1 [] := (Keep.refl h0 []).trans K1 all0
  obtain ⟨_, _, ⟨T2, L2, k2, n2⟩, -, X2, ⟨Lc2, hQ2, l2, y2, z2⟩, st2⟩ := Jvm.LawKit.callS X1 hx (y := Y30) hown (mvT hZ (ww hw 7 rfl)) (mvT hZ (ww hw 8 rfl)) (mvT hZ (ww hw 4 rfl)) (mvT hZ (ww hw 9 rfl)) (by decide) (backOf (W := 0) (own_filled44 l Z a0 hw hj ki0 vf0 G bb h1 n0 O1 []) hZ (ww hw 9 rfl) (ww hw 4 rfl) (by decide) (by decide)) (g := (mkF m 67 #[vi p1, vi p2, vi p3, vi p4, vi p5, vi p6, vi kk, vi bb, vi x1, vi x2, vi (p1 &&& (7 : Int32)), vr bf1, vu, vu, vu, vu, vu, vu, vu, vu, vu, vu] [xi bb])) rfl (by rw [hml]; rfl) (argsL := [xi bb]) (rest := []) (lenOf pd19 rfl) rfl (by show 2 * 0 + _ ≤ _; exact Nat.le_of_eq rfl) (hb hby at_67) (fun _ _ => ⟨rfl, e1, (by decide : 1 + 1 ≤ _), (by decide : 43 + 44 ≤ _)⟩)
  dsimp only [Pt.U, Pt.locs, Pt.cells, Pt.slots] at X2 l2 y2 z2 st2 hQ2
  subst l2 y2 z2
  obtain ⟨h2, e2⟩ : ∃ z, T2.heap = z := ⟨_, rfl⟩
  rw [e2] at hQ2
  obtain ⟨bf2, kf2, rfl, Nq2, K2, Vf2, g_bf2, sz0_bf2⟩ := hQ2
  have N2 := Fr.app N1 Nq2
  have ne_bf1_bf2 : bf1 ≠ bf2 := Nat.ne_of_lt (Nat.lt_of_lt_of_le (Vf1).lt sz0_bf2)
  have sz_bf2 : h0.size ≤ bf2 := Nat.le_trans Kp1.1 sz0_bf2
  have O2 : Old Z n0 h2 := O1.keep K2 all0
  have Kp2 : Keep h0 h2 [] := Kp1.trans K2 all0
  have V_bf1_2 := Vf1.keep K2 nin0
  obtain ⟨_, _, ⟨T3, L3, k3, n3⟩, -, X3, ⟨Lc3, hQ3, l3, y3, z3⟩, st3⟩ := Jvm.LawKit.callS X2 hx (y := Y31) hown (mvT hZ (ww hw 10 rfl)) (mvT hZ (ww hw 11 rfl)) (mvT hZ (ww hw 4 rfl)) (mvT hZ (ww hw 12 rfl)) (by decide) (backOf (W := 0) (own_filled45 l Z a0 hw hj ki0 vf0 G bb h2 n0 O2 []) hZ (ww hw 12 rfl) (ww hw 4 rfl) (by decide) (by decide)) (g := (mkF m 74 #[vi p1, vi p2, vi p3, vi p4, vi p5, vi p6, vi kk, vi bb, vi x1, vi x2, vi (p1 &&& (7 : Int32)), vr bf1, vr bf2, vu, vu, vu, vu, vu, vu, vu, vu, vu] [xi bb])) rfl (by rw [hml]; rfl) (argsL := [xi bb]) (rest := []) (lenOf pd19 rfl) rfl (by show 2 * 0 + _ ≤ _; exact Nat.le_of_eq rfl) (hb hby at_74) (fun _ _ => ⟨rfl, e2, (by decide : 2 + 1 ≤ _), (by decide : 87 + 45 ≤ _)⟩)
  dsimp only [Pt.U, Pt.locs, Pt.cells, Pt.slots] at X3 l3 y3 z3 st3 hQ3
  subst l3 y3 z3
  obtain ⟨h3, e3⟩ : ∃ z, T3.heap = z := ⟨_, rfl⟩
  rw [e3] at hQ3
  obtain ⟨bf3, kf3, rfl, Nq3, K3, Vf3, g_bf3, sz0_bf3⟩ := hQ3
  have N3 := Fr.app N2 Nq3
  have ne_bf1_bf3 : bf1 ≠ bf3 := Nat.ne_of_lt (Nat.lt_of_lt_of_le (V_bf1_2).lt sz0_bf3)
  have ne_bf2_bf3 : bf2 ≠ bf3 := Nat.ne_of_lt (Nat.lt_of_lt_of_le (Vf2).lt sz0_bf3)
  have sz_bf3 : h0.size ≤ bf3 := Nat.le_trans Kp2.1 sz0_bf3
  have O3 : Old Z n0 h3 := O2.keep K3 all0
  have Kp3 : Keep h0 h3 [] := Kp2.trans K3 all0
  have V_bf1_3 := V_bf1_2.keep K3 nin0
  have V_bf2_3 := Vf2.keep K3 nin0
  obtain ⟨cl4, Ar4, q4, S4, N4_, H4, G4⟩ := id V_bf2_3
  obtain ⟨T5, h5, X5, e5, W5, st5⟩ := stC X3 hx hZ e3 Ar4 (j := (Int32.ofNat n1)) (inb_of S4 (own_in hn1 (by decide))) (g := (mkF m 139 #[vi p1, vi p2, vi p3, vi p4, vi p5, vi p6, vi kk, vi bb, vi x1, vi x2, vi (p1 &&& (7 : Int32)), vr bf1, vr bf2, vr bf3, vi (Int32.ofNat n1), vi (Int32.ofNat n2), vi (Int32.ofNat m1), vi (Int32.ofNat m2), vi (Int32.ofNat o1), vi (Int32.ofNat o2), vu, vu] [xi x1, xi (Int32.ofNat n1), xr bf2])) rfl rfl (hb hby at_139)
  have V_bf2_5 : Arv Z h5 bf2 kf2 .char (Int32.ofNat 44) (own_vs (own_up (fun _ => nar .char bb) n1 (nar .char x1)) 44) (.int (0 : Int32)) := by rw [← own_vs_set]; exact Arv.set Ar4 q4 S4 N4_ H4 G4 (fits_nar_char _) W5 _ (own_nat (Nat.lt_trans hn1 (by decide))) (by rw [own_vs_len]; exact hn1)
  have O5 := O3.wr W5 g_bf2
  have Kp5 := Kp3.wr W5 (Or.inr sz_bf2)
  have V_bf1_5 := V_bf1_3.other W5 ne_bf1_bf2
  have V_bf3_5 := Vf3.other W5 (Ne.symm ne_bf2_bf3)
  have N5 := Fr.snoc X5 N3 g_bf2
  obtain ⟨LL5, X5, N5⟩ := own_pack X5 N5
  obtain ⟨cl6, Ar6, q6, S6, N6_, H6, G6⟩ := id V_bf2_5
  obtain ⟨T7, h7, X7, e7, W7, st7⟩ := stC X5 hx hZ e5 Ar6 (j := (Int32.ofNat n2)) (inb_of S6 (own_in hn2 (by decide))) (g := (mkF m 146 #[vi p1, vi p2, vi p3, vi p4, vi p5, vi p6, vi kk, vi bb, vi x1, vi x2, vi (p1 &&& (7 : Int32)), vr bf1, vr bf2, vr bf3, vi (Int32.ofNat n1), vi (Int32.ofNat n2), vi (Int32.ofNat m1), vi (Int32.ofNat m2), vi (Int32.ofNat o1), vi (Int32.ofNat o2), vu, vu] [xi x2, xi (Int32.ofNat n2), xr bf2])) rfl rfl (hb hby at_146)
  have V_bf2_7 : Arv Z h7 bf2 kf2 .char (Int32.ofNat 44) (own_vs (own_up (own_up (fun _ => nar .char bb) n1 (nar .char x1)) n2 (nar .char x2)) 44) (.int (0 : Int32)) := by rw [← own_vs_set]; exact Arv.set Ar6 q6 S6 N6_ H6 G6 (fits_nar_char _) W7 _ (own_nat (Nat.lt_trans hn2 (by decide))) (by rw [own_vs_len]; exact hn2)
  have O7 := O5.wr W7 g_bf2
  have Kp7 := Kp5.wr W7 (Or.inr sz_bf2)
  have V_bf1_7 := V_bf1_5.other W7 ne_bf1_bf2
  have V_bf3_7 := V_bf3_5.other W7 (Ne.symm ne_bf2_bf3)
  have N7 := Fr.snoc X7 N5 g_bf2
  obtain ⟨LL7, X7, N7⟩ := own_pack X7 N7
  obtain ⟨cl8, Ar8, q8, S8, N8_, H8, G8⟩ := id V_bf1_7
  obtain ⟨T9, h9, X9, e9, W9, st9⟩ := stC X7 hx hZ e7 Ar8 (j := (Int32.ofNat m1)) (inb_of S8 (own_in hm1 (by decide))) (g := (mkF m 153 #[vi p1, vi p2, vi p3, vi p4, vi p5, vi p6, vi kk, vi bb, vi x1, vi x2, vi (p1 &&& (7 : Int32)), vr bf1, vr bf2, vr bf3, vi (Int32.ofNat n1), vi (Int32.ofNat n2), vi (Int32.ofNat m1), vi (Int32.ofNat m2), vi (Int32.ofNat o1), vi (Int32.ofNat o2), vu, vu] [xi x1, xi (Int32.ofNat m1), xr bf1])) rfl rfl (hb hby at_153)
  have V_bf1_9 : Arv Z h9 bf1 kf1 .char (Int32.ofNat 43) (own_vs (own_up (fun _ => nar .char bb) m1 (nar .char x1)) 43) (.int (0 : Int32)) := by rw [← own_vs_set]; exact Arv.set Ar8 q8 S8 N8_ H8 G8 (fits_nar_char _) W9 _ (own_nat (Nat.lt_trans hm1 (by decide))) (by rw [own_vs_len]; exact hm1)
  have O9 := O7.wr W9 g_bf1
  have Kp9 := Kp7.wr W9 (Or.inr sz_bf1)
  have V_bf2_9 := V_bf2_7.other W9 (Ne.symm ne_bf1_bf2)
  have V_bf3_9 := V_bf3_7.other W9 (Ne.symm ne_bf1_bf3)
  have N9 := Fr.snoc X9 N7 g_bf1
  obtain ⟨LL9, X9, N9⟩ := own_pack X9 N9
  obtain ⟨cl10, Ar10, q10, S10, N10_, H10, G10⟩ := id V_bf1_9
  obtain ⟨T11, h11, X11, e11, W11, st11⟩ := stC X9 hx hZ e9 Ar10 (j := (Int32.ofNat m2)) (inb_of S10 (own_in hm2 (by decide))) (g := (mkF m 160 #[vi p1, vi p2, vi p3, vi p4, vi p5, vi p6, vi kk, vi bb, vi x1, vi x2, vi (p1 &&& (7 : Int32)), vr bf1, vr bf2, vr bf3, vi (Int32.ofNat n1), vi (Int32.ofNat n2), vi (Int32.ofNat m1), vi (Int32.ofNat m2), vi (Int32.ofNat o1), vi (Int32.ofNat o2), vu, vu] [xi x2, xi (Int32.ofNat m2), xr bf1])) rfl rfl (hb hby at_160)
  have V_bf1_11 : Arv Z h11 bf1 kf1 .char (Int32.ofNat 43) (own_vs (own_up (own_up (fun _ => nar .char bb) m1 (nar .char x1)) m2 (nar .char x2)) 43) (.int (0 : Int32)) := by rw [← own_vs_set]; exact Arv.set Ar10 q10 S10 N10_ H10 G10 (fits_nar_char _) W11 _ (own_nat (Nat.lt_trans hm2 (by decide))) (by rw [own_vs_len]; exact hm2)
  have O11 := O9.wr W11 g_bf1
  have Kp11 := Kp9.wr W11 (Or.inr sz_bf1)
  have V_bf2_11 := V_bf2_9.other W11 (Ne.symm ne_bf1_bf2)
  have V_bf3_11 := V_bf3_9.other W11 (Ne.symm ne_bf1_bf3)
  have N11 := Fr.snoc X11 N9 g_bf1
  obtain ⟨LL11, X11, N11⟩ := own_pack X11 N11
  obtain ⟨cl12, Ar12, q12, S12, N12_, H12, G12⟩ := id V_bf3_11
  obtain ⟨T13, h13, X13, e13, W13, st13⟩ := stC X11 hx hZ e11 Ar12 (j := (Int32.ofNat o1)) (inb_of S12 (own_in ho1 (by decide))) (g := (mkF m 167 #[vi p1, vi p2, vi p3, vi p4, vi p5, vi p6, vi kk, vi bb, vi x1, vi x2, vi (p1 &&& (7 : Int32)), vr bf1, vr bf2, vr bf3, vi (Int32.ofNat n1), vi (Int32.ofNat n2), vi (Int32.ofNat m1), vi (Int32.ofNat m2), vi (Int32.ofNat o1), vi (Int32.ofNat o2), vu, vu] [xi x1, xi (Int32.ofNat o1), xr bf3])) rfl rfl (hb hby at_167)
  have V_bf3_13 : Arv Z h13 bf3 kf3 .char (Int32.ofNat 45) (own_vs (own_up (fun _ => nar .char bb) o1 (nar .char x1)) 45) (.int (0 : Int32)) := by rw [← own_vs_set]; exact Arv.set Ar12 q12 S12 N12_ H12 G12 (fits_nar_char _) W13 _ (own_nat (Nat.lt_trans ho1 (by decide))) (by rw [own_vs_len]; exact ho1)
  have O13 := O11.wr W13 g_bf3
  have Kp13 := Kp11.wr W13 (Or.inr sz_bf3)
  have V_bf1_13 := V_bf1_11.other W13 ne_bf1_bf3
  have V_bf2_13 := V_bf2_11.other W13 ne_bf2_bf3
  have N13 := Fr.snoc X13 N11 g_bf3
  obtain ⟨LL13, X13, N13⟩ := own_pack X13 N13
  obtain ⟨cl14, Ar14, q14, S14, N14_, H14, G14⟩ := id V_bf3_13
  obtain ⟨T15, h15, X15, e15, W15, st15⟩ := stC X13 hx hZ e13 Ar14 (j := (Int32.ofNat o2)) (inb_of S14 (own_in ho2 (by decide))) (g := (mkF m 174 #[vi p1, vi p2, vi p3, vi p4, vi p5, vi p6, vi kk, vi bb, vi x1, vi x2, vi (p1 &&& (7 : Int32)), vr bf1, vr bf2, vr bf3, vi (Int32.ofNat n1), vi (Int32.ofNat n2), vi (Int32.ofNat m1), vi (Int32.ofNat m2), vi (Int32.ofNat o1), vi (Int32.ofNat o2), vu, vu] [xi x2, xi (Int32.ofNat o2), xr bf3])) rfl rfl (hb hby at_174)
  have V_bf3_15 : Arv Z h15 bf3 kf3 .char (Int32.ofNat 45) (own_vs (own_up (own_up (fun _ => nar .char bb) o1 (nar .char x1)) o2 (nar .char x2)) 45) (.int (0 : Int32)) := by rw [← own_vs_set]; exact Arv.set Ar14 q14 S14 N14_ H14 G14 (fits_nar_char _) W15 _ (own_nat (Nat.lt_trans ho2 (by decide))) (by rw [own_vs_len]; exact ho2)
  have O15 := O13.wr W15 g_bf3
  have Kp15 := Kp13.wr W15 (Or.inr sz_bf3)
  have V_bf1_15 := V_bf1_13.other W15 ne_bf1_bf3
  have V_bf2_15 := V_bf2_13.other W15 ne_bf2_bf3
  have N15 := Fr.snoc X15 N13 g_bf3
  obtain ⟨LL15, X15, N15⟩ := own_pack X15 N15
  refine ⟨_, _, _, bf1, bf2, bf3, kf1, kf2, kf3, X15, e15, N15, O15, ⟨V_bf1_15, V_bf2_15, V_bf3_15, Kp15⟩, fun t st => ?_⟩
  show own_S p e below T0 (mkF m 0 #[vi p1, vi p2, vi p3, vi p4, vi p5, vi p6, vu, vu, vu, vu, vu, vu, vu, vu, vu, vu, vu, vu, vu, vu, vu, vu] []) _
  refine XS.iload X0.here hx rfl (hb hby at_0) rfl ?_
  show own_S p e below T0 (mkF m 2 #[vi p1, vi p2, vi p3, vi p4, vi p5, vi p6, vu, vu, vu, vu, vu, vu, vu, vu, vu, vu, vu, vu, vu, vu, vu, vu] [xi p6]) _
  refine X0.ldcI hx hown (mvT hZ (ww hw 0 rfl)) (g := (mkF m 2 #[vi p1, vi p2, vi p3, vi p4, vi p5, vi p6, vu, vu, vu, vu, vu, vu, vu, vu, vu, vu, vu, vu, vu, vu, vu, vu] [xi p6])) rfl (hb hby at_2) ?_
  show own_S p e below T0 (mkF m 4 #[vi p1, vi p2, vi p3, vi p4, vi p5, vi p6, vu, vu, vu, vu, vu, vu, vu, vu, vu, vu, vu, vu, vu, vu, vu, vu] [xi (2147483647 : Int32), xi p6]) _
  refine XS.iand X0.here hx rfl (hb hby at_4) rfl ?_
  show own_S p e below T0 (mkF m 5 #[vi p1, vi p2, vi p3, vi p4, vi p5, vi p6, vu, vu, vu, vu, vu, vu, vu, vu, vu, vu, vu, vu, vu, vu, vu, vu] [xi (p6 &&& (2147483647 : Int32))]) _
  refine XS.bipush X0.here hx rfl (hb hby at_5) ?_
  show own_S p e below T0 (mkF m 7 #[vi p1, vi p2, vi p3, vi p4, vi p5, vi p6, vu, vu, vu, vu, vu, vu, vu, vu, vu, vu, vu, vu, vu, vu, vu, vu] [xi (36 : Int32), xi (p6 &&& (2147483647 : Int32))]) _
  refine XS.irem X0.here hx rfl (hb hby at_7) rfl (by decide) ?_
  show own_S p e below T0 (mkF m 8 #[vi p1, vi p2, vi p3, vi p4, vi p5, vi p6, vu, vu, vu, vu, vu, vu, vu, vu, vu, vu, vu, vu, vu, vu, vu, vu] [xi ((p6 &&& (2147483647 : Int32)) - ((p6 &&& (2147483647 : Int32)) / (36 : Int32)) * (36 : Int32))]) _
  refine castTop (show (mkF m 8 #[vi p1, vi p2, vi p3, vi p4, vi p5, vi p6, vu, vu, vu, vu, vu, vu, vu, vu, vu, vu, vu, vu, vu, vu, vu, vu] [xi ((p6 &&& (2147483647 : Int32)) - ((p6 &&& (2147483647 : Int32)) / (36 : Int32)) * (36 : Int32))]) = (mkF m 8 #[vi p1, vi p2, vi p3, vi p4, vi p5, vi p6, vu, vu, vu, vu, vu, vu, vu, vu, vu, vu, vu, vu, vu, vu, vu, vu] [xi kk]) from by rw [as47]) ?_
  refine XS.istore X0.here hx rfl (hb hby at_8) rfl (l' := #[vi p1, vi p2, vi p3, vi p4, vi p5, vi p6, vi kk, vu, vu, vu, vu, vu, vu, vu, vu, vu, vu, vu, vu, vu, vu, vu]) rfl ?_
  refine XS.iload X0.here hx rfl (hb hby at_10) rfl ?_
  refine XS.bipush X0.here hx rfl (hb hby at_12) ?_
  show own_S p e below T0 (mkF m 14 #[vi p1, vi p2, vi p3, vi p4, vi p5, vi p6, vi kk, vu, vu, vu, vu, vu, vu, vu, vu, vu, vu, vu, vu, vu, vu, vu] [xi (26 : Int32), xi kk]) _
  refine XS.icmpNo X0.here hx rfl (hb hby at_14) rfl as322 ?_
  refine XS.bipush X0.here hx rfl (hb hby at_17) ?_
  refine XS.iload X0.here hx rfl (hb hby at_19) rfl ?_
  show own_S p e below T0 (mkF m 21 #[vi p1, vi p2, vi p3, vi p4, vi p5, vi p6, vi kk, vu, vu, vu, vu, vu, vu, vu, vu, vu, vu, vu, vu, vu, vu, vu] [xi kk, xi (97 : Int32)]) _
  refine XS.iadd X0.here hx rfl (hb hby at_21) rfl ?_
  show own_S p e below T0 (mkF m 22 #[vi p1, vi p2, vi p3, vi p4, vi p5, vi p6, vi kk, vu, vu, vu, vu, vu, vu, vu, vu, vu, vu, vu, vu, vu, vu, vu] [xi ((97 : Int32) + kk)]) _
  show own_S p e below T0 (mkF m 22 #[vi p1, vi p2, vi p3, vi p4, vi p5, vi p6, vi kk, vu, vu, vu, vu, vu, vu, vu, vu, vu, vu, vu, vu, vu, vu, vu] [xi ((97 : Int32) + kk)]) _
  refine XS.i2c X0.here hx rfl (hb hby at_22) rfl ?_
  show own_S p e below T0 (mkF m 23 #[vi p1, vi p2, vi p3, vi p4, vi p5, vi p6, vi kk, vu, vu, vu, vu, vu, vu, vu, vu, vu, vu, vu, vu, vu, vu, vu] [xi (((97 : Int32) + kk).toUInt32.toUInt16.toUInt32.toInt32)]) _
  refine castTop (show (mkF m 23 #[vi p1, vi p2, vi p3, vi p4, vi p5, vi p6, vi kk, vu, vu, vu, vu, vu, vu, vu, vu, vu, vu, vu, vu, vu, vu, vu] [xi (((97 : Int32) + kk).toUInt32.toUInt16.toUInt32.toInt32)]) = (mkF m 23 #[vi p1, vi p2, vi p3, vi p4, vi p5, vi p6, vi kk, vu, vu, vu, vu, vu, vu, vu, vu, vu, vu, vu, vu, vu, vu, vu] [xi bb]) from by rw [as320]) ?_
  refine XS.goto X0.here hx rfl (pc0 := 23) (pc' := 35) rfl (hb hby at_23) (by decide) (by decide) ?_
  refine XS.istore X0.here hx rfl (hb hby at_35) rfl (l' := #[vi p1, vi p2, vi p3, vi p4, vi p5, vi p6, vi kk, vi bb, vu, vu, vu, vu, vu, vu, vu, vu, vu, vu, vu, vu, vu, vu]) rfl ?_
  refine XS.iloadN X0.here hx rfl (hb hby at_37) rfl ?_
  show own_S p e below T0 (mkF m 38 #[vi p1, vi p2, vi p3, vi p4, vi p5, vi p6, vi kk, vi bb, vu, vu, vu, vu, vu, vu, vu, vu, vu, vu, vu, vu, vu, vu] [xi p3]) _
  refine X0.ldcI hx hown (mvT hZ (ww hw 1 rfl)) (g := (mkF m 38 #[vi p1, vi p2, vi p3, vi p4, vi p5, vi p6, vi kk, vi bb, vu, vu, vu, vu, vu, vu, vu, vu, vu, vu, vu, vu, vu, vu] [xi p3])) rfl (hb hby at_38) ?_
  show own_S p e below T0 (mkF m 40 #[vi p1, vi p2, vi p3, vi p4, vi p5, vi p6, vi kk, vi bb, vu, vu, vu, vu, vu, vu, vu, vu, vu, vu, vu, vu, vu, vu] [xi (65535 : Int32), xi p3]) _
  refine XS.iand X0.here hx rfl (hb hby at_40) rfl ?_
  show own_S p e below T0 (mkF m 41 #[vi p1, vi p2, vi p3, vi p4, vi p5, vi p6, vi kk, vi bb, vu, vu, vu, vu, vu, vu, vu, vu, vu, vu, vu, vu, vu, vu] [xi (p3 &&& (65535 : Int32))]) _
  show own_S p e below T0 (mkF m 41 #[vi p1, vi p2, vi p3, vi p4, vi p5, vi p6, vi kk, vi bb, vu, vu, vu, vu, vu, vu, vu, vu, vu, vu, vu, vu, vu, vu] [xi (p3 &&& (65535 : Int32))]) _
  refine XS.i2c X0.here hx rfl (hb hby at_41) rfl ?_
  show own_S p e below T0 (mkF m 42 #[vi p1, vi p2, vi p3, vi p4, vi p5, vi p6, vi kk, vi bb, vu, vu, vu, vu, vu, vu, vu, vu, vu, vu, vu, vu, vu, vu] [xi ((p3 &&& (65535 : Int32)).toUInt32.toUInt16.toUInt32.toInt32)]) _
  refine castTop (show (mkF m 42 #[vi p1, vi p2, vi p3, vi p4, vi p5, vi p6, vi kk, vi bb, vu, vu, vu, vu, vu, vu, vu, vu, vu, vu, vu, vu, vu, vu] [xi ((p3 &&& (65535 : Int32)).toUInt32.toUInt16.toUInt32.toInt32)]) = (mkF m 42 #[vi p1, vi p2, vi p3, vi p4, vi p5, vi p6, vi kk, vi bb, vu, vu, vu, vu, vu, vu, vu, vu, vu, vu, vu, vu, vu, vu] [xi x1]) from by rw [as48]) ?_
  refine XS.istore X0.here hx rfl (hb hby at_42) rfl (l' := #[vi p1, vi p2, vi p3, vi p4, vi p5, vi p6, vi kk, vi bb, vi x1, vu, vu, vu, vu, vu, vu, vu, vu, vu, vu, vu, vu, vu]) rfl ?_
  refine XS.iload X0.here hx rfl (hb hby at_44) rfl ?_
  show own_S p e below T0 (mkF m 46 #[vi p1, vi p2, vi p3, vi p4, vi p5, vi p6, vi kk, vi bb, vi x1, vu, vu, vu, vu, vu, vu, vu, vu, vu, vu, vu, vu, vu] [xi p5]) _
  refine X0.ldcI hx hown (mvT hZ (ww hw 1 rfl)) (g := (mkF m 46 #[vi p1, vi p2, vi p3, vi p4, vi p5, vi p6, vi kk, vi bb, vi x1, vu, vu, vu, vu, vu, vu, vu, vu, vu, vu, vu, vu, vu] [xi p5])) rfl (hb hby at_46) ?_
  show own_S p e below T0 (mkF m 48 #[vi p1, vi p2, vi p3, vi p4, vi p5, vi p6, vi kk, vi bb, vi x1, vu, vu, vu, vu, vu, vu, vu, vu, vu, vu, vu, vu, vu] [xi (65535 : Int32), xi p5]) _
  refine XS.iand X0.here hx rfl (hb hby at_48) rfl ?_
  show own_S p e below T0 (mkF m 49 #[vi p1, vi p2, vi p3, vi p4, vi p5, vi p6, vi kk, vi bb, vi x1, vu, vu, vu, vu, vu, vu, vu, vu, vu, vu, vu, vu, vu] [xi (p5 &&& (65535 : Int32))]) _
  show own_S p e below T0 (mkF m 49 #[vi p1, vi p2, vi p3, vi p4, vi p5, vi p6, vi kk, vi bb, vi x1, vu, vu, vu, vu, vu, vu, vu, vu, vu, vu, vu, vu, vu] [xi (p5 &&& (65535 : Int32))]) _
  refine XS.i2c X0.here hx rfl (hb hby at_49) rfl ?_
  show own_S p e below T0 (mkF m 50 #[vi p1, vi p2, vi p3, vi p4, vi p5, vi p6, vi kk, vi bb, vi x1, vu, vu, vu, vu, vu, vu, vu, vu, vu, vu, vu, vu, vu] [xi ((p5 &&& (65535 : Int32)).toUInt32.toUInt16.toUInt32.toInt32)]) _
  refine castTop (show (mkF m 50 #[vi p1, vi p2, vi p3, vi p4, vi p5, vi p6, vi kk, vi bb, vi x1, vu, vu, vu, vu, vu, vu, vu, vu, vu, vu, vu, vu, vu] [xi ((p5 &&& (65535 : Int32)).toUInt32.toUInt16.toUInt32.toInt32)]) = (mkF m 50 #[vi p1, vi p2, vi p3, vi p4, vi p5, vi p6, vi kk, vi bb, vi x1, vu, vu, vu, vu, vu, vu, vu, vu, vu, vu, vu, vu, vu] [xi x2]) from by rw [as49]) ?_
  refine XS.istore X0.here hx rfl (hb hby at_50) rfl (l' := #[vi p1, vi p2, vi p3, vi p4, vi p5, vi p6, vi kk, vi bb, vi x1, vi x2, vu, vu, vu, vu, vu, vu, vu, vu, vu, vu, vu, vu]) rfl ?_
  refine XS.iloadN X0.here hx rfl (hb hby at_52) rfl ?_
  refine XS.bipush X0.here hx rfl (hb hby at_53) ?_
  show own_S p e below T0 (mkF m 55 #[vi p1, vi p2, vi p3, vi p4, vi p5, vi p6, vi kk, vi bb, vi x1, vi x2, vu, vu, vu, vu, vu, vu, vu, vu, vu, vu, vu, vu] [xi (7 : Int32), xi p1]) _
  refine XS.iand X0.here hx rfl (hb hby at_55) rfl ?_
  show own_S p e below T0 (mkF m 56 #[vi p1, vi p2, vi p3, vi p4, vi p5, vi p6, vi kk, vi bb, vi x1, vi x2, vu, vu, vu, vu, vu, vu, vu, vu, vu, vu, vu, vu] [xi (p1 &&& (7 : Int32))]) _
  refine XS.istore X0.here hx rfl (hb hby at_56) rfl (l' := #[vi p1, vi p2, vi p3, vi p4, vi p5, vi p6, vi kk, vi bb, vi x1, vi x2, vi (p1 &&& (7 : Int32)), vu, vu, vu, vu, vu, vu, vu, vu, vu, vu, vu]) rfl ?_
  refine XS.iload X0.here hx rfl (hb hby at_58) rfl ?_
  show own_S p e below T0 (mkF m 60 #[vi p1, vi p2, vi p3, vi p4, vi p5, vi p6, vi kk, vi bb, vi x1, vi x2, vi (p1 &&& (7 : Int32)), vu, vu, vu, vu, vu, vu, vu, vu, vu, vu, vu] [xi bb]) _
  refine st1 _ ?_
  refine XS.astore X1.here hx rfl (hb hby at_63) rfl rfl (l' := #[vi p1, vi p2, vi p3, vi p4, vi p5, vi p6, vi kk, vi bb, vi x1, vi x2, vi (p1 &&& (7 : Int32)), vr bf1, vu, vu, vu, vu, vu, vu, vu, vu, vu, vu]) rfl ?_
  refine XS.iload X1.here hx rfl (hb hby at_65) rfl ?_
  show own_S p e below T1 (mkF m 67 #[vi p1, vi p2, vi p3, vi p4, vi p5, vi p6, vi kk, vi bb, vi x1, vi x2, vi (p1 &&& (7 : Int32)), vr bf1, vu, vu, vu, vu, vu, vu, vu, vu, vu, vu] [xi bb]) _
  refine st2 _ ?_
  refine XS.astore X2.here hx rfl (hb hby at_70) rfl rfl (l' := #[vi p1, vi p2, vi p3, vi p4, vi p5, vi p6, vi kk, vi bb, vi x1, vi x2, vi (p1 &&& (7 : Int32)), vr bf1, vr bf2, vu, vu, vu, vu, vu, vu, vu, vu, vu]) rfl ?_
  refine XS.iload X2.here hx rfl (hb hby at_72) rfl ?_
  show own_S p e below T2 (mkF m 74 #[vi p1, vi p2, vi p3, vi p4, vi p5, vi p6, vi kk, vi bb, vi x1, vi x2, vi (p1 &&& (7 : Int32)), vr bf1, vr bf2, vu, vu, vu, vu, vu, vu, vu, vu, vu] [xi bb]) _
  refine st3 _ ?_
  refine XS.astore X3.here hx rfl (hb hby at_77) rfl rfl (l' := #[vi p1, vi p2, vi p3, vi p4, vi p5, vi p6, vi kk, vi bb, vi x1, vi x2, vi (p1 &&& (7 : Int32)), vr bf1, vr bf2, vr bf3, vu, vu, vu, vu, vu, vu, vu, vu]) rfl ?_
  refine XS.iloadN X3.here hx rfl (hb hby at_79) rfl ?_
  show own_S p e below T3 (mkF m 80 #[vi p1, vi p2, vi p3, vi p4, vi p5, vi p6, vi kk, vi bb, vi x1, vi x2, vi (p1 &&& (7 : Int32)), vr bf1, vr bf2, vr bf3, vu, vu, vu, vu, vu, vu, vu, vu] [xi p2]) _
  refine X3.ldcI hx hown (mvT hZ (ww hw 0 rfl)) (g := (mkF m 80 #[vi p1, vi p2, vi p3, vi p4, vi p5, vi p6, vi kk, vi bb, vi x1, vi x2, vi (p1 &&& (7 : Int32)), vr bf1, vr bf2, vr bf3, vu, vu, vu, vu, vu, vu, vu, vu] [xi p2])) rfl (hb hby at_80) ?_
  show own_S p e below T3 (mkF m 82 #[vi p1, vi p2, vi p3, vi p4, vi p5, vi p6, vi kk, vi bb, vi x1, vi x2, vi (p1 &&& (7 : Int32)), vr bf1, vr bf2, vr bf3, vu, vu, vu, vu, vu, vu, vu, vu] [xi (2147483647 : Int32), xi p2]) _
  refine XS.iand X3.here hx rfl (hb hby at_82) rfl ?_
  show own_S p e below T3 (mkF m 83 #[vi p1, vi p2, vi p3, vi p4, vi p5, vi p6, vi kk, vi bb, vi x1, vi x2, vi (p1 &&& (7 : Int32)), vr bf1, vr bf2, vr bf3, vu, vu, vu, vu, vu, vu, vu, vu] [xi (p2 &&& (2147483647 : Int32))]) _
  refine XS.bipush X3.here hx rfl (hb hby at_83) ?_
  show own_S p e below T3 (mkF m 85 #[vi p1, vi p2, vi p3, vi p4, vi p5, vi p6, vi kk, vi bb, vi x1, vi x2, vi (p1 &&& (7 : Int32)), vr bf1, vr bf2, vr bf3, vu, vu, vu, vu, vu, vu, vu, vu] [xi (44 : Int32), xi (p2 &&& (2147483647 : Int32))]) _
  refine XS.irem X3.here hx rfl (hb hby at_85) rfl (by decide) ?_
  show own_S p e below T3 (mkF m 86 #[vi p1, vi p2, vi p3, vi p4, vi p5, vi p6, vi kk, vi bb, vi x1, vi x2, vi (p1 &&& (7 : Int32)), vr bf1, vr bf2, vr bf3, vu, vu, vu, vu, vu, vu, vu, vu] [xi ((p2 &&& (2147483647 : Int32)) - ((p2 &&& (2147483647 : Int32)) / (44 : Int32)) * (44 : Int32))]) _
  refine castTop (show (mkF m 86 #[vi p1, vi p2, vi p3, vi p4, vi p5, vi p6, vi kk, vi bb, vi x1, vi x2, vi (p1 &&& (7 : Int32)), vr bf1, vr bf2, vr bf3, vu, vu, vu, vu, vu, vu, vu, vu] [xi ((p2 &&& (2147483647 : Int32)) - ((p2 &&& (2147483647 : Int32)) / (44 : Int32)) * (44 : Int32))]) = (mkF m 86 #[vi p1, vi p2, vi p3, vi p4, vi p5, vi p6, vi kk, vi bb, vi x1, vi x2, vi (p1 &&& (7 : Int32)), vr bf1, vr bf2, vr bf3, vu, vu, vu, vu, vu, vu, vu, vu] [xi (Int32.ofNat n1)]) from by rw [as94]) ?_
  refine XS.istore X3.here hx rfl (hb hby at_86) rfl (l' := #[vi p1, vi p2, vi p3, vi p4, vi p5, vi p6, vi kk, vi bb, vi x1, vi x2, vi (p1 &&& (7 : Int32)), vr bf1, vr bf2, vr bf3, vi (Int32.ofNat n1), vu, vu, vu, vu, vu, vu, vu]) rfl ?_
  refine XS.iloadN X3.here hx rfl (hb hby at_88) rfl ?_
  show own_S p e below T3 (mkF m 89 #[vi p1, vi p2, vi p3, vi p4, vi p5, vi p6, vi kk, vi bb, vi x1, vi x2, vi (p1 &&& (7 : Int32)), vr bf1, vr bf2, vr bf3, vi (Int32.ofNat n1), vu, vu, vu, vu, vu, vu, vu] [xi p4]) _
  refine X3.ldcI hx hown (mvT hZ (ww hw 0 rfl)) (g := (mkF m 89 #[vi p1, vi p2, vi p3, vi p4, vi p5, vi p6, vi kk, vi bb, vi x1, vi x2, vi (p1 &&& (7 : Int32)), vr bf1, vr bf2, vr bf3, vi (Int32.ofNat n1), vu, vu, vu, vu, vu, vu, vu] [xi p4])) rfl (hb hby at_89) ?_
  show own_S p e below T3 (mkF m 91 #[vi p1, vi p2, vi p3, vi p4, vi p5, vi p6, vi kk, vi bb, vi x1, vi x2, vi (p1 &&& (7 : Int32)), vr bf1, vr bf2, vr bf3, vi (Int32.ofNat n1), vu, vu, vu, vu, vu, vu, vu] [xi (2147483647 : Int32), xi p4]) _
  refine XS.iand X3.here hx rfl (hb hby at_91) rfl ?_
  show own_S p e below T3 (mkF m 92 #[vi p1, vi p2, vi p3, vi p4, vi p5, vi p6, vi kk, vi bb, vi x1, vi x2, vi (p1 &&& (7 : Int32)), vr bf1, vr bf2, vr bf3, vi (Int32.ofNat n1), vu, vu, vu, vu, vu, vu, vu] [xi (p4 &&& (2147483647 : Int32))]) _
  refine XS.bipush X3.here hx rfl (hb hby at_92) ?_
  show own_S p e below T3 (mkF m 94 #[vi p1, vi p2, vi p3, vi p4, vi p5, vi p6, vi kk, vi bb, vi x1, vi x2, vi (p1 &&& (7 : Int32)), vr bf1, vr bf2, vr bf3, vi (Int32.ofNat n1), vu, vu, vu, vu, vu, vu, vu] [xi (44 : Int32), xi (p4 &&& (2147483647 : Int32))]) _
  refine XS.irem X3.here hx rfl (hb hby at_94) rfl (by decide) ?_
  show own_S p e below T3 (mkF m 95 #[vi p1, vi p2, vi p3, vi p4, vi p5, vi p6, vi kk, vi bb, vi x1, vi x2, vi (p1 &&& (7 : Int32)), vr bf1, vr bf2, vr bf3, vi (Int32.ofNat n1), vu, vu, vu, vu, vu, vu, vu] [xi ((p4 &&& (2147483647 : Int32)) - ((p4 &&& (2147483647 : Int32)) / (44 : Int32)) * (44 : Int32))]) _
  refine castTop (show (mkF m 95 #[vi p1, vi p2, vi p3, vi p4, vi p5, vi p6, vi kk, vi bb, vi x1, vi x2, vi (p1 &&& (7 : Int32)), vr bf1, vr bf2, vr bf3, vi (Int32.ofNat n1), vu, vu, vu, vu, vu, vu, vu] [xi ((p4 &&& (2147483647 : Int32)) - ((p4 &&& (2147483647 : Int32)) / (44 : Int32)) * (44 : Int32))]) = (mkF m 95 #[vi p1, vi p2, vi p3, vi p4, vi p5, vi p6, vi kk, vi bb, vi x1, vi x2, vi (p1 &&& (7 : Int32)), vr bf1, vr bf2, vr bf3, vi (Int32.ofNat n1), vu, vu, vu, vu, vu, vu, vu] [xi (Int32.ofNat n2)]) from by rw [as139]) ?_
  refine XS.istore X3.here hx rfl (hb hby at_95) rfl (l' := #[vi p1, vi p2, vi p3, vi p4, vi p5, vi p6, vi kk, vi bb, vi x1, vi x2, vi (p1 &&& (7 : Int32)), vr bf1, vr bf2, vr bf3, vi (Int32.ofNat n1), vi (Int32.ofNat n2), vu, vu, vu, vu, vu, vu]) rfl ?_
  refine XS.iloadN X3.here hx rfl (hb hby at_97) rfl ?_
  show own_S p e below T3 (mkF m 98 #[vi p1, vi p2, vi p3, vi p4, vi p5, vi p6, vi kk, vi bb, vi x1, vi x2, vi (p1 &&& (7 : Int32)), vr bf1, vr bf2, vr bf3, vi (Int32.ofNat n1), vi (Int32.ofNat n2), vu, vu, vu, vu, vu, vu] [xi p2]) _
  refine X3.ldcI hx hown (mvT hZ (ww hw 0 rfl)) (g := (mkF m 98 #[vi p1, vi p2, vi p3, vi p4, vi p5, vi p6, vi kk, vi bb, vi x1, vi x2, vi (p1 &&& (7 : Int32)), vr bf1, vr bf2, vr bf3, vi (Int32.ofNat n1), vi (Int32.ofNat n2), vu, vu, vu, vu, vu, vu] [xi p2])) rfl (hb hby at_98) ?_
  show own_S p e below T3 (mkF m 100 #[vi p1, vi p2, vi p3, vi p4, vi p5, vi p6, vi kk, vi bb, vi x1, vi x2, vi (p1 &&& (7 : Int32)), vr bf1, vr bf2, vr bf3, vi (Int32.ofNat n1), vi (Int32.ofNat n2), vu, vu, vu, vu, vu, vu] [xi (2147483647 : Int32), xi p2]) _
  refine XS.iand X3.here hx rfl (hb hby at_100) rfl ?_
  show own_S p e below T3 (mkF m 101 #[vi p1, vi p2, vi p3, vi p4, vi p5, vi p6, vi kk, vi bb, vi x1, vi x2, vi (p1 &&& (7 : Int32)), vr bf1, vr bf2, vr bf3, vi (Int32.ofNat n1), vi (Int32.ofNat n2), vu, vu, vu, vu, vu, vu] [xi (p2 &&& (2147483647 : Int32))]) _
  refine XS.bipush X3.here hx rfl (hb hby at_101) ?_
  show own_S p e below T3 (mkF m 103 #[vi p1, vi p2, vi p3, vi p4, vi p5, vi p6, vi kk, vi bb, vi x1, vi x2, vi (p1 &&& (7 : Int32)), vr bf1, vr bf2, vr bf3, vi (Int32.ofNat n1), vi (Int32.ofNat n2), vu, vu, vu, vu, vu, vu] [xi (43 : Int32), xi (p2 &&& (2147483647 : Int32))]) _
  refine XS.irem X3.here hx rfl (hb hby at_103) rfl (by decide) ?_
  show own_S p e below T3 (mkF m 104 #[vi p1, vi p2, vi p3, vi p4, vi p5, vi p6, vi kk, vi bb, vi x1, vi x2, vi (p1 &&& (7 : Int32)), vr bf1, vr bf2, vr bf3, vi (Int32.ofNat n1), vi (Int32.ofNat n2), vu, vu, vu, vu, vu, vu] [xi ((p2 &&& (2147483647 : Int32)) - ((p2 &&& (2147483647 : Int32)) / (43 : Int32)) * (43 : Int32))]) _
  refine castTop (show (mkF m 104 #[vi p1, vi p2, vi p3, vi p4, vi p5, vi p6, vi kk, vi bb, vi x1, vi x2, vi (p1 &&& (7 : Int32)), vr bf1, vr bf2, vr bf3, vi (Int32.ofNat n1), vi (Int32.ofNat n2), vu, vu, vu, vu, vu, vu] [xi ((p2 &&& (2147483647 : Int32)) - ((p2 &&& (2147483647 : Int32)) / (43 : Int32)) * (43 : Int32))]) = (mkF m 104 #[vi p1, vi p2, vi p3, vi p4, vi p5, vi p6, vi kk, vi bb, vi x1, vi x2, vi (p1 &&& (7 : Int32)), vr bf1, vr bf2, vr bf3, vi (Int32.ofNat n1), vi (Int32.ofNat n2), vu, vu, vu, vu, vu, vu] [xi (Int32.ofNat m1)]) from by rw [as183]) ?_
  refine XS.istore X3.here hx rfl (hb hby at_104) rfl (l' := #[vi p1, vi p2, vi p3, vi p4, vi p5, vi p6, vi kk, vi bb, vi x1, vi x2, vi (p1 &&& (7 : Int32)), vr bf1, vr bf2, vr bf3, vi (Int32.ofNat n1), vi (Int32.ofNat n2), vi (Int32.ofNat m1), vu, vu, vu, vu, vu]) rfl ?_
  refine XS.iloadN X3.here hx rfl (hb hby at_106) rfl ?_
  show own_S p e below T3 (mkF m 107 #[vi p1, vi p2, vi p3, vi p4, vi p5, vi p6, vi kk, vi bb, vi x1, vi x2, vi (p1 &&& (7 : Int32)), vr bf1, vr bf2, vr bf3, vi (Int32.ofNat n1), vi (Int32.ofNat n2), vi (Int32.ofNat m1), vu, vu, vu, vu, vu] [xi p4]) _
  refine X3.ldcI hx hown (mvT hZ (ww hw 0 rfl)) (g := (mkF m 107 #[vi p1, vi p2, vi p3, vi p4, vi p5, vi p6, vi kk, vi bb, vi x1, vi x2, vi (p1 &&& (7 : Int32)), vr bf1, vr bf2, vr bf3, vi (Int32.ofNat n1), vi (Int32.ofNat n2), vi (Int32.ofNat m1), vu, vu, vu, vu, vu] [xi p4])) rfl (hb hby at_107) ?_
  show own_S p e below T3 (mkF m 109 #[vi p1, vi p2, vi p3, vi p4, vi p5, vi p6, vi kk, vi bb, vi x1, vi x2, vi (p1 &&& (7 : Int32)), vr bf1, vr bf2, vr bf3, vi (Int32.ofNat n1), vi (Int32.ofNat n2), vi (Int32.ofNat m1), vu, vu, vu, vu, vu] [xi (2147483647 : Int32), xi p4]) _
  refine XS.iand X3.here hx rfl (hb hby at_109) rfl ?_
  show own_S p e below T3 (mkF m 110 #[vi p1, vi p2, vi p3, vi p4, vi p5, vi p6, vi kk, vi bb, vi x1, vi x2, vi (p1 &&& (7 : Int32)), vr bf1, vr bf2, vr bf3, vi (Int32.ofNat n1), vi (Int32.ofNat n2), vi (Int32.ofNat m1), vu, vu, vu, vu, vu] [xi (p4 &&& (2147483647 : Int32))]) _
  refine XS.bipush X3.here hx rfl (hb hby at_110) ?_
  show own_S p e below T3 (mkF m 112 #[vi p1, vi p2, vi p3, vi p4, vi p5, vi p6, vi kk, vi bb, vi x1, vi x2, vi (p1 &&& (7 : Int32)), vr bf1, vr bf2, vr bf3, vi (Int32.ofNat n1), vi (Int32.ofNat n2), vi (Int32.ofNat m1), vu, vu, vu, vu, vu] [xi (43 : Int32), xi (p4 &&& (2147483647 : Int32))]) _
  refine XS.irem X3.here hx rfl (hb hby at_112) rfl (by decide) ?_
  show own_S p e below T3 (mkF m 113 #[vi p1, vi p2, vi p3, vi p4, vi p5, vi p6, vi kk, vi bb, vi x1, vi x2, vi (p1 &&& (7 : Int32)), vr bf1, vr bf2, vr bf3, vi (Int32.ofNat n1), vi (Int32.ofNat n2), vi (Int32.ofNat m1), vu, vu, vu, vu, vu] [xi ((p4 &&& (2147483647 : Int32)) - ((p4 &&& (2147483647 : Int32)) / (43 : Int32)) * (43 : Int32))]) _
  refine castTop (show (mkF m 113 #[vi p1, vi p2, vi p3, vi p4, vi p5, vi p6, vi kk, vi bb, vi x1, vi x2, vi (p1 &&& (7 : Int32)), vr bf1, vr bf2, vr bf3, vi (Int32.ofNat n1), vi (Int32.ofNat n2), vi (Int32.ofNat m1), vu, vu, vu, vu, vu] [xi ((p4 &&& (2147483647 : Int32)) - ((p4 &&& (2147483647 : Int32)) / (43 : Int32)) * (43 : Int32))]) = (mkF m 113 #[vi p1, vi p2, vi p3, vi p4, vi p5, vi p6, vi kk, vi bb, vi x1, vi x2, vi (p1 &&& (7 : Int32)), vr bf1, vr bf2, vr bf3, vi (Int32.ofNat n1), vi (Int32.ofNat n2), vi (Int32.ofNat m1), vu, vu, vu, vu, vu] [xi (Int32.ofNat m2)]) from by rw [as227]) ?_
  refine XS.istore X3.here hx rfl (hb hby at_113) rfl (l' := #[vi p1, vi p2, vi p3, vi p4, vi p5, vi p6, vi kk, vi bb, vi x1, vi x2, vi (p1 &&& (7 : Int32)), vr bf1, vr bf2, vr bf3, vi (Int32.ofNat n1), vi (Int32.ofNat n2), vi (Int32.ofNat m1), vi (Int32.ofNat m2), vu, vu, vu, vu]) rfl ?_
  refine XS.iloadN X3.here hx rfl (hb hby at_115) rfl ?_
  show own_S p e below T3 (mkF m 116 #[vi p1, vi p2, vi p3, vi p4, vi p5, vi p6, vi kk, vi bb, vi x1, vi x2, vi (p1 &&& (7 : Int32)), vr bf1, vr bf2, vr bf3, vi (Int32.ofNat n1), vi (Int32.ofNat n2), vi (Int32.ofNat m1), vi (Int32.ofNat m2), vu, vu, vu, vu] [xi p2]) _
  refine X3.ldcI hx hown (mvT hZ (ww hw 0 rfl)) (g := (mkF m 116 #[vi p1, vi p2, vi p3, vi p4, vi p5, vi p6, vi kk, vi bb, vi x1, vi x2, vi (p1 &&& (7 : Int32)), vr bf1, vr bf2, vr bf3, vi (Int32.ofNat n1), vi (Int32.ofNat n2), vi (Int32.ofNat m1), vi (Int32.ofNat m2), vu, vu, vu, vu] [xi p2])) rfl (hb hby at_116) ?_
  show own_S p e below T3 (mkF m 118 #[vi p1, vi p2, vi p3, vi p4, vi p5, vi p6, vi kk, vi bb, vi x1, vi x2, vi (p1 &&& (7 : Int32)), vr bf1, vr bf2, vr bf3, vi (Int32.ofNat n1), vi (Int32.ofNat n2), vi (Int32.ofNat m1), vi (Int32.ofNat m2), vu, vu, vu, vu] [xi (2147483647 : Int32), xi p2]) _
  refine XS.iand X3.here hx rfl (hb hby at_118) rfl ?_
  show own_S p e below T3 (mkF m 119 #[vi p1, vi p2, vi p3, vi p4, vi p5, vi p6, vi kk, vi bb, vi x1, vi x2, vi (p1 &&& (7 : Int32)), vr bf1, vr bf2, vr bf3, vi (Int32.ofNat n1), vi (Int32.ofNat n2), vi (Int32.ofNat m1), vi (Int32.ofNat m2), vu, vu, vu, vu] [xi (p2 &&& (2147483647 : Int32))]) _
  refine XS.bipush X3.here hx rfl (hb hby at_119) ?_
  show own_S p e below T3 (mkF m 121 #[vi p1, vi p2, vi p3, vi p4, vi p5, vi p6, vi kk, vi bb, vi x1, vi x2, vi (p1 &&& (7 : Int32)), vr bf1, vr bf2, vr bf3, vi (Int32.ofNat n1), vi (Int32.ofNat n2), vi (Int32.ofNat m1), vi (Int32.ofNat m2), vu, vu, vu, vu] [xi (45 : Int32), xi (p2 &&& (2147483647 : Int32))]) _
  refine XS.irem X3.here hx rfl (hb hby at_121) rfl (by decide) ?_
  show own_S p e below T3 (mkF m 122 #[vi p1, vi p2, vi p3, vi p4, vi p5, vi p6, vi kk, vi bb, vi x1, vi x2, vi (p1 &&& (7 : Int32)), vr bf1, vr bf2, vr bf3, vi (Int32.ofNat n1), vi (Int32.ofNat n2), vi (Int32.ofNat m1), vi (Int32.ofNat m2), vu, vu, vu, vu] [xi ((p2 &&& (2147483647 : Int32)) - ((p2 &&& (2147483647 : Int32)) / (45 : Int32)) * (45 : Int32))]) _
  refine castTop (show (mkF m 122 #[vi p1, vi p2, vi p3, vi p4, vi p5, vi p6, vi kk, vi bb, vi x1, vi x2, vi (p1 &&& (7 : Int32)), vr bf1, vr bf2, vr bf3, vi (Int32.ofNat n1), vi (Int32.ofNat n2), vi (Int32.ofNat m1), vi (Int32.ofNat m2), vu, vu, vu, vu] [xi ((p2 &&& (2147483647 : Int32)) - ((p2 &&& (2147483647 : Int32)) / (45 : Int32)) * (45 : Int32))]) = (mkF m 122 #[vi p1, vi p2, vi p3, vi p4, vi p5, vi p6, vi kk, vi bb, vi x1, vi x2, vi (p1 &&& (7 : Int32)), vr bf1, vr bf2, vr bf3, vi (Int32.ofNat n1), vi (Int32.ofNat n2), vi (Int32.ofNat m1), vi (Int32.ofNat m2), vu, vu, vu, vu] [xi (Int32.ofNat o1)]) from by rw [as273]) ?_
  refine XS.istore X3.here hx rfl (hb hby at_122) rfl (l' := #[vi p1, vi p2, vi p3, vi p4, vi p5, vi p6, vi kk, vi bb, vi x1, vi x2, vi (p1 &&& (7 : Int32)), vr bf1, vr bf2, vr bf3, vi (Int32.ofNat n1), vi (Int32.ofNat n2), vi (Int32.ofNat m1), vi (Int32.ofNat m2), vi (Int32.ofNat o1), vu, vu, vu]) rfl ?_
  refine XS.iloadN X3.here hx rfl (hb hby at_124) rfl ?_
  show own_S p e below T3 (mkF m 125 #[vi p1, vi p2, vi p3, vi p4, vi p5, vi p6, vi kk, vi bb, vi x1, vi x2, vi (p1 &&& (7 : Int32)), vr bf1, vr bf2, vr bf3, vi (Int32.ofNat n1), vi (Int32.ofNat n2), vi (Int32.ofNat m1), vi (Int32.ofNat m2), vi (Int32.ofNat o1), vu, vu, vu] [xi p4]) _
  refine X3.ldcI hx hown (mvT hZ (ww hw 0 rfl)) (g := (mkF m 125 #[vi p1, vi p2, vi p3, vi p4, vi p5, vi p6, vi kk, vi bb, vi x1, vi x2, vi (p1 &&& (7 : Int32)), vr bf1, vr bf2, vr bf3, vi (Int32.ofNat n1), vi (Int32.ofNat n2), vi (Int32.ofNat m1), vi (Int32.ofNat m2), vi (Int32.ofNat o1), vu, vu, vu] [xi p4])) rfl (hb hby at_125) ?_
  show own_S p e below T3 (mkF m 127 #[vi p1, vi p2, vi p3, vi p4, vi p5, vi p6, vi kk, vi bb, vi x1, vi x2, vi (p1 &&& (7 : Int32)), vr bf1, vr bf2, vr bf3, vi (Int32.ofNat n1), vi (Int32.ofNat n2), vi (Int32.ofNat m1), vi (Int32.ofNat m2), vi (Int32.ofNat o1), vu, vu, vu] [xi (2147483647 : Int32), xi p4]) _
  refine XS.iand X3.here hx rfl (hb hby at_127) rfl ?_
  show own_S p e below T3 (mkF m 128 #[vi p1, vi p2, vi p3, vi p4, vi p5, vi p6, vi kk, vi bb, vi x1, vi x2, vi (p1 &&& (7 : Int32)), vr bf1, vr bf2, vr bf3, vi (Int32.ofNat n1), vi (Int32.ofNat n2), vi (Int32.ofNat m1), vi (Int32.ofNat m2), vi (Int32.ofNat o1), vu, vu, vu] [xi (p4 &&& (2147483647 : Int32))]) _
  refine XS.bipush X3.here hx rfl (hb hby at_128) ?_
  show own_S p e below T3 (mkF m 130 #[vi p1, vi p2, vi p3, vi p4, vi p5, vi p6, vi kk, vi bb, vi x1, vi x2, vi (p1 &&& (7 : Int32)), vr bf1, vr bf2, vr bf3, vi (Int32.ofNat n1), vi (Int32.ofNat n2), vi (Int32.ofNat m1), vi (Int32.ofNat m2), vi (Int32.ofNat o1), vu, vu, vu] [xi (45 : Int32), xi (p4 &&& (2147483647 : Int32))]) _
  refine XS.irem X3.here hx rfl (hb hby at_130) rfl (by decide) ?_
  show own_S p e below T3 (mkF m 131 #[vi p1, vi p2, vi p3, vi p4, vi p5, vi p6, vi kk, vi bb, vi x1, vi x2, vi (p1 &&& (7 : Int32)), vr bf1, vr bf2, vr bf3, vi (Int32.ofNat n1), vi (Int32.ofNat n2), vi (Int32.ofNat m1), vi (Int32.ofNat m2), vi (Int32.ofNat o1), vu, vu, vu] [xi ((p4 &&& (2147483647 : Int32)) - ((p4 &&& (2147483647 : Int32)) / (45 : Int32)) * (45 : Int32))]) _
  refine castTop (show (mkF m 131 #[vi p1, vi p2, vi p3, vi p4, vi p5, vi p6, vi kk, vi bb, vi x1, vi x2, vi (p1 &&& (7 : Int32)), vr bf1, vr bf2, vr bf3, vi (Int32.ofNat n1), vi (Int32.ofNat n2), vi (Int32.ofNat m1), vi (Int32.ofNat m2), vi (Int32.ofNat o1), vu, vu, vu] [xi ((p4 &&& (2147483647 : Int32)) - ((p4 &&& (2147483647 : Int32)) / (45 : Int32)) * (45 : Int32))]) = (mkF m 131 #[vi p1, vi p2, vi p3, vi p4, vi p5, vi p6, vi kk, vi bb, vi x1, vi x2, vi (p1 &&& (7 : Int32)), vr bf1, vr bf2, vr bf3, vi (Int32.ofNat n1), vi (Int32.ofNat n2), vi (Int32.ofNat m1), vi (Int32.ofNat m2), vi (Int32.ofNat o1), vu, vu, vu] [xi (Int32.ofNat o2)]) from by rw [as319]) ?_
  refine XS.istore X3.here hx rfl (hb hby at_131) rfl (l' := #[vi p1, vi p2, vi p3, vi p4, vi p5, vi p6, vi kk, vi bb, vi x1, vi x2, vi (p1 &&& (7 : Int32)), vr bf1, vr bf2, vr bf3, vi (Int32.ofNat n1), vi (Int32.ofNat n2), vi (Int32.ofNat m1), vi (Int32.ofNat m2), vi (Int32.ofNat o1), vi (Int32.ofNat o2), vu, vu]) rfl ?_
  refine XS.aload X3.here hx rfl (hb hby at_133) rfl rfl ?_
  refine XS.iload X3.here hx rfl (hb hby at_135) rfl ?_
  show own_S p e below T3 (mkF m 137 #[vi p1, vi p2, vi p3, vi p4, vi p5, vi p6, vi kk, vi bb, vi x1, vi x2, vi (p1 &&& (7 : Int32)), vr bf1, vr bf2, vr bf3, vi (Int32.ofNat n1), vi (Int32.ofNat n2), vi (Int32.ofNat m1), vi (Int32.ofNat m2), vi (Int32.ofNat o1), vi (Int32.ofNat o2), vu, vu] [xi (Int32.ofNat n1), xr bf2]) _
  refine XS.iload X3.here hx rfl (hb hby at_137) rfl ?_
  show own_S p e below T3 (mkF m 139 #[vi p1, vi p2, vi p3, vi p4, vi p5, vi p6, vi kk, vi bb, vi x1, vi x2, vi (p1 &&& (7 : Int32)), vr bf1, vr bf2, vr bf3, vi (Int32.ofNat n1), vi (Int32.ofNat n2), vi (Int32.ofNat m1), vi (Int32.ofNat m2), vi (Int32.ofNat o1), vi (Int32.ofNat o2), vu, vu] [xi x1, xi (Int32.ofNat n1), xr bf2]) _
  refine st5 _ ?_
  refine XS.aload X5.here hx rfl (hb hby at_140) rfl rfl ?_
  refine XS.iload X5.here hx rfl (hb hby at_142) rfl ?_
  refine XS.iload X5.here hx rfl (hb hby at_144) rfl ?_
  show own_S p e below T5 (mkF m 146 #[vi p1, vi p2, vi p3, vi p4, vi p5, vi p6, vi kk, vi bb, vi x1, vi x2, vi (p1 &&& (7 : Int32)), vr bf1, vr bf2, vr bf3, vi (Int32.ofNat n1), vi (Int32.ofNat n2), vi (Int32.ofNat m1), vi (Int32.ofNat m2), vi (Int32.ofNat o1), vi (Int32.ofNat o2), vu, vu] [xi x2, xi (Int32.ofNat n2), xr bf2]) _
  refine st7 _ ?_
  refine XS.aload X7.here hx rfl (hb hby at_147) rfl rfl ?_
  refine XS.iload X7.here hx rfl (hb hby at_149) rfl ?_
  refine XS.iload X7.here hx rfl (hb hby at_151) rfl ?_
  show own_S p e below T7 (mkF m 153 #[vi p1, vi p2, vi p3, vi p4, vi p5, vi p6, vi kk, vi bb, vi x1, vi x2, vi (p1 &&& (7 : Int32)), vr bf1, vr bf2, vr bf3, vi (Int32.ofNat n1), vi (Int32.ofNat n2), vi (Int32.ofNat m1), vi (Int32.ofNat m2), vi (Int32.ofNat o1), vi (Int32.ofNat o2), vu, vu] [xi x1, xi (Int32.ofNat m1), xr bf1]) _
  refine st9 _ ?_
  refine XS.aload X9.here hx rfl (hb hby at_154) rfl rfl ?_
  refine XS.iload X9.here hx rfl (hb hby at_156) rfl ?_
  refine XS.iload X9.here hx rfl (hb hby at_158) rfl ?_
  show own_S p e below T9 (mkF m 160 #[vi p1, vi p2, vi p3, vi p4, vi p5, vi p6, vi kk, vi bb, vi x1, vi x2, vi (p1 &&& (7 : Int32)), vr bf1, vr bf2, vr bf3, vi (Int32.ofNat n1), vi (Int32.ofNat n2), vi (Int32.ofNat m1), vi (Int32.ofNat m2), vi (Int32.ofNat o1), vi (Int32.ofNat o2), vu, vu] [xi x2, xi (Int32.ofNat m2), xr bf1]) _
  refine st11 _ ?_
  refine XS.aload X11.here hx rfl (hb hby at_161) rfl rfl ?_
  refine XS.iload X11.here hx rfl (hb hby at_163) rfl ?_
  refine XS.iload X11.here hx rfl (hb hby at_165) rfl ?_
  show own_S p e below T11 (mkF m 167 #[vi p1, vi p2, vi p3, vi p4, vi p5, vi p6, vi kk, vi bb, vi x1, vi x2, vi (p1 &&& (7 : Int32)), vr bf1, vr bf2, vr bf3, vi (Int32.ofNat n1), vi (Int32.ofNat n2), vi (Int32.ofNat m1), vi (Int32.ofNat m2), vi (Int32.ofNat o1), vi (Int32.ofNat o2), vu, vu] [xi x1, xi (Int32.ofNat o1), xr bf3]) _
  refine st13 _ ?_
  refine XS.aload X13.here hx rfl (hb hby at_168) rfl rfl ?_
  refine XS.iload X13.here hx rfl (hb hby at_170) rfl ?_
  refine XS.iload X13.here hx rfl (hb hby at_172) rfl ?_
  show own_S p e below T13 (mkF m 174 #[vi p1, vi p2, vi p3, vi p4, vi p5, vi p6, vi kk, vi bb, vi x1, vi x2, vi (p1 &&& (7 : Int32)), vr bf1, vr bf2, vr bf3, vi (Int32.ofNat n1), vi (Int32.ofNat n2), vi (Int32.ofNat m1), vi (Int32.ofNat m2), vi (Int32.ofNat o1), vi (Int32.ofNat o2), vu, vu] [xi x2, xi (Int32.ofNat o2), xr bf3]) _
  refine st15 _ ?_
  exact st
set_option maxRecDepth 65536 in
set_option maxHeartbeats 40000000 in
theorem own_pre1 {p : Program} {l : Launch} {e : Env} {s : State} {m : MethodId} {args : Array Value} {below : List Frame} {meth : Method} {c : Code} {T0 : State} {locs : List Loc} {Z : State} {a0 : Array Value} (hw : ∀ d ∈ tables_1, d.before a0 Z = true) (hj : ∀ d ∈ jdkStatics_1, d.before a0 Z = true)  (ki0 : Int32) (vf0 : Value) (G : own_St Z hj ki0 vf0) (p1 : Int32) (p2 : Int32) (p3 : Int32) (p4 : Int32) (p5 : Int32) (p6 : Int32) (kk : Int32) (bb : Int32) (x1 : Int32) (x2 : Int32) (n1 : Nat) (n2 : Nat) (m1 : Nat) (m2 : Nat) (o1 : Nat) (o2 : Nat) (as47 : ((p6 &&& (2147483647 : Int32)) - ((p6 &&& (2147483647 : Int32)) / (36 : Int32)) * (36 : Int32)) = kk) (as323 : if_icmp.holds .ge kk (26 : Int32) = true) (as321 : (((48 : Int32) + (kk - (26 : Int32))).toUInt32.toUInt16.toUInt32.toInt32) = bb) (as48 : ((p3 &&& (65535 : Int32)).toUInt32.toUInt16.toUInt32.toInt32) = x1) (as49 : ((p5 &&& (65535 : Int32)).toUInt32.toUInt16.toUInt32.toInt32) = x2) (as94 : ((p2 &&& (2147483647 : Int32)) - ((p2 &&& (2147483647 : Int32)) / (44 : Int32)) * (44 : Int32)) = (Int32.ofNat n1)) (as139 : ((p4 &&& (2147483647 : Int32)) - ((p4 &&& (2147483647 : Int32)) / (44 : Int32)) * (44 : Int32)) = (Int32.ofNat n2)) (as183 : ((p2 &&& (2147483647 : Int32)) - ((p2 &&& (2147483647 : Int32)) / (43 : Int32)) * (43 : Int32)) = (Int32.ofNat m1)) (as227 : ((p4 &&& (2147483647 : Int32)) - ((p4 &&& (2147483647 : Int32)) / (43 : Int32)) * (43 : Int32)) = (Int32.ofNat m2)) (as273 : ((p2 &&& (2147483647 : Int32)) - ((p2 &&& (2147483647 : Int32)) / (45 : Int32)) * (45 : Int32)) = (Int32.ofNat o1)) (as319 : ((p4 &&& (2147483647 : Int32)) - ((p4 &&& (2147483647 : Int32)) / (45 : Int32)) * (45 : Int32)) = (Int32.ofNat o2)) (hx : p.tables.exec = Jvm.exec) (hZ : Z.Warmed39 s.vm) (hby : c.code = code) (hml : c.maxLocals = 22) (hown : s.vm.findClass "com/example/scopelock/scopelock/KeyWellFormedPinLaw" = some m.cls) {h0 : Heap} {n0 : Nat} (X0 : Stand p l e ({ frames := 9, cells := 24, slots := 2688, locals := 208 } : Room) s m args below meth c T0 locs 0 0) (e0 : T0.heap = h0) (N0 : Fr n0 locs) (O0 : Old Z n0 h0) (hn1 : n1 < 44) (hn2 : n2 < 44) (hm1 : m1 < 43) (hm2 : m2 < 43) (ho1 : o1 < 45) (ho2 : o2 < 45) :
    ∃ (T1 : State) (L1 : List Loc) (h1 : Heap) (a43 : Addr) (a44 : Addr) (a45 : Addr) (k43 : ClassId) (k44 : ClassId) (k45 : ClassId), Stand p l e ({ frames := 9, cells := 24, slots := 2688, locals := 208 } : Room) s m args below meth c T1 L1 3 132 ∧ T1.heap = h1 ∧ Fr n0 L1 ∧ Old Z n0 h1 ∧ (Arv Z h1 a43 k43 .char (Int32.ofNat 43) (own_vs (own_fn bb x1 x2 m1 m2) 43) (.int (0 : Int32)) ∧ Arv Z h1 a44 k44 .char (Int32.ofNat 44) (own_vs (own_fn bb x1 x2 n1 n2) 44) (.int (0 : Int32)) ∧ Arv Z h1 a45 k45 .char (Int32.ofNat 45) (own_vs (own_fn bb x1 x2 o1 o2) 45) (.int (0 : Int32)) ∧ Keep h0 h1 []) ∧ ∀ t, Steps p.tables e below (T1.setTop (mkF m 175 #[vi p1, vi p2, vi p3, vi p4, vi p5, vi p6, vi kk, vi bb, vi x1, vi x2, vi (p1 &&& (7 : Int32)), vr a43, vr a44, vr a45, vi (Int32.ofNat n1), vi (Int32.ofNat n2), vi (Int32.ofNat m1), vi (Int32.ofNat m2), vi (Int32.ofNat o1), vi (Int32.ofNat o2), vu, vu] [])) t → Steps p.tables e below (T0.setTop (mkF m 0 #[vi p1, vi p2, vi p3, vi p4, vi p5, vi p6, vu, vu, vu, vu, vu, vu, vu, vu, vu, vu, vu, vu, vu, vu, vu, vu] [])) t := by
  obtain ⟨_, _, ⟨T1, L1, k1, n1⟩, -, X1, ⟨Lc1, hQ1, l1, y1, z1⟩, st1⟩ := Jvm.LawKit.callS X0 hx (y := Y29) hown (mvT hZ (ww hw 2 rfl)) (mvT hZ (ww hw 3 rfl)) (mvT hZ (ww hw 4 rfl)) (mvT hZ (ww hw 5 rfl)) (by decide) (backOf (W := 0) (own_filled43 l Z a0 hw hj ki0 vf0 G bb h0 n0 O0 []) hZ (ww hw 5 rfl) (ww hw 4 rfl) (by decide) (by decide)) (g := (mkF m 60 #[vi p1, vi p2, vi p3, vi p4, vi p5, vi p6, vi kk, vi bb, vi x1, vi x2, vi (p1 &&& (7 : Int32)), vu, vu, vu, vu, vu, vu, vu, vu, vu, vu, vu] [xi bb])) rfl (by rw [hml]; rfl) (argsL := [xi bb]) (rest := []) (lenOf pd19 rfl) rfl (by show 2 * 0 + _ ≤ _; exact Nat.le_of_eq rfl) (hb hby at_60) (fun _ _ => ⟨rfl, e0, (by decide : 0 + 1 ≤ _), (by decide : 0 + 43 ≤ _)⟩)
  dsimp only [Pt.U, Pt.locs, Pt.cells, Pt.slots] at X1 l1 y1 z1 st1 hQ1
  subst l1 y1 z1
  obtain ⟨h1, e1⟩ : ∃ z, T1.heap = z := ⟨_, rfl⟩
  rw [e1] at hQ1
  obtain ⟨bf1, kf1, rfl, Nq1, K1, Vf1, g_bf1, sz0_bf1⟩ := hQ1
  have N1 := Fr.app N0 Nq1
  have sz_bf1 : h0.size ≤ bf1 := Nat.le_trans (Keep.refl h0 []).1 sz0_bf1
  have O1 : Old Z n0 h1 := O0.keep K1 all0
  have Kp1 : Keep h0 h1 [] := (Keep.refl h0 []).trans K1 all0
  obtain ⟨_, _, ⟨T2, L2, k2, n2⟩, -, X2, ⟨Lc2, hQ2, l2, y2, z2⟩, st2⟩ := Jvm.LawKit.callS X1 hx (y := Y30) hown (mvT hZ (ww hw 7 rfl)) (mvT hZ (ww hw 8 rfl)) (mvT hZ (ww hw 4 rfl)) (mvT hZ (ww hw 9 rfl)) (by decide) (backOf (W := 0) (own_filled44 l Z a0 hw hj ki0 vf0 G bb h1 n0 O1 []) hZ (ww hw 9 rfl) (ww hw 4 rfl) (by decide) (by decide)) (g := (mkF m 67 #[vi p1, vi p2, vi p3, vi p4, vi p5, vi p6, vi kk, vi bb, vi x1, vi x2, vi (p1 &&& (7 : Int32)), vr bf1, vu, vu, vu, vu, vu, vu, vu, vu, vu, vu] [xi bb])) rfl (by rw [hml]; rfl) (argsL := [xi bb]) (rest := []) (lenOf pd19 rfl) rfl (by show 2 * 0 + _ ≤ _; exact Nat.le_of_eq rfl) (hb hby at_67) (fun _ _ => ⟨rfl, e1, (by decide : 1 + 1 ≤ _), (by decide : 43 + 44 ≤ _)⟩)
  dsimp only [Pt.U, Pt.locs, Pt.cells, Pt.slots] at X2 l2 y2 z2 st2 hQ2
  subst l2 y2 z2
  obtain ⟨h2, e2⟩ : ∃ z, T2.heap = z := ⟨_, rfl⟩
  rw [e2] at hQ2
  obtain ⟨bf2, kf2, rfl, Nq2, K2, Vf2, g_bf2, sz0_bf2⟩ := hQ2
  have N2 := Fr.app N1 Nq2
  have ne_bf1_bf2 : bf1 ≠ bf2 := Nat.ne_of_lt (Nat.lt_of_lt_of_le (Vf1).lt sz0_bf2)
  have sz_bf2 : h0.size ≤ bf2 := Nat.le_trans Kp1.1 sz0_bf2
  have O2 : Old Z n0 h2 := O1.keep K2 all0
  have Kp2 : Keep h0 h2 [] := Kp1.trans K2 all0
  have V_bf1_2 := Vf1.keep K2 nin0
  obtain ⟨_, _, ⟨T3, L3, k3, n3⟩, -, X3, ⟨Lc3, hQ3, l3, y3, z3⟩, st3⟩ := Jvm.LawKit.callS X2 hx (y := Y31) hown (mvT hZ (ww hw 10 rfl)) (mvT hZ (ww hw 11 rfl)) (mvT hZ (ww hw 4 rfl)) (mvT hZ (ww hw 12 rfl)) (by decide) (backOf (W := 0) (own_filled45 l Z a0 hw hj ki0 vf0 G bb h2 n0 O2 []) hZ (ww hw 12 rfl) (ww hw 4 rfl) (by decide) (by decide)) (g := (mkF m 74 #[vi p1, vi p2, vi p3, vi p4, vi p5, vi p6, vi kk, vi bb, vi x1, vi x2, vi (p1 &&& (7 : Int32)), vr bf1, vr bf2, vu, vu, vu, vu, vu, vu, vu, vu, vu] [xi bb])) rfl (by rw [hml]; rfl) (argsL := [xi bb]) (rest := []) (lenOf pd19 rfl) rfl (by show 2 * 0 + _ ≤ _; exact Nat.le_of_eq rfl) (hb hby at_74) (fun _ _ => ⟨rfl, e2, (by decide : 2 + 1 ≤ _), (by decide : 87 + 45 ≤ _)⟩)
  dsimp only [Pt.U, Pt.locs, Pt.cells, Pt.slots] at X3 l3 y3 z3 st3 hQ3
  subst l3 y3 z3
  obtain ⟨h3, e3⟩ : ∃ z, T3.heap = z := ⟨_, rfl⟩
  rw [e3] at hQ3
  obtain ⟨bf3, kf3, rfl, Nq3, K3, Vf3, g_bf3, sz0_bf3⟩ := hQ3
  have N3 := Fr.app N2 Nq3
  have ne_bf1_bf3 : bf1 ≠ bf3 := Nat.ne_of_lt (Nat.lt_of_lt_of_le (V_bf1_2).lt sz0_bf3)
  have ne_bf2_bf3 : bf2 ≠ bf3 := Nat.ne_of_lt (Nat.lt_of_lt_of_le (Vf2).lt sz0_bf3)
  have sz_bf3 : h0.size ≤ bf3 := Nat.le_trans Kp2.1 sz0_bf3
  have O3 : Old Z n0 h3 := O2.keep K3 all0
  have Kp3 : Keep h0 h3 [] := Kp2.trans K3 all0
  have V_bf1_3 := V_bf1_2.keep K3 nin0
  have V_bf2_3 := Vf2.keep K3 nin0
  obtain ⟨cl4, Ar4, q4, S4, N4_, H4, G4⟩ := id V_bf2_3
  obtain ⟨T5, h5, X5, e5, W5, st5⟩ := stC X3 hx hZ e3 Ar4 (j := (Int32.ofNat n1)) (inb_of S4 (own_in hn1 (by decide))) (g := (mkF m 139 #[vi p1, vi p2, vi p3, vi p4, vi p5, vi p6, vi kk, vi bb, vi x1, vi x2, vi (p1 &&& (7 : Int32)), vr bf1, vr bf2, vr bf3, vi (Int32.ofNat n1), vi (Int32.ofNat n2), vi (Int32.ofNat m1), vi (Int32.ofNat m2), vi (Int32.ofNat o1), vi (Int32.ofNat o2), vu, vu] [xi x1, xi (Int32.ofNat n1), xr bf2])) rfl rfl (hb hby at_139)
  have V_bf2_5 : Arv Z h5 bf2 kf2 .char (Int32.ofNat 44) (own_vs (own_up (fun _ => nar .char bb) n1 (nar .char x1)) 44) (.int (0 : Int32)) := by rw [← own_vs_set]; exact Arv.set Ar4 q4 S4 N4_ H4 G4 (fits_nar_char _) W5 _ (own_nat (Nat.lt_trans hn1 (by decide))) (by rw [own_vs_len]; exact hn1)
  have O5 := O3.wr W5 g_bf2
  have Kp5 := Kp3.wr W5 (Or.inr sz_bf2)
  have V_bf1_5 := V_bf1_3.other W5 ne_bf1_bf2
  have V_bf3_5 := Vf3.other W5 (Ne.symm ne_bf2_bf3)
  have N5 := Fr.snoc X5 N3 g_bf2
  obtain ⟨LL5, X5, N5⟩ := own_pack X5 N5
  obtain ⟨cl6, Ar6, q6, S6, N6_, H6, G6⟩ := id V_bf2_5
  obtain ⟨T7, h7, X7, e7, W7, st7⟩ := stC X5 hx hZ e5 Ar6 (j := (Int32.ofNat n2)) (inb_of S6 (own_in hn2 (by decide))) (g := (mkF m 146 #[vi p1, vi p2, vi p3, vi p4, vi p5, vi p6, vi kk, vi bb, vi x1, vi x2, vi (p1 &&& (7 : Int32)), vr bf1, vr bf2, vr bf3, vi (Int32.ofNat n1), vi (Int32.ofNat n2), vi (Int32.ofNat m1), vi (Int32.ofNat m2), vi (Int32.ofNat o1), vi (Int32.ofNat o2), vu, vu] [xi x2, xi (Int32.ofNat n2), xr bf2])) rfl rfl (hb hby at_146)
  have V_bf2_7 : Arv Z h7 bf2 kf2 .char (Int32.ofNat 44) (own_vs (own_up (own_up (fun _ => nar .char bb) n1 (nar .char x1)) n2 (nar .char x2)) 44) (.int (0 : Int32)) := by rw [← own_vs_set]; exact Arv.set Ar6 q6 S6 N6_ H6 G6 (fits_nar_char _) W7 _ (own_nat (Nat.lt_trans hn2 (by decide))) (by rw [own_vs_len]; exact hn2)
  have O7 := O5.wr W7 g_bf2
  have Kp7 := Kp5.wr W7 (Or.inr sz_bf2)
  have V_bf1_7 := V_bf1_5.other W7 ne_bf1_bf2
  have V_bf3_7 := V_bf3_5.other W7 (Ne.symm ne_bf2_bf3)
  have N7 := Fr.snoc X7 N5 g_bf2
  obtain ⟨LL7, X7, N7⟩ := own_pack X7 N7
  obtain ⟨cl8, Ar8, q8, S8, N8_, H8, G8⟩ := id V_bf1_7
  obtain ⟨T9, h9, X9, e9, W9, st9⟩ := stC X7 hx hZ e7 Ar8 (j := (Int32.ofNat m1)) (inb_of S8 (own_in hm1 (by decide))) (g := (mkF m 153 #[vi p1, vi p2, vi p3, vi p4, vi p5, vi p6, vi kk, vi bb, vi x1, vi x2, vi (p1 &&& (7 : Int32)), vr bf1, vr bf2, vr bf3, vi (Int32.ofNat n1), vi (Int32.ofNat n2), vi (Int32.ofNat m1), vi (Int32.ofNat m2), vi (Int32.ofNat o1), vi (Int32.ofNat o2), vu, vu] [xi x1, xi (Int32.ofNat m1), xr bf1])) rfl rfl (hb hby at_153)
  have V_bf1_9 : Arv Z h9 bf1 kf1 .char (Int32.ofNat 43) (own_vs (own_up (fun _ => nar .char bb) m1 (nar .char x1)) 43) (.int (0 : Int32)) := by rw [← own_vs_set]; exact Arv.set Ar8 q8 S8 N8_ H8 G8 (fits_nar_char _) W9 _ (own_nat (Nat.lt_trans hm1 (by decide))) (by rw [own_vs_len]; exact hm1)
  have O9 := O7.wr W9 g_bf1
  have Kp9 := Kp7.wr W9 (Or.inr sz_bf1)
  have V_bf2_9 := V_bf2_7.other W9 (Ne.symm ne_bf1_bf2)
  have V_bf3_9 := V_bf3_7.other W9 (Ne.symm ne_bf1_bf3)
  have N9 := Fr.snoc X9 N7 g_bf1
  obtain ⟨LL9, X9, N9⟩ := own_pack X9 N9
  obtain ⟨cl10, Ar10, q10, S10, N10_, H10, G10⟩ := id V_bf1_9
  obtain ⟨T11, h11, X11, e11, W11, st11⟩ := stC X9 hx hZ e9 Ar10 (j := (Int32.ofNat m2)) (inb_of S10 (own_in hm2 (by decide))) (g := (mkF m 160 #[vi p1, vi p2, vi p3, vi p4, vi p5, vi p6, vi kk, vi bb, vi x1, vi x2, vi (p1 &&& (7 : Int32)), vr bf1, vr bf2, vr bf3, vi (Int32.ofNat n1), vi (Int32.ofNat n2), vi (Int32.ofNat m1), vi (Int32.ofNat m2), vi (Int32.ofNat o1), vi (Int32.ofNat o2), vu, vu] [xi x2, xi (Int32.ofNat m2), xr bf1])) rfl rfl (hb hby at_160)
  have V_bf1_11 : Arv Z h11 bf1 kf1 .char (Int32.ofNat 43) (own_vs (own_up (own_up (fun _ => nar .char bb) m1 (nar .char x1)) m2 (nar .char x2)) 43) (.int (0 : Int32)) := by rw [← own_vs_set]; exact Arv.set Ar10 q10 S10 N10_ H10 G10 (fits_nar_char _) W11 _ (own_nat (Nat.lt_trans hm2 (by decide))) (by rw [own_vs_len]; exact hm2)
  have O11 := O9.wr W11 g_bf1
  have Kp11 := Kp9.wr W11 (Or.inr sz_bf1)
  have V_bf2_11 := V_bf2_9.other W11 (Ne.symm ne_bf1_bf2)
  have V_bf3_11 := V_bf3_9.other W11 (Ne.symm ne_bf1_bf3)
  have N11 := Fr.snoc X11 N9 g_bf1
  obtain ⟨LL11, X11, N11⟩ := own_pack X11 N11
  obtain ⟨cl12, Ar12, q12, S12, N12_, H12, G12⟩ := id V_bf3_11
  obtain ⟨T13, h13, X13, e13, W13, st13⟩ := stC X11 hx hZ e11 Ar12 (j := (Int32.ofNat o1)) (inb_of S12 (own_in ho1 (by decide))) (g := (mkF m 167 #[vi p1, vi p2, vi p3, vi p4, vi p5, vi p6, vi kk, vi bb, vi x1, vi x2, vi (p1 &&& (7 : Int32)), vr bf1, vr bf2, vr bf3, vi (Int32.ofNat n1), vi (Int32.ofNat n2), vi (Int32.ofNat m1), vi (Int32.ofNat m2), vi (Int32.ofNat o1), vi (Int32.ofNat o2), vu, vu] [xi x1, xi (Int32.ofNat o1), xr bf3])) rfl rfl (hb hby at_167)
  have V_bf3_13 : Arv Z h13 bf3 kf3 .char (Int32.ofNat 45) (own_vs (own_up (fun _ => nar .char bb) o1 (nar .char x1)) 45) (.int (0 : Int32)) := by rw [← own_vs_set]; exact Arv.set Ar12 q12 S12 N12_ H12 G12 (fits_nar_char _) W13 _ (own_nat (Nat.lt_trans ho1 (by decide))) (by rw [own_vs_len]; exact ho1)
  have O13 := O11.wr W13 g_bf3
  have Kp13 := Kp11.wr W13 (Or.inr sz_bf3)
  have V_bf1_13 := V_bf1_11.other W13 ne_bf1_bf3
  have V_bf2_13 := V_bf2_11.other W13 ne_bf2_bf3
  have N13 := Fr.snoc X13 N11 g_bf3
  obtain ⟨LL13, X13, N13⟩ := own_pack X13 N13
  obtain ⟨cl14, Ar14, q14, S14, N14_, H14, G14⟩ := id V_bf3_13
  obtain ⟨T15, h15, X15, e15, W15, st15⟩ := stC X13 hx hZ e13 Ar14 (j := (Int32.ofNat o2)) (inb_of S14 (own_in ho2 (by decide))) (g := (mkF m 174 #[vi p1, vi p2, vi p3, vi p4, vi p5, vi p6, vi kk, vi bb, vi x1, vi x2, vi (p1 &&& (7 : Int32)), vr bf1, vr bf2, vr bf3, vi (Int32.ofNat n1), vi (Int32.ofNat n2), vi (Int32.ofNat m1), vi (Int32.ofNat m2), vi (Int32.ofNat o1), vi (Int32.ofNat o2), vu, vu] [xi x2, xi (Int32.ofNat o2), xr bf3])) rfl rfl (hb hby at_174)
  have V_bf3_15 : Arv Z h15 bf3 kf3 .char (Int32.ofNat 45) (own_vs (own_up (own_up (fun _ => nar .char bb) o1 (nar .char x1)) o2 (nar .char x2)) 45) (.int (0 : Int32)) := by rw [← own_vs_set]; exact Arv.set Ar14 q14 S14 N14_ H14 G14 (fits_nar_char _) W15 _ (own_nat (Nat.lt_trans ho2 (by decide))) (by rw [own_vs_len]; exact ho2)
  have O15 := O13.wr W15 g_bf3
  have Kp15 := Kp13.wr W15 (Or.inr sz_bf3)
  have V_bf1_15 := V_bf1_13.other W15 ne_bf1_bf3
  have V_bf2_15 := V_bf2_13.other W15 ne_bf2_bf3
  have N15 := Fr.snoc X15 N13 g_bf3
  obtain ⟨LL15, X15, N15⟩ := own_pack X15 N15
  refine ⟨_, _, _, bf1, bf2, bf3, kf1, kf2, kf3, X15, e15, N15, O15, ⟨V_bf1_15, V_bf2_15, V_bf3_15, Kp15⟩, fun t st => ?_⟩
  show own_S p e below T0 (mkF m 0 #[vi p1, vi p2, vi p3, vi p4, vi p5, vi p6, vu, vu, vu, vu, vu, vu, vu, vu, vu, vu, vu, vu, vu, vu, vu, vu] []) _
  refine XS.iload X0.here hx rfl (hb hby at_0) rfl ?_
  show own_S p e below T0 (mkF m 2 #[vi p1, vi p2, vi p3, vi p4, vi p5, vi p6, vu, vu, vu, vu, vu, vu, vu, vu, vu, vu, vu, vu, vu, vu, vu, vu] [xi p6]) _
  refine X0.ldcI hx hown (mvT hZ (ww hw 0 rfl)) (g := (mkF m 2 #[vi p1, vi p2, vi p3, vi p4, vi p5, vi p6, vu, vu, vu, vu, vu, vu, vu, vu, vu, vu, vu, vu, vu, vu, vu, vu] [xi p6])) rfl (hb hby at_2) ?_
  show own_S p e below T0 (mkF m 4 #[vi p1, vi p2, vi p3, vi p4, vi p5, vi p6, vu, vu, vu, vu, vu, vu, vu, vu, vu, vu, vu, vu, vu, vu, vu, vu] [xi (2147483647 : Int32), xi p6]) _
  refine XS.iand X0.here hx rfl (hb hby at_4) rfl ?_
  show own_S p e below T0 (mkF m 5 #[vi p1, vi p2, vi p3, vi p4, vi p5, vi p6, vu, vu, vu, vu, vu, vu, vu, vu, vu, vu, vu, vu, vu, vu, vu, vu] [xi (p6 &&& (2147483647 : Int32))]) _
  refine XS.bipush X0.here hx rfl (hb hby at_5) ?_
  show own_S p e below T0 (mkF m 7 #[vi p1, vi p2, vi p3, vi p4, vi p5, vi p6, vu, vu, vu, vu, vu, vu, vu, vu, vu, vu, vu, vu, vu, vu, vu, vu] [xi (36 : Int32), xi (p6 &&& (2147483647 : Int32))]) _
  refine XS.irem X0.here hx rfl (hb hby at_7) rfl (by decide) ?_
  show own_S p e below T0 (mkF m 8 #[vi p1, vi p2, vi p3, vi p4, vi p5, vi p6, vu, vu, vu, vu, vu, vu, vu, vu, vu, vu, vu, vu, vu, vu, vu, vu] [xi ((p6 &&& (2147483647 : Int32)) - ((p6 &&& (2147483647 : Int32)) / (36 : Int32)) * (36 : Int32))]) _
  refine castTop (show (mkF m 8 #[vi p1, vi p2, vi p3, vi p4, vi p5, vi p6, vu, vu, vu, vu, vu, vu, vu, vu, vu, vu, vu, vu, vu, vu, vu, vu] [xi ((p6 &&& (2147483647 : Int32)) - ((p6 &&& (2147483647 : Int32)) / (36 : Int32)) * (36 : Int32))]) = (mkF m 8 #[vi p1, vi p2, vi p3, vi p4, vi p5, vi p6, vu, vu, vu, vu, vu, vu, vu, vu, vu, vu, vu, vu, vu, vu, vu, vu] [xi kk]) from by rw [as47]) ?_
  refine XS.istore X0.here hx rfl (hb hby at_8) rfl (l' := #[vi p1, vi p2, vi p3, vi p4, vi p5, vi p6, vi kk, vu, vu, vu, vu, vu, vu, vu, vu, vu, vu, vu, vu, vu, vu, vu]) rfl ?_
  refine XS.iload X0.here hx rfl (hb hby at_10) rfl ?_
  refine XS.bipush X0.here hx rfl (hb hby at_12) ?_
  show own_S p e below T0 (mkF m 14 #[vi p1, vi p2, vi p3, vi p4, vi p5, vi p6, vi kk, vu, vu, vu, vu, vu, vu, vu, vu, vu, vu, vu, vu, vu, vu, vu] [xi (26 : Int32), xi kk]) _
  refine XS.icmpYes X0.here hx rfl (pc0 := 14) (pc' := 26) rfl (hb hby at_14) rfl as323 (by decide) (by decide) ?_
  refine XS.bipush X0.here hx rfl (hb hby at_26) ?_
  refine XS.iload X0.here hx rfl (hb hby at_28) rfl ?_
  refine XS.bipush X0.here hx rfl (hb hby at_30) ?_
  show own_S p e below T0 (mkF m 32 #[vi p1, vi p2, vi p3, vi p4, vi p5, vi p6, vi kk, vu, vu, vu, vu, vu, vu, vu, vu, vu, vu, vu, vu, vu, vu, vu] [xi (26 : Int32), xi kk, xi (48 : Int32)]) _
  refine XS.isub X0.here hx rfl (hb hby at_32) rfl ?_
  show own_S p e below T0 (mkF m 33 #[vi p1, vi p2, vi p3, vi p4, vi p5, vi p6, vi kk, vu, vu, vu, vu, vu, vu, vu, vu, vu, vu, vu, vu, vu, vu, vu] [xi (kk - (26 : Int32)), xi (48 : Int32)]) _
  show own_S p e below T0 (mkF m 33 #[vi p1, vi p2, vi p3, vi p4, vi p5, vi p6, vi kk, vu, vu, vu, vu, vu, vu, vu, vu, vu, vu, vu, vu, vu, vu, vu] [xi (kk - (26 : Int32)), xi (48 : Int32)]) _
  refine XS.iadd X0.here hx rfl (hb hby at_33) rfl ?_
  show own_S p e below T0 (mkF m 34 #[vi p1, vi p2, vi p3, vi p4, vi p5, vi p6, vi kk, vu, vu, vu, vu, vu, vu, vu, vu, vu, vu, vu, vu, vu, vu, vu] [xi ((48 : Int32) + (kk - (26 : Int32)))]) _
  show own_S p e below T0 (mkF m 34 #[vi p1, vi p2, vi p3, vi p4, vi p5, vi p6, vi kk, vu, vu, vu, vu, vu, vu, vu, vu, vu, vu, vu, vu, vu, vu, vu] [xi ((48 : Int32) + (kk - (26 : Int32)))]) _
  refine XS.i2c X0.here hx rfl (hb hby at_34) rfl ?_
  show own_S p e below T0 (mkF m 35 #[vi p1, vi p2, vi p3, vi p4, vi p5, vi p6, vi kk, vu, vu, vu, vu, vu, vu, vu, vu, vu, vu, vu, vu, vu, vu, vu] [xi (((48 : Int32) + (kk - (26 : Int32))).toUInt32.toUInt16.toUInt32.toInt32)]) _
  refine castTop (show (mkF m 35 #[vi p1, vi p2, vi p3, vi p4, vi p5, vi p6, vi kk, vu, vu, vu, vu, vu, vu, vu, vu, vu, vu, vu, vu, vu, vu, vu] [xi (((48 : Int32) + (kk - (26 : Int32))).toUInt32.toUInt16.toUInt32.toInt32)]) = (mkF m 35 #[vi p1, vi p2, vi p3, vi p4, vi p5, vi p6, vi kk, vu, vu, vu, vu, vu, vu, vu, vu, vu, vu, vu, vu, vu, vu, vu] [xi bb]) from by rw [as321]) ?_
  refine XS.istore X0.here hx rfl (hb hby at_35) rfl (l' := #[vi p1, vi p2, vi p3, vi p4, vi p5, vi p6, vi kk, vi bb, vu, vu, vu, vu, vu, vu, vu, vu, vu, vu, vu, vu, vu, vu]) rfl ?_
  refine XS.iloadN X0.here hx rfl (hb hby at_37) rfl ?_
  show own_S p e below T0 (mkF m 38 #[vi p1, vi p2, vi p3, vi p4, vi p5, vi p6, vi kk, vi bb, vu, vu, vu, vu, vu, vu, vu, vu, vu, vu, vu, vu, vu, vu] [xi p3]) _
  refine X0.ldcI hx hown (mvT hZ (ww hw 1 rfl)) (g := (mkF m 38 #[vi p1, vi p2, vi p3, vi p4, vi p5, vi p6, vi kk, vi bb, vu, vu, vu, vu, vu, vu, vu, vu, vu, vu, vu, vu, vu, vu] [xi p3])) rfl (hb hby at_38) ?_
  show own_S p e below T0 (mkF m 40 #[vi p1, vi p2, vi p3, vi p4, vi p5, vi p6, vi kk, vi bb, vu, vu, vu, vu, vu, vu, vu, vu, vu, vu, vu, vu, vu, vu] [xi (65535 : Int32), xi p3]) _
  refine XS.iand X0.here hx rfl (hb hby at_40) rfl ?_
  show own_S p e below T0 (mkF m 41 #[vi p1, vi p2, vi p3, vi p4, vi p5, vi p6, vi kk, vi bb, vu, vu, vu, vu, vu, vu, vu, vu, vu, vu, vu, vu, vu, vu] [xi (p3 &&& (65535 : Int32))]) _
  show own_S p e below T0 (mkF m 41 #[vi p1, vi p2, vi p3, vi p4, vi p5, vi p6, vi kk, vi bb, vu, vu, vu, vu, vu, vu, vu, vu, vu, vu, vu, vu, vu, vu] [xi (p3 &&& (65535 : Int32))]) _
  refine XS.i2c X0.here hx rfl (hb hby at_41) rfl ?_
  show own_S p e below T0 (mkF m 42 #[vi p1, vi p2, vi p3, vi p4, vi p5, vi p6, vi kk, vi bb, vu, vu, vu, vu, vu, vu, vu, vu, vu, vu, vu, vu, vu, vu] [xi ((p3 &&& (65535 : Int32)).toUInt32.toUInt16.toUInt32.toInt32)]) _
  refine castTop (show (mkF m 42 #[vi p1, vi p2, vi p3, vi p4, vi p5, vi p6, vi kk, vi bb, vu, vu, vu, vu, vu, vu, vu, vu, vu, vu, vu, vu, vu, vu] [xi ((p3 &&& (65535 : Int32)).toUInt32.toUInt16.toUInt32.toInt32)]) = (mkF m 42 #[vi p1, vi p2, vi p3, vi p4, vi p5, vi p6, vi kk, vi bb, vu, vu, vu, vu, vu, vu, vu, vu, vu, vu, vu, vu, vu, vu] [xi x1]) from by rw [as48]) ?_
  refine XS.istore X0.here hx rfl (hb hby at_42) rfl (l' := #[vi p1, vi p2, vi p3, vi p4, vi p5, vi p6, vi kk, vi bb, vi x1, vu, vu, vu, vu, vu, vu, vu, vu, vu, vu, vu, vu, vu]) rfl ?_
  refine XS.iload X0.here hx rfl (hb hby at_44) rfl ?_
  show own_S p e below T0 (mkF m 46 #[vi p1, vi p2, vi p3, vi p4, vi p5, vi p6, vi kk, vi bb, vi x1, vu, vu, vu, vu, vu, vu, vu, vu, vu, vu, vu, vu, vu] [xi p5]) _
  refine X0.ldcI hx hown (mvT hZ (ww hw 1 rfl)) (g := (mkF m 46 #[vi p1, vi p2, vi p3, vi p4, vi p5, vi p6, vi kk, vi bb, vi x1, vu, vu, vu, vu, vu, vu, vu, vu, vu, vu, vu, vu, vu] [xi p5])) rfl (hb hby at_46) ?_
  show own_S p e below T0 (mkF m 48 #[vi p1, vi p2, vi p3, vi p4, vi p5, vi p6, vi kk, vi bb, vi x1, vu, vu, vu, vu, vu, vu, vu, vu, vu, vu, vu, vu, vu] [xi (65535 : Int32), xi p5]) _
  refine XS.iand X0.here hx rfl (hb hby at_48) rfl ?_
  show own_S p e below T0 (mkF m 49 #[vi p1, vi p2, vi p3, vi p4, vi p5, vi p6, vi kk, vi bb, vi x1, vu, vu, vu, vu, vu, vu, vu, vu, vu, vu, vu, vu, vu] [xi (p5 &&& (65535 : Int32))]) _
  show own_S p e below T0 (mkF m 49 #[vi p1, vi p2, vi p3, vi p4, vi p5, vi p6, vi kk, vi bb, vi x1, vu, vu, vu, vu, vu, vu, vu, vu, vu, vu, vu, vu, vu] [xi (p5 &&& (65535 : Int32))]) _
  refine XS.i2c X0.here hx rfl (hb hby at_49) rfl ?_
  show own_S p e below T0 (mkF m 50 #[vi p1, vi p2, vi p3, vi p4, vi p5, vi p6, vi kk, vi bb, vi x1, vu, vu, vu, vu, vu, vu, vu, vu, vu, vu, vu, vu, vu] [xi ((p5 &&& (65535 : Int32)).toUInt32.toUInt16.toUInt32.toInt32)]) _
  refine castTop (show (mkF m 50 #[vi p1, vi p2, vi p3, vi p4, vi p5, vi p6, vi kk, vi bb, vi x1, vu, vu, vu, vu, vu, vu, vu, vu, vu, vu, vu, vu, vu] [xi ((p5 &&& (65535 : Int32)).toUInt32.toUInt16.toUInt32.toInt32)]) = (mkF m 50 #[vi p1, vi p2, vi p3, vi p4, vi p5, vi p6, vi kk, vi bb, vi x1, vu, vu, vu, vu, vu, vu, vu, vu, vu, vu, vu, vu, vu] [xi x2]) from by rw [as49]) ?_
  refine XS.istore X0.here hx rfl (hb hby at_50) rfl (l' := #[vi p1, vi p2, vi p3, vi p4, vi p5, vi p6, vi kk, vi bb, vi x1, vi x2, vu, vu, vu, vu, vu, vu, vu, vu, vu, vu, vu, vu]) rfl ?_
  refine XS.iloadN X0.here hx rfl (hb hby at_52) rfl ?_
  refine XS.bipush X0.here hx rfl (hb hby at_53) ?_
  show own_S p e below T0 (mkF m 55 #[vi p1, vi p2, vi p3, vi p4, vi p5, vi p6, vi kk, vi bb, vi x1, vi x2, vu, vu, vu, vu, vu, vu, vu, vu, vu, vu, vu, vu] [xi (7 : Int32), xi p1]) _
  refine XS.iand X0.here hx rfl (hb hby at_55) rfl ?_
  show own_S p e below T0 (mkF m 56 #[vi p1, vi p2, vi p3, vi p4, vi p5, vi p6, vi kk, vi bb, vi x1, vi x2, vu, vu, vu, vu, vu, vu, vu, vu, vu, vu, vu, vu] [xi (p1 &&& (7 : Int32))]) _
  refine XS.istore X0.here hx rfl (hb hby at_56) rfl (l' := #[vi p1, vi p2, vi p3, vi p4, vi p5, vi p6, vi kk, vi bb, vi x1, vi x2, vi (p1 &&& (7 : Int32)), vu, vu, vu, vu, vu, vu, vu, vu, vu, vu, vu]) rfl ?_
  refine XS.iload X0.here hx rfl (hb hby at_58) rfl ?_
  show own_S p e below T0 (mkF m 60 #[vi p1, vi p2, vi p3, vi p4, vi p5, vi p6, vi kk, vi bb, vi x1, vi x2, vi (p1 &&& (7 : Int32)), vu, vu, vu, vu, vu, vu, vu, vu, vu, vu, vu] [xi bb]) _
  refine st1 _ ?_
  refine XS.astore X1.here hx rfl (hb hby at_63) rfl rfl (l' := #[vi p1, vi p2, vi p3, vi p4, vi p5, vi p6, vi kk, vi bb, vi x1, vi x2, vi (p1 &&& (7 : Int32)), vr bf1, vu, vu, vu, vu, vu, vu, vu, vu, vu, vu]) rfl ?_
  refine XS.iload X1.here hx rfl (hb hby at_65) rfl ?_
  show own_S p e below T1 (mkF m 67 #[vi p1, vi p2, vi p3, vi p4, vi p5, vi p6, vi kk, vi bb, vi x1, vi x2, vi (p1 &&& (7 : Int32)), vr bf1, vu, vu, vu, vu, vu, vu, vu, vu, vu, vu] [xi bb]) _
  refine st2 _ ?_
  refine XS.astore X2.here hx rfl (hb hby at_70) rfl rfl (l' := #[vi p1, vi p2, vi p3, vi p4, vi p5, vi p6, vi kk, vi bb, vi x1, vi x2, vi (p1 &&& (7 : Int32)), vr bf1, vr bf2, vu, vu, vu, vu, vu, vu, vu, vu, vu]) rfl ?_
  refine XS.iload X2.here hx rfl (hb hby at_72) rfl ?_
  show own_S p e below T2 (mkF m 74 #[vi p1, vi p2, vi p3, vi p4, vi p5, vi p6, vi kk, vi bb, vi x1, vi x2, vi (p1 &&& (7 : Int32)), vr bf1, vr bf2, vu, vu, vu, vu, vu, vu, vu, vu, vu] [xi bb]) _
  refine st3 _ ?_
  refine XS.astore X3.here hx rfl (hb hby at_77) rfl rfl (l' := #[vi p1, vi p2, vi p3, vi p4, vi p5, vi p6, vi kk, vi bb, vi x1, vi x2, vi (p1 &&& (7 : Int32)), vr bf1, vr bf2, vr bf3, vu, vu, vu, vu, vu, vu, vu, vu]) rfl ?_
  refine XS.iloadN X3.here hx rfl (hb hby at_79) rfl ?_
  show own_S p e below T3 (mkF m 80 #[vi p1, vi p2, vi p3, vi p4, vi p5, vi p6, vi kk, vi bb, vi x1, vi x2, vi (p1 &&& (7 : Int32)), vr bf1, vr bf2, vr bf3, vu, vu, vu, vu, vu, vu, vu, vu] [xi p2]) _
  refine X3.ldcI hx hown (mvT hZ (ww hw 0 rfl)) (g := (mkF m 80 #[vi p1, vi p2, vi p3, vi p4, vi p5, vi p6, vi kk, vi bb, vi x1, vi x2, vi (p1 &&& (7 : Int32)), vr bf1, vr bf2, vr bf3, vu, vu, vu, vu, vu, vu, vu, vu] [xi p2])) rfl (hb hby at_80) ?_
  show own_S p e below T3 (mkF m 82 #[vi p1, vi p2, vi p3, vi p4, vi p5, vi p6, vi kk, vi bb, vi x1, vi x2, vi (p1 &&& (7 : Int32)), vr bf1, vr bf2, vr bf3, vu, vu, vu, vu, vu, vu, vu, vu] [xi (2147483647 : Int32), xi p2]) _
  refine XS.iand X3.here hx rfl (hb hby at_82) rfl ?_
  show own_S p e below T3 (mkF m 83 #[vi p1, vi p2, vi p3, vi p4, vi p5, vi p6, vi kk, vi bb, vi x1, vi x2, vi (p1 &&& (7 : Int32)), vr bf1, vr bf2, vr bf3, vu, vu, vu, vu, vu, vu, vu, vu] [xi (p2 &&& (2147483647 : Int32))]) _
  refine XS.bipush X3.here hx rfl (hb hby at_83) ?_
  show own_S p e below T3 (mkF m 85 #[vi p1, vi p2, vi p3, vi p4, vi p5, vi p6, vi kk, vi bb, vi x1, vi x2, vi (p1 &&& (7 : Int32)), vr bf1, vr bf2, vr bf3, vu, vu, vu, vu, vu, vu, vu, vu] [xi (44 : Int32), xi (p2 &&& (2147483647 : Int32))]) _
  refine XS.irem X3.here hx rfl (hb hby at_85) rfl (by decide) ?_
  show own_S p e below T3 (mkF m 86 #[vi p1, vi p2, vi p3, vi p4, vi p5, vi p6, vi kk, vi bb, vi x1, vi x2, vi (p1 &&& (7 : Int32)), vr bf1, vr bf2, vr bf3, vu, vu, vu, vu, vu, vu, vu, vu] [xi ((p2 &&& (2147483647 : Int32)) - ((p2 &&& (2147483647 : Int32)) / (44 : Int32)) * (44 : Int32))]) _
  refine castTop (show (mkF m 86 #[vi p1, vi p2, vi p3, vi p4, vi p5, vi p6, vi kk, vi bb, vi x1, vi x2, vi (p1 &&& (7 : Int32)), vr bf1, vr bf2, vr bf3, vu, vu, vu, vu, vu, vu, vu, vu] [xi ((p2 &&& (2147483647 : Int32)) - ((p2 &&& (2147483647 : Int32)) / (44 : Int32)) * (44 : Int32))]) = (mkF m 86 #[vi p1, vi p2, vi p3, vi p4, vi p5, vi p6, vi kk, vi bb, vi x1, vi x2, vi (p1 &&& (7 : Int32)), vr bf1, vr bf2, vr bf3, vu, vu, vu, vu, vu, vu, vu, vu] [xi (Int32.ofNat n1)]) from by rw [as94]) ?_
  refine XS.istore X3.here hx rfl (hb hby at_86) rfl (l' := #[vi p1, vi p2, vi p3, vi p4, vi p5, vi p6, vi kk, vi bb, vi x1, vi x2, vi (p1 &&& (7 : Int32)), vr bf1, vr bf2, vr bf3, vi (Int32.ofNat n1), vu, vu, vu, vu, vu, vu, vu]) rfl ?_
  refine XS.iloadN X3.here hx rfl (hb hby at_88) rfl ?_
  show own_S p e below T3 (mkF m 89 #[vi p1, vi p2, vi p3, vi p4, vi p5, vi p6, vi kk, vi bb, vi x1, vi x2, vi (p1 &&& (7 : Int32)), vr bf1, vr bf2, vr bf3, vi (Int32.ofNat n1), vu, vu, vu, vu, vu, vu, vu] [xi p4]) _
  refine X3.ldcI hx hown (mvT hZ (ww hw 0 rfl)) (g := (mkF m 89 #[vi p1, vi p2, vi p3, vi p4, vi p5, vi p6, vi kk, vi bb, vi x1, vi x2, vi (p1 &&& (7 : Int32)), vr bf1, vr bf2, vr bf3, vi (Int32.ofNat n1), vu, vu, vu, vu, vu, vu, vu] [xi p4])) rfl (hb hby at_89) ?_
  show own_S p e below T3 (mkF m 91 #[vi p1, vi p2, vi p3, vi p4, vi p5, vi p6, vi kk, vi bb, vi x1, vi x2, vi (p1 &&& (7 : Int32)), vr bf1, vr bf2, vr bf3, vi (Int32.ofNat n1), vu, vu, vu, vu, vu, vu, vu] [xi (2147483647 : Int32), xi p4]) _
  refine XS.iand X3.here hx rfl (hb hby at_91) rfl ?_
  show own_S p e below T3 (mkF m 92 #[vi p1, vi p2, vi p3, vi p4, vi p5, vi p6, vi kk, vi bb, vi x1, vi x2, vi (p1 &&& (7 : Int32)), vr bf1, vr bf2, vr bf3, vi (Int32.ofNat n1), vu, vu, vu, vu, vu, vu, vu] [xi (p4 &&& (2147483647 : Int32))]) _
  refine XS.bipush X3.here hx rfl (hb hby at_92) ?_
  show own_S p e below T3 (mkF m 94 #[vi p1, vi p2, vi p3, vi p4, vi p5, vi p6, vi kk, vi bb, vi x1, vi x2, vi (p1 &&& (7 : Int32)), vr bf1, vr bf2, vr bf3, vi (Int32.ofNat n1), vu, vu, vu, vu, vu, vu, vu] [xi (44 : Int32), xi (p4 &&& (2147483647 : Int32))]) _
  refine XS.irem X3.here hx rfl (hb hby at_94) rfl (by decide) ?_
  show own_S p e below T3 (mkF m 95 #[vi p1, vi p2, vi p3, vi p4, vi p5, vi p6, vi kk, vi bb, vi x1, vi x2, vi (p1 &&& (7 : Int32)), vr bf1, vr bf2, vr bf3, vi (Int32.ofNat n1), vu, vu, vu, vu, vu, vu, vu] [xi ((p4 &&& (2147483647 : Int32)) - ((p4 &&& (2147483647 : Int32)) / (44 : Int32)) * (44 : Int32))]) _
  refine castTop (show (mkF m 95 #[vi p1, vi p2, vi p3, vi p4, vi p5, vi p6, vi kk, vi bb, vi x1, vi x2, vi (p1 &&& (7 : Int32)), vr bf1, vr bf2, vr bf3, vi (Int32.ofNat n1), vu, vu, vu, vu, vu, vu, vu] [xi ((p4 &&& (2147483647 : Int32)) - ((p4 &&& (2147483647 : Int32)) / (44 : Int32)) * (44 : Int32))]) = (mkF m 95 #[vi p1, vi p2, vi p3, vi p4, vi p5, vi p6, vi kk, vi bb, vi x1, vi x2, vi (p1 &&& (7 : Int32)), vr bf1, vr bf2, vr bf3, vi (Int32.ofNat n1), vu, vu, vu, vu, vu, vu, vu] [xi (Int32.ofNat n2)]) from by rw [as139]) ?_
  refine XS.istore X3.here hx rfl (hb hby at_95) rfl (l' := #[vi p1, vi p2, vi p3, vi p4, vi p5, vi p6, vi kk, vi bb, vi x1, vi x2, vi (p1 &&& (7 : Int32)), vr bf1, vr bf2, vr bf3, vi (Int32.ofNat n1), vi (Int32.ofNat n2), vu, vu, vu, vu, vu, vu]) rfl ?_
  refine XS.iloadN X3.here hx rfl (hb hby at_97) rfl ?_
  show own_S p e below T3 (mkF m 98 #[vi p1, vi p2, vi p3, vi p4, vi p5, vi p6, vi kk, vi bb, vi x1, vi x2, vi (p1 &&& (7 : Int32)), vr bf1, vr bf2, vr bf3, vi (Int32.ofNat n1), vi (Int32.ofNat n2), vu, vu, vu, vu, vu, vu] [xi p2]) _
  refine X3.ldcI hx hown (mvT hZ (ww hw 0 rfl)) (g := (mkF m 98 #[vi p1, vi p2, vi p3, vi p4, vi p5, vi p6, vi kk, vi bb, vi x1, vi x2, vi (p1 &&& (7 : Int32)), vr bf1, vr bf2, vr bf3, vi (Int32.ofNat n1), vi (Int32.ofNat n2), vu, vu, vu, vu, vu, vu] [xi p2])) rfl (hb hby at_98) ?_
  show own_S p e below T3 (mkF m 100 #[vi p1, vi p2, vi p3, vi p4, vi p5, vi p6, vi kk, vi bb, vi x1, vi x2, vi (p1 &&& (7 : Int32)), vr bf1, vr bf2, vr bf3, vi (Int32.ofNat n1), vi (Int32.ofNat n2), vu, vu, vu, vu, vu, vu] [xi (2147483647 : Int32), xi p2]) _
  refine XS.iand X3.here hx rfl (hb hby at_100) rfl ?_
  show own_S p e below T3 (mkF m 101 #[vi p1, vi p2, vi p3, vi p4, vi p5, vi p6, vi kk, vi bb, vi x1, vi x2, vi (p1 &&& (7 : Int32)), vr bf1, vr bf2, vr bf3, vi (Int32.ofNat n1), vi (Int32.ofNat n2), vu, vu, vu, vu, vu, vu] [xi (p2 &&& (2147483647 : Int32))]) _
  refine XS.bipush X3.here hx rfl (hb hby at_101) ?_
  show own_S p e below T3 (mkF m 103 #[vi p1, vi p2, vi p3, vi p4, vi p5, vi p6, vi kk, vi bb, vi x1, vi x2, vi (p1 &&& (7 : Int32)), vr bf1, vr bf2, vr bf3, vi (Int32.ofNat n1), vi (Int32.ofNat n2), vu, vu, vu, vu, vu, vu] [xi (43 : Int32), xi (p2 &&& (2147483647 : Int32))]) _
  refine XS.irem X3.here hx rfl (hb hby at_103) rfl (by decide) ?_
  show own_S p e below T3 (mkF m 104 #[vi p1, vi p2, vi p3, vi p4, vi p5, vi p6, vi kk, vi bb, vi x1, vi x2, vi (p1 &&& (7 : Int32)), vr bf1, vr bf2, vr bf3, vi (Int32.ofNat n1), vi (Int32.ofNat n2), vu, vu, vu, vu, vu, vu] [xi ((p2 &&& (2147483647 : Int32)) - ((p2 &&& (2147483647 : Int32)) / (43 : Int32)) * (43 : Int32))]) _
  refine castTop (show (mkF m 104 #[vi p1, vi p2, vi p3, vi p4, vi p5, vi p6, vi kk, vi bb, vi x1, vi x2, vi (p1 &&& (7 : Int32)), vr bf1, vr bf2, vr bf3, vi (Int32.ofNat n1), vi (Int32.ofNat n2), vu, vu, vu, vu, vu, vu] [xi ((p2 &&& (2147483647 : Int32)) - ((p2 &&& (2147483647 : Int32)) / (43 : Int32)) * (43 : Int32))]) = (mkF m 104 #[vi p1, vi p2, vi p3, vi p4, vi p5, vi p6, vi kk, vi bb, vi x1, vi x2, vi (p1 &&& (7 : Int32)), vr bf1, vr bf2, vr bf3, vi (Int32.ofNat n1), vi (Int32.ofNat n2), vu, vu, vu, vu, vu, vu] [xi (Int32.ofNat m1)]) from by rw [as183]) ?_
  refine XS.istore X3.here hx rfl (hb hby at_104) rfl (l' := #[vi p1, vi p2, vi p3, vi p4, vi p5, vi p6, vi kk, vi bb, vi x1, vi x2, vi (p1 &&& (7 : Int32)), vr bf1, vr bf2, vr bf3, vi (Int32.ofNat n1), vi (Int32.ofNat n2), vi (Int32.ofNat m1), vu, vu, vu, vu, vu]) rfl ?_
  refine XS.iloadN X3.here hx rfl (hb hby at_106) rfl ?_
  show own_S p e below T3 (mkF m 107 #[vi p1, vi p2, vi p3, vi p4, vi p5, vi p6, vi kk, vi bb, vi x1, vi x2, vi (p1 &&& (7 : Int32)), vr bf1, vr bf2, vr bf3, vi (Int32.ofNat n1), vi (Int32.ofNat n2), vi (Int32.ofNat m1), vu, vu, vu, vu, vu] [xi p4]) _
  refine X3.ldcI hx hown (mvT hZ (ww hw 0 rfl)) (g := (mkF m 107 #[vi p1, vi p2, vi p3, vi p4, vi p5, vi p6, vi kk, vi bb, vi x1, vi x2, vi (p1 &&& (7 : Int32)), vr bf1, vr bf2, vr bf3, vi (Int32.ofNat n1), vi (Int32.ofNat n2), vi (Int32.ofNat m1), vu, vu, vu, vu, vu] [xi p4])) rfl (hb hby at_107) ?_
  show own_S p e below T3 (mkF m 109 #[vi p1, vi p2, vi p3, vi p4, vi p5, vi p6, vi kk, vi bb, vi x1, vi x2, vi (p1 &&& (7 : Int32)), vr bf1, vr bf2, vr bf3, vi (Int32.ofNat n1), vi (Int32.ofNat n2), vi (Int32.ofNat m1), vu, vu, vu, vu, vu] [xi (2147483647 : Int32), xi p4]) _
  refine XS.iand X3.here hx rfl (hb hby at_109) rfl ?_
  show own_S p e below T3 (mkF m 110 #[vi p1, vi p2, vi p3, vi p4, vi p5, vi p6, vi kk, vi bb, vi x1, vi x2, vi (p1 &&& (7 : Int32)), vr bf1, vr bf2, vr bf3, vi (Int32.ofNat n1), vi (Int32.ofNat n2), vi (Int32.ofNat m1), vu, vu, vu, vu, vu] [xi (p4 &&& (2147483647 : Int32))]) _
  refine XS.bipush X3.here hx rfl (hb hby at_110) ?_
  show own_S p e below T3 (mkF m 112 #[vi p1, vi p2, vi p3, vi p4, vi p5, vi p6, vi kk, vi bb, vi x1, vi x2, vi (p1 &&& (7 : Int32)), vr bf1, vr bf2, vr bf3, vi (Int32.ofNat n1), vi (Int32.ofNat n2), vi (Int32.ofNat m1), vu, vu, vu, vu, vu] [xi (43 : Int32), xi (p4 &&& (2147483647 : Int32))]) _
  refine XS.irem X3.here hx rfl (hb hby at_112) rfl (by decide) ?_
  show own_S p e below T3 (mkF m 113 #[vi p1, vi p2, vi p3, vi p4, vi p5, vi p6, vi kk, vi bb, vi x1, vi x2, vi (p1 &&& (7 : Int32)), vr bf1, vr bf2, vr bf3, vi (Int32.ofNat n1), vi (Int32.ofNat n2), vi (Int32.ofNat m1), vu, vu, vu, vu, vu] [xi ((p4 &&& (2147483647 : Int32)) - ((p4 &&& (2147483647 : Int32)) / (43 : Int32)) * (43 : Int32))]) _
  refine castTop (show (mkF m 113 #[vi p1, vi p2, vi p3, vi p4, vi p5, vi p6, vi kk, vi bb, vi x1, vi x2, vi (p1 &&& (7 : Int32)), vr bf1, vr bf2, vr bf3, vi (Int32.ofNat n1), vi (Int32.ofNat n2), vi (Int32.ofNat m1), vu, vu, vu, vu, vu] [xi ((p4 &&& (2147483647 : Int32)) - ((p4 &&& (2147483647 : Int32)) / (43 : Int32)) * (43 : Int32))]) = (mkF m 113 #[vi p1, vi p2, vi p3, vi p4, vi p5, vi p6, vi kk, vi bb, vi x1, vi x2, vi (p1 &&& (7 : Int32)), vr bf1, vr bf2, vr bf3, vi (Int32.ofNat n1), vi (Int32.ofNat n2), vi (Int32.ofNat m1), vu, vu, vu, vu, vu] [xi (Int32.ofNat m2)]) from by rw [as227]) ?_
  refine XS.istore X3.here hx rfl (hb hby at_113) rfl (l' := #[vi p1, vi p2, vi p3, vi p4, vi p5, vi p6, vi kk, vi bb, vi x1, vi x2, vi (p1 &&& (7 : Int32)), vr bf1, vr bf2, vr bf3, vi (Int32.ofNat n1), vi (Int32.ofNat n2), vi (Int32.ofNat m1), vi (Int32.ofNat m2), vu, vu, vu, vu]) rfl ?_
  refine XS.iloadN X3.here hx rfl (hb hby at_115) rfl ?_
  show own_S p e below T3 (mkF m 116 #[vi p1, vi p2, vi p3, vi p4, vi p5, vi p6, vi kk, vi bb, vi x1, vi x2, vi (p1 &&& (7 : Int32)), vr bf1, vr bf2, vr bf3, vi (Int32.ofNat n1), vi (Int32.ofNat n2), vi (Int32.ofNat m1), vi (Int32.ofNat m2), vu, vu, vu, vu] [xi p2]) _
  refine X3.ldcI hx hown (mvT hZ (ww hw 0 rfl)) (g := (mkF m 116 #[vi p1, vi p2, vi p3, vi p4, vi p5, vi p6, vi kk, vi bb, vi x1, vi x2, vi (p1 &&& (7 : Int32)), vr bf1, vr bf2, vr bf3, vi (Int32.ofNat n1), vi (Int32.ofNat n2), vi (Int32.ofNat m1), vi (Int32.ofNat m2), vu, vu, vu, vu] [xi p2])) rfl (hb hby at_116) ?_
  show own_S p e below T3 (mkF m 118 #[vi p1, vi p2, vi p3, vi p4, vi p5, vi p6, vi kk, vi bb, vi x1, vi x2, vi (p1 &&& (7 : Int32)), vr bf1, vr bf2, vr bf3, vi (Int32.ofNat n1), vi (Int32.ofNat n2), vi (Int32.ofNat m1), vi (Int32.ofNat m2), vu, vu, vu, vu] [xi (2147483647 : Int32), xi p2]) _
  refine XS.iand X3.here hx rfl (hb hby at_118) rfl ?_
  show own_S p e below T3 (mkF m 119 #[vi p1, vi p2, vi p3, vi p4, vi p5, vi p6, vi kk, vi bb, vi x1, vi x2, vi (p1 &&& (7 : Int32)), vr bf1, vr bf2, vr bf3, vi (Int32.ofNat n1), vi (Int32.ofNat n2), vi (Int32.ofNat m1), vi (Int32.ofNat m2), vu, vu, vu, vu] [xi (p2 &&& (2147483647 : Int32))]) _
  refine XS.bipush X3.here hx rfl (hb hby at_119) ?_
  show own_S p e below T3 (mkF m 121 #[vi p1, vi p2, vi p3, vi p4, vi p5, vi p6, vi kk, vi bb, vi x1, vi x2, vi (p1 &&& (7 : Int32)), vr bf1, vr bf2, vr bf3, vi (Int32.ofNat n1), vi (Int32.ofNat n2), vi (Int32.ofNat m1), vi (Int32.ofNat m2), vu, vu, vu, vu] [xi (45 : Int32), xi (p2 &&& (2147483647 : Int32))]) _
  refine XS.irem X3.here hx rfl (hb hby at_121) rfl (by decide) ?_
  show own_S p e below T3 (mkF m 122 #[vi p1, vi p2, vi p3, vi p4, vi p5, vi p6, vi kk, vi bb, vi x1, vi x2, vi (p1 &&& (7 : Int32)), vr bf1, vr bf2, vr bf3, vi (Int32.ofNat n1), vi (Int32.ofNat n2), vi (Int32.ofNat m1), vi (Int32.ofNat m2), vu, vu, vu, vu] [xi ((p2 &&& (2147483647 : Int32)) - ((p2 &&& (2147483647 : Int32)) / (45 : Int32)) * (45 : Int32))]) _
  refine castTop (show (mkF m 122 #[vi p1, vi p2, vi p3, vi p4, vi p5, vi p6, vi kk, vi bb, vi x1, vi x2, vi (p1 &&& (7 : Int32)), vr bf1, vr bf2, vr bf3, vi (Int32.ofNat n1), vi (Int32.ofNat n2), vi (Int32.ofNat m1), vi (Int32.ofNat m2), vu, vu, vu, vu] [xi ((p2 &&& (2147483647 : Int32)) - ((p2 &&& (2147483647 : Int32)) / (45 : Int32)) * (45 : Int32))]) = (mkF m 122 #[vi p1, vi p2, vi p3, vi p4, vi p5, vi p6, vi kk, vi bb, vi x1, vi x2, vi (p1 &&& (7 : Int32)), vr bf1, vr bf2, vr bf3, vi (Int32.ofNat n1), vi (Int32.ofNat n2), vi (Int32.ofNat m1), vi (Int32.ofNat m2), vu, vu, vu, vu] [xi (Int32.ofNat o1)]) from by rw [as273]) ?_
  refine XS.istore X3.here hx rfl (hb hby at_122) rfl (l' := #[vi p1, vi p2, vi p3, vi p4, vi p5, vi p6, vi kk, vi bb, vi x1, vi x2, vi (p1 &&& (7 : Int32)), vr bf1, vr bf2, vr bf3, vi (Int32.ofNat n1), vi (Int32.ofNat n2), vi (Int32.ofNat m1), vi (Int32.ofNat m2), vi (Int32.ofNat o1), vu, vu, vu]) rfl ?_
  refine XS.iloadN X3.here hx rfl (hb hby at_124) rfl ?_
  show own_S p e below T3 (mkF m 125 #[vi p1, vi p2, vi p3, vi p4, vi p5, vi p6, vi kk, vi bb, vi x1, vi x2, vi (p1 &&& (7 : Int32)), vr bf1, vr bf2, vr bf3, vi (Int32.ofNat n1), vi (Int32.ofNat n2), vi (Int32.ofNat m1), vi (Int32.ofNat m2), vi (Int32.ofNat o1), vu, vu, vu] [xi p4]) _
  refine X3.ldcI hx hown (mvT hZ (ww hw 0 rfl)) (g := (mkF m 125 #[vi p1, vi p2, vi p3, vi p4, vi p5, vi p6, vi kk, vi bb, vi x1, vi x2, vi (p1 &&& (7 : Int32)), vr bf1, vr bf2, vr bf3, vi (Int32.ofNat n1), vi (Int32.ofNat n2), vi (Int32.ofNat m1), vi (Int32.ofNat m2), vi (Int32.ofNat o1), vu, vu, vu] [xi p4])) rfl (hb hby at_125) ?_
  show own_S p e below T3 (mkF m 127 #[vi p1, vi p2, vi p3, vi p4, vi p5, vi p6, vi kk, vi bb, vi x1, vi x2, vi (p1 &&& (7 : Int32)), vr bf1, vr bf2, vr bf3, vi (Int32.ofNat n1), vi (Int32.ofNat n2), vi (Int32.ofNat m1), vi (Int32.ofNat m2), vi (Int32.ofNat o1), vu, vu, vu] [xi (2147483647 : Int32), xi p4]) _
  refine XS.iand X3.here hx rfl (hb hby at_127) rfl ?_
  show own_S p e below T3 (mkF m 128 #[vi p1, vi p2, vi p3, vi p4, vi p5, vi p6, vi kk, vi bb, vi x1, vi x2, vi (p1 &&& (7 : Int32)), vr bf1, vr bf2, vr bf3, vi (Int32.ofNat n1), vi (Int32.ofNat n2), vi (Int32.ofNat m1), vi (Int32.ofNat m2), vi (Int32.ofNat o1), vu, vu, vu] [xi (p4 &&& (2147483647 : Int32))]) _
  refine XS.bipush X3.here hx rfl (hb hby at_128) ?_
  show own_S p e below T3 (mkF m 130 #[vi p1, vi p2, vi p3, vi p4, vi p5, vi p6, vi kk, vi bb, vi x1, vi x2, vi (p1 &&& (7 : Int32)), vr bf1, vr bf2, vr bf3, vi (Int32.ofNat n1), vi (Int32.ofNat n2), vi (Int32.ofNat m1), vi (Int32.ofNat m2), vi (Int32.ofNat o1), vu, vu, vu] [xi (45 : Int32), xi (p4 &&& (2147483647 : Int32))]) _
  refine XS.irem X3.here hx rfl (hb hby at_130) rfl (by decide) ?_
  show own_S p e below T3 (mkF m 131 #[vi p1, vi p2, vi p3, vi p4, vi p5, vi p6, vi kk, vi bb, vi x1, vi x2, vi (p1 &&& (7 : Int32)), vr bf1, vr bf2, vr bf3, vi (Int32.ofNat n1), vi (Int32.ofNat n2), vi (Int32.ofNat m1), vi (Int32.ofNat m2), vi (Int32.ofNat o1), vu, vu, vu] [xi ((p4 &&& (2147483647 : Int32)) - ((p4 &&& (2147483647 : Int32)) / (45 : Int32)) * (45 : Int32))]) _
  refine castTop (show (mkF m 131 #[vi p1, vi p2, vi p3, vi p4, vi p5, vi p6, vi kk, vi bb, vi x1, vi x2, vi (p1 &&& (7 : Int32)), vr bf1, vr bf2, vr bf3, vi (Int32.ofNat n1), vi (Int32.ofNat n2), vi (Int32.ofNat m1), vi (Int32.ofNat m2), vi (Int32.ofNat o1), vu, vu, vu] [xi ((p4 &&& (2147483647 : Int32)) - ((p4 &&& (2147483647 : Int32)) / (45 : Int32)) * (45 : Int32))]) = (mkF m 131 #[vi p1, vi p2, vi p3, vi p4, vi p5, vi p6, vi kk, vi bb, vi x1, vi x2, vi (p1 &&& (7 : Int32)), vr bf1, vr bf2, vr bf3, vi (Int32.ofNat n1), vi (Int32.ofNat n2), vi (Int32.ofNat m1), vi (Int32.ofNat m2), vi (Int32.ofNat o1), vu, vu, vu] [xi (Int32.ofNat o2)]) from by rw [as319]) ?_
  refine XS.istore X3.here hx rfl (hb hby at_131) rfl (l' := #[vi p1, vi p2, vi p3, vi p4, vi p5, vi p6, vi kk, vi bb, vi x1, vi x2, vi (p1 &&& (7 : Int32)), vr bf1, vr bf2, vr bf3, vi (Int32.ofNat n1), vi (Int32.ofNat n2), vi (Int32.ofNat m1), vi (Int32.ofNat m2), vi (Int32.ofNat o1), vi (Int32.ofNat o2), vu, vu]) rfl ?_
  refine XS.aload X3.here hx rfl (hb hby at_133) rfl rfl ?_
  refine XS.iload X3.here hx rfl (hb hby at_135) rfl ?_
  show own_S p e below T3 (mkF m 137 #[vi p1, vi p2, vi p3, vi p4, vi p5, vi p6, vi kk, vi bb, vi x1, vi x2, vi (p1 &&& (7 : Int32)), vr bf1, vr bf2, vr bf3, vi (Int32.ofNat n1), vi (Int32.ofNat n2), vi (Int32.ofNat m1), vi (Int32.ofNat m2), vi (Int32.ofNat o1), vi (Int32.ofNat o2), vu, vu] [xi (Int32.ofNat n1), xr bf2]) _
  refine XS.iload X3.here hx rfl (hb hby at_137) rfl ?_
  show own_S p e below T3 (mkF m 139 #[vi p1, vi p2, vi p3, vi p4, vi p5, vi p6, vi kk, vi bb, vi x1, vi x2, vi (p1 &&& (7 : Int32)), vr bf1, vr bf2, vr bf3, vi (Int32.ofNat n1), vi (Int32.ofNat n2), vi (Int32.ofNat m1), vi (Int32.ofNat m2), vi (Int32.ofNat o1), vi (Int32.ofNat o2), vu, vu] [xi x1, xi (Int32.ofNat n1), xr bf2]) _
  refine st5 _ ?_
  refine XS.aload X5.here hx rfl (hb hby at_140) rfl rfl ?_
  refine XS.iload X5.here hx rfl (hb hby at_142) rfl ?_
  refine XS.iload X5.here hx rfl (hb hby at_144) rfl ?_
  show own_S p e below T5 (mkF m 146 #[vi p1, vi p2, vi p3, vi p4, vi p5, vi p6, vi kk, vi bb, vi x1, vi x2, vi (p1 &&& (7 : Int32)), vr bf1, vr bf2, vr bf3, vi (Int32.ofNat n1), vi (Int32.ofNat n2), vi (Int32.ofNat m1), vi (Int32.ofNat m2), vi (Int32.ofNat o1), vi (Int32.ofNat o2), vu, vu] [xi x2, xi (Int32.ofNat n2), xr bf2]) _
  refine st7 _ ?_
  refine XS.aload X7.here hx rfl (hb hby at_147) rfl rfl ?_
  refine XS.iload X7.here hx rfl (hb hby at_149) rfl ?_
  refine XS.iload X7.here hx rfl (hb hby at_151) rfl ?_
  show own_S p e below T7 (mkF m 153 #[vi p1, vi p2, vi p3, vi p4, vi p5, vi p6, vi kk, vi bb, vi x1, vi x2, vi (p1 &&& (7 : Int32)), vr bf1, vr bf2, vr bf3, vi (Int32.ofNat n1), vi (Int32.ofNat n2), vi (Int32.ofNat m1), vi (Int32.ofNat m2), vi (Int32.ofNat o1), vi (Int32.ofNat o2), vu, vu] [xi x1, xi (Int32.ofNat m1), xr bf1]) _
  refine st9 _ ?_
  refine XS.aload X9.here hx rfl (hb hby at_154) rfl rfl ?_
  refine XS.iload X9.here hx rfl (hb hby at_156) rfl ?_
  refine XS.iload X9.here hx rfl (hb hby at_158) rfl ?_
  show own_S p e below T9 (mkF m 160 #[vi p1, vi p2, vi p3, vi p4, vi p5, vi p6, vi kk, vi bb, vi x1, vi x2, vi (p1 &&& (7 : Int32)), vr bf1, vr bf2, vr bf3, vi (Int32.ofNat n1), vi (Int32.ofNat n2), vi (Int32.ofNat m1), vi (Int32.ofNat m2), vi (Int32.ofNat o1), vi (Int32.ofNat o2), vu, vu] [xi x2, xi (Int32.ofNat m2), xr bf1]) _
  refine st11 _ ?_
  refine XS.aload X11.here hx rfl (hb hby at_161) rfl rfl ?_
  refine XS.iload X11.here hx rfl (hb hby at_163) rfl ?_
  refine XS.iload X11.here hx rfl (hb hby at_165) rfl ?_
  show own_S p e below T11 (mkF m 167 #[vi p1, vi p2, vi p3, vi p4, vi p5, vi p6, vi kk, vi bb, vi x1, vi x2, vi (p1 &&& (7 : Int32)), vr bf1, vr bf2, vr bf3, vi (Int32.ofNat n1), vi (Int32.ofNat n2), vi (Int32.ofNat m1), vi (Int32.ofNat m2), vi (Int32.ofNat o1), vi (Int32.ofNat o2), vu, vu] [xi x1, xi (Int32.ofNat o1), xr bf3]) _
  refine st13 _ ?_
  refine XS.aload X13.here hx rfl (hb hby at_168) rfl rfl ?_
  refine XS.iload X13.here hx rfl (hb hby at_170) rfl ?_
  refine XS.iload X13.here hx rfl (hb hby at_172) rfl ?_
  show own_S p e below T13 (mkF m 174 #[vi p1, vi p2, vi p3, vi p4, vi p5, vi p6, vi kk, vi bb, vi x1, vi x2, vi (p1 &&& (7 : Int32)), vr bf1, vr bf2, vr bf3, vi (Int32.ofNat n1), vi (Int32.ofNat n2), vi (Int32.ofNat m1), vi (Int32.ofNat m2), vi (Int32.ofNat o1), vi (Int32.ofNat o2), vu, vu] [xi x2, xi (Int32.ofNat o2), xr bf3]) _
  refine st15 _ ?_
  exact st
theorem own_pre {p : Program} {l : Launch} {e : Env} {s : State} {m : MethodId} {args : Array Value} {below : List Frame} {meth : Method} {c : Code} {T0 : State} {locs : List Loc} {Z : State} {a0 : Array Value} (hw : ∀ d ∈ tables_1, d.before a0 Z = true) (hj : ∀ d ∈ jdkStatics_1, d.before a0 Z = true)  (ki0 : Int32) (vf0 : Value) (G : own_St Z hj ki0 vf0) (p1 : Int32) (p2 : Int32) (p3 : Int32) (p4 : Int32) (p5 : Int32) (p6 : Int32) (kk : Int32) (bb : Int32) (x1 : Int32) (x2 : Int32) (n1 : Nat) (n2 : Nat) (m1 : Nat) (m2 : Nat) (o1 : Nat) (o2 : Nat) (as47 : ((p6 &&& (2147483647 : Int32)) - ((p6 &&& (2147483647 : Int32)) / (36 : Int32)) * (36 : Int32)) = kk) (hcase : ((if_icmp.holds .ge kk (26 : Int32) = false) ∧ ((((97 : Int32) + kk).toUInt32.toUInt16.toUInt32.toInt32) = bb)) ∨ ((if_icmp.holds .ge kk (26 : Int32) = true) ∧ ((((48 : Int32) + (kk - (26 : Int32))).toUInt32.toUInt16.toUInt32.toInt32) = bb))) (as48 : ((p3 &&& (65535 : Int32)).toUInt32.toUInt16.toUInt32.toInt32) = x1) (as49 : ((p5 &&& (65535 : Int32)).toUInt32.toUInt16.toUInt32.toInt32) = x2) (as94 : ((p2 &&& (2147483647 : Int32)) - ((p2 &&& (2147483647 : Int32)) / (44 : Int32)) * (44 : Int32)) = (Int32.ofNat n1)) (as139 : ((p4 &&& (2147483647 : Int32)) - ((p4 &&& (2147483647 : Int32)) / (44 : Int32)) * (44 : Int32)) = (Int32.ofNat n2)) (as183 : ((p2 &&& (2147483647 : Int32)) - ((p2 &&& (2147483647 : Int32)) / (43 : Int32)) * (43 : Int32)) = (Int32.ofNat m1)) (as227 : ((p4 &&& (2147483647 : Int32)) - ((p4 &&& (2147483647 : Int32)) / (43 : Int32)) * (43 : Int32)) = (Int32.ofNat m2)) (as273 : ((p2 &&& (2147483647 : Int32)) - ((p2 &&& (2147483647 : Int32)) / (45 : Int32)) * (45 : Int32)) = (Int32.ofNat o1)) (as319 : ((p4 &&& (2147483647 : Int32)) - ((p4 &&& (2147483647 : Int32)) / (45 : Int32)) * (45 : Int32)) = (Int32.ofNat o2)) (hx : p.tables.exec = Jvm.exec) (hZ : Z.Warmed39 s.vm) (hby : c.code = code) (hml : c.maxLocals = 22) (hown : s.vm.findClass "com/example/scopelock/scopelock/KeyWellFormedPinLaw" = some m.cls) {h0 : Heap} {n0 : Nat} (X0 : Stand p l e ({ frames := 9, cells := 24, slots := 2688, locals := 208 } : Room) s m args below meth c T0 locs 0 0) (e0 : T0.heap = h0) (N0 : Fr n0 locs) (O0 : Old Z n0 h0) (hn1 : n1 < 44) (hn2 : n2 < 44) (hm1 : m1 < 43) (hm2 : m2 < 43) (ho1 : o1 < 45) (ho2 : o2 < 45) :
    ∃ (T1 : State) (L1 : List Loc) (h1 : Heap) (a43 : Addr) (a44 : Addr) (a45 : Addr) (k43 : ClassId) (k44 : ClassId) (k45 : ClassId), Stand p l e ({ frames := 9, cells := 24, slots := 2688, locals := 208 } : Room) s m args below meth c T1 L1 3 132 ∧ T1.heap = h1 ∧ Fr n0 L1 ∧ Old Z n0 h1 ∧ (Arv Z h1 a43 k43 .char (Int32.ofNat 43) (own_vs (own_fn bb x1 x2 m1 m2) 43) (.int (0 : Int32)) ∧ Arv Z h1 a44 k44 .char (Int32.ofNat 44) (own_vs (own_fn bb x1 x2 n1 n2) 44) (.int (0 : Int32)) ∧ Arv Z h1 a45 k45 .char (Int32.ofNat 45) (own_vs (own_fn bb x1 x2 o1 o2) 45) (.int (0 : Int32)) ∧ Keep h0 h1 []) ∧ ∀ t, Steps p.tables e below (T1.setTop (mkF m 175 #[vi p1, vi p2, vi p3, vi p4, vi p5, vi p6, vi kk, vi bb, vi x1, vi x2, vi (p1 &&& (7 : Int32)), vr a43, vr a44, vr a45, vi (Int32.ofNat n1), vi (Int32.ofNat n2), vi (Int32.ofNat m1), vi (Int32.ofNat m2), vi (Int32.ofNat o1), vi (Int32.ofNat o2), vu, vu] [])) t → Steps p.tables e below (T0.setTop (mkF m 0 #[vi p1, vi p2, vi p3, vi p4, vi p5, vi p6, vu, vu, vu, vu, vu, vu, vu, vu, vu, vu, vu, vu, vu, vu, vu, vu] [])) t := by
  rcases hcase with ⟨hA, hB⟩ | ⟨hA, hB⟩
  · exact own_pre0 hw hj ki0 vf0 G p1 p2 p3 p4 p5 p6 kk bb x1 x2 n1 n2 m1 m2 o1 o2 as47 hA hB as48 as49 as94 as139 as183 as227 as273 as319 hx hZ hby hml hown X0 e0 N0 O0 hn1 hn2 hm1 hm2 ho1 ho2
  · exact own_pre1 hw hj ki0 vf0 G p1 p2 p3 p4 p5 p6 kk bb x1 x2 n1 n2 m1 m2 o1 o2 as47 hA hB as48 as49 as94 as139 as183 as227 as273 as319 hx hZ hby hml hown X0 e0 N0 O0 hn1 hn2 hm1 hm2 ho1 ho2
theorem pd20 : parseMethodDescriptor "([C)V" = some ⟨[(.array .char)], none⟩ := by decide +kernel
theorem pd21 : parseMethodDescriptor "(C)Z" = some ⟨[.char], some .boolean⟩ := by decide +kernel
theorem pd22 : parseMethodDescriptor "(Ljava/lang/String;)Z" = some ⟨[(.object "java/lang/String")], some .boolean⟩ := by decide +kernel
theorem ef_own_law3_0tt (m : MethodId)  (ki0 : Int32) (vf0 : Value) (p1 : Int32) (p2 : Int32) (p3 : Int32) (p4 : Int32) (p5 : Int32) (p6 : Int32) (kk : Int32) (bb : Int32) (x1 : Int32) (x2 : Int32) (n1 : Nat) (n2 : Nat) (m1 : Nat) (m2 : Nat) (o1 : Nat) (o2 : Nat) : entryFrame m #[xi p1, xi p2, xi p3, xi p4, xi p5, xi p6] maxLocals = (mkF m 0 #[vi p1, vi p2, vi p3, vi p4, vi p5, vi p6, vu, vu, vu, vu, vu, vu, vu, vu, vu, vu, vu, vu, vu, vu, vu, vu] []) := by first | (simp [entryFrame, mkF, argsToLocals, Value.category, maxLocals]; done) | rfl
set_option maxRecDepth 65536 in
set_option maxHeartbeats 40000000 in
theorem own_law3_0tt (l : Launch) (Z : State) (a0 : Array Value) (hw : ∀ d ∈ tables_1, d.before a0 Z = true) (hj : ∀ d ∈ jdkStatics_1, d.before a0 Z = true)  (ki0 : Int32) (vf0 : Value) (G : own_St Z hj ki0 vf0) (p1 : Int32) (p2 : Int32) (p3 : Int32) (p4 : Int32) (p5 : Int32) (p6 : Int32) (kk : Int32) (bb : Int32) (x1 : Int32) (x2 : Int32) (n1 : Nat) (n2 : Nat) (m1 : Nat) (m2 : Nat) (o1 : Nat) (o2 : Nat) (as324 : if_icmp.holds .gt (p1 &&& (7 : Int32)) (3 : Int32) = false) (h0 : Heap) (n0 : Nat) (O0 : Old Z n0 h0) (hcase : ((if_icmp.holds .ge kk (26 : Int32) = false) ∧ ((((97 : Int32) + kk).toUInt32.toUInt16.toUInt32.toInt32) = bb)) ∨ ((if_icmp.holds .ge kk (26 : Int32) = true) ∧ ((((48 : Int32) + (kk - (26 : Int32))).toUInt32.toUInt16.toUInt32.toInt32) = bb))) (as47 : ((p6 &&& (2147483647 : Int32)) - ((p6 &&& (2147483647 : Int32)) / (36 : Int32)) * (36 : Int32)) = kk) (as48 : ((p3 &&& (65535 : Int32)).toUInt32.toUInt16.toUInt32.toInt32) = x1) (as49 : ((p5 &&& (65535 : Int32)).toUInt32.toUInt16.toUInt32.toInt32) = x2) (as94 : ((p2 &&& (2147483647 : Int32)) - ((p2 &&& (2147483647 : Int32)) / (44 : Int32)) * (44 : Int32)) = (Int32.ofNat n1)) (as139 : ((p4 &&& (2147483647 : Int32)) - ((p4 &&& (2147483647 : Int32)) / (44 : Int32)) * (44 : Int32)) = (Int32.ofNat n2)) (as183 : ((p2 &&& (2147483647 : Int32)) - ((p2 &&& (2147483647 : Int32)) / (43 : Int32)) * (43 : Int32)) = (Int32.ofNat m1)) (as227 : ((p4 &&& (2147483647 : Int32)) - ((p4 &&& (2147483647 : Int32)) / (43 : Int32)) * (43 : Int32)) = (Int32.ofNat m2)) (as273 : ((p2 &&& (2147483647 : Int32)) - ((p2 &&& (2147483647 : Int32)) / (45 : Int32)) * (45 : Int32)) = (Int32.ofNat o1)) (as319 : ((p4 &&& (2147483647 : Int32)) - ((p4 &&& (2147483647 : Int32)) / (45 : Int32)) * (45 : Int32)) = (Int32.ofNat o2)) (hn1 : n1 < 44) (hn2 : n2 < 44) (hm1 : m1 < 43) (hm2 : m2 < 43) (ho1 : o1 < 45) (ho2 : o2 < 45) (hall : ∀ j, j < 44 → if_icmp.holds .le ((own_fn bb x1 x2 n1 n2) j) (255 : Int32) = true) (he1 : ifCond.holds .eq (own_vd ((own_fn bb x1 x2 n1 n2) n1)) = false) (he2 : ifCond.holds .eq (own_vd ((own_fn bb x1 x2 n1 n2) n2)) = false) (hWF : ∀ (sa b : Addr) (kd : ClassId) (h : Heap), Old Z n0 h → own_SS Z h sa b kd 44 (0 : Int32) (own_lat (own_fn bb x1 x2 n1 n2)) → own_MetW l Z Y28 prog_12_method_2_code 2 (some .boolean) ({ frames := 6, cells := 2, slots := 148, locals := 100 } : Room) #[xr sa] h (own_QL (some (xi (1 : Int32))) n0)) : own_MetW l Z x code maxLocals ret room_1 #[xi p1, xi p2, xi p3, xi p4, xi p5, xi p6] h0 (own_QL (some (xi (1 : Int32))) n0) := by
  intro ws
  refine MetFree.of_bodySF (plainFor_of_name pn2) hisR ?_
  intro p e s m args below meth c s₁ Bd hml0 hP hK
  obtain ⟨rfl, hZ, hh, hCH⟩ := hP
  have hx := Bd.exec
  have hby := Bd.bytes
  have hml : c.maxLocals = 22 := hml0
  have hown : s.vm.findClass "com/example/scopelock/scopelock/KeyWellFormedPinLaw" = some m.cls := findClass_of_methodNamed Bd.named
  have hnm := (name_of_methodNamed Bd.named Bd.method).1
  have X0 : Stand p l e room_1 s m #[xi p1, xi p2, xi p3, xi p4, xi p5, xi p6] below meth c s₁ [] 0 0 := Stand.of_body Bd
  have e0 : s₁.heap = h0 := by rw [← hh, Bd.state]; rfl
  have N0 := Fr.nil n0
  have pre0 : ∀ t, Steps p.tables e below (s₁.setTop (mkF m 0 #[vi p1, vi p2, vi p3, vi p4, vi p5, vi p6, vu, vu, vu, vu, vu, vu, vu, vu, vu, vu, vu, vu, vu, vu, vu, vu] [])) t → Steps p.tables e below (s₁.setTop (entryFrame m #[xi p1, xi p2, xi p3, xi p4, xi p5, xi p6] maxLocals)) t := fun t st => castTop (ef_own_law3_0tt m ki0 vf0 p1 p2 p3 p4 p5 p6 kk bb x1 x2 n1 n2 m1 m2 o1 o2) st
  obtain ⟨TP, LP, hPP, a43, a44, a45, k43, k44, k45, XP, eP, NP, OP, ⟨V43, V44, V45, KP⟩, stP⟩ := own_pre hw hj ki0 vf0 G p1 p2 p3 p4 p5 p6 kk bb x1 x2 n1 n2 m1 m2 o1 o2 as47 hcase as48 as49 as94 as139 as183 as227 as273 as319 hx hZ hby hml hown X0 e0 N0 O0 hn1 hn2 hm1 hm2 ho1 ho2
  obtain ⟨T1, h1, X1, e1, E1, A1, D1, -, st1⟩ := newO XP hx hZ hown (ww hw 13 rfl) (ww hw 14 rfl) (ww hw 15 rfl) eP (g := (mkF m 181 #[vi p1, vi p2, vi p3, vi p4, vi p5, vi p6, vi kk, vi bb, vi x1, vi x2, vi (p1 &&& (7 : Int32)), vr a43, vr a44, vr a45, vi (Int32.ofNat n1), vi (Int32.ofNat n2), vi (Int32.ofNat m1), vi (Int32.ofNat m2), vi (Int32.ofNat o1), vi (Int32.ofNat o2), vu, vu] [])) rfl (hb hby at_181) (by decide) (by decide)
  obtain ⟨b1, g1⟩ : ∃ z, z = hPP.size := ⟨_, rfl⟩
  rw [← g1] at A1 D1 st1
  have g_b1 : n0 ≤ b1 := own_fresh OP g1
  have ne_a43_b1 : a43 ≠ b1 := Nat.ne_of_lt (Nat.lt_of_lt_of_le (V43).lt (Nat.le_of_eq g1.symm))
  have ne_a44_b1 : a44 ≠ b1 := Nat.ne_of_lt (Nat.lt_of_lt_of_le (V44).lt (Nat.le_of_eq g1.symm))
  have ne_a45_b1 : a45 ≠ b1 := Nat.ne_of_lt (Nat.lt_of_lt_of_le (V45).lt (Nat.le_of_eq g1.symm))
  have sz_b1 : h0.size ≤ b1 := Nat.le_trans KP.1 (Nat.le_of_eq g1.symm)
  have O1 := OP.ext E1
  have Kp1 := KP.ext E1
  have V_a43_1 := V43.ext E1
  have V_a44_1 := V44.ext E1
  have V_a45_1 := V45.ext E1
  have F_b1_coder : Fld Z h1 b1 "java/lang/String" "coder" "B" (xi (0 : Int32)) := D1 (Or.inr (ww hw 39 rfl)) (ty := .byte) (by decide)
  have F_b1_value : Fld Z h1 b1 "java/lang/String" "value" "[B" .null := D1 (Or.inr (ww hw 41 rfl)) (ty := (.array .byte)) (by decide)
  obtain ⟨_, _, ⟨T2, L2, k2, n2⟩, -, X2, ⟨Lc2, hQ2, l2, y2, z2⟩, st2⟩ := X1.specialBack hx (y := Y9) rfl hown (mvT hZ (ww hw 16 rfl)) (mvT hZ (ww hw 17 rfl)) (mvT hZ (ww hw 18 rfl)) (by decide) (backOf (W := 1) (own_i1_0 l Z a0 hw hj ki0 vf0 G b1 a44 k44 44 (own_fn bb x1 x2 n1 n2) h1 n0 O1 (by decide) V_a44_1 (by decide) A1 F_b1_value F_b1_coder g_b1 (Ne.symm ne_a44_b1) hall []) hZ (ww hw 18 rfl) (ww hw 15 rfl) (by decide) (by decide)) (g := (mkF m 187 #[vi p1, vi p2, vi p3, vi p4, vi p5, vi p6, vi kk, vi bb, vi x1, vi x2, vi (p1 &&& (7 : Int32)), vr a43, vr a44, vr a45, vi (Int32.ofNat n1), vi (Int32.ofNat n2), vi (Int32.ofNat m1), vi (Int32.ofNat m2), vi (Int32.ofNat o1), vi (Int32.ofNat o2), vu, vu] [xr a44, xr b1, xr b1])) rfl (by rw [hml]; rfl) (Steps.refl _) (a := b1) (argsL := [xr a44]) (rest := [xr b1]) (lenOf pd20 rfl) rfl (by show 2 * 0 + _ ≤ _; exact Nat.le_of_eq rfl) (hb hby at_187) (fun _ _ => ⟨rfl, e1, (by decide : 4 + 2 ≤ _), (by decide : 136 + 135 ≤ _)⟩)
  dsimp only [Pt.U, Pt.locs, Pt.cells, Pt.slots] at X2 l2 y2 z2 st2 hQ2
  subst l2 y2 z2
  obtain ⟨h2, e2⟩ : ∃ z, T2.heap = z := ⟨_, rfl⟩
  rw [e2] at hQ2
  obtain ⟨rfl, Nq2, K2, b12, k12, SS2, g12⟩ := hQ2
  have N2 := Fr.app NP Nq2
  have O2 : Old Z n0 h2 := O1.keep K2 (allS g_b1 all0)
  have Kp2 : Keep h0 h2 [] := Kp1.trans K2 (allS (Or.inr sz_b1) all0)
  have V_a43_2 := V_a43_1.keep K2 (ninS ne_a43_b1 nin0)
  have V_a44_2 := V_a44_1.keep K2 (ninS ne_a44_b1 nin0)
  have V_a45_2 := V_a45_1.keep K2 (ninS ne_a45_b1 nin0)
  have X_b1_2 := A1.keep K2
  obtain ⟨EA2, FC2, FV2, VB2⟩ := id SS2
  obtain ⟨cl3, Ar3, q3, S3, N3_, H3, G3⟩ := id V_a44_2
  have hin3 : ¬ ((Int32.ofNat n1) < 0 ∨ cl3.slots.size ≤ ((Int32.ofNat n1)).toNatClampNeg) := inb_of S3 (own_in hn1 (by decide))
  have hat3 : cl3.slots[((Int32.ofNat n1)).toNatClampNeg]? = some (xi ((own_fn bb x1 x2 n1 n2) n1)) := Has.at H3 hin3 (by rw [own_nat (Nat.lt_trans hn1 (by decide))]; exact own_vs_get hn1)
  obtain ⟨_, _, ⟨T4, L4, k4, n4⟩, -, X4, ⟨Lc4, hQ4, l4, y4, z4⟩, st4⟩ := Jvm.LawKit.callS X2 hx (y := Y10) hown (mvT hZ (ww hw 42 rfl)) (mvT hZ (ww hw 43 rfl)) (mvT hZ (ww hw 4 rfl)) (mvT hZ (ww hw 44 rfl)) (by decide) (backOf (W := 0) (own_valid l Z a0 hw hj ki0 vf0 G ((own_fn bb x1 x2 n1 n2) n1) h2 n0 O2 []) hZ (ww hw 44 rfl) (ww hw 4 rfl) (by decide) (by decide)) (g := (mkF m 197 #[vi p1, vi p2, vi p3, vi p4, vi p5, vi p6, vi kk, vi bb, vi x1, vi x2, vi (p1 &&& (7 : Int32)), vr a43, vr a44, vr a45, vi (Int32.ofNat n1), vi (Int32.ofNat n2), vi (Int32.ofNat m1), vi (Int32.ofNat m2), vi (Int32.ofNat o1), vi (Int32.ofNat o2), vr b1, vu] [xi ((own_fn bb x1 x2 n1 n2) n1)])) rfl (by rw [hml]; rfl) (argsL := [xi ((own_fn bb x1 x2 n1 n2) n1)]) (rest := []) (lenOf pd21 rfl) rfl (by show 2 * 0 + _ ≤ _; exact Nat.le_of_eq rfl) (hb hby at_197) (fun _ _ => ⟨rfl, e2, (by decide : 6 + 0 ≤ _), (by decide : 271 + 0 ≤ _)⟩)
  dsimp only [Pt.U, Pt.locs, Pt.cells, Pt.slots] at X4 l4 y4 z4 st4 hQ4
  subst l4 y4 z4
  obtain ⟨rfl, Nq4, e4⟩ := hQ4
  have N4 := Fr.app N2 Nq4
  obtain ⟨cl5, Ar5, q5, S5, N5_, H5, G5⟩ := id V_a44_2
  have hin5 : ¬ ((Int32.ofNat n2) < 0 ∨ cl5.slots.size ≤ ((Int32.ofNat n2)).toNatClampNeg) := inb_of S5 (own_in hn2 (by decide))
  have hat5 : cl5.slots[((Int32.ofNat n2)).toNatClampNeg]? = some (xi ((own_fn bb x1 x2 n1 n2) n2)) := Has.at H5 hin5 (by rw [own_nat (Nat.lt_trans hn2 (by decide))]; exact own_vs_get hn2)
  obtain ⟨_, _, ⟨T6, L6, k6, n6⟩, -, X6, ⟨Lc6, hQ6, l6, y6, z6⟩, st6⟩ := Jvm.LawKit.callS X4 hx (y := Y10) hown (mvT hZ (ww hw 42 rfl)) (mvT hZ (ww hw 43 rfl)) (mvT hZ (ww hw 4 rfl)) (mvT hZ (ww hw 44 rfl)) (by decide) (backOf (W := 0) (own_valid l Z a0 hw hj ki0 vf0 G ((own_fn bb x1 x2 n1 n2) n2) h2 n0 O2 []) hZ (ww hw 44 rfl) (ww hw 4 rfl) (by decide) (by decide)) (g := (mkF m 208 #[vi p1, vi p2, vi p3, vi p4, vi p5, vi p6, vi kk, vi bb, vi x1, vi x2, vi (p1 &&& (7 : Int32)), vr a43, vr a44, vr a45, vi (Int32.ofNat n1), vi (Int32.ofNat n2), vi (Int32.ofNat m1), vi (Int32.ofNat m2), vi (Int32.ofNat o1), vi (Int32.ofNat o2), vr b1, vu] [xi ((own_fn bb x1 x2 n1 n2) n2)])) rfl (by rw [hml]; rfl) (argsL := [xi ((own_fn bb x1 x2 n1 n2) n2)]) (rest := []) (lenOf pd21 rfl) rfl (by show 2 * 0 + _ ≤ _; exact Nat.le_of_eq rfl) (hb hby at_208) (fun _ _ => ⟨rfl, e4, (by decide : 6 + 0 ≤ _), (by decide : 271 + 0 ≤ _)⟩)
  dsimp only [Pt.U, Pt.locs, Pt.cells, Pt.slots] at X6 l6 y6 z6 st6 hQ6
  subst l6 y6 z6
  obtain ⟨rfl, Nq6, e6⟩ := hQ6
  have N6 := Fr.app N4 Nq6
  obtain ⟨_, _, ⟨T7, L7, k7, n7⟩, -, X7, hS7, hg7, ⟨Lc7, hQ7, l7, y7, z7, hCr7⟩, st7⟩ := Jvm.RoadKit.callSS (s := s) X6 hx (y := Y28) hown (mvT hZ (ww hw 45 rfl)) (mvT hZ (ww hw 46 rfl)) (mvT hZ (ww hw 47 rfl)) (mvT hZ (ww hw 48 rfl)) (by decide) (backOfSH (s := s) (vm0 := s.vm) (W := 0) (hWF b1 b12 k12 h2 O2 ⟨EA2, FC2, FV2, VB2⟩ []) hZ (ww hw 48 rfl) (ww hw 47 rfl) (by decide) (by decide) (own_EW hw) (hCH.keep Kp2 all0)) (g := (mkF m 299 #[vi p1, vi p2, vi p3, vi p4, vi p5, vi p6, vi kk, vi bb, vi x1, vi x2, vi (p1 &&& (7 : Int32)), vr a43, vr a44, vr a45, vi (Int32.ofNat n1), vi (Int32.ofNat n2), vi (Int32.ofNat m1), vi (Int32.ofNat m2), vi (Int32.ofNat o1), vi (Int32.ofNat o2), vr b1, vi (1 : Int32)] [xr b1])) rfl (by rw [hml]; rfl) (argsL := [xr b1]) (rest := []) (lenOf pd22 rfl) rfl (by show 2 * 0 + _ ≤ _; exact Nat.le_of_eq rfl) (hb hby at_299) (fun _ _ => ⟨rfl, e6, (by decide : 6 + 2 ≤ _), (by decide : 271 + 148 ≤ _)⟩)
  dsimp only [Pt.U, Pt.locs, Pt.cells, Pt.slots] at X7 l7 y7 z7 st7 hQ7 hS7 hg7 hCr7
  subst l7 y7 z7
  obtain ⟨rfl, Nq7⟩ := hQ7
  have N7 := Fr.app N6 Nq7
  obtain ⟨fs, hr, hrun, hended, hW, hsame⟩ := X7.leave (v := some (xi (1 : Int32))) (fun h => by rw [Bd.returns] at h; cases h)
  have hend := hS7.ended hW (Nat.le_refl _) hsame
  have hZ2 : Z.Warmed39 T7.vm := State.Warmed39.trans hZ hS7.1
  have hq := (CHr.keep Kp2 all0 hCH).trans (hCr7.trans (CHv.at (s := s) (vm0 := T7.vm) X7 hZ2 (own_EW hw) hCr7.1))
  refine ⟨_, _, pre0 _ ?_, hrun, hended, _, _, rfl, ?_, ?_, ⟨_, rfl⟩, hend.1, hend.2.1, hend.2.2.mono (by decide) (by decide)⟩
  · show own_S p e below s₁ (mkF m 0 #[vi p1, vi p2, vi p3, vi p4, vi p5, vi p6, vu, vu, vu, vu, vu, vu, vu, vu, vu, vu, vu, vu, vu, vu, vu, vu] []) _
    refine stP _ ?_
    refine XS.iload XP.here hx rfl (hb hby at_175) rfl ?_
    refine XS.iconst XP.here hx rfl (hb hby at_177) ?_
    show own_S p e below TP (mkF m 178 #[vi p1, vi p2, vi p3, vi p4, vi p5, vi p6, vi kk, vi bb, vi x1, vi x2, vi (p1 &&& (7 : Int32)), vr a43, vr a44, vr a45, vi (Int32.ofNat n1), vi (Int32.ofNat n2), vi (Int32.ofNat m1), vi (Int32.ofNat m2), vi (Int32.ofNat o1), vi (Int32.ofNat o2), vu, vu] [xi (3 : Int32), xi (p1 &&& (7 : Int32))]) _
    refine XS.icmpNo XP.here hx rfl (hb hby at_178) rfl as324 ?_
    show own_S p e below TP (mkF m 181 #[vi p1, vi p2, vi p3, vi p4, vi p5, vi p6, vi kk, vi bb, vi x1, vi x2, vi (p1 &&& (7 : Int32)), vr a43, vr a44, vr a45, vi (Int32.ofNat n1), vi (Int32.ofNat n2), vi (Int32.ofNat m1), vi (Int32.ofNat m2), vi (Int32.ofNat o1), vi (Int32.ofNat o2), vu, vu] []) _
    refine st1 _ ?_
    refine XS.dup X1.here hx rfl (hb hby at_184) rfl rfl ?_
    refine XS.aload X1.here hx rfl (hb hby at_185) rfl rfl ?_
    show own_S p e below T1 (mkF m 187 #[vi p1, vi p2, vi p3, vi p4, vi p5, vi p6, vi kk, vi bb, vi x1, vi x2, vi (p1 &&& (7 : Int32)), vr a43, vr a44, vr a45, vi (Int32.ofNat n1), vi (Int32.ofNat n2), vi (Int32.ofNat m1), vi (Int32.ofNat m2), vi (Int32.ofNat o1), vi (Int32.ofNat o2), vu, vu] [xr a44, xr b1, xr b1]) _
    refine st2.trans ?_
    refine XS.astore X2.here hx rfl (hb hby at_190) rfl rfl (l' := #[vi p1, vi p2, vi p3, vi p4, vi p5, vi p6, vi kk, vi bb, vi x1, vi x2, vi (p1 &&& (7 : Int32)), vr a43, vr a44, vr a45, vi (Int32.ofNat n1), vi (Int32.ofNat n2), vi (Int32.ofNat m1), vi (Int32.ofNat m2), vi (Int32.ofNat o1), vi (Int32.ofNat o2), vr b1, vu]) rfl ?_
    refine XS.aload X2.here hx rfl (hb hby at_192) rfl rfl ?_
    refine XS.iload X2.here hx rfl (hb hby at_194) rfl ?_
    show own_S p e below T2 (mkF m 196 #[vi p1, vi p2, vi p3, vi p4, vi p5, vi p6, vi kk, vi bb, vi x1, vi x2, vi (p1 &&& (7 : Int32)), vr a43, vr a44, vr a45, vi (Int32.ofNat n1), vi (Int32.ofNat n2), vi (Int32.ofNat m1), vi (Int32.ofNat m2), vi (Int32.ofNat o1), vi (Int32.ofNat o2), vr b1, vu] [xi (Int32.ofNat n1), xr a44]) _
    refine X2.caload hx (j := (Int32.ofNat n1)) (v := (xi ((own_fn bb x1 x2 n1 n2) n1))) (by rw [e2]; exact Ar3.1) (State.isArrayOf_alike hZ.alike Ar3.2.1) Ar3.2.2 hin3 hat3 (g := (mkF m 196 #[vi p1, vi p2, vi p3, vi p4, vi p5, vi p6, vi kk, vi bb, vi x1, vi x2, vi (p1 &&& (7 : Int32)), vr a43, vr a44, vr a45, vi (Int32.ofNat n1), vi (Int32.ofNat n2), vi (Int32.ofNat m1), vi (Int32.ofNat m2), vi (Int32.ofNat o1), vi (Int32.ofNat o2), vr b1, vu] [xi (Int32.ofNat n1), xr a44])) rfl rfl (hb hby at_196) _ ?_
    show own_S p e below T2 (mkF m 197 #[vi p1, vi p2, vi p3, vi p4, vi p5, vi p6, vi kk, vi bb, vi x1, vi x2, vi (p1 &&& (7 : Int32)), vr a43, vr a44, vr a45, vi (Int32.ofNat n1), vi (Int32.ofNat n2), vi (Int32.ofNat m1), vi (Int32.ofNat m2), vi (Int32.ofNat o1), vi (Int32.ofNat o2), vr b1, vu] [xi ((own_fn bb x1 x2 n1 n2) n1)]) _
    refine st4 _ ?_
    show own_S p e below T4 (mkF m 200 #[vi p1, vi p2, vi p3, vi p4, vi p5, vi p6, vi kk, vi bb, vi x1, vi x2, vi (p1 &&& (7 : Int32)), vr a43, vr a44, vr a45, vi (Int32.ofNat n1), vi (Int32.ofNat n2), vi (Int32.ofNat m1), vi (Int32.ofNat m2), vi (Int32.ofNat o1), vi (Int32.ofNat o2), vr b1, vu] [xi (own_vd ((own_fn bb x1 x2 n1 n2) n1))]) _
    refine XS.ifNo X4.here hx rfl (hb hby at_200) rfl he1 ?_
    refine XS.aload X4.here hx rfl (hb hby at_203) rfl rfl ?_
    refine XS.iload X4.here hx rfl (hb hby at_205) rfl ?_
    show own_S p e below T4 (mkF m 207 #[vi p1, vi p2, vi p3, vi p4, vi p5, vi p6, vi kk, vi bb, vi x1, vi x2, vi (p1 &&& (7 : Int32)), vr a43, vr a44, vr a45, vi (Int32.ofNat n1), vi (Int32.ofNat n2), vi (Int32.ofNat m1), vi (Int32.ofNat m2), vi (Int32.ofNat o1), vi (Int32.ofNat o2), vr b1, vu] [xi (Int32.ofNat n2), xr a44]) _
    refine X4.caload hx (j := (Int32.ofNat n2)) (v := (xi ((own_fn bb x1 x2 n1 n2) n2))) (by rw [e4]; exact Ar5.1) (State.isArrayOf_alike hZ.alike Ar5.2.1) Ar5.2.2 hin5 hat5 (g := (mkF m 207 #[vi p1, vi p2, vi p3, vi p4, vi p5, vi p6, vi kk, vi bb, vi x1, vi x2, vi (p1 &&& (7 : Int32)), vr a43, vr a44, vr a45, vi (Int32.ofNat n1), vi (Int32.ofNat n2), vi (Int32.ofNat m1), vi (Int32.ofNat m2), vi (Int32.ofNat o1), vi (Int32.ofNat o2), vr b1, vu] [xi (Int32.ofNat n2), xr a44])) rfl rfl (hb hby at_207) _ ?_
    show own_S p e below T4 (mkF m 208 #[vi p1, vi p2, vi p3, vi p4, vi p5, vi p6, vi kk, vi bb, vi x1, vi x2, vi (p1 &&& (7 : Int32)), vr a43, vr a44, vr a45, vi (Int32.ofNat n1), vi (Int32.ofNat n2), vi (Int32.ofNat m1), vi (Int32.ofNat m2), vi (Int32.ofNat o1), vi (Int32.ofNat o2), vr b1, vu] [xi ((own_fn bb x1 x2 n1 n2) n2)]) _
    refine st6 _ ?_
    show own_S p e below T6 (mkF m 211 #[vi p1, vi p2, vi p3, vi p4, vi p5, vi p6, vi kk, vi bb, vi x1, vi x2, vi (p1 &&& (7 : Int32)), vr a43, vr a44, vr a45, vi (Int32.ofNat n1), vi (Int32.ofNat n2), vi (Int32.ofNat m1), vi (Int32.ofNat m2), vi (Int32.ofNat o1), vi (Int32.ofNat o2), vr b1, vu] [xi (own_vd ((own_fn bb x1 x2 n1 n2) n2))]) _
    refine XS.ifNo X6.here hx rfl (hb hby at_211) rfl he2 ?_
    refine XS.iconst X6.here hx rfl (hb hby at_214) ?_
    refine XS.goto X6.here hx rfl (pc0 := 215) (pc' := 219) rfl (hb hby at_215) (by decide) (by decide) ?_
    refine XS.istore X6.here hx rfl (hb hby at_219) rfl (l' := #[vi p1, vi p2, vi p3, vi p4, vi p5, vi p6, vi kk, vi bb, vi x1, vi x2, vi (p1 &&& (7 : Int32)), vr a43, vr a44, vr a45, vi (Int32.ofNat n1), vi (Int32.ofNat n2), vi (Int32.ofNat m1), vi (Int32.ofNat m2), vi (Int32.ofNat o1), vi (Int32.ofNat o2), vr b1, vi (1 : Int32)]) rfl ?_
    show own_S p e below T6 (mkF m 221 #[vi p1, vi p2, vi p3, vi p4, vi p5, vi p6, vi kk, vi bb, vi x1, vi x2, vi (p1 &&& (7 : Int32)), vr a43, vr a44, vr a45, vi (Int32.ofNat n1), vi (Int32.ofNat n2), vi (Int32.ofNat m1), vi (Int32.ofNat m2), vi (Int32.ofNat o1), vi (Int32.ofNat o2), vr b1, vi (1 : Int32)] []) _
    refine XS.goto X6.here hx rfl (pc0 := 221) (pc' := 297) rfl (hb hby at_221) (by decide) (by decide) ?_
    refine XS.aload X6.here hx rfl (hb hby at_297) rfl rfl ?_
    show own_S p e below T6 (mkF m 299 #[vi p1, vi p2, vi p3, vi p4, vi p5, vi p6, vi kk, vi bb, vi x1, vi x2, vi (p1 &&& (7 : Int32)), vr a43, vr a44, vr a45, vi (Int32.ofNat n1), vi (Int32.ofNat n2), vi (Int32.ofNat m1), vi (Int32.ofNat m2), vi (Int32.ofNat o1), vi (Int32.ofNat o2), vr b1, vi (1 : Int32)] [xr b1]) _
    refine st7.trans ?_
    refine XS.iload X7.here hx rfl (hb hby at_302) rfl ?_
    show own_S p e below T7 (mkF m 304 #[vi p1, vi p2, vi p3, vi p4, vi p5, vi p6, vi kk, vi bb, vi x1, vi x2, vi (p1 &&& (7 : Int32)), vr a43, vr a44, vr a45, vi (Int32.ofNat n1), vi (Int32.ofNat n2), vi (Int32.ofNat m1), vi (Int32.ofNat m2), vi (Int32.ofNat o1), vi (Int32.ofNat o2), vr b1, vi (1 : Int32)] [xi (1 : Int32), xi (1 : Int32)]) _
    refine XS.icmpNo X7.here hx rfl (hb hby at_304) rfl (by decide) ?_
    refine XS.iconst X7.here hx rfl (hb hby at_307) ?_
    refine XS.goto X7.here hx rfl (pc0 := 308) (pc' := 312) rfl (hb hby at_308) (by decide) (by decide) ?_
    show own_S p e below T7 (mkF m 312 #[vi p1, vi p2, vi p3, vi p4, vi p5, vi p6, vi kk, vi bb, vi x1, vi x2, vi (p1 &&& (7 : Int32)), vr a43, vr a44, vr a45, vi (Int32.ofNat n1), vi (Int32.ofNat n2), vi (Int32.ofNat m1), vi (Int32.ofNat m2), vi (Int32.ofNat o1), vi (Int32.ofNat o2), vr b1, vi (1 : Int32)] [xi (1 : Int32)]) _
    exact retN X7 hx (t := .boolean) Bd.returns (by simp) (hb hby at_312) hr
  · exact ⟨rfl, N7⟩
  · show CHr Z own_EL s.vm s.heap T7.vm T7.heap
    rw [hh]; exact hq
theorem ef_own_law3_0f (m : MethodId)  (ki0 : Int32) (vf0 : Value) (p1 : Int32) (p2 : Int32) (p3 : Int32) (p4 : Int32) (p5 : Int32) (p6 : Int32) (kk : Int32) (bb : Int32) (x1 : Int32) (x2 : Int32) (n1 : Nat) (n2 : Nat) (m1 : Nat) (m2 : Nat) (o1 : Nat) (o2 : Nat) : entryFrame m #[xi p1, xi p2, xi p3, xi p4, xi p5, xi p6] maxLocals = (mkF m 0 #[vi p1, vi p2, vi p3, vi p4, vi p5, vi p6, vu, vu, vu, vu, vu, vu, vu, vu, vu, vu, vu, vu, vu, vu, vu, vu] []) := by first | (simp [entryFrame, mkF, argsToLocals, Value.category, maxLocals]; done) | rfl
set_option maxRecDepth 65536 in
set_option maxHeartbeats 40000000 in
theorem own_law3_0f (l : Launch) (Z : State) (a0 : Array Value) (hw : ∀ d ∈ tables_1, d.before a0 Z = true) (hj : ∀ d ∈ jdkStatics_1, d.before a0 Z = true)  (ki0 : Int32) (vf0 : Value) (G : own_St Z hj ki0 vf0) (p1 : Int32) (p2 : Int32) (p3 : Int32) (p4 : Int32) (p5 : Int32) (p6 : Int32) (kk : Int32) (bb : Int32) (x1 : Int32) (x2 : Int32) (n1 : Nat) (n2 : Nat) (m1 : Nat) (m2 : Nat) (o1 : Nat) (o2 : Nat) (as324 : if_icmp.holds .gt (p1 &&& (7 : Int32)) (3 : Int32) = false) (h0 : Heap) (n0 : Nat) (O0 : Old Z n0 h0) (hcase : ((if_icmp.holds .ge kk (26 : Int32) = false) ∧ ((((97 : Int32) + kk).toUInt32.toUInt16.toUInt32.toInt32) = bb)) ∨ ((if_icmp.holds .ge kk (26 : Int32) = true) ∧ ((((48 : Int32) + (kk - (26 : Int32))).toUInt32.toUInt16.toUInt32.toInt32) = bb))) (as47 : ((p6 &&& (2147483647 : Int32)) - ((p6 &&& (2147483647 : Int32)) / (36 : Int32)) * (36 : Int32)) = kk) (as48 : ((p3 &&& (65535 : Int32)).toUInt32.toUInt16.toUInt32.toInt32) = x1) (as49 : ((p5 &&& (65535 : Int32)).toUInt32.toUInt16.toUInt32.toInt32) = x2) (as94 : ((p2 &&& (2147483647 : Int32)) - ((p2 &&& (2147483647 : Int32)) / (44 : Int32)) * (44 : Int32)) = (Int32.ofNat n1)) (as139 : ((p4 &&& (2147483647 : Int32)) - ((p4 &&& (2147483647 : Int32)) / (44 : Int32)) * (44 : Int32)) = (Int32.ofNat n2)) (as183 : ((p2 &&& (2147483647 : Int32)) - ((p2 &&& (2147483647 : Int32)) / (43 : Int32)) * (43 : Int32)) = (Int32.ofNat m1)) (as227 : ((p4 &&& (2147483647 : Int32)) - ((p4 &&& (2147483647 : Int32)) / (43 : Int32)) * (43 : Int32)) = (Int32.ofNat m2)) (as273 : ((p2 &&& (2147483647 : Int32)) - ((p2 &&& (2147483647 : Int32)) / (45 : Int32)) * (45 : Int32)) = (Int32.ofNat o1)) (as319 : ((p4 &&& (2147483647 : Int32)) - ((p4 &&& (2147483647 : Int32)) / (45 : Int32)) * (45 : Int32)) = (Int32.ofNat o2)) (hn1 : n1 < 44) (hn2 : n2 < 44) (hm1 : m1 < 43) (hm2 : m2 < 43) (ho1 : o1 < 45) (ho2 : o2 < 45) (hall : ∀ j, j < 44 → if_icmp.holds .le ((own_fn bb x1 x2 n1 n2) j) (255 : Int32) = true) (he1 : ifCond.holds .eq (own_vd ((own_fn bb x1 x2 n1 n2) n1)) = true) (hWF : ∀ (sa b : Addr) (kd : ClassId) (h : Heap), Old Z n0 h → own_SS Z h sa b kd 44 (0 : Int32) (own_lat (own_fn bb x1 x2 n1 n2)) → own_MetW l Z Y28 prog_12_method_2_code 2 (some .boolean) ({ frames := 6, cells := 2, slots := 148, locals := 100 } : Room) #[xr sa] h (own_QL (some (xi (0 : Int32))) n0)) : own_MetW l Z x code maxLocals ret room_1 #[xi p1, xi p2, xi p3, xi p4, xi p5, xi p6] h0 (own_QL (some (xi (1 : Int32))) n0) := by
  intro ws
  refine MetFree.of_bodySF (plainFor_of_name pn2) hisR ?_
  intro p e s m args below meth c s₁ Bd hml0 hP hK
  obtain ⟨rfl, hZ, hh, hCH⟩ := hP
  have hx := Bd.exec
  have hby := Bd.bytes
  have hml : c.maxLocals = 22 := hml0
  have hown : s.vm.findClass "com/example/scopelock/scopelock/KeyWellFormedPinLaw" = some m.cls := findClass_of_methodNamed Bd.named
  have hnm := (name_of_methodNamed Bd.named Bd.method).1
  have X0 : Stand p l e room_1 s m #[xi p1, xi p2, xi p3, xi p4, xi p5, xi p6] below meth c s₁ [] 0 0 := Stand.of_body Bd
  have e0 : s₁.heap = h0 := by rw [← hh, Bd.state]; rfl
  have N0 := Fr.nil n0
  have pre0 : ∀ t, Steps p.tables e below (s₁.setTop (mkF m 0 #[vi p1, vi p2, vi p3, vi p4, vi p5, vi p6, vu, vu, vu, vu, vu, vu, vu, vu, vu, vu, vu, vu, vu, vu, vu, vu] [])) t → Steps p.tables e below (s₁.setTop (entryFrame m #[xi p1, xi p2, xi p3, xi p4, xi p5, xi p6] maxLocals)) t := fun t st => castTop (ef_own_law3_0f m ki0 vf0 p1 p2 p3 p4 p5 p6 kk bb x1 x2 n1 n2 m1 m2 o1 o2) st
  obtain ⟨TP, LP, hPP, a43, a44, a45, k43, k44, k45, XP, eP, NP, OP, ⟨V43, V44, V45, KP⟩, stP⟩ := own_pre hw hj ki0 vf0 G p1 p2 p3 p4 p5 p6 kk bb x1 x2 n1 n2 m1 m2 o1 o2 as47 hcase as48 as49 as94 as139 as183 as227 as273 as319 hx hZ hby hml hown X0 e0 N0 O0 hn1 hn2 hm1 hm2 ho1 ho2
  obtain ⟨T1, h1, X1, e1, E1, A1, D1, -, st1⟩ := newO XP hx hZ hown (ww hw 13 rfl) (ww hw 14 rfl) (ww hw 15 rfl) eP (g := (mkF m 181 #[vi p1, vi p2, vi p3, vi p4, vi p5, vi p6, vi kk, vi bb, vi x1, vi x2, vi (p1 &&& (7 : Int32)), vr a43, vr a44, vr a45, vi (Int32.ofNat n1), vi (Int32.ofNat n2), vi (Int32.ofNat m1), vi (Int32.ofNat m2), vi (Int32.ofNat o1), vi (Int32.ofNat o2), vu, vu] [])) rfl (hb hby at_181) (by decide) (by decide)
  obtain ⟨b1, g1⟩ : ∃ z, z = hPP.size := ⟨_, rfl⟩
  rw [← g1] at A1 D1 st1
  have g_b1 : n0 ≤ b1 := own_fresh OP g1
  have ne_a43_b1 : a43 ≠ b1 := Nat.ne_of_lt (Nat.lt_of_lt_of_le (V43).lt (Nat.le_of_eq g1.symm))
  have ne_a44_b1 : a44 ≠ b1 := Nat.ne_of_lt (Nat.lt_of_lt_of_le (V44).lt (Nat.le_of_eq g1.symm))
  have ne_a45_b1 : a45 ≠ b1 := Nat.ne_of_lt (Nat.lt_of_lt_of_le (V45).lt (Nat.le_of_eq g1.symm))
  have sz_b1 : h0.size ≤ b1 := Nat.le_trans KP.1 (Nat.le_of_eq g1.symm)
  have O1 := OP.ext E1
  have Kp1 := KP.ext E1
  have V_a43_1 := V43.ext E1
  have V_a44_1 := V44.ext E1
  have V_a45_1 := V45.ext E1
  have F_b1_coder : Fld Z h1 b1 "java/lang/String" "coder" "B" (xi (0 : Int32)) := D1 (Or.inr (ww hw 39 rfl)) (ty := .byte) (by decide)
  have F_b1_value : Fld Z h1 b1 "java/lang/String" "value" "[B" .null := D1 (Or.inr (ww hw 41 rfl)) (ty := (.array .byte)) (by decide)
  obtain ⟨_, _, ⟨T2, L2, k2, n2⟩, -, X2, ⟨Lc2, hQ2, l2, y2, z2⟩, st2⟩ := X1.specialBack hx (y := Y9) rfl hown (mvT hZ (ww hw 16 rfl)) (mvT hZ (ww hw 17 rfl)) (mvT hZ (ww hw 18 rfl)) (by decide) (backOf (W := 1) (own_i1_0 l Z a0 hw hj ki0 vf0 G b1 a44 k44 44 (own_fn bb x1 x2 n1 n2) h1 n0 O1 (by decide) V_a44_1 (by decide) A1 F_b1_value F_b1_coder g_b1 (Ne.symm ne_a44_b1) hall []) hZ (ww hw 18 rfl) (ww hw 15 rfl) (by decide) (by decide)) (g := (mkF m 187 #[vi p1, vi p2, vi p3, vi p4, vi p5, vi p6, vi kk, vi bb, vi x1, vi x2, vi (p1 &&& (7 : Int32)), vr a43, vr a44, vr a45, vi (Int32.ofNat n1), vi (Int32.ofNat n2), vi (Int32.ofNat m1), vi (Int32.ofNat m2), vi (Int32.ofNat o1), vi (Int32.ofNat o2), vu, vu] [xr a44, xr b1, xr b1])) rfl (by rw [hml]; rfl) (Steps.refl _) (a := b1) (argsL := [xr a44]) (rest := [xr b1]) (lenOf pd20 rfl) rfl (by show 2 * 0 + _ ≤ _; exact Nat.le_of_eq rfl) (hb hby at_187) (fun _ _ => ⟨rfl, e1, (by decide : 4 + 2 ≤ _), (by decide : 136 + 135 ≤ _)⟩)
  dsimp only [Pt.U, Pt.locs, Pt.cells, Pt.slots] at X2 l2 y2 z2 st2 hQ2
  subst l2 y2 z2
  obtain ⟨h2, e2⟩ : ∃ z, T2.heap = z := ⟨_, rfl⟩
  rw [e2] at hQ2
  obtain ⟨rfl, Nq2, K2, b12, k12, SS2, g12⟩ := hQ2
  have N2 := Fr.app NP Nq2
  have O2 : Old Z n0 h2 := O1.keep K2 (allS g_b1 all0)
  have Kp2 : Keep h0 h2 [] := Kp1.trans K2 (allS (Or.inr sz_b1) all0)
  have V_a43_2 := V_a43_1.keep K2 (ninS ne_a43_b1 nin0)
  have V_a44_2 := V_a44_1.keep K2 (ninS ne_a44_b1 nin0)
  have V_a45_2 := V_a45_1.keep K2 (ninS ne_a45_b1 nin0)
  have X_b1_2 := A1.keep K2
  obtain ⟨EA2, FC2, FV2, VB2⟩ := id SS2
  obtain ⟨cl3, Ar3, q3, S3, N3_, H3, G3⟩ := id V_a44_2
  have hin3 : ¬ ((Int32.ofNat n1) < 0 ∨ cl3.slots.size ≤ ((Int32.ofNat n1)).toNatClampNeg) := inb_of S3 (own_in hn1 (by decide))
  have hat3 : cl3.slots[((Int32.ofNat n1)).toNatClampNeg]? = some (xi ((own_fn bb x1 x2 n1 n2) n1)) := Has.at H3 hin3 (by rw [own_nat (Nat.lt_trans hn1 (by decide))]; exact own_vs_get hn1)
  obtain ⟨_, _, ⟨T4, L4, k4, n4⟩, -, X4, ⟨Lc4, hQ4, l4, y4, z4⟩, st4⟩ := Jvm.LawKit.callS X2 hx (y := Y10) hown (mvT hZ (ww hw 42 rfl)) (mvT hZ (ww hw 43 rfl)) (mvT hZ (ww hw 4 rfl)) (mvT hZ (ww hw 44 rfl)) (by decide) (backOf (W := 0) (own_valid l Z a0 hw hj ki0 vf0 G ((own_fn bb x1 x2 n1 n2) n1) h2 n0 O2 []) hZ (ww hw 44 rfl) (ww hw 4 rfl) (by decide) (by decide)) (g := (mkF m 197 #[vi p1, vi p2, vi p3, vi p4, vi p5, vi p6, vi kk, vi bb, vi x1, vi x2, vi (p1 &&& (7 : Int32)), vr a43, vr a44, vr a45, vi (Int32.ofNat n1), vi (Int32.ofNat n2), vi (Int32.ofNat m1), vi (Int32.ofNat m2), vi (Int32.ofNat o1), vi (Int32.ofNat o2), vr b1, vu] [xi ((own_fn bb x1 x2 n1 n2) n1)])) rfl (by rw [hml]; rfl) (argsL := [xi ((own_fn bb x1 x2 n1 n2) n1)]) (rest := []) (lenOf pd21 rfl) rfl (by show 2 * 0 + _ ≤ _; exact Nat.le_of_eq rfl) (hb hby at_197) (fun _ _ => ⟨rfl, e2, (by decide : 6 + 0 ≤ _), (by decide : 271 + 0 ≤ _)⟩)
  dsimp only [Pt.U, Pt.locs, Pt.cells, Pt.slots] at X4 l4 y4 z4 st4 hQ4
  subst l4 y4 z4
  obtain ⟨rfl, Nq4, e4⟩ := hQ4
  have N4 := Fr.app N2 Nq4
  obtain ⟨_, _, ⟨T5, L5, k5, n5⟩, -, X5, hS5, hg5, ⟨Lc5, hQ5, l5, y5, z5, hCr5⟩, st5⟩ := Jvm.RoadKit.callSS (s := s) X4 hx (y := Y28) hown (mvT hZ (ww hw 45 rfl)) (mvT hZ (ww hw 46 rfl)) (mvT hZ (ww hw 47 rfl)) (mvT hZ (ww hw 48 rfl)) (by decide) (backOfSH (s := s) (vm0 := s.vm) (W := 0) (hWF b1 b12 k12 h2 O2 ⟨EA2, FC2, FV2, VB2⟩ []) hZ (ww hw 48 rfl) (ww hw 47 rfl) (by decide) (by decide) (own_EW hw) (hCH.keep Kp2 all0)) (g := (mkF m 299 #[vi p1, vi p2, vi p3, vi p4, vi p5, vi p6, vi kk, vi bb, vi x1, vi x2, vi (p1 &&& (7 : Int32)), vr a43, vr a44, vr a45, vi (Int32.ofNat n1), vi (Int32.ofNat n2), vi (Int32.ofNat m1), vi (Int32.ofNat m2), vi (Int32.ofNat o1), vi (Int32.ofNat o2), vr b1, vi (0 : Int32)] [xr b1])) rfl (by rw [hml]; rfl) (argsL := [xr b1]) (rest := []) (lenOf pd22 rfl) rfl (by show 2 * 0 + _ ≤ _; exact Nat.le_of_eq rfl) (hb hby at_299) (fun _ _ => ⟨rfl, e4, (by decide : 6 + 2 ≤ _), (by decide : 271 + 148 ≤ _)⟩)
  dsimp only [Pt.U, Pt.locs, Pt.cells, Pt.slots] at X5 l5 y5 z5 st5 hQ5 hS5 hg5 hCr5
  subst l5 y5 z5
  obtain ⟨rfl, Nq5⟩ := hQ5
  have N5 := Fr.app N4 Nq5
  obtain ⟨fs, hr, hrun, hended, hW, hsame⟩ := X5.leave (v := some (xi (1 : Int32))) (fun h => by rw [Bd.returns] at h; cases h)
  have hend := hS5.ended hW (Nat.le_refl _) hsame
  have hZ2 : Z.Warmed39 T5.vm := State.Warmed39.trans hZ hS5.1
  have hq := (CHr.keep Kp2 all0 hCH).trans (hCr5.trans (CHv.at (s := s) (vm0 := T5.vm) X5 hZ2 (own_EW hw) hCr5.1))
  refine ⟨_, _, pre0 _ ?_, hrun, hended, _, _, rfl, ?_, ?_, ⟨_, rfl⟩, hend.1, hend.2.1, hend.2.2.mono (by decide) (by decide)⟩
  · show own_S p e below s₁ (mkF m 0 #[vi p1, vi p2, vi p3, vi p4, vi p5, vi p6, vu, vu, vu, vu, vu, vu, vu, vu, vu, vu, vu, vu, vu, vu, vu, vu] []) _
    refine stP _ ?_
    refine XS.iload XP.here hx rfl (hb hby at_175) rfl ?_
    refine XS.iconst XP.here hx rfl (hb hby at_177) ?_
    show own_S p e below TP (mkF m 178 #[vi p1, vi p2, vi p3, vi p4, vi p5, vi p6, vi kk, vi bb, vi x1, vi x2, vi (p1 &&& (7 : Int32)), vr a43, vr a44, vr a45, vi (Int32.ofNat n1), vi (Int32.ofNat n2), vi (Int32.ofNat m1), vi (Int32.ofNat m2), vi (Int32.ofNat o1), vi (Int32.ofNat o2), vu, vu] [xi (3 : Int32), xi (p1 &&& (7 : Int32))]) _
    refine XS.icmpNo XP.here hx rfl (hb hby at_178) rfl as324 ?_
    show own_S p e below TP (mkF m 181 #[vi p1, vi p2, vi p3, vi p4, vi p5, vi p6, vi kk, vi bb, vi x1, vi x2, vi (p1 &&& (7 : Int32)), vr a43, vr a44, vr a45, vi (Int32.ofNat n1), vi (Int32.ofNat n2), vi (Int32.ofNat m1), vi (Int32.ofNat m2), vi (Int32.ofNat o1), vi (Int32.ofNat o2), vu, vu] []) _
    refine st1 _ ?_
    refine XS.dup X1.here hx rfl (hb hby at_184) rfl rfl ?_
    refine XS.aload X1.here hx rfl (hb hby at_185) rfl rfl ?_
    show own_S p e below T1 (mkF m 187 #[vi p1, vi p2, vi p3, vi p4, vi p5, vi p6, vi kk, vi bb, vi x1, vi x2, vi (p1 &&& (7 : Int32)), vr a43, vr a44, vr a45, vi (Int32.ofNat n1), vi (Int32.ofNat n2), vi (Int32.ofNat m1), vi (Int32.ofNat m2), vi (Int32.ofNat o1), vi (Int32.ofNat o2), vu, vu] [xr a44, xr b1, xr b1]) _
    refine st2.trans ?_
    refine XS.astore X2.here hx rfl (hb hby at_190) rfl rfl (l' := #[vi p1, vi p2, vi p3, vi p4, vi p5, vi p6, vi kk, vi bb, vi x1, vi x2, vi (p1 &&& (7 : Int32)), vr a43, vr a44, vr a45, vi (Int32.ofNat n1), vi (Int32.ofNat n2), vi (Int32.ofNat m1), vi (Int32.ofNat m2), vi (Int32.ofNat o1), vi (Int32.ofNat o2), vr b1, vu]) rfl ?_
    refine XS.aload X2.here hx rfl (hb hby at_192) rfl rfl ?_
    refine XS.iload X2.here hx rfl (hb hby at_194) rfl ?_
    show own_S p e below T2 (mkF m 196 #[vi p1, vi p2, vi p3, vi p4, vi p5, vi p6, vi kk, vi bb, vi x1, vi x2, vi (p1 &&& (7 : Int32)), vr a43, vr a44, vr a45, vi (Int32.ofNat n1), vi (Int32.ofNat n2), vi (Int32.ofNat m1), vi (Int32.ofNat m2), vi (Int32.ofNat o1), vi (Int32.ofNat o2), vr b1, vu] [xi (Int32.ofNat n1), xr a44]) _
    refine X2.caload hx (j := (Int32.ofNat n1)) (v := (xi ((own_fn bb x1 x2 n1 n2) n1))) (by rw [e2]; exact Ar3.1) (State.isArrayOf_alike hZ.alike Ar3.2.1) Ar3.2.2 hin3 hat3 (g := (mkF m 196 #[vi p1, vi p2, vi p3, vi p4, vi p5, vi p6, vi kk, vi bb, vi x1, vi x2, vi (p1 &&& (7 : Int32)), vr a43, vr a44, vr a45, vi (Int32.ofNat n1), vi (Int32.ofNat n2), vi (Int32.ofNat m1), vi (Int32.ofNat m2), vi (Int32.ofNat o1), vi (Int32.ofNat o2), vr b1, vu] [xi (Int32.ofNat n1), xr a44])) rfl rfl (hb hby at_196) _ ?_
    show own_S p e below T2 (mkF m 197 #[vi p1, vi p2, vi p3, vi p4, vi p5, vi p6, vi kk, vi bb, vi x1, vi x2, vi (p1 &&& (7 : Int32)), vr a43, vr a44, vr a45, vi (Int32.ofNat n1), vi (Int32.ofNat n2), vi (Int32.ofNat m1), vi (Int32.ofNat m2), vi (Int32.ofNat o1), vi (Int32.ofNat o2), vr b1, vu] [xi ((own_fn bb x1 x2 n1 n2) n1)]) _
    refine st4 _ ?_
    show own_S p e below T4 (mkF m 200 #[vi p1, vi p2, vi p3, vi p4, vi p5, vi p6, vi kk, vi bb, vi x1, vi x2, vi (p1 &&& (7 : Int32)), vr a43, vr a44, vr a45, vi (Int32.ofNat n1), vi (Int32.ofNat n2), vi (Int32.ofNat m1), vi (Int32.ofNat m2), vi (Int32.ofNat o1), vi (Int32.ofNat o2), vr b1, vu] [xi (own_vd ((own_fn bb x1 x2 n1 n2) n1))]) _
    refine XS.ifYes X4.here hx rfl (pc0 := 200) (pc' := 218) rfl (hb hby at_200) rfl he1 (by decide) (by decide) ?_
    refine XS.iconst X4.here hx rfl (hb hby at_218) ?_
    refine XS.istore X4.here hx rfl (hb hby at_219) rfl (l' := #[vi p1, vi p2, vi p3, vi p4, vi p5, vi p6, vi kk, vi bb, vi x1, vi x2, vi (p1 &&& (7 : Int32)), vr a43, vr a44, vr a45, vi (Int32.ofNat n1), vi (Int32.ofNat n2), vi (Int32.ofNat m1), vi (Int32.ofNat m2), vi (Int32.ofNat o1), vi (Int32.ofNat o2), vr b1, vi (0 : Int32)]) rfl ?_
    refine XS.goto X4.here hx rfl (pc0 := 221) (pc' := 297) rfl (hb hby at_221) (by decide) (by decide) ?_
    show own_S p e below T4 (mkF m 297 #[vi p1, vi p2, vi p3, vi p4, vi p5, vi p6, vi kk, vi bb, vi x1, vi x2, vi (p1 &&& (7 : Int32)), vr a43, vr a44, vr a45, vi (Int32.ofNat n1), vi (Int32.ofNat n2), vi (Int32.ofNat m1), vi (Int32.ofNat m2), vi (Int32.ofNat o1), vi (Int32.ofNat o2), vr b1, vi (0 : Int32)] []) _
    refine XS.aload X4.here hx rfl (hb hby at_297) rfl rfl ?_
    show own_S p e below T4 (mkF m 299 #[vi p1, vi p2, vi p3, vi p4, vi p5, vi p6, vi kk, vi bb, vi x1, vi x2, vi (p1 &&& (7 : Int32)), vr a43, vr a44, vr a45, vi (Int32.ofNat n1), vi (Int32.ofNat n2), vi (Int32.ofNat m1), vi (Int32.ofNat m2), vi (Int32.ofNat o1), vi (Int32.ofNat o2), vr b1, vi (0 : Int32)] [xr b1]) _
    refine st5.trans ?_
    refine XS.iload X5.here hx rfl (hb hby at_302) rfl ?_
    show own_S p e below T5 (mkF m 304 #[vi p1, vi p2, vi p3, vi p4, vi p5, vi p6, vi kk, vi bb, vi x1, vi x2, vi (p1 &&& (7 : Int32)), vr a43, vr a44, vr a45, vi (Int32.ofNat n1), vi (Int32.ofNat n2), vi (Int32.ofNat m1), vi (Int32.ofNat m2), vi (Int32.ofNat o1), vi (Int32.ofNat o2), vr b1, vi (0 : Int32)] [xi (0 : Int32), xi (0 : Int32)]) _
    refine XS.icmpNo X5.here hx rfl (hb hby at_304) rfl (by decide) ?_
    refine XS.iconst X5.here hx rfl (hb hby at_307) ?_
    refine XS.goto X5.here hx rfl (pc0 := 308) (pc' := 312) rfl (hb hby at_308) (by decide) (by decide) ?_
    show own_S p e below T5 (mkF m 312 #[vi p1, vi p2, vi p3, vi p4, vi p5, vi p6, vi kk, vi bb, vi x1, vi x2, vi (p1 &&& (7 : Int32)), vr a43, vr a44, vr a45, vi (Int32.ofNat n1), vi (Int32.ofNat n2), vi (Int32.ofNat m1), vi (Int32.ofNat m2), vi (Int32.ofNat o1), vi (Int32.ofNat o2), vr b1, vi (0 : Int32)] [xi (1 : Int32)]) _
    exact retN X5 hx (t := .boolean) Bd.returns (by simp) (hb hby at_312) hr
  · exact ⟨rfl, N5⟩
  · show CHr Z own_EL s.vm s.heap T5.vm T5.heap
    rw [hh]; exact hq
theorem ef_own_law3_0tf (m : MethodId)  (ki0 : Int32) (vf0 : Value) (p1 : Int32) (p2 : Int32) (p3 : Int32) (p4 : Int32) (p5 : Int32) (p6 : Int32) (kk : Int32) (bb : Int32) (x1 : Int32) (x2 : Int32) (n1 : Nat) (n2 : Nat) (m1 : Nat) (m2 : Nat) (o1 : Nat) (o2 : Nat) : entryFrame m #[xi p1, xi p2, xi p3, xi p4, xi p5, xi p6] maxLocals = (mkF m 0 #[vi p1, vi p2, vi p3, vi p4, vi p5, vi p6, vu, vu, vu, vu, vu, vu, vu, vu, vu, vu, vu, vu, vu, vu, vu, vu] []) := by first | (simp [entryFrame, mkF, argsToLocals, Value.category, maxLocals]; done) | rfl
set_option maxRecDepth 65536 in
set_option maxHeartbeats 40000000 in
theorem own_law3_0tf (l : Launch) (Z : State) (a0 : Array Value) (hw : ∀ d ∈ tables_1, d.before a0 Z = true) (hj : ∀ d ∈ jdkStatics_1, d.before a0 Z = true)  (ki0 : Int32) (vf0 : Value) (G : own_St Z hj ki0 vf0) (p1 : Int32) (p2 : Int32) (p3 : Int32) (p4 : Int32) (p5 : Int32) (p6 : Int32) (kk : Int32) (bb : Int32) (x1 : Int32) (x2 : Int32) (n1 : Nat) (n2 : Nat) (m1 : Nat) (m2 : Nat) (o1 : Nat) (o2 : Nat) (as324 : if_icmp.holds .gt (p1 &&& (7 : Int32)) (3 : Int32) = false) (h0 : Heap) (n0 : Nat) (O0 : Old Z n0 h0) (hcase : ((if_icmp.holds .ge kk (26 : Int32) = false) ∧ ((((97 : Int32) + kk).toUInt32.toUInt16.toUInt32.toInt32) = bb)) ∨ ((if_icmp.holds .ge kk (26 : Int32) = true) ∧ ((((48 : Int32) + (kk - (26 : Int32))).toUInt32.toUInt16.toUInt32.toInt32) = bb))) (as47 : ((p6 &&& (2147483647 : Int32)) - ((p6 &&& (2147483647 : Int32)) / (36 : Int32)) * (36 : Int32)) = kk) (as48 : ((p3 &&& (65535 : Int32)).toUInt32.toUInt16.toUInt32.toInt32) = x1) (as49 : ((p5 &&& (65535 : Int32)).toUInt32.toUInt16.toUInt32.toInt32) = x2) (as94 : ((p2 &&& (2147483647 : Int32)) - ((p2 &&& (2147483647 : Int32)) / (44 : Int32)) * (44 : Int32)) = (Int32.ofNat n1)) (as139 : ((p4 &&& (2147483647 : Int32)) - ((p4 &&& (2147483647 : Int32)) / (44 : Int32)) * (44 : Int32)) = (Int32.ofNat n2)) (as183 : ((p2 &&& (2147483647 : Int32)) - ((p2 &&& (2147483647 : Int32)) / (43 : Int32)) * (43 : Int32)) = (Int32.ofNat m1)) (as227 : ((p4 &&& (2147483647 : Int32)) - ((p4 &&& (2147483647 : Int32)) / (43 : Int32)) * (43 : Int32)) = (Int32.ofNat m2)) (as273 : ((p2 &&& (2147483647 : Int32)) - ((p2 &&& (2147483647 : Int32)) / (45 : Int32)) * (45 : Int32)) = (Int32.ofNat o1)) (as319 : ((p4 &&& (2147483647 : Int32)) - ((p4 &&& (2147483647 : Int32)) / (45 : Int32)) * (45 : Int32)) = (Int32.ofNat o2)) (hn1 : n1 < 44) (hn2 : n2 < 44) (hm1 : m1 < 43) (hm2 : m2 < 43) (ho1 : o1 < 45) (ho2 : o2 < 45) (hall : ∀ j, j < 44 → if_icmp.holds .le ((own_fn bb x1 x2 n1 n2) j) (255 : Int32) = true) (he1 : ifCond.holds .eq (own_vd ((own_fn bb x1 x2 n1 n2) n1)) = false) (he2 : ifCond.holds .eq (own_vd ((own_fn bb x1 x2 n1 n2) n2)) = true) (hWF : ∀ (sa b : Addr) (kd : ClassId) (h : Heap), Old Z n0 h → own_SS Z h sa b kd 44 (0 : Int32) (own_lat (own_fn bb x1 x2 n1 n2)) → own_MetW l Z Y28 prog_12_method_2_code 2 (some .boolean) ({ frames := 6, cells := 2, slots := 148, locals := 100 } : Room) #[xr sa] h (own_QL (some (xi (0 : Int32))) n0)) : own_MetW l Z x code maxLocals ret room_1 #[xi p1, xi p2, xi p3, xi p4, xi p5, xi p6] h0 (own_QL (some (xi (1 : Int32))) n0) := by
  intro ws
  refine MetFree.of_bodySF (plainFor_of_name pn2) hisR ?_
  intro p e s m args below meth c s₁ Bd hml0 hP hK
  obtain ⟨rfl, hZ, hh, hCH⟩ := hP
  have hx := Bd.exec
  have hby := Bd.bytes
  have hml : c.maxLocals = 22 := hml0
  have hown : s.vm.findClass "com/example/scopelock/scopelock/KeyWellFormedPinLaw" = some m.cls := findClass_of_methodNamed Bd.named
  have hnm := (name_of_methodNamed Bd.named Bd.method).1
  have X0 : Stand p l e room_1 s m #[xi p1, xi p2, xi p3, xi p4, xi p5, xi p6] below meth c s₁ [] 0 0 := Stand.of_body Bd
  have e0 : s₁.heap = h0 := by rw [← hh, Bd.state]; rfl
  have N0 := Fr.nil n0
  have pre0 : ∀ t, Steps p.tables e below (s₁.setTop (mkF m 0 #[vi p1, vi p2, vi p3, vi p4, vi p5, vi p6, vu, vu, vu, vu, vu, vu, vu, vu, vu, vu, vu, vu, vu, vu, vu, vu] [])) t → Steps p.tables e below (s₁.setTop (entryFrame m #[xi p1, xi p2, xi p3, xi p4, xi p5, xi p6] maxLocals)) t := fun t st => castTop (ef_own_law3_0tf m ki0 vf0 p1 p2 p3 p4 p5 p6 kk bb x1 x2 n1 n2 m1 m2 o1 o2) st
  obtain ⟨TP, LP, hPP, a43, a44, a45, k43, k44, k45, XP, eP, NP, OP, ⟨V43, V44, V45, KP⟩, stP⟩ := own_pre hw hj ki0 vf0 G p1 p2 p3 p4 p5 p6 kk bb x1 x2 n1 n2 m1 m2 o1 o2 as47 hcase as48 as49 as94 as139 as183 as227 as273 as319 hx hZ hby hml hown X0 e0 N0 O0 hn1 hn2 hm1 hm2 ho1 ho2
  obtain ⟨T1, h1, X1, e1, E1, A1, D1, -, st1⟩ := newO XP hx hZ hown (ww hw 13 rfl) (ww hw 14 rfl) (ww hw 15 rfl) eP (g := (mkF m 181 #[vi p1, vi p2, vi p3, vi p4, vi p5, vi p6, vi kk, vi bb, vi x1, vi x2, vi (p1 &&& (7 : Int32)), vr a43, vr a44, vr a45, vi (Int32.ofNat n1), vi (Int32.ofNat n2), vi (Int32.ofNat m1), vi (Int32.ofNat m2), vi (Int32.ofNat o1), vi (Int32.ofNat o2), vu, vu] [])) rfl (hb hby at_181) (by decide) (by decide)
  obtain ⟨b1, g1⟩ : ∃ z, z = hPP.size := ⟨_, rfl⟩
  rw [← g1] at A1 D1 st1
  have g_b1 : n0 ≤ b1 := own_fresh OP g1
  have ne_a43_b1 : a43 ≠ b1 := Nat.ne_of_lt (Nat.lt_of_lt_of_le (V43).lt (Nat.le_of_eq g1.symm))
  have ne_a44_b1 : a44 ≠ b1 := Nat.ne_of_lt (Nat.lt_of_lt_of_le (V44).lt (Nat.le_of_eq g1.symm))
  have ne_a45_b1 : a45 ≠ b1 := Nat.ne_of_lt (Nat.lt_of_lt_of_le (V45).lt (Nat.le_of_eq g1.symm))
  have sz_b1 : h0.size ≤ b1 := Nat.le_trans KP.1 (Nat.le_of_eq g1.symm)
  have O1 := OP.ext E1
  have Kp1 := KP.ext E1
  have V_a43_1 := V43.ext E1
  have V_a44_1 := V44.ext E1
  have V_a45_1 := V45.ext E1
  have F_b1_coder : Fld Z h1 b1 "java/lang/String" "coder" "B" (xi (0 : Int32)) := D1 (Or.inr (ww hw 39 rfl)) (ty := .byte) (by decide)
  have F_b1_value : Fld Z h1 b1 "java/lang/String" "value" "[B" .null := D1 (Or.inr (ww hw 41 rfl)) (ty := (.array .byte)) (by decide)
  obtain ⟨_, _, ⟨T2, L2, k2, n2⟩, -, X2, ⟨Lc2, hQ2, l2, y2, z2⟩, st2⟩ := X1.specialBack hx (y := Y9) rfl hown (mvT hZ (ww hw 16 rfl)) (mvT hZ (ww hw 17 rfl)) (mvT hZ (ww hw 18 rfl)) (by decide) (backOf (W := 1) (own_i1_0 l Z a0 hw hj ki0 vf0 G b1 a44 k44 44 (own_fn bb x1 x2 n1 n2) h1 n0 O1 (by decide) V_a44_1 (by decide) A1 F_b1_value F_b1_coder g_b1 (Ne.symm ne_a44_b1) hall []) hZ (ww hw 18 rfl) (ww hw 15 rfl) (by decide) (by decide)) (g := (mkF m 187 #[vi p1, vi p2, vi p3, vi p4, vi p5, vi p6, vi kk, vi bb, vi x1, vi x2, vi (p1 &&& (7 : Int32)), vr a43, vr a44, vr a45, vi (Int32.ofNat n1), vi (Int32.ofNat n2), vi (Int32.ofNat m1), vi (Int32.ofNat m2), vi (Int32.ofNat o1), vi (Int32.ofNat o2), vu, vu] [xr a44, xr b1, xr b1])) rfl (by rw [hml]; rfl) (Steps.refl _) (a := b1) (argsL := [xr a44]) (rest := [xr b1]) (lenOf pd20 rfl) rfl (by show 2 * 0 + _ ≤ _; exact Nat.le_of_eq rfl) (hb hby at_187) (fun _ _ => ⟨rfl, e1, (by decide : 4 + 2 ≤ _), (by decide : 136 + 135 ≤ _)⟩)
  dsimp only [Pt.U, Pt.locs, Pt.cells, Pt.slots] at X2 l2 y2 z2 st2 hQ2
  subst l2 y2 z2
  obtain ⟨h2, e2⟩ : ∃ z, T2.heap = z := ⟨_, rfl⟩
  rw [e2] at hQ2
  obtain ⟨rfl, Nq2, K2, b12, k12, SS2, g12⟩ := hQ2
  have N2 := Fr.app NP Nq2
  have O2 : Old Z n0 h2 := O1.keep K2 (allS g_b1 all0)
  have Kp2 : Keep h0 h2 [] := Kp1.trans K2 (allS (Or.inr sz_b1) all0)
  have V_a43_2 := V_a43_1.keep K2 (ninS ne_a43_b1 nin0)
  have V_a44_2 := V_a44_1.keep K2 (ninS ne_a44_b1 nin0)
  have V_a45_2 := V_a45_1.keep K2 (ninS ne_a45_b1 nin0)
  have X_b1_2 := A1.keep K2
  obtain ⟨EA2, FC2, FV2, VB2⟩ := id SS2
  obtain ⟨cl3, Ar3, q3, S3, N3_, H3, G3⟩ := id V_a44_2
  have hin3 : ¬ ((Int32.ofNat n1) < 0 ∨ cl3.slots.size ≤ ((Int32.ofNat n1)).toNatClampNeg) := inb_of S3 (own_in hn1 (by decide))
  have hat3 : cl3.slots[((Int32.ofNat n1)).toNatClampNeg]? = some (xi ((own_fn bb x1 x2 n1 n2) n1)) := Has.at H3 hin3 (by rw [own_nat (Nat.lt_trans hn1 (by decide))]; exact own_vs_get hn1)
  obtain ⟨_, _, ⟨T4, L4, k4, n4⟩, -, X4, ⟨Lc4, hQ4, l4, y4, z4⟩, st4⟩ := Jvm.LawKit.callS X2 hx (y := Y10) hown (mvT hZ (ww hw 42 rfl)) (mvT hZ (ww hw 43 rfl)) (mvT hZ (ww hw 4 rfl)) (mvT hZ (ww hw 44 rfl)) (by decide) (backOf (W := 0) (own_valid l Z a0 hw hj ki0 vf0 G ((own_fn bb x1 x2 n1 n2) n1) h2 n0 O2 []) hZ (ww hw 44 rfl) (ww hw 4 rfl) (by decide) (by decide)) (g := (mkF m 197 #[vi p1, vi p2, vi p3, vi p4, vi p5, vi p6, vi kk, vi bb, vi x1, vi x2, vi (p1 &&& (7 : Int32)), vr a43, vr a44, vr a45, vi (Int32.ofNat n1), vi (Int32.ofNat n2), vi (Int32.ofNat m1), vi (Int32.ofNat m2), vi (Int32.ofNat o1), vi (Int32.ofNat o2), vr b1, vu] [xi ((own_fn bb x1 x2 n1 n2) n1)])) rfl (by rw [hml]; rfl) (argsL := [xi ((own_fn bb x1 x2 n1 n2) n1)]) (rest := []) (lenOf pd21 rfl) rfl (by show 2 * 0 + _ ≤ _; exact Nat.le_of_eq rfl) (hb hby at_197) (fun _ _ => ⟨rfl, e2, (by decide : 6 + 0 ≤ _), (by decide : 271 + 0 ≤ _)⟩)
  dsimp only [Pt.U, Pt.locs, Pt.cells, Pt.slots] at X4 l4 y4 z4 st4 hQ4
  subst l4 y4 z4
  obtain ⟨rfl, Nq4, e4⟩ := hQ4
  have N4 := Fr.app N2 Nq4
  obtain ⟨cl5, Ar5, q5, S5, N5_, H5, G5⟩ := id V_a44_2
  have hin5 : ¬ ((Int32.ofNat n2) < 0 ∨ cl5.slots.size ≤ ((Int32.ofNat n2)).toNatClampNeg) := inb_of S5 (own_in hn2 (by decide))
  have hat5 : cl5.slots[((Int32.ofNat n2)).toNatClampNeg]? = some (xi ((own_fn bb x1 x2 n1 n2) n2)) := Has.at H5 hin5 (by rw [own_nat (Nat.lt_trans hn2 (by decide))]; exact own_vs_get hn2)
  obtain ⟨_, _, ⟨T6, L6, k6, n6⟩, -, X6, ⟨Lc6, hQ6, l6, y6, z6⟩, st6⟩ := Jvm.LawKit.callS X4 hx (y := Y10) hown (mvT hZ (ww hw 42 rfl)) (mvT hZ (ww hw 43 rfl)) (mvT hZ (ww hw 4 rfl)) (mvT hZ (ww hw 44 rfl)) (by decide) (backOf (W := 0) (own_valid l Z a0 hw hj ki0 vf0 G ((own_fn bb x1 x2 n1 n2) n2) h2 n0 O2 []) hZ (ww hw 44 rfl) (ww hw 4 rfl) (by decide) (by decide)) (g := (mkF m 208 #[vi p1, vi p2, vi p3, vi p4, vi p5, vi p6, vi kk, vi bb, vi x1, vi x2, vi (p1 &&& (7 : Int32)), vr a43, vr a44, vr a45, vi (Int32.ofNat n1), vi (Int32.ofNat n2), vi (Int32.ofNat m1), vi (Int32.ofNat m2), vi (Int32.ofNat o1), vi (Int32.ofNat o2), vr b1, vu] [xi ((own_fn bb x1 x2 n1 n2) n2)])) rfl (by rw [hml]; rfl) (argsL := [xi ((own_fn bb x1 x2 n1 n2) n2)]) (rest := []) (lenOf pd21 rfl) rfl (by show 2 * 0 + _ ≤ _; exact Nat.le_of_eq rfl) (hb hby at_208) (fun _ _ => ⟨rfl, e4, (by decide : 6 + 0 ≤ _), (by decide : 271 + 0 ≤ _)⟩)
  dsimp only [Pt.U, Pt.locs, Pt.cells, Pt.slots] at X6 l6 y6 z6 st6 hQ6
  subst l6 y6 z6
  obtain ⟨rfl, Nq6, e6⟩ := hQ6
  have N6 := Fr.app N4 Nq6
  obtain ⟨_, _, ⟨T7, L7, k7, n7⟩, -, X7, hS7, hg7, ⟨Lc7, hQ7, l7, y7, z7, hCr7⟩, st7⟩ := Jvm.RoadKit.callSS (s := s) X6 hx (y := Y28) hown (mvT hZ (ww hw 45 rfl)) (mvT hZ (ww hw 46 rfl)) (mvT hZ (ww hw 47 rfl)) (mvT hZ (ww hw 48 rfl)) (by decide) (backOfSH (s := s) (vm0 := s.vm) (W := 0) (hWF b1 b12 k12 h2 O2 ⟨EA2, FC2, FV2, VB2⟩ []) hZ (ww hw 48 rfl) (ww hw 47 rfl) (by decide) (by decide) (own_EW hw) (hCH.keep Kp2 all0)) (g := (mkF m 299 #[vi p1, vi p2, vi p3, vi p4, vi p5, vi p6, vi kk, vi bb, vi x1, vi x2, vi (p1 &&& (7 : Int32)), vr a43, vr a44, vr a45, vi (Int32.ofNat n1), vi (Int32.ofNat n2), vi (Int32.ofNat m1), vi (Int32.ofNat m2), vi (Int32.ofNat o1), vi (Int32.ofNat o2), vr b1, vi (0 : Int32)] [xr b1])) rfl (by rw [hml]; rfl) (argsL := [xr b1]) (rest := []) (lenOf pd22 rfl) rfl (by show 2 * 0 + _ ≤ _; exact Nat.le_of_eq rfl) (hb hby at_299) (fun _ _ => ⟨rfl, e6, (by decide : 6 + 2 ≤ _), (by decide : 271 + 148 ≤ _)⟩)
  dsimp only [Pt.U, Pt.locs, Pt.cells, Pt.slots] at X7 l7 y7 z7 st7 hQ7 hS7 hg7 hCr7
  subst l7 y7 z7
  obtain ⟨rfl, Nq7⟩ := hQ7
  have N7 := Fr.app N6 Nq7
  obtain ⟨fs, hr, hrun, hended, hW, hsame⟩ := X7.leave (v := some (xi (1 : Int32))) (fun h => by rw [Bd.returns] at h; cases h)
  have hend := hS7.ended hW (Nat.le_refl _) hsame
  have hZ2 : Z.Warmed39 T7.vm := State.Warmed39.trans hZ hS7.1
  have hq := (CHr.keep Kp2 all0 hCH).trans (hCr7.trans (CHv.at (s := s) (vm0 := T7.vm) X7 hZ2 (own_EW hw) hCr7.1))
  refine ⟨_, _, pre0 _ ?_, hrun, hended, _, _, rfl, ?_, ?_, ⟨_, rfl⟩, hend.1, hend.2.1, hend.2.2.mono (by decide) (by decide)⟩
  · show own_S p e below s₁ (mkF m 0 #[vi p1, vi p2, vi p3, vi p4, vi p5, vi p6, vu, vu, vu, vu, vu, vu, vu, vu, vu, vu, vu, vu, vu, vu, vu, vu] []) _
    refine stP _ ?_
    refine XS.iload XP.here hx rfl (hb hby at_175) rfl ?_
    refine XS.iconst XP.here hx rfl (hb hby at_177) ?_
    show own_S p e below TP (mkF m 178 #[vi p1, vi p2, vi p3, vi p4, vi p5, vi p6, vi kk, vi bb, vi x1, vi x2, vi (p1 &&& (7 : Int32)), vr a43, vr a44, vr a45, vi (Int32.ofNat n1), vi (Int32.ofNat n2), vi (Int32.ofNat m1), vi (Int32.ofNat m2), vi (Int32.ofNat o1), vi (Int32.ofNat o2), vu, vu] [xi (3 : Int32), xi (p1 &&& (7 : Int32))]) _
    refine XS.icmpNo XP.here hx rfl (hb hby at_178) rfl as324 ?_
    show own_S p e below TP (mkF m 181 #[vi p1, vi p2, vi p3, vi p4, vi p5, vi p6, vi kk, vi bb, vi x1, vi x2, vi (p1 &&& (7 : Int32)), vr a43, vr a44, vr a45, vi (Int32.ofNat n1), vi (Int32.ofNat n2), vi (Int32.ofNat m1), vi (Int32.ofNat m2), vi (Int32.ofNat o1), vi (Int32.ofNat o2), vu, vu] []) _
    refine st1 _ ?_
    refine XS.dup X1.here hx rfl (hb hby at_184) rfl rfl ?_
    refine XS.aload X1.here hx rfl (hb hby at_185) rfl rfl ?_
    show own_S p e below T1 (mkF m 187 #[vi p1, vi p2, vi p3, vi p4, vi p5, vi p6, vi kk, vi bb, vi x1, vi x2, vi (p1 &&& (7 : Int32)), vr a43, vr a44, vr a45, vi (Int32.ofNat n1), vi (Int32.ofNat n2), vi (Int32.ofNat m1), vi (Int32.ofNat m2), vi (Int32.ofNat o1), vi (Int32.ofNat o2), vu, vu] [xr a44, xr b1, xr b1]) _
    refine st2.trans ?_
    refine XS.astore X2.here hx rfl (hb hby at_190) rfl rfl (l' := #[vi p1, vi p2, vi p3, vi p4, vi p5, vi p6, vi kk, vi bb, vi x1, vi x2, vi (p1 &&& (7 : Int32)), vr a43, vr a44, vr a45, vi (Int32.ofNat n1), vi (Int32.ofNat n2), vi (Int32.ofNat m1), vi (Int32.ofNat m2), vi (Int32.ofNat o1), vi (Int32.ofNat o2), vr b1, vu]) rfl ?_
    refine XS.aload X2.here hx rfl (hb hby at_192) rfl rfl ?_
    refine XS.iload X2.here hx rfl (hb hby at_194) rfl ?_
    show own_S p e below T2 (mkF m 196 #[vi p1, vi p2, vi p3, vi p4, vi p5, vi p6, vi kk, vi bb, vi x1, vi x2, vi (p1 &&& (7 : Int32)), vr a43, vr a44, vr a45, vi (Int32.ofNat n1), vi (Int32.ofNat n2), vi (Int32.ofNat m1), vi (Int32.ofNat m2), vi (Int32.ofNat o1), vi (Int32.ofNat o2), vr b1, vu] [xi (Int32.ofNat n1), xr a44]) _
    refine X2.caload hx (j := (Int32.ofNat n1)) (v := (xi ((own_fn bb x1 x2 n1 n2) n1))) (by rw [e2]; exact Ar3.1) (State.isArrayOf_alike hZ.alike Ar3.2.1) Ar3.2.2 hin3 hat3 (g := (mkF m 196 #[vi p1, vi p2, vi p3, vi p4, vi p5, vi p6, vi kk, vi bb, vi x1, vi x2, vi (p1 &&& (7 : Int32)), vr a43, vr a44, vr a45, vi (Int32.ofNat n1), vi (Int32.ofNat n2), vi (Int32.ofNat m1), vi (Int32.ofNat m2), vi (Int32.ofNat o1), vi (Int32.ofNat o2), vr b1, vu] [xi (Int32.ofNat n1), xr a44])) rfl rfl (hb hby at_196) _ ?_
    show own_S p e below T2 (mkF m 197 #[vi p1, vi p2, vi p3, vi p4, vi p5, vi p6, vi kk, vi bb, vi x1, vi x2, vi (p1 &&& (7 : Int32)), vr a43, vr a44, vr a45, vi (Int32.ofNat n1), vi (Int32.ofNat n2), vi (Int32.ofNat m1), vi (Int32.ofNat m2), vi (Int32.ofNat o1), vi (Int32.ofNat o2), vr b1, vu] [xi ((own_fn bb x1 x2 n1 n2) n1)]) _
    refine st4 _ ?_
    show own_S p e below T4 (mkF m 200 #[vi p1, vi p2, vi p3, vi p4, vi p5, vi p6, vi kk, vi bb, vi x1, vi x2, vi (p1 &&& (7 : Int32)), vr a43, vr a44, vr a45, vi (Int32.ofNat n1), vi (Int32.ofNat n2), vi (Int32.ofNat m1), vi (Int32.ofNat m2), vi (Int32.ofNat o1), vi (Int32.ofNat o2), vr b1, vu] [xi (own_vd ((own_fn bb x1 x2 n1 n2) n1))]) _
    refine XS.ifNo X4.here hx rfl (hb hby at_200) rfl he1 ?_
    refine XS.aload X4.here hx rfl (hb hby at_203) rfl rfl ?_
    refine XS.iload X4.here hx rfl (hb hby at_205) rfl ?_
    show own_S p e below T4 (mkF m 207 #[vi p1, vi p2, vi p3, vi p4, vi p5, vi p6, vi kk, vi bb, vi x1, vi x2, vi (p1 &&& (7 : Int32)), vr a43, vr a44, vr a45, vi (Int32.ofNat n1), vi (Int32.ofNat n2), vi (Int32.ofNat m1), vi (Int32.ofNat m2), vi (Int32.ofNat o1), vi (Int32.ofNat o2), vr b1, vu] [xi (Int32.ofNat n2), xr a44]) _
    refine X4.caload hx (j := (Int32.ofNat n2)) (v := (xi ((own_fn bb x1 x2 n1 n2) n2))) (by rw [e4]; exact Ar5.1) (State.isArrayOf_alike hZ.alike Ar5.2.1) Ar5.2.2 hin5 hat5 (g := (mkF m 207 #[vi p1, vi p2, vi p3, vi p4, vi p5, vi p6, vi kk, vi bb, vi x1, vi x2, vi (p1 &&& (7 : Int32)), vr a43, vr a44, vr a45, vi (Int32.ofNat n1), vi (Int32.ofNat n2), vi (Int32.ofNat m1), vi (Int32.ofNat m2), vi (Int32.ofNat o1), vi (Int32.ofNat o2), vr b1, vu] [xi (Int32.ofNat n2), xr a44])) rfl rfl (hb hby at_207) _ ?_
    show own_S p e below T4 (mkF m 208 #[vi p1, vi p2, vi p3, vi p4, vi p5, vi p6, vi kk, vi bb, vi x1, vi x2, vi (p1 &&& (7 : Int32)), vr a43, vr a44, vr a45, vi (Int32.ofNat n1), vi (Int32.ofNat n2), vi (Int32.ofNat m1), vi (Int32.ofNat m2), vi (Int32.ofNat o1), vi (Int32.ofNat o2), vr b1, vu] [xi ((own_fn bb x1 x2 n1 n2) n2)]) _
    refine st6 _ ?_
    show own_S p e below T6 (mkF m 211 #[vi p1, vi p2, vi p3, vi p4, vi p5, vi p6, vi kk, vi bb, vi x1, vi x2, vi (p1 &&& (7 : Int32)), vr a43, vr a44, vr a45, vi (Int32.ofNat n1), vi (Int32.ofNat n2), vi (Int32.ofNat m1), vi (Int32.ofNat m2), vi (Int32.ofNat o1), vi (Int32.ofNat o2), vr b1, vu] [xi (own_vd ((own_fn bb x1 x2 n1 n2) n2))]) _
    refine XS.ifYes X6.here hx rfl (pc0 := 211) (pc' := 218) rfl (hb hby at_211) rfl he2 (by decide) (by decide) ?_
    refine XS.iconst X6.here hx rfl (hb hby at_218) ?_
    refine XS.istore X6.here hx rfl (hb hby at_219) rfl (l' := #[vi p1, vi p2, vi p3, vi p4, vi p5, vi p6, vi kk, vi bb, vi x1, vi x2, vi (p1 &&& (7 : Int32)), vr a43, vr a44, vr a45, vi (Int32.ofNat n1), vi (Int32.ofNat n2), vi (Int32.ofNat m1), vi (Int32.ofNat m2), vi (Int32.ofNat o1), vi (Int32.ofNat o2), vr b1, vi (0 : Int32)]) rfl ?_
    refine XS.goto X6.here hx rfl (pc0 := 221) (pc' := 297) rfl (hb hby at_221) (by decide) (by decide) ?_
    show own_S p e below T6 (mkF m 297 #[vi p1, vi p2, vi p3, vi p4, vi p5, vi p6, vi kk, vi bb, vi x1, vi x2, vi (p1 &&& (7 : Int32)), vr a43, vr a44, vr a45, vi (Int32.ofNat n1), vi (Int32.ofNat n2), vi (Int32.ofNat m1), vi (Int32.ofNat m2), vi (Int32.ofNat o1), vi (Int32.ofNat o2), vr b1, vi (0 : Int32)] []) _
    refine XS.aload X6.here hx rfl (hb hby at_297) rfl rfl ?_
    show own_S p e below T6 (mkF m 299 #[vi p1, vi p2, vi p3, vi p4, vi p5, vi p6, vi kk, vi bb, vi x1, vi x2, vi (p1 &&& (7 : Int32)), vr a43, vr a44, vr a45, vi (Int32.ofNat n1), vi (Int32.ofNat n2), vi (Int32.ofNat m1), vi (Int32.ofNat m2), vi (Int32.ofNat o1), vi (Int32.ofNat o2), vr b1, vi (0 : Int32)] [xr b1]) _
    refine st7.trans ?_
    refine XS.iload X7.here hx rfl (hb hby at_302) rfl ?_
    show own_S p e below T7 (mkF m 304 #[vi p1, vi p2, vi p3, vi p4, vi p5, vi p6, vi kk, vi bb, vi x1, vi x2, vi (p1 &&& (7 : Int32)), vr a43, vr a44, vr a45, vi (Int32.ofNat n1), vi (Int32.ofNat n2), vi (Int32.ofNat m1), vi (Int32.ofNat m2), vi (Int32.ofNat o1), vi (Int32.ofNat o2), vr b1, vi (0 : Int32)] [xi (0 : Int32), xi (0 : Int32)]) _
    refine XS.icmpNo X7.here hx rfl (hb hby at_304) rfl (by decide) ?_
    refine XS.iconst X7.here hx rfl (hb hby at_307) ?_
    refine XS.goto X7.here hx rfl (pc0 := 308) (pc' := 312) rfl (hb hby at_308) (by decide) (by decide) ?_
    show own_S p e below T7 (mkF m 312 #[vi p1, vi p2, vi p3, vi p4, vi p5, vi p6, vi kk, vi bb, vi x1, vi x2, vi (p1 &&& (7 : Int32)), vr a43, vr a44, vr a45, vi (Int32.ofNat n1), vi (Int32.ofNat n2), vi (Int32.ofNat m1), vi (Int32.ofNat m2), vi (Int32.ofNat o1), vi (Int32.ofNat o2), vr b1, vi (0 : Int32)] [xi (1 : Int32)]) _
    exact retN X7 hx (t := .boolean) Bd.returns (by simp) (hb hby at_312) hr
  · exact ⟨rfl, N7⟩
  · show CHr Z own_EL s.vm s.heap T7.vm T7.heap
    rw [hh]; exact hq
theorem ef_own_law3_1f (m : MethodId)  (ki0 : Int32) (vf0 : Value) (p1 : Int32) (p2 : Int32) (p3 : Int32) (p4 : Int32) (p5 : Int32) (p6 : Int32) (kk : Int32) (bb : Int32) (x1 : Int32) (x2 : Int32) (n1 : Nat) (n2 : Nat) (m1 : Nat) (m2 : Nat) (o1 : Nat) (o2 : Nat) : entryFrame m #[xi p1, xi p2, xi p3, xi p4, xi p5, xi p6] maxLocals = (mkF m 0 #[vi p1, vi p2, vi p3, vi p4, vi p5, vi p6, vu, vu, vu, vu, vu, vu, vu, vu, vu, vu, vu, vu, vu, vu, vu, vu] []) := by first | (simp [entryFrame, mkF, argsToLocals, Value.category, maxLocals]; done) | rfl
set_option maxRecDepth 65536 in
set_option maxHeartbeats 40000000 in
theorem own_law3_1f (l : Launch) (Z : State) (a0 : Array Value) (hw : ∀ d ∈ tables_1, d.before a0 Z = true) (hj : ∀ d ∈ jdkStatics_1, d.before a0 Z = true)  (ki0 : Int32) (vf0 : Value) (G : own_St Z hj ki0 vf0) (p1 : Int32) (p2 : Int32) (p3 : Int32) (p4 : Int32) (p5 : Int32) (p6 : Int32) (kk : Int32) (bb : Int32) (x1 : Int32) (x2 : Int32) (n1 : Nat) (n2 : Nat) (m1 : Nat) (m2 : Nat) (o1 : Nat) (o2 : Nat) (as324 : if_icmp.holds .gt (p1 &&& (7 : Int32)) (3 : Int32) = false) (h0 : Heap) (n0 : Nat) (O0 : Old Z n0 h0) (hcase : ((if_icmp.holds .ge kk (26 : Int32) = false) ∧ ((((97 : Int32) + kk).toUInt32.toUInt16.toUInt32.toInt32) = bb)) ∨ ((if_icmp.holds .ge kk (26 : Int32) = true) ∧ ((((48 : Int32) + (kk - (26 : Int32))).toUInt32.toUInt16.toUInt32.toInt32) = bb))) (as47 : ((p6 &&& (2147483647 : Int32)) - ((p6 &&& (2147483647 : Int32)) / (36 : Int32)) * (36 : Int32)) = kk) (as48 : ((p3 &&& (65535 : Int32)).toUInt32.toUInt16.toUInt32.toInt32) = x1) (as49 : ((p5 &&& (65535 : Int32)).toUInt32.toUInt16.toUInt32.toInt32) = x2) (as94 : ((p2 &&& (2147483647 : Int32)) - ((p2 &&& (2147483647 : Int32)) / (44 : Int32)) * (44 : Int32)) = (Int32.ofNat n1)) (as139 : ((p4 &&& (2147483647 : Int32)) - ((p4 &&& (2147483647 : Int32)) / (44 : Int32)) * (44 : Int32)) = (Int32.ofNat n2)) (as183 : ((p2 &&& (2147483647 : Int32)) - ((p2 &&& (2147483647 : Int32)) / (43 : Int32)) * (43 : Int32)) = (Int32.ofNat m1)) (as227 : ((p4 &&& (2147483647 : Int32)) - ((p4 &&& (2147483647 : Int32)) / (43 : Int32)) * (43 : Int32)) = (Int32.ofNat m2)) (as273 : ((p2 &&& (2147483647 : Int32)) - ((p2 &&& (2147483647 : Int32)) / (45 : Int32)) * (45 : Int32)) = (Int32.ofNat o1)) (as319 : ((p4 &&& (2147483647 : Int32)) - ((p4 &&& (2147483647 : Int32)) / (45 : Int32)) * (45 : Int32)) = (Int32.ofNat o2)) (hn1 : n1 < 44) (hn2 : n2 < 44) (hm1 : m1 < 43) (hm2 : m2 < 43) (ho1 : o1 < 45) (ho2 : o2 < 45) (mm : Nat) (hch : ∀ j, j < 44 → 0 ≤ ((own_fn bb x1 x2 n1 n2) j).toInt ∧ ((own_fn bb x1 x2 n1 n2) j).toInt < 65536) (hlt : mm < 44) (hgt : if_icmp.holds .le ((own_fn bb x1 x2 n1 n2) mm) (255 : Int32) = false) (hall : ∀ j, j < mm → if_icmp.holds .le ((own_fn bb x1 x2 n1 n2) j) (255 : Int32) = true) (he1 : ifCond.holds .eq (own_vd ((own_fn bb x1 x2 n1 n2) n1)) = true) (hWF : ∀ (sa b : Addr) (kd : ClassId) (h : Heap), Old Z n0 h → own_SS Z h sa b kd (2 * 44) (1 : Int32) (own_u16 (own_fn bb x1 x2 n1 n2)) → own_MetW l Z Y28 prog_12_method_2_code 2 (some .boolean) ({ frames := 6, cells := 2, slots := 148, locals := 100 } : Room) #[xr sa] h (own_QL (some (xi (0 : Int32))) n0)) : own_MetW l Z x code maxLocals ret room_1 #[xi p1, xi p2, xi p3, xi p4, xi p5, xi p6] h0 (own_QL (some (xi (1 : Int32))) n0) := by
  intro ws
  refine MetFree.of_bodySF (plainFor_of_name pn2) hisR ?_
  intro p e s m args below meth c s₁ Bd hml0 hP hK
  obtain ⟨rfl, hZ, hh, hCH⟩ := hP
  have hx := Bd.exec
  have hby := Bd.bytes
  have hml : c.maxLocals = 22 := hml0
  have hown : s.vm.findClass "com/example/scopelock/scopelock/KeyWellFormedPinLaw" = some m.cls := findClass_of_methodNamed Bd.named
  have hnm := (name_of_methodNamed Bd.named Bd.method).1
  have X0 : Stand p l e room_1 s m #[xi p1, xi p2, xi p3, xi p4, xi p5, xi p6] below meth c s₁ [] 0 0 := Stand.of_body Bd
  have e0 : s₁.heap = h0 := by rw [← hh, Bd.state]; rfl
  have N0 := Fr.nil n0
  have pre0 : ∀ t, Steps p.tables e below (s₁.setTop (mkF m 0 #[vi p1, vi p2, vi p3, vi p4, vi p5, vi p6, vu, vu, vu, vu, vu, vu, vu, vu, vu, vu, vu, vu, vu, vu, vu, vu] [])) t → Steps p.tables e below (s₁.setTop (entryFrame m #[xi p1, xi p2, xi p3, xi p4, xi p5, xi p6] maxLocals)) t := fun t st => castTop (ef_own_law3_1f m ki0 vf0 p1 p2 p3 p4 p5 p6 kk bb x1 x2 n1 n2 m1 m2 o1 o2) st
  obtain ⟨TP, LP, hPP, a43, a44, a45, k43, k44, k45, XP, eP, NP, OP, ⟨V43, V44, V45, KP⟩, stP⟩ := own_pre hw hj ki0 vf0 G p1 p2 p3 p4 p5 p6 kk bb x1 x2 n1 n2 m1 m2 o1 o2 as47 hcase as48 as49 as94 as139 as183 as227 as273 as319 hx hZ hby hml hown X0 e0 N0 O0 hn1 hn2 hm1 hm2 ho1 ho2
  obtain ⟨T1, h1, X1, e1, E1, A1, D1, -, st1⟩ := newO XP hx hZ hown (ww hw 13 rfl) (ww hw 14 rfl) (ww hw 15 rfl) eP (g := (mkF m 181 #[vi p1, vi p2, vi p3, vi p4, vi p5, vi p6, vi kk, vi bb, vi x1, vi x2, vi (p1 &&& (7 : Int32)), vr a43, vr a44, vr a45, vi (Int32.ofNat n1), vi (Int32.ofNat n2), vi (Int32.ofNat m1), vi (Int32.ofNat m2), vi (Int32.ofNat o1), vi (Int32.ofNat o2), vu, vu] [])) rfl (hb hby at_181) (by decide) (by decide)
  obtain ⟨b1, g1⟩ : ∃ z, z = hPP.size := ⟨_, rfl⟩
  rw [← g1] at A1 D1 st1
  have g_b1 : n0 ≤ b1 := own_fresh OP g1
  have ne_a43_b1 : a43 ≠ b1 := Nat.ne_of_lt (Nat.lt_of_lt_of_le (V43).lt (Nat.le_of_eq g1.symm))
  have ne_a44_b1 : a44 ≠ b1 := Nat.ne_of_lt (Nat.lt_of_lt_of_le (V44).lt (Nat.le_of_eq g1.symm))
  have ne_a45_b1 : a45 ≠ b1 := Nat.ne_of_lt (Nat.lt_of_lt_of_le (V45).lt (Nat.le_of_eq g1.symm))
  have sz_b1 : h0.size ≤ b1 := Nat.le_trans KP.1 (Nat.le_of_eq g1.symm)
  have O1 := OP.ext E1
  have Kp1 := KP.ext E1
  have V_a43_1 := V43.ext E1
  have V_a44_1 := V44.ext E1
  have V_a45_1 := V45.ext E1
  have F_b1_coder : Fld Z h1 b1 "java/lang/String" "coder" "B" (xi (0 : Int32)) := D1 (Or.inr (ww hw 39 rfl)) (ty := .byte) (by decide)
  have F_b1_value : Fld Z h1 b1 "java/lang/String" "value" "[B" .null := D1 (Or.inr (ww hw 41 rfl)) (ty := (.array .byte)) (by decide)
  obtain ⟨_, _, ⟨T2, L2, k2, n2⟩, -, X2, ⟨Lc2, hQ2, l2, y2, z2⟩, st2⟩ := X1.specialBack hx (y := Y9) rfl hown (mvT hZ (ww hw 16 rfl)) (mvT hZ (ww hw 17 rfl)) (mvT hZ (ww hw 18 rfl)) (by decide) (backOf (W := 1) (own_i1_1 l Z a0 hw hj ki0 vf0 G b1 a44 k44 44 (own_fn bb x1 x2 n1 n2) mm h1 n0 O1 (by decide) V_a44_1 (by decide) A1 F_b1_value F_b1_coder g_b1 (Ne.symm ne_a44_b1) hall hch hlt hgt []) hZ (ww hw 18 rfl) (ww hw 15 rfl) (by decide) (by decide)) (g := (mkF m 187 #[vi p1, vi p2, vi p3, vi p4, vi p5, vi p6, vi kk, vi bb, vi x1, vi x2, vi (p1 &&& (7 : Int32)), vr a43, vr a44, vr a45, vi (Int32.ofNat n1), vi (Int32.ofNat n2), vi (Int32.ofNat m1), vi (Int32.ofNat m2), vi (Int32.ofNat o1), vi (Int32.ofNat o2), vu, vu] [xr a44, xr b1, xr b1])) rfl (by rw [hml]; rfl) (Steps.refl _) (a := b1) (argsL := [xr a44]) (rest := [xr b1]) (lenOf pd20 rfl) rfl (by show 2 * 0 + _ ≤ _; exact Nat.le_of_eq rfl) (hb hby at_187) (fun _ _ => ⟨rfl, e1, (by decide : 4 + 2 ≤ _), (by decide : 136 + 135 ≤ _)⟩)
  dsimp only [Pt.U, Pt.locs, Pt.cells, Pt.slots] at X2 l2 y2 z2 st2 hQ2
  subst l2 y2 z2
  obtain ⟨h2, e2⟩ : ∃ z, T2.heap = z := ⟨_, rfl⟩
  rw [e2] at hQ2
  obtain ⟨rfl, Nq2, K2, b12, k12, SS2, g12⟩ := hQ2
  have N2 := Fr.app NP Nq2
  have O2 : Old Z n0 h2 := O1.keep K2 (allS g_b1 all0)
  have Kp2 : Keep h0 h2 [] := Kp1.trans K2 (allS (Or.inr sz_b1) all0)
  have V_a43_2 := V_a43_1.keep K2 (ninS ne_a43_b1 nin0)
  have V_a44_2 := V_a44_1.keep K2 (ninS ne_a44_b1 nin0)
  have V_a45_2 := V_a45_1.keep K2 (ninS ne_a45_b1 nin0)
  have X_b1_2 := A1.keep K2
  obtain ⟨EA2, FC2, FV2, VB2⟩ := id SS2
  obtain ⟨cl3, Ar3, q3, S3, N3_, H3, G3⟩ := id V_a44_2
  have hin3 : ¬ ((Int32.ofNat n1) < 0 ∨ cl3.slots.size ≤ ((Int32.ofNat n1)).toNatClampNeg) := inb_of S3 (own_in hn1 (by decide))
  have hat3 : cl3.slots[((Int32.ofNat n1)).toNatClampNeg]? = some (xi ((own_fn bb x1 x2 n1 n2) n1)) := Has.at H3 hin3 (by rw [own_nat (Nat.lt_trans hn1 (by decide))]; exact own_vs_get hn1)
  obtain ⟨_, _, ⟨T4, L4, k4, n4⟩, -, X4, ⟨Lc4, hQ4, l4, y4, z4⟩, st4⟩ := Jvm.LawKit.callS X2 hx (y := Y10) hown (mvT hZ (ww hw 42 rfl)) (mvT hZ (ww hw 43 rfl)) (mvT hZ (ww hw 4 rfl)) (mvT hZ (ww hw 44 rfl)) (by decide) (backOf (W := 0) (own_valid l Z a0 hw hj ki0 vf0 G ((own_fn bb x1 x2 n1 n2) n1) h2 n0 O2 []) hZ (ww hw 44 rfl) (ww hw 4 rfl) (by decide) (by decide)) (g := (mkF m 197 #[vi p1, vi p2, vi p3, vi p4, vi p5, vi p6, vi kk, vi bb, vi x1, vi x2, vi (p1 &&& (7 : Int32)), vr a43, vr a44, vr a45, vi (Int32.ofNat n1), vi (Int32.ofNat n2), vi (Int32.ofNat m1), vi (Int32.ofNat m2), vi (Int32.ofNat o1), vi (Int32.ofNat o2), vr b1, vu] [xi ((own_fn bb x1 x2 n1 n2) n1)])) rfl (by rw [hml]; rfl) (argsL := [xi ((own_fn bb x1 x2 n1 n2) n1)]) (rest := []) (lenOf pd21 rfl) rfl (by show 2 * 0 + _ ≤ _; exact Nat.le_of_eq rfl) (hb hby at_197) (fun _ _ => ⟨rfl, e2, (by decide : 6 + 0 ≤ _), (by decide : 271 + 0 ≤ _)⟩)
  dsimp only [Pt.U, Pt.locs, Pt.cells, Pt.slots] at X4 l4 y4 z4 st4 hQ4
  subst l4 y4 z4
  obtain ⟨rfl, Nq4, e4⟩ := hQ4
  have N4 := Fr.app N2 Nq4
  obtain ⟨_, _, ⟨T5, L5, k5, n5⟩, -, X5, hS5, hg5, ⟨Lc5, hQ5, l5, y5, z5, hCr5⟩, st5⟩ := Jvm.RoadKit.callSS (s := s) X4 hx (y := Y28) hown (mvT hZ (ww hw 45 rfl)) (mvT hZ (ww hw 46 rfl)) (mvT hZ (ww hw 47 rfl)) (mvT hZ (ww hw 48 rfl)) (by decide) (backOfSH (s := s) (vm0 := s.vm) (W := 0) (hWF b1 b12 k12 h2 O2 ⟨EA2, FC2, FV2, VB2⟩ []) hZ (ww hw 48 rfl) (ww hw 47 rfl) (by decide) (by decide) (own_EW hw) (hCH.keep Kp2 all0)) (g := (mkF m 299 #[vi p1, vi p2, vi p3, vi p4, vi p5, vi p6, vi kk, vi bb, vi x1, vi x2, vi (p1 &&& (7 : Int32)), vr a43, vr a44, vr a45, vi (Int32.ofNat n1), vi (Int32.ofNat n2), vi (Int32.ofNat m1), vi (Int32.ofNat m2), vi (Int32.ofNat o1), vi (Int32.ofNat o2), vr b1, vi (0 : Int32)] [xr b1])) rfl (by rw [hml]; rfl) (argsL := [xr b1]) (rest := []) (lenOf pd22 rfl) rfl (by show 2 * 0 + _ ≤ _; exact Nat.le_of_eq rfl) (hb hby at_299) (fun _ _ => ⟨rfl, e4, (by decide : 6 + 2 ≤ _), (by decide : 271 + 148 ≤ _)⟩)
  dsimp only [Pt.U, Pt.locs, Pt.cells, Pt.slots] at X5 l5 y5 z5 st5 hQ5 hS5 hg5 hCr5
  subst l5 y5 z5
  obtain ⟨rfl, Nq5⟩ := hQ5
  have N5 := Fr.app N4 Nq5
  obtain ⟨fs, hr, hrun, hended, hW, hsame⟩ := X5.leave (v := some (xi (1 : Int32))) (fun h => by rw [Bd.returns] at h; cases h)
  have hend := hS5.ended hW (Nat.le_refl _) hsame
  have hZ2 : Z.Warmed39 T5.vm := State.Warmed39.trans hZ hS5.1
  have hq := (CHr.keep Kp2 all0 hCH).trans (hCr5.trans (CHv.at (s := s) (vm0 := T5.vm) X5 hZ2 (own_EW hw) hCr5.1))
  refine ⟨_, _, pre0 _ ?_, hrun, hended, _, _, rfl, ?_, ?_, ⟨_, rfl⟩, hend.1, hend.2.1, hend.2.2.mono (by decide) (by decide)⟩
  · show own_S p e below s₁ (mkF m 0 #[vi p1, vi p2, vi p3, vi p4, vi p5, vi p6, vu, vu, vu, vu, vu, vu, vu, vu, vu, vu, vu, vu, vu, vu, vu, vu] []) _
    refine stP _ ?_
    refine XS.iload XP.here hx rfl (hb hby at_175) rfl ?_
    refine XS.iconst XP.here hx rfl (hb hby at_177) ?_
    show own_S p e below TP (mkF m 178 #[vi p1, vi p2, vi p3, vi p4, vi p5, vi p6, vi kk, vi bb, vi x1, vi x2, vi (p1 &&& (7 : Int32)), vr a43, vr a44, vr a45, vi (Int32.ofNat n1), vi (Int32.ofNat n2), vi (Int32.ofNat m1), vi (Int32.ofNat m2), vi (Int32.ofNat o1), vi (Int32.ofNat o2), vu, vu] [xi (3 : Int32), xi (p1 &&& (7 : Int32))]) _
    refine XS.icmpNo XP.here hx rfl (hb hby at_178) rfl as324 ?_
    show own_S p e below TP (mkF m 181 #[vi p1, vi p2, vi p3, vi p4, vi p5, vi p6, vi kk, vi bb, vi x1, vi x2, vi (p1 &&& (7 : Int32)), vr a43, vr a44, vr a45, vi (Int32.ofNat n1), vi (Int32.ofNat n2), vi (Int32.ofNat m1), vi (Int32.ofNat m2), vi (Int32.ofNat o1), vi (Int32.ofNat o2), vu, vu] []) _
    refine st1 _ ?_
    refine XS.dup X1.here hx rfl (hb hby at_184) rfl rfl ?_
    refine XS.aload X1.here hx rfl (hb hby at_185) rfl rfl ?_
    show own_S p e below T1 (mkF m 187 #[vi p1, vi p2, vi p3, vi p4, vi p5, vi p6, vi kk, vi bb, vi x1, vi x2, vi (p1 &&& (7 : Int32)), vr a43, vr a44, vr a45, vi (Int32.ofNat n1), vi (Int32.ofNat n2), vi (Int32.ofNat m1), vi (Int32.ofNat m2), vi (Int32.ofNat o1), vi (Int32.ofNat o2), vu, vu] [xr a44, xr b1, xr b1]) _
    refine st2.trans ?_
    refine XS.astore X2.here hx rfl (hb hby at_190) rfl rfl (l' := #[vi p1, vi p2, vi p3, vi p4, vi p5, vi p6, vi kk, vi bb, vi x1, vi x2, vi (p1 &&& (7 : Int32)), vr a43, vr a44, vr a45, vi (Int32.ofNat n1), vi (Int32.ofNat n2), vi (Int32.ofNat m1), vi (Int32.ofNat m2), vi (Int32.ofNat o1), vi (Int32.ofNat o2), vr b1, vu]) rfl ?_
    refine XS.aload X2.here hx rfl (hb hby at_192) rfl rfl ?_
    refine XS.iload X2.here hx rfl (hb hby at_194) rfl ?_
    show own_S p e below T2 (mkF m 196 #[vi p1, vi p2, vi p3, vi p4, vi p5, vi p6, vi kk, vi bb, vi x1, vi x2, vi (p1 &&& (7 : Int32)), vr a43, vr a44, vr a45, vi (Int32.ofNat n1), vi (Int32.ofNat n2), vi (Int32.ofNat m1), vi (Int32.ofNat m2), vi (Int32.ofNat o1), vi (Int32.ofNat o2), vr b1, vu] [xi (Int32.ofNat n1), xr a44]) _
    refine X2.caload hx (j := (Int32.ofNat n1)) (v := (xi ((own_fn bb x1 x2 n1 n2) n1))) (by rw [e2]; exact Ar3.1) (State.isArrayOf_alike hZ.alike Ar3.2.1) Ar3.2.2 hin3 hat3 (g := (mkF m 196 #[vi p1, vi p2, vi p3, vi p4, vi p5, vi p6, vi kk, vi bb, vi x1, vi x2, vi (p1 &&& (7 : Int32)), vr a43, vr a44, vr a45, vi (Int32.ofNat n1), vi (Int32.ofNat n2), vi (Int32.ofNat m1), vi (Int32.ofNat m2), vi (Int32.ofNat o1), vi (Int32.ofNat o2), vr b1, vu] [xi (Int32.ofNat n1), xr a44])) rfl rfl (hb hby at_196) _ ?_
    show own_S p e below T2 (mkF m 197 #[vi p1, vi p2, vi p3, vi p4, vi p5, vi p6, vi kk, vi bb, vi x1, vi x2, vi (p1 &&& (7 : Int32)), vr a43, vr a44, vr a45, vi (Int32.ofNat n1), vi (Int32.ofNat n2), vi (Int32.ofNat m1), vi (Int32.ofNat m2), vi (Int32.ofNat o1), vi (Int32.ofNat o2), vr b1, vu] [xi ((own_fn bb x1 x2 n1 n2) n1)]) _
    refine st4 _ ?_
    show own_S p e below T4 (mkF m 200 #[vi p1, vi p2, vi p3, vi p4, vi p5, vi p6, vi kk, vi bb, vi x1, vi x2, vi (p1 &&& (7 : Int32)), vr a43, vr a44, vr a45, vi (Int32.ofNat n1), vi (Int32.ofNat n2), vi (Int32.ofNat m1), vi (Int32.ofNat m2), vi (Int32.ofNat o1), vi (Int32.ofNat o2), vr b1, vu] [xi (own_vd ((own_fn bb x1 x2 n1 n2) n1))]) _
    refine XS.ifYes X4.here hx rfl (pc0 := 200) (pc' := 218) rfl (hb hby at_200) rfl he1 (by decide) (by decide) ?_
    refine XS.iconst X4.here hx rfl (hb hby at_218) ?_
    refine XS.istore X4.here hx rfl (hb hby at_219) rfl (l' := #[vi p1, vi p2, vi p3, vi p4, vi p5, vi p6, vi kk, vi bb, vi x1, vi x2, vi (p1 &&& (7 : Int32)), vr a43, vr a44, vr a45, vi (Int32.ofNat n1), vi (Int32.ofNat n2), vi (Int32.ofNat m1), vi (Int32.ofNat m2), vi (Int32.ofNat o1), vi (Int32.ofNat o2), vr b1, vi (0 : Int32)]) rfl ?_
    refine XS.goto X4.here hx rfl (pc0 := 221) (pc' := 297) rfl (hb hby at_221) (by decide) (by decide) ?_
    show own_S p e below T4 (mkF m 297 #[vi p1, vi p2, vi p3, vi p4, vi p5, vi p6, vi kk, vi bb, vi x1, vi x2, vi (p1 &&& (7 : Int32)), vr a43, vr a44, vr a45, vi (Int32.ofNat n1), vi (Int32.ofNat n2), vi (Int32.ofNat m1), vi (Int32.ofNat m2), vi (Int32.ofNat o1), vi (Int32.ofNat o2), vr b1, vi (0 : Int32)] []) _
    refine XS.aload X4.here hx rfl (hb hby at_297) rfl rfl ?_
    show own_S p e below T4 (mkF m 299 #[vi p1, vi p2, vi p3, vi p4, vi p5, vi p6, vi kk, vi bb, vi x1, vi x2, vi (p1 &&& (7 : Int32)), vr a43, vr a44, vr a45, vi (Int32.ofNat n1), vi (Int32.ofNat n2), vi (Int32.ofNat m1), vi (Int32.ofNat m2), vi (Int32.ofNat o1), vi (Int32.ofNat o2), vr b1, vi (0 : Int32)] [xr b1]) _
    refine st5.trans ?_
    refine XS.iload X5.here hx rfl (hb hby at_302) rfl ?_
    show own_S p e below T5 (mkF m 304 #[vi p1, vi p2, vi p3, vi p4, vi p5, vi p6, vi kk, vi bb, vi x1, vi x2, vi (p1 &&& (7 : Int32)), vr a43, vr a44, vr a45, vi (Int32.ofNat n1), vi (Int32.ofNat n2), vi (Int32.ofNat m1), vi (Int32.ofNat m2), vi (Int32.ofNat o1), vi (Int32.ofNat o2), vr b1, vi (0 : Int32)] [xi (0 : Int32), xi (0 : Int32)]) _
    refine XS.icmpNo X5.here hx rfl (hb hby at_304) rfl (by decide) ?_
    refine XS.iconst X5.here hx rfl (hb hby at_307) ?_
    refine XS.goto X5.here hx rfl (pc0 := 308) (pc' := 312) rfl (hb hby at_308) (by decide) (by decide) ?_
    show own_S p e below T5 (mkF m 312 #[vi p1, vi p2, vi p3, vi p4, vi p5, vi p6, vi kk, vi bb, vi x1, vi x2, vi (p1 &&& (7 : Int32)), vr a43, vr a44, vr a45, vi (Int32.ofNat n1), vi (Int32.ofNat n2), vi (Int32.ofNat m1), vi (Int32.ofNat m2), vi (Int32.ofNat o1), vi (Int32.ofNat o2), vr b1, vi (0 : Int32)] [xi (1 : Int32)]) _
    exact retN X5 hx (t := .boolean) Bd.returns (by simp) (hb hby at_312) hr
  · exact ⟨rfl, N5⟩
  · show CHr Z own_EL s.vm s.heap T5.vm T5.heap
    rw [hh]; exact hq
theorem ef_own_law3_1tf (m : MethodId)  (ki0 : Int32) (vf0 : Value) (p1 : Int32) (p2 : Int32) (p3 : Int32) (p4 : Int32) (p5 : Int32) (p6 : Int32) (kk : Int32) (bb : Int32) (x1 : Int32) (x2 : Int32) (n1 : Nat) (n2 : Nat) (m1 : Nat) (m2 : Nat) (o1 : Nat) (o2 : Nat) : entryFrame m #[xi p1, xi p2, xi p3, xi p4, xi p5, xi p6] maxLocals = (mkF m 0 #[vi p1, vi p2, vi p3, vi p4, vi p5, vi p6, vu, vu, vu, vu, vu, vu, vu, vu, vu, vu, vu, vu, vu, vu, vu, vu] []) := by first | (simp [entryFrame, mkF, argsToLocals, Value.category, maxLocals]; done) | rfl
set_option maxRecDepth 65536 in
set_option maxHeartbeats 40000000 in
theorem own_law3_1tf (l : Launch) (Z : State) (a0 : Array Value) (hw : ∀ d ∈ tables_1, d.before a0 Z = true) (hj : ∀ d ∈ jdkStatics_1, d.before a0 Z = true)  (ki0 : Int32) (vf0 : Value) (G : own_St Z hj ki0 vf0) (p1 : Int32) (p2 : Int32) (p3 : Int32) (p4 : Int32) (p5 : Int32) (p6 : Int32) (kk : Int32) (bb : Int32) (x1 : Int32) (x2 : Int32) (n1 : Nat) (n2 : Nat) (m1 : Nat) (m2 : Nat) (o1 : Nat) (o2 : Nat) (as324 : if_icmp.holds .gt (p1 &&& (7 : Int32)) (3 : Int32) = false) (h0 : Heap) (n0 : Nat) (O0 : Old Z n0 h0) (hcase : ((if_icmp.holds .ge kk (26 : Int32) = false) ∧ ((((97 : Int32) + kk).toUInt32.toUInt16.toUInt32.toInt32) = bb)) ∨ ((if_icmp.holds .ge kk (26 : Int32) = true) ∧ ((((48 : Int32) + (kk - (26 : Int32))).toUInt32.toUInt16.toUInt32.toInt32) = bb))) (as47 : ((p6 &&& (2147483647 : Int32)) - ((p6 &&& (2147483647 : Int32)) / (36 : Int32)) * (36 : Int32)) = kk) (as48 : ((p3 &&& (65535 : Int32)).toUInt32.toUInt16.toUInt32.toInt32) = x1) (as49 : ((p5 &&& (65535 : Int32)).toUInt32.toUInt16.toUInt32.toInt32) = x2) (as94 : ((p2 &&& (2147483647 : Int32)) - ((p2 &&& (2147483647 : Int32)) / (44 : Int32)) * (44 : Int32)) = (Int32.ofNat n1)) (as139 : ((p4 &&& (2147483647 : Int32)) - ((p4 &&& (2147483647 : Int32)) / (44 : Int32)) * (44 : Int32)) = (Int32.ofNat n2)) (as183 : ((p2 &&& (2147483647 : Int32)) - ((p2 &&& (2147483647 : Int32)) / (43 : Int32)) * (43 : Int32)) = (Int32.ofNat m1)) (as227 : ((p4 &&& (2147483647 : Int32)) - ((p4 &&& (2147483647 : Int32)) / (43 : Int32)) * (43 : Int32)) = (Int32.ofNat m2)) (as273 : ((p2 &&& (2147483647 : Int32)) - ((p2 &&& (2147483647 : Int32)) / (45 : Int32)) * (45 : Int32)) = (Int32.ofNat o1)) (as319 : ((p4 &&& (2147483647 : Int32)) - ((p4 &&& (2147483647 : Int32)) / (45 : Int32)) * (45 : Int32)) = (Int32.ofNat o2)) (hn1 : n1 < 44) (hn2 : n2 < 44) (hm1 : m1 < 43) (hm2 : m2 < 43) (ho1 : o1 < 45) (ho2 : o2 < 45) (mm : Nat) (hch : ∀ j, j < 44 → 0 ≤ ((own_fn bb x1 x2 n1 n2) j).toInt ∧ ((own_fn bb x1 x2 n1 n2) j).toInt < 65536) (hlt : mm < 44) (hgt : if_icmp.holds .le ((own_fn bb x1 x2 n1 n2) mm) (255 : Int32) = false) (hall : ∀ j, j < mm → if_icmp.holds .le ((own_fn bb x1 x2 n1 n2) j) (255 : Int32) = true) (he1 : ifCond.holds .eq (own_vd ((own_fn bb x1 x2 n1 n2) n1)) = false) (he2 : ifCond.holds .eq (own_vd ((own_fn bb x1 x2 n1 n2) n2)) = true) (hWF : ∀ (sa b : Addr) (kd : ClassId) (h : Heap), Old Z n0 h → own_SS Z h sa b kd (2 * 44) (1 : Int32) (own_u16 (own_fn bb x1 x2 n1 n2)) → own_MetW l Z Y28 prog_12_method_2_code 2 (some .boolean) ({ frames := 6, cells := 2, slots := 148, locals := 100 } : Room) #[xr sa] h (own_QL (some (xi (0 : Int32))) n0)) : own_MetW l Z x code maxLocals ret room_1 #[xi p1, xi p2, xi p3, xi p4, xi p5, xi p6] h0 (own_QL (some (xi (1 : Int32))) n0) := by
  intro ws
  refine MetFree.of_bodySF (plainFor_of_name pn2) hisR ?_
  intro p e s m args below meth c s₁ Bd hml0 hP hK
  obtain ⟨rfl, hZ, hh, hCH⟩ := hP
  have hx := Bd.exec
  have hby := Bd.bytes
  have hml : c.maxLocals = 22 := hml0
  have hown : s.vm.findClass "com/example/scopelock/scopelock/KeyWellFormedPinLaw" = some m.cls := findClass_of_methodNamed Bd.named
  have hnm := (name_of_methodNamed Bd.named Bd.method).1
  have X0 : Stand p l e room_1 s m #[xi p1, xi p2, xi p3, xi p4, xi p5, xi p6] below meth c s₁ [] 0 0 := Stand.of_body Bd
  have e0 : s₁.heap = h0 := by rw [← hh, Bd.state]; rfl
  have N0 := Fr.nil n0
  have pre0 : ∀ t, Steps p.tables e below (s₁.setTop (mkF m 0 #[vi p1, vi p2, vi p3, vi p4, vi p5, vi p6, vu, vu, vu, vu, vu, vu, vu, vu, vu, vu, vu, vu, vu, vu, vu, vu] [])) t → Steps p.tables e below (s₁.setTop (entryFrame m #[xi p1, xi p2, xi p3, xi p4, xi p5, xi p6] maxLocals)) t := fun t st => castTop (ef_own_law3_1tf m ki0 vf0 p1 p2 p3 p4 p5 p6 kk bb x1 x2 n1 n2 m1 m2 o1 o2) st
  obtain ⟨TP, LP, hPP, a43, a44, a45, k43, k44, k45, XP, eP, NP, OP, ⟨V43, V44, V45, KP⟩, stP⟩ := own_pre hw hj ki0 vf0 G p1 p2 p3 p4 p5 p6 kk bb x1 x2 n1 n2 m1 m2 o1 o2 as47 hcase as48 as49 as94 as139 as183 as227 as273 as319 hx hZ hby hml hown X0 e0 N0 O0 hn1 hn2 hm1 hm2 ho1 ho2
  obtain ⟨T1, h1, X1, e1, E1, A1, D1, -, st1⟩ := newO XP hx hZ hown (ww hw 13 rfl) (ww hw 14 rfl) (ww hw 15 rfl) eP (g := (mkF m 181 #[vi p1, vi p2, vi p3, vi p4, vi p5, vi p6, vi kk, vi bb, vi x1, vi x2, vi (p1 &&& (7 : Int32)), vr a43, vr a44, vr a45, vi (Int32.ofNat n1), vi (Int32.ofNat n2), vi (Int32.ofNat m1), vi (Int32.ofNat m2), vi (Int32.ofNat o1), vi (Int32.ofNat o2), vu, vu] [])) rfl (hb hby at_181) (by decide) (by decide)
  obtain ⟨b1, g1⟩ : ∃ z, z = hPP.size := ⟨_, rfl⟩
  rw [← g1] at A1 D1 st1
  have g_b1 : n0 ≤ b1 := own_fresh OP g1
  have ne_a43_b1 : a43 ≠ b1 := Nat.ne_of_lt (Nat.lt_of_lt_of_le (V43).lt (Nat.le_of_eq g1.symm))
  have ne_a44_b1 : a44 ≠ b1 := Nat.ne_of_lt (Nat.lt_of_lt_of_le (V44).lt (Nat.le_of_eq g1.symm))
  have ne_a45_b1 : a45 ≠ b1 := Nat.ne_of_lt (Nat.lt_of_lt_of_le (V45).lt (Nat.le_of_eq g1.symm))
  have sz_b1 : h0.size ≤ b1 := Nat.le_trans KP.1 (Nat.le_of_eq g1.symm)
  have O1 := OP.ext E1
  have Kp1 := KP.ext E1
  have V_a43_1 := V43.ext E1
  have V_a44_1 := V44.ext E1
  have V_a45_1 := V45.ext E1
  have F_b1_coder : Fld Z h1 b1 "java/lang/String" "coder" "B" (xi (0 : Int32)) := D1 (Or.inr (ww hw 39 rfl)) (ty := .byte) (by decide)
  have F_b1_value : Fld Z h1 b1 "java/lang/String" "value" "[B" .null := D1 (Or.inr (ww hw 41 rfl)) (ty := (.array .byte)) (by decide)
  obtain ⟨_, _, ⟨T2, L2, k2, n2⟩, -, X2, ⟨Lc2, hQ2, l2, y2, z2⟩, st2⟩ := X1.specialBack hx (y := Y9) rfl hown (mvT hZ (ww hw 16 rfl)) (mvT hZ (ww hw 17 rfl)) (mvT hZ (ww hw 18 rfl)) (by decide) (backOf (W := 1) (own_i1_1 l Z a0 hw hj ki0 vf0 G b1 a44 k44 44 (own_fn bb x1 x2 n1 n2) mm h1 n0 O1 (by decide) V_a44_1 (by decide) A1 F_b1_value F_b1_coder g_b1 (Ne.symm ne_a44_b1) hall hch hlt hgt []) hZ (ww hw 18 rfl) (ww hw 15 rfl) (by decide) (by decide)) (g := (mkF m 187 #[vi p1, vi p2, vi p3, vi p4, vi p5, vi p6, vi kk, vi bb, vi x1, vi x2, vi (p1 &&& (7 : Int32)), vr a43, vr a44, vr a45, vi (Int32.ofNat n1), vi (Int32.ofNat n2), vi (Int32.ofNat m1), vi (Int32.ofNat m2), vi (Int32.ofNat o1), vi (Int32.ofNat o2), vu, vu] [xr a44, xr b1, xr b1])) rfl (by rw [hml]; rfl) (Steps.refl _) (a := b1) (argsL := [xr a44]) (rest := [xr b1]) (lenOf pd20 rfl) rfl (by show 2 * 0 + _ ≤ _; exact Nat.le_of_eq rfl) (hb hby at_187) (fun _ _ => ⟨rfl, e1, (by decide : 4 + 2 ≤ _), (by decide : 136 + 135 ≤ _)⟩)
  dsimp only [Pt.U, Pt.locs, Pt.cells, Pt.slots] at X2 l2 y2 z2 st2 hQ2
  subst l2 y2 z2
  obtain ⟨h2, e2⟩ : ∃ z, T2.heap = z := ⟨_, rfl⟩
  rw [e2] at hQ2
  obtain ⟨rfl, Nq2, K2, b12, k12, SS2, g12⟩ := hQ2
  have N2 := Fr.app NP Nq2
  have O2 : Old Z n0 h2 := O1.keep K2 (allS g_b1 all0)
  have Kp2 : Keep h0 h2 [] := Kp1.trans K2 (allS (Or.inr sz_b1) all0)
  have V_a43_2 := V_a43_1.keep K2 (ninS ne_a43_b1 nin0)
  have V_a44_2 := V_a44_1.keep K2 (ninS ne_a44_b1 nin0)
  have V_a45_2 := V_a45_1.keep K2 (ninS ne_a45_b1 nin0)
  have X_b1_2 := A1.keep K2
  obtain ⟨EA2, FC2, FV2, VB2⟩ := id SS2
  obtain ⟨cl3, Ar3, q3, S3, N3_, H3, G3⟩ := id V_a44_2
  have hin3 : ¬ ((Int32.ofNat n1) < 0 ∨ cl3.slots.size ≤ ((Int32.ofNat n1)).toNatClampNeg) := inb_of S3 (own_in hn1 (by decide))
  have hat3 : cl3.slots[((Int32.ofNat n1)).toNatClampNeg]? = some (xi ((own_fn bb x1 x2 n1 n2) n1)) := Has.at H3 hin3 (by rw [own_nat (Nat.lt_trans hn1 (by decide))]; exact own_vs_get hn1)
  obtain ⟨_, _, ⟨T4, L4, k4, n4⟩, -, X4, ⟨Lc4, hQ4, l4, y4, z4⟩, st4⟩ := Jvm.LawKit.callS X2 hx (y := Y10) hown (mvT hZ (ww hw 42 rfl)) (mvT hZ (ww hw 43 rfl)) (mvT hZ (ww hw 4 rfl)) (mvT hZ (ww hw 44 rfl)) (by decide) (backOf (W := 0) (own_valid l Z a0 hw hj ki0 vf0 G ((own_fn bb x1 x2 n1 n2) n1) h2 n0 O2 []) hZ (ww hw 44 rfl) (ww hw 4 rfl) (by decide) (by decide)) (g := (mkF m 197 #[vi p1, vi p2, vi p3, vi p4, vi p5, vi p6, vi kk, vi bb, vi x1, vi x2, vi (p1 &&& (7 : Int32)), vr a43, vr a44, vr a45, vi (Int32.ofNat n1), vi (Int32.ofNat n2), vi (Int32.ofNat m1), vi (Int32.ofNat m2), vi (Int32.ofNat o1), vi (Int32.ofNat o2), vr b1, vu] [xi ((own_fn bb x1 x2 n1 n2) n1)])) rfl (by rw [hml]; rfl) (argsL := [xi ((own_fn bb x1 x2 n1 n2) n1)]) (rest := []) (lenOf pd21 rfl) rfl (by show 2 * 0 + _ ≤ _; exact Nat.le_of_eq rfl) (hb hby at_197) (fun _ _ => ⟨rfl, e2, (by decide : 6 + 0 ≤ _), (by decide : 271 + 0 ≤ _)⟩)
  dsimp only [Pt.U, Pt.locs, Pt.cells, Pt.slots] at X4 l4 y4 z4 st4 hQ4
  subst l4 y4 z4
  obtain ⟨rfl, Nq4, e4⟩ := hQ4
  have N4 := Fr.app N2 Nq4
  obtain ⟨cl5, Ar5, q5, S5, N5_, H5, G5⟩ := id V_a44_2
  have hin5 : ¬ ((Int32.ofNat n2) < 0 ∨ cl5.slots.size ≤ ((Int32.ofNat n2)).toNatClampNeg) := inb_of S5 (own_in hn2 (by decide))
  have hat5 : cl5.slots[((Int32.ofNat n2)).toNatClampNeg]? = some (xi ((own_fn bb x1 x2 n1 n2) n2)) := Has.at H5 hin5 (by rw [own_nat (Nat.lt_trans hn2 (by decide))]; exact own_vs_get hn2)
  obtain ⟨_, _, ⟨T6, L6, k6, n6⟩, -, X6, ⟨Lc6, hQ6, l6, y6, z6⟩, st6⟩ := Jvm.LawKit.callS X4 hx (y := Y10) hown (mvT hZ (ww hw 42 rfl)) (mvT hZ (ww hw 43 rfl)) (mvT hZ (ww hw 4 rfl)) (mvT hZ (ww hw 44 rfl)) (by decide) (backOf (W := 0) (own_valid l Z a0 hw hj ki0 vf0 G ((own_fn bb x1 x2 n1 n2) n2) h2 n0 O2 []) hZ (ww hw 44 rfl) (ww hw 4 rfl) (by decide) (by decide)) (g := (mkF m 208 #[vi p1, vi p2, vi p3, vi p4, vi p5, vi p6, vi kk, vi bb, vi x1, vi x2, vi (p1 &&& (7 : Int32)), vr a43, vr a44, vr a45, vi (Int32.ofNat n1), vi (Int32.ofNat n2), vi (Int32.ofNat m1), vi (Int32.ofNat m2), vi (Int32.ofNat o1), vi (Int32.ofNat o2), vr b1, vu] [xi ((own_fn bb x1 x2 n1 n2) n2)])) rfl (by rw [hml]; rfl) (argsL := [xi ((own_fn bb x1 x2 n1 n2) n2)]) (rest := []) (lenOf pd21 rfl) rfl (by show 2 * 0 + _ ≤ _; exact Nat.le_of_eq rfl) (hb hby at_208) (fun _ _ => ⟨rfl, e4, (by decide : 6 + 0 ≤ _), (by decide : 271 + 0 ≤ _)⟩)
  dsimp only [Pt.U, Pt.locs, Pt.cells, Pt.slots] at X6 l6 y6 z6 st6 hQ6
  subst l6 y6 z6
  obtain ⟨rfl, Nq6, e6⟩ := hQ6
  have N6 := Fr.app N4 Nq6
  obtain ⟨_, _, ⟨T7, L7, k7, n7⟩, -, X7, hS7, hg7, ⟨Lc7, hQ7, l7, y7, z7, hCr7⟩, st7⟩ := Jvm.RoadKit.callSS (s := s) X6 hx (y := Y28) hown (mvT hZ (ww hw 45 rfl)) (mvT hZ (ww hw 46 rfl)) (mvT hZ (ww hw 47 rfl)) (mvT hZ (ww hw 48 rfl)) (by decide) (backOfSH (s := s) (vm0 := s.vm) (W := 0) (hWF b1 b12 k12 h2 O2 ⟨EA2, FC2, FV2, VB2⟩ []) hZ (ww hw 48 rfl) (ww hw 47 rfl) (by decide) (by decide) (own_EW hw) (hCH.keep Kp2 all0)) (g := (mkF m 299 #[vi p1, vi p2, vi p3, vi p4, vi p5, vi p6, vi kk, vi bb, vi x1, vi x2, vi (p1 &&& (7 : Int32)), vr a43, vr a44, vr a45, vi (Int32.ofNat n1), vi (Int32.ofNat n2), vi (Int32.ofNat m1), vi (Int32.ofNat m2), vi (Int32.ofNat o1), vi (Int32.ofNat o2), vr b1, vi (0 : Int32)] [xr b1])) rfl (by rw [hml]; rfl) (argsL := [xr b1]) (rest := []) (lenOf pd22 rfl) rfl (by show 2 * 0 + _ ≤ _; exact Nat.le_of_eq rfl) (hb hby at_299) (fun _ _ => ⟨rfl, e6, (by decide : 6 + 2 ≤ _), (by decide : 271 + 148 ≤ _)⟩)
  dsimp only [Pt.U, Pt.locs, Pt.cells, Pt.slots] at X7 l7 y7 z7 st7 hQ7 hS7 hg7 hCr7
  subst l7 y7 z7
  obtain ⟨rfl, Nq7⟩ := hQ7
  have N7 := Fr.app N6 Nq7
  obtain ⟨fs, hr, hrun, hended, hW, hsame⟩ := X7.leave (v := some (xi (1 : Int32))) (fun h => by rw [Bd.returns] at h; cases h)
  have hend := hS7.ended hW (Nat.le_refl _) hsame
  have hZ2 : Z.Warmed39 T7.vm := State.Warmed39.trans hZ hS7.1
  have hq := (CHr.keep Kp2 all0 hCH).trans (hCr7.trans (CHv.at (s := s) (vm0 := T7.vm) X7 hZ2 (own_EW hw) hCr7.1))
  refine ⟨_, _, pre0 _ ?_, hrun, hended, _, _, rfl, ?_, ?_, ⟨_, rfl⟩, hend.1, hend.2.1, hend.2.2.mono (by decide) (by decide)⟩
  · show own_S p e below s₁ (mkF m 0 #[vi p1, vi p2, vi p3, vi p4, vi p5, vi p6, vu, vu, vu, vu, vu, vu, vu, vu, vu, vu, vu, vu, vu, vu, vu, vu] []) _
    refine stP _ ?_
    refine XS.iload XP.here hx rfl (hb hby at_175) rfl ?_
    refine XS.iconst XP.here hx rfl (hb hby at_177) ?_
    show own_S p e below TP (mkF m 178 #[vi p1, vi p2, vi p3, vi p4, vi p5, vi p6, vi kk, vi bb, vi x1, vi x2, vi (p1 &&& (7 : Int32)), vr a43, vr a44, vr a45, vi (Int32.ofNat n1), vi (Int32.ofNat n2), vi (Int32.ofNat m1), vi (Int32.ofNat m2), vi (Int32.ofNat o1), vi (Int32.ofNat o2), vu, vu] [xi (3 : Int32), xi (p1 &&& (7 : Int32))]) _
    refine XS.icmpNo XP.here hx rfl (hb hby at_178) rfl as324 ?_
    show own_S p e below TP (mkF m 181 #[vi p1, vi p2, vi p3, vi p4, vi p5, vi p6, vi kk, vi bb, vi x1, vi x2, vi (p1 &&& (7 : Int32)), vr a43, vr a44, vr a45, vi (Int32.ofNat n1), vi (Int32.ofNat n2), vi (Int32.ofNat m1), vi (Int32.ofNat m2), vi (Int32.ofNat o1), vi (Int32.ofNat o2), vu, vu] []) _
    refine st1 _ ?_
    refine XS.dup X1.here hx rfl (hb hby at_184) rfl rfl ?_
    refine XS.aload X1.here hx rfl (hb hby at_185) rfl rfl ?_
    show own_S p e below T1 (mkF m 187 #[vi p1, vi p2, vi p3, vi p4, vi p5, vi p6, vi kk, vi bb, vi x1, vi x2, vi (p1 &&& (7 : Int32)), vr a43, vr a44, vr a45, vi (Int32.ofNat n1), vi (Int32.ofNat n2), vi (Int32.ofNat m1), vi (Int32.ofNat m2), vi (Int32.ofNat o1), vi (Int32.ofNat o2), vu, vu] [xr a44, xr b1, xr b1]) _
    refine st2.trans ?_
    refine XS.astore X2.here hx rfl (hb hby at_190) rfl rfl (l' := #[vi p1, vi p2, vi p3, vi p4, vi p5, vi p6, vi kk, vi bb, vi x1, vi x2, vi (p1 &&& (7 : Int32)), vr a43, vr a44, vr a45, vi (Int32.ofNat n1), vi (Int32.ofNat n2), vi (Int32.ofNat m1), vi (Int32.ofNat m2), vi (Int32.ofNat o1), vi (Int32.ofNat o2), vr b1, vu]) rfl ?_
    refine XS.aload X2.here hx rfl (hb hby at_192) rfl rfl ?_
    refine XS.iload X2.here hx rfl (hb hby at_194) rfl ?_
    show own_S p e below T2 (mkF m 196 #[vi p1, vi p2, vi p3, vi p4, vi p5, vi p6, vi kk, vi bb, vi x1, vi x2, vi (p1 &&& (7 : Int32)), vr a43, vr a44, vr a45, vi (Int32.ofNat n1), vi (Int32.ofNat n2), vi (Int32.ofNat m1), vi (Int32.ofNat m2), vi (Int32.ofNat o1), vi (Int32.ofNat o2), vr b1, vu] [xi (Int32.ofNat n1), xr a44]) _
    refine X2.caload hx (j := (Int32.ofNat n1)) (v := (xi ((own_fn bb x1 x2 n1 n2) n1))) (by rw [e2]; exact Ar3.1) (State.isArrayOf_alike hZ.alike Ar3.2.1) Ar3.2.2 hin3 hat3 (g := (mkF m 196 #[vi p1, vi p2, vi p3, vi p4, vi p5, vi p6, vi kk, vi bb, vi x1, vi x2, vi (p1 &&& (7 : Int32)), vr a43, vr a44, vr a45, vi (Int32.ofNat n1), vi (Int32.ofNat n2), vi (Int32.ofNat m1), vi (Int32.ofNat m2), vi (Int32.ofNat o1), vi (Int32.ofNat o2), vr b1, vu] [xi (Int32.ofNat n1), xr a44])) rfl rfl (hb hby at_196) _ ?_
    show own_S p e below T2 (mkF m 197 #[vi p1, vi p2, vi p3, vi p4, vi p5, vi p6, vi kk, vi bb, vi x1, vi x2, vi (p1 &&& (7 : Int32)), vr a43, vr a44, vr a45, vi (Int32.ofNat n1), vi (Int32.ofNat n2), vi (Int32.ofNat m1), vi (Int32.ofNat m2), vi (Int32.ofNat o1), vi (Int32.ofNat o2), vr b1, vu] [xi ((own_fn bb x1 x2 n1 n2) n1)]) _
    refine st4 _ ?_
    show own_S p e below T4 (mkF m 200 #[vi p1, vi p2, vi p3, vi p4, vi p5, vi p6, vi kk, vi bb, vi x1, vi x2, vi (p1 &&& (7 : Int32)), vr a43, vr a44, vr a45, vi (Int32.ofNat n1), vi (Int32.ofNat n2), vi (Int32.ofNat m1), vi (Int32.ofNat m2), vi (Int32.ofNat o1), vi (Int32.ofNat o2), vr b1, vu] [xi (own_vd ((own_fn bb x1 x2 n1 n2) n1))]) _
    refine XS.ifNo X4.here hx rfl (hb hby at_200) rfl he1 ?_
    refine XS.aload X4.here hx rfl (hb hby at_203) rfl rfl ?_
    refine XS.iload X4.here hx rfl (hb hby at_205) rfl ?_
    show own_S p e below T4 (mkF m 207 #[vi p1, vi p2, vi p3, vi p4, vi p5, vi p6, vi kk, vi bb, vi x1, vi x2, vi (p1 &&& (7 : Int32)), vr a43, vr a44, vr a45, vi (Int32.ofNat n1), vi (Int32.ofNat n2), vi (Int32.ofNat m1), vi (Int32.ofNat m2), vi (Int32.ofNat o1), vi (Int32.ofNat o2), vr b1, vu] [xi (Int32.ofNat n2), xr a44]) _
    refine X4.caload hx (j := (Int32.ofNat n2)) (v := (xi ((own_fn bb x1 x2 n1 n2) n2))) (by rw [e4]; exact Ar5.1) (State.isArrayOf_alike hZ.alike Ar5.2.1) Ar5.2.2 hin5 hat5 (g := (mkF m 207 #[vi p1, vi p2, vi p3, vi p4, vi p5, vi p6, vi kk, vi bb, vi x1, vi x2, vi (p1 &&& (7 : Int32)), vr a43, vr a44, vr a45, vi (Int32.ofNat n1), vi (Int32.ofNat n2), vi (Int32.ofNat m1), vi (Int32.ofNat m2), vi (Int32.ofNat o1), vi (Int32.ofNat o2), vr b1, vu] [xi (Int32.ofNat n2), xr a44])) rfl rfl (hb hby at_207) _ ?_
    show own_S p e below T4 (mkF m 208 #[vi p1, vi p2, vi p3, vi p4, vi p5, vi p6, vi kk, vi bb, vi x1, vi x2, vi (p1 &&& (7 : Int32)), vr a43, vr a44, vr a45, vi (Int32.ofNat n1), vi (Int32.ofNat n2), vi (Int32.ofNat m1), vi (Int32.ofNat m2), vi (Int32.ofNat o1), vi (Int32.ofNat o2), vr b1, vu] [xi ((own_fn bb x1 x2 n1 n2) n2)]) _
    refine st6 _ ?_
    show own_S p e below T6 (mkF m 211 #[vi p1, vi p2, vi p3, vi p4, vi p5, vi p6, vi kk, vi bb, vi x1, vi x2, vi (p1 &&& (7 : Int32)), vr a43, vr a44, vr a45, vi (Int32.ofNat n1), vi (Int32.ofNat n2), vi (Int32.ofNat m1), vi (Int32.ofNat m2), vi (Int32.ofNat o1), vi (Int32.ofNat o2), vr b1, vu] [xi (own_vd ((own_fn bb x1 x2 n1 n2) n2))]) _
    refine XS.ifYes X6.here hx rfl (pc0 := 211) (pc' := 218) rfl (hb hby at_211) rfl he2 (by decide) (by decide) ?_
    refine XS.iconst X6.here hx rfl (hb hby at_218) ?_
    refine XS.istore X6.here hx rfl (hb hby at_219) rfl (l' := #[vi p1, vi p2, vi p3, vi p4, vi p5, vi p6, vi kk, vi bb, vi x1, vi x2, vi (p1 &&& (7 : Int32)), vr a43, vr a44, vr a45, vi (Int32.ofNat n1), vi (Int32.ofNat n2), vi (Int32.ofNat m1), vi (Int32.ofNat m2), vi (Int32.ofNat o1), vi (Int32.ofNat o2), vr b1, vi (0 : Int32)]) rfl ?_
    refine XS.goto X6.here hx rfl (pc0 := 221) (pc' := 297) rfl (hb hby at_221) (by decide) (by decide) ?_
    show own_S p e below T6 (mkF m 297 #[vi p1, vi p2, vi p3, vi p4, vi p5, vi p6, vi kk, vi bb, vi x1, vi x2, vi (p1 &&& (7 : Int32)), vr a43, vr a44, vr a45, vi (Int32.ofNat n1), vi (Int32.ofNat n2), vi (Int32.ofNat m1), vi (Int32.ofNat m2), vi (Int32.ofNat o1), vi (Int32.ofNat o2), vr b1, vi (0 : Int32)] []) _
    refine XS.aload X6.here hx rfl (hb hby at_297) rfl rfl ?_
    show own_S p e below T6 (mkF m 299 #[vi p1, vi p2, vi p3, vi p4, vi p5, vi p6, vi kk, vi bb, vi x1, vi x2, vi (p1 &&& (7 : Int32)), vr a43, vr a44, vr a45, vi (Int32.ofNat n1), vi (Int32.ofNat n2), vi (Int32.ofNat m1), vi (Int32.ofNat m2), vi (Int32.ofNat o1), vi (Int32.ofNat o2), vr b1, vi (0 : Int32)] [xr b1]) _
    refine st7.trans ?_
    refine XS.iload X7.here hx rfl (hb hby at_302) rfl ?_
    show own_S p e below T7 (mkF m 304 #[vi p1, vi p2, vi p3, vi p4, vi p5, vi p6, vi kk, vi bb, vi x1, vi x2, vi (p1 &&& (7 : Int32)), vr a43, vr a44, vr a45, vi (Int32.ofNat n1), vi (Int32.ofNat n2), vi (Int32.ofNat m1), vi (Int32.ofNat m2), vi (Int32.ofNat o1), vi (Int32.ofNat o2), vr b1, vi (0 : Int32)] [xi (0 : Int32), xi (0 : Int32)]) _
    refine XS.icmpNo X7.here hx rfl (hb hby at_304) rfl (by decide) ?_
    refine XS.iconst X7.here hx rfl (hb hby at_307) ?_
    refine XS.goto X7.here hx rfl (pc0 := 308) (pc' := 312) rfl (hb hby at_308) (by decide) (by decide) ?_
    show own_S p e below T7 (mkF m 312 #[vi p1, vi p2, vi p3, vi p4, vi p5, vi p6, vi kk, vi bb, vi x1, vi x2, vi (p1 &&& (7 : Int32)), vr a43, vr a44, vr a45, vi (Int32.ofNat n1), vi (Int32.ofNat n2), vi (Int32.ofNat m1), vi (Int32.ofNat m2), vi (Int32.ofNat o1), vi (Int32.ofNat o2), vr b1, vi (0 : Int32)] [xi (1 : Int32)]) _
    exact retN X7 hx (t := .boolean) Bd.returns (by simp) (hb hby at_312) hr
  · exact ⟨rfl, N7⟩
  · show CHr Z own_EL s.vm s.heap T7.vm T7.heap
    rw [hh]; exact hq
theorem ef_own_law4_0 (m : MethodId)  (ki0 : Int32) (vf0 : Value) (p1 : Int32) (p2 : Int32) (p3 : Int32) (p4 : Int32) (p5 : Int32) (p6 : Int32) (kk : Int32) (bb : Int32) (x1 : Int32) (x2 : Int32) (n1 : Nat) (n2 : Nat) (m1 : Nat) (m2 : Nat) (o1 : Nat) (o2 : Nat) : entryFrame m #[xi p1, xi p2, xi p3, xi p4, xi p5, xi p6] maxLocals = (mkF m 0 #[vi p1, vi p2, vi p3, vi p4, vi p5, vi p6, vu, vu, vu, vu, vu, vu, vu, vu, vu, vu, vu, vu, vu, vu, vu, vu] []) := by first | (simp [entryFrame, mkF, argsToLocals, Value.category, maxLocals]; done) | rfl
set_option maxRecDepth 65536 in
set_option maxHeartbeats 40000000 in
theorem own_law4_0 (l : Launch) (Z : State) (a0 : Array Value) (hw : ∀ d ∈ tables_1, d.before a0 Z = true) (hj : ∀ d ∈ jdkStatics_1, d.before a0 Z = true)  (ki0 : Int32) (vf0 : Value) (G : own_St Z hj ki0 vf0) (p1 : Int32) (p2 : Int32) (p3 : Int32) (p4 : Int32) (p5 : Int32) (p6 : Int32) (kk : Int32) (bb : Int32) (x1 : Int32) (x2 : Int32) (n1 : Nat) (n2 : Nat) (m1 : Nat) (m2 : Nat) (o1 : Nat) (o2 : Nat) (as325 : (p1 &&& (7 : Int32)) = (4 : Int32)) (h0 : Heap) (n0 : Nat) (O0 : Old Z n0 h0) (hcase : ((if_icmp.holds .ge kk (26 : Int32) = false) ∧ ((((97 : Int32) + kk).toUInt32.toUInt16.toUInt32.toInt32) = bb)) ∨ ((if_icmp.holds .ge kk (26 : Int32) = true) ∧ ((((48 : Int32) + (kk - (26 : Int32))).toUInt32.toUInt16.toUInt32.toInt32) = bb))) (as47 : ((p6 &&& (2147483647 : Int32)) - ((p6 &&& (2147483647 : Int32)) / (36 : Int32)) * (36 : Int32)) = kk) (as48 : ((p3 &&& (65535 : Int32)).toUInt32.toUInt16.toUInt32.toInt32) = x1) (as49 : ((p5 &&& (65535 : Int32)).toUInt32.toUInt16.toUInt32.toInt32) = x2) (as94 : ((p2 &&& (2147483647 : Int32)) - ((p2 &&& (2147483647 : Int32)) / (44 : Int32)) * (44 : Int32)) = (Int32.ofNat n1)) (as139 : ((p4 &&& (2147483647 : Int32)) - ((p4 &&& (2147483647 : Int32)) / (44 : Int32)) * (44 : Int32)) = (Int32.ofNat n2)) (as183 : ((p2 &&& (2147483647 : Int32)) - ((p2 &&& (2147483647 : Int32)) / (43 : Int32)) * (43 : Int32)) = (Int32.ofNat m1)) (as227 : ((p4 &&& (2147483647 : Int32)) - ((p4 &&& (2147483647 : Int32)) / (43 : Int32)) * (43 : Int32)) = (Int32.ofNat m2)) (as273 : ((p2 &&& (2147483647 : Int32)) - ((p2 &&& (2147483647 : Int32)) / (45 : Int32)) * (45 : Int32)) = (Int32.ofNat o1)) (as319 : ((p4 &&& (2147483647 : Int32)) - ((p4 &&& (2147483647 : Int32)) / (45 : Int32)) * (45 : Int32)) = (Int32.ofNat o2)) (hn1 : n1 < 44) (hn2 : n2 < 44) (hm1 : m1 < 43) (hm2 : m2 < 43) (ho1 : o1 < 45) (ho2 : o2 < 45) (hall : ∀ j, j < 43 → if_icmp.holds .le ((own_fn bb x1 x2 m1 m2) j) (255 : Int32) = true) : own_MetW l Z x code maxLocals ret room_1 #[xi p1, xi p2, xi p3, xi p4, xi p5, xi p6] h0 (own_QL (some (xi (1 : Int32))) n0) := by
  intro ws
  refine MetFree.of_bodySF (plainFor_of_name pn2) hisR ?_
  intro p e s m args below meth c s₁ Bd hml0 hP hK
  obtain ⟨rfl, hZ, hh, hCH⟩ := hP
  have hx := Bd.exec
  have hby := Bd.bytes
  have hml : c.maxLocals = 22 := hml0
  have hown : s.vm.findClass "com/example/scopelock/scopelock/KeyWellFormedPinLaw" = some m.cls := findClass_of_methodNamed Bd.named
  have hnm := (name_of_methodNamed Bd.named Bd.method).1
  have X0 : Stand p l e room_1 s m #[xi p1, xi p2, xi p3, xi p4, xi p5, xi p6] below meth c s₁ [] 0 0 := Stand.of_body Bd
  have e0 : s₁.heap = h0 := by rw [← hh, Bd.state]; rfl
  have N0 := Fr.nil n0
  have pre0 : ∀ t, Steps p.tables e below (s₁.setTop (mkF m 0 #[vi p1, vi p2, vi p3, vi p4, vi p5, vi p6, vu, vu, vu, vu, vu, vu, vu, vu, vu, vu, vu, vu, vu, vu, vu, vu] [])) t → Steps p.tables e below (s₁.setTop (entryFrame m #[xi p1, xi p2, xi p3, xi p4, xi p5, xi p6] maxLocals)) t := fun t st => castTop (ef_own_law4_0 m ki0 vf0 p1 p2 p3 p4 p5 p6 kk bb x1 x2 n1 n2 m1 m2 o1 o2) st
  obtain ⟨TP, LP, hPP, a43, a44, a45, k43, k44, k45, XP, eP, NP, OP, ⟨V43, V44, V45, KP⟩, stP⟩ := own_pre hw hj ki0 vf0 G p1 p2 p3 p4 p5 p6 kk bb x1 x2 n1 n2 m1 m2 o1 o2 as47 hcase as48 as49 as94 as139 as183 as227 as273 as319 hx hZ hby hml hown X0 e0 N0 O0 hn1 hn2 hm1 hm2 ho1 ho2
  obtain ⟨T1, h1, X1, e1, E1, A1, D1, -, st1⟩ := newO XP hx hZ hown (ww hw 13 rfl) (ww hw 14 rfl) (ww hw 15 rfl) eP (g := (mkF m 230 #[vi p1, vi p2, vi p3, vi p4, vi p5, vi p6, vi kk, vi bb, vi x1, vi x2, vi (4 : Int32), vr a43, vr a44, vr a45, vi (Int32.ofNat n1), vi (Int32.ofNat n2), vi (Int32.ofNat m1), vi (Int32.ofNat m2), vi (Int32.ofNat o1), vi (Int32.ofNat o2), vu, vu] [])) rfl (hb hby at_230) (by decide) (by decide)
  obtain ⟨b1, g1⟩ : ∃ z, z = hPP.size := ⟨_, rfl⟩
  rw [← g1] at A1 D1 st1
  have g_b1 : n0 ≤ b1 := own_fresh OP g1
  have ne_a43_b1 : a43 ≠ b1 := Nat.ne_of_lt (Nat.lt_of_lt_of_le (V43).lt (Nat.le_of_eq g1.symm))
  have ne_a44_b1 : a44 ≠ b1 := Nat.ne_of_lt (Nat.lt_of_lt_of_le (V44).lt (Nat.le_of_eq g1.symm))
  have ne_a45_b1 : a45 ≠ b1 := Nat.ne_of_lt (Nat.lt_of_lt_of_le (V45).lt (Nat.le_of_eq g1.symm))
  have sz_b1 : h0.size ≤ b1 := Nat.le_trans KP.1 (Nat.le_of_eq g1.symm)
  have O1 := OP.ext E1
  have Kp1 := KP.ext E1
  have V_a43_1 := V43.ext E1
  have V_a44_1 := V44.ext E1
  have V_a45_1 := V45.ext E1
  have F_b1_coder : Fld Z h1 b1 "java/lang/String" "coder" "B" (xi (0 : Int32)) := D1 (Or.inr (ww hw 39 rfl)) (ty := .byte) (by decide)
  have F_b1_value : Fld Z h1 b1 "java/lang/String" "value" "[B" .null := D1 (Or.inr (ww hw 41 rfl)) (ty := (.array .byte)) (by decide)
  obtain ⟨_, _, ⟨T2, L2, k2, n2⟩, -, X2, ⟨Lc2, hQ2, l2, y2, z2⟩, st2⟩ := X1.specialBack hx (y := Y9) rfl hown (mvT hZ (ww hw 16 rfl)) (mvT hZ (ww hw 17 rfl)) (mvT hZ (ww hw 18 rfl)) (by decide) (backOf (W := 1) (own_i1_0 l Z a0 hw hj ki0 vf0 G b1 a43 k43 43 (own_fn bb x1 x2 m1 m2) h1 n0 O1 (by decide) V_a43_1 (by decide) A1 F_b1_value F_b1_coder g_b1 (Ne.symm ne_a43_b1) hall []) hZ (ww hw 18 rfl) (ww hw 15 rfl) (by decide) (by decide)) (g := (mkF m 236 #[vi p1, vi p2, vi p3, vi p4, vi p5, vi p6, vi kk, vi bb, vi x1, vi x2, vi (4 : Int32), vr a43, vr a44, vr a45, vi (Int32.ofNat n1), vi (Int32.ofNat n2), vi (Int32.ofNat m1), vi (Int32.ofNat m2), vi (Int32.ofNat o1), vi (Int32.ofNat o2), vu, vu] [xr a43, xr b1, xr b1])) rfl (by rw [hml]; rfl) (Steps.refl _) (a := b1) (argsL := [xr a43]) (rest := [xr b1]) (lenOf pd20 rfl) rfl (by show 2 * 0 + _ ≤ _; exact Nat.le_of_eq rfl) (hb hby at_236) (fun _ _ => ⟨rfl, e1, (by decide : 4 + 2 ≤ _), (by decide : 136 + 135 ≤ _)⟩)
  dsimp only [Pt.U, Pt.locs, Pt.cells, Pt.slots] at X2 l2 y2 z2 st2 hQ2
  subst l2 y2 z2
  obtain ⟨h2, e2⟩ : ∃ z, T2.heap = z := ⟨_, rfl⟩
  rw [e2] at hQ2
  obtain ⟨rfl, Nq2, K2, b12, k12, SS2, g12⟩ := hQ2
  have N2 := Fr.app NP Nq2
  have O2 : Old Z n0 h2 := O1.keep K2 (allS g_b1 all0)
  have Kp2 : Keep h0 h2 [] := Kp1.trans K2 (allS (Or.inr sz_b1) all0)
  have V_a43_2 := V_a43_1.keep K2 (ninS ne_a43_b1 nin0)
  have V_a44_2 := V_a44_1.keep K2 (ninS ne_a44_b1 nin0)
  have V_a45_2 := V_a45_1.keep K2 (ninS ne_a45_b1 nin0)
  have X_b1_2 := A1.keep K2
  obtain ⟨EA2, FC2, FV2, VB2⟩ := id SS2
  obtain ⟨_, _, ⟨T3, L3, k3, n3⟩, -, X3, ⟨Lc3, hQ3, l3, y3, z3⟩, st3⟩ := Jvm.LawKit.callS X2 hx (y := Y28) hown (mvT hZ (ww hw 45 rfl)) (mvT hZ (ww hw 46 rfl)) (mvT hZ (ww hw 47 rfl)) (mvT hZ (ww hw 48 rfl)) (by decide) (backOf (W := 0) (own_wfs0 l Z a0 hw hj ki0 vf0 G b1 b12 k12 43 (own_lat (own_fn bb x1 x2 m1 m2)) h2 n0 O2 (by decide) ⟨EA2, FC2, FV2, VB2⟩ (by decide) (by decide) []) hZ (ww hw 48 rfl) (ww hw 47 rfl) (by decide) (by decide)) (g := (mkF m 299 #[vi p1, vi p2, vi p3, vi p4, vi p5, vi p6, vi kk, vi bb, vi x1, vi x2, vi (4 : Int32), vr a43, vr a44, vr a45, vi (Int32.ofNat n1), vi (Int32.ofNat n2), vi (Int32.ofNat m1), vi (Int32.ofNat m2), vi (Int32.ofNat o1), vi (Int32.ofNat o2), vr b1, vi (0 : Int32)] [xr b1])) rfl (by rw [hml]; rfl) (argsL := [xr b1]) (rest := []) (lenOf pd22 rfl) rfl (by show 2 * 0 + _ ≤ _; exact Nat.le_of_eq rfl) (hb hby at_299) (fun _ _ => ⟨rfl, e2, (by decide : 6 + 0 ≤ _), (by decide : 271 + 0 ≤ _)⟩)
  dsimp only [Pt.U, Pt.locs, Pt.cells, Pt.slots] at X3 l3 y3 z3 st3 hQ3
  subst l3 y3 z3
  obtain ⟨rfl, Nq3, e3⟩ := hQ3
  have N3 := Fr.app N2 Nq3
  obtain ⟨fs, hr, hrun, hended, hW, hsame⟩ := X3.leave (v := some (xi (1 : Int32))) (fun h => by rw [Bd.returns] at h; cases h)
  have hq := (CHr.keep Kp2 all0 hCH).trans (CHv.at (s := s) (vm0 := s.vm) X3 hZ (own_EW hw) (hCH.keep Kp2 all0))
  refine ⟨_, _, pre0 _ ?_, hrun, hended, _, _, rfl, ?_, ?_, ⟨_, rfl⟩, hW.wide, hW.no_new_pair _, hsame.mono (by decide) (by decide)⟩
  · show own_S p e below s₁ (mkF m 0 #[vi p1, vi p2, vi p3, vi p4, vi p5, vi p6, vu, vu, vu, vu, vu, vu, vu, vu, vu, vu, vu, vu, vu, vu, vu, vu] []) _
    refine stP _ ?_
    refine castTop (show (mkF m 175 #[vi p1, vi p2, vi p3, vi p4, vi p5, vi p6, vi kk, vi bb, vi x1, vi x2, vi (p1 &&& (7 : Int32)), vr a43, vr a44, vr a45, vi (Int32.ofNat n1), vi (Int32.ofNat n2), vi (Int32.ofNat m1), vi (Int32.ofNat m2), vi (Int32.ofNat o1), vi (Int32.ofNat o2), vu, vu] []) = (mkF m 175 #[vi p1, vi p2, vi p3, vi p4, vi p5, vi p6, vi kk, vi bb, vi x1, vi x2, vi (4 : Int32), vr a43, vr a44, vr a45, vi (Int32.ofNat n1), vi (Int32.ofNat n2), vi (Int32.ofNat m1), vi (Int32.ofNat m2), vi (Int32.ofNat o1), vi (Int32.ofNat o2), vu, vu] []) from by rw [as325]) ?_
    refine XS.iload XP.here hx rfl (hb hby at_175) rfl ?_
    refine XS.iconst XP.here hx rfl (hb hby at_177) ?_
    show own_S p e below TP (mkF m 178 #[vi p1, vi p2, vi p3, vi p4, vi p5, vi p6, vi kk, vi bb, vi x1, vi x2, vi (4 : Int32), vr a43, vr a44, vr a45, vi (Int32.ofNat n1), vi (Int32.ofNat n2), vi (Int32.ofNat m1), vi (Int32.ofNat m2), vi (Int32.ofNat o1), vi (Int32.ofNat o2), vu, vu] [xi (3 : Int32), xi (4 : Int32)]) _
    refine XS.icmpYes XP.here hx rfl (pc0 := 178) (pc' := 224) rfl (hb hby at_178) rfl (by decide) (by decide) (by decide) ?_
    refine XS.iload XP.here hx rfl (hb hby at_224) rfl ?_
    refine XS.iconst XP.here hx rfl (hb hby at_226) ?_
    show own_S p e below TP (mkF m 227 #[vi p1, vi p2, vi p3, vi p4, vi p5, vi p6, vi kk, vi bb, vi x1, vi x2, vi (4 : Int32), vr a43, vr a44, vr a45, vi (Int32.ofNat n1), vi (Int32.ofNat n2), vi (Int32.ofNat m1), vi (Int32.ofNat m2), vi (Int32.ofNat o1), vi (Int32.ofNat o2), vu, vu] [xi (4 : Int32), xi (4 : Int32)]) _
    refine XS.icmpNo XP.here hx rfl (hb hby at_227) rfl (by decide) ?_
    show own_S p e below TP (mkF m 230 #[vi p1, vi p2, vi p3, vi p4, vi p5, vi p6, vi kk, vi bb, vi x1, vi x2, vi (4 : Int32), vr a43, vr a44, vr a45, vi (Int32.ofNat n1), vi (Int32.ofNat n2), vi (Int32.ofNat m1), vi (Int32.ofNat m2), vi (Int32.ofNat o1), vi (Int32.ofNat o2), vu, vu] []) _
    refine st1 _ ?_
    refine XS.dup X1.here hx rfl (hb hby at_233) rfl rfl ?_
    refine XS.aload X1.here hx rfl (hb hby at_234) rfl rfl ?_
    show own_S p e below T1 (mkF m 236 #[vi p1, vi p2, vi p3, vi p4, vi p5, vi p6, vi kk, vi bb, vi x1, vi x2, vi (4 : Int32), vr a43, vr a44, vr a45, vi (Int32.ofNat n1), vi (Int32.ofNat n2), vi (Int32.ofNat m1), vi (Int32.ofNat m2), vi (Int32.ofNat o1), vi (Int32.ofNat o2), vu, vu] [xr a43, xr b1, xr b1]) _
    refine st2.trans ?_
    refine XS.astore X2.here hx rfl (hb hby at_239) rfl rfl (l' := #[vi p1, vi p2, vi p3, vi p4, vi p5, vi p6, vi kk, vi bb, vi x1, vi x2, vi (4 : Int32), vr a43, vr a44, vr a45, vi (Int32.ofNat n1), vi (Int32.ofNat n2), vi (Int32.ofNat m1), vi (Int32.ofNat m2), vi (Int32.ofNat o1), vi (Int32.ofNat o2), vr b1, vu]) rfl ?_
    refine XS.iconst X2.here hx rfl (hb hby at_241) ?_
    refine XS.istore X2.here hx rfl (hb hby at_242) rfl (l' := #[vi p1, vi p2, vi p3, vi p4, vi p5, vi p6, vi kk, vi bb, vi x1, vi x2, vi (4 : Int32), vr a43, vr a44, vr a45, vi (Int32.ofNat n1), vi (Int32.ofNat n2), vi (Int32.ofNat m1), vi (Int32.ofNat m2), vi (Int32.ofNat o1), vi (Int32.ofNat o2), vr b1, vi (0 : Int32)]) rfl ?_
    show own_S p e below T2 (mkF m 244 #[vi p1, vi p2, vi p3, vi p4, vi p5, vi p6, vi kk, vi bb, vi x1, vi x2, vi (4 : Int32), vr a43, vr a44, vr a45, vi (Int32.ofNat n1), vi (Int32.ofNat n2), vi (Int32.ofNat m1), vi (Int32.ofNat m2), vi (Int32.ofNat o1), vi (Int32.ofNat o2), vr b1, vi (0 : Int32)] []) _
    refine XS.goto X2.here hx rfl (pc0 := 244) (pc' := 297) rfl (hb hby at_244) (by decide) (by decide) ?_
    refine XS.aload X2.here hx rfl (hb hby at_297) rfl rfl ?_
    show own_S p e below T2 (mkF m 299 #[vi p1, vi p2, vi p3, vi p4, vi p5, vi p6, vi kk, vi bb, vi x1, vi x2, vi (4 : Int32), vr a43, vr a44, vr a45, vi (Int32.ofNat n1), vi (Int32.ofNat n2), vi (Int32.ofNat m1), vi (Int32.ofNat m2), vi (Int32.ofNat o1), vi (Int32.ofNat o2), vr b1, vi (0 : Int32)] [xr b1]) _
    refine st3 _ ?_
    refine XS.iload X3.here hx rfl (hb hby at_302) rfl ?_
    show own_S p e below T3 (mkF m 304 #[vi p1, vi p2, vi p3, vi p4, vi p5, vi p6, vi kk, vi bb, vi x1, vi x2, vi (4 : Int32), vr a43, vr a44, vr a45, vi (Int32.ofNat n1), vi (Int32.ofNat n2), vi (Int32.ofNat m1), vi (Int32.ofNat m2), vi (Int32.ofNat o1), vi (Int32.ofNat o2), vr b1, vi (0 : Int32)] [xi (0 : Int32), xi (0 : Int32)]) _
    refine XS.icmpNo X3.here hx rfl (hb hby at_304) rfl (by decide) ?_
    refine XS.iconst X3.here hx rfl (hb hby at_307) ?_
    refine XS.goto X3.here hx rfl (pc0 := 308) (pc' := 312) rfl (hb hby at_308) (by decide) (by decide) ?_
    show own_S p e below T3 (mkF m 312 #[vi p1, vi p2, vi p3, vi p4, vi p5, vi p6, vi kk, vi bb, vi x1, vi x2, vi (4 : Int32), vr a43, vr a44, vr a45, vi (Int32.ofNat n1), vi (Int32.ofNat n2), vi (Int32.ofNat m1), vi (Int32.ofNat m2), vi (Int32.ofNat o1), vi (Int32.ofNat o2), vr b1, vi (0 : Int32)] [xi (1 : Int32)]) _
    exact retN X3 hx (t := .boolean) Bd.returns (by simp) (hb hby at_312) hr
  · exact ⟨rfl, N3⟩
  · show CHr Z own_EL s.vm s.heap T3.vm T3.heap
    rw [hh, e3]; exact hq
theorem ef_own_law4_1 (m : MethodId)  (ki0 : Int32) (vf0 : Value) (p1 : Int32) (p2 : Int32) (p3 : Int32) (p4 : Int32) (p5 : Int32) (p6 : Int32) (kk : Int32) (bb : Int32) (x1 : Int32) (x2 : Int32) (n1 : Nat) (n2 : Nat) (m1 : Nat) (m2 : Nat) (o1 : Nat) (o2 : Nat) : entryFrame m #[xi p1, xi p2, xi p3, xi p4, xi p5, xi p6] maxLocals = (mkF m 0 #[vi p1, vi p2, vi p3, vi p4, vi p5, vi p6, vu, vu, vu, vu, vu, vu, vu, vu, vu, vu, vu, vu, vu, vu, vu, vu] []) := by first | (simp [entryFrame, mkF, argsToLocals, Value.category, maxLocals]; done) | rfl
set_option maxRecDepth 65536 in
set_option maxHeartbeats 40000000 in
theorem own_law4_1 (l : Launch) (Z : State) (a0 : Array Value) (hw : ∀ d ∈ tables_1, d.before a0 Z = true) (hj : ∀ d ∈ jdkStatics_1, d.before a0 Z = true)  (ki0 : Int32) (vf0 : Value) (G : own_St Z hj ki0 vf0) (p1 : Int32) (p2 : Int32) (p3 : Int32) (p4 : Int32) (p5 : Int32) (p6 : Int32) (kk : Int32) (bb : Int32) (x1 : Int32) (x2 : Int32) (n1 : Nat) (n2 : Nat) (m1 : Nat) (m2 : Nat) (o1 : Nat) (o2 : Nat) (as325 : (p1 &&& (7 : Int32)) = (4 : Int32)) (h0 : Heap) (n0 : Nat) (O0 : Old Z n0 h0) (hcase : ((if_icmp.holds .ge kk (26 : Int32) = false) ∧ ((((97 : Int32) + kk).toUInt32.toUInt16.toUInt32.toInt32) = bb)) ∨ ((if_icmp.holds .ge kk (26 : Int32) = true) ∧ ((((48 : Int32) + (kk - (26 : Int32))).toUInt32.toUInt16.toUInt32.toInt32) = bb))) (as47 : ((p6 &&& (2147483647 : Int32)) - ((p6 &&& (2147483647 : Int32)) / (36 : Int32)) * (36 : Int32)) = kk) (as48 : ((p3 &&& (65535 : Int32)).toUInt32.toUInt16.toUInt32.toInt32) = x1) (as49 : ((p5 &&& (65535 : Int32)).toUInt32.toUInt16.toUInt32.toInt32) = x2) (as94 : ((p2 &&& (2147483647 : Int32)) - ((p2 &&& (2147483647 : Int32)) / (44 : Int32)) * (44 : Int32)) = (Int32.ofNat n1)) (as139 : ((p4 &&& (2147483647 : Int32)) - ((p4 &&& (2147483647 : Int32)) / (44 : Int32)) * (44 : Int32)) = (Int32.ofNat n2)) (as183 : ((p2 &&& (2147483647 : Int32)) - ((p2 &&& (2147483647 : Int32)) / (43 : Int32)) * (43 : Int32)) = (Int32.ofNat m1)) (as227 : ((p4 &&& (2147483647 : Int32)) - ((p4 &&& (2147483647 : Int32)) / (43 : Int32)) * (43 : Int32)) = (Int32.ofNat m2)) (as273 : ((p2 &&& (2147483647 : Int32)) - ((p2 &&& (2147483647 : Int32)) / (45 : Int32)) * (45 : Int32)) = (Int32.ofNat o1)) (as319 : ((p4 &&& (2147483647 : Int32)) - ((p4 &&& (2147483647 : Int32)) / (45 : Int32)) * (45 : Int32)) = (Int32.ofNat o2)) (hn1 : n1 < 44) (hn2 : n2 < 44) (hm1 : m1 < 43) (hm2 : m2 < 43) (ho1 : o1 < 45) (ho2 : o2 < 45) (mm : Nat) (hch : ∀ j, j < 43 → 0 ≤ ((own_fn bb x1 x2 m1 m2) j).toInt ∧ ((own_fn bb x1 x2 m1 m2) j).toInt < 65536) (hlt : mm < 43) (hgt : if_icmp.holds .le ((own_fn bb x1 x2 m1 m2) mm) (255 : Int32) = false) (hall : ∀ j, j < mm → if_icmp.holds .le ((own_fn bb x1 x2 m1 m2) j) (255 : Int32) = true) : own_MetW l Z x code maxLocals ret room_1 #[xi p1, xi p2, xi p3, xi p4, xi p5, xi p6] h0 (own_QL (some (xi (1 : Int32))) n0) := by
  intro ws
  refine MetFree.of_bodySF (plainFor_of_name pn2) hisR ?_
  intro p e s m args below meth c s₁ Bd hml0 hP hK
  obtain ⟨rfl, hZ, hh, hCH⟩ := hP
  have hx := Bd.exec
  have hby := Bd.bytes
  have hml : c.maxLocals = 22 := hml0
  have hown : s.vm.findClass "com/example/scopelock/scopelock/KeyWellFormedPinLaw" = some m.cls := findClass_of_methodNamed Bd.named
  have hnm := (name_of_methodNamed Bd.named Bd.method).1
  have X0 : Stand p l e room_1 s m #[xi p1, xi p2, xi p3, xi p4, xi p5, xi p6] below meth c s₁ [] 0 0 := Stand.of_body Bd
  have e0 : s₁.heap = h0 := by rw [← hh, Bd.state]; rfl
  have N0 := Fr.nil n0
  have pre0 : ∀ t, Steps p.tables e below (s₁.setTop (mkF m 0 #[vi p1, vi p2, vi p3, vi p4, vi p5, vi p6, vu, vu, vu, vu, vu, vu, vu, vu, vu, vu, vu, vu, vu, vu, vu, vu] [])) t → Steps p.tables e below (s₁.setTop (entryFrame m #[xi p1, xi p2, xi p3, xi p4, xi p5, xi p6] maxLocals)) t := fun t st => castTop (ef_own_law4_1 m ki0 vf0 p1 p2 p3 p4 p5 p6 kk bb x1 x2 n1 n2 m1 m2 o1 o2) st
  obtain ⟨TP, LP, hPP, a43, a44, a45, k43, k44, k45, XP, eP, NP, OP, ⟨V43, V44, V45, KP⟩, stP⟩ := own_pre hw hj ki0 vf0 G p1 p2 p3 p4 p5 p6 kk bb x1 x2 n1 n2 m1 m2 o1 o2 as47 hcase as48 as49 as94 as139 as183 as227 as273 as319 hx hZ hby hml hown X0 e0 N0 O0 hn1 hn2 hm1 hm2 ho1 ho2
  obtain ⟨T1, h1, X1, e1, E1, A1, D1, -, st1⟩ := newO XP hx hZ hown (ww hw 13 rfl) (ww hw 14 rfl) (ww hw 15 rfl) eP (g := (mkF m 230 #[vi p1, vi p2, vi p3, vi p4, vi p5, vi p6, vi kk, vi bb, vi x1, vi x2, vi (4 : Int32), vr a43, vr a44, vr a45, vi (Int32.ofNat n1), vi (Int32.ofNat n2), vi (Int32.ofNat m1), vi (Int32.ofNat m2), vi (Int32.ofNat o1), vi (Int32.ofNat o2), vu, vu] [])) rfl (hb hby at_230) (by decide) (by decide)
  obtain ⟨b1, g1⟩ : ∃ z, z = hPP.size := ⟨_, rfl⟩
  rw [← g1] at A1 D1 st1
  have g_b1 : n0 ≤ b1 := own_fresh OP g1
  have ne_a43_b1 : a43 ≠ b1 := Nat.ne_of_lt (Nat.lt_of_lt_of_le (V43).lt (Nat.le_of_eq g1.symm))
  have ne_a44_b1 : a44 ≠ b1 := Nat.ne_of_lt (Nat.lt_of_lt_of_le (V44).lt (Nat.le_of_eq g1.symm))
  have ne_a45_b1 : a45 ≠ b1 := Nat.ne_of_lt (Nat.lt_of_lt_of_le (V45).lt (Nat.le_of_eq g1.symm))
  have sz_b1 : h0.size ≤ b1 := Nat.le_trans KP.1 (Nat.le_of_eq g1.symm)
  have O1 := OP.ext E1
  have Kp1 := KP.ext E1
  have V_a43_1 := V43.ext E1
  have V_a44_1 := V44.ext E1
  have V_a45_1 := V45.ext E1
  have F_b1_coder : Fld Z h1 b1 "java/lang/String" "coder" "B" (xi (0 : Int32)) := D1 (Or.inr (ww hw 39 rfl)) (ty := .byte) (by decide)
  have F_b1_value : Fld Z h1 b1 "java/lang/String" "value" "[B" .null := D1 (Or.inr (ww hw 41 rfl)) (ty := (.array .byte)) (by decide)
  obtain ⟨_, _, ⟨T2, L2, k2, n2⟩, -, X2, ⟨Lc2, hQ2, l2, y2, z2⟩, st2⟩ := X1.specialBack hx (y := Y9) rfl hown (mvT hZ (ww hw 16 rfl)) (mvT hZ (ww hw 17 rfl)) (mvT hZ (ww hw 18 rfl)) (by decide) (backOf (W := 1) (own_i1_1 l Z a0 hw hj ki0 vf0 G b1 a43 k43 43 (own_fn bb x1 x2 m1 m2) mm h1 n0 O1 (by decide) V_a43_1 (by decide) A1 F_b1_value F_b1_coder g_b1 (Ne.symm ne_a43_b1) hall hch hlt hgt []) hZ (ww hw 18 rfl) (ww hw 15 rfl) (by decide) (by decide)) (g := (mkF m 236 #[vi p1, vi p2, vi p3, vi p4, vi p5, vi p6, vi kk, vi bb, vi x1, vi x2, vi (4 : Int32), vr a43, vr a44, vr a45, vi (Int32.ofNat n1), vi (Int32.ofNat n2), vi (Int32.ofNat m1), vi (Int32.ofNat m2), vi (Int32.ofNat o1), vi (Int32.ofNat o2), vu, vu] [xr a43, xr b1, xr b1])) rfl (by rw [hml]; rfl) (Steps.refl _) (a := b1) (argsL := [xr a43]) (rest := [xr b1]) (lenOf pd20 rfl) rfl (by show 2 * 0 + _ ≤ _; exact Nat.le_of_eq rfl) (hb hby at_236) (fun _ _ => ⟨rfl, e1, (by decide : 4 + 2 ≤ _), (by decide : 136 + 135 ≤ _)⟩)
  dsimp only [Pt.U, Pt.locs, Pt.cells, Pt.slots] at X2 l2 y2 z2 st2 hQ2
  subst l2 y2 z2
  obtain ⟨h2, e2⟩ : ∃ z, T2.heap = z := ⟨_, rfl⟩
  rw [e2] at hQ2
  obtain ⟨rfl, Nq2, K2, b12, k12, SS2, g12⟩ := hQ2
  have N2 := Fr.app NP Nq2
  have O2 : Old Z n0 h2 := O1.keep K2 (allS g_b1 all0)
  have Kp2 : Keep h0 h2 [] := Kp1.trans K2 (allS (Or.inr sz_b1) all0)
  have V_a43_2 := V_a43_1.keep K2 (ninS ne_a43_b1 nin0)
  have V_a44_2 := V_a44_1.keep K2 (ninS ne_a44_b1 nin0)
  have V_a45_2 := V_a45_1.keep K2 (ninS ne_a45_b1 nin0)
  have X_b1_2 := A1.keep K2
  obtain ⟨EA2, FC2, FV2, VB2⟩ := id SS2
  obtain ⟨_, _, ⟨T3, L3, k3, n3⟩, -, X3, ⟨Lc3, hQ3, l3, y3, z3⟩, st3⟩ := Jvm.LawKit.callS X2 hx (y := Y28) hown (mvT hZ (ww hw 45 rfl)) (mvT hZ (ww hw 46 rfl)) (mvT hZ (ww hw 47 rfl)) (mvT hZ (ww hw 48 rfl)) (by decide) (backOf (W := 0) (own_wfs1 l Z a0 hw hj ki0 vf0 G b1 b12 k12 43 (own_u16 (own_fn bb x1 x2 m1 m2)) h2 n0 O2 (by decide) ⟨EA2, FC2, FV2, VB2⟩ (by decide) (by decide) []) hZ (ww hw 48 rfl) (ww hw 47 rfl) (by decide) (by decide)) (g := (mkF m 299 #[vi p1, vi p2, vi p3, vi p4, vi p5, vi p6, vi kk, vi bb, vi x1, vi x2, vi (4 : Int32), vr a43, vr a44, vr a45, vi (Int32.ofNat n1), vi (Int32.ofNat n2), vi (Int32.ofNat m1), vi (Int32.ofNat m2), vi (Int32.ofNat o1), vi (Int32.ofNat o2), vr b1, vi (0 : Int32)] [xr b1])) rfl (by rw [hml]; rfl) (argsL := [xr b1]) (rest := []) (lenOf pd22 rfl) rfl (by show 2 * 0 + _ ≤ _; exact Nat.le_of_eq rfl) (hb hby at_299) (fun _ _ => ⟨rfl, e2, (by decide : 6 + 0 ≤ _), (by decide : 271 + 0 ≤ _)⟩)
  dsimp only [Pt.U, Pt.locs, Pt.cells, Pt.slots] at X3 l3 y3 z3 st3 hQ3
  subst l3 y3 z3
  obtain ⟨rfl, Nq3, e3⟩ := hQ3
  have N3 := Fr.app N2 Nq3
  obtain ⟨fs, hr, hrun, hended, hW, hsame⟩ := X3.leave (v := some (xi (1 : Int32))) (fun h => by rw [Bd.returns] at h; cases h)
  have hq := (CHr.keep Kp2 all0 hCH).trans (CHv.at (s := s) (vm0 := s.vm) X3 hZ (own_EW hw) (hCH.keep Kp2 all0))
  refine ⟨_, _, pre0 _ ?_, hrun, hended, _, _, rfl, ?_, ?_, ⟨_, rfl⟩, hW.wide, hW.no_new_pair _, hsame.mono (by decide) (by decide)⟩
  · show own_S p e below s₁ (mkF m 0 #[vi p1, vi p2, vi p3, vi p4, vi p5, vi p6, vu, vu, vu, vu, vu, vu, vu, vu, vu, vu, vu, vu, vu, vu, vu, vu] []) _
    refine stP _ ?_
    refine castTop (show (mkF m 175 #[vi p1, vi p2, vi p3, vi p4, vi p5, vi p6, vi kk, vi bb, vi x1, vi x2, vi (p1 &&& (7 : Int32)), vr a43, vr a44, vr a45, vi (Int32.ofNat n1), vi (Int32.ofNat n2), vi (Int32.ofNat m1), vi (Int32.ofNat m2), vi (Int32.ofNat o1), vi (Int32.ofNat o2), vu, vu] []) = (mkF m 175 #[vi p1, vi p2, vi p3, vi p4, vi p5, vi p6, vi kk, vi bb, vi x1, vi x2, vi (4 : Int32), vr a43, vr a44, vr a45, vi (Int32.ofNat n1), vi (Int32.ofNat n2), vi (Int32.ofNat m1), vi (Int32.ofNat m2), vi (Int32.ofNat o1), vi (Int32.ofNat o2), vu, vu] []) from by rw [as325]) ?_
    refine XS.iload XP.here hx rfl (hb hby at_175) rfl ?_
    refine XS.iconst XP.here hx rfl (hb hby at_177) ?_
    show own_S p e below TP (mkF m 178 #[vi p1, vi p2, vi p3, vi p4, vi p5, vi p6, vi kk, vi bb, vi x1, vi x2, vi (4 : Int32), vr a43, vr a44, vr a45, vi (Int32.ofNat n1), vi (Int32.ofNat n2), vi (Int32.ofNat m1), vi (Int32.ofNat m2), vi (Int32.ofNat o1), vi (Int32.ofNat o2), vu, vu] [xi (3 : Int32), xi (4 : Int32)]) _
    refine XS.icmpYes XP.here hx rfl (pc0 := 178) (pc' := 224) rfl (hb hby at_178) rfl (by decide) (by decide) (by decide) ?_
    refine XS.iload XP.here hx rfl (hb hby at_224) rfl ?_
    refine XS.iconst XP.here hx rfl (hb hby at_226) ?_
    show own_S p e below TP (mkF m 227 #[vi p1, vi p2, vi p3, vi p4, vi p5, vi p6, vi kk, vi bb, vi x1, vi x2, vi (4 : Int32), vr a43, vr a44, vr a45, vi (Int32.ofNat n1), vi (Int32.ofNat n2), vi (Int32.ofNat m1), vi (Int32.ofNat m2), vi (Int32.ofNat o1), vi (Int32.ofNat o2), vu, vu] [xi (4 : Int32), xi (4 : Int32)]) _
    refine XS.icmpNo XP.here hx rfl (hb hby at_227) rfl (by decide) ?_
    show own_S p e below TP (mkF m 230 #[vi p1, vi p2, vi p3, vi p4, vi p5, vi p6, vi kk, vi bb, vi x1, vi x2, vi (4 : Int32), vr a43, vr a44, vr a45, vi (Int32.ofNat n1), vi (Int32.ofNat n2), vi (Int32.ofNat m1), vi (Int32.ofNat m2), vi (Int32.ofNat o1), vi (Int32.ofNat o2), vu, vu] []) _
    refine st1 _ ?_
    refine XS.dup X1.here hx rfl (hb hby at_233) rfl rfl ?_
    refine XS.aload X1.here hx rfl (hb hby at_234) rfl rfl ?_
    show own_S p e below T1 (mkF m 236 #[vi p1, vi p2, vi p3, vi p4, vi p5, vi p6, vi kk, vi bb, vi x1, vi x2, vi (4 : Int32), vr a43, vr a44, vr a45, vi (Int32.ofNat n1), vi (Int32.ofNat n2), vi (Int32.ofNat m1), vi (Int32.ofNat m2), vi (Int32.ofNat o1), vi (Int32.ofNat o2), vu, vu] [xr a43, xr b1, xr b1]) _
    refine st2.trans ?_
    refine XS.astore X2.here hx rfl (hb hby at_239) rfl rfl (l' := #[vi p1, vi p2, vi p3, vi p4, vi p5, vi p6, vi kk, vi bb, vi x1, vi x2, vi (4 : Int32), vr a43, vr a44, vr a45, vi (Int32.ofNat n1), vi (Int32.ofNat n2), vi (Int32.ofNat m1), vi (Int32.ofNat m2), vi (Int32.ofNat o1), vi (Int32.ofNat o2), vr b1, vu]) rfl ?_
    refine XS.iconst X2.here hx rfl (hb hby at_241) ?_
    refine XS.istore X2.here hx rfl (hb hby at_242) rfl (l' := #[vi p1, vi p2, vi p3, vi p4, vi p5, vi p6, vi kk, vi bb, vi x1, vi x2, vi (4 : Int32), vr a43, vr a44, vr a45, vi (Int32.ofNat n1), vi (Int32.ofNat n2), vi (Int32.ofNat m1), vi (Int32.ofNat m2), vi (Int32.ofNat o1), vi (Int32.ofNat o2), vr b1, vi (0 : Int32)]) rfl ?_
    show own_S p e below T2 (mkF m 244 #[vi p1, vi p2, vi p3, vi p4, vi p5, vi p6, vi kk, vi bb, vi x1, vi x2, vi (4 : Int32), vr a43, vr a44, vr a45, vi (Int32.ofNat n1), vi (Int32.ofNat n2), vi (Int32.ofNat m1), vi (Int32.ofNat m2), vi (Int32.ofNat o1), vi (Int32.ofNat o2), vr b1, vi (0 : Int32)] []) _
    refine XS.goto X2.here hx rfl (pc0 := 244) (pc' := 297) rfl (hb hby at_244) (by decide) (by decide) ?_
    refine XS.aload X2.here hx rfl (hb hby at_297) rfl rfl ?_
    show own_S p e below T2 (mkF m 299 #[vi p1, vi p2, vi p3, vi p4, vi p5, vi p6, vi kk, vi bb, vi x1, vi x2, vi (4 : Int32), vr a43, vr a44, vr a45, vi (Int32.ofNat n1), vi (Int32.ofNat n2), vi (Int32.ofNat m1), vi (Int32.ofNat m2), vi (Int32.ofNat o1), vi (Int32.ofNat o2), vr b1, vi (0 : Int32)] [xr b1]) _
    refine st3 _ ?_
    refine XS.iload X3.here hx rfl (hb hby at_302) rfl ?_
    show own_S p e below T3 (mkF m 304 #[vi p1, vi p2, vi p3, vi p4, vi p5, vi p6, vi kk, vi bb, vi x1, vi x2, vi (4 : Int32), vr a43, vr a44, vr a45, vi (Int32.ofNat n1), vi (Int32.ofNat n2), vi (Int32.ofNat m1), vi (Int32.ofNat m2), vi (Int32.ofNat o1), vi (Int32.ofNat o2), vr b1, vi (0 : Int32)] [xi (0 : Int32), xi (0 : Int32)]) _
    refine XS.icmpNo X3.here hx rfl (hb hby at_304) rfl (by decide) ?_
    refine XS.iconst X3.here hx rfl (hb hby at_307) ?_
    refine XS.goto X3.here hx rfl (pc0 := 308) (pc' := 312) rfl (hb hby at_308) (by decide) (by decide) ?_
    show own_S p e below T3 (mkF m 312 #[vi p1, vi p2, vi p3, vi p4, vi p5, vi p6, vi kk, vi bb, vi x1, vi x2, vi (4 : Int32), vr a43, vr a44, vr a45, vi (Int32.ofNat n1), vi (Int32.ofNat n2), vi (Int32.ofNat m1), vi (Int32.ofNat m2), vi (Int32.ofNat o1), vi (Int32.ofNat o2), vr b1, vi (0 : Int32)] [xi (1 : Int32)]) _
    exact retN X3 hx (t := .boolean) Bd.returns (by simp) (hb hby at_312) hr
  · exact ⟨rfl, N3⟩
  · show CHr Z own_EL s.vm s.heap T3.vm T3.heap
    rw [hh, e3]; exact hq
theorem ef_own_law5_0 (m : MethodId)  (ki0 : Int32) (vf0 : Value) (p1 : Int32) (p2 : Int32) (p3 : Int32) (p4 : Int32) (p5 : Int32) (p6 : Int32) (kk : Int32) (bb : Int32) (x1 : Int32) (x2 : Int32) (n1 : Nat) (n2 : Nat) (m1 : Nat) (m2 : Nat) (o1 : Nat) (o2 : Nat) : entryFrame m #[xi p1, xi p2, xi p3, xi p4, xi p5, xi p6] maxLocals = (mkF m 0 #[vi p1, vi p2, vi p3, vi p4, vi p5, vi p6, vu, vu, vu, vu, vu, vu, vu, vu, vu, vu, vu, vu, vu, vu, vu, vu] []) := by first | (simp [entryFrame, mkF, argsToLocals, Value.category, maxLocals]; done) | rfl
set_option maxRecDepth 65536 in
set_option maxHeartbeats 40000000 in
theorem own_law5_0 (l : Launch) (Z : State) (a0 : Array Value) (hw : ∀ d ∈ tables_1, d.before a0 Z = true) (hj : ∀ d ∈ jdkStatics_1, d.before a0 Z = true)  (ki0 : Int32) (vf0 : Value) (G : own_St Z hj ki0 vf0) (p1 : Int32) (p2 : Int32) (p3 : Int32) (p4 : Int32) (p5 : Int32) (p6 : Int32) (kk : Int32) (bb : Int32) (x1 : Int32) (x2 : Int32) (n1 : Nat) (n2 : Nat) (m1 : Nat) (m2 : Nat) (o1 : Nat) (o2 : Nat) (as326 : (p1 &&& (7 : Int32)) = (5 : Int32)) (h0 : Heap) (n0 : Nat) (O0 : Old Z n0 h0) (hcase : ((if_icmp.holds .ge kk (26 : Int32) = false) ∧ ((((97 : Int32) + kk).toUInt32.toUInt16.toUInt32.toInt32) = bb)) ∨ ((if_icmp.holds .ge kk (26 : Int32) = true) ∧ ((((48 : Int32) + (kk - (26 : Int32))).toUInt32.toUInt16.toUInt32.toInt32) = bb))) (as47 : ((p6 &&& (2147483647 : Int32)) - ((p6 &&& (2147483647 : Int32)) / (36 : Int32)) * (36 : Int32)) = kk) (as48 : ((p3 &&& (65535 : Int32)).toUInt32.toUInt16.toUInt32.toInt32) = x1) (as49 : ((p5 &&& (65535 : Int32)).toUInt32.toUInt16.toUInt32.toInt32) = x2) (as94 : ((p2 &&& (2147483647 : Int32)) - ((p2 &&& (2147483647 : Int32)) / (44 : Int32)) * (44 : Int32)) = (Int32.ofNat n1)) (as139 : ((p4 &&& (2147483647 : Int32)) - ((p4 &&& (2147483647 : Int32)) / (44 : Int32)) * (44 : Int32)) = (Int32.ofNat n2)) (as183 : ((p2 &&& (2147483647 : Int32)) - ((p2 &&& (2147483647 : Int32)) / (43 : Int32)) * (43 : Int32)) = (Int32.ofNat m1)) (as227 : ((p4 &&& (2147483647 : Int32)) - ((p4 &&& (2147483647 : Int32)) / (43 : Int32)) * (43 : Int32)) = (Int32.ofNat m2)) (as273 : ((p2 &&& (2147483647 : Int32)) - ((p2 &&& (2147483647 : Int32)) / (45 : Int32)) * (45 : Int32)) = (Int32.ofNat o1)) (as319 : ((p4 &&& (2147483647 : Int32)) - ((p4 &&& (2147483647 : Int32)) / (45 : Int32)) * (45 : Int32)) = (Int32.ofNat o2)) (hn1 : n1 < 44) (hn2 : n2 < 44) (hm1 : m1 < 43) (hm2 : m2 < 43) (ho1 : o1 < 45) (ho2 : o2 < 45) (hall : ∀ j, j < 45 → if_icmp.holds .le ((own_fn bb x1 x2 o1 o2) j) (255 : Int32) = true) : own_MetW l Z x code maxLocals ret room_1 #[xi p1, xi p2, xi p3, xi p4, xi p5, xi p6] h0 (own_QL (some (xi (1 : Int32))) n0) := by
  intro ws
  refine MetFree.of_bodySF (plainFor_of_name pn2) hisR ?_
  intro p e s m args below meth c s₁ Bd hml0 hP hK
  obtain ⟨rfl, hZ, hh, hCH⟩ := hP
  have hx := Bd.exec
  have hby := Bd.bytes
  have hml : c.maxLocals = 22 := hml0
  have hown : s.vm.findClass "com/example/scopelock/scopelock/KeyWellFormedPinLaw" = some m.cls := findClass_of_methodNamed Bd.named
  have hnm := (name_of_methodNamed Bd.named Bd.method).1
  have X0 : Stand p l e room_1 s m #[xi p1, xi p2, xi p3, xi p4, xi p5, xi p6] below meth c s₁ [] 0 0 := Stand.of_body Bd
  have e0 : s₁.heap = h0 := by rw [← hh, Bd.state]; rfl
  have N0 := Fr.nil n0
  have pre0 : ∀ t, Steps p.tables e below (s₁.setTop (mkF m 0 #[vi p1, vi p2, vi p3, vi p4, vi p5, vi p6, vu, vu, vu, vu, vu, vu, vu, vu, vu, vu, vu, vu, vu, vu, vu, vu] [])) t → Steps p.tables e below (s₁.setTop (entryFrame m #[xi p1, xi p2, xi p3, xi p4, xi p5, xi p6] maxLocals)) t := fun t st => castTop (ef_own_law5_0 m ki0 vf0 p1 p2 p3 p4 p5 p6 kk bb x1 x2 n1 n2 m1 m2 o1 o2) st
  obtain ⟨TP, LP, hPP, a43, a44, a45, k43, k44, k45, XP, eP, NP, OP, ⟨V43, V44, V45, KP⟩, stP⟩ := own_pre hw hj ki0 vf0 G p1 p2 p3 p4 p5 p6 kk bb x1 x2 n1 n2 m1 m2 o1 o2 as47 hcase as48 as49 as94 as139 as183 as227 as273 as319 hx hZ hby hml hown X0 e0 N0 O0 hn1 hn2 hm1 hm2 ho1 ho2
  obtain ⟨T1, h1, X1, e1, E1, A1, D1, -, st1⟩ := newO XP hx hZ hown (ww hw 13 rfl) (ww hw 14 rfl) (ww hw 15 rfl) eP (g := (mkF m 253 #[vi p1, vi p2, vi p3, vi p4, vi p5, vi p6, vi kk, vi bb, vi x1, vi x2, vi (5 : Int32), vr a43, vr a44, vr a45, vi (Int32.ofNat n1), vi (Int32.ofNat n2), vi (Int32.ofNat m1), vi (Int32.ofNat m2), vi (Int32.ofNat o1), vi (Int32.ofNat o2), vu, vu] [])) rfl (hb hby at_253) (by decide) (by decide)
  obtain ⟨b1, g1⟩ : ∃ z, z = hPP.size := ⟨_, rfl⟩
  rw [← g1] at A1 D1 st1
  have g_b1 : n0 ≤ b1 := own_fresh OP g1
  have ne_a43_b1 : a43 ≠ b1 := Nat.ne_of_lt (Nat.lt_of_lt_of_le (V43).lt (Nat.le_of_eq g1.symm))
  have ne_a44_b1 : a44 ≠ b1 := Nat.ne_of_lt (Nat.lt_of_lt_of_le (V44).lt (Nat.le_of_eq g1.symm))
  have ne_a45_b1 : a45 ≠ b1 := Nat.ne_of_lt (Nat.lt_of_lt_of_le (V45).lt (Nat.le_of_eq g1.symm))
  have sz_b1 : h0.size ≤ b1 := Nat.le_trans KP.1 (Nat.le_of_eq g1.symm)
  have O1 := OP.ext E1
  have Kp1 := KP.ext E1
  have V_a43_1 := V43.ext E1
  have V_a44_1 := V44.ext E1
  have V_a45_1 := V45.ext E1
  have F_b1_coder : Fld Z h1 b1 "java/lang/String" "coder" "B" (xi (0 : Int32)) := D1 (Or.inr (ww hw 39 rfl)) (ty := .byte) (by decide)
  have F_b1_value : Fld Z h1 b1 "java/lang/String" "value" "[B" .null := D1 (Or.inr (ww hw 41 rfl)) (ty := (.array .byte)) (by decide)
  obtain ⟨_, _, ⟨T2, L2, k2, n2⟩, -, X2, ⟨Lc2, hQ2, l2, y2, z2⟩, st2⟩ := X1.specialBack hx (y := Y9) rfl hown (mvT hZ (ww hw 16 rfl)) (mvT hZ (ww hw 17 rfl)) (mvT hZ (ww hw 18 rfl)) (by decide) (backOf (W := 1) (own_i1_0 l Z a0 hw hj ki0 vf0 G b1 a45 k45 45 (own_fn bb x1 x2 o1 o2) h1 n0 O1 (by decide) V_a45_1 (by decide) A1 F_b1_value F_b1_coder g_b1 (Ne.symm ne_a45_b1) hall []) hZ (ww hw 18 rfl) (ww hw 15 rfl) (by decide) (by decide)) (g := (mkF m 259 #[vi p1, vi p2, vi p3, vi p4, vi p5, vi p6, vi kk, vi bb, vi x1, vi x2, vi (5 : Int32), vr a43, vr a44, vr a45, vi (Int32.ofNat n1), vi (Int32.ofNat n2), vi (Int32.ofNat m1), vi (Int32.ofNat m2), vi (Int32.ofNat o1), vi (Int32.ofNat o2), vu, vu] [xr a45, xr b1, xr b1])) rfl (by rw [hml]; rfl) (Steps.refl _) (a := b1) (argsL := [xr a45]) (rest := [xr b1]) (lenOf pd20 rfl) rfl (by show 2 * 0 + _ ≤ _; exact Nat.le_of_eq rfl) (hb hby at_259) (fun _ _ => ⟨rfl, e1, (by decide : 4 + 2 ≤ _), (by decide : 136 + 135 ≤ _)⟩)
  dsimp only [Pt.U, Pt.locs, Pt.cells, Pt.slots] at X2 l2 y2 z2 st2 hQ2
  subst l2 y2 z2
  obtain ⟨h2, e2⟩ : ∃ z, T2.heap = z := ⟨_, rfl⟩
  rw [e2] at hQ2
  obtain ⟨rfl, Nq2, K2, b12, k12, SS2, g12⟩ := hQ2
  have N2 := Fr.app NP Nq2
  have O2 : Old Z n0 h2 := O1.keep K2 (allS g_b1 all0)
  have Kp2 : Keep h0 h2 [] := Kp1.trans K2 (allS (Or.inr sz_b1) all0)
  have V_a43_2 := V_a43_1.keep K2 (ninS ne_a43_b1 nin0)
  have V_a44_2 := V_a44_1.keep K2 (ninS ne_a44_b1 nin0)
  have V_a45_2 := V_a45_1.keep K2 (ninS ne_a45_b1 nin0)
  have X_b1_2 := A1.keep K2
  obtain ⟨EA2, FC2, FV2, VB2⟩ := id SS2
  obtain ⟨_, _, ⟨T3, L3, k3, n3⟩, -, X3, ⟨Lc3, hQ3, l3, y3, z3⟩, st3⟩ := Jvm.LawKit.callS X2 hx (y := Y28) hown (mvT hZ (ww hw 45 rfl)) (mvT hZ (ww hw 46 rfl)) (mvT hZ (ww hw 47 rfl)) (mvT hZ (ww hw 48 rfl)) (by decide) (backOf (W := 0) (own_wfs0 l Z a0 hw hj ki0 vf0 G b1 b12 k12 45 (own_lat (own_fn bb x1 x2 o1 o2)) h2 n0 O2 (by decide) ⟨EA2, FC2, FV2, VB2⟩ (by decide) (by decide) []) hZ (ww hw 48 rfl) (ww hw 47 rfl) (by decide) (by decide)) (g := (mkF m 299 #[vi p1, vi p2, vi p3, vi p4, vi p5, vi p6, vi kk, vi bb, vi x1, vi x2, vi (5 : Int32), vr a43, vr a44, vr a45, vi (Int32.ofNat n1), vi (Int32.ofNat n2), vi (Int32.ofNat m1), vi (Int32.ofNat m2), vi (Int32.ofNat o1), vi (Int32.ofNat o2), vr b1, vi (0 : Int32)] [xr b1])) rfl (by rw [hml]; rfl) (argsL := [xr b1]) (rest := []) (lenOf pd22 rfl) rfl (by show 2 * 0 + _ ≤ _; exact Nat.le_of_eq rfl) (hb hby at_299) (fun _ _ => ⟨rfl, e2, (by decide : 6 + 0 ≤ _), (by decide : 271 + 0 ≤ _)⟩)
  dsimp only [Pt.U, Pt.locs, Pt.cells, Pt.slots] at X3 l3 y3 z3 st3 hQ3
  subst l3 y3 z3
  obtain ⟨rfl, Nq3, e3⟩ := hQ3
  have N3 := Fr.app N2 Nq3
  obtain ⟨fs, hr, hrun, hended, hW, hsame⟩ := X3.leave (v := some (xi (1 : Int32))) (fun h => by rw [Bd.returns] at h; cases h)
  have hq := (CHr.keep Kp2 all0 hCH).trans (CHv.at (s := s) (vm0 := s.vm) X3 hZ (own_EW hw) (hCH.keep Kp2 all0))
  refine ⟨_, _, pre0 _ ?_, hrun, hended, _, _, rfl, ?_, ?_, ⟨_, rfl⟩, hW.wide, hW.no_new_pair _, hsame.mono (by decide) (by decide)⟩
  · show own_S p e below s₁ (mkF m 0 #[vi p1, vi p2, vi p3, vi p4, vi p5, vi p6, vu, vu, vu, vu, vu, vu, vu, vu, vu, vu, vu, vu, vu, vu, vu, vu] []) _
    refine stP _ ?_
    refine castTop (show (mkF m 175 #[vi p1, vi p2, vi p3, vi p4, vi p5, vi p6, vi kk, vi bb, vi x1, vi x2, vi (p1 &&& (7 : Int32)), vr a43, vr a44, vr a45, vi (Int32.ofNat n1), vi (Int32.ofNat n2), vi (Int32.ofNat m1), vi (Int32.ofNat m2), vi (Int32.ofNat o1), vi (Int32.ofNat o2), vu, vu] []) = (mkF m 175 #[vi p1, vi p2, vi p3, vi p4, vi p5, vi p6, vi kk, vi bb, vi x1, vi x2, vi (5 : Int32), vr a43, vr a44, vr a45, vi (Int32.ofNat n1), vi (Int32.ofNat n2), vi (Int32.ofNat m1), vi (Int32.ofNat m2), vi (Int32.ofNat o1), vi (Int32.ofNat o2), vu, vu] []) from by rw [as326]) ?_
    refine XS.iload XP.here hx rfl (hb hby at_175) rfl ?_
    refine XS.iconst XP.here hx rfl (hb hby at_177) ?_
    show own_S p e below TP (mkF m 178 #[vi p1, vi p2, vi p3, vi p4, vi p5, vi p6, vi kk, vi bb, vi x1, vi x2, vi (5 : Int32), vr a43, vr a44, vr a45, vi (Int32.ofNat n1), vi (Int32.ofNat n2), vi (Int32.ofNat m1), vi (Int32.ofNat m2), vi (Int32.ofNat o1), vi (Int32.ofNat o2), vu, vu] [xi (3 : Int32), xi (5 : Int32)]) _
    refine XS.icmpYes XP.here hx rfl (pc0 := 178) (pc' := 224) rfl (hb hby at_178) rfl (by decide) (by decide) (by decide) ?_
    refine XS.iload XP.here hx rfl (hb hby at_224) rfl ?_
    refine XS.iconst XP.here hx rfl (hb hby at_226) ?_
    show own_S p e below TP (mkF m 227 #[vi p1, vi p2, vi p3, vi p4, vi p5, vi p6, vi kk, vi bb, vi x1, vi x2, vi (5 : Int32), vr a43, vr a44, vr a45, vi (Int32.ofNat n1), vi (Int32.ofNat n2), vi (Int32.ofNat m1), vi (Int32.ofNat m2), vi (Int32.ofNat o1), vi (Int32.ofNat o2), vu, vu] [xi (4 : Int32), xi (5 : Int32)]) _
    refine XS.icmpYes XP.here hx rfl (pc0 := 227) (pc' := 247) rfl (hb hby at_227) rfl (by decide) (by decide) (by decide) ?_
    refine XS.iload XP.here hx rfl (hb hby at_247) rfl ?_
    refine XS.iconst XP.here hx rfl (hb hby at_249) ?_
    show own_S p e below TP (mkF m 250 #[vi p1, vi p2, vi p3, vi p4, vi p5, vi p6, vi kk, vi bb, vi x1, vi x2, vi (5 : Int32), vr a43, vr a44, vr a45, vi (Int32.ofNat n1), vi (Int32.ofNat n2), vi (Int32.ofNat m1), vi (Int32.ofNat m2), vi (Int32.ofNat o1), vi (Int32.ofNat o2), vu, vu] [xi (5 : Int32), xi (5 : Int32)]) _
    refine XS.icmpNo XP.here hx rfl (hb hby at_250) rfl (by decide) ?_
    show own_S p e below TP (mkF m 253 #[vi p1, vi p2, vi p3, vi p4, vi p5, vi p6, vi kk, vi bb, vi x1, vi x2, vi (5 : Int32), vr a43, vr a44, vr a45, vi (Int32.ofNat n1), vi (Int32.ofNat n2), vi (Int32.ofNat m1), vi (Int32.ofNat m2), vi (Int32.ofNat o1), vi (Int32.ofNat o2), vu, vu] []) _
    refine st1 _ ?_
    refine XS.dup X1.here hx rfl (hb hby at_256) rfl rfl ?_
    refine XS.aload X1.here hx rfl (hb hby at_257) rfl rfl ?_
    show own_S p e below T1 (mkF m 259 #[vi p1, vi p2, vi p3, vi p4, vi p5, vi p6, vi kk, vi bb, vi x1, vi x2, vi (5 : Int32), vr a43, vr a44, vr a45, vi (Int32.ofNat n1), vi (Int32.ofNat n2), vi (Int32.ofNat m1), vi (Int32.ofNat m2), vi (Int32.ofNat o1), vi (Int32.ofNat o2), vu, vu] [xr a45, xr b1, xr b1]) _
    refine st2.trans ?_
    refine XS.astore X2.here hx rfl (hb hby at_262) rfl rfl (l' := #[vi p1, vi p2, vi p3, vi p4, vi p5, vi p6, vi kk, vi bb, vi x1, vi x2, vi (5 : Int32), vr a43, vr a44, vr a45, vi (Int32.ofNat n1), vi (Int32.ofNat n2), vi (Int32.ofNat m1), vi (Int32.ofNat m2), vi (Int32.ofNat o1), vi (Int32.ofNat o2), vr b1, vu]) rfl ?_
    refine XS.iconst X2.here hx rfl (hb hby at_264) ?_
    refine XS.istore X2.here hx rfl (hb hby at_265) rfl (l' := #[vi p1, vi p2, vi p3, vi p4, vi p5, vi p6, vi kk, vi bb, vi x1, vi x2, vi (5 : Int32), vr a43, vr a44, vr a45, vi (Int32.ofNat n1), vi (Int32.ofNat n2), vi (Int32.ofNat m1), vi (Int32.ofNat m2), vi (Int32.ofNat o1), vi (Int32.ofNat o2), vr b1, vi (0 : Int32)]) rfl ?_
    show own_S p e below T2 (mkF m 267 #[vi p1, vi p2, vi p3, vi p4, vi p5, vi p6, vi kk, vi bb, vi x1, vi x2, vi (5 : Int32), vr a43, vr a44, vr a45, vi (Int32.ofNat n1), vi (Int32.ofNat n2), vi (Int32.ofNat m1), vi (Int32.ofNat m2), vi (Int32.ofNat o1), vi (Int32.ofNat o2), vr b1, vi (0 : Int32)] []) _
    refine XS.goto X2.here hx rfl (pc0 := 267) (pc' := 297) rfl (hb hby at_267) (by decide) (by decide) ?_
    refine XS.aload X2.here hx rfl (hb hby at_297) rfl rfl ?_
    show own_S p e below T2 (mkF m 299 #[vi p1, vi p2, vi p3, vi p4, vi p5, vi p6, vi kk, vi bb, vi x1, vi x2, vi (5 : Int32), vr a43, vr a44, vr a45, vi (Int32.ofNat n1), vi (Int32.ofNat n2), vi (Int32.ofNat m1), vi (Int32.ofNat m2), vi (Int32.ofNat o1), vi (Int32.ofNat o2), vr b1, vi (0 : Int32)] [xr b1]) _
    refine st3 _ ?_
    refine XS.iload X3.here hx rfl (hb hby at_302) rfl ?_
    show own_S p e below T3 (mkF m 304 #[vi p1, vi p2, vi p3, vi p4, vi p5, vi p6, vi kk, vi bb, vi x1, vi x2, vi (5 : Int32), vr a43, vr a44, vr a45, vi (Int32.ofNat n1), vi (Int32.ofNat n2), vi (Int32.ofNat m1), vi (Int32.ofNat m2), vi (Int32.ofNat o1), vi (Int32.ofNat o2), vr b1, vi (0 : Int32)] [xi (0 : Int32), xi (0 : Int32)]) _
    refine XS.icmpNo X3.here hx rfl (hb hby at_304) rfl (by decide) ?_
    refine XS.iconst X3.here hx rfl (hb hby at_307) ?_
    refine XS.goto X3.here hx rfl (pc0 := 308) (pc' := 312) rfl (hb hby at_308) (by decide) (by decide) ?_
    show own_S p e below T3 (mkF m 312 #[vi p1, vi p2, vi p3, vi p4, vi p5, vi p6, vi kk, vi bb, vi x1, vi x2, vi (5 : Int32), vr a43, vr a44, vr a45, vi (Int32.ofNat n1), vi (Int32.ofNat n2), vi (Int32.ofNat m1), vi (Int32.ofNat m2), vi (Int32.ofNat o1), vi (Int32.ofNat o2), vr b1, vi (0 : Int32)] [xi (1 : Int32)]) _
    exact retN X3 hx (t := .boolean) Bd.returns (by simp) (hb hby at_312) hr
  · exact ⟨rfl, N3⟩
  · show CHr Z own_EL s.vm s.heap T3.vm T3.heap
    rw [hh, e3]; exact hq
theorem ef_own_law5_1 (m : MethodId)  (ki0 : Int32) (vf0 : Value) (p1 : Int32) (p2 : Int32) (p3 : Int32) (p4 : Int32) (p5 : Int32) (p6 : Int32) (kk : Int32) (bb : Int32) (x1 : Int32) (x2 : Int32) (n1 : Nat) (n2 : Nat) (m1 : Nat) (m2 : Nat) (o1 : Nat) (o2 : Nat) : entryFrame m #[xi p1, xi p2, xi p3, xi p4, xi p5, xi p6] maxLocals = (mkF m 0 #[vi p1, vi p2, vi p3, vi p4, vi p5, vi p6, vu, vu, vu, vu, vu, vu, vu, vu, vu, vu, vu, vu, vu, vu, vu, vu] []) := by first | (simp [entryFrame, mkF, argsToLocals, Value.category, maxLocals]; done) | rfl
set_option maxRecDepth 65536 in
set_option maxHeartbeats 40000000 in
theorem own_law5_1 (l : Launch) (Z : State) (a0 : Array Value) (hw : ∀ d ∈ tables_1, d.before a0 Z = true) (hj : ∀ d ∈ jdkStatics_1, d.before a0 Z = true)  (ki0 : Int32) (vf0 : Value) (G : own_St Z hj ki0 vf0) (p1 : Int32) (p2 : Int32) (p3 : Int32) (p4 : Int32) (p5 : Int32) (p6 : Int32) (kk : Int32) (bb : Int32) (x1 : Int32) (x2 : Int32) (n1 : Nat) (n2 : Nat) (m1 : Nat) (m2 : Nat) (o1 : Nat) (o2 : Nat) (as326 : (p1 &&& (7 : Int32)) = (5 : Int32)) (h0 : Heap) (n0 : Nat) (O0 : Old Z n0 h0) (hcase : ((if_icmp.holds .ge kk (26 : Int32) = false) ∧ ((((97 : Int32) + kk).toUInt32.toUInt16.toUInt32.toInt32) = bb)) ∨ ((if_icmp.holds .ge kk (26 : Int32) = true) ∧ ((((48 : Int32) + (kk - (26 : Int32))).toUInt32.toUInt16.toUInt32.toInt32) = bb))) (as47 : ((p6 &&& (2147483647 : Int32)) - ((p6 &&& (2147483647 : Int32)) / (36 : Int32)) * (36 : Int32)) = kk) (as48 : ((p3 &&& (65535 : Int32)).toUInt32.toUInt16.toUInt32.toInt32) = x1) (as49 : ((p5 &&& (65535 : Int32)).toUInt32.toUInt16.toUInt32.toInt32) = x2) (as94 : ((p2 &&& (2147483647 : Int32)) - ((p2 &&& (2147483647 : Int32)) / (44 : Int32)) * (44 : Int32)) = (Int32.ofNat n1)) (as139 : ((p4 &&& (2147483647 : Int32)) - ((p4 &&& (2147483647 : Int32)) / (44 : Int32)) * (44 : Int32)) = (Int32.ofNat n2)) (as183 : ((p2 &&& (2147483647 : Int32)) - ((p2 &&& (2147483647 : Int32)) / (43 : Int32)) * (43 : Int32)) = (Int32.ofNat m1)) (as227 : ((p4 &&& (2147483647 : Int32)) - ((p4 &&& (2147483647 : Int32)) / (43 : Int32)) * (43 : Int32)) = (Int32.ofNat m2)) (as273 : ((p2 &&& (2147483647 : Int32)) - ((p2 &&& (2147483647 : Int32)) / (45 : Int32)) * (45 : Int32)) = (Int32.ofNat o1)) (as319 : ((p4 &&& (2147483647 : Int32)) - ((p4 &&& (2147483647 : Int32)) / (45 : Int32)) * (45 : Int32)) = (Int32.ofNat o2)) (hn1 : n1 < 44) (hn2 : n2 < 44) (hm1 : m1 < 43) (hm2 : m2 < 43) (ho1 : o1 < 45) (ho2 : o2 < 45) (mm : Nat) (hch : ∀ j, j < 45 → 0 ≤ ((own_fn bb x1 x2 o1 o2) j).toInt ∧ ((own_fn bb x1 x2 o1 o2) j).toInt < 65536) (hlt : mm < 45) (hgt : if_icmp.holds .le ((own_fn bb x1 x2 o1 o2) mm) (255 : Int32) = false) (hall : ∀ j, j < mm → if_icmp.holds .le ((own_fn bb x1 x2 o1 o2) j) (255 : Int32) = true) : own_MetW l Z x code maxLocals ret room_1 #[xi p1, xi p2, xi p3, xi p4, xi p5, xi p6] h0 (own_QL (some (xi (1 : Int32))) n0) := by
  intro ws
  refine MetFree.of_bodySF (plainFor_of_name pn2) hisR ?_
  intro p e s m args below meth c s₁ Bd hml0 hP hK
  obtain ⟨rfl, hZ, hh, hCH⟩ := hP
  have hx := Bd.exec
  have hby := Bd.bytes
  have hml : c.maxLocals = 22 := hml0
  have hown : s.vm.findClass "com/example/scopelock/scopelock/KeyWellFormedPinLaw" = some m.cls := findClass_of_methodNamed Bd.named
  have hnm := (name_of_methodNamed Bd.named Bd.method).1
  have X0 : Stand p l e room_1 s m #[xi p1, xi p2, xi p3, xi p4, xi p5, xi p6] below meth c s₁ [] 0 0 := Stand.of_body Bd
  have e0 : s₁.heap = h0 := by rw [← hh, Bd.state]; rfl
  have N0 := Fr.nil n0
  have pre0 : ∀ t, Steps p.tables e below (s₁.setTop (mkF m 0 #[vi p1, vi p2, vi p3, vi p4, vi p5, vi p6, vu, vu, vu, vu, vu, vu, vu, vu, vu, vu, vu, vu, vu, vu, vu, vu] [])) t → Steps p.tables e below (s₁.setTop (entryFrame m #[xi p1, xi p2, xi p3, xi p4, xi p5, xi p6] maxLocals)) t := fun t st => castTop (ef_own_law5_1 m ki0 vf0 p1 p2 p3 p4 p5 p6 kk bb x1 x2 n1 n2 m1 m2 o1 o2) st
  obtain ⟨TP, LP, hPP, a43, a44, a45, k43, k44, k45, XP, eP, NP, OP, ⟨V43, V44, V45, KP⟩, stP⟩ := own_pre hw hj ki0 vf0 G p1 p2 p3 p4 p5 p6 kk bb x1 x2 n1 n2 m1 m2 o1 o2 as47 hcase as48 as49 as94 as139 as183 as227 as273 as319 hx hZ hby hml hown X0 e0 N0 O0 hn1 hn2 hm1 hm2 ho1 ho2
  obtain ⟨T1, h1, X1, e1, E1, A1, D1, -, st1⟩ := newO XP hx hZ hown (ww hw 13 rfl) (ww hw 14 rfl) (ww hw 15 rfl) eP (g := (mkF m 253 #[vi p1, vi p2, vi p3, vi p4, vi p5, vi p6, vi kk, vi bb, vi x1, vi x2, vi (5 : Int32), vr a43, vr a44, vr a45, vi (Int32.ofNat n1), vi (Int32.ofNat n2), vi (Int32.ofNat m1), vi (Int32.ofNat m2), vi (Int32.ofNat o1), vi (Int32.ofNat o2), vu, vu] [])) rfl (hb hby at_253) (by decide) (by decide)
  obtain ⟨b1, g1⟩ : ∃ z, z = hPP.size := ⟨_, rfl⟩
  rw [← g1] at A1 D1 st1
  have g_b1 : n0 ≤ b1 := own_fresh OP g1
  have ne_a43_b1 : a43 ≠ b1 := Nat.ne_of_lt (Nat.lt_of_lt_of_le (V43).lt (Nat.le_of_eq g1.symm))
  have ne_a44_b1 : a44 ≠ b1 := Nat.ne_of_lt (Nat.lt_of_lt_of_le (V44).lt (Nat.le_of_eq g1.symm))
  have ne_a45_b1 : a45 ≠ b1 := Nat.ne_of_lt (Nat.lt_of_lt_of_le (V45).lt (Nat.le_of_eq g1.symm))
  have sz_b1 : h0.size ≤ b1 := Nat.le_trans KP.1 (Nat.le_of_eq g1.symm)
  have O1 := OP.ext E1
  have Kp1 := KP.ext E1
  have V_a43_1 := V43.ext E1
  have V_a44_1 := V44.ext E1
  have V_a45_1 := V45.ext E1
  have F_b1_coder : Fld Z h1 b1 "java/lang/String" "coder" "B" (xi (0 : Int32)) := D1 (Or.inr (ww hw 39 rfl)) (ty := .byte) (by decide)
  have F_b1_value : Fld Z h1 b1 "java/lang/String" "value" "[B" .null := D1 (Or.inr (ww hw 41 rfl)) (ty := (.array .byte)) (by decide)
  obtain ⟨_, _, ⟨T2, L2, k2, n2⟩, -, X2, ⟨Lc2, hQ2, l2, y2, z2⟩, st2⟩ := X1.specialBack hx (y := Y9) rfl hown (mvT hZ (ww hw 16 rfl)) (mvT hZ (ww hw 17 rfl)) (mvT hZ (ww hw 18 rfl)) (by decide) (backOf (W := 1) (own_i1_1 l Z a0 hw hj ki0 vf0 G b1 a45 k45 45 (own_fn bb x1 x2 o1 o2) mm h1 n0 O1 (by decide) V_a45_1 (by decide) A1 F_b1_value F_b1_coder g_b1 (Ne.symm ne_a45_b1) hall hch hlt hgt []) hZ (ww hw 18 rfl) (ww hw 15 rfl) (by decide) (by decide)) (g := (mkF m 259 #[vi p1, vi p2, vi p3, vi p4, vi p5, vi p6, vi kk, vi bb, vi x1, vi x2, vi (5 : Int32), vr a43, vr a44, vr a45, vi (Int32.ofNat n1), vi (Int32.ofNat n2), vi (Int32.ofNat m1), vi (Int32.ofNat m2), vi (Int32.ofNat o1), vi (Int32.ofNat o2), vu, vu] [xr a45, xr b1, xr b1])) rfl (by rw [hml]; rfl) (Steps.refl _) (a := b1) (argsL := [xr a45]) (rest := [xr b1]) (lenOf pd20 rfl) rfl (by show 2 * 0 + _ ≤ _; exact Nat.le_of_eq rfl) (hb hby at_259) (fun _ _ => ⟨rfl, e1, (by decide : 4 + 2 ≤ _), (by decide : 136 + 135 ≤ _)⟩)
  dsimp only [Pt.U, Pt.locs, Pt.cells, Pt.slots] at X2 l2 y2 z2 st2 hQ2
  subst l2 y2 z2
  obtain ⟨h2, e2⟩ : ∃ z, T2.heap = z := ⟨_, rfl⟩
  rw [e2] at hQ2
  obtain ⟨rfl, Nq2, K2, b12, k12, SS2, g12⟩ := hQ2
  have N2 := Fr.app NP Nq2
  have O2 : Old Z n0 h2 := O1.keep K2 (allS g_b1 all0)
  have Kp2 : Keep h0 h2 [] := Kp1.trans K2 (allS (Or.inr sz_b1) all0)
  have V_a43_2 := V_a43_1.keep K2 (ninS ne_a43_b1 nin0)
  have V_a44_2 := V_a44_1.keep K2 (ninS ne_a44_b1 nin0)
  have V_a45_2 := V_a45_1.keep K2 (ninS ne_a45_b1 nin0)
  have X_b1_2 := A1.keep K2
  obtain ⟨EA2, FC2, FV2, VB2⟩ := id SS2
  obtain ⟨_, _, ⟨T3, L3, k3, n3⟩, -, X3, ⟨Lc3, hQ3, l3, y3, z3⟩, st3⟩ := Jvm.LawKit.callS X2 hx (y := Y28) hown (mvT hZ (ww hw 45 rfl)) (mvT hZ (ww hw 46 rfl)) (mvT hZ (ww hw 47 rfl)) (mvT hZ (ww hw 48 rfl)) (by decide) (backOf (W := 0) (own_wfs1 l Z a0 hw hj ki0 vf0 G b1 b12 k12 45 (own_u16 (own_fn bb x1 x2 o1 o2)) h2 n0 O2 (by decide) ⟨EA2, FC2, FV2, VB2⟩ (by decide) (by decide) []) hZ (ww hw 48 rfl) (ww hw 47 rfl) (by decide) (by decide)) (g := (mkF m 299 #[vi p1, vi p2, vi p3, vi p4, vi p5, vi p6, vi kk, vi bb, vi x1, vi x2, vi (5 : Int32), vr a43, vr a44, vr a45, vi (Int32.ofNat n1), vi (Int32.ofNat n2), vi (Int32.ofNat m1), vi (Int32.ofNat m2), vi (Int32.ofNat o1), vi (Int32.ofNat o2), vr b1, vi (0 : Int32)] [xr b1])) rfl (by rw [hml]; rfl) (argsL := [xr b1]) (rest := []) (lenOf pd22 rfl) rfl (by show 2 * 0 + _ ≤ _; exact Nat.le_of_eq rfl) (hb hby at_299) (fun _ _ => ⟨rfl, e2, (by decide : 6 + 0 ≤ _), (by decide : 271 + 0 ≤ _)⟩)
  dsimp only [Pt.U, Pt.locs, Pt.cells, Pt.slots] at X3 l3 y3 z3 st3 hQ3
  subst l3 y3 z3
  obtain ⟨rfl, Nq3, e3⟩ := hQ3
  have N3 := Fr.app N2 Nq3
  obtain ⟨fs, hr, hrun, hended, hW, hsame⟩ := X3.leave (v := some (xi (1 : Int32))) (fun h => by rw [Bd.returns] at h; cases h)
  have hq := (CHr.keep Kp2 all0 hCH).trans (CHv.at (s := s) (vm0 := s.vm) X3 hZ (own_EW hw) (hCH.keep Kp2 all0))
  refine ⟨_, _, pre0 _ ?_, hrun, hended, _, _, rfl, ?_, ?_, ⟨_, rfl⟩, hW.wide, hW.no_new_pair _, hsame.mono (by decide) (by decide)⟩
  · show own_S p e below s₁ (mkF m 0 #[vi p1, vi p2, vi p3, vi p4, vi p5, vi p6, vu, vu, vu, vu, vu, vu, vu, vu, vu, vu, vu, vu, vu, vu, vu, vu] []) _
    refine stP _ ?_
    refine castTop (show (mkF m 175 #[vi p1, vi p2, vi p3, vi p4, vi p5, vi p6, vi kk, vi bb, vi x1, vi x2, vi (p1 &&& (7 : Int32)), vr a43, vr a44, vr a45, vi (Int32.ofNat n1), vi (Int32.ofNat n2), vi (Int32.ofNat m1), vi (Int32.ofNat m2), vi (Int32.ofNat o1), vi (Int32.ofNat o2), vu, vu] []) = (mkF m 175 #[vi p1, vi p2, vi p3, vi p4, vi p5, vi p6, vi kk, vi bb, vi x1, vi x2, vi (5 : Int32), vr a43, vr a44, vr a45, vi (Int32.ofNat n1), vi (Int32.ofNat n2), vi (Int32.ofNat m1), vi (Int32.ofNat m2), vi (Int32.ofNat o1), vi (Int32.ofNat o2), vu, vu] []) from by rw [as326]) ?_
    refine XS.iload XP.here hx rfl (hb hby at_175) rfl ?_
    refine XS.iconst XP.here hx rfl (hb hby at_177) ?_
    show own_S p e below TP (mkF m 178 #[vi p1, vi p2, vi p3, vi p4, vi p5, vi p6, vi kk, vi bb, vi x1, vi x2, vi (5 : Int32), vr a43, vr a44, vr a45, vi (Int32.ofNat n1), vi (Int32.ofNat n2), vi (Int32.ofNat m1), vi (Int32.ofNat m2), vi (Int32.ofNat o1), vi (Int32.ofNat o2), vu, vu] [xi (3 : Int32), xi (5 : Int32)]) _
    refine XS.icmpYes XP.here hx rfl (pc0 := 178) (pc' := 224) rfl (hb hby at_178) rfl (by decide) (by decide) (by decide) ?_
    refine XS.iload XP.here hx rfl (hb hby at_224) rfl ?_
    refine XS.iconst XP.here hx rfl (hb hby at_226) ?_
    show own_S p e below TP (mkF m 227 #[vi p1, vi p2, vi p3, vi p4, vi p5, vi p6, vi kk, vi bb, vi x1, vi x2, vi (5 : Int32), vr a43, vr a44, vr a45, vi (Int32.ofNat n1), vi (Int32.ofNat n2), vi (Int32.ofNat m1), vi (Int32.ofNat m2), vi (Int32.ofNat o1), vi (Int32.ofNat o2), vu, vu] [xi (4 : Int32), xi (5 : Int32)]) _
    refine XS.icmpYes XP.here hx rfl (pc0 := 227) (pc' := 247) rfl (hb hby at_227) rfl (by decide) (by decide) (by decide) ?_
    refine XS.iload XP.here hx rfl (hb hby at_247) rfl ?_
    refine XS.iconst XP.here hx rfl (hb hby at_249) ?_
    show own_S p e below TP (mkF m 250 #[vi p1, vi p2, vi p3, vi p4, vi p5, vi p6, vi kk, vi bb, vi x1, vi x2, vi (5 : Int32), vr a43, vr a44, vr a45, vi (Int32.ofNat n1), vi (Int32.ofNat n2), vi (Int32.ofNat m1), vi (Int32.ofNat m2), vi (Int32.ofNat o1), vi (Int32.ofNat o2), vu, vu] [xi (5 : Int32), xi (5 : Int32)]) _
    refine XS.icmpNo XP.here hx rfl (hb hby at_250) rfl (by decide) ?_
    show own_S p e below TP (mkF m 253 #[vi p1, vi p2, vi p3, vi p4, vi p5, vi p6, vi kk, vi bb, vi x1, vi x2, vi (5 : Int32), vr a43, vr a44, vr a45, vi (Int32.ofNat n1), vi (Int32.ofNat n2), vi (Int32.ofNat m1), vi (Int32.ofNat m2), vi (Int32.ofNat o1), vi (Int32.ofNat o2), vu, vu] []) _
    refine st1 _ ?_
    refine XS.dup X1.here hx rfl (hb hby at_256) rfl rfl ?_
    refine XS.aload X1.here hx rfl (hb hby at_257) rfl rfl ?_
    show own_S p e below T1 (mkF m 259 #[vi p1, vi p2, vi p3, vi p4, vi p5, vi p6, vi kk, vi bb, vi x1, vi x2, vi (5 : Int32), vr a43, vr a44, vr a45, vi (Int32.ofNat n1), vi (Int32.ofNat n2), vi (Int32.ofNat m1), vi (Int32.ofNat m2), vi (Int32.ofNat o1), vi (Int32.ofNat o2), vu, vu] [xr a45, xr b1, xr b1]) _
    refine st2.trans ?_
    refine XS.astore X2.here hx rfl (hb hby at_262) rfl rfl (l' := #[vi p1, vi p2, vi p3, vi p4, vi p5, vi p6, vi kk, vi bb, vi x1, vi x2, vi (5 : Int32), vr a43, vr a44, vr a45, vi (Int32.ofNat n1), vi (Int32.ofNat n2), vi (Int32.ofNat m1), vi (Int32.ofNat m2), vi (Int32.ofNat o1), vi (Int32.ofNat o2), vr b1, vu]) rfl ?_
    refine XS.iconst X2.here hx rfl (hb hby at_264) ?_
    refine XS.istore X2.here hx rfl (hb hby at_265) rfl (l' := #[vi p1, vi p2, vi p3, vi p4, vi p5, vi p6, vi kk, vi bb, vi x1, vi x2, vi (5 : Int32), vr a43, vr a44, vr a45, vi (Int32.ofNat n1), vi (Int32.ofNat n2), vi (Int32.ofNat m1), vi (Int32.ofNat m2), vi (Int32.ofNat o1), vi (Int32.ofNat o2), vr b1, vi (0 : Int32)]) rfl ?_
    show own_S p e below T2 (mkF m 267 #[vi p1, vi p2, vi p3, vi p4, vi p5, vi p6, vi kk, vi bb, vi x1, vi x2, vi (5 : Int32), vr a43, vr a44, vr a45, vi (Int32.ofNat n1), vi (Int32.ofNat n2), vi (Int32.ofNat m1), vi (Int32.ofNat m2), vi (Int32.ofNat o1), vi (Int32.ofNat o2), vr b1, vi (0 : Int32)] []) _
    refine XS.goto X2.here hx rfl (pc0 := 267) (pc' := 297) rfl (hb hby at_267) (by decide) (by decide) ?_
    refine XS.aload X2.here hx rfl (hb hby at_297) rfl rfl ?_
    show own_S p e below T2 (mkF m 299 #[vi p1, vi p2, vi p3, vi p4, vi p5, vi p6, vi kk, vi bb, vi x1, vi x2, vi (5 : Int32), vr a43, vr a44, vr a45, vi (Int32.ofNat n1), vi (Int32.ofNat n2), vi (Int32.ofNat m1), vi (Int32.ofNat m2), vi (Int32.ofNat o1), vi (Int32.ofNat o2), vr b1, vi (0 : Int32)] [xr b1]) _
    refine st3 _ ?_
    refine XS.iload X3.here hx rfl (hb hby at_302) rfl ?_
    show own_S p e below T3 (mkF m 304 #[vi p1, vi p2, vi p3, vi p4, vi p5, vi p6, vi kk, vi bb, vi x1, vi x2, vi (5 : Int32), vr a43, vr a44, vr a45, vi (Int32.ofNat n1), vi (Int32.ofNat n2), vi (Int32.ofNat m1), vi (Int32.ofNat m2), vi (Int32.ofNat o1), vi (Int32.ofNat o2), vr b1, vi (0 : Int32)] [xi (0 : Int32), xi (0 : Int32)]) _
    refine XS.icmpNo X3.here hx rfl (hb hby at_304) rfl (by decide) ?_
    refine XS.iconst X3.here hx rfl (hb hby at_307) ?_
    refine XS.goto X3.here hx rfl (pc0 := 308) (pc' := 312) rfl (hb hby at_308) (by decide) (by decide) ?_
    show own_S p e below T3 (mkF m 312 #[vi p1, vi p2, vi p3, vi p4, vi p5, vi p6, vi kk, vi bb, vi x1, vi x2, vi (5 : Int32), vr a43, vr a44, vr a45, vi (Int32.ofNat n1), vi (Int32.ofNat n2), vi (Int32.ofNat m1), vi (Int32.ofNat m2), vi (Int32.ofNat o1), vi (Int32.ofNat o2), vr b1, vi (0 : Int32)] [xi (1 : Int32)]) _
    exact retN X3 hx (t := .boolean) Bd.returns (by simp) (hb hby at_312) hr
  · exact ⟨rfl, N3⟩
  · show CHr Z own_EL s.vm s.heap T3.vm T3.heap
    rw [hh, e3]; exact hq
def own_QB1 (Z : State) (h0 : Heap) (n0 : Nat) (M : Nat) (v : Option Value) (h : Heap) (L : List Loc) : Prop := ∃ b kd g, v = some (.ref b) ∧ Fr n0 L ∧ Keep h0 h [] ∧ Arv Z h b kd .byte (Int32.ofNat M) (own_vs g M) (.int (0 : Int32)) ∧ n0 ≤ b ∧ h0.size ≤ b
theorem d38_0 : decode jdk_43_method_46_code 0 = .ok (.iconst 1, 1) := by decide +kernel
theorem d38_1 : decode jdk_43_method_46_code 1 = .ok (.newarray .byte, 2) := by decide +kernel
theorem d38_3 : decode jdk_43_method_46_code 3 = .ok (.dup, 1) := by decide +kernel
theorem d38_4 : decode jdk_43_method_46_code 4 = .ok (.iconst 0, 1) := by decide +kernel
theorem d38_5 : decode jdk_43_method_46_code 5 = .ok (.iload_n 0, 1) := by decide +kernel
theorem d38_6 : decode jdk_43_method_46_code 6 = .ok (.i2b, 1) := by decide +kernel
theorem d38_7 : decode jdk_43_method_46_code 7 = .ok (.bastore, 1) := by decide +kernel
theorem d38_8 : decode jdk_43_method_46_code 8 = .ok (.areturn, 1) := by decide +kernel
abbrev Y32 : MethodName := (⟨"java/lang/StringLatin1", "toBytes", "(C)[B"⟩ : MethodName)
theorem ef_own_tb0 (m : MethodId)  (ki0 : Int32) (vf0 : Value) (ch : Int32) : entryFrame m #[xi ch] 1 = (mkF m 0 #[vi ch] []) := by first | (simp [entryFrame, mkF, argsToLocals, Value.category]; done) | rfl
set_option maxRecDepth 65536 in
set_option maxHeartbeats 40000000 in
theorem own_tb0 (l : Launch) (Z : State) (a0 : Array Value) (hw : ∀ d ∈ tables_1, d.before a0 Z = true) (hj : ∀ d ∈ jdkStatics_1, d.before a0 Z = true)  (ki0 : Int32) (vf0 : Value) (G : own_St Z hj ki0 vf0) (ch : Int32) (h0 : Heap) (n0 : Nat) (O0 : Old Z n0 h0) : own_Met l Z Y32 jdk_43_method_46_code 1 (some (.array .byte)) ({ frames := 0, cells := 1, slots := 1, locals := 0 } : Room) #[xi ch] h0 (own_QB1 Z h0 n0 1) := by
  intro ws
  refine MetFree.of_bodySF (plainFor_of_name pn4) hisR ?_
  intro p e s m args below meth c s₁ Bd hml0 hP hK
  obtain ⟨rfl, hZ, hh⟩ := hP
  have hx := Bd.exec
  have hby := Bd.bytes
  have hml : c.maxLocals = 1 := hml0
  have hown : s.vm.findClass "java/lang/StringLatin1" = some m.cls := findClass_of_methodNamed Bd.named
  have hnm := (name_of_methodNamed Bd.named Bd.method).1
  have X0 : Stand p l e ({ frames := 0, cells := 1, slots := 1, locals := 0 } : Room) s m #[xi ch] below meth c s₁ [] 0 0 := Stand.of_body Bd
  have e0 : s₁.heap = h0 := by rw [← hh, Bd.state]; rfl
  have N0 := Fr.nil n0
  have pre0 : ∀ t, Steps p.tables e below (s₁.setTop (mkF m 0 #[vi ch] [])) t → Steps p.tables e below (s₁.setTop (entryFrame m #[xi ch] 1)) t := fun t st => castTop (ef_own_tb0 m ki0 vf0 ch) st
  obtain ⟨T1, h1, k1, X1, e1, E1, A1, st1⟩ := newP X0 hx hZ (ww hw 31 rfl) e0 (g := (mkF m 1 #[vi ch] [xi (1 : Int32)])) rfl (hb hby d38_1) rfl (own_nneg (show 1 < 2147483648 by decide)) (cap := 1) (by first | decide | (rw [own_nat (show 1 < 2147483648 by decide)]; exact (by decide))) (by decide) (by decide) (by decide)
  obtain ⟨b1, g1⟩ : ∃ z, z = h0.size := ⟨_, rfl⟩
  rw [← g1] at A1 st1
  have g_b1 : n0 ≤ b1 := own_fresh O0 g1
  have sz_b1 : h0.size ≤ b1 := Nat.le_trans (Keep.refl h0 []).1 (Nat.le_of_eq g1.symm)
  have O1 := O0.ext E1
  have Kp1 : Keep h0 h1 [] := (Keep.refl h0 []).ext E1
  have V_b1 : Arv Z h1 b1 k1 .byte (Int32.ofNat 1) (own_vs (fun _ => (0 : Int32)) 1) (.int (0 : Int32)) := (Arv.new A1 (own_nneg (show 1 < 2147483648 by decide))).pad (own_pad0 1)
  obtain ⟨cl2, Ar2, q2, S2, N2_, H2, G2⟩ := id V_b1
  obtain ⟨T3, h3, X3, e3, W3, st3⟩ := stB X1 hx hZ e1 Ar2 (j := (0 : Int32)) (inb_of S2 (own_in (show 0 < 1 by decide) (show 1 < 2147483648 by decide))) (g := (mkF m 7 #[vi ch] [xi (ch.toInt8.toInt32), xi (0 : Int32), xr b1, xr b1])) rfl rfl (hb hby d38_7)
  have V_b1_3 : Arv Z h3 b1 k1 .byte (Int32.ofNat 1) (own_vs (own_up (fun _ => (0 : Int32)) 0 (nar .byte (ch.toInt8.toInt32))) 1) (.int (0 : Int32)) := by rw [← own_vs_set]; exact Arv.set Ar2 q2 S2 N2_ H2 G2 (fits_nar_byte _) W3 _ (own_nat (Nat.lt_trans (show 0 < 1 by decide) (show 1 < 2147483648 by decide))) (by rw [own_vs_len]; exact (show 0 < 1 by decide))
  have O3 := O1.wr W3 g_b1
  have Kp3 := Kp1.wr W3 (Or.inr sz_b1)
  have N3 := Fr.snoc X3 N0 g_b1
  obtain ⟨LL3, X3, N3⟩ := own_pack X3 N3
  obtain ⟨fs, hr, hrun, hended, hW, hsame⟩ := X3.leave (v := some (xr b1)) (fun h => by rw [Bd.returns] at h; cases h)
  refine ⟨_, _, pre0 _ ?_, hrun, hended, _, _, rfl, ?_, ⟨_, rfl⟩, hW, hsame.mono (by decide) (by decide)⟩
  · show own_S p e below s₁ (mkF m 0 #[vi ch] []) _
    refine XS.iconst X0.here hx rfl (hb hby d38_0) ?_
    show own_S p e below s₁ (mkF m 1 #[vi ch] [xi (1 : Int32)]) _
    refine st1 _ ?_
    refine XS.dup X1.here hx rfl (hb hby d38_3) rfl rfl ?_
    refine XS.iconst X1.here hx rfl (hb hby d38_4) ?_
    refine XS.iloadN X1.here hx rfl (hb hby d38_5) rfl ?_
    show own_S p e below T1 (mkF m 6 #[vi ch] [xi ch, xi (0 : Int32), xr b1, xr b1]) _
    refine XS.i2b X1.here hx rfl (hb hby d38_6) rfl ?_
    show own_S p e below T1 (mkF m 7 #[vi ch] [xi (ch.toInt8.toInt32), xi (0 : Int32), xr b1, xr b1]) _
    show own_S p e below T1 (mkF m 7 #[vi ch] [xi (ch.toInt8.toInt32), xi (0 : Int32), xr b1, xr b1]) _
    refine st3 _ ?_
    show own_S p e below T3 (mkF m 8 #[vi ch] [xr b1]) _
    exact X3.areturnOut hx rfl Bd.returns rfl (hb hby d38_8) hr
  · show (own_QB1 Z h0 n0 1) _ T3.heap _
    rw [e3]
    exact ⟨b1, k1, _, rfl, N3, Kp3, V_b1_3, g_b1, sz_b1⟩
theorem d33_0 : decode jdk_52_method_24_code 0 = .ok (.iconst 2, 1) := by decide +kernel
theorem d33_1 : decode jdk_52_method_24_code 1 = .ok (.newarray .byte, 2) := by decide +kernel
theorem d33_3 : decode jdk_52_method_24_code 3 = .ok (.astore_n 1, 1) := by decide +kernel
theorem d33_4 : decode jdk_52_method_24_code 4 = .ok (.aload_n 1, 1) := by decide +kernel
theorem d33_5 : decode jdk_52_method_24_code 5 = .ok (.iconst 0, 1) := by decide +kernel
theorem d33_6 : decode jdk_52_method_24_code 6 = .ok (.iload_n 0, 1) := by decide +kernel
theorem d33_7 : decode jdk_52_method_24_code 7 = .ok (.invokestatic 111, 3) := by decide +kernel
theorem d33_10 : decode jdk_52_method_24_code 10 = .ok (.aload_n 1, 1) := by decide +kernel
theorem d33_11 : decode jdk_52_method_24_code 11 = .ok (.areturn, 1) := by decide +kernel
abbrev Y33 : MethodName := (⟨"java/lang/StringUTF16", "toBytes", "(C)[B"⟩ : MethodName)
theorem ef_own_tb1 (m : MethodId)  (ki0 : Int32) (vf0 : Value) (ch : Int32) : entryFrame m #[xi ch] 2 = (mkF m 0 #[vi ch, vu] []) := by first | (simp [entryFrame, mkF, argsToLocals, Value.category]; done) | rfl
set_option maxRecDepth 65536 in
set_option maxHeartbeats 40000000 in
theorem own_tb1 (l : Launch) (Z : State) (a0 : Array Value) (hw : ∀ d ∈ tables_1, d.before a0 Z = true) (hj : ∀ d ∈ jdkStatics_1, d.before a0 Z = true)  (ki0 : Int32) (vf0 : Value) (G : own_St Z hj ki0 vf0) (ch : Int32) (h0 : Heap) (n0 : Nat) (O0 : Old Z n0 h0) : own_Met l Z Y33 jdk_52_method_24_code 2 (some (.array .byte)) ({ frames := 1, cells := 1, slots := 2, locals := 14 } : Room) #[xi ch] h0 (own_QB1 Z h0 n0 2) := by
  intro ws
  refine MetFree.of_bodySF (plainFor_of_name pn0) hisR ?_
  intro p e s m args below meth c s₁ Bd hml0 hP hK
  obtain ⟨rfl, hZ, hh⟩ := hP
  have hx := Bd.exec
  have hby := Bd.bytes
  have hml : c.maxLocals = 2 := hml0
  have hown : s.vm.findClass "java/lang/StringUTF16" = some m.cls := findClass_of_methodNamed Bd.named
  have hnm := (name_of_methodNamed Bd.named Bd.method).1
  have X0 : Stand p l e ({ frames := 1, cells := 1, slots := 2, locals := 14 } : Room) s m #[xi ch] below meth c s₁ [] 0 0 := Stand.of_body Bd
  have e0 : s₁.heap = h0 := by rw [← hh, Bd.state]; rfl
  have N0 := Fr.nil n0
  have pre0 : ∀ t, Steps p.tables e below (s₁.setTop (mkF m 0 #[vi ch, vu] [])) t → Steps p.tables e below (s₁.setTop (entryFrame m #[xi ch] 2)) t := fun t st => castTop (ef_own_tb1 m ki0 vf0 ch) st
  obtain ⟨T1, h1, k1, X1, e1, E1, A1, st1⟩ := newP X0 hx hZ (ww hw 31 rfl) e0 (g := (mkF m 1 #[vi ch, vu] [xi (2 : Int32)])) rfl (hb hby d33_1) rfl (own_nneg (show 2 < 2147483648 by decide)) (cap := 2) (by first | decide | (rw [own_nat (show 2 < 2147483648 by decide)]; exact (by decide))) (by decide) (by decide) (by decide)
  obtain ⟨b1, g1⟩ : ∃ z, z = h0.size := ⟨_, rfl⟩
  rw [← g1] at A1 st1
  have g_b1 : n0 ≤ b1 := own_fresh O0 g1
  have sz_b1 : h0.size ≤ b1 := Nat.le_trans (Keep.refl h0 []).1 (Nat.le_of_eq g1.symm)
  have O1 := O0.ext E1
  have Kp1 : Keep h0 h1 [] := (Keep.refl h0 []).ext E1
  have V_b1 : Arv Z h1 b1 k1 .byte (Int32.ofNat 2) (own_vs (fun _ => (0 : Int32)) 2) (.int (0 : Int32)) := (Arv.new A1 (own_nneg (show 2 < 2147483648 by decide))).pad (own_pad0 2)
  obtain ⟨_, _, ⟨T2, L2, k2, n2⟩, -, X2, ⟨Lc2, hQ2, l2, y2, z2⟩, st2⟩ := Jvm.LawKit.callS X1 hx (y := Y3) hown (mvT hZ (ww hw 121 rfl)) (mvT hZ (ww hw 122 rfl)) (mvT hZ (ww hw 29 rfl)) (mvT hZ (ww hw 123 rfl)) (by decide) (backOf (W := 0) (own_putChar l Z a0 hw hj ki0 vf0 G b1 k1 0 2 (fun _ => (0 : Int32)) ch h1 n0 O1 (by decide) V_b1 (by decide) g_b1 []) hZ (ww hw 123 rfl) (ww hw 29 rfl) (by decide) (by decide)) (g := (mkF m 7 #[vi ch, vr b1] [xi ch, xi (0 : Int32), xr b1])) rfl (by rw [hml]; rfl) (argsL := [xr b1, xi (0 : Int32), xi ch]) (rest := []) (lenOf pd1 rfl) rfl (by show 2 * 0 + _ ≤ _; exact Nat.le_of_eq rfl) (hb hby d33_7) (fun _ _ => ⟨rfl, e1, (by decide : 1 + 0 ≤ _), (by decide : 2 + 0 ≤ _)⟩)
  dsimp only [Pt.U, Pt.locs, Pt.cells, Pt.slots] at X2 l2 y2 z2 st2 hQ2
  subst l2 y2 z2
  obtain ⟨h2, e2⟩ : ∃ z, T2.heap = z := ⟨_, rfl⟩
  rw [e2] at hQ2
  obtain ⟨rfl, Nq2, K2, Vp2⟩ := hQ2
  have N2 := Fr.app N0 Nq2
  have O2 : Old Z n0 h2 := O1.keep K2 (allS g_b1 all0)
  have Kp2 : Keep h0 h2 [] := Kp1.trans K2 (allS (Or.inr sz_b1) all0)
  obtain ⟨fs, hr, hrun, hended, hW, hsame⟩ := X2.leave (v := some (xr b1)) (fun h => by rw [Bd.returns] at h; cases h)
  refine ⟨_, _, pre0 _ ?_, hrun, hended, _, _, rfl, ?_, ⟨_, rfl⟩, hW, hsame.mono (by decide) (by decide)⟩
  · show own_S p e below s₁ (mkF m 0 #[vi ch, vu] []) _
    refine XS.iconst X0.here hx rfl (hb hby d33_0) ?_
    show own_S p e below s₁ (mkF m 1 #[vi ch, vu] [xi (2 : Int32)]) _
    refine st1 _ ?_
    refine XS.astoreN X1.here hx rfl (hb hby d33_3) rfl rfl (l' := #[vi ch, vr b1]) rfl ?_
    refine XS.aloadN X1.here hx rfl (hb hby d33_4) rfl rfl ?_
    refine XS.iconst X1.here hx rfl (hb hby d33_5) ?_
    show own_S p e below T1 (mkF m 6 #[vi ch, vr b1] [xi (0 : Int32), xr b1]) _
    refine XS.iloadN X1.here hx rfl (hb hby d33_6) rfl ?_
    show own_S p e below T1 (mkF m 7 #[vi ch, vr b1] [xi ch, xi (0 : Int32), xr b1]) _
    refine st2 _ ?_
    refine XS.aloadN X2.here hx rfl (hb hby d33_10) rfl rfl ?_
    show own_S p e below T2 (mkF m 11 #[vi ch, vr b1] [xr b1]) _
    exact X2.areturnOut hx rfl Bd.returns rfl (hb hby d33_11) hr
  · show (own_QB1 Z h0 n0 2) _ T2.heap _
    rw [e2]
    exact ⟨b1, k1, _, rfl, N2, Kp2, Vp2, g_b1, sz_b1⟩
def own_QIB (Z : State) (h0 : Heap) (n0 : Nat) (sa b : Addr) (k : Int32) (v : Option Value) (h : Heap) (L : List Loc) : Prop := v = none ∧ Fr n0 L ∧ Keep h0 h [sa] ∧ Exa Z h sa "java/lang/String" ∧ Fld Z h sa "java/lang/String" "coder" "B" (.int k) ∧ Fld Z h sa "java/lang/String" "value" "[B" (.ref b)
theorem d34_0 : decode jdk_42_method_151_code 0 = .ok (.aload_n 0, 1) := by decide +kernel
theorem d34_1 : decode jdk_42_method_151_code 1 = .ok (.invokespecial 1, 3) := by decide +kernel
theorem d34_4 : decode jdk_42_method_151_code 4 = .ok (.aload_n 0, 1) := by decide +kernel
theorem d34_5 : decode jdk_42_method_151_code 5 = .ok (.aload_n 1, 1) := by decide +kernel
theorem d34_6 : decode jdk_42_method_151_code 6 = .ok (.putfield 9, 3) := by decide +kernel
theorem d34_9 : decode jdk_42_method_151_code 9 = .ok (.aload_n 0, 1) := by decide +kernel
theorem d34_10 : decode jdk_42_method_151_code 10 = .ok (.iload_n 2, 1) := by decide +kernel
theorem d34_11 : decode jdk_42_method_151_code 11 = .ok (.putfield 15, 3) := by decide +kernel
theorem d34_14 : decode jdk_42_method_151_code 14 = .ok (.return_, 1) := by decide +kernel
abbrev Y34 : MethodName := (⟨"java/lang/String", "<init>", "([BB)V"⟩ : MethodName)
theorem ef_own_ib0 (m : MethodId)  (ki0 : Int32) (vf0 : Value) (sa : Addr) (b : Addr) : entryFrame m #[xr sa, xr b, xi (0 : Int32)] 3 = (mkF m 0 #[vr sa, vr b, vi (0 : Int32)] []) := by first | (simp [entryFrame, mkF, argsToLocals, Value.category]; done) | rfl
set_option maxRecDepth 65536 in
set_option maxHeartbeats 40000000 in
theorem own_ib0 (l : Launch) (Z : State) (a0 : Array Value) (hw : ∀ d ∈ tables_1, d.before a0 Z = true) (hj : ∀ d ∈ jdkStatics_1, d.before a0 Z = true)  (ki0 : Int32) (vf0 : Value) (G : own_St Z hj ki0 vf0) (sa : Addr) (b : Addr) (h0 : Heap) (n0 : Nat) (O0 : Old Z n0 h0) (EA : Exa Z h0 sa "java/lang/String") (FV : Fld Z h0 sa "java/lang/String" "value" "[B" .null) (FC : Fld Z h0 sa "java/lang/String" "coder" "B" (.int (0 : Int32))) (g_sa : n0 ≤ sa) : own_Met l Z Y34 jdk_42_method_151_code 3 none ({ frames := 1, cells := 0, slots := 0, locals := 12 } : Room) #[xr sa, xr b, xi (0 : Int32)] h0 (own_QIB Z h0 n0 sa b (0 : Int32)) := by
  intro ws
  refine MetFree.of_bodySF (plainFor_of_name pn1) hisR ?_
  intro p e s m args below meth c s₁ Bd hml0 hP hK
  obtain ⟨rfl, hZ, hh⟩ := hP
  have hx := Bd.exec
  have hby := Bd.bytes
  have hml : c.maxLocals = 3 := hml0
  have hown : s.vm.findClass "java/lang/String" = some m.cls := findClass_of_methodNamed Bd.named
  have hnm := (name_of_methodNamed Bd.named Bd.method).1
  have X0 : Stand p l e ({ frames := 1, cells := 0, slots := 0, locals := 12 } : Room) s m #[xr sa, xr b, xi (0 : Int32)] below meth c s₁ [] 0 0 := Stand.of_body Bd
  have e0 : s₁.heap = h0 := by rw [← hh, Bd.state]; rfl
  have N0 := Fr.nil n0
  have pre0 : ∀ t, Steps p.tables e below (s₁.setTop (mkF m 0 #[vr sa, vr b, vi (0 : Int32)] [])) t → Steps p.tables e below (s₁.setTop (entryFrame m #[xr sa, xr b, xi (0 : Int32)] 3)) t := fun t st => castTop (ef_own_ib0 m ki0 vf0 sa b) st
  obtain ⟨T1, X1, e1, st1⟩ := initO X0 hx hZ hown (ww hw 23 rfl) (ww hw 24 rfl) (ww hw 25 rfl) e0 (g := (mkF m 1 #[vr sa, vr b, vi (0 : Int32)] [xr sa])) rfl (by rw [hml]; rfl) rfl (hb hby d34_1) (by decide) (W := 0) (by show 2 * 0 + _ ≤ _; exact Nat.le_of_eq rfl) (by decide)
  obtain ⟨T2, h2, X2, e2, W2, st2⟩ := putF X1 hx hZ hown (host := "") (Or.inl (ww hw 40 rfl)) Via.refl e1 FV EA (Or.inr ⟨(ww hw 41 rfl), rfl, hnm⟩) (ww hw 14 rfl) (ty := (.array .byte)) (by decide) (by first | rfl | decide) (by first | rfl | decide) (g := (mkF m 6 #[vr sa, vr b, vi (0 : Int32)] [xr b, xr sa])) rfl rfl (hb hby d34_6)
  have O2 := O0.wr W2 g_sa
  have Kp2 : Keep h0 h2 [sa] := (Keep.refl h0 [sa]).wr W2 (Or.inl (by simp))
  have X_sa_2 := EA.wr W2
  have F_sa_value_2 := FV.same W2
  have F_sa_coder_2 := FC.other W2 (Or.inr (slot_ne (Or.inr (ww hw 39 rfl)) (Or.inr (ww hw 41 rfl)) (by decide) (t := .byte) (t' := (.array .byte)) (by decide) (by decide)))
  have N2 := Fr.snoc X2 N0 g_sa
  obtain ⟨T3, h3, X3, e3, W3, st3⟩ := putF X2 hx hZ hown (host := "") (Or.inl (ww hw 38 rfl)) Via.refl e2 F_sa_coder_2 X_sa_2 (Or.inr ⟨(ww hw 39 rfl), rfl, hnm⟩) (ww hw 14 rfl) (ty := .byte) (by decide) (by first | rfl | decide) (by first | rfl | decide) (g := (mkF m 11 #[vr sa, vr b, vi (0 : Int32)] [xi (0 : Int32), xr sa])) rfl rfl (hb hby d34_11)
  have O3 := O2.wr W3 g_sa
  have Kp3 := Kp2.wr W3 (Or.inl (by simp))
  have X_sa_3 := X_sa_2.wr W3
  have F_sa_value_3 := F_sa_value_2.other W3 (Or.inr (slot_ne (Or.inr (ww hw 41 rfl)) (Or.inr (ww hw 39 rfl)) (by decide) (t := (.array .byte)) (t' := .byte) (by decide) (by decide)))
  have F_sa_coder_3 := F_sa_coder_2.same W3
  have N3 := Fr.snoc X3 N2 g_sa
  obtain ⟨fs, hr, hrun, hended, hW, hsame⟩ := X3.leave (v := none) (fun _ => rfl)
  refine ⟨_, _, pre0 _ ?_, hrun, hended, _, _, rfl, ?_, ⟨_, rfl⟩, hW, hsame.mono (by decide) (by decide)⟩
  · show own_S p e below s₁ (mkF m 0 #[vr sa, vr b, vi (0 : Int32)] []) _
    refine XS.aloadN X0.here hx rfl (hb hby d34_0) rfl rfl ?_
    show own_S p e below s₁ (mkF m 1 #[vr sa, vr b, vi (0 : Int32)] [xr sa]) _
    refine st1 _ ?_
    refine XS.aloadN X1.here hx rfl (hb hby d34_4) rfl rfl ?_
    refine XS.aloadN X1.here hx rfl (hb hby d34_5) rfl rfl ?_
    show own_S p e below T1 (mkF m 6 #[vr sa, vr b, vi (0 : Int32)] [xr b, xr sa]) _
    refine st2 _ ?_
    refine XS.aloadN X2.here hx rfl (hb hby d34_9) rfl rfl ?_
    refine XS.iloadN X2.here hx rfl (hb hby d34_10) rfl ?_
    show own_S p e below T2 (mkF m 11 #[vr sa, vr b, vi (0 : Int32)] [xi (0 : Int32), xr sa]) _
    refine st3 _ ?_
    show own_S p e below T3 (mkF m 14 #[vr sa, vr b, vi (0 : Int32)] []) _
    exact X3.returnOut hx Bd.returns (hb hby d34_14) hr
  · show (own_QIB Z h0 n0 sa b (0 : Int32)) _ T3.heap _
    rw [e3]
    exact ⟨rfl, N3, Kp3, X_sa_3, F_sa_coder_3, F_sa_value_3⟩
theorem ef_own_ib1 (m : MethodId)  (ki0 : Int32) (vf0 : Value) (sa : Addr) (b : Addr) : entryFrame m #[xr sa, xr b, xi (1 : Int32)] 3 = (mkF m 0 #[vr sa, vr b, vi (1 : Int32)] []) := by first | (simp [entryFrame, mkF, argsToLocals, Value.category]; done) | rfl
set_option maxRecDepth 65536 in
set_option maxHeartbeats 40000000 in
theorem own_ib1 (l : Launch) (Z : State) (a0 : Array Value) (hw : ∀ d ∈ tables_1, d.before a0 Z = true) (hj : ∀ d ∈ jdkStatics_1, d.before a0 Z = true)  (ki0 : Int32) (vf0 : Value) (G : own_St Z hj ki0 vf0) (sa : Addr) (b : Addr) (h0 : Heap) (n0 : Nat) (O0 : Old Z n0 h0) (EA : Exa Z h0 sa "java/lang/String") (FV : Fld Z h0 sa "java/lang/String" "value" "[B" .null) (FC : Fld Z h0 sa "java/lang/String" "coder" "B" (.int (0 : Int32))) (g_sa : n0 ≤ sa) : own_Met l Z Y34 jdk_42_method_151_code 3 none ({ frames := 1, cells := 0, slots := 0, locals := 12 } : Room) #[xr sa, xr b, xi (1 : Int32)] h0 (own_QIB Z h0 n0 sa b (1 : Int32)) := by
  intro ws
  refine MetFree.of_bodySF (plainFor_of_name pn1) hisR ?_
  intro p e s m args below meth c s₁ Bd hml0 hP hK
  obtain ⟨rfl, hZ, hh⟩ := hP
  have hx := Bd.exec
  have hby := Bd.bytes
  have hml : c.maxLocals = 3 := hml0
  have hown : s.vm.findClass "java/lang/String" = some m.cls := findClass_of_methodNamed Bd.named
  have hnm := (name_of_methodNamed Bd.named Bd.method).1
  have X0 : Stand p l e ({ frames := 1, cells := 0, slots := 0, locals := 12 } : Room) s m #[xr sa, xr b, xi (1 : Int32)] below meth c s₁ [] 0 0 := Stand.of_body Bd
  have e0 : s₁.heap = h0 := by rw [← hh, Bd.state]; rfl
  have N0 := Fr.nil n0
  have pre0 : ∀ t, Steps p.tables e below (s₁.setTop (mkF m 0 #[vr sa, vr b, vi (1 : Int32)] [])) t → Steps p.tables e below (s₁.setTop (entryFrame m #[xr sa, xr b, xi (1 : Int32)] 3)) t := fun t st => castTop (ef_own_ib1 m ki0 vf0 sa b) st
  obtain ⟨T1, X1, e1, st1⟩ := initO X0 hx hZ hown (ww hw 23 rfl) (ww hw 24 rfl) (ww hw 25 rfl) e0 (g := (mkF m 1 #[vr sa, vr b, vi (1 : Int32)] [xr sa])) rfl (by rw [hml]; rfl) rfl (hb hby d34_1) (by decide) (W := 0) (by show 2 * 0 + _ ≤ _; exact Nat.le_of_eq rfl) (by decide)
  obtain ⟨T2, h2, X2, e2, W2, st2⟩ := putF X1 hx hZ hown (host := "") (Or.inl (ww hw 40 rfl)) Via.refl e1 FV EA (Or.inr ⟨(ww hw 41 rfl), rfl, hnm⟩) (ww hw 14 rfl) (ty := (.array .byte)) (by decide) (by first | rfl | decide) (by first | rfl | decide) (g := (mkF m 6 #[vr sa, vr b, vi (1 : Int32)] [xr b, xr sa])) rfl rfl (hb hby d34_6)
  have O2 := O0.wr W2 g_sa
  have Kp2 : Keep h0 h2 [sa] := (Keep.refl h0 [sa]).wr W2 (Or.inl (by simp))
  have X_sa_2 := EA.wr W2
  have F_sa_value_2 := FV.same W2
  have F_sa_coder_2 := FC.other W2 (Or.inr (slot_ne (Or.inr (ww hw 39 rfl)) (Or.inr (ww hw 41 rfl)) (by decide) (t := .byte) (t' := (.array .byte)) (by decide) (by decide)))
  have N2 := Fr.snoc X2 N0 g_sa
  obtain ⟨T3, h3, X3, e3, W3, st3⟩ := putF X2 hx hZ hown (host := "") (Or.inl (ww hw 38 rfl)) Via.refl e2 F_sa_coder_2 X_sa_2 (Or.inr ⟨(ww hw 39 rfl), rfl, hnm⟩) (ww hw 14 rfl) (ty := .byte) (by decide) (by first | rfl | decide) (by first | rfl | decide) (g := (mkF m 11 #[vr sa, vr b, vi (1 : Int32)] [xi (1 : Int32), xr sa])) rfl rfl (hb hby d34_11)
  have O3 := O2.wr W3 g_sa
  have Kp3 := Kp2.wr W3 (Or.inl (by simp))
  have X_sa_3 := X_sa_2.wr W3
  have F_sa_value_3 := F_sa_value_2.other W3 (Or.inr (slot_ne (Or.inr (ww hw 41 rfl)) (Or.inr (ww hw 39 rfl)) (by decide) (t := (.array .byte)) (t' := .byte) (by decide) (by decide)))
  have F_sa_coder_3 := F_sa_coder_2.same W3
  have N3 := Fr.snoc X3 N2 g_sa
  obtain ⟨fs, hr, hrun, hended, hW, hsame⟩ := X3.leave (v := none) (fun _ => rfl)
  refine ⟨_, _, pre0 _ ?_, hrun, hended, _, _, rfl, ?_, ⟨_, rfl⟩, hW, hsame.mono (by decide) (by decide)⟩
  · show own_S p e below s₁ (mkF m 0 #[vr sa, vr b, vi (1 : Int32)] []) _
    refine XS.aloadN X0.here hx rfl (hb hby d34_0) rfl rfl ?_
    show own_S p e below s₁ (mkF m 1 #[vr sa, vr b, vi (1 : Int32)] [xr sa]) _
    refine st1 _ ?_
    refine XS.aloadN X1.here hx rfl (hb hby d34_4) rfl rfl ?_
    refine XS.aloadN X1.here hx rfl (hb hby d34_5) rfl rfl ?_
    show own_S p e below T1 (mkF m 6 #[vr sa, vr b, vi (1 : Int32)] [xr b, xr sa]) _
    refine st2 _ ?_
    refine XS.aloadN X2.here hx rfl (hb hby d34_9) rfl rfl ?_
    refine XS.iloadN X2.here hx rfl (hb hby d34_10) rfl ?_
    show own_S p e below T2 (mkF m 11 #[vr sa, vr b, vi (1 : Int32)] [xi (1 : Int32), xr sa]) _
    refine st3 _ ?_
    show own_S p e below T3 (mkF m 14 #[vr sa, vr b, vi (1 : Int32)] []) _
    exact X3.returnOut hx Bd.returns (hb hby d34_14) hr
  · show (own_QIB Z h0 n0 sa b (1 : Int32)) _ T3.heap _
    rw [e3]
    exact ⟨rfl, N3, Kp3, X_sa_3, F_sa_coder_3, F_sa_value_3⟩
def own_QVO (Z : State) (h0 : Heap) (n0 : Nat) (M : Nat) (k : Int32) (v : Option Value) (h : Heap) (L : List Loc) : Prop := ∃ sa b kd g, v = some (.ref sa) ∧ Fr n0 L ∧ Keep h0 h [] ∧ own_SS Z h sa b kd M k g
theorem d31_0 : decode jdk_42_method_139_code 0 = .ok (.getstatic 38, 3) := by decide +kernel
theorem d31_3 : decode jdk_42_method_139_code 3 = .ok (.ifCond .eq 23, 3) := by decide +kernel
theorem d31_6 : decode jdk_42_method_139_code 6 = .ok (.iload_n 0, 1) := by decide +kernel
theorem d31_7 : decode jdk_42_method_139_code 7 = .ok (.invokestatic 1015, 3) := by decide +kernel
theorem d32_0 : decode jdk_43_method_3_code 0 = .ok (.iload_n 0, 1) := by decide +kernel
theorem d32_1 : decode jdk_43_method_3_code 1 = .ok (.sipush 255, 3) := by decide +kernel
theorem d32_4 : decode jdk_43_method_3_code 4 = .ok (.if_icmp .gt 7, 3) := by decide +kernel
theorem d32_7 : decode jdk_43_method_3_code 7 = .ok (.iconst 1, 1) := by decide +kernel
theorem d32_8 : decode jdk_43_method_3_code 8 = .ok (.goto 4, 3) := by decide +kernel
theorem d32_12 : decode jdk_43_method_3_code 12 = .ok (.ireturn, 1) := by decide +kernel
abbrev Y35 : MethodName := (⟨"java/lang/StringLatin1", "canEncode", "(C)Z"⟩ : MethodName)
theorem ef_own_c4_canEncode (m : MethodId)  (ki0 : Int32) (vf0 : Value) (ch : Int32) : entryFrame m #[xi ch] 1 = (mkF m 0 #[vi ch] []) := by first | (simp [entryFrame, mkF, argsToLocals, Value.category]; done) | rfl
set_option maxRecDepth 65536 in
set_option maxHeartbeats 40000000 in
theorem own_c4_canEncode (l : Launch) (Z : State) (a0 : Array Value) (hw : ∀ d ∈ tables_1, d.before a0 Z = true) (hj : ∀ d ∈ jdkStatics_1, d.before a0 Z = true)  (ki0 : Int32) (vf0 : Value) (G : own_St Z hj ki0 vf0) (ch : Int32) (as9 : if_icmp.holds .gt ch (255 : Int32) = false) (h0 : Heap) (n0 : Nat) (O0 : Old Z n0 h0) : own_Met l Z Y35 jdk_43_method_3_code 1 (some .boolean) ({ frames := 0, cells := 0, slots := 0, locals := 0 } : Room) #[xi ch] h0 (own_QR (some (xi (1 : Int32))) h0 n0) := by
  intro ws
  refine MetFree.of_bodySF (plainFor_of_name pn4) hisR ?_
  intro p e s m args below meth c s₁ Bd hml0 hP hK
  obtain ⟨rfl, hZ, hh⟩ := hP
  have hx := Bd.exec
  have hby := Bd.bytes
  have hml : c.maxLocals = 1 := hml0
  have hown : s.vm.findClass "java/lang/StringLatin1" = some m.cls := findClass_of_methodNamed Bd.named
  have hnm := (name_of_methodNamed Bd.named Bd.method).1
  have X0 : Stand p l e ({ frames := 0, cells := 0, slots := 0, locals := 0 } : Room) s m #[xi ch] below meth c s₁ [] 0 0 := Stand.of_body Bd
  have e0 : s₁.heap = h0 := by rw [← hh, Bd.state]; rfl
  have N0 := Fr.nil n0
  have pre0 : ∀ t, Steps p.tables e below (s₁.setTop (mkF m 0 #[vi ch] [])) t → Steps p.tables e below (s₁.setTop (entryFrame m #[xi ch] 1)) t := fun t st => castTop (ef_own_c4_canEncode m ki0 vf0 ch) st
  obtain ⟨fs, hr, hrun, hended, hW, hsame⟩ := X0.leave (v := some (xi (1 : Int32))) (fun h => by rw [Bd.returns] at h; cases h)
  refine ⟨_, _, pre0 _ ?_, hrun, hended, _, _, rfl, ?_, ⟨_, rfl⟩, hW, hsame.mono (by decide) (by decide)⟩
  · show own_S p e below s₁ (mkF m 0 #[vi ch] []) _
    refine XS.iloadN X0.here hx rfl (hb hby d32_0) rfl ?_
    refine XS.sipush X0.here hx rfl (hb hby d32_1) ?_
    show own_S p e below s₁ (mkF m 4 #[vi ch] [xi (255 : Int32), xi ch]) _
    refine XS.icmpNo X0.here hx rfl (hb hby d32_4) rfl as9 ?_
    refine XS.iconst X0.here hx rfl (hb hby d32_7) ?_
    refine XS.goto X0.here hx rfl (pc0 := 8) (pc' := 12) rfl (hb hby d32_8) (by decide) (by decide) ?_
    show own_S p e below s₁ (mkF m 12 #[vi ch] [xi (1 : Int32)]) _
    exact retN X0 hx (t := .boolean) Bd.returns (by simp) (hb hby d32_12) hr
  · exact ⟨rfl, N0, e0⟩
theorem d31_10 : decode jdk_42_method_139_code 10 = .ok (.ifCond .eq 16, 3) := by decide +kernel
theorem d31_13 : decode jdk_42_method_139_code 13 = .ok (.new 10, 3) := by decide +kernel
theorem d31_16 : decode jdk_42_method_139_code 16 = .ok (.dup, 1) := by decide +kernel
theorem d31_17 : decode jdk_42_method_139_code 17 = .ok (.iload_n 0, 1) := by decide +kernel
theorem d31_18 : decode jdk_42_method_139_code 18 = .ok (.invokestatic 1018, 3) := by decide +kernel
theorem pd23 : parseMethodDescriptor "(C)[B" = some ⟨[.char], some (.array .byte)⟩ := by decide +kernel
theorem d31_21 : decode jdk_42_method_139_code 21 = .ok (.iconst 0, 1) := by decide +kernel
theorem d31_22 : decode jdk_42_method_139_code 22 = .ok (.invokespecial 209, 3) := by decide +kernel
theorem pd24 : parseMethodDescriptor "([BB)V" = some ⟨[(.array .byte), .byte], none⟩ := by decide +kernel
theorem d31_25 : decode jdk_42_method_139_code 25 = .ok (.areturn, 1) := by decide +kernel
abbrev Y36 : MethodName := (⟨"java/lang/String", "valueOf", "(C)Ljava/lang/String;"⟩ : MethodName)
theorem ef_own_vo0 (m : MethodId)  (ki0 : Int32) (vf0 : Value) (ch : Int32) : entryFrame m #[xi ch] 1 = (mkF m 0 #[vi ch] []) := by first | (simp [entryFrame, mkF, argsToLocals, Value.category]; done) | rfl
set_option maxRecDepth 65536 in
set_option maxHeartbeats 40000000 in
theorem own_vo0 (l : Launch) (Z : State) (a0 : Array Value) (hw : ∀ d ∈ tables_1, d.before a0 Z = true) (hj : ∀ d ∈ jdkStatics_1, d.before a0 Z = true)  (ki0 : Int32) (vf0 : Value) (G : own_St Z hj ki0 vf0) (ch : Int32) (as9 : if_icmp.holds .gt ch (255 : Int32) = false) (h0 : Heap) (n0 : Nat) (O0 : Old Z n0 h0) : own_Met l Z Y36 jdk_42_method_139_code 1 (some (.object "java/lang/String")) ({ frames := 2, cells := 2, slots := 5, locals := 27 } : Room) #[xi ch] h0 (own_QVO Z h0 n0 1 (0 : Int32)) := by
  intro ws
  refine MetFree.of_bodySF (plainFor_of_name pn1) hisR ?_
  intro p e s m args below meth c s₁ Bd hml0 hP hK
  obtain ⟨rfl, hZ, hh⟩ := hP
  have hx := Bd.exec
  have hby := Bd.bytes
  have hml : c.maxLocals = 1 := hml0
  have hown : s.vm.findClass "java/lang/String" = some m.cls := findClass_of_methodNamed Bd.named
  have hnm := (name_of_methodNamed Bd.named Bd.method).1
  have X0 : Stand p l e ({ frames := 2, cells := 2, slots := 5, locals := 27 } : Room) s m #[xi ch] below meth c s₁ [] 0 0 := Stand.of_body Bd
  have e0 : s₁.heap = h0 := by rw [← hh, Bd.state]; rfl
  have N0 := Fr.nil n0
  have pre0 : ∀ t, Steps p.tables e below (s₁.setTop (mkF m 0 #[vi ch] [])) t → Steps p.tables e below (s₁.setTop (entryFrame m #[xi ch] 1)) t := fun t st => castTop (ef_own_vo0 m ki0 vf0 ch) st
  obtain ⟨T1, X1, e1, st1⟩ := getS2 X0 hx hZ hown (host := "") (Or.inl (ww hw 26 rfl)) Via.refl e0 ((own_S_ki0 G).ext O0.2) (g := (mkF m 0 #[vi ch] [])) rfl (hb hby d31_0)
  obtain ⟨_, _, ⟨T2, L2, k2, n2⟩, -, X2, ⟨Lc2, hQ2, l2, y2, z2⟩, st2⟩ := Jvm.LawKit.callS X1 hx (y := Y35) hown (mvT hZ (ww hw 133 rfl)) (mvT hZ (ww hw 134 rfl)) (mvT hZ (ww hw 74 rfl)) (mvT hZ (ww hw 135 rfl)) (by decide) (backOf (W := 0) (own_c4_canEncode l Z a0 hw hj ki0 vf0 G ch as9 h0 n0 O0 []) hZ (ww hw 135 rfl) (ww hw 74 rfl) (by decide) (by decide)) (g := (mkF m 7 #[vi ch] [xi ch])) rfl (by rw [hml]; rfl) (argsL := [xi ch]) (rest := []) (lenOf pd21 rfl) rfl (by show 2 * 0 + _ ≤ _; exact Nat.le_of_eq rfl) (hb hby d31_7) (fun _ _ => ⟨rfl, e1, (by decide : 0 + 0 ≤ _), (by decide : 0 + 0 ≤ _)⟩)
  dsimp only [Pt.U, Pt.locs, Pt.cells, Pt.slots] at X2 l2 y2 z2 st2 hQ2
  subst l2 y2 z2
  obtain ⟨rfl, Nq2, e2⟩ := hQ2
  have N2 := Fr.app N0 Nq2
  obtain ⟨T3, h3, X3, e3, E3, A3, D3, -, st3⟩ := newO X2 hx hZ hown (ww hw 136 rfl) (ww hw 14 rfl) (ww hw 15 rfl) e2 (g := (mkF m 13 #[vi ch] [])) rfl (hb hby d31_13) (by decide) (by decide)
  obtain ⟨b3, g3⟩ : ∃ z, z = h0.size := ⟨_, rfl⟩
  rw [← g3] at A3 D3 st3
  have g_b3 : n0 ≤ b3 := own_fresh O0 g3
  have sz_b3 : h0.size ≤ b3 := Nat.le_trans (Keep.refl h0 []).1 (Nat.le_of_eq g3.symm)
  have O3 := O0.ext E3
  have Kp3 : Keep h0 h3 [] := (Keep.refl h0 []).ext E3
  have F_b3_coder : Fld Z h3 b3 "java/lang/String" "coder" "B" (xi (0 : Int32)) := D3 (Or.inr (ww hw 39 rfl)) (ty := .byte) (by decide)
  have F_b3_value : Fld Z h3 b3 "java/lang/String" "value" "[B" .null := D3 (Or.inr (ww hw 41 rfl)) (ty := (.array .byte)) (by decide)
  obtain ⟨_, _, ⟨T4, L4, k4, n4⟩, -, X4, ⟨Lc4, hQ4, l4, y4, z4⟩, st4⟩ := Jvm.LawKit.callS X3 hx (y := Y32) hown (mvT hZ (ww hw 154 rfl)) (mvT hZ (ww hw 155 rfl)) (mvT hZ (ww hw 74 rfl)) (mvT hZ (ww hw 156 rfl)) (by decide) (backOf (W := 2) (own_tb0 l Z a0 hw hj ki0 vf0 G ch h3 n0 O3 []) hZ (ww hw 156 rfl) (ww hw 74 rfl) (by decide) (by decide)) (g := (mkF m 18 #[vi ch] [xi ch, xr b3, xr b3])) rfl (by rw [hml]; rfl) (argsL := [xi ch]) (rest := [xr b3, xr b3]) (lenOf pd23 rfl) rfl (by show 2 * 0 + _ ≤ _; exact Nat.le_of_eq rfl) (hb hby d31_18) (fun _ _ => ⟨rfl, e3, (by decide : 1 + 1 ≤ _), (by decide : 4 + 1 ≤ _)⟩)
  dsimp only [Pt.U, Pt.locs, Pt.cells, Pt.slots] at X4 l4 y4 z4 st4 hQ4
  subst l4 y4 z4
  obtain ⟨h4, e4⟩ : ∃ z, T4.heap = z := ⟨_, rfl⟩
  rw [e4] at hQ4
  obtain ⟨bq4, kq4, gq4, rfl, Nq4, K4, Vq4, g_bq4, sz0_bq4⟩ := hQ4
  have N4 := Fr.app N2 Nq4
  have ne_b3_bq4 : b3 ≠ bq4 := Nat.ne_of_lt (Nat.lt_of_lt_of_le (A3).lt sz0_bq4)
  have sz_bq4 : h0.size ≤ bq4 := Nat.le_trans Kp3.1 sz0_bq4
  have O4 : Old Z n0 h4 := O3.keep K4 all0
  have Kp4 : Keep h0 h4 [] := Kp3.trans K4 all0
  have X_b3_4 := A3.keep K4
  have F_b3_coder_4 := F_b3_coder.keep K4 nin0
  have F_b3_value_4 := F_b3_value.keep K4 nin0
  obtain ⟨_, _, ⟨T5, L5, k5, n5⟩, -, X5, ⟨Lc5, hQ5, l5, y5, z5⟩, st5⟩ := X4.specialBack hx (y := Y34) rfl hown (mvT hZ (ww hw 140 rfl)) (mvT hZ (ww hw 141 rfl)) (mvT hZ (ww hw 142 rfl)) (by decide) (backOf (W := 1) (own_ib0 l Z a0 hw hj ki0 vf0 G b3 bq4 h4 n0 O4 X_b3_4 F_b3_value_4 F_b3_coder_4 g_b3 []) hZ (ww hw 142 rfl) (ww hw 15 rfl) (by decide) (by decide)) (g := (mkF m 22 #[vi ch] [xi (0 : Int32), xr bq4, xr b3, xr b3])) rfl (by rw [hml]; rfl) (Steps.refl _) (a := b3) (argsL := [xr bq4, xi (0 : Int32)]) (rest := [xr b3]) (lenOf pd24 rfl) rfl (by show 2 * 0 + _ ≤ _; exact Nat.le_of_eq rfl) (hb hby d31_22) (fun _ _ => ⟨rfl, e4, (by decide : 2 + 0 ≤ _), (by decide : 5 + 0 ≤ _)⟩)
  dsimp only [Pt.U, Pt.locs, Pt.cells, Pt.slots] at X5 l5 y5 z5 st5 hQ5
  subst l5 y5 z5
  obtain ⟨h5, e5⟩ : ∃ z, T5.heap = z := ⟨_, rfl⟩
  rw [e5] at hQ5
  obtain ⟨rfl, Nq5, K5, EB5, FB5, FW5⟩ := hQ5
  have N5 := Fr.app N4 Nq5
  have O5 : Old Z n0 h5 := O4.keep K5 (allS g_b3 all0)
  have Kp5 : Keep h0 h5 [] := Kp4.trans K5 (allS (Or.inr sz_b3) all0)
  have V_bq4_5 := Vq4.keep K5 (ninS (Ne.symm ne_b3_bq4) nin0)
  have X_b3_5 := X_b3_4.keep K5
  obtain ⟨fs, hr, hrun, hended, hW, hsame⟩ := X5.leave (v := some (xr b3)) (fun h => by rw [Bd.returns] at h; cases h)
  refine ⟨_, _, pre0 _ ?_, hrun, hended, _, _, rfl, ?_, ⟨_, rfl⟩, hW, hsame.mono (by decide) (by decide)⟩
  · show own_S p e below s₁ (mkF m 0 #[vi ch] []) _
    refine st1 _ ?_
    show own_S p e below T1 (mkF m 3 #[vi ch] [xi ki0]) _
    refine XS.ifNo X1.here hx rfl (hb hby d31_3) rfl (own_cse G) ?_
    refine XS.iloadN X1.here hx rfl (hb hby d31_6) rfl ?_
    show own_S p e below T1 (mkF m 7 #[vi ch] [xi ch]) _
    refine st2 _ ?_
    show own_S p e below T2 (mkF m 10 #[vi ch] [xi (1 : Int32)]) _
    refine XS.ifNo X2.here hx rfl (hb hby d31_10) rfl (by decide) ?_
    show own_S p e below T2 (mkF m 13 #[vi ch] []) _
    refine st3 _ ?_
    refine XS.dup X3.here hx rfl (hb hby d31_16) rfl rfl ?_
    refine XS.iloadN X3.here hx rfl (hb hby d31_17) rfl ?_
    show own_S p e below T3 (mkF m 18 #[vi ch] [xi ch, xr b3, xr b3]) _
    refine st4 _ ?_
    refine XS.iconst X4.here hx rfl (hb hby d31_21) ?_
    show own_S p e below T4 (mkF m 22 #[vi ch] [xi (0 : Int32), xr bq4, xr b3, xr b3]) _
    refine st5.trans ?_
    show own_S p e below T5 (mkF m 25 #[vi ch] [xr b3]) _
    exact X5.areturnOut hx rfl Bd.returns rfl (hb hby d31_25) hr
  · show (own_QVO Z h0 n0 1 (0 : Int32)) _ T5.heap _
    rw [e5]
    exact ⟨b3, bq4, kq4, gq4, rfl, N5, Kp5, EB5, FB5, FW5, V_bq4_5⟩
theorem d32_11 : decode jdk_43_method_3_code 11 = .ok (.iconst 0, 1) := by decide +kernel
theorem ef_own_c5_canEncode (m : MethodId)  (ki0 : Int32) (vf0 : Value) (ch : Int32) : entryFrame m #[xi ch] 1 = (mkF m 0 #[vi ch] []) := by first | (simp [entryFrame, mkF, argsToLocals, Value.category]; done) | rfl
set_option maxRecDepth 65536 in
set_option maxHeartbeats 40000000 in
theorem own_c5_canEncode (l : Launch) (Z : State) (a0 : Array Value) (hw : ∀ d ∈ tables_1, d.before a0 Z = true) (hj : ∀ d ∈ jdkStatics_1, d.before a0 Z = true)  (ki0 : Int32) (vf0 : Value) (G : own_St Z hj ki0 vf0) (ch : Int32) (as10 : if_icmp.holds .gt ch (255 : Int32) = true) (h0 : Heap) (n0 : Nat) (O0 : Old Z n0 h0) : own_Met l Z Y35 jdk_43_method_3_code 1 (some .boolean) ({ frames := 0, cells := 0, slots := 0, locals := 0 } : Room) #[xi ch] h0 (own_QR (some (xi (0 : Int32))) h0 n0) := by
  intro ws
  refine MetFree.of_bodySF (plainFor_of_name pn4) hisR ?_
  intro p e s m args below meth c s₁ Bd hml0 hP hK
  obtain ⟨rfl, hZ, hh⟩ := hP
  have hx := Bd.exec
  have hby := Bd.bytes
  have hml : c.maxLocals = 1 := hml0
  have hown : s.vm.findClass "java/lang/StringLatin1" = some m.cls := findClass_of_methodNamed Bd.named
  have hnm := (name_of_methodNamed Bd.named Bd.method).1
  have X0 : Stand p l e ({ frames := 0, cells := 0, slots := 0, locals := 0 } : Room) s m #[xi ch] below meth c s₁ [] 0 0 := Stand.of_body Bd
  have e0 : s₁.heap = h0 := by rw [← hh, Bd.state]; rfl
  have N0 := Fr.nil n0
  have pre0 : ∀ t, Steps p.tables e below (s₁.setTop (mkF m 0 #[vi ch] [])) t → Steps p.tables e below (s₁.setTop (entryFrame m #[xi ch] 1)) t := fun t st => castTop (ef_own_c5_canEncode m ki0 vf0 ch) st
  obtain ⟨fs, hr, hrun, hended, hW, hsame⟩ := X0.leave (v := some (xi (0 : Int32))) (fun h => by rw [Bd.returns] at h; cases h)
  refine ⟨_, _, pre0 _ ?_, hrun, hended, _, _, rfl, ?_, ⟨_, rfl⟩, hW, hsame.mono (by decide) (by decide)⟩
  · show own_S p e below s₁ (mkF m 0 #[vi ch] []) _
    refine XS.iloadN X0.here hx rfl (hb hby d32_0) rfl ?_
    refine XS.sipush X0.here hx rfl (hb hby d32_1) ?_
    show own_S p e below s₁ (mkF m 4 #[vi ch] [xi (255 : Int32), xi ch]) _
    refine XS.icmpYes X0.here hx rfl (pc0 := 4) (pc' := 11) rfl (hb hby d32_4) rfl as10 (by decide) (by decide) ?_
    refine XS.iconst X0.here hx rfl (hb hby d32_11) ?_
    show own_S p e below s₁ (mkF m 12 #[vi ch] [xi (0 : Int32)]) _
    exact retN X0 hx (t := .boolean) Bd.returns (by simp) (hb hby d32_12) hr
  · exact ⟨rfl, N0, e0⟩
theorem d31_26 : decode jdk_42_method_139_code 26 = .ok (.new 10, 3) := by decide +kernel
theorem d31_29 : decode jdk_42_method_139_code 29 = .ok (.dup, 1) := by decide +kernel
theorem d31_30 : decode jdk_42_method_139_code 30 = .ok (.iload_n 0, 1) := by decide +kernel
theorem d31_31 : decode jdk_42_method_139_code 31 = .ok (.invokestatic 1021, 3) := by decide +kernel
theorem d31_34 : decode jdk_42_method_139_code 34 = .ok (.iconst 1, 1) := by decide +kernel
theorem d31_35 : decode jdk_42_method_139_code 35 = .ok (.invokespecial 209, 3) := by decide +kernel
theorem d31_38 : decode jdk_42_method_139_code 38 = .ok (.areturn, 1) := by decide +kernel
theorem ef_own_vo1 (m : MethodId)  (ki0 : Int32) (vf0 : Value) (ch : Int32) : entryFrame m #[xi ch] 1 = (mkF m 0 #[vi ch] []) := by first | (simp [entryFrame, mkF, argsToLocals, Value.category]; done) | rfl
set_option maxRecDepth 65536 in
set_option maxHeartbeats 40000000 in
theorem own_vo1 (l : Launch) (Z : State) (a0 : Array Value) (hw : ∀ d ∈ tables_1, d.before a0 Z = true) (hj : ∀ d ∈ jdkStatics_1, d.before a0 Z = true)  (ki0 : Int32) (vf0 : Value) (G : own_St Z hj ki0 vf0) (ch : Int32) (as10 : if_icmp.holds .gt ch (255 : Int32) = true) (h0 : Heap) (n0 : Nat) (O0 : Old Z n0 h0) : own_Met l Z Y36 jdk_42_method_139_code 1 (some (.object "java/lang/String")) ({ frames := 2, cells := 2, slots := 6, locals := 29 } : Room) #[xi ch] h0 (own_QVO Z h0 n0 2 (1 : Int32)) := by
  intro ws
  refine MetFree.of_bodySF (plainFor_of_name pn1) hisR ?_
  intro p e s m args below meth c s₁ Bd hml0 hP hK
  obtain ⟨rfl, hZ, hh⟩ := hP
  have hx := Bd.exec
  have hby := Bd.bytes
  have hml : c.maxLocals = 1 := hml0
  have hown : s.vm.findClass "java/lang/String" = some m.cls := findClass_of_methodNamed Bd.named
  have hnm := (name_of_methodNamed Bd.named Bd.method).1
  have X0 : Stand p l e ({ frames := 2, cells := 2, slots := 6, locals := 29 } : Room) s m #[xi ch] below meth c s₁ [] 0 0 := Stand.of_body Bd
  have e0 : s₁.heap = h0 := by rw [← hh, Bd.state]; rfl
  have N0 := Fr.nil n0
  have pre0 : ∀ t, Steps p.tables e below (s₁.setTop (mkF m 0 #[vi ch] [])) t → Steps p.tables e below (s₁.setTop (entryFrame m #[xi ch] 1)) t := fun t st => castTop (ef_own_vo1 m ki0 vf0 ch) st
  obtain ⟨T1, X1, e1, st1⟩ := getS2 X0 hx hZ hown (host := "") (Or.inl (ww hw 26 rfl)) Via.refl e0 ((own_S_ki0 G).ext O0.2) (g := (mkF m 0 #[vi ch] [])) rfl (hb hby d31_0)
  obtain ⟨_, _, ⟨T2, L2, k2, n2⟩, -, X2, ⟨Lc2, hQ2, l2, y2, z2⟩, st2⟩ := Jvm.LawKit.callS X1 hx (y := Y35) hown (mvT hZ (ww hw 133 rfl)) (mvT hZ (ww hw 134 rfl)) (mvT hZ (ww hw 74 rfl)) (mvT hZ (ww hw 135 rfl)) (by decide) (backOf (W := 0) (own_c5_canEncode l Z a0 hw hj ki0 vf0 G ch as10 h0 n0 O0 []) hZ (ww hw 135 rfl) (ww hw 74 rfl) (by decide) (by decide)) (g := (mkF m 7 #[vi ch] [xi ch])) rfl (by rw [hml]; rfl) (argsL := [xi ch]) (rest := []) (lenOf pd21 rfl) rfl (by show 2 * 0 + _ ≤ _; exact Nat.le_of_eq rfl) (hb hby d31_7) (fun _ _ => ⟨rfl, e1, (by decide : 0 + 0 ≤ _), (by decide : 0 + 0 ≤ _)⟩)
  dsimp only [Pt.U, Pt.locs, Pt.cells, Pt.slots] at X2 l2 y2 z2 st2 hQ2
  subst l2 y2 z2
  obtain ⟨rfl, Nq2, e2⟩ := hQ2
  have N2 := Fr.app N0 Nq2
  obtain ⟨T3, h3, X3, e3, E3, A3, D3, -, st3⟩ := newO X2 hx hZ hown (ww hw 136 rfl) (ww hw 14 rfl) (ww hw 15 rfl) e2 (g := (mkF m 26 #[vi ch] [])) rfl (hb hby d31_26) (by decide) (by decide)
  obtain ⟨b3, g3⟩ : ∃ z, z = h0.size := ⟨_, rfl⟩
  rw [← g3] at A3 D3 st3
  have g_b3 : n0 ≤ b3 := own_fresh O0 g3
  have sz_b3 : h0.size ≤ b3 := Nat.le_trans (Keep.refl h0 []).1 (Nat.le_of_eq g3.symm)
  have O3 := O0.ext E3
  have Kp3 : Keep h0 h3 [] := (Keep.refl h0 []).ext E3
  have F_b3_coder : Fld Z h3 b3 "java/lang/String" "coder" "B" (xi (0 : Int32)) := D3 (Or.inr (ww hw 39 rfl)) (ty := .byte) (by decide)
  have F_b3_value : Fld Z h3 b3 "java/lang/String" "value" "[B" .null := D3 (Or.inr (ww hw 41 rfl)) (ty := (.array .byte)) (by decide)
  obtain ⟨_, _, ⟨T4, L4, k4, n4⟩, -, X4, ⟨Lc4, hQ4, l4, y4, z4⟩, st4⟩ := Jvm.LawKit.callS X3 hx (y := Y33) hown (mvT hZ (ww hw 137 rfl)) (mvT hZ (ww hw 138 rfl)) (mvT hZ (ww hw 29 rfl)) (mvT hZ (ww hw 139 rfl)) (by decide) (backOf (W := 2) (own_tb1 l Z a0 hw hj ki0 vf0 G ch h3 n0 O3 []) hZ (ww hw 139 rfl) (ww hw 29 rfl) (by decide) (by decide)) (g := (mkF m 31 #[vi ch] [xi ch, xr b3, xr b3])) rfl (by rw [hml]; rfl) (argsL := [xi ch]) (rest := [xr b3, xr b3]) (lenOf pd23 rfl) rfl (by show 2 * 0 + _ ≤ _; exact Nat.le_of_eq rfl) (hb hby d31_31) (fun _ _ => ⟨rfl, e3, (by decide : 1 + 1 ≤ _), (by decide : 4 + 2 ≤ _)⟩)
  dsimp only [Pt.U, Pt.locs, Pt.cells, Pt.slots] at X4 l4 y4 z4 st4 hQ4
  subst l4 y4 z4
  obtain ⟨h4, e4⟩ : ∃ z, T4.heap = z := ⟨_, rfl⟩
  rw [e4] at hQ4
  obtain ⟨bq4, kq4, gq4, rfl, Nq4, K4, Vq4, g_bq4, sz0_bq4⟩ := hQ4
  have N4 := Fr.app N2 Nq4
  have ne_b3_bq4 : b3 ≠ bq4 := Nat.ne_of_lt (Nat.lt_of_lt_of_le (A3).lt sz0_bq4)
  have sz_bq4 : h0.size ≤ bq4 := Nat.le_trans Kp3.1 sz0_bq4
  have O4 : Old Z n0 h4 := O3.keep K4 all0
  have Kp4 : Keep h0 h4 [] := Kp3.trans K4 all0
  have X_b3_4 := A3.keep K4
  have F_b3_coder_4 := F_b3_coder.keep K4 nin0
  have F_b3_value_4 := F_b3_value.keep K4 nin0
  obtain ⟨_, _, ⟨T5, L5, k5, n5⟩, -, X5, ⟨Lc5, hQ5, l5, y5, z5⟩, st5⟩ := X4.specialBack hx (y := Y34) rfl hown (mvT hZ (ww hw 140 rfl)) (mvT hZ (ww hw 141 rfl)) (mvT hZ (ww hw 142 rfl)) (by decide) (backOf (W := 1) (own_ib1 l Z a0 hw hj ki0 vf0 G b3 bq4 h4 n0 O4 X_b3_4 F_b3_value_4 F_b3_coder_4 g_b3 []) hZ (ww hw 142 rfl) (ww hw 15 rfl) (by decide) (by decide)) (g := (mkF m 35 #[vi ch] [xi (1 : Int32), xr bq4, xr b3, xr b3])) rfl (by rw [hml]; rfl) (Steps.refl _) (a := b3) (argsL := [xr bq4, xi (1 : Int32)]) (rest := [xr b3]) (lenOf pd24 rfl) rfl (by show 2 * 0 + _ ≤ _; exact Nat.le_of_eq rfl) (hb hby d31_35) (fun _ _ => ⟨rfl, e4, (by decide : 2 + 0 ≤ _), (by decide : 6 + 0 ≤ _)⟩)
  dsimp only [Pt.U, Pt.locs, Pt.cells, Pt.slots] at X5 l5 y5 z5 st5 hQ5
  subst l5 y5 z5
  obtain ⟨h5, e5⟩ : ∃ z, T5.heap = z := ⟨_, rfl⟩
  rw [e5] at hQ5
  obtain ⟨rfl, Nq5, K5, EB5, FB5, FW5⟩ := hQ5
  have N5 := Fr.app N4 Nq5
  have O5 : Old Z n0 h5 := O4.keep K5 (allS g_b3 all0)
  have Kp5 : Keep h0 h5 [] := Kp4.trans K5 (allS (Or.inr sz_b3) all0)
  have V_bq4_5 := Vq4.keep K5 (ninS (Ne.symm ne_b3_bq4) nin0)
  have X_b3_5 := X_b3_4.keep K5
  obtain ⟨fs, hr, hrun, hended, hW, hsame⟩ := X5.leave (v := some (xr b3)) (fun h => by rw [Bd.returns] at h; cases h)
  refine ⟨_, _, pre0 _ ?_, hrun, hended, _, _, rfl, ?_, ⟨_, rfl⟩, hW, hsame.mono (by decide) (by decide)⟩
  · show own_S p e below s₁ (mkF m 0 #[vi ch] []) _
    refine st1 _ ?_
    show own_S p e below T1 (mkF m 3 #[vi ch] [xi ki0]) _
    refine XS.ifNo X1.here hx rfl (hb hby d31_3) rfl (own_cse G) ?_
    refine XS.iloadN X1.here hx rfl (hb hby d31_6) rfl ?_
    show own_S p e below T1 (mkF m 7 #[vi ch] [xi ch]) _
    refine st2 _ ?_
    show own_S p e below T2 (mkF m 10 #[vi ch] [xi (0 : Int32)]) _
    refine XS.ifYes X2.here hx rfl (pc0 := 10) (pc' := 26) rfl (hb hby d31_10) rfl (by decide) (by decide) (by decide) ?_
    show own_S p e below T2 (mkF m 26 #[vi ch] []) _
    refine st3 _ ?_
    refine XS.dup X3.here hx rfl (hb hby d31_29) rfl rfl ?_
    refine XS.iloadN X3.here hx rfl (hb hby d31_30) rfl ?_
    show own_S p e below T3 (mkF m 31 #[vi ch] [xi ch, xr b3, xr b3]) _
    refine st4 _ ?_
    refine XS.iconst X4.here hx rfl (hb hby d31_34) ?_
    show own_S p e below T4 (mkF m 35 #[vi ch] [xi (1 : Int32), xr bq4, xr b3, xr b3]) _
    refine st5.trans ?_
    show own_S p e below T5 (mkF m 38 #[vi ch] [xr b3]) _
    exact X5.areturnOut hx rfl Bd.returns rfl (hb hby d31_38) hr
  · show (own_QVO Z h0 n0 2 (1 : Int32)) _ T5.heap _
    rw [e5]
    exact ⟨b3, bq4, kq4, gq4, rfl, N5, Kp5, EB5, FB5, FW5, V_bq4_5⟩
theorem pd25 : parseMethodDescriptor "(C)Ljava/lang/String;" = some ⟨[.char], some (.object "java/lang/String")⟩ := by decide +kernel
theorem ef_own_law7_0 (m : MethodId)  (ki0 : Int32) (vf0 : Value) (p1 : Int32) (p2 : Int32) (p3 : Int32) (p4 : Int32) (p5 : Int32) (p6 : Int32) (kk : Int32) (bb : Int32) (x1 : Int32) (x2 : Int32) (n1 : Nat) (n2 : Nat) (m1 : Nat) (m2 : Nat) (o1 : Nat) (o2 : Nat) : entryFrame m #[xi p1, xi p2, xi p3, xi p4, xi p5, xi p6] maxLocals = (mkF m 0 #[vi p1, vi p2, vi p3, vi p4, vi p5, vi p6, vu, vu, vu, vu, vu, vu, vu, vu, vu, vu, vu, vu, vu, vu, vu, vu] []) := by first | (simp [entryFrame, mkF, argsToLocals, Value.category, maxLocals]; done) | rfl
set_option maxRecDepth 65536 in
set_option maxHeartbeats 40000000 in
theorem own_law7_0 (l : Launch) (Z : State) (a0 : Array Value) (hw : ∀ d ∈ tables_1, d.before a0 Z = true) (hj : ∀ d ∈ jdkStatics_1, d.before a0 Z = true)  (ki0 : Int32) (vf0 : Value) (G : own_St Z hj ki0 vf0) (p1 : Int32) (p2 : Int32) (p3 : Int32) (p4 : Int32) (p5 : Int32) (p6 : Int32) (kk : Int32) (bb : Int32) (x1 : Int32) (x2 : Int32) (n1 : Nat) (n2 : Nat) (m1 : Nat) (m2 : Nat) (o1 : Nat) (o2 : Nat) (as327 : (p1 &&& (7 : Int32)) = (7 : Int32)) (h0 : Heap) (n0 : Nat) (O0 : Old Z n0 h0) (hcase : ((if_icmp.holds .ge kk (26 : Int32) = false) ∧ ((((97 : Int32) + kk).toUInt32.toUInt16.toUInt32.toInt32) = bb)) ∨ ((if_icmp.holds .ge kk (26 : Int32) = true) ∧ ((((48 : Int32) + (kk - (26 : Int32))).toUInt32.toUInt16.toUInt32.toInt32) = bb))) (as47 : ((p6 &&& (2147483647 : Int32)) - ((p6 &&& (2147483647 : Int32)) / (36 : Int32)) * (36 : Int32)) = kk) (as48 : ((p3 &&& (65535 : Int32)).toUInt32.toUInt16.toUInt32.toInt32) = x1) (as49 : ((p5 &&& (65535 : Int32)).toUInt32.toUInt16.toUInt32.toInt32) = x2) (as94 : ((p2 &&& (2147483647 : Int32)) - ((p2 &&& (2147483647 : Int32)) / (44 : Int32)) * (44 : Int32)) = (Int32.ofNat n1)) (as139 : ((p4 &&& (2147483647 : Int32)) - ((p4 &&& (2147483647 : Int32)) / (44 : Int32)) * (44 : Int32)) = (Int32.ofNat n2)) (as183 : ((p2 &&& (2147483647 : Int32)) - ((p2 &&& (2147483647 : Int32)) / (43 : Int32)) * (43 : Int32)) = (Int32.ofNat m1)) (as227 : ((p4 &&& (2147483647 : Int32)) - ((p4 &&& (2147483647 : Int32)) / (43 : Int32)) * (43 : Int32)) = (Int32.ofNat m2)) (as273 : ((p2 &&& (2147483647 : Int32)) - ((p2 &&& (2147483647 : Int32)) / (45 : Int32)) * (45 : Int32)) = (Int32.ofNat o1)) (as319 : ((p4 &&& (2147483647 : Int32)) - ((p4 &&& (2147483647 : Int32)) / (45 : Int32)) * (45 : Int32)) = (Int32.ofNat o2)) (hn1 : n1 < 44) (hn2 : n2 < 44) (hm1 : m1 < 43) (hm2 : m2 < 43) (ho1 : o1 < 45) (ho2 : o2 < 45) (hx1 : if_icmp.holds .gt x1 (255 : Int32) = false) : own_MetW l Z x code maxLocals ret room_1 #[xi p1, xi p2, xi p3, xi p4, xi p5, xi p6] h0 (own_QL (some (xi (1 : Int32))) n0) := by
  intro ws
  refine MetFree.of_bodySF (plainFor_of_name pn2) hisR ?_
  intro p e s m args below meth c s₁ Bd hml0 hP hK
  obtain ⟨rfl, hZ, hh, hCH⟩ := hP
  have hx := Bd.exec
  have hby := Bd.bytes
  have hml : c.maxLocals = 22 := hml0
  have hown : s.vm.findClass "com/example/scopelock/scopelock/KeyWellFormedPinLaw" = some m.cls := findClass_of_methodNamed Bd.named
  have hnm := (name_of_methodNamed Bd.named Bd.method).1
  have X0 : Stand p l e room_1 s m #[xi p1, xi p2, xi p3, xi p4, xi p5, xi p6] below meth c s₁ [] 0 0 := Stand.of_body Bd
  have e0 : s₁.heap = h0 := by rw [← hh, Bd.state]; rfl
  have N0 := Fr.nil n0
  have pre0 : ∀ t, Steps p.tables e below (s₁.setTop (mkF m 0 #[vi p1, vi p2, vi p3, vi p4, vi p5, vi p6, vu, vu, vu, vu, vu, vu, vu, vu, vu, vu, vu, vu, vu, vu, vu, vu] [])) t → Steps p.tables e below (s₁.setTop (entryFrame m #[xi p1, xi p2, xi p3, xi p4, xi p5, xi p6] maxLocals)) t := fun t st => castTop (ef_own_law7_0 m ki0 vf0 p1 p2 p3 p4 p5 p6 kk bb x1 x2 n1 n2 m1 m2 o1 o2) st
  obtain ⟨TP, LP, hPP, a43, a44, a45, k43, k44, k45, XP, eP, NP, OP, ⟨V43, V44, V45, KP⟩, stP⟩ := own_pre hw hj ki0 vf0 G p1 p2 p3 p4 p5 p6 kk bb x1 x2 n1 n2 m1 m2 o1 o2 as47 hcase as48 as49 as94 as139 as183 as227 as273 as319 hx hZ hby hml hown X0 e0 N0 O0 hn1 hn2 hm1 hm2 ho1 ho2
  obtain ⟨_, _, ⟨T1, L1, k1, n1⟩, -, X1, ⟨Lc1, hQ1, l1, y1, z1⟩, st1⟩ := Jvm.LawKit.callS XP hx (y := Y36) hown (mvT hZ (ww hw 130 rfl)) (mvT hZ (ww hw 131 rfl)) (mvT hZ (ww hw 15 rfl)) (mvT hZ (ww hw 132 rfl)) (by decide) (backOf (W := 0) (own_vo0 l Z a0 hw hj ki0 vf0 G x1 hx1 hPP n0 OP []) hZ (ww hw 132 rfl) (ww hw 15 rfl) (by decide) (by decide)) (g := (mkF m 289 #[vi p1, vi p2, vi p3, vi p4, vi p5, vi p6, vi kk, vi bb, vi x1, vi x2, vi (7 : Int32), vr a43, vr a44, vr a45, vi (Int32.ofNat n1), vi (Int32.ofNat n2), vi (Int32.ofNat m1), vi (Int32.ofNat m2), vi (Int32.ofNat o1), vi (Int32.ofNat o2), vu, vu] [xi x1])) rfl (by rw [hml]; rfl) (argsL := [xi x1]) (rest := []) (lenOf pd25 rfl) rfl (by show 2 * 0 + _ ≤ _; exact Nat.le_of_eq rfl) (hb hby at_289) (fun _ _ => ⟨rfl, eP, (by decide : 3 + 2 ≤ _), (by decide : 132 + 5 ≤ _)⟩)
  dsimp only [Pt.U, Pt.locs, Pt.cells, Pt.slots] at X1 l1 y1 z1 st1 hQ1
  subst l1 y1 z1
  obtain ⟨h1, e1⟩ : ∃ z, T1.heap = z := ⟨_, rfl⟩
  rw [e1] at hQ1
  obtain ⟨sv1, bv1, kv1, gv1, rfl, Nq1, K1, SS1⟩ := hQ1
  have N1 := Fr.app NP Nq1
  have O1 : Old Z n0 h1 := OP.keep K1 all0
  have Kp1 : Keep h0 h1 [] := KP.trans K1 all0
  have V_a43_1 := V43.keep K1 nin0
  have V_a44_1 := V44.keep K1 nin0
  have V_a45_1 := V45.keep K1 nin0
  obtain ⟨EA1, FC1, FV1, VB1⟩ := id SS1
  obtain ⟨_, _, ⟨T2, L2, k2, n2⟩, -, X2, ⟨Lc2, hQ2, l2, y2, z2⟩, st2⟩ := Jvm.LawKit.callS X1 hx (y := Y28) hown (mvT hZ (ww hw 45 rfl)) (mvT hZ (ww hw 46 rfl)) (mvT hZ (ww hw 47 rfl)) (mvT hZ (ww hw 48 rfl)) (by decide) (backOf (W := 0) (own_wfs0 l Z a0 hw hj ki0 vf0 G sv1 bv1 kv1 1 gv1 h1 n0 O1 (by decide) ⟨EA1, FC1, FV1, VB1⟩ (by decide) (by decide) []) hZ (ww hw 48 rfl) (ww hw 47 rfl) (by decide) (by decide)) (g := (mkF m 299 #[vi p1, vi p2, vi p3, vi p4, vi p5, vi p6, vi kk, vi bb, vi x1, vi x2, vi (7 : Int32), vr a43, vr a44, vr a45, vi (Int32.ofNat n1), vi (Int32.ofNat n2), vi (Int32.ofNat m1), vi (Int32.ofNat m2), vi (Int32.ofNat o1), vi (Int32.ofNat o2), vr sv1, vi (0 : Int32)] [xr sv1])) rfl (by rw [hml]; rfl) (argsL := [xr sv1]) (rest := []) (lenOf pd22 rfl) rfl (by show 2 * 0 + _ ≤ _; exact Nat.le_of_eq rfl) (hb hby at_299) (fun _ _ => ⟨rfl, e1, (by decide : 5 + 0 ≤ _), (by decide : 137 + 0 ≤ _)⟩)
  dsimp only [Pt.U, Pt.locs, Pt.cells, Pt.slots] at X2 l2 y2 z2 st2 hQ2
  subst l2 y2 z2
  obtain ⟨rfl, Nq2, e2⟩ := hQ2
  have N2 := Fr.app N1 Nq2
  obtain ⟨fs, hr, hrun, hended, hW, hsame⟩ := X2.leave (v := some (xi (1 : Int32))) (fun h => by rw [Bd.returns] at h; cases h)
  have hq := (CHr.keep Kp1 all0 hCH).trans (CHv.at (s := s) (vm0 := s.vm) X2 hZ (own_EW hw) (hCH.keep Kp1 all0))
  refine ⟨_, _, pre0 _ ?_, hrun, hended, _, _, rfl, ?_, ?_, ⟨_, rfl⟩, hW.wide, hW.no_new_pair _, hsame.mono (by decide) (by decide)⟩
  · show own_S p e below s₁ (mkF m 0 #[vi p1, vi p2, vi p3, vi p4, vi p5, vi p6, vu, vu, vu, vu, vu, vu, vu, vu, vu, vu, vu, vu, vu, vu, vu, vu] []) _
    refine stP _ ?_
    refine castTop (show (mkF m 175 #[vi p1, vi p2, vi p3, vi p4, vi p5, vi p6, vi kk, vi bb, vi x1, vi x2, vi (p1 &&& (7 : Int32)), vr a43, vr a44, vr a45, vi (Int32.ofNat n1), vi (Int32.ofNat n2), vi (Int32.ofNat m1), vi (Int32.ofNat m2), vi (Int32.ofNat o1), vi (Int32.ofNat o2), vu, vu] []) = (mkF m 175 #[vi p1, vi p2, vi p3, vi p4, vi p5, vi p6, vi kk, vi bb, vi x1, vi x2, vi (7 : Int32), vr a43, vr a44, vr a45, vi (Int32.ofNat n1), vi (Int32.ofNat n2), vi (Int32.ofNat m1), vi (Int32.ofNat m2), vi (Int32.ofNat o1), vi (Int32.ofNat o2), vu, vu] []) from by rw [as327]) ?_
    refine XS.iload XP.here hx rfl (hb hby at_175) rfl ?_
    refine XS.iconst XP.here hx rfl (hb hby at_177) ?_
    show own_S p e below TP (mkF m 178 #[vi p1, vi p2, vi p3, vi p4, vi p5, vi p6, vi kk, vi bb, vi x1, vi x2, vi (7 : Int32), vr a43, vr a44, vr a45, vi (Int32.ofNat n1), vi (Int32.ofNat n2), vi (Int32.ofNat m1), vi (Int32.ofNat m2), vi (Int32.ofNat o1), vi (Int32.ofNat o2), vu, vu] [xi (3 : Int32), xi (7 : Int32)]) _
    refine XS.icmpYes XP.here hx rfl (pc0 := 178) (pc' := 224) rfl (hb hby at_178) rfl (by decide) (by decide) (by decide) ?_
    refine XS.iload XP.here hx rfl (hb hby at_224) rfl ?_
    refine XS.iconst XP.here hx rfl (hb hby at_226) ?_
    show own_S p e below TP (mkF m 227 #[vi p1, vi p2, vi p3, vi p4, vi p5, vi p6, vi kk, vi bb, vi x1, vi x2, vi (7 : Int32), vr a43, vr a44, vr a45, vi (Int32.ofNat n1), vi (Int32.ofNat n2), vi (Int32.ofNat m1), vi (Int32.ofNat m2), vi (Int32.ofNat o1), vi (Int32.ofNat o2), vu, vu] [xi (4 : Int32), xi (7 : Int32)]) _
    refine XS.icmpYes XP.here hx rfl (pc0 := 227) (pc' := 247) rfl (hb hby at_227) rfl (by decide) (by decide) (by decide) ?_
    refine XS.iload XP.here hx rfl (hb hby at_247) rfl ?_
    refine XS.iconst XP.here hx rfl (hb hby at_249) ?_
    show own_S p e below TP (mkF m 250 #[vi p1, vi p2, vi p3, vi p4, vi p5, vi p6, vi kk, vi bb, vi x1, vi x2, vi (7 : Int32), vr a43, vr a44, vr a45, vi (Int32.ofNat n1), vi (Int32.ofNat n2), vi (Int32.ofNat m1), vi (Int32.ofNat m2), vi (Int32.ofNat o1), vi (Int32.ofNat o2), vu, vu] [xi (5 : Int32), xi (7 : Int32)]) _
    refine XS.icmpYes XP.here hx rfl (pc0 := 250) (pc' := 270) rfl (hb hby at_250) rfl (by decide) (by decide) (by decide) ?_
    refine XS.iload XP.here hx rfl (hb hby at_270) rfl ?_
    refine XS.bipush XP.here hx rfl (hb hby at_272) ?_
    show own_S p e below TP (mkF m 274 #[vi p1, vi p2, vi p3, vi p4, vi p5, vi p6, vi kk, vi bb, vi x1, vi x2, vi (7 : Int32), vr a43, vr a44, vr a45, vi (Int32.ofNat n1), vi (Int32.ofNat n2), vi (Int32.ofNat m1), vi (Int32.ofNat m2), vi (Int32.ofNat o1), vi (Int32.ofNat o2), vu, vu] [xi (6 : Int32), xi (7 : Int32)]) _
    refine XS.icmpYes XP.here hx rfl (pc0 := 274) (pc' := 287) rfl (hb hby at_274) rfl (by decide) (by decide) (by decide) ?_
    refine XS.iload XP.here hx rfl (hb hby at_287) rfl ?_
    show own_S p e below TP (mkF m 289 #[vi p1, vi p2, vi p3, vi p4, vi p5, vi p6, vi kk, vi bb, vi x1, vi x2, vi (7 : Int32), vr a43, vr a44, vr a45, vi (Int32.ofNat n1), vi (Int32.ofNat n2), vi (Int32.ofNat m1), vi (Int32.ofNat m2), vi (Int32.ofNat o1), vi (Int32.ofNat o2), vu, vu] [xi x1]) _
    refine st1 _ ?_
    refine XS.astore X1.here hx rfl (hb hby at_292) rfl rfl (l' := #[vi p1, vi p2, vi p3, vi p4, vi p5, vi p6, vi kk, vi bb, vi x1, vi x2, vi (7 : Int32), vr a43, vr a44, vr a45, vi (Int32.ofNat n1), vi (Int32.ofNat n2), vi (Int32.ofNat m1), vi (Int32.ofNat m2), vi (Int32.ofNat o1), vi (Int32.ofNat o2), vr sv1, vu]) rfl ?_
    refine XS.iconst X1.here hx rfl (hb hby at_294) ?_
    refine XS.istore X1.here hx rfl (hb hby at_295) rfl (l' := #[vi p1, vi p2, vi p3, vi p4, vi p5, vi p6, vi kk, vi bb, vi x1, vi x2, vi (7 : Int32), vr a43, vr a44, vr a45, vi (Int32.ofNat n1), vi (Int32.ofNat n2), vi (Int32.ofNat m1), vi (Int32.ofNat m2), vi (Int32.ofNat o1), vi (Int32.ofNat o2), vr sv1, vi (0 : Int32)]) rfl ?_
    show own_S p e below T1 (mkF m 297 #[vi p1, vi p2, vi p3, vi p4, vi p5, vi p6, vi kk, vi bb, vi x1, vi x2, vi (7 : Int32), vr a43, vr a44, vr a45, vi (Int32.ofNat n1), vi (Int32.ofNat n2), vi (Int32.ofNat m1), vi (Int32.ofNat m2), vi (Int32.ofNat o1), vi (Int32.ofNat o2), vr sv1, vi (0 : Int32)] []) _
    refine XS.aload X1.here hx rfl (hb hby at_297) rfl rfl ?_
    show own_S p e below T1 (mkF m 299 #[vi p1, vi p2, vi p3, vi p4, vi p5, vi p6, vi kk, vi bb, vi x1, vi x2, vi (7 : Int32), vr a43, vr a44, vr a45, vi (Int32.ofNat n1), vi (Int32.ofNat n2), vi (Int32.ofNat m1), vi (Int32.ofNat m2), vi (Int32.ofNat o1), vi (Int32.ofNat o2), vr sv1, vi (0 : Int32)] [xr sv1]) _
    refine st2 _ ?_
    refine XS.iload X2.here hx rfl (hb hby at_302) rfl ?_
    show own_S p e below T2 (mkF m 304 #[vi p1, vi p2, vi p3, vi p4, vi p5, vi p6, vi kk, vi bb, vi x1, vi x2, vi (7 : Int32), vr a43, vr a44, vr a45, vi (Int32.ofNat n1), vi (Int32.ofNat n2), vi (Int32.ofNat m1), vi (Int32.ofNat m2), vi (Int32.ofNat o1), vi (Int32.ofNat o2), vr sv1, vi (0 : Int32)] [xi (0 : Int32), xi (0 : Int32)]) _
    refine XS.icmpNo X2.here hx rfl (hb hby at_304) rfl (by decide) ?_
    refine XS.iconst X2.here hx rfl (hb hby at_307) ?_
    refine XS.goto X2.here hx rfl (pc0 := 308) (pc' := 312) rfl (hb hby at_308) (by decide) (by decide) ?_
    show own_S p e below T2 (mkF m 312 #[vi p1, vi p2, vi p3, vi p4, vi p5, vi p6, vi kk, vi bb, vi x1, vi x2, vi (7 : Int32), vr a43, vr a44, vr a45, vi (Int32.ofNat n1), vi (Int32.ofNat n2), vi (Int32.ofNat m1), vi (Int32.ofNat m2), vi (Int32.ofNat o1), vi (Int32.ofNat o2), vr sv1, vi (0 : Int32)] [xi (1 : Int32)]) _
    exact retN X2 hx (t := .boolean) Bd.returns (by simp) (hb hby at_312) hr
  · exact ⟨rfl, N2⟩
  · show CHr Z own_EL s.vm s.heap T2.vm T2.heap
    rw [hh, e2]; exact hq
theorem ef_own_law7_1 (m : MethodId)  (ki0 : Int32) (vf0 : Value) (p1 : Int32) (p2 : Int32) (p3 : Int32) (p4 : Int32) (p5 : Int32) (p6 : Int32) (kk : Int32) (bb : Int32) (x1 : Int32) (x2 : Int32) (n1 : Nat) (n2 : Nat) (m1 : Nat) (m2 : Nat) (o1 : Nat) (o2 : Nat) : entryFrame m #[xi p1, xi p2, xi p3, xi p4, xi p5, xi p6] maxLocals = (mkF m 0 #[vi p1, vi p2, vi p3, vi p4, vi p5, vi p6, vu, vu, vu, vu, vu, vu, vu, vu, vu, vu, vu, vu, vu, vu, vu, vu] []) := by first | (simp [entryFrame, mkF, argsToLocals, Value.category, maxLocals]; done) | rfl
set_option maxRecDepth 65536 in
set_option maxHeartbeats 40000000 in
theorem own_law7_1 (l : Launch) (Z : State) (a0 : Array Value) (hw : ∀ d ∈ tables_1, d.before a0 Z = true) (hj : ∀ d ∈ jdkStatics_1, d.before a0 Z = true)  (ki0 : Int32) (vf0 : Value) (G : own_St Z hj ki0 vf0) (p1 : Int32) (p2 : Int32) (p3 : Int32) (p4 : Int32) (p5 : Int32) (p6 : Int32) (kk : Int32) (bb : Int32) (x1 : Int32) (x2 : Int32) (n1 : Nat) (n2 : Nat) (m1 : Nat) (m2 : Nat) (o1 : Nat) (o2 : Nat) (as327 : (p1 &&& (7 : Int32)) = (7 : Int32)) (h0 : Heap) (n0 : Nat) (O0 : Old Z n0 h0) (hcase : ((if_icmp.holds .ge kk (26 : Int32) = false) ∧ ((((97 : Int32) + kk).toUInt32.toUInt16.toUInt32.toInt32) = bb)) ∨ ((if_icmp.holds .ge kk (26 : Int32) = true) ∧ ((((48 : Int32) + (kk - (26 : Int32))).toUInt32.toUInt16.toUInt32.toInt32) = bb))) (as47 : ((p6 &&& (2147483647 : Int32)) - ((p6 &&& (2147483647 : Int32)) / (36 : Int32)) * (36 : Int32)) = kk) (as48 : ((p3 &&& (65535 : Int32)).toUInt32.toUInt16.toUInt32.toInt32) = x1) (as49 : ((p5 &&& (65535 : Int32)).toUInt32.toUInt16.toUInt32.toInt32) = x2) (as94 : ((p2 &&& (2147483647 : Int32)) - ((p2 &&& (2147483647 : Int32)) / (44 : Int32)) * (44 : Int32)) = (Int32.ofNat n1)) (as139 : ((p4 &&& (2147483647 : Int32)) - ((p4 &&& (2147483647 : Int32)) / (44 : Int32)) * (44 : Int32)) = (Int32.ofNat n2)) (as183 : ((p2 &&& (2147483647 : Int32)) - ((p2 &&& (2147483647 : Int32)) / (43 : Int32)) * (43 : Int32)) = (Int32.ofNat m1)) (as227 : ((p4 &&& (2147483647 : Int32)) - ((p4 &&& (2147483647 : Int32)) / (43 : Int32)) * (43 : Int32)) = (Int32.ofNat m2)) (as273 : ((p2 &&& (2147483647 : Int32)) - ((p2 &&& (2147483647 : Int32)) / (45 : Int32)) * (45 : Int32)) = (Int32.ofNat o1)) (as319 : ((p4 &&& (2147483647 : Int32)) - ((p4 &&& (2147483647 : Int32)) / (45 : Int32)) * (45 : Int32)) = (Int32.ofNat o2)) (hn1 : n1 < 44) (hn2 : n2 < 44) (hm1 : m1 < 43) (hm2 : m2 < 43) (ho1 : o1 < 45) (ho2 : o2 < 45) (hx1 : if_icmp.holds .gt x1 (255 : Int32) = true) : own_MetW l Z x code maxLocals ret room_1 #[xi p1, xi p2, xi p3, xi p4, xi p5, xi p6] h0 (own_QL (some (xi (1 : Int32))) n0) := by
  intro ws
  refine MetFree.of_bodySF (plainFor_of_name pn2) hisR ?_
  intro p e s m args below meth c s₁ Bd hml0 hP hK
  obtain ⟨rfl, hZ, hh, hCH⟩ := hP
  have hx := Bd.exec
  have hby := Bd.bytes
  have hml : c.maxLocals = 22 := hml0
  have hown : s.vm.findClass "com/example/scopelock/scopelock/KeyWellFormedPinLaw" = some m.cls := findClass_of_methodNamed Bd.named
  have hnm := (name_of_methodNamed Bd.named Bd.method).1
  have X0 : Stand p l e room_1 s m #[xi p1, xi p2, xi p3, xi p4, xi p5, xi p6] below meth c s₁ [] 0 0 := Stand.of_body Bd
  have e0 : s₁.heap = h0 := by rw [← hh, Bd.state]; rfl
  have N0 := Fr.nil n0
  have pre0 : ∀ t, Steps p.tables e below (s₁.setTop (mkF m 0 #[vi p1, vi p2, vi p3, vi p4, vi p5, vi p6, vu, vu, vu, vu, vu, vu, vu, vu, vu, vu, vu, vu, vu, vu, vu, vu] [])) t → Steps p.tables e below (s₁.setTop (entryFrame m #[xi p1, xi p2, xi p3, xi p4, xi p5, xi p6] maxLocals)) t := fun t st => castTop (ef_own_law7_1 m ki0 vf0 p1 p2 p3 p4 p5 p6 kk bb x1 x2 n1 n2 m1 m2 o1 o2) st
  obtain ⟨TP, LP, hPP, a43, a44, a45, k43, k44, k45, XP, eP, NP, OP, ⟨V43, V44, V45, KP⟩, stP⟩ := own_pre hw hj ki0 vf0 G p1 p2 p3 p4 p5 p6 kk bb x1 x2 n1 n2 m1 m2 o1 o2 as47 hcase as48 as49 as94 as139 as183 as227 as273 as319 hx hZ hby hml hown X0 e0 N0 O0 hn1 hn2 hm1 hm2 ho1 ho2
  obtain ⟨_, _, ⟨T1, L1, k1, n1⟩, -, X1, ⟨Lc1, hQ1, l1, y1, z1⟩, st1⟩ := Jvm.LawKit.callS XP hx (y := Y36) hown (mvT hZ (ww hw 130 rfl)) (mvT hZ (ww hw 131 rfl)) (mvT hZ (ww hw 15 rfl)) (mvT hZ (ww hw 132 rfl)) (by decide) (backOf (W := 0) (own_vo1 l Z a0 hw hj ki0 vf0 G x1 hx1 hPP n0 OP []) hZ (ww hw 132 rfl) (ww hw 15 rfl) (by decide) (by decide)) (g := (mkF m 289 #[vi p1, vi p2, vi p3, vi p4, vi p5, vi p6, vi kk, vi bb, vi x1, vi x2, vi (7 : Int32), vr a43, vr a44, vr a45, vi (Int32.ofNat n1), vi (Int32.ofNat n2), vi (Int32.ofNat m1), vi (Int32.ofNat m2), vi (Int32.ofNat o1), vi (Int32.ofNat o2), vu, vu] [xi x1])) rfl (by rw [hml]; rfl) (argsL := [xi x1]) (rest := []) (lenOf pd25 rfl) rfl (by show 2 * 0 + _ ≤ _; exact Nat.le_of_eq rfl) (hb hby at_289) (fun _ _ => ⟨rfl, eP, (by decide : 3 + 2 ≤ _), (by decide : 132 + 6 ≤ _)⟩)
  dsimp only [Pt.U, Pt.locs, Pt.cells, Pt.slots] at X1 l1 y1 z1 st1 hQ1
  subst l1 y1 z1
  obtain ⟨h1, e1⟩ : ∃ z, T1.heap = z := ⟨_, rfl⟩
  rw [e1] at hQ1
  obtain ⟨sv1, bv1, kv1, gv1, rfl, Nq1, K1, SS1⟩ := hQ1
  have N1 := Fr.app NP Nq1
  have O1 : Old Z n0 h1 := OP.keep K1 all0
  have Kp1 : Keep h0 h1 [] := KP.trans K1 all0
  have V_a43_1 := V43.keep K1 nin0
  have V_a44_1 := V44.keep K1 nin0
  have V_a45_1 := V45.keep K1 nin0
  obtain ⟨EA1, FC1, FV1, VB1⟩ := id SS1
  obtain ⟨_, _, ⟨T2, L2, k2, n2⟩, -, X2, ⟨Lc2, hQ2, l2, y2, z2⟩, st2⟩ := Jvm.LawKit.callS X1 hx (y := Y28) hown (mvT hZ (ww hw 45 rfl)) (mvT hZ (ww hw 46 rfl)) (mvT hZ (ww hw 47 rfl)) (mvT hZ (ww hw 48 rfl)) (by decide) (backOf (W := 0) (own_wfs1 l Z a0 hw hj ki0 vf0 G sv1 bv1 kv1 1 gv1 h1 n0 O1 (by decide) ⟨EA1, FC1, FV1, VB1⟩ (by decide) (by decide) []) hZ (ww hw 48 rfl) (ww hw 47 rfl) (by decide) (by decide)) (g := (mkF m 299 #[vi p1, vi p2, vi p3, vi p4, vi p5, vi p6, vi kk, vi bb, vi x1, vi x2, vi (7 : Int32), vr a43, vr a44, vr a45, vi (Int32.ofNat n1), vi (Int32.ofNat n2), vi (Int32.ofNat m1), vi (Int32.ofNat m2), vi (Int32.ofNat o1), vi (Int32.ofNat o2), vr sv1, vi (0 : Int32)] [xr sv1])) rfl (by rw [hml]; rfl) (argsL := [xr sv1]) (rest := []) (lenOf pd22 rfl) rfl (by show 2 * 0 + _ ≤ _; exact Nat.le_of_eq rfl) (hb hby at_299) (fun _ _ => ⟨rfl, e1, (by decide : 5 + 0 ≤ _), (by decide : 138 + 0 ≤ _)⟩)
  dsimp only [Pt.U, Pt.locs, Pt.cells, Pt.slots] at X2 l2 y2 z2 st2 hQ2
  subst l2 y2 z2
  obtain ⟨rfl, Nq2, e2⟩ := hQ2
  have N2 := Fr.app N1 Nq2
  obtain ⟨fs, hr, hrun, hended, hW, hsame⟩ := X2.leave (v := some (xi (1 : Int32))) (fun h => by rw [Bd.returns] at h; cases h)
  have hq := (CHr.keep Kp1 all0 hCH).trans (CHv.at (s := s) (vm0 := s.vm) X2 hZ (own_EW hw) (hCH.keep Kp1 all0))
  refine ⟨_, _, pre0 _ ?_, hrun, hended, _, _, rfl, ?_, ?_, ⟨_, rfl⟩, hW.wide, hW.no_new_pair _, hsame.mono (by decide) (by decide)⟩
  · show own_S p e below s₁ (mkF m 0 #[vi p1, vi p2, vi p3, vi p4, vi p5, vi p6, vu, vu, vu, vu, vu, vu, vu, vu, vu, vu, vu, vu, vu, vu, vu, vu] []) _
    refine stP _ ?_
    refine castTop (show (mkF m 175 #[vi p1, vi p2, vi p3, vi p4, vi p5, vi p6, vi kk, vi bb, vi x1, vi x2, vi (p1 &&& (7 : Int32)), vr a43, vr a44, vr a45, vi (Int32.ofNat n1), vi (Int32.ofNat n2), vi (Int32.ofNat m1), vi (Int32.ofNat m2), vi (Int32.ofNat o1), vi (Int32.ofNat o2), vu, vu] []) = (mkF m 175 #[vi p1, vi p2, vi p3, vi p4, vi p5, vi p6, vi kk, vi bb, vi x1, vi x2, vi (7 : Int32), vr a43, vr a44, vr a45, vi (Int32.ofNat n1), vi (Int32.ofNat n2), vi (Int32.ofNat m1), vi (Int32.ofNat m2), vi (Int32.ofNat o1), vi (Int32.ofNat o2), vu, vu] []) from by rw [as327]) ?_
    refine XS.iload XP.here hx rfl (hb hby at_175) rfl ?_
    refine XS.iconst XP.here hx rfl (hb hby at_177) ?_
    show own_S p e below TP (mkF m 178 #[vi p1, vi p2, vi p3, vi p4, vi p5, vi p6, vi kk, vi bb, vi x1, vi x2, vi (7 : Int32), vr a43, vr a44, vr a45, vi (Int32.ofNat n1), vi (Int32.ofNat n2), vi (Int32.ofNat m1), vi (Int32.ofNat m2), vi (Int32.ofNat o1), vi (Int32.ofNat o2), vu, vu] [xi (3 : Int32), xi (7 : Int32)]) _
    refine XS.icmpYes XP.here hx rfl (pc0 := 178) (pc' := 224) rfl (hb hby at_178) rfl (by decide) (by decide) (by decide) ?_
    refine XS.iload XP.here hx rfl (hb hby at_224) rfl ?_
    refine XS.iconst XP.here hx rfl (hb hby at_226) ?_
    show own_S p e below TP (mkF m 227 #[vi p1, vi p2, vi p3, vi p4, vi p5, vi p6, vi kk, vi bb, vi x1, vi x2, vi (7 : Int32), vr a43, vr a44, vr a45, vi (Int32.ofNat n1), vi (Int32.ofNat n2), vi (Int32.ofNat m1), vi (Int32.ofNat m2), vi (Int32.ofNat o1), vi (Int32.ofNat o2), vu, vu] [xi (4 : Int32), xi (7 : Int32)]) _
    refine XS.icmpYes XP.here hx rfl (pc0 := 227) (pc' := 247) rfl (hb hby at_227) rfl (by decide) (by decide) (by decide) ?_
    refine XS.iload XP.here hx rfl (hb hby at_247) rfl ?_
    refine XS.iconst XP.here hx rfl (hb hby at_249) ?_
    show own_S p e below TP (mkF m 250 #[vi p1, vi p2, vi p3, vi p4, vi p5, vi p6, vi kk, vi bb, vi x1, vi x2, vi (7 : Int32), vr a43, vr a44, vr a45, vi (Int32.ofNat n1), vi (Int32.ofNat n2), vi (Int32.ofNat m1), vi (Int32.ofNat m2), vi (Int32.ofNat o1), vi (Int32.ofNat o2), vu, vu] [xi (5 : Int32), xi (7 : Int32)]) _
    refine XS.icmpYes XP.here hx rfl (pc0 := 250) (pc' := 270) rfl (hb hby at_250) rfl (by decide) (by decide) (by decide) ?_
    refine XS.iload XP.here hx rfl (hb hby at_270) rfl ?_
    refine XS.bipush XP.here hx rfl (hb hby at_272) ?_
    show own_S p e below TP (mkF m 274 #[vi p1, vi p2, vi p3, vi p4, vi p5, vi p6, vi kk, vi bb, vi x1, vi x2, vi (7 : Int32), vr a43, vr a44, vr a45, vi (Int32.ofNat n1), vi (Int32.ofNat n2), vi (Int32.ofNat m1), vi (Int32.ofNat m2), vi (Int32.ofNat o1), vi (Int32.ofNat o2), vu, vu] [xi (6 : Int32), xi (7 : Int32)]) _
    refine XS.icmpYes XP.here hx rfl (pc0 := 274) (pc' := 287) rfl (hb hby at_274) rfl (by decide) (by decide) (by decide) ?_
    refine XS.iload XP.here hx rfl (hb hby at_287) rfl ?_
    show own_S p e below TP (mkF m 289 #[vi p1, vi p2, vi p3, vi p4, vi p5, vi p6, vi kk, vi bb, vi x1, vi x2, vi (7 : Int32), vr a43, vr a44, vr a45, vi (Int32.ofNat n1), vi (Int32.ofNat n2), vi (Int32.ofNat m1), vi (Int32.ofNat m2), vi (Int32.ofNat o1), vi (Int32.ofNat o2), vu, vu] [xi x1]) _
    refine st1 _ ?_
    refine XS.astore X1.here hx rfl (hb hby at_292) rfl rfl (l' := #[vi p1, vi p2, vi p3, vi p4, vi p5, vi p6, vi kk, vi bb, vi x1, vi x2, vi (7 : Int32), vr a43, vr a44, vr a45, vi (Int32.ofNat n1), vi (Int32.ofNat n2), vi (Int32.ofNat m1), vi (Int32.ofNat m2), vi (Int32.ofNat o1), vi (Int32.ofNat o2), vr sv1, vu]) rfl ?_
    refine XS.iconst X1.here hx rfl (hb hby at_294) ?_
    refine XS.istore X1.here hx rfl (hb hby at_295) rfl (l' := #[vi p1, vi p2, vi p3, vi p4, vi p5, vi p6, vi kk, vi bb, vi x1, vi x2, vi (7 : Int32), vr a43, vr a44, vr a45, vi (Int32.ofNat n1), vi (Int32.ofNat n2), vi (Int32.ofNat m1), vi (Int32.ofNat m2), vi (Int32.ofNat o1), vi (Int32.ofNat o2), vr sv1, vi (0 : Int32)]) rfl ?_
    show own_S p e below T1 (mkF m 297 #[vi p1, vi p2, vi p3, vi p4, vi p5, vi p6, vi kk, vi bb, vi x1, vi x2, vi (7 : Int32), vr a43, vr a44, vr a45, vi (Int32.ofNat n1), vi (Int32.ofNat n2), vi (Int32.ofNat m1), vi (Int32.ofNat m2), vi (Int32.ofNat o1), vi (Int32.ofNat o2), vr sv1, vi (0 : Int32)] []) _
    refine XS.aload X1.here hx rfl (hb hby at_297) rfl rfl ?_
    show own_S p e below T1 (mkF m 299 #[vi p1, vi p2, vi p3, vi p4, vi p5, vi p6, vi kk, vi bb, vi x1, vi x2, vi (7 : Int32), vr a43, vr a44, vr a45, vi (Int32.ofNat n1), vi (Int32.ofNat n2), vi (Int32.ofNat m1), vi (Int32.ofNat m2), vi (Int32.ofNat o1), vi (Int32.ofNat o2), vr sv1, vi (0 : Int32)] [xr sv1]) _
    refine st2 _ ?_
    refine XS.iload X2.here hx rfl (hb hby at_302) rfl ?_
    show own_S p e below T2 (mkF m 304 #[vi p1, vi p2, vi p3, vi p4, vi p5, vi p6, vi kk, vi bb, vi x1, vi x2, vi (7 : Int32), vr a43, vr a44, vr a45, vi (Int32.ofNat n1), vi (Int32.ofNat n2), vi (Int32.ofNat m1), vi (Int32.ofNat m2), vi (Int32.ofNat o1), vi (Int32.ofNat o2), vr sv1, vi (0 : Int32)] [xi (0 : Int32), xi (0 : Int32)]) _
    refine XS.icmpNo X2.here hx rfl (hb hby at_304) rfl (by decide) ?_
    refine XS.iconst X2.here hx rfl (hb hby at_307) ?_
    refine XS.goto X2.here hx rfl (pc0 := 308) (pc' := 312) rfl (hb hby at_308) (by decide) (by decide) ?_
    show own_S p e below T2 (mkF m 312 #[vi p1, vi p2, vi p3, vi p4, vi p5, vi p6, vi kk, vi bb, vi x1, vi x2, vi (7 : Int32), vr a43, vr a44, vr a45, vi (Int32.ofNat n1), vi (Int32.ofNat n2), vi (Int32.ofNat m1), vi (Int32.ofNat m2), vi (Int32.ofNat o1), vi (Int32.ofNat o2), vr sv1, vi (0 : Int32)] [xi (1 : Int32)]) _
    exact retN X2 hx (t := .boolean) Bd.returns (by simp) (hb hby at_312) hr
  · exact ⟨rfl, N2⟩
  · show CHr Z own_EL s.vm s.heap T2.vm T2.heap
    rw [hh, e2]; exact hq
theorem own_t3 : (∀ c ∈ "".toList, c.toNat < 256) ∧ "".toList.map (fun c => Value.int (Jvm.Lit.byteI c.toNat.toUInt16)) = own_vs own_al 0 := by decide +kernel
theorem ef_own_law6 (m : MethodId)  (ki0 : Int32) (vf0 : Value) (p1 : Int32) (p2 : Int32) (p3 : Int32) (p4 : Int32) (p5 : Int32) (p6 : Int32) (kk : Int32) (bb : Int32) (x1 : Int32) (x2 : Int32) (n1 : Nat) (n2 : Nat) (m1 : Nat) (m2 : Nat) (o1 : Nat) (o2 : Nat) : entryFrame m #[xi p1, xi p2, xi p3, xi p4, xi p5, xi p6] maxLocals = (mkF m 0 #[vi p1, vi p2, vi p3, vi p4, vi p5, vi p6, vu, vu, vu, vu, vu, vu, vu, vu, vu, vu, vu, vu, vu, vu, vu, vu] []) := by first | (simp [entryFrame, mkF, argsToLocals, Value.category, maxLocals]; done) | rfl
set_option maxRecDepth 65536 in
set_option maxHeartbeats 40000000 in
theorem own_law6 (l : Launch) (Z : State) (a0 : Array Value) (hw : ∀ d ∈ tables_1, d.before a0 Z = true) (hj : ∀ d ∈ jdkStatics_1, d.before a0 Z = true)  (ki0 : Int32) (vf0 : Value) (G : own_St Z hj ki0 vf0) (p1 : Int32) (p2 : Int32) (p3 : Int32) (p4 : Int32) (p5 : Int32) (p6 : Int32) (kk : Int32) (bb : Int32) (x1 : Int32) (x2 : Int32) (n1 : Nat) (n2 : Nat) (m1 : Nat) (m2 : Nat) (o1 : Nat) (o2 : Nat) (as328 : (p1 &&& (7 : Int32)) = (6 : Int32)) (h0 : Heap) (n0 : Nat) (O0 : Old Z n0 h0) (hcase : ((if_icmp.holds .ge kk (26 : Int32) = false) ∧ ((((97 : Int32) + kk).toUInt32.toUInt16.toUInt32.toInt32) = bb)) ∨ ((if_icmp.holds .ge kk (26 : Int32) = true) ∧ ((((48 : Int32) + (kk - (26 : Int32))).toUInt32.toUInt16.toUInt32.toInt32) = bb))) (as47 : ((p6 &&& (2147483647 : Int32)) - ((p6 &&& (2147483647 : Int32)) / (36 : Int32)) * (36 : Int32)) = kk) (as48 : ((p3 &&& (65535 : Int32)).toUInt32.toUInt16.toUInt32.toInt32) = x1) (as49 : ((p5 &&& (65535 : Int32)).toUInt32.toUInt16.toUInt32.toInt32) = x2) (as94 : ((p2 &&& (2147483647 : Int32)) - ((p2 &&& (2147483647 : Int32)) / (44 : Int32)) * (44 : Int32)) = (Int32.ofNat n1)) (as139 : ((p4 &&& (2147483647 : Int32)) - ((p4 &&& (2147483647 : Int32)) / (44 : Int32)) * (44 : Int32)) = (Int32.ofNat n2)) (as183 : ((p2 &&& (2147483647 : Int32)) - ((p2 &&& (2147483647 : Int32)) / (43 : Int32)) * (43 : Int32)) = (Int32.ofNat m1)) (as227 : ((p4 &&& (2147483647 : Int32)) - ((p4 &&& (2147483647 : Int32)) / (43 : Int32)) * (43 : Int32)) = (Int32.ofNat m2)) (as273 : ((p2 &&& (2147483647 : Int32)) - ((p2 &&& (2147483647 : Int32)) / (45 : Int32)) * (45 : Int32)) = (Int32.ofNat o1)) (as319 : ((p4 &&& (2147483647 : Int32)) - ((p4 &&& (2147483647 : Int32)) / (45 : Int32)) * (45 : Int32)) = (Int32.ofNat o2)) (hn1 : n1 < 44) (hn2 : n2 < 44) (hm1 : m1 < 43) (hm2 : m2 < 43) (ho1 : o1 < 45) (ho2 : o2 < 45) : own_MetW l Z x code maxLocals ret room_1 #[xi p1, xi p2, xi p3, xi p4, xi p5, xi p6] h0 (own_QL (some (xi (1 : Int32))) n0) := by
  intro ws
  refine MetFree.of_bodySF (plainFor_of_name pn2) hisR ?_
  intro p e s m args below meth c s₁ Bd hml0 hP hK
  obtain ⟨rfl, hZ, hh, hCH⟩ := hP
  have hx := Bd.exec
  have hby := Bd.bytes
  have hml : c.maxLocals = 22 := hml0
  have hown : s.vm.findClass "com/example/scopelock/scopelock/KeyWellFormedPinLaw" = some m.cls := findClass_of_methodNamed Bd.named
  have hnm := (name_of_methodNamed Bd.named Bd.method).1
  have X0 : Stand p l e room_1 s m #[xi p1, xi p2, xi p3, xi p4, xi p5, xi p6] below meth c s₁ [] 0 0 := Stand.of_body Bd
  have e0 : s₁.heap = h0 := by rw [← hh, Bd.state]; rfl
  have N0 := Fr.nil n0
  have pre0 : ∀ t, Steps p.tables e below (s₁.setTop (mkF m 0 #[vi p1, vi p2, vi p3, vi p4, vi p5, vi p6, vu, vu, vu, vu, vu, vu, vu, vu, vu, vu, vu, vu, vu, vu, vu, vu] [])) t → Steps p.tables e below (s₁.setTop (entryFrame m #[xi p1, xi p2, xi p3, xi p4, xi p5, xi p6] maxLocals)) t := fun t st => castTop (ef_own_law6 m ki0 vf0 p1 p2 p3 p4 p5 p6 kk bb x1 x2 n1 n2 m1 m2 o1 o2) st
  obtain ⟨TP, LP, hPP, a43, a44, a45, k43, k44, k45, XP, eP, NP, OP, ⟨V43, V44, V45, KP⟩, stP⟩ := own_pre hw hj ki0 vf0 G p1 p2 p3 p4 p5 p6 kk bb x1 x2 n1 n2 m1 m2 o1 o2 as47 hcase as48 as49 as94 as139 as183 as227 as273 as319 hx hZ hby hml hown X0 e0 N0 O0 hn1 hn2 hm1 hm2 ho1 ho2
  obtain ⟨al, TC, hC, kC, bl, kl, XC, eC, EC, hSC, hkC, hZC, hownC, ExA, FcA, FvA, VaA, -, -, hCr, hLit, -, stC⟩ := ldcCH (s := s) (vm0 := s.vm) XP hx hZ hown (ww hw 153 rfl) (own_strat hw hj) eP ((State.WarmedH.refl s).since hPP.size) (Nat.le_refl _) (own_EW hw) (List.mem_of_getElem? (i := 1) rfl) (hCH.keep KP all0) (vs := own_vs own_al 0) (z := Int32.ofNat 0) own_t3 (by decide) (by decide) (g := (mkF m 277 #[vi p1, vi p2, vi p3, vi p4, vi p5, vi p6, vi kk, vi bb, vi x1, vi x2, vi (6 : Int32), vr a43, vr a44, vr a45, vi (Int32.ofNat n1), vi (Int32.ofNat n2), vi (Int32.ofNat m1), vi (Int32.ofNat m2), vi (Int32.ofNat o1), vi (Int32.ofNat o2), vu, vu] [])) rfl (hb hby at_277) (n := 0) (by decide +kernel) (by decide) (by decide) (by decide)
  have hZ := hZC
  have hown := hownC
  have OC := OP.ext EC
  have KpC := KP.ext EC
  have V_a43_C := V43.ext EC
  have V_a44_C := V44.ext EC
  have V_a45_C := V45.ext EC
  have VBZ := VaA
  obtain ⟨_, _, ⟨T1, L1, k1, n1⟩, -, X1, ⟨Lc1, hQ1, l1, y1, z1⟩, st1⟩ := Jvm.LawKit.callS XC hx (y := Y28) hown (mvT hZ (ww hw 45 rfl)) (mvT hZ (ww hw 46 rfl)) (mvT hZ (ww hw 47 rfl)) (mvT hZ (ww hw 48 rfl)) (by decide) (backOf (W := 0) (own_wfs0 l Z a0 hw hj ki0 vf0 G al bl kl 0 own_al hC n0 OC (by decide) ⟨ExA, FcA, FvA, VBZ⟩ (by decide) (by decide) []) hZ (ww hw 48 rfl) (ww hw 47 rfl) (by decide) (by decide)) (g := (mkF m 299 #[vi p1, vi p2, vi p3, vi p4, vi p5, vi p6, vi kk, vi bb, vi x1, vi x2, vi (6 : Int32), vr a43, vr a44, vr a45, vi (Int32.ofNat n1), vi (Int32.ofNat n2), vi (Int32.ofNat m1), vi (Int32.ofNat m2), vi (Int32.ofNat o1), vi (Int32.ofNat o2), vr al, vi (0 : Int32)] [xr al])) rfl (by rw [hml]; rfl) (argsL := [xr al]) (rest := []) (lenOf pd22 rfl) rfl (by show 2 * 0 + _ ≤ _; exact Nat.le_of_eq rfl) (hb hby at_299) (fun _ _ => ⟨rfl, eC, (by decide : 5 + 0 ≤ _), (by decide : 136 + 0 ≤ _)⟩)
  dsimp only [Pt.U, Pt.locs, Pt.cells, Pt.slots] at X1 l1 y1 z1 st1 hQ1
  subst l1 y1 z1
  obtain ⟨rfl, Nq1, e1⟩ := hQ1
  have N1 := Fr.app NP Nq1
  obtain ⟨fs, hr, hrun, hended, hW, hsame⟩ := X1.leave (v := some (xi (1 : Int32))) (fun h => by rw [Bd.returns] at h; cases h)
  have hend := hSC.ended hW (show kC ≤ _ by show kC ≤ T1.heap.size; rw [e1]; exact hkC) hsame
  have hq := (CHr.keep KP all0 hCH).trans (hCr.trans (CHv.at (s := s) (vm0 := TC.vm) X1 hZ (own_EW hw) hCr.1))
  refine ⟨_, _, pre0 _ ?_, hrun, hended, _, _, rfl, ?_, ?_, ⟨_, rfl⟩, hend.1, hend.2.1, hend.2.2.mono (by decide) (by decide)⟩
  · show own_S p e below s₁ (mkF m 0 #[vi p1, vi p2, vi p3, vi p4, vi p5, vi p6, vu, vu, vu, vu, vu, vu, vu, vu, vu, vu, vu, vu, vu, vu, vu, vu] []) _
    refine stP _ ?_
    refine castTop (show (mkF m 175 #[vi p1, vi p2, vi p3, vi p4, vi p5, vi p6, vi kk, vi bb, vi x1, vi x2, vi (p1 &&& (7 : Int32)), vr a43, vr a44, vr a45, vi (Int32.ofNat n1), vi (Int32.ofNat n2), vi (Int32.ofNat m1), vi (Int32.ofNat m2), vi (Int32.ofNat o1), vi (Int32.ofNat o2), vu, vu] []) = (mkF m 175 #[vi p1, vi p2, vi p3, vi p4, vi p5, vi p6, vi kk, vi bb, vi x1, vi x2, vi (6 : Int32), vr a43, vr a44, vr a45, vi (Int32.ofNat n1), vi (Int32.ofNat n2), vi (Int32.ofNat m1), vi (Int32.ofNat m2), vi (Int32.ofNat o1), vi (Int32.ofNat o2), vu, vu] []) from by rw [as328]) ?_
    refine XS.iload XP.here hx rfl (hb hby at_175) rfl ?_
    refine XS.iconst XP.here hx rfl (hb hby at_177) ?_
    show own_S p e below TP (mkF m 178 #[vi p1, vi p2, vi p3, vi p4, vi p5, vi p6, vi kk, vi bb, vi x1, vi x2, vi (6 : Int32), vr a43, vr a44, vr a45, vi (Int32.ofNat n1), vi (Int32.ofNat n2), vi (Int32.ofNat m1), vi (Int32.ofNat m2), vi (Int32.ofNat o1), vi (Int32.ofNat o2), vu, vu] [xi (3 : Int32), xi (6 : Int32)]) _
    refine XS.icmpYes XP.here hx rfl (pc0 := 178) (pc' := 224) rfl (hb hby at_178) rfl (by decide) (by decide) (by decide) ?_
    refine XS.iload XP.here hx rfl (hb hby at_224) rfl ?_
    refine XS.iconst XP.here hx rfl (hb hby at_226) ?_
    show own_S p e below TP (mkF m 227 #[vi p1, vi p2, vi p3, vi p4, vi p5, vi p6, vi kk, vi bb, vi x1, vi x2, vi (6 : Int32), vr a43, vr a44, vr a45, vi (Int32.ofNat n1), vi (Int32.ofNat n2), vi (Int32.ofNat m1), vi (Int32.ofNat m2), vi (Int32.ofNat o1), vi (Int32.ofNat o2), vu, vu] [xi (4 : Int32), xi (6 : Int32)]) _
    refine XS.icmpYes XP.here hx rfl (pc0 := 227) (pc' := 247) rfl (hb hby at_227) rfl (by decide) (by decide) (by decide) ?_
    refine XS.iload XP.here hx rfl (hb hby at_247) rfl ?_
    refine XS.iconst XP.here hx rfl (hb hby at_249) ?_
    show own_S p e below TP (mkF m 250 #[vi p1, vi p2, vi p3, vi p4, vi p5, vi p6, vi kk, vi bb, vi x1, vi x2, vi (6 : Int32), vr a43, vr a44, vr a45, vi (Int32.ofNat n1), vi (Int32.ofNat n2), vi (Int32.ofNat m1), vi (Int32.ofNat m2), vi (Int32.ofNat o1), vi (Int32.ofNat o2), vu, vu] [xi (5 : Int32), xi (6 : Int32)]) _
    refine XS.icmpYes XP.here hx rfl (pc0 := 250) (pc' := 270) rfl (hb hby at_250) rfl (by decide) (by decide) (by decide) ?_
    refine XS.iload XP.here hx rfl (hb hby at_270) rfl ?_
    refine XS.bipush XP.here hx rfl (hb hby at_272) ?_
    show own_S p e below TP (mkF m 274 #[vi p1, vi p2, vi p3, vi p4, vi p5, vi p6, vi kk, vi bb, vi x1, vi x2, vi (6 : Int32), vr a43, vr a44, vr a45, vi (Int32.ofNat n1), vi (Int32.ofNat n2), vi (Int32.ofNat m1), vi (Int32.ofNat m2), vi (Int32.ofNat o1), vi (Int32.ofNat o2), vu, vu] [xi (6 : Int32), xi (6 : Int32)]) _
    refine XS.icmpNo XP.here hx rfl (hb hby at_274) rfl (by decide) ?_
    show own_S p e below TP (mkF m 277 #[vi p1, vi p2, vi p3, vi p4, vi p5, vi p6, vi kk, vi bb, vi x1, vi x2, vi (6 : Int32), vr a43, vr a44, vr a45, vi (Int32.ofNat n1), vi (Int32.ofNat n2), vi (Int32.ofNat m1), vi (Int32.ofNat m2), vi (Int32.ofNat o1), vi (Int32.ofNat o2), vu, vu] []) _
    refine stC _ ?_
    refine XS.astore XC.here hx rfl (hb hby at_279) rfl rfl (l' := #[vi p1, vi p2, vi p3, vi p4, vi p5, vi p6, vi kk, vi bb, vi x1, vi x2, vi (6 : Int32), vr a43, vr a44, vr a45, vi (Int32.ofNat n1), vi (Int32.ofNat n2), vi (Int32.ofNat m1), vi (Int32.ofNat m2), vi (Int32.ofNat o1), vi (Int32.ofNat o2), vr al, vu]) rfl ?_
    refine XS.iconst XC.here hx rfl (hb hby at_281) ?_
    refine XS.istore XC.here hx rfl (hb hby at_282) rfl (l' := #[vi p1, vi p2, vi p3, vi p4, vi p5, vi p6, vi kk, vi bb, vi x1, vi x2, vi (6 : Int32), vr a43, vr a44, vr a45, vi (Int32.ofNat n1), vi (Int32.ofNat n2), vi (Int32.ofNat m1), vi (Int32.ofNat m2), vi (Int32.ofNat o1), vi (Int32.ofNat o2), vr al, vi (0 : Int32)]) rfl ?_
    show own_S p e below TC (mkF m 284 #[vi p1, vi p2, vi p3, vi p4, vi p5, vi p6, vi kk, vi bb, vi x1, vi x2, vi (6 : Int32), vr a43, vr a44, vr a45, vi (Int32.ofNat n1), vi (Int32.ofNat n2), vi (Int32.ofNat m1), vi (Int32.ofNat m2), vi (Int32.ofNat o1), vi (Int32.ofNat o2), vr al, vi (0 : Int32)] []) _
    refine XS.goto XC.here hx rfl (pc0 := 284) (pc' := 297) rfl (hb hby at_284) (by decide) (by decide) ?_
    refine XS.aload XC.here hx rfl (hb hby at_297) rfl rfl ?_
    show own_S p e below TC (mkF m 299 #[vi p1, vi p2, vi p3, vi p4, vi p5, vi p6, vi kk, vi bb, vi x1, vi x2, vi (6 : Int32), vr a43, vr a44, vr a45, vi (Int32.ofNat n1), vi (Int32.ofNat n2), vi (Int32.ofNat m1), vi (Int32.ofNat m2), vi (Int32.ofNat o1), vi (Int32.ofNat o2), vr al, vi (0 : Int32)] [xr al]) _
    refine st1 _ ?_
    refine XS.iload X1.here hx rfl (hb hby at_302) rfl ?_
    show own_S p e below T1 (mkF m 304 #[vi p1, vi p2, vi p3, vi p4, vi p5, vi p6, vi kk, vi bb, vi x1, vi x2, vi (6 : Int32), vr a43, vr a44, vr a45, vi (Int32.ofNat n1), vi (Int32.ofNat n2), vi (Int32.ofNat m1), vi (Int32.ofNat m2), vi (Int32.ofNat o1), vi (Int32.ofNat o2), vr al, vi (0 : Int32)] [xi (0 : Int32), xi (0 : Int32)]) _
    refine XS.icmpNo X1.here hx rfl (hb hby at_304) rfl (by decide) ?_
    refine XS.iconst X1.here hx rfl (hb hby at_307) ?_
    refine XS.goto X1.here hx rfl (pc0 := 308) (pc' := 312) rfl (hb hby at_308) (by decide) (by decide) ?_
    show own_S p e below T1 (mkF m 312 #[vi p1, vi p2, vi p3, vi p4, vi p5, vi p6, vi kk, vi bb, vi x1, vi x2, vi (6 : Int32), vr a43, vr a44, vr a45, vi (Int32.ofNat n1), vi (Int32.ofNat n2), vi (Int32.ofNat m1), vi (Int32.ofNat m2), vi (Int32.ofNat o1), vi (Int32.ofNat o2), vr al, vi (0 : Int32)] [xi (1 : Int32)]) _
    exact retN X1 hx (t := .boolean) Bd.returns (by simp) (hb hby at_312) hr
  · exact ⟨rfl, N1⟩
  · show CHr Z own_EL s.vm s.heap T1.vm T1.heap
    rw [hh, e1]; exact hq
theorem own_mask7 (x : Int32) : (x &&& (7 : Int32)) = (0 : Int32) ∨ (x &&& (7 : Int32)) = (1 : Int32) ∨ (x &&& (7 : Int32)) = (2 : Int32) ∨ (x &&& (7 : Int32)) = (3 : Int32) ∨ (x &&& (7 : Int32)) = (4 : Int32) ∨ (x &&& (7 : Int32)) = (5 : Int32) ∨ (x &&& (7 : Int32)) = (6 : Int32) ∨ (x &&& (7 : Int32)) = (7 : Int32) := by
  have h1 := c_mask x 7 3 (by decide) (by decide)
  have h3 : (x &&& (7 : Int32)).toInt = 0 ∨ (x &&& (7 : Int32)).toInt = 1 ∨ (x &&& (7 : Int32)).toInt = 2 ∨ (x &&& (7 : Int32)).toInt = 3 ∨ (x &&& (7 : Int32)).toInt = 4 ∨ (x &&& (7 : Int32)).toInt = 5 ∨ (x &&& (7 : Int32)).toInt = 6 ∨ (x &&& (7 : Int32)).toInt = 7 := by omega
  rcases h3 with h | h | h | h | h | h | h | h
  · exact Or.inl (Int32.toInt_inj.mp (h.trans (by decide)))
  · exact Or.inr <| Or.inl (Int32.toInt_inj.mp (h.trans (by decide)))
  · exact Or.inr <| Or.inr <| Or.inl (Int32.toInt_inj.mp (h.trans (by decide)))
  · exact Or.inr <| Or.inr <| Or.inr <| Or.inl (Int32.toInt_inj.mp (h.trans (by decide)))
  · exact Or.inr <| Or.inr <| Or.inr <| Or.inr <| Or.inl (Int32.toInt_inj.mp (h.trans (by decide)))
  · exact Or.inr <| Or.inr <| Or.inr <| Or.inr <| Or.inr <| Or.inl (Int32.toInt_inj.mp (h.trans (by decide)))
  · exact Or.inr <| Or.inr <| Or.inr <| Or.inr <| Or.inr <| Or.inr <| Or.inl (Int32.toInt_inj.mp (h.trans (by decide)))
  · exact Or.inr <| Or.inr <| Or.inr <| Or.inr <| Or.inr <| Or.inr <| Or.inr <| (Int32.toInt_inj.mp (h.trans (by decide)))
theorem own_rx36 (x : Int32) : ∃ n : Nat, n < 36 ∧ ((x &&& (2147483647 : Int32)) - ((x &&& (2147483647 : Int32)) / (36 : Int32)) * (36 : Int32)) = Int32.ofNat n := by
  have h0 := own_mask x
  have h1 := Jvm.LawKit.rem_toInt (x &&& (2147483647 : Int32)) (36 : Int32)
  have h2 : ((36 : Int32)).toInt = 36 := by decide
  rw [h2, Int.tmod_eq_emod_of_nonneg h0] at h1
  refine ⟨((x &&& (2147483647 : Int32)).toInt % 36).toNat, by omega, Int32.toInt_inj.mp ?_⟩
  rw [own_toInt (by omega), h1]; omega
theorem own_rx43 (x : Int32) : ∃ n : Nat, n < 43 ∧ ((x &&& (2147483647 : Int32)) - ((x &&& (2147483647 : Int32)) / (43 : Int32)) * (43 : Int32)) = Int32.ofNat n := by
  have h0 := own_mask x
  have h1 := Jvm.LawKit.rem_toInt (x &&& (2147483647 : Int32)) (43 : Int32)
  have h2 : ((43 : Int32)).toInt = 43 := by decide
  rw [h2, Int.tmod_eq_emod_of_nonneg h0] at h1
  refine ⟨((x &&& (2147483647 : Int32)).toInt % 43).toNat, by omega, Int32.toInt_inj.mp ?_⟩
  rw [own_toInt (by omega), h1]; omega
theorem own_rx44 (x : Int32) : ∃ n : Nat, n < 44 ∧ ((x &&& (2147483647 : Int32)) - ((x &&& (2147483647 : Int32)) / (44 : Int32)) * (44 : Int32)) = Int32.ofNat n := by
  have h0 := own_mask x
  have h1 := Jvm.LawKit.rem_toInt (x &&& (2147483647 : Int32)) (44 : Int32)
  have h2 : ((44 : Int32)).toInt = 44 := by decide
  rw [h2, Int.tmod_eq_emod_of_nonneg h0] at h1
  refine ⟨((x &&& (2147483647 : Int32)).toInt % 44).toNat, by omega, Int32.toInt_inj.mp ?_⟩
  rw [own_toInt (by omega), h1]; omega
theorem own_rx45 (x : Int32) : ∃ n : Nat, n < 45 ∧ ((x &&& (2147483647 : Int32)) - ((x &&& (2147483647 : Int32)) / (45 : Int32)) * (45 : Int32)) = Int32.ofNat n := by
  have h0 := own_mask x
  have h1 := Jvm.LawKit.rem_toInt (x &&& (2147483647 : Int32)) (45 : Int32)
  have h2 : ((45 : Int32)).toInt = 45 := by decide
  rw [h2, Int.tmod_eq_emod_of_nonneg h0] at h1
  refine ⟨((x &&& (2147483647 : Int32)).toInt % 45).toNat, by omega, Int32.toInt_inj.mp ?_⟩
  rw [own_toInt (by omega), h1]; omega
theorem own_bb : ∀ n : Nat, n < 36 → (if_icmp.holds .ge (Int32.ofNat n) (26 : Int32) = false ∧ own_ok (nar .char (((97 : Int32) + (Int32.ofNat n)).toUInt32.toUInt16.toUInt32.toInt32))) ∨ (if_icmp.holds .ge (Int32.ofNat n) (26 : Int32) = true ∧ own_ok (nar .char (((48 : Int32) + ((Int32.ofNat n) - (26 : Int32))).toUInt32.toUInt16.toUInt32.toInt32))) := by decide +kernel
theorem own_bbx (n : Nat) (h : n < 36) : ∃ bb, (((if_icmp.holds .ge (Int32.ofNat n) (26 : Int32) = false) ∧ ((((97 : Int32) + (Int32.ofNat n)).toUInt32.toUInt16.toUInt32.toInt32) = bb)) ∨ ((if_icmp.holds .ge (Int32.ofNat n) (26 : Int32) = true) ∧ ((((48 : Int32) + ((Int32.ofNat n) - (26 : Int32))).toUInt32.toUInt16.toUInt32.toInt32) = bb))) ∧ own_ok (nar .char bb) := by
  rcases own_bb n h with ⟨a, b⟩ | ⟨a, b⟩
  · exact ⟨_, Or.inl ⟨a, rfl⟩, b⟩
  · exact ⟨_, Or.inr ⟨a, rfl⟩, b⟩
theorem own_ff (P : Nat → Prop) (n : Nat) : (∀ j, j < n → P j) ∨ ∃ mm, mm < n ∧ ¬ P mm ∧ ∀ j, j < mm → P j := by
  induction n with
  | zero => exact Or.inl fun j h => absurd h (by omega)
  | succ n ih =>
    rcases ih with h | ⟨mm, h1, h2, h3⟩
    · by_cases q : P n
      · refine Or.inl fun j hj => ?_
        by_cases e : j = n
        · subst e; exact q
        · exact h j (by omega)
      · exact Or.inr ⟨n, by omega, q, h⟩
    · exact Or.inr ⟨mm, by omega, h2, h3⟩
theorem own_ncr (y : Int32) : 0 ≤ (nar .char y).toInt ∧ (nar .char y).toInt < 65536 := by
  have d := c_i2c y
  show 0 ≤ y.toUInt32.toUInt16.toUInt32.toInt32.toInt ∧ y.toUInt32.toUInt16.toUInt32.toInt32.toInt < 65536
  omega
theorem own_fnr (bb x1 x2 : Int32) (n1 n2 j : Nat) : 0 ≤ (own_fn bb x1 x2 n1 n2 j).toInt ∧ (own_fn bb x1 x2 n1 n2 j).toInt < 65536 := by
  unfold own_fn own_up
  by_cases h : j = n2
  · rw [if_pos h]; exact own_ncr _
  · rw [if_neg h]
    by_cases h' : j = n1
    · rw [if_pos h']; exact own_ncr _
    · rw [if_neg h']; exact own_ncr _
theorem own_both {bb x1 x2 : Int32} {n1 n2 : Nat} (q1 : own_ok (own_fn bb x1 x2 n1 n2 n1)) (q2 : own_ok (own_fn bb x1 x2 n1 n2 n2)) (hb : own_ok (nar .char bb)) (j : Nat) : own_ok (own_fn bb x1 x2 n1 n2 j) := by
  by_cases h : j = n2
  · rw [h]; exact q2
  · by_cases h' : j = n1
    · rw [h']; exact q1
    · have e : own_fn bb x1 x2 n1 n2 j = nar .char bb := by
        unfold own_fn own_up
        rw [if_neg h, if_neg h']
      rw [e]; exact hb
theorem own_le255 {x : Int32} (h : if_icmp.holds .le x (255 : Int32) = true) : x.toInt < 256 := by
  by_cases q : (255 : Int32) < x
  · rw [(tlt q).2.2.2] at h; cases h
  · rw [Int32.lt_iff_toInt_lt] at q; have : ((255 : Int32)).toInt = 255 := by decide
    omega
theorem own_bf {b : Bool} (h : ¬ b = true) : b = false := by cases b; rfl; exact absurd rfl h
theorem own_vdt {c : Int32} (h : own_ok c) : ifCond.holds .eq (own_vd c) = false := by rw [show own_vd c = 1 from if_pos h]; decide
theorem own_vdf {c : Int32} (h : ¬ own_ok c) : ifCond.holds .eq (own_vd c) = true := by rw [show own_vd c = 0 from if_neg h]; decide
theorem own_WF0 (l : Launch) (Z : State) (a0 : Array Value) (hw : ∀ d ∈ tables_1, d.before a0 Z = true) (hj : ∀ d ∈ jdkStatics_1, d.before a0 Z = true)  (ki0 : Int32) (vf0 : Value) (G : own_St Z hj ki0 vf0) (f : Nat → Int32) (n0 : Nat) (hch : ∀ j, j < 44 → 0 ≤ (f j).toInt ∧ (f j).toInt < 256) (t : Nat) (ht : t < 44) (hno : ¬ own_ok (f t)) : ∀ (sa b : Addr) (kd : ClassId) (h : Heap), Old Z n0 h → own_SS Z h sa b kd 44 (0 : Int32) (own_lat f) → own_MetW l Z Y28 prog_12_method_2_code 2 (some .boolean) ({ frames := 6, cells := 2, slots := 148, locals := 100 } : Room) #[xr sa] h (own_QL (some (xi (0 : Int32))) n0) := by
  rcases own_ff (fun j => own_ok (f j)) 44 with q | ⟨mm, h1, h2, h3⟩
  · exact absurd (q t ht) hno
  · rcases Nat.eq_zero_or_pos mm with e | hp
    · subst e
      exact fun sa b kd h O gS => own_wf0B l Z a0 hw hj ki0 vf0 G sa b kd f h n0 O gS hch h2
    · exact fun sa b kd h O gS => own_wf0C l Z a0 hw hj ki0 vf0 G sa b kd f mm h n0 O gS hch hp h1 h3 h2
theorem own_WF1 (l : Launch) (Z : State) (a0 : Array Value) (hw : ∀ d ∈ tables_1, d.before a0 Z = true) (hj : ∀ d ∈ jdkStatics_1, d.before a0 Z = true)  (ki0 : Int32) (vf0 : Value) (G : own_St Z hj ki0 vf0) (f : Nat → Int32) (n0 : Nat) (hch : ∀ j, j < 44 → 0 ≤ (f j).toInt ∧ (f j).toInt < 65536) (t : Nat) (ht : t < 44) (hno : ¬ own_ok (f t)) : ∀ (sa b : Addr) (kd : ClassId) (h : Heap), Old Z n0 h → own_SS Z h sa b kd (2 * 44) (1 : Int32) (own_u16 f) → own_MetW l Z Y28 prog_12_method_2_code 2 (some .boolean) ({ frames := 6, cells := 2, slots := 148, locals := 100 } : Room) #[xr sa] h (own_QL (some (xi (0 : Int32))) n0) := by
  rcases own_ff (fun j => own_ok (f j)) 44 with q | ⟨mm, h1, h2, h3⟩
  · exact absurd (q t ht) hno
  · rcases Nat.eq_zero_or_pos mm with e | hp
    · subst e
      exact fun sa b kd h O gS => own_wf1B l Z a0 hw hj ki0 vf0 G sa b kd f h n0 O gS hch h2
    · exact fun sa b kd h O gS => own_wf1C l Z a0 hw hj ki0 vf0 G sa b kd f mm h n0 O gS hch hp h1 h3 h2
set_option maxRecDepth 65536 in
set_option maxHeartbeats 4000000 in
theorem own_law (l : Launch) (Z : State) (a0 : Array Value) (hw : ∀ d ∈ tables_1, d.before a0 Z = true) (hj : ∀ d ∈ jdkStatics_1, d.before a0 Z = true)  (ki0 : Int32) (vf0 : Value) (G : own_St Z hj ki0 vf0) (p1 : Int32) (p2 : Int32) (p3 : Int32) (p4 : Int32) (p5 : Int32) (p6 : Int32) (h0 : Heap) (n0 : Nat) (O0 : Old Z n0 h0) : own_MetW l Z x code maxLocals ret room_1 #[xi p1, xi p2, xi p3, xi p4, xi p5, xi p6] h0 (own_QL (some (xi (1 : Int32))) n0) := by
  obtain ⟨k0, hk0, ek⟩ := own_rx36 p6
  obtain ⟨n1, hn1, en1⟩ := own_rx44 p2
  obtain ⟨n2, hn2, en2⟩ := own_rx44 p4
  obtain ⟨m1, hm1, em1⟩ := own_rx43 p2
  obtain ⟨m2, hm2, em2⟩ := own_rx43 p4
  obtain ⟨o1, ho1, eo1⟩ := own_rx45 p2
  obtain ⟨o2, ho2, eo2⟩ := own_rx45 p4
  obtain ⟨bb, hcase, hbok⟩ := own_bbx k0 hk0
  obtain ⟨x1, ex1⟩ : ∃ z, ((p3 &&& (65535 : Int32)).toUInt32.toUInt16.toUInt32.toInt32) = z := ⟨_, rfl⟩
  obtain ⟨x2, ex2⟩ : ∃ z, ((p5 &&& (65535 : Int32)).toUInt32.toUInt16.toUInt32.toInt32) = z := ⟨_, rfl⟩
  have K3 : if_icmp.holds .gt (p1 &&& (7 : Int32)) (3 : Int32) = false → own_MetW l Z x code maxLocals ret room_1 #[xi p1, xi p2, xi p3, xi p4, xi p5, xi p6] h0 (own_QL (some (xi (1 : Int32))) n0) := by
    intro hs
    rcases own_ff (fun j => if_icmp.holds .le ((own_fn bb x1 x2 n1 n2) j) (255 : Int32) = true) 44 with hall | ⟨mm, hlt, hgt0, hall⟩
    · have hch : ∀ j, j < 44 → 0 ≤ ((own_fn bb x1 x2 n1 n2) j).toInt ∧ ((own_fn bb x1 x2 n1 n2) j).toInt < 256 := fun j h => ⟨(own_fnr bb x1 x2 n1 n2 j).1, own_le255 (hall j h)⟩
      by_cases q1 : own_ok ((own_fn bb x1 x2 n1 n2) n1)
      · by_cases q2 : own_ok ((own_fn bb x1 x2 n1 n2) n2)
        · exact own_law3_0tt l Z a0 hw hj ki0 vf0 G p1 p2 p3 p4 p5 p6 (Int32.ofNat k0) bb x1 x2 n1 n2 m1 m2 o1 o2 hs h0 n0 O0 hcase ek ex1 ex2 en1 en2 em1 em2 eo1 eo2 hn1 hn2 hm1 hm2 ho1 ho2 hall (own_vdt q1) (own_vdt q2) (fun sa b kd h O gS => own_wf0A l Z a0 hw hj ki0 vf0 G sa b kd (own_fn bb x1 x2 n1 n2) h n0 O gS hch (fun j _ => own_both q1 q2 hbok j))
        · exact own_law3_0tf l Z a0 hw hj ki0 vf0 G p1 p2 p3 p4 p5 p6 (Int32.ofNat k0) bb x1 x2 n1 n2 m1 m2 o1 o2 hs h0 n0 O0 hcase ek ex1 ex2 en1 en2 em1 em2 eo1 eo2 hn1 hn2 hm1 hm2 ho1 ho2 hall (own_vdt q1) (own_vdf q2) (own_WF0 l Z a0 hw hj ki0 vf0 G (own_fn bb x1 x2 n1 n2) n0 hch n2 hn2 q2)
      · exact own_law3_0f l Z a0 hw hj ki0 vf0 G p1 p2 p3 p4 p5 p6 (Int32.ofNat k0) bb x1 x2 n1 n2 m1 m2 o1 o2 hs h0 n0 O0 hcase ek ex1 ex2 en1 en2 em1 em2 eo1 eo2 hn1 hn2 hm1 hm2 ho1 ho2 hall (own_vdf q1) (own_WF0 l Z a0 hw hj ki0 vf0 G (own_fn bb x1 x2 n1 n2) n0 hch n1 hn1 q1)
    · have hgt := own_bf hgt0
      have hch : ∀ j, j < 44 → 0 ≤ ((own_fn bb x1 x2 n1 n2) j).toInt ∧ ((own_fn bb x1 x2 n1 n2) j).toInt < 65536 := fun j _ => own_fnr bb x1 x2 n1 n2 j
      by_cases q1 : own_ok ((own_fn bb x1 x2 n1 n2) n1)
      · have q2 : ¬ own_ok ((own_fn bb x1 x2 n1 n2) n2) := fun q2 => own_big (own_gt_of hgt) (own_both q1 q2 hbok mm)
        exact own_law3_1tf l Z a0 hw hj ki0 vf0 G p1 p2 p3 p4 p5 p6 (Int32.ofNat k0) bb x1 x2 n1 n2 m1 m2 o1 o2 hs h0 n0 O0 hcase ek ex1 ex2 en1 en2 em1 em2 eo1 eo2 hn1 hn2 hm1 hm2 ho1 ho2 mm hch hlt hgt hall (own_vdt q1) (own_vdf q2) (own_WF1 l Z a0 hw hj ki0 vf0 G (own_fn bb x1 x2 n1 n2) n0 hch n2 hn2 q2)
      · exact own_law3_1f l Z a0 hw hj ki0 vf0 G p1 p2 p3 p4 p5 p6 (Int32.ofNat k0) bb x1 x2 n1 n2 m1 m2 o1 o2 hs h0 n0 O0 hcase ek ex1 ex2 en1 en2 em1 em2 eo1 eo2 hn1 hn2 hm1 hm2 ho1 ho2 mm hch hlt hgt hall (own_vdf q1) (own_WF1 l Z a0 hw hj ki0 vf0 G (own_fn bb x1 x2 n1 n2) n0 hch n1 hn1 q1)
  rcases own_mask7 p1 with hs | hs | hs | hs | hs | hs | hs | hs
  · exact K3 (by rw [hs]; decide)
  · exact K3 (by rw [hs]; decide)
  · exact K3 (by rw [hs]; decide)
  · exact K3 (by rw [hs]; decide)
  · rcases own_ff (fun j => if_icmp.holds .le ((own_fn bb x1 x2 m1 m2) j) (255 : Int32) = true) 43 with hall | ⟨mm, hlt, hgt0, hall⟩
    · exact own_law4_0 l Z a0 hw hj ki0 vf0 G p1 p2 p3 p4 p5 p6 (Int32.ofNat k0) bb x1 x2 n1 n2 m1 m2 o1 o2 hs h0 n0 O0 hcase ek ex1 ex2 en1 en2 em1 em2 eo1 eo2 hn1 hn2 hm1 hm2 ho1 ho2 hall
    · exact own_law4_1 l Z a0 hw hj ki0 vf0 G p1 p2 p3 p4 p5 p6 (Int32.ofNat k0) bb x1 x2 n1 n2 m1 m2 o1 o2 hs h0 n0 O0 hcase ek ex1 ex2 en1 en2 em1 em2 eo1 eo2 hn1 hn2 hm1 hm2 ho1 ho2 mm (fun j _ => own_fnr bb x1 x2 m1 m2 j) hlt (own_bf hgt0) hall
  · rcases own_ff (fun j => if_icmp.holds .le ((own_fn bb x1 x2 o1 o2) j) (255 : Int32) = true) 45 with hall | ⟨mm, hlt, hgt0, hall⟩
    · exact own_law5_0 l Z a0 hw hj ki0 vf0 G p1 p2 p3 p4 p5 p6 (Int32.ofNat k0) bb x1 x2 n1 n2 m1 m2 o1 o2 hs h0 n0 O0 hcase ek ex1 ex2 en1 en2 em1 em2 eo1 eo2 hn1 hn2 hm1 hm2 ho1 ho2 hall
    · exact own_law5_1 l Z a0 hw hj ki0 vf0 G p1 p2 p3 p4 p5 p6 (Int32.ofNat k0) bb x1 x2 n1 n2 m1 m2 o1 o2 hs h0 n0 O0 hcase ek ex1 ex2 en1 en2 em1 em2 eo1 eo2 hn1 hn2 hm1 hm2 ho1 ho2 mm (fun j _ => own_fnr bb x1 x2 o1 o2 j) hlt (own_bf hgt0) hall
  · exact own_law6 l Z a0 hw hj ki0 vf0 G p1 p2 p3 p4 p5 p6 (Int32.ofNat k0) bb x1 x2 n1 n2 m1 m2 o1 o2 hs h0 n0 O0 hcase ek ex1 ex2 en1 en2 em1 em2 eo1 eo2 hn1 hn2 hm1 hm2 ho1 ho2 
  · by_cases hx1 : if_icmp.holds .gt x1 (255 : Int32) = true
    · exact own_law7_1 l Z a0 hw hj ki0 vf0 G p1 p2 p3 p4 p5 p6 (Int32.ofNat k0) bb x1 x2 n1 n2 m1 m2 o1 o2 hs h0 n0 O0 hcase ek ex1 ex2 en1 en2 em1 em2 eo1 eo2 hn1 hn2 hm1 hm2 ho1 ho2 hx1
    · exact own_law7_0 l Z a0 hw hj ki0 vf0 G p1 p2 p3 p4 p5 p6 (Int32.ofNat k0) bb x1 x2 n1 n2 m1 m2 o1 o2 hs h0 n0 O0 hcase ek ex1 ex2 en1 en2 em1 em2 eo1 eo2 hn1 hn2 hm1 hm2 ho1 ho2 (own_bf hx1)
set_option maxRecDepth 65536 in
set_option maxHeartbeats 40000000 in
theorem comes_1 {Post : Tables → Env → Array Value → State → Outcome → State → Prop} (hpost : ∀ tb e args s v u, (limb_1_1.after args s (.returned v) u = true ∧ limb_1_2.after args s (.returned v) u = true ∧ True) → Jvm.D.FramedW s (.returned v) u (Jvm.fieldLocs frame_1_writes args s ++ Jvm.arrayLocs frame_1_arrays args s ++ Jvm.staticLocs frame_1_statics s) 24 2688 → Post tb e args s (.returned v) u) :
    ArmFor flags0 classFile x code maxLocals ret World_1 tables_1 room_1 Calls_1 rest_1 Pre_1 Post := by
  intro l hfl _ _ p e ha hc hk s m args below hf hA hF happ hP
  obtain ⟨hcalls, hrest, hpre⟩ := hP
  obtain ⟨-, -, -, hnamed, -, -, -, hat⟩ := (Spec.applies_iff hf).mp happ
  obtain ⟨hg, hn⟩ := and_e (Cond.before_iff.mp (show (Jvm.Cond.and given_1 narrow_1).before args s = true from hpre))
  obtain ⟨hcount, hg0⟩ := and_e hg
  obtain ⟨ga0, hg1⟩ := and_e hg0
  obtain ⟨ga1, hg2⟩ := and_e hg1
  obtain ⟨ga2, hg3⟩ := and_e hg2
  obtain ⟨ga3, hg4⟩ := and_e hg3
  obtain ⟨ga4, hg5⟩ := and_e hg4
  have ga5 := hg5
  obtain ⟨w0, w1, w2, w3, w4, w5, rfl⟩ : ∃ w0 w1 w2 w3 w4 w5 : Value, args = #[w0, w1, w2, w3, w4, w5] := by
    have hs : args.size = 6 := by simpa [Cond.value, given_1] using hcount
    obtain ⟨L⟩ := args
    match L, hs with
    | [w0, w1, w2, w3, w4, w5], _ => exact ⟨w0, w1, w2, w3, w4, w5, rfl⟩
  have hw := fun d (hd : d ∈ tables_1) => atoms_spec (ws := Jvm.Cond.code x code maxLocals ret :: tables_1) hat d (List.mem_cons_of_mem _ hd)
  have hfit : Fit s := fun {y c} hc i hi => by
    obtain ⟨ha, rfl⟩ := Array.getElem?_eq_some_iff.mp hc
    have q := List.all_eq_true.mp ((Array.all_eq_true_iff_forall_mem.mp hF) _ (Array.getElem_mem ha)) i (List.mem_range.mpr hi)
    simpa [Array.getElem?_eq_getElem hi] using q
  obtain ⟨p1, ei0⟩ := is_v ga0
  obtain rfl : w0 = (.int p1) := Option.some.inj ei0
  obtain ⟨p2, ei1⟩ := is_v ga1
  obtain rfl : w1 = (.int p2) := Option.some.inj ei1
  obtain ⟨p3, ei2⟩ := is_v ga2
  obtain rfl : w2 = (.int p3) := Option.some.inj ei2
  obtain ⟨p4, ei3⟩ := is_v ga3
  obtain rfl : w3 = (.int p4) := Option.some.inj ei3
  obtain ⟨p5, ei4⟩ := is_v ga4
  obtain rfl : w4 = (.int p5) := Option.some.inj ei4
  obtain ⟨p6, ei5⟩ := is_v ga5
  obtain rfl : w5 = (.int p6) := Option.some.inj ei5
  obtain ⟨hsets, hown0⟩ := atoms_of _ (rest_1_c_eq ▸ (show rest_1_c.before _ s = true from hrest))
  have hj := hsets
  obtain ⟨ki0, ev_ki0⟩ := is_v (Cond.before_iff.mp (hsets _ (List.mem_of_getElem? (i := 1) rfl)))
  have pS_ki0 : Sta s s.heap "java/lang/String" "COMPACT_STRINGS" "Z" (.int ki0) := Sta.start ev_ki0 (Or.inl (wj hj 0 rfl))
  have pnz_ki0 : ¬ ki0 = (0 : Int32) := gotF (Cond.eq_ints ev_ki0 (Term.int_eval (0))) (not_v (Cond.before_iff.mp (hsets _ (List.mem_of_getElem? (i := 2) rfl))))
  obtain ⟨vf0, ev_vf0, pR_vf0⟩ := isR_v (Cond.before_iff.mp (hsets _ (List.mem_of_getElem? (i := 8) rfl)))
  have pS_vf0 := Sta.start ev_vf0 (Or.inl (wj hj 7 rfl))
  obtain ⟨vv_ke0, ev_ke0, pq_ke0⟩ := own_seq (Cond.before_iff.mp (hsets _ (List.mem_of_getElem? (i := 12) rfl)))
  subst pq_ke0
  have pS_ke0 := Sta.start ev_ke0 (Or.inl (wj hj 11 rfl))
  obtain ⟨vv_ke1, ev_ke1, pq_ke1⟩ := own_seq (Cond.before_iff.mp (hsets _ (List.mem_of_getElem? (i := 15) rfl)))
  subst pq_ke1
  have pS_ke1 := Sta.start ev_ke1 (Or.inl (wj hj 14 rfl))
  obtain ⟨vv_ke2, ev_ke2, pq_ke2⟩ := own_seq (Cond.before_iff.mp (hsets _ (List.mem_of_getElem? (i := 18) rfl)))
  subst pq_ke2
  have pS_ke2 := Sta.start ev_ke2 (Or.inl (wj hj 17 rfl))
  have G : own_St s hj ki0 vf0 := ⟨pS_ki0, pnz_ki0, pS_vf0, pR_vf0, pS_ke0, pS_ke1, pS_ke2⟩
  have hCHs : CHv s own_EL s.vm s.heap := CHv.start (own_EW hw) (fun q hq => hcalls.1 q hq) (wj hj 2 rfl) (ww hw 31 rfl) (ww hw 14 rfl)
  obtain ⟨n, o, h1, h2, h3, _, L, rfl, ⟨rfl, N⟩, hCr, hq⟩ := own_law l s _ hw hj ki0 vf0 G p1 p2 p3 p4 p5 p6 s.heap s.heap.size (Old.start s) tables_1 p e ha hc hk s m _ below hf ((Spec.applies_iff_loose hf).mp happ).1 ⟨rfl, State.Warmed39.refl s, rfl, hCHs⟩ trivial
  refine ⟨n, _, h1, h2, h3, hpost _ _ _ _ _ _ ⟨Cond.after_iff.mpr rfl, Cond.after_iff.mpr (eq_i res_at (Term.int_eval (1)) rfl), trivial⟩ ⟨hq.1, hq.2.1, hq.2.2.1, (hq.2.2.2.sift fun y hy => Or.inr (N y hy)).mono (by decide) (by decide)⟩⟩
theorem main_1_1 : Claimed_1_1 := comes_1 fun _ _ _ _ _ _ h hF => ⟨h.1, hF⟩
theorem main_1_2 : Claimed_1_2 := comes_1 fun _ _ _ _ _ _ h hF => ⟨h.2.1, hF⟩
end Jvm.Pilot.@@N@@
namespace Jvm.Pilot.@@N@@
open Jvm Jvm.ClassFile Sem Op Lib Jvm.Free Jvm.Stand Jvm.Pilot.@@N@@.Jvm.D
/-! MADE BY PROGRAM (witnessworld.py) out of the Statement's table words and the real class files: 22 classes; the members and pool entries that the words name. The judged class is class 1, her method 5. -/
namespace start1
open Jvm.ClassFile
def u (s : String) : CpInfo := .utf8 (stringToUtf16 s)
/-- a pool by its gaps: so many unusable entries, then the entry; so many at the end -/
def gap : Nat → List CpInfo → List CpInfo
  | 0, r => r
  | n + 1, r => .unusable :: gap n r
def poolList (es : List (Nat × CpInfo)) (last : Nat) : List CpInfo := es.foldr (fun e r => gap e.1 (e.2 :: r)) (gap last [])
def pool (es : List (Nat × CpInfo)) (last : Nat) : Array CpInfo := ⟨poolList es last⟩
def fileOf (pool : Array CpInfo) (this : Nat) (attrs : Array Attribute := #[]) (ms : Array MethodInfo := #[]) (fl : Nat := 33) (sup : Nat := 0) (ifs : Array Nat := #[]) (fds : Array FieldInfo := #[]) : ClassFile where
  minorVersion := 0
  majorVersion := 65
  constantPool := pool
  accessFlags := fl
  thisClass := this
  superClass := sup
  interfaces := ifs
  fields := fds
  methods := ms
  attributes := attrs
def plain (name : String) (sup : Option ClassId) : Class where
  name := name
  kind := .ordinary
  loader := none
  accessFlags := 33
  super := sup
  interfaces := #[]
  cf := none
  fields := #[]
  methods := #[]
  instanceTypes := #[]
  staticTypes := #[]
  resolved := #[]
  callSites := []
  init := .initialized
  statics := none
  mirror := none

def pool0 : Array CpInfo := pool [(5, u "<init>"), (0, u "()V"), (1, .class_ 10), (1, u "java/lang/Object")] 113

def k0c0 : Code := { maxStack := 0, maxLocals := 1, code := object_method_1_code, exceptionTable := #[], attributes := #[] }
def k0m0 : Method := { name := "<init>", desc := "()V", sig := { parameters := [], returnType := none }, accessFlags := 1, code := some k0c0 }
/-- java/lang/Object -/
def k0 : Class := { plain "java/lang/Object" none with
  accessFlags := 33
  interfaces := #[]
  cf := some (fileOf pool0 8 #[] #[{ accessFlags := 1, nameIndex := 5, descriptorIndex := 6, attributes := #[] }] 33 0 #[] #[])
  fields := #[]
  methods := #[k0m0]
  instanceTypes := #[]
  staticTypes := #[]
  resolved := Array.replicate 124 none
  statics := none }

def pool1 : Array CpInfo := pool [(2, .class_ 4), (1, u "java/lang/Object"), (0, u "<init>"), (0, u "()V"), (0, .integer 2147483647), (0, .integer 65535), (0, .methodref 10 11), (0, .class_ 12), (0, .nameAndType 13 14), (0, u "com/example/scopelock/scopelock/KeyWellFormedPinLaw"), (0, u "filled43"), (0, u "(C)[C"), (0, .methodref 10 16), (0, .nameAndType 17 14), (0, u "filled44"), (0, .methodref 10 19), (0, .nameAndType 20 14), (0, u "filled45"), (0, .class_ 22), (0, u "java/lang/String"), (0, .methodref 21 24), (0, .nameAndType 5 25), (0, u "([C)V"), (0, .methodref 10 27), (0, .nameAndType 28 29), (0, u "valid"), (0, u "(C)Z"), (0, .string 31), (0, u ""), (0, .methodref 21 33), (0, .nameAndType 34 35), (0, u "valueOf"), (0, u "(C)Ljava/lang/String;"), (0, .methodref 37 38), (0, .class_ 39), (0, .nameAndType 40 41), (0, u "com/example/scopelock/scopelock/Key"), (0, u "wellFormed"), (0, u "(Ljava/lang/String;)Z"), (3, u "law"), (0, u "(IIIIII)Z")] 4

def k1m0 : Method := { name := "<init>", desc := "()V", sig := { parameters := [], returnType := none }, accessFlags := 1, code := none }
def k1c1 : Code := { maxStack := 2, maxLocals := 1, code := method_2_code, exceptionTable := #[], attributes := #[] }
def k1m1 : Method := { name := "valid", desc := "(C)Z", sig := { parameters := [.char], returnType := some .boolean }, accessFlags := 10, code := some k1c1 }
def k1c2 : Code := { maxStack := 4, maxLocals := 1, code := method_3_code, exceptionTable := #[], attributes := #[] }
def k1m2 : Method := { name := "filled43", desc := "(C)[C", sig := { parameters := [.char], returnType := some (.array .char) }, accessFlags := 10, code := some k1c2 }
def k1c3 : Code := { maxStack := 4, maxLocals := 1, code := method_4_code, exceptionTable := #[], attributes := #[] }
def k1m3 : Method := { name := "filled44", desc := "(C)[C", sig := { parameters := [.char], returnType := some (.array .char) }, accessFlags := 10, code := some k1c3 }
def k1c4 : Code := { maxStack := 4, maxLocals := 1, code := method_5_code, exceptionTable := #[], attributes := #[] }
def k1m4 : Method := { name := "filled45", desc := "(C)[C", sig := { parameters := [.char], returnType := some (.array .char) }, accessFlags := 10, code := some k1c4 }
def k1c5 : Code := { maxStack := 3, maxLocals := 22, code := code, exceptionTable := #[], attributes := #[] }
def k1m5 : Method := { name := "law", desc := "(IIIIII)Z", sig := { parameters := [.int, .int, .int, .int, .int, .int], returnType := some .boolean }, accessFlags := 9, code := some k1c5 }
/-- com/example/scopelock/scopelock/KeyWellFormedPinLaw -/
def k1 : Class := { plain "com/example/scopelock/scopelock/KeyWellFormedPinLaw" (some 0) with
  accessFlags := 49
  interfaces := #[]
  cf := some (fileOf pool1 10 #[] #[{ accessFlags := 1, nameIndex := 5, descriptorIndex := 6, attributes := #[] }, { accessFlags := 10, nameIndex := 28, descriptorIndex := 29, attributes := #[] }, { accessFlags := 10, nameIndex := 13, descriptorIndex := 14, attributes := #[] }, { accessFlags := 10, nameIndex := 17, descriptorIndex := 14, attributes := #[] }, { accessFlags := 10, nameIndex := 20, descriptorIndex := 14, attributes := #[] }, { accessFlags := 9, nameIndex := 45, descriptorIndex := 46, attributes := #[] }] 49 2 #[] #[])
  fields := #[]
  methods := #[k1m0, k1m1, k1m2, k1m3, k1m4, k1m5]
  instanceTypes := #[]
  staticTypes := #[]
  resolved := Array.replicate 51 none
  statics := none }

def pool2 : Array CpInfo := pool [(1, .class_ 2), (0, u "java/io/Serializable"), (0, .class_ 4), (0, u "java/lang/Object")] 2

/-- java/io/Serializable -/
def k2 : Class := { plain "java/io/Serializable" (some 0) with
  accessFlags := 1537
  interfaces := #[]
  cf := some (fileOf pool2 1 #[] #[] 1537 3 #[] #[])
  fields := #[]
  methods := #[]
  instanceTypes := #[]
  staticTypes := #[]
  resolved := Array.replicate 7 none
  statics := none }

def pool3 : Array CpInfo := pool [(1, .class_ 2), (0, u "java/lang/Comparable"), (0, .class_ 4), (0, u "java/lang/Object")] 7

/-- java/lang/Comparable -/
def k3 : Class := { plain "java/lang/Comparable" (some 0) with
  accessFlags := 1537
  interfaces := #[]
  cf := some (fileOf pool3 1 #[] #[] 1537 3 #[] #[])
  fields := #[]
  methods := #[]
  instanceTypes := #[]
  staticTypes := #[]
  resolved := Array.replicate 12 none
  statics := none }

def pool4 : Array CpInfo := pool [(2, .class_ 4), (1, u "java/lang/CharSequence"), (42, .class_ 48), (0, u "java/lang/CharSequence$1CodePointIterator"), (10, .class_ 60), (0, u "java/lang/CharSequence$1CharIterator"), (5, .class_ 67), (0, u "java/lang/Object")] 63

/-- java/lang/CharSequence -/
def k4 : Class := { plain "java/lang/CharSequence" (some 0) with
  accessFlags := 1537
  interfaces := #[]
  cf := some (fileOf pool4 2 #[.nestMembers #[47, 59]] #[] 1537 66 #[] #[])
  fields := #[]
  methods := #[]
  instanceTypes := #[]
  staticTypes := #[]
  resolved := Array.replicate 131 none
  statics := none }

def pool5 : Array CpInfo := pool [(1, .class_ 2), (0, u "java/lang/constant/Constable"), (0, .class_ 4), (0, u "java/lang/Object")] 6

/-- java/lang/constant/Constable -/
def k5 : Class := { plain "java/lang/constant/Constable" (some 0) with
  accessFlags := 1537
  interfaces := #[]
  cf := some (fileOf pool5 1 #[] #[] 1537 3 #[] #[])
  fields := #[]
  methods := #[]
  instanceTypes := #[]
  staticTypes := #[]
  resolved := Array.replicate 11 none
  statics := none }

def pool6 : Array CpInfo := pool [(1, .class_ 2), (0, u "java/lang/constant/ConstantDesc"), (0, .class_ 4), (0, u "java/lang/Object")] 32

/-- java/lang/constant/ConstantDesc -/
def k6 : Class := { plain "java/lang/constant/ConstantDesc" (some 0) with
  accessFlags := 1537
  interfaces := #[]
  cf := some (fileOf pool6 1 #[] #[] 1537 3 #[] #[])
  fields := #[]
  methods := #[]
  instanceTypes := #[]
  staticTypes := #[]
  resolved := Array.replicate 37 none
  statics := none }

def pool7 : Array CpInfo := pool [(1, .methodref 2 3), (0, .class_ 4), (0, .nameAndType 5 6), (0, u "java/lang/Object"), (0, u "<init>"), (0, u "()V"), (2, .fieldref 10 11), (0, .class_ 12), (0, .nameAndType 13 14), (0, u "java/lang/String"), (0, u "value"), (0, u "[B"), (0, .fieldref 10 16), (0, .nameAndType 17 18), (0, u "coder"), (0, u "B"), (2, u "hash"), (0, u "I"), (2, u "hashIsZero"), (0, u "Z"), (0, .methodref 10 28), (0, .nameAndType 5 29), (0, u "([CIILjava/lang/Void;)V"), (8, .fieldref 10 39), (0, .nameAndType 40 26), (0, u "COMPACT_STRINGS"), (1, .class_ 44), (1, u "java/lang/StringUTF16"), (0, u "compress"), (1, .methodref 42 48), (0, .nameAndType 49 50), (0, u "coderFromArrayLen"), (0, u "([BI)B"), (2, u "toBytes"), (53, .class_ 109), (1, u "java/lang/StringLatin1"), (32, u "()Z"), (34, .methodref 42 178), (0, .nameAndType 45 179), (0, u "([CII)[B"), (29, .methodref 10 210), (0, .nameAndType 5 211), (0, u "([BB)V"), (122, u "()I"), (0, .methodref 10 336), (0, .nameAndType 17 337), (0, u "()B"), (25, u "([BI)C"), (5, u "(C)Z"), (21, u "(II)V"), (35, u "(I)C"), (64, .methodref 10 493), (0, .nameAndType 494 142), (0, u "isLatin1"), (0, .methodref 107 496), (0, .nameAndType 497 363), (0, u "charAt"), (0, .methodref 42 496), (2, u "checkIndex"), (3, .methodref 10 506), (0, .nameAndType 507 334), (0, u "length"), (67, .class_ 576), (0, u "java/lang/CharSequence"), (22, u "CASE_INSENSITIVE_ORDER"), (0, u "Ljava/util/Comparator;"), (32, .methodref 10 634), (0, .nameAndType 635 636), (0, u "indexOf"), (0, u "(II)I"), (0, .methodref 107 638), (0, .nameAndType 635 639), (0, u "([BIII)I"), (125, u "(I)I"), (16, u "valueOf"), (0, u "(C)Ljava/lang/String;"), (226, u "([C)V"), (4, .methodref 107 1016), (0, .nameAndType 1017 369), (0, u "canEncode"), (0, .methodref 107 1019), (0, .nameAndType 53 1020), (0, u "(C)[B"), (0, .methodref 42 1019), (31, .fieldref 1054 1055), (0, .class_ 1056), (0, .nameAndType 1057 1058), (0, u "jdk/internal/util/Preconditions"), (0, u "SIOOBE_FORMATTER"), (0, u "Ljava/util/function/BiFunction;"), (0, .methodref 1054 1060), (0, .nameAndType 501 1061), (0, u "(IILjava/util/function/BiFunction;)I"), (39, u "serialPersistentFields"), (0, u "[Ljava/io/ObjectStreamField;"), (0, .class_ 1104), (0, u "java/lang/String$CaseInsensitiveComparator"), (1, .class_ 1107), (0, u "java/io/Serializable"), (0, .class_ 1109), (0, u "java/lang/Comparable"), (0, .class_ 1111), (0, u "java/lang/constant/Constable"), (0, .class_ 1113), (0, u "java/lang/constant/ConstantDesc"), (2, u "serialVersionUID"), (0, u "J"), (3, u "REPL"), (0, u "C"), (2, u "LATIN1"), (1, u "UTF16")] 323

def k7m0 : Method := { name := "<init>", desc := "()V", sig := { parameters := [], returnType := none }, accessFlags := 1, code := none }
def k7c1 : Code := { maxStack := 5, maxLocals := 2, code := jdk_42_method_3_code, exceptionTable := #[], attributes := #[] }
def k7m1 : Method := { name := "<init>", desc := "([C)V", sig := { parameters := [(.array .char)], returnType := none }, accessFlags := 1, code := some k7c1 }
def k7c2 : Code := { maxStack := 2, maxLocals := 1, code := jdk_42_method_54_code, exceptionTable := #[], attributes := #[] }
def k7m2 : Method := { name := "length", desc := "()I", sig := { parameters := [], returnType := some .int }, accessFlags := 1, code := some k7c2 }
def k7c3 : Code := { maxStack := 2, maxLocals := 2, code := jdk_42_method_56_code, exceptionTable := #[], attributes := #[] }
def k7m3 : Method := { name := "charAt", desc := "(I)C", sig := { parameters := [.int], returnType := some .char }, accessFlags := 1, code := some k7c3 }
def k7c4 : Code := { maxStack := 3, maxLocals := 2, code := jdk_42_method_79_code, exceptionTable := #[], attributes := #[] }
def k7m4 : Method := { name := "indexOf", desc := "(I)I", sig := { parameters := [.int], returnType := some .int }, accessFlags := 1, code := some k7c4 }
def k7c5 : Code := { maxStack := 4, maxLocals := 3, code := jdk_42_method_80_code, exceptionTable := #[], attributes := #[] }
def k7m5 : Method := { name := "indexOf", desc := "(II)I", sig := { parameters := [.int, .int], returnType := some .int }, accessFlags := 1, code := some k7c5 }
def k7c6 : Code := { maxStack := 4, maxLocals := 1, code := jdk_42_method_139_code, exceptionTable := #[], attributes := #[] }
def k7m6 : Method := { name := "valueOf", desc := "(C)Ljava/lang/String;", sig := { parameters := [.char], returnType := some (.object "java/lang/String") }, accessFlags := 9, code := some k7c6 }
def k7c7 : Code := { maxStack := 4, maxLocals := 6, code := jdk_42_method_149_code, exceptionTable := #[], attributes := #[] }
def k7m7 : Method := { name := "<init>", desc := "([CIILjava/lang/Void;)V", sig := { parameters := [(.array .char), .int, .int, (.object "java/lang/Void")], returnType := none }, accessFlags := 2, code := some k7c7 }
def k7c8 : Code := { maxStack := 2, maxLocals := 3, code := jdk_42_method_151_code, exceptionTable := #[], attributes := #[] }
def k7m8 : Method := { name := "<init>", desc := "([BB)V", sig := { parameters := [(.array .byte), .byte], returnType := none }, accessFlags := 0, code := some k7c8 }
def k7c9 : Code := { maxStack := 1, maxLocals := 1, code := jdk_42_method_152_code, exceptionTable := #[], attributes := #[] }
def k7m9 : Method := { name := "coder", desc := "()B", sig := { parameters := [], returnType := some .byte }, accessFlags := 0, code := some k7c9 }
def k7c10 : Code := { maxStack := 1, maxLocals := 1, code := jdk_42_method_154_code, exceptionTable := #[], attributes := #[] }
def k7m10 : Method := { name := "isLatin1", desc := "()Z", sig := { parameters := [], returnType := some .boolean }, accessFlags := 0, code := some k7c10 }
def k7c11 : Code := { maxStack := 3, maxLocals := 2, code := jdk_42_method_155_code, exceptionTable := #[], attributes := #[] }
def k7m11 : Method := { name := "checkIndex", desc := "(II)V", sig := { parameters := [.int, .int], returnType := none }, accessFlags := 8, code := some k7c11 }
/-- java/lang/String -/
def k7 : Class := { plain "java/lang/String" (some 0) with
  accessFlags := 49
  interfaces := #[2, 3, 4, 5, 6]
  cf := some (fileOf pool7 10 #[.nestMembers #[1103]] #[{ accessFlags := 1, nameIndex := 5, descriptorIndex := 6, attributes := #[] }, { accessFlags := 1, nameIndex := 5, descriptorIndex := 1010, attributes := #[] }, { accessFlags := 1, nameIndex := 507, descriptorIndex := 334, attributes := #[] }, { accessFlags := 1, nameIndex := 497, descriptorIndex := 427, attributes := #[] }, { accessFlags := 1, nameIndex := 635, descriptorIndex := 765, attributes := #[] }, { accessFlags := 1, nameIndex := 635, descriptorIndex := 636, attributes := #[] }, { accessFlags := 9, nameIndex := 782, descriptorIndex := 783, attributes := #[] }, { accessFlags := 2, nameIndex := 5, descriptorIndex := 29, attributes := #[] }, { accessFlags := 0, nameIndex := 5, descriptorIndex := 211, attributes := #[] }, { accessFlags := 0, nameIndex := 17, descriptorIndex := 337, attributes := #[] }, { accessFlags := 0, nameIndex := 494, descriptorIndex := 142, attributes := #[] }, { accessFlags := 8, nameIndex := 501, descriptorIndex := 391, attributes := #[] }] 49 2 #[1106, 1108, 575, 1110, 1112] #[{ accessFlags := 18, nameIndex := 13, descriptorIndex := 14, attributes := #[] }, { accessFlags := 18, nameIndex := 17, descriptorIndex := 18, attributes := #[] }, { accessFlags := 2, nameIndex := 21, descriptorIndex := 22, attributes := #[] }, { accessFlags := 2, nameIndex := 25, descriptorIndex := 26, attributes := #[] }, { accessFlags := 26, nameIndex := 1116, descriptorIndex := 1117, attributes := #[] }, { accessFlags := 24, nameIndex := 40, descriptorIndex := 26, attributes := #[] }, { accessFlags := 26, nameIndex := 1101, descriptorIndex := 1102, attributes := #[] }, { accessFlags := 26, nameIndex := 1121, descriptorIndex := 1122, attributes := #[] }, { accessFlags := 25, nameIndex := 599, descriptorIndex := 600, attributes := #[] }, { accessFlags := 24, nameIndex := 1125, descriptorIndex := 18, attributes := #[] }, { accessFlags := 24, nameIndex := 1127, descriptorIndex := 18, attributes := #[] }])
  fields := #[{ name := "value", type := (.array .byte), accessFlags := 18, slot := 0, constantValue := 0 }, { name := "coder", type := .byte, accessFlags := 18, slot := 1, constantValue := 0 }, { name := "hash", type := .int, accessFlags := 2, slot := 2, constantValue := 0 }, { name := "hashIsZero", type := .boolean, accessFlags := 2, slot := 3, constantValue := 0 }, { name := "serialVersionUID", type := .long, accessFlags := 26, slot := 0, constantValue := 0 }, { name := "COMPACT_STRINGS", type := .boolean, accessFlags := 24, slot := 1, constantValue := 0 }, { name := "serialPersistentFields", type := (.array (.object "java/io/ObjectStreamField")), accessFlags := 26, slot := 2, constantValue := 0 }, { name := "REPL", type := .char, accessFlags := 26, slot := 3, constantValue := 0 }, { name := "CASE_INSENSITIVE_ORDER", type := (.object "java/util/Comparator"), accessFlags := 25, slot := 4, constantValue := 0 }, { name := "LATIN1", type := .byte, accessFlags := 24, slot := 5, constantValue := 0 }, { name := "UTF16", type := .byte, accessFlags := 24, slot := 6, constantValue := 0 }]
  methods := #[k7m0, k7m1, k7m2, k7m3, k7m4, k7m5, k7m6, k7m7, k7m8, k7m9, k7m10, k7m11]
  instanceTypes := #[(.array .byte), .byte, .int, .boolean]
  staticTypes := #[.long, .boolean, (.array (.object "java/io/ObjectStreamField")), .char, (.object "java/util/Comparator"), .byte, .byte]
  resolved := Array.replicate 1451 none
  statics := some 0 }

def pool8 : Array CpInfo := pool [(3, .class_ 4), (0, u "java/lang/String"), (1, .class_ 8), (1, u "java/lang/Object"), (0, u "<init>"), (0, u "()V"), (0, .methodref 12 13), (0, .class_ 14), (0, .nameAndType 15 16), (0, u "java/lang/StringUTF16"), (0, u "newBytesLength"), (0, u "(I)I"), (3, .integer 1073741823), (23, .fieldref 12 45), (0, .nameAndType 46 47), (0, u "$assertionsDisabled"), (0, u "Z"), (0, .methodref 12 49), (0, .nameAndType 50 51), (0, u "length"), (0, u "([B)I"), (7, .fieldref 12 60), (0, .nameAndType 61 62), (0, u "HI_BYTE_SHIFT"), (0, u "I"), (0, .fieldref 12 64), (0, .nameAndType 65 62), (0, u "LO_BYTE_SHIFT"), (1, .methodref 12 68), (0, .nameAndType 69 70), (0, u "checkIndex"), (0, u "(I[B)V"), (0, .methodref 12 72), (0, .nameAndType 73 74), (0, u "getChar"), (0, u "([BI)C"), (32, .methodref 12 108), (0, .nameAndType 109 110), (0, u "newBytesFor"), (0, u "(I)[B"), (0, .methodref 12 112), (0, .nameAndType 113 114), (0, u "putChar"), (0, u "([BII)V"), (0, .methodref 12 116), (0, .nameAndType 117 118), (0, u "compress"), (0, u "([CI[BII)I"), (0, .methodref 12 120), (0, .nameAndType 121 122), (0, u "toBytes"), (0, u "([CII)[B"), (138, u "coderFromArrayLen"), (0, u "([BI)B"), (106, .class_ 371), (1, u "java/lang/StringUTF16$LinesSpliterator"), (20, u "charAt"), (21, .methodref 3 415), (0, .nameAndType 69 416), (0, u "(II)V"), (13, u "MAX_LENGTH"), (44, u "(C)[B"), (151, .class_ 628), (0, u "java/lang/StringUTF16$CodePointsSpliterator"), (0, .class_ 630), (0, u "java/lang/StringUTF16$CharsSpliterator")] 4

def k8m0 : Method := { name := "<init>", desc := "()V", sig := { parameters := [], returnType := none }, accessFlags := 0, code := none }
def k8c1 : Code := { maxStack := 1, maxLocals := 1, code := jdk_52_method_2_code, exceptionTable := #[], attributes := #[] }
def k8m1 : Method := { name := "newBytesFor", desc := "(I)[B", sig := { parameters := [.int], returnType := some (.array .byte) }, accessFlags := 9, code := some k8c1 }
def k8c2 : Code := { maxStack := 4, maxLocals := 1, code := jdk_52_method_3_code, exceptionTable := #[], attributes := #[] }
def k8m2 : Method := { name := "newBytesLength", desc := "(I)I", sig := { parameters := [.int], returnType := some .int }, accessFlags := 9, code := some k8c2 }
def k8c3 : Code := { maxStack := 4, maxLocals := 3, code := jdk_52_method_4_code, exceptionTable := #[], attributes := #[] }
def k8m3 : Method := { name := "putChar", desc := "([BII)V", sig := { parameters := [(.array .byte), .int, .int], returnType := none }, accessFlags := 8, code := some k8c3 }
def k8c4 : Code := { maxStack := 3, maxLocals := 2, code := jdk_52_method_5_code, exceptionTable := #[], attributes := #[] }
def k8m4 : Method := { name := "getChar", desc := "([BI)C", sig := { parameters := [(.array .byte), .int], returnType := some .char }, accessFlags := 8, code := some k8c4 }
def k8c5 : Code := { maxStack := 2, maxLocals := 1, code := jdk_52_method_6_code, exceptionTable := #[], attributes := #[] }
def k8m5 : Method := { name := "length", desc := "([B)I", sig := { parameters := [(.array .byte)], returnType := some .int }, accessFlags := 9, code := some k8c5 }
def k8c6 : Code := { maxStack := 4, maxLocals := 5, code := jdk_52_method_14_code, exceptionTable := #[], attributes := #[] }
def k8m6 : Method := { name := "toBytes", desc := "([CII)[B", sig := { parameters := [(.array .char), .int, .int], returnType := some (.array .byte) }, accessFlags := 9, code := some k8c6 }
def k8c7 : Code := { maxStack := 2, maxLocals := 2, code := jdk_52_method_15_code, exceptionTable := #[], attributes := #[] }
def k8m7 : Method := { name := "coderFromArrayLen", desc := "([BI)B", sig := { parameters := [(.array .byte), .int], returnType := some .byte }, accessFlags := 8, code := some k8c7 }
def k8c8 : Code := { maxStack := 5, maxLocals := 6, code := jdk_52_method_16_code, exceptionTable := #[], attributes := #[] }
def k8m8 : Method := { name := "compress", desc := "([CII)[B", sig := { parameters := [(.array .char), .int, .int], returnType := some (.array .byte) }, accessFlags := 9, code := some k8c8 }
def k8c9 : Code := { maxStack := 3, maxLocals := 7, code := jdk_52_method_21_code, exceptionTable := #[], attributes := #[] }
def k8m9 : Method := { name := "compress", desc := "([CI[BII)I", sig := { parameters := [(.array .char), .int, (.array .byte), .int, .int], returnType := some .int }, accessFlags := 9, code := some k8c9 }
def k8c10 : Code := { maxStack := 3, maxLocals := 2, code := jdk_52_method_24_code, exceptionTable := #[], attributes := #[] }
def k8m10 : Method := { name := "toBytes", desc := "(C)[B", sig := { parameters := [.char], returnType := some (.array .byte) }, accessFlags := 9, code := some k8c10 }
def k8c11 : Code := { maxStack := 2, maxLocals := 2, code := jdk_52_method_83_code, exceptionTable := #[], attributes := #[] }
def k8m11 : Method := { name := "charAt", desc := "([BI)C", sig := { parameters := [(.array .byte), .int], returnType := some .char }, accessFlags := 9, code := some k8c11 }
def k8c12 : Code := { maxStack := 2, maxLocals := 2, code := jdk_52_method_91_code, exceptionTable := #[], attributes := #[] }
def k8m12 : Method := { name := "checkIndex", desc := "(I[B)V", sig := { parameters := [.int, (.array .byte)], returnType := none }, accessFlags := 9, code := some k8c12 }
/-- java/lang/StringUTF16 -/
def k8 : Class := { plain "java/lang/StringUTF16" (some 0) with
  accessFlags := 48
  interfaces := #[]
  cf := some (fileOf pool8 12 #[.nestMembers #[627, 629, 369]] #[{ accessFlags := 0, nameIndex := 9, descriptorIndex := 10, attributes := #[] }, { accessFlags := 9, nameIndex := 109, descriptorIndex := 110, attributes := #[] }, { accessFlags := 9, nameIndex := 15, descriptorIndex := 16, attributes := #[] }, { accessFlags := 8, nameIndex := 113, descriptorIndex := 114, attributes := #[] }, { accessFlags := 8, nameIndex := 73, descriptorIndex := 74, attributes := #[] }, { accessFlags := 9, nameIndex := 50, descriptorIndex := 51, attributes := #[] }, { accessFlags := 9, nameIndex := 121, descriptorIndex := 122, attributes := #[] }, { accessFlags := 8, nameIndex := 261, descriptorIndex := 262, attributes := #[] }, { accessFlags := 9, nameIndex := 117, descriptorIndex := 122, attributes := #[] }, { accessFlags := 9, nameIndex := 117, descriptorIndex := 118, attributes := #[] }, { accessFlags := 9, nameIndex := 121, descriptorIndex := 475, attributes := #[] }, { accessFlags := 9, nameIndex := 392, descriptorIndex := 74, attributes := #[] }, { accessFlags := 9, nameIndex := 69, descriptorIndex := 70, attributes := #[] }] 48 6 #[] #[{ accessFlags := 26, nameIndex := 61, descriptorIndex := 62, attributes := #[] }, { accessFlags := 26, nameIndex := 65, descriptorIndex := 62, attributes := #[] }, { accessFlags := 24, nameIndex := 430, descriptorIndex := 62, attributes := #[] }, { accessFlags := 4120, nameIndex := 46, descriptorIndex := 47, attributes := #[] }])
  fields := #[{ name := "HI_BYTE_SHIFT", type := .int, accessFlags := 26, slot := 0, constantValue := 0 }, { name := "LO_BYTE_SHIFT", type := .int, accessFlags := 26, slot := 1, constantValue := 0 }, { name := "MAX_LENGTH", type := .int, accessFlags := 24, slot := 2, constantValue := 0 }, { name := "$assertionsDisabled", type := .boolean, accessFlags := 4120, slot := 3, constantValue := 0 }]
  methods := #[k8m0, k8m1, k8m2, k8m3, k8m4, k8m5, k8m6, k8m7, k8m8, k8m9, k8m10, k8m11, k8m12]
  instanceTypes := #[]
  staticTypes := #[.int, .int, .int, .boolean]
  resolved := Array.replicate 635 none
  statics := some 1 }

def pool9 : Array CpInfo := pool [(2, .class_ 4), (1, u "java/lang/Object"), (0, u "<init>"), (0, u "()V"), (0, .class_ 8), (0, u "java/lang/Record")] 13

def k9m0 : Method := { name := "<init>", desc := "()V", sig := { parameters := [], returnType := none }, accessFlags := 4, code := none }
/-- java/lang/Record -/
def k9 : Class := { plain "java/lang/Record" (some 0) with
  accessFlags := 1057
  interfaces := #[]
  cf := some (fileOf pool9 7 #[] #[{ accessFlags := 4, nameIndex := 5, descriptorIndex := 6, attributes := #[] }] 1057 2 #[] #[])
  fields := #[]
  methods := #[k9m0]
  instanceTypes := #[]
  staticTypes := #[]
  resolved := Array.replicate 22 none
  statics := none }

def pool10 : Array CpInfo := pool [(2, .class_ 4), (1, u "java/lang/Record"), (3, u "id"), (7, u "hash"), (1, u "name"), (1, u "kind"), (1, u "created"), (1, u "updated"), (7, .class_ 34), (1, u "com/example/scopelock/scopelock/Key"), (0, u "Ljava/lang/String;"), (2, u "Lcom/example/scopelock/scopelock/KeyHash;"), (2, u "organization"), (0, u "J"), (4, u "Lcom/example/scopelock/scopelock/Kind;"), (2, u "scopes"), (0, u "Ljava/util/Set;"), (2, u "expires"), (0, u "Ljava/time/Instant;"), (6, u "lastUsed"), (0, .methodref 64 65), (0, .class_ 66), (0, .nameAndType 67 68), (0, u "java/lang/String"), (0, u "length"), (0, u "()I"), (0, .string 70), (0, u "abcdefghijklmnopqrstuvwxyz0123456789"), (0, .methodref 64 72), (0, .nameAndType 73 74), (0, u "charAt"), (0, u "(I)C"), (0, .methodref 64 76), (0, .nameAndType 77 78), (0, u "indexOf"), (0, u "(I)I"), (88, u "LENGTH"), (0, u "I"), (2, u "ID_LENGTH"), (1, u "ALPHABET"), (4, u "wellFormed"), (0, u "(Ljava/lang/String;)Z")] 65

def k10c0 : Code := { maxStack := 3, maxLocals := 2, code := prog_12_method_2_code, exceptionTable := #[], attributes := #[] }
def k10m0 : Method := { name := "wellFormed", desc := "(Ljava/lang/String;)Z", sig := { parameters := [(.object "java/lang/String")], returnType := some .boolean }, accessFlags := 9, code := some k10c0 }
/-- com/example/scopelock/scopelock/Key -/
def k10 : Class := { plain "com/example/scopelock/scopelock/Key" (some 9) with
  accessFlags := 49
  interfaces := #[]
  cf := some (fileOf pool10 32 #[] #[{ accessFlags := 9, nameIndex := 178, descriptorIndex := 179, attributes := #[] }] 49 2 #[] #[{ accessFlags := 18, nameIndex := 8, descriptorIndex := 35, attributes := #[] }, { accessFlags := 18, nameIndex := 16, descriptorIndex := 38, attributes := #[] }, { accessFlags := 18, nameIndex := 41, descriptorIndex := 42, attributes := #[] }, { accessFlags := 18, nameIndex := 18, descriptorIndex := 35, attributes := #[] }, { accessFlags := 18, nameIndex := 20, descriptorIndex := 47, attributes := #[] }, { accessFlags := 18, nameIndex := 50, descriptorIndex := 51, attributes := #[] }, { accessFlags := 18, nameIndex := 54, descriptorIndex := 55, attributes := #[] }, { accessFlags := 18, nameIndex := 22, descriptorIndex := 55, attributes := #[] }, { accessFlags := 18, nameIndex := 24, descriptorIndex := 55, attributes := #[] }, { accessFlags := 18, nameIndex := 62, descriptorIndex := 55, attributes := #[] }, { accessFlags := 25, nameIndex := 167, descriptorIndex := 168, attributes := #[] }, { accessFlags := 25, nameIndex := 171, descriptorIndex := 168, attributes := #[] }, { accessFlags := 26, nameIndex := 173, descriptorIndex := 35, attributes := #[] }])
  fields := #[{ name := "id", type := (.object "java/lang/String"), accessFlags := 18, slot := 0, constantValue := 0 }, { name := "hash", type := (.object "com/example/scopelock/scopelock/KeyHash"), accessFlags := 18, slot := 1, constantValue := 0 }, { name := "organization", type := .long, accessFlags := 18, slot := 2, constantValue := 0 }, { name := "name", type := (.object "java/lang/String"), accessFlags := 18, slot := 3, constantValue := 0 }, { name := "kind", type := (.object "com/example/scopelock/scopelock/Kind"), accessFlags := 18, slot := 4, constantValue := 0 }, { name := "scopes", type := (.object "java/util/Set"), accessFlags := 18, slot := 5, constantValue := 0 }, { name := "expires", type := (.object "java/time/Instant"), accessFlags := 18, slot := 6, constantValue := 0 }, { name := "created", type := (.object "java/time/Instant"), accessFlags := 18, slot := 7, constantValue := 0 }, { name := "updated", type := (.object "java/time/Instant"), accessFlags := 18, slot := 8, constantValue := 0 }, { name := "lastUsed", type := (.object "java/time/Instant"), accessFlags := 18, slot := 9, constantValue := 0 }, { name := "LENGTH", type := .int, accessFlags := 25, slot := 0, constantValue := 0 }, { name := "ID_LENGTH", type := .int, accessFlags := 25, slot := 1, constantValue := 0 }, { name := "ALPHABET", type := (.object "java/lang/String"), accessFlags := 26, slot := 2, constantValue := 0 }]
  methods := #[k10m0]
  instanceTypes := #[(.object "java/lang/String"), (.object "com/example/scopelock/scopelock/KeyHash"), .long, (.object "java/lang/String"), (.object "com/example/scopelock/scopelock/Kind"), (.object "java/util/Set"), (.object "java/time/Instant"), (.object "java/time/Instant"), (.object "java/time/Instant"), (.object "java/time/Instant")]
  staticTypes := #[.int, .int, (.object "java/lang/String")]
  resolved := Array.replicate 245 none
  statics := none }

def pool11 : Array CpInfo := pool [(1, .class_ 2), (0, u "java/lang/String"), (1, .class_ 6), (1, u "java/lang/Object"), (0, u "<init>"), (0, u "()V"), (0, .methodref 1 10), (0, .nameAndType 11 12), (0, u "checkIndex"), (0, u "(II)V"), (1, .class_ 16), (1, u "java/lang/StringLatin1"), (21, .methodref 39 40), (0, .class_ 41), (0, .nameAndType 42 43), (0, u "java/lang/Math"), (0, u "min"), (0, u "(II)I"), (9, u "([BI)C"), (34, .methodref 14 89), (0, .nameAndType 90 91), (0, u "canEncode"), (0, u "(I)Z"), (0, .methodref 39 93), (0, .nameAndType 94 43), (0, u "max"), (0, .methodref 14 96), (0, .nameAndType 97 98), (0, u "indexOfChar"), (0, u "([BIII)I"), (2, u "indexOf"), (3, u "(C)Z"), (15, u "$assertionsDisabled"), (0, u "Z"), (98, .class_ 223), (1, u "java/lang/StringLatin1$LinesSpliterator"), (28, u "charAt"), (127, u "toBytes"), (1, u "(C)[B"), (7, .class_ 391), (0, u "java/lang/StringLatin1$CharsSpliterator")] 3

def k11m0 : Method := { name := "<init>", desc := "()V", sig := { parameters := [], returnType := none }, accessFlags := 0, code := none }
def k11c1 : Code := { maxStack := 2, maxLocals := 2, code := jdk_43_method_2_code, exceptionTable := #[], attributes := #[] }
def k11m1 : Method := { name := "charAt", desc := "([BI)C", sig := { parameters := [(.array .byte), .int], returnType := some .char }, accessFlags := 9, code := some k11c1 }
def k11c2 : Code := { maxStack := 2, maxLocals := 1, code := jdk_43_method_3_code, exceptionTable := #[], attributes := #[] }
def k11m2 : Method := { name := "canEncode", desc := "(C)Z", sig := { parameters := [.char], returnType := some .boolean }, accessFlags := 9, code := some k11c2 }
def k11c3 : Code := { maxStack := 2, maxLocals := 1, code := jdk_43_method_4_code, exceptionTable := #[], attributes := #[] }
def k11m3 : Method := { name := "canEncode", desc := "(I)Z", sig := { parameters := [.int], returnType := some .boolean }, accessFlags := 9, code := some k11c3 }
def k11c4 : Code := { maxStack := 4, maxLocals := 4, code := jdk_43_method_22_code, exceptionTable := #[], attributes := #[] }
def k11m4 : Method := { name := "indexOf", desc := "([BIII)I", sig := { parameters := [(.array .byte), .int, .int, .int], returnType := some .int }, accessFlags := 9, code := some k11c4 }
def k11c5 : Code := { maxStack := 2, maxLocals := 6, code := jdk_43_method_23_code, exceptionTable := #[], attributes := #[] }
def k11m5 : Method := { name := "indexOfChar", desc := "([BIII)I", sig := { parameters := [(.array .byte), .int, .int, .int], returnType := some .int }, accessFlags := 10, code := some k11c5 }
def k11c6 : Code := { maxStack := 4, maxLocals := 1, code := jdk_43_method_46_code, exceptionTable := #[], attributes := #[] }
def k11m6 : Method := { name := "toBytes", desc := "(C)[B", sig := { parameters := [.char], returnType := some (.array .byte) }, accessFlags := 9, code := some k11c6 }
/-- java/lang/StringLatin1 -/
def k11 : Class := { plain "java/lang/StringLatin1" (some 0) with
  accessFlags := 48
  interfaces := #[]
  cf := some (fileOf pool11 14 #[.nestMembers #[390, 221]] #[{ accessFlags := 0, nameIndex := 7, descriptorIndex := 8, attributes := #[] }, { accessFlags := 9, nameIndex := 252, descriptorIndex := 53, attributes := #[] }, { accessFlags := 9, nameIndex := 90, descriptorIndex := 105, attributes := #[] }, { accessFlags := 9, nameIndex := 90, descriptorIndex := 91, attributes := #[] }, { accessFlags := 9, nameIndex := 101, descriptorIndex := 98, attributes := #[] }, { accessFlags := 10, nameIndex := 97, descriptorIndex := 98, attributes := #[] }, { accessFlags := 9, nameIndex := 380, descriptorIndex := 382, attributes := #[] }] 48 4 #[] #[{ accessFlags := 4120, nameIndex := 121, descriptorIndex := 122, attributes := #[] }])
  fields := #[{ name := "$assertionsDisabled", type := .boolean, accessFlags := 4120, slot := 0, constantValue := 0 }]
  methods := #[k11m0, k11m1, k11m2, k11m3, k11m4, k11m5, k11m6]
  instanceTypes := #[]
  staticTypes := #[.boolean]
  resolved := Array.replicate 395 none
  statics := none }

def pool12 : Array CpInfo := pool [(2, .class_ 4), (1, u "java/lang/Object"), (0, u "<init>"), (0, u "()V"), (17, .class_ 26), (1, u "jdk/internal/util/Preconditions"), (6, u "checkIndex"), (21, .class_ 56), (0, u "jdk/internal/util/Preconditions$4"), (57, .class_ 115), (0, u "jdk/internal/util/Preconditions$1"), (7, u "SIOOBE_FORMATTER"), (0, u "Ljava/util/function/BiFunction;"), (0, .class_ 126), (0, u "jdk/internal/util/Preconditions$2"), (3, u "AIOOBE_FORMATTER"), (0, .class_ 132), (0, u "jdk/internal/util/Preconditions$3"), (3, u "IOOBE_FORMATTER"), (41, u "(IILjava/util/function/BiFunction;)I")] 15

def k12m0 : Method := { name := "<init>", desc := "()V", sig := { parameters := [], returnType := none }, accessFlags := 1, code := none }
def k12c1 : Code := { maxStack := 3, maxLocals := 3, code := jdk_41_method_11_code, exceptionTable := #[], attributes := #[] }
def k12m1 : Method := { name := "checkIndex", desc := "(IILjava/util/function/BiFunction;)I", sig := { parameters := [.int, .int, (.object "java/util/function/BiFunction")], returnType := some .int }, accessFlags := 9, code := some k12c1 }
/-- jdk/internal/util/Preconditions -/
def k12 : Class := { plain "jdk/internal/util/Preconditions" (some 0) with
  accessFlags := 33
  interfaces := #[]
  cf := some (fileOf pool12 24 #[.nestMembers #[55, 131, 125, 114]] #[{ accessFlags := 1, nameIndex := 5, descriptorIndex := 6, attributes := #[] }, { accessFlags := 9, nameIndex := 33, descriptorIndex := 178, attributes := #[] }] 33 2 #[] #[{ accessFlags := 25, nameIndex := 123, descriptorIndex := 124, attributes := #[] }, { accessFlags := 25, nameIndex := 130, descriptorIndex := 124, attributes := #[] }, { accessFlags := 25, nameIndex := 136, descriptorIndex := 124, attributes := #[] }])
  fields := #[{ name := "SIOOBE_FORMATTER", type := (.object "java/util/function/BiFunction"), accessFlags := 25, slot := 0, constantValue := 0 }, { name := "AIOOBE_FORMATTER", type := (.object "java/util/function/BiFunction"), accessFlags := 25, slot := 1, constantValue := 0 }, { name := "IOOBE_FORMATTER", type := (.object "java/util/function/BiFunction"), accessFlags := 25, slot := 2, constantValue := 0 }]
  methods := #[k12m0, k12m1]
  instanceTypes := #[]
  staticTypes := #[(.object "java/util/function/BiFunction"), (.object "java/util/function/BiFunction"), (.object "java/util/function/BiFunction")]
  resolved := Array.replicate 194 none
  statics := some 2 }

def pool13 : Array CpInfo := pool [(1, .class_ 2), (0, u "java/lang/Math"), (1, .class_ 6), (1, u "java/lang/Object"), (0, u "<init>"), (0, u "()V"), (89, .class_ 100), (1, u "java/lang/Math$RandomNumberGeneratorHolder"), (71, u "negativeZeroFloatBits"), (0, u "J"), (2, u "negativeZeroDoubleBits"), (21, u "max"), (2, u "min"), (43, u "$assertionsDisabled"), (0, u "Z"), (88, u "(II)I"), (2, u "twoToTheDoubleScaleDown"), (0, u "D"), (4, u "twoToTheDoubleScaleUp"), (9, u "E"), (3, u "PI"), (2, u "TAU"), (2, u "DEGREES_TO_RADIANS"), (0, u "RADIANS_TO_DEGREES")] 94

def k13m0 : Method := { name := "<init>", desc := "()V", sig := { parameters := [], returnType := none }, accessFlags := 2, code := none }
def k13c1 : Code := { maxStack := 2, maxLocals := 2, code := jdk_29_method_65_code, exceptionTable := #[], attributes := #[] }
def k13m1 : Method := { name := "max", desc := "(II)I", sig := { parameters := [.int, .int], returnType := some .int }, accessFlags := 9, code := some k13c1 }
def k13c2 : Code := { maxStack := 2, maxLocals := 2, code := jdk_29_method_69_code, exceptionTable := #[], attributes := #[] }
def k13m2 : Method := { name := "min", desc := "(II)I", sig := { parameters := [.int, .int], returnType := some .int }, accessFlags := 9, code := some k13c2 }
/-- java/lang/Math -/
def k13 : Class := { plain "java/lang/Math" (some 0) with
  accessFlags := 49
  interfaces := #[]
  cf := some (fileOf pool13 1 #[.nestMembers #[98]] #[{ accessFlags := 2, nameIndex := 7, descriptorIndex := 8, attributes := #[] }, { accessFlags := 9, nameIndex := 198, descriptorIndex := 335, attributes := #[] }, { accessFlags := 9, nameIndex := 201, descriptorIndex := 335, attributes := #[] }] 49 4 #[] #[{ accessFlags := 25, nameIndex := 354, descriptorIndex := 339, attributes := #[] }, { accessFlags := 25, nameIndex := 358, descriptorIndex := 339, attributes := #[] }, { accessFlags := 25, nameIndex := 361, descriptorIndex := 339, attributes := #[] }, { accessFlags := 26, nameIndex := 364, descriptorIndex := 339, attributes := #[] }, { accessFlags := 26, nameIndex := 365, descriptorIndex := 339, attributes := #[] }, { accessFlags := 26, nameIndex := 172, descriptorIndex := 173, attributes := #[] }, { accessFlags := 26, nameIndex := 176, descriptorIndex := 173, attributes := #[] }, { accessFlags := 8, nameIndex := 344, descriptorIndex := 339, attributes := #[] }, { accessFlags := 8, nameIndex := 338, descriptorIndex := 339, attributes := #[] }, { accessFlags := 4120, nameIndex := 245, descriptorIndex := 246, attributes := #[] }])
  fields := #[{ name := "E", type := .double, accessFlags := 25, slot := 0, constantValue := 0 }, { name := "PI", type := .double, accessFlags := 25, slot := 1, constantValue := 0 }, { name := "TAU", type := .double, accessFlags := 25, slot := 2, constantValue := 0 }, { name := "DEGREES_TO_RADIANS", type := .double, accessFlags := 26, slot := 3, constantValue := 0 }, { name := "RADIANS_TO_DEGREES", type := .double, accessFlags := 26, slot := 4, constantValue := 0 }, { name := "negativeZeroFloatBits", type := .long, accessFlags := 26, slot := 5, constantValue := 0 }, { name := "negativeZeroDoubleBits", type := .long, accessFlags := 26, slot := 6, constantValue := 0 }, { name := "twoToTheDoubleScaleUp", type := .double, accessFlags := 8, slot := 7, constantValue := 0 }, { name := "twoToTheDoubleScaleDown", type := .double, accessFlags := 8, slot := 8, constantValue := 0 }, { name := "$assertionsDisabled", type := .boolean, accessFlags := 4120, slot := 9, constantValue := 0 }]
  methods := #[k13m0, k13m1, k13m2]
  instanceTypes := #[]
  staticTypes := #[.double, .double, .double, .double, .double, .long, .long, .double, .double, .boolean]
  resolved := Array.replicate 460 none
  statics := none }

def pool14 : Array CpInfo := pool [(9, u "<init>"), (6, .class_ 18), (1, u "java/lang/Object"), (0, u "()V"), (1, .class_ 23), (1, u "jdk/internal/util/ArraysSupport"), (0, u "LOG2_ARRAY_LONG_INDEX_SCALE"), (0, u "I"), (2, u "U"), (0, u "Ljdk/internal/misc/Unsafe;"), (8, u "BIG_ENDIAN"), (0, u "Z"), (8, u "LOG2_BYTE_BIT_SIZE"), (4, u "LOG2_ARRAY_INT_INDEX_SCALE"), (54, u "JLA"), (0, u "Ljdk/internal/access/JavaLangAccess;"), (11, u "LOG2_ARRAY_BOOLEAN_INDEX_SCALE"), (9, u "LOG2_ARRAY_BYTE_INDEX_SCALE"), (5, u "LOG2_ARRAY_CHAR_INDEX_SCALE"), (5, u "LOG2_ARRAY_SHORT_INDEX_SCALE"), (18, u "LOG2_ARRAY_FLOAT_INDEX_SCALE"), (24, u "LOG2_ARRAY_DOUBLE_INDEX_SCALE"), (89, u "T_BOOLEAN"), (2, u "T_CHAR"), (1, u "T_FLOAT"), (1, u "T_DOUBLE"), (1, u "T_BYTE"), (1, u "T_SHORT"), (1, u "T_INT"), (1, u "T_LONG"), (1, u "SOFT_MAX_ARRAY_LENGTH")] 83

def k14m0 : Method := { name := "<init>", desc := "()V", sig := { parameters := [], returnType := none }, accessFlags := 2, code := none }
/-- jdk/internal/util/ArraysSupport -/
def k14 : Class := { plain "jdk/internal/util/ArraysSupport" (some 0) with
  accessFlags := 33
  interfaces := #[]
  cf := some (fileOf pool14 21 #[] #[{ accessFlags := 2, nameIndex := 9, descriptorIndex := 19, attributes := #[] }] 33 16 #[] #[{ accessFlags := 24, nameIndex := 28, descriptorIndex := 29, attributes := #[] }, { accessFlags := 26, nameIndex := 38, descriptorIndex := 39, attributes := #[] }, { accessFlags := 25, nameIndex := 121, descriptorIndex := 25, attributes := #[] }, { accessFlags := 25, nameIndex := 131, descriptorIndex := 25, attributes := #[] }, { accessFlags := 25, nameIndex := 137, descriptorIndex := 25, attributes := #[] }, { accessFlags := 25, nameIndex := 143, descriptorIndex := 25, attributes := #[] }, { accessFlags := 25, nameIndex := 53, descriptorIndex := 25, attributes := #[] }, { accessFlags := 25, nameIndex := 24, descriptorIndex := 25, attributes := #[] }, { accessFlags := 25, nameIndex := 162, descriptorIndex := 25, attributes := #[] }, { accessFlags := 25, nameIndex := 187, descriptorIndex := 25, attributes := #[] }, { accessFlags := 26, nameIndex := 48, descriptorIndex := 25, attributes := #[] }, { accessFlags := 25, nameIndex := 277, descriptorIndex := 25, attributes := #[] }, { accessFlags := 25, nameIndex := 280, descriptorIndex := 25, attributes := #[] }, { accessFlags := 25, nameIndex := 282, descriptorIndex := 25, attributes := #[] }, { accessFlags := 25, nameIndex := 284, descriptorIndex := 25, attributes := #[] }, { accessFlags := 25, nameIndex := 286, descriptorIndex := 25, attributes := #[] }, { accessFlags := 25, nameIndex := 288, descriptorIndex := 25, attributes := #[] }, { accessFlags := 25, nameIndex := 290, descriptorIndex := 25, attributes := #[] }, { accessFlags := 25, nameIndex := 292, descriptorIndex := 25, attributes := #[] }, { accessFlags := 26, nameIndex := 108, descriptorIndex := 109, attributes := #[] }, { accessFlags := 25, nameIndex := 294, descriptorIndex := 25, attributes := #[] }])
  fields := #[{ name := "U", type := (.object "jdk/internal/misc/Unsafe"), accessFlags := 24, slot := 0, constantValue := 0 }, { name := "BIG_ENDIAN", type := .boolean, accessFlags := 26, slot := 1, constantValue := 0 }, { name := "LOG2_ARRAY_BOOLEAN_INDEX_SCALE", type := .int, accessFlags := 25, slot := 2, constantValue := 0 }, { name := "LOG2_ARRAY_BYTE_INDEX_SCALE", type := .int, accessFlags := 25, slot := 3, constantValue := 0 }, { name := "LOG2_ARRAY_CHAR_INDEX_SCALE", type := .int, accessFlags := 25, slot := 4, constantValue := 0 }, { name := "LOG2_ARRAY_SHORT_INDEX_SCALE", type := .int, accessFlags := 25, slot := 5, constantValue := 0 }, { name := "LOG2_ARRAY_INT_INDEX_SCALE", type := .int, accessFlags := 25, slot := 6, constantValue := 0 }, { name := "LOG2_ARRAY_LONG_INDEX_SCALE", type := .int, accessFlags := 25, slot := 7, constantValue := 0 }, { name := "LOG2_ARRAY_FLOAT_INDEX_SCALE", type := .int, accessFlags := 25, slot := 8, constantValue := 0 }, { name := "LOG2_ARRAY_DOUBLE_INDEX_SCALE", type := .int, accessFlags := 25, slot := 9, constantValue := 0 }, { name := "LOG2_BYTE_BIT_SIZE", type := .int, accessFlags := 26, slot := 10, constantValue := 0 }, { name := "T_BOOLEAN", type := .int, accessFlags := 25, slot := 11, constantValue := 0 }, { name := "T_CHAR", type := .int, accessFlags := 25, slot := 12, constantValue := 0 }, { name := "T_FLOAT", type := .int, accessFlags := 25, slot := 13, constantValue := 0 }, { name := "T_DOUBLE", type := .int, accessFlags := 25, slot := 14, constantValue := 0 }, { name := "T_BYTE", type := .int, accessFlags := 25, slot := 15, constantValue := 0 }, { name := "T_SHORT", type := .int, accessFlags := 25, slot := 16, constantValue := 0 }, { name := "T_INT", type := .int, accessFlags := 25, slot := 17, constantValue := 0 }, { name := "T_LONG", type := .int, accessFlags := 25, slot := 18, constantValue := 0 }, { name := "JLA", type := (.object "jdk/internal/access/JavaLangAccess"), accessFlags := 26, slot := 19, constantValue := 0 }, { name := "SOFT_MAX_ARRAY_LENGTH", type := .int, accessFlags := 25, slot := 20, constantValue := 0 }]
  methods := #[k14m0]
  instanceTypes := #[]
  staticTypes := #[(.object "jdk/internal/misc/Unsafe"), .boolean, .int, .int, .int, .int, .int, .int, .int, .int, .int, .int, .int, .int, .int, .int, .int, .int, .int, (.object "jdk/internal/access/JavaLangAccess"), .int]
  resolved := Array.replicate 378 none
  statics := none }

def pool15 : Array CpInfo := pool [(1, u "java/lang/Cloneable"), (0, .class_ 1), (0, u "java/lang/Object"), (0, .class_ 3)] 3

/-- java/lang/Cloneable -/
def k15 : Class := { plain "java/lang/Cloneable" (some 0) with
  accessFlags := 1537
  interfaces := #[]
  cf := some (fileOf pool15 2 #[] #[] 1537 4 #[] #[])
  fields := #[]
  methods := #[]
  instanceTypes := #[]
  staticTypes := #[]
  resolved := Array.replicate 8 none
  statics := none }

/-- the primitive byte -/
def k16 : Class := { plain "byte" none with kind := .primitive 'B', accessFlags := 0x411 }
/-- [B -/
def k17 : Class := { plain "[B" (some 0) with kind := .array 16 .byte, interfaces := #[15, 2], accessFlags := 1041 }

/-- the primitive char -/
def k18 : Class := { plain "char" none with kind := .primitive 'C', accessFlags := 0x411 }
/-- [C -/
def k19 : Class := { plain "[C" (some 0) with kind := .array 18 .char, interfaces := #[15, 2], accessFlags := 1041 }

/-- the primitive int -/
def k20 : Class := { plain "int" none with kind := .primitive 'I', accessFlags := 0x411 }
/-- [I -/
def k21 : Class := { plain "[I" (some 0) with kind := .array 20 .int, interfaces := #[15, 2], accessFlags := 1041 }

def heap : Heap := #[{ cls := 7, slots := #[.long 0, .int 1, .null, .int 0, .null, .int 0, .int 0], vm := .statics 7 },
  { cls := 8, slots := #[.int 0, .int 8, .int 0, .int 1], vm := .statics 8 },
  { cls := 12, slots := #[.null, .null, .null], vm := .statics 12 }]
def classes : Array Class := #[k0, k1, k2, k3, k4, k5, k6, k7, k8, k9, k10, k11, k12, k13, k14, k15, k16, k17, k18, k19, k20, k21]
def interned : List (Array UInt16 × Addr) := []
def slotsUsed : Nat := 14
def theMethod : MethodId := ⟨1, 5⟩
def args0 : Array Value := #[.int 0, .int 0, .int 0, .int 0, .int 0, .int 0]
def aboutOver (below : List Frame) : State where
  vm := { classes := classes, interned := interned.toArray }
  heap := heap
  slotsUsed := slotsUsed
  threads := #[{ frames := .invoking theMethod args0 :: below }]
def below0 : List Frame := [.native { method := ⟨0, 0⟩, args := #[] }]
def about1 : State := aboutOver below0
def p0 : Program := .bare "" "" ""
def e0 : Env := launch0.env 0 0 0
theorem w_frames : about1.frames = Frame.invoking theMethod args0 :: below0 := rfl
set_option maxRecDepth 65536 in
theorem w_args : argsFit about1.vm theMethod args0 = true := by decide +kernel
set_option maxRecDepth 65536 in
theorem w_heap : heapFits about1 = true := by decide +kernel
set_option maxRecDepth 65536 in
theorem w_runnable : about1.curStatus? = some .runnable := by decide +kernel
set_option maxRecDepth 65536 in
theorem w_alone : about1.alone = true := by decide +kernel
set_option maxRecDepth 65536 in
theorem w_named : about1.methodNamed? x = some theMethod := by decide +kernel
set_option maxRecDepth 65536 in
theorem w_hears : about1.hears theMethod below0 = true := by decide +kernel
set_option maxRecDepth 65536 in
theorem w_ripe : about1.ripe theMethod args0 below0 = true := by decide +kernel
theorem w_running : about1.status = .running := rfl
set_option maxRecDepth 65536 in
theorem w_room : about1.hasRoom e0.platform room_1 = true :=
  launch0.hasRoom_least _ room_1 (by decide +kernel) (by decide +kernel) (by decide +kernel) (by decide +kernel) (by decide +kernel) (by decide +kernel)
theorem allAtoms_all (ts : List Jvm.Cond) (a : Array Jvm.Value) (st : Jvm.State) : (allAtoms ts).before a st = ts.all (fun c => c.before a st) := by
  induction ts with
  | nil => rfl
  | cons c t ih =>
    show (Jvm.Cond.and c (allAtoms t)).before a st = _
    rw [Jvm.Cond.before_and, ih, List.all_cons]
def words1 : List Jvm.Cond := Jvm.Cond.code x code maxLocals ret :: tables_1
/-- a 'code' word, met by the world's own term for the bytes: nothing is compared byte by byte -/
theorem code_word {y : MethodName} {bytes : ByteArray} {mx : Nat} {rt : Option FieldType} {a : Array Value} {s : State} {m : MethodId} {meth : Method} {c : Code} (h1 : s.methodNamed? y = some m) (h2 : s.vm.method? m = some meth) (h3 : meth.code = some c) (h4 : c.code = bytes)
    (h5 : (c.maxLocals == mx && c.exceptionTable.isEmpty && decide (c.maxStack ≤ mostOperands) && decide (meth.sig.returnType = rt) && !meth.locks && decide (parseMethodDescriptor y.desc = some meth.sig)) = true) : (Jvm.Cond.code y bytes mx rt).before a s = true := by
  simp only [Bool.and_eq_true, beq_iff_eq, Bool.not_eq_true', decide_eq_true_eq] at h5
  obtain ⟨⟨⟨⟨⟨g1, g2⟩, g3⟩, g4⟩, g5⟩, g6⟩ := h5
  simp [Cond.before, Cond.holds, Cond.value, h1, h2, h3, h4, g1, g2, g3, g4, g5, g6]
def isCode : Jvm.Cond → Bool
  | .code _ _ _ _ => true
  | _ => false
theorem all_split {L : List Jvm.Cond} {P : Jvm.Cond → Bool} (h1 : L.all (fun c => isCode c || P c) = true) (h2 : ∀ c ∈ L.filter isCode, P c = true) : L.all P = true := by
  refine List.all_eq_true.mpr fun c hc => ?_
  have h := List.all_eq_true.mp h1 c hc
  rcases Bool.eq_false_or_eq_true (isCode c) with hi | hi
  · exact h2 c (List.mem_filter.mpr ⟨hc, hi⟩)
  · simpa [hi] using h
set_option maxRecDepth 65536 in
theorem w_c0 : (Jvm.Cond.code x code maxLocals ret).before args0 about1 = true := code_word (m := ⟨1, 5⟩) (meth := k1m5) (c := k1c5) (by decide +kernel) rfl rfl rfl (by decide +kernel)
set_option maxRecDepth 65536 in
theorem w_c1 : (Jvm.Cond.code ({ cls := "com/example/scopelock/scopelock/KeyWellFormedPinLaw", name := "filled43", desc := "(C)[C" } : Jvm.MethodName) method_3_code (1 : Nat) (Option.some (Jvm.ClassFile.FieldType.array Jvm.ClassFile.FieldType.char))).before args0 about1 = true := code_word (m := ⟨1, 2⟩) (meth := k1m2) (c := k1c2) (by decide +kernel) rfl rfl rfl (by decide +kernel)
set_option maxRecDepth 65536 in
theorem w_c2 : (Jvm.Cond.code ({ cls := "com/example/scopelock/scopelock/KeyWellFormedPinLaw", name := "filled44", desc := "(C)[C" } : Jvm.MethodName) method_4_code (1 : Nat) (Option.some (Jvm.ClassFile.FieldType.array Jvm.ClassFile.FieldType.char))).before args0 about1 = true := code_word (m := ⟨1, 3⟩) (meth := k1m3) (c := k1c3) (by decide +kernel) rfl rfl rfl (by decide +kernel)
set_option maxRecDepth 65536 in
theorem w_c3 : (Jvm.Cond.code ({ cls := "com/example/scopelock/scopelock/KeyWellFormedPinLaw", name := "filled45", desc := "(C)[C" } : Jvm.MethodName) method_5_code (1 : Nat) (Option.some (Jvm.ClassFile.FieldType.array Jvm.ClassFile.FieldType.char))).before args0 about1 = true := code_word (m := ⟨1, 4⟩) (meth := k1m4) (c := k1c4) (by decide +kernel) rfl rfl rfl (by decide +kernel)
set_option maxRecDepth 65536 in
theorem w_c4 : (Jvm.Cond.code ({ cls := "java/lang/String", name := "<init>", desc := "([C)V" } : Jvm.MethodName) jdk_42_method_3_code (2 : Nat) (Option.none : Option Jvm.ClassFile.FieldType)).before args0 about1 = true := code_word (m := ⟨7, 1⟩) (meth := k7m1) (c := k7c1) (by decide +kernel) rfl rfl rfl (by decide +kernel)
set_option maxRecDepth 65536 in
theorem w_c5 : (Jvm.Cond.code ({ cls := "java/lang/String", name := "<init>", desc := "([CIILjava/lang/Void;)V" } : Jvm.MethodName) jdk_42_method_149_code (6 : Nat) (Option.none : Option Jvm.ClassFile.FieldType)).before args0 about1 = true := code_word (m := ⟨7, 7⟩) (meth := k7m7) (c := k7c7) (by decide +kernel) rfl rfl rfl (by decide +kernel)
set_option maxRecDepth 65536 in
theorem w_c6 : (Jvm.Cond.code ({ cls := "java/lang/Object", name := "<init>", desc := "()V" } : Jvm.MethodName) object_method_1_code (1 : Nat) (Option.none : Option Jvm.ClassFile.FieldType)).before args0 about1 = true := code_word (m := ⟨0, 0⟩) (meth := k0m0) (c := k0c0) (by decide +kernel) rfl rfl rfl (by decide +kernel)
set_option maxRecDepth 65536 in
theorem w_c7 : (Jvm.Cond.code ({ cls := "java/lang/StringUTF16", name := "compress", desc := "([CII)[B" } : Jvm.MethodName) jdk_52_method_16_code (6 : Nat) (Option.some (Jvm.ClassFile.FieldType.array Jvm.ClassFile.FieldType.byte))).before args0 about1 = true := code_word (m := ⟨8, 8⟩) (meth := k8m8) (c := k8c8) (by decide +kernel) rfl rfl rfl (by decide +kernel)
set_option maxRecDepth 65536 in
theorem w_c8 : (Jvm.Cond.code ({ cls := "java/lang/StringUTF16", name := "compress", desc := "([CI[BII)I" } : Jvm.MethodName) jdk_52_method_21_code (7 : Nat) (Option.some Jvm.ClassFile.FieldType.int)).before args0 about1 = true := code_word (m := ⟨8, 9⟩) (meth := k8m9) (c := k8c9) (by decide +kernel) rfl rfl rfl (by decide +kernel)
set_option maxRecDepth 65536 in
theorem w_c9 : (Jvm.Cond.code ({ cls := "java/lang/StringUTF16", name := "coderFromArrayLen", desc := "([BI)B" } : Jvm.MethodName) jdk_52_method_15_code (2 : Nat) (Option.some Jvm.ClassFile.FieldType.byte)).before args0 about1 = true := code_word (m := ⟨8, 7⟩) (meth := k8m7) (c := k8c7) (by decide +kernel) rfl rfl rfl (by decide +kernel)
set_option maxRecDepth 65536 in
theorem w_c10 : (Jvm.Cond.code ({ cls := "com/example/scopelock/scopelock/KeyWellFormedPinLaw", name := "valid", desc := "(C)Z" } : Jvm.MethodName) method_2_code (1 : Nat) (Option.some Jvm.ClassFile.FieldType.boolean)).before args0 about1 = true := code_word (m := ⟨1, 1⟩) (meth := k1m1) (c := k1c1) (by decide +kernel) rfl rfl rfl (by decide +kernel)
set_option maxRecDepth 65536 in
theorem w_c11 : (Jvm.Cond.code ({ cls := "com/example/scopelock/scopelock/Key", name := "wellFormed", desc := "(Ljava/lang/String;)Z" } : Jvm.MethodName) prog_12_method_2_code (2 : Nat) (Option.some Jvm.ClassFile.FieldType.boolean)).before args0 about1 = true := code_word (m := ⟨10, 0⟩) (meth := k10m0) (c := k10c0) (by decide +kernel) rfl rfl rfl (by decide +kernel)
set_option maxRecDepth 65536 in
theorem w_c12 : (Jvm.Cond.code ({ cls := "java/lang/String", name := "length", desc := "()I" } : Jvm.MethodName) jdk_42_method_54_code (1 : Nat) (Option.some Jvm.ClassFile.FieldType.int)).before args0 about1 = true := code_word (m := ⟨7, 2⟩) (meth := k7m2) (c := k7c2) (by decide +kernel) rfl rfl rfl (by decide +kernel)
set_option maxRecDepth 65536 in
theorem w_c13 : (Jvm.Cond.code ({ cls := "java/lang/String", name := "coder", desc := "()B" } : Jvm.MethodName) jdk_42_method_152_code (1 : Nat) (Option.some Jvm.ClassFile.FieldType.byte)).before args0 about1 = true := code_word (m := ⟨7, 9⟩) (meth := k7m9) (c := k7c9) (by decide +kernel) rfl rfl rfl (by decide +kernel)
set_option maxRecDepth 65536 in
theorem w_c14 : (Jvm.Cond.code ({ cls := "java/lang/String", name := "charAt", desc := "(I)C" } : Jvm.MethodName) jdk_42_method_56_code (2 : Nat) (Option.some Jvm.ClassFile.FieldType.char)).before args0 about1 = true := code_word (m := ⟨7, 3⟩) (meth := k7m3) (c := k7c3) (by decide +kernel) rfl rfl rfl (by decide +kernel)
set_option maxRecDepth 65536 in
theorem w_c15 : (Jvm.Cond.code ({ cls := "java/lang/String", name := "isLatin1", desc := "()Z" } : Jvm.MethodName) jdk_42_method_154_code (1 : Nat) (Option.some Jvm.ClassFile.FieldType.boolean)).before args0 about1 = true := code_word (m := ⟨7, 10⟩) (meth := k7m10) (c := k7c10) (by decide +kernel) rfl rfl rfl (by decide +kernel)
set_option maxRecDepth 65536 in
theorem w_c16 : (Jvm.Cond.code ({ cls := "java/lang/StringLatin1", name := "charAt", desc := "([BI)C" } : Jvm.MethodName) jdk_43_method_2_code (2 : Nat) (Option.some Jvm.ClassFile.FieldType.char)).before args0 about1 = true := code_word (m := ⟨11, 1⟩) (meth := k11m1) (c := k11c1) (by decide +kernel) rfl rfl rfl (by decide +kernel)
set_option maxRecDepth 65536 in
theorem w_c17 : (Jvm.Cond.code ({ cls := "java/lang/String", name := "checkIndex", desc := "(II)V" } : Jvm.MethodName) jdk_42_method_155_code (2 : Nat) (Option.none : Option Jvm.ClassFile.FieldType)).before args0 about1 = true := code_word (m := ⟨7, 11⟩) (meth := k7m11) (c := k7c11) (by decide +kernel) rfl rfl rfl (by decide +kernel)
set_option maxRecDepth 65536 in
theorem w_c18 : (Jvm.Cond.code ({ cls := "jdk/internal/util/Preconditions", name := "checkIndex", desc := "(IILjava/util/function/BiFunction;)I" } : Jvm.MethodName) jdk_41_method_11_code (3 : Nat) (Option.some Jvm.ClassFile.FieldType.int)).before args0 about1 = true := code_word (m := ⟨12, 1⟩) (meth := k12m1) (c := k12c1) (by decide +kernel) rfl rfl rfl (by decide +kernel)
set_option maxRecDepth 65536 in
theorem w_c19 : (Jvm.Cond.code ({ cls := "java/lang/String", name := "indexOf", desc := "(I)I" } : Jvm.MethodName) jdk_42_method_79_code (2 : Nat) (Option.some Jvm.ClassFile.FieldType.int)).before args0 about1 = true := code_word (m := ⟨7, 4⟩) (meth := k7m4) (c := k7c4) (by decide +kernel) rfl rfl rfl (by decide +kernel)
set_option maxRecDepth 65536 in
theorem w_c20 : (Jvm.Cond.code ({ cls := "java/lang/String", name := "indexOf", desc := "(II)I" } : Jvm.MethodName) jdk_42_method_80_code (3 : Nat) (Option.some Jvm.ClassFile.FieldType.int)).before args0 about1 = true := code_word (m := ⟨7, 5⟩) (meth := k7m5) (c := k7c5) (by decide +kernel) rfl rfl rfl (by decide +kernel)
set_option maxRecDepth 65536 in
theorem w_c21 : (Jvm.Cond.code ({ cls := "java/lang/StringLatin1", name := "indexOf", desc := "([BIII)I" } : Jvm.MethodName) jdk_43_method_22_code (4 : Nat) (Option.some Jvm.ClassFile.FieldType.int)).before args0 about1 = true := code_word (m := ⟨11, 4⟩) (meth := k11m4) (c := k11c4) (by decide +kernel) rfl rfl rfl (by decide +kernel)
set_option maxRecDepth 65536 in
theorem w_c22 : (Jvm.Cond.code ({ cls := "java/lang/StringLatin1", name := "canEncode", desc := "(I)Z" } : Jvm.MethodName) jdk_43_method_4_code (1 : Nat) (Option.some Jvm.ClassFile.FieldType.boolean)).before args0 about1 = true := code_word (m := ⟨11, 3⟩) (meth := k11m3) (c := k11c3) (by decide +kernel) rfl rfl rfl (by decide +kernel)
set_option maxRecDepth 65536 in
theorem w_c23 : (Jvm.Cond.code ({ cls := "java/lang/Math", name := "max", desc := "(II)I" } : Jvm.MethodName) jdk_29_method_65_code (2 : Nat) (Option.some Jvm.ClassFile.FieldType.int)).before args0 about1 = true := code_word (m := ⟨13, 1⟩) (meth := k13m1) (c := k13c1) (by decide +kernel) rfl rfl rfl (by decide +kernel)
set_option maxRecDepth 65536 in
theorem w_c24 : (Jvm.Cond.code ({ cls := "java/lang/Math", name := "min", desc := "(II)I" } : Jvm.MethodName) jdk_29_method_69_code (2 : Nat) (Option.some Jvm.ClassFile.FieldType.int)).before args0 about1 = true := code_word (m := ⟨13, 2⟩) (meth := k13m2) (c := k13c2) (by decide +kernel) rfl rfl rfl (by decide +kernel)
set_option maxRecDepth 65536 in
theorem w_c25 : (Jvm.Cond.code ({ cls := "java/lang/StringLatin1", name := "indexOfChar", desc := "([BIII)I" } : Jvm.MethodName) jdk_43_method_23_code (6 : Nat) (Option.some Jvm.ClassFile.FieldType.int)).before args0 about1 = true := code_word (m := ⟨11, 5⟩) (meth := k11m5) (c := k11c5) (by decide +kernel) rfl rfl rfl (by decide +kernel)
set_option maxRecDepth 65536 in
theorem w_c26 : (Jvm.Cond.code ({ cls := "java/lang/StringUTF16", name := "toBytes", desc := "([CII)[B" } : Jvm.MethodName) jdk_52_method_14_code (5 : Nat) (Option.some (Jvm.ClassFile.FieldType.array Jvm.ClassFile.FieldType.byte))).before args0 about1 = true := code_word (m := ⟨8, 6⟩) (meth := k8m6) (c := k8c6) (by decide +kernel) rfl rfl rfl (by decide +kernel)
set_option maxRecDepth 65536 in
theorem w_c27 : (Jvm.Cond.code ({ cls := "java/lang/StringUTF16", name := "newBytesFor", desc := "(I)[B" } : Jvm.MethodName) jdk_52_method_2_code (1 : Nat) (Option.some (Jvm.ClassFile.FieldType.array Jvm.ClassFile.FieldType.byte))).before args0 about1 = true := code_word (m := ⟨8, 1⟩) (meth := k8m1) (c := k8c1) (by decide +kernel) rfl rfl rfl (by decide +kernel)
set_option maxRecDepth 65536 in
theorem w_c28 : (Jvm.Cond.code ({ cls := "java/lang/StringUTF16", name := "newBytesLength", desc := "(I)I" } : Jvm.MethodName) jdk_52_method_3_code (1 : Nat) (Option.some Jvm.ClassFile.FieldType.int)).before args0 about1 = true := code_word (m := ⟨8, 2⟩) (meth := k8m2) (c := k8c2) (by decide +kernel) rfl rfl rfl (by decide +kernel)
set_option maxRecDepth 65536 in
theorem w_c29 : (Jvm.Cond.code ({ cls := "java/lang/StringUTF16", name := "putChar", desc := "([BII)V" } : Jvm.MethodName) jdk_52_method_4_code (3 : Nat) (Option.none : Option Jvm.ClassFile.FieldType)).before args0 about1 = true := code_word (m := ⟨8, 3⟩) (meth := k8m3) (c := k8c3) (by decide +kernel) rfl rfl rfl (by decide +kernel)
set_option maxRecDepth 65536 in
theorem w_c30 : (Jvm.Cond.code ({ cls := "java/lang/StringUTF16", name := "getChar", desc := "([BI)C" } : Jvm.MethodName) jdk_52_method_5_code (2 : Nat) (Option.some Jvm.ClassFile.FieldType.char)).before args0 about1 = true := code_word (m := ⟨8, 4⟩) (meth := k8m4) (c := k8c4) (by decide +kernel) rfl rfl rfl (by decide +kernel)
set_option maxRecDepth 65536 in
theorem w_c31 : (Jvm.Cond.code ({ cls := "java/lang/String", name := "valueOf", desc := "(C)Ljava/lang/String;" } : Jvm.MethodName) jdk_42_method_139_code (1 : Nat) (Option.some (Jvm.ClassFile.FieldType.object "java/lang/String"))).before args0 about1 = true := code_word (m := ⟨7, 6⟩) (meth := k7m6) (c := k7c6) (by decide +kernel) rfl rfl rfl (by decide +kernel)
set_option maxRecDepth 65536 in
theorem w_c32 : (Jvm.Cond.code ({ cls := "java/lang/StringLatin1", name := "canEncode", desc := "(C)Z" } : Jvm.MethodName) jdk_43_method_3_code (1 : Nat) (Option.some Jvm.ClassFile.FieldType.boolean)).before args0 about1 = true := code_word (m := ⟨11, 2⟩) (meth := k11m2) (c := k11c2) (by decide +kernel) rfl rfl rfl (by decide +kernel)
set_option maxRecDepth 65536 in
theorem w_c33 : (Jvm.Cond.code ({ cls := "java/lang/StringUTF16", name := "toBytes", desc := "(C)[B" } : Jvm.MethodName) jdk_52_method_24_code (2 : Nat) (Option.some (Jvm.ClassFile.FieldType.array Jvm.ClassFile.FieldType.byte))).before args0 about1 = true := code_word (m := ⟨8, 10⟩) (meth := k8m10) (c := k8c10) (by decide +kernel) rfl rfl rfl (by decide +kernel)
set_option maxRecDepth 65536 in
theorem w_c34 : (Jvm.Cond.code ({ cls := "java/lang/String", name := "<init>", desc := "([BB)V" } : Jvm.MethodName) jdk_42_method_151_code (3 : Nat) (Option.none : Option Jvm.ClassFile.FieldType)).before args0 about1 = true := code_word (m := ⟨7, 8⟩) (meth := k7m8) (c := k7c8) (by decide +kernel) rfl rfl rfl (by decide +kernel)
set_option maxRecDepth 65536 in
theorem w_c35 : (Jvm.Cond.code ({ cls := "java/lang/StringUTF16", name := "charAt", desc := "([BI)C" } : Jvm.MethodName) jdk_52_method_83_code (2 : Nat) (Option.some Jvm.ClassFile.FieldType.char)).before args0 about1 = true := code_word (m := ⟨8, 11⟩) (meth := k8m11) (c := k8c11) (by decide +kernel) rfl rfl rfl (by decide +kernel)
set_option maxRecDepth 65536 in
theorem w_c36 : (Jvm.Cond.code ({ cls := "java/lang/StringUTF16", name := "checkIndex", desc := "(I[B)V" } : Jvm.MethodName) jdk_52_method_91_code (2 : Nat) (Option.none : Option Jvm.ClassFile.FieldType)).before args0 about1 = true := code_word (m := ⟨8, 12⟩) (meth := k8m12) (c := k8c12) (by decide +kernel) rfl rfl rfl (by decide +kernel)
set_option maxRecDepth 65536 in
theorem w_c37 : (Jvm.Cond.code ({ cls := "java/lang/StringUTF16", name := "length", desc := "([B)I" } : Jvm.MethodName) jdk_52_method_6_code (1 : Nat) (Option.some Jvm.ClassFile.FieldType.int)).before args0 about1 = true := code_word (m := ⟨8, 5⟩) (meth := k8m5) (c := k8c5) (by decide +kernel) rfl rfl rfl (by decide +kernel)
set_option maxRecDepth 65536 in
theorem w_c38 : (Jvm.Cond.code ({ cls := "java/lang/StringLatin1", name := "toBytes", desc := "(C)[B" } : Jvm.MethodName) jdk_43_method_46_code (1 : Nat) (Option.some (Jvm.ClassFile.FieldType.array Jvm.ClassFile.FieldType.byte))).before args0 about1 = true := code_word (m := ⟨11, 6⟩) (meth := k11m6) (c := k11c6) (by decide +kernel) rfl rfl rfl (by decide +kernel)
def codes1 : List Jvm.Cond := [Jvm.Cond.code x code maxLocals ret, Jvm.Cond.code ({ cls := "com/example/scopelock/scopelock/KeyWellFormedPinLaw", name := "filled43", desc := "(C)[C" } : Jvm.MethodName) method_3_code (1 : Nat) (Option.some (Jvm.ClassFile.FieldType.array Jvm.ClassFile.FieldType.char)), Jvm.Cond.code ({ cls := "com/example/scopelock/scopelock/KeyWellFormedPinLaw", name := "filled44", desc := "(C)[C" } : Jvm.MethodName) method_4_code (1 : Nat) (Option.some (Jvm.ClassFile.FieldType.array Jvm.ClassFile.FieldType.char)), Jvm.Cond.code ({ cls := "com/example/scopelock/scopelock/KeyWellFormedPinLaw", name := "filled45", desc := "(C)[C" } : Jvm.MethodName) method_5_code (1 : Nat) (Option.some (Jvm.ClassFile.FieldType.array Jvm.ClassFile.FieldType.char)), Jvm.Cond.code ({ cls := "java/lang/String", name := "<init>", desc := "([C)V" } : Jvm.MethodName) jdk_42_method_3_code (2 : Nat) (Option.none : Option Jvm.ClassFile.FieldType), Jvm.Cond.code ({ cls := "java/lang/String", name := "<init>", desc := "([CIILjava/lang/Void;)V" } : Jvm.MethodName) jdk_42_method_149_code (6 : Nat) (Option.none : Option Jvm.ClassFile.FieldType), Jvm.Cond.code ({ cls := "java/lang/Object", name := "<init>", desc := "()V" } : Jvm.MethodName) object_method_1_code (1 : Nat) (Option.none : Option Jvm.ClassFile.FieldType), Jvm.Cond.code ({ cls := "java/lang/StringUTF16", name := "compress", desc := "([CII)[B" } : Jvm.MethodName) jdk_52_method_16_code (6 : Nat) (Option.some (Jvm.ClassFile.FieldType.array Jvm.ClassFile.FieldType.byte)), Jvm.Cond.code ({ cls := "java/lang/StringUTF16", name := "compress", desc := "([CI[BII)I" } : Jvm.MethodName) jdk_52_method_21_code (7 : Nat) (Option.some Jvm.ClassFile.FieldType.int), Jvm.Cond.code ({ cls := "java/lang/StringUTF16", name := "coderFromArrayLen", desc := "([BI)B" } : Jvm.MethodName) jdk_52_method_15_code (2 : Nat) (Option.some Jvm.ClassFile.FieldType.byte), Jvm.Cond.code ({ cls := "com/example/scopelock/scopelock/KeyWellFormedPinLaw", name := "valid", desc := "(C)Z" } : Jvm.MethodName) method_2_code (1 : Nat) (Option.some Jvm.ClassFile.FieldType.boolean), Jvm.Cond.code ({ cls := "com/example/scopelock/scopelock/Key", name := "wellFormed", desc := "(Ljava/lang/String;)Z" } : Jvm.MethodName) prog_12_method_2_code (2 : Nat) (Option.some Jvm.ClassFile.FieldType.boolean), Jvm.Cond.code ({ cls := "java/lang/String", name := "length", desc := "()I" } : Jvm.MethodName) jdk_42_method_54_code (1 : Nat) (Option.some Jvm.ClassFile.FieldType.int), Jvm.Cond.code ({ cls := "java/lang/String", name := "coder", desc := "()B" } : Jvm.MethodName) jdk_42_method_152_code (1 : Nat) (Option.some Jvm.ClassFile.FieldType.byte), Jvm.Cond.code ({ cls := "java/lang/String", name := "charAt", desc := "(I)C" } : Jvm.MethodName) jdk_42_method_56_code (2 : Nat) (Option.some Jvm.ClassFile.FieldType.char), Jvm.Cond.code ({ cls := "java/lang/String", name := "isLatin1", desc := "()Z" } : Jvm.MethodName) jdk_42_method_154_code (1 : Nat) (Option.some Jvm.ClassFile.FieldType.boolean), Jvm.Cond.code ({ cls := "java/lang/StringLatin1", name := "charAt", desc := "([BI)C" } : Jvm.MethodName) jdk_43_method_2_code (2 : Nat) (Option.some Jvm.ClassFile.FieldType.char), Jvm.Cond.code ({ cls := "java/lang/String", name := "checkIndex", desc := "(II)V" } : Jvm.MethodName) jdk_42_method_155_code (2 : Nat) (Option.none : Option Jvm.ClassFile.FieldType), Jvm.Cond.code ({ cls := "jdk/internal/util/Preconditions", name := "checkIndex", desc := "(IILjava/util/function/BiFunction;)I" } : Jvm.MethodName) jdk_41_method_11_code (3 : Nat) (Option.some Jvm.ClassFile.FieldType.int), Jvm.Cond.code ({ cls := "java/lang/String", name := "indexOf", desc := "(I)I" } : Jvm.MethodName) jdk_42_method_79_code (2 : Nat) (Option.some Jvm.ClassFile.FieldType.int), Jvm.Cond.code ({ cls := "java/lang/String", name := "indexOf", desc := "(II)I" } : Jvm.MethodName) jdk_42_method_80_code (3 : Nat) (Option.some Jvm.ClassFile.FieldType.int), Jvm.Cond.code ({ cls := "java/lang/StringLatin1", name := "indexOf", desc := "([BIII)I" } : Jvm.MethodName) jdk_43_method_22_code (4 : Nat) (Option.some Jvm.ClassFile.FieldType.int), Jvm.Cond.code ({ cls := "java/lang/StringLatin1", name := "canEncode", desc := "(I)Z" } : Jvm.MethodName) jdk_43_method_4_code (1 : Nat) (Option.some Jvm.ClassFile.FieldType.boolean), Jvm.Cond.code ({ cls := "java/lang/Math", name := "max", desc := "(II)I" } : Jvm.MethodName) jdk_29_method_65_code (2 : Nat) (Option.some Jvm.ClassFile.FieldType.int), Jvm.Cond.code ({ cls := "java/lang/Math", name := "min", desc := "(II)I" } : Jvm.MethodName) jdk_29_method_69_code (2 : Nat) (Option.some Jvm.ClassFile.FieldType.int), Jvm.Cond.code ({ cls := "java/lang/StringLatin1", name := "indexOfChar", desc := "([BIII)I" } : Jvm.MethodName) jdk_43_method_23_code (6 : Nat) (Option.some Jvm.ClassFile.FieldType.int), Jvm.Cond.code ({ cls := "java/lang/StringUTF16", name := "toBytes", desc := "([CII)[B" } : Jvm.MethodName) jdk_52_method_14_code (5 : Nat) (Option.some (Jvm.ClassFile.FieldType.array Jvm.ClassFile.FieldType.byte)), Jvm.Cond.code ({ cls := "java/lang/StringUTF16", name := "newBytesFor", desc := "(I)[B" } : Jvm.MethodName) jdk_52_method_2_code (1 : Nat) (Option.some (Jvm.ClassFile.FieldType.array Jvm.ClassFile.FieldType.byte)), Jvm.Cond.code ({ cls := "java/lang/StringUTF16", name := "newBytesLength", desc := "(I)I" } : Jvm.MethodName) jdk_52_method_3_code (1 : Nat) (Option.some Jvm.ClassFile.FieldType.int), Jvm.Cond.code ({ cls := "java/lang/StringUTF16", name := "putChar", desc := "([BII)V" } : Jvm.MethodName) jdk_52_method_4_code (3 : Nat) (Option.none : Option Jvm.ClassFile.FieldType), Jvm.Cond.code ({ cls := "java/lang/StringUTF16", name := "getChar", desc := "([BI)C" } : Jvm.MethodName) jdk_52_method_5_code (2 : Nat) (Option.some Jvm.ClassFile.FieldType.char), Jvm.Cond.code ({ cls := "java/lang/String", name := "valueOf", desc := "(C)Ljava/lang/String;" } : Jvm.MethodName) jdk_42_method_139_code (1 : Nat) (Option.some (Jvm.ClassFile.FieldType.object "java/lang/String")), Jvm.Cond.code ({ cls := "java/lang/StringLatin1", name := "canEncode", desc := "(C)Z" } : Jvm.MethodName) jdk_43_method_3_code (1 : Nat) (Option.some Jvm.ClassFile.FieldType.boolean), Jvm.Cond.code ({ cls := "java/lang/StringUTF16", name := "toBytes", desc := "(C)[B" } : Jvm.MethodName) jdk_52_method_24_code (2 : Nat) (Option.some (Jvm.ClassFile.FieldType.array Jvm.ClassFile.FieldType.byte)), Jvm.Cond.code ({ cls := "java/lang/String", name := "<init>", desc := "([BB)V" } : Jvm.MethodName) jdk_42_method_151_code (3 : Nat) (Option.none : Option Jvm.ClassFile.FieldType), Jvm.Cond.code ({ cls := "java/lang/StringUTF16", name := "charAt", desc := "([BI)C" } : Jvm.MethodName) jdk_52_method_83_code (2 : Nat) (Option.some Jvm.ClassFile.FieldType.char), Jvm.Cond.code ({ cls := "java/lang/StringUTF16", name := "checkIndex", desc := "(I[B)V" } : Jvm.MethodName) jdk_52_method_91_code (2 : Nat) (Option.none : Option Jvm.ClassFile.FieldType), Jvm.Cond.code ({ cls := "java/lang/StringUTF16", name := "length", desc := "([B)I" } : Jvm.MethodName) jdk_52_method_6_code (1 : Nat) (Option.some Jvm.ClassFile.FieldType.int), Jvm.Cond.code ({ cls := "java/lang/StringLatin1", name := "toBytes", desc := "(C)[B" } : Jvm.MethodName) jdk_43_method_46_code (1 : Nat) (Option.some (Jvm.ClassFile.FieldType.array Jvm.ClassFile.FieldType.byte))]
set_option maxRecDepth 65536 in
theorem codes_eq : words1.filter isCode = codes1 := rfl
theorem w_codes : ∀ c ∈ words1.filter isCode, c.before args0 about1 = true := by
  rw [codes_eq]
  intro c hc
  simp only [codes1, List.mem_cons, List.not_mem_nil, or_false] at hc
  rcases hc with rfl | rfl | rfl | rfl | rfl | rfl | rfl | rfl | rfl | rfl | rfl | rfl | rfl | rfl | rfl | rfl | rfl | rfl | rfl | rfl | rfl | rfl | rfl | rfl | rfl | rfl | rfl | rfl | rfl | rfl | rfl | rfl | rfl | rfl | rfl | rfl | rfl | rfl | rfl
  · exact w_c0
  · exact w_c1
  · exact w_c2
  · exact w_c3
  · exact w_c4
  · exact w_c5
  · exact w_c6
  · exact w_c7
  · exact w_c8
  · exact w_c9
  · exact w_c10
  · exact w_c11
  · exact w_c12
  · exact w_c13
  · exact w_c14
  · exact w_c15
  · exact w_c16
  · exact w_c17
  · exact w_c18
  · exact w_c19
  · exact w_c20
  · exact w_c21
  · exact w_c22
  · exact w_c23
  · exact w_c24
  · exact w_c25
  · exact w_c26
  · exact w_c27
  · exact w_c28
  · exact w_c29
  · exact w_c30
  · exact w_c31
  · exact w_c32
  · exact w_c33
  · exact w_c34
  · exact w_c35
  · exact w_c36
  · exact w_c37
  · exact w_c38
set_option maxRecDepth 65536 in
theorem w_t1 : (words1.take 24).all (fun c => isCode c || c.before args0 about1) = true := by decide +kernel
set_option maxRecDepth 65536 in
theorem w_t2 : ((words1.drop 24).take 24).all (fun c => isCode c || c.before args0 about1) = true := by decide +kernel
set_option maxRecDepth 65536 in
theorem w_t3 : (((words1.drop 24).drop 24).take 24).all (fun c => isCode c || c.before args0 about1) = true := by decide +kernel
set_option maxRecDepth 65536 in
theorem w_t4 : ((((words1.drop 24).drop 24).drop 24).take 24).all (fun c => isCode c || c.before args0 about1) = true := by decide +kernel
set_option maxRecDepth 65536 in
theorem w_t5 : (((((words1.drop 24).drop 24).drop 24).drop 24).take 24).all (fun c => isCode c || c.before args0 about1) = true := by decide +kernel
set_option maxRecDepth 65536 in
theorem w_t6 : ((((((words1.drop 24).drop 24).drop 24).drop 24).drop 24).take 24).all (fun c => isCode c || c.before args0 about1) = true := by decide +kernel
set_option maxRecDepth 65536 in
theorem w_t7 : ((((((words1.drop 24).drop 24).drop 24).drop 24).drop 24).drop 24).all (fun c => isCode c || c.before args0 about1) = true := by decide +kernel
theorem w_tables : (allAtoms (Jvm.Cond.code x code maxLocals ret :: tables_1)).before args0 about1 = true := by
  rw [allAtoms_all]
  show words1.all (fun c => c.before args0 about1) = true
  refine all_split ?_ w_codes
  rw [← List.take_append_drop 24 words1, List.all_append, w_t1, ← List.take_append_drop 24 (words1.drop 24), List.all_append, w_t2, ← List.take_append_drop 24 ((words1.drop 24).drop 24), List.all_append, w_t3, ← List.take_append_drop 24 (((words1.drop 24).drop 24).drop 24), List.all_append, w_t4, ← List.take_append_drop 24 ((((words1.drop 24).drop 24).drop 24).drop 24), List.all_append, w_t5, ← List.take_append_drop 24 (((((words1.drop 24).drop 24).drop 24).drop 24).drop 24), List.all_append, w_t6, w_t7]
  rfl
set_option maxRecDepth 65536 in
theorem w_rest : rest_1_c.before args0 about1 = true := by decide +kernel
set_option maxRecDepth 65536 in
theorem w_case : (Jvm.Cond.and given_1 narrow_1).before args0 about1 = true := by decide +kernel
set_option maxRecDepth 65536 in
theorem w_consts : constsHeld consts_1 about1 := Jvm.Lit.constsHeldB_iff.mp (by decide +kernel)
theorem w_applies : (headSpec (Jvm.Cond.code x code maxLocals ret :: tables_1) room_1).applies x e0.platform about1 = true :=
  (Spec.applies_iff w_frames).mpr ⟨w_running, w_runnable, w_alone, w_named, w_hears, w_ripe, w_room, w_tables⟩
theorem atStart : AtStart classFile x code maxLocals ret World_1 tables_1 room_1 Calls_1 rest_1 Pre_1 launch0 p0 e0 about1 theMethod args0 below0 :=
  ⟨lists_1, trivial, launch0.admits_env _ _ _, launch0.least_env, fairChoices_fair.cas, fairChoices_fair.clock, w_frames, w_args, w_heap, w_applies, ⟨w_consts, trivial⟩, w_rest, w_case⟩
end start1
theorem witness_1 : WitnessClaimed_1 := ⟨start1.p0, start1.e0, start1.about1, start1.theMethod, start1.args0, start1.below0, start1.atStart⟩
end Jvm.Pilot.@@N@@
