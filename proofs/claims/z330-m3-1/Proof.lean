import JvmDerived
import JvmDerived.Pilot.@@N@@Statement
import JvmDerived.Pilot.@@N@@Code
set_option linter.unusedVariables false
set_option linter.unusedSimpArgs false
namespace Jvm.Pilot.@@N@@
open Jvm Jvm.ClassFile Sem Op Lib Jvm.Free Jvm.Stand Jvm.LawKit Jvm.RoadKit Bundle Jvm.Pilot.@@N@@.Jvm.D
section OwnRet
variable {p : Program} {l : Launch} {e : Env} {R : Room} {s : State} {m : MethodId} {args : Array Value} {below : List Frame} {meth : Method} {c : Code} {T : State} {locs : List Loc} {cells slots : Nat}
theorem own_retI (X : Stand p l e R s m args below meth c T locs cells slots) (hx : p.tables.exec = Jvm.exec) {pc : Nat} {Ls : Array Slot} {z : Int32} {rest : List Value} (hret : meth.sig.returnType = some .int) (hd : decode c.code pc = .ok (.ireturn, 1)) {fs : List Frame}
    (hl : ∀ (f : JFrame) (acts : List Action), f.method = m → f.locked = none → f.entered = [] → (doReturn e (T.setTop f) acts (some (.int z))).1 = T.setFrames fs) : Steps p.tables e below (T.setTop (mkF m pc Ls (.int z :: rest))) (T.setFrames fs) := by
  have hm' : T.vm.method? m = some meth := X.method'
  have hn : narrow .int (.int z) = .int z := rfl
  show Steps p.tables e below (T.setTop { method := m, pc := pc, locals := Ls, stack := _ :: rest, locked := none }) _
  jvm_step X.here [X.here.top, hx, hd, hm', hret, hn]
  first | (intro acts; rw [hl _ acts rfl rfl rfl]) | rw [hl _ _ rfl rfl rfl]
  exact Steps.refl _
end OwnRet
def own_i2c (z : Int32) : Int32 := z.toUInt32.toUInt16.toUInt32.toInt32
def own_of (r : Int32) : Int32 := nar .char (own_i2c (if r < 63488 then (if r < 55296 then r else r + 2048) else r - 8192))
def own_rk (c : Int32) : Int32 := if c < 57344 then (if c < 55296 then c else c + 8192) else c - 2048
theorem own_i2c_id (z : Int32) (h0 : 0 ≤ z.toInt) (h1 : z.toInt < 65536) : own_i2c z = z := by
  apply Int32.toInt_inj.mp
  have := c_i2c z
  unfold own_i2c
  omega
theorem own_i2c_range (z : Int32) : 0 ≤ (own_i2c z).toInt ∧ (own_i2c z).toInt < 65536 := by
  have := c_i2c z
  unfold own_i2c
  omega
theorem own_of_int (r : Int32) (h0 : 0 ≤ r.toInt) (h1 : r.toInt < 65536) : (own_of r).toInt = if r.toInt < 63488 then (if r.toInt < 55296 then r.toInt else r.toInt + 2048) else r.toInt - 8192 := by
  have hlt : ∀ a b : Int32, a < b ↔ a.toInt < b.toInt := fun a b => Int32.lt_iff_toInt_lt
  have c1 : (63488 : Int32).toInt = 63488 := rfl
  have c2 : (55296 : Int32).toInt = 55296 := rfl
  have c3 : (2048 : Int32).toInt = 2048 := rfl
  have c4 : (8192 : Int32).toInt = 8192 := rfl
  have key : ∀ z : Int32, 0 ≤ z.toInt → z.toInt < 65536 → (nar .char (own_i2c z)).toInt = z.toInt := by
    intro z q0 q1
    rw [own_i2c_id z q0 q1]
    show (own_i2c z).toInt = z.toInt
    rw [own_i2c_id z q0 q1]
  have a1 := c_iadd r 2048
  have a2 := rng32 (r + 2048)
  have a3 := c_isub r 8192
  have a4 := rng32 (r - 8192)
  unfold own_of
  by_cases g1 : r.toInt < 63488
  · rw [if_pos ((hlt _ _).mpr (by rw [c1]; exact g1)), if_pos g1]
    by_cases g2 : r.toInt < 55296
    · rw [if_pos ((hlt _ _).mpr (by rw [c2]; exact g2)), if_pos g2]
      exact key r h0 h1
    · rw [if_neg (fun q => g2 (by have := (hlt _ _).mp q; rwa [c2] at this)), if_neg g2, key _ (by omega) (by omega)]
      omega
  · rw [if_neg (fun q => g1 (by have := (hlt _ _).mp q; rwa [c1] at this)), if_neg g1, key _ (by omega) (by omega)]
    omega
theorem own_rk_int (c : Int32) (h0 : 0 ≤ c.toInt) (h1 : c.toInt < 65536) : (own_rk c).toInt = if c.toInt < 57344 then (if c.toInt < 55296 then c.toInt else c.toInt + 8192) else c.toInt - 2048 := by
  have hlt : ∀ a b : Int32, a < b ↔ a.toInt < b.toInt := fun a b => Int32.lt_iff_toInt_lt
  have c1 : (57344 : Int32).toInt = 57344 := rfl
  have c2 : (55296 : Int32).toInt = 55296 := rfl
  have c3 : (2048 : Int32).toInt = 2048 := rfl
  have c4 : (8192 : Int32).toInt = 8192 := rfl
  have a1 := c_iadd c 8192
  have a2 := rng32 (c + 8192)
  have a3 := c_isub c 2048
  have a4 := rng32 (c - 2048)
  unfold own_rk
  by_cases g1 : c.toInt < 57344
  · rw [if_pos ((hlt _ _).mpr (by rw [c1]; exact g1)), if_pos g1]
    by_cases g2 : c.toInt < 55296
    · rw [if_pos ((hlt _ _).mpr (by rw [c2]; exact g2)), if_pos g2]
    · rw [if_neg (fun q => g2 (by have := (hlt _ _).mp q; rwa [c2] at this)), if_neg g2]
      omega
  · rw [if_neg (fun q => g1 (by have := (hlt _ _).mp q; rwa [c1] at this)), if_neg g1]
    omega
theorem own_rk_of (r : Int32) (h : 0 ≤ r.toInt ∧ r.toInt < 65536) : own_rk (own_of r) = r := by
  have h1 := own_of_int r h.1 h.2
  have h2 := own_rk_int (own_of r) (by split at h1 <;> (try split at h1) <;> omega) (by split at h1 <;> (try split at h1) <;> omega)
  apply Int32.toInt_inj.mp
  rw [h2]
  split at h1 <;> (try split at h1) <;> (split <;> (try split) <;> omega)
theorem own_of_rk (c : Int32) (h : 0 ≤ c.toInt ∧ c.toInt < 65536) : own_of (own_rk c) = c := by
  have h1 := own_rk_int c h.1 h.2
  have h2 := own_of_int (own_rk c) (by split at h1 <;> (try split at h1) <;> omega) (by split at h1 <;> (try split at h1) <;> omega)
  apply Int32.toInt_inj.mp
  rw [h2]
  split at h1 <;> (try split at h1) <;> (split <;> (try split) <;> omega)
theorem own_mask (x : Int32) : 0 ≤ (x &&& (65535 : Int32)).toInt ∧ (x &&& (65535 : Int32)).toInt < 65536 := by
  have h1 := c_and x 65535 (by decide)
  have h2 : (65535 : Int32).toInt = 65535 := rfl
  omega
theorem own_d1_0 : decode prog_65_method_5_code 0 = .ok (.iload_n 0, 1) := by decide +kernel
theorem own_d1_1 : decode prog_65_method_5_code 1 = .ok (.ldc 50, 2) := by decide +kernel
theorem own_d1_3 : decode prog_65_method_5_code 3 = .ok (.if_icmp .lt 12, 3) := by decide +kernel
theorem own_d1_6 : decode prog_65_method_5_code 6 = .ok (.iload_n 0, 1) := by decide +kernel
theorem own_d1_7 : decode prog_65_method_5_code 7 = .ok (.sipush 8192, 3) := by decide +kernel
theorem own_d1_10 : decode prog_65_method_5_code 10 = .ok (.isub, 1) := by decide +kernel
theorem own_d1_11 : decode prog_65_method_5_code 11 = .ok (.istore_n 1, 1) := by decide +kernel
theorem own_d1_12 : decode prog_65_method_5_code 12 = .ok (.goto 20, 3) := by decide +kernel
theorem own_d1_15 : decode prog_65_method_5_code 15 = .ok (.iload_n 0, 1) := by decide +kernel
theorem own_d1_16 : decode prog_65_method_5_code 16 = .ok (.ldc 49, 2) := by decide +kernel
theorem own_d1_18 : decode prog_65_method_5_code 18 = .ok (.if_icmp .lt 12, 3) := by decide +kernel
theorem own_d1_21 : decode prog_65_method_5_code 21 = .ok (.iload_n 0, 1) := by decide +kernel
theorem own_d1_22 : decode prog_65_method_5_code 22 = .ok (.sipush 2048, 3) := by decide +kernel
theorem own_d1_25 : decode prog_65_method_5_code 25 = .ok (.iadd, 1) := by decide +kernel
theorem own_d1_26 : decode prog_65_method_5_code 26 = .ok (.istore_n 1, 1) := by decide +kernel
theorem own_d1_27 : decode prog_65_method_5_code 27 = .ok (.goto 5, 3) := by decide +kernel
theorem own_d1_30 : decode prog_65_method_5_code 30 = .ok (.iload_n 0, 1) := by decide +kernel
theorem own_d1_31 : decode prog_65_method_5_code 31 = .ok (.istore_n 1, 1) := by decide +kernel
theorem own_d1_32 : decode prog_65_method_5_code 32 = .ok (.iload_n 1, 1) := by decide +kernel
theorem own_d1_33 : decode prog_65_method_5_code 33 = .ok (.i2c, 1) := by decide +kernel
theorem own_d1_34 : decode prog_65_method_5_code 34 = .ok (.ireturn, 1) := by decide +kernel
theorem own_pn0 : plainName "com/example/iso_txn/isotxn/Utf8" = true := by first | (simp [plainName, overriddenIn]; done) | decide +kernel
theorem own_ef1 (m : MethodId) (x0 : Int32) : entryFrame m #[(.int x0)] 2 = mkF m 0 #[.val (.int x0), .unset] [] := by first | (simp [entryFrame, mkF, argsToLocals, Value.category]; done) | rfl
def own_Q1 (Z : State) (p1 : Int32) (h0 : Heap) (n0 : Nat) (v : Option Value) (h : Heap) (L : List Loc) : Prop := v = some (.int (own_of p1)) ∧ Fr n0 L ∧ h = h0
set_option maxRecDepth 65536 in
set_option maxHeartbeats 40000000 in
theorem own_rm1 (l : Launch) (Z : State) (a0 : Array Value) (hw : ∀ d ∈ tables_1, d.before a0 Z = true) (ws : List Jvm.Cond) (p1 : Int32) (h0 : Heap) (n0 : Nat) (Z0 : n0 ≤ h0.size) :
    MetFree l (⟨"com/example/iso_txn/isotxn/Utf8", "ofCodePointRank", "(I)C"⟩ : MethodName) (head1 (Jvm.Cond.code (⟨"com/example/iso_txn/isotxn/Utf8", "ofCodePointRank", "(I)C"⟩ : MethodName) prog_65_method_5_code 2 (some .char) :: ws) ({ frames := 0, cells := 0, slots := 0, locals := 0 } : Room)) (fun a U => a = #[(.int p1)] ∧ Z.Warmed39 U.vm ∧ U.heap = h0) (fun _ _ _ _ _ => True) (fun _ U o U' => ∃ v L, o = .returned v ∧ own_Q1 Z p1 h0 n0 v U'.heap L ∧ FrameEnd U o U' L ({ frames := 0, cells := 0, slots := 0, locals := 0 } : Room).cells ({ frames := 0, cells := 0, slots := 0, locals := 0 } : Room).slots) := by
  refine MetFree.of_bodySF (plainFor_of_name own_pn0) hisR ?_
  intro p e s m args below meth c s₁ Bd hml0 hP hK
  obtain ⟨rfl, hZ, hh⟩ := hP
  have hx := Bd.exec
  have hby := Bd.bytes
  have hml : c.maxLocals = 2 := hml0
  have hown : s.vm.findClass "com/example/iso_txn/isotxn/Utf8" = some m.cls := findClass_of_methodNamed Bd.named
  have hnm := (name_of_methodNamed Bd.named Bd.method).1
  have X0 : Stand p l e ({ frames := 0, cells := 0, slots := 0, locals := 0 } : Room) s m #[(.int p1)] below meth c s₁ [] 0 0 := Stand.of_body Bd
  have e0 : s₁.heap = h0 := by rw [← hh, Bd.state]; rfl
  have N0 := Fr.nil n0
  have pre0 : ∀ t, Steps p.tables e below (s₁.setTop (mkF m 0 #[.val (.int p1), .unset] [])) t → Steps p.tables e below (s₁.setTop (entryFrame m #[(.int p1)] 2)) t := fun t k => castTop (own_ef1 m p1) k

  obtain ⟨fs, hr, hrun, hended, hW, hsame⟩ := X0.leave (v := some (.int (own_of p1))) (fun h => by rw [Bd.returns] at h; cases h)
  refine ⟨_, _, pre0 _ ?_, hrun, hended, _, _, rfl, ?_, ⟨_, rfl⟩, hW, hsame.mono (by decide) (by decide)⟩
  · show Steps p.tables e below (s₁.setTop (mkF m 0 #[.val (.int p1), .unset] [])) _
    refine XS.iloadN X0.here hx rfl (hb hby own_d1_0) rfl ?_
    show Steps p.tables e below (s₁.setTop (mkF m 1 #[.val (.int p1), .unset] [(.int p1)])) _
    refine X0.ldcInt hx hown (mvT hZ (hw _ (List.mem_of_getElem? (i := 5) rfl))) (g := (mkF m 1 #[.val (.int p1), .unset] [(.int p1)])) rfl (hb hby own_d1_1) _ ?_
    by_cases hc3 : p1 < (63488 : Int32)
    · show Steps p.tables e below (s₁.setTop (mkF m 3 #[.val (.int p1), .unset] [(.int (63488 : Int32)), (.int p1)])) _
      refine XS.icmpYes X0.here hx rfl (pc0 := 3) (pc' := 15) rfl (hb hby own_d1_3) rfl (tlt hc3).1 (by decide) (by decide) ?_
      show Steps p.tables e below (s₁.setTop (mkF m 15 #[.val (.int p1), .unset] [])) _
      refine XS.iloadN X0.here hx rfl (hb hby own_d1_15) rfl ?_
      show Steps p.tables e below (s₁.setTop (mkF m 16 #[.val (.int p1), .unset] [(.int p1)])) _
      refine X0.ldcInt hx hown (mvT hZ (hw _ (List.mem_of_getElem? (i := 6) rfl))) (g := (mkF m 16 #[.val (.int p1), .unset] [(.int p1)])) rfl (hb hby own_d1_16) _ ?_
      by_cases hc18 : p1 < (55296 : Int32)
      · show Steps p.tables e below (s₁.setTop (mkF m 18 #[.val (.int p1), .unset] [(.int (55296 : Int32)), (.int p1)])) _
        refine XS.icmpYes X0.here hx rfl (pc0 := 18) (pc' := 30) rfl (hb hby own_d1_18) rfl (tlt hc18).1 (by decide) (by decide) ?_
        show Steps p.tables e below (s₁.setTop (mkF m 30 #[.val (.int p1), .unset] [])) _
        refine XS.iloadN X0.here hx rfl (hb hby own_d1_30) rfl ?_
        show Steps p.tables e below (s₁.setTop (mkF m 31 #[.val (.int p1), .unset] [(.int p1)])) _
        refine XS.istoreN X0.here hx rfl (hb hby own_d1_31) rfl (l' := #[.val (.int p1), .val (.int p1)]) rfl ?_
        show Steps p.tables e below (s₁.setTop (mkF m 32 #[.val (.int p1), .val (.int p1)] [])) _
        refine XS.iloadN X0.here hx rfl (hb hby own_d1_32) rfl ?_
        show Steps p.tables e below (s₁.setTop (mkF m 33 #[.val (.int p1), .val (.int p1)] [(.int p1)])) _
        refine XS.i2c X0.here hx rfl (hb hby own_d1_33) rfl ?_
        show Steps p.tables e below (s₁.setTop (mkF m 34 #[.val (.int p1), .val (.int p1)] [(.int (p1.toUInt32.toUInt16.toUInt32.toInt32))])) _
        have qv : (own_of p1) = (nar .char (p1.toUInt32.toUInt16.toUInt32.toInt32)) := by simp only [own_of, if_pos, if_neg, hc3, hc18, not_false_eq_true, own_i2c]
        rw [qv] at hr
        exact retN X0 hx (t := .char) Bd.returns (by simp) (hb hby own_d1_34) hr
      · show Steps p.tables e below (s₁.setTop (mkF m 18 #[.val (.int p1), .unset] [(.int (55296 : Int32)), (.int p1)])) _
        refine XS.icmpNo X0.here hx rfl (hb hby own_d1_18) rfl (flt hc18).1 ?_
        show Steps p.tables e below (s₁.setTop (mkF m 21 #[.val (.int p1), .unset] [])) _
        refine XS.iloadN X0.here hx rfl (hb hby own_d1_21) rfl ?_
        show Steps p.tables e below (s₁.setTop (mkF m 22 #[.val (.int p1), .unset] [(.int p1)])) _
        refine XS.sipush X0.here hx rfl (hb hby own_d1_22) ?_
        show Steps p.tables e below (s₁.setTop (mkF m 25 #[.val (.int p1), .unset] [(.int (2048 : Int32)), (.int p1)])) _
        refine XS.iadd X0.here hx rfl (hb hby own_d1_25) rfl ?_
        show Steps p.tables e below (s₁.setTop (mkF m 26 #[.val (.int p1), .unset] [(.int (p1 + (2048 : Int32)))])) _
        refine XS.istoreN X0.here hx rfl (hb hby own_d1_26) rfl (l' := #[.val (.int p1), .val (.int (p1 + (2048 : Int32)))]) rfl ?_
        show Steps p.tables e below (s₁.setTop (mkF m 27 #[.val (.int p1), .val (.int (p1 + (2048 : Int32)))] [])) _
        refine XS.goto X0.here hx rfl (pc0 := 27) (pc' := 32) rfl (hb hby own_d1_27) (by decide) (by decide) ?_
        show Steps p.tables e below (s₁.setTop (mkF m 32 #[.val (.int p1), .val (.int (p1 + (2048 : Int32)))] [])) _
        refine XS.iloadN X0.here hx rfl (hb hby own_d1_32) rfl ?_
        show Steps p.tables e below (s₁.setTop (mkF m 33 #[.val (.int p1), .val (.int (p1 + (2048 : Int32)))] [(.int (p1 + (2048 : Int32)))])) _
        refine XS.i2c X0.here hx rfl (hb hby own_d1_33) rfl ?_
        show Steps p.tables e below (s₁.setTop (mkF m 34 #[.val (.int p1), .val (.int (p1 + (2048 : Int32)))] [(.int ((p1 + (2048 : Int32)).toUInt32.toUInt16.toUInt32.toInt32))])) _
        have qv : (own_of p1) = (nar .char ((p1 + (2048 : Int32)).toUInt32.toUInt16.toUInt32.toInt32)) := by simp only [own_of, if_pos, if_neg, hc3, hc18, not_false_eq_true, own_i2c]
        rw [qv] at hr
        exact retN X0 hx (t := .char) Bd.returns (by simp) (hb hby own_d1_34) hr
    · show Steps p.tables e below (s₁.setTop (mkF m 3 #[.val (.int p1), .unset] [(.int (63488 : Int32)), (.int p1)])) _
      refine XS.icmpNo X0.here hx rfl (hb hby own_d1_3) rfl (flt hc3).1 ?_
      show Steps p.tables e below (s₁.setTop (mkF m 6 #[.val (.int p1), .unset] [])) _
      refine XS.iloadN X0.here hx rfl (hb hby own_d1_6) rfl ?_
      show Steps p.tables e below (s₁.setTop (mkF m 7 #[.val (.int p1), .unset] [(.int p1)])) _
      refine XS.sipush X0.here hx rfl (hb hby own_d1_7) ?_
      show Steps p.tables e below (s₁.setTop (mkF m 10 #[.val (.int p1), .unset] [(.int (8192 : Int32)), (.int p1)])) _
      refine XS.isub X0.here hx rfl (hb hby own_d1_10) rfl ?_
      show Steps p.tables e below (s₁.setTop (mkF m 11 #[.val (.int p1), .unset] [(.int (p1 - (8192 : Int32)))])) _
      refine XS.istoreN X0.here hx rfl (hb hby own_d1_11) rfl (l' := #[.val (.int p1), .val (.int (p1 - (8192 : Int32)))]) rfl ?_
      show Steps p.tables e below (s₁.setTop (mkF m 12 #[.val (.int p1), .val (.int (p1 - (8192 : Int32)))] [])) _
      refine XS.goto X0.here hx rfl (pc0 := 12) (pc' := 32) rfl (hb hby own_d1_12) (by decide) (by decide) ?_
      show Steps p.tables e below (s₁.setTop (mkF m 32 #[.val (.int p1), .val (.int (p1 - (8192 : Int32)))] [])) _
      refine XS.iloadN X0.here hx rfl (hb hby own_d1_32) rfl ?_
      show Steps p.tables e below (s₁.setTop (mkF m 33 #[.val (.int p1), .val (.int (p1 - (8192 : Int32)))] [(.int (p1 - (8192 : Int32)))])) _
      refine XS.i2c X0.here hx rfl (hb hby own_d1_33) rfl ?_
      show Steps p.tables e below (s₁.setTop (mkF m 34 #[.val (.int p1), .val (.int (p1 - (8192 : Int32)))] [(.int ((p1 - (8192 : Int32)).toUInt32.toUInt16.toUInt32.toInt32))])) _
      have qv : (own_of p1) = (nar .char ((p1 - (8192 : Int32)).toUInt32.toUInt16.toUInt32.toInt32)) := by simp only [own_of, if_pos, if_neg, hc3, not_false_eq_true, own_i2c]
      rw [qv] at hr
      exact retN X0 hx (t := .char) Bd.returns (by simp) (hb hby own_d1_34) hr
  · show own_Q1 Z p1 h0 n0 _ s₁.heap _
    rw [e0]
    exact ⟨rfl, N0, rfl⟩
theorem own_d2_0 : decode prog_65_method_4_code 0 = .ok (.iload_n 0, 1) := by decide +kernel
theorem own_d2_1 : decode prog_65_method_4_code 1 = .ok (.ldc 48, 2) := by decide +kernel
theorem own_d2_3 : decode prog_65_method_4_code 3 = .ok (.if_icmp .lt 12, 3) := by decide +kernel
theorem own_d2_6 : decode prog_65_method_4_code 6 = .ok (.iload_n 0, 1) := by decide +kernel
theorem own_d2_7 : decode prog_65_method_4_code 7 = .ok (.sipush 2048, 3) := by decide +kernel
theorem own_d2_10 : decode prog_65_method_4_code 10 = .ok (.isub, 1) := by decide +kernel
theorem own_d2_11 : decode prog_65_method_4_code 11 = .ok (.istore_n 1, 1) := by decide +kernel
theorem own_d2_12 : decode prog_65_method_4_code 12 = .ok (.goto 20, 3) := by decide +kernel
theorem own_d2_15 : decode prog_65_method_4_code 15 = .ok (.iload_n 0, 1) := by decide +kernel
theorem own_d2_16 : decode prog_65_method_4_code 16 = .ok (.ldc 49, 2) := by decide +kernel
theorem own_d2_18 : decode prog_65_method_4_code 18 = .ok (.if_icmp .lt 12, 3) := by decide +kernel
theorem own_d2_21 : decode prog_65_method_4_code 21 = .ok (.iload_n 0, 1) := by decide +kernel
theorem own_d2_22 : decode prog_65_method_4_code 22 = .ok (.sipush 8192, 3) := by decide +kernel
theorem own_d2_25 : decode prog_65_method_4_code 25 = .ok (.iadd, 1) := by decide +kernel
theorem own_d2_26 : decode prog_65_method_4_code 26 = .ok (.istore_n 1, 1) := by decide +kernel
theorem own_d2_27 : decode prog_65_method_4_code 27 = .ok (.goto 5, 3) := by decide +kernel
theorem own_d2_30 : decode prog_65_method_4_code 30 = .ok (.iload_n 0, 1) := by decide +kernel
theorem own_d2_31 : decode prog_65_method_4_code 31 = .ok (.istore_n 1, 1) := by decide +kernel
theorem own_d2_32 : decode prog_65_method_4_code 32 = .ok (.iload_n 1, 1) := by decide +kernel
theorem own_d2_33 : decode prog_65_method_4_code 33 = .ok (.ireturn, 1) := by decide +kernel
theorem own_ef2 (m : MethodId) (x0 : Int32) : entryFrame m #[(.int x0)] 2 = mkF m 0 #[.val (.int x0), .unset] [] := by first | (simp [entryFrame, mkF, argsToLocals, Value.category]; done) | rfl
def own_Q2 (Z : State) (p1 : Int32) (h0 : Heap) (n0 : Nat) (v : Option Value) (h : Heap) (L : List Loc) : Prop := v = some (.int (own_rk p1)) ∧ Fr n0 L ∧ h = h0
set_option maxRecDepth 65536 in
set_option maxHeartbeats 40000000 in
theorem own_rm2 (l : Launch) (Z : State) (a0 : Array Value) (hw : ∀ d ∈ tables_1, d.before a0 Z = true) (ws : List Jvm.Cond) (p1 : Int32) (h0 : Heap) (n0 : Nat) (Z0 : n0 ≤ h0.size) :
    MetFree l (⟨"com/example/iso_txn/isotxn/Utf8", "codePointRank", "(C)I"⟩ : MethodName) (head1 (Jvm.Cond.code (⟨"com/example/iso_txn/isotxn/Utf8", "codePointRank", "(C)I"⟩ : MethodName) prog_65_method_4_code 2 (some .int) :: ws) ({ frames := 0, cells := 0, slots := 0, locals := 0 } : Room)) (fun a U => a = #[(.int p1)] ∧ Z.Warmed39 U.vm ∧ U.heap = h0) (fun _ _ _ _ _ => True) (fun _ U o U' => ∃ v L, o = .returned v ∧ own_Q2 Z p1 h0 n0 v U'.heap L ∧ FrameEnd U o U' L ({ frames := 0, cells := 0, slots := 0, locals := 0 } : Room).cells ({ frames := 0, cells := 0, slots := 0, locals := 0 } : Room).slots) := by
  refine MetFree.of_bodySF (plainFor_of_name own_pn0) hisR ?_
  intro p e s m args below meth c s₁ Bd hml0 hP hK
  obtain ⟨rfl, hZ, hh⟩ := hP
  have hx := Bd.exec
  have hby := Bd.bytes
  have hml : c.maxLocals = 2 := hml0
  have hown : s.vm.findClass "com/example/iso_txn/isotxn/Utf8" = some m.cls := findClass_of_methodNamed Bd.named
  have hnm := (name_of_methodNamed Bd.named Bd.method).1
  have X0 : Stand p l e ({ frames := 0, cells := 0, slots := 0, locals := 0 } : Room) s m #[(.int p1)] below meth c s₁ [] 0 0 := Stand.of_body Bd
  have e0 : s₁.heap = h0 := by rw [← hh, Bd.state]; rfl
  have N0 := Fr.nil n0
  have pre0 : ∀ t, Steps p.tables e below (s₁.setTop (mkF m 0 #[.val (.int p1), .unset] [])) t → Steps p.tables e below (s₁.setTop (entryFrame m #[(.int p1)] 2)) t := fun t k => castTop (own_ef2 m p1) k

  obtain ⟨fs, hr, hrun, hended, hW, hsame⟩ := X0.leave (v := some (.int (own_rk p1))) (fun h => by rw [Bd.returns] at h; cases h)
  refine ⟨_, _, pre0 _ ?_, hrun, hended, _, _, rfl, ?_, ⟨_, rfl⟩, hW, hsame.mono (by decide) (by decide)⟩
  · show Steps p.tables e below (s₁.setTop (mkF m 0 #[.val (.int p1), .unset] [])) _
    refine XS.iloadN X0.here hx rfl (hb hby own_d2_0) rfl ?_
    show Steps p.tables e below (s₁.setTop (mkF m 1 #[.val (.int p1), .unset] [(.int p1)])) _
    refine X0.ldcInt hx hown (mvT hZ (hw _ (List.mem_of_getElem? (i := 10) rfl))) (g := (mkF m 1 #[.val (.int p1), .unset] [(.int p1)])) rfl (hb hby own_d2_1) _ ?_
    by_cases hc3 : p1 < (57344 : Int32)
    · show Steps p.tables e below (s₁.setTop (mkF m 3 #[.val (.int p1), .unset] [(.int (57344 : Int32)), (.int p1)])) _
      refine XS.icmpYes X0.here hx rfl (pc0 := 3) (pc' := 15) rfl (hb hby own_d2_3) rfl (tlt hc3).1 (by decide) (by decide) ?_
      show Steps p.tables e below (s₁.setTop (mkF m 15 #[.val (.int p1), .unset] [])) _
      refine XS.iloadN X0.here hx rfl (hb hby own_d2_15) rfl ?_
      show Steps p.tables e below (s₁.setTop (mkF m 16 #[.val (.int p1), .unset] [(.int p1)])) _
      refine X0.ldcInt hx hown (mvT hZ (hw _ (List.mem_of_getElem? (i := 6) rfl))) (g := (mkF m 16 #[.val (.int p1), .unset] [(.int p1)])) rfl (hb hby own_d2_16) _ ?_
      by_cases hc18 : p1 < (55296 : Int32)
      · show Steps p.tables e below (s₁.setTop (mkF m 18 #[.val (.int p1), .unset] [(.int (55296 : Int32)), (.int p1)])) _
        refine XS.icmpYes X0.here hx rfl (pc0 := 18) (pc' := 30) rfl (hb hby own_d2_18) rfl (tlt hc18).1 (by decide) (by decide) ?_
        show Steps p.tables e below (s₁.setTop (mkF m 30 #[.val (.int p1), .unset] [])) _
        refine XS.iloadN X0.here hx rfl (hb hby own_d2_30) rfl ?_
        show Steps p.tables e below (s₁.setTop (mkF m 31 #[.val (.int p1), .unset] [(.int p1)])) _
        refine XS.istoreN X0.here hx rfl (hb hby own_d2_31) rfl (l' := #[.val (.int p1), .val (.int p1)]) rfl ?_
        show Steps p.tables e below (s₁.setTop (mkF m 32 #[.val (.int p1), .val (.int p1)] [])) _
        refine XS.iloadN X0.here hx rfl (hb hby own_d2_32) rfl ?_
        show Steps p.tables e below (s₁.setTop (mkF m 33 #[.val (.int p1), .val (.int p1)] [(.int p1)])) _
        have qv : (own_rk p1) = p1 := by simp only [own_rk, if_pos, if_neg, hc3, hc18, not_false_eq_true]
        rw [qv] at hr
        exact own_retI X0 hx Bd.returns (hb hby own_d2_33) hr
      · show Steps p.tables e below (s₁.setTop (mkF m 18 #[.val (.int p1), .unset] [(.int (55296 : Int32)), (.int p1)])) _
        refine XS.icmpNo X0.here hx rfl (hb hby own_d2_18) rfl (flt hc18).1 ?_
        show Steps p.tables e below (s₁.setTop (mkF m 21 #[.val (.int p1), .unset] [])) _
        refine XS.iloadN X0.here hx rfl (hb hby own_d2_21) rfl ?_
        show Steps p.tables e below (s₁.setTop (mkF m 22 #[.val (.int p1), .unset] [(.int p1)])) _
        refine XS.sipush X0.here hx rfl (hb hby own_d2_22) ?_
        show Steps p.tables e below (s₁.setTop (mkF m 25 #[.val (.int p1), .unset] [(.int (8192 : Int32)), (.int p1)])) _
        refine XS.iadd X0.here hx rfl (hb hby own_d2_25) rfl ?_
        show Steps p.tables e below (s₁.setTop (mkF m 26 #[.val (.int p1), .unset] [(.int (p1 + (8192 : Int32)))])) _
        refine XS.istoreN X0.here hx rfl (hb hby own_d2_26) rfl (l' := #[.val (.int p1), .val (.int (p1 + (8192 : Int32)))]) rfl ?_
        show Steps p.tables e below (s₁.setTop (mkF m 27 #[.val (.int p1), .val (.int (p1 + (8192 : Int32)))] [])) _
        refine XS.goto X0.here hx rfl (pc0 := 27) (pc' := 32) rfl (hb hby own_d2_27) (by decide) (by decide) ?_
        show Steps p.tables e below (s₁.setTop (mkF m 32 #[.val (.int p1), .val (.int (p1 + (8192 : Int32)))] [])) _
        refine XS.iloadN X0.here hx rfl (hb hby own_d2_32) rfl ?_
        show Steps p.tables e below (s₁.setTop (mkF m 33 #[.val (.int p1), .val (.int (p1 + (8192 : Int32)))] [(.int (p1 + (8192 : Int32)))])) _
        have qv : (own_rk p1) = (p1 + (8192 : Int32)) := by simp only [own_rk, if_pos, if_neg, hc3, hc18, not_false_eq_true]
        rw [qv] at hr
        exact own_retI X0 hx Bd.returns (hb hby own_d2_33) hr
    · show Steps p.tables e below (s₁.setTop (mkF m 3 #[.val (.int p1), .unset] [(.int (57344 : Int32)), (.int p1)])) _
      refine XS.icmpNo X0.here hx rfl (hb hby own_d2_3) rfl (flt hc3).1 ?_
      show Steps p.tables e below (s₁.setTop (mkF m 6 #[.val (.int p1), .unset] [])) _
      refine XS.iloadN X0.here hx rfl (hb hby own_d2_6) rfl ?_
      show Steps p.tables e below (s₁.setTop (mkF m 7 #[.val (.int p1), .unset] [(.int p1)])) _
      refine XS.sipush X0.here hx rfl (hb hby own_d2_7) ?_
      show Steps p.tables e below (s₁.setTop (mkF m 10 #[.val (.int p1), .unset] [(.int (2048 : Int32)), (.int p1)])) _
      refine XS.isub X0.here hx rfl (hb hby own_d2_10) rfl ?_
      show Steps p.tables e below (s₁.setTop (mkF m 11 #[.val (.int p1), .unset] [(.int (p1 - (2048 : Int32)))])) _
      refine XS.istoreN X0.here hx rfl (hb hby own_d2_11) rfl (l' := #[.val (.int p1), .val (.int (p1 - (2048 : Int32)))]) rfl ?_
      show Steps p.tables e below (s₁.setTop (mkF m 12 #[.val (.int p1), .val (.int (p1 - (2048 : Int32)))] [])) _
      refine XS.goto X0.here hx rfl (pc0 := 12) (pc' := 32) rfl (hb hby own_d2_12) (by decide) (by decide) ?_
      show Steps p.tables e below (s₁.setTop (mkF m 32 #[.val (.int p1), .val (.int (p1 - (2048 : Int32)))] [])) _
      refine XS.iloadN X0.here hx rfl (hb hby own_d2_32) rfl ?_
      show Steps p.tables e below (s₁.setTop (mkF m 33 #[.val (.int p1), .val (.int (p1 - (2048 : Int32)))] [(.int (p1 - (2048 : Int32)))])) _
      have qv : (own_rk p1) = (p1 - (2048 : Int32)) := by simp only [own_rk, if_pos, if_neg, hc3, not_false_eq_true]
      rw [qv] at hr
      exact own_retI X0 hx Bd.returns (hb hby own_d2_33) hr
  · show own_Q2 Z p1 h0 n0 _ s₁.heap _
    rw [e0]
    exact ⟨rfl, N0, rfl⟩
theorem own_pd0 : parseMethodDescriptor "(I)C" = some ⟨[.int], some .char⟩ := by decide +kernel
theorem own_pd1 : parseMethodDescriptor "(C)I" = some ⟨[.char], some .int⟩ := by decide +kernel
theorem own_pn1 : plainName "com/example/iso_txn/isotxn/Utf8OfCodePointRankPinLaw" = true := by first | (simp [plainName, overriddenIn]; done) | decide +kernel
theorem own_ef0 (m : MethodId) (x0 : Int32) (x1 : Int32) : entryFrame m #[(.int x0), (.int x1)] maxLocals = mkF m 0 #[.val (.int x0), .val (.int x1), .unset, .unset, .unset, .unset, .unset, .unset] [] := by first | (simp [entryFrame, mkF, argsToLocals, Value.category, maxLocals]; done) | rfl
def own_Q0 (Z : State) (p1 : Int32) (p2 : Int32) (h0 : Heap) (n0 : Nat) (v : Option Value) (h : Heap) (L : List Loc) : Prop := v = some (.int 1) ∧ Fr n0 L
set_option maxRecDepth 65536 in
set_option maxHeartbeats 40000000 in
theorem own_rm0 (l : Launch) (Z : State) (a0 : Array Value) (hw : ∀ d ∈ tables_1, d.before a0 Z = true) (ws : List Jvm.Cond) (p1 : Int32) (p2 : Int32) (h0 : Heap) (n0 : Nat) (Z0 : n0 ≤ h0.size) :
    MetFree l x (head1 (Jvm.Cond.code x code maxLocals ret :: ws) room_1) (fun a U => a = #[(.int p1), (.int p2)] ∧ Z.Warmed39 U.vm ∧ U.heap = h0) (fun _ _ _ _ _ => True) (fun _ U o U' => ∃ v L, o = .returned v ∧ own_Q0 Z p1 p2 h0 n0 v U'.heap L ∧ FrameEnd U o U' L room_1.cells room_1.slots) := by
  refine MetFree.of_bodySF (plainFor_of_name own_pn1) hisR ?_
  intro p e s m args below meth c s₁ Bd hml0 hP hK
  obtain ⟨rfl, hZ, hh⟩ := hP
  have hx := Bd.exec
  have hby := Bd.bytes
  have hml : c.maxLocals = 8 := hml0
  have hown : s.vm.findClass "com/example/iso_txn/isotxn/Utf8OfCodePointRankPinLaw" = some m.cls := findClass_of_methodNamed Bd.named
  have hnm := (name_of_methodNamed Bd.named Bd.method).1
  have X0 : Stand p l e room_1 s m #[(.int p1), (.int p2)] below meth c s₁ [] 0 0 := Stand.of_body Bd
  have e0 : s₁.heap = h0 := by rw [← hh, Bd.state]; rfl
  have N0 := Fr.nil n0
  have pre0 : ∀ t, Steps p.tables e below (s₁.setTop (mkF m 0 #[.val (.int p1), .val (.int p2), .unset, .unset, .unset, .unset, .unset, .unset] [])) t → Steps p.tables e below (s₁.setTop (entryFrame m #[(.int p1), (.int p2)] maxLocals)) t := fun t k => castTop (own_ef0 m p1 p2) k
  obtain ⟨rn, n_rn⟩ : ∃ z : Int32, z = (p1 &&& (65535 : Int32)) := ⟨_, rfl⟩
  have hrn : 0 ≤ rn.toInt ∧ rn.toInt < 65536 := n_rn ▸ own_mask p1
  obtain ⟨_, _, ⟨T1, L1, k1, n1⟩, -, X1, ⟨Lc1, hQ1, l1, y1, z1⟩, st1⟩ := Jvm.LawKit.callS X0 hx (y := (⟨"com/example/iso_txn/isotxn/Utf8", "ofCodePointRank", "(I)C"⟩ : MethodName)) hown (mvT hZ (hw _ (List.mem_of_getElem? (i := 1) rfl))) (mvT hZ (hw _ (List.mem_of_getElem? (i := 2) rfl))) (mvT hZ (hw _ (List.mem_of_getElem? (i := 3) rfl))) (mvT hZ (hw _ (List.mem_of_getElem? (i := 4) rfl))) (by decide) (backOf (W := 0) (own_rm1 l Z a0 hw [] rn  h0 n0 Z0) hZ (hw _ (List.mem_of_getElem? (i := 4) rfl)) (hw _ (List.mem_of_getElem? (i := 3) rfl)) (by decide) (by decide)) (g := (mkF m 6 #[.val (.int p1), .val (.int p2), .val (.int rn), .unset, .unset, .unset, .unset, .unset] [(.int rn)])) rfl (by rw [hml]; rfl) (argsL := [(.int rn)]) (rest := []) (lenOf own_pd0 rfl) rfl (by show 2 * 0 + _ ≤ _; exact Nat.le_of_eq rfl) (hb hby at_6) (fun _ _ => ⟨rfl, e0, (by decide : 0 + 0 ≤ _), (by decide : 0 + 0 ≤ _)⟩)
  dsimp only [Pt.U, Pt.locs, Pt.cells, Pt.slots] at X1 l1 y1 z1 st1 hQ1
  subst l1 y1 z1
  obtain ⟨rfl, N1q, e1⟩ := hQ1
  have N1 := Fr.app N0 N1q
  obtain ⟨_, _, ⟨T2, L2, k2, n2⟩, -, X2, ⟨Lc2, hQ2, l2, y2, z2⟩, st2⟩ := Jvm.LawKit.callS X1 hx (y := (⟨"com/example/iso_txn/isotxn/Utf8", "codePointRank", "(C)I"⟩ : MethodName)) hown (mvT hZ (hw _ (List.mem_of_getElem? (i := 7) rfl))) (mvT hZ (hw _ (List.mem_of_getElem? (i := 8) rfl))) (mvT hZ (hw _ (List.mem_of_getElem? (i := 3) rfl))) (mvT hZ (hw _ (List.mem_of_getElem? (i := 9) rfl))) (by decide) (backOf (W := 0) (own_rm2 l Z a0 hw [] (own_of rn)  h0 n0 Z0) hZ (hw _ (List.mem_of_getElem? (i := 9) rfl)) (hw _ (List.mem_of_getElem? (i := 3) rfl)) (by decide) (by decide)) (g := (mkF m 11 #[.val (.int p1), .val (.int p2), .val (.int rn), .val (.int (own_of rn)), .unset, .unset, .unset, .unset] [(.int (own_of rn))])) rfl (by rw [hml]; rfl) (argsL := [(.int (own_of rn))]) (rest := []) (lenOf own_pd1 rfl) rfl (by show 2 * 0 + _ ≤ _; exact Nat.le_of_eq rfl) (hb hby at_11) (fun _ _ => ⟨rfl, e1, (by decide : 0 + 0 ≤ _), (by decide : 0 + 0 ≤ _)⟩)
  dsimp only [Pt.U, Pt.locs, Pt.cells, Pt.slots] at X2 l2 y2 z2 st2 hQ2
  subst l2 y2 z2
  obtain ⟨rfl, N2q, e2⟩ := hQ2
  have N2 := Fr.app N1 N2q
  obtain ⟨ch, n_ch⟩ : ∃ z : Int32, z = ((p2 &&& (65535 : Int32)).toUInt32.toUInt16.toUInt32.toInt32) := ⟨_, rfl⟩
  have hch : 0 ≤ ch.toInt ∧ ch.toInt < 65536 := n_ch ▸ own_i2c_range (p2 &&& (65535 : Int32))
  obtain ⟨_, _, ⟨T3, L3, k3, n3⟩, -, X3, ⟨Lc3, hQ3, l3, y3, z3⟩, st3⟩ := Jvm.LawKit.callS X2 hx (y := (⟨"com/example/iso_txn/isotxn/Utf8", "codePointRank", "(C)I"⟩ : MethodName)) hown (mvT hZ (hw _ (List.mem_of_getElem? (i := 7) rfl))) (mvT hZ (hw _ (List.mem_of_getElem? (i := 8) rfl))) (mvT hZ (hw _ (List.mem_of_getElem? (i := 3) rfl))) (mvT hZ (hw _ (List.mem_of_getElem? (i := 9) rfl))) (by decide) (backOf (W := 0) (own_rm2 l Z a0 hw [] ch  h0 n0 Z0) hZ (hw _ (List.mem_of_getElem? (i := 9) rfl)) (hw _ (List.mem_of_getElem? (i := 3) rfl)) (by decide) (by decide)) (g := (mkF m 34 #[.val (.int p1), .val (.int p2), .val (.int rn), .val (.int (own_of rn)), .val (.int (1 : Int32)), .val (.int ch), .unset, .unset] [(.int ch)])) rfl (by rw [hml]; rfl) (argsL := [(.int ch)]) (rest := []) (lenOf own_pd1 rfl) rfl (by show 2 * 0 + _ ≤ _; exact Nat.le_of_eq rfl) (hb hby at_34) (fun _ _ => ⟨rfl, e2, (by decide : 0 + 0 ≤ _), (by decide : 0 + 0 ≤ _)⟩)
  dsimp only [Pt.U, Pt.locs, Pt.cells, Pt.slots] at X3 l3 y3 z3 st3 hQ3
  subst l3 y3 z3
  obtain ⟨rfl, N3q, e3⟩ := hQ3
  have N3 := Fr.app N2 N3q
  obtain ⟨_, _, ⟨T4, L4, k4, n4⟩, -, X4, ⟨Lc4, hQ4, l4, y4, z4⟩, st4⟩ := Jvm.LawKit.callS X3 hx (y := (⟨"com/example/iso_txn/isotxn/Utf8", "ofCodePointRank", "(I)C"⟩ : MethodName)) hown (mvT hZ (hw _ (List.mem_of_getElem? (i := 1) rfl))) (mvT hZ (hw _ (List.mem_of_getElem? (i := 2) rfl))) (mvT hZ (hw _ (List.mem_of_getElem? (i := 3) rfl))) (mvT hZ (hw _ (List.mem_of_getElem? (i := 4) rfl))) (by decide) (backOf (W := 0) (own_rm1 l Z a0 hw [] (own_rk ch)  h0 n0 Z0) hZ (hw _ (List.mem_of_getElem? (i := 4) rfl)) (hw _ (List.mem_of_getElem? (i := 3) rfl)) (by decide) (by decide)) (g := (mkF m 41 #[.val (.int p1), .val (.int p2), .val (.int rn), .val (.int (own_of rn)), .val (.int (1 : Int32)), .val (.int ch), .val (.int (own_rk ch)), .unset] [(.int (own_rk ch))])) rfl (by rw [hml]; rfl) (argsL := [(.int (own_rk ch))]) (rest := []) (lenOf own_pd0 rfl) rfl (by show 2 * 0 + _ ≤ _; exact Nat.le_of_eq rfl) (hb hby at_41) (fun _ _ => ⟨rfl, e3, (by decide : 0 + 0 ≤ _), (by decide : 0 + 0 ≤ _)⟩)
  dsimp only [Pt.U, Pt.locs, Pt.cells, Pt.slots] at X4 l4 y4 z4 st4 hQ4
  subst l4 y4 z4
  obtain ⟨rfl, N4q, e4⟩ := hQ4
  have N4 := Fr.app N3 N4q
  obtain ⟨fs, hr, hrun, hended, hW, hsame⟩ := X4.leave (v := some (.int (1 : Int32))) (fun h => by rw [Bd.returns] at h; cases h)
  refine ⟨_, _, pre0 _ ?_, hrun, hended, _, _, rfl, ?_, ⟨_, rfl⟩, hW, hsame.mono (by decide) (by decide)⟩
  · show Steps p.tables e below (s₁.setTop (mkF m 0 #[.val (.int p1), .val (.int p2), .unset, .unset, .unset, .unset, .unset, .unset] [])) _
    refine XS.iloadN X0.here hx rfl (hb hby at_0) rfl ?_
    show Steps p.tables e below (s₁.setTop (mkF m 1 #[.val (.int p1), .val (.int p2), .unset, .unset, .unset, .unset, .unset, .unset] [(.int p1)])) _
    refine X0.ldcInt hx hown (mvT hZ (hw _ (List.mem_of_getElem? (i := 0) rfl))) (g := (mkF m 1 #[.val (.int p1), .val (.int p2), .unset, .unset, .unset, .unset, .unset, .unset] [(.int p1)])) rfl (hb hby at_1) _ ?_
    show Steps p.tables e below (s₁.setTop (mkF m 3 #[.val (.int p1), .val (.int p2), .unset, .unset, .unset, .unset, .unset, .unset] [(.int (65535 : Int32)), (.int p1)])) _
    refine XS.iand X0.here hx rfl (hb hby at_3) rfl ?_
    show Steps p.tables e below (s₁.setTop (mkF m 4 #[.val (.int p1), .val (.int p2), .unset, .unset, .unset, .unset, .unset, .unset] [(.int (p1 &&& (65535 : Int32)))])) _
    refine XS.istoreN X0.here hx rfl (hb hby at_4) rfl (l' := #[.val (.int p1), .val (.int p2), .val (.int (p1 &&& (65535 : Int32))), .unset, .unset, .unset, .unset, .unset]) rfl ?_
    show Steps p.tables e below (s₁.setTop (mkF m 5 #[.val (.int p1), .val (.int p2), .val (.int (p1 &&& (65535 : Int32))), .unset, .unset, .unset, .unset, .unset] [])) _
    rw [← n_rn]
    show Steps p.tables e below (s₁.setTop (mkF m 5 #[.val (.int p1), .val (.int p2), .val (.int rn), .unset, .unset, .unset, .unset, .unset] [])) _
    refine XS.iloadN X0.here hx rfl (hb hby at_5) rfl ?_
    show Steps p.tables e below (s₁.setTop (mkF m 6 #[.val (.int p1), .val (.int p2), .val (.int rn), .unset, .unset, .unset, .unset, .unset] [(.int rn)])) _
    refine st1 _ ?_
    show Steps p.tables e below (T1.setTop (mkF m 9 #[.val (.int p1), .val (.int p2), .val (.int rn), .unset, .unset, .unset, .unset, .unset] [(.int (own_of rn))])) _
    refine XS.istoreN X1.here hx rfl (hb hby at_9) rfl (l' := #[.val (.int p1), .val (.int p2), .val (.int rn), .val (.int (own_of rn)), .unset, .unset, .unset, .unset]) rfl ?_
    show Steps p.tables e below (T1.setTop (mkF m 10 #[.val (.int p1), .val (.int p2), .val (.int rn), .val (.int (own_of rn)), .unset, .unset, .unset, .unset] [])) _
    refine XS.iloadN X1.here hx rfl (hb hby at_10) rfl ?_
    show Steps p.tables e below (T1.setTop (mkF m 11 #[.val (.int p1), .val (.int p2), .val (.int rn), .val (.int (own_of rn)), .unset, .unset, .unset, .unset] [(.int (own_of rn))])) _
    refine st2 _ ?_
    show Steps p.tables e below (T2.setTop (mkF m 14 #[.val (.int p1), .val (.int p2), .val (.int rn), .val (.int (own_of rn)), .unset, .unset, .unset, .unset] [(.int (own_rk (own_of rn)))])) _
    refine XS.iloadN X2.here hx rfl (hb hby at_14) rfl ?_
    show Steps p.tables e below (T2.setTop (mkF m 15 #[.val (.int p1), .val (.int p2), .val (.int rn), .val (.int (own_of rn)), .unset, .unset, .unset, .unset] [(.int rn), (.int (own_rk (own_of rn)))])) _
    refine XS.icmpNo X2.here hx rfl (hb hby at_15) rfl (teq (own_rk_of rn hrn : (own_rk (own_of rn)) = rn)).2 ?_
    show Steps p.tables e below (T2.setTop (mkF m 18 #[.val (.int p1), .val (.int p2), .val (.int rn), .val (.int (own_of rn)), .unset, .unset, .unset, .unset] [])) _
    refine XS.iconst X2.here hx rfl (hb hby at_18) ?_
    show Steps p.tables e below (T2.setTop (mkF m 19 #[.val (.int p1), .val (.int p2), .val (.int rn), .val (.int (own_of rn)), .unset, .unset, .unset, .unset] [(.int (1 : Int32))])) _
    refine XS.goto X2.here hx rfl (pc0 := 19) (pc' := 23) rfl (hb hby at_19) (by decide) (by decide) ?_
    show Steps p.tables e below (T2.setTop (mkF m 23 #[.val (.int p1), .val (.int p2), .val (.int rn), .val (.int (own_of rn)), .unset, .unset, .unset, .unset] [(.int (1 : Int32))])) _
    refine XS.istore X2.here hx rfl (hb hby at_23) rfl (l' := #[.val (.int p1), .val (.int p2), .val (.int rn), .val (.int (own_of rn)), .val (.int (1 : Int32)), .unset, .unset, .unset]) rfl ?_
    show Steps p.tables e below (T2.setTop (mkF m 25 #[.val (.int p1), .val (.int p2), .val (.int rn), .val (.int (own_of rn)), .val (.int (1 : Int32)), .unset, .unset, .unset] [])) _
    refine XS.iloadN X2.here hx rfl (hb hby at_25) rfl ?_
    show Steps p.tables e below (T2.setTop (mkF m 26 #[.val (.int p1), .val (.int p2), .val (.int rn), .val (.int (own_of rn)), .val (.int (1 : Int32)), .unset, .unset, .unset] [(.int p2)])) _
    refine X2.ldcInt hx hown (mvT hZ (hw _ (List.mem_of_getElem? (i := 0) rfl))) (g := (mkF m 26 #[.val (.int p1), .val (.int p2), .val (.int rn), .val (.int (own_of rn)), .val (.int (1 : Int32)), .unset, .unset, .unset] [(.int p2)])) rfl (hb hby at_26) _ ?_
    show Steps p.tables e below (T2.setTop (mkF m 28 #[.val (.int p1), .val (.int p2), .val (.int rn), .val (.int (own_of rn)), .val (.int (1 : Int32)), .unset, .unset, .unset] [(.int (65535 : Int32)), (.int p2)])) _
    refine XS.iand X2.here hx rfl (hb hby at_28) rfl ?_
    show Steps p.tables e below (T2.setTop (mkF m 29 #[.val (.int p1), .val (.int p2), .val (.int rn), .val (.int (own_of rn)), .val (.int (1 : Int32)), .unset, .unset, .unset] [(.int (p2 &&& (65535 : Int32)))])) _
    refine XS.i2c X2.here hx rfl (hb hby at_29) rfl ?_
    show Steps p.tables e below (T2.setTop (mkF m 30 #[.val (.int p1), .val (.int p2), .val (.int rn), .val (.int (own_of rn)), .val (.int (1 : Int32)), .unset, .unset, .unset] [(.int ((p2 &&& (65535 : Int32)).toUInt32.toUInt16.toUInt32.toInt32))])) _
    refine XS.istore X2.here hx rfl (hb hby at_30) rfl (l' := #[.val (.int p1), .val (.int p2), .val (.int rn), .val (.int (own_of rn)), .val (.int (1 : Int32)), .val (.int ((p2 &&& (65535 : Int32)).toUInt32.toUInt16.toUInt32.toInt32)), .unset, .unset]) rfl ?_
    show Steps p.tables e below (T2.setTop (mkF m 32 #[.val (.int p1), .val (.int p2), .val (.int rn), .val (.int (own_of rn)), .val (.int (1 : Int32)), .val (.int ((p2 &&& (65535 : Int32)).toUInt32.toUInt16.toUInt32.toInt32)), .unset, .unset] [])) _
    rw [← n_ch]
    show Steps p.tables e below (T2.setTop (mkF m 32 #[.val (.int p1), .val (.int p2), .val (.int rn), .val (.int (own_of rn)), .val (.int (1 : Int32)), .val (.int ch), .unset, .unset] [])) _
    refine XS.iload X2.here hx rfl (hb hby at_32) rfl ?_
    show Steps p.tables e below (T2.setTop (mkF m 34 #[.val (.int p1), .val (.int p2), .val (.int rn), .val (.int (own_of rn)), .val (.int (1 : Int32)), .val (.int ch), .unset, .unset] [(.int ch)])) _
    refine st3 _ ?_
    show Steps p.tables e below (T3.setTop (mkF m 37 #[.val (.int p1), .val (.int p2), .val (.int rn), .val (.int (own_of rn)), .val (.int (1 : Int32)), .val (.int ch), .unset, .unset] [(.int (own_rk ch))])) _
    refine XS.istore X3.here hx rfl (hb hby at_37) rfl (l' := #[.val (.int p1), .val (.int p2), .val (.int rn), .val (.int (own_of rn)), .val (.int (1 : Int32)), .val (.int ch), .val (.int (own_rk ch)), .unset]) rfl ?_
    show Steps p.tables e below (T3.setTop (mkF m 39 #[.val (.int p1), .val (.int p2), .val (.int rn), .val (.int (own_of rn)), .val (.int (1 : Int32)), .val (.int ch), .val (.int (own_rk ch)), .unset] [])) _
    refine XS.iload X3.here hx rfl (hb hby at_39) rfl ?_
    show Steps p.tables e below (T3.setTop (mkF m 41 #[.val (.int p1), .val (.int p2), .val (.int rn), .val (.int (own_of rn)), .val (.int (1 : Int32)), .val (.int ch), .val (.int (own_rk ch)), .unset] [(.int (own_rk ch))])) _
    refine st4 _ ?_
    show Steps p.tables e below (T4.setTop (mkF m 44 #[.val (.int p1), .val (.int p2), .val (.int rn), .val (.int (own_of rn)), .val (.int (1 : Int32)), .val (.int ch), .val (.int (own_rk ch)), .unset] [(.int (own_of (own_rk ch)))])) _
    refine XS.iload X4.here hx rfl (hb hby at_44) rfl ?_
    show Steps p.tables e below (T4.setTop (mkF m 46 #[.val (.int p1), .val (.int p2), .val (.int rn), .val (.int (own_of rn)), .val (.int (1 : Int32)), .val (.int ch), .val (.int (own_rk ch)), .unset] [(.int ch), (.int (own_of (own_rk ch)))])) _
    refine XS.icmpNo X4.here hx rfl (hb hby at_46) rfl (teq (own_of_rk ch hch : (own_of (own_rk ch)) = ch)).2 ?_
    show Steps p.tables e below (T4.setTop (mkF m 49 #[.val (.int p1), .val (.int p2), .val (.int rn), .val (.int (own_of rn)), .val (.int (1 : Int32)), .val (.int ch), .val (.int (own_rk ch)), .unset] [])) _
    refine XS.iconst X4.here hx rfl (hb hby at_49) ?_
    show Steps p.tables e below (T4.setTop (mkF m 50 #[.val (.int p1), .val (.int p2), .val (.int rn), .val (.int (own_of rn)), .val (.int (1 : Int32)), .val (.int ch), .val (.int (own_rk ch)), .unset] [(.int (1 : Int32))])) _
    refine XS.goto X4.here hx rfl (pc0 := 50) (pc' := 54) rfl (hb hby at_50) (by decide) (by decide) ?_
    show Steps p.tables e below (T4.setTop (mkF m 54 #[.val (.int p1), .val (.int p2), .val (.int rn), .val (.int (own_of rn)), .val (.int (1 : Int32)), .val (.int ch), .val (.int (own_rk ch)), .unset] [(.int (1 : Int32))])) _
    refine XS.istore X4.here hx rfl (hb hby at_54) rfl (l' := #[.val (.int p1), .val (.int p2), .val (.int rn), .val (.int (own_of rn)), .val (.int (1 : Int32)), .val (.int ch), .val (.int (own_rk ch)), .val (.int (1 : Int32))]) rfl ?_
    show Steps p.tables e below (T4.setTop (mkF m 56 #[.val (.int p1), .val (.int p2), .val (.int rn), .val (.int (own_of rn)), .val (.int (1 : Int32)), .val (.int ch), .val (.int (own_rk ch)), .val (.int (1 : Int32))] [])) _
    refine XS.iload X4.here hx rfl (hb hby at_56) rfl ?_
    show Steps p.tables e below (T4.setTop (mkF m 58 #[.val (.int p1), .val (.int p2), .val (.int rn), .val (.int (own_of rn)), .val (.int (1 : Int32)), .val (.int ch), .val (.int (own_rk ch)), .val (.int (1 : Int32))] [(.int (1 : Int32))])) _
    refine XS.ifNo X4.here hx rfl (hb hby at_58) rfl ((if0 _ _).trans (feq (by decide : ¬ ((1 : Int32) = (0 : Int32)))).1) ?_
    show Steps p.tables e below (T4.setTop (mkF m 61 #[.val (.int p1), .val (.int p2), .val (.int rn), .val (.int (own_of rn)), .val (.int (1 : Int32)), .val (.int ch), .val (.int (own_rk ch)), .val (.int (1 : Int32))] [])) _
    refine XS.iload X4.here hx rfl (hb hby at_61) rfl ?_
    show Steps p.tables e below (T4.setTop (mkF m 63 #[.val (.int p1), .val (.int p2), .val (.int rn), .val (.int (own_of rn)), .val (.int (1 : Int32)), .val (.int ch), .val (.int (own_rk ch)), .val (.int (1 : Int32))] [(.int (1 : Int32))])) _
    refine XS.ifNo X4.here hx rfl (hb hby at_63) rfl ((if0 _ _).trans (feq (by decide : ¬ ((1 : Int32) = (0 : Int32)))).1) ?_
    show Steps p.tables e below (T4.setTop (mkF m 66 #[.val (.int p1), .val (.int p2), .val (.int rn), .val (.int (own_of rn)), .val (.int (1 : Int32)), .val (.int ch), .val (.int (own_rk ch)), .val (.int (1 : Int32))] [])) _
    refine XS.iconst X4.here hx rfl (hb hby at_66) ?_
    show Steps p.tables e below (T4.setTop (mkF m 67 #[.val (.int p1), .val (.int p2), .val (.int rn), .val (.int (own_of rn)), .val (.int (1 : Int32)), .val (.int ch), .val (.int (own_rk ch)), .val (.int (1 : Int32))] [(.int (1 : Int32))])) _
    refine XS.goto X4.here hx rfl (pc0 := 67) (pc' := 71) rfl (hb hby at_67) (by decide) (by decide) ?_
    show Steps p.tables e below (T4.setTop (mkF m 71 #[.val (.int p1), .val (.int p2), .val (.int rn), .val (.int (own_of rn)), .val (.int (1 : Int32)), .val (.int ch), .val (.int (own_rk ch)), .val (.int (1 : Int32))] [(.int (1 : Int32))])) _
    exact retN X4 hx (t := .boolean) Bd.returns (by simp) (hb hby at_71) hr
  · show own_Q0 Z p1 p2 h0 n0 _ T4.heap _
    rw [e4]
    exact ⟨rfl, N4⟩
set_option maxRecDepth 65536 in
set_option maxHeartbeats 40000000 in
theorem own_comes {Post : Tables → Env → Array Value → State → Outcome → State → Prop} (hpost : ∀ tb e args s v u, (limb_1_1.after args s (.returned v) u = true ∧ limb_1_2.after args s (.returned v) u = true ∧ True) → FrameEnd s (.returned v) u (Jvm.fieldLocs frame_1_writes args s ++ Jvm.arrayLocs frame_1_arrays args s ++ Jvm.staticLocs frame_1_statics s) 0 0 → Post tb e args s (.returned v) u) :
    ArmFor flags0 classFile x code maxLocals ret World_1 tables_1 room_1 Calls_1 rest_1 Pre_1 Post := by
  intro l hfl _ _ p e ha hc hk s m args below hf hA hF happ hP
  obtain ⟨hcalls, hrest, hpre⟩ := hP
  obtain ⟨-, -, -, hnamed, -, -, -, hat⟩ := (Spec.applies_iff hf).mp happ
  obtain ⟨hg, hn⟩ := and_e (Cond.before_iff.mp (show (Jvm.Cond.and given_1 narrow_1).before args s = true from hpre))
  obtain ⟨hcount, k0⟩ := and_e hg
  obtain ⟨g0, k1⟩ := and_e k0
  obtain ⟨w0, w1, rfl⟩ : ∃ w0 w1 : Value, args = #[w0, w1] := by
    have hs : args.size = 2 := by simpa [Cond.value, given_1] using hcount
    obtain ⟨L⟩ := args
    match L, hs with
    | [w0, w1], _ => exact ⟨w0, w1, rfl⟩
  have hw := fun d (hd : d ∈ tables_1) => atoms_spec (ws := Jvm.Cond.code x code maxLocals ret :: tables_1) hat d (List.mem_cons_of_mem _ hd)
  obtain ⟨i0, ei0⟩ := is_v g0
  obtain rfl : w0 = (.int i0) := Option.some.inj ei0
  obtain ⟨i1, ei1⟩ := is_v k1
  obtain rfl : w1 = (.int i1) := Option.some.inj ei1
  obtain ⟨n, o, h1, h2, h3, _, L, rfl, ⟨rfl, N⟩, hq⟩ := own_rm0 l s _ hw tables_1 i0 i1 s.heap s.heap.size (Nat.le_refl _) p e ha hc hk s m _ below hf ((Spec.applies_iff_loose hf).mp happ).1 ⟨rfl, State.Warmed39.refl s, rfl⟩ trivial
  refine ⟨n, _, h1, h2, h3, hpost _ _ _ _ _ _ ⟨Cond.after_iff.mpr rfl, Cond.after_iff.mpr (eq_i res_at (Term.int_eval (1)) rfl), trivial⟩ ⟨hq.1, hq.2.1, (hq.2.2.sift fun y hy => Or.inr (N y hy)).mono (by decide) (by decide)⟩⟩
theorem main_1_1 : Claimed_1_1 := own_comes fun _ _ _ _ _ _ h hF => ⟨h.1, hF⟩
theorem main_1_2 : Claimed_1_2 := own_comes fun _ _ _ _ _ _ h hF => ⟨h.2.1, hF⟩
end Jvm.Pilot.@@N@@
namespace Jvm.Pilot.@@N@@
open Jvm Jvm.ClassFile Sem Op Lib Jvm.Free Jvm.Stand Jvm.Pilot.@@N@@.Jvm.D
/-! MADE BY PROGRAM (witnessworld.py) out of the Statement's table words and the real class files: 9 classes; the members and pool entries that the words name. The judged class is class 1, her method 1. -/
namespace start1
open Jvm.ClassFile
def u (s : String) : CpInfo := .utf8 (stringToUtf16 s)
/-- a pool by its gaps: so many unusable entries, then the entry; so many at the end -/
def gap : Nat → List CpInfo → List CpInfo
  | 0, r => r
  | n + 1, r => .unusable :: gap n r
def poolList (es : List (Nat × CpInfo)) (last : Nat) : List CpInfo := es.foldr (fun e r => gap e.1 (e.2 :: r)) (gap last [])
def pool (es : List (Nat × CpInfo)) (last : Nat) : Array CpInfo := ⟨poolList es last⟩
def fileOf (pool : Array CpInfo) (this : Nat) (attrs : Array Attribute := #[]) (ms : Array MethodInfo := #[]) (fl : Nat := 33) (sup : Nat := 0) (ifs : Array Nat := #[]) (fds : Array FieldInfo := #[]) : ClassFile where
  minorVersion := 0
  majorVersion := 65
  constantPool := pool
  accessFlags := fl
  thisClass := this
  superClass := sup
  interfaces := ifs
  fields := fds
  methods := ms
  attributes := attrs
def plain (name : String) (sup : Option ClassId) : Class where
  name := name
  kind := .ordinary
  loader := none
  accessFlags := 33
  super := sup
  interfaces := #[]
  cf := none
  fields := #[]
  methods := #[]
  instanceTypes := #[]
  staticTypes := #[]
  resolved := #[]
  callSites := []
  init := .initialized
  statics := none
  mirror := none

def pool0 : Array CpInfo := pool [(5, u "<init>"), (0, u "()V"), (1, .class_ 10), (1, u "java/lang/Object")] 113

def k0m0 : Method := { name := "<init>", desc := "()V", sig := { parameters := [], returnType := none }, accessFlags := 1, code := none }
/-- java/lang/Object -/
def k0 : Class := { plain "java/lang/Object" none with
  accessFlags := 33
  interfaces := #[]
  cf := some (fileOf pool0 8 #[] #[{ accessFlags := 1, nameIndex := 5, descriptorIndex := 6, attributes := #[] }] 33 0 #[] #[])
  fields := #[]
  methods := #[k0m0]
  instanceTypes := #[]
  staticTypes := #[]
  resolved := Array.replicate 124 none
  statics := none }

def pool1 : Array CpInfo := pool [(2, .class_ 4), (1, u "java/lang/Object"), (0, u "<init>"), (0, u "()V"), (0, .integer 65535), (0, .methodref 9 10), (0, .class_ 11), (0, .nameAndType 12 13), (0, u "com/example/iso_txn/isotxn/Utf8"), (0, u "ofCodePointRank"), (0, u "(I)C"), (0, .methodref 9 15), (0, .nameAndType 16 17), (0, u "codePointRank"), (0, u "(C)I"), (0, .class_ 19), (0, u "com/example/iso_txn/isotxn/Utf8OfCodePointRankPinLaw"), (2, u "law"), (0, u "(II)Z")] 3

def k1m0 : Method := { name := "<init>", desc := "()V", sig := { parameters := [], returnType := none }, accessFlags := 2, code := none }
def k1c1 : Code := { maxStack := 2, maxLocals := 8, code := code, exceptionTable := #[], attributes := #[] }
def k1m1 : Method := { name := "law", desc := "(II)Z", sig := { parameters := [.int, .int], returnType := some .boolean }, accessFlags := 9, code := some k1c1 }
/-- com/example/iso_txn/isotxn/Utf8OfCodePointRankPinLaw -/
def k1 : Class := { plain "com/example/iso_txn/isotxn/Utf8OfCodePointRankPinLaw" (some 0) with
  accessFlags := 49
  interfaces := #[]
  cf := some (fileOf pool1 18 #[] #[{ accessFlags := 2, nameIndex := 5, descriptorIndex := 6, attributes := #[] }, { accessFlags := 9, nameIndex := 22, descriptorIndex := 23, attributes := #[] }] 49 2 #[] #[])
  fields := #[]
  methods := #[k1m0, k1m1]
  instanceTypes := #[]
  staticTypes := #[]
  resolved := Array.replicate 27 none
  statics := none }

def pool2 : Array CpInfo := pool [(2, .class_ 4), (1, u "java/lang/Object"), (0, u "<init>"), (0, u "()V"), (9, u "(I)C"), (21, .class_ 40), (1, u "com/example/iso_txn/isotxn/Utf8"), (0, u "codePointRank"), (0, u "(C)I"), (5, .integer 57344), (0, .integer 55296), (0, .integer 63488), (13, u "ofCodePointRank")] 4

def k2m0 : Method := { name := "<init>", desc := "()V", sig := { parameters := [], returnType := none }, accessFlags := 2, code := none }
def k2c1 : Code := { maxStack := 2, maxLocals := 2, code := prog_65_method_4_code, exceptionTable := #[], attributes := #[] }
def k2m1 : Method := { name := "codePointRank", desc := "(C)I", sig := { parameters := [.char], returnType := some .int }, accessFlags := 8, code := some k2c1 }
def k2c2 : Code := { maxStack := 2, maxLocals := 2, code := prog_65_method_5_code, exceptionTable := #[], attributes := #[] }
def k2m2 : Method := { name := "ofCodePointRank", desc := "(I)C", sig := { parameters := [.int], returnType := some .char }, accessFlags := 8, code := some k2c2 }
/-- com/example/iso_txn/isotxn/Utf8 -/
def k2 : Class := { plain "com/example/iso_txn/isotxn/Utf8" (some 0) with
  accessFlags := 48
  interfaces := #[]
  cf := some (fileOf pool2 38 #[] #[{ accessFlags := 2, nameIndex := 5, descriptorIndex := 6, attributes := #[] }, { accessFlags := 8, nameIndex := 41, descriptorIndex := 42, attributes := #[] }, { accessFlags := 8, nameIndex := 64, descriptorIndex := 16, attributes := #[] }] 48 2 #[] #[])
  fields := #[]
  methods := #[k2m0, k2m1, k2m2]
  instanceTypes := #[]
  staticTypes := #[]
  resolved := Array.replicate 69 none
  statics := none }

def pool3 : Array CpInfo := pool [(1, u "java/lang/Cloneable"), (0, .class_ 1), (0, u "java/lang/Object"), (0, .class_ 3)] 3

/-- java/lang/Cloneable -/
def k3 : Class := { plain "java/lang/Cloneable" (some 0) with
  accessFlags := 1537
  interfaces := #[]
  cf := some (fileOf pool3 2 #[] #[] 1537 4 #[] #[])
  fields := #[]
  methods := #[]
  instanceTypes := #[]
  staticTypes := #[]
  resolved := Array.replicate 8 none
  statics := none }

def pool4 : Array CpInfo := pool [(1, u "java/io/Serializable"), (0, .class_ 1), (0, u "java/lang/Object"), (0, .class_ 3)] 3

/-- java/io/Serializable -/
def k4 : Class := { plain "java/io/Serializable" (some 0) with
  accessFlags := 1537
  interfaces := #[]
  cf := some (fileOf pool4 2 #[] #[] 1537 4 #[] #[])
  fields := #[]
  methods := #[]
  instanceTypes := #[]
  staticTypes := #[]
  resolved := Array.replicate 8 none
  statics := none }

/-- the primitive byte -/
def k5 : Class := { plain "byte" none with kind := .primitive 'B', accessFlags := 0x411 }
/-- [B -/
def k6 : Class := { plain "[B" (some 0) with kind := .array 5 .byte, interfaces := #[3, 4], accessFlags := 1041 }

/-- the primitive int -/
def k7 : Class := { plain "int" none with kind := .primitive 'I', accessFlags := 0x411 }
/-- [I -/
def k8 : Class := { plain "[I" (some 0) with kind := .array 7 .int, interfaces := #[3, 4], accessFlags := 1041 }

def heap : Heap := #[]
def classes : Array Class := #[k0, k1, k2, k3, k4, k5, k6, k7, k8]
def interned : List (Array UInt16 × Addr) := []
def slotsUsed : Nat := 0
def theMethod : MethodId := ⟨1, 1⟩
def args0 : Array Value := #[.int 5, .int 7]
def aboutOver (below : List Frame) : State where
  vm := { classes := classes, interned := interned.toArray }
  heap := heap
  slotsUsed := slotsUsed
  threads := #[{ frames := .invoking theMethod args0 :: below }]
def below0 : List Frame := [.native { method := ⟨0, 0⟩, args := #[] }]
def about1 : State := aboutOver below0
def p0 : Program := .bare "" "" ""
def e0 : Env := launch0.env 0 0 0
theorem w_frames : about1.frames = Frame.invoking theMethod args0 :: below0 := rfl
set_option maxRecDepth 65536 in
theorem w_args : argsFit about1.vm theMethod args0 = true := by decide +kernel
set_option maxRecDepth 65536 in
theorem w_heap : heapFits about1 = true := by decide +kernel
set_option maxRecDepth 65536 in
theorem w_runnable : about1.curStatus? = some .runnable := by decide +kernel
set_option maxRecDepth 65536 in
theorem w_alone : about1.alone = true := by decide +kernel
set_option maxRecDepth 65536 in
theorem w_named : about1.methodNamed? x = some theMethod := by decide +kernel
set_option maxRecDepth 65536 in
theorem w_hears : about1.hears theMethod below0 = true := by decide +kernel
set_option maxRecDepth 65536 in
theorem w_ripe : about1.ripe theMethod args0 below0 = true := by decide +kernel
theorem w_running : about1.status = .running := rfl
set_option maxRecDepth 65536 in
theorem w_room : about1.hasRoom e0.platform room_1 = true :=
  launch0.hasRoom_least _ room_1 (by decide +kernel) (by decide +kernel) (by decide +kernel) (by decide +kernel) (by decide +kernel) (by decide +kernel)
theorem allAtoms_all (ts : List Jvm.Cond) (a : Array Jvm.Value) (st : Jvm.State) : (allAtoms ts).before a st = ts.all (fun c => c.before a st) := by
  induction ts with
  | nil => rfl
  | cons c t ih =>
    show (Jvm.Cond.and c (allAtoms t)).before a st = _
    rw [Jvm.Cond.before_and, ih, List.all_cons]
def words1 : List Jvm.Cond := Jvm.Cond.code x code maxLocals ret :: tables_1
/-- a 'code' word, met by the world's own term for the bytes: nothing is compared byte by byte -/
theorem code_word {y : MethodName} {bytes : ByteArray} {mx : Nat} {rt : Option FieldType} {a : Array Value} {s : State} {m : MethodId} {meth : Method} {c : Code} (h1 : s.methodNamed? y = some m) (h2 : s.vm.method? m = some meth) (h3 : meth.code = some c) (h4 : c.code = bytes)
    (h5 : (c.maxLocals == mx && c.exceptionTable.isEmpty && decide (c.maxStack ≤ mostOperands) && decide (meth.sig.returnType = rt) && !meth.locks && decide (parseMethodDescriptor y.desc = some meth.sig)) = true) : (Jvm.Cond.code y bytes mx rt).before a s = true := by
  simp only [Bool.and_eq_true, beq_iff_eq, Bool.not_eq_true', decide_eq_true_eq] at h5
  obtain ⟨⟨⟨⟨⟨g1, g2⟩, g3⟩, g4⟩, g5⟩, g6⟩ := h5
  simp [Cond.before, Cond.holds, Cond.value, h1, h2, h3, h4, g1, g2, g3, g4, g5, g6]
def isCode : Jvm.Cond → Bool
  | .code _ _ _ _ => true
  | _ => false
theorem all_split {L : List Jvm.Cond} {P : Jvm.Cond → Bool} (h1 : L.all (fun c => isCode c || P c) = true) (h2 : ∀ c ∈ L.filter isCode, P c = true) : L.all P = true := by
  refine List.all_eq_true.mpr fun c hc => ?_
  have h := List.all_eq_true.mp h1 c hc
  rcases Bool.eq_false_or_eq_true (isCode c) with hi | hi
  · exact h2 c (List.mem_filter.mpr ⟨hc, hi⟩)
  · simpa [hi] using h
set_option maxRecDepth 65536 in
theorem w_c0 : (Jvm.Cond.code x code maxLocals ret).before args0 about1 = true := code_word (m := ⟨1, 1⟩) (meth := k1m1) (c := k1c1) (by decide +kernel) rfl rfl rfl (by decide +kernel)
set_option maxRecDepth 65536 in
theorem w_c1 : (Jvm.Cond.code ({ cls := "com/example/iso_txn/isotxn/Utf8", name := "ofCodePointRank", desc := "(I)C" } : Jvm.MethodName) prog_65_method_5_code (2 : Nat) (Option.some Jvm.ClassFile.FieldType.char)).before args0 about1 = true := code_word (m := ⟨2, 2⟩) (meth := k2m2) (c := k2c2) (by decide +kernel) rfl rfl rfl (by decide +kernel)
set_option maxRecDepth 65536 in
theorem w_c2 : (Jvm.Cond.code ({ cls := "com/example/iso_txn/isotxn/Utf8", name := "codePointRank", desc := "(C)I" } : Jvm.MethodName) prog_65_method_4_code (2 : Nat) (Option.some Jvm.ClassFile.FieldType.int)).before args0 about1 = true := code_word (m := ⟨2, 1⟩) (meth := k2m1) (c := k2c1) (by decide +kernel) rfl rfl rfl (by decide +kernel)
def codes1 : List Jvm.Cond := [Jvm.Cond.code x code maxLocals ret, Jvm.Cond.code ({ cls := "com/example/iso_txn/isotxn/Utf8", name := "ofCodePointRank", desc := "(I)C" } : Jvm.MethodName) prog_65_method_5_code (2 : Nat) (Option.some Jvm.ClassFile.FieldType.char), Jvm.Cond.code ({ cls := "com/example/iso_txn/isotxn/Utf8", name := "codePointRank", desc := "(C)I" } : Jvm.MethodName) prog_65_method_4_code (2 : Nat) (Option.some Jvm.ClassFile.FieldType.int)]
set_option maxRecDepth 65536 in
theorem codes_eq : words1.filter isCode = codes1 := rfl
theorem w_codes : ∀ c ∈ words1.filter isCode, c.before args0 about1 = true := by
  rw [codes_eq]
  intro c hc
  simp only [codes1, List.mem_cons, List.not_mem_nil, or_false] at hc
  rcases hc with rfl | rfl | rfl
  · exact w_c0
  · exact w_c1
  · exact w_c2
set_option maxRecDepth 65536 in
theorem w_t1 : words1.all (fun c => isCode c || c.before args0 about1) = true := by decide +kernel
theorem w_tables : (allAtoms (Jvm.Cond.code x code maxLocals ret :: tables_1)).before args0 about1 = true := by
  rw [allAtoms_all]
  show words1.all (fun c => c.before args0 about1) = true
  refine all_split ?_ w_codes
  rw [w_t1]
set_option maxRecDepth 65536 in
theorem w_case : (Jvm.Cond.and given_1 narrow_1).before args0 about1 = true := by decide +kernel
theorem w_applies : (headSpec (Jvm.Cond.code x code maxLocals ret :: tables_1) room_1).applies x e0.platform about1 = true :=
  (Spec.applies_iff w_frames).mpr ⟨w_running, w_runnable, w_alone, w_named, w_hears, w_ripe, w_room, w_tables⟩
theorem atStart : AtStart classFile x code maxLocals ret World_1 tables_1 room_1 Calls_1 rest_1 Pre_1 launch0 p0 e0 about1 theMethod args0 below0 :=
  ⟨lists_1, trivial, launch0.admits_env _ _ _, launch0.least_env, fairChoices_fair.cas, fairChoices_fair.clock, w_frames, w_args, w_heap, w_applies, trivial, trivial, w_case⟩
end start1
theorem witness_1 : WitnessClaimed_1 := ⟨start1.p0, start1.e0, start1.about1, start1.theMethod, start1.args0, start1.below0, start1.atStart⟩
end Jvm.Pilot.@@N@@
