import JvmDerived
import JvmDerived.Pilot.@@N@@Statement
import JvmDerived.Pilot.@@N@@Code
set_option linter.unusedVariables false
set_option linter.unusedSimpArgs false
namespace Jvm.Pilot.@@N@@
open Jvm Jvm.ClassFile Sem Op Lib Jvm.Free Jvm.Stand Jvm.LawKit Jvm.RoadKit Bundle Jvm.Pilot.@@N@@.Jvm.D
section OwnRet
variable {p : Program} {l : Launch} {e : Env} {R : Room} {s : State} {m : MethodId} {args : Array Value} {below : List Frame} {meth : Method} {c : Code} {T : State} {locs : List Loc} {cells slots : Nat}
theorem own_retI (X : Stand p l e R s m args below meth c T locs cells slots) (hx : p.tables.exec = Jvm.exec) {pc : Nat} {Ls : Array Slot} {z : Int32} {rest : List Value} (hret : meth.sig.returnType = some .int) (hd : decode c.code pc = .ok (.ireturn, 1)) {fs : List Frame}
    (hl : ∀ (f : JFrame) (acts : List Action), f.method = m → f.locked = none → f.entered = [] → (doReturn e (T.setTop f) acts (some (.int z))).1 = T.setFrames fs) : Steps p.tables e below (T.setTop (mkF m pc Ls (.int z :: rest))) (T.setFrames fs) := by
  have hm' : T.vm.method? m = some meth := X.method'
  have hn : narrow .int (.int z) = .int z := rfl
  show Steps p.tables e below (T.setTop { method := m, pc := pc, locals := Ls, stack := _ :: rest, locked := none }) _
  jvm_step X.here [X.here.top, hx, hd, hm', hret, hn]
  first | (intro acts; rw [hl _ acts rfl rfl rfl]) | rw [hl _ _ rfl rfl rfl]
  exact Steps.refl _
end OwnRet
def own_sg (t : Int32) : Int32 := if t < 5 then 0 else if t < 20 then 1 else 2
def own_k (t : Int32) : Int32 := if t < 20 then (if t < 5 then (if t < 0 then -1 else 0) else 1) else 2
theorem own_k_sg (t : Int32) (h : ¬ t < 0) : own_k t = own_sg t := by
  unfold own_k own_sg
  by_cases h1 : t < 5
  · have h2 : t < 20 := by
      rw [Int32.lt_iff_toInt_lt] at h1 ⊢
      have c1 : (5 : Int32).toInt = 5 := rfl
      have c2 : (20 : Int32).toInt = 20 := rfl
      omega
    rw [if_pos h2, if_pos h1, if_neg h, if_pos h1]
  · by_cases h2 : t < 20
    · rw [if_pos h2, if_neg h1, if_neg h1, if_pos h2]
    · rw [if_neg h2, if_neg h1, if_neg h2]
theorem own_rem (x y : Int32) : x - x / y * y = x % y := irem_eq_mod x y
theorem own_ix (y : Int32) : ¬ (y &&& (2147483647 : Int32)) - (y &&& (2147483647 : Int32)) / (3 : Int32) * (3 : Int32) < 0 ∧ (y &&& (2147483647 : Int32)) - (y &&& (2147483647 : Int32)) / (3 : Int32) * (3 : Int32) < 3 := by
  rw [own_rem]
  have h1 := c_and y 2147483647 (by decide)
  have h2 := (c_irem (y &&& 2147483647) 3 3 rfl).1 h1.1
  have c0 : (0 : Int32).toInt = 0 := rfl
  have c3 : (3 : Int32).toInt = 3 := rfl
  rw [Int32.lt_iff_toInt_lt, Int32.lt_iff_toInt_lt, c0, c3]
  omega
theorem own_nn (x : Int32) : ¬ x &&& (63 : Int32) < 0 := by
  have h1 := c_and x 63 (by decide)
  have c0 : (0 : Int32).toInt = 0 := rfl
  rw [Int32.lt_iff_toInt_lt, c0]
  omega
theorem own_d1_0 : decode prog_3_method_3_code 0 = .ok (.iconst 3, 1) := by decide +kernel
theorem own_d1_1 : decode prog_3_method_3_code 1 = .ok (.newarray .int, 2) := by decide +kernel
theorem own_d1_3 : decode prog_3_method_3_code 3 = .ok (.dup, 1) := by decide +kernel
theorem own_d1_4 : decode prog_3_method_3_code 4 = .ok (.iconst 0, 1) := by decide +kernel
theorem own_d1_5 : decode prog_3_method_3_code 5 = .ok (.iconst 0, 1) := by decide +kernel
theorem own_d1_6 : decode prog_3_method_3_code 6 = .ok (.iastore, 1) := by decide +kernel
theorem own_d1_7 : decode prog_3_method_3_code 7 = .ok (.dup, 1) := by decide +kernel
theorem own_d1_8 : decode prog_3_method_3_code 8 = .ok (.iconst 1, 1) := by decide +kernel
theorem own_d1_9 : decode prog_3_method_3_code 9 = .ok (.iconst 5, 1) := by decide +kernel
theorem own_d1_10 : decode prog_3_method_3_code 10 = .ok (.iastore, 1) := by decide +kernel
theorem own_d1_11 : decode prog_3_method_3_code 11 = .ok (.dup, 1) := by decide +kernel
theorem own_d1_12 : decode prog_3_method_3_code 12 = .ok (.iconst 2, 1) := by decide +kernel
theorem own_d1_13 : decode prog_3_method_3_code 13 = .ok (.bipush 20, 2) := by decide +kernel
theorem own_d1_15 : decode prog_3_method_3_code 15 = .ok (.iastore, 1) := by decide +kernel
theorem own_d1_16 : decode prog_3_method_3_code 16 = .ok (.areturn, 1) := by decide +kernel
theorem own_pn0 : plainName "com/example/vestwright/vestwright/actuarial/SegmentRates" = true := by first | (simp [plainName, overriddenIn]; done) | decide +kernel
theorem own_ef1 (m : MethodId)  : entryFrame m #[] 0 = mkF m 0 #[] [] := by first | (simp [entryFrame, mkF, argsToLocals, Value.category]; done) | rfl
def own_Q1 (Z : State)  (h0 : Heap) (n0 : Nat) (v : Option Value) (h : Heap) (L : List Loc) : Prop := ∃ (b : Addr) (k : ClassId), v = some (.ref b) ∧ Fr n0 L ∧ n0 ≤ b ∧ h0.size ≤ b ∧ h0.size ≤ h.size ∧ Arv Z h b k .int (3 : Int32) [(.int (0 : Int32)), (.int (5 : Int32)), (.int (20 : Int32))] (.int (0 : Int32))
set_option maxRecDepth 65536 in
set_option maxHeartbeats 40000000 in
theorem own_rm1 (l : Launch) (Z : State) (a0 : Array Value) (hw : ∀ d ∈ tables_1, d.before a0 Z = true) (ws : List Jvm.Cond)  (h0 : Heap) (n0 : Nat) (Z0 : n0 ≤ h0.size) :
    MetFree l (⟨"com/example/vestwright/vestwright/actuarial/SegmentRates", "fromYears", "()[I"⟩ : MethodName) (head1 (Jvm.Cond.code (⟨"com/example/vestwright/vestwright/actuarial/SegmentRates", "fromYears", "()[I"⟩ : MethodName) prog_3_method_3_code 0 (some (.array .int)) :: ws) ({ frames := 0, cells := 1, slots := 3, locals := 0 } : Room)) (fun a U => a = #[] ∧ Z.Warmed39 U.vm ∧ U.heap = h0) (fun _ _ _ _ _ => True) (fun _ U o U' => ∃ v L, o = .returned v ∧ own_Q1 Z  h0 n0 v U'.heap L ∧ FrameEnd U o U' L ({ frames := 0, cells := 1, slots := 3, locals := 0 } : Room).cells ({ frames := 0, cells := 1, slots := 3, locals := 0 } : Room).slots) := by
  refine MetFree.of_bodySF (plainFor_of_name own_pn0) hisR ?_
  intro p e s m args below meth c s₁ Bd hml0 hP hK
  obtain ⟨rfl, hZ, hh⟩ := hP
  have hx := Bd.exec
  have hby := Bd.bytes
  have hml : c.maxLocals = 0 := hml0
  have hown : s.vm.findClass "com/example/vestwright/vestwright/actuarial/SegmentRates" = some m.cls := findClass_of_methodNamed Bd.named
  have hnm := (name_of_methodNamed Bd.named Bd.method).1
  have X0 : Stand p l e ({ frames := 0, cells := 1, slots := 3, locals := 0 } : Room) s m #[] below meth c s₁ [] 0 0 := Stand.of_body Bd
  have e0 : s₁.heap = h0 := by rw [← hh, Bd.state]; rfl
  have N0 := Fr.nil n0
  have pre0 : ∀ t, Steps p.tables e below (s₁.setTop (mkF m 0 #[] [])) t → Steps p.tables e below (s₁.setTop (entryFrame m #[] 0)) t := fun t k => castTop (own_ef1 m ) k
  obtain ⟨T1, h1, k1, X1, e1, E1, A1, st1⟩ := newP X0 hx hZ (hw _ (List.mem_of_getElem? (i := 4) rfl)) e0 (g := (mkF m 1 #[] [(.int (3 : Int32))])) rfl (hb hby own_d1_1) rfl (by decide) (cap := 3) (by decide) (by decide) (by decide) (by decide)
  obtain ⟨b1, g1⟩ : ∃ z, z = h0.size := ⟨_, rfl⟩
  rw [← g1] at A1 st1
  have V1 : Arv Z h1 b1 k1 .int (3 : Int32) [(.int (0 : Int32)), (.int (0 : Int32)), (.int (0 : Int32))] (.int (0 : Int32)) := (Arv.new A1 (by decide)).pad (pad_rep [] (.int (0 : Int32)) 3)
  have g_b1 : n0 ≤ b1 := Nat.le_trans Z0 (Nat.le_of_eq g1.symm)
  have sz_b1 : h0.size ≤ b1 := Nat.le_trans (Keep.refl h0 []).1 (Nat.le_of_eq g1.symm)
  have Z1 : n0 ≤ h1.size := Nat.le_trans Z0 E1.1
  have K1 : Keep h0 h1 [] := (Keep.refl h0 []).ext E1
  obtain ⟨cl2, Ar2, q2, S2, M2, H2, G2⟩ := V1
  have hin2 : ¬ ((0 : Int32) < 0 ∨ cl2.slots.size ≤ ((0 : Int32)).toNatClampNeg) := inb_of S2 ⟨by decide, by decide⟩
  obtain ⟨T2, h2, X2, e2, W2, st2⟩ := stI X1 hx hZ e1 Ar2 (j := (0 : Int32)) hin2 (g := (mkF m 6 #[] [(.int (0 : Int32)), (.int (0 : Int32)), (.ref b1), (.ref b1)])) rfl rfl (hb hby own_d1_6)
  have V2 := Arv.set Ar2 q2 S2 M2 H2 G2 rfl W2 0 rfl (Nat.le_of_ble_eq_true rfl)
  have K2 : Keep h0 h2 [] := K1.wr W2 (Or.inr sz_b1)
  have N2 := Fr.snoc X2 N0 g_b1
  have Z2 : n0 ≤ h2.size := Nat.le_trans Z0 K2.1
  obtain ⟨cl3, Ar3, q3, S3, M3, H3, G3⟩ := V2
  have hin3 : ¬ ((1 : Int32) < 0 ∨ cl3.slots.size ≤ ((1 : Int32)).toNatClampNeg) := inb_of S3 ⟨by decide, by decide⟩
  obtain ⟨T3, h3, X3, e3, W3, st3⟩ := stI X2 hx hZ e2 Ar3 (j := (1 : Int32)) hin3 (g := (mkF m 10 #[] [(.int (5 : Int32)), (.int (1 : Int32)), (.ref b1), (.ref b1)])) rfl rfl (hb hby own_d1_10)
  have V3 := Arv.set Ar3 q3 S3 M3 H3 G3 rfl W3 1 rfl (Nat.le_of_ble_eq_true rfl)
  have K3 : Keep h0 h3 [] := K2.wr W3 (Or.inr sz_b1)
  have N3 := Fr.snoc X3 N2 g_b1
  have Z3 : n0 ≤ h3.size := Nat.le_trans Z0 K3.1
  obtain ⟨cl4, Ar4, q4, S4, M4, H4, G4⟩ := V3
  have hin4 : ¬ ((2 : Int32) < 0 ∨ cl4.slots.size ≤ ((2 : Int32)).toNatClampNeg) := inb_of S4 ⟨by decide, by decide⟩
  obtain ⟨T4, h4, X4, e4, W4, st4⟩ := stI X3 hx hZ e3 Ar4 (j := (2 : Int32)) hin4 (g := (mkF m 15 #[] [(.int (20 : Int32)), (.int (2 : Int32)), (.ref b1), (.ref b1)])) rfl rfl (hb hby own_d1_15)
  have V4 := Arv.set Ar4 q4 S4 M4 H4 G4 rfl W4 2 rfl (Nat.le_of_ble_eq_true rfl)
  have K4 : Keep h0 h4 [] := K3.wr W4 (Or.inr sz_b1)
  have N4 := Fr.snoc X4 N3 g_b1
  have Z4 : n0 ≤ h4.size := Nat.le_trans Z0 K4.1
  obtain ⟨fs, hr, hrun, hended, hW, hsame⟩ := X4.leave (v := some (.ref b1)) (fun h => by rw [Bd.returns] at h; cases h)
  refine ⟨_, _, pre0 _ ?_, hrun, hended, _, _, rfl, ?_, ⟨_, rfl⟩, hW, hsame.mono (by decide) (by decide)⟩
  · show Steps p.tables e below (s₁.setTop (mkF m 0 #[] [])) _
    refine XS.iconst X0.here hx rfl (hb hby own_d1_0) ?_
    show Steps p.tables e below (s₁.setTop (mkF m 1 #[] [(.int (3 : Int32))])) _
    refine st1 _ ?_
    show Steps p.tables e below (T1.setTop (mkF m 3 #[] [(.ref b1)])) _
    refine XS.dup X1.here hx rfl (hb hby own_d1_3) rfl rfl ?_
    show Steps p.tables e below (T1.setTop (mkF m 4 #[] [(.ref b1), (.ref b1)])) _
    refine XS.iconst X1.here hx rfl (hb hby own_d1_4) ?_
    show Steps p.tables e below (T1.setTop (mkF m 5 #[] [(.int (0 : Int32)), (.ref b1), (.ref b1)])) _
    refine XS.iconst X1.here hx rfl (hb hby own_d1_5) ?_
    show Steps p.tables e below (T1.setTop (mkF m 6 #[] [(.int (0 : Int32)), (.int (0 : Int32)), (.ref b1), (.ref b1)])) _
    refine st2 _ ?_
    show Steps p.tables e below (T2.setTop (mkF m 7 #[] [(.ref b1)])) _
    refine XS.dup X2.here hx rfl (hb hby own_d1_7) rfl rfl ?_
    show Steps p.tables e below (T2.setTop (mkF m 8 #[] [(.ref b1), (.ref b1)])) _
    refine XS.iconst X2.here hx rfl (hb hby own_d1_8) ?_
    show Steps p.tables e below (T2.setTop (mkF m 9 #[] [(.int (1 : Int32)), (.ref b1), (.ref b1)])) _
    refine XS.iconst X2.here hx rfl (hb hby own_d1_9) ?_
    show Steps p.tables e below (T2.setTop (mkF m 10 #[] [(.int (5 : Int32)), (.int (1 : Int32)), (.ref b1), (.ref b1)])) _
    refine st3 _ ?_
    show Steps p.tables e below (T3.setTop (mkF m 11 #[] [(.ref b1)])) _
    refine XS.dup X3.here hx rfl (hb hby own_d1_11) rfl rfl ?_
    show Steps p.tables e below (T3.setTop (mkF m 12 #[] [(.ref b1), (.ref b1)])) _
    refine XS.iconst X3.here hx rfl (hb hby own_d1_12) ?_
    show Steps p.tables e below (T3.setTop (mkF m 13 #[] [(.int (2 : Int32)), (.ref b1), (.ref b1)])) _
    refine XS.bipush X3.here hx rfl (hb hby own_d1_13) ?_
    show Steps p.tables e below (T3.setTop (mkF m 15 #[] [(.int (20 : Int32)), (.int (2 : Int32)), (.ref b1), (.ref b1)])) _
    refine st4 _ ?_
    show Steps p.tables e below (T4.setTop (mkF m 16 #[] [(.ref b1)])) _
    jvm_step X4.here [X4.here.top, hx, (hb hby own_d1_16), X4.method', Bd.returns, Value.isRef, FieldType.isReference]
    first | (intro acts; rw [hr _ acts rfl rfl rfl]) | rw [hr _ _ rfl rfl rfl]
    exact Steps.refl _
  · show own_Q1 Z  h0 n0 _ T4.heap _
    rw [e4]
    exact ⟨b1, _, rfl, N4, g_b1, sz_b1, K4.1, V4⟩
theorem own_pd0 : parseMethodDescriptor "()[I" = some ⟨[], some (.array .int)⟩ := by decide +kernel
theorem own_pn1 : plainName "com/example/vestwright/vestwright/actuarial/SegmentRatesFromYearsPinLaw" = true := by first | (simp [plainName, overriddenIn]; done) | decide +kernel
theorem own_ef0 (m : MethodId) (x0 : Int32) (x1 : Int32) : entryFrame m #[(.int x0), (.int x1)] maxLocals = mkF m 0 #[.val (.int x0), .val (.int x1), .unset, .unset, .unset, .unset, .unset, .unset, .unset] [] := by first | (simp [entryFrame, mkF, argsToLocals, Value.category, maxLocals]; done) | rfl
def own_Q0 (Z : State) (p1 : Int32) (p2 : Int32) (h0 : Heap) (n0 : Nat) (v : Option Value) (h : Heap) (L : List Loc) : Prop := v = some (.int 1) ∧ Fr n0 L
set_option maxRecDepth 65536 in
set_option maxHeartbeats 40000000 in
theorem own_rm0 (l : Launch) (Z : State) (a0 : Array Value) (hw : ∀ d ∈ tables_1, d.before a0 Z = true) (ws : List Jvm.Cond) (p1 : Int32) (p2 : Int32) (h0 : Heap) (n0 : Nat) (Z0 : n0 ≤ h0.size) :
    MetFree l x (head1 (Jvm.Cond.code x code maxLocals ret :: ws) room_1) (fun a U => a = #[(.int p1), (.int p2)] ∧ Z.Warmed39 U.vm ∧ U.heap = h0) (fun _ _ _ _ _ => True) (fun _ U o U' => ∃ v L, o = .returned v ∧ own_Q0 Z p1 p2 h0 n0 v U'.heap L ∧ FrameEnd U o U' L room_1.cells room_1.slots) := by
  refine MetFree.of_bodySF (plainFor_of_name own_pn1) hisR ?_
  intro p e s m args below meth c s₁ Bd hml0 hP hK
  obtain ⟨rfl, hZ, hh⟩ := hP
  have hx := Bd.exec
  have hby := Bd.bytes
  have hml : c.maxLocals = 9 := hml0
  have hown : s.vm.findClass "com/example/vestwright/vestwright/actuarial/SegmentRatesFromYearsPinLaw" = some m.cls := findClass_of_methodNamed Bd.named
  have hnm := (name_of_methodNamed Bd.named Bd.method).1
  have X0 : Stand p l e room_1 s m #[(.int p1), (.int p2)] below meth c s₁ [] 0 0 := Stand.of_body Bd
  have e0 : s₁.heap = h0 := by rw [← hh, Bd.state]; rfl
  have N0 := Fr.nil n0
  have pre0 : ∀ t, Steps p.tables e below (s₁.setTop (mkF m 0 #[.val (.int p1), .val (.int p2), .unset, .unset, .unset, .unset, .unset, .unset, .unset] [])) t → Steps p.tables e below (s₁.setTop (entryFrame m #[(.int p1), (.int p2)] maxLocals)) t := fun t k => castTop (own_ef0 m p1 p2) k
  obtain ⟨_, _, ⟨T1, L1, k1, n1⟩, -, X1, ⟨Lc1, hQ1, l1, y1, z1⟩, st1⟩ := Jvm.LawKit.callS X0 hx (y := (⟨"com/example/vestwright/vestwright/actuarial/SegmentRates", "fromYears", "()[I"⟩ : MethodName)) hown (mvT hZ (hw _ (List.mem_of_getElem? (i := 0) rfl))) (mvT hZ (hw _ (List.mem_of_getElem? (i := 1) rfl))) (mvT hZ (hw _ (List.mem_of_getElem? (i := 2) rfl))) (mvT hZ (hw _ (List.mem_of_getElem? (i := 3) rfl))) (by decide) (backOf (W := 0) (own_rm1 l Z a0 hw []   h0 n0 Z0) hZ (hw _ (List.mem_of_getElem? (i := 3) rfl)) (hw _ (List.mem_of_getElem? (i := 2) rfl)) (by decide) (by decide)) (g := (mkF m 0 #[.val (.int p1), .val (.int p2), .unset, .unset, .unset, .unset, .unset, .unset, .unset] [])) rfl (by rw [hml]; rfl) (argsL := []) (rest := []) (lenOf own_pd0 rfl) rfl (by show 2 * 0 + _ ≤ _; exact Nat.le_of_eq rfl) (hb hby at_0) (fun _ _ => ⟨rfl, e0, (by decide : 0 + 1 ≤ _), (by decide : 0 + 3 ≤ _)⟩)
  dsimp only [Pt.U, Pt.locs, Pt.cells, Pt.slots] at X1 l1 y1 z1 st1 hQ1
  subst l1 y1 z1
  obtain ⟨b1, kb1, rfl, N1q, g_b1, ge1, sz1, V1⟩ := hQ1
  have N1 := Fr.app N0 N1q
  have Z1 : n0 ≤ T1.heap.size := Nat.le_trans Z0 sz1
  obtain ⟨cl1, Ar1, q1, S1, M1, H1, G1⟩ := V1
  have hin1_0 : ¬ ((0 : Int32) < 0 ∨ cl1.slots.size ≤ (0 : Int32).toNatClampNeg) := inb_of S1 ⟨by decide, by decide⟩
  have hat1_0 : cl1.slots[(0 : Int32).toNatClampNeg]? = some (.int (0 : Int32)) := H1 0 (by rw [S1]; decide)
  have hin1_1 : ¬ ((1 : Int32) < 0 ∨ cl1.slots.size ≤ (1 : Int32).toNatClampNeg) := inb_of S1 ⟨by decide, by decide⟩
  have hat1_1 : cl1.slots[(1 : Int32).toNatClampNeg]? = some (.int (5 : Int32)) := H1 1 (by rw [S1]; decide)
  have hin1_2 : ¬ ((2 : Int32) < 0 ∨ cl1.slots.size ≤ (2 : Int32).toNatClampNeg) := inb_of S1 ⟨by decide, by decide⟩
  have hat1_2 : cl1.slots[(2 : Int32).toNatClampNeg]? = some (.int (20 : Int32)) := H1 2 (by rw [S1]; decide)
  obtain ⟨tt, n_tt⟩ : ∃ z : Int32, z = (p1 &&& (63 : Int32)) := ⟨_, rfl⟩
  have htt : ¬ tt < 0 := n_tt ▸ own_nn p1
  obtain ⟨sg, hsg⟩ : ∃ z : Int32, z = own_sg tt := ⟨_, rfl⟩
  have sg2 : ∀ t, Steps p.tables e below (T1.setTop (mkF m 41 #[.val (.int p1), .val (.int p2), .val (.ref b1), .val (.int tt), .unset, .unset, .unset, .unset, .unset] [(.int sg)])) t → Steps p.tables e below (T1.setTop (mkF m 21 #[.val (.int p1), .val (.int p2), .val (.ref b1), .val (.int tt), .unset, .unset, .unset, .unset, .unset] [])) t := by
    intro t K
    show Steps p.tables e below (T1.setTop (mkF m 21 #[.val (.int p1), .val (.int p2), .val (.ref b1), .val (.int tt), .unset, .unset, .unset, .unset, .unset] [])) _
    refine XS.iloadN X1.here hx rfl (hb hby at_21) rfl ?_
    show Steps p.tables e below (T1.setTop (mkF m 22 #[.val (.int p1), .val (.int p2), .val (.ref b1), .val (.int tt), .unset, .unset, .unset, .unset, .unset] [(.int tt)])) _
    refine XS.iconst X1.here hx rfl (hb hby at_22) ?_
    by_cases hc23 : tt < (5 : Int32)
    · show Steps p.tables e below (T1.setTop (mkF m 23 #[.val (.int p1), .val (.int p2), .val (.ref b1), .val (.int tt), .unset, .unset, .unset, .unset, .unset] [(.int (5 : Int32)), (.int tt)])) _
      refine XS.icmpNo X1.here hx rfl (hb hby at_23) rfl (tlt hc23).2.1 ?_
      show Steps p.tables e below (T1.setTop (mkF m 26 #[.val (.int p1), .val (.int p2), .val (.ref b1), .val (.int tt), .unset, .unset, .unset, .unset, .unset] [])) _
      refine XS.iconst X1.here hx rfl (hb hby at_26) ?_
      show Steps p.tables e below (T1.setTop (mkF m 27 #[.val (.int p1), .val (.int p2), .val (.ref b1), .val (.int tt), .unset, .unset, .unset, .unset, .unset] [(.int (0 : Int32))])) _
      refine XS.goto X1.here hx rfl (pc0 := 27) (pc' := 41) rfl (hb hby at_27) (by decide) (by decide) ?_
      show Steps p.tables e below (T1.setTop (mkF m 41 #[.val (.int p1), .val (.int p2), .val (.ref b1), .val (.int tt), .unset, .unset, .unset, .unset, .unset] [(.int (0 : Int32))])) _
      have qsg : sg = (0 : Int32) := by rw [hsg]; simp only [own_sg, if_pos, if_neg, hc23, not_false_eq_true]
      rw [qsg] at K
      exact K
    · show Steps p.tables e below (T1.setTop (mkF m 23 #[.val (.int p1), .val (.int p2), .val (.ref b1), .val (.int tt), .unset, .unset, .unset, .unset, .unset] [(.int (5 : Int32)), (.int tt)])) _
      refine XS.icmpYes X1.here hx rfl (pc0 := 23) (pc' := 30) rfl (hb hby at_23) rfl (flt hc23).2.1 (by decide) (by decide) ?_
      show Steps p.tables e below (T1.setTop (mkF m 30 #[.val (.int p1), .val (.int p2), .val (.ref b1), .val (.int tt), .unset, .unset, .unset, .unset, .unset] [])) _
      refine XS.iloadN X1.here hx rfl (hb hby at_30) rfl ?_
      show Steps p.tables e below (T1.setTop (mkF m 31 #[.val (.int p1), .val (.int p2), .val (.ref b1), .val (.int tt), .unset, .unset, .unset, .unset, .unset] [(.int tt)])) _
      refine XS.bipush X1.here hx rfl (hb hby at_31) ?_
      by_cases hc33 : tt < (20 : Int32)
      · show Steps p.tables e below (T1.setTop (mkF m 33 #[.val (.int p1), .val (.int p2), .val (.ref b1), .val (.int tt), .unset, .unset, .unset, .unset, .unset] [(.int (20 : Int32)), (.int tt)])) _
        refine XS.icmpNo X1.here hx rfl (hb hby at_33) rfl (tlt hc33).2.1 ?_
        show Steps p.tables e below (T1.setTop (mkF m 36 #[.val (.int p1), .val (.int p2), .val (.ref b1), .val (.int tt), .unset, .unset, .unset, .unset, .unset] [])) _
        refine XS.iconst X1.here hx rfl (hb hby at_36) ?_
        show Steps p.tables e below (T1.setTop (mkF m 37 #[.val (.int p1), .val (.int p2), .val (.ref b1), .val (.int tt), .unset, .unset, .unset, .unset, .unset] [(.int (1 : Int32))])) _
        refine XS.goto X1.here hx rfl (pc0 := 37) (pc' := 41) rfl (hb hby at_37) (by decide) (by decide) ?_
        show Steps p.tables e below (T1.setTop (mkF m 41 #[.val (.int p1), .val (.int p2), .val (.ref b1), .val (.int tt), .unset, .unset, .unset, .unset, .unset] [(.int (1 : Int32))])) _
        have qsg : sg = (1 : Int32) := by rw [hsg]; simp only [own_sg, if_pos, if_neg, hc23, hc33, not_false_eq_true]
        rw [qsg] at K
        exact K
      · show Steps p.tables e below (T1.setTop (mkF m 33 #[.val (.int p1), .val (.int p2), .val (.ref b1), .val (.int tt), .unset, .unset, .unset, .unset, .unset] [(.int (20 : Int32)), (.int tt)])) _
        refine XS.icmpYes X1.here hx rfl (pc0 := 33) (pc' := 40) rfl (hb hby at_33) rfl (flt hc33).2.1 (by decide) (by decide) ?_
        show Steps p.tables e below (T1.setTop (mkF m 40 #[.val (.int p1), .val (.int p2), .val (.ref b1), .val (.int tt), .unset, .unset, .unset, .unset, .unset] [])) _
        refine XS.iconst X1.here hx rfl (hb hby at_40) ?_
        show Steps p.tables e below (T1.setTop (mkF m 41 #[.val (.int p1), .val (.int p2), .val (.ref b1), .val (.int tt), .unset, .unset, .unset, .unset, .unset] [(.int (2 : Int32))])) _
        have qsg : sg = (2 : Int32) := by rw [hsg]; simp only [own_sg, if_pos, if_neg, hc23, hc33, not_false_eq_true]
        rw [qsg] at K
        exact K
  obtain ⟨kk, hkk⟩ : ∃ z : Int32, z = own_k tt := ⟨_, rfl⟩
  have sg3 : ∀ t, Steps p.tables e below (T1.setTop (mkF m 77 #[.val (.int p1), .val (.int p2), .val (.ref b1), .val (.int tt), .val (.int sg), .unset, .unset, .unset, .unset] [(.int kk)])) t → Steps p.tables e below (T1.setTop (mkF m 43 #[.val (.int p1), .val (.int p2), .val (.ref b1), .val (.int tt), .val (.int sg), .unset, .unset, .unset, .unset] [])) t := by
    intro t K
    show Steps p.tables e below (T1.setTop (mkF m 43 #[.val (.int p1), .val (.int p2), .val (.ref b1), .val (.int tt), .val (.int sg), .unset, .unset, .unset, .unset] [])) _
    refine XS.iloadN X1.here hx rfl (hb hby at_43) rfl ?_
    show Steps p.tables e below (T1.setTop (mkF m 44 #[.val (.int p1), .val (.int p2), .val (.ref b1), .val (.int tt), .val (.int sg), .unset, .unset, .unset, .unset] [(.int tt)])) _
    refine XS.aloadN X1.here hx rfl (hb hby at_44) rfl rfl ?_
    show Steps p.tables e below (T1.setTop (mkF m 45 #[.val (.int p1), .val (.int p2), .val (.ref b1), .val (.int tt), .val (.int sg), .unset, .unset, .unset, .unset] [(.ref b1), (.int tt)])) _
    refine XS.iconst X1.here hx rfl (hb hby at_45) ?_
    show Steps p.tables e below (T1.setTop (mkF m 46 #[.val (.int p1), .val (.int p2), .val (.ref b1), .val (.int tt), .val (.int sg), .unset, .unset, .unset, .unset] [(.int (2 : Int32)), (.ref b1), (.int tt)])) _
    refine X1.iaload hx (j := (2 : Int32)) (v := (.int (20 : Int32))) (by exact Ar1.1) (State.isArrayOf_alike hZ.alike Ar1.2.1) Ar1.2.2 hin1_2 hat1_2 (g := (mkF m 46 #[.val (.int p1), .val (.int p2), .val (.ref b1), .val (.int tt), .val (.int sg), .unset, .unset, .unset, .unset] [(.int (2 : Int32)), (.ref b1), (.int tt)])) rfl rfl (hb hby at_46) _ ?_
    by_cases hc47 : tt < (20 : Int32)
    · show Steps p.tables e below (T1.setTop (mkF m 47 #[.val (.int p1), .val (.int p2), .val (.ref b1), .val (.int tt), .val (.int sg), .unset, .unset, .unset, .unset] [(.int (20 : Int32)), (.int tt)])) _
      refine XS.icmpYes X1.here hx rfl (pc0 := 47) (pc' := 54) rfl (hb hby at_47) rfl (tlt hc47).1 (by decide) (by decide) ?_
      show Steps p.tables e below (T1.setTop (mkF m 54 #[.val (.int p1), .val (.int p2), .val (.ref b1), .val (.int tt), .val (.int sg), .unset, .unset, .unset, .unset] [])) _
      refine XS.iloadN X1.here hx rfl (hb hby at_54) rfl ?_
      show Steps p.tables e below (T1.setTop (mkF m 55 #[.val (.int p1), .val (.int p2), .val (.ref b1), .val (.int tt), .val (.int sg), .unset, .unset, .unset, .unset] [(.int tt)])) _
      refine XS.aloadN X1.here hx rfl (hb hby at_55) rfl rfl ?_
      show Steps p.tables e below (T1.setTop (mkF m 56 #[.val (.int p1), .val (.int p2), .val (.ref b1), .val (.int tt), .val (.int sg), .unset, .unset, .unset, .unset] [(.ref b1), (.int tt)])) _
      refine XS.iconst X1.here hx rfl (hb hby at_56) ?_
      show Steps p.tables e below (T1.setTop (mkF m 57 #[.val (.int p1), .val (.int p2), .val (.ref b1), .val (.int tt), .val (.int sg), .unset, .unset, .unset, .unset] [(.int (1 : Int32)), (.ref b1), (.int tt)])) _
      refine X1.iaload hx (j := (1 : Int32)) (v := (.int (5 : Int32))) (by exact Ar1.1) (State.isArrayOf_alike hZ.alike Ar1.2.1) Ar1.2.2 hin1_1 hat1_1 (g := (mkF m 57 #[.val (.int p1), .val (.int p2), .val (.ref b1), .val (.int tt), .val (.int sg), .unset, .unset, .unset, .unset] [(.int (1 : Int32)), (.ref b1), (.int tt)])) rfl rfl (hb hby at_57) _ ?_
      by_cases hc58 : tt < (5 : Int32)
      · show Steps p.tables e below (T1.setTop (mkF m 58 #[.val (.int p1), .val (.int p2), .val (.ref b1), .val (.int tt), .val (.int sg), .unset, .unset, .unset, .unset] [(.int (5 : Int32)), (.int tt)])) _
        refine XS.icmpYes X1.here hx rfl (pc0 := 58) (pc' := 65) rfl (hb hby at_58) rfl (tlt hc58).1 (by decide) (by decide) ?_
        show Steps p.tables e below (T1.setTop (mkF m 65 #[.val (.int p1), .val (.int p2), .val (.ref b1), .val (.int tt), .val (.int sg), .unset, .unset, .unset, .unset] [])) _
        refine XS.iloadN X1.here hx rfl (hb hby at_65) rfl ?_
        show Steps p.tables e below (T1.setTop (mkF m 66 #[.val (.int p1), .val (.int p2), .val (.ref b1), .val (.int tt), .val (.int sg), .unset, .unset, .unset, .unset] [(.int tt)])) _
        refine XS.aloadN X1.here hx rfl (hb hby at_66) rfl rfl ?_
        show Steps p.tables e below (T1.setTop (mkF m 67 #[.val (.int p1), .val (.int p2), .val (.ref b1), .val (.int tt), .val (.int sg), .unset, .unset, .unset, .unset] [(.ref b1), (.int tt)])) _
        refine XS.iconst X1.here hx rfl (hb hby at_67) ?_
        show Steps p.tables e below (T1.setTop (mkF m 68 #[.val (.int p1), .val (.int p2), .val (.ref b1), .val (.int tt), .val (.int sg), .unset, .unset, .unset, .unset] [(.int (0 : Int32)), (.ref b1), (.int tt)])) _
        refine X1.iaload hx (j := (0 : Int32)) (v := (.int (0 : Int32))) (by exact Ar1.1) (State.isArrayOf_alike hZ.alike Ar1.2.1) Ar1.2.2 hin1_0 hat1_0 (g := (mkF m 68 #[.val (.int p1), .val (.int p2), .val (.ref b1), .val (.int tt), .val (.int sg), .unset, .unset, .unset, .unset] [(.int (0 : Int32)), (.ref b1), (.int tt)])) rfl rfl (hb hby at_68) _ ?_
        by_cases hc69 : tt < (0 : Int32)
        · show Steps p.tables e below (T1.setTop (mkF m 69 #[.val (.int p1), .val (.int p2), .val (.ref b1), .val (.int tt), .val (.int sg), .unset, .unset, .unset, .unset] [(.int (0 : Int32)), (.int tt)])) _
          refine XS.icmpYes X1.here hx rfl (pc0 := 69) (pc' := 76) rfl (hb hby at_69) rfl (tlt hc69).1 (by decide) (by decide) ?_
          show Steps p.tables e below (T1.setTop (mkF m 76 #[.val (.int p1), .val (.int p2), .val (.ref b1), .val (.int tt), .val (.int sg), .unset, .unset, .unset, .unset] [])) _
          refine XS.iconst X1.here hx rfl (hb hby at_76) ?_
          show Steps p.tables e below (T1.setTop (mkF m 77 #[.val (.int p1), .val (.int p2), .val (.ref b1), .val (.int tt), .val (.int sg), .unset, .unset, .unset, .unset] [(.int (-1 : Int32))])) _
          have qkk : kk = (-1 : Int32) := by rw [hkk]; simp only [own_k, if_pos, if_neg, hc47, hc58, hc69, not_false_eq_true]
          rw [qkk] at K
          exact K
        · show Steps p.tables e below (T1.setTop (mkF m 69 #[.val (.int p1), .val (.int p2), .val (.ref b1), .val (.int tt), .val (.int sg), .unset, .unset, .unset, .unset] [(.int (0 : Int32)), (.int tt)])) _
          refine XS.icmpNo X1.here hx rfl (hb hby at_69) rfl (flt hc69).1 ?_
          show Steps p.tables e below (T1.setTop (mkF m 72 #[.val (.int p1), .val (.int p2), .val (.ref b1), .val (.int tt), .val (.int sg), .unset, .unset, .unset, .unset] [])) _
          refine XS.iconst X1.here hx rfl (hb hby at_72) ?_
          show Steps p.tables e below (T1.setTop (mkF m 73 #[.val (.int p1), .val (.int p2), .val (.ref b1), .val (.int tt), .val (.int sg), .unset, .unset, .unset, .unset] [(.int (0 : Int32))])) _
          refine XS.goto X1.here hx rfl (pc0 := 73) (pc' := 77) rfl (hb hby at_73) (by decide) (by decide) ?_
          show Steps p.tables e below (T1.setTop (mkF m 77 #[.val (.int p1), .val (.int p2), .val (.ref b1), .val (.int tt), .val (.int sg), .unset, .unset, .unset, .unset] [(.int (0 : Int32))])) _
          have qkk : kk = (0 : Int32) := by rw [hkk]; simp only [own_k, if_pos, if_neg, hc47, hc58, hc69, not_false_eq_true]
          rw [qkk] at K
          exact K
      · show Steps p.tables e below (T1.setTop (mkF m 58 #[.val (.int p1), .val (.int p2), .val (.ref b1), .val (.int tt), .val (.int sg), .unset, .unset, .unset, .unset] [(.int (5 : Int32)), (.int tt)])) _
        refine XS.icmpNo X1.here hx rfl (hb hby at_58) rfl (flt hc58).1 ?_
        show Steps p.tables e below (T1.setTop (mkF m 61 #[.val (.int p1), .val (.int p2), .val (.ref b1), .val (.int tt), .val (.int sg), .unset, .unset, .unset, .unset] [])) _
        refine XS.iconst X1.here hx rfl (hb hby at_61) ?_
        show Steps p.tables e below (T1.setTop (mkF m 62 #[.val (.int p1), .val (.int p2), .val (.ref b1), .val (.int tt), .val (.int sg), .unset, .unset, .unset, .unset] [(.int (1 : Int32))])) _
        refine XS.goto X1.here hx rfl (pc0 := 62) (pc' := 77) rfl (hb hby at_62) (by decide) (by decide) ?_
        show Steps p.tables e below (T1.setTop (mkF m 77 #[.val (.int p1), .val (.int p2), .val (.ref b1), .val (.int tt), .val (.int sg), .unset, .unset, .unset, .unset] [(.int (1 : Int32))])) _
        have qkk : kk = (1 : Int32) := by rw [hkk]; simp only [own_k, if_pos, if_neg, hc47, hc58, not_false_eq_true]
        rw [qkk] at K
        exact K
    · show Steps p.tables e below (T1.setTop (mkF m 47 #[.val (.int p1), .val (.int p2), .val (.ref b1), .val (.int tt), .val (.int sg), .unset, .unset, .unset, .unset] [(.int (20 : Int32)), (.int tt)])) _
      refine XS.icmpNo X1.here hx rfl (hb hby at_47) rfl (flt hc47).1 ?_
      show Steps p.tables e below (T1.setTop (mkF m 50 #[.val (.int p1), .val (.int p2), .val (.ref b1), .val (.int tt), .val (.int sg), .unset, .unset, .unset, .unset] [])) _
      refine XS.iconst X1.here hx rfl (hb hby at_50) ?_
      show Steps p.tables e below (T1.setTop (mkF m 51 #[.val (.int p1), .val (.int p2), .val (.ref b1), .val (.int tt), .val (.int sg), .unset, .unset, .unset, .unset] [(.int (2 : Int32))])) _
      refine XS.goto X1.here hx rfl (pc0 := 51) (pc' := 77) rfl (hb hby at_51) (by decide) (by decide) ?_
      show Steps p.tables e below (T1.setTop (mkF m 77 #[.val (.int p1), .val (.int p2), .val (.ref b1), .val (.int tt), .val (.int sg), .unset, .unset, .unset, .unset] [(.int (2 : Int32))])) _
      have qkk : kk = (2 : Int32) := by rw [hkk]; simp only [own_k, if_pos, if_neg, hc47, not_false_eq_true]
      rw [qkk] at K
      exact K
  obtain ⟨ii, n_ii⟩ : ∃ z : Int32, z = ((p2 &&& (2147483647 : Int32)) - ((p2 &&& (2147483647 : Int32)) / (3 : Int32)) * (3 : Int32)) := ⟨_, rfl⟩
  have hii : ¬ ii < 0 ∧ ii < 3 := n_ii ▸ own_ix p2
  have hin4 : ¬ (ii < 0 ∨ cl1.slots.size ≤ ii.toNatClampNeg) := inb_of S1 hii
  obtain ⟨T4, h4, X4, e4, W4, st4⟩ := stI X1 hx hZ rfl Ar1 (j := ii) hin4 (g := (mkF m 126 #[.val (.int p1), .val (.int p2), .val (.ref b1), .val (.int tt), .val (.int sg), .val (.int kk), .val (.int (1 : Int32)), .val (.int ii), .unset] [(.int p2), (.int ii), (.ref b1)])) rfl rfl (hb hby at_126)
  have Kw4 := Keep.of_wr W4
  have N4 := Fr.snoc X4 N1 g_b1
  have Z4 : n0 ≤ h4.size := Nat.le_trans Z1 Kw4.1
  have lt4 : b1 < h4.size := Nat.lt_of_lt_of_le Ar1.lt Kw4.1
  obtain ⟨_, _, ⟨T5, L5, k5, n5⟩, -, X5, ⟨Lc5, hQ5, l5, y5, z5⟩, st5⟩ := Jvm.LawKit.callS X4 hx (y := (⟨"com/example/vestwright/vestwright/actuarial/SegmentRates", "fromYears", "()[I"⟩ : MethodName)) hown (mvT hZ (hw _ (List.mem_of_getElem? (i := 0) rfl))) (mvT hZ (hw _ (List.mem_of_getElem? (i := 1) rfl))) (mvT hZ (hw _ (List.mem_of_getElem? (i := 2) rfl))) (mvT hZ (hw _ (List.mem_of_getElem? (i := 3) rfl))) (by decide) (backOf (W := 0) (own_rm1 l Z a0 hw []   h4 n0 Z4) hZ (hw _ (List.mem_of_getElem? (i := 3) rfl)) (hw _ (List.mem_of_getElem? (i := 2) rfl)) (by decide) (by decide)) (g := (mkF m 127 #[.val (.int p1), .val (.int p2), .val (.ref b1), .val (.int tt), .val (.int sg), .val (.int kk), .val (.int (1 : Int32)), .val (.int ii), .unset] [])) rfl (by rw [hml]; rfl) (argsL := []) (rest := []) (lenOf own_pd0 rfl) rfl (by show 2 * 0 + _ ≤ _; exact Nat.le_of_eq rfl) (hb hby at_127) (fun _ _ => ⟨rfl, e4, (by decide : 1 + 1 ≤ _), (by decide : 3 + 3 ≤ _)⟩)
  dsimp only [Pt.U, Pt.locs, Pt.cells, Pt.slots] at X5 l5 y5 z5 st5 hQ5
  subst l5 y5 z5
  obtain ⟨b5, kb5, rfl, N5q, g_b5, ge5, sz5, V5⟩ := hQ5
  have N5 := Fr.app N4 N5q
  have Z5 : n0 ≤ T5.heap.size := Nat.le_trans Z4 sz5
  obtain ⟨cl5, Ar5, q5, S5, M5, H5, G5⟩ := V5
  have hin5_0 : ¬ ((0 : Int32) < 0 ∨ cl5.slots.size ≤ (0 : Int32).toNatClampNeg) := inb_of S5 ⟨by decide, by decide⟩
  have hat5_0 : cl5.slots[(0 : Int32).toNatClampNeg]? = some (.int (0 : Int32)) := H5 0 (by rw [S5]; decide)
  have hin5_1 : ¬ ((1 : Int32) < 0 ∨ cl5.slots.size ≤ (1 : Int32).toNatClampNeg) := inb_of S5 ⟨by decide, by decide⟩
  have hat5_1 : cl5.slots[(1 : Int32).toNatClampNeg]? = some (.int (5 : Int32)) := H5 1 (by rw [S5]; decide)
  have hin5_2 : ¬ ((2 : Int32) < 0 ∨ cl5.slots.size ≤ (2 : Int32).toNatClampNeg) := inb_of S5 ⟨by decide, by decide⟩
  have hat5_2 : cl5.slots[(2 : Int32).toNatClampNeg]? = some (.int (20 : Int32)) := H5 2 (by rw [S5]; decide)
  have hne : ¬ (b5 = b1) := fun q => absurd (q ▸ ge5 : h4.size ≤ b1) (Nat.not_le.mpr lt4)
  obtain ⟨fs, hr, hrun, hended, hW, hsame⟩ := X5.leave (v := some (.int (1 : Int32))) (fun h => by rw [Bd.returns] at h; cases h)
  refine ⟨_, _, pre0 _ ?_, hrun, hended, _, _, rfl, ?_, ⟨_, rfl⟩, hW, hsame.mono (by decide) (by decide)⟩
  · show Steps p.tables e below (s₁.setTop (mkF m 0 #[.val (.int p1), .val (.int p2), .unset, .unset, .unset, .unset, .unset, .unset, .unset] [])) _
    refine st1 _ ?_
    show Steps p.tables e below (T1.setTop (mkF m 3 #[.val (.int p1), .val (.int p2), .unset, .unset, .unset, .unset, .unset, .unset, .unset] [(.ref b1)])) _
    refine XS.astoreN X1.here hx rfl (hb hby at_3) rfl rfl (l' := #[.val (.int p1), .val (.int p2), .val (.ref b1), .unset, .unset, .unset, .unset, .unset, .unset]) rfl ?_
    show Steps p.tables e below (T1.setTop (mkF m 4 #[.val (.int p1), .val (.int p2), .val (.ref b1), .unset, .unset, .unset, .unset, .unset, .unset] [])) _
    refine XS.aloadN X1.here hx rfl (hb hby at_4) rfl rfl ?_
    show Steps p.tables e below (T1.setTop (mkF m 5 #[.val (.int p1), .val (.int p2), .val (.ref b1), .unset, .unset, .unset, .unset, .unset, .unset] [(.ref b1)])) _
    refine XS.ifnullNo X1.here hx rfl (hb hby at_5) rfl ?_
    show Steps p.tables e below (T1.setTop (mkF m 8 #[.val (.int p1), .val (.int p2), .val (.ref b1), .unset, .unset, .unset, .unset, .unset, .unset] [])) _
    refine XS.aloadN X1.here hx rfl (hb hby at_8) rfl rfl ?_
    show Steps p.tables e below (T1.setTop (mkF m 9 #[.val (.int p1), .val (.int p2), .val (.ref b1), .unset, .unset, .unset, .unset, .unset, .unset] [(.ref b1)])) _
    refine X1.arraylength hx (cell := cl1) (by exact Ar1.1) (State.isArrayOf_alike hZ.alike Ar1.2.1) (g := (mkF m 9 #[.val (.int p1), .val (.int p2), .val (.ref b1), .unset, .unset, .unset, .unset, .unset, .unset] [(.ref b1)])) rfl (rest := []) rfl (hb hby at_9) _ ?_
    rw [len_of S1 M1]
    show Steps p.tables e below (T1.setTop (mkF m 10 #[.val (.int p1), .val (.int p2), .val (.ref b1), .unset, .unset, .unset, .unset, .unset, .unset] [(.int (3 : Int32))])) _
    refine XS.iconst X1.here hx rfl (hb hby at_10) ?_
    show Steps p.tables e below (T1.setTop (mkF m 11 #[.val (.int p1), .val (.int p2), .val (.ref b1), .unset, .unset, .unset, .unset, .unset, .unset] [(.int (3 : Int32)), (.int (3 : Int32))])) _
    refine XS.icmpYes X1.here hx rfl (pc0 := 11) (pc' := 16) rfl (hb hby at_11) rfl (teq (rfl : (3 : Int32) = (3 : Int32))).1 (by decide) (by decide) ?_
    show Steps p.tables e below (T1.setTop (mkF m 16 #[.val (.int p1), .val (.int p2), .val (.ref b1), .unset, .unset, .unset, .unset, .unset, .unset] [])) _
    refine XS.iloadN X1.here hx rfl (hb hby at_16) rfl ?_
    show Steps p.tables e below (T1.setTop (mkF m 17 #[.val (.int p1), .val (.int p2), .val (.ref b1), .unset, .unset, .unset, .unset, .unset, .unset] [(.int p1)])) _
    refine XS.bipush X1.here hx rfl (hb hby at_17) ?_
    show Steps p.tables e below (T1.setTop (mkF m 19 #[.val (.int p1), .val (.int p2), .val (.ref b1), .unset, .unset, .unset, .unset, .unset, .unset] [(.int (63 : Int32)), (.int p1)])) _
    refine XS.iand X1.here hx rfl (hb hby at_19) rfl ?_
    show Steps p.tables e below (T1.setTop (mkF m 20 #[.val (.int p1), .val (.int p2), .val (.ref b1), .unset, .unset, .unset, .unset, .unset, .unset] [(.int (p1 &&& (63 : Int32)))])) _
    refine XS.istoreN X1.here hx rfl (hb hby at_20) rfl (l' := #[.val (.int p1), .val (.int p2), .val (.ref b1), .val (.int (p1 &&& (63 : Int32))), .unset, .unset, .unset, .unset, .unset]) rfl ?_
    show Steps p.tables e below (T1.setTop (mkF m 21 #[.val (.int p1), .val (.int p2), .val (.ref b1), .val (.int (p1 &&& (63 : Int32))), .unset, .unset, .unset, .unset, .unset] [])) _
    rw [← n_tt]
    show Steps p.tables e below (T1.setTop (mkF m 21 #[.val (.int p1), .val (.int p2), .val (.ref b1), .val (.int tt), .unset, .unset, .unset, .unset, .unset] [])) _
    refine sg2 _ ?_
    show Steps p.tables e below (T1.setTop (mkF m 41 #[.val (.int p1), .val (.int p2), .val (.ref b1), .val (.int tt), .unset, .unset, .unset, .unset, .unset] [(.int sg)])) _
    refine XS.istore X1.here hx rfl (hb hby at_41) rfl (l' := #[.val (.int p1), .val (.int p2), .val (.ref b1), .val (.int tt), .val (.int sg), .unset, .unset, .unset, .unset]) rfl ?_
    show Steps p.tables e below (T1.setTop (mkF m 43 #[.val (.int p1), .val (.int p2), .val (.ref b1), .val (.int tt), .val (.int sg), .unset, .unset, .unset, .unset] [])) _
    refine sg3 _ ?_
    show Steps p.tables e below (T1.setTop (mkF m 77 #[.val (.int p1), .val (.int p2), .val (.ref b1), .val (.int tt), .val (.int sg), .unset, .unset, .unset, .unset] [(.int kk)])) _
    refine XS.istore X1.here hx rfl (hb hby at_77) rfl (l' := #[.val (.int p1), .val (.int p2), .val (.ref b1), .val (.int tt), .val (.int sg), .val (.int kk), .unset, .unset, .unset]) rfl ?_
    show Steps p.tables e below (T1.setTop (mkF m 79 #[.val (.int p1), .val (.int p2), .val (.ref b1), .val (.int tt), .val (.int sg), .val (.int kk), .unset, .unset, .unset] [])) _
    refine XS.iload X1.here hx rfl (hb hby at_79) rfl ?_
    show Steps p.tables e below (T1.setTop (mkF m 81 #[.val (.int p1), .val (.int p2), .val (.ref b1), .val (.int tt), .val (.int sg), .val (.int kk), .unset, .unset, .unset] [(.int kk)])) _
    refine XS.iload X1.here hx rfl (hb hby at_81) rfl ?_
    show Steps p.tables e below (T1.setTop (mkF m 83 #[.val (.int p1), .val (.int p2), .val (.ref b1), .val (.int tt), .val (.int sg), .val (.int kk), .unset, .unset, .unset] [(.int sg), (.int kk)])) _
    refine XS.icmpNo X1.here hx rfl (hb hby at_83) rfl (teq (by rw [hkk, hsg]; exact own_k_sg tt htt : kk = sg)).2 ?_
    show Steps p.tables e below (T1.setTop (mkF m 86 #[.val (.int p1), .val (.int p2), .val (.ref b1), .val (.int tt), .val (.int sg), .val (.int kk), .unset, .unset, .unset] [])) _
    refine XS.aloadN X1.here hx rfl (hb hby at_86) rfl rfl ?_
    show Steps p.tables e below (T1.setTop (mkF m 87 #[.val (.int p1), .val (.int p2), .val (.ref b1), .val (.int tt), .val (.int sg), .val (.int kk), .unset, .unset, .unset] [(.ref b1)])) _
    refine XS.iconst X1.here hx rfl (hb hby at_87) ?_
    show Steps p.tables e below (T1.setTop (mkF m 88 #[.val (.int p1), .val (.int p2), .val (.ref b1), .val (.int tt), .val (.int sg), .val (.int kk), .unset, .unset, .unset] [(.int (0 : Int32)), (.ref b1)])) _
    refine X1.iaload hx (j := (0 : Int32)) (v := (.int (0 : Int32))) (by exact Ar1.1) (State.isArrayOf_alike hZ.alike Ar1.2.1) Ar1.2.2 hin1_0 hat1_0 (g := (mkF m 88 #[.val (.int p1), .val (.int p2), .val (.ref b1), .val (.int tt), .val (.int sg), .val (.int kk), .unset, .unset, .unset] [(.int (0 : Int32)), (.ref b1)])) rfl rfl (hb hby at_88) _ ?_
    show Steps p.tables e below (T1.setTop (mkF m 89 #[.val (.int p1), .val (.int p2), .val (.ref b1), .val (.int tt), .val (.int sg), .val (.int kk), .unset, .unset, .unset] [(.int (0 : Int32))])) _
    refine XS.ifNo X1.here hx rfl (hb hby at_89) rfl ((if0 _ _).trans (teq (rfl : (0 : Int32) = (0 : Int32))).2) ?_
    show Steps p.tables e below (T1.setTop (mkF m 92 #[.val (.int p1), .val (.int p2), .val (.ref b1), .val (.int tt), .val (.int sg), .val (.int kk), .unset, .unset, .unset] [])) _
    refine XS.aloadN X1.here hx rfl (hb hby at_92) rfl rfl ?_
    show Steps p.tables e below (T1.setTop (mkF m 93 #[.val (.int p1), .val (.int p2), .val (.ref b1), .val (.int tt), .val (.int sg), .val (.int kk), .unset, .unset, .unset] [(.ref b1)])) _
    refine XS.iconst X1.here hx rfl (hb hby at_93) ?_
    show Steps p.tables e below (T1.setTop (mkF m 94 #[.val (.int p1), .val (.int p2), .val (.ref b1), .val (.int tt), .val (.int sg), .val (.int kk), .unset, .unset, .unset] [(.int (1 : Int32)), (.ref b1)])) _
    refine X1.iaload hx (j := (1 : Int32)) (v := (.int (5 : Int32))) (by exact Ar1.1) (State.isArrayOf_alike hZ.alike Ar1.2.1) Ar1.2.2 hin1_1 hat1_1 (g := (mkF m 94 #[.val (.int p1), .val (.int p2), .val (.ref b1), .val (.int tt), .val (.int sg), .val (.int kk), .unset, .unset, .unset] [(.int (1 : Int32)), (.ref b1)])) rfl rfl (hb hby at_94) _ ?_
    show Steps p.tables e below (T1.setTop (mkF m 95 #[.val (.int p1), .val (.int p2), .val (.ref b1), .val (.int tt), .val (.int sg), .val (.int kk), .unset, .unset, .unset] [(.int (5 : Int32))])) _
    refine XS.iconst X1.here hx rfl (hb hby at_95) ?_
    show Steps p.tables e below (T1.setTop (mkF m 96 #[.val (.int p1), .val (.int p2), .val (.ref b1), .val (.int tt), .val (.int sg), .val (.int kk), .unset, .unset, .unset] [(.int (5 : Int32)), (.int (5 : Int32))])) _
    refine XS.icmpNo X1.here hx rfl (hb hby at_96) rfl (teq (rfl : (5 : Int32) = (5 : Int32))).2 ?_
    show Steps p.tables e below (T1.setTop (mkF m 99 #[.val (.int p1), .val (.int p2), .val (.ref b1), .val (.int tt), .val (.int sg), .val (.int kk), .unset, .unset, .unset] [])) _
    refine XS.aloadN X1.here hx rfl (hb hby at_99) rfl rfl ?_
    show Steps p.tables e below (T1.setTop (mkF m 100 #[.val (.int p1), .val (.int p2), .val (.ref b1), .val (.int tt), .val (.int sg), .val (.int kk), .unset, .unset, .unset] [(.ref b1)])) _
    refine XS.iconst X1.here hx rfl (hb hby at_100) ?_
    show Steps p.tables e below (T1.setTop (mkF m 101 #[.val (.int p1), .val (.int p2), .val (.ref b1), .val (.int tt), .val (.int sg), .val (.int kk), .unset, .unset, .unset] [(.int (2 : Int32)), (.ref b1)])) _
    refine X1.iaload hx (j := (2 : Int32)) (v := (.int (20 : Int32))) (by exact Ar1.1) (State.isArrayOf_alike hZ.alike Ar1.2.1) Ar1.2.2 hin1_2 hat1_2 (g := (mkF m 101 #[.val (.int p1), .val (.int p2), .val (.ref b1), .val (.int tt), .val (.int sg), .val (.int kk), .unset, .unset, .unset] [(.int (2 : Int32)), (.ref b1)])) rfl rfl (hb hby at_101) _ ?_
    show Steps p.tables e below (T1.setTop (mkF m 102 #[.val (.int p1), .val (.int p2), .val (.ref b1), .val (.int tt), .val (.int sg), .val (.int kk), .unset, .unset, .unset] [(.int (20 : Int32))])) _
    refine XS.bipush X1.here hx rfl (hb hby at_102) ?_
    show Steps p.tables e below (T1.setTop (mkF m 104 #[.val (.int p1), .val (.int p2), .val (.ref b1), .val (.int tt), .val (.int sg), .val (.int kk), .unset, .unset, .unset] [(.int (20 : Int32)), (.int (20 : Int32))])) _
    refine XS.icmpNo X1.here hx rfl (hb hby at_104) rfl (teq (rfl : (20 : Int32) = (20 : Int32))).2 ?_
    show Steps p.tables e below (T1.setTop (mkF m 107 #[.val (.int p1), .val (.int p2), .val (.ref b1), .val (.int tt), .val (.int sg), .val (.int kk), .unset, .unset, .unset] [])) _
    refine XS.iconst X1.here hx rfl (hb hby at_107) ?_
    show Steps p.tables e below (T1.setTop (mkF m 108 #[.val (.int p1), .val (.int p2), .val (.ref b1), .val (.int tt), .val (.int sg), .val (.int kk), .unset, .unset, .unset] [(.int (1 : Int32))])) _
    refine XS.goto X1.here hx rfl (pc0 := 108) (pc' := 112) rfl (hb hby at_108) (by decide) (by decide) ?_
    show Steps p.tables e below (T1.setTop (mkF m 112 #[.val (.int p1), .val (.int p2), .val (.ref b1), .val (.int tt), .val (.int sg), .val (.int kk), .unset, .unset, .unset] [(.int (1 : Int32))])) _
    refine XS.istore X1.here hx rfl (hb hby at_112) rfl (l' := #[.val (.int p1), .val (.int p2), .val (.ref b1), .val (.int tt), .val (.int sg), .val (.int kk), .val (.int (1 : Int32)), .unset, .unset]) rfl ?_
    show Steps p.tables e below (T1.setTop (mkF m 114 #[.val (.int p1), .val (.int p2), .val (.ref b1), .val (.int tt), .val (.int sg), .val (.int kk), .val (.int (1 : Int32)), .unset, .unset] [])) _
    refine XS.iloadN X1.here hx rfl (hb hby at_114) rfl ?_
    show Steps p.tables e below (T1.setTop (mkF m 115 #[.val (.int p1), .val (.int p2), .val (.ref b1), .val (.int tt), .val (.int sg), .val (.int kk), .val (.int (1 : Int32)), .unset, .unset] [(.int p2)])) _
    refine X1.ldcInt hx hown (mvT hZ (hw _ (List.mem_of_getElem? (i := 5) rfl))) (g := (mkF m 115 #[.val (.int p1), .val (.int p2), .val (.ref b1), .val (.int tt), .val (.int sg), .val (.int kk), .val (.int (1 : Int32)), .unset, .unset] [(.int p2)])) rfl (hb hby at_115) _ ?_
    show Steps p.tables e below (T1.setTop (mkF m 117 #[.val (.int p1), .val (.int p2), .val (.ref b1), .val (.int tt), .val (.int sg), .val (.int kk), .val (.int (1 : Int32)), .unset, .unset] [(.int (2147483647 : Int32)), (.int p2)])) _
    refine XS.iand X1.here hx rfl (hb hby at_117) rfl ?_
    show Steps p.tables e below (T1.setTop (mkF m 118 #[.val (.int p1), .val (.int p2), .val (.ref b1), .val (.int tt), .val (.int sg), .val (.int kk), .val (.int (1 : Int32)), .unset, .unset] [(.int (p2 &&& (2147483647 : Int32)))])) _
    refine XS.iconst X1.here hx rfl (hb hby at_118) ?_
    show Steps p.tables e below (T1.setTop (mkF m 119 #[.val (.int p1), .val (.int p2), .val (.ref b1), .val (.int tt), .val (.int sg), .val (.int kk), .val (.int (1 : Int32)), .unset, .unset] [(.int (3 : Int32)), (.int (p2 &&& (2147483647 : Int32)))])) _
    refine XS.irem X1.here hx rfl (hb hby at_119) rfl (by decide) ?_
    show Steps p.tables e below (T1.setTop (mkF m 120 #[.val (.int p1), .val (.int p2), .val (.ref b1), .val (.int tt), .val (.int sg), .val (.int kk), .val (.int (1 : Int32)), .unset, .unset] [(.int ((p2 &&& (2147483647 : Int32)) - ((p2 &&& (2147483647 : Int32)) / (3 : Int32)) * (3 : Int32)))])) _
    refine XS.istore X1.here hx rfl (hb hby at_120) rfl (l' := #[.val (.int p1), .val (.int p2), .val (.ref b1), .val (.int tt), .val (.int sg), .val (.int kk), .val (.int (1 : Int32)), .val (.int ((p2 &&& (2147483647 : Int32)) - ((p2 &&& (2147483647 : Int32)) / (3 : Int32)) * (3 : Int32))), .unset]) rfl ?_
    show Steps p.tables e below (T1.setTop (mkF m 122 #[.val (.int p1), .val (.int p2), .val (.ref b1), .val (.int tt), .val (.int sg), .val (.int kk), .val (.int (1 : Int32)), .val (.int ((p2 &&& (2147483647 : Int32)) - ((p2 &&& (2147483647 : Int32)) / (3 : Int32)) * (3 : Int32))), .unset] [])) _
    rw [← n_ii]
    show Steps p.tables e below (T1.setTop (mkF m 122 #[.val (.int p1), .val (.int p2), .val (.ref b1), .val (.int tt), .val (.int sg), .val (.int kk), .val (.int (1 : Int32)), .val (.int ii), .unset] [])) _
    refine XS.aloadN X1.here hx rfl (hb hby at_122) rfl rfl ?_
    show Steps p.tables e below (T1.setTop (mkF m 123 #[.val (.int p1), .val (.int p2), .val (.ref b1), .val (.int tt), .val (.int sg), .val (.int kk), .val (.int (1 : Int32)), .val (.int ii), .unset] [(.ref b1)])) _
    refine XS.iload X1.here hx rfl (hb hby at_123) rfl ?_
    show Steps p.tables e below (T1.setTop (mkF m 125 #[.val (.int p1), .val (.int p2), .val (.ref b1), .val (.int tt), .val (.int sg), .val (.int kk), .val (.int (1 : Int32)), .val (.int ii), .unset] [(.int ii), (.ref b1)])) _
    refine XS.iloadN X1.here hx rfl (hb hby at_125) rfl ?_
    show Steps p.tables e below (T1.setTop (mkF m 126 #[.val (.int p1), .val (.int p2), .val (.ref b1), .val (.int tt), .val (.int sg), .val (.int kk), .val (.int (1 : Int32)), .val (.int ii), .unset] [(.int p2), (.int ii), (.ref b1)])) _
    refine st4 _ ?_
    show Steps p.tables e below (T4.setTop (mkF m 127 #[.val (.int p1), .val (.int p2), .val (.ref b1), .val (.int tt), .val (.int sg), .val (.int kk), .val (.int (1 : Int32)), .val (.int ii), .unset] [])) _
    refine st5 _ ?_
    show Steps p.tables e below (T5.setTop (mkF m 130 #[.val (.int p1), .val (.int p2), .val (.ref b1), .val (.int tt), .val (.int sg), .val (.int kk), .val (.int (1 : Int32)), .val (.int ii), .unset] [(.ref b5)])) _
    refine XS.astore X5.here hx rfl (hb hby at_130) rfl rfl (l' := #[.val (.int p1), .val (.int p2), .val (.ref b1), .val (.int tt), .val (.int sg), .val (.int kk), .val (.int (1 : Int32)), .val (.int ii), .val (.ref b5)]) rfl ?_
    show Steps p.tables e below (T5.setTop (mkF m 132 #[.val (.int p1), .val (.int p2), .val (.ref b1), .val (.int tt), .val (.int sg), .val (.int kk), .val (.int (1 : Int32)), .val (.int ii), .val (.ref b5)] [])) _
    refine XS.aload X5.here hx rfl (hb hby at_132) rfl rfl ?_
    show Steps p.tables e below (T5.setTop (mkF m 134 #[.val (.int p1), .val (.int p2), .val (.ref b1), .val (.int tt), .val (.int sg), .val (.int kk), .val (.int (1 : Int32)), .val (.int ii), .val (.ref b5)] [(.ref b5)])) _
    refine XS.ifnullNo X5.here hx rfl (hb hby at_134) rfl ?_
    show Steps p.tables e below (T5.setTop (mkF m 137 #[.val (.int p1), .val (.int p2), .val (.ref b1), .val (.int tt), .val (.int sg), .val (.int kk), .val (.int (1 : Int32)), .val (.int ii), .val (.ref b5)] [])) _
    refine XS.aload X5.here hx rfl (hb hby at_137) rfl rfl ?_
    show Steps p.tables e below (T5.setTop (mkF m 139 #[.val (.int p1), .val (.int p2), .val (.ref b1), .val (.int tt), .val (.int sg), .val (.int kk), .val (.int (1 : Int32)), .val (.int ii), .val (.ref b5)] [(.ref b5)])) _
    refine X5.arraylength hx (cell := cl5) (by exact Ar5.1) (State.isArrayOf_alike hZ.alike Ar5.2.1) (g := (mkF m 139 #[.val (.int p1), .val (.int p2), .val (.ref b1), .val (.int tt), .val (.int sg), .val (.int kk), .val (.int (1 : Int32)), .val (.int ii), .val (.ref b5)] [(.ref b5)])) rfl (rest := []) rfl (hb hby at_139) _ ?_
    rw [len_of S5 M5]
    show Steps p.tables e below (T5.setTop (mkF m 140 #[.val (.int p1), .val (.int p2), .val (.ref b1), .val (.int tt), .val (.int sg), .val (.int kk), .val (.int (1 : Int32)), .val (.int ii), .val (.ref b5)] [(.int (3 : Int32))])) _
    refine XS.iconst X5.here hx rfl (hb hby at_140) ?_
    show Steps p.tables e below (T5.setTop (mkF m 141 #[.val (.int p1), .val (.int p2), .val (.ref b1), .val (.int tt), .val (.int sg), .val (.int kk), .val (.int (1 : Int32)), .val (.int ii), .val (.ref b5)] [(.int (3 : Int32)), (.int (3 : Int32))])) _
    refine XS.icmpYes X5.here hx rfl (pc0 := 141) (pc' := 146) rfl (hb hby at_141) rfl (teq (rfl : (3 : Int32) = (3 : Int32))).1 (by decide) (by decide) ?_
    show Steps p.tables e below (T5.setTop (mkF m 146 #[.val (.int p1), .val (.int p2), .val (.ref b1), .val (.int tt), .val (.int sg), .val (.int kk), .val (.int (1 : Int32)), .val (.int ii), .val (.ref b5)] [])) _
    refine XS.iload X5.here hx rfl (hb hby at_146) rfl ?_
    show Steps p.tables e below (T5.setTop (mkF m 148 #[.val (.int p1), .val (.int p2), .val (.ref b1), .val (.int tt), .val (.int sg), .val (.int kk), .val (.int (1 : Int32)), .val (.int ii), .val (.ref b5)] [(.int (1 : Int32))])) _
    refine XS.ifNo X5.here hx rfl (hb hby at_148) rfl ((if0 _ _).trans (feq (by decide : ¬ ((1 : Int32) = (0 : Int32)))).1) ?_
    show Steps p.tables e below (T5.setTop (mkF m 151 #[.val (.int p1), .val (.int p2), .val (.ref b1), .val (.int tt), .val (.int sg), .val (.int kk), .val (.int (1 : Int32)), .val (.int ii), .val (.ref b5)] [])) _
    refine XS.aload X5.here hx rfl (hb hby at_151) rfl rfl ?_
    show Steps p.tables e below (T5.setTop (mkF m 153 #[.val (.int p1), .val (.int p2), .val (.ref b1), .val (.int tt), .val (.int sg), .val (.int kk), .val (.int (1 : Int32)), .val (.int ii), .val (.ref b5)] [(.ref b5)])) _
    refine XS.aloadN X5.here hx rfl (hb hby at_153) rfl rfl ?_
    show Steps p.tables e below (T5.setTop (mkF m 154 #[.val (.int p1), .val (.int p2), .val (.ref b1), .val (.int tt), .val (.int sg), .val (.int kk), .val (.int (1 : Int32)), .val (.int ii), .val (.ref b5)] [(.ref b1), (.ref b5)])) _
    refine Jvm.RoadKit.acmp (g := (mkF m 154 #[.val (.int p1), .val (.int p2), .val (.ref b1), .val (.int tt), .val (.int sg), .val (.int kk), .val (.int (1 : Int32)), .val (.int ii), .val (.ref b5)] [(.ref b1), (.ref b5)])) X5 hx rfl rfl rfl (pc0 := 154) (pc' := 157) (same := false) rfl (hb hby at_154) rfl (decide_eq_false fun q => hne (Value.ref.inj q)) (by decide) (by decide) ?_
    show Steps p.tables e below (T5.setTop (mkF m 157 #[.val (.int p1), .val (.int p2), .val (.ref b1), .val (.int tt), .val (.int sg), .val (.int kk), .val (.int (1 : Int32)), .val (.int ii), .val (.ref b5)] [])) _
    refine XS.aload X5.here hx rfl (hb hby at_157) rfl rfl ?_
    show Steps p.tables e below (T5.setTop (mkF m 159 #[.val (.int p1), .val (.int p2), .val (.ref b1), .val (.int tt), .val (.int sg), .val (.int kk), .val (.int (1 : Int32)), .val (.int ii), .val (.ref b5)] [(.ref b5)])) _
    refine XS.iconst X5.here hx rfl (hb hby at_159) ?_
    show Steps p.tables e below (T5.setTop (mkF m 160 #[.val (.int p1), .val (.int p2), .val (.ref b1), .val (.int tt), .val (.int sg), .val (.int kk), .val (.int (1 : Int32)), .val (.int ii), .val (.ref b5)] [(.int (0 : Int32)), (.ref b5)])) _
    refine X5.iaload hx (j := (0 : Int32)) (v := (.int (0 : Int32))) (by exact Ar5.1) (State.isArrayOf_alike hZ.alike Ar5.2.1) Ar5.2.2 hin5_0 hat5_0 (g := (mkF m 160 #[.val (.int p1), .val (.int p2), .val (.ref b1), .val (.int tt), .val (.int sg), .val (.int kk), .val (.int (1 : Int32)), .val (.int ii), .val (.ref b5)] [(.int (0 : Int32)), (.ref b5)])) rfl rfl (hb hby at_160) _ ?_
    show Steps p.tables e below (T5.setTop (mkF m 161 #[.val (.int p1), .val (.int p2), .val (.ref b1), .val (.int tt), .val (.int sg), .val (.int kk), .val (.int (1 : Int32)), .val (.int ii), .val (.ref b5)] [(.int (0 : Int32))])) _
    refine XS.ifNo X5.here hx rfl (hb hby at_161) rfl ((if0 _ _).trans (teq (rfl : (0 : Int32) = (0 : Int32))).2) ?_
    show Steps p.tables e below (T5.setTop (mkF m 164 #[.val (.int p1), .val (.int p2), .val (.ref b1), .val (.int tt), .val (.int sg), .val (.int kk), .val (.int (1 : Int32)), .val (.int ii), .val (.ref b5)] [])) _
    refine XS.aload X5.here hx rfl (hb hby at_164) rfl rfl ?_
    show Steps p.tables e below (T5.setTop (mkF m 166 #[.val (.int p1), .val (.int p2), .val (.ref b1), .val (.int tt), .val (.int sg), .val (.int kk), .val (.int (1 : Int32)), .val (.int ii), .val (.ref b5)] [(.ref b5)])) _
    refine XS.iconst X5.here hx rfl (hb hby at_166) ?_
    show Steps p.tables e below (T5.setTop (mkF m 167 #[.val (.int p1), .val (.int p2), .val (.ref b1), .val (.int tt), .val (.int sg), .val (.int kk), .val (.int (1 : Int32)), .val (.int ii), .val (.ref b5)] [(.int (1 : Int32)), (.ref b5)])) _
    refine X5.iaload hx (j := (1 : Int32)) (v := (.int (5 : Int32))) (by exact Ar5.1) (State.isArrayOf_alike hZ.alike Ar5.2.1) Ar5.2.2 hin5_1 hat5_1 (g := (mkF m 167 #[.val (.int p1), .val (.int p2), .val (.ref b1), .val (.int tt), .val (.int sg), .val (.int kk), .val (.int (1 : Int32)), .val (.int ii), .val (.ref b5)] [(.int (1 : Int32)), (.ref b5)])) rfl rfl (hb hby at_167) _ ?_
    show Steps p.tables e below (T5.setTop (mkF m 168 #[.val (.int p1), .val (.int p2), .val (.ref b1), .val (.int tt), .val (.int sg), .val (.int kk), .val (.int (1 : Int32)), .val (.int ii), .val (.ref b5)] [(.int (5 : Int32))])) _
    refine XS.iconst X5.here hx rfl (hb hby at_168) ?_
    show Steps p.tables e below (T5.setTop (mkF m 169 #[.val (.int p1), .val (.int p2), .val (.ref b1), .val (.int tt), .val (.int sg), .val (.int kk), .val (.int (1 : Int32)), .val (.int ii), .val (.ref b5)] [(.int (5 : Int32)), (.int (5 : Int32))])) _
    refine XS.icmpNo X5.here hx rfl (hb hby at_169) rfl (teq (rfl : (5 : Int32) = (5 : Int32))).2 ?_
    show Steps p.tables e below (T5.setTop (mkF m 172 #[.val (.int p1), .val (.int p2), .val (.ref b1), .val (.int tt), .val (.int sg), .val (.int kk), .val (.int (1 : Int32)), .val (.int ii), .val (.ref b5)] [])) _
    refine XS.aload X5.here hx rfl (hb hby at_172) rfl rfl ?_
    show Steps p.tables e below (T5.setTop (mkF m 174 #[.val (.int p1), .val (.int p2), .val (.ref b1), .val (.int tt), .val (.int sg), .val (.int kk), .val (.int (1 : Int32)), .val (.int ii), .val (.ref b5)] [(.ref b5)])) _
    refine XS.iconst X5.here hx rfl (hb hby at_174) ?_
    show Steps p.tables e below (T5.setTop (mkF m 175 #[.val (.int p1), .val (.int p2), .val (.ref b1), .val (.int tt), .val (.int sg), .val (.int kk), .val (.int (1 : Int32)), .val (.int ii), .val (.ref b5)] [(.int (2 : Int32)), (.ref b5)])) _
    refine X5.iaload hx (j := (2 : Int32)) (v := (.int (20 : Int32))) (by exact Ar5.1) (State.isArrayOf_alike hZ.alike Ar5.2.1) Ar5.2.2 hin5_2 hat5_2 (g := (mkF m 175 #[.val (.int p1), .val (.int p2), .val (.ref b1), .val (.int tt), .val (.int sg), .val (.int kk), .val (.int (1 : Int32)), .val (.int ii), .val (.ref b5)] [(.int (2 : Int32)), (.ref b5)])) rfl rfl (hb hby at_175) _ ?_
    show Steps p.tables e below (T5.setTop (mkF m 176 #[.val (.int p1), .val (.int p2), .val (.ref b1), .val (.int tt), .val (.int sg), .val (.int kk), .val (.int (1 : Int32)), .val (.int ii), .val (.ref b5)] [(.int (20 : Int32))])) _
    refine XS.bipush X5.here hx rfl (hb hby at_176) ?_
    show Steps p.tables e below (T5.setTop (mkF m 178 #[.val (.int p1), .val (.int p2), .val (.ref b1), .val (.int tt), .val (.int sg), .val (.int kk), .val (.int (1 : Int32)), .val (.int ii), .val (.ref b5)] [(.int (20 : Int32)), (.int (20 : Int32))])) _
    refine XS.icmpNo X5.here hx rfl (hb hby at_178) rfl (teq (rfl : (20 : Int32) = (20 : Int32))).2 ?_
    show Steps p.tables e below (T5.setTop (mkF m 181 #[.val (.int p1), .val (.int p2), .val (.ref b1), .val (.int tt), .val (.int sg), .val (.int kk), .val (.int (1 : Int32)), .val (.int ii), .val (.ref b5)] [])) _
    refine XS.iconst X5.here hx rfl (hb hby at_181) ?_
    show Steps p.tables e below (T5.setTop (mkF m 182 #[.val (.int p1), .val (.int p2), .val (.ref b1), .val (.int tt), .val (.int sg), .val (.int kk), .val (.int (1 : Int32)), .val (.int ii), .val (.ref b5)] [(.int (1 : Int32))])) _
    refine XS.goto X5.here hx rfl (pc0 := 182) (pc' := 186) rfl (hb hby at_182) (by decide) (by decide) ?_
    show Steps p.tables e below (T5.setTop (mkF m 186 #[.val (.int p1), .val (.int p2), .val (.ref b1), .val (.int tt), .val (.int sg), .val (.int kk), .val (.int (1 : Int32)), .val (.int ii), .val (.ref b5)] [(.int (1 : Int32))])) _
    exact retN X5 hx (t := .boolean) Bd.returns (by simp) (hb hby at_186) hr
  · show own_Q0 Z p1 p2 h0 n0 _ T5.heap _
    exact ⟨rfl, N5⟩
set_option maxRecDepth 65536 in
set_option maxHeartbeats 40000000 in
theorem own_comes {Post : Tables → Env → Array Value → State → Outcome → State → Prop} (hpost : ∀ tb e args s v u, (limb_1_1.after args s (.returned v) u = true ∧ limb_1_2.after args s (.returned v) u = true ∧ True) → FrameEnd s (.returned v) u (Jvm.fieldLocs frame_1_writes args s ++ Jvm.arrayLocs frame_1_arrays args s ++ Jvm.staticLocs frame_1_statics s) 16 128 → Post tb e args s (.returned v) u) :
    ArmFor flags0 classFile x code maxLocals ret World_1 tables_1 room_1 Calls_1 rest_1 Pre_1 Post := by
  intro l hfl _ _ p e ha hc hk s m args below hf hA hF happ hP
  obtain ⟨hcalls, hrest, hpre⟩ := hP
  obtain ⟨-, -, -, hnamed, -, -, -, hat⟩ := (Spec.applies_iff hf).mp happ
  obtain ⟨hg, hn⟩ := and_e (Cond.before_iff.mp (show (Jvm.Cond.and given_1 narrow_1).before args s = true from hpre))
  obtain ⟨hcount, k0⟩ := and_e hg
  obtain ⟨g0, k1⟩ := and_e k0
  obtain ⟨w0, w1, rfl⟩ : ∃ w0 w1 : Value, args = #[w0, w1] := by
    have hs : args.size = 2 := by simpa [Cond.value, given_1] using hcount
    obtain ⟨L⟩ := args
    match L, hs with
    | [w0, w1], _ => exact ⟨w0, w1, rfl⟩
  have hw := fun d (hd : d ∈ tables_1) => atoms_spec (ws := Jvm.Cond.code x code maxLocals ret :: tables_1) hat d (List.mem_cons_of_mem _ hd)
  obtain ⟨i0, ei0⟩ := is_v g0
  obtain rfl : w0 = (.int i0) := Option.some.inj ei0
  obtain ⟨i1, ei1⟩ := is_v k1
  obtain rfl : w1 = (.int i1) := Option.some.inj ei1
  obtain ⟨n, o, h1, h2, h3, _, L, rfl, ⟨rfl, N⟩, hq⟩ := own_rm0 l s _ hw tables_1 i0 i1 s.heap s.heap.size (Nat.le_refl _) p e ha hc hk s m _ below hf ((Spec.applies_iff_loose hf).mp happ).1 ⟨rfl, State.Warmed39.refl s, rfl⟩ trivial
  refine ⟨n, _, h1, h2, h3, hpost _ _ _ _ _ _ ⟨Cond.after_iff.mpr rfl, Cond.after_iff.mpr (eq_i res_at (Term.int_eval (1)) rfl), trivial⟩ ⟨hq.1, hq.2.1, (hq.2.2.sift fun y hy => Or.inr (N y hy)).mono (by decide) (by decide)⟩⟩
theorem main_1_1 : Claimed_1_1 := own_comes fun _ _ _ _ _ _ h hF => ⟨h.1, hF⟩
theorem main_1_2 : Claimed_1_2 := own_comes fun _ _ _ _ _ _ h hF => ⟨h.2.1, hF⟩
end Jvm.Pilot.@@N@@
namespace Jvm.Pilot.@@N@@
open Jvm Jvm.ClassFile Sem Op Lib Jvm.Free Jvm.Stand Jvm.Pilot.@@N@@.Jvm.D
/-! MADE BY PROGRAM (witnessworld.py) out of the Statement's table words and the real class files: 9 classes; the members and pool entries that the words name. The judged class is class 1, her method 1. -/
namespace start1
open Jvm.ClassFile
def u (s : String) : CpInfo := .utf8 (stringToUtf16 s)
/-- a pool by its gaps: so many unusable entries, then the entry; so many at the end -/
def gap : Nat → List CpInfo → List CpInfo
  | 0, r => r
  | n + 1, r => .unusable :: gap n r
def poolList (es : List (Nat × CpInfo)) (last : Nat) : List CpInfo := es.foldr (fun e r => gap e.1 (e.2 :: r)) (gap last [])
def pool (es : List (Nat × CpInfo)) (last : Nat) : Array CpInfo := ⟨poolList es last⟩
def fileOf (pool : Array CpInfo) (this : Nat) (attrs : Array Attribute := #[]) (ms : Array MethodInfo := #[]) (fl : Nat := 33) (sup : Nat := 0) (ifs : Array Nat := #[]) (fds : Array FieldInfo := #[]) : ClassFile where
  minorVersion := 0
  majorVersion := 65
  constantPool := pool
  accessFlags := fl
  thisClass := this
  superClass := sup
  interfaces := ifs
  fields := fds
  methods := ms
  attributes := attrs
def plain (name : String) (sup : Option ClassId) : Class where
  name := name
  kind := .ordinary
  loader := none
  accessFlags := 33
  super := sup
  interfaces := #[]
  cf := none
  fields := #[]
  methods := #[]
  instanceTypes := #[]
  staticTypes := #[]
  resolved := #[]
  callSites := []
  init := .initialized
  statics := none
  mirror := none

def pool0 : Array CpInfo := pool [(5, u "<init>"), (0, u "()V"), (1, .class_ 10), (1, u "java/lang/Object")] 113

def k0m0 : Method := { name := "<init>", desc := "()V", sig := { parameters := [], returnType := none }, accessFlags := 1, code := none }
/-- java/lang/Object -/
def k0 : Class := { plain "java/lang/Object" none with
  accessFlags := 33
  interfaces := #[]
  cf := some (fileOf pool0 8 #[] #[{ accessFlags := 1, nameIndex := 5, descriptorIndex := 6, attributes := #[] }] 33 0 #[] #[])
  fields := #[]
  methods := #[k0m0]
  instanceTypes := #[]
  staticTypes := #[]
  resolved := Array.replicate 124 none
  statics := none }

def pool1 : Array CpInfo := pool [(2, .class_ 4), (1, u "java/lang/Object"), (0, u "<init>"), (0, u "()V"), (0, .methodref 8 9), (0, .class_ 10), (0, .nameAndType 11 12), (0, u "com/example/vestwright/vestwright/actuarial/SegmentRates"), (0, u "fromYears"), (0, u "()[I"), (0, .integer 2147483647), (0, .class_ 15), (0, u "com/example/vestwright/vestwright/actuarial/SegmentRatesFromYearsPinLaw"), (2, u "law"), (0, u "(II)Z")] 5

def k1m0 : Method := { name := "<init>", desc := "()V", sig := { parameters := [], returnType := none }, accessFlags := 2, code := none }
def k1c1 : Code := { maxStack := 3, maxLocals := 9, code := code, exceptionTable := #[], attributes := #[] }
def k1m1 : Method := { name := "law", desc := "(II)Z", sig := { parameters := [.int, .int], returnType := some .boolean }, accessFlags := 9, code := some k1c1 }
/-- com/example/vestwright/vestwright/actuarial/SegmentRatesFromYearsPinLaw -/
def k1 : Class := { plain "com/example/vestwright/vestwright/actuarial/SegmentRatesFromYearsPinLaw" (some 0) with
  accessFlags := 49
  interfaces := #[]
  cf := some (fileOf pool1 14 #[] #[{ accessFlags := 2, nameIndex := 5, descriptorIndex := 6, attributes := #[] }, { accessFlags := 9, nameIndex := 18, descriptorIndex := 19, attributes := #[] }] 49 2 #[] #[])
  fields := #[]
  methods := #[k1m0, k1m1]
  instanceTypes := #[]
  staticTypes := #[]
  resolved := Array.replicate 25 none
  statics := none }

def pool2 : Array CpInfo := pool [(2, .class_ 4), (1, u "java/lang/Object"), (23, .class_ 30), (1, u "com/example/vestwright/vestwright/actuarial/SegmentRates"), (0, u "rates"), (0, u "Ljava/util/List;"), (16, u "LOWEST"), (0, u "Ljava/math/BigDecimal;"), (34, u "SECOND_SEGMENT_YEARS"), (0, u "I"), (2, u "THIRD_SEGMENT_YEARS"), (9, u "fromYears"), (0, u "()[I")] 18

def k2c0 : Code := { maxStack := 4, maxLocals := 0, code := prog_3_method_3_code, exceptionTable := #[], attributes := #[] }
def k2m0 : Method := { name := "fromYears", desc := "()[I", sig := { parameters := [], returnType := some (.array .int) }, accessFlags := 8, code := some k2c0 }
/-- com/example/vestwright/vestwright/actuarial/SegmentRates -/
def k2 : Class := { plain "com/example/vestwright/vestwright/actuarial/SegmentRates" (some 0) with
  accessFlags := 49
  interfaces := #[]
  cf := some (fileOf pool2 28 #[] #[{ accessFlags := 8, nameIndex := 99, descriptorIndex := 100, attributes := #[] }] 49 2 #[] #[{ accessFlags := 26, nameIndex := 85, descriptorIndex := 86, attributes := #[] }, { accessFlags := 26, nameIndex := 89, descriptorIndex := 86, attributes := #[] }, { accessFlags := 26, nameIndex := 49, descriptorIndex := 50, attributes := #[] }, { accessFlags := 18, nameIndex := 31, descriptorIndex := 32, attributes := #[] }])
  fields := #[{ name := "SECOND_SEGMENT_YEARS", type := .int, accessFlags := 26, slot := 0, constantValue := 0 }, { name := "THIRD_SEGMENT_YEARS", type := .int, accessFlags := 26, slot := 1, constantValue := 0 }, { name := "LOWEST", type := (.object "java/math/BigDecimal"), accessFlags := 26, slot := 2, constantValue := 0 }, { name := "rates", type := (.object "java/util/List"), accessFlags := 18, slot := 0, constantValue := 0 }]
  methods := #[k2m0]
  instanceTypes := #[(.object "java/util/List")]
  staticTypes := #[.int, .int, (.object "java/math/BigDecimal")]
  resolved := Array.replicate 119 none
  statics := none }

def pool3 : Array CpInfo := pool [(1, u "java/lang/Cloneable"), (0, .class_ 1), (0, u "java/lang/Object"), (0, .class_ 3)] 3

/-- java/lang/Cloneable -/
def k3 : Class := { plain "java/lang/Cloneable" (some 0) with
  accessFlags := 1537
  interfaces := #[]
  cf := some (fileOf pool3 2 #[] #[] 1537 4 #[] #[])
  fields := #[]
  methods := #[]
  instanceTypes := #[]
  staticTypes := #[]
  resolved := Array.replicate 8 none
  statics := none }

def pool4 : Array CpInfo := pool [(1, u "java/io/Serializable"), (0, .class_ 1), (0, u "java/lang/Object"), (0, .class_ 3)] 3

/-- java/io/Serializable -/
def k4 : Class := { plain "java/io/Serializable" (some 0) with
  accessFlags := 1537
  interfaces := #[]
  cf := some (fileOf pool4 2 #[] #[] 1537 4 #[] #[])
  fields := #[]
  methods := #[]
  instanceTypes := #[]
  staticTypes := #[]
  resolved := Array.replicate 8 none
  statics := none }

/-- the primitive byte -/
def k5 : Class := { plain "byte" none with kind := .primitive 'B', accessFlags := 0x411 }
/-- [B -/
def k6 : Class := { plain "[B" (some 0) with kind := .array 5 .byte, interfaces := #[3, 4], accessFlags := 1041 }

/-- the primitive int -/
def k7 : Class := { plain "int" none with kind := .primitive 'I', accessFlags := 0x411 }
/-- [I -/
def k8 : Class := { plain "[I" (some 0) with kind := .array 7 .int, interfaces := #[3, 4], accessFlags := 1041 }

def heap : Heap := #[]
def classes : Array Class := #[k0, k1, k2, k3, k4, k5, k6, k7, k8]
def interned : List (Array UInt16 × Addr) := []
def slotsUsed : Nat := 0
def theMethod : MethodId := ⟨1, 1⟩
def args0 : Array Value := #[.int 5, .int 7]
def aboutOver (below : List Frame) : State where
  vm := { classes := classes, interned := interned.toArray }
  heap := heap
  slotsUsed := slotsUsed
  threads := #[{ frames := .invoking theMethod args0 :: below }]
def below0 : List Frame := [.native { method := ⟨0, 0⟩, args := #[] }]
def about1 : State := aboutOver below0
def p0 : Program := .bare "" "" ""
def e0 : Env := launch0.env 0 0 0
theorem w_frames : about1.frames = Frame.invoking theMethod args0 :: below0 := rfl
set_option maxRecDepth 65536 in
theorem w_args : argsFit about1.vm theMethod args0 = true := by decide +kernel
set_option maxRecDepth 65536 in
theorem w_heap : heapFits about1 = true := by decide +kernel
set_option maxRecDepth 65536 in
theorem w_runnable : about1.curStatus? = some .runnable := by decide +kernel
set_option maxRecDepth 65536 in
theorem w_alone : about1.alone = true := by decide +kernel
set_option maxRecDepth 65536 in
theorem w_named : about1.methodNamed? x = some theMethod := by decide +kernel
set_option maxRecDepth 65536 in
theorem w_hears : about1.hears theMethod below0 = true := by decide +kernel
set_option maxRecDepth 65536 in
theorem w_ripe : about1.ripe theMethod args0 below0 = true := by decide +kernel
theorem w_running : about1.status = .running := rfl
set_option maxRecDepth 65536 in
theorem w_room : about1.hasRoom e0.platform room_1 = true :=
  launch0.hasRoom_least _ room_1 (by decide +kernel) (by decide +kernel) (by decide +kernel) (by decide +kernel) (by decide +kernel) (by decide +kernel)
theorem allAtoms_all (ts : List Jvm.Cond) (a : Array Jvm.Value) (st : Jvm.State) : (allAtoms ts).before a st = ts.all (fun c => c.before a st) := by
  induction ts with
  | nil => rfl
  | cons c t ih =>
    show (Jvm.Cond.and c (allAtoms t)).before a st = _
    rw [Jvm.Cond.before_and, ih, List.all_cons]
def words1 : List Jvm.Cond := Jvm.Cond.code x code maxLocals ret :: tables_1
/-- a 'code' word, met by the world's own term for the bytes: nothing is compared byte by byte -/
theorem code_word {y : MethodName} {bytes : ByteArray} {mx : Nat} {rt : Option FieldType} {a : Array Value} {s : State} {m : MethodId} {meth : Method} {c : Code} (h1 : s.methodNamed? y = some m) (h2 : s.vm.method? m = some meth) (h3 : meth.code = some c) (h4 : c.code = bytes)
    (h5 : (c.maxLocals == mx && c.exceptionTable.isEmpty && decide (c.maxStack ≤ mostOperands) && decide (meth.sig.returnType = rt) && !meth.locks && decide (parseMethodDescriptor y.desc = some meth.sig)) = true) : (Jvm.Cond.code y bytes mx rt).before a s = true := by
  simp only [Bool.and_eq_true, beq_iff_eq, Bool.not_eq_true', decide_eq_true_eq] at h5
  obtain ⟨⟨⟨⟨⟨g1, g2⟩, g3⟩, g4⟩, g5⟩, g6⟩ := h5
  simp [Cond.before, Cond.holds, Cond.value, h1, h2, h3, h4, g1, g2, g3, g4, g5, g6]
def isCode : Jvm.Cond → Bool
  | .code _ _ _ _ => true
  | _ => false
theorem all_split {L : List Jvm.Cond} {P : Jvm.Cond → Bool} (h1 : L.all (fun c => isCode c || P c) = true) (h2 : ∀ c ∈ L.filter isCode, P c = true) : L.all P = true := by
  refine List.all_eq_true.mpr fun c hc => ?_
  have h := List.all_eq_true.mp h1 c hc
  rcases Bool.eq_false_or_eq_true (isCode c) with hi | hi
  · exact h2 c (List.mem_filter.mpr ⟨hc, hi⟩)
  · simpa [hi] using h
set_option maxRecDepth 65536 in
theorem w_c0 : (Jvm.Cond.code x code maxLocals ret).before args0 about1 = true := code_word (m := ⟨1, 1⟩) (meth := k1m1) (c := k1c1) (by decide +kernel) rfl rfl rfl (by decide +kernel)
set_option maxRecDepth 65536 in
theorem w_c1 : (Jvm.Cond.code ({ cls := "com/example/vestwright/vestwright/actuarial/SegmentRates", name := "fromYears", desc := "()[I" } : Jvm.MethodName) prog_3_method_3_code (0 : Nat) (Option.some (Jvm.ClassFile.FieldType.array Jvm.ClassFile.FieldType.int))).before args0 about1 = true := code_word (m := ⟨2, 0⟩) (meth := k2m0) (c := k2c0) (by decide +kernel) rfl rfl rfl (by decide +kernel)
def codes1 : List Jvm.Cond := [Jvm.Cond.code x code maxLocals ret, Jvm.Cond.code ({ cls := "com/example/vestwright/vestwright/actuarial/SegmentRates", name := "fromYears", desc := "()[I" } : Jvm.MethodName) prog_3_method_3_code (0 : Nat) (Option.some (Jvm.ClassFile.FieldType.array Jvm.ClassFile.FieldType.int))]
set_option maxRecDepth 65536 in
theorem codes_eq : words1.filter isCode = codes1 := rfl
theorem w_codes : ∀ c ∈ words1.filter isCode, c.before args0 about1 = true := by
  rw [codes_eq]
  intro c hc
  simp only [codes1, List.mem_cons, List.not_mem_nil, or_false] at hc
  rcases hc with rfl | rfl
  · exact w_c0
  · exact w_c1
set_option maxRecDepth 65536 in
theorem w_t1 : words1.all (fun c => isCode c || c.before args0 about1) = true := by decide +kernel
theorem w_tables : (allAtoms (Jvm.Cond.code x code maxLocals ret :: tables_1)).before args0 about1 = true := by
  rw [allAtoms_all]
  show words1.all (fun c => c.before args0 about1) = true
  refine all_split ?_ w_codes
  rw [w_t1]
set_option maxRecDepth 65536 in
theorem w_case : (Jvm.Cond.and given_1 narrow_1).before args0 about1 = true := by decide +kernel
theorem w_applies : (headSpec (Jvm.Cond.code x code maxLocals ret :: tables_1) room_1).applies x e0.platform about1 = true :=
  (Spec.applies_iff w_frames).mpr ⟨w_running, w_runnable, w_alone, w_named, w_hears, w_ripe, w_room, w_tables⟩
theorem atStart : AtStart classFile x code maxLocals ret World_1 tables_1 room_1 Calls_1 rest_1 Pre_1 launch0 p0 e0 about1 theMethod args0 below0 :=
  ⟨lists_1, trivial, launch0.admits_env _ _ _, launch0.least_env, fairChoices_fair.cas, fairChoices_fair.clock, w_frames, w_args, w_heap, w_applies, trivial, trivial, w_case⟩
end start1
theorem witness_1 : WitnessClaimed_1 := ⟨start1.p0, start1.e0, start1.about1, start1.theMethod, start1.args0, start1.below0, start1.atStart⟩
end Jvm.Pilot.@@N@@
