import JvmDerived
import JvmDerived.Pilot.@@N@@Statement
import JvmDerived.Pilot.@@N@@Code
set_option linter.unusedVariables false
set_option linter.unusedSimpArgs false
namespace Jvm.Pilot.@@N@@
open Jvm Jvm.ClassFile Sem Op Lib Jvm.Free Jvm.Stand Jvm.LawKit Jvm.RoadKit Bundle Jvm.Pilot.@@N@@.Jvm.D
section OwnRet
variable {p : Program} {l : Launch} {e : Env} {R : Room} {s : State} {m : MethodId} {args : Array Value} {below : List Frame} {meth : Method} {c : Code} {T : State} {locs : List Loc} {cells slots : Nat}
theorem own_retI (X : Stand p l e R s m args below meth c T locs cells slots) (hx : p.tables.exec = Jvm.exec) {pc : Nat} {Ls : Array Slot} {z : Int32} {rest : List Value} (hret : meth.sig.returnType = some .int) (hd : decode c.code pc = .ok (.ireturn, 1)) {fs : List Frame}
    (hl : ∀ (f : JFrame) (acts : List Action), f.method = m → f.locked = none → f.entered = [] → (doReturn e (T.setTop f) acts (some (.int z))).1 = T.setFrames fs) : Steps p.tables e below (T.setTop (mkF m pc Ls (.int z :: rest))) (T.setFrames fs) := by
  have hm' : T.vm.method? m = some meth := X.method'
  have hn : narrow .int (.int z) = .int z := rfl
  show Steps p.tables e below (T.setTop { method := m, pc := pc, locals := Ls, stack := _ :: rest, locked := none }) _
  jvm_step X.here [X.here.top, hx, hd, hm', hret, hn]
  first | (intro acts; rw [hl _ acts rfl rfl rfl]) | rw [hl _ _ rfl rfl rfl]
  exact Steps.refl _
end OwnRet
def own_ps (ac : Int32) (tot : Int64) (mm : Int32) (ms : Int64) : Int32 := if lcmpW tot (ac.toInt64 * 1000) = 0 then (if mm = 0 then (if lcmpW ms 0 = 0 then 1 else 0) else 0) else 0
def own_ex (d : Int64) (m : Int32) (s : Int64) : Int32 := if lcmpW d 0 = 0 then (if m = 0 then (if lcmpW s 0 = 0 then 1 else 0) else 0) else 0
theorem own_add0 (a d : Int64) : a + d = a ↔ d = 0 := by
  constructor
  · intro h
    have h2 : a + d = a + 0 := by rw [h, Int64.add_zero]
    exact Int64.add_right_inj a |>.mp h2
  · intro h
    rw [h, Int64.add_zero]
theorem own_main (ac : Int32) (d : Int64) (m : Int32) (s : Int64) : own_ps ac (ac.toInt64 * 1000 + d) m s = own_ex d m s := by
  unfold own_ps own_ex
  have h : lcmpW (ac.toInt64 * 1000 + d) (ac.toInt64 * 1000) = 0 ↔ lcmpW d 0 = 0 := by rw [lw_eq, lw_eq]; exact own_add0 _ _
  by_cases g : lcmpW d 0 = 0
  · rw [if_pos (h.mpr g), if_pos g]
  · rw [if_neg (fun q => g (h.mp q)), if_neg g]
def own_pkL (z : Int32) (a : Int64) : Int64 := if z = 0 then a else 0
def own_pkI (z : Int32) (a : Int32) : Int32 := if z = 0 then a else 0
theorem own_d3_0 : decode jdk_30_method_1_code 0 = .ok (.aload_n 0, 1) := by decide +kernel
theorem own_d3_1 : decode jdk_30_method_1_code 1 = .ok (.invokespecial 1, 3) := by decide +kernel
theorem own_d3_4 : decode jdk_30_method_1_code 4 = .ok (.return_, 1) := by decide +kernel
theorem own_pd0 : parseMethodDescriptor "()V" = some ⟨[], none⟩ := by decide +kernel
theorem own_pn0 : plainName "java/lang/Record" = true := by first | (simp [plainName, overriddenIn]; done) | decide +kernel
theorem own_ef3 (m : MethodId) (x0 : Addr) : entryFrame m #[(.ref x0)] 1 = mkF m 0 #[.val (.ref x0)] [] := by first | (simp [entryFrame, mkF, argsToLocals, Value.category]; done) | rfl
def own_Q3 (Z : State) (a1 : Addr) (h0 : Heap) (n0 : Nat) (v : Option Value) (h : Heap) (L : List Loc) : Prop := v = none ∧ Fr n0 L ∧ h = h0
set_option maxRecDepth 65536 in
set_option maxHeartbeats 40000000 in
theorem own_rm3 (l : Launch) (Z : State) (a0 : Array Value) (hw : ∀ d ∈ tables_1, d.before a0 Z = true) (ws : List Jvm.Cond) (a1 : Addr) (h0 : Heap) (n0 : Nat) (Z0 : n0 ≤ h0.size) :
    MetFree l (⟨"java/lang/Record", "<init>", "()V"⟩ : MethodName) (head1 (Jvm.Cond.code (⟨"java/lang/Record", "<init>", "()V"⟩ : MethodName) jdk_30_method_1_code 1 none :: ws) ({ frames := 1, cells := 0, slots := 0, locals := 12 } : Room)) (fun a U => a = #[(.ref a1)] ∧ Z.Warmed39 U.vm ∧ U.heap = h0) (fun _ _ _ _ _ => True) (fun _ U o U' => ∃ v L, o = .returned v ∧ own_Q3 Z a1 h0 n0 v U'.heap L ∧ FrameEnd U o U' L ({ frames := 1, cells := 0, slots := 0, locals := 12 } : Room).cells ({ frames := 1, cells := 0, slots := 0, locals := 12 } : Room).slots) := by
  refine MetFree.of_bodySF (plainFor_of_name own_pn0) hisR ?_
  intro p e s m args below meth c s₁ Bd hml0 hP hK
  obtain ⟨rfl, hZ, hh⟩ := hP
  have hx := Bd.exec
  have hby := Bd.bytes
  have hml : c.maxLocals = 1 := hml0
  have hown : s.vm.findClass "java/lang/Record" = some m.cls := findClass_of_methodNamed Bd.named
  have hnm := (name_of_methodNamed Bd.named Bd.method).1
  have X0 : Stand p l e ({ frames := 1, cells := 0, slots := 0, locals := 12 } : Room) s m #[(.ref a1)] below meth c s₁ [] 0 0 := Stand.of_body Bd
  have e0 : s₁.heap = h0 := by rw [← hh, Bd.state]; rfl
  have N0 := Fr.nil n0
  have pre0 : ∀ t, Steps p.tables e below (s₁.setTop (mkF m 0 #[.val (.ref a1)] [])) t → Steps p.tables e below (s₁.setTop (entryFrame m #[(.ref a1)] 1)) t := fun t k => castTop (own_ef3 m a1) k
  obtain ⟨T1, X1, e1, st1⟩ := initO X0 hx hZ hown (hw _ (List.mem_of_getElem? (i := 12) rfl)) (hw _ (List.mem_of_getElem? (i := 13) rfl)) (hw _ (List.mem_of_getElem? (i := 14) rfl)) e0 (g := (mkF m 1 #[.val (.ref a1)] [(.ref a1)])) rfl (by rw [hml]; rfl) rfl (hb hby own_d3_1) (by decide) (W := 0) (by show 2 * 0 + _ ≤ _; exact Nat.le_of_eq rfl) (by decide)
  obtain ⟨fs, hr, hrun, hended, hW, hsame⟩ := X1.leave (v := none) (fun _ => rfl)
  refine ⟨_, _, pre0 _ ?_, hrun, hended, _, _, rfl, ?_, ⟨_, rfl⟩, hW, hsame.mono (by decide) (by decide)⟩
  · show Steps p.tables e below (s₁.setTop (mkF m 0 #[.val (.ref a1)] [])) _
    refine XS.aloadN X0.here hx rfl (hb hby own_d3_0) rfl rfl ?_
    show Steps p.tables e below (s₁.setTop (mkF m 1 #[.val (.ref a1)] [(.ref a1)])) _
    refine st1 _ ?_
    show Steps p.tables e below (T1.setTop (mkF m 4 #[.val (.ref a1)] [])) _
    exact X1.returnOut hx Bd.returns (hb hby own_d3_4) hr
  · show own_Q3 Z a1 h0 n0 _ T1.heap _
    rw [e1]
    exact ⟨rfl, N0, rfl⟩
theorem own_d2_0 : decode prog_63_method_1_code 0 = .ok (.aload_n 0, 1) := by decide +kernel
theorem own_d2_1 : decode prog_63_method_1_code 1 = .ok (.invokespecial 1, 3) := by decide +kernel
theorem own_d2_4 : decode prog_63_method_1_code 4 = .ok (.aload_n 0, 1) := by decide +kernel
theorem own_d2_5 : decode prog_63_method_1_code 5 = .ok (.iload_n 1, 1) := by decide +kernel
theorem own_d2_6 : decode prog_63_method_1_code 6 = .ok (.putfield 7, 3) := by decide +kernel
theorem own_d2_9 : decode prog_63_method_1_code 9 = .ok (.aload_n 0, 1) := by decide +kernel
theorem own_d2_10 : decode prog_63_method_1_code 10 = .ok (.lload_n 2, 1) := by decide +kernel
theorem own_d2_11 : decode prog_63_method_1_code 11 = .ok (.putfield 13, 3) := by decide +kernel
theorem own_d2_14 : decode prog_63_method_1_code 14 = .ok (.aload_n 0, 1) := by decide +kernel
theorem own_d2_15 : decode prog_63_method_1_code 15 = .ok (.lload 4, 2) := by decide +kernel
theorem own_d2_17 : decode prog_63_method_1_code 17 = .ok (.putfield 17, 3) := by decide +kernel
theorem own_d2_20 : decode prog_63_method_1_code 20 = .ok (.aload_n 0, 1) := by decide +kernel
theorem own_d2_21 : decode prog_63_method_1_code 21 = .ok (.iload 6, 2) := by decide +kernel
theorem own_d2_23 : decode prog_63_method_1_code 23 = .ok (.putfield 20, 3) := by decide +kernel
theorem own_d2_26 : decode prog_63_method_1_code 26 = .ok (.aload_n 0, 1) := by decide +kernel
theorem own_d2_27 : decode prog_63_method_1_code 27 = .ok (.lload 7, 2) := by decide +kernel
theorem own_d2_29 : decode prog_63_method_1_code 29 = .ok (.putfield 23, 3) := by decide +kernel
theorem own_d2_32 : decode prog_63_method_1_code 32 = .ok (.aload_n 0, 1) := by decide +kernel
theorem own_d2_33 : decode prog_63_method_1_code 33 = .ok (.lload 9, 2) := by decide +kernel
theorem own_d2_35 : decode prog_63_method_1_code 35 = .ok (.putfield 26, 3) := by decide +kernel
theorem own_d2_38 : decode prog_63_method_1_code 38 = .ok (.aload_n 0, 1) := by decide +kernel
theorem own_d2_39 : decode prog_63_method_1_code 39 = .ok (.lload 11, 2) := by decide +kernel
theorem own_d2_41 : decode prog_63_method_1_code 41 = .ok (.putfield 29, 3) := by decide +kernel
theorem own_d2_44 : decode prog_63_method_1_code 44 = .ok (.return_, 1) := by decide +kernel
theorem own_pn1 : plainName "com/example/mortise_kv/mortisekv/cli/Audit" = true := by first | (simp [plainName, overriddenIn]; done) | decide +kernel
theorem own_ef2 (m : MethodId) (x0 : Addr) (x1 : Int32) (x2 : Int64) (x3 : Int64) (x4 : Int32) (x5 : Int64) (x6 : Int64) (x7 : Int64) : entryFrame m #[(.ref x0), (.int x1), (.long x2), (.long x3), (.int x4), (.long x5), (.long x6), (.long x7)] 13 = mkF m 0 #[.val (.ref x0), .val (.int x1), .val (.long x2), .second, .val (.long x3), .second, .val (.int x4), .val (.long x5), .second, .val (.long x6), .second, .val (.long x7), .second] [] := by first | (simp [entryFrame, mkF, argsToLocals, Value.category]; done) | rfl
def own_Q2 (Z : State) (a1 : Addr) (p2 : Int32) (q3 : Int64) (q4 : Int64) (p5 : Int32) (q6 : Int64) (q7 : Int64) (q8 : Int64) (u0 : Value) (u1 : Value) (u2 : Value) (u3 : Value) (u4 : Value) (u5 : Value) (u6 : Value) (h0 : Heap) (n0 : Nat) (v : Option Value) (h : Heap) (L : List Loc) : Prop := v = none ∧ Fr n0 L ∧ Keep h0 h [a1] ∧ Exa Z h a1 "com/example/mortise_kv/mortisekv/cli/Audit" ∧ Fld Z h a1 "com/example/mortise_kv/mortisekv/cli/Audit" "accounts" "I" (.int p2) ∧ Fld Z h a1 "com/example/mortise_kv/mortisekv/cli/Audit" "total" "J" (.long q3) ∧ Fld Z h a1 "com/example/mortise_kv/mortisekv/cli/Audit" "entries" "J" (.long q4) ∧ Fld Z h a1 "com/example/mortise_kv/mortisekv/cli/Audit" "mismatched" "I" (.int p5) ∧ Fld Z h a1 "com/example/mortise_kv/mortisekv/cli/Audit" "acknowledged" "J" (.long q6) ∧ Fld Z h a1 "com/example/mortise_kv/mortisekv/cli/Audit" "missing" "J" (.long q7) ∧ Fld Z h a1 "com/example/mortise_kv/mortisekv/cli/Audit" "holes" "J" (.long q8)
set_option maxRecDepth 65536 in
set_option maxHeartbeats 40000000 in
theorem own_rm2 (l : Launch) (Z : State) (a0 : Array Value) (hw : ∀ d ∈ tables_1, d.before a0 Z = true) (ws : List Jvm.Cond) (a1 : Addr) (p2 : Int32) (q3 : Int64) (q4 : Int64) (p5 : Int32) (q6 : Int64) (q7 : Int64) (q8 : Int64) (u0 : Value) (u1 : Value) (u2 : Value) (u3 : Value) (u4 : Value) (u5 : Value) (u6 : Value) (h0 : Heap) (n0 : Nat) (Z0 : n0 ≤ h0.size) (g_a1 : n0 ≤ a1) (E0_a1 : Exa Z h0 a1 "com/example/mortise_kv/mortisekv/cli/Audit") (F0_accounts : Fld Z h0 a1 "com/example/mortise_kv/mortisekv/cli/Audit" "accounts" "I" u0) (F0_total : Fld Z h0 a1 "com/example/mortise_kv/mortisekv/cli/Audit" "total" "J" u1) (F0_entries : Fld Z h0 a1 "com/example/mortise_kv/mortisekv/cli/Audit" "entries" "J" u2) (F0_mismatched : Fld Z h0 a1 "com/example/mortise_kv/mortisekv/cli/Audit" "mismatched" "I" u3) (F0_acknowledged : Fld Z h0 a1 "com/example/mortise_kv/mortisekv/cli/Audit" "acknowledged" "J" u4) (F0_missing : Fld Z h0 a1 "com/example/mortise_kv/mortisekv/cli/Audit" "missing" "J" u5) (F0_holes : Fld Z h0 a1 "com/example/mortise_kv/mortisekv/cli/Audit" "holes" "J" u6) :
    MetFree l (⟨"com/example/mortise_kv/mortisekv/cli/Audit", "<init>", "(IJJIJJJ)V"⟩ : MethodName) (head1 (Jvm.Cond.code (⟨"com/example/mortise_kv/mortisekv/cli/Audit", "<init>", "(IJJIJJJ)V"⟩ : MethodName) prog_63_method_1_code 13 none :: ws) ({ frames := 2, cells := 0, slots := 0, locals := 24 } : Room)) (fun a U => a = #[(.ref a1), (.int p2), (.long q3), (.long q4), (.int p5), (.long q6), (.long q7), (.long q8)] ∧ Z.Warmed39 U.vm ∧ U.heap = h0) (fun _ _ _ _ _ => True) (fun _ U o U' => ∃ v L, o = .returned v ∧ own_Q2 Z a1 p2 q3 q4 p5 q6 q7 q8 u0 u1 u2 u3 u4 u5 u6 h0 n0 v U'.heap L ∧ FrameEnd U o U' L ({ frames := 2, cells := 0, slots := 0, locals := 24 } : Room).cells ({ frames := 2, cells := 0, slots := 0, locals := 24 } : Room).slots) := by
  refine MetFree.of_bodySF (plainFor_of_name own_pn1) hisR ?_
  intro p e s m args below meth c s₁ Bd hml0 hP hK
  obtain ⟨rfl, hZ, hh⟩ := hP
  have hx := Bd.exec
  have hby := Bd.bytes
  have hml : c.maxLocals = 13 := hml0
  have hown : s.vm.findClass "com/example/mortise_kv/mortisekv/cli/Audit" = some m.cls := findClass_of_methodNamed Bd.named
  have hnm := (name_of_methodNamed Bd.named Bd.method).1
  have X0 : Stand p l e ({ frames := 2, cells := 0, slots := 0, locals := 24 } : Room) s m #[(.ref a1), (.int p2), (.long q3), (.long q4), (.int p5), (.long q6), (.long q7), (.long q8)] below meth c s₁ [] 0 0 := Stand.of_body Bd
  have e0 : s₁.heap = h0 := by rw [← hh, Bd.state]; rfl
  have N0 := Fr.nil n0
  have pre0 : ∀ t, Steps p.tables e below (s₁.setTop (mkF m 0 #[.val (.ref a1), .val (.int p2), .val (.long q3), .second, .val (.long q4), .second, .val (.int p5), .val (.long q6), .second, .val (.long q7), .second, .val (.long q8), .second] [])) t → Steps p.tables e below (s₁.setTop (entryFrame m #[(.ref a1), (.int p2), (.long q3), (.long q4), (.int p5), (.long q6), (.long q7), (.long q8)] 13)) t := fun t k => castTop (own_ef2 m a1 p2 q3 q4 p5 q6 q7 q8) k
  obtain ⟨_, _, ⟨T1, L1, k1, n1⟩, -, X1, ⟨Lc1, hQ1, l1, y1, z1⟩, st1⟩ := X0.specialBack hx (y := (⟨"java/lang/Record", "<init>", "()V"⟩ : MethodName)) rfl hown (mvT hZ (hw _ (List.mem_of_getElem? (i := 7) rfl))) (mvT hZ (hw _ (List.mem_of_getElem? (i := 8) rfl))) (mvT hZ (hw _ (List.mem_of_getElem? (i := 11) rfl))) (by decide) (backOf (W := 0) (own_rm3 l Z a0 hw [] a1  h0 n0 Z0) hZ (hw _ (List.mem_of_getElem? (i := 11) rfl)) (hw _ (List.mem_of_getElem? (i := 10) rfl)) (by decide) (by decide)) (g := (mkF m 1 #[.val (.ref a1), .val (.int p2), .val (.long q3), .second, .val (.long q4), .second, .val (.int p5), .val (.long q6), .second, .val (.long q7), .second, .val (.long q8), .second] [(.ref a1)])) rfl (by rw [hml]; rfl) (Steps.refl _) (a := a1) (argsL := []) (rest := []) (lenOf own_pd0 rfl) rfl (by show 2 * 0 + _ ≤ _; exact Nat.le_of_eq rfl) (hb hby own_d2_1) (fun _ _ => ⟨rfl, e0, (by decide : 0 + 0 ≤ _), (by decide : 0 + 0 ≤ _)⟩)
  dsimp only [Pt.U, Pt.locs, Pt.cells, Pt.slots] at X1 l1 y1 z1 st1 hQ1
  subst l1 y1 z1
  obtain ⟨rfl, N1q, e1⟩ := hQ1
  have N1 := Fr.app N0 N1q
  obtain ⟨T2, h2, X2, e2, W2, st2⟩ := putF X1 hx hZ hown (host := "") (Or.inl (hw _ (List.mem_of_getElem? (i := 15) rfl))) Via.refl e1 F0_accounts E0_a1 (Or.inr ⟨(hw _ (List.mem_of_getElem? (i := 16) rfl)), rfl, hnm⟩) (hw _ (List.mem_of_getElem? (i := 2) rfl)) (ty := .int) (by decide) rfl rfl (g := (mkF m 6 #[.val (.ref a1), .val (.int p2), .val (.long q3), .second, .val (.long q4), .second, .val (.int p5), .val (.long q6), .second, .val (.long q7), .second, .val (.long q8), .second] [(.int p2), (.ref a1)])) rfl rfl (hb hby own_d2_6)
  have E2_a1 := E0_a1.wr W2
  have F2_accounts := F0_accounts.same W2
  have F2_total := F0_total.other W2 (Or.inr (slot_ne (Or.inr (hw _ (List.mem_of_getElem? (i := 18) rfl))) (Or.inr (hw _ (List.mem_of_getElem? (i := 16) rfl))) (by decide) (t := .long) (t' := .int) (by decide) (by decide)))
  have F2_entries := F0_entries.other W2 (Or.inr (slot_ne (Or.inr (hw _ (List.mem_of_getElem? (i := 20) rfl))) (Or.inr (hw _ (List.mem_of_getElem? (i := 16) rfl))) (by decide) (t := .long) (t' := .int) (by decide) (by decide)))
  have F2_mismatched := F0_mismatched.other W2 (Or.inr (slot_ne (Or.inr (hw _ (List.mem_of_getElem? (i := 22) rfl))) (Or.inr (hw _ (List.mem_of_getElem? (i := 16) rfl))) (by decide) (t := .int) (t' := .int) (by decide) (by decide)))
  have F2_acknowledged := F0_acknowledged.other W2 (Or.inr (slot_ne (Or.inr (hw _ (List.mem_of_getElem? (i := 24) rfl))) (Or.inr (hw _ (List.mem_of_getElem? (i := 16) rfl))) (by decide) (t := .long) (t' := .int) (by decide) (by decide)))
  have F2_missing := F0_missing.other W2 (Or.inr (slot_ne (Or.inr (hw _ (List.mem_of_getElem? (i := 26) rfl))) (Or.inr (hw _ (List.mem_of_getElem? (i := 16) rfl))) (by decide) (t := .long) (t' := .int) (by decide) (by decide)))
  have F2_holes := F0_holes.other W2 (Or.inr (slot_ne (Or.inr (hw _ (List.mem_of_getElem? (i := 28) rfl))) (Or.inr (hw _ (List.mem_of_getElem? (i := 16) rfl))) (by decide) (t := .long) (t' := .int) (by decide) (by decide)))
  have K2 : Keep h0 h2 [a1] := (Keep.refl h0 [a1]).wr W2 (Or.inl (List.mem_of_getElem? (i := 0) rfl))
  have N2 := Fr.snoc X2 N1 g_a1
  have Z2 : n0 ≤ h2.size := Nat.le_trans Z0 K2.1
  obtain ⟨T3, h3, X3, e3, W3, st3⟩ := putF X2 hx hZ hown (host := "") (Or.inl (hw _ (List.mem_of_getElem? (i := 17) rfl))) Via.refl e2 F2_total E2_a1 (Or.inr ⟨(hw _ (List.mem_of_getElem? (i := 18) rfl)), rfl, hnm⟩) (hw _ (List.mem_of_getElem? (i := 2) rfl)) (ty := .long) (by decide) rfl rfl (g := (mkF m 11 #[.val (.ref a1), .val (.int p2), .val (.long q3), .second, .val (.long q4), .second, .val (.int p5), .val (.long q6), .second, .val (.long q7), .second, .val (.long q8), .second] [(.long q3), (.ref a1)])) rfl rfl (hb hby own_d2_11)
  have E3_a1 := E2_a1.wr W3
  have F3_accounts := F2_accounts.other W3 (Or.inr (slot_ne (Or.inr (hw _ (List.mem_of_getElem? (i := 16) rfl))) (Or.inr (hw _ (List.mem_of_getElem? (i := 18) rfl))) (by decide) (t := .int) (t' := .long) (by decide) (by decide)))
  have F3_total := F2_total.same W3
  have F3_entries := F2_entries.other W3 (Or.inr (slot_ne (Or.inr (hw _ (List.mem_of_getElem? (i := 20) rfl))) (Or.inr (hw _ (List.mem_of_getElem? (i := 18) rfl))) (by decide) (t := .long) (t' := .long) (by decide) (by decide)))
  have F3_mismatched := F2_mismatched.other W3 (Or.inr (slot_ne (Or.inr (hw _ (List.mem_of_getElem? (i := 22) rfl))) (Or.inr (hw _ (List.mem_of_getElem? (i := 18) rfl))) (by decide) (t := .int) (t' := .long) (by decide) (by decide)))
  have F3_acknowledged := F2_acknowledged.other W3 (Or.inr (slot_ne (Or.inr (hw _ (List.mem_of_getElem? (i := 24) rfl))) (Or.inr (hw _ (List.mem_of_getElem? (i := 18) rfl))) (by decide) (t := .long) (t' := .long) (by decide) (by decide)))
  have F3_missing := F2_missing.other W3 (Or.inr (slot_ne (Or.inr (hw _ (List.mem_of_getElem? (i := 26) rfl))) (Or.inr (hw _ (List.mem_of_getElem? (i := 18) rfl))) (by decide) (t := .long) (t' := .long) (by decide) (by decide)))
  have F3_holes := F2_holes.other W3 (Or.inr (slot_ne (Or.inr (hw _ (List.mem_of_getElem? (i := 28) rfl))) (Or.inr (hw _ (List.mem_of_getElem? (i := 18) rfl))) (by decide) (t := .long) (t' := .long) (by decide) (by decide)))
  have K3 : Keep h0 h3 [a1] := K2.wr W3 (Or.inl (List.mem_of_getElem? (i := 0) rfl))
  have N3 := Fr.snoc X3 N2 g_a1
  have Z3 : n0 ≤ h3.size := Nat.le_trans Z0 K3.1
  obtain ⟨T4, h4, X4, e4, W4, st4⟩ := putF X3 hx hZ hown (host := "") (Or.inl (hw _ (List.mem_of_getElem? (i := 19) rfl))) Via.refl e3 F3_entries E3_a1 (Or.inr ⟨(hw _ (List.mem_of_getElem? (i := 20) rfl)), rfl, hnm⟩) (hw _ (List.mem_of_getElem? (i := 2) rfl)) (ty := .long) (by decide) rfl rfl (g := (mkF m 17 #[.val (.ref a1), .val (.int p2), .val (.long q3), .second, .val (.long q4), .second, .val (.int p5), .val (.long q6), .second, .val (.long q7), .second, .val (.long q8), .second] [(.long q4), (.ref a1)])) rfl rfl (hb hby own_d2_17)
  have E4_a1 := E3_a1.wr W4
  have F4_accounts := F3_accounts.other W4 (Or.inr (slot_ne (Or.inr (hw _ (List.mem_of_getElem? (i := 16) rfl))) (Or.inr (hw _ (List.mem_of_getElem? (i := 20) rfl))) (by decide) (t := .int) (t' := .long) (by decide) (by decide)))
  have F4_total := F3_total.other W4 (Or.inr (slot_ne (Or.inr (hw _ (List.mem_of_getElem? (i := 18) rfl))) (Or.inr (hw _ (List.mem_of_getElem? (i := 20) rfl))) (by decide) (t := .long) (t' := .long) (by decide) (by decide)))
  have F4_entries := F3_entries.same W4
  have F4_mismatched := F3_mismatched.other W4 (Or.inr (slot_ne (Or.inr (hw _ (List.mem_of_getElem? (i := 22) rfl))) (Or.inr (hw _ (List.mem_of_getElem? (i := 20) rfl))) (by decide) (t := .int) (t' := .long) (by decide) (by decide)))
  have F4_acknowledged := F3_acknowledged.other W4 (Or.inr (slot_ne (Or.inr (hw _ (List.mem_of_getElem? (i := 24) rfl))) (Or.inr (hw _ (List.mem_of_getElem? (i := 20) rfl))) (by decide) (t := .long) (t' := .long) (by decide) (by decide)))
  have F4_missing := F3_missing.other W4 (Or.inr (slot_ne (Or.inr (hw _ (List.mem_of_getElem? (i := 26) rfl))) (Or.inr (hw _ (List.mem_of_getElem? (i := 20) rfl))) (by decide) (t := .long) (t' := .long) (by decide) (by decide)))
  have F4_holes := F3_holes.other W4 (Or.inr (slot_ne (Or.inr (hw _ (List.mem_of_getElem? (i := 28) rfl))) (Or.inr (hw _ (List.mem_of_getElem? (i := 20) rfl))) (by decide) (t := .long) (t' := .long) (by decide) (by decide)))
  have K4 : Keep h0 h4 [a1] := K3.wr W4 (Or.inl (List.mem_of_getElem? (i := 0) rfl))
  have N4 := Fr.snoc X4 N3 g_a1
  have Z4 : n0 ≤ h4.size := Nat.le_trans Z0 K4.1
  obtain ⟨T5, h5, X5, e5, W5, st5⟩ := putF X4 hx hZ hown (host := "") (Or.inl (hw _ (List.mem_of_getElem? (i := 21) rfl))) Via.refl e4 F4_mismatched E4_a1 (Or.inr ⟨(hw _ (List.mem_of_getElem? (i := 22) rfl)), rfl, hnm⟩) (hw _ (List.mem_of_getElem? (i := 2) rfl)) (ty := .int) (by decide) rfl rfl (g := (mkF m 23 #[.val (.ref a1), .val (.int p2), .val (.long q3), .second, .val (.long q4), .second, .val (.int p5), .val (.long q6), .second, .val (.long q7), .second, .val (.long q8), .second] [(.int p5), (.ref a1)])) rfl rfl (hb hby own_d2_23)
  have E5_a1 := E4_a1.wr W5
  have F5_accounts := F4_accounts.other W5 (Or.inr (slot_ne (Or.inr (hw _ (List.mem_of_getElem? (i := 16) rfl))) (Or.inr (hw _ (List.mem_of_getElem? (i := 22) rfl))) (by decide) (t := .int) (t' := .int) (by decide) (by decide)))
  have F5_total := F4_total.other W5 (Or.inr (slot_ne (Or.inr (hw _ (List.mem_of_getElem? (i := 18) rfl))) (Or.inr (hw _ (List.mem_of_getElem? (i := 22) rfl))) (by decide) (t := .long) (t' := .int) (by decide) (by decide)))
  have F5_entries := F4_entries.other W5 (Or.inr (slot_ne (Or.inr (hw _ (List.mem_of_getElem? (i := 20) rfl))) (Or.inr (hw _ (List.mem_of_getElem? (i := 22) rfl))) (by decide) (t := .long) (t' := .int) (by decide) (by decide)))
  have F5_mismatched := F4_mismatched.same W5
  have F5_acknowledged := F4_acknowledged.other W5 (Or.inr (slot_ne (Or.inr (hw _ (List.mem_of_getElem? (i := 24) rfl))) (Or.inr (hw _ (List.mem_of_getElem? (i := 22) rfl))) (by decide) (t := .long) (t' := .int) (by decide) (by decide)))
  have F5_missing := F4_missing.other W5 (Or.inr (slot_ne (Or.inr (hw _ (List.mem_of_getElem? (i := 26) rfl))) (Or.inr (hw _ (List.mem_of_getElem? (i := 22) rfl))) (by decide) (t := .long) (t' := .int) (by decide) (by decide)))
  have F5_holes := F4_holes.other W5 (Or.inr (slot_ne (Or.inr (hw _ (List.mem_of_getElem? (i := 28) rfl))) (Or.inr (hw _ (List.mem_of_getElem? (i := 22) rfl))) (by decide) (t := .long) (t' := .int) (by decide) (by decide)))
  have K5 : Keep h0 h5 [a1] := K4.wr W5 (Or.inl (List.mem_of_getElem? (i := 0) rfl))
  have N5 := Fr.snoc X5 N4 g_a1
  have Z5 : n0 ≤ h5.size := Nat.le_trans Z0 K5.1
  obtain ⟨T6, h6, X6, e6, W6, st6⟩ := putF X5 hx hZ hown (host := "") (Or.inl (hw _ (List.mem_of_getElem? (i := 23) rfl))) Via.refl e5 F5_acknowledged E5_a1 (Or.inr ⟨(hw _ (List.mem_of_getElem? (i := 24) rfl)), rfl, hnm⟩) (hw _ (List.mem_of_getElem? (i := 2) rfl)) (ty := .long) (by decide) rfl rfl (g := (mkF m 29 #[.val (.ref a1), .val (.int p2), .val (.long q3), .second, .val (.long q4), .second, .val (.int p5), .val (.long q6), .second, .val (.long q7), .second, .val (.long q8), .second] [(.long q6), (.ref a1)])) rfl rfl (hb hby own_d2_29)
  have E6_a1 := E5_a1.wr W6
  have F6_accounts := F5_accounts.other W6 (Or.inr (slot_ne (Or.inr (hw _ (List.mem_of_getElem? (i := 16) rfl))) (Or.inr (hw _ (List.mem_of_getElem? (i := 24) rfl))) (by decide) (t := .int) (t' := .long) (by decide) (by decide)))
  have F6_total := F5_total.other W6 (Or.inr (slot_ne (Or.inr (hw _ (List.mem_of_getElem? (i := 18) rfl))) (Or.inr (hw _ (List.mem_of_getElem? (i := 24) rfl))) (by decide) (t := .long) (t' := .long) (by decide) (by decide)))
  have F6_entries := F5_entries.other W6 (Or.inr (slot_ne (Or.inr (hw _ (List.mem_of_getElem? (i := 20) rfl))) (Or.inr (hw _ (List.mem_of_getElem? (i := 24) rfl))) (by decide) (t := .long) (t' := .long) (by decide) (by decide)))
  have F6_mismatched := F5_mismatched.other W6 (Or.inr (slot_ne (Or.inr (hw _ (List.mem_of_getElem? (i := 22) rfl))) (Or.inr (hw _ (List.mem_of_getElem? (i := 24) rfl))) (by decide) (t := .int) (t' := .long) (by decide) (by decide)))
  have F6_acknowledged := F5_acknowledged.same W6
  have F6_missing := F5_missing.other W6 (Or.inr (slot_ne (Or.inr (hw _ (List.mem_of_getElem? (i := 26) rfl))) (Or.inr (hw _ (List.mem_of_getElem? (i := 24) rfl))) (by decide) (t := .long) (t' := .long) (by decide) (by decide)))
  have F6_holes := F5_holes.other W6 (Or.inr (slot_ne (Or.inr (hw _ (List.mem_of_getElem? (i := 28) rfl))) (Or.inr (hw _ (List.mem_of_getElem? (i := 24) rfl))) (by decide) (t := .long) (t' := .long) (by decide) (by decide)))
  have K6 : Keep h0 h6 [a1] := K5.wr W6 (Or.inl (List.mem_of_getElem? (i := 0) rfl))
  have N6 := Fr.snoc X6 N5 g_a1
  have Z6 : n0 ≤ h6.size := Nat.le_trans Z0 K6.1
  obtain ⟨T7, h7, X7, e7, W7, st7⟩ := putF X6 hx hZ hown (host := "") (Or.inl (hw _ (List.mem_of_getElem? (i := 25) rfl))) Via.refl e6 F6_missing E6_a1 (Or.inr ⟨(hw _ (List.mem_of_getElem? (i := 26) rfl)), rfl, hnm⟩) (hw _ (List.mem_of_getElem? (i := 2) rfl)) (ty := .long) (by decide) rfl rfl (g := (mkF m 35 #[.val (.ref a1), .val (.int p2), .val (.long q3), .second, .val (.long q4), .second, .val (.int p5), .val (.long q6), .second, .val (.long q7), .second, .val (.long q8), .second] [(.long q7), (.ref a1)])) rfl rfl (hb hby own_d2_35)
  have E7_a1 := E6_a1.wr W7
  have F7_accounts := F6_accounts.other W7 (Or.inr (slot_ne (Or.inr (hw _ (List.mem_of_getElem? (i := 16) rfl))) (Or.inr (hw _ (List.mem_of_getElem? (i := 26) rfl))) (by decide) (t := .int) (t' := .long) (by decide) (by decide)))
  have F7_total := F6_total.other W7 (Or.inr (slot_ne (Or.inr (hw _ (List.mem_of_getElem? (i := 18) rfl))) (Or.inr (hw _ (List.mem_of_getElem? (i := 26) rfl))) (by decide) (t := .long) (t' := .long) (by decide) (by decide)))
  have F7_entries := F6_entries.other W7 (Or.inr (slot_ne (Or.inr (hw _ (List.mem_of_getElem? (i := 20) rfl))) (Or.inr (hw _ (List.mem_of_getElem? (i := 26) rfl))) (by decide) (t := .long) (t' := .long) (by decide) (by decide)))
  have F7_mismatched := F6_mismatched.other W7 (Or.inr (slot_ne (Or.inr (hw _ (List.mem_of_getElem? (i := 22) rfl))) (Or.inr (hw _ (List.mem_of_getElem? (i := 26) rfl))) (by decide) (t := .int) (t' := .long) (by decide) (by decide)))
  have F7_acknowledged := F6_acknowledged.other W7 (Or.inr (slot_ne (Or.inr (hw _ (List.mem_of_getElem? (i := 24) rfl))) (Or.inr (hw _ (List.mem_of_getElem? (i := 26) rfl))) (by decide) (t := .long) (t' := .long) (by decide) (by decide)))
  have F7_missing := F6_missing.same W7
  have F7_holes := F6_holes.other W7 (Or.inr (slot_ne (Or.inr (hw _ (List.mem_of_getElem? (i := 28) rfl))) (Or.inr (hw _ (List.mem_of_getElem? (i := 26) rfl))) (by decide) (t := .long) (t' := .long) (by decide) (by decide)))
  have K7 : Keep h0 h7 [a1] := K6.wr W7 (Or.inl (List.mem_of_getElem? (i := 0) rfl))
  have N7 := Fr.snoc X7 N6 g_a1
  have Z7 : n0 ≤ h7.size := Nat.le_trans Z0 K7.1
  obtain ⟨T8, h8, X8, e8, W8, st8⟩ := putF X7 hx hZ hown (host := "") (Or.inl (hw _ (List.mem_of_getElem? (i := 27) rfl))) Via.refl e7 F7_holes E7_a1 (Or.inr ⟨(hw _ (List.mem_of_getElem? (i := 28) rfl)), rfl, hnm⟩) (hw _ (List.mem_of_getElem? (i := 2) rfl)) (ty := .long) (by decide) rfl rfl (g := (mkF m 41 #[.val (.ref a1), .val (.int p2), .val (.long q3), .second, .val (.long q4), .second, .val (.int p5), .val (.long q6), .second, .val (.long q7), .second, .val (.long q8), .second] [(.long q8), (.ref a1)])) rfl rfl (hb hby own_d2_41)
  have E8_a1 := E7_a1.wr W8
  have F8_accounts := F7_accounts.other W8 (Or.inr (slot_ne (Or.inr (hw _ (List.mem_of_getElem? (i := 16) rfl))) (Or.inr (hw _ (List.mem_of_getElem? (i := 28) rfl))) (by decide) (t := .int) (t' := .long) (by decide) (by decide)))
  have F8_total := F7_total.other W8 (Or.inr (slot_ne (Or.inr (hw _ (List.mem_of_getElem? (i := 18) rfl))) (Or.inr (hw _ (List.mem_of_getElem? (i := 28) rfl))) (by decide) (t := .long) (t' := .long) (by decide) (by decide)))
  have F8_entries := F7_entries.other W8 (Or.inr (slot_ne (Or.inr (hw _ (List.mem_of_getElem? (i := 20) rfl))) (Or.inr (hw _ (List.mem_of_getElem? (i := 28) rfl))) (by decide) (t := .long) (t' := .long) (by decide) (by decide)))
  have F8_mismatched := F7_mismatched.other W8 (Or.inr (slot_ne (Or.inr (hw _ (List.mem_of_getElem? (i := 22) rfl))) (Or.inr (hw _ (List.mem_of_getElem? (i := 28) rfl))) (by decide) (t := .int) (t' := .long) (by decide) (by decide)))
  have F8_acknowledged := F7_acknowledged.other W8 (Or.inr (slot_ne (Or.inr (hw _ (List.mem_of_getElem? (i := 24) rfl))) (Or.inr (hw _ (List.mem_of_getElem? (i := 28) rfl))) (by decide) (t := .long) (t' := .long) (by decide) (by decide)))
  have F8_missing := F7_missing.other W8 (Or.inr (slot_ne (Or.inr (hw _ (List.mem_of_getElem? (i := 26) rfl))) (Or.inr (hw _ (List.mem_of_getElem? (i := 28) rfl))) (by decide) (t := .long) (t' := .long) (by decide) (by decide)))
  have F8_holes := F7_holes.same W8
  have K8 : Keep h0 h8 [a1] := K7.wr W8 (Or.inl (List.mem_of_getElem? (i := 0) rfl))
  have N8 := Fr.snoc X8 N7 g_a1
  have Z8 : n0 ≤ h8.size := Nat.le_trans Z0 K8.1
  obtain ⟨fs, hr, hrun, hended, hW, hsame⟩ := X8.leave (v := none) (fun _ => rfl)
  refine ⟨_, _, pre0 _ ?_, hrun, hended, _, _, rfl, ?_, ⟨_, rfl⟩, hW, hsame.mono (by decide) (by decide)⟩
  · show Steps p.tables e below (s₁.setTop (mkF m 0 #[.val (.ref a1), .val (.int p2), .val (.long q3), .second, .val (.long q4), .second, .val (.int p5), .val (.long q6), .second, .val (.long q7), .second, .val (.long q8), .second] [])) _
    refine XS.aloadN X0.here hx rfl (hb hby own_d2_0) rfl rfl ?_
    show Steps p.tables e below (s₁.setTop (mkF m 1 #[.val (.ref a1), .val (.int p2), .val (.long q3), .second, .val (.long q4), .second, .val (.int p5), .val (.long q6), .second, .val (.long q7), .second, .val (.long q8), .second] [(.ref a1)])) _
    refine st1.trans ?_
    show Steps p.tables e below (T1.setTop (mkF m 4 #[.val (.ref a1), .val (.int p2), .val (.long q3), .second, .val (.long q4), .second, .val (.int p5), .val (.long q6), .second, .val (.long q7), .second, .val (.long q8), .second] [])) _
    refine XS.aloadN X1.here hx rfl (hb hby own_d2_4) rfl rfl ?_
    show Steps p.tables e below (T1.setTop (mkF m 5 #[.val (.ref a1), .val (.int p2), .val (.long q3), .second, .val (.long q4), .second, .val (.int p5), .val (.long q6), .second, .val (.long q7), .second, .val (.long q8), .second] [(.ref a1)])) _
    refine XS.iloadN X1.here hx rfl (hb hby own_d2_5) rfl ?_
    show Steps p.tables e below (T1.setTop (mkF m 6 #[.val (.ref a1), .val (.int p2), .val (.long q3), .second, .val (.long q4), .second, .val (.int p5), .val (.long q6), .second, .val (.long q7), .second, .val (.long q8), .second] [(.int p2), (.ref a1)])) _
    refine st2 _ ?_
    show Steps p.tables e below (T2.setTop (mkF m 9 #[.val (.ref a1), .val (.int p2), .val (.long q3), .second, .val (.long q4), .second, .val (.int p5), .val (.long q6), .second, .val (.long q7), .second, .val (.long q8), .second] [])) _
    refine XS.aloadN X2.here hx rfl (hb hby own_d2_9) rfl rfl ?_
    show Steps p.tables e below (T2.setTop (mkF m 10 #[.val (.ref a1), .val (.int p2), .val (.long q3), .second, .val (.long q4), .second, .val (.int p5), .val (.long q6), .second, .val (.long q7), .second, .val (.long q8), .second] [(.ref a1)])) _
    refine XS.lloadN X2.here hx rfl (hb hby own_d2_10) rfl ?_
    show Steps p.tables e below (T2.setTop (mkF m 11 #[.val (.ref a1), .val (.int p2), .val (.long q3), .second, .val (.long q4), .second, .val (.int p5), .val (.long q6), .second, .val (.long q7), .second, .val (.long q8), .second] [(.long q3), (.ref a1)])) _
    refine st3 _ ?_
    show Steps p.tables e below (T3.setTop (mkF m 14 #[.val (.ref a1), .val (.int p2), .val (.long q3), .second, .val (.long q4), .second, .val (.int p5), .val (.long q6), .second, .val (.long q7), .second, .val (.long q8), .second] [])) _
    refine XS.aloadN X3.here hx rfl (hb hby own_d2_14) rfl rfl ?_
    show Steps p.tables e below (T3.setTop (mkF m 15 #[.val (.ref a1), .val (.int p2), .val (.long q3), .second, .val (.long q4), .second, .val (.int p5), .val (.long q6), .second, .val (.long q7), .second, .val (.long q8), .second] [(.ref a1)])) _
    refine XS.lload X3.here hx rfl (hb hby own_d2_15) rfl ?_
    show Steps p.tables e below (T3.setTop (mkF m 17 #[.val (.ref a1), .val (.int p2), .val (.long q3), .second, .val (.long q4), .second, .val (.int p5), .val (.long q6), .second, .val (.long q7), .second, .val (.long q8), .second] [(.long q4), (.ref a1)])) _
    refine st4 _ ?_
    show Steps p.tables e below (T4.setTop (mkF m 20 #[.val (.ref a1), .val (.int p2), .val (.long q3), .second, .val (.long q4), .second, .val (.int p5), .val (.long q6), .second, .val (.long q7), .second, .val (.long q8), .second] [])) _
    refine XS.aloadN X4.here hx rfl (hb hby own_d2_20) rfl rfl ?_
    show Steps p.tables e below (T4.setTop (mkF m 21 #[.val (.ref a1), .val (.int p2), .val (.long q3), .second, .val (.long q4), .second, .val (.int p5), .val (.long q6), .second, .val (.long q7), .second, .val (.long q8), .second] [(.ref a1)])) _
    refine XS.iload X4.here hx rfl (hb hby own_d2_21) rfl ?_
    show Steps p.tables e below (T4.setTop (mkF m 23 #[.val (.ref a1), .val (.int p2), .val (.long q3), .second, .val (.long q4), .second, .val (.int p5), .val (.long q6), .second, .val (.long q7), .second, .val (.long q8), .second] [(.int p5), (.ref a1)])) _
    refine st5 _ ?_
    show Steps p.tables e below (T5.setTop (mkF m 26 #[.val (.ref a1), .val (.int p2), .val (.long q3), .second, .val (.long q4), .second, .val (.int p5), .val (.long q6), .second, .val (.long q7), .second, .val (.long q8), .second] [])) _
    refine XS.aloadN X5.here hx rfl (hb hby own_d2_26) rfl rfl ?_
    show Steps p.tables e below (T5.setTop (mkF m 27 #[.val (.ref a1), .val (.int p2), .val (.long q3), .second, .val (.long q4), .second, .val (.int p5), .val (.long q6), .second, .val (.long q7), .second, .val (.long q8), .second] [(.ref a1)])) _
    refine XS.lload X5.here hx rfl (hb hby own_d2_27) rfl ?_
    show Steps p.tables e below (T5.setTop (mkF m 29 #[.val (.ref a1), .val (.int p2), .val (.long q3), .second, .val (.long q4), .second, .val (.int p5), .val (.long q6), .second, .val (.long q7), .second, .val (.long q8), .second] [(.long q6), (.ref a1)])) _
    refine st6 _ ?_
    show Steps p.tables e below (T6.setTop (mkF m 32 #[.val (.ref a1), .val (.int p2), .val (.long q3), .second, .val (.long q4), .second, .val (.int p5), .val (.long q6), .second, .val (.long q7), .second, .val (.long q8), .second] [])) _
    refine XS.aloadN X6.here hx rfl (hb hby own_d2_32) rfl rfl ?_
    show Steps p.tables e below (T6.setTop (mkF m 33 #[.val (.ref a1), .val (.int p2), .val (.long q3), .second, .val (.long q4), .second, .val (.int p5), .val (.long q6), .second, .val (.long q7), .second, .val (.long q8), .second] [(.ref a1)])) _
    refine XS.lload X6.here hx rfl (hb hby own_d2_33) rfl ?_
    show Steps p.tables e below (T6.setTop (mkF m 35 #[.val (.ref a1), .val (.int p2), .val (.long q3), .second, .val (.long q4), .second, .val (.int p5), .val (.long q6), .second, .val (.long q7), .second, .val (.long q8), .second] [(.long q7), (.ref a1)])) _
    refine st7 _ ?_
    show Steps p.tables e below (T7.setTop (mkF m 38 #[.val (.ref a1), .val (.int p2), .val (.long q3), .second, .val (.long q4), .second, .val (.int p5), .val (.long q6), .second, .val (.long q7), .second, .val (.long q8), .second] [])) _
    refine XS.aloadN X7.here hx rfl (hb hby own_d2_38) rfl rfl ?_
    show Steps p.tables e below (T7.setTop (mkF m 39 #[.val (.ref a1), .val (.int p2), .val (.long q3), .second, .val (.long q4), .second, .val (.int p5), .val (.long q6), .second, .val (.long q7), .second, .val (.long q8), .second] [(.ref a1)])) _
    refine XS.lload X7.here hx rfl (hb hby own_d2_39) rfl ?_
    show Steps p.tables e below (T7.setTop (mkF m 41 #[.val (.ref a1), .val (.int p2), .val (.long q3), .second, .val (.long q4), .second, .val (.int p5), .val (.long q6), .second, .val (.long q7), .second, .val (.long q8), .second] [(.long q8), (.ref a1)])) _
    refine st8 _ ?_
    show Steps p.tables e below (T8.setTop (mkF m 44 #[.val (.ref a1), .val (.int p2), .val (.long q3), .second, .val (.long q4), .second, .val (.int p5), .val (.long q6), .second, .val (.long q7), .second, .val (.long q8), .second] [])) _
    exact X8.returnOut hx Bd.returns (hb hby own_d2_44) hr
  · show own_Q2 Z a1 p2 q3 q4 p5 q6 q7 q8 u0 u1 u2 u3 u4 u5 u6 h0 n0 _ T8.heap _
    rw [e8]
    exact ⟨rfl, N8, K8, E8_a1, F8_accounts, F8_total, F8_entries, F8_mismatched, F8_acknowledged, F8_missing, F8_holes⟩
theorem own_d4_0 : decode prog_63_method_3_code 0 = .ok (.aload_n 0, 1) := by decide +kernel
theorem own_d4_1 : decode prog_63_method_3_code 1 = .ok (.getfield 7, 3) := by decide +kernel
theorem own_d4_4 : decode prog_63_method_3_code 4 = .ok (.i2l, 1) := by decide +kernel
theorem own_d4_5 : decode prog_63_method_3_code 5 = .ok (.ldc2_w 84, 3) := by decide +kernel
theorem own_d4_8 : decode prog_63_method_3_code 8 = .ok (.lmul, 1) := by decide +kernel
theorem own_d4_9 : decode prog_63_method_3_code 9 = .ok (.lreturn, 1) := by decide +kernel
theorem own_ef4 (m : MethodId) (x0 : Addr) : entryFrame m #[(.ref x0)] 1 = mkF m 0 #[.val (.ref x0)] [] := by first | (simp [entryFrame, mkF, argsToLocals, Value.category]; done) | rfl
def own_Q4 (Z : State) (a1 : Addr) (w1 : Int32) (h0 : Heap) (n0 : Nat) (v : Option Value) (h : Heap) (L : List Loc) : Prop := v = some (.long (w1.toInt64 * (1000 : Int64))) ∧ Fr n0 L ∧ h = h0
set_option maxRecDepth 65536 in
set_option maxHeartbeats 40000000 in
theorem own_rm4 (l : Launch) (Z : State) (a0 : Array Value) (hw : ∀ d ∈ tables_1, d.before a0 Z = true) (ws : List Jvm.Cond) (a1 : Addr) (w1 : Int32) (h0 : Heap) (n0 : Nat) (Z0 : n0 ≤ h0.size) (F0 : Fld Z h0 a1 "com/example/mortise_kv/mortisekv/cli/Audit" "accounts" "I" (.int w1)) :
    MetFree l (⟨"com/example/mortise_kv/mortisekv/cli/Audit", "expectedTotal", "()J"⟩ : MethodName) (head1 (Jvm.Cond.code (⟨"com/example/mortise_kv/mortisekv/cli/Audit", "expectedTotal", "()J"⟩ : MethodName) prog_63_method_3_code 1 (some .long) :: ws) ({ frames := 0, cells := 0, slots := 0, locals := 0 } : Room)) (fun a U => a = #[(.ref a1)] ∧ Z.Warmed39 U.vm ∧ U.heap = h0) (fun _ _ _ _ _ => True) (fun _ U o U' => ∃ v L, o = .returned v ∧ own_Q4 Z a1 w1 h0 n0 v U'.heap L ∧ FrameEnd U o U' L ({ frames := 0, cells := 0, slots := 0, locals := 0 } : Room).cells ({ frames := 0, cells := 0, slots := 0, locals := 0 } : Room).slots) := by
  refine MetFree.of_bodySF (plainFor_of_name own_pn1) hisR ?_
  intro p e s m args below meth c s₁ Bd hml0 hP hK
  obtain ⟨rfl, hZ, hh⟩ := hP
  have hx := Bd.exec
  have hby := Bd.bytes
  have hml : c.maxLocals = 1 := hml0
  have hown : s.vm.findClass "com/example/mortise_kv/mortisekv/cli/Audit" = some m.cls := findClass_of_methodNamed Bd.named
  have hnm := (name_of_methodNamed Bd.named Bd.method).1
  have X0 : Stand p l e ({ frames := 0, cells := 0, slots := 0, locals := 0 } : Room) s m #[(.ref a1)] below meth c s₁ [] 0 0 := Stand.of_body Bd
  have e0 : s₁.heap = h0 := by rw [← hh, Bd.state]; rfl
  have N0 := Fr.nil n0
  have pre0 : ∀ t, Steps p.tables e below (s₁.setTop (mkF m 0 #[.val (.ref a1)] [])) t → Steps p.tables e below (s₁.setTop (entryFrame m #[(.ref a1)] 1)) t := fun t k => castTop (own_ef4 m a1) k
  obtain ⟨T1, X1, e1, st1⟩ := getF X0 hx hZ hown (host := "") (Or.inl (hw _ (List.mem_of_getElem? (i := 15) rfl))) Via.refl e0 F0 (g := (mkF m 1 #[.val (.ref a1)] [(.ref a1)])) rfl rfl (hb hby own_d4_1)
  obtain ⟨fs, hr, hrun, hended, hW, hsame⟩ := X1.leave (v := some (.long (w1.toInt64 * (1000 : Int64)))) (fun h => by rw [Bd.returns] at h; cases h)
  refine ⟨_, _, pre0 _ ?_, hrun, hended, _, _, rfl, ?_, ⟨_, rfl⟩, hW, hsame.mono (by decide) (by decide)⟩
  · show Steps p.tables e below (s₁.setTop (mkF m 0 #[.val (.ref a1)] [])) _
    refine XS.aloadN X0.here hx rfl (hb hby own_d4_0) rfl rfl ?_
    show Steps p.tables e below (s₁.setTop (mkF m 1 #[.val (.ref a1)] [(.ref a1)])) _
    refine st1 _ ?_
    show Steps p.tables e below (T1.setTop (mkF m 4 #[.val (.ref a1)] [(.int w1)])) _
    refine XS.i2l X1.here hx rfl (hb hby own_d4_4) rfl ?_
    show Steps p.tables e below (T1.setTop (mkF m 5 #[.val (.ref a1)] [(.long (w1.toInt64))])) _
    refine X1.ldc2Long hx hown (mvT hZ (hw _ (List.mem_of_getElem? (i := 39) rfl))) (g := (mkF m 5 #[.val (.ref a1)] [(.long (w1.toInt64))])) rfl (hb hby own_d4_5) _ ?_
    show Steps p.tables e below (T1.setTop (mkF m 8 #[.val (.ref a1)] [(.long (1000 : Int64)), (.long (w1.toInt64))])) _
    refine XS.lmul X1.here hx rfl (hb hby own_d4_8) rfl ?_
    show Steps p.tables e below (T1.setTop (mkF m 9 #[.val (.ref a1)] [(.long (w1.toInt64 * (1000 : Int64)))])) _
    jvm_step X1.here [X1.here.top, hx, (hb hby own_d4_9), X1.method', Bd.returns, narrow]
    first | (intro acts; rw [hr _ acts rfl rfl rfl]) | rw [hr _ _ rfl rfl rfl]
    exact Steps.refl _
  · show own_Q4 Z a1 w1 h0 n0 _ T1.heap _
    rw [e1]
    exact ⟨rfl, N0, rfl⟩
theorem own_d5_0 : decode prog_63_method_4_code 0 = .ok (.aload_n 0, 1) := by decide +kernel
theorem own_d5_1 : decode prog_63_method_4_code 1 = .ok (.getfield 13, 3) := by decide +kernel
theorem own_d5_4 : decode prog_63_method_4_code 4 = .ok (.aload_n 0, 1) := by decide +kernel
theorem own_d5_5 : decode prog_63_method_4_code 5 = .ok (.invokevirtual 86, 3) := by decide +kernel
theorem own_d5_8 : decode prog_63_method_4_code 8 = .ok (.lcmp, 1) := by decide +kernel
theorem own_d5_9 : decode prog_63_method_4_code 9 = .ok (.ifCond .ne 23, 3) := by decide +kernel
theorem own_d5_12 : decode prog_63_method_4_code 12 = .ok (.aload_n 0, 1) := by decide +kernel
theorem own_d5_13 : decode prog_63_method_4_code 13 = .ok (.getfield 20, 3) := by decide +kernel
theorem own_d5_16 : decode prog_63_method_4_code 16 = .ok (.ifCond .ne 16, 3) := by decide +kernel
theorem own_d5_19 : decode prog_63_method_4_code 19 = .ok (.aload_n 0, 1) := by decide +kernel
theorem own_d5_20 : decode prog_63_method_4_code 20 = .ok (.getfield 26, 3) := by decide +kernel
theorem own_d5_23 : decode prog_63_method_4_code 23 = .ok (.lconst 0, 1) := by decide +kernel
theorem own_d5_24 : decode prog_63_method_4_code 24 = .ok (.lcmp, 1) := by decide +kernel
theorem own_d5_25 : decode prog_63_method_4_code 25 = .ok (.ifCond .ne 7, 3) := by decide +kernel
theorem own_d5_28 : decode prog_63_method_4_code 28 = .ok (.iconst 1, 1) := by decide +kernel
theorem own_d5_29 : decode prog_63_method_4_code 29 = .ok (.goto 4, 3) := by decide +kernel
theorem own_d5_32 : decode prog_63_method_4_code 32 = .ok (.iconst 0, 1) := by decide +kernel
theorem own_d5_33 : decode prog_63_method_4_code 33 = .ok (.ireturn, 1) := by decide +kernel
theorem own_pd1 : parseMethodDescriptor "()J" = some ⟨[], some .long⟩ := by decide +kernel
theorem own_ef5 (m : MethodId) (x0 : Addr) : entryFrame m #[(.ref x0)] 1 = mkF m 0 #[.val (.ref x0)] [] := by first | (simp [entryFrame, mkF, argsToLocals, Value.category]; done) | rfl
def own_Q5 (Z : State) (a1 : Addr) (va : Int32) (vt : Int64) (vm : Int32) (vs : Int64) (h0 : Heap) (n0 : Nat) (v : Option Value) (h : Heap) (L : List Loc) : Prop := v = some (.int (own_ps va vt vm vs)) ∧ Fr n0 L ∧ h = h0
set_option maxRecDepth 65536 in
set_option maxHeartbeats 40000000 in
theorem own_rm5 (l : Launch) (Z : State) (a0 : Array Value) (hw : ∀ d ∈ tables_1, d.before a0 Z = true) (ws : List Jvm.Cond) (a1 : Addr) (va : Int32) (vt : Int64) (vm : Int32) (vs : Int64) (h0 : Heap) (n0 : Nat) (Z0 : n0 ≤ h0.size) (E0 : Exa Z h0 a1 "com/example/mortise_kv/mortisekv/cli/Audit") (F0_accounts : Fld Z h0 a1 "com/example/mortise_kv/mortisekv/cli/Audit" "accounts" "I" (.int va)) (F0_total : Fld Z h0 a1 "com/example/mortise_kv/mortisekv/cli/Audit" "total" "J" (.long vt)) (F0_mismatched : Fld Z h0 a1 "com/example/mortise_kv/mortisekv/cli/Audit" "mismatched" "I" (.int vm)) (F0_missing : Fld Z h0 a1 "com/example/mortise_kv/mortisekv/cli/Audit" "missing" "J" (.long vs)) :
    MetFree l (⟨"com/example/mortise_kv/mortisekv/cli/Audit", "passed", "()Z"⟩ : MethodName) (head1 (Jvm.Cond.code (⟨"com/example/mortise_kv/mortisekv/cli/Audit", "passed", "()Z"⟩ : MethodName) prog_63_method_4_code 1 (some .boolean) :: ws) ({ frames := 1, cells := 0, slots := 0, locals := 14 } : Room)) (fun a U => a = #[(.ref a1)] ∧ Z.Warmed39 U.vm ∧ U.heap = h0) (fun _ _ _ _ _ => True) (fun _ U o U' => ∃ v L, o = .returned v ∧ own_Q5 Z a1 va vt vm vs h0 n0 v U'.heap L ∧ FrameEnd U o U' L ({ frames := 1, cells := 0, slots := 0, locals := 14 } : Room).cells ({ frames := 1, cells := 0, slots := 0, locals := 14 } : Room).slots) := by
  refine MetFree.of_bodySF (plainFor_of_name own_pn1) hisR ?_
  intro p e s m args below meth c s₁ Bd hml0 hP hK
  obtain ⟨rfl, hZ, hh⟩ := hP
  have hx := Bd.exec
  have hby := Bd.bytes
  have hml : c.maxLocals = 1 := hml0
  have hown : s.vm.findClass "com/example/mortise_kv/mortisekv/cli/Audit" = some m.cls := findClass_of_methodNamed Bd.named
  have hnm := (name_of_methodNamed Bd.named Bd.method).1
  have X0 : Stand p l e ({ frames := 1, cells := 0, slots := 0, locals := 14 } : Room) s m #[(.ref a1)] below meth c s₁ [] 0 0 := Stand.of_body Bd
  have e0 : s₁.heap = h0 := by rw [← hh, Bd.state]; rfl
  have N0 := Fr.nil n0
  have pre0 : ∀ t, Steps p.tables e below (s₁.setTop (mkF m 0 #[.val (.ref a1)] [])) t → Steps p.tables e below (s₁.setTop (entryFrame m #[(.ref a1)] 1)) t := fun t k => castTop (own_ef5 m a1) k
  by_cases c1 : lcmpW vt (va.toInt64 * (1000 : Int64)) = 0
  · by_cases c2 : vm = 0
    · by_cases c3 : lcmpW vs (0 : Int64) = 0
      ·
        obtain ⟨T1, X1, e1, st1⟩ := getF X0 hx hZ hown (host := "") (Or.inl (hw _ (List.mem_of_getElem? (i := 17) rfl))) Via.refl e0 F0_total (g := (mkF m 1 #[.val (.ref a1)] [(.ref a1)])) rfl rfl (hb hby own_d5_1)
        obtain ⟨cq2, kq2, q2a, q2b, q2c⟩ := isOf hZ e1 E0
        obtain ⟨_, _, ⟨T2, L2, k2, n2⟩, -, X2, ⟨Lc2, hQ2, l2, y2, z2⟩, st2⟩ := X1.virtualBack hx (y := (⟨"com/example/mortise_kv/mortisekv/cli/Audit", "expectedTotal", "()J"⟩ : MethodName)) (z := (⟨"com/example/mortise_kv/mortisekv/cli/Audit", "expectedTotal", "()J"⟩ : MethodName)) hown (mvT hZ (hw _ (List.mem_of_getElem? (i := 34) rfl))) (mvT hZ (hw _ (List.mem_of_getElem? (i := 35) rfl))) (notFace_of_selects (args := #[]) (mvT hZ (hw _ (List.mem_of_getElem? (i := 37) rfl)))) (mvT hZ (hw _ (List.mem_of_getElem? (i := 37) rfl))) (mvT hZ (hw _ (List.mem_of_getElem? (i := 36) rfl))) (by decide) (backOf (W := 2) (own_rm4 l Z a0 hw [] a1 va h0 n0 Z0 F0_accounts) hZ (hw _ (List.mem_of_getElem? (i := 38) rfl)) (hw _ (List.mem_of_getElem? (i := 3) rfl)) (by decide) (by decide)) q2a q2c (g := (mkF m 5 #[.val (.ref a1)] [(.ref a1), (.long vt)])) rfl (by rw [hml]; rfl) (Steps.refl _) (argsL := []) (rest := [(.long vt)]) (lenOf own_pd1 rfl) rfl (by show 2 * 0 + _ ≤ _; exact Nat.le_of_eq rfl) (hb hby own_d5_5) (fun _ _ => ⟨rfl, e1, (by decide : 0 + 0 ≤ _), (by decide : 0 + 0 ≤ _)⟩)
        dsimp only [Pt.U, Pt.locs, Pt.cells, Pt.slots] at X2 l2 y2 z2 st2 hQ2
        subst l2 y2 z2
        obtain ⟨rfl, N2q, e2⟩ := hQ2
        have N2 := Fr.app N0 N2q
        obtain ⟨T3, X3, e3, st3⟩ := getF X2 hx hZ hown (host := "") (Or.inl (hw _ (List.mem_of_getElem? (i := 21) rfl))) Via.refl e2 F0_mismatched (g := (mkF m 13 #[.val (.ref a1)] [(.ref a1)])) rfl rfl (hb hby own_d5_13)
        obtain ⟨T4, X4, e4, st4⟩ := getF X3 hx hZ hown (host := "") (Or.inl (hw _ (List.mem_of_getElem? (i := 25) rfl))) Via.refl e3 F0_missing (g := (mkF m 20 #[.val (.ref a1)] [(.ref a1)])) rfl rfl (hb hby own_d5_20)
        obtain ⟨fs, hr, hrun, hended, hW, hsame⟩ := X4.leave (v := some (.int (1 : Int32))) (fun h => by rw [Bd.returns] at h; cases h)
        refine ⟨_, _, pre0 _ ?_, hrun, hended, _, _, rfl, ?_, ⟨_, rfl⟩, hW, hsame.mono (by decide) (by decide)⟩
        · show Steps p.tables e below (s₁.setTop (mkF m 0 #[.val (.ref a1)] [])) _
          refine XS.aloadN X0.here hx rfl (hb hby own_d5_0) rfl rfl ?_
          show Steps p.tables e below (s₁.setTop (mkF m 1 #[.val (.ref a1)] [(.ref a1)])) _
          refine st1 _ ?_
          show Steps p.tables e below (T1.setTop (mkF m 4 #[.val (.ref a1)] [(.long vt)])) _
          refine XS.aloadN X1.here hx rfl (hb hby own_d5_4) rfl rfl ?_
          show Steps p.tables e below (T1.setTop (mkF m 5 #[.val (.ref a1)] [(.ref a1), (.long vt)])) _
          refine st2.trans ?_
          show Steps p.tables e below (T2.setTop (mkF m 8 #[.val (.ref a1)] [(.long (va.toInt64 * (1000 : Int64))), (.long vt)])) _
          refine XS.lcmp X2.here hx rfl (hb hby own_d5_8) rfl ?_
          show Steps p.tables e below (T2.setTop (mkF m 9 #[.val (.ref a1)] [(.int (lcmpW vt (va.toInt64 * (1000 : Int64))))])) _
          refine XS.ifNo X2.here hx rfl (hb hby own_d5_9) rfl ((if0 _ _).trans (teq (c1 : (lcmpW vt (va.toInt64 * (1000 : Int64))) = (0 : Int32))).2) ?_
          show Steps p.tables e below (T2.setTop (mkF m 12 #[.val (.ref a1)] [])) _
          refine XS.aloadN X2.here hx rfl (hb hby own_d5_12) rfl rfl ?_
          show Steps p.tables e below (T2.setTop (mkF m 13 #[.val (.ref a1)] [(.ref a1)])) _
          refine st3 _ ?_
          show Steps p.tables e below (T3.setTop (mkF m 16 #[.val (.ref a1)] [(.int vm)])) _
          refine XS.ifNo X3.here hx rfl (hb hby own_d5_16) rfl ((if0 _ _).trans (teq (c2 : vm = (0 : Int32))).2) ?_
          show Steps p.tables e below (T3.setTop (mkF m 19 #[.val (.ref a1)] [])) _
          refine XS.aloadN X3.here hx rfl (hb hby own_d5_19) rfl rfl ?_
          show Steps p.tables e below (T3.setTop (mkF m 20 #[.val (.ref a1)] [(.ref a1)])) _
          refine st4 _ ?_
          show Steps p.tables e below (T4.setTop (mkF m 23 #[.val (.ref a1)] [(.long vs)])) _
          refine XS.lconst X4.here hx rfl (hb hby own_d5_23) ?_
          show Steps p.tables e below (T4.setTop (mkF m 24 #[.val (.ref a1)] [(.long (0 : Int64)), (.long vs)])) _
          refine XS.lcmp X4.here hx rfl (hb hby own_d5_24) rfl ?_
          show Steps p.tables e below (T4.setTop (mkF m 25 #[.val (.ref a1)] [(.int (lcmpW vs (0 : Int64)))])) _
          refine XS.ifNo X4.here hx rfl (hb hby own_d5_25) rfl ((if0 _ _).trans (teq (c3 : (lcmpW vs (0 : Int64)) = (0 : Int32))).2) ?_
          show Steps p.tables e below (T4.setTop (mkF m 28 #[.val (.ref a1)] [])) _
          refine XS.iconst X4.here hx rfl (hb hby own_d5_28) ?_
          show Steps p.tables e below (T4.setTop (mkF m 29 #[.val (.ref a1)] [(.int (1 : Int32))])) _
          refine XS.goto X4.here hx rfl (pc0 := 29) (pc' := 33) rfl (hb hby own_d5_29) (by decide) (by decide) ?_
          show Steps p.tables e below (T4.setTop (mkF m 33 #[.val (.ref a1)] [(.int (1 : Int32))])) _
          exact retN X4 hx (t := .boolean) Bd.returns (by simp) (hb hby own_d5_33) hr
        · show own_Q5 Z a1 va vt vm vs h0 n0 _ T4.heap _
          rw [e4]
          exact ⟨by rw [show own_ps va vt vm vs = 1 from by simp only [own_ps, if_pos, if_neg, c1, c2, c3, not_false_eq_true]], N2, rfl⟩
      ·
        obtain ⟨T5, X5, e5, st5⟩ := getF X0 hx hZ hown (host := "") (Or.inl (hw _ (List.mem_of_getElem? (i := 17) rfl))) Via.refl e0 F0_total (g := (mkF m 1 #[.val (.ref a1)] [(.ref a1)])) rfl rfl (hb hby own_d5_1)
        obtain ⟨cq6, kq6, q6a, q6b, q6c⟩ := isOf hZ e5 E0
        obtain ⟨_, _, ⟨T6, L6, k6, n6⟩, -, X6, ⟨Lc6, hQ6, l6, y6, z6⟩, st6⟩ := X5.virtualBack hx (y := (⟨"com/example/mortise_kv/mortisekv/cli/Audit", "expectedTotal", "()J"⟩ : MethodName)) (z := (⟨"com/example/mortise_kv/mortisekv/cli/Audit", "expectedTotal", "()J"⟩ : MethodName)) hown (mvT hZ (hw _ (List.mem_of_getElem? (i := 34) rfl))) (mvT hZ (hw _ (List.mem_of_getElem? (i := 35) rfl))) (notFace_of_selects (args := #[]) (mvT hZ (hw _ (List.mem_of_getElem? (i := 37) rfl)))) (mvT hZ (hw _ (List.mem_of_getElem? (i := 37) rfl))) (mvT hZ (hw _ (List.mem_of_getElem? (i := 36) rfl))) (by decide) (backOf (W := 2) (own_rm4 l Z a0 hw [] a1 va h0 n0 Z0 F0_accounts) hZ (hw _ (List.mem_of_getElem? (i := 38) rfl)) (hw _ (List.mem_of_getElem? (i := 3) rfl)) (by decide) (by decide)) q6a q6c (g := (mkF m 5 #[.val (.ref a1)] [(.ref a1), (.long vt)])) rfl (by rw [hml]; rfl) (Steps.refl _) (argsL := []) (rest := [(.long vt)]) (lenOf own_pd1 rfl) rfl (by show 2 * 0 + _ ≤ _; exact Nat.le_of_eq rfl) (hb hby own_d5_5) (fun _ _ => ⟨rfl, e5, (by decide : 0 + 0 ≤ _), (by decide : 0 + 0 ≤ _)⟩)
        dsimp only [Pt.U, Pt.locs, Pt.cells, Pt.slots] at X6 l6 y6 z6 st6 hQ6
        subst l6 y6 z6
        obtain ⟨rfl, N6q, e6⟩ := hQ6
        have N6 := Fr.app N0 N6q
        obtain ⟨T7, X7, e7, st7⟩ := getF X6 hx hZ hown (host := "") (Or.inl (hw _ (List.mem_of_getElem? (i := 21) rfl))) Via.refl e6 F0_mismatched (g := (mkF m 13 #[.val (.ref a1)] [(.ref a1)])) rfl rfl (hb hby own_d5_13)
        obtain ⟨T8, X8, e8, st8⟩ := getF X7 hx hZ hown (host := "") (Or.inl (hw _ (List.mem_of_getElem? (i := 25) rfl))) Via.refl e7 F0_missing (g := (mkF m 20 #[.val (.ref a1)] [(.ref a1)])) rfl rfl (hb hby own_d5_20)
        obtain ⟨fs, hr, hrun, hended, hW, hsame⟩ := X8.leave (v := some (.int (0 : Int32))) (fun h => by rw [Bd.returns] at h; cases h)
        refine ⟨_, _, pre0 _ ?_, hrun, hended, _, _, rfl, ?_, ⟨_, rfl⟩, hW, hsame.mono (by decide) (by decide)⟩
        · show Steps p.tables e below (s₁.setTop (mkF m 0 #[.val (.ref a1)] [])) _
          refine XS.aloadN X0.here hx rfl (hb hby own_d5_0) rfl rfl ?_
          show Steps p.tables e below (s₁.setTop (mkF m 1 #[.val (.ref a1)] [(.ref a1)])) _
          refine st5 _ ?_
          show Steps p.tables e below (T5.setTop (mkF m 4 #[.val (.ref a1)] [(.long vt)])) _
          refine XS.aloadN X5.here hx rfl (hb hby own_d5_4) rfl rfl ?_
          show Steps p.tables e below (T5.setTop (mkF m 5 #[.val (.ref a1)] [(.ref a1), (.long vt)])) _
          refine st6.trans ?_
          show Steps p.tables e below (T6.setTop (mkF m 8 #[.val (.ref a1)] [(.long (va.toInt64 * (1000 : Int64))), (.long vt)])) _
          refine XS.lcmp X6.here hx rfl (hb hby own_d5_8) rfl ?_
          show Steps p.tables e below (T6.setTop (mkF m 9 #[.val (.ref a1)] [(.int (lcmpW vt (va.toInt64 * (1000 : Int64))))])) _
          refine XS.ifNo X6.here hx rfl (hb hby own_d5_9) rfl ((if0 _ _).trans (teq (c1 : (lcmpW vt (va.toInt64 * (1000 : Int64))) = (0 : Int32))).2) ?_
          show Steps p.tables e below (T6.setTop (mkF m 12 #[.val (.ref a1)] [])) _
          refine XS.aloadN X6.here hx rfl (hb hby own_d5_12) rfl rfl ?_
          show Steps p.tables e below (T6.setTop (mkF m 13 #[.val (.ref a1)] [(.ref a1)])) _
          refine st7 _ ?_
          show Steps p.tables e below (T7.setTop (mkF m 16 #[.val (.ref a1)] [(.int vm)])) _
          refine XS.ifNo X7.here hx rfl (hb hby own_d5_16) rfl ((if0 _ _).trans (teq (c2 : vm = (0 : Int32))).2) ?_
          show Steps p.tables e below (T7.setTop (mkF m 19 #[.val (.ref a1)] [])) _
          refine XS.aloadN X7.here hx rfl (hb hby own_d5_19) rfl rfl ?_
          show Steps p.tables e below (T7.setTop (mkF m 20 #[.val (.ref a1)] [(.ref a1)])) _
          refine st8 _ ?_
          show Steps p.tables e below (T8.setTop (mkF m 23 #[.val (.ref a1)] [(.long vs)])) _
          refine XS.lconst X8.here hx rfl (hb hby own_d5_23) ?_
          show Steps p.tables e below (T8.setTop (mkF m 24 #[.val (.ref a1)] [(.long (0 : Int64)), (.long vs)])) _
          refine XS.lcmp X8.here hx rfl (hb hby own_d5_24) rfl ?_
          show Steps p.tables e below (T8.setTop (mkF m 25 #[.val (.ref a1)] [(.int (lcmpW vs (0 : Int64)))])) _
          refine XS.ifYes X8.here hx rfl (pc0 := 25) (pc' := 32) rfl (hb hby own_d5_25) rfl ((if0 _ _).trans (feq (c3 : ¬ ((lcmpW vs (0 : Int64)) = (0 : Int32)))).2) (by decide) (by decide) ?_
          show Steps p.tables e below (T8.setTop (mkF m 32 #[.val (.ref a1)] [])) _
          refine XS.iconst X8.here hx rfl (hb hby own_d5_32) ?_
          show Steps p.tables e below (T8.setTop (mkF m 33 #[.val (.ref a1)] [(.int (0 : Int32))])) _
          exact retN X8 hx (t := .boolean) Bd.returns (by simp) (hb hby own_d5_33) hr
        · show own_Q5 Z a1 va vt vm vs h0 n0 _ T8.heap _
          rw [e8]
          exact ⟨by rw [show own_ps va vt vm vs = 0 from by simp only [own_ps, if_pos, if_neg, c1, c2, c3, not_false_eq_true]], N6, rfl⟩
    ·
      obtain ⟨T9, X9, e9, st9⟩ := getF X0 hx hZ hown (host := "") (Or.inl (hw _ (List.mem_of_getElem? (i := 17) rfl))) Via.refl e0 F0_total (g := (mkF m 1 #[.val (.ref a1)] [(.ref a1)])) rfl rfl (hb hby own_d5_1)
      obtain ⟨cq10, kq10, q10a, q10b, q10c⟩ := isOf hZ e9 E0
      obtain ⟨_, _, ⟨T10, L10, k10, n10⟩, -, X10, ⟨Lc10, hQ10, l10, y10, z10⟩, st10⟩ := X9.virtualBack hx (y := (⟨"com/example/mortise_kv/mortisekv/cli/Audit", "expectedTotal", "()J"⟩ : MethodName)) (z := (⟨"com/example/mortise_kv/mortisekv/cli/Audit", "expectedTotal", "()J"⟩ : MethodName)) hown (mvT hZ (hw _ (List.mem_of_getElem? (i := 34) rfl))) (mvT hZ (hw _ (List.mem_of_getElem? (i := 35) rfl))) (notFace_of_selects (args := #[]) (mvT hZ (hw _ (List.mem_of_getElem? (i := 37) rfl)))) (mvT hZ (hw _ (List.mem_of_getElem? (i := 37) rfl))) (mvT hZ (hw _ (List.mem_of_getElem? (i := 36) rfl))) (by decide) (backOf (W := 2) (own_rm4 l Z a0 hw [] a1 va h0 n0 Z0 F0_accounts) hZ (hw _ (List.mem_of_getElem? (i := 38) rfl)) (hw _ (List.mem_of_getElem? (i := 3) rfl)) (by decide) (by decide)) q10a q10c (g := (mkF m 5 #[.val (.ref a1)] [(.ref a1), (.long vt)])) rfl (by rw [hml]; rfl) (Steps.refl _) (argsL := []) (rest := [(.long vt)]) (lenOf own_pd1 rfl) rfl (by show 2 * 0 + _ ≤ _; exact Nat.le_of_eq rfl) (hb hby own_d5_5) (fun _ _ => ⟨rfl, e9, (by decide : 0 + 0 ≤ _), (by decide : 0 + 0 ≤ _)⟩)
      dsimp only [Pt.U, Pt.locs, Pt.cells, Pt.slots] at X10 l10 y10 z10 st10 hQ10
      subst l10 y10 z10
      obtain ⟨rfl, N10q, e10⟩ := hQ10
      have N10 := Fr.app N0 N10q
      obtain ⟨T11, X11, e11, st11⟩ := getF X10 hx hZ hown (host := "") (Or.inl (hw _ (List.mem_of_getElem? (i := 21) rfl))) Via.refl e10 F0_mismatched (g := (mkF m 13 #[.val (.ref a1)] [(.ref a1)])) rfl rfl (hb hby own_d5_13)
      obtain ⟨fs, hr, hrun, hended, hW, hsame⟩ := X11.leave (v := some (.int (0 : Int32))) (fun h => by rw [Bd.returns] at h; cases h)
      refine ⟨_, _, pre0 _ ?_, hrun, hended, _, _, rfl, ?_, ⟨_, rfl⟩, hW, hsame.mono (by decide) (by decide)⟩
      · show Steps p.tables e below (s₁.setTop (mkF m 0 #[.val (.ref a1)] [])) _
        refine XS.aloadN X0.here hx rfl (hb hby own_d5_0) rfl rfl ?_
        show Steps p.tables e below (s₁.setTop (mkF m 1 #[.val (.ref a1)] [(.ref a1)])) _
        refine st9 _ ?_
        show Steps p.tables e below (T9.setTop (mkF m 4 #[.val (.ref a1)] [(.long vt)])) _
        refine XS.aloadN X9.here hx rfl (hb hby own_d5_4) rfl rfl ?_
        show Steps p.tables e below (T9.setTop (mkF m 5 #[.val (.ref a1)] [(.ref a1), (.long vt)])) _
        refine st10.trans ?_
        show Steps p.tables e below (T10.setTop (mkF m 8 #[.val (.ref a1)] [(.long (va.toInt64 * (1000 : Int64))), (.long vt)])) _
        refine XS.lcmp X10.here hx rfl (hb hby own_d5_8) rfl ?_
        show Steps p.tables e below (T10.setTop (mkF m 9 #[.val (.ref a1)] [(.int (lcmpW vt (va.toInt64 * (1000 : Int64))))])) _
        refine XS.ifNo X10.here hx rfl (hb hby own_d5_9) rfl ((if0 _ _).trans (teq (c1 : (lcmpW vt (va.toInt64 * (1000 : Int64))) = (0 : Int32))).2) ?_
        show Steps p.tables e below (T10.setTop (mkF m 12 #[.val (.ref a1)] [])) _
        refine XS.aloadN X10.here hx rfl (hb hby own_d5_12) rfl rfl ?_
        show Steps p.tables e below (T10.setTop (mkF m 13 #[.val (.ref a1)] [(.ref a1)])) _
        refine st11 _ ?_
        show Steps p.tables e below (T11.setTop (mkF m 16 #[.val (.ref a1)] [(.int vm)])) _
        refine XS.ifYes X11.here hx rfl (pc0 := 16) (pc' := 32) rfl (hb hby own_d5_16) rfl ((if0 _ _).trans (feq (c2 : ¬ (vm = (0 : Int32)))).2) (by decide) (by decide) ?_
        show Steps p.tables e below (T11.setTop (mkF m 32 #[.val (.ref a1)] [])) _
        refine XS.iconst X11.here hx rfl (hb hby own_d5_32) ?_
        show Steps p.tables e below (T11.setTop (mkF m 33 #[.val (.ref a1)] [(.int (0 : Int32))])) _
        exact retN X11 hx (t := .boolean) Bd.returns (by simp) (hb hby own_d5_33) hr
      · show own_Q5 Z a1 va vt vm vs h0 n0 _ T11.heap _
        rw [e11]
        exact ⟨by rw [show own_ps va vt vm vs = 0 from by simp only [own_ps, if_pos, if_neg, c1, c2, not_false_eq_true]], N10, rfl⟩
  ·
    obtain ⟨T12, X12, e12, st12⟩ := getF X0 hx hZ hown (host := "") (Or.inl (hw _ (List.mem_of_getElem? (i := 17) rfl))) Via.refl e0 F0_total (g := (mkF m 1 #[.val (.ref a1)] [(.ref a1)])) rfl rfl (hb hby own_d5_1)
    obtain ⟨cq13, kq13, q13a, q13b, q13c⟩ := isOf hZ e12 E0
    obtain ⟨_, _, ⟨T13, L13, k13, n13⟩, -, X13, ⟨Lc13, hQ13, l13, y13, z13⟩, st13⟩ := X12.virtualBack hx (y := (⟨"com/example/mortise_kv/mortisekv/cli/Audit", "expectedTotal", "()J"⟩ : MethodName)) (z := (⟨"com/example/mortise_kv/mortisekv/cli/Audit", "expectedTotal", "()J"⟩ : MethodName)) hown (mvT hZ (hw _ (List.mem_of_getElem? (i := 34) rfl))) (mvT hZ (hw _ (List.mem_of_getElem? (i := 35) rfl))) (notFace_of_selects (args := #[]) (mvT hZ (hw _ (List.mem_of_getElem? (i := 37) rfl)))) (mvT hZ (hw _ (List.mem_of_getElem? (i := 37) rfl))) (mvT hZ (hw _ (List.mem_of_getElem? (i := 36) rfl))) (by decide) (backOf (W := 2) (own_rm4 l Z a0 hw [] a1 va h0 n0 Z0 F0_accounts) hZ (hw _ (List.mem_of_getElem? (i := 38) rfl)) (hw _ (List.mem_of_getElem? (i := 3) rfl)) (by decide) (by decide)) q13a q13c (g := (mkF m 5 #[.val (.ref a1)] [(.ref a1), (.long vt)])) rfl (by rw [hml]; rfl) (Steps.refl _) (argsL := []) (rest := [(.long vt)]) (lenOf own_pd1 rfl) rfl (by show 2 * 0 + _ ≤ _; exact Nat.le_of_eq rfl) (hb hby own_d5_5) (fun _ _ => ⟨rfl, e12, (by decide : 0 + 0 ≤ _), (by decide : 0 + 0 ≤ _)⟩)
    dsimp only [Pt.U, Pt.locs, Pt.cells, Pt.slots] at X13 l13 y13 z13 st13 hQ13
    subst l13 y13 z13
    obtain ⟨rfl, N13q, e13⟩ := hQ13
    have N13 := Fr.app N0 N13q
    obtain ⟨fs, hr, hrun, hended, hW, hsame⟩ := X13.leave (v := some (.int (0 : Int32))) (fun h => by rw [Bd.returns] at h; cases h)
    refine ⟨_, _, pre0 _ ?_, hrun, hended, _, _, rfl, ?_, ⟨_, rfl⟩, hW, hsame.mono (by decide) (by decide)⟩
    · show Steps p.tables e below (s₁.setTop (mkF m 0 #[.val (.ref a1)] [])) _
      refine XS.aloadN X0.here hx rfl (hb hby own_d5_0) rfl rfl ?_
      show Steps p.tables e below (s₁.setTop (mkF m 1 #[.val (.ref a1)] [(.ref a1)])) _
      refine st12 _ ?_
      show Steps p.tables e below (T12.setTop (mkF m 4 #[.val (.ref a1)] [(.long vt)])) _
      refine XS.aloadN X12.here hx rfl (hb hby own_d5_4) rfl rfl ?_
      show Steps p.tables e below (T12.setTop (mkF m 5 #[.val (.ref a1)] [(.ref a1), (.long vt)])) _
      refine st13.trans ?_
      show Steps p.tables e below (T13.setTop (mkF m 8 #[.val (.ref a1)] [(.long (va.toInt64 * (1000 : Int64))), (.long vt)])) _
      refine XS.lcmp X13.here hx rfl (hb hby own_d5_8) rfl ?_
      show Steps p.tables e below (T13.setTop (mkF m 9 #[.val (.ref a1)] [(.int (lcmpW vt (va.toInt64 * (1000 : Int64))))])) _
      refine XS.ifYes X13.here hx rfl (pc0 := 9) (pc' := 32) rfl (hb hby own_d5_9) rfl ((if0 _ _).trans (feq (c1 : ¬ ((lcmpW vt (va.toInt64 * (1000 : Int64))) = (0 : Int32)))).2) (by decide) (by decide) ?_
      show Steps p.tables e below (T13.setTop (mkF m 32 #[.val (.ref a1)] [])) _
      refine XS.iconst X13.here hx rfl (hb hby own_d5_32) ?_
      show Steps p.tables e below (T13.setTop (mkF m 33 #[.val (.ref a1)] [(.int (0 : Int32))])) _
      exact retN X13 hx (t := .boolean) Bd.returns (by simp) (hb hby own_d5_33) hr
    · show own_Q5 Z a1 va vt vm vs h0 n0 _ T13.heap _
      rw [e13]
      exact ⟨by rw [show own_ps va vt vm vs = 0 from by simp only [own_ps, if_pos, if_neg, c1, not_false_eq_true]], N13, rfl⟩
theorem own_pd2 : parseMethodDescriptor "(IJJIJJJ)V" = some ⟨[.int, .long, .long, .int, .long, .long, .long], none⟩ := by decide +kernel
theorem own_pd3 : parseMethodDescriptor "()Z" = some ⟨[], some .boolean⟩ := by decide +kernel
theorem own_pn2 : plainName "com/example/mortise_kv/mortisekv/cli/AuditPassedPinLaw" = true := by first | (simp [plainName, overriddenIn]; done) | decide +kernel
theorem own_ef0 (m : MethodId) (x0 : Int32) (x1 : Int64) (x2 : Int32) (x3 : Int64) (x4 : Int64) (x5 : Int32) : entryFrame m #[(.int x0), (.long x1), (.int x2), (.long x3), (.long x4), (.int x5)] maxLocals = mkF m 0 #[.val (.int x0), .val (.long x1), .second, .val (.int x2), .val (.long x3), .second, .val (.long x4), .second, .val (.int x5), .unset, .unset, .unset, .unset, .unset, .unset, .unset, .unset, .unset] [] := by first | (simp [entryFrame, mkF, argsToLocals, Value.category, maxLocals]; done) | rfl
def own_Q0 (Z : State) (p1 : Int32) (q2 : Int64) (p3 : Int32) (q4 : Int64) (q5 : Int64) (p6 : Int32) (h0 : Heap) (n0 : Nat) (v : Option Value) (h : Heap) (L : List Loc) : Prop := v = some (.int 1) ∧ Fr n0 L
set_option maxRecDepth 65536 in
set_option maxHeartbeats 40000000 in
theorem own_rm0 (l : Launch) (Z : State) (a0 : Array Value) (hw : ∀ d ∈ tables_1, d.before a0 Z = true) (ws : List Jvm.Cond) (p1 : Int32) (q2 : Int64) (p3 : Int32) (q4 : Int64) (q5 : Int64) (p6 : Int32) (h0 : Heap) (n0 : Nat) (Z0 : n0 ≤ h0.size) :
    MetFree l x (head1 (Jvm.Cond.code x code maxLocals ret :: ws) room_1) (fun a U => a = #[(.int p1), (.long q2), (.int p3), (.long q4), (.long q5), (.int p6)] ∧ Z.Warmed39 U.vm ∧ U.heap = h0) (fun _ _ _ _ _ => True) (fun _ U o U' => ∃ v L, o = .returned v ∧ own_Q0 Z p1 q2 p3 q4 q5 p6 h0 n0 v U'.heap L ∧ FrameEnd U o U' L room_1.cells room_1.slots) := by
  refine MetFree.of_bodySF (plainFor_of_name own_pn2) hisR ?_
  intro p e s m args below meth c s₁ Bd hml0 hP hK
  obtain ⟨rfl, hZ, hh⟩ := hP
  have hx := Bd.exec
  have hby := Bd.bytes
  have hml : c.maxLocals = 18 := hml0
  have hown : s.vm.findClass "com/example/mortise_kv/mortisekv/cli/AuditPassedPinLaw" = some m.cls := findClass_of_methodNamed Bd.named
  have hnm := (name_of_methodNamed Bd.named Bd.method).1
  have X0 : Stand p l e room_1 s m #[(.int p1), (.long q2), (.int p3), (.long q4), (.long q5), (.int p6)] below meth c s₁ [] 0 0 := Stand.of_body Bd
  have e0 : s₁.heap = h0 := by rw [← hh, Bd.state]; rfl
  have N0 := Fr.nil n0
  have pre0 : ∀ t, Steps p.tables e below (s₁.setTop (mkF m 0 #[.val (.int p1), .val (.long q2), .second, .val (.int p3), .val (.long q4), .second, .val (.long q5), .second, .val (.int p6), .unset, .unset, .unset, .unset, .unset, .unset, .unset, .unset, .unset] [])) t → Steps p.tables e below (s₁.setTop (entryFrame m #[(.int p1), (.long q2), (.int p3), (.long q4), (.long q5), (.int p6)] maxLocals)) t := fun t k => castTop (own_ef0 m p1 q2 p3 q4 q5 p6) k
  obtain ⟨dd, hdd⟩ : ∃ z : Int64, z = own_pkL (p6 &&& (1 : Int32)) q2 := ⟨_, rfl⟩
  have sg1 : ∀ t, Steps p.tables e below (s₁.setTop (mkF m 12 #[.val (.int p1), .val (.long q2), .second, .val (.int p3), .val (.long q4), .second, .val (.long q5), .second, .val (.int p6), .unset, .unset, .unset, .unset, .unset, .unset, .unset, .unset, .unset] [(.long dd)])) t → Steps p.tables e below (s₁.setTop (mkF m 0 #[.val (.int p1), .val (.long q2), .second, .val (.int p3), .val (.long q4), .second, .val (.long q5), .second, .val (.int p6), .unset, .unset, .unset, .unset, .unset, .unset, .unset, .unset, .unset] [])) t := by
    intro t K
    show Steps p.tables e below (s₁.setTop (mkF m 0 #[.val (.int p1), .val (.long q2), .second, .val (.int p3), .val (.long q4), .second, .val (.long q5), .second, .val (.int p6), .unset, .unset, .unset, .unset, .unset, .unset, .unset, .unset, .unset] [])) _
    refine XS.iload X0.here hx rfl (hb hby at_0) rfl ?_
    show Steps p.tables e below (s₁.setTop (mkF m 2 #[.val (.int p1), .val (.long q2), .second, .val (.int p3), .val (.long q4), .second, .val (.long q5), .second, .val (.int p6), .unset, .unset, .unset, .unset, .unset, .unset, .unset, .unset, .unset] [(.int p6)])) _
    refine XS.iconst X0.here hx rfl (hb hby at_2) ?_
    show Steps p.tables e below (s₁.setTop (mkF m 3 #[.val (.int p1), .val (.long q2), .second, .val (.int p3), .val (.long q4), .second, .val (.long q5), .second, .val (.int p6), .unset, .unset, .unset, .unset, .unset, .unset, .unset, .unset, .unset] [(.int (1 : Int32)), (.int p6)])) _
    refine XS.iand X0.here hx rfl (hb hby at_3) rfl ?_
    by_cases hc4 : (p6 &&& (1 : Int32)) = (0 : Int32)
    · show Steps p.tables e below (s₁.setTop (mkF m 4 #[.val (.int p1), .val (.long q2), .second, .val (.int p3), .val (.long q4), .second, .val (.long q5), .second, .val (.int p6), .unset, .unset, .unset, .unset, .unset, .unset, .unset, .unset, .unset] [(.int (p6 &&& (1 : Int32)))])) _
      refine XS.ifYes X0.here hx rfl (pc0 := 4) (pc' := 11) rfl (hb hby at_4) rfl ((if0 _ _).trans (teq hc4).1) (by decide) (by decide) ?_
      show Steps p.tables e below (s₁.setTop (mkF m 11 #[.val (.int p1), .val (.long q2), .second, .val (.int p3), .val (.long q4), .second, .val (.long q5), .second, .val (.int p6), .unset, .unset, .unset, .unset, .unset, .unset, .unset, .unset, .unset] [])) _
      refine XS.lloadN X0.here hx rfl (hb hby at_11) rfl ?_
      show Steps p.tables e below (s₁.setTop (mkF m 12 #[.val (.int p1), .val (.long q2), .second, .val (.int p3), .val (.long q4), .second, .val (.long q5), .second, .val (.int p6), .unset, .unset, .unset, .unset, .unset, .unset, .unset, .unset, .unset] [(.long q2)])) _
      have qdd : dd = q2 := by rw [hdd]; simp only [own_pkL, if_pos, if_neg, hc4, not_false_eq_true]
      rw [qdd] at K
      exact K
    · show Steps p.tables e below (s₁.setTop (mkF m 4 #[.val (.int p1), .val (.long q2), .second, .val (.int p3), .val (.long q4), .second, .val (.long q5), .second, .val (.int p6), .unset, .unset, .unset, .unset, .unset, .unset, .unset, .unset, .unset] [(.int (p6 &&& (1 : Int32)))])) _
      refine XS.ifNo X0.here hx rfl (hb hby at_4) rfl ((if0 _ _).trans (feq hc4).1) ?_
      show Steps p.tables e below (s₁.setTop (mkF m 7 #[.val (.int p1), .val (.long q2), .second, .val (.int p3), .val (.long q4), .second, .val (.long q5), .second, .val (.int p6), .unset, .unset, .unset, .unset, .unset, .unset, .unset, .unset, .unset] [])) _
      refine XS.lconst X0.here hx rfl (hb hby at_7) ?_
      show Steps p.tables e below (s₁.setTop (mkF m 8 #[.val (.int p1), .val (.long q2), .second, .val (.int p3), .val (.long q4), .second, .val (.long q5), .second, .val (.int p6), .unset, .unset, .unset, .unset, .unset, .unset, .unset, .unset, .unset] [(.long (0 : Int64))])) _
      refine XS.goto X0.here hx rfl (pc0 := 8) (pc' := 12) rfl (hb hby at_8) (by decide) (by decide) ?_
      show Steps p.tables e below (s₁.setTop (mkF m 12 #[.val (.int p1), .val (.long q2), .second, .val (.int p3), .val (.long q4), .second, .val (.long q5), .second, .val (.int p6), .unset, .unset, .unset, .unset, .unset, .unset, .unset, .unset, .unset] [(.long (0 : Int64))])) _
      have qdd : dd = (0 : Int64) := by rw [hdd]; simp only [own_pkL, if_pos, if_neg, hc4, not_false_eq_true]
      rw [qdd] at K
      exact K
  obtain ⟨mm, hmm⟩ : ∃ z : Int32, z = own_pkI (p6 &&& (2 : Int32)) p3 := ⟨_, rfl⟩
  have sg2 : ∀ t, Steps p.tables e below (s₁.setTop (mkF m 26 #[.val (.int p1), .val (.long q2), .second, .val (.int p3), .val (.long q4), .second, .val (.long q5), .second, .val (.int p6), .val (.long dd), .second, .unset, .unset, .unset, .unset, .unset, .unset, .unset] [(.int mm)])) t → Steps p.tables e below (s₁.setTop (mkF m 14 #[.val (.int p1), .val (.long q2), .second, .val (.int p3), .val (.long q4), .second, .val (.long q5), .second, .val (.int p6), .val (.long dd), .second, .unset, .unset, .unset, .unset, .unset, .unset, .unset] [])) t := by
    intro t K
    show Steps p.tables e below (s₁.setTop (mkF m 14 #[.val (.int p1), .val (.long q2), .second, .val (.int p3), .val (.long q4), .second, .val (.long q5), .second, .val (.int p6), .val (.long dd), .second, .unset, .unset, .unset, .unset, .unset, .unset, .unset] [])) _
    refine XS.iload X0.here hx rfl (hb hby at_14) rfl ?_
    show Steps p.tables e below (s₁.setTop (mkF m 16 #[.val (.int p1), .val (.long q2), .second, .val (.int p3), .val (.long q4), .second, .val (.long q5), .second, .val (.int p6), .val (.long dd), .second, .unset, .unset, .unset, .unset, .unset, .unset, .unset] [(.int p6)])) _
    refine XS.iconst X0.here hx rfl (hb hby at_16) ?_
    show Steps p.tables e below (s₁.setTop (mkF m 17 #[.val (.int p1), .val (.long q2), .second, .val (.int p3), .val (.long q4), .second, .val (.long q5), .second, .val (.int p6), .val (.long dd), .second, .unset, .unset, .unset, .unset, .unset, .unset, .unset] [(.int (2 : Int32)), (.int p6)])) _
    refine XS.iand X0.here hx rfl (hb hby at_17) rfl ?_
    by_cases hc18 : (p6 &&& (2 : Int32)) = (0 : Int32)
    · show Steps p.tables e below (s₁.setTop (mkF m 18 #[.val (.int p1), .val (.long q2), .second, .val (.int p3), .val (.long q4), .second, .val (.long q5), .second, .val (.int p6), .val (.long dd), .second, .unset, .unset, .unset, .unset, .unset, .unset, .unset] [(.int (p6 &&& (2 : Int32)))])) _
      refine XS.ifYes X0.here hx rfl (pc0 := 18) (pc' := 25) rfl (hb hby at_18) rfl ((if0 _ _).trans (teq hc18).1) (by decide) (by decide) ?_
      show Steps p.tables e below (s₁.setTop (mkF m 25 #[.val (.int p1), .val (.long q2), .second, .val (.int p3), .val (.long q4), .second, .val (.long q5), .second, .val (.int p6), .val (.long dd), .second, .unset, .unset, .unset, .unset, .unset, .unset, .unset] [])) _
      refine XS.iloadN X0.here hx rfl (hb hby at_25) rfl ?_
      show Steps p.tables e below (s₁.setTop (mkF m 26 #[.val (.int p1), .val (.long q2), .second, .val (.int p3), .val (.long q4), .second, .val (.long q5), .second, .val (.int p6), .val (.long dd), .second, .unset, .unset, .unset, .unset, .unset, .unset, .unset] [(.int p3)])) _
      have qmm : mm = p3 := by rw [hmm]; simp only [own_pkI, if_pos, if_neg, hc18, not_false_eq_true]
      rw [qmm] at K
      exact K
    · show Steps p.tables e below (s₁.setTop (mkF m 18 #[.val (.int p1), .val (.long q2), .second, .val (.int p3), .val (.long q4), .second, .val (.long q5), .second, .val (.int p6), .val (.long dd), .second, .unset, .unset, .unset, .unset, .unset, .unset, .unset] [(.int (p6 &&& (2 : Int32)))])) _
      refine XS.ifNo X0.here hx rfl (hb hby at_18) rfl ((if0 _ _).trans (feq hc18).1) ?_
      show Steps p.tables e below (s₁.setTop (mkF m 21 #[.val (.int p1), .val (.long q2), .second, .val (.int p3), .val (.long q4), .second, .val (.long q5), .second, .val (.int p6), .val (.long dd), .second, .unset, .unset, .unset, .unset, .unset, .unset, .unset] [])) _
      refine XS.iconst X0.here hx rfl (hb hby at_21) ?_
      show Steps p.tables e below (s₁.setTop (mkF m 22 #[.val (.int p1), .val (.long q2), .second, .val (.int p3), .val (.long q4), .second, .val (.long q5), .second, .val (.int p6), .val (.long dd), .second, .unset, .unset, .unset, .unset, .unset, .unset, .unset] [(.int (0 : Int32))])) _
      refine XS.goto X0.here hx rfl (pc0 := 22) (pc' := 26) rfl (hb hby at_22) (by decide) (by decide) ?_
      show Steps p.tables e below (s₁.setTop (mkF m 26 #[.val (.int p1), .val (.long q2), .second, .val (.int p3), .val (.long q4), .second, .val (.long q5), .second, .val (.int p6), .val (.long dd), .second, .unset, .unset, .unset, .unset, .unset, .unset, .unset] [(.int (0 : Int32))])) _
      have qmm : mm = (0 : Int32) := by rw [hmm]; simp only [own_pkI, if_pos, if_neg, hc18, not_false_eq_true]
      rw [qmm] at K
      exact K
  obtain ⟨ss, hss⟩ : ∃ z : Int64, z = own_pkL (p6 &&& (4 : Int32)) q4 := ⟨_, rfl⟩
  have sg3 : ∀ t, Steps p.tables e below (s₁.setTop (mkF m 41 #[.val (.int p1), .val (.long q2), .second, .val (.int p3), .val (.long q4), .second, .val (.long q5), .second, .val (.int p6), .val (.long dd), .second, .val (.int mm), .unset, .unset, .unset, .unset, .unset, .unset] [(.long ss)])) t → Steps p.tables e below (s₁.setTop (mkF m 28 #[.val (.int p1), .val (.long q2), .second, .val (.int p3), .val (.long q4), .second, .val (.long q5), .second, .val (.int p6), .val (.long dd), .second, .val (.int mm), .unset, .unset, .unset, .unset, .unset, .unset] [])) t := by
    intro t K
    show Steps p.tables e below (s₁.setTop (mkF m 28 #[.val (.int p1), .val (.long q2), .second, .val (.int p3), .val (.long q4), .second, .val (.long q5), .second, .val (.int p6), .val (.long dd), .second, .val (.int mm), .unset, .unset, .unset, .unset, .unset, .unset] [])) _
    refine XS.iload X0.here hx rfl (hb hby at_28) rfl ?_
    show Steps p.tables e below (s₁.setTop (mkF m 30 #[.val (.int p1), .val (.long q2), .second, .val (.int p3), .val (.long q4), .second, .val (.long q5), .second, .val (.int p6), .val (.long dd), .second, .val (.int mm), .unset, .unset, .unset, .unset, .unset, .unset] [(.int p6)])) _
    refine XS.iconst X0.here hx rfl (hb hby at_30) ?_
    show Steps p.tables e below (s₁.setTop (mkF m 31 #[.val (.int p1), .val (.long q2), .second, .val (.int p3), .val (.long q4), .second, .val (.long q5), .second, .val (.int p6), .val (.long dd), .second, .val (.int mm), .unset, .unset, .unset, .unset, .unset, .unset] [(.int (4 : Int32)), (.int p6)])) _
    refine XS.iand X0.here hx rfl (hb hby at_31) rfl ?_
    by_cases hc32 : (p6 &&& (4 : Int32)) = (0 : Int32)
    · show Steps p.tables e below (s₁.setTop (mkF m 32 #[.val (.int p1), .val (.long q2), .second, .val (.int p3), .val (.long q4), .second, .val (.long q5), .second, .val (.int p6), .val (.long dd), .second, .val (.int mm), .unset, .unset, .unset, .unset, .unset, .unset] [(.int (p6 &&& (4 : Int32)))])) _
      refine XS.ifYes X0.here hx rfl (pc0 := 32) (pc' := 39) rfl (hb hby at_32) rfl ((if0 _ _).trans (teq hc32).1) (by decide) (by decide) ?_
      show Steps p.tables e below (s₁.setTop (mkF m 39 #[.val (.int p1), .val (.long q2), .second, .val (.int p3), .val (.long q4), .second, .val (.long q5), .second, .val (.int p6), .val (.long dd), .second, .val (.int mm), .unset, .unset, .unset, .unset, .unset, .unset] [])) _
      refine XS.lload X0.here hx rfl (hb hby at_39) rfl ?_
      show Steps p.tables e below (s₁.setTop (mkF m 41 #[.val (.int p1), .val (.long q2), .second, .val (.int p3), .val (.long q4), .second, .val (.long q5), .second, .val (.int p6), .val (.long dd), .second, .val (.int mm), .unset, .unset, .unset, .unset, .unset, .unset] [(.long q4)])) _
      have qss : ss = q4 := by rw [hss]; simp only [own_pkL, if_pos, if_neg, hc32, not_false_eq_true]
      rw [qss] at K
      exact K
    · show Steps p.tables e below (s₁.setTop (mkF m 32 #[.val (.int p1), .val (.long q2), .second, .val (.int p3), .val (.long q4), .second, .val (.long q5), .second, .val (.int p6), .val (.long dd), .second, .val (.int mm), .unset, .unset, .unset, .unset, .unset, .unset] [(.int (p6 &&& (4 : Int32)))])) _
      refine XS.ifNo X0.here hx rfl (hb hby at_32) rfl ((if0 _ _).trans (feq hc32).1) ?_
      show Steps p.tables e below (s₁.setTop (mkF m 35 #[.val (.int p1), .val (.long q2), .second, .val (.int p3), .val (.long q4), .second, .val (.long q5), .second, .val (.int p6), .val (.long dd), .second, .val (.int mm), .unset, .unset, .unset, .unset, .unset, .unset] [])) _
      refine XS.lconst X0.here hx rfl (hb hby at_35) ?_
      show Steps p.tables e below (s₁.setTop (mkF m 36 #[.val (.int p1), .val (.long q2), .second, .val (.int p3), .val (.long q4), .second, .val (.long q5), .second, .val (.int p6), .val (.long dd), .second, .val (.int mm), .unset, .unset, .unset, .unset, .unset, .unset] [(.long (0 : Int64))])) _
      refine XS.goto X0.here hx rfl (pc0 := 36) (pc' := 41) rfl (hb hby at_36) (by decide) (by decide) ?_
      show Steps p.tables e below (s₁.setTop (mkF m 41 #[.val (.int p1), .val (.long q2), .second, .val (.int p3), .val (.long q4), .second, .val (.long q5), .second, .val (.int p6), .val (.long dd), .second, .val (.int mm), .unset, .unset, .unset, .unset, .unset, .unset] [(.long (0 : Int64))])) _
      have qss : ss = (0 : Int64) := by rw [hss]; simp only [own_pkL, if_pos, if_neg, hc32, not_false_eq_true]
      rw [qss] at K
      exact K
  obtain ⟨T4, h4, X4, e4, E4, A4, D4, -, st4⟩ := newO X0 hx hZ hown (hw _ (List.mem_of_getElem? (i := 1) rfl)) (hw _ (List.mem_of_getElem? (i := 2) rfl)) (hw _ (List.mem_of_getElem? (i := 3) rfl)) e0 (g := (mkF m 54 #[.val (.int p1), .val (.long q2), .second, .val (.int p3), .val (.long q4), .second, .val (.long q5), .second, .val (.int p6), .val (.long dd), .second, .val (.int mm), .val (.long ss), .second, .val (.long (((p1.toInt64) * (1000 : Int64)) + dd)), .second, .unset, .unset] [])) rfl (hb hby at_54) (by decide) (by decide)
  obtain ⟨b4, g4⟩ : ∃ z, z = h0.size := ⟨_, rfl⟩
  rw [← g4] at A4 D4 st4
  have F4_accounts : Fld Z h4 b4 "com/example/mortise_kv/mortisekv/cli/Audit" "accounts" "I" (.int (0 : Int32)) := D4 (Or.inr (hw _ (List.mem_of_getElem? (i := 16) rfl))) (ty := .int) (by decide)
  have F4_total : Fld Z h4 b4 "com/example/mortise_kv/mortisekv/cli/Audit" "total" "J" (.long (0 : Int64)) := D4 (Or.inr (hw _ (List.mem_of_getElem? (i := 18) rfl))) (ty := .long) (by decide)
  have F4_entries : Fld Z h4 b4 "com/example/mortise_kv/mortisekv/cli/Audit" "entries" "J" (.long (0 : Int64)) := D4 (Or.inr (hw _ (List.mem_of_getElem? (i := 20) rfl))) (ty := .long) (by decide)
  have F4_mismatched : Fld Z h4 b4 "com/example/mortise_kv/mortisekv/cli/Audit" "mismatched" "I" (.int (0 : Int32)) := D4 (Or.inr (hw _ (List.mem_of_getElem? (i := 22) rfl))) (ty := .int) (by decide)
  have F4_acknowledged : Fld Z h4 b4 "com/example/mortise_kv/mortisekv/cli/Audit" "acknowledged" "J" (.long (0 : Int64)) := D4 (Or.inr (hw _ (List.mem_of_getElem? (i := 24) rfl))) (ty := .long) (by decide)
  have F4_missing : Fld Z h4 b4 "com/example/mortise_kv/mortisekv/cli/Audit" "missing" "J" (.long (0 : Int64)) := D4 (Or.inr (hw _ (List.mem_of_getElem? (i := 26) rfl))) (ty := .long) (by decide)
  have F4_holes : Fld Z h4 b4 "com/example/mortise_kv/mortisekv/cli/Audit" "holes" "J" (.long (0 : Int64)) := D4 (Or.inr (hw _ (List.mem_of_getElem? (i := 28) rfl))) (ty := .long) (by decide)
  have g_b4 : n0 ≤ b4 := Nat.le_trans Z0 (Nat.le_of_eq g4.symm)
  have Z4 : n0 ≤ h4.size := Nat.le_trans Z0 E4.1
  have K4 : Keep h0 h4 [] := (Keep.refl h0 []).ext E4
  obtain ⟨_, _, ⟨T5, L5, k5, n5⟩, -, X5, ⟨Lc5, hQ5, l5, y5, z5⟩, st5⟩ := X4.specialBack hx (y := (⟨"com/example/mortise_kv/mortisekv/cli/Audit", "<init>", "(IJJIJJJ)V"⟩ : MethodName)) rfl hown (mvT hZ (hw _ (List.mem_of_getElem? (i := 4) rfl))) (mvT hZ (hw _ (List.mem_of_getElem? (i := 5) rfl))) (mvT hZ (hw _ (List.mem_of_getElem? (i := 6) rfl))) (by decide) (backOf (W := 1) (own_rm2 l Z a0 hw [] b4 p1 (((p1.toInt64) * (1000 : Int64)) + dd) q5 mm (q5 ^^^ (p6.toInt64)) ss ((q5.toUInt64 >>> ((1 : Int32) &&& 0x3f).toInt64.toUInt64).toInt64) (.int (0 : Int32)) (.long (0 : Int64)) (.long (0 : Int64)) (.int (0 : Int32)) (.long (0 : Int64)) (.long (0 : Int64)) (.long (0 : Int64)) h4 n0 Z4 g_b4 A4 F4_accounts F4_total F4_entries F4_mismatched F4_acknowledged F4_missing F4_holes) hZ (hw _ (List.mem_of_getElem? (i := 6) rfl)) (hw _ (List.mem_of_getElem? (i := 3) rfl)) (by decide) (by decide)) (g := (mkF m 77 #[.val (.int p1), .val (.long q2), .second, .val (.int p3), .val (.long q4), .second, .val (.long q5), .second, .val (.int p6), .val (.long dd), .second, .val (.int mm), .val (.long ss), .second, .val (.long (((p1.toInt64) * (1000 : Int64)) + dd)), .second, .unset, .unset] [(.long ((q5.toUInt64 >>> ((1 : Int32) &&& 0x3f).toInt64.toUInt64).toInt64)), (.long ss), (.long (q5 ^^^ (p6.toInt64))), (.int mm), (.long q5), (.long (((p1.toInt64) * (1000 : Int64)) + dd)), (.int p1), (.ref b4), (.ref b4)])) rfl (by rw [hml]; rfl) (Steps.refl _) (a := b4) (argsL := [(.int p1), (.long (((p1.toInt64) * (1000 : Int64)) + dd)), (.long q5), (.int mm), (.long (q5 ^^^ (p6.toInt64))), (.long ss), (.long ((q5.toUInt64 >>> ((1 : Int32) &&& 0x3f).toInt64.toUInt64).toInt64))]) (rest := [(.ref b4)]) (lenOf own_pd2 rfl) rfl (by show 2 * 0 + _ ≤ _; exact Nat.le_of_eq rfl) (hb hby at_77) (fun _ _ => ⟨rfl, e4, (by decide : 1 + 0 ≤ _), (by decide : 7 + 0 ≤ _)⟩)
  dsimp only [Pt.U, Pt.locs, Pt.cells, Pt.slots] at X5 l5 y5 z5 st5 hQ5
  subst l5 y5 z5
  obtain ⟨rfl, N5q, Kc5, Ec5, Fc5_accounts, Fc5_total, Fc5_entries, Fc5_mismatched, Fc5_acknowledged, Fc5_missing, Fc5_holes⟩ := hQ5
  have N5 := Fr.app N0 N5q
  have Z5 : n0 ≤ T5.heap.size := Nat.le_trans Z4 Kc5.1
  obtain ⟨ex, hex⟩ : ∃ z : Int32, z = own_ex dd mm ss := ⟨_, rfl⟩
  have sg6 : ∀ t, Steps p.tables e below (T5.setTop (mkF m 106 #[.val (.int p1), .val (.long q2), .second, .val (.int p3), .val (.long q4), .second, .val (.long q5), .second, .val (.int p6), .val (.long dd), .second, .val (.int mm), .val (.long ss), .second, .val (.long (((p1.toInt64) * (1000 : Int64)) + dd)), .second, .val (.ref b4), .unset] [(.int ex)])) t → Steps p.tables e below (T5.setTop (mkF m 82 #[.val (.int p1), .val (.long q2), .second, .val (.int p3), .val (.long q4), .second, .val (.long q5), .second, .val (.int p6), .val (.long dd), .second, .val (.int mm), .val (.long ss), .second, .val (.long (((p1.toInt64) * (1000 : Int64)) + dd)), .second, .val (.ref b4), .unset] [])) t := by
    intro t K
    show Steps p.tables e below (T5.setTop (mkF m 82 #[.val (.int p1), .val (.long q2), .second, .val (.int p3), .val (.long q4), .second, .val (.long q5), .second, .val (.int p6), .val (.long dd), .second, .val (.int mm), .val (.long ss), .second, .val (.long (((p1.toInt64) * (1000 : Int64)) + dd)), .second, .val (.ref b4), .unset] [])) _
    refine XS.lload X5.here hx rfl (hb hby at_82) rfl ?_
    show Steps p.tables e below (T5.setTop (mkF m 84 #[.val (.int p1), .val (.long q2), .second, .val (.int p3), .val (.long q4), .second, .val (.long q5), .second, .val (.int p6), .val (.long dd), .second, .val (.int mm), .val (.long ss), .second, .val (.long (((p1.toInt64) * (1000 : Int64)) + dd)), .second, .val (.ref b4), .unset] [(.long dd)])) _
    refine XS.lconst X5.here hx rfl (hb hby at_84) ?_
    show Steps p.tables e below (T5.setTop (mkF m 85 #[.val (.int p1), .val (.long q2), .second, .val (.int p3), .val (.long q4), .second, .val (.long q5), .second, .val (.int p6), .val (.long dd), .second, .val (.int mm), .val (.long ss), .second, .val (.long (((p1.toInt64) * (1000 : Int64)) + dd)), .second, .val (.ref b4), .unset] [(.long (0 : Int64)), (.long dd)])) _
    refine XS.lcmp X5.here hx rfl (hb hby at_85) rfl ?_
    by_cases hc86 : (lcmpW dd (0 : Int64)) = (0 : Int32)
    · show Steps p.tables e below (T5.setTop (mkF m 86 #[.val (.int p1), .val (.long q2), .second, .val (.int p3), .val (.long q4), .second, .val (.long q5), .second, .val (.int p6), .val (.long dd), .second, .val (.int mm), .val (.long ss), .second, .val (.long (((p1.toInt64) * (1000 : Int64)) + dd)), .second, .val (.ref b4), .unset] [(.int (lcmpW dd (0 : Int64)))])) _
      refine XS.ifNo X5.here hx rfl (hb hby at_86) rfl ((if0 _ _).trans (teq hc86).2) ?_
      show Steps p.tables e below (T5.setTop (mkF m 89 #[.val (.int p1), .val (.long q2), .second, .val (.int p3), .val (.long q4), .second, .val (.long q5), .second, .val (.int p6), .val (.long dd), .second, .val (.int mm), .val (.long ss), .second, .val (.long (((p1.toInt64) * (1000 : Int64)) + dd)), .second, .val (.ref b4), .unset] [])) _
      refine XS.iload X5.here hx rfl (hb hby at_89) rfl ?_
      by_cases hc91 : mm = (0 : Int32)
      · show Steps p.tables e below (T5.setTop (mkF m 91 #[.val (.int p1), .val (.long q2), .second, .val (.int p3), .val (.long q4), .second, .val (.long q5), .second, .val (.int p6), .val (.long dd), .second, .val (.int mm), .val (.long ss), .second, .val (.long (((p1.toInt64) * (1000 : Int64)) + dd)), .second, .val (.ref b4), .unset] [(.int mm)])) _
        refine XS.ifNo X5.here hx rfl (hb hby at_91) rfl ((if0 _ _).trans (teq hc91).2) ?_
        show Steps p.tables e below (T5.setTop (mkF m 94 #[.val (.int p1), .val (.long q2), .second, .val (.int p3), .val (.long q4), .second, .val (.long q5), .second, .val (.int p6), .val (.long dd), .second, .val (.int mm), .val (.long ss), .second, .val (.long (((p1.toInt64) * (1000 : Int64)) + dd)), .second, .val (.ref b4), .unset] [])) _
        refine XS.lload X5.here hx rfl (hb hby at_94) rfl ?_
        show Steps p.tables e below (T5.setTop (mkF m 96 #[.val (.int p1), .val (.long q2), .second, .val (.int p3), .val (.long q4), .second, .val (.long q5), .second, .val (.int p6), .val (.long dd), .second, .val (.int mm), .val (.long ss), .second, .val (.long (((p1.toInt64) * (1000 : Int64)) + dd)), .second, .val (.ref b4), .unset] [(.long ss)])) _
        refine XS.lconst X5.here hx rfl (hb hby at_96) ?_
        show Steps p.tables e below (T5.setTop (mkF m 97 #[.val (.int p1), .val (.long q2), .second, .val (.int p3), .val (.long q4), .second, .val (.long q5), .second, .val (.int p6), .val (.long dd), .second, .val (.int mm), .val (.long ss), .second, .val (.long (((p1.toInt64) * (1000 : Int64)) + dd)), .second, .val (.ref b4), .unset] [(.long (0 : Int64)), (.long ss)])) _
        refine XS.lcmp X5.here hx rfl (hb hby at_97) rfl ?_
        by_cases hc98 : (lcmpW ss (0 : Int64)) = (0 : Int32)
        · show Steps p.tables e below (T5.setTop (mkF m 98 #[.val (.int p1), .val (.long q2), .second, .val (.int p3), .val (.long q4), .second, .val (.long q5), .second, .val (.int p6), .val (.long dd), .second, .val (.int mm), .val (.long ss), .second, .val (.long (((p1.toInt64) * (1000 : Int64)) + dd)), .second, .val (.ref b4), .unset] [(.int (lcmpW ss (0 : Int64)))])) _
          refine XS.ifNo X5.here hx rfl (hb hby at_98) rfl ((if0 _ _).trans (teq hc98).2) ?_
          show Steps p.tables e below (T5.setTop (mkF m 101 #[.val (.int p1), .val (.long q2), .second, .val (.int p3), .val (.long q4), .second, .val (.long q5), .second, .val (.int p6), .val (.long dd), .second, .val (.int mm), .val (.long ss), .second, .val (.long (((p1.toInt64) * (1000 : Int64)) + dd)), .second, .val (.ref b4), .unset] [])) _
          refine XS.iconst X5.here hx rfl (hb hby at_101) ?_
          show Steps p.tables e below (T5.setTop (mkF m 102 #[.val (.int p1), .val (.long q2), .second, .val (.int p3), .val (.long q4), .second, .val (.long q5), .second, .val (.int p6), .val (.long dd), .second, .val (.int mm), .val (.long ss), .second, .val (.long (((p1.toInt64) * (1000 : Int64)) + dd)), .second, .val (.ref b4), .unset] [(.int (1 : Int32))])) _
          refine XS.goto X5.here hx rfl (pc0 := 102) (pc' := 106) rfl (hb hby at_102) (by decide) (by decide) ?_
          show Steps p.tables e below (T5.setTop (mkF m 106 #[.val (.int p1), .val (.long q2), .second, .val (.int p3), .val (.long q4), .second, .val (.long q5), .second, .val (.int p6), .val (.long dd), .second, .val (.int mm), .val (.long ss), .second, .val (.long (((p1.toInt64) * (1000 : Int64)) + dd)), .second, .val (.ref b4), .unset] [(.int (1 : Int32))])) _
          have qex : ex = (1 : Int32) := by rw [hex]; simp only [own_ex, if_pos, if_neg, hc86, hc91, hc98, not_false_eq_true]
          rw [qex] at K
          exact K
        · show Steps p.tables e below (T5.setTop (mkF m 98 #[.val (.int p1), .val (.long q2), .second, .val (.int p3), .val (.long q4), .second, .val (.long q5), .second, .val (.int p6), .val (.long dd), .second, .val (.int mm), .val (.long ss), .second, .val (.long (((p1.toInt64) * (1000 : Int64)) + dd)), .second, .val (.ref b4), .unset] [(.int (lcmpW ss (0 : Int64)))])) _
          refine XS.ifYes X5.here hx rfl (pc0 := 98) (pc' := 105) rfl (hb hby at_98) rfl ((if0 _ _).trans (feq hc98).2) (by decide) (by decide) ?_
          show Steps p.tables e below (T5.setTop (mkF m 105 #[.val (.int p1), .val (.long q2), .second, .val (.int p3), .val (.long q4), .second, .val (.long q5), .second, .val (.int p6), .val (.long dd), .second, .val (.int mm), .val (.long ss), .second, .val (.long (((p1.toInt64) * (1000 : Int64)) + dd)), .second, .val (.ref b4), .unset] [])) _
          refine XS.iconst X5.here hx rfl (hb hby at_105) ?_
          show Steps p.tables e below (T5.setTop (mkF m 106 #[.val (.int p1), .val (.long q2), .second, .val (.int p3), .val (.long q4), .second, .val (.long q5), .second, .val (.int p6), .val (.long dd), .second, .val (.int mm), .val (.long ss), .second, .val (.long (((p1.toInt64) * (1000 : Int64)) + dd)), .second, .val (.ref b4), .unset] [(.int (0 : Int32))])) _
          have qex : ex = (0 : Int32) := by rw [hex]; simp only [own_ex, if_pos, if_neg, hc86, hc91, hc98, not_false_eq_true]
          rw [qex] at K
          exact K
      · show Steps p.tables e below (T5.setTop (mkF m 91 #[.val (.int p1), .val (.long q2), .second, .val (.int p3), .val (.long q4), .second, .val (.long q5), .second, .val (.int p6), .val (.long dd), .second, .val (.int mm), .val (.long ss), .second, .val (.long (((p1.toInt64) * (1000 : Int64)) + dd)), .second, .val (.ref b4), .unset] [(.int mm)])) _
        refine XS.ifYes X5.here hx rfl (pc0 := 91) (pc' := 105) rfl (hb hby at_91) rfl ((if0 _ _).trans (feq hc91).2) (by decide) (by decide) ?_
        show Steps p.tables e below (T5.setTop (mkF m 105 #[.val (.int p1), .val (.long q2), .second, .val (.int p3), .val (.long q4), .second, .val (.long q5), .second, .val (.int p6), .val (.long dd), .second, .val (.int mm), .val (.long ss), .second, .val (.long (((p1.toInt64) * (1000 : Int64)) + dd)), .second, .val (.ref b4), .unset] [])) _
        refine XS.iconst X5.here hx rfl (hb hby at_105) ?_
        show Steps p.tables e below (T5.setTop (mkF m 106 #[.val (.int p1), .val (.long q2), .second, .val (.int p3), .val (.long q4), .second, .val (.long q5), .second, .val (.int p6), .val (.long dd), .second, .val (.int mm), .val (.long ss), .second, .val (.long (((p1.toInt64) * (1000 : Int64)) + dd)), .second, .val (.ref b4), .unset] [(.int (0 : Int32))])) _
        have qex : ex = (0 : Int32) := by rw [hex]; simp only [own_ex, if_pos, if_neg, hc86, hc91, not_false_eq_true]
        rw [qex] at K
        exact K
    · show Steps p.tables e below (T5.setTop (mkF m 86 #[.val (.int p1), .val (.long q2), .second, .val (.int p3), .val (.long q4), .second, .val (.long q5), .second, .val (.int p6), .val (.long dd), .second, .val (.int mm), .val (.long ss), .second, .val (.long (((p1.toInt64) * (1000 : Int64)) + dd)), .second, .val (.ref b4), .unset] [(.int (lcmpW dd (0 : Int64)))])) _
      refine XS.ifYes X5.here hx rfl (pc0 := 86) (pc' := 105) rfl (hb hby at_86) rfl ((if0 _ _).trans (feq hc86).2) (by decide) (by decide) ?_
      show Steps p.tables e below (T5.setTop (mkF m 105 #[.val (.int p1), .val (.long q2), .second, .val (.int p3), .val (.long q4), .second, .val (.long q5), .second, .val (.int p6), .val (.long dd), .second, .val (.int mm), .val (.long ss), .second, .val (.long (((p1.toInt64) * (1000 : Int64)) + dd)), .second, .val (.ref b4), .unset] [])) _
      refine XS.iconst X5.here hx rfl (hb hby at_105) ?_
      show Steps p.tables e below (T5.setTop (mkF m 106 #[.val (.int p1), .val (.long q2), .second, .val (.int p3), .val (.long q4), .second, .val (.long q5), .second, .val (.int p6), .val (.long dd), .second, .val (.int mm), .val (.long ss), .second, .val (.long (((p1.toInt64) * (1000 : Int64)) + dd)), .second, .val (.ref b4), .unset] [(.int (0 : Int32))])) _
      have qex : ex = (0 : Int32) := by rw [hex]; simp only [own_ex, if_pos, if_neg, hc86, not_false_eq_true]
      rw [qex] at K
      exact K
  obtain ⟨cq7, kq7, q7a, q7b, q7c⟩ := isOf hZ rfl Ec5
  obtain ⟨_, _, ⟨T7, L7, k7, n7⟩, -, X7, ⟨Lc7, hQ7, l7, y7, z7⟩, st7⟩ := X5.virtualBack hx (y := (⟨"com/example/mortise_kv/mortisekv/cli/Audit", "passed", "()Z"⟩ : MethodName)) (z := (⟨"com/example/mortise_kv/mortisekv/cli/Audit", "passed", "()Z"⟩ : MethodName)) hown (mvT hZ (hw _ (List.mem_of_getElem? (i := 29) rfl))) (mvT hZ (hw _ (List.mem_of_getElem? (i := 30) rfl))) (notFace_of_selects (args := #[]) (mvT hZ (hw _ (List.mem_of_getElem? (i := 32) rfl)))) (mvT hZ (hw _ (List.mem_of_getElem? (i := 32) rfl))) (mvT hZ (hw _ (List.mem_of_getElem? (i := 31) rfl))) (by decide) (backOf (W := 0) (own_rm5 l Z a0 hw [] b4 p1 (p1.toInt64 * (1000 : Int64) + dd) mm ss T5.heap n0 Z5 Ec5 Fc5_accounts Fc5_total Fc5_mismatched Fc5_missing) hZ (hw _ (List.mem_of_getElem? (i := 33) rfl)) (hw _ (List.mem_of_getElem? (i := 3) rfl)) (by decide) (by decide)) q7a q7c (g := (mkF m 110 #[.val (.int p1), .val (.long q2), .second, .val (.int p3), .val (.long q4), .second, .val (.long q5), .second, .val (.int p6), .val (.long dd), .second, .val (.int mm), .val (.long ss), .second, .val (.long (((p1.toInt64) * (1000 : Int64)) + dd)), .second, .val (.ref b4), .val (.int ex)] [(.ref b4)])) rfl (by rw [hml]; rfl) (Steps.refl _) (argsL := []) (rest := []) (lenOf own_pd3 rfl) rfl (by show 2 * 0 + _ ≤ _; exact Nat.le_of_eq rfl) (hb hby at_110) (fun _ _ => ⟨rfl, rfl, (by decide : 1 + 0 ≤ _), (by decide : 7 + 0 ≤ _)⟩)
  dsimp only [Pt.U, Pt.locs, Pt.cells, Pt.slots] at X7 l7 y7 z7 st7 hQ7
  subst l7 y7 z7
  obtain ⟨rfl, N7q, e7⟩ := hQ7
  have N7 := Fr.app N5 N7q
  obtain ⟨fs, hr, hrun, hended, hW, hsame⟩ := X7.leave (v := some (.int (1 : Int32))) (fun h => by rw [Bd.returns] at h; cases h)
  refine ⟨_, _, pre0 _ ?_, hrun, hended, _, _, rfl, ?_, ⟨_, rfl⟩, hW, hsame.mono (by decide) (by decide)⟩
  · show Steps p.tables e below (s₁.setTop (mkF m 0 #[.val (.int p1), .val (.long q2), .second, .val (.int p3), .val (.long q4), .second, .val (.long q5), .second, .val (.int p6), .unset, .unset, .unset, .unset, .unset, .unset, .unset, .unset, .unset] [])) _
    refine sg1 _ ?_
    show Steps p.tables e below (s₁.setTop (mkF m 12 #[.val (.int p1), .val (.long q2), .second, .val (.int p3), .val (.long q4), .second, .val (.long q5), .second, .val (.int p6), .unset, .unset, .unset, .unset, .unset, .unset, .unset, .unset, .unset] [(.long dd)])) _
    refine XS.lstore X0.here hx rfl (hb hby at_12) rfl (l' := #[.val (.int p1), .val (.long q2), .second, .val (.int p3), .val (.long q4), .second, .val (.long q5), .second, .val (.int p6), .val (.long dd), .second, .unset, .unset, .unset, .unset, .unset, .unset, .unset]) rfl ?_
    show Steps p.tables e below (s₁.setTop (mkF m 14 #[.val (.int p1), .val (.long q2), .second, .val (.int p3), .val (.long q4), .second, .val (.long q5), .second, .val (.int p6), .val (.long dd), .second, .unset, .unset, .unset, .unset, .unset, .unset, .unset] [])) _
    refine sg2 _ ?_
    show Steps p.tables e below (s₁.setTop (mkF m 26 #[.val (.int p1), .val (.long q2), .second, .val (.int p3), .val (.long q4), .second, .val (.long q5), .second, .val (.int p6), .val (.long dd), .second, .unset, .unset, .unset, .unset, .unset, .unset, .unset] [(.int mm)])) _
    refine XS.istore X0.here hx rfl (hb hby at_26) rfl (l' := #[.val (.int p1), .val (.long q2), .second, .val (.int p3), .val (.long q4), .second, .val (.long q5), .second, .val (.int p6), .val (.long dd), .second, .val (.int mm), .unset, .unset, .unset, .unset, .unset, .unset]) rfl ?_
    show Steps p.tables e below (s₁.setTop (mkF m 28 #[.val (.int p1), .val (.long q2), .second, .val (.int p3), .val (.long q4), .second, .val (.long q5), .second, .val (.int p6), .val (.long dd), .second, .val (.int mm), .unset, .unset, .unset, .unset, .unset, .unset] [])) _
    refine sg3 _ ?_
    show Steps p.tables e below (s₁.setTop (mkF m 41 #[.val (.int p1), .val (.long q2), .second, .val (.int p3), .val (.long q4), .second, .val (.long q5), .second, .val (.int p6), .val (.long dd), .second, .val (.int mm), .unset, .unset, .unset, .unset, .unset, .unset] [(.long ss)])) _
    refine XS.lstore X0.here hx rfl (hb hby at_41) rfl (l' := #[.val (.int p1), .val (.long q2), .second, .val (.int p3), .val (.long q4), .second, .val (.long q5), .second, .val (.int p6), .val (.long dd), .second, .val (.int mm), .val (.long ss), .second, .unset, .unset, .unset, .unset]) rfl ?_
    show Steps p.tables e below (s₁.setTop (mkF m 43 #[.val (.int p1), .val (.long q2), .second, .val (.int p3), .val (.long q4), .second, .val (.long q5), .second, .val (.int p6), .val (.long dd), .second, .val (.int mm), .val (.long ss), .second, .unset, .unset, .unset, .unset] [])) _
    refine XS.iloadN X0.here hx rfl (hb hby at_43) rfl ?_
    show Steps p.tables e below (s₁.setTop (mkF m 44 #[.val (.int p1), .val (.long q2), .second, .val (.int p3), .val (.long q4), .second, .val (.long q5), .second, .val (.int p6), .val (.long dd), .second, .val (.int mm), .val (.long ss), .second, .unset, .unset, .unset, .unset] [(.int p1)])) _
    refine XS.i2l X0.here hx rfl (hb hby at_44) rfl ?_
    show Steps p.tables e below (s₁.setTop (mkF m 45 #[.val (.int p1), .val (.long q2), .second, .val (.int p3), .val (.long q4), .second, .val (.long q5), .second, .val (.int p6), .val (.long dd), .second, .val (.int mm), .val (.long ss), .second, .unset, .unset, .unset, .unset] [(.long (p1.toInt64))])) _
    refine X0.ldc2Long hx hown (mvT hZ (hw _ (List.mem_of_getElem? (i := 0) rfl))) (g := (mkF m 45 #[.val (.int p1), .val (.long q2), .second, .val (.int p3), .val (.long q4), .second, .val (.long q5), .second, .val (.int p6), .val (.long dd), .second, .val (.int mm), .val (.long ss), .second, .unset, .unset, .unset, .unset] [(.long (p1.toInt64))])) rfl (hb hby at_45) _ ?_
    show Steps p.tables e below (s₁.setTop (mkF m 48 #[.val (.int p1), .val (.long q2), .second, .val (.int p3), .val (.long q4), .second, .val (.long q5), .second, .val (.int p6), .val (.long dd), .second, .val (.int mm), .val (.long ss), .second, .unset, .unset, .unset, .unset] [(.long (1000 : Int64)), (.long (p1.toInt64))])) _
    refine XS.lmul X0.here hx rfl (hb hby at_48) rfl ?_
    show Steps p.tables e below (s₁.setTop (mkF m 49 #[.val (.int p1), .val (.long q2), .second, .val (.int p3), .val (.long q4), .second, .val (.long q5), .second, .val (.int p6), .val (.long dd), .second, .val (.int mm), .val (.long ss), .second, .unset, .unset, .unset, .unset] [(.long ((p1.toInt64) * (1000 : Int64)))])) _
    refine XS.lload X0.here hx rfl (hb hby at_49) rfl ?_
    show Steps p.tables e below (s₁.setTop (mkF m 51 #[.val (.int p1), .val (.long q2), .second, .val (.int p3), .val (.long q4), .second, .val (.long q5), .second, .val (.int p6), .val (.long dd), .second, .val (.int mm), .val (.long ss), .second, .unset, .unset, .unset, .unset] [(.long dd), (.long ((p1.toInt64) * (1000 : Int64)))])) _
    refine XS.ladd X0.here hx rfl (hb hby at_51) rfl ?_
    show Steps p.tables e below (s₁.setTop (mkF m 52 #[.val (.int p1), .val (.long q2), .second, .val (.int p3), .val (.long q4), .second, .val (.long q5), .second, .val (.int p6), .val (.long dd), .second, .val (.int mm), .val (.long ss), .second, .unset, .unset, .unset, .unset] [(.long (((p1.toInt64) * (1000 : Int64)) + dd))])) _
    refine XS.lstore X0.here hx rfl (hb hby at_52) rfl (l' := #[.val (.int p1), .val (.long q2), .second, .val (.int p3), .val (.long q4), .second, .val (.long q5), .second, .val (.int p6), .val (.long dd), .second, .val (.int mm), .val (.long ss), .second, .val (.long (((p1.toInt64) * (1000 : Int64)) + dd)), .second, .unset, .unset]) rfl ?_
    show Steps p.tables e below (s₁.setTop (mkF m 54 #[.val (.int p1), .val (.long q2), .second, .val (.int p3), .val (.long q4), .second, .val (.long q5), .second, .val (.int p6), .val (.long dd), .second, .val (.int mm), .val (.long ss), .second, .val (.long (((p1.toInt64) * (1000 : Int64)) + dd)), .second, .unset, .unset] [])) _
    refine st4 _ ?_
    show Steps p.tables e below (T4.setTop (mkF m 57 #[.val (.int p1), .val (.long q2), .second, .val (.int p3), .val (.long q4), .second, .val (.long q5), .second, .val (.int p6), .val (.long dd), .second, .val (.int mm), .val (.long ss), .second, .val (.long (((p1.toInt64) * (1000 : Int64)) + dd)), .second, .unset, .unset] [(.ref b4)])) _
    refine XS.dup X4.here hx rfl (hb hby at_57) rfl rfl ?_
    show Steps p.tables e below (T4.setTop (mkF m 58 #[.val (.int p1), .val (.long q2), .second, .val (.int p3), .val (.long q4), .second, .val (.long q5), .second, .val (.int p6), .val (.long dd), .second, .val (.int mm), .val (.long ss), .second, .val (.long (((p1.toInt64) * (1000 : Int64)) + dd)), .second, .unset, .unset] [(.ref b4), (.ref b4)])) _
    refine XS.iloadN X4.here hx rfl (hb hby at_58) rfl ?_
    show Steps p.tables e below (T4.setTop (mkF m 59 #[.val (.int p1), .val (.long q2), .second, .val (.int p3), .val (.long q4), .second, .val (.long q5), .second, .val (.int p6), .val (.long dd), .second, .val (.int mm), .val (.long ss), .second, .val (.long (((p1.toInt64) * (1000 : Int64)) + dd)), .second, .unset, .unset] [(.int p1), (.ref b4), (.ref b4)])) _
    refine XS.lload X4.here hx rfl (hb hby at_59) rfl ?_
    show Steps p.tables e below (T4.setTop (mkF m 61 #[.val (.int p1), .val (.long q2), .second, .val (.int p3), .val (.long q4), .second, .val (.long q5), .second, .val (.int p6), .val (.long dd), .second, .val (.int mm), .val (.long ss), .second, .val (.long (((p1.toInt64) * (1000 : Int64)) + dd)), .second, .unset, .unset] [(.long (((p1.toInt64) * (1000 : Int64)) + dd)), (.int p1), (.ref b4), (.ref b4)])) _
    refine XS.lload X4.here hx rfl (hb hby at_61) rfl ?_
    show Steps p.tables e below (T4.setTop (mkF m 63 #[.val (.int p1), .val (.long q2), .second, .val (.int p3), .val (.long q4), .second, .val (.long q5), .second, .val (.int p6), .val (.long dd), .second, .val (.int mm), .val (.long ss), .second, .val (.long (((p1.toInt64) * (1000 : Int64)) + dd)), .second, .unset, .unset] [(.long q5), (.long (((p1.toInt64) * (1000 : Int64)) + dd)), (.int p1), (.ref b4), (.ref b4)])) _
    refine XS.iload X4.here hx rfl (hb hby at_63) rfl ?_
    show Steps p.tables e below (T4.setTop (mkF m 65 #[.val (.int p1), .val (.long q2), .second, .val (.int p3), .val (.long q4), .second, .val (.long q5), .second, .val (.int p6), .val (.long dd), .second, .val (.int mm), .val (.long ss), .second, .val (.long (((p1.toInt64) * (1000 : Int64)) + dd)), .second, .unset, .unset] [(.int mm), (.long q5), (.long (((p1.toInt64) * (1000 : Int64)) + dd)), (.int p1), (.ref b4), (.ref b4)])) _
    refine XS.lload X4.here hx rfl (hb hby at_65) rfl ?_
    show Steps p.tables e below (T4.setTop (mkF m 67 #[.val (.int p1), .val (.long q2), .second, .val (.int p3), .val (.long q4), .second, .val (.long q5), .second, .val (.int p6), .val (.long dd), .second, .val (.int mm), .val (.long ss), .second, .val (.long (((p1.toInt64) * (1000 : Int64)) + dd)), .second, .unset, .unset] [(.long q5), (.int mm), (.long q5), (.long (((p1.toInt64) * (1000 : Int64)) + dd)), (.int p1), (.ref b4), (.ref b4)])) _
    refine XS.iload X4.here hx rfl (hb hby at_67) rfl ?_
    show Steps p.tables e below (T4.setTop (mkF m 69 #[.val (.int p1), .val (.long q2), .second, .val (.int p3), .val (.long q4), .second, .val (.long q5), .second, .val (.int p6), .val (.long dd), .second, .val (.int mm), .val (.long ss), .second, .val (.long (((p1.toInt64) * (1000 : Int64)) + dd)), .second, .unset, .unset] [(.int p6), (.long q5), (.int mm), (.long q5), (.long (((p1.toInt64) * (1000 : Int64)) + dd)), (.int p1), (.ref b4), (.ref b4)])) _
    refine XS.i2l X4.here hx rfl (hb hby at_69) rfl ?_
    show Steps p.tables e below (T4.setTop (mkF m 70 #[.val (.int p1), .val (.long q2), .second, .val (.int p3), .val (.long q4), .second, .val (.long q5), .second, .val (.int p6), .val (.long dd), .second, .val (.int mm), .val (.long ss), .second, .val (.long (((p1.toInt64) * (1000 : Int64)) + dd)), .second, .unset, .unset] [(.long (p6.toInt64)), (.long q5), (.int mm), (.long q5), (.long (((p1.toInt64) * (1000 : Int64)) + dd)), (.int p1), (.ref b4), (.ref b4)])) _
    refine XS.lxor X4.here hx rfl (hb hby at_70) rfl ?_
    show Steps p.tables e below (T4.setTop (mkF m 71 #[.val (.int p1), .val (.long q2), .second, .val (.int p3), .val (.long q4), .second, .val (.long q5), .second, .val (.int p6), .val (.long dd), .second, .val (.int mm), .val (.long ss), .second, .val (.long (((p1.toInt64) * (1000 : Int64)) + dd)), .second, .unset, .unset] [(.long (q5 ^^^ (p6.toInt64))), (.int mm), (.long q5), (.long (((p1.toInt64) * (1000 : Int64)) + dd)), (.int p1), (.ref b4), (.ref b4)])) _
    refine XS.lload X4.here hx rfl (hb hby at_71) rfl ?_
    show Steps p.tables e below (T4.setTop (mkF m 73 #[.val (.int p1), .val (.long q2), .second, .val (.int p3), .val (.long q4), .second, .val (.long q5), .second, .val (.int p6), .val (.long dd), .second, .val (.int mm), .val (.long ss), .second, .val (.long (((p1.toInt64) * (1000 : Int64)) + dd)), .second, .unset, .unset] [(.long ss), (.long (q5 ^^^ (p6.toInt64))), (.int mm), (.long q5), (.long (((p1.toInt64) * (1000 : Int64)) + dd)), (.int p1), (.ref b4), (.ref b4)])) _
    refine XS.lload X4.here hx rfl (hb hby at_73) rfl ?_
    show Steps p.tables e below (T4.setTop (mkF m 75 #[.val (.int p1), .val (.long q2), .second, .val (.int p3), .val (.long q4), .second, .val (.long q5), .second, .val (.int p6), .val (.long dd), .second, .val (.int mm), .val (.long ss), .second, .val (.long (((p1.toInt64) * (1000 : Int64)) + dd)), .second, .unset, .unset] [(.long q5), (.long ss), (.long (q5 ^^^ (p6.toInt64))), (.int mm), (.long q5), (.long (((p1.toInt64) * (1000 : Int64)) + dd)), (.int p1), (.ref b4), (.ref b4)])) _
    refine XS.iconst X4.here hx rfl (hb hby at_75) ?_
    show Steps p.tables e below (T4.setTop (mkF m 76 #[.val (.int p1), .val (.long q2), .second, .val (.int p3), .val (.long q4), .second, .val (.long q5), .second, .val (.int p6), .val (.long dd), .second, .val (.int mm), .val (.long ss), .second, .val (.long (((p1.toInt64) * (1000 : Int64)) + dd)), .second, .unset, .unset] [(.int (1 : Int32)), (.long q5), (.long ss), (.long (q5 ^^^ (p6.toInt64))), (.int mm), (.long q5), (.long (((p1.toInt64) * (1000 : Int64)) + dd)), (.int p1), (.ref b4), (.ref b4)])) _
    refine XS.lushr X4.here hx rfl (hb hby at_76) rfl ?_
    show Steps p.tables e below (T4.setTop (mkF m 77 #[.val (.int p1), .val (.long q2), .second, .val (.int p3), .val (.long q4), .second, .val (.long q5), .second, .val (.int p6), .val (.long dd), .second, .val (.int mm), .val (.long ss), .second, .val (.long (((p1.toInt64) * (1000 : Int64)) + dd)), .second, .unset, .unset] [(.long ((q5.toUInt64 >>> ((1 : Int32) &&& 0x3f).toInt64.toUInt64).toInt64)), (.long ss), (.long (q5 ^^^ (p6.toInt64))), (.int mm), (.long q5), (.long (((p1.toInt64) * (1000 : Int64)) + dd)), (.int p1), (.ref b4), (.ref b4)])) _
    refine st5.trans ?_
    show Steps p.tables e below (T5.setTop (mkF m 80 #[.val (.int p1), .val (.long q2), .second, .val (.int p3), .val (.long q4), .second, .val (.long q5), .second, .val (.int p6), .val (.long dd), .second, .val (.int mm), .val (.long ss), .second, .val (.long (((p1.toInt64) * (1000 : Int64)) + dd)), .second, .unset, .unset] [(.ref b4)])) _
    refine XS.astore X5.here hx rfl (hb hby at_80) rfl rfl (l' := #[.val (.int p1), .val (.long q2), .second, .val (.int p3), .val (.long q4), .second, .val (.long q5), .second, .val (.int p6), .val (.long dd), .second, .val (.int mm), .val (.long ss), .second, .val (.long (((p1.toInt64) * (1000 : Int64)) + dd)), .second, .val (.ref b4), .unset]) rfl ?_
    show Steps p.tables e below (T5.setTop (mkF m 82 #[.val (.int p1), .val (.long q2), .second, .val (.int p3), .val (.long q4), .second, .val (.long q5), .second, .val (.int p6), .val (.long dd), .second, .val (.int mm), .val (.long ss), .second, .val (.long (((p1.toInt64) * (1000 : Int64)) + dd)), .second, .val (.ref b4), .unset] [])) _
    refine sg6 _ ?_
    show Steps p.tables e below (T5.setTop (mkF m 106 #[.val (.int p1), .val (.long q2), .second, .val (.int p3), .val (.long q4), .second, .val (.long q5), .second, .val (.int p6), .val (.long dd), .second, .val (.int mm), .val (.long ss), .second, .val (.long (((p1.toInt64) * (1000 : Int64)) + dd)), .second, .val (.ref b4), .unset] [(.int ex)])) _
    refine XS.istore X5.here hx rfl (hb hby at_106) rfl (l' := #[.val (.int p1), .val (.long q2), .second, .val (.int p3), .val (.long q4), .second, .val (.long q5), .second, .val (.int p6), .val (.long dd), .second, .val (.int mm), .val (.long ss), .second, .val (.long (((p1.toInt64) * (1000 : Int64)) + dd)), .second, .val (.ref b4), .val (.int ex)]) rfl ?_
    show Steps p.tables e below (T5.setTop (mkF m 108 #[.val (.int p1), .val (.long q2), .second, .val (.int p3), .val (.long q4), .second, .val (.long q5), .second, .val (.int p6), .val (.long dd), .second, .val (.int mm), .val (.long ss), .second, .val (.long (((p1.toInt64) * (1000 : Int64)) + dd)), .second, .val (.ref b4), .val (.int ex)] [])) _
    refine XS.aload X5.here hx rfl (hb hby at_108) rfl rfl ?_
    show Steps p.tables e below (T5.setTop (mkF m 110 #[.val (.int p1), .val (.long q2), .second, .val (.int p3), .val (.long q4), .second, .val (.long q5), .second, .val (.int p6), .val (.long dd), .second, .val (.int mm), .val (.long ss), .second, .val (.long (((p1.toInt64) * (1000 : Int64)) + dd)), .second, .val (.ref b4), .val (.int ex)] [(.ref b4)])) _
    refine st7.trans ?_
    show Steps p.tables e below (T7.setTop (mkF m 113 #[.val (.int p1), .val (.long q2), .second, .val (.int p3), .val (.long q4), .second, .val (.long q5), .second, .val (.int p6), .val (.long dd), .second, .val (.int mm), .val (.long ss), .second, .val (.long (((p1.toInt64) * (1000 : Int64)) + dd)), .second, .val (.ref b4), .val (.int ex)] [(.int (own_ps p1 (p1.toInt64 * (1000 : Int64) + dd) mm ss))])) _
    refine XS.iload X7.here hx rfl (hb hby at_113) rfl ?_
    show Steps p.tables e below (T7.setTop (mkF m 115 #[.val (.int p1), .val (.long q2), .second, .val (.int p3), .val (.long q4), .second, .val (.long q5), .second, .val (.int p6), .val (.long dd), .second, .val (.int mm), .val (.long ss), .second, .val (.long (((p1.toInt64) * (1000 : Int64)) + dd)), .second, .val (.ref b4), .val (.int ex)] [(.int ex), (.int (own_ps p1 (p1.toInt64 * (1000 : Int64) + dd) mm ss))])) _
    refine XS.icmpNo X7.here hx rfl (hb hby at_115) rfl (teq ((own_main p1 dd mm ss).trans hex.symm : (own_ps p1 (p1.toInt64 * (1000 : Int64) + dd) mm ss) = ex)).2 ?_
    show Steps p.tables e below (T7.setTop (mkF m 118 #[.val (.int p1), .val (.long q2), .second, .val (.int p3), .val (.long q4), .second, .val (.long q5), .second, .val (.int p6), .val (.long dd), .second, .val (.int mm), .val (.long ss), .second, .val (.long (((p1.toInt64) * (1000 : Int64)) + dd)), .second, .val (.ref b4), .val (.int ex)] [])) _
    refine XS.iconst X7.here hx rfl (hb hby at_118) ?_
    show Steps p.tables e below (T7.setTop (mkF m 119 #[.val (.int p1), .val (.long q2), .second, .val (.int p3), .val (.long q4), .second, .val (.long q5), .second, .val (.int p6), .val (.long dd), .second, .val (.int mm), .val (.long ss), .second, .val (.long (((p1.toInt64) * (1000 : Int64)) + dd)), .second, .val (.ref b4), .val (.int ex)] [(.int (1 : Int32))])) _
    refine XS.goto X7.here hx rfl (pc0 := 119) (pc' := 123) rfl (hb hby at_119) (by decide) (by decide) ?_
    show Steps p.tables e below (T7.setTop (mkF m 123 #[.val (.int p1), .val (.long q2), .second, .val (.int p3), .val (.long q4), .second, .val (.long q5), .second, .val (.int p6), .val (.long dd), .second, .val (.int mm), .val (.long ss), .second, .val (.long (((p1.toInt64) * (1000 : Int64)) + dd)), .second, .val (.ref b4), .val (.int ex)] [(.int (1 : Int32))])) _
    exact retN X7 hx (t := .boolean) Bd.returns (by simp) (hb hby at_123) hr
  · show own_Q0 Z p1 q2 p3 q4 q5 p6 h0 n0 _ T7.heap _
    rw [e7]
    exact ⟨rfl, N7⟩
set_option maxRecDepth 65536 in
set_option maxHeartbeats 40000000 in
theorem own_comes {Post : Tables → Env → Array Value → State → Outcome → State → Prop} (hpost : ∀ tb e args s v u, (limb_1_1.after args s (.returned v) u = true ∧ limb_1_2.after args s (.returned v) u = true ∧ True) → FrameEnd s (.returned v) u (Jvm.fieldLocs frame_1_writes args s ++ Jvm.arrayLocs frame_1_arrays args s ++ Jvm.staticLocs frame_1_statics s) 16 128 → Post tb e args s (.returned v) u) :
    ArmFor flags0 classFile x code maxLocals ret World_1 tables_1 room_1 Calls_1 rest_1 Pre_1 Post := by
  intro l hfl _ _ p e ha hc hk s m args below hf hA hF happ hP
  obtain ⟨hcalls, hrest, hpre⟩ := hP
  obtain ⟨-, -, -, hnamed, -, -, -, hat⟩ := (Spec.applies_iff hf).mp happ
  obtain ⟨hg, hn⟩ := and_e (Cond.before_iff.mp (show (Jvm.Cond.and given_1 narrow_1).before args s = true from hpre))
  obtain ⟨hcount, k0⟩ := and_e hg
  obtain ⟨g0, k1⟩ := and_e k0
  obtain ⟨g1, k2⟩ := and_e k1
  obtain ⟨g2, k3⟩ := and_e k2
  obtain ⟨g3, k4⟩ := and_e k3
  obtain ⟨g4, k5⟩ := and_e k4
  obtain ⟨w0, w1, w2, w3, w4, w5, rfl⟩ : ∃ w0 w1 w2 w3 w4 w5 : Value, args = #[w0, w1, w2, w3, w4, w5] := by
    have hs : args.size = 6 := by simpa [Cond.value, given_1] using hcount
    obtain ⟨L⟩ := args
    match L, hs with
    | [w0, w1, w2, w3, w4, w5], _ => exact ⟨w0, w1, w2, w3, w4, w5, rfl⟩
  have hw := fun d (hd : d ∈ tables_1) => atoms_spec (ws := Jvm.Cond.code x code maxLocals ret :: tables_1) hat d (List.mem_cons_of_mem _ hd)
  obtain ⟨i0, ei0⟩ := is_v g0
  obtain rfl : w0 = (.int i0) := Option.some.inj ei0
  obtain ⟨i1, ei1⟩ := isL_v g1
  obtain rfl : w1 = (.long i1) := Option.some.inj ei1
  obtain ⟨i2, ei2⟩ := is_v g2
  obtain rfl : w2 = (.int i2) := Option.some.inj ei2
  obtain ⟨i3, ei3⟩ := isL_v g3
  obtain rfl : w3 = (.long i3) := Option.some.inj ei3
  obtain ⟨i4, ei4⟩ := isL_v g4
  obtain rfl : w4 = (.long i4) := Option.some.inj ei4
  obtain ⟨i5, ei5⟩ := is_v k5
  obtain rfl : w5 = (.int i5) := Option.some.inj ei5
  obtain ⟨n, o, h1, h2, h3, _, L, rfl, ⟨rfl, N⟩, hq⟩ := own_rm0 l s _ hw tables_1 i0 i1 i2 i3 i4 i5 s.heap s.heap.size (Nat.le_refl _) p e ha hc hk s m _ below hf ((Spec.applies_iff_loose hf).mp happ).1 ⟨rfl, State.Warmed39.refl s, rfl⟩ trivial
  refine ⟨n, _, h1, h2, h3, hpost _ _ _ _ _ _ ⟨Cond.after_iff.mpr rfl, Cond.after_iff.mpr (eq_i res_at (Term.int_eval (1)) rfl), trivial⟩ ⟨hq.1, hq.2.1, (hq.2.2.sift fun y hy => Or.inr (N y hy)).mono (by decide) (by decide)⟩⟩
theorem main_1_1 : Claimed_1_1 := own_comes fun _ _ _ _ _ _ h hF => ⟨h.1, hF⟩
theorem main_1_2 : Claimed_1_2 := own_comes fun _ _ _ _ _ _ h hF => ⟨h.2.1, hF⟩
end Jvm.Pilot.@@N@@
namespace Jvm.Pilot.@@N@@
open Jvm Jvm.ClassFile Sem Op Lib Jvm.Free Jvm.Stand Jvm.Pilot.@@N@@.Jvm.D
/-! MADE BY PROGRAM (witnessworld.py) out of the Statement's table words and the real class files: 10 classes; the members and pool entries that the words name. The judged class is class 1, her method 1. -/
namespace start1
open Jvm.ClassFile
def u (s : String) : CpInfo := .utf8 (stringToUtf16 s)
/-- a pool by its gaps: so many unusable entries, then the entry; so many at the end -/
def gap : Nat → List CpInfo → List CpInfo
  | 0, r => r
  | n + 1, r => .unusable :: gap n r
def poolList (es : List (Nat × CpInfo)) (last : Nat) : List CpInfo := es.foldr (fun e r => gap e.1 (e.2 :: r)) (gap last [])
def pool (es : List (Nat × CpInfo)) (last : Nat) : Array CpInfo := ⟨poolList es last⟩
def fileOf (pool : Array CpInfo) (this : Nat) (attrs : Array Attribute := #[]) (ms : Array MethodInfo := #[]) (fl : Nat := 33) (sup : Nat := 0) (ifs : Array Nat := #[]) (fds : Array FieldInfo := #[]) : ClassFile where
  minorVersion := 0
  majorVersion := 65
  constantPool := pool
  accessFlags := fl
  thisClass := this
  superClass := sup
  interfaces := ifs
  fields := fds
  methods := ms
  attributes := attrs
def plain (name : String) (sup : Option ClassId) : Class where
  name := name
  kind := .ordinary
  loader := none
  accessFlags := 33
  super := sup
  interfaces := #[]
  cf := none
  fields := #[]
  methods := #[]
  instanceTypes := #[]
  staticTypes := #[]
  resolved := #[]
  callSites := []
  init := .initialized
  statics := none
  mirror := none

def pool0 : Array CpInfo := pool [(5, u "<init>"), (0, u "()V"), (1, .class_ 10), (1, u "java/lang/Object")] 113

def k0c0 : Code := { maxStack := 0, maxLocals := 1, code := object_method_1_code, exceptionTable := #[], attributes := #[] }
def k0m0 : Method := { name := "<init>", desc := "()V", sig := { parameters := [], returnType := none }, accessFlags := 1, code := some k0c0 }
/-- java/lang/Object -/
def k0 : Class := { plain "java/lang/Object" none with
  accessFlags := 33
  interfaces := #[]
  cf := some (fileOf pool0 8 #[] #[{ accessFlags := 1, nameIndex := 5, descriptorIndex := 6, attributes := #[] }] 33 0 #[] #[])
  fields := #[]
  methods := #[k0m0]
  instanceTypes := #[]
  staticTypes := #[]
  resolved := Array.replicate 124 none
  statics := none }

def pool1 : Array CpInfo := pool [(2, .class_ 4), (1, u "java/lang/Object"), (0, u "<init>"), (0, u "()V"), (0, .long 1000), (1, .class_ 10), (0, u "com/example/mortise_kv/mortisekv/cli/Audit"), (0, .methodref 9 12), (0, .nameAndType 5 13), (0, u "(IJJIJJJ)V"), (0, .methodref 9 15), (0, .nameAndType 16 17), (0, u "passed"), (0, u "()Z"), (0, .class_ 19), (0, u "com/example/mortise_kv/mortisekv/cli/AuditPassedPinLaw"), (2, u "law"), (0, u "(IJIJJI)Z")] 3

def k1m0 : Method := { name := "<init>", desc := "()V", sig := { parameters := [], returnType := none }, accessFlags := 1, code := none }
def k1c1 : Code := { maxStack := 15, maxLocals := 18, code := code, exceptionTable := #[], attributes := #[] }
def k1m1 : Method := { name := "law", desc := "(IJIJJI)Z", sig := { parameters := [.int, .long, .int, .long, .long, .int], returnType := some .boolean }, accessFlags := 9, code := some k1c1 }
/-- com/example/mortise_kv/mortisekv/cli/AuditPassedPinLaw -/
def k1 : Class := { plain "com/example/mortise_kv/mortisekv/cli/AuditPassedPinLaw" (some 0) with
  accessFlags := 49
  interfaces := #[]
  cf := some (fileOf pool1 18 #[] #[{ accessFlags := 1, nameIndex := 5, descriptorIndex := 6, attributes := #[] }, { accessFlags := 9, nameIndex := 22, descriptorIndex := 23, attributes := #[] }] 49 2 #[] #[])
  fields := #[]
  methods := #[k1m0, k1m1]
  instanceTypes := #[]
  staticTypes := #[]
  resolved := Array.replicate 27 none
  statics := none }

def pool2 : Array CpInfo := pool [(1, .methodref 2 3), (0, .class_ 4), (0, .nameAndType 5 6), (0, u "java/lang/Object"), (0, u "<init>"), (0, u "()V"), (0, .class_ 8), (0, u "java/lang/Record")] 13

def k2c0 : Code := { maxStack := 1, maxLocals := 1, code := jdk_30_method_1_code, exceptionTable := #[], attributes := #[] }
def k2m0 : Method := { name := "<init>", desc := "()V", sig := { parameters := [], returnType := none }, accessFlags := 4, code := some k2c0 }
/-- java/lang/Record -/
def k2 : Class := { plain "java/lang/Record" (some 0) with
  accessFlags := 1057
  interfaces := #[]
  cf := some (fileOf pool2 7 #[] #[{ accessFlags := 4, nameIndex := 5, descriptorIndex := 6, attributes := #[] }] 1057 2 #[] #[])
  fields := #[]
  methods := #[k2m0]
  instanceTypes := #[]
  staticTypes := #[]
  resolved := Array.replicate 22 none
  statics := none }

def pool3 : Array CpInfo := pool [(1, .methodref 2 3), (0, .class_ 4), (0, .nameAndType 5 6), (0, u "java/lang/Record"), (0, u "<init>"), (0, u "()V"), (0, .fieldref 8 9), (0, .class_ 10), (0, .nameAndType 11 12), (0, u "com/example/mortise_kv/mortisekv/cli/Audit"), (0, u "accounts"), (0, u "I"), (0, .fieldref 8 14), (0, .nameAndType 15 16), (0, u "total"), (0, u "J"), (0, .fieldref 8 18), (0, .nameAndType 19 16), (0, u "entries"), (0, .fieldref 8 21), (0, .nameAndType 22 12), (0, u "mismatched"), (0, .fieldref 8 24), (0, .nameAndType 25 16), (0, u "acknowledged"), (0, .fieldref 8 27), (0, .nameAndType 28 16), (0, u "missing"), (0, .fieldref 8 30), (0, .nameAndType 31 16), (0, u "holes"), (26, u "()J"), (24, u "(IJJIJJJ)V"), (0, .long 1000), (1, .methodref 8 87), (0, .nameAndType 88 58), (0, u "expectedTotal"), (25, u "passed"), (0, u "()Z")] 52

def k3c0 : Code := { maxStack := 3, maxLocals := 13, code := prog_63_method_1_code, exceptionTable := #[], attributes := #[] }
def k3m0 : Method := { name := "<init>", desc := "(IJJIJJJ)V", sig := { parameters := [.int, .long, .long, .int, .long, .long, .long], returnType := none }, accessFlags := 0, code := some k3c0 }
def k3c1 : Code := { maxStack := 4, maxLocals := 1, code := prog_63_method_3_code, exceptionTable := #[], attributes := #[] }
def k3m1 : Method := { name := "expectedTotal", desc := "()J", sig := { parameters := [], returnType := some .long }, accessFlags := 0, code := some k3c1 }
def k3c2 : Code := { maxStack := 4, maxLocals := 1, code := prog_63_method_4_code, exceptionTable := #[], attributes := #[] }
def k3m2 : Method := { name := "passed", desc := "()Z", sig := { parameters := [], returnType := some .boolean }, accessFlags := 0, code := some k3c2 }
/-- com/example/mortise_kv/mortisekv/cli/Audit -/
def k3 : Class := { plain "com/example/mortise_kv/mortisekv/cli/Audit" (some 2) with
  accessFlags := 48
  interfaces := #[]
  cf := some (fileOf pool3 8 #[] #[{ accessFlags := 0, nameIndex := 5, descriptorIndex := 83, attributes := #[] }, { accessFlags := 0, nameIndex := 88, descriptorIndex := 58, attributes := #[] }, { accessFlags := 0, nameIndex := 114, descriptorIndex := 115, attributes := #[] }] 48 2 #[] #[{ accessFlags := 18, nameIndex := 11, descriptorIndex := 12, attributes := #[] }, { accessFlags := 18, nameIndex := 15, descriptorIndex := 16, attributes := #[] }, { accessFlags := 18, nameIndex := 19, descriptorIndex := 16, attributes := #[] }, { accessFlags := 18, nameIndex := 22, descriptorIndex := 12, attributes := #[] }, { accessFlags := 18, nameIndex := 25, descriptorIndex := 16, attributes := #[] }, { accessFlags := 18, nameIndex := 28, descriptorIndex := 16, attributes := #[] }, { accessFlags := 18, nameIndex := 31, descriptorIndex := 16, attributes := #[] }])
  fields := #[{ name := "accounts", type := .int, accessFlags := 18, slot := 0, constantValue := 0 }, { name := "total", type := .long, accessFlags := 18, slot := 1, constantValue := 0 }, { name := "entries", type := .long, accessFlags := 18, slot := 2, constantValue := 0 }, { name := "mismatched", type := .int, accessFlags := 18, slot := 3, constantValue := 0 }, { name := "acknowledged", type := .long, accessFlags := 18, slot := 4, constantValue := 0 }, { name := "missing", type := .long, accessFlags := 18, slot := 5, constantValue := 0 }, { name := "holes", type := .long, accessFlags := 18, slot := 6, constantValue := 0 }]
  methods := #[k3m0, k3m1, k3m2]
  instanceTypes := #[.int, .long, .long, .int, .long, .long, .long]
  staticTypes := #[]
  resolved := Array.replicate 168 none
  statics := none }

def pool4 : Array CpInfo := pool [(1, u "java/lang/Cloneable"), (0, .class_ 1), (0, u "java/lang/Object"), (0, .class_ 3)] 3

/-- java/lang/Cloneable -/
def k4 : Class := { plain "java/lang/Cloneable" (some 0) with
  accessFlags := 1537
  interfaces := #[]
  cf := some (fileOf pool4 2 #[] #[] 1537 4 #[] #[])
  fields := #[]
  methods := #[]
  instanceTypes := #[]
  staticTypes := #[]
  resolved := Array.replicate 8 none
  statics := none }

def pool5 : Array CpInfo := pool [(1, u "java/io/Serializable"), (0, .class_ 1), (0, u "java/lang/Object"), (0, .class_ 3)] 3

/-- java/io/Serializable -/
def k5 : Class := { plain "java/io/Serializable" (some 0) with
  accessFlags := 1537
  interfaces := #[]
  cf := some (fileOf pool5 2 #[] #[] 1537 4 #[] #[])
  fields := #[]
  methods := #[]
  instanceTypes := #[]
  staticTypes := #[]
  resolved := Array.replicate 8 none
  statics := none }

/-- the primitive byte -/
def k6 : Class := { plain "byte" none with kind := .primitive 'B', accessFlags := 0x411 }
/-- [B -/
def k7 : Class := { plain "[B" (some 0) with kind := .array 6 .byte, interfaces := #[4, 5], accessFlags := 1041 }

/-- the primitive int -/
def k8 : Class := { plain "int" none with kind := .primitive 'I', accessFlags := 0x411 }
/-- [I -/
def k9 : Class := { plain "[I" (some 0) with kind := .array 8 .int, interfaces := #[4, 5], accessFlags := 1041 }

def heap : Heap := #[]
def classes : Array Class := #[k0, k1, k2, k3, k4, k5, k6, k7, k8, k9]
def interned : List (Array UInt16 × Addr) := []
def slotsUsed : Nat := 0
def theMethod : MethodId := ⟨1, 1⟩
def args0 : Array Value := #[.int 5, .long 7, .int 6, .long 8, .long 9, .int 3]
def aboutOver (below : List Frame) : State where
  vm := { classes := classes, interned := interned.toArray }
  heap := heap
  slotsUsed := slotsUsed
  threads := #[{ frames := .invoking theMethod args0 :: below }]
def below0 : List Frame := [.native { method := ⟨0, 0⟩, args := #[] }]
def about1 : State := aboutOver below0
def p0 : Program := .bare "" "" ""
def e0 : Env := launch0.env 0 0 0
theorem w_frames : about1.frames = Frame.invoking theMethod args0 :: below0 := rfl
set_option maxRecDepth 65536 in
theorem w_args : argsFit about1.vm theMethod args0 = true := by decide +kernel
set_option maxRecDepth 65536 in
theorem w_heap : heapFits about1 = true := by decide +kernel
set_option maxRecDepth 65536 in
theorem w_runnable : about1.curStatus? = some .runnable := by decide +kernel
set_option maxRecDepth 65536 in
theorem w_alone : about1.alone = true := by decide +kernel
set_option maxRecDepth 65536 in
theorem w_named : about1.methodNamed? x = some theMethod := by decide +kernel
set_option maxRecDepth 65536 in
theorem w_hears : about1.hears theMethod below0 = true := by decide +kernel
set_option maxRecDepth 65536 in
theorem w_ripe : about1.ripe theMethod args0 below0 = true := by decide +kernel
theorem w_running : about1.status = .running := rfl
set_option maxRecDepth 65536 in
theorem w_room : about1.hasRoom e0.platform room_1 = true :=
  launch0.hasRoom_least _ room_1 (by decide +kernel) (by decide +kernel) (by decide +kernel) (by decide +kernel) (by decide +kernel) (by decide +kernel)
theorem allAtoms_all (ts : List Jvm.Cond) (a : Array Jvm.Value) (st : Jvm.State) : (allAtoms ts).before a st = ts.all (fun c => c.before a st) := by
  induction ts with
  | nil => rfl
  | cons c t ih =>
    show (Jvm.Cond.and c (allAtoms t)).before a st = _
    rw [Jvm.Cond.before_and, ih, List.all_cons]
def words1 : List Jvm.Cond := Jvm.Cond.code x code maxLocals ret :: tables_1
/-- a 'code' word, met by the world's own term for the bytes: nothing is compared byte by byte -/
theorem code_word {y : MethodName} {bytes : ByteArray} {mx : Nat} {rt : Option FieldType} {a : Array Value} {s : State} {m : MethodId} {meth : Method} {c : Code} (h1 : s.methodNamed? y = some m) (h2 : s.vm.method? m = some meth) (h3 : meth.code = some c) (h4 : c.code = bytes)
    (h5 : (c.maxLocals == mx && c.exceptionTable.isEmpty && decide (c.maxStack ≤ mostOperands) && decide (meth.sig.returnType = rt) && !meth.locks && decide (parseMethodDescriptor y.desc = some meth.sig)) = true) : (Jvm.Cond.code y bytes mx rt).before a s = true := by
  simp only [Bool.and_eq_true, beq_iff_eq, Bool.not_eq_true', decide_eq_true_eq] at h5
  obtain ⟨⟨⟨⟨⟨g1, g2⟩, g3⟩, g4⟩, g5⟩, g6⟩ := h5
  simp [Cond.before, Cond.holds, Cond.value, h1, h2, h3, h4, g1, g2, g3, g4, g5, g6]
def isCode : Jvm.Cond → Bool
  | .code _ _ _ _ => true
  | _ => false
theorem all_split {L : List Jvm.Cond} {P : Jvm.Cond → Bool} (h1 : L.all (fun c => isCode c || P c) = true) (h2 : ∀ c ∈ L.filter isCode, P c = true) : L.all P = true := by
  refine List.all_eq_true.mpr fun c hc => ?_
  have h := List.all_eq_true.mp h1 c hc
  rcases Bool.eq_false_or_eq_true (isCode c) with hi | hi
  · exact h2 c (List.mem_filter.mpr ⟨hc, hi⟩)
  · simpa [hi] using h
set_option maxRecDepth 65536 in
theorem w_c0 : (Jvm.Cond.code x code maxLocals ret).before args0 about1 = true := code_word (m := ⟨1, 1⟩) (meth := k1m1) (c := k1c1) (by decide +kernel) rfl rfl rfl (by decide +kernel)
set_option maxRecDepth 65536 in
theorem w_c1 : (Jvm.Cond.code ({ cls := "com/example/mortise_kv/mortisekv/cli/Audit", name := "<init>", desc := "(IJJIJJJ)V" } : Jvm.MethodName) prog_63_method_1_code (13 : Nat) (Option.none : Option Jvm.ClassFile.FieldType)).before args0 about1 = true := code_word (m := ⟨3, 0⟩) (meth := k3m0) (c := k3c0) (by decide +kernel) rfl rfl rfl (by decide +kernel)
set_option maxRecDepth 65536 in
theorem w_c2 : (Jvm.Cond.code ({ cls := "java/lang/Record", name := "<init>", desc := "()V" } : Jvm.MethodName) jdk_30_method_1_code (1 : Nat) (Option.none : Option Jvm.ClassFile.FieldType)).before args0 about1 = true := code_word (m := ⟨2, 0⟩) (meth := k2m0) (c := k2c0) (by decide +kernel) rfl rfl rfl (by decide +kernel)
set_option maxRecDepth 65536 in
theorem w_c3 : (Jvm.Cond.code ({ cls := "java/lang/Object", name := "<init>", desc := "()V" } : Jvm.MethodName) object_method_1_code (1 : Nat) (Option.none : Option Jvm.ClassFile.FieldType)).before args0 about1 = true := code_word (m := ⟨0, 0⟩) (meth := k0m0) (c := k0c0) (by decide +kernel) rfl rfl rfl (by decide +kernel)
set_option maxRecDepth 65536 in
theorem w_c4 : (Jvm.Cond.code ({ cls := "com/example/mortise_kv/mortisekv/cli/Audit", name := "passed", desc := "()Z" } : Jvm.MethodName) prog_63_method_4_code (1 : Nat) (Option.some Jvm.ClassFile.FieldType.boolean)).before args0 about1 = true := code_word (m := ⟨3, 2⟩) (meth := k3m2) (c := k3c2) (by decide +kernel) rfl rfl rfl (by decide +kernel)
set_option maxRecDepth 65536 in
theorem w_c5 : (Jvm.Cond.code ({ cls := "com/example/mortise_kv/mortisekv/cli/Audit", name := "expectedTotal", desc := "()J" } : Jvm.MethodName) prog_63_method_3_code (1 : Nat) (Option.some Jvm.ClassFile.FieldType.long)).before args0 about1 = true := code_word (m := ⟨3, 1⟩) (meth := k3m1) (c := k3c1) (by decide +kernel) rfl rfl rfl (by decide +kernel)
def codes1 : List Jvm.Cond := [Jvm.Cond.code x code maxLocals ret, Jvm.Cond.code ({ cls := "com/example/mortise_kv/mortisekv/cli/Audit", name := "<init>", desc := "(IJJIJJJ)V" } : Jvm.MethodName) prog_63_method_1_code (13 : Nat) (Option.none : Option Jvm.ClassFile.FieldType), Jvm.Cond.code ({ cls := "java/lang/Record", name := "<init>", desc := "()V" } : Jvm.MethodName) jdk_30_method_1_code (1 : Nat) (Option.none : Option Jvm.ClassFile.FieldType), Jvm.Cond.code ({ cls := "java/lang/Object", name := "<init>", desc := "()V" } : Jvm.MethodName) object_method_1_code (1 : Nat) (Option.none : Option Jvm.ClassFile.FieldType), Jvm.Cond.code ({ cls := "com/example/mortise_kv/mortisekv/cli/Audit", name := "passed", desc := "()Z" } : Jvm.MethodName) prog_63_method_4_code (1 : Nat) (Option.some Jvm.ClassFile.FieldType.boolean), Jvm.Cond.code ({ cls := "com/example/mortise_kv/mortisekv/cli/Audit", name := "expectedTotal", desc := "()J" } : Jvm.MethodName) prog_63_method_3_code (1 : Nat) (Option.some Jvm.ClassFile.FieldType.long)]
set_option maxRecDepth 65536 in
theorem codes_eq : words1.filter isCode = codes1 := rfl
theorem w_codes : ∀ c ∈ words1.filter isCode, c.before args0 about1 = true := by
  rw [codes_eq]
  intro c hc
  simp only [codes1, List.mem_cons, List.not_mem_nil, or_false] at hc
  rcases hc with rfl | rfl | rfl | rfl | rfl | rfl
  · exact w_c0
  · exact w_c1
  · exact w_c2
  · exact w_c3
  · exact w_c4
  · exact w_c5
set_option maxRecDepth 65536 in
theorem w_t1 : (words1.take 24).all (fun c => isCode c || c.before args0 about1) = true := by decide +kernel
set_option maxRecDepth 65536 in
theorem w_t2 : (words1.drop 24).all (fun c => isCode c || c.before args0 about1) = true := by decide +kernel
theorem w_tables : (allAtoms (Jvm.Cond.code x code maxLocals ret :: tables_1)).before args0 about1 = true := by
  rw [allAtoms_all]
  show words1.all (fun c => c.before args0 about1) = true
  refine all_split ?_ w_codes
  rw [← List.take_append_drop 24 words1, List.all_append, w_t1, w_t2]
  rfl
set_option maxRecDepth 65536 in
theorem w_case : (Jvm.Cond.and given_1 narrow_1).before args0 about1 = true := by decide +kernel
theorem w_applies : (headSpec (Jvm.Cond.code x code maxLocals ret :: tables_1) room_1).applies x e0.platform about1 = true :=
  (Spec.applies_iff w_frames).mpr ⟨w_running, w_runnable, w_alone, w_named, w_hears, w_ripe, w_room, w_tables⟩
theorem atStart : AtStart classFile x code maxLocals ret World_1 tables_1 room_1 Calls_1 rest_1 Pre_1 launch0 p0 e0 about1 theMethod args0 below0 :=
  ⟨lists_1, trivial, launch0.admits_env _ _ _, launch0.least_env, fairChoices_fair.cas, fairChoices_fair.clock, w_frames, w_args, w_heap, w_applies, trivial, trivial, w_case⟩
end start1
theorem witness_1 : WitnessClaimed_1 := ⟨start1.p0, start1.e0, start1.about1, start1.theMethod, start1.args0, start1.below0, start1.atStart⟩
end Jvm.Pilot.@@N@@
