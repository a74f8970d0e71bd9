import JvmDerived
import JvmDerived.Pilot.@@N@@Statement
import JvmDerived.Pilot.@@N@@Code
set_option linter.unusedVariables false
set_option linter.unusedSimpArgs false
namespace Jvm.Pilot.@@N@@
open Jvm Jvm.ClassFile Sem Op Lib Jvm.Free Jvm.Stand Jvm.LawKit Jvm.RoadKit Bundle Jvm.Pilot.@@N@@.Jvm.D
section OwnRet
variable {p : Program} {l : Launch} {e : Env} {R : Room} {s : State} {m : MethodId} {args : Array Value} {below : List Frame} {meth : Method} {c : Code} {T : State} {locs : List Loc} {cells slots : Nat}
theorem own_retI (X : Stand p l e R s m args below meth c T locs cells slots) (hx : p.tables.exec = Jvm.exec) {pc : Nat} {Ls : Array Slot} {z : Int32} {rest : List Value} (hret : meth.sig.returnType = some .int) (hd : decode c.code pc = .ok (.ireturn, 1)) {fs : List Frame}
    (hl : ∀ (f : JFrame) (acts : List Action), f.method = m → f.locked = none → f.entered = [] → (doReturn e (T.setTop f) acts (some (.int z))).1 = T.setFrames fs) : Steps p.tables e below (T.setTop (mkF m pc Ls (.int z :: rest))) (T.setFrames fs) := by
  have hm' : T.vm.method? m = some meth := X.method'
  have hn : narrow .int (.int z) = .int z := rfl
  show Steps p.tables e below (T.setTop { method := m, pc := pc, locals := Ls, stack := _ :: rest, locked := none }) _
  jvm_step X.here [X.here.top, hx, hd, hm', hret, hn]
  first | (intro acts; rw [hl _ acts rfl rfl rfl]) | rw [hl _ _ rfl rfl rfl]
  exact Steps.refl _
end OwnRet
def own_b (z : Int32) : Int32 := if z = 0 then 0 else 1
def own_fl (a b c : Int32) : Int32 := ((if a = 0 then (0 : Int32) else 1) ||| (if b = 0 then (0 : Int32) else 2)) ||| (if c = 0 then (0 : Int32) else 4)
theorem own_b01 (z : Int32) : own_b z = 0 ∨ own_b z = 1 := by
  unfold own_b
  by_cases h : z = 0
  · left; rw [if_pos h]
  · right; rw [if_neg h]
theorem own_facts (a b c : Int32) (ha : a = 0 ∨ a = 1) (hb : b = 0 ∨ b = 1) (hc : c = 0 ∨ c = 1) :
    ¬ (own_fl a b c < 0) ∧ ¬ (7 < own_fl a b c) ∧ own_b (own_fl a b c &&& 1) = a ∧ own_b (own_fl a b c &&& 2) = b ∧ own_b (own_fl a b c &&& 4) = c ∧ (own_fl a b c ||| 2) = own_fl a 1 c := by
  rcases ha with rfl | rfl <;> rcases hb with rfl | rfl <;> rcases hc with rfl | rfl <;> decide
theorem own_d1_0 : decode prog_153_method_4_code 0 = .ok (.iload_n 0, 1) := by decide +kernel
theorem own_d1_1 : decode prog_153_method_4_code 1 = .ok (.ifCond .eq 7, 3) := by decide +kernel
theorem own_d1_4 : decode prog_153_method_4_code 4 = .ok (.iconst 1, 1) := by decide +kernel
theorem own_d1_5 : decode prog_153_method_4_code 5 = .ok (.goto 4, 3) := by decide +kernel
theorem own_d1_8 : decode prog_153_method_4_code 8 = .ok (.iconst 0, 1) := by decide +kernel
theorem own_d1_9 : decode prog_153_method_4_code 9 = .ok (.iload_n 1, 1) := by decide +kernel
theorem own_d1_10 : decode prog_153_method_4_code 10 = .ok (.ifCond .eq 7, 3) := by decide +kernel
theorem own_d1_13 : decode prog_153_method_4_code 13 = .ok (.iconst 2, 1) := by decide +kernel
theorem own_d1_14 : decode prog_153_method_4_code 14 = .ok (.goto 4, 3) := by decide +kernel
theorem own_d1_17 : decode prog_153_method_4_code 17 = .ok (.iconst 0, 1) := by decide +kernel
theorem own_d1_18 : decode prog_153_method_4_code 18 = .ok (.ior, 1) := by decide +kernel
theorem own_d1_19 : decode prog_153_method_4_code 19 = .ok (.iload_n 2, 1) := by decide +kernel
theorem own_d1_20 : decode prog_153_method_4_code 20 = .ok (.ifCond .eq 7, 3) := by decide +kernel
theorem own_d1_23 : decode prog_153_method_4_code 23 = .ok (.iconst 4, 1) := by decide +kernel
theorem own_d1_24 : decode prog_153_method_4_code 24 = .ok (.goto 4, 3) := by decide +kernel
theorem own_d1_27 : decode prog_153_method_4_code 27 = .ok (.iconst 0, 1) := by decide +kernel
theorem own_d1_28 : decode prog_153_method_4_code 28 = .ok (.ior, 1) := by decide +kernel
theorem own_d1_29 : decode prog_153_method_4_code 29 = .ok (.ireturn, 1) := by decide +kernel
theorem own_pn0 : plainName "com/example/nivel/nivel/store/ValueIndex" = true := by first | (simp [plainName, overriddenIn]; done) | decide +kernel
theorem own_ef1 (m : MethodId) (x0 : Int32) (x1 : Int32) (x2 : Int32) : entryFrame m #[(.int x0), (.int x1), (.int x2)] 3 = mkF m 0 #[.val (.int x0), .val (.int x1), .val (.int x2)] [] := by first | (simp [entryFrame, mkF, argsToLocals, Value.category]; done) | rfl
def own_Q1 (Z : State) (p1 : Int32) (p2 : Int32) (p3 : Int32) (h0 : Heap) (n0 : Nat) (v : Option Value) (h : Heap) (L : List Loc) : Prop := v = some (.int (own_fl p1 p2 p3)) ∧ Fr n0 L ∧ h = h0
set_option maxRecDepth 65536 in
set_option maxHeartbeats 40000000 in
theorem own_rm1 (l : Launch) (Z : State) (a0 : Array Value) (hw : ∀ d ∈ tables_1, d.before a0 Z = true) (ws : List Jvm.Cond) (p1 : Int32) (p2 : Int32) (p3 : Int32) (h0 : Heap) (n0 : Nat) (Z0 : n0 ≤ h0.size) :
    MetFree l (⟨"com/example/nivel/nivel/store/ValueIndex", "flags", "(ZZZ)I"⟩ : MethodName) (head1 (Jvm.Cond.code (⟨"com/example/nivel/nivel/store/ValueIndex", "flags", "(ZZZ)I"⟩ : MethodName) prog_153_method_4_code 3 (some .int) :: ws) ({ frames := 0, cells := 0, slots := 0, locals := 0 } : Room)) (fun a U => a = #[(.int p1), (.int p2), (.int p3)] ∧ Z.Warmed39 U.vm ∧ U.heap = h0) (fun _ _ _ _ _ => True) (fun _ U o U' => ∃ v L, o = .returned v ∧ own_Q1 Z p1 p2 p3 h0 n0 v U'.heap L ∧ FrameEnd U o U' L ({ frames := 0, cells := 0, slots := 0, locals := 0 } : Room).cells ({ frames := 0, cells := 0, slots := 0, locals := 0 } : Room).slots) := by
  refine MetFree.of_bodySF (plainFor_of_name own_pn0) hisR ?_
  intro p e s m args below meth c s₁ Bd hml0 hP hK
  obtain ⟨rfl, hZ, hh⟩ := hP
  have hx := Bd.exec
  have hby := Bd.bytes
  have hml : c.maxLocals = 3 := hml0
  have hown : s.vm.findClass "com/example/nivel/nivel/store/ValueIndex" = some m.cls := findClass_of_methodNamed Bd.named
  have hnm := (name_of_methodNamed Bd.named Bd.method).1
  have X0 : Stand p l e ({ frames := 0, cells := 0, slots := 0, locals := 0 } : Room) s m #[(.int p1), (.int p2), (.int p3)] below meth c s₁ [] 0 0 := Stand.of_body Bd
  have e0 : s₁.heap = h0 := by rw [← hh, Bd.state]; rfl
  have N0 := Fr.nil n0
  have pre0 : ∀ t, Steps p.tables e below (s₁.setTop (mkF m 0 #[.val (.int p1), .val (.int p2), .val (.int p3)] [])) t → Steps p.tables e below (s₁.setTop (entryFrame m #[(.int p1), (.int p2), (.int p3)] 3)) t := fun t k => castTop (own_ef1 m p1 p2 p3) k

  obtain ⟨fs, hr, hrun, hended, hW, hsame⟩ := X0.leave (v := some (.int (own_fl p1 p2 p3))) (fun h => by rw [Bd.returns] at h; cases h)
  refine ⟨_, _, pre0 _ ?_, hrun, hended, _, _, rfl, ?_, ⟨_, rfl⟩, hW, hsame.mono (by decide) (by decide)⟩
  · show Steps p.tables e below (s₁.setTop (mkF m 0 #[.val (.int p1), .val (.int p2), .val (.int p3)] [])) _
    refine XS.iloadN X0.here hx rfl (hb hby own_d1_0) rfl ?_
    by_cases hc1 : p1 = (0 : Int32)
    · show Steps p.tables e below (s₁.setTop (mkF m 1 #[.val (.int p1), .val (.int p2), .val (.int p3)] [(.int p1)])) _
      refine XS.ifYes X0.here hx rfl (pc0 := 1) (pc' := 8) rfl (hb hby own_d1_1) rfl ((if0 _ _).trans (teq hc1).1) (by decide) (by decide) ?_
      show Steps p.tables e below (s₁.setTop (mkF m 8 #[.val (.int p1), .val (.int p2), .val (.int p3)] [])) _
      refine XS.iconst X0.here hx rfl (hb hby own_d1_8) ?_
      show Steps p.tables e below (s₁.setTop (mkF m 9 #[.val (.int p1), .val (.int p2), .val (.int p3)] [(.int (0 : Int32))])) _
      refine XS.iloadN X0.here hx rfl (hb hby own_d1_9) rfl ?_
      by_cases hc10 : p2 = (0 : Int32)
      · show Steps p.tables e below (s₁.setTop (mkF m 10 #[.val (.int p1), .val (.int p2), .val (.int p3)] [(.int p2), (.int (0 : Int32))])) _
        refine XS.ifYes X0.here hx rfl (pc0 := 10) (pc' := 17) rfl (hb hby own_d1_10) rfl ((if0 _ _).trans (teq hc10).1) (by decide) (by decide) ?_
        show Steps p.tables e below (s₁.setTop (mkF m 17 #[.val (.int p1), .val (.int p2), .val (.int p3)] [(.int (0 : Int32))])) _
        refine XS.iconst X0.here hx rfl (hb hby own_d1_17) ?_
        show Steps p.tables e below (s₁.setTop (mkF m 18 #[.val (.int p1), .val (.int p2), .val (.int p3)] [(.int (0 : Int32)), (.int (0 : Int32))])) _
        refine XS.ior X0.here hx rfl (hb hby own_d1_18) rfl ?_
        show Steps p.tables e below (s₁.setTop (mkF m 19 #[.val (.int p1), .val (.int p2), .val (.int p3)] [(.int ((0 : Int32) ||| (0 : Int32)))])) _
        refine XS.iloadN X0.here hx rfl (hb hby own_d1_19) rfl ?_
        by_cases hc20 : p3 = (0 : Int32)
        · show Steps p.tables e below (s₁.setTop (mkF m 20 #[.val (.int p1), .val (.int p2), .val (.int p3)] [(.int p3), (.int ((0 : Int32) ||| (0 : Int32)))])) _
          refine XS.ifYes X0.here hx rfl (pc0 := 20) (pc' := 27) rfl (hb hby own_d1_20) rfl ((if0 _ _).trans (teq hc20).1) (by decide) (by decide) ?_
          show Steps p.tables e below (s₁.setTop (mkF m 27 #[.val (.int p1), .val (.int p2), .val (.int p3)] [(.int ((0 : Int32) ||| (0 : Int32)))])) _
          refine XS.iconst X0.here hx rfl (hb hby own_d1_27) ?_
          show Steps p.tables e below (s₁.setTop (mkF m 28 #[.val (.int p1), .val (.int p2), .val (.int p3)] [(.int (0 : Int32)), (.int ((0 : Int32) ||| (0 : Int32)))])) _
          refine XS.ior X0.here hx rfl (hb hby own_d1_28) rfl ?_
          show Steps p.tables e below (s₁.setTop (mkF m 29 #[.val (.int p1), .val (.int p2), .val (.int p3)] [(.int (((0 : Int32) ||| (0 : Int32)) ||| (0 : Int32)))])) _
          have qv : (own_fl p1 p2 p3) = (((0 : Int32) ||| (0 : Int32)) ||| (0 : Int32)) := by simp only [own_fl, if_pos, if_neg, hc1, hc10, hc20, not_false_eq_true]
          rw [qv] at hr
          exact own_retI X0 hx Bd.returns (hb hby own_d1_29) hr
        · show Steps p.tables e below (s₁.setTop (mkF m 20 #[.val (.int p1), .val (.int p2), .val (.int p3)] [(.int p3), (.int ((0 : Int32) ||| (0 : Int32)))])) _
          refine XS.ifNo X0.here hx rfl (hb hby own_d1_20) rfl ((if0 _ _).trans (feq hc20).1) ?_
          show Steps p.tables e below (s₁.setTop (mkF m 23 #[.val (.int p1), .val (.int p2), .val (.int p3)] [(.int ((0 : Int32) ||| (0 : Int32)))])) _
          refine XS.iconst X0.here hx rfl (hb hby own_d1_23) ?_
          show Steps p.tables e below (s₁.setTop (mkF m 24 #[.val (.int p1), .val (.int p2), .val (.int p3)] [(.int (4 : Int32)), (.int ((0 : Int32) ||| (0 : Int32)))])) _
          refine XS.goto X0.here hx rfl (pc0 := 24) (pc' := 28) rfl (hb hby own_d1_24) (by decide) (by decide) ?_
          show Steps p.tables e below (s₁.setTop (mkF m 28 #[.val (.int p1), .val (.int p2), .val (.int p3)] [(.int (4 : Int32)), (.int ((0 : Int32) ||| (0 : Int32)))])) _
          refine XS.ior X0.here hx rfl (hb hby own_d1_28) rfl ?_
          show Steps p.tables e below (s₁.setTop (mkF m 29 #[.val (.int p1), .val (.int p2), .val (.int p3)] [(.int (((0 : Int32) ||| (0 : Int32)) ||| (4 : Int32)))])) _
          have qv : (own_fl p1 p2 p3) = (((0 : Int32) ||| (0 : Int32)) ||| (4 : Int32)) := by simp only [own_fl, if_pos, if_neg, hc1, hc10, hc20, not_false_eq_true]
          rw [qv] at hr
          exact own_retI X0 hx Bd.returns (hb hby own_d1_29) hr
      · show Steps p.tables e below (s₁.setTop (mkF m 10 #[.val (.int p1), .val (.int p2), .val (.int p3)] [(.int p2), (.int (0 : Int32))])) _
        refine XS.ifNo X0.here hx rfl (hb hby own_d1_10) rfl ((if0 _ _).trans (feq hc10).1) ?_
        show Steps p.tables e below (s₁.setTop (mkF m 13 #[.val (.int p1), .val (.int p2), .val (.int p3)] [(.int (0 : Int32))])) _
        refine XS.iconst X0.here hx rfl (hb hby own_d1_13) ?_
        show Steps p.tables e below (s₁.setTop (mkF m 14 #[.val (.int p1), .val (.int p2), .val (.int p3)] [(.int (2 : Int32)), (.int (0 : Int32))])) _
        refine XS.goto X0.here hx rfl (pc0 := 14) (pc' := 18) rfl (hb hby own_d1_14) (by decide) (by decide) ?_
        show Steps p.tables e below (s₁.setTop (mkF m 18 #[.val (.int p1), .val (.int p2), .val (.int p3)] [(.int (2 : Int32)), (.int (0 : Int32))])) _
        refine XS.ior X0.here hx rfl (hb hby own_d1_18) rfl ?_
        show Steps p.tables e below (s₁.setTop (mkF m 19 #[.val (.int p1), .val (.int p2), .val (.int p3)] [(.int ((0 : Int32) ||| (2 : Int32)))])) _
        refine XS.iloadN X0.here hx rfl (hb hby own_d1_19) rfl ?_
        by_cases hc20 : p3 = (0 : Int32)
        · show Steps p.tables e below (s₁.setTop (mkF m 20 #[.val (.int p1), .val (.int p2), .val (.int p3)] [(.int p3), (.int ((0 : Int32) ||| (2 : Int32)))])) _
          refine XS.ifYes X0.here hx rfl (pc0 := 20) (pc' := 27) rfl (hb hby own_d1_20) rfl ((if0 _ _).trans (teq hc20).1) (by decide) (by decide) ?_
          show Steps p.tables e below (s₁.setTop (mkF m 27 #[.val (.int p1), .val (.int p2), .val (.int p3)] [(.int ((0 : Int32) ||| (2 : Int32)))])) _
          refine XS.iconst X0.here hx rfl (hb hby own_d1_27) ?_
          show Steps p.tables e below (s₁.setTop (mkF m 28 #[.val (.int p1), .val (.int p2), .val (.int p3)] [(.int (0 : Int32)), (.int ((0 : Int32) ||| (2 : Int32)))])) _
          refine XS.ior X0.here hx rfl (hb hby own_d1_28) rfl ?_
          show Steps p.tables e below (s₁.setTop (mkF m 29 #[.val (.int p1), .val (.int p2), .val (.int p3)] [(.int (((0 : Int32) ||| (2 : Int32)) ||| (0 : Int32)))])) _
          have qv : (own_fl p1 p2 p3) = (((0 : Int32) ||| (2 : Int32)) ||| (0 : Int32)) := by simp only [own_fl, if_pos, if_neg, hc1, hc10, hc20, not_false_eq_true]
          rw [qv] at hr
          exact own_retI X0 hx Bd.returns (hb hby own_d1_29) hr
        · show Steps p.tables e below (s₁.setTop (mkF m 20 #[.val (.int p1), .val (.int p2), .val (.int p3)] [(.int p3), (.int ((0 : Int32) ||| (2 : Int32)))])) _
          refine XS.ifNo X0.here hx rfl (hb hby own_d1_20) rfl ((if0 _ _).trans (feq hc20).1) ?_
          show Steps p.tables e below (s₁.setTop (mkF m 23 #[.val (.int p1), .val (.int p2), .val (.int p3)] [(.int ((0 : Int32) ||| (2 : Int32)))])) _
          refine XS.iconst X0.here hx rfl (hb hby own_d1_23) ?_
          show Steps p.tables e below (s₁.setTop (mkF m 24 #[.val (.int p1), .val (.int p2), .val (.int p3)] [(.int (4 : Int32)), (.int ((0 : Int32) ||| (2 : Int32)))])) _
          refine XS.goto X0.here hx rfl (pc0 := 24) (pc' := 28) rfl (hb hby own_d1_24) (by decide) (by decide) ?_
          show Steps p.tables e below (s₁.setTop (mkF m 28 #[.val (.int p1), .val (.int p2), .val (.int p3)] [(.int (4 : Int32)), (.int ((0 : Int32) ||| (2 : Int32)))])) _
          refine XS.ior X0.here hx rfl (hb hby own_d1_28) rfl ?_
          show Steps p.tables e below (s₁.setTop (mkF m 29 #[.val (.int p1), .val (.int p2), .val (.int p3)] [(.int (((0 : Int32) ||| (2 : Int32)) ||| (4 : Int32)))])) _
          have qv : (own_fl p1 p2 p3) = (((0 : Int32) ||| (2 : Int32)) ||| (4 : Int32)) := by simp only [own_fl, if_pos, if_neg, hc1, hc10, hc20, not_false_eq_true]
          rw [qv] at hr
          exact own_retI X0 hx Bd.returns (hb hby own_d1_29) hr
    · show Steps p.tables e below (s₁.setTop (mkF m 1 #[.val (.int p1), .val (.int p2), .val (.int p3)] [(.int p1)])) _
      refine XS.ifNo X0.here hx rfl (hb hby own_d1_1) rfl ((if0 _ _).trans (feq hc1).1) ?_
      show Steps p.tables e below (s₁.setTop (mkF m 4 #[.val (.int p1), .val (.int p2), .val (.int p3)] [])) _
      refine XS.iconst X0.here hx rfl (hb hby own_d1_4) ?_
      show Steps p.tables e below (s₁.setTop (mkF m 5 #[.val (.int p1), .val (.int p2), .val (.int p3)] [(.int (1 : Int32))])) _
      refine XS.goto X0.here hx rfl (pc0 := 5) (pc' := 9) rfl (hb hby own_d1_5) (by decide) (by decide) ?_
      show Steps p.tables e below (s₁.setTop (mkF m 9 #[.val (.int p1), .val (.int p2), .val (.int p3)] [(.int (1 : Int32))])) _
      refine XS.iloadN X0.here hx rfl (hb hby own_d1_9) rfl ?_
      by_cases hc10 : p2 = (0 : Int32)
      · show Steps p.tables e below (s₁.setTop (mkF m 10 #[.val (.int p1), .val (.int p2), .val (.int p3)] [(.int p2), (.int (1 : Int32))])) _
        refine XS.ifYes X0.here hx rfl (pc0 := 10) (pc' := 17) rfl (hb hby own_d1_10) rfl ((if0 _ _).trans (teq hc10).1) (by decide) (by decide) ?_
        show Steps p.tables e below (s₁.setTop (mkF m 17 #[.val (.int p1), .val (.int p2), .val (.int p3)] [(.int (1 : Int32))])) _
        refine XS.iconst X0.here hx rfl (hb hby own_d1_17) ?_
        show Steps p.tables e below (s₁.setTop (mkF m 18 #[.val (.int p1), .val (.int p2), .val (.int p3)] [(.int (0 : Int32)), (.int (1 : Int32))])) _
        refine XS.ior X0.here hx rfl (hb hby own_d1_18) rfl ?_
        show Steps p.tables e below (s₁.setTop (mkF m 19 #[.val (.int p1), .val (.int p2), .val (.int p3)] [(.int ((1 : Int32) ||| (0 : Int32)))])) _
        refine XS.iloadN X0.here hx rfl (hb hby own_d1_19) rfl ?_
        by_cases hc20 : p3 = (0 : Int32)
        · show Steps p.tables e below (s₁.setTop (mkF m 20 #[.val (.int p1), .val (.int p2), .val (.int p3)] [(.int p3), (.int ((1 : Int32) ||| (0 : Int32)))])) _
          refine XS.ifYes X0.here hx rfl (pc0 := 20) (pc' := 27) rfl (hb hby own_d1_20) rfl ((if0 _ _).trans (teq hc20).1) (by decide) (by decide) ?_
          show Steps p.tables e below (s₁.setTop (mkF m 27 #[.val (.int p1), .val (.int p2), .val (.int p3)] [(.int ((1 : Int32) ||| (0 : Int32)))])) _
          refine XS.iconst X0.here hx rfl (hb hby own_d1_27) ?_
          show Steps p.tables e below (s₁.setTop (mkF m 28 #[.val (.int p1), .val (.int p2), .val (.int p3)] [(.int (0 : Int32)), (.int ((1 : Int32) ||| (0 : Int32)))])) _
          refine XS.ior X0.here hx rfl (hb hby own_d1_28) rfl ?_
          show Steps p.tables e below (s₁.setTop (mkF m 29 #[.val (.int p1), .val (.int p2), .val (.int p3)] [(.int (((1 : Int32) ||| (0 : Int32)) ||| (0 : Int32)))])) _
          have qv : (own_fl p1 p2 p3) = (((1 : Int32) ||| (0 : Int32)) ||| (0 : Int32)) := by simp only [own_fl, if_pos, if_neg, hc1, hc10, hc20, not_false_eq_true]
          rw [qv] at hr
          exact own_retI X0 hx Bd.returns (hb hby own_d1_29) hr
        · show Steps p.tables e below (s₁.setTop (mkF m 20 #[.val (.int p1), .val (.int p2), .val (.int p3)] [(.int p3), (.int ((1 : Int32) ||| (0 : Int32)))])) _
          refine XS.ifNo X0.here hx rfl (hb hby own_d1_20) rfl ((if0 _ _).trans (feq hc20).1) ?_
          show Steps p.tables e below (s₁.setTop (mkF m 23 #[.val (.int p1), .val (.int p2), .val (.int p3)] [(.int ((1 : Int32) ||| (0 : Int32)))])) _
          refine XS.iconst X0.here hx rfl (hb hby own_d1_23) ?_
          show Steps p.tables e below (s₁.setTop (mkF m 24 #[.val (.int p1), .val (.int p2), .val (.int p3)] [(.int (4 : Int32)), (.int ((1 : Int32) ||| (0 : Int32)))])) _
          refine XS.goto X0.here hx rfl (pc0 := 24) (pc' := 28) rfl (hb hby own_d1_24) (by decide) (by decide) ?_
          show Steps p.tables e below (s₁.setTop (mkF m 28 #[.val (.int p1), .val (.int p2), .val (.int p3)] [(.int (4 : Int32)), (.int ((1 : Int32) ||| (0 : Int32)))])) _
          refine XS.ior X0.here hx rfl (hb hby own_d1_28) rfl ?_
          show Steps p.tables e below (s₁.setTop (mkF m 29 #[.val (.int p1), .val (.int p2), .val (.int p3)] [(.int (((1 : Int32) ||| (0 : Int32)) ||| (4 : Int32)))])) _
          have qv : (own_fl p1 p2 p3) = (((1 : Int32) ||| (0 : Int32)) ||| (4 : Int32)) := by simp only [own_fl, if_pos, if_neg, hc1, hc10, hc20, not_false_eq_true]
          rw [qv] at hr
          exact own_retI X0 hx Bd.returns (hb hby own_d1_29) hr
      · show Steps p.tables e below (s₁.setTop (mkF m 10 #[.val (.int p1), .val (.int p2), .val (.int p3)] [(.int p2), (.int (1 : Int32))])) _
        refine XS.ifNo X0.here hx rfl (hb hby own_d1_10) rfl ((if0 _ _).trans (feq hc10).1) ?_
        show Steps p.tables e below (s₁.setTop (mkF m 13 #[.val (.int p1), .val (.int p2), .val (.int p3)] [(.int (1 : Int32))])) _
        refine XS.iconst X0.here hx rfl (hb hby own_d1_13) ?_
        show Steps p.tables e below (s₁.setTop (mkF m 14 #[.val (.int p1), .val (.int p2), .val (.int p3)] [(.int (2 : Int32)), (.int (1 : Int32))])) _
        refine XS.goto X0.here hx rfl (pc0 := 14) (pc' := 18) rfl (hb hby own_d1_14) (by decide) (by decide) ?_
        show Steps p.tables e below (s₁.setTop (mkF m 18 #[.val (.int p1), .val (.int p2), .val (.int p3)] [(.int (2 : Int32)), (.int (1 : Int32))])) _
        refine XS.ior X0.here hx rfl (hb hby own_d1_18) rfl ?_
        show Steps p.tables e below (s₁.setTop (mkF m 19 #[.val (.int p1), .val (.int p2), .val (.int p3)] [(.int ((1 : Int32) ||| (2 : Int32)))])) _
        refine XS.iloadN X0.here hx rfl (hb hby own_d1_19) rfl ?_
        by_cases hc20 : p3 = (0 : Int32)
        · show Steps p.tables e below (s₁.setTop (mkF m 20 #[.val (.int p1), .val (.int p2), .val (.int p3)] [(.int p3), (.int ((1 : Int32) ||| (2 : Int32)))])) _
          refine XS.ifYes X0.here hx rfl (pc0 := 20) (pc' := 27) rfl (hb hby own_d1_20) rfl ((if0 _ _).trans (teq hc20).1) (by decide) (by decide) ?_
          show Steps p.tables e below (s₁.setTop (mkF m 27 #[.val (.int p1), .val (.int p2), .val (.int p3)] [(.int ((1 : Int32) ||| (2 : Int32)))])) _
          refine XS.iconst X0.here hx rfl (hb hby own_d1_27) ?_
          show Steps p.tables e below (s₁.setTop (mkF m 28 #[.val (.int p1), .val (.int p2), .val (.int p3)] [(.int (0 : Int32)), (.int ((1 : Int32) ||| (2 : Int32)))])) _
          refine XS.ior X0.here hx rfl (hb hby own_d1_28) rfl ?_
          show Steps p.tables e below (s₁.setTop (mkF m 29 #[.val (.int p1), .val (.int p2), .val (.int p3)] [(.int (((1 : Int32) ||| (2 : Int32)) ||| (0 : Int32)))])) _
          have qv : (own_fl p1 p2 p3) = (((1 : Int32) ||| (2 : Int32)) ||| (0 : Int32)) := by simp only [own_fl, if_pos, if_neg, hc1, hc10, hc20, not_false_eq_true]
          rw [qv] at hr
          exact own_retI X0 hx Bd.returns (hb hby own_d1_29) hr
        · show Steps p.tables e below (s₁.setTop (mkF m 20 #[.val (.int p1), .val (.int p2), .val (.int p3)] [(.int p3), (.int ((1 : Int32) ||| (2 : Int32)))])) _
          refine XS.ifNo X0.here hx rfl (hb hby own_d1_20) rfl ((if0 _ _).trans (feq hc20).1) ?_
          show Steps p.tables e below (s₁.setTop (mkF m 23 #[.val (.int p1), .val (.int p2), .val (.int p3)] [(.int ((1 : Int32) ||| (2 : Int32)))])) _
          refine XS.iconst X0.here hx rfl (hb hby own_d1_23) ?_
          show Steps p.tables e below (s₁.setTop (mkF m 24 #[.val (.int p1), .val (.int p2), .val (.int p3)] [(.int (4 : Int32)), (.int ((1 : Int32) ||| (2 : Int32)))])) _
          refine XS.goto X0.here hx rfl (pc0 := 24) (pc' := 28) rfl (hb hby own_d1_24) (by decide) (by decide) ?_
          show Steps p.tables e below (s₁.setTop (mkF m 28 #[.val (.int p1), .val (.int p2), .val (.int p3)] [(.int (4 : Int32)), (.int ((1 : Int32) ||| (2 : Int32)))])) _
          refine XS.ior X0.here hx rfl (hb hby own_d1_28) rfl ?_
          show Steps p.tables e below (s₁.setTop (mkF m 29 #[.val (.int p1), .val (.int p2), .val (.int p3)] [(.int (((1 : Int32) ||| (2 : Int32)) ||| (4 : Int32)))])) _
          have qv : (own_fl p1 p2 p3) = (((1 : Int32) ||| (2 : Int32)) ||| (4 : Int32)) := by simp only [own_fl, if_pos, if_neg, hc1, hc10, hc20, not_false_eq_true]
          rw [qv] at hr
          exact own_retI X0 hx Bd.returns (hb hby own_d1_29) hr
  · show own_Q1 Z p1 p2 p3 h0 n0 _ s₁.heap _
    rw [e0]
    exact ⟨rfl, N0, rfl⟩
theorem own_d2_0 : decode prog_153_method_5_code 0 = .ok (.iload_n 0, 1) := by decide +kernel
theorem own_d2_1 : decode prog_153_method_5_code 1 = .ok (.iconst 2, 1) := by decide +kernel
theorem own_d2_2 : decode prog_153_method_5_code 2 = .ok (.ior, 1) := by decide +kernel
theorem own_d2_3 : decode prog_153_method_5_code 3 = .ok (.ireturn, 1) := by decide +kernel
theorem own_ef2 (m : MethodId) (x0 : Int32) : entryFrame m #[(.int x0)] 1 = mkF m 0 #[.val (.int x0)] [] := by first | (simp [entryFrame, mkF, argsToLocals, Value.category]; done) | rfl
def own_Q2 (Z : State) (p1 : Int32) (h0 : Heap) (n0 : Nat) (v : Option Value) (h : Heap) (L : List Loc) : Prop := v = some (.int (p1 ||| (2 : Int32))) ∧ Fr n0 L ∧ h = h0
set_option maxRecDepth 65536 in
set_option maxHeartbeats 40000000 in
theorem own_rm2 (l : Launch) (Z : State) (a0 : Array Value) (hw : ∀ d ∈ tables_1, d.before a0 Z = true) (ws : List Jvm.Cond) (p1 : Int32) (h0 : Heap) (n0 : Nat) (Z0 : n0 ≤ h0.size) :
    MetFree l (⟨"com/example/nivel/nivel/store/ValueIndex", "mixed", "(I)I"⟩ : MethodName) (head1 (Jvm.Cond.code (⟨"com/example/nivel/nivel/store/ValueIndex", "mixed", "(I)I"⟩ : MethodName) prog_153_method_5_code 1 (some .int) :: ws) ({ frames := 0, cells := 0, slots := 0, locals := 0 } : Room)) (fun a U => a = #[(.int p1)] ∧ Z.Warmed39 U.vm ∧ U.heap = h0) (fun _ _ _ _ _ => True) (fun _ U o U' => ∃ v L, o = .returned v ∧ own_Q2 Z p1 h0 n0 v U'.heap L ∧ FrameEnd U o U' L ({ frames := 0, cells := 0, slots := 0, locals := 0 } : Room).cells ({ frames := 0, cells := 0, slots := 0, locals := 0 } : Room).slots) := by
  refine MetFree.of_bodySF (plainFor_of_name own_pn0) hisR ?_
  intro p e s m args below meth c s₁ Bd hml0 hP hK
  obtain ⟨rfl, hZ, hh⟩ := hP
  have hx := Bd.exec
  have hby := Bd.bytes
  have hml : c.maxLocals = 1 := hml0
  have hown : s.vm.findClass "com/example/nivel/nivel/store/ValueIndex" = some m.cls := findClass_of_methodNamed Bd.named
  have hnm := (name_of_methodNamed Bd.named Bd.method).1
  have X0 : Stand p l e ({ frames := 0, cells := 0, slots := 0, locals := 0 } : Room) s m #[(.int p1)] below meth c s₁ [] 0 0 := Stand.of_body Bd
  have e0 : s₁.heap = h0 := by rw [← hh, Bd.state]; rfl
  have N0 := Fr.nil n0
  have pre0 : ∀ t, Steps p.tables e below (s₁.setTop (mkF m 0 #[.val (.int p1)] [])) t → Steps p.tables e below (s₁.setTop (entryFrame m #[(.int p1)] 1)) t := fun t k => castTop (own_ef2 m p1) k

  obtain ⟨fs, hr, hrun, hended, hW, hsame⟩ := X0.leave (v := some (.int (p1 ||| (2 : Int32)))) (fun h => by rw [Bd.returns] at h; cases h)
  refine ⟨_, _, pre0 _ ?_, hrun, hended, _, _, rfl, ?_, ⟨_, rfl⟩, hW, hsame.mono (by decide) (by decide)⟩
  · show Steps p.tables e below (s₁.setTop (mkF m 0 #[.val (.int p1)] [])) _
    refine XS.iloadN X0.here hx rfl (hb hby own_d2_0) rfl ?_
    show Steps p.tables e below (s₁.setTop (mkF m 1 #[.val (.int p1)] [(.int p1)])) _
    refine XS.iconst X0.here hx rfl (hb hby own_d2_1) ?_
    show Steps p.tables e below (s₁.setTop (mkF m 2 #[.val (.int p1)] [(.int (2 : Int32)), (.int p1)])) _
    refine XS.ior X0.here hx rfl (hb hby own_d2_2) rfl ?_
    show Steps p.tables e below (s₁.setTop (mkF m 3 #[.val (.int p1)] [(.int (p1 ||| (2 : Int32)))])) _
    exact own_retI X0 hx Bd.returns (hb hby own_d2_3) hr
  · show own_Q2 Z p1 h0 n0 _ s₁.heap _
    rw [e0]
    exact ⟨rfl, N0, rfl⟩
theorem own_pd0 : parseMethodDescriptor "(ZZZ)I" = some ⟨[.boolean, .boolean, .boolean], some .int⟩ := by decide +kernel
theorem own_pd1 : parseMethodDescriptor "(I)I" = some ⟨[.int], some .int⟩ := by decide +kernel
theorem own_pn1 : plainName "com/example/nivel/nivel/store/ValueIndexFlagsPinLaw" = true := by first | (simp [plainName, overriddenIn]; done) | decide +kernel
theorem own_ef0 (m : MethodId) (x0 : Int32) : entryFrame m #[(.int x0)] maxLocals = mkF m 0 #[.val (.int x0), .unset, .unset, .unset, .unset, .unset, .unset, .unset] [] := by first | (simp [entryFrame, mkF, argsToLocals, Value.category, maxLocals]; done) | rfl
def own_Q0 (Z : State) (p1 : Int32) (h0 : Heap) (n0 : Nat) (v : Option Value) (h : Heap) (L : List Loc) : Prop := v = some (.int 1) ∧ Fr n0 L
set_option maxRecDepth 65536 in
set_option maxHeartbeats 40000000 in
theorem own_rm0 (l : Launch) (Z : State) (a0 : Array Value) (hw : ∀ d ∈ tables_1, d.before a0 Z = true) (ws : List Jvm.Cond) (p1 : Int32) (h0 : Heap) (n0 : Nat) (Z0 : n0 ≤ h0.size) :
    MetFree l x (head1 (Jvm.Cond.code x code maxLocals ret :: ws) room_1) (fun a U => a = #[(.int p1)] ∧ Z.Warmed39 U.vm ∧ U.heap = h0) (fun _ _ _ _ _ => True) (fun _ U o U' => ∃ v L, o = .returned v ∧ own_Q0 Z p1 h0 n0 v U'.heap L ∧ FrameEnd U o U' L room_1.cells room_1.slots) := by
  refine MetFree.of_bodySF (plainFor_of_name own_pn1) hisR ?_
  intro p e s m args below meth c s₁ Bd hml0 hP hK
  obtain ⟨rfl, hZ, hh⟩ := hP
  have hx := Bd.exec
  have hby := Bd.bytes
  have hml : c.maxLocals = 8 := hml0
  have hown : s.vm.findClass "com/example/nivel/nivel/store/ValueIndexFlagsPinLaw" = some m.cls := findClass_of_methodNamed Bd.named
  have hnm := (name_of_methodNamed Bd.named Bd.method).1
  have X0 : Stand p l e room_1 s m #[(.int p1)] below meth c s₁ [] 0 0 := Stand.of_body Bd
  have e0 : s₁.heap = h0 := by rw [← hh, Bd.state]; rfl
  have N0 := Fr.nil n0
  have pre0 : ∀ t, Steps p.tables e below (s₁.setTop (mkF m 0 #[.val (.int p1), .unset, .unset, .unset, .unset, .unset, .unset, .unset] [])) t → Steps p.tables e below (s₁.setTop (entryFrame m #[(.int p1)] maxLocals)) t := fun t k => castTop (own_ef0 m p1) k
  obtain ⟨ba, hba⟩ : ∃ z : Int32, z = own_b (p1 &&& (1 : Int32)) := ⟨_, rfl⟩
  have sg1 : ∀ t, Steps p.tables e below (s₁.setTop (mkF m 11 #[.val (.int p1), .unset, .unset, .unset, .unset, .unset, .unset, .unset] [(.int ba)])) t → Steps p.tables e below (s₁.setTop (mkF m 0 #[.val (.int p1), .unset, .unset, .unset, .unset, .unset, .unset, .unset] [])) t := by
    intro t K
    show Steps p.tables e below (s₁.setTop (mkF m 0 #[.val (.int p1), .unset, .unset, .unset, .unset, .unset, .unset, .unset] [])) _
    refine XS.iloadN X0.here hx rfl (hb hby at_0) rfl ?_
    show Steps p.tables e below (s₁.setTop (mkF m 1 #[.val (.int p1), .unset, .unset, .unset, .unset, .unset, .unset, .unset] [(.int p1)])) _
    refine XS.iconst X0.here hx rfl (hb hby at_1) ?_
    show Steps p.tables e below (s₁.setTop (mkF m 2 #[.val (.int p1), .unset, .unset, .unset, .unset, .unset, .unset, .unset] [(.int (1 : Int32)), (.int p1)])) _
    refine XS.iand X0.here hx rfl (hb hby at_2) rfl ?_
    by_cases hc3 : (p1 &&& (1 : Int32)) = (0 : Int32)
    · show Steps p.tables e below (s₁.setTop (mkF m 3 #[.val (.int p1), .unset, .unset, .unset, .unset, .unset, .unset, .unset] [(.int (p1 &&& (1 : Int32)))])) _
      refine XS.ifYes X0.here hx rfl (pc0 := 3) (pc' := 10) rfl (hb hby at_3) rfl ((if0 _ _).trans (teq hc3).1) (by decide) (by decide) ?_
      show Steps p.tables e below (s₁.setTop (mkF m 10 #[.val (.int p1), .unset, .unset, .unset, .unset, .unset, .unset, .unset] [])) _
      refine XS.iconst X0.here hx rfl (hb hby at_10) ?_
      show Steps p.tables e below (s₁.setTop (mkF m 11 #[.val (.int p1), .unset, .unset, .unset, .unset, .unset, .unset, .unset] [(.int (0 : Int32))])) _
      have qba : ba = (0 : Int32) := by rw [hba]; simp only [own_b, if_pos, if_neg, hc3, not_false_eq_true]
      rw [qba] at K
      exact K
    · show Steps p.tables e below (s₁.setTop (mkF m 3 #[.val (.int p1), .unset, .unset, .unset, .unset, .unset, .unset, .unset] [(.int (p1 &&& (1 : Int32)))])) _
      refine XS.ifNo X0.here hx rfl (hb hby at_3) rfl ((if0 _ _).trans (feq hc3).1) ?_
      show Steps p.tables e below (s₁.setTop (mkF m 6 #[.val (.int p1), .unset, .unset, .unset, .unset, .unset, .unset, .unset] [])) _
      refine XS.iconst X0.here hx rfl (hb hby at_6) ?_
      show Steps p.tables e below (s₁.setTop (mkF m 7 #[.val (.int p1), .unset, .unset, .unset, .unset, .unset, .unset, .unset] [(.int (1 : Int32))])) _
      refine XS.goto X0.here hx rfl (pc0 := 7) (pc' := 11) rfl (hb hby at_7) (by decide) (by decide) ?_
      show Steps p.tables e below (s₁.setTop (mkF m 11 #[.val (.int p1), .unset, .unset, .unset, .unset, .unset, .unset, .unset] [(.int (1 : Int32))])) _
      have qba : ba = (1 : Int32) := by rw [hba]; simp only [own_b, if_pos, if_neg, hc3, not_false_eq_true]
      rw [qba] at K
      exact K
  have zba : ba = 0 ∨ ba = 1 := hba ▸ own_b01 _
  obtain ⟨bb, hbb⟩ : ∃ z : Int32, z = own_b (p1 &&& (2 : Int32)) := ⟨_, rfl⟩
  have sg2 : ∀ t, Steps p.tables e below (s₁.setTop (mkF m 23 #[.val (.int p1), .val (.int ba), .unset, .unset, .unset, .unset, .unset, .unset] [(.int bb)])) t → Steps p.tables e below (s₁.setTop (mkF m 12 #[.val (.int p1), .val (.int ba), .unset, .unset, .unset, .unset, .unset, .unset] [])) t := by
    intro t K
    show Steps p.tables e below (s₁.setTop (mkF m 12 #[.val (.int p1), .val (.int ba), .unset, .unset, .unset, .unset, .unset, .unset] [])) _
    refine XS.iloadN X0.here hx rfl (hb hby at_12) rfl ?_
    show Steps p.tables e below (s₁.setTop (mkF m 13 #[.val (.int p1), .val (.int ba), .unset, .unset, .unset, .unset, .unset, .unset] [(.int p1)])) _
    refine XS.iconst X0.here hx rfl (hb hby at_13) ?_
    show Steps p.tables e below (s₁.setTop (mkF m 14 #[.val (.int p1), .val (.int ba), .unset, .unset, .unset, .unset, .unset, .unset] [(.int (2 : Int32)), (.int p1)])) _
    refine XS.iand X0.here hx rfl (hb hby at_14) rfl ?_
    by_cases hc15 : (p1 &&& (2 : Int32)) = (0 : Int32)
    · show Steps p.tables e below (s₁.setTop (mkF m 15 #[.val (.int p1), .val (.int ba), .unset, .unset, .unset, .unset, .unset, .unset] [(.int (p1 &&& (2 : Int32)))])) _
      refine XS.ifYes X0.here hx rfl (pc0 := 15) (pc' := 22) rfl (hb hby at_15) rfl ((if0 _ _).trans (teq hc15).1) (by decide) (by decide) ?_
      show Steps p.tables e below (s₁.setTop (mkF m 22 #[.val (.int p1), .val (.int ba), .unset, .unset, .unset, .unset, .unset, .unset] [])) _
      refine XS.iconst X0.here hx rfl (hb hby at_22) ?_
      show Steps p.tables e below (s₁.setTop (mkF m 23 #[.val (.int p1), .val (.int ba), .unset, .unset, .unset, .unset, .unset, .unset] [(.int (0 : Int32))])) _
      have qbb : bb = (0 : Int32) := by rw [hbb]; simp only [own_b, if_pos, if_neg, hc15, not_false_eq_true]
      rw [qbb] at K
      exact K
    · show Steps p.tables e below (s₁.setTop (mkF m 15 #[.val (.int p1), .val (.int ba), .unset, .unset, .unset, .unset, .unset, .unset] [(.int (p1 &&& (2 : Int32)))])) _
      refine XS.ifNo X0.here hx rfl (hb hby at_15) rfl ((if0 _ _).trans (feq hc15).1) ?_
      show Steps p.tables e below (s₁.setTop (mkF m 18 #[.val (.int p1), .val (.int ba), .unset, .unset, .unset, .unset, .unset, .unset] [])) _
      refine XS.iconst X0.here hx rfl (hb hby at_18) ?_
      show Steps p.tables e below (s₁.setTop (mkF m 19 #[.val (.int p1), .val (.int ba), .unset, .unset, .unset, .unset, .unset, .unset] [(.int (1 : Int32))])) _
      refine XS.goto X0.here hx rfl (pc0 := 19) (pc' := 23) rfl (hb hby at_19) (by decide) (by decide) ?_
      show Steps p.tables e below (s₁.setTop (mkF m 23 #[.val (.int p1), .val (.int ba), .unset, .unset, .unset, .unset, .unset, .unset] [(.int (1 : Int32))])) _
      have qbb : bb = (1 : Int32) := by rw [hbb]; simp only [own_b, if_pos, if_neg, hc15, not_false_eq_true]
      rw [qbb] at K
      exact K
  have zbb : bb = 0 ∨ bb = 1 := hbb ▸ own_b01 _
  obtain ⟨bc, hbc⟩ : ∃ z : Int32, z = own_b (p1 &&& (4 : Int32)) := ⟨_, rfl⟩
  have sg3 : ∀ t, Steps p.tables e below (s₁.setTop (mkF m 35 #[.val (.int p1), .val (.int ba), .val (.int bb), .unset, .unset, .unset, .unset, .unset] [(.int bc)])) t → Steps p.tables e below (s₁.setTop (mkF m 24 #[.val (.int p1), .val (.int ba), .val (.int bb), .unset, .unset, .unset, .unset, .unset] [])) t := by
    intro t K
    show Steps p.tables e below (s₁.setTop (mkF m 24 #[.val (.int p1), .val (.int ba), .val (.int bb), .unset, .unset, .unset, .unset, .unset] [])) _
    refine XS.iloadN X0.here hx rfl (hb hby at_24) rfl ?_
    show Steps p.tables e below (s₁.setTop (mkF m 25 #[.val (.int p1), .val (.int ba), .val (.int bb), .unset, .unset, .unset, .unset, .unset] [(.int p1)])) _
    refine XS.iconst X0.here hx rfl (hb hby at_25) ?_
    show Steps p.tables e below (s₁.setTop (mkF m 26 #[.val (.int p1), .val (.int ba), .val (.int bb), .unset, .unset, .unset, .unset, .unset] [(.int (4 : Int32)), (.int p1)])) _
    refine XS.iand X0.here hx rfl (hb hby at_26) rfl ?_
    by_cases hc27 : (p1 &&& (4 : Int32)) = (0 : Int32)
    · show Steps p.tables e below (s₁.setTop (mkF m 27 #[.val (.int p1), .val (.int ba), .val (.int bb), .unset, .unset, .unset, .unset, .unset] [(.int (p1 &&& (4 : Int32)))])) _
      refine XS.ifYes X0.here hx rfl (pc0 := 27) (pc' := 34) rfl (hb hby at_27) rfl ((if0 _ _).trans (teq hc27).1) (by decide) (by decide) ?_
      show Steps p.tables e below (s₁.setTop (mkF m 34 #[.val (.int p1), .val (.int ba), .val (.int bb), .unset, .unset, .unset, .unset, .unset] [])) _
      refine XS.iconst X0.here hx rfl (hb hby at_34) ?_
      show Steps p.tables e below (s₁.setTop (mkF m 35 #[.val (.int p1), .val (.int ba), .val (.int bb), .unset, .unset, .unset, .unset, .unset] [(.int (0 : Int32))])) _
      have qbc : bc = (0 : Int32) := by rw [hbc]; simp only [own_b, if_pos, if_neg, hc27, not_false_eq_true]
      rw [qbc] at K
      exact K
    · show Steps p.tables e below (s₁.setTop (mkF m 27 #[.val (.int p1), .val (.int ba), .val (.int bb), .unset, .unset, .unset, .unset, .unset] [(.int (p1 &&& (4 : Int32)))])) _
      refine XS.ifNo X0.here hx rfl (hb hby at_27) rfl ((if0 _ _).trans (feq hc27).1) ?_
      show Steps p.tables e below (s₁.setTop (mkF m 30 #[.val (.int p1), .val (.int ba), .val (.int bb), .unset, .unset, .unset, .unset, .unset] [])) _
      refine XS.iconst X0.here hx rfl (hb hby at_30) ?_
      show Steps p.tables e below (s₁.setTop (mkF m 31 #[.val (.int p1), .val (.int ba), .val (.int bb), .unset, .unset, .unset, .unset, .unset] [(.int (1 : Int32))])) _
      refine XS.goto X0.here hx rfl (pc0 := 31) (pc' := 35) rfl (hb hby at_31) (by decide) (by decide) ?_
      show Steps p.tables e below (s₁.setTop (mkF m 35 #[.val (.int p1), .val (.int ba), .val (.int bb), .unset, .unset, .unset, .unset, .unset] [(.int (1 : Int32))])) _
      have qbc : bc = (1 : Int32) := by rw [hbc]; simp only [own_b, if_pos, if_neg, hc27, not_false_eq_true]
      rw [qbc] at K
      exact K
  have zbc : bc = 0 ∨ bc = 1 := hbc ▸ own_b01 _
  obtain ⟨f1, f2, f3, f4, f5, f6⟩ := own_facts ba bb bc zba zbb zbc
  obtain ⟨_, _, ⟨T4, L4, k4, n4⟩, -, X4, ⟨Lc4, hQ4, l4, y4, z4⟩, st4⟩ := Jvm.LawKit.callS X0 hx (y := (⟨"com/example/nivel/nivel/store/ValueIndex", "flags", "(ZZZ)I"⟩ : MethodName)) hown (mvT hZ (hw _ (List.mem_of_getElem? (i := 0) rfl))) (mvT hZ (hw _ (List.mem_of_getElem? (i := 1) rfl))) (mvT hZ (hw _ (List.mem_of_getElem? (i := 2) rfl))) (mvT hZ (hw _ (List.mem_of_getElem? (i := 3) rfl))) (by decide) (backOf (W := 0) (own_rm1 l Z a0 hw [] ba bb bc  h0 n0 Z0) hZ (hw _ (List.mem_of_getElem? (i := 3) rfl)) (hw _ (List.mem_of_getElem? (i := 2) rfl)) (by decide) (by decide)) (g := (mkF m 39 #[.val (.int p1), .val (.int ba), .val (.int bb), .val (.int bc), .unset, .unset, .unset, .unset] [(.int bc), (.int bb), (.int ba)])) rfl (by rw [hml]; rfl) (argsL := [(.int ba), (.int bb), (.int bc)]) (rest := []) (lenOf own_pd0 rfl) rfl (by show 2 * 0 + _ ≤ _; exact Nat.le_of_eq rfl) (hb hby at_39) (fun _ _ => ⟨rfl, e0, (by decide : 0 + 0 ≤ _), (by decide : 0 + 0 ≤ _)⟩)
  dsimp only [Pt.U, Pt.locs, Pt.cells, Pt.slots] at X4 l4 y4 z4 st4 hQ4
  subst l4 y4 z4
  obtain ⟨rfl, N4q, e4⟩ := hQ4
  have N4 := Fr.app N0 N4q
  obtain ⟨rr, n_rr⟩ : ∃ z : Int32, z = (own_fl ba bb bc) := ⟨_, rfl⟩
  rw [← n_rr] at f1 f2 f3 f4 f5 f6
  obtain ⟨da, hda⟩ : ∃ z : Int32, z = own_b (rr &&& (1 : Int32)) := ⟨_, rfl⟩
  have sg5 : ∀ t, Steps p.tables e below (T4.setTop (mkF m 75 #[.val (.int p1), .val (.int ba), .val (.int bb), .val (.int bc), .val (.int rr), .val (.int (1 : Int32)), .unset, .unset] [(.int da)])) t → Steps p.tables e below (T4.setTop (mkF m 63 #[.val (.int p1), .val (.int ba), .val (.int bb), .val (.int bc), .val (.int rr), .val (.int (1 : Int32)), .unset, .unset] [])) t := by
    intro t K
    show Steps p.tables e below (T4.setTop (mkF m 63 #[.val (.int p1), .val (.int ba), .val (.int bb), .val (.int bc), .val (.int rr), .val (.int (1 : Int32)), .unset, .unset] [])) _
    refine XS.iload X4.here hx rfl (hb hby at_63) rfl ?_
    show Steps p.tables e below (T4.setTop (mkF m 65 #[.val (.int p1), .val (.int ba), .val (.int bb), .val (.int bc), .val (.int rr), .val (.int (1 : Int32)), .unset, .unset] [(.int rr)])) _
    refine XS.iconst X4.here hx rfl (hb hby at_65) ?_
    show Steps p.tables e below (T4.setTop (mkF m 66 #[.val (.int p1), .val (.int ba), .val (.int bb), .val (.int bc), .val (.int rr), .val (.int (1 : Int32)), .unset, .unset] [(.int (1 : Int32)), (.int rr)])) _
    refine XS.iand X4.here hx rfl (hb hby at_66) rfl ?_
    by_cases hc67 : (rr &&& (1 : Int32)) = (0 : Int32)
    · show Steps p.tables e below (T4.setTop (mkF m 67 #[.val (.int p1), .val (.int ba), .val (.int bb), .val (.int bc), .val (.int rr), .val (.int (1 : Int32)), .unset, .unset] [(.int (rr &&& (1 : Int32)))])) _
      refine XS.ifYes X4.here hx rfl (pc0 := 67) (pc' := 74) rfl (hb hby at_67) rfl ((if0 _ _).trans (teq hc67).1) (by decide) (by decide) ?_
      show Steps p.tables e below (T4.setTop (mkF m 74 #[.val (.int p1), .val (.int ba), .val (.int bb), .val (.int bc), .val (.int rr), .val (.int (1 : Int32)), .unset, .unset] [])) _
      refine XS.iconst X4.here hx rfl (hb hby at_74) ?_
      show Steps p.tables e below (T4.setTop (mkF m 75 #[.val (.int p1), .val (.int ba), .val (.int bb), .val (.int bc), .val (.int rr), .val (.int (1 : Int32)), .unset, .unset] [(.int (0 : Int32))])) _
      have qda : da = (0 : Int32) := by rw [hda]; simp only [own_b, if_pos, if_neg, hc67, not_false_eq_true]
      rw [qda] at K
      exact K
    · show Steps p.tables e below (T4.setTop (mkF m 67 #[.val (.int p1), .val (.int ba), .val (.int bb), .val (.int bc), .val (.int rr), .val (.int (1 : Int32)), .unset, .unset] [(.int (rr &&& (1 : Int32)))])) _
      refine XS.ifNo X4.here hx rfl (hb hby at_67) rfl ((if0 _ _).trans (feq hc67).1) ?_
      show Steps p.tables e below (T4.setTop (mkF m 70 #[.val (.int p1), .val (.int ba), .val (.int bb), .val (.int bc), .val (.int rr), .val (.int (1 : Int32)), .unset, .unset] [])) _
      refine XS.iconst X4.here hx rfl (hb hby at_70) ?_
      show Steps p.tables e below (T4.setTop (mkF m 71 #[.val (.int p1), .val (.int ba), .val (.int bb), .val (.int bc), .val (.int rr), .val (.int (1 : Int32)), .unset, .unset] [(.int (1 : Int32))])) _
      refine XS.goto X4.here hx rfl (pc0 := 71) (pc' := 75) rfl (hb hby at_71) (by decide) (by decide) ?_
      show Steps p.tables e below (T4.setTop (mkF m 75 #[.val (.int p1), .val (.int ba), .val (.int bb), .val (.int bc), .val (.int rr), .val (.int (1 : Int32)), .unset, .unset] [(.int (1 : Int32))])) _
      have qda : da = (1 : Int32) := by rw [hda]; simp only [own_b, if_pos, if_neg, hc67, not_false_eq_true]
      rw [qda] at K
      exact K
  obtain ⟨db, hdb⟩ : ∃ z : Int32, z = own_b (rr &&& (2 : Int32)) := ⟨_, rfl⟩
  have sg6 : ∀ t, Steps p.tables e below (T4.setTop (mkF m 91 #[.val (.int p1), .val (.int ba), .val (.int bb), .val (.int bc), .val (.int rr), .val (.int (1 : Int32)), .unset, .unset] [(.int db)])) t → Steps p.tables e below (T4.setTop (mkF m 79 #[.val (.int p1), .val (.int ba), .val (.int bb), .val (.int bc), .val (.int rr), .val (.int (1 : Int32)), .unset, .unset] [])) t := by
    intro t K
    show Steps p.tables e below (T4.setTop (mkF m 79 #[.val (.int p1), .val (.int ba), .val (.int bb), .val (.int bc), .val (.int rr), .val (.int (1 : Int32)), .unset, .unset] [])) _
    refine XS.iload X4.here hx rfl (hb hby at_79) rfl ?_
    show Steps p.tables e below (T4.setTop (mkF m 81 #[.val (.int p1), .val (.int ba), .val (.int bb), .val (.int bc), .val (.int rr), .val (.int (1 : Int32)), .unset, .unset] [(.int rr)])) _
    refine XS.iconst X4.here hx rfl (hb hby at_81) ?_
    show Steps p.tables e below (T4.setTop (mkF m 82 #[.val (.int p1), .val (.int ba), .val (.int bb), .val (.int bc), .val (.int rr), .val (.int (1 : Int32)), .unset, .unset] [(.int (2 : Int32)), (.int rr)])) _
    refine XS.iand X4.here hx rfl (hb hby at_82) rfl ?_
    by_cases hc83 : (rr &&& (2 : Int32)) = (0 : Int32)
    · show Steps p.tables e below (T4.setTop (mkF m 83 #[.val (.int p1), .val (.int ba), .val (.int bb), .val (.int bc), .val (.int rr), .val (.int (1 : Int32)), .unset, .unset] [(.int (rr &&& (2 : Int32)))])) _
      refine XS.ifYes X4.here hx rfl (pc0 := 83) (pc' := 90) rfl (hb hby at_83) rfl ((if0 _ _).trans (teq hc83).1) (by decide) (by decide) ?_
      show Steps p.tables e below (T4.setTop (mkF m 90 #[.val (.int p1), .val (.int ba), .val (.int bb), .val (.int bc), .val (.int rr), .val (.int (1 : Int32)), .unset, .unset] [])) _
      refine XS.iconst X4.here hx rfl (hb hby at_90) ?_
      show Steps p.tables e below (T4.setTop (mkF m 91 #[.val (.int p1), .val (.int ba), .val (.int bb), .val (.int bc), .val (.int rr), .val (.int (1 : Int32)), .unset, .unset] [(.int (0 : Int32))])) _
      have qdb : db = (0 : Int32) := by rw [hdb]; simp only [own_b, if_pos, if_neg, hc83, not_false_eq_true]
      rw [qdb] at K
      exact K
    · show Steps p.tables e below (T4.setTop (mkF m 83 #[.val (.int p1), .val (.int ba), .val (.int bb), .val (.int bc), .val (.int rr), .val (.int (1 : Int32)), .unset, .unset] [(.int (rr &&& (2 : Int32)))])) _
      refine XS.ifNo X4.here hx rfl (hb hby at_83) rfl ((if0 _ _).trans (feq hc83).1) ?_
      show Steps p.tables e below (T4.setTop (mkF m 86 #[.val (.int p1), .val (.int ba), .val (.int bb), .val (.int bc), .val (.int rr), .val (.int (1 : Int32)), .unset, .unset] [])) _
      refine XS.iconst X4.here hx rfl (hb hby at_86) ?_
      show Steps p.tables e below (T4.setTop (mkF m 87 #[.val (.int p1), .val (.int ba), .val (.int bb), .val (.int bc), .val (.int rr), .val (.int (1 : Int32)), .unset, .unset] [(.int (1 : Int32))])) _
      refine XS.goto X4.here hx rfl (pc0 := 87) (pc' := 91) rfl (hb hby at_87) (by decide) (by decide) ?_
      show Steps p.tables e below (T4.setTop (mkF m 91 #[.val (.int p1), .val (.int ba), .val (.int bb), .val (.int bc), .val (.int rr), .val (.int (1 : Int32)), .unset, .unset] [(.int (1 : Int32))])) _
      have qdb : db = (1 : Int32) := by rw [hdb]; simp only [own_b, if_pos, if_neg, hc83, not_false_eq_true]
      rw [qdb] at K
      exact K
  obtain ⟨dc, hdc⟩ : ∃ z : Int32, z = own_b (rr &&& (4 : Int32)) := ⟨_, rfl⟩
  have sg7 : ∀ t, Steps p.tables e below (T4.setTop (mkF m 107 #[.val (.int p1), .val (.int ba), .val (.int bb), .val (.int bc), .val (.int rr), .val (.int (1 : Int32)), .unset, .unset] [(.int dc)])) t → Steps p.tables e below (T4.setTop (mkF m 95 #[.val (.int p1), .val (.int ba), .val (.int bb), .val (.int bc), .val (.int rr), .val (.int (1 : Int32)), .unset, .unset] [])) t := by
    intro t K
    show Steps p.tables e below (T4.setTop (mkF m 95 #[.val (.int p1), .val (.int ba), .val (.int bb), .val (.int bc), .val (.int rr), .val (.int (1 : Int32)), .unset, .unset] [])) _
    refine XS.iload X4.here hx rfl (hb hby at_95) rfl ?_
    show Steps p.tables e below (T4.setTop (mkF m 97 #[.val (.int p1), .val (.int ba), .val (.int bb), .val (.int bc), .val (.int rr), .val (.int (1 : Int32)), .unset, .unset] [(.int rr)])) _
    refine XS.iconst X4.here hx rfl (hb hby at_97) ?_
    show Steps p.tables e below (T4.setTop (mkF m 98 #[.val (.int p1), .val (.int ba), .val (.int bb), .val (.int bc), .val (.int rr), .val (.int (1 : Int32)), .unset, .unset] [(.int (4 : Int32)), (.int rr)])) _
    refine XS.iand X4.here hx rfl (hb hby at_98) rfl ?_
    by_cases hc99 : (rr &&& (4 : Int32)) = (0 : Int32)
    · show Steps p.tables e below (T4.setTop (mkF m 99 #[.val (.int p1), .val (.int ba), .val (.int bb), .val (.int bc), .val (.int rr), .val (.int (1 : Int32)), .unset, .unset] [(.int (rr &&& (4 : Int32)))])) _
      refine XS.ifYes X4.here hx rfl (pc0 := 99) (pc' := 106) rfl (hb hby at_99) rfl ((if0 _ _).trans (teq hc99).1) (by decide) (by decide) ?_
      show Steps p.tables e below (T4.setTop (mkF m 106 #[.val (.int p1), .val (.int ba), .val (.int bb), .val (.int bc), .val (.int rr), .val (.int (1 : Int32)), .unset, .unset] [])) _
      refine XS.iconst X4.here hx rfl (hb hby at_106) ?_
      show Steps p.tables e below (T4.setTop (mkF m 107 #[.val (.int p1), .val (.int ba), .val (.int bb), .val (.int bc), .val (.int rr), .val (.int (1 : Int32)), .unset, .unset] [(.int (0 : Int32))])) _
      have qdc : dc = (0 : Int32) := by rw [hdc]; simp only [own_b, if_pos, if_neg, hc99, not_false_eq_true]
      rw [qdc] at K
      exact K
    · show Steps p.tables e below (T4.setTop (mkF m 99 #[.val (.int p1), .val (.int ba), .val (.int bb), .val (.int bc), .val (.int rr), .val (.int (1 : Int32)), .unset, .unset] [(.int (rr &&& (4 : Int32)))])) _
      refine XS.ifNo X4.here hx rfl (hb hby at_99) rfl ((if0 _ _).trans (feq hc99).1) ?_
      show Steps p.tables e below (T4.setTop (mkF m 102 #[.val (.int p1), .val (.int ba), .val (.int bb), .val (.int bc), .val (.int rr), .val (.int (1 : Int32)), .unset, .unset] [])) _
      refine XS.iconst X4.here hx rfl (hb hby at_102) ?_
      show Steps p.tables e below (T4.setTop (mkF m 103 #[.val (.int p1), .val (.int ba), .val (.int bb), .val (.int bc), .val (.int rr), .val (.int (1 : Int32)), .unset, .unset] [(.int (1 : Int32))])) _
      refine XS.goto X4.here hx rfl (pc0 := 103) (pc' := 107) rfl (hb hby at_103) (by decide) (by decide) ?_
      show Steps p.tables e below (T4.setTop (mkF m 107 #[.val (.int p1), .val (.int ba), .val (.int bb), .val (.int bc), .val (.int rr), .val (.int (1 : Int32)), .unset, .unset] [(.int (1 : Int32))])) _
      have qdc : dc = (1 : Int32) := by rw [hdc]; simp only [own_b, if_pos, if_neg, hc99, not_false_eq_true]
      rw [qdc] at K
      exact K
  obtain ⟨_, _, ⟨T8, L8, k8, n8⟩, -, X8, ⟨Lc8, hQ8, l8, y8, z8⟩, st8⟩ := Jvm.LawKit.callS X4 hx (y := (⟨"com/example/nivel/nivel/store/ValueIndex", "mixed", "(I)I"⟩ : MethodName)) hown (mvT hZ (hw _ (List.mem_of_getElem? (i := 4) rfl))) (mvT hZ (hw _ (List.mem_of_getElem? (i := 5) rfl))) (mvT hZ (hw _ (List.mem_of_getElem? (i := 2) rfl))) (mvT hZ (hw _ (List.mem_of_getElem? (i := 6) rfl))) (by decide) (backOf (W := 0) (own_rm2 l Z a0 hw [] rr  h0 n0 Z0) hZ (hw _ (List.mem_of_getElem? (i := 6) rfl)) (hw _ (List.mem_of_getElem? (i := 2) rfl)) (by decide) (by decide)) (g := (mkF m 120 #[.val (.int p1), .val (.int ba), .val (.int bb), .val (.int bc), .val (.int rr), .val (.int (1 : Int32)), .val (.int (1 : Int32)), .unset] [(.int rr)])) rfl (by rw [hml]; rfl) (argsL := [(.int rr)]) (rest := []) (lenOf own_pd1 rfl) rfl (by show 2 * 0 + _ ≤ _; exact Nat.le_of_eq rfl) (hb hby at_120) (fun _ _ => ⟨rfl, e4, (by decide : 0 + 0 ≤ _), (by decide : 0 + 0 ≤ _)⟩)
  dsimp only [Pt.U, Pt.locs, Pt.cells, Pt.slots] at X8 l8 y8 z8 st8 hQ8
  subst l8 y8 z8
  obtain ⟨rfl, N8q, e8⟩ := hQ8
  have N8 := Fr.app N4 N8q
  obtain ⟨_, _, ⟨T9, L9, k9, n9⟩, -, X9, ⟨Lc9, hQ9, l9, y9, z9⟩, st9⟩ := Jvm.LawKit.callS X8 hx (y := (⟨"com/example/nivel/nivel/store/ValueIndex", "flags", "(ZZZ)I"⟩ : MethodName)) hown (mvT hZ (hw _ (List.mem_of_getElem? (i := 0) rfl))) (mvT hZ (hw _ (List.mem_of_getElem? (i := 1) rfl))) (mvT hZ (hw _ (List.mem_of_getElem? (i := 2) rfl))) (mvT hZ (hw _ (List.mem_of_getElem? (i := 3) rfl))) (by decide) (backOf (W := 1) (own_rm1 l Z a0 hw [] ba (1 : Int32) bc  h0 n0 Z0) hZ (hw _ (List.mem_of_getElem? (i := 3) rfl)) (hw _ (List.mem_of_getElem? (i := 2) rfl)) (by decide) (by decide)) (g := (mkF m 126 #[.val (.int p1), .val (.int ba), .val (.int bb), .val (.int bc), .val (.int rr), .val (.int (1 : Int32)), .val (.int (1 : Int32)), .unset] [(.int bc), (.int (1 : Int32)), (.int ba), (.int (rr ||| (2 : Int32)))])) rfl (by rw [hml]; rfl) (argsL := [(.int ba), (.int (1 : Int32)), (.int bc)]) (rest := [(.int (rr ||| (2 : Int32)))]) (lenOf own_pd0 rfl) rfl (by show 2 * 0 + _ ≤ _; exact Nat.le_of_eq rfl) (hb hby at_126) (fun _ _ => ⟨rfl, e8, (by decide : 0 + 0 ≤ _), (by decide : 0 + 0 ≤ _)⟩)
  dsimp only [Pt.U, Pt.locs, Pt.cells, Pt.slots] at X9 l9 y9 z9 st9 hQ9
  subst l9 y9 z9
  obtain ⟨rfl, N9q, e9⟩ := hQ9
  have N9 := Fr.app N8 N9q
  obtain ⟨fs, hr, hrun, hended, hW, hsame⟩ := X9.leave (v := some (.int (1 : Int32))) (fun h => by rw [Bd.returns] at h; cases h)
  refine ⟨_, _, pre0 _ ?_, hrun, hended, _, _, rfl, ?_, ⟨_, rfl⟩, hW, hsame.mono (by decide) (by decide)⟩
  · show Steps p.tables e below (s₁.setTop (mkF m 0 #[.val (.int p1), .unset, .unset, .unset, .unset, .unset, .unset, .unset] [])) _
    refine sg1 _ ?_
    show Steps p.tables e below (s₁.setTop (mkF m 11 #[.val (.int p1), .unset, .unset, .unset, .unset, .unset, .unset, .unset] [(.int ba)])) _
    refine XS.istoreN X0.here hx rfl (hb hby at_11) rfl (l' := #[.val (.int p1), .val (.int ba), .unset, .unset, .unset, .unset, .unset, .unset]) rfl ?_
    show Steps p.tables e below (s₁.setTop (mkF m 12 #[.val (.int p1), .val (.int ba), .unset, .unset, .unset, .unset, .unset, .unset] [])) _
    refine sg2 _ ?_
    show Steps p.tables e below (s₁.setTop (mkF m 23 #[.val (.int p1), .val (.int ba), .unset, .unset, .unset, .unset, .unset, .unset] [(.int bb)])) _
    refine XS.istoreN X0.here hx rfl (hb hby at_23) rfl (l' := #[.val (.int p1), .val (.int ba), .val (.int bb), .unset, .unset, .unset, .unset, .unset]) rfl ?_
    show Steps p.tables e below (s₁.setTop (mkF m 24 #[.val (.int p1), .val (.int ba), .val (.int bb), .unset, .unset, .unset, .unset, .unset] [])) _
    refine sg3 _ ?_
    show Steps p.tables e below (s₁.setTop (mkF m 35 #[.val (.int p1), .val (.int ba), .val (.int bb), .unset, .unset, .unset, .unset, .unset] [(.int bc)])) _
    refine XS.istoreN X0.here hx rfl (hb hby at_35) rfl (l' := #[.val (.int p1), .val (.int ba), .val (.int bb), .val (.int bc), .unset, .unset, .unset, .unset]) rfl ?_
    show Steps p.tables e below (s₁.setTop (mkF m 36 #[.val (.int p1), .val (.int ba), .val (.int bb), .val (.int bc), .unset, .unset, .unset, .unset] [])) _
    refine XS.iloadN X0.here hx rfl (hb hby at_36) rfl ?_
    show Steps p.tables e below (s₁.setTop (mkF m 37 #[.val (.int p1), .val (.int ba), .val (.int bb), .val (.int bc), .unset, .unset, .unset, .unset] [(.int ba)])) _
    refine XS.iloadN X0.here hx rfl (hb hby at_37) rfl ?_
    show Steps p.tables e below (s₁.setTop (mkF m 38 #[.val (.int p1), .val (.int ba), .val (.int bb), .val (.int bc), .unset, .unset, .unset, .unset] [(.int bb), (.int ba)])) _
    refine XS.iloadN X0.here hx rfl (hb hby at_38) rfl ?_
    show Steps p.tables e below (s₁.setTop (mkF m 39 #[.val (.int p1), .val (.int ba), .val (.int bb), .val (.int bc), .unset, .unset, .unset, .unset] [(.int bc), (.int bb), (.int ba)])) _
    refine st4 _ ?_
    show Steps p.tables e below (T4.setTop (mkF m 42 #[.val (.int p1), .val (.int ba), .val (.int bb), .val (.int bc), .unset, .unset, .unset, .unset] [(.int (own_fl ba bb bc))])) _
    rw [← n_rr]
    show Steps p.tables e below (T4.setTop (mkF m 42 #[.val (.int p1), .val (.int ba), .val (.int bb), .val (.int bc), .unset, .unset, .unset, .unset] [(.int rr)])) _
    refine XS.istore X4.here hx rfl (hb hby at_42) rfl (l' := #[.val (.int p1), .val (.int ba), .val (.int bb), .val (.int bc), .val (.int rr), .unset, .unset, .unset]) rfl ?_
    show Steps p.tables e below (T4.setTop (mkF m 44 #[.val (.int p1), .val (.int ba), .val (.int bb), .val (.int bc), .val (.int rr), .unset, .unset, .unset] [])) _
    refine XS.iload X4.here hx rfl (hb hby at_44) rfl ?_
    show Steps p.tables e below (T4.setTop (mkF m 46 #[.val (.int p1), .val (.int ba), .val (.int bb), .val (.int bc), .val (.int rr), .unset, .unset, .unset] [(.int rr)])) _
    refine XS.ifNo X4.here hx rfl (hb hby at_46) rfl ((if0 _ _).trans (flt (f1 : ¬ (rr < (0 : Int32)))).1) ?_
    show Steps p.tables e below (T4.setTop (mkF m 49 #[.val (.int p1), .val (.int ba), .val (.int bb), .val (.int bc), .val (.int rr), .unset, .unset, .unset] [])) _
    refine XS.iload X4.here hx rfl (hb hby at_49) rfl ?_
    show Steps p.tables e below (T4.setTop (mkF m 51 #[.val (.int p1), .val (.int ba), .val (.int bb), .val (.int bc), .val (.int rr), .unset, .unset, .unset] [(.int rr)])) _
    refine XS.bipush X4.here hx rfl (hb hby at_51) ?_
    show Steps p.tables e below (T4.setTop (mkF m 53 #[.val (.int p1), .val (.int ba), .val (.int bb), .val (.int bc), .val (.int rr), .unset, .unset, .unset] [(.int (7 : Int32)), (.int rr)])) _
    refine XS.icmpNo X4.here hx rfl (hb hby at_53) rfl (flt (f2 : ¬ ((7 : Int32) < rr))).2.2.1 ?_
    show Steps p.tables e below (T4.setTop (mkF m 56 #[.val (.int p1), .val (.int ba), .val (.int bb), .val (.int bc), .val (.int rr), .unset, .unset, .unset] [])) _
    refine XS.iconst X4.here hx rfl (hb hby at_56) ?_
    show Steps p.tables e below (T4.setTop (mkF m 57 #[.val (.int p1), .val (.int ba), .val (.int bb), .val (.int bc), .val (.int rr), .unset, .unset, .unset] [(.int (1 : Int32))])) _
    refine XS.goto X4.here hx rfl (pc0 := 57) (pc' := 61) rfl (hb hby at_57) (by decide) (by decide) ?_
    show Steps p.tables e below (T4.setTop (mkF m 61 #[.val (.int p1), .val (.int ba), .val (.int bb), .val (.int bc), .val (.int rr), .unset, .unset, .unset] [(.int (1 : Int32))])) _
    refine XS.istore X4.here hx rfl (hb hby at_61) rfl (l' := #[.val (.int p1), .val (.int ba), .val (.int bb), .val (.int bc), .val (.int rr), .val (.int (1 : Int32)), .unset, .unset]) rfl ?_
    show Steps p.tables e below (T4.setTop (mkF m 63 #[.val (.int p1), .val (.int ba), .val (.int bb), .val (.int bc), .val (.int rr), .val (.int (1 : Int32)), .unset, .unset] [])) _
    refine sg5 _ ?_
    show Steps p.tables e below (T4.setTop (mkF m 75 #[.val (.int p1), .val (.int ba), .val (.int bb), .val (.int bc), .val (.int rr), .val (.int (1 : Int32)), .unset, .unset] [(.int da)])) _
    refine XS.iloadN X4.here hx rfl (hb hby at_75) rfl ?_
    show Steps p.tables e below (T4.setTop (mkF m 76 #[.val (.int p1), .val (.int ba), .val (.int bb), .val (.int bc), .val (.int rr), .val (.int (1 : Int32)), .unset, .unset] [(.int ba), (.int da)])) _
    refine XS.icmpNo X4.here hx rfl (hb hby at_76) rfl (teq (hda.trans f3 : da = ba)).2 ?_
    show Steps p.tables e below (T4.setTop (mkF m 79 #[.val (.int p1), .val (.int ba), .val (.int bb), .val (.int bc), .val (.int rr), .val (.int (1 : Int32)), .unset, .unset] [])) _
    refine sg6 _ ?_
    show Steps p.tables e below (T4.setTop (mkF m 91 #[.val (.int p1), .val (.int ba), .val (.int bb), .val (.int bc), .val (.int rr), .val (.int (1 : Int32)), .unset, .unset] [(.int db)])) _
    refine XS.iloadN X4.here hx rfl (hb hby at_91) rfl ?_
    show Steps p.tables e below (T4.setTop (mkF m 92 #[.val (.int p1), .val (.int ba), .val (.int bb), .val (.int bc), .val (.int rr), .val (.int (1 : Int32)), .unset, .unset] [(.int bb), (.int db)])) _
    refine XS.icmpNo X4.here hx rfl (hb hby at_92) rfl (teq (hdb.trans f4 : db = bb)).2 ?_
    show Steps p.tables e below (T4.setTop (mkF m 95 #[.val (.int p1), .val (.int ba), .val (.int bb), .val (.int bc), .val (.int rr), .val (.int (1 : Int32)), .unset, .unset] [])) _
    refine sg7 _ ?_
    show Steps p.tables e below (T4.setTop (mkF m 107 #[.val (.int p1), .val (.int ba), .val (.int bb), .val (.int bc), .val (.int rr), .val (.int (1 : Int32)), .unset, .unset] [(.int dc)])) _
    refine XS.iloadN X4.here hx rfl (hb hby at_107) rfl ?_
    show Steps p.tables e below (T4.setTop (mkF m 108 #[.val (.int p1), .val (.int ba), .val (.int bb), .val (.int bc), .val (.int rr), .val (.int (1 : Int32)), .unset, .unset] [(.int bc), (.int dc)])) _
    refine XS.icmpNo X4.here hx rfl (hb hby at_108) rfl (teq (hdc.trans f5 : dc = bc)).2 ?_
    show Steps p.tables e below (T4.setTop (mkF m 111 #[.val (.int p1), .val (.int ba), .val (.int bb), .val (.int bc), .val (.int rr), .val (.int (1 : Int32)), .unset, .unset] [])) _
    refine XS.iconst X4.here hx rfl (hb hby at_111) ?_
    show Steps p.tables e below (T4.setTop (mkF m 112 #[.val (.int p1), .val (.int ba), .val (.int bb), .val (.int bc), .val (.int rr), .val (.int (1 : Int32)), .unset, .unset] [(.int (1 : Int32))])) _
    refine XS.goto X4.here hx rfl (pc0 := 112) (pc' := 116) rfl (hb hby at_112) (by decide) (by decide) ?_
    show Steps p.tables e below (T4.setTop (mkF m 116 #[.val (.int p1), .val (.int ba), .val (.int bb), .val (.int bc), .val (.int rr), .val (.int (1 : Int32)), .unset, .unset] [(.int (1 : Int32))])) _
    refine XS.istore X4.here hx rfl (hb hby at_116) rfl (l' := #[.val (.int p1), .val (.int ba), .val (.int bb), .val (.int bc), .val (.int rr), .val (.int (1 : Int32)), .val (.int (1 : Int32)), .unset]) rfl ?_
    show Steps p.tables e below (T4.setTop (mkF m 118 #[.val (.int p1), .val (.int ba), .val (.int bb), .val (.int bc), .val (.int rr), .val (.int (1 : Int32)), .val (.int (1 : Int32)), .unset] [])) _
    refine XS.iload X4.here hx rfl (hb hby at_118) rfl ?_
    show Steps p.tables e below (T4.setTop (mkF m 120 #[.val (.int p1), .val (.int ba), .val (.int bb), .val (.int bc), .val (.int rr), .val (.int (1 : Int32)), .val (.int (1 : Int32)), .unset] [(.int rr)])) _
    refine st8 _ ?_
    show Steps p.tables e below (T8.setTop (mkF m 123 #[.val (.int p1), .val (.int ba), .val (.int bb), .val (.int bc), .val (.int rr), .val (.int (1 : Int32)), .val (.int (1 : Int32)), .unset] [(.int (rr ||| (2 : Int32)))])) _
    refine XS.iloadN X8.here hx rfl (hb hby at_123) rfl ?_
    show Steps p.tables e below (T8.setTop (mkF m 124 #[.val (.int p1), .val (.int ba), .val (.int bb), .val (.int bc), .val (.int rr), .val (.int (1 : Int32)), .val (.int (1 : Int32)), .unset] [(.int ba), (.int (rr ||| (2 : Int32)))])) _
    refine XS.iconst X8.here hx rfl (hb hby at_124) ?_
    show Steps p.tables e below (T8.setTop (mkF m 125 #[.val (.int p1), .val (.int ba), .val (.int bb), .val (.int bc), .val (.int rr), .val (.int (1 : Int32)), .val (.int (1 : Int32)), .unset] [(.int (1 : Int32)), (.int ba), (.int (rr ||| (2 : Int32)))])) _
    refine XS.iloadN X8.here hx rfl (hb hby at_125) rfl ?_
    show Steps p.tables e below (T8.setTop (mkF m 126 #[.val (.int p1), .val (.int ba), .val (.int bb), .val (.int bc), .val (.int rr), .val (.int (1 : Int32)), .val (.int (1 : Int32)), .unset] [(.int bc), (.int (1 : Int32)), (.int ba), (.int (rr ||| (2 : Int32)))])) _
    refine st9 _ ?_
    show Steps p.tables e below (T9.setTop (mkF m 129 #[.val (.int p1), .val (.int ba), .val (.int bb), .val (.int bc), .val (.int rr), .val (.int (1 : Int32)), .val (.int (1 : Int32)), .unset] [(.int (own_fl ba (1 : Int32) bc)), (.int (rr ||| (2 : Int32)))])) _
    refine XS.icmpNo X9.here hx rfl (hb hby at_129) rfl (teq (f6 : (rr ||| (2 : Int32)) = (own_fl ba (1 : Int32) bc))).2 ?_
    show Steps p.tables e below (T9.setTop (mkF m 132 #[.val (.int p1), .val (.int ba), .val (.int bb), .val (.int bc), .val (.int rr), .val (.int (1 : Int32)), .val (.int (1 : Int32)), .unset] [])) _
    refine XS.iconst X9.here hx rfl (hb hby at_132) ?_
    show Steps p.tables e below (T9.setTop (mkF m 133 #[.val (.int p1), .val (.int ba), .val (.int bb), .val (.int bc), .val (.int rr), .val (.int (1 : Int32)), .val (.int (1 : Int32)), .unset] [(.int (1 : Int32))])) _
    refine XS.goto X9.here hx rfl (pc0 := 133) (pc' := 137) rfl (hb hby at_133) (by decide) (by decide) ?_
    show Steps p.tables e below (T9.setTop (mkF m 137 #[.val (.int p1), .val (.int ba), .val (.int bb), .val (.int bc), .val (.int rr), .val (.int (1 : Int32)), .val (.int (1 : Int32)), .unset] [(.int (1 : Int32))])) _
    refine XS.istore X9.here hx rfl (hb hby at_137) rfl (l' := #[.val (.int p1), .val (.int ba), .val (.int bb), .val (.int bc), .val (.int rr), .val (.int (1 : Int32)), .val (.int (1 : Int32)), .val (.int (1 : Int32))]) rfl ?_
    show Steps p.tables e below (T9.setTop (mkF m 139 #[.val (.int p1), .val (.int ba), .val (.int bb), .val (.int bc), .val (.int rr), .val (.int (1 : Int32)), .val (.int (1 : Int32)), .val (.int (1 : Int32))] [])) _
    refine XS.iload X9.here hx rfl (hb hby at_139) rfl ?_
    show Steps p.tables e below (T9.setTop (mkF m 141 #[.val (.int p1), .val (.int ba), .val (.int bb), .val (.int bc), .val (.int rr), .val (.int (1 : Int32)), .val (.int (1 : Int32)), .val (.int (1 : Int32))] [(.int (1 : Int32))])) _
    refine XS.ifNo X9.here hx rfl (hb hby at_141) rfl ((if0 _ _).trans (feq (by decide : ¬ ((1 : Int32) = (0 : Int32)))).1) ?_
    show Steps p.tables e below (T9.setTop (mkF m 144 #[.val (.int p1), .val (.int ba), .val (.int bb), .val (.int bc), .val (.int rr), .val (.int (1 : Int32)), .val (.int (1 : Int32)), .val (.int (1 : Int32))] [])) _
    refine XS.iload X9.here hx rfl (hb hby at_144) rfl ?_
    show Steps p.tables e below (T9.setTop (mkF m 146 #[.val (.int p1), .val (.int ba), .val (.int bb), .val (.int bc), .val (.int rr), .val (.int (1 : Int32)), .val (.int (1 : Int32)), .val (.int (1 : Int32))] [(.int (1 : Int32))])) _
    refine XS.ifNo X9.here hx rfl (hb hby at_146) rfl ((if0 _ _).trans (feq (by decide : ¬ ((1 : Int32) = (0 : Int32)))).1) ?_
    show Steps p.tables e below (T9.setTop (mkF m 149 #[.val (.int p1), .val (.int ba), .val (.int bb), .val (.int bc), .val (.int rr), .val (.int (1 : Int32)), .val (.int (1 : Int32)), .val (.int (1 : Int32))] [])) _
    refine XS.iload X9.here hx rfl (hb hby at_149) rfl ?_
    show Steps p.tables e below (T9.setTop (mkF m 151 #[.val (.int p1), .val (.int ba), .val (.int bb), .val (.int bc), .val (.int rr), .val (.int (1 : Int32)), .val (.int (1 : Int32)), .val (.int (1 : Int32))] [(.int (1 : Int32))])) _
    refine XS.ifNo X9.here hx rfl (hb hby at_151) rfl ((if0 _ _).trans (feq (by decide : ¬ ((1 : Int32) = (0 : Int32)))).1) ?_
    show Steps p.tables e below (T9.setTop (mkF m 154 #[.val (.int p1), .val (.int ba), .val (.int bb), .val (.int bc), .val (.int rr), .val (.int (1 : Int32)), .val (.int (1 : Int32)), .val (.int (1 : Int32))] [])) _
    refine XS.iconst X9.here hx rfl (hb hby at_154) ?_
    show Steps p.tables e below (T9.setTop (mkF m 155 #[.val (.int p1), .val (.int ba), .val (.int bb), .val (.int bc), .val (.int rr), .val (.int (1 : Int32)), .val (.int (1 : Int32)), .val (.int (1 : Int32))] [(.int (1 : Int32))])) _
    refine XS.goto X9.here hx rfl (pc0 := 155) (pc' := 159) rfl (hb hby at_155) (by decide) (by decide) ?_
    show Steps p.tables e below (T9.setTop (mkF m 159 #[.val (.int p1), .val (.int ba), .val (.int bb), .val (.int bc), .val (.int rr), .val (.int (1 : Int32)), .val (.int (1 : Int32)), .val (.int (1 : Int32))] [(.int (1 : Int32))])) _
    exact retN X9 hx (t := .boolean) Bd.returns (by simp) (hb hby at_159) hr
  · show own_Q0 Z p1 h0 n0 _ T9.heap _
    rw [e9]
    exact ⟨rfl, N9⟩
set_option maxRecDepth 65536 in
set_option maxHeartbeats 40000000 in
theorem own_comes {Post : Tables → Env → Array Value → State → Outcome → State → Prop} (hpost : ∀ tb e args s v u, (limb_1_1.after args s (.returned v) u = true ∧ limb_1_2.after args s (.returned v) u = true ∧ True) → FrameEnd s (.returned v) u (Jvm.fieldLocs frame_1_writes args s ++ Jvm.arrayLocs frame_1_arrays args s ++ Jvm.staticLocs frame_1_statics s) 0 0 → Post tb e args s (.returned v) u) :
    ArmFor flags0 classFile x code maxLocals ret World_1 tables_1 room_1 Calls_1 rest_1 Pre_1 Post := by
  intro l hfl _ _ p e ha hc hk s m args below hf hA hF happ hP
  obtain ⟨hcalls, hrest, hpre⟩ := hP
  obtain ⟨-, -, -, hnamed, -, -, -, hat⟩ := (Spec.applies_iff hf).mp happ
  obtain ⟨hg, hn⟩ := and_e (Cond.before_iff.mp (show (Jvm.Cond.and given_1 narrow_1).before args s = true from hpre))
  obtain ⟨hcount, k0⟩ := and_e hg
  obtain ⟨w0, rfl⟩ : ∃ w0 : Value, args = #[w0] := by
    have hs : args.size = 1 := by simpa [Cond.value, given_1] using hcount
    obtain ⟨L⟩ := args
    match L, hs with
    | [w0], _ => exact ⟨w0, rfl⟩
  have hw := fun d (hd : d ∈ tables_1) => atoms_spec (ws := Jvm.Cond.code x code maxLocals ret :: tables_1) hat d (List.mem_cons_of_mem _ hd)
  obtain ⟨i0, ei0⟩ := is_v k0
  obtain rfl : w0 = (.int i0) := Option.some.inj ei0
  obtain ⟨n, o, h1, h2, h3, _, L, rfl, ⟨rfl, N⟩, hq⟩ := own_rm0 l s _ hw tables_1 i0 s.heap s.heap.size (Nat.le_refl _) p e ha hc hk s m _ below hf ((Spec.applies_iff_loose hf).mp happ).1 ⟨rfl, State.Warmed39.refl s, rfl⟩ trivial
  refine ⟨n, _, h1, h2, h3, hpost _ _ _ _ _ _ ⟨Cond.after_iff.mpr rfl, Cond.after_iff.mpr (eq_i res_at (Term.int_eval (1)) rfl), trivial⟩ ⟨hq.1, hq.2.1, (hq.2.2.sift fun y hy => Or.inr (N y hy)).mono (by decide) (by decide)⟩⟩
theorem main_1_1 : Claimed_1_1 := own_comes fun _ _ _ _ _ _ h hF => ⟨h.1, hF⟩
theorem main_1_2 : Claimed_1_2 := own_comes fun _ _ _ _ _ _ h hF => ⟨h.2.1, hF⟩
end Jvm.Pilot.@@N@@
namespace Jvm.Pilot.@@N@@
open Jvm Jvm.ClassFile Sem Op Lib Jvm.Free Jvm.Stand Jvm.Pilot.@@N@@.Jvm.D
/-! MADE BY PROGRAM (witnessworld.py) out of the Statement's table words and the real class files: 9 classes; the members and pool entries that the words name. The judged class is class 1, her method 1. -/
namespace start1
open Jvm.ClassFile
def u (s : String) : CpInfo := .utf8 (stringToUtf16 s)
/-- a pool by its gaps: so many unusable entries, then the entry; so many at the end -/
def gap : Nat → List CpInfo → List CpInfo
  | 0, r => r
  | n + 1, r => .unusable :: gap n r
def poolList (es : List (Nat × CpInfo)) (last : Nat) : List CpInfo := es.foldr (fun e r => gap e.1 (e.2 :: r)) (gap last [])
def pool (es : List (Nat × CpInfo)) (last : Nat) : Array CpInfo := ⟨poolList es last⟩
def fileOf (pool : Array CpInfo) (this : Nat) (attrs : Array Attribute := #[]) (ms : Array MethodInfo := #[]) (fl : Nat := 33) (sup : Nat := 0) (ifs : Array Nat := #[]) (fds : Array FieldInfo := #[]) : ClassFile where
  minorVersion := 0
  majorVersion := 65
  constantPool := pool
  accessFlags := fl
  thisClass := this
  superClass := sup
  interfaces := ifs
  fields := fds
  methods := ms
  attributes := attrs
def plain (name : String) (sup : Option ClassId) : Class where
  name := name
  kind := .ordinary
  loader := none
  accessFlags := 33
  super := sup
  interfaces := #[]
  cf := none
  fields := #[]
  methods := #[]
  instanceTypes := #[]
  staticTypes := #[]
  resolved := #[]
  callSites := []
  init := .initialized
  statics := none
  mirror := none

def pool0 : Array CpInfo := pool [(5, u "<init>"), (0, u "()V"), (1, .class_ 10), (1, u "java/lang/Object")] 113

def k0m0 : Method := { name := "<init>", desc := "()V", sig := { parameters := [], returnType := none }, accessFlags := 1, code := none }
/-- java/lang/Object -/
def k0 : Class := { plain "java/lang/Object" none with
  accessFlags := 33
  interfaces := #[]
  cf := some (fileOf pool0 8 #[] #[{ accessFlags := 1, nameIndex := 5, descriptorIndex := 6, attributes := #[] }] 33 0 #[] #[])
  fields := #[]
  methods := #[k0m0]
  instanceTypes := #[]
  staticTypes := #[]
  resolved := Array.replicate 124 none
  statics := none }

def pool1 : Array CpInfo := pool [(2, .class_ 4), (1, u "java/lang/Object"), (0, u "<init>"), (0, u "()V"), (0, .methodref 8 9), (0, .class_ 10), (0, .nameAndType 11 12), (0, u "com/example/nivel/nivel/store/ValueIndex"), (0, u "flags"), (0, u "(ZZZ)I"), (0, .methodref 8 14), (0, .nameAndType 15 16), (0, u "mixed"), (0, u "(I)I"), (0, .class_ 18), (0, u "com/example/nivel/nivel/store/ValueIndexFlagsPinLaw"), (2, u "law"), (0, u "(I)Z")] 3

def k1m0 : Method := { name := "<init>", desc := "()V", sig := { parameters := [], returnType := none }, accessFlags := 1, code := none }
def k1c1 : Code := { maxStack := 4, maxLocals := 8, code := code, exceptionTable := #[], attributes := #[] }
def k1m1 : Method := { name := "law", desc := "(I)Z", sig := { parameters := [.int], returnType := some .boolean }, accessFlags := 9, code := some k1c1 }
/-- com/example/nivel/nivel/store/ValueIndexFlagsPinLaw -/
def k1 : Class := { plain "com/example/nivel/nivel/store/ValueIndexFlagsPinLaw" (some 0) with
  accessFlags := 49
  interfaces := #[]
  cf := some (fileOf pool1 17 #[] #[{ accessFlags := 1, nameIndex := 5, descriptorIndex := 6, attributes := #[] }, { accessFlags := 9, nameIndex := 21, descriptorIndex := 22, attributes := #[] }] 49 2 #[] #[])
  fields := #[]
  methods := #[k1m0, k1m1]
  instanceTypes := #[]
  staticTypes := #[]
  resolved := Array.replicate 26 none
  statics := none }

def pool2 : Array CpInfo := pool [(6, .class_ 8), (1, u "java/lang/Object"), (3, .class_ 14), (1, u "com/example/nivel/nivel/store/ValueIndex"), (0, u "file"), (0, u "Lcom/example/nivel/nivel/store/DocumentFile;"), (2, u "homes"), (0, u "I"), (2, u "filter"), (0, u "Lcom/example/nivel/nivel/store/ValueIndex$Filter;"), (8, u "dictionary"), (0, u "Lcom/example/nivel/nivel/store/PageReader;"), (2, u "postings"), (40, .class_ 79), (0, u "com/example/nivel/nivel/store/ValueIndex$Postings"), (0, .class_ 81), (0, u "com/example/nivel/nivel/store/ValueIndex$Entry"), (8, u "flags"), (48, .class_ 141), (1, u "com/example/nivel/nivel/store/ValueIndex$Filter"), (5, u "(I)I"), (81, .class_ 231), (1, u "com/example/nivel/nivel/store/ValueIndex$Postings$AtLevel"), (24, u "ENTRY_BYTES"), (2, u "PAGE_HEADER_BYTES"), (1, u "ATTRIBUTE"), (1, u "MIXED"), (1, u "LEVELS"), (3, u "(ZZZ)I"), (1, u "mixed")] 50

def k2c0 : Code := { maxStack := 2, maxLocals := 3, code := prog_153_method_4_code, exceptionTable := #[], attributes := #[] }
def k2m0 : Method := { name := "flags", desc := "(ZZZ)I", sig := { parameters := [.boolean, .boolean, .boolean], returnType := some .int }, accessFlags := 8, code := some k2c0 }
def k2c1 : Code := { maxStack := 2, maxLocals := 1, code := prog_153_method_5_code, exceptionTable := #[], attributes := #[] }
def k2m1 : Method := { name := "mixed", desc := "(I)I", sig := { parameters := [.int], returnType := some .int }, accessFlags := 8, code := some k2c1 }
/-- com/example/nivel/nivel/store/ValueIndex -/
def k2 : Class := { plain "com/example/nivel/nivel/store/ValueIndex" (some 0) with
  accessFlags := 48
  interfaces := #[]
  cf := some (fileOf pool2 12 #[.nestMembers #[78, 229, 139, 80]] #[{ accessFlags := 8, nameIndex := 90, descriptorIndex := 269, attributes := #[] }, { accessFlags := 8, nameIndex := 271, descriptorIndex := 147, attributes := #[] }] 48 6 #[] #[{ accessFlags := 24, nameIndex := 256, descriptorIndex := 20, attributes := #[] }, { accessFlags := 24, nameIndex := 259, descriptorIndex := 20, attributes := #[] }, { accessFlags := 26, nameIndex := 261, descriptorIndex := 20, attributes := #[] }, { accessFlags := 26, nameIndex := 263, descriptorIndex := 20, attributes := #[] }, { accessFlags := 26, nameIndex := 265, descriptorIndex := 20, attributes := #[] }, { accessFlags := 18, nameIndex := 15, descriptorIndex := 16, attributes := #[] }, { accessFlags := 18, nameIndex := 19, descriptorIndex := 20, attributes := #[] }, { accessFlags := 18, nameIndex := 23, descriptorIndex := 24, attributes := #[] }, { accessFlags := 18, nameIndex := 33, descriptorIndex := 34, attributes := #[] }, { accessFlags := 18, nameIndex := 37, descriptorIndex := 34, attributes := #[] }])
  fields := #[{ name := "ENTRY_BYTES", type := .int, accessFlags := 24, slot := 0, constantValue := 0 }, { name := "PAGE_HEADER_BYTES", type := .int, accessFlags := 24, slot := 1, constantValue := 0 }, { name := "ATTRIBUTE", type := .int, accessFlags := 26, slot := 2, constantValue := 0 }, { name := "MIXED", type := .int, accessFlags := 26, slot := 3, constantValue := 0 }, { name := "LEVELS", type := .int, accessFlags := 26, slot := 4, constantValue := 0 }, { name := "file", type := (.object "com/example/nivel/nivel/store/DocumentFile"), accessFlags := 18, slot := 0, constantValue := 0 }, { name := "homes", type := .int, accessFlags := 18, slot := 1, constantValue := 0 }, { name := "filter", type := (.object "com/example/nivel/nivel/store/ValueIndex$Filter"), accessFlags := 18, slot := 2, constantValue := 0 }, { name := "dictionary", type := (.object "com/example/nivel/nivel/store/PageReader"), accessFlags := 18, slot := 3, constantValue := 0 }, { name := "postings", type := (.object "com/example/nivel/nivel/store/PageReader"), accessFlags := 18, slot := 4, constantValue := 0 }]
  methods := #[k2m0, k2m1]
  instanceTypes := #[(.object "com/example/nivel/nivel/store/DocumentFile"), .int, (.object "com/example/nivel/nivel/store/ValueIndex$Filter"), (.object "com/example/nivel/nivel/store/PageReader"), (.object "com/example/nivel/nivel/store/PageReader")]
  staticTypes := #[.int, .int, .int, .int, .int]
  resolved := Array.replicate 322 none
  statics := none }

def pool3 : Array CpInfo := pool [(1, u "java/lang/Cloneable"), (0, .class_ 1), (0, u "java/lang/Object"), (0, .class_ 3)] 3

/-- java/lang/Cloneable -/
def k3 : Class := { plain "java/lang/Cloneable" (some 0) with
  accessFlags := 1537
  interfaces := #[]
  cf := some (fileOf pool3 2 #[] #[] 1537 4 #[] #[])
  fields := #[]
  methods := #[]
  instanceTypes := #[]
  staticTypes := #[]
  resolved := Array.replicate 8 none
  statics := none }

def pool4 : Array CpInfo := pool [(1, u "java/io/Serializable"), (0, .class_ 1), (0, u "java/lang/Object"), (0, .class_ 3)] 3

/-- java/io/Serializable -/
def k4 : Class := { plain "java/io/Serializable" (some 0) with
  accessFlags := 1537
  interfaces := #[]
  cf := some (fileOf pool4 2 #[] #[] 1537 4 #[] #[])
  fields := #[]
  methods := #[]
  instanceTypes := #[]
  staticTypes := #[]
  resolved := Array.replicate 8 none
  statics := none }

/-- the primitive byte -/
def k5 : Class := { plain "byte" none with kind := .primitive 'B', accessFlags := 0x411 }
/-- [B -/
def k6 : Class := { plain "[B" (some 0) with kind := .array 5 .byte, interfaces := #[3, 4], accessFlags := 1041 }

/-- the primitive int -/
def k7 : Class := { plain "int" none with kind := .primitive 'I', accessFlags := 0x411 }
/-- [I -/
def k8 : Class := { plain "[I" (some 0) with kind := .array 7 .int, interfaces := #[3, 4], accessFlags := 1041 }

def heap : Heap := #[]
def classes : Array Class := #[k0, k1, k2, k3, k4, k5, k6, k7, k8]
def interned : List (Array UInt16 × Addr) := []
def slotsUsed : Nat := 0
def theMethod : MethodId := ⟨1, 1⟩
def args0 : Array Value := #[.int 5]
def aboutOver (below : List Frame) : State where
  vm := { classes := classes, interned := interned.toArray }
  heap := heap
  slotsUsed := slotsUsed
  threads := #[{ frames := .invoking theMethod args0 :: below }]
def below0 : List Frame := [.native { method := ⟨0, 0⟩, args := #[] }]
def about1 : State := aboutOver below0
def p0 : Program := .bare "" "" ""
def e0 : Env := launch0.env 0 0 0
theorem w_frames : about1.frames = Frame.invoking theMethod args0 :: below0 := rfl
set_option maxRecDepth 65536 in
theorem w_args : argsFit about1.vm theMethod args0 = true := by decide +kernel
set_option maxRecDepth 65536 in
theorem w_heap : heapFits about1 = true := by decide +kernel
set_option maxRecDepth 65536 in
theorem w_runnable : about1.curStatus? = some .runnable := by decide +kernel
set_option maxRecDepth 65536 in
theorem w_alone : about1.alone = true := by decide +kernel
set_option maxRecDepth 65536 in
theorem w_named : about1.methodNamed? x = some theMethod := by decide +kernel
set_option maxRecDepth 65536 in
theorem w_hears : about1.hears theMethod below0 = true := by decide +kernel
set_option maxRecDepth 65536 in
theorem w_ripe : about1.ripe theMethod args0 below0 = true := by decide +kernel
theorem w_running : about1.status = .running := rfl
set_option maxRecDepth 65536 in
theorem w_room : about1.hasRoom e0.platform room_1 = true :=
  launch0.hasRoom_least _ room_1 (by decide +kernel) (by decide +kernel) (by decide +kernel) (by decide +kernel) (by decide +kernel) (by decide +kernel)
theorem allAtoms_all (ts : List Jvm.Cond) (a : Array Jvm.Value) (st : Jvm.State) : (allAtoms ts).before a st = ts.all (fun c => c.before a st) := by
  induction ts with
  | nil => rfl
  | cons c t ih =>
    show (Jvm.Cond.and c (allAtoms t)).before a st = _
    rw [Jvm.Cond.before_and, ih, List.all_cons]
def words1 : List Jvm.Cond := Jvm.Cond.code x code maxLocals ret :: tables_1
/-- a 'code' word, met by the world's own term for the bytes: nothing is compared byte by byte -/
theorem code_word {y : MethodName} {bytes : ByteArray} {mx : Nat} {rt : Option FieldType} {a : Array Value} {s : State} {m : MethodId} {meth : Method} {c : Code} (h1 : s.methodNamed? y = some m) (h2 : s.vm.method? m = some meth) (h3 : meth.code = some c) (h4 : c.code = bytes)
    (h5 : (c.maxLocals == mx && c.exceptionTable.isEmpty && decide (c.maxStack ≤ mostOperands) && decide (meth.sig.returnType = rt) && !meth.locks && decide (parseMethodDescriptor y.desc = some meth.sig)) = true) : (Jvm.Cond.code y bytes mx rt).before a s = true := by
  simp only [Bool.and_eq_true, beq_iff_eq, Bool.not_eq_true', decide_eq_true_eq] at h5
  obtain ⟨⟨⟨⟨⟨g1, g2⟩, g3⟩, g4⟩, g5⟩, g6⟩ := h5
  simp [Cond.before, Cond.holds, Cond.value, h1, h2, h3, h4, g1, g2, g3, g4, g5, g6]
def isCode : Jvm.Cond → Bool
  | .code _ _ _ _ => true
  | _ => false
theorem all_split {L : List Jvm.Cond} {P : Jvm.Cond → Bool} (h1 : L.all (fun c => isCode c || P c) = true) (h2 : ∀ c ∈ L.filter isCode, P c = true) : L.all P = true := by
  refine List.all_eq_true.mpr fun c hc => ?_
  have h := List.all_eq_true.mp h1 c hc
  rcases Bool.eq_false_or_eq_true (isCode c) with hi | hi
  · exact h2 c (List.mem_filter.mpr ⟨hc, hi⟩)
  · simpa [hi] using h
set_option maxRecDepth 65536 in
theorem w_c0 : (Jvm.Cond.code x code maxLocals ret).before args0 about1 = true := code_word (m := ⟨1, 1⟩) (meth := k1m1) (c := k1c1) (by decide +kernel) rfl rfl rfl (by decide +kernel)
set_option maxRecDepth 65536 in
theorem w_c1 : (Jvm.Cond.code ({ cls := "com/example/nivel/nivel/store/ValueIndex", name := "flags", desc := "(ZZZ)I" } : Jvm.MethodName) prog_153_method_4_code (3 : Nat) (Option.some Jvm.ClassFile.FieldType.int)).before args0 about1 = true := code_word (m := ⟨2, 0⟩) (meth := k2m0) (c := k2c0) (by decide +kernel) rfl rfl rfl (by decide +kernel)
set_option maxRecDepth 65536 in
theorem w_c2 : (Jvm.Cond.code ({ cls := "com/example/nivel/nivel/store/ValueIndex", name := "mixed", desc := "(I)I" } : Jvm.MethodName) prog_153_method_5_code (1 : Nat) (Option.some Jvm.ClassFile.FieldType.int)).before args0 about1 = true := code_word (m := ⟨2, 1⟩) (meth := k2m1) (c := k2c1) (by decide +kernel) rfl rfl rfl (by decide +kernel)
def codes1 : List Jvm.Cond := [Jvm.Cond.code x code maxLocals ret, Jvm.Cond.code ({ cls := "com/example/nivel/nivel/store/ValueIndex", name := "flags", desc := "(ZZZ)I" } : Jvm.MethodName) prog_153_method_4_code (3 : Nat) (Option.some Jvm.ClassFile.FieldType.int), Jvm.Cond.code ({ cls := "com/example/nivel/nivel/store/ValueIndex", name := "mixed", desc := "(I)I" } : Jvm.MethodName) prog_153_method_5_code (1 : Nat) (Option.some Jvm.ClassFile.FieldType.int)]
set_option maxRecDepth 65536 in
theorem codes_eq : words1.filter isCode = codes1 := rfl
theorem w_codes : ∀ c ∈ words1.filter isCode, c.before args0 about1 = true := by
  rw [codes_eq]
  intro c hc
  simp only [codes1, List.mem_cons, List.not_mem_nil, or_false] at hc
  rcases hc with rfl | rfl | rfl
  · exact w_c0
  · exact w_c1
  · exact w_c2
set_option maxRecDepth 65536 in
theorem w_t1 : words1.all (fun c => isCode c || c.before args0 about1) = true := by decide +kernel
theorem w_tables : (allAtoms (Jvm.Cond.code x code maxLocals ret :: tables_1)).before args0 about1 = true := by
  rw [allAtoms_all]
  show words1.all (fun c => c.before args0 about1) = true
  refine all_split ?_ w_codes
  rw [w_t1]
set_option maxRecDepth 65536 in
theorem w_case : (Jvm.Cond.and given_1 narrow_1).before args0 about1 = true := by decide +kernel
theorem w_applies : (headSpec (Jvm.Cond.code x code maxLocals ret :: tables_1) room_1).applies x e0.platform about1 = true :=
  (Spec.applies_iff w_frames).mpr ⟨w_running, w_runnable, w_alone, w_named, w_hears, w_ripe, w_room, w_tables⟩
theorem atStart : AtStart classFile x code maxLocals ret World_1 tables_1 room_1 Calls_1 rest_1 Pre_1 launch0 p0 e0 about1 theMethod args0 below0 :=
  ⟨lists_1, trivial, launch0.admits_env _ _ _, launch0.least_env, fairChoices_fair.cas, fairChoices_fair.clock, w_frames, w_args, w_heap, w_applies, trivial, trivial, w_case⟩
end start1
theorem witness_1 : WitnessClaimed_1 := ⟨start1.p0, start1.e0, start1.about1, start1.theMethod, start1.args0, start1.below0, start1.atStart⟩
end Jvm.Pilot.@@N@@
