import JvmDerived
import JvmDerived.Pilot.@@N@@Statement
import JvmDerived.Pilot.@@N@@Code
set_option linter.unusedVariables false
set_option linter.unusedSimpArgs false
namespace Jvm.RoadKit
open Sem ClassFile Op Lib Jvm.Stand Jvm.Free Jvm.LawKit
section New
variable {p : Program} {l : Launch} {e : Env} {R : Room} {s : State} {m : MethodId} {args : Array Value} {below : List Frame} {meth : Method} {c : Code} {T : State} {locs : List Loc} {cells slots : Nat}
theorem retI (X : Stand p l e R s m args below meth c T locs cells slots) (hx : p.tables.exec = Jvm.exec) {pc : Nat} {Ls : Array Slot} {z : Int32} {rest : List Value} (hret : meth.sig.returnType = some .int) (hd : decode c.code pc = .ok (.ireturn, 1)) {fs : List Frame}
    (hl : ∀ (f : JFrame) (acts : List Action), f.method = m → f.locked = none → f.entered = [] → (doReturn e (T.setTop f) acts (some (.int z))).1 = T.setFrames fs) : Steps p.tables e below (T.setTop (mkF m pc Ls (.int z :: rest))) (T.setFrames fs) := by
  have hm' : T.vm.method? m = some meth := X.method'
  have hn : narrow .int (.int z) = .int z := rfl
  show Steps p.tables e below (T.setTop { method := m, pc := pc, locals := Ls, stack := _ :: rest, locked := none }) _
  jvm_step X.here [X.here.top, hx, hd, hm', hret, hn]
  first | (intro acts; rw [hl _ acts rfl rfl rfl]) | rw [hl _ _ rfl rfl rfl]
  exact Steps.refl _
end New
end Jvm.RoadKit
namespace Jvm.Pilot.@@N@@
open Jvm Jvm.ClassFile Sem Op Lib Jvm.Free Jvm.Stand Jvm.LawKit Jvm.RoadKit Bundle Jvm.Pilot.@@N@@.Jvm.D
theorem d1_0 : decode prog_3_method_14_code 0 = .ok (.iload_n 0, 1) := by decide +kernel
theorem d1_1 : decode prog_3_method_14_code 1 = .ok (.bipush 44, 2) := by decide +kernel
theorem d1_3 : decode prog_3_method_14_code 3 = .ok (.if_icmp .gt 27, 3) := by decide +kernel
theorem d1_30 : decode prog_3_method_14_code 30 = .ok (.iconst 1, 1) := by decide +kernel
theorem d1_31 : decode prog_3_method_14_code 31 = .ok (.goto 4, 3) := by decide +kernel
theorem d1_35 : decode prog_3_method_14_code 35 = .ok (.ireturn, 1) := by decide +kernel
theorem d1_6 : decode prog_3_method_14_code 6 = .ok (.iload_n 0, 1) := by decide +kernel
theorem d1_7 : decode prog_3_method_14_code 7 = .ok (.bipush 44, 2) := by decide +kernel
theorem d1_9 : decode prog_3_method_14_code 9 = .ok (.if_icmp .eq 25, 3) := by decide +kernel
theorem d1_34 : decode prog_3_method_14_code 34 = .ok (.iconst 0, 1) := by decide +kernel
theorem d1_12 : decode prog_3_method_14_code 12 = .ok (.iload_n 0, 1) := by decide +kernel
theorem d1_13 : decode prog_3_method_14_code 13 = .ok (.bipush 10, 2) := by decide +kernel
theorem d1_15 : decode prog_3_method_14_code 15 = .ok (.if_icmp .eq 19, 3) := by decide +kernel
theorem d1_18 : decode prog_3_method_14_code 18 = .ok (.iload_n 0, 1) := by decide +kernel
theorem d1_19 : decode prog_3_method_14_code 19 = .ok (.bipush 13, 2) := by decide +kernel
theorem d1_21 : decode prog_3_method_14_code 21 = .ok (.if_icmp .eq 13, 3) := by decide +kernel
theorem d1_24 : decode prog_3_method_14_code 24 = .ok (.iload_n 0, 1) := by decide +kernel
theorem d1_25 : decode prog_3_method_14_code 25 = .ok (.bipush 34, 2) := by decide +kernel
theorem d1_27 : decode prog_3_method_14_code 27 = .ok (.if_icmp .eq 7, 3) := by decide +kernel
theorem pn_1 : plainName "com/example/matchbook/matchbook/CsvReader" = true := by first | (simp [plainName, overriddenIn]; done) | decide +kernel
theorem ef_1 (m : MethodId) (x0 : Int32) : entryFrame m #[(.int x0)] 1 = mkF m 0 #[.val (.int x0)] [] := by first | (simp [entryFrame, mkF, argsToLocals, Value.category]; done) | rfl
def F1 (p1 : Int32) : Int32 :=
  if (44 : Int32) < p1 then (  (1 : Int32))
  else (  if p1 = (44 : Int32) then (  (0 : Int32))
  else (  if p1 = (10 : Int32) then (  (0 : Int32))
  else (  if p1 = (13 : Int32) then (  (0 : Int32))
  else (  if p1 = (34 : Int32) then (  (0 : Int32))
  else (  (1 : Int32))))))
def Q1 (Z : State) (p1 : Int32) (h0 : Heap) (n0 : Nat) (v : Option Value) (h : Heap) (L : List Loc) : Prop := v = some (.int (F1 p1)) ∧ Fr n0 L ∧ h = h0
set_option maxRecDepth 65536 in
set_option maxHeartbeats 40000000 in
theorem rm1 (l : Launch) (Z : State) (a0 : Array Value) (hw : ∀ d ∈ tables_1, d.before a0 Z = true) (ws : List Jvm.Cond) (p1 : Int32) (h0 : Heap) (n0 : Nat) (Z0 : n0 ≤ h0.size)  :
    MetFree l (⟨"com/example/matchbook/matchbook/CsvReader", "plain", "(C)Z"⟩ : MethodName) (head1 (Jvm.Cond.code (⟨"com/example/matchbook/matchbook/CsvReader", "plain", "(C)Z"⟩ : MethodName) prog_3_method_14_code 1 (some .boolean) :: ws) ({ frames := 0, cells := 0, slots := 0, locals := 0 } : Room)) (fun a U => a = #[(.int p1)] ∧ Z.Warmed39 U.vm ∧ U.heap = h0) (fun _ _ _ _ _ => True) (fun _ U o U' => ∃ v L, o = .returned v ∧ Q1 Z p1 h0 n0 v U'.heap L ∧ FrameEnd U o U' L ({ frames := 0, cells := 0, slots := 0, locals := 0 } : Room).cells ({ frames := 0, cells := 0, slots := 0, locals := 0 } : Room).slots) := by
  refine MetFree.of_bodySF (plainFor_of_name pn_1) hisR ?_
  intro p e s m args below meth c s₁ Bd hml0 hP hK
  obtain ⟨rfl, hZ, hh⟩ := hP
  have hx := Bd.exec
  have hby := Bd.bytes
  have hml : c.maxLocals = 1 := hml0
  have hown : s.vm.findClass "com/example/matchbook/matchbook/CsvReader" = some m.cls := findClass_of_methodNamed Bd.named
  have hnm := (name_of_methodNamed Bd.named Bd.method).1
  have X0 : Stand p l e ({ frames := 0, cells := 0, slots := 0, locals := 0 } : Room) s m #[(.int p1)] below meth c s₁ [] 0 0 := Stand.of_body Bd
  have e0 : s₁.heap = h0 := by rw [← hh, Bd.state]; rfl
  have N0 := Fr.nil n0
  have pre0 : ∀ t, Steps p.tables e below (s₁.setTop (mkF m 0 #[.val (.int p1)] [])) t → Steps p.tables e below (s₁.setTop (entryFrame m #[(.int p1)] 1)) t := fun t k => castTop (ef_1 m p1) k
  have pre1 : ∀ t, Steps p.tables e below (s₁.setTop (mkF m 3 #[.val (.int p1)] [(.int (44 : Int32)), (.int p1)])) t → Steps p.tables e below (s₁.setTop (entryFrame m #[(.int p1)] 1)) t := by
    intro t k
    refine pre0 _ ?_
    show Steps p.tables e below (s₁.setTop (mkF m 0 #[.val (.int p1)] [])) _
    refine XS.iloadN X0.here hx rfl (hb hby d1_0) rfl ?_
    show Steps p.tables e below (s₁.setTop (mkF m 1 #[.val (.int p1)] [(.int p1)])) _
    refine XS.bipush X0.here hx rfl (hb hby d1_1) ?_
    exact k
  by_cases hc2 : (44 : Int32) < p1
  · have pre3 : ∀ t, Steps p.tables e below (s₁.setTop (mkF m 30 #[.val (.int p1)] [])) t → Steps p.tables e below (s₁.setTop (entryFrame m #[(.int p1)] 1)) t := by
      intro t k
      refine pre1 _ ?_
      show Steps p.tables e below (s₁.setTop (mkF m 3 #[.val (.int p1)] [(.int (44 : Int32)), (.int p1)])) _
      refine XS.icmpYes X0.here hx rfl (pc0 := 3) (pc' := 30) rfl (hb hby d1_3) rfl (tlt hc2).2.2.1 (by decide) (by decide) ?_
      exact k
    have pre4 : ∀ t, Steps p.tables e below (s₁.setTop (mkF m 35 #[.val (.int p1)] [(.int (1 : Int32))])) t → Steps p.tables e below (s₁.setTop (entryFrame m #[(.int p1)] 1)) t := by
      intro t k
      refine pre3 _ ?_
      show Steps p.tables e below (s₁.setTop (mkF m 30 #[.val (.int p1)] [])) _
      refine XS.iconst X0.here hx rfl (hb hby d1_30) ?_
      show Steps p.tables e below (s₁.setTop (mkF m 31 #[.val (.int p1)] [(.int (1 : Int32))])) _
      refine XS.goto X0.here hx rfl (pc0 := 31) (pc' := 35) rfl (hb hby d1_31) (by decide) (by decide) ?_
      exact k
    obtain ⟨fs, hr, hrun, hended, hW, hsame⟩ := X0.leave (v := some (.int (1 : Int32))) (fun h => by rw [Bd.returns] at h; cases h)
    refine ⟨_, _, pre4 _ ?_, hrun, hended, _, _, rfl, ?_, ⟨_, rfl⟩, hW, hsame.mono (by decide) (by decide)⟩
    · show Steps p.tables e below (s₁.setTop (mkF m 35 #[.val (.int p1)] [(.int (1 : Int32))])) _
      exact retN X0 hx (t := .boolean) Bd.returns (by simp) (hb hby d1_35) hr
    · show Q1 Z p1 h0 n0 _ s₁.heap _
      rw [e0]
      exact ⟨(by rw [F1, if_pos hc2]), N0, rfl⟩
  · have pre5 : ∀ t, Steps p.tables e below (s₁.setTop (mkF m 6 #[.val (.int p1)] [])) t → Steps p.tables e below (s₁.setTop (entryFrame m #[(.int p1)] 1)) t := by
      intro t k
      refine pre1 _ ?_
      show Steps p.tables e below (s₁.setTop (mkF m 3 #[.val (.int p1)] [(.int (44 : Int32)), (.int p1)])) _
      refine XS.icmpNo X0.here hx rfl (hb hby d1_3) rfl (flt hc2).2.2.1 ?_
      exact k
    have pre6 : ∀ t, Steps p.tables e below (s₁.setTop (mkF m 9 #[.val (.int p1)] [(.int (44 : Int32)), (.int p1)])) t → Steps p.tables e below (s₁.setTop (entryFrame m #[(.int p1)] 1)) t := by
      intro t k
      refine pre5 _ ?_
      show Steps p.tables e below (s₁.setTop (mkF m 6 #[.val (.int p1)] [])) _
      refine XS.iloadN X0.here hx rfl (hb hby d1_6) rfl ?_
      show Steps p.tables e below (s₁.setTop (mkF m 7 #[.val (.int p1)] [(.int p1)])) _
      refine XS.bipush X0.here hx rfl (hb hby d1_7) ?_
      exact k
    by_cases hc7 : p1 = (44 : Int32)
    · have pre8 : ∀ t, Steps p.tables e below (s₁.setTop (mkF m 34 #[.val (.int p1)] [])) t → Steps p.tables e below (s₁.setTop (entryFrame m #[(.int p1)] 1)) t := by
        intro t k
        refine pre6 _ ?_
        show Steps p.tables e below (s₁.setTop (mkF m 9 #[.val (.int p1)] [(.int (44 : Int32)), (.int p1)])) _
        refine XS.icmpYes X0.here hx rfl (pc0 := 9) (pc' := 34) rfl (hb hby d1_9) rfl (teq hc7).1 (by decide) (by decide) ?_
        exact k
      have pre9 : ∀ t, Steps p.tables e below (s₁.setTop (mkF m 35 #[.val (.int p1)] [(.int (0 : Int32))])) t → Steps p.tables e below (s₁.setTop (entryFrame m #[(.int p1)] 1)) t := by
        intro t k
        refine pre8 _ ?_
        show Steps p.tables e below (s₁.setTop (mkF m 34 #[.val (.int p1)] [])) _
        refine XS.iconst X0.here hx rfl (hb hby d1_34) ?_
        exact k
      obtain ⟨fs, hr, hrun, hended, hW, hsame⟩ := X0.leave (v := some (.int (0 : Int32))) (fun h => by rw [Bd.returns] at h; cases h)
      refine ⟨_, _, pre9 _ ?_, hrun, hended, _, _, rfl, ?_, ⟨_, rfl⟩, hW, hsame.mono (by decide) (by decide)⟩
      · show Steps p.tables e below (s₁.setTop (mkF m 35 #[.val (.int p1)] [(.int (0 : Int32))])) _
        exact retN X0 hx (t := .boolean) Bd.returns (by simp) (hb hby d1_35) hr
      · show Q1 Z p1 h0 n0 _ s₁.heap _
        rw [e0]
        exact ⟨(by rw [F1, if_neg hc2, if_pos hc7]), N0, rfl⟩
    · have pre10 : ∀ t, Steps p.tables e below (s₁.setTop (mkF m 12 #[.val (.int p1)] [])) t → Steps p.tables e below (s₁.setTop (entryFrame m #[(.int p1)] 1)) t := by
        intro t k
        refine pre6 _ ?_
        show Steps p.tables e below (s₁.setTop (mkF m 9 #[.val (.int p1)] [(.int (44 : Int32)), (.int p1)])) _
        refine XS.icmpNo X0.here hx rfl (hb hby d1_9) rfl (feq hc7).1 ?_
        exact k
      have pre11 : ∀ t, Steps p.tables e below (s₁.setTop (mkF m 15 #[.val (.int p1)] [(.int (10 : Int32)), (.int p1)])) t → Steps p.tables e below (s₁.setTop (entryFrame m #[(.int p1)] 1)) t := by
        intro t k
        refine pre10 _ ?_
        show Steps p.tables e below (s₁.setTop (mkF m 12 #[.val (.int p1)] [])) _
        refine XS.iloadN X0.here hx rfl (hb hby d1_12) rfl ?_
        show Steps p.tables e below (s₁.setTop (mkF m 13 #[.val (.int p1)] [(.int p1)])) _
        refine XS.bipush X0.here hx rfl (hb hby d1_13) ?_
        exact k
      by_cases hc12 : p1 = (10 : Int32)
      · have pre13 : ∀ t, Steps p.tables e below (s₁.setTop (mkF m 34 #[.val (.int p1)] [])) t → Steps p.tables e below (s₁.setTop (entryFrame m #[(.int p1)] 1)) t := by
          intro t k
          refine pre11 _ ?_
          show Steps p.tables e below (s₁.setTop (mkF m 15 #[.val (.int p1)] [(.int (10 : Int32)), (.int p1)])) _
          refine XS.icmpYes X0.here hx rfl (pc0 := 15) (pc' := 34) rfl (hb hby d1_15) rfl (teq hc12).1 (by decide) (by decide) ?_
          exact k
        have pre14 : ∀ t, Steps p.tables e below (s₁.setTop (mkF m 35 #[.val (.int p1)] [(.int (0 : Int32))])) t → Steps p.tables e below (s₁.setTop (entryFrame m #[(.int p1)] 1)) t := by
          intro t k
          refine pre13 _ ?_
          show Steps p.tables e below (s₁.setTop (mkF m 34 #[.val (.int p1)] [])) _
          refine XS.iconst X0.here hx rfl (hb hby d1_34) ?_
          exact k
        obtain ⟨fs, hr, hrun, hended, hW, hsame⟩ := X0.leave (v := some (.int (0 : Int32))) (fun h => by rw [Bd.returns] at h; cases h)
        refine ⟨_, _, pre14 _ ?_, hrun, hended, _, _, rfl, ?_, ⟨_, rfl⟩, hW, hsame.mono (by decide) (by decide)⟩
        · show Steps p.tables e below (s₁.setTop (mkF m 35 #[.val (.int p1)] [(.int (0 : Int32))])) _
          exact retN X0 hx (t := .boolean) Bd.returns (by simp) (hb hby d1_35) hr
        · show Q1 Z p1 h0 n0 _ s₁.heap _
          rw [e0]
          exact ⟨(by rw [F1, if_neg hc2, if_neg hc7, if_pos hc12]), N0, rfl⟩
      · have pre15 : ∀ t, Steps p.tables e below (s₁.setTop (mkF m 18 #[.val (.int p1)] [])) t → Steps p.tables e below (s₁.setTop (entryFrame m #[(.int p1)] 1)) t := by
          intro t k
          refine pre11 _ ?_
          show Steps p.tables e below (s₁.setTop (mkF m 15 #[.val (.int p1)] [(.int (10 : Int32)), (.int p1)])) _
          refine XS.icmpNo X0.here hx rfl (hb hby d1_15) rfl (feq hc12).1 ?_
          exact k
        have pre16 : ∀ t, Steps p.tables e below (s₁.setTop (mkF m 21 #[.val (.int p1)] [(.int (13 : Int32)), (.int p1)])) t → Steps p.tables e below (s₁.setTop (entryFrame m #[(.int p1)] 1)) t := by
          intro t k
          refine pre15 _ ?_
          show Steps p.tables e below (s₁.setTop (mkF m 18 #[.val (.int p1)] [])) _
          refine XS.iloadN X0.here hx rfl (hb hby d1_18) rfl ?_
          show Steps p.tables e below (s₁.setTop (mkF m 19 #[.val (.int p1)] [(.int p1)])) _
          refine XS.bipush X0.here hx rfl (hb hby d1_19) ?_
          exact k
        by_cases hc17 : p1 = (13 : Int32)
        · have pre18 : ∀ t, Steps p.tables e below (s₁.setTop (mkF m 34 #[.val (.int p1)] [])) t → Steps p.tables e below (s₁.setTop (entryFrame m #[(.int p1)] 1)) t := by
            intro t k
            refine pre16 _ ?_
            show Steps p.tables e below (s₁.setTop (mkF m 21 #[.val (.int p1)] [(.int (13 : Int32)), (.int p1)])) _
            refine XS.icmpYes X0.here hx rfl (pc0 := 21) (pc' := 34) rfl (hb hby d1_21) rfl (teq hc17).1 (by decide) (by decide) ?_
            exact k
          have pre19 : ∀ t, Steps p.tables e below (s₁.setTop (mkF m 35 #[.val (.int p1)] [(.int (0 : Int32))])) t → Steps p.tables e below (s₁.setTop (entryFrame m #[(.int p1)] 1)) t := by
            intro t k
            refine pre18 _ ?_
            show Steps p.tables e below (s₁.setTop (mkF m 34 #[.val (.int p1)] [])) _
            refine XS.iconst X0.here hx rfl (hb hby d1_34) ?_
            exact k
          obtain ⟨fs, hr, hrun, hended, hW, hsame⟩ := X0.leave (v := some (.int (0 : Int32))) (fun h => by rw [Bd.returns] at h; cases h)
          refine ⟨_, _, pre19 _ ?_, hrun, hended, _, _, rfl, ?_, ⟨_, rfl⟩, hW, hsame.mono (by decide) (by decide)⟩
          · show Steps p.tables e below (s₁.setTop (mkF m 35 #[.val (.int p1)] [(.int (0 : Int32))])) _
            exact retN X0 hx (t := .boolean) Bd.returns (by simp) (hb hby d1_35) hr
          · show Q1 Z p1 h0 n0 _ s₁.heap _
            rw [e0]
            exact ⟨(by rw [F1, if_neg hc2, if_neg hc7, if_neg hc12, if_pos hc17]), N0, rfl⟩
        · have pre20 : ∀ t, Steps p.tables e below (s₁.setTop (mkF m 24 #[.val (.int p1)] [])) t → Steps p.tables e below (s₁.setTop (entryFrame m #[(.int p1)] 1)) t := by
            intro t k
            refine pre16 _ ?_
            show Steps p.tables e below (s₁.setTop (mkF m 21 #[.val (.int p1)] [(.int (13 : Int32)), (.int p1)])) _
            refine XS.icmpNo X0.here hx rfl (hb hby d1_21) rfl (feq hc17).1 ?_
            exact k
          have pre21 : ∀ t, Steps p.tables e below (s₁.setTop (mkF m 27 #[.val (.int p1)] [(.int (34 : Int32)), (.int p1)])) t → Steps p.tables e below (s₁.setTop (entryFrame m #[(.int p1)] 1)) t := by
            intro t k
            refine pre20 _ ?_
            show Steps p.tables e below (s₁.setTop (mkF m 24 #[.val (.int p1)] [])) _
            refine XS.iloadN X0.here hx rfl (hb hby d1_24) rfl ?_
            show Steps p.tables e below (s₁.setTop (mkF m 25 #[.val (.int p1)] [(.int p1)])) _
            refine XS.bipush X0.here hx rfl (hb hby d1_25) ?_
            exact k
          by_cases hc22 : p1 = (34 : Int32)
          · have pre23 : ∀ t, Steps p.tables e below (s₁.setTop (mkF m 34 #[.val (.int p1)] [])) t → Steps p.tables e below (s₁.setTop (entryFrame m #[(.int p1)] 1)) t := by
              intro t k
              refine pre21 _ ?_
              show Steps p.tables e below (s₁.setTop (mkF m 27 #[.val (.int p1)] [(.int (34 : Int32)), (.int p1)])) _
              refine XS.icmpYes X0.here hx rfl (pc0 := 27) (pc' := 34) rfl (hb hby d1_27) rfl (teq hc22).1 (by decide) (by decide) ?_
              exact k
            have pre24 : ∀ t, Steps p.tables e below (s₁.setTop (mkF m 35 #[.val (.int p1)] [(.int (0 : Int32))])) t → Steps p.tables e below (s₁.setTop (entryFrame m #[(.int p1)] 1)) t := by
              intro t k
              refine pre23 _ ?_
              show Steps p.tables e below (s₁.setTop (mkF m 34 #[.val (.int p1)] [])) _
              refine XS.iconst X0.here hx rfl (hb hby d1_34) ?_
              exact k
            obtain ⟨fs, hr, hrun, hended, hW, hsame⟩ := X0.leave (v := some (.int (0 : Int32))) (fun h => by rw [Bd.returns] at h; cases h)
            refine ⟨_, _, pre24 _ ?_, hrun, hended, _, _, rfl, ?_, ⟨_, rfl⟩, hW, hsame.mono (by decide) (by decide)⟩
            · show Steps p.tables e below (s₁.setTop (mkF m 35 #[.val (.int p1)] [(.int (0 : Int32))])) _
              exact retN X0 hx (t := .boolean) Bd.returns (by simp) (hb hby d1_35) hr
            · show Q1 Z p1 h0 n0 _ s₁.heap _
              rw [e0]
              exact ⟨(by rw [F1, if_neg hc2, if_neg hc7, if_neg hc12, if_neg hc17, if_pos hc22]), N0, rfl⟩
          · have pre25 : ∀ t, Steps p.tables e below (s₁.setTop (mkF m 30 #[.val (.int p1)] [])) t → Steps p.tables e below (s₁.setTop (entryFrame m #[(.int p1)] 1)) t := by
              intro t k
              refine pre21 _ ?_
              show Steps p.tables e below (s₁.setTop (mkF m 27 #[.val (.int p1)] [(.int (34 : Int32)), (.int p1)])) _
              refine XS.icmpNo X0.here hx rfl (hb hby d1_27) rfl (feq hc22).1 ?_
              exact k
            have pre26 : ∀ t, Steps p.tables e below (s₁.setTop (mkF m 35 #[.val (.int p1)] [(.int (1 : Int32))])) t → Steps p.tables e below (s₁.setTop (entryFrame m #[(.int p1)] 1)) t := by
              intro t k
              refine pre25 _ ?_
              show Steps p.tables e below (s₁.setTop (mkF m 30 #[.val (.int p1)] [])) _
              refine XS.iconst X0.here hx rfl (hb hby d1_30) ?_
              show Steps p.tables e below (s₁.setTop (mkF m 31 #[.val (.int p1)] [(.int (1 : Int32))])) _
              refine XS.goto X0.here hx rfl (pc0 := 31) (pc' := 35) rfl (hb hby d1_31) (by decide) (by decide) ?_
              exact k
            obtain ⟨fs, hr, hrun, hended, hW, hsame⟩ := X0.leave (v := some (.int (1 : Int32))) (fun h => by rw [Bd.returns] at h; cases h)
            refine ⟨_, _, pre26 _ ?_, hrun, hended, _, _, rfl, ?_, ⟨_, rfl⟩, hW, hsame.mono (by decide) (by decide)⟩
            · show Steps p.tables e below (s₁.setTop (mkF m 35 #[.val (.int p1)] [(.int (1 : Int32))])) _
              exact retN X0 hx (t := .boolean) Bd.returns (by simp) (hb hby d1_35) hr
            · show Q1 Z p1 h0 n0 _ s₁.heap _
              rw [e0]
              exact ⟨(by rw [F1, if_neg hc2, if_neg hc7, if_neg hc12, if_neg hc17, if_neg hc22]), N0, rfl⟩
theorem pd__C_Z : parseMethodDescriptor "(C)Z" = some ⟨[.char], some .boolean⟩ := by decide +kernel
theorem pn_0 : plainName "com/example/matchbook/matchbook/CsvReaderPlainPinLaw" = true := by first | (simp [plainName, overriddenIn]; done) | decide +kernel
theorem ef_0 (m : MethodId) (x0 : Int32) (x1 : Int32) : entryFrame m #[(.int x0), (.int x1)] maxLocals = mkF m 0 #[.val (.int x0), .val (.int x1), .unset, .unset, .unset] [] := by first | (simp [entryFrame, mkF, argsToLocals, Value.category, maxLocals]; done) | rfl
def F0 (p1 : Int32) (p2 : Int32) : Int32 :=
  if (p2 &&& (7 : Int32)) = (0 : Int32) then (  if (F1 (44 : Int32)) = (0 : Int32) then (  (1 : Int32))
  else (  (0 : Int32)))
  else (  if (p2 &&& (7 : Int32)) = (1 : Int32) then (  if (F1 (34 : Int32)) = (0 : Int32) then (  (1 : Int32))
  else (  (0 : Int32)))
  else (  if (p2 &&& (7 : Int32)) = (2 : Int32) then (  if (F1 (10 : Int32)) = (0 : Int32) then (  (1 : Int32))
  else (  (0 : Int32)))
  else (  if (p2 &&& (7 : Int32)) = (3 : Int32) then (  if (F1 (13 : Int32)) = (0 : Int32) then (  (1 : Int32))
  else (  (0 : Int32)))
  else (  if (p1.toUInt32.toUInt16.toUInt32.toInt32) = (44 : Int32) then (  if (F1 (p1.toUInt32.toUInt16.toUInt32.toInt32)) = (0 : Int32) then (  (1 : Int32))
  else (  (0 : Int32)))
  else (  if (p1.toUInt32.toUInt16.toUInt32.toInt32) = (34 : Int32) then (  if (F1 (p1.toUInt32.toUInt16.toUInt32.toInt32)) = (0 : Int32) then (  (1 : Int32))
  else (  (0 : Int32)))
  else (  if (p1.toUInt32.toUInt16.toUInt32.toInt32) = (10 : Int32) then (  if (F1 (p1.toUInt32.toUInt16.toUInt32.toInt32)) = (0 : Int32) then (  (1 : Int32))
  else (  (0 : Int32)))
  else (  if (p1.toUInt32.toUInt16.toUInt32.toInt32) = (13 : Int32) then (  if (F1 (p1.toUInt32.toUInt16.toUInt32.toInt32)) = (0 : Int32) then (  (1 : Int32))
  else (  (0 : Int32)))
  else (  if (F1 (p1.toUInt32.toUInt16.toUInt32.toInt32)) = (1 : Int32) then (  (1 : Int32))
  else (  (0 : Int32))))))))))
def Q0 (Z : State) (p1 : Int32) (p2 : Int32) (h0 : Heap) (n0 : Nat) (v : Option Value) (h : Heap) (L : List Loc) : Prop := v = some (.int (F0 p1 p2)) ∧ Fr n0 L ∧ h = h0
set_option maxRecDepth 65536 in
set_option maxHeartbeats 40000000 in
theorem rm0 (l : Launch) (Z : State) (a0 : Array Value) (hw : ∀ d ∈ tables_1, d.before a0 Z = true) (ws : List Jvm.Cond) (p1 : Int32) (p2 : Int32) (h0 : Heap) (n0 : Nat) (Z0 : n0 ≤ h0.size)  :
    MetFree l x (head1 (Jvm.Cond.code x code maxLocals ret :: ws) room_1) (fun a U => a = #[(.int p1), (.int p2)] ∧ Z.Warmed39 U.vm ∧ U.heap = h0) (fun _ _ _ _ _ => True) (fun _ U o U' => ∃ v L, o = .returned v ∧ Q0 Z p1 p2 h0 n0 v U'.heap L ∧ FrameEnd U o U' L room_1.cells room_1.slots) := by
  refine MetFree.of_bodySF (plainFor_of_name pn_0) hisR ?_
  intro p e s m args below meth c s₁ Bd hml0 hP hK
  obtain ⟨rfl, hZ, hh⟩ := hP
  have hx := Bd.exec
  have hby := Bd.bytes
  have hml : c.maxLocals = 5 := hml0
  have hown : s.vm.findClass "com/example/matchbook/matchbook/CsvReaderPlainPinLaw" = some m.cls := findClass_of_methodNamed Bd.named
  have hnm := (name_of_methodNamed Bd.named Bd.method).1
  have X0 : Stand p l e room_1 s m #[(.int p1), (.int p2)] below meth c s₁ [] 0 0 := Stand.of_body Bd
  have e0 : s₁.heap = h0 := by rw [← hh, Bd.state]; rfl
  have N0 := Fr.nil n0
  have pre0 : ∀ t, Steps p.tables e below (s₁.setTop (mkF m 0 #[.val (.int p1), .val (.int p2), .unset, .unset, .unset] [])) t → Steps p.tables e below (s₁.setTop (entryFrame m #[(.int p1), (.int p2)] maxLocals)) t := fun t k => castTop (ef_0 m p1 p2) k
  have pre27 : ∀ t, Steps p.tables e below (s₁.setTop (mkF m 6 #[.val (.int p1), .val (.int p2), .val (.int (p2 &&& (7 : Int32))), .unset, .unset] [(.int (p2 &&& (7 : Int32)))])) t → Steps p.tables e below (s₁.setTop (entryFrame m #[(.int p1), (.int p2)] maxLocals)) t := by
    intro t k
    refine pre0 _ ?_
    show Steps p.tables e below (s₁.setTop (mkF m 0 #[.val (.int p1), .val (.int p2), .unset, .unset, .unset] [])) _
    refine XS.iloadN X0.here hx rfl (hb hby at_0) rfl ?_
    show Steps p.tables e below (s₁.setTop (mkF m 1 #[.val (.int p1), .val (.int p2), .unset, .unset, .unset] [(.int p2)])) _
    refine XS.bipush X0.here hx rfl (hb hby at_1) ?_
    show Steps p.tables e below (s₁.setTop (mkF m 3 #[.val (.int p1), .val (.int p2), .unset, .unset, .unset] [(.int (7 : Int32)), (.int p2)])) _
    refine XS.iand X0.here hx rfl (hb hby at_3) rfl ?_
    show Steps p.tables e below (s₁.setTop (mkF m 4 #[.val (.int p1), .val (.int p2), .unset, .unset, .unset] [(.int (p2 &&& (7 : Int32)))])) _
    refine XS.istoreN X0.here hx rfl (hb hby at_4) rfl (l' := #[.val (.int p1), .val (.int p2), .val (.int (p2 &&& (7 : Int32))), .unset, .unset]) rfl ?_
    show Steps p.tables e below (s₁.setTop (mkF m 5 #[.val (.int p1), .val (.int p2), .val (.int (p2 &&& (7 : Int32))), .unset, .unset] [])) _
    refine XS.iloadN X0.here hx rfl (hb hby at_5) rfl ?_
    exact k
  by_cases hc28 : (p2 &&& (7 : Int32)) = (0 : Int32)
  · have pre29 : ∀ t, Steps p.tables e below (s₁.setTop (mkF m 9 #[.val (.int p1), .val (.int p2), .val (.int (p2 &&& (7 : Int32))), .unset, .unset] [])) t → Steps p.tables e below (s₁.setTop (entryFrame m #[(.int p1), (.int p2)] maxLocals)) t := by
      intro t k
      refine pre27 _ ?_
      show Steps p.tables e below (s₁.setTop (mkF m 6 #[.val (.int p1), .val (.int p2), .val (.int (p2 &&& (7 : Int32))), .unset, .unset] [(.int (p2 &&& (7 : Int32)))])) _
      refine XS.ifNo X0.here hx rfl (hb hby at_6) rfl ((if0 _ _).trans (teq hc28).2) ?_
      exact k
    have pre30 : ∀ t, Steps p.tables e below (s₁.setTop (mkF m 54 #[.val (.int p1), .val (.int p2), .val (.int (p2 &&& (7 : Int32))), .val (.int (44 : Int32)), .unset] [(.int (44 : Int32)), (.int (44 : Int32))])) t → Steps p.tables e below (s₁.setTop (entryFrame m #[(.int p1), (.int p2)] maxLocals)) t := by
      intro t k
      refine pre29 _ ?_
      show Steps p.tables e below (s₁.setTop (mkF m 9 #[.val (.int p1), .val (.int p2), .val (.int (p2 &&& (7 : Int32))), .unset, .unset] [])) _
      refine XS.bipush X0.here hx rfl (hb hby at_9) ?_
      show Steps p.tables e below (s₁.setTop (mkF m 11 #[.val (.int p1), .val (.int p2), .val (.int (p2 &&& (7 : Int32))), .unset, .unset] [(.int (44 : Int32))])) _
      refine XS.istoreN X0.here hx rfl (hb hby at_11) rfl (l' := #[.val (.int p1), .val (.int p2), .val (.int (p2 &&& (7 : Int32))), .val (.int (44 : Int32)), .unset]) rfl ?_
      show Steps p.tables e below (s₁.setTop (mkF m 12 #[.val (.int p1), .val (.int p2), .val (.int (p2 &&& (7 : Int32))), .val (.int (44 : Int32)), .unset] [])) _
      refine XS.goto X0.here hx rfl (pc0 := 12) (pc' := 51) rfl (hb hby at_12) (by decide) (by decide) ?_
      show Steps p.tables e below (s₁.setTop (mkF m 51 #[.val (.int p1), .val (.int p2), .val (.int (p2 &&& (7 : Int32))), .val (.int (44 : Int32)), .unset] [])) _
      refine XS.iloadN X0.here hx rfl (hb hby at_51) rfl ?_
      show Steps p.tables e below (s₁.setTop (mkF m 52 #[.val (.int p1), .val (.int p2), .val (.int (p2 &&& (7 : Int32))), .val (.int (44 : Int32)), .unset] [(.int (44 : Int32))])) _
      refine XS.bipush X0.here hx rfl (hb hby at_52) ?_
      exact k
    have pre32 : ∀ t, Steps p.tables e below (s₁.setTop (mkF m 75 #[.val (.int p1), .val (.int p2), .val (.int (p2 &&& (7 : Int32))), .val (.int (44 : Int32)), .unset] [])) t → Steps p.tables e below (s₁.setTop (entryFrame m #[(.int p1), (.int p2)] maxLocals)) t := by
      intro t k
      refine pre30 _ ?_
      show Steps p.tables e below (s₁.setTop (mkF m 54 #[.val (.int p1), .val (.int p2), .val (.int (p2 &&& (7 : Int32))), .val (.int (44 : Int32)), .unset] [(.int (44 : Int32)), (.int (44 : Int32))])) _
      refine XS.icmpYes X0.here hx rfl (pc0 := 54) (pc' := 75) rfl (hb hby at_54) rfl (teq (by decide : (44 : Int32) = (44 : Int32))).1 (by decide) (by decide) ?_
      exact k
    have pre33 : ∀ t, Steps p.tables e below (s₁.setTop (mkF m 83 #[.val (.int p1), .val (.int p2), .val (.int (p2 &&& (7 : Int32))), .val (.int (44 : Int32)), .val (.int (1 : Int32))] [(.int (44 : Int32))])) t → Steps p.tables e below (s₁.setTop (entryFrame m #[(.int p1), (.int p2)] maxLocals)) t := by
      intro t k
      refine pre32 _ ?_
      show Steps p.tables e below (s₁.setTop (mkF m 75 #[.val (.int p1), .val (.int p2), .val (.int (p2 &&& (7 : Int32))), .val (.int (44 : Int32)), .unset] [])) _
      refine XS.iconst X0.here hx rfl (hb hby at_75) ?_
      show Steps p.tables e below (s₁.setTop (mkF m 76 #[.val (.int p1), .val (.int p2), .val (.int (p2 &&& (7 : Int32))), .val (.int (44 : Int32)), .unset] [(.int (1 : Int32))])) _
      refine XS.goto X0.here hx rfl (pc0 := 76) (pc' := 80) rfl (hb hby at_76) (by decide) (by decide) ?_
      show Steps p.tables e below (s₁.setTop (mkF m 80 #[.val (.int p1), .val (.int p2), .val (.int (p2 &&& (7 : Int32))), .val (.int (44 : Int32)), .unset] [(.int (1 : Int32))])) _
      refine XS.istore X0.here hx rfl (hb hby at_80) rfl (l' := #[.val (.int p1), .val (.int p2), .val (.int (p2 &&& (7 : Int32))), .val (.int (44 : Int32)), .val (.int (1 : Int32))]) rfl ?_
      show Steps p.tables e below (s₁.setTop (mkF m 82 #[.val (.int p1), .val (.int p2), .val (.int (p2 &&& (7 : Int32))), .val (.int (44 : Int32)), .val (.int (1 : Int32))] [])) _
      refine XS.iloadN X0.here hx rfl (hb hby at_82) rfl ?_
      exact k
    obtain ⟨_, _, ⟨T34, L34, k34, n34⟩, -, X34, ⟨Lc34, hQ34, l34, y34, z34⟩, st34⟩ := Jvm.LawKit.callS X0 hx (y := (⟨"com/example/matchbook/matchbook/CsvReader", "plain", "(C)Z"⟩ : MethodName)) hown (mvT hZ (hw _ (List.mem_of_getElem? (i := 0) rfl))) (mvT hZ (hw _ (List.mem_of_getElem? (i := 1) rfl))) (mvT hZ (hw _ (List.mem_of_getElem? (i := 2) rfl))) (mvT hZ (hw _ (List.mem_of_getElem? (i := 3) rfl))) (by decide) (backOf (W := 0) (rm1 l Z a0 hw [] (44 : Int32) h0 n0 Z0 ) hZ (hw _ (List.mem_of_getElem? (i := 3) rfl)) (hw _ (List.mem_of_getElem? (i := 2) rfl)) (by decide) (by decide)) (g := (mkF m 83 #[.val (.int p1), .val (.int p2), .val (.int (p2 &&& (7 : Int32))), .val (.int (44 : Int32)), .val (.int (1 : Int32))] [(.int (44 : Int32))])) rfl (by rw [hml]; rfl) (argsL := [(.int (44 : Int32))]) (rest := []) (lenOf pd__C_Z rfl) rfl (by show 2 * 0 + _ ≤ _; exact Nat.le_of_eq rfl) (hb hby at_83) (fun _ _ => ⟨rfl, e0, (by decide : 0 + 0 ≤ _), (by decide : 0 + 0 ≤ _)⟩)
    dsimp only [Pt.U, Pt.locs, Pt.cells, Pt.slots] at X34 l34 y34 z34 st34 hQ34
    subst l34 y34 z34
    obtain ⟨rfl, N34q, e34⟩ := hQ34
    have N34 := Fr.app N0 N34q
    have pre35 : ∀ t, Steps p.tables e below (T34.setTop (mkF m 86 #[.val (.int p1), .val (.int p2), .val (.int (p2 &&& (7 : Int32))), .val (.int (44 : Int32)), .val (.int (1 : Int32))] [(.int (F1 (44 : Int32)))])) t → Steps p.tables e below (s₁.setTop (entryFrame m #[(.int p1), (.int p2)] maxLocals)) t := by
      intro t k
      refine pre33 _ ?_
      show Steps p.tables e below (s₁.setTop (mkF m 83 #[.val (.int p1), .val (.int p2), .val (.int (p2 &&& (7 : Int32))), .val (.int (44 : Int32)), .val (.int (1 : Int32))] [(.int (44 : Int32))])) _
      refine st34 _ ?_
      exact k
    have pre36 : ∀ t, Steps p.tables e below (T34.setTop (mkF m 88 #[.val (.int p1), .val (.int p2), .val (.int (p2 &&& (7 : Int32))), .val (.int (44 : Int32)), .val (.int (1 : Int32))] [(.int (1 : Int32)), (.int (F1 (44 : Int32)))])) t → Steps p.tables e below (s₁.setTop (entryFrame m #[(.int p1), (.int p2)] maxLocals)) t := by
      intro t k
      refine pre35 _ ?_
      show Steps p.tables e below (T34.setTop (mkF m 86 #[.val (.int p1), .val (.int p2), .val (.int (p2 &&& (7 : Int32))), .val (.int (44 : Int32)), .val (.int (1 : Int32))] [(.int (F1 (44 : Int32)))])) _
      refine XS.iload X34.here hx rfl (hb hby at_86) rfl ?_
      exact k
    have pre38 : ∀ t, Steps p.tables e below (T34.setTop (mkF m 95 #[.val (.int p1), .val (.int p2), .val (.int (p2 &&& (7 : Int32))), .val (.int (44 : Int32)), .val (.int (1 : Int32))] [(.int (F1 (44 : Int32)))])) t → Steps p.tables e below (s₁.setTop (entryFrame m #[(.int p1), (.int p2)] maxLocals)) t := by
      intro t k
      refine pre36 _ ?_
      show Steps p.tables e below (T34.setTop (mkF m 88 #[.val (.int p1), .val (.int p2), .val (.int (p2 &&& (7 : Int32))), .val (.int (44 : Int32)), .val (.int (1 : Int32))] [(.int (1 : Int32)), (.int (F1 (44 : Int32)))])) _
      refine XS.ifYes X34.here hx rfl (pc0 := 88) (pc' := 95) rfl (hb hby at_88) rfl ((if0 _ _).trans (feq (by decide : ¬ ((1 : Int32) = (0 : Int32)))).2) (by decide) (by decide) ?_
      exact k
    have pre39 : ∀ t, Steps p.tables e below (T34.setTop (mkF m 96 #[.val (.int p1), .val (.int p2), .val (.int (p2 &&& (7 : Int32))), .val (.int (44 : Int32)), .val (.int (1 : Int32))] [(.int (0 : Int32)), (.int (F1 (44 : Int32)))])) t → Steps p.tables e below (s₁.setTop (entryFrame m #[(.int p1), (.int p2)] maxLocals)) t := by
      intro t k
      refine pre38 _ ?_
      show Steps p.tables e below (T34.setTop (mkF m 95 #[.val (.int p1), .val (.int p2), .val (.int (p2 &&& (7 : Int32))), .val (.int (44 : Int32)), .val (.int (1 : Int32))] [(.int (F1 (44 : Int32)))])) _
      refine XS.iconst X34.here hx rfl (hb hby at_95) ?_
      exact k
    by_cases hc40 : (F1 (44 : Int32)) = (0 : Int32)
    · have pre41 : ∀ t, Steps p.tables e below (T34.setTop (mkF m 99 #[.val (.int p1), .val (.int p2), .val (.int (p2 &&& (7 : Int32))), .val (.int (44 : Int32)), .val (.int (1 : Int32))] [])) t → Steps p.tables e below (s₁.setTop (entryFrame m #[(.int p1), (.int p2)] maxLocals)) t := by
        intro t k
        refine pre39 _ ?_
        show Steps p.tables e below (T34.setTop (mkF m 96 #[.val (.int p1), .val (.int p2), .val (.int (p2 &&& (7 : Int32))), .val (.int (44 : Int32)), .val (.int (1 : Int32))] [(.int (0 : Int32)), (.int (F1 (44 : Int32)))])) _
        refine XS.icmpNo X34.here hx rfl (hb hby at_96) rfl (teq hc40).2 ?_
        exact k
      have pre42 : ∀ t, Steps p.tables e below (T34.setTop (mkF m 104 #[.val (.int p1), .val (.int p2), .val (.int (p2 &&& (7 : Int32))), .val (.int (44 : Int32)), .val (.int (1 : Int32))] [(.int (1 : Int32))])) t → Steps p.tables e below (s₁.setTop (entryFrame m #[(.int p1), (.int p2)] maxLocals)) t := by
        intro t k
        refine pre41 _ ?_
        show Steps p.tables e below (T34.setTop (mkF m 99 #[.val (.int p1), .val (.int p2), .val (.int (p2 &&& (7 : Int32))), .val (.int (44 : Int32)), .val (.int (1 : Int32))] [])) _
        refine XS.iconst X34.here hx rfl (hb hby at_99) ?_
        show Steps p.tables e below (T34.setTop (mkF m 100 #[.val (.int p1), .val (.int p2), .val (.int (p2 &&& (7 : Int32))), .val (.int (44 : Int32)), .val (.int (1 : Int32))] [(.int (1 : Int32))])) _
        refine XS.goto X34.here hx rfl (pc0 := 100) (pc' := 104) rfl (hb hby at_100) (by decide) (by decide) ?_
        exact k
      obtain ⟨fs, hr, hrun, hended, hW, hsame⟩ := X34.leave (v := some (.int (1 : Int32))) (fun h => by rw [Bd.returns] at h; cases h)
      refine ⟨_, _, pre42 _ ?_, hrun, hended, _, _, rfl, ?_, ⟨_, rfl⟩, hW, hsame.mono (by decide) (by decide)⟩
      · show Steps p.tables e below (T34.setTop (mkF m 104 #[.val (.int p1), .val (.int p2), .val (.int (p2 &&& (7 : Int32))), .val (.int (44 : Int32)), .val (.int (1 : Int32))] [(.int (1 : Int32))])) _
        exact retN X34 hx (t := .boolean) Bd.returns (by simp) (hb hby at_104) hr
      · show Q0 Z p1 p2 h0 n0 _ T34.heap _
        rw [e34]
        exact ⟨(by rw [F0, if_pos hc28, if_pos hc40]), N34, rfl⟩
    · have pre43 : ∀ t, Steps p.tables e below (T34.setTop (mkF m 103 #[.val (.int p1), .val (.int p2), .val (.int (p2 &&& (7 : Int32))), .val (.int (44 : Int32)), .val (.int (1 : Int32))] [])) t → Steps p.tables e below (s₁.setTop (entryFrame m #[(.int p1), (.int p2)] maxLocals)) t := by
        intro t k
        refine pre39 _ ?_
        show Steps p.tables e below (T34.setTop (mkF m 96 #[.val (.int p1), .val (.int p2), .val (.int (p2 &&& (7 : Int32))), .val (.int (44 : Int32)), .val (.int (1 : Int32))] [(.int (0 : Int32)), (.int (F1 (44 : Int32)))])) _
        refine XS.icmpYes X34.here hx rfl (pc0 := 96) (pc' := 103) rfl (hb hby at_96) rfl (feq hc40).2 (by decide) (by decide) ?_
        exact k
      have pre44 : ∀ t, Steps p.tables e below (T34.setTop (mkF m 104 #[.val (.int p1), .val (.int p2), .val (.int (p2 &&& (7 : Int32))), .val (.int (44 : Int32)), .val (.int (1 : Int32))] [(.int (0 : Int32))])) t → Steps p.tables e below (s₁.setTop (entryFrame m #[(.int p1), (.int p2)] maxLocals)) t := by
        intro t k
        refine pre43 _ ?_
        show Steps p.tables e below (T34.setTop (mkF m 103 #[.val (.int p1), .val (.int p2), .val (.int (p2 &&& (7 : Int32))), .val (.int (44 : Int32)), .val (.int (1 : Int32))] [])) _
        refine XS.iconst X34.here hx rfl (hb hby at_103) ?_
        exact k
      obtain ⟨fs, hr, hrun, hended, hW, hsame⟩ := X34.leave (v := some (.int (0 : Int32))) (fun h => by rw [Bd.returns] at h; cases h)
      refine ⟨_, _, pre44 _ ?_, hrun, hended, _, _, rfl, ?_, ⟨_, rfl⟩, hW, hsame.mono (by decide) (by decide)⟩
      · show Steps p.tables e below (T34.setTop (mkF m 104 #[.val (.int p1), .val (.int p2), .val (.int (p2 &&& (7 : Int32))), .val (.int (44 : Int32)), .val (.int (1 : Int32))] [(.int (0 : Int32))])) _
        exact retN X34 hx (t := .boolean) Bd.returns (by simp) (hb hby at_104) hr
      · show Q0 Z p1 p2 h0 n0 _ T34.heap _
        rw [e34]
        exact ⟨(by rw [F0, if_pos hc28, if_neg hc40]), N34, rfl⟩
  · have pre45 : ∀ t, Steps p.tables e below (s₁.setTop (mkF m 15 #[.val (.int p1), .val (.int p2), .val (.int (p2 &&& (7 : Int32))), .unset, .unset] [])) t → Steps p.tables e below (s₁.setTop (entryFrame m #[(.int p1), (.int p2)] maxLocals)) t := by
      intro t k
      refine pre27 _ ?_
      show Steps p.tables e below (s₁.setTop (mkF m 6 #[.val (.int p1), .val (.int p2), .val (.int (p2 &&& (7 : Int32))), .unset, .unset] [(.int (p2 &&& (7 : Int32)))])) _
      refine XS.ifYes X0.here hx rfl (pc0 := 6) (pc' := 15) rfl (hb hby at_6) rfl ((if0 _ _).trans (feq hc28).2) (by decide) (by decide) ?_
      exact k
    have pre46 : ∀ t, Steps p.tables e below (s₁.setTop (mkF m 17 #[.val (.int p1), .val (.int p2), .val (.int (p2 &&& (7 : Int32))), .unset, .unset] [(.int (1 : Int32)), (.int (p2 &&& (7 : Int32)))])) t → Steps p.tables e below (s₁.setTop (entryFrame m #[(.int p1), (.int p2)] maxLocals)) t := by
      intro t k
      refine pre45 _ ?_
      show Steps p.tables e below (s₁.setTop (mkF m 15 #[.val (.int p1), .val (.int p2), .val (.int (p2 &&& (7 : Int32))), .unset, .unset] [])) _
      refine XS.iloadN X0.here hx rfl (hb hby at_15) rfl ?_
      show Steps p.tables e below (s₁.setTop (mkF m 16 #[.val (.int p1), .val (.int p2), .val (.int (p2 &&& (7 : Int32))), .unset, .unset] [(.int (p2 &&& (7 : Int32)))])) _
      refine XS.iconst X0.here hx rfl (hb hby at_16) ?_
      exact k
    by_cases hc47 : (p2 &&& (7 : Int32)) = (1 : Int32)
    · have pre48 : ∀ t, Steps p.tables e below (s₁.setTop (mkF m 20 #[.val (.int p1), .val (.int p2), .val (.int (p2 &&& (7 : Int32))), .unset, .unset] [])) t → Steps p.tables e below (s₁.setTop (entryFrame m #[(.int p1), (.int p2)] maxLocals)) t := by
        intro t k
        refine pre46 _ ?_
        show Steps p.tables e below (s₁.setTop (mkF m 17 #[.val (.int p1), .val (.int p2), .val (.int (p2 &&& (7 : Int32))), .unset, .unset] [(.int (1 : Int32)), (.int (p2 &&& (7 : Int32)))])) _
        refine XS.icmpNo X0.here hx rfl (hb hby at_17) rfl (teq hc47).2 ?_
        exact k
      have pre49 : ∀ t, Steps p.tables e below (s₁.setTop (mkF m 54 #[.val (.int p1), .val (.int p2), .val (.int (p2 &&& (7 : Int32))), .val (.int (34 : Int32)), .unset] [(.int (44 : Int32)), (.int (34 : Int32))])) t → Steps p.tables e below (s₁.setTop (entryFrame m #[(.int p1), (.int p2)] maxLocals)) t := by
        intro t k
        refine pre48 _ ?_
        show Steps p.tables e below (s₁.setTop (mkF m 20 #[.val (.int p1), .val (.int p2), .val (.int (p2 &&& (7 : Int32))), .unset, .unset] [])) _
        refine XS.bipush X0.here hx rfl (hb hby at_20) ?_
        show Steps p.tables e below (s₁.setTop (mkF m 22 #[.val (.int p1), .val (.int p2), .val (.int (p2 &&& (7 : Int32))), .unset, .unset] [(.int (34 : Int32))])) _
        refine XS.istoreN X0.here hx rfl (hb hby at_22) rfl (l' := #[.val (.int p1), .val (.int p2), .val (.int (p2 &&& (7 : Int32))), .val (.int (34 : Int32)), .unset]) rfl ?_
        show Steps p.tables e below (s₁.setTop (mkF m 23 #[.val (.int p1), .val (.int p2), .val (.int (p2 &&& (7 : Int32))), .val (.int (34 : Int32)), .unset] [])) _
        refine XS.goto X0.here hx rfl (pc0 := 23) (pc' := 51) rfl (hb hby at_23) (by decide) (by decide) ?_
        show Steps p.tables e below (s₁.setTop (mkF m 51 #[.val (.int p1), .val (.int p2), .val (.int (p2 &&& (7 : Int32))), .val (.int (34 : Int32)), .unset] [])) _
        refine XS.iloadN X0.here hx rfl (hb hby at_51) rfl ?_
        show Steps p.tables e below (s₁.setTop (mkF m 52 #[.val (.int p1), .val (.int p2), .val (.int (p2 &&& (7 : Int32))), .val (.int (34 : Int32)), .unset] [(.int (34 : Int32))])) _
        refine XS.bipush X0.here hx rfl (hb hby at_52) ?_
        exact k
      have pre51 : ∀ t, Steps p.tables e below (s₁.setTop (mkF m 57 #[.val (.int p1), .val (.int p2), .val (.int (p2 &&& (7 : Int32))), .val (.int (34 : Int32)), .unset] [])) t → Steps p.tables e below (s₁.setTop (entryFrame m #[(.int p1), (.int p2)] maxLocals)) t := by
        intro t k
        refine pre49 _ ?_
        show Steps p.tables e below (s₁.setTop (mkF m 54 #[.val (.int p1), .val (.int p2), .val (.int (p2 &&& (7 : Int32))), .val (.int (34 : Int32)), .unset] [(.int (44 : Int32)), (.int (34 : Int32))])) _
        refine XS.icmpNo X0.here hx rfl (hb hby at_54) rfl (feq (by decide : ¬ ((34 : Int32) = (44 : Int32)))).1 ?_
        exact k
      have pre52 : ∀ t, Steps p.tables e below (s₁.setTop (mkF m 60 #[.val (.int p1), .val (.int p2), .val (.int (p2 &&& (7 : Int32))), .val (.int (34 : Int32)), .unset] [(.int (34 : Int32)), (.int (34 : Int32))])) t → Steps p.tables e below (s₁.setTop (entryFrame m #[(.int p1), (.int p2)] maxLocals)) t := by
        intro t k
        refine pre51 _ ?_
        show Steps p.tables e below (s₁.setTop (mkF m 57 #[.val (.int p1), .val (.int p2), .val (.int (p2 &&& (7 : Int32))), .val (.int (34 : Int32)), .unset] [])) _
        refine XS.iloadN X0.here hx rfl (hb hby at_57) rfl ?_
        show Steps p.tables e below (s₁.setTop (mkF m 58 #[.val (.int p1), .val (.int p2), .val (.int (p2 &&& (7 : Int32))), .val (.int (34 : Int32)), .unset] [(.int (34 : Int32))])) _
        refine XS.bipush X0.here hx rfl (hb hby at_58) ?_
        exact k
      have pre54 : ∀ t, Steps p.tables e below (s₁.setTop (mkF m 75 #[.val (.int p1), .val (.int p2), .val (.int (p2 &&& (7 : Int32))), .val (.int (34 : Int32)), .unset] [])) t → Steps p.tables e below (s₁.setTop (entryFrame m #[(.int p1), (.int p2)] maxLocals)) t := by
        intro t k
        refine pre52 _ ?_
        show Steps p.tables e below (s₁.setTop (mkF m 60 #[.val (.int p1), .val (.int p2), .val (.int (p2 &&& (7 : Int32))), .val (.int (34 : Int32)), .unset] [(.int (34 : Int32)), (.int (34 : Int32))])) _
        refine XS.icmpYes X0.here hx rfl (pc0 := 60) (pc' := 75) rfl (hb hby at_60) rfl (teq (by decide : (34 : Int32) = (34 : Int32))).1 (by decide) (by decide) ?_
        exact k
      have pre55 : ∀ t, Steps p.tables e below (s₁.setTop (mkF m 83 #[.val (.int p1), .val (.int p2), .val (.int (p2 &&& (7 : Int32))), .val (.int (34 : Int32)), .val (.int (1 : Int32))] [(.int (34 : Int32))])) t → Steps p.tables e below (s₁.setTop (entryFrame m #[(.int p1), (.int p2)] maxLocals)) t := by
        intro t k
        refine pre54 _ ?_
        show Steps p.tables e below (s₁.setTop (mkF m 75 #[.val (.int p1), .val (.int p2), .val (.int (p2 &&& (7 : Int32))), .val (.int (34 : Int32)), .unset] [])) _
        refine XS.iconst X0.here hx rfl (hb hby at_75) ?_
        show Steps p.tables e below (s₁.setTop (mkF m 76 #[.val (.int p1), .val (.int p2), .val (.int (p2 &&& (7 : Int32))), .val (.int (34 : Int32)), .unset] [(.int (1 : Int32))])) _
        refine XS.goto X0.here hx rfl (pc0 := 76) (pc' := 80) rfl (hb hby at_76) (by decide) (by decide) ?_
        show Steps p.tables e below (s₁.setTop (mkF m 80 #[.val (.int p1), .val (.int p2), .val (.int (p2 &&& (7 : Int32))), .val (.int (34 : Int32)), .unset] [(.int (1 : Int32))])) _
        refine XS.istore X0.here hx rfl (hb hby at_80) rfl (l' := #[.val (.int p1), .val (.int p2), .val (.int (p2 &&& (7 : Int32))), .val (.int (34 : Int32)), .val (.int (1 : Int32))]) rfl ?_
        show Steps p.tables e below (s₁.setTop (mkF m 82 #[.val (.int p1), .val (.int p2), .val (.int (p2 &&& (7 : Int32))), .val (.int (34 : Int32)), .val (.int (1 : Int32))] [])) _
        refine XS.iloadN X0.here hx rfl (hb hby at_82) rfl ?_
        exact k
      obtain ⟨_, _, ⟨T56, L56, k56, n56⟩, -, X56, ⟨Lc56, hQ56, l56, y56, z56⟩, st56⟩ := Jvm.LawKit.callS X0 hx (y := (⟨"com/example/matchbook/matchbook/CsvReader", "plain", "(C)Z"⟩ : MethodName)) hown (mvT hZ (hw _ (List.mem_of_getElem? (i := 0) rfl))) (mvT hZ (hw _ (List.mem_of_getElem? (i := 1) rfl))) (mvT hZ (hw _ (List.mem_of_getElem? (i := 2) rfl))) (mvT hZ (hw _ (List.mem_of_getElem? (i := 3) rfl))) (by decide) (backOf (W := 0) (rm1 l Z a0 hw [] (34 : Int32) h0 n0 Z0 ) hZ (hw _ (List.mem_of_getElem? (i := 3) rfl)) (hw _ (List.mem_of_getElem? (i := 2) rfl)) (by decide) (by decide)) (g := (mkF m 83 #[.val (.int p1), .val (.int p2), .val (.int (p2 &&& (7 : Int32))), .val (.int (34 : Int32)), .val (.int (1 : Int32))] [(.int (34 : Int32))])) rfl (by rw [hml]; rfl) (argsL := [(.int (34 : Int32))]) (rest := []) (lenOf pd__C_Z rfl) rfl (by show 2 * 0 + _ ≤ _; exact Nat.le_of_eq rfl) (hb hby at_83) (fun _ _ => ⟨rfl, e0, (by decide : 0 + 0 ≤ _), (by decide : 0 + 0 ≤ _)⟩)
      dsimp only [Pt.U, Pt.locs, Pt.cells, Pt.slots] at X56 l56 y56 z56 st56 hQ56
      subst l56 y56 z56
      obtain ⟨rfl, N56q, e56⟩ := hQ56
      have N56 := Fr.app N0 N56q
      have pre57 : ∀ t, Steps p.tables e below (T56.setTop (mkF m 86 #[.val (.int p1), .val (.int p2), .val (.int (p2 &&& (7 : Int32))), .val (.int (34 : Int32)), .val (.int (1 : Int32))] [(.int (F1 (34 : Int32)))])) t → Steps p.tables e below (s₁.setTop (entryFrame m #[(.int p1), (.int p2)] maxLocals)) t := by
        intro t k
        refine pre55 _ ?_
        show Steps p.tables e below (s₁.setTop (mkF m 83 #[.val (.int p1), .val (.int p2), .val (.int (p2 &&& (7 : Int32))), .val (.int (34 : Int32)), .val (.int (1 : Int32))] [(.int (34 : Int32))])) _
        refine st56 _ ?_
        exact k
      have pre58 : ∀ t, Steps p.tables e below (T56.setTop (mkF m 88 #[.val (.int p1), .val (.int p2), .val (.int (p2 &&& (7 : Int32))), .val (.int (34 : Int32)), .val (.int (1 : Int32))] [(.int (1 : Int32)), (.int (F1 (34 : Int32)))])) t → Steps p.tables e below (s₁.setTop (entryFrame m #[(.int p1), (.int p2)] maxLocals)) t := by
        intro t k
        refine pre57 _ ?_
        show Steps p.tables e below (T56.setTop (mkF m 86 #[.val (.int p1), .val (.int p2), .val (.int (p2 &&& (7 : Int32))), .val (.int (34 : Int32)), .val (.int (1 : Int32))] [(.int (F1 (34 : Int32)))])) _
        refine XS.iload X56.here hx rfl (hb hby at_86) rfl ?_
        exact k
      have pre60 : ∀ t, Steps p.tables e below (T56.setTop (mkF m 95 #[.val (.int p1), .val (.int p2), .val (.int (p2 &&& (7 : Int32))), .val (.int (34 : Int32)), .val (.int (1 : Int32))] [(.int (F1 (34 : Int32)))])) t → Steps p.tables e below (s₁.setTop (entryFrame m #[(.int p1), (.int p2)] maxLocals)) t := by
        intro t k
        refine pre58 _ ?_
        show Steps p.tables e below (T56.setTop (mkF m 88 #[.val (.int p1), .val (.int p2), .val (.int (p2 &&& (7 : Int32))), .val (.int (34 : Int32)), .val (.int (1 : Int32))] [(.int (1 : Int32)), (.int (F1 (34 : Int32)))])) _
        refine XS.ifYes X56.here hx rfl (pc0 := 88) (pc' := 95) rfl (hb hby at_88) rfl ((if0 _ _).trans (feq (by decide : ¬ ((1 : Int32) = (0 : Int32)))).2) (by decide) (by decide) ?_
        exact k
      have pre61 : ∀ t, Steps p.tables e below (T56.setTop (mkF m 96 #[.val (.int p1), .val (.int p2), .val (.int (p2 &&& (7 : Int32))), .val (.int (34 : Int32)), .val (.int (1 : Int32))] [(.int (0 : Int32)), (.int (F1 (34 : Int32)))])) t → Steps p.tables e below (s₁.setTop (entryFrame m #[(.int p1), (.int p2)] maxLocals)) t := by
        intro t k
        refine pre60 _ ?_
        show Steps p.tables e below (T56.setTop (mkF m 95 #[.val (.int p1), .val (.int p2), .val (.int (p2 &&& (7 : Int32))), .val (.int (34 : Int32)), .val (.int (1 : Int32))] [(.int (F1 (34 : Int32)))])) _
        refine XS.iconst X56.here hx rfl (hb hby at_95) ?_
        exact k
      by_cases hc62 : (F1 (34 : Int32)) = (0 : Int32)
      · have pre63 : ∀ t, Steps p.tables e below (T56.setTop (mkF m 99 #[.val (.int p1), .val (.int p2), .val (.int (p2 &&& (7 : Int32))), .val (.int (34 : Int32)), .val (.int (1 : Int32))] [])) t → Steps p.tables e below (s₁.setTop (entryFrame m #[(.int p1), (.int p2)] maxLocals)) t := by
          intro t k
          refine pre61 _ ?_
          show Steps p.tables e below (T56.setTop (mkF m 96 #[.val (.int p1), .val (.int p2), .val (.int (p2 &&& (7 : Int32))), .val (.int (34 : Int32)), .val (.int (1 : Int32))] [(.int (0 : Int32)), (.int (F1 (34 : Int32)))])) _
          refine XS.icmpNo X56.here hx rfl (hb hby at_96) rfl (teq hc62).2 ?_
          exact k
        have pre64 : ∀ t, Steps p.tables e below (T56.setTop (mkF m 104 #[.val (.int p1), .val (.int p2), .val (.int (p2 &&& (7 : Int32))), .val (.int (34 : Int32)), .val (.int (1 : Int32))] [(.int (1 : Int32))])) t → Steps p.tables e below (s₁.setTop (entryFrame m #[(.int p1), (.int p2)] maxLocals)) t := by
          intro t k
          refine pre63 _ ?_
          show Steps p.tables e below (T56.setTop (mkF m 99 #[.val (.int p1), .val (.int p2), .val (.int (p2 &&& (7 : Int32))), .val (.int (34 : Int32)), .val (.int (1 : Int32))] [])) _
          refine XS.iconst X56.here hx rfl (hb hby at_99) ?_
          show Steps p.tables e below (T56.setTop (mkF m 100 #[.val (.int p1), .val (.int p2), .val (.int (p2 &&& (7 : Int32))), .val (.int (34 : Int32)), .val (.int (1 : Int32))] [(.int (1 : Int32))])) _
          refine XS.goto X56.here hx rfl (pc0 := 100) (pc' := 104) rfl (hb hby at_100) (by decide) (by decide) ?_
          exact k
        obtain ⟨fs, hr, hrun, hended, hW, hsame⟩ := X56.leave (v := some (.int (1 : Int32))) (fun h => by rw [Bd.returns] at h; cases h)
        refine ⟨_, _, pre64 _ ?_, hrun, hended, _, _, rfl, ?_, ⟨_, rfl⟩, hW, hsame.mono (by decide) (by decide)⟩
        · show Steps p.tables e below (T56.setTop (mkF m 104 #[.val (.int p1), .val (.int p2), .val (.int (p2 &&& (7 : Int32))), .val (.int (34 : Int32)), .val (.int (1 : Int32))] [(.int (1 : Int32))])) _
          exact retN X56 hx (t := .boolean) Bd.returns (by simp) (hb hby at_104) hr
        · show Q0 Z p1 p2 h0 n0 _ T56.heap _
          rw [e56]
          exact ⟨(by rw [F0, if_neg hc28, if_pos hc47, if_pos hc62]), N56, rfl⟩
      · have pre65 : ∀ t, Steps p.tables e below (T56.setTop (mkF m 103 #[.val (.int p1), .val (.int p2), .val (.int (p2 &&& (7 : Int32))), .val (.int (34 : Int32)), .val (.int (1 : Int32))] [])) t → Steps p.tables e below (s₁.setTop (entryFrame m #[(.int p1), (.int p2)] maxLocals)) t := by
          intro t k
          refine pre61 _ ?_
          show Steps p.tables e below (T56.setTop (mkF m 96 #[.val (.int p1), .val (.int p2), .val (.int (p2 &&& (7 : Int32))), .val (.int (34 : Int32)), .val (.int (1 : Int32))] [(.int (0 : Int32)), (.int (F1 (34 : Int32)))])) _
          refine XS.icmpYes X56.here hx rfl (pc0 := 96) (pc' := 103) rfl (hb hby at_96) rfl (feq hc62).2 (by decide) (by decide) ?_
          exact k
        have pre66 : ∀ t, Steps p.tables e below (T56.setTop (mkF m 104 #[.val (.int p1), .val (.int p2), .val (.int (p2 &&& (7 : Int32))), .val (.int (34 : Int32)), .val (.int (1 : Int32))] [(.int (0 : Int32))])) t → Steps p.tables e below (s₁.setTop (entryFrame m #[(.int p1), (.int p2)] maxLocals)) t := by
          intro t k
          refine pre65 _ ?_
          show Steps p.tables e below (T56.setTop (mkF m 103 #[.val (.int p1), .val (.int p2), .val (.int (p2 &&& (7 : Int32))), .val (.int (34 : Int32)), .val (.int (1 : Int32))] [])) _
          refine XS.iconst X56.here hx rfl (hb hby at_103) ?_
          exact k
        obtain ⟨fs, hr, hrun, hended, hW, hsame⟩ := X56.leave (v := some (.int (0 : Int32))) (fun h => by rw [Bd.returns] at h; cases h)
        refine ⟨_, _, pre66 _ ?_, hrun, hended, _, _, rfl, ?_, ⟨_, rfl⟩, hW, hsame.mono (by decide) (by decide)⟩
        · show Steps p.tables e below (T56.setTop (mkF m 104 #[.val (.int p1), .val (.int p2), .val (.int (p2 &&& (7 : Int32))), .val (.int (34 : Int32)), .val (.int (1 : Int32))] [(.int (0 : Int32))])) _
          exact retN X56 hx (t := .boolean) Bd.returns (by simp) (hb hby at_104) hr
        · show Q0 Z p1 p2 h0 n0 _ T56.heap _
          rw [e56]
          exact ⟨(by rw [F0, if_neg hc28, if_pos hc47, if_neg hc62]), N56, rfl⟩
    · have pre67 : ∀ t, Steps p.tables e below (s₁.setTop (mkF m 26 #[.val (.int p1), .val (.int p2), .val (.int (p2 &&& (7 : Int32))), .unset, .unset] [])) t → Steps p.tables e below (s₁.setTop (entryFrame m #[(.int p1), (.int p2)] maxLocals)) t := by
        intro t k
        refine pre46 _ ?_
        show Steps p.tables e below (s₁.setTop (mkF m 17 #[.val (.int p1), .val (.int p2), .val (.int (p2 &&& (7 : Int32))), .unset, .unset] [(.int (1 : Int32)), (.int (p2 &&& (7 : Int32)))])) _
        refine XS.icmpYes X0.here hx rfl (pc0 := 17) (pc' := 26) rfl (hb hby at_17) rfl (feq hc47).2 (by decide) (by decide) ?_
        exact k
      have pre68 : ∀ t, Steps p.tables e below (s₁.setTop (mkF m 28 #[.val (.int p1), .val (.int p2), .val (.int (p2 &&& (7 : Int32))), .unset, .unset] [(.int (2 : Int32)), (.int (p2 &&& (7 : Int32)))])) t → Steps p.tables e below (s₁.setTop (entryFrame m #[(.int p1), (.int p2)] maxLocals)) t := by
        intro t k
        refine pre67 _ ?_
        show Steps p.tables e below (s₁.setTop (mkF m 26 #[.val (.int p1), .val (.int p2), .val (.int (p2 &&& (7 : Int32))), .unset, .unset] [])) _
        refine XS.iloadN X0.here hx rfl (hb hby at_26) rfl ?_
        show Steps p.tables e below (s₁.setTop (mkF m 27 #[.val (.int p1), .val (.int p2), .val (.int (p2 &&& (7 : Int32))), .unset, .unset] [(.int (p2 &&& (7 : Int32)))])) _
        refine XS.iconst X0.here hx rfl (hb hby at_27) ?_
        exact k
      by_cases hc69 : (p2 &&& (7 : Int32)) = (2 : Int32)
      · have pre70 : ∀ t, Steps p.tables e below (s₁.setTop (mkF m 31 #[.val (.int p1), .val (.int p2), .val (.int (p2 &&& (7 : Int32))), .unset, .unset] [])) t → Steps p.tables e below (s₁.setTop (entryFrame m #[(.int p1), (.int p2)] maxLocals)) t := by
          intro t k
          refine pre68 _ ?_
          show Steps p.tables e below (s₁.setTop (mkF m 28 #[.val (.int p1), .val (.int p2), .val (.int (p2 &&& (7 : Int32))), .unset, .unset] [(.int (2 : Int32)), (.int (p2 &&& (7 : Int32)))])) _
          refine XS.icmpNo X0.here hx rfl (hb hby at_28) rfl (teq hc69).2 ?_
          exact k
        have pre71 : ∀ t, Steps p.tables e below (s₁.setTop (mkF m 54 #[.val (.int p1), .val (.int p2), .val (.int (p2 &&& (7 : Int32))), .val (.int (10 : Int32)), .unset] [(.int (44 : Int32)), (.int (10 : Int32))])) t → Steps p.tables e below (s₁.setTop (entryFrame m #[(.int p1), (.int p2)] maxLocals)) t := by
          intro t k
          refine pre70 _ ?_
          show Steps p.tables e below (s₁.setTop (mkF m 31 #[.val (.int p1), .val (.int p2), .val (.int (p2 &&& (7 : Int32))), .unset, .unset] [])) _
          refine XS.bipush X0.here hx rfl (hb hby at_31) ?_
          show Steps p.tables e below (s₁.setTop (mkF m 33 #[.val (.int p1), .val (.int p2), .val (.int (p2 &&& (7 : Int32))), .unset, .unset] [(.int (10 : Int32))])) _
          refine XS.istoreN X0.here hx rfl (hb hby at_33) rfl (l' := #[.val (.int p1), .val (.int p2), .val (.int (p2 &&& (7 : Int32))), .val (.int (10 : Int32)), .unset]) rfl ?_
          show Steps p.tables e below (s₁.setTop (mkF m 34 #[.val (.int p1), .val (.int p2), .val (.int (p2 &&& (7 : Int32))), .val (.int (10 : Int32)), .unset] [])) _
          refine XS.goto X0.here hx rfl (pc0 := 34) (pc' := 51) rfl (hb hby at_34) (by decide) (by decide) ?_
          show Steps p.tables e below (s₁.setTop (mkF m 51 #[.val (.int p1), .val (.int p2), .val (.int (p2 &&& (7 : Int32))), .val (.int (10 : Int32)), .unset] [])) _
          refine XS.iloadN X0.here hx rfl (hb hby at_51) rfl ?_
          show Steps p.tables e below (s₁.setTop (mkF m 52 #[.val (.int p1), .val (.int p2), .val (.int (p2 &&& (7 : Int32))), .val (.int (10 : Int32)), .unset] [(.int (10 : Int32))])) _
          refine XS.bipush X0.here hx rfl (hb hby at_52) ?_
          exact k
        have pre73 : ∀ t, Steps p.tables e below (s₁.setTop (mkF m 57 #[.val (.int p1), .val (.int p2), .val (.int (p2 &&& (7 : Int32))), .val (.int (10 : Int32)), .unset] [])) t → Steps p.tables e below (s₁.setTop (entryFrame m #[(.int p1), (.int p2)] maxLocals)) t := by
          intro t k
          refine pre71 _ ?_
          show Steps p.tables e below (s₁.setTop (mkF m 54 #[.val (.int p1), .val (.int p2), .val (.int (p2 &&& (7 : Int32))), .val (.int (10 : Int32)), .unset] [(.int (44 : Int32)), (.int (10 : Int32))])) _
          refine XS.icmpNo X0.here hx rfl (hb hby at_54) rfl (feq (by decide : ¬ ((10 : Int32) = (44 : Int32)))).1 ?_
          exact k
        have pre74 : ∀ t, Steps p.tables e below (s₁.setTop (mkF m 60 #[.val (.int p1), .val (.int p2), .val (.int (p2 &&& (7 : Int32))), .val (.int (10 : Int32)), .unset] [(.int (34 : Int32)), (.int (10 : Int32))])) t → Steps p.tables e below (s₁.setTop (entryFrame m #[(.int p1), (.int p2)] maxLocals)) t := by
          intro t k
          refine pre73 _ ?_
          show Steps p.tables e below (s₁.setTop (mkF m 57 #[.val (.int p1), .val (.int p2), .val (.int (p2 &&& (7 : Int32))), .val (.int (10 : Int32)), .unset] [])) _
          refine XS.iloadN X0.here hx rfl (hb hby at_57) rfl ?_
          show Steps p.tables e below (s₁.setTop (mkF m 58 #[.val (.int p1), .val (.int p2), .val (.int (p2 &&& (7 : Int32))), .val (.int (10 : Int32)), .unset] [(.int (10 : Int32))])) _
          refine XS.bipush X0.here hx rfl (hb hby at_58) ?_
          exact k
        have pre76 : ∀ t, Steps p.tables e below (s₁.setTop (mkF m 63 #[.val (.int p1), .val (.int p2), .val (.int (p2 &&& (7 : Int32))), .val (.int (10 : Int32)), .unset] [])) t → Steps p.tables e below (s₁.setTop (entryFrame m #[(.int p1), (.int p2)] maxLocals)) t := by
          intro t k
          refine pre74 _ ?_
          show Steps p.tables e below (s₁.setTop (mkF m 60 #[.val (.int p1), .val (.int p2), .val (.int (p2 &&& (7 : Int32))), .val (.int (10 : Int32)), .unset] [(.int (34 : Int32)), (.int (10 : Int32))])) _
          refine XS.icmpNo X0.here hx rfl (hb hby at_60) rfl (feq (by decide : ¬ ((10 : Int32) = (34 : Int32)))).1 ?_
          exact k
        have pre77 : ∀ t, Steps p.tables e below (s₁.setTop (mkF m 66 #[.val (.int p1), .val (.int p2), .val (.int (p2 &&& (7 : Int32))), .val (.int (10 : Int32)), .unset] [(.int (10 : Int32)), (.int (10 : Int32))])) t → Steps p.tables e below (s₁.setTop (entryFrame m #[(.int p1), (.int p2)] maxLocals)) t := by
          intro t k
          refine pre76 _ ?_
          show Steps p.tables e below (s₁.setTop (mkF m 63 #[.val (.int p1), .val (.int p2), .val (.int (p2 &&& (7 : Int32))), .val (.int (10 : Int32)), .unset] [])) _
          refine XS.iloadN X0.here hx rfl (hb hby at_63) rfl ?_
          show Steps p.tables e below (s₁.setTop (mkF m 64 #[.val (.int p1), .val (.int p2), .val (.int (p2 &&& (7 : Int32))), .val (.int (10 : Int32)), .unset] [(.int (10 : Int32))])) _
          refine XS.bipush X0.here hx rfl (hb hby at_64) ?_
          exact k
        have pre79 : ∀ t, Steps p.tables e below (s₁.setTop (mkF m 75 #[.val (.int p1), .val (.int p2), .val (.int (p2 &&& (7 : Int32))), .val (.int (10 : Int32)), .unset] [])) t → Steps p.tables e below (s₁.setTop (entryFrame m #[(.int p1), (.int p2)] maxLocals)) t := by
          intro t k
          refine pre77 _ ?_
          show Steps p.tables e below (s₁.setTop (mkF m 66 #[.val (.int p1), .val (.int p2), .val (.int (p2 &&& (7 : Int32))), .val (.int (10 : Int32)), .unset] [(.int (10 : Int32)), (.int (10 : Int32))])) _
          refine XS.icmpYes X0.here hx rfl (pc0 := 66) (pc' := 75) rfl (hb hby at_66) rfl (teq (by decide : (10 : Int32) = (10 : Int32))).1 (by decide) (by decide) ?_
          exact k
        have pre80 : ∀ t, Steps p.tables e below (s₁.setTop (mkF m 83 #[.val (.int p1), .val (.int p2), .val (.int (p2 &&& (7 : Int32))), .val (.int (10 : Int32)), .val (.int (1 : Int32))] [(.int (10 : Int32))])) t → Steps p.tables e below (s₁.setTop (entryFrame m #[(.int p1), (.int p2)] maxLocals)) t := by
          intro t k
          refine pre79 _ ?_
          show Steps p.tables e below (s₁.setTop (mkF m 75 #[.val (.int p1), .val (.int p2), .val (.int (p2 &&& (7 : Int32))), .val (.int (10 : Int32)), .unset] [])) _
          refine XS.iconst X0.here hx rfl (hb hby at_75) ?_
          show Steps p.tables e below (s₁.setTop (mkF m 76 #[.val (.int p1), .val (.int p2), .val (.int (p2 &&& (7 : Int32))), .val (.int (10 : Int32)), .unset] [(.int (1 : Int32))])) _
          refine XS.goto X0.here hx rfl (pc0 := 76) (pc' := 80) rfl (hb hby at_76) (by decide) (by decide) ?_
          show Steps p.tables e below (s₁.setTop (mkF m 80 #[.val (.int p1), .val (.int p2), .val (.int (p2 &&& (7 : Int32))), .val (.int (10 : Int32)), .unset] [(.int (1 : Int32))])) _
          refine XS.istore X0.here hx rfl (hb hby at_80) rfl (l' := #[.val (.int p1), .val (.int p2), .val (.int (p2 &&& (7 : Int32))), .val (.int (10 : Int32)), .val (.int (1 : Int32))]) rfl ?_
          show Steps p.tables e below (s₁.setTop (mkF m 82 #[.val (.int p1), .val (.int p2), .val (.int (p2 &&& (7 : Int32))), .val (.int (10 : Int32)), .val (.int (1 : Int32))] [])) _
          refine XS.iloadN X0.here hx rfl (hb hby at_82) rfl ?_
          exact k
        obtain ⟨_, _, ⟨T81, L81, k81, n81⟩, -, X81, ⟨Lc81, hQ81, l81, y81, z81⟩, st81⟩ := Jvm.LawKit.callS X0 hx (y := (⟨"com/example/matchbook/matchbook/CsvReader", "plain", "(C)Z"⟩ : MethodName)) hown (mvT hZ (hw _ (List.mem_of_getElem? (i := 0) rfl))) (mvT hZ (hw _ (List.mem_of_getElem? (i := 1) rfl))) (mvT hZ (hw _ (List.mem_of_getElem? (i := 2) rfl))) (mvT hZ (hw _ (List.mem_of_getElem? (i := 3) rfl))) (by decide) (backOf (W := 0) (rm1 l Z a0 hw [] (10 : Int32) h0 n0 Z0 ) hZ (hw _ (List.mem_of_getElem? (i := 3) rfl)) (hw _ (List.mem_of_getElem? (i := 2) rfl)) (by decide) (by decide)) (g := (mkF m 83 #[.val (.int p1), .val (.int p2), .val (.int (p2 &&& (7 : Int32))), .val (.int (10 : Int32)), .val (.int (1 : Int32))] [(.int (10 : Int32))])) rfl (by rw [hml]; rfl) (argsL := [(.int (10 : Int32))]) (rest := []) (lenOf pd__C_Z rfl) rfl (by show 2 * 0 + _ ≤ _; exact Nat.le_of_eq rfl) (hb hby at_83) (fun _ _ => ⟨rfl, e0, (by decide : 0 + 0 ≤ _), (by decide : 0 + 0 ≤ _)⟩)
        dsimp only [Pt.U, Pt.locs, Pt.cells, Pt.slots] at X81 l81 y81 z81 st81 hQ81
        subst l81 y81 z81
        obtain ⟨rfl, N81q, e81⟩ := hQ81
        have N81 := Fr.app N0 N81q
        have pre82 : ∀ t, Steps p.tables e below (T81.setTop (mkF m 86 #[.val (.int p1), .val (.int p2), .val (.int (p2 &&& (7 : Int32))), .val (.int (10 : Int32)), .val (.int (1 : Int32))] [(.int (F1 (10 : Int32)))])) t → Steps p.tables e below (s₁.setTop (entryFrame m #[(.int p1), (.int p2)] maxLocals)) t := by
          intro t k
          refine pre80 _ ?_
          show Steps p.tables e below (s₁.setTop (mkF m 83 #[.val (.int p1), .val (.int p2), .val (.int (p2 &&& (7 : Int32))), .val (.int (10 : Int32)), .val (.int (1 : Int32))] [(.int (10 : Int32))])) _
          refine st81 _ ?_
          exact k
        have pre83 : ∀ t, Steps p.tables e below (T81.setTop (mkF m 88 #[.val (.int p1), .val (.int p2), .val (.int (p2 &&& (7 : Int32))), .val (.int (10 : Int32)), .val (.int (1 : Int32))] [(.int (1 : Int32)), (.int (F1 (10 : Int32)))])) t → Steps p.tables e below (s₁.setTop (entryFrame m #[(.int p1), (.int p2)] maxLocals)) t := by
          intro t k
          refine pre82 _ ?_
          show Steps p.tables e below (T81.setTop (mkF m 86 #[.val (.int p1), .val (.int p2), .val (.int (p2 &&& (7 : Int32))), .val (.int (10 : Int32)), .val (.int (1 : Int32))] [(.int (F1 (10 : Int32)))])) _
          refine XS.iload X81.here hx rfl (hb hby at_86) rfl ?_
          exact k
        have pre85 : ∀ t, Steps p.tables e below (T81.setTop (mkF m 95 #[.val (.int p1), .val (.int p2), .val (.int (p2 &&& (7 : Int32))), .val (.int (10 : Int32)), .val (.int (1 : Int32))] [(.int (F1 (10 : Int32)))])) t → Steps p.tables e below (s₁.setTop (entryFrame m #[(.int p1), (.int p2)] maxLocals)) t := by
          intro t k
          refine pre83 _ ?_
          show Steps p.tables e below (T81.setTop (mkF m 88 #[.val (.int p1), .val (.int p2), .val (.int (p2 &&& (7 : Int32))), .val (.int (10 : Int32)), .val (.int (1 : Int32))] [(.int (1 : Int32)), (.int (F1 (10 : Int32)))])) _
          refine XS.ifYes X81.here hx rfl (pc0 := 88) (pc' := 95) rfl (hb hby at_88) rfl ((if0 _ _).trans (feq (by decide : ¬ ((1 : Int32) = (0 : Int32)))).2) (by decide) (by decide) ?_
          exact k
        have pre86 : ∀ t, Steps p.tables e below (T81.setTop (mkF m 96 #[.val (.int p1), .val (.int p2), .val (.int (p2 &&& (7 : Int32))), .val (.int (10 : Int32)), .val (.int (1 : Int32))] [(.int (0 : Int32)), (.int (F1 (10 : Int32)))])) t → Steps p.tables e below (s₁.setTop (entryFrame m #[(.int p1), (.int p2)] maxLocals)) t := by
          intro t k
          refine pre85 _ ?_
          show Steps p.tables e below (T81.setTop (mkF m 95 #[.val (.int p1), .val (.int p2), .val (.int (p2 &&& (7 : Int32))), .val (.int (10 : Int32)), .val (.int (1 : Int32))] [(.int (F1 (10 : Int32)))])) _
          refine XS.iconst X81.here hx rfl (hb hby at_95) ?_
          exact k
        by_cases hc87 : (F1 (10 : Int32)) = (0 : Int32)
        · have pre88 : ∀ t, Steps p.tables e below (T81.setTop (mkF m 99 #[.val (.int p1), .val (.int p2), .val (.int (p2 &&& (7 : Int32))), .val (.int (10 : Int32)), .val (.int (1 : Int32))] [])) t → Steps p.tables e below (s₁.setTop (entryFrame m #[(.int p1), (.int p2)] maxLocals)) t := by
            intro t k
            refine pre86 _ ?_
            show Steps p.tables e below (T81.setTop (mkF m 96 #[.val (.int p1), .val (.int p2), .val (.int (p2 &&& (7 : Int32))), .val (.int (10 : Int32)), .val (.int (1 : Int32))] [(.int (0 : Int32)), (.int (F1 (10 : Int32)))])) _
            refine XS.icmpNo X81.here hx rfl (hb hby at_96) rfl (teq hc87).2 ?_
            exact k
          have pre89 : ∀ t, Steps p.tables e below (T81.setTop (mkF m 104 #[.val (.int p1), .val (.int p2), .val (.int (p2 &&& (7 : Int32))), .val (.int (10 : Int32)), .val (.int (1 : Int32))] [(.int (1 : Int32))])) t → Steps p.tables e below (s₁.setTop (entryFrame m #[(.int p1), (.int p2)] maxLocals)) t := by
            intro t k
            refine pre88 _ ?_
            show Steps p.tables e below (T81.setTop (mkF m 99 #[.val (.int p1), .val (.int p2), .val (.int (p2 &&& (7 : Int32))), .val (.int (10 : Int32)), .val (.int (1 : Int32))] [])) _
            refine XS.iconst X81.here hx rfl (hb hby at_99) ?_
            show Steps p.tables e below (T81.setTop (mkF m 100 #[.val (.int p1), .val (.int p2), .val (.int (p2 &&& (7 : Int32))), .val (.int (10 : Int32)), .val (.int (1 : Int32))] [(.int (1 : Int32))])) _
            refine XS.goto X81.here hx rfl (pc0 := 100) (pc' := 104) rfl (hb hby at_100) (by decide) (by decide) ?_
            exact k
          obtain ⟨fs, hr, hrun, hended, hW, hsame⟩ := X81.leave (v := some (.int (1 : Int32))) (fun h => by rw [Bd.returns] at h; cases h)
          refine ⟨_, _, pre89 _ ?_, hrun, hended, _, _, rfl, ?_, ⟨_, rfl⟩, hW, hsame.mono (by decide) (by decide)⟩
          · show Steps p.tables e below (T81.setTop (mkF m 104 #[.val (.int p1), .val (.int p2), .val (.int (p2 &&& (7 : Int32))), .val (.int (10 : Int32)), .val (.int (1 : Int32))] [(.int (1 : Int32))])) _
            exact retN X81 hx (t := .boolean) Bd.returns (by simp) (hb hby at_104) hr
          · show Q0 Z p1 p2 h0 n0 _ T81.heap _
            rw [e81]
            exact ⟨(by rw [F0, if_neg hc28, if_neg hc47, if_pos hc69, if_pos hc87]), N81, rfl⟩
        · have pre90 : ∀ t, Steps p.tables e below (T81.setTop (mkF m 103 #[.val (.int p1), .val (.int p2), .val (.int (p2 &&& (7 : Int32))), .val (.int (10 : Int32)), .val (.int (1 : Int32))] [])) t → Steps p.tables e below (s₁.setTop (entryFrame m #[(.int p1), (.int p2)] maxLocals)) t := by
            intro t k
            refine pre86 _ ?_
            show Steps p.tables e below (T81.setTop (mkF m 96 #[.val (.int p1), .val (.int p2), .val (.int (p2 &&& (7 : Int32))), .val (.int (10 : Int32)), .val (.int (1 : Int32))] [(.int (0 : Int32)), (.int (F1 (10 : Int32)))])) _
            refine XS.icmpYes X81.here hx rfl (pc0 := 96) (pc' := 103) rfl (hb hby at_96) rfl (feq hc87).2 (by decide) (by decide) ?_
            exact k
          have pre91 : ∀ t, Steps p.tables e below (T81.setTop (mkF m 104 #[.val (.int p1), .val (.int p2), .val (.int (p2 &&& (7 : Int32))), .val (.int (10 : Int32)), .val (.int (1 : Int32))] [(.int (0 : Int32))])) t → Steps p.tables e below (s₁.setTop (entryFrame m #[(.int p1), (.int p2)] maxLocals)) t := by
            intro t k
            refine pre90 _ ?_
            show Steps p.tables e below (T81.setTop (mkF m 103 #[.val (.int p1), .val (.int p2), .val (.int (p2 &&& (7 : Int32))), .val (.int (10 : Int32)), .val (.int (1 : Int32))] [])) _
            refine XS.iconst X81.here hx rfl (hb hby at_103) ?_
            exact k
          obtain ⟨fs, hr, hrun, hended, hW, hsame⟩ := X81.leave (v := some (.int (0 : Int32))) (fun h => by rw [Bd.returns] at h; cases h)
          refine ⟨_, _, pre91 _ ?_, hrun, hended, _, _, rfl, ?_, ⟨_, rfl⟩, hW, hsame.mono (by decide) (by decide)⟩
          · show Steps p.tables e below (T81.setTop (mkF m 104 #[.val (.int p1), .val (.int p2), .val (.int (p2 &&& (7 : Int32))), .val (.int (10 : Int32)), .val (.int (1 : Int32))] [(.int (0 : Int32))])) _
            exact retN X81 hx (t := .boolean) Bd.returns (by simp) (hb hby at_104) hr
          · show Q0 Z p1 p2 h0 n0 _ T81.heap _
            rw [e81]
            exact ⟨(by rw [F0, if_neg hc28, if_neg hc47, if_pos hc69, if_neg hc87]), N81, rfl⟩
      · have pre92 : ∀ t, Steps p.tables e below (s₁.setTop (mkF m 37 #[.val (.int p1), .val (.int p2), .val (.int (p2 &&& (7 : Int32))), .unset, .unset] [])) t → Steps p.tables e below (s₁.setTop (entryFrame m #[(.int p1), (.int p2)] maxLocals)) t := by
          intro t k
          refine pre68 _ ?_
          show Steps p.tables e below (s₁.setTop (mkF m 28 #[.val (.int p1), .val (.int p2), .val (.int (p2 &&& (7 : Int32))), .unset, .unset] [(.int (2 : Int32)), (.int (p2 &&& (7 : Int32)))])) _
          refine XS.icmpYes X0.here hx rfl (pc0 := 28) (pc' := 37) rfl (hb hby at_28) rfl (feq hc69).2 (by decide) (by decide) ?_
          exact k
        have pre93 : ∀ t, Steps p.tables e below (s₁.setTop (mkF m 39 #[.val (.int p1), .val (.int p2), .val (.int (p2 &&& (7 : Int32))), .unset, .unset] [(.int (3 : Int32)), (.int (p2 &&& (7 : Int32)))])) t → Steps p.tables e below (s₁.setTop (entryFrame m #[(.int p1), (.int p2)] maxLocals)) t := by
          intro t k
          refine pre92 _ ?_
          show Steps p.tables e below (s₁.setTop (mkF m 37 #[.val (.int p1), .val (.int p2), .val (.int (p2 &&& (7 : Int32))), .unset, .unset] [])) _
          refine XS.iloadN X0.here hx rfl (hb hby at_37) rfl ?_
          show Steps p.tables e below (s₁.setTop (mkF m 38 #[.val (.int p1), .val (.int p2), .val (.int (p2 &&& (7 : Int32))), .unset, .unset] [(.int (p2 &&& (7 : Int32)))])) _
          refine XS.iconst X0.here hx rfl (hb hby at_38) ?_
          exact k
        by_cases hc94 : (p2 &&& (7 : Int32)) = (3 : Int32)
        · have pre95 : ∀ t, Steps p.tables e below (s₁.setTop (mkF m 42 #[.val (.int p1), .val (.int p2), .val (.int (p2 &&& (7 : Int32))), .unset, .unset] [])) t → Steps p.tables e below (s₁.setTop (entryFrame m #[(.int p1), (.int p2)] maxLocals)) t := by
            intro t k
            refine pre93 _ ?_
            show Steps p.tables e below (s₁.setTop (mkF m 39 #[.val (.int p1), .val (.int p2), .val (.int (p2 &&& (7 : Int32))), .unset, .unset] [(.int (3 : Int32)), (.int (p2 &&& (7 : Int32)))])) _
            refine XS.icmpNo X0.here hx rfl (hb hby at_39) rfl (teq hc94).2 ?_
            exact k
          have pre96 : ∀ t, Steps p.tables e below (s₁.setTop (mkF m 54 #[.val (.int p1), .val (.int p2), .val (.int (p2 &&& (7 : Int32))), .val (.int (13 : Int32)), .unset] [(.int (44 : Int32)), (.int (13 : Int32))])) t → Steps p.tables e below (s₁.setTop (entryFrame m #[(.int p1), (.int p2)] maxLocals)) t := by
            intro t k
            refine pre95 _ ?_
            show Steps p.tables e below (s₁.setTop (mkF m 42 #[.val (.int p1), .val (.int p2), .val (.int (p2 &&& (7 : Int32))), .unset, .unset] [])) _
            refine XS.bipush X0.here hx rfl (hb hby at_42) ?_
            show Steps p.tables e below (s₁.setTop (mkF m 44 #[.val (.int p1), .val (.int p2), .val (.int (p2 &&& (7 : Int32))), .unset, .unset] [(.int (13 : Int32))])) _
            refine XS.istoreN X0.here hx rfl (hb hby at_44) rfl (l' := #[.val (.int p1), .val (.int p2), .val (.int (p2 &&& (7 : Int32))), .val (.int (13 : Int32)), .unset]) rfl ?_
            show Steps p.tables e below (s₁.setTop (mkF m 45 #[.val (.int p1), .val (.int p2), .val (.int (p2 &&& (7 : Int32))), .val (.int (13 : Int32)), .unset] [])) _
            refine XS.goto X0.here hx rfl (pc0 := 45) (pc' := 51) rfl (hb hby at_45) (by decide) (by decide) ?_
            show Steps p.tables e below (s₁.setTop (mkF m 51 #[.val (.int p1), .val (.int p2), .val (.int (p2 &&& (7 : Int32))), .val (.int (13 : Int32)), .unset] [])) _
            refine XS.iloadN X0.here hx rfl (hb hby at_51) rfl ?_
            show Steps p.tables e below (s₁.setTop (mkF m 52 #[.val (.int p1), .val (.int p2), .val (.int (p2 &&& (7 : Int32))), .val (.int (13 : Int32)), .unset] [(.int (13 : Int32))])) _
            refine XS.bipush X0.here hx rfl (hb hby at_52) ?_
            exact k
          have pre98 : ∀ t, Steps p.tables e below (s₁.setTop (mkF m 57 #[.val (.int p1), .val (.int p2), .val (.int (p2 &&& (7 : Int32))), .val (.int (13 : Int32)), .unset] [])) t → Steps p.tables e below (s₁.setTop (entryFrame m #[(.int p1), (.int p2)] maxLocals)) t := by
            intro t k
            refine pre96 _ ?_
            show Steps p.tables e below (s₁.setTop (mkF m 54 #[.val (.int p1), .val (.int p2), .val (.int (p2 &&& (7 : Int32))), .val (.int (13 : Int32)), .unset] [(.int (44 : Int32)), (.int (13 : Int32))])) _
            refine XS.icmpNo X0.here hx rfl (hb hby at_54) rfl (feq (by decide : ¬ ((13 : Int32) = (44 : Int32)))).1 ?_
            exact k
          have pre99 : ∀ t, Steps p.tables e below (s₁.setTop (mkF m 60 #[.val (.int p1), .val (.int p2), .val (.int (p2 &&& (7 : Int32))), .val (.int (13 : Int32)), .unset] [(.int (34 : Int32)), (.int (13 : Int32))])) t → Steps p.tables e below (s₁.setTop (entryFrame m #[(.int p1), (.int p2)] maxLocals)) t := by
            intro t k
            refine pre98 _ ?_
            show Steps p.tables e below (s₁.setTop (mkF m 57 #[.val (.int p1), .val (.int p2), .val (.int (p2 &&& (7 : Int32))), .val (.int (13 : Int32)), .unset] [])) _
            refine XS.iloadN X0.here hx rfl (hb hby at_57) rfl ?_
            show Steps p.tables e below (s₁.setTop (mkF m 58 #[.val (.int p1), .val (.int p2), .val (.int (p2 &&& (7 : Int32))), .val (.int (13 : Int32)), .unset] [(.int (13 : Int32))])) _
            refine XS.bipush X0.here hx rfl (hb hby at_58) ?_
            exact k
          have pre101 : ∀ t, Steps p.tables e below (s₁.setTop (mkF m 63 #[.val (.int p1), .val (.int p2), .val (.int (p2 &&& (7 : Int32))), .val (.int (13 : Int32)), .unset] [])) t → Steps p.tables e below (s₁.setTop (entryFrame m #[(.int p1), (.int p2)] maxLocals)) t := by
            intro t k
            refine pre99 _ ?_
            show Steps p.tables e below (s₁.setTop (mkF m 60 #[.val (.int p1), .val (.int p2), .val (.int (p2 &&& (7 : Int32))), .val (.int (13 : Int32)), .unset] [(.int (34 : Int32)), (.int (13 : Int32))])) _
            refine XS.icmpNo X0.here hx rfl (hb hby at_60) rfl (feq (by decide : ¬ ((13 : Int32) = (34 : Int32)))).1 ?_
            exact k
          have pre102 : ∀ t, Steps p.tables e below (s₁.setTop (mkF m 66 #[.val (.int p1), .val (.int p2), .val (.int (p2 &&& (7 : Int32))), .val (.int (13 : Int32)), .unset] [(.int (10 : Int32)), (.int (13 : Int32))])) t → Steps p.tables e below (s₁.setTop (entryFrame m #[(.int p1), (.int p2)] maxLocals)) t := by
            intro t k
            refine pre101 _ ?_
            show Steps p.tables e below (s₁.setTop (mkF m 63 #[.val (.int p1), .val (.int p2), .val (.int (p2 &&& (7 : Int32))), .val (.int (13 : Int32)), .unset] [])) _
            refine XS.iloadN X0.here hx rfl (hb hby at_63) rfl ?_
            show Steps p.tables e below (s₁.setTop (mkF m 64 #[.val (.int p1), .val (.int p2), .val (.int (p2 &&& (7 : Int32))), .val (.int (13 : Int32)), .unset] [(.int (13 : Int32))])) _
            refine XS.bipush X0.here hx rfl (hb hby at_64) ?_
            exact k
          have pre104 : ∀ t, Steps p.tables e below (s₁.setTop (mkF m 69 #[.val (.int p1), .val (.int p2), .val (.int (p2 &&& (7 : Int32))), .val (.int (13 : Int32)), .unset] [])) t → Steps p.tables e below (s₁.setTop (entryFrame m #[(.int p1), (.int p2)] maxLocals)) t := by
            intro t k
            refine pre102 _ ?_
            show Steps p.tables e below (s₁.setTop (mkF m 66 #[.val (.int p1), .val (.int p2), .val (.int (p2 &&& (7 : Int32))), .val (.int (13 : Int32)), .unset] [(.int (10 : Int32)), (.int (13 : Int32))])) _
            refine XS.icmpNo X0.here hx rfl (hb hby at_66) rfl (feq (by decide : ¬ ((13 : Int32) = (10 : Int32)))).1 ?_
            exact k
          have pre105 : ∀ t, Steps p.tables e below (s₁.setTop (mkF m 72 #[.val (.int p1), .val (.int p2), .val (.int (p2 &&& (7 : Int32))), .val (.int (13 : Int32)), .unset] [(.int (13 : Int32)), (.int (13 : Int32))])) t → Steps p.tables e below (s₁.setTop (entryFrame m #[(.int p1), (.int p2)] maxLocals)) t := by
            intro t k
            refine pre104 _ ?_
            show Steps p.tables e below (s₁.setTop (mkF m 69 #[.val (.int p1), .val (.int p2), .val (.int (p2 &&& (7 : Int32))), .val (.int (13 : Int32)), .unset] [])) _
            refine XS.iloadN X0.here hx rfl (hb hby at_69) rfl ?_
            show Steps p.tables e below (s₁.setTop (mkF m 70 #[.val (.int p1), .val (.int p2), .val (.int (p2 &&& (7 : Int32))), .val (.int (13 : Int32)), .unset] [(.int (13 : Int32))])) _
            refine XS.bipush X0.here hx rfl (hb hby at_70) ?_
            exact k
          have pre107 : ∀ t, Steps p.tables e below (s₁.setTop (mkF m 75 #[.val (.int p1), .val (.int p2), .val (.int (p2 &&& (7 : Int32))), .val (.int (13 : Int32)), .unset] [])) t → Steps p.tables e below (s₁.setTop (entryFrame m #[(.int p1), (.int p2)] maxLocals)) t := by
            intro t k
            refine pre105 _ ?_
            show Steps p.tables e below (s₁.setTop (mkF m 72 #[.val (.int p1), .val (.int p2), .val (.int (p2 &&& (7 : Int32))), .val (.int (13 : Int32)), .unset] [(.int (13 : Int32)), (.int (13 : Int32))])) _
            refine XS.icmpNo X0.here hx rfl (hb hby at_72) rfl (teq (by decide : (13 : Int32) = (13 : Int32))).2 ?_
            exact k
          have pre108 : ∀ t, Steps p.tables e below (s₁.setTop (mkF m 83 #[.val (.int p1), .val (.int p2), .val (.int (p2 &&& (7 : Int32))), .val (.int (13 : Int32)), .val (.int (1 : Int32))] [(.int (13 : Int32))])) t → Steps p.tables e below (s₁.setTop (entryFrame m #[(.int p1), (.int p2)] maxLocals)) t := by
            intro t k
            refine pre107 _ ?_
            show Steps p.tables e below (s₁.setTop (mkF m 75 #[.val (.int p1), .val (.int p2), .val (.int (p2 &&& (7 : Int32))), .val (.int (13 : Int32)), .unset] [])) _
            refine XS.iconst X0.here hx rfl (hb hby at_75) ?_
            show Steps p.tables e below (s₁.setTop (mkF m 76 #[.val (.int p1), .val (.int p2), .val (.int (p2 &&& (7 : Int32))), .val (.int (13 : Int32)), .unset] [(.int (1 : Int32))])) _
            refine XS.goto X0.here hx rfl (pc0 := 76) (pc' := 80) rfl (hb hby at_76) (by decide) (by decide) ?_
            show Steps p.tables e below (s₁.setTop (mkF m 80 #[.val (.int p1), .val (.int p2), .val (.int (p2 &&& (7 : Int32))), .val (.int (13 : Int32)), .unset] [(.int (1 : Int32))])) _
            refine XS.istore X0.here hx rfl (hb hby at_80) rfl (l' := #[.val (.int p1), .val (.int p2), .val (.int (p2 &&& (7 : Int32))), .val (.int (13 : Int32)), .val (.int (1 : Int32))]) rfl ?_
            show Steps p.tables e below (s₁.setTop (mkF m 82 #[.val (.int p1), .val (.int p2), .val (.int (p2 &&& (7 : Int32))), .val (.int (13 : Int32)), .val (.int (1 : Int32))] [])) _
            refine XS.iloadN X0.here hx rfl (hb hby at_82) rfl ?_
            exact k
          obtain ⟨_, _, ⟨T109, L109, k109, n109⟩, -, X109, ⟨Lc109, hQ109, l109, y109, z109⟩, st109⟩ := Jvm.LawKit.callS X0 hx (y := (⟨"com/example/matchbook/matchbook/CsvReader", "plain", "(C)Z"⟩ : MethodName)) hown (mvT hZ (hw _ (List.mem_of_getElem? (i := 0) rfl))) (mvT hZ (hw _ (List.mem_of_getElem? (i := 1) rfl))) (mvT hZ (hw _ (List.mem_of_getElem? (i := 2) rfl))) (mvT hZ (hw _ (List.mem_of_getElem? (i := 3) rfl))) (by decide) (backOf (W := 0) (rm1 l Z a0 hw [] (13 : Int32) h0 n0 Z0 ) hZ (hw _ (List.mem_of_getElem? (i := 3) rfl)) (hw _ (List.mem_of_getElem? (i := 2) rfl)) (by decide) (by decide)) (g := (mkF m 83 #[.val (.int p1), .val (.int p2), .val (.int (p2 &&& (7 : Int32))), .val (.int (13 : Int32)), .val (.int (1 : Int32))] [(.int (13 : Int32))])) rfl (by rw [hml]; rfl) (argsL := [(.int (13 : Int32))]) (rest := []) (lenOf pd__C_Z rfl) rfl (by show 2 * 0 + _ ≤ _; exact Nat.le_of_eq rfl) (hb hby at_83) (fun _ _ => ⟨rfl, e0, (by decide : 0 + 0 ≤ _), (by decide : 0 + 0 ≤ _)⟩)
          dsimp only [Pt.U, Pt.locs, Pt.cells, Pt.slots] at X109 l109 y109 z109 st109 hQ109
          subst l109 y109 z109
          obtain ⟨rfl, N109q, e109⟩ := hQ109
          have N109 := Fr.app N0 N109q
          have pre110 : ∀ t, Steps p.tables e below (T109.setTop (mkF m 86 #[.val (.int p1), .val (.int p2), .val (.int (p2 &&& (7 : Int32))), .val (.int (13 : Int32)), .val (.int (1 : Int32))] [(.int (F1 (13 : Int32)))])) t → Steps p.tables e below (s₁.setTop (entryFrame m #[(.int p1), (.int p2)] maxLocals)) t := by
            intro t k
            refine pre108 _ ?_
            show Steps p.tables e below (s₁.setTop (mkF m 83 #[.val (.int p1), .val (.int p2), .val (.int (p2 &&& (7 : Int32))), .val (.int (13 : Int32)), .val (.int (1 : Int32))] [(.int (13 : Int32))])) _
            refine st109 _ ?_
            exact k
          have pre111 : ∀ t, Steps p.tables e below (T109.setTop (mkF m 88 #[.val (.int p1), .val (.int p2), .val (.int (p2 &&& (7 : Int32))), .val (.int (13 : Int32)), .val (.int (1 : Int32))] [(.int (1 : Int32)), (.int (F1 (13 : Int32)))])) t → Steps p.tables e below (s₁.setTop (entryFrame m #[(.int p1), (.int p2)] maxLocals)) t := by
            intro t k
            refine pre110 _ ?_
            show Steps p.tables e below (T109.setTop (mkF m 86 #[.val (.int p1), .val (.int p2), .val (.int (p2 &&& (7 : Int32))), .val (.int (13 : Int32)), .val (.int (1 : Int32))] [(.int (F1 (13 : Int32)))])) _
            refine XS.iload X109.here hx rfl (hb hby at_86) rfl ?_
            exact k
          have pre113 : ∀ t, Steps p.tables e below (T109.setTop (mkF m 95 #[.val (.int p1), .val (.int p2), .val (.int (p2 &&& (7 : Int32))), .val (.int (13 : Int32)), .val (.int (1 : Int32))] [(.int (F1 (13 : Int32)))])) t → Steps p.tables e below (s₁.setTop (entryFrame m #[(.int p1), (.int p2)] maxLocals)) t := by
            intro t k
            refine pre111 _ ?_
            show Steps p.tables e below (T109.setTop (mkF m 88 #[.val (.int p1), .val (.int p2), .val (.int (p2 &&& (7 : Int32))), .val (.int (13 : Int32)), .val (.int (1 : Int32))] [(.int (1 : Int32)), (.int (F1 (13 : Int32)))])) _
            refine XS.ifYes X109.here hx rfl (pc0 := 88) (pc' := 95) rfl (hb hby at_88) rfl ((if0 _ _).trans (feq (by decide : ¬ ((1 : Int32) = (0 : Int32)))).2) (by decide) (by decide) ?_
            exact k
          have pre114 : ∀ t, Steps p.tables e below (T109.setTop (mkF m 96 #[.val (.int p1), .val (.int p2), .val (.int (p2 &&& (7 : Int32))), .val (.int (13 : Int32)), .val (.int (1 : Int32))] [(.int (0 : Int32)), (.int (F1 (13 : Int32)))])) t → Steps p.tables e below (s₁.setTop (entryFrame m #[(.int p1), (.int p2)] maxLocals)) t := by
            intro t k
            refine pre113 _ ?_
            show Steps p.tables e below (T109.setTop (mkF m 95 #[.val (.int p1), .val (.int p2), .val (.int (p2 &&& (7 : Int32))), .val (.int (13 : Int32)), .val (.int (1 : Int32))] [(.int (F1 (13 : Int32)))])) _
            refine XS.iconst X109.here hx rfl (hb hby at_95) ?_
            exact k
          by_cases hc115 : (F1 (13 : Int32)) = (0 : Int32)
          · have pre116 : ∀ t, Steps p.tables e below (T109.setTop (mkF m 99 #[.val (.int p1), .val (.int p2), .val (.int (p2 &&& (7 : Int32))), .val (.int (13 : Int32)), .val (.int (1 : Int32))] [])) t → Steps p.tables e below (s₁.setTop (entryFrame m #[(.int p1), (.int p2)] maxLocals)) t := by
              intro t k
              refine pre114 _ ?_
              show Steps p.tables e below (T109.setTop (mkF m 96 #[.val (.int p1), .val (.int p2), .val (.int (p2 &&& (7 : Int32))), .val (.int (13 : Int32)), .val (.int (1 : Int32))] [(.int (0 : Int32)), (.int (F1 (13 : Int32)))])) _
              refine XS.icmpNo X109.here hx rfl (hb hby at_96) rfl (teq hc115).2 ?_
              exact k
            have pre117 : ∀ t, Steps p.tables e below (T109.setTop (mkF m 104 #[.val (.int p1), .val (.int p2), .val (.int (p2 &&& (7 : Int32))), .val (.int (13 : Int32)), .val (.int (1 : Int32))] [(.int (1 : Int32))])) t → Steps p.tables e below (s₁.setTop (entryFrame m #[(.int p1), (.int p2)] maxLocals)) t := by
              intro t k
              refine pre116 _ ?_
              show Steps p.tables e below (T109.setTop (mkF m 99 #[.val (.int p1), .val (.int p2), .val (.int (p2 &&& (7 : Int32))), .val (.int (13 : Int32)), .val (.int (1 : Int32))] [])) _
              refine XS.iconst X109.here hx rfl (hb hby at_99) ?_
              show Steps p.tables e below (T109.setTop (mkF m 100 #[.val (.int p1), .val (.int p2), .val (.int (p2 &&& (7 : Int32))), .val (.int (13 : Int32)), .val (.int (1 : Int32))] [(.int (1 : Int32))])) _
              refine XS.goto X109.here hx rfl (pc0 := 100) (pc' := 104) rfl (hb hby at_100) (by decide) (by decide) ?_
              exact k
            obtain ⟨fs, hr, hrun, hended, hW, hsame⟩ := X109.leave (v := some (.int (1 : Int32))) (fun h => by rw [Bd.returns] at h; cases h)
            refine ⟨_, _, pre117 _ ?_, hrun, hended, _, _, rfl, ?_, ⟨_, rfl⟩, hW, hsame.mono (by decide) (by decide)⟩
            · show Steps p.tables e below (T109.setTop (mkF m 104 #[.val (.int p1), .val (.int p2), .val (.int (p2 &&& (7 : Int32))), .val (.int (13 : Int32)), .val (.int (1 : Int32))] [(.int (1 : Int32))])) _
              exact retN X109 hx (t := .boolean) Bd.returns (by simp) (hb hby at_104) hr
            · show Q0 Z p1 p2 h0 n0 _ T109.heap _
              rw [e109]
              exact ⟨(by rw [F0, if_neg hc28, if_neg hc47, if_neg hc69, if_pos hc94, if_pos hc115]), N109, rfl⟩
          · have pre118 : ∀ t, Steps p.tables e below (T109.setTop (mkF m 103 #[.val (.int p1), .val (.int p2), .val (.int (p2 &&& (7 : Int32))), .val (.int (13 : Int32)), .val (.int (1 : Int32))] [])) t → Steps p.tables e below (s₁.setTop (entryFrame m #[(.int p1), (.int p2)] maxLocals)) t := by
              intro t k
              refine pre114 _ ?_
              show Steps p.tables e below (T109.setTop (mkF m 96 #[.val (.int p1), .val (.int p2), .val (.int (p2 &&& (7 : Int32))), .val (.int (13 : Int32)), .val (.int (1 : Int32))] [(.int (0 : Int32)), (.int (F1 (13 : Int32)))])) _
              refine XS.icmpYes X109.here hx rfl (pc0 := 96) (pc' := 103) rfl (hb hby at_96) rfl (feq hc115).2 (by decide) (by decide) ?_
              exact k
            have pre119 : ∀ t, Steps p.tables e below (T109.setTop (mkF m 104 #[.val (.int p1), .val (.int p2), .val (.int (p2 &&& (7 : Int32))), .val (.int (13 : Int32)), .val (.int (1 : Int32))] [(.int (0 : Int32))])) t → Steps p.tables e below (s₁.setTop (entryFrame m #[(.int p1), (.int p2)] maxLocals)) t := by
              intro t k
              refine pre118 _ ?_
              show Steps p.tables e below (T109.setTop (mkF m 103 #[.val (.int p1), .val (.int p2), .val (.int (p2 &&& (7 : Int32))), .val (.int (13 : Int32)), .val (.int (1 : Int32))] [])) _
              refine XS.iconst X109.here hx rfl (hb hby at_103) ?_
              exact k
            obtain ⟨fs, hr, hrun, hended, hW, hsame⟩ := X109.leave (v := some (.int (0 : Int32))) (fun h => by rw [Bd.returns] at h; cases h)
            refine ⟨_, _, pre119 _ ?_, hrun, hended, _, _, rfl, ?_, ⟨_, rfl⟩, hW, hsame.mono (by decide) (by decide)⟩
            · show Steps p.tables e below (T109.setTop (mkF m 104 #[.val (.int p1), .val (.int p2), .val (.int (p2 &&& (7 : Int32))), .val (.int (13 : Int32)), .val (.int (1 : Int32))] [(.int (0 : Int32))])) _
              exact retN X109 hx (t := .boolean) Bd.returns (by simp) (hb hby at_104) hr
            · show Q0 Z p1 p2 h0 n0 _ T109.heap _
              rw [e109]
              exact ⟨(by rw [F0, if_neg hc28, if_neg hc47, if_neg hc69, if_pos hc94, if_neg hc115]), N109, rfl⟩
        · have pre120 : ∀ t, Steps p.tables e below (s₁.setTop (mkF m 48 #[.val (.int p1), .val (.int p2), .val (.int (p2 &&& (7 : Int32))), .unset, .unset] [])) t → Steps p.tables e below (s₁.setTop (entryFrame m #[(.int p1), (.int p2)] maxLocals)) t := by
            intro t k
            refine pre93 _ ?_
            show Steps p.tables e below (s₁.setTop (mkF m 39 #[.val (.int p1), .val (.int p2), .val (.int (p2 &&& (7 : Int32))), .unset, .unset] [(.int (3 : Int32)), (.int (p2 &&& (7 : Int32)))])) _
            refine XS.icmpYes X0.here hx rfl (pc0 := 39) (pc' := 48) rfl (hb hby at_39) rfl (feq hc94).2 (by decide) (by decide) ?_
            exact k
          have pre121 : ∀ t, Steps p.tables e below (s₁.setTop (mkF m 54 #[.val (.int p1), .val (.int p2), .val (.int (p2 &&& (7 : Int32))), .val (.int (p1.toUInt32.toUInt16.toUInt32.toInt32)), .unset] [(.int (44 : Int32)), (.int (p1.toUInt32.toUInt16.toUInt32.toInt32))])) t → Steps p.tables e below (s₁.setTop (entryFrame m #[(.int p1), (.int p2)] maxLocals)) t := by
            intro t k
            refine pre120 _ ?_
            show Steps p.tables e below (s₁.setTop (mkF m 48 #[.val (.int p1), .val (.int p2), .val (.int (p2 &&& (7 : Int32))), .unset, .unset] [])) _
            refine XS.iloadN X0.here hx rfl (hb hby at_48) rfl ?_
            show Steps p.tables e below (s₁.setTop (mkF m 49 #[.val (.int p1), .val (.int p2), .val (.int (p2 &&& (7 : Int32))), .unset, .unset] [(.int p1)])) _
            refine XS.i2c X0.here hx rfl (hb hby at_49) rfl ?_
            show Steps p.tables e below (s₁.setTop (mkF m 50 #[.val (.int p1), .val (.int p2), .val (.int (p2 &&& (7 : Int32))), .unset, .unset] [(.int (p1.toUInt32.toUInt16.toUInt32.toInt32))])) _
            refine XS.istoreN X0.here hx rfl (hb hby at_50) rfl (l' := #[.val (.int p1), .val (.int p2), .val (.int (p2 &&& (7 : Int32))), .val (.int (p1.toUInt32.toUInt16.toUInt32.toInt32)), .unset]) rfl ?_
            show Steps p.tables e below (s₁.setTop (mkF m 51 #[.val (.int p1), .val (.int p2), .val (.int (p2 &&& (7 : Int32))), .val (.int (p1.toUInt32.toUInt16.toUInt32.toInt32)), .unset] [])) _
            refine XS.iloadN X0.here hx rfl (hb hby at_51) rfl ?_
            show Steps p.tables e below (s₁.setTop (mkF m 52 #[.val (.int p1), .val (.int p2), .val (.int (p2 &&& (7 : Int32))), .val (.int (p1.toUInt32.toUInt16.toUInt32.toInt32)), .unset] [(.int (p1.toUInt32.toUInt16.toUInt32.toInt32))])) _
            refine XS.bipush X0.here hx rfl (hb hby at_52) ?_
            exact k
          by_cases hc122 : (p1.toUInt32.toUInt16.toUInt32.toInt32) = (44 : Int32)
          · have pre123 : ∀ t, Steps p.tables e below (s₁.setTop (mkF m 75 #[.val (.int p1), .val (.int p2), .val (.int (p2 &&& (7 : Int32))), .val (.int (p1.toUInt32.toUInt16.toUInt32.toInt32)), .unset] [])) t → Steps p.tables e below (s₁.setTop (entryFrame m #[(.int p1), (.int p2)] maxLocals)) t := by
              intro t k
              refine pre121 _ ?_
              show Steps p.tables e below (s₁.setTop (mkF m 54 #[.val (.int p1), .val (.int p2), .val (.int (p2 &&& (7 : Int32))), .val (.int (p1.toUInt32.toUInt16.toUInt32.toInt32)), .unset] [(.int (44 : Int32)), (.int (p1.toUInt32.toUInt16.toUInt32.toInt32))])) _
              refine XS.icmpYes X0.here hx rfl (pc0 := 54) (pc' := 75) rfl (hb hby at_54) rfl (teq hc122).1 (by decide) (by decide) ?_
              exact k
            have pre124 : ∀ t, Steps p.tables e below (s₁.setTop (mkF m 83 #[.val (.int p1), .val (.int p2), .val (.int (p2 &&& (7 : Int32))), .val (.int (p1.toUInt32.toUInt16.toUInt32.toInt32)), .val (.int (1 : Int32))] [(.int (p1.toUInt32.toUInt16.toUInt32.toInt32))])) t → Steps p.tables e below (s₁.setTop (entryFrame m #[(.int p1), (.int p2)] maxLocals)) t := by
              intro t k
              refine pre123 _ ?_
              show Steps p.tables e below (s₁.setTop (mkF m 75 #[.val (.int p1), .val (.int p2), .val (.int (p2 &&& (7 : Int32))), .val (.int (p1.toUInt32.toUInt16.toUInt32.toInt32)), .unset] [])) _
              refine XS.iconst X0.here hx rfl (hb hby at_75) ?_
              show Steps p.tables e below (s₁.setTop (mkF m 76 #[.val (.int p1), .val (.int p2), .val (.int (p2 &&& (7 : Int32))), .val (.int (p1.toUInt32.toUInt16.toUInt32.toInt32)), .unset] [(.int (1 : Int32))])) _
              refine XS.goto X0.here hx rfl (pc0 := 76) (pc' := 80) rfl (hb hby at_76) (by decide) (by decide) ?_
              show Steps p.tables e below (s₁.setTop (mkF m 80 #[.val (.int p1), .val (.int p2), .val (.int (p2 &&& (7 : Int32))), .val (.int (p1.toUInt32.toUInt16.toUInt32.toInt32)), .unset] [(.int (1 : Int32))])) _
              refine XS.istore X0.here hx rfl (hb hby at_80) rfl (l' := #[.val (.int p1), .val (.int p2), .val (.int (p2 &&& (7 : Int32))), .val (.int (p1.toUInt32.toUInt16.toUInt32.toInt32)), .val (.int (1 : Int32))]) rfl ?_
              show Steps p.tables e below (s₁.setTop (mkF m 82 #[.val (.int p1), .val (.int p2), .val (.int (p2 &&& (7 : Int32))), .val (.int (p1.toUInt32.toUInt16.toUInt32.toInt32)), .val (.int (1 : Int32))] [])) _
              refine XS.iloadN X0.here hx rfl (hb hby at_82) rfl ?_
              exact k
            obtain ⟨_, _, ⟨T125, L125, k125, n125⟩, -, X125, ⟨Lc125, hQ125, l125, y125, z125⟩, st125⟩ := Jvm.LawKit.callS X0 hx (y := (⟨"com/example/matchbook/matchbook/CsvReader", "plain", "(C)Z"⟩ : MethodName)) hown (mvT hZ (hw _ (List.mem_of_getElem? (i := 0) rfl))) (mvT hZ (hw _ (List.mem_of_getElem? (i := 1) rfl))) (mvT hZ (hw _ (List.mem_of_getElem? (i := 2) rfl))) (mvT hZ (hw _ (List.mem_of_getElem? (i := 3) rfl))) (by decide) (backOf (W := 0) (rm1 l Z a0 hw [] (p1.toUInt32.toUInt16.toUInt32.toInt32) h0 n0 Z0 ) hZ (hw _ (List.mem_of_getElem? (i := 3) rfl)) (hw _ (List.mem_of_getElem? (i := 2) rfl)) (by decide) (by decide)) (g := (mkF m 83 #[.val (.int p1), .val (.int p2), .val (.int (p2 &&& (7 : Int32))), .val (.int (p1.toUInt32.toUInt16.toUInt32.toInt32)), .val (.int (1 : Int32))] [(.int (p1.toUInt32.toUInt16.toUInt32.toInt32))])) rfl (by rw [hml]; rfl) (argsL := [(.int (p1.toUInt32.toUInt16.toUInt32.toInt32))]) (rest := []) (lenOf pd__C_Z rfl) rfl (by show 2 * 0 + _ ≤ _; exact Nat.le_of_eq rfl) (hb hby at_83) (fun _ _ => ⟨rfl, e0, (by decide : 0 + 0 ≤ _), (by decide : 0 + 0 ≤ _)⟩)
            dsimp only [Pt.U, Pt.locs, Pt.cells, Pt.slots] at X125 l125 y125 z125 st125 hQ125
            subst l125 y125 z125
            obtain ⟨rfl, N125q, e125⟩ := hQ125
            have N125 := Fr.app N0 N125q
            have pre126 : ∀ t, Steps p.tables e below (T125.setTop (mkF m 86 #[.val (.int p1), .val (.int p2), .val (.int (p2 &&& (7 : Int32))), .val (.int (p1.toUInt32.toUInt16.toUInt32.toInt32)), .val (.int (1 : Int32))] [(.int (F1 (p1.toUInt32.toUInt16.toUInt32.toInt32)))])) t → Steps p.tables e below (s₁.setTop (entryFrame m #[(.int p1), (.int p2)] maxLocals)) t := by
              intro t k
              refine pre124 _ ?_
              show Steps p.tables e below (s₁.setTop (mkF m 83 #[.val (.int p1), .val (.int p2), .val (.int (p2 &&& (7 : Int32))), .val (.int (p1.toUInt32.toUInt16.toUInt32.toInt32)), .val (.int (1 : Int32))] [(.int (p1.toUInt32.toUInt16.toUInt32.toInt32))])) _
              refine st125 _ ?_
              exact k
            have pre127 : ∀ t, Steps p.tables e below (T125.setTop (mkF m 88 #[.val (.int p1), .val (.int p2), .val (.int (p2 &&& (7 : Int32))), .val (.int (p1.toUInt32.toUInt16.toUInt32.toInt32)), .val (.int (1 : Int32))] [(.int (1 : Int32)), (.int (F1 (p1.toUInt32.toUInt16.toUInt32.toInt32)))])) t → Steps p.tables e below (s₁.setTop (entryFrame m #[(.int p1), (.int p2)] maxLocals)) t := by
              intro t k
              refine pre126 _ ?_
              show Steps p.tables e below (T125.setTop (mkF m 86 #[.val (.int p1), .val (.int p2), .val (.int (p2 &&& (7 : Int32))), .val (.int (p1.toUInt32.toUInt16.toUInt32.toInt32)), .val (.int (1 : Int32))] [(.int (F1 (p1.toUInt32.toUInt16.toUInt32.toInt32)))])) _
              refine XS.iload X125.here hx rfl (hb hby at_86) rfl ?_
              exact k
            have pre129 : ∀ t, Steps p.tables e below (T125.setTop (mkF m 95 #[.val (.int p1), .val (.int p2), .val (.int (p2 &&& (7 : Int32))), .val (.int (p1.toUInt32.toUInt16.toUInt32.toInt32)), .val (.int (1 : Int32))] [(.int (F1 (p1.toUInt32.toUInt16.toUInt32.toInt32)))])) t → Steps p.tables e below (s₁.setTop (entryFrame m #[(.int p1), (.int p2)] maxLocals)) t := by
              intro t k
              refine pre127 _ ?_
              show Steps p.tables e below (T125.setTop (mkF m 88 #[.val (.int p1), .val (.int p2), .val (.int (p2 &&& (7 : Int32))), .val (.int (p1.toUInt32.toUInt16.toUInt32.toInt32)), .val (.int (1 : Int32))] [(.int (1 : Int32)), (.int (F1 (p1.toUInt32.toUInt16.toUInt32.toInt32)))])) _
              refine XS.ifYes X125.here hx rfl (pc0 := 88) (pc' := 95) rfl (hb hby at_88) rfl ((if0 _ _).trans (feq (by decide : ¬ ((1 : Int32) = (0 : Int32)))).2) (by decide) (by decide) ?_
              exact k
            have pre130 : ∀ t, Steps p.tables e below (T125.setTop (mkF m 96 #[.val (.int p1), .val (.int p2), .val (.int (p2 &&& (7 : Int32))), .val (.int (p1.toUInt32.toUInt16.toUInt32.toInt32)), .val (.int (1 : Int32))] [(.int (0 : Int32)), (.int (F1 (p1.toUInt32.toUInt16.toUInt32.toInt32)))])) t → Steps p.tables e below (s₁.setTop (entryFrame m #[(.int p1), (.int p2)] maxLocals)) t := by
              intro t k
              refine pre129 _ ?_
              show Steps p.tables e below (T125.setTop (mkF m 95 #[.val (.int p1), .val (.int p2), .val (.int (p2 &&& (7 : Int32))), .val (.int (p1.toUInt32.toUInt16.toUInt32.toInt32)), .val (.int (1 : Int32))] [(.int (F1 (p1.toUInt32.toUInt16.toUInt32.toInt32)))])) _
              refine XS.iconst X125.here hx rfl (hb hby at_95) ?_
              exact k
            by_cases hc131 : (F1 (p1.toUInt32.toUInt16.toUInt32.toInt32)) = (0 : Int32)
            · have pre132 : ∀ t, Steps p.tables e below (T125.setTop (mkF m 99 #[.val (.int p1), .val (.int p2), .val (.int (p2 &&& (7 : Int32))), .val (.int (p1.toUInt32.toUInt16.toUInt32.toInt32)), .val (.int (1 : Int32))] [])) t → Steps p.tables e below (s₁.setTop (entryFrame m #[(.int p1), (.int p2)] maxLocals)) t := by
                intro t k
                refine pre130 _ ?_
                show Steps p.tables e below (T125.setTop (mkF m 96 #[.val (.int p1), .val (.int p2), .val (.int (p2 &&& (7 : Int32))), .val (.int (p1.toUInt32.toUInt16.toUInt32.toInt32)), .val (.int (1 : Int32))] [(.int (0 : Int32)), (.int (F1 (p1.toUInt32.toUInt16.toUInt32.toInt32)))])) _
                refine XS.icmpNo X125.here hx rfl (hb hby at_96) rfl (teq hc131).2 ?_
                exact k
              have pre133 : ∀ t, Steps p.tables e below (T125.setTop (mkF m 104 #[.val (.int p1), .val (.int p2), .val (.int (p2 &&& (7 : Int32))), .val (.int (p1.toUInt32.toUInt16.toUInt32.toInt32)), .val (.int (1 : Int32))] [(.int (1 : Int32))])) t → Steps p.tables e below (s₁.setTop (entryFrame m #[(.int p1), (.int p2)] maxLocals)) t := by
                intro t k
                refine pre132 _ ?_
                show Steps p.tables e below (T125.setTop (mkF m 99 #[.val (.int p1), .val (.int p2), .val (.int (p2 &&& (7 : Int32))), .val (.int (p1.toUInt32.toUInt16.toUInt32.toInt32)), .val (.int (1 : Int32))] [])) _
                refine XS.iconst X125.here hx rfl (hb hby at_99) ?_
                show Steps p.tables e below (T125.setTop (mkF m 100 #[.val (.int p1), .val (.int p2), .val (.int (p2 &&& (7 : Int32))), .val (.int (p1.toUInt32.toUInt16.toUInt32.toInt32)), .val (.int (1 : Int32))] [(.int (1 : Int32))])) _
                refine XS.goto X125.here hx rfl (pc0 := 100) (pc' := 104) rfl (hb hby at_100) (by decide) (by decide) ?_
                exact k
              obtain ⟨fs, hr, hrun, hended, hW, hsame⟩ := X125.leave (v := some (.int (1 : Int32))) (fun h => by rw [Bd.returns] at h; cases h)
              refine ⟨_, _, pre133 _ ?_, hrun, hended, _, _, rfl, ?_, ⟨_, rfl⟩, hW, hsame.mono (by decide) (by decide)⟩
              · show Steps p.tables e below (T125.setTop (mkF m 104 #[.val (.int p1), .val (.int p2), .val (.int (p2 &&& (7 : Int32))), .val (.int (p1.toUInt32.toUInt16.toUInt32.toInt32)), .val (.int (1 : Int32))] [(.int (1 : Int32))])) _
                exact retN X125 hx (t := .boolean) Bd.returns (by simp) (hb hby at_104) hr
              · show Q0 Z p1 p2 h0 n0 _ T125.heap _
                rw [e125]
                exact ⟨(by rw [F0, if_neg hc28, if_neg hc47, if_neg hc69, if_neg hc94, if_pos hc122, if_pos hc131]), N125, rfl⟩
            · have pre134 : ∀ t, Steps p.tables e below (T125.setTop (mkF m 103 #[.val (.int p1), .val (.int p2), .val (.int (p2 &&& (7 : Int32))), .val (.int (p1.toUInt32.toUInt16.toUInt32.toInt32)), .val (.int (1 : Int32))] [])) t → Steps p.tables e below (s₁.setTop (entryFrame m #[(.int p1), (.int p2)] maxLocals)) t := by
                intro t k
                refine pre130 _ ?_
                show Steps p.tables e below (T125.setTop (mkF m 96 #[.val (.int p1), .val (.int p2), .val (.int (p2 &&& (7 : Int32))), .val (.int (p1.toUInt32.toUInt16.toUInt32.toInt32)), .val (.int (1 : Int32))] [(.int (0 : Int32)), (.int (F1 (p1.toUInt32.toUInt16.toUInt32.toInt32)))])) _
                refine XS.icmpYes X125.here hx rfl (pc0 := 96) (pc' := 103) rfl (hb hby at_96) rfl (feq hc131).2 (by decide) (by decide) ?_
                exact k
              have pre135 : ∀ t, Steps p.tables e below (T125.setTop (mkF m 104 #[.val (.int p1), .val (.int p2), .val (.int (p2 &&& (7 : Int32))), .val (.int (p1.toUInt32.toUInt16.toUInt32.toInt32)), .val (.int (1 : Int32))] [(.int (0 : Int32))])) t → Steps p.tables e below (s₁.setTop (entryFrame m #[(.int p1), (.int p2)] maxLocals)) t := by
                intro t k
                refine pre134 _ ?_
                show Steps p.tables e below (T125.setTop (mkF m 103 #[.val (.int p1), .val (.int p2), .val (.int (p2 &&& (7 : Int32))), .val (.int (p1.toUInt32.toUInt16.toUInt32.toInt32)), .val (.int (1 : Int32))] [])) _
                refine XS.iconst X125.here hx rfl (hb hby at_103) ?_
                exact k
              obtain ⟨fs, hr, hrun, hended, hW, hsame⟩ := X125.leave (v := some (.int (0 : Int32))) (fun h => by rw [Bd.returns] at h; cases h)
              refine ⟨_, _, pre135 _ ?_, hrun, hended, _, _, rfl, ?_, ⟨_, rfl⟩, hW, hsame.mono (by decide) (by decide)⟩
              · show Steps p.tables e below (T125.setTop (mkF m 104 #[.val (.int p1), .val (.int p2), .val (.int (p2 &&& (7 : Int32))), .val (.int (p1.toUInt32.toUInt16.toUInt32.toInt32)), .val (.int (1 : Int32))] [(.int (0 : Int32))])) _
                exact retN X125 hx (t := .boolean) Bd.returns (by simp) (hb hby at_104) hr
              · show Q0 Z p1 p2 h0 n0 _ T125.heap _
                rw [e125]
                exact ⟨(by rw [F0, if_neg hc28, if_neg hc47, if_neg hc69, if_neg hc94, if_pos hc122, if_neg hc131]), N125, rfl⟩
          · have pre136 : ∀ t, Steps p.tables e below (s₁.setTop (mkF m 57 #[.val (.int p1), .val (.int p2), .val (.int (p2 &&& (7 : Int32))), .val (.int (p1.toUInt32.toUInt16.toUInt32.toInt32)), .unset] [])) t → Steps p.tables e below (s₁.setTop (entryFrame m #[(.int p1), (.int p2)] maxLocals)) t := by
              intro t k
              refine pre121 _ ?_
              show Steps p.tables e below (s₁.setTop (mkF m 54 #[.val (.int p1), .val (.int p2), .val (.int (p2 &&& (7 : Int32))), .val (.int (p1.toUInt32.toUInt16.toUInt32.toInt32)), .unset] [(.int (44 : Int32)), (.int (p1.toUInt32.toUInt16.toUInt32.toInt32))])) _
              refine XS.icmpNo X0.here hx rfl (hb hby at_54) rfl (feq hc122).1 ?_
              exact k
            have pre137 : ∀ t, Steps p.tables e below (s₁.setTop (mkF m 60 #[.val (.int p1), .val (.int p2), .val (.int (p2 &&& (7 : Int32))), .val (.int (p1.toUInt32.toUInt16.toUInt32.toInt32)), .unset] [(.int (34 : Int32)), (.int (p1.toUInt32.toUInt16.toUInt32.toInt32))])) t → Steps p.tables e below (s₁.setTop (entryFrame m #[(.int p1), (.int p2)] maxLocals)) t := by
              intro t k
              refine pre136 _ ?_
              show Steps p.tables e below (s₁.setTop (mkF m 57 #[.val (.int p1), .val (.int p2), .val (.int (p2 &&& (7 : Int32))), .val (.int (p1.toUInt32.toUInt16.toUInt32.toInt32)), .unset] [])) _
              refine XS.iloadN X0.here hx rfl (hb hby at_57) rfl ?_
              show Steps p.tables e below (s₁.setTop (mkF m 58 #[.val (.int p1), .val (.int p2), .val (.int (p2 &&& (7 : Int32))), .val (.int (p1.toUInt32.toUInt16.toUInt32.toInt32)), .unset] [(.int (p1.toUInt32.toUInt16.toUInt32.toInt32))])) _
              refine XS.bipush X0.here hx rfl (hb hby at_58) ?_
              exact k
            by_cases hc138 : (p1.toUInt32.toUInt16.toUInt32.toInt32) = (34 : Int32)
            · have pre139 : ∀ t, Steps p.tables e below (s₁.setTop (mkF m 75 #[.val (.int p1), .val (.int p2), .val (.int (p2 &&& (7 : Int32))), .val (.int (p1.toUInt32.toUInt16.toUInt32.toInt32)), .unset] [])) t → Steps p.tables e below (s₁.setTop (entryFrame m #[(.int p1), (.int p2)] maxLocals)) t := by
                intro t k
                refine pre137 _ ?_
                show Steps p.tables e below (s₁.setTop (mkF m 60 #[.val (.int p1), .val (.int p2), .val (.int (p2 &&& (7 : Int32))), .val (.int (p1.toUInt32.toUInt16.toUInt32.toInt32)), .unset] [(.int (34 : Int32)), (.int (p1.toUInt32.toUInt16.toUInt32.toInt32))])) _
                refine XS.icmpYes X0.here hx rfl (pc0 := 60) (pc' := 75) rfl (hb hby at_60) rfl (teq hc138).1 (by decide) (by decide) ?_
                exact k
              have pre140 : ∀ t, Steps p.tables e below (s₁.setTop (mkF m 83 #[.val (.int p1), .val (.int p2), .val (.int (p2 &&& (7 : Int32))), .val (.int (p1.toUInt32.toUInt16.toUInt32.toInt32)), .val (.int (1 : Int32))] [(.int (p1.toUInt32.toUInt16.toUInt32.toInt32))])) t → Steps p.tables e below (s₁.setTop (entryFrame m #[(.int p1), (.int p2)] maxLocals)) t := by
                intro t k
                refine pre139 _ ?_
                show Steps p.tables e below (s₁.setTop (mkF m 75 #[.val (.int p1), .val (.int p2), .val (.int (p2 &&& (7 : Int32))), .val (.int (p1.toUInt32.toUInt16.toUInt32.toInt32)), .unset] [])) _
                refine XS.iconst X0.here hx rfl (hb hby at_75) ?_
                show Steps p.tables e below (s₁.setTop (mkF m 76 #[.val (.int p1), .val (.int p2), .val (.int (p2 &&& (7 : Int32))), .val (.int (p1.toUInt32.toUInt16.toUInt32.toInt32)), .unset] [(.int (1 : Int32))])) _
                refine XS.goto X0.here hx rfl (pc0 := 76) (pc' := 80) rfl (hb hby at_76) (by decide) (by decide) ?_
                show Steps p.tables e below (s₁.setTop (mkF m 80 #[.val (.int p1), .val (.int p2), .val (.int (p2 &&& (7 : Int32))), .val (.int (p1.toUInt32.toUInt16.toUInt32.toInt32)), .unset] [(.int (1 : Int32))])) _
                refine XS.istore X0.here hx rfl (hb hby at_80) rfl (l' := #[.val (.int p1), .val (.int p2), .val (.int (p2 &&& (7 : Int32))), .val (.int (p1.toUInt32.toUInt16.toUInt32.toInt32)), .val (.int (1 : Int32))]) rfl ?_
                show Steps p.tables e below (s₁.setTop (mkF m 82 #[.val (.int p1), .val (.int p2), .val (.int (p2 &&& (7 : Int32))), .val (.int (p1.toUInt32.toUInt16.toUInt32.toInt32)), .val (.int (1 : Int32))] [])) _
                refine XS.iloadN X0.here hx rfl (hb hby at_82) rfl ?_
                exact k
              obtain ⟨_, _, ⟨T141, L141, k141, n141⟩, -, X141, ⟨Lc141, hQ141, l141, y141, z141⟩, st141⟩ := Jvm.LawKit.callS X0 hx (y := (⟨"com/example/matchbook/matchbook/CsvReader", "plain", "(C)Z"⟩ : MethodName)) hown (mvT hZ (hw _ (List.mem_of_getElem? (i := 0) rfl))) (mvT hZ (hw _ (List.mem_of_getElem? (i := 1) rfl))) (mvT hZ (hw _ (List.mem_of_getElem? (i := 2) rfl))) (mvT hZ (hw _ (List.mem_of_getElem? (i := 3) rfl))) (by decide) (backOf (W := 0) (rm1 l Z a0 hw [] (p1.toUInt32.toUInt16.toUInt32.toInt32) h0 n0 Z0 ) hZ (hw _ (List.mem_of_getElem? (i := 3) rfl)) (hw _ (List.mem_of_getElem? (i := 2) rfl)) (by decide) (by decide)) (g := (mkF m 83 #[.val (.int p1), .val (.int p2), .val (.int (p2 &&& (7 : Int32))), .val (.int (p1.toUInt32.toUInt16.toUInt32.toInt32)), .val (.int (1 : Int32))] [(.int (p1.toUInt32.toUInt16.toUInt32.toInt32))])) rfl (by rw [hml]; rfl) (argsL := [(.int (p1.toUInt32.toUInt16.toUInt32.toInt32))]) (rest := []) (lenOf pd__C_Z rfl) rfl (by show 2 * 0 + _ ≤ _; exact Nat.le_of_eq rfl) (hb hby at_83) (fun _ _ => ⟨rfl, e0, (by decide : 0 + 0 ≤ _), (by decide : 0 + 0 ≤ _)⟩)
              dsimp only [Pt.U, Pt.locs, Pt.cells, Pt.slots] at X141 l141 y141 z141 st141 hQ141
              subst l141 y141 z141
              obtain ⟨rfl, N141q, e141⟩ := hQ141
              have N141 := Fr.app N0 N141q
              have pre142 : ∀ t, Steps p.tables e below (T141.setTop (mkF m 86 #[.val (.int p1), .val (.int p2), .val (.int (p2 &&& (7 : Int32))), .val (.int (p1.toUInt32.toUInt16.toUInt32.toInt32)), .val (.int (1 : Int32))] [(.int (F1 (p1.toUInt32.toUInt16.toUInt32.toInt32)))])) t → Steps p.tables e below (s₁.setTop (entryFrame m #[(.int p1), (.int p2)] maxLocals)) t := by
                intro t k
                refine pre140 _ ?_
                show Steps p.tables e below (s₁.setTop (mkF m 83 #[.val (.int p1), .val (.int p2), .val (.int (p2 &&& (7 : Int32))), .val (.int (p1.toUInt32.toUInt16.toUInt32.toInt32)), .val (.int (1 : Int32))] [(.int (p1.toUInt32.toUInt16.toUInt32.toInt32))])) _
                refine st141 _ ?_
                exact k
              have pre143 : ∀ t, Steps p.tables e below (T141.setTop (mkF m 88 #[.val (.int p1), .val (.int p2), .val (.int (p2 &&& (7 : Int32))), .val (.int (p1.toUInt32.toUInt16.toUInt32.toInt32)), .val (.int (1 : Int32))] [(.int (1 : Int32)), (.int (F1 (p1.toUInt32.toUInt16.toUInt32.toInt32)))])) t → Steps p.tables e below (s₁.setTop (entryFrame m #[(.int p1), (.int p2)] maxLocals)) t := by
                intro t k
                refine pre142 _ ?_
                show Steps p.tables e below (T141.setTop (mkF m 86 #[.val (.int p1), .val (.int p2), .val (.int (p2 &&& (7 : Int32))), .val (.int (p1.toUInt32.toUInt16.toUInt32.toInt32)), .val (.int (1 : Int32))] [(.int (F1 (p1.toUInt32.toUInt16.toUInt32.toInt32)))])) _
                refine XS.iload X141.here hx rfl (hb hby at_86) rfl ?_
                exact k
              have pre145 : ∀ t, Steps p.tables e below (T141.setTop (mkF m 95 #[.val (.int p1), .val (.int p2), .val (.int (p2 &&& (7 : Int32))), .val (.int (p1.toUInt32.toUInt16.toUInt32.toInt32)), .val (.int (1 : Int32))] [(.int (F1 (p1.toUInt32.toUInt16.toUInt32.toInt32)))])) t → Steps p.tables e below (s₁.setTop (entryFrame m #[(.int p1), (.int p2)] maxLocals)) t := by
                intro t k
                refine pre143 _ ?_
                show Steps p.tables e below (T141.setTop (mkF m 88 #[.val (.int p1), .val (.int p2), .val (.int (p2 &&& (7 : Int32))), .val (.int (p1.toUInt32.toUInt16.toUInt32.toInt32)), .val (.int (1 : Int32))] [(.int (1 : Int32)), (.int (F1 (p1.toUInt32.toUInt16.toUInt32.toInt32)))])) _
                refine XS.ifYes X141.here hx rfl (pc0 := 88) (pc' := 95) rfl (hb hby at_88) rfl ((if0 _ _).trans (feq (by decide : ¬ ((1 : Int32) = (0 : Int32)))).2) (by decide) (by decide) ?_
                exact k
              have pre146 : ∀ t, Steps p.tables e below (T141.setTop (mkF m 96 #[.val (.int p1), .val (.int p2), .val (.int (p2 &&& (7 : Int32))), .val (.int (p1.toUInt32.toUInt16.toUInt32.toInt32)), .val (.int (1 : Int32))] [(.int (0 : Int32)), (.int (F1 (p1.toUInt32.toUInt16.toUInt32.toInt32)))])) t → Steps p.tables e below (s₁.setTop (entryFrame m #[(.int p1), (.int p2)] maxLocals)) t := by
                intro t k
                refine pre145 _ ?_
                show Steps p.tables e below (T141.setTop (mkF m 95 #[.val (.int p1), .val (.int p2), .val (.int (p2 &&& (7 : Int32))), .val (.int (p1.toUInt32.toUInt16.toUInt32.toInt32)), .val (.int (1 : Int32))] [(.int (F1 (p1.toUInt32.toUInt16.toUInt32.toInt32)))])) _
                refine XS.iconst X141.here hx rfl (hb hby at_95) ?_
                exact k
              by_cases hc147 : (F1 (p1.toUInt32.toUInt16.toUInt32.toInt32)) = (0 : Int32)
              · have pre148 : ∀ t, Steps p.tables e below (T141.setTop (mkF m 99 #[.val (.int p1), .val (.int p2), .val (.int (p2 &&& (7 : Int32))), .val (.int (p1.toUInt32.toUInt16.toUInt32.toInt32)), .val (.int (1 : Int32))] [])) t → Steps p.tables e below (s₁.setTop (entryFrame m #[(.int p1), (.int p2)] maxLocals)) t := by
                  intro t k
                  refine pre146 _ ?_
                  show Steps p.tables e below (T141.setTop (mkF m 96 #[.val (.int p1), .val (.int p2), .val (.int (p2 &&& (7 : Int32))), .val (.int (p1.toUInt32.toUInt16.toUInt32.toInt32)), .val (.int (1 : Int32))] [(.int (0 : Int32)), (.int (F1 (p1.toUInt32.toUInt16.toUInt32.toInt32)))])) _
                  refine XS.icmpNo X141.here hx rfl (hb hby at_96) rfl (teq hc147).2 ?_
                  exact k
                have pre149 : ∀ t, Steps p.tables e below (T141.setTop (mkF m 104 #[.val (.int p1), .val (.int p2), .val (.int (p2 &&& (7 : Int32))), .val (.int (p1.toUInt32.toUInt16.toUInt32.toInt32)), .val (.int (1 : Int32))] [(.int (1 : Int32))])) t → Steps p.tables e below (s₁.setTop (entryFrame m #[(.int p1), (.int p2)] maxLocals)) t := by
                  intro t k
                  refine pre148 _ ?_
                  show Steps p.tables e below (T141.setTop (mkF m 99 #[.val (.int p1), .val (.int p2), .val (.int (p2 &&& (7 : Int32))), .val (.int (p1.toUInt32.toUInt16.toUInt32.toInt32)), .val (.int (1 : Int32))] [])) _
                  refine XS.iconst X141.here hx rfl (hb hby at_99) ?_
                  show Steps p.tables e below (T141.setTop (mkF m 100 #[.val (.int p1), .val (.int p2), .val (.int (p2 &&& (7 : Int32))), .val (.int (p1.toUInt32.toUInt16.toUInt32.toInt32)), .val (.int (1 : Int32))] [(.int (1 : Int32))])) _
                  refine XS.goto X141.here hx rfl (pc0 := 100) (pc' := 104) rfl (hb hby at_100) (by decide) (by decide) ?_
                  exact k
                obtain ⟨fs, hr, hrun, hended, hW, hsame⟩ := X141.leave (v := some (.int (1 : Int32))) (fun h => by rw [Bd.returns] at h; cases h)
                refine ⟨_, _, pre149 _ ?_, hrun, hended, _, _, rfl, ?_, ⟨_, rfl⟩, hW, hsame.mono (by decide) (by decide)⟩
                · show Steps p.tables e below (T141.setTop (mkF m 104 #[.val (.int p1), .val (.int p2), .val (.int (p2 &&& (7 : Int32))), .val (.int (p1.toUInt32.toUInt16.toUInt32.toInt32)), .val (.int (1 : Int32))] [(.int (1 : Int32))])) _
                  exact retN X141 hx (t := .boolean) Bd.returns (by simp) (hb hby at_104) hr
                · show Q0 Z p1 p2 h0 n0 _ T141.heap _
                  rw [e141]
                  exact ⟨(by rw [F0, if_neg hc28, if_neg hc47, if_neg hc69, if_neg hc94, if_neg hc122, if_pos hc138, if_pos hc147]), N141, rfl⟩
              · have pre150 : ∀ t, Steps p.tables e below (T141.setTop (mkF m 103 #[.val (.int p1), .val (.int p2), .val (.int (p2 &&& (7 : Int32))), .val (.int (p1.toUInt32.toUInt16.toUInt32.toInt32)), .val (.int (1 : Int32))] [])) t → Steps p.tables e below (s₁.setTop (entryFrame m #[(.int p1), (.int p2)] maxLocals)) t := by
                  intro t k
                  refine pre146 _ ?_
                  show Steps p.tables e below (T141.setTop (mkF m 96 #[.val (.int p1), .val (.int p2), .val (.int (p2 &&& (7 : Int32))), .val (.int (p1.toUInt32.toUInt16.toUInt32.toInt32)), .val (.int (1 : Int32))] [(.int (0 : Int32)), (.int (F1 (p1.toUInt32.toUInt16.toUInt32.toInt32)))])) _
                  refine XS.icmpYes X141.here hx rfl (pc0 := 96) (pc' := 103) rfl (hb hby at_96) rfl (feq hc147).2 (by decide) (by decide) ?_
                  exact k
                have pre151 : ∀ t, Steps p.tables e below (T141.setTop (mkF m 104 #[.val (.int p1), .val (.int p2), .val (.int (p2 &&& (7 : Int32))), .val (.int (p1.toUInt32.toUInt16.toUInt32.toInt32)), .val (.int (1 : Int32))] [(.int (0 : Int32))])) t → Steps p.tables e below (s₁.setTop (entryFrame m #[(.int p1), (.int p2)] maxLocals)) t := by
                  intro t k
                  refine pre150 _ ?_
                  show Steps p.tables e below (T141.setTop (mkF m 103 #[.val (.int p1), .val (.int p2), .val (.int (p2 &&& (7 : Int32))), .val (.int (p1.toUInt32.toUInt16.toUInt32.toInt32)), .val (.int (1 : Int32))] [])) _
                  refine XS.iconst X141.here hx rfl (hb hby at_103) ?_
                  exact k
                obtain ⟨fs, hr, hrun, hended, hW, hsame⟩ := X141.leave (v := some (.int (0 : Int32))) (fun h => by rw [Bd.returns] at h; cases h)
                refine ⟨_, _, pre151 _ ?_, hrun, hended, _, _, rfl, ?_, ⟨_, rfl⟩, hW, hsame.mono (by decide) (by decide)⟩
                · show Steps p.tables e below (T141.setTop (mkF m 104 #[.val (.int p1), .val (.int p2), .val (.int (p2 &&& (7 : Int32))), .val (.int (p1.toUInt32.toUInt16.toUInt32.toInt32)), .val (.int (1 : Int32))] [(.int (0 : Int32))])) _
                  exact retN X141 hx (t := .boolean) Bd.returns (by simp) (hb hby at_104) hr
                · show Q0 Z p1 p2 h0 n0 _ T141.heap _
                  rw [e141]
                  exact ⟨(by rw [F0, if_neg hc28, if_neg hc47, if_neg hc69, if_neg hc94, if_neg hc122, if_pos hc138, if_neg hc147]), N141, rfl⟩
            · have pre152 : ∀ t, Steps p.tables e below (s₁.setTop (mkF m 63 #[.val (.int p1), .val (.int p2), .val (.int (p2 &&& (7 : Int32))), .val (.int (p1.toUInt32.toUInt16.toUInt32.toInt32)), .unset] [])) t → Steps p.tables e below (s₁.setTop (entryFrame m #[(.int p1), (.int p2)] maxLocals)) t := by
                intro t k
                refine pre137 _ ?_
                show Steps p.tables e below (s₁.setTop (mkF m 60 #[.val (.int p1), .val (.int p2), .val (.int (p2 &&& (7 : Int32))), .val (.int (p1.toUInt32.toUInt16.toUInt32.toInt32)), .unset] [(.int (34 : Int32)), (.int (p1.toUInt32.toUInt16.toUInt32.toInt32))])) _
                refine XS.icmpNo X0.here hx rfl (hb hby at_60) rfl (feq hc138).1 ?_
                exact k
              have pre153 : ∀ t, Steps p.tables e below (s₁.setTop (mkF m 66 #[.val (.int p1), .val (.int p2), .val (.int (p2 &&& (7 : Int32))), .val (.int (p1.toUInt32.toUInt16.toUInt32.toInt32)), .unset] [(.int (10 : Int32)), (.int (p1.toUInt32.toUInt16.toUInt32.toInt32))])) t → Steps p.tables e below (s₁.setTop (entryFrame m #[(.int p1), (.int p2)] maxLocals)) t := by
                intro t k
                refine pre152 _ ?_
                show Steps p.tables e below (s₁.setTop (mkF m 63 #[.val (.int p1), .val (.int p2), .val (.int (p2 &&& (7 : Int32))), .val (.int (p1.toUInt32.toUInt16.toUInt32.toInt32)), .unset] [])) _
                refine XS.iloadN X0.here hx rfl (hb hby at_63) rfl ?_
                show Steps p.tables e below (s₁.setTop (mkF m 64 #[.val (.int p1), .val (.int p2), .val (.int (p2 &&& (7 : Int32))), .val (.int (p1.toUInt32.toUInt16.toUInt32.toInt32)), .unset] [(.int (p1.toUInt32.toUInt16.toUInt32.toInt32))])) _
                refine XS.bipush X0.here hx rfl (hb hby at_64) ?_
                exact k
              by_cases hc154 : (p1.toUInt32.toUInt16.toUInt32.toInt32) = (10 : Int32)
              · have pre155 : ∀ t, Steps p.tables e below (s₁.setTop (mkF m 75 #[.val (.int p1), .val (.int p2), .val (.int (p2 &&& (7 : Int32))), .val (.int (p1.toUInt32.toUInt16.toUInt32.toInt32)), .unset] [])) t → Steps p.tables e below (s₁.setTop (entryFrame m #[(.int p1), (.int p2)] maxLocals)) t := by
                  intro t k
                  refine pre153 _ ?_
                  show Steps p.tables e below (s₁.setTop (mkF m 66 #[.val (.int p1), .val (.int p2), .val (.int (p2 &&& (7 : Int32))), .val (.int (p1.toUInt32.toUInt16.toUInt32.toInt32)), .unset] [(.int (10 : Int32)), (.int (p1.toUInt32.toUInt16.toUInt32.toInt32))])) _
                  refine XS.icmpYes X0.here hx rfl (pc0 := 66) (pc' := 75) rfl (hb hby at_66) rfl (teq hc154).1 (by decide) (by decide) ?_
                  exact k
                have pre156 : ∀ t, Steps p.tables e below (s₁.setTop (mkF m 83 #[.val (.int p1), .val (.int p2), .val (.int (p2 &&& (7 : Int32))), .val (.int (p1.toUInt32.toUInt16.toUInt32.toInt32)), .val (.int (1 : Int32))] [(.int (p1.toUInt32.toUInt16.toUInt32.toInt32))])) t → Steps p.tables e below (s₁.setTop (entryFrame m #[(.int p1), (.int p2)] maxLocals)) t := by
                  intro t k
                  refine pre155 _ ?_
                  show Steps p.tables e below (s₁.setTop (mkF m 75 #[.val (.int p1), .val (.int p2), .val (.int (p2 &&& (7 : Int32))), .val (.int (p1.toUInt32.toUInt16.toUInt32.toInt32)), .unset] [])) _
                  refine XS.iconst X0.here hx rfl (hb hby at_75) ?_
                  show Steps p.tables e below (s₁.setTop (mkF m 76 #[.val (.int p1), .val (.int p2), .val (.int (p2 &&& (7 : Int32))), .val (.int (p1.toUInt32.toUInt16.toUInt32.toInt32)), .unset] [(.int (1 : Int32))])) _
                  refine XS.goto X0.here hx rfl (pc0 := 76) (pc' := 80) rfl (hb hby at_76) (by decide) (by decide) ?_
                  show Steps p.tables e below (s₁.setTop (mkF m 80 #[.val (.int p1), .val (.int p2), .val (.int (p2 &&& (7 : Int32))), .val (.int (p1.toUInt32.toUInt16.toUInt32.toInt32)), .unset] [(.int (1 : Int32))])) _
                  refine XS.istore X0.here hx rfl (hb hby at_80) rfl (l' := #[.val (.int p1), .val (.int p2), .val (.int (p2 &&& (7 : Int32))), .val (.int (p1.toUInt32.toUInt16.toUInt32.toInt32)), .val (.int (1 : Int32))]) rfl ?_
                  show Steps p.tables e below (s₁.setTop (mkF m 82 #[.val (.int p1), .val (.int p2), .val (.int (p2 &&& (7 : Int32))), .val (.int (p1.toUInt32.toUInt16.toUInt32.toInt32)), .val (.int (1 : Int32))] [])) _
                  refine XS.iloadN X0.here hx rfl (hb hby at_82) rfl ?_
                  exact k
                obtain ⟨_, _, ⟨T157, L157, k157, n157⟩, -, X157, ⟨Lc157, hQ157, l157, y157, z157⟩, st157⟩ := Jvm.LawKit.callS X0 hx (y := (⟨"com/example/matchbook/matchbook/CsvReader", "plain", "(C)Z"⟩ : MethodName)) hown (mvT hZ (hw _ (List.mem_of_getElem? (i := 0) rfl))) (mvT hZ (hw _ (List.mem_of_getElem? (i := 1) rfl))) (mvT hZ (hw _ (List.mem_of_getElem? (i := 2) rfl))) (mvT hZ (hw _ (List.mem_of_getElem? (i := 3) rfl))) (by decide) (backOf (W := 0) (rm1 l Z a0 hw [] (p1.toUInt32.toUInt16.toUInt32.toInt32) h0 n0 Z0 ) hZ (hw _ (List.mem_of_getElem? (i := 3) rfl)) (hw _ (List.mem_of_getElem? (i := 2) rfl)) (by decide) (by decide)) (g := (mkF m 83 #[.val (.int p1), .val (.int p2), .val (.int (p2 &&& (7 : Int32))), .val (.int (p1.toUInt32.toUInt16.toUInt32.toInt32)), .val (.int (1 : Int32))] [(.int (p1.toUInt32.toUInt16.toUInt32.toInt32))])) rfl (by rw [hml]; rfl) (argsL := [(.int (p1.toUInt32.toUInt16.toUInt32.toInt32))]) (rest := []) (lenOf pd__C_Z rfl) rfl (by show 2 * 0 + _ ≤ _; exact Nat.le_of_eq rfl) (hb hby at_83) (fun _ _ => ⟨rfl, e0, (by decide : 0 + 0 ≤ _), (by decide : 0 + 0 ≤ _)⟩)
                dsimp only [Pt.U, Pt.locs, Pt.cells, Pt.slots] at X157 l157 y157 z157 st157 hQ157
                subst l157 y157 z157
                obtain ⟨rfl, N157q, e157⟩ := hQ157
                have N157 := Fr.app N0 N157q
                have pre158 : ∀ t, Steps p.tables e below (T157.setTop (mkF m 86 #[.val (.int p1), .val (.int p2), .val (.int (p2 &&& (7 : Int32))), .val (.int (p1.toUInt32.toUInt16.toUInt32.toInt32)), .val (.int (1 : Int32))] [(.int (F1 (p1.toUInt32.toUInt16.toUInt32.toInt32)))])) t → Steps p.tables e below (s₁.setTop (entryFrame m #[(.int p1), (.int p2)] maxLocals)) t := by
                  intro t k
                  refine pre156 _ ?_
                  show Steps p.tables e below (s₁.setTop (mkF m 83 #[.val (.int p1), .val (.int p2), .val (.int (p2 &&& (7 : Int32))), .val (.int (p1.toUInt32.toUInt16.toUInt32.toInt32)), .val (.int (1 : Int32))] [(.int (p1.toUInt32.toUInt16.toUInt32.toInt32))])) _
                  refine st157 _ ?_
                  exact k
                have pre159 : ∀ t, Steps p.tables e below (T157.setTop (mkF m 88 #[.val (.int p1), .val (.int p2), .val (.int (p2 &&& (7 : Int32))), .val (.int (p1.toUInt32.toUInt16.toUInt32.toInt32)), .val (.int (1 : Int32))] [(.int (1 : Int32)), (.int (F1 (p1.toUInt32.toUInt16.toUInt32.toInt32)))])) t → Steps p.tables e below (s₁.setTop (entryFrame m #[(.int p1), (.int p2)] maxLocals)) t := by
                  intro t k
                  refine pre158 _ ?_
                  show Steps p.tables e below (T157.setTop (mkF m 86 #[.val (.int p1), .val (.int p2), .val (.int (p2 &&& (7 : Int32))), .val (.int (p1.toUInt32.toUInt16.toUInt32.toInt32)), .val (.int (1 : Int32))] [(.int (F1 (p1.toUInt32.toUInt16.toUInt32.toInt32)))])) _
                  refine XS.iload X157.here hx rfl (hb hby at_86) rfl ?_
                  exact k
                have pre161 : ∀ t, Steps p.tables e below (T157.setTop (mkF m 95 #[.val (.int p1), .val (.int p2), .val (.int (p2 &&& (7 : Int32))), .val (.int (p1.toUInt32.toUInt16.toUInt32.toInt32)), .val (.int (1 : Int32))] [(.int (F1 (p1.toUInt32.toUInt16.toUInt32.toInt32)))])) t → Steps p.tables e below (s₁.setTop (entryFrame m #[(.int p1), (.int p2)] maxLocals)) t := by
                  intro t k
                  refine pre159 _ ?_
                  show Steps p.tables e below (T157.setTop (mkF m 88 #[.val (.int p1), .val (.int p2), .val (.int (p2 &&& (7 : Int32))), .val (.int (p1.toUInt32.toUInt16.toUInt32.toInt32)), .val (.int (1 : Int32))] [(.int (1 : Int32)), (.int (F1 (p1.toUInt32.toUInt16.toUInt32.toInt32)))])) _
                  refine XS.ifYes X157.here hx rfl (pc0 := 88) (pc' := 95) rfl (hb hby at_88) rfl ((if0 _ _).trans (feq (by decide : ¬ ((1 : Int32) = (0 : Int32)))).2) (by decide) (by decide) ?_
                  exact k
                have pre162 : ∀ t, Steps p.tables e below (T157.setTop (mkF m 96 #[.val (.int p1), .val (.int p2), .val (.int (p2 &&& (7 : Int32))), .val (.int (p1.toUInt32.toUInt16.toUInt32.toInt32)), .val (.int (1 : Int32))] [(.int (0 : Int32)), (.int (F1 (p1.toUInt32.toUInt16.toUInt32.toInt32)))])) t → Steps p.tables e below (s₁.setTop (entryFrame m #[(.int p1), (.int p2)] maxLocals)) t := by
                  intro t k
                  refine pre161 _ ?_
                  show Steps p.tables e below (T157.setTop (mkF m 95 #[.val (.int p1), .val (.int p2), .val (.int (p2 &&& (7 : Int32))), .val (.int (p1.toUInt32.toUInt16.toUInt32.toInt32)), .val (.int (1 : Int32))] [(.int (F1 (p1.toUInt32.toUInt16.toUInt32.toInt32)))])) _
                  refine XS.iconst X157.here hx rfl (hb hby at_95) ?_
                  exact k
                by_cases hc163 : (F1 (p1.toUInt32.toUInt16.toUInt32.toInt32)) = (0 : Int32)
                · have pre164 : ∀ t, Steps p.tables e below (T157.setTop (mkF m 99 #[.val (.int p1), .val (.int p2), .val (.int (p2 &&& (7 : Int32))), .val (.int (p1.toUInt32.toUInt16.toUInt32.toInt32)), .val (.int (1 : Int32))] [])) t → Steps p.tables e below (s₁.setTop (entryFrame m #[(.int p1), (.int p2)] maxLocals)) t := by
                    intro t k
                    refine pre162 _ ?_
                    show Steps p.tables e below (T157.setTop (mkF m 96 #[.val (.int p1), .val (.int p2), .val (.int (p2 &&& (7 : Int32))), .val (.int (p1.toUInt32.toUInt16.toUInt32.toInt32)), .val (.int (1 : Int32))] [(.int (0 : Int32)), (.int (F1 (p1.toUInt32.toUInt16.toUInt32.toInt32)))])) _
                    refine XS.icmpNo X157.here hx rfl (hb hby at_96) rfl (teq hc163).2 ?_
                    exact k
                  have pre165 : ∀ t, Steps p.tables e below (T157.setTop (mkF m 104 #[.val (.int p1), .val (.int p2), .val (.int (p2 &&& (7 : Int32))), .val (.int (p1.toUInt32.toUInt16.toUInt32.toInt32)), .val (.int (1 : Int32))] [(.int (1 : Int32))])) t → Steps p.tables e below (s₁.setTop (entryFrame m #[(.int p1), (.int p2)] maxLocals)) t := by
                    intro t k
                    refine pre164 _ ?_
                    show Steps p.tables e below (T157.setTop (mkF m 99 #[.val (.int p1), .val (.int p2), .val (.int (p2 &&& (7 : Int32))), .val (.int (p1.toUInt32.toUInt16.toUInt32.toInt32)), .val (.int (1 : Int32))] [])) _
                    refine XS.iconst X157.here hx rfl (hb hby at_99) ?_
                    show Steps p.tables e below (T157.setTop (mkF m 100 #[.val (.int p1), .val (.int p2), .val (.int (p2 &&& (7 : Int32))), .val (.int (p1.toUInt32.toUInt16.toUInt32.toInt32)), .val (.int (1 : Int32))] [(.int (1 : Int32))])) _
                    refine XS.goto X157.here hx rfl (pc0 := 100) (pc' := 104) rfl (hb hby at_100) (by decide) (by decide) ?_
                    exact k
                  obtain ⟨fs, hr, hrun, hended, hW, hsame⟩ := X157.leave (v := some (.int (1 : Int32))) (fun h => by rw [Bd.returns] at h; cases h)
                  refine ⟨_, _, pre165 _ ?_, hrun, hended, _, _, rfl, ?_, ⟨_, rfl⟩, hW, hsame.mono (by decide) (by decide)⟩
                  · show Steps p.tables e below (T157.setTop (mkF m 104 #[.val (.int p1), .val (.int p2), .val (.int (p2 &&& (7 : Int32))), .val (.int (p1.toUInt32.toUInt16.toUInt32.toInt32)), .val (.int (1 : Int32))] [(.int (1 : Int32))])) _
                    exact retN X157 hx (t := .boolean) Bd.returns (by simp) (hb hby at_104) hr
                  · show Q0 Z p1 p2 h0 n0 _ T157.heap _
                    rw [e157]
                    exact ⟨(by rw [F0, if_neg hc28, if_neg hc47, if_neg hc69, if_neg hc94, if_neg hc122, if_neg hc138, if_pos hc154, if_pos hc163]), N157, rfl⟩
                · have pre166 : ∀ t, Steps p.tables e below (T157.setTop (mkF m 103 #[.val (.int p1), .val (.int p2), .val (.int (p2 &&& (7 : Int32))), .val (.int (p1.toUInt32.toUInt16.toUInt32.toInt32)), .val (.int (1 : Int32))] [])) t → Steps p.tables e below (s₁.setTop (entryFrame m #[(.int p1), (.int p2)] maxLocals)) t := by
                    intro t k
                    refine pre162 _ ?_
                    show Steps p.tables e below (T157.setTop (mkF m 96 #[.val (.int p1), .val (.int p2), .val (.int (p2 &&& (7 : Int32))), .val (.int (p1.toUInt32.toUInt16.toUInt32.toInt32)), .val (.int (1 : Int32))] [(.int (0 : Int32)), (.int (F1 (p1.toUInt32.toUInt16.toUInt32.toInt32)))])) _
                    refine XS.icmpYes X157.here hx rfl (pc0 := 96) (pc' := 103) rfl (hb hby at_96) rfl (feq hc163).2 (by decide) (by decide) ?_
                    exact k
                  have pre167 : ∀ t, Steps p.tables e below (T157.setTop (mkF m 104 #[.val (.int p1), .val (.int p2), .val (.int (p2 &&& (7 : Int32))), .val (.int (p1.toUInt32.toUInt16.toUInt32.toInt32)), .val (.int (1 : Int32))] [(.int (0 : Int32))])) t → Steps p.tables e below (s₁.setTop (entryFrame m #[(.int p1), (.int p2)] maxLocals)) t := by
                    intro t k
                    refine pre166 _ ?_
                    show Steps p.tables e below (T157.setTop (mkF m 103 #[.val (.int p1), .val (.int p2), .val (.int (p2 &&& (7 : Int32))), .val (.int (p1.toUInt32.toUInt16.toUInt32.toInt32)), .val (.int (1 : Int32))] [])) _
                    refine XS.iconst X157.here hx rfl (hb hby at_103) ?_
                    exact k
                  obtain ⟨fs, hr, hrun, hended, hW, hsame⟩ := X157.leave (v := some (.int (0 : Int32))) (fun h => by rw [Bd.returns] at h; cases h)
                  refine ⟨_, _, pre167 _ ?_, hrun, hended, _, _, rfl, ?_, ⟨_, rfl⟩, hW, hsame.mono (by decide) (by decide)⟩
                  · show Steps p.tables e below (T157.setTop (mkF m 104 #[.val (.int p1), .val (.int p2), .val (.int (p2 &&& (7 : Int32))), .val (.int (p1.toUInt32.toUInt16.toUInt32.toInt32)), .val (.int (1 : Int32))] [(.int (0 : Int32))])) _
                    exact retN X157 hx (t := .boolean) Bd.returns (by simp) (hb hby at_104) hr
                  · show Q0 Z p1 p2 h0 n0 _ T157.heap _
                    rw [e157]
                    exact ⟨(by rw [F0, if_neg hc28, if_neg hc47, if_neg hc69, if_neg hc94, if_neg hc122, if_neg hc138, if_pos hc154, if_neg hc163]), N157, rfl⟩
              · have pre168 : ∀ t, Steps p.tables e below (s₁.setTop (mkF m 69 #[.val (.int p1), .val (.int p2), .val (.int (p2 &&& (7 : Int32))), .val (.int (p1.toUInt32.toUInt16.toUInt32.toInt32)), .unset] [])) t → Steps p.tables e below (s₁.setTop (entryFrame m #[(.int p1), (.int p2)] maxLocals)) t := by
                  intro t k
                  refine pre153 _ ?_
                  show Steps p.tables e below (s₁.setTop (mkF m 66 #[.val (.int p1), .val (.int p2), .val (.int (p2 &&& (7 : Int32))), .val (.int (p1.toUInt32.toUInt16.toUInt32.toInt32)), .unset] [(.int (10 : Int32)), (.int (p1.toUInt32.toUInt16.toUInt32.toInt32))])) _
                  refine XS.icmpNo X0.here hx rfl (hb hby at_66) rfl (feq hc154).1 ?_
                  exact k
                have pre169 : ∀ t, Steps p.tables e below (s₁.setTop (mkF m 72 #[.val (.int p1), .val (.int p2), .val (.int (p2 &&& (7 : Int32))), .val (.int (p1.toUInt32.toUInt16.toUInt32.toInt32)), .unset] [(.int (13 : Int32)), (.int (p1.toUInt32.toUInt16.toUInt32.toInt32))])) t → Steps p.tables e below (s₁.setTop (entryFrame m #[(.int p1), (.int p2)] maxLocals)) t := by
                  intro t k
                  refine pre168 _ ?_
                  show Steps p.tables e below (s₁.setTop (mkF m 69 #[.val (.int p1), .val (.int p2), .val (.int (p2 &&& (7 : Int32))), .val (.int (p1.toUInt32.toUInt16.toUInt32.toInt32)), .unset] [])) _
                  refine XS.iloadN X0.here hx rfl (hb hby at_69) rfl ?_
                  show Steps p.tables e below (s₁.setTop (mkF m 70 #[.val (.int p1), .val (.int p2), .val (.int (p2 &&& (7 : Int32))), .val (.int (p1.toUInt32.toUInt16.toUInt32.toInt32)), .unset] [(.int (p1.toUInt32.toUInt16.toUInt32.toInt32))])) _
                  refine XS.bipush X0.here hx rfl (hb hby at_70) ?_
                  exact k
                by_cases hc170 : (p1.toUInt32.toUInt16.toUInt32.toInt32) = (13 : Int32)
                · have pre171 : ∀ t, Steps p.tables e below (s₁.setTop (mkF m 75 #[.val (.int p1), .val (.int p2), .val (.int (p2 &&& (7 : Int32))), .val (.int (p1.toUInt32.toUInt16.toUInt32.toInt32)), .unset] [])) t → Steps p.tables e below (s₁.setTop (entryFrame m #[(.int p1), (.int p2)] maxLocals)) t := by
                    intro t k
                    refine pre169 _ ?_
                    show Steps p.tables e below (s₁.setTop (mkF m 72 #[.val (.int p1), .val (.int p2), .val (.int (p2 &&& (7 : Int32))), .val (.int (p1.toUInt32.toUInt16.toUInt32.toInt32)), .unset] [(.int (13 : Int32)), (.int (p1.toUInt32.toUInt16.toUInt32.toInt32))])) _
                    refine XS.icmpNo X0.here hx rfl (hb hby at_72) rfl (teq hc170).2 ?_
                    exact k
                  have pre172 : ∀ t, Steps p.tables e below (s₁.setTop (mkF m 83 #[.val (.int p1), .val (.int p2), .val (.int (p2 &&& (7 : Int32))), .val (.int (p1.toUInt32.toUInt16.toUInt32.toInt32)), .val (.int (1 : Int32))] [(.int (p1.toUInt32.toUInt16.toUInt32.toInt32))])) t → Steps p.tables e below (s₁.setTop (entryFrame m #[(.int p1), (.int p2)] maxLocals)) t := by
                    intro t k
                    refine pre171 _ ?_
                    show Steps p.tables e below (s₁.setTop (mkF m 75 #[.val (.int p1), .val (.int p2), .val (.int (p2 &&& (7 : Int32))), .val (.int (p1.toUInt32.toUInt16.toUInt32.toInt32)), .unset] [])) _
                    refine XS.iconst X0.here hx rfl (hb hby at_75) ?_
                    show Steps p.tables e below (s₁.setTop (mkF m 76 #[.val (.int p1), .val (.int p2), .val (.int (p2 &&& (7 : Int32))), .val (.int (p1.toUInt32.toUInt16.toUInt32.toInt32)), .unset] [(.int (1 : Int32))])) _
                    refine XS.goto X0.here hx rfl (pc0 := 76) (pc' := 80) rfl (hb hby at_76) (by decide) (by decide) ?_
                    show Steps p.tables e below (s₁.setTop (mkF m 80 #[.val (.int p1), .val (.int p2), .val (.int (p2 &&& (7 : Int32))), .val (.int (p1.toUInt32.toUInt16.toUInt32.toInt32)), .unset] [(.int (1 : Int32))])) _
                    refine XS.istore X0.here hx rfl (hb hby at_80) rfl (l' := #[.val (.int p1), .val (.int p2), .val (.int (p2 &&& (7 : Int32))), .val (.int (p1.toUInt32.toUInt16.toUInt32.toInt32)), .val (.int (1 : Int32))]) rfl ?_
                    show Steps p.tables e below (s₁.setTop (mkF m 82 #[.val (.int p1), .val (.int p2), .val (.int (p2 &&& (7 : Int32))), .val (.int (p1.toUInt32.toUInt16.toUInt32.toInt32)), .val (.int (1 : Int32))] [])) _
                    refine XS.iloadN X0.here hx rfl (hb hby at_82) rfl ?_
                    exact k
                  obtain ⟨_, _, ⟨T173, L173, k173, n173⟩, -, X173, ⟨Lc173, hQ173, l173, y173, z173⟩, st173⟩ := Jvm.LawKit.callS X0 hx (y := (⟨"com/example/matchbook/matchbook/CsvReader", "plain", "(C)Z"⟩ : MethodName)) hown (mvT hZ (hw _ (List.mem_of_getElem? (i := 0) rfl))) (mvT hZ (hw _ (List.mem_of_getElem? (i := 1) rfl))) (mvT hZ (hw _ (List.mem_of_getElem? (i := 2) rfl))) (mvT hZ (hw _ (List.mem_of_getElem? (i := 3) rfl))) (by decide) (backOf (W := 0) (rm1 l Z a0 hw [] (p1.toUInt32.toUInt16.toUInt32.toInt32) h0 n0 Z0 ) hZ (hw _ (List.mem_of_getElem? (i := 3) rfl)) (hw _ (List.mem_of_getElem? (i := 2) rfl)) (by decide) (by decide)) (g := (mkF m 83 #[.val (.int p1), .val (.int p2), .val (.int (p2 &&& (7 : Int32))), .val (.int (p1.toUInt32.toUInt16.toUInt32.toInt32)), .val (.int (1 : Int32))] [(.int (p1.toUInt32.toUInt16.toUInt32.toInt32))])) rfl (by rw [hml]; rfl) (argsL := [(.int (p1.toUInt32.toUInt16.toUInt32.toInt32))]) (rest := []) (lenOf pd__C_Z rfl) rfl (by show 2 * 0 + _ ≤ _; exact Nat.le_of_eq rfl) (hb hby at_83) (fun _ _ => ⟨rfl, e0, (by decide : 0 + 0 ≤ _), (by decide : 0 + 0 ≤ _)⟩)
                  dsimp only [Pt.U, Pt.locs, Pt.cells, Pt.slots] at X173 l173 y173 z173 st173 hQ173
                  subst l173 y173 z173
                  obtain ⟨rfl, N173q, e173⟩ := hQ173
                  have N173 := Fr.app N0 N173q
                  have pre174 : ∀ t, Steps p.tables e below (T173.setTop (mkF m 86 #[.val (.int p1), .val (.int p2), .val (.int (p2 &&& (7 : Int32))), .val (.int (p1.toUInt32.toUInt16.toUInt32.toInt32)), .val (.int (1 : Int32))] [(.int (F1 (p1.toUInt32.toUInt16.toUInt32.toInt32)))])) t → Steps p.tables e below (s₁.setTop (entryFrame m #[(.int p1), (.int p2)] maxLocals)) t := by
                    intro t k
                    refine pre172 _ ?_
                    show Steps p.tables e below (s₁.setTop (mkF m 83 #[.val (.int p1), .val (.int p2), .val (.int (p2 &&& (7 : Int32))), .val (.int (p1.toUInt32.toUInt16.toUInt32.toInt32)), .val (.int (1 : Int32))] [(.int (p1.toUInt32.toUInt16.toUInt32.toInt32))])) _
                    refine st173 _ ?_
                    exact k
                  have pre175 : ∀ t, Steps p.tables e below (T173.setTop (mkF m 88 #[.val (.int p1), .val (.int p2), .val (.int (p2 &&& (7 : Int32))), .val (.int (p1.toUInt32.toUInt16.toUInt32.toInt32)), .val (.int (1 : Int32))] [(.int (1 : Int32)), (.int (F1 (p1.toUInt32.toUInt16.toUInt32.toInt32)))])) t → Steps p.tables e below (s₁.setTop (entryFrame m #[(.int p1), (.int p2)] maxLocals)) t := by
                    intro t k
                    refine pre174 _ ?_
                    show Steps p.tables e below (T173.setTop (mkF m 86 #[.val (.int p1), .val (.int p2), .val (.int (p2 &&& (7 : Int32))), .val (.int (p1.toUInt32.toUInt16.toUInt32.toInt32)), .val (.int (1 : Int32))] [(.int (F1 (p1.toUInt32.toUInt16.toUInt32.toInt32)))])) _
                    refine XS.iload X173.here hx rfl (hb hby at_86) rfl ?_
                    exact k
                  have pre177 : ∀ t, Steps p.tables e below (T173.setTop (mkF m 95 #[.val (.int p1), .val (.int p2), .val (.int (p2 &&& (7 : Int32))), .val (.int (p1.toUInt32.toUInt16.toUInt32.toInt32)), .val (.int (1 : Int32))] [(.int (F1 (p1.toUInt32.toUInt16.toUInt32.toInt32)))])) t → Steps p.tables e below (s₁.setTop (entryFrame m #[(.int p1), (.int p2)] maxLocals)) t := by
                    intro t k
                    refine pre175 _ ?_
                    show Steps p.tables e below (T173.setTop (mkF m 88 #[.val (.int p1), .val (.int p2), .val (.int (p2 &&& (7 : Int32))), .val (.int (p1.toUInt32.toUInt16.toUInt32.toInt32)), .val (.int (1 : Int32))] [(.int (1 : Int32)), (.int (F1 (p1.toUInt32.toUInt16.toUInt32.toInt32)))])) _
                    refine XS.ifYes X173.here hx rfl (pc0 := 88) (pc' := 95) rfl (hb hby at_88) rfl ((if0 _ _).trans (feq (by decide : ¬ ((1 : Int32) = (0 : Int32)))).2) (by decide) (by decide) ?_
                    exact k
                  have pre178 : ∀ t, Steps p.tables e below (T173.setTop (mkF m 96 #[.val (.int p1), .val (.int p2), .val (.int (p2 &&& (7 : Int32))), .val (.int (p1.toUInt32.toUInt16.toUInt32.toInt32)), .val (.int (1 : Int32))] [(.int (0 : Int32)), (.int (F1 (p1.toUInt32.toUInt16.toUInt32.toInt32)))])) t → Steps p.tables e below (s₁.setTop (entryFrame m #[(.int p1), (.int p2)] maxLocals)) t := by
                    intro t k
                    refine pre177 _ ?_
                    show Steps p.tables e below (T173.setTop (mkF m 95 #[.val (.int p1), .val (.int p2), .val (.int (p2 &&& (7 : Int32))), .val (.int (p1.toUInt32.toUInt16.toUInt32.toInt32)), .val (.int (1 : Int32))] [(.int (F1 (p1.toUInt32.toUInt16.toUInt32.toInt32)))])) _
                    refine XS.iconst X173.here hx rfl (hb hby at_95) ?_
                    exact k
                  by_cases hc179 : (F1 (p1.toUInt32.toUInt16.toUInt32.toInt32)) = (0 : Int32)
                  · have pre180 : ∀ t, Steps p.tables e below (T173.setTop (mkF m 99 #[.val (.int p1), .val (.int p2), .val (.int (p2 &&& (7 : Int32))), .val (.int (p1.toUInt32.toUInt16.toUInt32.toInt32)), .val (.int (1 : Int32))] [])) t → Steps p.tables e below (s₁.setTop (entryFrame m #[(.int p1), (.int p2)] maxLocals)) t := by
                      intro t k
                      refine pre178 _ ?_
                      show Steps p.tables e below (T173.setTop (mkF m 96 #[.val (.int p1), .val (.int p2), .val (.int (p2 &&& (7 : Int32))), .val (.int (p1.toUInt32.toUInt16.toUInt32.toInt32)), .val (.int (1 : Int32))] [(.int (0 : Int32)), (.int (F1 (p1.toUInt32.toUInt16.toUInt32.toInt32)))])) _
                      refine XS.icmpNo X173.here hx rfl (hb hby at_96) rfl (teq hc179).2 ?_
                      exact k
                    have pre181 : ∀ t, Steps p.tables e below (T173.setTop (mkF m 104 #[.val (.int p1), .val (.int p2), .val (.int (p2 &&& (7 : Int32))), .val (.int (p1.toUInt32.toUInt16.toUInt32.toInt32)), .val (.int (1 : Int32))] [(.int (1 : Int32))])) t → Steps p.tables e below (s₁.setTop (entryFrame m #[(.int p1), (.int p2)] maxLocals)) t := by
                      intro t k
                      refine pre180 _ ?_
                      show Steps p.tables e below (T173.setTop (mkF m 99 #[.val (.int p1), .val (.int p2), .val (.int (p2 &&& (7 : Int32))), .val (.int (p1.toUInt32.toUInt16.toUInt32.toInt32)), .val (.int (1 : Int32))] [])) _
                      refine XS.iconst X173.here hx rfl (hb hby at_99) ?_
                      show Steps p.tables e below (T173.setTop (mkF m 100 #[.val (.int p1), .val (.int p2), .val (.int (p2 &&& (7 : Int32))), .val (.int (p1.toUInt32.toUInt16.toUInt32.toInt32)), .val (.int (1 : Int32))] [(.int (1 : Int32))])) _
                      refine XS.goto X173.here hx rfl (pc0 := 100) (pc' := 104) rfl (hb hby at_100) (by decide) (by decide) ?_
                      exact k
                    obtain ⟨fs, hr, hrun, hended, hW, hsame⟩ := X173.leave (v := some (.int (1 : Int32))) (fun h => by rw [Bd.returns] at h; cases h)
                    refine ⟨_, _, pre181 _ ?_, hrun, hended, _, _, rfl, ?_, ⟨_, rfl⟩, hW, hsame.mono (by decide) (by decide)⟩
                    · show Steps p.tables e below (T173.setTop (mkF m 104 #[.val (.int p1), .val (.int p2), .val (.int (p2 &&& (7 : Int32))), .val (.int (p1.toUInt32.toUInt16.toUInt32.toInt32)), .val (.int (1 : Int32))] [(.int (1 : Int32))])) _
                      exact retN X173 hx (t := .boolean) Bd.returns (by simp) (hb hby at_104) hr
                    · show Q0 Z p1 p2 h0 n0 _ T173.heap _
                      rw [e173]
                      exact ⟨(by rw [F0, if_neg hc28, if_neg hc47, if_neg hc69, if_neg hc94, if_neg hc122, if_neg hc138, if_neg hc154, if_pos hc170, if_pos hc179]), N173, rfl⟩
                  · have pre182 : ∀ t, Steps p.tables e below (T173.setTop (mkF m 103 #[.val (.int p1), .val (.int p2), .val (.int (p2 &&& (7 : Int32))), .val (.int (p1.toUInt32.toUInt16.toUInt32.toInt32)), .val (.int (1 : Int32))] [])) t → Steps p.tables e below (s₁.setTop (entryFrame m #[(.int p1), (.int p2)] maxLocals)) t := by
                      intro t k
                      refine pre178 _ ?_
                      show Steps p.tables e below (T173.setTop (mkF m 96 #[.val (.int p1), .val (.int p2), .val (.int (p2 &&& (7 : Int32))), .val (.int (p1.toUInt32.toUInt16.toUInt32.toInt32)), .val (.int (1 : Int32))] [(.int (0 : Int32)), (.int (F1 (p1.toUInt32.toUInt16.toUInt32.toInt32)))])) _
                      refine XS.icmpYes X173.here hx rfl (pc0 := 96) (pc' := 103) rfl (hb hby at_96) rfl (feq hc179).2 (by decide) (by decide) ?_
                      exact k
                    have pre183 : ∀ t, Steps p.tables e below (T173.setTop (mkF m 104 #[.val (.int p1), .val (.int p2), .val (.int (p2 &&& (7 : Int32))), .val (.int (p1.toUInt32.toUInt16.toUInt32.toInt32)), .val (.int (1 : Int32))] [(.int (0 : Int32))])) t → Steps p.tables e below (s₁.setTop (entryFrame m #[(.int p1), (.int p2)] maxLocals)) t := by
                      intro t k
                      refine pre182 _ ?_
                      show Steps p.tables e below (T173.setTop (mkF m 103 #[.val (.int p1), .val (.int p2), .val (.int (p2 &&& (7 : Int32))), .val (.int (p1.toUInt32.toUInt16.toUInt32.toInt32)), .val (.int (1 : Int32))] [])) _
                      refine XS.iconst X173.here hx rfl (hb hby at_103) ?_
                      exact k
                    obtain ⟨fs, hr, hrun, hended, hW, hsame⟩ := X173.leave (v := some (.int (0 : Int32))) (fun h => by rw [Bd.returns] at h; cases h)
                    refine ⟨_, _, pre183 _ ?_, hrun, hended, _, _, rfl, ?_, ⟨_, rfl⟩, hW, hsame.mono (by decide) (by decide)⟩
                    · show Steps p.tables e below (T173.setTop (mkF m 104 #[.val (.int p1), .val (.int p2), .val (.int (p2 &&& (7 : Int32))), .val (.int (p1.toUInt32.toUInt16.toUInt32.toInt32)), .val (.int (1 : Int32))] [(.int (0 : Int32))])) _
                      exact retN X173 hx (t := .boolean) Bd.returns (by simp) (hb hby at_104) hr
                    · show Q0 Z p1 p2 h0 n0 _ T173.heap _
                      rw [e173]
                      exact ⟨(by rw [F0, if_neg hc28, if_neg hc47, if_neg hc69, if_neg hc94, if_neg hc122, if_neg hc138, if_neg hc154, if_pos hc170, if_neg hc179]), N173, rfl⟩
                · have pre184 : ∀ t, Steps p.tables e below (s₁.setTop (mkF m 79 #[.val (.int p1), .val (.int p2), .val (.int (p2 &&& (7 : Int32))), .val (.int (p1.toUInt32.toUInt16.toUInt32.toInt32)), .unset] [])) t → Steps p.tables e below (s₁.setTop (entryFrame m #[(.int p1), (.int p2)] maxLocals)) t := by
                    intro t k
                    refine pre169 _ ?_
                    show Steps p.tables e below (s₁.setTop (mkF m 72 #[.val (.int p1), .val (.int p2), .val (.int (p2 &&& (7 : Int32))), .val (.int (p1.toUInt32.toUInt16.toUInt32.toInt32)), .unset] [(.int (13 : Int32)), (.int (p1.toUInt32.toUInt16.toUInt32.toInt32))])) _
                    refine XS.icmpYes X0.here hx rfl (pc0 := 72) (pc' := 79) rfl (hb hby at_72) rfl (feq hc170).2 (by decide) (by decide) ?_
                    exact k
                  have pre185 : ∀ t, Steps p.tables e below (s₁.setTop (mkF m 83 #[.val (.int p1), .val (.int p2), .val (.int (p2 &&& (7 : Int32))), .val (.int (p1.toUInt32.toUInt16.toUInt32.toInt32)), .val (.int (0 : Int32))] [(.int (p1.toUInt32.toUInt16.toUInt32.toInt32))])) t → Steps p.tables e below (s₁.setTop (entryFrame m #[(.int p1), (.int p2)] maxLocals)) t := by
                    intro t k
                    refine pre184 _ ?_
                    show Steps p.tables e below (s₁.setTop (mkF m 79 #[.val (.int p1), .val (.int p2), .val (.int (p2 &&& (7 : Int32))), .val (.int (p1.toUInt32.toUInt16.toUInt32.toInt32)), .unset] [])) _
                    refine XS.iconst X0.here hx rfl (hb hby at_79) ?_
                    show Steps p.tables e below (s₁.setTop (mkF m 80 #[.val (.int p1), .val (.int p2), .val (.int (p2 &&& (7 : Int32))), .val (.int (p1.toUInt32.toUInt16.toUInt32.toInt32)), .unset] [(.int (0 : Int32))])) _
                    refine XS.istore X0.here hx rfl (hb hby at_80) rfl (l' := #[.val (.int p1), .val (.int p2), .val (.int (p2 &&& (7 : Int32))), .val (.int (p1.toUInt32.toUInt16.toUInt32.toInt32)), .val (.int (0 : Int32))]) rfl ?_
                    show Steps p.tables e below (s₁.setTop (mkF m 82 #[.val (.int p1), .val (.int p2), .val (.int (p2 &&& (7 : Int32))), .val (.int (p1.toUInt32.toUInt16.toUInt32.toInt32)), .val (.int (0 : Int32))] [])) _
                    refine XS.iloadN X0.here hx rfl (hb hby at_82) rfl ?_
                    exact k
                  obtain ⟨_, _, ⟨T186, L186, k186, n186⟩, -, X186, ⟨Lc186, hQ186, l186, y186, z186⟩, st186⟩ := Jvm.LawKit.callS X0 hx (y := (⟨"com/example/matchbook/matchbook/CsvReader", "plain", "(C)Z"⟩ : MethodName)) hown (mvT hZ (hw _ (List.mem_of_getElem? (i := 0) rfl))) (mvT hZ (hw _ (List.mem_of_getElem? (i := 1) rfl))) (mvT hZ (hw _ (List.mem_of_getElem? (i := 2) rfl))) (mvT hZ (hw _ (List.mem_of_getElem? (i := 3) rfl))) (by decide) (backOf (W := 0) (rm1 l Z a0 hw [] (p1.toUInt32.toUInt16.toUInt32.toInt32) h0 n0 Z0 ) hZ (hw _ (List.mem_of_getElem? (i := 3) rfl)) (hw _ (List.mem_of_getElem? (i := 2) rfl)) (by decide) (by decide)) (g := (mkF m 83 #[.val (.int p1), .val (.int p2), .val (.int (p2 &&& (7 : Int32))), .val (.int (p1.toUInt32.toUInt16.toUInt32.toInt32)), .val (.int (0 : Int32))] [(.int (p1.toUInt32.toUInt16.toUInt32.toInt32))])) rfl (by rw [hml]; rfl) (argsL := [(.int (p1.toUInt32.toUInt16.toUInt32.toInt32))]) (rest := []) (lenOf pd__C_Z rfl) rfl (by show 2 * 0 + _ ≤ _; exact Nat.le_of_eq rfl) (hb hby at_83) (fun _ _ => ⟨rfl, e0, (by decide : 0 + 0 ≤ _), (by decide : 0 + 0 ≤ _)⟩)
                  dsimp only [Pt.U, Pt.locs, Pt.cells, Pt.slots] at X186 l186 y186 z186 st186 hQ186
                  subst l186 y186 z186
                  obtain ⟨rfl, N186q, e186⟩ := hQ186
                  have N186 := Fr.app N0 N186q
                  have pre187 : ∀ t, Steps p.tables e below (T186.setTop (mkF m 86 #[.val (.int p1), .val (.int p2), .val (.int (p2 &&& (7 : Int32))), .val (.int (p1.toUInt32.toUInt16.toUInt32.toInt32)), .val (.int (0 : Int32))] [(.int (F1 (p1.toUInt32.toUInt16.toUInt32.toInt32)))])) t → Steps p.tables e below (s₁.setTop (entryFrame m #[(.int p1), (.int p2)] maxLocals)) t := by
                    intro t k
                    refine pre185 _ ?_
                    show Steps p.tables e below (s₁.setTop (mkF m 83 #[.val (.int p1), .val (.int p2), .val (.int (p2 &&& (7 : Int32))), .val (.int (p1.toUInt32.toUInt16.toUInt32.toInt32)), .val (.int (0 : Int32))] [(.int (p1.toUInt32.toUInt16.toUInt32.toInt32))])) _
                    refine st186 _ ?_
                    exact k
                  have pre188 : ∀ t, Steps p.tables e below (T186.setTop (mkF m 88 #[.val (.int p1), .val (.int p2), .val (.int (p2 &&& (7 : Int32))), .val (.int (p1.toUInt32.toUInt16.toUInt32.toInt32)), .val (.int (0 : Int32))] [(.int (0 : Int32)), (.int (F1 (p1.toUInt32.toUInt16.toUInt32.toInt32)))])) t → Steps p.tables e below (s₁.setTop (entryFrame m #[(.int p1), (.int p2)] maxLocals)) t := by
                    intro t k
                    refine pre187 _ ?_
                    show Steps p.tables e below (T186.setTop (mkF m 86 #[.val (.int p1), .val (.int p2), .val (.int (p2 &&& (7 : Int32))), .val (.int (p1.toUInt32.toUInt16.toUInt32.toInt32)), .val (.int (0 : Int32))] [(.int (F1 (p1.toUInt32.toUInt16.toUInt32.toInt32)))])) _
                    refine XS.iload X186.here hx rfl (hb hby at_86) rfl ?_
                    exact k
                  have pre190 : ∀ t, Steps p.tables e below (T186.setTop (mkF m 91 #[.val (.int p1), .val (.int p2), .val (.int (p2 &&& (7 : Int32))), .val (.int (p1.toUInt32.toUInt16.toUInt32.toInt32)), .val (.int (0 : Int32))] [(.int (F1 (p1.toUInt32.toUInt16.toUInt32.toInt32)))])) t → Steps p.tables e below (s₁.setTop (entryFrame m #[(.int p1), (.int p2)] maxLocals)) t := by
                    intro t k
                    refine pre188 _ ?_
                    show Steps p.tables e below (T186.setTop (mkF m 88 #[.val (.int p1), .val (.int p2), .val (.int (p2 &&& (7 : Int32))), .val (.int (p1.toUInt32.toUInt16.toUInt32.toInt32)), .val (.int (0 : Int32))] [(.int (0 : Int32)), (.int (F1 (p1.toUInt32.toUInt16.toUInt32.toInt32)))])) _
                    refine XS.ifNo X186.here hx rfl (hb hby at_88) rfl ((if0 _ _).trans (teq (by decide : (0 : Int32) = (0 : Int32))).2) ?_
                    exact k
                  have pre191 : ∀ t, Steps p.tables e below (T186.setTop (mkF m 96 #[.val (.int p1), .val (.int p2), .val (.int (p2 &&& (7 : Int32))), .val (.int (p1.toUInt32.toUInt16.toUInt32.toInt32)), .val (.int (0 : Int32))] [(.int (1 : Int32)), (.int (F1 (p1.toUInt32.toUInt16.toUInt32.toInt32)))])) t → Steps p.tables e below (s₁.setTop (entryFrame m #[(.int p1), (.int p2)] maxLocals)) t := by
                    intro t k
                    refine pre190 _ ?_
                    show Steps p.tables e below (T186.setTop (mkF m 91 #[.val (.int p1), .val (.int p2), .val (.int (p2 &&& (7 : Int32))), .val (.int (p1.toUInt32.toUInt16.toUInt32.toInt32)), .val (.int (0 : Int32))] [(.int (F1 (p1.toUInt32.toUInt16.toUInt32.toInt32)))])) _
                    refine XS.iconst X186.here hx rfl (hb hby at_91) ?_
                    show Steps p.tables e below (T186.setTop (mkF m 92 #[.val (.int p1), .val (.int p2), .val (.int (p2 &&& (7 : Int32))), .val (.int (p1.toUInt32.toUInt16.toUInt32.toInt32)), .val (.int (0 : Int32))] [(.int (1 : Int32)), (.int (F1 (p1.toUInt32.toUInt16.toUInt32.toInt32)))])) _
                    refine XS.goto X186.here hx rfl (pc0 := 92) (pc' := 96) rfl (hb hby at_92) (by decide) (by decide) ?_
                    exact k
                  by_cases hc192 : (F1 (p1.toUInt32.toUInt16.toUInt32.toInt32)) = (1 : Int32)
                  · have pre193 : ∀ t, Steps p.tables e below (T186.setTop (mkF m 99 #[.val (.int p1), .val (.int p2), .val (.int (p2 &&& (7 : Int32))), .val (.int (p1.toUInt32.toUInt16.toUInt32.toInt32)), .val (.int (0 : Int32))] [])) t → Steps p.tables e below (s₁.setTop (entryFrame m #[(.int p1), (.int p2)] maxLocals)) t := by
                      intro t k
                      refine pre191 _ ?_
                      show Steps p.tables e below (T186.setTop (mkF m 96 #[.val (.int p1), .val (.int p2), .val (.int (p2 &&& (7 : Int32))), .val (.int (p1.toUInt32.toUInt16.toUInt32.toInt32)), .val (.int (0 : Int32))] [(.int (1 : Int32)), (.int (F1 (p1.toUInt32.toUInt16.toUInt32.toInt32)))])) _
                      refine XS.icmpNo X186.here hx rfl (hb hby at_96) rfl (teq hc192).2 ?_
                      exact k
                    have pre194 : ∀ t, Steps p.tables e below (T186.setTop (mkF m 104 #[.val (.int p1), .val (.int p2), .val (.int (p2 &&& (7 : Int32))), .val (.int (p1.toUInt32.toUInt16.toUInt32.toInt32)), .val (.int (0 : Int32))] [(.int (1 : Int32))])) t → Steps p.tables e below (s₁.setTop (entryFrame m #[(.int p1), (.int p2)] maxLocals)) t := by
                      intro t k
                      refine pre193 _ ?_
                      show Steps p.tables e below (T186.setTop (mkF m 99 #[.val (.int p1), .val (.int p2), .val (.int (p2 &&& (7 : Int32))), .val (.int (p1.toUInt32.toUInt16.toUInt32.toInt32)), .val (.int (0 : Int32))] [])) _
                      refine XS.iconst X186.here hx rfl (hb hby at_99) ?_
                      show Steps p.tables e below (T186.setTop (mkF m 100 #[.val (.int p1), .val (.int p2), .val (.int (p2 &&& (7 : Int32))), .val (.int (p1.toUInt32.toUInt16.toUInt32.toInt32)), .val (.int (0 : Int32))] [(.int (1 : Int32))])) _
                      refine XS.goto X186.here hx rfl (pc0 := 100) (pc' := 104) rfl (hb hby at_100) (by decide) (by decide) ?_
                      exact k
                    obtain ⟨fs, hr, hrun, hended, hW, hsame⟩ := X186.leave (v := some (.int (1 : Int32))) (fun h => by rw [Bd.returns] at h; cases h)
                    refine ⟨_, _, pre194 _ ?_, hrun, hended, _, _, rfl, ?_, ⟨_, rfl⟩, hW, hsame.mono (by decide) (by decide)⟩
                    · show Steps p.tables e below (T186.setTop (mkF m 104 #[.val (.int p1), .val (.int p2), .val (.int (p2 &&& (7 : Int32))), .val (.int (p1.toUInt32.toUInt16.toUInt32.toInt32)), .val (.int (0 : Int32))] [(.int (1 : Int32))])) _
                      exact retN X186 hx (t := .boolean) Bd.returns (by simp) (hb hby at_104) hr
                    · show Q0 Z p1 p2 h0 n0 _ T186.heap _
                      rw [e186]
                      exact ⟨(by rw [F0, if_neg hc28, if_neg hc47, if_neg hc69, if_neg hc94, if_neg hc122, if_neg hc138, if_neg hc154, if_neg hc170, if_pos hc192]), N186, rfl⟩
                  · have pre195 : ∀ t, Steps p.tables e below (T186.setTop (mkF m 103 #[.val (.int p1), .val (.int p2), .val (.int (p2 &&& (7 : Int32))), .val (.int (p1.toUInt32.toUInt16.toUInt32.toInt32)), .val (.int (0 : Int32))] [])) t → Steps p.tables e below (s₁.setTop (entryFrame m #[(.int p1), (.int p2)] maxLocals)) t := by
                      intro t k
                      refine pre191 _ ?_
                      show Steps p.tables e below (T186.setTop (mkF m 96 #[.val (.int p1), .val (.int p2), .val (.int (p2 &&& (7 : Int32))), .val (.int (p1.toUInt32.toUInt16.toUInt32.toInt32)), .val (.int (0 : Int32))] [(.int (1 : Int32)), (.int (F1 (p1.toUInt32.toUInt16.toUInt32.toInt32)))])) _
                      refine XS.icmpYes X186.here hx rfl (pc0 := 96) (pc' := 103) rfl (hb hby at_96) rfl (feq hc192).2 (by decide) (by decide) ?_
                      exact k
                    have pre196 : ∀ t, Steps p.tables e below (T186.setTop (mkF m 104 #[.val (.int p1), .val (.int p2), .val (.int (p2 &&& (7 : Int32))), .val (.int (p1.toUInt32.toUInt16.toUInt32.toInt32)), .val (.int (0 : Int32))] [(.int (0 : Int32))])) t → Steps p.tables e below (s₁.setTop (entryFrame m #[(.int p1), (.int p2)] maxLocals)) t := by
                      intro t k
                      refine pre195 _ ?_
                      show Steps p.tables e below (T186.setTop (mkF m 103 #[.val (.int p1), .val (.int p2), .val (.int (p2 &&& (7 : Int32))), .val (.int (p1.toUInt32.toUInt16.toUInt32.toInt32)), .val (.int (0 : Int32))] [])) _
                      refine XS.iconst X186.here hx rfl (hb hby at_103) ?_
                      exact k
                    obtain ⟨fs, hr, hrun, hended, hW, hsame⟩ := X186.leave (v := some (.int (0 : Int32))) (fun h => by rw [Bd.returns] at h; cases h)
                    refine ⟨_, _, pre196 _ ?_, hrun, hended, _, _, rfl, ?_, ⟨_, rfl⟩, hW, hsame.mono (by decide) (by decide)⟩
                    · show Steps p.tables e below (T186.setTop (mkF m 104 #[.val (.int p1), .val (.int p2), .val (.int (p2 &&& (7 : Int32))), .val (.int (p1.toUInt32.toUInt16.toUInt32.toInt32)), .val (.int (0 : Int32))] [(.int (0 : Int32))])) _
                      exact retN X186 hx (t := .boolean) Bd.returns (by simp) (hb hby at_104) hr
                    · show Q0 Z p1 p2 h0 n0 _ T186.heap _
                      rw [e186]
                      exact ⟨(by rw [F0, if_neg hc28, if_neg hc47, if_neg hc69, if_neg hc94, if_neg hc122, if_neg hc138, if_neg hc154, if_neg hc170, if_neg hc192]), N186, rfl⟩
theorem plain0 (p1 p2 : Int32) : F0 p1 p2 = 1 := by
  have ec := c_i2c p1
  unfold F0
  generalize p1.toUInt32.toUInt16.toUInt32.toInt32 = z at *
  have k1 : F1 44 = 0 := by decide
  have k2 : F1 34 = 0 := by decide
  have k3 : F1 10 = 0 := by decide
  have k4 : F1 13 = 0 := by decide
  have k5 : ¬ z = 44 → ¬ z = 34 → ¬ z = 10 → ¬ z = 13 → F1 z = 1 := by
    intro a b c d
    unfold F1
    rw [if_neg a, if_neg b, if_neg c, if_neg d]
    split <;> rfl
  repeat' split
  all_goals first
    | rfl
    | (exfalso; simp_all; done)
set_option maxRecDepth 65536 in
set_option maxHeartbeats 40000000 in
theorem comes_1 {Post : Tables → Env → Array Value → State → Outcome → State → Prop} (hpost : ∀ tb e args s v u, (limb_1_1.after args s (.returned v) u = true ∧ limb_1_2.after args s (.returned v) u = true ∧ True) → FrameEnd s (.returned v) u (Jvm.fieldLocs frame_1_writes args s ++ Jvm.arrayLocs frame_1_arrays args s ++ Jvm.staticLocs frame_1_statics s) 0 0 → Post tb e args s (.returned v) u) :
    ArmFor flags0 classFile x code maxLocals ret World_1 tables_1 room_1 Calls_1 rest_1 Pre_1 Post := by
  intro l hfl _ _ p e ha hc hk s m args below hf hA hF happ hP
  obtain ⟨hcalls, hrest, hpre⟩ := hP
  obtain ⟨-, -, -, hnamed, -, -, -, hat⟩ := (Spec.applies_iff hf).mp happ
  obtain ⟨hg, hn⟩ := and_e (Cond.before_iff.mp (show (Jvm.Cond.and given_1 narrow_1).before args s = true from hpre))
  obtain ⟨g197, g198⟩ := and_e hg
  obtain ⟨g199, g200⟩ := and_e g198
  obtain ⟨w0, w1, rfl⟩ : ∃ w0 w1 : Value, args = #[w0, w1] := by
    have hs : args.size = 2 := by simpa [Cond.value, given_1] using g197
    obtain ⟨L⟩ := args
    match L, hs with
    | [w0, w1], _ => exact ⟨w0, w1, rfl⟩
  have hw := fun d (hd : d ∈ tables_1) => atoms_spec (ws := Jvm.Cond.code x code maxLocals ret :: tables_1) hat d (List.mem_cons_of_mem _ hd)
  have hfit : Fit s := fun {y c} hc i hi => by
    obtain ⟨ha, rfl⟩ := Array.getElem?_eq_some_iff.mp hc
    have q := List.all_eq_true.mp ((Array.all_eq_true_iff_forall_mem.mp hF) _ (Array.getElem_mem ha)) i (List.mem_range.mpr hi)
    simpa [Array.getElem?_eq_getElem hi] using q
  obtain ⟨i0, ei0⟩ := is_v g199
  obtain rfl : w0 = (.int i0) := Option.some.inj ei0
  obtain ⟨i1, ei1⟩ := is_v g200
  obtain rfl : w1 = (.int i1) := Option.some.inj ei1
  obtain ⟨n, o, h1, h2, h3, v, L, rfl, ⟨hv, N, -⟩, hq⟩ := rm0 l s _ hw tables_1 i0 i1  s.heap s.heap.size (Nat.le_refl _)  p e ha hc hk s m _ below hf ((Spec.applies_iff_loose hf).mp happ).1 ⟨rfl, State.Warmed39.refl s, rfl⟩ trivial
  rw [plain0] at hv
  subst hv
  refine ⟨n, _, h1, h2, h3, hpost _ _ _ _ _ _ ⟨Cond.after_iff.mpr rfl, Cond.after_iff.mpr (eq_i res_at (Term.int_eval (1)) rfl), trivial⟩ ⟨hq.1, hq.2.1, (hq.2.2.sift fun y hy => Or.inr (N y hy)).mono (by decide) (by decide)⟩⟩
theorem main_1_1 : Claimed_1_1 := comes_1 fun _ _ _ _ _ _ h hF => ⟨h.1, hF⟩
theorem main_1_2 : Claimed_1_2 := comes_1 fun _ _ _ _ _ _ h hF => ⟨h.2.1, hF⟩
end Jvm.Pilot.@@N@@
namespace Jvm.Pilot.@@N@@
open Jvm Jvm.ClassFile Sem Op Lib Jvm.Free Jvm.Stand Jvm.Pilot.@@N@@.Jvm.D
/-! MADE BY PROGRAM (witnessworld.py) out of the Statement's table words and the real class files: 9 classes; the members and pool entries that the words name. The judged class is class 1, her method 1. -/
namespace start1
open Jvm.ClassFile
def u (s : String) : CpInfo := .utf8 (stringToUtf16 s)
/-- a pool by its gaps: so many unusable entries, then the entry; so many at the end -/
def gap : Nat → List CpInfo → List CpInfo
  | 0, r => r
  | n + 1, r => .unusable :: gap n r
def poolList (es : List (Nat × CpInfo)) (last : Nat) : List CpInfo := es.foldr (fun e r => gap e.1 (e.2 :: r)) (gap last [])
def pool (es : List (Nat × CpInfo)) (last : Nat) : Array CpInfo := ⟨poolList es last⟩
def fileOf (pool : Array CpInfo) (this : Nat) (attrs : Array Attribute := #[]) (ms : Array MethodInfo := #[]) (fl : Nat := 33) (sup : Nat := 0) (ifs : Array Nat := #[]) (fds : Array FieldInfo := #[]) : ClassFile where
  minorVersion := 0
  majorVersion := 65
  constantPool := pool
  accessFlags := fl
  thisClass := this
  superClass := sup
  interfaces := ifs
  fields := fds
  methods := ms
  attributes := attrs
def plain (name : String) (sup : Option ClassId) : Class where
  name := name
  kind := .ordinary
  loader := none
  accessFlags := 33
  super := sup
  interfaces := #[]
  cf := none
  fields := #[]
  methods := #[]
  instanceTypes := #[]
  staticTypes := #[]
  resolved := #[]
  callSites := []
  init := .initialized
  statics := none
  mirror := none

def pool0 : Array CpInfo := pool [(5, u "<init>"), (0, u "()V"), (1, .class_ 10), (1, u "java/lang/Object")] 113

def k0m0 : Method := { name := "<init>", desc := "()V", sig := { parameters := [], returnType := none }, accessFlags := 1, code := none }
/-- java/lang/Object -/
def k0 : Class := { plain "java/lang/Object" none with
  accessFlags := 33
  interfaces := #[]
  cf := some (fileOf pool0 8 #[] #[{ accessFlags := 1, nameIndex := 5, descriptorIndex := 6, attributes := #[] }] 33 0 #[] #[])
  fields := #[]
  methods := #[k0m0]
  instanceTypes := #[]
  staticTypes := #[]
  resolved := Array.replicate 124 none
  statics := none }

def pool1 : Array CpInfo := pool [(2, .class_ 4), (1, u "java/lang/Object"), (0, u "<init>"), (0, u "()V"), (0, .methodref 8 9), (0, .class_ 10), (0, .nameAndType 11 12), (0, u "com/example/matchbook/matchbook/CsvReader"), (0, u "plain"), (0, u "(C)Z"), (0, .class_ 14), (0, u "com/example/matchbook/matchbook/CsvReaderPlainPinLaw"), (2, u "law"), (0, u "(II)Z")] 3

def k1m0 : Method := { name := "<init>", desc := "()V", sig := { parameters := [], returnType := none }, accessFlags := 2, code := none }
def k1c1 : Code := { maxStack := 2, maxLocals := 5, code := code, exceptionTable := #[], attributes := #[] }
def k1m1 : Method := { name := "law", desc := "(II)Z", sig := { parameters := [.int, .int], returnType := some .boolean }, accessFlags := 9, code := some k1c1 }
/-- com/example/matchbook/matchbook/CsvReaderPlainPinLaw -/
def k1 : Class := { plain "com/example/matchbook/matchbook/CsvReaderPlainPinLaw" (some 0) with
  accessFlags := 49
  interfaces := #[]
  cf := some (fileOf pool1 13 #[] #[{ accessFlags := 2, nameIndex := 5, descriptorIndex := 6, attributes := #[] }, { accessFlags := 9, nameIndex := 17, descriptorIndex := 18, attributes := #[] }] 49 2 #[] #[])
  fields := #[]
  methods := #[k1m0, k1m1]
  instanceTypes := #[]
  staticTypes := #[]
  resolved := Array.replicate 22 none
  statics := none }

def pool2 : Array CpInfo := pool [(1, .class_ 2), (0, u "java/lang/AutoCloseable"), (0, .class_ 4), (0, u "java/lang/Object")] 7

/-- java/lang/AutoCloseable -/
def k2 : Class := { plain "java/lang/AutoCloseable" (some 0) with
  accessFlags := 1537
  interfaces := #[]
  cf := some (fileOf pool2 1 #[] #[] 1537 3 #[] #[])
  fields := #[]
  methods := #[]
  instanceTypes := #[]
  staticTypes := #[]
  resolved := Array.replicate 12 none
  statics := none }

def pool3 : Array CpInfo := pool [(1, .class_ 2), (0, u "java/io/Closeable"), (0, .class_ 4), (0, u "java/lang/Object"), (0, .class_ 6), (0, u "java/lang/AutoCloseable")] 7

/-- java/io/Closeable -/
def k3 : Class := { plain "java/io/Closeable" (some 0) with
  accessFlags := 1537
  interfaces := #[2]
  cf := some (fileOf pool3 1 #[] #[] 1537 3 #[5] #[])
  fields := #[]
  methods := #[]
  instanceTypes := #[]
  staticTypes := #[]
  resolved := Array.replicate 14 none
  statics := none }

def pool4 : Array CpInfo := pool [(2, .class_ 4), (1, u "java/lang/Object"), (4, .class_ 11), (1, u "com/example/matchbook/matchbook/CsvReader"), (0, u "buffer"), (0, u "[C"), (5, u "field"), (0, u "Ljava/lang/StringBuilder;"), (2, u "runStart"), (0, u "I"), (5, u "fields"), (0, u "Ljava/util/List;"), (5, u "firstLines"), (0, u "Ljava/util/Map;"), (2, u "currentLine"), (2, u "file"), (0, u "Ljava/nio/file/Path;"), (2, u "bytes"), (0, u "Ljava/io/InputStream;"), (19, u "in"), (0, u "Ljava/io/Reader;"), (32, u "position"), (6, u "line"), (13, u "header"), (0, u "Lcom/example/matchbook/matchbook/Header;"), (4, u "recent"), (0, u "[Ljava/lang/String;"), (140, u "limit"), (2, u "plain"), (0, u "(C)Z"), (2, u "runEnd"), (2, u "runHash"), (38, .class_ 322), (0, u "java/io/Closeable"), (0, u "END"), (2, u "NO_RUN"), (0, u "RECENT_BITS")] 62

def k4c0 : Code := { maxStack := 2, maxLocals := 1, code := prog_3_method_14_code, exceptionTable := #[], attributes := #[] }
def k4m0 : Method := { name := "plain", desc := "(C)Z", sig := { parameters := [.char], returnType := some .boolean }, accessFlags := 8, code := some k4c0 }
/-- com/example/matchbook/matchbook/CsvReader -/
def k4 : Class := { plain "com/example/matchbook/matchbook/CsvReader" (some 0) with
  accessFlags := 48
  interfaces := #[3]
  cf := some (fileOf pool4 9 #[] #[{ accessFlags := 8, nameIndex := 275, descriptorIndex := 276, attributes := #[] }] 48 2 #[321] #[{ accessFlags := 26, nameIndex := 323, descriptorIndex := 24, attributes := #[] }, { accessFlags := 26, nameIndex := 326, descriptorIndex := 24, attributes := #[] }, { accessFlags := 26, nameIndex := 327, descriptorIndex := 24, attributes := #[] }, { accessFlags := 18, nameIndex := 44, descriptorIndex := 45, attributes := #[] }, { accessFlags := 18, nameIndex := 48, descriptorIndex := 49, attributes := #[] }, { accessFlags := 18, nameIndex := 69, descriptorIndex := 70, attributes := #[] }, { accessFlags := 18, nameIndex := 12, descriptorIndex := 13, attributes := #[] }, { accessFlags := 2, nameIndex := 103, descriptorIndex := 24, attributes := #[] }, { accessFlags := 2, nameIndex := 272, descriptorIndex := 24, attributes := #[] }, { accessFlags := 18, nameIndex := 19, descriptorIndex := 20, attributes := #[] }, { accessFlags := 2, nameIndex := 23, descriptorIndex := 24, attributes := #[] }, { accessFlags := 2, nameIndex := 279, descriptorIndex := 24, attributes := #[] }, { accessFlags := 2, nameIndex := 282, descriptorIndex := 24, attributes := #[] }, { accessFlags := 2, nameIndex := 130, descriptorIndex := 131, attributes := #[] }, { accessFlags := 18, nameIndex := 30, descriptorIndex := 31, attributes := #[] }, { accessFlags := 2, nameIndex := 124, descriptorIndex := 125, attributes := #[] }, { accessFlags := 18, nameIndex := 37, descriptorIndex := 38, attributes := #[] }, { accessFlags := 2, nameIndex := 110, descriptorIndex := 24, attributes := #[] }, { accessFlags := 2, nameIndex := 41, descriptorIndex := 24, attributes := #[] }])
  fields := #[{ name := "END", type := .int, accessFlags := 26, slot := 0, constantValue := 0 }, { name := "NO_RUN", type := .int, accessFlags := 26, slot := 1, constantValue := 0 }, { name := "RECENT_BITS", type := .int, accessFlags := 26, slot := 2, constantValue := 0 }, { name := "file", type := (.object "java/nio/file/Path"), accessFlags := 18, slot := 0, constantValue := 0 }, { name := "bytes", type := (.object "java/io/InputStream"), accessFlags := 18, slot := 1, constantValue := 0 }, { name := "in", type := (.object "java/io/Reader"), accessFlags := 18, slot := 2, constantValue := 0 }, { name := "buffer", type := (.array .char), accessFlags := 18, slot := 3, constantValue := 0 }, { name := "position", type := .int, accessFlags := 2, slot := 4, constantValue := 0 }, { name := "limit", type := .int, accessFlags := 2, slot := 5, constantValue := 0 }, { name := "field", type := (.object "java/lang/StringBuilder"), accessFlags := 18, slot := 6, constantValue := 0 }, { name := "runStart", type := .int, accessFlags := 2, slot := 7, constantValue := 0 }, { name := "runEnd", type := .int, accessFlags := 2, slot := 8, constantValue := 0 }, { name := "runHash", type := .int, accessFlags := 2, slot := 9, constantValue := 0 }, { name := "recent", type := (.array (.object "java/lang/String")), accessFlags := 2, slot := 10, constantValue := 0 }, { name := "fields", type := (.object "java/util/List"), accessFlags := 18, slot := 11, constantValue := 0 }, { name := "header", type := (.object "com/example/matchbook/matchbook/Header"), accessFlags := 2, slot := 12, constantValue := 0 }, { name := "firstLines", type := (.object "java/util/Map"), accessFlags := 18, slot := 13, constantValue := 0 }, { name := "line", type := .int, accessFlags := 2, slot := 14, constantValue := 0 }, { name := "currentLine", type := .int, accessFlags := 2, slot := 15, constantValue := 0 }]
  methods := #[k4m0]
  instanceTypes := #[(.object "java/nio/file/Path"), (.object "java/io/InputStream"), (.object "java/io/Reader"), (.array .char), .int, .int, (.object "java/lang/StringBuilder"), .int, .int, .int, (.array (.object "java/lang/String")), (.object "java/util/List"), (.object "com/example/matchbook/matchbook/Header"), (.object "java/util/Map"), .int, .int]
  staticTypes := #[.int, .int, .int]
  resolved := Array.replicate 390 none
  statics := none }

def pool5 : Array CpInfo := pool [(1, u "java/lang/Cloneable"), (0, .class_ 1), (0, u "java/lang/Object"), (0, .class_ 3)] 3

/-- java/lang/Cloneable -/
def k5 : Class := { plain "java/lang/Cloneable" (some 0) with
  accessFlags := 1537
  interfaces := #[]
  cf := some (fileOf pool5 2 #[] #[] 1537 4 #[] #[])
  fields := #[]
  methods := #[]
  instanceTypes := #[]
  staticTypes := #[]
  resolved := Array.replicate 8 none
  statics := none }

def pool6 : Array CpInfo := pool [(1, u "java/io/Serializable"), (0, .class_ 1), (0, u "java/lang/Object"), (0, .class_ 3)] 3

/-- java/io/Serializable -/
def k6 : Class := { plain "java/io/Serializable" (some 0) with
  accessFlags := 1537
  interfaces := #[]
  cf := some (fileOf pool6 2 #[] #[] 1537 4 #[] #[])
  fields := #[]
  methods := #[]
  instanceTypes := #[]
  staticTypes := #[]
  resolved := Array.replicate 8 none
  statics := none }

/-- the primitive byte -/
def k7 : Class := { plain "byte" none with kind := .primitive 'B', accessFlags := 0x411 }
/-- [B -/
def k8 : Class := { plain "[B" (some 0) with kind := .array 7 .byte, interfaces := #[5, 6], accessFlags := 1041 }

def heap : Heap := #[]
def classes : Array Class := #[k0, k1, k2, k3, k4, k5, k6, k7, k8]
def interned : List (Array UInt16 × Addr) := []
def slotsUsed : Nat := 0
def theMethod : MethodId := ⟨1, 1⟩
def args0 : Array Value := #[.int 5, .int 7]
def aboutOver (below : List Frame) : State where
  vm := { classes := classes, interned := interned.toArray }
  heap := heap
  slotsUsed := slotsUsed
  threads := #[{ frames := .invoking theMethod args0 :: below }]
def below0 : List Frame := [.native { method := ⟨0, 0⟩, args := #[] }]
def about1 : State := aboutOver below0
def p0 : Program := .bare "" "" ""
def e0 : Env := launch0.env 0 0 0
theorem w_frames : about1.frames = Frame.invoking theMethod args0 :: below0 := rfl
set_option maxRecDepth 65536 in
theorem w_args : argsFit about1.vm theMethod args0 = true := by decide +kernel
set_option maxRecDepth 65536 in
theorem w_heap : heapFits about1 = true := by decide +kernel
set_option maxRecDepth 65536 in
theorem w_runnable : about1.curStatus? = some .runnable := by decide +kernel
set_option maxRecDepth 65536 in
theorem w_alone : about1.alone = true := by decide +kernel
set_option maxRecDepth 65536 in
theorem w_named : about1.methodNamed? x = some theMethod := by decide +kernel
set_option maxRecDepth 65536 in
theorem w_hears : about1.hears theMethod below0 = true := by decide +kernel
set_option maxRecDepth 65536 in
theorem w_ripe : about1.ripe theMethod args0 below0 = true := by decide +kernel
theorem w_running : about1.status = .running := rfl
set_option maxRecDepth 65536 in
theorem w_room : about1.hasRoom e0.platform room_1 = true :=
  launch0.hasRoom_least _ room_1 (by decide +kernel) (by decide +kernel) (by decide +kernel) (by decide +kernel) (by decide +kernel) (by decide +kernel)
theorem allAtoms_all (ts : List Jvm.Cond) (a : Array Jvm.Value) (st : Jvm.State) : (allAtoms ts).before a st = ts.all (fun c => c.before a st) := by
  induction ts with
  | nil => rfl
  | cons c t ih =>
    show (Jvm.Cond.and c (allAtoms t)).before a st = _
    rw [Jvm.Cond.before_and, ih, List.all_cons]
def words1 : List Jvm.Cond := Jvm.Cond.code x code maxLocals ret :: tables_1
/-- a 'code' word, met by the world's own term for the bytes: nothing is compared byte by byte -/
theorem code_word {y : MethodName} {bytes : ByteArray} {mx : Nat} {rt : Option FieldType} {a : Array Value} {s : State} {m : MethodId} {meth : Method} {c : Code} (h1 : s.methodNamed? y = some m) (h2 : s.vm.method? m = some meth) (h3 : meth.code = some c) (h4 : c.code = bytes)
    (h5 : (c.maxLocals == mx && c.exceptionTable.isEmpty && decide (c.maxStack ≤ mostOperands) && decide (meth.sig.returnType = rt) && !meth.locks && decide (parseMethodDescriptor y.desc = some meth.sig)) = true) : (Jvm.Cond.code y bytes mx rt).before a s = true := by
  simp only [Bool.and_eq_true, beq_iff_eq, Bool.not_eq_true', decide_eq_true_eq] at h5
  obtain ⟨⟨⟨⟨⟨g1, g2⟩, g3⟩, g4⟩, g5⟩, g6⟩ := h5
  simp [Cond.before, Cond.holds, Cond.value, h1, h2, h3, h4, g1, g2, g3, g4, g5, g6]
def isCode : Jvm.Cond → Bool
  | .code _ _ _ _ => true
  | _ => false
theorem all_split {L : List Jvm.Cond} {P : Jvm.Cond → Bool} (h1 : L.all (fun c => isCode c || P c) = true) (h2 : ∀ c ∈ L.filter isCode, P c = true) : L.all P = true := by
  refine List.all_eq_true.mpr fun c hc => ?_
  have h := List.all_eq_true.mp h1 c hc
  rcases Bool.eq_false_or_eq_true (isCode c) with hi | hi
  · exact h2 c (List.mem_filter.mpr ⟨hc, hi⟩)
  · simpa [hi] using h
set_option maxRecDepth 65536 in
theorem w_c0 : (Jvm.Cond.code x code maxLocals ret).before args0 about1 = true := code_word (m := ⟨1, 1⟩) (meth := k1m1) (c := k1c1) (by decide +kernel) rfl rfl rfl (by decide +kernel)
set_option maxRecDepth 65536 in
theorem w_c1 : (Jvm.Cond.code ({ cls := "com/example/matchbook/matchbook/CsvReader", name := "plain", desc := "(C)Z" } : Jvm.MethodName) prog_3_method_14_code (1 : Nat) (Option.some Jvm.ClassFile.FieldType.boolean)).before args0 about1 = true := code_word (m := ⟨4, 0⟩) (meth := k4m0) (c := k4c0) (by decide +kernel) rfl rfl rfl (by decide +kernel)
def codes1 : List Jvm.Cond := [Jvm.Cond.code x code maxLocals ret, Jvm.Cond.code ({ cls := "com/example/matchbook/matchbook/CsvReader", name := "plain", desc := "(C)Z" } : Jvm.MethodName) prog_3_method_14_code (1 : Nat) (Option.some Jvm.ClassFile.FieldType.boolean)]
set_option maxRecDepth 65536 in
theorem codes_eq : words1.filter isCode = codes1 := rfl
theorem w_codes : ∀ c ∈ words1.filter isCode, c.before args0 about1 = true := by
  rw [codes_eq]
  intro c hc
  simp only [codes1, List.mem_cons, List.not_mem_nil, or_false] at hc
  rcases hc with rfl | rfl
  · exact w_c0
  · exact w_c1
set_option maxRecDepth 65536 in
theorem w_t1 : words1.all (fun c => isCode c || c.before args0 about1) = true := by decide +kernel
theorem w_tables : (allAtoms (Jvm.Cond.code x code maxLocals ret :: tables_1)).before args0 about1 = true := by
  rw [allAtoms_all]
  show words1.all (fun c => c.before args0 about1) = true
  refine all_split ?_ w_codes
  rw [w_t1]
set_option maxRecDepth 65536 in
theorem w_case : (Jvm.Cond.and given_1 narrow_1).before args0 about1 = true := by decide +kernel
theorem w_applies : (headSpec (Jvm.Cond.code x code maxLocals ret :: tables_1) room_1).applies x e0.platform about1 = true :=
  (Spec.applies_iff w_frames).mpr ⟨w_running, w_runnable, w_alone, w_named, w_hears, w_ripe, w_room, w_tables⟩
theorem atStart : AtStart classFile x code maxLocals ret World_1 tables_1 room_1 Calls_1 rest_1 Pre_1 launch0 p0 e0 about1 theMethod args0 below0 :=
  ⟨lists_1, trivial, launch0.admits_env _ _ _, launch0.least_env, fairChoices_fair.cas, fairChoices_fair.clock, w_frames, w_args, w_heap, w_applies, trivial, trivial, w_case⟩
end start1
theorem witness_1 : WitnessClaimed_1 := ⟨start1.p0, start1.e0, start1.about1, start1.theMethod, start1.args0, start1.below0, start1.atStart⟩
end Jvm.Pilot.@@N@@
