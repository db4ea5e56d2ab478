import JvmDerived
import JvmDerived.Pilot.@@N@@Statement
import JvmDerived.Pilot.@@N@@Code
set_option linter.unusedVariables false
set_option linter.unusedSimpArgs false
namespace Jvm.RoadKit
open Sem ClassFile Op Lib Jvm.Stand Jvm.Free Jvm.LawKit
section New
variable {p : Program} {l : Launch} {e : Env} {R : Room} {s : State} {m : MethodId} {args : Array Value} {below : List Frame} {meth : Method} {c : Code} {T : State} {locs : List Loc} {cells slots : Nat}
theorem retI (X : Stand p l e R s m args below meth c T locs cells slots) (hx : p.tables.exec = Jvm.exec) {pc : Nat} {Ls : Array Slot} {z : Int32} {rest : List Value} (hret : meth.sig.returnType = some .int) (hd : decode c.code pc = .ok (.ireturn, 1)) {fs : List Frame}
    (hl : ∀ (f : JFrame) (acts : List Action), f.method = m → f.locked = none → f.entered = [] → (doReturn e (T.setTop f) acts (some (.int z))).1 = T.setFrames fs) : Steps p.tables e below (T.setTop (mkF m pc Ls (.int z :: rest))) (T.setFrames fs) := by
  have hm' : T.vm.method? m = some meth := X.method'
  have hn : narrow .int (.int z) = .int z := rfl
  show Steps p.tables e below (T.setTop { method := m, pc := pc, locals := Ls, stack := _ :: rest, locked := none }) _
  jvm_step X.here [X.here.top, hx, hd, hm', hret, hn]
  first | (intro acts; rw [hl _ acts rfl rfl rfl]) | rw [hl _ _ rfl rfl rfl]
  exact Steps.refl _
end New
end Jvm.RoadKit
namespace Jvm.Pilot.@@N@@
open Jvm Jvm.ClassFile Sem Op Lib Jvm.Free Jvm.Stand Jvm.LawKit Jvm.RoadKit Bundle Jvm.Pilot.@@N@@.Jvm.D
theorem d1_0 : decode method_2_code 0 = .ok (.iload_n 2, 1) := by decide +kernel
theorem d1_1 : decode method_2_code 1 = .ok (.ifCond .lt 19, 3) := by decide +kernel
theorem d1_20 : decode method_2_code 20 = .ok (.iconst 0, 1) := by decide +kernel
theorem d1_21 : decode method_2_code 21 = .ok (.ireturn, 1) := by decide +kernel
theorem d1_4 : decode method_2_code 4 = .ok (.iload_n 2, 1) := by decide +kernel
theorem d1_5 : decode method_2_code 5 = .ok (.bipush 7, 2) := by decide +kernel
theorem d1_7 : decode method_2_code 7 = .ok (.if_icmp .gt 13, 3) := by decide +kernel
theorem d1_10 : decode method_2_code 10 = .ok (.iload_n 3, 1) := by decide +kernel
theorem d1_11 : decode method_2_code 11 = .ok (.ifCond .lt 9, 3) := by decide +kernel
theorem d1_14 : decode method_2_code 14 = .ok (.iload_n 3, 1) := by decide +kernel
theorem d1_15 : decode method_2_code 15 = .ok (.bipush 7, 2) := by decide +kernel
theorem d1_17 : decode method_2_code 17 = .ok (.if_icmp .le 5, 3) := by decide +kernel
theorem d1_22 : decode method_2_code 22 = .ok (.lload_n 0, 1) := by decide +kernel
theorem d1_23 : decode method_2_code 23 = .ok (.iload_n 3, 1) := by decide +kernel
theorem d1_24 : decode method_2_code 24 = .ok (.bipush 8, 2) := by decide +kernel
theorem d1_26 : decode method_2_code 26 = .ok (.imul, 1) := by decide +kernel
theorem d1_27 : decode method_2_code 27 = .ok (.iload_n 2, 1) := by decide +kernel
theorem d1_28 : decode method_2_code 28 = .ok (.iadd, 1) := by decide +kernel
theorem d1_29 : decode method_2_code 29 = .ok (.lushr, 1) := by decide +kernel
theorem d1_30 : decode method_2_code 30 = .ok (.lconst 1, 1) := by decide +kernel
theorem d1_31 : decode method_2_code 31 = .ok (.land, 1) := by decide +kernel
theorem d1_32 : decode method_2_code 32 = .ok (.lconst 0, 1) := by decide +kernel
theorem d1_33 : decode method_2_code 33 = .ok (.lcmp, 1) := by decide +kernel
theorem d1_34 : decode method_2_code 34 = .ok (.ifCond .eq 7, 3) := by decide +kernel
theorem d1_41 : decode method_2_code 41 = .ok (.iconst 0, 1) := by decide +kernel
theorem d1_42 : decode method_2_code 42 = .ok (.ireturn, 1) := by decide +kernel
theorem d1_37 : decode method_2_code 37 = .ok (.iconst 1, 1) := by decide +kernel
theorem d1_38 : decode method_2_code 38 = .ok (.goto 4, 3) := by decide +kernel
theorem pn_1 : plainName "com/example/tabuleiro/tabuleiro/othello/OthelloPositionNeighboursPinLaw" = true := by first | (simp [plainName, overriddenIn]; done) | decide +kernel
theorem ef_1 (m : MethodId) (x0 : Int64) (x1 : Int32) (x2 : Int32) : entryFrame m #[(.long x0), (.int x1), (.int x2)] 4 = mkF m 0 #[.val (.long x0), .second, .val (.int x1), .val (.int x2)] [] := by first | (simp [entryFrame, mkF, argsToLocals, Value.category]; done) | rfl
def F1 (q1 : Int64) (p2 : Int32) (p3 : Int32) : Int32 :=
  if p2 < (0 : Int32) then (  (0 : Int32))
  else (  if (7 : Int32) < p2 then (  (0 : Int32))
  else (  if p3 < (0 : Int32) then (  (0 : Int32))
  else (  if (7 : Int32) < p3 then (  (0 : Int32))
  else (  if (lcmpW (((q1.toUInt64 >>> (((p3 * (8 : Int32)) + p2) &&& 0x3f).toInt64.toUInt64).toInt64) &&& (1 : Int64)) (0 : Int64)) = (0 : Int32) then (  (0 : Int32))
  else (  (1 : Int32))))))
def Q1 (Z : State) (q1 : Int64) (p2 : Int32) (p3 : Int32) (h0 : Heap) (n0 : Nat) (v : Option Value) (h : Heap) (L : List Loc) : Prop := v = some (.int (F1 q1 p2 p3)) ∧ Fr n0 L ∧ h = h0
set_option maxRecDepth 65536 in
set_option maxHeartbeats 40000000 in
theorem rm1 (l : Launch) (Z : State) (a0 : Array Value) (hw : ∀ d ∈ tables_1, d.before a0 Z = true) (ws : List Jvm.Cond) (q1 : Int64) (p2 : Int32) (p3 : Int32) (h0 : Heap) (n0 : Nat) (Z0 : n0 ≤ h0.size)  :
    MetFree l (⟨"com/example/tabuleiro/tabuleiro/othello/OthelloPositionNeighboursPinLaw", "has", "(JII)Z"⟩ : MethodName) (head1 (Jvm.Cond.code (⟨"com/example/tabuleiro/tabuleiro/othello/OthelloPositionNeighboursPinLaw", "has", "(JII)Z"⟩ : MethodName) method_2_code 4 (some .boolean) :: ws) ({ frames := 0, cells := 0, slots := 0, locals := 0 } : Room)) (fun a U => a = #[(.long q1), (.int p2), (.int p3)] ∧ Z.Warmed39 U.vm ∧ U.heap = h0) (fun _ _ _ _ _ => True) (fun _ U o U' => ∃ v L, o = .returned v ∧ Q1 Z q1 p2 p3 h0 n0 v U'.heap L ∧ FrameEnd U o U' L ({ frames := 0, cells := 0, slots := 0, locals := 0 } : Room).cells ({ frames := 0, cells := 0, slots := 0, locals := 0 } : Room).slots) := by
  refine MetFree.of_bodySF (plainFor_of_name pn_1) hisR ?_
  intro p e s m args below meth c s₁ Bd hml0 hP hK
  obtain ⟨rfl, hZ, hh⟩ := hP
  have hx := Bd.exec
  have hby := Bd.bytes
  have hml : c.maxLocals = 4 := hml0
  have hown : s.vm.findClass "com/example/tabuleiro/tabuleiro/othello/OthelloPositionNeighboursPinLaw" = some m.cls := findClass_of_methodNamed Bd.named
  have hnm := (name_of_methodNamed Bd.named Bd.method).1
  have X0 : Stand p l e ({ frames := 0, cells := 0, slots := 0, locals := 0 } : Room) s m #[(.long q1), (.int p2), (.int p3)] below meth c s₁ [] 0 0 := Stand.of_body Bd
  have e0 : s₁.heap = h0 := by rw [← hh, Bd.state]; rfl
  have N0 := Fr.nil n0
  have pre0 : ∀ t, Steps p.tables e below (s₁.setTop (mkF m 0 #[.val (.long q1), .second, .val (.int p2), .val (.int p3)] [])) t → Steps p.tables e below (s₁.setTop (entryFrame m #[(.long q1), (.int p2), (.int p3)] 4)) t := fun t k => castTop (ef_1 m q1 p2 p3) k
  have pre1 : ∀ t, Steps p.tables e below (s₁.setTop (mkF m 1 #[.val (.long q1), .second, .val (.int p2), .val (.int p3)] [(.int p2)])) t → Steps p.tables e below (s₁.setTop (entryFrame m #[(.long q1), (.int p2), (.int p3)] 4)) t := by
    intro t k
    refine pre0 _ ?_
    show Steps p.tables e below (s₁.setTop (mkF m 0 #[.val (.long q1), .second, .val (.int p2), .val (.int p3)] [])) _
    refine XS.iloadN X0.here hx rfl (hb hby d1_0) rfl ?_
    exact k
  by_cases hc2 : p2 < (0 : Int32)
  · have pre3 : ∀ t, Steps p.tables e below (s₁.setTop (mkF m 20 #[.val (.long q1), .second, .val (.int p2), .val (.int p3)] [])) t → Steps p.tables e below (s₁.setTop (entryFrame m #[(.long q1), (.int p2), (.int p3)] 4)) t := by
      intro t k
      refine pre1 _ ?_
      show Steps p.tables e below (s₁.setTop (mkF m 1 #[.val (.long q1), .second, .val (.int p2), .val (.int p3)] [(.int p2)])) _
      refine XS.ifYes X0.here hx rfl (pc0 := 1) (pc' := 20) rfl (hb hby d1_1) rfl ((if0 _ _).trans (tlt hc2).1) (by decide) (by decide) ?_
      exact k
    have pre4 : ∀ t, Steps p.tables e below (s₁.setTop (mkF m 21 #[.val (.long q1), .second, .val (.int p2), .val (.int p3)] [(.int (0 : Int32))])) t → Steps p.tables e below (s₁.setTop (entryFrame m #[(.long q1), (.int p2), (.int p3)] 4)) t := by
      intro t k
      refine pre3 _ ?_
      show Steps p.tables e below (s₁.setTop (mkF m 20 #[.val (.long q1), .second, .val (.int p2), .val (.int p3)] [])) _
      refine XS.iconst X0.here hx rfl (hb hby d1_20) ?_
      exact k
    obtain ⟨fs, hr, hrun, hended, hW, hsame⟩ := X0.leave (v := some (.int (0 : Int32))) (fun h => by rw [Bd.returns] at h; cases h)
    refine ⟨_, _, pre4 _ ?_, hrun, hended, _, _, rfl, ?_, ⟨_, rfl⟩, hW, hsame.mono (by decide) (by decide)⟩
    · show Steps p.tables e below (s₁.setTop (mkF m 21 #[.val (.long q1), .second, .val (.int p2), .val (.int p3)] [(.int (0 : Int32))])) _
      exact retN X0 hx (t := .boolean) Bd.returns (by simp) (hb hby d1_21) hr
    · show Q1 Z q1 p2 p3 h0 n0 _ s₁.heap _
      rw [e0]
      exact ⟨(by rw [F1, if_pos hc2]), N0, rfl⟩
  · have pre5 : ∀ t, Steps p.tables e below (s₁.setTop (mkF m 4 #[.val (.long q1), .second, .val (.int p2), .val (.int p3)] [])) t → Steps p.tables e below (s₁.setTop (entryFrame m #[(.long q1), (.int p2), (.int p3)] 4)) t := by
      intro t k
      refine pre1 _ ?_
      show Steps p.tables e below (s₁.setTop (mkF m 1 #[.val (.long q1), .second, .val (.int p2), .val (.int p3)] [(.int p2)])) _
      refine XS.ifNo X0.here hx rfl (hb hby d1_1) rfl ((if0 _ _).trans (flt hc2).1) ?_
      exact k
    have pre6 : ∀ t, Steps p.tables e below (s₁.setTop (mkF m 7 #[.val (.long q1), .second, .val (.int p2), .val (.int p3)] [(.int (7 : Int32)), (.int p2)])) t → Steps p.tables e below (s₁.setTop (entryFrame m #[(.long q1), (.int p2), (.int p3)] 4)) t := by
      intro t k
      refine pre5 _ ?_
      show Steps p.tables e below (s₁.setTop (mkF m 4 #[.val (.long q1), .second, .val (.int p2), .val (.int p3)] [])) _
      refine XS.iloadN X0.here hx rfl (hb hby d1_4) rfl ?_
      show Steps p.tables e below (s₁.setTop (mkF m 5 #[.val (.long q1), .second, .val (.int p2), .val (.int p3)] [(.int p2)])) _
      refine XS.bipush X0.here hx rfl (hb hby d1_5) ?_
      exact k
    by_cases hc7 : (7 : Int32) < p2
    · have pre8 : ∀ t, Steps p.tables e below (s₁.setTop (mkF m 20 #[.val (.long q1), .second, .val (.int p2), .val (.int p3)] [])) t → Steps p.tables e below (s₁.setTop (entryFrame m #[(.long q1), (.int p2), (.int p3)] 4)) t := by
        intro t k
        refine pre6 _ ?_
        show Steps p.tables e below (s₁.setTop (mkF m 7 #[.val (.long q1), .second, .val (.int p2), .val (.int p3)] [(.int (7 : Int32)), (.int p2)])) _
        refine XS.icmpYes X0.here hx rfl (pc0 := 7) (pc' := 20) rfl (hb hby d1_7) rfl (tlt hc7).2.2.1 (by decide) (by decide) ?_
        exact k
      have pre9 : ∀ t, Steps p.tables e below (s₁.setTop (mkF m 21 #[.val (.long q1), .second, .val (.int p2), .val (.int p3)] [(.int (0 : Int32))])) t → Steps p.tables e below (s₁.setTop (entryFrame m #[(.long q1), (.int p2), (.int p3)] 4)) t := by
        intro t k
        refine pre8 _ ?_
        show Steps p.tables e below (s₁.setTop (mkF m 20 #[.val (.long q1), .second, .val (.int p2), .val (.int p3)] [])) _
        refine XS.iconst X0.here hx rfl (hb hby d1_20) ?_
        exact k
      obtain ⟨fs, hr, hrun, hended, hW, hsame⟩ := X0.leave (v := some (.int (0 : Int32))) (fun h => by rw [Bd.returns] at h; cases h)
      refine ⟨_, _, pre9 _ ?_, hrun, hended, _, _, rfl, ?_, ⟨_, rfl⟩, hW, hsame.mono (by decide) (by decide)⟩
      · show Steps p.tables e below (s₁.setTop (mkF m 21 #[.val (.long q1), .second, .val (.int p2), .val (.int p3)] [(.int (0 : Int32))])) _
        exact retN X0 hx (t := .boolean) Bd.returns (by simp) (hb hby d1_21) hr
      · show Q1 Z q1 p2 p3 h0 n0 _ s₁.heap _
        rw [e0]
        exact ⟨(by rw [F1, if_neg hc2, if_pos hc7]), N0, rfl⟩
    · have pre10 : ∀ t, Steps p.tables e below (s₁.setTop (mkF m 10 #[.val (.long q1), .second, .val (.int p2), .val (.int p3)] [])) t → Steps p.tables e below (s₁.setTop (entryFrame m #[(.long q1), (.int p2), (.int p3)] 4)) t := by
        intro t k
        refine pre6 _ ?_
        show Steps p.tables e below (s₁.setTop (mkF m 7 #[.val (.long q1), .second, .val (.int p2), .val (.int p3)] [(.int (7 : Int32)), (.int p2)])) _
        refine XS.icmpNo X0.here hx rfl (hb hby d1_7) rfl (flt hc7).2.2.1 ?_
        exact k
      have pre11 : ∀ t, Steps p.tables e below (s₁.setTop (mkF m 11 #[.val (.long q1), .second, .val (.int p2), .val (.int p3)] [(.int p3)])) t → Steps p.tables e below (s₁.setTop (entryFrame m #[(.long q1), (.int p2), (.int p3)] 4)) t := by
        intro t k
        refine pre10 _ ?_
        show Steps p.tables e below (s₁.setTop (mkF m 10 #[.val (.long q1), .second, .val (.int p2), .val (.int p3)] [])) _
        refine XS.iloadN X0.here hx rfl (hb hby d1_10) rfl ?_
        exact k
      by_cases hc12 : p3 < (0 : Int32)
      · have pre13 : ∀ t, Steps p.tables e below (s₁.setTop (mkF m 20 #[.val (.long q1), .second, .val (.int p2), .val (.int p3)] [])) t → Steps p.tables e below (s₁.setTop (entryFrame m #[(.long q1), (.int p2), (.int p3)] 4)) t := by
          intro t k
          refine pre11 _ ?_
          show Steps p.tables e below (s₁.setTop (mkF m 11 #[.val (.long q1), .second, .val (.int p2), .val (.int p3)] [(.int p3)])) _
          refine XS.ifYes X0.here hx rfl (pc0 := 11) (pc' := 20) rfl (hb hby d1_11) rfl ((if0 _ _).trans (tlt hc12).1) (by decide) (by decide) ?_
          exact k
        have pre14 : ∀ t, Steps p.tables e below (s₁.setTop (mkF m 21 #[.val (.long q1), .second, .val (.int p2), .val (.int p3)] [(.int (0 : Int32))])) t → Steps p.tables e below (s₁.setTop (entryFrame m #[(.long q1), (.int p2), (.int p3)] 4)) t := by
          intro t k
          refine pre13 _ ?_
          show Steps p.tables e below (s₁.setTop (mkF m 20 #[.val (.long q1), .second, .val (.int p2), .val (.int p3)] [])) _
          refine XS.iconst X0.here hx rfl (hb hby d1_20) ?_
          exact k
        obtain ⟨fs, hr, hrun, hended, hW, hsame⟩ := X0.leave (v := some (.int (0 : Int32))) (fun h => by rw [Bd.returns] at h; cases h)
        refine ⟨_, _, pre14 _ ?_, hrun, hended, _, _, rfl, ?_, ⟨_, rfl⟩, hW, hsame.mono (by decide) (by decide)⟩
        · show Steps p.tables e below (s₁.setTop (mkF m 21 #[.val (.long q1), .second, .val (.int p2), .val (.int p3)] [(.int (0 : Int32))])) _
          exact retN X0 hx (t := .boolean) Bd.returns (by simp) (hb hby d1_21) hr
        · show Q1 Z q1 p2 p3 h0 n0 _ s₁.heap _
          rw [e0]
          exact ⟨(by rw [F1, if_neg hc2, if_neg hc7, if_pos hc12]), N0, rfl⟩
      · have pre15 : ∀ t, Steps p.tables e below (s₁.setTop (mkF m 14 #[.val (.long q1), .second, .val (.int p2), .val (.int p3)] [])) t → Steps p.tables e below (s₁.setTop (entryFrame m #[(.long q1), (.int p2), (.int p3)] 4)) t := by
          intro t k
          refine pre11 _ ?_
          show Steps p.tables e below (s₁.setTop (mkF m 11 #[.val (.long q1), .second, .val (.int p2), .val (.int p3)] [(.int p3)])) _
          refine XS.ifNo X0.here hx rfl (hb hby d1_11) rfl ((if0 _ _).trans (flt hc12).1) ?_
          exact k
        have pre16 : ∀ t, Steps p.tables e below (s₁.setTop (mkF m 17 #[.val (.long q1), .second, .val (.int p2), .val (.int p3)] [(.int (7 : Int32)), (.int p3)])) t → Steps p.tables e below (s₁.setTop (entryFrame m #[(.long q1), (.int p2), (.int p3)] 4)) t := by
          intro t k
          refine pre15 _ ?_
          show Steps p.tables e below (s₁.setTop (mkF m 14 #[.val (.long q1), .second, .val (.int p2), .val (.int p3)] [])) _
          refine XS.iloadN X0.here hx rfl (hb hby d1_14) rfl ?_
          show Steps p.tables e below (s₁.setTop (mkF m 15 #[.val (.long q1), .second, .val (.int p2), .val (.int p3)] [(.int p3)])) _
          refine XS.bipush X0.here hx rfl (hb hby d1_15) ?_
          exact k
        by_cases hc17 : (7 : Int32) < p3
        · have pre18 : ∀ t, Steps p.tables e below (s₁.setTop (mkF m 20 #[.val (.long q1), .second, .val (.int p2), .val (.int p3)] [])) t → Steps p.tables e below (s₁.setTop (entryFrame m #[(.long q1), (.int p2), (.int p3)] 4)) t := by
            intro t k
            refine pre16 _ ?_
            show Steps p.tables e below (s₁.setTop (mkF m 17 #[.val (.long q1), .second, .val (.int p2), .val (.int p3)] [(.int (7 : Int32)), (.int p3)])) _
            refine XS.icmpNo X0.here hx rfl (hb hby d1_17) rfl (tlt hc17).2.2.2 ?_
            exact k
          have pre19 : ∀ t, Steps p.tables e below (s₁.setTop (mkF m 21 #[.val (.long q1), .second, .val (.int p2), .val (.int p3)] [(.int (0 : Int32))])) t → Steps p.tables e below (s₁.setTop (entryFrame m #[(.long q1), (.int p2), (.int p3)] 4)) t := by
            intro t k
            refine pre18 _ ?_
            show Steps p.tables e below (s₁.setTop (mkF m 20 #[.val (.long q1), .second, .val (.int p2), .val (.int p3)] [])) _
            refine XS.iconst X0.here hx rfl (hb hby d1_20) ?_
            exact k
          obtain ⟨fs, hr, hrun, hended, hW, hsame⟩ := X0.leave (v := some (.int (0 : Int32))) (fun h => by rw [Bd.returns] at h; cases h)
          refine ⟨_, _, pre19 _ ?_, hrun, hended, _, _, rfl, ?_, ⟨_, rfl⟩, hW, hsame.mono (by decide) (by decide)⟩
          · show Steps p.tables e below (s₁.setTop (mkF m 21 #[.val (.long q1), .second, .val (.int p2), .val (.int p3)] [(.int (0 : Int32))])) _
            exact retN X0 hx (t := .boolean) Bd.returns (by simp) (hb hby d1_21) hr
          · show Q1 Z q1 p2 p3 h0 n0 _ s₁.heap _
            rw [e0]
            exact ⟨(by rw [F1, if_neg hc2, if_neg hc7, if_neg hc12, if_pos hc17]), N0, rfl⟩
        · have pre20 : ∀ t, Steps p.tables e below (s₁.setTop (mkF m 22 #[.val (.long q1), .second, .val (.int p2), .val (.int p3)] [])) t → Steps p.tables e below (s₁.setTop (entryFrame m #[(.long q1), (.int p2), (.int p3)] 4)) t := by
            intro t k
            refine pre16 _ ?_
            show Steps p.tables e below (s₁.setTop (mkF m 17 #[.val (.long q1), .second, .val (.int p2), .val (.int p3)] [(.int (7 : Int32)), (.int p3)])) _
            refine XS.icmpYes X0.here hx rfl (pc0 := 17) (pc' := 22) rfl (hb hby d1_17) rfl (flt hc17).2.2.2 (by decide) (by decide) ?_
            exact k
          have pre21 : ∀ t, Steps p.tables e below (s₁.setTop (mkF m 34 #[.val (.long q1), .second, .val (.int p2), .val (.int p3)] [(.int (lcmpW (((q1.toUInt64 >>> (((p3 * (8 : Int32)) + p2) &&& 0x3f).toInt64.toUInt64).toInt64) &&& (1 : Int64)) (0 : Int64)))])) t → Steps p.tables e below (s₁.setTop (entryFrame m #[(.long q1), (.int p2), (.int p3)] 4)) t := by
            intro t k
            refine pre20 _ ?_
            show Steps p.tables e below (s₁.setTop (mkF m 22 #[.val (.long q1), .second, .val (.int p2), .val (.int p3)] [])) _
            refine XS.lloadN X0.here hx rfl (hb hby d1_22) rfl ?_
            show Steps p.tables e below (s₁.setTop (mkF m 23 #[.val (.long q1), .second, .val (.int p2), .val (.int p3)] [(.long q1)])) _
            refine XS.iloadN X0.here hx rfl (hb hby d1_23) rfl ?_
            show Steps p.tables e below (s₁.setTop (mkF m 24 #[.val (.long q1), .second, .val (.int p2), .val (.int p3)] [(.int p3), (.long q1)])) _
            refine XS.bipush X0.here hx rfl (hb hby d1_24) ?_
            show Steps p.tables e below (s₁.setTop (mkF m 26 #[.val (.long q1), .second, .val (.int p2), .val (.int p3)] [(.int (8 : Int32)), (.int p3), (.long q1)])) _
            refine XS.imul X0.here hx rfl (hb hby d1_26) rfl ?_
            show Steps p.tables e below (s₁.setTop (mkF m 27 #[.val (.long q1), .second, .val (.int p2), .val (.int p3)] [(.int (p3 * (8 : Int32))), (.long q1)])) _
            refine XS.iloadN X0.here hx rfl (hb hby d1_27) rfl ?_
            show Steps p.tables e below (s₁.setTop (mkF m 28 #[.val (.long q1), .second, .val (.int p2), .val (.int p3)] [(.int p2), (.int (p3 * (8 : Int32))), (.long q1)])) _
            refine XS.iadd X0.here hx rfl (hb hby d1_28) rfl ?_
            show Steps p.tables e below (s₁.setTop (mkF m 29 #[.val (.long q1), .second, .val (.int p2), .val (.int p3)] [(.int ((p3 * (8 : Int32)) + p2)), (.long q1)])) _
            refine XS.lushr X0.here hx rfl (hb hby d1_29) rfl ?_
            show Steps p.tables e below (s₁.setTop (mkF m 30 #[.val (.long q1), .second, .val (.int p2), .val (.int p3)] [(.long ((q1.toUInt64 >>> (((p3 * (8 : Int32)) + p2) &&& 0x3f).toInt64.toUInt64).toInt64))])) _
            refine XS.lconst X0.here hx rfl (hb hby d1_30) ?_
            show Steps p.tables e below (s₁.setTop (mkF m 31 #[.val (.long q1), .second, .val (.int p2), .val (.int p3)] [(.long (1 : Int64)), (.long ((q1.toUInt64 >>> (((p3 * (8 : Int32)) + p2) &&& 0x3f).toInt64.toUInt64).toInt64))])) _
            refine XS.land X0.here hx rfl (hb hby d1_31) rfl ?_
            show Steps p.tables e below (s₁.setTop (mkF m 32 #[.val (.long q1), .second, .val (.int p2), .val (.int p3)] [(.long (((q1.toUInt64 >>> (((p3 * (8 : Int32)) + p2) &&& 0x3f).toInt64.toUInt64).toInt64) &&& (1 : Int64)))])) _
            refine XS.lconst X0.here hx rfl (hb hby d1_32) ?_
            show Steps p.tables e below (s₁.setTop (mkF m 33 #[.val (.long q1), .second, .val (.int p2), .val (.int p3)] [(.long (0 : Int64)), (.long (((q1.toUInt64 >>> (((p3 * (8 : Int32)) + p2) &&& 0x3f).toInt64.toUInt64).toInt64) &&& (1 : Int64)))])) _
            refine XS.lcmp X0.here hx rfl (hb hby d1_33) rfl ?_
            exact k
          by_cases hc22 : (lcmpW (((q1.toUInt64 >>> (((p3 * (8 : Int32)) + p2) &&& 0x3f).toInt64.toUInt64).toInt64) &&& (1 : Int64)) (0 : Int64)) = (0 : Int32)
          · have pre23 : ∀ t, Steps p.tables e below (s₁.setTop (mkF m 41 #[.val (.long q1), .second, .val (.int p2), .val (.int p3)] [])) t → Steps p.tables e below (s₁.setTop (entryFrame m #[(.long q1), (.int p2), (.int p3)] 4)) t := by
              intro t k
              refine pre21 _ ?_
              show Steps p.tables e below (s₁.setTop (mkF m 34 #[.val (.long q1), .second, .val (.int p2), .val (.int p3)] [(.int (lcmpW (((q1.toUInt64 >>> (((p3 * (8 : Int32)) + p2) &&& 0x3f).toInt64.toUInt64).toInt64) &&& (1 : Int64)) (0 : Int64)))])) _
              refine XS.ifYes X0.here hx rfl (pc0 := 34) (pc' := 41) rfl (hb hby d1_34) rfl ((if0 _ _).trans (teq hc22).1) (by decide) (by decide) ?_
              exact k
            have pre24 : ∀ t, Steps p.tables e below (s₁.setTop (mkF m 42 #[.val (.long q1), .second, .val (.int p2), .val (.int p3)] [(.int (0 : Int32))])) t → Steps p.tables e below (s₁.setTop (entryFrame m #[(.long q1), (.int p2), (.int p3)] 4)) t := by
              intro t k
              refine pre23 _ ?_
              show Steps p.tables e below (s₁.setTop (mkF m 41 #[.val (.long q1), .second, .val (.int p2), .val (.int p3)] [])) _
              refine XS.iconst X0.here hx rfl (hb hby d1_41) ?_
              exact k
            obtain ⟨fs, hr, hrun, hended, hW, hsame⟩ := X0.leave (v := some (.int (0 : Int32))) (fun h => by rw [Bd.returns] at h; cases h)
            refine ⟨_, _, pre24 _ ?_, hrun, hended, _, _, rfl, ?_, ⟨_, rfl⟩, hW, hsame.mono (by decide) (by decide)⟩
            · show Steps p.tables e below (s₁.setTop (mkF m 42 #[.val (.long q1), .second, .val (.int p2), .val (.int p3)] [(.int (0 : Int32))])) _
              exact retN X0 hx (t := .boolean) Bd.returns (by simp) (hb hby d1_42) hr
            · show Q1 Z q1 p2 p3 h0 n0 _ s₁.heap _
              rw [e0]
              exact ⟨(by rw [F1, if_neg hc2, if_neg hc7, if_neg hc12, if_neg hc17, if_pos hc22]), N0, rfl⟩
          · have pre25 : ∀ t, Steps p.tables e below (s₁.setTop (mkF m 37 #[.val (.long q1), .second, .val (.int p2), .val (.int p3)] [])) t → Steps p.tables e below (s₁.setTop (entryFrame m #[(.long q1), (.int p2), (.int p3)] 4)) t := by
              intro t k
              refine pre21 _ ?_
              show Steps p.tables e below (s₁.setTop (mkF m 34 #[.val (.long q1), .second, .val (.int p2), .val (.int p3)] [(.int (lcmpW (((q1.toUInt64 >>> (((p3 * (8 : Int32)) + p2) &&& 0x3f).toInt64.toUInt64).toInt64) &&& (1 : Int64)) (0 : Int64)))])) _
              refine XS.ifNo X0.here hx rfl (hb hby d1_34) rfl ((if0 _ _).trans (feq hc22).1) ?_
              exact k
            have pre26 : ∀ t, Steps p.tables e below (s₁.setTop (mkF m 42 #[.val (.long q1), .second, .val (.int p2), .val (.int p3)] [(.int (1 : Int32))])) t → Steps p.tables e below (s₁.setTop (entryFrame m #[(.long q1), (.int p2), (.int p3)] 4)) t := by
              intro t k
              refine pre25 _ ?_
              show Steps p.tables e below (s₁.setTop (mkF m 37 #[.val (.long q1), .second, .val (.int p2), .val (.int p3)] [])) _
              refine XS.iconst X0.here hx rfl (hb hby d1_37) ?_
              show Steps p.tables e below (s₁.setTop (mkF m 38 #[.val (.long q1), .second, .val (.int p2), .val (.int p3)] [(.int (1 : Int32))])) _
              refine XS.goto X0.here hx rfl (pc0 := 38) (pc' := 42) rfl (hb hby d1_38) (by decide) (by decide) ?_
              exact k
            obtain ⟨fs, hr, hrun, hended, hW, hsame⟩ := X0.leave (v := some (.int (1 : Int32))) (fun h => by rw [Bd.returns] at h; cases h)
            refine ⟨_, _, pre26 _ ?_, hrun, hended, _, _, rfl, ?_, ⟨_, rfl⟩, hW, hsame.mono (by decide) (by decide)⟩
            · show Steps p.tables e below (s₁.setTop (mkF m 42 #[.val (.long q1), .second, .val (.int p2), .val (.int p3)] [(.int (1 : Int32))])) _
              exact retN X0 hx (t := .boolean) Bd.returns (by simp) (hb hby d1_42) hr
            · show Q1 Z q1 p2 p3 h0 n0 _ s₁.heap _
              rw [e0]
              exact ⟨(by rw [F1, if_neg hc2, if_neg hc7, if_neg hc12, if_neg hc17, if_neg hc22]), N0, rfl⟩
theorem d2_0 : decode prog_36_method_31_code 0 = .ok (.lload_n 0, 1) := by decide +kernel
theorem d2_1 : decode prog_36_method_31_code 1 = .ok (.iconst 1, 1) := by decide +kernel
theorem d2_2 : decode prog_36_method_31_code 2 = .ok (.lshl, 1) := by decide +kernel
theorem d2_3 : decode prog_36_method_31_code 3 = .ok (.ldc2_w 200, 3) := by decide +kernel
theorem d2_6 : decode prog_36_method_31_code 6 = .ok (.land, 1) := by decide +kernel
theorem d2_7 : decode prog_36_method_31_code 7 = .ok (.lload_n 0, 1) := by decide +kernel
theorem d2_8 : decode prog_36_method_31_code 8 = .ok (.iconst 1, 1) := by decide +kernel
theorem d2_9 : decode prog_36_method_31_code 9 = .ok (.lushr, 1) := by decide +kernel
theorem d2_10 : decode prog_36_method_31_code 10 = .ok (.ldc2_w 202, 3) := by decide +kernel
theorem d2_13 : decode prog_36_method_31_code 13 = .ok (.land, 1) := by decide +kernel
theorem d2_14 : decode prog_36_method_31_code 14 = .ok (.lor, 1) := by decide +kernel
theorem d2_15 : decode prog_36_method_31_code 15 = .ok (.lstore_n 2, 1) := by decide +kernel
theorem d2_16 : decode prog_36_method_31_code 16 = .ok (.lload_n 0, 1) := by decide +kernel
theorem d2_17 : decode prog_36_method_31_code 17 = .ok (.lload_n 2, 1) := by decide +kernel
theorem d2_18 : decode prog_36_method_31_code 18 = .ok (.lor, 1) := by decide +kernel
theorem d2_19 : decode prog_36_method_31_code 19 = .ok (.lstore 4, 2) := by decide +kernel
theorem d2_21 : decode prog_36_method_31_code 21 = .ok (.lload_n 2, 1) := by decide +kernel
theorem d2_22 : decode prog_36_method_31_code 22 = .ok (.lload 4, 2) := by decide +kernel
theorem d2_24 : decode prog_36_method_31_code 24 = .ok (.bipush 8, 2) := by decide +kernel
theorem d2_26 : decode prog_36_method_31_code 26 = .ok (.lshl, 1) := by decide +kernel
theorem d2_27 : decode prog_36_method_31_code 27 = .ok (.lor, 1) := by decide +kernel
theorem d2_28 : decode prog_36_method_31_code 28 = .ok (.lload 4, 2) := by decide +kernel
theorem d2_30 : decode prog_36_method_31_code 30 = .ok (.bipush 8, 2) := by decide +kernel
theorem d2_32 : decode prog_36_method_31_code 32 = .ok (.lushr, 1) := by decide +kernel
theorem d2_33 : decode prog_36_method_31_code 33 = .ok (.lor, 1) := by decide +kernel
theorem d2_34 : decode prog_36_method_31_code 34 = .ok (.lreturn, 1) := by decide +kernel
theorem pn_2 : plainName "com/example/tabuleiro/tabuleiro/othello/OthelloPosition" = true := by first | (simp [plainName, overriddenIn]; done) | decide +kernel
theorem ef_2 (m : MethodId) (x0 : Int64) : entryFrame m #[(.long x0)] 6 = mkF m 0 #[.val (.long x0), .second, .unset, .unset, .unset, .unset] [] := by first | (simp [entryFrame, mkF, argsToLocals, Value.category]; done) | rfl
def F2 (q1 : Int64) : Int64 :=
  (((((q1 <<< ((1 : Int32) &&& 0x3f).toInt64) &&& (-72340172838076674 : Int64)) ||| (((q1.toUInt64 >>> ((1 : Int32) &&& 0x3f).toInt64.toUInt64).toInt64) &&& (9187201950435737471 : Int64))) ||| ((q1 ||| (((q1 <<< ((1 : Int32) &&& 0x3f).toInt64) &&& (-72340172838076674 : Int64)) ||| (((q1.toUInt64 >>> ((1 : Int32) &&& 0x3f).toInt64.toUInt64).toInt64) &&& (9187201950435737471 : Int64)))) <<< ((8 : Int32) &&& 0x3f).toInt64)) ||| (((q1 ||| (((q1 <<< ((1 : Int32) &&& 0x3f).toInt64) &&& (-72340172838076674 : Int64)) ||| (((q1.toUInt64 >>> ((1 : Int32) &&& 0x3f).toInt64.toUInt64).toInt64) &&& (9187201950435737471 : Int64)))).toUInt64 >>> ((8 : Int32) &&& 0x3f).toInt64.toUInt64).toInt64))
def Q2 (Z : State) (q1 : Int64) (h0 : Heap) (n0 : Nat) (v : Option Value) (h : Heap) (L : List Loc) : Prop := v = some (.long (F2 q1)) ∧ Fr n0 L ∧ h = h0
set_option maxRecDepth 65536 in
set_option maxHeartbeats 40000000 in
theorem rm2 (l : Launch) (Z : State) (a0 : Array Value) (hw : ∀ d ∈ tables_1, d.before a0 Z = true) (ws : List Jvm.Cond) (q1 : Int64) (h0 : Heap) (n0 : Nat) (Z0 : n0 ≤ h0.size)  :
    MetFree l (⟨"com/example/tabuleiro/tabuleiro/othello/OthelloPosition", "neighbours", "(J)J"⟩ : MethodName) (head1 (Jvm.Cond.code (⟨"com/example/tabuleiro/tabuleiro/othello/OthelloPosition", "neighbours", "(J)J"⟩ : MethodName) prog_36_method_31_code 6 (some .long) :: ws) ({ frames := 0, cells := 0, slots := 0, locals := 0 } : Room)) (fun a U => a = #[(.long q1)] ∧ Z.Warmed39 U.vm ∧ U.heap = h0) (fun _ _ _ _ _ => True) (fun _ U o U' => ∃ v L, o = .returned v ∧ Q2 Z q1 h0 n0 v U'.heap L ∧ FrameEnd U o U' L ({ frames := 0, cells := 0, slots := 0, locals := 0 } : Room).cells ({ frames := 0, cells := 0, slots := 0, locals := 0 } : Room).slots) := by
  refine MetFree.of_bodySF (plainFor_of_name pn_2) hisR ?_
  intro p e s m args below meth c s₁ Bd hml0 hP hK
  obtain ⟨rfl, hZ, hh⟩ := hP
  have hx := Bd.exec
  have hby := Bd.bytes
  have hml : c.maxLocals = 6 := hml0
  have hown : s.vm.findClass "com/example/tabuleiro/tabuleiro/othello/OthelloPosition" = some m.cls := findClass_of_methodNamed Bd.named
  have hnm := (name_of_methodNamed Bd.named Bd.method).1
  have X0 : Stand p l e ({ frames := 0, cells := 0, slots := 0, locals := 0 } : Room) s m #[(.long q1)] below meth c s₁ [] 0 0 := Stand.of_body Bd
  have e0 : s₁.heap = h0 := by rw [← hh, Bd.state]; rfl
  have N0 := Fr.nil n0
  have pre0 : ∀ t, Steps p.tables e below (s₁.setTop (mkF m 0 #[.val (.long q1), .second, .unset, .unset, .unset, .unset] [])) t → Steps p.tables e below (s₁.setTop (entryFrame m #[(.long q1)] 6)) t := fun t k => castTop (ef_2 m q1) k
  have pre27 : ∀ t, Steps p.tables e below (s₁.setTop (mkF m 34 #[.val (.long q1), .second, .val (.long (((q1 <<< ((1 : Int32) &&& 0x3f).toInt64) &&& (-72340172838076674 : Int64)) ||| (((q1.toUInt64 >>> ((1 : Int32) &&& 0x3f).toInt64.toUInt64).toInt64) &&& (9187201950435737471 : Int64)))), .second, .val (.long (q1 ||| (((q1 <<< ((1 : Int32) &&& 0x3f).toInt64) &&& (-72340172838076674 : Int64)) ||| (((q1.toUInt64 >>> ((1 : Int32) &&& 0x3f).toInt64.toUInt64).toInt64) &&& (9187201950435737471 : Int64))))), .second] [(.long (((((q1 <<< ((1 : Int32) &&& 0x3f).toInt64) &&& (-72340172838076674 : Int64)) ||| (((q1.toUInt64 >>> ((1 : Int32) &&& 0x3f).toInt64.toUInt64).toInt64) &&& (9187201950435737471 : Int64))) ||| ((q1 ||| (((q1 <<< ((1 : Int32) &&& 0x3f).toInt64) &&& (-72340172838076674 : Int64)) ||| (((q1.toUInt64 >>> ((1 : Int32) &&& 0x3f).toInt64.toUInt64).toInt64) &&& (9187201950435737471 : Int64)))) <<< ((8 : Int32) &&& 0x3f).toInt64)) ||| (((q1 ||| (((q1 <<< ((1 : Int32) &&& 0x3f).toInt64) &&& (-72340172838076674 : Int64)) ||| (((q1.toUInt64 >>> ((1 : Int32) &&& 0x3f).toInt64.toUInt64).toInt64) &&& (9187201950435737471 : Int64)))).toUInt64 >>> ((8 : Int32) &&& 0x3f).toInt64.toUInt64).toInt64)))])) t → Steps p.tables e below (s₁.setTop (entryFrame m #[(.long q1)] 6)) t := by
    intro t k
    refine pre0 _ ?_
    show Steps p.tables e below (s₁.setTop (mkF m 0 #[.val (.long q1), .second, .unset, .unset, .unset, .unset] [])) _
    refine XS.lloadN X0.here hx rfl (hb hby d2_0) rfl ?_
    show Steps p.tables e below (s₁.setTop (mkF m 1 #[.val (.long q1), .second, .unset, .unset, .unset, .unset] [(.long q1)])) _
    refine XS.iconst X0.here hx rfl (hb hby d2_1) ?_
    show Steps p.tables e below (s₁.setTop (mkF m 2 #[.val (.long q1), .second, .unset, .unset, .unset, .unset] [(.int (1 : Int32)), (.long q1)])) _
    refine XS.lshl X0.here hx rfl (hb hby d2_2) rfl ?_
    show Steps p.tables e below (s₁.setTop (mkF m 3 #[.val (.long q1), .second, .unset, .unset, .unset, .unset] [(.long (q1 <<< ((1 : Int32) &&& 0x3f).toInt64))])) _
    refine X0.ldc2Long hx hown (mvT hZ (hw _ (List.mem_of_getElem? (i := 8) rfl))) (g := (mkF m 3 #[.val (.long q1), .second, .unset, .unset, .unset, .unset] [(.long (q1 <<< ((1 : Int32) &&& 0x3f).toInt64))])) rfl (hb hby d2_3) _ ?_
    show Steps p.tables e below (s₁.setTop (mkF m 6 #[.val (.long q1), .second, .unset, .unset, .unset, .unset] [(.long (-72340172838076674 : Int64)), (.long (q1 <<< ((1 : Int32) &&& 0x3f).toInt64))])) _
    refine XS.land X0.here hx rfl (hb hby d2_6) rfl ?_
    show Steps p.tables e below (s₁.setTop (mkF m 7 #[.val (.long q1), .second, .unset, .unset, .unset, .unset] [(.long ((q1 <<< ((1 : Int32) &&& 0x3f).toInt64) &&& (-72340172838076674 : Int64)))])) _
    refine XS.lloadN X0.here hx rfl (hb hby d2_7) rfl ?_
    show Steps p.tables e below (s₁.setTop (mkF m 8 #[.val (.long q1), .second, .unset, .unset, .unset, .unset] [(.long q1), (.long ((q1 <<< ((1 : Int32) &&& 0x3f).toInt64) &&& (-72340172838076674 : Int64)))])) _
    refine XS.iconst X0.here hx rfl (hb hby d2_8) ?_
    show Steps p.tables e below (s₁.setTop (mkF m 9 #[.val (.long q1), .second, .unset, .unset, .unset, .unset] [(.int (1 : Int32)), (.long q1), (.long ((q1 <<< ((1 : Int32) &&& 0x3f).toInt64) &&& (-72340172838076674 : Int64)))])) _
    refine XS.lushr X0.here hx rfl (hb hby d2_9) rfl ?_
    show Steps p.tables e below (s₁.setTop (mkF m 10 #[.val (.long q1), .second, .unset, .unset, .unset, .unset] [(.long ((q1.toUInt64 >>> ((1 : Int32) &&& 0x3f).toInt64.toUInt64).toInt64)), (.long ((q1 <<< ((1 : Int32) &&& 0x3f).toInt64) &&& (-72340172838076674 : Int64)))])) _
    refine X0.ldc2Long hx hown (mvT hZ (hw _ (List.mem_of_getElem? (i := 9) rfl))) (g := (mkF m 10 #[.val (.long q1), .second, .unset, .unset, .unset, .unset] [(.long ((q1.toUInt64 >>> ((1 : Int32) &&& 0x3f).toInt64.toUInt64).toInt64)), (.long ((q1 <<< ((1 : Int32) &&& 0x3f).toInt64) &&& (-72340172838076674 : Int64)))])) rfl (hb hby d2_10) _ ?_
    show Steps p.tables e below (s₁.setTop (mkF m 13 #[.val (.long q1), .second, .unset, .unset, .unset, .unset] [(.long (9187201950435737471 : Int64)), (.long ((q1.toUInt64 >>> ((1 : Int32) &&& 0x3f).toInt64.toUInt64).toInt64)), (.long ((q1 <<< ((1 : Int32) &&& 0x3f).toInt64) &&& (-72340172838076674 : Int64)))])) _
    refine XS.land X0.here hx rfl (hb hby d2_13) rfl ?_
    show Steps p.tables e below (s₁.setTop (mkF m 14 #[.val (.long q1), .second, .unset, .unset, .unset, .unset] [(.long (((q1.toUInt64 >>> ((1 : Int32) &&& 0x3f).toInt64.toUInt64).toInt64) &&& (9187201950435737471 : Int64))), (.long ((q1 <<< ((1 : Int32) &&& 0x3f).toInt64) &&& (-72340172838076674 : Int64)))])) _
    refine XS.lor X0.here hx rfl (hb hby d2_14) rfl ?_
    show Steps p.tables e below (s₁.setTop (mkF m 15 #[.val (.long q1), .second, .unset, .unset, .unset, .unset] [(.long (((q1 <<< ((1 : Int32) &&& 0x3f).toInt64) &&& (-72340172838076674 : Int64)) ||| (((q1.toUInt64 >>> ((1 : Int32) &&& 0x3f).toInt64.toUInt64).toInt64) &&& (9187201950435737471 : Int64))))])) _
    refine XS.lstoreN X0.here hx rfl (hb hby d2_15) rfl (l' := #[.val (.long q1), .second, .val (.long (((q1 <<< ((1 : Int32) &&& 0x3f).toInt64) &&& (-72340172838076674 : Int64)) ||| (((q1.toUInt64 >>> ((1 : Int32) &&& 0x3f).toInt64.toUInt64).toInt64) &&& (9187201950435737471 : Int64)))), .second, .unset, .unset]) rfl ?_
    show Steps p.tables e below (s₁.setTop (mkF m 16 #[.val (.long q1), .second, .val (.long (((q1 <<< ((1 : Int32) &&& 0x3f).toInt64) &&& (-72340172838076674 : Int64)) ||| (((q1.toUInt64 >>> ((1 : Int32) &&& 0x3f).toInt64.toUInt64).toInt64) &&& (9187201950435737471 : Int64)))), .second, .unset, .unset] [])) _
    refine XS.lloadN X0.here hx rfl (hb hby d2_16) rfl ?_
    show Steps p.tables e below (s₁.setTop (mkF m 17 #[.val (.long q1), .second, .val (.long (((q1 <<< ((1 : Int32) &&& 0x3f).toInt64) &&& (-72340172838076674 : Int64)) ||| (((q1.toUInt64 >>> ((1 : Int32) &&& 0x3f).toInt64.toUInt64).toInt64) &&& (9187201950435737471 : Int64)))), .second, .unset, .unset] [(.long q1)])) _
    refine XS.lloadN X0.here hx rfl (hb hby d2_17) rfl ?_
    show Steps p.tables e below (s₁.setTop (mkF m 18 #[.val (.long q1), .second, .val (.long (((q1 <<< ((1 : Int32) &&& 0x3f).toInt64) &&& (-72340172838076674 : Int64)) ||| (((q1.toUInt64 >>> ((1 : Int32) &&& 0x3f).toInt64.toUInt64).toInt64) &&& (9187201950435737471 : Int64)))), .second, .unset, .unset] [(.long (((q1 <<< ((1 : Int32) &&& 0x3f).toInt64) &&& (-72340172838076674 : Int64)) ||| (((q1.toUInt64 >>> ((1 : Int32) &&& 0x3f).toInt64.toUInt64).toInt64) &&& (9187201950435737471 : Int64)))), (.long q1)])) _
    refine XS.lor X0.here hx rfl (hb hby d2_18) rfl ?_
    show Steps p.tables e below (s₁.setTop (mkF m 19 #[.val (.long q1), .second, .val (.long (((q1 <<< ((1 : Int32) &&& 0x3f).toInt64) &&& (-72340172838076674 : Int64)) ||| (((q1.toUInt64 >>> ((1 : Int32) &&& 0x3f).toInt64.toUInt64).toInt64) &&& (9187201950435737471 : Int64)))), .second, .unset, .unset] [(.long (q1 ||| (((q1 <<< ((1 : Int32) &&& 0x3f).toInt64) &&& (-72340172838076674 : Int64)) ||| (((q1.toUInt64 >>> ((1 : Int32) &&& 0x3f).toInt64.toUInt64).toInt64) &&& (9187201950435737471 : Int64)))))])) _
    refine XS.lstore X0.here hx rfl (hb hby d2_19) rfl (l' := #[.val (.long q1), .second, .val (.long (((q1 <<< ((1 : Int32) &&& 0x3f).toInt64) &&& (-72340172838076674 : Int64)) ||| (((q1.toUInt64 >>> ((1 : Int32) &&& 0x3f).toInt64.toUInt64).toInt64) &&& (9187201950435737471 : Int64)))), .second, .val (.long (q1 ||| (((q1 <<< ((1 : Int32) &&& 0x3f).toInt64) &&& (-72340172838076674 : Int64)) ||| (((q1.toUInt64 >>> ((1 : Int32) &&& 0x3f).toInt64.toUInt64).toInt64) &&& (9187201950435737471 : Int64))))), .second]) rfl ?_
    show Steps p.tables e below (s₁.setTop (mkF m 21 #[.val (.long q1), .second, .val (.long (((q1 <<< ((1 : Int32) &&& 0x3f).toInt64) &&& (-72340172838076674 : Int64)) ||| (((q1.toUInt64 >>> ((1 : Int32) &&& 0x3f).toInt64.toUInt64).toInt64) &&& (9187201950435737471 : Int64)))), .second, .val (.long (q1 ||| (((q1 <<< ((1 : Int32) &&& 0x3f).toInt64) &&& (-72340172838076674 : Int64)) ||| (((q1.toUInt64 >>> ((1 : Int32) &&& 0x3f).toInt64.toUInt64).toInt64) &&& (9187201950435737471 : Int64))))), .second] [])) _
    refine XS.lloadN X0.here hx rfl (hb hby d2_21) rfl ?_
    show Steps p.tables e below (s₁.setTop (mkF m 22 #[.val (.long q1), .second, .val (.long (((q1 <<< ((1 : Int32) &&& 0x3f).toInt64) &&& (-72340172838076674 : Int64)) ||| (((q1.toUInt64 >>> ((1 : Int32) &&& 0x3f).toInt64.toUInt64).toInt64) &&& (9187201950435737471 : Int64)))), .second, .val (.long (q1 ||| (((q1 <<< ((1 : Int32) &&& 0x3f).toInt64) &&& (-72340172838076674 : Int64)) ||| (((q1.toUInt64 >>> ((1 : Int32) &&& 0x3f).toInt64.toUInt64).toInt64) &&& (9187201950435737471 : Int64))))), .second] [(.long (((q1 <<< ((1 : Int32) &&& 0x3f).toInt64) &&& (-72340172838076674 : Int64)) ||| (((q1.toUInt64 >>> ((1 : Int32) &&& 0x3f).toInt64.toUInt64).toInt64) &&& (9187201950435737471 : Int64))))])) _
    refine XS.lload X0.here hx rfl (hb hby d2_22) rfl ?_
    show Steps p.tables e below (s₁.setTop (mkF m 24 #[.val (.long q1), .second, .val (.long (((q1 <<< ((1 : Int32) &&& 0x3f).toInt64) &&& (-72340172838076674 : Int64)) ||| (((q1.toUInt64 >>> ((1 : Int32) &&& 0x3f).toInt64.toUInt64).toInt64) &&& (9187201950435737471 : Int64)))), .second, .val (.long (q1 ||| (((q1 <<< ((1 : Int32) &&& 0x3f).toInt64) &&& (-72340172838076674 : Int64)) ||| (((q1.toUInt64 >>> ((1 : Int32) &&& 0x3f).toInt64.toUInt64).toInt64) &&& (9187201950435737471 : Int64))))), .second] [(.long (q1 ||| (((q1 <<< ((1 : Int32) &&& 0x3f).toInt64) &&& (-72340172838076674 : Int64)) ||| (((q1.toUInt64 >>> ((1 : Int32) &&& 0x3f).toInt64.toUInt64).toInt64) &&& (9187201950435737471 : Int64))))), (.long (((q1 <<< ((1 : Int32) &&& 0x3f).toInt64) &&& (-72340172838076674 : Int64)) ||| (((q1.toUInt64 >>> ((1 : Int32) &&& 0x3f).toInt64.toUInt64).toInt64) &&& (9187201950435737471 : Int64))))])) _
    refine XS.bipush X0.here hx rfl (hb hby d2_24) ?_
    show Steps p.tables e below (s₁.setTop (mkF m 26 #[.val (.long q1), .second, .val (.long (((q1 <<< ((1 : Int32) &&& 0x3f).toInt64) &&& (-72340172838076674 : Int64)) ||| (((q1.toUInt64 >>> ((1 : Int32) &&& 0x3f).toInt64.toUInt64).toInt64) &&& (9187201950435737471 : Int64)))), .second, .val (.long (q1 ||| (((q1 <<< ((1 : Int32) &&& 0x3f).toInt64) &&& (-72340172838076674 : Int64)) ||| (((q1.toUInt64 >>> ((1 : Int32) &&& 0x3f).toInt64.toUInt64).toInt64) &&& (9187201950435737471 : Int64))))), .second] [(.int (8 : Int32)), (.long (q1 ||| (((q1 <<< ((1 : Int32) &&& 0x3f).toInt64) &&& (-72340172838076674 : Int64)) ||| (((q1.toUInt64 >>> ((1 : Int32) &&& 0x3f).toInt64.toUInt64).toInt64) &&& (9187201950435737471 : Int64))))), (.long (((q1 <<< ((1 : Int32) &&& 0x3f).toInt64) &&& (-72340172838076674 : Int64)) ||| (((q1.toUInt64 >>> ((1 : Int32) &&& 0x3f).toInt64.toUInt64).toInt64) &&& (9187201950435737471 : Int64))))])) _
    refine XS.lshl X0.here hx rfl (hb hby d2_26) rfl ?_
    show Steps p.tables e below (s₁.setTop (mkF m 27 #[.val (.long q1), .second, .val (.long (((q1 <<< ((1 : Int32) &&& 0x3f).toInt64) &&& (-72340172838076674 : Int64)) ||| (((q1.toUInt64 >>> ((1 : Int32) &&& 0x3f).toInt64.toUInt64).toInt64) &&& (9187201950435737471 : Int64)))), .second, .val (.long (q1 ||| (((q1 <<< ((1 : Int32) &&& 0x3f).toInt64) &&& (-72340172838076674 : Int64)) ||| (((q1.toUInt64 >>> ((1 : Int32) &&& 0x3f).toInt64.toUInt64).toInt64) &&& (9187201950435737471 : Int64))))), .second] [(.long ((q1 ||| (((q1 <<< ((1 : Int32) &&& 0x3f).toInt64) &&& (-72340172838076674 : Int64)) ||| (((q1.toUInt64 >>> ((1 : Int32) &&& 0x3f).toInt64.toUInt64).toInt64) &&& (9187201950435737471 : Int64)))) <<< ((8 : Int32) &&& 0x3f).toInt64)), (.long (((q1 <<< ((1 : Int32) &&& 0x3f).toInt64) &&& (-72340172838076674 : Int64)) ||| (((q1.toUInt64 >>> ((1 : Int32) &&& 0x3f).toInt64.toUInt64).toInt64) &&& (9187201950435737471 : Int64))))])) _
    refine XS.lor X0.here hx rfl (hb hby d2_27) rfl ?_
    show Steps p.tables e below (s₁.setTop (mkF m 28 #[.val (.long q1), .second, .val (.long (((q1 <<< ((1 : Int32) &&& 0x3f).toInt64) &&& (-72340172838076674 : Int64)) ||| (((q1.toUInt64 >>> ((1 : Int32) &&& 0x3f).toInt64.toUInt64).toInt64) &&& (9187201950435737471 : Int64)))), .second, .val (.long (q1 ||| (((q1 <<< ((1 : Int32) &&& 0x3f).toInt64) &&& (-72340172838076674 : Int64)) ||| (((q1.toUInt64 >>> ((1 : Int32) &&& 0x3f).toInt64.toUInt64).toInt64) &&& (9187201950435737471 : Int64))))), .second] [(.long ((((q1 <<< ((1 : Int32) &&& 0x3f).toInt64) &&& (-72340172838076674 : Int64)) ||| (((q1.toUInt64 >>> ((1 : Int32) &&& 0x3f).toInt64.toUInt64).toInt64) &&& (9187201950435737471 : Int64))) ||| ((q1 ||| (((q1 <<< ((1 : Int32) &&& 0x3f).toInt64) &&& (-72340172838076674 : Int64)) ||| (((q1.toUInt64 >>> ((1 : Int32) &&& 0x3f).toInt64.toUInt64).toInt64) &&& (9187201950435737471 : Int64)))) <<< ((8 : Int32) &&& 0x3f).toInt64)))])) _
    refine XS.lload X0.here hx rfl (hb hby d2_28) rfl ?_
    show Steps p.tables e below (s₁.setTop (mkF m 30 #[.val (.long q1), .second, .val (.long (((q1 <<< ((1 : Int32) &&& 0x3f).toInt64) &&& (-72340172838076674 : Int64)) ||| (((q1.toUInt64 >>> ((1 : Int32) &&& 0x3f).toInt64.toUInt64).toInt64) &&& (9187201950435737471 : Int64)))), .second, .val (.long (q1 ||| (((q1 <<< ((1 : Int32) &&& 0x3f).toInt64) &&& (-72340172838076674 : Int64)) ||| (((q1.toUInt64 >>> ((1 : Int32) &&& 0x3f).toInt64.toUInt64).toInt64) &&& (9187201950435737471 : Int64))))), .second] [(.long (q1 ||| (((q1 <<< ((1 : Int32) &&& 0x3f).toInt64) &&& (-72340172838076674 : Int64)) ||| (((q1.toUInt64 >>> ((1 : Int32) &&& 0x3f).toInt64.toUInt64).toInt64) &&& (9187201950435737471 : Int64))))), (.long ((((q1 <<< ((1 : Int32) &&& 0x3f).toInt64) &&& (-72340172838076674 : Int64)) ||| (((q1.toUInt64 >>> ((1 : Int32) &&& 0x3f).toInt64.toUInt64).toInt64) &&& (9187201950435737471 : Int64))) ||| ((q1 ||| (((q1 <<< ((1 : Int32) &&& 0x3f).toInt64) &&& (-72340172838076674 : Int64)) ||| (((q1.toUInt64 >>> ((1 : Int32) &&& 0x3f).toInt64.toUInt64).toInt64) &&& (9187201950435737471 : Int64)))) <<< ((8 : Int32) &&& 0x3f).toInt64)))])) _
    refine XS.bipush X0.here hx rfl (hb hby d2_30) ?_
    show Steps p.tables e below (s₁.setTop (mkF m 32 #[.val (.long q1), .second, .val (.long (((q1 <<< ((1 : Int32) &&& 0x3f).toInt64) &&& (-72340172838076674 : Int64)) ||| (((q1.toUInt64 >>> ((1 : Int32) &&& 0x3f).toInt64.toUInt64).toInt64) &&& (9187201950435737471 : Int64)))), .second, .val (.long (q1 ||| (((q1 <<< ((1 : Int32) &&& 0x3f).toInt64) &&& (-72340172838076674 : Int64)) ||| (((q1.toUInt64 >>> ((1 : Int32) &&& 0x3f).toInt64.toUInt64).toInt64) &&& (9187201950435737471 : Int64))))), .second] [(.int (8 : Int32)), (.long (q1 ||| (((q1 <<< ((1 : Int32) &&& 0x3f).toInt64) &&& (-72340172838076674 : Int64)) ||| (((q1.toUInt64 >>> ((1 : Int32) &&& 0x3f).toInt64.toUInt64).toInt64) &&& (9187201950435737471 : Int64))))), (.long ((((q1 <<< ((1 : Int32) &&& 0x3f).toInt64) &&& (-72340172838076674 : Int64)) ||| (((q1.toUInt64 >>> ((1 : Int32) &&& 0x3f).toInt64.toUInt64).toInt64) &&& (9187201950435737471 : Int64))) ||| ((q1 ||| (((q1 <<< ((1 : Int32) &&& 0x3f).toInt64) &&& (-72340172838076674 : Int64)) ||| (((q1.toUInt64 >>> ((1 : Int32) &&& 0x3f).toInt64.toUInt64).toInt64) &&& (9187201950435737471 : Int64)))) <<< ((8 : Int32) &&& 0x3f).toInt64)))])) _
    refine XS.lushr X0.here hx rfl (hb hby d2_32) rfl ?_
    show Steps p.tables e below (s₁.setTop (mkF m 33 #[.val (.long q1), .second, .val (.long (((q1 <<< ((1 : Int32) &&& 0x3f).toInt64) &&& (-72340172838076674 : Int64)) ||| (((q1.toUInt64 >>> ((1 : Int32) &&& 0x3f).toInt64.toUInt64).toInt64) &&& (9187201950435737471 : Int64)))), .second, .val (.long (q1 ||| (((q1 <<< ((1 : Int32) &&& 0x3f).toInt64) &&& (-72340172838076674 : Int64)) ||| (((q1.toUInt64 >>> ((1 : Int32) &&& 0x3f).toInt64.toUInt64).toInt64) &&& (9187201950435737471 : Int64))))), .second] [(.long (((q1 ||| (((q1 <<< ((1 : Int32) &&& 0x3f).toInt64) &&& (-72340172838076674 : Int64)) ||| (((q1.toUInt64 >>> ((1 : Int32) &&& 0x3f).toInt64.toUInt64).toInt64) &&& (9187201950435737471 : Int64)))).toUInt64 >>> ((8 : Int32) &&& 0x3f).toInt64.toUInt64).toInt64)), (.long ((((q1 <<< ((1 : Int32) &&& 0x3f).toInt64) &&& (-72340172838076674 : Int64)) ||| (((q1.toUInt64 >>> ((1 : Int32) &&& 0x3f).toInt64.toUInt64).toInt64) &&& (9187201950435737471 : Int64))) ||| ((q1 ||| (((q1 <<< ((1 : Int32) &&& 0x3f).toInt64) &&& (-72340172838076674 : Int64)) ||| (((q1.toUInt64 >>> ((1 : Int32) &&& 0x3f).toInt64.toUInt64).toInt64) &&& (9187201950435737471 : Int64)))) <<< ((8 : Int32) &&& 0x3f).toInt64)))])) _
    refine XS.lor X0.here hx rfl (hb hby d2_33) rfl ?_
    exact k
  obtain ⟨fs, hr, hrun, hended, hW, hsame⟩ := X0.leave (v := some (.long (((((q1 <<< ((1 : Int32) &&& 0x3f).toInt64) &&& (-72340172838076674 : Int64)) ||| (((q1.toUInt64 >>> ((1 : Int32) &&& 0x3f).toInt64.toUInt64).toInt64) &&& (9187201950435737471 : Int64))) ||| ((q1 ||| (((q1 <<< ((1 : Int32) &&& 0x3f).toInt64) &&& (-72340172838076674 : Int64)) ||| (((q1.toUInt64 >>> ((1 : Int32) &&& 0x3f).toInt64.toUInt64).toInt64) &&& (9187201950435737471 : Int64)))) <<< ((8 : Int32) &&& 0x3f).toInt64)) ||| (((q1 ||| (((q1 <<< ((1 : Int32) &&& 0x3f).toInt64) &&& (-72340172838076674 : Int64)) ||| (((q1.toUInt64 >>> ((1 : Int32) &&& 0x3f).toInt64.toUInt64).toInt64) &&& (9187201950435737471 : Int64)))).toUInt64 >>> ((8 : Int32) &&& 0x3f).toInt64.toUInt64).toInt64)))) (fun h => by rw [Bd.returns] at h; cases h)
  refine ⟨_, _, pre27 _ ?_, hrun, hended, _, _, rfl, ?_, ⟨_, rfl⟩, hW, hsame.mono (by decide) (by decide)⟩
  · show Steps p.tables e below (s₁.setTop (mkF m 34 #[.val (.long q1), .second, .val (.long (((q1 <<< ((1 : Int32) &&& 0x3f).toInt64) &&& (-72340172838076674 : Int64)) ||| (((q1.toUInt64 >>> ((1 : Int32) &&& 0x3f).toInt64.toUInt64).toInt64) &&& (9187201950435737471 : Int64)))), .second, .val (.long (q1 ||| (((q1 <<< ((1 : Int32) &&& 0x3f).toInt64) &&& (-72340172838076674 : Int64)) ||| (((q1.toUInt64 >>> ((1 : Int32) &&& 0x3f).toInt64.toUInt64).toInt64) &&& (9187201950435737471 : Int64))))), .second] [(.long (((((q1 <<< ((1 : Int32) &&& 0x3f).toInt64) &&& (-72340172838076674 : Int64)) ||| (((q1.toUInt64 >>> ((1 : Int32) &&& 0x3f).toInt64.toUInt64).toInt64) &&& (9187201950435737471 : Int64))) ||| ((q1 ||| (((q1 <<< ((1 : Int32) &&& 0x3f).toInt64) &&& (-72340172838076674 : Int64)) ||| (((q1.toUInt64 >>> ((1 : Int32) &&& 0x3f).toInt64.toUInt64).toInt64) &&& (9187201950435737471 : Int64)))) <<< ((8 : Int32) &&& 0x3f).toInt64)) ||| (((q1 ||| (((q1 <<< ((1 : Int32) &&& 0x3f).toInt64) &&& (-72340172838076674 : Int64)) ||| (((q1.toUInt64 >>> ((1 : Int32) &&& 0x3f).toInt64.toUInt64).toInt64) &&& (9187201950435737471 : Int64)))).toUInt64 >>> ((8 : Int32) &&& 0x3f).toInt64.toUInt64).toInt64)))])) _
    exact Jvm.RoadKit.retOut X0 hx Bd.returns rfl (Or.inr (Or.inl ⟨rfl, rfl, _, rfl⟩)) (hb hby d2_34) hr
  · show Q2 Z q1 h0 n0 _ s₁.heap _
    rw [e0]
    exact ⟨(by rw [F2]), N0, rfl⟩
theorem pd__JII_Z : parseMethodDescriptor "(JII)Z" = some ⟨[.long, .int, .int], some .boolean⟩ := by decide +kernel
theorem pd__J_J : parseMethodDescriptor "(J)J" = some ⟨[.long], some .long⟩ := by decide +kernel
theorem ef_0 (m : MethodId) (x0 : Int64) (x1 : Int32) : entryFrame m #[(.long x0), (.int x1)] maxLocals = mkF m 0 #[.val (.long x0), .second, .val (.int x1), .unset, .unset, .unset, .unset, .unset, .unset, .unset] [] := by first | (simp [entryFrame, mkF, argsToLocals, Value.category, maxLocals]; done) | rfl
def F0 (q1 : Int64) (p2 : Int32) : Int32 :=
  if (F1 q1 (((p2 &&& (63 : Int32)) &&& (7 : Int32)) - (1 : Int32)) ((((p2 &&& (63 : Int32)).toUInt32 >>> ((3 : Int32) &&& 31).toUInt32).toInt32) - (1 : Int32))) = (0 : Int32) then (  if (F1 q1 ((p2 &&& (63 : Int32)) &&& (7 : Int32)) ((((p2 &&& (63 : Int32)).toUInt32 >>> ((3 : Int32) &&& 31).toUInt32).toInt32) - (1 : Int32))) = (0 : Int32) then (  if (F1 q1 (((p2 &&& (63 : Int32)) &&& (7 : Int32)) + (1 : Int32)) ((((p2 &&& (63 : Int32)).toUInt32 >>> ((3 : Int32) &&& 31).toUInt32).toInt32) - (1 : Int32))) = (0 : Int32) then (  if (F1 q1 (((p2 &&& (63 : Int32)) &&& (7 : Int32)) - (1 : Int32)) (((p2 &&& (63 : Int32)).toUInt32 >>> ((3 : Int32) &&& 31).toUInt32).toInt32)) = (0 : Int32) then (  if (F1 q1 (((p2 &&& (63 : Int32)) &&& (7 : Int32)) + (1 : Int32)) (((p2 &&& (63 : Int32)).toUInt32 >>> ((3 : Int32) &&& 31).toUInt32).toInt32)) = (0 : Int32) then (  if (F1 q1 (((p2 &&& (63 : Int32)) &&& (7 : Int32)) - (1 : Int32)) ((((p2 &&& (63 : Int32)).toUInt32 >>> ((3 : Int32) &&& 31).toUInt32).toInt32) + (1 : Int32))) = (0 : Int32) then (  if (F1 q1 ((p2 &&& (63 : Int32)) &&& (7 : Int32)) ((((p2 &&& (63 : Int32)).toUInt32 >>> ((3 : Int32) &&& 31).toUInt32).toInt32) + (1 : Int32))) = (0 : Int32) then (  if (F1 q1 (((p2 &&& (63 : Int32)) &&& (7 : Int32)) + (1 : Int32)) ((((p2 &&& (63 : Int32)).toUInt32 >>> ((3 : Int32) &&& 31).toUInt32).toInt32) + (1 : Int32))) = (0 : Int32) then (  if (lcmpW ((((F2 q1).toUInt64 >>> ((p2 &&& (63 : Int32)) &&& 0x3f).toInt64.toUInt64).toInt64) &&& (1 : Int64)) (0 : Int64)) = (0 : Int32) then (  (1 : Int32))
  else (  (0 : Int32)))
  else (  if (lcmpW ((((F2 q1).toUInt64 >>> ((p2 &&& (63 : Int32)) &&& 0x3f).toInt64.toUInt64).toInt64) &&& (1 : Int64)) (0 : Int64)) = (0 : Int32) then (  (0 : Int32))
  else (  (1 : Int32))))
  else (  if (lcmpW ((((F2 q1).toUInt64 >>> ((p2 &&& (63 : Int32)) &&& 0x3f).toInt64.toUInt64).toInt64) &&& (1 : Int64)) (0 : Int64)) = (0 : Int32) then (  (0 : Int32))
  else (  (1 : Int32))))
  else (  if (lcmpW ((((F2 q1).toUInt64 >>> ((p2 &&& (63 : Int32)) &&& 0x3f).toInt64.toUInt64).toInt64) &&& (1 : Int64)) (0 : Int64)) = (0 : Int32) then (  (0 : Int32))
  else (  (1 : Int32))))
  else (  if (lcmpW ((((F2 q1).toUInt64 >>> ((p2 &&& (63 : Int32)) &&& 0x3f).toInt64.toUInt64).toInt64) &&& (1 : Int64)) (0 : Int64)) = (0 : Int32) then (  (0 : Int32))
  else (  (1 : Int32))))
  else (  if (lcmpW ((((F2 q1).toUInt64 >>> ((p2 &&& (63 : Int32)) &&& 0x3f).toInt64.toUInt64).toInt64) &&& (1 : Int64)) (0 : Int64)) = (0 : Int32) then (  (0 : Int32))
  else (  (1 : Int32))))
  else (  if (lcmpW ((((F2 q1).toUInt64 >>> ((p2 &&& (63 : Int32)) &&& 0x3f).toInt64.toUInt64).toInt64) &&& (1 : Int64)) (0 : Int64)) = (0 : Int32) then (  (0 : Int32))
  else (  (1 : Int32))))
  else (  if (lcmpW ((((F2 q1).toUInt64 >>> ((p2 &&& (63 : Int32)) &&& 0x3f).toInt64.toUInt64).toInt64) &&& (1 : Int64)) (0 : Int64)) = (0 : Int32) then (  (0 : Int32))
  else (  (1 : Int32))))
  else (  if (lcmpW ((((F2 q1).toUInt64 >>> ((p2 &&& (63 : Int32)) &&& 0x3f).toInt64.toUInt64).toInt64) &&& (1 : Int64)) (0 : Int64)) = (0 : Int32) then (  (0 : Int32))
  else (  (1 : Int32)))
def Q0 (Z : State) (q1 : Int64) (p2 : Int32) (h0 : Heap) (n0 : Nat) (v : Option Value) (h : Heap) (L : List Loc) : Prop := v = some (.int (F0 q1 p2)) ∧ Fr n0 L ∧ h = h0
set_option maxRecDepth 65536 in
set_option maxHeartbeats 40000000 in
theorem rm0 (l : Launch) (Z : State) (a0 : Array Value) (hw : ∀ d ∈ tables_1, d.before a0 Z = true) (ws : List Jvm.Cond) (q1 : Int64) (p2 : Int32) (h0 : Heap) (n0 : Nat) (Z0 : n0 ≤ h0.size)  :
    MetFree l x (head1 (Jvm.Cond.code x code maxLocals ret :: ws) room_1) (fun a U => a = #[(.long q1), (.int p2)] ∧ Z.Warmed39 U.vm ∧ U.heap = h0) (fun _ _ _ _ _ => True) (fun _ U o U' => ∃ v L, o = .returned v ∧ Q0 Z q1 p2 h0 n0 v U'.heap L ∧ FrameEnd U o U' L room_1.cells room_1.slots) := by
  refine MetFree.of_bodySF (plainFor_of_name pn_1) hisR ?_
  intro p e s m args below meth c s₁ Bd hml0 hP hK
  obtain ⟨rfl, hZ, hh⟩ := hP
  have hx := Bd.exec
  have hby := Bd.bytes
  have hml : c.maxLocals = 10 := hml0
  have hown : s.vm.findClass "com/example/tabuleiro/tabuleiro/othello/OthelloPositionNeighboursPinLaw" = some m.cls := findClass_of_methodNamed Bd.named
  have hnm := (name_of_methodNamed Bd.named Bd.method).1
  have X0 : Stand p l e room_1 s m #[(.long q1), (.int p2)] below meth c s₁ [] 0 0 := Stand.of_body Bd
  have e0 : s₁.heap = h0 := by rw [← hh, Bd.state]; rfl
  have N0 := Fr.nil n0
  have pre0 : ∀ t, Steps p.tables e below (s₁.setTop (mkF m 0 #[.val (.long q1), .second, .val (.int p2), .unset, .unset, .unset, .unset, .unset, .unset, .unset] [])) t → Steps p.tables e below (s₁.setTop (entryFrame m #[(.long q1), (.int p2)] maxLocals)) t := fun t k => castTop (ef_0 m q1 p2) k
  have pre28 : ∀ t, Steps p.tables e below (s₁.setTop (mkF m 25 #[.val (.long q1), .second, .val (.int p2), .val (.int (p2 &&& (63 : Int32))), .val (.int ((p2 &&& (63 : Int32)) &&& (7 : Int32))), .val (.int (((p2 &&& (63 : Int32)).toUInt32 >>> ((3 : Int32) &&& 31).toUInt32).toInt32)), .unset, .unset, .unset, .unset] [(.int ((((p2 &&& (63 : Int32)).toUInt32 >>> ((3 : Int32) &&& 31).toUInt32).toInt32) - (1 : Int32))), (.int (((p2 &&& (63 : Int32)) &&& (7 : Int32)) - (1 : Int32))), (.long q1)])) t → Steps p.tables e below (s₁.setTop (entryFrame m #[(.long q1), (.int p2)] maxLocals)) t := by
    intro t k
    refine pre0 _ ?_
    show Steps p.tables e below (s₁.setTop (mkF m 0 #[.val (.long q1), .second, .val (.int p2), .unset, .unset, .unset, .unset, .unset, .unset, .unset] [])) _
    refine XS.iloadN X0.here hx rfl (hb hby at_0) rfl ?_
    show Steps p.tables e below (s₁.setTop (mkF m 1 #[.val (.long q1), .second, .val (.int p2), .unset, .unset, .unset, .unset, .unset, .unset, .unset] [(.int p2)])) _
    refine XS.bipush X0.here hx rfl (hb hby at_1) ?_
    show Steps p.tables e below (s₁.setTop (mkF m 3 #[.val (.long q1), .second, .val (.int p2), .unset, .unset, .unset, .unset, .unset, .unset, .unset] [(.int (63 : Int32)), (.int p2)])) _
    refine XS.iand X0.here hx rfl (hb hby at_3) rfl ?_
    show Steps p.tables e below (s₁.setTop (mkF m 4 #[.val (.long q1), .second, .val (.int p2), .unset, .unset, .unset, .unset, .unset, .unset, .unset] [(.int (p2 &&& (63 : Int32)))])) _
    refine XS.istoreN X0.here hx rfl (hb hby at_4) rfl (l' := #[.val (.long q1), .second, .val (.int p2), .val (.int (p2 &&& (63 : Int32))), .unset, .unset, .unset, .unset, .unset, .unset]) rfl ?_
    show Steps p.tables e below (s₁.setTop (mkF m 5 #[.val (.long q1), .second, .val (.int p2), .val (.int (p2 &&& (63 : Int32))), .unset, .unset, .unset, .unset, .unset, .unset] [])) _
    refine XS.iloadN X0.here hx rfl (hb hby at_5) rfl ?_
    show Steps p.tables e below (s₁.setTop (mkF m 6 #[.val (.long q1), .second, .val (.int p2), .val (.int (p2 &&& (63 : Int32))), .unset, .unset, .unset, .unset, .unset, .unset] [(.int (p2 &&& (63 : Int32)))])) _
    refine XS.bipush X0.here hx rfl (hb hby at_6) ?_
    show Steps p.tables e below (s₁.setTop (mkF m 8 #[.val (.long q1), .second, .val (.int p2), .val (.int (p2 &&& (63 : Int32))), .unset, .unset, .unset, .unset, .unset, .unset] [(.int (7 : Int32)), (.int (p2 &&& (63 : Int32)))])) _
    refine XS.iand X0.here hx rfl (hb hby at_8) rfl ?_
    show Steps p.tables e below (s₁.setTop (mkF m 9 #[.val (.long q1), .second, .val (.int p2), .val (.int (p2 &&& (63 : Int32))), .unset, .unset, .unset, .unset, .unset, .unset] [(.int ((p2 &&& (63 : Int32)) &&& (7 : Int32)))])) _
    refine XS.istore X0.here hx rfl (hb hby at_9) rfl (l' := #[.val (.long q1), .second, .val (.int p2), .val (.int (p2 &&& (63 : Int32))), .val (.int ((p2 &&& (63 : Int32)) &&& (7 : Int32))), .unset, .unset, .unset, .unset, .unset]) rfl ?_
    show Steps p.tables e below (s₁.setTop (mkF m 11 #[.val (.long q1), .second, .val (.int p2), .val (.int (p2 &&& (63 : Int32))), .val (.int ((p2 &&& (63 : Int32)) &&& (7 : Int32))), .unset, .unset, .unset, .unset, .unset] [])) _
    refine XS.iloadN X0.here hx rfl (hb hby at_11) rfl ?_
    show Steps p.tables e below (s₁.setTop (mkF m 12 #[.val (.long q1), .second, .val (.int p2), .val (.int (p2 &&& (63 : Int32))), .val (.int ((p2 &&& (63 : Int32)) &&& (7 : Int32))), .unset, .unset, .unset, .unset, .unset] [(.int (p2 &&& (63 : Int32)))])) _
    refine XS.iconst X0.here hx rfl (hb hby at_12) ?_
    show Steps p.tables e below (s₁.setTop (mkF m 13 #[.val (.long q1), .second, .val (.int p2), .val (.int (p2 &&& (63 : Int32))), .val (.int ((p2 &&& (63 : Int32)) &&& (7 : Int32))), .unset, .unset, .unset, .unset, .unset] [(.int (3 : Int32)), (.int (p2 &&& (63 : Int32)))])) _
    refine XS.iushr X0.here hx rfl (hb hby at_13) rfl ?_
    show Steps p.tables e below (s₁.setTop (mkF m 14 #[.val (.long q1), .second, .val (.int p2), .val (.int (p2 &&& (63 : Int32))), .val (.int ((p2 &&& (63 : Int32)) &&& (7 : Int32))), .unset, .unset, .unset, .unset, .unset] [(.int (((p2 &&& (63 : Int32)).toUInt32 >>> ((3 : Int32) &&& 31).toUInt32).toInt32))])) _
    refine XS.istore X0.here hx rfl (hb hby at_14) rfl (l' := #[.val (.long q1), .second, .val (.int p2), .val (.int (p2 &&& (63 : Int32))), .val (.int ((p2 &&& (63 : Int32)) &&& (7 : Int32))), .val (.int (((p2 &&& (63 : Int32)).toUInt32 >>> ((3 : Int32) &&& 31).toUInt32).toInt32)), .unset, .unset, .unset, .unset]) rfl ?_
    show Steps p.tables e below (s₁.setTop (mkF m 16 #[.val (.long q1), .second, .val (.int p2), .val (.int (p2 &&& (63 : Int32))), .val (.int ((p2 &&& (63 : Int32)) &&& (7 : Int32))), .val (.int (((p2 &&& (63 : Int32)).toUInt32 >>> ((3 : Int32) &&& 31).toUInt32).toInt32)), .unset, .unset, .unset, .unset] [])) _
    refine XS.lloadN X0.here hx rfl (hb hby at_16) rfl ?_
    show Steps p.tables e below (s₁.setTop (mkF m 17 #[.val (.long q1), .second, .val (.int p2), .val (.int (p2 &&& (63 : Int32))), .val (.int ((p2 &&& (63 : Int32)) &&& (7 : Int32))), .val (.int (((p2 &&& (63 : Int32)).toUInt32 >>> ((3 : Int32) &&& 31).toUInt32).toInt32)), .unset, .unset, .unset, .unset] [(.long q1)])) _
    refine XS.iload X0.here hx rfl (hb hby at_17) rfl ?_
    show Steps p.tables e below (s₁.setTop (mkF m 19 #[.val (.long q1), .second, .val (.int p2), .val (.int (p2 &&& (63 : Int32))), .val (.int ((p2 &&& (63 : Int32)) &&& (7 : Int32))), .val (.int (((p2 &&& (63 : Int32)).toUInt32 >>> ((3 : Int32) &&& 31).toUInt32).toInt32)), .unset, .unset, .unset, .unset] [(.int ((p2 &&& (63 : Int32)) &&& (7 : Int32))), (.long q1)])) _
    refine XS.iconst X0.here hx rfl (hb hby at_19) ?_
    show Steps p.tables e below (s₁.setTop (mkF m 20 #[.val (.long q1), .second, .val (.int p2), .val (.int (p2 &&& (63 : Int32))), .val (.int ((p2 &&& (63 : Int32)) &&& (7 : Int32))), .val (.int (((p2 &&& (63 : Int32)).toUInt32 >>> ((3 : Int32) &&& 31).toUInt32).toInt32)), .unset, .unset, .unset, .unset] [(.int (1 : Int32)), (.int ((p2 &&& (63 : Int32)) &&& (7 : Int32))), (.long q1)])) _
    refine XS.isub X0.here hx rfl (hb hby at_20) rfl ?_
    show Steps p.tables e below (s₁.setTop (mkF m 21 #[.val (.long q1), .second, .val (.int p2), .val (.int (p2 &&& (63 : Int32))), .val (.int ((p2 &&& (63 : Int32)) &&& (7 : Int32))), .val (.int (((p2 &&& (63 : Int32)).toUInt32 >>> ((3 : Int32) &&& 31).toUInt32).toInt32)), .unset, .unset, .unset, .unset] [(.int (((p2 &&& (63 : Int32)) &&& (7 : Int32)) - (1 : Int32))), (.long q1)])) _
    refine XS.iload X0.here hx rfl (hb hby at_21) rfl ?_
    show Steps p.tables e below (s₁.setTop (mkF m 23 #[.val (.long q1), .second, .val (.int p2), .val (.int (p2 &&& (63 : Int32))), .val (.int ((p2 &&& (63 : Int32)) &&& (7 : Int32))), .val (.int (((p2 &&& (63 : Int32)).toUInt32 >>> ((3 : Int32) &&& 31).toUInt32).toInt32)), .unset, .unset, .unset, .unset] [(.int (((p2 &&& (63 : Int32)).toUInt32 >>> ((3 : Int32) &&& 31).toUInt32).toInt32)), (.int (((p2 &&& (63 : Int32)) &&& (7 : Int32)) - (1 : Int32))), (.long q1)])) _
    refine XS.iconst X0.here hx rfl (hb hby at_23) ?_
    show Steps p.tables e below (s₁.setTop (mkF m 24 #[.val (.long q1), .second, .val (.int p2), .val (.int (p2 &&& (63 : Int32))), .val (.int ((p2 &&& (63 : Int32)) &&& (7 : Int32))), .val (.int (((p2 &&& (63 : Int32)).toUInt32 >>> ((3 : Int32) &&& 31).toUInt32).toInt32)), .unset, .unset, .unset, .unset] [(.int (1 : Int32)), (.int (((p2 &&& (63 : Int32)).toUInt32 >>> ((3 : Int32) &&& 31).toUInt32).toInt32)), (.int (((p2 &&& (63 : Int32)) &&& (7 : Int32)) - (1 : Int32))), (.long q1)])) _
    refine XS.isub X0.here hx rfl (hb hby at_24) rfl ?_
    exact k
  obtain ⟨_, _, ⟨T29, L29, k29, n29⟩, -, X29, ⟨Lc29, hQ29, l29, y29, z29⟩, st29⟩ := Jvm.LawKit.callS X0 hx (y := (⟨"com/example/tabuleiro/tabuleiro/othello/OthelloPositionNeighboursPinLaw", "has", "(JII)Z"⟩ : MethodName)) hown (mvT hZ (hw _ (List.mem_of_getElem? (i := 0) rfl))) (mvT hZ (hw _ (List.mem_of_getElem? (i := 1) rfl))) (mvT hZ (hw _ (List.mem_of_getElem? (i := 2) rfl))) (mvT hZ (hw _ (List.mem_of_getElem? (i := 3) rfl))) (by decide) (backOf (W := 0) (rm1 l Z a0 hw [] q1 (((p2 &&& (63 : Int32)) &&& (7 : Int32)) - (1 : Int32)) ((((p2 &&& (63 : Int32)).toUInt32 >>> ((3 : Int32) &&& 31).toUInt32).toInt32) - (1 : Int32)) h0 n0 Z0 ) hZ (hw _ (List.mem_of_getElem? (i := 3) rfl)) (hw _ (List.mem_of_getElem? (i := 2) rfl)) (by decide) (by decide)) (g := (mkF m 25 #[.val (.long q1), .second, .val (.int p2), .val (.int (p2 &&& (63 : Int32))), .val (.int ((p2 &&& (63 : Int32)) &&& (7 : Int32))), .val (.int (((p2 &&& (63 : Int32)).toUInt32 >>> ((3 : Int32) &&& 31).toUInt32).toInt32)), .unset, .unset, .unset, .unset] [(.int ((((p2 &&& (63 : Int32)).toUInt32 >>> ((3 : Int32) &&& 31).toUInt32).toInt32) - (1 : Int32))), (.int (((p2 &&& (63 : Int32)) &&& (7 : Int32)) - (1 : Int32))), (.long q1)])) rfl (by rw [hml]; rfl) (argsL := [(.long q1), (.int (((p2 &&& (63 : Int32)) &&& (7 : Int32)) - (1 : Int32))), (.int ((((p2 &&& (63 : Int32)).toUInt32 >>> ((3 : Int32) &&& 31).toUInt32).toInt32) - (1 : Int32)))]) (rest := []) (lenOf pd__JII_Z rfl) rfl (by show 2 * 0 + _ ≤ _; exact Nat.le_of_eq rfl) (hb hby at_25) (fun _ _ => ⟨rfl, e0, (by decide : 0 + 0 ≤ _), (by decide : 0 + 0 ≤ _)⟩)
  dsimp only [Pt.U, Pt.locs, Pt.cells, Pt.slots] at X29 l29 y29 z29 st29 hQ29
  subst l29 y29 z29
  obtain ⟨rfl, N29q, e29⟩ := hQ29
  have N29 := Fr.app N0 N29q
  have pre30 : ∀ t, Steps p.tables e below (T29.setTop (mkF m 28 #[.val (.long q1), .second, .val (.int p2), .val (.int (p2 &&& (63 : Int32))), .val (.int ((p2 &&& (63 : Int32)) &&& (7 : Int32))), .val (.int (((p2 &&& (63 : Int32)).toUInt32 >>> ((3 : Int32) &&& 31).toUInt32).toInt32)), .unset, .unset, .unset, .unset] [(.int (F1 q1 (((p2 &&& (63 : Int32)) &&& (7 : Int32)) - (1 : Int32)) ((((p2 &&& (63 : Int32)).toUInt32 >>> ((3 : Int32) &&& 31).toUInt32).toInt32) - (1 : Int32))))])) t → Steps p.tables e below (s₁.setTop (entryFrame m #[(.long q1), (.int p2)] maxLocals)) t := by
    intro t k
    refine pre28 _ ?_
    show Steps p.tables e below (s₁.setTop (mkF m 25 #[.val (.long q1), .second, .val (.int p2), .val (.int (p2 &&& (63 : Int32))), .val (.int ((p2 &&& (63 : Int32)) &&& (7 : Int32))), .val (.int (((p2 &&& (63 : Int32)).toUInt32 >>> ((3 : Int32) &&& 31).toUInt32).toInt32)), .unset, .unset, .unset, .unset] [(.int ((((p2 &&& (63 : Int32)).toUInt32 >>> ((3 : Int32) &&& 31).toUInt32).toInt32) - (1 : Int32))), (.int (((p2 &&& (63 : Int32)) &&& (7 : Int32)) - (1 : Int32))), (.long q1)])) _
    refine st29 _ ?_
    exact k
  by_cases hc31 : (F1 q1 (((p2 &&& (63 : Int32)) &&& (7 : Int32)) - (1 : Int32)) ((((p2 &&& (63 : Int32)).toUInt32 >>> ((3 : Int32) &&& 31).toUInt32).toInt32) - (1 : Int32))) = (0 : Int32)
  · have pre32 : ∀ t, Steps p.tables e below (T29.setTop (mkF m 31 #[.val (.long q1), .second, .val (.int p2), .val (.int (p2 &&& (63 : Int32))), .val (.int ((p2 &&& (63 : Int32)) &&& (7 : Int32))), .val (.int (((p2 &&& (63 : Int32)).toUInt32 >>> ((3 : Int32) &&& 31).toUInt32).toInt32)), .unset, .unset, .unset, .unset] [])) t → Steps p.tables e below (s₁.setTop (entryFrame m #[(.long q1), (.int p2)] maxLocals)) t := by
      intro t k
      refine pre30 _ ?_
      show Steps p.tables e below (T29.setTop (mkF m 28 #[.val (.long q1), .second, .val (.int p2), .val (.int (p2 &&& (63 : Int32))), .val (.int ((p2 &&& (63 : Int32)) &&& (7 : Int32))), .val (.int (((p2 &&& (63 : Int32)).toUInt32 >>> ((3 : Int32) &&& 31).toUInt32).toInt32)), .unset, .unset, .unset, .unset] [(.int (F1 q1 (((p2 &&& (63 : Int32)) &&& (7 : Int32)) - (1 : Int32)) ((((p2 &&& (63 : Int32)).toUInt32 >>> ((3 : Int32) &&& 31).toUInt32).toInt32) - (1 : Int32))))])) _
      refine XS.ifNo X29.here hx rfl (hb hby at_28) rfl ((if0 _ _).trans (teq hc31).2) ?_
      exact k
    have pre33 : ∀ t, Steps p.tables e below (T29.setTop (mkF m 38 #[.val (.long q1), .second, .val (.int p2), .val (.int (p2 &&& (63 : Int32))), .val (.int ((p2 &&& (63 : Int32)) &&& (7 : Int32))), .val (.int (((p2 &&& (63 : Int32)).toUInt32 >>> ((3 : Int32) &&& 31).toUInt32).toInt32)), .unset, .unset, .unset, .unset] [(.int ((((p2 &&& (63 : Int32)).toUInt32 >>> ((3 : Int32) &&& 31).toUInt32).toInt32) - (1 : Int32))), (.int ((p2 &&& (63 : Int32)) &&& (7 : Int32))), (.long q1)])) t → Steps p.tables e below (s₁.setTop (entryFrame m #[(.long q1), (.int p2)] maxLocals)) t := by
      intro t k
      refine pre32 _ ?_
      show Steps p.tables e below (T29.setTop (mkF m 31 #[.val (.long q1), .second, .val (.int p2), .val (.int (p2 &&& (63 : Int32))), .val (.int ((p2 &&& (63 : Int32)) &&& (7 : Int32))), .val (.int (((p2 &&& (63 : Int32)).toUInt32 >>> ((3 : Int32) &&& 31).toUInt32).toInt32)), .unset, .unset, .unset, .unset] [])) _
      refine XS.lloadN X29.here hx rfl (hb hby at_31) rfl ?_
      show Steps p.tables e below (T29.setTop (mkF m 32 #[.val (.long q1), .second, .val (.int p2), .val (.int (p2 &&& (63 : Int32))), .val (.int ((p2 &&& (63 : Int32)) &&& (7 : Int32))), .val (.int (((p2 &&& (63 : Int32)).toUInt32 >>> ((3 : Int32) &&& 31).toUInt32).toInt32)), .unset, .unset, .unset, .unset] [(.long q1)])) _
      refine XS.iload X29.here hx rfl (hb hby at_32) rfl ?_
      show Steps p.tables e below (T29.setTop (mkF m 34 #[.val (.long q1), .second, .val (.int p2), .val (.int (p2 &&& (63 : Int32))), .val (.int ((p2 &&& (63 : Int32)) &&& (7 : Int32))), .val (.int (((p2 &&& (63 : Int32)).toUInt32 >>> ((3 : Int32) &&& 31).toUInt32).toInt32)), .unset, .unset, .unset, .unset] [(.int ((p2 &&& (63 : Int32)) &&& (7 : Int32))), (.long q1)])) _
      refine XS.iload X29.here hx rfl (hb hby at_34) rfl ?_
      show Steps p.tables e below (T29.setTop (mkF m 36 #[.val (.long q1), .second, .val (.int p2), .val (.int (p2 &&& (63 : Int32))), .val (.int ((p2 &&& (63 : Int32)) &&& (7 : Int32))), .val (.int (((p2 &&& (63 : Int32)).toUInt32 >>> ((3 : Int32) &&& 31).toUInt32).toInt32)), .unset, .unset, .unset, .unset] [(.int (((p2 &&& (63 : Int32)).toUInt32 >>> ((3 : Int32) &&& 31).toUInt32).toInt32)), (.int ((p2 &&& (63 : Int32)) &&& (7 : Int32))), (.long q1)])) _
      refine XS.iconst X29.here hx rfl (hb hby at_36) ?_
      show Steps p.tables e below (T29.setTop (mkF m 37 #[.val (.long q1), .second, .val (.int p2), .val (.int (p2 &&& (63 : Int32))), .val (.int ((p2 &&& (63 : Int32)) &&& (7 : Int32))), .val (.int (((p2 &&& (63 : Int32)).toUInt32 >>> ((3 : Int32) &&& 31).toUInt32).toInt32)), .unset, .unset, .unset, .unset] [(.int (1 : Int32)), (.int (((p2 &&& (63 : Int32)).toUInt32 >>> ((3 : Int32) &&& 31).toUInt32).toInt32)), (.int ((p2 &&& (63 : Int32)) &&& (7 : Int32))), (.long q1)])) _
      refine XS.isub X29.here hx rfl (hb hby at_37) rfl ?_
      exact k
    obtain ⟨_, _, ⟨T34, L34, k34, n34⟩, -, X34, ⟨Lc34, hQ34, l34, y34, z34⟩, st34⟩ := Jvm.LawKit.callS X29 hx (y := (⟨"com/example/tabuleiro/tabuleiro/othello/OthelloPositionNeighboursPinLaw", "has", "(JII)Z"⟩ : MethodName)) hown (mvT hZ (hw _ (List.mem_of_getElem? (i := 0) rfl))) (mvT hZ (hw _ (List.mem_of_getElem? (i := 1) rfl))) (mvT hZ (hw _ (List.mem_of_getElem? (i := 2) rfl))) (mvT hZ (hw _ (List.mem_of_getElem? (i := 3) rfl))) (by decide) (backOf (W := 0) (rm1 l Z a0 hw [] q1 ((p2 &&& (63 : Int32)) &&& (7 : Int32)) ((((p2 &&& (63 : Int32)).toUInt32 >>> ((3 : Int32) &&& 31).toUInt32).toInt32) - (1 : Int32)) h0 n0 Z0 ) hZ (hw _ (List.mem_of_getElem? (i := 3) rfl)) (hw _ (List.mem_of_getElem? (i := 2) rfl)) (by decide) (by decide)) (g := (mkF m 38 #[.val (.long q1), .second, .val (.int p2), .val (.int (p2 &&& (63 : Int32))), .val (.int ((p2 &&& (63 : Int32)) &&& (7 : Int32))), .val (.int (((p2 &&& (63 : Int32)).toUInt32 >>> ((3 : Int32) &&& 31).toUInt32).toInt32)), .unset, .unset, .unset, .unset] [(.int ((((p2 &&& (63 : Int32)).toUInt32 >>> ((3 : Int32) &&& 31).toUInt32).toInt32) - (1 : Int32))), (.int ((p2 &&& (63 : Int32)) &&& (7 : Int32))), (.long q1)])) rfl (by rw [hml]; rfl) (argsL := [(.long q1), (.int ((p2 &&& (63 : Int32)) &&& (7 : Int32))), (.int ((((p2 &&& (63 : Int32)).toUInt32 >>> ((3 : Int32) &&& 31).toUInt32).toInt32) - (1 : Int32)))]) (rest := []) (lenOf pd__JII_Z rfl) rfl (by show 2 * 0 + _ ≤ _; exact Nat.le_of_eq rfl) (hb hby at_38) (fun _ _ => ⟨rfl, e29, (by decide : 0 + 0 ≤ _), (by decide : 0 + 0 ≤ _)⟩)
    dsimp only [Pt.U, Pt.locs, Pt.cells, Pt.slots] at X34 l34 y34 z34 st34 hQ34
    subst l34 y34 z34
    obtain ⟨rfl, N34q, e34⟩ := hQ34
    have N34 := Fr.app N29 N34q
    have pre35 : ∀ t, Steps p.tables e below (T34.setTop (mkF m 41 #[.val (.long q1), .second, .val (.int p2), .val (.int (p2 &&& (63 : Int32))), .val (.int ((p2 &&& (63 : Int32)) &&& (7 : Int32))), .val (.int (((p2 &&& (63 : Int32)).toUInt32 >>> ((3 : Int32) &&& 31).toUInt32).toInt32)), .unset, .unset, .unset, .unset] [(.int (F1 q1 ((p2 &&& (63 : Int32)) &&& (7 : Int32)) ((((p2 &&& (63 : Int32)).toUInt32 >>> ((3 : Int32) &&& 31).toUInt32).toInt32) - (1 : Int32))))])) t → Steps p.tables e below (s₁.setTop (entryFrame m #[(.long q1), (.int p2)] maxLocals)) t := by
      intro t k
      refine pre33 _ ?_
      show Steps p.tables e below (T29.setTop (mkF m 38 #[.val (.long q1), .second, .val (.int p2), .val (.int (p2 &&& (63 : Int32))), .val (.int ((p2 &&& (63 : Int32)) &&& (7 : Int32))), .val (.int (((p2 &&& (63 : Int32)).toUInt32 >>> ((3 : Int32) &&& 31).toUInt32).toInt32)), .unset, .unset, .unset, .unset] [(.int ((((p2 &&& (63 : Int32)).toUInt32 >>> ((3 : Int32) &&& 31).toUInt32).toInt32) - (1 : Int32))), (.int ((p2 &&& (63 : Int32)) &&& (7 : Int32))), (.long q1)])) _
      refine st34 _ ?_
      exact k
    by_cases hc36 : (F1 q1 ((p2 &&& (63 : Int32)) &&& (7 : Int32)) ((((p2 &&& (63 : Int32)).toUInt32 >>> ((3 : Int32) &&& 31).toUInt32).toInt32) - (1 : Int32))) = (0 : Int32)
    · have pre37 : ∀ t, Steps p.tables e below (T34.setTop (mkF m 44 #[.val (.long q1), .second, .val (.int p2), .val (.int (p2 &&& (63 : Int32))), .val (.int ((p2 &&& (63 : Int32)) &&& (7 : Int32))), .val (.int (((p2 &&& (63 : Int32)).toUInt32 >>> ((3 : Int32) &&& 31).toUInt32).toInt32)), .unset, .unset, .unset, .unset] [])) t → Steps p.tables e below (s₁.setTop (entryFrame m #[(.long q1), (.int p2)] maxLocals)) t := by
        intro t k
        refine pre35 _ ?_
        show Steps p.tables e below (T34.setTop (mkF m 41 #[.val (.long q1), .second, .val (.int p2), .val (.int (p2 &&& (63 : Int32))), .val (.int ((p2 &&& (63 : Int32)) &&& (7 : Int32))), .val (.int (((p2 &&& (63 : Int32)).toUInt32 >>> ((3 : Int32) &&& 31).toUInt32).toInt32)), .unset, .unset, .unset, .unset] [(.int (F1 q1 ((p2 &&& (63 : Int32)) &&& (7 : Int32)) ((((p2 &&& (63 : Int32)).toUInt32 >>> ((3 : Int32) &&& 31).toUInt32).toInt32) - (1 : Int32))))])) _
        refine XS.ifNo X34.here hx rfl (hb hby at_41) rfl ((if0 _ _).trans (teq hc36).2) ?_
        exact k
      have pre38 : ∀ t, Steps p.tables e below (T34.setTop (mkF m 53 #[.val (.long q1), .second, .val (.int p2), .val (.int (p2 &&& (63 : Int32))), .val (.int ((p2 &&& (63 : Int32)) &&& (7 : Int32))), .val (.int (((p2 &&& (63 : Int32)).toUInt32 >>> ((3 : Int32) &&& 31).toUInt32).toInt32)), .unset, .unset, .unset, .unset] [(.int ((((p2 &&& (63 : Int32)).toUInt32 >>> ((3 : Int32) &&& 31).toUInt32).toInt32) - (1 : Int32))), (.int (((p2 &&& (63 : Int32)) &&& (7 : Int32)) + (1 : Int32))), (.long q1)])) t → Steps p.tables e below (s₁.setTop (entryFrame m #[(.long q1), (.int p2)] maxLocals)) t := by
        intro t k
        refine pre37 _ ?_
        show Steps p.tables e below (T34.setTop (mkF m 44 #[.val (.long q1), .second, .val (.int p2), .val (.int (p2 &&& (63 : Int32))), .val (.int ((p2 &&& (63 : Int32)) &&& (7 : Int32))), .val (.int (((p2 &&& (63 : Int32)).toUInt32 >>> ((3 : Int32) &&& 31).toUInt32).toInt32)), .unset, .unset, .unset, .unset] [])) _
        refine XS.lloadN X34.here hx rfl (hb hby at_44) rfl ?_
        show Steps p.tables e below (T34.setTop (mkF m 45 #[.val (.long q1), .second, .val (.int p2), .val (.int (p2 &&& (63 : Int32))), .val (.int ((p2 &&& (63 : Int32)) &&& (7 : Int32))), .val (.int (((p2 &&& (63 : Int32)).toUInt32 >>> ((3 : Int32) &&& 31).toUInt32).toInt32)), .unset, .unset, .unset, .unset] [(.long q1)])) _
        refine XS.iload X34.here hx rfl (hb hby at_45) rfl ?_
        show Steps p.tables e below (T34.setTop (mkF m 47 #[.val (.long q1), .second, .val (.int p2), .val (.int (p2 &&& (63 : Int32))), .val (.int ((p2 &&& (63 : Int32)) &&& (7 : Int32))), .val (.int (((p2 &&& (63 : Int32)).toUInt32 >>> ((3 : Int32) &&& 31).toUInt32).toInt32)), .unset, .unset, .unset, .unset] [(.int ((p2 &&& (63 : Int32)) &&& (7 : Int32))), (.long q1)])) _
        refine XS.iconst X34.here hx rfl (hb hby at_47) ?_
        show Steps p.tables e below (T34.setTop (mkF m 48 #[.val (.long q1), .second, .val (.int p2), .val (.int (p2 &&& (63 : Int32))), .val (.int ((p2 &&& (63 : Int32)) &&& (7 : Int32))), .val (.int (((p2 &&& (63 : Int32)).toUInt32 >>> ((3 : Int32) &&& 31).toUInt32).toInt32)), .unset, .unset, .unset, .unset] [(.int (1 : Int32)), (.int ((p2 &&& (63 : Int32)) &&& (7 : Int32))), (.long q1)])) _
        refine XS.iadd X34.here hx rfl (hb hby at_48) rfl ?_
        show Steps p.tables e below (T34.setTop (mkF m 49 #[.val (.long q1), .second, .val (.int p2), .val (.int (p2 &&& (63 : Int32))), .val (.int ((p2 &&& (63 : Int32)) &&& (7 : Int32))), .val (.int (((p2 &&& (63 : Int32)).toUInt32 >>> ((3 : Int32) &&& 31).toUInt32).toInt32)), .unset, .unset, .unset, .unset] [(.int (((p2 &&& (63 : Int32)) &&& (7 : Int32)) + (1 : Int32))), (.long q1)])) _
        refine XS.iload X34.here hx rfl (hb hby at_49) rfl ?_
        show Steps p.tables e below (T34.setTop (mkF m 51 #[.val (.long q1), .second, .val (.int p2), .val (.int (p2 &&& (63 : Int32))), .val (.int ((p2 &&& (63 : Int32)) &&& (7 : Int32))), .val (.int (((p2 &&& (63 : Int32)).toUInt32 >>> ((3 : Int32) &&& 31).toUInt32).toInt32)), .unset, .unset, .unset, .unset] [(.int (((p2 &&& (63 : Int32)).toUInt32 >>> ((3 : Int32) &&& 31).toUInt32).toInt32)), (.int (((p2 &&& (63 : Int32)) &&& (7 : Int32)) + (1 : Int32))), (.long q1)])) _
        refine XS.iconst X34.here hx rfl (hb hby at_51) ?_
        show Steps p.tables e below (T34.setTop (mkF m 52 #[.val (.long q1), .second, .val (.int p2), .val (.int (p2 &&& (63 : Int32))), .val (.int ((p2 &&& (63 : Int32)) &&& (7 : Int32))), .val (.int (((p2 &&& (63 : Int32)).toUInt32 >>> ((3 : Int32) &&& 31).toUInt32).toInt32)), .unset, .unset, .unset, .unset] [(.int (1 : Int32)), (.int (((p2 &&& (63 : Int32)).toUInt32 >>> ((3 : Int32) &&& 31).toUInt32).toInt32)), (.int (((p2 &&& (63 : Int32)) &&& (7 : Int32)) + (1 : Int32))), (.long q1)])) _
        refine XS.isub X34.here hx rfl (hb hby at_52) rfl ?_
        exact k
      obtain ⟨_, _, ⟨T39, L39, k39, n39⟩, -, X39, ⟨Lc39, hQ39, l39, y39, z39⟩, st39⟩ := Jvm.LawKit.callS X34 hx (y := (⟨"com/example/tabuleiro/tabuleiro/othello/OthelloPositionNeighboursPinLaw", "has", "(JII)Z"⟩ : MethodName)) hown (mvT hZ (hw _ (List.mem_of_getElem? (i := 0) rfl))) (mvT hZ (hw _ (List.mem_of_getElem? (i := 1) rfl))) (mvT hZ (hw _ (List.mem_of_getElem? (i := 2) rfl))) (mvT hZ (hw _ (List.mem_of_getElem? (i := 3) rfl))) (by decide) (backOf (W := 0) (rm1 l Z a0 hw [] q1 (((p2 &&& (63 : Int32)) &&& (7 : Int32)) + (1 : Int32)) ((((p2 &&& (63 : Int32)).toUInt32 >>> ((3 : Int32) &&& 31).toUInt32).toInt32) - (1 : Int32)) h0 n0 Z0 ) hZ (hw _ (List.mem_of_getElem? (i := 3) rfl)) (hw _ (List.mem_of_getElem? (i := 2) rfl)) (by decide) (by decide)) (g := (mkF m 53 #[.val (.long q1), .second, .val (.int p2), .val (.int (p2 &&& (63 : Int32))), .val (.int ((p2 &&& (63 : Int32)) &&& (7 : Int32))), .val (.int (((p2 &&& (63 : Int32)).toUInt32 >>> ((3 : Int32) &&& 31).toUInt32).toInt32)), .unset, .unset, .unset, .unset] [(.int ((((p2 &&& (63 : Int32)).toUInt32 >>> ((3 : Int32) &&& 31).toUInt32).toInt32) - (1 : Int32))), (.int (((p2 &&& (63 : Int32)) &&& (7 : Int32)) + (1 : Int32))), (.long q1)])) rfl (by rw [hml]; rfl) (argsL := [(.long q1), (.int (((p2 &&& (63 : Int32)) &&& (7 : Int32)) + (1 : Int32))), (.int ((((p2 &&& (63 : Int32)).toUInt32 >>> ((3 : Int32) &&& 31).toUInt32).toInt32) - (1 : Int32)))]) (rest := []) (lenOf pd__JII_Z rfl) rfl (by show 2 * 0 + _ ≤ _; exact Nat.le_of_eq rfl) (hb hby at_53) (fun _ _ => ⟨rfl, e34, (by decide : 0 + 0 ≤ _), (by decide : 0 + 0 ≤ _)⟩)
      dsimp only [Pt.U, Pt.locs, Pt.cells, Pt.slots] at X39 l39 y39 z39 st39 hQ39
      subst l39 y39 z39
      obtain ⟨rfl, N39q, e39⟩ := hQ39
      have N39 := Fr.app N34 N39q
      have pre40 : ∀ t, Steps p.tables e below (T39.setTop (mkF m 56 #[.val (.long q1), .second, .val (.int p2), .val (.int (p2 &&& (63 : Int32))), .val (.int ((p2 &&& (63 : Int32)) &&& (7 : Int32))), .val (.int (((p2 &&& (63 : Int32)).toUInt32 >>> ((3 : Int32) &&& 31).toUInt32).toInt32)), .unset, .unset, .unset, .unset] [(.int (F1 q1 (((p2 &&& (63 : Int32)) &&& (7 : Int32)) + (1 : Int32)) ((((p2 &&& (63 : Int32)).toUInt32 >>> ((3 : Int32) &&& 31).toUInt32).toInt32) - (1 : Int32))))])) t → Steps p.tables e below (s₁.setTop (entryFrame m #[(.long q1), (.int p2)] maxLocals)) t := by
        intro t k
        refine pre38 _ ?_
        show Steps p.tables e below (T34.setTop (mkF m 53 #[.val (.long q1), .second, .val (.int p2), .val (.int (p2 &&& (63 : Int32))), .val (.int ((p2 &&& (63 : Int32)) &&& (7 : Int32))), .val (.int (((p2 &&& (63 : Int32)).toUInt32 >>> ((3 : Int32) &&& 31).toUInt32).toInt32)), .unset, .unset, .unset, .unset] [(.int ((((p2 &&& (63 : Int32)).toUInt32 >>> ((3 : Int32) &&& 31).toUInt32).toInt32) - (1 : Int32))), (.int (((p2 &&& (63 : Int32)) &&& (7 : Int32)) + (1 : Int32))), (.long q1)])) _
        refine st39 _ ?_
        exact k
      by_cases hc41 : (F1 q1 (((p2 &&& (63 : Int32)) &&& (7 : Int32)) + (1 : Int32)) ((((p2 &&& (63 : Int32)).toUInt32 >>> ((3 : Int32) &&& 31).toUInt32).toInt32) - (1 : Int32))) = (0 : Int32)
      · have pre42 : ∀ t, Steps p.tables e below (T39.setTop (mkF m 59 #[.val (.long q1), .second, .val (.int p2), .val (.int (p2 &&& (63 : Int32))), .val (.int ((p2 &&& (63 : Int32)) &&& (7 : Int32))), .val (.int (((p2 &&& (63 : Int32)).toUInt32 >>> ((3 : Int32) &&& 31).toUInt32).toInt32)), .unset, .unset, .unset, .unset] [])) t → Steps p.tables e below (s₁.setTop (entryFrame m #[(.long q1), (.int p2)] maxLocals)) t := by
          intro t k
          refine pre40 _ ?_
          show Steps p.tables e below (T39.setTop (mkF m 56 #[.val (.long q1), .second, .val (.int p2), .val (.int (p2 &&& (63 : Int32))), .val (.int ((p2 &&& (63 : Int32)) &&& (7 : Int32))), .val (.int (((p2 &&& (63 : Int32)).toUInt32 >>> ((3 : Int32) &&& 31).toUInt32).toInt32)), .unset, .unset, .unset, .unset] [(.int (F1 q1 (((p2 &&& (63 : Int32)) &&& (7 : Int32)) + (1 : Int32)) ((((p2 &&& (63 : Int32)).toUInt32 >>> ((3 : Int32) &&& 31).toUInt32).toInt32) - (1 : Int32))))])) _
          refine XS.ifNo X39.here hx rfl (hb hby at_56) rfl ((if0 _ _).trans (teq hc41).2) ?_
          exact k
        have pre43 : ∀ t, Steps p.tables e below (T39.setTop (mkF m 66 #[.val (.long q1), .second, .val (.int p2), .val (.int (p2 &&& (63 : Int32))), .val (.int ((p2 &&& (63 : Int32)) &&& (7 : Int32))), .val (.int (((p2 &&& (63 : Int32)).toUInt32 >>> ((3 : Int32) &&& 31).toUInt32).toInt32)), .unset, .unset, .unset, .unset] [(.int (((p2 &&& (63 : Int32)).toUInt32 >>> ((3 : Int32) &&& 31).toUInt32).toInt32)), (.int (((p2 &&& (63 : Int32)) &&& (7 : Int32)) - (1 : Int32))), (.long q1)])) t → Steps p.tables e below (s₁.setTop (entryFrame m #[(.long q1), (.int p2)] maxLocals)) t := by
          intro t k
          refine pre42 _ ?_
          show Steps p.tables e below (T39.setTop (mkF m 59 #[.val (.long q1), .second, .val (.int p2), .val (.int (p2 &&& (63 : Int32))), .val (.int ((p2 &&& (63 : Int32)) &&& (7 : Int32))), .val (.int (((p2 &&& (63 : Int32)).toUInt32 >>> ((3 : Int32) &&& 31).toUInt32).toInt32)), .unset, .unset, .unset, .unset] [])) _
          refine XS.lloadN X39.here hx rfl (hb hby at_59) rfl ?_
          show Steps p.tables e below (T39.setTop (mkF m 60 #[.val (.long q1), .second, .val (.int p2), .val (.int (p2 &&& (63 : Int32))), .val (.int ((p2 &&& (63 : Int32)) &&& (7 : Int32))), .val (.int (((p2 &&& (63 : Int32)).toUInt32 >>> ((3 : Int32) &&& 31).toUInt32).toInt32)), .unset, .unset, .unset, .unset] [(.long q1)])) _
          refine XS.iload X39.here hx rfl (hb hby at_60) rfl ?_
          show Steps p.tables e below (T39.setTop (mkF m 62 #[.val (.long q1), .second, .val (.int p2), .val (.int (p2 &&& (63 : Int32))), .val (.int ((p2 &&& (63 : Int32)) &&& (7 : Int32))), .val (.int (((p2 &&& (63 : Int32)).toUInt32 >>> ((3 : Int32) &&& 31).toUInt32).toInt32)), .unset, .unset, .unset, .unset] [(.int ((p2 &&& (63 : Int32)) &&& (7 : Int32))), (.long q1)])) _
          refine XS.iconst X39.here hx rfl (hb hby at_62) ?_
          show Steps p.tables e below (T39.setTop (mkF m 63 #[.val (.long q1), .second, .val (.int p2), .val (.int (p2 &&& (63 : Int32))), .val (.int ((p2 &&& (63 : Int32)) &&& (7 : Int32))), .val (.int (((p2 &&& (63 : Int32)).toUInt32 >>> ((3 : Int32) &&& 31).toUInt32).toInt32)), .unset, .unset, .unset, .unset] [(.int (1 : Int32)), (.int ((p2 &&& (63 : Int32)) &&& (7 : Int32))), (.long q1)])) _
          refine XS.isub X39.here hx rfl (hb hby at_63) rfl ?_
          show Steps p.tables e below (T39.setTop (mkF m 64 #[.val (.long q1), .second, .val (.int p2), .val (.int (p2 &&& (63 : Int32))), .val (.int ((p2 &&& (63 : Int32)) &&& (7 : Int32))), .val (.int (((p2 &&& (63 : Int32)).toUInt32 >>> ((3 : Int32) &&& 31).toUInt32).toInt32)), .unset, .unset, .unset, .unset] [(.int (((p2 &&& (63 : Int32)) &&& (7 : Int32)) - (1 : Int32))), (.long q1)])) _
          refine XS.iload X39.here hx rfl (hb hby at_64) rfl ?_
          exact k
        obtain ⟨_, _, ⟨T44, L44, k44, n44⟩, -, X44, ⟨Lc44, hQ44, l44, y44, z44⟩, st44⟩ := Jvm.LawKit.callS X39 hx (y := (⟨"com/example/tabuleiro/tabuleiro/othello/OthelloPositionNeighboursPinLaw", "has", "(JII)Z"⟩ : MethodName)) hown (mvT hZ (hw _ (List.mem_of_getElem? (i := 0) rfl))) (mvT hZ (hw _ (List.mem_of_getElem? (i := 1) rfl))) (mvT hZ (hw _ (List.mem_of_getElem? (i := 2) rfl))) (mvT hZ (hw _ (List.mem_of_getElem? (i := 3) rfl))) (by decide) (backOf (W := 0) (rm1 l Z a0 hw [] q1 (((p2 &&& (63 : Int32)) &&& (7 : Int32)) - (1 : Int32)) (((p2 &&& (63 : Int32)).toUInt32 >>> ((3 : Int32) &&& 31).toUInt32).toInt32) h0 n0 Z0 ) hZ (hw _ (List.mem_of_getElem? (i := 3) rfl)) (hw _ (List.mem_of_getElem? (i := 2) rfl)) (by decide) (by decide)) (g := (mkF m 66 #[.val (.long q1), .second, .val (.int p2), .val (.int (p2 &&& (63 : Int32))), .val (.int ((p2 &&& (63 : Int32)) &&& (7 : Int32))), .val (.int (((p2 &&& (63 : Int32)).toUInt32 >>> ((3 : Int32) &&& 31).toUInt32).toInt32)), .unset, .unset, .unset, .unset] [(.int (((p2 &&& (63 : Int32)).toUInt32 >>> ((3 : Int32) &&& 31).toUInt32).toInt32)), (.int (((p2 &&& (63 : Int32)) &&& (7 : Int32)) - (1 : Int32))), (.long q1)])) rfl (by rw [hml]; rfl) (argsL := [(.long q1), (.int (((p2 &&& (63 : Int32)) &&& (7 : Int32)) - (1 : Int32))), (.int (((p2 &&& (63 : Int32)).toUInt32 >>> ((3 : Int32) &&& 31).toUInt32).toInt32))]) (rest := []) (lenOf pd__JII_Z rfl) rfl (by show 2 * 0 + _ ≤ _; exact Nat.le_of_eq rfl) (hb hby at_66) (fun _ _ => ⟨rfl, e39, (by decide : 0 + 0 ≤ _), (by decide : 0 + 0 ≤ _)⟩)
        dsimp only [Pt.U, Pt.locs, Pt.cells, Pt.slots] at X44 l44 y44 z44 st44 hQ44
        subst l44 y44 z44
        obtain ⟨rfl, N44q, e44⟩ := hQ44
        have N44 := Fr.app N39 N44q
        have pre45 : ∀ t, Steps p.tables e below (T44.setTop (mkF m 69 #[.val (.long q1), .second, .val (.int p2), .val (.int (p2 &&& (63 : Int32))), .val (.int ((p2 &&& (63 : Int32)) &&& (7 : Int32))), .val (.int (((p2 &&& (63 : Int32)).toUInt32 >>> ((3 : Int32) &&& 31).toUInt32).toInt32)), .unset, .unset, .unset, .unset] [(.int (F1 q1 (((p2 &&& (63 : Int32)) &&& (7 : Int32)) - (1 : Int32)) (((p2 &&& (63 : Int32)).toUInt32 >>> ((3 : Int32) &&& 31).toUInt32).toInt32)))])) t → Steps p.tables e below (s₁.setTop (entryFrame m #[(.long q1), (.int p2)] maxLocals)) t := by
          intro t k
          refine pre43 _ ?_
          show Steps p.tables e below (T39.setTop (mkF m 66 #[.val (.long q1), .second, .val (.int p2), .val (.int (p2 &&& (63 : Int32))), .val (.int ((p2 &&& (63 : Int32)) &&& (7 : Int32))), .val (.int (((p2 &&& (63 : Int32)).toUInt32 >>> ((3 : Int32) &&& 31).toUInt32).toInt32)), .unset, .unset, .unset, .unset] [(.int (((p2 &&& (63 : Int32)).toUInt32 >>> ((3 : Int32) &&& 31).toUInt32).toInt32)), (.int (((p2 &&& (63 : Int32)) &&& (7 : Int32)) - (1 : Int32))), (.long q1)])) _
          refine st44 _ ?_
          exact k
        by_cases hc46 : (F1 q1 (((p2 &&& (63 : Int32)) &&& (7 : Int32)) - (1 : Int32)) (((p2 &&& (63 : Int32)).toUInt32 >>> ((3 : Int32) &&& 31).toUInt32).toInt32)) = (0 : Int32)
        · have pre47 : ∀ t, Steps p.tables e below (T44.setTop (mkF m 72 #[.val (.long q1), .second, .val (.int p2), .val (.int (p2 &&& (63 : Int32))), .val (.int ((p2 &&& (63 : Int32)) &&& (7 : Int32))), .val (.int (((p2 &&& (63 : Int32)).toUInt32 >>> ((3 : Int32) &&& 31).toUInt32).toInt32)), .unset, .unset, .unset, .unset] [])) t → Steps p.tables e below (s₁.setTop (entryFrame m #[(.long q1), (.int p2)] maxLocals)) t := by
            intro t k
            refine pre45 _ ?_
            show Steps p.tables e below (T44.setTop (mkF m 69 #[.val (.long q1), .second, .val (.int p2), .val (.int (p2 &&& (63 : Int32))), .val (.int ((p2 &&& (63 : Int32)) &&& (7 : Int32))), .val (.int (((p2 &&& (63 : Int32)).toUInt32 >>> ((3 : Int32) &&& 31).toUInt32).toInt32)), .unset, .unset, .unset, .unset] [(.int (F1 q1 (((p2 &&& (63 : Int32)) &&& (7 : Int32)) - (1 : Int32)) (((p2 &&& (63 : Int32)).toUInt32 >>> ((3 : Int32) &&& 31).toUInt32).toInt32)))])) _
            refine XS.ifNo X44.here hx rfl (hb hby at_69) rfl ((if0 _ _).trans (teq hc46).2) ?_
            exact k
          have pre48 : ∀ t, Steps p.tables e below (T44.setTop (mkF m 79 #[.val (.long q1), .second, .val (.int p2), .val (.int (p2 &&& (63 : Int32))), .val (.int ((p2 &&& (63 : Int32)) &&& (7 : Int32))), .val (.int (((p2 &&& (63 : Int32)).toUInt32 >>> ((3 : Int32) &&& 31).toUInt32).toInt32)), .unset, .unset, .unset, .unset] [(.int (((p2 &&& (63 : Int32)).toUInt32 >>> ((3 : Int32) &&& 31).toUInt32).toInt32)), (.int (((p2 &&& (63 : Int32)) &&& (7 : Int32)) + (1 : Int32))), (.long q1)])) t → Steps p.tables e below (s₁.setTop (entryFrame m #[(.long q1), (.int p2)] maxLocals)) t := by
            intro t k
            refine pre47 _ ?_
            show Steps p.tables e below (T44.setTop (mkF m 72 #[.val (.long q1), .second, .val (.int p2), .val (.int (p2 &&& (63 : Int32))), .val (.int ((p2 &&& (63 : Int32)) &&& (7 : Int32))), .val (.int (((p2 &&& (63 : Int32)).toUInt32 >>> ((3 : Int32) &&& 31).toUInt32).toInt32)), .unset, .unset, .unset, .unset] [])) _
            refine XS.lloadN X44.here hx rfl (hb hby at_72) rfl ?_
            show Steps p.tables e below (T44.setTop (mkF m 73 #[.val (.long q1), .second, .val (.int p2), .val (.int (p2 &&& (63 : Int32))), .val (.int ((p2 &&& (63 : Int32)) &&& (7 : Int32))), .val (.int (((p2 &&& (63 : Int32)).toUInt32 >>> ((3 : Int32) &&& 31).toUInt32).toInt32)), .unset, .unset, .unset, .unset] [(.long q1)])) _
            refine XS.iload X44.here hx rfl (hb hby at_73) rfl ?_
            show Steps p.tables e below (T44.setTop (mkF m 75 #[.val (.long q1), .second, .val (.int p2), .val (.int (p2 &&& (63 : Int32))), .val (.int ((p2 &&& (63 : Int32)) &&& (7 : Int32))), .val (.int (((p2 &&& (63 : Int32)).toUInt32 >>> ((3 : Int32) &&& 31).toUInt32).toInt32)), .unset, .unset, .unset, .unset] [(.int ((p2 &&& (63 : Int32)) &&& (7 : Int32))), (.long q1)])) _
            refine XS.iconst X44.here hx rfl (hb hby at_75) ?_
            show Steps p.tables e below (T44.setTop (mkF m 76 #[.val (.long q1), .second, .val (.int p2), .val (.int (p2 &&& (63 : Int32))), .val (.int ((p2 &&& (63 : Int32)) &&& (7 : Int32))), .val (.int (((p2 &&& (63 : Int32)).toUInt32 >>> ((3 : Int32) &&& 31).toUInt32).toInt32)), .unset, .unset, .unset, .unset] [(.int (1 : Int32)), (.int ((p2 &&& (63 : Int32)) &&& (7 : Int32))), (.long q1)])) _
            refine XS.iadd X44.here hx rfl (hb hby at_76) rfl ?_
            show Steps p.tables e below (T44.setTop (mkF m 77 #[.val (.long q1), .second, .val (.int p2), .val (.int (p2 &&& (63 : Int32))), .val (.int ((p2 &&& (63 : Int32)) &&& (7 : Int32))), .val (.int (((p2 &&& (63 : Int32)).toUInt32 >>> ((3 : Int32) &&& 31).toUInt32).toInt32)), .unset, .unset, .unset, .unset] [(.int (((p2 &&& (63 : Int32)) &&& (7 : Int32)) + (1 : Int32))), (.long q1)])) _
            refine XS.iload X44.here hx rfl (hb hby at_77) rfl ?_
            exact k
          obtain ⟨_, _, ⟨T49, L49, k49, n49⟩, -, X49, ⟨Lc49, hQ49, l49, y49, z49⟩, st49⟩ := Jvm.LawKit.callS X44 hx (y := (⟨"com/example/tabuleiro/tabuleiro/othello/OthelloPositionNeighboursPinLaw", "has", "(JII)Z"⟩ : MethodName)) hown (mvT hZ (hw _ (List.mem_of_getElem? (i := 0) rfl))) (mvT hZ (hw _ (List.mem_of_getElem? (i := 1) rfl))) (mvT hZ (hw _ (List.mem_of_getElem? (i := 2) rfl))) (mvT hZ (hw _ (List.mem_of_getElem? (i := 3) rfl))) (by decide) (backOf (W := 0) (rm1 l Z a0 hw [] q1 (((p2 &&& (63 : Int32)) &&& (7 : Int32)) + (1 : Int32)) (((p2 &&& (63 : Int32)).toUInt32 >>> ((3 : Int32) &&& 31).toUInt32).toInt32) h0 n0 Z0 ) hZ (hw _ (List.mem_of_getElem? (i := 3) rfl)) (hw _ (List.mem_of_getElem? (i := 2) rfl)) (by decide) (by decide)) (g := (mkF m 79 #[.val (.long q1), .second, .val (.int p2), .val (.int (p2 &&& (63 : Int32))), .val (.int ((p2 &&& (63 : Int32)) &&& (7 : Int32))), .val (.int (((p2 &&& (63 : Int32)).toUInt32 >>> ((3 : Int32) &&& 31).toUInt32).toInt32)), .unset, .unset, .unset, .unset] [(.int (((p2 &&& (63 : Int32)).toUInt32 >>> ((3 : Int32) &&& 31).toUInt32).toInt32)), (.int (((p2 &&& (63 : Int32)) &&& (7 : Int32)) + (1 : Int32))), (.long q1)])) rfl (by rw [hml]; rfl) (argsL := [(.long q1), (.int (((p2 &&& (63 : Int32)) &&& (7 : Int32)) + (1 : Int32))), (.int (((p2 &&& (63 : Int32)).toUInt32 >>> ((3 : Int32) &&& 31).toUInt32).toInt32))]) (rest := []) (lenOf pd__JII_Z rfl) rfl (by show 2 * 0 + _ ≤ _; exact Nat.le_of_eq rfl) (hb hby at_79) (fun _ _ => ⟨rfl, e44, (by decide : 0 + 0 ≤ _), (by decide : 0 + 0 ≤ _)⟩)
          dsimp only [Pt.U, Pt.locs, Pt.cells, Pt.slots] at X49 l49 y49 z49 st49 hQ49
          subst l49 y49 z49
          obtain ⟨rfl, N49q, e49⟩ := hQ49
          have N49 := Fr.app N44 N49q
          have pre50 : ∀ t, Steps p.tables e below (T49.setTop (mkF m 82 #[.val (.long q1), .second, .val (.int p2), .val (.int (p2 &&& (63 : Int32))), .val (.int ((p2 &&& (63 : Int32)) &&& (7 : Int32))), .val (.int (((p2 &&& (63 : Int32)).toUInt32 >>> ((3 : Int32) &&& 31).toUInt32).toInt32)), .unset, .unset, .unset, .unset] [(.int (F1 q1 (((p2 &&& (63 : Int32)) &&& (7 : Int32)) + (1 : Int32)) (((p2 &&& (63 : Int32)).toUInt32 >>> ((3 : Int32) &&& 31).toUInt32).toInt32)))])) t → Steps p.tables e below (s₁.setTop (entryFrame m #[(.long q1), (.int p2)] maxLocals)) t := by
            intro t k
            refine pre48 _ ?_
            show Steps p.tables e below (T44.setTop (mkF m 79 #[.val (.long q1), .second, .val (.int p2), .val (.int (p2 &&& (63 : Int32))), .val (.int ((p2 &&& (63 : Int32)) &&& (7 : Int32))), .val (.int (((p2 &&& (63 : Int32)).toUInt32 >>> ((3 : Int32) &&& 31).toUInt32).toInt32)), .unset, .unset, .unset, .unset] [(.int (((p2 &&& (63 : Int32)).toUInt32 >>> ((3 : Int32) &&& 31).toUInt32).toInt32)), (.int (((p2 &&& (63 : Int32)) &&& (7 : Int32)) + (1 : Int32))), (.long q1)])) _
            refine st49 _ ?_
            exact k
          by_cases hc51 : (F1 q1 (((p2 &&& (63 : Int32)) &&& (7 : Int32)) + (1 : Int32)) (((p2 &&& (63 : Int32)).toUInt32 >>> ((3 : Int32) &&& 31).toUInt32).toInt32)) = (0 : Int32)
          · have pre52 : ∀ t, Steps p.tables e below (T49.setTop (mkF m 85 #[.val (.long q1), .second, .val (.int p2), .val (.int (p2 &&& (63 : Int32))), .val (.int ((p2 &&& (63 : Int32)) &&& (7 : Int32))), .val (.int (((p2 &&& (63 : Int32)).toUInt32 >>> ((3 : Int32) &&& 31).toUInt32).toInt32)), .unset, .unset, .unset, .unset] [])) t → Steps p.tables e below (s₁.setTop (entryFrame m #[(.long q1), (.int p2)] maxLocals)) t := by
              intro t k
              refine pre50 _ ?_
              show Steps p.tables e below (T49.setTop (mkF m 82 #[.val (.long q1), .second, .val (.int p2), .val (.int (p2 &&& (63 : Int32))), .val (.int ((p2 &&& (63 : Int32)) &&& (7 : Int32))), .val (.int (((p2 &&& (63 : Int32)).toUInt32 >>> ((3 : Int32) &&& 31).toUInt32).toInt32)), .unset, .unset, .unset, .unset] [(.int (F1 q1 (((p2 &&& (63 : Int32)) &&& (7 : Int32)) + (1 : Int32)) (((p2 &&& (63 : Int32)).toUInt32 >>> ((3 : Int32) &&& 31).toUInt32).toInt32)))])) _
              refine XS.ifNo X49.here hx rfl (hb hby at_82) rfl ((if0 _ _).trans (teq hc51).2) ?_
              exact k
            have pre53 : ∀ t, Steps p.tables e below (T49.setTop (mkF m 94 #[.val (.long q1), .second, .val (.int p2), .val (.int (p2 &&& (63 : Int32))), .val (.int ((p2 &&& (63 : Int32)) &&& (7 : Int32))), .val (.int (((p2 &&& (63 : Int32)).toUInt32 >>> ((3 : Int32) &&& 31).toUInt32).toInt32)), .unset, .unset, .unset, .unset] [(.int ((((p2 &&& (63 : Int32)).toUInt32 >>> ((3 : Int32) &&& 31).toUInt32).toInt32) + (1 : Int32))), (.int (((p2 &&& (63 : Int32)) &&& (7 : Int32)) - (1 : Int32))), (.long q1)])) t → Steps p.tables e below (s₁.setTop (entryFrame m #[(.long q1), (.int p2)] maxLocals)) t := by
              intro t k
              refine pre52 _ ?_
              show Steps p.tables e below (T49.setTop (mkF m 85 #[.val (.long q1), .second, .val (.int p2), .val (.int (p2 &&& (63 : Int32))), .val (.int ((p2 &&& (63 : Int32)) &&& (7 : Int32))), .val (.int (((p2 &&& (63 : Int32)).toUInt32 >>> ((3 : Int32) &&& 31).toUInt32).toInt32)), .unset, .unset, .unset, .unset] [])) _
              refine XS.lloadN X49.here hx rfl (hb hby at_85) rfl ?_
              show Steps p.tables e below (T49.setTop (mkF m 86 #[.val (.long q1), .second, .val (.int p2), .val (.int (p2 &&& (63 : Int32))), .val (.int ((p2 &&& (63 : Int32)) &&& (7 : Int32))), .val (.int (((p2 &&& (63 : Int32)).toUInt32 >>> ((3 : Int32) &&& 31).toUInt32).toInt32)), .unset, .unset, .unset, .unset] [(.long q1)])) _
              refine XS.iload X49.here hx rfl (hb hby at_86) rfl ?_
              show Steps p.tables e below (T49.setTop (mkF m 88 #[.val (.long q1), .second, .val (.int p2), .val (.int (p2 &&& (63 : Int32))), .val (.int ((p2 &&& (63 : Int32)) &&& (7 : Int32))), .val (.int (((p2 &&& (63 : Int32)).toUInt32 >>> ((3 : Int32) &&& 31).toUInt32).toInt32)), .unset, .unset, .unset, .unset] [(.int ((p2 &&& (63 : Int32)) &&& (7 : Int32))), (.long q1)])) _
              refine XS.iconst X49.here hx rfl (hb hby at_88) ?_
              show Steps p.tables e below (T49.setTop (mkF m 89 #[.val (.long q1), .second, .val (.int p2), .val (.int (p2 &&& (63 : Int32))), .val (.int ((p2 &&& (63 : Int32)) &&& (7 : Int32))), .val (.int (((p2 &&& (63 : Int32)).toUInt32 >>> ((3 : Int32) &&& 31).toUInt32).toInt32)), .unset, .unset, .unset, .unset] [(.int (1 : Int32)), (.int ((p2 &&& (63 : Int32)) &&& (7 : Int32))), (.long q1)])) _
              refine XS.isub X49.here hx rfl (hb hby at_89) rfl ?_
              show Steps p.tables e below (T49.setTop (mkF m 90 #[.val (.long q1), .second, .val (.int p2), .val (.int (p2 &&& (63 : Int32))), .val (.int ((p2 &&& (63 : Int32)) &&& (7 : Int32))), .val (.int (((p2 &&& (63 : Int32)).toUInt32 >>> ((3 : Int32) &&& 31).toUInt32).toInt32)), .unset, .unset, .unset, .unset] [(.int (((p2 &&& (63 : Int32)) &&& (7 : Int32)) - (1 : Int32))), (.long q1)])) _
              refine XS.iload X49.here hx rfl (hb hby at_90) rfl ?_
              show Steps p.tables e below (T49.setTop (mkF m 92 #[.val (.long q1), .second, .val (.int p2), .val (.int (p2 &&& (63 : Int32))), .val (.int ((p2 &&& (63 : Int32)) &&& (7 : Int32))), .val (.int (((p2 &&& (63 : Int32)).toUInt32 >>> ((3 : Int32) &&& 31).toUInt32).toInt32)), .unset, .unset, .unset, .unset] [(.int (((p2 &&& (63 : Int32)).toUInt32 >>> ((3 : Int32) &&& 31).toUInt32).toInt32)), (.int (((p2 &&& (63 : Int32)) &&& (7 : Int32)) - (1 : Int32))), (.long q1)])) _
              refine XS.iconst X49.here hx rfl (hb hby at_92) ?_
              show Steps p.tables e below (T49.setTop (mkF m 93 #[.val (.long q1), .second, .val (.int p2), .val (.int (p2 &&& (63 : Int32))), .val (.int ((p2 &&& (63 : Int32)) &&& (7 : Int32))), .val (.int (((p2 &&& (63 : Int32)).toUInt32 >>> ((3 : Int32) &&& 31).toUInt32).toInt32)), .unset, .unset, .unset, .unset] [(.int (1 : Int32)), (.int (((p2 &&& (63 : Int32)).toUInt32 >>> ((3 : Int32) &&& 31).toUInt32).toInt32)), (.int (((p2 &&& (63 : Int32)) &&& (7 : Int32)) - (1 : Int32))), (.long q1)])) _
              refine XS.iadd X49.here hx rfl (hb hby at_93) rfl ?_
              exact k
            obtain ⟨_, _, ⟨T54, L54, k54, n54⟩, -, X54, ⟨Lc54, hQ54, l54, y54, z54⟩, st54⟩ := Jvm.LawKit.callS X49 hx (y := (⟨"com/example/tabuleiro/tabuleiro/othello/OthelloPositionNeighboursPinLaw", "has", "(JII)Z"⟩ : MethodName)) hown (mvT hZ (hw _ (List.mem_of_getElem? (i := 0) rfl))) (mvT hZ (hw _ (List.mem_of_getElem? (i := 1) rfl))) (mvT hZ (hw _ (List.mem_of_getElem? (i := 2) rfl))) (mvT hZ (hw _ (List.mem_of_getElem? (i := 3) rfl))) (by decide) (backOf (W := 0) (rm1 l Z a0 hw [] q1 (((p2 &&& (63 : Int32)) &&& (7 : Int32)) - (1 : Int32)) ((((p2 &&& (63 : Int32)).toUInt32 >>> ((3 : Int32) &&& 31).toUInt32).toInt32) + (1 : Int32)) h0 n0 Z0 ) hZ (hw _ (List.mem_of_getElem? (i := 3) rfl)) (hw _ (List.mem_of_getElem? (i := 2) rfl)) (by decide) (by decide)) (g := (mkF m 94 #[.val (.long q1), .second, .val (.int p2), .val (.int (p2 &&& (63 : Int32))), .val (.int ((p2 &&& (63 : Int32)) &&& (7 : Int32))), .val (.int (((p2 &&& (63 : Int32)).toUInt32 >>> ((3 : Int32) &&& 31).toUInt32).toInt32)), .unset, .unset, .unset, .unset] [(.int ((((p2 &&& (63 : Int32)).toUInt32 >>> ((3 : Int32) &&& 31).toUInt32).toInt32) + (1 : Int32))), (.int (((p2 &&& (63 : Int32)) &&& (7 : Int32)) - (1 : Int32))), (.long q1)])) rfl (by rw [hml]; rfl) (argsL := [(.long q1), (.int (((p2 &&& (63 : Int32)) &&& (7 : Int32)) - (1 : Int32))), (.int ((((p2 &&& (63 : Int32)).toUInt32 >>> ((3 : Int32) &&& 31).toUInt32).toInt32) + (1 : Int32)))]) (rest := []) (lenOf pd__JII_Z rfl) rfl (by show 2 * 0 + _ ≤ _; exact Nat.le_of_eq rfl) (hb hby at_94) (fun _ _ => ⟨rfl, e49, (by decide : 0 + 0 ≤ _), (by decide : 0 + 0 ≤ _)⟩)
            dsimp only [Pt.U, Pt.locs, Pt.cells, Pt.slots] at X54 l54 y54 z54 st54 hQ54
            subst l54 y54 z54
            obtain ⟨rfl, N54q, e54⟩ := hQ54
            have N54 := Fr.app N49 N54q
            have pre55 : ∀ t, Steps p.tables e below (T54.setTop (mkF m 97 #[.val (.long q1), .second, .val (.int p2), .val (.int (p2 &&& (63 : Int32))), .val (.int ((p2 &&& (63 : Int32)) &&& (7 : Int32))), .val (.int (((p2 &&& (63 : Int32)).toUInt32 >>> ((3 : Int32) &&& 31).toUInt32).toInt32)), .unset, .unset, .unset, .unset] [(.int (F1 q1 (((p2 &&& (63 : Int32)) &&& (7 : Int32)) - (1 : Int32)) ((((p2 &&& (63 : Int32)).toUInt32 >>> ((3 : Int32) &&& 31).toUInt32).toInt32) + (1 : Int32))))])) t → Steps p.tables e below (s₁.setTop (entryFrame m #[(.long q1), (.int p2)] maxLocals)) t := by
              intro t k
              refine pre53 _ ?_
              show Steps p.tables e below (T49.setTop (mkF m 94 #[.val (.long q1), .second, .val (.int p2), .val (.int (p2 &&& (63 : Int32))), .val (.int ((p2 &&& (63 : Int32)) &&& (7 : Int32))), .val (.int (((p2 &&& (63 : Int32)).toUInt32 >>> ((3 : Int32) &&& 31).toUInt32).toInt32)), .unset, .unset, .unset, .unset] [(.int ((((p2 &&& (63 : Int32)).toUInt32 >>> ((3 : Int32) &&& 31).toUInt32).toInt32) + (1 : Int32))), (.int (((p2 &&& (63 : Int32)) &&& (7 : Int32)) - (1 : Int32))), (.long q1)])) _
              refine st54 _ ?_
              exact k
            by_cases hc56 : (F1 q1 (((p2 &&& (63 : Int32)) &&& (7 : Int32)) - (1 : Int32)) ((((p2 &&& (63 : Int32)).toUInt32 >>> ((3 : Int32) &&& 31).toUInt32).toInt32) + (1 : Int32))) = (0 : Int32)
            · have pre57 : ∀ t, Steps p.tables e below (T54.setTop (mkF m 100 #[.val (.long q1), .second, .val (.int p2), .val (.int (p2 &&& (63 : Int32))), .val (.int ((p2 &&& (63 : Int32)) &&& (7 : Int32))), .val (.int (((p2 &&& (63 : Int32)).toUInt32 >>> ((3 : Int32) &&& 31).toUInt32).toInt32)), .unset, .unset, .unset, .unset] [])) t → Steps p.tables e below (s₁.setTop (entryFrame m #[(.long q1), (.int p2)] maxLocals)) t := by
                intro t k
                refine pre55 _ ?_
                show Steps p.tables e below (T54.setTop (mkF m 97 #[.val (.long q1), .second, .val (.int p2), .val (.int (p2 &&& (63 : Int32))), .val (.int ((p2 &&& (63 : Int32)) &&& (7 : Int32))), .val (.int (((p2 &&& (63 : Int32)).toUInt32 >>> ((3 : Int32) &&& 31).toUInt32).toInt32)), .unset, .unset, .unset, .unset] [(.int (F1 q1 (((p2 &&& (63 : Int32)) &&& (7 : Int32)) - (1 : Int32)) ((((p2 &&& (63 : Int32)).toUInt32 >>> ((3 : Int32) &&& 31).toUInt32).toInt32) + (1 : Int32))))])) _
                refine XS.ifNo X54.here hx rfl (hb hby at_97) rfl ((if0 _ _).trans (teq hc56).2) ?_
                exact k
              have pre58 : ∀ t, Steps p.tables e below (T54.setTop (mkF m 107 #[.val (.long q1), .second, .val (.int p2), .val (.int (p2 &&& (63 : Int32))), .val (.int ((p2 &&& (63 : Int32)) &&& (7 : Int32))), .val (.int (((p2 &&& (63 : Int32)).toUInt32 >>> ((3 : Int32) &&& 31).toUInt32).toInt32)), .unset, .unset, .unset, .unset] [(.int ((((p2 &&& (63 : Int32)).toUInt32 >>> ((3 : Int32) &&& 31).toUInt32).toInt32) + (1 : Int32))), (.int ((p2 &&& (63 : Int32)) &&& (7 : Int32))), (.long q1)])) t → Steps p.tables e below (s₁.setTop (entryFrame m #[(.long q1), (.int p2)] maxLocals)) t := by
                intro t k
                refine pre57 _ ?_
                show Steps p.tables e below (T54.setTop (mkF m 100 #[.val (.long q1), .second, .val (.int p2), .val (.int (p2 &&& (63 : Int32))), .val (.int ((p2 &&& (63 : Int32)) &&& (7 : Int32))), .val (.int (((p2 &&& (63 : Int32)).toUInt32 >>> ((3 : Int32) &&& 31).toUInt32).toInt32)), .unset, .unset, .unset, .unset] [])) _
                refine XS.lloadN X54.here hx rfl (hb hby at_100) rfl ?_
                show Steps p.tables e below (T54.setTop (mkF m 101 #[.val (.long q1), .second, .val (.int p2), .val (.int (p2 &&& (63 : Int32))), .val (.int ((p2 &&& (63 : Int32)) &&& (7 : Int32))), .val (.int (((p2 &&& (63 : Int32)).toUInt32 >>> ((3 : Int32) &&& 31).toUInt32).toInt32)), .unset, .unset, .unset, .unset] [(.long q1)])) _
                refine XS.iload X54.here hx rfl (hb hby at_101) rfl ?_
                show Steps p.tables e below (T54.setTop (mkF m 103 #[.val (.long q1), .second, .val (.int p2), .val (.int (p2 &&& (63 : Int32))), .val (.int ((p2 &&& (63 : Int32)) &&& (7 : Int32))), .val (.int (((p2 &&& (63 : Int32)).toUInt32 >>> ((3 : Int32) &&& 31).toUInt32).toInt32)), .unset, .unset, .unset, .unset] [(.int ((p2 &&& (63 : Int32)) &&& (7 : Int32))), (.long q1)])) _
                refine XS.iload X54.here hx rfl (hb hby at_103) rfl ?_
                show Steps p.tables e below (T54.setTop (mkF m 105 #[.val (.long q1), .second, .val (.int p2), .val (.int (p2 &&& (63 : Int32))), .val (.int ((p2 &&& (63 : Int32)) &&& (7 : Int32))), .val (.int (((p2 &&& (63 : Int32)).toUInt32 >>> ((3 : Int32) &&& 31).toUInt32).toInt32)), .unset, .unset, .unset, .unset] [(.int (((p2 &&& (63 : Int32)).toUInt32 >>> ((3 : Int32) &&& 31).toUInt32).toInt32)), (.int ((p2 &&& (63 : Int32)) &&& (7 : Int32))), (.long q1)])) _
                refine XS.iconst X54.here hx rfl (hb hby at_105) ?_
                show Steps p.tables e below (T54.setTop (mkF m 106 #[.val (.long q1), .second, .val (.int p2), .val (.int (p2 &&& (63 : Int32))), .val (.int ((p2 &&& (63 : Int32)) &&& (7 : Int32))), .val (.int (((p2 &&& (63 : Int32)).toUInt32 >>> ((3 : Int32) &&& 31).toUInt32).toInt32)), .unset, .unset, .unset, .unset] [(.int (1 : Int32)), (.int (((p2 &&& (63 : Int32)).toUInt32 >>> ((3 : Int32) &&& 31).toUInt32).toInt32)), (.int ((p2 &&& (63 : Int32)) &&& (7 : Int32))), (.long q1)])) _
                refine XS.iadd X54.here hx rfl (hb hby at_106) rfl ?_
                exact k
              obtain ⟨_, _, ⟨T59, L59, k59, n59⟩, -, X59, ⟨Lc59, hQ59, l59, y59, z59⟩, st59⟩ := Jvm.LawKit.callS X54 hx (y := (⟨"com/example/tabuleiro/tabuleiro/othello/OthelloPositionNeighboursPinLaw", "has", "(JII)Z"⟩ : MethodName)) hown (mvT hZ (hw _ (List.mem_of_getElem? (i := 0) rfl))) (mvT hZ (hw _ (List.mem_of_getElem? (i := 1) rfl))) (mvT hZ (hw _ (List.mem_of_getElem? (i := 2) rfl))) (mvT hZ (hw _ (List.mem_of_getElem? (i := 3) rfl))) (by decide) (backOf (W := 0) (rm1 l Z a0 hw [] q1 ((p2 &&& (63 : Int32)) &&& (7 : Int32)) ((((p2 &&& (63 : Int32)).toUInt32 >>> ((3 : Int32) &&& 31).toUInt32).toInt32) + (1 : Int32)) h0 n0 Z0 ) hZ (hw _ (List.mem_of_getElem? (i := 3) rfl)) (hw _ (List.mem_of_getElem? (i := 2) rfl)) (by decide) (by decide)) (g := (mkF m 107 #[.val (.long q1), .second, .val (.int p2), .val (.int (p2 &&& (63 : Int32))), .val (.int ((p2 &&& (63 : Int32)) &&& (7 : Int32))), .val (.int (((p2 &&& (63 : Int32)).toUInt32 >>> ((3 : Int32) &&& 31).toUInt32).toInt32)), .unset, .unset, .unset, .unset] [(.int ((((p2 &&& (63 : Int32)).toUInt32 >>> ((3 : Int32) &&& 31).toUInt32).toInt32) + (1 : Int32))), (.int ((p2 &&& (63 : Int32)) &&& (7 : Int32))), (.long q1)])) rfl (by rw [hml]; rfl) (argsL := [(.long q1), (.int ((p2 &&& (63 : Int32)) &&& (7 : Int32))), (.int ((((p2 &&& (63 : Int32)).toUInt32 >>> ((3 : Int32) &&& 31).toUInt32).toInt32) + (1 : Int32)))]) (rest := []) (lenOf pd__JII_Z rfl) rfl (by show 2 * 0 + _ ≤ _; exact Nat.le_of_eq rfl) (hb hby at_107) (fun _ _ => ⟨rfl, e54, (by decide : 0 + 0 ≤ _), (by decide : 0 + 0 ≤ _)⟩)
              dsimp only [Pt.U, Pt.locs, Pt.cells, Pt.slots] at X59 l59 y59 z59 st59 hQ59
              subst l59 y59 z59
              obtain ⟨rfl, N59q, e59⟩ := hQ59
              have N59 := Fr.app N54 N59q
              have pre60 : ∀ t, Steps p.tables e below (T59.setTop (mkF m 110 #[.val (.long q1), .second, .val (.int p2), .val (.int (p2 &&& (63 : Int32))), .val (.int ((p2 &&& (63 : Int32)) &&& (7 : Int32))), .val (.int (((p2 &&& (63 : Int32)).toUInt32 >>> ((3 : Int32) &&& 31).toUInt32).toInt32)), .unset, .unset, .unset, .unset] [(.int (F1 q1 ((p2 &&& (63 : Int32)) &&& (7 : Int32)) ((((p2 &&& (63 : Int32)).toUInt32 >>> ((3 : Int32) &&& 31).toUInt32).toInt32) + (1 : Int32))))])) t → Steps p.tables e below (s₁.setTop (entryFrame m #[(.long q1), (.int p2)] maxLocals)) t := by
                intro t k
                refine pre58 _ ?_
                show Steps p.tables e below (T54.setTop (mkF m 107 #[.val (.long q1), .second, .val (.int p2), .val (.int (p2 &&& (63 : Int32))), .val (.int ((p2 &&& (63 : Int32)) &&& (7 : Int32))), .val (.int (((p2 &&& (63 : Int32)).toUInt32 >>> ((3 : Int32) &&& 31).toUInt32).toInt32)), .unset, .unset, .unset, .unset] [(.int ((((p2 &&& (63 : Int32)).toUInt32 >>> ((3 : Int32) &&& 31).toUInt32).toInt32) + (1 : Int32))), (.int ((p2 &&& (63 : Int32)) &&& (7 : Int32))), (.long q1)])) _
                refine st59 _ ?_
                exact k
              by_cases hc61 : (F1 q1 ((p2 &&& (63 : Int32)) &&& (7 : Int32)) ((((p2 &&& (63 : Int32)).toUInt32 >>> ((3 : Int32) &&& 31).toUInt32).toInt32) + (1 : Int32))) = (0 : Int32)
              · have pre62 : ∀ t, Steps p.tables e below (T59.setTop (mkF m 113 #[.val (.long q1), .second, .val (.int p2), .val (.int (p2 &&& (63 : Int32))), .val (.int ((p2 &&& (63 : Int32)) &&& (7 : Int32))), .val (.int (((p2 &&& (63 : Int32)).toUInt32 >>> ((3 : Int32) &&& 31).toUInt32).toInt32)), .unset, .unset, .unset, .unset] [])) t → Steps p.tables e below (s₁.setTop (entryFrame m #[(.long q1), (.int p2)] maxLocals)) t := by
                  intro t k
                  refine pre60 _ ?_
                  show Steps p.tables e below (T59.setTop (mkF m 110 #[.val (.long q1), .second, .val (.int p2), .val (.int (p2 &&& (63 : Int32))), .val (.int ((p2 &&& (63 : Int32)) &&& (7 : Int32))), .val (.int (((p2 &&& (63 : Int32)).toUInt32 >>> ((3 : Int32) &&& 31).toUInt32).toInt32)), .unset, .unset, .unset, .unset] [(.int (F1 q1 ((p2 &&& (63 : Int32)) &&& (7 : Int32)) ((((p2 &&& (63 : Int32)).toUInt32 >>> ((3 : Int32) &&& 31).toUInt32).toInt32) + (1 : Int32))))])) _
                  refine XS.ifNo X59.here hx rfl (hb hby at_110) rfl ((if0 _ _).trans (teq hc61).2) ?_
                  exact k
                have pre63 : ∀ t, Steps p.tables e below (T59.setTop (mkF m 122 #[.val (.long q1), .second, .val (.int p2), .val (.int (p2 &&& (63 : Int32))), .val (.int ((p2 &&& (63 : Int32)) &&& (7 : Int32))), .val (.int (((p2 &&& (63 : Int32)).toUInt32 >>> ((3 : Int32) &&& 31).toUInt32).toInt32)), .unset, .unset, .unset, .unset] [(.int ((((p2 &&& (63 : Int32)).toUInt32 >>> ((3 : Int32) &&& 31).toUInt32).toInt32) + (1 : Int32))), (.int (((p2 &&& (63 : Int32)) &&& (7 : Int32)) + (1 : Int32))), (.long q1)])) t → Steps p.tables e below (s₁.setTop (entryFrame m #[(.long q1), (.int p2)] maxLocals)) t := by
                  intro t k
                  refine pre62 _ ?_
                  show Steps p.tables e below (T59.setTop (mkF m 113 #[.val (.long q1), .second, .val (.int p2), .val (.int (p2 &&& (63 : Int32))), .val (.int ((p2 &&& (63 : Int32)) &&& (7 : Int32))), .val (.int (((p2 &&& (63 : Int32)).toUInt32 >>> ((3 : Int32) &&& 31).toUInt32).toInt32)), .unset, .unset, .unset, .unset] [])) _
                  refine XS.lloadN X59.here hx rfl (hb hby at_113) rfl ?_
                  show Steps p.tables e below (T59.setTop (mkF m 114 #[.val (.long q1), .second, .val (.int p2), .val (.int (p2 &&& (63 : Int32))), .val (.int ((p2 &&& (63 : Int32)) &&& (7 : Int32))), .val (.int (((p2 &&& (63 : Int32)).toUInt32 >>> ((3 : Int32) &&& 31).toUInt32).toInt32)), .unset, .unset, .unset, .unset] [(.long q1)])) _
                  refine XS.iload X59.here hx rfl (hb hby at_114) rfl ?_
                  show Steps p.tables e below (T59.setTop (mkF m 116 #[.val (.long q1), .second, .val (.int p2), .val (.int (p2 &&& (63 : Int32))), .val (.int ((p2 &&& (63 : Int32)) &&& (7 : Int32))), .val (.int (((p2 &&& (63 : Int32)).toUInt32 >>> ((3 : Int32) &&& 31).toUInt32).toInt32)), .unset, .unset, .unset, .unset] [(.int ((p2 &&& (63 : Int32)) &&& (7 : Int32))), (.long q1)])) _
                  refine XS.iconst X59.here hx rfl (hb hby at_116) ?_
                  show Steps p.tables e below (T59.setTop (mkF m 117 #[.val (.long q1), .second, .val (.int p2), .val (.int (p2 &&& (63 : Int32))), .val (.int ((p2 &&& (63 : Int32)) &&& (7 : Int32))), .val (.int (((p2 &&& (63 : Int32)).toUInt32 >>> ((3 : Int32) &&& 31).toUInt32).toInt32)), .unset, .unset, .unset, .unset] [(.int (1 : Int32)), (.int ((p2 &&& (63 : Int32)) &&& (7 : Int32))), (.long q1)])) _
                  refine XS.iadd X59.here hx rfl (hb hby at_117) rfl ?_
                  show Steps p.tables e below (T59.setTop (mkF m 118 #[.val (.long q1), .second, .val (.int p2), .val (.int (p2 &&& (63 : Int32))), .val (.int ((p2 &&& (63 : Int32)) &&& (7 : Int32))), .val (.int (((p2 &&& (63 : Int32)).toUInt32 >>> ((3 : Int32) &&& 31).toUInt32).toInt32)), .unset, .unset, .unset, .unset] [(.int (((p2 &&& (63 : Int32)) &&& (7 : Int32)) + (1 : Int32))), (.long q1)])) _
                  refine XS.iload X59.here hx rfl (hb hby at_118) rfl ?_
                  show Steps p.tables e below (T59.setTop (mkF m 120 #[.val (.long q1), .second, .val (.int p2), .val (.int (p2 &&& (63 : Int32))), .val (.int ((p2 &&& (63 : Int32)) &&& (7 : Int32))), .val (.int (((p2 &&& (63 : Int32)).toUInt32 >>> ((3 : Int32) &&& 31).toUInt32).toInt32)), .unset, .unset, .unset, .unset] [(.int (((p2 &&& (63 : Int32)).toUInt32 >>> ((3 : Int32) &&& 31).toUInt32).toInt32)), (.int (((p2 &&& (63 : Int32)) &&& (7 : Int32)) + (1 : Int32))), (.long q1)])) _
                  refine XS.iconst X59.here hx rfl (hb hby at_120) ?_
                  show Steps p.tables e below (T59.setTop (mkF m 121 #[.val (.long q1), .second, .val (.int p2), .val (.int (p2 &&& (63 : Int32))), .val (.int ((p2 &&& (63 : Int32)) &&& (7 : Int32))), .val (.int (((p2 &&& (63 : Int32)).toUInt32 >>> ((3 : Int32) &&& 31).toUInt32).toInt32)), .unset, .unset, .unset, .unset] [(.int (1 : Int32)), (.int (((p2 &&& (63 : Int32)).toUInt32 >>> ((3 : Int32) &&& 31).toUInt32).toInt32)), (.int (((p2 &&& (63 : Int32)) &&& (7 : Int32)) + (1 : Int32))), (.long q1)])) _
                  refine XS.iadd X59.here hx rfl (hb hby at_121) rfl ?_
                  exact k
                obtain ⟨_, _, ⟨T64, L64, k64, n64⟩, -, X64, ⟨Lc64, hQ64, l64, y64, z64⟩, st64⟩ := Jvm.LawKit.callS X59 hx (y := (⟨"com/example/tabuleiro/tabuleiro/othello/OthelloPositionNeighboursPinLaw", "has", "(JII)Z"⟩ : MethodName)) hown (mvT hZ (hw _ (List.mem_of_getElem? (i := 0) rfl))) (mvT hZ (hw _ (List.mem_of_getElem? (i := 1) rfl))) (mvT hZ (hw _ (List.mem_of_getElem? (i := 2) rfl))) (mvT hZ (hw _ (List.mem_of_getElem? (i := 3) rfl))) (by decide) (backOf (W := 0) (rm1 l Z a0 hw [] q1 (((p2 &&& (63 : Int32)) &&& (7 : Int32)) + (1 : Int32)) ((((p2 &&& (63 : Int32)).toUInt32 >>> ((3 : Int32) &&& 31).toUInt32).toInt32) + (1 : Int32)) h0 n0 Z0 ) hZ (hw _ (List.mem_of_getElem? (i := 3) rfl)) (hw _ (List.mem_of_getElem? (i := 2) rfl)) (by decide) (by decide)) (g := (mkF m 122 #[.val (.long q1), .second, .val (.int p2), .val (.int (p2 &&& (63 : Int32))), .val (.int ((p2 &&& (63 : Int32)) &&& (7 : Int32))), .val (.int (((p2 &&& (63 : Int32)).toUInt32 >>> ((3 : Int32) &&& 31).toUInt32).toInt32)), .unset, .unset, .unset, .unset] [(.int ((((p2 &&& (63 : Int32)).toUInt32 >>> ((3 : Int32) &&& 31).toUInt32).toInt32) + (1 : Int32))), (.int (((p2 &&& (63 : Int32)) &&& (7 : Int32)) + (1 : Int32))), (.long q1)])) rfl (by rw [hml]; rfl) (argsL := [(.long q1), (.int (((p2 &&& (63 : Int32)) &&& (7 : Int32)) + (1 : Int32))), (.int ((((p2 &&& (63 : Int32)).toUInt32 >>> ((3 : Int32) &&& 31).toUInt32).toInt32) + (1 : Int32)))]) (rest := []) (lenOf pd__JII_Z rfl) rfl (by show 2 * 0 + _ ≤ _; exact Nat.le_of_eq rfl) (hb hby at_122) (fun _ _ => ⟨rfl, e59, (by decide : 0 + 0 ≤ _), (by decide : 0 + 0 ≤ _)⟩)
                dsimp only [Pt.U, Pt.locs, Pt.cells, Pt.slots] at X64 l64 y64 z64 st64 hQ64
                subst l64 y64 z64
                obtain ⟨rfl, N64q, e64⟩ := hQ64
                have N64 := Fr.app N59 N64q
                have pre65 : ∀ t, Steps p.tables e below (T64.setTop (mkF m 125 #[.val (.long q1), .second, .val (.int p2), .val (.int (p2 &&& (63 : Int32))), .val (.int ((p2 &&& (63 : Int32)) &&& (7 : Int32))), .val (.int (((p2 &&& (63 : Int32)).toUInt32 >>> ((3 : Int32) &&& 31).toUInt32).toInt32)), .unset, .unset, .unset, .unset] [(.int (F1 q1 (((p2 &&& (63 : Int32)) &&& (7 : Int32)) + (1 : Int32)) ((((p2 &&& (63 : Int32)).toUInt32 >>> ((3 : Int32) &&& 31).toUInt32).toInt32) + (1 : Int32))))])) t → Steps p.tables e below (s₁.setTop (entryFrame m #[(.long q1), (.int p2)] maxLocals)) t := by
                  intro t k
                  refine pre63 _ ?_
                  show Steps p.tables e below (T59.setTop (mkF m 122 #[.val (.long q1), .second, .val (.int p2), .val (.int (p2 &&& (63 : Int32))), .val (.int ((p2 &&& (63 : Int32)) &&& (7 : Int32))), .val (.int (((p2 &&& (63 : Int32)).toUInt32 >>> ((3 : Int32) &&& 31).toUInt32).toInt32)), .unset, .unset, .unset, .unset] [(.int ((((p2 &&& (63 : Int32)).toUInt32 >>> ((3 : Int32) &&& 31).toUInt32).toInt32) + (1 : Int32))), (.int (((p2 &&& (63 : Int32)) &&& (7 : Int32)) + (1 : Int32))), (.long q1)])) _
                  refine st64 _ ?_
                  exact k
                by_cases hc66 : (F1 q1 (((p2 &&& (63 : Int32)) &&& (7 : Int32)) + (1 : Int32)) ((((p2 &&& (63 : Int32)).toUInt32 >>> ((3 : Int32) &&& 31).toUInt32).toInt32) + (1 : Int32))) = (0 : Int32)
                · have pre67 : ∀ t, Steps p.tables e below (T64.setTop (mkF m 132 #[.val (.long q1), .second, .val (.int p2), .val (.int (p2 &&& (63 : Int32))), .val (.int ((p2 &&& (63 : Int32)) &&& (7 : Int32))), .val (.int (((p2 &&& (63 : Int32)).toUInt32 >>> ((3 : Int32) &&& 31).toUInt32).toInt32)), .unset, .unset, .unset, .unset] [])) t → Steps p.tables e below (s₁.setTop (entryFrame m #[(.long q1), (.int p2)] maxLocals)) t := by
                    intro t k
                    refine pre65 _ ?_
                    show Steps p.tables e below (T64.setTop (mkF m 125 #[.val (.long q1), .second, .val (.int p2), .val (.int (p2 &&& (63 : Int32))), .val (.int ((p2 &&& (63 : Int32)) &&& (7 : Int32))), .val (.int (((p2 &&& (63 : Int32)).toUInt32 >>> ((3 : Int32) &&& 31).toUInt32).toInt32)), .unset, .unset, .unset, .unset] [(.int (F1 q1 (((p2 &&& (63 : Int32)) &&& (7 : Int32)) + (1 : Int32)) ((((p2 &&& (63 : Int32)).toUInt32 >>> ((3 : Int32) &&& 31).toUInt32).toInt32) + (1 : Int32))))])) _
                    refine XS.ifYes X64.here hx rfl (pc0 := 125) (pc' := 132) rfl (hb hby at_125) rfl ((if0 _ _).trans (teq hc66).1) (by decide) (by decide) ?_
                    exact k
                  have pre68 : ∀ t, Steps p.tables e below (T64.setTop (mkF m 136 #[.val (.long q1), .second, .val (.int p2), .val (.int (p2 &&& (63 : Int32))), .val (.int ((p2 &&& (63 : Int32)) &&& (7 : Int32))), .val (.int (((p2 &&& (63 : Int32)).toUInt32 >>> ((3 : Int32) &&& 31).toUInt32).toInt32)), .val (.int (0 : Int32)), .unset, .unset, .unset] [(.long q1)])) t → Steps p.tables e below (s₁.setTop (entryFrame m #[(.long q1), (.int p2)] maxLocals)) t := by
                    intro t k
                    refine pre67 _ ?_
                    show Steps p.tables e below (T64.setTop (mkF m 132 #[.val (.long q1), .second, .val (.int p2), .val (.int (p2 &&& (63 : Int32))), .val (.int ((p2 &&& (63 : Int32)) &&& (7 : Int32))), .val (.int (((p2 &&& (63 : Int32)).toUInt32 >>> ((3 : Int32) &&& 31).toUInt32).toInt32)), .unset, .unset, .unset, .unset] [])) _
                    refine XS.iconst X64.here hx rfl (hb hby at_132) ?_
                    show Steps p.tables e below (T64.setTop (mkF m 133 #[.val (.long q1), .second, .val (.int p2), .val (.int (p2 &&& (63 : Int32))), .val (.int ((p2 &&& (63 : Int32)) &&& (7 : Int32))), .val (.int (((p2 &&& (63 : Int32)).toUInt32 >>> ((3 : Int32) &&& 31).toUInt32).toInt32)), .unset, .unset, .unset, .unset] [(.int (0 : Int32))])) _
                    refine XS.istore X64.here hx rfl (hb hby at_133) rfl (l' := #[.val (.long q1), .second, .val (.int p2), .val (.int (p2 &&& (63 : Int32))), .val (.int ((p2 &&& (63 : Int32)) &&& (7 : Int32))), .val (.int (((p2 &&& (63 : Int32)).toUInt32 >>> ((3 : Int32) &&& 31).toUInt32).toInt32)), .val (.int (0 : Int32)), .unset, .unset, .unset]) rfl ?_
                    show Steps p.tables e below (T64.setTop (mkF m 135 #[.val (.long q1), .second, .val (.int p2), .val (.int (p2 &&& (63 : Int32))), .val (.int ((p2 &&& (63 : Int32)) &&& (7 : Int32))), .val (.int (((p2 &&& (63 : Int32)).toUInt32 >>> ((3 : Int32) &&& 31).toUInt32).toInt32)), .val (.int (0 : Int32)), .unset, .unset, .unset] [])) _
                    refine XS.lloadN X64.here hx rfl (hb hby at_135) rfl ?_
                    exact k
                  obtain ⟨_, _, ⟨T69, L69, k69, n69⟩, -, X69, ⟨Lc69, hQ69, l69, y69, z69⟩, st69⟩ := Jvm.LawKit.callS X64 hx (y := (⟨"com/example/tabuleiro/tabuleiro/othello/OthelloPosition", "neighbours", "(J)J"⟩ : MethodName)) hown (mvT hZ (hw _ (List.mem_of_getElem? (i := 4) rfl))) (mvT hZ (hw _ (List.mem_of_getElem? (i := 5) rfl))) (mvT hZ (hw _ (List.mem_of_getElem? (i := 6) rfl))) (mvT hZ (hw _ (List.mem_of_getElem? (i := 7) rfl))) (by decide) (backOf (W := 0) (rm2 l Z a0 hw [] q1 h0 n0 Z0 ) hZ (hw _ (List.mem_of_getElem? (i := 7) rfl)) (hw _ (List.mem_of_getElem? (i := 6) rfl)) (by decide) (by decide)) (g := (mkF m 136 #[.val (.long q1), .second, .val (.int p2), .val (.int (p2 &&& (63 : Int32))), .val (.int ((p2 &&& (63 : Int32)) &&& (7 : Int32))), .val (.int (((p2 &&& (63 : Int32)).toUInt32 >>> ((3 : Int32) &&& 31).toUInt32).toInt32)), .val (.int (0 : Int32)), .unset, .unset, .unset] [(.long q1)])) rfl (by rw [hml]; rfl) (argsL := [(.long q1)]) (rest := []) (lenOf pd__J_J rfl) rfl (by show 2 * 0 + _ ≤ _; exact Nat.le_of_eq rfl) (hb hby at_136) (fun _ _ => ⟨rfl, e64, (by decide : 0 + 0 ≤ _), (by decide : 0 + 0 ≤ _)⟩)
                  dsimp only [Pt.U, Pt.locs, Pt.cells, Pt.slots] at X69 l69 y69 z69 st69 hQ69
                  subst l69 y69 z69
                  obtain ⟨rfl, N69q, e69⟩ := hQ69
                  have N69 := Fr.app N64 N69q
                  have pre70 : ∀ t, Steps p.tables e below (T69.setTop (mkF m 139 #[.val (.long q1), .second, .val (.int p2), .val (.int (p2 &&& (63 : Int32))), .val (.int ((p2 &&& (63 : Int32)) &&& (7 : Int32))), .val (.int (((p2 &&& (63 : Int32)).toUInt32 >>> ((3 : Int32) &&& 31).toUInt32).toInt32)), .val (.int (0 : Int32)), .unset, .unset, .unset] [(.long (F2 q1))])) t → Steps p.tables e below (s₁.setTop (entryFrame m #[(.long q1), (.int p2)] maxLocals)) t := by
                    intro t k
                    refine pre68 _ ?_
                    show Steps p.tables e below (T64.setTop (mkF m 136 #[.val (.long q1), .second, .val (.int p2), .val (.int (p2 &&& (63 : Int32))), .val (.int ((p2 &&& (63 : Int32)) &&& (7 : Int32))), .val (.int (((p2 &&& (63 : Int32)).toUInt32 >>> ((3 : Int32) &&& 31).toUInt32).toInt32)), .val (.int (0 : Int32)), .unset, .unset, .unset] [(.long q1)])) _
                    refine st69 _ ?_
                    exact k
                  have pre71 : ∀ t, Steps p.tables e below (T69.setTop (mkF m 149 #[.val (.long q1), .second, .val (.int p2), .val (.int (p2 &&& (63 : Int32))), .val (.int ((p2 &&& (63 : Int32)) &&& (7 : Int32))), .val (.int (((p2 &&& (63 : Int32)).toUInt32 >>> ((3 : Int32) &&& 31).toUInt32).toInt32)), .val (.int (0 : Int32)), .val (.long (F2 q1)), .second, .unset] [(.int (lcmpW ((((F2 q1).toUInt64 >>> ((p2 &&& (63 : Int32)) &&& 0x3f).toInt64.toUInt64).toInt64) &&& (1 : Int64)) (0 : Int64)))])) t → Steps p.tables e below (s₁.setTop (entryFrame m #[(.long q1), (.int p2)] maxLocals)) t := by
                    intro t k
                    refine pre70 _ ?_
                    show Steps p.tables e below (T69.setTop (mkF m 139 #[.val (.long q1), .second, .val (.int p2), .val (.int (p2 &&& (63 : Int32))), .val (.int ((p2 &&& (63 : Int32)) &&& (7 : Int32))), .val (.int (((p2 &&& (63 : Int32)).toUInt32 >>> ((3 : Int32) &&& 31).toUInt32).toInt32)), .val (.int (0 : Int32)), .unset, .unset, .unset] [(.long (F2 q1))])) _
                    refine XS.lstore X69.here hx rfl (hb hby at_139) rfl (l' := #[.val (.long q1), .second, .val (.int p2), .val (.int (p2 &&& (63 : Int32))), .val (.int ((p2 &&& (63 : Int32)) &&& (7 : Int32))), .val (.int (((p2 &&& (63 : Int32)).toUInt32 >>> ((3 : Int32) &&& 31).toUInt32).toInt32)), .val (.int (0 : Int32)), .val (.long (F2 q1)), .second, .unset]) rfl ?_
                    show Steps p.tables e below (T69.setTop (mkF m 141 #[.val (.long q1), .second, .val (.int p2), .val (.int (p2 &&& (63 : Int32))), .val (.int ((p2 &&& (63 : Int32)) &&& (7 : Int32))), .val (.int (((p2 &&& (63 : Int32)).toUInt32 >>> ((3 : Int32) &&& 31).toUInt32).toInt32)), .val (.int (0 : Int32)), .val (.long (F2 q1)), .second, .unset] [])) _
                    refine XS.lload X69.here hx rfl (hb hby at_141) rfl ?_
                    show Steps p.tables e below (T69.setTop (mkF m 143 #[.val (.long q1), .second, .val (.int p2), .val (.int (p2 &&& (63 : Int32))), .val (.int ((p2 &&& (63 : Int32)) &&& (7 : Int32))), .val (.int (((p2 &&& (63 : Int32)).toUInt32 >>> ((3 : Int32) &&& 31).toUInt32).toInt32)), .val (.int (0 : Int32)), .val (.long (F2 q1)), .second, .unset] [(.long (F2 q1))])) _
                    refine XS.iloadN X69.here hx rfl (hb hby at_143) rfl ?_
                    show Steps p.tables e below (T69.setTop (mkF m 144 #[.val (.long q1), .second, .val (.int p2), .val (.int (p2 &&& (63 : Int32))), .val (.int ((p2 &&& (63 : Int32)) &&& (7 : Int32))), .val (.int (((p2 &&& (63 : Int32)).toUInt32 >>> ((3 : Int32) &&& 31).toUInt32).toInt32)), .val (.int (0 : Int32)), .val (.long (F2 q1)), .second, .unset] [(.int (p2 &&& (63 : Int32))), (.long (F2 q1))])) _
                    refine XS.lushr X69.here hx rfl (hb hby at_144) rfl ?_
                    show Steps p.tables e below (T69.setTop (mkF m 145 #[.val (.long q1), .second, .val (.int p2), .val (.int (p2 &&& (63 : Int32))), .val (.int ((p2 &&& (63 : Int32)) &&& (7 : Int32))), .val (.int (((p2 &&& (63 : Int32)).toUInt32 >>> ((3 : Int32) &&& 31).toUInt32).toInt32)), .val (.int (0 : Int32)), .val (.long (F2 q1)), .second, .unset] [(.long (((F2 q1).toUInt64 >>> ((p2 &&& (63 : Int32)) &&& 0x3f).toInt64.toUInt64).toInt64))])) _
                    refine XS.lconst X69.here hx rfl (hb hby at_145) ?_
                    show Steps p.tables e below (T69.setTop (mkF m 146 #[.val (.long q1), .second, .val (.int p2), .val (.int (p2 &&& (63 : Int32))), .val (.int ((p2 &&& (63 : Int32)) &&& (7 : Int32))), .val (.int (((p2 &&& (63 : Int32)).toUInt32 >>> ((3 : Int32) &&& 31).toUInt32).toInt32)), .val (.int (0 : Int32)), .val (.long (F2 q1)), .second, .unset] [(.long (1 : Int64)), (.long (((F2 q1).toUInt64 >>> ((p2 &&& (63 : Int32)) &&& 0x3f).toInt64.toUInt64).toInt64))])) _
                    refine XS.land X69.here hx rfl (hb hby at_146) rfl ?_
                    show Steps p.tables e below (T69.setTop (mkF m 147 #[.val (.long q1), .second, .val (.int p2), .val (.int (p2 &&& (63 : Int32))), .val (.int ((p2 &&& (63 : Int32)) &&& (7 : Int32))), .val (.int (((p2 &&& (63 : Int32)).toUInt32 >>> ((3 : Int32) &&& 31).toUInt32).toInt32)), .val (.int (0 : Int32)), .val (.long (F2 q1)), .second, .unset] [(.long ((((F2 q1).toUInt64 >>> ((p2 &&& (63 : Int32)) &&& 0x3f).toInt64.toUInt64).toInt64) &&& (1 : Int64)))])) _
                    refine XS.lconst X69.here hx rfl (hb hby at_147) ?_
                    show Steps p.tables e below (T69.setTop (mkF m 148 #[.val (.long q1), .second, .val (.int p2), .val (.int (p2 &&& (63 : Int32))), .val (.int ((p2 &&& (63 : Int32)) &&& (7 : Int32))), .val (.int (((p2 &&& (63 : Int32)).toUInt32 >>> ((3 : Int32) &&& 31).toUInt32).toInt32)), .val (.int (0 : Int32)), .val (.long (F2 q1)), .second, .unset] [(.long (0 : Int64)), (.long ((((F2 q1).toUInt64 >>> ((p2 &&& (63 : Int32)) &&& 0x3f).toInt64.toUInt64).toInt64) &&& (1 : Int64)))])) _
                    refine XS.lcmp X69.here hx rfl (hb hby at_148) rfl ?_
                    exact k
                  by_cases hc72 : (lcmpW ((((F2 q1).toUInt64 >>> ((p2 &&& (63 : Int32)) &&& 0x3f).toInt64.toUInt64).toInt64) &&& (1 : Int64)) (0 : Int64)) = (0 : Int32)
                  · have pre73 : ∀ t, Steps p.tables e below (T69.setTop (mkF m 156 #[.val (.long q1), .second, .val (.int p2), .val (.int (p2 &&& (63 : Int32))), .val (.int ((p2 &&& (63 : Int32)) &&& (7 : Int32))), .val (.int (((p2 &&& (63 : Int32)).toUInt32 >>> ((3 : Int32) &&& 31).toUInt32).toInt32)), .val (.int (0 : Int32)), .val (.long (F2 q1)), .second, .unset] [])) t → Steps p.tables e below (s₁.setTop (entryFrame m #[(.long q1), (.int p2)] maxLocals)) t := by
                      intro t k
                      refine pre71 _ ?_
                      show Steps p.tables e below (T69.setTop (mkF m 149 #[.val (.long q1), .second, .val (.int p2), .val (.int (p2 &&& (63 : Int32))), .val (.int ((p2 &&& (63 : Int32)) &&& (7 : Int32))), .val (.int (((p2 &&& (63 : Int32)).toUInt32 >>> ((3 : Int32) &&& 31).toUInt32).toInt32)), .val (.int (0 : Int32)), .val (.long (F2 q1)), .second, .unset] [(.int (lcmpW ((((F2 q1).toUInt64 >>> ((p2 &&& (63 : Int32)) &&& 0x3f).toInt64.toUInt64).toInt64) &&& (1 : Int64)) (0 : Int64)))])) _
                      refine XS.ifYes X69.here hx rfl (pc0 := 149) (pc' := 156) rfl (hb hby at_149) rfl ((if0 _ _).trans (teq hc72).1) (by decide) (by decide) ?_
                      exact k
                    have pre74 : ∀ t, Steps p.tables e below (T69.setTop (mkF m 163 #[.val (.long q1), .second, .val (.int p2), .val (.int (p2 &&& (63 : Int32))), .val (.int ((p2 &&& (63 : Int32)) &&& (7 : Int32))), .val (.int (((p2 &&& (63 : Int32)).toUInt32 >>> ((3 : Int32) &&& 31).toUInt32).toInt32)), .val (.int (0 : Int32)), .val (.long (F2 q1)), .second, .val (.int (0 : Int32))] [(.int (0 : Int32)), (.int (0 : Int32))])) t → Steps p.tables e below (s₁.setTop (entryFrame m #[(.long q1), (.int p2)] maxLocals)) t := by
                      intro t k
                      refine pre73 _ ?_
                      show Steps p.tables e below (T69.setTop (mkF m 156 #[.val (.long q1), .second, .val (.int p2), .val (.int (p2 &&& (63 : Int32))), .val (.int ((p2 &&& (63 : Int32)) &&& (7 : Int32))), .val (.int (((p2 &&& (63 : Int32)).toUInt32 >>> ((3 : Int32) &&& 31).toUInt32).toInt32)), .val (.int (0 : Int32)), .val (.long (F2 q1)), .second, .unset] [])) _
                      refine XS.iconst X69.here hx rfl (hb hby at_156) ?_
                      show Steps p.tables e below (T69.setTop (mkF m 157 #[.val (.long q1), .second, .val (.int p2), .val (.int (p2 &&& (63 : Int32))), .val (.int ((p2 &&& (63 : Int32)) &&& (7 : Int32))), .val (.int (((p2 &&& (63 : Int32)).toUInt32 >>> ((3 : Int32) &&& 31).toUInt32).toInt32)), .val (.int (0 : Int32)), .val (.long (F2 q1)), .second, .unset] [(.int (0 : Int32))])) _
                      refine XS.istore X69.here hx rfl (hb hby at_157) rfl (l' := #[.val (.long q1), .second, .val (.int p2), .val (.int (p2 &&& (63 : Int32))), .val (.int ((p2 &&& (63 : Int32)) &&& (7 : Int32))), .val (.int (((p2 &&& (63 : Int32)).toUInt32 >>> ((3 : Int32) &&& 31).toUInt32).toInt32)), .val (.int (0 : Int32)), .val (.long (F2 q1)), .second, .val (.int (0 : Int32))]) rfl ?_
                      show Steps p.tables e below (T69.setTop (mkF m 159 #[.val (.long q1), .second, .val (.int p2), .val (.int (p2 &&& (63 : Int32))), .val (.int ((p2 &&& (63 : Int32)) &&& (7 : Int32))), .val (.int (((p2 &&& (63 : Int32)).toUInt32 >>> ((3 : Int32) &&& 31).toUInt32).toInt32)), .val (.int (0 : Int32)), .val (.long (F2 q1)), .second, .val (.int (0 : Int32))] [])) _
                      refine XS.iload X69.here hx rfl (hb hby at_159) rfl ?_
                      show Steps p.tables e below (T69.setTop (mkF m 161 #[.val (.long q1), .second, .val (.int p2), .val (.int (p2 &&& (63 : Int32))), .val (.int ((p2 &&& (63 : Int32)) &&& (7 : Int32))), .val (.int (((p2 &&& (63 : Int32)).toUInt32 >>> ((3 : Int32) &&& 31).toUInt32).toInt32)), .val (.int (0 : Int32)), .val (.long (F2 q1)), .second, .val (.int (0 : Int32))] [(.int (0 : Int32))])) _
                      refine XS.iload X69.here hx rfl (hb hby at_161) rfl ?_
                      exact k
                    have pre76 : ∀ t, Steps p.tables e below (T69.setTop (mkF m 166 #[.val (.long q1), .second, .val (.int p2), .val (.int (p2 &&& (63 : Int32))), .val (.int ((p2 &&& (63 : Int32)) &&& (7 : Int32))), .val (.int (((p2 &&& (63 : Int32)).toUInt32 >>> ((3 : Int32) &&& 31).toUInt32).toInt32)), .val (.int (0 : Int32)), .val (.long (F2 q1)), .second, .val (.int (0 : Int32))] [])) t → Steps p.tables e below (s₁.setTop (entryFrame m #[(.long q1), (.int p2)] maxLocals)) t := by
                      intro t k
                      refine pre74 _ ?_
                      show Steps p.tables e below (T69.setTop (mkF m 163 #[.val (.long q1), .second, .val (.int p2), .val (.int (p2 &&& (63 : Int32))), .val (.int ((p2 &&& (63 : Int32)) &&& (7 : Int32))), .val (.int (((p2 &&& (63 : Int32)).toUInt32 >>> ((3 : Int32) &&& 31).toUInt32).toInt32)), .val (.int (0 : Int32)), .val (.long (F2 q1)), .second, .val (.int (0 : Int32))] [(.int (0 : Int32)), (.int (0 : Int32))])) _
                      refine XS.icmpNo X69.here hx rfl (hb hby at_163) rfl (teq (by decide : (0 : Int32) = (0 : Int32))).2 ?_
                      exact k
                    have pre77 : ∀ t, Steps p.tables e below (T69.setTop (mkF m 171 #[.val (.long q1), .second, .val (.int p2), .val (.int (p2 &&& (63 : Int32))), .val (.int ((p2 &&& (63 : Int32)) &&& (7 : Int32))), .val (.int (((p2 &&& (63 : Int32)).toUInt32 >>> ((3 : Int32) &&& 31).toUInt32).toInt32)), .val (.int (0 : Int32)), .val (.long (F2 q1)), .second, .val (.int (0 : Int32))] [(.int (1 : Int32))])) t → Steps p.tables e below (s₁.setTop (entryFrame m #[(.long q1), (.int p2)] maxLocals)) t := by
                      intro t k
                      refine pre76 _ ?_
                      show Steps p.tables e below (T69.setTop (mkF m 166 #[.val (.long q1), .second, .val (.int p2), .val (.int (p2 &&& (63 : Int32))), .val (.int ((p2 &&& (63 : Int32)) &&& (7 : Int32))), .val (.int (((p2 &&& (63 : Int32)).toUInt32 >>> ((3 : Int32) &&& 31).toUInt32).toInt32)), .val (.int (0 : Int32)), .val (.long (F2 q1)), .second, .val (.int (0 : Int32))] [])) _
                      refine XS.iconst X69.here hx rfl (hb hby at_166) ?_
                      show Steps p.tables e below (T69.setTop (mkF m 167 #[.val (.long q1), .second, .val (.int p2), .val (.int (p2 &&& (63 : Int32))), .val (.int ((p2 &&& (63 : Int32)) &&& (7 : Int32))), .val (.int (((p2 &&& (63 : Int32)).toUInt32 >>> ((3 : Int32) &&& 31).toUInt32).toInt32)), .val (.int (0 : Int32)), .val (.long (F2 q1)), .second, .val (.int (0 : Int32))] [(.int (1 : Int32))])) _
                      refine XS.goto X69.here hx rfl (pc0 := 167) (pc' := 171) rfl (hb hby at_167) (by decide) (by decide) ?_
                      exact k
                    obtain ⟨fs, hr, hrun, hended, hW, hsame⟩ := X69.leave (v := some (.int (1 : Int32))) (fun h => by rw [Bd.returns] at h; cases h)
                    refine ⟨_, _, pre77 _ ?_, hrun, hended, _, _, rfl, ?_, ⟨_, rfl⟩, hW, hsame.mono (by decide) (by decide)⟩
                    · show Steps p.tables e below (T69.setTop (mkF m 171 #[.val (.long q1), .second, .val (.int p2), .val (.int (p2 &&& (63 : Int32))), .val (.int ((p2 &&& (63 : Int32)) &&& (7 : Int32))), .val (.int (((p2 &&& (63 : Int32)).toUInt32 >>> ((3 : Int32) &&& 31).toUInt32).toInt32)), .val (.int (0 : Int32)), .val (.long (F2 q1)), .second, .val (.int (0 : Int32))] [(.int (1 : Int32))])) _
                      exact retN X69 hx (t := .boolean) Bd.returns (by simp) (hb hby at_171) hr
                    · show Q0 Z q1 p2 h0 n0 _ T69.heap _
                      rw [e69]
                      exact ⟨(by rw [F0, if_pos hc31, if_pos hc36, if_pos hc41, if_pos hc46, if_pos hc51, if_pos hc56, if_pos hc61, if_pos hc66, if_pos hc72]), N69, rfl⟩
                  · have pre78 : ∀ t, Steps p.tables e below (T69.setTop (mkF m 152 #[.val (.long q1), .second, .val (.int p2), .val (.int (p2 &&& (63 : Int32))), .val (.int ((p2 &&& (63 : Int32)) &&& (7 : Int32))), .val (.int (((p2 &&& (63 : Int32)).toUInt32 >>> ((3 : Int32) &&& 31).toUInt32).toInt32)), .val (.int (0 : Int32)), .val (.long (F2 q1)), .second, .unset] [])) t → Steps p.tables e below (s₁.setTop (entryFrame m #[(.long q1), (.int p2)] maxLocals)) t := by
                      intro t k
                      refine pre71 _ ?_
                      show Steps p.tables e below (T69.setTop (mkF m 149 #[.val (.long q1), .second, .val (.int p2), .val (.int (p2 &&& (63 : Int32))), .val (.int ((p2 &&& (63 : Int32)) &&& (7 : Int32))), .val (.int (((p2 &&& (63 : Int32)).toUInt32 >>> ((3 : Int32) &&& 31).toUInt32).toInt32)), .val (.int (0 : Int32)), .val (.long (F2 q1)), .second, .unset] [(.int (lcmpW ((((F2 q1).toUInt64 >>> ((p2 &&& (63 : Int32)) &&& 0x3f).toInt64.toUInt64).toInt64) &&& (1 : Int64)) (0 : Int64)))])) _
                      refine XS.ifNo X69.here hx rfl (hb hby at_149) rfl ((if0 _ _).trans (feq hc72).1) ?_
                      exact k
                    have pre79 : ∀ t, Steps p.tables e below (T69.setTop (mkF m 163 #[.val (.long q1), .second, .val (.int p2), .val (.int (p2 &&& (63 : Int32))), .val (.int ((p2 &&& (63 : Int32)) &&& (7 : Int32))), .val (.int (((p2 &&& (63 : Int32)).toUInt32 >>> ((3 : Int32) &&& 31).toUInt32).toInt32)), .val (.int (0 : Int32)), .val (.long (F2 q1)), .second, .val (.int (1 : Int32))] [(.int (0 : Int32)), (.int (1 : Int32))])) t → Steps p.tables e below (s₁.setTop (entryFrame m #[(.long q1), (.int p2)] maxLocals)) t := by
                      intro t k
                      refine pre78 _ ?_
                      show Steps p.tables e below (T69.setTop (mkF m 152 #[.val (.long q1), .second, .val (.int p2), .val (.int (p2 &&& (63 : Int32))), .val (.int ((p2 &&& (63 : Int32)) &&& (7 : Int32))), .val (.int (((p2 &&& (63 : Int32)).toUInt32 >>> ((3 : Int32) &&& 31).toUInt32).toInt32)), .val (.int (0 : Int32)), .val (.long (F2 q1)), .second, .unset] [])) _
                      refine XS.iconst X69.here hx rfl (hb hby at_152) ?_
                      show Steps p.tables e below (T69.setTop (mkF m 153 #[.val (.long q1), .second, .val (.int p2), .val (.int (p2 &&& (63 : Int32))), .val (.int ((p2 &&& (63 : Int32)) &&& (7 : Int32))), .val (.int (((p2 &&& (63 : Int32)).toUInt32 >>> ((3 : Int32) &&& 31).toUInt32).toInt32)), .val (.int (0 : Int32)), .val (.long (F2 q1)), .second, .unset] [(.int (1 : Int32))])) _
                      refine XS.goto X69.here hx rfl (pc0 := 153) (pc' := 157) rfl (hb hby at_153) (by decide) (by decide) ?_
                      show Steps p.tables e below (T69.setTop (mkF m 157 #[.val (.long q1), .second, .val (.int p2), .val (.int (p2 &&& (63 : Int32))), .val (.int ((p2 &&& (63 : Int32)) &&& (7 : Int32))), .val (.int (((p2 &&& (63 : Int32)).toUInt32 >>> ((3 : Int32) &&& 31).toUInt32).toInt32)), .val (.int (0 : Int32)), .val (.long (F2 q1)), .second, .unset] [(.int (1 : Int32))])) _
                      refine XS.istore X69.here hx rfl (hb hby at_157) rfl (l' := #[.val (.long q1), .second, .val (.int p2), .val (.int (p2 &&& (63 : Int32))), .val (.int ((p2 &&& (63 : Int32)) &&& (7 : Int32))), .val (.int (((p2 &&& (63 : Int32)).toUInt32 >>> ((3 : Int32) &&& 31).toUInt32).toInt32)), .val (.int (0 : Int32)), .val (.long (F2 q1)), .second, .val (.int (1 : Int32))]) rfl ?_
                      show Steps p.tables e below (T69.setTop (mkF m 159 #[.val (.long q1), .second, .val (.int p2), .val (.int (p2 &&& (63 : Int32))), .val (.int ((p2 &&& (63 : Int32)) &&& (7 : Int32))), .val (.int (((p2 &&& (63 : Int32)).toUInt32 >>> ((3 : Int32) &&& 31).toUInt32).toInt32)), .val (.int (0 : Int32)), .val (.long (F2 q1)), .second, .val (.int (1 : Int32))] [])) _
                      refine XS.iload X69.here hx rfl (hb hby at_159) rfl ?_
                      show Steps p.tables e below (T69.setTop (mkF m 161 #[.val (.long q1), .second, .val (.int p2), .val (.int (p2 &&& (63 : Int32))), .val (.int ((p2 &&& (63 : Int32)) &&& (7 : Int32))), .val (.int (((p2 &&& (63 : Int32)).toUInt32 >>> ((3 : Int32) &&& 31).toUInt32).toInt32)), .val (.int (0 : Int32)), .val (.long (F2 q1)), .second, .val (.int (1 : Int32))] [(.int (1 : Int32))])) _
                      refine XS.iload X69.here hx rfl (hb hby at_161) rfl ?_
                      exact k
                    have pre81 : ∀ t, Steps p.tables e below (T69.setTop (mkF m 170 #[.val (.long q1), .second, .val (.int p2), .val (.int (p2 &&& (63 : Int32))), .val (.int ((p2 &&& (63 : Int32)) &&& (7 : Int32))), .val (.int (((p2 &&& (63 : Int32)).toUInt32 >>> ((3 : Int32) &&& 31).toUInt32).toInt32)), .val (.int (0 : Int32)), .val (.long (F2 q1)), .second, .val (.int (1 : Int32))] [])) t → Steps p.tables e below (s₁.setTop (entryFrame m #[(.long q1), (.int p2)] maxLocals)) t := by
                      intro t k
                      refine pre79 _ ?_
                      show Steps p.tables e below (T69.setTop (mkF m 163 #[.val (.long q1), .second, .val (.int p2), .val (.int (p2 &&& (63 : Int32))), .val (.int ((p2 &&& (63 : Int32)) &&& (7 : Int32))), .val (.int (((p2 &&& (63 : Int32)).toUInt32 >>> ((3 : Int32) &&& 31).toUInt32).toInt32)), .val (.int (0 : Int32)), .val (.long (F2 q1)), .second, .val (.int (1 : Int32))] [(.int (0 : Int32)), (.int (1 : Int32))])) _
                      refine XS.icmpYes X69.here hx rfl (pc0 := 163) (pc' := 170) rfl (hb hby at_163) rfl (feq (by decide : ¬ ((1 : Int32) = (0 : Int32)))).2 (by decide) (by decide) ?_
                      exact k
                    have pre82 : ∀ t, Steps p.tables e below (T69.setTop (mkF m 171 #[.val (.long q1), .second, .val (.int p2), .val (.int (p2 &&& (63 : Int32))), .val (.int ((p2 &&& (63 : Int32)) &&& (7 : Int32))), .val (.int (((p2 &&& (63 : Int32)).toUInt32 >>> ((3 : Int32) &&& 31).toUInt32).toInt32)), .val (.int (0 : Int32)), .val (.long (F2 q1)), .second, .val (.int (1 : Int32))] [(.int (0 : Int32))])) t → Steps p.tables e below (s₁.setTop (entryFrame m #[(.long q1), (.int p2)] maxLocals)) t := by
                      intro t k
                      refine pre81 _ ?_
                      show Steps p.tables e below (T69.setTop (mkF m 170 #[.val (.long q1), .second, .val (.int p2), .val (.int (p2 &&& (63 : Int32))), .val (.int ((p2 &&& (63 : Int32)) &&& (7 : Int32))), .val (.int (((p2 &&& (63 : Int32)).toUInt32 >>> ((3 : Int32) &&& 31).toUInt32).toInt32)), .val (.int (0 : Int32)), .val (.long (F2 q1)), .second, .val (.int (1 : Int32))] [])) _
                      refine XS.iconst X69.here hx rfl (hb hby at_170) ?_
                      exact k
                    obtain ⟨fs, hr, hrun, hended, hW, hsame⟩ := X69.leave (v := some (.int (0 : Int32))) (fun h => by rw [Bd.returns] at h; cases h)
                    refine ⟨_, _, pre82 _ ?_, hrun, hended, _, _, rfl, ?_, ⟨_, rfl⟩, hW, hsame.mono (by decide) (by decide)⟩
                    · show Steps p.tables e below (T69.setTop (mkF m 171 #[.val (.long q1), .second, .val (.int p2), .val (.int (p2 &&& (63 : Int32))), .val (.int ((p2 &&& (63 : Int32)) &&& (7 : Int32))), .val (.int (((p2 &&& (63 : Int32)).toUInt32 >>> ((3 : Int32) &&& 31).toUInt32).toInt32)), .val (.int (0 : Int32)), .val (.long (F2 q1)), .second, .val (.int (1 : Int32))] [(.int (0 : Int32))])) _
                      exact retN X69 hx (t := .boolean) Bd.returns (by simp) (hb hby at_171) hr
                    · show Q0 Z q1 p2 h0 n0 _ T69.heap _
                      rw [e69]
                      exact ⟨(by rw [F0, if_pos hc31, if_pos hc36, if_pos hc41, if_pos hc46, if_pos hc51, if_pos hc56, if_pos hc61, if_pos hc66, if_neg hc72]), N69, rfl⟩
                · have pre83 : ∀ t, Steps p.tables e below (T64.setTop (mkF m 128 #[.val (.long q1), .second, .val (.int p2), .val (.int (p2 &&& (63 : Int32))), .val (.int ((p2 &&& (63 : Int32)) &&& (7 : Int32))), .val (.int (((p2 &&& (63 : Int32)).toUInt32 >>> ((3 : Int32) &&& 31).toUInt32).toInt32)), .unset, .unset, .unset, .unset] [])) t → Steps p.tables e below (s₁.setTop (entryFrame m #[(.long q1), (.int p2)] maxLocals)) t := by
                    intro t k
                    refine pre65 _ ?_
                    show Steps p.tables e below (T64.setTop (mkF m 125 #[.val (.long q1), .second, .val (.int p2), .val (.int (p2 &&& (63 : Int32))), .val (.int ((p2 &&& (63 : Int32)) &&& (7 : Int32))), .val (.int (((p2 &&& (63 : Int32)).toUInt32 >>> ((3 : Int32) &&& 31).toUInt32).toInt32)), .unset, .unset, .unset, .unset] [(.int (F1 q1 (((p2 &&& (63 : Int32)) &&& (7 : Int32)) + (1 : Int32)) ((((p2 &&& (63 : Int32)).toUInt32 >>> ((3 : Int32) &&& 31).toUInt32).toInt32) + (1 : Int32))))])) _
                    refine XS.ifNo X64.here hx rfl (hb hby at_125) rfl ((if0 _ _).trans (feq hc66).1) ?_
                    exact k
                  have pre84 : ∀ t, Steps p.tables e below (T64.setTop (mkF m 136 #[.val (.long q1), .second, .val (.int p2), .val (.int (p2 &&& (63 : Int32))), .val (.int ((p2 &&& (63 : Int32)) &&& (7 : Int32))), .val (.int (((p2 &&& (63 : Int32)).toUInt32 >>> ((3 : Int32) &&& 31).toUInt32).toInt32)), .val (.int (1 : Int32)), .unset, .unset, .unset] [(.long q1)])) t → Steps p.tables e below (s₁.setTop (entryFrame m #[(.long q1), (.int p2)] maxLocals)) t := by
                    intro t k
                    refine pre83 _ ?_
                    show Steps p.tables e below (T64.setTop (mkF m 128 #[.val (.long q1), .second, .val (.int p2), .val (.int (p2 &&& (63 : Int32))), .val (.int ((p2 &&& (63 : Int32)) &&& (7 : Int32))), .val (.int (((p2 &&& (63 : Int32)).toUInt32 >>> ((3 : Int32) &&& 31).toUInt32).toInt32)), .unset, .unset, .unset, .unset] [])) _
                    refine XS.iconst X64.here hx rfl (hb hby at_128) ?_
                    show Steps p.tables e below (T64.setTop (mkF m 129 #[.val (.long q1), .second, .val (.int p2), .val (.int (p2 &&& (63 : Int32))), .val (.int ((p2 &&& (63 : Int32)) &&& (7 : Int32))), .val (.int (((p2 &&& (63 : Int32)).toUInt32 >>> ((3 : Int32) &&& 31).toUInt32).toInt32)), .unset, .unset, .unset, .unset] [(.int (1 : Int32))])) _
                    refine XS.goto X64.here hx rfl (pc0 := 129) (pc' := 133) rfl (hb hby at_129) (by decide) (by decide) ?_
                    show Steps p.tables e below (T64.setTop (mkF m 133 #[.val (.long q1), .second, .val (.int p2), .val (.int (p2 &&& (63 : Int32))), .val (.int ((p2 &&& (63 : Int32)) &&& (7 : Int32))), .val (.int (((p2 &&& (63 : Int32)).toUInt32 >>> ((3 : Int32) &&& 31).toUInt32).toInt32)), .unset, .unset, .unset, .unset] [(.int (1 : Int32))])) _
                    refine XS.istore X64.here hx rfl (hb hby at_133) rfl (l' := #[.val (.long q1), .second, .val (.int p2), .val (.int (p2 &&& (63 : Int32))), .val (.int ((p2 &&& (63 : Int32)) &&& (7 : Int32))), .val (.int (((p2 &&& (63 : Int32)).toUInt32 >>> ((3 : Int32) &&& 31).toUInt32).toInt32)), .val (.int (1 : Int32)), .unset, .unset, .unset]) rfl ?_
                    show Steps p.tables e below (T64.setTop (mkF m 135 #[.val (.long q1), .second, .val (.int p2), .val (.int (p2 &&& (63 : Int32))), .val (.int ((p2 &&& (63 : Int32)) &&& (7 : Int32))), .val (.int (((p2 &&& (63 : Int32)).toUInt32 >>> ((3 : Int32) &&& 31).toUInt32).toInt32)), .val (.int (1 : Int32)), .unset, .unset, .unset] [])) _
                    refine XS.lloadN X64.here hx rfl (hb hby at_135) rfl ?_
                    exact k
                  obtain ⟨_, _, ⟨T85, L85, k85, n85⟩, -, X85, ⟨Lc85, hQ85, l85, y85, z85⟩, st85⟩ := Jvm.LawKit.callS X64 hx (y := (⟨"com/example/tabuleiro/tabuleiro/othello/OthelloPosition", "neighbours", "(J)J"⟩ : MethodName)) hown (mvT hZ (hw _ (List.mem_of_getElem? (i := 4) rfl))) (mvT hZ (hw _ (List.mem_of_getElem? (i := 5) rfl))) (mvT hZ (hw _ (List.mem_of_getElem? (i := 6) rfl))) (mvT hZ (hw _ (List.mem_of_getElem? (i := 7) rfl))) (by decide) (backOf (W := 0) (rm2 l Z a0 hw [] q1 h0 n0 Z0 ) hZ (hw _ (List.mem_of_getElem? (i := 7) rfl)) (hw _ (List.mem_of_getElem? (i := 6) rfl)) (by decide) (by decide)) (g := (mkF m 136 #[.val (.long q1), .second, .val (.int p2), .val (.int (p2 &&& (63 : Int32))), .val (.int ((p2 &&& (63 : Int32)) &&& (7 : Int32))), .val (.int (((p2 &&& (63 : Int32)).toUInt32 >>> ((3 : Int32) &&& 31).toUInt32).toInt32)), .val (.int (1 : Int32)), .unset, .unset, .unset] [(.long q1)])) rfl (by rw [hml]; rfl) (argsL := [(.long q1)]) (rest := []) (lenOf pd__J_J rfl) rfl (by show 2 * 0 + _ ≤ _; exact Nat.le_of_eq rfl) (hb hby at_136) (fun _ _ => ⟨rfl, e64, (by decide : 0 + 0 ≤ _), (by decide : 0 + 0 ≤ _)⟩)
                  dsimp only [Pt.U, Pt.locs, Pt.cells, Pt.slots] at X85 l85 y85 z85 st85 hQ85
                  subst l85 y85 z85
                  obtain ⟨rfl, N85q, e85⟩ := hQ85
                  have N85 := Fr.app N64 N85q
                  have pre86 : ∀ t, Steps p.tables e below (T85.setTop (mkF m 139 #[.val (.long q1), .second, .val (.int p2), .val (.int (p2 &&& (63 : Int32))), .val (.int ((p2 &&& (63 : Int32)) &&& (7 : Int32))), .val (.int (((p2 &&& (63 : Int32)).toUInt32 >>> ((3 : Int32) &&& 31).toUInt32).toInt32)), .val (.int (1 : Int32)), .unset, .unset, .unset] [(.long (F2 q1))])) t → Steps p.tables e below (s₁.setTop (entryFrame m #[(.long q1), (.int p2)] maxLocals)) t := by
                    intro t k
                    refine pre84 _ ?_
                    show Steps p.tables e below (T64.setTop (mkF m 136 #[.val (.long q1), .second, .val (.int p2), .val (.int (p2 &&& (63 : Int32))), .val (.int ((p2 &&& (63 : Int32)) &&& (7 : Int32))), .val (.int (((p2 &&& (63 : Int32)).toUInt32 >>> ((3 : Int32) &&& 31).toUInt32).toInt32)), .val (.int (1 : Int32)), .unset, .unset, .unset] [(.long q1)])) _
                    refine st85 _ ?_
                    exact k
                  have pre87 : ∀ t, Steps p.tables e below (T85.setTop (mkF m 149 #[.val (.long q1), .second, .val (.int p2), .val (.int (p2 &&& (63 : Int32))), .val (.int ((p2 &&& (63 : Int32)) &&& (7 : Int32))), .val (.int (((p2 &&& (63 : Int32)).toUInt32 >>> ((3 : Int32) &&& 31).toUInt32).toInt32)), .val (.int (1 : Int32)), .val (.long (F2 q1)), .second, .unset] [(.int (lcmpW ((((F2 q1).toUInt64 >>> ((p2 &&& (63 : Int32)) &&& 0x3f).toInt64.toUInt64).toInt64) &&& (1 : Int64)) (0 : Int64)))])) t → Steps p.tables e below (s₁.setTop (entryFrame m #[(.long q1), (.int p2)] maxLocals)) t := by
                    intro t k
                    refine pre86 _ ?_
                    show Steps p.tables e below (T85.setTop (mkF m 139 #[.val (.long q1), .second, .val (.int p2), .val (.int (p2 &&& (63 : Int32))), .val (.int ((p2 &&& (63 : Int32)) &&& (7 : Int32))), .val (.int (((p2 &&& (63 : Int32)).toUInt32 >>> ((3 : Int32) &&& 31).toUInt32).toInt32)), .val (.int (1 : Int32)), .unset, .unset, .unset] [(.long (F2 q1))])) _
                    refine XS.lstore X85.here hx rfl (hb hby at_139) rfl (l' := #[.val (.long q1), .second, .val (.int p2), .val (.int (p2 &&& (63 : Int32))), .val (.int ((p2 &&& (63 : Int32)) &&& (7 : Int32))), .val (.int (((p2 &&& (63 : Int32)).toUInt32 >>> ((3 : Int32) &&& 31).toUInt32).toInt32)), .val (.int (1 : Int32)), .val (.long (F2 q1)), .second, .unset]) rfl ?_
                    show Steps p.tables e below (T85.setTop (mkF m 141 #[.val (.long q1), .second, .val (.int p2), .val (.int (p2 &&& (63 : Int32))), .val (.int ((p2 &&& (63 : Int32)) &&& (7 : Int32))), .val (.int (((p2 &&& (63 : Int32)).toUInt32 >>> ((3 : Int32) &&& 31).toUInt32).toInt32)), .val (.int (1 : Int32)), .val (.long (F2 q1)), .second, .unset] [])) _
                    refine XS.lload X85.here hx rfl (hb hby at_141) rfl ?_
                    show Steps p.tables e below (T85.setTop (mkF m 143 #[.val (.long q1), .second, .val (.int p2), .val (.int (p2 &&& (63 : Int32))), .val (.int ((p2 &&& (63 : Int32)) &&& (7 : Int32))), .val (.int (((p2 &&& (63 : Int32)).toUInt32 >>> ((3 : Int32) &&& 31).toUInt32).toInt32)), .val (.int (1 : Int32)), .val (.long (F2 q1)), .second, .unset] [(.long (F2 q1))])) _
                    refine XS.iloadN X85.here hx rfl (hb hby at_143) rfl ?_
                    show Steps p.tables e below (T85.setTop (mkF m 144 #[.val (.long q1), .second, .val (.int p2), .val (.int (p2 &&& (63 : Int32))), .val (.int ((p2 &&& (63 : Int32)) &&& (7 : Int32))), .val (.int (((p2 &&& (63 : Int32)).toUInt32 >>> ((3 : Int32) &&& 31).toUInt32).toInt32)), .val (.int (1 : Int32)), .val (.long (F2 q1)), .second, .unset] [(.int (p2 &&& (63 : Int32))), (.long (F2 q1))])) _
                    refine XS.lushr X85.here hx rfl (hb hby at_144) rfl ?_
                    show Steps p.tables e below (T85.setTop (mkF m 145 #[.val (.long q1), .second, .val (.int p2), .val (.int (p2 &&& (63 : Int32))), .val (.int ((p2 &&& (63 : Int32)) &&& (7 : Int32))), .val (.int (((p2 &&& (63 : Int32)).toUInt32 >>> ((3 : Int32) &&& 31).toUInt32).toInt32)), .val (.int (1 : Int32)), .val (.long (F2 q1)), .second, .unset] [(.long (((F2 q1).toUInt64 >>> ((p2 &&& (63 : Int32)) &&& 0x3f).toInt64.toUInt64).toInt64))])) _
                    refine XS.lconst X85.here hx rfl (hb hby at_145) ?_
                    show Steps p.tables e below (T85.setTop (mkF m 146 #[.val (.long q1), .second, .val (.int p2), .val (.int (p2 &&& (63 : Int32))), .val (.int ((p2 &&& (63 : Int32)) &&& (7 : Int32))), .val (.int (((p2 &&& (63 : Int32)).toUInt32 >>> ((3 : Int32) &&& 31).toUInt32).toInt32)), .val (.int (1 : Int32)), .val (.long (F2 q1)), .second, .unset] [(.long (1 : Int64)), (.long (((F2 q1).toUInt64 >>> ((p2 &&& (63 : Int32)) &&& 0x3f).toInt64.toUInt64).toInt64))])) _
                    refine XS.land X85.here hx rfl (hb hby at_146) rfl ?_
                    show Steps p.tables e below (T85.setTop (mkF m 147 #[.val (.long q1), .second, .val (.int p2), .val (.int (p2 &&& (63 : Int32))), .val (.int ((p2 &&& (63 : Int32)) &&& (7 : Int32))), .val (.int (((p2 &&& (63 : Int32)).toUInt32 >>> ((3 : Int32) &&& 31).toUInt32).toInt32)), .val (.int (1 : Int32)), .val (.long (F2 q1)), .second, .unset] [(.long ((((F2 q1).toUInt64 >>> ((p2 &&& (63 : Int32)) &&& 0x3f).toInt64.toUInt64).toInt64) &&& (1 : Int64)))])) _
                    refine XS.lconst X85.here hx rfl (hb hby at_147) ?_
                    show Steps p.tables e below (T85.setTop (mkF m 148 #[.val (.long q1), .second, .val (.int p2), .val (.int (p2 &&& (63 : Int32))), .val (.int ((p2 &&& (63 : Int32)) &&& (7 : Int32))), .val (.int (((p2 &&& (63 : Int32)).toUInt32 >>> ((3 : Int32) &&& 31).toUInt32).toInt32)), .val (.int (1 : Int32)), .val (.long (F2 q1)), .second, .unset] [(.long (0 : Int64)), (.long ((((F2 q1).toUInt64 >>> ((p2 &&& (63 : Int32)) &&& 0x3f).toInt64.toUInt64).toInt64) &&& (1 : Int64)))])) _
                    refine XS.lcmp X85.here hx rfl (hb hby at_148) rfl ?_
                    exact k
                  by_cases hc88 : (lcmpW ((((F2 q1).toUInt64 >>> ((p2 &&& (63 : Int32)) &&& 0x3f).toInt64.toUInt64).toInt64) &&& (1 : Int64)) (0 : Int64)) = (0 : Int32)
                  · have pre89 : ∀ t, Steps p.tables e below (T85.setTop (mkF m 156 #[.val (.long q1), .second, .val (.int p2), .val (.int (p2 &&& (63 : Int32))), .val (.int ((p2 &&& (63 : Int32)) &&& (7 : Int32))), .val (.int (((p2 &&& (63 : Int32)).toUInt32 >>> ((3 : Int32) &&& 31).toUInt32).toInt32)), .val (.int (1 : Int32)), .val (.long (F2 q1)), .second, .unset] [])) t → Steps p.tables e below (s₁.setTop (entryFrame m #[(.long q1), (.int p2)] maxLocals)) t := by
                      intro t k
                      refine pre87 _ ?_
                      show Steps p.tables e below (T85.setTop (mkF m 149 #[.val (.long q1), .second, .val (.int p2), .val (.int (p2 &&& (63 : Int32))), .val (.int ((p2 &&& (63 : Int32)) &&& (7 : Int32))), .val (.int (((p2 &&& (63 : Int32)).toUInt32 >>> ((3 : Int32) &&& 31).toUInt32).toInt32)), .val (.int (1 : Int32)), .val (.long (F2 q1)), .second, .unset] [(.int (lcmpW ((((F2 q1).toUInt64 >>> ((p2 &&& (63 : Int32)) &&& 0x3f).toInt64.toUInt64).toInt64) &&& (1 : Int64)) (0 : Int64)))])) _
                      refine XS.ifYes X85.here hx rfl (pc0 := 149) (pc' := 156) rfl (hb hby at_149) rfl ((if0 _ _).trans (teq hc88).1) (by decide) (by decide) ?_
                      exact k
                    have pre90 : ∀ t, Steps p.tables e below (T85.setTop (mkF m 163 #[.val (.long q1), .second, .val (.int p2), .val (.int (p2 &&& (63 : Int32))), .val (.int ((p2 &&& (63 : Int32)) &&& (7 : Int32))), .val (.int (((p2 &&& (63 : Int32)).toUInt32 >>> ((3 : Int32) &&& 31).toUInt32).toInt32)), .val (.int (1 : Int32)), .val (.long (F2 q1)), .second, .val (.int (0 : Int32))] [(.int (1 : Int32)), (.int (0 : Int32))])) t → Steps p.tables e below (s₁.setTop (entryFrame m #[(.long q1), (.int p2)] maxLocals)) t := by
                      intro t k
                      refine pre89 _ ?_
                      show Steps p.tables e below (T85.setTop (mkF m 156 #[.val (.long q1), .second, .val (.int p2), .val (.int (p2 &&& (63 : Int32))), .val (.int ((p2 &&& (63 : Int32)) &&& (7 : Int32))), .val (.int (((p2 &&& (63 : Int32)).toUInt32 >>> ((3 : Int32) &&& 31).toUInt32).toInt32)), .val (.int (1 : Int32)), .val (.long (F2 q1)), .second, .unset] [])) _
                      refine XS.iconst X85.here hx rfl (hb hby at_156) ?_
                      show Steps p.tables e below (T85.setTop (mkF m 157 #[.val (.long q1), .second, .val (.int p2), .val (.int (p2 &&& (63 : Int32))), .val (.int ((p2 &&& (63 : Int32)) &&& (7 : Int32))), .val (.int (((p2 &&& (63 : Int32)).toUInt32 >>> ((3 : Int32) &&& 31).toUInt32).toInt32)), .val (.int (1 : Int32)), .val (.long (F2 q1)), .second, .unset] [(.int (0 : Int32))])) _
                      refine XS.istore X85.here hx rfl (hb hby at_157) rfl (l' := #[.val (.long q1), .second, .val (.int p2), .val (.int (p2 &&& (63 : Int32))), .val (.int ((p2 &&& (63 : Int32)) &&& (7 : Int32))), .val (.int (((p2 &&& (63 : Int32)).toUInt32 >>> ((3 : Int32) &&& 31).toUInt32).toInt32)), .val (.int (1 : Int32)), .val (.long (F2 q1)), .second, .val (.int (0 : Int32))]) rfl ?_
                      show Steps p.tables e below (T85.setTop (mkF m 159 #[.val (.long q1), .second, .val (.int p2), .val (.int (p2 &&& (63 : Int32))), .val (.int ((p2 &&& (63 : Int32)) &&& (7 : Int32))), .val (.int (((p2 &&& (63 : Int32)).toUInt32 >>> ((3 : Int32) &&& 31).toUInt32).toInt32)), .val (.int (1 : Int32)), .val (.long (F2 q1)), .second, .val (.int (0 : Int32))] [])) _
                      refine XS.iload X85.here hx rfl (hb hby at_159) rfl ?_
                      show Steps p.tables e below (T85.setTop (mkF m 161 #[.val (.long q1), .second, .val (.int p2), .val (.int (p2 &&& (63 : Int32))), .val (.int ((p2 &&& (63 : Int32)) &&& (7 : Int32))), .val (.int (((p2 &&& (63 : Int32)).toUInt32 >>> ((3 : Int32) &&& 31).toUInt32).toInt32)), .val (.int (1 : Int32)), .val (.long (F2 q1)), .second, .val (.int (0 : Int32))] [(.int (0 : Int32))])) _
                      refine XS.iload X85.here hx rfl (hb hby at_161) rfl ?_
                      exact k
                    have pre92 : ∀ t, Steps p.tables e below (T85.setTop (mkF m 170 #[.val (.long q1), .second, .val (.int p2), .val (.int (p2 &&& (63 : Int32))), .val (.int ((p2 &&& (63 : Int32)) &&& (7 : Int32))), .val (.int (((p2 &&& (63 : Int32)).toUInt32 >>> ((3 : Int32) &&& 31).toUInt32).toInt32)), .val (.int (1 : Int32)), .val (.long (F2 q1)), .second, .val (.int (0 : Int32))] [])) t → Steps p.tables e below (s₁.setTop (entryFrame m #[(.long q1), (.int p2)] maxLocals)) t := by
                      intro t k
                      refine pre90 _ ?_
                      show Steps p.tables e below (T85.setTop (mkF m 163 #[.val (.long q1), .second, .val (.int p2), .val (.int (p2 &&& (63 : Int32))), .val (.int ((p2 &&& (63 : Int32)) &&& (7 : Int32))), .val (.int (((p2 &&& (63 : Int32)).toUInt32 >>> ((3 : Int32) &&& 31).toUInt32).toInt32)), .val (.int (1 : Int32)), .val (.long (F2 q1)), .second, .val (.int (0 : Int32))] [(.int (1 : Int32)), (.int (0 : Int32))])) _
                      refine XS.icmpYes X85.here hx rfl (pc0 := 163) (pc' := 170) rfl (hb hby at_163) rfl (feq (by decide : ¬ ((0 : Int32) = (1 : Int32)))).2 (by decide) (by decide) ?_
                      exact k
                    have pre93 : ∀ t, Steps p.tables e below (T85.setTop (mkF m 171 #[.val (.long q1), .second, .val (.int p2), .val (.int (p2 &&& (63 : Int32))), .val (.int ((p2 &&& (63 : Int32)) &&& (7 : Int32))), .val (.int (((p2 &&& (63 : Int32)).toUInt32 >>> ((3 : Int32) &&& 31).toUInt32).toInt32)), .val (.int (1 : Int32)), .val (.long (F2 q1)), .second, .val (.int (0 : Int32))] [(.int (0 : Int32))])) t → Steps p.tables e below (s₁.setTop (entryFrame m #[(.long q1), (.int p2)] maxLocals)) t := by
                      intro t k
                      refine pre92 _ ?_
                      show Steps p.tables e below (T85.setTop (mkF m 170 #[.val (.long q1), .second, .val (.int p2), .val (.int (p2 &&& (63 : Int32))), .val (.int ((p2 &&& (63 : Int32)) &&& (7 : Int32))), .val (.int (((p2 &&& (63 : Int32)).toUInt32 >>> ((3 : Int32) &&& 31).toUInt32).toInt32)), .val (.int (1 : Int32)), .val (.long (F2 q1)), .second, .val (.int (0 : Int32))] [])) _
                      refine XS.iconst X85.here hx rfl (hb hby at_170) ?_
                      exact k
                    obtain ⟨fs, hr, hrun, hended, hW, hsame⟩ := X85.leave (v := some (.int (0 : Int32))) (fun h => by rw [Bd.returns] at h; cases h)
                    refine ⟨_, _, pre93 _ ?_, hrun, hended, _, _, rfl, ?_, ⟨_, rfl⟩, hW, hsame.mono (by decide) (by decide)⟩
                    · show Steps p.tables e below (T85.setTop (mkF m 171 #[.val (.long q1), .second, .val (.int p2), .val (.int (p2 &&& (63 : Int32))), .val (.int ((p2 &&& (63 : Int32)) &&& (7 : Int32))), .val (.int (((p2 &&& (63 : Int32)).toUInt32 >>> ((3 : Int32) &&& 31).toUInt32).toInt32)), .val (.int (1 : Int32)), .val (.long (F2 q1)), .second, .val (.int (0 : Int32))] [(.int (0 : Int32))])) _
                      exact retN X85 hx (t := .boolean) Bd.returns (by simp) (hb hby at_171) hr
                    · show Q0 Z q1 p2 h0 n0 _ T85.heap _
                      rw [e85]
                      exact ⟨(by rw [F0, if_pos hc31, if_pos hc36, if_pos hc41, if_pos hc46, if_pos hc51, if_pos hc56, if_pos hc61, if_neg hc66, if_pos hc88]), N85, rfl⟩
                  · have pre94 : ∀ t, Steps p.tables e below (T85.setTop (mkF m 152 #[.val (.long q1), .second, .val (.int p2), .val (.int (p2 &&& (63 : Int32))), .val (.int ((p2 &&& (63 : Int32)) &&& (7 : Int32))), .val (.int (((p2 &&& (63 : Int32)).toUInt32 >>> ((3 : Int32) &&& 31).toUInt32).toInt32)), .val (.int (1 : Int32)), .val (.long (F2 q1)), .second, .unset] [])) t → Steps p.tables e below (s₁.setTop (entryFrame m #[(.long q1), (.int p2)] maxLocals)) t := by
                      intro t k
                      refine pre87 _ ?_
                      show Steps p.tables e below (T85.setTop (mkF m 149 #[.val (.long q1), .second, .val (.int p2), .val (.int (p2 &&& (63 : Int32))), .val (.int ((p2 &&& (63 : Int32)) &&& (7 : Int32))), .val (.int (((p2 &&& (63 : Int32)).toUInt32 >>> ((3 : Int32) &&& 31).toUInt32).toInt32)), .val (.int (1 : Int32)), .val (.long (F2 q1)), .second, .unset] [(.int (lcmpW ((((F2 q1).toUInt64 >>> ((p2 &&& (63 : Int32)) &&& 0x3f).toInt64.toUInt64).toInt64) &&& (1 : Int64)) (0 : Int64)))])) _
                      refine XS.ifNo X85.here hx rfl (hb hby at_149) rfl ((if0 _ _).trans (feq hc88).1) ?_
                      exact k
                    have pre95 : ∀ t, Steps p.tables e below (T85.setTop (mkF m 163 #[.val (.long q1), .second, .val (.int p2), .val (.int (p2 &&& (63 : Int32))), .val (.int ((p2 &&& (63 : Int32)) &&& (7 : Int32))), .val (.int (((p2 &&& (63 : Int32)).toUInt32 >>> ((3 : Int32) &&& 31).toUInt32).toInt32)), .val (.int (1 : Int32)), .val (.long (F2 q1)), .second, .val (.int (1 : Int32))] [(.int (1 : Int32)), (.int (1 : Int32))])) t → Steps p.tables e below (s₁.setTop (entryFrame m #[(.long q1), (.int p2)] maxLocals)) t := by
                      intro t k
                      refine pre94 _ ?_
                      show Steps p.tables e below (T85.setTop (mkF m 152 #[.val (.long q1), .second, .val (.int p2), .val (.int (p2 &&& (63 : Int32))), .val (.int ((p2 &&& (63 : Int32)) &&& (7 : Int32))), .val (.int (((p2 &&& (63 : Int32)).toUInt32 >>> ((3 : Int32) &&& 31).toUInt32).toInt32)), .val (.int (1 : Int32)), .val (.long (F2 q1)), .second, .unset] [])) _
                      refine XS.iconst X85.here hx rfl (hb hby at_152) ?_
                      show Steps p.tables e below (T85.setTop (mkF m 153 #[.val (.long q1), .second, .val (.int p2), .val (.int (p2 &&& (63 : Int32))), .val (.int ((p2 &&& (63 : Int32)) &&& (7 : Int32))), .val (.int (((p2 &&& (63 : Int32)).toUInt32 >>> ((3 : Int32) &&& 31).toUInt32).toInt32)), .val (.int (1 : Int32)), .val (.long (F2 q1)), .second, .unset] [(.int (1 : Int32))])) _
                      refine XS.goto X85.here hx rfl (pc0 := 153) (pc' := 157) rfl (hb hby at_153) (by decide) (by decide) ?_
                      show Steps p.tables e below (T85.setTop (mkF m 157 #[.val (.long q1), .second, .val (.int p2), .val (.int (p2 &&& (63 : Int32))), .val (.int ((p2 &&& (63 : Int32)) &&& (7 : Int32))), .val (.int (((p2 &&& (63 : Int32)).toUInt32 >>> ((3 : Int32) &&& 31).toUInt32).toInt32)), .val (.int (1 : Int32)), .val (.long (F2 q1)), .second, .unset] [(.int (1 : Int32))])) _
                      refine XS.istore X85.here hx rfl (hb hby at_157) rfl (l' := #[.val (.long q1), .second, .val (.int p2), .val (.int (p2 &&& (63 : Int32))), .val (.int ((p2 &&& (63 : Int32)) &&& (7 : Int32))), .val (.int (((p2 &&& (63 : Int32)).toUInt32 >>> ((3 : Int32) &&& 31).toUInt32).toInt32)), .val (.int (1 : Int32)), .val (.long (F2 q1)), .second, .val (.int (1 : Int32))]) rfl ?_
                      show Steps p.tables e below (T85.setTop (mkF m 159 #[.val (.long q1), .second, .val (.int p2), .val (.int (p2 &&& (63 : Int32))), .val (.int ((p2 &&& (63 : Int32)) &&& (7 : Int32))), .val (.int (((p2 &&& (63 : Int32)).toUInt32 >>> ((3 : Int32) &&& 31).toUInt32).toInt32)), .val (.int (1 : Int32)), .val (.long (F2 q1)), .second, .val (.int (1 : Int32))] [])) _
                      refine XS.iload X85.here hx rfl (hb hby at_159) rfl ?_
                      show Steps p.tables e below (T85.setTop (mkF m 161 #[.val (.long q1), .second, .val (.int p2), .val (.int (p2 &&& (63 : Int32))), .val (.int ((p2 &&& (63 : Int32)) &&& (7 : Int32))), .val (.int (((p2 &&& (63 : Int32)).toUInt32 >>> ((3 : Int32) &&& 31).toUInt32).toInt32)), .val (.int (1 : Int32)), .val (.long (F2 q1)), .second, .val (.int (1 : Int32))] [(.int (1 : Int32))])) _
                      refine XS.iload X85.here hx rfl (hb hby at_161) rfl ?_
                      exact k
                    have pre97 : ∀ t, Steps p.tables e below (T85.setTop (mkF m 166 #[.val (.long q1), .second, .val (.int p2), .val (.int (p2 &&& (63 : Int32))), .val (.int ((p2 &&& (63 : Int32)) &&& (7 : Int32))), .val (.int (((p2 &&& (63 : Int32)).toUInt32 >>> ((3 : Int32) &&& 31).toUInt32).toInt32)), .val (.int (1 : Int32)), .val (.long (F2 q1)), .second, .val (.int (1 : Int32))] [])) t → Steps p.tables e below (s₁.setTop (entryFrame m #[(.long q1), (.int p2)] maxLocals)) t := by
                      intro t k
                      refine pre95 _ ?_
                      show Steps p.tables e below (T85.setTop (mkF m 163 #[.val (.long q1), .second, .val (.int p2), .val (.int (p2 &&& (63 : Int32))), .val (.int ((p2 &&& (63 : Int32)) &&& (7 : Int32))), .val (.int (((p2 &&& (63 : Int32)).toUInt32 >>> ((3 : Int32) &&& 31).toUInt32).toInt32)), .val (.int (1 : Int32)), .val (.long (F2 q1)), .second, .val (.int (1 : Int32))] [(.int (1 : Int32)), (.int (1 : Int32))])) _
                      refine XS.icmpNo X85.here hx rfl (hb hby at_163) rfl (teq (by decide : (1 : Int32) = (1 : Int32))).2 ?_
                      exact k
                    have pre98 : ∀ t, Steps p.tables e below (T85.setTop (mkF m 171 #[.val (.long q1), .second, .val (.int p2), .val (.int (p2 &&& (63 : Int32))), .val (.int ((p2 &&& (63 : Int32)) &&& (7 : Int32))), .val (.int (((p2 &&& (63 : Int32)).toUInt32 >>> ((3 : Int32) &&& 31).toUInt32).toInt32)), .val (.int (1 : Int32)), .val (.long (F2 q1)), .second, .val (.int (1 : Int32))] [(.int (1 : Int32))])) t → Steps p.tables e below (s₁.setTop (entryFrame m #[(.long q1), (.int p2)] maxLocals)) t := by
                      intro t k
                      refine pre97 _ ?_
                      show Steps p.tables e below (T85.setTop (mkF m 166 #[.val (.long q1), .second, .val (.int p2), .val (.int (p2 &&& (63 : Int32))), .val (.int ((p2 &&& (63 : Int32)) &&& (7 : Int32))), .val (.int (((p2 &&& (63 : Int32)).toUInt32 >>> ((3 : Int32) &&& 31).toUInt32).toInt32)), .val (.int (1 : Int32)), .val (.long (F2 q1)), .second, .val (.int (1 : Int32))] [])) _
                      refine XS.iconst X85.here hx rfl (hb hby at_166) ?_
                      show Steps p.tables e below (T85.setTop (mkF m 167 #[.val (.long q1), .second, .val (.int p2), .val (.int (p2 &&& (63 : Int32))), .val (.int ((p2 &&& (63 : Int32)) &&& (7 : Int32))), .val (.int (((p2 &&& (63 : Int32)).toUInt32 >>> ((3 : Int32) &&& 31).toUInt32).toInt32)), .val (.int (1 : Int32)), .val (.long (F2 q1)), .second, .val (.int (1 : Int32))] [(.int (1 : Int32))])) _
                      refine XS.goto X85.here hx rfl (pc0 := 167) (pc' := 171) rfl (hb hby at_167) (by decide) (by decide) ?_
                      exact k
                    obtain ⟨fs, hr, hrun, hended, hW, hsame⟩ := X85.leave (v := some (.int (1 : Int32))) (fun h => by rw [Bd.returns] at h; cases h)
                    refine ⟨_, _, pre98 _ ?_, hrun, hended, _, _, rfl, ?_, ⟨_, rfl⟩, hW, hsame.mono (by decide) (by decide)⟩
                    · show Steps p.tables e below (T85.setTop (mkF m 171 #[.val (.long q1), .second, .val (.int p2), .val (.int (p2 &&& (63 : Int32))), .val (.int ((p2 &&& (63 : Int32)) &&& (7 : Int32))), .val (.int (((p2 &&& (63 : Int32)).toUInt32 >>> ((3 : Int32) &&& 31).toUInt32).toInt32)), .val (.int (1 : Int32)), .val (.long (F2 q1)), .second, .val (.int (1 : Int32))] [(.int (1 : Int32))])) _
                      exact retN X85 hx (t := .boolean) Bd.returns (by simp) (hb hby at_171) hr
                    · show Q0 Z q1 p2 h0 n0 _ T85.heap _
                      rw [e85]
                      exact ⟨(by rw [F0, if_pos hc31, if_pos hc36, if_pos hc41, if_pos hc46, if_pos hc51, if_pos hc56, if_pos hc61, if_neg hc66, if_neg hc88]), N85, rfl⟩
              · have pre99 : ∀ t, Steps p.tables e below (T59.setTop (mkF m 128 #[.val (.long q1), .second, .val (.int p2), .val (.int (p2 &&& (63 : Int32))), .val (.int ((p2 &&& (63 : Int32)) &&& (7 : Int32))), .val (.int (((p2 &&& (63 : Int32)).toUInt32 >>> ((3 : Int32) &&& 31).toUInt32).toInt32)), .unset, .unset, .unset, .unset] [])) t → Steps p.tables e below (s₁.setTop (entryFrame m #[(.long q1), (.int p2)] maxLocals)) t := by
                  intro t k
                  refine pre60 _ ?_
                  show Steps p.tables e below (T59.setTop (mkF m 110 #[.val (.long q1), .second, .val (.int p2), .val (.int (p2 &&& (63 : Int32))), .val (.int ((p2 &&& (63 : Int32)) &&& (7 : Int32))), .val (.int (((p2 &&& (63 : Int32)).toUInt32 >>> ((3 : Int32) &&& 31).toUInt32).toInt32)), .unset, .unset, .unset, .unset] [(.int (F1 q1 ((p2 &&& (63 : Int32)) &&& (7 : Int32)) ((((p2 &&& (63 : Int32)).toUInt32 >>> ((3 : Int32) &&& 31).toUInt32).toInt32) + (1 : Int32))))])) _
                  refine XS.ifYes X59.here hx rfl (pc0 := 110) (pc' := 128) rfl (hb hby at_110) rfl ((if0 _ _).trans (feq hc61).2) (by decide) (by decide) ?_
                  exact k
                have pre100 : ∀ t, Steps p.tables e below (T59.setTop (mkF m 136 #[.val (.long q1), .second, .val (.int p2), .val (.int (p2 &&& (63 : Int32))), .val (.int ((p2 &&& (63 : Int32)) &&& (7 : Int32))), .val (.int (((p2 &&& (63 : Int32)).toUInt32 >>> ((3 : Int32) &&& 31).toUInt32).toInt32)), .val (.int (1 : Int32)), .unset, .unset, .unset] [(.long q1)])) t → Steps p.tables e below (s₁.setTop (entryFrame m #[(.long q1), (.int p2)] maxLocals)) t := by
                  intro t k
                  refine pre99 _ ?_
                  show Steps p.tables e below (T59.setTop (mkF m 128 #[.val (.long q1), .second, .val (.int p2), .val (.int (p2 &&& (63 : Int32))), .val (.int ((p2 &&& (63 : Int32)) &&& (7 : Int32))), .val (.int (((p2 &&& (63 : Int32)).toUInt32 >>> ((3 : Int32) &&& 31).toUInt32).toInt32)), .unset, .unset, .unset, .unset] [])) _
                  refine XS.iconst X59.here hx rfl (hb hby at_128) ?_
                  show Steps p.tables e below (T59.setTop (mkF m 129 #[.val (.long q1), .second, .val (.int p2), .val (.int (p2 &&& (63 : Int32))), .val (.int ((p2 &&& (63 : Int32)) &&& (7 : Int32))), .val (.int (((p2 &&& (63 : Int32)).toUInt32 >>> ((3 : Int32) &&& 31).toUInt32).toInt32)), .unset, .unset, .unset, .unset] [(.int (1 : Int32))])) _
                  refine XS.goto X59.here hx rfl (pc0 := 129) (pc' := 133) rfl (hb hby at_129) (by decide) (by decide) ?_
                  show Steps p.tables e below (T59.setTop (mkF m 133 #[.val (.long q1), .second, .val (.int p2), .val (.int (p2 &&& (63 : Int32))), .val (.int ((p2 &&& (63 : Int32)) &&& (7 : Int32))), .val (.int (((p2 &&& (63 : Int32)).toUInt32 >>> ((3 : Int32) &&& 31).toUInt32).toInt32)), .unset, .unset, .unset, .unset] [(.int (1 : Int32))])) _
                  refine XS.istore X59.here hx rfl (hb hby at_133) rfl (l' := #[.val (.long q1), .second, .val (.int p2), .val (.int (p2 &&& (63 : Int32))), .val (.int ((p2 &&& (63 : Int32)) &&& (7 : Int32))), .val (.int (((p2 &&& (63 : Int32)).toUInt32 >>> ((3 : Int32) &&& 31).toUInt32).toInt32)), .val (.int (1 : Int32)), .unset, .unset, .unset]) rfl ?_
                  show Steps p.tables e below (T59.setTop (mkF m 135 #[.val (.long q1), .second, .val (.int p2), .val (.int (p2 &&& (63 : Int32))), .val (.int ((p2 &&& (63 : Int32)) &&& (7 : Int32))), .val (.int (((p2 &&& (63 : Int32)).toUInt32 >>> ((3 : Int32) &&& 31).toUInt32).toInt32)), .val (.int (1 : Int32)), .unset, .unset, .unset] [])) _
                  refine XS.lloadN X59.here hx rfl (hb hby at_135) rfl ?_
                  exact k
                obtain ⟨_, _, ⟨T101, L101, k101, n101⟩, -, X101, ⟨Lc101, hQ101, l101, y101, z101⟩, st101⟩ := Jvm.LawKit.callS X59 hx (y := (⟨"com/example/tabuleiro/tabuleiro/othello/OthelloPosition", "neighbours", "(J)J"⟩ : MethodName)) hown (mvT hZ (hw _ (List.mem_of_getElem? (i := 4) rfl))) (mvT hZ (hw _ (List.mem_of_getElem? (i := 5) rfl))) (mvT hZ (hw _ (List.mem_of_getElem? (i := 6) rfl))) (mvT hZ (hw _ (List.mem_of_getElem? (i := 7) rfl))) (by decide) (backOf (W := 0) (rm2 l Z a0 hw [] q1 h0 n0 Z0 ) hZ (hw _ (List.mem_of_getElem? (i := 7) rfl)) (hw _ (List.mem_of_getElem? (i := 6) rfl)) (by decide) (by decide)) (g := (mkF m 136 #[.val (.long q1), .second, .val (.int p2), .val (.int (p2 &&& (63 : Int32))), .val (.int ((p2 &&& (63 : Int32)) &&& (7 : Int32))), .val (.int (((p2 &&& (63 : Int32)).toUInt32 >>> ((3 : Int32) &&& 31).toUInt32).toInt32)), .val (.int (1 : Int32)), .unset, .unset, .unset] [(.long q1)])) rfl (by rw [hml]; rfl) (argsL := [(.long q1)]) (rest := []) (lenOf pd__J_J rfl) rfl (by show 2 * 0 + _ ≤ _; exact Nat.le_of_eq rfl) (hb hby at_136) (fun _ _ => ⟨rfl, e59, (by decide : 0 + 0 ≤ _), (by decide : 0 + 0 ≤ _)⟩)
                dsimp only [Pt.U, Pt.locs, Pt.cells, Pt.slots] at X101 l101 y101 z101 st101 hQ101
                subst l101 y101 z101
                obtain ⟨rfl, N101q, e101⟩ := hQ101
                have N101 := Fr.app N59 N101q
                have pre102 : ∀ t, Steps p.tables e below (T101.setTop (mkF m 139 #[.val (.long q1), .second, .val (.int p2), .val (.int (p2 &&& (63 : Int32))), .val (.int ((p2 &&& (63 : Int32)) &&& (7 : Int32))), .val (.int (((p2 &&& (63 : Int32)).toUInt32 >>> ((3 : Int32) &&& 31).toUInt32).toInt32)), .val (.int (1 : Int32)), .unset, .unset, .unset] [(.long (F2 q1))])) t → Steps p.tables e below (s₁.setTop (entryFrame m #[(.long q1), (.int p2)] maxLocals)) t := by
                  intro t k
                  refine pre100 _ ?_
                  show Steps p.tables e below (T59.setTop (mkF m 136 #[.val (.long q1), .second, .val (.int p2), .val (.int (p2 &&& (63 : Int32))), .val (.int ((p2 &&& (63 : Int32)) &&& (7 : Int32))), .val (.int (((p2 &&& (63 : Int32)).toUInt32 >>> ((3 : Int32) &&& 31).toUInt32).toInt32)), .val (.int (1 : Int32)), .unset, .unset, .unset] [(.long q1)])) _
                  refine st101 _ ?_
                  exact k
                have pre103 : ∀ t, Steps p.tables e below (T101.setTop (mkF m 149 #[.val (.long q1), .second, .val (.int p2), .val (.int (p2 &&& (63 : Int32))), .val (.int ((p2 &&& (63 : Int32)) &&& (7 : Int32))), .val (.int (((p2 &&& (63 : Int32)).toUInt32 >>> ((3 : Int32) &&& 31).toUInt32).toInt32)), .val (.int (1 : Int32)), .val (.long (F2 q1)), .second, .unset] [(.int (lcmpW ((((F2 q1).toUInt64 >>> ((p2 &&& (63 : Int32)) &&& 0x3f).toInt64.toUInt64).toInt64) &&& (1 : Int64)) (0 : Int64)))])) t → Steps p.tables e below (s₁.setTop (entryFrame m #[(.long q1), (.int p2)] maxLocals)) t := by
                  intro t k
                  refine pre102 _ ?_
                  show Steps p.tables e below (T101.setTop (mkF m 139 #[.val (.long q1), .second, .val (.int p2), .val (.int (p2 &&& (63 : Int32))), .val (.int ((p2 &&& (63 : Int32)) &&& (7 : Int32))), .val (.int (((p2 &&& (63 : Int32)).toUInt32 >>> ((3 : Int32) &&& 31).toUInt32).toInt32)), .val (.int (1 : Int32)), .unset, .unset, .unset] [(.long (F2 q1))])) _
                  refine XS.lstore X101.here hx rfl (hb hby at_139) rfl (l' := #[.val (.long q1), .second, .val (.int p2), .val (.int (p2 &&& (63 : Int32))), .val (.int ((p2 &&& (63 : Int32)) &&& (7 : Int32))), .val (.int (((p2 &&& (63 : Int32)).toUInt32 >>> ((3 : Int32) &&& 31).toUInt32).toInt32)), .val (.int (1 : Int32)), .val (.long (F2 q1)), .second, .unset]) rfl ?_
                  show Steps p.tables e below (T101.setTop (mkF m 141 #[.val (.long q1), .second, .val (.int p2), .val (.int (p2 &&& (63 : Int32))), .val (.int ((p2 &&& (63 : Int32)) &&& (7 : Int32))), .val (.int (((p2 &&& (63 : Int32)).toUInt32 >>> ((3 : Int32) &&& 31).toUInt32).toInt32)), .val (.int (1 : Int32)), .val (.long (F2 q1)), .second, .unset] [])) _
                  refine XS.lload X101.here hx rfl (hb hby at_141) rfl ?_
                  show Steps p.tables e below (T101.setTop (mkF m 143 #[.val (.long q1), .second, .val (.int p2), .val (.int (p2 &&& (63 : Int32))), .val (.int ((p2 &&& (63 : Int32)) &&& (7 : Int32))), .val (.int (((p2 &&& (63 : Int32)).toUInt32 >>> ((3 : Int32) &&& 31).toUInt32).toInt32)), .val (.int (1 : Int32)), .val (.long (F2 q1)), .second, .unset] [(.long (F2 q1))])) _
                  refine XS.iloadN X101.here hx rfl (hb hby at_143) rfl ?_
                  show Steps p.tables e below (T101.setTop (mkF m 144 #[.val (.long q1), .second, .val (.int p2), .val (.int (p2 &&& (63 : Int32))), .val (.int ((p2 &&& (63 : Int32)) &&& (7 : Int32))), .val (.int (((p2 &&& (63 : Int32)).toUInt32 >>> ((3 : Int32) &&& 31).toUInt32).toInt32)), .val (.int (1 : Int32)), .val (.long (F2 q1)), .second, .unset] [(.int (p2 &&& (63 : Int32))), (.long (F2 q1))])) _
                  refine XS.lushr X101.here hx rfl (hb hby at_144) rfl ?_
                  show Steps p.tables e below (T101.setTop (mkF m 145 #[.val (.long q1), .second, .val (.int p2), .val (.int (p2 &&& (63 : Int32))), .val (.int ((p2 &&& (63 : Int32)) &&& (7 : Int32))), .val (.int (((p2 &&& (63 : Int32)).toUInt32 >>> ((3 : Int32) &&& 31).toUInt32).toInt32)), .val (.int (1 : Int32)), .val (.long (F2 q1)), .second, .unset] [(.long (((F2 q1).toUInt64 >>> ((p2 &&& (63 : Int32)) &&& 0x3f).toInt64.toUInt64).toInt64))])) _
                  refine XS.lconst X101.here hx rfl (hb hby at_145) ?_
                  show Steps p.tables e below (T101.setTop (mkF m 146 #[.val (.long q1), .second, .val (.int p2), .val (.int (p2 &&& (63 : Int32))), .val (.int ((p2 &&& (63 : Int32)) &&& (7 : Int32))), .val (.int (((p2 &&& (63 : Int32)).toUInt32 >>> ((3 : Int32) &&& 31).toUInt32).toInt32)), .val (.int (1 : Int32)), .val (.long (F2 q1)), .second, .unset] [(.long (1 : Int64)), (.long (((F2 q1).toUInt64 >>> ((p2 &&& (63 : Int32)) &&& 0x3f).toInt64.toUInt64).toInt64))])) _
                  refine XS.land X101.here hx rfl (hb hby at_146) rfl ?_
                  show Steps p.tables e below (T101.setTop (mkF m 147 #[.val (.long q1), .second, .val (.int p2), .val (.int (p2 &&& (63 : Int32))), .val (.int ((p2 &&& (63 : Int32)) &&& (7 : Int32))), .val (.int (((p2 &&& (63 : Int32)).toUInt32 >>> ((3 : Int32) &&& 31).toUInt32).toInt32)), .val (.int (1 : Int32)), .val (.long (F2 q1)), .second, .unset] [(.long ((((F2 q1).toUInt64 >>> ((p2 &&& (63 : Int32)) &&& 0x3f).toInt64.toUInt64).toInt64) &&& (1 : Int64)))])) _
                  refine XS.lconst X101.here hx rfl (hb hby at_147) ?_
                  show Steps p.tables e below (T101.setTop (mkF m 148 #[.val (.long q1), .second, .val (.int p2), .val (.int (p2 &&& (63 : Int32))), .val (.int ((p2 &&& (63 : Int32)) &&& (7 : Int32))), .val (.int (((p2 &&& (63 : Int32)).toUInt32 >>> ((3 : Int32) &&& 31).toUInt32).toInt32)), .val (.int (1 : Int32)), .val (.long (F2 q1)), .second, .unset] [(.long (0 : Int64)), (.long ((((F2 q1).toUInt64 >>> ((p2 &&& (63 : Int32)) &&& 0x3f).toInt64.toUInt64).toInt64) &&& (1 : Int64)))])) _
                  refine XS.lcmp X101.here hx rfl (hb hby at_148) rfl ?_
                  exact k
                by_cases hc104 : (lcmpW ((((F2 q1).toUInt64 >>> ((p2 &&& (63 : Int32)) &&& 0x3f).toInt64.toUInt64).toInt64) &&& (1 : Int64)) (0 : Int64)) = (0 : Int32)
                · have pre105 : ∀ t, Steps p.tables e below (T101.setTop (mkF m 156 #[.val (.long q1), .second, .val (.int p2), .val (.int (p2 &&& (63 : Int32))), .val (.int ((p2 &&& (63 : Int32)) &&& (7 : Int32))), .val (.int (((p2 &&& (63 : Int32)).toUInt32 >>> ((3 : Int32) &&& 31).toUInt32).toInt32)), .val (.int (1 : Int32)), .val (.long (F2 q1)), .second, .unset] [])) t → Steps p.tables e below (s₁.setTop (entryFrame m #[(.long q1), (.int p2)] maxLocals)) t := by
                    intro t k
                    refine pre103 _ ?_
                    show Steps p.tables e below (T101.setTop (mkF m 149 #[.val (.long q1), .second, .val (.int p2), .val (.int (p2 &&& (63 : Int32))), .val (.int ((p2 &&& (63 : Int32)) &&& (7 : Int32))), .val (.int (((p2 &&& (63 : Int32)).toUInt32 >>> ((3 : Int32) &&& 31).toUInt32).toInt32)), .val (.int (1 : Int32)), .val (.long (F2 q1)), .second, .unset] [(.int (lcmpW ((((F2 q1).toUInt64 >>> ((p2 &&& (63 : Int32)) &&& 0x3f).toInt64.toUInt64).toInt64) &&& (1 : Int64)) (0 : Int64)))])) _
                    refine XS.ifYes X101.here hx rfl (pc0 := 149) (pc' := 156) rfl (hb hby at_149) rfl ((if0 _ _).trans (teq hc104).1) (by decide) (by decide) ?_
                    exact k
                  have pre106 : ∀ t, Steps p.tables e below (T101.setTop (mkF m 163 #[.val (.long q1), .second, .val (.int p2), .val (.int (p2 &&& (63 : Int32))), .val (.int ((p2 &&& (63 : Int32)) &&& (7 : Int32))), .val (.int (((p2 &&& (63 : Int32)).toUInt32 >>> ((3 : Int32) &&& 31).toUInt32).toInt32)), .val (.int (1 : Int32)), .val (.long (F2 q1)), .second, .val (.int (0 : Int32))] [(.int (1 : Int32)), (.int (0 : Int32))])) t → Steps p.tables e below (s₁.setTop (entryFrame m #[(.long q1), (.int p2)] maxLocals)) t := by
                    intro t k
                    refine pre105 _ ?_
                    show Steps p.tables e below (T101.setTop (mkF m 156 #[.val (.long q1), .second, .val (.int p2), .val (.int (p2 &&& (63 : Int32))), .val (.int ((p2 &&& (63 : Int32)) &&& (7 : Int32))), .val (.int (((p2 &&& (63 : Int32)).toUInt32 >>> ((3 : Int32) &&& 31).toUInt32).toInt32)), .val (.int (1 : Int32)), .val (.long (F2 q1)), .second, .unset] [])) _
                    refine XS.iconst X101.here hx rfl (hb hby at_156) ?_
                    show Steps p.tables e below (T101.setTop (mkF m 157 #[.val (.long q1), .second, .val (.int p2), .val (.int (p2 &&& (63 : Int32))), .val (.int ((p2 &&& (63 : Int32)) &&& (7 : Int32))), .val (.int (((p2 &&& (63 : Int32)).toUInt32 >>> ((3 : Int32) &&& 31).toUInt32).toInt32)), .val (.int (1 : Int32)), .val (.long (F2 q1)), .second, .unset] [(.int (0 : Int32))])) _
                    refine XS.istore X101.here hx rfl (hb hby at_157) rfl (l' := #[.val (.long q1), .second, .val (.int p2), .val (.int (p2 &&& (63 : Int32))), .val (.int ((p2 &&& (63 : Int32)) &&& (7 : Int32))), .val (.int (((p2 &&& (63 : Int32)).toUInt32 >>> ((3 : Int32) &&& 31).toUInt32).toInt32)), .val (.int (1 : Int32)), .val (.long (F2 q1)), .second, .val (.int (0 : Int32))]) rfl ?_
                    show Steps p.tables e below (T101.setTop (mkF m 159 #[.val (.long q1), .second, .val (.int p2), .val (.int (p2 &&& (63 : Int32))), .val (.int ((p2 &&& (63 : Int32)) &&& (7 : Int32))), .val (.int (((p2 &&& (63 : Int32)).toUInt32 >>> ((3 : Int32) &&& 31).toUInt32).toInt32)), .val (.int (1 : Int32)), .val (.long (F2 q1)), .second, .val (.int (0 : Int32))] [])) _
                    refine XS.iload X101.here hx rfl (hb hby at_159) rfl ?_
                    show Steps p.tables e below (T101.setTop (mkF m 161 #[.val (.long q1), .second, .val (.int p2), .val (.int (p2 &&& (63 : Int32))), .val (.int ((p2 &&& (63 : Int32)) &&& (7 : Int32))), .val (.int (((p2 &&& (63 : Int32)).toUInt32 >>> ((3 : Int32) &&& 31).toUInt32).toInt32)), .val (.int (1 : Int32)), .val (.long (F2 q1)), .second, .val (.int (0 : Int32))] [(.int (0 : Int32))])) _
                    refine XS.iload X101.here hx rfl (hb hby at_161) rfl ?_
                    exact k
                  have pre108 : ∀ t, Steps p.tables e below (T101.setTop (mkF m 170 #[.val (.long q1), .second, .val (.int p2), .val (.int (p2 &&& (63 : Int32))), .val (.int ((p2 &&& (63 : Int32)) &&& (7 : Int32))), .val (.int (((p2 &&& (63 : Int32)).toUInt32 >>> ((3 : Int32) &&& 31).toUInt32).toInt32)), .val (.int (1 : Int32)), .val (.long (F2 q1)), .second, .val (.int (0 : Int32))] [])) t → Steps p.tables e below (s₁.setTop (entryFrame m #[(.long q1), (.int p2)] maxLocals)) t := by
                    intro t k
                    refine pre106 _ ?_
                    show Steps p.tables e below (T101.setTop (mkF m 163 #[.val (.long q1), .second, .val (.int p2), .val (.int (p2 &&& (63 : Int32))), .val (.int ((p2 &&& (63 : Int32)) &&& (7 : Int32))), .val (.int (((p2 &&& (63 : Int32)).toUInt32 >>> ((3 : Int32) &&& 31).toUInt32).toInt32)), .val (.int (1 : Int32)), .val (.long (F2 q1)), .second, .val (.int (0 : Int32))] [(.int (1 : Int32)), (.int (0 : Int32))])) _
                    refine XS.icmpYes X101.here hx rfl (pc0 := 163) (pc' := 170) rfl (hb hby at_163) rfl (feq (by decide : ¬ ((0 : Int32) = (1 : Int32)))).2 (by decide) (by decide) ?_
                    exact k
                  have pre109 : ∀ t, Steps p.tables e below (T101.setTop (mkF m 171 #[.val (.long q1), .second, .val (.int p2), .val (.int (p2 &&& (63 : Int32))), .val (.int ((p2 &&& (63 : Int32)) &&& (7 : Int32))), .val (.int (((p2 &&& (63 : Int32)).toUInt32 >>> ((3 : Int32) &&& 31).toUInt32).toInt32)), .val (.int (1 : Int32)), .val (.long (F2 q1)), .second, .val (.int (0 : Int32))] [(.int (0 : Int32))])) t → Steps p.tables e below (s₁.setTop (entryFrame m #[(.long q1), (.int p2)] maxLocals)) t := by
                    intro t k
                    refine pre108 _ ?_
                    show Steps p.tables e below (T101.setTop (mkF m 170 #[.val (.long q1), .second, .val (.int p2), .val (.int (p2 &&& (63 : Int32))), .val (.int ((p2 &&& (63 : Int32)) &&& (7 : Int32))), .val (.int (((p2 &&& (63 : Int32)).toUInt32 >>> ((3 : Int32) &&& 31).toUInt32).toInt32)), .val (.int (1 : Int32)), .val (.long (F2 q1)), .second, .val (.int (0 : Int32))] [])) _
                    refine XS.iconst X101.here hx rfl (hb hby at_170) ?_
                    exact k
                  obtain ⟨fs, hr, hrun, hended, hW, hsame⟩ := X101.leave (v := some (.int (0 : Int32))) (fun h => by rw [Bd.returns] at h; cases h)
                  refine ⟨_, _, pre109 _ ?_, hrun, hended, _, _, rfl, ?_, ⟨_, rfl⟩, hW, hsame.mono (by decide) (by decide)⟩
                  · show Steps p.tables e below (T101.setTop (mkF m 171 #[.val (.long q1), .second, .val (.int p2), .val (.int (p2 &&& (63 : Int32))), .val (.int ((p2 &&& (63 : Int32)) &&& (7 : Int32))), .val (.int (((p2 &&& (63 : Int32)).toUInt32 >>> ((3 : Int32) &&& 31).toUInt32).toInt32)), .val (.int (1 : Int32)), .val (.long (F2 q1)), .second, .val (.int (0 : Int32))] [(.int (0 : Int32))])) _
                    exact retN X101 hx (t := .boolean) Bd.returns (by simp) (hb hby at_171) hr
                  · show Q0 Z q1 p2 h0 n0 _ T101.heap _
                    rw [e101]
                    exact ⟨(by rw [F0, if_pos hc31, if_pos hc36, if_pos hc41, if_pos hc46, if_pos hc51, if_pos hc56, if_neg hc61, if_pos hc104]), N101, rfl⟩
                · have pre110 : ∀ t, Steps p.tables e below (T101.setTop (mkF m 152 #[.val (.long q1), .second, .val (.int p2), .val (.int (p2 &&& (63 : Int32))), .val (.int ((p2 &&& (63 : Int32)) &&& (7 : Int32))), .val (.int (((p2 &&& (63 : Int32)).toUInt32 >>> ((3 : Int32) &&& 31).toUInt32).toInt32)), .val (.int (1 : Int32)), .val (.long (F2 q1)), .second, .unset] [])) t → Steps p.tables e below (s₁.setTop (entryFrame m #[(.long q1), (.int p2)] maxLocals)) t := by
                    intro t k
                    refine pre103 _ ?_
                    show Steps p.tables e below (T101.setTop (mkF m 149 #[.val (.long q1), .second, .val (.int p2), .val (.int (p2 &&& (63 : Int32))), .val (.int ((p2 &&& (63 : Int32)) &&& (7 : Int32))), .val (.int (((p2 &&& (63 : Int32)).toUInt32 >>> ((3 : Int32) &&& 31).toUInt32).toInt32)), .val (.int (1 : Int32)), .val (.long (F2 q1)), .second, .unset] [(.int (lcmpW ((((F2 q1).toUInt64 >>> ((p2 &&& (63 : Int32)) &&& 0x3f).toInt64.toUInt64).toInt64) &&& (1 : Int64)) (0 : Int64)))])) _
                    refine XS.ifNo X101.here hx rfl (hb hby at_149) rfl ((if0 _ _).trans (feq hc104).1) ?_
                    exact k
                  have pre111 : ∀ t, Steps p.tables e below (T101.setTop (mkF m 163 #[.val (.long q1), .second, .val (.int p2), .val (.int (p2 &&& (63 : Int32))), .val (.int ((p2 &&& (63 : Int32)) &&& (7 : Int32))), .val (.int (((p2 &&& (63 : Int32)).toUInt32 >>> ((3 : Int32) &&& 31).toUInt32).toInt32)), .val (.int (1 : Int32)), .val (.long (F2 q1)), .second, .val (.int (1 : Int32))] [(.int (1 : Int32)), (.int (1 : Int32))])) t → Steps p.tables e below (s₁.setTop (entryFrame m #[(.long q1), (.int p2)] maxLocals)) t := by
                    intro t k
                    refine pre110 _ ?_
                    show Steps p.tables e below (T101.setTop (mkF m 152 #[.val (.long q1), .second, .val (.int p2), .val (.int (p2 &&& (63 : Int32))), .val (.int ((p2 &&& (63 : Int32)) &&& (7 : Int32))), .val (.int (((p2 &&& (63 : Int32)).toUInt32 >>> ((3 : Int32) &&& 31).toUInt32).toInt32)), .val (.int (1 : Int32)), .val (.long (F2 q1)), .second, .unset] [])) _
                    refine XS.iconst X101.here hx rfl (hb hby at_152) ?_
                    show Steps p.tables e below (T101.setTop (mkF m 153 #[.val (.long q1), .second, .val (.int p2), .val (.int (p2 &&& (63 : Int32))), .val (.int ((p2 &&& (63 : Int32)) &&& (7 : Int32))), .val (.int (((p2 &&& (63 : Int32)).toUInt32 >>> ((3 : Int32) &&& 31).toUInt32).toInt32)), .val (.int (1 : Int32)), .val (.long (F2 q1)), .second, .unset] [(.int (1 : Int32))])) _
                    refine XS.goto X101.here hx rfl (pc0 := 153) (pc' := 157) rfl (hb hby at_153) (by decide) (by decide) ?_
                    show Steps p.tables e below (T101.setTop (mkF m 157 #[.val (.long q1), .second, .val (.int p2), .val (.int (p2 &&& (63 : Int32))), .val (.int ((p2 &&& (63 : Int32)) &&& (7 : Int32))), .val (.int (((p2 &&& (63 : Int32)).toUInt32 >>> ((3 : Int32) &&& 31).toUInt32).toInt32)), .val (.int (1 : Int32)), .val (.long (F2 q1)), .second, .unset] [(.int (1 : Int32))])) _
                    refine XS.istore X101.here hx rfl (hb hby at_157) rfl (l' := #[.val (.long q1), .second, .val (.int p2), .val (.int (p2 &&& (63 : Int32))), .val (.int ((p2 &&& (63 : Int32)) &&& (7 : Int32))), .val (.int (((p2 &&& (63 : Int32)).toUInt32 >>> ((3 : Int32) &&& 31).toUInt32).toInt32)), .val (.int (1 : Int32)), .val (.long (F2 q1)), .second, .val (.int (1 : Int32))]) rfl ?_
                    show Steps p.tables e below (T101.setTop (mkF m 159 #[.val (.long q1), .second, .val (.int p2), .val (.int (p2 &&& (63 : Int32))), .val (.int ((p2 &&& (63 : Int32)) &&& (7 : Int32))), .val (.int (((p2 &&& (63 : Int32)).toUInt32 >>> ((3 : Int32) &&& 31).toUInt32).toInt32)), .val (.int (1 : Int32)), .val (.long (F2 q1)), .second, .val (.int (1 : Int32))] [])) _
                    refine XS.iload X101.here hx rfl (hb hby at_159) rfl ?_
                    show Steps p.tables e below (T101.setTop (mkF m 161 #[.val (.long q1), .second, .val (.int p2), .val (.int (p2 &&& (63 : Int32))), .val (.int ((p2 &&& (63 : Int32)) &&& (7 : Int32))), .val (.int (((p2 &&& (63 : Int32)).toUInt32 >>> ((3 : Int32) &&& 31).toUInt32).toInt32)), .val (.int (1 : Int32)), .val (.long (F2 q1)), .second, .val (.int (1 : Int32))] [(.int (1 : Int32))])) _
                    refine XS.iload X101.here hx rfl (hb hby at_161) rfl ?_
                    exact k
                  have pre113 : ∀ t, Steps p.tables e below (T101.setTop (mkF m 166 #[.val (.long q1), .second, .val (.int p2), .val (.int (p2 &&& (63 : Int32))), .val (.int ((p2 &&& (63 : Int32)) &&& (7 : Int32))), .val (.int (((p2 &&& (63 : Int32)).toUInt32 >>> ((3 : Int32) &&& 31).toUInt32).toInt32)), .val (.int (1 : Int32)), .val (.long (F2 q1)), .second, .val (.int (1 : Int32))] [])) t → Steps p.tables e below (s₁.setTop (entryFrame m #[(.long q1), (.int p2)] maxLocals)) t := by
                    intro t k
                    refine pre111 _ ?_
                    show Steps p.tables e below (T101.setTop (mkF m 163 #[.val (.long q1), .second, .val (.int p2), .val (.int (p2 &&& (63 : Int32))), .val (.int ((p2 &&& (63 : Int32)) &&& (7 : Int32))), .val (.int (((p2 &&& (63 : Int32)).toUInt32 >>> ((3 : Int32) &&& 31).toUInt32).toInt32)), .val (.int (1 : Int32)), .val (.long (F2 q1)), .second, .val (.int (1 : Int32))] [(.int (1 : Int32)), (.int (1 : Int32))])) _
                    refine XS.icmpNo X101.here hx rfl (hb hby at_163) rfl (teq (by decide : (1 : Int32) = (1 : Int32))).2 ?_
                    exact k
                  have pre114 : ∀ t, Steps p.tables e below (T101.setTop (mkF m 171 #[.val (.long q1), .second, .val (.int p2), .val (.int (p2 &&& (63 : Int32))), .val (.int ((p2 &&& (63 : Int32)) &&& (7 : Int32))), .val (.int (((p2 &&& (63 : Int32)).toUInt32 >>> ((3 : Int32) &&& 31).toUInt32).toInt32)), .val (.int (1 : Int32)), .val (.long (F2 q1)), .second, .val (.int (1 : Int32))] [(.int (1 : Int32))])) t → Steps p.tables e below (s₁.setTop (entryFrame m #[(.long q1), (.int p2)] maxLocals)) t := by
                    intro t k
                    refine pre113 _ ?_
                    show Steps p.tables e below (T101.setTop (mkF m 166 #[.val (.long q1), .second, .val (.int p2), .val (.int (p2 &&& (63 : Int32))), .val (.int ((p2 &&& (63 : Int32)) &&& (7 : Int32))), .val (.int (((p2 &&& (63 : Int32)).toUInt32 >>> ((3 : Int32) &&& 31).toUInt32).toInt32)), .val (.int (1 : Int32)), .val (.long (F2 q1)), .second, .val (.int (1 : Int32))] [])) _
                    refine XS.iconst X101.here hx rfl (hb hby at_166) ?_
                    show Steps p.tables e below (T101.setTop (mkF m 167 #[.val (.long q1), .second, .val (.int p2), .val (.int (p2 &&& (63 : Int32))), .val (.int ((p2 &&& (63 : Int32)) &&& (7 : Int32))), .val (.int (((p2 &&& (63 : Int32)).toUInt32 >>> ((3 : Int32) &&& 31).toUInt32).toInt32)), .val (.int (1 : Int32)), .val (.long (F2 q1)), .second, .val (.int (1 : Int32))] [(.int (1 : Int32))])) _
                    refine XS.goto X101.here hx rfl (pc0 := 167) (pc' := 171) rfl (hb hby at_167) (by decide) (by decide) ?_
                    exact k
                  obtain ⟨fs, hr, hrun, hended, hW, hsame⟩ := X101.leave (v := some (.int (1 : Int32))) (fun h => by rw [Bd.returns] at h; cases h)
                  refine ⟨_, _, pre114 _ ?_, hrun, hended, _, _, rfl, ?_, ⟨_, rfl⟩, hW, hsame.mono (by decide) (by decide)⟩
                  · show Steps p.tables e below (T101.setTop (mkF m 171 #[.val (.long q1), .second, .val (.int p2), .val (.int (p2 &&& (63 : Int32))), .val (.int ((p2 &&& (63 : Int32)) &&& (7 : Int32))), .val (.int (((p2 &&& (63 : Int32)).toUInt32 >>> ((3 : Int32) &&& 31).toUInt32).toInt32)), .val (.int (1 : Int32)), .val (.long (F2 q1)), .second, .val (.int (1 : Int32))] [(.int (1 : Int32))])) _
                    exact retN X101 hx (t := .boolean) Bd.returns (by simp) (hb hby at_171) hr
                  · show Q0 Z q1 p2 h0 n0 _ T101.heap _
                    rw [e101]
                    exact ⟨(by rw [F0, if_pos hc31, if_pos hc36, if_pos hc41, if_pos hc46, if_pos hc51, if_pos hc56, if_neg hc61, if_neg hc104]), N101, rfl⟩
            · have pre115 : ∀ t, Steps p.tables e below (T54.setTop (mkF m 128 #[.val (.long q1), .second, .val (.int p2), .val (.int (p2 &&& (63 : Int32))), .val (.int ((p2 &&& (63 : Int32)) &&& (7 : Int32))), .val (.int (((p2 &&& (63 : Int32)).toUInt32 >>> ((3 : Int32) &&& 31).toUInt32).toInt32)), .unset, .unset, .unset, .unset] [])) t → Steps p.tables e below (s₁.setTop (entryFrame m #[(.long q1), (.int p2)] maxLocals)) t := by
                intro t k
                refine pre55 _ ?_
                show Steps p.tables e below (T54.setTop (mkF m 97 #[.val (.long q1), .second, .val (.int p2), .val (.int (p2 &&& (63 : Int32))), .val (.int ((p2 &&& (63 : Int32)) &&& (7 : Int32))), .val (.int (((p2 &&& (63 : Int32)).toUInt32 >>> ((3 : Int32) &&& 31).toUInt32).toInt32)), .unset, .unset, .unset, .unset] [(.int (F1 q1 (((p2 &&& (63 : Int32)) &&& (7 : Int32)) - (1 : Int32)) ((((p2 &&& (63 : Int32)).toUInt32 >>> ((3 : Int32) &&& 31).toUInt32).toInt32) + (1 : Int32))))])) _
                refine XS.ifYes X54.here hx rfl (pc0 := 97) (pc' := 128) rfl (hb hby at_97) rfl ((if0 _ _).trans (feq hc56).2) (by decide) (by decide) ?_
                exact k
              have pre116 : ∀ t, Steps p.tables e below (T54.setTop (mkF m 136 #[.val (.long q1), .second, .val (.int p2), .val (.int (p2 &&& (63 : Int32))), .val (.int ((p2 &&& (63 : Int32)) &&& (7 : Int32))), .val (.int (((p2 &&& (63 : Int32)).toUInt32 >>> ((3 : Int32) &&& 31).toUInt32).toInt32)), .val (.int (1 : Int32)), .unset, .unset, .unset] [(.long q1)])) t → Steps p.tables e below (s₁.setTop (entryFrame m #[(.long q1), (.int p2)] maxLocals)) t := by
                intro t k
                refine pre115 _ ?_
                show Steps p.tables e below (T54.setTop (mkF m 128 #[.val (.long q1), .second, .val (.int p2), .val (.int (p2 &&& (63 : Int32))), .val (.int ((p2 &&& (63 : Int32)) &&& (7 : Int32))), .val (.int (((p2 &&& (63 : Int32)).toUInt32 >>> ((3 : Int32) &&& 31).toUInt32).toInt32)), .unset, .unset, .unset, .unset] [])) _
                refine XS.iconst X54.here hx rfl (hb hby at_128) ?_
                show Steps p.tables e below (T54.setTop (mkF m 129 #[.val (.long q1), .second, .val (.int p2), .val (.int (p2 &&& (63 : Int32))), .val (.int ((p2 &&& (63 : Int32)) &&& (7 : Int32))), .val (.int (((p2 &&& (63 : Int32)).toUInt32 >>> ((3 : Int32) &&& 31).toUInt32).toInt32)), .unset, .unset, .unset, .unset] [(.int (1 : Int32))])) _
                refine XS.goto X54.here hx rfl (pc0 := 129) (pc' := 133) rfl (hb hby at_129) (by decide) (by decide) ?_
                show Steps p.tables e below (T54.setTop (mkF m 133 #[.val (.long q1), .second, .val (.int p2), .val (.int (p2 &&& (63 : Int32))), .val (.int ((p2 &&& (63 : Int32)) &&& (7 : Int32))), .val (.int (((p2 &&& (63 : Int32)).toUInt32 >>> ((3 : Int32) &&& 31).toUInt32).toInt32)), .unset, .unset, .unset, .unset] [(.int (1 : Int32))])) _
                refine XS.istore X54.here hx rfl (hb hby at_133) rfl (l' := #[.val (.long q1), .second, .val (.int p2), .val (.int (p2 &&& (63 : Int32))), .val (.int ((p2 &&& (63 : Int32)) &&& (7 : Int32))), .val (.int (((p2 &&& (63 : Int32)).toUInt32 >>> ((3 : Int32) &&& 31).toUInt32).toInt32)), .val (.int (1 : Int32)), .unset, .unset, .unset]) rfl ?_
                show Steps p.tables e below (T54.setTop (mkF m 135 #[.val (.long q1), .second, .val (.int p2), .val (.int (p2 &&& (63 : Int32))), .val (.int ((p2 &&& (63 : Int32)) &&& (7 : Int32))), .val (.int (((p2 &&& (63 : Int32)).toUInt32 >>> ((3 : Int32) &&& 31).toUInt32).toInt32)), .val (.int (1 : Int32)), .unset, .unset, .unset] [])) _
                refine XS.lloadN X54.here hx rfl (hb hby at_135) rfl ?_
                exact k
              obtain ⟨_, _, ⟨T117, L117, k117, n117⟩, -, X117, ⟨Lc117, hQ117, l117, y117, z117⟩, st117⟩ := Jvm.LawKit.callS X54 hx (y := (⟨"com/example/tabuleiro/tabuleiro/othello/OthelloPosition", "neighbours", "(J)J"⟩ : MethodName)) hown (mvT hZ (hw _ (List.mem_of_getElem? (i := 4) rfl))) (mvT hZ (hw _ (List.mem_of_getElem? (i := 5) rfl))) (mvT hZ (hw _ (List.mem_of_getElem? (i := 6) rfl))) (mvT hZ (hw _ (List.mem_of_getElem? (i := 7) rfl))) (by decide) (backOf (W := 0) (rm2 l Z a0 hw [] q1 h0 n0 Z0 ) hZ (hw _ (List.mem_of_getElem? (i := 7) rfl)) (hw _ (List.mem_of_getElem? (i := 6) rfl)) (by decide) (by decide)) (g := (mkF m 136 #[.val (.long q1), .second, .val (.int p2), .val (.int (p2 &&& (63 : Int32))), .val (.int ((p2 &&& (63 : Int32)) &&& (7 : Int32))), .val (.int (((p2 &&& (63 : Int32)).toUInt32 >>> ((3 : Int32) &&& 31).toUInt32).toInt32)), .val (.int (1 : Int32)), .unset, .unset, .unset] [(.long q1)])) rfl (by rw [hml]; rfl) (argsL := [(.long q1)]) (rest := []) (lenOf pd__J_J rfl) rfl (by show 2 * 0 + _ ≤ _; exact Nat.le_of_eq rfl) (hb hby at_136) (fun _ _ => ⟨rfl, e54, (by decide : 0 + 0 ≤ _), (by decide : 0 + 0 ≤ _)⟩)
              dsimp only [Pt.U, Pt.locs, Pt.cells, Pt.slots] at X117 l117 y117 z117 st117 hQ117
              subst l117 y117 z117
              obtain ⟨rfl, N117q, e117⟩ := hQ117
              have N117 := Fr.app N54 N117q
              have pre118 : ∀ t, Steps p.tables e below (T117.setTop (mkF m 139 #[.val (.long q1), .second, .val (.int p2), .val (.int (p2 &&& (63 : Int32))), .val (.int ((p2 &&& (63 : Int32)) &&& (7 : Int32))), .val (.int (((p2 &&& (63 : Int32)).toUInt32 >>> ((3 : Int32) &&& 31).toUInt32).toInt32)), .val (.int (1 : Int32)), .unset, .unset, .unset] [(.long (F2 q1))])) t → Steps p.tables e below (s₁.setTop (entryFrame m #[(.long q1), (.int p2)] maxLocals)) t := by
                intro t k
                refine pre116 _ ?_
                show Steps p.tables e below (T54.setTop (mkF m 136 #[.val (.long q1), .second, .val (.int p2), .val (.int (p2 &&& (63 : Int32))), .val (.int ((p2 &&& (63 : Int32)) &&& (7 : Int32))), .val (.int (((p2 &&& (63 : Int32)).toUInt32 >>> ((3 : Int32) &&& 31).toUInt32).toInt32)), .val (.int (1 : Int32)), .unset, .unset, .unset] [(.long q1)])) _
                refine st117 _ ?_
                exact k
              have pre119 : ∀ t, Steps p.tables e below (T117.setTop (mkF m 149 #[.val (.long q1), .second, .val (.int p2), .val (.int (p2 &&& (63 : Int32))), .val (.int ((p2 &&& (63 : Int32)) &&& (7 : Int32))), .val (.int (((p2 &&& (63 : Int32)).toUInt32 >>> ((3 : Int32) &&& 31).toUInt32).toInt32)), .val (.int (1 : Int32)), .val (.long (F2 q1)), .second, .unset] [(.int (lcmpW ((((F2 q1).toUInt64 >>> ((p2 &&& (63 : Int32)) &&& 0x3f).toInt64.toUInt64).toInt64) &&& (1 : Int64)) (0 : Int64)))])) t → Steps p.tables e below (s₁.setTop (entryFrame m #[(.long q1), (.int p2)] maxLocals)) t := by
                intro t k
                refine pre118 _ ?_
                show Steps p.tables e below (T117.setTop (mkF m 139 #[.val (.long q1), .second, .val (.int p2), .val (.int (p2 &&& (63 : Int32))), .val (.int ((p2 &&& (63 : Int32)) &&& (7 : Int32))), .val (.int (((p2 &&& (63 : Int32)).toUInt32 >>> ((3 : Int32) &&& 31).toUInt32).toInt32)), .val (.int (1 : Int32)), .unset, .unset, .unset] [(.long (F2 q1))])) _
                refine XS.lstore X117.here hx rfl (hb hby at_139) rfl (l' := #[.val (.long q1), .second, .val (.int p2), .val (.int (p2 &&& (63 : Int32))), .val (.int ((p2 &&& (63 : Int32)) &&& (7 : Int32))), .val (.int (((p2 &&& (63 : Int32)).toUInt32 >>> ((3 : Int32) &&& 31).toUInt32).toInt32)), .val (.int (1 : Int32)), .val (.long (F2 q1)), .second, .unset]) rfl ?_
                show Steps p.tables e below (T117.setTop (mkF m 141 #[.val (.long q1), .second, .val (.int p2), .val (.int (p2 &&& (63 : Int32))), .val (.int ((p2 &&& (63 : Int32)) &&& (7 : Int32))), .val (.int (((p2 &&& (63 : Int32)).toUInt32 >>> ((3 : Int32) &&& 31).toUInt32).toInt32)), .val (.int (1 : Int32)), .val (.long (F2 q1)), .second, .unset] [])) _
                refine XS.lload X117.here hx rfl (hb hby at_141) rfl ?_
                show Steps p.tables e below (T117.setTop (mkF m 143 #[.val (.long q1), .second, .val (.int p2), .val (.int (p2 &&& (63 : Int32))), .val (.int ((p2 &&& (63 : Int32)) &&& (7 : Int32))), .val (.int (((p2 &&& (63 : Int32)).toUInt32 >>> ((3 : Int32) &&& 31).toUInt32).toInt32)), .val (.int (1 : Int32)), .val (.long (F2 q1)), .second, .unset] [(.long (F2 q1))])) _
                refine XS.iloadN X117.here hx rfl (hb hby at_143) rfl ?_
                show Steps p.tables e below (T117.setTop (mkF m 144 #[.val (.long q1), .second, .val (.int p2), .val (.int (p2 &&& (63 : Int32))), .val (.int ((p2 &&& (63 : Int32)) &&& (7 : Int32))), .val (.int (((p2 &&& (63 : Int32)).toUInt32 >>> ((3 : Int32) &&& 31).toUInt32).toInt32)), .val (.int (1 : Int32)), .val (.long (F2 q1)), .second, .unset] [(.int (p2 &&& (63 : Int32))), (.long (F2 q1))])) _
                refine XS.lushr X117.here hx rfl (hb hby at_144) rfl ?_
                show Steps p.tables e below (T117.setTop (mkF m 145 #[.val (.long q1), .second, .val (.int p2), .val (.int (p2 &&& (63 : Int32))), .val (.int ((p2 &&& (63 : Int32)) &&& (7 : Int32))), .val (.int (((p2 &&& (63 : Int32)).toUInt32 >>> ((3 : Int32) &&& 31).toUInt32).toInt32)), .val (.int (1 : Int32)), .val (.long (F2 q1)), .second, .unset] [(.long (((F2 q1).toUInt64 >>> ((p2 &&& (63 : Int32)) &&& 0x3f).toInt64.toUInt64).toInt64))])) _
                refine XS.lconst X117.here hx rfl (hb hby at_145) ?_
                show Steps p.tables e below (T117.setTop (mkF m 146 #[.val (.long q1), .second, .val (.int p2), .val (.int (p2 &&& (63 : Int32))), .val (.int ((p2 &&& (63 : Int32)) &&& (7 : Int32))), .val (.int (((p2 &&& (63 : Int32)).toUInt32 >>> ((3 : Int32) &&& 31).toUInt32).toInt32)), .val (.int (1 : Int32)), .val (.long (F2 q1)), .second, .unset] [(.long (1 : Int64)), (.long (((F2 q1).toUInt64 >>> ((p2 &&& (63 : Int32)) &&& 0x3f).toInt64.toUInt64).toInt64))])) _
                refine XS.land X117.here hx rfl (hb hby at_146) rfl ?_
                show Steps p.tables e below (T117.setTop (mkF m 147 #[.val (.long q1), .second, .val (.int p2), .val (.int (p2 &&& (63 : Int32))), .val (.int ((p2 &&& (63 : Int32)) &&& (7 : Int32))), .val (.int (((p2 &&& (63 : Int32)).toUInt32 >>> ((3 : Int32) &&& 31).toUInt32).toInt32)), .val (.int (1 : Int32)), .val (.long (F2 q1)), .second, .unset] [(.long ((((F2 q1).toUInt64 >>> ((p2 &&& (63 : Int32)) &&& 0x3f).toInt64.toUInt64).toInt64) &&& (1 : Int64)))])) _
                refine XS.lconst X117.here hx rfl (hb hby at_147) ?_
                show Steps p.tables e below (T117.setTop (mkF m 148 #[.val (.long q1), .second, .val (.int p2), .val (.int (p2 &&& (63 : Int32))), .val (.int ((p2 &&& (63 : Int32)) &&& (7 : Int32))), .val (.int (((p2 &&& (63 : Int32)).toUInt32 >>> ((3 : Int32) &&& 31).toUInt32).toInt32)), .val (.int (1 : Int32)), .val (.long (F2 q1)), .second, .unset] [(.long (0 : Int64)), (.long ((((F2 q1).toUInt64 >>> ((p2 &&& (63 : Int32)) &&& 0x3f).toInt64.toUInt64).toInt64) &&& (1 : Int64)))])) _
                refine XS.lcmp X117.here hx rfl (hb hby at_148) rfl ?_
                exact k
              by_cases hc120 : (lcmpW ((((F2 q1).toUInt64 >>> ((p2 &&& (63 : Int32)) &&& 0x3f).toInt64.toUInt64).toInt64) &&& (1 : Int64)) (0 : Int64)) = (0 : Int32)
              · have pre121 : ∀ t, Steps p.tables e below (T117.setTop (mkF m 156 #[.val (.long q1), .second, .val (.int p2), .val (.int (p2 &&& (63 : Int32))), .val (.int ((p2 &&& (63 : Int32)) &&& (7 : Int32))), .val (.int (((p2 &&& (63 : Int32)).toUInt32 >>> ((3 : Int32) &&& 31).toUInt32).toInt32)), .val (.int (1 : Int32)), .val (.long (F2 q1)), .second, .unset] [])) t → Steps p.tables e below (s₁.setTop (entryFrame m #[(.long q1), (.int p2)] maxLocals)) t := by
                  intro t k
                  refine pre119 _ ?_
                  show Steps p.tables e below (T117.setTop (mkF m 149 #[.val (.long q1), .second, .val (.int p2), .val (.int (p2 &&& (63 : Int32))), .val (.int ((p2 &&& (63 : Int32)) &&& (7 : Int32))), .val (.int (((p2 &&& (63 : Int32)).toUInt32 >>> ((3 : Int32) &&& 31).toUInt32).toInt32)), .val (.int (1 : Int32)), .val (.long (F2 q1)), .second, .unset] [(.int (lcmpW ((((F2 q1).toUInt64 >>> ((p2 &&& (63 : Int32)) &&& 0x3f).toInt64.toUInt64).toInt64) &&& (1 : Int64)) (0 : Int64)))])) _
                  refine XS.ifYes X117.here hx rfl (pc0 := 149) (pc' := 156) rfl (hb hby at_149) rfl ((if0 _ _).trans (teq hc120).1) (by decide) (by decide) ?_
                  exact k
                have pre122 : ∀ t, Steps p.tables e below (T117.setTop (mkF m 163 #[.val (.long q1), .second, .val (.int p2), .val (.int (p2 &&& (63 : Int32))), .val (.int ((p2 &&& (63 : Int32)) &&& (7 : Int32))), .val (.int (((p2 &&& (63 : Int32)).toUInt32 >>> ((3 : Int32) &&& 31).toUInt32).toInt32)), .val (.int (1 : Int32)), .val (.long (F2 q1)), .second, .val (.int (0 : Int32))] [(.int (1 : Int32)), (.int (0 : Int32))])) t → Steps p.tables e below (s₁.setTop (entryFrame m #[(.long q1), (.int p2)] maxLocals)) t := by
                  intro t k
                  refine pre121 _ ?_
                  show Steps p.tables e below (T117.setTop (mkF m 156 #[.val (.long q1), .second, .val (.int p2), .val (.int (p2 &&& (63 : Int32))), .val (.int ((p2 &&& (63 : Int32)) &&& (7 : Int32))), .val (.int (((p2 &&& (63 : Int32)).toUInt32 >>> ((3 : Int32) &&& 31).toUInt32).toInt32)), .val (.int (1 : Int32)), .val (.long (F2 q1)), .second, .unset] [])) _
                  refine XS.iconst X117.here hx rfl (hb hby at_156) ?_
                  show Steps p.tables e below (T117.setTop (mkF m 157 #[.val (.long q1), .second, .val (.int p2), .val (.int (p2 &&& (63 : Int32))), .val (.int ((p2 &&& (63 : Int32)) &&& (7 : Int32))), .val (.int (((p2 &&& (63 : Int32)).toUInt32 >>> ((3 : Int32) &&& 31).toUInt32).toInt32)), .val (.int (1 : Int32)), .val (.long (F2 q1)), .second, .unset] [(.int (0 : Int32))])) _
                  refine XS.istore X117.here hx rfl (hb hby at_157) rfl (l' := #[.val (.long q1), .second, .val (.int p2), .val (.int (p2 &&& (63 : Int32))), .val (.int ((p2 &&& (63 : Int32)) &&& (7 : Int32))), .val (.int (((p2 &&& (63 : Int32)).toUInt32 >>> ((3 : Int32) &&& 31).toUInt32).toInt32)), .val (.int (1 : Int32)), .val (.long (F2 q1)), .second, .val (.int (0 : Int32))]) rfl ?_
                  show Steps p.tables e below (T117.setTop (mkF m 159 #[.val (.long q1), .second, .val (.int p2), .val (.int (p2 &&& (63 : Int32))), .val (.int ((p2 &&& (63 : Int32)) &&& (7 : Int32))), .val (.int (((p2 &&& (63 : Int32)).toUInt32 >>> ((3 : Int32) &&& 31).toUInt32).toInt32)), .val (.int (1 : Int32)), .val (.long (F2 q1)), .second, .val (.int (0 : Int32))] [])) _
                  refine XS.iload X117.here hx rfl (hb hby at_159) rfl ?_
                  show Steps p.tables e below (T117.setTop (mkF m 161 #[.val (.long q1), .second, .val (.int p2), .val (.int (p2 &&& (63 : Int32))), .val (.int ((p2 &&& (63 : Int32)) &&& (7 : Int32))), .val (.int (((p2 &&& (63 : Int32)).toUInt32 >>> ((3 : Int32) &&& 31).toUInt32).toInt32)), .val (.int (1 : Int32)), .val (.long (F2 q1)), .second, .val (.int (0 : Int32))] [(.int (0 : Int32))])) _
                  refine XS.iload X117.here hx rfl (hb hby at_161) rfl ?_
                  exact k
                have pre124 : ∀ t, Steps p.tables e below (T117.setTop (mkF m 170 #[.val (.long q1), .second, .val (.int p2), .val (.int (p2 &&& (63 : Int32))), .val (.int ((p2 &&& (63 : Int32)) &&& (7 : Int32))), .val (.int (((p2 &&& (63 : Int32)).toUInt32 >>> ((3 : Int32) &&& 31).toUInt32).toInt32)), .val (.int (1 : Int32)), .val (.long (F2 q1)), .second, .val (.int (0 : Int32))] [])) t → Steps p.tables e below (s₁.setTop (entryFrame m #[(.long q1), (.int p2)] maxLocals)) t := by
                  intro t k
                  refine pre122 _ ?_
                  show Steps p.tables e below (T117.setTop (mkF m 163 #[.val (.long q1), .second, .val (.int p2), .val (.int (p2 &&& (63 : Int32))), .val (.int ((p2 &&& (63 : Int32)) &&& (7 : Int32))), .val (.int (((p2 &&& (63 : Int32)).toUInt32 >>> ((3 : Int32) &&& 31).toUInt32).toInt32)), .val (.int (1 : Int32)), .val (.long (F2 q1)), .second, .val (.int (0 : Int32))] [(.int (1 : Int32)), (.int (0 : Int32))])) _
                  refine XS.icmpYes X117.here hx rfl (pc0 := 163) (pc' := 170) rfl (hb hby at_163) rfl (feq (by decide : ¬ ((0 : Int32) = (1 : Int32)))).2 (by decide) (by decide) ?_
                  exact k
                have pre125 : ∀ t, Steps p.tables e below (T117.setTop (mkF m 171 #[.val (.long q1), .second, .val (.int p2), .val (.int (p2 &&& (63 : Int32))), .val (.int ((p2 &&& (63 : Int32)) &&& (7 : Int32))), .val (.int (((p2 &&& (63 : Int32)).toUInt32 >>> ((3 : Int32) &&& 31).toUInt32).toInt32)), .val (.int (1 : Int32)), .val (.long (F2 q1)), .second, .val (.int (0 : Int32))] [(.int (0 : Int32))])) t → Steps p.tables e below (s₁.setTop (entryFrame m #[(.long q1), (.int p2)] maxLocals)) t := by
                  intro t k
                  refine pre124 _ ?_
                  show Steps p.tables e below (T117.setTop (mkF m 170 #[.val (.long q1), .second, .val (.int p2), .val (.int (p2 &&& (63 : Int32))), .val (.int ((p2 &&& (63 : Int32)) &&& (7 : Int32))), .val (.int (((p2 &&& (63 : Int32)).toUInt32 >>> ((3 : Int32) &&& 31).toUInt32).toInt32)), .val (.int (1 : Int32)), .val (.long (F2 q1)), .second, .val (.int (0 : Int32))] [])) _
                  refine XS.iconst X117.here hx rfl (hb hby at_170) ?_
                  exact k
                obtain ⟨fs, hr, hrun, hended, hW, hsame⟩ := X117.leave (v := some (.int (0 : Int32))) (fun h => by rw [Bd.returns] at h; cases h)
                refine ⟨_, _, pre125 _ ?_, hrun, hended, _, _, rfl, ?_, ⟨_, rfl⟩, hW, hsame.mono (by decide) (by decide)⟩
                · show Steps p.tables e below (T117.setTop (mkF m 171 #[.val (.long q1), .second, .val (.int p2), .val (.int (p2 &&& (63 : Int32))), .val (.int ((p2 &&& (63 : Int32)) &&& (7 : Int32))), .val (.int (((p2 &&& (63 : Int32)).toUInt32 >>> ((3 : Int32) &&& 31).toUInt32).toInt32)), .val (.int (1 : Int32)), .val (.long (F2 q1)), .second, .val (.int (0 : Int32))] [(.int (0 : Int32))])) _
                  exact retN X117 hx (t := .boolean) Bd.returns (by simp) (hb hby at_171) hr
                · show Q0 Z q1 p2 h0 n0 _ T117.heap _
                  rw [e117]
                  exact ⟨(by rw [F0, if_pos hc31, if_pos hc36, if_pos hc41, if_pos hc46, if_pos hc51, if_neg hc56, if_pos hc120]), N117, rfl⟩
              · have pre126 : ∀ t, Steps p.tables e below (T117.setTop (mkF m 152 #[.val (.long q1), .second, .val (.int p2), .val (.int (p2 &&& (63 : Int32))), .val (.int ((p2 &&& (63 : Int32)) &&& (7 : Int32))), .val (.int (((p2 &&& (63 : Int32)).toUInt32 >>> ((3 : Int32) &&& 31).toUInt32).toInt32)), .val (.int (1 : Int32)), .val (.long (F2 q1)), .second, .unset] [])) t → Steps p.tables e below (s₁.setTop (entryFrame m #[(.long q1), (.int p2)] maxLocals)) t := by
                  intro t k
                  refine pre119 _ ?_
                  show Steps p.tables e below (T117.setTop (mkF m 149 #[.val (.long q1), .second, .val (.int p2), .val (.int (p2 &&& (63 : Int32))), .val (.int ((p2 &&& (63 : Int32)) &&& (7 : Int32))), .val (.int (((p2 &&& (63 : Int32)).toUInt32 >>> ((3 : Int32) &&& 31).toUInt32).toInt32)), .val (.int (1 : Int32)), .val (.long (F2 q1)), .second, .unset] [(.int (lcmpW ((((F2 q1).toUInt64 >>> ((p2 &&& (63 : Int32)) &&& 0x3f).toInt64.toUInt64).toInt64) &&& (1 : Int64)) (0 : Int64)))])) _
                  refine XS.ifNo X117.here hx rfl (hb hby at_149) rfl ((if0 _ _).trans (feq hc120).1) ?_
                  exact k
                have pre127 : ∀ t, Steps p.tables e below (T117.setTop (mkF m 163 #[.val (.long q1), .second, .val (.int p2), .val (.int (p2 &&& (63 : Int32))), .val (.int ((p2 &&& (63 : Int32)) &&& (7 : Int32))), .val (.int (((p2 &&& (63 : Int32)).toUInt32 >>> ((3 : Int32) &&& 31).toUInt32).toInt32)), .val (.int (1 : Int32)), .val (.long (F2 q1)), .second, .val (.int (1 : Int32))] [(.int (1 : Int32)), (.int (1 : Int32))])) t → Steps p.tables e below (s₁.setTop (entryFrame m #[(.long q1), (.int p2)] maxLocals)) t := by
                  intro t k
                  refine pre126 _ ?_
                  show Steps p.tables e below (T117.setTop (mkF m 152 #[.val (.long q1), .second, .val (.int p2), .val (.int (p2 &&& (63 : Int32))), .val (.int ((p2 &&& (63 : Int32)) &&& (7 : Int32))), .val (.int (((p2 &&& (63 : Int32)).toUInt32 >>> ((3 : Int32) &&& 31).toUInt32).toInt32)), .val (.int (1 : Int32)), .val (.long (F2 q1)), .second, .unset] [])) _
                  refine XS.iconst X117.here hx rfl (hb hby at_152) ?_
                  show Steps p.tables e below (T117.setTop (mkF m 153 #[.val (.long q1), .second, .val (.int p2), .val (.int (p2 &&& (63 : Int32))), .val (.int ((p2 &&& (63 : Int32)) &&& (7 : Int32))), .val (.int (((p2 &&& (63 : Int32)).toUInt32 >>> ((3 : Int32) &&& 31).toUInt32).toInt32)), .val (.int (1 : Int32)), .val (.long (F2 q1)), .second, .unset] [(.int (1 : Int32))])) _
                  refine XS.goto X117.here hx rfl (pc0 := 153) (pc' := 157) rfl (hb hby at_153) (by decide) (by decide) ?_
                  show Steps p.tables e below (T117.setTop (mkF m 157 #[.val (.long q1), .second, .val (.int p2), .val (.int (p2 &&& (63 : Int32))), .val (.int ((p2 &&& (63 : Int32)) &&& (7 : Int32))), .val (.int (((p2 &&& (63 : Int32)).toUInt32 >>> ((3 : Int32) &&& 31).toUInt32).toInt32)), .val (.int (1 : Int32)), .val (.long (F2 q1)), .second, .unset] [(.int (1 : Int32))])) _
                  refine XS.istore X117.here hx rfl (hb hby at_157) rfl (l' := #[.val (.long q1), .second, .val (.int p2), .val (.int (p2 &&& (63 : Int32))), .val (.int ((p2 &&& (63 : Int32)) &&& (7 : Int32))), .val (.int (((p2 &&& (63 : Int32)).toUInt32 >>> ((3 : Int32) &&& 31).toUInt32).toInt32)), .val (.int (1 : Int32)), .val (.long (F2 q1)), .second, .val (.int (1 : Int32))]) rfl ?_
                  show Steps p.tables e below (T117.setTop (mkF m 159 #[.val (.long q1), .second, .val (.int p2), .val (.int (p2 &&& (63 : Int32))), .val (.int ((p2 &&& (63 : Int32)) &&& (7 : Int32))), .val (.int (((p2 &&& (63 : Int32)).toUInt32 >>> ((3 : Int32) &&& 31).toUInt32).toInt32)), .val (.int (1 : Int32)), .val (.long (F2 q1)), .second, .val (.int (1 : Int32))] [])) _
                  refine XS.iload X117.here hx rfl (hb hby at_159) rfl ?_
                  show Steps p.tables e below (T117.setTop (mkF m 161 #[.val (.long q1), .second, .val (.int p2), .val (.int (p2 &&& (63 : Int32))), .val (.int ((p2 &&& (63 : Int32)) &&& (7 : Int32))), .val (.int (((p2 &&& (63 : Int32)).toUInt32 >>> ((3 : Int32) &&& 31).toUInt32).toInt32)), .val (.int (1 : Int32)), .val (.long (F2 q1)), .second, .val (.int (1 : Int32))] [(.int (1 : Int32))])) _
                  refine XS.iload X117.here hx rfl (hb hby at_161) rfl ?_
                  exact k
                have pre129 : ∀ t, Steps p.tables e below (T117.setTop (mkF m 166 #[.val (.long q1), .second, .val (.int p2), .val (.int (p2 &&& (63 : Int32))), .val (.int ((p2 &&& (63 : Int32)) &&& (7 : Int32))), .val (.int (((p2 &&& (63 : Int32)).toUInt32 >>> ((3 : Int32) &&& 31).toUInt32).toInt32)), .val (.int (1 : Int32)), .val (.long (F2 q1)), .second, .val (.int (1 : Int32))] [])) t → Steps p.tables e below (s₁.setTop (entryFrame m #[(.long q1), (.int p2)] maxLocals)) t := by
                  intro t k
                  refine pre127 _ ?_
                  show Steps p.tables e below (T117.setTop (mkF m 163 #[.val (.long q1), .second, .val (.int p2), .val (.int (p2 &&& (63 : Int32))), .val (.int ((p2 &&& (63 : Int32)) &&& (7 : Int32))), .val (.int (((p2 &&& (63 : Int32)).toUInt32 >>> ((3 : Int32) &&& 31).toUInt32).toInt32)), .val (.int (1 : Int32)), .val (.long (F2 q1)), .second, .val (.int (1 : Int32))] [(.int (1 : Int32)), (.int (1 : Int32))])) _
                  refine XS.icmpNo X117.here hx rfl (hb hby at_163) rfl (teq (by decide : (1 : Int32) = (1 : Int32))).2 ?_
                  exact k
                have pre130 : ∀ t, Steps p.tables e below (T117.setTop (mkF m 171 #[.val (.long q1), .second, .val (.int p2), .val (.int (p2 &&& (63 : Int32))), .val (.int ((p2 &&& (63 : Int32)) &&& (7 : Int32))), .val (.int (((p2 &&& (63 : Int32)).toUInt32 >>> ((3 : Int32) &&& 31).toUInt32).toInt32)), .val (.int (1 : Int32)), .val (.long (F2 q1)), .second, .val (.int (1 : Int32))] [(.int (1 : Int32))])) t → Steps p.tables e below (s₁.setTop (entryFrame m #[(.long q1), (.int p2)] maxLocals)) t := by
                  intro t k
                  refine pre129 _ ?_
                  show Steps p.tables e below (T117.setTop (mkF m 166 #[.val (.long q1), .second, .val (.int p2), .val (.int (p2 &&& (63 : Int32))), .val (.int ((p2 &&& (63 : Int32)) &&& (7 : Int32))), .val (.int (((p2 &&& (63 : Int32)).toUInt32 >>> ((3 : Int32) &&& 31).toUInt32).toInt32)), .val (.int (1 : Int32)), .val (.long (F2 q1)), .second, .val (.int (1 : Int32))] [])) _
                  refine XS.iconst X117.here hx rfl (hb hby at_166) ?_
                  show Steps p.tables e below (T117.setTop (mkF m 167 #[.val (.long q1), .second, .val (.int p2), .val (.int (p2 &&& (63 : Int32))), .val (.int ((p2 &&& (63 : Int32)) &&& (7 : Int32))), .val (.int (((p2 &&& (63 : Int32)).toUInt32 >>> ((3 : Int32) &&& 31).toUInt32).toInt32)), .val (.int (1 : Int32)), .val (.long (F2 q1)), .second, .val (.int (1 : Int32))] [(.int (1 : Int32))])) _
                  refine XS.goto X117.here hx rfl (pc0 := 167) (pc' := 171) rfl (hb hby at_167) (by decide) (by decide) ?_
                  exact k
                obtain ⟨fs, hr, hrun, hended, hW, hsame⟩ := X117.leave (v := some (.int (1 : Int32))) (fun h => by rw [Bd.returns] at h; cases h)
                refine ⟨_, _, pre130 _ ?_, hrun, hended, _, _, rfl, ?_, ⟨_, rfl⟩, hW, hsame.mono (by decide) (by decide)⟩
                · show Steps p.tables e below (T117.setTop (mkF m 171 #[.val (.long q1), .second, .val (.int p2), .val (.int (p2 &&& (63 : Int32))), .val (.int ((p2 &&& (63 : Int32)) &&& (7 : Int32))), .val (.int (((p2 &&& (63 : Int32)).toUInt32 >>> ((3 : Int32) &&& 31).toUInt32).toInt32)), .val (.int (1 : Int32)), .val (.long (F2 q1)), .second, .val (.int (1 : Int32))] [(.int (1 : Int32))])) _
                  exact retN X117 hx (t := .boolean) Bd.returns (by simp) (hb hby at_171) hr
                · show Q0 Z q1 p2 h0 n0 _ T117.heap _
                  rw [e117]
                  exact ⟨(by rw [F0, if_pos hc31, if_pos hc36, if_pos hc41, if_pos hc46, if_pos hc51, if_neg hc56, if_neg hc120]), N117, rfl⟩
          · have pre131 : ∀ t, Steps p.tables e below (T49.setTop (mkF m 128 #[.val (.long q1), .second, .val (.int p2), .val (.int (p2 &&& (63 : Int32))), .val (.int ((p2 &&& (63 : Int32)) &&& (7 : Int32))), .val (.int (((p2 &&& (63 : Int32)).toUInt32 >>> ((3 : Int32) &&& 31).toUInt32).toInt32)), .unset, .unset, .unset, .unset] [])) t → Steps p.tables e below (s₁.setTop (entryFrame m #[(.long q1), (.int p2)] maxLocals)) t := by
              intro t k
              refine pre50 _ ?_
              show Steps p.tables e below (T49.setTop (mkF m 82 #[.val (.long q1), .second, .val (.int p2), .val (.int (p2 &&& (63 : Int32))), .val (.int ((p2 &&& (63 : Int32)) &&& (7 : Int32))), .val (.int (((p2 &&& (63 : Int32)).toUInt32 >>> ((3 : Int32) &&& 31).toUInt32).toInt32)), .unset, .unset, .unset, .unset] [(.int (F1 q1 (((p2 &&& (63 : Int32)) &&& (7 : Int32)) + (1 : Int32)) (((p2 &&& (63 : Int32)).toUInt32 >>> ((3 : Int32) &&& 31).toUInt32).toInt32)))])) _
              refine XS.ifYes X49.here hx rfl (pc0 := 82) (pc' := 128) rfl (hb hby at_82) rfl ((if0 _ _).trans (feq hc51).2) (by decide) (by decide) ?_
              exact k
            have pre132 : ∀ t, Steps p.tables e below (T49.setTop (mkF m 136 #[.val (.long q1), .second, .val (.int p2), .val (.int (p2 &&& (63 : Int32))), .val (.int ((p2 &&& (63 : Int32)) &&& (7 : Int32))), .val (.int (((p2 &&& (63 : Int32)).toUInt32 >>> ((3 : Int32) &&& 31).toUInt32).toInt32)), .val (.int (1 : Int32)), .unset, .unset, .unset] [(.long q1)])) t → Steps p.tables e below (s₁.setTop (entryFrame m #[(.long q1), (.int p2)] maxLocals)) t := by
              intro t k
              refine pre131 _ ?_
              show Steps p.tables e below (T49.setTop (mkF m 128 #[.val (.long q1), .second, .val (.int p2), .val (.int (p2 &&& (63 : Int32))), .val (.int ((p2 &&& (63 : Int32)) &&& (7 : Int32))), .val (.int (((p2 &&& (63 : Int32)).toUInt32 >>> ((3 : Int32) &&& 31).toUInt32).toInt32)), .unset, .unset, .unset, .unset] [])) _
              refine XS.iconst X49.here hx rfl (hb hby at_128) ?_
              show Steps p.tables e below (T49.setTop (mkF m 129 #[.val (.long q1), .second, .val (.int p2), .val (.int (p2 &&& (63 : Int32))), .val (.int ((p2 &&& (63 : Int32)) &&& (7 : Int32))), .val (.int (((p2 &&& (63 : Int32)).toUInt32 >>> ((3 : Int32) &&& 31).toUInt32).toInt32)), .unset, .unset, .unset, .unset] [(.int (1 : Int32))])) _
              refine XS.goto X49.here hx rfl (pc0 := 129) (pc' := 133) rfl (hb hby at_129) (by decide) (by decide) ?_
              show Steps p.tables e below (T49.setTop (mkF m 133 #[.val (.long q1), .second, .val (.int p2), .val (.int (p2 &&& (63 : Int32))), .val (.int ((p2 &&& (63 : Int32)) &&& (7 : Int32))), .val (.int (((p2 &&& (63 : Int32)).toUInt32 >>> ((3 : Int32) &&& 31).toUInt32).toInt32)), .unset, .unset, .unset, .unset] [(.int (1 : Int32))])) _
              refine XS.istore X49.here hx rfl (hb hby at_133) rfl (l' := #[.val (.long q1), .second, .val (.int p2), .val (.int (p2 &&& (63 : Int32))), .val (.int ((p2 &&& (63 : Int32)) &&& (7 : Int32))), .val (.int (((p2 &&& (63 : Int32)).toUInt32 >>> ((3 : Int32) &&& 31).toUInt32).toInt32)), .val (.int (1 : Int32)), .unset, .unset, .unset]) rfl ?_
              show Steps p.tables e below (T49.setTop (mkF m 135 #[.val (.long q1), .second, .val (.int p2), .val (.int (p2 &&& (63 : Int32))), .val (.int ((p2 &&& (63 : Int32)) &&& (7 : Int32))), .val (.int (((p2 &&& (63 : Int32)).toUInt32 >>> ((3 : Int32) &&& 31).toUInt32).toInt32)), .val (.int (1 : Int32)), .unset, .unset, .unset] [])) _
              refine XS.lloadN X49.here hx rfl (hb hby at_135) rfl ?_
              exact k
            obtain ⟨_, _, ⟨T133, L133, k133, n133⟩, -, X133, ⟨Lc133, hQ133, l133, y133, z133⟩, st133⟩ := Jvm.LawKit.callS X49 hx (y := (⟨"com/example/tabuleiro/tabuleiro/othello/OthelloPosition", "neighbours", "(J)J"⟩ : MethodName)) hown (mvT hZ (hw _ (List.mem_of_getElem? (i := 4) rfl))) (mvT hZ (hw _ (List.mem_of_getElem? (i := 5) rfl))) (mvT hZ (hw _ (List.mem_of_getElem? (i := 6) rfl))) (mvT hZ (hw _ (List.mem_of_getElem? (i := 7) rfl))) (by decide) (backOf (W := 0) (rm2 l Z a0 hw [] q1 h0 n0 Z0 ) hZ (hw _ (List.mem_of_getElem? (i := 7) rfl)) (hw _ (List.mem_of_getElem? (i := 6) rfl)) (by decide) (by decide)) (g := (mkF m 136 #[.val (.long q1), .second, .val (.int p2), .val (.int (p2 &&& (63 : Int32))), .val (.int ((p2 &&& (63 : Int32)) &&& (7 : Int32))), .val (.int (((p2 &&& (63 : Int32)).toUInt32 >>> ((3 : Int32) &&& 31).toUInt32).toInt32)), .val (.int (1 : Int32)), .unset, .unset, .unset] [(.long q1)])) rfl (by rw [hml]; rfl) (argsL := [(.long q1)]) (rest := []) (lenOf pd__J_J rfl) rfl (by show 2 * 0 + _ ≤ _; exact Nat.le_of_eq rfl) (hb hby at_136) (fun _ _ => ⟨rfl, e49, (by decide : 0 + 0 ≤ _), (by decide : 0 + 0 ≤ _)⟩)
            dsimp only [Pt.U, Pt.locs, Pt.cells, Pt.slots] at X133 l133 y133 z133 st133 hQ133
            subst l133 y133 z133
            obtain ⟨rfl, N133q, e133⟩ := hQ133
            have N133 := Fr.app N49 N133q
            have pre134 : ∀ t, Steps p.tables e below (T133.setTop (mkF m 139 #[.val (.long q1), .second, .val (.int p2), .val (.int (p2 &&& (63 : Int32))), .val (.int ((p2 &&& (63 : Int32)) &&& (7 : Int32))), .val (.int (((p2 &&& (63 : Int32)).toUInt32 >>> ((3 : Int32) &&& 31).toUInt32).toInt32)), .val (.int (1 : Int32)), .unset, .unset, .unset] [(.long (F2 q1))])) t → Steps p.tables e below (s₁.setTop (entryFrame m #[(.long q1), (.int p2)] maxLocals)) t := by
              intro t k
              refine pre132 _ ?_
              show Steps p.tables e below (T49.setTop (mkF m 136 #[.val (.long q1), .second, .val (.int p2), .val (.int (p2 &&& (63 : Int32))), .val (.int ((p2 &&& (63 : Int32)) &&& (7 : Int32))), .val (.int (((p2 &&& (63 : Int32)).toUInt32 >>> ((3 : Int32) &&& 31).toUInt32).toInt32)), .val (.int (1 : Int32)), .unset, .unset, .unset] [(.long q1)])) _
              refine st133 _ ?_
              exact k
            have pre135 : ∀ t, Steps p.tables e below (T133.setTop (mkF m 149 #[.val (.long q1), .second, .val (.int p2), .val (.int (p2 &&& (63 : Int32))), .val (.int ((p2 &&& (63 : Int32)) &&& (7 : Int32))), .val (.int (((p2 &&& (63 : Int32)).toUInt32 >>> ((3 : Int32) &&& 31).toUInt32).toInt32)), .val (.int (1 : Int32)), .val (.long (F2 q1)), .second, .unset] [(.int (lcmpW ((((F2 q1).toUInt64 >>> ((p2 &&& (63 : Int32)) &&& 0x3f).toInt64.toUInt64).toInt64) &&& (1 : Int64)) (0 : Int64)))])) t → Steps p.tables e below (s₁.setTop (entryFrame m #[(.long q1), (.int p2)] maxLocals)) t := by
              intro t k
              refine pre134 _ ?_
              show Steps p.tables e below (T133.setTop (mkF m 139 #[.val (.long q1), .second, .val (.int p2), .val (.int (p2 &&& (63 : Int32))), .val (.int ((p2 &&& (63 : Int32)) &&& (7 : Int32))), .val (.int (((p2 &&& (63 : Int32)).toUInt32 >>> ((3 : Int32) &&& 31).toUInt32).toInt32)), .val (.int (1 : Int32)), .unset, .unset, .unset] [(.long (F2 q1))])) _
              refine XS.lstore X133.here hx rfl (hb hby at_139) rfl (l' := #[.val (.long q1), .second, .val (.int p2), .val (.int (p2 &&& (63 : Int32))), .val (.int ((p2 &&& (63 : Int32)) &&& (7 : Int32))), .val (.int (((p2 &&& (63 : Int32)).toUInt32 >>> ((3 : Int32) &&& 31).toUInt32).toInt32)), .val (.int (1 : Int32)), .val (.long (F2 q1)), .second, .unset]) rfl ?_
              show Steps p.tables e below (T133.setTop (mkF m 141 #[.val (.long q1), .second, .val (.int p2), .val (.int (p2 &&& (63 : Int32))), .val (.int ((p2 &&& (63 : Int32)) &&& (7 : Int32))), .val (.int (((p2 &&& (63 : Int32)).toUInt32 >>> ((3 : Int32) &&& 31).toUInt32).toInt32)), .val (.int (1 : Int32)), .val (.long (F2 q1)), .second, .unset] [])) _
              refine XS.lload X133.here hx rfl (hb hby at_141) rfl ?_
              show Steps p.tables e below (T133.setTop (mkF m 143 #[.val (.long q1), .second, .val (.int p2), .val (.int (p2 &&& (63 : Int32))), .val (.int ((p2 &&& (63 : Int32)) &&& (7 : Int32))), .val (.int (((p2 &&& (63 : Int32)).toUInt32 >>> ((3 : Int32) &&& 31).toUInt32).toInt32)), .val (.int (1 : Int32)), .val (.long (F2 q1)), .second, .unset] [(.long (F2 q1))])) _
              refine XS.iloadN X133.here hx rfl (hb hby at_143) rfl ?_
              show Steps p.tables e below (T133.setTop (mkF m 144 #[.val (.long q1), .second, .val (.int p2), .val (.int (p2 &&& (63 : Int32))), .val (.int ((p2 &&& (63 : Int32)) &&& (7 : Int32))), .val (.int (((p2 &&& (63 : Int32)).toUInt32 >>> ((3 : Int32) &&& 31).toUInt32).toInt32)), .val (.int (1 : Int32)), .val (.long (F2 q1)), .second, .unset] [(.int (p2 &&& (63 : Int32))), (.long (F2 q1))])) _
              refine XS.lushr X133.here hx rfl (hb hby at_144) rfl ?_
              show Steps p.tables e below (T133.setTop (mkF m 145 #[.val (.long q1), .second, .val (.int p2), .val (.int (p2 &&& (63 : Int32))), .val (.int ((p2 &&& (63 : Int32)) &&& (7 : Int32))), .val (.int (((p2 &&& (63 : Int32)).toUInt32 >>> ((3 : Int32) &&& 31).toUInt32).toInt32)), .val (.int (1 : Int32)), .val (.long (F2 q1)), .second, .unset] [(.long (((F2 q1).toUInt64 >>> ((p2 &&& (63 : Int32)) &&& 0x3f).toInt64.toUInt64).toInt64))])) _
              refine XS.lconst X133.here hx rfl (hb hby at_145) ?_
              show Steps p.tables e below (T133.setTop (mkF m 146 #[.val (.long q1), .second, .val (.int p2), .val (.int (p2 &&& (63 : Int32))), .val (.int ((p2 &&& (63 : Int32)) &&& (7 : Int32))), .val (.int (((p2 &&& (63 : Int32)).toUInt32 >>> ((3 : Int32) &&& 31).toUInt32).toInt32)), .val (.int (1 : Int32)), .val (.long (F2 q1)), .second, .unset] [(.long (1 : Int64)), (.long (((F2 q1).toUInt64 >>> ((p2 &&& (63 : Int32)) &&& 0x3f).toInt64.toUInt64).toInt64))])) _
              refine XS.land X133.here hx rfl (hb hby at_146) rfl ?_
              show Steps p.tables e below (T133.setTop (mkF m 147 #[.val (.long q1), .second, .val (.int p2), .val (.int (p2 &&& (63 : Int32))), .val (.int ((p2 &&& (63 : Int32)) &&& (7 : Int32))), .val (.int (((p2 &&& (63 : Int32)).toUInt32 >>> ((3 : Int32) &&& 31).toUInt32).toInt32)), .val (.int (1 : Int32)), .val (.long (F2 q1)), .second, .unset] [(.long ((((F2 q1).toUInt64 >>> ((p2 &&& (63 : Int32)) &&& 0x3f).toInt64.toUInt64).toInt64) &&& (1 : Int64)))])) _
              refine XS.lconst X133.here hx rfl (hb hby at_147) ?_
              show Steps p.tables e below (T133.setTop (mkF m 148 #[.val (.long q1), .second, .val (.int p2), .val (.int (p2 &&& (63 : Int32))), .val (.int ((p2 &&& (63 : Int32)) &&& (7 : Int32))), .val (.int (((p2 &&& (63 : Int32)).toUInt32 >>> ((3 : Int32) &&& 31).toUInt32).toInt32)), .val (.int (1 : Int32)), .val (.long (F2 q1)), .second, .unset] [(.long (0 : Int64)), (.long ((((F2 q1).toUInt64 >>> ((p2 &&& (63 : Int32)) &&& 0x3f).toInt64.toUInt64).toInt64) &&& (1 : Int64)))])) _
              refine XS.lcmp X133.here hx rfl (hb hby at_148) rfl ?_
              exact k
            by_cases hc136 : (lcmpW ((((F2 q1).toUInt64 >>> ((p2 &&& (63 : Int32)) &&& 0x3f).toInt64.toUInt64).toInt64) &&& (1 : Int64)) (0 : Int64)) = (0 : Int32)
            · have pre137 : ∀ t, Steps p.tables e below (T133.setTop (mkF m 156 #[.val (.long q1), .second, .val (.int p2), .val (.int (p2 &&& (63 : Int32))), .val (.int ((p2 &&& (63 : Int32)) &&& (7 : Int32))), .val (.int (((p2 &&& (63 : Int32)).toUInt32 >>> ((3 : Int32) &&& 31).toUInt32).toInt32)), .val (.int (1 : Int32)), .val (.long (F2 q1)), .second, .unset] [])) t → Steps p.tables e below (s₁.setTop (entryFrame m #[(.long q1), (.int p2)] maxLocals)) t := by
                intro t k
                refine pre135 _ ?_
                show Steps p.tables e below (T133.setTop (mkF m 149 #[.val (.long q1), .second, .val (.int p2), .val (.int (p2 &&& (63 : Int32))), .val (.int ((p2 &&& (63 : Int32)) &&& (7 : Int32))), .val (.int (((p2 &&& (63 : Int32)).toUInt32 >>> ((3 : Int32) &&& 31).toUInt32).toInt32)), .val (.int (1 : Int32)), .val (.long (F2 q1)), .second, .unset] [(.int (lcmpW ((((F2 q1).toUInt64 >>> ((p2 &&& (63 : Int32)) &&& 0x3f).toInt64.toUInt64).toInt64) &&& (1 : Int64)) (0 : Int64)))])) _
                refine XS.ifYes X133.here hx rfl (pc0 := 149) (pc' := 156) rfl (hb hby at_149) rfl ((if0 _ _).trans (teq hc136).1) (by decide) (by decide) ?_
                exact k
              have pre138 : ∀ t, Steps p.tables e below (T133.setTop (mkF m 163 #[.val (.long q1), .second, .val (.int p2), .val (.int (p2 &&& (63 : Int32))), .val (.int ((p2 &&& (63 : Int32)) &&& (7 : Int32))), .val (.int (((p2 &&& (63 : Int32)).toUInt32 >>> ((3 : Int32) &&& 31).toUInt32).toInt32)), .val (.int (1 : Int32)), .val (.long (F2 q1)), .second, .val (.int (0 : Int32))] [(.int (1 : Int32)), (.int (0 : Int32))])) t → Steps p.tables e below (s₁.setTop (entryFrame m #[(.long q1), (.int p2)] maxLocals)) t := by
                intro t k
                refine pre137 _ ?_
                show Steps p.tables e below (T133.setTop (mkF m 156 #[.val (.long q1), .second, .val (.int p2), .val (.int (p2 &&& (63 : Int32))), .val (.int ((p2 &&& (63 : Int32)) &&& (7 : Int32))), .val (.int (((p2 &&& (63 : Int32)).toUInt32 >>> ((3 : Int32) &&& 31).toUInt32).toInt32)), .val (.int (1 : Int32)), .val (.long (F2 q1)), .second, .unset] [])) _
                refine XS.iconst X133.here hx rfl (hb hby at_156) ?_
                show Steps p.tables e below (T133.setTop (mkF m 157 #[.val (.long q1), .second, .val (.int p2), .val (.int (p2 &&& (63 : Int32))), .val (.int ((p2 &&& (63 : Int32)) &&& (7 : Int32))), .val (.int (((p2 &&& (63 : Int32)).toUInt32 >>> ((3 : Int32) &&& 31).toUInt32).toInt32)), .val (.int (1 : Int32)), .val (.long (F2 q1)), .second, .unset] [(.int (0 : Int32))])) _
                refine XS.istore X133.here hx rfl (hb hby at_157) rfl (l' := #[.val (.long q1), .second, .val (.int p2), .val (.int (p2 &&& (63 : Int32))), .val (.int ((p2 &&& (63 : Int32)) &&& (7 : Int32))), .val (.int (((p2 &&& (63 : Int32)).toUInt32 >>> ((3 : Int32) &&& 31).toUInt32).toInt32)), .val (.int (1 : Int32)), .val (.long (F2 q1)), .second, .val (.int (0 : Int32))]) rfl ?_
                show Steps p.tables e below (T133.setTop (mkF m 159 #[.val (.long q1), .second, .val (.int p2), .val (.int (p2 &&& (63 : Int32))), .val (.int ((p2 &&& (63 : Int32)) &&& (7 : Int32))), .val (.int (((p2 &&& (63 : Int32)).toUInt32 >>> ((3 : Int32) &&& 31).toUInt32).toInt32)), .val (.int (1 : Int32)), .val (.long (F2 q1)), .second, .val (.int (0 : Int32))] [])) _
                refine XS.iload X133.here hx rfl (hb hby at_159) rfl ?_
                show Steps p.tables e below (T133.setTop (mkF m 161 #[.val (.long q1), .second, .val (.int p2), .val (.int (p2 &&& (63 : Int32))), .val (.int ((p2 &&& (63 : Int32)) &&& (7 : Int32))), .val (.int (((p2 &&& (63 : Int32)).toUInt32 >>> ((3 : Int32) &&& 31).toUInt32).toInt32)), .val (.int (1 : Int32)), .val (.long (F2 q1)), .second, .val (.int (0 : Int32))] [(.int (0 : Int32))])) _
                refine XS.iload X133.here hx rfl (hb hby at_161) rfl ?_
                exact k
              have pre140 : ∀ t, Steps p.tables e below (T133.setTop (mkF m 170 #[.val (.long q1), .second, .val (.int p2), .val (.int (p2 &&& (63 : Int32))), .val (.int ((p2 &&& (63 : Int32)) &&& (7 : Int32))), .val (.int (((p2 &&& (63 : Int32)).toUInt32 >>> ((3 : Int32) &&& 31).toUInt32).toInt32)), .val (.int (1 : Int32)), .val (.long (F2 q1)), .second, .val (.int (0 : Int32))] [])) t → Steps p.tables e below (s₁.setTop (entryFrame m #[(.long q1), (.int p2)] maxLocals)) t := by
                intro t k
                refine pre138 _ ?_
                show Steps p.tables e below (T133.setTop (mkF m 163 #[.val (.long q1), .second, .val (.int p2), .val (.int (p2 &&& (63 : Int32))), .val (.int ((p2 &&& (63 : Int32)) &&& (7 : Int32))), .val (.int (((p2 &&& (63 : Int32)).toUInt32 >>> ((3 : Int32) &&& 31).toUInt32).toInt32)), .val (.int (1 : Int32)), .val (.long (F2 q1)), .second, .val (.int (0 : Int32))] [(.int (1 : Int32)), (.int (0 : Int32))])) _
                refine XS.icmpYes X133.here hx rfl (pc0 := 163) (pc' := 170) rfl (hb hby at_163) rfl (feq (by decide : ¬ ((0 : Int32) = (1 : Int32)))).2 (by decide) (by decide) ?_
                exact k
              have pre141 : ∀ t, Steps p.tables e below (T133.setTop (mkF m 171 #[.val (.long q1), .second, .val (.int p2), .val (.int (p2 &&& (63 : Int32))), .val (.int ((p2 &&& (63 : Int32)) &&& (7 : Int32))), .val (.int (((p2 &&& (63 : Int32)).toUInt32 >>> ((3 : Int32) &&& 31).toUInt32).toInt32)), .val (.int (1 : Int32)), .val (.long (F2 q1)), .second, .val (.int (0 : Int32))] [(.int (0 : Int32))])) t → Steps p.tables e below (s₁.setTop (entryFrame m #[(.long q1), (.int p2)] maxLocals)) t := by
                intro t k
                refine pre140 _ ?_
                show Steps p.tables e below (T133.setTop (mkF m 170 #[.val (.long q1), .second, .val (.int p2), .val (.int (p2 &&& (63 : Int32))), .val (.int ((p2 &&& (63 : Int32)) &&& (7 : Int32))), .val (.int (((p2 &&& (63 : Int32)).toUInt32 >>> ((3 : Int32) &&& 31).toUInt32).toInt32)), .val (.int (1 : Int32)), .val (.long (F2 q1)), .second, .val (.int (0 : Int32))] [])) _
                refine XS.iconst X133.here hx rfl (hb hby at_170) ?_
                exact k
              obtain ⟨fs, hr, hrun, hended, hW, hsame⟩ := X133.leave (v := some (.int (0 : Int32))) (fun h => by rw [Bd.returns] at h; cases h)
              refine ⟨_, _, pre141 _ ?_, hrun, hended, _, _, rfl, ?_, ⟨_, rfl⟩, hW, hsame.mono (by decide) (by decide)⟩
              · show Steps p.tables e below (T133.setTop (mkF m 171 #[.val (.long q1), .second, .val (.int p2), .val (.int (p2 &&& (63 : Int32))), .val (.int ((p2 &&& (63 : Int32)) &&& (7 : Int32))), .val (.int (((p2 &&& (63 : Int32)).toUInt32 >>> ((3 : Int32) &&& 31).toUInt32).toInt32)), .val (.int (1 : Int32)), .val (.long (F2 q1)), .second, .val (.int (0 : Int32))] [(.int (0 : Int32))])) _
                exact retN X133 hx (t := .boolean) Bd.returns (by simp) (hb hby at_171) hr
              · show Q0 Z q1 p2 h0 n0 _ T133.heap _
                rw [e133]
                exact ⟨(by rw [F0, if_pos hc31, if_pos hc36, if_pos hc41, if_pos hc46, if_neg hc51, if_pos hc136]), N133, rfl⟩
            · have pre142 : ∀ t, Steps p.tables e below (T133.setTop (mkF m 152 #[.val (.long q1), .second, .val (.int p2), .val (.int (p2 &&& (63 : Int32))), .val (.int ((p2 &&& (63 : Int32)) &&& (7 : Int32))), .val (.int (((p2 &&& (63 : Int32)).toUInt32 >>> ((3 : Int32) &&& 31).toUInt32).toInt32)), .val (.int (1 : Int32)), .val (.long (F2 q1)), .second, .unset] [])) t → Steps p.tables e below (s₁.setTop (entryFrame m #[(.long q1), (.int p2)] maxLocals)) t := by
                intro t k
                refine pre135 _ ?_
                show Steps p.tables e below (T133.setTop (mkF m 149 #[.val (.long q1), .second, .val (.int p2), .val (.int (p2 &&& (63 : Int32))), .val (.int ((p2 &&& (63 : Int32)) &&& (7 : Int32))), .val (.int (((p2 &&& (63 : Int32)).toUInt32 >>> ((3 : Int32) &&& 31).toUInt32).toInt32)), .val (.int (1 : Int32)), .val (.long (F2 q1)), .second, .unset] [(.int (lcmpW ((((F2 q1).toUInt64 >>> ((p2 &&& (63 : Int32)) &&& 0x3f).toInt64.toUInt64).toInt64) &&& (1 : Int64)) (0 : Int64)))])) _
                refine XS.ifNo X133.here hx rfl (hb hby at_149) rfl ((if0 _ _).trans (feq hc136).1) ?_
                exact k
              have pre143 : ∀ t, Steps p.tables e below (T133.setTop (mkF m 163 #[.val (.long q1), .second, .val (.int p2), .val (.int (p2 &&& (63 : Int32))), .val (.int ((p2 &&& (63 : Int32)) &&& (7 : Int32))), .val (.int (((p2 &&& (63 : Int32)).toUInt32 >>> ((3 : Int32) &&& 31).toUInt32).toInt32)), .val (.int (1 : Int32)), .val (.long (F2 q1)), .second, .val (.int (1 : Int32))] [(.int (1 : Int32)), (.int (1 : Int32))])) t → Steps p.tables e below (s₁.setTop (entryFrame m #[(.long q1), (.int p2)] maxLocals)) t := by
                intro t k
                refine pre142 _ ?_
                show Steps p.tables e below (T133.setTop (mkF m 152 #[.val (.long q1), .second, .val (.int p2), .val (.int (p2 &&& (63 : Int32))), .val (.int ((p2 &&& (63 : Int32)) &&& (7 : Int32))), .val (.int (((p2 &&& (63 : Int32)).toUInt32 >>> ((3 : Int32) &&& 31).toUInt32).toInt32)), .val (.int (1 : Int32)), .val (.long (F2 q1)), .second, .unset] [])) _
                refine XS.iconst X133.here hx rfl (hb hby at_152) ?_
                show Steps p.tables e below (T133.setTop (mkF m 153 #[.val (.long q1), .second, .val (.int p2), .val (.int (p2 &&& (63 : Int32))), .val (.int ((p2 &&& (63 : Int32)) &&& (7 : Int32))), .val (.int (((p2 &&& (63 : Int32)).toUInt32 >>> ((3 : Int32) &&& 31).toUInt32).toInt32)), .val (.int (1 : Int32)), .val (.long (F2 q1)), .second, .unset] [(.int (1 : Int32))])) _
                refine XS.goto X133.here hx rfl (pc0 := 153) (pc' := 157) rfl (hb hby at_153) (by decide) (by decide) ?_
                show Steps p.tables e below (T133.setTop (mkF m 157 #[.val (.long q1), .second, .val (.int p2), .val (.int (p2 &&& (63 : Int32))), .val (.int ((p2 &&& (63 : Int32)) &&& (7 : Int32))), .val (.int (((p2 &&& (63 : Int32)).toUInt32 >>> ((3 : Int32) &&& 31).toUInt32).toInt32)), .val (.int (1 : Int32)), .val (.long (F2 q1)), .second, .unset] [(.int (1 : Int32))])) _
                refine XS.istore X133.here hx rfl (hb hby at_157) rfl (l' := #[.val (.long q1), .second, .val (.int p2), .val (.int (p2 &&& (63 : Int32))), .val (.int ((p2 &&& (63 : Int32)) &&& (7 : Int32))), .val (.int (((p2 &&& (63 : Int32)).toUInt32 >>> ((3 : Int32) &&& 31).toUInt32).toInt32)), .val (.int (1 : Int32)), .val (.long (F2 q1)), .second, .val (.int (1 : Int32))]) rfl ?_
                show Steps p.tables e below (T133.setTop (mkF m 159 #[.val (.long q1), .second, .val (.int p2), .val (.int (p2 &&& (63 : Int32))), .val (.int ((p2 &&& (63 : Int32)) &&& (7 : Int32))), .val (.int (((p2 &&& (63 : Int32)).toUInt32 >>> ((3 : Int32) &&& 31).toUInt32).toInt32)), .val (.int (1 : Int32)), .val (.long (F2 q1)), .second, .val (.int (1 : Int32))] [])) _
                refine XS.iload X133.here hx rfl (hb hby at_159) rfl ?_
                show Steps p.tables e below (T133.setTop (mkF m 161 #[.val (.long q1), .second, .val (.int p2), .val (.int (p2 &&& (63 : Int32))), .val (.int ((p2 &&& (63 : Int32)) &&& (7 : Int32))), .val (.int (((p2 &&& (63 : Int32)).toUInt32 >>> ((3 : Int32) &&& 31).toUInt32).toInt32)), .val (.int (1 : Int32)), .val (.long (F2 q1)), .second, .val (.int (1 : Int32))] [(.int (1 : Int32))])) _
                refine XS.iload X133.here hx rfl (hb hby at_161) rfl ?_
                exact k
              have pre145 : ∀ t, Steps p.tables e below (T133.setTop (mkF m 166 #[.val (.long q1), .second, .val (.int p2), .val (.int (p2 &&& (63 : Int32))), .val (.int ((p2 &&& (63 : Int32)) &&& (7 : Int32))), .val (.int (((p2 &&& (63 : Int32)).toUInt32 >>> ((3 : Int32) &&& 31).toUInt32).toInt32)), .val (.int (1 : Int32)), .val (.long (F2 q1)), .second, .val (.int (1 : Int32))] [])) t → Steps p.tables e below (s₁.setTop (entryFrame m #[(.long q1), (.int p2)] maxLocals)) t := by
                intro t k
                refine pre143 _ ?_
                show Steps p.tables e below (T133.setTop (mkF m 163 #[.val (.long q1), .second, .val (.int p2), .val (.int (p2 &&& (63 : Int32))), .val (.int ((p2 &&& (63 : Int32)) &&& (7 : Int32))), .val (.int (((p2 &&& (63 : Int32)).toUInt32 >>> ((3 : Int32) &&& 31).toUInt32).toInt32)), .val (.int (1 : Int32)), .val (.long (F2 q1)), .second, .val (.int (1 : Int32))] [(.int (1 : Int32)), (.int (1 : Int32))])) _
                refine XS.icmpNo X133.here hx rfl (hb hby at_163) rfl (teq (by decide : (1 : Int32) = (1 : Int32))).2 ?_
                exact k
              have pre146 : ∀ t, Steps p.tables e below (T133.setTop (mkF m 171 #[.val (.long q1), .second, .val (.int p2), .val (.int (p2 &&& (63 : Int32))), .val (.int ((p2 &&& (63 : Int32)) &&& (7 : Int32))), .val (.int (((p2 &&& (63 : Int32)).toUInt32 >>> ((3 : Int32) &&& 31).toUInt32).toInt32)), .val (.int (1 : Int32)), .val (.long (F2 q1)), .second, .val (.int (1 : Int32))] [(.int (1 : Int32))])) t → Steps p.tables e below (s₁.setTop (entryFrame m #[(.long q1), (.int p2)] maxLocals)) t := by
                intro t k
                refine pre145 _ ?_
                show Steps p.tables e below (T133.setTop (mkF m 166 #[.val (.long q1), .second, .val (.int p2), .val (.int (p2 &&& (63 : Int32))), .val (.int ((p2 &&& (63 : Int32)) &&& (7 : Int32))), .val (.int (((p2 &&& (63 : Int32)).toUInt32 >>> ((3 : Int32) &&& 31).toUInt32).toInt32)), .val (.int (1 : Int32)), .val (.long (F2 q1)), .second, .val (.int (1 : Int32))] [])) _
                refine XS.iconst X133.here hx rfl (hb hby at_166) ?_
                show Steps p.tables e below (T133.setTop (mkF m 167 #[.val (.long q1), .second, .val (.int p2), .val (.int (p2 &&& (63 : Int32))), .val (.int ((p2 &&& (63 : Int32)) &&& (7 : Int32))), .val (.int (((p2 &&& (63 : Int32)).toUInt32 >>> ((3 : Int32) &&& 31).toUInt32).toInt32)), .val (.int (1 : Int32)), .val (.long (F2 q1)), .second, .val (.int (1 : Int32))] [(.int (1 : Int32))])) _
                refine XS.goto X133.here hx rfl (pc0 := 167) (pc' := 171) rfl (hb hby at_167) (by decide) (by decide) ?_
                exact k
              obtain ⟨fs, hr, hrun, hended, hW, hsame⟩ := X133.leave (v := some (.int (1 : Int32))) (fun h => by rw [Bd.returns] at h; cases h)
              refine ⟨_, _, pre146 _ ?_, hrun, hended, _, _, rfl, ?_, ⟨_, rfl⟩, hW, hsame.mono (by decide) (by decide)⟩
              · show Steps p.tables e below (T133.setTop (mkF m 171 #[.val (.long q1), .second, .val (.int p2), .val (.int (p2 &&& (63 : Int32))), .val (.int ((p2 &&& (63 : Int32)) &&& (7 : Int32))), .val (.int (((p2 &&& (63 : Int32)).toUInt32 >>> ((3 : Int32) &&& 31).toUInt32).toInt32)), .val (.int (1 : Int32)), .val (.long (F2 q1)), .second, .val (.int (1 : Int32))] [(.int (1 : Int32))])) _
                exact retN X133 hx (t := .boolean) Bd.returns (by simp) (hb hby at_171) hr
              · show Q0 Z q1 p2 h0 n0 _ T133.heap _
                rw [e133]
                exact ⟨(by rw [F0, if_pos hc31, if_pos hc36, if_pos hc41, if_pos hc46, if_neg hc51, if_neg hc136]), N133, rfl⟩
        · have pre147 : ∀ t, Steps p.tables e below (T44.setTop (mkF m 128 #[.val (.long q1), .second, .val (.int p2), .val (.int (p2 &&& (63 : Int32))), .val (.int ((p2 &&& (63 : Int32)) &&& (7 : Int32))), .val (.int (((p2 &&& (63 : Int32)).toUInt32 >>> ((3 : Int32) &&& 31).toUInt32).toInt32)), .unset, .unset, .unset, .unset] [])) t → Steps p.tables e below (s₁.setTop (entryFrame m #[(.long q1), (.int p2)] maxLocals)) t := by
            intro t k
            refine pre45 _ ?_
            show Steps p.tables e below (T44.setTop (mkF m 69 #[.val (.long q1), .second, .val (.int p2), .val (.int (p2 &&& (63 : Int32))), .val (.int ((p2 &&& (63 : Int32)) &&& (7 : Int32))), .val (.int (((p2 &&& (63 : Int32)).toUInt32 >>> ((3 : Int32) &&& 31).toUInt32).toInt32)), .unset, .unset, .unset, .unset] [(.int (F1 q1 (((p2 &&& (63 : Int32)) &&& (7 : Int32)) - (1 : Int32)) (((p2 &&& (63 : Int32)).toUInt32 >>> ((3 : Int32) &&& 31).toUInt32).toInt32)))])) _
            refine XS.ifYes X44.here hx rfl (pc0 := 69) (pc' := 128) rfl (hb hby at_69) rfl ((if0 _ _).trans (feq hc46).2) (by decide) (by decide) ?_
            exact k
          have pre148 : ∀ t, Steps p.tables e below (T44.setTop (mkF m 136 #[.val (.long q1), .second, .val (.int p2), .val (.int (p2 &&& (63 : Int32))), .val (.int ((p2 &&& (63 : Int32)) &&& (7 : Int32))), .val (.int (((p2 &&& (63 : Int32)).toUInt32 >>> ((3 : Int32) &&& 31).toUInt32).toInt32)), .val (.int (1 : Int32)), .unset, .unset, .unset] [(.long q1)])) t → Steps p.tables e below (s₁.setTop (entryFrame m #[(.long q1), (.int p2)] maxLocals)) t := by
            intro t k
            refine pre147 _ ?_
            show Steps p.tables e below (T44.setTop (mkF m 128 #[.val (.long q1), .second, .val (.int p2), .val (.int (p2 &&& (63 : Int32))), .val (.int ((p2 &&& (63 : Int32)) &&& (7 : Int32))), .val (.int (((p2 &&& (63 : Int32)).toUInt32 >>> ((3 : Int32) &&& 31).toUInt32).toInt32)), .unset, .unset, .unset, .unset] [])) _
            refine XS.iconst X44.here hx rfl (hb hby at_128) ?_
            show Steps p.tables e below (T44.setTop (mkF m 129 #[.val (.long q1), .second, .val (.int p2), .val (.int (p2 &&& (63 : Int32))), .val (.int ((p2 &&& (63 : Int32)) &&& (7 : Int32))), .val (.int (((p2 &&& (63 : Int32)).toUInt32 >>> ((3 : Int32) &&& 31).toUInt32).toInt32)), .unset, .unset, .unset, .unset] [(.int (1 : Int32))])) _
            refine XS.goto X44.here hx rfl (pc0 := 129) (pc' := 133) rfl (hb hby at_129) (by decide) (by decide) ?_
            show Steps p.tables e below (T44.setTop (mkF m 133 #[.val (.long q1), .second, .val (.int p2), .val (.int (p2 &&& (63 : Int32))), .val (.int ((p2 &&& (63 : Int32)) &&& (7 : Int32))), .val (.int (((p2 &&& (63 : Int32)).toUInt32 >>> ((3 : Int32) &&& 31).toUInt32).toInt32)), .unset, .unset, .unset, .unset] [(.int (1 : Int32))])) _
            refine XS.istore X44.here hx rfl (hb hby at_133) rfl (l' := #[.val (.long q1), .second, .val (.int p2), .val (.int (p2 &&& (63 : Int32))), .val (.int ((p2 &&& (63 : Int32)) &&& (7 : Int32))), .val (.int (((p2 &&& (63 : Int32)).toUInt32 >>> ((3 : Int32) &&& 31).toUInt32).toInt32)), .val (.int (1 : Int32)), .unset, .unset, .unset]) rfl ?_
            show Steps p.tables e below (T44.setTop (mkF m 135 #[.val (.long q1), .second, .val (.int p2), .val (.int (p2 &&& (63 : Int32))), .val (.int ((p2 &&& (63 : Int32)) &&& (7 : Int32))), .val (.int (((p2 &&& (63 : Int32)).toUInt32 >>> ((3 : Int32) &&& 31).toUInt32).toInt32)), .val (.int (1 : Int32)), .unset, .unset, .unset] [])) _
            refine XS.lloadN X44.here hx rfl (hb hby at_135) rfl ?_
            exact k
          obtain ⟨_, _, ⟨T149, L149, k149, n149⟩, -, X149, ⟨Lc149, hQ149, l149, y149, z149⟩, st149⟩ := Jvm.LawKit.callS X44 hx (y := (⟨"com/example/tabuleiro/tabuleiro/othello/OthelloPosition", "neighbours", "(J)J"⟩ : MethodName)) hown (mvT hZ (hw _ (List.mem_of_getElem? (i := 4) rfl))) (mvT hZ (hw _ (List.mem_of_getElem? (i := 5) rfl))) (mvT hZ (hw _ (List.mem_of_getElem? (i := 6) rfl))) (mvT hZ (hw _ (List.mem_of_getElem? (i := 7) rfl))) (by decide) (backOf (W := 0) (rm2 l Z a0 hw [] q1 h0 n0 Z0 ) hZ (hw _ (List.mem_of_getElem? (i := 7) rfl)) (hw _ (List.mem_of_getElem? (i := 6) rfl)) (by decide) (by decide)) (g := (mkF m 136 #[.val (.long q1), .second, .val (.int p2), .val (.int (p2 &&& (63 : Int32))), .val (.int ((p2 &&& (63 : Int32)) &&& (7 : Int32))), .val (.int (((p2 &&& (63 : Int32)).toUInt32 >>> ((3 : Int32) &&& 31).toUInt32).toInt32)), .val (.int (1 : Int32)), .unset, .unset, .unset] [(.long q1)])) rfl (by rw [hml]; rfl) (argsL := [(.long q1)]) (rest := []) (lenOf pd__J_J rfl) rfl (by show 2 * 0 + _ ≤ _; exact Nat.le_of_eq rfl) (hb hby at_136) (fun _ _ => ⟨rfl, e44, (by decide : 0 + 0 ≤ _), (by decide : 0 + 0 ≤ _)⟩)
          dsimp only [Pt.U, Pt.locs, Pt.cells, Pt.slots] at X149 l149 y149 z149 st149 hQ149
          subst l149 y149 z149
          obtain ⟨rfl, N149q, e149⟩ := hQ149
          have N149 := Fr.app N44 N149q
          have pre150 : ∀ t, Steps p.tables e below (T149.setTop (mkF m 139 #[.val (.long q1), .second, .val (.int p2), .val (.int (p2 &&& (63 : Int32))), .val (.int ((p2 &&& (63 : Int32)) &&& (7 : Int32))), .val (.int (((p2 &&& (63 : Int32)).toUInt32 >>> ((3 : Int32) &&& 31).toUInt32).toInt32)), .val (.int (1 : Int32)), .unset, .unset, .unset] [(.long (F2 q1))])) t → Steps p.tables e below (s₁.setTop (entryFrame m #[(.long q1), (.int p2)] maxLocals)) t := by
            intro t k
            refine pre148 _ ?_
            show Steps p.tables e below (T44.setTop (mkF m 136 #[.val (.long q1), .second, .val (.int p2), .val (.int (p2 &&& (63 : Int32))), .val (.int ((p2 &&& (63 : Int32)) &&& (7 : Int32))), .val (.int (((p2 &&& (63 : Int32)).toUInt32 >>> ((3 : Int32) &&& 31).toUInt32).toInt32)), .val (.int (1 : Int32)), .unset, .unset, .unset] [(.long q1)])) _
            refine st149 _ ?_
            exact k
          have pre151 : ∀ t, Steps p.tables e below (T149.setTop (mkF m 149 #[.val (.long q1), .second, .val (.int p2), .val (.int (p2 &&& (63 : Int32))), .val (.int ((p2 &&& (63 : Int32)) &&& (7 : Int32))), .val (.int (((p2 &&& (63 : Int32)).toUInt32 >>> ((3 : Int32) &&& 31).toUInt32).toInt32)), .val (.int (1 : Int32)), .val (.long (F2 q1)), .second, .unset] [(.int (lcmpW ((((F2 q1).toUInt64 >>> ((p2 &&& (63 : Int32)) &&& 0x3f).toInt64.toUInt64).toInt64) &&& (1 : Int64)) (0 : Int64)))])) t → Steps p.tables e below (s₁.setTop (entryFrame m #[(.long q1), (.int p2)] maxLocals)) t := by
            intro t k
            refine pre150 _ ?_
            show Steps p.tables e below (T149.setTop (mkF m 139 #[.val (.long q1), .second, .val (.int p2), .val (.int (p2 &&& (63 : Int32))), .val (.int ((p2 &&& (63 : Int32)) &&& (7 : Int32))), .val (.int (((p2 &&& (63 : Int32)).toUInt32 >>> ((3 : Int32) &&& 31).toUInt32).toInt32)), .val (.int (1 : Int32)), .unset, .unset, .unset] [(.long (F2 q1))])) _
            refine XS.lstore X149.here hx rfl (hb hby at_139) rfl (l' := #[.val (.long q1), .second, .val (.int p2), .val (.int (p2 &&& (63 : Int32))), .val (.int ((p2 &&& (63 : Int32)) &&& (7 : Int32))), .val (.int (((p2 &&& (63 : Int32)).toUInt32 >>> ((3 : Int32) &&& 31).toUInt32).toInt32)), .val (.int (1 : Int32)), .val (.long (F2 q1)), .second, .unset]) rfl ?_
            show Steps p.tables e below (T149.setTop (mkF m 141 #[.val (.long q1), .second, .val (.int p2), .val (.int (p2 &&& (63 : Int32))), .val (.int ((p2 &&& (63 : Int32)) &&& (7 : Int32))), .val (.int (((p2 &&& (63 : Int32)).toUInt32 >>> ((3 : Int32) &&& 31).toUInt32).toInt32)), .val (.int (1 : Int32)), .val (.long (F2 q1)), .second, .unset] [])) _
            refine XS.lload X149.here hx rfl (hb hby at_141) rfl ?_
            show Steps p.tables e below (T149.setTop (mkF m 143 #[.val (.long q1), .second, .val (.int p2), .val (.int (p2 &&& (63 : Int32))), .val (.int ((p2 &&& (63 : Int32)) &&& (7 : Int32))), .val (.int (((p2 &&& (63 : Int32)).toUInt32 >>> ((3 : Int32) &&& 31).toUInt32).toInt32)), .val (.int (1 : Int32)), .val (.long (F2 q1)), .second, .unset] [(.long (F2 q1))])) _
            refine XS.iloadN X149.here hx rfl (hb hby at_143) rfl ?_
            show Steps p.tables e below (T149.setTop (mkF m 144 #[.val (.long q1), .second, .val (.int p2), .val (.int (p2 &&& (63 : Int32))), .val (.int ((p2 &&& (63 : Int32)) &&& (7 : Int32))), .val (.int (((p2 &&& (63 : Int32)).toUInt32 >>> ((3 : Int32) &&& 31).toUInt32).toInt32)), .val (.int (1 : Int32)), .val (.long (F2 q1)), .second, .unset] [(.int (p2 &&& (63 : Int32))), (.long (F2 q1))])) _
            refine XS.lushr X149.here hx rfl (hb hby at_144) rfl ?_
            show Steps p.tables e below (T149.setTop (mkF m 145 #[.val (.long q1), .second, .val (.int p2), .val (.int (p2 &&& (63 : Int32))), .val (.int ((p2 &&& (63 : Int32)) &&& (7 : Int32))), .val (.int (((p2 &&& (63 : Int32)).toUInt32 >>> ((3 : Int32) &&& 31).toUInt32).toInt32)), .val (.int (1 : Int32)), .val (.long (F2 q1)), .second, .unset] [(.long (((F2 q1).toUInt64 >>> ((p2 &&& (63 : Int32)) &&& 0x3f).toInt64.toUInt64).toInt64))])) _
            refine XS.lconst X149.here hx rfl (hb hby at_145) ?_
            show Steps p.tables e below (T149.setTop (mkF m 146 #[.val (.long q1), .second, .val (.int p2), .val (.int (p2 &&& (63 : Int32))), .val (.int ((p2 &&& (63 : Int32)) &&& (7 : Int32))), .val (.int (((p2 &&& (63 : Int32)).toUInt32 >>> ((3 : Int32) &&& 31).toUInt32).toInt32)), .val (.int (1 : Int32)), .val (.long (F2 q1)), .second, .unset] [(.long (1 : Int64)), (.long (((F2 q1).toUInt64 >>> ((p2 &&& (63 : Int32)) &&& 0x3f).toInt64.toUInt64).toInt64))])) _
            refine XS.land X149.here hx rfl (hb hby at_146) rfl ?_
            show Steps p.tables e below (T149.setTop (mkF m 147 #[.val (.long q1), .second, .val (.int p2), .val (.int (p2 &&& (63 : Int32))), .val (.int ((p2 &&& (63 : Int32)) &&& (7 : Int32))), .val (.int (((p2 &&& (63 : Int32)).toUInt32 >>> ((3 : Int32) &&& 31).toUInt32).toInt32)), .val (.int (1 : Int32)), .val (.long (F2 q1)), .second, .unset] [(.long ((((F2 q1).toUInt64 >>> ((p2 &&& (63 : Int32)) &&& 0x3f).toInt64.toUInt64).toInt64) &&& (1 : Int64)))])) _
            refine XS.lconst X149.here hx rfl (hb hby at_147) ?_
            show Steps p.tables e below (T149.setTop (mkF m 148 #[.val (.long q1), .second, .val (.int p2), .val (.int (p2 &&& (63 : Int32))), .val (.int ((p2 &&& (63 : Int32)) &&& (7 : Int32))), .val (.int (((p2 &&& (63 : Int32)).toUInt32 >>> ((3 : Int32) &&& 31).toUInt32).toInt32)), .val (.int (1 : Int32)), .val (.long (F2 q1)), .second, .unset] [(.long (0 : Int64)), (.long ((((F2 q1).toUInt64 >>> ((p2 &&& (63 : Int32)) &&& 0x3f).toInt64.toUInt64).toInt64) &&& (1 : Int64)))])) _
            refine XS.lcmp X149.here hx rfl (hb hby at_148) rfl ?_
            exact k
          by_cases hc152 : (lcmpW ((((F2 q1).toUInt64 >>> ((p2 &&& (63 : Int32)) &&& 0x3f).toInt64.toUInt64).toInt64) &&& (1 : Int64)) (0 : Int64)) = (0 : Int32)
          · have pre153 : ∀ t, Steps p.tables e below (T149.setTop (mkF m 156 #[.val (.long q1), .second, .val (.int p2), .val (.int (p2 &&& (63 : Int32))), .val (.int ((p2 &&& (63 : Int32)) &&& (7 : Int32))), .val (.int (((p2 &&& (63 : Int32)).toUInt32 >>> ((3 : Int32) &&& 31).toUInt32).toInt32)), .val (.int (1 : Int32)), .val (.long (F2 q1)), .second, .unset] [])) t → Steps p.tables e below (s₁.setTop (entryFrame m #[(.long q1), (.int p2)] maxLocals)) t := by
              intro t k
              refine pre151 _ ?_
              show Steps p.tables e below (T149.setTop (mkF m 149 #[.val (.long q1), .second, .val (.int p2), .val (.int (p2 &&& (63 : Int32))), .val (.int ((p2 &&& (63 : Int32)) &&& (7 : Int32))), .val (.int (((p2 &&& (63 : Int32)).toUInt32 >>> ((3 : Int32) &&& 31).toUInt32).toInt32)), .val (.int (1 : Int32)), .val (.long (F2 q1)), .second, .unset] [(.int (lcmpW ((((F2 q1).toUInt64 >>> ((p2 &&& (63 : Int32)) &&& 0x3f).toInt64.toUInt64).toInt64) &&& (1 : Int64)) (0 : Int64)))])) _
              refine XS.ifYes X149.here hx rfl (pc0 := 149) (pc' := 156) rfl (hb hby at_149) rfl ((if0 _ _).trans (teq hc152).1) (by decide) (by decide) ?_
              exact k
            have pre154 : ∀ t, Steps p.tables e below (T149.setTop (mkF m 163 #[.val (.long q1), .second, .val (.int p2), .val (.int (p2 &&& (63 : Int32))), .val (.int ((p2 &&& (63 : Int32)) &&& (7 : Int32))), .val (.int (((p2 &&& (63 : Int32)).toUInt32 >>> ((3 : Int32) &&& 31).toUInt32).toInt32)), .val (.int (1 : Int32)), .val (.long (F2 q1)), .second, .val (.int (0 : Int32))] [(.int (1 : Int32)), (.int (0 : Int32))])) t → Steps p.tables e below (s₁.setTop (entryFrame m #[(.long q1), (.int p2)] maxLocals)) t := by
              intro t k
              refine pre153 _ ?_
              show Steps p.tables e below (T149.setTop (mkF m 156 #[.val (.long q1), .second, .val (.int p2), .val (.int (p2 &&& (63 : Int32))), .val (.int ((p2 &&& (63 : Int32)) &&& (7 : Int32))), .val (.int (((p2 &&& (63 : Int32)).toUInt32 >>> ((3 : Int32) &&& 31).toUInt32).toInt32)), .val (.int (1 : Int32)), .val (.long (F2 q1)), .second, .unset] [])) _
              refine XS.iconst X149.here hx rfl (hb hby at_156) ?_
              show Steps p.tables e below (T149.setTop (mkF m 157 #[.val (.long q1), .second, .val (.int p2), .val (.int (p2 &&& (63 : Int32))), .val (.int ((p2 &&& (63 : Int32)) &&& (7 : Int32))), .val (.int (((p2 &&& (63 : Int32)).toUInt32 >>> ((3 : Int32) &&& 31).toUInt32).toInt32)), .val (.int (1 : Int32)), .val (.long (F2 q1)), .second, .unset] [(.int (0 : Int32))])) _
              refine XS.istore X149.here hx rfl (hb hby at_157) rfl (l' := #[.val (.long q1), .second, .val (.int p2), .val (.int (p2 &&& (63 : Int32))), .val (.int ((p2 &&& (63 : Int32)) &&& (7 : Int32))), .val (.int (((p2 &&& (63 : Int32)).toUInt32 >>> ((3 : Int32) &&& 31).toUInt32).toInt32)), .val (.int (1 : Int32)), .val (.long (F2 q1)), .second, .val (.int (0 : Int32))]) rfl ?_
              show Steps p.tables e below (T149.setTop (mkF m 159 #[.val (.long q1), .second, .val (.int p2), .val (.int (p2 &&& (63 : Int32))), .val (.int ((p2 &&& (63 : Int32)) &&& (7 : Int32))), .val (.int (((p2 &&& (63 : Int32)).toUInt32 >>> ((3 : Int32) &&& 31).toUInt32).toInt32)), .val (.int (1 : Int32)), .val (.long (F2 q1)), .second, .val (.int (0 : Int32))] [])) _
              refine XS.iload X149.here hx rfl (hb hby at_159) rfl ?_
              show Steps p.tables e below (T149.setTop (mkF m 161 #[.val (.long q1), .second, .val (.int p2), .val (.int (p2 &&& (63 : Int32))), .val (.int ((p2 &&& (63 : Int32)) &&& (7 : Int32))), .val (.int (((p2 &&& (63 : Int32)).toUInt32 >>> ((3 : Int32) &&& 31).toUInt32).toInt32)), .val (.int (1 : Int32)), .val (.long (F2 q1)), .second, .val (.int (0 : Int32))] [(.int (0 : Int32))])) _
              refine XS.iload X149.here hx rfl (hb hby at_161) rfl ?_
              exact k
            have pre156 : ∀ t, Steps p.tables e below (T149.setTop (mkF m 170 #[.val (.long q1), .second, .val (.int p2), .val (.int (p2 &&& (63 : Int32))), .val (.int ((p2 &&& (63 : Int32)) &&& (7 : Int32))), .val (.int (((p2 &&& (63 : Int32)).toUInt32 >>> ((3 : Int32) &&& 31).toUInt32).toInt32)), .val (.int (1 : Int32)), .val (.long (F2 q1)), .second, .val (.int (0 : Int32))] [])) t → Steps p.tables e below (s₁.setTop (entryFrame m #[(.long q1), (.int p2)] maxLocals)) t := by
              intro t k
              refine pre154 _ ?_
              show Steps p.tables e below (T149.setTop (mkF m 163 #[.val (.long q1), .second, .val (.int p2), .val (.int (p2 &&& (63 : Int32))), .val (.int ((p2 &&& (63 : Int32)) &&& (7 : Int32))), .val (.int (((p2 &&& (63 : Int32)).toUInt32 >>> ((3 : Int32) &&& 31).toUInt32).toInt32)), .val (.int (1 : Int32)), .val (.long (F2 q1)), .second, .val (.int (0 : Int32))] [(.int (1 : Int32)), (.int (0 : Int32))])) _
              refine XS.icmpYes X149.here hx rfl (pc0 := 163) (pc' := 170) rfl (hb hby at_163) rfl (feq (by decide : ¬ ((0 : Int32) = (1 : Int32)))).2 (by decide) (by decide) ?_
              exact k
            have pre157 : ∀ t, Steps p.tables e below (T149.setTop (mkF m 171 #[.val (.long q1), .second, .val (.int p2), .val (.int (p2 &&& (63 : Int32))), .val (.int ((p2 &&& (63 : Int32)) &&& (7 : Int32))), .val (.int (((p2 &&& (63 : Int32)).toUInt32 >>> ((3 : Int32) &&& 31).toUInt32).toInt32)), .val (.int (1 : Int32)), .val (.long (F2 q1)), .second, .val (.int (0 : Int32))] [(.int (0 : Int32))])) t → Steps p.tables e below (s₁.setTop (entryFrame m #[(.long q1), (.int p2)] maxLocals)) t := by
              intro t k
              refine pre156 _ ?_
              show Steps p.tables e below (T149.setTop (mkF m 170 #[.val (.long q1), .second, .val (.int p2), .val (.int (p2 &&& (63 : Int32))), .val (.int ((p2 &&& (63 : Int32)) &&& (7 : Int32))), .val (.int (((p2 &&& (63 : Int32)).toUInt32 >>> ((3 : Int32) &&& 31).toUInt32).toInt32)), .val (.int (1 : Int32)), .val (.long (F2 q1)), .second, .val (.int (0 : Int32))] [])) _
              refine XS.iconst X149.here hx rfl (hb hby at_170) ?_
              exact k
            obtain ⟨fs, hr, hrun, hended, hW, hsame⟩ := X149.leave (v := some (.int (0 : Int32))) (fun h => by rw [Bd.returns] at h; cases h)
            refine ⟨_, _, pre157 _ ?_, hrun, hended, _, _, rfl, ?_, ⟨_, rfl⟩, hW, hsame.mono (by decide) (by decide)⟩
            · show Steps p.tables e below (T149.setTop (mkF m 171 #[.val (.long q1), .second, .val (.int p2), .val (.int (p2 &&& (63 : Int32))), .val (.int ((p2 &&& (63 : Int32)) &&& (7 : Int32))), .val (.int (((p2 &&& (63 : Int32)).toUInt32 >>> ((3 : Int32) &&& 31).toUInt32).toInt32)), .val (.int (1 : Int32)), .val (.long (F2 q1)), .second, .val (.int (0 : Int32))] [(.int (0 : Int32))])) _
              exact retN X149 hx (t := .boolean) Bd.returns (by simp) (hb hby at_171) hr
            · show Q0 Z q1 p2 h0 n0 _ T149.heap _
              rw [e149]
              exact ⟨(by rw [F0, if_pos hc31, if_pos hc36, if_pos hc41, if_neg hc46, if_pos hc152]), N149, rfl⟩
          · have pre158 : ∀ t, Steps p.tables e below (T149.setTop (mkF m 152 #[.val (.long q1), .second, .val (.int p2), .val (.int (p2 &&& (63 : Int32))), .val (.int ((p2 &&& (63 : Int32)) &&& (7 : Int32))), .val (.int (((p2 &&& (63 : Int32)).toUInt32 >>> ((3 : Int32) &&& 31).toUInt32).toInt32)), .val (.int (1 : Int32)), .val (.long (F2 q1)), .second, .unset] [])) t → Steps p.tables e below (s₁.setTop (entryFrame m #[(.long q1), (.int p2)] maxLocals)) t := by
              intro t k
              refine pre151 _ ?_
              show Steps p.tables e below (T149.setTop (mkF m 149 #[.val (.long q1), .second, .val (.int p2), .val (.int (p2 &&& (63 : Int32))), .val (.int ((p2 &&& (63 : Int32)) &&& (7 : Int32))), .val (.int (((p2 &&& (63 : Int32)).toUInt32 >>> ((3 : Int32) &&& 31).toUInt32).toInt32)), .val (.int (1 : Int32)), .val (.long (F2 q1)), .second, .unset] [(.int (lcmpW ((((F2 q1).toUInt64 >>> ((p2 &&& (63 : Int32)) &&& 0x3f).toInt64.toUInt64).toInt64) &&& (1 : Int64)) (0 : Int64)))])) _
              refine XS.ifNo X149.here hx rfl (hb hby at_149) rfl ((if0 _ _).trans (feq hc152).1) ?_
              exact k
            have pre159 : ∀ t, Steps p.tables e below (T149.setTop (mkF m 163 #[.val (.long q1), .second, .val (.int p2), .val (.int (p2 &&& (63 : Int32))), .val (.int ((p2 &&& (63 : Int32)) &&& (7 : Int32))), .val (.int (((p2 &&& (63 : Int32)).toUInt32 >>> ((3 : Int32) &&& 31).toUInt32).toInt32)), .val (.int (1 : Int32)), .val (.long (F2 q1)), .second, .val (.int (1 : Int32))] [(.int (1 : Int32)), (.int (1 : Int32))])) t → Steps p.tables e below (s₁.setTop (entryFrame m #[(.long q1), (.int p2)] maxLocals)) t := by
              intro t k
              refine pre158 _ ?_
              show Steps p.tables e below (T149.setTop (mkF m 152 #[.val (.long q1), .second, .val (.int p2), .val (.int (p2 &&& (63 : Int32))), .val (.int ((p2 &&& (63 : Int32)) &&& (7 : Int32))), .val (.int (((p2 &&& (63 : Int32)).toUInt32 >>> ((3 : Int32) &&& 31).toUInt32).toInt32)), .val (.int (1 : Int32)), .val (.long (F2 q1)), .second, .unset] [])) _
              refine XS.iconst X149.here hx rfl (hb hby at_152) ?_
              show Steps p.tables e below (T149.setTop (mkF m 153 #[.val (.long q1), .second, .val (.int p2), .val (.int (p2 &&& (63 : Int32))), .val (.int ((p2 &&& (63 : Int32)) &&& (7 : Int32))), .val (.int (((p2 &&& (63 : Int32)).toUInt32 >>> ((3 : Int32) &&& 31).toUInt32).toInt32)), .val (.int (1 : Int32)), .val (.long (F2 q1)), .second, .unset] [(.int (1 : Int32))])) _
              refine XS.goto X149.here hx rfl (pc0 := 153) (pc' := 157) rfl (hb hby at_153) (by decide) (by decide) ?_
              show Steps p.tables e below (T149.setTop (mkF m 157 #[.val (.long q1), .second, .val (.int p2), .val (.int (p2 &&& (63 : Int32))), .val (.int ((p2 &&& (63 : Int32)) &&& (7 : Int32))), .val (.int (((p2 &&& (63 : Int32)).toUInt32 >>> ((3 : Int32) &&& 31).toUInt32).toInt32)), .val (.int (1 : Int32)), .val (.long (F2 q1)), .second, .unset] [(.int (1 : Int32))])) _
              refine XS.istore X149.here hx rfl (hb hby at_157) rfl (l' := #[.val (.long q1), .second, .val (.int p2), .val (.int (p2 &&& (63 : Int32))), .val (.int ((p2 &&& (63 : Int32)) &&& (7 : Int32))), .val (.int (((p2 &&& (63 : Int32)).toUInt32 >>> ((3 : Int32) &&& 31).toUInt32).toInt32)), .val (.int (1 : Int32)), .val (.long (F2 q1)), .second, .val (.int (1 : Int32))]) rfl ?_
              show Steps p.tables e below (T149.setTop (mkF m 159 #[.val (.long q1), .second, .val (.int p2), .val (.int (p2 &&& (63 : Int32))), .val (.int ((p2 &&& (63 : Int32)) &&& (7 : Int32))), .val (.int (((p2 &&& (63 : Int32)).toUInt32 >>> ((3 : Int32) &&& 31).toUInt32).toInt32)), .val (.int (1 : Int32)), .val (.long (F2 q1)), .second, .val (.int (1 : Int32))] [])) _
              refine XS.iload X149.here hx rfl (hb hby at_159) rfl ?_
              show Steps p.tables e below (T149.setTop (mkF m 161 #[.val (.long q1), .second, .val (.int p2), .val (.int (p2 &&& (63 : Int32))), .val (.int ((p2 &&& (63 : Int32)) &&& (7 : Int32))), .val (.int (((p2 &&& (63 : Int32)).toUInt32 >>> ((3 : Int32) &&& 31).toUInt32).toInt32)), .val (.int (1 : Int32)), .val (.long (F2 q1)), .second, .val (.int (1 : Int32))] [(.int (1 : Int32))])) _
              refine XS.iload X149.here hx rfl (hb hby at_161) rfl ?_
              exact k
            have pre161 : ∀ t, Steps p.tables e below (T149.setTop (mkF m 166 #[.val (.long q1), .second, .val (.int p2), .val (.int (p2 &&& (63 : Int32))), .val (.int ((p2 &&& (63 : Int32)) &&& (7 : Int32))), .val (.int (((p2 &&& (63 : Int32)).toUInt32 >>> ((3 : Int32) &&& 31).toUInt32).toInt32)), .val (.int (1 : Int32)), .val (.long (F2 q1)), .second, .val (.int (1 : Int32))] [])) t → Steps p.tables e below (s₁.setTop (entryFrame m #[(.long q1), (.int p2)] maxLocals)) t := by
              intro t k
              refine pre159 _ ?_
              show Steps p.tables e below (T149.setTop (mkF m 163 #[.val (.long q1), .second, .val (.int p2), .val (.int (p2 &&& (63 : Int32))), .val (.int ((p2 &&& (63 : Int32)) &&& (7 : Int32))), .val (.int (((p2 &&& (63 : Int32)).toUInt32 >>> ((3 : Int32) &&& 31).toUInt32).toInt32)), .val (.int (1 : Int32)), .val (.long (F2 q1)), .second, .val (.int (1 : Int32))] [(.int (1 : Int32)), (.int (1 : Int32))])) _
              refine XS.icmpNo X149.here hx rfl (hb hby at_163) rfl (teq (by decide : (1 : Int32) = (1 : Int32))).2 ?_
              exact k
            have pre162 : ∀ t, Steps p.tables e below (T149.setTop (mkF m 171 #[.val (.long q1), .second, .val (.int p2), .val (.int (p2 &&& (63 : Int32))), .val (.int ((p2 &&& (63 : Int32)) &&& (7 : Int32))), .val (.int (((p2 &&& (63 : Int32)).toUInt32 >>> ((3 : Int32) &&& 31).toUInt32).toInt32)), .val (.int (1 : Int32)), .val (.long (F2 q1)), .second, .val (.int (1 : Int32))] [(.int (1 : Int32))])) t → Steps p.tables e below (s₁.setTop (entryFrame m #[(.long q1), (.int p2)] maxLocals)) t := by
              intro t k
              refine pre161 _ ?_
              show Steps p.tables e below (T149.setTop (mkF m 166 #[.val (.long q1), .second, .val (.int p2), .val (.int (p2 &&& (63 : Int32))), .val (.int ((p2 &&& (63 : Int32)) &&& (7 : Int32))), .val (.int (((p2 &&& (63 : Int32)).toUInt32 >>> ((3 : Int32) &&& 31).toUInt32).toInt32)), .val (.int (1 : Int32)), .val (.long (F2 q1)), .second, .val (.int (1 : Int32))] [])) _
              refine XS.iconst X149.here hx rfl (hb hby at_166) ?_
              show Steps p.tables e below (T149.setTop (mkF m 167 #[.val (.long q1), .second, .val (.int p2), .val (.int (p2 &&& (63 : Int32))), .val (.int ((p2 &&& (63 : Int32)) &&& (7 : Int32))), .val (.int (((p2 &&& (63 : Int32)).toUInt32 >>> ((3 : Int32) &&& 31).toUInt32).toInt32)), .val (.int (1 : Int32)), .val (.long (F2 q1)), .second, .val (.int (1 : Int32))] [(.int (1 : Int32))])) _
              refine XS.goto X149.here hx rfl (pc0 := 167) (pc' := 171) rfl (hb hby at_167) (by decide) (by decide) ?_
              exact k
            obtain ⟨fs, hr, hrun, hended, hW, hsame⟩ := X149.leave (v := some (.int (1 : Int32))) (fun h => by rw [Bd.returns] at h; cases h)
            refine ⟨_, _, pre162 _ ?_, hrun, hended, _, _, rfl, ?_, ⟨_, rfl⟩, hW, hsame.mono (by decide) (by decide)⟩
            · show Steps p.tables e below (T149.setTop (mkF m 171 #[.val (.long q1), .second, .val (.int p2), .val (.int (p2 &&& (63 : Int32))), .val (.int ((p2 &&& (63 : Int32)) &&& (7 : Int32))), .val (.int (((p2 &&& (63 : Int32)).toUInt32 >>> ((3 : Int32) &&& 31).toUInt32).toInt32)), .val (.int (1 : Int32)), .val (.long (F2 q1)), .second, .val (.int (1 : Int32))] [(.int (1 : Int32))])) _
              exact retN X149 hx (t := .boolean) Bd.returns (by simp) (hb hby at_171) hr
            · show Q0 Z q1 p2 h0 n0 _ T149.heap _
              rw [e149]
              exact ⟨(by rw [F0, if_pos hc31, if_pos hc36, if_pos hc41, if_neg hc46, if_neg hc152]), N149, rfl⟩
      · have pre163 : ∀ t, Steps p.tables e below (T39.setTop (mkF m 128 #[.val (.long q1), .second, .val (.int p2), .val (.int (p2 &&& (63 : Int32))), .val (.int ((p2 &&& (63 : Int32)) &&& (7 : Int32))), .val (.int (((p2 &&& (63 : Int32)).toUInt32 >>> ((3 : Int32) &&& 31).toUInt32).toInt32)), .unset, .unset, .unset, .unset] [])) t → Steps p.tables e below (s₁.setTop (entryFrame m #[(.long q1), (.int p2)] maxLocals)) t := by
          intro t k
          refine pre40 _ ?_
          show Steps p.tables e below (T39.setTop (mkF m 56 #[.val (.long q1), .second, .val (.int p2), .val (.int (p2 &&& (63 : Int32))), .val (.int ((p2 &&& (63 : Int32)) &&& (7 : Int32))), .val (.int (((p2 &&& (63 : Int32)).toUInt32 >>> ((3 : Int32) &&& 31).toUInt32).toInt32)), .unset, .unset, .unset, .unset] [(.int (F1 q1 (((p2 &&& (63 : Int32)) &&& (7 : Int32)) + (1 : Int32)) ((((p2 &&& (63 : Int32)).toUInt32 >>> ((3 : Int32) &&& 31).toUInt32).toInt32) - (1 : Int32))))])) _
          refine XS.ifYes X39.here hx rfl (pc0 := 56) (pc' := 128) rfl (hb hby at_56) rfl ((if0 _ _).trans (feq hc41).2) (by decide) (by decide) ?_
          exact k
        have pre164 : ∀ t, Steps p.tables e below (T39.setTop (mkF m 136 #[.val (.long q1), .second, .val (.int p2), .val (.int (p2 &&& (63 : Int32))), .val (.int ((p2 &&& (63 : Int32)) &&& (7 : Int32))), .val (.int (((p2 &&& (63 : Int32)).toUInt32 >>> ((3 : Int32) &&& 31).toUInt32).toInt32)), .val (.int (1 : Int32)), .unset, .unset, .unset] [(.long q1)])) t → Steps p.tables e below (s₁.setTop (entryFrame m #[(.long q1), (.int p2)] maxLocals)) t := by
          intro t k
          refine pre163 _ ?_
          show Steps p.tables e below (T39.setTop (mkF m 128 #[.val (.long q1), .second, .val (.int p2), .val (.int (p2 &&& (63 : Int32))), .val (.int ((p2 &&& (63 : Int32)) &&& (7 : Int32))), .val (.int (((p2 &&& (63 : Int32)).toUInt32 >>> ((3 : Int32) &&& 31).toUInt32).toInt32)), .unset, .unset, .unset, .unset] [])) _
          refine XS.iconst X39.here hx rfl (hb hby at_128) ?_
          show Steps p.tables e below (T39.setTop (mkF m 129 #[.val (.long q1), .second, .val (.int p2), .val (.int (p2 &&& (63 : Int32))), .val (.int ((p2 &&& (63 : Int32)) &&& (7 : Int32))), .val (.int (((p2 &&& (63 : Int32)).toUInt32 >>> ((3 : Int32) &&& 31).toUInt32).toInt32)), .unset, .unset, .unset, .unset] [(.int (1 : Int32))])) _
          refine XS.goto X39.here hx rfl (pc0 := 129) (pc' := 133) rfl (hb hby at_129) (by decide) (by decide) ?_
          show Steps p.tables e below (T39.setTop (mkF m 133 #[.val (.long q1), .second, .val (.int p2), .val (.int (p2 &&& (63 : Int32))), .val (.int ((p2 &&& (63 : Int32)) &&& (7 : Int32))), .val (.int (((p2 &&& (63 : Int32)).toUInt32 >>> ((3 : Int32) &&& 31).toUInt32).toInt32)), .unset, .unset, .unset, .unset] [(.int (1 : Int32))])) _
          refine XS.istore X39.here hx rfl (hb hby at_133) rfl (l' := #[.val (.long q1), .second, .val (.int p2), .val (.int (p2 &&& (63 : Int32))), .val (.int ((p2 &&& (63 : Int32)) &&& (7 : Int32))), .val (.int (((p2 &&& (63 : Int32)).toUInt32 >>> ((3 : Int32) &&& 31).toUInt32).toInt32)), .val (.int (1 : Int32)), .unset, .unset, .unset]) rfl ?_
          show Steps p.tables e below (T39.setTop (mkF m 135 #[.val (.long q1), .second, .val (.int p2), .val (.int (p2 &&& (63 : Int32))), .val (.int ((p2 &&& (63 : Int32)) &&& (7 : Int32))), .val (.int (((p2 &&& (63 : Int32)).toUInt32 >>> ((3 : Int32) &&& 31).toUInt32).toInt32)), .val (.int (1 : Int32)), .unset, .unset, .unset] [])) _
          refine XS.lloadN X39.here hx rfl (hb hby at_135) rfl ?_
          exact k
        obtain ⟨_, _, ⟨T165, L165, k165, n165⟩, -, X165, ⟨Lc165, hQ165, l165, y165, z165⟩, st165⟩ := Jvm.LawKit.callS X39 hx (y := (⟨"com/example/tabuleiro/tabuleiro/othello/OthelloPosition", "neighbours", "(J)J"⟩ : MethodName)) hown (mvT hZ (hw _ (List.mem_of_getElem? (i := 4) rfl))) (mvT hZ (hw _ (List.mem_of_getElem? (i := 5) rfl))) (mvT hZ (hw _ (List.mem_of_getElem? (i := 6) rfl))) (mvT hZ (hw _ (List.mem_of_getElem? (i := 7) rfl))) (by decide) (backOf (W := 0) (rm2 l Z a0 hw [] q1 h0 n0 Z0 ) hZ (hw _ (List.mem_of_getElem? (i := 7) rfl)) (hw _ (List.mem_of_getElem? (i := 6) rfl)) (by decide) (by decide)) (g := (mkF m 136 #[.val (.long q1), .second, .val (.int p2), .val (.int (p2 &&& (63 : Int32))), .val (.int ((p2 &&& (63 : Int32)) &&& (7 : Int32))), .val (.int (((p2 &&& (63 : Int32)).toUInt32 >>> ((3 : Int32) &&& 31).toUInt32).toInt32)), .val (.int (1 : Int32)), .unset, .unset, .unset] [(.long q1)])) rfl (by rw [hml]; rfl) (argsL := [(.long q1)]) (rest := []) (lenOf pd__J_J rfl) rfl (by show 2 * 0 + _ ≤ _; exact Nat.le_of_eq rfl) (hb hby at_136) (fun _ _ => ⟨rfl, e39, (by decide : 0 + 0 ≤ _), (by decide : 0 + 0 ≤ _)⟩)
        dsimp only [Pt.U, Pt.locs, Pt.cells, Pt.slots] at X165 l165 y165 z165 st165 hQ165
        subst l165 y165 z165
        obtain ⟨rfl, N165q, e165⟩ := hQ165
        have N165 := Fr.app N39 N165q
        have pre166 : ∀ t, Steps p.tables e below (T165.setTop (mkF m 139 #[.val (.long q1), .second, .val (.int p2), .val (.int (p2 &&& (63 : Int32))), .val (.int ((p2 &&& (63 : Int32)) &&& (7 : Int32))), .val (.int (((p2 &&& (63 : Int32)).toUInt32 >>> ((3 : Int32) &&& 31).toUInt32).toInt32)), .val (.int (1 : Int32)), .unset, .unset, .unset] [(.long (F2 q1))])) t → Steps p.tables e below (s₁.setTop (entryFrame m #[(.long q1), (.int p2)] maxLocals)) t := by
          intro t k
          refine pre164 _ ?_
          show Steps p.tables e below (T39.setTop (mkF m 136 #[.val (.long q1), .second, .val (.int p2), .val (.int (p2 &&& (63 : Int32))), .val (.int ((p2 &&& (63 : Int32)) &&& (7 : Int32))), .val (.int (((p2 &&& (63 : Int32)).toUInt32 >>> ((3 : Int32) &&& 31).toUInt32).toInt32)), .val (.int (1 : Int32)), .unset, .unset, .unset] [(.long q1)])) _
          refine st165 _ ?_
          exact k
        have pre167 : ∀ t, Steps p.tables e below (T165.setTop (mkF m 149 #[.val (.long q1), .second, .val (.int p2), .val (.int (p2 &&& (63 : Int32))), .val (.int ((p2 &&& (63 : Int32)) &&& (7 : Int32))), .val (.int (((p2 &&& (63 : Int32)).toUInt32 >>> ((3 : Int32) &&& 31).toUInt32).toInt32)), .val (.int (1 : Int32)), .val (.long (F2 q1)), .second, .unset] [(.int (lcmpW ((((F2 q1).toUInt64 >>> ((p2 &&& (63 : Int32)) &&& 0x3f).toInt64.toUInt64).toInt64) &&& (1 : Int64)) (0 : Int64)))])) t → Steps p.tables e below (s₁.setTop (entryFrame m #[(.long q1), (.int p2)] maxLocals)) t := by
          intro t k
          refine pre166 _ ?_
          show Steps p.tables e below (T165.setTop (mkF m 139 #[.val (.long q1), .second, .val (.int p2), .val (.int (p2 &&& (63 : Int32))), .val (.int ((p2 &&& (63 : Int32)) &&& (7 : Int32))), .val (.int (((p2 &&& (63 : Int32)).toUInt32 >>> ((3 : Int32) &&& 31).toUInt32).toInt32)), .val (.int (1 : Int32)), .unset, .unset, .unset] [(.long (F2 q1))])) _
          refine XS.lstore X165.here hx rfl (hb hby at_139) rfl (l' := #[.val (.long q1), .second, .val (.int p2), .val (.int (p2 &&& (63 : Int32))), .val (.int ((p2 &&& (63 : Int32)) &&& (7 : Int32))), .val (.int (((p2 &&& (63 : Int32)).toUInt32 >>> ((3 : Int32) &&& 31).toUInt32).toInt32)), .val (.int (1 : Int32)), .val (.long (F2 q1)), .second, .unset]) rfl ?_
          show Steps p.tables e below (T165.setTop (mkF m 141 #[.val (.long q1), .second, .val (.int p2), .val (.int (p2 &&& (63 : Int32))), .val (.int ((p2 &&& (63 : Int32)) &&& (7 : Int32))), .val (.int (((p2 &&& (63 : Int32)).toUInt32 >>> ((3 : Int32) &&& 31).toUInt32).toInt32)), .val (.int (1 : Int32)), .val (.long (F2 q1)), .second, .unset] [])) _
          refine XS.lload X165.here hx rfl (hb hby at_141) rfl ?_
          show Steps p.tables e below (T165.setTop (mkF m 143 #[.val (.long q1), .second, .val (.int p2), .val (.int (p2 &&& (63 : Int32))), .val (.int ((p2 &&& (63 : Int32)) &&& (7 : Int32))), .val (.int (((p2 &&& (63 : Int32)).toUInt32 >>> ((3 : Int32) &&& 31).toUInt32).toInt32)), .val (.int (1 : Int32)), .val (.long (F2 q1)), .second, .unset] [(.long (F2 q1))])) _
          refine XS.iloadN X165.here hx rfl (hb hby at_143) rfl ?_
          show Steps p.tables e below (T165.setTop (mkF m 144 #[.val (.long q1), .second, .val (.int p2), .val (.int (p2 &&& (63 : Int32))), .val (.int ((p2 &&& (63 : Int32)) &&& (7 : Int32))), .val (.int (((p2 &&& (63 : Int32)).toUInt32 >>> ((3 : Int32) &&& 31).toUInt32).toInt32)), .val (.int (1 : Int32)), .val (.long (F2 q1)), .second, .unset] [(.int (p2 &&& (63 : Int32))), (.long (F2 q1))])) _
          refine XS.lushr X165.here hx rfl (hb hby at_144) rfl ?_
          show Steps p.tables e below (T165.setTop (mkF m 145 #[.val (.long q1), .second, .val (.int p2), .val (.int (p2 &&& (63 : Int32))), .val (.int ((p2 &&& (63 : Int32)) &&& (7 : Int32))), .val (.int (((p2 &&& (63 : Int32)).toUInt32 >>> ((3 : Int32) &&& 31).toUInt32).toInt32)), .val (.int (1 : Int32)), .val (.long (F2 q1)), .second, .unset] [(.long (((F2 q1).toUInt64 >>> ((p2 &&& (63 : Int32)) &&& 0x3f).toInt64.toUInt64).toInt64))])) _
          refine XS.lconst X165.here hx rfl (hb hby at_145) ?_
          show Steps p.tables e below (T165.setTop (mkF m 146 #[.val (.long q1), .second, .val (.int p2), .val (.int (p2 &&& (63 : Int32))), .val (.int ((p2 &&& (63 : Int32)) &&& (7 : Int32))), .val (.int (((p2 &&& (63 : Int32)).toUInt32 >>> ((3 : Int32) &&& 31).toUInt32).toInt32)), .val (.int (1 : Int32)), .val (.long (F2 q1)), .second, .unset] [(.long (1 : Int64)), (.long (((F2 q1).toUInt64 >>> ((p2 &&& (63 : Int32)) &&& 0x3f).toInt64.toUInt64).toInt64))])) _
          refine XS.land X165.here hx rfl (hb hby at_146) rfl ?_
          show Steps p.tables e below (T165.setTop (mkF m 147 #[.val (.long q1), .second, .val (.int p2), .val (.int (p2 &&& (63 : Int32))), .val (.int ((p2 &&& (63 : Int32)) &&& (7 : Int32))), .val (.int (((p2 &&& (63 : Int32)).toUInt32 >>> ((3 : Int32) &&& 31).toUInt32).toInt32)), .val (.int (1 : Int32)), .val (.long (F2 q1)), .second, .unset] [(.long ((((F2 q1).toUInt64 >>> ((p2 &&& (63 : Int32)) &&& 0x3f).toInt64.toUInt64).toInt64) &&& (1 : Int64)))])) _
          refine XS.lconst X165.here hx rfl (hb hby at_147) ?_
          show Steps p.tables e below (T165.setTop (mkF m 148 #[.val (.long q1), .second, .val (.int p2), .val (.int (p2 &&& (63 : Int32))), .val (.int ((p2 &&& (63 : Int32)) &&& (7 : Int32))), .val (.int (((p2 &&& (63 : Int32)).toUInt32 >>> ((3 : Int32) &&& 31).toUInt32).toInt32)), .val (.int (1 : Int32)), .val (.long (F2 q1)), .second, .unset] [(.long (0 : Int64)), (.long ((((F2 q1).toUInt64 >>> ((p2 &&& (63 : Int32)) &&& 0x3f).toInt64.toUInt64).toInt64) &&& (1 : Int64)))])) _
          refine XS.lcmp X165.here hx rfl (hb hby at_148) rfl ?_
          exact k
        by_cases hc168 : (lcmpW ((((F2 q1).toUInt64 >>> ((p2 &&& (63 : Int32)) &&& 0x3f).toInt64.toUInt64).toInt64) &&& (1 : Int64)) (0 : Int64)) = (0 : Int32)
        · have pre169 : ∀ t, Steps p.tables e below (T165.setTop (mkF m 156 #[.val (.long q1), .second, .val (.int p2), .val (.int (p2 &&& (63 : Int32))), .val (.int ((p2 &&& (63 : Int32)) &&& (7 : Int32))), .val (.int (((p2 &&& (63 : Int32)).toUInt32 >>> ((3 : Int32) &&& 31).toUInt32).toInt32)), .val (.int (1 : Int32)), .val (.long (F2 q1)), .second, .unset] [])) t → Steps p.tables e below (s₁.setTop (entryFrame m #[(.long q1), (.int p2)] maxLocals)) t := by
            intro t k
            refine pre167 _ ?_
            show Steps p.tables e below (T165.setTop (mkF m 149 #[.val (.long q1), .second, .val (.int p2), .val (.int (p2 &&& (63 : Int32))), .val (.int ((p2 &&& (63 : Int32)) &&& (7 : Int32))), .val (.int (((p2 &&& (63 : Int32)).toUInt32 >>> ((3 : Int32) &&& 31).toUInt32).toInt32)), .val (.int (1 : Int32)), .val (.long (F2 q1)), .second, .unset] [(.int (lcmpW ((((F2 q1).toUInt64 >>> ((p2 &&& (63 : Int32)) &&& 0x3f).toInt64.toUInt64).toInt64) &&& (1 : Int64)) (0 : Int64)))])) _
            refine XS.ifYes X165.here hx rfl (pc0 := 149) (pc' := 156) rfl (hb hby at_149) rfl ((if0 _ _).trans (teq hc168).1) (by decide) (by decide) ?_
            exact k
          have pre170 : ∀ t, Steps p.tables e below (T165.setTop (mkF m 163 #[.val (.long q1), .second, .val (.int p2), .val (.int (p2 &&& (63 : Int32))), .val (.int ((p2 &&& (63 : Int32)) &&& (7 : Int32))), .val (.int (((p2 &&& (63 : Int32)).toUInt32 >>> ((3 : Int32) &&& 31).toUInt32).toInt32)), .val (.int (1 : Int32)), .val (.long (F2 q1)), .second, .val (.int (0 : Int32))] [(.int (1 : Int32)), (.int (0 : Int32))])) t → Steps p.tables e below (s₁.setTop (entryFrame m #[(.long q1), (.int p2)] maxLocals)) t := by
            intro t k
            refine pre169 _ ?_
            show Steps p.tables e below (T165.setTop (mkF m 156 #[.val (.long q1), .second, .val (.int p2), .val (.int (p2 &&& (63 : Int32))), .val (.int ((p2 &&& (63 : Int32)) &&& (7 : Int32))), .val (.int (((p2 &&& (63 : Int32)).toUInt32 >>> ((3 : Int32) &&& 31).toUInt32).toInt32)), .val (.int (1 : Int32)), .val (.long (F2 q1)), .second, .unset] [])) _
            refine XS.iconst X165.here hx rfl (hb hby at_156) ?_
            show Steps p.tables e below (T165.setTop (mkF m 157 #[.val (.long q1), .second, .val (.int p2), .val (.int (p2 &&& (63 : Int32))), .val (.int ((p2 &&& (63 : Int32)) &&& (7 : Int32))), .val (.int (((p2 &&& (63 : Int32)).toUInt32 >>> ((3 : Int32) &&& 31).toUInt32).toInt32)), .val (.int (1 : Int32)), .val (.long (F2 q1)), .second, .unset] [(.int (0 : Int32))])) _
            refine XS.istore X165.here hx rfl (hb hby at_157) rfl (l' := #[.val (.long q1), .second, .val (.int p2), .val (.int (p2 &&& (63 : Int32))), .val (.int ((p2 &&& (63 : Int32)) &&& (7 : Int32))), .val (.int (((p2 &&& (63 : Int32)).toUInt32 >>> ((3 : Int32) &&& 31).toUInt32).toInt32)), .val (.int (1 : Int32)), .val (.long (F2 q1)), .second, .val (.int (0 : Int32))]) rfl ?_
            show Steps p.tables e below (T165.setTop (mkF m 159 #[.val (.long q1), .second, .val (.int p2), .val (.int (p2 &&& (63 : Int32))), .val (.int ((p2 &&& (63 : Int32)) &&& (7 : Int32))), .val (.int (((p2 &&& (63 : Int32)).toUInt32 >>> ((3 : Int32) &&& 31).toUInt32).toInt32)), .val (.int (1 : Int32)), .val (.long (F2 q1)), .second, .val (.int (0 : Int32))] [])) _
            refine XS.iload X165.here hx rfl (hb hby at_159) rfl ?_
            show Steps p.tables e below (T165.setTop (mkF m 161 #[.val (.long q1), .second, .val (.int p2), .val (.int (p2 &&& (63 : Int32))), .val (.int ((p2 &&& (63 : Int32)) &&& (7 : Int32))), .val (.int (((p2 &&& (63 : Int32)).toUInt32 >>> ((3 : Int32) &&& 31).toUInt32).toInt32)), .val (.int (1 : Int32)), .val (.long (F2 q1)), .second, .val (.int (0 : Int32))] [(.int (0 : Int32))])) _
            refine XS.iload X165.here hx rfl (hb hby at_161) rfl ?_
            exact k
          have pre172 : ∀ t, Steps p.tables e below (T165.setTop (mkF m 170 #[.val (.long q1), .second, .val (.int p2), .val (.int (p2 &&& (63 : Int32))), .val (.int ((p2 &&& (63 : Int32)) &&& (7 : Int32))), .val (.int (((p2 &&& (63 : Int32)).toUInt32 >>> ((3 : Int32) &&& 31).toUInt32).toInt32)), .val (.int (1 : Int32)), .val (.long (F2 q1)), .second, .val (.int (0 : Int32))] [])) t → Steps p.tables e below (s₁.setTop (entryFrame m #[(.long q1), (.int p2)] maxLocals)) t := by
            intro t k
            refine pre170 _ ?_
            show Steps p.tables e below (T165.setTop (mkF m 163 #[.val (.long q1), .second, .val (.int p2), .val (.int (p2 &&& (63 : Int32))), .val (.int ((p2 &&& (63 : Int32)) &&& (7 : Int32))), .val (.int (((p2 &&& (63 : Int32)).toUInt32 >>> ((3 : Int32) &&& 31).toUInt32).toInt32)), .val (.int (1 : Int32)), .val (.long (F2 q1)), .second, .val (.int (0 : Int32))] [(.int (1 : Int32)), (.int (0 : Int32))])) _
            refine XS.icmpYes X165.here hx rfl (pc0 := 163) (pc' := 170) rfl (hb hby at_163) rfl (feq (by decide : ¬ ((0 : Int32) = (1 : Int32)))).2 (by decide) (by decide) ?_
            exact k
          have pre173 : ∀ t, Steps p.tables e below (T165.setTop (mkF m 171 #[.val (.long q1), .second, .val (.int p2), .val (.int (p2 &&& (63 : Int32))), .val (.int ((p2 &&& (63 : Int32)) &&& (7 : Int32))), .val (.int (((p2 &&& (63 : Int32)).toUInt32 >>> ((3 : Int32) &&& 31).toUInt32).toInt32)), .val (.int (1 : Int32)), .val (.long (F2 q1)), .second, .val (.int (0 : Int32))] [(.int (0 : Int32))])) t → Steps p.tables e below (s₁.setTop (entryFrame m #[(.long q1), (.int p2)] maxLocals)) t := by
            intro t k
            refine pre172 _ ?_
            show Steps p.tables e below (T165.setTop (mkF m 170 #[.val (.long q1), .second, .val (.int p2), .val (.int (p2 &&& (63 : Int32))), .val (.int ((p2 &&& (63 : Int32)) &&& (7 : Int32))), .val (.int (((p2 &&& (63 : Int32)).toUInt32 >>> ((3 : Int32) &&& 31).toUInt32).toInt32)), .val (.int (1 : Int32)), .val (.long (F2 q1)), .second, .val (.int (0 : Int32))] [])) _
            refine XS.iconst X165.here hx rfl (hb hby at_170) ?_
            exact k
          obtain ⟨fs, hr, hrun, hended, hW, hsame⟩ := X165.leave (v := some (.int (0 : Int32))) (fun h => by rw [Bd.returns] at h; cases h)
          refine ⟨_, _, pre173 _ ?_, hrun, hended, _, _, rfl, ?_, ⟨_, rfl⟩, hW, hsame.mono (by decide) (by decide)⟩
          · show Steps p.tables e below (T165.setTop (mkF m 171 #[.val (.long q1), .second, .val (.int p2), .val (.int (p2 &&& (63 : Int32))), .val (.int ((p2 &&& (63 : Int32)) &&& (7 : Int32))), .val (.int (((p2 &&& (63 : Int32)).toUInt32 >>> ((3 : Int32) &&& 31).toUInt32).toInt32)), .val (.int (1 : Int32)), .val (.long (F2 q1)), .second, .val (.int (0 : Int32))] [(.int (0 : Int32))])) _
            exact retN X165 hx (t := .boolean) Bd.returns (by simp) (hb hby at_171) hr
          · show Q0 Z q1 p2 h0 n0 _ T165.heap _
            rw [e165]
            exact ⟨(by rw [F0, if_pos hc31, if_pos hc36, if_neg hc41, if_pos hc168]), N165, rfl⟩
        · have pre174 : ∀ t, Steps p.tables e below (T165.setTop (mkF m 152 #[.val (.long q1), .second, .val (.int p2), .val (.int (p2 &&& (63 : Int32))), .val (.int ((p2 &&& (63 : Int32)) &&& (7 : Int32))), .val (.int (((p2 &&& (63 : Int32)).toUInt32 >>> ((3 : Int32) &&& 31).toUInt32).toInt32)), .val (.int (1 : Int32)), .val (.long (F2 q1)), .second, .unset] [])) t → Steps p.tables e below (s₁.setTop (entryFrame m #[(.long q1), (.int p2)] maxLocals)) t := by
            intro t k
            refine pre167 _ ?_
            show Steps p.tables e below (T165.setTop (mkF m 149 #[.val (.long q1), .second, .val (.int p2), .val (.int (p2 &&& (63 : Int32))), .val (.int ((p2 &&& (63 : Int32)) &&& (7 : Int32))), .val (.int (((p2 &&& (63 : Int32)).toUInt32 >>> ((3 : Int32) &&& 31).toUInt32).toInt32)), .val (.int (1 : Int32)), .val (.long (F2 q1)), .second, .unset] [(.int (lcmpW ((((F2 q1).toUInt64 >>> ((p2 &&& (63 : Int32)) &&& 0x3f).toInt64.toUInt64).toInt64) &&& (1 : Int64)) (0 : Int64)))])) _
            refine XS.ifNo X165.here hx rfl (hb hby at_149) rfl ((if0 _ _).trans (feq hc168).1) ?_
            exact k
          have pre175 : ∀ t, Steps p.tables e below (T165.setTop (mkF m 163 #[.val (.long q1), .second, .val (.int p2), .val (.int (p2 &&& (63 : Int32))), .val (.int ((p2 &&& (63 : Int32)) &&& (7 : Int32))), .val (.int (((p2 &&& (63 : Int32)).toUInt32 >>> ((3 : Int32) &&& 31).toUInt32).toInt32)), .val (.int (1 : Int32)), .val (.long (F2 q1)), .second, .val (.int (1 : Int32))] [(.int (1 : Int32)), (.int (1 : Int32))])) t → Steps p.tables e below (s₁.setTop (entryFrame m #[(.long q1), (.int p2)] maxLocals)) t := by
            intro t k
            refine pre174 _ ?_
            show Steps p.tables e below (T165.setTop (mkF m 152 #[.val (.long q1), .second, .val (.int p2), .val (.int (p2 &&& (63 : Int32))), .val (.int ((p2 &&& (63 : Int32)) &&& (7 : Int32))), .val (.int (((p2 &&& (63 : Int32)).toUInt32 >>> ((3 : Int32) &&& 31).toUInt32).toInt32)), .val (.int (1 : Int32)), .val (.long (F2 q1)), .second, .unset] [])) _
            refine XS.iconst X165.here hx rfl (hb hby at_152) ?_
            show Steps p.tables e below (T165.setTop (mkF m 153 #[.val (.long q1), .second, .val (.int p2), .val (.int (p2 &&& (63 : Int32))), .val (.int ((p2 &&& (63 : Int32)) &&& (7 : Int32))), .val (.int (((p2 &&& (63 : Int32)).toUInt32 >>> ((3 : Int32) &&& 31).toUInt32).toInt32)), .val (.int (1 : Int32)), .val (.long (F2 q1)), .second, .unset] [(.int (1 : Int32))])) _
            refine XS.goto X165.here hx rfl (pc0 := 153) (pc' := 157) rfl (hb hby at_153) (by decide) (by decide) ?_
            show Steps p.tables e below (T165.setTop (mkF m 157 #[.val (.long q1), .second, .val (.int p2), .val (.int (p2 &&& (63 : Int32))), .val (.int ((p2 &&& (63 : Int32)) &&& (7 : Int32))), .val (.int (((p2 &&& (63 : Int32)).toUInt32 >>> ((3 : Int32) &&& 31).toUInt32).toInt32)), .val (.int (1 : Int32)), .val (.long (F2 q1)), .second, .unset] [(.int (1 : Int32))])) _
            refine XS.istore X165.here hx rfl (hb hby at_157) rfl (l' := #[.val (.long q1), .second, .val (.int p2), .val (.int (p2 &&& (63 : Int32))), .val (.int ((p2 &&& (63 : Int32)) &&& (7 : Int32))), .val (.int (((p2 &&& (63 : Int32)).toUInt32 >>> ((3 : Int32) &&& 31).toUInt32).toInt32)), .val (.int (1 : Int32)), .val (.long (F2 q1)), .second, .val (.int (1 : Int32))]) rfl ?_
            show Steps p.tables e below (T165.setTop (mkF m 159 #[.val (.long q1), .second, .val (.int p2), .val (.int (p2 &&& (63 : Int32))), .val (.int ((p2 &&& (63 : Int32)) &&& (7 : Int32))), .val (.int (((p2 &&& (63 : Int32)).toUInt32 >>> ((3 : Int32) &&& 31).toUInt32).toInt32)), .val (.int (1 : Int32)), .val (.long (F2 q1)), .second, .val (.int (1 : Int32))] [])) _
            refine XS.iload X165.here hx rfl (hb hby at_159) rfl ?_
            show Steps p.tables e below (T165.setTop (mkF m 161 #[.val (.long q1), .second, .val (.int p2), .val (.int (p2 &&& (63 : Int32))), .val (.int ((p2 &&& (63 : Int32)) &&& (7 : Int32))), .val (.int (((p2 &&& (63 : Int32)).toUInt32 >>> ((3 : Int32) &&& 31).toUInt32).toInt32)), .val (.int (1 : Int32)), .val (.long (F2 q1)), .second, .val (.int (1 : Int32))] [(.int (1 : Int32))])) _
            refine XS.iload X165.here hx rfl (hb hby at_161) rfl ?_
            exact k
          have pre177 : ∀ t, Steps p.tables e below (T165.setTop (mkF m 166 #[.val (.long q1), .second, .val (.int p2), .val (.int (p2 &&& (63 : Int32))), .val (.int ((p2 &&& (63 : Int32)) &&& (7 : Int32))), .val (.int (((p2 &&& (63 : Int32)).toUInt32 >>> ((3 : Int32) &&& 31).toUInt32).toInt32)), .val (.int (1 : Int32)), .val (.long (F2 q1)), .second, .val (.int (1 : Int32))] [])) t → Steps p.tables e below (s₁.setTop (entryFrame m #[(.long q1), (.int p2)] maxLocals)) t := by
            intro t k
            refine pre175 _ ?_
            show Steps p.tables e below (T165.setTop (mkF m 163 #[.val (.long q1), .second, .val (.int p2), .val (.int (p2 &&& (63 : Int32))), .val (.int ((p2 &&& (63 : Int32)) &&& (7 : Int32))), .val (.int (((p2 &&& (63 : Int32)).toUInt32 >>> ((3 : Int32) &&& 31).toUInt32).toInt32)), .val (.int (1 : Int32)), .val (.long (F2 q1)), .second, .val (.int (1 : Int32))] [(.int (1 : Int32)), (.int (1 : Int32))])) _
            refine XS.icmpNo X165.here hx rfl (hb hby at_163) rfl (teq (by decide : (1 : Int32) = (1 : Int32))).2 ?_
            exact k
          have pre178 : ∀ t, Steps p.tables e below (T165.setTop (mkF m 171 #[.val (.long q1), .second, .val (.int p2), .val (.int (p2 &&& (63 : Int32))), .val (.int ((p2 &&& (63 : Int32)) &&& (7 : Int32))), .val (.int (((p2 &&& (63 : Int32)).toUInt32 >>> ((3 : Int32) &&& 31).toUInt32).toInt32)), .val (.int (1 : Int32)), .val (.long (F2 q1)), .second, .val (.int (1 : Int32))] [(.int (1 : Int32))])) t → Steps p.tables e below (s₁.setTop (entryFrame m #[(.long q1), (.int p2)] maxLocals)) t := by
            intro t k
            refine pre177 _ ?_
            show Steps p.tables e below (T165.setTop (mkF m 166 #[.val (.long q1), .second, .val (.int p2), .val (.int (p2 &&& (63 : Int32))), .val (.int ((p2 &&& (63 : Int32)) &&& (7 : Int32))), .val (.int (((p2 &&& (63 : Int32)).toUInt32 >>> ((3 : Int32) &&& 31).toUInt32).toInt32)), .val (.int (1 : Int32)), .val (.long (F2 q1)), .second, .val (.int (1 : Int32))] [])) _
            refine XS.iconst X165.here hx rfl (hb hby at_166) ?_
            show Steps p.tables e below (T165.setTop (mkF m 167 #[.val (.long q1), .second, .val (.int p2), .val (.int (p2 &&& (63 : Int32))), .val (.int ((p2 &&& (63 : Int32)) &&& (7 : Int32))), .val (.int (((p2 &&& (63 : Int32)).toUInt32 >>> ((3 : Int32) &&& 31).toUInt32).toInt32)), .val (.int (1 : Int32)), .val (.long (F2 q1)), .second, .val (.int (1 : Int32))] [(.int (1 : Int32))])) _
            refine XS.goto X165.here hx rfl (pc0 := 167) (pc' := 171) rfl (hb hby at_167) (by decide) (by decide) ?_
            exact k
          obtain ⟨fs, hr, hrun, hended, hW, hsame⟩ := X165.leave (v := some (.int (1 : Int32))) (fun h => by rw [Bd.returns] at h; cases h)
          refine ⟨_, _, pre178 _ ?_, hrun, hended, _, _, rfl, ?_, ⟨_, rfl⟩, hW, hsame.mono (by decide) (by decide)⟩
          · show Steps p.tables e below (T165.setTop (mkF m 171 #[.val (.long q1), .second, .val (.int p2), .val (.int (p2 &&& (63 : Int32))), .val (.int ((p2 &&& (63 : Int32)) &&& (7 : Int32))), .val (.int (((p2 &&& (63 : Int32)).toUInt32 >>> ((3 : Int32) &&& 31).toUInt32).toInt32)), .val (.int (1 : Int32)), .val (.long (F2 q1)), .second, .val (.int (1 : Int32))] [(.int (1 : Int32))])) _
            exact retN X165 hx (t := .boolean) Bd.returns (by simp) (hb hby at_171) hr
          · show Q0 Z q1 p2 h0 n0 _ T165.heap _
            rw [e165]
            exact ⟨(by rw [F0, if_pos hc31, if_pos hc36, if_neg hc41, if_neg hc168]), N165, rfl⟩
    · have pre179 : ∀ t, Steps p.tables e below (T34.setTop (mkF m 128 #[.val (.long q1), .second, .val (.int p2), .val (.int (p2 &&& (63 : Int32))), .val (.int ((p2 &&& (63 : Int32)) &&& (7 : Int32))), .val (.int (((p2 &&& (63 : Int32)).toUInt32 >>> ((3 : Int32) &&& 31).toUInt32).toInt32)), .unset, .unset, .unset, .unset] [])) t → Steps p.tables e below (s₁.setTop (entryFrame m #[(.long q1), (.int p2)] maxLocals)) t := by
        intro t k
        refine pre35 _ ?_
        show Steps p.tables e below (T34.setTop (mkF m 41 #[.val (.long q1), .second, .val (.int p2), .val (.int (p2 &&& (63 : Int32))), .val (.int ((p2 &&& (63 : Int32)) &&& (7 : Int32))), .val (.int (((p2 &&& (63 : Int32)).toUInt32 >>> ((3 : Int32) &&& 31).toUInt32).toInt32)), .unset, .unset, .unset, .unset] [(.int (F1 q1 ((p2 &&& (63 : Int32)) &&& (7 : Int32)) ((((p2 &&& (63 : Int32)).toUInt32 >>> ((3 : Int32) &&& 31).toUInt32).toInt32) - (1 : Int32))))])) _
        refine XS.ifYes X34.here hx rfl (pc0 := 41) (pc' := 128) rfl (hb hby at_41) rfl ((if0 _ _).trans (feq hc36).2) (by decide) (by decide) ?_
        exact k
      have pre180 : ∀ t, Steps p.tables e below (T34.setTop (mkF m 136 #[.val (.long q1), .second, .val (.int p2), .val (.int (p2 &&& (63 : Int32))), .val (.int ((p2 &&& (63 : Int32)) &&& (7 : Int32))), .val (.int (((p2 &&& (63 : Int32)).toUInt32 >>> ((3 : Int32) &&& 31).toUInt32).toInt32)), .val (.int (1 : Int32)), .unset, .unset, .unset] [(.long q1)])) t → Steps p.tables e below (s₁.setTop (entryFrame m #[(.long q1), (.int p2)] maxLocals)) t := by
        intro t k
        refine pre179 _ ?_
        show Steps p.tables e below (T34.setTop (mkF m 128 #[.val (.long q1), .second, .val (.int p2), .val (.int (p2 &&& (63 : Int32))), .val (.int ((p2 &&& (63 : Int32)) &&& (7 : Int32))), .val (.int (((p2 &&& (63 : Int32)).toUInt32 >>> ((3 : Int32) &&& 31).toUInt32).toInt32)), .unset, .unset, .unset, .unset] [])) _
        refine XS.iconst X34.here hx rfl (hb hby at_128) ?_
        show Steps p.tables e below (T34.setTop (mkF m 129 #[.val (.long q1), .second, .val (.int p2), .val (.int (p2 &&& (63 : Int32))), .val (.int ((p2 &&& (63 : Int32)) &&& (7 : Int32))), .val (.int (((p2 &&& (63 : Int32)).toUInt32 >>> ((3 : Int32) &&& 31).toUInt32).toInt32)), .unset, .unset, .unset, .unset] [(.int (1 : Int32))])) _
        refine XS.goto X34.here hx rfl (pc0 := 129) (pc' := 133) rfl (hb hby at_129) (by decide) (by decide) ?_
        show Steps p.tables e below (T34.setTop (mkF m 133 #[.val (.long q1), .second, .val (.int p2), .val (.int (p2 &&& (63 : Int32))), .val (.int ((p2 &&& (63 : Int32)) &&& (7 : Int32))), .val (.int (((p2 &&& (63 : Int32)).toUInt32 >>> ((3 : Int32) &&& 31).toUInt32).toInt32)), .unset, .unset, .unset, .unset] [(.int (1 : Int32))])) _
        refine XS.istore X34.here hx rfl (hb hby at_133) rfl (l' := #[.val (.long q1), .second, .val (.int p2), .val (.int (p2 &&& (63 : Int32))), .val (.int ((p2 &&& (63 : Int32)) &&& (7 : Int32))), .val (.int (((p2 &&& (63 : Int32)).toUInt32 >>> ((3 : Int32) &&& 31).toUInt32).toInt32)), .val (.int (1 : Int32)), .unset, .unset, .unset]) rfl ?_
        show Steps p.tables e below (T34.setTop (mkF m 135 #[.val (.long q1), .second, .val (.int p2), .val (.int (p2 &&& (63 : Int32))), .val (.int ((p2 &&& (63 : Int32)) &&& (7 : Int32))), .val (.int (((p2 &&& (63 : Int32)).toUInt32 >>> ((3 : Int32) &&& 31).toUInt32).toInt32)), .val (.int (1 : Int32)), .unset, .unset, .unset] [])) _
        refine XS.lloadN X34.here hx rfl (hb hby at_135) rfl ?_
        exact k
      obtain ⟨_, _, ⟨T181, L181, k181, n181⟩, -, X181, ⟨Lc181, hQ181, l181, y181, z181⟩, st181⟩ := Jvm.LawKit.callS X34 hx (y := (⟨"com/example/tabuleiro/tabuleiro/othello/OthelloPosition", "neighbours", "(J)J"⟩ : MethodName)) hown (mvT hZ (hw _ (List.mem_of_getElem? (i := 4) rfl))) (mvT hZ (hw _ (List.mem_of_getElem? (i := 5) rfl))) (mvT hZ (hw _ (List.mem_of_getElem? (i := 6) rfl))) (mvT hZ (hw _ (List.mem_of_getElem? (i := 7) rfl))) (by decide) (backOf (W := 0) (rm2 l Z a0 hw [] q1 h0 n0 Z0 ) hZ (hw _ (List.mem_of_getElem? (i := 7) rfl)) (hw _ (List.mem_of_getElem? (i := 6) rfl)) (by decide) (by decide)) (g := (mkF m 136 #[.val (.long q1), .second, .val (.int p2), .val (.int (p2 &&& (63 : Int32))), .val (.int ((p2 &&& (63 : Int32)) &&& (7 : Int32))), .val (.int (((p2 &&& (63 : Int32)).toUInt32 >>> ((3 : Int32) &&& 31).toUInt32).toInt32)), .val (.int (1 : Int32)), .unset, .unset, .unset] [(.long q1)])) rfl (by rw [hml]; rfl) (argsL := [(.long q1)]) (rest := []) (lenOf pd__J_J rfl) rfl (by show 2 * 0 + _ ≤ _; exact Nat.le_of_eq rfl) (hb hby at_136) (fun _ _ => ⟨rfl, e34, (by decide : 0 + 0 ≤ _), (by decide : 0 + 0 ≤ _)⟩)
      dsimp only [Pt.U, Pt.locs, Pt.cells, Pt.slots] at X181 l181 y181 z181 st181 hQ181
      subst l181 y181 z181
      obtain ⟨rfl, N181q, e181⟩ := hQ181
      have N181 := Fr.app N34 N181q
      have pre182 : ∀ t, Steps p.tables e below (T181.setTop (mkF m 139 #[.val (.long q1), .second, .val (.int p2), .val (.int (p2 &&& (63 : Int32))), .val (.int ((p2 &&& (63 : Int32)) &&& (7 : Int32))), .val (.int (((p2 &&& (63 : Int32)).toUInt32 >>> ((3 : Int32) &&& 31).toUInt32).toInt32)), .val (.int (1 : Int32)), .unset, .unset, .unset] [(.long (F2 q1))])) t → Steps p.tables e below (s₁.setTop (entryFrame m #[(.long q1), (.int p2)] maxLocals)) t := by
        intro t k
        refine pre180 _ ?_
        show Steps p.tables e below (T34.setTop (mkF m 136 #[.val (.long q1), .second, .val (.int p2), .val (.int (p2 &&& (63 : Int32))), .val (.int ((p2 &&& (63 : Int32)) &&& (7 : Int32))), .val (.int (((p2 &&& (63 : Int32)).toUInt32 >>> ((3 : Int32) &&& 31).toUInt32).toInt32)), .val (.int (1 : Int32)), .unset, .unset, .unset] [(.long q1)])) _
        refine st181 _ ?_
        exact k
      have pre183 : ∀ t, Steps p.tables e below (T181.setTop (mkF m 149 #[.val (.long q1), .second, .val (.int p2), .val (.int (p2 &&& (63 : Int32))), .val (.int ((p2 &&& (63 : Int32)) &&& (7 : Int32))), .val (.int (((p2 &&& (63 : Int32)).toUInt32 >>> ((3 : Int32) &&& 31).toUInt32).toInt32)), .val (.int (1 : Int32)), .val (.long (F2 q1)), .second, .unset] [(.int (lcmpW ((((F2 q1).toUInt64 >>> ((p2 &&& (63 : Int32)) &&& 0x3f).toInt64.toUInt64).toInt64) &&& (1 : Int64)) (0 : Int64)))])) t → Steps p.tables e below (s₁.setTop (entryFrame m #[(.long q1), (.int p2)] maxLocals)) t := by
        intro t k
        refine pre182 _ ?_
        show Steps p.tables e below (T181.setTop (mkF m 139 #[.val (.long q1), .second, .val (.int p2), .val (.int (p2 &&& (63 : Int32))), .val (.int ((p2 &&& (63 : Int32)) &&& (7 : Int32))), .val (.int (((p2 &&& (63 : Int32)).toUInt32 >>> ((3 : Int32) &&& 31).toUInt32).toInt32)), .val (.int (1 : Int32)), .unset, .unset, .unset] [(.long (F2 q1))])) _
        refine XS.lstore X181.here hx rfl (hb hby at_139) rfl (l' := #[.val (.long q1), .second, .val (.int p2), .val (.int (p2 &&& (63 : Int32))), .val (.int ((p2 &&& (63 : Int32)) &&& (7 : Int32))), .val (.int (((p2 &&& (63 : Int32)).toUInt32 >>> ((3 : Int32) &&& 31).toUInt32).toInt32)), .val (.int (1 : Int32)), .val (.long (F2 q1)), .second, .unset]) rfl ?_
        show Steps p.tables e below (T181.setTop (mkF m 141 #[.val (.long q1), .second, .val (.int p2), .val (.int (p2 &&& (63 : Int32))), .val (.int ((p2 &&& (63 : Int32)) &&& (7 : Int32))), .val (.int (((p2 &&& (63 : Int32)).toUInt32 >>> ((3 : Int32) &&& 31).toUInt32).toInt32)), .val (.int (1 : Int32)), .val (.long (F2 q1)), .second, .unset] [])) _
        refine XS.lload X181.here hx rfl (hb hby at_141) rfl ?_
        show Steps p.tables e below (T181.setTop (mkF m 143 #[.val (.long q1), .second, .val (.int p2), .val (.int (p2 &&& (63 : Int32))), .val (.int ((p2 &&& (63 : Int32)) &&& (7 : Int32))), .val (.int (((p2 &&& (63 : Int32)).toUInt32 >>> ((3 : Int32) &&& 31).toUInt32).toInt32)), .val (.int (1 : Int32)), .val (.long (F2 q1)), .second, .unset] [(.long (F2 q1))])) _
        refine XS.iloadN X181.here hx rfl (hb hby at_143) rfl ?_
        show Steps p.tables e below (T181.setTop (mkF m 144 #[.val (.long q1), .second, .val (.int p2), .val (.int (p2 &&& (63 : Int32))), .val (.int ((p2 &&& (63 : Int32)) &&& (7 : Int32))), .val (.int (((p2 &&& (63 : Int32)).toUInt32 >>> ((3 : Int32) &&& 31).toUInt32).toInt32)), .val (.int (1 : Int32)), .val (.long (F2 q1)), .second, .unset] [(.int (p2 &&& (63 : Int32))), (.long (F2 q1))])) _
        refine XS.lushr X181.here hx rfl (hb hby at_144) rfl ?_
        show Steps p.tables e below (T181.setTop (mkF m 145 #[.val (.long q1), .second, .val (.int p2), .val (.int (p2 &&& (63 : Int32))), .val (.int ((p2 &&& (63 : Int32)) &&& (7 : Int32))), .val (.int (((p2 &&& (63 : Int32)).toUInt32 >>> ((3 : Int32) &&& 31).toUInt32).toInt32)), .val (.int (1 : Int32)), .val (.long (F2 q1)), .second, .unset] [(.long (((F2 q1).toUInt64 >>> ((p2 &&& (63 : Int32)) &&& 0x3f).toInt64.toUInt64).toInt64))])) _
        refine XS.lconst X181.here hx rfl (hb hby at_145) ?_
        show Steps p.tables e below (T181.setTop (mkF m 146 #[.val (.long q1), .second, .val (.int p2), .val (.int (p2 &&& (63 : Int32))), .val (.int ((p2 &&& (63 : Int32)) &&& (7 : Int32))), .val (.int (((p2 &&& (63 : Int32)).toUInt32 >>> ((3 : Int32) &&& 31).toUInt32).toInt32)), .val (.int (1 : Int32)), .val (.long (F2 q1)), .second, .unset] [(.long (1 : Int64)), (.long (((F2 q1).toUInt64 >>> ((p2 &&& (63 : Int32)) &&& 0x3f).toInt64.toUInt64).toInt64))])) _
        refine XS.land X181.here hx rfl (hb hby at_146) rfl ?_
        show Steps p.tables e below (T181.setTop (mkF m 147 #[.val (.long q1), .second, .val (.int p2), .val (.int (p2 &&& (63 : Int32))), .val (.int ((p2 &&& (63 : Int32)) &&& (7 : Int32))), .val (.int (((p2 &&& (63 : Int32)).toUInt32 >>> ((3 : Int32) &&& 31).toUInt32).toInt32)), .val (.int (1 : Int32)), .val (.long (F2 q1)), .second, .unset] [(.long ((((F2 q1).toUInt64 >>> ((p2 &&& (63 : Int32)) &&& 0x3f).toInt64.toUInt64).toInt64) &&& (1 : Int64)))])) _
        refine XS.lconst X181.here hx rfl (hb hby at_147) ?_
        show Steps p.tables e below (T181.setTop (mkF m 148 #[.val (.long q1), .second, .val (.int p2), .val (.int (p2 &&& (63 : Int32))), .val (.int ((p2 &&& (63 : Int32)) &&& (7 : Int32))), .val (.int (((p2 &&& (63 : Int32)).toUInt32 >>> ((3 : Int32) &&& 31).toUInt32).toInt32)), .val (.int (1 : Int32)), .val (.long (F2 q1)), .second, .unset] [(.long (0 : Int64)), (.long ((((F2 q1).toUInt64 >>> ((p2 &&& (63 : Int32)) &&& 0x3f).toInt64.toUInt64).toInt64) &&& (1 : Int64)))])) _
        refine XS.lcmp X181.here hx rfl (hb hby at_148) rfl ?_
        exact k
      by_cases hc184 : (lcmpW ((((F2 q1).toUInt64 >>> ((p2 &&& (63 : Int32)) &&& 0x3f).toInt64.toUInt64).toInt64) &&& (1 : Int64)) (0 : Int64)) = (0 : Int32)
      · have pre185 : ∀ t, Steps p.tables e below (T181.setTop (mkF m 156 #[.val (.long q1), .second, .val (.int p2), .val (.int (p2 &&& (63 : Int32))), .val (.int ((p2 &&& (63 : Int32)) &&& (7 : Int32))), .val (.int (((p2 &&& (63 : Int32)).toUInt32 >>> ((3 : Int32) &&& 31).toUInt32).toInt32)), .val (.int (1 : Int32)), .val (.long (F2 q1)), .second, .unset] [])) t → Steps p.tables e below (s₁.setTop (entryFrame m #[(.long q1), (.int p2)] maxLocals)) t := by
          intro t k
          refine pre183 _ ?_
          show Steps p.tables e below (T181.setTop (mkF m 149 #[.val (.long q1), .second, .val (.int p2), .val (.int (p2 &&& (63 : Int32))), .val (.int ((p2 &&& (63 : Int32)) &&& (7 : Int32))), .val (.int (((p2 &&& (63 : Int32)).toUInt32 >>> ((3 : Int32) &&& 31).toUInt32).toInt32)), .val (.int (1 : Int32)), .val (.long (F2 q1)), .second, .unset] [(.int (lcmpW ((((F2 q1).toUInt64 >>> ((p2 &&& (63 : Int32)) &&& 0x3f).toInt64.toUInt64).toInt64) &&& (1 : Int64)) (0 : Int64)))])) _
          refine XS.ifYes X181.here hx rfl (pc0 := 149) (pc' := 156) rfl (hb hby at_149) rfl ((if0 _ _).trans (teq hc184).1) (by decide) (by decide) ?_
          exact k
        have pre186 : ∀ t, Steps p.tables e below (T181.setTop (mkF m 163 #[.val (.long q1), .second, .val (.int p2), .val (.int (p2 &&& (63 : Int32))), .val (.int ((p2 &&& (63 : Int32)) &&& (7 : Int32))), .val (.int (((p2 &&& (63 : Int32)).toUInt32 >>> ((3 : Int32) &&& 31).toUInt32).toInt32)), .val (.int (1 : Int32)), .val (.long (F2 q1)), .second, .val (.int (0 : Int32))] [(.int (1 : Int32)), (.int (0 : Int32))])) t → Steps p.tables e below (s₁.setTop (entryFrame m #[(.long q1), (.int p2)] maxLocals)) t := by
          intro t k
          refine pre185 _ ?_
          show Steps p.tables e below (T181.setTop (mkF m 156 #[.val (.long q1), .second, .val (.int p2), .val (.int (p2 &&& (63 : Int32))), .val (.int ((p2 &&& (63 : Int32)) &&& (7 : Int32))), .val (.int (((p2 &&& (63 : Int32)).toUInt32 >>> ((3 : Int32) &&& 31).toUInt32).toInt32)), .val (.int (1 : Int32)), .val (.long (F2 q1)), .second, .unset] [])) _
          refine XS.iconst X181.here hx rfl (hb hby at_156) ?_
          show Steps p.tables e below (T181.setTop (mkF m 157 #[.val (.long q1), .second, .val (.int p2), .val (.int (p2 &&& (63 : Int32))), .val (.int ((p2 &&& (63 : Int32)) &&& (7 : Int32))), .val (.int (((p2 &&& (63 : Int32)).toUInt32 >>> ((3 : Int32) &&& 31).toUInt32).toInt32)), .val (.int (1 : Int32)), .val (.long (F2 q1)), .second, .unset] [(.int (0 : Int32))])) _
          refine XS.istore X181.here hx rfl (hb hby at_157) rfl (l' := #[.val (.long q1), .second, .val (.int p2), .val (.int (p2 &&& (63 : Int32))), .val (.int ((p2 &&& (63 : Int32)) &&& (7 : Int32))), .val (.int (((p2 &&& (63 : Int32)).toUInt32 >>> ((3 : Int32) &&& 31).toUInt32).toInt32)), .val (.int (1 : Int32)), .val (.long (F2 q1)), .second, .val (.int (0 : Int32))]) rfl ?_
          show Steps p.tables e below (T181.setTop (mkF m 159 #[.val (.long q1), .second, .val (.int p2), .val (.int (p2 &&& (63 : Int32))), .val (.int ((p2 &&& (63 : Int32)) &&& (7 : Int32))), .val (.int (((p2 &&& (63 : Int32)).toUInt32 >>> ((3 : Int32) &&& 31).toUInt32).toInt32)), .val (.int (1 : Int32)), .val (.long (F2 q1)), .second, .val (.int (0 : Int32))] [])) _
          refine XS.iload X181.here hx rfl (hb hby at_159) rfl ?_
          show Steps p.tables e below (T181.setTop (mkF m 161 #[.val (.long q1), .second, .val (.int p2), .val (.int (p2 &&& (63 : Int32))), .val (.int ((p2 &&& (63 : Int32)) &&& (7 : Int32))), .val (.int (((p2 &&& (63 : Int32)).toUInt32 >>> ((3 : Int32) &&& 31).toUInt32).toInt32)), .val (.int (1 : Int32)), .val (.long (F2 q1)), .second, .val (.int (0 : Int32))] [(.int (0 : Int32))])) _
          refine XS.iload X181.here hx rfl (hb hby at_161) rfl ?_
          exact k
        have pre188 : ∀ t, Steps p.tables e below (T181.setTop (mkF m 170 #[.val (.long q1), .second, .val (.int p2), .val (.int (p2 &&& (63 : Int32))), .val (.int ((p2 &&& (63 : Int32)) &&& (7 : Int32))), .val (.int (((p2 &&& (63 : Int32)).toUInt32 >>> ((3 : Int32) &&& 31).toUInt32).toInt32)), .val (.int (1 : Int32)), .val (.long (F2 q1)), .second, .val (.int (0 : Int32))] [])) t → Steps p.tables e below (s₁.setTop (entryFrame m #[(.long q1), (.int p2)] maxLocals)) t := by
          intro t k
          refine pre186 _ ?_
          show Steps p.tables e below (T181.setTop (mkF m 163 #[.val (.long q1), .second, .val (.int p2), .val (.int (p2 &&& (63 : Int32))), .val (.int ((p2 &&& (63 : Int32)) &&& (7 : Int32))), .val (.int (((p2 &&& (63 : Int32)).toUInt32 >>> ((3 : Int32) &&& 31).toUInt32).toInt32)), .val (.int (1 : Int32)), .val (.long (F2 q1)), .second, .val (.int (0 : Int32))] [(.int (1 : Int32)), (.int (0 : Int32))])) _
          refine XS.icmpYes X181.here hx rfl (pc0 := 163) (pc' := 170) rfl (hb hby at_163) rfl (feq (by decide : ¬ ((0 : Int32) = (1 : Int32)))).2 (by decide) (by decide) ?_
          exact k
        have pre189 : ∀ t, Steps p.tables e below (T181.setTop (mkF m 171 #[.val (.long q1), .second, .val (.int p2), .val (.int (p2 &&& (63 : Int32))), .val (.int ((p2 &&& (63 : Int32)) &&& (7 : Int32))), .val (.int (((p2 &&& (63 : Int32)).toUInt32 >>> ((3 : Int32) &&& 31).toUInt32).toInt32)), .val (.int (1 : Int32)), .val (.long (F2 q1)), .second, .val (.int (0 : Int32))] [(.int (0 : Int32))])) t → Steps p.tables e below (s₁.setTop (entryFrame m #[(.long q1), (.int p2)] maxLocals)) t := by
          intro t k
          refine pre188 _ ?_
          show Steps p.tables e below (T181.setTop (mkF m 170 #[.val (.long q1), .second, .val (.int p2), .val (.int (p2 &&& (63 : Int32))), .val (.int ((p2 &&& (63 : Int32)) &&& (7 : Int32))), .val (.int (((p2 &&& (63 : Int32)).toUInt32 >>> ((3 : Int32) &&& 31).toUInt32).toInt32)), .val (.int (1 : Int32)), .val (.long (F2 q1)), .second, .val (.int (0 : Int32))] [])) _
          refine XS.iconst X181.here hx rfl (hb hby at_170) ?_
          exact k
        obtain ⟨fs, hr, hrun, hended, hW, hsame⟩ := X181.leave (v := some (.int (0 : Int32))) (fun h => by rw [Bd.returns] at h; cases h)
        refine ⟨_, _, pre189 _ ?_, hrun, hended, _, _, rfl, ?_, ⟨_, rfl⟩, hW, hsame.mono (by decide) (by decide)⟩
        · show Steps p.tables e below (T181.setTop (mkF m 171 #[.val (.long q1), .second, .val (.int p2), .val (.int (p2 &&& (63 : Int32))), .val (.int ((p2 &&& (63 : Int32)) &&& (7 : Int32))), .val (.int (((p2 &&& (63 : Int32)).toUInt32 >>> ((3 : Int32) &&& 31).toUInt32).toInt32)), .val (.int (1 : Int32)), .val (.long (F2 q1)), .second, .val (.int (0 : Int32))] [(.int (0 : Int32))])) _
          exact retN X181 hx (t := .boolean) Bd.returns (by simp) (hb hby at_171) hr
        · show Q0 Z q1 p2 h0 n0 _ T181.heap _
          rw [e181]
          exact ⟨(by rw [F0, if_pos hc31, if_neg hc36, if_pos hc184]), N181, rfl⟩
      · have pre190 : ∀ t, Steps p.tables e below (T181.setTop (mkF m 152 #[.val (.long q1), .second, .val (.int p2), .val (.int (p2 &&& (63 : Int32))), .val (.int ((p2 &&& (63 : Int32)) &&& (7 : Int32))), .val (.int (((p2 &&& (63 : Int32)).toUInt32 >>> ((3 : Int32) &&& 31).toUInt32).toInt32)), .val (.int (1 : Int32)), .val (.long (F2 q1)), .second, .unset] [])) t → Steps p.tables e below (s₁.setTop (entryFrame m #[(.long q1), (.int p2)] maxLocals)) t := by
          intro t k
          refine pre183 _ ?_
          show Steps p.tables e below (T181.setTop (mkF m 149 #[.val (.long q1), .second, .val (.int p2), .val (.int (p2 &&& (63 : Int32))), .val (.int ((p2 &&& (63 : Int32)) &&& (7 : Int32))), .val (.int (((p2 &&& (63 : Int32)).toUInt32 >>> ((3 : Int32) &&& 31).toUInt32).toInt32)), .val (.int (1 : Int32)), .val (.long (F2 q1)), .second, .unset] [(.int (lcmpW ((((F2 q1).toUInt64 >>> ((p2 &&& (63 : Int32)) &&& 0x3f).toInt64.toUInt64).toInt64) &&& (1 : Int64)) (0 : Int64)))])) _
          refine XS.ifNo X181.here hx rfl (hb hby at_149) rfl ((if0 _ _).trans (feq hc184).1) ?_
          exact k
        have pre191 : ∀ t, Steps p.tables e below (T181.setTop (mkF m 163 #[.val (.long q1), .second, .val (.int p2), .val (.int (p2 &&& (63 : Int32))), .val (.int ((p2 &&& (63 : Int32)) &&& (7 : Int32))), .val (.int (((p2 &&& (63 : Int32)).toUInt32 >>> ((3 : Int32) &&& 31).toUInt32).toInt32)), .val (.int (1 : Int32)), .val (.long (F2 q1)), .second, .val (.int (1 : Int32))] [(.int (1 : Int32)), (.int (1 : Int32))])) t → Steps p.tables e below (s₁.setTop (entryFrame m #[(.long q1), (.int p2)] maxLocals)) t := by
          intro t k
          refine pre190 _ ?_
          show Steps p.tables e below (T181.setTop (mkF m 152 #[.val (.long q1), .second, .val (.int p2), .val (.int (p2 &&& (63 : Int32))), .val (.int ((p2 &&& (63 : Int32)) &&& (7 : Int32))), .val (.int (((p2 &&& (63 : Int32)).toUInt32 >>> ((3 : Int32) &&& 31).toUInt32).toInt32)), .val (.int (1 : Int32)), .val (.long (F2 q1)), .second, .unset] [])) _
          refine XS.iconst X181.here hx rfl (hb hby at_152) ?_
          show Steps p.tables e below (T181.setTop (mkF m 153 #[.val (.long q1), .second, .val (.int p2), .val (.int (p2 &&& (63 : Int32))), .val (.int ((p2 &&& (63 : Int32)) &&& (7 : Int32))), .val (.int (((p2 &&& (63 : Int32)).toUInt32 >>> ((3 : Int32) &&& 31).toUInt32).toInt32)), .val (.int (1 : Int32)), .val (.long (F2 q1)), .second, .unset] [(.int (1 : Int32))])) _
          refine XS.goto X181.here hx rfl (pc0 := 153) (pc' := 157) rfl (hb hby at_153) (by decide) (by decide) ?_
          show Steps p.tables e below (T181.setTop (mkF m 157 #[.val (.long q1), .second, .val (.int p2), .val (.int (p2 &&& (63 : Int32))), .val (.int ((p2 &&& (63 : Int32)) &&& (7 : Int32))), .val (.int (((p2 &&& (63 : Int32)).toUInt32 >>> ((3 : Int32) &&& 31).toUInt32).toInt32)), .val (.int (1 : Int32)), .val (.long (F2 q1)), .second, .unset] [(.int (1 : Int32))])) _
          refine XS.istore X181.here hx rfl (hb hby at_157) rfl (l' := #[.val (.long q1), .second, .val (.int p2), .val (.int (p2 &&& (63 : Int32))), .val (.int ((p2 &&& (63 : Int32)) &&& (7 : Int32))), .val (.int (((p2 &&& (63 : Int32)).toUInt32 >>> ((3 : Int32) &&& 31).toUInt32).toInt32)), .val (.int (1 : Int32)), .val (.long (F2 q1)), .second, .val (.int (1 : Int32))]) rfl ?_
          show Steps p.tables e below (T181.setTop (mkF m 159 #[.val (.long q1), .second, .val (.int p2), .val (.int (p2 &&& (63 : Int32))), .val (.int ((p2 &&& (63 : Int32)) &&& (7 : Int32))), .val (.int (((p2 &&& (63 : Int32)).toUInt32 >>> ((3 : Int32) &&& 31).toUInt32).toInt32)), .val (.int (1 : Int32)), .val (.long (F2 q1)), .second, .val (.int (1 : Int32))] [])) _
          refine XS.iload X181.here hx rfl (hb hby at_159) rfl ?_
          show Steps p.tables e below (T181.setTop (mkF m 161 #[.val (.long q1), .second, .val (.int p2), .val (.int (p2 &&& (63 : Int32))), .val (.int ((p2 &&& (63 : Int32)) &&& (7 : Int32))), .val (.int (((p2 &&& (63 : Int32)).toUInt32 >>> ((3 : Int32) &&& 31).toUInt32).toInt32)), .val (.int (1 : Int32)), .val (.long (F2 q1)), .second, .val (.int (1 : Int32))] [(.int (1 : Int32))])) _
          refine XS.iload X181.here hx rfl (hb hby at_161) rfl ?_
          exact k
        have pre193 : ∀ t, Steps p.tables e below (T181.setTop (mkF m 166 #[.val (.long q1), .second, .val (.int p2), .val (.int (p2 &&& (63 : Int32))), .val (.int ((p2 &&& (63 : Int32)) &&& (7 : Int32))), .val (.int (((p2 &&& (63 : Int32)).toUInt32 >>> ((3 : Int32) &&& 31).toUInt32).toInt32)), .val (.int (1 : Int32)), .val (.long (F2 q1)), .second, .val (.int (1 : Int32))] [])) t → Steps p.tables e below (s₁.setTop (entryFrame m #[(.long q1), (.int p2)] maxLocals)) t := by
          intro t k
          refine pre191 _ ?_
          show Steps p.tables e below (T181.setTop (mkF m 163 #[.val (.long q1), .second, .val (.int p2), .val (.int (p2 &&& (63 : Int32))), .val (.int ((p2 &&& (63 : Int32)) &&& (7 : Int32))), .val (.int (((p2 &&& (63 : Int32)).toUInt32 >>> ((3 : Int32) &&& 31).toUInt32).toInt32)), .val (.int (1 : Int32)), .val (.long (F2 q1)), .second, .val (.int (1 : Int32))] [(.int (1 : Int32)), (.int (1 : Int32))])) _
          refine XS.icmpNo X181.here hx rfl (hb hby at_163) rfl (teq (by decide : (1 : Int32) = (1 : Int32))).2 ?_
          exact k
        have pre194 : ∀ t, Steps p.tables e below (T181.setTop (mkF m 171 #[.val (.long q1), .second, .val (.int p2), .val (.int (p2 &&& (63 : Int32))), .val (.int ((p2 &&& (63 : Int32)) &&& (7 : Int32))), .val (.int (((p2 &&& (63 : Int32)).toUInt32 >>> ((3 : Int32) &&& 31).toUInt32).toInt32)), .val (.int (1 : Int32)), .val (.long (F2 q1)), .second, .val (.int (1 : Int32))] [(.int (1 : Int32))])) t → Steps p.tables e below (s₁.setTop (entryFrame m #[(.long q1), (.int p2)] maxLocals)) t := by
          intro t k
          refine pre193 _ ?_
          show Steps p.tables e below (T181.setTop (mkF m 166 #[.val (.long q1), .second, .val (.int p2), .val (.int (p2 &&& (63 : Int32))), .val (.int ((p2 &&& (63 : Int32)) &&& (7 : Int32))), .val (.int (((p2 &&& (63 : Int32)).toUInt32 >>> ((3 : Int32) &&& 31).toUInt32).toInt32)), .val (.int (1 : Int32)), .val (.long (F2 q1)), .second, .val (.int (1 : Int32))] [])) _
          refine XS.iconst X181.here hx rfl (hb hby at_166) ?_
          show Steps p.tables e below (T181.setTop (mkF m 167 #[.val (.long q1), .second, .val (.int p2), .val (.int (p2 &&& (63 : Int32))), .val (.int ((p2 &&& (63 : Int32)) &&& (7 : Int32))), .val (.int (((p2 &&& (63 : Int32)).toUInt32 >>> ((3 : Int32) &&& 31).toUInt32).toInt32)), .val (.int (1 : Int32)), .val (.long (F2 q1)), .second, .val (.int (1 : Int32))] [(.int (1 : Int32))])) _
          refine XS.goto X181.here hx rfl (pc0 := 167) (pc' := 171) rfl (hb hby at_167) (by decide) (by decide) ?_
          exact k
        obtain ⟨fs, hr, hrun, hended, hW, hsame⟩ := X181.leave (v := some (.int (1 : Int32))) (fun h => by rw [Bd.returns] at h; cases h)
        refine ⟨_, _, pre194 _ ?_, hrun, hended, _, _, rfl, ?_, ⟨_, rfl⟩, hW, hsame.mono (by decide) (by decide)⟩
        · show Steps p.tables e below (T181.setTop (mkF m 171 #[.val (.long q1), .second, .val (.int p2), .val (.int (p2 &&& (63 : Int32))), .val (.int ((p2 &&& (63 : Int32)) &&& (7 : Int32))), .val (.int (((p2 &&& (63 : Int32)).toUInt32 >>> ((3 : Int32) &&& 31).toUInt32).toInt32)), .val (.int (1 : Int32)), .val (.long (F2 q1)), .second, .val (.int (1 : Int32))] [(.int (1 : Int32))])) _
          exact retN X181 hx (t := .boolean) Bd.returns (by simp) (hb hby at_171) hr
        · show Q0 Z q1 p2 h0 n0 _ T181.heap _
          rw [e181]
          exact ⟨(by rw [F0, if_pos hc31, if_neg hc36, if_neg hc184]), N181, rfl⟩
  · have pre195 : ∀ t, Steps p.tables e below (T29.setTop (mkF m 128 #[.val (.long q1), .second, .val (.int p2), .val (.int (p2 &&& (63 : Int32))), .val (.int ((p2 &&& (63 : Int32)) &&& (7 : Int32))), .val (.int (((p2 &&& (63 : Int32)).toUInt32 >>> ((3 : Int32) &&& 31).toUInt32).toInt32)), .unset, .unset, .unset, .unset] [])) t → Steps p.tables e below (s₁.setTop (entryFrame m #[(.long q1), (.int p2)] maxLocals)) t := by
      intro t k
      refine pre30 _ ?_
      show Steps p.tables e below (T29.setTop (mkF m 28 #[.val (.long q1), .second, .val (.int p2), .val (.int (p2 &&& (63 : Int32))), .val (.int ((p2 &&& (63 : Int32)) &&& (7 : Int32))), .val (.int (((p2 &&& (63 : Int32)).toUInt32 >>> ((3 : Int32) &&& 31).toUInt32).toInt32)), .unset, .unset, .unset, .unset] [(.int (F1 q1 (((p2 &&& (63 : Int32)) &&& (7 : Int32)) - (1 : Int32)) ((((p2 &&& (63 : Int32)).toUInt32 >>> ((3 : Int32) &&& 31).toUInt32).toInt32) - (1 : Int32))))])) _
      refine XS.ifYes X29.here hx rfl (pc0 := 28) (pc' := 128) rfl (hb hby at_28) rfl ((if0 _ _).trans (feq hc31).2) (by decide) (by decide) ?_
      exact k
    have pre196 : ∀ t, Steps p.tables e below (T29.setTop (mkF m 136 #[.val (.long q1), .second, .val (.int p2), .val (.int (p2 &&& (63 : Int32))), .val (.int ((p2 &&& (63 : Int32)) &&& (7 : Int32))), .val (.int (((p2 &&& (63 : Int32)).toUInt32 >>> ((3 : Int32) &&& 31).toUInt32).toInt32)), .val (.int (1 : Int32)), .unset, .unset, .unset] [(.long q1)])) t → Steps p.tables e below (s₁.setTop (entryFrame m #[(.long q1), (.int p2)] maxLocals)) t := by
      intro t k
      refine pre195 _ ?_
      show Steps p.tables e below (T29.setTop (mkF m 128 #[.val (.long q1), .second, .val (.int p2), .val (.int (p2 &&& (63 : Int32))), .val (.int ((p2 &&& (63 : Int32)) &&& (7 : Int32))), .val (.int (((p2 &&& (63 : Int32)).toUInt32 >>> ((3 : Int32) &&& 31).toUInt32).toInt32)), .unset, .unset, .unset, .unset] [])) _
      refine XS.iconst X29.here hx rfl (hb hby at_128) ?_
      show Steps p.tables e below (T29.setTop (mkF m 129 #[.val (.long q1), .second, .val (.int p2), .val (.int (p2 &&& (63 : Int32))), .val (.int ((p2 &&& (63 : Int32)) &&& (7 : Int32))), .val (.int (((p2 &&& (63 : Int32)).toUInt32 >>> ((3 : Int32) &&& 31).toUInt32).toInt32)), .unset, .unset, .unset, .unset] [(.int (1 : Int32))])) _
      refine XS.goto X29.here hx rfl (pc0 := 129) (pc' := 133) rfl (hb hby at_129) (by decide) (by decide) ?_
      show Steps p.tables e below (T29.setTop (mkF m 133 #[.val (.long q1), .second, .val (.int p2), .val (.int (p2 &&& (63 : Int32))), .val (.int ((p2 &&& (63 : Int32)) &&& (7 : Int32))), .val (.int (((p2 &&& (63 : Int32)).toUInt32 >>> ((3 : Int32) &&& 31).toUInt32).toInt32)), .unset, .unset, .unset, .unset] [(.int (1 : Int32))])) _
      refine XS.istore X29.here hx rfl (hb hby at_133) rfl (l' := #[.val (.long q1), .second, .val (.int p2), .val (.int (p2 &&& (63 : Int32))), .val (.int ((p2 &&& (63 : Int32)) &&& (7 : Int32))), .val (.int (((p2 &&& (63 : Int32)).toUInt32 >>> ((3 : Int32) &&& 31).toUInt32).toInt32)), .val (.int (1 : Int32)), .unset, .unset, .unset]) rfl ?_
      show Steps p.tables e below (T29.setTop (mkF m 135 #[.val (.long q1), .second, .val (.int p2), .val (.int (p2 &&& (63 : Int32))), .val (.int ((p2 &&& (63 : Int32)) &&& (7 : Int32))), .val (.int (((p2 &&& (63 : Int32)).toUInt32 >>> ((3 : Int32) &&& 31).toUInt32).toInt32)), .val (.int (1 : Int32)), .unset, .unset, .unset] [])) _
      refine XS.lloadN X29.here hx rfl (hb hby at_135) rfl ?_
      exact k
    obtain ⟨_, _, ⟨T197, L197, k197, n197⟩, -, X197, ⟨Lc197, hQ197, l197, y197, z197⟩, st197⟩ := Jvm.LawKit.callS X29 hx (y := (⟨"com/example/tabuleiro/tabuleiro/othello/OthelloPosition", "neighbours", "(J)J"⟩ : MethodName)) hown (mvT hZ (hw _ (List.mem_of_getElem? (i := 4) rfl))) (mvT hZ (hw _ (List.mem_of_getElem? (i := 5) rfl))) (mvT hZ (hw _ (List.mem_of_getElem? (i := 6) rfl))) (mvT hZ (hw _ (List.mem_of_getElem? (i := 7) rfl))) (by decide) (backOf (W := 0) (rm2 l Z a0 hw [] q1 h0 n0 Z0 ) hZ (hw _ (List.mem_of_getElem? (i := 7) rfl)) (hw _ (List.mem_of_getElem? (i := 6) rfl)) (by decide) (by decide)) (g := (mkF m 136 #[.val (.long q1), .second, .val (.int p2), .val (.int (p2 &&& (63 : Int32))), .val (.int ((p2 &&& (63 : Int32)) &&& (7 : Int32))), .val (.int (((p2 &&& (63 : Int32)).toUInt32 >>> ((3 : Int32) &&& 31).toUInt32).toInt32)), .val (.int (1 : Int32)), .unset, .unset, .unset] [(.long q1)])) rfl (by rw [hml]; rfl) (argsL := [(.long q1)]) (rest := []) (lenOf pd__J_J rfl) rfl (by show 2 * 0 + _ ≤ _; exact Nat.le_of_eq rfl) (hb hby at_136) (fun _ _ => ⟨rfl, e29, (by decide : 0 + 0 ≤ _), (by decide : 0 + 0 ≤ _)⟩)
    dsimp only [Pt.U, Pt.locs, Pt.cells, Pt.slots] at X197 l197 y197 z197 st197 hQ197
    subst l197 y197 z197
    obtain ⟨rfl, N197q, e197⟩ := hQ197
    have N197 := Fr.app N29 N197q
    have pre198 : ∀ t, Steps p.tables e below (T197.setTop (mkF m 139 #[.val (.long q1), .second, .val (.int p2), .val (.int (p2 &&& (63 : Int32))), .val (.int ((p2 &&& (63 : Int32)) &&& (7 : Int32))), .val (.int (((p2 &&& (63 : Int32)).toUInt32 >>> ((3 : Int32) &&& 31).toUInt32).toInt32)), .val (.int (1 : Int32)), .unset, .unset, .unset] [(.long (F2 q1))])) t → Steps p.tables e below (s₁.setTop (entryFrame m #[(.long q1), (.int p2)] maxLocals)) t := by
      intro t k
      refine pre196 _ ?_
      show Steps p.tables e below (T29.setTop (mkF m 136 #[.val (.long q1), .second, .val (.int p2), .val (.int (p2 &&& (63 : Int32))), .val (.int ((p2 &&& (63 : Int32)) &&& (7 : Int32))), .val (.int (((p2 &&& (63 : Int32)).toUInt32 >>> ((3 : Int32) &&& 31).toUInt32).toInt32)), .val (.int (1 : Int32)), .unset, .unset, .unset] [(.long q1)])) _
      refine st197 _ ?_
      exact k
    have pre199 : ∀ t, Steps p.tables e below (T197.setTop (mkF m 149 #[.val (.long q1), .second, .val (.int p2), .val (.int (p2 &&& (63 : Int32))), .val (.int ((p2 &&& (63 : Int32)) &&& (7 : Int32))), .val (.int (((p2 &&& (63 : Int32)).toUInt32 >>> ((3 : Int32) &&& 31).toUInt32).toInt32)), .val (.int (1 : Int32)), .val (.long (F2 q1)), .second, .unset] [(.int (lcmpW ((((F2 q1).toUInt64 >>> ((p2 &&& (63 : Int32)) &&& 0x3f).toInt64.toUInt64).toInt64) &&& (1 : Int64)) (0 : Int64)))])) t → Steps p.tables e below (s₁.setTop (entryFrame m #[(.long q1), (.int p2)] maxLocals)) t := by
      intro t k
      refine pre198 _ ?_
      show Steps p.tables e below (T197.setTop (mkF m 139 #[.val (.long q1), .second, .val (.int p2), .val (.int (p2 &&& (63 : Int32))), .val (.int ((p2 &&& (63 : Int32)) &&& (7 : Int32))), .val (.int (((p2 &&& (63 : Int32)).toUInt32 >>> ((3 : Int32) &&& 31).toUInt32).toInt32)), .val (.int (1 : Int32)), .unset, .unset, .unset] [(.long (F2 q1))])) _
      refine XS.lstore X197.here hx rfl (hb hby at_139) rfl (l' := #[.val (.long q1), .second, .val (.int p2), .val (.int (p2 &&& (63 : Int32))), .val (.int ((p2 &&& (63 : Int32)) &&& (7 : Int32))), .val (.int (((p2 &&& (63 : Int32)).toUInt32 >>> ((3 : Int32) &&& 31).toUInt32).toInt32)), .val (.int (1 : Int32)), .val (.long (F2 q1)), .second, .unset]) rfl ?_
      show Steps p.tables e below (T197.setTop (mkF m 141 #[.val (.long q1), .second, .val (.int p2), .val (.int (p2 &&& (63 : Int32))), .val (.int ((p2 &&& (63 : Int32)) &&& (7 : Int32))), .val (.int (((p2 &&& (63 : Int32)).toUInt32 >>> ((3 : Int32) &&& 31).toUInt32).toInt32)), .val (.int (1 : Int32)), .val (.long (F2 q1)), .second, .unset] [])) _
      refine XS.lload X197.here hx rfl (hb hby at_141) rfl ?_
      show Steps p.tables e below (T197.setTop (mkF m 143 #[.val (.long q1), .second, .val (.int p2), .val (.int (p2 &&& (63 : Int32))), .val (.int ((p2 &&& (63 : Int32)) &&& (7 : Int32))), .val (.int (((p2 &&& (63 : Int32)).toUInt32 >>> ((3 : Int32) &&& 31).toUInt32).toInt32)), .val (.int (1 : Int32)), .val (.long (F2 q1)), .second, .unset] [(.long (F2 q1))])) _
      refine XS.iloadN X197.here hx rfl (hb hby at_143) rfl ?_
      show Steps p.tables e below (T197.setTop (mkF m 144 #[.val (.long q1), .second, .val (.int p2), .val (.int (p2 &&& (63 : Int32))), .val (.int ((p2 &&& (63 : Int32)) &&& (7 : Int32))), .val (.int (((p2 &&& (63 : Int32)).toUInt32 >>> ((3 : Int32) &&& 31).toUInt32).toInt32)), .val (.int (1 : Int32)), .val (.long (F2 q1)), .second, .unset] [(.int (p2 &&& (63 : Int32))), (.long (F2 q1))])) _
      refine XS.lushr X197.here hx rfl (hb hby at_144) rfl ?_
      show Steps p.tables e below (T197.setTop (mkF m 145 #[.val (.long q1), .second, .val (.int p2), .val (.int (p2 &&& (63 : Int32))), .val (.int ((p2 &&& (63 : Int32)) &&& (7 : Int32))), .val (.int (((p2 &&& (63 : Int32)).toUInt32 >>> ((3 : Int32) &&& 31).toUInt32).toInt32)), .val (.int (1 : Int32)), .val (.long (F2 q1)), .second, .unset] [(.long (((F2 q1).toUInt64 >>> ((p2 &&& (63 : Int32)) &&& 0x3f).toInt64.toUInt64).toInt64))])) _
      refine XS.lconst X197.here hx rfl (hb hby at_145) ?_
      show Steps p.tables e below (T197.setTop (mkF m 146 #[.val (.long q1), .second, .val (.int p2), .val (.int (p2 &&& (63 : Int32))), .val (.int ((p2 &&& (63 : Int32)) &&& (7 : Int32))), .val (.int (((p2 &&& (63 : Int32)).toUInt32 >>> ((3 : Int32) &&& 31).toUInt32).toInt32)), .val (.int (1 : Int32)), .val (.long (F2 q1)), .second, .unset] [(.long (1 : Int64)), (.long (((F2 q1).toUInt64 >>> ((p2 &&& (63 : Int32)) &&& 0x3f).toInt64.toUInt64).toInt64))])) _
      refine XS.land X197.here hx rfl (hb hby at_146) rfl ?_
      show Steps p.tables e below (T197.setTop (mkF m 147 #[.val (.long q1), .second, .val (.int p2), .val (.int (p2 &&& (63 : Int32))), .val (.int ((p2 &&& (63 : Int32)) &&& (7 : Int32))), .val (.int (((p2 &&& (63 : Int32)).toUInt32 >>> ((3 : Int32) &&& 31).toUInt32).toInt32)), .val (.int (1 : Int32)), .val (.long (F2 q1)), .second, .unset] [(.long ((((F2 q1).toUInt64 >>> ((p2 &&& (63 : Int32)) &&& 0x3f).toInt64.toUInt64).toInt64) &&& (1 : Int64)))])) _
      refine XS.lconst X197.here hx rfl (hb hby at_147) ?_
      show Steps p.tables e below (T197.setTop (mkF m 148 #[.val (.long q1), .second, .val (.int p2), .val (.int (p2 &&& (63 : Int32))), .val (.int ((p2 &&& (63 : Int32)) &&& (7 : Int32))), .val (.int (((p2 &&& (63 : Int32)).toUInt32 >>> ((3 : Int32) &&& 31).toUInt32).toInt32)), .val (.int (1 : Int32)), .val (.long (F2 q1)), .second, .unset] [(.long (0 : Int64)), (.long ((((F2 q1).toUInt64 >>> ((p2 &&& (63 : Int32)) &&& 0x3f).toInt64.toUInt64).toInt64) &&& (1 : Int64)))])) _
      refine XS.lcmp X197.here hx rfl (hb hby at_148) rfl ?_
      exact k
    by_cases hc200 : (lcmpW ((((F2 q1).toUInt64 >>> ((p2 &&& (63 : Int32)) &&& 0x3f).toInt64.toUInt64).toInt64) &&& (1 : Int64)) (0 : Int64)) = (0 : Int32)
    · have pre201 : ∀ t, Steps p.tables e below (T197.setTop (mkF m 156 #[.val (.long q1), .second, .val (.int p2), .val (.int (p2 &&& (63 : Int32))), .val (.int ((p2 &&& (63 : Int32)) &&& (7 : Int32))), .val (.int (((p2 &&& (63 : Int32)).toUInt32 >>> ((3 : Int32) &&& 31).toUInt32).toInt32)), .val (.int (1 : Int32)), .val (.long (F2 q1)), .second, .unset] [])) t → Steps p.tables e below (s₁.setTop (entryFrame m #[(.long q1), (.int p2)] maxLocals)) t := by
        intro t k
        refine pre199 _ ?_
        show Steps p.tables e below (T197.setTop (mkF m 149 #[.val (.long q1), .second, .val (.int p2), .val (.int (p2 &&& (63 : Int32))), .val (.int ((p2 &&& (63 : Int32)) &&& (7 : Int32))), .val (.int (((p2 &&& (63 : Int32)).toUInt32 >>> ((3 : Int32) &&& 31).toUInt32).toInt32)), .val (.int (1 : Int32)), .val (.long (F2 q1)), .second, .unset] [(.int (lcmpW ((((F2 q1).toUInt64 >>> ((p2 &&& (63 : Int32)) &&& 0x3f).toInt64.toUInt64).toInt64) &&& (1 : Int64)) (0 : Int64)))])) _
        refine XS.ifYes X197.here hx rfl (pc0 := 149) (pc' := 156) rfl (hb hby at_149) rfl ((if0 _ _).trans (teq hc200).1) (by decide) (by decide) ?_
        exact k
      have pre202 : ∀ t, Steps p.tables e below (T197.setTop (mkF m 163 #[.val (.long q1), .second, .val (.int p2), .val (.int (p2 &&& (63 : Int32))), .val (.int ((p2 &&& (63 : Int32)) &&& (7 : Int32))), .val (.int (((p2 &&& (63 : Int32)).toUInt32 >>> ((3 : Int32) &&& 31).toUInt32).toInt32)), .val (.int (1 : Int32)), .val (.long (F2 q1)), .second, .val (.int (0 : Int32))] [(.int (1 : Int32)), (.int (0 : Int32))])) t → Steps p.tables e below (s₁.setTop (entryFrame m #[(.long q1), (.int p2)] maxLocals)) t := by
        intro t k
        refine pre201 _ ?_
        show Steps p.tables e below (T197.setTop (mkF m 156 #[.val (.long q1), .second, .val (.int p2), .val (.int (p2 &&& (63 : Int32))), .val (.int ((p2 &&& (63 : Int32)) &&& (7 : Int32))), .val (.int (((p2 &&& (63 : Int32)).toUInt32 >>> ((3 : Int32) &&& 31).toUInt32).toInt32)), .val (.int (1 : Int32)), .val (.long (F2 q1)), .second, .unset] [])) _
        refine XS.iconst X197.here hx rfl (hb hby at_156) ?_
        show Steps p.tables e below (T197.setTop (mkF m 157 #[.val (.long q1), .second, .val (.int p2), .val (.int (p2 &&& (63 : Int32))), .val (.int ((p2 &&& (63 : Int32)) &&& (7 : Int32))), .val (.int (((p2 &&& (63 : Int32)).toUInt32 >>> ((3 : Int32) &&& 31).toUInt32).toInt32)), .val (.int (1 : Int32)), .val (.long (F2 q1)), .second, .unset] [(.int (0 : Int32))])) _
        refine XS.istore X197.here hx rfl (hb hby at_157) rfl (l' := #[.val (.long q1), .second, .val (.int p2), .val (.int (p2 &&& (63 : Int32))), .val (.int ((p2 &&& (63 : Int32)) &&& (7 : Int32))), .val (.int (((p2 &&& (63 : Int32)).toUInt32 >>> ((3 : Int32) &&& 31).toUInt32).toInt32)), .val (.int (1 : Int32)), .val (.long (F2 q1)), .second, .val (.int (0 : Int32))]) rfl ?_
        show Steps p.tables e below (T197.setTop (mkF m 159 #[.val (.long q1), .second, .val (.int p2), .val (.int (p2 &&& (63 : Int32))), .val (.int ((p2 &&& (63 : Int32)) &&& (7 : Int32))), .val (.int (((p2 &&& (63 : Int32)).toUInt32 >>> ((3 : Int32) &&& 31).toUInt32).toInt32)), .val (.int (1 : Int32)), .val (.long (F2 q1)), .second, .val (.int (0 : Int32))] [])) _
        refine XS.iload X197.here hx rfl (hb hby at_159) rfl ?_
        show Steps p.tables e below (T197.setTop (mkF m 161 #[.val (.long q1), .second, .val (.int p2), .val (.int (p2 &&& (63 : Int32))), .val (.int ((p2 &&& (63 : Int32)) &&& (7 : Int32))), .val (.int (((p2 &&& (63 : Int32)).toUInt32 >>> ((3 : Int32) &&& 31).toUInt32).toInt32)), .val (.int (1 : Int32)), .val (.long (F2 q1)), .second, .val (.int (0 : Int32))] [(.int (0 : Int32))])) _
        refine XS.iload X197.here hx rfl (hb hby at_161) rfl ?_
        exact k
      have pre204 : ∀ t, Steps p.tables e below (T197.setTop (mkF m 170 #[.val (.long q1), .second, .val (.int p2), .val (.int (p2 &&& (63 : Int32))), .val (.int ((p2 &&& (63 : Int32)) &&& (7 : Int32))), .val (.int (((p2 &&& (63 : Int32)).toUInt32 >>> ((3 : Int32) &&& 31).toUInt32).toInt32)), .val (.int (1 : Int32)), .val (.long (F2 q1)), .second, .val (.int (0 : Int32))] [])) t → Steps p.tables e below (s₁.setTop (entryFrame m #[(.long q1), (.int p2)] maxLocals)) t := by
        intro t k
        refine pre202 _ ?_
        show Steps p.tables e below (T197.setTop (mkF m 163 #[.val (.long q1), .second, .val (.int p2), .val (.int (p2 &&& (63 : Int32))), .val (.int ((p2 &&& (63 : Int32)) &&& (7 : Int32))), .val (.int (((p2 &&& (63 : Int32)).toUInt32 >>> ((3 : Int32) &&& 31).toUInt32).toInt32)), .val (.int (1 : Int32)), .val (.long (F2 q1)), .second, .val (.int (0 : Int32))] [(.int (1 : Int32)), (.int (0 : Int32))])) _
        refine XS.icmpYes X197.here hx rfl (pc0 := 163) (pc' := 170) rfl (hb hby at_163) rfl (feq (by decide : ¬ ((0 : Int32) = (1 : Int32)))).2 (by decide) (by decide) ?_
        exact k
      have pre205 : ∀ t, Steps p.tables e below (T197.setTop (mkF m 171 #[.val (.long q1), .second, .val (.int p2), .val (.int (p2 &&& (63 : Int32))), .val (.int ((p2 &&& (63 : Int32)) &&& (7 : Int32))), .val (.int (((p2 &&& (63 : Int32)).toUInt32 >>> ((3 : Int32) &&& 31).toUInt32).toInt32)), .val (.int (1 : Int32)), .val (.long (F2 q1)), .second, .val (.int (0 : Int32))] [(.int (0 : Int32))])) t → Steps p.tables e below (s₁.setTop (entryFrame m #[(.long q1), (.int p2)] maxLocals)) t := by
        intro t k
        refine pre204 _ ?_
        show Steps p.tables e below (T197.setTop (mkF m 170 #[.val (.long q1), .second, .val (.int p2), .val (.int (p2 &&& (63 : Int32))), .val (.int ((p2 &&& (63 : Int32)) &&& (7 : Int32))), .val (.int (((p2 &&& (63 : Int32)).toUInt32 >>> ((3 : Int32) &&& 31).toUInt32).toInt32)), .val (.int (1 : Int32)), .val (.long (F2 q1)), .second, .val (.int (0 : Int32))] [])) _
        refine XS.iconst X197.here hx rfl (hb hby at_170) ?_
        exact k
      obtain ⟨fs, hr, hrun, hended, hW, hsame⟩ := X197.leave (v := some (.int (0 : Int32))) (fun h => by rw [Bd.returns] at h; cases h)
      refine ⟨_, _, pre205 _ ?_, hrun, hended, _, _, rfl, ?_, ⟨_, rfl⟩, hW, hsame.mono (by decide) (by decide)⟩
      · show Steps p.tables e below (T197.setTop (mkF m 171 #[.val (.long q1), .second, .val (.int p2), .val (.int (p2 &&& (63 : Int32))), .val (.int ((p2 &&& (63 : Int32)) &&& (7 : Int32))), .val (.int (((p2 &&& (63 : Int32)).toUInt32 >>> ((3 : Int32) &&& 31).toUInt32).toInt32)), .val (.int (1 : Int32)), .val (.long (F2 q1)), .second, .val (.int (0 : Int32))] [(.int (0 : Int32))])) _
        exact retN X197 hx (t := .boolean) Bd.returns (by simp) (hb hby at_171) hr
      · show Q0 Z q1 p2 h0 n0 _ T197.heap _
        rw [e197]
        exact ⟨(by rw [F0, if_neg hc31, if_pos hc200]), N197, rfl⟩
    · have pre206 : ∀ t, Steps p.tables e below (T197.setTop (mkF m 152 #[.val (.long q1), .second, .val (.int p2), .val (.int (p2 &&& (63 : Int32))), .val (.int ((p2 &&& (63 : Int32)) &&& (7 : Int32))), .val (.int (((p2 &&& (63 : Int32)).toUInt32 >>> ((3 : Int32) &&& 31).toUInt32).toInt32)), .val (.int (1 : Int32)), .val (.long (F2 q1)), .second, .unset] [])) t → Steps p.tables e below (s₁.setTop (entryFrame m #[(.long q1), (.int p2)] maxLocals)) t := by
        intro t k
        refine pre199 _ ?_
        show Steps p.tables e below (T197.setTop (mkF m 149 #[.val (.long q1), .second, .val (.int p2), .val (.int (p2 &&& (63 : Int32))), .val (.int ((p2 &&& (63 : Int32)) &&& (7 : Int32))), .val (.int (((p2 &&& (63 : Int32)).toUInt32 >>> ((3 : Int32) &&& 31).toUInt32).toInt32)), .val (.int (1 : Int32)), .val (.long (F2 q1)), .second, .unset] [(.int (lcmpW ((((F2 q1).toUInt64 >>> ((p2 &&& (63 : Int32)) &&& 0x3f).toInt64.toUInt64).toInt64) &&& (1 : Int64)) (0 : Int64)))])) _
        refine XS.ifNo X197.here hx rfl (hb hby at_149) rfl ((if0 _ _).trans (feq hc200).1) ?_
        exact k
      have pre207 : ∀ t, Steps p.tables e below (T197.setTop (mkF m 163 #[.val (.long q1), .second, .val (.int p2), .val (.int (p2 &&& (63 : Int32))), .val (.int ((p2 &&& (63 : Int32)) &&& (7 : Int32))), .val (.int (((p2 &&& (63 : Int32)).toUInt32 >>> ((3 : Int32) &&& 31).toUInt32).toInt32)), .val (.int (1 : Int32)), .val (.long (F2 q1)), .second, .val (.int (1 : Int32))] [(.int (1 : Int32)), (.int (1 : Int32))])) t → Steps p.tables e below (s₁.setTop (entryFrame m #[(.long q1), (.int p2)] maxLocals)) t := by
        intro t k
        refine pre206 _ ?_
        show Steps p.tables e below (T197.setTop (mkF m 152 #[.val (.long q1), .second, .val (.int p2), .val (.int (p2 &&& (63 : Int32))), .val (.int ((p2 &&& (63 : Int32)) &&& (7 : Int32))), .val (.int (((p2 &&& (63 : Int32)).toUInt32 >>> ((3 : Int32) &&& 31).toUInt32).toInt32)), .val (.int (1 : Int32)), .val (.long (F2 q1)), .second, .unset] [])) _
        refine XS.iconst X197.here hx rfl (hb hby at_152) ?_
        show Steps p.tables e below (T197.setTop (mkF m 153 #[.val (.long q1), .second, .val (.int p2), .val (.int (p2 &&& (63 : Int32))), .val (.int ((p2 &&& (63 : Int32)) &&& (7 : Int32))), .val (.int (((p2 &&& (63 : Int32)).toUInt32 >>> ((3 : Int32) &&& 31).toUInt32).toInt32)), .val (.int (1 : Int32)), .val (.long (F2 q1)), .second, .unset] [(.int (1 : Int32))])) _
        refine XS.goto X197.here hx rfl (pc0 := 153) (pc' := 157) rfl (hb hby at_153) (by decide) (by decide) ?_
        show Steps p.tables e below (T197.setTop (mkF m 157 #[.val (.long q1), .second, .val (.int p2), .val (.int (p2 &&& (63 : Int32))), .val (.int ((p2 &&& (63 : Int32)) &&& (7 : Int32))), .val (.int (((p2 &&& (63 : Int32)).toUInt32 >>> ((3 : Int32) &&& 31).toUInt32).toInt32)), .val (.int (1 : Int32)), .val (.long (F2 q1)), .second, .unset] [(.int (1 : Int32))])) _
        refine XS.istore X197.here hx rfl (hb hby at_157) rfl (l' := #[.val (.long q1), .second, .val (.int p2), .val (.int (p2 &&& (63 : Int32))), .val (.int ((p2 &&& (63 : Int32)) &&& (7 : Int32))), .val (.int (((p2 &&& (63 : Int32)).toUInt32 >>> ((3 : Int32) &&& 31).toUInt32).toInt32)), .val (.int (1 : Int32)), .val (.long (F2 q1)), .second, .val (.int (1 : Int32))]) rfl ?_
        show Steps p.tables e below (T197.setTop (mkF m 159 #[.val (.long q1), .second, .val (.int p2), .val (.int (p2 &&& (63 : Int32))), .val (.int ((p2 &&& (63 : Int32)) &&& (7 : Int32))), .val (.int (((p2 &&& (63 : Int32)).toUInt32 >>> ((3 : Int32) &&& 31).toUInt32).toInt32)), .val (.int (1 : Int32)), .val (.long (F2 q1)), .second, .val (.int (1 : Int32))] [])) _
        refine XS.iload X197.here hx rfl (hb hby at_159) rfl ?_
        show Steps p.tables e below (T197.setTop (mkF m 161 #[.val (.long q1), .second, .val (.int p2), .val (.int (p2 &&& (63 : Int32))), .val (.int ((p2 &&& (63 : Int32)) &&& (7 : Int32))), .val (.int (((p2 &&& (63 : Int32)).toUInt32 >>> ((3 : Int32) &&& 31).toUInt32).toInt32)), .val (.int (1 : Int32)), .val (.long (F2 q1)), .second, .val (.int (1 : Int32))] [(.int (1 : Int32))])) _
        refine XS.iload X197.here hx rfl (hb hby at_161) rfl ?_
        exact k
      have pre209 : ∀ t, Steps p.tables e below (T197.setTop (mkF m 166 #[.val (.long q1), .second, .val (.int p2), .val (.int (p2 &&& (63 : Int32))), .val (.int ((p2 &&& (63 : Int32)) &&& (7 : Int32))), .val (.int (((p2 &&& (63 : Int32)).toUInt32 >>> ((3 : Int32) &&& 31).toUInt32).toInt32)), .val (.int (1 : Int32)), .val (.long (F2 q1)), .second, .val (.int (1 : Int32))] [])) t → Steps p.tables e below (s₁.setTop (entryFrame m #[(.long q1), (.int p2)] maxLocals)) t := by
        intro t k
        refine pre207 _ ?_
        show Steps p.tables e below (T197.setTop (mkF m 163 #[.val (.long q1), .second, .val (.int p2), .val (.int (p2 &&& (63 : Int32))), .val (.int ((p2 &&& (63 : Int32)) &&& (7 : Int32))), .val (.int (((p2 &&& (63 : Int32)).toUInt32 >>> ((3 : Int32) &&& 31).toUInt32).toInt32)), .val (.int (1 : Int32)), .val (.long (F2 q1)), .second, .val (.int (1 : Int32))] [(.int (1 : Int32)), (.int (1 : Int32))])) _
        refine XS.icmpNo X197.here hx rfl (hb hby at_163) rfl (teq (by decide : (1 : Int32) = (1 : Int32))).2 ?_
        exact k
      have pre210 : ∀ t, Steps p.tables e below (T197.setTop (mkF m 171 #[.val (.long q1), .second, .val (.int p2), .val (.int (p2 &&& (63 : Int32))), .val (.int ((p2 &&& (63 : Int32)) &&& (7 : Int32))), .val (.int (((p2 &&& (63 : Int32)).toUInt32 >>> ((3 : Int32) &&& 31).toUInt32).toInt32)), .val (.int (1 : Int32)), .val (.long (F2 q1)), .second, .val (.int (1 : Int32))] [(.int (1 : Int32))])) t → Steps p.tables e below (s₁.setTop (entryFrame m #[(.long q1), (.int p2)] maxLocals)) t := by
        intro t k
        refine pre209 _ ?_
        show Steps p.tables e below (T197.setTop (mkF m 166 #[.val (.long q1), .second, .val (.int p2), .val (.int (p2 &&& (63 : Int32))), .val (.int ((p2 &&& (63 : Int32)) &&& (7 : Int32))), .val (.int (((p2 &&& (63 : Int32)).toUInt32 >>> ((3 : Int32) &&& 31).toUInt32).toInt32)), .val (.int (1 : Int32)), .val (.long (F2 q1)), .second, .val (.int (1 : Int32))] [])) _
        refine XS.iconst X197.here hx rfl (hb hby at_166) ?_
        show Steps p.tables e below (T197.setTop (mkF m 167 #[.val (.long q1), .second, .val (.int p2), .val (.int (p2 &&& (63 : Int32))), .val (.int ((p2 &&& (63 : Int32)) &&& (7 : Int32))), .val (.int (((p2 &&& (63 : Int32)).toUInt32 >>> ((3 : Int32) &&& 31).toUInt32).toInt32)), .val (.int (1 : Int32)), .val (.long (F2 q1)), .second, .val (.int (1 : Int32))] [(.int (1 : Int32))])) _
        refine XS.goto X197.here hx rfl (pc0 := 167) (pc' := 171) rfl (hb hby at_167) (by decide) (by decide) ?_
        exact k
      obtain ⟨fs, hr, hrun, hended, hW, hsame⟩ := X197.leave (v := some (.int (1 : Int32))) (fun h => by rw [Bd.returns] at h; cases h)
      refine ⟨_, _, pre210 _ ?_, hrun, hended, _, _, rfl, ?_, ⟨_, rfl⟩, hW, hsame.mono (by decide) (by decide)⟩
      · show Steps p.tables e below (T197.setTop (mkF m 171 #[.val (.long q1), .second, .val (.int p2), .val (.int (p2 &&& (63 : Int32))), .val (.int ((p2 &&& (63 : Int32)) &&& (7 : Int32))), .val (.int (((p2 &&& (63 : Int32)).toUInt32 >>> ((3 : Int32) &&& 31).toUInt32).toInt32)), .val (.int (1 : Int32)), .val (.long (F2 q1)), .second, .val (.int (1 : Int32))] [(.int (1 : Int32))])) _
        exact retN X197 hx (t := .boolean) Bd.returns (by simp) (hb hby at_171) hr
      · show Q0 Z q1 p2 h0 n0 _ T197.heap _
        rw [e197]
        exact ⟨(by rw [F0, if_neg hc31, if_neg hc200]), N197, rfl⟩
theorem own_nat (n : Int32) (k : Nat) (hk : n.toInt = k) : n.toBitVec.toNat = k := by
  have h : n.toBitVec.toInt = k := hk
  rw [BitVec.toInt_eq_toNat_cond] at h
  have := n.toBitVec.isLt
  split at h <;> omega
theorem own_and1 (y : BitVec 64) : (y &&& 1#64 = 0#64) ↔ y.getLsbD 0 = false := by
  constructor
  · intro h
    have := congrArg (fun z => z.getLsbD 0) h
    simpa using this
  · intro h
    apply BitVec.eq_of_toNat_eq
    rw [BitVec.toNat_and]
    have e : (1#64).toNat = 1 := rfl
    rw [e, Nat.and_one_is_mod]
    have g : y.toNat.testBit 0 = false := h
    rw [Nat.testBit_zero] at g
    have : ¬ (y.toNat % 2 = 1) := by simpa using g
    show y.toNat % 2 = 0
    omega
theorem own_shr (s : Int64) (n : Int32) (k : Nat) (hk : n.toInt = k) (h : k < 64) : ((lcmpW (((s.toUInt64 >>> (n &&& 0x3f).toInt64.toUInt64).toInt64) &&& (1 : Int64)) (0 : Int64)) = (0 : Int32)) ↔ s.toBitVec.getLsbD k = false := by
  rw [lw_eq]
  have hn := own_nat n k hk
  have sm := (sm64 n k (by rw [hn]; omega)).1
  rw [← Int64.toBitVec_inj]
  have e : ((((s.toUInt64 >>> (n &&& 0x3f).toInt64.toUInt64).toInt64) &&& (1 : Int64))).toBitVec = (s.toBitVec >>> ((n &&& 0x3f).toInt64.toBitVec % 64)) &&& 1#64 := rfl
  have z : (0 : Int64).toBitVec = 0#64 := rfl
  rw [e, z, own_and1, sm]
  have u : (BitVec.ofNat 64 k % 64) = BitVec.ofNat 64 k := by
    apply BitVec.eq_of_toNat_eq
    rw [BitVec.toNat_umod, BitVec.toNat_ofNat]
    show k % 2 ^ 64 % 64 = k % 2 ^ 64
    omega
  rw [u, BitVec.ushiftRight_eq', BitVec.getLsbD_ushiftRight, BitVec.toNat_ofNat]
  have : k % 2 ^ 64 + 0 = k := by omega
  rw [this]
theorem own_ite (P : Prop) [Decidable P] : ((if P then (0 : Int32) else (1 : Int32)) = 0) ↔ P := by by_cases h : P <;> simp [h]
def own_in (b : Nat → Bool) (C R : Int) : Bool := decide (0 ≤ C ∧ C ≤ 7 ∧ 0 ≤ R ∧ R ≤ 7) && b (8 * R + C).toNat
theorem own_has (s : Int64) (c r : Int32) : (F1 s c r = 0) ↔ own_in s.toBitVec.getLsbD c.toInt r.toInt = false := by
  have n0 : (0 : Int32).toInt = 0 := rfl
  have n7 : (7 : Int32).toInt = 7 := rfl
  have n8 : (8 : Int32).toInt = 8 := rfl
  unfold F1 own_in
  by_cases h1 : c < 0
  · rw [if_pos h1]; rw [Int32.lt_iff_toInt_lt, n0] at h1
    have : ¬ (0 ≤ c.toInt ∧ c.toInt ≤ 7 ∧ 0 ≤ r.toInt ∧ r.toInt ≤ 7) := by omega
    simp [this]
  rw [if_neg h1]
  by_cases h2 : 7 < c
  · rw [if_pos h2]; rw [Int32.lt_iff_toInt_lt, n7] at h2
    have : ¬ (0 ≤ c.toInt ∧ c.toInt ≤ 7 ∧ 0 ≤ r.toInt ∧ r.toInt ≤ 7) := by omega
    simp [this]
  rw [if_neg h2]
  by_cases h3 : r < 0
  · rw [if_pos h3]; rw [Int32.lt_iff_toInt_lt, n0] at h3
    have : ¬ (0 ≤ c.toInt ∧ c.toInt ≤ 7 ∧ 0 ≤ r.toInt ∧ r.toInt ≤ 7) := by omega
    simp [this]
  rw [if_neg h3]
  by_cases h4 : 7 < r
  · rw [if_pos h4]; rw [Int32.lt_iff_toInt_lt, n7] at h4
    have : ¬ (0 ≤ c.toInt ∧ c.toInt ≤ 7 ∧ 0 ≤ r.toInt ∧ r.toInt ≤ 7) := by omega
    simp [this]
  rw [if_neg h4]
  rw [Int32.lt_iff_toInt_lt] at h1 h2 h3 h4
  rw [n0] at h1 h3
  rw [n7] at h2 h4
  have m := c_imul r 8
  have a := c_iadd (r * 8) c
  have rm := rng32 (r * 8)
  have ra := rng32 (r * 8 + c)
  rw [n8] at m
  have e : (r * 8 + c).toInt = ((8 * r.toInt + c.toInt).toNat : Nat) := by omega
  have q := own_shr s (r * 8 + c) _ e (by omega)
  have : (0 ≤ c.toInt ∧ c.toInt ≤ 7 ∧ 0 ≤ r.toInt ∧ r.toInt ≤ 7) := by omega
  have td : decide (0 ≤ c.toInt ∧ c.toInt ≤ 7 ∧ 0 ≤ r.toInt ∧ r.toInt ≤ 7) = true := decide_eq_true this
  rw [td, Bool.true_and, ← q]
  exact own_ite _
def own_E (b : Nat → Bool) (k : Nat) : Bool := (decide (k % 8 ≠ 0) && b (k - 1)) || (decide (k % 8 ≠ 7) && b (k + 1))
def own_N (b : Nat → Bool) (k : Nat) : Bool := own_E b k || (decide (8 ≤ k) && (b (k - 8) || own_E b (k - 8))) || (decide (k + 8 < 64) && (b (k + 8) || own_E b (k + 8)))
theorem own_ma : ∀ k : Fin 64, (-72340172838076674 : Int64).toBitVec.getLsbD k.val = decide (k.val % 8 ≠ 0) := by decide +kernel
theorem own_mb : ∀ k : Fin 64, (9187201950435737471 : Int64).toBitVec.getLsbD k.val = decide (k.val % 8 ≠ 7) := by decide +kernel
def own_e (s : BitVec 64) : BitVec 64 := ((s <<< (1 : Nat)) &&& (-72340172838076674 : Int64).toBitVec) ||| ((s >>> (1 : Nat)) &&& (9187201950435737471 : Int64).toBitVec)
theorem own_F2 (s : Int64) : (F2 s).toBitVec = (own_e s.toBitVec ||| ((s.toBitVec ||| own_e s.toBitVec) <<< (8 : Nat))) ||| ((s.toBitVec ||| own_e s.toBitVec) >>> (8 : Nat)) := rfl
theorem own_ebit (s : BitVec 64) (k : Nat) (h : k < 64) : (own_e s).getLsbD k = own_E s.getLsbD k := by
  unfold own_e own_E
  rw [BitVec.getLsbD_or, BitVec.getLsbD_and, BitVec.getLsbD_and, own_ma ⟨k, h⟩, own_mb ⟨k, h⟩, BitVec.getLsbD_shiftLeft, BitVec.getLsbD_ushiftRight]
  have e1 : 1 + k = k + 1 := by omega
  rw [e1]
  by_cases h0 : k % 8 = 0
  · simp [h0, Bool.and_comm]
  · have : ¬ k < 1 := by omega
    simp [h0, h, this, Bool.and_comm]
theorem own_nb (s : Int64) (k : Nat) (h : k < 64) : (F2 s).toBitVec.getLsbD k = own_N s.toBitVec.getLsbD k := by
  rw [own_F2]
  unfold own_N
  rw [BitVec.getLsbD_or, BitVec.getLsbD_or, BitVec.getLsbD_shiftLeft, BitVec.getLsbD_ushiftRight, BitVec.getLsbD_or, BitVec.getLsbD_or, own_ebit _ k h]
  have e1 : 8 + k = k + 8 := by omega
  rw [e1]
  by_cases h8 : 8 ≤ k
  · have a1 : ¬ k < 8 := by omega
    rw [own_ebit _ (k - 8) (by omega)]
    by_cases h9 : k + 8 < 64
    · rw [own_ebit _ (k + 8) h9]; simp [h8, h9, h, a1]
    · have z1 : s.toBitVec.getLsbD (k + 8) = false := BitVec.getLsbD_of_ge _ _ (by omega)
      have z2 : (own_e s.toBitVec).getLsbD (k + 8) = false := BitVec.getLsbD_of_ge _ _ (by omega)
      rw [z1, z2]; simp [h8, h9, h, a1]
  · have a1 : k < 8 := by omega
    have h9 : k + 8 < 64 := by omega
    rw [own_ebit _ (k + 8) h9]; simp [h8, h9, a1]
theorem own_grid (b : Nat → Bool) (C R : Nat) (hC : C < 8) (hR : R < 8) : own_N b (8 * R + C) = (own_in b (((C : Int) - 1) : Int) ((R : Int) - 1) || own_in b ((C : Int) : Int) ((R : Int) - 1) || own_in b (((C : Int) + 1) : Int) ((R : Int) - 1) || own_in b (((C : Int) - 1) : Int) (R : Int) || own_in b (((C : Int) + 1) : Int) (R : Int) || own_in b (((C : Int) - 1) : Int) ((R : Int) + 1) || own_in b ((C : Int) : Int) ((R : Int) + 1) || own_in b (((C : Int) + 1) : Int) ((R : Int) + 1)) := by
  have hc : C = 0 ∨ C = 1 ∨ C = 2 ∨ C = 3 ∨ C = 4 ∨ C = 5 ∨ C = 6 ∨ C = 7 := by omega
  have hr : R = 0 ∨ R = 1 ∨ R = 2 ∨ R = 3 ∨ R = 4 ∨ R = 5 ∨ R = 6 ∨ R = 7 := by omega
  rcases hr with rfl | rfl | rfl | rfl | rfl | rfl | rfl | rfl <;> rcases hc with rfl | rfl | rfl | rfl | rfl | rfl | rfl | rfl <;> simp [own_N, own_E, own_in] <;> ac_rfl
theorem plain0 (q1 : Int64) (p2 : Int32) : F0 q1 p2 = 1 := by
  have em : (p2 &&& 63).toInt = p2.toInt % ((2 ^ 6 : Nat) : Int) := c_mask p2 63 6 (by decide) (by decide)
  have p6 : ((2 ^ 6 : Nat) : Int) = 64 := by decide
  rw [p6] at em
  unfold F0
  generalize p2 &&& (63 : Int32) = q at *
  have ec : (q &&& 7).toInt = q.toInt % ((2 ^ 3 : Nat) : Int) := c_mask q 7 3 (by decide) (by decide)
  have p3 : ((2 ^ 3 : Nat) : Int) = 8 := by decide
  rw [p3] at ec
  have er := c_iushr q 3 3 (by decide) (by decide)
  rw [p3] at er
  generalize q &&& (7 : Int32) = c at *
  generalize (q.toUInt32 >>> ((3 : Int32) &&& 31).toUInt32).toInt32 = r at *
  have n1 : (1 : Int32).toInt = 1 := rfl
  have c1 : (c - 1).toInt = c.toInt - 1 := by have a := c_isub c 1; have b := rng32 (c - 1); rw [n1] at a; omega
  have c2 : (c + 1).toInt = c.toInt + 1 := by have a := c_iadd c 1; have b := rng32 (c + 1); rw [n1] at a; omega
  have r1 : (r - 1).toInt = r.toInt - 1 := by have a := c_isub r 1; have b := rng32 (r - 1); rw [n1] at a; omega
  have r2 : (r + 1).toInt = r.toInt + 1 := by have a := c_iadd r 1; have b := rng32 (r + 1); rw [n1] at a; omega
  have hb := own_shr (F2 q1) q q.toInt.toNat (by omega) (by omega)
  rw [own_nb q1 _ (by omega)] at hb
  have gr := own_grid q1.toBitVec.getLsbD c.toInt.toNat r.toInt.toNat (by omega) (by omega)
  have e0 : 8 * r.toInt.toNat + c.toInt.toNat = q.toInt.toNat := by omega
  have e1 : (c.toInt.toNat : Int) = c.toInt := by omega
  have e2 : (r.toInt.toNat : Int) = r.toInt := by omega
  rw [e0, e1, e2] at gr
  rw [gr] at hb
  simp only [own_has, c1, c2, r1, r2, hb]
  generalize own_in q1.toBitVec.getLsbD (c.toInt - 1) (r.toInt - 1) = x0 at *
  generalize own_in q1.toBitVec.getLsbD c.toInt (r.toInt - 1) = x1 at *
  generalize own_in q1.toBitVec.getLsbD (c.toInt + 1) (r.toInt - 1) = x2 at *
  generalize own_in q1.toBitVec.getLsbD (c.toInt - 1) r.toInt = x3 at *
  generalize own_in q1.toBitVec.getLsbD (c.toInt + 1) r.toInt = x4 at *
  generalize own_in q1.toBitVec.getLsbD (c.toInt - 1) (r.toInt + 1) = x5 at *
  generalize own_in q1.toBitVec.getLsbD c.toInt (r.toInt + 1) = x6 at *
  generalize own_in q1.toBitVec.getLsbD (c.toInt + 1) (r.toInt + 1) = x7 at *
  clear hb gr
  cases x0 <;> cases x1 <;> cases x2 <;> cases x3 <;> cases x4 <;> cases x5 <;> cases x6 <;> cases x7 <;> rfl
set_option maxRecDepth 65536 in
set_option maxHeartbeats 40000000 in
theorem comes_1 {Post : Tables → Env → Array Value → State → Outcome → State → Prop} (hpost : ∀ tb e args s v u, (limb_1_1.after args s (.returned v) u = true ∧ limb_1_2.after args s (.returned v) u = true ∧ True) → FrameEnd s (.returned v) u (Jvm.fieldLocs frame_1_writes args s ++ Jvm.arrayLocs frame_1_arrays args s ++ Jvm.staticLocs frame_1_statics s) 0 0 → Post tb e args s (.returned v) u) :
    ArmFor flags0 classFile x code maxLocals ret World_1 tables_1 room_1 Calls_1 rest_1 Pre_1 Post := by
  intro l hfl _ _ p e ha hc hk s m args below hf hA hF happ hP
  obtain ⟨hcalls, hrest, hpre⟩ := hP
  obtain ⟨-, -, -, hnamed, -, -, -, hat⟩ := (Spec.applies_iff hf).mp happ
  obtain ⟨hg, hn⟩ := and_e (Cond.before_iff.mp (show (Jvm.Cond.and given_1 narrow_1).before args s = true from hpre))
  obtain ⟨g211, g212⟩ := and_e hg
  obtain ⟨g213, g214⟩ := and_e g212
  obtain ⟨w0, w1, rfl⟩ : ∃ w0 w1 : Value, args = #[w0, w1] := by
    have hs : args.size = 2 := by simpa [Cond.value, given_1] using g211
    obtain ⟨L⟩ := args
    match L, hs with
    | [w0, w1], _ => exact ⟨w0, w1, rfl⟩
  have hw := fun d (hd : d ∈ tables_1) => atoms_spec (ws := Jvm.Cond.code x code maxLocals ret :: tables_1) hat d (List.mem_cons_of_mem _ hd)
  have hfit : Fit s := fun {y c} hc i hi => by
    obtain ⟨ha, rfl⟩ := Array.getElem?_eq_some_iff.mp hc
    have q := List.all_eq_true.mp ((Array.all_eq_true_iff_forall_mem.mp hF) _ (Array.getElem_mem ha)) i (List.mem_range.mpr hi)
    simpa [Array.getElem?_eq_getElem hi] using q
  obtain ⟨i0, ei0⟩ := isL_v g213
  obtain rfl : w0 = (.long i0) := Option.some.inj ei0
  obtain ⟨i1, ei1⟩ := is_v g214
  obtain rfl : w1 = (.int i1) := Option.some.inj ei1
  obtain ⟨n, o, h1, h2, h3, v, L, rfl, ⟨hv, N, -⟩, hq⟩ := rm0 l s _ hw tables_1 i0 i1  s.heap s.heap.size (Nat.le_refl _)  p e ha hc hk s m _ below hf ((Spec.applies_iff_loose hf).mp happ).1 ⟨rfl, State.Warmed39.refl s, rfl⟩ trivial
  rw [plain0] at hv
  subst hv
  refine ⟨n, _, h1, h2, h3, hpost _ _ _ _ _ _ ⟨Cond.after_iff.mpr rfl, Cond.after_iff.mpr (eq_i res_at (Term.int_eval (1)) rfl), trivial⟩ ⟨hq.1, hq.2.1, (hq.2.2.sift fun y hy => Or.inr (N y hy)).mono (by decide) (by decide)⟩⟩
theorem main_1_1 : Claimed_1_1 := comes_1 fun _ _ _ _ _ _ h hF => ⟨h.1, hF⟩
theorem main_1_2 : Claimed_1_2 := comes_1 fun _ _ _ _ _ _ h hF => ⟨h.2.1, hF⟩
end Jvm.Pilot.@@N@@
namespace Jvm.Pilot.@@N@@
open Jvm Jvm.ClassFile Sem Op Lib Jvm.Free Jvm.Stand Jvm.Pilot.@@N@@.Jvm.D
/-! MADE BY PROGRAM (witnessworld.py) out of the Statement's table words and the real class files: 11 classes; the members and pool entries that the words name. The judged class is class 1, her method 2. -/
namespace start1
open Jvm.ClassFile
def u (s : String) : CpInfo := .utf8 (stringToUtf16 s)
/-- a pool by its gaps: so many unusable entries, then the entry; so many at the end -/
def gap : Nat → List CpInfo → List CpInfo
  | 0, r => r
  | n + 1, r => .unusable :: gap n r
def poolList (es : List (Nat × CpInfo)) (last : Nat) : List CpInfo := es.foldr (fun e r => gap e.1 (e.2 :: r)) (gap last [])
def pool (es : List (Nat × CpInfo)) (last : Nat) : Array CpInfo := ⟨poolList es last⟩
def fileOf (pool : Array CpInfo) (this : Nat) (attrs : Array Attribute := #[]) (ms : Array MethodInfo := #[]) (fl : Nat := 33) (sup : Nat := 0) (ifs : Array Nat := #[]) (fds : Array FieldInfo := #[]) : ClassFile where
  minorVersion := 0
  majorVersion := 65
  constantPool := pool
  accessFlags := fl
  thisClass := this
  superClass := sup
  interfaces := ifs
  fields := fds
  methods := ms
  attributes := attrs
def plain (name : String) (sup : Option ClassId) : Class where
  name := name
  kind := .ordinary
  loader := none
  accessFlags := 33
  super := sup
  interfaces := #[]
  cf := none
  fields := #[]
  methods := #[]
  instanceTypes := #[]
  staticTypes := #[]
  resolved := #[]
  callSites := []
  init := .initialized
  statics := none
  mirror := none

def pool0 : Array CpInfo := pool [(5, u "<init>"), (0, u "()V"), (1, .class_ 10), (1, u "java/lang/Object")] 113

def k0m0 : Method := { name := "<init>", desc := "()V", sig := { parameters := [], returnType := none }, accessFlags := 1, code := none }
/-- java/lang/Object -/
def k0 : Class := { plain "java/lang/Object" none with
  accessFlags := 33
  interfaces := #[]
  cf := some (fileOf pool0 8 #[] #[{ accessFlags := 1, nameIndex := 5, descriptorIndex := 6, attributes := #[] }] 33 0 #[] #[])
  fields := #[]
  methods := #[k0m0]
  instanceTypes := #[]
  staticTypes := #[]
  resolved := Array.replicate 124 none
  statics := none }

def pool1 : Array CpInfo := pool [(2, .class_ 4), (1, u "java/lang/Object"), (0, u "<init>"), (0, u "()V"), (0, .methodref 8 9), (0, .class_ 10), (0, .nameAndType 11 12), (0, u "com/example/tabuleiro/tabuleiro/othello/OthelloPositionNeighboursPinLaw"), (0, u "has"), (0, u "(JII)Z"), (0, .methodref 14 15), (0, .class_ 16), (0, .nameAndType 17 18), (0, u "com/example/tabuleiro/tabuleiro/othello/OthelloPosition"), (0, u "neighbours"), (0, u "(J)J"), (3, u "law"), (0, u "(JI)Z")] 2

def k1m0 : Method := { name := "<init>", desc := "()V", sig := { parameters := [], returnType := none }, accessFlags := 1, code := none }
def k1c1 : Code := { maxStack := 4, maxLocals := 4, code := method_2_code, exceptionTable := #[], attributes := #[] }
def k1m1 : Method := { name := "has", desc := "(JII)Z", sig := { parameters := [.long, .int, .int], returnType := some .boolean }, accessFlags := 10, code := some k1c1 }
def k1c2 : Code := { maxStack := 5, maxLocals := 10, code := code, exceptionTable := #[], attributes := #[] }
def k1m2 : Method := { name := "law", desc := "(JI)Z", sig := { parameters := [.long, .int], returnType := some .boolean }, accessFlags := 9, code := some k1c2 }
/-- com/example/tabuleiro/tabuleiro/othello/OthelloPositionNeighboursPinLaw -/
def k1 : Class := { plain "com/example/tabuleiro/tabuleiro/othello/OthelloPositionNeighboursPinLaw" (some 0) with
  accessFlags := 49
  interfaces := #[]
  cf := some (fileOf pool1 8 #[] #[{ accessFlags := 1, nameIndex := 5, descriptorIndex := 6, attributes := #[] }, { accessFlags := 10, nameIndex := 11, descriptorIndex := 12, attributes := #[] }, { accessFlags := 9, nameIndex := 22, descriptorIndex := 23, attributes := #[] }] 49 2 #[] #[])
  fields := #[]
  methods := #[k1m0, k1m1, k1m2]
  instanceTypes := #[]
  staticTypes := #[]
  resolved := Array.replicate 26 none
  statics := none }

def pool2 : Array CpInfo := pool [(2, .class_ 4), (1, u "java/lang/Object"), (0, u "<init>"), (0, u "()V"), (0, .class_ 8), (0, u "java/lang/Record")] 13

def k2m0 : Method := { name := "<init>", desc := "()V", sig := { parameters := [], returnType := none }, accessFlags := 4, code := none }
/-- java/lang/Record -/
def k2 : Class := { plain "java/lang/Record" (some 0) with
  accessFlags := 1057
  interfaces := #[]
  cf := some (fileOf pool2 7 #[] #[{ accessFlags := 4, nameIndex := 5, descriptorIndex := 6, attributes := #[] }] 1057 2 #[] #[])
  fields := #[]
  methods := #[k2m0]
  instanceTypes := #[]
  staticTypes := #[]
  resolved := Array.replicate 22 none
  statics := none }

def pool3 : Array CpInfo := pool [(4, .class_ 6), (1, u "com/example/tabuleiro/tabuleiro/game/Position"), (12, .class_ 20), (0, u "java/lang/Object"), (0, u "UNFORCED"), (0, u "I")] 21

/-- com/example/tabuleiro/tabuleiro/game/Position -/
def k3 : Class := { plain "com/example/tabuleiro/tabuleiro/game/Position" (some 0) with
  accessFlags := 1537
  interfaces := #[]
  cf := some (fileOf pool3 4 #[] #[] 1537 19 #[] #[{ accessFlags := 25, nameIndex := 21, descriptorIndex := 22, attributes := #[] }])
  fields := #[{ name := "UNFORCED", type := .int, accessFlags := 25, slot := 0, constantValue := 0 }]
  methods := #[]
  instanceTypes := #[]
  staticTypes := #[.int]
  resolved := Array.replicate 44 none
  statics := none }

def pool4 : Array CpInfo := pool [(1, .class_ 2), (0, u "com/example/tabuleiro/tabuleiro/othello/OthelloPosition"), (1, .class_ 6), (1, u "java/lang/Record"), (3, u "toMove"), (15, u "black"), (0, u "J"), (2, u "white"), (2, u "Lcom/example/tabuleiro/tabuleiro/game/Colour;"), (2, u "START"), (0, u "Lcom/example/tabuleiro/tabuleiro/othello/OthelloPosition;"), (101, .class_ 140), (0, u "com/example/tabuleiro/tabuleiro/game/Position"), (50, u "RAYS"), (0, u "[J"), (3, u "(J)J"), (3, .long 18374403900871474942), (1, .long 9187201950435737471), (3, u "COLUMN_STEPS"), (0, u "[I"), (2, u "ROW_STEPS"), (17, u "PASS"), (0, u "I"), (2, u "SQUARES"), (0, u "COLUMNS"), (0, u "Ljava/lang/String;"), (0, u "NOT_A"), (0, u "NOT_H"), (0, u "INNER_COLUMNS"), (0, u "RAISING"), (24, u "neighbours")] 52

def k4c0 : Code := { maxStack := 6, maxLocals := 6, code := prog_36_method_31_code, exceptionTable := #[], attributes := #[] }
def k4m0 : Method := { name := "neighbours", desc := "(J)J", sig := { parameters := [.long], returnType := some .long }, accessFlags := 8, code := some k4c0 }
/-- com/example/tabuleiro/tabuleiro/othello/OthelloPosition -/
def k4 : Class := { plain "com/example/tabuleiro/tabuleiro/othello/OthelloPosition" (some 2) with
  accessFlags := 49
  interfaces := #[3]
  cf := some (fileOf pool4 1 #[] #[{ accessFlags := 8, nameIndex := 263, descriptorIndex := 196, attributes := #[] }] 49 4 #[139] #[{ accessFlags := 18, nameIndex := 26, descriptorIndex := 27, attributes := #[] }, { accessFlags := 18, nameIndex := 30, descriptorIndex := 27, attributes := #[] }, { accessFlags := 18, nameIndex := 10, descriptorIndex := 33, attributes := #[] }, { accessFlags := 25, nameIndex := 228, descriptorIndex := 229, attributes := #[] }, { accessFlags := 25, nameIndex := 232, descriptorIndex := 229, attributes := #[] }, { accessFlags := 26, nameIndex := 233, descriptorIndex := 234, attributes := #[] }, { accessFlags := 26, nameIndex := 235, descriptorIndex := 27, attributes := #[] }, { accessFlags := 26, nameIndex := 236, descriptorIndex := 27, attributes := #[] }, { accessFlags := 26, nameIndex := 237, descriptorIndex := 27, attributes := #[] }, { accessFlags := 26, nameIndex := 206, descriptorIndex := 207, attributes := #[] }, { accessFlags := 26, nameIndex := 210, descriptorIndex := 207, attributes := #[] }, { accessFlags := 26, nameIndex := 238, descriptorIndex := 229, attributes := #[] }, { accessFlags := 26, nameIndex := 191, descriptorIndex := 192, attributes := #[] }, { accessFlags := 26, nameIndex := 36, descriptorIndex := 37, attributes := #[] }])
  fields := #[{ name := "black", type := .long, accessFlags := 18, slot := 0, constantValue := 0 }, { name := "white", type := .long, accessFlags := 18, slot := 1, constantValue := 0 }, { name := "toMove", type := (.object "com/example/tabuleiro/tabuleiro/game/Colour"), accessFlags := 18, slot := 2, constantValue := 0 }, { name := "PASS", type := .int, accessFlags := 25, slot := 0, constantValue := 0 }, { name := "SQUARES", type := .int, accessFlags := 25, slot := 1, constantValue := 0 }, { name := "COLUMNS", type := (.object "java/lang/String"), accessFlags := 26, slot := 2, constantValue := 0 }, { name := "NOT_A", type := .long, accessFlags := 26, slot := 3, constantValue := 0 }, { name := "NOT_H", type := .long, accessFlags := 26, slot := 4, constantValue := 0 }, { name := "INNER_COLUMNS", type := .long, accessFlags := 26, slot := 5, constantValue := 0 }, { name := "COLUMN_STEPS", type := (.array .int), accessFlags := 26, slot := 6, constantValue := 0 }, { name := "ROW_STEPS", type := (.array .int), accessFlags := 26, slot := 7, constantValue := 0 }, { name := "RAISING", type := .int, accessFlags := 26, slot := 8, constantValue := 0 }, { name := "RAYS", type := (.array .long), accessFlags := 26, slot := 9, constantValue := 0 }, { name := "START", type := (.object "com/example/tabuleiro/tabuleiro/othello/OthelloPosition"), accessFlags := 26, slot := 10, constantValue := 0 }]
  methods := #[k4m0]
  instanceTypes := #[.long, .long, (.object "com/example/tabuleiro/tabuleiro/game/Colour")]
  staticTypes := #[.int, .int, (.object "java/lang/String"), .long, .long, .long, (.array .int), (.array .int), .int, (.array .long), (.object "com/example/tabuleiro/tabuleiro/othello/OthelloPosition")]
  resolved := Array.replicate 316 none
  statics := none }

def pool5 : Array CpInfo := pool [(1, u "java/lang/Cloneable"), (0, .class_ 1), (0, u "java/lang/Object"), (0, .class_ 3)] 3

/-- java/lang/Cloneable -/
def k5 : Class := { plain "java/lang/Cloneable" (some 0) with
  accessFlags := 1537
  interfaces := #[]
  cf := some (fileOf pool5 2 #[] #[] 1537 4 #[] #[])
  fields := #[]
  methods := #[]
  instanceTypes := #[]
  staticTypes := #[]
  resolved := Array.replicate 8 none
  statics := none }

def pool6 : Array CpInfo := pool [(1, u "java/io/Serializable"), (0, .class_ 1), (0, u "java/lang/Object"), (0, .class_ 3)] 3

/-- java/io/Serializable -/
def k6 : Class := { plain "java/io/Serializable" (some 0) with
  accessFlags := 1537
  interfaces := #[]
  cf := some (fileOf pool6 2 #[] #[] 1537 4 #[] #[])
  fields := #[]
  methods := #[]
  instanceTypes := #[]
  staticTypes := #[]
  resolved := Array.replicate 8 none
  statics := none }

/-- the primitive byte -/
def k7 : Class := { plain "byte" none with kind := .primitive 'B', accessFlags := 0x411 }
/-- [B -/
def k8 : Class := { plain "[B" (some 0) with kind := .array 7 .byte, interfaces := #[5, 6], accessFlags := 1041 }

/-- the primitive int -/
def k9 : Class := { plain "int" none with kind := .primitive 'I', accessFlags := 0x411 }
/-- [I -/
def k10 : Class := { plain "[I" (some 0) with kind := .array 9 .int, interfaces := #[5, 6], accessFlags := 1041 }

def heap : Heap := #[]
def classes : Array Class := #[k0, k1, k2, k3, k4, k5, k6, k7, k8, k9, k10]
def interned : List (Array UInt16 × Addr) := []
def slotsUsed : Nat := 0
def theMethod : MethodId := ⟨1, 2⟩
def args0 : Array Value := #[.long 5, .int 7]
def aboutOver (below : List Frame) : State where
  vm := { classes := classes, interned := interned.toArray }
  heap := heap
  slotsUsed := slotsUsed
  threads := #[{ frames := .invoking theMethod args0 :: below }]
def below0 : List Frame := [.native { method := ⟨0, 0⟩, args := #[] }]
def about1 : State := aboutOver below0
def p0 : Program := .bare "" "" ""
def e0 : Env := launch0.env 0 0 0
theorem w_frames : about1.frames = Frame.invoking theMethod args0 :: below0 := rfl
set_option maxRecDepth 65536 in
theorem w_args : argsFit about1.vm theMethod args0 = true := by decide +kernel
set_option maxRecDepth 65536 in
theorem w_heap : heapFits about1 = true := by decide +kernel
set_option maxRecDepth 65536 in
theorem w_runnable : about1.curStatus? = some .runnable := by decide +kernel
set_option maxRecDepth 65536 in
theorem w_alone : about1.alone = true := by decide +kernel
set_option maxRecDepth 65536 in
theorem w_named : about1.methodNamed? x = some theMethod := by decide +kernel
set_option maxRecDepth 65536 in
theorem w_hears : about1.hears theMethod below0 = true := by decide +kernel
set_option maxRecDepth 65536 in
theorem w_ripe : about1.ripe theMethod args0 below0 = true := by decide +kernel
theorem w_running : about1.status = .running := rfl
set_option maxRecDepth 65536 in
theorem w_room : about1.hasRoom e0.platform room_1 = true :=
  launch0.hasRoom_least _ room_1 (by decide +kernel) (by decide +kernel) (by decide +kernel) (by decide +kernel) (by decide +kernel) (by decide +kernel)
theorem allAtoms_all (ts : List Jvm.Cond) (a : Array Jvm.Value) (st : Jvm.State) : (allAtoms ts).before a st = ts.all (fun c => c.before a st) := by
  induction ts with
  | nil => rfl
  | cons c t ih =>
    show (Jvm.Cond.and c (allAtoms t)).before a st = _
    rw [Jvm.Cond.before_and, ih, List.all_cons]
def words1 : List Jvm.Cond := Jvm.Cond.code x code maxLocals ret :: tables_1
/-- a 'code' word, met by the world's own term for the bytes: nothing is compared byte by byte -/
theorem code_word {y : MethodName} {bytes : ByteArray} {mx : Nat} {rt : Option FieldType} {a : Array Value} {s : State} {m : MethodId} {meth : Method} {c : Code} (h1 : s.methodNamed? y = some m) (h2 : s.vm.method? m = some meth) (h3 : meth.code = some c) (h4 : c.code = bytes)
    (h5 : (c.maxLocals == mx && c.exceptionTable.isEmpty && decide (c.maxStack ≤ mostOperands) && decide (meth.sig.returnType = rt) && !meth.locks && decide (parseMethodDescriptor y.desc = some meth.sig)) = true) : (Jvm.Cond.code y bytes mx rt).before a s = true := by
  simp only [Bool.and_eq_true, beq_iff_eq, Bool.not_eq_true', decide_eq_true_eq] at h5
  obtain ⟨⟨⟨⟨⟨g1, g2⟩, g3⟩, g4⟩, g5⟩, g6⟩ := h5
  simp [Cond.before, Cond.holds, Cond.value, h1, h2, h3, h4, g1, g2, g3, g4, g5, g6]
def isCode : Jvm.Cond → Bool
  | .code _ _ _ _ => true
  | _ => false
theorem all_split {L : List Jvm.Cond} {P : Jvm.Cond → Bool} (h1 : L.all (fun c => isCode c || P c) = true) (h2 : ∀ c ∈ L.filter isCode, P c = true) : L.all P = true := by
  refine List.all_eq_true.mpr fun c hc => ?_
  have h := List.all_eq_true.mp h1 c hc
  rcases Bool.eq_false_or_eq_true (isCode c) with hi | hi
  · exact h2 c (List.mem_filter.mpr ⟨hc, hi⟩)
  · simpa [hi] using h
set_option maxRecDepth 65536 in
theorem w_c0 : (Jvm.Cond.code x code maxLocals ret).before args0 about1 = true := code_word (m := ⟨1, 2⟩) (meth := k1m2) (c := k1c2) (by decide +kernel) rfl rfl rfl (by decide +kernel)
set_option maxRecDepth 65536 in
theorem w_c1 : (Jvm.Cond.code ({ cls := "com/example/tabuleiro/tabuleiro/othello/OthelloPositionNeighboursPinLaw", name := "has", desc := "(JII)Z" } : Jvm.MethodName) method_2_code (4 : Nat) (Option.some Jvm.ClassFile.FieldType.boolean)).before args0 about1 = true := code_word (m := ⟨1, 1⟩) (meth := k1m1) (c := k1c1) (by decide +kernel) rfl rfl rfl (by decide +kernel)
set_option maxRecDepth 65536 in
theorem w_c2 : (Jvm.Cond.code ({ cls := "com/example/tabuleiro/tabuleiro/othello/OthelloPosition", name := "neighbours", desc := "(J)J" } : Jvm.MethodName) prog_36_method_31_code (6 : Nat) (Option.some Jvm.ClassFile.FieldType.long)).before args0 about1 = true := code_word (m := ⟨4, 0⟩) (meth := k4m0) (c := k4c0) (by decide +kernel) rfl rfl rfl (by decide +kernel)
def codes1 : List Jvm.Cond := [Jvm.Cond.code x code maxLocals ret, Jvm.Cond.code ({ cls := "com/example/tabuleiro/tabuleiro/othello/OthelloPositionNeighboursPinLaw", name := "has", desc := "(JII)Z" } : Jvm.MethodName) method_2_code (4 : Nat) (Option.some Jvm.ClassFile.FieldType.boolean), Jvm.Cond.code ({ cls := "com/example/tabuleiro/tabuleiro/othello/OthelloPosition", name := "neighbours", desc := "(J)J" } : Jvm.MethodName) prog_36_method_31_code (6 : Nat) (Option.some Jvm.ClassFile.FieldType.long)]
set_option maxRecDepth 65536 in
theorem codes_eq : words1.filter isCode = codes1 := rfl
theorem w_codes : ∀ c ∈ words1.filter isCode, c.before args0 about1 = true := by
  rw [codes_eq]
  intro c hc
  simp only [codes1, List.mem_cons, List.not_mem_nil, or_false] at hc
  rcases hc with rfl | rfl | rfl
  · exact w_c0
  · exact w_c1
  · exact w_c2
set_option maxRecDepth 65536 in
theorem w_t1 : words1.all (fun c => isCode c || c.before args0 about1) = true := by decide +kernel
theorem w_tables : (allAtoms (Jvm.Cond.code x code maxLocals ret :: tables_1)).before args0 about1 = true := by
  rw [allAtoms_all]
  show words1.all (fun c => c.before args0 about1) = true
  refine all_split ?_ w_codes
  rw [w_t1]
set_option maxRecDepth 65536 in
theorem w_case : (Jvm.Cond.and given_1 narrow_1).before args0 about1 = true := by decide +kernel
theorem w_applies : (headSpec (Jvm.Cond.code x code maxLocals ret :: tables_1) room_1).applies x e0.platform about1 = true :=
  (Spec.applies_iff w_frames).mpr ⟨w_running, w_runnable, w_alone, w_named, w_hears, w_ripe, w_room, w_tables⟩
theorem atStart : AtStart classFile x code maxLocals ret World_1 tables_1 room_1 Calls_1 rest_1 Pre_1 launch0 p0 e0 about1 theMethod args0 below0 :=
  ⟨lists_1, trivial, launch0.admits_env _ _ _, launch0.least_env, fairChoices_fair.cas, fairChoices_fair.clock, w_frames, w_args, w_heap, w_applies, trivial, trivial, w_case⟩
end start1
theorem witness_1 : WitnessClaimed_1 := ⟨start1.p0, start1.e0, start1.about1, start1.theMethod, start1.args0, start1.below0, start1.atStart⟩
end Jvm.Pilot.@@N@@
