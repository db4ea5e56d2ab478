import JvmDerived
import JvmDerived.Pilot.@@N@@Statement
import JvmDerived.Pilot.@@N@@Code
set_option linter.unusedVariables false
set_option linter.unusedSimpArgs false
namespace Jvm.RoadKit
open Sem ClassFile Op Lib Jvm.Stand Jvm.Free Jvm.LawKit
section New
variable {p : Program} {l : Launch} {e : Env} {R : Room} {s : State} {m : MethodId} {args : Array Value} {below : List Frame} {meth : Method} {c : Code} {T : State} {locs : List Loc} {cells slots : Nat}
theorem retI (X : Stand p l e R s m args below meth c T locs cells slots) (hx : p.tables.exec = Jvm.exec) {pc : Nat} {Ls : Array Slot} {z : Int32} {rest : List Value} (hret : meth.sig.returnType = some .int) (hd : decode c.code pc = .ok (.ireturn, 1)) {fs : List Frame}
    (hl : ∀ (f : JFrame) (acts : List Action), f.method = m → f.locked = none → f.entered = [] → (doReturn e (T.setTop f) acts (some (.int z))).1 = T.setFrames fs) : Steps p.tables e below (T.setTop (mkF m pc Ls (.int z :: rest))) (T.setFrames fs) := by
  have hm' : T.vm.method? m = some meth := X.method'
  have hn : narrow .int (.int z) = .int z := rfl
  show Steps p.tables e below (T.setTop { method := m, pc := pc, locals := Ls, stack := _ :: rest, locked := none }) _
  jvm_step X.here [X.here.top, hx, hd, hm', hret, hn]
  first | (intro acts; rw [hl _ acts rfl rfl rfl]) | rw [hl _ _ rfl rfl rfl]
  exact Steps.refl _
end New
end Jvm.RoadKit
namespace Jvm.Pilot.@@N@@
open Jvm Jvm.ClassFile Sem Op Lib Jvm.Free Jvm.Stand Jvm.LawKit Jvm.RoadKit Bundle Jvm.Pilot.@@N@@.Jvm.D
theorem own_eqI {args : Array Value} {first s : State} {o : Option Outcome} {idx : List Nat} {t : Term} {k : Int32} (h : (Jvm.Cond.eq t (Term.int k)).value args first o s idx = some true) : t.eval args first o idx s = some (.int k) := by
  simp only [Cond.value, Term.eval] at h
  cases ht : t.eval args first o idx s with
  | none => simp [ht] at h
  | some x => cases x <;> simp [ht] at h ⊢; exact h
theorem own_eqR {args : Array Value} {first s : State} {o : Option Outcome} {idx : List Nat} {t u : Term} {x : Addr} (h : (Jvm.Cond.eq t u).value args first o s idx = some true) (hu : u.eval args first o idx s = some (.ref x)) : t.eval args first o idx s = some (.ref x) := by
  simp only [Cond.value, hu] at h
  cases ht : t.eval args first o idx s with
  | none => simp [ht] at h
  | some y => cases y <;> simp [ht] at h ⊢; exact h

theorem d12_0 : decode method_2_code 0 = .ok (.lload_n 0, 1) := by decide +kernel
theorem d12_1 : decode method_2_code 1 = .ok (.ldc2_w 7, 3) := by decide +kernel
theorem d12_4 : decode method_2_code 4 = .ok (.lrem, 1) := by decide +kernel
theorem d12_5 : decode method_2_code 5 = .ok (.lconst 0, 1) := by decide +kernel
theorem d12_6 : decode method_2_code 6 = .ok (.lcmp, 1) := by decide +kernel
theorem d12_7 : decode method_2_code 7 = .ok (.ifCond .ne 27, 3) := by decide +kernel
theorem d12_10 : decode method_2_code 10 = .ok (.lload_n 0, 1) := by decide +kernel
theorem d12_11 : decode method_2_code 11 = .ok (.ldc2_w 9, 3) := by decide +kernel
theorem d12_14 : decode method_2_code 14 = .ok (.lrem, 1) := by decide +kernel
theorem d12_15 : decode method_2_code 15 = .ok (.lconst 0, 1) := by decide +kernel
theorem d12_16 : decode method_2_code 16 = .ok (.lcmp, 1) := by decide +kernel
theorem d12_17 : decode method_2_code 17 = .ok (.ifCond .ne 13, 3) := by decide +kernel
theorem d12_20 : decode method_2_code 20 = .ok (.lload_n 0, 1) := by decide +kernel
theorem d12_21 : decode method_2_code 21 = .ok (.ldc2_w 11, 3) := by decide +kernel
theorem d12_24 : decode method_2_code 24 = .ok (.lrem, 1) := by decide +kernel
theorem d12_25 : decode method_2_code 25 = .ok (.lconst 0, 1) := by decide +kernel
theorem d12_26 : decode method_2_code 26 = .ok (.lcmp, 1) := by decide +kernel
theorem d12_27 : decode method_2_code 27 = .ok (.ifCond .ne 7, 3) := by decide +kernel
theorem d12_30 : decode method_2_code 30 = .ok (.iconst 1, 1) := by decide +kernel
theorem d12_31 : decode method_2_code 31 = .ok (.goto 4, 3) := by decide +kernel
theorem d12_35 : decode method_2_code 35 = .ok (.ireturn, 1) := by decide +kernel
theorem d12_34 : decode method_2_code 34 = .ok (.iconst 0, 1) := by decide +kernel
theorem pn_12 : plainName "com/example/notesmith/notesmith/calc/AccrualDaysPinLaw" = true := by first | (simp [plainName, overriddenIn]; done) | decide +kernel
theorem ef_12 (m : MethodId) (x0 : Int64) : entryFrame m #[(.long x0)] 2 = mkF m 0 #[.val (.long x0), .second] [] := by first | (simp [entryFrame, mkF, argsToLocals, Value.category]; done) | rfl
def F12 (q1 : Int64) : Int32 :=
  if (lcmpW (q1 - (q1 / (4 : Int64)) * (4 : Int64)) (0 : Int64)) = (0 : Int32) then (  if (lcmpW (q1 - (q1 / (100 : Int64)) * (100 : Int64)) (0 : Int64)) = (0 : Int32) then (  if (lcmpW (q1 - (q1 / (400 : Int64)) * (400 : Int64)) (0 : Int64)) = (0 : Int32) then (  (1 : Int32))
  else (  (0 : Int32)))
  else (  (1 : Int32)))
  else (  (0 : Int32))
def Q12 (Z : State) (q1 : Int64) (h0 : Heap) (n0 : Nat) (v : Option Value) (h : Heap) (L : List Loc) : Prop := v = some (.int (F12 q1)) ∧ Fr n0 L ∧ h = h0
set_option maxRecDepth 65536 in
set_option maxHeartbeats 40000000 in
theorem rm12 (l : Launch) (Z : State) (a0 : Array Value) (hw : ∀ d ∈ tables_1, d.before a0 Z = true) (ws : List Jvm.Cond) (q1 : Int64) (h0 : Heap) (n0 : Nat) (Z0 : n0 ≤ h0.size)  :
    MetFree l (⟨"com/example/notesmith/notesmith/calc/AccrualDaysPinLaw", "isLeap", "(J)Z"⟩ : MethodName) (head1 (Jvm.Cond.code (⟨"com/example/notesmith/notesmith/calc/AccrualDaysPinLaw", "isLeap", "(J)Z"⟩ : MethodName) method_2_code 2 (some .boolean) :: ws) ({ frames := 0, cells := 0, slots := 0, locals := 0 } : Room)) (fun a U => a = #[(.long q1)] ∧ Z.Warmed39 U.vm ∧ U.heap = h0) (fun _ _ _ _ _ => True) (fun _ U o U' => ∃ v L, o = .returned v ∧ Q12 Z q1 h0 n0 v U'.heap L ∧ FrameEnd U o U' L ({ frames := 0, cells := 0, slots := 0, locals := 0 } : Room).cells ({ frames := 0, cells := 0, slots := 0, locals := 0 } : Room).slots) := by
  refine MetFree.of_bodySF (plainFor_of_name pn_12) hisR ?_
  intro p e s m args below meth c s₁ Bd hml0 hP hK
  obtain ⟨rfl, hZ, hh⟩ := hP
  have hx := Bd.exec
  have hby := Bd.bytes
  have hml : c.maxLocals = 2 := hml0
  have hown : s.vm.findClass "com/example/notesmith/notesmith/calc/AccrualDaysPinLaw" = some m.cls := findClass_of_methodNamed Bd.named
  have hnm := (name_of_methodNamed Bd.named Bd.method).1
  have hret := Bd.returns
  have hlocks : meth.locks = false := Bd.notSynchronized
  have X0 : Stand p l e ({ frames := 0, cells := 0, slots := 0, locals := 0 } : Room) s m #[(.long q1)] below meth c s₁ [] 0 0 := Stand.of_body Bd
  have e0 : s₁.heap = h0 := by rw [← hh, Bd.state]; rfl
  have N0 := Fr.nil n0
  have pre0 : ∀ t, Steps p.tables e below (s₁.setTop (mkF m 0 #[.val (.long q1), .second] [])) t → Steps p.tables e below (s₁.setTop (entryFrame m #[(.long q1)] 2)) t := fun t k => castTop (ef_12 m q1) k
  have pre1 : ∀ t, Steps p.tables e below (s₁.setTop (mkF m 7 #[.val (.long q1), .second] [(.int (lcmpW (q1 - (q1 / (4 : Int64)) * (4 : Int64)) (0 : Int64)))])) t → Steps p.tables e below (s₁.setTop (entryFrame m #[(.long q1)] 2)) t := by
    intro t k
    refine pre0 _ ?_
    show Steps p.tables e below (s₁.setTop (mkF m 0 #[.val (.long q1), .second] [])) _
    refine XS.lloadN X0.here hx rfl (hb hby d12_0) rfl ?_
    show Steps p.tables e below (s₁.setTop (mkF m 1 #[.val (.long q1), .second] [(.long q1)])) _
    refine X0.ldc2Long hx hown (mvT hZ (hw _ (List.mem_of_getElem? (i := 64) rfl))) (g := (mkF m 1 #[.val (.long q1), .second] [(.long q1)])) rfl (hb hby d12_1) _ ?_
    show Steps p.tables e below (s₁.setTop (mkF m 4 #[.val (.long q1), .second] [(.long (4 : Int64)), (.long q1)])) _
    refine XS.lrem X0.here hx rfl (hb hby d12_4) rfl (by decide) ?_
    show Steps p.tables e below (s₁.setTop (mkF m 5 #[.val (.long q1), .second] [(.long (q1 - (q1 / (4 : Int64)) * (4 : Int64)))])) _
    refine XS.lconst X0.here hx rfl (hb hby d12_5) ?_
    show Steps p.tables e below (s₁.setTop (mkF m 6 #[.val (.long q1), .second] [(.long (0 : Int64)), (.long (q1 - (q1 / (4 : Int64)) * (4 : Int64)))])) _
    refine XS.lcmp X0.here hx rfl (hb hby d12_6) rfl ?_
    exact k
  by_cases hc2 : (lcmpW (q1 - (q1 / (4 : Int64)) * (4 : Int64)) (0 : Int64)) = (0 : Int32)
  · have pre3 : ∀ t, Steps p.tables e below (s₁.setTop (mkF m 10 #[.val (.long q1), .second] [])) t → Steps p.tables e below (s₁.setTop (entryFrame m #[(.long q1)] 2)) t := by
      intro t k
      refine pre1 _ ?_
      show Steps p.tables e below (s₁.setTop (mkF m 7 #[.val (.long q1), .second] [(.int (lcmpW (q1 - (q1 / (4 : Int64)) * (4 : Int64)) (0 : Int64)))])) _
      refine XS.ifNo X0.here hx rfl (hb hby d12_7) rfl ((if0 _ _).trans (teq hc2).2) ?_
      exact k
    have pre4 : ∀ t, Steps p.tables e below (s₁.setTop (mkF m 17 #[.val (.long q1), .second] [(.int (lcmpW (q1 - (q1 / (100 : Int64)) * (100 : Int64)) (0 : Int64)))])) t → Steps p.tables e below (s₁.setTop (entryFrame m #[(.long q1)] 2)) t := by
      intro t k
      refine pre3 _ ?_
      show Steps p.tables e below (s₁.setTop (mkF m 10 #[.val (.long q1), .second] [])) _
      refine XS.lloadN X0.here hx rfl (hb hby d12_10) rfl ?_
      show Steps p.tables e below (s₁.setTop (mkF m 11 #[.val (.long q1), .second] [(.long q1)])) _
      refine X0.ldc2Long hx hown (mvT hZ (hw _ (List.mem_of_getElem? (i := 65) rfl))) (g := (mkF m 11 #[.val (.long q1), .second] [(.long q1)])) rfl (hb hby d12_11) _ ?_
      show Steps p.tables e below (s₁.setTop (mkF m 14 #[.val (.long q1), .second] [(.long (100 : Int64)), (.long q1)])) _
      refine XS.lrem X0.here hx rfl (hb hby d12_14) rfl (by decide) ?_
      show Steps p.tables e below (s₁.setTop (mkF m 15 #[.val (.long q1), .second] [(.long (q1 - (q1 / (100 : Int64)) * (100 : Int64)))])) _
      refine XS.lconst X0.here hx rfl (hb hby d12_15) ?_
      show Steps p.tables e below (s₁.setTop (mkF m 16 #[.val (.long q1), .second] [(.long (0 : Int64)), (.long (q1 - (q1 / (100 : Int64)) * (100 : Int64)))])) _
      refine XS.lcmp X0.here hx rfl (hb hby d12_16) rfl ?_
      exact k
    by_cases hc5 : (lcmpW (q1 - (q1 / (100 : Int64)) * (100 : Int64)) (0 : Int64)) = (0 : Int32)
    · have pre6 : ∀ t, Steps p.tables e below (s₁.setTop (mkF m 20 #[.val (.long q1), .second] [])) t → Steps p.tables e below (s₁.setTop (entryFrame m #[(.long q1)] 2)) t := by
        intro t k
        refine pre4 _ ?_
        show Steps p.tables e below (s₁.setTop (mkF m 17 #[.val (.long q1), .second] [(.int (lcmpW (q1 - (q1 / (100 : Int64)) * (100 : Int64)) (0 : Int64)))])) _
        refine XS.ifNo X0.here hx rfl (hb hby d12_17) rfl ((if0 _ _).trans (teq hc5).2) ?_
        exact k
      have pre7 : ∀ t, Steps p.tables e below (s₁.setTop (mkF m 27 #[.val (.long q1), .second] [(.int (lcmpW (q1 - (q1 / (400 : Int64)) * (400 : Int64)) (0 : Int64)))])) t → Steps p.tables e below (s₁.setTop (entryFrame m #[(.long q1)] 2)) t := by
        intro t k
        refine pre6 _ ?_
        show Steps p.tables e below (s₁.setTop (mkF m 20 #[.val (.long q1), .second] [])) _
        refine XS.lloadN X0.here hx rfl (hb hby d12_20) rfl ?_
        show Steps p.tables e below (s₁.setTop (mkF m 21 #[.val (.long q1), .second] [(.long q1)])) _
        refine X0.ldc2Long hx hown (mvT hZ (hw _ (List.mem_of_getElem? (i := 59) rfl))) (g := (mkF m 21 #[.val (.long q1), .second] [(.long q1)])) rfl (hb hby d12_21) _ ?_
        show Steps p.tables e below (s₁.setTop (mkF m 24 #[.val (.long q1), .second] [(.long (400 : Int64)), (.long q1)])) _
        refine XS.lrem X0.here hx rfl (hb hby d12_24) rfl (by decide) ?_
        show Steps p.tables e below (s₁.setTop (mkF m 25 #[.val (.long q1), .second] [(.long (q1 - (q1 / (400 : Int64)) * (400 : Int64)))])) _
        refine XS.lconst X0.here hx rfl (hb hby d12_25) ?_
        show Steps p.tables e below (s₁.setTop (mkF m 26 #[.val (.long q1), .second] [(.long (0 : Int64)), (.long (q1 - (q1 / (400 : Int64)) * (400 : Int64)))])) _
        refine XS.lcmp X0.here hx rfl (hb hby d12_26) rfl ?_
        exact k
      by_cases hc8 : (lcmpW (q1 - (q1 / (400 : Int64)) * (400 : Int64)) (0 : Int64)) = (0 : Int32)
      · have pre9 : ∀ t, Steps p.tables e below (s₁.setTop (mkF m 30 #[.val (.long q1), .second] [])) t → Steps p.tables e below (s₁.setTop (entryFrame m #[(.long q1)] 2)) t := by
          intro t k
          refine pre7 _ ?_
          show Steps p.tables e below (s₁.setTop (mkF m 27 #[.val (.long q1), .second] [(.int (lcmpW (q1 - (q1 / (400 : Int64)) * (400 : Int64)) (0 : Int64)))])) _
          refine XS.ifNo X0.here hx rfl (hb hby d12_27) rfl ((if0 _ _).trans (teq hc8).2) ?_
          exact k
        have pre10 : ∀ t, Steps p.tables e below (s₁.setTop (mkF m 35 #[.val (.long q1), .second] [(.int (1 : Int32))])) t → Steps p.tables e below (s₁.setTop (entryFrame m #[(.long q1)] 2)) t := by
          intro t k
          refine pre9 _ ?_
          show Steps p.tables e below (s₁.setTop (mkF m 30 #[.val (.long q1), .second] [])) _
          refine XS.iconst X0.here hx rfl (hb hby d12_30) ?_
          show Steps p.tables e below (s₁.setTop (mkF m 31 #[.val (.long q1), .second] [(.int (1 : Int32))])) _
          refine XS.goto X0.here hx rfl (pc0 := 31) (pc' := 35) rfl (hb hby d12_31) (by decide) (by decide) ?_
          exact k
        obtain ⟨fs, hr, hrun, hended, hW, hsame⟩ := X0.leave (v := some (.int (1 : Int32))) (fun h => by rw [hret] at h; cases h) (hlocks := hlocks)
        refine ⟨_, _, pre10 _ ?_, hrun, hended, _, _, rfl, ?_, ⟨_, rfl⟩, hW, hsame.mono (by decide) (by decide)⟩
        · show Steps p.tables e below (s₁.setTop (mkF m 35 #[.val (.long q1), .second] [(.int (1 : Int32))])) _
          exact retN X0 hx (t := .boolean) hret (by simp) (hb hby d12_35) hr
        · show Q12 Z q1 h0 n0 _ s₁.heap _
          exact ⟨(by rw [F12, if_pos hc2, if_pos hc5, if_pos hc8]), N0, e0⟩
      · have pre11 : ∀ t, Steps p.tables e below (s₁.setTop (mkF m 34 #[.val (.long q1), .second] [])) t → Steps p.tables e below (s₁.setTop (entryFrame m #[(.long q1)] 2)) t := by
          intro t k
          refine pre7 _ ?_
          show Steps p.tables e below (s₁.setTop (mkF m 27 #[.val (.long q1), .second] [(.int (lcmpW (q1 - (q1 / (400 : Int64)) * (400 : Int64)) (0 : Int64)))])) _
          refine XS.ifYes X0.here hx rfl (pc0 := 27) (pc' := 34) rfl (hb hby d12_27) rfl ((if0 _ _).trans (feq hc8).2) (by decide) (by decide) ?_
          exact k
        have pre12 : ∀ t, Steps p.tables e below (s₁.setTop (mkF m 35 #[.val (.long q1), .second] [(.int (0 : Int32))])) t → Steps p.tables e below (s₁.setTop (entryFrame m #[(.long q1)] 2)) t := by
          intro t k
          refine pre11 _ ?_
          show Steps p.tables e below (s₁.setTop (mkF m 34 #[.val (.long q1), .second] [])) _
          refine XS.iconst X0.here hx rfl (hb hby d12_34) ?_
          exact k
        obtain ⟨fs, hr, hrun, hended, hW, hsame⟩ := X0.leave (v := some (.int (0 : Int32))) (fun h => by rw [hret] at h; cases h) (hlocks := hlocks)
        refine ⟨_, _, pre12 _ ?_, hrun, hended, _, _, rfl, ?_, ⟨_, rfl⟩, hW, hsame.mono (by decide) (by decide)⟩
        · show Steps p.tables e below (s₁.setTop (mkF m 35 #[.val (.long q1), .second] [(.int (0 : Int32))])) _
          exact retN X0 hx (t := .boolean) hret (by simp) (hb hby d12_35) hr
        · show Q12 Z q1 h0 n0 _ s₁.heap _
          exact ⟨(by rw [F12, if_pos hc2, if_pos hc5, if_neg hc8]), N0, e0⟩
    · have pre13 : ∀ t, Steps p.tables e below (s₁.setTop (mkF m 30 #[.val (.long q1), .second] [])) t → Steps p.tables e below (s₁.setTop (entryFrame m #[(.long q1)] 2)) t := by
        intro t k
        refine pre4 _ ?_
        show Steps p.tables e below (s₁.setTop (mkF m 17 #[.val (.long q1), .second] [(.int (lcmpW (q1 - (q1 / (100 : Int64)) * (100 : Int64)) (0 : Int64)))])) _
        refine XS.ifYes X0.here hx rfl (pc0 := 17) (pc' := 30) rfl (hb hby d12_17) rfl ((if0 _ _).trans (feq hc5).2) (by decide) (by decide) ?_
        exact k
      have pre14 : ∀ t, Steps p.tables e below (s₁.setTop (mkF m 35 #[.val (.long q1), .second] [(.int (1 : Int32))])) t → Steps p.tables e below (s₁.setTop (entryFrame m #[(.long q1)] 2)) t := by
        intro t k
        refine pre13 _ ?_
        show Steps p.tables e below (s₁.setTop (mkF m 30 #[.val (.long q1), .second] [])) _
        refine XS.iconst X0.here hx rfl (hb hby d12_30) ?_
        show Steps p.tables e below (s₁.setTop (mkF m 31 #[.val (.long q1), .second] [(.int (1 : Int32))])) _
        refine XS.goto X0.here hx rfl (pc0 := 31) (pc' := 35) rfl (hb hby d12_31) (by decide) (by decide) ?_
        exact k
      obtain ⟨fs, hr, hrun, hended, hW, hsame⟩ := X0.leave (v := some (.int (1 : Int32))) (fun h => by rw [hret] at h; cases h) (hlocks := hlocks)
      refine ⟨_, _, pre14 _ ?_, hrun, hended, _, _, rfl, ?_, ⟨_, rfl⟩, hW, hsame.mono (by decide) (by decide)⟩
      · show Steps p.tables e below (s₁.setTop (mkF m 35 #[.val (.long q1), .second] [(.int (1 : Int32))])) _
        exact retN X0 hx (t := .boolean) hret (by simp) (hb hby d12_35) hr
      · show Q12 Z q1 h0 n0 _ s₁.heap _
        exact ⟨(by rw [F12, if_pos hc2, if_neg hc5]), N0, e0⟩
  · have pre15 : ∀ t, Steps p.tables e below (s₁.setTop (mkF m 34 #[.val (.long q1), .second] [])) t → Steps p.tables e below (s₁.setTop (entryFrame m #[(.long q1)] 2)) t := by
      intro t k
      refine pre1 _ ?_
      show Steps p.tables e below (s₁.setTop (mkF m 7 #[.val (.long q1), .second] [(.int (lcmpW (q1 - (q1 / (4 : Int64)) * (4 : Int64)) (0 : Int64)))])) _
      refine XS.ifYes X0.here hx rfl (pc0 := 7) (pc' := 34) rfl (hb hby d12_7) rfl ((if0 _ _).trans (feq hc2).2) (by decide) (by decide) ?_
      exact k
    have pre16 : ∀ t, Steps p.tables e below (s₁.setTop (mkF m 35 #[.val (.long q1), .second] [(.int (0 : Int32))])) t → Steps p.tables e below (s₁.setTop (entryFrame m #[(.long q1)] 2)) t := by
      intro t k
      refine pre15 _ ?_
      show Steps p.tables e below (s₁.setTop (mkF m 34 #[.val (.long q1), .second] [])) _
      refine XS.iconst X0.here hx rfl (hb hby d12_34) ?_
      exact k
    obtain ⟨fs, hr, hrun, hended, hW, hsame⟩ := X0.leave (v := some (.int (0 : Int32))) (fun h => by rw [hret] at h; cases h) (hlocks := hlocks)
    refine ⟨_, _, pre16 _ ?_, hrun, hended, _, _, rfl, ?_, ⟨_, rfl⟩, hW, hsame.mono (by decide) (by decide)⟩
    · show Steps p.tables e below (s₁.setTop (mkF m 35 #[.val (.long q1), .second] [(.int (0 : Int32))])) _
      exact retN X0 hx (t := .boolean) hret (by simp) (hb hby d12_35) hr
    · show Q12 Z q1 h0 n0 _ s₁.heap _
      exact ⟨(by rw [F12, if_neg hc2]), N0, e0⟩
theorem d1_0 : decode method_3_code 0 = .ok (.iload_n 2, 1) := by decide +kernel
theorem d1_1 : decode method_3_code 1 = .ok (.iconst 1, 1) := by decide +kernel
theorem d1_2 : decode method_3_code 2 = .ok (.if_icmp .ne 18, 3) := by decide +kernel
theorem d1_5 : decode method_3_code 5 = .ok (.lload_n 0, 1) := by decide +kernel
theorem d1_6 : decode method_3_code 6 = .ok (.invokestatic 13, 3) := by decide +kernel
theorem pd__J_Z : parseMethodDescriptor "(J)Z" = some ⟨[.long], some .boolean⟩ := by decide +kernel
theorem d1_9 : decode method_3_code 9 = .ok (.ifCond .eq 8, 3) := by decide +kernel
theorem d1_17 : decode method_3_code 17 = .ok (.bipush 28, 2) := by decide +kernel
theorem d1_19 : decode method_3_code 19 = .ok (.ireturn, 1) := by decide +kernel
theorem d1_12 : decode method_3_code 12 = .ok (.bipush 29, 2) := by decide +kernel
theorem d1_14 : decode method_3_code 14 = .ok (.goto 5, 3) := by decide +kernel
theorem d1_20 : decode method_3_code 20 = .ok (.iload_n 2, 1) := by decide +kernel
theorem d1_21 : decode method_3_code 21 = .ok (.iconst 3, 1) := by decide +kernel
theorem d1_22 : decode method_3_code 22 = .ok (.if_icmp .eq 20, 3) := by decide +kernel
theorem d1_42 : decode method_3_code 42 = .ok (.bipush 30, 2) := by decide +kernel
theorem d1_44 : decode method_3_code 44 = .ok (.ireturn, 1) := by decide +kernel
theorem d1_25 : decode method_3_code 25 = .ok (.iload_n 2, 1) := by decide +kernel
theorem d1_26 : decode method_3_code 26 = .ok (.iconst 5, 1) := by decide +kernel
theorem d1_27 : decode method_3_code 27 = .ok (.if_icmp .eq 15, 3) := by decide +kernel
theorem d1_30 : decode method_3_code 30 = .ok (.iload_n 2, 1) := by decide +kernel
theorem d1_31 : decode method_3_code 31 = .ok (.bipush 8, 2) := by decide +kernel
theorem d1_33 : decode method_3_code 33 = .ok (.if_icmp .eq 9, 3) := by decide +kernel
theorem d1_36 : decode method_3_code 36 = .ok (.iload_n 2, 1) := by decide +kernel
theorem d1_37 : decode method_3_code 37 = .ok (.bipush 10, 2) := by decide +kernel
theorem d1_39 : decode method_3_code 39 = .ok (.if_icmp .ne 6, 3) := by decide +kernel
theorem d1_45 : decode method_3_code 45 = .ok (.bipush 31, 2) := by decide +kernel
theorem d1_47 : decode method_3_code 47 = .ok (.ireturn, 1) := by decide +kernel
theorem ef_1 (m : MethodId) (x0 : Int64) (x1 : Int32) : entryFrame m #[(.long x0), (.int x1)] 3 = mkF m 0 #[.val (.long x0), .second, .val (.int x1)] [] := by first | (simp [entryFrame, mkF, argsToLocals, Value.category]; done) | rfl
def F1 (q1 : Int64) (p2 : Int32) : Int32 :=
  if p2 = (1 : Int32) then (  if (F12 q1) = (0 : Int32) then (  (28 : Int32))
  else (  (29 : Int32)))
  else (  if p2 = (3 : Int32) then (  (30 : Int32))
  else (  if p2 = (5 : Int32) then (  (30 : Int32))
  else (  if p2 = (8 : Int32) then (  (30 : Int32))
  else (  if p2 = (10 : Int32) then (  (30 : Int32))
  else (  (31 : Int32))))))
def Q1 (Z : State) (q1 : Int64) (p2 : Int32) (h0 : Heap) (n0 : Nat) (v : Option Value) (h : Heap) (L : List Loc) : Prop := v = some (.int (F1 q1 p2)) ∧ Fr n0 L ∧ h = h0
set_option maxRecDepth 65536 in
set_option maxHeartbeats 40000000 in
theorem rm1 (l : Launch) (Z : State) (a0 : Array Value) (hw : ∀ d ∈ tables_1, d.before a0 Z = true) (ws : List Jvm.Cond) (q1 : Int64) (p2 : Int32) (h0 : Heap) (n0 : Nat) (Z0 : n0 ≤ h0.size)  :
    MetFree l (⟨"com/example/notesmith/notesmith/calc/AccrualDaysPinLaw", "monthLength", "(JI)I"⟩ : MethodName) (head1 (Jvm.Cond.code (⟨"com/example/notesmith/notesmith/calc/AccrualDaysPinLaw", "monthLength", "(JI)I"⟩ : MethodName) method_3_code 3 (some .int) :: ws) ({ frames := 1, cells := 0, slots := 0, locals := 13 } : Room)) (fun a U => a = #[(.long q1), (.int p2)] ∧ Z.Warmed39 U.vm ∧ U.heap = h0) (fun _ _ _ _ _ => True) (fun _ U o U' => ∃ v L, o = .returned v ∧ Q1 Z q1 p2 h0 n0 v U'.heap L ∧ FrameEnd U o U' L ({ frames := 1, cells := 0, slots := 0, locals := 13 } : Room).cells ({ frames := 1, cells := 0, slots := 0, locals := 13 } : Room).slots) := by
  refine MetFree.of_bodySF (plainFor_of_name pn_12) hisR ?_
  intro p e s m args below meth c s₁ Bd hml0 hP hK
  obtain ⟨rfl, hZ, hh⟩ := hP
  have hx := Bd.exec
  have hby := Bd.bytes
  have hml : c.maxLocals = 3 := hml0
  have hown : s.vm.findClass "com/example/notesmith/notesmith/calc/AccrualDaysPinLaw" = some m.cls := findClass_of_methodNamed Bd.named
  have hnm := (name_of_methodNamed Bd.named Bd.method).1
  have hret := Bd.returns
  have hlocks : meth.locks = false := Bd.notSynchronized
  have X0 : Stand p l e ({ frames := 1, cells := 0, slots := 0, locals := 13 } : Room) s m #[(.long q1), (.int p2)] below meth c s₁ [] 0 0 := Stand.of_body Bd
  have e0 : s₁.heap = h0 := by rw [← hh, Bd.state]; rfl
  have N0 := Fr.nil n0
  have pre0 : ∀ t, Steps p.tables e below (s₁.setTop (mkF m 0 #[.val (.long q1), .second, .val (.int p2)] [])) t → Steps p.tables e below (s₁.setTop (entryFrame m #[(.long q1), (.int p2)] 3)) t := fun t k => castTop (ef_1 m q1 p2) k
  have pre17 : ∀ t, Steps p.tables e below (s₁.setTop (mkF m 2 #[.val (.long q1), .second, .val (.int p2)] [(.int (1 : Int32)), (.int p2)])) t → Steps p.tables e below (s₁.setTop (entryFrame m #[(.long q1), (.int p2)] 3)) t := by
    intro t k
    refine pre0 _ ?_
    show Steps p.tables e below (s₁.setTop (mkF m 0 #[.val (.long q1), .second, .val (.int p2)] [])) _
    refine XS.iloadN X0.here hx rfl (hb hby d1_0) rfl ?_
    show Steps p.tables e below (s₁.setTop (mkF m 1 #[.val (.long q1), .second, .val (.int p2)] [(.int p2)])) _
    refine XS.iconst X0.here hx rfl (hb hby d1_1) ?_
    exact k
  by_cases hc18 : p2 = (1 : Int32)
  · have pre19 : ∀ t, Steps p.tables e below (s₁.setTop (mkF m 5 #[.val (.long q1), .second, .val (.int p2)] [])) t → Steps p.tables e below (s₁.setTop (entryFrame m #[(.long q1), (.int p2)] 3)) t := by
      intro t k
      refine pre17 _ ?_
      show Steps p.tables e below (s₁.setTop (mkF m 2 #[.val (.long q1), .second, .val (.int p2)] [(.int (1 : Int32)), (.int p2)])) _
      refine XS.icmpNo X0.here hx rfl (hb hby d1_2) rfl (teq hc18).2 ?_
      exact k
    have pre20 : ∀ t, Steps p.tables e below (s₁.setTop (mkF m 6 #[.val (.long q1), .second, .val (.int p2)] [(.long q1)])) t → Steps p.tables e below (s₁.setTop (entryFrame m #[(.long q1), (.int p2)] 3)) t := by
      intro t k
      refine pre19 _ ?_
      show Steps p.tables e below (s₁.setTop (mkF m 5 #[.val (.long q1), .second, .val (.int p2)] [])) _
      refine XS.lloadN X0.here hx rfl (hb hby d1_5) rfl ?_
      exact k
    obtain ⟨_, _, ⟨T21, L21, k21, n21⟩, -, X21, ⟨Lc21, hQ21, l21, y21, z21⟩, st21⟩ := Jvm.LawKit.callS X0 hx (y := (⟨"com/example/notesmith/notesmith/calc/AccrualDaysPinLaw", "isLeap", "(J)Z"⟩ : MethodName)) hown (mvT hZ (hw _ (List.mem_of_getElem? (i := 77) rfl))) (mvT hZ (hw _ (List.mem_of_getElem? (i := 78) rfl))) (mvT hZ (hw _ (List.mem_of_getElem? (i := 4) rfl))) (mvT hZ (hw _ (List.mem_of_getElem? (i := 79) rfl))) (by decide) (backOf (W := 0) (rm12 l Z a0 hw [] q1 h0 n0 Z0 ) hZ (hw _ (List.mem_of_getElem? (i := 79) rfl)) (hw _ (List.mem_of_getElem? (i := 4) rfl)) (by decide) (by decide)) (g := (mkF m 6 #[.val (.long q1), .second, .val (.int p2)] [(.long q1)])) rfl (by rw [hml]; rfl) (argsL := [(.long q1)]) (rest := []) (lenOf pd__J_Z rfl) rfl (by show 2 * 0 + _ ≤ _; exact Nat.le_of_eq rfl) (hb hby d1_6) (fun _ _ => ⟨rfl, e0, (by decide : 0 + 0 ≤ _), (by decide : 0 + 0 ≤ _)⟩)
    dsimp only [Pt.U, Pt.locs, Pt.cells, Pt.slots] at X21 l21 y21 z21 st21 hQ21
    subst l21 y21 z21
    obtain ⟨rfl, N21q, e21⟩ := hQ21
    have N21 := Fr.app N0 N21q
    have pre22 : ∀ t, Steps p.tables e below (T21.setTop (mkF m 9 #[.val (.long q1), .second, .val (.int p2)] [(.int (F12 q1))])) t → Steps p.tables e below (s₁.setTop (entryFrame m #[(.long q1), (.int p2)] 3)) t := by
      intro t k
      refine pre20 _ ?_
      show Steps p.tables e below (s₁.setTop (mkF m 6 #[.val (.long q1), .second, .val (.int p2)] [(.long q1)])) _
      refine st21 _ ?_
      exact k
    by_cases hc23 : (F12 q1) = (0 : Int32)
    · have pre24 : ∀ t, Steps p.tables e below (T21.setTop (mkF m 17 #[.val (.long q1), .second, .val (.int p2)] [])) t → Steps p.tables e below (s₁.setTop (entryFrame m #[(.long q1), (.int p2)] 3)) t := by
        intro t k
        refine pre22 _ ?_
        show Steps p.tables e below (T21.setTop (mkF m 9 #[.val (.long q1), .second, .val (.int p2)] [(.int (F12 q1))])) _
        refine XS.ifYes X21.here hx rfl (pc0 := 9) (pc' := 17) rfl (hb hby d1_9) rfl ((if0 _ _).trans (teq hc23).1) (by decide) (by decide) ?_
        exact k
      have pre25 : ∀ t, Steps p.tables e below (T21.setTop (mkF m 19 #[.val (.long q1), .second, .val (.int p2)] [(.int (28 : Int32))])) t → Steps p.tables e below (s₁.setTop (entryFrame m #[(.long q1), (.int p2)] 3)) t := by
        intro t k
        refine pre24 _ ?_
        show Steps p.tables e below (T21.setTop (mkF m 17 #[.val (.long q1), .second, .val (.int p2)] [])) _
        refine XS.bipush X21.here hx rfl (hb hby d1_17) ?_
        exact k
      obtain ⟨fs, hr, hrun, hended, hW, hsame⟩ := X21.leave (v := some (.int (28 : Int32))) (fun h => by rw [hret] at h; cases h) (hlocks := hlocks)
      refine ⟨_, _, pre25 _ ?_, hrun, hended, _, _, rfl, ?_, ⟨_, rfl⟩, hW, hsame.mono (by decide) (by decide)⟩
      · show Steps p.tables e below (T21.setTop (mkF m 19 #[.val (.long q1), .second, .val (.int p2)] [(.int (28 : Int32))])) _
        exact retI X21 hx hret (hb hby d1_19) hr
      · show Q1 Z q1 p2 h0 n0 _ T21.heap _
        exact ⟨(by rw [F1, if_pos hc18, if_pos hc23]), N21, e21⟩
    · have pre26 : ∀ t, Steps p.tables e below (T21.setTop (mkF m 12 #[.val (.long q1), .second, .val (.int p2)] [])) t → Steps p.tables e below (s₁.setTop (entryFrame m #[(.long q1), (.int p2)] 3)) t := by
        intro t k
        refine pre22 _ ?_
        show Steps p.tables e below (T21.setTop (mkF m 9 #[.val (.long q1), .second, .val (.int p2)] [(.int (F12 q1))])) _
        refine XS.ifNo X21.here hx rfl (hb hby d1_9) rfl ((if0 _ _).trans (feq hc23).1) ?_
        exact k
      have pre27 : ∀ t, Steps p.tables e below (T21.setTop (mkF m 19 #[.val (.long q1), .second, .val (.int p2)] [(.int (29 : Int32))])) t → Steps p.tables e below (s₁.setTop (entryFrame m #[(.long q1), (.int p2)] 3)) t := by
        intro t k
        refine pre26 _ ?_
        show Steps p.tables e below (T21.setTop (mkF m 12 #[.val (.long q1), .second, .val (.int p2)] [])) _
        refine XS.bipush X21.here hx rfl (hb hby d1_12) ?_
        show Steps p.tables e below (T21.setTop (mkF m 14 #[.val (.long q1), .second, .val (.int p2)] [(.int (29 : Int32))])) _
        refine XS.goto X21.here hx rfl (pc0 := 14) (pc' := 19) rfl (hb hby d1_14) (by decide) (by decide) ?_
        exact k
      obtain ⟨fs, hr, hrun, hended, hW, hsame⟩ := X21.leave (v := some (.int (29 : Int32))) (fun h => by rw [hret] at h; cases h) (hlocks := hlocks)
      refine ⟨_, _, pre27 _ ?_, hrun, hended, _, _, rfl, ?_, ⟨_, rfl⟩, hW, hsame.mono (by decide) (by decide)⟩
      · show Steps p.tables e below (T21.setTop (mkF m 19 #[.val (.long q1), .second, .val (.int p2)] [(.int (29 : Int32))])) _
        exact retI X21 hx hret (hb hby d1_19) hr
      · show Q1 Z q1 p2 h0 n0 _ T21.heap _
        exact ⟨(by rw [F1, if_pos hc18, if_neg hc23]), N21, e21⟩
  · have pre28 : ∀ t, Steps p.tables e below (s₁.setTop (mkF m 20 #[.val (.long q1), .second, .val (.int p2)] [])) t → Steps p.tables e below (s₁.setTop (entryFrame m #[(.long q1), (.int p2)] 3)) t := by
      intro t k
      refine pre17 _ ?_
      show Steps p.tables e below (s₁.setTop (mkF m 2 #[.val (.long q1), .second, .val (.int p2)] [(.int (1 : Int32)), (.int p2)])) _
      refine XS.icmpYes X0.here hx rfl (pc0 := 2) (pc' := 20) rfl (hb hby d1_2) rfl (feq hc18).2 (by decide) (by decide) ?_
      exact k
    have pre29 : ∀ t, Steps p.tables e below (s₁.setTop (mkF m 22 #[.val (.long q1), .second, .val (.int p2)] [(.int (3 : Int32)), (.int p2)])) t → Steps p.tables e below (s₁.setTop (entryFrame m #[(.long q1), (.int p2)] 3)) t := by
      intro t k
      refine pre28 _ ?_
      show Steps p.tables e below (s₁.setTop (mkF m 20 #[.val (.long q1), .second, .val (.int p2)] [])) _
      refine XS.iloadN X0.here hx rfl (hb hby d1_20) rfl ?_
      show Steps p.tables e below (s₁.setTop (mkF m 21 #[.val (.long q1), .second, .val (.int p2)] [(.int p2)])) _
      refine XS.iconst X0.here hx rfl (hb hby d1_21) ?_
      exact k
    by_cases hc30 : p2 = (3 : Int32)
    · have pre31 : ∀ t, Steps p.tables e below (s₁.setTop (mkF m 42 #[.val (.long q1), .second, .val (.int p2)] [])) t → Steps p.tables e below (s₁.setTop (entryFrame m #[(.long q1), (.int p2)] 3)) t := by
        intro t k
        refine pre29 _ ?_
        show Steps p.tables e below (s₁.setTop (mkF m 22 #[.val (.long q1), .second, .val (.int p2)] [(.int (3 : Int32)), (.int p2)])) _
        refine XS.icmpYes X0.here hx rfl (pc0 := 22) (pc' := 42) rfl (hb hby d1_22) rfl (teq hc30).1 (by decide) (by decide) ?_
        exact k
      have pre32 : ∀ t, Steps p.tables e below (s₁.setTop (mkF m 44 #[.val (.long q1), .second, .val (.int p2)] [(.int (30 : Int32))])) t → Steps p.tables e below (s₁.setTop (entryFrame m #[(.long q1), (.int p2)] 3)) t := by
        intro t k
        refine pre31 _ ?_
        show Steps p.tables e below (s₁.setTop (mkF m 42 #[.val (.long q1), .second, .val (.int p2)] [])) _
        refine XS.bipush X0.here hx rfl (hb hby d1_42) ?_
        exact k
      obtain ⟨fs, hr, hrun, hended, hW, hsame⟩ := X0.leave (v := some (.int (30 : Int32))) (fun h => by rw [hret] at h; cases h) (hlocks := hlocks)
      refine ⟨_, _, pre32 _ ?_, hrun, hended, _, _, rfl, ?_, ⟨_, rfl⟩, hW, hsame.mono (by decide) (by decide)⟩
      · show Steps p.tables e below (s₁.setTop (mkF m 44 #[.val (.long q1), .second, .val (.int p2)] [(.int (30 : Int32))])) _
        exact retI X0 hx hret (hb hby d1_44) hr
      · show Q1 Z q1 p2 h0 n0 _ s₁.heap _
        exact ⟨(by rw [F1, if_neg hc18, if_pos hc30]), N0, e0⟩
    · have pre33 : ∀ t, Steps p.tables e below (s₁.setTop (mkF m 25 #[.val (.long q1), .second, .val (.int p2)] [])) t → Steps p.tables e below (s₁.setTop (entryFrame m #[(.long q1), (.int p2)] 3)) t := by
        intro t k
        refine pre29 _ ?_
        show Steps p.tables e below (s₁.setTop (mkF m 22 #[.val (.long q1), .second, .val (.int p2)] [(.int (3 : Int32)), (.int p2)])) _
        refine XS.icmpNo X0.here hx rfl (hb hby d1_22) rfl (feq hc30).1 ?_
        exact k
      have pre34 : ∀ t, Steps p.tables e below (s₁.setTop (mkF m 27 #[.val (.long q1), .second, .val (.int p2)] [(.int (5 : Int32)), (.int p2)])) t → Steps p.tables e below (s₁.setTop (entryFrame m #[(.long q1), (.int p2)] 3)) t := by
        intro t k
        refine pre33 _ ?_
        show Steps p.tables e below (s₁.setTop (mkF m 25 #[.val (.long q1), .second, .val (.int p2)] [])) _
        refine XS.iloadN X0.here hx rfl (hb hby d1_25) rfl ?_
        show Steps p.tables e below (s₁.setTop (mkF m 26 #[.val (.long q1), .second, .val (.int p2)] [(.int p2)])) _
        refine XS.iconst X0.here hx rfl (hb hby d1_26) ?_
        exact k
      by_cases hc35 : p2 = (5 : Int32)
      · have pre36 : ∀ t, Steps p.tables e below (s₁.setTop (mkF m 42 #[.val (.long q1), .second, .val (.int p2)] [])) t → Steps p.tables e below (s₁.setTop (entryFrame m #[(.long q1), (.int p2)] 3)) t := by
          intro t k
          refine pre34 _ ?_
          show Steps p.tables e below (s₁.setTop (mkF m 27 #[.val (.long q1), .second, .val (.int p2)] [(.int (5 : Int32)), (.int p2)])) _
          refine XS.icmpYes X0.here hx rfl (pc0 := 27) (pc' := 42) rfl (hb hby d1_27) rfl (teq hc35).1 (by decide) (by decide) ?_
          exact k
        have pre37 : ∀ t, Steps p.tables e below (s₁.setTop (mkF m 44 #[.val (.long q1), .second, .val (.int p2)] [(.int (30 : Int32))])) t → Steps p.tables e below (s₁.setTop (entryFrame m #[(.long q1), (.int p2)] 3)) t := by
          intro t k
          refine pre36 _ ?_
          show Steps p.tables e below (s₁.setTop (mkF m 42 #[.val (.long q1), .second, .val (.int p2)] [])) _
          refine XS.bipush X0.here hx rfl (hb hby d1_42) ?_
          exact k
        obtain ⟨fs, hr, hrun, hended, hW, hsame⟩ := X0.leave (v := some (.int (30 : Int32))) (fun h => by rw [hret] at h; cases h) (hlocks := hlocks)
        refine ⟨_, _, pre37 _ ?_, hrun, hended, _, _, rfl, ?_, ⟨_, rfl⟩, hW, hsame.mono (by decide) (by decide)⟩
        · show Steps p.tables e below (s₁.setTop (mkF m 44 #[.val (.long q1), .second, .val (.int p2)] [(.int (30 : Int32))])) _
          exact retI X0 hx hret (hb hby d1_44) hr
        · show Q1 Z q1 p2 h0 n0 _ s₁.heap _
          exact ⟨(by rw [F1, if_neg hc18, if_neg hc30, if_pos hc35]), N0, e0⟩
      · have pre38 : ∀ t, Steps p.tables e below (s₁.setTop (mkF m 30 #[.val (.long q1), .second, .val (.int p2)] [])) t → Steps p.tables e below (s₁.setTop (entryFrame m #[(.long q1), (.int p2)] 3)) t := by
          intro t k
          refine pre34 _ ?_
          show Steps p.tables e below (s₁.setTop (mkF m 27 #[.val (.long q1), .second, .val (.int p2)] [(.int (5 : Int32)), (.int p2)])) _
          refine XS.icmpNo X0.here hx rfl (hb hby d1_27) rfl (feq hc35).1 ?_
          exact k
        have pre39 : ∀ t, Steps p.tables e below (s₁.setTop (mkF m 33 #[.val (.long q1), .second, .val (.int p2)] [(.int (8 : Int32)), (.int p2)])) t → Steps p.tables e below (s₁.setTop (entryFrame m #[(.long q1), (.int p2)] 3)) t := by
          intro t k
          refine pre38 _ ?_
          show Steps p.tables e below (s₁.setTop (mkF m 30 #[.val (.long q1), .second, .val (.int p2)] [])) _
          refine XS.iloadN X0.here hx rfl (hb hby d1_30) rfl ?_
          show Steps p.tables e below (s₁.setTop (mkF m 31 #[.val (.long q1), .second, .val (.int p2)] [(.int p2)])) _
          refine XS.bipush X0.here hx rfl (hb hby d1_31) ?_
          exact k
        by_cases hc40 : p2 = (8 : Int32)
        · have pre41 : ∀ t, Steps p.tables e below (s₁.setTop (mkF m 42 #[.val (.long q1), .second, .val (.int p2)] [])) t → Steps p.tables e below (s₁.setTop (entryFrame m #[(.long q1), (.int p2)] 3)) t := by
            intro t k
            refine pre39 _ ?_
            show Steps p.tables e below (s₁.setTop (mkF m 33 #[.val (.long q1), .second, .val (.int p2)] [(.int (8 : Int32)), (.int p2)])) _
            refine XS.icmpYes X0.here hx rfl (pc0 := 33) (pc' := 42) rfl (hb hby d1_33) rfl (teq hc40).1 (by decide) (by decide) ?_
            exact k
          have pre42 : ∀ t, Steps p.tables e below (s₁.setTop (mkF m 44 #[.val (.long q1), .second, .val (.int p2)] [(.int (30 : Int32))])) t → Steps p.tables e below (s₁.setTop (entryFrame m #[(.long q1), (.int p2)] 3)) t := by
            intro t k
            refine pre41 _ ?_
            show Steps p.tables e below (s₁.setTop (mkF m 42 #[.val (.long q1), .second, .val (.int p2)] [])) _
            refine XS.bipush X0.here hx rfl (hb hby d1_42) ?_
            exact k
          obtain ⟨fs, hr, hrun, hended, hW, hsame⟩ := X0.leave (v := some (.int (30 : Int32))) (fun h => by rw [hret] at h; cases h) (hlocks := hlocks)
          refine ⟨_, _, pre42 _ ?_, hrun, hended, _, _, rfl, ?_, ⟨_, rfl⟩, hW, hsame.mono (by decide) (by decide)⟩
          · show Steps p.tables e below (s₁.setTop (mkF m 44 #[.val (.long q1), .second, .val (.int p2)] [(.int (30 : Int32))])) _
            exact retI X0 hx hret (hb hby d1_44) hr
          · show Q1 Z q1 p2 h0 n0 _ s₁.heap _
            exact ⟨(by rw [F1, if_neg hc18, if_neg hc30, if_neg hc35, if_pos hc40]), N0, e0⟩
        · have pre43 : ∀ t, Steps p.tables e below (s₁.setTop (mkF m 36 #[.val (.long q1), .second, .val (.int p2)] [])) t → Steps p.tables e below (s₁.setTop (entryFrame m #[(.long q1), (.int p2)] 3)) t := by
            intro t k
            refine pre39 _ ?_
            show Steps p.tables e below (s₁.setTop (mkF m 33 #[.val (.long q1), .second, .val (.int p2)] [(.int (8 : Int32)), (.int p2)])) _
            refine XS.icmpNo X0.here hx rfl (hb hby d1_33) rfl (feq hc40).1 ?_
            exact k
          have pre44 : ∀ t, Steps p.tables e below (s₁.setTop (mkF m 39 #[.val (.long q1), .second, .val (.int p2)] [(.int (10 : Int32)), (.int p2)])) t → Steps p.tables e below (s₁.setTop (entryFrame m #[(.long q1), (.int p2)] 3)) t := by
            intro t k
            refine pre43 _ ?_
            show Steps p.tables e below (s₁.setTop (mkF m 36 #[.val (.long q1), .second, .val (.int p2)] [])) _
            refine XS.iloadN X0.here hx rfl (hb hby d1_36) rfl ?_
            show Steps p.tables e below (s₁.setTop (mkF m 37 #[.val (.long q1), .second, .val (.int p2)] [(.int p2)])) _
            refine XS.bipush X0.here hx rfl (hb hby d1_37) ?_
            exact k
          by_cases hc45 : p2 = (10 : Int32)
          · have pre46 : ∀ t, Steps p.tables e below (s₁.setTop (mkF m 42 #[.val (.long q1), .second, .val (.int p2)] [])) t → Steps p.tables e below (s₁.setTop (entryFrame m #[(.long q1), (.int p2)] 3)) t := by
              intro t k
              refine pre44 _ ?_
              show Steps p.tables e below (s₁.setTop (mkF m 39 #[.val (.long q1), .second, .val (.int p2)] [(.int (10 : Int32)), (.int p2)])) _
              refine XS.icmpNo X0.here hx rfl (hb hby d1_39) rfl (teq hc45).2 ?_
              exact k
            have pre47 : ∀ t, Steps p.tables e below (s₁.setTop (mkF m 44 #[.val (.long q1), .second, .val (.int p2)] [(.int (30 : Int32))])) t → Steps p.tables e below (s₁.setTop (entryFrame m #[(.long q1), (.int p2)] 3)) t := by
              intro t k
              refine pre46 _ ?_
              show Steps p.tables e below (s₁.setTop (mkF m 42 #[.val (.long q1), .second, .val (.int p2)] [])) _
              refine XS.bipush X0.here hx rfl (hb hby d1_42) ?_
              exact k
            obtain ⟨fs, hr, hrun, hended, hW, hsame⟩ := X0.leave (v := some (.int (30 : Int32))) (fun h => by rw [hret] at h; cases h) (hlocks := hlocks)
            refine ⟨_, _, pre47 _ ?_, hrun, hended, _, _, rfl, ?_, ⟨_, rfl⟩, hW, hsame.mono (by decide) (by decide)⟩
            · show Steps p.tables e below (s₁.setTop (mkF m 44 #[.val (.long q1), .second, .val (.int p2)] [(.int (30 : Int32))])) _
              exact retI X0 hx hret (hb hby d1_44) hr
            · show Q1 Z q1 p2 h0 n0 _ s₁.heap _
              exact ⟨(by rw [F1, if_neg hc18, if_neg hc30, if_neg hc35, if_neg hc40, if_pos hc45]), N0, e0⟩
          · have pre48 : ∀ t, Steps p.tables e below (s₁.setTop (mkF m 45 #[.val (.long q1), .second, .val (.int p2)] [])) t → Steps p.tables e below (s₁.setTop (entryFrame m #[(.long q1), (.int p2)] 3)) t := by
              intro t k
              refine pre44 _ ?_
              show Steps p.tables e below (s₁.setTop (mkF m 39 #[.val (.long q1), .second, .val (.int p2)] [(.int (10 : Int32)), (.int p2)])) _
              refine XS.icmpYes X0.here hx rfl (pc0 := 39) (pc' := 45) rfl (hb hby d1_39) rfl (feq hc45).2 (by decide) (by decide) ?_
              exact k
            have pre49 : ∀ t, Steps p.tables e below (s₁.setTop (mkF m 47 #[.val (.long q1), .second, .val (.int p2)] [(.int (31 : Int32))])) t → Steps p.tables e below (s₁.setTop (entryFrame m #[(.long q1), (.int p2)] 3)) t := by
              intro t k
              refine pre48 _ ?_
              show Steps p.tables e below (s₁.setTop (mkF m 45 #[.val (.long q1), .second, .val (.int p2)] [])) _
              refine XS.bipush X0.here hx rfl (hb hby d1_45) ?_
              exact k
            obtain ⟨fs, hr, hrun, hended, hW, hsame⟩ := X0.leave (v := some (.int (31 : Int32))) (fun h => by rw [hret] at h; cases h) (hlocks := hlocks)
            refine ⟨_, _, pre49 _ ?_, hrun, hended, _, _, rfl, ?_, ⟨_, rfl⟩, hW, hsame.mono (by decide) (by decide)⟩
            · show Steps p.tables e below (s₁.setTop (mkF m 47 #[.val (.long q1), .second, .val (.int p2)] [(.int (31 : Int32))])) _
              exact retI X0 hx hret (hb hby d1_47) hr
            · show Q1 Z q1 p2 h0 n0 _ s₁.heap _
              exact ⟨(by rw [F1, if_neg hc18, if_neg hc30, if_neg hc35, if_neg hc40, if_neg hc45]), N0, e0⟩
theorem own_ml (q : Int64) (p : Int32) : F1 q p ≠ 0 := by
  unfold F1
  repeat' split
  all_goals decide
theorem d6_0 : decode jdk_29_method_49_code 0 = .ok (.lload_n 0, 1) := by decide +kernel
theorem d6_1 : decode jdk_29_method_49_code 1 = .ok (.lload_n 2, 1) := by decide +kernel
theorem d6_2 : decode jdk_29_method_49_code 2 = .ok (.ldiv, 1) := by decide +kernel
theorem d6_3 : decode jdk_29_method_49_code 3 = .ok (.lstore 4, 2) := by decide +kernel
theorem d6_5 : decode jdk_29_method_49_code 5 = .ok (.lload_n 0, 1) := by decide +kernel
theorem d6_6 : decode jdk_29_method_49_code 6 = .ok (.lload_n 2, 1) := by decide +kernel
theorem d6_7 : decode jdk_29_method_49_code 7 = .ok (.lxor, 1) := by decide +kernel
theorem d6_8 : decode jdk_29_method_49_code 8 = .ok (.lconst 0, 1) := by decide +kernel
theorem d6_9 : decode jdk_29_method_49_code 9 = .ok (.lcmp, 1) := by decide +kernel
theorem d6_10 : decode jdk_29_method_49_code 10 = .ok (.ifCond .ge 17, 3) := by decide +kernel
theorem d6_13 : decode jdk_29_method_49_code 13 = .ok (.lload 4, 2) := by decide +kernel
theorem d6_15 : decode jdk_29_method_49_code 15 = .ok (.lload_n 2, 1) := by decide +kernel
theorem d6_16 : decode jdk_29_method_49_code 16 = .ok (.lmul, 1) := by decide +kernel
theorem d6_17 : decode jdk_29_method_49_code 17 = .ok (.lload_n 0, 1) := by decide +kernel
theorem d6_18 : decode jdk_29_method_49_code 18 = .ok (.lcmp, 1) := by decide +kernel
theorem d6_19 : decode jdk_29_method_49_code 19 = .ok (.ifCond .eq 8, 3) := by decide +kernel
theorem d6_27 : decode jdk_29_method_49_code 27 = .ok (.lload 4, 2) := by decide +kernel
theorem d6_29 : decode jdk_29_method_49_code 29 = .ok (.lreturn, 1) := by decide +kernel
theorem d6_22 : decode jdk_29_method_49_code 22 = .ok (.lload 4, 2) := by decide +kernel
theorem d6_24 : decode jdk_29_method_49_code 24 = .ok (.lconst 1, 1) := by decide +kernel
theorem d6_25 : decode jdk_29_method_49_code 25 = .ok (.lsub, 1) := by decide +kernel
theorem d6_26 : decode jdk_29_method_49_code 26 = .ok (.lreturn, 1) := by decide +kernel
theorem ef_6 (m : MethodId) (x0 : Int64) (x1 : Int64) : entryFrame m #[(.long x0), (.long x1)] 6 = mkF m 0 #[.val (.long x0), .second, .val (.long x1), .second, .unset, .unset] [] := by first | (simp [entryFrame, mkF, argsToLocals, Value.category]; done) | rfl
def F6 (q1 : Int64) (q2 : Int64) : Int64 :=
  if (lcmpW (q1 ^^^ q2) (0 : Int64)) < (0 : Int32) then (  if (lcmpW ((q1 / q2) * q2) q1) = (0 : Int32) then (  (q1 / q2))
  else (  ((q1 / q2) - (1 : Int64))))
  else (  (q1 / q2))
def Q6 (Z : State) (q1 : Int64) (q2 : Int64) (h0 : Heap) (n0 : Nat) (v : Option Value) (h : Heap) (L : List Loc) : Prop := v = some (.long (F6 q1 q2)) ∧ Fr n0 L ∧ h = h0
set_option maxRecDepth 65536 in
set_option maxHeartbeats 40000000 in
theorem rm6 (l : Launch) (Z : State) (a0 : Array Value) (hw : ∀ d ∈ tables_1, d.before a0 Z = true) (ws : List Jvm.Cond) (q1 : Int64) (q2 : Int64) (h0 : Heap) (n0 : Nat) (Z0 : n0 ≤ h0.size) (hnz : q2 ≠ (0 : Int64)) :
    MetFree l (⟨"java/lang/Math", "floorDiv", "(JJ)J"⟩ : MethodName) (head1 (Jvm.Cond.code (⟨"java/lang/Math", "floorDiv", "(JJ)J"⟩ : MethodName) jdk_29_method_49_code 6 (some .long) :: ws) ({ frames := 0, cells := 0, slots := 0, locals := 0 } : Room)) (fun a U => a = #[(.long q1), (.long q2)] ∧ Z.Warmed39 U.vm ∧ U.heap = h0) (fun _ _ _ _ _ => True) (fun _ U o U' => ∃ v L, o = .returned v ∧ Q6 Z q1 q2 h0 n0 v U'.heap L ∧ FrameEnd U o U' L ({ frames := 0, cells := 0, slots := 0, locals := 0 } : Room).cells ({ frames := 0, cells := 0, slots := 0, locals := 0 } : Room).slots) := by
  refine MetFree.of_bodySF (Jvm.Free.JP.mathPlain rfl (by decide +kernel)) hisR ?_
  intro p e s m args below meth c s₁ Bd hml0 hP hK
  obtain ⟨rfl, hZ, hh⟩ := hP
  have hx := Bd.exec
  have hby := Bd.bytes
  have hml : c.maxLocals = 6 := hml0
  have hown : s.vm.findClass "java/lang/Math" = some m.cls := findClass_of_methodNamed Bd.named
  have hnm := (name_of_methodNamed Bd.named Bd.method).1
  have hret := Bd.returns
  have hlocks : meth.locks = false := Bd.notSynchronized
  have X0 : Stand p l e ({ frames := 0, cells := 0, slots := 0, locals := 0 } : Room) s m #[(.long q1), (.long q2)] below meth c s₁ [] 0 0 := Stand.of_body Bd
  have e0 : s₁.heap = h0 := by rw [← hh, Bd.state]; rfl
  have N0 := Fr.nil n0
  have pre0 : ∀ t, Steps p.tables e below (s₁.setTop (mkF m 0 #[.val (.long q1), .second, .val (.long q2), .second, .unset, .unset] [])) t → Steps p.tables e below (s₁.setTop (entryFrame m #[(.long q1), (.long q2)] 6)) t := fun t k => castTop (ef_6 m q1 q2) k
  have pre50 : ∀ t, Steps p.tables e below (s₁.setTop (mkF m 10 #[.val (.long q1), .second, .val (.long q2), .second, .val (.long (q1 / q2)), .second] [(.int (lcmpW (q1 ^^^ q2) (0 : Int64)))])) t → Steps p.tables e below (s₁.setTop (entryFrame m #[(.long q1), (.long q2)] 6)) t := by
    intro t k
    refine pre0 _ ?_
    show Steps p.tables e below (s₁.setTop (mkF m 0 #[.val (.long q1), .second, .val (.long q2), .second, .unset, .unset] [])) _
    refine XS.lloadN X0.here hx rfl (hb hby d6_0) rfl ?_
    show Steps p.tables e below (s₁.setTop (mkF m 1 #[.val (.long q1), .second, .val (.long q2), .second, .unset, .unset] [(.long q1)])) _
    refine XS.lloadN X0.here hx rfl (hb hby d6_1) rfl ?_
    show Steps p.tables e below (s₁.setTop (mkF m 2 #[.val (.long q1), .second, .val (.long q2), .second, .unset, .unset] [(.long q2), (.long q1)])) _
    refine XS.ldiv X0.here hx rfl (hb hby d6_2) rfl hnz ?_
    show Steps p.tables e below (s₁.setTop (mkF m 3 #[.val (.long q1), .second, .val (.long q2), .second, .unset, .unset] [(.long (q1 / q2))])) _
    refine XS.lstore X0.here hx rfl (hb hby d6_3) rfl (l' := #[.val (.long q1), .second, .val (.long q2), .second, .val (.long (q1 / q2)), .second]) rfl ?_
    show Steps p.tables e below (s₁.setTop (mkF m 5 #[.val (.long q1), .second, .val (.long q2), .second, .val (.long (q1 / q2)), .second] [])) _
    refine XS.lloadN X0.here hx rfl (hb hby d6_5) rfl ?_
    show Steps p.tables e below (s₁.setTop (mkF m 6 #[.val (.long q1), .second, .val (.long q2), .second, .val (.long (q1 / q2)), .second] [(.long q1)])) _
    refine XS.lloadN X0.here hx rfl (hb hby d6_6) rfl ?_
    show Steps p.tables e below (s₁.setTop (mkF m 7 #[.val (.long q1), .second, .val (.long q2), .second, .val (.long (q1 / q2)), .second] [(.long q2), (.long q1)])) _
    refine XS.lxor X0.here hx rfl (hb hby d6_7) rfl ?_
    show Steps p.tables e below (s₁.setTop (mkF m 8 #[.val (.long q1), .second, .val (.long q2), .second, .val (.long (q1 / q2)), .second] [(.long (q1 ^^^ q2))])) _
    refine XS.lconst X0.here hx rfl (hb hby d6_8) ?_
    show Steps p.tables e below (s₁.setTop (mkF m 9 #[.val (.long q1), .second, .val (.long q2), .second, .val (.long (q1 / q2)), .second] [(.long (0 : Int64)), (.long (q1 ^^^ q2))])) _
    refine XS.lcmp X0.here hx rfl (hb hby d6_9) rfl ?_
    exact k
  by_cases hc51 : (lcmpW (q1 ^^^ q2) (0 : Int64)) < (0 : Int32)
  · have pre52 : ∀ t, Steps p.tables e below (s₁.setTop (mkF m 13 #[.val (.long q1), .second, .val (.long q2), .second, .val (.long (q1 / q2)), .second] [])) t → Steps p.tables e below (s₁.setTop (entryFrame m #[(.long q1), (.long q2)] 6)) t := by
      intro t k
      refine pre50 _ ?_
      show Steps p.tables e below (s₁.setTop (mkF m 10 #[.val (.long q1), .second, .val (.long q2), .second, .val (.long (q1 / q2)), .second] [(.int (lcmpW (q1 ^^^ q2) (0 : Int64)))])) _
      refine XS.ifNo X0.here hx rfl (hb hby d6_10) rfl ((if0 _ _).trans (tlt hc51).2.1) ?_
      exact k
    have pre53 : ∀ t, Steps p.tables e below (s₁.setTop (mkF m 19 #[.val (.long q1), .second, .val (.long q2), .second, .val (.long (q1 / q2)), .second] [(.int (lcmpW ((q1 / q2) * q2) q1))])) t → Steps p.tables e below (s₁.setTop (entryFrame m #[(.long q1), (.long q2)] 6)) t := by
      intro t k
      refine pre52 _ ?_
      show Steps p.tables e below (s₁.setTop (mkF m 13 #[.val (.long q1), .second, .val (.long q2), .second, .val (.long (q1 / q2)), .second] [])) _
      refine XS.lload X0.here hx rfl (hb hby d6_13) rfl ?_
      show Steps p.tables e below (s₁.setTop (mkF m 15 #[.val (.long q1), .second, .val (.long q2), .second, .val (.long (q1 / q2)), .second] [(.long (q1 / q2))])) _
      refine XS.lloadN X0.here hx rfl (hb hby d6_15) rfl ?_
      show Steps p.tables e below (s₁.setTop (mkF m 16 #[.val (.long q1), .second, .val (.long q2), .second, .val (.long (q1 / q2)), .second] [(.long q2), (.long (q1 / q2))])) _
      refine XS.lmul X0.here hx rfl (hb hby d6_16) rfl ?_
      show Steps p.tables e below (s₁.setTop (mkF m 17 #[.val (.long q1), .second, .val (.long q2), .second, .val (.long (q1 / q2)), .second] [(.long ((q1 / q2) * q2))])) _
      refine XS.lloadN X0.here hx rfl (hb hby d6_17) rfl ?_
      show Steps p.tables e below (s₁.setTop (mkF m 18 #[.val (.long q1), .second, .val (.long q2), .second, .val (.long (q1 / q2)), .second] [(.long q1), (.long ((q1 / q2) * q2))])) _
      refine XS.lcmp X0.here hx rfl (hb hby d6_18) rfl ?_
      exact k
    by_cases hc54 : (lcmpW ((q1 / q2) * q2) q1) = (0 : Int32)
    · have pre55 : ∀ t, Steps p.tables e below (s₁.setTop (mkF m 27 #[.val (.long q1), .second, .val (.long q2), .second, .val (.long (q1 / q2)), .second] [])) t → Steps p.tables e below (s₁.setTop (entryFrame m #[(.long q1), (.long q2)] 6)) t := by
        intro t k
        refine pre53 _ ?_
        show Steps p.tables e below (s₁.setTop (mkF m 19 #[.val (.long q1), .second, .val (.long q2), .second, .val (.long (q1 / q2)), .second] [(.int (lcmpW ((q1 / q2) * q2) q1))])) _
        refine XS.ifYes X0.here hx rfl (pc0 := 19) (pc' := 27) rfl (hb hby d6_19) rfl ((if0 _ _).trans (teq hc54).1) (by decide) (by decide) ?_
        exact k
      have pre56 : ∀ t, Steps p.tables e below (s₁.setTop (mkF m 29 #[.val (.long q1), .second, .val (.long q2), .second, .val (.long (q1 / q2)), .second] [(.long (q1 / q2))])) t → Steps p.tables e below (s₁.setTop (entryFrame m #[(.long q1), (.long q2)] 6)) t := by
        intro t k
        refine pre55 _ ?_
        show Steps p.tables e below (s₁.setTop (mkF m 27 #[.val (.long q1), .second, .val (.long q2), .second, .val (.long (q1 / q2)), .second] [])) _
        refine XS.lload X0.here hx rfl (hb hby d6_27) rfl ?_
        exact k
      obtain ⟨fs, hr, hrun, hended, hW, hsame⟩ := X0.leave (v := some (.long (q1 / q2))) (fun h => by rw [hret] at h; cases h) (hlocks := hlocks)
      refine ⟨_, _, pre56 _ ?_, hrun, hended, _, _, rfl, ?_, ⟨_, rfl⟩, hW, hsame.mono (by decide) (by decide)⟩
      · show Steps p.tables e below (s₁.setTop (mkF m 29 #[.val (.long q1), .second, .val (.long q2), .second, .val (.long (q1 / q2)), .second] [(.long (q1 / q2))])) _
        exact Jvm.RoadKit.retOut X0 hx hret rfl (Or.inr (Or.inl ⟨rfl, rfl, _, rfl⟩)) (hb hby d6_29) hr
      · show Q6 Z q1 q2 h0 n0 _ s₁.heap _
        exact ⟨(by rw [F6, if_pos hc51, if_pos hc54]), N0, e0⟩
    · have pre57 : ∀ t, Steps p.tables e below (s₁.setTop (mkF m 22 #[.val (.long q1), .second, .val (.long q2), .second, .val (.long (q1 / q2)), .second] [])) t → Steps p.tables e below (s₁.setTop (entryFrame m #[(.long q1), (.long q2)] 6)) t := by
        intro t k
        refine pre53 _ ?_
        show Steps p.tables e below (s₁.setTop (mkF m 19 #[.val (.long q1), .second, .val (.long q2), .second, .val (.long (q1 / q2)), .second] [(.int (lcmpW ((q1 / q2) * q2) q1))])) _
        refine XS.ifNo X0.here hx rfl (hb hby d6_19) rfl ((if0 _ _).trans (feq hc54).1) ?_
        exact k
      have pre58 : ∀ t, Steps p.tables e below (s₁.setTop (mkF m 26 #[.val (.long q1), .second, .val (.long q2), .second, .val (.long (q1 / q2)), .second] [(.long ((q1 / q2) - (1 : Int64)))])) t → Steps p.tables e below (s₁.setTop (entryFrame m #[(.long q1), (.long q2)] 6)) t := by
        intro t k
        refine pre57 _ ?_
        show Steps p.tables e below (s₁.setTop (mkF m 22 #[.val (.long q1), .second, .val (.long q2), .second, .val (.long (q1 / q2)), .second] [])) _
        refine XS.lload X0.here hx rfl (hb hby d6_22) rfl ?_
        show Steps p.tables e below (s₁.setTop (mkF m 24 #[.val (.long q1), .second, .val (.long q2), .second, .val (.long (q1 / q2)), .second] [(.long (q1 / q2))])) _
        refine XS.lconst X0.here hx rfl (hb hby d6_24) ?_
        show Steps p.tables e below (s₁.setTop (mkF m 25 #[.val (.long q1), .second, .val (.long q2), .second, .val (.long (q1 / q2)), .second] [(.long (1 : Int64)), (.long (q1 / q2))])) _
        refine XS.lsub X0.here hx rfl (hb hby d6_25) rfl ?_
        exact k
      obtain ⟨fs, hr, hrun, hended, hW, hsame⟩ := X0.leave (v := some (.long ((q1 / q2) - (1 : Int64)))) (fun h => by rw [hret] at h; cases h) (hlocks := hlocks)
      refine ⟨_, _, pre58 _ ?_, hrun, hended, _, _, rfl, ?_, ⟨_, rfl⟩, hW, hsame.mono (by decide) (by decide)⟩
      · show Steps p.tables e below (s₁.setTop (mkF m 26 #[.val (.long q1), .second, .val (.long q2), .second, .val (.long (q1 / q2)), .second] [(.long ((q1 / q2) - (1 : Int64)))])) _
        exact Jvm.RoadKit.retOut X0 hx hret rfl (Or.inr (Or.inl ⟨rfl, rfl, _, rfl⟩)) (hb hby d6_26) hr
      · show Q6 Z q1 q2 h0 n0 _ s₁.heap _
        exact ⟨(by rw [F6, if_pos hc51, if_neg hc54]), N0, e0⟩
  · have pre59 : ∀ t, Steps p.tables e below (s₁.setTop (mkF m 27 #[.val (.long q1), .second, .val (.long q2), .second, .val (.long (q1 / q2)), .second] [])) t → Steps p.tables e below (s₁.setTop (entryFrame m #[(.long q1), (.long q2)] 6)) t := by
      intro t k
      refine pre50 _ ?_
      show Steps p.tables e below (s₁.setTop (mkF m 10 #[.val (.long q1), .second, .val (.long q2), .second, .val (.long (q1 / q2)), .second] [(.int (lcmpW (q1 ^^^ q2) (0 : Int64)))])) _
      refine XS.ifYes X0.here hx rfl (pc0 := 10) (pc' := 27) rfl (hb hby d6_10) rfl ((if0 _ _).trans (flt hc51).2.1) (by decide) (by decide) ?_
      exact k
    have pre60 : ∀ t, Steps p.tables e below (s₁.setTop (mkF m 29 #[.val (.long q1), .second, .val (.long q2), .second, .val (.long (q1 / q2)), .second] [(.long (q1 / q2))])) t → Steps p.tables e below (s₁.setTop (entryFrame m #[(.long q1), (.long q2)] 6)) t := by
      intro t k
      refine pre59 _ ?_
      show Steps p.tables e below (s₁.setTop (mkF m 27 #[.val (.long q1), .second, .val (.long q2), .second, .val (.long (q1 / q2)), .second] [])) _
      refine XS.lload X0.here hx rfl (hb hby d6_27) rfl ?_
      exact k
    obtain ⟨fs, hr, hrun, hended, hW, hsame⟩ := X0.leave (v := some (.long (q1 / q2))) (fun h => by rw [hret] at h; cases h) (hlocks := hlocks)
    refine ⟨_, _, pre60 _ ?_, hrun, hended, _, _, rfl, ?_, ⟨_, rfl⟩, hW, hsame.mono (by decide) (by decide)⟩
    · show Steps p.tables e below (s₁.setTop (mkF m 29 #[.val (.long q1), .second, .val (.long q2), .second, .val (.long (q1 / q2)), .second] [(.long (q1 / q2))])) _
      exact Jvm.RoadKit.retOut X0 hx hret rfl (Or.inr (Or.inl ⟨rfl, rfl, _, rfl⟩)) (hb hby d6_29) hr
    · show Q6 Z q1 q2 h0 n0 _ s₁.heap _
      exact ⟨(by rw [F6, if_neg hc51]), N0, e0⟩
theorem d5_0 : decode jdk_29_method_48_code 0 = .ok (.lload_n 0, 1) := by decide +kernel
theorem d5_1 : decode jdk_29_method_48_code 1 = .ok (.iload_n 2, 1) := by decide +kernel
theorem d5_2 : decode jdk_29_method_48_code 2 = .ok (.i2l, 1) := by decide +kernel
theorem d5_3 : decode jdk_29_method_48_code 3 = .ok (.invokestatic 143, 3) := by decide +kernel
theorem pd__JJ_J : parseMethodDescriptor "(JJ)J" = some ⟨[.long, .long], some .long⟩ := by decide +kernel
theorem d5_6 : decode jdk_29_method_48_code 6 = .ok (.lreturn, 1) := by decide +kernel
theorem ef_5 (m : MethodId) (x0 : Int64) (x1 : Int32) : entryFrame m #[(.long x0), (.int x1)] 3 = mkF m 0 #[.val (.long x0), .second, .val (.int x1)] [] := by first | (simp [entryFrame, mkF, argsToLocals, Value.category]; done) | rfl
def F5 (q1 : Int64) (p2 : Int32) : Int64 :=
  (F6 q1 (p2.toInt64))
def Q5 (Z : State) (q1 : Int64) (p2 : Int32) (h0 : Heap) (n0 : Nat) (v : Option Value) (h : Heap) (L : List Loc) : Prop := v = some (.long (F5 q1 p2)) ∧ Fr n0 L ∧ h = h0
set_option maxRecDepth 65536 in
set_option maxHeartbeats 40000000 in
theorem rm5 (l : Launch) (Z : State) (a0 : Array Value) (hw : ∀ d ∈ tables_1, d.before a0 Z = true) (ws : List Jvm.Cond) (q1 : Int64) (p2 : Int32) (h0 : Heap) (n0 : Nat) (Z0 : n0 ≤ h0.size) (hnz : p2.toInt64 ≠ (0 : Int64)) :
    MetFree l (⟨"java/lang/Math", "floorDiv", "(JI)J"⟩ : MethodName) (head1 (Jvm.Cond.code (⟨"java/lang/Math", "floorDiv", "(JI)J"⟩ : MethodName) jdk_29_method_48_code 3 (some .long) :: ws) ({ frames := 1, cells := 0, slots := 0, locals := 17 } : Room)) (fun a U => a = #[(.long q1), (.int p2)] ∧ Z.Warmed39 U.vm ∧ U.heap = h0) (fun _ _ _ _ _ => True) (fun _ U o U' => ∃ v L, o = .returned v ∧ Q5 Z q1 p2 h0 n0 v U'.heap L ∧ FrameEnd U o U' L ({ frames := 1, cells := 0, slots := 0, locals := 17 } : Room).cells ({ frames := 1, cells := 0, slots := 0, locals := 17 } : Room).slots) := by
  refine MetFree.of_bodySF (Jvm.Free.JP.mathPlain rfl (by decide +kernel)) hisR ?_
  intro p e s m args below meth c s₁ Bd hml0 hP hK
  obtain ⟨rfl, hZ, hh⟩ := hP
  have hx := Bd.exec
  have hby := Bd.bytes
  have hml : c.maxLocals = 3 := hml0
  have hown : s.vm.findClass "java/lang/Math" = some m.cls := findClass_of_methodNamed Bd.named
  have hnm := (name_of_methodNamed Bd.named Bd.method).1
  have hret := Bd.returns
  have hlocks : meth.locks = false := Bd.notSynchronized
  have X0 : Stand p l e ({ frames := 1, cells := 0, slots := 0, locals := 17 } : Room) s m #[(.long q1), (.int p2)] below meth c s₁ [] 0 0 := Stand.of_body Bd
  have e0 : s₁.heap = h0 := by rw [← hh, Bd.state]; rfl
  have N0 := Fr.nil n0
  have pre0 : ∀ t, Steps p.tables e below (s₁.setTop (mkF m 0 #[.val (.long q1), .second, .val (.int p2)] [])) t → Steps p.tables e below (s₁.setTop (entryFrame m #[(.long q1), (.int p2)] 3)) t := fun t k => castTop (ef_5 m q1 p2) k
  have pre61 : ∀ t, Steps p.tables e below (s₁.setTop (mkF m 3 #[.val (.long q1), .second, .val (.int p2)] [(.long (p2.toInt64)), (.long q1)])) t → Steps p.tables e below (s₁.setTop (entryFrame m #[(.long q1), (.int p2)] 3)) t := by
    intro t k
    refine pre0 _ ?_
    show Steps p.tables e below (s₁.setTop (mkF m 0 #[.val (.long q1), .second, .val (.int p2)] [])) _
    refine XS.lloadN X0.here hx rfl (hb hby d5_0) rfl ?_
    show Steps p.tables e below (s₁.setTop (mkF m 1 #[.val (.long q1), .second, .val (.int p2)] [(.long q1)])) _
    refine XS.iloadN X0.here hx rfl (hb hby d5_1) rfl ?_
    show Steps p.tables e below (s₁.setTop (mkF m 2 #[.val (.long q1), .second, .val (.int p2)] [(.int p2), (.long q1)])) _
    refine XS.i2l X0.here hx rfl (hb hby d5_2) rfl ?_
    exact k
  obtain ⟨_, _, ⟨T62, L62, k62, n62⟩, -, X62, ⟨Lc62, hQ62, l62, y62, z62⟩, st62⟩ := Jvm.LawKit.callS X0 hx (y := (⟨"java/lang/Math", "floorDiv", "(JJ)J"⟩ : MethodName)) hown (mvT hZ (hw _ (List.mem_of_getElem? (i := 33) rfl))) (mvT hZ (hw _ (List.mem_of_getElem? (i := 34) rfl))) (mvT hZ (hw _ (List.mem_of_getElem? (i := 31) rfl))) (mvT hZ (hw _ (List.mem_of_getElem? (i := 35) rfl))) (by decide) (backOf (W := 0) (rm6 l Z a0 hw [] q1 (p2.toInt64) h0 n0 Z0 hnz) hZ (hw _ (List.mem_of_getElem? (i := 35) rfl)) (hw _ (List.mem_of_getElem? (i := 31) rfl)) (by decide) (by decide)) (g := (mkF m 3 #[.val (.long q1), .second, .val (.int p2)] [(.long (p2.toInt64)), (.long q1)])) rfl (by rw [hml]; rfl) (argsL := [(.long q1), (.long (p2.toInt64))]) (rest := []) (lenOf pd__JJ_J rfl) rfl (by show 2 * 0 + _ ≤ _; exact Nat.le_of_eq rfl) (hb hby d5_3) (fun _ _ => ⟨rfl, e0, (by decide : 0 + 0 ≤ _), (by decide : 0 + 0 ≤ _)⟩)
  dsimp only [Pt.U, Pt.locs, Pt.cells, Pt.slots] at X62 l62 y62 z62 st62 hQ62
  subst l62 y62 z62
  obtain ⟨rfl, N62q, e62⟩ := hQ62
  have N62 := Fr.app N0 N62q
  have pre63 : ∀ t, Steps p.tables e below (T62.setTop (mkF m 6 #[.val (.long q1), .second, .val (.int p2)] [(.long (F6 q1 (p2.toInt64)))])) t → Steps p.tables e below (s₁.setTop (entryFrame m #[(.long q1), (.int p2)] 3)) t := by
    intro t k
    refine pre61 _ ?_
    show Steps p.tables e below (s₁.setTop (mkF m 3 #[.val (.long q1), .second, .val (.int p2)] [(.long (p2.toInt64)), (.long q1)])) _
    refine st62 _ ?_
    exact k
  obtain ⟨fs, hr, hrun, hended, hW, hsame⟩ := X62.leave (v := some (.long (F6 q1 (p2.toInt64)))) (fun h => by rw [hret] at h; cases h) (hlocks := hlocks)
  refine ⟨_, _, pre63 _ ?_, hrun, hended, _, _, rfl, ?_, ⟨_, rfl⟩, hW, hsame.mono (by decide) (by decide)⟩
  · show Steps p.tables e below (T62.setTop (mkF m 6 #[.val (.long q1), .second, .val (.int p2)] [(.long (F6 q1 (p2.toInt64)))])) _
    exact Jvm.RoadKit.retOut X62 hx hret rfl (Or.inr (Or.inl ⟨rfl, rfl, _, rfl⟩)) (hb hby d5_6) hr
  · show Q5 Z q1 p2 h0 n0 _ T62.heap _
    exact ⟨(by rw [F5]), N62, e62⟩
theorem d8_0 : decode jdk_29_method_52_code 0 = .ok (.lload_n 0, 1) := by decide +kernel
theorem d8_1 : decode jdk_29_method_52_code 1 = .ok (.lload_n 2, 1) := by decide +kernel
theorem d8_2 : decode jdk_29_method_52_code 2 = .ok (.lrem, 1) := by decide +kernel
theorem d8_3 : decode jdk_29_method_52_code 3 = .ok (.lstore 4, 2) := by decide +kernel
theorem d8_5 : decode jdk_29_method_52_code 5 = .ok (.lload_n 0, 1) := by decide +kernel
theorem d8_6 : decode jdk_29_method_52_code 6 = .ok (.lload_n 2, 1) := by decide +kernel
theorem d8_7 : decode jdk_29_method_52_code 7 = .ok (.lxor, 1) := by decide +kernel
theorem d8_8 : decode jdk_29_method_52_code 8 = .ok (.lconst 0, 1) := by decide +kernel
theorem d8_9 : decode jdk_29_method_52_code 9 = .ok (.lcmp, 1) := by decide +kernel
theorem d8_10 : decode jdk_29_method_52_code 10 = .ok (.ifCond .ge 15, 3) := by decide +kernel
theorem d8_13 : decode jdk_29_method_52_code 13 = .ok (.lload 4, 2) := by decide +kernel
theorem d8_15 : decode jdk_29_method_52_code 15 = .ok (.lconst 0, 1) := by decide +kernel
theorem d8_16 : decode jdk_29_method_52_code 16 = .ok (.lcmp, 1) := by decide +kernel
theorem d8_17 : decode jdk_29_method_52_code 17 = .ok (.ifCond .eq 8, 3) := by decide +kernel
theorem d8_25 : decode jdk_29_method_52_code 25 = .ok (.lload 4, 2) := by decide +kernel
theorem d8_27 : decode jdk_29_method_52_code 27 = .ok (.lreturn, 1) := by decide +kernel
theorem d8_20 : decode jdk_29_method_52_code 20 = .ok (.lload 4, 2) := by decide +kernel
theorem d8_22 : decode jdk_29_method_52_code 22 = .ok (.lload_n 2, 1) := by decide +kernel
theorem d8_23 : decode jdk_29_method_52_code 23 = .ok (.ladd, 1) := by decide +kernel
theorem d8_24 : decode jdk_29_method_52_code 24 = .ok (.lreturn, 1) := by decide +kernel
theorem ef_8 (m : MethodId) (x0 : Int64) (x1 : Int64) : entryFrame m #[(.long x0), (.long x1)] 6 = mkF m 0 #[.val (.long x0), .second, .val (.long x1), .second, .unset, .unset] [] := by first | (simp [entryFrame, mkF, argsToLocals, Value.category]; done) | rfl
def F8 (q1 : Int64) (q2 : Int64) : Int64 :=
  if (lcmpW (q1 ^^^ q2) (0 : Int64)) < (0 : Int32) then (  if (lcmpW (q1 - (q1 / q2) * q2) (0 : Int64)) = (0 : Int32) then (  (q1 - (q1 / q2) * q2))
  else (  ((q1 - (q1 / q2) * q2) + q2)))
  else (  (q1 - (q1 / q2) * q2))
def Q8 (Z : State) (q1 : Int64) (q2 : Int64) (h0 : Heap) (n0 : Nat) (v : Option Value) (h : Heap) (L : List Loc) : Prop := v = some (.long (F8 q1 q2)) ∧ Fr n0 L ∧ h = h0
set_option maxRecDepth 65536 in
set_option maxHeartbeats 40000000 in
theorem rm8 (l : Launch) (Z : State) (a0 : Array Value) (hw : ∀ d ∈ tables_1, d.before a0 Z = true) (ws : List Jvm.Cond) (q1 : Int64) (q2 : Int64) (h0 : Heap) (n0 : Nat) (Z0 : n0 ≤ h0.size) (hnz : q2 ≠ (0 : Int64)) :
    MetFree l (⟨"java/lang/Math", "floorMod", "(JJ)J"⟩ : MethodName) (head1 (Jvm.Cond.code (⟨"java/lang/Math", "floorMod", "(JJ)J"⟩ : MethodName) jdk_29_method_52_code 6 (some .long) :: ws) ({ frames := 0, cells := 0, slots := 0, locals := 0 } : Room)) (fun a U => a = #[(.long q1), (.long q2)] ∧ Z.Warmed39 U.vm ∧ U.heap = h0) (fun _ _ _ _ _ => True) (fun _ U o U' => ∃ v L, o = .returned v ∧ Q8 Z q1 q2 h0 n0 v U'.heap L ∧ FrameEnd U o U' L ({ frames := 0, cells := 0, slots := 0, locals := 0 } : Room).cells ({ frames := 0, cells := 0, slots := 0, locals := 0 } : Room).slots) := by
  refine MetFree.of_bodySF (Jvm.Free.JP.mathPlain rfl (by decide +kernel)) hisR ?_
  intro p e s m args below meth c s₁ Bd hml0 hP hK
  obtain ⟨rfl, hZ, hh⟩ := hP
  have hx := Bd.exec
  have hby := Bd.bytes
  have hml : c.maxLocals = 6 := hml0
  have hown : s.vm.findClass "java/lang/Math" = some m.cls := findClass_of_methodNamed Bd.named
  have hnm := (name_of_methodNamed Bd.named Bd.method).1
  have hret := Bd.returns
  have hlocks : meth.locks = false := Bd.notSynchronized
  have X0 : Stand p l e ({ frames := 0, cells := 0, slots := 0, locals := 0 } : Room) s m #[(.long q1), (.long q2)] below meth c s₁ [] 0 0 := Stand.of_body Bd
  have e0 : s₁.heap = h0 := by rw [← hh, Bd.state]; rfl
  have N0 := Fr.nil n0
  have pre0 : ∀ t, Steps p.tables e below (s₁.setTop (mkF m 0 #[.val (.long q1), .second, .val (.long q2), .second, .unset, .unset] [])) t → Steps p.tables e below (s₁.setTop (entryFrame m #[(.long q1), (.long q2)] 6)) t := fun t k => castTop (ef_8 m q1 q2) k
  have pre64 : ∀ t, Steps p.tables e below (s₁.setTop (mkF m 10 #[.val (.long q1), .second, .val (.long q2), .second, .val (.long (q1 - (q1 / q2) * q2)), .second] [(.int (lcmpW (q1 ^^^ q2) (0 : Int64)))])) t → Steps p.tables e below (s₁.setTop (entryFrame m #[(.long q1), (.long q2)] 6)) t := by
    intro t k
    refine pre0 _ ?_
    show Steps p.tables e below (s₁.setTop (mkF m 0 #[.val (.long q1), .second, .val (.long q2), .second, .unset, .unset] [])) _
    refine XS.lloadN X0.here hx rfl (hb hby d8_0) rfl ?_
    show Steps p.tables e below (s₁.setTop (mkF m 1 #[.val (.long q1), .second, .val (.long q2), .second, .unset, .unset] [(.long q1)])) _
    refine XS.lloadN X0.here hx rfl (hb hby d8_1) rfl ?_
    show Steps p.tables e below (s₁.setTop (mkF m 2 #[.val (.long q1), .second, .val (.long q2), .second, .unset, .unset] [(.long q2), (.long q1)])) _
    refine XS.lrem X0.here hx rfl (hb hby d8_2) rfl hnz ?_
    show Steps p.tables e below (s₁.setTop (mkF m 3 #[.val (.long q1), .second, .val (.long q2), .second, .unset, .unset] [(.long (q1 - (q1 / q2) * q2))])) _
    refine XS.lstore X0.here hx rfl (hb hby d8_3) rfl (l' := #[.val (.long q1), .second, .val (.long q2), .second, .val (.long (q1 - (q1 / q2) * q2)), .second]) rfl ?_
    show Steps p.tables e below (s₁.setTop (mkF m 5 #[.val (.long q1), .second, .val (.long q2), .second, .val (.long (q1 - (q1 / q2) * q2)), .second] [])) _
    refine XS.lloadN X0.here hx rfl (hb hby d8_5) rfl ?_
    show Steps p.tables e below (s₁.setTop (mkF m 6 #[.val (.long q1), .second, .val (.long q2), .second, .val (.long (q1 - (q1 / q2) * q2)), .second] [(.long q1)])) _
    refine XS.lloadN X0.here hx rfl (hb hby d8_6) rfl ?_
    show Steps p.tables e below (s₁.setTop (mkF m 7 #[.val (.long q1), .second, .val (.long q2), .second, .val (.long (q1 - (q1 / q2) * q2)), .second] [(.long q2), (.long q1)])) _
    refine XS.lxor X0.here hx rfl (hb hby d8_7) rfl ?_
    show Steps p.tables e below (s₁.setTop (mkF m 8 #[.val (.long q1), .second, .val (.long q2), .second, .val (.long (q1 - (q1 / q2) * q2)), .second] [(.long (q1 ^^^ q2))])) _
    refine XS.lconst X0.here hx rfl (hb hby d8_8) ?_
    show Steps p.tables e below (s₁.setTop (mkF m 9 #[.val (.long q1), .second, .val (.long q2), .second, .val (.long (q1 - (q1 / q2) * q2)), .second] [(.long (0 : Int64)), (.long (q1 ^^^ q2))])) _
    refine XS.lcmp X0.here hx rfl (hb hby d8_9) rfl ?_
    exact k
  by_cases hc65 : (lcmpW (q1 ^^^ q2) (0 : Int64)) < (0 : Int32)
  · have pre66 : ∀ t, Steps p.tables e below (s₁.setTop (mkF m 13 #[.val (.long q1), .second, .val (.long q2), .second, .val (.long (q1 - (q1 / q2) * q2)), .second] [])) t → Steps p.tables e below (s₁.setTop (entryFrame m #[(.long q1), (.long q2)] 6)) t := by
      intro t k
      refine pre64 _ ?_
      show Steps p.tables e below (s₁.setTop (mkF m 10 #[.val (.long q1), .second, .val (.long q2), .second, .val (.long (q1 - (q1 / q2) * q2)), .second] [(.int (lcmpW (q1 ^^^ q2) (0 : Int64)))])) _
      refine XS.ifNo X0.here hx rfl (hb hby d8_10) rfl ((if0 _ _).trans (tlt hc65).2.1) ?_
      exact k
    have pre67 : ∀ t, Steps p.tables e below (s₁.setTop (mkF m 17 #[.val (.long q1), .second, .val (.long q2), .second, .val (.long (q1 - (q1 / q2) * q2)), .second] [(.int (lcmpW (q1 - (q1 / q2) * q2) (0 : Int64)))])) t → Steps p.tables e below (s₁.setTop (entryFrame m #[(.long q1), (.long q2)] 6)) t := by
      intro t k
      refine pre66 _ ?_
      show Steps p.tables e below (s₁.setTop (mkF m 13 #[.val (.long q1), .second, .val (.long q2), .second, .val (.long (q1 - (q1 / q2) * q2)), .second] [])) _
      refine XS.lload X0.here hx rfl (hb hby d8_13) rfl ?_
      show Steps p.tables e below (s₁.setTop (mkF m 15 #[.val (.long q1), .second, .val (.long q2), .second, .val (.long (q1 - (q1 / q2) * q2)), .second] [(.long (q1 - (q1 / q2) * q2))])) _
      refine XS.lconst X0.here hx rfl (hb hby d8_15) ?_
      show Steps p.tables e below (s₁.setTop (mkF m 16 #[.val (.long q1), .second, .val (.long q2), .second, .val (.long (q1 - (q1 / q2) * q2)), .second] [(.long (0 : Int64)), (.long (q1 - (q1 / q2) * q2))])) _
      refine XS.lcmp X0.here hx rfl (hb hby d8_16) rfl ?_
      exact k
    by_cases hc68 : (lcmpW (q1 - (q1 / q2) * q2) (0 : Int64)) = (0 : Int32)
    · have pre69 : ∀ t, Steps p.tables e below (s₁.setTop (mkF m 25 #[.val (.long q1), .second, .val (.long q2), .second, .val (.long (q1 - (q1 / q2) * q2)), .second] [])) t → Steps p.tables e below (s₁.setTop (entryFrame m #[(.long q1), (.long q2)] 6)) t := by
        intro t k
        refine pre67 _ ?_
        show Steps p.tables e below (s₁.setTop (mkF m 17 #[.val (.long q1), .second, .val (.long q2), .second, .val (.long (q1 - (q1 / q2) * q2)), .second] [(.int (lcmpW (q1 - (q1 / q2) * q2) (0 : Int64)))])) _
        refine XS.ifYes X0.here hx rfl (pc0 := 17) (pc' := 25) rfl (hb hby d8_17) rfl ((if0 _ _).trans (teq hc68).1) (by decide) (by decide) ?_
        exact k
      have pre70 : ∀ t, Steps p.tables e below (s₁.setTop (mkF m 27 #[.val (.long q1), .second, .val (.long q2), .second, .val (.long (q1 - (q1 / q2) * q2)), .second] [(.long (q1 - (q1 / q2) * q2))])) t → Steps p.tables e below (s₁.setTop (entryFrame m #[(.long q1), (.long q2)] 6)) t := by
        intro t k
        refine pre69 _ ?_
        show Steps p.tables e below (s₁.setTop (mkF m 25 #[.val (.long q1), .second, .val (.long q2), .second, .val (.long (q1 - (q1 / q2) * q2)), .second] [])) _
        refine XS.lload X0.here hx rfl (hb hby d8_25) rfl ?_
        exact k
      obtain ⟨fs, hr, hrun, hended, hW, hsame⟩ := X0.leave (v := some (.long (q1 - (q1 / q2) * q2))) (fun h => by rw [hret] at h; cases h) (hlocks := hlocks)
      refine ⟨_, _, pre70 _ ?_, hrun, hended, _, _, rfl, ?_, ⟨_, rfl⟩, hW, hsame.mono (by decide) (by decide)⟩
      · show Steps p.tables e below (s₁.setTop (mkF m 27 #[.val (.long q1), .second, .val (.long q2), .second, .val (.long (q1 - (q1 / q2) * q2)), .second] [(.long (q1 - (q1 / q2) * q2))])) _
        exact Jvm.RoadKit.retOut X0 hx hret rfl (Or.inr (Or.inl ⟨rfl, rfl, _, rfl⟩)) (hb hby d8_27) hr
      · show Q8 Z q1 q2 h0 n0 _ s₁.heap _
        exact ⟨(by rw [F8, if_pos hc65, if_pos hc68]), N0, e0⟩
    · have pre71 : ∀ t, Steps p.tables e below (s₁.setTop (mkF m 20 #[.val (.long q1), .second, .val (.long q2), .second, .val (.long (q1 - (q1 / q2) * q2)), .second] [])) t → Steps p.tables e below (s₁.setTop (entryFrame m #[(.long q1), (.long q2)] 6)) t := by
        intro t k
        refine pre67 _ ?_
        show Steps p.tables e below (s₁.setTop (mkF m 17 #[.val (.long q1), .second, .val (.long q2), .second, .val (.long (q1 - (q1 / q2) * q2)), .second] [(.int (lcmpW (q1 - (q1 / q2) * q2) (0 : Int64)))])) _
        refine XS.ifNo X0.here hx rfl (hb hby d8_17) rfl ((if0 _ _).trans (feq hc68).1) ?_
        exact k
      have pre72 : ∀ t, Steps p.tables e below (s₁.setTop (mkF m 24 #[.val (.long q1), .second, .val (.long q2), .second, .val (.long (q1 - (q1 / q2) * q2)), .second] [(.long ((q1 - (q1 / q2) * q2) + q2))])) t → Steps p.tables e below (s₁.setTop (entryFrame m #[(.long q1), (.long q2)] 6)) t := by
        intro t k
        refine pre71 _ ?_
        show Steps p.tables e below (s₁.setTop (mkF m 20 #[.val (.long q1), .second, .val (.long q2), .second, .val (.long (q1 - (q1 / q2) * q2)), .second] [])) _
        refine XS.lload X0.here hx rfl (hb hby d8_20) rfl ?_
        show Steps p.tables e below (s₁.setTop (mkF m 22 #[.val (.long q1), .second, .val (.long q2), .second, .val (.long (q1 - (q1 / q2) * q2)), .second] [(.long (q1 - (q1 / q2) * q2))])) _
        refine XS.lloadN X0.here hx rfl (hb hby d8_22) rfl ?_
        show Steps p.tables e below (s₁.setTop (mkF m 23 #[.val (.long q1), .second, .val (.long q2), .second, .val (.long (q1 - (q1 / q2) * q2)), .second] [(.long q2), (.long (q1 - (q1 / q2) * q2))])) _
        refine XS.ladd X0.here hx rfl (hb hby d8_23) rfl ?_
        exact k
      obtain ⟨fs, hr, hrun, hended, hW, hsame⟩ := X0.leave (v := some (.long ((q1 - (q1 / q2) * q2) + q2))) (fun h => by rw [hret] at h; cases h) (hlocks := hlocks)
      refine ⟨_, _, pre72 _ ?_, hrun, hended, _, _, rfl, ?_, ⟨_, rfl⟩, hW, hsame.mono (by decide) (by decide)⟩
      · show Steps p.tables e below (s₁.setTop (mkF m 24 #[.val (.long q1), .second, .val (.long q2), .second, .val (.long (q1 - (q1 / q2) * q2)), .second] [(.long ((q1 - (q1 / q2) * q2) + q2))])) _
        exact Jvm.RoadKit.retOut X0 hx hret rfl (Or.inr (Or.inl ⟨rfl, rfl, _, rfl⟩)) (hb hby d8_24) hr
      · show Q8 Z q1 q2 h0 n0 _ s₁.heap _
        exact ⟨(by rw [F8, if_pos hc65, if_neg hc68]), N0, e0⟩
  · have pre73 : ∀ t, Steps p.tables e below (s₁.setTop (mkF m 25 #[.val (.long q1), .second, .val (.long q2), .second, .val (.long (q1 - (q1 / q2) * q2)), .second] [])) t → Steps p.tables e below (s₁.setTop (entryFrame m #[(.long q1), (.long q2)] 6)) t := by
      intro t k
      refine pre64 _ ?_
      show Steps p.tables e below (s₁.setTop (mkF m 10 #[.val (.long q1), .second, .val (.long q2), .second, .val (.long (q1 - (q1 / q2) * q2)), .second] [(.int (lcmpW (q1 ^^^ q2) (0 : Int64)))])) _
      refine XS.ifYes X0.here hx rfl (pc0 := 10) (pc' := 25) rfl (hb hby d8_10) rfl ((if0 _ _).trans (flt hc65).2.1) (by decide) (by decide) ?_
      exact k
    have pre74 : ∀ t, Steps p.tables e below (s₁.setTop (mkF m 27 #[.val (.long q1), .second, .val (.long q2), .second, .val (.long (q1 - (q1 / q2) * q2)), .second] [(.long (q1 - (q1 / q2) * q2))])) t → Steps p.tables e below (s₁.setTop (entryFrame m #[(.long q1), (.long q2)] 6)) t := by
      intro t k
      refine pre73 _ ?_
      show Steps p.tables e below (s₁.setTop (mkF m 25 #[.val (.long q1), .second, .val (.long q2), .second, .val (.long (q1 - (q1 / q2) * q2)), .second] [])) _
      refine XS.lload X0.here hx rfl (hb hby d8_25) rfl ?_
      exact k
    obtain ⟨fs, hr, hrun, hended, hW, hsame⟩ := X0.leave (v := some (.long (q1 - (q1 / q2) * q2))) (fun h => by rw [hret] at h; cases h) (hlocks := hlocks)
    refine ⟨_, _, pre74 _ ?_, hrun, hended, _, _, rfl, ?_, ⟨_, rfl⟩, hW, hsame.mono (by decide) (by decide)⟩
    · show Steps p.tables e below (s₁.setTop (mkF m 27 #[.val (.long q1), .second, .val (.long q2), .second, .val (.long (q1 - (q1 / q2) * q2)), .second] [(.long (q1 - (q1 / q2) * q2))])) _
      exact Jvm.RoadKit.retOut X0 hx hret rfl (Or.inr (Or.inl ⟨rfl, rfl, _, rfl⟩)) (hb hby d8_27) hr
    · show Q8 Z q1 q2 h0 n0 _ s₁.heap _
      exact ⟨(by rw [F8, if_neg hc65]), N0, e0⟩
theorem d7_0 : decode jdk_29_method_51_code 0 = .ok (.lload_n 0, 1) := by decide +kernel
theorem d7_1 : decode jdk_29_method_51_code 1 = .ok (.iload_n 2, 1) := by decide +kernel
theorem d7_2 : decode jdk_29_method_51_code 2 = .ok (.i2l, 1) := by decide +kernel
theorem d7_3 : decode jdk_29_method_51_code 3 = .ok (.invokestatic 146, 3) := by decide +kernel
theorem d7_6 : decode jdk_29_method_51_code 6 = .ok (.l2i, 1) := by decide +kernel
theorem d7_7 : decode jdk_29_method_51_code 7 = .ok (.ireturn, 1) := by decide +kernel
theorem ef_7 (m : MethodId) (x0 : Int64) (x1 : Int32) : entryFrame m #[(.long x0), (.int x1)] 3 = mkF m 0 #[.val (.long x0), .second, .val (.int x1)] [] := by first | (simp [entryFrame, mkF, argsToLocals, Value.category]; done) | rfl
def F7 (q1 : Int64) (p2 : Int32) : Int32 :=
  ((F8 q1 (p2.toInt64)).toInt32)
def Q7 (Z : State) (q1 : Int64) (p2 : Int32) (h0 : Heap) (n0 : Nat) (v : Option Value) (h : Heap) (L : List Loc) : Prop := v = some (.int (F7 q1 p2)) ∧ Fr n0 L ∧ h = h0
set_option maxRecDepth 65536 in
set_option maxHeartbeats 40000000 in
theorem rm7 (l : Launch) (Z : State) (a0 : Array Value) (hw : ∀ d ∈ tables_1, d.before a0 Z = true) (ws : List Jvm.Cond) (q1 : Int64) (p2 : Int32) (h0 : Heap) (n0 : Nat) (Z0 : n0 ≤ h0.size) (hnz : p2.toInt64 ≠ (0 : Int64)) :
    MetFree l (⟨"java/lang/Math", "floorMod", "(JI)I"⟩ : MethodName) (head1 (Jvm.Cond.code (⟨"java/lang/Math", "floorMod", "(JI)I"⟩ : MethodName) jdk_29_method_51_code 3 (some .int) :: ws) ({ frames := 1, cells := 0, slots := 0, locals := 17 } : Room)) (fun a U => a = #[(.long q1), (.int p2)] ∧ Z.Warmed39 U.vm ∧ U.heap = h0) (fun _ _ _ _ _ => True) (fun _ U o U' => ∃ v L, o = .returned v ∧ Q7 Z q1 p2 h0 n0 v U'.heap L ∧ FrameEnd U o U' L ({ frames := 1, cells := 0, slots := 0, locals := 17 } : Room).cells ({ frames := 1, cells := 0, slots := 0, locals := 17 } : Room).slots) := by
  refine MetFree.of_bodySF (Jvm.Free.JP.mathPlain rfl (by decide +kernel)) hisR ?_
  intro p e s m args below meth c s₁ Bd hml0 hP hK
  obtain ⟨rfl, hZ, hh⟩ := hP
  have hx := Bd.exec
  have hby := Bd.bytes
  have hml : c.maxLocals = 3 := hml0
  have hown : s.vm.findClass "java/lang/Math" = some m.cls := findClass_of_methodNamed Bd.named
  have hnm := (name_of_methodNamed Bd.named Bd.method).1
  have hret := Bd.returns
  have hlocks : meth.locks = false := Bd.notSynchronized
  have X0 : Stand p l e ({ frames := 1, cells := 0, slots := 0, locals := 17 } : Room) s m #[(.long q1), (.int p2)] below meth c s₁ [] 0 0 := Stand.of_body Bd
  have e0 : s₁.heap = h0 := by rw [← hh, Bd.state]; rfl
  have N0 := Fr.nil n0
  have pre0 : ∀ t, Steps p.tables e below (s₁.setTop (mkF m 0 #[.val (.long q1), .second, .val (.int p2)] [])) t → Steps p.tables e below (s₁.setTop (entryFrame m #[(.long q1), (.int p2)] 3)) t := fun t k => castTop (ef_7 m q1 p2) k
  have pre75 : ∀ t, Steps p.tables e below (s₁.setTop (mkF m 3 #[.val (.long q1), .second, .val (.int p2)] [(.long (p2.toInt64)), (.long q1)])) t → Steps p.tables e below (s₁.setTop (entryFrame m #[(.long q1), (.int p2)] 3)) t := by
    intro t k
    refine pre0 _ ?_
    show Steps p.tables e below (s₁.setTop (mkF m 0 #[.val (.long q1), .second, .val (.int p2)] [])) _
    refine XS.lloadN X0.here hx rfl (hb hby d7_0) rfl ?_
    show Steps p.tables e below (s₁.setTop (mkF m 1 #[.val (.long q1), .second, .val (.int p2)] [(.long q1)])) _
    refine XS.iloadN X0.here hx rfl (hb hby d7_1) rfl ?_
    show Steps p.tables e below (s₁.setTop (mkF m 2 #[.val (.long q1), .second, .val (.int p2)] [(.int p2), (.long q1)])) _
    refine XS.i2l X0.here hx rfl (hb hby d7_2) rfl ?_
    exact k
  obtain ⟨_, _, ⟨T76, L76, k76, n76⟩, -, X76, ⟨Lc76, hQ76, l76, y76, z76⟩, st76⟩ := Jvm.LawKit.callS X0 hx (y := (⟨"java/lang/Math", "floorMod", "(JJ)J"⟩ : MethodName)) hown (mvT hZ (hw _ (List.mem_of_getElem? (i := 39) rfl))) (mvT hZ (hw _ (List.mem_of_getElem? (i := 40) rfl))) (mvT hZ (hw _ (List.mem_of_getElem? (i := 31) rfl))) (mvT hZ (hw _ (List.mem_of_getElem? (i := 41) rfl))) (by decide) (backOf (W := 0) (rm8 l Z a0 hw [] q1 (p2.toInt64) h0 n0 Z0 hnz) hZ (hw _ (List.mem_of_getElem? (i := 41) rfl)) (hw _ (List.mem_of_getElem? (i := 31) rfl)) (by decide) (by decide)) (g := (mkF m 3 #[.val (.long q1), .second, .val (.int p2)] [(.long (p2.toInt64)), (.long q1)])) rfl (by rw [hml]; rfl) (argsL := [(.long q1), (.long (p2.toInt64))]) (rest := []) (lenOf pd__JJ_J rfl) rfl (by show 2 * 0 + _ ≤ _; exact Nat.le_of_eq rfl) (hb hby d7_3) (fun _ _ => ⟨rfl, e0, (by decide : 0 + 0 ≤ _), (by decide : 0 + 0 ≤ _)⟩)
  dsimp only [Pt.U, Pt.locs, Pt.cells, Pt.slots] at X76 l76 y76 z76 st76 hQ76
  subst l76 y76 z76
  obtain ⟨rfl, N76q, e76⟩ := hQ76
  have N76 := Fr.app N0 N76q
  have pre77 : ∀ t, Steps p.tables e below (T76.setTop (mkF m 6 #[.val (.long q1), .second, .val (.int p2)] [(.long (F8 q1 (p2.toInt64)))])) t → Steps p.tables e below (s₁.setTop (entryFrame m #[(.long q1), (.int p2)] 3)) t := by
    intro t k
    refine pre75 _ ?_
    show Steps p.tables e below (s₁.setTop (mkF m 3 #[.val (.long q1), .second, .val (.int p2)] [(.long (p2.toInt64)), (.long q1)])) _
    refine st76 _ ?_
    exact k
  have pre78 : ∀ t, Steps p.tables e below (T76.setTop (mkF m 7 #[.val (.long q1), .second, .val (.int p2)] [(.int ((F8 q1 (p2.toInt64)).toInt32))])) t → Steps p.tables e below (s₁.setTop (entryFrame m #[(.long q1), (.int p2)] 3)) t := by
    intro t k
    refine pre77 _ ?_
    show Steps p.tables e below (T76.setTop (mkF m 6 #[.val (.long q1), .second, .val (.int p2)] [(.long (F8 q1 (p2.toInt64)))])) _
    refine XS.l2i X76.here hx rfl (hb hby d7_6) rfl ?_
    exact k
  obtain ⟨fs, hr, hrun, hended, hW, hsame⟩ := X76.leave (v := some (.int ((F8 q1 (p2.toInt64)).toInt32))) (fun h => by rw [hret] at h; cases h) (hlocks := hlocks)
  refine ⟨_, _, pre78 _ ?_, hrun, hended, _, _, rfl, ?_, ⟨_, rfl⟩, hW, hsame.mono (by decide) (by decide)⟩
  · show Steps p.tables e below (T76.setTop (mkF m 7 #[.val (.long q1), .second, .val (.int p2)] [(.int ((F8 q1 (p2.toInt64)).toInt32))])) _
    exact retI X76 hx hret (hb hby d7_7) hr
  · show Q7 Z q1 p2 h0 n0 _ T76.heap _
    exact ⟨(by rw [F7]), N76, e76⟩
theorem d9_0 : decode jdk_2369_method_18_code 0 = .ok (.lload_n 1, 1) := by decide +kernel
theorem d9_1 : decode jdk_2369_method_18_code 1 = .ok (.ldc2_w 117, 3) := by decide +kernel
theorem d9_4 : decode jdk_2369_method_18_code 4 = .ok (.land, 1) := by decide +kernel
theorem d9_5 : decode jdk_2369_method_18_code 5 = .ok (.lconst 0, 1) := by decide +kernel
theorem d9_6 : decode jdk_2369_method_18_code 6 = .ok (.lcmp, 1) := by decide +kernel
theorem d9_7 : decode jdk_2369_method_18_code 7 = .ok (.ifCond .ne 27, 3) := by decide +kernel
theorem d9_10 : decode jdk_2369_method_18_code 10 = .ok (.lload_n 1, 1) := by decide +kernel
theorem d9_11 : decode jdk_2369_method_18_code 11 = .ok (.ldc2_w 123, 3) := by decide +kernel
theorem d9_14 : decode jdk_2369_method_18_code 14 = .ok (.lrem, 1) := by decide +kernel
theorem d9_15 : decode jdk_2369_method_18_code 15 = .ok (.lconst 0, 1) := by decide +kernel
theorem d9_16 : decode jdk_2369_method_18_code 16 = .ok (.lcmp, 1) := by decide +kernel
theorem d9_17 : decode jdk_2369_method_18_code 17 = .ok (.ifCond .ne 13, 3) := by decide +kernel
theorem d9_20 : decode jdk_2369_method_18_code 20 = .ok (.lload_n 1, 1) := by decide +kernel
theorem d9_21 : decode jdk_2369_method_18_code 21 = .ok (.ldc2_w 127, 3) := by decide +kernel
theorem d9_24 : decode jdk_2369_method_18_code 24 = .ok (.lrem, 1) := by decide +kernel
theorem d9_25 : decode jdk_2369_method_18_code 25 = .ok (.lconst 0, 1) := by decide +kernel
theorem d9_26 : decode jdk_2369_method_18_code 26 = .ok (.lcmp, 1) := by decide +kernel
theorem d9_27 : decode jdk_2369_method_18_code 27 = .ok (.ifCond .ne 7, 3) := by decide +kernel
theorem d9_30 : decode jdk_2369_method_18_code 30 = .ok (.iconst 1, 1) := by decide +kernel
theorem d9_31 : decode jdk_2369_method_18_code 31 = .ok (.goto 4, 3) := by decide +kernel
theorem d9_35 : decode jdk_2369_method_18_code 35 = .ok (.ireturn, 1) := by decide +kernel
theorem d9_34 : decode jdk_2369_method_18_code 34 = .ok (.iconst 0, 1) := by decide +kernel
theorem pn_9 : plainName "java/time/chrono/IsoChronology" = true := by first | (simp [plainName, overriddenIn]; done) | decide +kernel
theorem ef_9 (m : MethodId) (x0 : Addr) (x1 : Int64) : entryFrame m #[(.ref x0), (.long x1)] 3 = mkF m 0 #[.val (.ref x0), .val (.long x1), .second] [] := by first | (simp [entryFrame, mkF, argsToLocals, Value.category]; done) | rfl
def F9 (q2 : Int64) : Int32 :=
  if (lcmpW (q2 &&& (3 : Int64)) (0 : Int64)) = (0 : Int32) then (  if (lcmpW (q2 - (q2 / (100 : Int64)) * (100 : Int64)) (0 : Int64)) = (0 : Int32) then (  if (lcmpW (q2 - (q2 / (400 : Int64)) * (400 : Int64)) (0 : Int64)) = (0 : Int32) then (  (1 : Int32))
  else (  (0 : Int32)))
  else (  (1 : Int32)))
  else (  (0 : Int32))
def Q9 (Z : State) (a1 : Addr) (q2 : Int64) (h0 : Heap) (n0 : Nat) (v : Option Value) (h : Heap) (L : List Loc) : Prop := v = some (.int (F9 q2)) ∧ Fr n0 L ∧ h = h0
set_option maxRecDepth 65536 in
set_option maxHeartbeats 40000000 in
theorem rm9 (l : Launch) (Z : State) (a0 : Array Value) (hw : ∀ d ∈ tables_1, d.before a0 Z = true) (ws : List Jvm.Cond) (a1 : Addr) (q2 : Int64) (h0 : Heap) (n0 : Nat) (Z0 : n0 ≤ h0.size)  :
    MetFree l (⟨"java/time/chrono/IsoChronology", "isLeapYear", "(J)Z"⟩ : MethodName) (head1 (Jvm.Cond.code (⟨"java/time/chrono/IsoChronology", "isLeapYear", "(J)Z"⟩ : MethodName) jdk_2369_method_18_code 3 (some .boolean) :: ws) ({ frames := 0, cells := 0, slots := 0, locals := 0 } : Room)) (fun a U => a = #[(.ref a1), (.long q2)] ∧ Z.Warmed39 U.vm ∧ U.heap = h0) (fun _ _ _ _ _ => True) (fun _ U o U' => ∃ v L, o = .returned v ∧ Q9 Z a1 q2 h0 n0 v U'.heap L ∧ FrameEnd U o U' L ({ frames := 0, cells := 0, slots := 0, locals := 0 } : Room).cells ({ frames := 0, cells := 0, slots := 0, locals := 0 } : Room).slots) := by
  refine MetFree.of_bodySF (plainFor_of_name pn_9) hisR ?_
  intro p e s m args below meth c s₁ Bd hml0 hP hK
  obtain ⟨rfl, hZ, hh⟩ := hP
  have hx := Bd.exec
  have hby := Bd.bytes
  have hml : c.maxLocals = 3 := hml0
  have hown : s.vm.findClass "java/time/chrono/IsoChronology" = some m.cls := findClass_of_methodNamed Bd.named
  have hnm := (name_of_methodNamed Bd.named Bd.method).1
  have hret := Bd.returns
  have hlocks : meth.locks = false := Bd.notSynchronized
  have X0 : Stand p l e ({ frames := 0, cells := 0, slots := 0, locals := 0 } : Room) s m #[(.ref a1), (.long q2)] below meth c s₁ [] 0 0 := Stand.of_body Bd
  have e0 : s₁.heap = h0 := by rw [← hh, Bd.state]; rfl
  have N0 := Fr.nil n0
  have pre0 : ∀ t, Steps p.tables e below (s₁.setTop (mkF m 0 #[.val (.ref a1), .val (.long q2), .second] [])) t → Steps p.tables e below (s₁.setTop (entryFrame m #[(.ref a1), (.long q2)] 3)) t := fun t k => castTop (ef_9 m a1 q2) k
  have pre79 : ∀ t, Steps p.tables e below (s₁.setTop (mkF m 7 #[.val (.ref a1), .val (.long q2), .second] [(.int (lcmpW (q2 &&& (3 : Int64)) (0 : Int64)))])) t → Steps p.tables e below (s₁.setTop (entryFrame m #[(.ref a1), (.long q2)] 3)) t := by
    intro t k
    refine pre0 _ ?_
    show Steps p.tables e below (s₁.setTop (mkF m 0 #[.val (.ref a1), .val (.long q2), .second] [])) _
    refine XS.lloadN X0.here hx rfl (hb hby d9_0) rfl ?_
    show Steps p.tables e below (s₁.setTop (mkF m 1 #[.val (.ref a1), .val (.long q2), .second] [(.long q2)])) _
    refine X0.ldc2Long hx hown (mvT hZ (hw _ (List.mem_of_getElem? (i := 52) rfl))) (g := (mkF m 1 #[.val (.ref a1), .val (.long q2), .second] [(.long q2)])) rfl (hb hby d9_1) _ ?_
    show Steps p.tables e below (s₁.setTop (mkF m 4 #[.val (.ref a1), .val (.long q2), .second] [(.long (3 : Int64)), (.long q2)])) _
    refine XS.land X0.here hx rfl (hb hby d9_4) rfl ?_
    show Steps p.tables e below (s₁.setTop (mkF m 5 #[.val (.ref a1), .val (.long q2), .second] [(.long (q2 &&& (3 : Int64)))])) _
    refine XS.lconst X0.here hx rfl (hb hby d9_5) ?_
    show Steps p.tables e below (s₁.setTop (mkF m 6 #[.val (.ref a1), .val (.long q2), .second] [(.long (0 : Int64)), (.long (q2 &&& (3 : Int64)))])) _
    refine XS.lcmp X0.here hx rfl (hb hby d9_6) rfl ?_
    exact k
  by_cases hc80 : (lcmpW (q2 &&& (3 : Int64)) (0 : Int64)) = (0 : Int32)
  · have pre81 : ∀ t, Steps p.tables e below (s₁.setTop (mkF m 10 #[.val (.ref a1), .val (.long q2), .second] [])) t → Steps p.tables e below (s₁.setTop (entryFrame m #[(.ref a1), (.long q2)] 3)) t := by
      intro t k
      refine pre79 _ ?_
      show Steps p.tables e below (s₁.setTop (mkF m 7 #[.val (.ref a1), .val (.long q2), .second] [(.int (lcmpW (q2 &&& (3 : Int64)) (0 : Int64)))])) _
      refine XS.ifNo X0.here hx rfl (hb hby d9_7) rfl ((if0 _ _).trans (teq hc80).2) ?_
      exact k
    have pre82 : ∀ t, Steps p.tables e below (s₁.setTop (mkF m 17 #[.val (.ref a1), .val (.long q2), .second] [(.int (lcmpW (q2 - (q2 / (100 : Int64)) * (100 : Int64)) (0 : Int64)))])) t → Steps p.tables e below (s₁.setTop (entryFrame m #[(.ref a1), (.long q2)] 3)) t := by
      intro t k
      refine pre81 _ ?_
      show Steps p.tables e below (s₁.setTop (mkF m 10 #[.val (.ref a1), .val (.long q2), .second] [])) _
      refine XS.lloadN X0.here hx rfl (hb hby d9_10) rfl ?_
      show Steps p.tables e below (s₁.setTop (mkF m 11 #[.val (.ref a1), .val (.long q2), .second] [(.long q2)])) _
      refine X0.ldc2Long hx hown (mvT hZ (hw _ (List.mem_of_getElem? (i := 75) rfl))) (g := (mkF m 11 #[.val (.ref a1), .val (.long q2), .second] [(.long q2)])) rfl (hb hby d9_11) _ ?_
      show Steps p.tables e below (s₁.setTop (mkF m 14 #[.val (.ref a1), .val (.long q2), .second] [(.long (100 : Int64)), (.long q2)])) _
      refine XS.lrem X0.here hx rfl (hb hby d9_14) rfl (by decide) ?_
      show Steps p.tables e below (s₁.setTop (mkF m 15 #[.val (.ref a1), .val (.long q2), .second] [(.long (q2 - (q2 / (100 : Int64)) * (100 : Int64)))])) _
      refine XS.lconst X0.here hx rfl (hb hby d9_15) ?_
      show Steps p.tables e below (s₁.setTop (mkF m 16 #[.val (.ref a1), .val (.long q2), .second] [(.long (0 : Int64)), (.long (q2 - (q2 / (100 : Int64)) * (100 : Int64)))])) _
      refine XS.lcmp X0.here hx rfl (hb hby d9_16) rfl ?_
      exact k
    by_cases hc83 : (lcmpW (q2 - (q2 / (100 : Int64)) * (100 : Int64)) (0 : Int64)) = (0 : Int32)
    · have pre84 : ∀ t, Steps p.tables e below (s₁.setTop (mkF m 20 #[.val (.ref a1), .val (.long q2), .second] [])) t → Steps p.tables e below (s₁.setTop (entryFrame m #[(.ref a1), (.long q2)] 3)) t := by
        intro t k
        refine pre82 _ ?_
        show Steps p.tables e below (s₁.setTop (mkF m 17 #[.val (.ref a1), .val (.long q2), .second] [(.int (lcmpW (q2 - (q2 / (100 : Int64)) * (100 : Int64)) (0 : Int64)))])) _
        refine XS.ifNo X0.here hx rfl (hb hby d9_17) rfl ((if0 _ _).trans (teq hc83).2) ?_
        exact k
      have pre85 : ∀ t, Steps p.tables e below (s₁.setTop (mkF m 27 #[.val (.ref a1), .val (.long q2), .second] [(.int (lcmpW (q2 - (q2 / (400 : Int64)) * (400 : Int64)) (0 : Int64)))])) t → Steps p.tables e below (s₁.setTop (entryFrame m #[(.ref a1), (.long q2)] 3)) t := by
        intro t k
        refine pre84 _ ?_
        show Steps p.tables e below (s₁.setTop (mkF m 20 #[.val (.ref a1), .val (.long q2), .second] [])) _
        refine XS.lloadN X0.here hx rfl (hb hby d9_20) rfl ?_
        show Steps p.tables e below (s₁.setTop (mkF m 21 #[.val (.ref a1), .val (.long q2), .second] [(.long q2)])) _
        refine X0.ldc2Long hx hown (mvT hZ (hw _ (List.mem_of_getElem? (i := 80) rfl))) (g := (mkF m 21 #[.val (.ref a1), .val (.long q2), .second] [(.long q2)])) rfl (hb hby d9_21) _ ?_
        show Steps p.tables e below (s₁.setTop (mkF m 24 #[.val (.ref a1), .val (.long q2), .second] [(.long (400 : Int64)), (.long q2)])) _
        refine XS.lrem X0.here hx rfl (hb hby d9_24) rfl (by decide) ?_
        show Steps p.tables e below (s₁.setTop (mkF m 25 #[.val (.ref a1), .val (.long q2), .second] [(.long (q2 - (q2 / (400 : Int64)) * (400 : Int64)))])) _
        refine XS.lconst X0.here hx rfl (hb hby d9_25) ?_
        show Steps p.tables e below (s₁.setTop (mkF m 26 #[.val (.ref a1), .val (.long q2), .second] [(.long (0 : Int64)), (.long (q2 - (q2 / (400 : Int64)) * (400 : Int64)))])) _
        refine XS.lcmp X0.here hx rfl (hb hby d9_26) rfl ?_
        exact k
      by_cases hc86 : (lcmpW (q2 - (q2 / (400 : Int64)) * (400 : Int64)) (0 : Int64)) = (0 : Int32)
      · have pre87 : ∀ t, Steps p.tables e below (s₁.setTop (mkF m 30 #[.val (.ref a1), .val (.long q2), .second] [])) t → Steps p.tables e below (s₁.setTop (entryFrame m #[(.ref a1), (.long q2)] 3)) t := by
          intro t k
          refine pre85 _ ?_
          show Steps p.tables e below (s₁.setTop (mkF m 27 #[.val (.ref a1), .val (.long q2), .second] [(.int (lcmpW (q2 - (q2 / (400 : Int64)) * (400 : Int64)) (0 : Int64)))])) _
          refine XS.ifNo X0.here hx rfl (hb hby d9_27) rfl ((if0 _ _).trans (teq hc86).2) ?_
          exact k
        have pre88 : ∀ t, Steps p.tables e below (s₁.setTop (mkF m 35 #[.val (.ref a1), .val (.long q2), .second] [(.int (1 : Int32))])) t → Steps p.tables e below (s₁.setTop (entryFrame m #[(.ref a1), (.long q2)] 3)) t := by
          intro t k
          refine pre87 _ ?_
          show Steps p.tables e below (s₁.setTop (mkF m 30 #[.val (.ref a1), .val (.long q2), .second] [])) _
          refine XS.iconst X0.here hx rfl (hb hby d9_30) ?_
          show Steps p.tables e below (s₁.setTop (mkF m 31 #[.val (.ref a1), .val (.long q2), .second] [(.int (1 : Int32))])) _
          refine XS.goto X0.here hx rfl (pc0 := 31) (pc' := 35) rfl (hb hby d9_31) (by decide) (by decide) ?_
          exact k
        obtain ⟨fs, hr, hrun, hended, hW, hsame⟩ := X0.leave (v := some (.int (1 : Int32))) (fun h => by rw [hret] at h; cases h) (hlocks := hlocks)
        refine ⟨_, _, pre88 _ ?_, hrun, hended, _, _, rfl, ?_, ⟨_, rfl⟩, hW, hsame.mono (by decide) (by decide)⟩
        · show Steps p.tables e below (s₁.setTop (mkF m 35 #[.val (.ref a1), .val (.long q2), .second] [(.int (1 : Int32))])) _
          exact retN X0 hx (t := .boolean) hret (by simp) (hb hby d9_35) hr
        · show Q9 Z a1 q2 h0 n0 _ s₁.heap _
          exact ⟨(by rw [F9, if_pos hc80, if_pos hc83, if_pos hc86]), N0, e0⟩
      · have pre89 : ∀ t, Steps p.tables e below (s₁.setTop (mkF m 34 #[.val (.ref a1), .val (.long q2), .second] [])) t → Steps p.tables e below (s₁.setTop (entryFrame m #[(.ref a1), (.long q2)] 3)) t := by
          intro t k
          refine pre85 _ ?_
          show Steps p.tables e below (s₁.setTop (mkF m 27 #[.val (.ref a1), .val (.long q2), .second] [(.int (lcmpW (q2 - (q2 / (400 : Int64)) * (400 : Int64)) (0 : Int64)))])) _
          refine XS.ifYes X0.here hx rfl (pc0 := 27) (pc' := 34) rfl (hb hby d9_27) rfl ((if0 _ _).trans (feq hc86).2) (by decide) (by decide) ?_
          exact k
        have pre90 : ∀ t, Steps p.tables e below (s₁.setTop (mkF m 35 #[.val (.ref a1), .val (.long q2), .second] [(.int (0 : Int32))])) t → Steps p.tables e below (s₁.setTop (entryFrame m #[(.ref a1), (.long q2)] 3)) t := by
          intro t k
          refine pre89 _ ?_
          show Steps p.tables e below (s₁.setTop (mkF m 34 #[.val (.ref a1), .val (.long q2), .second] [])) _
          refine XS.iconst X0.here hx rfl (hb hby d9_34) ?_
          exact k
        obtain ⟨fs, hr, hrun, hended, hW, hsame⟩ := X0.leave (v := some (.int (0 : Int32))) (fun h => by rw [hret] at h; cases h) (hlocks := hlocks)
        refine ⟨_, _, pre90 _ ?_, hrun, hended, _, _, rfl, ?_, ⟨_, rfl⟩, hW, hsame.mono (by decide) (by decide)⟩
        · show Steps p.tables e below (s₁.setTop (mkF m 35 #[.val (.ref a1), .val (.long q2), .second] [(.int (0 : Int32))])) _
          exact retN X0 hx (t := .boolean) hret (by simp) (hb hby d9_35) hr
        · show Q9 Z a1 q2 h0 n0 _ s₁.heap _
          exact ⟨(by rw [F9, if_pos hc80, if_pos hc83, if_neg hc86]), N0, e0⟩
    · have pre91 : ∀ t, Steps p.tables e below (s₁.setTop (mkF m 30 #[.val (.ref a1), .val (.long q2), .second] [])) t → Steps p.tables e below (s₁.setTop (entryFrame m #[(.ref a1), (.long q2)] 3)) t := by
        intro t k
        refine pre82 _ ?_
        show Steps p.tables e below (s₁.setTop (mkF m 17 #[.val (.ref a1), .val (.long q2), .second] [(.int (lcmpW (q2 - (q2 / (100 : Int64)) * (100 : Int64)) (0 : Int64)))])) _
        refine XS.ifYes X0.here hx rfl (pc0 := 17) (pc' := 30) rfl (hb hby d9_17) rfl ((if0 _ _).trans (feq hc83).2) (by decide) (by decide) ?_
        exact k
      have pre92 : ∀ t, Steps p.tables e below (s₁.setTop (mkF m 35 #[.val (.ref a1), .val (.long q2), .second] [(.int (1 : Int32))])) t → Steps p.tables e below (s₁.setTop (entryFrame m #[(.ref a1), (.long q2)] 3)) t := by
        intro t k
        refine pre91 _ ?_
        show Steps p.tables e below (s₁.setTop (mkF m 30 #[.val (.ref a1), .val (.long q2), .second] [])) _
        refine XS.iconst X0.here hx rfl (hb hby d9_30) ?_
        show Steps p.tables e below (s₁.setTop (mkF m 31 #[.val (.ref a1), .val (.long q2), .second] [(.int (1 : Int32))])) _
        refine XS.goto X0.here hx rfl (pc0 := 31) (pc' := 35) rfl (hb hby d9_31) (by decide) (by decide) ?_
        exact k
      obtain ⟨fs, hr, hrun, hended, hW, hsame⟩ := X0.leave (v := some (.int (1 : Int32))) (fun h => by rw [hret] at h; cases h) (hlocks := hlocks)
      refine ⟨_, _, pre92 _ ?_, hrun, hended, _, _, rfl, ?_, ⟨_, rfl⟩, hW, hsame.mono (by decide) (by decide)⟩
      · show Steps p.tables e below (s₁.setTop (mkF m 35 #[.val (.ref a1), .val (.long q2), .second] [(.int (1 : Int32))])) _
        exact retN X0 hx (t := .boolean) hret (by simp) (hb hby d9_35) hr
      · show Q9 Z a1 q2 h0 n0 _ s₁.heap _
        exact ⟨(by rw [F9, if_pos hc80, if_neg hc83]), N0, e0⟩
  · have pre93 : ∀ t, Steps p.tables e below (s₁.setTop (mkF m 34 #[.val (.ref a1), .val (.long q2), .second] [])) t → Steps p.tables e below (s₁.setTop (entryFrame m #[(.ref a1), (.long q2)] 3)) t := by
      intro t k
      refine pre79 _ ?_
      show Steps p.tables e below (s₁.setTop (mkF m 7 #[.val (.ref a1), .val (.long q2), .second] [(.int (lcmpW (q2 &&& (3 : Int64)) (0 : Int64)))])) _
      refine XS.ifYes X0.here hx rfl (pc0 := 7) (pc' := 34) rfl (hb hby d9_7) rfl ((if0 _ _).trans (feq hc80).2) (by decide) (by decide) ?_
      exact k
    have pre94 : ∀ t, Steps p.tables e below (s₁.setTop (mkF m 35 #[.val (.ref a1), .val (.long q2), .second] [(.int (0 : Int32))])) t → Steps p.tables e below (s₁.setTop (entryFrame m #[(.ref a1), (.long q2)] 3)) t := by
      intro t k
      refine pre93 _ ?_
      show Steps p.tables e below (s₁.setTop (mkF m 34 #[.val (.ref a1), .val (.long q2), .second] [])) _
      refine XS.iconst X0.here hx rfl (hb hby d9_34) ?_
      exact k
    obtain ⟨fs, hr, hrun, hended, hW, hsame⟩ := X0.leave (v := some (.int (0 : Int32))) (fun h => by rw [hret] at h; cases h) (hlocks := hlocks)
    refine ⟨_, _, pre94 _ ?_, hrun, hended, _, _, rfl, ?_, ⟨_, rfl⟩, hW, hsame.mono (by decide) (by decide)⟩
    · show Steps p.tables e below (s₁.setTop (mkF m 35 #[.val (.ref a1), .val (.long q2), .second] [(.int (0 : Int32))])) _
      exact retN X0 hx (t := .boolean) hret (by simp) (hb hby d9_35) hr
    · show Q9 Z a1 q2 h0 n0 _ s₁.heap _
      exact ⟨(by rw [F9, if_neg hc80]), N0, e0⟩
theorem d10_39 : decode method_4_code 39 = .ok (.lload 4, 2) := by decide +kernel
theorem d10_41 : decode method_4_code 41 = .ok (.lload 6, 2) := by decide +kernel
theorem d10_43 : decode method_4_code 43 = .ok (.ldc2_w 11, 3) := by decide +kernel
theorem d10_46 : decode method_4_code 46 = .ok (.lmul, 1) := by decide +kernel
theorem d10_47 : decode method_4_code 47 = .ok (.lsub, 1) := by decide +kernel
theorem d10_48 : decode method_4_code 48 = .ok (.lstore 8, 2) := by decide +kernel
theorem d10_50 : decode method_4_code 50 = .ok (.iload_n 2, 1) := by decide +kernel
theorem d10_51 : decode method_4_code 51 = .ok (.bipush 9, 2) := by decide +kernel
theorem d10_53 : decode method_4_code 53 = .ok (.iadd, 1) := by decide +kernel
theorem d10_54 : decode method_4_code 54 = .ok (.bipush 12, 2) := by decide +kernel
theorem d10_56 : decode method_4_code 56 = .ok (.irem, 1) := by decide +kernel
theorem d10_57 : decode method_4_code 57 = .ok (.istore 10, 2) := by decide +kernel
theorem d10_59 : decode method_4_code 59 = .ok (.ldc2_w 21, 3) := by decide +kernel
theorem d10_62 : decode method_4_code 62 = .ok (.iload 10, 2) := by decide +kernel
theorem d10_64 : decode method_4_code 64 = .ok (.i2l, 1) := by decide +kernel
theorem d10_65 : decode method_4_code 65 = .ok (.lmul, 1) := by decide +kernel
theorem d10_66 : decode method_4_code 66 = .ok (.ldc2_w 23, 3) := by decide +kernel
theorem d10_69 : decode method_4_code 69 = .ok (.ladd, 1) := by decide +kernel
theorem d10_70 : decode method_4_code 70 = .ok (.ldc2_w 25, 3) := by decide +kernel
theorem d10_73 : decode method_4_code 73 = .ok (.ldiv, 1) := by decide +kernel
theorem d10_74 : decode method_4_code 74 = .ok (.iload_n 3, 1) := by decide +kernel
theorem d10_75 : decode method_4_code 75 = .ok (.i2l, 1) := by decide +kernel
theorem d10_76 : decode method_4_code 76 = .ok (.ladd, 1) := by decide +kernel
theorem d10_77 : decode method_4_code 77 = .ok (.lconst 1, 1) := by decide +kernel
theorem d10_78 : decode method_4_code 78 = .ok (.lsub, 1) := by decide +kernel
theorem d10_79 : decode method_4_code 79 = .ok (.lstore 11, 2) := by decide +kernel
theorem d10_81 : decode method_4_code 81 = .ok (.lload 8, 2) := by decide +kernel
theorem d10_83 : decode method_4_code 83 = .ok (.ldc2_w 27, 3) := by decide +kernel
theorem d10_86 : decode method_4_code 86 = .ok (.lmul, 1) := by decide +kernel
theorem d10_87 : decode method_4_code 87 = .ok (.lload 8, 2) := by decide +kernel
theorem d10_89 : decode method_4_code 89 = .ok (.ldc2_w 7, 3) := by decide +kernel
theorem d10_92 : decode method_4_code 92 = .ok (.ldiv, 1) := by decide +kernel
theorem d10_93 : decode method_4_code 93 = .ok (.ladd, 1) := by decide +kernel
theorem d10_94 : decode method_4_code 94 = .ok (.lload 8, 2) := by decide +kernel
theorem d10_96 : decode method_4_code 96 = .ok (.ldc2_w 9, 3) := by decide +kernel
theorem d10_99 : decode method_4_code 99 = .ok (.ldiv, 1) := by decide +kernel
theorem d10_100 : decode method_4_code 100 = .ok (.lsub, 1) := by decide +kernel
theorem d10_101 : decode method_4_code 101 = .ok (.lload 11, 2) := by decide +kernel
theorem d10_103 : decode method_4_code 103 = .ok (.ladd, 1) := by decide +kernel
theorem d10_104 : decode method_4_code 104 = .ok (.lstore 13, 2) := by decide +kernel
theorem d10_106 : decode method_4_code 106 = .ok (.lload 6, 2) := by decide +kernel
theorem d10_108 : decode method_4_code 108 = .ok (.ldc2_w 29, 3) := by decide +kernel
theorem d10_111 : decode method_4_code 111 = .ok (.lmul, 1) := by decide +kernel
theorem d10_112 : decode method_4_code 112 = .ok (.lload 13, 2) := by decide +kernel
theorem d10_114 : decode method_4_code 114 = .ok (.ladd, 1) := by decide +kernel
theorem d10_115 : decode method_4_code 115 = .ok (.lreturn, 1) := by decide +kernel
def F10_39_0 (i2 : Int32) (i3 : Int32) (j4 : Int64) (j6 : Int64) : Int64 :=
  ((j6 * (146097 : Int64)) + (((((j4 - (j6 * (400 : Int64))) * (365 : Int64)) + ((j4 - (j6 * (400 : Int64))) / (4 : Int64))) - ((j4 - (j6 * (400 : Int64))) / (100 : Int64))) + ((((((153 : Int64) * (((i2 + (9 : Int32)) % (12 : Int32)).toInt64)) + (2 : Int64)) / (5 : Int64)) + (i3.toInt64)) - (1 : Int64))))
set_option maxRecDepth 65536 in
set_option maxHeartbeats 40000000 in
theorem pc10_39_0 {p : Program} {l : Launch} {e : Env} {s : State} {m : MethodId} {args : Array Value} {below : List Frame} {meth : Method} {c : Code} {T0 : State} {locs : List Loc} {Z : State} {a0 : Array Value} {h0 : Heap} {n0 : Nat} (j0 : Int64) (i2 : Int32) (i3 : Int32) (j4 : Int64) (j6 : Int64)
    (X0 : Stand p l e ({ frames := 0, cells := 0, slots := 0, locals := 0 } : Room) s m args below meth c T0 locs 0 0) (hx : p.tables.exec = Jvm.exec) (hZ : Z.Warmed39 s.vm) (hw : ∀ d ∈ tables_1, d.before a0 Z = true) (hby : c.code = method_4_code) (hml : c.maxLocals = 15) (hown : s.vm.findClass "com/example/notesmith/notesmith/calc/AccrualDaysPinLaw" = some m.cls) (hret : meth.sig.returnType = (some .long)) (hlocks : meth.locks = false) (e0 : T0.heap = h0) (N0 : Fr n0 locs) (Z0 : n0 ≤ h0.size)  :
    ∃ s₂ o, Steps p.tables e below (T0.setTop (mkF m 39 #[.val (.long j0), .second, .val (.int i2), .val (.int i3), .val (.long j4), .second, .val (.long j6), .second, .unset, .unset, .unset, .unset, .unset, .unset, .unset] [])) s₂ ∧ s₂.status = .running ∧ Ended s₂ below o ∧ ∃ v L, o = .returned v ∧ (v = some (.long (F10_39_0 i2 i3 j4 j6)) ∧ Fr n0 L ∧ s₂.heap = h0) ∧ FrameEnd s o s₂ L ({ frames := 0, cells := 0, slots := 0, locals := 0 } : Room).cells ({ frames := 0, cells := 0, slots := 0, locals := 0 } : Room).slots := by
  have pre0 : ∀ t, Steps p.tables e below (T0.setTop (mkF m 39 #[.val (.long j0), .second, .val (.int i2), .val (.int i3), .val (.long j4), .second, .val (.long j6), .second, .unset, .unset, .unset, .unset, .unset, .unset, .unset] [])) t → Steps p.tables e below (T0.setTop (mkF m 39 #[.val (.long j0), .second, .val (.int i2), .val (.int i3), .val (.long j4), .second, .val (.long j6), .second, .unset, .unset, .unset, .unset, .unset, .unset, .unset] [])) t := fun _ k => k
  have pre103 : ∀ t, Steps p.tables e below (T0.setTop (mkF m 115 #[.val (.long j0), .second, .val (.int i2), .val (.int i3), .val (.long j4), .second, .val (.long j6), .second, .val (.long (j4 - (j6 * (400 : Int64)))), .second, .val (.int ((i2 + (9 : Int32)) % (12 : Int32))), .val (.long ((((((153 : Int64) * (((i2 + (9 : Int32)) % (12 : Int32)).toInt64)) + (2 : Int64)) / (5 : Int64)) + (i3.toInt64)) - (1 : Int64))), .second, .val (.long (((((j4 - (j6 * (400 : Int64))) * (365 : Int64)) + ((j4 - (j6 * (400 : Int64))) / (4 : Int64))) - ((j4 - (j6 * (400 : Int64))) / (100 : Int64))) + ((((((153 : Int64) * (((i2 + (9 : Int32)) % (12 : Int32)).toInt64)) + (2 : Int64)) / (5 : Int64)) + (i3.toInt64)) - (1 : Int64)))), .second] [(.long ((j6 * (146097 : Int64)) + (((((j4 - (j6 * (400 : Int64))) * (365 : Int64)) + ((j4 - (j6 * (400 : Int64))) / (4 : Int64))) - ((j4 - (j6 * (400 : Int64))) / (100 : Int64))) + ((((((153 : Int64) * (((i2 + (9 : Int32)) % (12 : Int32)).toInt64)) + (2 : Int64)) / (5 : Int64)) + (i3.toInt64)) - (1 : Int64)))))])) t → Steps p.tables e below (T0.setTop (mkF m 39 #[.val (.long j0), .second, .val (.int i2), .val (.int i3), .val (.long j4), .second, .val (.long j6), .second, .unset, .unset, .unset, .unset, .unset, .unset, .unset] [])) t := by
    intro t k
    refine pre0 _ ?_
    show Steps p.tables e below (T0.setTop (mkF m 39 #[.val (.long j0), .second, .val (.int i2), .val (.int i3), .val (.long j4), .second, .val (.long j6), .second, .unset, .unset, .unset, .unset, .unset, .unset, .unset] [])) _
    refine XS.lload X0.here hx rfl (hb hby d10_39) rfl ?_
    show Steps p.tables e below (T0.setTop (mkF m 41 #[.val (.long j0), .second, .val (.int i2), .val (.int i3), .val (.long j4), .second, .val (.long j6), .second, .unset, .unset, .unset, .unset, .unset, .unset, .unset] [(.long j4)])) _
    refine XS.lload X0.here hx rfl (hb hby d10_41) rfl ?_
    show Steps p.tables e below (T0.setTop (mkF m 43 #[.val (.long j0), .second, .val (.int i2), .val (.int i3), .val (.long j4), .second, .val (.long j6), .second, .unset, .unset, .unset, .unset, .unset, .unset, .unset] [(.long j6), (.long j4)])) _
    refine X0.ldc2Long hx hown (mvT hZ (hw _ (List.mem_of_getElem? (i := 59) rfl))) (g := (mkF m 43 #[.val (.long j0), .second, .val (.int i2), .val (.int i3), .val (.long j4), .second, .val (.long j6), .second, .unset, .unset, .unset, .unset, .unset, .unset, .unset] [(.long j6), (.long j4)])) rfl (hb hby d10_43) _ ?_
    show Steps p.tables e below (T0.setTop (mkF m 46 #[.val (.long j0), .second, .val (.int i2), .val (.int i3), .val (.long j4), .second, .val (.long j6), .second, .unset, .unset, .unset, .unset, .unset, .unset, .unset] [(.long (400 : Int64)), (.long j6), (.long j4)])) _
    refine XS.lmul X0.here hx rfl (hb hby d10_46) rfl ?_
    show Steps p.tables e below (T0.setTop (mkF m 47 #[.val (.long j0), .second, .val (.int i2), .val (.int i3), .val (.long j4), .second, .val (.long j6), .second, .unset, .unset, .unset, .unset, .unset, .unset, .unset] [(.long (j6 * (400 : Int64))), (.long j4)])) _
    refine XS.lsub X0.here hx rfl (hb hby d10_47) rfl ?_
    show Steps p.tables e below (T0.setTop (mkF m 48 #[.val (.long j0), .second, .val (.int i2), .val (.int i3), .val (.long j4), .second, .val (.long j6), .second, .unset, .unset, .unset, .unset, .unset, .unset, .unset] [(.long (j4 - (j6 * (400 : Int64))))])) _
    refine XS.lstore X0.here hx rfl (hb hby d10_48) rfl (l' := #[.val (.long j0), .second, .val (.int i2), .val (.int i3), .val (.long j4), .second, .val (.long j6), .second, .val (.long (j4 - (j6 * (400 : Int64)))), .second, .unset, .unset, .unset, .unset, .unset]) rfl ?_
    show Steps p.tables e below (T0.setTop (mkF m 50 #[.val (.long j0), .second, .val (.int i2), .val (.int i3), .val (.long j4), .second, .val (.long j6), .second, .val (.long (j4 - (j6 * (400 : Int64)))), .second, .unset, .unset, .unset, .unset, .unset] [])) _
    refine XS.iloadN X0.here hx rfl (hb hby d10_50) rfl ?_
    show Steps p.tables e below (T0.setTop (mkF m 51 #[.val (.long j0), .second, .val (.int i2), .val (.int i3), .val (.long j4), .second, .val (.long j6), .second, .val (.long (j4 - (j6 * (400 : Int64)))), .second, .unset, .unset, .unset, .unset, .unset] [(.int i2)])) _
    refine XS.bipush X0.here hx rfl (hb hby d10_51) ?_
    show Steps p.tables e below (T0.setTop (mkF m 53 #[.val (.long j0), .second, .val (.int i2), .val (.int i3), .val (.long j4), .second, .val (.long j6), .second, .val (.long (j4 - (j6 * (400 : Int64)))), .second, .unset, .unset, .unset, .unset, .unset] [(.int (9 : Int32)), (.int i2)])) _
    refine XS.iadd X0.here hx rfl (hb hby d10_53) rfl ?_
    show Steps p.tables e below (T0.setTop (mkF m 54 #[.val (.long j0), .second, .val (.int i2), .val (.int i3), .val (.long j4), .second, .val (.long j6), .second, .val (.long (j4 - (j6 * (400 : Int64)))), .second, .unset, .unset, .unset, .unset, .unset] [(.int (i2 + (9 : Int32)))])) _
    refine XS.bipush X0.here hx rfl (hb hby d10_54) ?_
    show Steps p.tables e below (T0.setTop (mkF m 56 #[.val (.long j0), .second, .val (.int i2), .val (.int i3), .val (.long j4), .second, .val (.long j6), .second, .val (.long (j4 - (j6 * (400 : Int64)))), .second, .unset, .unset, .unset, .unset, .unset] [(.int (12 : Int32)), (.int (i2 + (9 : Int32)))])) _
    refine iremM X0 hx rfl (hb hby d10_56) rfl (by decide) ?_
    show Steps p.tables e below (T0.setTop (mkF m 57 #[.val (.long j0), .second, .val (.int i2), .val (.int i3), .val (.long j4), .second, .val (.long j6), .second, .val (.long (j4 - (j6 * (400 : Int64)))), .second, .unset, .unset, .unset, .unset, .unset] [(.int ((i2 + (9 : Int32)) % (12 : Int32)))])) _
    refine XS.istore X0.here hx rfl (hb hby d10_57) rfl (l' := #[.val (.long j0), .second, .val (.int i2), .val (.int i3), .val (.long j4), .second, .val (.long j6), .second, .val (.long (j4 - (j6 * (400 : Int64)))), .second, .val (.int ((i2 + (9 : Int32)) % (12 : Int32))), .unset, .unset, .unset, .unset]) rfl ?_
    show Steps p.tables e below (T0.setTop (mkF m 59 #[.val (.long j0), .second, .val (.int i2), .val (.int i3), .val (.long j4), .second, .val (.long j6), .second, .val (.long (j4 - (j6 * (400 : Int64)))), .second, .val (.int ((i2 + (9 : Int32)) % (12 : Int32))), .unset, .unset, .unset, .unset] [])) _
    refine X0.ldc2Long hx hown (mvT hZ (hw _ (List.mem_of_getElem? (i := 60) rfl))) (g := (mkF m 59 #[.val (.long j0), .second, .val (.int i2), .val (.int i3), .val (.long j4), .second, .val (.long j6), .second, .val (.long (j4 - (j6 * (400 : Int64)))), .second, .val (.int ((i2 + (9 : Int32)) % (12 : Int32))), .unset, .unset, .unset, .unset] [])) rfl (hb hby d10_59) _ ?_
    show Steps p.tables e below (T0.setTop (mkF m 62 #[.val (.long j0), .second, .val (.int i2), .val (.int i3), .val (.long j4), .second, .val (.long j6), .second, .val (.long (j4 - (j6 * (400 : Int64)))), .second, .val (.int ((i2 + (9 : Int32)) % (12 : Int32))), .unset, .unset, .unset, .unset] [(.long (153 : Int64))])) _
    refine XS.iload X0.here hx rfl (hb hby d10_62) rfl ?_
    show Steps p.tables e below (T0.setTop (mkF m 64 #[.val (.long j0), .second, .val (.int i2), .val (.int i3), .val (.long j4), .second, .val (.long j6), .second, .val (.long (j4 - (j6 * (400 : Int64)))), .second, .val (.int ((i2 + (9 : Int32)) % (12 : Int32))), .unset, .unset, .unset, .unset] [(.int ((i2 + (9 : Int32)) % (12 : Int32))), (.long (153 : Int64))])) _
    refine XS.i2l X0.here hx rfl (hb hby d10_64) rfl ?_
    show Steps p.tables e below (T0.setTop (mkF m 65 #[.val (.long j0), .second, .val (.int i2), .val (.int i3), .val (.long j4), .second, .val (.long j6), .second, .val (.long (j4 - (j6 * (400 : Int64)))), .second, .val (.int ((i2 + (9 : Int32)) % (12 : Int32))), .unset, .unset, .unset, .unset] [(.long (((i2 + (9 : Int32)) % (12 : Int32)).toInt64)), (.long (153 : Int64))])) _
    refine XS.lmul X0.here hx rfl (hb hby d10_65) rfl ?_
    show Steps p.tables e below (T0.setTop (mkF m 66 #[.val (.long j0), .second, .val (.int i2), .val (.int i3), .val (.long j4), .second, .val (.long j6), .second, .val (.long (j4 - (j6 * (400 : Int64)))), .second, .val (.int ((i2 + (9 : Int32)) % (12 : Int32))), .unset, .unset, .unset, .unset] [(.long ((153 : Int64) * (((i2 + (9 : Int32)) % (12 : Int32)).toInt64)))])) _
    refine X0.ldc2Long hx hown (mvT hZ (hw _ (List.mem_of_getElem? (i := 61) rfl))) (g := (mkF m 66 #[.val (.long j0), .second, .val (.int i2), .val (.int i3), .val (.long j4), .second, .val (.long j6), .second, .val (.long (j4 - (j6 * (400 : Int64)))), .second, .val (.int ((i2 + (9 : Int32)) % (12 : Int32))), .unset, .unset, .unset, .unset] [(.long ((153 : Int64) * (((i2 + (9 : Int32)) % (12 : Int32)).toInt64)))])) rfl (hb hby d10_66) _ ?_
    show Steps p.tables e below (T0.setTop (mkF m 69 #[.val (.long j0), .second, .val (.int i2), .val (.int i3), .val (.long j4), .second, .val (.long j6), .second, .val (.long (j4 - (j6 * (400 : Int64)))), .second, .val (.int ((i2 + (9 : Int32)) % (12 : Int32))), .unset, .unset, .unset, .unset] [(.long (2 : Int64)), (.long ((153 : Int64) * (((i2 + (9 : Int32)) % (12 : Int32)).toInt64)))])) _
    refine XS.ladd X0.here hx rfl (hb hby d10_69) rfl ?_
    show Steps p.tables e below (T0.setTop (mkF m 70 #[.val (.long j0), .second, .val (.int i2), .val (.int i3), .val (.long j4), .second, .val (.long j6), .second, .val (.long (j4 - (j6 * (400 : Int64)))), .second, .val (.int ((i2 + (9 : Int32)) % (12 : Int32))), .unset, .unset, .unset, .unset] [(.long (((153 : Int64) * (((i2 + (9 : Int32)) % (12 : Int32)).toInt64)) + (2 : Int64)))])) _
    refine X0.ldc2Long hx hown (mvT hZ (hw _ (List.mem_of_getElem? (i := 62) rfl))) (g := (mkF m 70 #[.val (.long j0), .second, .val (.int i2), .val (.int i3), .val (.long j4), .second, .val (.long j6), .second, .val (.long (j4 - (j6 * (400 : Int64)))), .second, .val (.int ((i2 + (9 : Int32)) % (12 : Int32))), .unset, .unset, .unset, .unset] [(.long (((153 : Int64) * (((i2 + (9 : Int32)) % (12 : Int32)).toInt64)) + (2 : Int64)))])) rfl (hb hby d10_70) _ ?_
    show Steps p.tables e below (T0.setTop (mkF m 73 #[.val (.long j0), .second, .val (.int i2), .val (.int i3), .val (.long j4), .second, .val (.long j6), .second, .val (.long (j4 - (j6 * (400 : Int64)))), .second, .val (.int ((i2 + (9 : Int32)) % (12 : Int32))), .unset, .unset, .unset, .unset] [(.long (5 : Int64)), (.long (((153 : Int64) * (((i2 + (9 : Int32)) % (12 : Int32)).toInt64)) + (2 : Int64)))])) _
    refine XS.ldiv X0.here hx rfl (hb hby d10_73) rfl (by decide) ?_
    show Steps p.tables e below (T0.setTop (mkF m 74 #[.val (.long j0), .second, .val (.int i2), .val (.int i3), .val (.long j4), .second, .val (.long j6), .second, .val (.long (j4 - (j6 * (400 : Int64)))), .second, .val (.int ((i2 + (9 : Int32)) % (12 : Int32))), .unset, .unset, .unset, .unset] [(.long ((((153 : Int64) * (((i2 + (9 : Int32)) % (12 : Int32)).toInt64)) + (2 : Int64)) / (5 : Int64)))])) _
    refine XS.iloadN X0.here hx rfl (hb hby d10_74) rfl ?_
    show Steps p.tables e below (T0.setTop (mkF m 75 #[.val (.long j0), .second, .val (.int i2), .val (.int i3), .val (.long j4), .second, .val (.long j6), .second, .val (.long (j4 - (j6 * (400 : Int64)))), .second, .val (.int ((i2 + (9 : Int32)) % (12 : Int32))), .unset, .unset, .unset, .unset] [(.int i3), (.long ((((153 : Int64) * (((i2 + (9 : Int32)) % (12 : Int32)).toInt64)) + (2 : Int64)) / (5 : Int64)))])) _
    refine XS.i2l X0.here hx rfl (hb hby d10_75) rfl ?_
    show Steps p.tables e below (T0.setTop (mkF m 76 #[.val (.long j0), .second, .val (.int i2), .val (.int i3), .val (.long j4), .second, .val (.long j6), .second, .val (.long (j4 - (j6 * (400 : Int64)))), .second, .val (.int ((i2 + (9 : Int32)) % (12 : Int32))), .unset, .unset, .unset, .unset] [(.long (i3.toInt64)), (.long ((((153 : Int64) * (((i2 + (9 : Int32)) % (12 : Int32)).toInt64)) + (2 : Int64)) / (5 : Int64)))])) _
    refine XS.ladd X0.here hx rfl (hb hby d10_76) rfl ?_
    show Steps p.tables e below (T0.setTop (mkF m 77 #[.val (.long j0), .second, .val (.int i2), .val (.int i3), .val (.long j4), .second, .val (.long j6), .second, .val (.long (j4 - (j6 * (400 : Int64)))), .second, .val (.int ((i2 + (9 : Int32)) % (12 : Int32))), .unset, .unset, .unset, .unset] [(.long (((((153 : Int64) * (((i2 + (9 : Int32)) % (12 : Int32)).toInt64)) + (2 : Int64)) / (5 : Int64)) + (i3.toInt64)))])) _
    refine XS.lconst X0.here hx rfl (hb hby d10_77) ?_
    show Steps p.tables e below (T0.setTop (mkF m 78 #[.val (.long j0), .second, .val (.int i2), .val (.int i3), .val (.long j4), .second, .val (.long j6), .second, .val (.long (j4 - (j6 * (400 : Int64)))), .second, .val (.int ((i2 + (9 : Int32)) % (12 : Int32))), .unset, .unset, .unset, .unset] [(.long (1 : Int64)), (.long (((((153 : Int64) * (((i2 + (9 : Int32)) % (12 : Int32)).toInt64)) + (2 : Int64)) / (5 : Int64)) + (i3.toInt64)))])) _
    refine XS.lsub X0.here hx rfl (hb hby d10_78) rfl ?_
    show Steps p.tables e below (T0.setTop (mkF m 79 #[.val (.long j0), .second, .val (.int i2), .val (.int i3), .val (.long j4), .second, .val (.long j6), .second, .val (.long (j4 - (j6 * (400 : Int64)))), .second, .val (.int ((i2 + (9 : Int32)) % (12 : Int32))), .unset, .unset, .unset, .unset] [(.long ((((((153 : Int64) * (((i2 + (9 : Int32)) % (12 : Int32)).toInt64)) + (2 : Int64)) / (5 : Int64)) + (i3.toInt64)) - (1 : Int64)))])) _
    refine XS.lstore X0.here hx rfl (hb hby d10_79) rfl (l' := #[.val (.long j0), .second, .val (.int i2), .val (.int i3), .val (.long j4), .second, .val (.long j6), .second, .val (.long (j4 - (j6 * (400 : Int64)))), .second, .val (.int ((i2 + (9 : Int32)) % (12 : Int32))), .val (.long ((((((153 : Int64) * (((i2 + (9 : Int32)) % (12 : Int32)).toInt64)) + (2 : Int64)) / (5 : Int64)) + (i3.toInt64)) - (1 : Int64))), .second, .unset, .unset]) rfl ?_
    show Steps p.tables e below (T0.setTop (mkF m 81 #[.val (.long j0), .second, .val (.int i2), .val (.int i3), .val (.long j4), .second, .val (.long j6), .second, .val (.long (j4 - (j6 * (400 : Int64)))), .second, .val (.int ((i2 + (9 : Int32)) % (12 : Int32))), .val (.long ((((((153 : Int64) * (((i2 + (9 : Int32)) % (12 : Int32)).toInt64)) + (2 : Int64)) / (5 : Int64)) + (i3.toInt64)) - (1 : Int64))), .second, .unset, .unset] [])) _
    refine XS.lload X0.here hx rfl (hb hby d10_81) rfl ?_
    show Steps p.tables e below (T0.setTop (mkF m 83 #[.val (.long j0), .second, .val (.int i2), .val (.int i3), .val (.long j4), .second, .val (.long j6), .second, .val (.long (j4 - (j6 * (400 : Int64)))), .second, .val (.int ((i2 + (9 : Int32)) % (12 : Int32))), .val (.long ((((((153 : Int64) * (((i2 + (9 : Int32)) % (12 : Int32)).toInt64)) + (2 : Int64)) / (5 : Int64)) + (i3.toInt64)) - (1 : Int64))), .second, .unset, .unset] [(.long (j4 - (j6 * (400 : Int64))))])) _
    refine X0.ldc2Long hx hown (mvT hZ (hw _ (List.mem_of_getElem? (i := 63) rfl))) (g := (mkF m 83 #[.val (.long j0), .second, .val (.int i2), .val (.int i3), .val (.long j4), .second, .val (.long j6), .second, .val (.long (j4 - (j6 * (400 : Int64)))), .second, .val (.int ((i2 + (9 : Int32)) % (12 : Int32))), .val (.long ((((((153 : Int64) * (((i2 + (9 : Int32)) % (12 : Int32)).toInt64)) + (2 : Int64)) / (5 : Int64)) + (i3.toInt64)) - (1 : Int64))), .second, .unset, .unset] [(.long (j4 - (j6 * (400 : Int64))))])) rfl (hb hby d10_83) _ ?_
    show Steps p.tables e below (T0.setTop (mkF m 86 #[.val (.long j0), .second, .val (.int i2), .val (.int i3), .val (.long j4), .second, .val (.long j6), .second, .val (.long (j4 - (j6 * (400 : Int64)))), .second, .val (.int ((i2 + (9 : Int32)) % (12 : Int32))), .val (.long ((((((153 : Int64) * (((i2 + (9 : Int32)) % (12 : Int32)).toInt64)) + (2 : Int64)) / (5 : Int64)) + (i3.toInt64)) - (1 : Int64))), .second, .unset, .unset] [(.long (365 : Int64)), (.long (j4 - (j6 * (400 : Int64))))])) _
    refine XS.lmul X0.here hx rfl (hb hby d10_86) rfl ?_
    show Steps p.tables e below (T0.setTop (mkF m 87 #[.val (.long j0), .second, .val (.int i2), .val (.int i3), .val (.long j4), .second, .val (.long j6), .second, .val (.long (j4 - (j6 * (400 : Int64)))), .second, .val (.int ((i2 + (9 : Int32)) % (12 : Int32))), .val (.long ((((((153 : Int64) * (((i2 + (9 : Int32)) % (12 : Int32)).toInt64)) + (2 : Int64)) / (5 : Int64)) + (i3.toInt64)) - (1 : Int64))), .second, .unset, .unset] [(.long ((j4 - (j6 * (400 : Int64))) * (365 : Int64)))])) _
    refine XS.lload X0.here hx rfl (hb hby d10_87) rfl ?_
    show Steps p.tables e below (T0.setTop (mkF m 89 #[.val (.long j0), .second, .val (.int i2), .val (.int i3), .val (.long j4), .second, .val (.long j6), .second, .val (.long (j4 - (j6 * (400 : Int64)))), .second, .val (.int ((i2 + (9 : Int32)) % (12 : Int32))), .val (.long ((((((153 : Int64) * (((i2 + (9 : Int32)) % (12 : Int32)).toInt64)) + (2 : Int64)) / (5 : Int64)) + (i3.toInt64)) - (1 : Int64))), .second, .unset, .unset] [(.long (j4 - (j6 * (400 : Int64)))), (.long ((j4 - (j6 * (400 : Int64))) * (365 : Int64)))])) _
    refine X0.ldc2Long hx hown (mvT hZ (hw _ (List.mem_of_getElem? (i := 64) rfl))) (g := (mkF m 89 #[.val (.long j0), .second, .val (.int i2), .val (.int i3), .val (.long j4), .second, .val (.long j6), .second, .val (.long (j4 - (j6 * (400 : Int64)))), .second, .val (.int ((i2 + (9 : Int32)) % (12 : Int32))), .val (.long ((((((153 : Int64) * (((i2 + (9 : Int32)) % (12 : Int32)).toInt64)) + (2 : Int64)) / (5 : Int64)) + (i3.toInt64)) - (1 : Int64))), .second, .unset, .unset] [(.long (j4 - (j6 * (400 : Int64)))), (.long ((j4 - (j6 * (400 : Int64))) * (365 : Int64)))])) rfl (hb hby d10_89) _ ?_
    show Steps p.tables e below (T0.setTop (mkF m 92 #[.val (.long j0), .second, .val (.int i2), .val (.int i3), .val (.long j4), .second, .val (.long j6), .second, .val (.long (j4 - (j6 * (400 : Int64)))), .second, .val (.int ((i2 + (9 : Int32)) % (12 : Int32))), .val (.long ((((((153 : Int64) * (((i2 + (9 : Int32)) % (12 : Int32)).toInt64)) + (2 : Int64)) / (5 : Int64)) + (i3.toInt64)) - (1 : Int64))), .second, .unset, .unset] [(.long (4 : Int64)), (.long (j4 - (j6 * (400 : Int64)))), (.long ((j4 - (j6 * (400 : Int64))) * (365 : Int64)))])) _
    refine XS.ldiv X0.here hx rfl (hb hby d10_92) rfl (by decide) ?_
    show Steps p.tables e below (T0.setTop (mkF m 93 #[.val (.long j0), .second, .val (.int i2), .val (.int i3), .val (.long j4), .second, .val (.long j6), .second, .val (.long (j4 - (j6 * (400 : Int64)))), .second, .val (.int ((i2 + (9 : Int32)) % (12 : Int32))), .val (.long ((((((153 : Int64) * (((i2 + (9 : Int32)) % (12 : Int32)).toInt64)) + (2 : Int64)) / (5 : Int64)) + (i3.toInt64)) - (1 : Int64))), .second, .unset, .unset] [(.long ((j4 - (j6 * (400 : Int64))) / (4 : Int64))), (.long ((j4 - (j6 * (400 : Int64))) * (365 : Int64)))])) _
    refine XS.ladd X0.here hx rfl (hb hby d10_93) rfl ?_
    show Steps p.tables e below (T0.setTop (mkF m 94 #[.val (.long j0), .second, .val (.int i2), .val (.int i3), .val (.long j4), .second, .val (.long j6), .second, .val (.long (j4 - (j6 * (400 : Int64)))), .second, .val (.int ((i2 + (9 : Int32)) % (12 : Int32))), .val (.long ((((((153 : Int64) * (((i2 + (9 : Int32)) % (12 : Int32)).toInt64)) + (2 : Int64)) / (5 : Int64)) + (i3.toInt64)) - (1 : Int64))), .second, .unset, .unset] [(.long (((j4 - (j6 * (400 : Int64))) * (365 : Int64)) + ((j4 - (j6 * (400 : Int64))) / (4 : Int64))))])) _
    refine XS.lload X0.here hx rfl (hb hby d10_94) rfl ?_
    show Steps p.tables e below (T0.setTop (mkF m 96 #[.val (.long j0), .second, .val (.int i2), .val (.int i3), .val (.long j4), .second, .val (.long j6), .second, .val (.long (j4 - (j6 * (400 : Int64)))), .second, .val (.int ((i2 + (9 : Int32)) % (12 : Int32))), .val (.long ((((((153 : Int64) * (((i2 + (9 : Int32)) % (12 : Int32)).toInt64)) + (2 : Int64)) / (5 : Int64)) + (i3.toInt64)) - (1 : Int64))), .second, .unset, .unset] [(.long (j4 - (j6 * (400 : Int64)))), (.long (((j4 - (j6 * (400 : Int64))) * (365 : Int64)) + ((j4 - (j6 * (400 : Int64))) / (4 : Int64))))])) _
    refine X0.ldc2Long hx hown (mvT hZ (hw _ (List.mem_of_getElem? (i := 65) rfl))) (g := (mkF m 96 #[.val (.long j0), .second, .val (.int i2), .val (.int i3), .val (.long j4), .second, .val (.long j6), .second, .val (.long (j4 - (j6 * (400 : Int64)))), .second, .val (.int ((i2 + (9 : Int32)) % (12 : Int32))), .val (.long ((((((153 : Int64) * (((i2 + (9 : Int32)) % (12 : Int32)).toInt64)) + (2 : Int64)) / (5 : Int64)) + (i3.toInt64)) - (1 : Int64))), .second, .unset, .unset] [(.long (j4 - (j6 * (400 : Int64)))), (.long (((j4 - (j6 * (400 : Int64))) * (365 : Int64)) + ((j4 - (j6 * (400 : Int64))) / (4 : Int64))))])) rfl (hb hby d10_96) _ ?_
    show Steps p.tables e below (T0.setTop (mkF m 99 #[.val (.long j0), .second, .val (.int i2), .val (.int i3), .val (.long j4), .second, .val (.long j6), .second, .val (.long (j4 - (j6 * (400 : Int64)))), .second, .val (.int ((i2 + (9 : Int32)) % (12 : Int32))), .val (.long ((((((153 : Int64) * (((i2 + (9 : Int32)) % (12 : Int32)).toInt64)) + (2 : Int64)) / (5 : Int64)) + (i3.toInt64)) - (1 : Int64))), .second, .unset, .unset] [(.long (100 : Int64)), (.long (j4 - (j6 * (400 : Int64)))), (.long (((j4 - (j6 * (400 : Int64))) * (365 : Int64)) + ((j4 - (j6 * (400 : Int64))) / (4 : Int64))))])) _
    refine XS.ldiv X0.here hx rfl (hb hby d10_99) rfl (by decide) ?_
    show Steps p.tables e below (T0.setTop (mkF m 100 #[.val (.long j0), .second, .val (.int i2), .val (.int i3), .val (.long j4), .second, .val (.long j6), .second, .val (.long (j4 - (j6 * (400 : Int64)))), .second, .val (.int ((i2 + (9 : Int32)) % (12 : Int32))), .val (.long ((((((153 : Int64) * (((i2 + (9 : Int32)) % (12 : Int32)).toInt64)) + (2 : Int64)) / (5 : Int64)) + (i3.toInt64)) - (1 : Int64))), .second, .unset, .unset] [(.long ((j4 - (j6 * (400 : Int64))) / (100 : Int64))), (.long (((j4 - (j6 * (400 : Int64))) * (365 : Int64)) + ((j4 - (j6 * (400 : Int64))) / (4 : Int64))))])) _
    refine XS.lsub X0.here hx rfl (hb hby d10_100) rfl ?_
    show Steps p.tables e below (T0.setTop (mkF m 101 #[.val (.long j0), .second, .val (.int i2), .val (.int i3), .val (.long j4), .second, .val (.long j6), .second, .val (.long (j4 - (j6 * (400 : Int64)))), .second, .val (.int ((i2 + (9 : Int32)) % (12 : Int32))), .val (.long ((((((153 : Int64) * (((i2 + (9 : Int32)) % (12 : Int32)).toInt64)) + (2 : Int64)) / (5 : Int64)) + (i3.toInt64)) - (1 : Int64))), .second, .unset, .unset] [(.long ((((j4 - (j6 * (400 : Int64))) * (365 : Int64)) + ((j4 - (j6 * (400 : Int64))) / (4 : Int64))) - ((j4 - (j6 * (400 : Int64))) / (100 : Int64))))])) _
    refine XS.lload X0.here hx rfl (hb hby d10_101) rfl ?_
    show Steps p.tables e below (T0.setTop (mkF m 103 #[.val (.long j0), .second, .val (.int i2), .val (.int i3), .val (.long j4), .second, .val (.long j6), .second, .val (.long (j4 - (j6 * (400 : Int64)))), .second, .val (.int ((i2 + (9 : Int32)) % (12 : Int32))), .val (.long ((((((153 : Int64) * (((i2 + (9 : Int32)) % (12 : Int32)).toInt64)) + (2 : Int64)) / (5 : Int64)) + (i3.toInt64)) - (1 : Int64))), .second, .unset, .unset] [(.long ((((((153 : Int64) * (((i2 + (9 : Int32)) % (12 : Int32)).toInt64)) + (2 : Int64)) / (5 : Int64)) + (i3.toInt64)) - (1 : Int64))), (.long ((((j4 - (j6 * (400 : Int64))) * (365 : Int64)) + ((j4 - (j6 * (400 : Int64))) / (4 : Int64))) - ((j4 - (j6 * (400 : Int64))) / (100 : Int64))))])) _
    refine XS.ladd X0.here hx rfl (hb hby d10_103) rfl ?_
    show Steps p.tables e below (T0.setTop (mkF m 104 #[.val (.long j0), .second, .val (.int i2), .val (.int i3), .val (.long j4), .second, .val (.long j6), .second, .val (.long (j4 - (j6 * (400 : Int64)))), .second, .val (.int ((i2 + (9 : Int32)) % (12 : Int32))), .val (.long ((((((153 : Int64) * (((i2 + (9 : Int32)) % (12 : Int32)).toInt64)) + (2 : Int64)) / (5 : Int64)) + (i3.toInt64)) - (1 : Int64))), .second, .unset, .unset] [(.long (((((j4 - (j6 * (400 : Int64))) * (365 : Int64)) + ((j4 - (j6 * (400 : Int64))) / (4 : Int64))) - ((j4 - (j6 * (400 : Int64))) / (100 : Int64))) + ((((((153 : Int64) * (((i2 + (9 : Int32)) % (12 : Int32)).toInt64)) + (2 : Int64)) / (5 : Int64)) + (i3.toInt64)) - (1 : Int64))))])) _
    refine XS.lstore X0.here hx rfl (hb hby d10_104) rfl (l' := #[.val (.long j0), .second, .val (.int i2), .val (.int i3), .val (.long j4), .second, .val (.long j6), .second, .val (.long (j4 - (j6 * (400 : Int64)))), .second, .val (.int ((i2 + (9 : Int32)) % (12 : Int32))), .val (.long ((((((153 : Int64) * (((i2 + (9 : Int32)) % (12 : Int32)).toInt64)) + (2 : Int64)) / (5 : Int64)) + (i3.toInt64)) - (1 : Int64))), .second, .val (.long (((((j4 - (j6 * (400 : Int64))) * (365 : Int64)) + ((j4 - (j6 * (400 : Int64))) / (4 : Int64))) - ((j4 - (j6 * (400 : Int64))) / (100 : Int64))) + ((((((153 : Int64) * (((i2 + (9 : Int32)) % (12 : Int32)).toInt64)) + (2 : Int64)) / (5 : Int64)) + (i3.toInt64)) - (1 : Int64)))), .second]) rfl ?_
    show Steps p.tables e below (T0.setTop (mkF m 106 #[.val (.long j0), .second, .val (.int i2), .val (.int i3), .val (.long j4), .second, .val (.long j6), .second, .val (.long (j4 - (j6 * (400 : Int64)))), .second, .val (.int ((i2 + (9 : Int32)) % (12 : Int32))), .val (.long ((((((153 : Int64) * (((i2 + (9 : Int32)) % (12 : Int32)).toInt64)) + (2 : Int64)) / (5 : Int64)) + (i3.toInt64)) - (1 : Int64))), .second, .val (.long (((((j4 - (j6 * (400 : Int64))) * (365 : Int64)) + ((j4 - (j6 * (400 : Int64))) / (4 : Int64))) - ((j4 - (j6 * (400 : Int64))) / (100 : Int64))) + ((((((153 : Int64) * (((i2 + (9 : Int32)) % (12 : Int32)).toInt64)) + (2 : Int64)) / (5 : Int64)) + (i3.toInt64)) - (1 : Int64)))), .second] [])) _
    refine XS.lload X0.here hx rfl (hb hby d10_106) rfl ?_
    show Steps p.tables e below (T0.setTop (mkF m 108 #[.val (.long j0), .second, .val (.int i2), .val (.int i3), .val (.long j4), .second, .val (.long j6), .second, .val (.long (j4 - (j6 * (400 : Int64)))), .second, .val (.int ((i2 + (9 : Int32)) % (12 : Int32))), .val (.long ((((((153 : Int64) * (((i2 + (9 : Int32)) % (12 : Int32)).toInt64)) + (2 : Int64)) / (5 : Int64)) + (i3.toInt64)) - (1 : Int64))), .second, .val (.long (((((j4 - (j6 * (400 : Int64))) * (365 : Int64)) + ((j4 - (j6 * (400 : Int64))) / (4 : Int64))) - ((j4 - (j6 * (400 : Int64))) / (100 : Int64))) + ((((((153 : Int64) * (((i2 + (9 : Int32)) % (12 : Int32)).toInt64)) + (2 : Int64)) / (5 : Int64)) + (i3.toInt64)) - (1 : Int64)))), .second] [(.long j6)])) _
    refine X0.ldc2Long hx hown (mvT hZ (hw _ (List.mem_of_getElem? (i := 66) rfl))) (g := (mkF m 108 #[.val (.long j0), .second, .val (.int i2), .val (.int i3), .val (.long j4), .second, .val (.long j6), .second, .val (.long (j4 - (j6 * (400 : Int64)))), .second, .val (.int ((i2 + (9 : Int32)) % (12 : Int32))), .val (.long ((((((153 : Int64) * (((i2 + (9 : Int32)) % (12 : Int32)).toInt64)) + (2 : Int64)) / (5 : Int64)) + (i3.toInt64)) - (1 : Int64))), .second, .val (.long (((((j4 - (j6 * (400 : Int64))) * (365 : Int64)) + ((j4 - (j6 * (400 : Int64))) / (4 : Int64))) - ((j4 - (j6 * (400 : Int64))) / (100 : Int64))) + ((((((153 : Int64) * (((i2 + (9 : Int32)) % (12 : Int32)).toInt64)) + (2 : Int64)) / (5 : Int64)) + (i3.toInt64)) - (1 : Int64)))), .second] [(.long j6)])) rfl (hb hby d10_108) _ ?_
    show Steps p.tables e below (T0.setTop (mkF m 111 #[.val (.long j0), .second, .val (.int i2), .val (.int i3), .val (.long j4), .second, .val (.long j6), .second, .val (.long (j4 - (j6 * (400 : Int64)))), .second, .val (.int ((i2 + (9 : Int32)) % (12 : Int32))), .val (.long ((((((153 : Int64) * (((i2 + (9 : Int32)) % (12 : Int32)).toInt64)) + (2 : Int64)) / (5 : Int64)) + (i3.toInt64)) - (1 : Int64))), .second, .val (.long (((((j4 - (j6 * (400 : Int64))) * (365 : Int64)) + ((j4 - (j6 * (400 : Int64))) / (4 : Int64))) - ((j4 - (j6 * (400 : Int64))) / (100 : Int64))) + ((((((153 : Int64) * (((i2 + (9 : Int32)) % (12 : Int32)).toInt64)) + (2 : Int64)) / (5 : Int64)) + (i3.toInt64)) - (1 : Int64)))), .second] [(.long (146097 : Int64)), (.long j6)])) _
    refine XS.lmul X0.here hx rfl (hb hby d10_111) rfl ?_
    show Steps p.tables e below (T0.setTop (mkF m 112 #[.val (.long j0), .second, .val (.int i2), .val (.int i3), .val (.long j4), .second, .val (.long j6), .second, .val (.long (j4 - (j6 * (400 : Int64)))), .second, .val (.int ((i2 + (9 : Int32)) % (12 : Int32))), .val (.long ((((((153 : Int64) * (((i2 + (9 : Int32)) % (12 : Int32)).toInt64)) + (2 : Int64)) / (5 : Int64)) + (i3.toInt64)) - (1 : Int64))), .second, .val (.long (((((j4 - (j6 * (400 : Int64))) * (365 : Int64)) + ((j4 - (j6 * (400 : Int64))) / (4 : Int64))) - ((j4 - (j6 * (400 : Int64))) / (100 : Int64))) + ((((((153 : Int64) * (((i2 + (9 : Int32)) % (12 : Int32)).toInt64)) + (2 : Int64)) / (5 : Int64)) + (i3.toInt64)) - (1 : Int64)))), .second] [(.long (j6 * (146097 : Int64)))])) _
    refine XS.lload X0.here hx rfl (hb hby d10_112) rfl ?_
    show Steps p.tables e below (T0.setTop (mkF m 114 #[.val (.long j0), .second, .val (.int i2), .val (.int i3), .val (.long j4), .second, .val (.long j6), .second, .val (.long (j4 - (j6 * (400 : Int64)))), .second, .val (.int ((i2 + (9 : Int32)) % (12 : Int32))), .val (.long ((((((153 : Int64) * (((i2 + (9 : Int32)) % (12 : Int32)).toInt64)) + (2 : Int64)) / (5 : Int64)) + (i3.toInt64)) - (1 : Int64))), .second, .val (.long (((((j4 - (j6 * (400 : Int64))) * (365 : Int64)) + ((j4 - (j6 * (400 : Int64))) / (4 : Int64))) - ((j4 - (j6 * (400 : Int64))) / (100 : Int64))) + ((((((153 : Int64) * (((i2 + (9 : Int32)) % (12 : Int32)).toInt64)) + (2 : Int64)) / (5 : Int64)) + (i3.toInt64)) - (1 : Int64)))), .second] [(.long (((((j4 - (j6 * (400 : Int64))) * (365 : Int64)) + ((j4 - (j6 * (400 : Int64))) / (4 : Int64))) - ((j4 - (j6 * (400 : Int64))) / (100 : Int64))) + ((((((153 : Int64) * (((i2 + (9 : Int32)) % (12 : Int32)).toInt64)) + (2 : Int64)) / (5 : Int64)) + (i3.toInt64)) - (1 : Int64)))), (.long (j6 * (146097 : Int64)))])) _
    refine XS.ladd X0.here hx rfl (hb hby d10_114) rfl ?_
    exact k
  obtain ⟨fs, hr, hrun, hended, hW, hsame⟩ := X0.leave (v := some (.long ((j6 * (146097 : Int64)) + (((((j4 - (j6 * (400 : Int64))) * (365 : Int64)) + ((j4 - (j6 * (400 : Int64))) / (4 : Int64))) - ((j4 - (j6 * (400 : Int64))) / (100 : Int64))) + ((((((153 : Int64) * (((i2 + (9 : Int32)) % (12 : Int32)).toInt64)) + (2 : Int64)) / (5 : Int64)) + (i3.toInt64)) - (1 : Int64)))))) (fun h => by rw [hret] at h; cases h) (hlocks := hlocks)
  refine ⟨_, _, pre103 _ ?_, hrun, hended, _, _, rfl, ?_, ⟨_, rfl⟩, hW, hsame.mono (by decide) (by decide)⟩
  · show Steps p.tables e below (T0.setTop (mkF m 115 #[.val (.long j0), .second, .val (.int i2), .val (.int i3), .val (.long j4), .second, .val (.long j6), .second, .val (.long (j4 - (j6 * (400 : Int64)))), .second, .val (.int ((i2 + (9 : Int32)) % (12 : Int32))), .val (.long ((((((153 : Int64) * (((i2 + (9 : Int32)) % (12 : Int32)).toInt64)) + (2 : Int64)) / (5 : Int64)) + (i3.toInt64)) - (1 : Int64))), .second, .val (.long (((((j4 - (j6 * (400 : Int64))) * (365 : Int64)) + ((j4 - (j6 * (400 : Int64))) / (4 : Int64))) - ((j4 - (j6 * (400 : Int64))) / (100 : Int64))) + ((((((153 : Int64) * (((i2 + (9 : Int32)) % (12 : Int32)).toInt64)) + (2 : Int64)) / (5 : Int64)) + (i3.toInt64)) - (1 : Int64)))), .second] [(.long ((j6 * (146097 : Int64)) + (((((j4 - (j6 * (400 : Int64))) * (365 : Int64)) + ((j4 - (j6 * (400 : Int64))) / (4 : Int64))) - ((j4 - (j6 * (400 : Int64))) / (100 : Int64))) + ((((((153 : Int64) * (((i2 + (9 : Int32)) % (12 : Int32)).toInt64)) + (2 : Int64)) / (5 : Int64)) + (i3.toInt64)) - (1 : Int64)))))])) _
    exact Jvm.RoadKit.retOut X0 hx hret rfl (Or.inr (Or.inl ⟨rfl, rfl, _, rfl⟩)) (hb hby d10_115) hr
  · exact ⟨(by rw [F10_39_0]), N0, e0⟩
theorem d10_15 : decode method_4_code 15 = .ok (.lload 4, 2) := by decide +kernel
theorem d10_17 : decode method_4_code 17 = .ok (.lconst 0, 1) := by decide +kernel
theorem d10_18 : decode method_4_code 18 = .ok (.lcmp, 1) := by decide +kernel
theorem d10_19 : decode method_4_code 19 = .ok (.ifCond .lt 8, 3) := by decide +kernel
theorem d10_27 : decode method_4_code 27 = .ok (.lload 4, 2) := by decide +kernel
theorem d10_29 : decode method_4_code 29 = .ok (.ldc2_w 19, 3) := by decide +kernel
theorem d10_32 : decode method_4_code 32 = .ok (.lsub, 1) := by decide +kernel
theorem d10_33 : decode method_4_code 33 = .ok (.ldc2_w 11, 3) := by decide +kernel
theorem d10_36 : decode method_4_code 36 = .ok (.ldiv, 1) := by decide +kernel
theorem d10_37 : decode method_4_code 37 = .ok (.lstore 6, 2) := by decide +kernel
theorem d10_22 : decode method_4_code 22 = .ok (.lload 4, 2) := by decide +kernel
theorem d10_24 : decode method_4_code 24 = .ok (.goto 9, 3) := by decide +kernel
def F10_15_0 (i2 : Int32) (i3 : Int32) (j4 : Int64) : Int64 :=
  if (lcmpW j4 (0 : Int64)) < (0 : Int32) then (  (F10_39_0 i2 i3 j4 ((j4 - (399 : Int64)) / (400 : Int64))))
  else (  (F10_39_0 i2 i3 j4 (j4 / (400 : Int64))))
set_option maxRecDepth 65536 in
set_option maxHeartbeats 40000000 in
theorem pc10_15_0 {p : Program} {l : Launch} {e : Env} {s : State} {m : MethodId} {args : Array Value} {below : List Frame} {meth : Method} {c : Code} {T0 : State} {locs : List Loc} {Z : State} {a0 : Array Value} {h0 : Heap} {n0 : Nat} (j0 : Int64) (i2 : Int32) (i3 : Int32) (j4 : Int64)
    (X0 : Stand p l e ({ frames := 0, cells := 0, slots := 0, locals := 0 } : Room) s m args below meth c T0 locs 0 0) (hx : p.tables.exec = Jvm.exec) (hZ : Z.Warmed39 s.vm) (hw : ∀ d ∈ tables_1, d.before a0 Z = true) (hby : c.code = method_4_code) (hml : c.maxLocals = 15) (hown : s.vm.findClass "com/example/notesmith/notesmith/calc/AccrualDaysPinLaw" = some m.cls) (hret : meth.sig.returnType = (some .long)) (hlocks : meth.locks = false) (e0 : T0.heap = h0) (N0 : Fr n0 locs) (Z0 : n0 ≤ h0.size)  :
    ∃ s₂ o, Steps p.tables e below (T0.setTop (mkF m 15 #[.val (.long j0), .second, .val (.int i2), .val (.int i3), .val (.long j4), .second, .unset, .unset, .unset, .unset, .unset, .unset, .unset, .unset, .unset] [])) s₂ ∧ s₂.status = .running ∧ Ended s₂ below o ∧ ∃ v L, o = .returned v ∧ (v = some (.long (F10_15_0 i2 i3 j4)) ∧ Fr n0 L ∧ s₂.heap = h0) ∧ FrameEnd s o s₂ L ({ frames := 0, cells := 0, slots := 0, locals := 0 } : Room).cells ({ frames := 0, cells := 0, slots := 0, locals := 0 } : Room).slots := by
  have pre0 : ∀ t, Steps p.tables e below (T0.setTop (mkF m 15 #[.val (.long j0), .second, .val (.int i2), .val (.int i3), .val (.long j4), .second, .unset, .unset, .unset, .unset, .unset, .unset, .unset, .unset, .unset] [])) t → Steps p.tables e below (T0.setTop (mkF m 15 #[.val (.long j0), .second, .val (.int i2), .val (.int i3), .val (.long j4), .second, .unset, .unset, .unset, .unset, .unset, .unset, .unset, .unset, .unset] [])) t := fun _ k => k
  have pre99 : ∀ t, Steps p.tables e below (T0.setTop (mkF m 19 #[.val (.long j0), .second, .val (.int i2), .val (.int i3), .val (.long j4), .second, .unset, .unset, .unset, .unset, .unset, .unset, .unset, .unset, .unset] [(.int (lcmpW j4 (0 : Int64)))])) t → Steps p.tables e below (T0.setTop (mkF m 15 #[.val (.long j0), .second, .val (.int i2), .val (.int i3), .val (.long j4), .second, .unset, .unset, .unset, .unset, .unset, .unset, .unset, .unset, .unset] [])) t := by
    intro t k
    refine pre0 _ ?_
    show Steps p.tables e below (T0.setTop (mkF m 15 #[.val (.long j0), .second, .val (.int i2), .val (.int i3), .val (.long j4), .second, .unset, .unset, .unset, .unset, .unset, .unset, .unset, .unset, .unset] [])) _
    refine XS.lload X0.here hx rfl (hb hby d10_15) rfl ?_
    show Steps p.tables e below (T0.setTop (mkF m 17 #[.val (.long j0), .second, .val (.int i2), .val (.int i3), .val (.long j4), .second, .unset, .unset, .unset, .unset, .unset, .unset, .unset, .unset, .unset] [(.long j4)])) _
    refine XS.lconst X0.here hx rfl (hb hby d10_17) ?_
    show Steps p.tables e below (T0.setTop (mkF m 18 #[.val (.long j0), .second, .val (.int i2), .val (.int i3), .val (.long j4), .second, .unset, .unset, .unset, .unset, .unset, .unset, .unset, .unset, .unset] [(.long (0 : Int64)), (.long j4)])) _
    refine XS.lcmp X0.here hx rfl (hb hby d10_18) rfl ?_
    exact k
  by_cases hc100 : (lcmpW j4 (0 : Int64)) < (0 : Int32)
  · have pre101 : ∀ t, Steps p.tables e below (T0.setTop (mkF m 27 #[.val (.long j0), .second, .val (.int i2), .val (.int i3), .val (.long j4), .second, .unset, .unset, .unset, .unset, .unset, .unset, .unset, .unset, .unset] [])) t → Steps p.tables e below (T0.setTop (mkF m 15 #[.val (.long j0), .second, .val (.int i2), .val (.int i3), .val (.long j4), .second, .unset, .unset, .unset, .unset, .unset, .unset, .unset, .unset, .unset] [])) t := by
      intro t k
      refine pre99 _ ?_
      show Steps p.tables e below (T0.setTop (mkF m 19 #[.val (.long j0), .second, .val (.int i2), .val (.int i3), .val (.long j4), .second, .unset, .unset, .unset, .unset, .unset, .unset, .unset, .unset, .unset] [(.int (lcmpW j4 (0 : Int64)))])) _
      refine XS.ifYes X0.here hx rfl (pc0 := 19) (pc' := 27) rfl (hb hby d10_19) rfl ((if0 _ _).trans (tlt hc100).1) (by decide) (by decide) ?_
      exact k
    have pre102 : ∀ t, Steps p.tables e below (T0.setTop (mkF m 39 #[.val (.long j0), .second, .val (.int i2), .val (.int i3), .val (.long j4), .second, .val (.long ((j4 - (399 : Int64)) / (400 : Int64))), .second, .unset, .unset, .unset, .unset, .unset, .unset, .unset] [])) t → Steps p.tables e below (T0.setTop (mkF m 15 #[.val (.long j0), .second, .val (.int i2), .val (.int i3), .val (.long j4), .second, .unset, .unset, .unset, .unset, .unset, .unset, .unset, .unset, .unset] [])) t := by
      intro t k
      refine pre101 _ ?_
      show Steps p.tables e below (T0.setTop (mkF m 27 #[.val (.long j0), .second, .val (.int i2), .val (.int i3), .val (.long j4), .second, .unset, .unset, .unset, .unset, .unset, .unset, .unset, .unset, .unset] [])) _
      refine XS.lload X0.here hx rfl (hb hby d10_27) rfl ?_
      show Steps p.tables e below (T0.setTop (mkF m 29 #[.val (.long j0), .second, .val (.int i2), .val (.int i3), .val (.long j4), .second, .unset, .unset, .unset, .unset, .unset, .unset, .unset, .unset, .unset] [(.long j4)])) _
      refine X0.ldc2Long hx hown (mvT hZ (hw _ (List.mem_of_getElem? (i := 76) rfl))) (g := (mkF m 29 #[.val (.long j0), .second, .val (.int i2), .val (.int i3), .val (.long j4), .second, .unset, .unset, .unset, .unset, .unset, .unset, .unset, .unset, .unset] [(.long j4)])) rfl (hb hby d10_29) _ ?_
      show Steps p.tables e below (T0.setTop (mkF m 32 #[.val (.long j0), .second, .val (.int i2), .val (.int i3), .val (.long j4), .second, .unset, .unset, .unset, .unset, .unset, .unset, .unset, .unset, .unset] [(.long (399 : Int64)), (.long j4)])) _
      refine XS.lsub X0.here hx rfl (hb hby d10_32) rfl ?_
      show Steps p.tables e below (T0.setTop (mkF m 33 #[.val (.long j0), .second, .val (.int i2), .val (.int i3), .val (.long j4), .second, .unset, .unset, .unset, .unset, .unset, .unset, .unset, .unset, .unset] [(.long (j4 - (399 : Int64)))])) _
      refine X0.ldc2Long hx hown (mvT hZ (hw _ (List.mem_of_getElem? (i := 59) rfl))) (g := (mkF m 33 #[.val (.long j0), .second, .val (.int i2), .val (.int i3), .val (.long j4), .second, .unset, .unset, .unset, .unset, .unset, .unset, .unset, .unset, .unset] [(.long (j4 - (399 : Int64)))])) rfl (hb hby d10_33) _ ?_
      show Steps p.tables e below (T0.setTop (mkF m 36 #[.val (.long j0), .second, .val (.int i2), .val (.int i3), .val (.long j4), .second, .unset, .unset, .unset, .unset, .unset, .unset, .unset, .unset, .unset] [(.long (400 : Int64)), (.long (j4 - (399 : Int64)))])) _
      refine XS.ldiv X0.here hx rfl (hb hby d10_36) rfl (by decide) ?_
      show Steps p.tables e below (T0.setTop (mkF m 37 #[.val (.long j0), .second, .val (.int i2), .val (.int i3), .val (.long j4), .second, .unset, .unset, .unset, .unset, .unset, .unset, .unset, .unset, .unset] [(.long ((j4 - (399 : Int64)) / (400 : Int64)))])) _
      refine XS.lstore X0.here hx rfl (hb hby d10_37) rfl (l' := #[.val (.long j0), .second, .val (.int i2), .val (.int i3), .val (.long j4), .second, .val (.long ((j4 - (399 : Int64)) / (400 : Int64))), .second, .unset, .unset, .unset, .unset, .unset, .unset, .unset]) rfl ?_
      exact k
    obtain ⟨s₂, o, st104, g1, g2, v, L, ho, ⟨hv, hN, hh104⟩, hfe⟩ := pc10_39_0 j0 i2 i3 j4 ((j4 - (399 : Int64)) / (400 : Int64)) X0 hx hZ hw hby hml hown hret hlocks e0 N0 Z0 
    exact ⟨s₂, o, pre102 _ st104, g1, g2, v, L, ho, ⟨(by rw [F10_15_0, if_pos hc100]; exact hv), hN, hh104⟩, hfe⟩
  · have pre105 : ∀ t, Steps p.tables e below (T0.setTop (mkF m 22 #[.val (.long j0), .second, .val (.int i2), .val (.int i3), .val (.long j4), .second, .unset, .unset, .unset, .unset, .unset, .unset, .unset, .unset, .unset] [])) t → Steps p.tables e below (T0.setTop (mkF m 15 #[.val (.long j0), .second, .val (.int i2), .val (.int i3), .val (.long j4), .second, .unset, .unset, .unset, .unset, .unset, .unset, .unset, .unset, .unset] [])) t := by
      intro t k
      refine pre99 _ ?_
      show Steps p.tables e below (T0.setTop (mkF m 19 #[.val (.long j0), .second, .val (.int i2), .val (.int i3), .val (.long j4), .second, .unset, .unset, .unset, .unset, .unset, .unset, .unset, .unset, .unset] [(.int (lcmpW j4 (0 : Int64)))])) _
      refine XS.ifNo X0.here hx rfl (hb hby d10_19) rfl ((if0 _ _).trans (flt hc100).1) ?_
      exact k
    have pre106 : ∀ t, Steps p.tables e below (T0.setTop (mkF m 39 #[.val (.long j0), .second, .val (.int i2), .val (.int i3), .val (.long j4), .second, .val (.long (j4 / (400 : Int64))), .second, .unset, .unset, .unset, .unset, .unset, .unset, .unset] [])) t → Steps p.tables e below (T0.setTop (mkF m 15 #[.val (.long j0), .second, .val (.int i2), .val (.int i3), .val (.long j4), .second, .unset, .unset, .unset, .unset, .unset, .unset, .unset, .unset, .unset] [])) t := by
      intro t k
      refine pre105 _ ?_
      show Steps p.tables e below (T0.setTop (mkF m 22 #[.val (.long j0), .second, .val (.int i2), .val (.int i3), .val (.long j4), .second, .unset, .unset, .unset, .unset, .unset, .unset, .unset, .unset, .unset] [])) _
      refine XS.lload X0.here hx rfl (hb hby d10_22) rfl ?_
      show Steps p.tables e below (T0.setTop (mkF m 24 #[.val (.long j0), .second, .val (.int i2), .val (.int i3), .val (.long j4), .second, .unset, .unset, .unset, .unset, .unset, .unset, .unset, .unset, .unset] [(.long j4)])) _
      refine XS.goto X0.here hx rfl (pc0 := 24) (pc' := 33) rfl (hb hby d10_24) (by decide) (by decide) ?_
      show Steps p.tables e below (T0.setTop (mkF m 33 #[.val (.long j0), .second, .val (.int i2), .val (.int i3), .val (.long j4), .second, .unset, .unset, .unset, .unset, .unset, .unset, .unset, .unset, .unset] [(.long j4)])) _
      refine X0.ldc2Long hx hown (mvT hZ (hw _ (List.mem_of_getElem? (i := 59) rfl))) (g := (mkF m 33 #[.val (.long j0), .second, .val (.int i2), .val (.int i3), .val (.long j4), .second, .unset, .unset, .unset, .unset, .unset, .unset, .unset, .unset, .unset] [(.long j4)])) rfl (hb hby d10_33) _ ?_
      show Steps p.tables e below (T0.setTop (mkF m 36 #[.val (.long j0), .second, .val (.int i2), .val (.int i3), .val (.long j4), .second, .unset, .unset, .unset, .unset, .unset, .unset, .unset, .unset, .unset] [(.long (400 : Int64)), (.long j4)])) _
      refine XS.ldiv X0.here hx rfl (hb hby d10_36) rfl (by decide) ?_
      show Steps p.tables e below (T0.setTop (mkF m 37 #[.val (.long j0), .second, .val (.int i2), .val (.int i3), .val (.long j4), .second, .unset, .unset, .unset, .unset, .unset, .unset, .unset, .unset, .unset] [(.long (j4 / (400 : Int64)))])) _
      refine XS.lstore X0.here hx rfl (hb hby d10_37) rfl (l' := #[.val (.long j0), .second, .val (.int i2), .val (.int i3), .val (.long j4), .second, .val (.long (j4 / (400 : Int64))), .second, .unset, .unset, .unset, .unset, .unset, .unset, .unset]) rfl ?_
      exact k
    obtain ⟨s₂, o, st107, g1, g2, v, L, ho, ⟨hv, hN, hh107⟩, hfe⟩ := pc10_39_0 j0 i2 i3 j4 (j4 / (400 : Int64)) X0 hx hZ hw hby hml hown hret hlocks e0 N0 Z0 
    exact ⟨s₂, o, pre106 _ st107, g1, g2, v, L, ho, ⟨(by rw [F10_15_0, if_neg hc100]; exact hv), hN, hh107⟩, hfe⟩
theorem d10_0 : decode method_4_code 0 = .ok (.lload_n 0, 1) := by decide +kernel
theorem d10_1 : decode method_4_code 1 = .ok (.iload_n 2, 1) := by decide +kernel
theorem d10_2 : decode method_4_code 2 = .ok (.iconst 2, 1) := by decide +kernel
theorem d10_3 : decode method_4_code 3 = .ok (.if_icmp .gt 7, 3) := by decide +kernel
theorem d10_10 : decode method_4_code 10 = .ok (.iconst 0, 1) := by decide +kernel
theorem d10_11 : decode method_4_code 11 = .ok (.i2l, 1) := by decide +kernel
theorem d10_12 : decode method_4_code 12 = .ok (.lsub, 1) := by decide +kernel
theorem d10_13 : decode method_4_code 13 = .ok (.lstore 4, 2) := by decide +kernel
theorem d10_6 : decode method_4_code 6 = .ok (.iconst 1, 1) := by decide +kernel
theorem d10_7 : decode method_4_code 7 = .ok (.goto 4, 3) := by decide +kernel
theorem ef_10 (m : MethodId) (x0 : Int64) (x1 : Int32) (x2 : Int32) : entryFrame m #[(.long x0), (.int x1), (.int x2)] 15 = mkF m 0 #[.val (.long x0), .second, .val (.int x1), .val (.int x2), .unset, .unset, .unset, .unset, .unset, .unset, .unset, .unset, .unset, .unset, .unset] [] := by first | (simp [entryFrame, mkF, argsToLocals, Value.category]; done) | rfl
def F10 (q1 : Int64) (p2 : Int32) (p3 : Int32) : Int64 :=
  if (2 : Int32) < p2 then (  (F10_15_0 p2 p3 (q1 - ((0 : Int32).toInt64))))
  else (  (F10_15_0 p2 p3 (q1 - ((1 : Int32).toInt64))))
def Q10 (Z : State) (q1 : Int64) (p2 : Int32) (p3 : Int32) (h0 : Heap) (n0 : Nat) (v : Option Value) (h : Heap) (L : List Loc) : Prop := v = some (.long (F10 q1 p2 p3)) ∧ Fr n0 L ∧ h = h0
set_option maxRecDepth 65536 in
set_option maxHeartbeats 40000000 in
theorem rm10 (l : Launch) (Z : State) (a0 : Array Value) (hw : ∀ d ∈ tables_1, d.before a0 Z = true) (ws : List Jvm.Cond) (q1 : Int64) (p2 : Int32) (p3 : Int32) (h0 : Heap) (n0 : Nat) (Z0 : n0 ≤ h0.size)  :
    MetFree l (⟨"com/example/notesmith/notesmith/calc/AccrualDaysPinLaw", "civilDays", "(JII)J"⟩ : MethodName) (head1 (Jvm.Cond.code (⟨"com/example/notesmith/notesmith/calc/AccrualDaysPinLaw", "civilDays", "(JII)J"⟩ : MethodName) method_4_code 15 (some .long) :: ws) ({ frames := 0, cells := 0, slots := 0, locals := 0 } : Room)) (fun a U => a = #[(.long q1), (.int p2), (.int p3)] ∧ Z.Warmed39 U.vm ∧ U.heap = h0) (fun _ _ _ _ _ => True) (fun _ U o U' => ∃ v L, o = .returned v ∧ Q10 Z q1 p2 p3 h0 n0 v U'.heap L ∧ FrameEnd U o U' L ({ frames := 0, cells := 0, slots := 0, locals := 0 } : Room).cells ({ frames := 0, cells := 0, slots := 0, locals := 0 } : Room).slots) := by
  refine MetFree.of_bodySF (plainFor_of_name pn_12) hisR ?_
  intro p e s m args below meth c s₁ Bd hml0 hP hK
  obtain ⟨rfl, hZ, hh⟩ := hP
  have hx := Bd.exec
  have hby := Bd.bytes
  have hml : c.maxLocals = 15 := hml0
  have hown : s.vm.findClass "com/example/notesmith/notesmith/calc/AccrualDaysPinLaw" = some m.cls := findClass_of_methodNamed Bd.named
  have hnm := (name_of_methodNamed Bd.named Bd.method).1
  have hret := Bd.returns
  have hlocks : meth.locks = false := Bd.notSynchronized
  have X0 : Stand p l e ({ frames := 0, cells := 0, slots := 0, locals := 0 } : Room) s m #[(.long q1), (.int p2), (.int p3)] below meth c s₁ [] 0 0 := Stand.of_body Bd
  have e0 : s₁.heap = h0 := by rw [← hh, Bd.state]; rfl
  have N0 := Fr.nil n0
  have pre0 : ∀ t, Steps p.tables e below (s₁.setTop (mkF m 0 #[.val (.long q1), .second, .val (.int p2), .val (.int p3), .unset, .unset, .unset, .unset, .unset, .unset, .unset, .unset, .unset, .unset, .unset] [])) t → Steps p.tables e below (s₁.setTop (entryFrame m #[(.long q1), (.int p2), (.int p3)] 15)) t := fun t k => castTop (ef_10 m q1 p2 p3) k
  have pre95 : ∀ t, Steps p.tables e below (s₁.setTop (mkF m 3 #[.val (.long q1), .second, .val (.int p2), .val (.int p3), .unset, .unset, .unset, .unset, .unset, .unset, .unset, .unset, .unset, .unset, .unset] [(.int (2 : Int32)), (.int p2), (.long q1)])) t → Steps p.tables e below (s₁.setTop (entryFrame m #[(.long q1), (.int p2), (.int p3)] 15)) t := by
    intro t k
    refine pre0 _ ?_
    show Steps p.tables e below (s₁.setTop (mkF m 0 #[.val (.long q1), .second, .val (.int p2), .val (.int p3), .unset, .unset, .unset, .unset, .unset, .unset, .unset, .unset, .unset, .unset, .unset] [])) _
    refine XS.lloadN X0.here hx rfl (hb hby d10_0) rfl ?_
    show Steps p.tables e below (s₁.setTop (mkF m 1 #[.val (.long q1), .second, .val (.int p2), .val (.int p3), .unset, .unset, .unset, .unset, .unset, .unset, .unset, .unset, .unset, .unset, .unset] [(.long q1)])) _
    refine XS.iloadN X0.here hx rfl (hb hby d10_1) rfl ?_
    show Steps p.tables e below (s₁.setTop (mkF m 2 #[.val (.long q1), .second, .val (.int p2), .val (.int p3), .unset, .unset, .unset, .unset, .unset, .unset, .unset, .unset, .unset, .unset, .unset] [(.int p2), (.long q1)])) _
    refine XS.iconst X0.here hx rfl (hb hby d10_2) ?_
    exact k
  by_cases hc96 : (2 : Int32) < p2
  · have pre97 : ∀ t, Steps p.tables e below (s₁.setTop (mkF m 10 #[.val (.long q1), .second, .val (.int p2), .val (.int p3), .unset, .unset, .unset, .unset, .unset, .unset, .unset, .unset, .unset, .unset, .unset] [(.long q1)])) t → Steps p.tables e below (s₁.setTop (entryFrame m #[(.long q1), (.int p2), (.int p3)] 15)) t := by
      intro t k
      refine pre95 _ ?_
      show Steps p.tables e below (s₁.setTop (mkF m 3 #[.val (.long q1), .second, .val (.int p2), .val (.int p3), .unset, .unset, .unset, .unset, .unset, .unset, .unset, .unset, .unset, .unset, .unset] [(.int (2 : Int32)), (.int p2), (.long q1)])) _
      refine XS.icmpYes X0.here hx rfl (pc0 := 3) (pc' := 10) rfl (hb hby d10_3) rfl (tlt hc96).2.2.1 (by decide) (by decide) ?_
      exact k
    have pre98 : ∀ t, Steps p.tables e below (s₁.setTop (mkF m 15 #[.val (.long q1), .second, .val (.int p2), .val (.int p3), .val (.long (q1 - ((0 : Int32).toInt64))), .second, .unset, .unset, .unset, .unset, .unset, .unset, .unset, .unset, .unset] [])) t → Steps p.tables e below (s₁.setTop (entryFrame m #[(.long q1), (.int p2), (.int p3)] 15)) t := by
      intro t k
      refine pre97 _ ?_
      show Steps p.tables e below (s₁.setTop (mkF m 10 #[.val (.long q1), .second, .val (.int p2), .val (.int p3), .unset, .unset, .unset, .unset, .unset, .unset, .unset, .unset, .unset, .unset, .unset] [(.long q1)])) _
      refine XS.iconst X0.here hx rfl (hb hby d10_10) ?_
      show Steps p.tables e below (s₁.setTop (mkF m 11 #[.val (.long q1), .second, .val (.int p2), .val (.int p3), .unset, .unset, .unset, .unset, .unset, .unset, .unset, .unset, .unset, .unset, .unset] [(.int (0 : Int32)), (.long q1)])) _
      refine XS.i2l X0.here hx rfl (hb hby d10_11) rfl ?_
      show Steps p.tables e below (s₁.setTop (mkF m 12 #[.val (.long q1), .second, .val (.int p2), .val (.int p3), .unset, .unset, .unset, .unset, .unset, .unset, .unset, .unset, .unset, .unset, .unset] [(.long ((0 : Int32).toInt64)), (.long q1)])) _
      refine XS.lsub X0.here hx rfl (hb hby d10_12) rfl ?_
      show Steps p.tables e below (s₁.setTop (mkF m 13 #[.val (.long q1), .second, .val (.int p2), .val (.int p3), .unset, .unset, .unset, .unset, .unset, .unset, .unset, .unset, .unset, .unset, .unset] [(.long (q1 - ((0 : Int32).toInt64)))])) _
      refine XS.lstore X0.here hx rfl (hb hby d10_13) rfl (l' := #[.val (.long q1), .second, .val (.int p2), .val (.int p3), .val (.long (q1 - ((0 : Int32).toInt64))), .second, .unset, .unset, .unset, .unset, .unset, .unset, .unset, .unset, .unset]) rfl ?_
      exact k
    obtain ⟨s₂, o, st108, g1, g2, v, L, ho, ⟨hv, hN, hh108⟩, hfe⟩ := pc10_15_0 q1 p2 p3 (q1 - ((0 : Int32).toInt64)) X0 hx hZ hw hby hml hown hret hlocks e0 N0 Z0 
    exact ⟨s₂, o, pre98 _ st108, g1, g2, v, L, ho, ⟨(by rw [F10, if_pos hc96]; exact hv), hN, hh108⟩, hfe⟩
  · have pre109 : ∀ t, Steps p.tables e below (s₁.setTop (mkF m 6 #[.val (.long q1), .second, .val (.int p2), .val (.int p3), .unset, .unset, .unset, .unset, .unset, .unset, .unset, .unset, .unset, .unset, .unset] [(.long q1)])) t → Steps p.tables e below (s₁.setTop (entryFrame m #[(.long q1), (.int p2), (.int p3)] 15)) t := by
      intro t k
      refine pre95 _ ?_
      show Steps p.tables e below (s₁.setTop (mkF m 3 #[.val (.long q1), .second, .val (.int p2), .val (.int p3), .unset, .unset, .unset, .unset, .unset, .unset, .unset, .unset, .unset, .unset, .unset] [(.int (2 : Int32)), (.int p2), (.long q1)])) _
      refine XS.icmpNo X0.here hx rfl (hb hby d10_3) rfl (flt hc96).2.2.1 ?_
      exact k
    have pre110 : ∀ t, Steps p.tables e below (s₁.setTop (mkF m 15 #[.val (.long q1), .second, .val (.int p2), .val (.int p3), .val (.long (q1 - ((1 : Int32).toInt64))), .second, .unset, .unset, .unset, .unset, .unset, .unset, .unset, .unset, .unset] [])) t → Steps p.tables e below (s₁.setTop (entryFrame m #[(.long q1), (.int p2), (.int p3)] 15)) t := by
      intro t k
      refine pre109 _ ?_
      show Steps p.tables e below (s₁.setTop (mkF m 6 #[.val (.long q1), .second, .val (.int p2), .val (.int p3), .unset, .unset, .unset, .unset, .unset, .unset, .unset, .unset, .unset, .unset, .unset] [(.long q1)])) _
      refine XS.iconst X0.here hx rfl (hb hby d10_6) ?_
      show Steps p.tables e below (s₁.setTop (mkF m 7 #[.val (.long q1), .second, .val (.int p2), .val (.int p3), .unset, .unset, .unset, .unset, .unset, .unset, .unset, .unset, .unset, .unset, .unset] [(.int (1 : Int32)), (.long q1)])) _
      refine XS.goto X0.here hx rfl (pc0 := 7) (pc' := 11) rfl (hb hby d10_7) (by decide) (by decide) ?_
      show Steps p.tables e below (s₁.setTop (mkF m 11 #[.val (.long q1), .second, .val (.int p2), .val (.int p3), .unset, .unset, .unset, .unset, .unset, .unset, .unset, .unset, .unset, .unset, .unset] [(.int (1 : Int32)), (.long q1)])) _
      refine XS.i2l X0.here hx rfl (hb hby d10_11) rfl ?_
      show Steps p.tables e below (s₁.setTop (mkF m 12 #[.val (.long q1), .second, .val (.int p2), .val (.int p3), .unset, .unset, .unset, .unset, .unset, .unset, .unset, .unset, .unset, .unset, .unset] [(.long ((1 : Int32).toInt64)), (.long q1)])) _
      refine XS.lsub X0.here hx rfl (hb hby d10_12) rfl ?_
      show Steps p.tables e below (s₁.setTop (mkF m 13 #[.val (.long q1), .second, .val (.int p2), .val (.int p3), .unset, .unset, .unset, .unset, .unset, .unset, .unset, .unset, .unset, .unset, .unset] [(.long (q1 - ((1 : Int32).toInt64)))])) _
      refine XS.lstore X0.here hx rfl (hb hby d10_13) rfl (l' := #[.val (.long q1), .second, .val (.int p2), .val (.int p3), .val (.long (q1 - ((1 : Int32).toInt64))), .second, .unset, .unset, .unset, .unset, .unset, .unset, .unset, .unset, .unset]) rfl ?_
      exact k
    obtain ⟨s₂, o, st111, g1, g2, v, L, ho, ⟨hv, hN, hh111⟩, hfe⟩ := pc10_15_0 q1 p2 p3 (q1 - ((1 : Int32).toInt64)) X0 hx hZ hw hby hml hown hret hlocks e0 N0 Z0 
    exact ⟨s₂, o, pre110 _ st111, g1, g2, v, L, ho, ⟨(by rw [F10, if_neg hc96]; exact hv), hN, hh111⟩, hfe⟩
theorem d11_0 : decode prog_2_method_13_code 0 = .ok (.iload_n 2, 1) := by decide +kernel
theorem d11_1 : decode prog_2_method_13_code 1 = .ok (.bipush 31, 2) := by decide +kernel
theorem d11_3 : decode prog_2_method_13_code 3 = .ok (.if_icmp .ne 8, 3) := by decide +kernel
theorem d11_6 : decode prog_2_method_13_code 6 = .ok (.bipush 30, 2) := by decide +kernel
theorem d11_8 : decode prog_2_method_13_code 8 = .ok (.goto 4, 3) := by decide +kernel
theorem d11_12 : decode prog_2_method_13_code 12 = .ok (.istore 4, 2) := by decide +kernel
theorem d11_14 : decode prog_2_method_13_code 14 = .ok (.iload_n 3, 1) := by decide +kernel
theorem d11_15 : decode prog_2_method_13_code 15 = .ok (.bipush 31, 2) := by decide +kernel
theorem d11_17 : decode prog_2_method_13_code 17 = .ok (.if_icmp .ne 15, 3) := by decide +kernel
theorem d11_20 : decode prog_2_method_13_code 20 = .ok (.iload 4, 2) := by decide +kernel
theorem d11_22 : decode prog_2_method_13_code 22 = .ok (.bipush 30, 2) := by decide +kernel
theorem d11_24 : decode prog_2_method_13_code 24 = .ok (.if_icmp .ne 8, 3) := by decide +kernel
theorem d11_27 : decode prog_2_method_13_code 27 = .ok (.bipush 30, 2) := by decide +kernel
theorem d11_29 : decode prog_2_method_13_code 29 = .ok (.goto 4, 3) := by decide +kernel
theorem d11_33 : decode prog_2_method_13_code 33 = .ok (.istore 5, 2) := by decide +kernel
theorem d11_35 : decode prog_2_method_13_code 35 = .ok (.ldc2_w 246, 3) := by decide +kernel
theorem d11_38 : decode prog_2_method_13_code 38 = .ok (.lload_n 0, 1) := by decide +kernel
theorem d11_39 : decode prog_2_method_13_code 39 = .ok (.lmul, 1) := by decide +kernel
theorem d11_40 : decode prog_2_method_13_code 40 = .ok (.iload 5, 2) := by decide +kernel
theorem d11_42 : decode prog_2_method_13_code 42 = .ok (.iload 4, 2) := by decide +kernel
theorem d11_44 : decode prog_2_method_13_code 44 = .ok (.isub, 1) := by decide +kernel
theorem d11_45 : decode prog_2_method_13_code 45 = .ok (.i2l, 1) := by decide +kernel
theorem d11_46 : decode prog_2_method_13_code 46 = .ok (.ladd, 1) := by decide +kernel
theorem d11_47 : decode prog_2_method_13_code 47 = .ok (.lreturn, 1) := by decide +kernel
theorem d11_32 : decode prog_2_method_13_code 32 = .ok (.iload_n 3, 1) := by decide +kernel
theorem d11_11 : decode prog_2_method_13_code 11 = .ok (.iload_n 2, 1) := by decide +kernel
theorem pn_11 : plainName "com/example/notesmith/notesmith/calc/Accrual" = true := by first | (simp [plainName, overriddenIn]; done) | decide +kernel
theorem ef_11 (m : MethodId) (x0 : Int64) (x1 : Int32) (x2 : Int32) : entryFrame m #[(.long x0), (.int x1), (.int x2)] 6 = mkF m 0 #[.val (.long x0), .second, .val (.int x1), .val (.int x2), .unset, .unset] [] := by first | (simp [entryFrame, mkF, argsToLocals, Value.category]; done) | rfl
def F11 (q1 : Int64) (p2 : Int32) (p3 : Int32) : Int64 :=
  if p2 = (31 : Int32) then (  if p3 = (31 : Int32) then (  (((30 : Int64) * q1) + (((30 : Int32) - (30 : Int32)).toInt64)))
  else (  (((30 : Int64) * q1) + ((p3 - (30 : Int32)).toInt64))))
  else (  if p3 = (31 : Int32) then (  if p2 = (30 : Int32) then (  (((30 : Int64) * q1) + (((30 : Int32) - p2).toInt64)))
  else (  (((30 : Int64) * q1) + ((p3 - p2).toInt64))))
  else (  (((30 : Int64) * q1) + ((p3 - p2).toInt64))))
def Q11 (Z : State) (q1 : Int64) (p2 : Int32) (p3 : Int32) (h0 : Heap) (n0 : Nat) (v : Option Value) (h : Heap) (L : List Loc) : Prop := v = some (.long (F11 q1 p2 p3)) ∧ Fr n0 L ∧ h = h0
set_option maxRecDepth 65536 in
set_option maxHeartbeats 40000000 in
theorem rm11 (l : Launch) (Z : State) (a0 : Array Value) (hw : ∀ d ∈ tables_1, d.before a0 Z = true) (ws : List Jvm.Cond) (q1 : Int64) (p2 : Int32) (p3 : Int32) (h0 : Heap) (n0 : Nat) (Z0 : n0 ≤ h0.size)  :
    MetFree l (⟨"com/example/notesmith/notesmith/calc/Accrual", "thirty360", "(JII)J"⟩ : MethodName) (head1 (Jvm.Cond.code (⟨"com/example/notesmith/notesmith/calc/Accrual", "thirty360", "(JII)J"⟩ : MethodName) prog_2_method_13_code 6 (some .long) :: ws) ({ frames := 0, cells := 0, slots := 0, locals := 0 } : Room)) (fun a U => a = #[(.long q1), (.int p2), (.int p3)] ∧ Z.Warmed39 U.vm ∧ U.heap = h0) (fun _ _ _ _ _ => True) (fun _ U o U' => ∃ v L, o = .returned v ∧ Q11 Z q1 p2 p3 h0 n0 v U'.heap L ∧ FrameEnd U o U' L ({ frames := 0, cells := 0, slots := 0, locals := 0 } : Room).cells ({ frames := 0, cells := 0, slots := 0, locals := 0 } : Room).slots) := by
  refine MetFree.of_bodySF (plainFor_of_name pn_11) hisR ?_
  intro p e s m args below meth c s₁ Bd hml0 hP hK
  obtain ⟨rfl, hZ, hh⟩ := hP
  have hx := Bd.exec
  have hby := Bd.bytes
  have hml : c.maxLocals = 6 := hml0
  have hown : s.vm.findClass "com/example/notesmith/notesmith/calc/Accrual" = some m.cls := findClass_of_methodNamed Bd.named
  have hnm := (name_of_methodNamed Bd.named Bd.method).1
  have hret := Bd.returns
  have hlocks : meth.locks = false := Bd.notSynchronized
  have X0 : Stand p l e ({ frames := 0, cells := 0, slots := 0, locals := 0 } : Room) s m #[(.long q1), (.int p2), (.int p3)] below meth c s₁ [] 0 0 := Stand.of_body Bd
  have e0 : s₁.heap = h0 := by rw [← hh, Bd.state]; rfl
  have N0 := Fr.nil n0
  have pre0 : ∀ t, Steps p.tables e below (s₁.setTop (mkF m 0 #[.val (.long q1), .second, .val (.int p2), .val (.int p3), .unset, .unset] [])) t → Steps p.tables e below (s₁.setTop (entryFrame m #[(.long q1), (.int p2), (.int p3)] 6)) t := fun t k => castTop (ef_11 m q1 p2 p3) k
  have pre112 : ∀ t, Steps p.tables e below (s₁.setTop (mkF m 3 #[.val (.long q1), .second, .val (.int p2), .val (.int p3), .unset, .unset] [(.int (31 : Int32)), (.int p2)])) t → Steps p.tables e below (s₁.setTop (entryFrame m #[(.long q1), (.int p2), (.int p3)] 6)) t := by
    intro t k
    refine pre0 _ ?_
    show Steps p.tables e below (s₁.setTop (mkF m 0 #[.val (.long q1), .second, .val (.int p2), .val (.int p3), .unset, .unset] [])) _
    refine XS.iloadN X0.here hx rfl (hb hby d11_0) rfl ?_
    show Steps p.tables e below (s₁.setTop (mkF m 1 #[.val (.long q1), .second, .val (.int p2), .val (.int p3), .unset, .unset] [(.int p2)])) _
    refine XS.bipush X0.here hx rfl (hb hby d11_1) ?_
    exact k
  by_cases hc113 : p2 = (31 : Int32)
  · have pre114 : ∀ t, Steps p.tables e below (s₁.setTop (mkF m 6 #[.val (.long q1), .second, .val (.int p2), .val (.int p3), .unset, .unset] [])) t → Steps p.tables e below (s₁.setTop (entryFrame m #[(.long q1), (.int p2), (.int p3)] 6)) t := by
      intro t k
      refine pre112 _ ?_
      show Steps p.tables e below (s₁.setTop (mkF m 3 #[.val (.long q1), .second, .val (.int p2), .val (.int p3), .unset, .unset] [(.int (31 : Int32)), (.int p2)])) _
      refine XS.icmpNo X0.here hx rfl (hb hby d11_3) rfl (teq hc113).2 ?_
      exact k
    have pre115 : ∀ t, Steps p.tables e below (s₁.setTop (mkF m 17 #[.val (.long q1), .second, .val (.int p2), .val (.int p3), .val (.int (30 : Int32)), .unset] [(.int (31 : Int32)), (.int p3)])) t → Steps p.tables e below (s₁.setTop (entryFrame m #[(.long q1), (.int p2), (.int p3)] 6)) t := by
      intro t k
      refine pre114 _ ?_
      show Steps p.tables e below (s₁.setTop (mkF m 6 #[.val (.long q1), .second, .val (.int p2), .val (.int p3), .unset, .unset] [])) _
      refine XS.bipush X0.here hx rfl (hb hby d11_6) ?_
      show Steps p.tables e below (s₁.setTop (mkF m 8 #[.val (.long q1), .second, .val (.int p2), .val (.int p3), .unset, .unset] [(.int (30 : Int32))])) _
      refine XS.goto X0.here hx rfl (pc0 := 8) (pc' := 12) rfl (hb hby d11_8) (by decide) (by decide) ?_
      show Steps p.tables e below (s₁.setTop (mkF m 12 #[.val (.long q1), .second, .val (.int p2), .val (.int p3), .unset, .unset] [(.int (30 : Int32))])) _
      refine XS.istore X0.here hx rfl (hb hby d11_12) rfl (l' := #[.val (.long q1), .second, .val (.int p2), .val (.int p3), .val (.int (30 : Int32)), .unset]) rfl ?_
      show Steps p.tables e below (s₁.setTop (mkF m 14 #[.val (.long q1), .second, .val (.int p2), .val (.int p3), .val (.int (30 : Int32)), .unset] [])) _
      refine XS.iloadN X0.here hx rfl (hb hby d11_14) rfl ?_
      show Steps p.tables e below (s₁.setTop (mkF m 15 #[.val (.long q1), .second, .val (.int p2), .val (.int p3), .val (.int (30 : Int32)), .unset] [(.int p3)])) _
      refine XS.bipush X0.here hx rfl (hb hby d11_15) ?_
      exact k
    by_cases hc116 : p3 = (31 : Int32)
    · have pre117 : ∀ t, Steps p.tables e below (s₁.setTop (mkF m 20 #[.val (.long q1), .second, .val (.int p2), .val (.int p3), .val (.int (30 : Int32)), .unset] [])) t → Steps p.tables e below (s₁.setTop (entryFrame m #[(.long q1), (.int p2), (.int p3)] 6)) t := by
        intro t k
        refine pre115 _ ?_
        show Steps p.tables e below (s₁.setTop (mkF m 17 #[.val (.long q1), .second, .val (.int p2), .val (.int p3), .val (.int (30 : Int32)), .unset] [(.int (31 : Int32)), (.int p3)])) _
        refine XS.icmpNo X0.here hx rfl (hb hby d11_17) rfl (teq hc116).2 ?_
        exact k
      have pre118 : ∀ t, Steps p.tables e below (s₁.setTop (mkF m 24 #[.val (.long q1), .second, .val (.int p2), .val (.int p3), .val (.int (30 : Int32)), .unset] [(.int (30 : Int32)), (.int (30 : Int32))])) t → Steps p.tables e below (s₁.setTop (entryFrame m #[(.long q1), (.int p2), (.int p3)] 6)) t := by
        intro t k
        refine pre117 _ ?_
        show Steps p.tables e below (s₁.setTop (mkF m 20 #[.val (.long q1), .second, .val (.int p2), .val (.int p3), .val (.int (30 : Int32)), .unset] [])) _
        refine XS.iload X0.here hx rfl (hb hby d11_20) rfl ?_
        show Steps p.tables e below (s₁.setTop (mkF m 22 #[.val (.long q1), .second, .val (.int p2), .val (.int p3), .val (.int (30 : Int32)), .unset] [(.int (30 : Int32))])) _
        refine XS.bipush X0.here hx rfl (hb hby d11_22) ?_
        exact k
      have pre120 : ∀ t, Steps p.tables e below (s₁.setTop (mkF m 27 #[.val (.long q1), .second, .val (.int p2), .val (.int p3), .val (.int (30 : Int32)), .unset] [])) t → Steps p.tables e below (s₁.setTop (entryFrame m #[(.long q1), (.int p2), (.int p3)] 6)) t := by
        intro t k
        refine pre118 _ ?_
        show Steps p.tables e below (s₁.setTop (mkF m 24 #[.val (.long q1), .second, .val (.int p2), .val (.int p3), .val (.int (30 : Int32)), .unset] [(.int (30 : Int32)), (.int (30 : Int32))])) _
        refine XS.icmpNo X0.here hx rfl (hb hby d11_24) rfl (teq (rfl : (30 : Int32) = (30 : Int32))).2 ?_
        exact k
      have pre121 : ∀ t, Steps p.tables e below (s₁.setTop (mkF m 47 #[.val (.long q1), .second, .val (.int p2), .val (.int p3), .val (.int (30 : Int32)), .val (.int (30 : Int32))] [(.long (((30 : Int64) * q1) + (((30 : Int32) - (30 : Int32)).toInt64)))])) t → Steps p.tables e below (s₁.setTop (entryFrame m #[(.long q1), (.int p2), (.int p3)] 6)) t := by
        intro t k
        refine pre120 _ ?_
        show Steps p.tables e below (s₁.setTop (mkF m 27 #[.val (.long q1), .second, .val (.int p2), .val (.int p3), .val (.int (30 : Int32)), .unset] [])) _
        refine XS.bipush X0.here hx rfl (hb hby d11_27) ?_
        show Steps p.tables e below (s₁.setTop (mkF m 29 #[.val (.long q1), .second, .val (.int p2), .val (.int p3), .val (.int (30 : Int32)), .unset] [(.int (30 : Int32))])) _
        refine XS.goto X0.here hx rfl (pc0 := 29) (pc' := 33) rfl (hb hby d11_29) (by decide) (by decide) ?_
        show Steps p.tables e below (s₁.setTop (mkF m 33 #[.val (.long q1), .second, .val (.int p2), .val (.int p3), .val (.int (30 : Int32)), .unset] [(.int (30 : Int32))])) _
        refine XS.istore X0.here hx rfl (hb hby d11_33) rfl (l' := #[.val (.long q1), .second, .val (.int p2), .val (.int p3), .val (.int (30 : Int32)), .val (.int (30 : Int32))]) rfl ?_
        show Steps p.tables e below (s₁.setTop (mkF m 35 #[.val (.long q1), .second, .val (.int p2), .val (.int p3), .val (.int (30 : Int32)), .val (.int (30 : Int32))] [])) _
        refine X0.ldc2Long hx hown (mvT hZ (hw _ (List.mem_of_getElem? (i := 72) rfl))) (g := (mkF m 35 #[.val (.long q1), .second, .val (.int p2), .val (.int p3), .val (.int (30 : Int32)), .val (.int (30 : Int32))] [])) rfl (hb hby d11_35) _ ?_
        show Steps p.tables e below (s₁.setTop (mkF m 38 #[.val (.long q1), .second, .val (.int p2), .val (.int p3), .val (.int (30 : Int32)), .val (.int (30 : Int32))] [(.long (30 : Int64))])) _
        refine XS.lloadN X0.here hx rfl (hb hby d11_38) rfl ?_
        show Steps p.tables e below (s₁.setTop (mkF m 39 #[.val (.long q1), .second, .val (.int p2), .val (.int p3), .val (.int (30 : Int32)), .val (.int (30 : Int32))] [(.long q1), (.long (30 : Int64))])) _
        refine XS.lmul X0.here hx rfl (hb hby d11_39) rfl ?_
        show Steps p.tables e below (s₁.setTop (mkF m 40 #[.val (.long q1), .second, .val (.int p2), .val (.int p3), .val (.int (30 : Int32)), .val (.int (30 : Int32))] [(.long ((30 : Int64) * q1))])) _
        refine XS.iload X0.here hx rfl (hb hby d11_40) rfl ?_
        show Steps p.tables e below (s₁.setTop (mkF m 42 #[.val (.long q1), .second, .val (.int p2), .val (.int p3), .val (.int (30 : Int32)), .val (.int (30 : Int32))] [(.int (30 : Int32)), (.long ((30 : Int64) * q1))])) _
        refine XS.iload X0.here hx rfl (hb hby d11_42) rfl ?_
        show Steps p.tables e below (s₁.setTop (mkF m 44 #[.val (.long q1), .second, .val (.int p2), .val (.int p3), .val (.int (30 : Int32)), .val (.int (30 : Int32))] [(.int (30 : Int32)), (.int (30 : Int32)), (.long ((30 : Int64) * q1))])) _
        refine XS.isub X0.here hx rfl (hb hby d11_44) rfl ?_
        show Steps p.tables e below (s₁.setTop (mkF m 45 #[.val (.long q1), .second, .val (.int p2), .val (.int p3), .val (.int (30 : Int32)), .val (.int (30 : Int32))] [(.int ((30 : Int32) - (30 : Int32))), (.long ((30 : Int64) * q1))])) _
        refine XS.i2l X0.here hx rfl (hb hby d11_45) rfl ?_
        show Steps p.tables e below (s₁.setTop (mkF m 46 #[.val (.long q1), .second, .val (.int p2), .val (.int p3), .val (.int (30 : Int32)), .val (.int (30 : Int32))] [(.long (((30 : Int32) - (30 : Int32)).toInt64)), (.long ((30 : Int64) * q1))])) _
        refine XS.ladd X0.here hx rfl (hb hby d11_46) rfl ?_
        exact k
      obtain ⟨fs, hr, hrun, hended, hW, hsame⟩ := X0.leave (v := some (.long (((30 : Int64) * q1) + (((30 : Int32) - (30 : Int32)).toInt64)))) (fun h => by rw [hret] at h; cases h) (hlocks := hlocks)
      refine ⟨_, _, pre121 _ ?_, hrun, hended, _, _, rfl, ?_, ⟨_, rfl⟩, hW, hsame.mono (by decide) (by decide)⟩
      · show Steps p.tables e below (s₁.setTop (mkF m 47 #[.val (.long q1), .second, .val (.int p2), .val (.int p3), .val (.int (30 : Int32)), .val (.int (30 : Int32))] [(.long (((30 : Int64) * q1) + (((30 : Int32) - (30 : Int32)).toInt64)))])) _
        exact Jvm.RoadKit.retOut X0 hx hret rfl (Or.inr (Or.inl ⟨rfl, rfl, _, rfl⟩)) (hb hby d11_47) hr
      · show Q11 Z q1 p2 p3 h0 n0 _ s₁.heap _
        exact ⟨(by rw [F11, if_pos hc113, if_pos hc116]), N0, e0⟩
    · have pre122 : ∀ t, Steps p.tables e below (s₁.setTop (mkF m 32 #[.val (.long q1), .second, .val (.int p2), .val (.int p3), .val (.int (30 : Int32)), .unset] [])) t → Steps p.tables e below (s₁.setTop (entryFrame m #[(.long q1), (.int p2), (.int p3)] 6)) t := by
        intro t k
        refine pre115 _ ?_
        show Steps p.tables e below (s₁.setTop (mkF m 17 #[.val (.long q1), .second, .val (.int p2), .val (.int p3), .val (.int (30 : Int32)), .unset] [(.int (31 : Int32)), (.int p3)])) _
        refine XS.icmpYes X0.here hx rfl (pc0 := 17) (pc' := 32) rfl (hb hby d11_17) rfl (feq hc116).2 (by decide) (by decide) ?_
        exact k
      have pre123 : ∀ t, Steps p.tables e below (s₁.setTop (mkF m 47 #[.val (.long q1), .second, .val (.int p2), .val (.int p3), .val (.int (30 : Int32)), .val (.int p3)] [(.long (((30 : Int64) * q1) + ((p3 - (30 : Int32)).toInt64)))])) t → Steps p.tables e below (s₁.setTop (entryFrame m #[(.long q1), (.int p2), (.int p3)] 6)) t := by
        intro t k
        refine pre122 _ ?_
        show Steps p.tables e below (s₁.setTop (mkF m 32 #[.val (.long q1), .second, .val (.int p2), .val (.int p3), .val (.int (30 : Int32)), .unset] [])) _
        refine XS.iloadN X0.here hx rfl (hb hby d11_32) rfl ?_
        show Steps p.tables e below (s₁.setTop (mkF m 33 #[.val (.long q1), .second, .val (.int p2), .val (.int p3), .val (.int (30 : Int32)), .unset] [(.int p3)])) _
        refine XS.istore X0.here hx rfl (hb hby d11_33) rfl (l' := #[.val (.long q1), .second, .val (.int p2), .val (.int p3), .val (.int (30 : Int32)), .val (.int p3)]) rfl ?_
        show Steps p.tables e below (s₁.setTop (mkF m 35 #[.val (.long q1), .second, .val (.int p2), .val (.int p3), .val (.int (30 : Int32)), .val (.int p3)] [])) _
        refine X0.ldc2Long hx hown (mvT hZ (hw _ (List.mem_of_getElem? (i := 72) rfl))) (g := (mkF m 35 #[.val (.long q1), .second, .val (.int p2), .val (.int p3), .val (.int (30 : Int32)), .val (.int p3)] [])) rfl (hb hby d11_35) _ ?_
        show Steps p.tables e below (s₁.setTop (mkF m 38 #[.val (.long q1), .second, .val (.int p2), .val (.int p3), .val (.int (30 : Int32)), .val (.int p3)] [(.long (30 : Int64))])) _
        refine XS.lloadN X0.here hx rfl (hb hby d11_38) rfl ?_
        show Steps p.tables e below (s₁.setTop (mkF m 39 #[.val (.long q1), .second, .val (.int p2), .val (.int p3), .val (.int (30 : Int32)), .val (.int p3)] [(.long q1), (.long (30 : Int64))])) _
        refine XS.lmul X0.here hx rfl (hb hby d11_39) rfl ?_
        show Steps p.tables e below (s₁.setTop (mkF m 40 #[.val (.long q1), .second, .val (.int p2), .val (.int p3), .val (.int (30 : Int32)), .val (.int p3)] [(.long ((30 : Int64) * q1))])) _
        refine XS.iload X0.here hx rfl (hb hby d11_40) rfl ?_
        show Steps p.tables e below (s₁.setTop (mkF m 42 #[.val (.long q1), .second, .val (.int p2), .val (.int p3), .val (.int (30 : Int32)), .val (.int p3)] [(.int p3), (.long ((30 : Int64) * q1))])) _
        refine XS.iload X0.here hx rfl (hb hby d11_42) rfl ?_
        show Steps p.tables e below (s₁.setTop (mkF m 44 #[.val (.long q1), .second, .val (.int p2), .val (.int p3), .val (.int (30 : Int32)), .val (.int p3)] [(.int (30 : Int32)), (.int p3), (.long ((30 : Int64) * q1))])) _
        refine XS.isub X0.here hx rfl (hb hby d11_44) rfl ?_
        show Steps p.tables e below (s₁.setTop (mkF m 45 #[.val (.long q1), .second, .val (.int p2), .val (.int p3), .val (.int (30 : Int32)), .val (.int p3)] [(.int (p3 - (30 : Int32))), (.long ((30 : Int64) * q1))])) _
        refine XS.i2l X0.here hx rfl (hb hby d11_45) rfl ?_
        show Steps p.tables e below (s₁.setTop (mkF m 46 #[.val (.long q1), .second, .val (.int p2), .val (.int p3), .val (.int (30 : Int32)), .val (.int p3)] [(.long ((p3 - (30 : Int32)).toInt64)), (.long ((30 : Int64) * q1))])) _
        refine XS.ladd X0.here hx rfl (hb hby d11_46) rfl ?_
        exact k
      obtain ⟨fs, hr, hrun, hended, hW, hsame⟩ := X0.leave (v := some (.long (((30 : Int64) * q1) + ((p3 - (30 : Int32)).toInt64)))) (fun h => by rw [hret] at h; cases h) (hlocks := hlocks)
      refine ⟨_, _, pre123 _ ?_, hrun, hended, _, _, rfl, ?_, ⟨_, rfl⟩, hW, hsame.mono (by decide) (by decide)⟩
      · show Steps p.tables e below (s₁.setTop (mkF m 47 #[.val (.long q1), .second, .val (.int p2), .val (.int p3), .val (.int (30 : Int32)), .val (.int p3)] [(.long (((30 : Int64) * q1) + ((p3 - (30 : Int32)).toInt64)))])) _
        exact Jvm.RoadKit.retOut X0 hx hret rfl (Or.inr (Or.inl ⟨rfl, rfl, _, rfl⟩)) (hb hby d11_47) hr
      · show Q11 Z q1 p2 p3 h0 n0 _ s₁.heap _
        exact ⟨(by rw [F11, if_pos hc113, if_neg hc116]), N0, e0⟩
  · have pre124 : ∀ t, Steps p.tables e below (s₁.setTop (mkF m 11 #[.val (.long q1), .second, .val (.int p2), .val (.int p3), .unset, .unset] [])) t → Steps p.tables e below (s₁.setTop (entryFrame m #[(.long q1), (.int p2), (.int p3)] 6)) t := by
      intro t k
      refine pre112 _ ?_
      show Steps p.tables e below (s₁.setTop (mkF m 3 #[.val (.long q1), .second, .val (.int p2), .val (.int p3), .unset, .unset] [(.int (31 : Int32)), (.int p2)])) _
      refine XS.icmpYes X0.here hx rfl (pc0 := 3) (pc' := 11) rfl (hb hby d11_3) rfl (feq hc113).2 (by decide) (by decide) ?_
      exact k
    have pre125 : ∀ t, Steps p.tables e below (s₁.setTop (mkF m 17 #[.val (.long q1), .second, .val (.int p2), .val (.int p3), .val (.int p2), .unset] [(.int (31 : Int32)), (.int p3)])) t → Steps p.tables e below (s₁.setTop (entryFrame m #[(.long q1), (.int p2), (.int p3)] 6)) t := by
      intro t k
      refine pre124 _ ?_
      show Steps p.tables e below (s₁.setTop (mkF m 11 #[.val (.long q1), .second, .val (.int p2), .val (.int p3), .unset, .unset] [])) _
      refine XS.iloadN X0.here hx rfl (hb hby d11_11) rfl ?_
      show Steps p.tables e below (s₁.setTop (mkF m 12 #[.val (.long q1), .second, .val (.int p2), .val (.int p3), .unset, .unset] [(.int p2)])) _
      refine XS.istore X0.here hx rfl (hb hby d11_12) rfl (l' := #[.val (.long q1), .second, .val (.int p2), .val (.int p3), .val (.int p2), .unset]) rfl ?_
      show Steps p.tables e below (s₁.setTop (mkF m 14 #[.val (.long q1), .second, .val (.int p2), .val (.int p3), .val (.int p2), .unset] [])) _
      refine XS.iloadN X0.here hx rfl (hb hby d11_14) rfl ?_
      show Steps p.tables e below (s₁.setTop (mkF m 15 #[.val (.long q1), .second, .val (.int p2), .val (.int p3), .val (.int p2), .unset] [(.int p3)])) _
      refine XS.bipush X0.here hx rfl (hb hby d11_15) ?_
      exact k
    by_cases hc126 : p3 = (31 : Int32)
    · have pre127 : ∀ t, Steps p.tables e below (s₁.setTop (mkF m 20 #[.val (.long q1), .second, .val (.int p2), .val (.int p3), .val (.int p2), .unset] [])) t → Steps p.tables e below (s₁.setTop (entryFrame m #[(.long q1), (.int p2), (.int p3)] 6)) t := by
        intro t k
        refine pre125 _ ?_
        show Steps p.tables e below (s₁.setTop (mkF m 17 #[.val (.long q1), .second, .val (.int p2), .val (.int p3), .val (.int p2), .unset] [(.int (31 : Int32)), (.int p3)])) _
        refine XS.icmpNo X0.here hx rfl (hb hby d11_17) rfl (teq hc126).2 ?_
        exact k
      have pre128 : ∀ t, Steps p.tables e below (s₁.setTop (mkF m 24 #[.val (.long q1), .second, .val (.int p2), .val (.int p3), .val (.int p2), .unset] [(.int (30 : Int32)), (.int p2)])) t → Steps p.tables e below (s₁.setTop (entryFrame m #[(.long q1), (.int p2), (.int p3)] 6)) t := by
        intro t k
        refine pre127 _ ?_
        show Steps p.tables e below (s₁.setTop (mkF m 20 #[.val (.long q1), .second, .val (.int p2), .val (.int p3), .val (.int p2), .unset] [])) _
        refine XS.iload X0.here hx rfl (hb hby d11_20) rfl ?_
        show Steps p.tables e below (s₁.setTop (mkF m 22 #[.val (.long q1), .second, .val (.int p2), .val (.int p3), .val (.int p2), .unset] [(.int p2)])) _
        refine XS.bipush X0.here hx rfl (hb hby d11_22) ?_
        exact k
      by_cases hc129 : p2 = (30 : Int32)
      · have pre130 : ∀ t, Steps p.tables e below (s₁.setTop (mkF m 27 #[.val (.long q1), .second, .val (.int p2), .val (.int p3), .val (.int p2), .unset] [])) t → Steps p.tables e below (s₁.setTop (entryFrame m #[(.long q1), (.int p2), (.int p3)] 6)) t := by
          intro t k
          refine pre128 _ ?_
          show Steps p.tables e below (s₁.setTop (mkF m 24 #[.val (.long q1), .second, .val (.int p2), .val (.int p3), .val (.int p2), .unset] [(.int (30 : Int32)), (.int p2)])) _
          refine XS.icmpNo X0.here hx rfl (hb hby d11_24) rfl (teq hc129).2 ?_
          exact k
        have pre131 : ∀ t, Steps p.tables e below (s₁.setTop (mkF m 47 #[.val (.long q1), .second, .val (.int p2), .val (.int p3), .val (.int p2), .val (.int (30 : Int32))] [(.long (((30 : Int64) * q1) + (((30 : Int32) - p2).toInt64)))])) t → Steps p.tables e below (s₁.setTop (entryFrame m #[(.long q1), (.int p2), (.int p3)] 6)) t := by
          intro t k
          refine pre130 _ ?_
          show Steps p.tables e below (s₁.setTop (mkF m 27 #[.val (.long q1), .second, .val (.int p2), .val (.int p3), .val (.int p2), .unset] [])) _
          refine XS.bipush X0.here hx rfl (hb hby d11_27) ?_
          show Steps p.tables e below (s₁.setTop (mkF m 29 #[.val (.long q1), .second, .val (.int p2), .val (.int p3), .val (.int p2), .unset] [(.int (30 : Int32))])) _
          refine XS.goto X0.here hx rfl (pc0 := 29) (pc' := 33) rfl (hb hby d11_29) (by decide) (by decide) ?_
          show Steps p.tables e below (s₁.setTop (mkF m 33 #[.val (.long q1), .second, .val (.int p2), .val (.int p3), .val (.int p2), .unset] [(.int (30 : Int32))])) _
          refine XS.istore X0.here hx rfl (hb hby d11_33) rfl (l' := #[.val (.long q1), .second, .val (.int p2), .val (.int p3), .val (.int p2), .val (.int (30 : Int32))]) rfl ?_
          show Steps p.tables e below (s₁.setTop (mkF m 35 #[.val (.long q1), .second, .val (.int p2), .val (.int p3), .val (.int p2), .val (.int (30 : Int32))] [])) _
          refine X0.ldc2Long hx hown (mvT hZ (hw _ (List.mem_of_getElem? (i := 72) rfl))) (g := (mkF m 35 #[.val (.long q1), .second, .val (.int p2), .val (.int p3), .val (.int p2), .val (.int (30 : Int32))] [])) rfl (hb hby d11_35) _ ?_
          show Steps p.tables e below (s₁.setTop (mkF m 38 #[.val (.long q1), .second, .val (.int p2), .val (.int p3), .val (.int p2), .val (.int (30 : Int32))] [(.long (30 : Int64))])) _
          refine XS.lloadN X0.here hx rfl (hb hby d11_38) rfl ?_
          show Steps p.tables e below (s₁.setTop (mkF m 39 #[.val (.long q1), .second, .val (.int p2), .val (.int p3), .val (.int p2), .val (.int (30 : Int32))] [(.long q1), (.long (30 : Int64))])) _
          refine XS.lmul X0.here hx rfl (hb hby d11_39) rfl ?_
          show Steps p.tables e below (s₁.setTop (mkF m 40 #[.val (.long q1), .second, .val (.int p2), .val (.int p3), .val (.int p2), .val (.int (30 : Int32))] [(.long ((30 : Int64) * q1))])) _
          refine XS.iload X0.here hx rfl (hb hby d11_40) rfl ?_
          show Steps p.tables e below (s₁.setTop (mkF m 42 #[.val (.long q1), .second, .val (.int p2), .val (.int p3), .val (.int p2), .val (.int (30 : Int32))] [(.int (30 : Int32)), (.long ((30 : Int64) * q1))])) _
          refine XS.iload X0.here hx rfl (hb hby d11_42) rfl ?_
          show Steps p.tables e below (s₁.setTop (mkF m 44 #[.val (.long q1), .second, .val (.int p2), .val (.int p3), .val (.int p2), .val (.int (30 : Int32))] [(.int p2), (.int (30 : Int32)), (.long ((30 : Int64) * q1))])) _
          refine XS.isub X0.here hx rfl (hb hby d11_44) rfl ?_
          show Steps p.tables e below (s₁.setTop (mkF m 45 #[.val (.long q1), .second, .val (.int p2), .val (.int p3), .val (.int p2), .val (.int (30 : Int32))] [(.int ((30 : Int32) - p2)), (.long ((30 : Int64) * q1))])) _
          refine XS.i2l X0.here hx rfl (hb hby d11_45) rfl ?_
          show Steps p.tables e below (s₁.setTop (mkF m 46 #[.val (.long q1), .second, .val (.int p2), .val (.int p3), .val (.int p2), .val (.int (30 : Int32))] [(.long (((30 : Int32) - p2).toInt64)), (.long ((30 : Int64) * q1))])) _
          refine XS.ladd X0.here hx rfl (hb hby d11_46) rfl ?_
          exact k
        obtain ⟨fs, hr, hrun, hended, hW, hsame⟩ := X0.leave (v := some (.long (((30 : Int64) * q1) + (((30 : Int32) - p2).toInt64)))) (fun h => by rw [hret] at h; cases h) (hlocks := hlocks)
        refine ⟨_, _, pre131 _ ?_, hrun, hended, _, _, rfl, ?_, ⟨_, rfl⟩, hW, hsame.mono (by decide) (by decide)⟩
        · show Steps p.tables e below (s₁.setTop (mkF m 47 #[.val (.long q1), .second, .val (.int p2), .val (.int p3), .val (.int p2), .val (.int (30 : Int32))] [(.long (((30 : Int64) * q1) + (((30 : Int32) - p2).toInt64)))])) _
          exact Jvm.RoadKit.retOut X0 hx hret rfl (Or.inr (Or.inl ⟨rfl, rfl, _, rfl⟩)) (hb hby d11_47) hr
        · show Q11 Z q1 p2 p3 h0 n0 _ s₁.heap _
          exact ⟨(by rw [F11, if_neg hc113, if_pos hc126, if_pos hc129]), N0, e0⟩
      · have pre132 : ∀ t, Steps p.tables e below (s₁.setTop (mkF m 32 #[.val (.long q1), .second, .val (.int p2), .val (.int p3), .val (.int p2), .unset] [])) t → Steps p.tables e below (s₁.setTop (entryFrame m #[(.long q1), (.int p2), (.int p3)] 6)) t := by
          intro t k
          refine pre128 _ ?_
          show Steps p.tables e below (s₁.setTop (mkF m 24 #[.val (.long q1), .second, .val (.int p2), .val (.int p3), .val (.int p2), .unset] [(.int (30 : Int32)), (.int p2)])) _
          refine XS.icmpYes X0.here hx rfl (pc0 := 24) (pc' := 32) rfl (hb hby d11_24) rfl (feq hc129).2 (by decide) (by decide) ?_
          exact k
        have pre133 : ∀ t, Steps p.tables e below (s₁.setTop (mkF m 47 #[.val (.long q1), .second, .val (.int p2), .val (.int p3), .val (.int p2), .val (.int p3)] [(.long (((30 : Int64) * q1) + ((p3 - p2).toInt64)))])) t → Steps p.tables e below (s₁.setTop (entryFrame m #[(.long q1), (.int p2), (.int p3)] 6)) t := by
          intro t k
          refine pre132 _ ?_
          show Steps p.tables e below (s₁.setTop (mkF m 32 #[.val (.long q1), .second, .val (.int p2), .val (.int p3), .val (.int p2), .unset] [])) _
          refine XS.iloadN X0.here hx rfl (hb hby d11_32) rfl ?_
          show Steps p.tables e below (s₁.setTop (mkF m 33 #[.val (.long q1), .second, .val (.int p2), .val (.int p3), .val (.int p2), .unset] [(.int p3)])) _
          refine XS.istore X0.here hx rfl (hb hby d11_33) rfl (l' := #[.val (.long q1), .second, .val (.int p2), .val (.int p3), .val (.int p2), .val (.int p3)]) rfl ?_
          show Steps p.tables e below (s₁.setTop (mkF m 35 #[.val (.long q1), .second, .val (.int p2), .val (.int p3), .val (.int p2), .val (.int p3)] [])) _
          refine X0.ldc2Long hx hown (mvT hZ (hw _ (List.mem_of_getElem? (i := 72) rfl))) (g := (mkF m 35 #[.val (.long q1), .second, .val (.int p2), .val (.int p3), .val (.int p2), .val (.int p3)] [])) rfl (hb hby d11_35) _ ?_
          show Steps p.tables e below (s₁.setTop (mkF m 38 #[.val (.long q1), .second, .val (.int p2), .val (.int p3), .val (.int p2), .val (.int p3)] [(.long (30 : Int64))])) _
          refine XS.lloadN X0.here hx rfl (hb hby d11_38) rfl ?_
          show Steps p.tables e below (s₁.setTop (mkF m 39 #[.val (.long q1), .second, .val (.int p2), .val (.int p3), .val (.int p2), .val (.int p3)] [(.long q1), (.long (30 : Int64))])) _
          refine XS.lmul X0.here hx rfl (hb hby d11_39) rfl ?_
          show Steps p.tables e below (s₁.setTop (mkF m 40 #[.val (.long q1), .second, .val (.int p2), .val (.int p3), .val (.int p2), .val (.int p3)] [(.long ((30 : Int64) * q1))])) _
          refine XS.iload X0.here hx rfl (hb hby d11_40) rfl ?_
          show Steps p.tables e below (s₁.setTop (mkF m 42 #[.val (.long q1), .second, .val (.int p2), .val (.int p3), .val (.int p2), .val (.int p3)] [(.int p3), (.long ((30 : Int64) * q1))])) _
          refine XS.iload X0.here hx rfl (hb hby d11_42) rfl ?_
          show Steps p.tables e below (s₁.setTop (mkF m 44 #[.val (.long q1), .second, .val (.int p2), .val (.int p3), .val (.int p2), .val (.int p3)] [(.int p2), (.int p3), (.long ((30 : Int64) * q1))])) _
          refine XS.isub X0.here hx rfl (hb hby d11_44) rfl ?_
          show Steps p.tables e below (s₁.setTop (mkF m 45 #[.val (.long q1), .second, .val (.int p2), .val (.int p3), .val (.int p2), .val (.int p3)] [(.int (p3 - p2)), (.long ((30 : Int64) * q1))])) _
          refine XS.i2l X0.here hx rfl (hb hby d11_45) rfl ?_
          show Steps p.tables e below (s₁.setTop (mkF m 46 #[.val (.long q1), .second, .val (.int p2), .val (.int p3), .val (.int p2), .val (.int p3)] [(.long ((p3 - p2).toInt64)), (.long ((30 : Int64) * q1))])) _
          refine XS.ladd X0.here hx rfl (hb hby d11_46) rfl ?_
          exact k
        obtain ⟨fs, hr, hrun, hended, hW, hsame⟩ := X0.leave (v := some (.long (((30 : Int64) * q1) + ((p3 - p2).toInt64)))) (fun h => by rw [hret] at h; cases h) (hlocks := hlocks)
        refine ⟨_, _, pre133 _ ?_, hrun, hended, _, _, rfl, ?_, ⟨_, rfl⟩, hW, hsame.mono (by decide) (by decide)⟩
        · show Steps p.tables e below (s₁.setTop (mkF m 47 #[.val (.long q1), .second, .val (.int p2), .val (.int p3), .val (.int p2), .val (.int p3)] [(.long (((30 : Int64) * q1) + ((p3 - p2).toInt64)))])) _
          exact Jvm.RoadKit.retOut X0 hx hret rfl (Or.inr (Or.inl ⟨rfl, rfl, _, rfl⟩)) (hb hby d11_47) hr
        · show Q11 Z q1 p2 p3 h0 n0 _ s₁.heap _
          exact ⟨(by rw [F11, if_neg hc113, if_pos hc126, if_neg hc129]), N0, e0⟩
    · have pre134 : ∀ t, Steps p.tables e below (s₁.setTop (mkF m 32 #[.val (.long q1), .second, .val (.int p2), .val (.int p3), .val (.int p2), .unset] [])) t → Steps p.tables e below (s₁.setTop (entryFrame m #[(.long q1), (.int p2), (.int p3)] 6)) t := by
        intro t k
        refine pre125 _ ?_
        show Steps p.tables e below (s₁.setTop (mkF m 17 #[.val (.long q1), .second, .val (.int p2), .val (.int p3), .val (.int p2), .unset] [(.int (31 : Int32)), (.int p3)])) _
        refine XS.icmpYes X0.here hx rfl (pc0 := 17) (pc' := 32) rfl (hb hby d11_17) rfl (feq hc126).2 (by decide) (by decide) ?_
        exact k
      have pre135 : ∀ t, Steps p.tables e below (s₁.setTop (mkF m 47 #[.val (.long q1), .second, .val (.int p2), .val (.int p3), .val (.int p2), .val (.int p3)] [(.long (((30 : Int64) * q1) + ((p3 - p2).toInt64)))])) t → Steps p.tables e below (s₁.setTop (entryFrame m #[(.long q1), (.int p2), (.int p3)] 6)) t := by
        intro t k
        refine pre134 _ ?_
        show Steps p.tables e below (s₁.setTop (mkF m 32 #[.val (.long q1), .second, .val (.int p2), .val (.int p3), .val (.int p2), .unset] [])) _
        refine XS.iloadN X0.here hx rfl (hb hby d11_32) rfl ?_
        show Steps p.tables e below (s₁.setTop (mkF m 33 #[.val (.long q1), .second, .val (.int p2), .val (.int p3), .val (.int p2), .unset] [(.int p3)])) _
        refine XS.istore X0.here hx rfl (hb hby d11_33) rfl (l' := #[.val (.long q1), .second, .val (.int p2), .val (.int p3), .val (.int p2), .val (.int p3)]) rfl ?_
        show Steps p.tables e below (s₁.setTop (mkF m 35 #[.val (.long q1), .second, .val (.int p2), .val (.int p3), .val (.int p2), .val (.int p3)] [])) _
        refine X0.ldc2Long hx hown (mvT hZ (hw _ (List.mem_of_getElem? (i := 72) rfl))) (g := (mkF m 35 #[.val (.long q1), .second, .val (.int p2), .val (.int p3), .val (.int p2), .val (.int p3)] [])) rfl (hb hby d11_35) _ ?_
        show Steps p.tables e below (s₁.setTop (mkF m 38 #[.val (.long q1), .second, .val (.int p2), .val (.int p3), .val (.int p2), .val (.int p3)] [(.long (30 : Int64))])) _
        refine XS.lloadN X0.here hx rfl (hb hby d11_38) rfl ?_
        show Steps p.tables e below (s₁.setTop (mkF m 39 #[.val (.long q1), .second, .val (.int p2), .val (.int p3), .val (.int p2), .val (.int p3)] [(.long q1), (.long (30 : Int64))])) _
        refine XS.lmul X0.here hx rfl (hb hby d11_39) rfl ?_
        show Steps p.tables e below (s₁.setTop (mkF m 40 #[.val (.long q1), .second, .val (.int p2), .val (.int p3), .val (.int p2), .val (.int p3)] [(.long ((30 : Int64) * q1))])) _
        refine XS.iload X0.here hx rfl (hb hby d11_40) rfl ?_
        show Steps p.tables e below (s₁.setTop (mkF m 42 #[.val (.long q1), .second, .val (.int p2), .val (.int p3), .val (.int p2), .val (.int p3)] [(.int p3), (.long ((30 : Int64) * q1))])) _
        refine XS.iload X0.here hx rfl (hb hby d11_42) rfl ?_
        show Steps p.tables e below (s₁.setTop (mkF m 44 #[.val (.long q1), .second, .val (.int p2), .val (.int p3), .val (.int p2), .val (.int p3)] [(.int p2), (.int p3), (.long ((30 : Int64) * q1))])) _
        refine XS.isub X0.here hx rfl (hb hby d11_44) rfl ?_
        show Steps p.tables e below (s₁.setTop (mkF m 45 #[.val (.long q1), .second, .val (.int p2), .val (.int p3), .val (.int p2), .val (.int p3)] [(.int (p3 - p2)), (.long ((30 : Int64) * q1))])) _
        refine XS.i2l X0.here hx rfl (hb hby d11_45) rfl ?_
        show Steps p.tables e below (s₁.setTop (mkF m 46 #[.val (.long q1), .second, .val (.int p2), .val (.int p3), .val (.int p2), .val (.int p3)] [(.long ((p3 - p2).toInt64)), (.long ((30 : Int64) * q1))])) _
        refine XS.ladd X0.here hx rfl (hb hby d11_46) rfl ?_
        exact k
      obtain ⟨fs, hr, hrun, hended, hW, hsame⟩ := X0.leave (v := some (.long (((30 : Int64) * q1) + ((p3 - p2).toInt64)))) (fun h => by rw [hret] at h; cases h) (hlocks := hlocks)
      refine ⟨_, _, pre135 _ ?_, hrun, hended, _, _, rfl, ?_, ⟨_, rfl⟩, hW, hsame.mono (by decide) (by decide)⟩
      · show Steps p.tables e below (s₁.setTop (mkF m 47 #[.val (.long q1), .second, .val (.int p2), .val (.int p3), .val (.int p2), .val (.int p3)] [(.long (((30 : Int64) * q1) + ((p3 - p2).toInt64)))])) _
        exact Jvm.RoadKit.retOut X0 hx hret rfl (Or.inr (Or.inl ⟨rfl, rfl, _, rfl⟩)) (hb hby d11_47) hr
      · show Q11 Z q1 p2 p3 h0 n0 _ s₁.heap _
        exact ⟨(by rw [F11, if_neg hc113, if_neg hc126]), N0, e0⟩
theorem d3_0 : decode jdk_37_method_2_code 0 = .ok (.aload_n 0, 1) := by decide +kernel
theorem d3_1 : decode jdk_37_method_2_code 1 = .ok (.getfield 7, 3) := by decide +kernel
theorem d3_4 : decode jdk_37_method_2_code 4 = .ok (.ireturn, 1) := by decide +kernel
theorem pn_3 : plainName "java/lang/Enum" = true := by first | (simp [plainName, overriddenIn]; done) | decide +kernel
theorem ef_3 (m : MethodId) (x0 : Addr) : entryFrame m #[(.ref x0)] 1 = mkF m 0 #[.val (.ref x0)] [] := by first | (simp [entryFrame, mkF, argsToLocals, Value.category]; done) | rfl
def F3 (f_ordinal_a1 : Int32) : Int32 :=
  f_ordinal_a1
def Q3 (Z : State) (a1 : Addr) (f_ordinal_a1 : Int32) (h0 : Heap) (n0 : Nat) (v : Option Value) (h : Heap) (L : List Loc) : Prop := v = some (.int (F3 f_ordinal_a1)) ∧ Fr n0 L ∧ h = h0
set_option maxRecDepth 65536 in
set_option maxHeartbeats 40000000 in
theorem rm3 (l : Launch) (Z : State) (a0 : Array Value) (hw : ∀ d ∈ tables_1, d.before a0 Z = true) (ws : List Jvm.Cond) (a1 : Addr) (f_ordinal_a1 : Int32) (h0 : Heap) (n0 : Nat) (Z0 : n0 ≤ h0.size) (F_f_ordinal_a1 : Fld Z h0 a1 "java/lang/Enum" "ordinal" "I" (.int f_ordinal_a1)) :
    MetFree l (⟨"java/lang/Enum", "ordinal", "()I"⟩ : MethodName) (head1 (Jvm.Cond.code (⟨"java/lang/Enum", "ordinal", "()I"⟩ : MethodName) jdk_37_method_2_code 1 (some .int) :: ws) ({ frames := 0, cells := 0, slots := 0, locals := 0 } : Room)) (fun a U => a = #[(.ref a1)] ∧ Z.Warmed39 U.vm ∧ U.heap = h0) (fun _ _ _ _ _ => True) (fun _ U o U' => ∃ v L, o = .returned v ∧ Q3 Z a1 f_ordinal_a1 h0 n0 v U'.heap L ∧ FrameEnd U o U' L ({ frames := 0, cells := 0, slots := 0, locals := 0 } : Room).cells ({ frames := 0, cells := 0, slots := 0, locals := 0 } : Room).slots) := by
  refine MetFree.of_bodySF (plainFor_of_name pn_3) hisR ?_
  intro p e s m args below meth c s₁ Bd hml0 hP hK
  obtain ⟨rfl, hZ, hh⟩ := hP
  have hx := Bd.exec
  have hby := Bd.bytes
  have hml : c.maxLocals = 1 := hml0
  have hown : s.vm.findClass "java/lang/Enum" = some m.cls := findClass_of_methodNamed Bd.named
  have hnm := (name_of_methodNamed Bd.named Bd.method).1
  have hret := Bd.returns
  have hlocks : meth.locks = false := Bd.notSynchronized
  have X0 : Stand p l e ({ frames := 0, cells := 0, slots := 0, locals := 0 } : Room) s m #[(.ref a1)] below meth c s₁ [] 0 0 := Stand.of_body Bd
  have e0 : s₁.heap = h0 := by rw [← hh, Bd.state]; rfl
  have N0 := Fr.nil n0
  have pre0 : ∀ t, Steps p.tables e below (s₁.setTop (mkF m 0 #[.val (.ref a1)] [])) t → Steps p.tables e below (s₁.setTop (entryFrame m #[(.ref a1)] 1)) t := fun t k => castTop (ef_3 m a1) k
  have pre136 : ∀ t, Steps p.tables e below (s₁.setTop (mkF m 1 #[.val (.ref a1)] [(.ref a1)])) t → Steps p.tables e below (s₁.setTop (entryFrame m #[(.ref a1)] 1)) t := by
    intro t k
    refine pre0 _ ?_
    show Steps p.tables e below (s₁.setTop (mkF m 0 #[.val (.ref a1)] [])) _
    refine XS.aloadN X0.here hx rfl (hb hby d3_0) rfl rfl ?_
    exact k
  obtain ⟨T137, X137, e137, st137⟩ := getF X0 hx hZ hown (host := "") (Or.inl (hw _ (List.mem_of_getElem? (i := 24) rfl))) Via.refl e0 F_f_ordinal_a1 (g := (mkF m 1 #[.val (.ref a1)] [(.ref a1)])) rfl rfl (hb hby d3_1)
  have pre138 : ∀ t, Steps p.tables e below (T137.setTop (mkF m 4 #[.val (.ref a1)] [(.int f_ordinal_a1)])) t → Steps p.tables e below (s₁.setTop (entryFrame m #[(.ref a1)] 1)) t := by
    intro t k
    refine pre136 _ ?_
    show Steps p.tables e below (s₁.setTop (mkF m 1 #[.val (.ref a1)] [(.ref a1)])) _
    refine st137 _ ?_
    exact k
  obtain ⟨fs, hr, hrun, hended, hW, hsame⟩ := X137.leave (v := some (.int f_ordinal_a1)) (fun h => by rw [hret] at h; cases h) (hlocks := hlocks)
  refine ⟨_, _, pre138 _ ?_, hrun, hended, _, _, rfl, ?_, ⟨_, rfl⟩, hW, hsame.mono (by decide) (by decide)⟩
  · show Steps p.tables e below (T137.setTop (mkF m 4 #[.val (.ref a1)] [(.int f_ordinal_a1)])) _
    exact retI X137 hx hret (hb hby d3_4) hr
  · show Q3 Z a1 f_ordinal_a1 h0 n0 _ T137.heap _
    exact ⟨(by rw [F3]), N0, e137⟩
def own_dbm (j : Int32) : Int32 := if j = 0 then 0 else if j = 1 then 31 else if j = 2 then 59 else if j = 3 then 90 else if j = 4 then 120 else if j = 5 then 151 else if j = 6 then 181 else if j = 7 then 212 else if j = 8 then 243 else if j = 9 then 273 else if j = 10 then 304 else 334
theorem own_add {x y : Int64} (h : -9223372036854775808 ≤ x.toInt + y.toInt ∧ x.toInt + y.toInt < 9223372036854775808) : (x + y).toInt = x.toInt + y.toInt := by
  have a := c_ladd x y
  have b := rng64 (x + y)
  omega
theorem own_sub {x y : Int64} (h : -9223372036854775808 ≤ x.toInt - y.toInt ∧ x.toInt - y.toInt < 9223372036854775808) : (x - y).toInt = x.toInt - y.toInt := by
  have a := c_lsub x y
  have b := rng64 (x - y)
  omega
theorem own_mulc {x y : Int64} {c : Int} (hy : y.toInt = c) (h : -9223372036854775808 ≤ x.toInt * c ∧ x.toInt * c < 9223372036854775808) : (x * y).toInt = x.toInt * c := by
  have a := c_lmul x y
  have b := rng64 (x * y)
  rw [hy] at a
  omega
theorem own_cmul {x y : Int64} {c : Int} (hx : x.toInt = c) (h : -9223372036854775808 ≤ c * y.toInt ∧ c * y.toInt < 9223372036854775808) : (x * y).toInt = c * y.toInt := by
  have a := c_lmul x y
  have b := rng64 (x * y)
  rw [hx] at a
  omega
theorem own_xor (q y : Int64) (hy : 0 ≤ y.toInt) : (q ^^^ y) < 0 ↔ q < 0 := by
  have n0 : (0 : Int64).toInt = 0 := by decide
  rw [Int64.lt_iff_toInt_lt, Int64.lt_iff_toInt_lt, n0]
  have a : (q ^^^ y).toBitVec.msb = decide ((q ^^^ y).toInt < 0) := BitVec.msb_eq_toInt
  have b : q.toBitVec.msb = decide (q.toInt < 0) := BitVec.msb_eq_toInt
  have d : y.toBitVec.msb = decide (y.toInt < 0) := BitVec.msb_eq_toInt
  have hy' : decide (y.toInt < 0) = false := by simp; exact hy
  rw [hy'] at d
  rw [Int64.toBitVec_xor, BitVec.msb_xor, d, Bool.xor_false, b] at a
  exact (decide_eq_decide.mp a).symm
theorem own_fd4 (q : Int64) : (F5 q (4 : Int32)).toInt = q.toInt / 4 := by
  unfold F5 F6
  have e : ((4 : Int32).toInt64) = (4 : Int64) := by decide
  rw [e]
  have hy : (4 : Int64).toInt = 4 := by decide
  have dv := c_ldiv q 4 4 hy (by decide)
  have rg := rng64 q
  have x0 := own_xor q 4 (by rw [hy]; decide)
  have n0 : (0 : Int64).toInt = 0 := by decide
  have n1 : (1 : Int64).toInt = 1 := by decide
  simp only [lw_lt, lw_eq]
  have mu := c_lmul (q / 4) 4
  have rm := rng64 (q / 4 * 4)
  have sb := c_lsub (q / 4) 1
  have rs := rng64 (q / 4 - 1)
  rw [hy] at mu
  rw [n1] at sb
  by_cases h : q.toInt < 0
  · have hx : (q ^^^ 4) < 0 := x0.mpr (by rw [Int64.lt_iff_toInt_lt, n0]; exact h)
    rw [if_pos hx]
    have d := dv.2 h
    have mu2 : (q / 4 * 4).toInt = (q / 4).toInt * 4 := by omega
    have sb2 : (q / 4 - 1).toInt = (q / 4).toInt - 1 := by omega
    clear mu rm sb rs
    split
    · rename_i he; rw [← Int64.toInt_inj, mu2] at he; omega
    · rename_i he; rw [← Int64.toInt_inj, mu2] at he; rw [sb2]; omega
  · have hx : ¬ (q ^^^ 4) < 0 := fun hh => h (by have := x0.mp hh; rw [Int64.lt_iff_toInt_lt, n0] at this; exact this)
    rw [if_neg hx]; exact dv.1 (by omega)
theorem own_fd12 (q : Int64) : (F5 q (12 : Int32)).toInt = q.toInt / 12 := by
  unfold F5 F6
  have e : ((12 : Int32).toInt64) = (12 : Int64) := by decide
  rw [e]
  have hy : (12 : Int64).toInt = 12 := by decide
  have dv := c_ldiv q 12 12 hy (by decide)
  have rg := rng64 q
  have x0 := own_xor q 12 (by rw [hy]; decide)
  have n0 : (0 : Int64).toInt = 0 := by decide
  have n1 : (1 : Int64).toInt = 1 := by decide
  simp only [lw_lt, lw_eq]
  have mu := c_lmul (q / 12) 12
  have rm := rng64 (q / 12 * 12)
  have sb := c_lsub (q / 12) 1
  have rs := rng64 (q / 12 - 1)
  rw [hy] at mu
  rw [n1] at sb
  by_cases h : q.toInt < 0
  · have hx : (q ^^^ 12) < 0 := x0.mpr (by rw [Int64.lt_iff_toInt_lt, n0]; exact h)
    rw [if_pos hx]
    have d := dv.2 h
    have mu2 : (q / 12 * 12).toInt = (q / 12).toInt * 12 := by omega
    have sb2 : (q / 12 - 1).toInt = (q / 12).toInt - 1 := by omega
    clear mu rm sb rs
    split
    · rename_i he; rw [← Int64.toInt_inj, mu2] at he; omega
    · rename_i he; rw [← Int64.toInt_inj, mu2] at he; rw [sb2]; omega
  · have hx : ¬ (q ^^^ 12) < 0 := fun hh => h (by have := x0.mp hh; rw [Int64.lt_iff_toInt_lt, n0] at this; exact this)
    rw [if_neg hx]; exact dv.1 (by omega)
theorem own_fd100 (q : Int64) : (F5 q (100 : Int32)).toInt = q.toInt / 100 := by
  unfold F5 F6
  have e : ((100 : Int32).toInt64) = (100 : Int64) := by decide
  rw [e]
  have hy : (100 : Int64).toInt = 100 := by decide
  have dv := c_ldiv q 100 100 hy (by decide)
  have rg := rng64 q
  have x0 := own_xor q 100 (by rw [hy]; decide)
  have n0 : (0 : Int64).toInt = 0 := by decide
  have n1 : (1 : Int64).toInt = 1 := by decide
  simp only [lw_lt, lw_eq]
  have mu := c_lmul (q / 100) 100
  have rm := rng64 (q / 100 * 100)
  have sb := c_lsub (q / 100) 1
  have rs := rng64 (q / 100 - 1)
  rw [hy] at mu
  rw [n1] at sb
  by_cases h : q.toInt < 0
  · have hx : (q ^^^ 100) < 0 := x0.mpr (by rw [Int64.lt_iff_toInt_lt, n0]; exact h)
    rw [if_pos hx]
    have d := dv.2 h
    have mu2 : (q / 100 * 100).toInt = (q / 100).toInt * 100 := by omega
    have sb2 : (q / 100 - 1).toInt = (q / 100).toInt - 1 := by omega
    clear mu rm sb rs
    split
    · rename_i he; rw [← Int64.toInt_inj, mu2] at he; omega
    · rename_i he; rw [← Int64.toInt_inj, mu2] at he; rw [sb2]; omega
  · have hx : ¬ (q ^^^ 100) < 0 := fun hh => h (by have := x0.mp hh; rw [Int64.lt_iff_toInt_lt, n0] at this; exact this)
    rw [if_neg hx]; exact dv.1 (by omega)
theorem own_fd400 (q : Int64) : (F5 q (400 : Int32)).toInt = q.toInt / 400 := by
  unfold F5 F6
  have e : ((400 : Int32).toInt64) = (400 : Int64) := by decide
  rw [e]
  have hy : (400 : Int64).toInt = 400 := by decide
  have dv := c_ldiv q 400 400 hy (by decide)
  have rg := rng64 q
  have x0 := own_xor q 400 (by rw [hy]; decide)
  have n0 : (0 : Int64).toInt = 0 := by decide
  have n1 : (1 : Int64).toInt = 1 := by decide
  simp only [lw_lt, lw_eq]
  have mu := c_lmul (q / 400) 400
  have rm := rng64 (q / 400 * 400)
  have sb := c_lsub (q / 400) 1
  have rs := rng64 (q / 400 - 1)
  rw [hy] at mu
  rw [n1] at sb
  by_cases h : q.toInt < 0
  · have hx : (q ^^^ 400) < 0 := x0.mpr (by rw [Int64.lt_iff_toInt_lt, n0]; exact h)
    rw [if_pos hx]
    have d := dv.2 h
    have mu2 : (q / 400 * 400).toInt = (q / 400).toInt * 400 := by omega
    have sb2 : (q / 400 - 1).toInt = (q / 400).toInt - 1 := by omega
    clear mu rm sb rs
    split
    · rename_i he; rw [← Int64.toInt_inj, mu2] at he; omega
    · rename_i he; rw [← Int64.toInt_inj, mu2] at he; rw [sb2]; omega
  · have hx : ¬ (q ^^^ 400) < 0 := fun hh => h (by have := x0.mp hh; rw [Int64.lt_iff_toInt_lt, n0] at this; exact this)
    rw [if_neg hx]; exact dv.1 (by omega)
theorem own_fmv (q : Int64) : (F7 q (12 : Int32)).toInt = q.toInt % 12 := by
  unfold F7 F8
  have e : ((12 : Int32).toInt64) = (12 : Int64) := by decide
  rw [e]
  have hy : (12 : Int64).toInt = 12 := by decide
  have rv := c_lrem q 12 12 hy
  have rg := rng64 q
  have x0 := own_xor q 12 (by rw [hy]; decide)
  have n0 : (0 : Int64).toInt = 0 := by decide
  simp only [lw_lt, lw_eq]
  generalize hz : q - q / 12 * 12 = z at *
  have ad := c_ladd z 12
  have ra := rng64 (z + 12)
  rw [hy] at ad
  have l1 := c_l2i z
  have l2 := c_l2i (z + 12)
  have r1 := rng32 z.toInt32
  have r2 := rng32 (z + 12).toInt32
  by_cases h : q.toInt < 0
  · have hx : (q ^^^ 12) < 0 := x0.mpr (by rw [Int64.lt_iff_toInt_lt, n0]; exact h)
    rw [if_pos hx]
    have d := rv.2 h
    split
    · rename_i he; rw [← Int64.toInt_inj, n0] at he; omega
    · rename_i he; rw [← Int64.toInt_inj, n0] at he; omega
  · have hx : ¬ (q ^^^ 12) < 0 := fun hh => h (by have := x0.mp hh; rw [Int64.lt_iff_toInt_lt, n0] at this; exact this)
    rw [if_neg hx]
    have d := rv.1 (by omega)
    omega
theorem own_fm (q : Int64) : 0 ≤ (F7 q (12 : Int32)).toInt ∧ (F7 q (12 : Int32)).toInt < 12 := by
  rw [own_fmv]; omega

theorem d4_0 : decode prog_2_method_14_code 0 = .ok (.lload_n 0, 1) := by decide +kernel
theorem d4_1 : decode prog_2_method_14_code 1 = .ok (.bipush 12, 2) := by decide +kernel
theorem d4_3 : decode prog_2_method_14_code 3 = .ok (.invokestatic 248, 3) := by decide +kernel
theorem pd__JI_J : parseMethodDescriptor "(JI)J" = some ⟨[.long, .int], some .long⟩ := by decide +kernel
theorem d4_6 : decode prog_2_method_14_code 6 = .ok (.lstore_n 3, 1) := by decide +kernel
theorem d4_7 : decode prog_2_method_14_code 7 = .ok (.lload_n 0, 1) := by decide +kernel
theorem d4_8 : decode prog_2_method_14_code 8 = .ok (.bipush 12, 2) := by decide +kernel
theorem d4_10 : decode prog_2_method_14_code 10 = .ok (.invokestatic 251, 3) := by decide +kernel
theorem pd__JI_I : parseMethodDescriptor "(JI)I" = some ⟨[.long, .int], some .int⟩ := by decide +kernel
theorem d4_13 : decode prog_2_method_14_code 13 = .ok (.istore 5, 2) := by decide +kernel
theorem d4_15 : decode prog_2_method_14_code 15 = .ok (.lload_n 3, 1) := by decide +kernel
theorem d4_16 : decode prog_2_method_14_code 16 = .ok (.ldc2_w 255, 3) := by decide +kernel
theorem d4_19 : decode prog_2_method_14_code 19 = .ok (.ladd, 1) := by decide +kernel
theorem d4_20 : decode prog_2_method_14_code 20 = .ok (.iconst 4, 1) := by decide +kernel
theorem d4_21 : decode prog_2_method_14_code 21 = .ok (.invokestatic 248, 3) := by decide +kernel
theorem d4_24 : decode prog_2_method_14_code 24 = .ok (.lload_n 3, 1) := by decide +kernel
theorem d4_25 : decode prog_2_method_14_code 25 = .ok (.ldc2_w 257, 3) := by decide +kernel
theorem d4_28 : decode prog_2_method_14_code 28 = .ok (.ladd, 1) := by decide +kernel
theorem d4_29 : decode prog_2_method_14_code 29 = .ok (.bipush 100, 2) := by decide +kernel
theorem d4_31 : decode prog_2_method_14_code 31 = .ok (.invokestatic 248, 3) := by decide +kernel
theorem d4_34 : decode prog_2_method_14_code 34 = .ok (.lsub, 1) := by decide +kernel
theorem d4_35 : decode prog_2_method_14_code 35 = .ok (.lload_n 3, 1) := by decide +kernel
theorem d4_36 : decode prog_2_method_14_code 36 = .ok (.ldc2_w 259, 3) := by decide +kernel
theorem d4_39 : decode prog_2_method_14_code 39 = .ok (.ladd, 1) := by decide +kernel
theorem d4_40 : decode prog_2_method_14_code 40 = .ok (.sipush 400, 3) := by decide +kernel
theorem d4_43 : decode prog_2_method_14_code 43 = .ok (.invokestatic 248, 3) := by decide +kernel
theorem d4_46 : decode prog_2_method_14_code 46 = .ok (.ladd, 1) := by decide +kernel
theorem d4_47 : decode prog_2_method_14_code 47 = .ok (.lstore 6, 2) := by decide +kernel
theorem d4_49 : decode prog_2_method_14_code 49 = .ok (.iload 5, 2) := by decide +kernel
theorem d4_51 : decode prog_2_method_14_code 51 = .ok (.iconst 1, 1) := by decide +kernel
theorem d4_52 : decode prog_2_method_14_code 52 = .ok (.if_icmp .le 17, 3) := by decide +kernel
theorem d4_55 : decode prog_2_method_14_code 55 = .ok (.getstatic 261, 3) := by decide +kernel
theorem d4_58 : decode prog_2_method_14_code 58 = .ok (.lload_n 3, 1) := by decide +kernel
theorem d4_59 : decode prog_2_method_14_code 59 = .ok (.invokevirtual 267, 3) := by decide +kernel
theorem d4_62 : decode prog_2_method_14_code 62 = .ok (.ifCond .eq 7, 3) := by decide +kernel
theorem d4_69 : decode prog_2_method_14_code 69 = .ok (.iconst 0, 1) := by decide +kernel
theorem d4_70 : decode prog_2_method_14_code 70 = .ok (.istore 8, 2) := by decide +kernel
theorem d4_72 : decode prog_2_method_14_code 72 = .ok (.ldc2_w 271, 3) := by decide +kernel
theorem d4_75 : decode prog_2_method_14_code 75 = .ok (.lload_n 3, 1) := by decide +kernel
theorem d4_76 : decode prog_2_method_14_code 76 = .ok (.lmul, 1) := by decide +kernel
theorem d4_77 : decode prog_2_method_14_code 77 = .ok (.lload 6, 2) := by decide +kernel
theorem d4_79 : decode prog_2_method_14_code 79 = .ok (.ladd, 1) := by decide +kernel
theorem d4_80 : decode prog_2_method_14_code 80 = .ok (.getstatic 273, 3) := by decide +kernel
theorem d4_83 : decode prog_2_method_14_code 83 = .ok (.iload 5, 2) := by decide +kernel
theorem d4_85 : decode prog_2_method_14_code 85 = .ok (.iaload, 1) := by decide +kernel
theorem d4_86 : decode prog_2_method_14_code 86 = .ok (.i2l, 1) := by decide +kernel
theorem d4_87 : decode prog_2_method_14_code 87 = .ok (.ladd, 1) := by decide +kernel
theorem d4_88 : decode prog_2_method_14_code 88 = .ok (.iload 8, 2) := by decide +kernel
theorem d4_90 : decode prog_2_method_14_code 90 = .ok (.i2l, 1) := by decide +kernel
theorem d4_91 : decode prog_2_method_14_code 91 = .ok (.ladd, 1) := by decide +kernel
theorem d4_92 : decode prog_2_method_14_code 92 = .ok (.iload_n 2, 1) := by decide +kernel
theorem d4_93 : decode prog_2_method_14_code 93 = .ok (.i2l, 1) := by decide +kernel
theorem d4_94 : decode prog_2_method_14_code 94 = .ok (.ladd, 1) := by decide +kernel
theorem d4_95 : decode prog_2_method_14_code 95 = .ok (.lconst 1, 1) := by decide +kernel
theorem d4_96 : decode prog_2_method_14_code 96 = .ok (.lsub, 1) := by decide +kernel
theorem d4_97 : decode prog_2_method_14_code 97 = .ok (.lreturn, 1) := by decide +kernel
theorem d4_65 : decode prog_2_method_14_code 65 = .ok (.iconst 1, 1) := by decide +kernel
theorem d4_66 : decode prog_2_method_14_code 66 = .ok (.goto 4, 3) := by decide +kernel
theorem ef_4 (m : MethodId) (x0 : Int64) (x1 : Int32) : entryFrame m #[(.long x0), (.int x1)] 9 = mkF m 0 #[.val (.long x0), .second, .val (.int x1), .unset, .unset, .unset, .unset, .unset, .unset] [] := by first | (simp [entryFrame, mkF, argsToLocals, Value.category]; done) | rfl
def F4 (q1 : Int64) (p2 : Int32) : Int64 :=
  if (1 : Int32) < (F7 q1 (12 : Int32)) then (  if (F9 (F5 q1 (12 : Int32))) = (0 : Int32) then (  (((((((365 : Int64) * (F5 q1 (12 : Int32))) + (((F5 ((F5 q1 (12 : Int32)) + (3 : Int64)) (4 : Int32)) - (F5 ((F5 q1 (12 : Int32)) + (99 : Int64)) (100 : Int32))) + (F5 ((F5 q1 (12 : Int32)) + (399 : Int64)) (400 : Int32)))) + ((own_dbm (F7 q1 (12 : Int32))).toInt64)) + ((0 : Int32).toInt64)) + (p2.toInt64)) - (1 : Int64)))
  else (  (((((((365 : Int64) * (F5 q1 (12 : Int32))) + (((F5 ((F5 q1 (12 : Int32)) + (3 : Int64)) (4 : Int32)) - (F5 ((F5 q1 (12 : Int32)) + (99 : Int64)) (100 : Int32))) + (F5 ((F5 q1 (12 : Int32)) + (399 : Int64)) (400 : Int32)))) + ((own_dbm (F7 q1 (12 : Int32))).toInt64)) + ((1 : Int32).toInt64)) + (p2.toInt64)) - (1 : Int64))))
  else (  (((((((365 : Int64) * (F5 q1 (12 : Int32))) + (((F5 ((F5 q1 (12 : Int32)) + (3 : Int64)) (4 : Int32)) - (F5 ((F5 q1 (12 : Int32)) + (99 : Int64)) (100 : Int32))) + (F5 ((F5 q1 (12 : Int32)) + (399 : Int64)) (400 : Int32)))) + ((own_dbm (F7 q1 (12 : Int32))).toInt64)) + ((0 : Int32).toInt64)) + (p2.toInt64)) - (1 : Int64)))
def Q4 (Z : State) (q1 : Int64) (p2 : Int32) (cl_wD : Cell) (wI : Addr) (wD : Addr) (h0 : Heap) (n0 : Nat) (v : Option Value) (h : Heap) (L : List Loc) : Prop := v = some (.long (F4 q1 p2)) ∧ Fr n0 L ∧ h = h0
set_option maxRecDepth 65536 in
set_option maxHeartbeats 40000000 in
theorem rm4 (l : Launch) (Z : State) (a0 : Array Value) (hw : ∀ d ∈ tables_1, d.before a0 Z = true) (ws : List Jvm.Cond) (q1 : Int64) (p2 : Int32) (cl_wD : Cell) (wI : Addr) (wD : Addr) (h0 : Heap) (n0 : Nat) (Z0 : n0 ≤ h0.size) (E_wI : Exa Z h0 wI "java/time/chrono/IsoChronology") (Ar_wD : Arr Z h0 wD cl_wD .int) (hD : ∀ j : Int32, (0 ≤ j.toInt ∧ j.toInt < 12) → ¬ (j < 0 ∨ cl_wD.slots.size ≤ j.toNatClampNeg) ∧ cl_wD.slots[j.toNatClampNeg]? = some (.int (own_dbm j))) (S_wI : Sta Z h0 "java/time/chrono/IsoChronology" "INSTANCE" "Ljava/time/chrono/IsoChronology;" (.ref wI)) (S_wD : Sta Z h0 "com/example/notesmith/notesmith/calc/Accrual" "DAYS_BEFORE_MONTH" "[I" (.ref wD)) :
    MetFree l (⟨"com/example/notesmith/notesmith/calc/Accrual", "dayNumber", "(JI)J"⟩ : MethodName) (head1 (Jvm.Cond.code (⟨"com/example/notesmith/notesmith/calc/Accrual", "dayNumber", "(JI)J"⟩ : MethodName) prog_2_method_14_code 9 (some .long) :: ws) ({ frames := 2, cells := 0, slots := 0, locals := 33 } : Room)) (fun a U => a = #[(.long q1), (.int p2)] ∧ Z.Warmed39 U.vm ∧ U.heap = h0) (fun _ _ _ _ _ => True) (fun _ U o U' => ∃ v L, o = .returned v ∧ Q4 Z q1 p2 cl_wD wI wD h0 n0 v U'.heap L ∧ FrameEnd U o U' L ({ frames := 2, cells := 0, slots := 0, locals := 33 } : Room).cells ({ frames := 2, cells := 0, slots := 0, locals := 33 } : Room).slots) := by
  refine MetFree.of_bodySF (plainFor_of_name pn_11) hisR ?_
  intro p e s m args below meth c s₁ Bd hml0 hP hK
  obtain ⟨rfl, hZ, hh⟩ := hP
  have hx := Bd.exec
  have hby := Bd.bytes
  have hml : c.maxLocals = 9 := hml0
  have hown : s.vm.findClass "com/example/notesmith/notesmith/calc/Accrual" = some m.cls := findClass_of_methodNamed Bd.named
  have hnm := (name_of_methodNamed Bd.named Bd.method).1
  have hret := Bd.returns
  have hlocks : meth.locks = false := Bd.notSynchronized
  have X0 : Stand p l e ({ frames := 2, cells := 0, slots := 0, locals := 33 } : Room) s m #[(.long q1), (.int p2)] below meth c s₁ [] 0 0 := Stand.of_body Bd
  have e0 : s₁.heap = h0 := by rw [← hh, Bd.state]; rfl
  have N0 := Fr.nil n0
  have pre0 : ∀ t, Steps p.tables e below (s₁.setTop (mkF m 0 #[.val (.long q1), .second, .val (.int p2), .unset, .unset, .unset, .unset, .unset, .unset] [])) t → Steps p.tables e below (s₁.setTop (entryFrame m #[(.long q1), (.int p2)] 9)) t := fun t k => castTop (ef_4 m q1 p2) k
  have pre139 : ∀ t, Steps p.tables e below (s₁.setTop (mkF m 3 #[.val (.long q1), .second, .val (.int p2), .unset, .unset, .unset, .unset, .unset, .unset] [(.int (12 : Int32)), (.long q1)])) t → Steps p.tables e below (s₁.setTop (entryFrame m #[(.long q1), (.int p2)] 9)) t := by
    intro t k
    refine pre0 _ ?_
    show Steps p.tables e below (s₁.setTop (mkF m 0 #[.val (.long q1), .second, .val (.int p2), .unset, .unset, .unset, .unset, .unset, .unset] [])) _
    refine XS.lloadN X0.here hx rfl (hb hby d4_0) rfl ?_
    show Steps p.tables e below (s₁.setTop (mkF m 1 #[.val (.long q1), .second, .val (.int p2), .unset, .unset, .unset, .unset, .unset, .unset] [(.long q1)])) _
    refine XS.bipush X0.here hx rfl (hb hby d4_1) ?_
    exact k
  obtain ⟨_, _, ⟨T140, L140, k140, n140⟩, -, X140, ⟨Lc140, hQ140, l140, y140, z140⟩, st140⟩ := Jvm.LawKit.callS X0 hx (y := (⟨"java/lang/Math", "floorDiv", "(JI)J"⟩ : MethodName)) hown (mvT hZ (hw _ (List.mem_of_getElem? (i := 29) rfl))) (mvT hZ (hw _ (List.mem_of_getElem? (i := 30) rfl))) (mvT hZ (hw _ (List.mem_of_getElem? (i := 31) rfl))) (mvT hZ (hw _ (List.mem_of_getElem? (i := 32) rfl))) (by decide) (backOf (W := 0) (rm5 l Z a0 hw [] q1 (12 : Int32) h0 n0 Z0 (by decide)) hZ (hw _ (List.mem_of_getElem? (i := 32) rfl)) (hw _ (List.mem_of_getElem? (i := 31) rfl)) (by decide) (by decide)) (g := (mkF m 3 #[.val (.long q1), .second, .val (.int p2), .unset, .unset, .unset, .unset, .unset, .unset] [(.int (12 : Int32)), (.long q1)])) rfl (by rw [hml]; rfl) (argsL := [(.long q1), (.int (12 : Int32))]) (rest := []) (lenOf pd__JI_J rfl) rfl (by show 2 * 0 + _ ≤ _; exact Nat.le_of_eq rfl) (hb hby d4_3) (fun _ _ => ⟨rfl, e0, (by decide : 0 + 0 ≤ _), (by decide : 0 + 0 ≤ _)⟩)
  dsimp only [Pt.U, Pt.locs, Pt.cells, Pt.slots] at X140 l140 y140 z140 st140 hQ140
  subst l140 y140 z140
  obtain ⟨rfl, N140q, e140⟩ := hQ140
  have N140 := Fr.app N0 N140q
  have pre141 : ∀ t, Steps p.tables e below (T140.setTop (mkF m 6 #[.val (.long q1), .second, .val (.int p2), .unset, .unset, .unset, .unset, .unset, .unset] [(.long (F5 q1 (12 : Int32)))])) t → Steps p.tables e below (s₁.setTop (entryFrame m #[(.long q1), (.int p2)] 9)) t := by
    intro t k
    refine pre139 _ ?_
    show Steps p.tables e below (s₁.setTop (mkF m 3 #[.val (.long q1), .second, .val (.int p2), .unset, .unset, .unset, .unset, .unset, .unset] [(.int (12 : Int32)), (.long q1)])) _
    refine st140 _ ?_
    exact k
  have pre142 : ∀ t, Steps p.tables e below (T140.setTop (mkF m 10 #[.val (.long q1), .second, .val (.int p2), .val (.long (F5 q1 (12 : Int32))), .second, .unset, .unset, .unset, .unset] [(.int (12 : Int32)), (.long q1)])) t → Steps p.tables e below (s₁.setTop (entryFrame m #[(.long q1), (.int p2)] 9)) t := by
    intro t k
    refine pre141 _ ?_
    show Steps p.tables e below (T140.setTop (mkF m 6 #[.val (.long q1), .second, .val (.int p2), .unset, .unset, .unset, .unset, .unset, .unset] [(.long (F5 q1 (12 : Int32)))])) _
    refine XS.lstoreN X140.here hx rfl (hb hby d4_6) rfl (l' := #[.val (.long q1), .second, .val (.int p2), .val (.long (F5 q1 (12 : Int32))), .second, .unset, .unset, .unset, .unset]) rfl ?_
    show Steps p.tables e below (T140.setTop (mkF m 7 #[.val (.long q1), .second, .val (.int p2), .val (.long (F5 q1 (12 : Int32))), .second, .unset, .unset, .unset, .unset] [])) _
    refine XS.lloadN X140.here hx rfl (hb hby d4_7) rfl ?_
    show Steps p.tables e below (T140.setTop (mkF m 8 #[.val (.long q1), .second, .val (.int p2), .val (.long (F5 q1 (12 : Int32))), .second, .unset, .unset, .unset, .unset] [(.long q1)])) _
    refine XS.bipush X140.here hx rfl (hb hby d4_8) ?_
    exact k
  obtain ⟨_, _, ⟨T143, L143, k143, n143⟩, -, X143, ⟨Lc143, hQ143, l143, y143, z143⟩, st143⟩ := Jvm.LawKit.callS X140 hx (y := (⟨"java/lang/Math", "floorMod", "(JI)I"⟩ : MethodName)) hown (mvT hZ (hw _ (List.mem_of_getElem? (i := 36) rfl))) (mvT hZ (hw _ (List.mem_of_getElem? (i := 37) rfl))) (mvT hZ (hw _ (List.mem_of_getElem? (i := 31) rfl))) (mvT hZ (hw _ (List.mem_of_getElem? (i := 38) rfl))) (by decide) (backOf (W := 0) (rm7 l Z a0 hw [] q1 (12 : Int32) h0 n0 Z0 (by decide)) hZ (hw _ (List.mem_of_getElem? (i := 38) rfl)) (hw _ (List.mem_of_getElem? (i := 31) rfl)) (by decide) (by decide)) (g := (mkF m 10 #[.val (.long q1), .second, .val (.int p2), .val (.long (F5 q1 (12 : Int32))), .second, .unset, .unset, .unset, .unset] [(.int (12 : Int32)), (.long q1)])) rfl (by rw [hml]; rfl) (argsL := [(.long q1), (.int (12 : Int32))]) (rest := []) (lenOf pd__JI_I rfl) rfl (by show 2 * 0 + _ ≤ _; exact Nat.le_of_eq rfl) (hb hby d4_10) (fun _ _ => ⟨rfl, e140, (by decide : 0 + 0 ≤ _), (by decide : 0 + 0 ≤ _)⟩)
  dsimp only [Pt.U, Pt.locs, Pt.cells, Pt.slots] at X143 l143 y143 z143 st143 hQ143
  subst l143 y143 z143
  obtain ⟨rfl, N143q, e143⟩ := hQ143
  have N143 := Fr.app N140 N143q
  have pre144 : ∀ t, Steps p.tables e below (T143.setTop (mkF m 13 #[.val (.long q1), .second, .val (.int p2), .val (.long (F5 q1 (12 : Int32))), .second, .unset, .unset, .unset, .unset] [(.int (F7 q1 (12 : Int32)))])) t → Steps p.tables e below (s₁.setTop (entryFrame m #[(.long q1), (.int p2)] 9)) t := by
    intro t k
    refine pre142 _ ?_
    show Steps p.tables e below (T140.setTop (mkF m 10 #[.val (.long q1), .second, .val (.int p2), .val (.long (F5 q1 (12 : Int32))), .second, .unset, .unset, .unset, .unset] [(.int (12 : Int32)), (.long q1)])) _
    refine st143 _ ?_
    exact k
  have pre145 : ∀ t, Steps p.tables e below (T143.setTop (mkF m 21 #[.val (.long q1), .second, .val (.int p2), .val (.long (F5 q1 (12 : Int32))), .second, .val (.int (F7 q1 (12 : Int32))), .unset, .unset, .unset] [(.int (4 : Int32)), (.long ((F5 q1 (12 : Int32)) + (3 : Int64)))])) t → Steps p.tables e below (s₁.setTop (entryFrame m #[(.long q1), (.int p2)] 9)) t := by
    intro t k
    refine pre144 _ ?_
    show Steps p.tables e below (T143.setTop (mkF m 13 #[.val (.long q1), .second, .val (.int p2), .val (.long (F5 q1 (12 : Int32))), .second, .unset, .unset, .unset, .unset] [(.int (F7 q1 (12 : Int32)))])) _
    refine XS.istore X143.here hx rfl (hb hby d4_13) rfl (l' := #[.val (.long q1), .second, .val (.int p2), .val (.long (F5 q1 (12 : Int32))), .second, .val (.int (F7 q1 (12 : Int32))), .unset, .unset, .unset]) rfl ?_
    show Steps p.tables e below (T143.setTop (mkF m 15 #[.val (.long q1), .second, .val (.int p2), .val (.long (F5 q1 (12 : Int32))), .second, .val (.int (F7 q1 (12 : Int32))), .unset, .unset, .unset] [])) _
    refine XS.lloadN X143.here hx rfl (hb hby d4_15) rfl ?_
    show Steps p.tables e below (T143.setTop (mkF m 16 #[.val (.long q1), .second, .val (.int p2), .val (.long (F5 q1 (12 : Int32))), .second, .val (.int (F7 q1 (12 : Int32))), .unset, .unset, .unset] [(.long (F5 q1 (12 : Int32)))])) _
    refine X143.ldc2Long hx hown (mvT hZ (hw _ (List.mem_of_getElem? (i := 42) rfl))) (g := (mkF m 16 #[.val (.long q1), .second, .val (.int p2), .val (.long (F5 q1 (12 : Int32))), .second, .val (.int (F7 q1 (12 : Int32))), .unset, .unset, .unset] [(.long (F5 q1 (12 : Int32)))])) rfl (hb hby d4_16) _ ?_
    show Steps p.tables e below (T143.setTop (mkF m 19 #[.val (.long q1), .second, .val (.int p2), .val (.long (F5 q1 (12 : Int32))), .second, .val (.int (F7 q1 (12 : Int32))), .unset, .unset, .unset] [(.long (3 : Int64)), (.long (F5 q1 (12 : Int32)))])) _
    refine XS.ladd X143.here hx rfl (hb hby d4_19) rfl ?_
    show Steps p.tables e below (T143.setTop (mkF m 20 #[.val (.long q1), .second, .val (.int p2), .val (.long (F5 q1 (12 : Int32))), .second, .val (.int (F7 q1 (12 : Int32))), .unset, .unset, .unset] [(.long ((F5 q1 (12 : Int32)) + (3 : Int64)))])) _
    refine XS.iconst X143.here hx rfl (hb hby d4_20) ?_
    exact k
  obtain ⟨_, _, ⟨T146, L146, k146, n146⟩, -, X146, ⟨Lc146, hQ146, l146, y146, z146⟩, st146⟩ := Jvm.LawKit.callS X143 hx (y := (⟨"java/lang/Math", "floorDiv", "(JI)J"⟩ : MethodName)) hown (mvT hZ (hw _ (List.mem_of_getElem? (i := 29) rfl))) (mvT hZ (hw _ (List.mem_of_getElem? (i := 30) rfl))) (mvT hZ (hw _ (List.mem_of_getElem? (i := 31) rfl))) (mvT hZ (hw _ (List.mem_of_getElem? (i := 32) rfl))) (by decide) (backOf (W := 0) (rm5 l Z a0 hw [] ((F5 q1 (12 : Int32)) + (3 : Int64)) (4 : Int32) h0 n0 Z0 (by decide)) hZ (hw _ (List.mem_of_getElem? (i := 32) rfl)) (hw _ (List.mem_of_getElem? (i := 31) rfl)) (by decide) (by decide)) (g := (mkF m 21 #[.val (.long q1), .second, .val (.int p2), .val (.long (F5 q1 (12 : Int32))), .second, .val (.int (F7 q1 (12 : Int32))), .unset, .unset, .unset] [(.int (4 : Int32)), (.long ((F5 q1 (12 : Int32)) + (3 : Int64)))])) rfl (by rw [hml]; rfl) (argsL := [(.long ((F5 q1 (12 : Int32)) + (3 : Int64))), (.int (4 : Int32))]) (rest := []) (lenOf pd__JI_J rfl) rfl (by show 2 * 0 + _ ≤ _; exact Nat.le_of_eq rfl) (hb hby d4_21) (fun _ _ => ⟨rfl, e143, (by decide : 0 + 0 ≤ _), (by decide : 0 + 0 ≤ _)⟩)
  dsimp only [Pt.U, Pt.locs, Pt.cells, Pt.slots] at X146 l146 y146 z146 st146 hQ146
  subst l146 y146 z146
  obtain ⟨rfl, N146q, e146⟩ := hQ146
  have N146 := Fr.app N143 N146q
  have pre147 : ∀ t, Steps p.tables e below (T146.setTop (mkF m 24 #[.val (.long q1), .second, .val (.int p2), .val (.long (F5 q1 (12 : Int32))), .second, .val (.int (F7 q1 (12 : Int32))), .unset, .unset, .unset] [(.long (F5 ((F5 q1 (12 : Int32)) + (3 : Int64)) (4 : Int32)))])) t → Steps p.tables e below (s₁.setTop (entryFrame m #[(.long q1), (.int p2)] 9)) t := by
    intro t k
    refine pre145 _ ?_
    show Steps p.tables e below (T143.setTop (mkF m 21 #[.val (.long q1), .second, .val (.int p2), .val (.long (F5 q1 (12 : Int32))), .second, .val (.int (F7 q1 (12 : Int32))), .unset, .unset, .unset] [(.int (4 : Int32)), (.long ((F5 q1 (12 : Int32)) + (3 : Int64)))])) _
    refine st146 _ ?_
    exact k
  have pre148 : ∀ t, Steps p.tables e below (T146.setTop (mkF m 31 #[.val (.long q1), .second, .val (.int p2), .val (.long (F5 q1 (12 : Int32))), .second, .val (.int (F7 q1 (12 : Int32))), .unset, .unset, .unset] [(.int (100 : Int32)), (.long ((F5 q1 (12 : Int32)) + (99 : Int64))), (.long (F5 ((F5 q1 (12 : Int32)) + (3 : Int64)) (4 : Int32)))])) t → Steps p.tables e below (s₁.setTop (entryFrame m #[(.long q1), (.int p2)] 9)) t := by
    intro t k
    refine pre147 _ ?_
    show Steps p.tables e below (T146.setTop (mkF m 24 #[.val (.long q1), .second, .val (.int p2), .val (.long (F5 q1 (12 : Int32))), .second, .val (.int (F7 q1 (12 : Int32))), .unset, .unset, .unset] [(.long (F5 ((F5 q1 (12 : Int32)) + (3 : Int64)) (4 : Int32)))])) _
    refine XS.lloadN X146.here hx rfl (hb hby d4_24) rfl ?_
    show Steps p.tables e below (T146.setTop (mkF m 25 #[.val (.long q1), .second, .val (.int p2), .val (.long (F5 q1 (12 : Int32))), .second, .val (.int (F7 q1 (12 : Int32))), .unset, .unset, .unset] [(.long (F5 q1 (12 : Int32))), (.long (F5 ((F5 q1 (12 : Int32)) + (3 : Int64)) (4 : Int32)))])) _
    refine X146.ldc2Long hx hown (mvT hZ (hw _ (List.mem_of_getElem? (i := 43) rfl))) (g := (mkF m 25 #[.val (.long q1), .second, .val (.int p2), .val (.long (F5 q1 (12 : Int32))), .second, .val (.int (F7 q1 (12 : Int32))), .unset, .unset, .unset] [(.long (F5 q1 (12 : Int32))), (.long (F5 ((F5 q1 (12 : Int32)) + (3 : Int64)) (4 : Int32)))])) rfl (hb hby d4_25) _ ?_
    show Steps p.tables e below (T146.setTop (mkF m 28 #[.val (.long q1), .second, .val (.int p2), .val (.long (F5 q1 (12 : Int32))), .second, .val (.int (F7 q1 (12 : Int32))), .unset, .unset, .unset] [(.long (99 : Int64)), (.long (F5 q1 (12 : Int32))), (.long (F5 ((F5 q1 (12 : Int32)) + (3 : Int64)) (4 : Int32)))])) _
    refine XS.ladd X146.here hx rfl (hb hby d4_28) rfl ?_
    show Steps p.tables e below (T146.setTop (mkF m 29 #[.val (.long q1), .second, .val (.int p2), .val (.long (F5 q1 (12 : Int32))), .second, .val (.int (F7 q1 (12 : Int32))), .unset, .unset, .unset] [(.long ((F5 q1 (12 : Int32)) + (99 : Int64))), (.long (F5 ((F5 q1 (12 : Int32)) + (3 : Int64)) (4 : Int32)))])) _
    refine XS.bipush X146.here hx rfl (hb hby d4_29) ?_
    exact k
  obtain ⟨_, _, ⟨T149, L149, k149, n149⟩, -, X149, ⟨Lc149, hQ149, l149, y149, z149⟩, st149⟩ := Jvm.LawKit.callS X146 hx (y := (⟨"java/lang/Math", "floorDiv", "(JI)J"⟩ : MethodName)) hown (mvT hZ (hw _ (List.mem_of_getElem? (i := 29) rfl))) (mvT hZ (hw _ (List.mem_of_getElem? (i := 30) rfl))) (mvT hZ (hw _ (List.mem_of_getElem? (i := 31) rfl))) (mvT hZ (hw _ (List.mem_of_getElem? (i := 32) rfl))) (by decide) (backOf (W := 2) (rm5 l Z a0 hw [] ((F5 q1 (12 : Int32)) + (99 : Int64)) (100 : Int32) h0 n0 Z0 (by decide)) hZ (hw _ (List.mem_of_getElem? (i := 32) rfl)) (hw _ (List.mem_of_getElem? (i := 31) rfl)) (by decide) (by decide)) (g := (mkF m 31 #[.val (.long q1), .second, .val (.int p2), .val (.long (F5 q1 (12 : Int32))), .second, .val (.int (F7 q1 (12 : Int32))), .unset, .unset, .unset] [(.int (100 : Int32)), (.long ((F5 q1 (12 : Int32)) + (99 : Int64))), (.long (F5 ((F5 q1 (12 : Int32)) + (3 : Int64)) (4 : Int32)))])) rfl (by rw [hml]; rfl) (argsL := [(.long ((F5 q1 (12 : Int32)) + (99 : Int64))), (.int (100 : Int32))]) (rest := [(.long (F5 ((F5 q1 (12 : Int32)) + (3 : Int64)) (4 : Int32)))]) (lenOf pd__JI_J rfl) rfl (by show 2 * 0 + _ ≤ _; exact Nat.le_of_eq rfl) (hb hby d4_31) (fun _ _ => ⟨rfl, e146, (by decide : 0 + 0 ≤ _), (by decide : 0 + 0 ≤ _)⟩)
  dsimp only [Pt.U, Pt.locs, Pt.cells, Pt.slots] at X149 l149 y149 z149 st149 hQ149
  subst l149 y149 z149
  obtain ⟨rfl, N149q, e149⟩ := hQ149
  have N149 := Fr.app N146 N149q
  have pre150 : ∀ t, Steps p.tables e below (T149.setTop (mkF m 34 #[.val (.long q1), .second, .val (.int p2), .val (.long (F5 q1 (12 : Int32))), .second, .val (.int (F7 q1 (12 : Int32))), .unset, .unset, .unset] [(.long (F5 ((F5 q1 (12 : Int32)) + (99 : Int64)) (100 : Int32))), (.long (F5 ((F5 q1 (12 : Int32)) + (3 : Int64)) (4 : Int32)))])) t → Steps p.tables e below (s₁.setTop (entryFrame m #[(.long q1), (.int p2)] 9)) t := by
    intro t k
    refine pre148 _ ?_
    show Steps p.tables e below (T146.setTop (mkF m 31 #[.val (.long q1), .second, .val (.int p2), .val (.long (F5 q1 (12 : Int32))), .second, .val (.int (F7 q1 (12 : Int32))), .unset, .unset, .unset] [(.int (100 : Int32)), (.long ((F5 q1 (12 : Int32)) + (99 : Int64))), (.long (F5 ((F5 q1 (12 : Int32)) + (3 : Int64)) (4 : Int32)))])) _
    refine st149 _ ?_
    exact k
  have pre151 : ∀ t, Steps p.tables e below (T149.setTop (mkF m 43 #[.val (.long q1), .second, .val (.int p2), .val (.long (F5 q1 (12 : Int32))), .second, .val (.int (F7 q1 (12 : Int32))), .unset, .unset, .unset] [(.int (400 : Int32)), (.long ((F5 q1 (12 : Int32)) + (399 : Int64))), (.long ((F5 ((F5 q1 (12 : Int32)) + (3 : Int64)) (4 : Int32)) - (F5 ((F5 q1 (12 : Int32)) + (99 : Int64)) (100 : Int32))))])) t → Steps p.tables e below (s₁.setTop (entryFrame m #[(.long q1), (.int p2)] 9)) t := by
    intro t k
    refine pre150 _ ?_
    show Steps p.tables e below (T149.setTop (mkF m 34 #[.val (.long q1), .second, .val (.int p2), .val (.long (F5 q1 (12 : Int32))), .second, .val (.int (F7 q1 (12 : Int32))), .unset, .unset, .unset] [(.long (F5 ((F5 q1 (12 : Int32)) + (99 : Int64)) (100 : Int32))), (.long (F5 ((F5 q1 (12 : Int32)) + (3 : Int64)) (4 : Int32)))])) _
    refine XS.lsub X149.here hx rfl (hb hby d4_34) rfl ?_
    show Steps p.tables e below (T149.setTop (mkF m 35 #[.val (.long q1), .second, .val (.int p2), .val (.long (F5 q1 (12 : Int32))), .second, .val (.int (F7 q1 (12 : Int32))), .unset, .unset, .unset] [(.long ((F5 ((F5 q1 (12 : Int32)) + (3 : Int64)) (4 : Int32)) - (F5 ((F5 q1 (12 : Int32)) + (99 : Int64)) (100 : Int32))))])) _
    refine XS.lloadN X149.here hx rfl (hb hby d4_35) rfl ?_
    show Steps p.tables e below (T149.setTop (mkF m 36 #[.val (.long q1), .second, .val (.int p2), .val (.long (F5 q1 (12 : Int32))), .second, .val (.int (F7 q1 (12 : Int32))), .unset, .unset, .unset] [(.long (F5 q1 (12 : Int32))), (.long ((F5 ((F5 q1 (12 : Int32)) + (3 : Int64)) (4 : Int32)) - (F5 ((F5 q1 (12 : Int32)) + (99 : Int64)) (100 : Int32))))])) _
    refine X149.ldc2Long hx hown (mvT hZ (hw _ (List.mem_of_getElem? (i := 44) rfl))) (g := (mkF m 36 #[.val (.long q1), .second, .val (.int p2), .val (.long (F5 q1 (12 : Int32))), .second, .val (.int (F7 q1 (12 : Int32))), .unset, .unset, .unset] [(.long (F5 q1 (12 : Int32))), (.long ((F5 ((F5 q1 (12 : Int32)) + (3 : Int64)) (4 : Int32)) - (F5 ((F5 q1 (12 : Int32)) + (99 : Int64)) (100 : Int32))))])) rfl (hb hby d4_36) _ ?_
    show Steps p.tables e below (T149.setTop (mkF m 39 #[.val (.long q1), .second, .val (.int p2), .val (.long (F5 q1 (12 : Int32))), .second, .val (.int (F7 q1 (12 : Int32))), .unset, .unset, .unset] [(.long (399 : Int64)), (.long (F5 q1 (12 : Int32))), (.long ((F5 ((F5 q1 (12 : Int32)) + (3 : Int64)) (4 : Int32)) - (F5 ((F5 q1 (12 : Int32)) + (99 : Int64)) (100 : Int32))))])) _
    refine XS.ladd X149.here hx rfl (hb hby d4_39) rfl ?_
    show Steps p.tables e below (T149.setTop (mkF m 40 #[.val (.long q1), .second, .val (.int p2), .val (.long (F5 q1 (12 : Int32))), .second, .val (.int (F7 q1 (12 : Int32))), .unset, .unset, .unset] [(.long ((F5 q1 (12 : Int32)) + (399 : Int64))), (.long ((F5 ((F5 q1 (12 : Int32)) + (3 : Int64)) (4 : Int32)) - (F5 ((F5 q1 (12 : Int32)) + (99 : Int64)) (100 : Int32))))])) _
    refine XS.sipush X149.here hx rfl (hb hby d4_40) ?_
    exact k
  obtain ⟨_, _, ⟨T152, L152, k152, n152⟩, -, X152, ⟨Lc152, hQ152, l152, y152, z152⟩, st152⟩ := Jvm.LawKit.callS X149 hx (y := (⟨"java/lang/Math", "floorDiv", "(JI)J"⟩ : MethodName)) hown (mvT hZ (hw _ (List.mem_of_getElem? (i := 29) rfl))) (mvT hZ (hw _ (List.mem_of_getElem? (i := 30) rfl))) (mvT hZ (hw _ (List.mem_of_getElem? (i := 31) rfl))) (mvT hZ (hw _ (List.mem_of_getElem? (i := 32) rfl))) (by decide) (backOf (W := 2) (rm5 l Z a0 hw [] ((F5 q1 (12 : Int32)) + (399 : Int64)) (400 : Int32) h0 n0 Z0 (by decide)) hZ (hw _ (List.mem_of_getElem? (i := 32) rfl)) (hw _ (List.mem_of_getElem? (i := 31) rfl)) (by decide) (by decide)) (g := (mkF m 43 #[.val (.long q1), .second, .val (.int p2), .val (.long (F5 q1 (12 : Int32))), .second, .val (.int (F7 q1 (12 : Int32))), .unset, .unset, .unset] [(.int (400 : Int32)), (.long ((F5 q1 (12 : Int32)) + (399 : Int64))), (.long ((F5 ((F5 q1 (12 : Int32)) + (3 : Int64)) (4 : Int32)) - (F5 ((F5 q1 (12 : Int32)) + (99 : Int64)) (100 : Int32))))])) rfl (by rw [hml]; rfl) (argsL := [(.long ((F5 q1 (12 : Int32)) + (399 : Int64))), (.int (400 : Int32))]) (rest := [(.long ((F5 ((F5 q1 (12 : Int32)) + (3 : Int64)) (4 : Int32)) - (F5 ((F5 q1 (12 : Int32)) + (99 : Int64)) (100 : Int32))))]) (lenOf pd__JI_J rfl) rfl (by show 2 * 0 + _ ≤ _; exact Nat.le_of_eq rfl) (hb hby d4_43) (fun _ _ => ⟨rfl, e149, (by decide : 0 + 0 ≤ _), (by decide : 0 + 0 ≤ _)⟩)
  dsimp only [Pt.U, Pt.locs, Pt.cells, Pt.slots] at X152 l152 y152 z152 st152 hQ152
  subst l152 y152 z152
  obtain ⟨rfl, N152q, e152⟩ := hQ152
  have N152 := Fr.app N149 N152q
  have pre153 : ∀ t, Steps p.tables e below (T152.setTop (mkF m 46 #[.val (.long q1), .second, .val (.int p2), .val (.long (F5 q1 (12 : Int32))), .second, .val (.int (F7 q1 (12 : Int32))), .unset, .unset, .unset] [(.long (F5 ((F5 q1 (12 : Int32)) + (399 : Int64)) (400 : Int32))), (.long ((F5 ((F5 q1 (12 : Int32)) + (3 : Int64)) (4 : Int32)) - (F5 ((F5 q1 (12 : Int32)) + (99 : Int64)) (100 : Int32))))])) t → Steps p.tables e below (s₁.setTop (entryFrame m #[(.long q1), (.int p2)] 9)) t := by
    intro t k
    refine pre151 _ ?_
    show Steps p.tables e below (T149.setTop (mkF m 43 #[.val (.long q1), .second, .val (.int p2), .val (.long (F5 q1 (12 : Int32))), .second, .val (.int (F7 q1 (12 : Int32))), .unset, .unset, .unset] [(.int (400 : Int32)), (.long ((F5 q1 (12 : Int32)) + (399 : Int64))), (.long ((F5 ((F5 q1 (12 : Int32)) + (3 : Int64)) (4 : Int32)) - (F5 ((F5 q1 (12 : Int32)) + (99 : Int64)) (100 : Int32))))])) _
    refine st152 _ ?_
    exact k
  have pre154 : ∀ t, Steps p.tables e below (T152.setTop (mkF m 52 #[.val (.long q1), .second, .val (.int p2), .val (.long (F5 q1 (12 : Int32))), .second, .val (.int (F7 q1 (12 : Int32))), .val (.long (((F5 ((F5 q1 (12 : Int32)) + (3 : Int64)) (4 : Int32)) - (F5 ((F5 q1 (12 : Int32)) + (99 : Int64)) (100 : Int32))) + (F5 ((F5 q1 (12 : Int32)) + (399 : Int64)) (400 : Int32)))), .second, .unset] [(.int (1 : Int32)), (.int (F7 q1 (12 : Int32)))])) t → Steps p.tables e below (s₁.setTop (entryFrame m #[(.long q1), (.int p2)] 9)) t := by
    intro t k
    refine pre153 _ ?_
    show Steps p.tables e below (T152.setTop (mkF m 46 #[.val (.long q1), .second, .val (.int p2), .val (.long (F5 q1 (12 : Int32))), .second, .val (.int (F7 q1 (12 : Int32))), .unset, .unset, .unset] [(.long (F5 ((F5 q1 (12 : Int32)) + (399 : Int64)) (400 : Int32))), (.long ((F5 ((F5 q1 (12 : Int32)) + (3 : Int64)) (4 : Int32)) - (F5 ((F5 q1 (12 : Int32)) + (99 : Int64)) (100 : Int32))))])) _
    refine XS.ladd X152.here hx rfl (hb hby d4_46) rfl ?_
    show Steps p.tables e below (T152.setTop (mkF m 47 #[.val (.long q1), .second, .val (.int p2), .val (.long (F5 q1 (12 : Int32))), .second, .val (.int (F7 q1 (12 : Int32))), .unset, .unset, .unset] [(.long (((F5 ((F5 q1 (12 : Int32)) + (3 : Int64)) (4 : Int32)) - (F5 ((F5 q1 (12 : Int32)) + (99 : Int64)) (100 : Int32))) + (F5 ((F5 q1 (12 : Int32)) + (399 : Int64)) (400 : Int32))))])) _
    refine XS.lstore X152.here hx rfl (hb hby d4_47) rfl (l' := #[.val (.long q1), .second, .val (.int p2), .val (.long (F5 q1 (12 : Int32))), .second, .val (.int (F7 q1 (12 : Int32))), .val (.long (((F5 ((F5 q1 (12 : Int32)) + (3 : Int64)) (4 : Int32)) - (F5 ((F5 q1 (12 : Int32)) + (99 : Int64)) (100 : Int32))) + (F5 ((F5 q1 (12 : Int32)) + (399 : Int64)) (400 : Int32)))), .second, .unset]) rfl ?_
    show Steps p.tables e below (T152.setTop (mkF m 49 #[.val (.long q1), .second, .val (.int p2), .val (.long (F5 q1 (12 : Int32))), .second, .val (.int (F7 q1 (12 : Int32))), .val (.long (((F5 ((F5 q1 (12 : Int32)) + (3 : Int64)) (4 : Int32)) - (F5 ((F5 q1 (12 : Int32)) + (99 : Int64)) (100 : Int32))) + (F5 ((F5 q1 (12 : Int32)) + (399 : Int64)) (400 : Int32)))), .second, .unset] [])) _
    refine XS.iload X152.here hx rfl (hb hby d4_49) rfl ?_
    show Steps p.tables e below (T152.setTop (mkF m 51 #[.val (.long q1), .second, .val (.int p2), .val (.long (F5 q1 (12 : Int32))), .second, .val (.int (F7 q1 (12 : Int32))), .val (.long (((F5 ((F5 q1 (12 : Int32)) + (3 : Int64)) (4 : Int32)) - (F5 ((F5 q1 (12 : Int32)) + (99 : Int64)) (100 : Int32))) + (F5 ((F5 q1 (12 : Int32)) + (399 : Int64)) (400 : Int32)))), .second, .unset] [(.int (F7 q1 (12 : Int32)))])) _
    refine XS.iconst X152.here hx rfl (hb hby d4_51) ?_
    exact k
  by_cases hc155 : (1 : Int32) < (F7 q1 (12 : Int32))
  · have pre156 : ∀ t, Steps p.tables e below (T152.setTop (mkF m 55 #[.val (.long q1), .second, .val (.int p2), .val (.long (F5 q1 (12 : Int32))), .second, .val (.int (F7 q1 (12 : Int32))), .val (.long (((F5 ((F5 q1 (12 : Int32)) + (3 : Int64)) (4 : Int32)) - (F5 ((F5 q1 (12 : Int32)) + (99 : Int64)) (100 : Int32))) + (F5 ((F5 q1 (12 : Int32)) + (399 : Int64)) (400 : Int32)))), .second, .unset] [])) t → Steps p.tables e below (s₁.setTop (entryFrame m #[(.long q1), (.int p2)] 9)) t := by
      intro t k
      refine pre154 _ ?_
      show Steps p.tables e below (T152.setTop (mkF m 52 #[.val (.long q1), .second, .val (.int p2), .val (.long (F5 q1 (12 : Int32))), .second, .val (.int (F7 q1 (12 : Int32))), .val (.long (((F5 ((F5 q1 (12 : Int32)) + (3 : Int64)) (4 : Int32)) - (F5 ((F5 q1 (12 : Int32)) + (99 : Int64)) (100 : Int32))) + (F5 ((F5 q1 (12 : Int32)) + (399 : Int64)) (400 : Int32)))), .second, .unset] [(.int (1 : Int32)), (.int (F7 q1 (12 : Int32)))])) _
      refine XS.icmpNo X152.here hx rfl (hb hby d4_52) rfl (tlt hc155).2.2.2 ?_
      exact k
    obtain ⟨T157, X157, e157, st157⟩ := getS2 X152 hx hZ hown (host := "") (Or.inl (hw _ (List.mem_of_getElem? (i := 45) rfl))) Via.refl e152 S_wI (g := (mkF m 55 #[.val (.long q1), .second, .val (.int p2), .val (.long (F5 q1 (12 : Int32))), .second, .val (.int (F7 q1 (12 : Int32))), .val (.long (((F5 ((F5 q1 (12 : Int32)) + (3 : Int64)) (4 : Int32)) - (F5 ((F5 q1 (12 : Int32)) + (99 : Int64)) (100 : Int32))) + (F5 ((F5 q1 (12 : Int32)) + (399 : Int64)) (400 : Int32)))), .second, .unset] [])) rfl (hb hby d4_55)
    have pre158 : ∀ t, Steps p.tables e below (T157.setTop (mkF m 58 #[.val (.long q1), .second, .val (.int p2), .val (.long (F5 q1 (12 : Int32))), .second, .val (.int (F7 q1 (12 : Int32))), .val (.long (((F5 ((F5 q1 (12 : Int32)) + (3 : Int64)) (4 : Int32)) - (F5 ((F5 q1 (12 : Int32)) + (99 : Int64)) (100 : Int32))) + (F5 ((F5 q1 (12 : Int32)) + (399 : Int64)) (400 : Int32)))), .second, .unset] [(.ref wI)])) t → Steps p.tables e below (s₁.setTop (entryFrame m #[(.long q1), (.int p2)] 9)) t := by
      intro t k
      refine pre156 _ ?_
      show Steps p.tables e below (T152.setTop (mkF m 55 #[.val (.long q1), .second, .val (.int p2), .val (.long (F5 q1 (12 : Int32))), .second, .val (.int (F7 q1 (12 : Int32))), .val (.long (((F5 ((F5 q1 (12 : Int32)) + (3 : Int64)) (4 : Int32)) - (F5 ((F5 q1 (12 : Int32)) + (99 : Int64)) (100 : Int32))) + (F5 ((F5 q1 (12 : Int32)) + (399 : Int64)) (400 : Int32)))), .second, .unset] [])) _
      refine st157 _ ?_
      exact k
    have pre159 : ∀ t, Steps p.tables e below (T157.setTop (mkF m 59 #[.val (.long q1), .second, .val (.int p2), .val (.long (F5 q1 (12 : Int32))), .second, .val (.int (F7 q1 (12 : Int32))), .val (.long (((F5 ((F5 q1 (12 : Int32)) + (3 : Int64)) (4 : Int32)) - (F5 ((F5 q1 (12 : Int32)) + (99 : Int64)) (100 : Int32))) + (F5 ((F5 q1 (12 : Int32)) + (399 : Int64)) (400 : Int32)))), .second, .unset] [(.long (F5 q1 (12 : Int32))), (.ref wI)])) t → Steps p.tables e below (s₁.setTop (entryFrame m #[(.long q1), (.int p2)] 9)) t := by
      intro t k
      refine pre158 _ ?_
      show Steps p.tables e below (T157.setTop (mkF m 58 #[.val (.long q1), .second, .val (.int p2), .val (.long (F5 q1 (12 : Int32))), .second, .val (.int (F7 q1 (12 : Int32))), .val (.long (((F5 ((F5 q1 (12 : Int32)) + (3 : Int64)) (4 : Int32)) - (F5 ((F5 q1 (12 : Int32)) + (99 : Int64)) (100 : Int32))) + (F5 ((F5 q1 (12 : Int32)) + (399 : Int64)) (400 : Int32)))), .second, .unset] [(.ref wI)])) _
      refine XS.lloadN X157.here hx rfl (hb hby d4_58) rfl ?_
      exact k
    obtain ⟨cq160, kq160, q160a, q160b, q160c⟩ := isOf hZ e157 E_wI
    obtain ⟨_, _, ⟨T160, L160, k160, n160⟩, -, X160, ⟨Lc160, hQ160, l160, y160, z160⟩, st160⟩ := X157.virtualBack hx (y := (⟨"java/time/chrono/IsoChronology", "isLeapYear", "(J)Z"⟩ : MethodName)) (z := (⟨"java/time/chrono/IsoChronology", "isLeapYear", "(J)Z"⟩ : MethodName)) hown (mvT hZ (hw _ (List.mem_of_getElem? (i := 47) rfl))) (mvT hZ (hw _ (List.mem_of_getElem? (i := 48) rfl))) (notFace_of_selects (args := #[]) (mvT hZ (hw _ (List.mem_of_getElem? (i := 50) rfl)))) (mvT hZ (hw _ (List.mem_of_getElem? (i := 50) rfl))) (mvT hZ (hw _ (List.mem_of_getElem? (i := 49) rfl))) (by decide) (backOf (W := 0) (rm9 l Z a0 hw [] wI (F5 q1 (12 : Int32)) h0 n0 Z0 ) hZ (hw _ (List.mem_of_getElem? (i := 51) rfl)) (hw _ (List.mem_of_getElem? (i := 46) rfl)) (by decide) (by decide)) q160a q160c (g := (mkF m 59 #[.val (.long q1), .second, .val (.int p2), .val (.long (F5 q1 (12 : Int32))), .second, .val (.int (F7 q1 (12 : Int32))), .val (.long (((F5 ((F5 q1 (12 : Int32)) + (3 : Int64)) (4 : Int32)) - (F5 ((F5 q1 (12 : Int32)) + (99 : Int64)) (100 : Int32))) + (F5 ((F5 q1 (12 : Int32)) + (399 : Int64)) (400 : Int32)))), .second, .unset] [(.long (F5 q1 (12 : Int32))), (.ref wI)])) rfl (by rw [hml]; rfl) (Steps.refl _) (argsL := [(.long (F5 q1 (12 : Int32)))]) (rest := []) (lenOf pd__J_Z rfl) rfl (by show 2 * 0 + _ ≤ _; exact Nat.le_of_eq rfl) (hb hby d4_59) (fun _ _ => ⟨rfl, e157, (by decide : 0 + 0 ≤ _), (by decide : 0 + 0 ≤ _)⟩)
    dsimp only [Pt.U, Pt.locs, Pt.cells, Pt.slots] at X160 l160 y160 z160 st160 hQ160
    subst l160 y160 z160
    obtain ⟨rfl, N160q, e160⟩ := hQ160
    have N160 := Fr.app N152 N160q
    have pre161 : ∀ t, Steps p.tables e below (T160.setTop (mkF m 62 #[.val (.long q1), .second, .val (.int p2), .val (.long (F5 q1 (12 : Int32))), .second, .val (.int (F7 q1 (12 : Int32))), .val (.long (((F5 ((F5 q1 (12 : Int32)) + (3 : Int64)) (4 : Int32)) - (F5 ((F5 q1 (12 : Int32)) + (99 : Int64)) (100 : Int32))) + (F5 ((F5 q1 (12 : Int32)) + (399 : Int64)) (400 : Int32)))), .second, .unset] [(.int (F9 (F5 q1 (12 : Int32))))])) t → Steps p.tables e below (s₁.setTop (entryFrame m #[(.long q1), (.int p2)] 9)) t := by
      intro t k
      refine pre159 _ ?_
      show Steps p.tables e below (T157.setTop (mkF m 59 #[.val (.long q1), .second, .val (.int p2), .val (.long (F5 q1 (12 : Int32))), .second, .val (.int (F7 q1 (12 : Int32))), .val (.long (((F5 ((F5 q1 (12 : Int32)) + (3 : Int64)) (4 : Int32)) - (F5 ((F5 q1 (12 : Int32)) + (99 : Int64)) (100 : Int32))) + (F5 ((F5 q1 (12 : Int32)) + (399 : Int64)) (400 : Int32)))), .second, .unset] [(.long (F5 q1 (12 : Int32))), (.ref wI)])) _
      refine st160.trans ?_
      exact k
    by_cases hc162 : (F9 (F5 q1 (12 : Int32))) = (0 : Int32)
    · have pre163 : ∀ t, Steps p.tables e below (T160.setTop (mkF m 69 #[.val (.long q1), .second, .val (.int p2), .val (.long (F5 q1 (12 : Int32))), .second, .val (.int (F7 q1 (12 : Int32))), .val (.long (((F5 ((F5 q1 (12 : Int32)) + (3 : Int64)) (4 : Int32)) - (F5 ((F5 q1 (12 : Int32)) + (99 : Int64)) (100 : Int32))) + (F5 ((F5 q1 (12 : Int32)) + (399 : Int64)) (400 : Int32)))), .second, .unset] [])) t → Steps p.tables e below (s₁.setTop (entryFrame m #[(.long q1), (.int p2)] 9)) t := by
        intro t k
        refine pre161 _ ?_
        show Steps p.tables e below (T160.setTop (mkF m 62 #[.val (.long q1), .second, .val (.int p2), .val (.long (F5 q1 (12 : Int32))), .second, .val (.int (F7 q1 (12 : Int32))), .val (.long (((F5 ((F5 q1 (12 : Int32)) + (3 : Int64)) (4 : Int32)) - (F5 ((F5 q1 (12 : Int32)) + (99 : Int64)) (100 : Int32))) + (F5 ((F5 q1 (12 : Int32)) + (399 : Int64)) (400 : Int32)))), .second, .unset] [(.int (F9 (F5 q1 (12 : Int32))))])) _
        refine XS.ifYes X160.here hx rfl (pc0 := 62) (pc' := 69) rfl (hb hby d4_62) rfl ((if0 _ _).trans (teq hc162).1) (by decide) (by decide) ?_
        exact k
      have pre164 : ∀ t, Steps p.tables e below (T160.setTop (mkF m 80 #[.val (.long q1), .second, .val (.int p2), .val (.long (F5 q1 (12 : Int32))), .second, .val (.int (F7 q1 (12 : Int32))), .val (.long (((F5 ((F5 q1 (12 : Int32)) + (3 : Int64)) (4 : Int32)) - (F5 ((F5 q1 (12 : Int32)) + (99 : Int64)) (100 : Int32))) + (F5 ((F5 q1 (12 : Int32)) + (399 : Int64)) (400 : Int32)))), .second, .val (.int (0 : Int32))] [(.long (((365 : Int64) * (F5 q1 (12 : Int32))) + (((F5 ((F5 q1 (12 : Int32)) + (3 : Int64)) (4 : Int32)) - (F5 ((F5 q1 (12 : Int32)) + (99 : Int64)) (100 : Int32))) + (F5 ((F5 q1 (12 : Int32)) + (399 : Int64)) (400 : Int32)))))])) t → Steps p.tables e below (s₁.setTop (entryFrame m #[(.long q1), (.int p2)] 9)) t := by
        intro t k
        refine pre163 _ ?_
        show Steps p.tables e below (T160.setTop (mkF m 69 #[.val (.long q1), .second, .val (.int p2), .val (.long (F5 q1 (12 : Int32))), .second, .val (.int (F7 q1 (12 : Int32))), .val (.long (((F5 ((F5 q1 (12 : Int32)) + (3 : Int64)) (4 : Int32)) - (F5 ((F5 q1 (12 : Int32)) + (99 : Int64)) (100 : Int32))) + (F5 ((F5 q1 (12 : Int32)) + (399 : Int64)) (400 : Int32)))), .second, .unset] [])) _
        refine XS.iconst X160.here hx rfl (hb hby d4_69) ?_
        show Steps p.tables e below (T160.setTop (mkF m 70 #[.val (.long q1), .second, .val (.int p2), .val (.long (F5 q1 (12 : Int32))), .second, .val (.int (F7 q1 (12 : Int32))), .val (.long (((F5 ((F5 q1 (12 : Int32)) + (3 : Int64)) (4 : Int32)) - (F5 ((F5 q1 (12 : Int32)) + (99 : Int64)) (100 : Int32))) + (F5 ((F5 q1 (12 : Int32)) + (399 : Int64)) (400 : Int32)))), .second, .unset] [(.int (0 : Int32))])) _
        refine XS.istore X160.here hx rfl (hb hby d4_70) rfl (l' := #[.val (.long q1), .second, .val (.int p2), .val (.long (F5 q1 (12 : Int32))), .second, .val (.int (F7 q1 (12 : Int32))), .val (.long (((F5 ((F5 q1 (12 : Int32)) + (3 : Int64)) (4 : Int32)) - (F5 ((F5 q1 (12 : Int32)) + (99 : Int64)) (100 : Int32))) + (F5 ((F5 q1 (12 : Int32)) + (399 : Int64)) (400 : Int32)))), .second, .val (.int (0 : Int32))]) rfl ?_
        show Steps p.tables e below (T160.setTop (mkF m 72 #[.val (.long q1), .second, .val (.int p2), .val (.long (F5 q1 (12 : Int32))), .second, .val (.int (F7 q1 (12 : Int32))), .val (.long (((F5 ((F5 q1 (12 : Int32)) + (3 : Int64)) (4 : Int32)) - (F5 ((F5 q1 (12 : Int32)) + (99 : Int64)) (100 : Int32))) + (F5 ((F5 q1 (12 : Int32)) + (399 : Int64)) (400 : Int32)))), .second, .val (.int (0 : Int32))] [])) _
        refine X160.ldc2Long hx hown (mvT hZ (hw _ (List.mem_of_getElem? (i := 53) rfl))) (g := (mkF m 72 #[.val (.long q1), .second, .val (.int p2), .val (.long (F5 q1 (12 : Int32))), .second, .val (.int (F7 q1 (12 : Int32))), .val (.long (((F5 ((F5 q1 (12 : Int32)) + (3 : Int64)) (4 : Int32)) - (F5 ((F5 q1 (12 : Int32)) + (99 : Int64)) (100 : Int32))) + (F5 ((F5 q1 (12 : Int32)) + (399 : Int64)) (400 : Int32)))), .second, .val (.int (0 : Int32))] [])) rfl (hb hby d4_72) _ ?_
        show Steps p.tables e below (T160.setTop (mkF m 75 #[.val (.long q1), .second, .val (.int p2), .val (.long (F5 q1 (12 : Int32))), .second, .val (.int (F7 q1 (12 : Int32))), .val (.long (((F5 ((F5 q1 (12 : Int32)) + (3 : Int64)) (4 : Int32)) - (F5 ((F5 q1 (12 : Int32)) + (99 : Int64)) (100 : Int32))) + (F5 ((F5 q1 (12 : Int32)) + (399 : Int64)) (400 : Int32)))), .second, .val (.int (0 : Int32))] [(.long (365 : Int64))])) _
        refine XS.lloadN X160.here hx rfl (hb hby d4_75) rfl ?_
        show Steps p.tables e below (T160.setTop (mkF m 76 #[.val (.long q1), .second, .val (.int p2), .val (.long (F5 q1 (12 : Int32))), .second, .val (.int (F7 q1 (12 : Int32))), .val (.long (((F5 ((F5 q1 (12 : Int32)) + (3 : Int64)) (4 : Int32)) - (F5 ((F5 q1 (12 : Int32)) + (99 : Int64)) (100 : Int32))) + (F5 ((F5 q1 (12 : Int32)) + (399 : Int64)) (400 : Int32)))), .second, .val (.int (0 : Int32))] [(.long (F5 q1 (12 : Int32))), (.long (365 : Int64))])) _
        refine XS.lmul X160.here hx rfl (hb hby d4_76) rfl ?_
        show Steps p.tables e below (T160.setTop (mkF m 77 #[.val (.long q1), .second, .val (.int p2), .val (.long (F5 q1 (12 : Int32))), .second, .val (.int (F7 q1 (12 : Int32))), .val (.long (((F5 ((F5 q1 (12 : Int32)) + (3 : Int64)) (4 : Int32)) - (F5 ((F5 q1 (12 : Int32)) + (99 : Int64)) (100 : Int32))) + (F5 ((F5 q1 (12 : Int32)) + (399 : Int64)) (400 : Int32)))), .second, .val (.int (0 : Int32))] [(.long ((365 : Int64) * (F5 q1 (12 : Int32))))])) _
        refine XS.lload X160.here hx rfl (hb hby d4_77) rfl ?_
        show Steps p.tables e below (T160.setTop (mkF m 79 #[.val (.long q1), .second, .val (.int p2), .val (.long (F5 q1 (12 : Int32))), .second, .val (.int (F7 q1 (12 : Int32))), .val (.long (((F5 ((F5 q1 (12 : Int32)) + (3 : Int64)) (4 : Int32)) - (F5 ((F5 q1 (12 : Int32)) + (99 : Int64)) (100 : Int32))) + (F5 ((F5 q1 (12 : Int32)) + (399 : Int64)) (400 : Int32)))), .second, .val (.int (0 : Int32))] [(.long (((F5 ((F5 q1 (12 : Int32)) + (3 : Int64)) (4 : Int32)) - (F5 ((F5 q1 (12 : Int32)) + (99 : Int64)) (100 : Int32))) + (F5 ((F5 q1 (12 : Int32)) + (399 : Int64)) (400 : Int32)))), (.long ((365 : Int64) * (F5 q1 (12 : Int32))))])) _
        refine XS.ladd X160.here hx rfl (hb hby d4_79) rfl ?_
        exact k
      obtain ⟨T165, X165, e165, st165⟩ := getS2 X160 hx hZ hown (host := "") (Or.inl (hw _ (List.mem_of_getElem? (i := 54) rfl))) Via.refl e160 S_wD (g := (mkF m 80 #[.val (.long q1), .second, .val (.int p2), .val (.long (F5 q1 (12 : Int32))), .second, .val (.int (F7 q1 (12 : Int32))), .val (.long (((F5 ((F5 q1 (12 : Int32)) + (3 : Int64)) (4 : Int32)) - (F5 ((F5 q1 (12 : Int32)) + (99 : Int64)) (100 : Int32))) + (F5 ((F5 q1 (12 : Int32)) + (399 : Int64)) (400 : Int32)))), .second, .val (.int (0 : Int32))] [(.long (((365 : Int64) * (F5 q1 (12 : Int32))) + (((F5 ((F5 q1 (12 : Int32)) + (3 : Int64)) (4 : Int32)) - (F5 ((F5 q1 (12 : Int32)) + (99 : Int64)) (100 : Int32))) + (F5 ((F5 q1 (12 : Int32)) + (399 : Int64)) (400 : Int32)))))])) rfl (hb hby d4_80)
      have pre166 : ∀ t, Steps p.tables e below (T165.setTop (mkF m 83 #[.val (.long q1), .second, .val (.int p2), .val (.long (F5 q1 (12 : Int32))), .second, .val (.int (F7 q1 (12 : Int32))), .val (.long (((F5 ((F5 q1 (12 : Int32)) + (3 : Int64)) (4 : Int32)) - (F5 ((F5 q1 (12 : Int32)) + (99 : Int64)) (100 : Int32))) + (F5 ((F5 q1 (12 : Int32)) + (399 : Int64)) (400 : Int32)))), .second, .val (.int (0 : Int32))] [(.ref wD), (.long (((365 : Int64) * (F5 q1 (12 : Int32))) + (((F5 ((F5 q1 (12 : Int32)) + (3 : Int64)) (4 : Int32)) - (F5 ((F5 q1 (12 : Int32)) + (99 : Int64)) (100 : Int32))) + (F5 ((F5 q1 (12 : Int32)) + (399 : Int64)) (400 : Int32)))))])) t → Steps p.tables e below (s₁.setTop (entryFrame m #[(.long q1), (.int p2)] 9)) t := by
        intro t k
        refine pre164 _ ?_
        show Steps p.tables e below (T160.setTop (mkF m 80 #[.val (.long q1), .second, .val (.int p2), .val (.long (F5 q1 (12 : Int32))), .second, .val (.int (F7 q1 (12 : Int32))), .val (.long (((F5 ((F5 q1 (12 : Int32)) + (3 : Int64)) (4 : Int32)) - (F5 ((F5 q1 (12 : Int32)) + (99 : Int64)) (100 : Int32))) + (F5 ((F5 q1 (12 : Int32)) + (399 : Int64)) (400 : Int32)))), .second, .val (.int (0 : Int32))] [(.long (((365 : Int64) * (F5 q1 (12 : Int32))) + (((F5 ((F5 q1 (12 : Int32)) + (3 : Int64)) (4 : Int32)) - (F5 ((F5 q1 (12 : Int32)) + (99 : Int64)) (100 : Int32))) + (F5 ((F5 q1 (12 : Int32)) + (399 : Int64)) (400 : Int32)))))])) _
        refine st165 _ ?_
        exact k
      have pre167 : ∀ t, Steps p.tables e below (T165.setTop (mkF m 97 #[.val (.long q1), .second, .val (.int p2), .val (.long (F5 q1 (12 : Int32))), .second, .val (.int (F7 q1 (12 : Int32))), .val (.long (((F5 ((F5 q1 (12 : Int32)) + (3 : Int64)) (4 : Int32)) - (F5 ((F5 q1 (12 : Int32)) + (99 : Int64)) (100 : Int32))) + (F5 ((F5 q1 (12 : Int32)) + (399 : Int64)) (400 : Int32)))), .second, .val (.int (0 : Int32))] [(.long (((((((365 : Int64) * (F5 q1 (12 : Int32))) + (((F5 ((F5 q1 (12 : Int32)) + (3 : Int64)) (4 : Int32)) - (F5 ((F5 q1 (12 : Int32)) + (99 : Int64)) (100 : Int32))) + (F5 ((F5 q1 (12 : Int32)) + (399 : Int64)) (400 : Int32)))) + ((own_dbm (F7 q1 (12 : Int32))).toInt64)) + ((0 : Int32).toInt64)) + (p2.toInt64)) - (1 : Int64)))])) t → Steps p.tables e below (s₁.setTop (entryFrame m #[(.long q1), (.int p2)] 9)) t := by
        intro t k
        refine pre166 _ ?_
        show Steps p.tables e below (T165.setTop (mkF m 83 #[.val (.long q1), .second, .val (.int p2), .val (.long (F5 q1 (12 : Int32))), .second, .val (.int (F7 q1 (12 : Int32))), .val (.long (((F5 ((F5 q1 (12 : Int32)) + (3 : Int64)) (4 : Int32)) - (F5 ((F5 q1 (12 : Int32)) + (99 : Int64)) (100 : Int32))) + (F5 ((F5 q1 (12 : Int32)) + (399 : Int64)) (400 : Int32)))), .second, .val (.int (0 : Int32))] [(.ref wD), (.long (((365 : Int64) * (F5 q1 (12 : Int32))) + (((F5 ((F5 q1 (12 : Int32)) + (3 : Int64)) (4 : Int32)) - (F5 ((F5 q1 (12 : Int32)) + (99 : Int64)) (100 : Int32))) + (F5 ((F5 q1 (12 : Int32)) + (399 : Int64)) (400 : Int32)))))])) _
        refine XS.iload X165.here hx rfl (hb hby d4_83) rfl ?_
        show Steps p.tables e below (T165.setTop (mkF m 85 #[.val (.long q1), .second, .val (.int p2), .val (.long (F5 q1 (12 : Int32))), .second, .val (.int (F7 q1 (12 : Int32))), .val (.long (((F5 ((F5 q1 (12 : Int32)) + (3 : Int64)) (4 : Int32)) - (F5 ((F5 q1 (12 : Int32)) + (99 : Int64)) (100 : Int32))) + (F5 ((F5 q1 (12 : Int32)) + (399 : Int64)) (400 : Int32)))), .second, .val (.int (0 : Int32))] [(.int (F7 q1 (12 : Int32))), (.ref wD), (.long (((365 : Int64) * (F5 q1 (12 : Int32))) + (((F5 ((F5 q1 (12 : Int32)) + (3 : Int64)) (4 : Int32)) - (F5 ((F5 q1 (12 : Int32)) + (99 : Int64)) (100 : Int32))) + (F5 ((F5 q1 (12 : Int32)) + (399 : Int64)) (400 : Int32)))))])) _
        refine X165.iaload hx (j := (F7 q1 (12 : Int32))) (v := (.int (own_dbm (F7 q1 (12 : Int32))))) (by rw [e165]; exact Ar_wD.1) (State.isArrayOf_alike hZ.alike Ar_wD.2.1) Ar_wD.2.2 (hD _ (own_fm _)).1 (hD _ (own_fm _)).2 (g := (mkF m 85 #[.val (.long q1), .second, .val (.int p2), .val (.long (F5 q1 (12 : Int32))), .second, .val (.int (F7 q1 (12 : Int32))), .val (.long (((F5 ((F5 q1 (12 : Int32)) + (3 : Int64)) (4 : Int32)) - (F5 ((F5 q1 (12 : Int32)) + (99 : Int64)) (100 : Int32))) + (F5 ((F5 q1 (12 : Int32)) + (399 : Int64)) (400 : Int32)))), .second, .val (.int (0 : Int32))] [(.int (F7 q1 (12 : Int32))), (.ref wD), (.long (((365 : Int64) * (F5 q1 (12 : Int32))) + (((F5 ((F5 q1 (12 : Int32)) + (3 : Int64)) (4 : Int32)) - (F5 ((F5 q1 (12 : Int32)) + (99 : Int64)) (100 : Int32))) + (F5 ((F5 q1 (12 : Int32)) + (399 : Int64)) (400 : Int32)))))])) rfl rfl (hb hby d4_85) _ ?_
        show Steps p.tables e below (T165.setTop (mkF m 86 #[.val (.long q1), .second, .val (.int p2), .val (.long (F5 q1 (12 : Int32))), .second, .val (.int (F7 q1 (12 : Int32))), .val (.long (((F5 ((F5 q1 (12 : Int32)) + (3 : Int64)) (4 : Int32)) - (F5 ((F5 q1 (12 : Int32)) + (99 : Int64)) (100 : Int32))) + (F5 ((F5 q1 (12 : Int32)) + (399 : Int64)) (400 : Int32)))), .second, .val (.int (0 : Int32))] [(.int (own_dbm (F7 q1 (12 : Int32)))), (.long (((365 : Int64) * (F5 q1 (12 : Int32))) + (((F5 ((F5 q1 (12 : Int32)) + (3 : Int64)) (4 : Int32)) - (F5 ((F5 q1 (12 : Int32)) + (99 : Int64)) (100 : Int32))) + (F5 ((F5 q1 (12 : Int32)) + (399 : Int64)) (400 : Int32)))))])) _
        refine XS.i2l X165.here hx rfl (hb hby d4_86) rfl ?_
        show Steps p.tables e below (T165.setTop (mkF m 87 #[.val (.long q1), .second, .val (.int p2), .val (.long (F5 q1 (12 : Int32))), .second, .val (.int (F7 q1 (12 : Int32))), .val (.long (((F5 ((F5 q1 (12 : Int32)) + (3 : Int64)) (4 : Int32)) - (F5 ((F5 q1 (12 : Int32)) + (99 : Int64)) (100 : Int32))) + (F5 ((F5 q1 (12 : Int32)) + (399 : Int64)) (400 : Int32)))), .second, .val (.int (0 : Int32))] [(.long ((own_dbm (F7 q1 (12 : Int32))).toInt64)), (.long (((365 : Int64) * (F5 q1 (12 : Int32))) + (((F5 ((F5 q1 (12 : Int32)) + (3 : Int64)) (4 : Int32)) - (F5 ((F5 q1 (12 : Int32)) + (99 : Int64)) (100 : Int32))) + (F5 ((F5 q1 (12 : Int32)) + (399 : Int64)) (400 : Int32)))))])) _
        refine XS.ladd X165.here hx rfl (hb hby d4_87) rfl ?_
        show Steps p.tables e below (T165.setTop (mkF m 88 #[.val (.long q1), .second, .val (.int p2), .val (.long (F5 q1 (12 : Int32))), .second, .val (.int (F7 q1 (12 : Int32))), .val (.long (((F5 ((F5 q1 (12 : Int32)) + (3 : Int64)) (4 : Int32)) - (F5 ((F5 q1 (12 : Int32)) + (99 : Int64)) (100 : Int32))) + (F5 ((F5 q1 (12 : Int32)) + (399 : Int64)) (400 : Int32)))), .second, .val (.int (0 : Int32))] [(.long ((((365 : Int64) * (F5 q1 (12 : Int32))) + (((F5 ((F5 q1 (12 : Int32)) + (3 : Int64)) (4 : Int32)) - (F5 ((F5 q1 (12 : Int32)) + (99 : Int64)) (100 : Int32))) + (F5 ((F5 q1 (12 : Int32)) + (399 : Int64)) (400 : Int32)))) + ((own_dbm (F7 q1 (12 : Int32))).toInt64)))])) _
        refine XS.iload X165.here hx rfl (hb hby d4_88) rfl ?_
        show Steps p.tables e below (T165.setTop (mkF m 90 #[.val (.long q1), .second, .val (.int p2), .val (.long (F5 q1 (12 : Int32))), .second, .val (.int (F7 q1 (12 : Int32))), .val (.long (((F5 ((F5 q1 (12 : Int32)) + (3 : Int64)) (4 : Int32)) - (F5 ((F5 q1 (12 : Int32)) + (99 : Int64)) (100 : Int32))) + (F5 ((F5 q1 (12 : Int32)) + (399 : Int64)) (400 : Int32)))), .second, .val (.int (0 : Int32))] [(.int (0 : Int32)), (.long ((((365 : Int64) * (F5 q1 (12 : Int32))) + (((F5 ((F5 q1 (12 : Int32)) + (3 : Int64)) (4 : Int32)) - (F5 ((F5 q1 (12 : Int32)) + (99 : Int64)) (100 : Int32))) + (F5 ((F5 q1 (12 : Int32)) + (399 : Int64)) (400 : Int32)))) + ((own_dbm (F7 q1 (12 : Int32))).toInt64)))])) _
        refine XS.i2l X165.here hx rfl (hb hby d4_90) rfl ?_
        show Steps p.tables e below (T165.setTop (mkF m 91 #[.val (.long q1), .second, .val (.int p2), .val (.long (F5 q1 (12 : Int32))), .second, .val (.int (F7 q1 (12 : Int32))), .val (.long (((F5 ((F5 q1 (12 : Int32)) + (3 : Int64)) (4 : Int32)) - (F5 ((F5 q1 (12 : Int32)) + (99 : Int64)) (100 : Int32))) + (F5 ((F5 q1 (12 : Int32)) + (399 : Int64)) (400 : Int32)))), .second, .val (.int (0 : Int32))] [(.long ((0 : Int32).toInt64)), (.long ((((365 : Int64) * (F5 q1 (12 : Int32))) + (((F5 ((F5 q1 (12 : Int32)) + (3 : Int64)) (4 : Int32)) - (F5 ((F5 q1 (12 : Int32)) + (99 : Int64)) (100 : Int32))) + (F5 ((F5 q1 (12 : Int32)) + (399 : Int64)) (400 : Int32)))) + ((own_dbm (F7 q1 (12 : Int32))).toInt64)))])) _
        refine XS.ladd X165.here hx rfl (hb hby d4_91) rfl ?_
        show Steps p.tables e below (T165.setTop (mkF m 92 #[.val (.long q1), .second, .val (.int p2), .val (.long (F5 q1 (12 : Int32))), .second, .val (.int (F7 q1 (12 : Int32))), .val (.long (((F5 ((F5 q1 (12 : Int32)) + (3 : Int64)) (4 : Int32)) - (F5 ((F5 q1 (12 : Int32)) + (99 : Int64)) (100 : Int32))) + (F5 ((F5 q1 (12 : Int32)) + (399 : Int64)) (400 : Int32)))), .second, .val (.int (0 : Int32))] [(.long (((((365 : Int64) * (F5 q1 (12 : Int32))) + (((F5 ((F5 q1 (12 : Int32)) + (3 : Int64)) (4 : Int32)) - (F5 ((F5 q1 (12 : Int32)) + (99 : Int64)) (100 : Int32))) + (F5 ((F5 q1 (12 : Int32)) + (399 : Int64)) (400 : Int32)))) + ((own_dbm (F7 q1 (12 : Int32))).toInt64)) + ((0 : Int32).toInt64)))])) _
        refine XS.iloadN X165.here hx rfl (hb hby d4_92) rfl ?_
        show Steps p.tables e below (T165.setTop (mkF m 93 #[.val (.long q1), .second, .val (.int p2), .val (.long (F5 q1 (12 : Int32))), .second, .val (.int (F7 q1 (12 : Int32))), .val (.long (((F5 ((F5 q1 (12 : Int32)) + (3 : Int64)) (4 : Int32)) - (F5 ((F5 q1 (12 : Int32)) + (99 : Int64)) (100 : Int32))) + (F5 ((F5 q1 (12 : Int32)) + (399 : Int64)) (400 : Int32)))), .second, .val (.int (0 : Int32))] [(.int p2), (.long (((((365 : Int64) * (F5 q1 (12 : Int32))) + (((F5 ((F5 q1 (12 : Int32)) + (3 : Int64)) (4 : Int32)) - (F5 ((F5 q1 (12 : Int32)) + (99 : Int64)) (100 : Int32))) + (F5 ((F5 q1 (12 : Int32)) + (399 : Int64)) (400 : Int32)))) + ((own_dbm (F7 q1 (12 : Int32))).toInt64)) + ((0 : Int32).toInt64)))])) _
        refine XS.i2l X165.here hx rfl (hb hby d4_93) rfl ?_
        show Steps p.tables e below (T165.setTop (mkF m 94 #[.val (.long q1), .second, .val (.int p2), .val (.long (F5 q1 (12 : Int32))), .second, .val (.int (F7 q1 (12 : Int32))), .val (.long (((F5 ((F5 q1 (12 : Int32)) + (3 : Int64)) (4 : Int32)) - (F5 ((F5 q1 (12 : Int32)) + (99 : Int64)) (100 : Int32))) + (F5 ((F5 q1 (12 : Int32)) + (399 : Int64)) (400 : Int32)))), .second, .val (.int (0 : Int32))] [(.long (p2.toInt64)), (.long (((((365 : Int64) * (F5 q1 (12 : Int32))) + (((F5 ((F5 q1 (12 : Int32)) + (3 : Int64)) (4 : Int32)) - (F5 ((F5 q1 (12 : Int32)) + (99 : Int64)) (100 : Int32))) + (F5 ((F5 q1 (12 : Int32)) + (399 : Int64)) (400 : Int32)))) + ((own_dbm (F7 q1 (12 : Int32))).toInt64)) + ((0 : Int32).toInt64)))])) _
        refine XS.ladd X165.here hx rfl (hb hby d4_94) rfl ?_
        show Steps p.tables e below (T165.setTop (mkF m 95 #[.val (.long q1), .second, .val (.int p2), .val (.long (F5 q1 (12 : Int32))), .second, .val (.int (F7 q1 (12 : Int32))), .val (.long (((F5 ((F5 q1 (12 : Int32)) + (3 : Int64)) (4 : Int32)) - (F5 ((F5 q1 (12 : Int32)) + (99 : Int64)) (100 : Int32))) + (F5 ((F5 q1 (12 : Int32)) + (399 : Int64)) (400 : Int32)))), .second, .val (.int (0 : Int32))] [(.long ((((((365 : Int64) * (F5 q1 (12 : Int32))) + (((F5 ((F5 q1 (12 : Int32)) + (3 : Int64)) (4 : Int32)) - (F5 ((F5 q1 (12 : Int32)) + (99 : Int64)) (100 : Int32))) + (F5 ((F5 q1 (12 : Int32)) + (399 : Int64)) (400 : Int32)))) + ((own_dbm (F7 q1 (12 : Int32))).toInt64)) + ((0 : Int32).toInt64)) + (p2.toInt64)))])) _
        refine XS.lconst X165.here hx rfl (hb hby d4_95) ?_
        show Steps p.tables e below (T165.setTop (mkF m 96 #[.val (.long q1), .second, .val (.int p2), .val (.long (F5 q1 (12 : Int32))), .second, .val (.int (F7 q1 (12 : Int32))), .val (.long (((F5 ((F5 q1 (12 : Int32)) + (3 : Int64)) (4 : Int32)) - (F5 ((F5 q1 (12 : Int32)) + (99 : Int64)) (100 : Int32))) + (F5 ((F5 q1 (12 : Int32)) + (399 : Int64)) (400 : Int32)))), .second, .val (.int (0 : Int32))] [(.long (1 : Int64)), (.long ((((((365 : Int64) * (F5 q1 (12 : Int32))) + (((F5 ((F5 q1 (12 : Int32)) + (3 : Int64)) (4 : Int32)) - (F5 ((F5 q1 (12 : Int32)) + (99 : Int64)) (100 : Int32))) + (F5 ((F5 q1 (12 : Int32)) + (399 : Int64)) (400 : Int32)))) + ((own_dbm (F7 q1 (12 : Int32))).toInt64)) + ((0 : Int32).toInt64)) + (p2.toInt64)))])) _
        refine XS.lsub X165.here hx rfl (hb hby d4_96) rfl ?_
        exact k
      obtain ⟨fs, hr, hrun, hended, hW, hsame⟩ := X165.leave (v := some (.long (((((((365 : Int64) * (F5 q1 (12 : Int32))) + (((F5 ((F5 q1 (12 : Int32)) + (3 : Int64)) (4 : Int32)) - (F5 ((F5 q1 (12 : Int32)) + (99 : Int64)) (100 : Int32))) + (F5 ((F5 q1 (12 : Int32)) + (399 : Int64)) (400 : Int32)))) + ((own_dbm (F7 q1 (12 : Int32))).toInt64)) + ((0 : Int32).toInt64)) + (p2.toInt64)) - (1 : Int64)))) (fun h => by rw [hret] at h; cases h) (hlocks := hlocks)
      refine ⟨_, _, pre167 _ ?_, hrun, hended, _, _, rfl, ?_, ⟨_, rfl⟩, hW, hsame.mono (by decide) (by decide)⟩
      · show Steps p.tables e below (T165.setTop (mkF m 97 #[.val (.long q1), .second, .val (.int p2), .val (.long (F5 q1 (12 : Int32))), .second, .val (.int (F7 q1 (12 : Int32))), .val (.long (((F5 ((F5 q1 (12 : Int32)) + (3 : Int64)) (4 : Int32)) - (F5 ((F5 q1 (12 : Int32)) + (99 : Int64)) (100 : Int32))) + (F5 ((F5 q1 (12 : Int32)) + (399 : Int64)) (400 : Int32)))), .second, .val (.int (0 : Int32))] [(.long (((((((365 : Int64) * (F5 q1 (12 : Int32))) + (((F5 ((F5 q1 (12 : Int32)) + (3 : Int64)) (4 : Int32)) - (F5 ((F5 q1 (12 : Int32)) + (99 : Int64)) (100 : Int32))) + (F5 ((F5 q1 (12 : Int32)) + (399 : Int64)) (400 : Int32)))) + ((own_dbm (F7 q1 (12 : Int32))).toInt64)) + ((0 : Int32).toInt64)) + (p2.toInt64)) - (1 : Int64)))])) _
        exact Jvm.RoadKit.retOut X165 hx hret rfl (Or.inr (Or.inl ⟨rfl, rfl, _, rfl⟩)) (hb hby d4_97) hr
      · show Q4 Z q1 p2 cl_wD wI wD h0 n0 _ T165.heap _
        exact ⟨(by rw [F4, if_pos hc155, if_pos hc162]), N160, e165⟩
    · have pre168 : ∀ t, Steps p.tables e below (T160.setTop (mkF m 65 #[.val (.long q1), .second, .val (.int p2), .val (.long (F5 q1 (12 : Int32))), .second, .val (.int (F7 q1 (12 : Int32))), .val (.long (((F5 ((F5 q1 (12 : Int32)) + (3 : Int64)) (4 : Int32)) - (F5 ((F5 q1 (12 : Int32)) + (99 : Int64)) (100 : Int32))) + (F5 ((F5 q1 (12 : Int32)) + (399 : Int64)) (400 : Int32)))), .second, .unset] [])) t → Steps p.tables e below (s₁.setTop (entryFrame m #[(.long q1), (.int p2)] 9)) t := by
        intro t k
        refine pre161 _ ?_
        show Steps p.tables e below (T160.setTop (mkF m 62 #[.val (.long q1), .second, .val (.int p2), .val (.long (F5 q1 (12 : Int32))), .second, .val (.int (F7 q1 (12 : Int32))), .val (.long (((F5 ((F5 q1 (12 : Int32)) + (3 : Int64)) (4 : Int32)) - (F5 ((F5 q1 (12 : Int32)) + (99 : Int64)) (100 : Int32))) + (F5 ((F5 q1 (12 : Int32)) + (399 : Int64)) (400 : Int32)))), .second, .unset] [(.int (F9 (F5 q1 (12 : Int32))))])) _
        refine XS.ifNo X160.here hx rfl (hb hby d4_62) rfl ((if0 _ _).trans (feq hc162).1) ?_
        exact k
      have pre169 : ∀ t, Steps p.tables e below (T160.setTop (mkF m 80 #[.val (.long q1), .second, .val (.int p2), .val (.long (F5 q1 (12 : Int32))), .second, .val (.int (F7 q1 (12 : Int32))), .val (.long (((F5 ((F5 q1 (12 : Int32)) + (3 : Int64)) (4 : Int32)) - (F5 ((F5 q1 (12 : Int32)) + (99 : Int64)) (100 : Int32))) + (F5 ((F5 q1 (12 : Int32)) + (399 : Int64)) (400 : Int32)))), .second, .val (.int (1 : Int32))] [(.long (((365 : Int64) * (F5 q1 (12 : Int32))) + (((F5 ((F5 q1 (12 : Int32)) + (3 : Int64)) (4 : Int32)) - (F5 ((F5 q1 (12 : Int32)) + (99 : Int64)) (100 : Int32))) + (F5 ((F5 q1 (12 : Int32)) + (399 : Int64)) (400 : Int32)))))])) t → Steps p.tables e below (s₁.setTop (entryFrame m #[(.long q1), (.int p2)] 9)) t := by
        intro t k
        refine pre168 _ ?_
        show Steps p.tables e below (T160.setTop (mkF m 65 #[.val (.long q1), .second, .val (.int p2), .val (.long (F5 q1 (12 : Int32))), .second, .val (.int (F7 q1 (12 : Int32))), .val (.long (((F5 ((F5 q1 (12 : Int32)) + (3 : Int64)) (4 : Int32)) - (F5 ((F5 q1 (12 : Int32)) + (99 : Int64)) (100 : Int32))) + (F5 ((F5 q1 (12 : Int32)) + (399 : Int64)) (400 : Int32)))), .second, .unset] [])) _
        refine XS.iconst X160.here hx rfl (hb hby d4_65) ?_
        show Steps p.tables e below (T160.setTop (mkF m 66 #[.val (.long q1), .second, .val (.int p2), .val (.long (F5 q1 (12 : Int32))), .second, .val (.int (F7 q1 (12 : Int32))), .val (.long (((F5 ((F5 q1 (12 : Int32)) + (3 : Int64)) (4 : Int32)) - (F5 ((F5 q1 (12 : Int32)) + (99 : Int64)) (100 : Int32))) + (F5 ((F5 q1 (12 : Int32)) + (399 : Int64)) (400 : Int32)))), .second, .unset] [(.int (1 : Int32))])) _
        refine XS.goto X160.here hx rfl (pc0 := 66) (pc' := 70) rfl (hb hby d4_66) (by decide) (by decide) ?_
        show Steps p.tables e below (T160.setTop (mkF m 70 #[.val (.long q1), .second, .val (.int p2), .val (.long (F5 q1 (12 : Int32))), .second, .val (.int (F7 q1 (12 : Int32))), .val (.long (((F5 ((F5 q1 (12 : Int32)) + (3 : Int64)) (4 : Int32)) - (F5 ((F5 q1 (12 : Int32)) + (99 : Int64)) (100 : Int32))) + (F5 ((F5 q1 (12 : Int32)) + (399 : Int64)) (400 : Int32)))), .second, .unset] [(.int (1 : Int32))])) _
        refine XS.istore X160.here hx rfl (hb hby d4_70) rfl (l' := #[.val (.long q1), .second, .val (.int p2), .val (.long (F5 q1 (12 : Int32))), .second, .val (.int (F7 q1 (12 : Int32))), .val (.long (((F5 ((F5 q1 (12 : Int32)) + (3 : Int64)) (4 : Int32)) - (F5 ((F5 q1 (12 : Int32)) + (99 : Int64)) (100 : Int32))) + (F5 ((F5 q1 (12 : Int32)) + (399 : Int64)) (400 : Int32)))), .second, .val (.int (1 : Int32))]) rfl ?_
        show Steps p.tables e below (T160.setTop (mkF m 72 #[.val (.long q1), .second, .val (.int p2), .val (.long (F5 q1 (12 : Int32))), .second, .val (.int (F7 q1 (12 : Int32))), .val (.long (((F5 ((F5 q1 (12 : Int32)) + (3 : Int64)) (4 : Int32)) - (F5 ((F5 q1 (12 : Int32)) + (99 : Int64)) (100 : Int32))) + (F5 ((F5 q1 (12 : Int32)) + (399 : Int64)) (400 : Int32)))), .second, .val (.int (1 : Int32))] [])) _
        refine X160.ldc2Long hx hown (mvT hZ (hw _ (List.mem_of_getElem? (i := 53) rfl))) (g := (mkF m 72 #[.val (.long q1), .second, .val (.int p2), .val (.long (F5 q1 (12 : Int32))), .second, .val (.int (F7 q1 (12 : Int32))), .val (.long (((F5 ((F5 q1 (12 : Int32)) + (3 : Int64)) (4 : Int32)) - (F5 ((F5 q1 (12 : Int32)) + (99 : Int64)) (100 : Int32))) + (F5 ((F5 q1 (12 : Int32)) + (399 : Int64)) (400 : Int32)))), .second, .val (.int (1 : Int32))] [])) rfl (hb hby d4_72) _ ?_
        show Steps p.tables e below (T160.setTop (mkF m 75 #[.val (.long q1), .second, .val (.int p2), .val (.long (F5 q1 (12 : Int32))), .second, .val (.int (F7 q1 (12 : Int32))), .val (.long (((F5 ((F5 q1 (12 : Int32)) + (3 : Int64)) (4 : Int32)) - (F5 ((F5 q1 (12 : Int32)) + (99 : Int64)) (100 : Int32))) + (F5 ((F5 q1 (12 : Int32)) + (399 : Int64)) (400 : Int32)))), .second, .val (.int (1 : Int32))] [(.long (365 : Int64))])) _
        refine XS.lloadN X160.here hx rfl (hb hby d4_75) rfl ?_
        show Steps p.tables e below (T160.setTop (mkF m 76 #[.val (.long q1), .second, .val (.int p2), .val (.long (F5 q1 (12 : Int32))), .second, .val (.int (F7 q1 (12 : Int32))), .val (.long (((F5 ((F5 q1 (12 : Int32)) + (3 : Int64)) (4 : Int32)) - (F5 ((F5 q1 (12 : Int32)) + (99 : Int64)) (100 : Int32))) + (F5 ((F5 q1 (12 : Int32)) + (399 : Int64)) (400 : Int32)))), .second, .val (.int (1 : Int32))] [(.long (F5 q1 (12 : Int32))), (.long (365 : Int64))])) _
        refine XS.lmul X160.here hx rfl (hb hby d4_76) rfl ?_
        show Steps p.tables e below (T160.setTop (mkF m 77 #[.val (.long q1), .second, .val (.int p2), .val (.long (F5 q1 (12 : Int32))), .second, .val (.int (F7 q1 (12 : Int32))), .val (.long (((F5 ((F5 q1 (12 : Int32)) + (3 : Int64)) (4 : Int32)) - (F5 ((F5 q1 (12 : Int32)) + (99 : Int64)) (100 : Int32))) + (F5 ((F5 q1 (12 : Int32)) + (399 : Int64)) (400 : Int32)))), .second, .val (.int (1 : Int32))] [(.long ((365 : Int64) * (F5 q1 (12 : Int32))))])) _
        refine XS.lload X160.here hx rfl (hb hby d4_77) rfl ?_
        show Steps p.tables e below (T160.setTop (mkF m 79 #[.val (.long q1), .second, .val (.int p2), .val (.long (F5 q1 (12 : Int32))), .second, .val (.int (F7 q1 (12 : Int32))), .val (.long (((F5 ((F5 q1 (12 : Int32)) + (3 : Int64)) (4 : Int32)) - (F5 ((F5 q1 (12 : Int32)) + (99 : Int64)) (100 : Int32))) + (F5 ((F5 q1 (12 : Int32)) + (399 : Int64)) (400 : Int32)))), .second, .val (.int (1 : Int32))] [(.long (((F5 ((F5 q1 (12 : Int32)) + (3 : Int64)) (4 : Int32)) - (F5 ((F5 q1 (12 : Int32)) + (99 : Int64)) (100 : Int32))) + (F5 ((F5 q1 (12 : Int32)) + (399 : Int64)) (400 : Int32)))), (.long ((365 : Int64) * (F5 q1 (12 : Int32))))])) _
        refine XS.ladd X160.here hx rfl (hb hby d4_79) rfl ?_
        exact k
      obtain ⟨T170, X170, e170, st170⟩ := getS2 X160 hx hZ hown (host := "") (Or.inl (hw _ (List.mem_of_getElem? (i := 54) rfl))) Via.refl e160 S_wD (g := (mkF m 80 #[.val (.long q1), .second, .val (.int p2), .val (.long (F5 q1 (12 : Int32))), .second, .val (.int (F7 q1 (12 : Int32))), .val (.long (((F5 ((F5 q1 (12 : Int32)) + (3 : Int64)) (4 : Int32)) - (F5 ((F5 q1 (12 : Int32)) + (99 : Int64)) (100 : Int32))) + (F5 ((F5 q1 (12 : Int32)) + (399 : Int64)) (400 : Int32)))), .second, .val (.int (1 : Int32))] [(.long (((365 : Int64) * (F5 q1 (12 : Int32))) + (((F5 ((F5 q1 (12 : Int32)) + (3 : Int64)) (4 : Int32)) - (F5 ((F5 q1 (12 : Int32)) + (99 : Int64)) (100 : Int32))) + (F5 ((F5 q1 (12 : Int32)) + (399 : Int64)) (400 : Int32)))))])) rfl (hb hby d4_80)
      have pre171 : ∀ t, Steps p.tables e below (T170.setTop (mkF m 83 #[.val (.long q1), .second, .val (.int p2), .val (.long (F5 q1 (12 : Int32))), .second, .val (.int (F7 q1 (12 : Int32))), .val (.long (((F5 ((F5 q1 (12 : Int32)) + (3 : Int64)) (4 : Int32)) - (F5 ((F5 q1 (12 : Int32)) + (99 : Int64)) (100 : Int32))) + (F5 ((F5 q1 (12 : Int32)) + (399 : Int64)) (400 : Int32)))), .second, .val (.int (1 : Int32))] [(.ref wD), (.long (((365 : Int64) * (F5 q1 (12 : Int32))) + (((F5 ((F5 q1 (12 : Int32)) + (3 : Int64)) (4 : Int32)) - (F5 ((F5 q1 (12 : Int32)) + (99 : Int64)) (100 : Int32))) + (F5 ((F5 q1 (12 : Int32)) + (399 : Int64)) (400 : Int32)))))])) t → Steps p.tables e below (s₁.setTop (entryFrame m #[(.long q1), (.int p2)] 9)) t := by
        intro t k
        refine pre169 _ ?_
        show Steps p.tables e below (T160.setTop (mkF m 80 #[.val (.long q1), .second, .val (.int p2), .val (.long (F5 q1 (12 : Int32))), .second, .val (.int (F7 q1 (12 : Int32))), .val (.long (((F5 ((F5 q1 (12 : Int32)) + (3 : Int64)) (4 : Int32)) - (F5 ((F5 q1 (12 : Int32)) + (99 : Int64)) (100 : Int32))) + (F5 ((F5 q1 (12 : Int32)) + (399 : Int64)) (400 : Int32)))), .second, .val (.int (1 : Int32))] [(.long (((365 : Int64) * (F5 q1 (12 : Int32))) + (((F5 ((F5 q1 (12 : Int32)) + (3 : Int64)) (4 : Int32)) - (F5 ((F5 q1 (12 : Int32)) + (99 : Int64)) (100 : Int32))) + (F5 ((F5 q1 (12 : Int32)) + (399 : Int64)) (400 : Int32)))))])) _
        refine st170 _ ?_
        exact k
      have pre172 : ∀ t, Steps p.tables e below (T170.setTop (mkF m 97 #[.val (.long q1), .second, .val (.int p2), .val (.long (F5 q1 (12 : Int32))), .second, .val (.int (F7 q1 (12 : Int32))), .val (.long (((F5 ((F5 q1 (12 : Int32)) + (3 : Int64)) (4 : Int32)) - (F5 ((F5 q1 (12 : Int32)) + (99 : Int64)) (100 : Int32))) + (F5 ((F5 q1 (12 : Int32)) + (399 : Int64)) (400 : Int32)))), .second, .val (.int (1 : Int32))] [(.long (((((((365 : Int64) * (F5 q1 (12 : Int32))) + (((F5 ((F5 q1 (12 : Int32)) + (3 : Int64)) (4 : Int32)) - (F5 ((F5 q1 (12 : Int32)) + (99 : Int64)) (100 : Int32))) + (F5 ((F5 q1 (12 : Int32)) + (399 : Int64)) (400 : Int32)))) + ((own_dbm (F7 q1 (12 : Int32))).toInt64)) + ((1 : Int32).toInt64)) + (p2.toInt64)) - (1 : Int64)))])) t → Steps p.tables e below (s₁.setTop (entryFrame m #[(.long q1), (.int p2)] 9)) t := by
        intro t k
        refine pre171 _ ?_
        show Steps p.tables e below (T170.setTop (mkF m 83 #[.val (.long q1), .second, .val (.int p2), .val (.long (F5 q1 (12 : Int32))), .second, .val (.int (F7 q1 (12 : Int32))), .val (.long (((F5 ((F5 q1 (12 : Int32)) + (3 : Int64)) (4 : Int32)) - (F5 ((F5 q1 (12 : Int32)) + (99 : Int64)) (100 : Int32))) + (F5 ((F5 q1 (12 : Int32)) + (399 : Int64)) (400 : Int32)))), .second, .val (.int (1 : Int32))] [(.ref wD), (.long (((365 : Int64) * (F5 q1 (12 : Int32))) + (((F5 ((F5 q1 (12 : Int32)) + (3 : Int64)) (4 : Int32)) - (F5 ((F5 q1 (12 : Int32)) + (99 : Int64)) (100 : Int32))) + (F5 ((F5 q1 (12 : Int32)) + (399 : Int64)) (400 : Int32)))))])) _
        refine XS.iload X170.here hx rfl (hb hby d4_83) rfl ?_
        show Steps p.tables e below (T170.setTop (mkF m 85 #[.val (.long q1), .second, .val (.int p2), .val (.long (F5 q1 (12 : Int32))), .second, .val (.int (F7 q1 (12 : Int32))), .val (.long (((F5 ((F5 q1 (12 : Int32)) + (3 : Int64)) (4 : Int32)) - (F5 ((F5 q1 (12 : Int32)) + (99 : Int64)) (100 : Int32))) + (F5 ((F5 q1 (12 : Int32)) + (399 : Int64)) (400 : Int32)))), .second, .val (.int (1 : Int32))] [(.int (F7 q1 (12 : Int32))), (.ref wD), (.long (((365 : Int64) * (F5 q1 (12 : Int32))) + (((F5 ((F5 q1 (12 : Int32)) + (3 : Int64)) (4 : Int32)) - (F5 ((F5 q1 (12 : Int32)) + (99 : Int64)) (100 : Int32))) + (F5 ((F5 q1 (12 : Int32)) + (399 : Int64)) (400 : Int32)))))])) _
        refine X170.iaload hx (j := (F7 q1 (12 : Int32))) (v := (.int (own_dbm (F7 q1 (12 : Int32))))) (by rw [e170]; exact Ar_wD.1) (State.isArrayOf_alike hZ.alike Ar_wD.2.1) Ar_wD.2.2 (hD _ (own_fm _)).1 (hD _ (own_fm _)).2 (g := (mkF m 85 #[.val (.long q1), .second, .val (.int p2), .val (.long (F5 q1 (12 : Int32))), .second, .val (.int (F7 q1 (12 : Int32))), .val (.long (((F5 ((F5 q1 (12 : Int32)) + (3 : Int64)) (4 : Int32)) - (F5 ((F5 q1 (12 : Int32)) + (99 : Int64)) (100 : Int32))) + (F5 ((F5 q1 (12 : Int32)) + (399 : Int64)) (400 : Int32)))), .second, .val (.int (1 : Int32))] [(.int (F7 q1 (12 : Int32))), (.ref wD), (.long (((365 : Int64) * (F5 q1 (12 : Int32))) + (((F5 ((F5 q1 (12 : Int32)) + (3 : Int64)) (4 : Int32)) - (F5 ((F5 q1 (12 : Int32)) + (99 : Int64)) (100 : Int32))) + (F5 ((F5 q1 (12 : Int32)) + (399 : Int64)) (400 : Int32)))))])) rfl rfl (hb hby d4_85) _ ?_
        show Steps p.tables e below (T170.setTop (mkF m 86 #[.val (.long q1), .second, .val (.int p2), .val (.long (F5 q1 (12 : Int32))), .second, .val (.int (F7 q1 (12 : Int32))), .val (.long (((F5 ((F5 q1 (12 : Int32)) + (3 : Int64)) (4 : Int32)) - (F5 ((F5 q1 (12 : Int32)) + (99 : Int64)) (100 : Int32))) + (F5 ((F5 q1 (12 : Int32)) + (399 : Int64)) (400 : Int32)))), .second, .val (.int (1 : Int32))] [(.int (own_dbm (F7 q1 (12 : Int32)))), (.long (((365 : Int64) * (F5 q1 (12 : Int32))) + (((F5 ((F5 q1 (12 : Int32)) + (3 : Int64)) (4 : Int32)) - (F5 ((F5 q1 (12 : Int32)) + (99 : Int64)) (100 : Int32))) + (F5 ((F5 q1 (12 : Int32)) + (399 : Int64)) (400 : Int32)))))])) _
        refine XS.i2l X170.here hx rfl (hb hby d4_86) rfl ?_
        show Steps p.tables e below (T170.setTop (mkF m 87 #[.val (.long q1), .second, .val (.int p2), .val (.long (F5 q1 (12 : Int32))), .second, .val (.int (F7 q1 (12 : Int32))), .val (.long (((F5 ((F5 q1 (12 : Int32)) + (3 : Int64)) (4 : Int32)) - (F5 ((F5 q1 (12 : Int32)) + (99 : Int64)) (100 : Int32))) + (F5 ((F5 q1 (12 : Int32)) + (399 : Int64)) (400 : Int32)))), .second, .val (.int (1 : Int32))] [(.long ((own_dbm (F7 q1 (12 : Int32))).toInt64)), (.long (((365 : Int64) * (F5 q1 (12 : Int32))) + (((F5 ((F5 q1 (12 : Int32)) + (3 : Int64)) (4 : Int32)) - (F5 ((F5 q1 (12 : Int32)) + (99 : Int64)) (100 : Int32))) + (F5 ((F5 q1 (12 : Int32)) + (399 : Int64)) (400 : Int32)))))])) _
        refine XS.ladd X170.here hx rfl (hb hby d4_87) rfl ?_
        show Steps p.tables e below (T170.setTop (mkF m 88 #[.val (.long q1), .second, .val (.int p2), .val (.long (F5 q1 (12 : Int32))), .second, .val (.int (F7 q1 (12 : Int32))), .val (.long (((F5 ((F5 q1 (12 : Int32)) + (3 : Int64)) (4 : Int32)) - (F5 ((F5 q1 (12 : Int32)) + (99 : Int64)) (100 : Int32))) + (F5 ((F5 q1 (12 : Int32)) + (399 : Int64)) (400 : Int32)))), .second, .val (.int (1 : Int32))] [(.long ((((365 : Int64) * (F5 q1 (12 : Int32))) + (((F5 ((F5 q1 (12 : Int32)) + (3 : Int64)) (4 : Int32)) - (F5 ((F5 q1 (12 : Int32)) + (99 : Int64)) (100 : Int32))) + (F5 ((F5 q1 (12 : Int32)) + (399 : Int64)) (400 : Int32)))) + ((own_dbm (F7 q1 (12 : Int32))).toInt64)))])) _
        refine XS.iload X170.here hx rfl (hb hby d4_88) rfl ?_
        show Steps p.tables e below (T170.setTop (mkF m 90 #[.val (.long q1), .second, .val (.int p2), .val (.long (F5 q1 (12 : Int32))), .second, .val (.int (F7 q1 (12 : Int32))), .val (.long (((F5 ((F5 q1 (12 : Int32)) + (3 : Int64)) (4 : Int32)) - (F5 ((F5 q1 (12 : Int32)) + (99 : Int64)) (100 : Int32))) + (F5 ((F5 q1 (12 : Int32)) + (399 : Int64)) (400 : Int32)))), .second, .val (.int (1 : Int32))] [(.int (1 : Int32)), (.long ((((365 : Int64) * (F5 q1 (12 : Int32))) + (((F5 ((F5 q1 (12 : Int32)) + (3 : Int64)) (4 : Int32)) - (F5 ((F5 q1 (12 : Int32)) + (99 : Int64)) (100 : Int32))) + (F5 ((F5 q1 (12 : Int32)) + (399 : Int64)) (400 : Int32)))) + ((own_dbm (F7 q1 (12 : Int32))).toInt64)))])) _
        refine XS.i2l X170.here hx rfl (hb hby d4_90) rfl ?_
        show Steps p.tables e below (T170.setTop (mkF m 91 #[.val (.long q1), .second, .val (.int p2), .val (.long (F5 q1 (12 : Int32))), .second, .val (.int (F7 q1 (12 : Int32))), .val (.long (((F5 ((F5 q1 (12 : Int32)) + (3 : Int64)) (4 : Int32)) - (F5 ((F5 q1 (12 : Int32)) + (99 : Int64)) (100 : Int32))) + (F5 ((F5 q1 (12 : Int32)) + (399 : Int64)) (400 : Int32)))), .second, .val (.int (1 : Int32))] [(.long ((1 : Int32).toInt64)), (.long ((((365 : Int64) * (F5 q1 (12 : Int32))) + (((F5 ((F5 q1 (12 : Int32)) + (3 : Int64)) (4 : Int32)) - (F5 ((F5 q1 (12 : Int32)) + (99 : Int64)) (100 : Int32))) + (F5 ((F5 q1 (12 : Int32)) + (399 : Int64)) (400 : Int32)))) + ((own_dbm (F7 q1 (12 : Int32))).toInt64)))])) _
        refine XS.ladd X170.here hx rfl (hb hby d4_91) rfl ?_
        show Steps p.tables e below (T170.setTop (mkF m 92 #[.val (.long q1), .second, .val (.int p2), .val (.long (F5 q1 (12 : Int32))), .second, .val (.int (F7 q1 (12 : Int32))), .val (.long (((F5 ((F5 q1 (12 : Int32)) + (3 : Int64)) (4 : Int32)) - (F5 ((F5 q1 (12 : Int32)) + (99 : Int64)) (100 : Int32))) + (F5 ((F5 q1 (12 : Int32)) + (399 : Int64)) (400 : Int32)))), .second, .val (.int (1 : Int32))] [(.long (((((365 : Int64) * (F5 q1 (12 : Int32))) + (((F5 ((F5 q1 (12 : Int32)) + (3 : Int64)) (4 : Int32)) - (F5 ((F5 q1 (12 : Int32)) + (99 : Int64)) (100 : Int32))) + (F5 ((F5 q1 (12 : Int32)) + (399 : Int64)) (400 : Int32)))) + ((own_dbm (F7 q1 (12 : Int32))).toInt64)) + ((1 : Int32).toInt64)))])) _
        refine XS.iloadN X170.here hx rfl (hb hby d4_92) rfl ?_
        show Steps p.tables e below (T170.setTop (mkF m 93 #[.val (.long q1), .second, .val (.int p2), .val (.long (F5 q1 (12 : Int32))), .second, .val (.int (F7 q1 (12 : Int32))), .val (.long (((F5 ((F5 q1 (12 : Int32)) + (3 : Int64)) (4 : Int32)) - (F5 ((F5 q1 (12 : Int32)) + (99 : Int64)) (100 : Int32))) + (F5 ((F5 q1 (12 : Int32)) + (399 : Int64)) (400 : Int32)))), .second, .val (.int (1 : Int32))] [(.int p2), (.long (((((365 : Int64) * (F5 q1 (12 : Int32))) + (((F5 ((F5 q1 (12 : Int32)) + (3 : Int64)) (4 : Int32)) - (F5 ((F5 q1 (12 : Int32)) + (99 : Int64)) (100 : Int32))) + (F5 ((F5 q1 (12 : Int32)) + (399 : Int64)) (400 : Int32)))) + ((own_dbm (F7 q1 (12 : Int32))).toInt64)) + ((1 : Int32).toInt64)))])) _
        refine XS.i2l X170.here hx rfl (hb hby d4_93) rfl ?_
        show Steps p.tables e below (T170.setTop (mkF m 94 #[.val (.long q1), .second, .val (.int p2), .val (.long (F5 q1 (12 : Int32))), .second, .val (.int (F7 q1 (12 : Int32))), .val (.long (((F5 ((F5 q1 (12 : Int32)) + (3 : Int64)) (4 : Int32)) - (F5 ((F5 q1 (12 : Int32)) + (99 : Int64)) (100 : Int32))) + (F5 ((F5 q1 (12 : Int32)) + (399 : Int64)) (400 : Int32)))), .second, .val (.int (1 : Int32))] [(.long (p2.toInt64)), (.long (((((365 : Int64) * (F5 q1 (12 : Int32))) + (((F5 ((F5 q1 (12 : Int32)) + (3 : Int64)) (4 : Int32)) - (F5 ((F5 q1 (12 : Int32)) + (99 : Int64)) (100 : Int32))) + (F5 ((F5 q1 (12 : Int32)) + (399 : Int64)) (400 : Int32)))) + ((own_dbm (F7 q1 (12 : Int32))).toInt64)) + ((1 : Int32).toInt64)))])) _
        refine XS.ladd X170.here hx rfl (hb hby d4_94) rfl ?_
        show Steps p.tables e below (T170.setTop (mkF m 95 #[.val (.long q1), .second, .val (.int p2), .val (.long (F5 q1 (12 : Int32))), .second, .val (.int (F7 q1 (12 : Int32))), .val (.long (((F5 ((F5 q1 (12 : Int32)) + (3 : Int64)) (4 : Int32)) - (F5 ((F5 q1 (12 : Int32)) + (99 : Int64)) (100 : Int32))) + (F5 ((F5 q1 (12 : Int32)) + (399 : Int64)) (400 : Int32)))), .second, .val (.int (1 : Int32))] [(.long ((((((365 : Int64) * (F5 q1 (12 : Int32))) + (((F5 ((F5 q1 (12 : Int32)) + (3 : Int64)) (4 : Int32)) - (F5 ((F5 q1 (12 : Int32)) + (99 : Int64)) (100 : Int32))) + (F5 ((F5 q1 (12 : Int32)) + (399 : Int64)) (400 : Int32)))) + ((own_dbm (F7 q1 (12 : Int32))).toInt64)) + ((1 : Int32).toInt64)) + (p2.toInt64)))])) _
        refine XS.lconst X170.here hx rfl (hb hby d4_95) ?_
        show Steps p.tables e below (T170.setTop (mkF m 96 #[.val (.long q1), .second, .val (.int p2), .val (.long (F5 q1 (12 : Int32))), .second, .val (.int (F7 q1 (12 : Int32))), .val (.long (((F5 ((F5 q1 (12 : Int32)) + (3 : Int64)) (4 : Int32)) - (F5 ((F5 q1 (12 : Int32)) + (99 : Int64)) (100 : Int32))) + (F5 ((F5 q1 (12 : Int32)) + (399 : Int64)) (400 : Int32)))), .second, .val (.int (1 : Int32))] [(.long (1 : Int64)), (.long ((((((365 : Int64) * (F5 q1 (12 : Int32))) + (((F5 ((F5 q1 (12 : Int32)) + (3 : Int64)) (4 : Int32)) - (F5 ((F5 q1 (12 : Int32)) + (99 : Int64)) (100 : Int32))) + (F5 ((F5 q1 (12 : Int32)) + (399 : Int64)) (400 : Int32)))) + ((own_dbm (F7 q1 (12 : Int32))).toInt64)) + ((1 : Int32).toInt64)) + (p2.toInt64)))])) _
        refine XS.lsub X170.here hx rfl (hb hby d4_96) rfl ?_
        exact k
      obtain ⟨fs, hr, hrun, hended, hW, hsame⟩ := X170.leave (v := some (.long (((((((365 : Int64) * (F5 q1 (12 : Int32))) + (((F5 ((F5 q1 (12 : Int32)) + (3 : Int64)) (4 : Int32)) - (F5 ((F5 q1 (12 : Int32)) + (99 : Int64)) (100 : Int32))) + (F5 ((F5 q1 (12 : Int32)) + (399 : Int64)) (400 : Int32)))) + ((own_dbm (F7 q1 (12 : Int32))).toInt64)) + ((1 : Int32).toInt64)) + (p2.toInt64)) - (1 : Int64)))) (fun h => by rw [hret] at h; cases h) (hlocks := hlocks)
      refine ⟨_, _, pre172 _ ?_, hrun, hended, _, _, rfl, ?_, ⟨_, rfl⟩, hW, hsame.mono (by decide) (by decide)⟩
      · show Steps p.tables e below (T170.setTop (mkF m 97 #[.val (.long q1), .second, .val (.int p2), .val (.long (F5 q1 (12 : Int32))), .second, .val (.int (F7 q1 (12 : Int32))), .val (.long (((F5 ((F5 q1 (12 : Int32)) + (3 : Int64)) (4 : Int32)) - (F5 ((F5 q1 (12 : Int32)) + (99 : Int64)) (100 : Int32))) + (F5 ((F5 q1 (12 : Int32)) + (399 : Int64)) (400 : Int32)))), .second, .val (.int (1 : Int32))] [(.long (((((((365 : Int64) * (F5 q1 (12 : Int32))) + (((F5 ((F5 q1 (12 : Int32)) + (3 : Int64)) (4 : Int32)) - (F5 ((F5 q1 (12 : Int32)) + (99 : Int64)) (100 : Int32))) + (F5 ((F5 q1 (12 : Int32)) + (399 : Int64)) (400 : Int32)))) + ((own_dbm (F7 q1 (12 : Int32))).toInt64)) + ((1 : Int32).toInt64)) + (p2.toInt64)) - (1 : Int64)))])) _
        exact Jvm.RoadKit.retOut X170 hx hret rfl (Or.inr (Or.inl ⟨rfl, rfl, _, rfl⟩)) (hb hby d4_97) hr
      · show Q4 Z q1 p2 cl_wD wI wD h0 n0 _ T170.heap _
        exact ⟨(by rw [F4, if_pos hc155, if_neg hc162]), N160, e170⟩
  · have pre173 : ∀ t, Steps p.tables e below (T152.setTop (mkF m 69 #[.val (.long q1), .second, .val (.int p2), .val (.long (F5 q1 (12 : Int32))), .second, .val (.int (F7 q1 (12 : Int32))), .val (.long (((F5 ((F5 q1 (12 : Int32)) + (3 : Int64)) (4 : Int32)) - (F5 ((F5 q1 (12 : Int32)) + (99 : Int64)) (100 : Int32))) + (F5 ((F5 q1 (12 : Int32)) + (399 : Int64)) (400 : Int32)))), .second, .unset] [])) t → Steps p.tables e below (s₁.setTop (entryFrame m #[(.long q1), (.int p2)] 9)) t := by
      intro t k
      refine pre154 _ ?_
      show Steps p.tables e below (T152.setTop (mkF m 52 #[.val (.long q1), .second, .val (.int p2), .val (.long (F5 q1 (12 : Int32))), .second, .val (.int (F7 q1 (12 : Int32))), .val (.long (((F5 ((F5 q1 (12 : Int32)) + (3 : Int64)) (4 : Int32)) - (F5 ((F5 q1 (12 : Int32)) + (99 : Int64)) (100 : Int32))) + (F5 ((F5 q1 (12 : Int32)) + (399 : Int64)) (400 : Int32)))), .second, .unset] [(.int (1 : Int32)), (.int (F7 q1 (12 : Int32)))])) _
      refine XS.icmpYes X152.here hx rfl (pc0 := 52) (pc' := 69) rfl (hb hby d4_52) rfl (flt hc155).2.2.2 (by decide) (by decide) ?_
      exact k
    have pre174 : ∀ t, Steps p.tables e below (T152.setTop (mkF m 80 #[.val (.long q1), .second, .val (.int p2), .val (.long (F5 q1 (12 : Int32))), .second, .val (.int (F7 q1 (12 : Int32))), .val (.long (((F5 ((F5 q1 (12 : Int32)) + (3 : Int64)) (4 : Int32)) - (F5 ((F5 q1 (12 : Int32)) + (99 : Int64)) (100 : Int32))) + (F5 ((F5 q1 (12 : Int32)) + (399 : Int64)) (400 : Int32)))), .second, .val (.int (0 : Int32))] [(.long (((365 : Int64) * (F5 q1 (12 : Int32))) + (((F5 ((F5 q1 (12 : Int32)) + (3 : Int64)) (4 : Int32)) - (F5 ((F5 q1 (12 : Int32)) + (99 : Int64)) (100 : Int32))) + (F5 ((F5 q1 (12 : Int32)) + (399 : Int64)) (400 : Int32)))))])) t → Steps p.tables e below (s₁.setTop (entryFrame m #[(.long q1), (.int p2)] 9)) t := by
      intro t k
      refine pre173 _ ?_
      show Steps p.tables e below (T152.setTop (mkF m 69 #[.val (.long q1), .second, .val (.int p2), .val (.long (F5 q1 (12 : Int32))), .second, .val (.int (F7 q1 (12 : Int32))), .val (.long (((F5 ((F5 q1 (12 : Int32)) + (3 : Int64)) (4 : Int32)) - (F5 ((F5 q1 (12 : Int32)) + (99 : Int64)) (100 : Int32))) + (F5 ((F5 q1 (12 : Int32)) + (399 : Int64)) (400 : Int32)))), .second, .unset] [])) _
      refine XS.iconst X152.here hx rfl (hb hby d4_69) ?_
      show Steps p.tables e below (T152.setTop (mkF m 70 #[.val (.long q1), .second, .val (.int p2), .val (.long (F5 q1 (12 : Int32))), .second, .val (.int (F7 q1 (12 : Int32))), .val (.long (((F5 ((F5 q1 (12 : Int32)) + (3 : Int64)) (4 : Int32)) - (F5 ((F5 q1 (12 : Int32)) + (99 : Int64)) (100 : Int32))) + (F5 ((F5 q1 (12 : Int32)) + (399 : Int64)) (400 : Int32)))), .second, .unset] [(.int (0 : Int32))])) _
      refine XS.istore X152.here hx rfl (hb hby d4_70) rfl (l' := #[.val (.long q1), .second, .val (.int p2), .val (.long (F5 q1 (12 : Int32))), .second, .val (.int (F7 q1 (12 : Int32))), .val (.long (((F5 ((F5 q1 (12 : Int32)) + (3 : Int64)) (4 : Int32)) - (F5 ((F5 q1 (12 : Int32)) + (99 : Int64)) (100 : Int32))) + (F5 ((F5 q1 (12 : Int32)) + (399 : Int64)) (400 : Int32)))), .second, .val (.int (0 : Int32))]) rfl ?_
      show Steps p.tables e below (T152.setTop (mkF m 72 #[.val (.long q1), .second, .val (.int p2), .val (.long (F5 q1 (12 : Int32))), .second, .val (.int (F7 q1 (12 : Int32))), .val (.long (((F5 ((F5 q1 (12 : Int32)) + (3 : Int64)) (4 : Int32)) - (F5 ((F5 q1 (12 : Int32)) + (99 : Int64)) (100 : Int32))) + (F5 ((F5 q1 (12 : Int32)) + (399 : Int64)) (400 : Int32)))), .second, .val (.int (0 : Int32))] [])) _
      refine X152.ldc2Long hx hown (mvT hZ (hw _ (List.mem_of_getElem? (i := 53) rfl))) (g := (mkF m 72 #[.val (.long q1), .second, .val (.int p2), .val (.long (F5 q1 (12 : Int32))), .second, .val (.int (F7 q1 (12 : Int32))), .val (.long (((F5 ((F5 q1 (12 : Int32)) + (3 : Int64)) (4 : Int32)) - (F5 ((F5 q1 (12 : Int32)) + (99 : Int64)) (100 : Int32))) + (F5 ((F5 q1 (12 : Int32)) + (399 : Int64)) (400 : Int32)))), .second, .val (.int (0 : Int32))] [])) rfl (hb hby d4_72) _ ?_
      show Steps p.tables e below (T152.setTop (mkF m 75 #[.val (.long q1), .second, .val (.int p2), .val (.long (F5 q1 (12 : Int32))), .second, .val (.int (F7 q1 (12 : Int32))), .val (.long (((F5 ((F5 q1 (12 : Int32)) + (3 : Int64)) (4 : Int32)) - (F5 ((F5 q1 (12 : Int32)) + (99 : Int64)) (100 : Int32))) + (F5 ((F5 q1 (12 : Int32)) + (399 : Int64)) (400 : Int32)))), .second, .val (.int (0 : Int32))] [(.long (365 : Int64))])) _
      refine XS.lloadN X152.here hx rfl (hb hby d4_75) rfl ?_
      show Steps p.tables e below (T152.setTop (mkF m 76 #[.val (.long q1), .second, .val (.int p2), .val (.long (F5 q1 (12 : Int32))), .second, .val (.int (F7 q1 (12 : Int32))), .val (.long (((F5 ((F5 q1 (12 : Int32)) + (3 : Int64)) (4 : Int32)) - (F5 ((F5 q1 (12 : Int32)) + (99 : Int64)) (100 : Int32))) + (F5 ((F5 q1 (12 : Int32)) + (399 : Int64)) (400 : Int32)))), .second, .val (.int (0 : Int32))] [(.long (F5 q1 (12 : Int32))), (.long (365 : Int64))])) _
      refine XS.lmul X152.here hx rfl (hb hby d4_76) rfl ?_
      show Steps p.tables e below (T152.setTop (mkF m 77 #[.val (.long q1), .second, .val (.int p2), .val (.long (F5 q1 (12 : Int32))), .second, .val (.int (F7 q1 (12 : Int32))), .val (.long (((F5 ((F5 q1 (12 : Int32)) + (3 : Int64)) (4 : Int32)) - (F5 ((F5 q1 (12 : Int32)) + (99 : Int64)) (100 : Int32))) + (F5 ((F5 q1 (12 : Int32)) + (399 : Int64)) (400 : Int32)))), .second, .val (.int (0 : Int32))] [(.long ((365 : Int64) * (F5 q1 (12 : Int32))))])) _
      refine XS.lload X152.here hx rfl (hb hby d4_77) rfl ?_
      show Steps p.tables e below (T152.setTop (mkF m 79 #[.val (.long q1), .second, .val (.int p2), .val (.long (F5 q1 (12 : Int32))), .second, .val (.int (F7 q1 (12 : Int32))), .val (.long (((F5 ((F5 q1 (12 : Int32)) + (3 : Int64)) (4 : Int32)) - (F5 ((F5 q1 (12 : Int32)) + (99 : Int64)) (100 : Int32))) + (F5 ((F5 q1 (12 : Int32)) + (399 : Int64)) (400 : Int32)))), .second, .val (.int (0 : Int32))] [(.long (((F5 ((F5 q1 (12 : Int32)) + (3 : Int64)) (4 : Int32)) - (F5 ((F5 q1 (12 : Int32)) + (99 : Int64)) (100 : Int32))) + (F5 ((F5 q1 (12 : Int32)) + (399 : Int64)) (400 : Int32)))), (.long ((365 : Int64) * (F5 q1 (12 : Int32))))])) _
      refine XS.ladd X152.here hx rfl (hb hby d4_79) rfl ?_
      exact k
    obtain ⟨T175, X175, e175, st175⟩ := getS2 X152 hx hZ hown (host := "") (Or.inl (hw _ (List.mem_of_getElem? (i := 54) rfl))) Via.refl e152 S_wD (g := (mkF m 80 #[.val (.long q1), .second, .val (.int p2), .val (.long (F5 q1 (12 : Int32))), .second, .val (.int (F7 q1 (12 : Int32))), .val (.long (((F5 ((F5 q1 (12 : Int32)) + (3 : Int64)) (4 : Int32)) - (F5 ((F5 q1 (12 : Int32)) + (99 : Int64)) (100 : Int32))) + (F5 ((F5 q1 (12 : Int32)) + (399 : Int64)) (400 : Int32)))), .second, .val (.int (0 : Int32))] [(.long (((365 : Int64) * (F5 q1 (12 : Int32))) + (((F5 ((F5 q1 (12 : Int32)) + (3 : Int64)) (4 : Int32)) - (F5 ((F5 q1 (12 : Int32)) + (99 : Int64)) (100 : Int32))) + (F5 ((F5 q1 (12 : Int32)) + (399 : Int64)) (400 : Int32)))))])) rfl (hb hby d4_80)
    have pre176 : ∀ t, Steps p.tables e below (T175.setTop (mkF m 83 #[.val (.long q1), .second, .val (.int p2), .val (.long (F5 q1 (12 : Int32))), .second, .val (.int (F7 q1 (12 : Int32))), .val (.long (((F5 ((F5 q1 (12 : Int32)) + (3 : Int64)) (4 : Int32)) - (F5 ((F5 q1 (12 : Int32)) + (99 : Int64)) (100 : Int32))) + (F5 ((F5 q1 (12 : Int32)) + (399 : Int64)) (400 : Int32)))), .second, .val (.int (0 : Int32))] [(.ref wD), (.long (((365 : Int64) * (F5 q1 (12 : Int32))) + (((F5 ((F5 q1 (12 : Int32)) + (3 : Int64)) (4 : Int32)) - (F5 ((F5 q1 (12 : Int32)) + (99 : Int64)) (100 : Int32))) + (F5 ((F5 q1 (12 : Int32)) + (399 : Int64)) (400 : Int32)))))])) t → Steps p.tables e below (s₁.setTop (entryFrame m #[(.long q1), (.int p2)] 9)) t := by
      intro t k
      refine pre174 _ ?_
      show Steps p.tables e below (T152.setTop (mkF m 80 #[.val (.long q1), .second, .val (.int p2), .val (.long (F5 q1 (12 : Int32))), .second, .val (.int (F7 q1 (12 : Int32))), .val (.long (((F5 ((F5 q1 (12 : Int32)) + (3 : Int64)) (4 : Int32)) - (F5 ((F5 q1 (12 : Int32)) + (99 : Int64)) (100 : Int32))) + (F5 ((F5 q1 (12 : Int32)) + (399 : Int64)) (400 : Int32)))), .second, .val (.int (0 : Int32))] [(.long (((365 : Int64) * (F5 q1 (12 : Int32))) + (((F5 ((F5 q1 (12 : Int32)) + (3 : Int64)) (4 : Int32)) - (F5 ((F5 q1 (12 : Int32)) + (99 : Int64)) (100 : Int32))) + (F5 ((F5 q1 (12 : Int32)) + (399 : Int64)) (400 : Int32)))))])) _
      refine st175 _ ?_
      exact k
    have pre177 : ∀ t, Steps p.tables e below (T175.setTop (mkF m 97 #[.val (.long q1), .second, .val (.int p2), .val (.long (F5 q1 (12 : Int32))), .second, .val (.int (F7 q1 (12 : Int32))), .val (.long (((F5 ((F5 q1 (12 : Int32)) + (3 : Int64)) (4 : Int32)) - (F5 ((F5 q1 (12 : Int32)) + (99 : Int64)) (100 : Int32))) + (F5 ((F5 q1 (12 : Int32)) + (399 : Int64)) (400 : Int32)))), .second, .val (.int (0 : Int32))] [(.long (((((((365 : Int64) * (F5 q1 (12 : Int32))) + (((F5 ((F5 q1 (12 : Int32)) + (3 : Int64)) (4 : Int32)) - (F5 ((F5 q1 (12 : Int32)) + (99 : Int64)) (100 : Int32))) + (F5 ((F5 q1 (12 : Int32)) + (399 : Int64)) (400 : Int32)))) + ((own_dbm (F7 q1 (12 : Int32))).toInt64)) + ((0 : Int32).toInt64)) + (p2.toInt64)) - (1 : Int64)))])) t → Steps p.tables e below (s₁.setTop (entryFrame m #[(.long q1), (.int p2)] 9)) t := by
      intro t k
      refine pre176 _ ?_
      show Steps p.tables e below (T175.setTop (mkF m 83 #[.val (.long q1), .second, .val (.int p2), .val (.long (F5 q1 (12 : Int32))), .second, .val (.int (F7 q1 (12 : Int32))), .val (.long (((F5 ((F5 q1 (12 : Int32)) + (3 : Int64)) (4 : Int32)) - (F5 ((F5 q1 (12 : Int32)) + (99 : Int64)) (100 : Int32))) + (F5 ((F5 q1 (12 : Int32)) + (399 : Int64)) (400 : Int32)))), .second, .val (.int (0 : Int32))] [(.ref wD), (.long (((365 : Int64) * (F5 q1 (12 : Int32))) + (((F5 ((F5 q1 (12 : Int32)) + (3 : Int64)) (4 : Int32)) - (F5 ((F5 q1 (12 : Int32)) + (99 : Int64)) (100 : Int32))) + (F5 ((F5 q1 (12 : Int32)) + (399 : Int64)) (400 : Int32)))))])) _
      refine XS.iload X175.here hx rfl (hb hby d4_83) rfl ?_
      show Steps p.tables e below (T175.setTop (mkF m 85 #[.val (.long q1), .second, .val (.int p2), .val (.long (F5 q1 (12 : Int32))), .second, .val (.int (F7 q1 (12 : Int32))), .val (.long (((F5 ((F5 q1 (12 : Int32)) + (3 : Int64)) (4 : Int32)) - (F5 ((F5 q1 (12 : Int32)) + (99 : Int64)) (100 : Int32))) + (F5 ((F5 q1 (12 : Int32)) + (399 : Int64)) (400 : Int32)))), .second, .val (.int (0 : Int32))] [(.int (F7 q1 (12 : Int32))), (.ref wD), (.long (((365 : Int64) * (F5 q1 (12 : Int32))) + (((F5 ((F5 q1 (12 : Int32)) + (3 : Int64)) (4 : Int32)) - (F5 ((F5 q1 (12 : Int32)) + (99 : Int64)) (100 : Int32))) + (F5 ((F5 q1 (12 : Int32)) + (399 : Int64)) (400 : Int32)))))])) _
      refine X175.iaload hx (j := (F7 q1 (12 : Int32))) (v := (.int (own_dbm (F7 q1 (12 : Int32))))) (by rw [e175]; exact Ar_wD.1) (State.isArrayOf_alike hZ.alike Ar_wD.2.1) Ar_wD.2.2 (hD _ (own_fm _)).1 (hD _ (own_fm _)).2 (g := (mkF m 85 #[.val (.long q1), .second, .val (.int p2), .val (.long (F5 q1 (12 : Int32))), .second, .val (.int (F7 q1 (12 : Int32))), .val (.long (((F5 ((F5 q1 (12 : Int32)) + (3 : Int64)) (4 : Int32)) - (F5 ((F5 q1 (12 : Int32)) + (99 : Int64)) (100 : Int32))) + (F5 ((F5 q1 (12 : Int32)) + (399 : Int64)) (400 : Int32)))), .second, .val (.int (0 : Int32))] [(.int (F7 q1 (12 : Int32))), (.ref wD), (.long (((365 : Int64) * (F5 q1 (12 : Int32))) + (((F5 ((F5 q1 (12 : Int32)) + (3 : Int64)) (4 : Int32)) - (F5 ((F5 q1 (12 : Int32)) + (99 : Int64)) (100 : Int32))) + (F5 ((F5 q1 (12 : Int32)) + (399 : Int64)) (400 : Int32)))))])) rfl rfl (hb hby d4_85) _ ?_
      show Steps p.tables e below (T175.setTop (mkF m 86 #[.val (.long q1), .second, .val (.int p2), .val (.long (F5 q1 (12 : Int32))), .second, .val (.int (F7 q1 (12 : Int32))), .val (.long (((F5 ((F5 q1 (12 : Int32)) + (3 : Int64)) (4 : Int32)) - (F5 ((F5 q1 (12 : Int32)) + (99 : Int64)) (100 : Int32))) + (F5 ((F5 q1 (12 : Int32)) + (399 : Int64)) (400 : Int32)))), .second, .val (.int (0 : Int32))] [(.int (own_dbm (F7 q1 (12 : Int32)))), (.long (((365 : Int64) * (F5 q1 (12 : Int32))) + (((F5 ((F5 q1 (12 : Int32)) + (3 : Int64)) (4 : Int32)) - (F5 ((F5 q1 (12 : Int32)) + (99 : Int64)) (100 : Int32))) + (F5 ((F5 q1 (12 : Int32)) + (399 : Int64)) (400 : Int32)))))])) _
      refine XS.i2l X175.here hx rfl (hb hby d4_86) rfl ?_
      show Steps p.tables e below (T175.setTop (mkF m 87 #[.val (.long q1), .second, .val (.int p2), .val (.long (F5 q1 (12 : Int32))), .second, .val (.int (F7 q1 (12 : Int32))), .val (.long (((F5 ((F5 q1 (12 : Int32)) + (3 : Int64)) (4 : Int32)) - (F5 ((F5 q1 (12 : Int32)) + (99 : Int64)) (100 : Int32))) + (F5 ((F5 q1 (12 : Int32)) + (399 : Int64)) (400 : Int32)))), .second, .val (.int (0 : Int32))] [(.long ((own_dbm (F7 q1 (12 : Int32))).toInt64)), (.long (((365 : Int64) * (F5 q1 (12 : Int32))) + (((F5 ((F5 q1 (12 : Int32)) + (3 : Int64)) (4 : Int32)) - (F5 ((F5 q1 (12 : Int32)) + (99 : Int64)) (100 : Int32))) + (F5 ((F5 q1 (12 : Int32)) + (399 : Int64)) (400 : Int32)))))])) _
      refine XS.ladd X175.here hx rfl (hb hby d4_87) rfl ?_
      show Steps p.tables e below (T175.setTop (mkF m 88 #[.val (.long q1), .second, .val (.int p2), .val (.long (F5 q1 (12 : Int32))), .second, .val (.int (F7 q1 (12 : Int32))), .val (.long (((F5 ((F5 q1 (12 : Int32)) + (3 : Int64)) (4 : Int32)) - (F5 ((F5 q1 (12 : Int32)) + (99 : Int64)) (100 : Int32))) + (F5 ((F5 q1 (12 : Int32)) + (399 : Int64)) (400 : Int32)))), .second, .val (.int (0 : Int32))] [(.long ((((365 : Int64) * (F5 q1 (12 : Int32))) + (((F5 ((F5 q1 (12 : Int32)) + (3 : Int64)) (4 : Int32)) - (F5 ((F5 q1 (12 : Int32)) + (99 : Int64)) (100 : Int32))) + (F5 ((F5 q1 (12 : Int32)) + (399 : Int64)) (400 : Int32)))) + ((own_dbm (F7 q1 (12 : Int32))).toInt64)))])) _
      refine XS.iload X175.here hx rfl (hb hby d4_88) rfl ?_
      show Steps p.tables e below (T175.setTop (mkF m 90 #[.val (.long q1), .second, .val (.int p2), .val (.long (F5 q1 (12 : Int32))), .second, .val (.int (F7 q1 (12 : Int32))), .val (.long (((F5 ((F5 q1 (12 : Int32)) + (3 : Int64)) (4 : Int32)) - (F5 ((F5 q1 (12 : Int32)) + (99 : Int64)) (100 : Int32))) + (F5 ((F5 q1 (12 : Int32)) + (399 : Int64)) (400 : Int32)))), .second, .val (.int (0 : Int32))] [(.int (0 : Int32)), (.long ((((365 : Int64) * (F5 q1 (12 : Int32))) + (((F5 ((F5 q1 (12 : Int32)) + (3 : Int64)) (4 : Int32)) - (F5 ((F5 q1 (12 : Int32)) + (99 : Int64)) (100 : Int32))) + (F5 ((F5 q1 (12 : Int32)) + (399 : Int64)) (400 : Int32)))) + ((own_dbm (F7 q1 (12 : Int32))).toInt64)))])) _
      refine XS.i2l X175.here hx rfl (hb hby d4_90) rfl ?_
      show Steps p.tables e below (T175.setTop (mkF m 91 #[.val (.long q1), .second, .val (.int p2), .val (.long (F5 q1 (12 : Int32))), .second, .val (.int (F7 q1 (12 : Int32))), .val (.long (((F5 ((F5 q1 (12 : Int32)) + (3 : Int64)) (4 : Int32)) - (F5 ((F5 q1 (12 : Int32)) + (99 : Int64)) (100 : Int32))) + (F5 ((F5 q1 (12 : Int32)) + (399 : Int64)) (400 : Int32)))), .second, .val (.int (0 : Int32))] [(.long ((0 : Int32).toInt64)), (.long ((((365 : Int64) * (F5 q1 (12 : Int32))) + (((F5 ((F5 q1 (12 : Int32)) + (3 : Int64)) (4 : Int32)) - (F5 ((F5 q1 (12 : Int32)) + (99 : Int64)) (100 : Int32))) + (F5 ((F5 q1 (12 : Int32)) + (399 : Int64)) (400 : Int32)))) + ((own_dbm (F7 q1 (12 : Int32))).toInt64)))])) _
      refine XS.ladd X175.here hx rfl (hb hby d4_91) rfl ?_
      show Steps p.tables e below (T175.setTop (mkF m 92 #[.val (.long q1), .second, .val (.int p2), .val (.long (F5 q1 (12 : Int32))), .second, .val (.int (F7 q1 (12 : Int32))), .val (.long (((F5 ((F5 q1 (12 : Int32)) + (3 : Int64)) (4 : Int32)) - (F5 ((F5 q1 (12 : Int32)) + (99 : Int64)) (100 : Int32))) + (F5 ((F5 q1 (12 : Int32)) + (399 : Int64)) (400 : Int32)))), .second, .val (.int (0 : Int32))] [(.long (((((365 : Int64) * (F5 q1 (12 : Int32))) + (((F5 ((F5 q1 (12 : Int32)) + (3 : Int64)) (4 : Int32)) - (F5 ((F5 q1 (12 : Int32)) + (99 : Int64)) (100 : Int32))) + (F5 ((F5 q1 (12 : Int32)) + (399 : Int64)) (400 : Int32)))) + ((own_dbm (F7 q1 (12 : Int32))).toInt64)) + ((0 : Int32).toInt64)))])) _
      refine XS.iloadN X175.here hx rfl (hb hby d4_92) rfl ?_
      show Steps p.tables e below (T175.setTop (mkF m 93 #[.val (.long q1), .second, .val (.int p2), .val (.long (F5 q1 (12 : Int32))), .second, .val (.int (F7 q1 (12 : Int32))), .val (.long (((F5 ((F5 q1 (12 : Int32)) + (3 : Int64)) (4 : Int32)) - (F5 ((F5 q1 (12 : Int32)) + (99 : Int64)) (100 : Int32))) + (F5 ((F5 q1 (12 : Int32)) + (399 : Int64)) (400 : Int32)))), .second, .val (.int (0 : Int32))] [(.int p2), (.long (((((365 : Int64) * (F5 q1 (12 : Int32))) + (((F5 ((F5 q1 (12 : Int32)) + (3 : Int64)) (4 : Int32)) - (F5 ((F5 q1 (12 : Int32)) + (99 : Int64)) (100 : Int32))) + (F5 ((F5 q1 (12 : Int32)) + (399 : Int64)) (400 : Int32)))) + ((own_dbm (F7 q1 (12 : Int32))).toInt64)) + ((0 : Int32).toInt64)))])) _
      refine XS.i2l X175.here hx rfl (hb hby d4_93) rfl ?_
      show Steps p.tables e below (T175.setTop (mkF m 94 #[.val (.long q1), .second, .val (.int p2), .val (.long (F5 q1 (12 : Int32))), .second, .val (.int (F7 q1 (12 : Int32))), .val (.long (((F5 ((F5 q1 (12 : Int32)) + (3 : Int64)) (4 : Int32)) - (F5 ((F5 q1 (12 : Int32)) + (99 : Int64)) (100 : Int32))) + (F5 ((F5 q1 (12 : Int32)) + (399 : Int64)) (400 : Int32)))), .second, .val (.int (0 : Int32))] [(.long (p2.toInt64)), (.long (((((365 : Int64) * (F5 q1 (12 : Int32))) + (((F5 ((F5 q1 (12 : Int32)) + (3 : Int64)) (4 : Int32)) - (F5 ((F5 q1 (12 : Int32)) + (99 : Int64)) (100 : Int32))) + (F5 ((F5 q1 (12 : Int32)) + (399 : Int64)) (400 : Int32)))) + ((own_dbm (F7 q1 (12 : Int32))).toInt64)) + ((0 : Int32).toInt64)))])) _
      refine XS.ladd X175.here hx rfl (hb hby d4_94) rfl ?_
      show Steps p.tables e below (T175.setTop (mkF m 95 #[.val (.long q1), .second, .val (.int p2), .val (.long (F5 q1 (12 : Int32))), .second, .val (.int (F7 q1 (12 : Int32))), .val (.long (((F5 ((F5 q1 (12 : Int32)) + (3 : Int64)) (4 : Int32)) - (F5 ((F5 q1 (12 : Int32)) + (99 : Int64)) (100 : Int32))) + (F5 ((F5 q1 (12 : Int32)) + (399 : Int64)) (400 : Int32)))), .second, .val (.int (0 : Int32))] [(.long ((((((365 : Int64) * (F5 q1 (12 : Int32))) + (((F5 ((F5 q1 (12 : Int32)) + (3 : Int64)) (4 : Int32)) - (F5 ((F5 q1 (12 : Int32)) + (99 : Int64)) (100 : Int32))) + (F5 ((F5 q1 (12 : Int32)) + (399 : Int64)) (400 : Int32)))) + ((own_dbm (F7 q1 (12 : Int32))).toInt64)) + ((0 : Int32).toInt64)) + (p2.toInt64)))])) _
      refine XS.lconst X175.here hx rfl (hb hby d4_95) ?_
      show Steps p.tables e below (T175.setTop (mkF m 96 #[.val (.long q1), .second, .val (.int p2), .val (.long (F5 q1 (12 : Int32))), .second, .val (.int (F7 q1 (12 : Int32))), .val (.long (((F5 ((F5 q1 (12 : Int32)) + (3 : Int64)) (4 : Int32)) - (F5 ((F5 q1 (12 : Int32)) + (99 : Int64)) (100 : Int32))) + (F5 ((F5 q1 (12 : Int32)) + (399 : Int64)) (400 : Int32)))), .second, .val (.int (0 : Int32))] [(.long (1 : Int64)), (.long ((((((365 : Int64) * (F5 q1 (12 : Int32))) + (((F5 ((F5 q1 (12 : Int32)) + (3 : Int64)) (4 : Int32)) - (F5 ((F5 q1 (12 : Int32)) + (99 : Int64)) (100 : Int32))) + (F5 ((F5 q1 (12 : Int32)) + (399 : Int64)) (400 : Int32)))) + ((own_dbm (F7 q1 (12 : Int32))).toInt64)) + ((0 : Int32).toInt64)) + (p2.toInt64)))])) _
      refine XS.lsub X175.here hx rfl (hb hby d4_96) rfl ?_
      exact k
    obtain ⟨fs, hr, hrun, hended, hW, hsame⟩ := X175.leave (v := some (.long (((((((365 : Int64) * (F5 q1 (12 : Int32))) + (((F5 ((F5 q1 (12 : Int32)) + (3 : Int64)) (4 : Int32)) - (F5 ((F5 q1 (12 : Int32)) + (99 : Int64)) (100 : Int32))) + (F5 ((F5 q1 (12 : Int32)) + (399 : Int64)) (400 : Int32)))) + ((own_dbm (F7 q1 (12 : Int32))).toInt64)) + ((0 : Int32).toInt64)) + (p2.toInt64)) - (1 : Int64)))) (fun h => by rw [hret] at h; cases h) (hlocks := hlocks)
    refine ⟨_, _, pre177 _ ?_, hrun, hended, _, _, rfl, ?_, ⟨_, rfl⟩, hW, hsame.mono (by decide) (by decide)⟩
    · show Steps p.tables e below (T175.setTop (mkF m 97 #[.val (.long q1), .second, .val (.int p2), .val (.long (F5 q1 (12 : Int32))), .second, .val (.int (F7 q1 (12 : Int32))), .val (.long (((F5 ((F5 q1 (12 : Int32)) + (3 : Int64)) (4 : Int32)) - (F5 ((F5 q1 (12 : Int32)) + (99 : Int64)) (100 : Int32))) + (F5 ((F5 q1 (12 : Int32)) + (399 : Int64)) (400 : Int32)))), .second, .val (.int (0 : Int32))] [(.long (((((((365 : Int64) * (F5 q1 (12 : Int32))) + (((F5 ((F5 q1 (12 : Int32)) + (3 : Int64)) (4 : Int32)) - (F5 ((F5 q1 (12 : Int32)) + (99 : Int64)) (100 : Int32))) + (F5 ((F5 q1 (12 : Int32)) + (399 : Int64)) (400 : Int32)))) + ((own_dbm (F7 q1 (12 : Int32))).toInt64)) + ((0 : Int32).toInt64)) + (p2.toInt64)) - (1 : Int64)))])) _
      exact Jvm.RoadKit.retOut X175 hx hret rfl (Or.inr (Or.inl ⟨rfl, rfl, _, rfl⟩)) (hb hby d4_97) hr
    · show Q4 Z q1 p2 cl_wD wI wD h0 n0 _ T175.heap _
      exact ⟨(by rw [F4, if_neg hc155]), N152, e175⟩
theorem d2_0 : decode prog_2_method_4_code 0 = .ok (.getstatic 171, 3) := by decide +kernel
theorem d2_3 : decode prog_2_method_4_code 3 = .ok (.aload_n 0, 1) := by decide +kernel
theorem d2_4 : decode prog_2_method_4_code 4 = .ok (.invokevirtual 177, 3) := by decide +kernel
theorem pd___I : parseMethodDescriptor "()I" = some ⟨[], some .int⟩ := by decide +kernel
theorem d2_7 : decode prog_2_method_4_code 7 = .ok (.iaload, 1) := by decide +kernel
theorem d2_8 : decode prog_2_method_4_code 8 = .ok (.lookupswitch 28 #[(1, 38), (2, 51)], 28) := by decide +kernel
theorem d2_46 : decode prog_2_method_4_code 46 = .ok (.lload 4, 2) := by decide +kernel
theorem d2_48 : decode prog_2_method_4_code 48 = .ok (.lload_n 1, 1) := by decide +kernel
theorem d2_49 : decode prog_2_method_4_code 49 = .ok (.lsub, 1) := by decide +kernel
theorem d2_50 : decode prog_2_method_4_code 50 = .ok (.iload_n 3, 1) := by decide +kernel
theorem d2_51 : decode prog_2_method_4_code 51 = .ok (.iload 6, 2) := by decide +kernel
theorem d2_53 : decode prog_2_method_4_code 53 = .ok (.invokestatic 185, 3) := by decide +kernel
theorem pd__JII_J : parseMethodDescriptor "(JII)J" = some ⟨[.long, .int, .int], some .long⟩ := by decide +kernel
theorem d2_56 : decode prog_2_method_4_code 56 = .ok (.goto 16, 3) := by decide +kernel
theorem d2_72 : decode prog_2_method_4_code 72 = .ok (.lreturn, 1) := by decide +kernel
theorem ef_2t (m : MethodId) (x0 : Addr) (x1 : Int64) (x2 : Int32) (x3 : Int64) (x4 : Int32) : entryFrame m #[(.ref x0), (.long x1), (.int x2), (.long x3), (.int x4)] 7 = mkF m 0 #[.val (.ref x0), .val (.long x1), .second, .val (.int x2), .val (.long x3), .second, .val (.int x4)] [] := by first | (simp [entryFrame, mkF, argsToLocals, Value.category]; done) | rfl
def F2t (q2 : Int64) (p3 : Int32) (q4 : Int64) (p5 : Int32) : Int64 :=
  (F11 (q4 - q2) p3 p5)
def Q2t (Z : State) (a1 : Addr) (q2 : Int64) (p3 : Int32) (q4 : Int64) (p5 : Int32) (cl_wS : Cell) (wS : Addr) (h0 : Heap) (n0 : Nat) (v : Option Value) (h : Heap) (L : List Loc) : Prop := v = some (.long (F2t q2 p3 q4 p5)) ∧ Fr n0 L ∧ h = h0
set_option maxRecDepth 65536 in
set_option maxHeartbeats 40000000 in
theorem rm2t (l : Launch) (Z : State) (a0 : Array Value) (hw : ∀ d ∈ tables_1, d.before a0 Z = true) (ws : List Jvm.Cond) (a1 : Addr) (q2 : Int64) (p3 : Int32) (q4 : Int64) (p5 : Int32) (cl_wS : Cell) (wS : Addr) (h0 : Heap) (n0 : Nat) (Z0 : n0 ≤ h0.size) (E_a1 : Exa Z h0 a1 "com/example/notesmith/notesmith/note/DayCount") (Ford : Fld Z h0 a1 "java/lang/Enum" "ordinal" "I" (.int (0 : Int32))) (Ar_wS : Arr Z h0 wS cl_wS .int) (el_0 : ¬ ((0 : Int32) < 0 ∨ cl_wS.slots.size ≤ (0 : Int32).toNatClampNeg) ∧ cl_wS.slots[(0 : Int32).toNatClampNeg]? = some (.int (1 : Int32))) (S_wS : Sta Z h0 "com/example/notesmith/notesmith/calc/Accrual$1" "$SwitchMap$com$example$notesmith$notesmith$note$DayCount" "[I" (.ref wS)) :
    MetFree l (⟨"com/example/notesmith/notesmith/calc/Accrual", "days", "(Lcom/example/notesmith/notesmith/note/DayCount;JIJI)J"⟩ : MethodName) (head1 (Jvm.Cond.code (⟨"com/example/notesmith/notesmith/calc/Accrual", "days", "(Lcom/example/notesmith/notesmith/note/DayCount;JIJI)J"⟩ : MethodName) prog_2_method_4_code 7 (some .long) :: ws) ({ frames := 1, cells := 0, slots := 0, locals := 17 } : Room)) (fun a U => a = #[(.ref a1), (.long q2), (.int p3), (.long q4), (.int p5)] ∧ Z.Warmed39 U.vm ∧ U.heap = h0) (fun _ _ _ _ _ => True) (fun _ U o U' => ∃ v L, o = .returned v ∧ Q2t Z a1 q2 p3 q4 p5 cl_wS wS h0 n0 v U'.heap L ∧ FrameEnd U o U' L ({ frames := 1, cells := 0, slots := 0, locals := 17 } : Room).cells ({ frames := 1, cells := 0, slots := 0, locals := 17 } : Room).slots) := by
  refine MetFree.of_bodySF (plainFor_of_name pn_11) hisR ?_
  intro p e s m args below meth c s₁ Bd hml0 hP hK
  obtain ⟨rfl, hZ, hh⟩ := hP
  have hx := Bd.exec
  have hby := Bd.bytes
  have hml : c.maxLocals = 7 := hml0
  have hown : s.vm.findClass "com/example/notesmith/notesmith/calc/Accrual" = some m.cls := findClass_of_methodNamed Bd.named
  have hnm := (name_of_methodNamed Bd.named Bd.method).1
  have hret := Bd.returns
  have hlocks : meth.locks = false := Bd.notSynchronized
  have X0 : Stand p l e ({ frames := 1, cells := 0, slots := 0, locals := 17 } : Room) s m #[(.ref a1), (.long q2), (.int p3), (.long q4), (.int p5)] below meth c s₁ [] 0 0 := Stand.of_body Bd
  have e0 : s₁.heap = h0 := by rw [← hh, Bd.state]; rfl
  have N0 := Fr.nil n0
  have pre0 : ∀ t, Steps p.tables e below (s₁.setTop (mkF m 0 #[.val (.ref a1), .val (.long q2), .second, .val (.int p3), .val (.long q4), .second, .val (.int p5)] [])) t → Steps p.tables e below (s₁.setTop (entryFrame m #[(.ref a1), (.long q2), (.int p3), (.long q4), (.int p5)] 7)) t := fun t k => castTop (ef_2t m a1 q2 p3 q4 p5) k
  obtain ⟨T178, X178, e178, st178⟩ := getS2 X0 hx hZ hown (host := "") (Or.inl (hw _ (List.mem_of_getElem? (i := 14) rfl))) Via.refl e0 S_wS (g := (mkF m 0 #[.val (.ref a1), .val (.long q2), .second, .val (.int p3), .val (.long q4), .second, .val (.int p5)] [])) rfl (hb hby d2_0)
  have pre179 : ∀ t, Steps p.tables e below (T178.setTop (mkF m 3 #[.val (.ref a1), .val (.long q2), .second, .val (.int p3), .val (.long q4), .second, .val (.int p5)] [(.ref wS)])) t → Steps p.tables e below (s₁.setTop (entryFrame m #[(.ref a1), (.long q2), (.int p3), (.long q4), (.int p5)] 7)) t := by
    intro t k
    refine pre0 _ ?_
    show Steps p.tables e below (s₁.setTop (mkF m 0 #[.val (.ref a1), .val (.long q2), .second, .val (.int p3), .val (.long q4), .second, .val (.int p5)] [])) _
    refine st178 _ ?_
    exact k
  have pre180 : ∀ t, Steps p.tables e below (T178.setTop (mkF m 4 #[.val (.ref a1), .val (.long q2), .second, .val (.int p3), .val (.long q4), .second, .val (.int p5)] [(.ref a1), (.ref wS)])) t → Steps p.tables e below (s₁.setTop (entryFrame m #[(.ref a1), (.long q2), (.int p3), (.long q4), (.int p5)] 7)) t := by
    intro t k
    refine pre179 _ ?_
    show Steps p.tables e below (T178.setTop (mkF m 3 #[.val (.ref a1), .val (.long q2), .second, .val (.int p3), .val (.long q4), .second, .val (.int p5)] [(.ref wS)])) _
    refine XS.aloadN X178.here hx rfl (hb hby d2_3) rfl rfl ?_
    exact k
  obtain ⟨cq181, kq181, q181a, q181b, q181c⟩ := isOf hZ e178 E_a1
  obtain ⟨_, _, ⟨T181, L181, k181, n181⟩, -, X181, ⟨Lc181, hQ181, l181, y181, z181⟩, st181⟩ := X178.virtualBackUp hx (owner := "java/lang/Enum") (x := (⟨"com/example/notesmith/notesmith/note/DayCount", "ordinal", "()I"⟩ : MethodName)) (y := (⟨"java/lang/Enum", "ordinal", "()I"⟩ : MethodName)) hown (mvT hZ (hw _ (List.mem_of_getElem? (i := 17) rfl))) (mvT hZ (hw _ (List.mem_of_getElem? (i := 18) rfl))) (mvT hZ (hw _ (List.mem_of_getElem? (i := 19) rfl))) (by decide) (mvT hZ (hw _ (List.mem_of_getElem? (i := 21) rfl))) (mvT hZ (hw _ (List.mem_of_getElem? (i := 20) rfl))) (backOf (W := 1) (rm3 l Z a0 hw [] a1 (0 : Int32) h0 n0 Z0 Ford) hZ (hw _ (List.mem_of_getElem? (i := 23) rfl)) (hw _ (List.mem_of_getElem? (i := 22) rfl)) (by decide) (by decide)) q181a q181c (g := (mkF m 4 #[.val (.ref a1), .val (.long q2), .second, .val (.int p3), .val (.long q4), .second, .val (.int p5)] [(.ref a1), (.ref wS)])) rfl (by rw [hml]; rfl) (Steps.refl _) (argsL := []) (rest := [(.ref wS)]) (lenOf pd___I rfl) rfl (by show 2 * 0 + _ ≤ _; exact Nat.le_of_eq rfl) (hb hby d2_4) (fun _ _ => ⟨rfl, e178, (by decide : 0 + 0 ≤ _), (by decide : 0 + 0 ≤ _)⟩)
  dsimp only [Pt.U, Pt.locs, Pt.cells, Pt.slots] at X181 l181 y181 z181 st181 hQ181
  subst l181 y181 z181
  obtain ⟨rfl, N181q, e181⟩ := hQ181
  have N181 := Fr.app N0 N181q
  have pre182 : ∀ t, Steps p.tables e below (T181.setTop (mkF m 7 #[.val (.ref a1), .val (.long q2), .second, .val (.int p3), .val (.long q4), .second, .val (.int p5)] [(.int (0 : Int32)), (.ref wS)])) t → Steps p.tables e below (s₁.setTop (entryFrame m #[(.ref a1), (.long q2), (.int p3), (.long q4), (.int p5)] 7)) t := by
    intro t k
    refine pre180 _ ?_
    show Steps p.tables e below (T178.setTop (mkF m 4 #[.val (.ref a1), .val (.long q2), .second, .val (.int p3), .val (.long q4), .second, .val (.int p5)] [(.ref a1), (.ref wS)])) _
    refine st181.trans ?_
    exact k
  have pre183 : ∀ t, Steps p.tables e below (T181.setTop (mkF m 53 #[.val (.ref a1), .val (.long q2), .second, .val (.int p3), .val (.long q4), .second, .val (.int p5)] [(.int p5), (.int p3), (.long (q4 - q2))])) t → Steps p.tables e below (s₁.setTop (entryFrame m #[(.ref a1), (.long q2), (.int p3), (.long q4), (.int p5)] 7)) t := by
    intro t k
    refine pre182 _ ?_
    show Steps p.tables e below (T181.setTop (mkF m 7 #[.val (.ref a1), .val (.long q2), .second, .val (.int p3), .val (.long q4), .second, .val (.int p5)] [(.int (0 : Int32)), (.ref wS)])) _
    refine X181.iaload hx (j := (0 : Int32)) (v := (.int (1 : Int32))) (by rw [e181]; exact Ar_wS.1) (State.isArrayOf_alike hZ.alike Ar_wS.2.1) Ar_wS.2.2 el_0.1 el_0.2 (g := (mkF m 7 #[.val (.ref a1), .val (.long q2), .second, .val (.int p3), .val (.long q4), .second, .val (.int p5)] [(.int (0 : Int32)), (.ref wS)])) rfl rfl (hb hby d2_7) _ ?_
    show Steps p.tables e below (T181.setTop (mkF m 8 #[.val (.ref a1), .val (.long q2), .second, .val (.int p3), .val (.long q4), .second, .val (.int p5)] [(.int (1 : Int32))])) _
    refine X181.lookupswitchHit hx (g := (mkF m 8 #[.val (.ref a1), .val (.long q2), .second, .val (.int p3), .val (.long q4), .second, .val (.int p5)] [(.int (1 : Int32))])) rfl rfl (hb hby d2_8) (by decide) (a := 1) (off := 38) (by decide) (by show (0 : Int) ≤ ((8 : Nat) : Int) + 38; decide) _ ?_
    show Steps p.tables e below (T181.setTop (mkF m 46 #[.val (.ref a1), .val (.long q2), .second, .val (.int p3), .val (.long q4), .second, .val (.int p5)] [])) _
    refine XS.lload X181.here hx rfl (hb hby d2_46) rfl ?_
    show Steps p.tables e below (T181.setTop (mkF m 48 #[.val (.ref a1), .val (.long q2), .second, .val (.int p3), .val (.long q4), .second, .val (.int p5)] [(.long q4)])) _
    refine XS.lloadN X181.here hx rfl (hb hby d2_48) rfl ?_
    show Steps p.tables e below (T181.setTop (mkF m 49 #[.val (.ref a1), .val (.long q2), .second, .val (.int p3), .val (.long q4), .second, .val (.int p5)] [(.long q2), (.long q4)])) _
    refine XS.lsub X181.here hx rfl (hb hby d2_49) rfl ?_
    show Steps p.tables e below (T181.setTop (mkF m 50 #[.val (.ref a1), .val (.long q2), .second, .val (.int p3), .val (.long q4), .second, .val (.int p5)] [(.long (q4 - q2))])) _
    refine XS.iloadN X181.here hx rfl (hb hby d2_50) rfl ?_
    show Steps p.tables e below (T181.setTop (mkF m 51 #[.val (.ref a1), .val (.long q2), .second, .val (.int p3), .val (.long q4), .second, .val (.int p5)] [(.int p3), (.long (q4 - q2))])) _
    refine XS.iload X181.here hx rfl (hb hby d2_51) rfl ?_
    exact k
  obtain ⟨_, _, ⟨T184, L184, k184, n184⟩, -, X184, ⟨Lc184, hQ184, l184, y184, z184⟩, st184⟩ := Jvm.LawKit.callS X181 hx (y := (⟨"com/example/notesmith/notesmith/calc/Accrual", "thirty360", "(JII)J"⟩ : MethodName)) hown (mvT hZ (hw _ (List.mem_of_getElem? (i := 69) rfl))) (mvT hZ (hw _ (List.mem_of_getElem? (i := 70) rfl))) (mvT hZ (hw _ (List.mem_of_getElem? (i := 12) rfl))) (mvT hZ (hw _ (List.mem_of_getElem? (i := 71) rfl))) (by decide) (backOf (W := 0) (rm11 l Z a0 hw [] (q4 - q2) p3 p5 h0 n0 Z0 ) hZ (hw _ (List.mem_of_getElem? (i := 71) rfl)) (hw _ (List.mem_of_getElem? (i := 12) rfl)) (by decide) (by decide)) (g := (mkF m 53 #[.val (.ref a1), .val (.long q2), .second, .val (.int p3), .val (.long q4), .second, .val (.int p5)] [(.int p5), (.int p3), (.long (q4 - q2))])) rfl (by rw [hml]; rfl) (argsL := [(.long (q4 - q2)), (.int p3), (.int p5)]) (rest := []) (lenOf pd__JII_J rfl) rfl (by show 2 * 0 + _ ≤ _; exact Nat.le_of_eq rfl) (hb hby d2_53) (fun _ _ => ⟨rfl, e181, (by decide : 0 + 0 ≤ _), (by decide : 0 + 0 ≤ _)⟩)
  dsimp only [Pt.U, Pt.locs, Pt.cells, Pt.slots] at X184 l184 y184 z184 st184 hQ184
  subst l184 y184 z184
  obtain ⟨rfl, N184q, e184⟩ := hQ184
  have N184 := Fr.app N181 N184q
  have pre185 : ∀ t, Steps p.tables e below (T184.setTop (mkF m 56 #[.val (.ref a1), .val (.long q2), .second, .val (.int p3), .val (.long q4), .second, .val (.int p5)] [(.long (F11 (q4 - q2) p3 p5))])) t → Steps p.tables e below (s₁.setTop (entryFrame m #[(.ref a1), (.long q2), (.int p3), (.long q4), (.int p5)] 7)) t := by
    intro t k
    refine pre183 _ ?_
    show Steps p.tables e below (T181.setTop (mkF m 53 #[.val (.ref a1), .val (.long q2), .second, .val (.int p3), .val (.long q4), .second, .val (.int p5)] [(.int p5), (.int p3), (.long (q4 - q2))])) _
    refine st184 _ ?_
    exact k
  have pre186 : ∀ t, Steps p.tables e below (T184.setTop (mkF m 72 #[.val (.ref a1), .val (.long q2), .second, .val (.int p3), .val (.long q4), .second, .val (.int p5)] [(.long (F11 (q4 - q2) p3 p5))])) t → Steps p.tables e below (s₁.setTop (entryFrame m #[(.ref a1), (.long q2), (.int p3), (.long q4), (.int p5)] 7)) t := by
    intro t k
    refine pre185 _ ?_
    show Steps p.tables e below (T184.setTop (mkF m 56 #[.val (.ref a1), .val (.long q2), .second, .val (.int p3), .val (.long q4), .second, .val (.int p5)] [(.long (F11 (q4 - q2) p3 p5))])) _
    refine XS.goto X184.here hx rfl (pc0 := 56) (pc' := 72) rfl (hb hby d2_56) (by decide) (by decide) ?_
    exact k
  obtain ⟨fs, hr, hrun, hended, hW, hsame⟩ := X184.leave (v := some (.long (F11 (q4 - q2) p3 p5))) (fun h => by rw [hret] at h; cases h) (hlocks := hlocks)
  refine ⟨_, _, pre186 _ ?_, hrun, hended, _, _, rfl, ?_, ⟨_, rfl⟩, hW, hsame.mono (by decide) (by decide)⟩
  · show Steps p.tables e below (T184.setTop (mkF m 72 #[.val (.ref a1), .val (.long q2), .second, .val (.int p3), .val (.long q4), .second, .val (.int p5)] [(.long (F11 (q4 - q2) p3 p5))])) _
    exact Jvm.RoadKit.retOut X184 hx hret rfl (Or.inr (Or.inl ⟨rfl, rfl, _, rfl⟩)) (hb hby d2_72) hr
  · show Q2t Z a1 q2 p3 q4 p5 cl_wS wS h0 n0 _ T184.heap _
    exact ⟨(by rw [F2t]), N184, e184⟩
theorem d2_59 : decode prog_2_method_4_code 59 = .ok (.lload 4, 2) := by decide +kernel
theorem d2_61 : decode prog_2_method_4_code 61 = .ok (.iload 6, 2) := by decide +kernel
theorem d2_63 : decode prog_2_method_4_code 63 = .ok (.invokestatic 189, 3) := by decide +kernel
theorem d2_66 : decode prog_2_method_4_code 66 = .ok (.lload_n 1, 1) := by decide +kernel
theorem d2_67 : decode prog_2_method_4_code 67 = .ok (.iload_n 3, 1) := by decide +kernel
theorem d2_68 : decode prog_2_method_4_code 68 = .ok (.invokestatic 189, 3) := by decide +kernel
theorem d2_71 : decode prog_2_method_4_code 71 = .ok (.lsub, 1) := by decide +kernel
theorem ef_2a (m : MethodId) (x0 : Addr) (x1 : Int64) (x2 : Int32) (x3 : Int64) (x4 : Int32) : entryFrame m #[(.ref x0), (.long x1), (.int x2), (.long x3), (.int x4)] 7 = mkF m 0 #[.val (.ref x0), .val (.long x1), .second, .val (.int x2), .val (.long x3), .second, .val (.int x4)] [] := by first | (simp [entryFrame, mkF, argsToLocals, Value.category]; done) | rfl
def F2a (q2 : Int64) (p3 : Int32) (q4 : Int64) (p5 : Int32) : Int64 :=
  ((F4 q4 p5) - (F4 q2 p3))
def Q2a (Z : State) (a1 : Addr) (q2 : Int64) (p3 : Int32) (q4 : Int64) (p5 : Int32) (cl_wS : Cell) (cl_wD : Cell) (wS : Addr) (wI : Addr) (wD : Addr) (h0 : Heap) (n0 : Nat) (v : Option Value) (h : Heap) (L : List Loc) : Prop := v = some (.long (F2a q2 p3 q4 p5)) ∧ Fr n0 L ∧ h = h0
set_option maxRecDepth 65536 in
set_option maxHeartbeats 40000000 in
theorem rm2a (l : Launch) (Z : State) (a0 : Array Value) (hw : ∀ d ∈ tables_1, d.before a0 Z = true) (ws : List Jvm.Cond) (a1 : Addr) (q2 : Int64) (p3 : Int32) (q4 : Int64) (p5 : Int32) (cl_wS : Cell) (cl_wD : Cell) (wS : Addr) (wI : Addr) (wD : Addr) (h0 : Heap) (n0 : Nat) (Z0 : n0 ≤ h0.size) (E_a1 : Exa Z h0 a1 "com/example/notesmith/notesmith/note/DayCount") (Ford : Fld Z h0 a1 "java/lang/Enum" "ordinal" "I" (.int (1 : Int32))) (Ar_wS : Arr Z h0 wS cl_wS .int) (el_1 : ¬ ((1 : Int32) < 0 ∨ cl_wS.slots.size ≤ (1 : Int32).toNatClampNeg) ∧ cl_wS.slots[(1 : Int32).toNatClampNeg]? = some (.int (2 : Int32))) (E_wI : Exa Z h0 wI "java/time/chrono/IsoChronology") (Ar_wD : Arr Z h0 wD cl_wD .int) (hD : ∀ j : Int32, (0 ≤ j.toInt ∧ j.toInt < 12) → ¬ (j < 0 ∨ cl_wD.slots.size ≤ j.toNatClampNeg) ∧ cl_wD.slots[j.toNatClampNeg]? = some (.int (own_dbm j))) (S_wS : Sta Z h0 "com/example/notesmith/notesmith/calc/Accrual$1" "$SwitchMap$com$example$notesmith$notesmith$note$DayCount" "[I" (.ref wS)) (S_wI : Sta Z h0 "java/time/chrono/IsoChronology" "INSTANCE" "Ljava/time/chrono/IsoChronology;" (.ref wI)) (S_wD : Sta Z h0 "com/example/notesmith/notesmith/calc/Accrual" "DAYS_BEFORE_MONTH" "[I" (.ref wD)) :
    MetFree l (⟨"com/example/notesmith/notesmith/calc/Accrual", "days", "(Lcom/example/notesmith/notesmith/note/DayCount;JIJI)J"⟩ : MethodName) (head1 (Jvm.Cond.code (⟨"com/example/notesmith/notesmith/calc/Accrual", "days", "(Lcom/example/notesmith/notesmith/note/DayCount;JIJI)J"⟩ : MethodName) prog_2_method_4_code 7 (some .long) :: ws) ({ frames := 3, cells := 0, slots := 0, locals := 55 } : Room)) (fun a U => a = #[(.ref a1), (.long q2), (.int p3), (.long q4), (.int p5)] ∧ Z.Warmed39 U.vm ∧ U.heap = h0) (fun _ _ _ _ _ => True) (fun _ U o U' => ∃ v L, o = .returned v ∧ Q2a Z a1 q2 p3 q4 p5 cl_wS cl_wD wS wI wD h0 n0 v U'.heap L ∧ FrameEnd U o U' L ({ frames := 3, cells := 0, slots := 0, locals := 55 } : Room).cells ({ frames := 3, cells := 0, slots := 0, locals := 55 } : Room).slots) := by
  refine MetFree.of_bodySF (plainFor_of_name pn_11) hisR ?_
  intro p e s m args below meth c s₁ Bd hml0 hP hK
  obtain ⟨rfl, hZ, hh⟩ := hP
  have hx := Bd.exec
  have hby := Bd.bytes
  have hml : c.maxLocals = 7 := hml0
  have hown : s.vm.findClass "com/example/notesmith/notesmith/calc/Accrual" = some m.cls := findClass_of_methodNamed Bd.named
  have hnm := (name_of_methodNamed Bd.named Bd.method).1
  have hret := Bd.returns
  have hlocks : meth.locks = false := Bd.notSynchronized
  have X0 : Stand p l e ({ frames := 3, cells := 0, slots := 0, locals := 55 } : Room) s m #[(.ref a1), (.long q2), (.int p3), (.long q4), (.int p5)] below meth c s₁ [] 0 0 := Stand.of_body Bd
  have e0 : s₁.heap = h0 := by rw [← hh, Bd.state]; rfl
  have N0 := Fr.nil n0
  have pre0 : ∀ t, Steps p.tables e below (s₁.setTop (mkF m 0 #[.val (.ref a1), .val (.long q2), .second, .val (.int p3), .val (.long q4), .second, .val (.int p5)] [])) t → Steps p.tables e below (s₁.setTop (entryFrame m #[(.ref a1), (.long q2), (.int p3), (.long q4), (.int p5)] 7)) t := fun t k => castTop (ef_2a m a1 q2 p3 q4 p5) k
  obtain ⟨T187, X187, e187, st187⟩ := getS2 X0 hx hZ hown (host := "") (Or.inl (hw _ (List.mem_of_getElem? (i := 14) rfl))) Via.refl e0 S_wS (g := (mkF m 0 #[.val (.ref a1), .val (.long q2), .second, .val (.int p3), .val (.long q4), .second, .val (.int p5)] [])) rfl (hb hby d2_0)
  have pre188 : ∀ t, Steps p.tables e below (T187.setTop (mkF m 3 #[.val (.ref a1), .val (.long q2), .second, .val (.int p3), .val (.long q4), .second, .val (.int p5)] [(.ref wS)])) t → Steps p.tables e below (s₁.setTop (entryFrame m #[(.ref a1), (.long q2), (.int p3), (.long q4), (.int p5)] 7)) t := by
    intro t k
    refine pre0 _ ?_
    show Steps p.tables e below (s₁.setTop (mkF m 0 #[.val (.ref a1), .val (.long q2), .second, .val (.int p3), .val (.long q4), .second, .val (.int p5)] [])) _
    refine st187 _ ?_
    exact k
  have pre189 : ∀ t, Steps p.tables e below (T187.setTop (mkF m 4 #[.val (.ref a1), .val (.long q2), .second, .val (.int p3), .val (.long q4), .second, .val (.int p5)] [(.ref a1), (.ref wS)])) t → Steps p.tables e below (s₁.setTop (entryFrame m #[(.ref a1), (.long q2), (.int p3), (.long q4), (.int p5)] 7)) t := by
    intro t k
    refine pre188 _ ?_
    show Steps p.tables e below (T187.setTop (mkF m 3 #[.val (.ref a1), .val (.long q2), .second, .val (.int p3), .val (.long q4), .second, .val (.int p5)] [(.ref wS)])) _
    refine XS.aloadN X187.here hx rfl (hb hby d2_3) rfl rfl ?_
    exact k
  obtain ⟨cq190, kq190, q190a, q190b, q190c⟩ := isOf hZ e187 E_a1
  obtain ⟨_, _, ⟨T190, L190, k190, n190⟩, -, X190, ⟨Lc190, hQ190, l190, y190, z190⟩, st190⟩ := X187.virtualBackUp hx (owner := "java/lang/Enum") (x := (⟨"com/example/notesmith/notesmith/note/DayCount", "ordinal", "()I"⟩ : MethodName)) (y := (⟨"java/lang/Enum", "ordinal", "()I"⟩ : MethodName)) hown (mvT hZ (hw _ (List.mem_of_getElem? (i := 17) rfl))) (mvT hZ (hw _ (List.mem_of_getElem? (i := 18) rfl))) (mvT hZ (hw _ (List.mem_of_getElem? (i := 19) rfl))) (by decide) (mvT hZ (hw _ (List.mem_of_getElem? (i := 21) rfl))) (mvT hZ (hw _ (List.mem_of_getElem? (i := 20) rfl))) (backOf (W := 1) (rm3 l Z a0 hw [] a1 (1 : Int32) h0 n0 Z0 Ford) hZ (hw _ (List.mem_of_getElem? (i := 23) rfl)) (hw _ (List.mem_of_getElem? (i := 22) rfl)) (by decide) (by decide)) q190a q190c (g := (mkF m 4 #[.val (.ref a1), .val (.long q2), .second, .val (.int p3), .val (.long q4), .second, .val (.int p5)] [(.ref a1), (.ref wS)])) rfl (by rw [hml]; rfl) (Steps.refl _) (argsL := []) (rest := [(.ref wS)]) (lenOf pd___I rfl) rfl (by show 2 * 0 + _ ≤ _; exact Nat.le_of_eq rfl) (hb hby d2_4) (fun _ _ => ⟨rfl, e187, (by decide : 0 + 0 ≤ _), (by decide : 0 + 0 ≤ _)⟩)
  dsimp only [Pt.U, Pt.locs, Pt.cells, Pt.slots] at X190 l190 y190 z190 st190 hQ190
  subst l190 y190 z190
  obtain ⟨rfl, N190q, e190⟩ := hQ190
  have N190 := Fr.app N0 N190q
  have pre191 : ∀ t, Steps p.tables e below (T190.setTop (mkF m 7 #[.val (.ref a1), .val (.long q2), .second, .val (.int p3), .val (.long q4), .second, .val (.int p5)] [(.int (1 : Int32)), (.ref wS)])) t → Steps p.tables e below (s₁.setTop (entryFrame m #[(.ref a1), (.long q2), (.int p3), (.long q4), (.int p5)] 7)) t := by
    intro t k
    refine pre189 _ ?_
    show Steps p.tables e below (T187.setTop (mkF m 4 #[.val (.ref a1), .val (.long q2), .second, .val (.int p3), .val (.long q4), .second, .val (.int p5)] [(.ref a1), (.ref wS)])) _
    refine st190.trans ?_
    exact k
  have pre192 : ∀ t, Steps p.tables e below (T190.setTop (mkF m 63 #[.val (.ref a1), .val (.long q2), .second, .val (.int p3), .val (.long q4), .second, .val (.int p5)] [(.int p5), (.long q4)])) t → Steps p.tables e below (s₁.setTop (entryFrame m #[(.ref a1), (.long q2), (.int p3), (.long q4), (.int p5)] 7)) t := by
    intro t k
    refine pre191 _ ?_
    show Steps p.tables e below (T190.setTop (mkF m 7 #[.val (.ref a1), .val (.long q2), .second, .val (.int p3), .val (.long q4), .second, .val (.int p5)] [(.int (1 : Int32)), (.ref wS)])) _
    refine X190.iaload hx (j := (1 : Int32)) (v := (.int (2 : Int32))) (by rw [e190]; exact Ar_wS.1) (State.isArrayOf_alike hZ.alike Ar_wS.2.1) Ar_wS.2.2 el_1.1 el_1.2 (g := (mkF m 7 #[.val (.ref a1), .val (.long q2), .second, .val (.int p3), .val (.long q4), .second, .val (.int p5)] [(.int (1 : Int32)), (.ref wS)])) rfl rfl (hb hby d2_7) _ ?_
    show Steps p.tables e below (T190.setTop (mkF m 8 #[.val (.ref a1), .val (.long q2), .second, .val (.int p3), .val (.long q4), .second, .val (.int p5)] [(.int (2 : Int32))])) _
    refine X190.lookupswitchHit hx (g := (mkF m 8 #[.val (.ref a1), .val (.long q2), .second, .val (.int p3), .val (.long q4), .second, .val (.int p5)] [(.int (2 : Int32))])) rfl rfl (hb hby d2_8) (by decide) (a := 2) (off := 51) (by decide) (by show (0 : Int) ≤ ((8 : Nat) : Int) + 51; decide) _ ?_
    show Steps p.tables e below (T190.setTop (mkF m 59 #[.val (.ref a1), .val (.long q2), .second, .val (.int p3), .val (.long q4), .second, .val (.int p5)] [])) _
    refine XS.lload X190.here hx rfl (hb hby d2_59) rfl ?_
    show Steps p.tables e below (T190.setTop (mkF m 61 #[.val (.ref a1), .val (.long q2), .second, .val (.int p3), .val (.long q4), .second, .val (.int p5)] [(.long q4)])) _
    refine XS.iload X190.here hx rfl (hb hby d2_61) rfl ?_
    exact k
  obtain ⟨_, _, ⟨T193, L193, k193, n193⟩, -, X193, ⟨Lc193, hQ193, l193, y193, z193⟩, st193⟩ := Jvm.LawKit.callS X190 hx (y := (⟨"com/example/notesmith/notesmith/calc/Accrual", "dayNumber", "(JI)J"⟩ : MethodName)) hown (mvT hZ (hw _ (List.mem_of_getElem? (i := 26) rfl))) (mvT hZ (hw _ (List.mem_of_getElem? (i := 27) rfl))) (mvT hZ (hw _ (List.mem_of_getElem? (i := 12) rfl))) (mvT hZ (hw _ (List.mem_of_getElem? (i := 28) rfl))) (by decide) (backOf (W := 0) (rm4 l Z a0 hw [] q4 p5 cl_wD wI wD h0 n0 Z0 E_wI Ar_wD hD S_wI S_wD) hZ (hw _ (List.mem_of_getElem? (i := 28) rfl)) (hw _ (List.mem_of_getElem? (i := 12) rfl)) (by decide) (by decide)) (g := (mkF m 63 #[.val (.ref a1), .val (.long q2), .second, .val (.int p3), .val (.long q4), .second, .val (.int p5)] [(.int p5), (.long q4)])) rfl (by rw [hml]; rfl) (argsL := [(.long q4), (.int p5)]) (rest := []) (lenOf pd__JI_J rfl) rfl (by show 2 * 0 + _ ≤ _; exact Nat.le_of_eq rfl) (hb hby d2_63) (fun _ _ => ⟨rfl, e190, (by decide : 0 + 0 ≤ _), (by decide : 0 + 0 ≤ _)⟩)
  dsimp only [Pt.U, Pt.locs, Pt.cells, Pt.slots] at X193 l193 y193 z193 st193 hQ193
  subst l193 y193 z193
  obtain ⟨rfl, N193q, e193⟩ := hQ193
  have N193 := Fr.app N190 N193q
  have pre194 : ∀ t, Steps p.tables e below (T193.setTop (mkF m 66 #[.val (.ref a1), .val (.long q2), .second, .val (.int p3), .val (.long q4), .second, .val (.int p5)] [(.long (F4 q4 p5))])) t → Steps p.tables e below (s₁.setTop (entryFrame m #[(.ref a1), (.long q2), (.int p3), (.long q4), (.int p5)] 7)) t := by
    intro t k
    refine pre192 _ ?_
    show Steps p.tables e below (T190.setTop (mkF m 63 #[.val (.ref a1), .val (.long q2), .second, .val (.int p3), .val (.long q4), .second, .val (.int p5)] [(.int p5), (.long q4)])) _
    refine st193 _ ?_
    exact k
  have pre195 : ∀ t, Steps p.tables e below (T193.setTop (mkF m 68 #[.val (.ref a1), .val (.long q2), .second, .val (.int p3), .val (.long q4), .second, .val (.int p5)] [(.int p3), (.long q2), (.long (F4 q4 p5))])) t → Steps p.tables e below (s₁.setTop (entryFrame m #[(.ref a1), (.long q2), (.int p3), (.long q4), (.int p5)] 7)) t := by
    intro t k
    refine pre194 _ ?_
    show Steps p.tables e below (T193.setTop (mkF m 66 #[.val (.ref a1), .val (.long q2), .second, .val (.int p3), .val (.long q4), .second, .val (.int p5)] [(.long (F4 q4 p5))])) _
    refine XS.lloadN X193.here hx rfl (hb hby d2_66) rfl ?_
    show Steps p.tables e below (T193.setTop (mkF m 67 #[.val (.ref a1), .val (.long q2), .second, .val (.int p3), .val (.long q4), .second, .val (.int p5)] [(.long q2), (.long (F4 q4 p5))])) _
    refine XS.iloadN X193.here hx rfl (hb hby d2_67) rfl ?_
    exact k
  obtain ⟨_, _, ⟨T196, L196, k196, n196⟩, -, X196, ⟨Lc196, hQ196, l196, y196, z196⟩, st196⟩ := Jvm.LawKit.callS X193 hx (y := (⟨"com/example/notesmith/notesmith/calc/Accrual", "dayNumber", "(JI)J"⟩ : MethodName)) hown (mvT hZ (hw _ (List.mem_of_getElem? (i := 26) rfl))) (mvT hZ (hw _ (List.mem_of_getElem? (i := 27) rfl))) (mvT hZ (hw _ (List.mem_of_getElem? (i := 12) rfl))) (mvT hZ (hw _ (List.mem_of_getElem? (i := 28) rfl))) (by decide) (backOf (W := 2) (rm4 l Z a0 hw [] q2 p3 cl_wD wI wD h0 n0 Z0 E_wI Ar_wD hD S_wI S_wD) hZ (hw _ (List.mem_of_getElem? (i := 28) rfl)) (hw _ (List.mem_of_getElem? (i := 12) rfl)) (by decide) (by decide)) (g := (mkF m 68 #[.val (.ref a1), .val (.long q2), .second, .val (.int p3), .val (.long q4), .second, .val (.int p5)] [(.int p3), (.long q2), (.long (F4 q4 p5))])) rfl (by rw [hml]; rfl) (argsL := [(.long q2), (.int p3)]) (rest := [(.long (F4 q4 p5))]) (lenOf pd__JI_J rfl) rfl (by show 2 * 0 + _ ≤ _; exact Nat.le_of_eq rfl) (hb hby d2_68) (fun _ _ => ⟨rfl, e193, (by decide : 0 + 0 ≤ _), (by decide : 0 + 0 ≤ _)⟩)
  dsimp only [Pt.U, Pt.locs, Pt.cells, Pt.slots] at X196 l196 y196 z196 st196 hQ196
  subst l196 y196 z196
  obtain ⟨rfl, N196q, e196⟩ := hQ196
  have N196 := Fr.app N193 N196q
  have pre197 : ∀ t, Steps p.tables e below (T196.setTop (mkF m 71 #[.val (.ref a1), .val (.long q2), .second, .val (.int p3), .val (.long q4), .second, .val (.int p5)] [(.long (F4 q2 p3)), (.long (F4 q4 p5))])) t → Steps p.tables e below (s₁.setTop (entryFrame m #[(.ref a1), (.long q2), (.int p3), (.long q4), (.int p5)] 7)) t := by
    intro t k
    refine pre195 _ ?_
    show Steps p.tables e below (T193.setTop (mkF m 68 #[.val (.ref a1), .val (.long q2), .second, .val (.int p3), .val (.long q4), .second, .val (.int p5)] [(.int p3), (.long q2), (.long (F4 q4 p5))])) _
    refine st196 _ ?_
    exact k
  have pre198 : ∀ t, Steps p.tables e below (T196.setTop (mkF m 72 #[.val (.ref a1), .val (.long q2), .second, .val (.int p3), .val (.long q4), .second, .val (.int p5)] [(.long ((F4 q4 p5) - (F4 q2 p3)))])) t → Steps p.tables e below (s₁.setTop (entryFrame m #[(.ref a1), (.long q2), (.int p3), (.long q4), (.int p5)] 7)) t := by
    intro t k
    refine pre197 _ ?_
    show Steps p.tables e below (T196.setTop (mkF m 71 #[.val (.ref a1), .val (.long q2), .second, .val (.int p3), .val (.long q4), .second, .val (.int p5)] [(.long (F4 q2 p3)), (.long (F4 q4 p5))])) _
    refine XS.lsub X196.here hx rfl (hb hby d2_71) rfl ?_
    exact k
  obtain ⟨fs, hr, hrun, hended, hW, hsame⟩ := X196.leave (v := some (.long ((F4 q4 p5) - (F4 q2 p3)))) (fun h => by rw [hret] at h; cases h) (hlocks := hlocks)
  refine ⟨_, _, pre198 _ ?_, hrun, hended, _, _, rfl, ?_, ⟨_, rfl⟩, hW, hsame.mono (by decide) (by decide)⟩
  · show Steps p.tables e below (T196.setTop (mkF m 72 #[.val (.ref a1), .val (.long q2), .second, .val (.int p3), .val (.long q4), .second, .val (.int p5)] [(.long ((F4 q4 p5) - (F4 q2 p3)))])) _
    exact Jvm.RoadKit.retOut X196 hx hret rfl (Or.inr (Or.inl ⟨rfl, rfl, _, rfl⟩)) (hb hby d2_72) hr
  · show Q2a Z a1 q2 p3 q4 p5 cl_wS cl_wD wS wI wD h0 n0 _ T196.heap _
    exact ⟨(by rw [F2a]), N196, e196⟩
def F0_259_0 (j5 : Int64) (i7 : Int32) (j9 : Int64) (i11 : Int32) (j22 : Int64) (i24 : Int32) (i25 : Int32) : Int32 :=
  if (lcmpW j22 ((((360 : Int64) * (j9 - j5)) + ((30 : Int64) * ((i11 - i7).toInt64))) + ((i25 - i24).toInt64))) = (0 : Int32) then (  (1 : Int32))
  else (  (0 : Int32))
set_option maxRecDepth 65536 in
set_option maxHeartbeats 40000000 in
theorem pc0_259_0 {p : Program} {l : Launch} {e : Env} {s : State} {m : MethodId} {args : Array Value} {below : List Frame} {meth : Method} {c : Code} {T0 : State} {locs : List Loc} {Z : State} {a0 : Array Value} {h0 : Heap} {n0 : Nat} (i0 : Int32) (i1 : Int32) (i2 : Int32) (i3 : Int32) (i4 : Int32) (j5 : Int64) (i7 : Int32) (i8 : Int32) (j9 : Int64) (i11 : Int32) (i12 : Int32) (j13 : Int64) (j15 : Int64) (j17 : Int64) (j19 : Int64) (i21 : Int32) (j22 : Int64) (i24 : Int32) (i25 : Int32) (cl_wS : Cell) (cl_wD : Cell) (wT : Addr) (wA : Addr) (wS : Addr) (wI : Addr) (wD : Addr)
    (X0 : Stand p l e room_1 s m args below meth c T0 locs 0 0) (hx : p.tables.exec = Jvm.exec) (hZ : Z.Warmed39 s.vm) (hw : ∀ d ∈ tables_1, d.before a0 Z = true) (hby : c.code = code) (hml : c.maxLocals = 28) (hown : s.vm.findClass "com/example/notesmith/notesmith/calc/AccrualDaysPinLaw" = some m.cls) (hret : meth.sig.returnType = (some .boolean)) (hlocks : meth.locks = false) (e0 : T0.heap = h0) (N0 : Fr n0 locs) (Z0 : n0 ≤ h0.size) (E_wT : Exa Z h0 wT "com/example/notesmith/notesmith/note/DayCount") (E_wA : Exa Z h0 wA "com/example/notesmith/notesmith/note/DayCount") (Ford_T : Fld Z h0 wT "java/lang/Enum" "ordinal" "I" (.int (0 : Int32))) (Ford_A : Fld Z h0 wA "java/lang/Enum" "ordinal" "I" (.int (1 : Int32))) (Ar_wS : Arr Z h0 wS cl_wS .int) (el_0 : ¬ ((0 : Int32) < 0 ∨ cl_wS.slots.size ≤ (0 : Int32).toNatClampNeg) ∧ cl_wS.slots[(0 : Int32).toNatClampNeg]? = some (.int (1 : Int32))) (el_1 : ¬ ((1 : Int32) < 0 ∨ cl_wS.slots.size ≤ (1 : Int32).toNatClampNeg) ∧ cl_wS.slots[(1 : Int32).toNatClampNeg]? = some (.int (2 : Int32))) (E_wI : Exa Z h0 wI "java/time/chrono/IsoChronology") (Ar_wD : Arr Z h0 wD cl_wD .int) (hD : ∀ j : Int32, (0 ≤ j.toInt ∧ j.toInt < 12) → ¬ (j < 0 ∨ cl_wD.slots.size ≤ j.toNatClampNeg) ∧ cl_wD.slots[j.toNatClampNeg]? = some (.int (own_dbm j))) (S_wT : Sta Z h0 "com/example/notesmith/notesmith/note/DayCount" "THIRTY_360" "Lcom/example/notesmith/notesmith/note/DayCount;" (.ref wT)) (S_wA : Sta Z h0 "com/example/notesmith/notesmith/note/DayCount" "ACTUAL_365" "Lcom/example/notesmith/notesmith/note/DayCount;" (.ref wA)) (S_wS : Sta Z h0 "com/example/notesmith/notesmith/calc/Accrual$1" "$SwitchMap$com$example$notesmith$notesmith$note$DayCount" "[I" (.ref wS)) (S_wI : Sta Z h0 "java/time/chrono/IsoChronology" "INSTANCE" "Ljava/time/chrono/IsoChronology;" (.ref wI)) (S_wD : Sta Z h0 "com/example/notesmith/notesmith/calc/Accrual" "DAYS_BEFORE_MONTH" "[I" (.ref wD)) :
    ∃ s₂ o, Steps p.tables e below (T0.setTop (mkF m 259 #[.val (.int i0), .val (.int i1), .val (.int i2), .val (.int i3), .val (.int i4), .val (.long j5), .second, .val (.int i7), .val (.int i8), .val (.long j9), .second, .val (.int i11), .val (.int i12), .val (.long j13), .second, .val (.long j15), .second, .val (.long j17), .second, .val (.long j19), .second, .val (.int i21), .val (.long j22), .second, .val (.int i24), .val (.int i25), .unset, .unset] [])) s₂ ∧ s₂.status = .running ∧ Ended s₂ below o ∧ ∃ v L, o = .returned v ∧ (v = some (.int (F0_259_0 j5 i7 j9 i11 j22 i24 i25)) ∧ Fr n0 L ∧ s₂.heap = h0) ∧ FrameEnd s o s₂ L room_1.cells room_1.slots := by
  have pre0 : ∀ t, Steps p.tables e below (T0.setTop (mkF m 259 #[.val (.int i0), .val (.int i1), .val (.int i2), .val (.int i3), .val (.int i4), .val (.long j5), .second, .val (.int i7), .val (.int i8), .val (.long j9), .second, .val (.int i11), .val (.int i12), .val (.long j13), .second, .val (.long j15), .second, .val (.long j17), .second, .val (.long j19), .second, .val (.int i21), .val (.long j22), .second, .val (.int i24), .val (.int i25), .unset, .unset] [])) t → Steps p.tables e below (T0.setTop (mkF m 259 #[.val (.int i0), .val (.int i1), .val (.int i2), .val (.int i3), .val (.int i4), .val (.long j5), .second, .val (.int i7), .val (.int i8), .val (.long j9), .second, .val (.int i11), .val (.int i12), .val (.long j13), .second, .val (.long j15), .second, .val (.long j17), .second, .val (.long j19), .second, .val (.int i21), .val (.long j22), .second, .val (.int i24), .val (.int i25), .unset, .unset] [])) t := fun _ k => k
  have pre253 : ∀ t, Steps p.tables e below (T0.setTop (mkF m 293 #[.val (.int i0), .val (.int i1), .val (.int i2), .val (.int i3), .val (.int i4), .val (.long j5), .second, .val (.int i7), .val (.int i8), .val (.long j9), .second, .val (.int i11), .val (.int i12), .val (.long j13), .second, .val (.long j15), .second, .val (.long j17), .second, .val (.long j19), .second, .val (.int i21), .val (.long j22), .second, .val (.int i24), .val (.int i25), .val (.long ((((360 : Int64) * (j9 - j5)) + ((30 : Int64) * ((i11 - i7).toInt64))) + ((i25 - i24).toInt64))), .second] [(.int (lcmpW j22 ((((360 : Int64) * (j9 - j5)) + ((30 : Int64) * ((i11 - i7).toInt64))) + ((i25 - i24).toInt64))))])) t → Steps p.tables e below (T0.setTop (mkF m 259 #[.val (.int i0), .val (.int i1), .val (.int i2), .val (.int i3), .val (.int i4), .val (.long j5), .second, .val (.int i7), .val (.int i8), .val (.long j9), .second, .val (.int i11), .val (.int i12), .val (.long j13), .second, .val (.long j15), .second, .val (.long j17), .second, .val (.long j19), .second, .val (.int i21), .val (.long j22), .second, .val (.int i24), .val (.int i25), .unset, .unset] [])) t := by
    intro t k
    refine pre0 _ ?_
    show Steps p.tables e below (T0.setTop (mkF m 259 #[.val (.int i0), .val (.int i1), .val (.int i2), .val (.int i3), .val (.int i4), .val (.long j5), .second, .val (.int i7), .val (.int i8), .val (.long j9), .second, .val (.int i11), .val (.int i12), .val (.long j13), .second, .val (.long j15), .second, .val (.long j17), .second, .val (.long j19), .second, .val (.int i21), .val (.long j22), .second, .val (.int i24), .val (.int i25), .unset, .unset] [])) _
    refine X0.ldc2Long hx hown (mvT hZ (hw _ (List.mem_of_getElem? (i := 73) rfl))) (g := (mkF m 259 #[.val (.int i0), .val (.int i1), .val (.int i2), .val (.int i3), .val (.int i4), .val (.long j5), .second, .val (.int i7), .val (.int i8), .val (.long j9), .second, .val (.int i11), .val (.int i12), .val (.long j13), .second, .val (.long j15), .second, .val (.long j17), .second, .val (.long j19), .second, .val (.int i21), .val (.long j22), .second, .val (.int i24), .val (.int i25), .unset, .unset] [])) rfl (hb hby at_259) _ ?_
    show Steps p.tables e below (T0.setTop (mkF m 262 #[.val (.int i0), .val (.int i1), .val (.int i2), .val (.int i3), .val (.int i4), .val (.long j5), .second, .val (.int i7), .val (.int i8), .val (.long j9), .second, .val (.int i11), .val (.int i12), .val (.long j13), .second, .val (.long j15), .second, .val (.long j17), .second, .val (.long j19), .second, .val (.int i21), .val (.long j22), .second, .val (.int i24), .val (.int i25), .unset, .unset] [(.long (360 : Int64))])) _
    refine XS.lload X0.here hx rfl (hb hby at_262) rfl ?_
    show Steps p.tables e below (T0.setTop (mkF m 264 #[.val (.int i0), .val (.int i1), .val (.int i2), .val (.int i3), .val (.int i4), .val (.long j5), .second, .val (.int i7), .val (.int i8), .val (.long j9), .second, .val (.int i11), .val (.int i12), .val (.long j13), .second, .val (.long j15), .second, .val (.long j17), .second, .val (.long j19), .second, .val (.int i21), .val (.long j22), .second, .val (.int i24), .val (.int i25), .unset, .unset] [(.long j9), (.long (360 : Int64))])) _
    refine XS.lload X0.here hx rfl (hb hby at_264) rfl ?_
    show Steps p.tables e below (T0.setTop (mkF m 266 #[.val (.int i0), .val (.int i1), .val (.int i2), .val (.int i3), .val (.int i4), .val (.long j5), .second, .val (.int i7), .val (.int i8), .val (.long j9), .second, .val (.int i11), .val (.int i12), .val (.long j13), .second, .val (.long j15), .second, .val (.long j17), .second, .val (.long j19), .second, .val (.int i21), .val (.long j22), .second, .val (.int i24), .val (.int i25), .unset, .unset] [(.long j5), (.long j9), (.long (360 : Int64))])) _
    refine XS.lsub X0.here hx rfl (hb hby at_266) rfl ?_
    show Steps p.tables e below (T0.setTop (mkF m 267 #[.val (.int i0), .val (.int i1), .val (.int i2), .val (.int i3), .val (.int i4), .val (.long j5), .second, .val (.int i7), .val (.int i8), .val (.long j9), .second, .val (.int i11), .val (.int i12), .val (.long j13), .second, .val (.long j15), .second, .val (.long j17), .second, .val (.long j19), .second, .val (.int i21), .val (.long j22), .second, .val (.int i24), .val (.int i25), .unset, .unset] [(.long (j9 - j5)), (.long (360 : Int64))])) _
    refine XS.lmul X0.here hx rfl (hb hby at_267) rfl ?_
    show Steps p.tables e below (T0.setTop (mkF m 268 #[.val (.int i0), .val (.int i1), .val (.int i2), .val (.int i3), .val (.int i4), .val (.long j5), .second, .val (.int i7), .val (.int i8), .val (.long j9), .second, .val (.int i11), .val (.int i12), .val (.long j13), .second, .val (.long j15), .second, .val (.long j17), .second, .val (.long j19), .second, .val (.int i21), .val (.long j22), .second, .val (.int i24), .val (.int i25), .unset, .unset] [(.long ((360 : Int64) * (j9 - j5)))])) _
    refine X0.ldc2Long hx hown (mvT hZ (hw _ (List.mem_of_getElem? (i := 74) rfl))) (g := (mkF m 268 #[.val (.int i0), .val (.int i1), .val (.int i2), .val (.int i3), .val (.int i4), .val (.long j5), .second, .val (.int i7), .val (.int i8), .val (.long j9), .second, .val (.int i11), .val (.int i12), .val (.long j13), .second, .val (.long j15), .second, .val (.long j17), .second, .val (.long j19), .second, .val (.int i21), .val (.long j22), .second, .val (.int i24), .val (.int i25), .unset, .unset] [(.long ((360 : Int64) * (j9 - j5)))])) rfl (hb hby at_268) _ ?_
    show Steps p.tables e below (T0.setTop (mkF m 271 #[.val (.int i0), .val (.int i1), .val (.int i2), .val (.int i3), .val (.int i4), .val (.long j5), .second, .val (.int i7), .val (.int i8), .val (.long j9), .second, .val (.int i11), .val (.int i12), .val (.long j13), .second, .val (.long j15), .second, .val (.long j17), .second, .val (.long j19), .second, .val (.int i21), .val (.long j22), .second, .val (.int i24), .val (.int i25), .unset, .unset] [(.long (30 : Int64)), (.long ((360 : Int64) * (j9 - j5)))])) _
    refine XS.iload X0.here hx rfl (hb hby at_271) rfl ?_
    show Steps p.tables e below (T0.setTop (mkF m 273 #[.val (.int i0), .val (.int i1), .val (.int i2), .val (.int i3), .val (.int i4), .val (.long j5), .second, .val (.int i7), .val (.int i8), .val (.long j9), .second, .val (.int i11), .val (.int i12), .val (.long j13), .second, .val (.long j15), .second, .val (.long j17), .second, .val (.long j19), .second, .val (.int i21), .val (.long j22), .second, .val (.int i24), .val (.int i25), .unset, .unset] [(.int i11), (.long (30 : Int64)), (.long ((360 : Int64) * (j9 - j5)))])) _
    refine XS.iload X0.here hx rfl (hb hby at_273) rfl ?_
    show Steps p.tables e below (T0.setTop (mkF m 275 #[.val (.int i0), .val (.int i1), .val (.int i2), .val (.int i3), .val (.int i4), .val (.long j5), .second, .val (.int i7), .val (.int i8), .val (.long j9), .second, .val (.int i11), .val (.int i12), .val (.long j13), .second, .val (.long j15), .second, .val (.long j17), .second, .val (.long j19), .second, .val (.int i21), .val (.long j22), .second, .val (.int i24), .val (.int i25), .unset, .unset] [(.int i7), (.int i11), (.long (30 : Int64)), (.long ((360 : Int64) * (j9 - j5)))])) _
    refine XS.isub X0.here hx rfl (hb hby at_275) rfl ?_
    show Steps p.tables e below (T0.setTop (mkF m 276 #[.val (.int i0), .val (.int i1), .val (.int i2), .val (.int i3), .val (.int i4), .val (.long j5), .second, .val (.int i7), .val (.int i8), .val (.long j9), .second, .val (.int i11), .val (.int i12), .val (.long j13), .second, .val (.long j15), .second, .val (.long j17), .second, .val (.long j19), .second, .val (.int i21), .val (.long j22), .second, .val (.int i24), .val (.int i25), .unset, .unset] [(.int (i11 - i7)), (.long (30 : Int64)), (.long ((360 : Int64) * (j9 - j5)))])) _
    refine XS.i2l X0.here hx rfl (hb hby at_276) rfl ?_
    show Steps p.tables e below (T0.setTop (mkF m 277 #[.val (.int i0), .val (.int i1), .val (.int i2), .val (.int i3), .val (.int i4), .val (.long j5), .second, .val (.int i7), .val (.int i8), .val (.long j9), .second, .val (.int i11), .val (.int i12), .val (.long j13), .second, .val (.long j15), .second, .val (.long j17), .second, .val (.long j19), .second, .val (.int i21), .val (.long j22), .second, .val (.int i24), .val (.int i25), .unset, .unset] [(.long ((i11 - i7).toInt64)), (.long (30 : Int64)), (.long ((360 : Int64) * (j9 - j5)))])) _
    refine XS.lmul X0.here hx rfl (hb hby at_277) rfl ?_
    show Steps p.tables e below (T0.setTop (mkF m 278 #[.val (.int i0), .val (.int i1), .val (.int i2), .val (.int i3), .val (.int i4), .val (.long j5), .second, .val (.int i7), .val (.int i8), .val (.long j9), .second, .val (.int i11), .val (.int i12), .val (.long j13), .second, .val (.long j15), .second, .val (.long j17), .second, .val (.long j19), .second, .val (.int i21), .val (.long j22), .second, .val (.int i24), .val (.int i25), .unset, .unset] [(.long ((30 : Int64) * ((i11 - i7).toInt64))), (.long ((360 : Int64) * (j9 - j5)))])) _
    refine XS.ladd X0.here hx rfl (hb hby at_278) rfl ?_
    show Steps p.tables e below (T0.setTop (mkF m 279 #[.val (.int i0), .val (.int i1), .val (.int i2), .val (.int i3), .val (.int i4), .val (.long j5), .second, .val (.int i7), .val (.int i8), .val (.long j9), .second, .val (.int i11), .val (.int i12), .val (.long j13), .second, .val (.long j15), .second, .val (.long j17), .second, .val (.long j19), .second, .val (.int i21), .val (.long j22), .second, .val (.int i24), .val (.int i25), .unset, .unset] [(.long (((360 : Int64) * (j9 - j5)) + ((30 : Int64) * ((i11 - i7).toInt64))))])) _
    refine XS.iload X0.here hx rfl (hb hby at_279) rfl ?_
    show Steps p.tables e below (T0.setTop (mkF m 281 #[.val (.int i0), .val (.int i1), .val (.int i2), .val (.int i3), .val (.int i4), .val (.long j5), .second, .val (.int i7), .val (.int i8), .val (.long j9), .second, .val (.int i11), .val (.int i12), .val (.long j13), .second, .val (.long j15), .second, .val (.long j17), .second, .val (.long j19), .second, .val (.int i21), .val (.long j22), .second, .val (.int i24), .val (.int i25), .unset, .unset] [(.int i25), (.long (((360 : Int64) * (j9 - j5)) + ((30 : Int64) * ((i11 - i7).toInt64))))])) _
    refine XS.iload X0.here hx rfl (hb hby at_281) rfl ?_
    show Steps p.tables e below (T0.setTop (mkF m 283 #[.val (.int i0), .val (.int i1), .val (.int i2), .val (.int i3), .val (.int i4), .val (.long j5), .second, .val (.int i7), .val (.int i8), .val (.long j9), .second, .val (.int i11), .val (.int i12), .val (.long j13), .second, .val (.long j15), .second, .val (.long j17), .second, .val (.long j19), .second, .val (.int i21), .val (.long j22), .second, .val (.int i24), .val (.int i25), .unset, .unset] [(.int i24), (.int i25), (.long (((360 : Int64) * (j9 - j5)) + ((30 : Int64) * ((i11 - i7).toInt64))))])) _
    refine XS.isub X0.here hx rfl (hb hby at_283) rfl ?_
    show Steps p.tables e below (T0.setTop (mkF m 284 #[.val (.int i0), .val (.int i1), .val (.int i2), .val (.int i3), .val (.int i4), .val (.long j5), .second, .val (.int i7), .val (.int i8), .val (.long j9), .second, .val (.int i11), .val (.int i12), .val (.long j13), .second, .val (.long j15), .second, .val (.long j17), .second, .val (.long j19), .second, .val (.int i21), .val (.long j22), .second, .val (.int i24), .val (.int i25), .unset, .unset] [(.int (i25 - i24)), (.long (((360 : Int64) * (j9 - j5)) + ((30 : Int64) * ((i11 - i7).toInt64))))])) _
    refine XS.i2l X0.here hx rfl (hb hby at_284) rfl ?_
    show Steps p.tables e below (T0.setTop (mkF m 285 #[.val (.int i0), .val (.int i1), .val (.int i2), .val (.int i3), .val (.int i4), .val (.long j5), .second, .val (.int i7), .val (.int i8), .val (.long j9), .second, .val (.int i11), .val (.int i12), .val (.long j13), .second, .val (.long j15), .second, .val (.long j17), .second, .val (.long j19), .second, .val (.int i21), .val (.long j22), .second, .val (.int i24), .val (.int i25), .unset, .unset] [(.long ((i25 - i24).toInt64)), (.long (((360 : Int64) * (j9 - j5)) + ((30 : Int64) * ((i11 - i7).toInt64))))])) _
    refine XS.ladd X0.here hx rfl (hb hby at_285) rfl ?_
    show Steps p.tables e below (T0.setTop (mkF m 286 #[.val (.int i0), .val (.int i1), .val (.int i2), .val (.int i3), .val (.int i4), .val (.long j5), .second, .val (.int i7), .val (.int i8), .val (.long j9), .second, .val (.int i11), .val (.int i12), .val (.long j13), .second, .val (.long j15), .second, .val (.long j17), .second, .val (.long j19), .second, .val (.int i21), .val (.long j22), .second, .val (.int i24), .val (.int i25), .unset, .unset] [(.long ((((360 : Int64) * (j9 - j5)) + ((30 : Int64) * ((i11 - i7).toInt64))) + ((i25 - i24).toInt64)))])) _
    refine XS.lstore X0.here hx rfl (hb hby at_286) rfl (l' := #[.val (.int i0), .val (.int i1), .val (.int i2), .val (.int i3), .val (.int i4), .val (.long j5), .second, .val (.int i7), .val (.int i8), .val (.long j9), .second, .val (.int i11), .val (.int i12), .val (.long j13), .second, .val (.long j15), .second, .val (.long j17), .second, .val (.long j19), .second, .val (.int i21), .val (.long j22), .second, .val (.int i24), .val (.int i25), .val (.long ((((360 : Int64) * (j9 - j5)) + ((30 : Int64) * ((i11 - i7).toInt64))) + ((i25 - i24).toInt64))), .second]) rfl ?_
    show Steps p.tables e below (T0.setTop (mkF m 288 #[.val (.int i0), .val (.int i1), .val (.int i2), .val (.int i3), .val (.int i4), .val (.long j5), .second, .val (.int i7), .val (.int i8), .val (.long j9), .second, .val (.int i11), .val (.int i12), .val (.long j13), .second, .val (.long j15), .second, .val (.long j17), .second, .val (.long j19), .second, .val (.int i21), .val (.long j22), .second, .val (.int i24), .val (.int i25), .val (.long ((((360 : Int64) * (j9 - j5)) + ((30 : Int64) * ((i11 - i7).toInt64))) + ((i25 - i24).toInt64))), .second] [])) _
    refine XS.lload X0.here hx rfl (hb hby at_288) rfl ?_
    show Steps p.tables e below (T0.setTop (mkF m 290 #[.val (.int i0), .val (.int i1), .val (.int i2), .val (.int i3), .val (.int i4), .val (.long j5), .second, .val (.int i7), .val (.int i8), .val (.long j9), .second, .val (.int i11), .val (.int i12), .val (.long j13), .second, .val (.long j15), .second, .val (.long j17), .second, .val (.long j19), .second, .val (.int i21), .val (.long j22), .second, .val (.int i24), .val (.int i25), .val (.long ((((360 : Int64) * (j9 - j5)) + ((30 : Int64) * ((i11 - i7).toInt64))) + ((i25 - i24).toInt64))), .second] [(.long j22)])) _
    refine XS.lload X0.here hx rfl (hb hby at_290) rfl ?_
    show Steps p.tables e below (T0.setTop (mkF m 292 #[.val (.int i0), .val (.int i1), .val (.int i2), .val (.int i3), .val (.int i4), .val (.long j5), .second, .val (.int i7), .val (.int i8), .val (.long j9), .second, .val (.int i11), .val (.int i12), .val (.long j13), .second, .val (.long j15), .second, .val (.long j17), .second, .val (.long j19), .second, .val (.int i21), .val (.long j22), .second, .val (.int i24), .val (.int i25), .val (.long ((((360 : Int64) * (j9 - j5)) + ((30 : Int64) * ((i11 - i7).toInt64))) + ((i25 - i24).toInt64))), .second] [(.long ((((360 : Int64) * (j9 - j5)) + ((30 : Int64) * ((i11 - i7).toInt64))) + ((i25 - i24).toInt64))), (.long j22)])) _
    refine XS.lcmp X0.here hx rfl (hb hby at_292) rfl ?_
    exact k
  by_cases hc254 : (lcmpW j22 ((((360 : Int64) * (j9 - j5)) + ((30 : Int64) * ((i11 - i7).toInt64))) + ((i25 - i24).toInt64))) = (0 : Int32)
  · have pre255 : ∀ t, Steps p.tables e below (T0.setTop (mkF m 296 #[.val (.int i0), .val (.int i1), .val (.int i2), .val (.int i3), .val (.int i4), .val (.long j5), .second, .val (.int i7), .val (.int i8), .val (.long j9), .second, .val (.int i11), .val (.int i12), .val (.long j13), .second, .val (.long j15), .second, .val (.long j17), .second, .val (.long j19), .second, .val (.int i21), .val (.long j22), .second, .val (.int i24), .val (.int i25), .val (.long ((((360 : Int64) * (j9 - j5)) + ((30 : Int64) * ((i11 - i7).toInt64))) + ((i25 - i24).toInt64))), .second] [])) t → Steps p.tables e below (T0.setTop (mkF m 259 #[.val (.int i0), .val (.int i1), .val (.int i2), .val (.int i3), .val (.int i4), .val (.long j5), .second, .val (.int i7), .val (.int i8), .val (.long j9), .second, .val (.int i11), .val (.int i12), .val (.long j13), .second, .val (.long j15), .second, .val (.long j17), .second, .val (.long j19), .second, .val (.int i21), .val (.long j22), .second, .val (.int i24), .val (.int i25), .unset, .unset] [])) t := by
      intro t k
      refine pre253 _ ?_
      show Steps p.tables e below (T0.setTop (mkF m 293 #[.val (.int i0), .val (.int i1), .val (.int i2), .val (.int i3), .val (.int i4), .val (.long j5), .second, .val (.int i7), .val (.int i8), .val (.long j9), .second, .val (.int i11), .val (.int i12), .val (.long j13), .second, .val (.long j15), .second, .val (.long j17), .second, .val (.long j19), .second, .val (.int i21), .val (.long j22), .second, .val (.int i24), .val (.int i25), .val (.long ((((360 : Int64) * (j9 - j5)) + ((30 : Int64) * ((i11 - i7).toInt64))) + ((i25 - i24).toInt64))), .second] [(.int (lcmpW j22 ((((360 : Int64) * (j9 - j5)) + ((30 : Int64) * ((i11 - i7).toInt64))) + ((i25 - i24).toInt64))))])) _
      refine XS.ifNo X0.here hx rfl (hb hby at_293) rfl ((if0 _ _).trans (teq hc254).2) ?_
      exact k
    have pre256 : ∀ t, Steps p.tables e below (T0.setTop (mkF m 301 #[.val (.int i0), .val (.int i1), .val (.int i2), .val (.int i3), .val (.int i4), .val (.long j5), .second, .val (.int i7), .val (.int i8), .val (.long j9), .second, .val (.int i11), .val (.int i12), .val (.long j13), .second, .val (.long j15), .second, .val (.long j17), .second, .val (.long j19), .second, .val (.int i21), .val (.long j22), .second, .val (.int i24), .val (.int i25), .val (.long ((((360 : Int64) * (j9 - j5)) + ((30 : Int64) * ((i11 - i7).toInt64))) + ((i25 - i24).toInt64))), .second] [(.int (1 : Int32))])) t → Steps p.tables e below (T0.setTop (mkF m 259 #[.val (.int i0), .val (.int i1), .val (.int i2), .val (.int i3), .val (.int i4), .val (.long j5), .second, .val (.int i7), .val (.int i8), .val (.long j9), .second, .val (.int i11), .val (.int i12), .val (.long j13), .second, .val (.long j15), .second, .val (.long j17), .second, .val (.long j19), .second, .val (.int i21), .val (.long j22), .second, .val (.int i24), .val (.int i25), .unset, .unset] [])) t := by
      intro t k
      refine pre255 _ ?_
      show Steps p.tables e below (T0.setTop (mkF m 296 #[.val (.int i0), .val (.int i1), .val (.int i2), .val (.int i3), .val (.int i4), .val (.long j5), .second, .val (.int i7), .val (.int i8), .val (.long j9), .second, .val (.int i11), .val (.int i12), .val (.long j13), .second, .val (.long j15), .second, .val (.long j17), .second, .val (.long j19), .second, .val (.int i21), .val (.long j22), .second, .val (.int i24), .val (.int i25), .val (.long ((((360 : Int64) * (j9 - j5)) + ((30 : Int64) * ((i11 - i7).toInt64))) + ((i25 - i24).toInt64))), .second] [])) _
      refine XS.iconst X0.here hx rfl (hb hby at_296) ?_
      show Steps p.tables e below (T0.setTop (mkF m 297 #[.val (.int i0), .val (.int i1), .val (.int i2), .val (.int i3), .val (.int i4), .val (.long j5), .second, .val (.int i7), .val (.int i8), .val (.long j9), .second, .val (.int i11), .val (.int i12), .val (.long j13), .second, .val (.long j15), .second, .val (.long j17), .second, .val (.long j19), .second, .val (.int i21), .val (.long j22), .second, .val (.int i24), .val (.int i25), .val (.long ((((360 : Int64) * (j9 - j5)) + ((30 : Int64) * ((i11 - i7).toInt64))) + ((i25 - i24).toInt64))), .second] [(.int (1 : Int32))])) _
      refine XS.goto X0.here hx rfl (pc0 := 297) (pc' := 301) rfl (hb hby at_297) (by decide) (by decide) ?_
      exact k
    obtain ⟨fs, hr, hrun, hended, hW, hsame⟩ := X0.leave (v := some (.int (1 : Int32))) (fun h => by rw [hret] at h; cases h) (hlocks := hlocks)
    refine ⟨_, _, pre256 _ ?_, hrun, hended, _, _, rfl, ?_, ⟨_, rfl⟩, hW, hsame.mono (by decide) (by decide)⟩
    · show Steps p.tables e below (T0.setTop (mkF m 301 #[.val (.int i0), .val (.int i1), .val (.int i2), .val (.int i3), .val (.int i4), .val (.long j5), .second, .val (.int i7), .val (.int i8), .val (.long j9), .second, .val (.int i11), .val (.int i12), .val (.long j13), .second, .val (.long j15), .second, .val (.long j17), .second, .val (.long j19), .second, .val (.int i21), .val (.long j22), .second, .val (.int i24), .val (.int i25), .val (.long ((((360 : Int64) * (j9 - j5)) + ((30 : Int64) * ((i11 - i7).toInt64))) + ((i25 - i24).toInt64))), .second] [(.int (1 : Int32))])) _
      exact retN X0 hx (t := .boolean) hret (by simp) (hb hby at_301) hr
    · exact ⟨(by rw [F0_259_0, if_pos hc254]), N0, e0⟩
  · have pre257 : ∀ t, Steps p.tables e below (T0.setTop (mkF m 300 #[.val (.int i0), .val (.int i1), .val (.int i2), .val (.int i3), .val (.int i4), .val (.long j5), .second, .val (.int i7), .val (.int i8), .val (.long j9), .second, .val (.int i11), .val (.int i12), .val (.long j13), .second, .val (.long j15), .second, .val (.long j17), .second, .val (.long j19), .second, .val (.int i21), .val (.long j22), .second, .val (.int i24), .val (.int i25), .val (.long ((((360 : Int64) * (j9 - j5)) + ((30 : Int64) * ((i11 - i7).toInt64))) + ((i25 - i24).toInt64))), .second] [])) t → Steps p.tables e below (T0.setTop (mkF m 259 #[.val (.int i0), .val (.int i1), .val (.int i2), .val (.int i3), .val (.int i4), .val (.long j5), .second, .val (.int i7), .val (.int i8), .val (.long j9), .second, .val (.int i11), .val (.int i12), .val (.long j13), .second, .val (.long j15), .second, .val (.long j17), .second, .val (.long j19), .second, .val (.int i21), .val (.long j22), .second, .val (.int i24), .val (.int i25), .unset, .unset] [])) t := by
      intro t k
      refine pre253 _ ?_
      show Steps p.tables e below (T0.setTop (mkF m 293 #[.val (.int i0), .val (.int i1), .val (.int i2), .val (.int i3), .val (.int i4), .val (.long j5), .second, .val (.int i7), .val (.int i8), .val (.long j9), .second, .val (.int i11), .val (.int i12), .val (.long j13), .second, .val (.long j15), .second, .val (.long j17), .second, .val (.long j19), .second, .val (.int i21), .val (.long j22), .second, .val (.int i24), .val (.int i25), .val (.long ((((360 : Int64) * (j9 - j5)) + ((30 : Int64) * ((i11 - i7).toInt64))) + ((i25 - i24).toInt64))), .second] [(.int (lcmpW j22 ((((360 : Int64) * (j9 - j5)) + ((30 : Int64) * ((i11 - i7).toInt64))) + ((i25 - i24).toInt64))))])) _
      refine XS.ifYes X0.here hx rfl (pc0 := 293) (pc' := 300) rfl (hb hby at_293) rfl ((if0 _ _).trans (feq hc254).2) (by decide) (by decide) ?_
      exact k
    have pre258 : ∀ t, Steps p.tables e below (T0.setTop (mkF m 301 #[.val (.int i0), .val (.int i1), .val (.int i2), .val (.int i3), .val (.int i4), .val (.long j5), .second, .val (.int i7), .val (.int i8), .val (.long j9), .second, .val (.int i11), .val (.int i12), .val (.long j13), .second, .val (.long j15), .second, .val (.long j17), .second, .val (.long j19), .second, .val (.int i21), .val (.long j22), .second, .val (.int i24), .val (.int i25), .val (.long ((((360 : Int64) * (j9 - j5)) + ((30 : Int64) * ((i11 - i7).toInt64))) + ((i25 - i24).toInt64))), .second] [(.int (0 : Int32))])) t → Steps p.tables e below (T0.setTop (mkF m 259 #[.val (.int i0), .val (.int i1), .val (.int i2), .val (.int i3), .val (.int i4), .val (.long j5), .second, .val (.int i7), .val (.int i8), .val (.long j9), .second, .val (.int i11), .val (.int i12), .val (.long j13), .second, .val (.long j15), .second, .val (.long j17), .second, .val (.long j19), .second, .val (.int i21), .val (.long j22), .second, .val (.int i24), .val (.int i25), .unset, .unset] [])) t := by
      intro t k
      refine pre257 _ ?_
      show Steps p.tables e below (T0.setTop (mkF m 300 #[.val (.int i0), .val (.int i1), .val (.int i2), .val (.int i3), .val (.int i4), .val (.long j5), .second, .val (.int i7), .val (.int i8), .val (.long j9), .second, .val (.int i11), .val (.int i12), .val (.long j13), .second, .val (.long j15), .second, .val (.long j17), .second, .val (.long j19), .second, .val (.int i21), .val (.long j22), .second, .val (.int i24), .val (.int i25), .val (.long ((((360 : Int64) * (j9 - j5)) + ((30 : Int64) * ((i11 - i7).toInt64))) + ((i25 - i24).toInt64))), .second] [])) _
      refine XS.iconst X0.here hx rfl (hb hby at_300) ?_
      exact k
    obtain ⟨fs, hr, hrun, hended, hW, hsame⟩ := X0.leave (v := some (.int (0 : Int32))) (fun h => by rw [hret] at h; cases h) (hlocks := hlocks)
    refine ⟨_, _, pre258 _ ?_, hrun, hended, _, _, rfl, ?_, ⟨_, rfl⟩, hW, hsame.mono (by decide) (by decide)⟩
    · show Steps p.tables e below (T0.setTop (mkF m 301 #[.val (.int i0), .val (.int i1), .val (.int i2), .val (.int i3), .val (.int i4), .val (.long j5), .second, .val (.int i7), .val (.int i8), .val (.long j9), .second, .val (.int i11), .val (.int i12), .val (.long j13), .second, .val (.long j15), .second, .val (.long j17), .second, .val (.long j19), .second, .val (.int i21), .val (.long j22), .second, .val (.int i24), .val (.int i25), .val (.long ((((360 : Int64) * (j9 - j5)) + ((30 : Int64) * ((i11 - i7).toInt64))) + ((i25 - i24).toInt64))), .second] [(.int (0 : Int32))])) _
      exact retN X0 hx (t := .boolean) hret (by simp) (hb hby at_301) hr
    · exact ⟨(by rw [F0_259_0, if_neg hc254]), N0, e0⟩
def F0_229_0 (j5 : Int64) (i7 : Int32) (i8 : Int32) (j9 : Int64) (i11 : Int32) (i12 : Int32) (j22 : Int64) (i24 : Int32) : Int32 :=
  if i12 = (31 : Int32) then (  if i8 = (30 : Int32) then (  (F0_259_0 j5 i7 j9 i11 j22 i24 (30 : Int32)))
  else (  if i8 = (31 : Int32) then (  (F0_259_0 j5 i7 j9 i11 j22 i24 (30 : Int32)))
  else (  (F0_259_0 j5 i7 j9 i11 j22 i24 i12))))
  else (  (F0_259_0 j5 i7 j9 i11 j22 i24 i12))
set_option maxRecDepth 65536 in
set_option maxHeartbeats 40000000 in
theorem pc0_229_0 {p : Program} {l : Launch} {e : Env} {s : State} {m : MethodId} {args : Array Value} {below : List Frame} {meth : Method} {c : Code} {T0 : State} {locs : List Loc} {Z : State} {a0 : Array Value} {h0 : Heap} {n0 : Nat} (i0 : Int32) (i1 : Int32) (i2 : Int32) (i3 : Int32) (i4 : Int32) (j5 : Int64) (i7 : Int32) (i8 : Int32) (j9 : Int64) (i11 : Int32) (i12 : Int32) (j13 : Int64) (j15 : Int64) (j17 : Int64) (j19 : Int64) (i21 : Int32) (j22 : Int64) (i24 : Int32) (cl_wS : Cell) (cl_wD : Cell) (wT : Addr) (wA : Addr) (wS : Addr) (wI : Addr) (wD : Addr)
    (X0 : Stand p l e room_1 s m args below meth c T0 locs 0 0) (hx : p.tables.exec = Jvm.exec) (hZ : Z.Warmed39 s.vm) (hw : ∀ d ∈ tables_1, d.before a0 Z = true) (hby : c.code = code) (hml : c.maxLocals = 28) (hown : s.vm.findClass "com/example/notesmith/notesmith/calc/AccrualDaysPinLaw" = some m.cls) (hret : meth.sig.returnType = (some .boolean)) (hlocks : meth.locks = false) (e0 : T0.heap = h0) (N0 : Fr n0 locs) (Z0 : n0 ≤ h0.size) (E_wT : Exa Z h0 wT "com/example/notesmith/notesmith/note/DayCount") (E_wA : Exa Z h0 wA "com/example/notesmith/notesmith/note/DayCount") (Ford_T : Fld Z h0 wT "java/lang/Enum" "ordinal" "I" (.int (0 : Int32))) (Ford_A : Fld Z h0 wA "java/lang/Enum" "ordinal" "I" (.int (1 : Int32))) (Ar_wS : Arr Z h0 wS cl_wS .int) (el_0 : ¬ ((0 : Int32) < 0 ∨ cl_wS.slots.size ≤ (0 : Int32).toNatClampNeg) ∧ cl_wS.slots[(0 : Int32).toNatClampNeg]? = some (.int (1 : Int32))) (el_1 : ¬ ((1 : Int32) < 0 ∨ cl_wS.slots.size ≤ (1 : Int32).toNatClampNeg) ∧ cl_wS.slots[(1 : Int32).toNatClampNeg]? = some (.int (2 : Int32))) (E_wI : Exa Z h0 wI "java/time/chrono/IsoChronology") (Ar_wD : Arr Z h0 wD cl_wD .int) (hD : ∀ j : Int32, (0 ≤ j.toInt ∧ j.toInt < 12) → ¬ (j < 0 ∨ cl_wD.slots.size ≤ j.toNatClampNeg) ∧ cl_wD.slots[j.toNatClampNeg]? = some (.int (own_dbm j))) (S_wT : Sta Z h0 "com/example/notesmith/notesmith/note/DayCount" "THIRTY_360" "Lcom/example/notesmith/notesmith/note/DayCount;" (.ref wT)) (S_wA : Sta Z h0 "com/example/notesmith/notesmith/note/DayCount" "ACTUAL_365" "Lcom/example/notesmith/notesmith/note/DayCount;" (.ref wA)) (S_wS : Sta Z h0 "com/example/notesmith/notesmith/calc/Accrual$1" "$SwitchMap$com$example$notesmith$notesmith$note$DayCount" "[I" (.ref wS)) (S_wI : Sta Z h0 "java/time/chrono/IsoChronology" "INSTANCE" "Ljava/time/chrono/IsoChronology;" (.ref wI)) (S_wD : Sta Z h0 "com/example/notesmith/notesmith/calc/Accrual" "DAYS_BEFORE_MONTH" "[I" (.ref wD)) :
    ∃ s₂ o, Steps p.tables e below (T0.setTop (mkF m 229 #[.val (.int i0), .val (.int i1), .val (.int i2), .val (.int i3), .val (.int i4), .val (.long j5), .second, .val (.int i7), .val (.int i8), .val (.long j9), .second, .val (.int i11), .val (.int i12), .val (.long j13), .second, .val (.long j15), .second, .val (.long j17), .second, .val (.long j19), .second, .val (.int i21), .val (.long j22), .second, .val (.int i24), .unset, .unset, .unset] [])) s₂ ∧ s₂.status = .running ∧ Ended s₂ below o ∧ ∃ v L, o = .returned v ∧ (v = some (.int (F0_229_0 j5 i7 i8 j9 i11 i12 j22 i24)) ∧ Fr n0 L ∧ s₂.heap = h0) ∧ FrameEnd s o s₂ L room_1.cells room_1.slots := by
  have pre0 : ∀ t, Steps p.tables e below (T0.setTop (mkF m 229 #[.val (.int i0), .val (.int i1), .val (.int i2), .val (.int i3), .val (.int i4), .val (.long j5), .second, .val (.int i7), .val (.int i8), .val (.long j9), .second, .val (.int i11), .val (.int i12), .val (.long j13), .second, .val (.long j15), .second, .val (.long j17), .second, .val (.long j19), .second, .val (.int i21), .val (.long j22), .second, .val (.int i24), .unset, .unset, .unset] [])) t → Steps p.tables e below (T0.setTop (mkF m 229 #[.val (.int i0), .val (.int i1), .val (.int i2), .val (.int i3), .val (.int i4), .val (.long j5), .second, .val (.int i7), .val (.int i8), .val (.long j9), .second, .val (.int i11), .val (.int i12), .val (.long j13), .second, .val (.long j15), .second, .val (.long j17), .second, .val (.long j19), .second, .val (.int i21), .val (.long j22), .second, .val (.int i24), .unset, .unset, .unset] [])) t := fun _ k => k
  have pre246 : ∀ t, Steps p.tables e below (T0.setTop (mkF m 233 #[.val (.int i0), .val (.int i1), .val (.int i2), .val (.int i3), .val (.int i4), .val (.long j5), .second, .val (.int i7), .val (.int i8), .val (.long j9), .second, .val (.int i11), .val (.int i12), .val (.long j13), .second, .val (.long j15), .second, .val (.long j17), .second, .val (.long j19), .second, .val (.int i21), .val (.long j22), .second, .val (.int i24), .unset, .unset, .unset] [(.int (31 : Int32)), (.int i12)])) t → Steps p.tables e below (T0.setTop (mkF m 229 #[.val (.int i0), .val (.int i1), .val (.int i2), .val (.int i3), .val (.int i4), .val (.long j5), .second, .val (.int i7), .val (.int i8), .val (.long j9), .second, .val (.int i11), .val (.int i12), .val (.long j13), .second, .val (.long j15), .second, .val (.long j17), .second, .val (.long j19), .second, .val (.int i21), .val (.long j22), .second, .val (.int i24), .unset, .unset, .unset] [])) t := by
    intro t k
    refine pre0 _ ?_
    show Steps p.tables e below (T0.setTop (mkF m 229 #[.val (.int i0), .val (.int i1), .val (.int i2), .val (.int i3), .val (.int i4), .val (.long j5), .second, .val (.int i7), .val (.int i8), .val (.long j9), .second, .val (.int i11), .val (.int i12), .val (.long j13), .second, .val (.long j15), .second, .val (.long j17), .second, .val (.long j19), .second, .val (.int i21), .val (.long j22), .second, .val (.int i24), .unset, .unset, .unset] [])) _
    refine XS.iload X0.here hx rfl (hb hby at_229) rfl ?_
    show Steps p.tables e below (T0.setTop (mkF m 231 #[.val (.int i0), .val (.int i1), .val (.int i2), .val (.int i3), .val (.int i4), .val (.long j5), .second, .val (.int i7), .val (.int i8), .val (.long j9), .second, .val (.int i11), .val (.int i12), .val (.long j13), .second, .val (.long j15), .second, .val (.long j17), .second, .val (.long j19), .second, .val (.int i21), .val (.long j22), .second, .val (.int i24), .unset, .unset, .unset] [(.int i12)])) _
    refine XS.bipush X0.here hx rfl (hb hby at_231) ?_
    exact k
  by_cases hc247 : i12 = (31 : Int32)
  · have pre248 : ∀ t, Steps p.tables e below (T0.setTop (mkF m 236 #[.val (.int i0), .val (.int i1), .val (.int i2), .val (.int i3), .val (.int i4), .val (.long j5), .second, .val (.int i7), .val (.int i8), .val (.long j9), .second, .val (.int i11), .val (.int i12), .val (.long j13), .second, .val (.long j15), .second, .val (.long j17), .second, .val (.long j19), .second, .val (.int i21), .val (.long j22), .second, .val (.int i24), .unset, .unset, .unset] [])) t → Steps p.tables e below (T0.setTop (mkF m 229 #[.val (.int i0), .val (.int i1), .val (.int i2), .val (.int i3), .val (.int i4), .val (.long j5), .second, .val (.int i7), .val (.int i8), .val (.long j9), .second, .val (.int i11), .val (.int i12), .val (.long j13), .second, .val (.long j15), .second, .val (.long j17), .second, .val (.long j19), .second, .val (.int i21), .val (.long j22), .second, .val (.int i24), .unset, .unset, .unset] [])) t := by
      intro t k
      refine pre246 _ ?_
      show Steps p.tables e below (T0.setTop (mkF m 233 #[.val (.int i0), .val (.int i1), .val (.int i2), .val (.int i3), .val (.int i4), .val (.long j5), .second, .val (.int i7), .val (.int i8), .val (.long j9), .second, .val (.int i11), .val (.int i12), .val (.long j13), .second, .val (.long j15), .second, .val (.long j17), .second, .val (.long j19), .second, .val (.int i21), .val (.long j22), .second, .val (.int i24), .unset, .unset, .unset] [(.int (31 : Int32)), (.int i12)])) _
      refine XS.icmpNo X0.here hx rfl (hb hby at_233) rfl (teq hc247).2 ?_
      exact k
    have pre249 : ∀ t, Steps p.tables e below (T0.setTop (mkF m 240 #[.val (.int i0), .val (.int i1), .val (.int i2), .val (.int i3), .val (.int i4), .val (.long j5), .second, .val (.int i7), .val (.int i8), .val (.long j9), .second, .val (.int i11), .val (.int i12), .val (.long j13), .second, .val (.long j15), .second, .val (.long j17), .second, .val (.long j19), .second, .val (.int i21), .val (.long j22), .second, .val (.int i24), .unset, .unset, .unset] [(.int (30 : Int32)), (.int i8)])) t → Steps p.tables e below (T0.setTop (mkF m 229 #[.val (.int i0), .val (.int i1), .val (.int i2), .val (.int i3), .val (.int i4), .val (.long j5), .second, .val (.int i7), .val (.int i8), .val (.long j9), .second, .val (.int i11), .val (.int i12), .val (.long j13), .second, .val (.long j15), .second, .val (.long j17), .second, .val (.long j19), .second, .val (.int i21), .val (.long j22), .second, .val (.int i24), .unset, .unset, .unset] [])) t := by
      intro t k
      refine pre248 _ ?_
      show Steps p.tables e below (T0.setTop (mkF m 236 #[.val (.int i0), .val (.int i1), .val (.int i2), .val (.int i3), .val (.int i4), .val (.long j5), .second, .val (.int i7), .val (.int i8), .val (.long j9), .second, .val (.int i11), .val (.int i12), .val (.long j13), .second, .val (.long j15), .second, .val (.long j17), .second, .val (.long j19), .second, .val (.int i21), .val (.long j22), .second, .val (.int i24), .unset, .unset, .unset] [])) _
      refine XS.iload X0.here hx rfl (hb hby at_236) rfl ?_
      show Steps p.tables e below (T0.setTop (mkF m 238 #[.val (.int i0), .val (.int i1), .val (.int i2), .val (.int i3), .val (.int i4), .val (.long j5), .second, .val (.int i7), .val (.int i8), .val (.long j9), .second, .val (.int i11), .val (.int i12), .val (.long j13), .second, .val (.long j15), .second, .val (.long j17), .second, .val (.long j19), .second, .val (.int i21), .val (.long j22), .second, .val (.int i24), .unset, .unset, .unset] [(.int i8)])) _
      refine XS.bipush X0.here hx rfl (hb hby at_238) ?_
      exact k
    by_cases hc250 : i8 = (30 : Int32)
    · have pre251 : ∀ t, Steps p.tables e below (T0.setTop (mkF m 250 #[.val (.int i0), .val (.int i1), .val (.int i2), .val (.int i3), .val (.int i4), .val (.long j5), .second, .val (.int i7), .val (.int i8), .val (.long j9), .second, .val (.int i11), .val (.int i12), .val (.long j13), .second, .val (.long j15), .second, .val (.long j17), .second, .val (.long j19), .second, .val (.int i21), .val (.long j22), .second, .val (.int i24), .unset, .unset, .unset] [])) t → Steps p.tables e below (T0.setTop (mkF m 229 #[.val (.int i0), .val (.int i1), .val (.int i2), .val (.int i3), .val (.int i4), .val (.long j5), .second, .val (.int i7), .val (.int i8), .val (.long j9), .second, .val (.int i11), .val (.int i12), .val (.long j13), .second, .val (.long j15), .second, .val (.long j17), .second, .val (.long j19), .second, .val (.int i21), .val (.long j22), .second, .val (.int i24), .unset, .unset, .unset] [])) t := by
        intro t k
        refine pre249 _ ?_
        show Steps p.tables e below (T0.setTop (mkF m 240 #[.val (.int i0), .val (.int i1), .val (.int i2), .val (.int i3), .val (.int i4), .val (.long j5), .second, .val (.int i7), .val (.int i8), .val (.long j9), .second, .val (.int i11), .val (.int i12), .val (.long j13), .second, .val (.long j15), .second, .val (.long j17), .second, .val (.long j19), .second, .val (.int i21), .val (.long j22), .second, .val (.int i24), .unset, .unset, .unset] [(.int (30 : Int32)), (.int i8)])) _
        refine XS.icmpYes X0.here hx rfl (pc0 := 240) (pc' := 250) rfl (hb hby at_240) rfl (teq hc250).1 (by decide) (by decide) ?_
        exact k
      have pre252 : ∀ t, Steps p.tables e below (T0.setTop (mkF m 259 #[.val (.int i0), .val (.int i1), .val (.int i2), .val (.int i3), .val (.int i4), .val (.long j5), .second, .val (.int i7), .val (.int i8), .val (.long j9), .second, .val (.int i11), .val (.int i12), .val (.long j13), .second, .val (.long j15), .second, .val (.long j17), .second, .val (.long j19), .second, .val (.int i21), .val (.long j22), .second, .val (.int i24), .val (.int (30 : Int32)), .unset, .unset] [])) t → Steps p.tables e below (T0.setTop (mkF m 229 #[.val (.int i0), .val (.int i1), .val (.int i2), .val (.int i3), .val (.int i4), .val (.long j5), .second, .val (.int i7), .val (.int i8), .val (.long j9), .second, .val (.int i11), .val (.int i12), .val (.long j13), .second, .val (.long j15), .second, .val (.long j17), .second, .val (.long j19), .second, .val (.int i21), .val (.long j22), .second, .val (.int i24), .unset, .unset, .unset] [])) t := by
        intro t k
        refine pre251 _ ?_
        show Steps p.tables e below (T0.setTop (mkF m 250 #[.val (.int i0), .val (.int i1), .val (.int i2), .val (.int i3), .val (.int i4), .val (.long j5), .second, .val (.int i7), .val (.int i8), .val (.long j9), .second, .val (.int i11), .val (.int i12), .val (.long j13), .second, .val (.long j15), .second, .val (.long j17), .second, .val (.long j19), .second, .val (.int i21), .val (.long j22), .second, .val (.int i24), .unset, .unset, .unset] [])) _
        refine XS.bipush X0.here hx rfl (hb hby at_250) ?_
        show Steps p.tables e below (T0.setTop (mkF m 252 #[.val (.int i0), .val (.int i1), .val (.int i2), .val (.int i3), .val (.int i4), .val (.long j5), .second, .val (.int i7), .val (.int i8), .val (.long j9), .second, .val (.int i11), .val (.int i12), .val (.long j13), .second, .val (.long j15), .second, .val (.long j17), .second, .val (.long j19), .second, .val (.int i21), .val (.long j22), .second, .val (.int i24), .unset, .unset, .unset] [(.int (30 : Int32))])) _
        refine XS.goto X0.here hx rfl (pc0 := 252) (pc' := 257) rfl (hb hby at_252) (by decide) (by decide) ?_
        show Steps p.tables e below (T0.setTop (mkF m 257 #[.val (.int i0), .val (.int i1), .val (.int i2), .val (.int i3), .val (.int i4), .val (.long j5), .second, .val (.int i7), .val (.int i8), .val (.long j9), .second, .val (.int i11), .val (.int i12), .val (.long j13), .second, .val (.long j15), .second, .val (.long j17), .second, .val (.long j19), .second, .val (.int i21), .val (.long j22), .second, .val (.int i24), .unset, .unset, .unset] [(.int (30 : Int32))])) _
        refine XS.istore X0.here hx rfl (hb hby at_257) rfl (l' := #[.val (.int i0), .val (.int i1), .val (.int i2), .val (.int i3), .val (.int i4), .val (.long j5), .second, .val (.int i7), .val (.int i8), .val (.long j9), .second, .val (.int i11), .val (.int i12), .val (.long j13), .second, .val (.long j15), .second, .val (.long j17), .second, .val (.long j19), .second, .val (.int i21), .val (.long j22), .second, .val (.int i24), .val (.int (30 : Int32)), .unset, .unset]) rfl ?_
        exact k
      obtain ⟨s₂, o, st259, g1, g2, v, L, ho, ⟨hv, hN, hh259⟩, hfe⟩ := pc0_259_0 i0 i1 i2 i3 i4 j5 i7 i8 j9 i11 i12 j13 j15 j17 j19 i21 j22 i24 (30 : Int32) cl_wS cl_wD wT wA wS wI wD X0 hx hZ hw hby hml hown hret hlocks e0 N0 Z0 E_wT E_wA Ford_T Ford_A Ar_wS el_0 el_1 E_wI Ar_wD hD S_wT S_wA S_wS S_wI S_wD
      exact ⟨s₂, o, pre252 _ st259, g1, g2, v, L, ho, ⟨(by rw [F0_229_0, if_pos hc247, if_pos hc250]; exact hv), hN, hh259⟩, hfe⟩
    · have pre260 : ∀ t, Steps p.tables e below (T0.setTop (mkF m 243 #[.val (.int i0), .val (.int i1), .val (.int i2), .val (.int i3), .val (.int i4), .val (.long j5), .second, .val (.int i7), .val (.int i8), .val (.long j9), .second, .val (.int i11), .val (.int i12), .val (.long j13), .second, .val (.long j15), .second, .val (.long j17), .second, .val (.long j19), .second, .val (.int i21), .val (.long j22), .second, .val (.int i24), .unset, .unset, .unset] [])) t → Steps p.tables e below (T0.setTop (mkF m 229 #[.val (.int i0), .val (.int i1), .val (.int i2), .val (.int i3), .val (.int i4), .val (.long j5), .second, .val (.int i7), .val (.int i8), .val (.long j9), .second, .val (.int i11), .val (.int i12), .val (.long j13), .second, .val (.long j15), .second, .val (.long j17), .second, .val (.long j19), .second, .val (.int i21), .val (.long j22), .second, .val (.int i24), .unset, .unset, .unset] [])) t := by
        intro t k
        refine pre249 _ ?_
        show Steps p.tables e below (T0.setTop (mkF m 240 #[.val (.int i0), .val (.int i1), .val (.int i2), .val (.int i3), .val (.int i4), .val (.long j5), .second, .val (.int i7), .val (.int i8), .val (.long j9), .second, .val (.int i11), .val (.int i12), .val (.long j13), .second, .val (.long j15), .second, .val (.long j17), .second, .val (.long j19), .second, .val (.int i21), .val (.long j22), .second, .val (.int i24), .unset, .unset, .unset] [(.int (30 : Int32)), (.int i8)])) _
        refine XS.icmpNo X0.here hx rfl (hb hby at_240) rfl (feq hc250).1 ?_
        exact k
      have pre261 : ∀ t, Steps p.tables e below (T0.setTop (mkF m 247 #[.val (.int i0), .val (.int i1), .val (.int i2), .val (.int i3), .val (.int i4), .val (.long j5), .second, .val (.int i7), .val (.int i8), .val (.long j9), .second, .val (.int i11), .val (.int i12), .val (.long j13), .second, .val (.long j15), .second, .val (.long j17), .second, .val (.long j19), .second, .val (.int i21), .val (.long j22), .second, .val (.int i24), .unset, .unset, .unset] [(.int (31 : Int32)), (.int i8)])) t → Steps p.tables e below (T0.setTop (mkF m 229 #[.val (.int i0), .val (.int i1), .val (.int i2), .val (.int i3), .val (.int i4), .val (.long j5), .second, .val (.int i7), .val (.int i8), .val (.long j9), .second, .val (.int i11), .val (.int i12), .val (.long j13), .second, .val (.long j15), .second, .val (.long j17), .second, .val (.long j19), .second, .val (.int i21), .val (.long j22), .second, .val (.int i24), .unset, .unset, .unset] [])) t := by
        intro t k
        refine pre260 _ ?_
        show Steps p.tables e below (T0.setTop (mkF m 243 #[.val (.int i0), .val (.int i1), .val (.int i2), .val (.int i3), .val (.int i4), .val (.long j5), .second, .val (.int i7), .val (.int i8), .val (.long j9), .second, .val (.int i11), .val (.int i12), .val (.long j13), .second, .val (.long j15), .second, .val (.long j17), .second, .val (.long j19), .second, .val (.int i21), .val (.long j22), .second, .val (.int i24), .unset, .unset, .unset] [])) _
        refine XS.iload X0.here hx rfl (hb hby at_243) rfl ?_
        show Steps p.tables e below (T0.setTop (mkF m 245 #[.val (.int i0), .val (.int i1), .val (.int i2), .val (.int i3), .val (.int i4), .val (.long j5), .second, .val (.int i7), .val (.int i8), .val (.long j9), .second, .val (.int i11), .val (.int i12), .val (.long j13), .second, .val (.long j15), .second, .val (.long j17), .second, .val (.long j19), .second, .val (.int i21), .val (.long j22), .second, .val (.int i24), .unset, .unset, .unset] [(.int i8)])) _
        refine XS.bipush X0.here hx rfl (hb hby at_245) ?_
        exact k
      by_cases hc262 : i8 = (31 : Int32)
      · have pre263 : ∀ t, Steps p.tables e below (T0.setTop (mkF m 250 #[.val (.int i0), .val (.int i1), .val (.int i2), .val (.int i3), .val (.int i4), .val (.long j5), .second, .val (.int i7), .val (.int i8), .val (.long j9), .second, .val (.int i11), .val (.int i12), .val (.long j13), .second, .val (.long j15), .second, .val (.long j17), .second, .val (.long j19), .second, .val (.int i21), .val (.long j22), .second, .val (.int i24), .unset, .unset, .unset] [])) t → Steps p.tables e below (T0.setTop (mkF m 229 #[.val (.int i0), .val (.int i1), .val (.int i2), .val (.int i3), .val (.int i4), .val (.long j5), .second, .val (.int i7), .val (.int i8), .val (.long j9), .second, .val (.int i11), .val (.int i12), .val (.long j13), .second, .val (.long j15), .second, .val (.long j17), .second, .val (.long j19), .second, .val (.int i21), .val (.long j22), .second, .val (.int i24), .unset, .unset, .unset] [])) t := by
          intro t k
          refine pre261 _ ?_
          show Steps p.tables e below (T0.setTop (mkF m 247 #[.val (.int i0), .val (.int i1), .val (.int i2), .val (.int i3), .val (.int i4), .val (.long j5), .second, .val (.int i7), .val (.int i8), .val (.long j9), .second, .val (.int i11), .val (.int i12), .val (.long j13), .second, .val (.long j15), .second, .val (.long j17), .second, .val (.long j19), .second, .val (.int i21), .val (.long j22), .second, .val (.int i24), .unset, .unset, .unset] [(.int (31 : Int32)), (.int i8)])) _
          refine XS.icmpNo X0.here hx rfl (hb hby at_247) rfl (teq hc262).2 ?_
          exact k
        have pre264 : ∀ t, Steps p.tables e below (T0.setTop (mkF m 259 #[.val (.int i0), .val (.int i1), .val (.int i2), .val (.int i3), .val (.int i4), .val (.long j5), .second, .val (.int i7), .val (.int i8), .val (.long j9), .second, .val (.int i11), .val (.int i12), .val (.long j13), .second, .val (.long j15), .second, .val (.long j17), .second, .val (.long j19), .second, .val (.int i21), .val (.long j22), .second, .val (.int i24), .val (.int (30 : Int32)), .unset, .unset] [])) t → Steps p.tables e below (T0.setTop (mkF m 229 #[.val (.int i0), .val (.int i1), .val (.int i2), .val (.int i3), .val (.int i4), .val (.long j5), .second, .val (.int i7), .val (.int i8), .val (.long j9), .second, .val (.int i11), .val (.int i12), .val (.long j13), .second, .val (.long j15), .second, .val (.long j17), .second, .val (.long j19), .second, .val (.int i21), .val (.long j22), .second, .val (.int i24), .unset, .unset, .unset] [])) t := by
          intro t k
          refine pre263 _ ?_
          show Steps p.tables e below (T0.setTop (mkF m 250 #[.val (.int i0), .val (.int i1), .val (.int i2), .val (.int i3), .val (.int i4), .val (.long j5), .second, .val (.int i7), .val (.int i8), .val (.long j9), .second, .val (.int i11), .val (.int i12), .val (.long j13), .second, .val (.long j15), .second, .val (.long j17), .second, .val (.long j19), .second, .val (.int i21), .val (.long j22), .second, .val (.int i24), .unset, .unset, .unset] [])) _
          refine XS.bipush X0.here hx rfl (hb hby at_250) ?_
          show Steps p.tables e below (T0.setTop (mkF m 252 #[.val (.int i0), .val (.int i1), .val (.int i2), .val (.int i3), .val (.int i4), .val (.long j5), .second, .val (.int i7), .val (.int i8), .val (.long j9), .second, .val (.int i11), .val (.int i12), .val (.long j13), .second, .val (.long j15), .second, .val (.long j17), .second, .val (.long j19), .second, .val (.int i21), .val (.long j22), .second, .val (.int i24), .unset, .unset, .unset] [(.int (30 : Int32))])) _
          refine XS.goto X0.here hx rfl (pc0 := 252) (pc' := 257) rfl (hb hby at_252) (by decide) (by decide) ?_
          show Steps p.tables e below (T0.setTop (mkF m 257 #[.val (.int i0), .val (.int i1), .val (.int i2), .val (.int i3), .val (.int i4), .val (.long j5), .second, .val (.int i7), .val (.int i8), .val (.long j9), .second, .val (.int i11), .val (.int i12), .val (.long j13), .second, .val (.long j15), .second, .val (.long j17), .second, .val (.long j19), .second, .val (.int i21), .val (.long j22), .second, .val (.int i24), .unset, .unset, .unset] [(.int (30 : Int32))])) _
          refine XS.istore X0.here hx rfl (hb hby at_257) rfl (l' := #[.val (.int i0), .val (.int i1), .val (.int i2), .val (.int i3), .val (.int i4), .val (.long j5), .second, .val (.int i7), .val (.int i8), .val (.long j9), .second, .val (.int i11), .val (.int i12), .val (.long j13), .second, .val (.long j15), .second, .val (.long j17), .second, .val (.long j19), .second, .val (.int i21), .val (.long j22), .second, .val (.int i24), .val (.int (30 : Int32)), .unset, .unset]) rfl ?_
          exact k
        obtain ⟨s₂, o, st265, g1, g2, v, L, ho, ⟨hv, hN, hh265⟩, hfe⟩ := pc0_259_0 i0 i1 i2 i3 i4 j5 i7 i8 j9 i11 i12 j13 j15 j17 j19 i21 j22 i24 (30 : Int32) cl_wS cl_wD wT wA wS wI wD X0 hx hZ hw hby hml hown hret hlocks e0 N0 Z0 E_wT E_wA Ford_T Ford_A Ar_wS el_0 el_1 E_wI Ar_wD hD S_wT S_wA S_wS S_wI S_wD
        exact ⟨s₂, o, pre264 _ st265, g1, g2, v, L, ho, ⟨(by rw [F0_229_0, if_pos hc247, if_neg hc250, if_pos hc262]; exact hv), hN, hh265⟩, hfe⟩
      · have pre266 : ∀ t, Steps p.tables e below (T0.setTop (mkF m 255 #[.val (.int i0), .val (.int i1), .val (.int i2), .val (.int i3), .val (.int i4), .val (.long j5), .second, .val (.int i7), .val (.int i8), .val (.long j9), .second, .val (.int i11), .val (.int i12), .val (.long j13), .second, .val (.long j15), .second, .val (.long j17), .second, .val (.long j19), .second, .val (.int i21), .val (.long j22), .second, .val (.int i24), .unset, .unset, .unset] [])) t → Steps p.tables e below (T0.setTop (mkF m 229 #[.val (.int i0), .val (.int i1), .val (.int i2), .val (.int i3), .val (.int i4), .val (.long j5), .second, .val (.int i7), .val (.int i8), .val (.long j9), .second, .val (.int i11), .val (.int i12), .val (.long j13), .second, .val (.long j15), .second, .val (.long j17), .second, .val (.long j19), .second, .val (.int i21), .val (.long j22), .second, .val (.int i24), .unset, .unset, .unset] [])) t := by
          intro t k
          refine pre261 _ ?_
          show Steps p.tables e below (T0.setTop (mkF m 247 #[.val (.int i0), .val (.int i1), .val (.int i2), .val (.int i3), .val (.int i4), .val (.long j5), .second, .val (.int i7), .val (.int i8), .val (.long j9), .second, .val (.int i11), .val (.int i12), .val (.long j13), .second, .val (.long j15), .second, .val (.long j17), .second, .val (.long j19), .second, .val (.int i21), .val (.long j22), .second, .val (.int i24), .unset, .unset, .unset] [(.int (31 : Int32)), (.int i8)])) _
          refine XS.icmpYes X0.here hx rfl (pc0 := 247) (pc' := 255) rfl (hb hby at_247) rfl (feq hc262).2 (by decide) (by decide) ?_
          exact k
        have pre267 : ∀ t, Steps p.tables e below (T0.setTop (mkF m 259 #[.val (.int i0), .val (.int i1), .val (.int i2), .val (.int i3), .val (.int i4), .val (.long j5), .second, .val (.int i7), .val (.int i8), .val (.long j9), .second, .val (.int i11), .val (.int i12), .val (.long j13), .second, .val (.long j15), .second, .val (.long j17), .second, .val (.long j19), .second, .val (.int i21), .val (.long j22), .second, .val (.int i24), .val (.int i12), .unset, .unset] [])) t → Steps p.tables e below (T0.setTop (mkF m 229 #[.val (.int i0), .val (.int i1), .val (.int i2), .val (.int i3), .val (.int i4), .val (.long j5), .second, .val (.int i7), .val (.int i8), .val (.long j9), .second, .val (.int i11), .val (.int i12), .val (.long j13), .second, .val (.long j15), .second, .val (.long j17), .second, .val (.long j19), .second, .val (.int i21), .val (.long j22), .second, .val (.int i24), .unset, .unset, .unset] [])) t := by
          intro t k
          refine pre266 _ ?_
          show Steps p.tables e below (T0.setTop (mkF m 255 #[.val (.int i0), .val (.int i1), .val (.int i2), .val (.int i3), .val (.int i4), .val (.long j5), .second, .val (.int i7), .val (.int i8), .val (.long j9), .second, .val (.int i11), .val (.int i12), .val (.long j13), .second, .val (.long j15), .second, .val (.long j17), .second, .val (.long j19), .second, .val (.int i21), .val (.long j22), .second, .val (.int i24), .unset, .unset, .unset] [])) _
          refine XS.iload X0.here hx rfl (hb hby at_255) rfl ?_
          show Steps p.tables e below (T0.setTop (mkF m 257 #[.val (.int i0), .val (.int i1), .val (.int i2), .val (.int i3), .val (.int i4), .val (.long j5), .second, .val (.int i7), .val (.int i8), .val (.long j9), .second, .val (.int i11), .val (.int i12), .val (.long j13), .second, .val (.long j15), .second, .val (.long j17), .second, .val (.long j19), .second, .val (.int i21), .val (.long j22), .second, .val (.int i24), .unset, .unset, .unset] [(.int i12)])) _
          refine XS.istore X0.here hx rfl (hb hby at_257) rfl (l' := #[.val (.int i0), .val (.int i1), .val (.int i2), .val (.int i3), .val (.int i4), .val (.long j5), .second, .val (.int i7), .val (.int i8), .val (.long j9), .second, .val (.int i11), .val (.int i12), .val (.long j13), .second, .val (.long j15), .second, .val (.long j17), .second, .val (.long j19), .second, .val (.int i21), .val (.long j22), .second, .val (.int i24), .val (.int i12), .unset, .unset]) rfl ?_
          exact k
        obtain ⟨s₂, o, st268, g1, g2, v, L, ho, ⟨hv, hN, hh268⟩, hfe⟩ := pc0_259_0 i0 i1 i2 i3 i4 j5 i7 i8 j9 i11 i12 j13 j15 j17 j19 i21 j22 i24 i12 cl_wS cl_wD wT wA wS wI wD X0 hx hZ hw hby hml hown hret hlocks e0 N0 Z0 E_wT E_wA Ford_T Ford_A Ar_wS el_0 el_1 E_wI Ar_wD hD S_wT S_wA S_wS S_wI S_wD
        exact ⟨s₂, o, pre267 _ st268, g1, g2, v, L, ho, ⟨(by rw [F0_229_0, if_pos hc247, if_neg hc250, if_neg hc262]; exact hv), hN, hh268⟩, hfe⟩
  · have pre269 : ∀ t, Steps p.tables e below (T0.setTop (mkF m 255 #[.val (.int i0), .val (.int i1), .val (.int i2), .val (.int i3), .val (.int i4), .val (.long j5), .second, .val (.int i7), .val (.int i8), .val (.long j9), .second, .val (.int i11), .val (.int i12), .val (.long j13), .second, .val (.long j15), .second, .val (.long j17), .second, .val (.long j19), .second, .val (.int i21), .val (.long j22), .second, .val (.int i24), .unset, .unset, .unset] [])) t → Steps p.tables e below (T0.setTop (mkF m 229 #[.val (.int i0), .val (.int i1), .val (.int i2), .val (.int i3), .val (.int i4), .val (.long j5), .second, .val (.int i7), .val (.int i8), .val (.long j9), .second, .val (.int i11), .val (.int i12), .val (.long j13), .second, .val (.long j15), .second, .val (.long j17), .second, .val (.long j19), .second, .val (.int i21), .val (.long j22), .second, .val (.int i24), .unset, .unset, .unset] [])) t := by
      intro t k
      refine pre246 _ ?_
      show Steps p.tables e below (T0.setTop (mkF m 233 #[.val (.int i0), .val (.int i1), .val (.int i2), .val (.int i3), .val (.int i4), .val (.long j5), .second, .val (.int i7), .val (.int i8), .val (.long j9), .second, .val (.int i11), .val (.int i12), .val (.long j13), .second, .val (.long j15), .second, .val (.long j17), .second, .val (.long j19), .second, .val (.int i21), .val (.long j22), .second, .val (.int i24), .unset, .unset, .unset] [(.int (31 : Int32)), (.int i12)])) _
      refine XS.icmpYes X0.here hx rfl (pc0 := 233) (pc' := 255) rfl (hb hby at_233) rfl (feq hc247).2 (by decide) (by decide) ?_
      exact k
    have pre270 : ∀ t, Steps p.tables e below (T0.setTop (mkF m 259 #[.val (.int i0), .val (.int i1), .val (.int i2), .val (.int i3), .val (.int i4), .val (.long j5), .second, .val (.int i7), .val (.int i8), .val (.long j9), .second, .val (.int i11), .val (.int i12), .val (.long j13), .second, .val (.long j15), .second, .val (.long j17), .second, .val (.long j19), .second, .val (.int i21), .val (.long j22), .second, .val (.int i24), .val (.int i12), .unset, .unset] [])) t → Steps p.tables e below (T0.setTop (mkF m 229 #[.val (.int i0), .val (.int i1), .val (.int i2), .val (.int i3), .val (.int i4), .val (.long j5), .second, .val (.int i7), .val (.int i8), .val (.long j9), .second, .val (.int i11), .val (.int i12), .val (.long j13), .second, .val (.long j15), .second, .val (.long j17), .second, .val (.long j19), .second, .val (.int i21), .val (.long j22), .second, .val (.int i24), .unset, .unset, .unset] [])) t := by
      intro t k
      refine pre269 _ ?_
      show Steps p.tables e below (T0.setTop (mkF m 255 #[.val (.int i0), .val (.int i1), .val (.int i2), .val (.int i3), .val (.int i4), .val (.long j5), .second, .val (.int i7), .val (.int i8), .val (.long j9), .second, .val (.int i11), .val (.int i12), .val (.long j13), .second, .val (.long j15), .second, .val (.long j17), .second, .val (.long j19), .second, .val (.int i21), .val (.long j22), .second, .val (.int i24), .unset, .unset, .unset] [])) _
      refine XS.iload X0.here hx rfl (hb hby at_255) rfl ?_
      show Steps p.tables e below (T0.setTop (mkF m 257 #[.val (.int i0), .val (.int i1), .val (.int i2), .val (.int i3), .val (.int i4), .val (.long j5), .second, .val (.int i7), .val (.int i8), .val (.long j9), .second, .val (.int i11), .val (.int i12), .val (.long j13), .second, .val (.long j15), .second, .val (.long j17), .second, .val (.long j19), .second, .val (.int i21), .val (.long j22), .second, .val (.int i24), .unset, .unset, .unset] [(.int i12)])) _
      refine XS.istore X0.here hx rfl (hb hby at_257) rfl (l' := #[.val (.int i0), .val (.int i1), .val (.int i2), .val (.int i3), .val (.int i4), .val (.long j5), .second, .val (.int i7), .val (.int i8), .val (.long j9), .second, .val (.int i11), .val (.int i12), .val (.long j13), .second, .val (.long j15), .second, .val (.long j17), .second, .val (.long j19), .second, .val (.int i21), .val (.long j22), .second, .val (.int i24), .val (.int i12), .unset, .unset]) rfl ?_
      exact k
    obtain ⟨s₂, o, st271, g1, g2, v, L, ho, ⟨hv, hN, hh271⟩, hfe⟩ := pc0_259_0 i0 i1 i2 i3 i4 j5 i7 i8 j9 i11 i12 j13 j15 j17 j19 i21 j22 i24 i12 cl_wS cl_wD wT wA wS wI wD X0 hx hZ hw hby hml hown hret hlocks e0 N0 Z0 E_wT E_wA Ford_T Ford_A Ar_wS el_0 el_1 E_wI Ar_wD hD S_wT S_wA S_wS S_wI S_wD
    exact ⟨s₂, o, pre270 _ st271, g1, g2, v, L, ho, ⟨(by rw [F0_229_0, if_neg hc247]; exact hv), hN, hh271⟩, hfe⟩
theorem pd__Lcom_example_notesmith_notesmith_note_DayCount_JIJI_J : parseMethodDescriptor "(Lcom/example/notesmith/notesmith/note/DayCount;JIJI)J" = some ⟨[(.object "com/example/notesmith/notesmith/note/DayCount"), .long, .int, .long, .int], some .long⟩ := by decide +kernel
def F0_155_0 (i0 : Int32) (j5 : Int64) (i7 : Int32) (i8 : Int32) (j9 : Int64) (i11 : Int32) (i12 : Int32) : Int32 :=
  if (i0 &&& (1 : Int32)) = (0 : Int32) then (  if (lcmpW (F2a ((j5 * (12 : Int64)) + (i7.toInt64)) i8 ((j9 * (12 : Int64)) + (i11.toInt64)) i12) ((F10 j9 (i11 + (1 : Int32)) i12) - (F10 j5 (i7 + (1 : Int32)) i8))) = (0 : Int32) then (  (1 : Int32))
  else (  (0 : Int32)))
  else (  if i8 = (31 : Int32) then (  (F0_229_0 j5 i7 i8 j9 i11 i12 (F2t ((j5 * (12 : Int64)) + (i7.toInt64)) i8 ((j9 * (12 : Int64)) + (i11.toInt64)) i12) (30 : Int32)))
  else (  (F0_229_0 j5 i7 i8 j9 i11 i12 (F2t ((j5 * (12 : Int64)) + (i7.toInt64)) i8 ((j9 * (12 : Int64)) + (i11.toInt64)) i12) i8)))
set_option maxRecDepth 65536 in
set_option maxHeartbeats 40000000 in
theorem pc0_155_0 {p : Program} {l : Launch} {e : Env} {s : State} {m : MethodId} {args : Array Value} {below : List Frame} {meth : Method} {c : Code} {T0 : State} {locs : List Loc} {Z : State} {a0 : Array Value} {h0 : Heap} {n0 : Nat} (i0 : Int32) (i1 : Int32) (i2 : Int32) (i3 : Int32) (i4 : Int32) (j5 : Int64) (i7 : Int32) (i8 : Int32) (j9 : Int64) (i11 : Int32) (i12 : Int32) (j13 : Int64) (j15 : Int64) (j17 : Int64) (i19 : Int32) (i20 : Int32) (cl_wS : Cell) (cl_wD : Cell) (wT : Addr) (wA : Addr) (wS : Addr) (wI : Addr) (wD : Addr)
    (X0 : Stand p l e room_1 s m args below meth c T0 locs 0 0) (hx : p.tables.exec = Jvm.exec) (hZ : Z.Warmed39 s.vm) (hw : ∀ d ∈ tables_1, d.before a0 Z = true) (hby : c.code = code) (hml : c.maxLocals = 28) (hown : s.vm.findClass "com/example/notesmith/notesmith/calc/AccrualDaysPinLaw" = some m.cls) (hret : meth.sig.returnType = (some .boolean)) (hlocks : meth.locks = false) (e0 : T0.heap = h0) (N0 : Fr n0 locs) (Z0 : n0 ≤ h0.size) (E_wT : Exa Z h0 wT "com/example/notesmith/notesmith/note/DayCount") (E_wA : Exa Z h0 wA "com/example/notesmith/notesmith/note/DayCount") (Ford_T : Fld Z h0 wT "java/lang/Enum" "ordinal" "I" (.int (0 : Int32))) (Ford_A : Fld Z h0 wA "java/lang/Enum" "ordinal" "I" (.int (1 : Int32))) (Ar_wS : Arr Z h0 wS cl_wS .int) (el_0 : ¬ ((0 : Int32) < 0 ∨ cl_wS.slots.size ≤ (0 : Int32).toNatClampNeg) ∧ cl_wS.slots[(0 : Int32).toNatClampNeg]? = some (.int (1 : Int32))) (el_1 : ¬ ((1 : Int32) < 0 ∨ cl_wS.slots.size ≤ (1 : Int32).toNatClampNeg) ∧ cl_wS.slots[(1 : Int32).toNatClampNeg]? = some (.int (2 : Int32))) (E_wI : Exa Z h0 wI "java/time/chrono/IsoChronology") (Ar_wD : Arr Z h0 wD cl_wD .int) (hD : ∀ j : Int32, (0 ≤ j.toInt ∧ j.toInt < 12) → ¬ (j < 0 ∨ cl_wD.slots.size ≤ j.toNatClampNeg) ∧ cl_wD.slots[j.toNatClampNeg]? = some (.int (own_dbm j))) (S_wT : Sta Z h0 "com/example/notesmith/notesmith/note/DayCount" "THIRTY_360" "Lcom/example/notesmith/notesmith/note/DayCount;" (.ref wT)) (S_wA : Sta Z h0 "com/example/notesmith/notesmith/note/DayCount" "ACTUAL_365" "Lcom/example/notesmith/notesmith/note/DayCount;" (.ref wA)) (S_wS : Sta Z h0 "com/example/notesmith/notesmith/calc/Accrual$1" "$SwitchMap$com$example$notesmith$notesmith$note$DayCount" "[I" (.ref wS)) (S_wI : Sta Z h0 "java/time/chrono/IsoChronology" "INSTANCE" "Ljava/time/chrono/IsoChronology;" (.ref wI)) (S_wD : Sta Z h0 "com/example/notesmith/notesmith/calc/Accrual" "DAYS_BEFORE_MONTH" "[I" (.ref wD)) :
    ∃ s₂ o, Steps p.tables e below (T0.setTop (mkF m 155 #[.val (.int i0), .val (.int i1), .val (.int i2), .val (.int i3), .val (.int i4), .val (.long j5), .second, .val (.int i7), .val (.int i8), .val (.long j9), .second, .val (.int i11), .val (.int i12), .val (.long j13), .second, .val (.long j15), .second, .val (.long j17), .second, .val (.int i19), .val (.int i20), .unset, .unset, .unset, .unset, .unset, .unset, .unset] [])) s₂ ∧ s₂.status = .running ∧ Ended s₂ below o ∧ ∃ v L, o = .returned v ∧ (v = some (.int (F0_155_0 i0 j5 i7 i8 j9 i11 i12)) ∧ Fr n0 L ∧ s₂.heap = h0) ∧ FrameEnd s o s₂ L room_1.cells room_1.slots := by
  have pre0 : ∀ t, Steps p.tables e below (T0.setTop (mkF m 155 #[.val (.int i0), .val (.int i1), .val (.int i2), .val (.int i3), .val (.int i4), .val (.long j5), .second, .val (.int i7), .val (.int i8), .val (.long j9), .second, .val (.int i11), .val (.int i12), .val (.long j13), .second, .val (.long j15), .second, .val (.long j17), .second, .val (.int i19), .val (.int i20), .unset, .unset, .unset, .unset, .unset, .unset, .unset] [])) t → Steps p.tables e below (T0.setTop (mkF m 155 #[.val (.int i0), .val (.int i1), .val (.int i2), .val (.int i3), .val (.int i4), .val (.long j5), .second, .val (.int i7), .val (.int i8), .val (.long j9), .second, .val (.int i11), .val (.int i12), .val (.long j13), .second, .val (.long j15), .second, .val (.long j17), .second, .val (.int i19), .val (.int i20), .unset, .unset, .unset, .unset, .unset, .unset, .unset] [])) t := fun _ k => k
  have pre210 : ∀ t, Steps p.tables e below (T0.setTop (mkF m 182 #[.val (.int i0), .val (.int i1), .val (.int i2), .val (.int i3), .val (.int i4), .val (.long j5), .second, .val (.int i7), .val (.int i8), .val (.long j9), .second, .val (.int i11), .val (.int i12), .val (.long j13), .second, .val (.long j15), .second, .val (.long ((j5 * (12 : Int64)) + (i7.toInt64))), .second, .val (.long ((j9 * (12 : Int64)) + (i11.toInt64))), .second, .unset, .unset, .unset, .unset, .unset, .unset, .unset] [(.int (i0 &&& (1 : Int32)))])) t → Steps p.tables e below (T0.setTop (mkF m 155 #[.val (.int i0), .val (.int i1), .val (.int i2), .val (.int i3), .val (.int i4), .val (.long j5), .second, .val (.int i7), .val (.int i8), .val (.long j9), .second, .val (.int i11), .val (.int i12), .val (.long j13), .second, .val (.long j15), .second, .val (.long j17), .second, .val (.int i19), .val (.int i20), .unset, .unset, .unset, .unset, .unset, .unset, .unset] [])) t := by
    intro t k
    refine pre0 _ ?_
    show Steps p.tables e below (T0.setTop (mkF m 155 #[.val (.int i0), .val (.int i1), .val (.int i2), .val (.int i3), .val (.int i4), .val (.long j5), .second, .val (.int i7), .val (.int i8), .val (.long j9), .second, .val (.int i11), .val (.int i12), .val (.long j13), .second, .val (.long j15), .second, .val (.long j17), .second, .val (.int i19), .val (.int i20), .unset, .unset, .unset, .unset, .unset, .unset, .unset] [])) _
    refine XS.lload X0.here hx rfl (hb hby at_155) rfl ?_
    show Steps p.tables e below (T0.setTop (mkF m 157 #[.val (.int i0), .val (.int i1), .val (.int i2), .val (.int i3), .val (.int i4), .val (.long j5), .second, .val (.int i7), .val (.int i8), .val (.long j9), .second, .val (.int i11), .val (.int i12), .val (.long j13), .second, .val (.long j15), .second, .val (.long j17), .second, .val (.int i19), .val (.int i20), .unset, .unset, .unset, .unset, .unset, .unset, .unset] [(.long j5)])) _
    refine X0.ldc2Long hx hown (mvT hZ (hw _ (List.mem_of_getElem? (i := 6) rfl))) (g := (mkF m 157 #[.val (.int i0), .val (.int i1), .val (.int i2), .val (.int i3), .val (.int i4), .val (.long j5), .second, .val (.int i7), .val (.int i8), .val (.long j9), .second, .val (.int i11), .val (.int i12), .val (.long j13), .second, .val (.long j15), .second, .val (.long j17), .second, .val (.int i19), .val (.int i20), .unset, .unset, .unset, .unset, .unset, .unset, .unset] [(.long j5)])) rfl (hb hby at_157) _ ?_
    show Steps p.tables e below (T0.setTop (mkF m 160 #[.val (.int i0), .val (.int i1), .val (.int i2), .val (.int i3), .val (.int i4), .val (.long j5), .second, .val (.int i7), .val (.int i8), .val (.long j9), .second, .val (.int i11), .val (.int i12), .val (.long j13), .second, .val (.long j15), .second, .val (.long j17), .second, .val (.int i19), .val (.int i20), .unset, .unset, .unset, .unset, .unset, .unset, .unset] [(.long (12 : Int64)), (.long j5)])) _
    refine XS.lmul X0.here hx rfl (hb hby at_160) rfl ?_
    show Steps p.tables e below (T0.setTop (mkF m 161 #[.val (.int i0), .val (.int i1), .val (.int i2), .val (.int i3), .val (.int i4), .val (.long j5), .second, .val (.int i7), .val (.int i8), .val (.long j9), .second, .val (.int i11), .val (.int i12), .val (.long j13), .second, .val (.long j15), .second, .val (.long j17), .second, .val (.int i19), .val (.int i20), .unset, .unset, .unset, .unset, .unset, .unset, .unset] [(.long (j5 * (12 : Int64)))])) _
    refine XS.iload X0.here hx rfl (hb hby at_161) rfl ?_
    show Steps p.tables e below (T0.setTop (mkF m 163 #[.val (.int i0), .val (.int i1), .val (.int i2), .val (.int i3), .val (.int i4), .val (.long j5), .second, .val (.int i7), .val (.int i8), .val (.long j9), .second, .val (.int i11), .val (.int i12), .val (.long j13), .second, .val (.long j15), .second, .val (.long j17), .second, .val (.int i19), .val (.int i20), .unset, .unset, .unset, .unset, .unset, .unset, .unset] [(.int i7), (.long (j5 * (12 : Int64)))])) _
    refine XS.i2l X0.here hx rfl (hb hby at_163) rfl ?_
    show Steps p.tables e below (T0.setTop (mkF m 164 #[.val (.int i0), .val (.int i1), .val (.int i2), .val (.int i3), .val (.int i4), .val (.long j5), .second, .val (.int i7), .val (.int i8), .val (.long j9), .second, .val (.int i11), .val (.int i12), .val (.long j13), .second, .val (.long j15), .second, .val (.long j17), .second, .val (.int i19), .val (.int i20), .unset, .unset, .unset, .unset, .unset, .unset, .unset] [(.long (i7.toInt64)), (.long (j5 * (12 : Int64)))])) _
    refine XS.ladd X0.here hx rfl (hb hby at_164) rfl ?_
    show Steps p.tables e below (T0.setTop (mkF m 165 #[.val (.int i0), .val (.int i1), .val (.int i2), .val (.int i3), .val (.int i4), .val (.long j5), .second, .val (.int i7), .val (.int i8), .val (.long j9), .second, .val (.int i11), .val (.int i12), .val (.long j13), .second, .val (.long j15), .second, .val (.long j17), .second, .val (.int i19), .val (.int i20), .unset, .unset, .unset, .unset, .unset, .unset, .unset] [(.long ((j5 * (12 : Int64)) + (i7.toInt64)))])) _
    refine XS.lstore X0.here hx rfl (hb hby at_165) rfl (l' := #[.val (.int i0), .val (.int i1), .val (.int i2), .val (.int i3), .val (.int i4), .val (.long j5), .second, .val (.int i7), .val (.int i8), .val (.long j9), .second, .val (.int i11), .val (.int i12), .val (.long j13), .second, .val (.long j15), .second, .val (.long ((j5 * (12 : Int64)) + (i7.toInt64))), .second, .val (.int i19), .val (.int i20), .unset, .unset, .unset, .unset, .unset, .unset, .unset]) rfl ?_
    show Steps p.tables e below (T0.setTop (mkF m 167 #[.val (.int i0), .val (.int i1), .val (.int i2), .val (.int i3), .val (.int i4), .val (.long j5), .second, .val (.int i7), .val (.int i8), .val (.long j9), .second, .val (.int i11), .val (.int i12), .val (.long j13), .second, .val (.long j15), .second, .val (.long ((j5 * (12 : Int64)) + (i7.toInt64))), .second, .val (.int i19), .val (.int i20), .unset, .unset, .unset, .unset, .unset, .unset, .unset] [])) _
    refine XS.lload X0.here hx rfl (hb hby at_167) rfl ?_
    show Steps p.tables e below (T0.setTop (mkF m 169 #[.val (.int i0), .val (.int i1), .val (.int i2), .val (.int i3), .val (.int i4), .val (.long j5), .second, .val (.int i7), .val (.int i8), .val (.long j9), .second, .val (.int i11), .val (.int i12), .val (.long j13), .second, .val (.long j15), .second, .val (.long ((j5 * (12 : Int64)) + (i7.toInt64))), .second, .val (.int i19), .val (.int i20), .unset, .unset, .unset, .unset, .unset, .unset, .unset] [(.long j9)])) _
    refine X0.ldc2Long hx hown (mvT hZ (hw _ (List.mem_of_getElem? (i := 6) rfl))) (g := (mkF m 169 #[.val (.int i0), .val (.int i1), .val (.int i2), .val (.int i3), .val (.int i4), .val (.long j5), .second, .val (.int i7), .val (.int i8), .val (.long j9), .second, .val (.int i11), .val (.int i12), .val (.long j13), .second, .val (.long j15), .second, .val (.long ((j5 * (12 : Int64)) + (i7.toInt64))), .second, .val (.int i19), .val (.int i20), .unset, .unset, .unset, .unset, .unset, .unset, .unset] [(.long j9)])) rfl (hb hby at_169) _ ?_
    show Steps p.tables e below (T0.setTop (mkF m 172 #[.val (.int i0), .val (.int i1), .val (.int i2), .val (.int i3), .val (.int i4), .val (.long j5), .second, .val (.int i7), .val (.int i8), .val (.long j9), .second, .val (.int i11), .val (.int i12), .val (.long j13), .second, .val (.long j15), .second, .val (.long ((j5 * (12 : Int64)) + (i7.toInt64))), .second, .val (.int i19), .val (.int i20), .unset, .unset, .unset, .unset, .unset, .unset, .unset] [(.long (12 : Int64)), (.long j9)])) _
    refine XS.lmul X0.here hx rfl (hb hby at_172) rfl ?_
    show Steps p.tables e below (T0.setTop (mkF m 173 #[.val (.int i0), .val (.int i1), .val (.int i2), .val (.int i3), .val (.int i4), .val (.long j5), .second, .val (.int i7), .val (.int i8), .val (.long j9), .second, .val (.int i11), .val (.int i12), .val (.long j13), .second, .val (.long j15), .second, .val (.long ((j5 * (12 : Int64)) + (i7.toInt64))), .second, .val (.int i19), .val (.int i20), .unset, .unset, .unset, .unset, .unset, .unset, .unset] [(.long (j9 * (12 : Int64)))])) _
    refine XS.iload X0.here hx rfl (hb hby at_173) rfl ?_
    show Steps p.tables e below (T0.setTop (mkF m 175 #[.val (.int i0), .val (.int i1), .val (.int i2), .val (.int i3), .val (.int i4), .val (.long j5), .second, .val (.int i7), .val (.int i8), .val (.long j9), .second, .val (.int i11), .val (.int i12), .val (.long j13), .second, .val (.long j15), .second, .val (.long ((j5 * (12 : Int64)) + (i7.toInt64))), .second, .val (.int i19), .val (.int i20), .unset, .unset, .unset, .unset, .unset, .unset, .unset] [(.int i11), (.long (j9 * (12 : Int64)))])) _
    refine XS.i2l X0.here hx rfl (hb hby at_175) rfl ?_
    show Steps p.tables e below (T0.setTop (mkF m 176 #[.val (.int i0), .val (.int i1), .val (.int i2), .val (.int i3), .val (.int i4), .val (.long j5), .second, .val (.int i7), .val (.int i8), .val (.long j9), .second, .val (.int i11), .val (.int i12), .val (.long j13), .second, .val (.long j15), .second, .val (.long ((j5 * (12 : Int64)) + (i7.toInt64))), .second, .val (.int i19), .val (.int i20), .unset, .unset, .unset, .unset, .unset, .unset, .unset] [(.long (i11.toInt64)), (.long (j9 * (12 : Int64)))])) _
    refine XS.ladd X0.here hx rfl (hb hby at_176) rfl ?_
    show Steps p.tables e below (T0.setTop (mkF m 177 #[.val (.int i0), .val (.int i1), .val (.int i2), .val (.int i3), .val (.int i4), .val (.long j5), .second, .val (.int i7), .val (.int i8), .val (.long j9), .second, .val (.int i11), .val (.int i12), .val (.long j13), .second, .val (.long j15), .second, .val (.long ((j5 * (12 : Int64)) + (i7.toInt64))), .second, .val (.int i19), .val (.int i20), .unset, .unset, .unset, .unset, .unset, .unset, .unset] [(.long ((j9 * (12 : Int64)) + (i11.toInt64)))])) _
    refine XS.lstore X0.here hx rfl (hb hby at_177) rfl (l' := #[.val (.int i0), .val (.int i1), .val (.int i2), .val (.int i3), .val (.int i4), .val (.long j5), .second, .val (.int i7), .val (.int i8), .val (.long j9), .second, .val (.int i11), .val (.int i12), .val (.long j13), .second, .val (.long j15), .second, .val (.long ((j5 * (12 : Int64)) + (i7.toInt64))), .second, .val (.long ((j9 * (12 : Int64)) + (i11.toInt64))), .second, .unset, .unset, .unset, .unset, .unset, .unset, .unset]) rfl ?_
    show Steps p.tables e below (T0.setTop (mkF m 179 #[.val (.int i0), .val (.int i1), .val (.int i2), .val (.int i3), .val (.int i4), .val (.long j5), .second, .val (.int i7), .val (.int i8), .val (.long j9), .second, .val (.int i11), .val (.int i12), .val (.long j13), .second, .val (.long j15), .second, .val (.long ((j5 * (12 : Int64)) + (i7.toInt64))), .second, .val (.long ((j9 * (12 : Int64)) + (i11.toInt64))), .second, .unset, .unset, .unset, .unset, .unset, .unset, .unset] [])) _
    refine XS.iloadN X0.here hx rfl (hb hby at_179) rfl ?_
    show Steps p.tables e below (T0.setTop (mkF m 180 #[.val (.int i0), .val (.int i1), .val (.int i2), .val (.int i3), .val (.int i4), .val (.long j5), .second, .val (.int i7), .val (.int i8), .val (.long j9), .second, .val (.int i11), .val (.int i12), .val (.long j13), .second, .val (.long j15), .second, .val (.long ((j5 * (12 : Int64)) + (i7.toInt64))), .second, .val (.long ((j9 * (12 : Int64)) + (i11.toInt64))), .second, .unset, .unset, .unset, .unset, .unset, .unset, .unset] [(.int i0)])) _
    refine XS.iconst X0.here hx rfl (hb hby at_180) ?_
    show Steps p.tables e below (T0.setTop (mkF m 181 #[.val (.int i0), .val (.int i1), .val (.int i2), .val (.int i3), .val (.int i4), .val (.long j5), .second, .val (.int i7), .val (.int i8), .val (.long j9), .second, .val (.int i11), .val (.int i12), .val (.long j13), .second, .val (.long j15), .second, .val (.long ((j5 * (12 : Int64)) + (i7.toInt64))), .second, .val (.long ((j9 * (12 : Int64)) + (i11.toInt64))), .second, .unset, .unset, .unset, .unset, .unset, .unset, .unset] [(.int (1 : Int32)), (.int i0)])) _
    refine XS.iand X0.here hx rfl (hb hby at_181) rfl ?_
    exact k
  by_cases hc211 : (i0 &&& (1 : Int32)) = (0 : Int32)
  · have pre212 : ∀ t, Steps p.tables e below (T0.setTop (mkF m 189 #[.val (.int i0), .val (.int i1), .val (.int i2), .val (.int i3), .val (.int i4), .val (.long j5), .second, .val (.int i7), .val (.int i8), .val (.long j9), .second, .val (.int i11), .val (.int i12), .val (.long j13), .second, .val (.long j15), .second, .val (.long ((j5 * (12 : Int64)) + (i7.toInt64))), .second, .val (.long ((j9 * (12 : Int64)) + (i11.toInt64))), .second, .unset, .unset, .unset, .unset, .unset, .unset, .unset] [])) t → Steps p.tables e below (T0.setTop (mkF m 155 #[.val (.int i0), .val (.int i1), .val (.int i2), .val (.int i3), .val (.int i4), .val (.long j5), .second, .val (.int i7), .val (.int i8), .val (.long j9), .second, .val (.int i11), .val (.int i12), .val (.long j13), .second, .val (.long j15), .second, .val (.long j17), .second, .val (.int i19), .val (.int i20), .unset, .unset, .unset, .unset, .unset, .unset, .unset] [])) t := by
      intro t k
      refine pre210 _ ?_
      show Steps p.tables e below (T0.setTop (mkF m 182 #[.val (.int i0), .val (.int i1), .val (.int i2), .val (.int i3), .val (.int i4), .val (.long j5), .second, .val (.int i7), .val (.int i8), .val (.long j9), .second, .val (.int i11), .val (.int i12), .val (.long j13), .second, .val (.long j15), .second, .val (.long ((j5 * (12 : Int64)) + (i7.toInt64))), .second, .val (.long ((j9 * (12 : Int64)) + (i11.toInt64))), .second, .unset, .unset, .unset, .unset, .unset, .unset, .unset] [(.int (i0 &&& (1 : Int32)))])) _
      refine XS.ifYes X0.here hx rfl (pc0 := 182) (pc' := 189) rfl (hb hby at_182) rfl ((if0 _ _).trans (teq hc211).1) (by decide) (by decide) ?_
      exact k
    have pre213 : ∀ t, Steps p.tables e below (T0.setTop (mkF m 194 #[.val (.int i0), .val (.int i1), .val (.int i2), .val (.int i3), .val (.int i4), .val (.long j5), .second, .val (.int i7), .val (.int i8), .val (.long j9), .second, .val (.int i11), .val (.int i12), .val (.long j13), .second, .val (.long j15), .second, .val (.long ((j5 * (12 : Int64)) + (i7.toInt64))), .second, .val (.long ((j9 * (12 : Int64)) + (i11.toInt64))), .second, .val (.int (0 : Int32)), .unset, .unset, .unset, .unset, .unset, .unset] [(.int (0 : Int32))])) t → Steps p.tables e below (T0.setTop (mkF m 155 #[.val (.int i0), .val (.int i1), .val (.int i2), .val (.int i3), .val (.int i4), .val (.long j5), .second, .val (.int i7), .val (.int i8), .val (.long j9), .second, .val (.int i11), .val (.int i12), .val (.long j13), .second, .val (.long j15), .second, .val (.long j17), .second, .val (.int i19), .val (.int i20), .unset, .unset, .unset, .unset, .unset, .unset, .unset] [])) t := by
      intro t k
      refine pre212 _ ?_
      show Steps p.tables e below (T0.setTop (mkF m 189 #[.val (.int i0), .val (.int i1), .val (.int i2), .val (.int i3), .val (.int i4), .val (.long j5), .second, .val (.int i7), .val (.int i8), .val (.long j9), .second, .val (.int i11), .val (.int i12), .val (.long j13), .second, .val (.long j15), .second, .val (.long ((j5 * (12 : Int64)) + (i7.toInt64))), .second, .val (.long ((j9 * (12 : Int64)) + (i11.toInt64))), .second, .unset, .unset, .unset, .unset, .unset, .unset, .unset] [])) _
      refine XS.iconst X0.here hx rfl (hb hby at_189) ?_
      show Steps p.tables e below (T0.setTop (mkF m 190 #[.val (.int i0), .val (.int i1), .val (.int i2), .val (.int i3), .val (.int i4), .val (.long j5), .second, .val (.int i7), .val (.int i8), .val (.long j9), .second, .val (.int i11), .val (.int i12), .val (.long j13), .second, .val (.long j15), .second, .val (.long ((j5 * (12 : Int64)) + (i7.toInt64))), .second, .val (.long ((j9 * (12 : Int64)) + (i11.toInt64))), .second, .unset, .unset, .unset, .unset, .unset, .unset, .unset] [(.int (0 : Int32))])) _
      refine XS.istore X0.here hx rfl (hb hby at_190) rfl (l' := #[.val (.int i0), .val (.int i1), .val (.int i2), .val (.int i3), .val (.int i4), .val (.long j5), .second, .val (.int i7), .val (.int i8), .val (.long j9), .second, .val (.int i11), .val (.int i12), .val (.long j13), .second, .val (.long j15), .second, .val (.long ((j5 * (12 : Int64)) + (i7.toInt64))), .second, .val (.long ((j9 * (12 : Int64)) + (i11.toInt64))), .second, .val (.int (0 : Int32)), .unset, .unset, .unset, .unset, .unset, .unset]) rfl ?_
      show Steps p.tables e below (T0.setTop (mkF m 192 #[.val (.int i0), .val (.int i1), .val (.int i2), .val (.int i3), .val (.int i4), .val (.long j5), .second, .val (.int i7), .val (.int i8), .val (.long j9), .second, .val (.int i11), .val (.int i12), .val (.long j13), .second, .val (.long j15), .second, .val (.long ((j5 * (12 : Int64)) + (i7.toInt64))), .second, .val (.long ((j9 * (12 : Int64)) + (i11.toInt64))), .second, .val (.int (0 : Int32)), .unset, .unset, .unset, .unset, .unset, .unset] [])) _
      refine XS.iload X0.here hx rfl (hb hby at_192) rfl ?_
      exact k
    have pre215 : ∀ t, Steps p.tables e below (T0.setTop (mkF m 302 #[.val (.int i0), .val (.int i1), .val (.int i2), .val (.int i3), .val (.int i4), .val (.long j5), .second, .val (.int i7), .val (.int i8), .val (.long j9), .second, .val (.int i11), .val (.int i12), .val (.long j13), .second, .val (.long j15), .second, .val (.long ((j5 * (12 : Int64)) + (i7.toInt64))), .second, .val (.long ((j9 * (12 : Int64)) + (i11.toInt64))), .second, .val (.int (0 : Int32)), .unset, .unset, .unset, .unset, .unset, .unset] [])) t → Steps p.tables e below (T0.setTop (mkF m 155 #[.val (.int i0), .val (.int i1), .val (.int i2), .val (.int i3), .val (.int i4), .val (.long j5), .second, .val (.int i7), .val (.int i8), .val (.long j9), .second, .val (.int i11), .val (.int i12), .val (.long j13), .second, .val (.long j15), .second, .val (.long j17), .second, .val (.int i19), .val (.int i20), .unset, .unset, .unset, .unset, .unset, .unset, .unset] [])) t := by
      intro t k
      refine pre213 _ ?_
      show Steps p.tables e below (T0.setTop (mkF m 194 #[.val (.int i0), .val (.int i1), .val (.int i2), .val (.int i3), .val (.int i4), .val (.long j5), .second, .val (.int i7), .val (.int i8), .val (.long j9), .second, .val (.int i11), .val (.int i12), .val (.long j13), .second, .val (.long j15), .second, .val (.long ((j5 * (12 : Int64)) + (i7.toInt64))), .second, .val (.long ((j9 * (12 : Int64)) + (i11.toInt64))), .second, .val (.int (0 : Int32)), .unset, .unset, .unset, .unset, .unset, .unset] [(.int (0 : Int32))])) _
      refine XS.ifYes X0.here hx rfl (pc0 := 194) (pc' := 302) rfl (hb hby at_194) rfl ((if0 _ _).trans (teq (rfl : (0 : Int32) = (0 : Int32))).1) (by decide) (by decide) ?_
      exact k
    obtain ⟨T216, X216, e216, st216⟩ := getS2 X0 hx hZ hown (host := "") (Or.inl (hw _ (List.mem_of_getElem? (i := 7) rfl))) Via.refl e0 S_wA (g := (mkF m 302 #[.val (.int i0), .val (.int i1), .val (.int i2), .val (.int i3), .val (.int i4), .val (.long j5), .second, .val (.int i7), .val (.int i8), .val (.long j9), .second, .val (.int i11), .val (.int i12), .val (.long j13), .second, .val (.long j15), .second, .val (.long ((j5 * (12 : Int64)) + (i7.toInt64))), .second, .val (.long ((j9 * (12 : Int64)) + (i11.toInt64))), .second, .val (.int (0 : Int32)), .unset, .unset, .unset, .unset, .unset, .unset] [])) rfl (hb hby at_302)
    have pre217 : ∀ t, Steps p.tables e below (T216.setTop (mkF m 305 #[.val (.int i0), .val (.int i1), .val (.int i2), .val (.int i3), .val (.int i4), .val (.long j5), .second, .val (.int i7), .val (.int i8), .val (.long j9), .second, .val (.int i11), .val (.int i12), .val (.long j13), .second, .val (.long j15), .second, .val (.long ((j5 * (12 : Int64)) + (i7.toInt64))), .second, .val (.long ((j9 * (12 : Int64)) + (i11.toInt64))), .second, .val (.int (0 : Int32)), .unset, .unset, .unset, .unset, .unset, .unset] [(.ref wA)])) t → Steps p.tables e below (T0.setTop (mkF m 155 #[.val (.int i0), .val (.int i1), .val (.int i2), .val (.int i3), .val (.int i4), .val (.long j5), .second, .val (.int i7), .val (.int i8), .val (.long j9), .second, .val (.int i11), .val (.int i12), .val (.long j13), .second, .val (.long j15), .second, .val (.long j17), .second, .val (.int i19), .val (.int i20), .unset, .unset, .unset, .unset, .unset, .unset, .unset] [])) t := by
      intro t k
      refine pre215 _ ?_
      show Steps p.tables e below (T0.setTop (mkF m 302 #[.val (.int i0), .val (.int i1), .val (.int i2), .val (.int i3), .val (.int i4), .val (.long j5), .second, .val (.int i7), .val (.int i8), .val (.long j9), .second, .val (.int i11), .val (.int i12), .val (.long j13), .second, .val (.long j15), .second, .val (.long ((j5 * (12 : Int64)) + (i7.toInt64))), .second, .val (.long ((j9 * (12 : Int64)) + (i11.toInt64))), .second, .val (.int (0 : Int32)), .unset, .unset, .unset, .unset, .unset, .unset] [])) _
      refine st216 _ ?_
      exact k
    have pre218 : ∀ t, Steps p.tables e below (T216.setTop (mkF m 313 #[.val (.int i0), .val (.int i1), .val (.int i2), .val (.int i3), .val (.int i4), .val (.long j5), .second, .val (.int i7), .val (.int i8), .val (.long j9), .second, .val (.int i11), .val (.int i12), .val (.long j13), .second, .val (.long j15), .second, .val (.long ((j5 * (12 : Int64)) + (i7.toInt64))), .second, .val (.long ((j9 * (12 : Int64)) + (i11.toInt64))), .second, .val (.int (0 : Int32)), .unset, .unset, .unset, .unset, .unset, .unset] [(.int i12), (.long ((j9 * (12 : Int64)) + (i11.toInt64))), (.int i8), (.long ((j5 * (12 : Int64)) + (i7.toInt64))), (.ref wA)])) t → Steps p.tables e below (T0.setTop (mkF m 155 #[.val (.int i0), .val (.int i1), .val (.int i2), .val (.int i3), .val (.int i4), .val (.long j5), .second, .val (.int i7), .val (.int i8), .val (.long j9), .second, .val (.int i11), .val (.int i12), .val (.long j13), .second, .val (.long j15), .second, .val (.long j17), .second, .val (.int i19), .val (.int i20), .unset, .unset, .unset, .unset, .unset, .unset, .unset] [])) t := by
      intro t k
      refine pre217 _ ?_
      show Steps p.tables e below (T216.setTop (mkF m 305 #[.val (.int i0), .val (.int i1), .val (.int i2), .val (.int i3), .val (.int i4), .val (.long j5), .second, .val (.int i7), .val (.int i8), .val (.long j9), .second, .val (.int i11), .val (.int i12), .val (.long j13), .second, .val (.long j15), .second, .val (.long ((j5 * (12 : Int64)) + (i7.toInt64))), .second, .val (.long ((j9 * (12 : Int64)) + (i11.toInt64))), .second, .val (.int (0 : Int32)), .unset, .unset, .unset, .unset, .unset, .unset] [(.ref wA)])) _
      refine XS.lload X216.here hx rfl (hb hby at_305) rfl ?_
      show Steps p.tables e below (T216.setTop (mkF m 307 #[.val (.int i0), .val (.int i1), .val (.int i2), .val (.int i3), .val (.int i4), .val (.long j5), .second, .val (.int i7), .val (.int i8), .val (.long j9), .second, .val (.int i11), .val (.int i12), .val (.long j13), .second, .val (.long j15), .second, .val (.long ((j5 * (12 : Int64)) + (i7.toInt64))), .second, .val (.long ((j9 * (12 : Int64)) + (i11.toInt64))), .second, .val (.int (0 : Int32)), .unset, .unset, .unset, .unset, .unset, .unset] [(.long ((j5 * (12 : Int64)) + (i7.toInt64))), (.ref wA)])) _
      refine XS.iload X216.here hx rfl (hb hby at_307) rfl ?_
      show Steps p.tables e below (T216.setTop (mkF m 309 #[.val (.int i0), .val (.int i1), .val (.int i2), .val (.int i3), .val (.int i4), .val (.long j5), .second, .val (.int i7), .val (.int i8), .val (.long j9), .second, .val (.int i11), .val (.int i12), .val (.long j13), .second, .val (.long j15), .second, .val (.long ((j5 * (12 : Int64)) + (i7.toInt64))), .second, .val (.long ((j9 * (12 : Int64)) + (i11.toInt64))), .second, .val (.int (0 : Int32)), .unset, .unset, .unset, .unset, .unset, .unset] [(.int i8), (.long ((j5 * (12 : Int64)) + (i7.toInt64))), (.ref wA)])) _
      refine XS.lload X216.here hx rfl (hb hby at_309) rfl ?_
      show Steps p.tables e below (T216.setTop (mkF m 311 #[.val (.int i0), .val (.int i1), .val (.int i2), .val (.int i3), .val (.int i4), .val (.long j5), .second, .val (.int i7), .val (.int i8), .val (.long j9), .second, .val (.int i11), .val (.int i12), .val (.long j13), .second, .val (.long j15), .second, .val (.long ((j5 * (12 : Int64)) + (i7.toInt64))), .second, .val (.long ((j9 * (12 : Int64)) + (i11.toInt64))), .second, .val (.int (0 : Int32)), .unset, .unset, .unset, .unset, .unset, .unset] [(.long ((j9 * (12 : Int64)) + (i11.toInt64))), (.int i8), (.long ((j5 * (12 : Int64)) + (i7.toInt64))), (.ref wA)])) _
      refine XS.iload X216.here hx rfl (hb hby at_311) rfl ?_
      exact k
    obtain ⟨_, _, ⟨T219, L219, k219, n219⟩, -, X219, ⟨Lc219, hQ219, l219, y219, z219⟩, st219⟩ := Jvm.LawKit.callS X216 hx (y := (⟨"com/example/notesmith/notesmith/calc/Accrual", "days", "(Lcom/example/notesmith/notesmith/note/DayCount;JIJI)J"⟩ : MethodName)) hown (mvT hZ (hw _ (List.mem_of_getElem? (i := 10) rfl))) (mvT hZ (hw _ (List.mem_of_getElem? (i := 11) rfl))) (mvT hZ (hw _ (List.mem_of_getElem? (i := 12) rfl))) (mvT hZ (hw _ (List.mem_of_getElem? (i := 13) rfl))) (by decide) (backOf (W := 0) (rm2a l Z a0 hw [] wA ((j5 * (12 : Int64)) + (i7.toInt64)) i8 ((j9 * (12 : Int64)) + (i11.toInt64)) i12 cl_wS cl_wD wS wI wD h0 n0 Z0 E_wA Ford_A Ar_wS el_1 E_wI Ar_wD hD S_wS S_wI S_wD) hZ (hw _ (List.mem_of_getElem? (i := 13) rfl)) (hw _ (List.mem_of_getElem? (i := 12) rfl)) (by decide) (by decide)) (g := (mkF m 313 #[.val (.int i0), .val (.int i1), .val (.int i2), .val (.int i3), .val (.int i4), .val (.long j5), .second, .val (.int i7), .val (.int i8), .val (.long j9), .second, .val (.int i11), .val (.int i12), .val (.long j13), .second, .val (.long j15), .second, .val (.long ((j5 * (12 : Int64)) + (i7.toInt64))), .second, .val (.long ((j9 * (12 : Int64)) + (i11.toInt64))), .second, .val (.int (0 : Int32)), .unset, .unset, .unset, .unset, .unset, .unset] [(.int i12), (.long ((j9 * (12 : Int64)) + (i11.toInt64))), (.int i8), (.long ((j5 * (12 : Int64)) + (i7.toInt64))), (.ref wA)])) rfl (by rw [hml]; rfl) (argsL := [(.ref wA), (.long ((j5 * (12 : Int64)) + (i7.toInt64))), (.int i8), (.long ((j9 * (12 : Int64)) + (i11.toInt64))), (.int i12)]) (rest := []) (lenOf pd__Lcom_example_notesmith_notesmith_note_DayCount_JIJI_J rfl) rfl (by show 2 * 0 + _ ≤ _; exact Nat.le_of_eq rfl) (hb hby at_313) (fun _ _ => ⟨rfl, e216, (by decide : 0 + 0 ≤ _), (by decide : 0 + 0 ≤ _)⟩)
    dsimp only [Pt.U, Pt.locs, Pt.cells, Pt.slots] at X219 l219 y219 z219 st219 hQ219
    subst l219 y219 z219
    obtain ⟨rfl, N219q, e219⟩ := hQ219
    have N219 := Fr.app N0 N219q
    have pre220 : ∀ t, Steps p.tables e below (T219.setTop (mkF m 316 #[.val (.int i0), .val (.int i1), .val (.int i2), .val (.int i3), .val (.int i4), .val (.long j5), .second, .val (.int i7), .val (.int i8), .val (.long j9), .second, .val (.int i11), .val (.int i12), .val (.long j13), .second, .val (.long j15), .second, .val (.long ((j5 * (12 : Int64)) + (i7.toInt64))), .second, .val (.long ((j9 * (12 : Int64)) + (i11.toInt64))), .second, .val (.int (0 : Int32)), .unset, .unset, .unset, .unset, .unset, .unset] [(.long (F2a ((j5 * (12 : Int64)) + (i7.toInt64)) i8 ((j9 * (12 : Int64)) + (i11.toInt64)) i12))])) t → Steps p.tables e below (T0.setTop (mkF m 155 #[.val (.int i0), .val (.int i1), .val (.int i2), .val (.int i3), .val (.int i4), .val (.long j5), .second, .val (.int i7), .val (.int i8), .val (.long j9), .second, .val (.int i11), .val (.int i12), .val (.long j13), .second, .val (.long j15), .second, .val (.long j17), .second, .val (.int i19), .val (.int i20), .unset, .unset, .unset, .unset, .unset, .unset, .unset] [])) t := by
      intro t k
      refine pre218 _ ?_
      show Steps p.tables e below (T216.setTop (mkF m 313 #[.val (.int i0), .val (.int i1), .val (.int i2), .val (.int i3), .val (.int i4), .val (.long j5), .second, .val (.int i7), .val (.int i8), .val (.long j9), .second, .val (.int i11), .val (.int i12), .val (.long j13), .second, .val (.long j15), .second, .val (.long ((j5 * (12 : Int64)) + (i7.toInt64))), .second, .val (.long ((j9 * (12 : Int64)) + (i11.toInt64))), .second, .val (.int (0 : Int32)), .unset, .unset, .unset, .unset, .unset, .unset] [(.int i12), (.long ((j9 * (12 : Int64)) + (i11.toInt64))), (.int i8), (.long ((j5 * (12 : Int64)) + (i7.toInt64))), (.ref wA)])) _
      refine st219 _ ?_
      exact k
    have pre221 : ∀ t, Steps p.tables e below (T219.setTop (mkF m 326 #[.val (.int i0), .val (.int i1), .val (.int i2), .val (.int i3), .val (.int i4), .val (.long j5), .second, .val (.int i7), .val (.int i8), .val (.long j9), .second, .val (.int i11), .val (.int i12), .val (.long j13), .second, .val (.long j15), .second, .val (.long ((j5 * (12 : Int64)) + (i7.toInt64))), .second, .val (.long ((j9 * (12 : Int64)) + (i11.toInt64))), .second, .val (.int (0 : Int32)), .val (.long (F2a ((j5 * (12 : Int64)) + (i7.toInt64)) i8 ((j9 * (12 : Int64)) + (i11.toInt64)) i12)), .second, .unset, .unset, .unset, .unset] [(.int i12), (.int (i11 + (1 : Int32))), (.long j9)])) t → Steps p.tables e below (T0.setTop (mkF m 155 #[.val (.int i0), .val (.int i1), .val (.int i2), .val (.int i3), .val (.int i4), .val (.long j5), .second, .val (.int i7), .val (.int i8), .val (.long j9), .second, .val (.int i11), .val (.int i12), .val (.long j13), .second, .val (.long j15), .second, .val (.long j17), .second, .val (.int i19), .val (.int i20), .unset, .unset, .unset, .unset, .unset, .unset, .unset] [])) t := by
      intro t k
      refine pre220 _ ?_
      show Steps p.tables e below (T219.setTop (mkF m 316 #[.val (.int i0), .val (.int i1), .val (.int i2), .val (.int i3), .val (.int i4), .val (.long j5), .second, .val (.int i7), .val (.int i8), .val (.long j9), .second, .val (.int i11), .val (.int i12), .val (.long j13), .second, .val (.long j15), .second, .val (.long ((j5 * (12 : Int64)) + (i7.toInt64))), .second, .val (.long ((j9 * (12 : Int64)) + (i11.toInt64))), .second, .val (.int (0 : Int32)), .unset, .unset, .unset, .unset, .unset, .unset] [(.long (F2a ((j5 * (12 : Int64)) + (i7.toInt64)) i8 ((j9 * (12 : Int64)) + (i11.toInt64)) i12))])) _
      refine XS.lstore X219.here hx rfl (hb hby at_316) rfl (l' := #[.val (.int i0), .val (.int i1), .val (.int i2), .val (.int i3), .val (.int i4), .val (.long j5), .second, .val (.int i7), .val (.int i8), .val (.long j9), .second, .val (.int i11), .val (.int i12), .val (.long j13), .second, .val (.long j15), .second, .val (.long ((j5 * (12 : Int64)) + (i7.toInt64))), .second, .val (.long ((j9 * (12 : Int64)) + (i11.toInt64))), .second, .val (.int (0 : Int32)), .val (.long (F2a ((j5 * (12 : Int64)) + (i7.toInt64)) i8 ((j9 * (12 : Int64)) + (i11.toInt64)) i12)), .second, .unset, .unset, .unset, .unset]) rfl ?_
      show Steps p.tables e below (T219.setTop (mkF m 318 #[.val (.int i0), .val (.int i1), .val (.int i2), .val (.int i3), .val (.int i4), .val (.long j5), .second, .val (.int i7), .val (.int i8), .val (.long j9), .second, .val (.int i11), .val (.int i12), .val (.long j13), .second, .val (.long j15), .second, .val (.long ((j5 * (12 : Int64)) + (i7.toInt64))), .second, .val (.long ((j9 * (12 : Int64)) + (i11.toInt64))), .second, .val (.int (0 : Int32)), .val (.long (F2a ((j5 * (12 : Int64)) + (i7.toInt64)) i8 ((j9 * (12 : Int64)) + (i11.toInt64)) i12)), .second, .unset, .unset, .unset, .unset] [])) _
      refine XS.lload X219.here hx rfl (hb hby at_318) rfl ?_
      show Steps p.tables e below (T219.setTop (mkF m 320 #[.val (.int i0), .val (.int i1), .val (.int i2), .val (.int i3), .val (.int i4), .val (.long j5), .second, .val (.int i7), .val (.int i8), .val (.long j9), .second, .val (.int i11), .val (.int i12), .val (.long j13), .second, .val (.long j15), .second, .val (.long ((j5 * (12 : Int64)) + (i7.toInt64))), .second, .val (.long ((j9 * (12 : Int64)) + (i11.toInt64))), .second, .val (.int (0 : Int32)), .val (.long (F2a ((j5 * (12 : Int64)) + (i7.toInt64)) i8 ((j9 * (12 : Int64)) + (i11.toInt64)) i12)), .second, .unset, .unset, .unset, .unset] [(.long j9)])) _
      refine XS.iload X219.here hx rfl (hb hby at_320) rfl ?_
      show Steps p.tables e below (T219.setTop (mkF m 322 #[.val (.int i0), .val (.int i1), .val (.int i2), .val (.int i3), .val (.int i4), .val (.long j5), .second, .val (.int i7), .val (.int i8), .val (.long j9), .second, .val (.int i11), .val (.int i12), .val (.long j13), .second, .val (.long j15), .second, .val (.long ((j5 * (12 : Int64)) + (i7.toInt64))), .second, .val (.long ((j9 * (12 : Int64)) + (i11.toInt64))), .second, .val (.int (0 : Int32)), .val (.long (F2a ((j5 * (12 : Int64)) + (i7.toInt64)) i8 ((j9 * (12 : Int64)) + (i11.toInt64)) i12)), .second, .unset, .unset, .unset, .unset] [(.int i11), (.long j9)])) _
      refine XS.iconst X219.here hx rfl (hb hby at_322) ?_
      show Steps p.tables e below (T219.setTop (mkF m 323 #[.val (.int i0), .val (.int i1), .val (.int i2), .val (.int i3), .val (.int i4), .val (.long j5), .second, .val (.int i7), .val (.int i8), .val (.long j9), .second, .val (.int i11), .val (.int i12), .val (.long j13), .second, .val (.long j15), .second, .val (.long ((j5 * (12 : Int64)) + (i7.toInt64))), .second, .val (.long ((j9 * (12 : Int64)) + (i11.toInt64))), .second, .val (.int (0 : Int32)), .val (.long (F2a ((j5 * (12 : Int64)) + (i7.toInt64)) i8 ((j9 * (12 : Int64)) + (i11.toInt64)) i12)), .second, .unset, .unset, .unset, .unset] [(.int (1 : Int32)), (.int i11), (.long j9)])) _
      refine XS.iadd X219.here hx rfl (hb hby at_323) rfl ?_
      show Steps p.tables e below (T219.setTop (mkF m 324 #[.val (.int i0), .val (.int i1), .val (.int i2), .val (.int i3), .val (.int i4), .val (.long j5), .second, .val (.int i7), .val (.int i8), .val (.long j9), .second, .val (.int i11), .val (.int i12), .val (.long j13), .second, .val (.long j15), .second, .val (.long ((j5 * (12 : Int64)) + (i7.toInt64))), .second, .val (.long ((j9 * (12 : Int64)) + (i11.toInt64))), .second, .val (.int (0 : Int32)), .val (.long (F2a ((j5 * (12 : Int64)) + (i7.toInt64)) i8 ((j9 * (12 : Int64)) + (i11.toInt64)) i12)), .second, .unset, .unset, .unset, .unset] [(.int (i11 + (1 : Int32))), (.long j9)])) _
      refine XS.iload X219.here hx rfl (hb hby at_324) rfl ?_
      exact k
    obtain ⟨_, _, ⟨T222, L222, k222, n222⟩, -, X222, ⟨Lc222, hQ222, l222, y222, z222⟩, st222⟩ := Jvm.LawKit.callS X219 hx (y := (⟨"com/example/notesmith/notesmith/calc/AccrualDaysPinLaw", "civilDays", "(JII)J"⟩ : MethodName)) hown (mvT hZ (hw _ (List.mem_of_getElem? (i := 56) rfl))) (mvT hZ (hw _ (List.mem_of_getElem? (i := 57) rfl))) (mvT hZ (hw _ (List.mem_of_getElem? (i := 4) rfl))) (mvT hZ (hw _ (List.mem_of_getElem? (i := 58) rfl))) (by decide) (backOf (W := 0) (rm10 l Z a0 hw [] j9 (i11 + (1 : Int32)) i12 h0 n0 Z0 ) hZ (hw _ (List.mem_of_getElem? (i := 58) rfl)) (hw _ (List.mem_of_getElem? (i := 4) rfl)) (by decide) (by decide)) (g := (mkF m 326 #[.val (.int i0), .val (.int i1), .val (.int i2), .val (.int i3), .val (.int i4), .val (.long j5), .second, .val (.int i7), .val (.int i8), .val (.long j9), .second, .val (.int i11), .val (.int i12), .val (.long j13), .second, .val (.long j15), .second, .val (.long ((j5 * (12 : Int64)) + (i7.toInt64))), .second, .val (.long ((j9 * (12 : Int64)) + (i11.toInt64))), .second, .val (.int (0 : Int32)), .val (.long (F2a ((j5 * (12 : Int64)) + (i7.toInt64)) i8 ((j9 * (12 : Int64)) + (i11.toInt64)) i12)), .second, .unset, .unset, .unset, .unset] [(.int i12), (.int (i11 + (1 : Int32))), (.long j9)])) rfl (by rw [hml]; rfl) (argsL := [(.long j9), (.int (i11 + (1 : Int32))), (.int i12)]) (rest := []) (lenOf pd__JII_J rfl) rfl (by show 2 * 0 + _ ≤ _; exact Nat.le_of_eq rfl) (hb hby at_326) (fun _ _ => ⟨rfl, e219, (by decide : 0 + 0 ≤ _), (by decide : 0 + 0 ≤ _)⟩)
    dsimp only [Pt.U, Pt.locs, Pt.cells, Pt.slots] at X222 l222 y222 z222 st222 hQ222
    subst l222 y222 z222
    obtain ⟨rfl, N222q, e222⟩ := hQ222
    have N222 := Fr.app N219 N222q
    have pre223 : ∀ t, Steps p.tables e below (T222.setTop (mkF m 329 #[.val (.int i0), .val (.int i1), .val (.int i2), .val (.int i3), .val (.int i4), .val (.long j5), .second, .val (.int i7), .val (.int i8), .val (.long j9), .second, .val (.int i11), .val (.int i12), .val (.long j13), .second, .val (.long j15), .second, .val (.long ((j5 * (12 : Int64)) + (i7.toInt64))), .second, .val (.long ((j9 * (12 : Int64)) + (i11.toInt64))), .second, .val (.int (0 : Int32)), .val (.long (F2a ((j5 * (12 : Int64)) + (i7.toInt64)) i8 ((j9 * (12 : Int64)) + (i11.toInt64)) i12)), .second, .unset, .unset, .unset, .unset] [(.long (F10 j9 (i11 + (1 : Int32)) i12))])) t → Steps p.tables e below (T0.setTop (mkF m 155 #[.val (.int i0), .val (.int i1), .val (.int i2), .val (.int i3), .val (.int i4), .val (.long j5), .second, .val (.int i7), .val (.int i8), .val (.long j9), .second, .val (.int i11), .val (.int i12), .val (.long j13), .second, .val (.long j15), .second, .val (.long j17), .second, .val (.int i19), .val (.int i20), .unset, .unset, .unset, .unset, .unset, .unset, .unset] [])) t := by
      intro t k
      refine pre221 _ ?_
      show Steps p.tables e below (T219.setTop (mkF m 326 #[.val (.int i0), .val (.int i1), .val (.int i2), .val (.int i3), .val (.int i4), .val (.long j5), .second, .val (.int i7), .val (.int i8), .val (.long j9), .second, .val (.int i11), .val (.int i12), .val (.long j13), .second, .val (.long j15), .second, .val (.long ((j5 * (12 : Int64)) + (i7.toInt64))), .second, .val (.long ((j9 * (12 : Int64)) + (i11.toInt64))), .second, .val (.int (0 : Int32)), .val (.long (F2a ((j5 * (12 : Int64)) + (i7.toInt64)) i8 ((j9 * (12 : Int64)) + (i11.toInt64)) i12)), .second, .unset, .unset, .unset, .unset] [(.int i12), (.int (i11 + (1 : Int32))), (.long j9)])) _
      refine st222 _ ?_
      exact k
    have pre224 : ∀ t, Steps p.tables e below (T222.setTop (mkF m 337 #[.val (.int i0), .val (.int i1), .val (.int i2), .val (.int i3), .val (.int i4), .val (.long j5), .second, .val (.int i7), .val (.int i8), .val (.long j9), .second, .val (.int i11), .val (.int i12), .val (.long j13), .second, .val (.long j15), .second, .val (.long ((j5 * (12 : Int64)) + (i7.toInt64))), .second, .val (.long ((j9 * (12 : Int64)) + (i11.toInt64))), .second, .val (.int (0 : Int32)), .val (.long (F2a ((j5 * (12 : Int64)) + (i7.toInt64)) i8 ((j9 * (12 : Int64)) + (i11.toInt64)) i12)), .second, .unset, .unset, .unset, .unset] [(.int i8), (.int (i7 + (1 : Int32))), (.long j5), (.long (F10 j9 (i11 + (1 : Int32)) i12))])) t → Steps p.tables e below (T0.setTop (mkF m 155 #[.val (.int i0), .val (.int i1), .val (.int i2), .val (.int i3), .val (.int i4), .val (.long j5), .second, .val (.int i7), .val (.int i8), .val (.long j9), .second, .val (.int i11), .val (.int i12), .val (.long j13), .second, .val (.long j15), .second, .val (.long j17), .second, .val (.int i19), .val (.int i20), .unset, .unset, .unset, .unset, .unset, .unset, .unset] [])) t := by
      intro t k
      refine pre223 _ ?_
      show Steps p.tables e below (T222.setTop (mkF m 329 #[.val (.int i0), .val (.int i1), .val (.int i2), .val (.int i3), .val (.int i4), .val (.long j5), .second, .val (.int i7), .val (.int i8), .val (.long j9), .second, .val (.int i11), .val (.int i12), .val (.long j13), .second, .val (.long j15), .second, .val (.long ((j5 * (12 : Int64)) + (i7.toInt64))), .second, .val (.long ((j9 * (12 : Int64)) + (i11.toInt64))), .second, .val (.int (0 : Int32)), .val (.long (F2a ((j5 * (12 : Int64)) + (i7.toInt64)) i8 ((j9 * (12 : Int64)) + (i11.toInt64)) i12)), .second, .unset, .unset, .unset, .unset] [(.long (F10 j9 (i11 + (1 : Int32)) i12))])) _
      refine XS.lload X222.here hx rfl (hb hby at_329) rfl ?_
      show Steps p.tables e below (T222.setTop (mkF m 331 #[.val (.int i0), .val (.int i1), .val (.int i2), .val (.int i3), .val (.int i4), .val (.long j5), .second, .val (.int i7), .val (.int i8), .val (.long j9), .second, .val (.int i11), .val (.int i12), .val (.long j13), .second, .val (.long j15), .second, .val (.long ((j5 * (12 : Int64)) + (i7.toInt64))), .second, .val (.long ((j9 * (12 : Int64)) + (i11.toInt64))), .second, .val (.int (0 : Int32)), .val (.long (F2a ((j5 * (12 : Int64)) + (i7.toInt64)) i8 ((j9 * (12 : Int64)) + (i11.toInt64)) i12)), .second, .unset, .unset, .unset, .unset] [(.long j5), (.long (F10 j9 (i11 + (1 : Int32)) i12))])) _
      refine XS.iload X222.here hx rfl (hb hby at_331) rfl ?_
      show Steps p.tables e below (T222.setTop (mkF m 333 #[.val (.int i0), .val (.int i1), .val (.int i2), .val (.int i3), .val (.int i4), .val (.long j5), .second, .val (.int i7), .val (.int i8), .val (.long j9), .second, .val (.int i11), .val (.int i12), .val (.long j13), .second, .val (.long j15), .second, .val (.long ((j5 * (12 : Int64)) + (i7.toInt64))), .second, .val (.long ((j9 * (12 : Int64)) + (i11.toInt64))), .second, .val (.int (0 : Int32)), .val (.long (F2a ((j5 * (12 : Int64)) + (i7.toInt64)) i8 ((j9 * (12 : Int64)) + (i11.toInt64)) i12)), .second, .unset, .unset, .unset, .unset] [(.int i7), (.long j5), (.long (F10 j9 (i11 + (1 : Int32)) i12))])) _
      refine XS.iconst X222.here hx rfl (hb hby at_333) ?_
      show Steps p.tables e below (T222.setTop (mkF m 334 #[.val (.int i0), .val (.int i1), .val (.int i2), .val (.int i3), .val (.int i4), .val (.long j5), .second, .val (.int i7), .val (.int i8), .val (.long j9), .second, .val (.int i11), .val (.int i12), .val (.long j13), .second, .val (.long j15), .second, .val (.long ((j5 * (12 : Int64)) + (i7.toInt64))), .second, .val (.long ((j9 * (12 : Int64)) + (i11.toInt64))), .second, .val (.int (0 : Int32)), .val (.long (F2a ((j5 * (12 : Int64)) + (i7.toInt64)) i8 ((j9 * (12 : Int64)) + (i11.toInt64)) i12)), .second, .unset, .unset, .unset, .unset] [(.int (1 : Int32)), (.int i7), (.long j5), (.long (F10 j9 (i11 + (1 : Int32)) i12))])) _
      refine XS.iadd X222.here hx rfl (hb hby at_334) rfl ?_
      show Steps p.tables e below (T222.setTop (mkF m 335 #[.val (.int i0), .val (.int i1), .val (.int i2), .val (.int i3), .val (.int i4), .val (.long j5), .second, .val (.int i7), .val (.int i8), .val (.long j9), .second, .val (.int i11), .val (.int i12), .val (.long j13), .second, .val (.long j15), .second, .val (.long ((j5 * (12 : Int64)) + (i7.toInt64))), .second, .val (.long ((j9 * (12 : Int64)) + (i11.toInt64))), .second, .val (.int (0 : Int32)), .val (.long (F2a ((j5 * (12 : Int64)) + (i7.toInt64)) i8 ((j9 * (12 : Int64)) + (i11.toInt64)) i12)), .second, .unset, .unset, .unset, .unset] [(.int (i7 + (1 : Int32))), (.long j5), (.long (F10 j9 (i11 + (1 : Int32)) i12))])) _
      refine XS.iload X222.here hx rfl (hb hby at_335) rfl ?_
      exact k
    obtain ⟨_, _, ⟨T225, L225, k225, n225⟩, -, X225, ⟨Lc225, hQ225, l225, y225, z225⟩, st225⟩ := Jvm.LawKit.callS X222 hx (y := (⟨"com/example/notesmith/notesmith/calc/AccrualDaysPinLaw", "civilDays", "(JII)J"⟩ : MethodName)) hown (mvT hZ (hw _ (List.mem_of_getElem? (i := 56) rfl))) (mvT hZ (hw _ (List.mem_of_getElem? (i := 57) rfl))) (mvT hZ (hw _ (List.mem_of_getElem? (i := 4) rfl))) (mvT hZ (hw _ (List.mem_of_getElem? (i := 58) rfl))) (by decide) (backOf (W := 2) (rm10 l Z a0 hw [] j5 (i7 + (1 : Int32)) i8 h0 n0 Z0 ) hZ (hw _ (List.mem_of_getElem? (i := 58) rfl)) (hw _ (List.mem_of_getElem? (i := 4) rfl)) (by decide) (by decide)) (g := (mkF m 337 #[.val (.int i0), .val (.int i1), .val (.int i2), .val (.int i3), .val (.int i4), .val (.long j5), .second, .val (.int i7), .val (.int i8), .val (.long j9), .second, .val (.int i11), .val (.int i12), .val (.long j13), .second, .val (.long j15), .second, .val (.long ((j5 * (12 : Int64)) + (i7.toInt64))), .second, .val (.long ((j9 * (12 : Int64)) + (i11.toInt64))), .second, .val (.int (0 : Int32)), .val (.long (F2a ((j5 * (12 : Int64)) + (i7.toInt64)) i8 ((j9 * (12 : Int64)) + (i11.toInt64)) i12)), .second, .unset, .unset, .unset, .unset] [(.int i8), (.int (i7 + (1 : Int32))), (.long j5), (.long (F10 j9 (i11 + (1 : Int32)) i12))])) rfl (by rw [hml]; rfl) (argsL := [(.long j5), (.int (i7 + (1 : Int32))), (.int i8)]) (rest := [(.long (F10 j9 (i11 + (1 : Int32)) i12))]) (lenOf pd__JII_J rfl) rfl (by show 2 * 0 + _ ≤ _; exact Nat.le_of_eq rfl) (hb hby at_337) (fun _ _ => ⟨rfl, e222, (by decide : 0 + 0 ≤ _), (by decide : 0 + 0 ≤ _)⟩)
    dsimp only [Pt.U, Pt.locs, Pt.cells, Pt.slots] at X225 l225 y225 z225 st225 hQ225
    subst l225 y225 z225
    obtain ⟨rfl, N225q, e225⟩ := hQ225
    have N225 := Fr.app N222 N225q
    have pre226 : ∀ t, Steps p.tables e below (T225.setTop (mkF m 340 #[.val (.int i0), .val (.int i1), .val (.int i2), .val (.int i3), .val (.int i4), .val (.long j5), .second, .val (.int i7), .val (.int i8), .val (.long j9), .second, .val (.int i11), .val (.int i12), .val (.long j13), .second, .val (.long j15), .second, .val (.long ((j5 * (12 : Int64)) + (i7.toInt64))), .second, .val (.long ((j9 * (12 : Int64)) + (i11.toInt64))), .second, .val (.int (0 : Int32)), .val (.long (F2a ((j5 * (12 : Int64)) + (i7.toInt64)) i8 ((j9 * (12 : Int64)) + (i11.toInt64)) i12)), .second, .unset, .unset, .unset, .unset] [(.long (F10 j5 (i7 + (1 : Int32)) i8)), (.long (F10 j9 (i11 + (1 : Int32)) i12))])) t → Steps p.tables e below (T0.setTop (mkF m 155 #[.val (.int i0), .val (.int i1), .val (.int i2), .val (.int i3), .val (.int i4), .val (.long j5), .second, .val (.int i7), .val (.int i8), .val (.long j9), .second, .val (.int i11), .val (.int i12), .val (.long j13), .second, .val (.long j15), .second, .val (.long j17), .second, .val (.int i19), .val (.int i20), .unset, .unset, .unset, .unset, .unset, .unset, .unset] [])) t := by
      intro t k
      refine pre224 _ ?_
      show Steps p.tables e below (T222.setTop (mkF m 337 #[.val (.int i0), .val (.int i1), .val (.int i2), .val (.int i3), .val (.int i4), .val (.long j5), .second, .val (.int i7), .val (.int i8), .val (.long j9), .second, .val (.int i11), .val (.int i12), .val (.long j13), .second, .val (.long j15), .second, .val (.long ((j5 * (12 : Int64)) + (i7.toInt64))), .second, .val (.long ((j9 * (12 : Int64)) + (i11.toInt64))), .second, .val (.int (0 : Int32)), .val (.long (F2a ((j5 * (12 : Int64)) + (i7.toInt64)) i8 ((j9 * (12 : Int64)) + (i11.toInt64)) i12)), .second, .unset, .unset, .unset, .unset] [(.int i8), (.int (i7 + (1 : Int32))), (.long j5), (.long (F10 j9 (i11 + (1 : Int32)) i12))])) _
      refine st225 _ ?_
      exact k
    have pre227 : ∀ t, Steps p.tables e below (T225.setTop (mkF m 348 #[.val (.int i0), .val (.int i1), .val (.int i2), .val (.int i3), .val (.int i4), .val (.long j5), .second, .val (.int i7), .val (.int i8), .val (.long j9), .second, .val (.int i11), .val (.int i12), .val (.long j13), .second, .val (.long j15), .second, .val (.long ((j5 * (12 : Int64)) + (i7.toInt64))), .second, .val (.long ((j9 * (12 : Int64)) + (i11.toInt64))), .second, .val (.int (0 : Int32)), .val (.long (F2a ((j5 * (12 : Int64)) + (i7.toInt64)) i8 ((j9 * (12 : Int64)) + (i11.toInt64)) i12)), .second, .val (.long ((F10 j9 (i11 + (1 : Int32)) i12) - (F10 j5 (i7 + (1 : Int32)) i8))), .second, .unset, .unset] [(.int (lcmpW (F2a ((j5 * (12 : Int64)) + (i7.toInt64)) i8 ((j9 * (12 : Int64)) + (i11.toInt64)) i12) ((F10 j9 (i11 + (1 : Int32)) i12) - (F10 j5 (i7 + (1 : Int32)) i8))))])) t → Steps p.tables e below (T0.setTop (mkF m 155 #[.val (.int i0), .val (.int i1), .val (.int i2), .val (.int i3), .val (.int i4), .val (.long j5), .second, .val (.int i7), .val (.int i8), .val (.long j9), .second, .val (.int i11), .val (.int i12), .val (.long j13), .second, .val (.long j15), .second, .val (.long j17), .second, .val (.int i19), .val (.int i20), .unset, .unset, .unset, .unset, .unset, .unset, .unset] [])) t := by
      intro t k
      refine pre226 _ ?_
      show Steps p.tables e below (T225.setTop (mkF m 340 #[.val (.int i0), .val (.int i1), .val (.int i2), .val (.int i3), .val (.int i4), .val (.long j5), .second, .val (.int i7), .val (.int i8), .val (.long j9), .second, .val (.int i11), .val (.int i12), .val (.long j13), .second, .val (.long j15), .second, .val (.long ((j5 * (12 : Int64)) + (i7.toInt64))), .second, .val (.long ((j9 * (12 : Int64)) + (i11.toInt64))), .second, .val (.int (0 : Int32)), .val (.long (F2a ((j5 * (12 : Int64)) + (i7.toInt64)) i8 ((j9 * (12 : Int64)) + (i11.toInt64)) i12)), .second, .unset, .unset, .unset, .unset] [(.long (F10 j5 (i7 + (1 : Int32)) i8)), (.long (F10 j9 (i11 + (1 : Int32)) i12))])) _
      refine XS.lsub X225.here hx rfl (hb hby at_340) rfl ?_
      show Steps p.tables e below (T225.setTop (mkF m 341 #[.val (.int i0), .val (.int i1), .val (.int i2), .val (.int i3), .val (.int i4), .val (.long j5), .second, .val (.int i7), .val (.int i8), .val (.long j9), .second, .val (.int i11), .val (.int i12), .val (.long j13), .second, .val (.long j15), .second, .val (.long ((j5 * (12 : Int64)) + (i7.toInt64))), .second, .val (.long ((j9 * (12 : Int64)) + (i11.toInt64))), .second, .val (.int (0 : Int32)), .val (.long (F2a ((j5 * (12 : Int64)) + (i7.toInt64)) i8 ((j9 * (12 : Int64)) + (i11.toInt64)) i12)), .second, .unset, .unset, .unset, .unset] [(.long ((F10 j9 (i11 + (1 : Int32)) i12) - (F10 j5 (i7 + (1 : Int32)) i8)))])) _
      refine XS.lstore X225.here hx rfl (hb hby at_341) rfl (l' := #[.val (.int i0), .val (.int i1), .val (.int i2), .val (.int i3), .val (.int i4), .val (.long j5), .second, .val (.int i7), .val (.int i8), .val (.long j9), .second, .val (.int i11), .val (.int i12), .val (.long j13), .second, .val (.long j15), .second, .val (.long ((j5 * (12 : Int64)) + (i7.toInt64))), .second, .val (.long ((j9 * (12 : Int64)) + (i11.toInt64))), .second, .val (.int (0 : Int32)), .val (.long (F2a ((j5 * (12 : Int64)) + (i7.toInt64)) i8 ((j9 * (12 : Int64)) + (i11.toInt64)) i12)), .second, .val (.long ((F10 j9 (i11 + (1 : Int32)) i12) - (F10 j5 (i7 + (1 : Int32)) i8))), .second, .unset, .unset]) rfl ?_
      show Steps p.tables e below (T225.setTop (mkF m 343 #[.val (.int i0), .val (.int i1), .val (.int i2), .val (.int i3), .val (.int i4), .val (.long j5), .second, .val (.int i7), .val (.int i8), .val (.long j9), .second, .val (.int i11), .val (.int i12), .val (.long j13), .second, .val (.long j15), .second, .val (.long ((j5 * (12 : Int64)) + (i7.toInt64))), .second, .val (.long ((j9 * (12 : Int64)) + (i11.toInt64))), .second, .val (.int (0 : Int32)), .val (.long (F2a ((j5 * (12 : Int64)) + (i7.toInt64)) i8 ((j9 * (12 : Int64)) + (i11.toInt64)) i12)), .second, .val (.long ((F10 j9 (i11 + (1 : Int32)) i12) - (F10 j5 (i7 + (1 : Int32)) i8))), .second, .unset, .unset] [])) _
      refine XS.lload X225.here hx rfl (hb hby at_343) rfl ?_
      show Steps p.tables e below (T225.setTop (mkF m 345 #[.val (.int i0), .val (.int i1), .val (.int i2), .val (.int i3), .val (.int i4), .val (.long j5), .second, .val (.int i7), .val (.int i8), .val (.long j9), .second, .val (.int i11), .val (.int i12), .val (.long j13), .second, .val (.long j15), .second, .val (.long ((j5 * (12 : Int64)) + (i7.toInt64))), .second, .val (.long ((j9 * (12 : Int64)) + (i11.toInt64))), .second, .val (.int (0 : Int32)), .val (.long (F2a ((j5 * (12 : Int64)) + (i7.toInt64)) i8 ((j9 * (12 : Int64)) + (i11.toInt64)) i12)), .second, .val (.long ((F10 j9 (i11 + (1 : Int32)) i12) - (F10 j5 (i7 + (1 : Int32)) i8))), .second, .unset, .unset] [(.long (F2a ((j5 * (12 : Int64)) + (i7.toInt64)) i8 ((j9 * (12 : Int64)) + (i11.toInt64)) i12))])) _
      refine XS.lload X225.here hx rfl (hb hby at_345) rfl ?_
      show Steps p.tables e below (T225.setTop (mkF m 347 #[.val (.int i0), .val (.int i1), .val (.int i2), .val (.int i3), .val (.int i4), .val (.long j5), .second, .val (.int i7), .val (.int i8), .val (.long j9), .second, .val (.int i11), .val (.int i12), .val (.long j13), .second, .val (.long j15), .second, .val (.long ((j5 * (12 : Int64)) + (i7.toInt64))), .second, .val (.long ((j9 * (12 : Int64)) + (i11.toInt64))), .second, .val (.int (0 : Int32)), .val (.long (F2a ((j5 * (12 : Int64)) + (i7.toInt64)) i8 ((j9 * (12 : Int64)) + (i11.toInt64)) i12)), .second, .val (.long ((F10 j9 (i11 + (1 : Int32)) i12) - (F10 j5 (i7 + (1 : Int32)) i8))), .second, .unset, .unset] [(.long ((F10 j9 (i11 + (1 : Int32)) i12) - (F10 j5 (i7 + (1 : Int32)) i8))), (.long (F2a ((j5 * (12 : Int64)) + (i7.toInt64)) i8 ((j9 * (12 : Int64)) + (i11.toInt64)) i12))])) _
      refine XS.lcmp X225.here hx rfl (hb hby at_347) rfl ?_
      exact k
    by_cases hc228 : (lcmpW (F2a ((j5 * (12 : Int64)) + (i7.toInt64)) i8 ((j9 * (12 : Int64)) + (i11.toInt64)) i12) ((F10 j9 (i11 + (1 : Int32)) i12) - (F10 j5 (i7 + (1 : Int32)) i8))) = (0 : Int32)
    · have pre229 : ∀ t, Steps p.tables e below (T225.setTop (mkF m 351 #[.val (.int i0), .val (.int i1), .val (.int i2), .val (.int i3), .val (.int i4), .val (.long j5), .second, .val (.int i7), .val (.int i8), .val (.long j9), .second, .val (.int i11), .val (.int i12), .val (.long j13), .second, .val (.long j15), .second, .val (.long ((j5 * (12 : Int64)) + (i7.toInt64))), .second, .val (.long ((j9 * (12 : Int64)) + (i11.toInt64))), .second, .val (.int (0 : Int32)), .val (.long (F2a ((j5 * (12 : Int64)) + (i7.toInt64)) i8 ((j9 * (12 : Int64)) + (i11.toInt64)) i12)), .second, .val (.long ((F10 j9 (i11 + (1 : Int32)) i12) - (F10 j5 (i7 + (1 : Int32)) i8))), .second, .unset, .unset] [])) t → Steps p.tables e below (T0.setTop (mkF m 155 #[.val (.int i0), .val (.int i1), .val (.int i2), .val (.int i3), .val (.int i4), .val (.long j5), .second, .val (.int i7), .val (.int i8), .val (.long j9), .second, .val (.int i11), .val (.int i12), .val (.long j13), .second, .val (.long j15), .second, .val (.long j17), .second, .val (.int i19), .val (.int i20), .unset, .unset, .unset, .unset, .unset, .unset, .unset] [])) t := by
        intro t k
        refine pre227 _ ?_
        show Steps p.tables e below (T225.setTop (mkF m 348 #[.val (.int i0), .val (.int i1), .val (.int i2), .val (.int i3), .val (.int i4), .val (.long j5), .second, .val (.int i7), .val (.int i8), .val (.long j9), .second, .val (.int i11), .val (.int i12), .val (.long j13), .second, .val (.long j15), .second, .val (.long ((j5 * (12 : Int64)) + (i7.toInt64))), .second, .val (.long ((j9 * (12 : Int64)) + (i11.toInt64))), .second, .val (.int (0 : Int32)), .val (.long (F2a ((j5 * (12 : Int64)) + (i7.toInt64)) i8 ((j9 * (12 : Int64)) + (i11.toInt64)) i12)), .second, .val (.long ((F10 j9 (i11 + (1 : Int32)) i12) - (F10 j5 (i7 + (1 : Int32)) i8))), .second, .unset, .unset] [(.int (lcmpW (F2a ((j5 * (12 : Int64)) + (i7.toInt64)) i8 ((j9 * (12 : Int64)) + (i11.toInt64)) i12) ((F10 j9 (i11 + (1 : Int32)) i12) - (F10 j5 (i7 + (1 : Int32)) i8))))])) _
        refine XS.ifNo X225.here hx rfl (hb hby at_348) rfl ((if0 _ _).trans (teq hc228).2) ?_
        exact k
      have pre230 : ∀ t, Steps p.tables e below (T225.setTop (mkF m 356 #[.val (.int i0), .val (.int i1), .val (.int i2), .val (.int i3), .val (.int i4), .val (.long j5), .second, .val (.int i7), .val (.int i8), .val (.long j9), .second, .val (.int i11), .val (.int i12), .val (.long j13), .second, .val (.long j15), .second, .val (.long ((j5 * (12 : Int64)) + (i7.toInt64))), .second, .val (.long ((j9 * (12 : Int64)) + (i11.toInt64))), .second, .val (.int (0 : Int32)), .val (.long (F2a ((j5 * (12 : Int64)) + (i7.toInt64)) i8 ((j9 * (12 : Int64)) + (i11.toInt64)) i12)), .second, .val (.long ((F10 j9 (i11 + (1 : Int32)) i12) - (F10 j5 (i7 + (1 : Int32)) i8))), .second, .unset, .unset] [(.int (1 : Int32))])) t → Steps p.tables e below (T0.setTop (mkF m 155 #[.val (.int i0), .val (.int i1), .val (.int i2), .val (.int i3), .val (.int i4), .val (.long j5), .second, .val (.int i7), .val (.int i8), .val (.long j9), .second, .val (.int i11), .val (.int i12), .val (.long j13), .second, .val (.long j15), .second, .val (.long j17), .second, .val (.int i19), .val (.int i20), .unset, .unset, .unset, .unset, .unset, .unset, .unset] [])) t := by
        intro t k
        refine pre229 _ ?_
        show Steps p.tables e below (T225.setTop (mkF m 351 #[.val (.int i0), .val (.int i1), .val (.int i2), .val (.int i3), .val (.int i4), .val (.long j5), .second, .val (.int i7), .val (.int i8), .val (.long j9), .second, .val (.int i11), .val (.int i12), .val (.long j13), .second, .val (.long j15), .second, .val (.long ((j5 * (12 : Int64)) + (i7.toInt64))), .second, .val (.long ((j9 * (12 : Int64)) + (i11.toInt64))), .second, .val (.int (0 : Int32)), .val (.long (F2a ((j5 * (12 : Int64)) + (i7.toInt64)) i8 ((j9 * (12 : Int64)) + (i11.toInt64)) i12)), .second, .val (.long ((F10 j9 (i11 + (1 : Int32)) i12) - (F10 j5 (i7 + (1 : Int32)) i8))), .second, .unset, .unset] [])) _
        refine XS.iconst X225.here hx rfl (hb hby at_351) ?_
        show Steps p.tables e below (T225.setTop (mkF m 352 #[.val (.int i0), .val (.int i1), .val (.int i2), .val (.int i3), .val (.int i4), .val (.long j5), .second, .val (.int i7), .val (.int i8), .val (.long j9), .second, .val (.int i11), .val (.int i12), .val (.long j13), .second, .val (.long j15), .second, .val (.long ((j5 * (12 : Int64)) + (i7.toInt64))), .second, .val (.long ((j9 * (12 : Int64)) + (i11.toInt64))), .second, .val (.int (0 : Int32)), .val (.long (F2a ((j5 * (12 : Int64)) + (i7.toInt64)) i8 ((j9 * (12 : Int64)) + (i11.toInt64)) i12)), .second, .val (.long ((F10 j9 (i11 + (1 : Int32)) i12) - (F10 j5 (i7 + (1 : Int32)) i8))), .second, .unset, .unset] [(.int (1 : Int32))])) _
        refine XS.goto X225.here hx rfl (pc0 := 352) (pc' := 356) rfl (hb hby at_352) (by decide) (by decide) ?_
        exact k
      obtain ⟨fs, hr, hrun, hended, hW, hsame⟩ := X225.leave (v := some (.int (1 : Int32))) (fun h => by rw [hret] at h; cases h) (hlocks := hlocks)
      refine ⟨_, _, pre230 _ ?_, hrun, hended, _, _, rfl, ?_, ⟨_, rfl⟩, hW, hsame.mono (by decide) (by decide)⟩
      · show Steps p.tables e below (T225.setTop (mkF m 356 #[.val (.int i0), .val (.int i1), .val (.int i2), .val (.int i3), .val (.int i4), .val (.long j5), .second, .val (.int i7), .val (.int i8), .val (.long j9), .second, .val (.int i11), .val (.int i12), .val (.long j13), .second, .val (.long j15), .second, .val (.long ((j5 * (12 : Int64)) + (i7.toInt64))), .second, .val (.long ((j9 * (12 : Int64)) + (i11.toInt64))), .second, .val (.int (0 : Int32)), .val (.long (F2a ((j5 * (12 : Int64)) + (i7.toInt64)) i8 ((j9 * (12 : Int64)) + (i11.toInt64)) i12)), .second, .val (.long ((F10 j9 (i11 + (1 : Int32)) i12) - (F10 j5 (i7 + (1 : Int32)) i8))), .second, .unset, .unset] [(.int (1 : Int32))])) _
        exact retN X225 hx (t := .boolean) hret (by simp) (hb hby at_356) hr
      · exact ⟨(by rw [F0_155_0, if_pos hc211, if_pos hc228]), N225, e225⟩
    · have pre231 : ∀ t, Steps p.tables e below (T225.setTop (mkF m 355 #[.val (.int i0), .val (.int i1), .val (.int i2), .val (.int i3), .val (.int i4), .val (.long j5), .second, .val (.int i7), .val (.int i8), .val (.long j9), .second, .val (.int i11), .val (.int i12), .val (.long j13), .second, .val (.long j15), .second, .val (.long ((j5 * (12 : Int64)) + (i7.toInt64))), .second, .val (.long ((j9 * (12 : Int64)) + (i11.toInt64))), .second, .val (.int (0 : Int32)), .val (.long (F2a ((j5 * (12 : Int64)) + (i7.toInt64)) i8 ((j9 * (12 : Int64)) + (i11.toInt64)) i12)), .second, .val (.long ((F10 j9 (i11 + (1 : Int32)) i12) - (F10 j5 (i7 + (1 : Int32)) i8))), .second, .unset, .unset] [])) t → Steps p.tables e below (T0.setTop (mkF m 155 #[.val (.int i0), .val (.int i1), .val (.int i2), .val (.int i3), .val (.int i4), .val (.long j5), .second, .val (.int i7), .val (.int i8), .val (.long j9), .second, .val (.int i11), .val (.int i12), .val (.long j13), .second, .val (.long j15), .second, .val (.long j17), .second, .val (.int i19), .val (.int i20), .unset, .unset, .unset, .unset, .unset, .unset, .unset] [])) t := by
        intro t k
        refine pre227 _ ?_
        show Steps p.tables e below (T225.setTop (mkF m 348 #[.val (.int i0), .val (.int i1), .val (.int i2), .val (.int i3), .val (.int i4), .val (.long j5), .second, .val (.int i7), .val (.int i8), .val (.long j9), .second, .val (.int i11), .val (.int i12), .val (.long j13), .second, .val (.long j15), .second, .val (.long ((j5 * (12 : Int64)) + (i7.toInt64))), .second, .val (.long ((j9 * (12 : Int64)) + (i11.toInt64))), .second, .val (.int (0 : Int32)), .val (.long (F2a ((j5 * (12 : Int64)) + (i7.toInt64)) i8 ((j9 * (12 : Int64)) + (i11.toInt64)) i12)), .second, .val (.long ((F10 j9 (i11 + (1 : Int32)) i12) - (F10 j5 (i7 + (1 : Int32)) i8))), .second, .unset, .unset] [(.int (lcmpW (F2a ((j5 * (12 : Int64)) + (i7.toInt64)) i8 ((j9 * (12 : Int64)) + (i11.toInt64)) i12) ((F10 j9 (i11 + (1 : Int32)) i12) - (F10 j5 (i7 + (1 : Int32)) i8))))])) _
        refine XS.ifYes X225.here hx rfl (pc0 := 348) (pc' := 355) rfl (hb hby at_348) rfl ((if0 _ _).trans (feq hc228).2) (by decide) (by decide) ?_
        exact k
      have pre232 : ∀ t, Steps p.tables e below (T225.setTop (mkF m 356 #[.val (.int i0), .val (.int i1), .val (.int i2), .val (.int i3), .val (.int i4), .val (.long j5), .second, .val (.int i7), .val (.int i8), .val (.long j9), .second, .val (.int i11), .val (.int i12), .val (.long j13), .second, .val (.long j15), .second, .val (.long ((j5 * (12 : Int64)) + (i7.toInt64))), .second, .val (.long ((j9 * (12 : Int64)) + (i11.toInt64))), .second, .val (.int (0 : Int32)), .val (.long (F2a ((j5 * (12 : Int64)) + (i7.toInt64)) i8 ((j9 * (12 : Int64)) + (i11.toInt64)) i12)), .second, .val (.long ((F10 j9 (i11 + (1 : Int32)) i12) - (F10 j5 (i7 + (1 : Int32)) i8))), .second, .unset, .unset] [(.int (0 : Int32))])) t → Steps p.tables e below (T0.setTop (mkF m 155 #[.val (.int i0), .val (.int i1), .val (.int i2), .val (.int i3), .val (.int i4), .val (.long j5), .second, .val (.int i7), .val (.int i8), .val (.long j9), .second, .val (.int i11), .val (.int i12), .val (.long j13), .second, .val (.long j15), .second, .val (.long j17), .second, .val (.int i19), .val (.int i20), .unset, .unset, .unset, .unset, .unset, .unset, .unset] [])) t := by
        intro t k
        refine pre231 _ ?_
        show Steps p.tables e below (T225.setTop (mkF m 355 #[.val (.int i0), .val (.int i1), .val (.int i2), .val (.int i3), .val (.int i4), .val (.long j5), .second, .val (.int i7), .val (.int i8), .val (.long j9), .second, .val (.int i11), .val (.int i12), .val (.long j13), .second, .val (.long j15), .second, .val (.long ((j5 * (12 : Int64)) + (i7.toInt64))), .second, .val (.long ((j9 * (12 : Int64)) + (i11.toInt64))), .second, .val (.int (0 : Int32)), .val (.long (F2a ((j5 * (12 : Int64)) + (i7.toInt64)) i8 ((j9 * (12 : Int64)) + (i11.toInt64)) i12)), .second, .val (.long ((F10 j9 (i11 + (1 : Int32)) i12) - (F10 j5 (i7 + (1 : Int32)) i8))), .second, .unset, .unset] [])) _
        refine XS.iconst X225.here hx rfl (hb hby at_355) ?_
        exact k
      obtain ⟨fs, hr, hrun, hended, hW, hsame⟩ := X225.leave (v := some (.int (0 : Int32))) (fun h => by rw [hret] at h; cases h) (hlocks := hlocks)
      refine ⟨_, _, pre232 _ ?_, hrun, hended, _, _, rfl, ?_, ⟨_, rfl⟩, hW, hsame.mono (by decide) (by decide)⟩
      · show Steps p.tables e below (T225.setTop (mkF m 356 #[.val (.int i0), .val (.int i1), .val (.int i2), .val (.int i3), .val (.int i4), .val (.long j5), .second, .val (.int i7), .val (.int i8), .val (.long j9), .second, .val (.int i11), .val (.int i12), .val (.long j13), .second, .val (.long j15), .second, .val (.long ((j5 * (12 : Int64)) + (i7.toInt64))), .second, .val (.long ((j9 * (12 : Int64)) + (i11.toInt64))), .second, .val (.int (0 : Int32)), .val (.long (F2a ((j5 * (12 : Int64)) + (i7.toInt64)) i8 ((j9 * (12 : Int64)) + (i11.toInt64)) i12)), .second, .val (.long ((F10 j9 (i11 + (1 : Int32)) i12) - (F10 j5 (i7 + (1 : Int32)) i8))), .second, .unset, .unset] [(.int (0 : Int32))])) _
        exact retN X225 hx (t := .boolean) hret (by simp) (hb hby at_356) hr
      · exact ⟨(by rw [F0_155_0, if_pos hc211, if_neg hc228]), N225, e225⟩
  · have pre233 : ∀ t, Steps p.tables e below (T0.setTop (mkF m 185 #[.val (.int i0), .val (.int i1), .val (.int i2), .val (.int i3), .val (.int i4), .val (.long j5), .second, .val (.int i7), .val (.int i8), .val (.long j9), .second, .val (.int i11), .val (.int i12), .val (.long j13), .second, .val (.long j15), .second, .val (.long ((j5 * (12 : Int64)) + (i7.toInt64))), .second, .val (.long ((j9 * (12 : Int64)) + (i11.toInt64))), .second, .unset, .unset, .unset, .unset, .unset, .unset, .unset] [])) t → Steps p.tables e below (T0.setTop (mkF m 155 #[.val (.int i0), .val (.int i1), .val (.int i2), .val (.int i3), .val (.int i4), .val (.long j5), .second, .val (.int i7), .val (.int i8), .val (.long j9), .second, .val (.int i11), .val (.int i12), .val (.long j13), .second, .val (.long j15), .second, .val (.long j17), .second, .val (.int i19), .val (.int i20), .unset, .unset, .unset, .unset, .unset, .unset, .unset] [])) t := by
      intro t k
      refine pre210 _ ?_
      show Steps p.tables e below (T0.setTop (mkF m 182 #[.val (.int i0), .val (.int i1), .val (.int i2), .val (.int i3), .val (.int i4), .val (.long j5), .second, .val (.int i7), .val (.int i8), .val (.long j9), .second, .val (.int i11), .val (.int i12), .val (.long j13), .second, .val (.long j15), .second, .val (.long ((j5 * (12 : Int64)) + (i7.toInt64))), .second, .val (.long ((j9 * (12 : Int64)) + (i11.toInt64))), .second, .unset, .unset, .unset, .unset, .unset, .unset, .unset] [(.int (i0 &&& (1 : Int32)))])) _
      refine XS.ifNo X0.here hx rfl (hb hby at_182) rfl ((if0 _ _).trans (feq hc211).1) ?_
      exact k
    have pre234 : ∀ t, Steps p.tables e below (T0.setTop (mkF m 194 #[.val (.int i0), .val (.int i1), .val (.int i2), .val (.int i3), .val (.int i4), .val (.long j5), .second, .val (.int i7), .val (.int i8), .val (.long j9), .second, .val (.int i11), .val (.int i12), .val (.long j13), .second, .val (.long j15), .second, .val (.long ((j5 * (12 : Int64)) + (i7.toInt64))), .second, .val (.long ((j9 * (12 : Int64)) + (i11.toInt64))), .second, .val (.int (1 : Int32)), .unset, .unset, .unset, .unset, .unset, .unset] [(.int (1 : Int32))])) t → Steps p.tables e below (T0.setTop (mkF m 155 #[.val (.int i0), .val (.int i1), .val (.int i2), .val (.int i3), .val (.int i4), .val (.long j5), .second, .val (.int i7), .val (.int i8), .val (.long j9), .second, .val (.int i11), .val (.int i12), .val (.long j13), .second, .val (.long j15), .second, .val (.long j17), .second, .val (.int i19), .val (.int i20), .unset, .unset, .unset, .unset, .unset, .unset, .unset] [])) t := by
      intro t k
      refine pre233 _ ?_
      show Steps p.tables e below (T0.setTop (mkF m 185 #[.val (.int i0), .val (.int i1), .val (.int i2), .val (.int i3), .val (.int i4), .val (.long j5), .second, .val (.int i7), .val (.int i8), .val (.long j9), .second, .val (.int i11), .val (.int i12), .val (.long j13), .second, .val (.long j15), .second, .val (.long ((j5 * (12 : Int64)) + (i7.toInt64))), .second, .val (.long ((j9 * (12 : Int64)) + (i11.toInt64))), .second, .unset, .unset, .unset, .unset, .unset, .unset, .unset] [])) _
      refine XS.iconst X0.here hx rfl (hb hby at_185) ?_
      show Steps p.tables e below (T0.setTop (mkF m 186 #[.val (.int i0), .val (.int i1), .val (.int i2), .val (.int i3), .val (.int i4), .val (.long j5), .second, .val (.int i7), .val (.int i8), .val (.long j9), .second, .val (.int i11), .val (.int i12), .val (.long j13), .second, .val (.long j15), .second, .val (.long ((j5 * (12 : Int64)) + (i7.toInt64))), .second, .val (.long ((j9 * (12 : Int64)) + (i11.toInt64))), .second, .unset, .unset, .unset, .unset, .unset, .unset, .unset] [(.int (1 : Int32))])) _
      refine XS.goto X0.here hx rfl (pc0 := 186) (pc' := 190) rfl (hb hby at_186) (by decide) (by decide) ?_
      show Steps p.tables e below (T0.setTop (mkF m 190 #[.val (.int i0), .val (.int i1), .val (.int i2), .val (.int i3), .val (.int i4), .val (.long j5), .second, .val (.int i7), .val (.int i8), .val (.long j9), .second, .val (.int i11), .val (.int i12), .val (.long j13), .second, .val (.long j15), .second, .val (.long ((j5 * (12 : Int64)) + (i7.toInt64))), .second, .val (.long ((j9 * (12 : Int64)) + (i11.toInt64))), .second, .unset, .unset, .unset, .unset, .unset, .unset, .unset] [(.int (1 : Int32))])) _
      refine XS.istore X0.here hx rfl (hb hby at_190) rfl (l' := #[.val (.int i0), .val (.int i1), .val (.int i2), .val (.int i3), .val (.int i4), .val (.long j5), .second, .val (.int i7), .val (.int i8), .val (.long j9), .second, .val (.int i11), .val (.int i12), .val (.long j13), .second, .val (.long j15), .second, .val (.long ((j5 * (12 : Int64)) + (i7.toInt64))), .second, .val (.long ((j9 * (12 : Int64)) + (i11.toInt64))), .second, .val (.int (1 : Int32)), .unset, .unset, .unset, .unset, .unset, .unset]) rfl ?_
      show Steps p.tables e below (T0.setTop (mkF m 192 #[.val (.int i0), .val (.int i1), .val (.int i2), .val (.int i3), .val (.int i4), .val (.long j5), .second, .val (.int i7), .val (.int i8), .val (.long j9), .second, .val (.int i11), .val (.int i12), .val (.long j13), .second, .val (.long j15), .second, .val (.long ((j5 * (12 : Int64)) + (i7.toInt64))), .second, .val (.long ((j9 * (12 : Int64)) + (i11.toInt64))), .second, .val (.int (1 : Int32)), .unset, .unset, .unset, .unset, .unset, .unset] [])) _
      refine XS.iload X0.here hx rfl (hb hby at_192) rfl ?_
      exact k
    have pre236 : ∀ t, Steps p.tables e below (T0.setTop (mkF m 197 #[.val (.int i0), .val (.int i1), .val (.int i2), .val (.int i3), .val (.int i4), .val (.long j5), .second, .val (.int i7), .val (.int i8), .val (.long j9), .second, .val (.int i11), .val (.int i12), .val (.long j13), .second, .val (.long j15), .second, .val (.long ((j5 * (12 : Int64)) + (i7.toInt64))), .second, .val (.long ((j9 * (12 : Int64)) + (i11.toInt64))), .second, .val (.int (1 : Int32)), .unset, .unset, .unset, .unset, .unset, .unset] [])) t → Steps p.tables e below (T0.setTop (mkF m 155 #[.val (.int i0), .val (.int i1), .val (.int i2), .val (.int i3), .val (.int i4), .val (.long j5), .second, .val (.int i7), .val (.int i8), .val (.long j9), .second, .val (.int i11), .val (.int i12), .val (.long j13), .second, .val (.long j15), .second, .val (.long j17), .second, .val (.int i19), .val (.int i20), .unset, .unset, .unset, .unset, .unset, .unset, .unset] [])) t := by
      intro t k
      refine pre234 _ ?_
      show Steps p.tables e below (T0.setTop (mkF m 194 #[.val (.int i0), .val (.int i1), .val (.int i2), .val (.int i3), .val (.int i4), .val (.long j5), .second, .val (.int i7), .val (.int i8), .val (.long j9), .second, .val (.int i11), .val (.int i12), .val (.long j13), .second, .val (.long j15), .second, .val (.long ((j5 * (12 : Int64)) + (i7.toInt64))), .second, .val (.long ((j9 * (12 : Int64)) + (i11.toInt64))), .second, .val (.int (1 : Int32)), .unset, .unset, .unset, .unset, .unset, .unset] [(.int (1 : Int32))])) _
      refine XS.ifNo X0.here hx rfl (hb hby at_194) rfl ((if0 _ _).trans (feq (by decide : ¬ ((1 : Int32) = (0 : Int32)))).1) ?_
      exact k
    obtain ⟨T237, X237, e237, st237⟩ := getS2 X0 hx hZ hown (host := "") (Or.inl (hw _ (List.mem_of_getElem? (i := 67) rfl))) Via.refl e0 S_wT (g := (mkF m 197 #[.val (.int i0), .val (.int i1), .val (.int i2), .val (.int i3), .val (.int i4), .val (.long j5), .second, .val (.int i7), .val (.int i8), .val (.long j9), .second, .val (.int i11), .val (.int i12), .val (.long j13), .second, .val (.long j15), .second, .val (.long ((j5 * (12 : Int64)) + (i7.toInt64))), .second, .val (.long ((j9 * (12 : Int64)) + (i11.toInt64))), .second, .val (.int (1 : Int32)), .unset, .unset, .unset, .unset, .unset, .unset] [])) rfl (hb hby at_197)
    have pre238 : ∀ t, Steps p.tables e below (T237.setTop (mkF m 200 #[.val (.int i0), .val (.int i1), .val (.int i2), .val (.int i3), .val (.int i4), .val (.long j5), .second, .val (.int i7), .val (.int i8), .val (.long j9), .second, .val (.int i11), .val (.int i12), .val (.long j13), .second, .val (.long j15), .second, .val (.long ((j5 * (12 : Int64)) + (i7.toInt64))), .second, .val (.long ((j9 * (12 : Int64)) + (i11.toInt64))), .second, .val (.int (1 : Int32)), .unset, .unset, .unset, .unset, .unset, .unset] [(.ref wT)])) t → Steps p.tables e below (T0.setTop (mkF m 155 #[.val (.int i0), .val (.int i1), .val (.int i2), .val (.int i3), .val (.int i4), .val (.long j5), .second, .val (.int i7), .val (.int i8), .val (.long j9), .second, .val (.int i11), .val (.int i12), .val (.long j13), .second, .val (.long j15), .second, .val (.long j17), .second, .val (.int i19), .val (.int i20), .unset, .unset, .unset, .unset, .unset, .unset, .unset] [])) t := by
      intro t k
      refine pre236 _ ?_
      show Steps p.tables e below (T0.setTop (mkF m 197 #[.val (.int i0), .val (.int i1), .val (.int i2), .val (.int i3), .val (.int i4), .val (.long j5), .second, .val (.int i7), .val (.int i8), .val (.long j9), .second, .val (.int i11), .val (.int i12), .val (.long j13), .second, .val (.long j15), .second, .val (.long ((j5 * (12 : Int64)) + (i7.toInt64))), .second, .val (.long ((j9 * (12 : Int64)) + (i11.toInt64))), .second, .val (.int (1 : Int32)), .unset, .unset, .unset, .unset, .unset, .unset] [])) _
      refine st237 _ ?_
      exact k
    have pre239 : ∀ t, Steps p.tables e below (T237.setTop (mkF m 208 #[.val (.int i0), .val (.int i1), .val (.int i2), .val (.int i3), .val (.int i4), .val (.long j5), .second, .val (.int i7), .val (.int i8), .val (.long j9), .second, .val (.int i11), .val (.int i12), .val (.long j13), .second, .val (.long j15), .second, .val (.long ((j5 * (12 : Int64)) + (i7.toInt64))), .second, .val (.long ((j9 * (12 : Int64)) + (i11.toInt64))), .second, .val (.int (1 : Int32)), .unset, .unset, .unset, .unset, .unset, .unset] [(.int i12), (.long ((j9 * (12 : Int64)) + (i11.toInt64))), (.int i8), (.long ((j5 * (12 : Int64)) + (i7.toInt64))), (.ref wT)])) t → Steps p.tables e below (T0.setTop (mkF m 155 #[.val (.int i0), .val (.int i1), .val (.int i2), .val (.int i3), .val (.int i4), .val (.long j5), .second, .val (.int i7), .val (.int i8), .val (.long j9), .second, .val (.int i11), .val (.int i12), .val (.long j13), .second, .val (.long j15), .second, .val (.long j17), .second, .val (.int i19), .val (.int i20), .unset, .unset, .unset, .unset, .unset, .unset, .unset] [])) t := by
      intro t k
      refine pre238 _ ?_
      show Steps p.tables e below (T237.setTop (mkF m 200 #[.val (.int i0), .val (.int i1), .val (.int i2), .val (.int i3), .val (.int i4), .val (.long j5), .second, .val (.int i7), .val (.int i8), .val (.long j9), .second, .val (.int i11), .val (.int i12), .val (.long j13), .second, .val (.long j15), .second, .val (.long ((j5 * (12 : Int64)) + (i7.toInt64))), .second, .val (.long ((j9 * (12 : Int64)) + (i11.toInt64))), .second, .val (.int (1 : Int32)), .unset, .unset, .unset, .unset, .unset, .unset] [(.ref wT)])) _
      refine XS.lload X237.here hx rfl (hb hby at_200) rfl ?_
      show Steps p.tables e below (T237.setTop (mkF m 202 #[.val (.int i0), .val (.int i1), .val (.int i2), .val (.int i3), .val (.int i4), .val (.long j5), .second, .val (.int i7), .val (.int i8), .val (.long j9), .second, .val (.int i11), .val (.int i12), .val (.long j13), .second, .val (.long j15), .second, .val (.long ((j5 * (12 : Int64)) + (i7.toInt64))), .second, .val (.long ((j9 * (12 : Int64)) + (i11.toInt64))), .second, .val (.int (1 : Int32)), .unset, .unset, .unset, .unset, .unset, .unset] [(.long ((j5 * (12 : Int64)) + (i7.toInt64))), (.ref wT)])) _
      refine XS.iload X237.here hx rfl (hb hby at_202) rfl ?_
      show Steps p.tables e below (T237.setTop (mkF m 204 #[.val (.int i0), .val (.int i1), .val (.int i2), .val (.int i3), .val (.int i4), .val (.long j5), .second, .val (.int i7), .val (.int i8), .val (.long j9), .second, .val (.int i11), .val (.int i12), .val (.long j13), .second, .val (.long j15), .second, .val (.long ((j5 * (12 : Int64)) + (i7.toInt64))), .second, .val (.long ((j9 * (12 : Int64)) + (i11.toInt64))), .second, .val (.int (1 : Int32)), .unset, .unset, .unset, .unset, .unset, .unset] [(.int i8), (.long ((j5 * (12 : Int64)) + (i7.toInt64))), (.ref wT)])) _
      refine XS.lload X237.here hx rfl (hb hby at_204) rfl ?_
      show Steps p.tables e below (T237.setTop (mkF m 206 #[.val (.int i0), .val (.int i1), .val (.int i2), .val (.int i3), .val (.int i4), .val (.long j5), .second, .val (.int i7), .val (.int i8), .val (.long j9), .second, .val (.int i11), .val (.int i12), .val (.long j13), .second, .val (.long j15), .second, .val (.long ((j5 * (12 : Int64)) + (i7.toInt64))), .second, .val (.long ((j9 * (12 : Int64)) + (i11.toInt64))), .second, .val (.int (1 : Int32)), .unset, .unset, .unset, .unset, .unset, .unset] [(.long ((j9 * (12 : Int64)) + (i11.toInt64))), (.int i8), (.long ((j5 * (12 : Int64)) + (i7.toInt64))), (.ref wT)])) _
      refine XS.iload X237.here hx rfl (hb hby at_206) rfl ?_
      exact k
    obtain ⟨_, _, ⟨T240, L240, k240, n240⟩, -, X240, ⟨Lc240, hQ240, l240, y240, z240⟩, st240⟩ := Jvm.LawKit.callS X237 hx (y := (⟨"com/example/notesmith/notesmith/calc/Accrual", "days", "(Lcom/example/notesmith/notesmith/note/DayCount;JIJI)J"⟩ : MethodName)) hown (mvT hZ (hw _ (List.mem_of_getElem? (i := 10) rfl))) (mvT hZ (hw _ (List.mem_of_getElem? (i := 11) rfl))) (mvT hZ (hw _ (List.mem_of_getElem? (i := 12) rfl))) (mvT hZ (hw _ (List.mem_of_getElem? (i := 13) rfl))) (by decide) (backOf (W := 0) (rm2t l Z a0 hw [] wT ((j5 * (12 : Int64)) + (i7.toInt64)) i8 ((j9 * (12 : Int64)) + (i11.toInt64)) i12 cl_wS wS h0 n0 Z0 E_wT Ford_T Ar_wS el_0 S_wS) hZ (hw _ (List.mem_of_getElem? (i := 13) rfl)) (hw _ (List.mem_of_getElem? (i := 12) rfl)) (by decide) (by decide)) (g := (mkF m 208 #[.val (.int i0), .val (.int i1), .val (.int i2), .val (.int i3), .val (.int i4), .val (.long j5), .second, .val (.int i7), .val (.int i8), .val (.long j9), .second, .val (.int i11), .val (.int i12), .val (.long j13), .second, .val (.long j15), .second, .val (.long ((j5 * (12 : Int64)) + (i7.toInt64))), .second, .val (.long ((j9 * (12 : Int64)) + (i11.toInt64))), .second, .val (.int (1 : Int32)), .unset, .unset, .unset, .unset, .unset, .unset] [(.int i12), (.long ((j9 * (12 : Int64)) + (i11.toInt64))), (.int i8), (.long ((j5 * (12 : Int64)) + (i7.toInt64))), (.ref wT)])) rfl (by rw [hml]; rfl) (argsL := [(.ref wT), (.long ((j5 * (12 : Int64)) + (i7.toInt64))), (.int i8), (.long ((j9 * (12 : Int64)) + (i11.toInt64))), (.int i12)]) (rest := []) (lenOf pd__Lcom_example_notesmith_notesmith_note_DayCount_JIJI_J rfl) rfl (by show 2 * 0 + _ ≤ _; exact Nat.le_of_eq rfl) (hb hby at_208) (fun _ _ => ⟨rfl, e237, (by decide : 0 + 0 ≤ _), (by decide : 0 + 0 ≤ _)⟩)
    dsimp only [Pt.U, Pt.locs, Pt.cells, Pt.slots] at X240 l240 y240 z240 st240 hQ240
    subst l240 y240 z240
    obtain ⟨rfl, N240q, e240⟩ := hQ240
    have N240 := Fr.app N0 N240q
    have pre241 : ∀ t, Steps p.tables e below (T240.setTop (mkF m 211 #[.val (.int i0), .val (.int i1), .val (.int i2), .val (.int i3), .val (.int i4), .val (.long j5), .second, .val (.int i7), .val (.int i8), .val (.long j9), .second, .val (.int i11), .val (.int i12), .val (.long j13), .second, .val (.long j15), .second, .val (.long ((j5 * (12 : Int64)) + (i7.toInt64))), .second, .val (.long ((j9 * (12 : Int64)) + (i11.toInt64))), .second, .val (.int (1 : Int32)), .unset, .unset, .unset, .unset, .unset, .unset] [(.long (F2t ((j5 * (12 : Int64)) + (i7.toInt64)) i8 ((j9 * (12 : Int64)) + (i11.toInt64)) i12))])) t → Steps p.tables e below (T0.setTop (mkF m 155 #[.val (.int i0), .val (.int i1), .val (.int i2), .val (.int i3), .val (.int i4), .val (.long j5), .second, .val (.int i7), .val (.int i8), .val (.long j9), .second, .val (.int i11), .val (.int i12), .val (.long j13), .second, .val (.long j15), .second, .val (.long j17), .second, .val (.int i19), .val (.int i20), .unset, .unset, .unset, .unset, .unset, .unset, .unset] [])) t := by
      intro t k
      refine pre239 _ ?_
      show Steps p.tables e below (T237.setTop (mkF m 208 #[.val (.int i0), .val (.int i1), .val (.int i2), .val (.int i3), .val (.int i4), .val (.long j5), .second, .val (.int i7), .val (.int i8), .val (.long j9), .second, .val (.int i11), .val (.int i12), .val (.long j13), .second, .val (.long j15), .second, .val (.long ((j5 * (12 : Int64)) + (i7.toInt64))), .second, .val (.long ((j9 * (12 : Int64)) + (i11.toInt64))), .second, .val (.int (1 : Int32)), .unset, .unset, .unset, .unset, .unset, .unset] [(.int i12), (.long ((j9 * (12 : Int64)) + (i11.toInt64))), (.int i8), (.long ((j5 * (12 : Int64)) + (i7.toInt64))), (.ref wT)])) _
      refine st240 _ ?_
      exact k
    have pre242 : ∀ t, Steps p.tables e below (T240.setTop (mkF m 217 #[.val (.int i0), .val (.int i1), .val (.int i2), .val (.int i3), .val (.int i4), .val (.long j5), .second, .val (.int i7), .val (.int i8), .val (.long j9), .second, .val (.int i11), .val (.int i12), .val (.long j13), .second, .val (.long j15), .second, .val (.long ((j5 * (12 : Int64)) + (i7.toInt64))), .second, .val (.long ((j9 * (12 : Int64)) + (i11.toInt64))), .second, .val (.int (1 : Int32)), .val (.long (F2t ((j5 * (12 : Int64)) + (i7.toInt64)) i8 ((j9 * (12 : Int64)) + (i11.toInt64)) i12)), .second, .unset, .unset, .unset, .unset] [(.int (31 : Int32)), (.int i8)])) t → Steps p.tables e below (T0.setTop (mkF m 155 #[.val (.int i0), .val (.int i1), .val (.int i2), .val (.int i3), .val (.int i4), .val (.long j5), .second, .val (.int i7), .val (.int i8), .val (.long j9), .second, .val (.int i11), .val (.int i12), .val (.long j13), .second, .val (.long j15), .second, .val (.long j17), .second, .val (.int i19), .val (.int i20), .unset, .unset, .unset, .unset, .unset, .unset, .unset] [])) t := by
      intro t k
      refine pre241 _ ?_
      show Steps p.tables e below (T240.setTop (mkF m 211 #[.val (.int i0), .val (.int i1), .val (.int i2), .val (.int i3), .val (.int i4), .val (.long j5), .second, .val (.int i7), .val (.int i8), .val (.long j9), .second, .val (.int i11), .val (.int i12), .val (.long j13), .second, .val (.long j15), .second, .val (.long ((j5 * (12 : Int64)) + (i7.toInt64))), .second, .val (.long ((j9 * (12 : Int64)) + (i11.toInt64))), .second, .val (.int (1 : Int32)), .unset, .unset, .unset, .unset, .unset, .unset] [(.long (F2t ((j5 * (12 : Int64)) + (i7.toInt64)) i8 ((j9 * (12 : Int64)) + (i11.toInt64)) i12))])) _
      refine XS.lstore X240.here hx rfl (hb hby at_211) rfl (l' := #[.val (.int i0), .val (.int i1), .val (.int i2), .val (.int i3), .val (.int i4), .val (.long j5), .second, .val (.int i7), .val (.int i8), .val (.long j9), .second, .val (.int i11), .val (.int i12), .val (.long j13), .second, .val (.long j15), .second, .val (.long ((j5 * (12 : Int64)) + (i7.toInt64))), .second, .val (.long ((j9 * (12 : Int64)) + (i11.toInt64))), .second, .val (.int (1 : Int32)), .val (.long (F2t ((j5 * (12 : Int64)) + (i7.toInt64)) i8 ((j9 * (12 : Int64)) + (i11.toInt64)) i12)), .second, .unset, .unset, .unset, .unset]) rfl ?_
      show Steps p.tables e below (T240.setTop (mkF m 213 #[.val (.int i0), .val (.int i1), .val (.int i2), .val (.int i3), .val (.int i4), .val (.long j5), .second, .val (.int i7), .val (.int i8), .val (.long j9), .second, .val (.int i11), .val (.int i12), .val (.long j13), .second, .val (.long j15), .second, .val (.long ((j5 * (12 : Int64)) + (i7.toInt64))), .second, .val (.long ((j9 * (12 : Int64)) + (i11.toInt64))), .second, .val (.int (1 : Int32)), .val (.long (F2t ((j5 * (12 : Int64)) + (i7.toInt64)) i8 ((j9 * (12 : Int64)) + (i11.toInt64)) i12)), .second, .unset, .unset, .unset, .unset] [])) _
      refine XS.iload X240.here hx rfl (hb hby at_213) rfl ?_
      show Steps p.tables e below (T240.setTop (mkF m 215 #[.val (.int i0), .val (.int i1), .val (.int i2), .val (.int i3), .val (.int i4), .val (.long j5), .second, .val (.int i7), .val (.int i8), .val (.long j9), .second, .val (.int i11), .val (.int i12), .val (.long j13), .second, .val (.long j15), .second, .val (.long ((j5 * (12 : Int64)) + (i7.toInt64))), .second, .val (.long ((j9 * (12 : Int64)) + (i11.toInt64))), .second, .val (.int (1 : Int32)), .val (.long (F2t ((j5 * (12 : Int64)) + (i7.toInt64)) i8 ((j9 * (12 : Int64)) + (i11.toInt64)) i12)), .second, .unset, .unset, .unset, .unset] [(.int i8)])) _
      refine XS.bipush X240.here hx rfl (hb hby at_215) ?_
      exact k
    by_cases hc243 : i8 = (31 : Int32)
    · have pre244 : ∀ t, Steps p.tables e below (T240.setTop (mkF m 220 #[.val (.int i0), .val (.int i1), .val (.int i2), .val (.int i3), .val (.int i4), .val (.long j5), .second, .val (.int i7), .val (.int i8), .val (.long j9), .second, .val (.int i11), .val (.int i12), .val (.long j13), .second, .val (.long j15), .second, .val (.long ((j5 * (12 : Int64)) + (i7.toInt64))), .second, .val (.long ((j9 * (12 : Int64)) + (i11.toInt64))), .second, .val (.int (1 : Int32)), .val (.long (F2t ((j5 * (12 : Int64)) + (i7.toInt64)) i8 ((j9 * (12 : Int64)) + (i11.toInt64)) i12)), .second, .unset, .unset, .unset, .unset] [])) t → Steps p.tables e below (T0.setTop (mkF m 155 #[.val (.int i0), .val (.int i1), .val (.int i2), .val (.int i3), .val (.int i4), .val (.long j5), .second, .val (.int i7), .val (.int i8), .val (.long j9), .second, .val (.int i11), .val (.int i12), .val (.long j13), .second, .val (.long j15), .second, .val (.long j17), .second, .val (.int i19), .val (.int i20), .unset, .unset, .unset, .unset, .unset, .unset, .unset] [])) t := by
        intro t k
        refine pre242 _ ?_
        show Steps p.tables e below (T240.setTop (mkF m 217 #[.val (.int i0), .val (.int i1), .val (.int i2), .val (.int i3), .val (.int i4), .val (.long j5), .second, .val (.int i7), .val (.int i8), .val (.long j9), .second, .val (.int i11), .val (.int i12), .val (.long j13), .second, .val (.long j15), .second, .val (.long ((j5 * (12 : Int64)) + (i7.toInt64))), .second, .val (.long ((j9 * (12 : Int64)) + (i11.toInt64))), .second, .val (.int (1 : Int32)), .val (.long (F2t ((j5 * (12 : Int64)) + (i7.toInt64)) i8 ((j9 * (12 : Int64)) + (i11.toInt64)) i12)), .second, .unset, .unset, .unset, .unset] [(.int (31 : Int32)), (.int i8)])) _
        refine XS.icmpNo X240.here hx rfl (hb hby at_217) rfl (teq hc243).2 ?_
        exact k
      have pre245 : ∀ t, Steps p.tables e below (T240.setTop (mkF m 229 #[.val (.int i0), .val (.int i1), .val (.int i2), .val (.int i3), .val (.int i4), .val (.long j5), .second, .val (.int i7), .val (.int i8), .val (.long j9), .second, .val (.int i11), .val (.int i12), .val (.long j13), .second, .val (.long j15), .second, .val (.long ((j5 * (12 : Int64)) + (i7.toInt64))), .second, .val (.long ((j9 * (12 : Int64)) + (i11.toInt64))), .second, .val (.int (1 : Int32)), .val (.long (F2t ((j5 * (12 : Int64)) + (i7.toInt64)) i8 ((j9 * (12 : Int64)) + (i11.toInt64)) i12)), .second, .val (.int (30 : Int32)), .unset, .unset, .unset] [])) t → Steps p.tables e below (T0.setTop (mkF m 155 #[.val (.int i0), .val (.int i1), .val (.int i2), .val (.int i3), .val (.int i4), .val (.long j5), .second, .val (.int i7), .val (.int i8), .val (.long j9), .second, .val (.int i11), .val (.int i12), .val (.long j13), .second, .val (.long j15), .second, .val (.long j17), .second, .val (.int i19), .val (.int i20), .unset, .unset, .unset, .unset, .unset, .unset, .unset] [])) t := by
        intro t k
        refine pre244 _ ?_
        show Steps p.tables e below (T240.setTop (mkF m 220 #[.val (.int i0), .val (.int i1), .val (.int i2), .val (.int i3), .val (.int i4), .val (.long j5), .second, .val (.int i7), .val (.int i8), .val (.long j9), .second, .val (.int i11), .val (.int i12), .val (.long j13), .second, .val (.long j15), .second, .val (.long ((j5 * (12 : Int64)) + (i7.toInt64))), .second, .val (.long ((j9 * (12 : Int64)) + (i11.toInt64))), .second, .val (.int (1 : Int32)), .val (.long (F2t ((j5 * (12 : Int64)) + (i7.toInt64)) i8 ((j9 * (12 : Int64)) + (i11.toInt64)) i12)), .second, .unset, .unset, .unset, .unset] [])) _
        refine XS.bipush X240.here hx rfl (hb hby at_220) ?_
        show Steps p.tables e below (T240.setTop (mkF m 222 #[.val (.int i0), .val (.int i1), .val (.int i2), .val (.int i3), .val (.int i4), .val (.long j5), .second, .val (.int i7), .val (.int i8), .val (.long j9), .second, .val (.int i11), .val (.int i12), .val (.long j13), .second, .val (.long j15), .second, .val (.long ((j5 * (12 : Int64)) + (i7.toInt64))), .second, .val (.long ((j9 * (12 : Int64)) + (i11.toInt64))), .second, .val (.int (1 : Int32)), .val (.long (F2t ((j5 * (12 : Int64)) + (i7.toInt64)) i8 ((j9 * (12 : Int64)) + (i11.toInt64)) i12)), .second, .unset, .unset, .unset, .unset] [(.int (30 : Int32))])) _
        refine XS.goto X240.here hx rfl (pc0 := 222) (pc' := 227) rfl (hb hby at_222) (by decide) (by decide) ?_
        show Steps p.tables e below (T240.setTop (mkF m 227 #[.val (.int i0), .val (.int i1), .val (.int i2), .val (.int i3), .val (.int i4), .val (.long j5), .second, .val (.int i7), .val (.int i8), .val (.long j9), .second, .val (.int i11), .val (.int i12), .val (.long j13), .second, .val (.long j15), .second, .val (.long ((j5 * (12 : Int64)) + (i7.toInt64))), .second, .val (.long ((j9 * (12 : Int64)) + (i11.toInt64))), .second, .val (.int (1 : Int32)), .val (.long (F2t ((j5 * (12 : Int64)) + (i7.toInt64)) i8 ((j9 * (12 : Int64)) + (i11.toInt64)) i12)), .second, .unset, .unset, .unset, .unset] [(.int (30 : Int32))])) _
        refine XS.istore X240.here hx rfl (hb hby at_227) rfl (l' := #[.val (.int i0), .val (.int i1), .val (.int i2), .val (.int i3), .val (.int i4), .val (.long j5), .second, .val (.int i7), .val (.int i8), .val (.long j9), .second, .val (.int i11), .val (.int i12), .val (.long j13), .second, .val (.long j15), .second, .val (.long ((j5 * (12 : Int64)) + (i7.toInt64))), .second, .val (.long ((j9 * (12 : Int64)) + (i11.toInt64))), .second, .val (.int (1 : Int32)), .val (.long (F2t ((j5 * (12 : Int64)) + (i7.toInt64)) i8 ((j9 * (12 : Int64)) + (i11.toInt64)) i12)), .second, .val (.int (30 : Int32)), .unset, .unset, .unset]) rfl ?_
        exact k
      obtain ⟨s₂, o, st272, g1, g2, v, L, ho, ⟨hv, hN, hh272⟩, hfe⟩ := pc0_229_0 i0 i1 i2 i3 i4 j5 i7 i8 j9 i11 i12 j13 j15 ((j5 * (12 : Int64)) + (i7.toInt64)) ((j9 * (12 : Int64)) + (i11.toInt64)) (1 : Int32) (F2t ((j5 * (12 : Int64)) + (i7.toInt64)) i8 ((j9 * (12 : Int64)) + (i11.toInt64)) i12) (30 : Int32) cl_wS cl_wD wT wA wS wI wD X240 hx hZ hw hby hml hown hret hlocks e240 N240 Z0 E_wT E_wA Ford_T Ford_A Ar_wS el_0 el_1 E_wI Ar_wD hD S_wT S_wA S_wS S_wI S_wD
      exact ⟨s₂, o, pre245 _ st272, g1, g2, v, L, ho, ⟨(by rw [F0_155_0, if_neg hc211, if_pos hc243]; exact hv), hN, hh272⟩, hfe⟩
    · have pre273 : ∀ t, Steps p.tables e below (T240.setTop (mkF m 225 #[.val (.int i0), .val (.int i1), .val (.int i2), .val (.int i3), .val (.int i4), .val (.long j5), .second, .val (.int i7), .val (.int i8), .val (.long j9), .second, .val (.int i11), .val (.int i12), .val (.long j13), .second, .val (.long j15), .second, .val (.long ((j5 * (12 : Int64)) + (i7.toInt64))), .second, .val (.long ((j9 * (12 : Int64)) + (i11.toInt64))), .second, .val (.int (1 : Int32)), .val (.long (F2t ((j5 * (12 : Int64)) + (i7.toInt64)) i8 ((j9 * (12 : Int64)) + (i11.toInt64)) i12)), .second, .unset, .unset, .unset, .unset] [])) t → Steps p.tables e below (T0.setTop (mkF m 155 #[.val (.int i0), .val (.int i1), .val (.int i2), .val (.int i3), .val (.int i4), .val (.long j5), .second, .val (.int i7), .val (.int i8), .val (.long j9), .second, .val (.int i11), .val (.int i12), .val (.long j13), .second, .val (.long j15), .second, .val (.long j17), .second, .val (.int i19), .val (.int i20), .unset, .unset, .unset, .unset, .unset, .unset, .unset] [])) t := by
        intro t k
        refine pre242 _ ?_
        show Steps p.tables e below (T240.setTop (mkF m 217 #[.val (.int i0), .val (.int i1), .val (.int i2), .val (.int i3), .val (.int i4), .val (.long j5), .second, .val (.int i7), .val (.int i8), .val (.long j9), .second, .val (.int i11), .val (.int i12), .val (.long j13), .second, .val (.long j15), .second, .val (.long ((j5 * (12 : Int64)) + (i7.toInt64))), .second, .val (.long ((j9 * (12 : Int64)) + (i11.toInt64))), .second, .val (.int (1 : Int32)), .val (.long (F2t ((j5 * (12 : Int64)) + (i7.toInt64)) i8 ((j9 * (12 : Int64)) + (i11.toInt64)) i12)), .second, .unset, .unset, .unset, .unset] [(.int (31 : Int32)), (.int i8)])) _
        refine XS.icmpYes X240.here hx rfl (pc0 := 217) (pc' := 225) rfl (hb hby at_217) rfl (feq hc243).2 (by decide) (by decide) ?_
        exact k
      have pre274 : ∀ t, Steps p.tables e below (T240.setTop (mkF m 229 #[.val (.int i0), .val (.int i1), .val (.int i2), .val (.int i3), .val (.int i4), .val (.long j5), .second, .val (.int i7), .val (.int i8), .val (.long j9), .second, .val (.int i11), .val (.int i12), .val (.long j13), .second, .val (.long j15), .second, .val (.long ((j5 * (12 : Int64)) + (i7.toInt64))), .second, .val (.long ((j9 * (12 : Int64)) + (i11.toInt64))), .second, .val (.int (1 : Int32)), .val (.long (F2t ((j5 * (12 : Int64)) + (i7.toInt64)) i8 ((j9 * (12 : Int64)) + (i11.toInt64)) i12)), .second, .val (.int i8), .unset, .unset, .unset] [])) t → Steps p.tables e below (T0.setTop (mkF m 155 #[.val (.int i0), .val (.int i1), .val (.int i2), .val (.int i3), .val (.int i4), .val (.long j5), .second, .val (.int i7), .val (.int i8), .val (.long j9), .second, .val (.int i11), .val (.int i12), .val (.long j13), .second, .val (.long j15), .second, .val (.long j17), .second, .val (.int i19), .val (.int i20), .unset, .unset, .unset, .unset, .unset, .unset, .unset] [])) t := by
        intro t k
        refine pre273 _ ?_
        show Steps p.tables e below (T240.setTop (mkF m 225 #[.val (.int i0), .val (.int i1), .val (.int i2), .val (.int i3), .val (.int i4), .val (.long j5), .second, .val (.int i7), .val (.int i8), .val (.long j9), .second, .val (.int i11), .val (.int i12), .val (.long j13), .second, .val (.long j15), .second, .val (.long ((j5 * (12 : Int64)) + (i7.toInt64))), .second, .val (.long ((j9 * (12 : Int64)) + (i11.toInt64))), .second, .val (.int (1 : Int32)), .val (.long (F2t ((j5 * (12 : Int64)) + (i7.toInt64)) i8 ((j9 * (12 : Int64)) + (i11.toInt64)) i12)), .second, .unset, .unset, .unset, .unset] [])) _
        refine XS.iload X240.here hx rfl (hb hby at_225) rfl ?_
        show Steps p.tables e below (T240.setTop (mkF m 227 #[.val (.int i0), .val (.int i1), .val (.int i2), .val (.int i3), .val (.int i4), .val (.long j5), .second, .val (.int i7), .val (.int i8), .val (.long j9), .second, .val (.int i11), .val (.int i12), .val (.long j13), .second, .val (.long j15), .second, .val (.long ((j5 * (12 : Int64)) + (i7.toInt64))), .second, .val (.long ((j9 * (12 : Int64)) + (i11.toInt64))), .second, .val (.int (1 : Int32)), .val (.long (F2t ((j5 * (12 : Int64)) + (i7.toInt64)) i8 ((j9 * (12 : Int64)) + (i11.toInt64)) i12)), .second, .unset, .unset, .unset, .unset] [(.int i8)])) _
        refine XS.istore X240.here hx rfl (hb hby at_227) rfl (l' := #[.val (.int i0), .val (.int i1), .val (.int i2), .val (.int i3), .val (.int i4), .val (.long j5), .second, .val (.int i7), .val (.int i8), .val (.long j9), .second, .val (.int i11), .val (.int i12), .val (.long j13), .second, .val (.long j15), .second, .val (.long ((j5 * (12 : Int64)) + (i7.toInt64))), .second, .val (.long ((j9 * (12 : Int64)) + (i11.toInt64))), .second, .val (.int (1 : Int32)), .val (.long (F2t ((j5 * (12 : Int64)) + (i7.toInt64)) i8 ((j9 * (12 : Int64)) + (i11.toInt64)) i12)), .second, .val (.int i8), .unset, .unset, .unset]) rfl ?_
        exact k
      obtain ⟨s₂, o, st275, g1, g2, v, L, ho, ⟨hv, hN, hh275⟩, hfe⟩ := pc0_229_0 i0 i1 i2 i3 i4 j5 i7 i8 j9 i11 i12 j13 j15 ((j5 * (12 : Int64)) + (i7.toInt64)) ((j9 * (12 : Int64)) + (i11.toInt64)) (1 : Int32) (F2t ((j5 * (12 : Int64)) + (i7.toInt64)) i8 ((j9 * (12 : Int64)) + (i11.toInt64)) i12) i8 cl_wS cl_wD wT wA wS wI wD X240 hx hZ hw hby hml hown hret hlocks e240 N240 Z0 E_wT E_wA Ford_T Ford_A Ar_wS el_0 el_1 E_wI Ar_wD hD S_wT S_wA S_wS S_wI S_wD
      exact ⟨s₂, o, pre274 _ st275, g1, g2, v, L, ho, ⟨(by rw [F0_155_0, if_neg hc211, if_neg hc243]; exact hv), hN, hh275⟩, hfe⟩
def F0_155_1 (i0 : Int32) (j5 : Int64) (i7 : Int32) (i8 : Int32) (j9 : Int64) (i11 : Int32) (i12 : Int32) : Int32 :=
  if (i0 &&& (1 : Int32)) = (0 : Int32) then (  if (lcmpW (F2a ((j5 * (12 : Int64)) + (i7.toInt64)) i8 ((j9 * (12 : Int64)) + (i11.toInt64)) i12) ((F10 j9 (i11 + (1 : Int32)) i12) - (F10 j5 (i7 + (1 : Int32)) i8))) = (0 : Int32) then (  (1 : Int32))
  else (  (0 : Int32)))
  else (  if i8 = (31 : Int32) then (  (F0_229_0 j5 i7 i8 j9 i11 i12 (F2t ((j5 * (12 : Int64)) + (i7.toInt64)) i8 ((j9 * (12 : Int64)) + (i11.toInt64)) i12) (30 : Int32)))
  else (  (F0_229_0 j5 i7 i8 j9 i11 i12 (F2t ((j5 * (12 : Int64)) + (i7.toInt64)) i8 ((j9 * (12 : Int64)) + (i11.toInt64)) i12) i8)))
set_option maxRecDepth 65536 in
set_option maxHeartbeats 40000000 in
theorem pc0_155_1 {p : Program} {l : Launch} {e : Env} {s : State} {m : MethodId} {args : Array Value} {below : List Frame} {meth : Method} {c : Code} {T0 : State} {locs : List Loc} {Z : State} {a0 : Array Value} {h0 : Heap} {n0 : Nat} (i0 : Int32) (i1 : Int32) (i2 : Int32) (i3 : Int32) (i4 : Int32) (j5 : Int64) (i7 : Int32) (i8 : Int32) (j9 : Int64) (i11 : Int32) (i12 : Int32) (j13 : Int64) (j15 : Int64) (cl_wS : Cell) (cl_wD : Cell) (wT : Addr) (wA : Addr) (wS : Addr) (wI : Addr) (wD : Addr)
    (X0 : Stand p l e room_1 s m args below meth c T0 locs 0 0) (hx : p.tables.exec = Jvm.exec) (hZ : Z.Warmed39 s.vm) (hw : ∀ d ∈ tables_1, d.before a0 Z = true) (hby : c.code = code) (hml : c.maxLocals = 28) (hown : s.vm.findClass "com/example/notesmith/notesmith/calc/AccrualDaysPinLaw" = some m.cls) (hret : meth.sig.returnType = (some .boolean)) (hlocks : meth.locks = false) (e0 : T0.heap = h0) (N0 : Fr n0 locs) (Z0 : n0 ≤ h0.size) (E_wT : Exa Z h0 wT "com/example/notesmith/notesmith/note/DayCount") (E_wA : Exa Z h0 wA "com/example/notesmith/notesmith/note/DayCount") (Ford_T : Fld Z h0 wT "java/lang/Enum" "ordinal" "I" (.int (0 : Int32))) (Ford_A : Fld Z h0 wA "java/lang/Enum" "ordinal" "I" (.int (1 : Int32))) (Ar_wS : Arr Z h0 wS cl_wS .int) (el_0 : ¬ ((0 : Int32) < 0 ∨ cl_wS.slots.size ≤ (0 : Int32).toNatClampNeg) ∧ cl_wS.slots[(0 : Int32).toNatClampNeg]? = some (.int (1 : Int32))) (el_1 : ¬ ((1 : Int32) < 0 ∨ cl_wS.slots.size ≤ (1 : Int32).toNatClampNeg) ∧ cl_wS.slots[(1 : Int32).toNatClampNeg]? = some (.int (2 : Int32))) (E_wI : Exa Z h0 wI "java/time/chrono/IsoChronology") (Ar_wD : Arr Z h0 wD cl_wD .int) (hD : ∀ j : Int32, (0 ≤ j.toInt ∧ j.toInt < 12) → ¬ (j < 0 ∨ cl_wD.slots.size ≤ j.toNatClampNeg) ∧ cl_wD.slots[j.toNatClampNeg]? = some (.int (own_dbm j))) (S_wT : Sta Z h0 "com/example/notesmith/notesmith/note/DayCount" "THIRTY_360" "Lcom/example/notesmith/notesmith/note/DayCount;" (.ref wT)) (S_wA : Sta Z h0 "com/example/notesmith/notesmith/note/DayCount" "ACTUAL_365" "Lcom/example/notesmith/notesmith/note/DayCount;" (.ref wA)) (S_wS : Sta Z h0 "com/example/notesmith/notesmith/calc/Accrual$1" "$SwitchMap$com$example$notesmith$notesmith$note$DayCount" "[I" (.ref wS)) (S_wI : Sta Z h0 "java/time/chrono/IsoChronology" "INSTANCE" "Ljava/time/chrono/IsoChronology;" (.ref wI)) (S_wD : Sta Z h0 "com/example/notesmith/notesmith/calc/Accrual" "DAYS_BEFORE_MONTH" "[I" (.ref wD)) :
    ∃ s₂ o, Steps p.tables e below (T0.setTop (mkF m 155 #[.val (.int i0), .val (.int i1), .val (.int i2), .val (.int i3), .val (.int i4), .val (.long j5), .second, .val (.int i7), .val (.int i8), .val (.long j9), .second, .val (.int i11), .val (.int i12), .val (.long j13), .second, .val (.long j15), .second, .unset, .unset, .unset, .unset, .unset, .unset, .unset, .unset, .unset, .unset, .unset] [])) s₂ ∧ s₂.status = .running ∧ Ended s₂ below o ∧ ∃ v L, o = .returned v ∧ (v = some (.int (F0_155_1 i0 j5 i7 i8 j9 i11 i12)) ∧ Fr n0 L ∧ s₂.heap = h0) ∧ FrameEnd s o s₂ L room_1.cells room_1.slots := by
  have pre0 : ∀ t, Steps p.tables e below (T0.setTop (mkF m 155 #[.val (.int i0), .val (.int i1), .val (.int i2), .val (.int i3), .val (.int i4), .val (.long j5), .second, .val (.int i7), .val (.int i8), .val (.long j9), .second, .val (.int i11), .val (.int i12), .val (.long j13), .second, .val (.long j15), .second, .unset, .unset, .unset, .unset, .unset, .unset, .unset, .unset, .unset, .unset, .unset] [])) t → Steps p.tables e below (T0.setTop (mkF m 155 #[.val (.int i0), .val (.int i1), .val (.int i2), .val (.int i3), .val (.int i4), .val (.long j5), .second, .val (.int i7), .val (.int i8), .val (.long j9), .second, .val (.int i11), .val (.int i12), .val (.long j13), .second, .val (.long j15), .second, .unset, .unset, .unset, .unset, .unset, .unset, .unset, .unset, .unset, .unset, .unset] [])) t := fun _ k => k
  have pre287 : ∀ t, Steps p.tables e below (T0.setTop (mkF m 182 #[.val (.int i0), .val (.int i1), .val (.int i2), .val (.int i3), .val (.int i4), .val (.long j5), .second, .val (.int i7), .val (.int i8), .val (.long j9), .second, .val (.int i11), .val (.int i12), .val (.long j13), .second, .val (.long j15), .second, .val (.long ((j5 * (12 : Int64)) + (i7.toInt64))), .second, .val (.long ((j9 * (12 : Int64)) + (i11.toInt64))), .second, .unset, .unset, .unset, .unset, .unset, .unset, .unset] [(.int (i0 &&& (1 : Int32)))])) t → Steps p.tables e below (T0.setTop (mkF m 155 #[.val (.int i0), .val (.int i1), .val (.int i2), .val (.int i3), .val (.int i4), .val (.long j5), .second, .val (.int i7), .val (.int i8), .val (.long j9), .second, .val (.int i11), .val (.int i12), .val (.long j13), .second, .val (.long j15), .second, .unset, .unset, .unset, .unset, .unset, .unset, .unset, .unset, .unset, .unset, .unset] [])) t := by
    intro t k
    refine pre0 _ ?_
    show Steps p.tables e below (T0.setTop (mkF m 155 #[.val (.int i0), .val (.int i1), .val (.int i2), .val (.int i3), .val (.int i4), .val (.long j5), .second, .val (.int i7), .val (.int i8), .val (.long j9), .second, .val (.int i11), .val (.int i12), .val (.long j13), .second, .val (.long j15), .second, .unset, .unset, .unset, .unset, .unset, .unset, .unset, .unset, .unset, .unset, .unset] [])) _
    refine XS.lload X0.here hx rfl (hb hby at_155) rfl ?_
    show Steps p.tables e below (T0.setTop (mkF m 157 #[.val (.int i0), .val (.int i1), .val (.int i2), .val (.int i3), .val (.int i4), .val (.long j5), .second, .val (.int i7), .val (.int i8), .val (.long j9), .second, .val (.int i11), .val (.int i12), .val (.long j13), .second, .val (.long j15), .second, .unset, .unset, .unset, .unset, .unset, .unset, .unset, .unset, .unset, .unset, .unset] [(.long j5)])) _
    refine X0.ldc2Long hx hown (mvT hZ (hw _ (List.mem_of_getElem? (i := 6) rfl))) (g := (mkF m 157 #[.val (.int i0), .val (.int i1), .val (.int i2), .val (.int i3), .val (.int i4), .val (.long j5), .second, .val (.int i7), .val (.int i8), .val (.long j9), .second, .val (.int i11), .val (.int i12), .val (.long j13), .second, .val (.long j15), .second, .unset, .unset, .unset, .unset, .unset, .unset, .unset, .unset, .unset, .unset, .unset] [(.long j5)])) rfl (hb hby at_157) _ ?_
    show Steps p.tables e below (T0.setTop (mkF m 160 #[.val (.int i0), .val (.int i1), .val (.int i2), .val (.int i3), .val (.int i4), .val (.long j5), .second, .val (.int i7), .val (.int i8), .val (.long j9), .second, .val (.int i11), .val (.int i12), .val (.long j13), .second, .val (.long j15), .second, .unset, .unset, .unset, .unset, .unset, .unset, .unset, .unset, .unset, .unset, .unset] [(.long (12 : Int64)), (.long j5)])) _
    refine XS.lmul X0.here hx rfl (hb hby at_160) rfl ?_
    show Steps p.tables e below (T0.setTop (mkF m 161 #[.val (.int i0), .val (.int i1), .val (.int i2), .val (.int i3), .val (.int i4), .val (.long j5), .second, .val (.int i7), .val (.int i8), .val (.long j9), .second, .val (.int i11), .val (.int i12), .val (.long j13), .second, .val (.long j15), .second, .unset, .unset, .unset, .unset, .unset, .unset, .unset, .unset, .unset, .unset, .unset] [(.long (j5 * (12 : Int64)))])) _
    refine XS.iload X0.here hx rfl (hb hby at_161) rfl ?_
    show Steps p.tables e below (T0.setTop (mkF m 163 #[.val (.int i0), .val (.int i1), .val (.int i2), .val (.int i3), .val (.int i4), .val (.long j5), .second, .val (.int i7), .val (.int i8), .val (.long j9), .second, .val (.int i11), .val (.int i12), .val (.long j13), .second, .val (.long j15), .second, .unset, .unset, .unset, .unset, .unset, .unset, .unset, .unset, .unset, .unset, .unset] [(.int i7), (.long (j5 * (12 : Int64)))])) _
    refine XS.i2l X0.here hx rfl (hb hby at_163) rfl ?_
    show Steps p.tables e below (T0.setTop (mkF m 164 #[.val (.int i0), .val (.int i1), .val (.int i2), .val (.int i3), .val (.int i4), .val (.long j5), .second, .val (.int i7), .val (.int i8), .val (.long j9), .second, .val (.int i11), .val (.int i12), .val (.long j13), .second, .val (.long j15), .second, .unset, .unset, .unset, .unset, .unset, .unset, .unset, .unset, .unset, .unset, .unset] [(.long (i7.toInt64)), (.long (j5 * (12 : Int64)))])) _
    refine XS.ladd X0.here hx rfl (hb hby at_164) rfl ?_
    show Steps p.tables e below (T0.setTop (mkF m 165 #[.val (.int i0), .val (.int i1), .val (.int i2), .val (.int i3), .val (.int i4), .val (.long j5), .second, .val (.int i7), .val (.int i8), .val (.long j9), .second, .val (.int i11), .val (.int i12), .val (.long j13), .second, .val (.long j15), .second, .unset, .unset, .unset, .unset, .unset, .unset, .unset, .unset, .unset, .unset, .unset] [(.long ((j5 * (12 : Int64)) + (i7.toInt64)))])) _
    refine XS.lstore X0.here hx rfl (hb hby at_165) rfl (l' := #[.val (.int i0), .val (.int i1), .val (.int i2), .val (.int i3), .val (.int i4), .val (.long j5), .second, .val (.int i7), .val (.int i8), .val (.long j9), .second, .val (.int i11), .val (.int i12), .val (.long j13), .second, .val (.long j15), .second, .val (.long ((j5 * (12 : Int64)) + (i7.toInt64))), .second, .unset, .unset, .unset, .unset, .unset, .unset, .unset, .unset, .unset]) rfl ?_
    show Steps p.tables e below (T0.setTop (mkF m 167 #[.val (.int i0), .val (.int i1), .val (.int i2), .val (.int i3), .val (.int i4), .val (.long j5), .second, .val (.int i7), .val (.int i8), .val (.long j9), .second, .val (.int i11), .val (.int i12), .val (.long j13), .second, .val (.long j15), .second, .val (.long ((j5 * (12 : Int64)) + (i7.toInt64))), .second, .unset, .unset, .unset, .unset, .unset, .unset, .unset, .unset, .unset] [])) _
    refine XS.lload X0.here hx rfl (hb hby at_167) rfl ?_
    show Steps p.tables e below (T0.setTop (mkF m 169 #[.val (.int i0), .val (.int i1), .val (.int i2), .val (.int i3), .val (.int i4), .val (.long j5), .second, .val (.int i7), .val (.int i8), .val (.long j9), .second, .val (.int i11), .val (.int i12), .val (.long j13), .second, .val (.long j15), .second, .val (.long ((j5 * (12 : Int64)) + (i7.toInt64))), .second, .unset, .unset, .unset, .unset, .unset, .unset, .unset, .unset, .unset] [(.long j9)])) _
    refine X0.ldc2Long hx hown (mvT hZ (hw _ (List.mem_of_getElem? (i := 6) rfl))) (g := (mkF m 169 #[.val (.int i0), .val (.int i1), .val (.int i2), .val (.int i3), .val (.int i4), .val (.long j5), .second, .val (.int i7), .val (.int i8), .val (.long j9), .second, .val (.int i11), .val (.int i12), .val (.long j13), .second, .val (.long j15), .second, .val (.long ((j5 * (12 : Int64)) + (i7.toInt64))), .second, .unset, .unset, .unset, .unset, .unset, .unset, .unset, .unset, .unset] [(.long j9)])) rfl (hb hby at_169) _ ?_
    show Steps p.tables e below (T0.setTop (mkF m 172 #[.val (.int i0), .val (.int i1), .val (.int i2), .val (.int i3), .val (.int i4), .val (.long j5), .second, .val (.int i7), .val (.int i8), .val (.long j9), .second, .val (.int i11), .val (.int i12), .val (.long j13), .second, .val (.long j15), .second, .val (.long ((j5 * (12 : Int64)) + (i7.toInt64))), .second, .unset, .unset, .unset, .unset, .unset, .unset, .unset, .unset, .unset] [(.long (12 : Int64)), (.long j9)])) _
    refine XS.lmul X0.here hx rfl (hb hby at_172) rfl ?_
    show Steps p.tables e below (T0.setTop (mkF m 173 #[.val (.int i0), .val (.int i1), .val (.int i2), .val (.int i3), .val (.int i4), .val (.long j5), .second, .val (.int i7), .val (.int i8), .val (.long j9), .second, .val (.int i11), .val (.int i12), .val (.long j13), .second, .val (.long j15), .second, .val (.long ((j5 * (12 : Int64)) + (i7.toInt64))), .second, .unset, .unset, .unset, .unset, .unset, .unset, .unset, .unset, .unset] [(.long (j9 * (12 : Int64)))])) _
    refine XS.iload X0.here hx rfl (hb hby at_173) rfl ?_
    show Steps p.tables e below (T0.setTop (mkF m 175 #[.val (.int i0), .val (.int i1), .val (.int i2), .val (.int i3), .val (.int i4), .val (.long j5), .second, .val (.int i7), .val (.int i8), .val (.long j9), .second, .val (.int i11), .val (.int i12), .val (.long j13), .second, .val (.long j15), .second, .val (.long ((j5 * (12 : Int64)) + (i7.toInt64))), .second, .unset, .unset, .unset, .unset, .unset, .unset, .unset, .unset, .unset] [(.int i11), (.long (j9 * (12 : Int64)))])) _
    refine XS.i2l X0.here hx rfl (hb hby at_175) rfl ?_
    show Steps p.tables e below (T0.setTop (mkF m 176 #[.val (.int i0), .val (.int i1), .val (.int i2), .val (.int i3), .val (.int i4), .val (.long j5), .second, .val (.int i7), .val (.int i8), .val (.long j9), .second, .val (.int i11), .val (.int i12), .val (.long j13), .second, .val (.long j15), .second, .val (.long ((j5 * (12 : Int64)) + (i7.toInt64))), .second, .unset, .unset, .unset, .unset, .unset, .unset, .unset, .unset, .unset] [(.long (i11.toInt64)), (.long (j9 * (12 : Int64)))])) _
    refine XS.ladd X0.here hx rfl (hb hby at_176) rfl ?_
    show Steps p.tables e below (T0.setTop (mkF m 177 #[.val (.int i0), .val (.int i1), .val (.int i2), .val (.int i3), .val (.int i4), .val (.long j5), .second, .val (.int i7), .val (.int i8), .val (.long j9), .second, .val (.int i11), .val (.int i12), .val (.long j13), .second, .val (.long j15), .second, .val (.long ((j5 * (12 : Int64)) + (i7.toInt64))), .second, .unset, .unset, .unset, .unset, .unset, .unset, .unset, .unset, .unset] [(.long ((j9 * (12 : Int64)) + (i11.toInt64)))])) _
    refine XS.lstore X0.here hx rfl (hb hby at_177) rfl (l' := #[.val (.int i0), .val (.int i1), .val (.int i2), .val (.int i3), .val (.int i4), .val (.long j5), .second, .val (.int i7), .val (.int i8), .val (.long j9), .second, .val (.int i11), .val (.int i12), .val (.long j13), .second, .val (.long j15), .second, .val (.long ((j5 * (12 : Int64)) + (i7.toInt64))), .second, .val (.long ((j9 * (12 : Int64)) + (i11.toInt64))), .second, .unset, .unset, .unset, .unset, .unset, .unset, .unset]) rfl ?_
    show Steps p.tables e below (T0.setTop (mkF m 179 #[.val (.int i0), .val (.int i1), .val (.int i2), .val (.int i3), .val (.int i4), .val (.long j5), .second, .val (.int i7), .val (.int i8), .val (.long j9), .second, .val (.int i11), .val (.int i12), .val (.long j13), .second, .val (.long j15), .second, .val (.long ((j5 * (12 : Int64)) + (i7.toInt64))), .second, .val (.long ((j9 * (12 : Int64)) + (i11.toInt64))), .second, .unset, .unset, .unset, .unset, .unset, .unset, .unset] [])) _
    refine XS.iloadN X0.here hx rfl (hb hby at_179) rfl ?_
    show Steps p.tables e below (T0.setTop (mkF m 180 #[.val (.int i0), .val (.int i1), .val (.int i2), .val (.int i3), .val (.int i4), .val (.long j5), .second, .val (.int i7), .val (.int i8), .val (.long j9), .second, .val (.int i11), .val (.int i12), .val (.long j13), .second, .val (.long j15), .second, .val (.long ((j5 * (12 : Int64)) + (i7.toInt64))), .second, .val (.long ((j9 * (12 : Int64)) + (i11.toInt64))), .second, .unset, .unset, .unset, .unset, .unset, .unset, .unset] [(.int i0)])) _
    refine XS.iconst X0.here hx rfl (hb hby at_180) ?_
    show Steps p.tables e below (T0.setTop (mkF m 181 #[.val (.int i0), .val (.int i1), .val (.int i2), .val (.int i3), .val (.int i4), .val (.long j5), .second, .val (.int i7), .val (.int i8), .val (.long j9), .second, .val (.int i11), .val (.int i12), .val (.long j13), .second, .val (.long j15), .second, .val (.long ((j5 * (12 : Int64)) + (i7.toInt64))), .second, .val (.long ((j9 * (12 : Int64)) + (i11.toInt64))), .second, .unset, .unset, .unset, .unset, .unset, .unset, .unset] [(.int (1 : Int32)), (.int i0)])) _
    refine XS.iand X0.here hx rfl (hb hby at_181) rfl ?_
    exact k
  by_cases hc288 : (i0 &&& (1 : Int32)) = (0 : Int32)
  · have pre289 : ∀ t, Steps p.tables e below (T0.setTop (mkF m 189 #[.val (.int i0), .val (.int i1), .val (.int i2), .val (.int i3), .val (.int i4), .val (.long j5), .second, .val (.int i7), .val (.int i8), .val (.long j9), .second, .val (.int i11), .val (.int i12), .val (.long j13), .second, .val (.long j15), .second, .val (.long ((j5 * (12 : Int64)) + (i7.toInt64))), .second, .val (.long ((j9 * (12 : Int64)) + (i11.toInt64))), .second, .unset, .unset, .unset, .unset, .unset, .unset, .unset] [])) t → Steps p.tables e below (T0.setTop (mkF m 155 #[.val (.int i0), .val (.int i1), .val (.int i2), .val (.int i3), .val (.int i4), .val (.long j5), .second, .val (.int i7), .val (.int i8), .val (.long j9), .second, .val (.int i11), .val (.int i12), .val (.long j13), .second, .val (.long j15), .second, .unset, .unset, .unset, .unset, .unset, .unset, .unset, .unset, .unset, .unset, .unset] [])) t := by
      intro t k
      refine pre287 _ ?_
      show Steps p.tables e below (T0.setTop (mkF m 182 #[.val (.int i0), .val (.int i1), .val (.int i2), .val (.int i3), .val (.int i4), .val (.long j5), .second, .val (.int i7), .val (.int i8), .val (.long j9), .second, .val (.int i11), .val (.int i12), .val (.long j13), .second, .val (.long j15), .second, .val (.long ((j5 * (12 : Int64)) + (i7.toInt64))), .second, .val (.long ((j9 * (12 : Int64)) + (i11.toInt64))), .second, .unset, .unset, .unset, .unset, .unset, .unset, .unset] [(.int (i0 &&& (1 : Int32)))])) _
      refine XS.ifYes X0.here hx rfl (pc0 := 182) (pc' := 189) rfl (hb hby at_182) rfl ((if0 _ _).trans (teq hc288).1) (by decide) (by decide) ?_
      exact k
    have pre290 : ∀ t, Steps p.tables e below (T0.setTop (mkF m 194 #[.val (.int i0), .val (.int i1), .val (.int i2), .val (.int i3), .val (.int i4), .val (.long j5), .second, .val (.int i7), .val (.int i8), .val (.long j9), .second, .val (.int i11), .val (.int i12), .val (.long j13), .second, .val (.long j15), .second, .val (.long ((j5 * (12 : Int64)) + (i7.toInt64))), .second, .val (.long ((j9 * (12 : Int64)) + (i11.toInt64))), .second, .val (.int (0 : Int32)), .unset, .unset, .unset, .unset, .unset, .unset] [(.int (0 : Int32))])) t → Steps p.tables e below (T0.setTop (mkF m 155 #[.val (.int i0), .val (.int i1), .val (.int i2), .val (.int i3), .val (.int i4), .val (.long j5), .second, .val (.int i7), .val (.int i8), .val (.long j9), .second, .val (.int i11), .val (.int i12), .val (.long j13), .second, .val (.long j15), .second, .unset, .unset, .unset, .unset, .unset, .unset, .unset, .unset, .unset, .unset, .unset] [])) t := by
      intro t k
      refine pre289 _ ?_
      show Steps p.tables e below (T0.setTop (mkF m 189 #[.val (.int i0), .val (.int i1), .val (.int i2), .val (.int i3), .val (.int i4), .val (.long j5), .second, .val (.int i7), .val (.int i8), .val (.long j9), .second, .val (.int i11), .val (.int i12), .val (.long j13), .second, .val (.long j15), .second, .val (.long ((j5 * (12 : Int64)) + (i7.toInt64))), .second, .val (.long ((j9 * (12 : Int64)) + (i11.toInt64))), .second, .unset, .unset, .unset, .unset, .unset, .unset, .unset] [])) _
      refine XS.iconst X0.here hx rfl (hb hby at_189) ?_
      show Steps p.tables e below (T0.setTop (mkF m 190 #[.val (.int i0), .val (.int i1), .val (.int i2), .val (.int i3), .val (.int i4), .val (.long j5), .second, .val (.int i7), .val (.int i8), .val (.long j9), .second, .val (.int i11), .val (.int i12), .val (.long j13), .second, .val (.long j15), .second, .val (.long ((j5 * (12 : Int64)) + (i7.toInt64))), .second, .val (.long ((j9 * (12 : Int64)) + (i11.toInt64))), .second, .unset, .unset, .unset, .unset, .unset, .unset, .unset] [(.int (0 : Int32))])) _
      refine XS.istore X0.here hx rfl (hb hby at_190) rfl (l' := #[.val (.int i0), .val (.int i1), .val (.int i2), .val (.int i3), .val (.int i4), .val (.long j5), .second, .val (.int i7), .val (.int i8), .val (.long j9), .second, .val (.int i11), .val (.int i12), .val (.long j13), .second, .val (.long j15), .second, .val (.long ((j5 * (12 : Int64)) + (i7.toInt64))), .second, .val (.long ((j9 * (12 : Int64)) + (i11.toInt64))), .second, .val (.int (0 : Int32)), .unset, .unset, .unset, .unset, .unset, .unset]) rfl ?_
      show Steps p.tables e below (T0.setTop (mkF m 192 #[.val (.int i0), .val (.int i1), .val (.int i2), .val (.int i3), .val (.int i4), .val (.long j5), .second, .val (.int i7), .val (.int i8), .val (.long j9), .second, .val (.int i11), .val (.int i12), .val (.long j13), .second, .val (.long j15), .second, .val (.long ((j5 * (12 : Int64)) + (i7.toInt64))), .second, .val (.long ((j9 * (12 : Int64)) + (i11.toInt64))), .second, .val (.int (0 : Int32)), .unset, .unset, .unset, .unset, .unset, .unset] [])) _
      refine XS.iload X0.here hx rfl (hb hby at_192) rfl ?_
      exact k
    have pre292 : ∀ t, Steps p.tables e below (T0.setTop (mkF m 302 #[.val (.int i0), .val (.int i1), .val (.int i2), .val (.int i3), .val (.int i4), .val (.long j5), .second, .val (.int i7), .val (.int i8), .val (.long j9), .second, .val (.int i11), .val (.int i12), .val (.long j13), .second, .val (.long j15), .second, .val (.long ((j5 * (12 : Int64)) + (i7.toInt64))), .second, .val (.long ((j9 * (12 : Int64)) + (i11.toInt64))), .second, .val (.int (0 : Int32)), .unset, .unset, .unset, .unset, .unset, .unset] [])) t → Steps p.tables e below (T0.setTop (mkF m 155 #[.val (.int i0), .val (.int i1), .val (.int i2), .val (.int i3), .val (.int i4), .val (.long j5), .second, .val (.int i7), .val (.int i8), .val (.long j9), .second, .val (.int i11), .val (.int i12), .val (.long j13), .second, .val (.long j15), .second, .unset, .unset, .unset, .unset, .unset, .unset, .unset, .unset, .unset, .unset, .unset] [])) t := by
      intro t k
      refine pre290 _ ?_
      show Steps p.tables e below (T0.setTop (mkF m 194 #[.val (.int i0), .val (.int i1), .val (.int i2), .val (.int i3), .val (.int i4), .val (.long j5), .second, .val (.int i7), .val (.int i8), .val (.long j9), .second, .val (.int i11), .val (.int i12), .val (.long j13), .second, .val (.long j15), .second, .val (.long ((j5 * (12 : Int64)) + (i7.toInt64))), .second, .val (.long ((j9 * (12 : Int64)) + (i11.toInt64))), .second, .val (.int (0 : Int32)), .unset, .unset, .unset, .unset, .unset, .unset] [(.int (0 : Int32))])) _
      refine XS.ifYes X0.here hx rfl (pc0 := 194) (pc' := 302) rfl (hb hby at_194) rfl ((if0 _ _).trans (teq (rfl : (0 : Int32) = (0 : Int32))).1) (by decide) (by decide) ?_
      exact k
    obtain ⟨T293, X293, e293, st293⟩ := getS2 X0 hx hZ hown (host := "") (Or.inl (hw _ (List.mem_of_getElem? (i := 7) rfl))) Via.refl e0 S_wA (g := (mkF m 302 #[.val (.int i0), .val (.int i1), .val (.int i2), .val (.int i3), .val (.int i4), .val (.long j5), .second, .val (.int i7), .val (.int i8), .val (.long j9), .second, .val (.int i11), .val (.int i12), .val (.long j13), .second, .val (.long j15), .second, .val (.long ((j5 * (12 : Int64)) + (i7.toInt64))), .second, .val (.long ((j9 * (12 : Int64)) + (i11.toInt64))), .second, .val (.int (0 : Int32)), .unset, .unset, .unset, .unset, .unset, .unset] [])) rfl (hb hby at_302)
    have pre294 : ∀ t, Steps p.tables e below (T293.setTop (mkF m 305 #[.val (.int i0), .val (.int i1), .val (.int i2), .val (.int i3), .val (.int i4), .val (.long j5), .second, .val (.int i7), .val (.int i8), .val (.long j9), .second, .val (.int i11), .val (.int i12), .val (.long j13), .second, .val (.long j15), .second, .val (.long ((j5 * (12 : Int64)) + (i7.toInt64))), .second, .val (.long ((j9 * (12 : Int64)) + (i11.toInt64))), .second, .val (.int (0 : Int32)), .unset, .unset, .unset, .unset, .unset, .unset] [(.ref wA)])) t → Steps p.tables e below (T0.setTop (mkF m 155 #[.val (.int i0), .val (.int i1), .val (.int i2), .val (.int i3), .val (.int i4), .val (.long j5), .second, .val (.int i7), .val (.int i8), .val (.long j9), .second, .val (.int i11), .val (.int i12), .val (.long j13), .second, .val (.long j15), .second, .unset, .unset, .unset, .unset, .unset, .unset, .unset, .unset, .unset, .unset, .unset] [])) t := by
      intro t k
      refine pre292 _ ?_
      show Steps p.tables e below (T0.setTop (mkF m 302 #[.val (.int i0), .val (.int i1), .val (.int i2), .val (.int i3), .val (.int i4), .val (.long j5), .second, .val (.int i7), .val (.int i8), .val (.long j9), .second, .val (.int i11), .val (.int i12), .val (.long j13), .second, .val (.long j15), .second, .val (.long ((j5 * (12 : Int64)) + (i7.toInt64))), .second, .val (.long ((j9 * (12 : Int64)) + (i11.toInt64))), .second, .val (.int (0 : Int32)), .unset, .unset, .unset, .unset, .unset, .unset] [])) _
      refine st293 _ ?_
      exact k
    have pre295 : ∀ t, Steps p.tables e below (T293.setTop (mkF m 313 #[.val (.int i0), .val (.int i1), .val (.int i2), .val (.int i3), .val (.int i4), .val (.long j5), .second, .val (.int i7), .val (.int i8), .val (.long j9), .second, .val (.int i11), .val (.int i12), .val (.long j13), .second, .val (.long j15), .second, .val (.long ((j5 * (12 : Int64)) + (i7.toInt64))), .second, .val (.long ((j9 * (12 : Int64)) + (i11.toInt64))), .second, .val (.int (0 : Int32)), .unset, .unset, .unset, .unset, .unset, .unset] [(.int i12), (.long ((j9 * (12 : Int64)) + (i11.toInt64))), (.int i8), (.long ((j5 * (12 : Int64)) + (i7.toInt64))), (.ref wA)])) t → Steps p.tables e below (T0.setTop (mkF m 155 #[.val (.int i0), .val (.int i1), .val (.int i2), .val (.int i3), .val (.int i4), .val (.long j5), .second, .val (.int i7), .val (.int i8), .val (.long j9), .second, .val (.int i11), .val (.int i12), .val (.long j13), .second, .val (.long j15), .second, .unset, .unset, .unset, .unset, .unset, .unset, .unset, .unset, .unset, .unset, .unset] [])) t := by
      intro t k
      refine pre294 _ ?_
      show Steps p.tables e below (T293.setTop (mkF m 305 #[.val (.int i0), .val (.int i1), .val (.int i2), .val (.int i3), .val (.int i4), .val (.long j5), .second, .val (.int i7), .val (.int i8), .val (.long j9), .second, .val (.int i11), .val (.int i12), .val (.long j13), .second, .val (.long j15), .second, .val (.long ((j5 * (12 : Int64)) + (i7.toInt64))), .second, .val (.long ((j9 * (12 : Int64)) + (i11.toInt64))), .second, .val (.int (0 : Int32)), .unset, .unset, .unset, .unset, .unset, .unset] [(.ref wA)])) _
      refine XS.lload X293.here hx rfl (hb hby at_305) rfl ?_
      show Steps p.tables e below (T293.setTop (mkF m 307 #[.val (.int i0), .val (.int i1), .val (.int i2), .val (.int i3), .val (.int i4), .val (.long j5), .second, .val (.int i7), .val (.int i8), .val (.long j9), .second, .val (.int i11), .val (.int i12), .val (.long j13), .second, .val (.long j15), .second, .val (.long ((j5 * (12 : Int64)) + (i7.toInt64))), .second, .val (.long ((j9 * (12 : Int64)) + (i11.toInt64))), .second, .val (.int (0 : Int32)), .unset, .unset, .unset, .unset, .unset, .unset] [(.long ((j5 * (12 : Int64)) + (i7.toInt64))), (.ref wA)])) _
      refine XS.iload X293.here hx rfl (hb hby at_307) rfl ?_
      show Steps p.tables e below (T293.setTop (mkF m 309 #[.val (.int i0), .val (.int i1), .val (.int i2), .val (.int i3), .val (.int i4), .val (.long j5), .second, .val (.int i7), .val (.int i8), .val (.long j9), .second, .val (.int i11), .val (.int i12), .val (.long j13), .second, .val (.long j15), .second, .val (.long ((j5 * (12 : Int64)) + (i7.toInt64))), .second, .val (.long ((j9 * (12 : Int64)) + (i11.toInt64))), .second, .val (.int (0 : Int32)), .unset, .unset, .unset, .unset, .unset, .unset] [(.int i8), (.long ((j5 * (12 : Int64)) + (i7.toInt64))), (.ref wA)])) _
      refine XS.lload X293.here hx rfl (hb hby at_309) rfl ?_
      show Steps p.tables e below (T293.setTop (mkF m 311 #[.val (.int i0), .val (.int i1), .val (.int i2), .val (.int i3), .val (.int i4), .val (.long j5), .second, .val (.int i7), .val (.int i8), .val (.long j9), .second, .val (.int i11), .val (.int i12), .val (.long j13), .second, .val (.long j15), .second, .val (.long ((j5 * (12 : Int64)) + (i7.toInt64))), .second, .val (.long ((j9 * (12 : Int64)) + (i11.toInt64))), .second, .val (.int (0 : Int32)), .unset, .unset, .unset, .unset, .unset, .unset] [(.long ((j9 * (12 : Int64)) + (i11.toInt64))), (.int i8), (.long ((j5 * (12 : Int64)) + (i7.toInt64))), (.ref wA)])) _
      refine XS.iload X293.here hx rfl (hb hby at_311) rfl ?_
      exact k
    obtain ⟨_, _, ⟨T296, L296, k296, n296⟩, -, X296, ⟨Lc296, hQ296, l296, y296, z296⟩, st296⟩ := Jvm.LawKit.callS X293 hx (y := (⟨"com/example/notesmith/notesmith/calc/Accrual", "days", "(Lcom/example/notesmith/notesmith/note/DayCount;JIJI)J"⟩ : MethodName)) hown (mvT hZ (hw _ (List.mem_of_getElem? (i := 10) rfl))) (mvT hZ (hw _ (List.mem_of_getElem? (i := 11) rfl))) (mvT hZ (hw _ (List.mem_of_getElem? (i := 12) rfl))) (mvT hZ (hw _ (List.mem_of_getElem? (i := 13) rfl))) (by decide) (backOf (W := 0) (rm2a l Z a0 hw [] wA ((j5 * (12 : Int64)) + (i7.toInt64)) i8 ((j9 * (12 : Int64)) + (i11.toInt64)) i12 cl_wS cl_wD wS wI wD h0 n0 Z0 E_wA Ford_A Ar_wS el_1 E_wI Ar_wD hD S_wS S_wI S_wD) hZ (hw _ (List.mem_of_getElem? (i := 13) rfl)) (hw _ (List.mem_of_getElem? (i := 12) rfl)) (by decide) (by decide)) (g := (mkF m 313 #[.val (.int i0), .val (.int i1), .val (.int i2), .val (.int i3), .val (.int i4), .val (.long j5), .second, .val (.int i7), .val (.int i8), .val (.long j9), .second, .val (.int i11), .val (.int i12), .val (.long j13), .second, .val (.long j15), .second, .val (.long ((j5 * (12 : Int64)) + (i7.toInt64))), .second, .val (.long ((j9 * (12 : Int64)) + (i11.toInt64))), .second, .val (.int (0 : Int32)), .unset, .unset, .unset, .unset, .unset, .unset] [(.int i12), (.long ((j9 * (12 : Int64)) + (i11.toInt64))), (.int i8), (.long ((j5 * (12 : Int64)) + (i7.toInt64))), (.ref wA)])) rfl (by rw [hml]; rfl) (argsL := [(.ref wA), (.long ((j5 * (12 : Int64)) + (i7.toInt64))), (.int i8), (.long ((j9 * (12 : Int64)) + (i11.toInt64))), (.int i12)]) (rest := []) (lenOf pd__Lcom_example_notesmith_notesmith_note_DayCount_JIJI_J rfl) rfl (by show 2 * 0 + _ ≤ _; exact Nat.le_of_eq rfl) (hb hby at_313) (fun _ _ => ⟨rfl, e293, (by decide : 0 + 0 ≤ _), (by decide : 0 + 0 ≤ _)⟩)
    dsimp only [Pt.U, Pt.locs, Pt.cells, Pt.slots] at X296 l296 y296 z296 st296 hQ296
    subst l296 y296 z296
    obtain ⟨rfl, N296q, e296⟩ := hQ296
    have N296 := Fr.app N0 N296q
    have pre297 : ∀ t, Steps p.tables e below (T296.setTop (mkF m 316 #[.val (.int i0), .val (.int i1), .val (.int i2), .val (.int i3), .val (.int i4), .val (.long j5), .second, .val (.int i7), .val (.int i8), .val (.long j9), .second, .val (.int i11), .val (.int i12), .val (.long j13), .second, .val (.long j15), .second, .val (.long ((j5 * (12 : Int64)) + (i7.toInt64))), .second, .val (.long ((j9 * (12 : Int64)) + (i11.toInt64))), .second, .val (.int (0 : Int32)), .unset, .unset, .unset, .unset, .unset, .unset] [(.long (F2a ((j5 * (12 : Int64)) + (i7.toInt64)) i8 ((j9 * (12 : Int64)) + (i11.toInt64)) i12))])) t → Steps p.tables e below (T0.setTop (mkF m 155 #[.val (.int i0), .val (.int i1), .val (.int i2), .val (.int i3), .val (.int i4), .val (.long j5), .second, .val (.int i7), .val (.int i8), .val (.long j9), .second, .val (.int i11), .val (.int i12), .val (.long j13), .second, .val (.long j15), .second, .unset, .unset, .unset, .unset, .unset, .unset, .unset, .unset, .unset, .unset, .unset] [])) t := by
      intro t k
      refine pre295 _ ?_
      show Steps p.tables e below (T293.setTop (mkF m 313 #[.val (.int i0), .val (.int i1), .val (.int i2), .val (.int i3), .val (.int i4), .val (.long j5), .second, .val (.int i7), .val (.int i8), .val (.long j9), .second, .val (.int i11), .val (.int i12), .val (.long j13), .second, .val (.long j15), .second, .val (.long ((j5 * (12 : Int64)) + (i7.toInt64))), .second, .val (.long ((j9 * (12 : Int64)) + (i11.toInt64))), .second, .val (.int (0 : Int32)), .unset, .unset, .unset, .unset, .unset, .unset] [(.int i12), (.long ((j9 * (12 : Int64)) + (i11.toInt64))), (.int i8), (.long ((j5 * (12 : Int64)) + (i7.toInt64))), (.ref wA)])) _
      refine st296 _ ?_
      exact k
    have pre298 : ∀ t, Steps p.tables e below (T296.setTop (mkF m 326 #[.val (.int i0), .val (.int i1), .val (.int i2), .val (.int i3), .val (.int i4), .val (.long j5), .second, .val (.int i7), .val (.int i8), .val (.long j9), .second, .val (.int i11), .val (.int i12), .val (.long j13), .second, .val (.long j15), .second, .val (.long ((j5 * (12 : Int64)) + (i7.toInt64))), .second, .val (.long ((j9 * (12 : Int64)) + (i11.toInt64))), .second, .val (.int (0 : Int32)), .val (.long (F2a ((j5 * (12 : Int64)) + (i7.toInt64)) i8 ((j9 * (12 : Int64)) + (i11.toInt64)) i12)), .second, .unset, .unset, .unset, .unset] [(.int i12), (.int (i11 + (1 : Int32))), (.long j9)])) t → Steps p.tables e below (T0.setTop (mkF m 155 #[.val (.int i0), .val (.int i1), .val (.int i2), .val (.int i3), .val (.int i4), .val (.long j5), .second, .val (.int i7), .val (.int i8), .val (.long j9), .second, .val (.int i11), .val (.int i12), .val (.long j13), .second, .val (.long j15), .second, .unset, .unset, .unset, .unset, .unset, .unset, .unset, .unset, .unset, .unset, .unset] [])) t := by
      intro t k
      refine pre297 _ ?_
      show Steps p.tables e below (T296.setTop (mkF m 316 #[.val (.int i0), .val (.int i1), .val (.int i2), .val (.int i3), .val (.int i4), .val (.long j5), .second, .val (.int i7), .val (.int i8), .val (.long j9), .second, .val (.int i11), .val (.int i12), .val (.long j13), .second, .val (.long j15), .second, .val (.long ((j5 * (12 : Int64)) + (i7.toInt64))), .second, .val (.long ((j9 * (12 : Int64)) + (i11.toInt64))), .second, .val (.int (0 : Int32)), .unset, .unset, .unset, .unset, .unset, .unset] [(.long (F2a ((j5 * (12 : Int64)) + (i7.toInt64)) i8 ((j9 * (12 : Int64)) + (i11.toInt64)) i12))])) _
      refine XS.lstore X296.here hx rfl (hb hby at_316) rfl (l' := #[.val (.int i0), .val (.int i1), .val (.int i2), .val (.int i3), .val (.int i4), .val (.long j5), .second, .val (.int i7), .val (.int i8), .val (.long j9), .second, .val (.int i11), .val (.int i12), .val (.long j13), .second, .val (.long j15), .second, .val (.long ((j5 * (12 : Int64)) + (i7.toInt64))), .second, .val (.long ((j9 * (12 : Int64)) + (i11.toInt64))), .second, .val (.int (0 : Int32)), .val (.long (F2a ((j5 * (12 : Int64)) + (i7.toInt64)) i8 ((j9 * (12 : Int64)) + (i11.toInt64)) i12)), .second, .unset, .unset, .unset, .unset]) rfl ?_
      show Steps p.tables e below (T296.setTop (mkF m 318 #[.val (.int i0), .val (.int i1), .val (.int i2), .val (.int i3), .val (.int i4), .val (.long j5), .second, .val (.int i7), .val (.int i8), .val (.long j9), .second, .val (.int i11), .val (.int i12), .val (.long j13), .second, .val (.long j15), .second, .val (.long ((j5 * (12 : Int64)) + (i7.toInt64))), .second, .val (.long ((j9 * (12 : Int64)) + (i11.toInt64))), .second, .val (.int (0 : Int32)), .val (.long (F2a ((j5 * (12 : Int64)) + (i7.toInt64)) i8 ((j9 * (12 : Int64)) + (i11.toInt64)) i12)), .second, .unset, .unset, .unset, .unset] [])) _
      refine XS.lload X296.here hx rfl (hb hby at_318) rfl ?_
      show Steps p.tables e below (T296.setTop (mkF m 320 #[.val (.int i0), .val (.int i1), .val (.int i2), .val (.int i3), .val (.int i4), .val (.long j5), .second, .val (.int i7), .val (.int i8), .val (.long j9), .second, .val (.int i11), .val (.int i12), .val (.long j13), .second, .val (.long j15), .second, .val (.long ((j5 * (12 : Int64)) + (i7.toInt64))), .second, .val (.long ((j9 * (12 : Int64)) + (i11.toInt64))), .second, .val (.int (0 : Int32)), .val (.long (F2a ((j5 * (12 : Int64)) + (i7.toInt64)) i8 ((j9 * (12 : Int64)) + (i11.toInt64)) i12)), .second, .unset, .unset, .unset, .unset] [(.long j9)])) _
      refine XS.iload X296.here hx rfl (hb hby at_320) rfl ?_
      show Steps p.tables e below (T296.setTop (mkF m 322 #[.val (.int i0), .val (.int i1), .val (.int i2), .val (.int i3), .val (.int i4), .val (.long j5), .second, .val (.int i7), .val (.int i8), .val (.long j9), .second, .val (.int i11), .val (.int i12), .val (.long j13), .second, .val (.long j15), .second, .val (.long ((j5 * (12 : Int64)) + (i7.toInt64))), .second, .val (.long ((j9 * (12 : Int64)) + (i11.toInt64))), .second, .val (.int (0 : Int32)), .val (.long (F2a ((j5 * (12 : Int64)) + (i7.toInt64)) i8 ((j9 * (12 : Int64)) + (i11.toInt64)) i12)), .second, .unset, .unset, .unset, .unset] [(.int i11), (.long j9)])) _
      refine XS.iconst X296.here hx rfl (hb hby at_322) ?_
      show Steps p.tables e below (T296.setTop (mkF m 323 #[.val (.int i0), .val (.int i1), .val (.int i2), .val (.int i3), .val (.int i4), .val (.long j5), .second, .val (.int i7), .val (.int i8), .val (.long j9), .second, .val (.int i11), .val (.int i12), .val (.long j13), .second, .val (.long j15), .second, .val (.long ((j5 * (12 : Int64)) + (i7.toInt64))), .second, .val (.long ((j9 * (12 : Int64)) + (i11.toInt64))), .second, .val (.int (0 : Int32)), .val (.long (F2a ((j5 * (12 : Int64)) + (i7.toInt64)) i8 ((j9 * (12 : Int64)) + (i11.toInt64)) i12)), .second, .unset, .unset, .unset, .unset] [(.int (1 : Int32)), (.int i11), (.long j9)])) _
      refine XS.iadd X296.here hx rfl (hb hby at_323) rfl ?_
      show Steps p.tables e below (T296.setTop (mkF m 324 #[.val (.int i0), .val (.int i1), .val (.int i2), .val (.int i3), .val (.int i4), .val (.long j5), .second, .val (.int i7), .val (.int i8), .val (.long j9), .second, .val (.int i11), .val (.int i12), .val (.long j13), .second, .val (.long j15), .second, .val (.long ((j5 * (12 : Int64)) + (i7.toInt64))), .second, .val (.long ((j9 * (12 : Int64)) + (i11.toInt64))), .second, .val (.int (0 : Int32)), .val (.long (F2a ((j5 * (12 : Int64)) + (i7.toInt64)) i8 ((j9 * (12 : Int64)) + (i11.toInt64)) i12)), .second, .unset, .unset, .unset, .unset] [(.int (i11 + (1 : Int32))), (.long j9)])) _
      refine XS.iload X296.here hx rfl (hb hby at_324) rfl ?_
      exact k
    obtain ⟨_, _, ⟨T299, L299, k299, n299⟩, -, X299, ⟨Lc299, hQ299, l299, y299, z299⟩, st299⟩ := Jvm.LawKit.callS X296 hx (y := (⟨"com/example/notesmith/notesmith/calc/AccrualDaysPinLaw", "civilDays", "(JII)J"⟩ : MethodName)) hown (mvT hZ (hw _ (List.mem_of_getElem? (i := 56) rfl))) (mvT hZ (hw _ (List.mem_of_getElem? (i := 57) rfl))) (mvT hZ (hw _ (List.mem_of_getElem? (i := 4) rfl))) (mvT hZ (hw _ (List.mem_of_getElem? (i := 58) rfl))) (by decide) (backOf (W := 0) (rm10 l Z a0 hw [] j9 (i11 + (1 : Int32)) i12 h0 n0 Z0 ) hZ (hw _ (List.mem_of_getElem? (i := 58) rfl)) (hw _ (List.mem_of_getElem? (i := 4) rfl)) (by decide) (by decide)) (g := (mkF m 326 #[.val (.int i0), .val (.int i1), .val (.int i2), .val (.int i3), .val (.int i4), .val (.long j5), .second, .val (.int i7), .val (.int i8), .val (.long j9), .second, .val (.int i11), .val (.int i12), .val (.long j13), .second, .val (.long j15), .second, .val (.long ((j5 * (12 : Int64)) + (i7.toInt64))), .second, .val (.long ((j9 * (12 : Int64)) + (i11.toInt64))), .second, .val (.int (0 : Int32)), .val (.long (F2a ((j5 * (12 : Int64)) + (i7.toInt64)) i8 ((j9 * (12 : Int64)) + (i11.toInt64)) i12)), .second, .unset, .unset, .unset, .unset] [(.int i12), (.int (i11 + (1 : Int32))), (.long j9)])) rfl (by rw [hml]; rfl) (argsL := [(.long j9), (.int (i11 + (1 : Int32))), (.int i12)]) (rest := []) (lenOf pd__JII_J rfl) rfl (by show 2 * 0 + _ ≤ _; exact Nat.le_of_eq rfl) (hb hby at_326) (fun _ _ => ⟨rfl, e296, (by decide : 0 + 0 ≤ _), (by decide : 0 + 0 ≤ _)⟩)
    dsimp only [Pt.U, Pt.locs, Pt.cells, Pt.slots] at X299 l299 y299 z299 st299 hQ299
    subst l299 y299 z299
    obtain ⟨rfl, N299q, e299⟩ := hQ299
    have N299 := Fr.app N296 N299q
    have pre300 : ∀ t, Steps p.tables e below (T299.setTop (mkF m 329 #[.val (.int i0), .val (.int i1), .val (.int i2), .val (.int i3), .val (.int i4), .val (.long j5), .second, .val (.int i7), .val (.int i8), .val (.long j9), .second, .val (.int i11), .val (.int i12), .val (.long j13), .second, .val (.long j15), .second, .val (.long ((j5 * (12 : Int64)) + (i7.toInt64))), .second, .val (.long ((j9 * (12 : Int64)) + (i11.toInt64))), .second, .val (.int (0 : Int32)), .val (.long (F2a ((j5 * (12 : Int64)) + (i7.toInt64)) i8 ((j9 * (12 : Int64)) + (i11.toInt64)) i12)), .second, .unset, .unset, .unset, .unset] [(.long (F10 j9 (i11 + (1 : Int32)) i12))])) t → Steps p.tables e below (T0.setTop (mkF m 155 #[.val (.int i0), .val (.int i1), .val (.int i2), .val (.int i3), .val (.int i4), .val (.long j5), .second, .val (.int i7), .val (.int i8), .val (.long j9), .second, .val (.int i11), .val (.int i12), .val (.long j13), .second, .val (.long j15), .second, .unset, .unset, .unset, .unset, .unset, .unset, .unset, .unset, .unset, .unset, .unset] [])) t := by
      intro t k
      refine pre298 _ ?_
      show Steps p.tables e below (T296.setTop (mkF m 326 #[.val (.int i0), .val (.int i1), .val (.int i2), .val (.int i3), .val (.int i4), .val (.long j5), .second, .val (.int i7), .val (.int i8), .val (.long j9), .second, .val (.int i11), .val (.int i12), .val (.long j13), .second, .val (.long j15), .second, .val (.long ((j5 * (12 : Int64)) + (i7.toInt64))), .second, .val (.long ((j9 * (12 : Int64)) + (i11.toInt64))), .second, .val (.int (0 : Int32)), .val (.long (F2a ((j5 * (12 : Int64)) + (i7.toInt64)) i8 ((j9 * (12 : Int64)) + (i11.toInt64)) i12)), .second, .unset, .unset, .unset, .unset] [(.int i12), (.int (i11 + (1 : Int32))), (.long j9)])) _
      refine st299 _ ?_
      exact k
    have pre301 : ∀ t, Steps p.tables e below (T299.setTop (mkF m 337 #[.val (.int i0), .val (.int i1), .val (.int i2), .val (.int i3), .val (.int i4), .val (.long j5), .second, .val (.int i7), .val (.int i8), .val (.long j9), .second, .val (.int i11), .val (.int i12), .val (.long j13), .second, .val (.long j15), .second, .val (.long ((j5 * (12 : Int64)) + (i7.toInt64))), .second, .val (.long ((j9 * (12 : Int64)) + (i11.toInt64))), .second, .val (.int (0 : Int32)), .val (.long (F2a ((j5 * (12 : Int64)) + (i7.toInt64)) i8 ((j9 * (12 : Int64)) + (i11.toInt64)) i12)), .second, .unset, .unset, .unset, .unset] [(.int i8), (.int (i7 + (1 : Int32))), (.long j5), (.long (F10 j9 (i11 + (1 : Int32)) i12))])) t → Steps p.tables e below (T0.setTop (mkF m 155 #[.val (.int i0), .val (.int i1), .val (.int i2), .val (.int i3), .val (.int i4), .val (.long j5), .second, .val (.int i7), .val (.int i8), .val (.long j9), .second, .val (.int i11), .val (.int i12), .val (.long j13), .second, .val (.long j15), .second, .unset, .unset, .unset, .unset, .unset, .unset, .unset, .unset, .unset, .unset, .unset] [])) t := by
      intro t k
      refine pre300 _ ?_
      show Steps p.tables e below (T299.setTop (mkF m 329 #[.val (.int i0), .val (.int i1), .val (.int i2), .val (.int i3), .val (.int i4), .val (.long j5), .second, .val (.int i7), .val (.int i8), .val (.long j9), .second, .val (.int i11), .val (.int i12), .val (.long j13), .second, .val (.long j15), .second, .val (.long ((j5 * (12 : Int64)) + (i7.toInt64))), .second, .val (.long ((j9 * (12 : Int64)) + (i11.toInt64))), .second, .val (.int (0 : Int32)), .val (.long (F2a ((j5 * (12 : Int64)) + (i7.toInt64)) i8 ((j9 * (12 : Int64)) + (i11.toInt64)) i12)), .second, .unset, .unset, .unset, .unset] [(.long (F10 j9 (i11 + (1 : Int32)) i12))])) _
      refine XS.lload X299.here hx rfl (hb hby at_329) rfl ?_
      show Steps p.tables e below (T299.setTop (mkF m 331 #[.val (.int i0), .val (.int i1), .val (.int i2), .val (.int i3), .val (.int i4), .val (.long j5), .second, .val (.int i7), .val (.int i8), .val (.long j9), .second, .val (.int i11), .val (.int i12), .val (.long j13), .second, .val (.long j15), .second, .val (.long ((j5 * (12 : Int64)) + (i7.toInt64))), .second, .val (.long ((j9 * (12 : Int64)) + (i11.toInt64))), .second, .val (.int (0 : Int32)), .val (.long (F2a ((j5 * (12 : Int64)) + (i7.toInt64)) i8 ((j9 * (12 : Int64)) + (i11.toInt64)) i12)), .second, .unset, .unset, .unset, .unset] [(.long j5), (.long (F10 j9 (i11 + (1 : Int32)) i12))])) _
      refine XS.iload X299.here hx rfl (hb hby at_331) rfl ?_
      show Steps p.tables e below (T299.setTop (mkF m 333 #[.val (.int i0), .val (.int i1), .val (.int i2), .val (.int i3), .val (.int i4), .val (.long j5), .second, .val (.int i7), .val (.int i8), .val (.long j9), .second, .val (.int i11), .val (.int i12), .val (.long j13), .second, .val (.long j15), .second, .val (.long ((j5 * (12 : Int64)) + (i7.toInt64))), .second, .val (.long ((j9 * (12 : Int64)) + (i11.toInt64))), .second, .val (.int (0 : Int32)), .val (.long (F2a ((j5 * (12 : Int64)) + (i7.toInt64)) i8 ((j9 * (12 : Int64)) + (i11.toInt64)) i12)), .second, .unset, .unset, .unset, .unset] [(.int i7), (.long j5), (.long (F10 j9 (i11 + (1 : Int32)) i12))])) _
      refine XS.iconst X299.here hx rfl (hb hby at_333) ?_
      show Steps p.tables e below (T299.setTop (mkF m 334 #[.val (.int i0), .val (.int i1), .val (.int i2), .val (.int i3), .val (.int i4), .val (.long j5), .second, .val (.int i7), .val (.int i8), .val (.long j9), .second, .val (.int i11), .val (.int i12), .val (.long j13), .second, .val (.long j15), .second, .val (.long ((j5 * (12 : Int64)) + (i7.toInt64))), .second, .val (.long ((j9 * (12 : Int64)) + (i11.toInt64))), .second, .val (.int (0 : Int32)), .val (.long (F2a ((j5 * (12 : Int64)) + (i7.toInt64)) i8 ((j9 * (12 : Int64)) + (i11.toInt64)) i12)), .second, .unset, .unset, .unset, .unset] [(.int (1 : Int32)), (.int i7), (.long j5), (.long (F10 j9 (i11 + (1 : Int32)) i12))])) _
      refine XS.iadd X299.here hx rfl (hb hby at_334) rfl ?_
      show Steps p.tables e below (T299.setTop (mkF m 335 #[.val (.int i0), .val (.int i1), .val (.int i2), .val (.int i3), .val (.int i4), .val (.long j5), .second, .val (.int i7), .val (.int i8), .val (.long j9), .second, .val (.int i11), .val (.int i12), .val (.long j13), .second, .val (.long j15), .second, .val (.long ((j5 * (12 : Int64)) + (i7.toInt64))), .second, .val (.long ((j9 * (12 : Int64)) + (i11.toInt64))), .second, .val (.int (0 : Int32)), .val (.long (F2a ((j5 * (12 : Int64)) + (i7.toInt64)) i8 ((j9 * (12 : Int64)) + (i11.toInt64)) i12)), .second, .unset, .unset, .unset, .unset] [(.int (i7 + (1 : Int32))), (.long j5), (.long (F10 j9 (i11 + (1 : Int32)) i12))])) _
      refine XS.iload X299.here hx rfl (hb hby at_335) rfl ?_
      exact k
    obtain ⟨_, _, ⟨T302, L302, k302, n302⟩, -, X302, ⟨Lc302, hQ302, l302, y302, z302⟩, st302⟩ := Jvm.LawKit.callS X299 hx (y := (⟨"com/example/notesmith/notesmith/calc/AccrualDaysPinLaw", "civilDays", "(JII)J"⟩ : MethodName)) hown (mvT hZ (hw _ (List.mem_of_getElem? (i := 56) rfl))) (mvT hZ (hw _ (List.mem_of_getElem? (i := 57) rfl))) (mvT hZ (hw _ (List.mem_of_getElem? (i := 4) rfl))) (mvT hZ (hw _ (List.mem_of_getElem? (i := 58) rfl))) (by decide) (backOf (W := 2) (rm10 l Z a0 hw [] j5 (i7 + (1 : Int32)) i8 h0 n0 Z0 ) hZ (hw _ (List.mem_of_getElem? (i := 58) rfl)) (hw _ (List.mem_of_getElem? (i := 4) rfl)) (by decide) (by decide)) (g := (mkF m 337 #[.val (.int i0), .val (.int i1), .val (.int i2), .val (.int i3), .val (.int i4), .val (.long j5), .second, .val (.int i7), .val (.int i8), .val (.long j9), .second, .val (.int i11), .val (.int i12), .val (.long j13), .second, .val (.long j15), .second, .val (.long ((j5 * (12 : Int64)) + (i7.toInt64))), .second, .val (.long ((j9 * (12 : Int64)) + (i11.toInt64))), .second, .val (.int (0 : Int32)), .val (.long (F2a ((j5 * (12 : Int64)) + (i7.toInt64)) i8 ((j9 * (12 : Int64)) + (i11.toInt64)) i12)), .second, .unset, .unset, .unset, .unset] [(.int i8), (.int (i7 + (1 : Int32))), (.long j5), (.long (F10 j9 (i11 + (1 : Int32)) i12))])) rfl (by rw [hml]; rfl) (argsL := [(.long j5), (.int (i7 + (1 : Int32))), (.int i8)]) (rest := [(.long (F10 j9 (i11 + (1 : Int32)) i12))]) (lenOf pd__JII_J rfl) rfl (by show 2 * 0 + _ ≤ _; exact Nat.le_of_eq rfl) (hb hby at_337) (fun _ _ => ⟨rfl, e299, (by decide : 0 + 0 ≤ _), (by decide : 0 + 0 ≤ _)⟩)
    dsimp only [Pt.U, Pt.locs, Pt.cells, Pt.slots] at X302 l302 y302 z302 st302 hQ302
    subst l302 y302 z302
    obtain ⟨rfl, N302q, e302⟩ := hQ302
    have N302 := Fr.app N299 N302q
    have pre303 : ∀ t, Steps p.tables e below (T302.setTop (mkF m 340 #[.val (.int i0), .val (.int i1), .val (.int i2), .val (.int i3), .val (.int i4), .val (.long j5), .second, .val (.int i7), .val (.int i8), .val (.long j9), .second, .val (.int i11), .val (.int i12), .val (.long j13), .second, .val (.long j15), .second, .val (.long ((j5 * (12 : Int64)) + (i7.toInt64))), .second, .val (.long ((j9 * (12 : Int64)) + (i11.toInt64))), .second, .val (.int (0 : Int32)), .val (.long (F2a ((j5 * (12 : Int64)) + (i7.toInt64)) i8 ((j9 * (12 : Int64)) + (i11.toInt64)) i12)), .second, .unset, .unset, .unset, .unset] [(.long (F10 j5 (i7 + (1 : Int32)) i8)), (.long (F10 j9 (i11 + (1 : Int32)) i12))])) t → Steps p.tables e below (T0.setTop (mkF m 155 #[.val (.int i0), .val (.int i1), .val (.int i2), .val (.int i3), .val (.int i4), .val (.long j5), .second, .val (.int i7), .val (.int i8), .val (.long j9), .second, .val (.int i11), .val (.int i12), .val (.long j13), .second, .val (.long j15), .second, .unset, .unset, .unset, .unset, .unset, .unset, .unset, .unset, .unset, .unset, .unset] [])) t := by
      intro t k
      refine pre301 _ ?_
      show Steps p.tables e below (T299.setTop (mkF m 337 #[.val (.int i0), .val (.int i1), .val (.int i2), .val (.int i3), .val (.int i4), .val (.long j5), .second, .val (.int i7), .val (.int i8), .val (.long j9), .second, .val (.int i11), .val (.int i12), .val (.long j13), .second, .val (.long j15), .second, .val (.long ((j5 * (12 : Int64)) + (i7.toInt64))), .second, .val (.long ((j9 * (12 : Int64)) + (i11.toInt64))), .second, .val (.int (0 : Int32)), .val (.long (F2a ((j5 * (12 : Int64)) + (i7.toInt64)) i8 ((j9 * (12 : Int64)) + (i11.toInt64)) i12)), .second, .unset, .unset, .unset, .unset] [(.int i8), (.int (i7 + (1 : Int32))), (.long j5), (.long (F10 j9 (i11 + (1 : Int32)) i12))])) _
      refine st302 _ ?_
      exact k
    have pre304 : ∀ t, Steps p.tables e below (T302.setTop (mkF m 348 #[.val (.int i0), .val (.int i1), .val (.int i2), .val (.int i3), .val (.int i4), .val (.long j5), .second, .val (.int i7), .val (.int i8), .val (.long j9), .second, .val (.int i11), .val (.int i12), .val (.long j13), .second, .val (.long j15), .second, .val (.long ((j5 * (12 : Int64)) + (i7.toInt64))), .second, .val (.long ((j9 * (12 : Int64)) + (i11.toInt64))), .second, .val (.int (0 : Int32)), .val (.long (F2a ((j5 * (12 : Int64)) + (i7.toInt64)) i8 ((j9 * (12 : Int64)) + (i11.toInt64)) i12)), .second, .val (.long ((F10 j9 (i11 + (1 : Int32)) i12) - (F10 j5 (i7 + (1 : Int32)) i8))), .second, .unset, .unset] [(.int (lcmpW (F2a ((j5 * (12 : Int64)) + (i7.toInt64)) i8 ((j9 * (12 : Int64)) + (i11.toInt64)) i12) ((F10 j9 (i11 + (1 : Int32)) i12) - (F10 j5 (i7 + (1 : Int32)) i8))))])) t → Steps p.tables e below (T0.setTop (mkF m 155 #[.val (.int i0), .val (.int i1), .val (.int i2), .val (.int i3), .val (.int i4), .val (.long j5), .second, .val (.int i7), .val (.int i8), .val (.long j9), .second, .val (.int i11), .val (.int i12), .val (.long j13), .second, .val (.long j15), .second, .unset, .unset, .unset, .unset, .unset, .unset, .unset, .unset, .unset, .unset, .unset] [])) t := by
      intro t k
      refine pre303 _ ?_
      show Steps p.tables e below (T302.setTop (mkF m 340 #[.val (.int i0), .val (.int i1), .val (.int i2), .val (.int i3), .val (.int i4), .val (.long j5), .second, .val (.int i7), .val (.int i8), .val (.long j9), .second, .val (.int i11), .val (.int i12), .val (.long j13), .second, .val (.long j15), .second, .val (.long ((j5 * (12 : Int64)) + (i7.toInt64))), .second, .val (.long ((j9 * (12 : Int64)) + (i11.toInt64))), .second, .val (.int (0 : Int32)), .val (.long (F2a ((j5 * (12 : Int64)) + (i7.toInt64)) i8 ((j9 * (12 : Int64)) + (i11.toInt64)) i12)), .second, .unset, .unset, .unset, .unset] [(.long (F10 j5 (i7 + (1 : Int32)) i8)), (.long (F10 j9 (i11 + (1 : Int32)) i12))])) _
      refine XS.lsub X302.here hx rfl (hb hby at_340) rfl ?_
      show Steps p.tables e below (T302.setTop (mkF m 341 #[.val (.int i0), .val (.int i1), .val (.int i2), .val (.int i3), .val (.int i4), .val (.long j5), .second, .val (.int i7), .val (.int i8), .val (.long j9), .second, .val (.int i11), .val (.int i12), .val (.long j13), .second, .val (.long j15), .second, .val (.long ((j5 * (12 : Int64)) + (i7.toInt64))), .second, .val (.long ((j9 * (12 : Int64)) + (i11.toInt64))), .second, .val (.int (0 : Int32)), .val (.long (F2a ((j5 * (12 : Int64)) + (i7.toInt64)) i8 ((j9 * (12 : Int64)) + (i11.toInt64)) i12)), .second, .unset, .unset, .unset, .unset] [(.long ((F10 j9 (i11 + (1 : Int32)) i12) - (F10 j5 (i7 + (1 : Int32)) i8)))])) _
      refine XS.lstore X302.here hx rfl (hb hby at_341) rfl (l' := #[.val (.int i0), .val (.int i1), .val (.int i2), .val (.int i3), .val (.int i4), .val (.long j5), .second, .val (.int i7), .val (.int i8), .val (.long j9), .second, .val (.int i11), .val (.int i12), .val (.long j13), .second, .val (.long j15), .second, .val (.long ((j5 * (12 : Int64)) + (i7.toInt64))), .second, .val (.long ((j9 * (12 : Int64)) + (i11.toInt64))), .second, .val (.int (0 : Int32)), .val (.long (F2a ((j5 * (12 : Int64)) + (i7.toInt64)) i8 ((j9 * (12 : Int64)) + (i11.toInt64)) i12)), .second, .val (.long ((F10 j9 (i11 + (1 : Int32)) i12) - (F10 j5 (i7 + (1 : Int32)) i8))), .second, .unset, .unset]) rfl ?_
      show Steps p.tables e below (T302.setTop (mkF m 343 #[.val (.int i0), .val (.int i1), .val (.int i2), .val (.int i3), .val (.int i4), .val (.long j5), .second, .val (.int i7), .val (.int i8), .val (.long j9), .second, .val (.int i11), .val (.int i12), .val (.long j13), .second, .val (.long j15), .second, .val (.long ((j5 * (12 : Int64)) + (i7.toInt64))), .second, .val (.long ((j9 * (12 : Int64)) + (i11.toInt64))), .second, .val (.int (0 : Int32)), .val (.long (F2a ((j5 * (12 : Int64)) + (i7.toInt64)) i8 ((j9 * (12 : Int64)) + (i11.toInt64)) i12)), .second, .val (.long ((F10 j9 (i11 + (1 : Int32)) i12) - (F10 j5 (i7 + (1 : Int32)) i8))), .second, .unset, .unset] [])) _
      refine XS.lload X302.here hx rfl (hb hby at_343) rfl ?_
      show Steps p.tables e below (T302.setTop (mkF m 345 #[.val (.int i0), .val (.int i1), .val (.int i2), .val (.int i3), .val (.int i4), .val (.long j5), .second, .val (.int i7), .val (.int i8), .val (.long j9), .second, .val (.int i11), .val (.int i12), .val (.long j13), .second, .val (.long j15), .second, .val (.long ((j5 * (12 : Int64)) + (i7.toInt64))), .second, .val (.long ((j9 * (12 : Int64)) + (i11.toInt64))), .second, .val (.int (0 : Int32)), .val (.long (F2a ((j5 * (12 : Int64)) + (i7.toInt64)) i8 ((j9 * (12 : Int64)) + (i11.toInt64)) i12)), .second, .val (.long ((F10 j9 (i11 + (1 : Int32)) i12) - (F10 j5 (i7 + (1 : Int32)) i8))), .second, .unset, .unset] [(.long (F2a ((j5 * (12 : Int64)) + (i7.toInt64)) i8 ((j9 * (12 : Int64)) + (i11.toInt64)) i12))])) _
      refine XS.lload X302.here hx rfl (hb hby at_345) rfl ?_
      show Steps p.tables e below (T302.setTop (mkF m 347 #[.val (.int i0), .val (.int i1), .val (.int i2), .val (.int i3), .val (.int i4), .val (.long j5), .second, .val (.int i7), .val (.int i8), .val (.long j9), .second, .val (.int i11), .val (.int i12), .val (.long j13), .second, .val (.long j15), .second, .val (.long ((j5 * (12 : Int64)) + (i7.toInt64))), .second, .val (.long ((j9 * (12 : Int64)) + (i11.toInt64))), .second, .val (.int (0 : Int32)), .val (.long (F2a ((j5 * (12 : Int64)) + (i7.toInt64)) i8 ((j9 * (12 : Int64)) + (i11.toInt64)) i12)), .second, .val (.long ((F10 j9 (i11 + (1 : Int32)) i12) - (F10 j5 (i7 + (1 : Int32)) i8))), .second, .unset, .unset] [(.long ((F10 j9 (i11 + (1 : Int32)) i12) - (F10 j5 (i7 + (1 : Int32)) i8))), (.long (F2a ((j5 * (12 : Int64)) + (i7.toInt64)) i8 ((j9 * (12 : Int64)) + (i11.toInt64)) i12))])) _
      refine XS.lcmp X302.here hx rfl (hb hby at_347) rfl ?_
      exact k
    by_cases hc305 : (lcmpW (F2a ((j5 * (12 : Int64)) + (i7.toInt64)) i8 ((j9 * (12 : Int64)) + (i11.toInt64)) i12) ((F10 j9 (i11 + (1 : Int32)) i12) - (F10 j5 (i7 + (1 : Int32)) i8))) = (0 : Int32)
    · have pre306 : ∀ t, Steps p.tables e below (T302.setTop (mkF m 351 #[.val (.int i0), .val (.int i1), .val (.int i2), .val (.int i3), .val (.int i4), .val (.long j5), .second, .val (.int i7), .val (.int i8), .val (.long j9), .second, .val (.int i11), .val (.int i12), .val (.long j13), .second, .val (.long j15), .second, .val (.long ((j5 * (12 : Int64)) + (i7.toInt64))), .second, .val (.long ((j9 * (12 : Int64)) + (i11.toInt64))), .second, .val (.int (0 : Int32)), .val (.long (F2a ((j5 * (12 : Int64)) + (i7.toInt64)) i8 ((j9 * (12 : Int64)) + (i11.toInt64)) i12)), .second, .val (.long ((F10 j9 (i11 + (1 : Int32)) i12) - (F10 j5 (i7 + (1 : Int32)) i8))), .second, .unset, .unset] [])) t → Steps p.tables e below (T0.setTop (mkF m 155 #[.val (.int i0), .val (.int i1), .val (.int i2), .val (.int i3), .val (.int i4), .val (.long j5), .second, .val (.int i7), .val (.int i8), .val (.long j9), .second, .val (.int i11), .val (.int i12), .val (.long j13), .second, .val (.long j15), .second, .unset, .unset, .unset, .unset, .unset, .unset, .unset, .unset, .unset, .unset, .unset] [])) t := by
        intro t k
        refine pre304 _ ?_
        show Steps p.tables e below (T302.setTop (mkF m 348 #[.val (.int i0), .val (.int i1), .val (.int i2), .val (.int i3), .val (.int i4), .val (.long j5), .second, .val (.int i7), .val (.int i8), .val (.long j9), .second, .val (.int i11), .val (.int i12), .val (.long j13), .second, .val (.long j15), .second, .val (.long ((j5 * (12 : Int64)) + (i7.toInt64))), .second, .val (.long ((j9 * (12 : Int64)) + (i11.toInt64))), .second, .val (.int (0 : Int32)), .val (.long (F2a ((j5 * (12 : Int64)) + (i7.toInt64)) i8 ((j9 * (12 : Int64)) + (i11.toInt64)) i12)), .second, .val (.long ((F10 j9 (i11 + (1 : Int32)) i12) - (F10 j5 (i7 + (1 : Int32)) i8))), .second, .unset, .unset] [(.int (lcmpW (F2a ((j5 * (12 : Int64)) + (i7.toInt64)) i8 ((j9 * (12 : Int64)) + (i11.toInt64)) i12) ((F10 j9 (i11 + (1 : Int32)) i12) - (F10 j5 (i7 + (1 : Int32)) i8))))])) _
        refine XS.ifNo X302.here hx rfl (hb hby at_348) rfl ((if0 _ _).trans (teq hc305).2) ?_
        exact k
      have pre307 : ∀ t, Steps p.tables e below (T302.setTop (mkF m 356 #[.val (.int i0), .val (.int i1), .val (.int i2), .val (.int i3), .val (.int i4), .val (.long j5), .second, .val (.int i7), .val (.int i8), .val (.long j9), .second, .val (.int i11), .val (.int i12), .val (.long j13), .second, .val (.long j15), .second, .val (.long ((j5 * (12 : Int64)) + (i7.toInt64))), .second, .val (.long ((j9 * (12 : Int64)) + (i11.toInt64))), .second, .val (.int (0 : Int32)), .val (.long (F2a ((j5 * (12 : Int64)) + (i7.toInt64)) i8 ((j9 * (12 : Int64)) + (i11.toInt64)) i12)), .second, .val (.long ((F10 j9 (i11 + (1 : Int32)) i12) - (F10 j5 (i7 + (1 : Int32)) i8))), .second, .unset, .unset] [(.int (1 : Int32))])) t → Steps p.tables e below (T0.setTop (mkF m 155 #[.val (.int i0), .val (.int i1), .val (.int i2), .val (.int i3), .val (.int i4), .val (.long j5), .second, .val (.int i7), .val (.int i8), .val (.long j9), .second, .val (.int i11), .val (.int i12), .val (.long j13), .second, .val (.long j15), .second, .unset, .unset, .unset, .unset, .unset, .unset, .unset, .unset, .unset, .unset, .unset] [])) t := by
        intro t k
        refine pre306 _ ?_
        show Steps p.tables e below (T302.setTop (mkF m 351 #[.val (.int i0), .val (.int i1), .val (.int i2), .val (.int i3), .val (.int i4), .val (.long j5), .second, .val (.int i7), .val (.int i8), .val (.long j9), .second, .val (.int i11), .val (.int i12), .val (.long j13), .second, .val (.long j15), .second, .val (.long ((j5 * (12 : Int64)) + (i7.toInt64))), .second, .val (.long ((j9 * (12 : Int64)) + (i11.toInt64))), .second, .val (.int (0 : Int32)), .val (.long (F2a ((j5 * (12 : Int64)) + (i7.toInt64)) i8 ((j9 * (12 : Int64)) + (i11.toInt64)) i12)), .second, .val (.long ((F10 j9 (i11 + (1 : Int32)) i12) - (F10 j5 (i7 + (1 : Int32)) i8))), .second, .unset, .unset] [])) _
        refine XS.iconst X302.here hx rfl (hb hby at_351) ?_
        show Steps p.tables e below (T302.setTop (mkF m 352 #[.val (.int i0), .val (.int i1), .val (.int i2), .val (.int i3), .val (.int i4), .val (.long j5), .second, .val (.int i7), .val (.int i8), .val (.long j9), .second, .val (.int i11), .val (.int i12), .val (.long j13), .second, .val (.long j15), .second, .val (.long ((j5 * (12 : Int64)) + (i7.toInt64))), .second, .val (.long ((j9 * (12 : Int64)) + (i11.toInt64))), .second, .val (.int (0 : Int32)), .val (.long (F2a ((j5 * (12 : Int64)) + (i7.toInt64)) i8 ((j9 * (12 : Int64)) + (i11.toInt64)) i12)), .second, .val (.long ((F10 j9 (i11 + (1 : Int32)) i12) - (F10 j5 (i7 + (1 : Int32)) i8))), .second, .unset, .unset] [(.int (1 : Int32))])) _
        refine XS.goto X302.here hx rfl (pc0 := 352) (pc' := 356) rfl (hb hby at_352) (by decide) (by decide) ?_
        exact k
      obtain ⟨fs, hr, hrun, hended, hW, hsame⟩ := X302.leave (v := some (.int (1 : Int32))) (fun h => by rw [hret] at h; cases h) (hlocks := hlocks)
      refine ⟨_, _, pre307 _ ?_, hrun, hended, _, _, rfl, ?_, ⟨_, rfl⟩, hW, hsame.mono (by decide) (by decide)⟩
      · show Steps p.tables e below (T302.setTop (mkF m 356 #[.val (.int i0), .val (.int i1), .val (.int i2), .val (.int i3), .val (.int i4), .val (.long j5), .second, .val (.int i7), .val (.int i8), .val (.long j9), .second, .val (.int i11), .val (.int i12), .val (.long j13), .second, .val (.long j15), .second, .val (.long ((j5 * (12 : Int64)) + (i7.toInt64))), .second, .val (.long ((j9 * (12 : Int64)) + (i11.toInt64))), .second, .val (.int (0 : Int32)), .val (.long (F2a ((j5 * (12 : Int64)) + (i7.toInt64)) i8 ((j9 * (12 : Int64)) + (i11.toInt64)) i12)), .second, .val (.long ((F10 j9 (i11 + (1 : Int32)) i12) - (F10 j5 (i7 + (1 : Int32)) i8))), .second, .unset, .unset] [(.int (1 : Int32))])) _
        exact retN X302 hx (t := .boolean) hret (by simp) (hb hby at_356) hr
      · exact ⟨(by rw [F0_155_1, if_pos hc288, if_pos hc305]), N302, e302⟩
    · have pre308 : ∀ t, Steps p.tables e below (T302.setTop (mkF m 355 #[.val (.int i0), .val (.int i1), .val (.int i2), .val (.int i3), .val (.int i4), .val (.long j5), .second, .val (.int i7), .val (.int i8), .val (.long j9), .second, .val (.int i11), .val (.int i12), .val (.long j13), .second, .val (.long j15), .second, .val (.long ((j5 * (12 : Int64)) + (i7.toInt64))), .second, .val (.long ((j9 * (12 : Int64)) + (i11.toInt64))), .second, .val (.int (0 : Int32)), .val (.long (F2a ((j5 * (12 : Int64)) + (i7.toInt64)) i8 ((j9 * (12 : Int64)) + (i11.toInt64)) i12)), .second, .val (.long ((F10 j9 (i11 + (1 : Int32)) i12) - (F10 j5 (i7 + (1 : Int32)) i8))), .second, .unset, .unset] [])) t → Steps p.tables e below (T0.setTop (mkF m 155 #[.val (.int i0), .val (.int i1), .val (.int i2), .val (.int i3), .val (.int i4), .val (.long j5), .second, .val (.int i7), .val (.int i8), .val (.long j9), .second, .val (.int i11), .val (.int i12), .val (.long j13), .second, .val (.long j15), .second, .unset, .unset, .unset, .unset, .unset, .unset, .unset, .unset, .unset, .unset, .unset] [])) t := by
        intro t k
        refine pre304 _ ?_
        show Steps p.tables e below (T302.setTop (mkF m 348 #[.val (.int i0), .val (.int i1), .val (.int i2), .val (.int i3), .val (.int i4), .val (.long j5), .second, .val (.int i7), .val (.int i8), .val (.long j9), .second, .val (.int i11), .val (.int i12), .val (.long j13), .second, .val (.long j15), .second, .val (.long ((j5 * (12 : Int64)) + (i7.toInt64))), .second, .val (.long ((j9 * (12 : Int64)) + (i11.toInt64))), .second, .val (.int (0 : Int32)), .val (.long (F2a ((j5 * (12 : Int64)) + (i7.toInt64)) i8 ((j9 * (12 : Int64)) + (i11.toInt64)) i12)), .second, .val (.long ((F10 j9 (i11 + (1 : Int32)) i12) - (F10 j5 (i7 + (1 : Int32)) i8))), .second, .unset, .unset] [(.int (lcmpW (F2a ((j5 * (12 : Int64)) + (i7.toInt64)) i8 ((j9 * (12 : Int64)) + (i11.toInt64)) i12) ((F10 j9 (i11 + (1 : Int32)) i12) - (F10 j5 (i7 + (1 : Int32)) i8))))])) _
        refine XS.ifYes X302.here hx rfl (pc0 := 348) (pc' := 355) rfl (hb hby at_348) rfl ((if0 _ _).trans (feq hc305).2) (by decide) (by decide) ?_
        exact k
      have pre309 : ∀ t, Steps p.tables e below (T302.setTop (mkF m 356 #[.val (.int i0), .val (.int i1), .val (.int i2), .val (.int i3), .val (.int i4), .val (.long j5), .second, .val (.int i7), .val (.int i8), .val (.long j9), .second, .val (.int i11), .val (.int i12), .val (.long j13), .second, .val (.long j15), .second, .val (.long ((j5 * (12 : Int64)) + (i7.toInt64))), .second, .val (.long ((j9 * (12 : Int64)) + (i11.toInt64))), .second, .val (.int (0 : Int32)), .val (.long (F2a ((j5 * (12 : Int64)) + (i7.toInt64)) i8 ((j9 * (12 : Int64)) + (i11.toInt64)) i12)), .second, .val (.long ((F10 j9 (i11 + (1 : Int32)) i12) - (F10 j5 (i7 + (1 : Int32)) i8))), .second, .unset, .unset] [(.int (0 : Int32))])) t → Steps p.tables e below (T0.setTop (mkF m 155 #[.val (.int i0), .val (.int i1), .val (.int i2), .val (.int i3), .val (.int i4), .val (.long j5), .second, .val (.int i7), .val (.int i8), .val (.long j9), .second, .val (.int i11), .val (.int i12), .val (.long j13), .second, .val (.long j15), .second, .unset, .unset, .unset, .unset, .unset, .unset, .unset, .unset, .unset, .unset, .unset] [])) t := by
        intro t k
        refine pre308 _ ?_
        show Steps p.tables e below (T302.setTop (mkF m 355 #[.val (.int i0), .val (.int i1), .val (.int i2), .val (.int i3), .val (.int i4), .val (.long j5), .second, .val (.int i7), .val (.int i8), .val (.long j9), .second, .val (.int i11), .val (.int i12), .val (.long j13), .second, .val (.long j15), .second, .val (.long ((j5 * (12 : Int64)) + (i7.toInt64))), .second, .val (.long ((j9 * (12 : Int64)) + (i11.toInt64))), .second, .val (.int (0 : Int32)), .val (.long (F2a ((j5 * (12 : Int64)) + (i7.toInt64)) i8 ((j9 * (12 : Int64)) + (i11.toInt64)) i12)), .second, .val (.long ((F10 j9 (i11 + (1 : Int32)) i12) - (F10 j5 (i7 + (1 : Int32)) i8))), .second, .unset, .unset] [])) _
        refine XS.iconst X302.here hx rfl (hb hby at_355) ?_
        exact k
      obtain ⟨fs, hr, hrun, hended, hW, hsame⟩ := X302.leave (v := some (.int (0 : Int32))) (fun h => by rw [hret] at h; cases h) (hlocks := hlocks)
      refine ⟨_, _, pre309 _ ?_, hrun, hended, _, _, rfl, ?_, ⟨_, rfl⟩, hW, hsame.mono (by decide) (by decide)⟩
      · show Steps p.tables e below (T302.setTop (mkF m 356 #[.val (.int i0), .val (.int i1), .val (.int i2), .val (.int i3), .val (.int i4), .val (.long j5), .second, .val (.int i7), .val (.int i8), .val (.long j9), .second, .val (.int i11), .val (.int i12), .val (.long j13), .second, .val (.long j15), .second, .val (.long ((j5 * (12 : Int64)) + (i7.toInt64))), .second, .val (.long ((j9 * (12 : Int64)) + (i11.toInt64))), .second, .val (.int (0 : Int32)), .val (.long (F2a ((j5 * (12 : Int64)) + (i7.toInt64)) i8 ((j9 * (12 : Int64)) + (i11.toInt64)) i12)), .second, .val (.long ((F10 j9 (i11 + (1 : Int32)) i12) - (F10 j5 (i7 + (1 : Int32)) i8))), .second, .unset, .unset] [(.int (0 : Int32))])) _
        exact retN X302 hx (t := .boolean) hret (by simp) (hb hby at_356) hr
      · exact ⟨(by rw [F0_155_1, if_pos hc288, if_neg hc305]), N302, e302⟩
  · have pre310 : ∀ t, Steps p.tables e below (T0.setTop (mkF m 185 #[.val (.int i0), .val (.int i1), .val (.int i2), .val (.int i3), .val (.int i4), .val (.long j5), .second, .val (.int i7), .val (.int i8), .val (.long j9), .second, .val (.int i11), .val (.int i12), .val (.long j13), .second, .val (.long j15), .second, .val (.long ((j5 * (12 : Int64)) + (i7.toInt64))), .second, .val (.long ((j9 * (12 : Int64)) + (i11.toInt64))), .second, .unset, .unset, .unset, .unset, .unset, .unset, .unset] [])) t → Steps p.tables e below (T0.setTop (mkF m 155 #[.val (.int i0), .val (.int i1), .val (.int i2), .val (.int i3), .val (.int i4), .val (.long j5), .second, .val (.int i7), .val (.int i8), .val (.long j9), .second, .val (.int i11), .val (.int i12), .val (.long j13), .second, .val (.long j15), .second, .unset, .unset, .unset, .unset, .unset, .unset, .unset, .unset, .unset, .unset, .unset] [])) t := by
      intro t k
      refine pre287 _ ?_
      show Steps p.tables e below (T0.setTop (mkF m 182 #[.val (.int i0), .val (.int i1), .val (.int i2), .val (.int i3), .val (.int i4), .val (.long j5), .second, .val (.int i7), .val (.int i8), .val (.long j9), .second, .val (.int i11), .val (.int i12), .val (.long j13), .second, .val (.long j15), .second, .val (.long ((j5 * (12 : Int64)) + (i7.toInt64))), .second, .val (.long ((j9 * (12 : Int64)) + (i11.toInt64))), .second, .unset, .unset, .unset, .unset, .unset, .unset, .unset] [(.int (i0 &&& (1 : Int32)))])) _
      refine XS.ifNo X0.here hx rfl (hb hby at_182) rfl ((if0 _ _).trans (feq hc288).1) ?_
      exact k
    have pre311 : ∀ t, Steps p.tables e below (T0.setTop (mkF m 194 #[.val (.int i0), .val (.int i1), .val (.int i2), .val (.int i3), .val (.int i4), .val (.long j5), .second, .val (.int i7), .val (.int i8), .val (.long j9), .second, .val (.int i11), .val (.int i12), .val (.long j13), .second, .val (.long j15), .second, .val (.long ((j5 * (12 : Int64)) + (i7.toInt64))), .second, .val (.long ((j9 * (12 : Int64)) + (i11.toInt64))), .second, .val (.int (1 : Int32)), .unset, .unset, .unset, .unset, .unset, .unset] [(.int (1 : Int32))])) t → Steps p.tables e below (T0.setTop (mkF m 155 #[.val (.int i0), .val (.int i1), .val (.int i2), .val (.int i3), .val (.int i4), .val (.long j5), .second, .val (.int i7), .val (.int i8), .val (.long j9), .second, .val (.int i11), .val (.int i12), .val (.long j13), .second, .val (.long j15), .second, .unset, .unset, .unset, .unset, .unset, .unset, .unset, .unset, .unset, .unset, .unset] [])) t := by
      intro t k
      refine pre310 _ ?_
      show Steps p.tables e below (T0.setTop (mkF m 185 #[.val (.int i0), .val (.int i1), .val (.int i2), .val (.int i3), .val (.int i4), .val (.long j5), .second, .val (.int i7), .val (.int i8), .val (.long j9), .second, .val (.int i11), .val (.int i12), .val (.long j13), .second, .val (.long j15), .second, .val (.long ((j5 * (12 : Int64)) + (i7.toInt64))), .second, .val (.long ((j9 * (12 : Int64)) + (i11.toInt64))), .second, .unset, .unset, .unset, .unset, .unset, .unset, .unset] [])) _
      refine XS.iconst X0.here hx rfl (hb hby at_185) ?_
      show Steps p.tables e below (T0.setTop (mkF m 186 #[.val (.int i0), .val (.int i1), .val (.int i2), .val (.int i3), .val (.int i4), .val (.long j5), .second, .val (.int i7), .val (.int i8), .val (.long j9), .second, .val (.int i11), .val (.int i12), .val (.long j13), .second, .val (.long j15), .second, .val (.long ((j5 * (12 : Int64)) + (i7.toInt64))), .second, .val (.long ((j9 * (12 : Int64)) + (i11.toInt64))), .second, .unset, .unset, .unset, .unset, .unset, .unset, .unset] [(.int (1 : Int32))])) _
      refine XS.goto X0.here hx rfl (pc0 := 186) (pc' := 190) rfl (hb hby at_186) (by decide) (by decide) ?_
      show Steps p.tables e below (T0.setTop (mkF m 190 #[.val (.int i0), .val (.int i1), .val (.int i2), .val (.int i3), .val (.int i4), .val (.long j5), .second, .val (.int i7), .val (.int i8), .val (.long j9), .second, .val (.int i11), .val (.int i12), .val (.long j13), .second, .val (.long j15), .second, .val (.long ((j5 * (12 : Int64)) + (i7.toInt64))), .second, .val (.long ((j9 * (12 : Int64)) + (i11.toInt64))), .second, .unset, .unset, .unset, .unset, .unset, .unset, .unset] [(.int (1 : Int32))])) _
      refine XS.istore X0.here hx rfl (hb hby at_190) rfl (l' := #[.val (.int i0), .val (.int i1), .val (.int i2), .val (.int i3), .val (.int i4), .val (.long j5), .second, .val (.int i7), .val (.int i8), .val (.long j9), .second, .val (.int i11), .val (.int i12), .val (.long j13), .second, .val (.long j15), .second, .val (.long ((j5 * (12 : Int64)) + (i7.toInt64))), .second, .val (.long ((j9 * (12 : Int64)) + (i11.toInt64))), .second, .val (.int (1 : Int32)), .unset, .unset, .unset, .unset, .unset, .unset]) rfl ?_
      show Steps p.tables e below (T0.setTop (mkF m 192 #[.val (.int i0), .val (.int i1), .val (.int i2), .val (.int i3), .val (.int i4), .val (.long j5), .second, .val (.int i7), .val (.int i8), .val (.long j9), .second, .val (.int i11), .val (.int i12), .val (.long j13), .second, .val (.long j15), .second, .val (.long ((j5 * (12 : Int64)) + (i7.toInt64))), .second, .val (.long ((j9 * (12 : Int64)) + (i11.toInt64))), .second, .val (.int (1 : Int32)), .unset, .unset, .unset, .unset, .unset, .unset] [])) _
      refine XS.iload X0.here hx rfl (hb hby at_192) rfl ?_
      exact k
    have pre313 : ∀ t, Steps p.tables e below (T0.setTop (mkF m 197 #[.val (.int i0), .val (.int i1), .val (.int i2), .val (.int i3), .val (.int i4), .val (.long j5), .second, .val (.int i7), .val (.int i8), .val (.long j9), .second, .val (.int i11), .val (.int i12), .val (.long j13), .second, .val (.long j15), .second, .val (.long ((j5 * (12 : Int64)) + (i7.toInt64))), .second, .val (.long ((j9 * (12 : Int64)) + (i11.toInt64))), .second, .val (.int (1 : Int32)), .unset, .unset, .unset, .unset, .unset, .unset] [])) t → Steps p.tables e below (T0.setTop (mkF m 155 #[.val (.int i0), .val (.int i1), .val (.int i2), .val (.int i3), .val (.int i4), .val (.long j5), .second, .val (.int i7), .val (.int i8), .val (.long j9), .second, .val (.int i11), .val (.int i12), .val (.long j13), .second, .val (.long j15), .second, .unset, .unset, .unset, .unset, .unset, .unset, .unset, .unset, .unset, .unset, .unset] [])) t := by
      intro t k
      refine pre311 _ ?_
      show Steps p.tables e below (T0.setTop (mkF m 194 #[.val (.int i0), .val (.int i1), .val (.int i2), .val (.int i3), .val (.int i4), .val (.long j5), .second, .val (.int i7), .val (.int i8), .val (.long j9), .second, .val (.int i11), .val (.int i12), .val (.long j13), .second, .val (.long j15), .second, .val (.long ((j5 * (12 : Int64)) + (i7.toInt64))), .second, .val (.long ((j9 * (12 : Int64)) + (i11.toInt64))), .second, .val (.int (1 : Int32)), .unset, .unset, .unset, .unset, .unset, .unset] [(.int (1 : Int32))])) _
      refine XS.ifNo X0.here hx rfl (hb hby at_194) rfl ((if0 _ _).trans (feq (by decide : ¬ ((1 : Int32) = (0 : Int32)))).1) ?_
      exact k
    obtain ⟨T314, X314, e314, st314⟩ := getS2 X0 hx hZ hown (host := "") (Or.inl (hw _ (List.mem_of_getElem? (i := 67) rfl))) Via.refl e0 S_wT (g := (mkF m 197 #[.val (.int i0), .val (.int i1), .val (.int i2), .val (.int i3), .val (.int i4), .val (.long j5), .second, .val (.int i7), .val (.int i8), .val (.long j9), .second, .val (.int i11), .val (.int i12), .val (.long j13), .second, .val (.long j15), .second, .val (.long ((j5 * (12 : Int64)) + (i7.toInt64))), .second, .val (.long ((j9 * (12 : Int64)) + (i11.toInt64))), .second, .val (.int (1 : Int32)), .unset, .unset, .unset, .unset, .unset, .unset] [])) rfl (hb hby at_197)
    have pre315 : ∀ t, Steps p.tables e below (T314.setTop (mkF m 200 #[.val (.int i0), .val (.int i1), .val (.int i2), .val (.int i3), .val (.int i4), .val (.long j5), .second, .val (.int i7), .val (.int i8), .val (.long j9), .second, .val (.int i11), .val (.int i12), .val (.long j13), .second, .val (.long j15), .second, .val (.long ((j5 * (12 : Int64)) + (i7.toInt64))), .second, .val (.long ((j9 * (12 : Int64)) + (i11.toInt64))), .second, .val (.int (1 : Int32)), .unset, .unset, .unset, .unset, .unset, .unset] [(.ref wT)])) t → Steps p.tables e below (T0.setTop (mkF m 155 #[.val (.int i0), .val (.int i1), .val (.int i2), .val (.int i3), .val (.int i4), .val (.long j5), .second, .val (.int i7), .val (.int i8), .val (.long j9), .second, .val (.int i11), .val (.int i12), .val (.long j13), .second, .val (.long j15), .second, .unset, .unset, .unset, .unset, .unset, .unset, .unset, .unset, .unset, .unset, .unset] [])) t := by
      intro t k
      refine pre313 _ ?_
      show Steps p.tables e below (T0.setTop (mkF m 197 #[.val (.int i0), .val (.int i1), .val (.int i2), .val (.int i3), .val (.int i4), .val (.long j5), .second, .val (.int i7), .val (.int i8), .val (.long j9), .second, .val (.int i11), .val (.int i12), .val (.long j13), .second, .val (.long j15), .second, .val (.long ((j5 * (12 : Int64)) + (i7.toInt64))), .second, .val (.long ((j9 * (12 : Int64)) + (i11.toInt64))), .second, .val (.int (1 : Int32)), .unset, .unset, .unset, .unset, .unset, .unset] [])) _
      refine st314 _ ?_
      exact k
    have pre316 : ∀ t, Steps p.tables e below (T314.setTop (mkF m 208 #[.val (.int i0), .val (.int i1), .val (.int i2), .val (.int i3), .val (.int i4), .val (.long j5), .second, .val (.int i7), .val (.int i8), .val (.long j9), .second, .val (.int i11), .val (.int i12), .val (.long j13), .second, .val (.long j15), .second, .val (.long ((j5 * (12 : Int64)) + (i7.toInt64))), .second, .val (.long ((j9 * (12 : Int64)) + (i11.toInt64))), .second, .val (.int (1 : Int32)), .unset, .unset, .unset, .unset, .unset, .unset] [(.int i12), (.long ((j9 * (12 : Int64)) + (i11.toInt64))), (.int i8), (.long ((j5 * (12 : Int64)) + (i7.toInt64))), (.ref wT)])) t → Steps p.tables e below (T0.setTop (mkF m 155 #[.val (.int i0), .val (.int i1), .val (.int i2), .val (.int i3), .val (.int i4), .val (.long j5), .second, .val (.int i7), .val (.int i8), .val (.long j9), .second, .val (.int i11), .val (.int i12), .val (.long j13), .second, .val (.long j15), .second, .unset, .unset, .unset, .unset, .unset, .unset, .unset, .unset, .unset, .unset, .unset] [])) t := by
      intro t k
      refine pre315 _ ?_
      show Steps p.tables e below (T314.setTop (mkF m 200 #[.val (.int i0), .val (.int i1), .val (.int i2), .val (.int i3), .val (.int i4), .val (.long j5), .second, .val (.int i7), .val (.int i8), .val (.long j9), .second, .val (.int i11), .val (.int i12), .val (.long j13), .second, .val (.long j15), .second, .val (.long ((j5 * (12 : Int64)) + (i7.toInt64))), .second, .val (.long ((j9 * (12 : Int64)) + (i11.toInt64))), .second, .val (.int (1 : Int32)), .unset, .unset, .unset, .unset, .unset, .unset] [(.ref wT)])) _
      refine XS.lload X314.here hx rfl (hb hby at_200) rfl ?_
      show Steps p.tables e below (T314.setTop (mkF m 202 #[.val (.int i0), .val (.int i1), .val (.int i2), .val (.int i3), .val (.int i4), .val (.long j5), .second, .val (.int i7), .val (.int i8), .val (.long j9), .second, .val (.int i11), .val (.int i12), .val (.long j13), .second, .val (.long j15), .second, .val (.long ((j5 * (12 : Int64)) + (i7.toInt64))), .second, .val (.long ((j9 * (12 : Int64)) + (i11.toInt64))), .second, .val (.int (1 : Int32)), .unset, .unset, .unset, .unset, .unset, .unset] [(.long ((j5 * (12 : Int64)) + (i7.toInt64))), (.ref wT)])) _
      refine XS.iload X314.here hx rfl (hb hby at_202) rfl ?_
      show Steps p.tables e below (T314.setTop (mkF m 204 #[.val (.int i0), .val (.int i1), .val (.int i2), .val (.int i3), .val (.int i4), .val (.long j5), .second, .val (.int i7), .val (.int i8), .val (.long j9), .second, .val (.int i11), .val (.int i12), .val (.long j13), .second, .val (.long j15), .second, .val (.long ((j5 * (12 : Int64)) + (i7.toInt64))), .second, .val (.long ((j9 * (12 : Int64)) + (i11.toInt64))), .second, .val (.int (1 : Int32)), .unset, .unset, .unset, .unset, .unset, .unset] [(.int i8), (.long ((j5 * (12 : Int64)) + (i7.toInt64))), (.ref wT)])) _
      refine XS.lload X314.here hx rfl (hb hby at_204) rfl ?_
      show Steps p.tables e below (T314.setTop (mkF m 206 #[.val (.int i0), .val (.int i1), .val (.int i2), .val (.int i3), .val (.int i4), .val (.long j5), .second, .val (.int i7), .val (.int i8), .val (.long j9), .second, .val (.int i11), .val (.int i12), .val (.long j13), .second, .val (.long j15), .second, .val (.long ((j5 * (12 : Int64)) + (i7.toInt64))), .second, .val (.long ((j9 * (12 : Int64)) + (i11.toInt64))), .second, .val (.int (1 : Int32)), .unset, .unset, .unset, .unset, .unset, .unset] [(.long ((j9 * (12 : Int64)) + (i11.toInt64))), (.int i8), (.long ((j5 * (12 : Int64)) + (i7.toInt64))), (.ref wT)])) _
      refine XS.iload X314.here hx rfl (hb hby at_206) rfl ?_
      exact k
    obtain ⟨_, _, ⟨T317, L317, k317, n317⟩, -, X317, ⟨Lc317, hQ317, l317, y317, z317⟩, st317⟩ := Jvm.LawKit.callS X314 hx (y := (⟨"com/example/notesmith/notesmith/calc/Accrual", "days", "(Lcom/example/notesmith/notesmith/note/DayCount;JIJI)J"⟩ : MethodName)) hown (mvT hZ (hw _ (List.mem_of_getElem? (i := 10) rfl))) (mvT hZ (hw _ (List.mem_of_getElem? (i := 11) rfl))) (mvT hZ (hw _ (List.mem_of_getElem? (i := 12) rfl))) (mvT hZ (hw _ (List.mem_of_getElem? (i := 13) rfl))) (by decide) (backOf (W := 0) (rm2t l Z a0 hw [] wT ((j5 * (12 : Int64)) + (i7.toInt64)) i8 ((j9 * (12 : Int64)) + (i11.toInt64)) i12 cl_wS wS h0 n0 Z0 E_wT Ford_T Ar_wS el_0 S_wS) hZ (hw _ (List.mem_of_getElem? (i := 13) rfl)) (hw _ (List.mem_of_getElem? (i := 12) rfl)) (by decide) (by decide)) (g := (mkF m 208 #[.val (.int i0), .val (.int i1), .val (.int i2), .val (.int i3), .val (.int i4), .val (.long j5), .second, .val (.int i7), .val (.int i8), .val (.long j9), .second, .val (.int i11), .val (.int i12), .val (.long j13), .second, .val (.long j15), .second, .val (.long ((j5 * (12 : Int64)) + (i7.toInt64))), .second, .val (.long ((j9 * (12 : Int64)) + (i11.toInt64))), .second, .val (.int (1 : Int32)), .unset, .unset, .unset, .unset, .unset, .unset] [(.int i12), (.long ((j9 * (12 : Int64)) + (i11.toInt64))), (.int i8), (.long ((j5 * (12 : Int64)) + (i7.toInt64))), (.ref wT)])) rfl (by rw [hml]; rfl) (argsL := [(.ref wT), (.long ((j5 * (12 : Int64)) + (i7.toInt64))), (.int i8), (.long ((j9 * (12 : Int64)) + (i11.toInt64))), (.int i12)]) (rest := []) (lenOf pd__Lcom_example_notesmith_notesmith_note_DayCount_JIJI_J rfl) rfl (by show 2 * 0 + _ ≤ _; exact Nat.le_of_eq rfl) (hb hby at_208) (fun _ _ => ⟨rfl, e314, (by decide : 0 + 0 ≤ _), (by decide : 0 + 0 ≤ _)⟩)
    dsimp only [Pt.U, Pt.locs, Pt.cells, Pt.slots] at X317 l317 y317 z317 st317 hQ317
    subst l317 y317 z317
    obtain ⟨rfl, N317q, e317⟩ := hQ317
    have N317 := Fr.app N0 N317q
    have pre318 : ∀ t, Steps p.tables e below (T317.setTop (mkF m 211 #[.val (.int i0), .val (.int i1), .val (.int i2), .val (.int i3), .val (.int i4), .val (.long j5), .second, .val (.int i7), .val (.int i8), .val (.long j9), .second, .val (.int i11), .val (.int i12), .val (.long j13), .second, .val (.long j15), .second, .val (.long ((j5 * (12 : Int64)) + (i7.toInt64))), .second, .val (.long ((j9 * (12 : Int64)) + (i11.toInt64))), .second, .val (.int (1 : Int32)), .unset, .unset, .unset, .unset, .unset, .unset] [(.long (F2t ((j5 * (12 : Int64)) + (i7.toInt64)) i8 ((j9 * (12 : Int64)) + (i11.toInt64)) i12))])) t → Steps p.tables e below (T0.setTop (mkF m 155 #[.val (.int i0), .val (.int i1), .val (.int i2), .val (.int i3), .val (.int i4), .val (.long j5), .second, .val (.int i7), .val (.int i8), .val (.long j9), .second, .val (.int i11), .val (.int i12), .val (.long j13), .second, .val (.long j15), .second, .unset, .unset, .unset, .unset, .unset, .unset, .unset, .unset, .unset, .unset, .unset] [])) t := by
      intro t k
      refine pre316 _ ?_
      show Steps p.tables e below (T314.setTop (mkF m 208 #[.val (.int i0), .val (.int i1), .val (.int i2), .val (.int i3), .val (.int i4), .val (.long j5), .second, .val (.int i7), .val (.int i8), .val (.long j9), .second, .val (.int i11), .val (.int i12), .val (.long j13), .second, .val (.long j15), .second, .val (.long ((j5 * (12 : Int64)) + (i7.toInt64))), .second, .val (.long ((j9 * (12 : Int64)) + (i11.toInt64))), .second, .val (.int (1 : Int32)), .unset, .unset, .unset, .unset, .unset, .unset] [(.int i12), (.long ((j9 * (12 : Int64)) + (i11.toInt64))), (.int i8), (.long ((j5 * (12 : Int64)) + (i7.toInt64))), (.ref wT)])) _
      refine st317 _ ?_
      exact k
    have pre319 : ∀ t, Steps p.tables e below (T317.setTop (mkF m 217 #[.val (.int i0), .val (.int i1), .val (.int i2), .val (.int i3), .val (.int i4), .val (.long j5), .second, .val (.int i7), .val (.int i8), .val (.long j9), .second, .val (.int i11), .val (.int i12), .val (.long j13), .second, .val (.long j15), .second, .val (.long ((j5 * (12 : Int64)) + (i7.toInt64))), .second, .val (.long ((j9 * (12 : Int64)) + (i11.toInt64))), .second, .val (.int (1 : Int32)), .val (.long (F2t ((j5 * (12 : Int64)) + (i7.toInt64)) i8 ((j9 * (12 : Int64)) + (i11.toInt64)) i12)), .second, .unset, .unset, .unset, .unset] [(.int (31 : Int32)), (.int i8)])) t → Steps p.tables e below (T0.setTop (mkF m 155 #[.val (.int i0), .val (.int i1), .val (.int i2), .val (.int i3), .val (.int i4), .val (.long j5), .second, .val (.int i7), .val (.int i8), .val (.long j9), .second, .val (.int i11), .val (.int i12), .val (.long j13), .second, .val (.long j15), .second, .unset, .unset, .unset, .unset, .unset, .unset, .unset, .unset, .unset, .unset, .unset] [])) t := by
      intro t k
      refine pre318 _ ?_
      show Steps p.tables e below (T317.setTop (mkF m 211 #[.val (.int i0), .val (.int i1), .val (.int i2), .val (.int i3), .val (.int i4), .val (.long j5), .second, .val (.int i7), .val (.int i8), .val (.long j9), .second, .val (.int i11), .val (.int i12), .val (.long j13), .second, .val (.long j15), .second, .val (.long ((j5 * (12 : Int64)) + (i7.toInt64))), .second, .val (.long ((j9 * (12 : Int64)) + (i11.toInt64))), .second, .val (.int (1 : Int32)), .unset, .unset, .unset, .unset, .unset, .unset] [(.long (F2t ((j5 * (12 : Int64)) + (i7.toInt64)) i8 ((j9 * (12 : Int64)) + (i11.toInt64)) i12))])) _
      refine XS.lstore X317.here hx rfl (hb hby at_211) rfl (l' := #[.val (.int i0), .val (.int i1), .val (.int i2), .val (.int i3), .val (.int i4), .val (.long j5), .second, .val (.int i7), .val (.int i8), .val (.long j9), .second, .val (.int i11), .val (.int i12), .val (.long j13), .second, .val (.long j15), .second, .val (.long ((j5 * (12 : Int64)) + (i7.toInt64))), .second, .val (.long ((j9 * (12 : Int64)) + (i11.toInt64))), .second, .val (.int (1 : Int32)), .val (.long (F2t ((j5 * (12 : Int64)) + (i7.toInt64)) i8 ((j9 * (12 : Int64)) + (i11.toInt64)) i12)), .second, .unset, .unset, .unset, .unset]) rfl ?_
      show Steps p.tables e below (T317.setTop (mkF m 213 #[.val (.int i0), .val (.int i1), .val (.int i2), .val (.int i3), .val (.int i4), .val (.long j5), .second, .val (.int i7), .val (.int i8), .val (.long j9), .second, .val (.int i11), .val (.int i12), .val (.long j13), .second, .val (.long j15), .second, .val (.long ((j5 * (12 : Int64)) + (i7.toInt64))), .second, .val (.long ((j9 * (12 : Int64)) + (i11.toInt64))), .second, .val (.int (1 : Int32)), .val (.long (F2t ((j5 * (12 : Int64)) + (i7.toInt64)) i8 ((j9 * (12 : Int64)) + (i11.toInt64)) i12)), .second, .unset, .unset, .unset, .unset] [])) _
      refine XS.iload X317.here hx rfl (hb hby at_213) rfl ?_
      show Steps p.tables e below (T317.setTop (mkF m 215 #[.val (.int i0), .val (.int i1), .val (.int i2), .val (.int i3), .val (.int i4), .val (.long j5), .second, .val (.int i7), .val (.int i8), .val (.long j9), .second, .val (.int i11), .val (.int i12), .val (.long j13), .second, .val (.long j15), .second, .val (.long ((j5 * (12 : Int64)) + (i7.toInt64))), .second, .val (.long ((j9 * (12 : Int64)) + (i11.toInt64))), .second, .val (.int (1 : Int32)), .val (.long (F2t ((j5 * (12 : Int64)) + (i7.toInt64)) i8 ((j9 * (12 : Int64)) + (i11.toInt64)) i12)), .second, .unset, .unset, .unset, .unset] [(.int i8)])) _
      refine XS.bipush X317.here hx rfl (hb hby at_215) ?_
      exact k
    by_cases hc320 : i8 = (31 : Int32)
    · have pre321 : ∀ t, Steps p.tables e below (T317.setTop (mkF m 220 #[.val (.int i0), .val (.int i1), .val (.int i2), .val (.int i3), .val (.int i4), .val (.long j5), .second, .val (.int i7), .val (.int i8), .val (.long j9), .second, .val (.int i11), .val (.int i12), .val (.long j13), .second, .val (.long j15), .second, .val (.long ((j5 * (12 : Int64)) + (i7.toInt64))), .second, .val (.long ((j9 * (12 : Int64)) + (i11.toInt64))), .second, .val (.int (1 : Int32)), .val (.long (F2t ((j5 * (12 : Int64)) + (i7.toInt64)) i8 ((j9 * (12 : Int64)) + (i11.toInt64)) i12)), .second, .unset, .unset, .unset, .unset] [])) t → Steps p.tables e below (T0.setTop (mkF m 155 #[.val (.int i0), .val (.int i1), .val (.int i2), .val (.int i3), .val (.int i4), .val (.long j5), .second, .val (.int i7), .val (.int i8), .val (.long j9), .second, .val (.int i11), .val (.int i12), .val (.long j13), .second, .val (.long j15), .second, .unset, .unset, .unset, .unset, .unset, .unset, .unset, .unset, .unset, .unset, .unset] [])) t := by
        intro t k
        refine pre319 _ ?_
        show Steps p.tables e below (T317.setTop (mkF m 217 #[.val (.int i0), .val (.int i1), .val (.int i2), .val (.int i3), .val (.int i4), .val (.long j5), .second, .val (.int i7), .val (.int i8), .val (.long j9), .second, .val (.int i11), .val (.int i12), .val (.long j13), .second, .val (.long j15), .second, .val (.long ((j5 * (12 : Int64)) + (i7.toInt64))), .second, .val (.long ((j9 * (12 : Int64)) + (i11.toInt64))), .second, .val (.int (1 : Int32)), .val (.long (F2t ((j5 * (12 : Int64)) + (i7.toInt64)) i8 ((j9 * (12 : Int64)) + (i11.toInt64)) i12)), .second, .unset, .unset, .unset, .unset] [(.int (31 : Int32)), (.int i8)])) _
        refine XS.icmpNo X317.here hx rfl (hb hby at_217) rfl (teq hc320).2 ?_
        exact k
      have pre322 : ∀ t, Steps p.tables e below (T317.setTop (mkF m 229 #[.val (.int i0), .val (.int i1), .val (.int i2), .val (.int i3), .val (.int i4), .val (.long j5), .second, .val (.int i7), .val (.int i8), .val (.long j9), .second, .val (.int i11), .val (.int i12), .val (.long j13), .second, .val (.long j15), .second, .val (.long ((j5 * (12 : Int64)) + (i7.toInt64))), .second, .val (.long ((j9 * (12 : Int64)) + (i11.toInt64))), .second, .val (.int (1 : Int32)), .val (.long (F2t ((j5 * (12 : Int64)) + (i7.toInt64)) i8 ((j9 * (12 : Int64)) + (i11.toInt64)) i12)), .second, .val (.int (30 : Int32)), .unset, .unset, .unset] [])) t → Steps p.tables e below (T0.setTop (mkF m 155 #[.val (.int i0), .val (.int i1), .val (.int i2), .val (.int i3), .val (.int i4), .val (.long j5), .second, .val (.int i7), .val (.int i8), .val (.long j9), .second, .val (.int i11), .val (.int i12), .val (.long j13), .second, .val (.long j15), .second, .unset, .unset, .unset, .unset, .unset, .unset, .unset, .unset, .unset, .unset, .unset] [])) t := by
        intro t k
        refine pre321 _ ?_
        show Steps p.tables e below (T317.setTop (mkF m 220 #[.val (.int i0), .val (.int i1), .val (.int i2), .val (.int i3), .val (.int i4), .val (.long j5), .second, .val (.int i7), .val (.int i8), .val (.long j9), .second, .val (.int i11), .val (.int i12), .val (.long j13), .second, .val (.long j15), .second, .val (.long ((j5 * (12 : Int64)) + (i7.toInt64))), .second, .val (.long ((j9 * (12 : Int64)) + (i11.toInt64))), .second, .val (.int (1 : Int32)), .val (.long (F2t ((j5 * (12 : Int64)) + (i7.toInt64)) i8 ((j9 * (12 : Int64)) + (i11.toInt64)) i12)), .second, .unset, .unset, .unset, .unset] [])) _
        refine XS.bipush X317.here hx rfl (hb hby at_220) ?_
        show Steps p.tables e below (T317.setTop (mkF m 222 #[.val (.int i0), .val (.int i1), .val (.int i2), .val (.int i3), .val (.int i4), .val (.long j5), .second, .val (.int i7), .val (.int i8), .val (.long j9), .second, .val (.int i11), .val (.int i12), .val (.long j13), .second, .val (.long j15), .second, .val (.long ((j5 * (12 : Int64)) + (i7.toInt64))), .second, .val (.long ((j9 * (12 : Int64)) + (i11.toInt64))), .second, .val (.int (1 : Int32)), .val (.long (F2t ((j5 * (12 : Int64)) + (i7.toInt64)) i8 ((j9 * (12 : Int64)) + (i11.toInt64)) i12)), .second, .unset, .unset, .unset, .unset] [(.int (30 : Int32))])) _
        refine XS.goto X317.here hx rfl (pc0 := 222) (pc' := 227) rfl (hb hby at_222) (by decide) (by decide) ?_
        show Steps p.tables e below (T317.setTop (mkF m 227 #[.val (.int i0), .val (.int i1), .val (.int i2), .val (.int i3), .val (.int i4), .val (.long j5), .second, .val (.int i7), .val (.int i8), .val (.long j9), .second, .val (.int i11), .val (.int i12), .val (.long j13), .second, .val (.long j15), .second, .val (.long ((j5 * (12 : Int64)) + (i7.toInt64))), .second, .val (.long ((j9 * (12 : Int64)) + (i11.toInt64))), .second, .val (.int (1 : Int32)), .val (.long (F2t ((j5 * (12 : Int64)) + (i7.toInt64)) i8 ((j9 * (12 : Int64)) + (i11.toInt64)) i12)), .second, .unset, .unset, .unset, .unset] [(.int (30 : Int32))])) _
        refine XS.istore X317.here hx rfl (hb hby at_227) rfl (l' := #[.val (.int i0), .val (.int i1), .val (.int i2), .val (.int i3), .val (.int i4), .val (.long j5), .second, .val (.int i7), .val (.int i8), .val (.long j9), .second, .val (.int i11), .val (.int i12), .val (.long j13), .second, .val (.long j15), .second, .val (.long ((j5 * (12 : Int64)) + (i7.toInt64))), .second, .val (.long ((j9 * (12 : Int64)) + (i11.toInt64))), .second, .val (.int (1 : Int32)), .val (.long (F2t ((j5 * (12 : Int64)) + (i7.toInt64)) i8 ((j9 * (12 : Int64)) + (i11.toInt64)) i12)), .second, .val (.int (30 : Int32)), .unset, .unset, .unset]) rfl ?_
        exact k
      obtain ⟨s₂, o, st323, g1, g2, v, L, ho, ⟨hv, hN, hh323⟩, hfe⟩ := pc0_229_0 i0 i1 i2 i3 i4 j5 i7 i8 j9 i11 i12 j13 j15 ((j5 * (12 : Int64)) + (i7.toInt64)) ((j9 * (12 : Int64)) + (i11.toInt64)) (1 : Int32) (F2t ((j5 * (12 : Int64)) + (i7.toInt64)) i8 ((j9 * (12 : Int64)) + (i11.toInt64)) i12) (30 : Int32) cl_wS cl_wD wT wA wS wI wD X317 hx hZ hw hby hml hown hret hlocks e317 N317 Z0 E_wT E_wA Ford_T Ford_A Ar_wS el_0 el_1 E_wI Ar_wD hD S_wT S_wA S_wS S_wI S_wD
      exact ⟨s₂, o, pre322 _ st323, g1, g2, v, L, ho, ⟨(by rw [F0_155_1, if_neg hc288, if_pos hc320]; exact hv), hN, hh323⟩, hfe⟩
    · have pre324 : ∀ t, Steps p.tables e below (T317.setTop (mkF m 225 #[.val (.int i0), .val (.int i1), .val (.int i2), .val (.int i3), .val (.int i4), .val (.long j5), .second, .val (.int i7), .val (.int i8), .val (.long j9), .second, .val (.int i11), .val (.int i12), .val (.long j13), .second, .val (.long j15), .second, .val (.long ((j5 * (12 : Int64)) + (i7.toInt64))), .second, .val (.long ((j9 * (12 : Int64)) + (i11.toInt64))), .second, .val (.int (1 : Int32)), .val (.long (F2t ((j5 * (12 : Int64)) + (i7.toInt64)) i8 ((j9 * (12 : Int64)) + (i11.toInt64)) i12)), .second, .unset, .unset, .unset, .unset] [])) t → Steps p.tables e below (T0.setTop (mkF m 155 #[.val (.int i0), .val (.int i1), .val (.int i2), .val (.int i3), .val (.int i4), .val (.long j5), .second, .val (.int i7), .val (.int i8), .val (.long j9), .second, .val (.int i11), .val (.int i12), .val (.long j13), .second, .val (.long j15), .second, .unset, .unset, .unset, .unset, .unset, .unset, .unset, .unset, .unset, .unset, .unset] [])) t := by
        intro t k
        refine pre319 _ ?_
        show Steps p.tables e below (T317.setTop (mkF m 217 #[.val (.int i0), .val (.int i1), .val (.int i2), .val (.int i3), .val (.int i4), .val (.long j5), .second, .val (.int i7), .val (.int i8), .val (.long j9), .second, .val (.int i11), .val (.int i12), .val (.long j13), .second, .val (.long j15), .second, .val (.long ((j5 * (12 : Int64)) + (i7.toInt64))), .second, .val (.long ((j9 * (12 : Int64)) + (i11.toInt64))), .second, .val (.int (1 : Int32)), .val (.long (F2t ((j5 * (12 : Int64)) + (i7.toInt64)) i8 ((j9 * (12 : Int64)) + (i11.toInt64)) i12)), .second, .unset, .unset, .unset, .unset] [(.int (31 : Int32)), (.int i8)])) _
        refine XS.icmpYes X317.here hx rfl (pc0 := 217) (pc' := 225) rfl (hb hby at_217) rfl (feq hc320).2 (by decide) (by decide) ?_
        exact k
      have pre325 : ∀ t, Steps p.tables e below (T317.setTop (mkF m 229 #[.val (.int i0), .val (.int i1), .val (.int i2), .val (.int i3), .val (.int i4), .val (.long j5), .second, .val (.int i7), .val (.int i8), .val (.long j9), .second, .val (.int i11), .val (.int i12), .val (.long j13), .second, .val (.long j15), .second, .val (.long ((j5 * (12 : Int64)) + (i7.toInt64))), .second, .val (.long ((j9 * (12 : Int64)) + (i11.toInt64))), .second, .val (.int (1 : Int32)), .val (.long (F2t ((j5 * (12 : Int64)) + (i7.toInt64)) i8 ((j9 * (12 : Int64)) + (i11.toInt64)) i12)), .second, .val (.int i8), .unset, .unset, .unset] [])) t → Steps p.tables e below (T0.setTop (mkF m 155 #[.val (.int i0), .val (.int i1), .val (.int i2), .val (.int i3), .val (.int i4), .val (.long j5), .second, .val (.int i7), .val (.int i8), .val (.long j9), .second, .val (.int i11), .val (.int i12), .val (.long j13), .second, .val (.long j15), .second, .unset, .unset, .unset, .unset, .unset, .unset, .unset, .unset, .unset, .unset, .unset] [])) t := by
        intro t k
        refine pre324 _ ?_
        show Steps p.tables e below (T317.setTop (mkF m 225 #[.val (.int i0), .val (.int i1), .val (.int i2), .val (.int i3), .val (.int i4), .val (.long j5), .second, .val (.int i7), .val (.int i8), .val (.long j9), .second, .val (.int i11), .val (.int i12), .val (.long j13), .second, .val (.long j15), .second, .val (.long ((j5 * (12 : Int64)) + (i7.toInt64))), .second, .val (.long ((j9 * (12 : Int64)) + (i11.toInt64))), .second, .val (.int (1 : Int32)), .val (.long (F2t ((j5 * (12 : Int64)) + (i7.toInt64)) i8 ((j9 * (12 : Int64)) + (i11.toInt64)) i12)), .second, .unset, .unset, .unset, .unset] [])) _
        refine XS.iload X317.here hx rfl (hb hby at_225) rfl ?_
        show Steps p.tables e below (T317.setTop (mkF m 227 #[.val (.int i0), .val (.int i1), .val (.int i2), .val (.int i3), .val (.int i4), .val (.long j5), .second, .val (.int i7), .val (.int i8), .val (.long j9), .second, .val (.int i11), .val (.int i12), .val (.long j13), .second, .val (.long j15), .second, .val (.long ((j5 * (12 : Int64)) + (i7.toInt64))), .second, .val (.long ((j9 * (12 : Int64)) + (i11.toInt64))), .second, .val (.int (1 : Int32)), .val (.long (F2t ((j5 * (12 : Int64)) + (i7.toInt64)) i8 ((j9 * (12 : Int64)) + (i11.toInt64)) i12)), .second, .unset, .unset, .unset, .unset] [(.int i8)])) _
        refine XS.istore X317.here hx rfl (hb hby at_227) rfl (l' := #[.val (.int i0), .val (.int i1), .val (.int i2), .val (.int i3), .val (.int i4), .val (.long j5), .second, .val (.int i7), .val (.int i8), .val (.long j9), .second, .val (.int i11), .val (.int i12), .val (.long j13), .second, .val (.long j15), .second, .val (.long ((j5 * (12 : Int64)) + (i7.toInt64))), .second, .val (.long ((j9 * (12 : Int64)) + (i11.toInt64))), .second, .val (.int (1 : Int32)), .val (.long (F2t ((j5 * (12 : Int64)) + (i7.toInt64)) i8 ((j9 * (12 : Int64)) + (i11.toInt64)) i12)), .second, .val (.int i8), .unset, .unset, .unset]) rfl ?_
        exact k
      obtain ⟨s₂, o, st326, g1, g2, v, L, ho, ⟨hv, hN, hh326⟩, hfe⟩ := pc0_229_0 i0 i1 i2 i3 i4 j5 i7 i8 j9 i11 i12 j13 j15 ((j5 * (12 : Int64)) + (i7.toInt64)) ((j9 * (12 : Int64)) + (i11.toInt64)) (1 : Int32) (F2t ((j5 * (12 : Int64)) + (i7.toInt64)) i8 ((j9 * (12 : Int64)) + (i11.toInt64)) i12) i8 cl_wS cl_wD wT wA wS wI wD X317 hx hZ hw hby hml hown hret hlocks e317 N317 Z0 E_wT E_wA Ford_T Ford_A Ar_wS el_0 el_1 E_wI Ar_wD hD S_wT S_wA S_wS S_wI S_wD
      exact ⟨s₂, o, pre325 _ st326, g1, g2, v, L, ho, ⟨(by rw [F0_155_1, if_neg hc288, if_neg hc320]; exact hv), hN, hh326⟩, hfe⟩
def F0_72_0 (i0 : Int32) (j5 : Int64) (i7 : Int32) (i8 : Int32) (j9 : Int64) (i11 : Int32) (i12 : Int32) : Int32 :=
  if (0 : Int32) < (lcmpW ((j5 * (12 : Int64)) + (i7.toInt64)) ((j9 * (12 : Int64)) + (i11.toInt64))) then (  (F0_155_0 i0 j9 i11 i12 j5 i7 i8))
  else (  if (lcmpW ((j5 * (12 : Int64)) + (i7.toInt64)) ((j9 * (12 : Int64)) + (i11.toInt64))) = (0 : Int32) then (  if i12 < i8 then (  (F0_155_0 i0 j9 i11 i12 j5 i7 i8))
  else (  (F0_155_1 i0 j5 i7 i8 j9 i11 i12)))
  else (  (F0_155_1 i0 j5 i7 i8 j9 i11 i12)))
set_option maxRecDepth 65536 in
set_option maxHeartbeats 40000000 in
theorem pc0_72_0 {p : Program} {l : Launch} {e : Env} {s : State} {m : MethodId} {args : Array Value} {below : List Frame} {meth : Method} {c : Code} {T0 : State} {locs : List Loc} {Z : State} {a0 : Array Value} {h0 : Heap} {n0 : Nat} (i0 : Int32) (i1 : Int32) (i2 : Int32) (i3 : Int32) (i4 : Int32) (j5 : Int64) (i7 : Int32) (i8 : Int32) (j9 : Int64) (i11 : Int32) (i12 : Int32) (cl_wS : Cell) (cl_wD : Cell) (wT : Addr) (wA : Addr) (wS : Addr) (wI : Addr) (wD : Addr)
    (X0 : Stand p l e room_1 s m args below meth c T0 locs 0 0) (hx : p.tables.exec = Jvm.exec) (hZ : Z.Warmed39 s.vm) (hw : ∀ d ∈ tables_1, d.before a0 Z = true) (hby : c.code = code) (hml : c.maxLocals = 28) (hown : s.vm.findClass "com/example/notesmith/notesmith/calc/AccrualDaysPinLaw" = some m.cls) (hret : meth.sig.returnType = (some .boolean)) (hlocks : meth.locks = false) (e0 : T0.heap = h0) (N0 : Fr n0 locs) (Z0 : n0 ≤ h0.size) (E_wT : Exa Z h0 wT "com/example/notesmith/notesmith/note/DayCount") (E_wA : Exa Z h0 wA "com/example/notesmith/notesmith/note/DayCount") (Ford_T : Fld Z h0 wT "java/lang/Enum" "ordinal" "I" (.int (0 : Int32))) (Ford_A : Fld Z h0 wA "java/lang/Enum" "ordinal" "I" (.int (1 : Int32))) (Ar_wS : Arr Z h0 wS cl_wS .int) (el_0 : ¬ ((0 : Int32) < 0 ∨ cl_wS.slots.size ≤ (0 : Int32).toNatClampNeg) ∧ cl_wS.slots[(0 : Int32).toNatClampNeg]? = some (.int (1 : Int32))) (el_1 : ¬ ((1 : Int32) < 0 ∨ cl_wS.slots.size ≤ (1 : Int32).toNatClampNeg) ∧ cl_wS.slots[(1 : Int32).toNatClampNeg]? = some (.int (2 : Int32))) (E_wI : Exa Z h0 wI "java/time/chrono/IsoChronology") (Ar_wD : Arr Z h0 wD cl_wD .int) (hD : ∀ j : Int32, (0 ≤ j.toInt ∧ j.toInt < 12) → ¬ (j < 0 ∨ cl_wD.slots.size ≤ j.toNatClampNeg) ∧ cl_wD.slots[j.toNatClampNeg]? = some (.int (own_dbm j))) (S_wT : Sta Z h0 "com/example/notesmith/notesmith/note/DayCount" "THIRTY_360" "Lcom/example/notesmith/notesmith/note/DayCount;" (.ref wT)) (S_wA : Sta Z h0 "com/example/notesmith/notesmith/note/DayCount" "ACTUAL_365" "Lcom/example/notesmith/notesmith/note/DayCount;" (.ref wA)) (S_wS : Sta Z h0 "com/example/notesmith/notesmith/calc/Accrual$1" "$SwitchMap$com$example$notesmith$notesmith$note$DayCount" "[I" (.ref wS)) (S_wI : Sta Z h0 "java/time/chrono/IsoChronology" "INSTANCE" "Ljava/time/chrono/IsoChronology;" (.ref wI)) (S_wD : Sta Z h0 "com/example/notesmith/notesmith/calc/Accrual" "DAYS_BEFORE_MONTH" "[I" (.ref wD)) :
    ∃ s₂ o, Steps p.tables e below (T0.setTop (mkF m 72 #[.val (.int i0), .val (.int i1), .val (.int i2), .val (.int i3), .val (.int i4), .val (.long j5), .second, .val (.int i7), .val (.int i8), .val (.long j9), .second, .val (.int i11), .val (.int i12), .unset, .unset, .unset, .unset, .unset, .unset, .unset, .unset, .unset, .unset, .unset, .unset, .unset, .unset, .unset] [])) s₂ ∧ s₂.status = .running ∧ Ended s₂ below o ∧ ∃ v L, o = .returned v ∧ (v = some (.int (F0_72_0 i0 j5 i7 i8 j9 i11 i12)) ∧ Fr n0 L ∧ s₂.heap = h0) ∧ FrameEnd s o s₂ L room_1.cells room_1.slots := by
  have pre0 : ∀ t, Steps p.tables e below (T0.setTop (mkF m 72 #[.val (.int i0), .val (.int i1), .val (.int i2), .val (.int i3), .val (.int i4), .val (.long j5), .second, .val (.int i7), .val (.int i8), .val (.long j9), .second, .val (.int i11), .val (.int i12), .unset, .unset, .unset, .unset, .unset, .unset, .unset, .unset, .unset, .unset, .unset, .unset, .unset, .unset, .unset] [])) t → Steps p.tables e below (T0.setTop (mkF m 72 #[.val (.int i0), .val (.int i1), .val (.int i2), .val (.int i3), .val (.int i4), .val (.long j5), .second, .val (.int i7), .val (.int i8), .val (.long j9), .second, .val (.int i11), .val (.int i12), .unset, .unset, .unset, .unset, .unset, .unset, .unset, .unset, .unset, .unset, .unset, .unset, .unset, .unset, .unset] [])) t := fun _ k => k
  have pre206 : ∀ t, Steps p.tables e below (T0.setTop (mkF m 101 #[.val (.int i0), .val (.int i1), .val (.int i2), .val (.int i3), .val (.int i4), .val (.long j5), .second, .val (.int i7), .val (.int i8), .val (.long j9), .second, .val (.int i11), .val (.int i12), .val (.long ((j5 * (12 : Int64)) + (i7.toInt64))), .second, .val (.long ((j9 * (12 : Int64)) + (i11.toInt64))), .second, .unset, .unset, .unset, .unset, .unset, .unset, .unset, .unset, .unset, .unset, .unset] [(.int (lcmpW ((j5 * (12 : Int64)) + (i7.toInt64)) ((j9 * (12 : Int64)) + (i11.toInt64))))])) t → Steps p.tables e below (T0.setTop (mkF m 72 #[.val (.int i0), .val (.int i1), .val (.int i2), .val (.int i3), .val (.int i4), .val (.long j5), .second, .val (.int i7), .val (.int i8), .val (.long j9), .second, .val (.int i11), .val (.int i12), .unset, .unset, .unset, .unset, .unset, .unset, .unset, .unset, .unset, .unset, .unset, .unset, .unset, .unset, .unset] [])) t := by
    intro t k
    refine pre0 _ ?_
    show Steps p.tables e below (T0.setTop (mkF m 72 #[.val (.int i0), .val (.int i1), .val (.int i2), .val (.int i3), .val (.int i4), .val (.long j5), .second, .val (.int i7), .val (.int i8), .val (.long j9), .second, .val (.int i11), .val (.int i12), .unset, .unset, .unset, .unset, .unset, .unset, .unset, .unset, .unset, .unset, .unset, .unset, .unset, .unset, .unset] [])) _
    refine XS.lload X0.here hx rfl (hb hby at_72) rfl ?_
    show Steps p.tables e below (T0.setTop (mkF m 74 #[.val (.int i0), .val (.int i1), .val (.int i2), .val (.int i3), .val (.int i4), .val (.long j5), .second, .val (.int i7), .val (.int i8), .val (.long j9), .second, .val (.int i11), .val (.int i12), .unset, .unset, .unset, .unset, .unset, .unset, .unset, .unset, .unset, .unset, .unset, .unset, .unset, .unset, .unset] [(.long j5)])) _
    refine X0.ldc2Long hx hown (mvT hZ (hw _ (List.mem_of_getElem? (i := 6) rfl))) (g := (mkF m 74 #[.val (.int i0), .val (.int i1), .val (.int i2), .val (.int i3), .val (.int i4), .val (.long j5), .second, .val (.int i7), .val (.int i8), .val (.long j9), .second, .val (.int i11), .val (.int i12), .unset, .unset, .unset, .unset, .unset, .unset, .unset, .unset, .unset, .unset, .unset, .unset, .unset, .unset, .unset] [(.long j5)])) rfl (hb hby at_74) _ ?_
    show Steps p.tables e below (T0.setTop (mkF m 77 #[.val (.int i0), .val (.int i1), .val (.int i2), .val (.int i3), .val (.int i4), .val (.long j5), .second, .val (.int i7), .val (.int i8), .val (.long j9), .second, .val (.int i11), .val (.int i12), .unset, .unset, .unset, .unset, .unset, .unset, .unset, .unset, .unset, .unset, .unset, .unset, .unset, .unset, .unset] [(.long (12 : Int64)), (.long j5)])) _
    refine XS.lmul X0.here hx rfl (hb hby at_77) rfl ?_
    show Steps p.tables e below (T0.setTop (mkF m 78 #[.val (.int i0), .val (.int i1), .val (.int i2), .val (.int i3), .val (.int i4), .val (.long j5), .second, .val (.int i7), .val (.int i8), .val (.long j9), .second, .val (.int i11), .val (.int i12), .unset, .unset, .unset, .unset, .unset, .unset, .unset, .unset, .unset, .unset, .unset, .unset, .unset, .unset, .unset] [(.long (j5 * (12 : Int64)))])) _
    refine XS.iload X0.here hx rfl (hb hby at_78) rfl ?_
    show Steps p.tables e below (T0.setTop (mkF m 80 #[.val (.int i0), .val (.int i1), .val (.int i2), .val (.int i3), .val (.int i4), .val (.long j5), .second, .val (.int i7), .val (.int i8), .val (.long j9), .second, .val (.int i11), .val (.int i12), .unset, .unset, .unset, .unset, .unset, .unset, .unset, .unset, .unset, .unset, .unset, .unset, .unset, .unset, .unset] [(.int i7), (.long (j5 * (12 : Int64)))])) _
    refine XS.i2l X0.here hx rfl (hb hby at_80) rfl ?_
    show Steps p.tables e below (T0.setTop (mkF m 81 #[.val (.int i0), .val (.int i1), .val (.int i2), .val (.int i3), .val (.int i4), .val (.long j5), .second, .val (.int i7), .val (.int i8), .val (.long j9), .second, .val (.int i11), .val (.int i12), .unset, .unset, .unset, .unset, .unset, .unset, .unset, .unset, .unset, .unset, .unset, .unset, .unset, .unset, .unset] [(.long (i7.toInt64)), (.long (j5 * (12 : Int64)))])) _
    refine XS.ladd X0.here hx rfl (hb hby at_81) rfl ?_
    show Steps p.tables e below (T0.setTop (mkF m 82 #[.val (.int i0), .val (.int i1), .val (.int i2), .val (.int i3), .val (.int i4), .val (.long j5), .second, .val (.int i7), .val (.int i8), .val (.long j9), .second, .val (.int i11), .val (.int i12), .unset, .unset, .unset, .unset, .unset, .unset, .unset, .unset, .unset, .unset, .unset, .unset, .unset, .unset, .unset] [(.long ((j5 * (12 : Int64)) + (i7.toInt64)))])) _
    refine XS.lstore X0.here hx rfl (hb hby at_82) rfl (l' := #[.val (.int i0), .val (.int i1), .val (.int i2), .val (.int i3), .val (.int i4), .val (.long j5), .second, .val (.int i7), .val (.int i8), .val (.long j9), .second, .val (.int i11), .val (.int i12), .val (.long ((j5 * (12 : Int64)) + (i7.toInt64))), .second, .unset, .unset, .unset, .unset, .unset, .unset, .unset, .unset, .unset, .unset, .unset, .unset, .unset]) rfl ?_
    show Steps p.tables e below (T0.setTop (mkF m 84 #[.val (.int i0), .val (.int i1), .val (.int i2), .val (.int i3), .val (.int i4), .val (.long j5), .second, .val (.int i7), .val (.int i8), .val (.long j9), .second, .val (.int i11), .val (.int i12), .val (.long ((j5 * (12 : Int64)) + (i7.toInt64))), .second, .unset, .unset, .unset, .unset, .unset, .unset, .unset, .unset, .unset, .unset, .unset, .unset, .unset] [])) _
    refine XS.lload X0.here hx rfl (hb hby at_84) rfl ?_
    show Steps p.tables e below (T0.setTop (mkF m 86 #[.val (.int i0), .val (.int i1), .val (.int i2), .val (.int i3), .val (.int i4), .val (.long j5), .second, .val (.int i7), .val (.int i8), .val (.long j9), .second, .val (.int i11), .val (.int i12), .val (.long ((j5 * (12 : Int64)) + (i7.toInt64))), .second, .unset, .unset, .unset, .unset, .unset, .unset, .unset, .unset, .unset, .unset, .unset, .unset, .unset] [(.long j9)])) _
    refine X0.ldc2Long hx hown (mvT hZ (hw _ (List.mem_of_getElem? (i := 6) rfl))) (g := (mkF m 86 #[.val (.int i0), .val (.int i1), .val (.int i2), .val (.int i3), .val (.int i4), .val (.long j5), .second, .val (.int i7), .val (.int i8), .val (.long j9), .second, .val (.int i11), .val (.int i12), .val (.long ((j5 * (12 : Int64)) + (i7.toInt64))), .second, .unset, .unset, .unset, .unset, .unset, .unset, .unset, .unset, .unset, .unset, .unset, .unset, .unset] [(.long j9)])) rfl (hb hby at_86) _ ?_
    show Steps p.tables e below (T0.setTop (mkF m 89 #[.val (.int i0), .val (.int i1), .val (.int i2), .val (.int i3), .val (.int i4), .val (.long j5), .second, .val (.int i7), .val (.int i8), .val (.long j9), .second, .val (.int i11), .val (.int i12), .val (.long ((j5 * (12 : Int64)) + (i7.toInt64))), .second, .unset, .unset, .unset, .unset, .unset, .unset, .unset, .unset, .unset, .unset, .unset, .unset, .unset] [(.long (12 : Int64)), (.long j9)])) _
    refine XS.lmul X0.here hx rfl (hb hby at_89) rfl ?_
    show Steps p.tables e below (T0.setTop (mkF m 90 #[.val (.int i0), .val (.int i1), .val (.int i2), .val (.int i3), .val (.int i4), .val (.long j5), .second, .val (.int i7), .val (.int i8), .val (.long j9), .second, .val (.int i11), .val (.int i12), .val (.long ((j5 * (12 : Int64)) + (i7.toInt64))), .second, .unset, .unset, .unset, .unset, .unset, .unset, .unset, .unset, .unset, .unset, .unset, .unset, .unset] [(.long (j9 * (12 : Int64)))])) _
    refine XS.iload X0.here hx rfl (hb hby at_90) rfl ?_
    show Steps p.tables e below (T0.setTop (mkF m 92 #[.val (.int i0), .val (.int i1), .val (.int i2), .val (.int i3), .val (.int i4), .val (.long j5), .second, .val (.int i7), .val (.int i8), .val (.long j9), .second, .val (.int i11), .val (.int i12), .val (.long ((j5 * (12 : Int64)) + (i7.toInt64))), .second, .unset, .unset, .unset, .unset, .unset, .unset, .unset, .unset, .unset, .unset, .unset, .unset, .unset] [(.int i11), (.long (j9 * (12 : Int64)))])) _
    refine XS.i2l X0.here hx rfl (hb hby at_92) rfl ?_
    show Steps p.tables e below (T0.setTop (mkF m 93 #[.val (.int i0), .val (.int i1), .val (.int i2), .val (.int i3), .val (.int i4), .val (.long j5), .second, .val (.int i7), .val (.int i8), .val (.long j9), .second, .val (.int i11), .val (.int i12), .val (.long ((j5 * (12 : Int64)) + (i7.toInt64))), .second, .unset, .unset, .unset, .unset, .unset, .unset, .unset, .unset, .unset, .unset, .unset, .unset, .unset] [(.long (i11.toInt64)), (.long (j9 * (12 : Int64)))])) _
    refine XS.ladd X0.here hx rfl (hb hby at_93) rfl ?_
    show Steps p.tables e below (T0.setTop (mkF m 94 #[.val (.int i0), .val (.int i1), .val (.int i2), .val (.int i3), .val (.int i4), .val (.long j5), .second, .val (.int i7), .val (.int i8), .val (.long j9), .second, .val (.int i11), .val (.int i12), .val (.long ((j5 * (12 : Int64)) + (i7.toInt64))), .second, .unset, .unset, .unset, .unset, .unset, .unset, .unset, .unset, .unset, .unset, .unset, .unset, .unset] [(.long ((j9 * (12 : Int64)) + (i11.toInt64)))])) _
    refine XS.lstore X0.here hx rfl (hb hby at_94) rfl (l' := #[.val (.int i0), .val (.int i1), .val (.int i2), .val (.int i3), .val (.int i4), .val (.long j5), .second, .val (.int i7), .val (.int i8), .val (.long j9), .second, .val (.int i11), .val (.int i12), .val (.long ((j5 * (12 : Int64)) + (i7.toInt64))), .second, .val (.long ((j9 * (12 : Int64)) + (i11.toInt64))), .second, .unset, .unset, .unset, .unset, .unset, .unset, .unset, .unset, .unset, .unset, .unset]) rfl ?_
    show Steps p.tables e below (T0.setTop (mkF m 96 #[.val (.int i0), .val (.int i1), .val (.int i2), .val (.int i3), .val (.int i4), .val (.long j5), .second, .val (.int i7), .val (.int i8), .val (.long j9), .second, .val (.int i11), .val (.int i12), .val (.long ((j5 * (12 : Int64)) + (i7.toInt64))), .second, .val (.long ((j9 * (12 : Int64)) + (i11.toInt64))), .second, .unset, .unset, .unset, .unset, .unset, .unset, .unset, .unset, .unset, .unset, .unset] [])) _
    refine XS.lload X0.here hx rfl (hb hby at_96) rfl ?_
    show Steps p.tables e below (T0.setTop (mkF m 98 #[.val (.int i0), .val (.int i1), .val (.int i2), .val (.int i3), .val (.int i4), .val (.long j5), .second, .val (.int i7), .val (.int i8), .val (.long j9), .second, .val (.int i11), .val (.int i12), .val (.long ((j5 * (12 : Int64)) + (i7.toInt64))), .second, .val (.long ((j9 * (12 : Int64)) + (i11.toInt64))), .second, .unset, .unset, .unset, .unset, .unset, .unset, .unset, .unset, .unset, .unset, .unset] [(.long ((j5 * (12 : Int64)) + (i7.toInt64)))])) _
    refine XS.lload X0.here hx rfl (hb hby at_98) rfl ?_
    show Steps p.tables e below (T0.setTop (mkF m 100 #[.val (.int i0), .val (.int i1), .val (.int i2), .val (.int i3), .val (.int i4), .val (.long j5), .second, .val (.int i7), .val (.int i8), .val (.long j9), .second, .val (.int i11), .val (.int i12), .val (.long ((j5 * (12 : Int64)) + (i7.toInt64))), .second, .val (.long ((j9 * (12 : Int64)) + (i11.toInt64))), .second, .unset, .unset, .unset, .unset, .unset, .unset, .unset, .unset, .unset, .unset, .unset] [(.long ((j9 * (12 : Int64)) + (i11.toInt64))), (.long ((j5 * (12 : Int64)) + (i7.toInt64)))])) _
    refine XS.lcmp X0.here hx rfl (hb hby at_100) rfl ?_
    exact k
  by_cases hc207 : (0 : Int32) < (lcmpW ((j5 * (12 : Int64)) + (i7.toInt64)) ((j9 * (12 : Int64)) + (i11.toInt64)))
  · have pre208 : ∀ t, Steps p.tables e below (T0.setTop (mkF m 119 #[.val (.int i0), .val (.int i1), .val (.int i2), .val (.int i3), .val (.int i4), .val (.long j5), .second, .val (.int i7), .val (.int i8), .val (.long j9), .second, .val (.int i11), .val (.int i12), .val (.long ((j5 * (12 : Int64)) + (i7.toInt64))), .second, .val (.long ((j9 * (12 : Int64)) + (i11.toInt64))), .second, .unset, .unset, .unset, .unset, .unset, .unset, .unset, .unset, .unset, .unset, .unset] [])) t → Steps p.tables e below (T0.setTop (mkF m 72 #[.val (.int i0), .val (.int i1), .val (.int i2), .val (.int i3), .val (.int i4), .val (.long j5), .second, .val (.int i7), .val (.int i8), .val (.long j9), .second, .val (.int i11), .val (.int i12), .unset, .unset, .unset, .unset, .unset, .unset, .unset, .unset, .unset, .unset, .unset, .unset, .unset, .unset, .unset] [])) t := by
      intro t k
      refine pre206 _ ?_
      show Steps p.tables e below (T0.setTop (mkF m 101 #[.val (.int i0), .val (.int i1), .val (.int i2), .val (.int i3), .val (.int i4), .val (.long j5), .second, .val (.int i7), .val (.int i8), .val (.long j9), .second, .val (.int i11), .val (.int i12), .val (.long ((j5 * (12 : Int64)) + (i7.toInt64))), .second, .val (.long ((j9 * (12 : Int64)) + (i11.toInt64))), .second, .unset, .unset, .unset, .unset, .unset, .unset, .unset, .unset, .unset, .unset, .unset] [(.int (lcmpW ((j5 * (12 : Int64)) + (i7.toInt64)) ((j9 * (12 : Int64)) + (i11.toInt64))))])) _
      refine XS.ifYes X0.here hx rfl (pc0 := 101) (pc' := 119) rfl (hb hby at_101) rfl ((if0 _ _).trans (tlt hc207).2.2.1) (by decide) (by decide) ?_
      exact k
    have pre209 : ∀ t, Steps p.tables e below (T0.setTop (mkF m 155 #[.val (.int i0), .val (.int i1), .val (.int i2), .val (.int i3), .val (.int i4), .val (.long j9), .second, .val (.int i11), .val (.int i12), .val (.long j5), .second, .val (.int i7), .val (.int i8), .val (.long ((j5 * (12 : Int64)) + (i7.toInt64))), .second, .val (.long ((j9 * (12 : Int64)) + (i11.toInt64))), .second, .val (.long j5), .second, .val (.int i7), .val (.int i8), .unset, .unset, .unset, .unset, .unset, .unset, .unset] [])) t → Steps p.tables e below (T0.setTop (mkF m 72 #[.val (.int i0), .val (.int i1), .val (.int i2), .val (.int i3), .val (.int i4), .val (.long j5), .second, .val (.int i7), .val (.int i8), .val (.long j9), .second, .val (.int i11), .val (.int i12), .unset, .unset, .unset, .unset, .unset, .unset, .unset, .unset, .unset, .unset, .unset, .unset, .unset, .unset, .unset] [])) t := by
      intro t k
      refine pre208 _ ?_
      show Steps p.tables e below (T0.setTop (mkF m 119 #[.val (.int i0), .val (.int i1), .val (.int i2), .val (.int i3), .val (.int i4), .val (.long j5), .second, .val (.int i7), .val (.int i8), .val (.long j9), .second, .val (.int i11), .val (.int i12), .val (.long ((j5 * (12 : Int64)) + (i7.toInt64))), .second, .val (.long ((j9 * (12 : Int64)) + (i11.toInt64))), .second, .unset, .unset, .unset, .unset, .unset, .unset, .unset, .unset, .unset, .unset, .unset] [])) _
      refine XS.lload X0.here hx rfl (hb hby at_119) rfl ?_
      show Steps p.tables e below (T0.setTop (mkF m 121 #[.val (.int i0), .val (.int i1), .val (.int i2), .val (.int i3), .val (.int i4), .val (.long j5), .second, .val (.int i7), .val (.int i8), .val (.long j9), .second, .val (.int i11), .val (.int i12), .val (.long ((j5 * (12 : Int64)) + (i7.toInt64))), .second, .val (.long ((j9 * (12 : Int64)) + (i11.toInt64))), .second, .unset, .unset, .unset, .unset, .unset, .unset, .unset, .unset, .unset, .unset, .unset] [(.long j5)])) _
      refine XS.lstore X0.here hx rfl (hb hby at_121) rfl (l' := #[.val (.int i0), .val (.int i1), .val (.int i2), .val (.int i3), .val (.int i4), .val (.long j5), .second, .val (.int i7), .val (.int i8), .val (.long j9), .second, .val (.int i11), .val (.int i12), .val (.long ((j5 * (12 : Int64)) + (i7.toInt64))), .second, .val (.long ((j9 * (12 : Int64)) + (i11.toInt64))), .second, .val (.long j5), .second, .unset, .unset, .unset, .unset, .unset, .unset, .unset, .unset, .unset]) rfl ?_
      show Steps p.tables e below (T0.setTop (mkF m 123 #[.val (.int i0), .val (.int i1), .val (.int i2), .val (.int i3), .val (.int i4), .val (.long j5), .second, .val (.int i7), .val (.int i8), .val (.long j9), .second, .val (.int i11), .val (.int i12), .val (.long ((j5 * (12 : Int64)) + (i7.toInt64))), .second, .val (.long ((j9 * (12 : Int64)) + (i11.toInt64))), .second, .val (.long j5), .second, .unset, .unset, .unset, .unset, .unset, .unset, .unset, .unset, .unset] [])) _
      refine XS.lload X0.here hx rfl (hb hby at_123) rfl ?_
      show Steps p.tables e below (T0.setTop (mkF m 125 #[.val (.int i0), .val (.int i1), .val (.int i2), .val (.int i3), .val (.int i4), .val (.long j5), .second, .val (.int i7), .val (.int i8), .val (.long j9), .second, .val (.int i11), .val (.int i12), .val (.long ((j5 * (12 : Int64)) + (i7.toInt64))), .second, .val (.long ((j9 * (12 : Int64)) + (i11.toInt64))), .second, .val (.long j5), .second, .unset, .unset, .unset, .unset, .unset, .unset, .unset, .unset, .unset] [(.long j9)])) _
      refine XS.lstore X0.here hx rfl (hb hby at_125) rfl (l' := #[.val (.int i0), .val (.int i1), .val (.int i2), .val (.int i3), .val (.int i4), .val (.long j9), .second, .val (.int i7), .val (.int i8), .val (.long j9), .second, .val (.int i11), .val (.int i12), .val (.long ((j5 * (12 : Int64)) + (i7.toInt64))), .second, .val (.long ((j9 * (12 : Int64)) + (i11.toInt64))), .second, .val (.long j5), .second, .unset, .unset, .unset, .unset, .unset, .unset, .unset, .unset, .unset]) rfl ?_
      show Steps p.tables e below (T0.setTop (mkF m 127 #[.val (.int i0), .val (.int i1), .val (.int i2), .val (.int i3), .val (.int i4), .val (.long j9), .second, .val (.int i7), .val (.int i8), .val (.long j9), .second, .val (.int i11), .val (.int i12), .val (.long ((j5 * (12 : Int64)) + (i7.toInt64))), .second, .val (.long ((j9 * (12 : Int64)) + (i11.toInt64))), .second, .val (.long j5), .second, .unset, .unset, .unset, .unset, .unset, .unset, .unset, .unset, .unset] [])) _
      refine XS.lload X0.here hx rfl (hb hby at_127) rfl ?_
      show Steps p.tables e below (T0.setTop (mkF m 129 #[.val (.int i0), .val (.int i1), .val (.int i2), .val (.int i3), .val (.int i4), .val (.long j9), .second, .val (.int i7), .val (.int i8), .val (.long j9), .second, .val (.int i11), .val (.int i12), .val (.long ((j5 * (12 : Int64)) + (i7.toInt64))), .second, .val (.long ((j9 * (12 : Int64)) + (i11.toInt64))), .second, .val (.long j5), .second, .unset, .unset, .unset, .unset, .unset, .unset, .unset, .unset, .unset] [(.long j5)])) _
      refine XS.lstore X0.here hx rfl (hb hby at_129) rfl (l' := #[.val (.int i0), .val (.int i1), .val (.int i2), .val (.int i3), .val (.int i4), .val (.long j9), .second, .val (.int i7), .val (.int i8), .val (.long j5), .second, .val (.int i11), .val (.int i12), .val (.long ((j5 * (12 : Int64)) + (i7.toInt64))), .second, .val (.long ((j9 * (12 : Int64)) + (i11.toInt64))), .second, .val (.long j5), .second, .unset, .unset, .unset, .unset, .unset, .unset, .unset, .unset, .unset]) rfl ?_
      show Steps p.tables e below (T0.setTop (mkF m 131 #[.val (.int i0), .val (.int i1), .val (.int i2), .val (.int i3), .val (.int i4), .val (.long j9), .second, .val (.int i7), .val (.int i8), .val (.long j5), .second, .val (.int i11), .val (.int i12), .val (.long ((j5 * (12 : Int64)) + (i7.toInt64))), .second, .val (.long ((j9 * (12 : Int64)) + (i11.toInt64))), .second, .val (.long j5), .second, .unset, .unset, .unset, .unset, .unset, .unset, .unset, .unset, .unset] [])) _
      refine XS.iload X0.here hx rfl (hb hby at_131) rfl ?_
      show Steps p.tables e below (T0.setTop (mkF m 133 #[.val (.int i0), .val (.int i1), .val (.int i2), .val (.int i3), .val (.int i4), .val (.long j9), .second, .val (.int i7), .val (.int i8), .val (.long j5), .second, .val (.int i11), .val (.int i12), .val (.long ((j5 * (12 : Int64)) + (i7.toInt64))), .second, .val (.long ((j9 * (12 : Int64)) + (i11.toInt64))), .second, .val (.long j5), .second, .unset, .unset, .unset, .unset, .unset, .unset, .unset, .unset, .unset] [(.int i7)])) _
      refine XS.istore X0.here hx rfl (hb hby at_133) rfl (l' := #[.val (.int i0), .val (.int i1), .val (.int i2), .val (.int i3), .val (.int i4), .val (.long j9), .second, .val (.int i7), .val (.int i8), .val (.long j5), .second, .val (.int i11), .val (.int i12), .val (.long ((j5 * (12 : Int64)) + (i7.toInt64))), .second, .val (.long ((j9 * (12 : Int64)) + (i11.toInt64))), .second, .val (.long j5), .second, .val (.int i7), .unset, .unset, .unset, .unset, .unset, .unset, .unset, .unset]) rfl ?_
      show Steps p.tables e below (T0.setTop (mkF m 135 #[.val (.int i0), .val (.int i1), .val (.int i2), .val (.int i3), .val (.int i4), .val (.long j9), .second, .val (.int i7), .val (.int i8), .val (.long j5), .second, .val (.int i11), .val (.int i12), .val (.long ((j5 * (12 : Int64)) + (i7.toInt64))), .second, .val (.long ((j9 * (12 : Int64)) + (i11.toInt64))), .second, .val (.long j5), .second, .val (.int i7), .unset, .unset, .unset, .unset, .unset, .unset, .unset, .unset] [])) _
      refine XS.iload X0.here hx rfl (hb hby at_135) rfl ?_
      show Steps p.tables e below (T0.setTop (mkF m 137 #[.val (.int i0), .val (.int i1), .val (.int i2), .val (.int i3), .val (.int i4), .val (.long j9), .second, .val (.int i7), .val (.int i8), .val (.long j5), .second, .val (.int i11), .val (.int i12), .val (.long ((j5 * (12 : Int64)) + (i7.toInt64))), .second, .val (.long ((j9 * (12 : Int64)) + (i11.toInt64))), .second, .val (.long j5), .second, .val (.int i7), .unset, .unset, .unset, .unset, .unset, .unset, .unset, .unset] [(.int i11)])) _
      refine XS.istore X0.here hx rfl (hb hby at_137) rfl (l' := #[.val (.int i0), .val (.int i1), .val (.int i2), .val (.int i3), .val (.int i4), .val (.long j9), .second, .val (.int i11), .val (.int i8), .val (.long j5), .second, .val (.int i11), .val (.int i12), .val (.long ((j5 * (12 : Int64)) + (i7.toInt64))), .second, .val (.long ((j9 * (12 : Int64)) + (i11.toInt64))), .second, .val (.long j5), .second, .val (.int i7), .unset, .unset, .unset, .unset, .unset, .unset, .unset, .unset]) rfl ?_
      show Steps p.tables e below (T0.setTop (mkF m 139 #[.val (.int i0), .val (.int i1), .val (.int i2), .val (.int i3), .val (.int i4), .val (.long j9), .second, .val (.int i11), .val (.int i8), .val (.long j5), .second, .val (.int i11), .val (.int i12), .val (.long ((j5 * (12 : Int64)) + (i7.toInt64))), .second, .val (.long ((j9 * (12 : Int64)) + (i11.toInt64))), .second, .val (.long j5), .second, .val (.int i7), .unset, .unset, .unset, .unset, .unset, .unset, .unset, .unset] [])) _
      refine XS.iload X0.here hx rfl (hb hby at_139) rfl ?_
      show Steps p.tables e below (T0.setTop (mkF m 141 #[.val (.int i0), .val (.int i1), .val (.int i2), .val (.int i3), .val (.int i4), .val (.long j9), .second, .val (.int i11), .val (.int i8), .val (.long j5), .second, .val (.int i11), .val (.int i12), .val (.long ((j5 * (12 : Int64)) + (i7.toInt64))), .second, .val (.long ((j9 * (12 : Int64)) + (i11.toInt64))), .second, .val (.long j5), .second, .val (.int i7), .unset, .unset, .unset, .unset, .unset, .unset, .unset, .unset] [(.int i7)])) _
      refine XS.istore X0.here hx rfl (hb hby at_141) rfl (l' := #[.val (.int i0), .val (.int i1), .val (.int i2), .val (.int i3), .val (.int i4), .val (.long j9), .second, .val (.int i11), .val (.int i8), .val (.long j5), .second, .val (.int i7), .val (.int i12), .val (.long ((j5 * (12 : Int64)) + (i7.toInt64))), .second, .val (.long ((j9 * (12 : Int64)) + (i11.toInt64))), .second, .val (.long j5), .second, .val (.int i7), .unset, .unset, .unset, .unset, .unset, .unset, .unset, .unset]) rfl ?_
      show Steps p.tables e below (T0.setTop (mkF m 143 #[.val (.int i0), .val (.int i1), .val (.int i2), .val (.int i3), .val (.int i4), .val (.long j9), .second, .val (.int i11), .val (.int i8), .val (.long j5), .second, .val (.int i7), .val (.int i12), .val (.long ((j5 * (12 : Int64)) + (i7.toInt64))), .second, .val (.long ((j9 * (12 : Int64)) + (i11.toInt64))), .second, .val (.long j5), .second, .val (.int i7), .unset, .unset, .unset, .unset, .unset, .unset, .unset, .unset] [])) _
      refine XS.iload X0.here hx rfl (hb hby at_143) rfl ?_
      show Steps p.tables e below (T0.setTop (mkF m 145 #[.val (.int i0), .val (.int i1), .val (.int i2), .val (.int i3), .val (.int i4), .val (.long j9), .second, .val (.int i11), .val (.int i8), .val (.long j5), .second, .val (.int i7), .val (.int i12), .val (.long ((j5 * (12 : Int64)) + (i7.toInt64))), .second, .val (.long ((j9 * (12 : Int64)) + (i11.toInt64))), .second, .val (.long j5), .second, .val (.int i7), .unset, .unset, .unset, .unset, .unset, .unset, .unset, .unset] [(.int i8)])) _
      refine XS.istore X0.here hx rfl (hb hby at_145) rfl (l' := #[.val (.int i0), .val (.int i1), .val (.int i2), .val (.int i3), .val (.int i4), .val (.long j9), .second, .val (.int i11), .val (.int i8), .val (.long j5), .second, .val (.int i7), .val (.int i12), .val (.long ((j5 * (12 : Int64)) + (i7.toInt64))), .second, .val (.long ((j9 * (12 : Int64)) + (i11.toInt64))), .second, .val (.long j5), .second, .val (.int i7), .val (.int i8), .unset, .unset, .unset, .unset, .unset, .unset, .unset]) rfl ?_
      show Steps p.tables e below (T0.setTop (mkF m 147 #[.val (.int i0), .val (.int i1), .val (.int i2), .val (.int i3), .val (.int i4), .val (.long j9), .second, .val (.int i11), .val (.int i8), .val (.long j5), .second, .val (.int i7), .val (.int i12), .val (.long ((j5 * (12 : Int64)) + (i7.toInt64))), .second, .val (.long ((j9 * (12 : Int64)) + (i11.toInt64))), .second, .val (.long j5), .second, .val (.int i7), .val (.int i8), .unset, .unset, .unset, .unset, .unset, .unset, .unset] [])) _
      refine XS.iload X0.here hx rfl (hb hby at_147) rfl ?_
      show Steps p.tables e below (T0.setTop (mkF m 149 #[.val (.int i0), .val (.int i1), .val (.int i2), .val (.int i3), .val (.int i4), .val (.long j9), .second, .val (.int i11), .val (.int i8), .val (.long j5), .second, .val (.int i7), .val (.int i12), .val (.long ((j5 * (12 : Int64)) + (i7.toInt64))), .second, .val (.long ((j9 * (12 : Int64)) + (i11.toInt64))), .second, .val (.long j5), .second, .val (.int i7), .val (.int i8), .unset, .unset, .unset, .unset, .unset, .unset, .unset] [(.int i12)])) _
      refine XS.istore X0.here hx rfl (hb hby at_149) rfl (l' := #[.val (.int i0), .val (.int i1), .val (.int i2), .val (.int i3), .val (.int i4), .val (.long j9), .second, .val (.int i11), .val (.int i12), .val (.long j5), .second, .val (.int i7), .val (.int i12), .val (.long ((j5 * (12 : Int64)) + (i7.toInt64))), .second, .val (.long ((j9 * (12 : Int64)) + (i11.toInt64))), .second, .val (.long j5), .second, .val (.int i7), .val (.int i8), .unset, .unset, .unset, .unset, .unset, .unset, .unset]) rfl ?_
      show Steps p.tables e below (T0.setTop (mkF m 151 #[.val (.int i0), .val (.int i1), .val (.int i2), .val (.int i3), .val (.int i4), .val (.long j9), .second, .val (.int i11), .val (.int i12), .val (.long j5), .second, .val (.int i7), .val (.int i12), .val (.long ((j5 * (12 : Int64)) + (i7.toInt64))), .second, .val (.long ((j9 * (12 : Int64)) + (i11.toInt64))), .second, .val (.long j5), .second, .val (.int i7), .val (.int i8), .unset, .unset, .unset, .unset, .unset, .unset, .unset] [])) _
      refine XS.iload X0.here hx rfl (hb hby at_151) rfl ?_
      show Steps p.tables e below (T0.setTop (mkF m 153 #[.val (.int i0), .val (.int i1), .val (.int i2), .val (.int i3), .val (.int i4), .val (.long j9), .second, .val (.int i11), .val (.int i12), .val (.long j5), .second, .val (.int i7), .val (.int i12), .val (.long ((j5 * (12 : Int64)) + (i7.toInt64))), .second, .val (.long ((j9 * (12 : Int64)) + (i11.toInt64))), .second, .val (.long j5), .second, .val (.int i7), .val (.int i8), .unset, .unset, .unset, .unset, .unset, .unset, .unset] [(.int i8)])) _
      refine XS.istore X0.here hx rfl (hb hby at_153) rfl (l' := #[.val (.int i0), .val (.int i1), .val (.int i2), .val (.int i3), .val (.int i4), .val (.long j9), .second, .val (.int i11), .val (.int i12), .val (.long j5), .second, .val (.int i7), .val (.int i8), .val (.long ((j5 * (12 : Int64)) + (i7.toInt64))), .second, .val (.long ((j9 * (12 : Int64)) + (i11.toInt64))), .second, .val (.long j5), .second, .val (.int i7), .val (.int i8), .unset, .unset, .unset, .unset, .unset, .unset, .unset]) rfl ?_
      exact k
    obtain ⟨s₂, o, st276, g1, g2, v, L, ho, ⟨hv, hN, hh276⟩, hfe⟩ := pc0_155_0 i0 i1 i2 i3 i4 j9 i11 i12 j5 i7 i8 ((j5 * (12 : Int64)) + (i7.toInt64)) ((j9 * (12 : Int64)) + (i11.toInt64)) j5 i7 i8 cl_wS cl_wD wT wA wS wI wD X0 hx hZ hw hby hml hown hret hlocks e0 N0 Z0 E_wT E_wA Ford_T Ford_A Ar_wS el_0 el_1 E_wI Ar_wD hD S_wT S_wA S_wS S_wI S_wD
    exact ⟨s₂, o, pre209 _ st276, g1, g2, v, L, ho, ⟨(by rw [F0_72_0, if_pos hc207]; exact hv), hN, hh276⟩, hfe⟩
  · have pre277 : ∀ t, Steps p.tables e below (T0.setTop (mkF m 104 #[.val (.int i0), .val (.int i1), .val (.int i2), .val (.int i3), .val (.int i4), .val (.long j5), .second, .val (.int i7), .val (.int i8), .val (.long j9), .second, .val (.int i11), .val (.int i12), .val (.long ((j5 * (12 : Int64)) + (i7.toInt64))), .second, .val (.long ((j9 * (12 : Int64)) + (i11.toInt64))), .second, .unset, .unset, .unset, .unset, .unset, .unset, .unset, .unset, .unset, .unset, .unset] [])) t → Steps p.tables e below (T0.setTop (mkF m 72 #[.val (.int i0), .val (.int i1), .val (.int i2), .val (.int i3), .val (.int i4), .val (.long j5), .second, .val (.int i7), .val (.int i8), .val (.long j9), .second, .val (.int i11), .val (.int i12), .unset, .unset, .unset, .unset, .unset, .unset, .unset, .unset, .unset, .unset, .unset, .unset, .unset, .unset, .unset] [])) t := by
      intro t k
      refine pre206 _ ?_
      show Steps p.tables e below (T0.setTop (mkF m 101 #[.val (.int i0), .val (.int i1), .val (.int i2), .val (.int i3), .val (.int i4), .val (.long j5), .second, .val (.int i7), .val (.int i8), .val (.long j9), .second, .val (.int i11), .val (.int i12), .val (.long ((j5 * (12 : Int64)) + (i7.toInt64))), .second, .val (.long ((j9 * (12 : Int64)) + (i11.toInt64))), .second, .unset, .unset, .unset, .unset, .unset, .unset, .unset, .unset, .unset, .unset, .unset] [(.int (lcmpW ((j5 * (12 : Int64)) + (i7.toInt64)) ((j9 * (12 : Int64)) + (i11.toInt64))))])) _
      refine XS.ifNo X0.here hx rfl (hb hby at_101) rfl ((if0 _ _).trans (flt hc207).2.2.1) ?_
      exact k
    have pre278 : ∀ t, Steps p.tables e below (T0.setTop (mkF m 109 #[.val (.int i0), .val (.int i1), .val (.int i2), .val (.int i3), .val (.int i4), .val (.long j5), .second, .val (.int i7), .val (.int i8), .val (.long j9), .second, .val (.int i11), .val (.int i12), .val (.long ((j5 * (12 : Int64)) + (i7.toInt64))), .second, .val (.long ((j9 * (12 : Int64)) + (i11.toInt64))), .second, .unset, .unset, .unset, .unset, .unset, .unset, .unset, .unset, .unset, .unset, .unset] [(.int (lcmpW ((j5 * (12 : Int64)) + (i7.toInt64)) ((j9 * (12 : Int64)) + (i11.toInt64))))])) t → Steps p.tables e below (T0.setTop (mkF m 72 #[.val (.int i0), .val (.int i1), .val (.int i2), .val (.int i3), .val (.int i4), .val (.long j5), .second, .val (.int i7), .val (.int i8), .val (.long j9), .second, .val (.int i11), .val (.int i12), .unset, .unset, .unset, .unset, .unset, .unset, .unset, .unset, .unset, .unset, .unset, .unset, .unset, .unset, .unset] [])) t := by
      intro t k
      refine pre277 _ ?_
      show Steps p.tables e below (T0.setTop (mkF m 104 #[.val (.int i0), .val (.int i1), .val (.int i2), .val (.int i3), .val (.int i4), .val (.long j5), .second, .val (.int i7), .val (.int i8), .val (.long j9), .second, .val (.int i11), .val (.int i12), .val (.long ((j5 * (12 : Int64)) + (i7.toInt64))), .second, .val (.long ((j9 * (12 : Int64)) + (i11.toInt64))), .second, .unset, .unset, .unset, .unset, .unset, .unset, .unset, .unset, .unset, .unset, .unset] [])) _
      refine XS.lload X0.here hx rfl (hb hby at_104) rfl ?_
      show Steps p.tables e below (T0.setTop (mkF m 106 #[.val (.int i0), .val (.int i1), .val (.int i2), .val (.int i3), .val (.int i4), .val (.long j5), .second, .val (.int i7), .val (.int i8), .val (.long j9), .second, .val (.int i11), .val (.int i12), .val (.long ((j5 * (12 : Int64)) + (i7.toInt64))), .second, .val (.long ((j9 * (12 : Int64)) + (i11.toInt64))), .second, .unset, .unset, .unset, .unset, .unset, .unset, .unset, .unset, .unset, .unset, .unset] [(.long ((j5 * (12 : Int64)) + (i7.toInt64)))])) _
      refine XS.lload X0.here hx rfl (hb hby at_106) rfl ?_
      show Steps p.tables e below (T0.setTop (mkF m 108 #[.val (.int i0), .val (.int i1), .val (.int i2), .val (.int i3), .val (.int i4), .val (.long j5), .second, .val (.int i7), .val (.int i8), .val (.long j9), .second, .val (.int i11), .val (.int i12), .val (.long ((j5 * (12 : Int64)) + (i7.toInt64))), .second, .val (.long ((j9 * (12 : Int64)) + (i11.toInt64))), .second, .unset, .unset, .unset, .unset, .unset, .unset, .unset, .unset, .unset, .unset, .unset] [(.long ((j9 * (12 : Int64)) + (i11.toInt64))), (.long ((j5 * (12 : Int64)) + (i7.toInt64)))])) _
      refine XS.lcmp X0.here hx rfl (hb hby at_108) rfl ?_
      exact k
    by_cases hc279 : (lcmpW ((j5 * (12 : Int64)) + (i7.toInt64)) ((j9 * (12 : Int64)) + (i11.toInt64))) = (0 : Int32)
    · have pre280 : ∀ t, Steps p.tables e below (T0.setTop (mkF m 112 #[.val (.int i0), .val (.int i1), .val (.int i2), .val (.int i3), .val (.int i4), .val (.long j5), .second, .val (.int i7), .val (.int i8), .val (.long j9), .second, .val (.int i11), .val (.int i12), .val (.long ((j5 * (12 : Int64)) + (i7.toInt64))), .second, .val (.long ((j9 * (12 : Int64)) + (i11.toInt64))), .second, .unset, .unset, .unset, .unset, .unset, .unset, .unset, .unset, .unset, .unset, .unset] [])) t → Steps p.tables e below (T0.setTop (mkF m 72 #[.val (.int i0), .val (.int i1), .val (.int i2), .val (.int i3), .val (.int i4), .val (.long j5), .second, .val (.int i7), .val (.int i8), .val (.long j9), .second, .val (.int i11), .val (.int i12), .unset, .unset, .unset, .unset, .unset, .unset, .unset, .unset, .unset, .unset, .unset, .unset, .unset, .unset, .unset] [])) t := by
        intro t k
        refine pre278 _ ?_
        show Steps p.tables e below (T0.setTop (mkF m 109 #[.val (.int i0), .val (.int i1), .val (.int i2), .val (.int i3), .val (.int i4), .val (.long j5), .second, .val (.int i7), .val (.int i8), .val (.long j9), .second, .val (.int i11), .val (.int i12), .val (.long ((j5 * (12 : Int64)) + (i7.toInt64))), .second, .val (.long ((j9 * (12 : Int64)) + (i11.toInt64))), .second, .unset, .unset, .unset, .unset, .unset, .unset, .unset, .unset, .unset, .unset, .unset] [(.int (lcmpW ((j5 * (12 : Int64)) + (i7.toInt64)) ((j9 * (12 : Int64)) + (i11.toInt64))))])) _
        refine XS.ifNo X0.here hx rfl (hb hby at_109) rfl ((if0 _ _).trans (teq hc279).2) ?_
        exact k
      have pre281 : ∀ t, Steps p.tables e below (T0.setTop (mkF m 116 #[.val (.int i0), .val (.int i1), .val (.int i2), .val (.int i3), .val (.int i4), .val (.long j5), .second, .val (.int i7), .val (.int i8), .val (.long j9), .second, .val (.int i11), .val (.int i12), .val (.long ((j5 * (12 : Int64)) + (i7.toInt64))), .second, .val (.long ((j9 * (12 : Int64)) + (i11.toInt64))), .second, .unset, .unset, .unset, .unset, .unset, .unset, .unset, .unset, .unset, .unset, .unset] [(.int i12), (.int i8)])) t → Steps p.tables e below (T0.setTop (mkF m 72 #[.val (.int i0), .val (.int i1), .val (.int i2), .val (.int i3), .val (.int i4), .val (.long j5), .second, .val (.int i7), .val (.int i8), .val (.long j9), .second, .val (.int i11), .val (.int i12), .unset, .unset, .unset, .unset, .unset, .unset, .unset, .unset, .unset, .unset, .unset, .unset, .unset, .unset, .unset] [])) t := by
        intro t k
        refine pre280 _ ?_
        show Steps p.tables e below (T0.setTop (mkF m 112 #[.val (.int i0), .val (.int i1), .val (.int i2), .val (.int i3), .val (.int i4), .val (.long j5), .second, .val (.int i7), .val (.int i8), .val (.long j9), .second, .val (.int i11), .val (.int i12), .val (.long ((j5 * (12 : Int64)) + (i7.toInt64))), .second, .val (.long ((j9 * (12 : Int64)) + (i11.toInt64))), .second, .unset, .unset, .unset, .unset, .unset, .unset, .unset, .unset, .unset, .unset, .unset] [])) _
        refine XS.iload X0.here hx rfl (hb hby at_112) rfl ?_
        show Steps p.tables e below (T0.setTop (mkF m 114 #[.val (.int i0), .val (.int i1), .val (.int i2), .val (.int i3), .val (.int i4), .val (.long j5), .second, .val (.int i7), .val (.int i8), .val (.long j9), .second, .val (.int i11), .val (.int i12), .val (.long ((j5 * (12 : Int64)) + (i7.toInt64))), .second, .val (.long ((j9 * (12 : Int64)) + (i11.toInt64))), .second, .unset, .unset, .unset, .unset, .unset, .unset, .unset, .unset, .unset, .unset, .unset] [(.int i8)])) _
        refine XS.iload X0.here hx rfl (hb hby at_114) rfl ?_
        exact k
      by_cases hc282 : i12 < i8
      · have pre283 : ∀ t, Steps p.tables e below (T0.setTop (mkF m 119 #[.val (.int i0), .val (.int i1), .val (.int i2), .val (.int i3), .val (.int i4), .val (.long j5), .second, .val (.int i7), .val (.int i8), .val (.long j9), .second, .val (.int i11), .val (.int i12), .val (.long ((j5 * (12 : Int64)) + (i7.toInt64))), .second, .val (.long ((j9 * (12 : Int64)) + (i11.toInt64))), .second, .unset, .unset, .unset, .unset, .unset, .unset, .unset, .unset, .unset, .unset, .unset] [])) t → Steps p.tables e below (T0.setTop (mkF m 72 #[.val (.int i0), .val (.int i1), .val (.int i2), .val (.int i3), .val (.int i4), .val (.long j5), .second, .val (.int i7), .val (.int i8), .val (.long j9), .second, .val (.int i11), .val (.int i12), .unset, .unset, .unset, .unset, .unset, .unset, .unset, .unset, .unset, .unset, .unset, .unset, .unset, .unset, .unset] [])) t := by
          intro t k
          refine pre281 _ ?_
          show Steps p.tables e below (T0.setTop (mkF m 116 #[.val (.int i0), .val (.int i1), .val (.int i2), .val (.int i3), .val (.int i4), .val (.long j5), .second, .val (.int i7), .val (.int i8), .val (.long j9), .second, .val (.int i11), .val (.int i12), .val (.long ((j5 * (12 : Int64)) + (i7.toInt64))), .second, .val (.long ((j9 * (12 : Int64)) + (i11.toInt64))), .second, .unset, .unset, .unset, .unset, .unset, .unset, .unset, .unset, .unset, .unset, .unset] [(.int i12), (.int i8)])) _
          refine XS.icmpNo X0.here hx rfl (hb hby at_116) rfl (tlt hc282).2.2.2 ?_
          exact k
        have pre284 : ∀ t, Steps p.tables e below (T0.setTop (mkF m 155 #[.val (.int i0), .val (.int i1), .val (.int i2), .val (.int i3), .val (.int i4), .val (.long j9), .second, .val (.int i11), .val (.int i12), .val (.long j5), .second, .val (.int i7), .val (.int i8), .val (.long ((j5 * (12 : Int64)) + (i7.toInt64))), .second, .val (.long ((j9 * (12 : Int64)) + (i11.toInt64))), .second, .val (.long j5), .second, .val (.int i7), .val (.int i8), .unset, .unset, .unset, .unset, .unset, .unset, .unset] [])) t → Steps p.tables e below (T0.setTop (mkF m 72 #[.val (.int i0), .val (.int i1), .val (.int i2), .val (.int i3), .val (.int i4), .val (.long j5), .second, .val (.int i7), .val (.int i8), .val (.long j9), .second, .val (.int i11), .val (.int i12), .unset, .unset, .unset, .unset, .unset, .unset, .unset, .unset, .unset, .unset, .unset, .unset, .unset, .unset, .unset] [])) t := by
          intro t k
          refine pre283 _ ?_
          show Steps p.tables e below (T0.setTop (mkF m 119 #[.val (.int i0), .val (.int i1), .val (.int i2), .val (.int i3), .val (.int i4), .val (.long j5), .second, .val (.int i7), .val (.int i8), .val (.long j9), .second, .val (.int i11), .val (.int i12), .val (.long ((j5 * (12 : Int64)) + (i7.toInt64))), .second, .val (.long ((j9 * (12 : Int64)) + (i11.toInt64))), .second, .unset, .unset, .unset, .unset, .unset, .unset, .unset, .unset, .unset, .unset, .unset] [])) _
          refine XS.lload X0.here hx rfl (hb hby at_119) rfl ?_
          show Steps p.tables e below (T0.setTop (mkF m 121 #[.val (.int i0), .val (.int i1), .val (.int i2), .val (.int i3), .val (.int i4), .val (.long j5), .second, .val (.int i7), .val (.int i8), .val (.long j9), .second, .val (.int i11), .val (.int i12), .val (.long ((j5 * (12 : Int64)) + (i7.toInt64))), .second, .val (.long ((j9 * (12 : Int64)) + (i11.toInt64))), .second, .unset, .unset, .unset, .unset, .unset, .unset, .unset, .unset, .unset, .unset, .unset] [(.long j5)])) _
          refine XS.lstore X0.here hx rfl (hb hby at_121) rfl (l' := #[.val (.int i0), .val (.int i1), .val (.int i2), .val (.int i3), .val (.int i4), .val (.long j5), .second, .val (.int i7), .val (.int i8), .val (.long j9), .second, .val (.int i11), .val (.int i12), .val (.long ((j5 * (12 : Int64)) + (i7.toInt64))), .second, .val (.long ((j9 * (12 : Int64)) + (i11.toInt64))), .second, .val (.long j5), .second, .unset, .unset, .unset, .unset, .unset, .unset, .unset, .unset, .unset]) rfl ?_
          show Steps p.tables e below (T0.setTop (mkF m 123 #[.val (.int i0), .val (.int i1), .val (.int i2), .val (.int i3), .val (.int i4), .val (.long j5), .second, .val (.int i7), .val (.int i8), .val (.long j9), .second, .val (.int i11), .val (.int i12), .val (.long ((j5 * (12 : Int64)) + (i7.toInt64))), .second, .val (.long ((j9 * (12 : Int64)) + (i11.toInt64))), .second, .val (.long j5), .second, .unset, .unset, .unset, .unset, .unset, .unset, .unset, .unset, .unset] [])) _
          refine XS.lload X0.here hx rfl (hb hby at_123) rfl ?_
          show Steps p.tables e below (T0.setTop (mkF m 125 #[.val (.int i0), .val (.int i1), .val (.int i2), .val (.int i3), .val (.int i4), .val (.long j5), .second, .val (.int i7), .val (.int i8), .val (.long j9), .second, .val (.int i11), .val (.int i12), .val (.long ((j5 * (12 : Int64)) + (i7.toInt64))), .second, .val (.long ((j9 * (12 : Int64)) + (i11.toInt64))), .second, .val (.long j5), .second, .unset, .unset, .unset, .unset, .unset, .unset, .unset, .unset, .unset] [(.long j9)])) _
          refine XS.lstore X0.here hx rfl (hb hby at_125) rfl (l' := #[.val (.int i0), .val (.int i1), .val (.int i2), .val (.int i3), .val (.int i4), .val (.long j9), .second, .val (.int i7), .val (.int i8), .val (.long j9), .second, .val (.int i11), .val (.int i12), .val (.long ((j5 * (12 : Int64)) + (i7.toInt64))), .second, .val (.long ((j9 * (12 : Int64)) + (i11.toInt64))), .second, .val (.long j5), .second, .unset, .unset, .unset, .unset, .unset, .unset, .unset, .unset, .unset]) rfl ?_
          show Steps p.tables e below (T0.setTop (mkF m 127 #[.val (.int i0), .val (.int i1), .val (.int i2), .val (.int i3), .val (.int i4), .val (.long j9), .second, .val (.int i7), .val (.int i8), .val (.long j9), .second, .val (.int i11), .val (.int i12), .val (.long ((j5 * (12 : Int64)) + (i7.toInt64))), .second, .val (.long ((j9 * (12 : Int64)) + (i11.toInt64))), .second, .val (.long j5), .second, .unset, .unset, .unset, .unset, .unset, .unset, .unset, .unset, .unset] [])) _
          refine XS.lload X0.here hx rfl (hb hby at_127) rfl ?_
          show Steps p.tables e below (T0.setTop (mkF m 129 #[.val (.int i0), .val (.int i1), .val (.int i2), .val (.int i3), .val (.int i4), .val (.long j9), .second, .val (.int i7), .val (.int i8), .val (.long j9), .second, .val (.int i11), .val (.int i12), .val (.long ((j5 * (12 : Int64)) + (i7.toInt64))), .second, .val (.long ((j9 * (12 : Int64)) + (i11.toInt64))), .second, .val (.long j5), .second, .unset, .unset, .unset, .unset, .unset, .unset, .unset, .unset, .unset] [(.long j5)])) _
          refine XS.lstore X0.here hx rfl (hb hby at_129) rfl (l' := #[.val (.int i0), .val (.int i1), .val (.int i2), .val (.int i3), .val (.int i4), .val (.long j9), .second, .val (.int i7), .val (.int i8), .val (.long j5), .second, .val (.int i11), .val (.int i12), .val (.long ((j5 * (12 : Int64)) + (i7.toInt64))), .second, .val (.long ((j9 * (12 : Int64)) + (i11.toInt64))), .second, .val (.long j5), .second, .unset, .unset, .unset, .unset, .unset, .unset, .unset, .unset, .unset]) rfl ?_
          show Steps p.tables e below (T0.setTop (mkF m 131 #[.val (.int i0), .val (.int i1), .val (.int i2), .val (.int i3), .val (.int i4), .val (.long j9), .second, .val (.int i7), .val (.int i8), .val (.long j5), .second, .val (.int i11), .val (.int i12), .val (.long ((j5 * (12 : Int64)) + (i7.toInt64))), .second, .val (.long ((j9 * (12 : Int64)) + (i11.toInt64))), .second, .val (.long j5), .second, .unset, .unset, .unset, .unset, .unset, .unset, .unset, .unset, .unset] [])) _
          refine XS.iload X0.here hx rfl (hb hby at_131) rfl ?_
          show Steps p.tables e below (T0.setTop (mkF m 133 #[.val (.int i0), .val (.int i1), .val (.int i2), .val (.int i3), .val (.int i4), .val (.long j9), .second, .val (.int i7), .val (.int i8), .val (.long j5), .second, .val (.int i11), .val (.int i12), .val (.long ((j5 * (12 : Int64)) + (i7.toInt64))), .second, .val (.long ((j9 * (12 : Int64)) + (i11.toInt64))), .second, .val (.long j5), .second, .unset, .unset, .unset, .unset, .unset, .unset, .unset, .unset, .unset] [(.int i7)])) _
          refine XS.istore X0.here hx rfl (hb hby at_133) rfl (l' := #[.val (.int i0), .val (.int i1), .val (.int i2), .val (.int i3), .val (.int i4), .val (.long j9), .second, .val (.int i7), .val (.int i8), .val (.long j5), .second, .val (.int i11), .val (.int i12), .val (.long ((j5 * (12 : Int64)) + (i7.toInt64))), .second, .val (.long ((j9 * (12 : Int64)) + (i11.toInt64))), .second, .val (.long j5), .second, .val (.int i7), .unset, .unset, .unset, .unset, .unset, .unset, .unset, .unset]) rfl ?_
          show Steps p.tables e below (T0.setTop (mkF m 135 #[.val (.int i0), .val (.int i1), .val (.int i2), .val (.int i3), .val (.int i4), .val (.long j9), .second, .val (.int i7), .val (.int i8), .val (.long j5), .second, .val (.int i11), .val (.int i12), .val (.long ((j5 * (12 : Int64)) + (i7.toInt64))), .second, .val (.long ((j9 * (12 : Int64)) + (i11.toInt64))), .second, .val (.long j5), .second, .val (.int i7), .unset, .unset, .unset, .unset, .unset, .unset, .unset, .unset] [])) _
          refine XS.iload X0.here hx rfl (hb hby at_135) rfl ?_
          show Steps p.tables e below (T0.setTop (mkF m 137 #[.val (.int i0), .val (.int i1), .val (.int i2), .val (.int i3), .val (.int i4), .val (.long j9), .second, .val (.int i7), .val (.int i8), .val (.long j5), .second, .val (.int i11), .val (.int i12), .val (.long ((j5 * (12 : Int64)) + (i7.toInt64))), .second, .val (.long ((j9 * (12 : Int64)) + (i11.toInt64))), .second, .val (.long j5), .second, .val (.int i7), .unset, .unset, .unset, .unset, .unset, .unset, .unset, .unset] [(.int i11)])) _
          refine XS.istore X0.here hx rfl (hb hby at_137) rfl (l' := #[.val (.int i0), .val (.int i1), .val (.int i2), .val (.int i3), .val (.int i4), .val (.long j9), .second, .val (.int i11), .val (.int i8), .val (.long j5), .second, .val (.int i11), .val (.int i12), .val (.long ((j5 * (12 : Int64)) + (i7.toInt64))), .second, .val (.long ((j9 * (12 : Int64)) + (i11.toInt64))), .second, .val (.long j5), .second, .val (.int i7), .unset, .unset, .unset, .unset, .unset, .unset, .unset, .unset]) rfl ?_
          show Steps p.tables e below (T0.setTop (mkF m 139 #[.val (.int i0), .val (.int i1), .val (.int i2), .val (.int i3), .val (.int i4), .val (.long j9), .second, .val (.int i11), .val (.int i8), .val (.long j5), .second, .val (.int i11), .val (.int i12), .val (.long ((j5 * (12 : Int64)) + (i7.toInt64))), .second, .val (.long ((j9 * (12 : Int64)) + (i11.toInt64))), .second, .val (.long j5), .second, .val (.int i7), .unset, .unset, .unset, .unset, .unset, .unset, .unset, .unset] [])) _
          refine XS.iload X0.here hx rfl (hb hby at_139) rfl ?_
          show Steps p.tables e below (T0.setTop (mkF m 141 #[.val (.int i0), .val (.int i1), .val (.int i2), .val (.int i3), .val (.int i4), .val (.long j9), .second, .val (.int i11), .val (.int i8), .val (.long j5), .second, .val (.int i11), .val (.int i12), .val (.long ((j5 * (12 : Int64)) + (i7.toInt64))), .second, .val (.long ((j9 * (12 : Int64)) + (i11.toInt64))), .second, .val (.long j5), .second, .val (.int i7), .unset, .unset, .unset, .unset, .unset, .unset, .unset, .unset] [(.int i7)])) _
          refine XS.istore X0.here hx rfl (hb hby at_141) rfl (l' := #[.val (.int i0), .val (.int i1), .val (.int i2), .val (.int i3), .val (.int i4), .val (.long j9), .second, .val (.int i11), .val (.int i8), .val (.long j5), .second, .val (.int i7), .val (.int i12), .val (.long ((j5 * (12 : Int64)) + (i7.toInt64))), .second, .val (.long ((j9 * (12 : Int64)) + (i11.toInt64))), .second, .val (.long j5), .second, .val (.int i7), .unset, .unset, .unset, .unset, .unset, .unset, .unset, .unset]) rfl ?_
          show Steps p.tables e below (T0.setTop (mkF m 143 #[.val (.int i0), .val (.int i1), .val (.int i2), .val (.int i3), .val (.int i4), .val (.long j9), .second, .val (.int i11), .val (.int i8), .val (.long j5), .second, .val (.int i7), .val (.int i12), .val (.long ((j5 * (12 : Int64)) + (i7.toInt64))), .second, .val (.long ((j9 * (12 : Int64)) + (i11.toInt64))), .second, .val (.long j5), .second, .val (.int i7), .unset, .unset, .unset, .unset, .unset, .unset, .unset, .unset] [])) _
          refine XS.iload X0.here hx rfl (hb hby at_143) rfl ?_
          show Steps p.tables e below (T0.setTop (mkF m 145 #[.val (.int i0), .val (.int i1), .val (.int i2), .val (.int i3), .val (.int i4), .val (.long j9), .second, .val (.int i11), .val (.int i8), .val (.long j5), .second, .val (.int i7), .val (.int i12), .val (.long ((j5 * (12 : Int64)) + (i7.toInt64))), .second, .val (.long ((j9 * (12 : Int64)) + (i11.toInt64))), .second, .val (.long j5), .second, .val (.int i7), .unset, .unset, .unset, .unset, .unset, .unset, .unset, .unset] [(.int i8)])) _
          refine XS.istore X0.here hx rfl (hb hby at_145) rfl (l' := #[.val (.int i0), .val (.int i1), .val (.int i2), .val (.int i3), .val (.int i4), .val (.long j9), .second, .val (.int i11), .val (.int i8), .val (.long j5), .second, .val (.int i7), .val (.int i12), .val (.long ((j5 * (12 : Int64)) + (i7.toInt64))), .second, .val (.long ((j9 * (12 : Int64)) + (i11.toInt64))), .second, .val (.long j5), .second, .val (.int i7), .val (.int i8), .unset, .unset, .unset, .unset, .unset, .unset, .unset]) rfl ?_
          show Steps p.tables e below (T0.setTop (mkF m 147 #[.val (.int i0), .val (.int i1), .val (.int i2), .val (.int i3), .val (.int i4), .val (.long j9), .second, .val (.int i11), .val (.int i8), .val (.long j5), .second, .val (.int i7), .val (.int i12), .val (.long ((j5 * (12 : Int64)) + (i7.toInt64))), .second, .val (.long ((j9 * (12 : Int64)) + (i11.toInt64))), .second, .val (.long j5), .second, .val (.int i7), .val (.int i8), .unset, .unset, .unset, .unset, .unset, .unset, .unset] [])) _
          refine XS.iload X0.here hx rfl (hb hby at_147) rfl ?_
          show Steps p.tables e below (T0.setTop (mkF m 149 #[.val (.int i0), .val (.int i1), .val (.int i2), .val (.int i3), .val (.int i4), .val (.long j9), .second, .val (.int i11), .val (.int i8), .val (.long j5), .second, .val (.int i7), .val (.int i12), .val (.long ((j5 * (12 : Int64)) + (i7.toInt64))), .second, .val (.long ((j9 * (12 : Int64)) + (i11.toInt64))), .second, .val (.long j5), .second, .val (.int i7), .val (.int i8), .unset, .unset, .unset, .unset, .unset, .unset, .unset] [(.int i12)])) _
          refine XS.istore X0.here hx rfl (hb hby at_149) rfl (l' := #[.val (.int i0), .val (.int i1), .val (.int i2), .val (.int i3), .val (.int i4), .val (.long j9), .second, .val (.int i11), .val (.int i12), .val (.long j5), .second, .val (.int i7), .val (.int i12), .val (.long ((j5 * (12 : Int64)) + (i7.toInt64))), .second, .val (.long ((j9 * (12 : Int64)) + (i11.toInt64))), .second, .val (.long j5), .second, .val (.int i7), .val (.int i8), .unset, .unset, .unset, .unset, .unset, .unset, .unset]) rfl ?_
          show Steps p.tables e below (T0.setTop (mkF m 151 #[.val (.int i0), .val (.int i1), .val (.int i2), .val (.int i3), .val (.int i4), .val (.long j9), .second, .val (.int i11), .val (.int i12), .val (.long j5), .second, .val (.int i7), .val (.int i12), .val (.long ((j5 * (12 : Int64)) + (i7.toInt64))), .second, .val (.long ((j9 * (12 : Int64)) + (i11.toInt64))), .second, .val (.long j5), .second, .val (.int i7), .val (.int i8), .unset, .unset, .unset, .unset, .unset, .unset, .unset] [])) _
          refine XS.iload X0.here hx rfl (hb hby at_151) rfl ?_
          show Steps p.tables e below (T0.setTop (mkF m 153 #[.val (.int i0), .val (.int i1), .val (.int i2), .val (.int i3), .val (.int i4), .val (.long j9), .second, .val (.int i11), .val (.int i12), .val (.long j5), .second, .val (.int i7), .val (.int i12), .val (.long ((j5 * (12 : Int64)) + (i7.toInt64))), .second, .val (.long ((j9 * (12 : Int64)) + (i11.toInt64))), .second, .val (.long j5), .second, .val (.int i7), .val (.int i8), .unset, .unset, .unset, .unset, .unset, .unset, .unset] [(.int i8)])) _
          refine XS.istore X0.here hx rfl (hb hby at_153) rfl (l' := #[.val (.int i0), .val (.int i1), .val (.int i2), .val (.int i3), .val (.int i4), .val (.long j9), .second, .val (.int i11), .val (.int i12), .val (.long j5), .second, .val (.int i7), .val (.int i8), .val (.long ((j5 * (12 : Int64)) + (i7.toInt64))), .second, .val (.long ((j9 * (12 : Int64)) + (i11.toInt64))), .second, .val (.long j5), .second, .val (.int i7), .val (.int i8), .unset, .unset, .unset, .unset, .unset, .unset, .unset]) rfl ?_
          exact k
        obtain ⟨s₂, o, st285, g1, g2, v, L, ho, ⟨hv, hN, hh285⟩, hfe⟩ := pc0_155_0 i0 i1 i2 i3 i4 j9 i11 i12 j5 i7 i8 ((j5 * (12 : Int64)) + (i7.toInt64)) ((j9 * (12 : Int64)) + (i11.toInt64)) j5 i7 i8 cl_wS cl_wD wT wA wS wI wD X0 hx hZ hw hby hml hown hret hlocks e0 N0 Z0 E_wT E_wA Ford_T Ford_A Ar_wS el_0 el_1 E_wI Ar_wD hD S_wT S_wA S_wS S_wI S_wD
        exact ⟨s₂, o, pre284 _ st285, g1, g2, v, L, ho, ⟨(by rw [F0_72_0, if_neg hc207, if_pos hc279, if_pos hc282]; exact hv), hN, hh285⟩, hfe⟩
      · have pre286 : ∀ t, Steps p.tables e below (T0.setTop (mkF m 155 #[.val (.int i0), .val (.int i1), .val (.int i2), .val (.int i3), .val (.int i4), .val (.long j5), .second, .val (.int i7), .val (.int i8), .val (.long j9), .second, .val (.int i11), .val (.int i12), .val (.long ((j5 * (12 : Int64)) + (i7.toInt64))), .second, .val (.long ((j9 * (12 : Int64)) + (i11.toInt64))), .second, .unset, .unset, .unset, .unset, .unset, .unset, .unset, .unset, .unset, .unset, .unset] [])) t → Steps p.tables e below (T0.setTop (mkF m 72 #[.val (.int i0), .val (.int i1), .val (.int i2), .val (.int i3), .val (.int i4), .val (.long j5), .second, .val (.int i7), .val (.int i8), .val (.long j9), .second, .val (.int i11), .val (.int i12), .unset, .unset, .unset, .unset, .unset, .unset, .unset, .unset, .unset, .unset, .unset, .unset, .unset, .unset, .unset] [])) t := by
          intro t k
          refine pre281 _ ?_
          show Steps p.tables e below (T0.setTop (mkF m 116 #[.val (.int i0), .val (.int i1), .val (.int i2), .val (.int i3), .val (.int i4), .val (.long j5), .second, .val (.int i7), .val (.int i8), .val (.long j9), .second, .val (.int i11), .val (.int i12), .val (.long ((j5 * (12 : Int64)) + (i7.toInt64))), .second, .val (.long ((j9 * (12 : Int64)) + (i11.toInt64))), .second, .unset, .unset, .unset, .unset, .unset, .unset, .unset, .unset, .unset, .unset, .unset] [(.int i12), (.int i8)])) _
          refine XS.icmpYes X0.here hx rfl (pc0 := 116) (pc' := 155) rfl (hb hby at_116) rfl (flt hc282).2.2.2 (by decide) (by decide) ?_
          exact k
        obtain ⟨s₂, o, st327, g1, g2, v, L, ho, ⟨hv, hN, hh327⟩, hfe⟩ := pc0_155_1 i0 i1 i2 i3 i4 j5 i7 i8 j9 i11 i12 ((j5 * (12 : Int64)) + (i7.toInt64)) ((j9 * (12 : Int64)) + (i11.toInt64)) cl_wS cl_wD wT wA wS wI wD X0 hx hZ hw hby hml hown hret hlocks e0 N0 Z0 E_wT E_wA Ford_T Ford_A Ar_wS el_0 el_1 E_wI Ar_wD hD S_wT S_wA S_wS S_wI S_wD
        exact ⟨s₂, o, pre286 _ st327, g1, g2, v, L, ho, ⟨(by rw [F0_72_0, if_neg hc207, if_pos hc279, if_neg hc282]; exact hv), hN, hh327⟩, hfe⟩
    · have pre328 : ∀ t, Steps p.tables e below (T0.setTop (mkF m 155 #[.val (.int i0), .val (.int i1), .val (.int i2), .val (.int i3), .val (.int i4), .val (.long j5), .second, .val (.int i7), .val (.int i8), .val (.long j9), .second, .val (.int i11), .val (.int i12), .val (.long ((j5 * (12 : Int64)) + (i7.toInt64))), .second, .val (.long ((j9 * (12 : Int64)) + (i11.toInt64))), .second, .unset, .unset, .unset, .unset, .unset, .unset, .unset, .unset, .unset, .unset, .unset] [])) t → Steps p.tables e below (T0.setTop (mkF m 72 #[.val (.int i0), .val (.int i1), .val (.int i2), .val (.int i3), .val (.int i4), .val (.long j5), .second, .val (.int i7), .val (.int i8), .val (.long j9), .second, .val (.int i11), .val (.int i12), .unset, .unset, .unset, .unset, .unset, .unset, .unset, .unset, .unset, .unset, .unset, .unset, .unset, .unset, .unset] [])) t := by
        intro t k
        refine pre278 _ ?_
        show Steps p.tables e below (T0.setTop (mkF m 109 #[.val (.int i0), .val (.int i1), .val (.int i2), .val (.int i3), .val (.int i4), .val (.long j5), .second, .val (.int i7), .val (.int i8), .val (.long j9), .second, .val (.int i11), .val (.int i12), .val (.long ((j5 * (12 : Int64)) + (i7.toInt64))), .second, .val (.long ((j9 * (12 : Int64)) + (i11.toInt64))), .second, .unset, .unset, .unset, .unset, .unset, .unset, .unset, .unset, .unset, .unset, .unset] [(.int (lcmpW ((j5 * (12 : Int64)) + (i7.toInt64)) ((j9 * (12 : Int64)) + (i11.toInt64))))])) _
        refine XS.ifYes X0.here hx rfl (pc0 := 109) (pc' := 155) rfl (hb hby at_109) rfl ((if0 _ _).trans (feq hc279).2) (by decide) (by decide) ?_
        exact k
      obtain ⟨s₂, o, st329, g1, g2, v, L, ho, ⟨hv, hN, hh329⟩, hfe⟩ := pc0_155_1 i0 i1 i2 i3 i4 j5 i7 i8 j9 i11 i12 ((j5 * (12 : Int64)) + (i7.toInt64)) ((j9 * (12 : Int64)) + (i11.toInt64)) cl_wS cl_wD wT wA wS wI wD X0 hx hZ hw hby hml hown hret hlocks e0 N0 Z0 E_wT E_wA Ford_T Ford_A Ar_wS el_0 el_1 E_wI Ar_wD hD S_wT S_wA S_wS S_wI S_wD
      exact ⟨s₂, o, pre328 _ st329, g1, g2, v, L, ho, ⟨(by rw [F0_72_0, if_neg hc207, if_neg hc279]; exact hv), hN, hh329⟩, hfe⟩
theorem ef_0 (m : MethodId) (x0 : Int32) (x1 : Int32) (x2 : Int32) (x3 : Int32) (x4 : Int32) : entryFrame m #[(.int x0), (.int x1), (.int x2), (.int x3), (.int x4)] maxLocals = mkF m 0 #[.val (.int x0), .val (.int x1), .val (.int x2), .val (.int x3), .val (.int x4), .unset, .unset, .unset, .unset, .unset, .unset, .unset, .unset, .unset, .unset, .unset, .unset, .unset, .unset, .unset, .unset, .unset, .unset, .unset, .unset, .unset, .unset, .unset] [] := by first | (simp [entryFrame, mkF, argsToLocals, Value.category, maxLocals]; done) | rfl
def F0 (p1 : Int32) (p2 : Int32) (p3 : Int32) (p4 : Int32) (p5 : Int32) : Int32 :=
  (F0_72_0 p1 ((p2 % (1000000000 : Int32)).toInt64) ((p3 &&& (2147483647 : Int32)) % (12 : Int32)) ((1 : Int32) + (((p3 &&& (2147483647 : Int32)) / (12 : Int32)) % (F1 ((p2 % (1000000000 : Int32)).toInt64) ((p3 &&& (2147483647 : Int32)) % (12 : Int32))))) ((p4 % (1000000000 : Int32)).toInt64) ((p5 &&& (2147483647 : Int32)) % (12 : Int32)) ((1 : Int32) + (((p5 &&& (2147483647 : Int32)) / (12 : Int32)) % (F1 ((p4 % (1000000000 : Int32)).toInt64) ((p5 &&& (2147483647 : Int32)) % (12 : Int32))))))
def Q0 (Z : State) (p1 : Int32) (p2 : Int32) (p3 : Int32) (p4 : Int32) (p5 : Int32) (cl_wS : Cell) (cl_wD : Cell) (wT : Addr) (wA : Addr) (wS : Addr) (wI : Addr) (wD : Addr) (h0 : Heap) (n0 : Nat) (v : Option Value) (h : Heap) (L : List Loc) : Prop := v = some (.int (F0 p1 p2 p3 p4 p5)) ∧ Fr n0 L ∧ h = h0
set_option maxRecDepth 65536 in
set_option maxHeartbeats 40000000 in
theorem rm0 (l : Launch) (Z : State) (a0 : Array Value) (hw : ∀ d ∈ tables_1, d.before a0 Z = true) (ws : List Jvm.Cond) (p1 : Int32) (p2 : Int32) (p3 : Int32) (p4 : Int32) (p5 : Int32) (cl_wS : Cell) (cl_wD : Cell) (wT : Addr) (wA : Addr) (wS : Addr) (wI : Addr) (wD : Addr) (h0 : Heap) (n0 : Nat) (Z0 : n0 ≤ h0.size) (E_wT : Exa Z h0 wT "com/example/notesmith/notesmith/note/DayCount") (E_wA : Exa Z h0 wA "com/example/notesmith/notesmith/note/DayCount") (Ford_T : Fld Z h0 wT "java/lang/Enum" "ordinal" "I" (.int (0 : Int32))) (Ford_A : Fld Z h0 wA "java/lang/Enum" "ordinal" "I" (.int (1 : Int32))) (Ar_wS : Arr Z h0 wS cl_wS .int) (el_0 : ¬ ((0 : Int32) < 0 ∨ cl_wS.slots.size ≤ (0 : Int32).toNatClampNeg) ∧ cl_wS.slots[(0 : Int32).toNatClampNeg]? = some (.int (1 : Int32))) (el_1 : ¬ ((1 : Int32) < 0 ∨ cl_wS.slots.size ≤ (1 : Int32).toNatClampNeg) ∧ cl_wS.slots[(1 : Int32).toNatClampNeg]? = some (.int (2 : Int32))) (E_wI : Exa Z h0 wI "java/time/chrono/IsoChronology") (Ar_wD : Arr Z h0 wD cl_wD .int) (hD : ∀ j : Int32, (0 ≤ j.toInt ∧ j.toInt < 12) → ¬ (j < 0 ∨ cl_wD.slots.size ≤ j.toNatClampNeg) ∧ cl_wD.slots[j.toNatClampNeg]? = some (.int (own_dbm j))) (S_wT : Sta Z h0 "com/example/notesmith/notesmith/note/DayCount" "THIRTY_360" "Lcom/example/notesmith/notesmith/note/DayCount;" (.ref wT)) (S_wA : Sta Z h0 "com/example/notesmith/notesmith/note/DayCount" "ACTUAL_365" "Lcom/example/notesmith/notesmith/note/DayCount;" (.ref wA)) (S_wS : Sta Z h0 "com/example/notesmith/notesmith/calc/Accrual$1" "$SwitchMap$com$example$notesmith$notesmith$note$DayCount" "[I" (.ref wS)) (S_wI : Sta Z h0 "java/time/chrono/IsoChronology" "INSTANCE" "Ljava/time/chrono/IsoChronology;" (.ref wI)) (S_wD : Sta Z h0 "com/example/notesmith/notesmith/calc/Accrual" "DAYS_BEFORE_MONTH" "[I" (.ref wD)) :
    MetFree l x (head1 (Jvm.Cond.code x code maxLocals ret :: ws) room_1) (fun a U => a = #[(.int p1), (.int p2), (.int p3), (.int p4), (.int p5)] ∧ Z.Warmed39 U.vm ∧ U.heap = h0) (fun _ _ _ _ _ => True) (fun _ U o U' => ∃ v L, o = .returned v ∧ Q0 Z p1 p2 p3 p4 p5 cl_wS cl_wD wT wA wS wI wD h0 n0 v U'.heap L ∧ FrameEnd U o U' L room_1.cells room_1.slots) := by
  refine MetFree.of_bodySF (plainFor_of_name pn_12) hisR ?_
  intro p e s m args below meth c s₁ Bd hml0 hP hK
  obtain ⟨rfl, hZ, hh⟩ := hP
  have hx := Bd.exec
  have hby := Bd.bytes
  have hml : c.maxLocals = 28 := hml0
  have hown : s.vm.findClass "com/example/notesmith/notesmith/calc/AccrualDaysPinLaw" = some m.cls := findClass_of_methodNamed Bd.named
  have hnm := (name_of_methodNamed Bd.named Bd.method).1
  have hret := Bd.returns
  have hlocks : meth.locks = false := Bd.notSynchronized
  have X0 : Stand p l e room_1 s m #[(.int p1), (.int p2), (.int p3), (.int p4), (.int p5)] below meth c s₁ [] 0 0 := Stand.of_body Bd
  have e0 : s₁.heap = h0 := by rw [← hh, Bd.state]; rfl
  have N0 := Fr.nil n0
  have pre0 : ∀ t, Steps p.tables e below (s₁.setTop (mkF m 0 #[.val (.int p1), .val (.int p2), .val (.int p3), .val (.int p4), .val (.int p5), .unset, .unset, .unset, .unset, .unset, .unset, .unset, .unset, .unset, .unset, .unset, .unset, .unset, .unset, .unset, .unset, .unset, .unset, .unset, .unset, .unset, .unset, .unset] [])) t → Steps p.tables e below (s₁.setTop (entryFrame m #[(.int p1), (.int p2), (.int p3), (.int p4), (.int p5)] maxLocals)) t := fun t k => castTop (ef_0 m p1 p2 p3 p4 p5) k
  have pre199 : ∀ t, Steps p.tables e below (s₁.setTop (mkF m 28 #[.val (.int p1), .val (.int p2), .val (.int p3), .val (.int p4), .val (.int p5), .val (.long ((p2 % (1000000000 : Int32)).toInt64)), .second, .val (.int ((p3 &&& (2147483647 : Int32)) % (12 : Int32))), .unset, .unset, .unset, .unset, .unset, .unset, .unset, .unset, .unset, .unset, .unset, .unset, .unset, .unset, .unset, .unset, .unset, .unset, .unset, .unset] [(.int ((p3 &&& (2147483647 : Int32)) % (12 : Int32))), (.long ((p2 % (1000000000 : Int32)).toInt64)), (.int ((p3 &&& (2147483647 : Int32)) / (12 : Int32))), (.int (1 : Int32))])) t → Steps p.tables e below (s₁.setTop (entryFrame m #[(.int p1), (.int p2), (.int p3), (.int p4), (.int p5)] maxLocals)) t := by
    intro t k
    refine pre0 _ ?_
    show Steps p.tables e below (s₁.setTop (mkF m 0 #[.val (.int p1), .val (.int p2), .val (.int p3), .val (.int p4), .val (.int p5), .unset, .unset, .unset, .unset, .unset, .unset, .unset, .unset, .unset, .unset, .unset, .unset, .unset, .unset, .unset, .unset, .unset, .unset, .unset, .unset, .unset, .unset, .unset] [])) _
    refine XS.iloadN X0.here hx rfl (hb hby at_0) rfl ?_
    show Steps p.tables e below (s₁.setTop (mkF m 1 #[.val (.int p1), .val (.int p2), .val (.int p3), .val (.int p4), .val (.int p5), .unset, .unset, .unset, .unset, .unset, .unset, .unset, .unset, .unset, .unset, .unset, .unset, .unset, .unset, .unset, .unset, .unset, .unset, .unset, .unset, .unset, .unset, .unset] [(.int p2)])) _
    refine X0.ldcInt hx hown (mvT hZ (hw _ (List.mem_of_getElem? (i := 0) rfl))) (g := (mkF m 1 #[.val (.int p1), .val (.int p2), .val (.int p3), .val (.int p4), .val (.int p5), .unset, .unset, .unset, .unset, .unset, .unset, .unset, .unset, .unset, .unset, .unset, .unset, .unset, .unset, .unset, .unset, .unset, .unset, .unset, .unset, .unset, .unset, .unset] [(.int p2)])) rfl (hb hby at_1) _ ?_
    show Steps p.tables e below (s₁.setTop (mkF m 3 #[.val (.int p1), .val (.int p2), .val (.int p3), .val (.int p4), .val (.int p5), .unset, .unset, .unset, .unset, .unset, .unset, .unset, .unset, .unset, .unset, .unset, .unset, .unset, .unset, .unset, .unset, .unset, .unset, .unset, .unset, .unset, .unset, .unset] [(.int (1000000000 : Int32)), (.int p2)])) _
    refine iremM X0 hx rfl (hb hby at_3) rfl (by decide) ?_
    show Steps p.tables e below (s₁.setTop (mkF m 4 #[.val (.int p1), .val (.int p2), .val (.int p3), .val (.int p4), .val (.int p5), .unset, .unset, .unset, .unset, .unset, .unset, .unset, .unset, .unset, .unset, .unset, .unset, .unset, .unset, .unset, .unset, .unset, .unset, .unset, .unset, .unset, .unset, .unset] [(.int (p2 % (1000000000 : Int32)))])) _
    refine XS.i2l X0.here hx rfl (hb hby at_4) rfl ?_
    show Steps p.tables e below (s₁.setTop (mkF m 5 #[.val (.int p1), .val (.int p2), .val (.int p3), .val (.int p4), .val (.int p5), .unset, .unset, .unset, .unset, .unset, .unset, .unset, .unset, .unset, .unset, .unset, .unset, .unset, .unset, .unset, .unset, .unset, .unset, .unset, .unset, .unset, .unset, .unset] [(.long ((p2 % (1000000000 : Int32)).toInt64))])) _
    refine XS.lstore X0.here hx rfl (hb hby at_5) rfl (l' := #[.val (.int p1), .val (.int p2), .val (.int p3), .val (.int p4), .val (.int p5), .val (.long ((p2 % (1000000000 : Int32)).toInt64)), .second, .unset, .unset, .unset, .unset, .unset, .unset, .unset, .unset, .unset, .unset, .unset, .unset, .unset, .unset, .unset, .unset, .unset, .unset, .unset, .unset, .unset]) rfl ?_
    show Steps p.tables e below (s₁.setTop (mkF m 7 #[.val (.int p1), .val (.int p2), .val (.int p3), .val (.int p4), .val (.int p5), .val (.long ((p2 % (1000000000 : Int32)).toInt64)), .second, .unset, .unset, .unset, .unset, .unset, .unset, .unset, .unset, .unset, .unset, .unset, .unset, .unset, .unset, .unset, .unset, .unset, .unset, .unset, .unset, .unset] [])) _
    refine XS.iloadN X0.here hx rfl (hb hby at_7) rfl ?_
    show Steps p.tables e below (s₁.setTop (mkF m 8 #[.val (.int p1), .val (.int p2), .val (.int p3), .val (.int p4), .val (.int p5), .val (.long ((p2 % (1000000000 : Int32)).toInt64)), .second, .unset, .unset, .unset, .unset, .unset, .unset, .unset, .unset, .unset, .unset, .unset, .unset, .unset, .unset, .unset, .unset, .unset, .unset, .unset, .unset, .unset] [(.int p3)])) _
    refine X0.ldcInt hx hown (mvT hZ (hw _ (List.mem_of_getElem? (i := 1) rfl))) (g := (mkF m 8 #[.val (.int p1), .val (.int p2), .val (.int p3), .val (.int p4), .val (.int p5), .val (.long ((p2 % (1000000000 : Int32)).toInt64)), .second, .unset, .unset, .unset, .unset, .unset, .unset, .unset, .unset, .unset, .unset, .unset, .unset, .unset, .unset, .unset, .unset, .unset, .unset, .unset, .unset, .unset] [(.int p3)])) rfl (hb hby at_8) _ ?_
    show Steps p.tables e below (s₁.setTop (mkF m 10 #[.val (.int p1), .val (.int p2), .val (.int p3), .val (.int p4), .val (.int p5), .val (.long ((p2 % (1000000000 : Int32)).toInt64)), .second, .unset, .unset, .unset, .unset, .unset, .unset, .unset, .unset, .unset, .unset, .unset, .unset, .unset, .unset, .unset, .unset, .unset, .unset, .unset, .unset, .unset] [(.int (2147483647 : Int32)), (.int p3)])) _
    refine XS.iand X0.here hx rfl (hb hby at_10) rfl ?_
    show Steps p.tables e below (s₁.setTop (mkF m 11 #[.val (.int p1), .val (.int p2), .val (.int p3), .val (.int p4), .val (.int p5), .val (.long ((p2 % (1000000000 : Int32)).toInt64)), .second, .unset, .unset, .unset, .unset, .unset, .unset, .unset, .unset, .unset, .unset, .unset, .unset, .unset, .unset, .unset, .unset, .unset, .unset, .unset, .unset, .unset] [(.int (p3 &&& (2147483647 : Int32)))])) _
    refine XS.bipush X0.here hx rfl (hb hby at_11) ?_
    show Steps p.tables e below (s₁.setTop (mkF m 13 #[.val (.int p1), .val (.int p2), .val (.int p3), .val (.int p4), .val (.int p5), .val (.long ((p2 % (1000000000 : Int32)).toInt64)), .second, .unset, .unset, .unset, .unset, .unset, .unset, .unset, .unset, .unset, .unset, .unset, .unset, .unset, .unset, .unset, .unset, .unset, .unset, .unset, .unset, .unset] [(.int (12 : Int32)), (.int (p3 &&& (2147483647 : Int32)))])) _
    refine iremM X0 hx rfl (hb hby at_13) rfl (by decide) ?_
    show Steps p.tables e below (s₁.setTop (mkF m 14 #[.val (.int p1), .val (.int p2), .val (.int p3), .val (.int p4), .val (.int p5), .val (.long ((p2 % (1000000000 : Int32)).toInt64)), .second, .unset, .unset, .unset, .unset, .unset, .unset, .unset, .unset, .unset, .unset, .unset, .unset, .unset, .unset, .unset, .unset, .unset, .unset, .unset, .unset, .unset] [(.int ((p3 &&& (2147483647 : Int32)) % (12 : Int32)))])) _
    refine XS.istore X0.here hx rfl (hb hby at_14) rfl (l' := #[.val (.int p1), .val (.int p2), .val (.int p3), .val (.int p4), .val (.int p5), .val (.long ((p2 % (1000000000 : Int32)).toInt64)), .second, .val (.int ((p3 &&& (2147483647 : Int32)) % (12 : Int32))), .unset, .unset, .unset, .unset, .unset, .unset, .unset, .unset, .unset, .unset, .unset, .unset, .unset, .unset, .unset, .unset, .unset, .unset, .unset, .unset]) rfl ?_
    show Steps p.tables e below (s₁.setTop (mkF m 16 #[.val (.int p1), .val (.int p2), .val (.int p3), .val (.int p4), .val (.int p5), .val (.long ((p2 % (1000000000 : Int32)).toInt64)), .second, .val (.int ((p3 &&& (2147483647 : Int32)) % (12 : Int32))), .unset, .unset, .unset, .unset, .unset, .unset, .unset, .unset, .unset, .unset, .unset, .unset, .unset, .unset, .unset, .unset, .unset, .unset, .unset, .unset] [])) _
    refine XS.iconst X0.here hx rfl (hb hby at_16) ?_
    show Steps p.tables e below (s₁.setTop (mkF m 17 #[.val (.int p1), .val (.int p2), .val (.int p3), .val (.int p4), .val (.int p5), .val (.long ((p2 % (1000000000 : Int32)).toInt64)), .second, .val (.int ((p3 &&& (2147483647 : Int32)) % (12 : Int32))), .unset, .unset, .unset, .unset, .unset, .unset, .unset, .unset, .unset, .unset, .unset, .unset, .unset, .unset, .unset, .unset, .unset, .unset, .unset, .unset] [(.int (1 : Int32))])) _
    refine XS.iloadN X0.here hx rfl (hb hby at_17) rfl ?_
    show Steps p.tables e below (s₁.setTop (mkF m 18 #[.val (.int p1), .val (.int p2), .val (.int p3), .val (.int p4), .val (.int p5), .val (.long ((p2 % (1000000000 : Int32)).toInt64)), .second, .val (.int ((p3 &&& (2147483647 : Int32)) % (12 : Int32))), .unset, .unset, .unset, .unset, .unset, .unset, .unset, .unset, .unset, .unset, .unset, .unset, .unset, .unset, .unset, .unset, .unset, .unset, .unset, .unset] [(.int p3), (.int (1 : Int32))])) _
    refine X0.ldcInt hx hown (mvT hZ (hw _ (List.mem_of_getElem? (i := 1) rfl))) (g := (mkF m 18 #[.val (.int p1), .val (.int p2), .val (.int p3), .val (.int p4), .val (.int p5), .val (.long ((p2 % (1000000000 : Int32)).toInt64)), .second, .val (.int ((p3 &&& (2147483647 : Int32)) % (12 : Int32))), .unset, .unset, .unset, .unset, .unset, .unset, .unset, .unset, .unset, .unset, .unset, .unset, .unset, .unset, .unset, .unset, .unset, .unset, .unset, .unset] [(.int p3), (.int (1 : Int32))])) rfl (hb hby at_18) _ ?_
    show Steps p.tables e below (s₁.setTop (mkF m 20 #[.val (.int p1), .val (.int p2), .val (.int p3), .val (.int p4), .val (.int p5), .val (.long ((p2 % (1000000000 : Int32)).toInt64)), .second, .val (.int ((p3 &&& (2147483647 : Int32)) % (12 : Int32))), .unset, .unset, .unset, .unset, .unset, .unset, .unset, .unset, .unset, .unset, .unset, .unset, .unset, .unset, .unset, .unset, .unset, .unset, .unset, .unset] [(.int (2147483647 : Int32)), (.int p3), (.int (1 : Int32))])) _
    refine XS.iand X0.here hx rfl (hb hby at_20) rfl ?_
    show Steps p.tables e below (s₁.setTop (mkF m 21 #[.val (.int p1), .val (.int p2), .val (.int p3), .val (.int p4), .val (.int p5), .val (.long ((p2 % (1000000000 : Int32)).toInt64)), .second, .val (.int ((p3 &&& (2147483647 : Int32)) % (12 : Int32))), .unset, .unset, .unset, .unset, .unset, .unset, .unset, .unset, .unset, .unset, .unset, .unset, .unset, .unset, .unset, .unset, .unset, .unset, .unset, .unset] [(.int (p3 &&& (2147483647 : Int32))), (.int (1 : Int32))])) _
    refine XS.bipush X0.here hx rfl (hb hby at_21) ?_
    show Steps p.tables e below (s₁.setTop (mkF m 23 #[.val (.int p1), .val (.int p2), .val (.int p3), .val (.int p4), .val (.int p5), .val (.long ((p2 % (1000000000 : Int32)).toInt64)), .second, .val (.int ((p3 &&& (2147483647 : Int32)) % (12 : Int32))), .unset, .unset, .unset, .unset, .unset, .unset, .unset, .unset, .unset, .unset, .unset, .unset, .unset, .unset, .unset, .unset, .unset, .unset, .unset, .unset] [(.int (12 : Int32)), (.int (p3 &&& (2147483647 : Int32))), (.int (1 : Int32))])) _
    refine XS.idiv X0.here hx rfl (hb hby at_23) rfl (by decide) ?_
    show Steps p.tables e below (s₁.setTop (mkF m 24 #[.val (.int p1), .val (.int p2), .val (.int p3), .val (.int p4), .val (.int p5), .val (.long ((p2 % (1000000000 : Int32)).toInt64)), .second, .val (.int ((p3 &&& (2147483647 : Int32)) % (12 : Int32))), .unset, .unset, .unset, .unset, .unset, .unset, .unset, .unset, .unset, .unset, .unset, .unset, .unset, .unset, .unset, .unset, .unset, .unset, .unset, .unset] [(.int ((p3 &&& (2147483647 : Int32)) / (12 : Int32))), (.int (1 : Int32))])) _
    refine XS.lload X0.here hx rfl (hb hby at_24) rfl ?_
    show Steps p.tables e below (s₁.setTop (mkF m 26 #[.val (.int p1), .val (.int p2), .val (.int p3), .val (.int p4), .val (.int p5), .val (.long ((p2 % (1000000000 : Int32)).toInt64)), .second, .val (.int ((p3 &&& (2147483647 : Int32)) % (12 : Int32))), .unset, .unset, .unset, .unset, .unset, .unset, .unset, .unset, .unset, .unset, .unset, .unset, .unset, .unset, .unset, .unset, .unset, .unset, .unset, .unset] [(.long ((p2 % (1000000000 : Int32)).toInt64)), (.int ((p3 &&& (2147483647 : Int32)) / (12 : Int32))), (.int (1 : Int32))])) _
    refine XS.iload X0.here hx rfl (hb hby at_26) rfl ?_
    exact k
  obtain ⟨_, _, ⟨T200, L200, k200, n200⟩, -, X200, ⟨Lc200, hQ200, l200, y200, z200⟩, st200⟩ := Jvm.LawKit.callS X0 hx (y := (⟨"com/example/notesmith/notesmith/calc/AccrualDaysPinLaw", "monthLength", "(JI)I"⟩ : MethodName)) hown (mvT hZ (hw _ (List.mem_of_getElem? (i := 2) rfl))) (mvT hZ (hw _ (List.mem_of_getElem? (i := 3) rfl))) (mvT hZ (hw _ (List.mem_of_getElem? (i := 4) rfl))) (mvT hZ (hw _ (List.mem_of_getElem? (i := 5) rfl))) (by decide) (backOf (W := 2) (rm1 l Z a0 hw [] ((p2 % (1000000000 : Int32)).toInt64) ((p3 &&& (2147483647 : Int32)) % (12 : Int32)) h0 n0 Z0 ) hZ (hw _ (List.mem_of_getElem? (i := 5) rfl)) (hw _ (List.mem_of_getElem? (i := 4) rfl)) (by decide) (by decide)) (g := (mkF m 28 #[.val (.int p1), .val (.int p2), .val (.int p3), .val (.int p4), .val (.int p5), .val (.long ((p2 % (1000000000 : Int32)).toInt64)), .second, .val (.int ((p3 &&& (2147483647 : Int32)) % (12 : Int32))), .unset, .unset, .unset, .unset, .unset, .unset, .unset, .unset, .unset, .unset, .unset, .unset, .unset, .unset, .unset, .unset, .unset, .unset, .unset, .unset] [(.int ((p3 &&& (2147483647 : Int32)) % (12 : Int32))), (.long ((p2 % (1000000000 : Int32)).toInt64)), (.int ((p3 &&& (2147483647 : Int32)) / (12 : Int32))), (.int (1 : Int32))])) rfl (by rw [hml]; rfl) (argsL := [(.long ((p2 % (1000000000 : Int32)).toInt64)), (.int ((p3 &&& (2147483647 : Int32)) % (12 : Int32)))]) (rest := [(.int ((p3 &&& (2147483647 : Int32)) / (12 : Int32))), (.int (1 : Int32))]) (lenOf pd__JI_I rfl) rfl (by show 2 * 0 + _ ≤ _; exact Nat.le_of_eq rfl) (hb hby at_28) (fun _ _ => ⟨rfl, e0, (by decide : 0 + 0 ≤ _), (by decide : 0 + 0 ≤ _)⟩)
  dsimp only [Pt.U, Pt.locs, Pt.cells, Pt.slots] at X200 l200 y200 z200 st200 hQ200
  subst l200 y200 z200
  obtain ⟨rfl, N200q, e200⟩ := hQ200
  have N200 := Fr.app N0 N200q
  have pre201 : ∀ t, Steps p.tables e below (T200.setTop (mkF m 31 #[.val (.int p1), .val (.int p2), .val (.int p3), .val (.int p4), .val (.int p5), .val (.long ((p2 % (1000000000 : Int32)).toInt64)), .second, .val (.int ((p3 &&& (2147483647 : Int32)) % (12 : Int32))), .unset, .unset, .unset, .unset, .unset, .unset, .unset, .unset, .unset, .unset, .unset, .unset, .unset, .unset, .unset, .unset, .unset, .unset, .unset, .unset] [(.int (F1 ((p2 % (1000000000 : Int32)).toInt64) ((p3 &&& (2147483647 : Int32)) % (12 : Int32)))), (.int ((p3 &&& (2147483647 : Int32)) / (12 : Int32))), (.int (1 : Int32))])) t → Steps p.tables e below (s₁.setTop (entryFrame m #[(.int p1), (.int p2), (.int p3), (.int p4), (.int p5)] maxLocals)) t := by
    intro t k
    refine pre199 _ ?_
    show Steps p.tables e below (s₁.setTop (mkF m 28 #[.val (.int p1), .val (.int p2), .val (.int p3), .val (.int p4), .val (.int p5), .val (.long ((p2 % (1000000000 : Int32)).toInt64)), .second, .val (.int ((p3 &&& (2147483647 : Int32)) % (12 : Int32))), .unset, .unset, .unset, .unset, .unset, .unset, .unset, .unset, .unset, .unset, .unset, .unset, .unset, .unset, .unset, .unset, .unset, .unset, .unset, .unset] [(.int ((p3 &&& (2147483647 : Int32)) % (12 : Int32))), (.long ((p2 % (1000000000 : Int32)).toInt64)), (.int ((p3 &&& (2147483647 : Int32)) / (12 : Int32))), (.int (1 : Int32))])) _
    refine st200 _ ?_
    exact k
  have pre202 : ∀ t, Steps p.tables e below (T200.setTop (mkF m 65 #[.val (.int p1), .val (.int p2), .val (.int p3), .val (.int p4), .val (.int p5), .val (.long ((p2 % (1000000000 : Int32)).toInt64)), .second, .val (.int ((p3 &&& (2147483647 : Int32)) % (12 : Int32))), .val (.int ((1 : Int32) + (((p3 &&& (2147483647 : Int32)) / (12 : Int32)) % (F1 ((p2 % (1000000000 : Int32)).toInt64) ((p3 &&& (2147483647 : Int32)) % (12 : Int32)))))), .val (.long ((p4 % (1000000000 : Int32)).toInt64)), .second, .val (.int ((p5 &&& (2147483647 : Int32)) % (12 : Int32))), .unset, .unset, .unset, .unset, .unset, .unset, .unset, .unset, .unset, .unset, .unset, .unset, .unset, .unset, .unset, .unset] [(.int ((p5 &&& (2147483647 : Int32)) % (12 : Int32))), (.long ((p4 % (1000000000 : Int32)).toInt64)), (.int ((p5 &&& (2147483647 : Int32)) / (12 : Int32))), (.int (1 : Int32))])) t → Steps p.tables e below (s₁.setTop (entryFrame m #[(.int p1), (.int p2), (.int p3), (.int p4), (.int p5)] maxLocals)) t := by
    intro t k
    refine pre201 _ ?_
    show Steps p.tables e below (T200.setTop (mkF m 31 #[.val (.int p1), .val (.int p2), .val (.int p3), .val (.int p4), .val (.int p5), .val (.long ((p2 % (1000000000 : Int32)).toInt64)), .second, .val (.int ((p3 &&& (2147483647 : Int32)) % (12 : Int32))), .unset, .unset, .unset, .unset, .unset, .unset, .unset, .unset, .unset, .unset, .unset, .unset, .unset, .unset, .unset, .unset, .unset, .unset, .unset, .unset] [(.int (F1 ((p2 % (1000000000 : Int32)).toInt64) ((p3 &&& (2147483647 : Int32)) % (12 : Int32)))), (.int ((p3 &&& (2147483647 : Int32)) / (12 : Int32))), (.int (1 : Int32))])) _
    refine iremM X200 hx rfl (hb hby at_31) rfl (own_ml _ _) ?_
    show Steps p.tables e below (T200.setTop (mkF m 32 #[.val (.int p1), .val (.int p2), .val (.int p3), .val (.int p4), .val (.int p5), .val (.long ((p2 % (1000000000 : Int32)).toInt64)), .second, .val (.int ((p3 &&& (2147483647 : Int32)) % (12 : Int32))), .unset, .unset, .unset, .unset, .unset, .unset, .unset, .unset, .unset, .unset, .unset, .unset, .unset, .unset, .unset, .unset, .unset, .unset, .unset, .unset] [(.int (((p3 &&& (2147483647 : Int32)) / (12 : Int32)) % (F1 ((p2 % (1000000000 : Int32)).toInt64) ((p3 &&& (2147483647 : Int32)) % (12 : Int32))))), (.int (1 : Int32))])) _
    refine XS.iadd X200.here hx rfl (hb hby at_32) rfl ?_
    show Steps p.tables e below (T200.setTop (mkF m 33 #[.val (.int p1), .val (.int p2), .val (.int p3), .val (.int p4), .val (.int p5), .val (.long ((p2 % (1000000000 : Int32)).toInt64)), .second, .val (.int ((p3 &&& (2147483647 : Int32)) % (12 : Int32))), .unset, .unset, .unset, .unset, .unset, .unset, .unset, .unset, .unset, .unset, .unset, .unset, .unset, .unset, .unset, .unset, .unset, .unset, .unset, .unset] [(.int ((1 : Int32) + (((p3 &&& (2147483647 : Int32)) / (12 : Int32)) % (F1 ((p2 % (1000000000 : Int32)).toInt64) ((p3 &&& (2147483647 : Int32)) % (12 : Int32))))))])) _
    refine XS.istore X200.here hx rfl (hb hby at_33) rfl (l' := #[.val (.int p1), .val (.int p2), .val (.int p3), .val (.int p4), .val (.int p5), .val (.long ((p2 % (1000000000 : Int32)).toInt64)), .second, .val (.int ((p3 &&& (2147483647 : Int32)) % (12 : Int32))), .val (.int ((1 : Int32) + (((p3 &&& (2147483647 : Int32)) / (12 : Int32)) % (F1 ((p2 % (1000000000 : Int32)).toInt64) ((p3 &&& (2147483647 : Int32)) % (12 : Int32)))))), .unset, .unset, .unset, .unset, .unset, .unset, .unset, .unset, .unset, .unset, .unset, .unset, .unset, .unset, .unset, .unset, .unset, .unset, .unset]) rfl ?_
    show Steps p.tables e below (T200.setTop (mkF m 35 #[.val (.int p1), .val (.int p2), .val (.int p3), .val (.int p4), .val (.int p5), .val (.long ((p2 % (1000000000 : Int32)).toInt64)), .second, .val (.int ((p3 &&& (2147483647 : Int32)) % (12 : Int32))), .val (.int ((1 : Int32) + (((p3 &&& (2147483647 : Int32)) / (12 : Int32)) % (F1 ((p2 % (1000000000 : Int32)).toInt64) ((p3 &&& (2147483647 : Int32)) % (12 : Int32)))))), .unset, .unset, .unset, .unset, .unset, .unset, .unset, .unset, .unset, .unset, .unset, .unset, .unset, .unset, .unset, .unset, .unset, .unset, .unset] [])) _
    refine XS.iloadN X200.here hx rfl (hb hby at_35) rfl ?_
    show Steps p.tables e below (T200.setTop (mkF m 36 #[.val (.int p1), .val (.int p2), .val (.int p3), .val (.int p4), .val (.int p5), .val (.long ((p2 % (1000000000 : Int32)).toInt64)), .second, .val (.int ((p3 &&& (2147483647 : Int32)) % (12 : Int32))), .val (.int ((1 : Int32) + (((p3 &&& (2147483647 : Int32)) / (12 : Int32)) % (F1 ((p2 % (1000000000 : Int32)).toInt64) ((p3 &&& (2147483647 : Int32)) % (12 : Int32)))))), .unset, .unset, .unset, .unset, .unset, .unset, .unset, .unset, .unset, .unset, .unset, .unset, .unset, .unset, .unset, .unset, .unset, .unset, .unset] [(.int p4)])) _
    refine X200.ldcInt hx hown (mvT hZ (hw _ (List.mem_of_getElem? (i := 0) rfl))) (g := (mkF m 36 #[.val (.int p1), .val (.int p2), .val (.int p3), .val (.int p4), .val (.int p5), .val (.long ((p2 % (1000000000 : Int32)).toInt64)), .second, .val (.int ((p3 &&& (2147483647 : Int32)) % (12 : Int32))), .val (.int ((1 : Int32) + (((p3 &&& (2147483647 : Int32)) / (12 : Int32)) % (F1 ((p2 % (1000000000 : Int32)).toInt64) ((p3 &&& (2147483647 : Int32)) % (12 : Int32)))))), .unset, .unset, .unset, .unset, .unset, .unset, .unset, .unset, .unset, .unset, .unset, .unset, .unset, .unset, .unset, .unset, .unset, .unset, .unset] [(.int p4)])) rfl (hb hby at_36) _ ?_
    show Steps p.tables e below (T200.setTop (mkF m 38 #[.val (.int p1), .val (.int p2), .val (.int p3), .val (.int p4), .val (.int p5), .val (.long ((p2 % (1000000000 : Int32)).toInt64)), .second, .val (.int ((p3 &&& (2147483647 : Int32)) % (12 : Int32))), .val (.int ((1 : Int32) + (((p3 &&& (2147483647 : Int32)) / (12 : Int32)) % (F1 ((p2 % (1000000000 : Int32)).toInt64) ((p3 &&& (2147483647 : Int32)) % (12 : Int32)))))), .unset, .unset, .unset, .unset, .unset, .unset, .unset, .unset, .unset, .unset, .unset, .unset, .unset, .unset, .unset, .unset, .unset, .unset, .unset] [(.int (1000000000 : Int32)), (.int p4)])) _
    refine iremM X200 hx rfl (hb hby at_38) rfl (by decide) ?_
    show Steps p.tables e below (T200.setTop (mkF m 39 #[.val (.int p1), .val (.int p2), .val (.int p3), .val (.int p4), .val (.int p5), .val (.long ((p2 % (1000000000 : Int32)).toInt64)), .second, .val (.int ((p3 &&& (2147483647 : Int32)) % (12 : Int32))), .val (.int ((1 : Int32) + (((p3 &&& (2147483647 : Int32)) / (12 : Int32)) % (F1 ((p2 % (1000000000 : Int32)).toInt64) ((p3 &&& (2147483647 : Int32)) % (12 : Int32)))))), .unset, .unset, .unset, .unset, .unset, .unset, .unset, .unset, .unset, .unset, .unset, .unset, .unset, .unset, .unset, .unset, .unset, .unset, .unset] [(.int (p4 % (1000000000 : Int32)))])) _
    refine XS.i2l X200.here hx rfl (hb hby at_39) rfl ?_
    show Steps p.tables e below (T200.setTop (mkF m 40 #[.val (.int p1), .val (.int p2), .val (.int p3), .val (.int p4), .val (.int p5), .val (.long ((p2 % (1000000000 : Int32)).toInt64)), .second, .val (.int ((p3 &&& (2147483647 : Int32)) % (12 : Int32))), .val (.int ((1 : Int32) + (((p3 &&& (2147483647 : Int32)) / (12 : Int32)) % (F1 ((p2 % (1000000000 : Int32)).toInt64) ((p3 &&& (2147483647 : Int32)) % (12 : Int32)))))), .unset, .unset, .unset, .unset, .unset, .unset, .unset, .unset, .unset, .unset, .unset, .unset, .unset, .unset, .unset, .unset, .unset, .unset, .unset] [(.long ((p4 % (1000000000 : Int32)).toInt64))])) _
    refine XS.lstore X200.here hx rfl (hb hby at_40) rfl (l' := #[.val (.int p1), .val (.int p2), .val (.int p3), .val (.int p4), .val (.int p5), .val (.long ((p2 % (1000000000 : Int32)).toInt64)), .second, .val (.int ((p3 &&& (2147483647 : Int32)) % (12 : Int32))), .val (.int ((1 : Int32) + (((p3 &&& (2147483647 : Int32)) / (12 : Int32)) % (F1 ((p2 % (1000000000 : Int32)).toInt64) ((p3 &&& (2147483647 : Int32)) % (12 : Int32)))))), .val (.long ((p4 % (1000000000 : Int32)).toInt64)), .second, .unset, .unset, .unset, .unset, .unset, .unset, .unset, .unset, .unset, .unset, .unset, .unset, .unset, .unset, .unset, .unset, .unset]) rfl ?_
    show Steps p.tables e below (T200.setTop (mkF m 42 #[.val (.int p1), .val (.int p2), .val (.int p3), .val (.int p4), .val (.int p5), .val (.long ((p2 % (1000000000 : Int32)).toInt64)), .second, .val (.int ((p3 &&& (2147483647 : Int32)) % (12 : Int32))), .val (.int ((1 : Int32) + (((p3 &&& (2147483647 : Int32)) / (12 : Int32)) % (F1 ((p2 % (1000000000 : Int32)).toInt64) ((p3 &&& (2147483647 : Int32)) % (12 : Int32)))))), .val (.long ((p4 % (1000000000 : Int32)).toInt64)), .second, .unset, .unset, .unset, .unset, .unset, .unset, .unset, .unset, .unset, .unset, .unset, .unset, .unset, .unset, .unset, .unset, .unset] [])) _
    refine XS.iload X200.here hx rfl (hb hby at_42) rfl ?_
    show Steps p.tables e below (T200.setTop (mkF m 44 #[.val (.int p1), .val (.int p2), .val (.int p3), .val (.int p4), .val (.int p5), .val (.long ((p2 % (1000000000 : Int32)).toInt64)), .second, .val (.int ((p3 &&& (2147483647 : Int32)) % (12 : Int32))), .val (.int ((1 : Int32) + (((p3 &&& (2147483647 : Int32)) / (12 : Int32)) % (F1 ((p2 % (1000000000 : Int32)).toInt64) ((p3 &&& (2147483647 : Int32)) % (12 : Int32)))))), .val (.long ((p4 % (1000000000 : Int32)).toInt64)), .second, .unset, .unset, .unset, .unset, .unset, .unset, .unset, .unset, .unset, .unset, .unset, .unset, .unset, .unset, .unset, .unset, .unset] [(.int p5)])) _
    refine X200.ldcInt hx hown (mvT hZ (hw _ (List.mem_of_getElem? (i := 1) rfl))) (g := (mkF m 44 #[.val (.int p1), .val (.int p2), .val (.int p3), .val (.int p4), .val (.int p5), .val (.long ((p2 % (1000000000 : Int32)).toInt64)), .second, .val (.int ((p3 &&& (2147483647 : Int32)) % (12 : Int32))), .val (.int ((1 : Int32) + (((p3 &&& (2147483647 : Int32)) / (12 : Int32)) % (F1 ((p2 % (1000000000 : Int32)).toInt64) ((p3 &&& (2147483647 : Int32)) % (12 : Int32)))))), .val (.long ((p4 % (1000000000 : Int32)).toInt64)), .second, .unset, .unset, .unset, .unset, .unset, .unset, .unset, .unset, .unset, .unset, .unset, .unset, .unset, .unset, .unset, .unset, .unset] [(.int p5)])) rfl (hb hby at_44) _ ?_
    show Steps p.tables e below (T200.setTop (mkF m 46 #[.val (.int p1), .val (.int p2), .val (.int p3), .val (.int p4), .val (.int p5), .val (.long ((p2 % (1000000000 : Int32)).toInt64)), .second, .val (.int ((p3 &&& (2147483647 : Int32)) % (12 : Int32))), .val (.int ((1 : Int32) + (((p3 &&& (2147483647 : Int32)) / (12 : Int32)) % (F1 ((p2 % (1000000000 : Int32)).toInt64) ((p3 &&& (2147483647 : Int32)) % (12 : Int32)))))), .val (.long ((p4 % (1000000000 : Int32)).toInt64)), .second, .unset, .unset, .unset, .unset, .unset, .unset, .unset, .unset, .unset, .unset, .unset, .unset, .unset, .unset, .unset, .unset, .unset] [(.int (2147483647 : Int32)), (.int p5)])) _
    refine XS.iand X200.here hx rfl (hb hby at_46) rfl ?_
    show Steps p.tables e below (T200.setTop (mkF m 47 #[.val (.int p1), .val (.int p2), .val (.int p3), .val (.int p4), .val (.int p5), .val (.long ((p2 % (1000000000 : Int32)).toInt64)), .second, .val (.int ((p3 &&& (2147483647 : Int32)) % (12 : Int32))), .val (.int ((1 : Int32) + (((p3 &&& (2147483647 : Int32)) / (12 : Int32)) % (F1 ((p2 % (1000000000 : Int32)).toInt64) ((p3 &&& (2147483647 : Int32)) % (12 : Int32)))))), .val (.long ((p4 % (1000000000 : Int32)).toInt64)), .second, .unset, .unset, .unset, .unset, .unset, .unset, .unset, .unset, .unset, .unset, .unset, .unset, .unset, .unset, .unset, .unset, .unset] [(.int (p5 &&& (2147483647 : Int32)))])) _
    refine XS.bipush X200.here hx rfl (hb hby at_47) ?_
    show Steps p.tables e below (T200.setTop (mkF m 49 #[.val (.int p1), .val (.int p2), .val (.int p3), .val (.int p4), .val (.int p5), .val (.long ((p2 % (1000000000 : Int32)).toInt64)), .second, .val (.int ((p3 &&& (2147483647 : Int32)) % (12 : Int32))), .val (.int ((1 : Int32) + (((p3 &&& (2147483647 : Int32)) / (12 : Int32)) % (F1 ((p2 % (1000000000 : Int32)).toInt64) ((p3 &&& (2147483647 : Int32)) % (12 : Int32)))))), .val (.long ((p4 % (1000000000 : Int32)).toInt64)), .second, .unset, .unset, .unset, .unset, .unset, .unset, .unset, .unset, .unset, .unset, .unset, .unset, .unset, .unset, .unset, .unset, .unset] [(.int (12 : Int32)), (.int (p5 &&& (2147483647 : Int32)))])) _
    refine iremM X200 hx rfl (hb hby at_49) rfl (by decide) ?_
    show Steps p.tables e below (T200.setTop (mkF m 50 #[.val (.int p1), .val (.int p2), .val (.int p3), .val (.int p4), .val (.int p5), .val (.long ((p2 % (1000000000 : Int32)).toInt64)), .second, .val (.int ((p3 &&& (2147483647 : Int32)) % (12 : Int32))), .val (.int ((1 : Int32) + (((p3 &&& (2147483647 : Int32)) / (12 : Int32)) % (F1 ((p2 % (1000000000 : Int32)).toInt64) ((p3 &&& (2147483647 : Int32)) % (12 : Int32)))))), .val (.long ((p4 % (1000000000 : Int32)).toInt64)), .second, .unset, .unset, .unset, .unset, .unset, .unset, .unset, .unset, .unset, .unset, .unset, .unset, .unset, .unset, .unset, .unset, .unset] [(.int ((p5 &&& (2147483647 : Int32)) % (12 : Int32)))])) _
    refine XS.istore X200.here hx rfl (hb hby at_50) rfl (l' := #[.val (.int p1), .val (.int p2), .val (.int p3), .val (.int p4), .val (.int p5), .val (.long ((p2 % (1000000000 : Int32)).toInt64)), .second, .val (.int ((p3 &&& (2147483647 : Int32)) % (12 : Int32))), .val (.int ((1 : Int32) + (((p3 &&& (2147483647 : Int32)) / (12 : Int32)) % (F1 ((p2 % (1000000000 : Int32)).toInt64) ((p3 &&& (2147483647 : Int32)) % (12 : Int32)))))), .val (.long ((p4 % (1000000000 : Int32)).toInt64)), .second, .val (.int ((p5 &&& (2147483647 : Int32)) % (12 : Int32))), .unset, .unset, .unset, .unset, .unset, .unset, .unset, .unset, .unset, .unset, .unset, .unset, .unset, .unset, .unset, .unset]) rfl ?_
    show Steps p.tables e below (T200.setTop (mkF m 52 #[.val (.int p1), .val (.int p2), .val (.int p3), .val (.int p4), .val (.int p5), .val (.long ((p2 % (1000000000 : Int32)).toInt64)), .second, .val (.int ((p3 &&& (2147483647 : Int32)) % (12 : Int32))), .val (.int ((1 : Int32) + (((p3 &&& (2147483647 : Int32)) / (12 : Int32)) % (F1 ((p2 % (1000000000 : Int32)).toInt64) ((p3 &&& (2147483647 : Int32)) % (12 : Int32)))))), .val (.long ((p4 % (1000000000 : Int32)).toInt64)), .second, .val (.int ((p5 &&& (2147483647 : Int32)) % (12 : Int32))), .unset, .unset, .unset, .unset, .unset, .unset, .unset, .unset, .unset, .unset, .unset, .unset, .unset, .unset, .unset, .unset] [])) _
    refine XS.iconst X200.here hx rfl (hb hby at_52) ?_
    show Steps p.tables e below (T200.setTop (mkF m 53 #[.val (.int p1), .val (.int p2), .val (.int p3), .val (.int p4), .val (.int p5), .val (.long ((p2 % (1000000000 : Int32)).toInt64)), .second, .val (.int ((p3 &&& (2147483647 : Int32)) % (12 : Int32))), .val (.int ((1 : Int32) + (((p3 &&& (2147483647 : Int32)) / (12 : Int32)) % (F1 ((p2 % (1000000000 : Int32)).toInt64) ((p3 &&& (2147483647 : Int32)) % (12 : Int32)))))), .val (.long ((p4 % (1000000000 : Int32)).toInt64)), .second, .val (.int ((p5 &&& (2147483647 : Int32)) % (12 : Int32))), .unset, .unset, .unset, .unset, .unset, .unset, .unset, .unset, .unset, .unset, .unset, .unset, .unset, .unset, .unset, .unset] [(.int (1 : Int32))])) _
    refine XS.iload X200.here hx rfl (hb hby at_53) rfl ?_
    show Steps p.tables e below (T200.setTop (mkF m 55 #[.val (.int p1), .val (.int p2), .val (.int p3), .val (.int p4), .val (.int p5), .val (.long ((p2 % (1000000000 : Int32)).toInt64)), .second, .val (.int ((p3 &&& (2147483647 : Int32)) % (12 : Int32))), .val (.int ((1 : Int32) + (((p3 &&& (2147483647 : Int32)) / (12 : Int32)) % (F1 ((p2 % (1000000000 : Int32)).toInt64) ((p3 &&& (2147483647 : Int32)) % (12 : Int32)))))), .val (.long ((p4 % (1000000000 : Int32)).toInt64)), .second, .val (.int ((p5 &&& (2147483647 : Int32)) % (12 : Int32))), .unset, .unset, .unset, .unset, .unset, .unset, .unset, .unset, .unset, .unset, .unset, .unset, .unset, .unset, .unset, .unset] [(.int p5), (.int (1 : Int32))])) _
    refine X200.ldcInt hx hown (mvT hZ (hw _ (List.mem_of_getElem? (i := 1) rfl))) (g := (mkF m 55 #[.val (.int p1), .val (.int p2), .val (.int p3), .val (.int p4), .val (.int p5), .val (.long ((p2 % (1000000000 : Int32)).toInt64)), .second, .val (.int ((p3 &&& (2147483647 : Int32)) % (12 : Int32))), .val (.int ((1 : Int32) + (((p3 &&& (2147483647 : Int32)) / (12 : Int32)) % (F1 ((p2 % (1000000000 : Int32)).toInt64) ((p3 &&& (2147483647 : Int32)) % (12 : Int32)))))), .val (.long ((p4 % (1000000000 : Int32)).toInt64)), .second, .val (.int ((p5 &&& (2147483647 : Int32)) % (12 : Int32))), .unset, .unset, .unset, .unset, .unset, .unset, .unset, .unset, .unset, .unset, .unset, .unset, .unset, .unset, .unset, .unset] [(.int p5), (.int (1 : Int32))])) rfl (hb hby at_55) _ ?_
    show Steps p.tables e below (T200.setTop (mkF m 57 #[.val (.int p1), .val (.int p2), .val (.int p3), .val (.int p4), .val (.int p5), .val (.long ((p2 % (1000000000 : Int32)).toInt64)), .second, .val (.int ((p3 &&& (2147483647 : Int32)) % (12 : Int32))), .val (.int ((1 : Int32) + (((p3 &&& (2147483647 : Int32)) / (12 : Int32)) % (F1 ((p2 % (1000000000 : Int32)).toInt64) ((p3 &&& (2147483647 : Int32)) % (12 : Int32)))))), .val (.long ((p4 % (1000000000 : Int32)).toInt64)), .second, .val (.int ((p5 &&& (2147483647 : Int32)) % (12 : Int32))), .unset, .unset, .unset, .unset, .unset, .unset, .unset, .unset, .unset, .unset, .unset, .unset, .unset, .unset, .unset, .unset] [(.int (2147483647 : Int32)), (.int p5), (.int (1 : Int32))])) _
    refine XS.iand X200.here hx rfl (hb hby at_57) rfl ?_
    show Steps p.tables e below (T200.setTop (mkF m 58 #[.val (.int p1), .val (.int p2), .val (.int p3), .val (.int p4), .val (.int p5), .val (.long ((p2 % (1000000000 : Int32)).toInt64)), .second, .val (.int ((p3 &&& (2147483647 : Int32)) % (12 : Int32))), .val (.int ((1 : Int32) + (((p3 &&& (2147483647 : Int32)) / (12 : Int32)) % (F1 ((p2 % (1000000000 : Int32)).toInt64) ((p3 &&& (2147483647 : Int32)) % (12 : Int32)))))), .val (.long ((p4 % (1000000000 : Int32)).toInt64)), .second, .val (.int ((p5 &&& (2147483647 : Int32)) % (12 : Int32))), .unset, .unset, .unset, .unset, .unset, .unset, .unset, .unset, .unset, .unset, .unset, .unset, .unset, .unset, .unset, .unset] [(.int (p5 &&& (2147483647 : Int32))), (.int (1 : Int32))])) _
    refine XS.bipush X200.here hx rfl (hb hby at_58) ?_
    show Steps p.tables e below (T200.setTop (mkF m 60 #[.val (.int p1), .val (.int p2), .val (.int p3), .val (.int p4), .val (.int p5), .val (.long ((p2 % (1000000000 : Int32)).toInt64)), .second, .val (.int ((p3 &&& (2147483647 : Int32)) % (12 : Int32))), .val (.int ((1 : Int32) + (((p3 &&& (2147483647 : Int32)) / (12 : Int32)) % (F1 ((p2 % (1000000000 : Int32)).toInt64) ((p3 &&& (2147483647 : Int32)) % (12 : Int32)))))), .val (.long ((p4 % (1000000000 : Int32)).toInt64)), .second, .val (.int ((p5 &&& (2147483647 : Int32)) % (12 : Int32))), .unset, .unset, .unset, .unset, .unset, .unset, .unset, .unset, .unset, .unset, .unset, .unset, .unset, .unset, .unset, .unset] [(.int (12 : Int32)), (.int (p5 &&& (2147483647 : Int32))), (.int (1 : Int32))])) _
    refine XS.idiv X200.here hx rfl (hb hby at_60) rfl (by decide) ?_
    show Steps p.tables e below (T200.setTop (mkF m 61 #[.val (.int p1), .val (.int p2), .val (.int p3), .val (.int p4), .val (.int p5), .val (.long ((p2 % (1000000000 : Int32)).toInt64)), .second, .val (.int ((p3 &&& (2147483647 : Int32)) % (12 : Int32))), .val (.int ((1 : Int32) + (((p3 &&& (2147483647 : Int32)) / (12 : Int32)) % (F1 ((p2 % (1000000000 : Int32)).toInt64) ((p3 &&& (2147483647 : Int32)) % (12 : Int32)))))), .val (.long ((p4 % (1000000000 : Int32)).toInt64)), .second, .val (.int ((p5 &&& (2147483647 : Int32)) % (12 : Int32))), .unset, .unset, .unset, .unset, .unset, .unset, .unset, .unset, .unset, .unset, .unset, .unset, .unset, .unset, .unset, .unset] [(.int ((p5 &&& (2147483647 : Int32)) / (12 : Int32))), (.int (1 : Int32))])) _
    refine XS.lload X200.here hx rfl (hb hby at_61) rfl ?_
    show Steps p.tables e below (T200.setTop (mkF m 63 #[.val (.int p1), .val (.int p2), .val (.int p3), .val (.int p4), .val (.int p5), .val (.long ((p2 % (1000000000 : Int32)).toInt64)), .second, .val (.int ((p3 &&& (2147483647 : Int32)) % (12 : Int32))), .val (.int ((1 : Int32) + (((p3 &&& (2147483647 : Int32)) / (12 : Int32)) % (F1 ((p2 % (1000000000 : Int32)).toInt64) ((p3 &&& (2147483647 : Int32)) % (12 : Int32)))))), .val (.long ((p4 % (1000000000 : Int32)).toInt64)), .second, .val (.int ((p5 &&& (2147483647 : Int32)) % (12 : Int32))), .unset, .unset, .unset, .unset, .unset, .unset, .unset, .unset, .unset, .unset, .unset, .unset, .unset, .unset, .unset, .unset] [(.long ((p4 % (1000000000 : Int32)).toInt64)), (.int ((p5 &&& (2147483647 : Int32)) / (12 : Int32))), (.int (1 : Int32))])) _
    refine XS.iload X200.here hx rfl (hb hby at_63) rfl ?_
    exact k
  obtain ⟨_, _, ⟨T203, L203, k203, n203⟩, -, X203, ⟨Lc203, hQ203, l203, y203, z203⟩, st203⟩ := Jvm.LawKit.callS X200 hx (y := (⟨"com/example/notesmith/notesmith/calc/AccrualDaysPinLaw", "monthLength", "(JI)I"⟩ : MethodName)) hown (mvT hZ (hw _ (List.mem_of_getElem? (i := 2) rfl))) (mvT hZ (hw _ (List.mem_of_getElem? (i := 3) rfl))) (mvT hZ (hw _ (List.mem_of_getElem? (i := 4) rfl))) (mvT hZ (hw _ (List.mem_of_getElem? (i := 5) rfl))) (by decide) (backOf (W := 2) (rm1 l Z a0 hw [] ((p4 % (1000000000 : Int32)).toInt64) ((p5 &&& (2147483647 : Int32)) % (12 : Int32)) h0 n0 Z0 ) hZ (hw _ (List.mem_of_getElem? (i := 5) rfl)) (hw _ (List.mem_of_getElem? (i := 4) rfl)) (by decide) (by decide)) (g := (mkF m 65 #[.val (.int p1), .val (.int p2), .val (.int p3), .val (.int p4), .val (.int p5), .val (.long ((p2 % (1000000000 : Int32)).toInt64)), .second, .val (.int ((p3 &&& (2147483647 : Int32)) % (12 : Int32))), .val (.int ((1 : Int32) + (((p3 &&& (2147483647 : Int32)) / (12 : Int32)) % (F1 ((p2 % (1000000000 : Int32)).toInt64) ((p3 &&& (2147483647 : Int32)) % (12 : Int32)))))), .val (.long ((p4 % (1000000000 : Int32)).toInt64)), .second, .val (.int ((p5 &&& (2147483647 : Int32)) % (12 : Int32))), .unset, .unset, .unset, .unset, .unset, .unset, .unset, .unset, .unset, .unset, .unset, .unset, .unset, .unset, .unset, .unset] [(.int ((p5 &&& (2147483647 : Int32)) % (12 : Int32))), (.long ((p4 % (1000000000 : Int32)).toInt64)), (.int ((p5 &&& (2147483647 : Int32)) / (12 : Int32))), (.int (1 : Int32))])) rfl (by rw [hml]; rfl) (argsL := [(.long ((p4 % (1000000000 : Int32)).toInt64)), (.int ((p5 &&& (2147483647 : Int32)) % (12 : Int32)))]) (rest := [(.int ((p5 &&& (2147483647 : Int32)) / (12 : Int32))), (.int (1 : Int32))]) (lenOf pd__JI_I rfl) rfl (by show 2 * 0 + _ ≤ _; exact Nat.le_of_eq rfl) (hb hby at_65) (fun _ _ => ⟨rfl, e200, (by decide : 0 + 0 ≤ _), (by decide : 0 + 0 ≤ _)⟩)
  dsimp only [Pt.U, Pt.locs, Pt.cells, Pt.slots] at X203 l203 y203 z203 st203 hQ203
  subst l203 y203 z203
  obtain ⟨rfl, N203q, e203⟩ := hQ203
  have N203 := Fr.app N200 N203q
  have pre204 : ∀ t, Steps p.tables e below (T203.setTop (mkF m 68 #[.val (.int p1), .val (.int p2), .val (.int p3), .val (.int p4), .val (.int p5), .val (.long ((p2 % (1000000000 : Int32)).toInt64)), .second, .val (.int ((p3 &&& (2147483647 : Int32)) % (12 : Int32))), .val (.int ((1 : Int32) + (((p3 &&& (2147483647 : Int32)) / (12 : Int32)) % (F1 ((p2 % (1000000000 : Int32)).toInt64) ((p3 &&& (2147483647 : Int32)) % (12 : Int32)))))), .val (.long ((p4 % (1000000000 : Int32)).toInt64)), .second, .val (.int ((p5 &&& (2147483647 : Int32)) % (12 : Int32))), .unset, .unset, .unset, .unset, .unset, .unset, .unset, .unset, .unset, .unset, .unset, .unset, .unset, .unset, .unset, .unset] [(.int (F1 ((p4 % (1000000000 : Int32)).toInt64) ((p5 &&& (2147483647 : Int32)) % (12 : Int32)))), (.int ((p5 &&& (2147483647 : Int32)) / (12 : Int32))), (.int (1 : Int32))])) t → Steps p.tables e below (s₁.setTop (entryFrame m #[(.int p1), (.int p2), (.int p3), (.int p4), (.int p5)] maxLocals)) t := by
    intro t k
    refine pre202 _ ?_
    show Steps p.tables e below (T200.setTop (mkF m 65 #[.val (.int p1), .val (.int p2), .val (.int p3), .val (.int p4), .val (.int p5), .val (.long ((p2 % (1000000000 : Int32)).toInt64)), .second, .val (.int ((p3 &&& (2147483647 : Int32)) % (12 : Int32))), .val (.int ((1 : Int32) + (((p3 &&& (2147483647 : Int32)) / (12 : Int32)) % (F1 ((p2 % (1000000000 : Int32)).toInt64) ((p3 &&& (2147483647 : Int32)) % (12 : Int32)))))), .val (.long ((p4 % (1000000000 : Int32)).toInt64)), .second, .val (.int ((p5 &&& (2147483647 : Int32)) % (12 : Int32))), .unset, .unset, .unset, .unset, .unset, .unset, .unset, .unset, .unset, .unset, .unset, .unset, .unset, .unset, .unset, .unset] [(.int ((p5 &&& (2147483647 : Int32)) % (12 : Int32))), (.long ((p4 % (1000000000 : Int32)).toInt64)), (.int ((p5 &&& (2147483647 : Int32)) / (12 : Int32))), (.int (1 : Int32))])) _
    refine st203 _ ?_
    exact k
  have pre205 : ∀ t, Steps p.tables e below (T203.setTop (mkF m 72 #[.val (.int p1), .val (.int p2), .val (.int p3), .val (.int p4), .val (.int p5), .val (.long ((p2 % (1000000000 : Int32)).toInt64)), .second, .val (.int ((p3 &&& (2147483647 : Int32)) % (12 : Int32))), .val (.int ((1 : Int32) + (((p3 &&& (2147483647 : Int32)) / (12 : Int32)) % (F1 ((p2 % (1000000000 : Int32)).toInt64) ((p3 &&& (2147483647 : Int32)) % (12 : Int32)))))), .val (.long ((p4 % (1000000000 : Int32)).toInt64)), .second, .val (.int ((p5 &&& (2147483647 : Int32)) % (12 : Int32))), .val (.int ((1 : Int32) + (((p5 &&& (2147483647 : Int32)) / (12 : Int32)) % (F1 ((p4 % (1000000000 : Int32)).toInt64) ((p5 &&& (2147483647 : Int32)) % (12 : Int32)))))), .unset, .unset, .unset, .unset, .unset, .unset, .unset, .unset, .unset, .unset, .unset, .unset, .unset, .unset, .unset] [])) t → Steps p.tables e below (s₁.setTop (entryFrame m #[(.int p1), (.int p2), (.int p3), (.int p4), (.int p5)] maxLocals)) t := by
    intro t k
    refine pre204 _ ?_
    show Steps p.tables e below (T203.setTop (mkF m 68 #[.val (.int p1), .val (.int p2), .val (.int p3), .val (.int p4), .val (.int p5), .val (.long ((p2 % (1000000000 : Int32)).toInt64)), .second, .val (.int ((p3 &&& (2147483647 : Int32)) % (12 : Int32))), .val (.int ((1 : Int32) + (((p3 &&& (2147483647 : Int32)) / (12 : Int32)) % (F1 ((p2 % (1000000000 : Int32)).toInt64) ((p3 &&& (2147483647 : Int32)) % (12 : Int32)))))), .val (.long ((p4 % (1000000000 : Int32)).toInt64)), .second, .val (.int ((p5 &&& (2147483647 : Int32)) % (12 : Int32))), .unset, .unset, .unset, .unset, .unset, .unset, .unset, .unset, .unset, .unset, .unset, .unset, .unset, .unset, .unset, .unset] [(.int (F1 ((p4 % (1000000000 : Int32)).toInt64) ((p5 &&& (2147483647 : Int32)) % (12 : Int32)))), (.int ((p5 &&& (2147483647 : Int32)) / (12 : Int32))), (.int (1 : Int32))])) _
    refine iremM X203 hx rfl (hb hby at_68) rfl (own_ml _ _) ?_
    show Steps p.tables e below (T203.setTop (mkF m 69 #[.val (.int p1), .val (.int p2), .val (.int p3), .val (.int p4), .val (.int p5), .val (.long ((p2 % (1000000000 : Int32)).toInt64)), .second, .val (.int ((p3 &&& (2147483647 : Int32)) % (12 : Int32))), .val (.int ((1 : Int32) + (((p3 &&& (2147483647 : Int32)) / (12 : Int32)) % (F1 ((p2 % (1000000000 : Int32)).toInt64) ((p3 &&& (2147483647 : Int32)) % (12 : Int32)))))), .val (.long ((p4 % (1000000000 : Int32)).toInt64)), .second, .val (.int ((p5 &&& (2147483647 : Int32)) % (12 : Int32))), .unset, .unset, .unset, .unset, .unset, .unset, .unset, .unset, .unset, .unset, .unset, .unset, .unset, .unset, .unset, .unset] [(.int (((p5 &&& (2147483647 : Int32)) / (12 : Int32)) % (F1 ((p4 % (1000000000 : Int32)).toInt64) ((p5 &&& (2147483647 : Int32)) % (12 : Int32))))), (.int (1 : Int32))])) _
    refine XS.iadd X203.here hx rfl (hb hby at_69) rfl ?_
    show Steps p.tables e below (T203.setTop (mkF m 70 #[.val (.int p1), .val (.int p2), .val (.int p3), .val (.int p4), .val (.int p5), .val (.long ((p2 % (1000000000 : Int32)).toInt64)), .second, .val (.int ((p3 &&& (2147483647 : Int32)) % (12 : Int32))), .val (.int ((1 : Int32) + (((p3 &&& (2147483647 : Int32)) / (12 : Int32)) % (F1 ((p2 % (1000000000 : Int32)).toInt64) ((p3 &&& (2147483647 : Int32)) % (12 : Int32)))))), .val (.long ((p4 % (1000000000 : Int32)).toInt64)), .second, .val (.int ((p5 &&& (2147483647 : Int32)) % (12 : Int32))), .unset, .unset, .unset, .unset, .unset, .unset, .unset, .unset, .unset, .unset, .unset, .unset, .unset, .unset, .unset, .unset] [(.int ((1 : Int32) + (((p5 &&& (2147483647 : Int32)) / (12 : Int32)) % (F1 ((p4 % (1000000000 : Int32)).toInt64) ((p5 &&& (2147483647 : Int32)) % (12 : Int32))))))])) _
    refine XS.istore X203.here hx rfl (hb hby at_70) rfl (l' := #[.val (.int p1), .val (.int p2), .val (.int p3), .val (.int p4), .val (.int p5), .val (.long ((p2 % (1000000000 : Int32)).toInt64)), .second, .val (.int ((p3 &&& (2147483647 : Int32)) % (12 : Int32))), .val (.int ((1 : Int32) + (((p3 &&& (2147483647 : Int32)) / (12 : Int32)) % (F1 ((p2 % (1000000000 : Int32)).toInt64) ((p3 &&& (2147483647 : Int32)) % (12 : Int32)))))), .val (.long ((p4 % (1000000000 : Int32)).toInt64)), .second, .val (.int ((p5 &&& (2147483647 : Int32)) % (12 : Int32))), .val (.int ((1 : Int32) + (((p5 &&& (2147483647 : Int32)) / (12 : Int32)) % (F1 ((p4 % (1000000000 : Int32)).toInt64) ((p5 &&& (2147483647 : Int32)) % (12 : Int32)))))), .unset, .unset, .unset, .unset, .unset, .unset, .unset, .unset, .unset, .unset, .unset, .unset, .unset, .unset, .unset]) rfl ?_
    exact k
  obtain ⟨s₂, o, st330, g1, g2, v, L, ho, ⟨hv, hN, hh330⟩, hfe⟩ := pc0_72_0 p1 p2 p3 p4 p5 ((p2 % (1000000000 : Int32)).toInt64) ((p3 &&& (2147483647 : Int32)) % (12 : Int32)) ((1 : Int32) + (((p3 &&& (2147483647 : Int32)) / (12 : Int32)) % (F1 ((p2 % (1000000000 : Int32)).toInt64) ((p3 &&& (2147483647 : Int32)) % (12 : Int32))))) ((p4 % (1000000000 : Int32)).toInt64) ((p5 &&& (2147483647 : Int32)) % (12 : Int32)) ((1 : Int32) + (((p5 &&& (2147483647 : Int32)) / (12 : Int32)) % (F1 ((p4 % (1000000000 : Int32)).toInt64) ((p5 &&& (2147483647 : Int32)) % (12 : Int32))))) cl_wS cl_wD wT wA wS wI wD X203 hx hZ hw hby hml hown hret hlocks e203 N203 Z0 E_wT E_wA Ford_T Ford_A Ar_wS el_0 el_1 E_wI Ar_wD hD S_wT S_wA S_wS S_wI S_wD
  exact ⟨s₂, o, pre205 _ st330, g1, g2, v, L, ho, ⟨(by rw [F0]; exact hv), hN, hh330⟩, hfe⟩
def own_lp (Y : Int) : Int := if Y % 4 = 0 then (if Y % 100 = 0 then (if Y % 400 = 0 then 1 else 0) else 1) else 0
theorem own_rem0 (q d : Int64) (n : Int) (hd : d.toInt = n) (hn : 0 < n) : (q - q / d * d = 0) ↔ q.toInt % n = 0 := by
  have rv := c_lrem q d n hd
  have n0 : (0 : Int64).toInt = 0 := by decide
  rw [← Int64.toInt_inj, n0]
  by_cases h : q.toInt < 0
  · rw [rv.2 h]
    have a : (-q.toInt) % n = 0 ↔ q.toInt % n = 0 := by rw [← Int.dvd_iff_emod_eq_zero, ← Int.dvd_iff_emod_eq_zero, Int.dvd_neg]
    constructor
    · intro z; exact a.mp (by omega)
    · intro z; have := a.mpr z; omega
  · rw [rv.1 (by omega)]
theorem own_F9 (q : Int64) : (F9 q).toInt = own_lp q.toInt ∧ (F9 q = 0 ↔ own_lp q.toInt = 0) := by
  have m3 := c_maskL q 3 2 (by decide) (by decide)
  have p2 : ((2 ^ 2 : Nat) : Int) = 4 := by decide
  rw [p2] at m3
  have a : (q &&& 3 = 0) ↔ q.toInt % 4 = 0 := by rw [← Int64.toInt_inj, m3]; exact Iff.rfl
  have b := own_rem0 q 100 100 (by decide) (by decide)
  have c := own_rem0 q 400 400 (by decide) (by decide)
  unfold F9 own_lp
  simp only [lw_eq, a, b, c]
  by_cases h4 : q.toInt % 4 = 0 <;> by_cases h1 : q.toInt % 100 = 0 <;> by_cases h2 : q.toInt % 400 = 0 <;> simp [h4, h1, h2]
theorem own_F12 (q : Int64) : (F12 q = 0 ↔ own_lp q.toInt = 0) := by
  have a := own_rem0 q 4 4 (by decide) (by decide)
  have b := own_rem0 q 100 100 (by decide) (by decide)
  have c := own_rem0 q 400 400 (by decide) (by decide)
  unfold F12 own_lp
  simp only [lw_eq, a, b, c]
  by_cases h4 : q.toInt % 4 = 0 <;> by_cases h1 : q.toInt % 100 = 0 <;> by_cases h2 : q.toInt % 400 = 0 <;> simp [h4, h1, h2]
theorem own_F1 (q : Int64) (p : Int32) : 28 ≤ (F1 q p).toInt ∧ (F1 q p).toInt ≤ 31 := by
  unfold F1
  repeat' split
  all_goals decide
def own_D (M : Int) : Int := if M = 0 then 0 else if M = 1 then 31 else if M = 2 then 59 else if M = 3 then 90 else if M = 4 then 120 else if M = 5 then 151 else if M = 6 then 181 else if M = 7 then 212 else if M = 8 then 243 else if M = 9 then 273 else if M = 10 then 304 else 334
theorem own_dbmv (j : Int32) : (own_dbm j).toInt = own_D j.toInt := by
  by_cases h0 : j = 0
  · subst h0; decide
  have t0 : ¬ j.toInt = 0 := fun z => h0 (Int32.toInt_inj.mp z)
  by_cases h1 : j = 1
  · subst h1; decide
  have t1 : ¬ j.toInt = 1 := fun z => h1 (Int32.toInt_inj.mp z)
  by_cases h2 : j = 2
  · subst h2; decide
  have t2 : ¬ j.toInt = 2 := fun z => h2 (Int32.toInt_inj.mp z)
  by_cases h3 : j = 3
  · subst h3; decide
  have t3 : ¬ j.toInt = 3 := fun z => h3 (Int32.toInt_inj.mp z)
  by_cases h4 : j = 4
  · subst h4; decide
  have t4 : ¬ j.toInt = 4 := fun z => h4 (Int32.toInt_inj.mp z)
  by_cases h5 : j = 5
  · subst h5; decide
  have t5 : ¬ j.toInt = 5 := fun z => h5 (Int32.toInt_inj.mp z)
  by_cases h6 : j = 6
  · subst h6; decide
  have t6 : ¬ j.toInt = 6 := fun z => h6 (Int32.toInt_inj.mp z)
  by_cases h7 : j = 7
  · subst h7; decide
  have t7 : ¬ j.toInt = 7 := fun z => h7 (Int32.toInt_inj.mp z)
  by_cases h8 : j = 8
  · subst h8; decide
  have t8 : ¬ j.toInt = 8 := fun z => h8 (Int32.toInt_inj.mp z)
  by_cases h9 : j = 9
  · subst h9; decide
  have t9 : ¬ j.toInt = 9 := fun z => h9 (Int32.toInt_inj.mp z)
  by_cases h10 : j = 10
  · subst h10; decide
  have t10 : ¬ j.toInt = 10 := fun z => h10 (Int32.toInt_inj.mp z)
  unfold own_dbm own_D
  rw [if_neg h0, if_neg h1, if_neg h2, if_neg h3, if_neg h4, if_neg h5, if_neg h6, if_neg h7, if_neg h8, if_neg h9, if_neg h10]
  rw [if_neg t0, if_neg t1, if_neg t2, if_neg t3, if_neg t4, if_neg t5, if_neg t6, if_neg t7, if_neg t8, if_neg t9, if_neg t10]
  rfl
theorem own_Dr (M : Int) : 0 ≤ own_D M ∧ own_D M ≤ 334 := by
  unfold own_D
  repeat' split
  all_goals decide
/-- a day's number -/
theorem own_dn (q : Int64) (p : Int32) (Y M : Int) (hq : q.toInt = 12 * Y + M) (hM : 0 ≤ M ∧ M < 12) (hY : -1000000000 ≤ Y ∧ Y ≤ 1000000000) (hp : 1 ≤ p.toInt ∧ p.toInt ≤ 31) :
    (F4 q p).toInt = 365 * Y + ((Y + 3) / 4 - (Y + 99) / 100 + (Y + 399) / 400) + own_D M + (if 1 < M then own_lp Y else 0) + p.toInt - 1 := by
  have ey : (F5 q (12 : Int32)).toInt = Y := by rw [own_fd12]; omega
  have em : (F7 q (12 : Int32)).toInt = M := by rw [own_fmv]; omega
  unfold F4
  generalize F5 q (12 : Int32) = y at *
  generalize F7 q (12 : Int32) = m at *
  have k3 : (3 : Int64).toInt = 3 := by decide
  have k99 : (99 : Int64).toInt = 99 := by decide
  have k399 : (399 : Int64).toInt = 399 := by decide
  have k365 : (365 : Int64).toInt = 365 := by decide
  have k1 : (1 : Int64).toInt = 1 := by decide
  have a1 : (y + 3).toInt = Y + 3 := by rw [own_add (by rw [ey, k3]; omega), ey, k3]
  have a2 : (y + 99).toInt = Y + 99 := by rw [own_add (by rw [ey, k99]; omega), ey, k99]
  have a3 : (y + 399).toInt = Y + 399 := by rw [own_add (by rw [ey, k399]; omega), ey, k399]
  have b1 : (F5 (y + 3) (4 : Int32)).toInt = (Y + 3) / 4 := by rw [own_fd4, a1]
  have b2 : (F5 (y + 99) (100 : Int32)).toInt = (Y + 99) / 100 := by rw [own_fd100, a2]
  have b3 : (F5 (y + 399) (400 : Int32)).toInt = (Y + 399) / 400 := by rw [own_fd400, a3]
  generalize F5 (y + 3) (4 : Int32) = z1 at *
  generalize F5 (y + 99) (100 : Int32) = z2 at *
  generalize F5 (y + 399) (400 : Int32) = z3 at *
  have c1 : (z1 - z2).toInt = (Y + 3) / 4 - (Y + 99) / 100 := by rw [own_sub (by rw [b1, b2]; omega), b1, b2]
  have c2 : (z1 - z2 + z3).toInt = (Y + 3) / 4 - (Y + 99) / 100 + (Y + 399) / 400 := by rw [own_add (by rw [c1, b3]; omega), c1, b3]
  have c3 : ((365 : Int64) * y).toInt = 365 * Y := by rw [own_cmul k365 (by rw [ey]; omega), ey]
  have c4 : ((365 : Int64) * y + (z1 - z2 + z3)).toInt = 365 * Y + ((Y + 3) / 4 - (Y + 99) / 100 + (Y + 399) / 400) := by rw [own_add (by rw [c3, c2]; omega), c3, c2]
  have e1 : ((own_dbm m).toInt64).toInt = own_D M := by rw [c_i2l, own_dbmv, em]
  have eD := own_Dr M
  have f9 := own_F9 y
  rw [ey] at f9
  have ep : (p.toInt64).toInt = p.toInt := c_i2l p
  generalize (365 : Int64) * y + (z1 - z2 + z3) = s at *
  generalize (own_dbm m).toInt64 = d at *
  generalize p.toInt64 = pp at *
  have c5 : (s + d).toInt = 365 * Y + ((Y + 3) / 4 - (Y + 99) / 100 + (Y + 399) / 400) + own_D M := by rw [own_add (by rw [c4, e1]; omega), c4, e1]
  have fin : ∀ (l : Int64) (L : Int), l.toInt = L → 0 ≤ L → L ≤ 1 → (s + d + l + pp - 1).toInt = 365 * Y + ((Y + 3) / 4 - (Y + 99) / 100 + (Y + 399) / 400) + own_D M + L + p.toInt - 1 := by
    intro l L hl h0 h1
    have c6 : (s + d + l).toInt = 365 * Y + ((Y + 3) / 4 - (Y + 99) / 100 + (Y + 399) / 400) + own_D M + L := by rw [own_add (by rw [c5, hl]; omega), c5, hl]
    have c7 : (s + d + l + pp).toInt = 365 * Y + ((Y + 3) / 4 - (Y + 99) / 100 + (Y + 399) / 400) + own_D M + L + p.toInt := by rw [own_add (by rw [c6, ep]; omega), c6, ep]
    rw [own_sub (by rw [c7, k1]; omega), c7, k1]
  have n1 : (1 : Int32).toInt = 1 := rfl
  have t0 : ((0 : Int32).toInt64).toInt = 0 := by decide
  have t1 : ((1 : Int32).toInt64).toInt = 1 := by decide
  by_cases h : 1 < M
  · have hm : (1 : Int32) < m := by rw [Int32.lt_iff_toInt_lt, n1, em]; exact h
    rw [if_pos hm, if_pos h]
    by_cases h9 : F9 y = 0
    · rw [if_pos h9, fin _ 0 t0 (by decide) (by decide), (f9.2.mp h9)]
    · rw [if_neg h9]
      have : own_lp Y = 1 := by
        have q := fun z => h9 (f9.2.mpr z)
        revert q
        unfold own_lp
        repeat' split
        all_goals simp
      rw [fin _ 1 t1 (by decide) (by decide), this]
  · have hm : ¬ (1 : Int32) < m := by rw [Int32.lt_iff_toInt_lt, n1, em]; exact h
    rw [if_neg hm, if_neg h, fin _ 0 t0 (by decide) (by decide)]
/-- the civil count -/
theorem own_cv (i2 i3 : Int32) (y era : Int64) (Y : Int) (hy : y.toInt = Y) (he : era.toInt = Y / 400) (hY : -1000000001 ≤ Y ∧ Y ≤ 1000000001) (h2 : 1 ≤ i2.toInt ∧ i2.toInt ≤ 12) (h3 : 1 ≤ i3.toInt ∧ i3.toInt ≤ 31) :
    (F10_39_0 i2 i3 y era).toInt = 365 * Y + Y / 4 - Y / 100 + Y / 400 + (153 * ((i2.toInt + 9) % 12) + 2) / 5 + i3.toInt - 1 := by
  unfold F10_39_0
  have k400 : (400 : Int64).toInt = 400 := by decide
  have k365 : (365 : Int64).toInt = 365 := by decide
  have k153 : (153 : Int64).toInt = 153 := by decide
  have k146 : (146097 : Int64).toInt = 146097 := by decide
  have k1 : (1 : Int64).toInt = 1 := by decide
  have k2 : (2 : Int64).toInt = 2 := by decide
  have a1 : (era * 400).toInt = Y / 400 * 400 := by rw [own_mulc k400 (by rw [he]; omega), he]
  have a2 : (y - era * 400).toInt = Y - Y / 400 * 400 := by rw [own_sub (by rw [hy, a1]; omega), hy, a1]
  generalize y - era * 400 = o at *
  have b1 := (c_ldiv o 4 4 (by decide) (by decide)).1 (by omega)
  have b2 := (c_ldiv o 100 100 (by decide) (by decide)).1 (by omega)
  have a3 : (o * 365).toInt = (Y - Y / 400 * 400) * 365 := by rw [own_mulc k365 (by rw [a2]; omega), a2]
  generalize o / 4 = o4 at *
  generalize o / 100 = o100 at *
  generalize o * 365 = o365 at *
  have a4 : (o365 + o4).toInt = (Y - Y / 400 * 400) * 365 + (Y - Y / 400 * 400) / 4 := by rw [own_add (by rw [a3, b1, a2]; omega), a3, b1, a2]
  have a5 : (o365 + o4 - o100).toInt = (Y - Y / 400 * 400) * 365 + (Y - Y / 400 * 400) / 4 - (Y - Y / 400 * 400) / 100 := by rw [own_sub (by rw [a4, b2, a2]; omega), a4, b2, a2]
  generalize o365 + o4 - o100 = w at *
  have n9 : (9 : Int32).toInt = 9 := rfl
  have i9 : (i2 + 9).toInt = i2.toInt + 9 := by have a := c_iadd i2 9; have b := rng32 (i2 + 9); rw [n9] at a; omega
  have i12 : ((i2 + 9) % 12).toInt = (i2.toInt + 9) % 12 := by rw [(c_irem (i2 + 9) 12 12 rfl).1 (by omega), i9]
  have m1 : (((i2 + 9) % 12).toInt64).toInt = (i2.toInt + 9) % 12 := by rw [c_i2l, i12]
  generalize ((i2 + 9) % 12).toInt64 = mp at *
  have m2 : ((153 : Int64) * mp).toInt = 153 * ((i2.toInt + 9) % 12) := by rw [own_cmul k153 (by rw [m1]; omega), m1]
  have m3 : ((153 : Int64) * mp + 2).toInt = 153 * ((i2.toInt + 9) % 12) + 2 := by rw [own_add (by rw [m2, k2]; omega), m2, k2]
  have m4 := (c_ldiv ((153 : Int64) * mp + 2) 5 5 (by decide) (by decide)).1 (by omega)
  rw [m3] at m4
  generalize ((153 : Int64) * mp + 2) / 5 = g5 at *
  have e3 : (i3.toInt64).toInt = i3.toInt := c_i2l i3
  generalize i3.toInt64 = dd at *
  have m5 : (g5 + dd).toInt = (153 * ((i2.toInt + 9) % 12) + 2) / 5 + i3.toInt := by rw [own_add (by rw [m4, e3]; omega), m4, e3]
  have m6 : (g5 + dd - 1).toInt = (153 * ((i2.toInt + 9) % 12) + 2) / 5 + i3.toInt - 1 := by rw [own_sub (by rw [m5, k1]; omega), m5, k1]
  generalize g5 + dd - 1 = doy at *
  have a6 : (w + doy).toInt = (Y - Y / 400 * 400) * 365 + (Y - Y / 400 * 400) / 4 - (Y - Y / 400 * 400) / 100 + ((153 * ((i2.toInt + 9) % 12) + 2) / 5 + i3.toInt - 1) := by rw [own_add (by rw [a5, m6]; omega), a5, m6]
  have a7 : (era * 146097).toInt = Y / 400 * 146097 := by rw [own_mulc k146 (by rw [he]; omega), he]
  rw [own_add (by rw [a7, a6]; omega), a7, a6]
  omega
theorem own_cv15 (i2 i3 : Int32) (y : Int64) (Y : Int) (hy : y.toInt = Y) (hY : -1000000001 ≤ Y ∧ Y ≤ 1000000001) (h2 : 1 ≤ i2.toInt ∧ i2.toInt ≤ 12) (h3 : 1 ≤ i3.toInt ∧ i3.toInt ≤ 31) :
    (F10_15_0 i2 i3 y).toInt = 365 * Y + Y / 4 - Y / 100 + Y / 400 + (153 * ((i2.toInt + 9) % 12) + 2) / 5 + i3.toInt - 1 := by
  unfold F10_15_0
  have k399 : (399 : Int64).toInt = 399 := by decide
  have n0 : (0 : Int64).toInt = 0 := by decide
  simp only [lw_lt]
  split
  · rename_i h
    rw [Int64.lt_iff_toInt_lt, n0, hy] at h
    have a : (y - 399).toInt = Y - 399 := by rw [own_sub (by rw [hy, k399]; omega), hy, k399]
    have b := (c_ldiv (y - 399) 400 400 (by decide) (by decide)).2 (by omega)
    exact own_cv i2 i3 y _ Y hy (by rw [b, a]; omega) hY h2 h3
  · rename_i h
    rw [Int64.lt_iff_toInt_lt, n0, hy] at h
    have b := (c_ldiv y 400 400 (by decide) (by decide)).1 (by omega)
    exact own_cv i2 i3 y _ Y hy (by rw [b, hy]) hY h2 h3
theorem own_civil (q : Int64) (i2 i3 : Int32) (Y : Int) (hq : q.toInt = Y) (hY : -1000000000 ≤ Y ∧ Y ≤ 1000000000) (h2 : 1 ≤ i2.toInt ∧ i2.toInt ≤ 12) (h3 : 1 ≤ i3.toInt ∧ i3.toInt ≤ 31) :
    ∃ y : Int, (y = if 2 < i2.toInt then Y else Y - 1) ∧ (F10 q i2 i3).toInt = 365 * y + y / 4 - y / 100 + y / 400 + (153 * ((i2.toInt + 9) % 12) + 2) / 5 + i3.toInt - 1 := by
  refine ⟨_, rfl, ?_⟩
  unfold F10
  have n2 : (2 : Int32).toInt = 2 := rfl
  have t0 : ((0 : Int32).toInt64).toInt = 0 := by decide
  have t1 : ((1 : Int32).toInt64).toInt = 1 := by decide
  by_cases h : 2 < i2.toInt
  · have hh : (2 : Int32) < i2 := by rw [Int32.lt_iff_toInt_lt, n2]; exact h
    rw [if_pos hh, if_pos h]
    exact own_cv15 i2 i3 _ Y (by rw [own_sub (by rw [hq, t0]; omega), hq, t0]; omega) (by omega) h2 h3
  · have hh : ¬ (2 : Int32) < i2 := by rw [Int32.lt_iff_toInt_lt, n2]; exact h
    rw [if_neg hh, if_neg h]
    exact own_cv15 i2 i3 _ (Y - 1) (by rw [own_sub (by rw [hq, t1]; omega), hq, t1]) (by omega) h2 h3
theorem own_sixty (Y M D : Int) (hM : 0 ≤ M ∧ M < 12) (y : Int) (hy : y = if 2 < M + 1 then Y else Y - 1) :
    365 * Y + ((Y + 3) / 4 - (Y + 99) / 100 + (Y + 399) / 400) + own_D M + (if 1 < M then own_lp Y else 0) + D - 1 - (365 * y + y / 4 - y / 100 + y / 400 + (153 * ((M + 1 + 9) % 12) + 2) / 5 + D - 1) = 60 := by
  have hc : M = 0 ∨ M = 1 ∨ M = 2 ∨ M = 3 ∨ M = 4 ∨ M = 5 ∨ M = 6 ∨ M = 7 ∨ M = 8 ∨ M = 9 ∨ M = 10 ∨ M = 11 := by omega
  have hl : (Y % 4 = 0 ∧ Y % 100 ≠ 0 ∧ own_lp Y = 1) ∨ (Y % 4 = 0 ∧ Y % 100 = 0 ∧ Y % 400 = 0 ∧ own_lp Y = 1) ∨ (Y % 4 = 0 ∧ Y % 100 = 0 ∧ Y % 400 ≠ 0 ∧ own_lp Y = 0) ∨ (Y % 4 ≠ 0 ∧ own_lp Y = 0) := by
    unfold own_lp
    by_cases h4 : Y % 4 = 0 <;> by_cases h1 : Y % 100 = 0 <;> by_cases h0 : Y % 400 = 0 <;> simp [h4, h1, h0]
  rcases hc with rfl | rfl | rfl | rfl | rfl | rfl | rfl | rfl | rfl | rfl | rfl | rfl <;> simp [own_D] at hy ⊢ <;> subst hy <;> omega
/-- the law's two roads -/
theorem own_actual (j5 : Int64) (i7 i8 : Int32) (j9 : Int64) (i11 i12 : Int32) (h5 : -1000000000 ≤ j5.toInt ∧ j5.toInt ≤ 1000000000) (h7 : 0 ≤ i7.toInt ∧ i7.toInt < 12) (h8 : 1 ≤ i8.toInt ∧ i8.toInt ≤ 31) (h9 : -1000000000 ≤ j9.toInt ∧ j9.toInt ≤ 1000000000) (h11 : 0 ≤ i11.toInt ∧ i11.toInt < 12) (h12 : 1 ≤ i12.toInt ∧ i12.toInt ≤ 31) :
    F2a ((j5 * (12 : Int64)) + (i7.toInt64)) i8 ((j9 * (12 : Int64)) + (i11.toInt64)) i12 = (F10 j9 (i11 + (1 : Int32)) i12) - (F10 j5 (i7 + (1 : Int32)) i8) := by
  have k12 : (12 : Int64).toInt = 12 := by decide
  have n1 : (1 : Int32).toInt = 1 := rfl
  have one : ∀ (j : Int64) (i d : Int32), (-1000000000 ≤ j.toInt ∧ j.toInt ≤ 1000000000) → (0 ≤ i.toInt ∧ i.toInt < 12) → (1 ≤ d.toInt ∧ d.toInt ≤ 31) → (F4 ((j * 12) + i.toInt64) d).toInt = (F10 j (i + 1) d).toInt + 60 ∧ -1000000000000 ≤ (F10 j (i + 1) d).toInt ∧ (F10 j (i + 1) d).toInt ≤ 1000000000000 := by
    intro j i d hj hi hd
    have a1 : (j * 12).toInt = j.toInt * 12 := own_mulc k12 (by omega)
    have a2 : (i.toInt64).toInt = i.toInt := c_i2l i
    have a3 : (j * 12 + i.toInt64).toInt = 12 * j.toInt + i.toInt := by rw [own_add (by rw [a1, a2]; omega), a1, a2]; omega
    have i1 : (i + 1).toInt = i.toInt + 1 := by have a := c_iadd i 1; have b := rng32 (i + 1); rw [n1] at a; omega
    have e1 := own_dn _ d j.toInt i.toInt a3 hi hj hd
    obtain ⟨y, hy, e2⟩ := own_civil j (i + 1) d j.toInt rfl hj (by omega) hd
    rw [i1] at hy e2
    have e3 := own_sixty j.toInt i.toInt d.toInt hi y hy
    have hy2 : y = j.toInt ∨ y = j.toInt - 1 := by by_cases q : 2 < i.toInt + 1 <;> simp [q] at hy <;> omega
    rw [e1, e2]
    refine ⟨by omega, ?_, ?_⟩ <;> rcases hy2 with rfl | rfl <;> omega
  obtain ⟨p1, p2, p3⟩ := one j9 i11 i12 h9 h11 h12
  obtain ⟨r1, r2, r3⟩ := one j5 i7 i8 h5 h7 h8
  unfold F2a
  apply Int64.toInt_inj.mp
  rw [own_sub (by omega), own_sub (by omega)]
  omega
theorem own_th0 (j5 : Int64) (i7 : Int32) (j9 : Int64) (i11 : Int32) (h5 : -1000000000 ≤ j5.toInt ∧ j5.toInt ≤ 1000000000) (h7 : 0 ≤ i7.toInt ∧ i7.toInt < 12) (h9 : -1000000000 ≤ j9.toInt ∧ j9.toInt ≤ 1000000000) (h11 : 0 ≤ i11.toInt ∧ i11.toInt < 12) :
    (30 : Int64) * (((j9 * (12 : Int64)) + (i11.toInt64)) - ((j5 * (12 : Int64)) + (i7.toInt64))) = (((360 : Int64) * (j9 - j5)) + ((30 : Int64) * ((i11 - i7).toInt64))) := by
  have k12 : (12 : Int64).toInt = 12 := by decide
  have k30 : (30 : Int64).toInt = 30 := by decide
  have k360 : (360 : Int64).toInt = 360 := by decide
  have a1 : (j9 * 12).toInt = j9.toInt * 12 := own_mulc k12 (by omega)
  have a2 : (i11.toInt64).toInt = i11.toInt := c_i2l i11
  have a3 : (j9 * 12 + i11.toInt64).toInt = j9.toInt * 12 + i11.toInt := by rw [own_add (by rw [a1, a2]; omega), a1, a2]
  have b1 : (j5 * 12).toInt = j5.toInt * 12 := own_mulc k12 (by omega)
  have b2 : (i7.toInt64).toInt = i7.toInt := c_i2l i7
  have b3 : (j5 * 12 + i7.toInt64).toInt = j5.toInt * 12 + i7.toInt := by rw [own_add (by rw [b1, b2]; omega), b1, b2]
  have c1 : ((j9 * 12 + i11.toInt64) - (j5 * 12 + i7.toInt64)).toInt = j9.toInt * 12 + i11.toInt - (j5.toInt * 12 + i7.toInt) := by rw [own_sub (by rw [a3, b3]; omega), a3, b3]
  have c2 : ((30 : Int64) * ((j9 * 12 + i11.toInt64) - (j5 * 12 + i7.toInt64))).toInt = 30 * (j9.toInt * 12 + i11.toInt - (j5.toInt * 12 + i7.toInt)) := by rw [own_cmul k30 (by rw [c1]; omega), c1]
  have d0 : (i11 - i7).toInt = i11.toInt - i7.toInt := by have a := c_isub i11 i7; have b := rng32 (i11 - i7); omega
  have d1 : ((i11 - i7).toInt64).toInt = i11.toInt - i7.toInt := by rw [c_i2l, d0]
  have d2 : ((30 : Int64) * (i11 - i7).toInt64).toInt = 30 * (i11.toInt - i7.toInt) := by rw [own_cmul k30 (by rw [d1]; omega), d1]
  have d3 : (j9 - j5).toInt = j9.toInt - j5.toInt := own_sub (by omega)
  have d4 : ((360 : Int64) * (j9 - j5)).toInt = 360 * (j9.toInt - j5.toInt) := by rw [own_cmul k360 (by rw [d3]; omega), d3]
  have d5 : ((360 : Int64) * (j9 - j5) + (30 : Int64) * (i11 - i7).toInt64).toInt = 360 * (j9.toInt - j5.toInt) + 30 * (i11.toInt - i7.toInt) := by rw [own_add (by rw [d4, d2]; omega), d4, d2]
  apply Int64.toInt_inj.mp
  rw [c2, d5]; omega
theorem own_155 (i0 : Int32) (j5 : Int64) (i7 i8 : Int32) (j9 : Int64) (i11 i12 : Int32) (h5 : -1000000000 ≤ j5.toInt ∧ j5.toInt ≤ 1000000000) (h7 : 0 ≤ i7.toInt ∧ i7.toInt < 12) (h8 : 1 ≤ i8.toInt ∧ i8.toInt ≤ 31) (h9 : -1000000000 ≤ j9.toInt ∧ j9.toInt ≤ 1000000000) (h11 : 0 ≤ i11.toInt ∧ i11.toInt < 12) (h12 : 1 ≤ i12.toInt ∧ i12.toInt ≤ 31) :
    F0_155_0 i0 j5 i7 i8 j9 i11 i12 = 1 := by
  unfold F0_155_0
  simp only [lw_eq]
  rw [own_actual j5 i7 i8 j9 i11 i12 h5 h7 h8 h9 h11 h12]
  simp only [if_true]
  have th := own_th0 j5 i7 j9 i11 h5 h7 h9 h11
  unfold F0_229_0 F0_259_0 F2t F11
  simp only [lw_eq]
  by_cases a0 : i0 &&& 1 = 0
  · rw [if_pos a0]
  · rw [if_neg a0]
    by_cases a1 : i8 = 31
    · subst a1
      by_cases a2 : i12 = 31
      · subst a2; simp [th]
      · simp [a2, th]
    · by_cases a2 : i12 = 31
      · subst a2
        by_cases a3 : i8 = 30
        · subst a3; simp [th]
        · simp [a1, a3, th]
      · simp [a1, a2, th]
theorem own_day (p3 : Int32) (q : Int64) (m : Int32) : 1 ≤ ((1 : Int32) + (((p3 &&& (2147483647 : Int32)) / (12 : Int32)) % (F1 q m))).toInt ∧ ((1 : Int32) + (((p3 &&& (2147483647 : Int32)) / (12 : Int32)) % (F1 q m))).toInt ≤ 31 := by
  have em : (p3 &&& 2147483647).toInt = p3.toInt % ((2 ^ 31 : Nat) : Int) := c_mask p3 2147483647 31 (by decide) (by decide)
  have p31 : ((2 ^ 31 : Nat) : Int) = 2147483648 := by decide
  rw [p31] at em
  have d1 := (c_idiv (p3 &&& 2147483647) 12 12 rfl (by decide)).1 (by omega)
  have f := own_F1 q m
  have r := (c_iremV ((p3 &&& 2147483647) / 12) (F1 q m)).1 (by omega) (by omega)
  generalize ((p3 &&& 2147483647) / 12) % (F1 q m) = z at *
  have n1 : (1 : Int32).toInt = 1 := rfl
  have a := c_iadd 1 z
  have b := rng32 (1 + z)
  rw [n1] at a
  omega
theorem own_mon (p3 : Int32) : 0 ≤ ((p3 &&& (2147483647 : Int32)) % (12 : Int32)).toInt ∧ ((p3 &&& (2147483647 : Int32)) % (12 : Int32)).toInt < 12 := by
  have em : (p3 &&& 2147483647).toInt = p3.toInt % ((2 ^ 31 : Nat) : Int) := c_mask p3 2147483647 31 (by decide) (by decide)
  have p31 : ((2 ^ 31 : Nat) : Int) = 2147483648 := by decide
  rw [p31] at em
  have d1 := (c_irem (p3 &&& 2147483647) 12 12 rfl).1 (by omega)
  omega
theorem own_year (p : Int32) : -1000000000 ≤ ((p % (1000000000 : Int32)).toInt64).toInt ∧ ((p % (1000000000 : Int32)).toInt64).toInt ≤ 1000000000 := by
  rw [c_i2l]
  have d := c_irem p 1000000000 1000000000 rfl
  by_cases h : 0 ≤ p.toInt
  · have := d.1 h; omega
  · have := d.2 (by omega); omega
theorem plain0 (p1 p2 p3 p4 p5 : Int32) : F0 p1 p2 p3 p4 p5 = 1 := by
  unfold F0
  have y1 := own_year p2
  have y2 := own_year p4
  have m1 := own_mon p3
  have m2 := own_mon p5
  have d1 := own_day p3 ((p2 % (1000000000 : Int32)).toInt64) ((p3 &&& (2147483647 : Int32)) % (12 : Int32))
  have d2 := own_day p5 ((p4 % (1000000000 : Int32)).toInt64) ((p5 &&& (2147483647 : Int32)) % (12 : Int32))
  unfold F0_72_0
  have h01 : ∀ a b c d e f g, F0_155_1 a b c d e f g = F0_155_0 a b c d e f g := fun _ _ _ _ _ _ _ => rfl
  simp only [h01]
  rw [own_155 _ _ _ _ _ _ _ y2 m2 d2 y1 m1 d1, own_155 _ _ _ _ _ _ _ y1 m1 d1 y2 m2 d2]
  repeat' split
  all_goals rfl

theorem own_twelve (j : Int32) (h : 0 ≤ j.toInt ∧ j.toInt < 12) : j = 0 ∨ j = 1 ∨ j = 2 ∨ j = 3 ∨ j = 4 ∨ j = 5 ∨ j = 6 ∨ j = 7 ∨ j = 8 ∨ j = 9 ∨ j = 10 ∨ j = 11 := by
  simp only [← Int32.toInt_inj]
  have k0 : (0 : Int32).toInt = 0 := rfl
  have k1 : (1 : Int32).toInt = 1 := rfl
  have k2 : (2 : Int32).toInt = 2 := rfl
  have k3 : (3 : Int32).toInt = 3 := rfl
  have k4 : (4 : Int32).toInt = 4 := rfl
  have k5 : (5 : Int32).toInt = 5 := rfl
  have k6 : (6 : Int32).toInt = 6 := rfl
  have k7 : (7 : Int32).toInt = 7 := rfl
  have k8 : (8 : Int32).toInt = 8 := rfl
  have k9 : (9 : Int32).toInt = 9 := rfl
  have k10 : (10 : Int32).toInt = 10 := rfl
  have k11 : (11 : Int32).toInt = 11 := rfl
  omega
set_option maxRecDepth 65536 in
set_option maxHeartbeats 40000000 in
theorem comes_1 {Post : Tables → Env → Array Value → State → Outcome → State → Prop} (hpost : ∀ tb e args s v u, (limb_1_1.after args s (.returned v) u = true ∧ limb_1_2.after args s (.returned v) u = true ∧ True) → FrameEnd s (.returned v) u (Jvm.fieldLocs frame_1_writes args s ++ Jvm.arrayLocs frame_1_arrays args s ++ Jvm.staticLocs frame_1_statics s) 0 0 → Post tb e args s (.returned v) u) :
    ArmFor flags0 classFile x code maxLocals ret World_1 tables_1 room_1 Calls_1 rest_1 Pre_1 Post := by
  intro l hfl _ _ p e ha hc hk s m args below hf hA hF happ hP
  obtain ⟨hcalls, hrest, hpre⟩ := hP
  obtain ⟨-, -, -, hnamed, -, -, -, hat⟩ := (Spec.applies_iff hf).mp happ
  obtain ⟨hg, hn⟩ := and_e (Cond.before_iff.mp (show (Jvm.Cond.and given_1 narrow_1).before args s = true from hpre))
  obtain ⟨g331, g332⟩ := and_e hg
  obtain ⟨g333, g334⟩ := and_e g332
  obtain ⟨g335, g336⟩ := and_e g334
  obtain ⟨g337, g338⟩ := and_e g336
  obtain ⟨g339, g340⟩ := and_e g338
  obtain ⟨w0, w1, w2, w3, w4, rfl⟩ : ∃ w0 w1 w2 w3 w4 : Value, args = #[w0, w1, w2, w3, w4] := by
    have hs : args.size = 5 := by simpa [Cond.value, given_1] using g331
    obtain ⟨L⟩ := args
    match L, hs with
    | [w0, w1, w2, w3, w4], _ => exact ⟨w0, w1, w2, w3, w4, rfl⟩
  have hw := fun d (hd : d ∈ tables_1) => atoms_spec (ws := Jvm.Cond.code x code maxLocals ret :: tables_1) hat d (List.mem_cons_of_mem _ hd)
  have hfit : Fit s := fun {y c} hc i hi => by
    obtain ⟨ha, rfl⟩ := Array.getElem?_eq_some_iff.mp hc
    have q := List.all_eq_true.mp ((Array.all_eq_true_iff_forall_mem.mp hF) _ (Array.getElem_mem ha)) i (List.mem_range.mpr hi)
    simpa [Array.getElem?_eq_getElem hi] using q
  obtain ⟨hsets, hown0⟩ := atoms_of _ (rest_1_c_eq ▸ (show rest_1_c.before _ s = true from hrest))
  obtain ⟨i0, ei0⟩ := is_v g333
  obtain rfl : w0 = (.int i0) := Option.some.inj ei0
  obtain ⟨i1, ei1⟩ := is_v g335
  obtain rfl : w1 = (.int i1) := Option.some.inj ei1
  obtain ⟨i2, ei2⟩ := is_v g337
  obtain rfl : w2 = (.int i2) := Option.some.inj ei2
  obtain ⟨i3, ei3⟩ := is_v g339
  obtain rfl : w3 = (.int i3) := Option.some.inj ei3
  obtain ⟨i4, ei4⟩ := is_v g340
  obtain rfl : w4 = (.int i4) := Option.some.inj ei4
  obtain ⟨n1, n2⟩ := and_e hn
  obtain ⟨wA, ev_wA⟩ := exa_v n1
  have S_wA := Sta.start ev_wA (Or.inr ⟨(hw _ (List.mem_of_getElem? (i := 8) rfl)), (hw _ (List.mem_of_getElem? (i := 9) rfl))⟩)
  have E_wA := Exa.start ev_wA n1
  obtain ⟨n3, n4⟩ := and_e n2
  obtain ⟨wS, ev_wS⟩ := arr_v n3
  have S_wS := Sta.start ev_wS (Or.inr ⟨(hw _ (List.mem_of_getElem? (i := 15) rfl)), (hw _ (List.mem_of_getElem? (i := 16) rfl))⟩)
  obtain ⟨cl_wS, Ar_wS⟩ := Arr.start ev_wS n3
  obtain ⟨n5, n6⟩ := and_e n4
  have ln_wS := own_eqI n5
  obtain ⟨n7, n8⟩ := and_e n6
  have F_wA_ordinal := Fld.start ((fld_at ev_wA).symm.trans (own_eqI n7))
  obtain ⟨n9, n10⟩ := and_e n8
  have el_wS_1 := elem_in (own_eqI n9) ev_wS rfl Ar_wS.1
  obtain ⟨n11, n12⟩ := and_e n10
  obtain ⟨wD, ev_wD⟩ := arr_v n11
  have S_wD := Sta.start ev_wD (Or.inr ⟨(hw _ (List.mem_of_getElem? (i := 12) rfl)), (hw _ (List.mem_of_getElem? (i := 55) rfl))⟩)
  obtain ⟨cl_wD, Ar_wD⟩ := Arr.start ev_wD n11
  obtain ⟨n13, n14⟩ := and_e n12
  have ln_wD := own_eqI n13
  obtain ⟨n15, n16⟩ := and_e n14
  obtain ⟨wT, ev_wT⟩ := exa_v n15
  have S_wT := Sta.start ev_wT (Or.inr ⟨(hw _ (List.mem_of_getElem? (i := 8) rfl)), (hw _ (List.mem_of_getElem? (i := 68) rfl))⟩)
  have E_wT := Exa.start ev_wT n15
  obtain ⟨n17, n18⟩ := and_e n16
  have F_wT_ordinal := Fld.start ((fld_at ev_wT).symm.trans (own_eqI n17))
  obtain ⟨n19, n20⟩ := and_e n18
  have el_wS_0 := elem_in (own_eqI n19) ev_wS rfl Ar_wS.1
  obtain ⟨n21, n22⟩ := and_e n20
  have el_wD_0 := elem_in (own_eqI n21) ev_wD rfl Ar_wD.1
  obtain ⟨n23, n24⟩ := and_e n22
  have el_wD_1 := elem_in (own_eqI n23) ev_wD rfl Ar_wD.1
  obtain ⟨n25, n26⟩ := and_e n24
  have el_wD_2 := elem_in (own_eqI n25) ev_wD rfl Ar_wD.1
  obtain ⟨n27, n28⟩ := and_e n26
  have el_wD_3 := elem_in (own_eqI n27) ev_wD rfl Ar_wD.1
  obtain ⟨n29, n30⟩ := and_e n28
  have el_wD_4 := elem_in (own_eqI n29) ev_wD rfl Ar_wD.1
  obtain ⟨n31, n32⟩ := and_e n30
  have el_wD_5 := elem_in (own_eqI n31) ev_wD rfl Ar_wD.1
  obtain ⟨n33, n34⟩ := and_e n32
  have el_wD_6 := elem_in (own_eqI n33) ev_wD rfl Ar_wD.1
  obtain ⟨n35, n36⟩ := and_e n34
  have el_wD_7 := elem_in (own_eqI n35) ev_wD rfl Ar_wD.1
  obtain ⟨n37, n38⟩ := and_e n36
  have el_wD_8 := elem_in (own_eqI n37) ev_wD rfl Ar_wD.1
  obtain ⟨n39, n40⟩ := and_e n38
  have el_wD_9 := elem_in (own_eqI n39) ev_wD rfl Ar_wD.1
  obtain ⟨n41, n42⟩ := and_e n40
  have el_wD_10 := elem_in (own_eqI n41) ev_wD rfl Ar_wD.1
  have el_wD_11 := elem_in (own_eqI n42) ev_wD rfl Ar_wD.1
  have hI := Cond.before_iff.mp (hsets _ (List.mem_of_getElem? (i := 2) rfl))
  obtain ⟨wI, ev_wI⟩ := exa_v hI
  have S_wI := Sta.start ev_wI (Or.inl (hsets _ (List.mem_of_getElem? (i := 1) rfl)))
  have E_wI := Exa.start ev_wI hI
  have hD : ∀ j : Int32, (0 ≤ j.toInt ∧ j.toInt < 12) → ¬ (j < 0 ∨ cl_wD.slots.size ≤ j.toNatClampNeg) ∧ cl_wD.slots[j.toNatClampNeg]? = some (.int (own_dbm j)) := by
    intro j hj
    rcases own_twelve j hj with rfl | rfl | rfl | rfl | rfl | rfl | rfl | rfl | rfl | rfl | rfl | rfl
    · exact el_wD_0
    · exact el_wD_1
    · exact el_wD_2
    · exact el_wD_3
    · exact el_wD_4
    · exact el_wD_5
    · exact el_wD_6
    · exact el_wD_7
    · exact el_wD_8
    · exact el_wD_9
    · exact el_wD_10
    · exact el_wD_11
  obtain ⟨n, o, h1, h2, h3, v, L, rfl, ⟨hv, N, -⟩, hq⟩ := rm0 l s _ hw tables_1 i0 i1 i2 i3 i4 cl_wS cl_wD wT wA wS wI wD s.heap s.heap.size (Nat.le_refl _) E_wT E_wA F_wT_ordinal F_wA_ordinal Ar_wS el_wS_0 el_wS_1 E_wI Ar_wD hD S_wT S_wA S_wS S_wI S_wD p e ha hc hk s m _ below hf ((Spec.applies_iff_loose hf).mp happ).1 ⟨rfl, State.Warmed39.refl s, rfl⟩ trivial
  rw [plain0] at hv
  subst hv
  refine ⟨n, _, h1, h2, h3, hpost _ _ _ _ _ _ ⟨Cond.after_iff.mpr rfl, Cond.after_iff.mpr (eq_i res_at (Term.int_eval (1)) rfl), trivial⟩ ⟨hq.1, hq.2.1, (hq.2.2.sift fun y hy => Or.inr (N y hy)).mono (by decide) (by decide)⟩⟩
theorem main_1_1 : Claimed_1_1 := comes_1 fun _ _ _ _ _ _ h hF => ⟨h.1, hF⟩
theorem main_1_2 : Claimed_1_2 := comes_1 fun _ _ _ _ _ _ h hF => ⟨h.2.1, hF⟩
end Jvm.Pilot.@@N@@
namespace Jvm.Pilot.@@N@@
open Jvm Jvm.ClassFile Sem Op Lib Jvm.Free Jvm.Stand Jvm.Pilot.@@N@@.Jvm.D
/-! MADE BY PROGRAM (witnessworld.py) out of the Statement's table words and the real class files: 19 classes; the members and pool entries that the words name. The judged class is class 1, her method 4. -/
namespace start1
open Jvm.ClassFile
def u (s : String) : CpInfo := .utf8 (stringToUtf16 s)
/-- a pool by its gaps: so many unusable entries, then the entry; so many at the end -/
def gap : Nat → List CpInfo → List CpInfo
  | 0, r => r
  | n + 1, r => .unusable :: gap n r
def poolList (es : List (Nat × CpInfo)) (last : Nat) : List CpInfo := es.foldr (fun e r => gap e.1 (e.2 :: r)) (gap last [])
def pool (es : List (Nat × CpInfo)) (last : Nat) : Array CpInfo := ⟨poolList es last⟩
def fileOf (pool : Array CpInfo) (this : Nat) (attrs : Array Attribute := #[]) (ms : Array MethodInfo := #[]) (fl : Nat := 33) (sup : Nat := 0) (ifs : Array Nat := #[]) (fds : Array FieldInfo := #[]) : ClassFile where
  minorVersion := 0
  majorVersion := 65
  constantPool := pool
  accessFlags := fl
  thisClass := this
  superClass := sup
  interfaces := ifs
  fields := fds
  methods := ms
  attributes := attrs
def plain (name : String) (sup : Option ClassId) : Class where
  name := name
  kind := .ordinary
  loader := none
  accessFlags := 33
  super := sup
  interfaces := #[]
  cf := none
  fields := #[]
  methods := #[]
  instanceTypes := #[]
  staticTypes := #[]
  resolved := #[]
  callSites := []
  init := .initialized
  statics := none
  mirror := none

def pool0 : Array CpInfo := pool [(5, u "<init>"), (0, u "()V"), (1, .class_ 10), (1, u "java/lang/Object")] 113

def k0m0 : Method := { name := "<init>", desc := "()V", sig := { parameters := [], returnType := none }, accessFlags := 1, code := none }
/-- java/lang/Object -/
def k0 : Class := { plain "java/lang/Object" none with
  accessFlags := 33
  interfaces := #[]
  cf := some (fileOf pool0 8 #[] #[{ accessFlags := 1, nameIndex := 5, descriptorIndex := 6, attributes := #[] }] 33 0 #[] #[])
  fields := #[]
  methods := #[k0m0]
  instanceTypes := #[]
  staticTypes := #[]
  resolved := Array.replicate 124 none
  statics := none }

def pool1 : Array CpInfo := pool [(2, .class_ 4), (1, u "java/lang/Object"), (0, u "<init>"), (0, u "()V"), (0, .long 4), (1, .long 100), (1, .long 400), (1, .methodref 14 15), (0, .class_ 16), (0, .nameAndType 17 18), (0, u "com/example/notesmith/notesmith/calc/AccrualDaysPinLaw"), (0, u "isLeap"), (0, u "(J)Z"), (0, .long 399), (1, .long 153), (1, .long 2), (1, .long 5), (1, .long 365), (1, .long 146097), (1, .integer 1000000000), (0, .integer 2147483647), (0, .methodref 14 34), (0, .nameAndType 35 36), (0, u "monthLength"), (0, u "(JI)I"), (0, .long 12), (1, .fieldref 40 41), (0, .class_ 42), (0, .nameAndType 43 44), (0, u "com/example/notesmith/notesmith/note/DayCount"), (0, u "THIRTY_360"), (0, u "Lcom/example/notesmith/notesmith/note/DayCount;"), (0, .methodref 46 47), (0, .class_ 48), (0, .nameAndType 49 50), (0, u "com/example/notesmith/notesmith/calc/Accrual"), (0, u "days"), (0, u "(Lcom/example/notesmith/notesmith/note/DayCount;JIJI)J"), (0, .long 360), (1, .long 30), (1, .fieldref 40 56), (0, .nameAndType 57 44), (0, u "ACTUAL_365"), (0, .methodref 14 59), (0, .nameAndType 60 61), (0, u "civilDays"), (0, u "(JII)J"), (3, u "law"), (0, u "(IIIII)Z")] 2

def k1m0 : Method := { name := "<init>", desc := "()V", sig := { parameters := [], returnType := none }, accessFlags := 2, code := none }
def k1c1 : Code := { maxStack := 4, maxLocals := 2, code := method_2_code, exceptionTable := #[], attributes := #[] }
def k1m1 : Method := { name := "isLeap", desc := "(J)Z", sig := { parameters := [.long], returnType := some .boolean }, accessFlags := 10, code := some k1c1 }
def k1c2 : Code := { maxStack := 2, maxLocals := 3, code := method_3_code, exceptionTable := #[], attributes := #[] }
def k1m2 : Method := { name := "monthLength", desc := "(JI)I", sig := { parameters := [.long, .int], returnType := some .int }, accessFlags := 10, code := some k1c2 }
def k1c3 : Code := { maxStack := 6, maxLocals := 15, code := method_4_code, exceptionTable := #[], attributes := #[] }
def k1m3 : Method := { name := "civilDays", desc := "(JII)J", sig := { parameters := [.long, .int, .int], returnType := some .long }, accessFlags := 10, code := some k1c3 }
def k1c4 : Code := { maxStack := 7, maxLocals := 28, code := code, exceptionTable := #[], attributes := #[] }
def k1m4 : Method := { name := "law", desc := "(IIIII)Z", sig := { parameters := [.int, .int, .int, .int, .int], returnType := some .boolean }, accessFlags := 9, code := some k1c4 }
/-- com/example/notesmith/notesmith/calc/AccrualDaysPinLaw -/
def k1 : Class := { plain "com/example/notesmith/notesmith/calc/AccrualDaysPinLaw" (some 0) with
  accessFlags := 49
  interfaces := #[]
  cf := some (fileOf pool1 14 #[] #[{ accessFlags := 2, nameIndex := 5, descriptorIndex := 6, attributes := #[] }, { accessFlags := 10, nameIndex := 17, descriptorIndex := 18, attributes := #[] }, { accessFlags := 10, nameIndex := 35, descriptorIndex := 36, attributes := #[] }, { accessFlags := 10, nameIndex := 60, descriptorIndex := 61, attributes := #[] }, { accessFlags := 9, nameIndex := 65, descriptorIndex := 66, attributes := #[] }] 49 2 #[] #[])
  fields := #[]
  methods := #[k1m0, k1m1, k1m2, k1m3, k1m4]
  instanceTypes := #[]
  staticTypes := #[]
  resolved := Array.replicate 69 none
  statics := none }

def pool2 : Array CpInfo := pool [(1, .class_ 2), (0, u "java/lang/constant/Constable"), (0, .class_ 4), (0, u "java/lang/Object")] 6

/-- java/lang/constant/Constable -/
def k2 : Class := { plain "java/lang/constant/Constable" (some 0) with
  accessFlags := 1537
  interfaces := #[]
  cf := some (fileOf pool2 1 #[] #[] 1537 3 #[] #[])
  fields := #[]
  methods := #[]
  instanceTypes := #[]
  staticTypes := #[]
  resolved := Array.replicate 11 none
  statics := none }

def pool3 : Array CpInfo := pool [(1, .class_ 2), (0, u "java/lang/Comparable"), (0, .class_ 4), (0, u "java/lang/Object")] 7

/-- java/lang/Comparable -/
def k3 : Class := { plain "java/lang/Comparable" (some 0) with
  accessFlags := 1537
  interfaces := #[]
  cf := some (fileOf pool3 1 #[] #[] 1537 3 #[] #[])
  fields := #[]
  methods := #[]
  instanceTypes := #[]
  staticTypes := #[]
  resolved := Array.replicate 12 none
  statics := none }

def pool4 : Array CpInfo := pool [(1, .class_ 2), (0, u "java/io/Serializable"), (0, .class_ 4), (0, u "java/lang/Object")] 2

/-- java/io/Serializable -/
def k4 : Class := { plain "java/io/Serializable" (some 0) with
  accessFlags := 1537
  interfaces := #[]
  cf := some (fileOf pool4 1 #[] #[] 1537 3 #[] #[])
  fields := #[]
  methods := #[]
  instanceTypes := #[]
  staticTypes := #[]
  resolved := Array.replicate 7 none
  statics := none }

def pool5 : Array CpInfo := pool [(2, .class_ 4), (1, u "java/lang/Enum"), (0, u "name"), (0, u "Ljava/lang/String;"), (0, .fieldref 2 8), (0, .nameAndType 9 10), (0, u "ordinal"), (0, u "I"), (1, .class_ 14), (1, u "java/lang/Object"), (4, u "hash"), (86, .class_ 108), (1, u "java/lang/Enum$EnumDesc"), (2, .class_ 112), (0, u "java/lang/constant/Constable"), (0, .class_ 114), (0, u "java/lang/Comparable"), (0, .class_ 116), (0, u "java/io/Serializable"), (9, u "()I")] 77

def k5c0 : Code := { maxStack := 1, maxLocals := 1, code := jdk_37_method_2_code, exceptionTable := #[], attributes := #[] }
def k5m0 : Method := { name := "ordinal", desc := "()I", sig := { parameters := [], returnType := some .int }, accessFlags := 17, code := some k5c0 }
/-- java/lang/Enum -/
def k5 : Class := { plain "java/lang/Enum" (some 0) with
  accessFlags := 1057
  interfaces := #[2, 3, 4]
  cf := some (fileOf pool5 2 #[.nestMembers #[106]] #[{ accessFlags := 17, nameIndex := 9, descriptorIndex := 126, attributes := #[] }] 1057 12 #[111, 113, 115] #[{ accessFlags := 18, nameIndex := 5, descriptorIndex := 6, attributes := #[] }, { accessFlags := 18, nameIndex := 9, descriptorIndex := 10, attributes := #[] }, { accessFlags := 2, nameIndex := 19, descriptorIndex := 10, attributes := #[] }])
  fields := #[{ name := "name", type := (.object "java/lang/String"), accessFlags := 18, slot := 0, constantValue := 0 }, { name := "ordinal", type := .int, accessFlags := 18, slot := 1, constantValue := 0 }, { name := "hash", type := .int, accessFlags := 2, slot := 2, constantValue := 0 }]
  methods := #[k5m0]
  instanceTypes := #[(.object "java/lang/String"), .int, .int]
  staticTypes := #[]
  resolved := Array.replicate 204 none
  statics := none }

def pool6 : Array CpInfo := pool [(1, .class_ 2), (0, u "com/example/notesmith/notesmith/note/Labelled"), (0, .class_ 4), (0, u "java/lang/Object")] 4

/-- com/example/notesmith/notesmith/note/Labelled -/
def k6 : Class := { plain "com/example/notesmith/notesmith/note/Labelled" (some 0) with
  accessFlags := 1537
  interfaces := #[]
  cf := some (fileOf pool6 1 #[] #[] 1537 3 #[] #[])
  fields := #[]
  methods := #[]
  instanceTypes := #[]
  staticTypes := #[]
  resolved := Array.replicate 9 none
  statics := none }

def pool7 : Array CpInfo := pool [(1, .class_ 2), (0, u "com/example/notesmith/notesmith/note/DayCount"), (2, u "THIRTY_360"), (0, u "Lcom/example/notesmith/notesmith/note/DayCount;"), (2, u "ACTUAL_365"), (2, u "$VALUES"), (0, u "[Lcom/example/notesmith/notesmith/note/DayCount;"), (6, .class_ 22), (1, u "java/lang/Enum"), (8, u "label"), (0, u "Ljava/lang/String;"), (2, u "basis"), (0, u "I"), (13, .class_ 51), (0, u "com/example/notesmith/notesmith/note/Labelled")] 13

/-- com/example/notesmith/notesmith/note/DayCount -/
def k7 : Class := { plain "com/example/notesmith/notesmith/note/DayCount" (some 5) with
  accessFlags := 16433
  interfaces := #[6]
  cf := some (fileOf pool7 1 #[] #[] 16433 20 #[50] #[{ accessFlags := 16409, nameIndex := 5, descriptorIndex := 6, attributes := #[] }, { accessFlags := 16409, nameIndex := 9, descriptorIndex := 6, attributes := #[] }, { accessFlags := 18, nameIndex := 31, descriptorIndex := 32, attributes := #[] }, { accessFlags := 18, nameIndex := 35, descriptorIndex := 36, attributes := #[] }, { accessFlags := 4122, nameIndex := 12, descriptorIndex := 13, attributes := #[] }])
  fields := #[{ name := "THIRTY_360", type := (.object "com/example/notesmith/notesmith/note/DayCount"), accessFlags := 16409, slot := 0, constantValue := 0 }, { name := "ACTUAL_365", type := (.object "com/example/notesmith/notesmith/note/DayCount"), accessFlags := 16409, slot := 1, constantValue := 0 }, { name := "label", type := (.object "java/lang/String"), accessFlags := 18, slot := 3, constantValue := 0 }, { name := "basis", type := .int, accessFlags := 18, slot := 4, constantValue := 0 }, { name := "$VALUES", type := (.array (.object "com/example/notesmith/notesmith/note/DayCount")), accessFlags := 4122, slot := 2, constantValue := 0 }]
  methods := #[]
  instanceTypes := #[(.object "java/lang/String"), .int, .int, (.object "java/lang/String"), .int]
  staticTypes := #[(.object "com/example/notesmith/notesmith/note/DayCount"), (.object "com/example/notesmith/notesmith/note/DayCount"), (.array (.object "com/example/notesmith/notesmith/note/DayCount"))]
  resolved := Array.replicate 65 none
  statics := some 0 }

def pool8 : Array CpInfo := pool [(2, .class_ 4), (1, u "java/lang/Object"), (6, u "dayCount"), (2, .class_ 16), (1, u "com/example/notesmith/notesmith/calc/Accrual"), (0, u "Lcom/example/notesmith/notesmith/note/DayCount;"), (1, .class_ 21), (1, u "com/example/notesmith/notesmith/note/DayCount"), (0, u "basis"), (0, u "()I"), (8, u "Ljava/math/BigDecimal;"), (2, u "conversionDates"), (0, u "[Ljava/time/LocalDate;"), (14, .class_ 53), (1, u "java/lang/Math"), (4, u "principalRates"), (0, u "[Ljava/math/BigDecimal;"), (15, u "(JI)J"), (8, u "principalRateUnits"), (0, u "[J"), (2, u "unitsPerCent"), (0, u "J"), (2, u "mostWholeDays"), (76, u "days"), (0, u "(Lcom/example/notesmith/notesmith/note/DayCount;JIJI)J"), (0, .fieldref 172 173), (0, .class_ 174), (0, .nameAndType 175 176), (0, u "com/example/notesmith/notesmith/calc/Accrual$1"), (0, u "$SwitchMap$com$example$notesmith$notesmith$note$DayCount"), (0, u "[I"), (0, .methodref 19 178), (0, .nameAndType 179 23), (0, u "ordinal"), (5, .methodref 14 186), (0, .nameAndType 187 188), (0, u "thirty360"), (0, u "(JII)J"), (0, .methodref 14 190), (0, .nameAndType 191 75), (0, u "dayNumber"), (54, .long 30), (1, .methodref 51 249), (0, .nameAndType 250 75), (0, u "floorDiv"), (0, .methodref 51 252), (0, .nameAndType 253 254), (0, u "floorMod"), (0, u "(JI)I"), (0, .long 3), (1, .long 99), (1, .long 399), (1, .fieldref 262 263), (0, .class_ 264), (0, .nameAndType 265 266), (0, u "java/time/chrono/IsoChronology"), (0, u "INSTANCE"), (0, u "Ljava/time/chrono/IsoChronology;"), (0, .methodref 262 268), (0, .nameAndType 269 270), (0, u "isLeapYear"), (0, u "(J)Z"), (0, .long 365), (1, .fieldref 14 274), (0, .nameAndType 275 176), (0, u "DAYS_BEFORE_MONTH")] 28

def k8c0 : Code := { maxStack := 5, maxLocals := 7, code := prog_2_method_4_code, exceptionTable := #[], attributes := #[] }
def k8m0 : Method := { name := "days", desc := "(Lcom/example/notesmith/notesmith/note/DayCount;JIJI)J", sig := { parameters := [(.object "com/example/notesmith/notesmith/note/DayCount"), .long, .int, .long, .int], returnType := some .long }, accessFlags := 8, code := some k8c0 }
def k8c1 : Code := { maxStack := 4, maxLocals := 6, code := prog_2_method_13_code, exceptionTable := #[], attributes := #[] }
def k8m1 : Method := { name := "thirty360", desc := "(JII)J", sig := { parameters := [.long, .int, .int], returnType := some .long }, accessFlags := 10, code := some k8c1 }
def k8c2 : Code := { maxStack := 6, maxLocals := 9, code := prog_2_method_14_code, exceptionTable := #[], attributes := #[] }
def k8m2 : Method := { name := "dayNumber", desc := "(JI)J", sig := { parameters := [.long, .int], returnType := some .long }, accessFlags := 10, code := some k8c2 }
/-- com/example/notesmith/notesmith/calc/Accrual -/
def k8 : Class := { plain "com/example/notesmith/notesmith/calc/Accrual" (some 0) with
  accessFlags := 49
  interfaces := #[]
  cf := some (fileOf pool8 14 #[.nestMembers #[172]] #[{ accessFlags := 8, nameIndex := 169, descriptorIndex := 170, attributes := #[] }, { accessFlags := 10, nameIndex := 187, descriptorIndex := 188, attributes := #[] }, { accessFlags := 10, nameIndex := 191, descriptorIndex := 75, attributes := #[] }] 49 2 #[] #[{ accessFlags := 26, nameIndex := 275, descriptorIndex := 176, attributes := #[] }, { accessFlags := 18, nameIndex := 11, descriptorIndex := 17, attributes := #[] }, { accessFlags := 18, nameIndex := 22, descriptorIndex := 32, attributes := #[] }, { accessFlags := 18, nameIndex := 35, descriptorIndex := 36, attributes := #[] }, { accessFlags := 18, nameIndex := 58, descriptorIndex := 59, attributes := #[] }, { accessFlags := 18, nameIndex := 84, descriptorIndex := 85, attributes := #[] }, { accessFlags := 18, nameIndex := 88, descriptorIndex := 89, attributes := #[] }, { accessFlags := 18, nameIndex := 92, descriptorIndex := 89, attributes := #[] }])
  fields := #[{ name := "DAYS_BEFORE_MONTH", type := (.array .int), accessFlags := 26, slot := 0, constantValue := 0 }, { name := "dayCount", type := (.object "com/example/notesmith/notesmith/note/DayCount"), accessFlags := 18, slot := 0, constantValue := 0 }, { name := "basis", type := (.object "java/math/BigDecimal"), accessFlags := 18, slot := 1, constantValue := 0 }, { name := "conversionDates", type := (.array (.object "java/time/LocalDate")), accessFlags := 18, slot := 2, constantValue := 0 }, { name := "principalRates", type := (.array (.object "java/math/BigDecimal")), accessFlags := 18, slot := 3, constantValue := 0 }, { name := "principalRateUnits", type := (.array .long), accessFlags := 18, slot := 4, constantValue := 0 }, { name := "unitsPerCent", type := .long, accessFlags := 18, slot := 5, constantValue := 0 }, { name := "mostWholeDays", type := .long, accessFlags := 18, slot := 6, constantValue := 0 }]
  methods := #[k8m0, k8m1, k8m2]
  instanceTypes := #[(.object "com/example/notesmith/notesmith/note/DayCount"), (.object "java/math/BigDecimal"), (.array (.object "java/time/LocalDate")), (.array (.object "java/math/BigDecimal")), (.array .long), .long, .long]
  staticTypes := #[(.array .int)]
  resolved := Array.replicate 304 none
  statics := some 1 }

def pool9 : Array CpInfo := pool [(8, .class_ 10), (1, u "com/example/notesmith/notesmith/calc/Accrual$1"), (0, u "$SwitchMap$com$example$notesmith$notesmith$note$DayCount"), (0, u "[I"), (13, .class_ 27), (0, u "java/lang/Object"), (8, .class_ 37), (0, u "com/example/notesmith/notesmith/calc/Accrual")] 2

/-- com/example/notesmith/notesmith/calc/Accrual$1 -/
def k9 : Class := { plain "com/example/notesmith/notesmith/calc/Accrual$1" (some 0) with
  accessFlags := 4128
  interfaces := #[]
  cf := some (fileOf pool9 8 #[.nestHost 36] #[] 4128 26 #[] #[{ accessFlags := 4120, nameIndex := 11, descriptorIndex := 12, attributes := #[] }])
  fields := #[{ name := "$SwitchMap$com$example$notesmith$notesmith$note$DayCount", type := (.array .int), accessFlags := 4120, slot := 0, constantValue := 0 }]
  methods := #[]
  instanceTypes := #[]
  staticTypes := #[(.array .int)]
  resolved := Array.replicate 40 none
  statics := some 2 }

def pool10 : Array CpInfo := pool [(1, .class_ 2), (0, u "java/lang/Math"), (1, .class_ 6), (1, u "java/lang/Object"), (0, u "<init>"), (0, u "()V"), (89, .class_ 100), (1, u "java/lang/Math$RandomNumberGeneratorHolder"), (20, u "(JJ)J"), (21, .methodref 1 144), (0, .nameAndType 145 121), (0, u "floorDiv"), (0, .methodref 1 147), (0, .nameAndType 148 121), (0, u "floorMod"), (23, u "negativeZeroFloatBits"), (0, u "J"), (2, u "negativeZeroDoubleBits"), (68, u "$assertionsDisabled"), (0, u "Z"), (91, u "twoToTheDoubleScaleDown"), (0, u "D"), (4, u "twoToTheDoubleScaleUp"), (9, u "E"), (3, u "PI"), (2, u "TAU"), (2, u "DEGREES_TO_RADIANS"), (0, u "RADIANS_TO_DEGREES"), (29, u "(JI)J"), (24, u "(JI)I")] 39

def k10m0 : Method := { name := "<init>", desc := "()V", sig := { parameters := [], returnType := none }, accessFlags := 2, code := none }
def k10c1 : Code := { maxStack := 4, maxLocals := 3, code := jdk_29_method_48_code, exceptionTable := #[], attributes := #[] }
def k10m1 : Method := { name := "floorDiv", desc := "(JI)J", sig := { parameters := [.long, .int], returnType := some .long }, accessFlags := 9, code := some k10c1 }
def k10c2 : Code := { maxStack := 4, maxLocals := 6, code := jdk_29_method_49_code, exceptionTable := #[], attributes := #[] }
def k10m2 : Method := { name := "floorDiv", desc := "(JJ)J", sig := { parameters := [.long, .long], returnType := some .long }, accessFlags := 9, code := some k10c2 }
def k10c3 : Code := { maxStack := 4, maxLocals := 3, code := jdk_29_method_51_code, exceptionTable := #[], attributes := #[] }
def k10m3 : Method := { name := "floorMod", desc := "(JI)I", sig := { parameters := [.long, .int], returnType := some .int }, accessFlags := 9, code := some k10c3 }
def k10c4 : Code := { maxStack := 4, maxLocals := 6, code := jdk_29_method_52_code, exceptionTable := #[], attributes := #[] }
def k10m4 : Method := { name := "floorMod", desc := "(JJ)J", sig := { parameters := [.long, .long], returnType := some .long }, accessFlags := 9, code := some k10c4 }
/-- java/lang/Math -/
def k10 : Class := { plain "java/lang/Math" (some 0) with
  accessFlags := 49
  interfaces := #[]
  cf := some (fileOf pool10 1 #[.nestMembers #[98]] #[{ accessFlags := 2, nameIndex := 7, descriptorIndex := 8, attributes := #[] }, { accessFlags := 9, nameIndex := 145, descriptorIndex := 395, attributes := #[] }, { accessFlags := 9, nameIndex := 145, descriptorIndex := 121, attributes := #[] }, { accessFlags := 9, nameIndex := 148, descriptorIndex := 420, attributes := #[] }, { accessFlags := 9, nameIndex := 148, descriptorIndex := 121, attributes := #[] }] 49 4 #[] #[{ accessFlags := 25, nameIndex := 354, descriptorIndex := 339, attributes := #[] }, { accessFlags := 25, nameIndex := 358, descriptorIndex := 339, attributes := #[] }, { accessFlags := 25, nameIndex := 361, descriptorIndex := 339, attributes := #[] }, { accessFlags := 26, nameIndex := 364, descriptorIndex := 339, attributes := #[] }, { accessFlags := 26, nameIndex := 365, descriptorIndex := 339, attributes := #[] }, { accessFlags := 26, nameIndex := 172, descriptorIndex := 173, attributes := #[] }, { accessFlags := 26, nameIndex := 176, descriptorIndex := 173, attributes := #[] }, { accessFlags := 8, nameIndex := 344, descriptorIndex := 339, attributes := #[] }, { accessFlags := 8, nameIndex := 338, descriptorIndex := 339, attributes := #[] }, { accessFlags := 4120, nameIndex := 245, descriptorIndex := 246, attributes := #[] }])
  fields := #[{ name := "E", type := .double, accessFlags := 25, slot := 0, constantValue := 0 }, { name := "PI", type := .double, accessFlags := 25, slot := 1, constantValue := 0 }, { name := "TAU", type := .double, accessFlags := 25, slot := 2, constantValue := 0 }, { name := "DEGREES_TO_RADIANS", type := .double, accessFlags := 26, slot := 3, constantValue := 0 }, { name := "RADIANS_TO_DEGREES", type := .double, accessFlags := 26, slot := 4, constantValue := 0 }, { name := "negativeZeroFloatBits", type := .long, accessFlags := 26, slot := 5, constantValue := 0 }, { name := "negativeZeroDoubleBits", type := .long, accessFlags := 26, slot := 6, constantValue := 0 }, { name := "twoToTheDoubleScaleUp", type := .double, accessFlags := 8, slot := 7, constantValue := 0 }, { name := "twoToTheDoubleScaleDown", type := .double, accessFlags := 8, slot := 8, constantValue := 0 }, { name := "$assertionsDisabled", type := .boolean, accessFlags := 4120, slot := 9, constantValue := 0 }]
  methods := #[k10m0, k10m1, k10m2, k10m3, k10m4]
  instanceTypes := #[]
  staticTypes := #[.double, .double, .double, .double, .double, .long, .long, .double, .double, .boolean]
  resolved := Array.replicate 460 none
  statics := none }

def pool11 : Array CpInfo := pool [(21, .class_ 22), (0, u "java/time/chrono/Chronology"), (138, .class_ 162), (0, u "java/time/chrono/Chronology$1"), (74, .class_ 238), (0, u "java/lang/Object"), (0, .class_ 240), (0, u "java/lang/Comparable")] 86

/-- java/time/chrono/Chronology -/
def k11 : Class := { plain "java/time/chrono/Chronology" (some 0) with
  accessFlags := 1537
  interfaces := #[3]
  cf := some (fileOf pool11 21 #[.nestMembers #[161]] #[] 1537 237 #[239] #[])
  fields := #[]
  methods := #[]
  instanceTypes := #[]
  staticTypes := #[]
  resolved := Array.replicate 327 none
  statics := none }

def pool12 : Array CpInfo := pool [(2, .class_ 4), (1, u "java/time/chrono/Chronology"), (3, .class_ 10), (1, u "java/time/chrono/AbstractChronology"), (4, u "CHRONOS_BY_ID"), (0, u "Ljava/util/concurrent/ConcurrentHashMap;"), (11, u "CHRONOS_BY_TYPE"), (69, u "<init>"), (0, u "()V"), (71, .class_ 172), (0, u "java/lang/Object")] 383

def k12m0 : Method := { name := "<init>", desc := "()V", sig := { parameters := [], returnType := none }, accessFlags := 4, code := none }
/-- java/time/chrono/AbstractChronology -/
def k12 : Class := { plain "java/time/chrono/AbstractChronology" (some 0) with
  accessFlags := 1057
  interfaces := #[11]
  cf := some (fileOf pool12 8 #[] #[{ accessFlags := 4, nameIndex := 98, descriptorIndex := 99, attributes := #[] }] 1057 171 #[2] #[{ accessFlags := 26, nameIndex := 15, descriptorIndex := 16, attributes := #[] }, { accessFlags := 26, nameIndex := 28, descriptorIndex := 16, attributes := #[] }])
  fields := #[{ name := "CHRONOS_BY_ID", type := (.object "java/util/concurrent/ConcurrentHashMap"), accessFlags := 26, slot := 0, constantValue := 0 }, { name := "CHRONOS_BY_TYPE", type := (.object "java/util/concurrent/ConcurrentHashMap"), accessFlags := 26, slot := 1, constantValue := 0 }]
  methods := #[k12m0]
  instanceTypes := #[]
  staticTypes := #[(.object "java/util/concurrent/ConcurrentHashMap"), (.object "java/util/concurrent/ConcurrentHashMap")]
  resolved := Array.replicate 556 none
  statics := none }

def pool13 : Array CpInfo := pool [(2, .class_ 4), (1, u "java/time/chrono/AbstractChronology"), (0, u "<init>"), (0, u "()V"), (5, .class_ 14), (1, u "java/time/chrono/IsoChronology"), (102, .long 3), (5, .long 100), (3, .long 400), (3, u "INSTANCE"), (0, u "Ljava/time/chrono/IsoChronology;"), (2, u "isLeapYear"), (0, u "(J)Z"), (228, .class_ 366), (0, u "java/io/Serializable"), (0, u "serialVersionUID"), (0, u "J"), (3, u "DAYS_0000_TO_1970")] 81

def k13m0 : Method := { name := "<init>", desc := "()V", sig := { parameters := [], returnType := none }, accessFlags := 2, code := none }
def k13c1 : Code := { maxStack := 4, maxLocals := 3, code := jdk_2369_method_18_code, exceptionTable := #[], attributes := #[] }
def k13m1 : Method := { name := "isLeapYear", desc := "(J)Z", sig := { parameters := [.long], returnType := some .boolean }, accessFlags := 1, code := some k13c1 }
/-- java/time/chrono/IsoChronology -/
def k13 : Class := { plain "java/time/chrono/IsoChronology" (some 12) with
  accessFlags := 49
  interfaces := #[4]
  cf := some (fileOf pool13 12 #[] #[{ accessFlags := 2, nameIndex := 5, descriptorIndex := 6, attributes := #[] }, { accessFlags := 1, nameIndex := 135, descriptorIndex := 136, attributes := #[] }] 49 2 #[365] #[{ accessFlags := 25, nameIndex := 131, descriptorIndex := 132, attributes := #[] }, { accessFlags := 26, nameIndex := 367, descriptorIndex := 368, attributes := #[] }, { accessFlags := 26, nameIndex := 372, descriptorIndex := 368, attributes := #[] }])
  fields := #[{ name := "INSTANCE", type := (.object "java/time/chrono/IsoChronology"), accessFlags := 25, slot := 0, constantValue := 0 }, { name := "serialVersionUID", type := .long, accessFlags := 26, slot := 1, constantValue := 0 }, { name := "DAYS_0000_TO_1970", type := .long, accessFlags := 26, slot := 2, constantValue := 0 }]
  methods := #[k13m0, k13m1]
  instanceTypes := #[]
  staticTypes := #[(.object "java/time/chrono/IsoChronology"), .long, .long]
  resolved := Array.replicate 454 none
  statics := some 3 }

def pool14 : Array CpInfo := pool [(1, u "java/lang/Cloneable"), (0, .class_ 1), (0, u "java/lang/Object"), (0, .class_ 3)] 3

/-- java/lang/Cloneable -/
def k14 : Class := { plain "java/lang/Cloneable" (some 0) with
  accessFlags := 1537
  interfaces := #[]
  cf := some (fileOf pool14 2 #[] #[] 1537 4 #[] #[])
  fields := #[]
  methods := #[]
  instanceTypes := #[]
  staticTypes := #[]
  resolved := Array.replicate 8 none
  statics := none }

/-- the primitive byte -/
def k15 : Class := { plain "byte" none with kind := .primitive 'B', accessFlags := 0x411 }
/-- [B -/
def k16 : Class := { plain "[B" (some 0) with kind := .array 15 .byte, interfaces := #[14, 4], accessFlags := 1041 }

/-- the primitive int -/
def k17 : Class := { plain "int" none with kind := .primitive 'I', accessFlags := 0x411 }
/-- [I -/
def k18 : Class := { plain "[I" (some 0) with kind := .array 17 .int, interfaces := #[14, 4], accessFlags := 1041 }

def heap : Heap := #[{ cls := 7, slots := #[.ref 4, .ref 5, .null], vm := .statics 7 },
  { cls := 8, slots := #[.ref 7], vm := .statics 8 },
  { cls := 9, slots := #[.ref 6], vm := .statics 9 },
  { cls := 13, slots := #[.ref 8, .long 0, .long 0], vm := .statics 13 },
  { cls := 7, slots := #[.null, .int 0, .int 0, .null, .int 0], vm := .none },
  { cls := 7, slots := #[.null, .int 1, .int 0, .null, .int 0], vm := .none },
  { cls := 18, slots := #[.int 1, .int 2], vm := .none },
  { cls := 18, slots := #[.int 0, .int 31, .int 59, .int 90, .int 120, .int 151, .int 181, .int 212, .int 243, .int 273, .int 304, .int 334], vm := .none },
  { cls := 13, slots := #[], vm := .none }]
def classes : Array Class := #[k0, k1, k2, k3, k4, k5, k6, k7, k8, k9, k10, k11, k12, k13, k14, k15, k16, k17, k18]
def interned : List (Array UInt16 × Addr) := []
def slotsUsed : Nat := 32
def theMethod : MethodId := ⟨1, 4⟩
def args0 : Array Value := #[.int 0, .int 2024, .int 5, .int 2025, .int 7]
def aboutOver (below : List Frame) : State where
  vm := { classes := classes, interned := interned.toArray }
  heap := heap
  slotsUsed := slotsUsed
  threads := #[{ frames := .invoking theMethod args0 :: below }]
def below0 : List Frame := [.native { method := ⟨0, 0⟩, args := #[] }]
def about1 : State := aboutOver below0
def p0 : Program := .bare "" "" ""
def e0 : Env := launch0.env 0 0 0
theorem w_frames : about1.frames = Frame.invoking theMethod args0 :: below0 := rfl
set_option maxRecDepth 65536 in
theorem w_args : argsFit about1.vm theMethod args0 = true := by decide +kernel
set_option maxRecDepth 65536 in
theorem w_heap : heapFits about1 = true := by decide +kernel
set_option maxRecDepth 65536 in
theorem w_runnable : about1.curStatus? = some .runnable := by decide +kernel
set_option maxRecDepth 65536 in
theorem w_alone : about1.alone = true := by decide +kernel
set_option maxRecDepth 65536 in
theorem w_named : about1.methodNamed? x = some theMethod := by decide +kernel
set_option maxRecDepth 65536 in
theorem w_hears : about1.hears theMethod below0 = true := by decide +kernel
set_option maxRecDepth 65536 in
theorem w_ripe : about1.ripe theMethod args0 below0 = true := by decide +kernel
theorem w_running : about1.status = .running := rfl
set_option maxRecDepth 65536 in
theorem w_room : about1.hasRoom e0.platform room_1 = true :=
  launch0.hasRoom_least _ room_1 (by decide +kernel) (by decide +kernel) (by decide +kernel) (by decide +kernel) (by decide +kernel) (by decide +kernel)
theorem allAtoms_all (ts : List Jvm.Cond) (a : Array Jvm.Value) (st : Jvm.State) : (allAtoms ts).before a st = ts.all (fun c => c.before a st) := by
  induction ts with
  | nil => rfl
  | cons c t ih =>
    show (Jvm.Cond.and c (allAtoms t)).before a st = _
    rw [Jvm.Cond.before_and, ih, List.all_cons]
def words1 : List Jvm.Cond := Jvm.Cond.code x code maxLocals ret :: tables_1
/-- a 'code' word, met by the world's own term for the bytes: nothing is compared byte by byte -/
theorem code_word {y : MethodName} {bytes : ByteArray} {mx : Nat} {rt : Option FieldType} {a : Array Value} {s : State} {m : MethodId} {meth : Method} {c : Code} (h1 : s.methodNamed? y = some m) (h2 : s.vm.method? m = some meth) (h3 : meth.code = some c) (h4 : c.code = bytes)
    (h5 : (c.maxLocals == mx && c.exceptionTable.isEmpty && decide (c.maxStack ≤ mostOperands) && decide (meth.sig.returnType = rt) && !meth.locks && decide (parseMethodDescriptor y.desc = some meth.sig)) = true) : (Jvm.Cond.code y bytes mx rt).before a s = true := by
  simp only [Bool.and_eq_true, beq_iff_eq, Bool.not_eq_true', decide_eq_true_eq] at h5
  obtain ⟨⟨⟨⟨⟨g1, g2⟩, g3⟩, g4⟩, g5⟩, g6⟩ := h5
  simp [Cond.before, Cond.holds, Cond.value, h1, h2, h3, h4, g1, g2, g3, g4, g5, g6]
def isCode : Jvm.Cond → Bool
  | .code _ _ _ _ => true
  | _ => false
theorem all_split {L : List Jvm.Cond} {P : Jvm.Cond → Bool} (h1 : L.all (fun c => isCode c || P c) = true) (h2 : ∀ c ∈ L.filter isCode, P c = true) : L.all P = true := by
  refine List.all_eq_true.mpr fun c hc => ?_
  have h := List.all_eq_true.mp h1 c hc
  rcases Bool.eq_false_or_eq_true (isCode c) with hi | hi
  · exact h2 c (List.mem_filter.mpr ⟨hc, hi⟩)
  · simpa [hi] using h
set_option maxRecDepth 65536 in
theorem w_c0 : (Jvm.Cond.code x code maxLocals ret).before args0 about1 = true := code_word (m := ⟨1, 4⟩) (meth := k1m4) (c := k1c4) (by decide +kernel) rfl rfl rfl (by decide +kernel)
set_option maxRecDepth 65536 in
theorem w_c1 : (Jvm.Cond.code ({ cls := "com/example/notesmith/notesmith/calc/AccrualDaysPinLaw", name := "monthLength", desc := "(JI)I" } : Jvm.MethodName) method_3_code (3 : Nat) (Option.some Jvm.ClassFile.FieldType.int)).before args0 about1 = true := code_word (m := ⟨1, 2⟩) (meth := k1m2) (c := k1c2) (by decide +kernel) rfl rfl rfl (by decide +kernel)
set_option maxRecDepth 65536 in
theorem w_c2 : (Jvm.Cond.code ({ cls := "com/example/notesmith/notesmith/calc/Accrual", name := "days", desc := "(Lcom/example/notesmith/notesmith/note/DayCount;JIJI)J" } : Jvm.MethodName) prog_2_method_4_code (7 : Nat) (Option.some Jvm.ClassFile.FieldType.long)).before args0 about1 = true := code_word (m := ⟨8, 0⟩) (meth := k8m0) (c := k8c0) (by decide +kernel) rfl rfl rfl (by decide +kernel)
set_option maxRecDepth 65536 in
theorem w_c3 : (Jvm.Cond.code ({ cls := "java/lang/Enum", name := "ordinal", desc := "()I" } : Jvm.MethodName) jdk_37_method_2_code (1 : Nat) (Option.some Jvm.ClassFile.FieldType.int)).before args0 about1 = true := code_word (m := ⟨5, 0⟩) (meth := k5m0) (c := k5c0) (by decide +kernel) rfl rfl rfl (by decide +kernel)
set_option maxRecDepth 65536 in
theorem w_c4 : (Jvm.Cond.code ({ cls := "com/example/notesmith/notesmith/calc/Accrual", name := "dayNumber", desc := "(JI)J" } : Jvm.MethodName) prog_2_method_14_code (9 : Nat) (Option.some Jvm.ClassFile.FieldType.long)).before args0 about1 = true := code_word (m := ⟨8, 2⟩) (meth := k8m2) (c := k8c2) (by decide +kernel) rfl rfl rfl (by decide +kernel)
set_option maxRecDepth 65536 in
theorem w_c5 : (Jvm.Cond.code ({ cls := "java/lang/Math", name := "floorDiv", desc := "(JI)J" } : Jvm.MethodName) jdk_29_method_48_code (3 : Nat) (Option.some Jvm.ClassFile.FieldType.long)).before args0 about1 = true := code_word (m := ⟨10, 1⟩) (meth := k10m1) (c := k10c1) (by decide +kernel) rfl rfl rfl (by decide +kernel)
set_option maxRecDepth 65536 in
theorem w_c6 : (Jvm.Cond.code ({ cls := "java/lang/Math", name := "floorDiv", desc := "(JJ)J" } : Jvm.MethodName) jdk_29_method_49_code (6 : Nat) (Option.some Jvm.ClassFile.FieldType.long)).before args0 about1 = true := code_word (m := ⟨10, 2⟩) (meth := k10m2) (c := k10c2) (by decide +kernel) rfl rfl rfl (by decide +kernel)
set_option maxRecDepth 65536 in
theorem w_c7 : (Jvm.Cond.code ({ cls := "java/lang/Math", name := "floorMod", desc := "(JI)I" } : Jvm.MethodName) jdk_29_method_51_code (3 : Nat) (Option.some Jvm.ClassFile.FieldType.int)).before args0 about1 = true := code_word (m := ⟨10, 3⟩) (meth := k10m3) (c := k10c3) (by decide +kernel) rfl rfl rfl (by decide +kernel)
set_option maxRecDepth 65536 in
theorem w_c8 : (Jvm.Cond.code ({ cls := "java/lang/Math", name := "floorMod", desc := "(JJ)J" } : Jvm.MethodName) jdk_29_method_52_code (6 : Nat) (Option.some Jvm.ClassFile.FieldType.long)).before args0 about1 = true := code_word (m := ⟨10, 4⟩) (meth := k10m4) (c := k10c4) (by decide +kernel) rfl rfl rfl (by decide +kernel)
set_option maxRecDepth 65536 in
theorem w_c9 : (Jvm.Cond.code ({ cls := "java/time/chrono/IsoChronology", name := "isLeapYear", desc := "(J)Z" } : Jvm.MethodName) jdk_2369_method_18_code (3 : Nat) (Option.some Jvm.ClassFile.FieldType.boolean)).before args0 about1 = true := code_word (m := ⟨13, 1⟩) (meth := k13m1) (c := k13c1) (by decide +kernel) rfl rfl rfl (by decide +kernel)
set_option maxRecDepth 65536 in
theorem w_c10 : (Jvm.Cond.code ({ cls := "com/example/notesmith/notesmith/calc/AccrualDaysPinLaw", name := "civilDays", desc := "(JII)J" } : Jvm.MethodName) method_4_code (15 : Nat) (Option.some Jvm.ClassFile.FieldType.long)).before args0 about1 = true := code_word (m := ⟨1, 3⟩) (meth := k1m3) (c := k1c3) (by decide +kernel) rfl rfl rfl (by decide +kernel)
set_option maxRecDepth 65536 in
theorem w_c11 : (Jvm.Cond.code ({ cls := "com/example/notesmith/notesmith/calc/Accrual", name := "thirty360", desc := "(JII)J" } : Jvm.MethodName) prog_2_method_13_code (6 : Nat) (Option.some Jvm.ClassFile.FieldType.long)).before args0 about1 = true := code_word (m := ⟨8, 1⟩) (meth := k8m1) (c := k8c1) (by decide +kernel) rfl rfl rfl (by decide +kernel)
set_option maxRecDepth 65536 in
theorem w_c12 : (Jvm.Cond.code ({ cls := "com/example/notesmith/notesmith/calc/AccrualDaysPinLaw", name := "isLeap", desc := "(J)Z" } : Jvm.MethodName) method_2_code (2 : Nat) (Option.some Jvm.ClassFile.FieldType.boolean)).before args0 about1 = true := code_word (m := ⟨1, 1⟩) (meth := k1m1) (c := k1c1) (by decide +kernel) rfl rfl rfl (by decide +kernel)
def codes1 : List Jvm.Cond := [Jvm.Cond.code x code maxLocals ret, Jvm.Cond.code ({ cls := "com/example/notesmith/notesmith/calc/AccrualDaysPinLaw", name := "monthLength", desc := "(JI)I" } : Jvm.MethodName) method_3_code (3 : Nat) (Option.some Jvm.ClassFile.FieldType.int), Jvm.Cond.code ({ cls := "com/example/notesmith/notesmith/calc/Accrual", name := "days", desc := "(Lcom/example/notesmith/notesmith/note/DayCount;JIJI)J" } : Jvm.MethodName) prog_2_method_4_code (7 : Nat) (Option.some Jvm.ClassFile.FieldType.long), Jvm.Cond.code ({ cls := "java/lang/Enum", name := "ordinal", desc := "()I" } : Jvm.MethodName) jdk_37_method_2_code (1 : Nat) (Option.some Jvm.ClassFile.FieldType.int), Jvm.Cond.code ({ cls := "com/example/notesmith/notesmith/calc/Accrual", name := "dayNumber", desc := "(JI)J" } : Jvm.MethodName) prog_2_method_14_code (9 : Nat) (Option.some Jvm.ClassFile.FieldType.long), Jvm.Cond.code ({ cls := "java/lang/Math", name := "floorDiv", desc := "(JI)J" } : Jvm.MethodName) jdk_29_method_48_code (3 : Nat) (Option.some Jvm.ClassFile.FieldType.long), Jvm.Cond.code ({ cls := "java/lang/Math", name := "floorDiv", desc := "(JJ)J" } : Jvm.MethodName) jdk_29_method_49_code (6 : Nat) (Option.some Jvm.ClassFile.FieldType.long), Jvm.Cond.code ({ cls := "java/lang/Math", name := "floorMod", desc := "(JI)I" } : Jvm.MethodName) jdk_29_method_51_code (3 : Nat) (Option.some Jvm.ClassFile.FieldType.int), Jvm.Cond.code ({ cls := "java/lang/Math", name := "floorMod", desc := "(JJ)J" } : Jvm.MethodName) jdk_29_method_52_code (6 : Nat) (Option.some Jvm.ClassFile.FieldType.long), Jvm.Cond.code ({ cls := "java/time/chrono/IsoChronology", name := "isLeapYear", desc := "(J)Z" } : Jvm.MethodName) jdk_2369_method_18_code (3 : Nat) (Option.some Jvm.ClassFile.FieldType.boolean), Jvm.Cond.code ({ cls := "com/example/notesmith/notesmith/calc/AccrualDaysPinLaw", name := "civilDays", desc := "(JII)J" } : Jvm.MethodName) method_4_code (15 : Nat) (Option.some Jvm.ClassFile.FieldType.long), Jvm.Cond.code ({ cls := "com/example/notesmith/notesmith/calc/Accrual", name := "thirty360", desc := "(JII)J" } : Jvm.MethodName) prog_2_method_13_code (6 : Nat) (Option.some Jvm.ClassFile.FieldType.long), Jvm.Cond.code ({ cls := "com/example/notesmith/notesmith/calc/AccrualDaysPinLaw", name := "isLeap", desc := "(J)Z" } : Jvm.MethodName) method_2_code (2 : Nat) (Option.some Jvm.ClassFile.FieldType.boolean)]
set_option maxRecDepth 65536 in
theorem codes_eq : words1.filter isCode = codes1 := rfl
theorem w_codes : ∀ c ∈ words1.filter isCode, c.before args0 about1 = true := by
  rw [codes_eq]
  intro c hc
  simp only [codes1, List.mem_cons, List.not_mem_nil, or_false] at hc
  rcases hc with rfl | rfl | rfl | rfl | rfl | rfl | rfl | rfl | rfl | rfl | rfl | rfl | rfl
  · exact w_c0
  · exact w_c1
  · exact w_c2
  · exact w_c3
  · exact w_c4
  · exact w_c5
  · exact w_c6
  · exact w_c7
  · exact w_c8
  · exact w_c9
  · exact w_c10
  · exact w_c11
  · exact w_c12
set_option maxRecDepth 65536 in
theorem w_t1 : (words1.take 24).all (fun c => isCode c || c.before args0 about1) = true := by decide +kernel
set_option maxRecDepth 65536 in
theorem w_t2 : ((words1.drop 24).take 24).all (fun c => isCode c || c.before args0 about1) = true := by decide +kernel
set_option maxRecDepth 65536 in
theorem w_t3 : (((words1.drop 24).drop 24).take 24).all (fun c => isCode c || c.before args0 about1) = true := by decide +kernel
set_option maxRecDepth 65536 in
theorem w_t4 : (((words1.drop 24).drop 24).drop 24).all (fun c => isCode c || c.before args0 about1) = true := by decide +kernel
theorem w_tables : (allAtoms (Jvm.Cond.code x code maxLocals ret :: tables_1)).before args0 about1 = true := by
  rw [allAtoms_all]
  show words1.all (fun c => c.before args0 about1) = true
  refine all_split ?_ w_codes
  rw [← List.take_append_drop 24 words1, List.all_append, w_t1, ← List.take_append_drop 24 (words1.drop 24), List.all_append, w_t2, ← List.take_append_drop 24 ((words1.drop 24).drop 24), List.all_append, w_t3, w_t4]
  rfl
set_option maxRecDepth 65536 in
theorem w_rest : rest_1_c.before args0 about1 = true := by decide +kernel
set_option maxRecDepth 65536 in
theorem w_case : (Jvm.Cond.and given_1 narrow_1).before args0 about1 = true := by decide +kernel
theorem w_applies : (headSpec (Jvm.Cond.code x code maxLocals ret :: tables_1) room_1).applies x e0.platform about1 = true :=
  (Spec.applies_iff w_frames).mpr ⟨w_running, w_runnable, w_alone, w_named, w_hears, w_ripe, w_room, w_tables⟩
theorem atStart : AtStart classFile x code maxLocals ret World_1 tables_1 room_1 Calls_1 rest_1 Pre_1 launch0 p0 e0 about1 theMethod args0 below0 :=
  ⟨lists_1, trivial, launch0.admits_env _ _ _, launch0.least_env, fairChoices_fair.cas, fairChoices_fair.clock, w_frames, w_args, w_heap, w_applies, trivial, w_rest, w_case⟩
end start1
theorem witness_1 : WitnessClaimed_1 := ⟨start1.p0, start1.e0, start1.about1, start1.theMethod, start1.args0, start1.below0, start1.atStart⟩
end Jvm.Pilot.@@N@@
