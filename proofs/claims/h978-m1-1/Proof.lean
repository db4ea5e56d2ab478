import JvmDerived
import JvmDerived.Pilot.@@N@@Statement
import JvmDerived.Pilot.@@N@@Code
set_option linter.unusedVariables false
set_option linter.unusedSimpArgs false
namespace Jvm.RoadKit
open Sem ClassFile Op Lib Jvm.Stand Jvm.Free Jvm.LawKit
section New
variable {p : Program} {l : Launch} {e : Env} {R : Room} {s : State} {m : MethodId} {args : Array Value} {below : List Frame} {meth : Method} {c : Code} {T : State} {locs : List Loc} {cells slots : Nat}
theorem retI (X : Stand p l e R s m args below meth c T locs cells slots) (hx : p.tables.exec = Jvm.exec) {pc : Nat} {Ls : Array Slot} {z : Int32} {rest : List Value} (hret : meth.sig.returnType = some .int) (hd : decode c.code pc = .ok (.ireturn, 1)) {fs : List Frame}
    (hl : ∀ (f : JFrame) (acts : List Action), f.method = m → f.locked = none → f.entered = [] → (doReturn e (T.setTop f) acts (some (.int z))).1 = T.setFrames fs) : Steps p.tables e below (T.setTop (mkF m pc Ls (.int z :: rest))) (T.setFrames fs) := by
  have hm' : T.vm.method? m = some meth := X.method'
  have hn : narrow .int (.int z) = .int z := rfl
  show Steps p.tables e below (T.setTop { method := m, pc := pc, locals := Ls, stack := _ :: rest, locked := none }) _
  jvm_step X.here [X.here.top, hx, hd, hm', hret, hn]
  first | (intro acts; rw [hl _ acts rfl rfl rfl]) | rw [hl _ _ rfl rfl rfl]
  exact Steps.refl _
end New
end Jvm.RoadKit
namespace Jvm.Pilot.@@N@@
open Jvm Jvm.ClassFile Sem Op Lib Jvm.Free Jvm.Stand Jvm.LawKit Jvm.RoadKit Bundle Jvm.Pilot.@@N@@.Jvm.D
theorem d1_0 : decode prog_54_method_4_code 0 = .ok (.iload_n 0, 1) := by decide +kernel
theorem d1_1 : decode prog_54_method_4_code 1 = .ok (.ifCond .ge 10, 3) := by decide +kernel
theorem d1_4 : decode prog_54_method_4_code 4 = .ok (.getstatic 3, 3) := by decide +kernel
theorem d1_7 : decode prog_54_method_4_code 7 = .ok (.astore_n 1, 1) := by decide +kernel
theorem d1_8 : decode prog_54_method_4_code 8 = .ok (.goto 18, 3) := by decide +kernel
theorem d1_26 : decode prog_54_method_4_code 26 = .ok (.aload_n 1, 1) := by decide +kernel
theorem d1_27 : decode prog_54_method_4_code 27 = .ok (.areturn, 1) := by decide +kernel
theorem d1_11 : decode prog_54_method_4_code 11 = .ok (.iload_n 0, 1) := by decide +kernel
theorem d1_12 : decode prog_54_method_4_code 12 = .ok (.ifCond .le 10, 3) := by decide +kernel
theorem d1_15 : decode prog_54_method_4_code 15 = .ok (.getstatic 10, 3) := by decide +kernel
theorem d1_18 : decode prog_54_method_4_code 18 = .ok (.astore_n 1, 1) := by decide +kernel
theorem d1_19 : decode prog_54_method_4_code 19 = .ok (.goto 7, 3) := by decide +kernel
theorem d1_22 : decode prog_54_method_4_code 22 = .ok (.getstatic 7, 3) := by decide +kernel
theorem d1_25 : decode prog_54_method_4_code 25 = .ok (.astore_n 1, 1) := by decide +kernel
theorem pn_1 : plainName "com/example/pinholt/pinholt/engine/Order" = true := by first | (simp [plainName, overriddenIn]; done) | decide +kernel
theorem ef_1 (m : MethodId) (x0 : Int32) : entryFrame m #[(.int x0)] 2 = mkF m 0 #[.val (.int x0), .unset] [] := by first | (simp [entryFrame, mkF, argsToLocals, Value.category]; done) | rfl
def F1 (p1 : Int32) (wE : Addr) (wG : Addr) (wL : Addr) : Addr :=
  if p1 < (0 : Int32) then (  wL)
  else (  if (0 : Int32) < p1 then (  wG)
  else (  wE))
def Q1 (Z : State) (p1 : Int32) (wE : Addr) (wG : Addr) (wL : Addr) (h0 : Heap) (n0 : Nat) (v : Option Value) (h : Heap) (L : List Loc) : Prop := v = some (.ref (F1 p1 wE wG wL)) ∧ Fr n0 L ∧ h = h0
set_option maxRecDepth 65536 in
set_option maxHeartbeats 40000000 in
theorem rm1 (l : Launch) (Z : State) (a0 : Array Value) (hw : ∀ d ∈ tables_1, d.before a0 Z = true) (ws : List Jvm.Cond) (p1 : Int32) (wE : Addr) (wG : Addr) (wL : Addr) (h0 : Heap) (n0 : Nat) (Z0 : n0 ≤ h0.size) (S_wE : Sta Z h0 "com/example/pinholt/pinholt/engine/Order" "EQUAL" "Lcom/example/pinholt/pinholt/engine/Order;" (.ref wE)) (S_wG : Sta Z h0 "com/example/pinholt/pinholt/engine/Order" "GREATER" "Lcom/example/pinholt/pinholt/engine/Order;" (.ref wG)) (S_wL : Sta Z h0 "com/example/pinholt/pinholt/engine/Order" "LESS" "Lcom/example/pinholt/pinholt/engine/Order;" (.ref wL)) :
    MetFree l (⟨"com/example/pinholt/pinholt/engine/Order", "of", "(I)Lcom/example/pinholt/pinholt/engine/Order;"⟩ : MethodName) (head1 (Jvm.Cond.code (⟨"com/example/pinholt/pinholt/engine/Order", "of", "(I)Lcom/example/pinholt/pinholt/engine/Order;"⟩ : MethodName) prog_54_method_4_code 2 (some (.object "com/example/pinholt/pinholt/engine/Order")) :: ws) ({ frames := 0, cells := 0, slots := 0, locals := 0 } : Room)) (fun a U => a = #[(.int p1)] ∧ Z.Warmed39 U.vm ∧ U.heap = h0) (fun _ _ _ _ _ => True) (fun _ U o U' => ∃ v L, o = .returned v ∧ Q1 Z p1 wE wG wL h0 n0 v U'.heap L ∧ FrameEnd U o U' L ({ frames := 0, cells := 0, slots := 0, locals := 0 } : Room).cells ({ frames := 0, cells := 0, slots := 0, locals := 0 } : Room).slots) := by
  refine MetFree.of_bodySF (plainFor_of_name pn_1) hisR ?_
  intro p e s m args below meth c s₁ Bd hml0 hP hK
  obtain ⟨rfl, hZ, hh⟩ := hP
  have hx := Bd.exec
  have hby := Bd.bytes
  have hml : c.maxLocals = 2 := hml0
  have hown : s.vm.findClass "com/example/pinholt/pinholt/engine/Order" = some m.cls := findClass_of_methodNamed Bd.named
  have hnm := (name_of_methodNamed Bd.named Bd.method).1
  have X0 : Stand p l e ({ frames := 0, cells := 0, slots := 0, locals := 0 } : Room) s m #[(.int p1)] below meth c s₁ [] 0 0 := Stand.of_body Bd
  have e0 : s₁.heap = h0 := by rw [← hh, Bd.state]; rfl
  have N0 := Fr.nil n0
  have pre0 : ∀ t, Steps p.tables e below (s₁.setTop (mkF m 0 #[.val (.int p1), .unset] [])) t → Steps p.tables e below (s₁.setTop (entryFrame m #[(.int p1)] 2)) t := fun t k => castTop (ef_1 m p1) k
  have pre1 : ∀ t, Steps p.tables e below (s₁.setTop (mkF m 1 #[.val (.int p1), .unset] [(.int p1)])) t → Steps p.tables e below (s₁.setTop (entryFrame m #[(.int p1)] 2)) t := by
    intro t k
    refine pre0 _ ?_
    show Steps p.tables e below (s₁.setTop (mkF m 0 #[.val (.int p1), .unset] [])) _
    refine XS.iloadN X0.here hx rfl (hb hby d1_0) rfl ?_
    exact k
  by_cases hc2 : p1 < (0 : Int32)
  · have pre3 : ∀ t, Steps p.tables e below (s₁.setTop (mkF m 4 #[.val (.int p1), .unset] [])) t → Steps p.tables e below (s₁.setTop (entryFrame m #[(.int p1)] 2)) t := by
      intro t k
      refine pre1 _ ?_
      show Steps p.tables e below (s₁.setTop (mkF m 1 #[.val (.int p1), .unset] [(.int p1)])) _
      refine XS.ifNo X0.here hx rfl (hb hby d1_1) rfl ((if0 _ _).trans (tlt hc2).2.1) ?_
      exact k
    obtain ⟨T4, X4, e4, st4⟩ := getS2 X0 hx hZ hown (host := "") (Or.inl (hw _ (List.mem_of_getElem? (i := 10) rfl))) Via.refl e0 S_wL (g := (mkF m 4 #[.val (.int p1), .unset] [])) rfl (hb hby d1_4)
    have pre5 : ∀ t, Steps p.tables e below (T4.setTop (mkF m 7 #[.val (.int p1), .unset] [(.ref wL)])) t → Steps p.tables e below (s₁.setTop (entryFrame m #[(.int p1)] 2)) t := by
      intro t k
      refine pre3 _ ?_
      show Steps p.tables e below (s₁.setTop (mkF m 4 #[.val (.int p1), .unset] [])) _
      refine st4 _ ?_
      exact k
    have pre6 : ∀ t, Steps p.tables e below (T4.setTop (mkF m 27 #[.val (.int p1), .val (.ref wL)] [(.ref wL)])) t → Steps p.tables e below (s₁.setTop (entryFrame m #[(.int p1)] 2)) t := by
      intro t k
      refine pre5 _ ?_
      show Steps p.tables e below (T4.setTop (mkF m 7 #[.val (.int p1), .unset] [(.ref wL)])) _
      refine XS.astoreN X4.here hx rfl (hb hby d1_7) rfl rfl (l' := #[.val (.int p1), .val (.ref wL)]) rfl ?_
      show Steps p.tables e below (T4.setTop (mkF m 8 #[.val (.int p1), .val (.ref wL)] [])) _
      refine XS.goto X4.here hx rfl (pc0 := 8) (pc' := 26) rfl (hb hby d1_8) (by decide) (by decide) ?_
      show Steps p.tables e below (T4.setTop (mkF m 26 #[.val (.int p1), .val (.ref wL)] [])) _
      refine XS.aloadN X4.here hx rfl (hb hby d1_26) rfl rfl ?_
      exact k
    obtain ⟨fs, hr, hrun, hended, hW, hsame⟩ := X4.leave (v := some (.ref wL)) (fun h => by rw [Bd.returns] at h; cases h)
    refine ⟨_, _, pre6 _ ?_, hrun, hended, _, _, rfl, ?_, ⟨_, rfl⟩, hW, hsame.mono (by decide) (by decide)⟩
    · show Steps p.tables e below (T4.setTop (mkF m 27 #[.val (.int p1), .val (.ref wL)] [(.ref wL)])) _
      jvm_step X4.here [X4.here.top, hx, (hb hby d1_27), X4.method', Bd.returns, Value.isRef, FieldType.isReference]
      first | (intro acts; rw [hr _ acts rfl rfl rfl]) | rw [hr _ _ rfl rfl rfl]
      exact Steps.refl _
    · show Q1 Z p1 wE wG wL h0 n0 _ T4.heap _
      rw [e4]
      exact ⟨(by rw [F1, if_pos hc2]), N0, rfl⟩
  · have pre7 : ∀ t, Steps p.tables e below (s₁.setTop (mkF m 11 #[.val (.int p1), .unset] [])) t → Steps p.tables e below (s₁.setTop (entryFrame m #[(.int p1)] 2)) t := by
      intro t k
      refine pre1 _ ?_
      show Steps p.tables e below (s₁.setTop (mkF m 1 #[.val (.int p1), .unset] [(.int p1)])) _
      refine XS.ifYes X0.here hx rfl (pc0 := 1) (pc' := 11) rfl (hb hby d1_1) rfl ((if0 _ _).trans (flt hc2).2.1) (by decide) (by decide) ?_
      exact k
    have pre8 : ∀ t, Steps p.tables e below (s₁.setTop (mkF m 12 #[.val (.int p1), .unset] [(.int p1)])) t → Steps p.tables e below (s₁.setTop (entryFrame m #[(.int p1)] 2)) t := by
      intro t k
      refine pre7 _ ?_
      show Steps p.tables e below (s₁.setTop (mkF m 11 #[.val (.int p1), .unset] [])) _
      refine XS.iloadN X0.here hx rfl (hb hby d1_11) rfl ?_
      exact k
    by_cases hc9 : (0 : Int32) < p1
    · have pre10 : ∀ t, Steps p.tables e below (s₁.setTop (mkF m 15 #[.val (.int p1), .unset] [])) t → Steps p.tables e below (s₁.setTop (entryFrame m #[(.int p1)] 2)) t := by
        intro t k
        refine pre8 _ ?_
        show Steps p.tables e below (s₁.setTop (mkF m 12 #[.val (.int p1), .unset] [(.int p1)])) _
        refine XS.ifNo X0.here hx rfl (hb hby d1_12) rfl ((if0 _ _).trans (tlt hc9).2.2.2) ?_
        exact k
      obtain ⟨T11, X11, e11, st11⟩ := getS2 X0 hx hZ hown (host := "") (Or.inl (hw _ (List.mem_of_getElem? (i := 7) rfl))) Via.refl e0 S_wG (g := (mkF m 15 #[.val (.int p1), .unset] [])) rfl (hb hby d1_15)
      have pre12 : ∀ t, Steps p.tables e below (T11.setTop (mkF m 18 #[.val (.int p1), .unset] [(.ref wG)])) t → Steps p.tables e below (s₁.setTop (entryFrame m #[(.int p1)] 2)) t := by
        intro t k
        refine pre10 _ ?_
        show Steps p.tables e below (s₁.setTop (mkF m 15 #[.val (.int p1), .unset] [])) _
        refine st11 _ ?_
        exact k
      have pre13 : ∀ t, Steps p.tables e below (T11.setTop (mkF m 27 #[.val (.int p1), .val (.ref wG)] [(.ref wG)])) t → Steps p.tables e below (s₁.setTop (entryFrame m #[(.int p1)] 2)) t := by
        intro t k
        refine pre12 _ ?_
        show Steps p.tables e below (T11.setTop (mkF m 18 #[.val (.int p1), .unset] [(.ref wG)])) _
        refine XS.astoreN X11.here hx rfl (hb hby d1_18) rfl rfl (l' := #[.val (.int p1), .val (.ref wG)]) rfl ?_
        show Steps p.tables e below (T11.setTop (mkF m 19 #[.val (.int p1), .val (.ref wG)] [])) _
        refine XS.goto X11.here hx rfl (pc0 := 19) (pc' := 26) rfl (hb hby d1_19) (by decide) (by decide) ?_
        show Steps p.tables e below (T11.setTop (mkF m 26 #[.val (.int p1), .val (.ref wG)] [])) _
        refine XS.aloadN X11.here hx rfl (hb hby d1_26) rfl rfl ?_
        exact k
      obtain ⟨fs, hr, hrun, hended, hW, hsame⟩ := X11.leave (v := some (.ref wG)) (fun h => by rw [Bd.returns] at h; cases h)
      refine ⟨_, _, pre13 _ ?_, hrun, hended, _, _, rfl, ?_, ⟨_, rfl⟩, hW, hsame.mono (by decide) (by decide)⟩
      · show Steps p.tables e below (T11.setTop (mkF m 27 #[.val (.int p1), .val (.ref wG)] [(.ref wG)])) _
        jvm_step X11.here [X11.here.top, hx, (hb hby d1_27), X11.method', Bd.returns, Value.isRef, FieldType.isReference]
        first | (intro acts; rw [hr _ acts rfl rfl rfl]) | rw [hr _ _ rfl rfl rfl]
        exact Steps.refl _
      · show Q1 Z p1 wE wG wL h0 n0 _ T11.heap _
        rw [e11]
        exact ⟨(by rw [F1, if_neg hc2, if_pos hc9]), N0, rfl⟩
    · have pre14 : ∀ t, Steps p.tables e below (s₁.setTop (mkF m 22 #[.val (.int p1), .unset] [])) t → Steps p.tables e below (s₁.setTop (entryFrame m #[(.int p1)] 2)) t := by
        intro t k
        refine pre8 _ ?_
        show Steps p.tables e below (s₁.setTop (mkF m 12 #[.val (.int p1), .unset] [(.int p1)])) _
        refine XS.ifYes X0.here hx rfl (pc0 := 12) (pc' := 22) rfl (hb hby d1_12) rfl ((if0 _ _).trans (flt hc9).2.2.2) (by decide) (by decide) ?_
        exact k
      obtain ⟨T15, X15, e15, st15⟩ := getS2 X0 hx hZ hown (host := "") (Or.inl (hw _ (List.mem_of_getElem? (i := 4) rfl))) Via.refl e0 S_wE (g := (mkF m 22 #[.val (.int p1), .unset] [])) rfl (hb hby d1_22)
      have pre16 : ∀ t, Steps p.tables e below (T15.setTop (mkF m 25 #[.val (.int p1), .unset] [(.ref wE)])) t → Steps p.tables e below (s₁.setTop (entryFrame m #[(.int p1)] 2)) t := by
        intro t k
        refine pre14 _ ?_
        show Steps p.tables e below (s₁.setTop (mkF m 22 #[.val (.int p1), .unset] [])) _
        refine st15 _ ?_
        exact k
      have pre17 : ∀ t, Steps p.tables e below (T15.setTop (mkF m 27 #[.val (.int p1), .val (.ref wE)] [(.ref wE)])) t → Steps p.tables e below (s₁.setTop (entryFrame m #[(.int p1)] 2)) t := by
        intro t k
        refine pre16 _ ?_
        show Steps p.tables e below (T15.setTop (mkF m 25 #[.val (.int p1), .unset] [(.ref wE)])) _
        refine XS.astoreN X15.here hx rfl (hb hby d1_25) rfl rfl (l' := #[.val (.int p1), .val (.ref wE)]) rfl ?_
        show Steps p.tables e below (T15.setTop (mkF m 26 #[.val (.int p1), .val (.ref wE)] [])) _
        refine XS.aloadN X15.here hx rfl (hb hby d1_26) rfl rfl ?_
        exact k
      obtain ⟨fs, hr, hrun, hended, hW, hsame⟩ := X15.leave (v := some (.ref wE)) (fun h => by rw [Bd.returns] at h; cases h)
      refine ⟨_, _, pre17 _ ?_, hrun, hended, _, _, rfl, ?_, ⟨_, rfl⟩, hW, hsame.mono (by decide) (by decide)⟩
      · show Steps p.tables e below (T15.setTop (mkF m 27 #[.val (.int p1), .val (.ref wE)] [(.ref wE)])) _
        jvm_step X15.here [X15.here.top, hx, (hb hby d1_27), X15.method', Bd.returns, Value.isRef, FieldType.isReference]
        first | (intro acts; rw [hr _ acts rfl rfl rfl]) | rw [hr _ _ rfl rfl rfl]
        exact Steps.refl _
      · show Q1 Z p1 wE wG wL h0 n0 _ T15.heap _
        rw [e15]
        exact ⟨(by rw [F1, if_neg hc2, if_neg hc9]), N0, rfl⟩
theorem pd__I_Lcom_example_pinholt_pinholt_engine_Order_ : parseMethodDescriptor "(I)Lcom/example/pinholt/pinholt/engine/Order;" = some ⟨[.int], some (.object "com/example/pinholt/pinholt/engine/Order")⟩ := by decide +kernel
theorem pn_0 : plainName "com/example/pinholt/pinholt/engine/OrderOfPinLaw" = true := by first | (simp [plainName, overriddenIn]; done) | decide +kernel
theorem ef_0 (m : MethodId) (x0 : Int32) : entryFrame m #[(.int x0)] maxLocals = mkF m 0 #[.val (.int x0), .unset, .unset, .unset] [] := by first | (simp [entryFrame, mkF, argsToLocals, Value.category, maxLocals]; done) | rfl
def F0 (p1 : Int32) (wE : Addr) (wG : Addr) (wL : Addr) : Int32 :=
  if ((p1 >>> ((31 : Int32) &&& 31)) ||| (((-p1).toUInt32 >>> ((31 : Int32) &&& 31).toUInt32).toInt32)) = (-1 : Int32) then (  if (F1 p1 wE wG wL) = wL then (  (1 : Int32))
  else (  (0 : Int32)))
  else (  if ((p1 >>> ((31 : Int32) &&& 31)) ||| (((-p1).toUInt32 >>> ((31 : Int32) &&& 31).toUInt32).toInt32)) = (1 : Int32) then (  if (F1 p1 wE wG wL) = wG then (  (1 : Int32))
  else (  (0 : Int32)))
  else (  if ((p1 >>> ((31 : Int32) &&& 31)) ||| (((-p1).toUInt32 >>> ((31 : Int32) &&& 31).toUInt32).toInt32)) = (0 : Int32) then (  if (F1 p1 wE wG wL) = wE then (  (1 : Int32))
  else (  (0 : Int32)))
  else (  (0 : Int32))))
def Q0 (Z : State) (p1 : Int32) (wE : Addr) (wG : Addr) (wL : Addr) (h0 : Heap) (n0 : Nat) (v : Option Value) (h : Heap) (L : List Loc) : Prop := v = some (.int (F0 p1 wE wG wL)) ∧ Fr n0 L ∧ h = h0
set_option maxRecDepth 65536 in
set_option maxHeartbeats 40000000 in
theorem rm0 (l : Launch) (Z : State) (a0 : Array Value) (hw : ∀ d ∈ tables_1, d.before a0 Z = true) (ws : List Jvm.Cond) (p1 : Int32) (wE : Addr) (wG : Addr) (wL : Addr) (h0 : Heap) (n0 : Nat) (Z0 : n0 ≤ h0.size) (S_wE : Sta Z h0 "com/example/pinholt/pinholt/engine/Order" "EQUAL" "Lcom/example/pinholt/pinholt/engine/Order;" (.ref wE)) (S_wG : Sta Z h0 "com/example/pinholt/pinholt/engine/Order" "GREATER" "Lcom/example/pinholt/pinholt/engine/Order;" (.ref wG)) (S_wL : Sta Z h0 "com/example/pinholt/pinholt/engine/Order" "LESS" "Lcom/example/pinholt/pinholt/engine/Order;" (.ref wL)) :
    MetFree l x (head1 (Jvm.Cond.code x code maxLocals ret :: ws) room_1) (fun a U => a = #[(.int p1)] ∧ Z.Warmed39 U.vm ∧ U.heap = h0) (fun _ _ _ _ _ => True) (fun _ U o U' => ∃ v L, o = .returned v ∧ Q0 Z p1 wE wG wL h0 n0 v U'.heap L ∧ FrameEnd U o U' L room_1.cells room_1.slots) := by
  refine MetFree.of_bodySF (plainFor_of_name pn_0) hisR ?_
  intro p e s m args below meth c s₁ Bd hml0 hP hK
  obtain ⟨rfl, hZ, hh⟩ := hP
  have hx := Bd.exec
  have hby := Bd.bytes
  have hml : c.maxLocals = 4 := hml0
  have hown : s.vm.findClass "com/example/pinholt/pinholt/engine/OrderOfPinLaw" = some m.cls := findClass_of_methodNamed Bd.named
  have hnm := (name_of_methodNamed Bd.named Bd.method).1
  have X0 : Stand p l e room_1 s m #[(.int p1)] below meth c s₁ [] 0 0 := Stand.of_body Bd
  have e0 : s₁.heap = h0 := by rw [← hh, Bd.state]; rfl
  have N0 := Fr.nil n0
  have pre0 : ∀ t, Steps p.tables e below (s₁.setTop (mkF m 0 #[.val (.int p1), .unset, .unset, .unset] [])) t → Steps p.tables e below (s₁.setTop (entryFrame m #[(.int p1)] maxLocals)) t := fun t k => castTop (ef_0 m p1) k
  have pre18 : ∀ t, Steps p.tables e below (s₁.setTop (mkF m 1 #[.val (.int p1), .unset, .unset, .unset] [(.int p1)])) t → Steps p.tables e below (s₁.setTop (entryFrame m #[(.int p1)] maxLocals)) t := by
    intro t k
    refine pre0 _ ?_
    show Steps p.tables e below (s₁.setTop (mkF m 0 #[.val (.int p1), .unset, .unset, .unset] [])) _
    refine XS.iloadN X0.here hx rfl (hb hby at_0) rfl ?_
    exact k
  obtain ⟨_, _, ⟨T19, L19, k19, n19⟩, -, X19, ⟨Lc19, hQ19, l19, y19, z19⟩, st19⟩ := Jvm.LawKit.callS X0 hx (y := (⟨"com/example/pinholt/pinholt/engine/Order", "of", "(I)Lcom/example/pinholt/pinholt/engine/Order;"⟩ : MethodName)) hown (mvT hZ (hw _ (List.mem_of_getElem? (i := 0) rfl))) (mvT hZ (hw _ (List.mem_of_getElem? (i := 1) rfl))) (mvT hZ (hw _ (List.mem_of_getElem? (i := 2) rfl))) (mvT hZ (hw _ (List.mem_of_getElem? (i := 3) rfl))) (by decide) (backOf (W := 0) (rm1 l Z a0 hw [] p1 wE wG wL h0 n0 Z0 S_wE S_wG S_wL) hZ (hw _ (List.mem_of_getElem? (i := 3) rfl)) (hw _ (List.mem_of_getElem? (i := 2) rfl)) (by decide) (by decide)) (g := (mkF m 1 #[.val (.int p1), .unset, .unset, .unset] [(.int p1)])) rfl (by rw [hml]; rfl) (argsL := [(.int p1)]) (rest := []) (lenOf pd__I_Lcom_example_pinholt_pinholt_engine_Order_ rfl) rfl (by show 2 * 0 + _ ≤ _; exact Nat.le_of_eq rfl) (hb hby at_1) (fun _ _ => ⟨rfl, e0, (by decide : 0 + 0 ≤ _), (by decide : 0 + 0 ≤ _)⟩)
  dsimp only [Pt.U, Pt.locs, Pt.cells, Pt.slots] at X19 l19 y19 z19 st19 hQ19
  subst l19 y19 z19
  obtain ⟨rfl, N19q, e19⟩ := hQ19
  have N19 := Fr.app N0 N19q
  have pre20 : ∀ t, Steps p.tables e below (T19.setTop (mkF m 4 #[.val (.int p1), .unset, .unset, .unset] [(.ref (F1 p1 wE wG wL))])) t → Steps p.tables e below (s₁.setTop (entryFrame m #[(.int p1)] maxLocals)) t := by
    intro t k
    refine pre18 _ ?_
    show Steps p.tables e below (s₁.setTop (mkF m 1 #[.val (.int p1), .unset, .unset, .unset] [(.int p1)])) _
    refine st19 _ ?_
    exact k
  have pre21 : ∀ t, Steps p.tables e below (T19.setTop (mkF m 18 #[.val (.int p1), .val (.ref (F1 p1 wE wG wL)), .val (.int ((p1 >>> ((31 : Int32) &&& 31)) ||| (((-p1).toUInt32 >>> ((31 : Int32) &&& 31).toUInt32).toInt32))), .unset] [(.int (-1 : Int32)), (.int ((p1 >>> ((31 : Int32) &&& 31)) ||| (((-p1).toUInt32 >>> ((31 : Int32) &&& 31).toUInt32).toInt32)))])) t → Steps p.tables e below (s₁.setTop (entryFrame m #[(.int p1)] maxLocals)) t := by
    intro t k
    refine pre20 _ ?_
    show Steps p.tables e below (T19.setTop (mkF m 4 #[.val (.int p1), .unset, .unset, .unset] [(.ref (F1 p1 wE wG wL))])) _
    refine XS.astoreN X19.here hx rfl (hb hby at_4) rfl rfl (l' := #[.val (.int p1), .val (.ref (F1 p1 wE wG wL)), .unset, .unset]) rfl ?_
    show Steps p.tables e below (T19.setTop (mkF m 5 #[.val (.int p1), .val (.ref (F1 p1 wE wG wL)), .unset, .unset] [])) _
    refine XS.iloadN X19.here hx rfl (hb hby at_5) rfl ?_
    show Steps p.tables e below (T19.setTop (mkF m 6 #[.val (.int p1), .val (.ref (F1 p1 wE wG wL)), .unset, .unset] [(.int p1)])) _
    refine XS.bipush X19.here hx rfl (hb hby at_6) ?_
    show Steps p.tables e below (T19.setTop (mkF m 8 #[.val (.int p1), .val (.ref (F1 p1 wE wG wL)), .unset, .unset] [(.int (31 : Int32)), (.int p1)])) _
    refine XS.ishr X19.here hx rfl (hb hby at_8) rfl ?_
    show Steps p.tables e below (T19.setTop (mkF m 9 #[.val (.int p1), .val (.ref (F1 p1 wE wG wL)), .unset, .unset] [(.int (p1 >>> ((31 : Int32) &&& 31)))])) _
    refine XS.iloadN X19.here hx rfl (hb hby at_9) rfl ?_
    show Steps p.tables e below (T19.setTop (mkF m 10 #[.val (.int p1), .val (.ref (F1 p1 wE wG wL)), .unset, .unset] [(.int p1), (.int (p1 >>> ((31 : Int32) &&& 31)))])) _
    refine XS.ineg X19.here hx rfl (hb hby at_10) rfl ?_
    show Steps p.tables e below (T19.setTop (mkF m 11 #[.val (.int p1), .val (.ref (F1 p1 wE wG wL)), .unset, .unset] [(.int (-p1)), (.int (p1 >>> ((31 : Int32) &&& 31)))])) _
    refine XS.bipush X19.here hx rfl (hb hby at_11) ?_
    show Steps p.tables e below (T19.setTop (mkF m 13 #[.val (.int p1), .val (.ref (F1 p1 wE wG wL)), .unset, .unset] [(.int (31 : Int32)), (.int (-p1)), (.int (p1 >>> ((31 : Int32) &&& 31)))])) _
    refine XS.iushr X19.here hx rfl (hb hby at_13) rfl ?_
    show Steps p.tables e below (T19.setTop (mkF m 14 #[.val (.int p1), .val (.ref (F1 p1 wE wG wL)), .unset, .unset] [(.int (((-p1).toUInt32 >>> ((31 : Int32) &&& 31).toUInt32).toInt32)), (.int (p1 >>> ((31 : Int32) &&& 31)))])) _
    refine XS.ior X19.here hx rfl (hb hby at_14) rfl ?_
    show Steps p.tables e below (T19.setTop (mkF m 15 #[.val (.int p1), .val (.ref (F1 p1 wE wG wL)), .unset, .unset] [(.int ((p1 >>> ((31 : Int32) &&& 31)) ||| (((-p1).toUInt32 >>> ((31 : Int32) &&& 31).toUInt32).toInt32)))])) _
    refine XS.istoreN X19.here hx rfl (hb hby at_15) rfl (l' := #[.val (.int p1), .val (.ref (F1 p1 wE wG wL)), .val (.int ((p1 >>> ((31 : Int32) &&& 31)) ||| (((-p1).toUInt32 >>> ((31 : Int32) &&& 31).toUInt32).toInt32))), .unset]) rfl ?_
    show Steps p.tables e below (T19.setTop (mkF m 16 #[.val (.int p1), .val (.ref (F1 p1 wE wG wL)), .val (.int ((p1 >>> ((31 : Int32) &&& 31)) ||| (((-p1).toUInt32 >>> ((31 : Int32) &&& 31).toUInt32).toInt32))), .unset] [])) _
    refine XS.iloadN X19.here hx rfl (hb hby at_16) rfl ?_
    show Steps p.tables e below (T19.setTop (mkF m 17 #[.val (.int p1), .val (.ref (F1 p1 wE wG wL)), .val (.int ((p1 >>> ((31 : Int32) &&& 31)) ||| (((-p1).toUInt32 >>> ((31 : Int32) &&& 31).toUInt32).toInt32))), .unset] [(.int ((p1 >>> ((31 : Int32) &&& 31)) ||| (((-p1).toUInt32 >>> ((31 : Int32) &&& 31).toUInt32).toInt32)))])) _
    refine XS.iconst X19.here hx rfl (hb hby at_17) ?_
    exact k
  by_cases hc22 : ((p1 >>> ((31 : Int32) &&& 31)) ||| (((-p1).toUInt32 >>> ((31 : Int32) &&& 31).toUInt32).toInt32)) = (-1 : Int32)
  · have pre23 : ∀ t, Steps p.tables e below (T19.setTop (mkF m 21 #[.val (.int p1), .val (.ref (F1 p1 wE wG wL)), .val (.int ((p1 >>> ((31 : Int32) &&& 31)) ||| (((-p1).toUInt32 >>> ((31 : Int32) &&& 31).toUInt32).toInt32))), .unset] [])) t → Steps p.tables e below (s₁.setTop (entryFrame m #[(.int p1)] maxLocals)) t := by
      intro t k
      refine pre21 _ ?_
      show Steps p.tables e below (T19.setTop (mkF m 18 #[.val (.int p1), .val (.ref (F1 p1 wE wG wL)), .val (.int ((p1 >>> ((31 : Int32) &&& 31)) ||| (((-p1).toUInt32 >>> ((31 : Int32) &&& 31).toUInt32).toInt32))), .unset] [(.int (-1 : Int32)), (.int ((p1 >>> ((31 : Int32) &&& 31)) ||| (((-p1).toUInt32 >>> ((31 : Int32) &&& 31).toUInt32).toInt32)))])) _
      refine XS.icmpNo X19.here hx rfl (hb hby at_18) rfl (teq hc22).2 ?_
      exact k
    have pre24 : ∀ t, Steps p.tables e below (T19.setTop (mkF m 22 #[.val (.int p1), .val (.ref (F1 p1 wE wG wL)), .val (.int ((p1 >>> ((31 : Int32) &&& 31)) ||| (((-p1).toUInt32 >>> ((31 : Int32) &&& 31).toUInt32).toInt32))), .unset] [(.ref (F1 p1 wE wG wL))])) t → Steps p.tables e below (s₁.setTop (entryFrame m #[(.int p1)] maxLocals)) t := by
      intro t k
      refine pre23 _ ?_
      show Steps p.tables e below (T19.setTop (mkF m 21 #[.val (.int p1), .val (.ref (F1 p1 wE wG wL)), .val (.int ((p1 >>> ((31 : Int32) &&& 31)) ||| (((-p1).toUInt32 >>> ((31 : Int32) &&& 31).toUInt32).toInt32))), .unset] [])) _
      refine XS.aloadN X19.here hx rfl (hb hby at_21) rfl rfl ?_
      exact k
    obtain ⟨T25, X25, e25, st25⟩ := getS2 X19 hx hZ hown (host := "") (Or.inl (hw _ (List.mem_of_getElem? (i := 12) rfl))) Via.refl e19 S_wL (g := (mkF m 22 #[.val (.int p1), .val (.ref (F1 p1 wE wG wL)), .val (.int ((p1 >>> ((31 : Int32) &&& 31)) ||| (((-p1).toUInt32 >>> ((31 : Int32) &&& 31).toUInt32).toInt32))), .unset] [(.ref (F1 p1 wE wG wL))])) rfl (hb hby at_22)
    have pre26 : ∀ t, Steps p.tables e below (T25.setTop (mkF m 25 #[.val (.int p1), .val (.ref (F1 p1 wE wG wL)), .val (.int ((p1 >>> ((31 : Int32) &&& 31)) ||| (((-p1).toUInt32 >>> ((31 : Int32) &&& 31).toUInt32).toInt32))), .unset] [(.ref wL), (.ref (F1 p1 wE wG wL))])) t → Steps p.tables e below (s₁.setTop (entryFrame m #[(.int p1)] maxLocals)) t := by
      intro t k
      refine pre24 _ ?_
      show Steps p.tables e below (T19.setTop (mkF m 22 #[.val (.int p1), .val (.ref (F1 p1 wE wG wL)), .val (.int ((p1 >>> ((31 : Int32) &&& 31)) ||| (((-p1).toUInt32 >>> ((31 : Int32) &&& 31).toUInt32).toInt32))), .unset] [(.ref (F1 p1 wE wG wL))])) _
      refine st25 _ ?_
      exact k
    by_cases ha27 : (F1 p1 wE wG wL) = wL
    · have pre28 : ∀ t, Steps p.tables e below (T25.setTop (mkF m 28 #[.val (.int p1), .val (.ref (F1 p1 wE wG wL)), .val (.int ((p1 >>> ((31 : Int32) &&& 31)) ||| (((-p1).toUInt32 >>> ((31 : Int32) &&& 31).toUInt32).toInt32))), .unset] [])) t → Steps p.tables e below (s₁.setTop (entryFrame m #[(.int p1)] maxLocals)) t := by
        intro t k
        refine pre26 _ ?_
        show Steps p.tables e below (T25.setTop (mkF m 25 #[.val (.int p1), .val (.ref (F1 p1 wE wG wL)), .val (.int ((p1 >>> ((31 : Int32) &&& 31)) ||| (((-p1).toUInt32 >>> ((31 : Int32) &&& 31).toUInt32).toInt32))), .unset] [(.ref wL), (.ref (F1 p1 wE wG wL))])) _
        refine Jvm.RoadKit.acmp (g := (mkF m 25 #[.val (.int p1), .val (.ref (F1 p1 wE wG wL)), .val (.int ((p1 >>> ((31 : Int32) &&& 31)) ||| (((-p1).toUInt32 >>> ((31 : Int32) &&& 31).toUInt32).toInt32))), .unset] [(.ref wL), (.ref (F1 p1 wE wG wL))])) X25 hx rfl rfl rfl (pc0 := 25) (pc' := 28) (same := true) rfl (hb hby at_25) rfl (decide_eq_true (congrArg Value.ref ha27)) (by decide) (by decide) ?_
        exact k
      have pre29 : ∀ t, Steps p.tables e below (T25.setTop (mkF m 81 #[.val (.int p1), .val (.ref (F1 p1 wE wG wL)), .val (.int ((p1 >>> ((31 : Int32) &&& 31)) ||| (((-p1).toUInt32 >>> ((31 : Int32) &&& 31).toUInt32).toInt32))), .val (.int (1 : Int32))] [(.int (1 : Int32))])) t → Steps p.tables e below (s₁.setTop (entryFrame m #[(.int p1)] maxLocals)) t := by
        intro t k
        refine pre28 _ ?_
        show Steps p.tables e below (T25.setTop (mkF m 28 #[.val (.int p1), .val (.ref (F1 p1 wE wG wL)), .val (.int ((p1 >>> ((31 : Int32) &&& 31)) ||| (((-p1).toUInt32 >>> ((31 : Int32) &&& 31).toUInt32).toInt32))), .unset] [])) _
        refine XS.iconst X25.here hx rfl (hb hby at_28) ?_
        show Steps p.tables e below (T25.setTop (mkF m 29 #[.val (.int p1), .val (.ref (F1 p1 wE wG wL)), .val (.int ((p1 >>> ((31 : Int32) &&& 31)) ||| (((-p1).toUInt32 >>> ((31 : Int32) &&& 31).toUInt32).toInt32))), .unset] [(.int (1 : Int32))])) _
        refine XS.goto X25.here hx rfl (pc0 := 29) (pc' := 33) rfl (hb hby at_29) (by decide) (by decide) ?_
        show Steps p.tables e below (T25.setTop (mkF m 33 #[.val (.int p1), .val (.ref (F1 p1 wE wG wL)), .val (.int ((p1 >>> ((31 : Int32) &&& 31)) ||| (((-p1).toUInt32 >>> ((31 : Int32) &&& 31).toUInt32).toInt32))), .unset] [(.int (1 : Int32))])) _
        refine XS.istoreN X25.here hx rfl (hb hby at_33) rfl (l' := #[.val (.int p1), .val (.ref (F1 p1 wE wG wL)), .val (.int ((p1 >>> ((31 : Int32) &&& 31)) ||| (((-p1).toUInt32 >>> ((31 : Int32) &&& 31).toUInt32).toInt32))), .val (.int (1 : Int32))]) rfl ?_
        show Steps p.tables e below (T25.setTop (mkF m 34 #[.val (.int p1), .val (.ref (F1 p1 wE wG wL)), .val (.int ((p1 >>> ((31 : Int32) &&& 31)) ||| (((-p1).toUInt32 >>> ((31 : Int32) &&& 31).toUInt32).toInt32))), .val (.int (1 : Int32))] [])) _
        refine XS.goto X25.here hx rfl (pc0 := 34) (pc' := 80) rfl (hb hby at_34) (by decide) (by decide) ?_
        show Steps p.tables e below (T25.setTop (mkF m 80 #[.val (.int p1), .val (.ref (F1 p1 wE wG wL)), .val (.int ((p1 >>> ((31 : Int32) &&& 31)) ||| (((-p1).toUInt32 >>> ((31 : Int32) &&& 31).toUInt32).toInt32))), .val (.int (1 : Int32))] [])) _
        refine XS.iloadN X25.here hx rfl (hb hby at_80) rfl ?_
        exact k
      obtain ⟨fs, hr, hrun, hended, hW, hsame⟩ := X25.leave (v := some (.int (1 : Int32))) (fun h => by rw [Bd.returns] at h; cases h)
      refine ⟨_, _, pre29 _ ?_, hrun, hended, _, _, rfl, ?_, ⟨_, rfl⟩, hW, hsame.mono (by decide) (by decide)⟩
      · show Steps p.tables e below (T25.setTop (mkF m 81 #[.val (.int p1), .val (.ref (F1 p1 wE wG wL)), .val (.int ((p1 >>> ((31 : Int32) &&& 31)) ||| (((-p1).toUInt32 >>> ((31 : Int32) &&& 31).toUInt32).toInt32))), .val (.int (1 : Int32))] [(.int (1 : Int32))])) _
        exact retN X25 hx (t := .boolean) Bd.returns (by simp) (hb hby at_81) hr
      · show Q0 Z p1 wE wG wL h0 n0 _ T25.heap _
        rw [e25]
        exact ⟨(by rw [F0, if_pos hc22, if_pos ha27]), N19, rfl⟩
    · have pre30 : ∀ t, Steps p.tables e below (T25.setTop (mkF m 32 #[.val (.int p1), .val (.ref (F1 p1 wE wG wL)), .val (.int ((p1 >>> ((31 : Int32) &&& 31)) ||| (((-p1).toUInt32 >>> ((31 : Int32) &&& 31).toUInt32).toInt32))), .unset] [])) t → Steps p.tables e below (s₁.setTop (entryFrame m #[(.int p1)] maxLocals)) t := by
        intro t k
        refine pre26 _ ?_
        show Steps p.tables e below (T25.setTop (mkF m 25 #[.val (.int p1), .val (.ref (F1 p1 wE wG wL)), .val (.int ((p1 >>> ((31 : Int32) &&& 31)) ||| (((-p1).toUInt32 >>> ((31 : Int32) &&& 31).toUInt32).toInt32))), .unset] [(.ref wL), (.ref (F1 p1 wE wG wL))])) _
        refine Jvm.RoadKit.acmp (g := (mkF m 25 #[.val (.int p1), .val (.ref (F1 p1 wE wG wL)), .val (.int ((p1 >>> ((31 : Int32) &&& 31)) ||| (((-p1).toUInt32 >>> ((31 : Int32) &&& 31).toUInt32).toInt32))), .unset] [(.ref wL), (.ref (F1 p1 wE wG wL))])) X25 hx rfl rfl rfl (pc0 := 25) (pc' := 32) (same := false) rfl (hb hby at_25) rfl (decide_eq_false fun q => ha27 (Value.ref.inj q)) (by decide) (by decide) ?_
        exact k
      have pre31 : ∀ t, Steps p.tables e below (T25.setTop (mkF m 81 #[.val (.int p1), .val (.ref (F1 p1 wE wG wL)), .val (.int ((p1 >>> ((31 : Int32) &&& 31)) ||| (((-p1).toUInt32 >>> ((31 : Int32) &&& 31).toUInt32).toInt32))), .val (.int (0 : Int32))] [(.int (0 : Int32))])) t → Steps p.tables e below (s₁.setTop (entryFrame m #[(.int p1)] maxLocals)) t := by
        intro t k
        refine pre30 _ ?_
        show Steps p.tables e below (T25.setTop (mkF m 32 #[.val (.int p1), .val (.ref (F1 p1 wE wG wL)), .val (.int ((p1 >>> ((31 : Int32) &&& 31)) ||| (((-p1).toUInt32 >>> ((31 : Int32) &&& 31).toUInt32).toInt32))), .unset] [])) _
        refine XS.iconst X25.here hx rfl (hb hby at_32) ?_
        show Steps p.tables e below (T25.setTop (mkF m 33 #[.val (.int p1), .val (.ref (F1 p1 wE wG wL)), .val (.int ((p1 >>> ((31 : Int32) &&& 31)) ||| (((-p1).toUInt32 >>> ((31 : Int32) &&& 31).toUInt32).toInt32))), .unset] [(.int (0 : Int32))])) _
        refine XS.istoreN X25.here hx rfl (hb hby at_33) rfl (l' := #[.val (.int p1), .val (.ref (F1 p1 wE wG wL)), .val (.int ((p1 >>> ((31 : Int32) &&& 31)) ||| (((-p1).toUInt32 >>> ((31 : Int32) &&& 31).toUInt32).toInt32))), .val (.int (0 : Int32))]) rfl ?_
        show Steps p.tables e below (T25.setTop (mkF m 34 #[.val (.int p1), .val (.ref (F1 p1 wE wG wL)), .val (.int ((p1 >>> ((31 : Int32) &&& 31)) ||| (((-p1).toUInt32 >>> ((31 : Int32) &&& 31).toUInt32).toInt32))), .val (.int (0 : Int32))] [])) _
        refine XS.goto X25.here hx rfl (pc0 := 34) (pc' := 80) rfl (hb hby at_34) (by decide) (by decide) ?_
        show Steps p.tables e below (T25.setTop (mkF m 80 #[.val (.int p1), .val (.ref (F1 p1 wE wG wL)), .val (.int ((p1 >>> ((31 : Int32) &&& 31)) ||| (((-p1).toUInt32 >>> ((31 : Int32) &&& 31).toUInt32).toInt32))), .val (.int (0 : Int32))] [])) _
        refine XS.iloadN X25.here hx rfl (hb hby at_80) rfl ?_
        exact k
      obtain ⟨fs, hr, hrun, hended, hW, hsame⟩ := X25.leave (v := some (.int (0 : Int32))) (fun h => by rw [Bd.returns] at h; cases h)
      refine ⟨_, _, pre31 _ ?_, hrun, hended, _, _, rfl, ?_, ⟨_, rfl⟩, hW, hsame.mono (by decide) (by decide)⟩
      · show Steps p.tables e below (T25.setTop (mkF m 81 #[.val (.int p1), .val (.ref (F1 p1 wE wG wL)), .val (.int ((p1 >>> ((31 : Int32) &&& 31)) ||| (((-p1).toUInt32 >>> ((31 : Int32) &&& 31).toUInt32).toInt32))), .val (.int (0 : Int32))] [(.int (0 : Int32))])) _
        exact retN X25 hx (t := .boolean) Bd.returns (by simp) (hb hby at_81) hr
      · show Q0 Z p1 wE wG wL h0 n0 _ T25.heap _
        rw [e25]
        exact ⟨(by rw [F0, if_pos hc22, if_neg ha27]), N19, rfl⟩
  · have pre32 : ∀ t, Steps p.tables e below (T19.setTop (mkF m 37 #[.val (.int p1), .val (.ref (F1 p1 wE wG wL)), .val (.int ((p1 >>> ((31 : Int32) &&& 31)) ||| (((-p1).toUInt32 >>> ((31 : Int32) &&& 31).toUInt32).toInt32))), .unset] [])) t → Steps p.tables e below (s₁.setTop (entryFrame m #[(.int p1)] maxLocals)) t := by
      intro t k
      refine pre21 _ ?_
      show Steps p.tables e below (T19.setTop (mkF m 18 #[.val (.int p1), .val (.ref (F1 p1 wE wG wL)), .val (.int ((p1 >>> ((31 : Int32) &&& 31)) ||| (((-p1).toUInt32 >>> ((31 : Int32) &&& 31).toUInt32).toInt32))), .unset] [(.int (-1 : Int32)), (.int ((p1 >>> ((31 : Int32) &&& 31)) ||| (((-p1).toUInt32 >>> ((31 : Int32) &&& 31).toUInt32).toInt32)))])) _
      refine XS.icmpYes X19.here hx rfl (pc0 := 18) (pc' := 37) rfl (hb hby at_18) rfl (feq hc22).2 (by decide) (by decide) ?_
      exact k
    have pre33 : ∀ t, Steps p.tables e below (T19.setTop (mkF m 39 #[.val (.int p1), .val (.ref (F1 p1 wE wG wL)), .val (.int ((p1 >>> ((31 : Int32) &&& 31)) ||| (((-p1).toUInt32 >>> ((31 : Int32) &&& 31).toUInt32).toInt32))), .unset] [(.int (1 : Int32)), (.int ((p1 >>> ((31 : Int32) &&& 31)) ||| (((-p1).toUInt32 >>> ((31 : Int32) &&& 31).toUInt32).toInt32)))])) t → Steps p.tables e below (s₁.setTop (entryFrame m #[(.int p1)] maxLocals)) t := by
      intro t k
      refine pre32 _ ?_
      show Steps p.tables e below (T19.setTop (mkF m 37 #[.val (.int p1), .val (.ref (F1 p1 wE wG wL)), .val (.int ((p1 >>> ((31 : Int32) &&& 31)) ||| (((-p1).toUInt32 >>> ((31 : Int32) &&& 31).toUInt32).toInt32))), .unset] [])) _
      refine XS.iloadN X19.here hx rfl (hb hby at_37) rfl ?_
      show Steps p.tables e below (T19.setTop (mkF m 38 #[.val (.int p1), .val (.ref (F1 p1 wE wG wL)), .val (.int ((p1 >>> ((31 : Int32) &&& 31)) ||| (((-p1).toUInt32 >>> ((31 : Int32) &&& 31).toUInt32).toInt32))), .unset] [(.int ((p1 >>> ((31 : Int32) &&& 31)) ||| (((-p1).toUInt32 >>> ((31 : Int32) &&& 31).toUInt32).toInt32)))])) _
      refine XS.iconst X19.here hx rfl (hb hby at_38) ?_
      exact k
    by_cases hc34 : ((p1 >>> ((31 : Int32) &&& 31)) ||| (((-p1).toUInt32 >>> ((31 : Int32) &&& 31).toUInt32).toInt32)) = (1 : Int32)
    · have pre35 : ∀ t, Steps p.tables e below (T19.setTop (mkF m 42 #[.val (.int p1), .val (.ref (F1 p1 wE wG wL)), .val (.int ((p1 >>> ((31 : Int32) &&& 31)) ||| (((-p1).toUInt32 >>> ((31 : Int32) &&& 31).toUInt32).toInt32))), .unset] [])) t → Steps p.tables e below (s₁.setTop (entryFrame m #[(.int p1)] maxLocals)) t := by
        intro t k
        refine pre33 _ ?_
        show Steps p.tables e below (T19.setTop (mkF m 39 #[.val (.int p1), .val (.ref (F1 p1 wE wG wL)), .val (.int ((p1 >>> ((31 : Int32) &&& 31)) ||| (((-p1).toUInt32 >>> ((31 : Int32) &&& 31).toUInt32).toInt32))), .unset] [(.int (1 : Int32)), (.int ((p1 >>> ((31 : Int32) &&& 31)) ||| (((-p1).toUInt32 >>> ((31 : Int32) &&& 31).toUInt32).toInt32)))])) _
        refine XS.icmpNo X19.here hx rfl (hb hby at_39) rfl (teq hc34).2 ?_
        exact k
      have pre36 : ∀ t, Steps p.tables e below (T19.setTop (mkF m 43 #[.val (.int p1), .val (.ref (F1 p1 wE wG wL)), .val (.int ((p1 >>> ((31 : Int32) &&& 31)) ||| (((-p1).toUInt32 >>> ((31 : Int32) &&& 31).toUInt32).toInt32))), .unset] [(.ref (F1 p1 wE wG wL))])) t → Steps p.tables e below (s₁.setTop (entryFrame m #[(.int p1)] maxLocals)) t := by
        intro t k
        refine pre35 _ ?_
        show Steps p.tables e below (T19.setTop (mkF m 42 #[.val (.int p1), .val (.ref (F1 p1 wE wG wL)), .val (.int ((p1 >>> ((31 : Int32) &&& 31)) ||| (((-p1).toUInt32 >>> ((31 : Int32) &&& 31).toUInt32).toInt32))), .unset] [])) _
        refine XS.aloadN X19.here hx rfl (hb hby at_42) rfl rfl ?_
        exact k
      obtain ⟨T37, X37, e37, st37⟩ := getS2 X19 hx hZ hown (host := "") (Or.inl (hw _ (List.mem_of_getElem? (i := 9) rfl))) Via.refl e19 S_wG (g := (mkF m 43 #[.val (.int p1), .val (.ref (F1 p1 wE wG wL)), .val (.int ((p1 >>> ((31 : Int32) &&& 31)) ||| (((-p1).toUInt32 >>> ((31 : Int32) &&& 31).toUInt32).toInt32))), .unset] [(.ref (F1 p1 wE wG wL))])) rfl (hb hby at_43)
      have pre38 : ∀ t, Steps p.tables e below (T37.setTop (mkF m 46 #[.val (.int p1), .val (.ref (F1 p1 wE wG wL)), .val (.int ((p1 >>> ((31 : Int32) &&& 31)) ||| (((-p1).toUInt32 >>> ((31 : Int32) &&& 31).toUInt32).toInt32))), .unset] [(.ref wG), (.ref (F1 p1 wE wG wL))])) t → Steps p.tables e below (s₁.setTop (entryFrame m #[(.int p1)] maxLocals)) t := by
        intro t k
        refine pre36 _ ?_
        show Steps p.tables e below (T19.setTop (mkF m 43 #[.val (.int p1), .val (.ref (F1 p1 wE wG wL)), .val (.int ((p1 >>> ((31 : Int32) &&& 31)) ||| (((-p1).toUInt32 >>> ((31 : Int32) &&& 31).toUInt32).toInt32))), .unset] [(.ref (F1 p1 wE wG wL))])) _
        refine st37 _ ?_
        exact k
      by_cases ha39 : (F1 p1 wE wG wL) = wG
      · have pre40 : ∀ t, Steps p.tables e below (T37.setTop (mkF m 49 #[.val (.int p1), .val (.ref (F1 p1 wE wG wL)), .val (.int ((p1 >>> ((31 : Int32) &&& 31)) ||| (((-p1).toUInt32 >>> ((31 : Int32) &&& 31).toUInt32).toInt32))), .unset] [])) t → Steps p.tables e below (s₁.setTop (entryFrame m #[(.int p1)] maxLocals)) t := by
          intro t k
          refine pre38 _ ?_
          show Steps p.tables e below (T37.setTop (mkF m 46 #[.val (.int p1), .val (.ref (F1 p1 wE wG wL)), .val (.int ((p1 >>> ((31 : Int32) &&& 31)) ||| (((-p1).toUInt32 >>> ((31 : Int32) &&& 31).toUInt32).toInt32))), .unset] [(.ref wG), (.ref (F1 p1 wE wG wL))])) _
          refine Jvm.RoadKit.acmp (g := (mkF m 46 #[.val (.int p1), .val (.ref (F1 p1 wE wG wL)), .val (.int ((p1 >>> ((31 : Int32) &&& 31)) ||| (((-p1).toUInt32 >>> ((31 : Int32) &&& 31).toUInt32).toInt32))), .unset] [(.ref wG), (.ref (F1 p1 wE wG wL))])) X37 hx rfl rfl rfl (pc0 := 46) (pc' := 49) (same := true) rfl (hb hby at_46) rfl (decide_eq_true (congrArg Value.ref ha39)) (by decide) (by decide) ?_
          exact k
        have pre41 : ∀ t, Steps p.tables e below (T37.setTop (mkF m 81 #[.val (.int p1), .val (.ref (F1 p1 wE wG wL)), .val (.int ((p1 >>> ((31 : Int32) &&& 31)) ||| (((-p1).toUInt32 >>> ((31 : Int32) &&& 31).toUInt32).toInt32))), .val (.int (1 : Int32))] [(.int (1 : Int32))])) t → Steps p.tables e below (s₁.setTop (entryFrame m #[(.int p1)] maxLocals)) t := by
          intro t k
          refine pre40 _ ?_
          show Steps p.tables e below (T37.setTop (mkF m 49 #[.val (.int p1), .val (.ref (F1 p1 wE wG wL)), .val (.int ((p1 >>> ((31 : Int32) &&& 31)) ||| (((-p1).toUInt32 >>> ((31 : Int32) &&& 31).toUInt32).toInt32))), .unset] [])) _
          refine XS.iconst X37.here hx rfl (hb hby at_49) ?_
          show Steps p.tables e below (T37.setTop (mkF m 50 #[.val (.int p1), .val (.ref (F1 p1 wE wG wL)), .val (.int ((p1 >>> ((31 : Int32) &&& 31)) ||| (((-p1).toUInt32 >>> ((31 : Int32) &&& 31).toUInt32).toInt32))), .unset] [(.int (1 : Int32))])) _
          refine XS.goto X37.here hx rfl (pc0 := 50) (pc' := 54) rfl (hb hby at_50) (by decide) (by decide) ?_
          show Steps p.tables e below (T37.setTop (mkF m 54 #[.val (.int p1), .val (.ref (F1 p1 wE wG wL)), .val (.int ((p1 >>> ((31 : Int32) &&& 31)) ||| (((-p1).toUInt32 >>> ((31 : Int32) &&& 31).toUInt32).toInt32))), .unset] [(.int (1 : Int32))])) _
          refine XS.istoreN X37.here hx rfl (hb hby at_54) rfl (l' := #[.val (.int p1), .val (.ref (F1 p1 wE wG wL)), .val (.int ((p1 >>> ((31 : Int32) &&& 31)) ||| (((-p1).toUInt32 >>> ((31 : Int32) &&& 31).toUInt32).toInt32))), .val (.int (1 : Int32))]) rfl ?_
          show Steps p.tables e below (T37.setTop (mkF m 55 #[.val (.int p1), .val (.ref (F1 p1 wE wG wL)), .val (.int ((p1 >>> ((31 : Int32) &&& 31)) ||| (((-p1).toUInt32 >>> ((31 : Int32) &&& 31).toUInt32).toInt32))), .val (.int (1 : Int32))] [])) _
          refine XS.goto X37.here hx rfl (pc0 := 55) (pc' := 80) rfl (hb hby at_55) (by decide) (by decide) ?_
          show Steps p.tables e below (T37.setTop (mkF m 80 #[.val (.int p1), .val (.ref (F1 p1 wE wG wL)), .val (.int ((p1 >>> ((31 : Int32) &&& 31)) ||| (((-p1).toUInt32 >>> ((31 : Int32) &&& 31).toUInt32).toInt32))), .val (.int (1 : Int32))] [])) _
          refine XS.iloadN X37.here hx rfl (hb hby at_80) rfl ?_
          exact k
        obtain ⟨fs, hr, hrun, hended, hW, hsame⟩ := X37.leave (v := some (.int (1 : Int32))) (fun h => by rw [Bd.returns] at h; cases h)
        refine ⟨_, _, pre41 _ ?_, hrun, hended, _, _, rfl, ?_, ⟨_, rfl⟩, hW, hsame.mono (by decide) (by decide)⟩
        · show Steps p.tables e below (T37.setTop (mkF m 81 #[.val (.int p1), .val (.ref (F1 p1 wE wG wL)), .val (.int ((p1 >>> ((31 : Int32) &&& 31)) ||| (((-p1).toUInt32 >>> ((31 : Int32) &&& 31).toUInt32).toInt32))), .val (.int (1 : Int32))] [(.int (1 : Int32))])) _
          exact retN X37 hx (t := .boolean) Bd.returns (by simp) (hb hby at_81) hr
        · show Q0 Z p1 wE wG wL h0 n0 _ T37.heap _
          rw [e37]
          exact ⟨(by rw [F0, if_neg hc22, if_pos hc34, if_pos ha39]), N19, rfl⟩
      · have pre42 : ∀ t, Steps p.tables e below (T37.setTop (mkF m 53 #[.val (.int p1), .val (.ref (F1 p1 wE wG wL)), .val (.int ((p1 >>> ((31 : Int32) &&& 31)) ||| (((-p1).toUInt32 >>> ((31 : Int32) &&& 31).toUInt32).toInt32))), .unset] [])) t → Steps p.tables e below (s₁.setTop (entryFrame m #[(.int p1)] maxLocals)) t := by
          intro t k
          refine pre38 _ ?_
          show Steps p.tables e below (T37.setTop (mkF m 46 #[.val (.int p1), .val (.ref (F1 p1 wE wG wL)), .val (.int ((p1 >>> ((31 : Int32) &&& 31)) ||| (((-p1).toUInt32 >>> ((31 : Int32) &&& 31).toUInt32).toInt32))), .unset] [(.ref wG), (.ref (F1 p1 wE wG wL))])) _
          refine Jvm.RoadKit.acmp (g := (mkF m 46 #[.val (.int p1), .val (.ref (F1 p1 wE wG wL)), .val (.int ((p1 >>> ((31 : Int32) &&& 31)) ||| (((-p1).toUInt32 >>> ((31 : Int32) &&& 31).toUInt32).toInt32))), .unset] [(.ref wG), (.ref (F1 p1 wE wG wL))])) X37 hx rfl rfl rfl (pc0 := 46) (pc' := 53) (same := false) rfl (hb hby at_46) rfl (decide_eq_false fun q => ha39 (Value.ref.inj q)) (by decide) (by decide) ?_
          exact k
        have pre43 : ∀ t, Steps p.tables e below (T37.setTop (mkF m 81 #[.val (.int p1), .val (.ref (F1 p1 wE wG wL)), .val (.int ((p1 >>> ((31 : Int32) &&& 31)) ||| (((-p1).toUInt32 >>> ((31 : Int32) &&& 31).toUInt32).toInt32))), .val (.int (0 : Int32))] [(.int (0 : Int32))])) t → Steps p.tables e below (s₁.setTop (entryFrame m #[(.int p1)] maxLocals)) t := by
          intro t k
          refine pre42 _ ?_
          show Steps p.tables e below (T37.setTop (mkF m 53 #[.val (.int p1), .val (.ref (F1 p1 wE wG wL)), .val (.int ((p1 >>> ((31 : Int32) &&& 31)) ||| (((-p1).toUInt32 >>> ((31 : Int32) &&& 31).toUInt32).toInt32))), .unset] [])) _
          refine XS.iconst X37.here hx rfl (hb hby at_53) ?_
          show Steps p.tables e below (T37.setTop (mkF m 54 #[.val (.int p1), .val (.ref (F1 p1 wE wG wL)), .val (.int ((p1 >>> ((31 : Int32) &&& 31)) ||| (((-p1).toUInt32 >>> ((31 : Int32) &&& 31).toUInt32).toInt32))), .unset] [(.int (0 : Int32))])) _
          refine XS.istoreN X37.here hx rfl (hb hby at_54) rfl (l' := #[.val (.int p1), .val (.ref (F1 p1 wE wG wL)), .val (.int ((p1 >>> ((31 : Int32) &&& 31)) ||| (((-p1).toUInt32 >>> ((31 : Int32) &&& 31).toUInt32).toInt32))), .val (.int (0 : Int32))]) rfl ?_
          show Steps p.tables e below (T37.setTop (mkF m 55 #[.val (.int p1), .val (.ref (F1 p1 wE wG wL)), .val (.int ((p1 >>> ((31 : Int32) &&& 31)) ||| (((-p1).toUInt32 >>> ((31 : Int32) &&& 31).toUInt32).toInt32))), .val (.int (0 : Int32))] [])) _
          refine XS.goto X37.here hx rfl (pc0 := 55) (pc' := 80) rfl (hb hby at_55) (by decide) (by decide) ?_
          show Steps p.tables e below (T37.setTop (mkF m 80 #[.val (.int p1), .val (.ref (F1 p1 wE wG wL)), .val (.int ((p1 >>> ((31 : Int32) &&& 31)) ||| (((-p1).toUInt32 >>> ((31 : Int32) &&& 31).toUInt32).toInt32))), .val (.int (0 : Int32))] [])) _
          refine XS.iloadN X37.here hx rfl (hb hby at_80) rfl ?_
          exact k
        obtain ⟨fs, hr, hrun, hended, hW, hsame⟩ := X37.leave (v := some (.int (0 : Int32))) (fun h => by rw [Bd.returns] at h; cases h)
        refine ⟨_, _, pre43 _ ?_, hrun, hended, _, _, rfl, ?_, ⟨_, rfl⟩, hW, hsame.mono (by decide) (by decide)⟩
        · show Steps p.tables e below (T37.setTop (mkF m 81 #[.val (.int p1), .val (.ref (F1 p1 wE wG wL)), .val (.int ((p1 >>> ((31 : Int32) &&& 31)) ||| (((-p1).toUInt32 >>> ((31 : Int32) &&& 31).toUInt32).toInt32))), .val (.int (0 : Int32))] [(.int (0 : Int32))])) _
          exact retN X37 hx (t := .boolean) Bd.returns (by simp) (hb hby at_81) hr
        · show Q0 Z p1 wE wG wL h0 n0 _ T37.heap _
          rw [e37]
          exact ⟨(by rw [F0, if_neg hc22, if_pos hc34, if_neg ha39]), N19, rfl⟩
    · have pre44 : ∀ t, Steps p.tables e below (T19.setTop (mkF m 58 #[.val (.int p1), .val (.ref (F1 p1 wE wG wL)), .val (.int ((p1 >>> ((31 : Int32) &&& 31)) ||| (((-p1).toUInt32 >>> ((31 : Int32) &&& 31).toUInt32).toInt32))), .unset] [])) t → Steps p.tables e below (s₁.setTop (entryFrame m #[(.int p1)] maxLocals)) t := by
        intro t k
        refine pre33 _ ?_
        show Steps p.tables e below (T19.setTop (mkF m 39 #[.val (.int p1), .val (.ref (F1 p1 wE wG wL)), .val (.int ((p1 >>> ((31 : Int32) &&& 31)) ||| (((-p1).toUInt32 >>> ((31 : Int32) &&& 31).toUInt32).toInt32))), .unset] [(.int (1 : Int32)), (.int ((p1 >>> ((31 : Int32) &&& 31)) ||| (((-p1).toUInt32 >>> ((31 : Int32) &&& 31).toUInt32).toInt32)))])) _
        refine XS.icmpYes X19.here hx rfl (pc0 := 39) (pc' := 58) rfl (hb hby at_39) rfl (feq hc34).2 (by decide) (by decide) ?_
        exact k
      have pre45 : ∀ t, Steps p.tables e below (T19.setTop (mkF m 59 #[.val (.int p1), .val (.ref (F1 p1 wE wG wL)), .val (.int ((p1 >>> ((31 : Int32) &&& 31)) ||| (((-p1).toUInt32 >>> ((31 : Int32) &&& 31).toUInt32).toInt32))), .unset] [(.int ((p1 >>> ((31 : Int32) &&& 31)) ||| (((-p1).toUInt32 >>> ((31 : Int32) &&& 31).toUInt32).toInt32)))])) t → Steps p.tables e below (s₁.setTop (entryFrame m #[(.int p1)] maxLocals)) t := by
        intro t k
        refine pre44 _ ?_
        show Steps p.tables e below (T19.setTop (mkF m 58 #[.val (.int p1), .val (.ref (F1 p1 wE wG wL)), .val (.int ((p1 >>> ((31 : Int32) &&& 31)) ||| (((-p1).toUInt32 >>> ((31 : Int32) &&& 31).toUInt32).toInt32))), .unset] [])) _
        refine XS.iloadN X19.here hx rfl (hb hby at_58) rfl ?_
        exact k
      by_cases hc46 : ((p1 >>> ((31 : Int32) &&& 31)) ||| (((-p1).toUInt32 >>> ((31 : Int32) &&& 31).toUInt32).toInt32)) = (0 : Int32)
      · have pre47 : ∀ t, Steps p.tables e below (T19.setTop (mkF m 62 #[.val (.int p1), .val (.ref (F1 p1 wE wG wL)), .val (.int ((p1 >>> ((31 : Int32) &&& 31)) ||| (((-p1).toUInt32 >>> ((31 : Int32) &&& 31).toUInt32).toInt32))), .unset] [])) t → Steps p.tables e below (s₁.setTop (entryFrame m #[(.int p1)] maxLocals)) t := by
          intro t k
          refine pre45 _ ?_
          show Steps p.tables e below (T19.setTop (mkF m 59 #[.val (.int p1), .val (.ref (F1 p1 wE wG wL)), .val (.int ((p1 >>> ((31 : Int32) &&& 31)) ||| (((-p1).toUInt32 >>> ((31 : Int32) &&& 31).toUInt32).toInt32))), .unset] [(.int ((p1 >>> ((31 : Int32) &&& 31)) ||| (((-p1).toUInt32 >>> ((31 : Int32) &&& 31).toUInt32).toInt32)))])) _
          refine XS.ifNo X19.here hx rfl (hb hby at_59) rfl ((if0 _ _).trans (teq hc46).2) ?_
          exact k
        have pre48 : ∀ t, Steps p.tables e below (T19.setTop (mkF m 63 #[.val (.int p1), .val (.ref (F1 p1 wE wG wL)), .val (.int ((p1 >>> ((31 : Int32) &&& 31)) ||| (((-p1).toUInt32 >>> ((31 : Int32) &&& 31).toUInt32).toInt32))), .unset] [(.ref (F1 p1 wE wG wL))])) t → Steps p.tables e below (s₁.setTop (entryFrame m #[(.int p1)] maxLocals)) t := by
          intro t k
          refine pre47 _ ?_
          show Steps p.tables e below (T19.setTop (mkF m 62 #[.val (.int p1), .val (.ref (F1 p1 wE wG wL)), .val (.int ((p1 >>> ((31 : Int32) &&& 31)) ||| (((-p1).toUInt32 >>> ((31 : Int32) &&& 31).toUInt32).toInt32))), .unset] [])) _
          refine XS.aloadN X19.here hx rfl (hb hby at_62) rfl rfl ?_
          exact k
        obtain ⟨T49, X49, e49, st49⟩ := getS2 X19 hx hZ hown (host := "") (Or.inl (hw _ (List.mem_of_getElem? (i := 6) rfl))) Via.refl e19 S_wE (g := (mkF m 63 #[.val (.int p1), .val (.ref (F1 p1 wE wG wL)), .val (.int ((p1 >>> ((31 : Int32) &&& 31)) ||| (((-p1).toUInt32 >>> ((31 : Int32) &&& 31).toUInt32).toInt32))), .unset] [(.ref (F1 p1 wE wG wL))])) rfl (hb hby at_63)
        have pre50 : ∀ t, Steps p.tables e below (T49.setTop (mkF m 66 #[.val (.int p1), .val (.ref (F1 p1 wE wG wL)), .val (.int ((p1 >>> ((31 : Int32) &&& 31)) ||| (((-p1).toUInt32 >>> ((31 : Int32) &&& 31).toUInt32).toInt32))), .unset] [(.ref wE), (.ref (F1 p1 wE wG wL))])) t → Steps p.tables e below (s₁.setTop (entryFrame m #[(.int p1)] maxLocals)) t := by
          intro t k
          refine pre48 _ ?_
          show Steps p.tables e below (T19.setTop (mkF m 63 #[.val (.int p1), .val (.ref (F1 p1 wE wG wL)), .val (.int ((p1 >>> ((31 : Int32) &&& 31)) ||| (((-p1).toUInt32 >>> ((31 : Int32) &&& 31).toUInt32).toInt32))), .unset] [(.ref (F1 p1 wE wG wL))])) _
          refine st49 _ ?_
          exact k
        by_cases ha51 : (F1 p1 wE wG wL) = wE
        · have pre52 : ∀ t, Steps p.tables e below (T49.setTop (mkF m 69 #[.val (.int p1), .val (.ref (F1 p1 wE wG wL)), .val (.int ((p1 >>> ((31 : Int32) &&& 31)) ||| (((-p1).toUInt32 >>> ((31 : Int32) &&& 31).toUInt32).toInt32))), .unset] [])) t → Steps p.tables e below (s₁.setTop (entryFrame m #[(.int p1)] maxLocals)) t := by
            intro t k
            refine pre50 _ ?_
            show Steps p.tables e below (T49.setTop (mkF m 66 #[.val (.int p1), .val (.ref (F1 p1 wE wG wL)), .val (.int ((p1 >>> ((31 : Int32) &&& 31)) ||| (((-p1).toUInt32 >>> ((31 : Int32) &&& 31).toUInt32).toInt32))), .unset] [(.ref wE), (.ref (F1 p1 wE wG wL))])) _
            refine Jvm.RoadKit.acmp (g := (mkF m 66 #[.val (.int p1), .val (.ref (F1 p1 wE wG wL)), .val (.int ((p1 >>> ((31 : Int32) &&& 31)) ||| (((-p1).toUInt32 >>> ((31 : Int32) &&& 31).toUInt32).toInt32))), .unset] [(.ref wE), (.ref (F1 p1 wE wG wL))])) X49 hx rfl rfl rfl (pc0 := 66) (pc' := 69) (same := true) rfl (hb hby at_66) rfl (decide_eq_true (congrArg Value.ref ha51)) (by decide) (by decide) ?_
            exact k
          have pre53 : ∀ t, Steps p.tables e below (T49.setTop (mkF m 81 #[.val (.int p1), .val (.ref (F1 p1 wE wG wL)), .val (.int ((p1 >>> ((31 : Int32) &&& 31)) ||| (((-p1).toUInt32 >>> ((31 : Int32) &&& 31).toUInt32).toInt32))), .val (.int (1 : Int32))] [(.int (1 : Int32))])) t → Steps p.tables e below (s₁.setTop (entryFrame m #[(.int p1)] maxLocals)) t := by
            intro t k
            refine pre52 _ ?_
            show Steps p.tables e below (T49.setTop (mkF m 69 #[.val (.int p1), .val (.ref (F1 p1 wE wG wL)), .val (.int ((p1 >>> ((31 : Int32) &&& 31)) ||| (((-p1).toUInt32 >>> ((31 : Int32) &&& 31).toUInt32).toInt32))), .unset] [])) _
            refine XS.iconst X49.here hx rfl (hb hby at_69) ?_
            show Steps p.tables e below (T49.setTop (mkF m 70 #[.val (.int p1), .val (.ref (F1 p1 wE wG wL)), .val (.int ((p1 >>> ((31 : Int32) &&& 31)) ||| (((-p1).toUInt32 >>> ((31 : Int32) &&& 31).toUInt32).toInt32))), .unset] [(.int (1 : Int32))])) _
            refine XS.goto X49.here hx rfl (pc0 := 70) (pc' := 74) rfl (hb hby at_70) (by decide) (by decide) ?_
            show Steps p.tables e below (T49.setTop (mkF m 74 #[.val (.int p1), .val (.ref (F1 p1 wE wG wL)), .val (.int ((p1 >>> ((31 : Int32) &&& 31)) ||| (((-p1).toUInt32 >>> ((31 : Int32) &&& 31).toUInt32).toInt32))), .unset] [(.int (1 : Int32))])) _
            refine XS.istoreN X49.here hx rfl (hb hby at_74) rfl (l' := #[.val (.int p1), .val (.ref (F1 p1 wE wG wL)), .val (.int ((p1 >>> ((31 : Int32) &&& 31)) ||| (((-p1).toUInt32 >>> ((31 : Int32) &&& 31).toUInt32).toInt32))), .val (.int (1 : Int32))]) rfl ?_
            show Steps p.tables e below (T49.setTop (mkF m 75 #[.val (.int p1), .val (.ref (F1 p1 wE wG wL)), .val (.int ((p1 >>> ((31 : Int32) &&& 31)) ||| (((-p1).toUInt32 >>> ((31 : Int32) &&& 31).toUInt32).toInt32))), .val (.int (1 : Int32))] [])) _
            refine XS.goto X49.here hx rfl (pc0 := 75) (pc' := 80) rfl (hb hby at_75) (by decide) (by decide) ?_
            show Steps p.tables e below (T49.setTop (mkF m 80 #[.val (.int p1), .val (.ref (F1 p1 wE wG wL)), .val (.int ((p1 >>> ((31 : Int32) &&& 31)) ||| (((-p1).toUInt32 >>> ((31 : Int32) &&& 31).toUInt32).toInt32))), .val (.int (1 : Int32))] [])) _
            refine XS.iloadN X49.here hx rfl (hb hby at_80) rfl ?_
            exact k
          obtain ⟨fs, hr, hrun, hended, hW, hsame⟩ := X49.leave (v := some (.int (1 : Int32))) (fun h => by rw [Bd.returns] at h; cases h)
          refine ⟨_, _, pre53 _ ?_, hrun, hended, _, _, rfl, ?_, ⟨_, rfl⟩, hW, hsame.mono (by decide) (by decide)⟩
          · show Steps p.tables e below (T49.setTop (mkF m 81 #[.val (.int p1), .val (.ref (F1 p1 wE wG wL)), .val (.int ((p1 >>> ((31 : Int32) &&& 31)) ||| (((-p1).toUInt32 >>> ((31 : Int32) &&& 31).toUInt32).toInt32))), .val (.int (1 : Int32))] [(.int (1 : Int32))])) _
            exact retN X49 hx (t := .boolean) Bd.returns (by simp) (hb hby at_81) hr
          · show Q0 Z p1 wE wG wL h0 n0 _ T49.heap _
            rw [e49]
            exact ⟨(by rw [F0, if_neg hc22, if_neg hc34, if_pos hc46, if_pos ha51]), N19, rfl⟩
        · have pre54 : ∀ t, Steps p.tables e below (T49.setTop (mkF m 73 #[.val (.int p1), .val (.ref (F1 p1 wE wG wL)), .val (.int ((p1 >>> ((31 : Int32) &&& 31)) ||| (((-p1).toUInt32 >>> ((31 : Int32) &&& 31).toUInt32).toInt32))), .unset] [])) t → Steps p.tables e below (s₁.setTop (entryFrame m #[(.int p1)] maxLocals)) t := by
            intro t k
            refine pre50 _ ?_
            show Steps p.tables e below (T49.setTop (mkF m 66 #[.val (.int p1), .val (.ref (F1 p1 wE wG wL)), .val (.int ((p1 >>> ((31 : Int32) &&& 31)) ||| (((-p1).toUInt32 >>> ((31 : Int32) &&& 31).toUInt32).toInt32))), .unset] [(.ref wE), (.ref (F1 p1 wE wG wL))])) _
            refine Jvm.RoadKit.acmp (g := (mkF m 66 #[.val (.int p1), .val (.ref (F1 p1 wE wG wL)), .val (.int ((p1 >>> ((31 : Int32) &&& 31)) ||| (((-p1).toUInt32 >>> ((31 : Int32) &&& 31).toUInt32).toInt32))), .unset] [(.ref wE), (.ref (F1 p1 wE wG wL))])) X49 hx rfl rfl rfl (pc0 := 66) (pc' := 73) (same := false) rfl (hb hby at_66) rfl (decide_eq_false fun q => ha51 (Value.ref.inj q)) (by decide) (by decide) ?_
            exact k
          have pre55 : ∀ t, Steps p.tables e below (T49.setTop (mkF m 81 #[.val (.int p1), .val (.ref (F1 p1 wE wG wL)), .val (.int ((p1 >>> ((31 : Int32) &&& 31)) ||| (((-p1).toUInt32 >>> ((31 : Int32) &&& 31).toUInt32).toInt32))), .val (.int (0 : Int32))] [(.int (0 : Int32))])) t → Steps p.tables e below (s₁.setTop (entryFrame m #[(.int p1)] maxLocals)) t := by
            intro t k
            refine pre54 _ ?_
            show Steps p.tables e below (T49.setTop (mkF m 73 #[.val (.int p1), .val (.ref (F1 p1 wE wG wL)), .val (.int ((p1 >>> ((31 : Int32) &&& 31)) ||| (((-p1).toUInt32 >>> ((31 : Int32) &&& 31).toUInt32).toInt32))), .unset] [])) _
            refine XS.iconst X49.here hx rfl (hb hby at_73) ?_
            show Steps p.tables e below (T49.setTop (mkF m 74 #[.val (.int p1), .val (.ref (F1 p1 wE wG wL)), .val (.int ((p1 >>> ((31 : Int32) &&& 31)) ||| (((-p1).toUInt32 >>> ((31 : Int32) &&& 31).toUInt32).toInt32))), .unset] [(.int (0 : Int32))])) _
            refine XS.istoreN X49.here hx rfl (hb hby at_74) rfl (l' := #[.val (.int p1), .val (.ref (F1 p1 wE wG wL)), .val (.int ((p1 >>> ((31 : Int32) &&& 31)) ||| (((-p1).toUInt32 >>> ((31 : Int32) &&& 31).toUInt32).toInt32))), .val (.int (0 : Int32))]) rfl ?_
            show Steps p.tables e below (T49.setTop (mkF m 75 #[.val (.int p1), .val (.ref (F1 p1 wE wG wL)), .val (.int ((p1 >>> ((31 : Int32) &&& 31)) ||| (((-p1).toUInt32 >>> ((31 : Int32) &&& 31).toUInt32).toInt32))), .val (.int (0 : Int32))] [])) _
            refine XS.goto X49.here hx rfl (pc0 := 75) (pc' := 80) rfl (hb hby at_75) (by decide) (by decide) ?_
            show Steps p.tables e below (T49.setTop (mkF m 80 #[.val (.int p1), .val (.ref (F1 p1 wE wG wL)), .val (.int ((p1 >>> ((31 : Int32) &&& 31)) ||| (((-p1).toUInt32 >>> ((31 : Int32) &&& 31).toUInt32).toInt32))), .val (.int (0 : Int32))] [])) _
            refine XS.iloadN X49.here hx rfl (hb hby at_80) rfl ?_
            exact k
          obtain ⟨fs, hr, hrun, hended, hW, hsame⟩ := X49.leave (v := some (.int (0 : Int32))) (fun h => by rw [Bd.returns] at h; cases h)
          refine ⟨_, _, pre55 _ ?_, hrun, hended, _, _, rfl, ?_, ⟨_, rfl⟩, hW, hsame.mono (by decide) (by decide)⟩
          · show Steps p.tables e below (T49.setTop (mkF m 81 #[.val (.int p1), .val (.ref (F1 p1 wE wG wL)), .val (.int ((p1 >>> ((31 : Int32) &&& 31)) ||| (((-p1).toUInt32 >>> ((31 : Int32) &&& 31).toUInt32).toInt32))), .val (.int (0 : Int32))] [(.int (0 : Int32))])) _
            exact retN X49 hx (t := .boolean) Bd.returns (by simp) (hb hby at_81) hr
          · show Q0 Z p1 wE wG wL h0 n0 _ T49.heap _
            rw [e49]
            exact ⟨(by rw [F0, if_neg hc22, if_neg hc34, if_pos hc46, if_neg ha51]), N19, rfl⟩
      · have pre56 : ∀ t, Steps p.tables e below (T19.setTop (mkF m 78 #[.val (.int p1), .val (.ref (F1 p1 wE wG wL)), .val (.int ((p1 >>> ((31 : Int32) &&& 31)) ||| (((-p1).toUInt32 >>> ((31 : Int32) &&& 31).toUInt32).toInt32))), .unset] [])) t → Steps p.tables e below (s₁.setTop (entryFrame m #[(.int p1)] maxLocals)) t := by
          intro t k
          refine pre45 _ ?_
          show Steps p.tables e below (T19.setTop (mkF m 59 #[.val (.int p1), .val (.ref (F1 p1 wE wG wL)), .val (.int ((p1 >>> ((31 : Int32) &&& 31)) ||| (((-p1).toUInt32 >>> ((31 : Int32) &&& 31).toUInt32).toInt32))), .unset] [(.int ((p1 >>> ((31 : Int32) &&& 31)) ||| (((-p1).toUInt32 >>> ((31 : Int32) &&& 31).toUInt32).toInt32)))])) _
          refine XS.ifYes X19.here hx rfl (pc0 := 59) (pc' := 78) rfl (hb hby at_59) rfl ((if0 _ _).trans (feq hc46).2) (by decide) (by decide) ?_
          exact k
        have pre57 : ∀ t, Steps p.tables e below (T19.setTop (mkF m 81 #[.val (.int p1), .val (.ref (F1 p1 wE wG wL)), .val (.int ((p1 >>> ((31 : Int32) &&& 31)) ||| (((-p1).toUInt32 >>> ((31 : Int32) &&& 31).toUInt32).toInt32))), .val (.int (0 : Int32))] [(.int (0 : Int32))])) t → Steps p.tables e below (s₁.setTop (entryFrame m #[(.int p1)] maxLocals)) t := by
          intro t k
          refine pre56 _ ?_
          show Steps p.tables e below (T19.setTop (mkF m 78 #[.val (.int p1), .val (.ref (F1 p1 wE wG wL)), .val (.int ((p1 >>> ((31 : Int32) &&& 31)) ||| (((-p1).toUInt32 >>> ((31 : Int32) &&& 31).toUInt32).toInt32))), .unset] [])) _
          refine XS.iconst X19.here hx rfl (hb hby at_78) ?_
          show Steps p.tables e below (T19.setTop (mkF m 79 #[.val (.int p1), .val (.ref (F1 p1 wE wG wL)), .val (.int ((p1 >>> ((31 : Int32) &&& 31)) ||| (((-p1).toUInt32 >>> ((31 : Int32) &&& 31).toUInt32).toInt32))), .unset] [(.int (0 : Int32))])) _
          refine XS.istoreN X19.here hx rfl (hb hby at_79) rfl (l' := #[.val (.int p1), .val (.ref (F1 p1 wE wG wL)), .val (.int ((p1 >>> ((31 : Int32) &&& 31)) ||| (((-p1).toUInt32 >>> ((31 : Int32) &&& 31).toUInt32).toInt32))), .val (.int (0 : Int32))]) rfl ?_
          show Steps p.tables e below (T19.setTop (mkF m 80 #[.val (.int p1), .val (.ref (F1 p1 wE wG wL)), .val (.int ((p1 >>> ((31 : Int32) &&& 31)) ||| (((-p1).toUInt32 >>> ((31 : Int32) &&& 31).toUInt32).toInt32))), .val (.int (0 : Int32))] [])) _
          refine XS.iloadN X19.here hx rfl (hb hby at_80) rfl ?_
          exact k
        obtain ⟨fs, hr, hrun, hended, hW, hsame⟩ := X19.leave (v := some (.int (0 : Int32))) (fun h => by rw [Bd.returns] at h; cases h)
        refine ⟨_, _, pre57 _ ?_, hrun, hended, _, _, rfl, ?_, ⟨_, rfl⟩, hW, hsame.mono (by decide) (by decide)⟩
        · show Steps p.tables e below (T19.setTop (mkF m 81 #[.val (.int p1), .val (.ref (F1 p1 wE wG wL)), .val (.int ((p1 >>> ((31 : Int32) &&& 31)) ||| (((-p1).toUInt32 >>> ((31 : Int32) &&& 31).toUInt32).toInt32))), .val (.int (0 : Int32))] [(.int (0 : Int32))])) _
          exact retN X19 hx (t := .boolean) Bd.returns (by simp) (hb hby at_81) hr
        · show Q0 Z p1 wE wG wL h0 n0 _ T19.heap _
          rw [e19]
          exact ⟨(by rw [F0, if_neg hc22, if_neg hc34, if_neg hc46]), N19, rfl⟩
theorem own_or (b : Int32) : (-1 : Int32) ||| b = -1 := by
  apply Int32.toBitVec_inj.mp
  show (BitVec.allOnes 32) ||| b.toBitVec = BitVec.allOnes 32
  exact BitVec.allOnes_or
theorem plain0 (p1 : Int32) (wE wG wL : Addr) : F0 p1 wE wG wL = 1 := by
  have sh := c_ishr p1 31 31 (by decide)
  have p31 : ((2 ^ 31 : Nat) : Int) = 2147483648 := by decide
  rw [p31] at sh
  have us := c_iushr (-p1) 31 31 (by decide) (by decide)
  rw [p31] at us
  have ng := c_ineg p1
  have rp := rng32 p1
  have rn := rng32 (-p1)
  have n0 : (0 : Int32).toInt = 0 := rfl
  have n1 : (1 : Int32).toInt = 1 := rfl
  have nm : (-1 : Int32).toInt = -1 := rfl
  unfold F0 F1
  generalize p1 >>> ((31 : Int32) &&& 31) = a at *
  generalize ((-p1).toUInt32 >>> ((31 : Int32) &&& 31).toUInt32).toInt32 = b at *
  by_cases h : p1.toInt < 0
  · have ha : a = -1 := by apply Int32.toInt_inj.mp; rw [sh, nm]; omega
    have hp : p1 < 0 := by rw [Int32.lt_iff_toInt_lt, n0]; exact h
    rw [ha, own_or b, if_pos rfl, if_pos hp, if_pos rfl]
  · have ha : a = 0 := by apply Int32.toInt_inj.mp; rw [sh, n0]; omega
    have hp : ¬ p1 < 0 := by rw [Int32.lt_iff_toInt_lt, n0]; exact h
    by_cases h0 : p1.toInt = 0
    · have hb : b = 0 := by apply Int32.toInt_inj.mp; rw [us, n0]; omega
      have hq : ¬ 0 < p1 := by rw [Int32.lt_iff_toInt_lt, n0]; omega
      rw [ha, hb, if_neg (by decide), if_neg (by decide), if_pos (by decide), if_neg hp, if_neg hq, if_pos rfl]
    · have hb : b = 1 := by apply Int32.toInt_inj.mp; rw [us, n1]; omega
      have hq : 0 < p1 := by rw [Int32.lt_iff_toInt_lt, n0]; omega
      rw [ha, hb, if_neg (by decide), if_pos (by decide), if_neg hp, if_pos hq, if_pos rfl]
set_option maxRecDepth 65536 in
set_option maxHeartbeats 40000000 in
theorem comes_1 {Post : Tables → Env → Array Value → State → Outcome → State → Prop} (hpost : ∀ tb e args s v u, (limb_1_1.after args s (.returned v) u = true ∧ limb_1_2.after args s (.returned v) u = true ∧ True) → FrameEnd s (.returned v) u (Jvm.fieldLocs frame_1_writes args s ++ Jvm.arrayLocs frame_1_arrays args s ++ Jvm.staticLocs frame_1_statics s) 0 0 → Post tb e args s (.returned v) u) :
    ArmFor flags0 classFile x code maxLocals ret World_1 tables_1 room_1 Calls_1 rest_1 Pre_1 Post := by
  intro l hfl _ _ p e ha hc hk s m args below hf hA hF happ hP
  obtain ⟨hcalls, hrest, hpre⟩ := hP
  obtain ⟨-, -, -, hnamed, -, -, -, hat⟩ := (Spec.applies_iff hf).mp happ
  obtain ⟨hg, hn⟩ := and_e (Cond.before_iff.mp (show (Jvm.Cond.and given_1 narrow_1).before args s = true from hpre))
  obtain ⟨g58, g59⟩ := and_e hg
  obtain ⟨w0, rfl⟩ : ∃ w0 : Value, args = #[w0] := by
    have hs : args.size = 1 := by simpa [Cond.value, given_1] using g58
    obtain ⟨L⟩ := args
    match L, hs with
    | [w0], _ => exact ⟨w0, rfl⟩
  have hw := fun d (hd : d ∈ tables_1) => atoms_spec (ws := Jvm.Cond.code x code maxLocals ret :: tables_1) hat d (List.mem_cons_of_mem _ hd)
  have hfit : Fit s := fun {y c} hc i hi => by
    obtain ⟨ha, rfl⟩ := Array.getElem?_eq_some_iff.mp hc
    have q := List.all_eq_true.mp ((Array.all_eq_true_iff_forall_mem.mp hF) _ (Array.getElem_mem ha)) i (List.mem_range.mpr hi)
    simpa [Array.getElem?_eq_getElem hi] using q
  obtain ⟨i0, ei0⟩ := is_v g59
  obtain rfl : w0 = (.int i0) := Option.some.inj ei0
  obtain ⟨n1, n2⟩ := and_e hn
  obtain ⟨n3, n4⟩ := and_e n2
  obtain ⟨aE, evE⟩ := exa_v n1
  obtain ⟨aG, evG⟩ := exa_v n3
  obtain ⟨aL, evL⟩ := exa_v n4
  have SE := Sta.start evE (Or.inr ⟨(hw _ (List.mem_of_getElem? (i := 2) rfl)), (hw _ (List.mem_of_getElem? (i := 5) rfl))⟩)
  have SG := Sta.start evG (Or.inr ⟨(hw _ (List.mem_of_getElem? (i := 2) rfl)), (hw _ (List.mem_of_getElem? (i := 8) rfl))⟩)
  have SL := Sta.start evL (Or.inr ⟨(hw _ (List.mem_of_getElem? (i := 2) rfl)), (hw _ (List.mem_of_getElem? (i := 11) rfl))⟩)
  obtain ⟨n, o, h1, h2, h3, v, L, rfl, ⟨hv, N, -⟩, hq⟩ := rm0 l s _ hw tables_1 i0 aE aG aL s.heap s.heap.size (Nat.le_refl _) SE SG SL p e ha hc hk s m _ below hf ((Spec.applies_iff_loose hf).mp happ).1 ⟨rfl, State.Warmed39.refl s, rfl⟩ trivial
  rw [plain0] at hv
  subst hv
  refine ⟨n, _, h1, h2, h3, hpost _ _ _ _ _ _ ⟨Cond.after_iff.mpr rfl, Cond.after_iff.mpr (eq_i res_at (Term.int_eval (1)) rfl), trivial⟩ ⟨hq.1, hq.2.1, (hq.2.2.sift fun y hy => Or.inr (N y hy)).mono (by decide) (by decide)⟩⟩
theorem main_1_1 : Claimed_1_1 := comes_1 fun _ _ _ _ _ _ h hF => ⟨h.1, hF⟩
theorem main_1_2 : Claimed_1_2 := comes_1 fun _ _ _ _ _ _ h hF => ⟨h.2.1, hF⟩
end Jvm.Pilot.@@N@@
namespace Jvm.Pilot.@@N@@
open Jvm Jvm.ClassFile Sem Op Lib Jvm.Free Jvm.Stand Jvm.Pilot.@@N@@.Jvm.D
/-! MADE BY PROGRAM (witnessworld.py) out of the Statement's table words and the real class files: 10 classes; the members and pool entries that the words name. The judged class is class 1, her method 1. -/
namespace start1
open Jvm.ClassFile
def u (s : String) : CpInfo := .utf8 (stringToUtf16 s)
/-- a pool by its gaps: so many unusable entries, then the entry; so many at the end -/
def gap : Nat → List CpInfo → List CpInfo
  | 0, r => r
  | n + 1, r => .unusable :: gap n r
def poolList (es : List (Nat × CpInfo)) (last : Nat) : List CpInfo := es.foldr (fun e r => gap e.1 (e.2 :: r)) (gap last [])
def pool (es : List (Nat × CpInfo)) (last : Nat) : Array CpInfo := ⟨poolList es last⟩
def fileOf (pool : Array CpInfo) (this : Nat) (attrs : Array Attribute := #[]) (ms : Array MethodInfo := #[]) (fl : Nat := 33) (sup : Nat := 0) (ifs : Array Nat := #[]) (fds : Array FieldInfo := #[]) : ClassFile where
  minorVersion := 0
  majorVersion := 65
  constantPool := pool
  accessFlags := fl
  thisClass := this
  superClass := sup
  interfaces := ifs
  fields := fds
  methods := ms
  attributes := attrs
def plain (name : String) (sup : Option ClassId) : Class where
  name := name
  kind := .ordinary
  loader := none
  accessFlags := 33
  super := sup
  interfaces := #[]
  cf := none
  fields := #[]
  methods := #[]
  instanceTypes := #[]
  staticTypes := #[]
  resolved := #[]
  callSites := []
  init := .initialized
  statics := none
  mirror := none

def pool0 : Array CpInfo := pool [(5, u "<init>"), (0, u "()V"), (1, .class_ 10), (1, u "java/lang/Object")] 113

def k0m0 : Method := { name := "<init>", desc := "()V", sig := { parameters := [], returnType := none }, accessFlags := 1, code := none }
/-- java/lang/Object -/
def k0 : Class := { plain "java/lang/Object" none with
  accessFlags := 33
  interfaces := #[]
  cf := some (fileOf pool0 8 #[] #[{ accessFlags := 1, nameIndex := 5, descriptorIndex := 6, attributes := #[] }] 33 0 #[] #[])
  fields := #[]
  methods := #[k0m0]
  instanceTypes := #[]
  staticTypes := #[]
  resolved := Array.replicate 124 none
  statics := none }

def pool1 : Array CpInfo := pool [(2, .class_ 4), (1, u "java/lang/Object"), (0, u "<init>"), (0, u "()V"), (0, .methodref 8 9), (0, .class_ 10), (0, .nameAndType 11 12), (0, u "com/example/pinholt/pinholt/engine/Order"), (0, u "of"), (0, u "(I)Lcom/example/pinholt/pinholt/engine/Order;"), (0, .fieldref 8 14), (0, .nameAndType 15 16), (0, u "LESS"), (0, u "Lcom/example/pinholt/pinholt/engine/Order;"), (0, .fieldref 8 18), (0, .nameAndType 19 16), (0, u "GREATER"), (0, .fieldref 8 21), (0, .nameAndType 22 16), (0, u "EQUAL"), (0, .class_ 24), (0, u "com/example/pinholt/pinholt/engine/OrderOfPinLaw"), (2, u "law"), (0, u "(I)Z")] 3

def k1m0 : Method := { name := "<init>", desc := "()V", sig := { parameters := [], returnType := none }, accessFlags := 1, code := none }
def k1c1 : Code := { maxStack := 3, maxLocals := 4, code := code, exceptionTable := #[], attributes := #[] }
def k1m1 : Method := { name := "law", desc := "(I)Z", sig := { parameters := [.int], returnType := some .boolean }, accessFlags := 9, code := some k1c1 }
/-- com/example/pinholt/pinholt/engine/OrderOfPinLaw -/
def k1 : Class := { plain "com/example/pinholt/pinholt/engine/OrderOfPinLaw" (some 0) with
  accessFlags := 49
  interfaces := #[]
  cf := some (fileOf pool1 23 #[] #[{ accessFlags := 1, nameIndex := 5, descriptorIndex := 6, attributes := #[] }, { accessFlags := 9, nameIndex := 27, descriptorIndex := 28, attributes := #[] }] 49 2 #[] #[])
  fields := #[]
  methods := #[k1m0, k1m1]
  instanceTypes := #[]
  staticTypes := #[]
  resolved := Array.replicate 32 none
  statics := none }

def pool2 : Array CpInfo := pool [(1, .class_ 2), (0, u "java/lang/constant/Constable"), (0, .class_ 4), (0, u "java/lang/Object")] 6

/-- java/lang/constant/Constable -/
def k2 : Class := { plain "java/lang/constant/Constable" (some 0) with
  accessFlags := 1537
  interfaces := #[]
  cf := some (fileOf pool2 1 #[] #[] 1537 3 #[] #[])
  fields := #[]
  methods := #[]
  instanceTypes := #[]
  staticTypes := #[]
  resolved := Array.replicate 11 none
  statics := none }

def pool3 : Array CpInfo := pool [(1, .class_ 2), (0, u "java/lang/Comparable"), (0, .class_ 4), (0, u "java/lang/Object")] 7

/-- java/lang/Comparable -/
def k3 : Class := { plain "java/lang/Comparable" (some 0) with
  accessFlags := 1537
  interfaces := #[]
  cf := some (fileOf pool3 1 #[] #[] 1537 3 #[] #[])
  fields := #[]
  methods := #[]
  instanceTypes := #[]
  staticTypes := #[]
  resolved := Array.replicate 12 none
  statics := none }

def pool4 : Array CpInfo := pool [(1, .class_ 2), (0, u "java/io/Serializable"), (0, .class_ 4), (0, u "java/lang/Object")] 2

/-- java/io/Serializable -/
def k4 : Class := { plain "java/io/Serializable" (some 0) with
  accessFlags := 1537
  interfaces := #[]
  cf := some (fileOf pool4 1 #[] #[] 1537 3 #[] #[])
  fields := #[]
  methods := #[]
  instanceTypes := #[]
  staticTypes := #[]
  resolved := Array.replicate 7 none
  statics := none }

def pool5 : Array CpInfo := pool [(2, .class_ 4), (1, u "java/lang/Enum"), (0, u "name"), (0, u "Ljava/lang/String;"), (2, u "ordinal"), (0, u "I"), (1, .class_ 14), (1, u "java/lang/Object"), (4, u "hash"), (86, .class_ 108), (1, u "java/lang/Enum$EnumDesc"), (2, .class_ 112), (0, u "java/lang/constant/Constable"), (0, .class_ 114), (0, u "java/lang/Comparable"), (0, .class_ 116), (0, u "java/io/Serializable")] 87

/-- java/lang/Enum -/
def k5 : Class := { plain "java/lang/Enum" (some 0) with
  accessFlags := 1057
  interfaces := #[2, 3, 4]
  cf := some (fileOf pool5 2 #[.nestMembers #[106]] #[] 1057 12 #[111, 113, 115] #[{ accessFlags := 18, nameIndex := 5, descriptorIndex := 6, attributes := #[] }, { accessFlags := 18, nameIndex := 9, descriptorIndex := 10, attributes := #[] }, { accessFlags := 2, nameIndex := 19, descriptorIndex := 10, attributes := #[] }])
  fields := #[{ name := "name", type := (.object "java/lang/String"), accessFlags := 18, slot := 0, constantValue := 0 }, { name := "ordinal", type := .int, accessFlags := 18, slot := 1, constantValue := 0 }, { name := "hash", type := .int, accessFlags := 2, slot := 2, constantValue := 0 }]
  methods := #[]
  instanceTypes := #[(.object "java/lang/String"), .int, .int]
  staticTypes := #[]
  resolved := Array.replicate 204 none
  statics := none }

def pool6 : Array CpInfo := pool [(1, .class_ 2), (0, u "com/example/pinholt/pinholt/engine/Order"), (0, .fieldref 1 4), (0, .nameAndType 5 6), (0, u "LESS"), (0, u "Lcom/example/pinholt/pinholt/engine/Order;"), (0, .fieldref 1 8), (0, .nameAndType 9 6), (0, u "EQUAL"), (0, .fieldref 1 11), (0, .nameAndType 12 6), (0, u "GREATER"), (2, u "UNORDERED"), (2, u "$VALUES"), (0, u "[Lcom/example/pinholt/pinholt/engine/Order;"), (6, .class_ 28), (1, u "java/lang/Enum"), (22, u "of"), (0, u "(I)Lcom/example/pinholt/pinholt/engine/Order;")] 5

def k6c0 : Code := { maxStack := 1, maxLocals := 2, code := prog_54_method_4_code, exceptionTable := #[], attributes := #[] }
def k6m0 : Method := { name := "of", desc := "(I)Lcom/example/pinholt/pinholt/engine/Order;", sig := { parameters := [.int], returnType := some (.object "com/example/pinholt/pinholt/engine/Order") }, accessFlags := 8, code := some k6c0 }
/-- com/example/pinholt/pinholt/engine/Order -/
def k6 : Class := { plain "com/example/pinholt/pinholt/engine/Order" (some 5) with
  accessFlags := 16432
  interfaces := #[]
  cf := some (fileOf pool6 1 #[] #[{ accessFlags := 8, nameIndex := 51, descriptorIndex := 52, attributes := #[] }] 16432 26 #[] #[{ accessFlags := 16409, nameIndex := 5, descriptorIndex := 6, attributes := #[] }, { accessFlags := 16409, nameIndex := 9, descriptorIndex := 6, attributes := #[] }, { accessFlags := 16409, nameIndex := 12, descriptorIndex := 6, attributes := #[] }, { accessFlags := 16409, nameIndex := 15, descriptorIndex := 6, attributes := #[] }, { accessFlags := 4122, nameIndex := 18, descriptorIndex := 19, attributes := #[] }])
  fields := #[{ name := "LESS", type := (.object "com/example/pinholt/pinholt/engine/Order"), accessFlags := 16409, slot := 0, constantValue := 0 }, { name := "EQUAL", type := (.object "com/example/pinholt/pinholt/engine/Order"), accessFlags := 16409, slot := 1, constantValue := 0 }, { name := "GREATER", type := (.object "com/example/pinholt/pinholt/engine/Order"), accessFlags := 16409, slot := 2, constantValue := 0 }, { name := "UNORDERED", type := (.object "com/example/pinholt/pinholt/engine/Order"), accessFlags := 16409, slot := 3, constantValue := 0 }, { name := "$VALUES", type := (.array (.object "com/example/pinholt/pinholt/engine/Order")), accessFlags := 4122, slot := 4, constantValue := 0 }]
  methods := #[k6m0]
  instanceTypes := #[(.object "java/lang/String"), .int, .int]
  staticTypes := #[(.object "com/example/pinholt/pinholt/engine/Order"), (.object "com/example/pinholt/pinholt/engine/Order"), (.object "com/example/pinholt/pinholt/engine/Order"), (.object "com/example/pinholt/pinholt/engine/Order"), (.array (.object "com/example/pinholt/pinholt/engine/Order"))]
  resolved := Array.replicate 58 none
  statics := some 0 }

def pool7 : Array CpInfo := pool [(1, u "java/lang/Cloneable"), (0, .class_ 1), (0, u "java/lang/Object"), (0, .class_ 3)] 3

/-- java/lang/Cloneable -/
def k7 : Class := { plain "java/lang/Cloneable" (some 0) with
  accessFlags := 1537
  interfaces := #[]
  cf := some (fileOf pool7 2 #[] #[] 1537 4 #[] #[])
  fields := #[]
  methods := #[]
  instanceTypes := #[]
  staticTypes := #[]
  resolved := Array.replicate 8 none
  statics := none }

/-- the primitive byte -/
def k8 : Class := { plain "byte" none with kind := .primitive 'B', accessFlags := 0x411 }
/-- [B -/
def k9 : Class := { plain "[B" (some 0) with kind := .array 8 .byte, interfaces := #[7, 4], accessFlags := 1041 }

def heap : Heap := #[{ cls := 6, slots := #[.ref 3, .ref 1, .ref 2, .null, .null], vm := .statics 6 },
  { cls := 6, slots := #[.null, .int 0, .int 0], vm := .none },
  { cls := 6, slots := #[.null, .int 1, .int 0], vm := .none },
  { cls := 6, slots := #[.null, .int 2, .int 0], vm := .none }]
def classes : Array Class := #[k0, k1, k2, k3, k4, k5, k6, k7, k8, k9]
def interned : List (Array UInt16 × Addr) := []
def slotsUsed : Nat := 14
def theMethod : MethodId := ⟨1, 1⟩
def args0 : Array Value := #[.int 5]
def aboutOver (below : List Frame) : State where
  vm := { classes := classes, interned := interned.toArray }
  heap := heap
  slotsUsed := slotsUsed
  threads := #[{ frames := .invoking theMethod args0 :: below }]
def below0 : List Frame := [.native { method := ⟨0, 0⟩, args := #[] }]
def about1 : State := aboutOver below0
def p0 : Program := .bare "" "" ""
def e0 : Env := launch0.env 0 0 0
theorem w_frames : about1.frames = Frame.invoking theMethod args0 :: below0 := rfl
set_option maxRecDepth 65536 in
theorem w_args : argsFit about1.vm theMethod args0 = true := by decide +kernel
set_option maxRecDepth 65536 in
theorem w_heap : heapFits about1 = true := by decide +kernel
set_option maxRecDepth 65536 in
theorem w_runnable : about1.curStatus? = some .runnable := by decide +kernel
set_option maxRecDepth 65536 in
theorem w_alone : about1.alone = true := by decide +kernel
set_option maxRecDepth 65536 in
theorem w_named : about1.methodNamed? x = some theMethod := by decide +kernel
set_option maxRecDepth 65536 in
theorem w_hears : about1.hears theMethod below0 = true := by decide +kernel
set_option maxRecDepth 65536 in
theorem w_ripe : about1.ripe theMethod args0 below0 = true := by decide +kernel
theorem w_running : about1.status = .running := rfl
set_option maxRecDepth 65536 in
theorem w_room : about1.hasRoom e0.platform room_1 = true :=
  launch0.hasRoom_least _ room_1 (by decide +kernel) (by decide +kernel) (by decide +kernel) (by decide +kernel) (by decide +kernel) (by decide +kernel)
theorem allAtoms_all (ts : List Jvm.Cond) (a : Array Jvm.Value) (st : Jvm.State) : (allAtoms ts).before a st = ts.all (fun c => c.before a st) := by
  induction ts with
  | nil => rfl
  | cons c t ih =>
    show (Jvm.Cond.and c (allAtoms t)).before a st = _
    rw [Jvm.Cond.before_and, ih, List.all_cons]
def words1 : List Jvm.Cond := Jvm.Cond.code x code maxLocals ret :: tables_1
/-- a 'code' word, met by the world's own term for the bytes: nothing is compared byte by byte -/
theorem code_word {y : MethodName} {bytes : ByteArray} {mx : Nat} {rt : Option FieldType} {a : Array Value} {s : State} {m : MethodId} {meth : Method} {c : Code} (h1 : s.methodNamed? y = some m) (h2 : s.vm.method? m = some meth) (h3 : meth.code = some c) (h4 : c.code = bytes)
    (h5 : (c.maxLocals == mx && c.exceptionTable.isEmpty && decide (c.maxStack ≤ mostOperands) && decide (meth.sig.returnType = rt) && !meth.locks && decide (parseMethodDescriptor y.desc = some meth.sig)) = true) : (Jvm.Cond.code y bytes mx rt).before a s = true := by
  simp only [Bool.and_eq_true, beq_iff_eq, Bool.not_eq_true', decide_eq_true_eq] at h5
  obtain ⟨⟨⟨⟨⟨g1, g2⟩, g3⟩, g4⟩, g5⟩, g6⟩ := h5
  simp [Cond.before, Cond.holds, Cond.value, h1, h2, h3, h4, g1, g2, g3, g4, g5, g6]
def isCode : Jvm.Cond → Bool
  | .code _ _ _ _ => true
  | _ => false
theorem all_split {L : List Jvm.Cond} {P : Jvm.Cond → Bool} (h1 : L.all (fun c => isCode c || P c) = true) (h2 : ∀ c ∈ L.filter isCode, P c = true) : L.all P = true := by
  refine List.all_eq_true.mpr fun c hc => ?_
  have h := List.all_eq_true.mp h1 c hc
  rcases Bool.eq_false_or_eq_true (isCode c) with hi | hi
  · exact h2 c (List.mem_filter.mpr ⟨hc, hi⟩)
  · simpa [hi] using h
set_option maxRecDepth 65536 in
theorem w_c0 : (Jvm.Cond.code x code maxLocals ret).before args0 about1 = true := code_word (m := ⟨1, 1⟩) (meth := k1m1) (c := k1c1) (by decide +kernel) rfl rfl rfl (by decide +kernel)
set_option maxRecDepth 65536 in
theorem w_c1 : (Jvm.Cond.code ({ cls := "com/example/pinholt/pinholt/engine/Order", name := "of", desc := "(I)Lcom/example/pinholt/pinholt/engine/Order;" } : Jvm.MethodName) prog_54_method_4_code (2 : Nat) (Option.some (Jvm.ClassFile.FieldType.object "com/example/pinholt/pinholt/engine/Order"))).before args0 about1 = true := code_word (m := ⟨6, 0⟩) (meth := k6m0) (c := k6c0) (by decide +kernel) rfl rfl rfl (by decide +kernel)
def codes1 : List Jvm.Cond := [Jvm.Cond.code x code maxLocals ret, Jvm.Cond.code ({ cls := "com/example/pinholt/pinholt/engine/Order", name := "of", desc := "(I)Lcom/example/pinholt/pinholt/engine/Order;" } : Jvm.MethodName) prog_54_method_4_code (2 : Nat) (Option.some (Jvm.ClassFile.FieldType.object "com/example/pinholt/pinholt/engine/Order"))]
set_option maxRecDepth 65536 in
theorem codes_eq : words1.filter isCode = codes1 := rfl
theorem w_codes : ∀ c ∈ words1.filter isCode, c.before args0 about1 = true := by
  rw [codes_eq]
  intro c hc
  simp only [codes1, List.mem_cons, List.not_mem_nil, or_false] at hc
  rcases hc with rfl | rfl
  · exact w_c0
  · exact w_c1
set_option maxRecDepth 65536 in
theorem w_t1 : words1.all (fun c => isCode c || c.before args0 about1) = true := by decide +kernel
theorem w_tables : (allAtoms (Jvm.Cond.code x code maxLocals ret :: tables_1)).before args0 about1 = true := by
  rw [allAtoms_all]
  show words1.all (fun c => c.before args0 about1) = true
  refine all_split ?_ w_codes
  rw [w_t1]
set_option maxRecDepth 65536 in
theorem w_case : (Jvm.Cond.and given_1 narrow_1).before args0 about1 = true := by decide +kernel
theorem w_applies : (headSpec (Jvm.Cond.code x code maxLocals ret :: tables_1) room_1).applies x e0.platform about1 = true :=
  (Spec.applies_iff w_frames).mpr ⟨w_running, w_runnable, w_alone, w_named, w_hears, w_ripe, w_room, w_tables⟩
theorem atStart : AtStart classFile x code maxLocals ret World_1 tables_1 room_1 Calls_1 rest_1 Pre_1 launch0 p0 e0 about1 theMethod args0 below0 :=
  ⟨lists_1, trivial, launch0.admits_env _ _ _, launch0.least_env, fairChoices_fair.cas, fairChoices_fair.clock, w_frames, w_args, w_heap, w_applies, trivial, trivial, w_case⟩
end start1
theorem witness_1 : WitnessClaimed_1 := ⟨start1.p0, start1.e0, start1.about1, start1.theMethod, start1.args0, start1.below0, start1.atStart⟩
end Jvm.Pilot.@@N@@
