import JvmDerived
import JvmDerived.Pilot.@@N@@Statement
import JvmDerived.Pilot.@@N@@Code
set_option linter.unusedVariables false
set_option linter.unusedSimpArgs false
namespace Jvm.RoadKit
open Sem ClassFile Op Lib Jvm.Stand Jvm.Free Jvm.LawKit
section New
variable {p : Program} {l : Launch} {e : Env} {R : Room} {s : State} {m : MethodId} {args : Array Value} {below : List Frame} {meth : Method} {c : Code} {T : State} {locs : List Loc} {cells slots : Nat}
theorem retI (X : Stand p l e R s m args below meth c T locs cells slots) (hx : p.tables.exec = Jvm.exec) {pc : Nat} {Ls : Array Slot} {z : Int32} {rest : List Value} (hret : meth.sig.returnType = some .int) (hd : decode c.code pc = .ok (.ireturn, 1)) {fs : List Frame}
    (hl : ∀ (f : JFrame) (acts : List Action), f.method = m → f.locked = none → f.entered = [] → (doReturn e (T.setTop f) acts (some (.int z))).1 = T.setFrames fs) : Steps p.tables e below (T.setTop (mkF m pc Ls (.int z :: rest))) (T.setFrames fs) := by
  have hm' : T.vm.method? m = some meth := X.method'
  have hn : narrow .int (.int z) = .int z := rfl
  show Steps p.tables e below (T.setTop { method := m, pc := pc, locals := Ls, stack := _ :: rest, locked := none }) _
  jvm_step X.here [X.here.top, hx, hd, hm', hret, hn]
  first | (intro acts; rw [hl _ acts rfl rfl rfl]) | rw [hl _ _ rfl rfl rfl]
  exact Steps.refl _
end New
end Jvm.RoadKit
namespace Jvm.Pilot.@@N@@
open Jvm Jvm.ClassFile Sem Op Lib Jvm.Free Jvm.Stand Jvm.LawKit Jvm.RoadKit Bundle Jvm.Pilot.@@N@@.Jvm.D
theorem d1_0 : decode prog_6_method_13_code 0 = .ok (.iload_n 0, 1) := by decide +kernel
theorem d1_1 : decode prog_6_method_13_code 1 = .ok (.i2l, 1) := by decide +kernel
theorem d1_2 : decode prog_6_method_13_code 2 = .ok (.ldc2_w 137, 3) := by decide +kernel
theorem d1_5 : decode prog_6_method_13_code 5 = .ok (.lmul, 1) := by decide +kernel
theorem d1_6 : decode prog_6_method_13_code 6 = .ok (.ldc2_w 139, 3) := by decide +kernel
theorem d1_9 : decode prog_6_method_13_code 9 = .ok (.lsub, 1) := by decide +kernel
theorem d1_10 : decode prog_6_method_13_code 10 = .ok (.bipush 41, 2) := by decide +kernel
theorem d1_12 : decode prog_6_method_13_code 12 = .ok (.lshr, 1) := by decide +kernel
theorem d1_13 : decode prog_6_method_13_code 13 = .ok (.l2i, 1) := by decide +kernel
theorem d1_14 : decode prog_6_method_13_code 14 = .ok (.ireturn, 1) := by decide +kernel
theorem pn_1 : plainName "spillway/NumberText" = true := by first | (simp [plainName, overriddenIn]; done) | decide +kernel
theorem ef_1 (m : MethodId) (x0 : Int32) : entryFrame m #[(.int x0)] 1 = mkF m 0 #[.val (.int x0)] [] := by first | (simp [entryFrame, mkF, argsToLocals, Value.category]; done) | rfl
def F1 (p1 : Int32) : Int32 :=
  (((((p1.toInt64) * (661971961083 : Int64)) - (274743187321 : Int64)) >>> ((41 : Int32) &&& 0x3f).toInt64).toInt32)
def Q1 (Z : State) (p1 : Int32) (h0 : Heap) (n0 : Nat) (v : Option Value) (h : Heap) (L : List Loc) : Prop := v = some (.int (F1 p1)) ∧ Fr n0 L ∧ h = h0
set_option maxRecDepth 65536 in
set_option maxHeartbeats 40000000 in
theorem rm1 (l : Launch) (Z : State) (a0 : Array Value) (hw : ∀ d ∈ tables_1, d.before a0 Z = true) (ws : List Jvm.Cond) (p1 : Int32) (h0 : Heap) (n0 : Nat) (Z0 : n0 ≤ h0.size)  :
    MetFree l (⟨"spillway/NumberText", "floorLog10ThreeQuartersPow2", "(I)I"⟩ : MethodName) (head1 (Jvm.Cond.code (⟨"spillway/NumberText", "floorLog10ThreeQuartersPow2", "(I)I"⟩ : MethodName) prog_6_method_13_code 1 (some .int) :: ws) ({ frames := 0, cells := 0, slots := 0, locals := 0 } : Room)) (fun a U => a = #[(.int p1)] ∧ Z.Warmed39 U.vm ∧ U.heap = h0) (fun _ _ _ _ _ => True) (fun _ U o U' => ∃ v L, o = .returned v ∧ Q1 Z p1 h0 n0 v U'.heap L ∧ FrameEnd U o U' L ({ frames := 0, cells := 0, slots := 0, locals := 0 } : Room).cells ({ frames := 0, cells := 0, slots := 0, locals := 0 } : Room).slots) := by
  refine MetFree.of_bodySF (plainFor_of_name pn_1) hisR ?_
  intro p e s m args below meth c s₁ Bd hml0 hP hK
  obtain ⟨rfl, hZ, hh⟩ := hP
  have hx := Bd.exec
  have hby := Bd.bytes
  have hml : c.maxLocals = 1 := hml0
  have hown : s.vm.findClass "spillway/NumberText" = some m.cls := findClass_of_methodNamed Bd.named
  have hnm := (name_of_methodNamed Bd.named Bd.method).1
  have X0 : Stand p l e ({ frames := 0, cells := 0, slots := 0, locals := 0 } : Room) s m #[(.int p1)] below meth c s₁ [] 0 0 := Stand.of_body Bd
  have e0 : s₁.heap = h0 := by rw [← hh, Bd.state]; rfl
  have N0 := Fr.nil n0
  have pre0 : ∀ t, Steps p.tables e below (s₁.setTop (mkF m 0 #[.val (.int p1)] [])) t → Steps p.tables e below (s₁.setTop (entryFrame m #[(.int p1)] 1)) t := fun t k => castTop (ef_1 m p1) k
  have pre1 : ∀ t, Steps p.tables e below (s₁.setTop (mkF m 14 #[.val (.int p1)] [(.int (((((p1.toInt64) * (661971961083 : Int64)) - (274743187321 : Int64)) >>> ((41 : Int32) &&& 0x3f).toInt64).toInt32))])) t → Steps p.tables e below (s₁.setTop (entryFrame m #[(.int p1)] 1)) t := by
    intro t k
    refine pre0 _ ?_
    show Steps p.tables e below (s₁.setTop (mkF m 0 #[.val (.int p1)] [])) _
    refine XS.iloadN X0.here hx rfl (hb hby d1_0) rfl ?_
    show Steps p.tables e below (s₁.setTop (mkF m 1 #[.val (.int p1)] [(.int p1)])) _
    refine XS.i2l X0.here hx rfl (hb hby d1_1) rfl ?_
    show Steps p.tables e below (s₁.setTop (mkF m 2 #[.val (.int p1)] [(.long (p1.toInt64))])) _
    refine X0.ldc2Long hx hown (mvT hZ (hw _ (List.mem_of_getElem? (i := 5) rfl))) (g := (mkF m 2 #[.val (.int p1)] [(.long (p1.toInt64))])) rfl (hb hby d1_2) _ ?_
    show Steps p.tables e below (s₁.setTop (mkF m 5 #[.val (.int p1)] [(.long (661971961083 : Int64)), (.long (p1.toInt64))])) _
    refine XS.lmul X0.here hx rfl (hb hby d1_5) rfl ?_
    show Steps p.tables e below (s₁.setTop (mkF m 6 #[.val (.int p1)] [(.long ((p1.toInt64) * (661971961083 : Int64)))])) _
    refine X0.ldc2Long hx hown (mvT hZ (hw _ (List.mem_of_getElem? (i := 6) rfl))) (g := (mkF m 6 #[.val (.int p1)] [(.long ((p1.toInt64) * (661971961083 : Int64)))])) rfl (hb hby d1_6) _ ?_
    show Steps p.tables e below (s₁.setTop (mkF m 9 #[.val (.int p1)] [(.long (274743187321 : Int64)), (.long ((p1.toInt64) * (661971961083 : Int64)))])) _
    refine XS.lsub X0.here hx rfl (hb hby d1_9) rfl ?_
    show Steps p.tables e below (s₁.setTop (mkF m 10 #[.val (.int p1)] [(.long (((p1.toInt64) * (661971961083 : Int64)) - (274743187321 : Int64)))])) _
    refine XS.bipush X0.here hx rfl (hb hby d1_10) ?_
    show Steps p.tables e below (s₁.setTop (mkF m 12 #[.val (.int p1)] [(.int (41 : Int32)), (.long (((p1.toInt64) * (661971961083 : Int64)) - (274743187321 : Int64)))])) _
    refine XS.lshr X0.here hx rfl (hb hby d1_12) rfl ?_
    show Steps p.tables e below (s₁.setTop (mkF m 13 #[.val (.int p1)] [(.long ((((p1.toInt64) * (661971961083 : Int64)) - (274743187321 : Int64)) >>> ((41 : Int32) &&& 0x3f).toInt64))])) _
    refine XS.l2i X0.here hx rfl (hb hby d1_13) rfl ?_
    exact k
  obtain ⟨fs, hr, hrun, hended, hW, hsame⟩ := X0.leave (v := some (.int (((((p1.toInt64) * (661971961083 : Int64)) - (274743187321 : Int64)) >>> ((41 : Int32) &&& 0x3f).toInt64).toInt32))) (fun h => by rw [Bd.returns] at h; cases h) (hlocks := Bd.notSynchronized)
  refine ⟨_, _, pre1 _ ?_, hrun, hended, _, _, rfl, ?_, ⟨_, rfl⟩, hW, hsame.mono (by decide) (by decide)⟩
  · show Steps p.tables e below (s₁.setTop (mkF m 14 #[.val (.int p1)] [(.int (((((p1.toInt64) * (661971961083 : Int64)) - (274743187321 : Int64)) >>> ((41 : Int32) &&& 0x3f).toInt64).toInt32))])) _
    exact retI X0 hx Bd.returns (hb hby d1_14) hr
  · show Q1 Z p1 h0 n0 _ s₁.heap _
    rw [e0]
    exact ⟨(by rw [F1]), N0, rfl⟩
theorem pd__I_I : parseMethodDescriptor "(I)I" = some ⟨[.int], some .int⟩ := by decide +kernel
theorem pn_0 : plainName "spillway/NumberTextFloorLog10ThreeQuartersPow2PinLaw" = true := by first | (simp [plainName, overriddenIn]; done) | decide +kernel
theorem ef_0 (m : MethodId) (x0 : Int32) : entryFrame m #[(.int x0)] maxLocals = mkF m 0 #[.val (.int x0), .unset, .unset, .unset, .unset, .unset, .unset, .unset, .unset] [] := by first | (simp [entryFrame, mkF, argsToLocals, Value.category, maxLocals]; done) | rfl
def F0 (p1 : Int32) : Int32 :=
  if (F1 (((p1 &&& (2147483647 : Int32)) - ((p1 &&& (2147483647 : Int32)) / (2201 : Int32)) * (2201 : Int32)) - (1100 : Int32))) < (-1000 : Int32) then (  (0 : Int32))
  else (  if (1000 : Int32) < (F1 (((p1 &&& (2147483647 : Int32)) - ((p1 &&& (2147483647 : Int32)) / (2201 : Int32)) * (2201 : Int32)) - (1100 : Int32))) then (  (0 : Int32))
  else (  if (0 : Int32) < (lcmpW (((F1 (((p1 &&& (2147483647 : Int32)) - ((p1 &&& (2147483647 : Int32)) / (2201 : Int32)) * (2201 : Int32)) - (1100 : Int32))).toInt64) * (1000000000000000 : Int64)) (((((((p1 &&& (2147483647 : Int32)) - ((p1 &&& (2147483647 : Int32)) / (2201 : Int32)) * (2201 : Int32)) - (1100 : Int32)).toInt64) * (301029995663981 : Int64)) - (124938736608300 : Int64)) + (1000 : Int64))) then (  (0 : Int32))
  else (  if (lcmpW (((((((p1 &&& (2147483647 : Int32)) - ((p1 &&& (2147483647 : Int32)) / (2201 : Int32)) * (2201 : Int32)) - (1100 : Int32)).toInt64) * (301029995663981 : Int64)) - (124938736608300 : Int64)) - (1000 : Int64)) ((((F1 (((p1 &&& (2147483647 : Int32)) - ((p1 &&& (2147483647 : Int32)) / (2201 : Int32)) * (2201 : Int32)) - (1100 : Int32))) + (1 : Int32)).toInt64) * (1000000000000000 : Int64))) < (0 : Int32) then (  (1 : Int32))
  else (  (0 : Int32)))))
def Q0 (Z : State) (p1 : Int32) (h0 : Heap) (n0 : Nat) (v : Option Value) (h : Heap) (L : List Loc) : Prop := v = some (.int (F0 p1)) ∧ Fr n0 L ∧ h = h0
set_option maxRecDepth 65536 in
set_option maxHeartbeats 40000000 in
theorem rm0 (l : Launch) (Z : State) (a0 : Array Value) (hw : ∀ d ∈ tables_1, d.before a0 Z = true) (ws : List Jvm.Cond) (p1 : Int32) (h0 : Heap) (n0 : Nat) (Z0 : n0 ≤ h0.size)  :
    MetFree l x (head1 (Jvm.Cond.code x code maxLocals ret :: ws) room_1) (fun a U => a = #[(.int p1)] ∧ Z.Warmed39 U.vm ∧ U.heap = h0) (fun _ _ _ _ _ => True) (fun _ U o U' => ∃ v L, o = .returned v ∧ Q0 Z p1 h0 n0 v U'.heap L ∧ FrameEnd U o U' L room_1.cells room_1.slots) := by
  refine MetFree.of_bodySF (plainFor_of_name pn_0) hisR ?_
  intro p e s m args below meth c s₁ Bd hml0 hP hK
  obtain ⟨rfl, hZ, hh⟩ := hP
  have hx := Bd.exec
  have hby := Bd.bytes
  have hml : c.maxLocals = 9 := hml0
  have hown : s.vm.findClass "spillway/NumberTextFloorLog10ThreeQuartersPow2PinLaw" = some m.cls := findClass_of_methodNamed Bd.named
  have hnm := (name_of_methodNamed Bd.named Bd.method).1
  have X0 : Stand p l e room_1 s m #[(.int p1)] below meth c s₁ [] 0 0 := Stand.of_body Bd
  have e0 : s₁.heap = h0 := by rw [← hh, Bd.state]; rfl
  have N0 := Fr.nil n0
  have pre0 : ∀ t, Steps p.tables e below (s₁.setTop (mkF m 0 #[.val (.int p1), .unset, .unset, .unset, .unset, .unset, .unset, .unset, .unset] [])) t → Steps p.tables e below (s₁.setTop (entryFrame m #[(.int p1)] maxLocals)) t := fun t k => castTop (ef_0 m p1) k
  have pre2 : ∀ t, Steps p.tables e below (s₁.setTop (mkF m 14 #[.val (.int p1), .val (.int (((p1 &&& (2147483647 : Int32)) - ((p1 &&& (2147483647 : Int32)) / (2201 : Int32)) * (2201 : Int32)) - (1100 : Int32))), .unset, .unset, .unset, .unset, .unset, .unset, .unset] [(.int (((p1 &&& (2147483647 : Int32)) - ((p1 &&& (2147483647 : Int32)) / (2201 : Int32)) * (2201 : Int32)) - (1100 : Int32)))])) t → Steps p.tables e below (s₁.setTop (entryFrame m #[(.int p1)] maxLocals)) t := by
    intro t k
    refine pre0 _ ?_
    show Steps p.tables e below (s₁.setTop (mkF m 0 #[.val (.int p1), .unset, .unset, .unset, .unset, .unset, .unset, .unset, .unset] [])) _
    refine XS.iloadN X0.here hx rfl (hb hby at_0) rfl ?_
    show Steps p.tables e below (s₁.setTop (mkF m 1 #[.val (.int p1), .unset, .unset, .unset, .unset, .unset, .unset, .unset, .unset] [(.int p1)])) _
    refine X0.ldcInt hx hown (mvT hZ (hw _ (List.mem_of_getElem? (i := 0) rfl))) (g := (mkF m 1 #[.val (.int p1), .unset, .unset, .unset, .unset, .unset, .unset, .unset, .unset] [(.int p1)])) rfl (hb hby at_1) _ ?_
    show Steps p.tables e below (s₁.setTop (mkF m 3 #[.val (.int p1), .unset, .unset, .unset, .unset, .unset, .unset, .unset, .unset] [(.int (2147483647 : Int32)), (.int p1)])) _
    refine XS.iand X0.here hx rfl (hb hby at_3) rfl ?_
    show Steps p.tables e below (s₁.setTop (mkF m 4 #[.val (.int p1), .unset, .unset, .unset, .unset, .unset, .unset, .unset, .unset] [(.int (p1 &&& (2147483647 : Int32)))])) _
    refine XS.sipush X0.here hx rfl (hb hby at_4) ?_
    show Steps p.tables e below (s₁.setTop (mkF m 7 #[.val (.int p1), .unset, .unset, .unset, .unset, .unset, .unset, .unset, .unset] [(.int (2201 : Int32)), (.int (p1 &&& (2147483647 : Int32)))])) _
    refine XS.irem X0.here hx rfl (hb hby at_7) rfl (by decide) ?_
    show Steps p.tables e below (s₁.setTop (mkF m 8 #[.val (.int p1), .unset, .unset, .unset, .unset, .unset, .unset, .unset, .unset] [(.int ((p1 &&& (2147483647 : Int32)) - ((p1 &&& (2147483647 : Int32)) / (2201 : Int32)) * (2201 : Int32)))])) _
    refine XS.sipush X0.here hx rfl (hb hby at_8) ?_
    show Steps p.tables e below (s₁.setTop (mkF m 11 #[.val (.int p1), .unset, .unset, .unset, .unset, .unset, .unset, .unset, .unset] [(.int (1100 : Int32)), (.int ((p1 &&& (2147483647 : Int32)) - ((p1 &&& (2147483647 : Int32)) / (2201 : Int32)) * (2201 : Int32)))])) _
    refine XS.isub X0.here hx rfl (hb hby at_11) rfl ?_
    show Steps p.tables e below (s₁.setTop (mkF m 12 #[.val (.int p1), .unset, .unset, .unset, .unset, .unset, .unset, .unset, .unset] [(.int (((p1 &&& (2147483647 : Int32)) - ((p1 &&& (2147483647 : Int32)) / (2201 : Int32)) * (2201 : Int32)) - (1100 : Int32)))])) _
    refine XS.istoreN X0.here hx rfl (hb hby at_12) rfl (l' := #[.val (.int p1), .val (.int (((p1 &&& (2147483647 : Int32)) - ((p1 &&& (2147483647 : Int32)) / (2201 : Int32)) * (2201 : Int32)) - (1100 : Int32))), .unset, .unset, .unset, .unset, .unset, .unset, .unset]) rfl ?_
    show Steps p.tables e below (s₁.setTop (mkF m 13 #[.val (.int p1), .val (.int (((p1 &&& (2147483647 : Int32)) - ((p1 &&& (2147483647 : Int32)) / (2201 : Int32)) * (2201 : Int32)) - (1100 : Int32))), .unset, .unset, .unset, .unset, .unset, .unset, .unset] [])) _
    refine XS.iloadN X0.here hx rfl (hb hby at_13) rfl ?_
    exact k
  obtain ⟨_, _, ⟨T3, L3, k3, n3⟩, -, X3, ⟨Lc3, hQ3, l3, y3, z3⟩, st3⟩ := Jvm.LawKit.callS X0 hx (y := (⟨"spillway/NumberText", "floorLog10ThreeQuartersPow2", "(I)I"⟩ : MethodName)) hown (mvT hZ (hw _ (List.mem_of_getElem? (i := 1) rfl))) (mvT hZ (hw _ (List.mem_of_getElem? (i := 2) rfl))) (mvT hZ (hw _ (List.mem_of_getElem? (i := 3) rfl))) (mvT hZ (hw _ (List.mem_of_getElem? (i := 4) rfl))) (by decide) (backOf (W := 0) (rm1 l Z a0 hw [] (((p1 &&& (2147483647 : Int32)) - ((p1 &&& (2147483647 : Int32)) / (2201 : Int32)) * (2201 : Int32)) - (1100 : Int32)) h0 n0 Z0 ) hZ (hw _ (List.mem_of_getElem? (i := 4) rfl)) (hw _ (List.mem_of_getElem? (i := 3) rfl)) (by decide) (by decide)) (g := (mkF m 14 #[.val (.int p1), .val (.int (((p1 &&& (2147483647 : Int32)) - ((p1 &&& (2147483647 : Int32)) / (2201 : Int32)) * (2201 : Int32)) - (1100 : Int32))), .unset, .unset, .unset, .unset, .unset, .unset, .unset] [(.int (((p1 &&& (2147483647 : Int32)) - ((p1 &&& (2147483647 : Int32)) / (2201 : Int32)) * (2201 : Int32)) - (1100 : Int32)))])) rfl (by rw [hml]; rfl) (argsL := [(.int (((p1 &&& (2147483647 : Int32)) - ((p1 &&& (2147483647 : Int32)) / (2201 : Int32)) * (2201 : Int32)) - (1100 : Int32)))]) (rest := []) (lenOf pd__I_I rfl) rfl (by show 2 * 0 + _ ≤ _; exact Nat.le_of_eq rfl) (hb hby at_14) (fun _ _ => ⟨rfl, e0, (by decide : 0 + 0 ≤ _), (by decide : 0 + 0 ≤ _)⟩)
  dsimp only [Pt.U, Pt.locs, Pt.cells, Pt.slots] at X3 l3 y3 z3 st3 hQ3
  subst l3 y3 z3
  obtain ⟨rfl, N3q, e3⟩ := hQ3
  have N3 := Fr.app N0 N3q
  have pre4 : ∀ t, Steps p.tables e below (T3.setTop (mkF m 17 #[.val (.int p1), .val (.int (((p1 &&& (2147483647 : Int32)) - ((p1 &&& (2147483647 : Int32)) / (2201 : Int32)) * (2201 : Int32)) - (1100 : Int32))), .unset, .unset, .unset, .unset, .unset, .unset, .unset] [(.int (F1 (((p1 &&& (2147483647 : Int32)) - ((p1 &&& (2147483647 : Int32)) / (2201 : Int32)) * (2201 : Int32)) - (1100 : Int32))))])) t → Steps p.tables e below (s₁.setTop (entryFrame m #[(.int p1)] maxLocals)) t := by
    intro t k
    refine pre2 _ ?_
    show Steps p.tables e below (s₁.setTop (mkF m 14 #[.val (.int p1), .val (.int (((p1 &&& (2147483647 : Int32)) - ((p1 &&& (2147483647 : Int32)) / (2201 : Int32)) * (2201 : Int32)) - (1100 : Int32))), .unset, .unset, .unset, .unset, .unset, .unset, .unset] [(.int (((p1 &&& (2147483647 : Int32)) - ((p1 &&& (2147483647 : Int32)) / (2201 : Int32)) * (2201 : Int32)) - (1100 : Int32)))])) _
    refine st3 _ ?_
    exact k
  have pre5 : ∀ t, Steps p.tables e below (T3.setTop (mkF m 22 #[.val (.int p1), .val (.int (((p1 &&& (2147483647 : Int32)) - ((p1 &&& (2147483647 : Int32)) / (2201 : Int32)) * (2201 : Int32)) - (1100 : Int32))), .val (.int (F1 (((p1 &&& (2147483647 : Int32)) - ((p1 &&& (2147483647 : Int32)) / (2201 : Int32)) * (2201 : Int32)) - (1100 : Int32)))), .unset, .unset, .unset, .unset, .unset, .unset] [(.int (-1000 : Int32)), (.int (F1 (((p1 &&& (2147483647 : Int32)) - ((p1 &&& (2147483647 : Int32)) / (2201 : Int32)) * (2201 : Int32)) - (1100 : Int32))))])) t → Steps p.tables e below (s₁.setTop (entryFrame m #[(.int p1)] maxLocals)) t := by
    intro t k
    refine pre4 _ ?_
    show Steps p.tables e below (T3.setTop (mkF m 17 #[.val (.int p1), .val (.int (((p1 &&& (2147483647 : Int32)) - ((p1 &&& (2147483647 : Int32)) / (2201 : Int32)) * (2201 : Int32)) - (1100 : Int32))), .unset, .unset, .unset, .unset, .unset, .unset, .unset] [(.int (F1 (((p1 &&& (2147483647 : Int32)) - ((p1 &&& (2147483647 : Int32)) / (2201 : Int32)) * (2201 : Int32)) - (1100 : Int32))))])) _
    refine XS.istoreN X3.here hx rfl (hb hby at_17) rfl (l' := #[.val (.int p1), .val (.int (((p1 &&& (2147483647 : Int32)) - ((p1 &&& (2147483647 : Int32)) / (2201 : Int32)) * (2201 : Int32)) - (1100 : Int32))), .val (.int (F1 (((p1 &&& (2147483647 : Int32)) - ((p1 &&& (2147483647 : Int32)) / (2201 : Int32)) * (2201 : Int32)) - (1100 : Int32)))), .unset, .unset, .unset, .unset, .unset, .unset]) rfl ?_
    show Steps p.tables e below (T3.setTop (mkF m 18 #[.val (.int p1), .val (.int (((p1 &&& (2147483647 : Int32)) - ((p1 &&& (2147483647 : Int32)) / (2201 : Int32)) * (2201 : Int32)) - (1100 : Int32))), .val (.int (F1 (((p1 &&& (2147483647 : Int32)) - ((p1 &&& (2147483647 : Int32)) / (2201 : Int32)) * (2201 : Int32)) - (1100 : Int32)))), .unset, .unset, .unset, .unset, .unset, .unset] [])) _
    refine XS.iloadN X3.here hx rfl (hb hby at_18) rfl ?_
    show Steps p.tables e below (T3.setTop (mkF m 19 #[.val (.int p1), .val (.int (((p1 &&& (2147483647 : Int32)) - ((p1 &&& (2147483647 : Int32)) / (2201 : Int32)) * (2201 : Int32)) - (1100 : Int32))), .val (.int (F1 (((p1 &&& (2147483647 : Int32)) - ((p1 &&& (2147483647 : Int32)) / (2201 : Int32)) * (2201 : Int32)) - (1100 : Int32)))), .unset, .unset, .unset, .unset, .unset, .unset] [(.int (F1 (((p1 &&& (2147483647 : Int32)) - ((p1 &&& (2147483647 : Int32)) / (2201 : Int32)) * (2201 : Int32)) - (1100 : Int32))))])) _
    refine Jvm.Free.XT.sipushV X3.here hx rfl (-1000 : Int32) (hb hby at_19) (by decide) ?_
    exact k
  by_cases hc6 : (F1 (((p1 &&& (2147483647 : Int32)) - ((p1 &&& (2147483647 : Int32)) / (2201 : Int32)) * (2201 : Int32)) - (1100 : Int32))) < (-1000 : Int32)
  · have pre7 : ∀ t, Steps p.tables e below (T3.setTop (mkF m 32 #[.val (.int p1), .val (.int (((p1 &&& (2147483647 : Int32)) - ((p1 &&& (2147483647 : Int32)) / (2201 : Int32)) * (2201 : Int32)) - (1100 : Int32))), .val (.int (F1 (((p1 &&& (2147483647 : Int32)) - ((p1 &&& (2147483647 : Int32)) / (2201 : Int32)) * (2201 : Int32)) - (1100 : Int32)))), .unset, .unset, .unset, .unset, .unset, .unset] [])) t → Steps p.tables e below (s₁.setTop (entryFrame m #[(.int p1)] maxLocals)) t := by
      intro t k
      refine pre5 _ ?_
      show Steps p.tables e below (T3.setTop (mkF m 22 #[.val (.int p1), .val (.int (((p1 &&& (2147483647 : Int32)) - ((p1 &&& (2147483647 : Int32)) / (2201 : Int32)) * (2201 : Int32)) - (1100 : Int32))), .val (.int (F1 (((p1 &&& (2147483647 : Int32)) - ((p1 &&& (2147483647 : Int32)) / (2201 : Int32)) * (2201 : Int32)) - (1100 : Int32)))), .unset, .unset, .unset, .unset, .unset, .unset] [(.int (-1000 : Int32)), (.int (F1 (((p1 &&& (2147483647 : Int32)) - ((p1 &&& (2147483647 : Int32)) / (2201 : Int32)) * (2201 : Int32)) - (1100 : Int32))))])) _
      refine XS.icmpYes X3.here hx rfl (pc0 := 22) (pc' := 32) rfl (hb hby at_22) rfl (tlt hc6).1 (by decide) (by decide) ?_
      exact k
    have pre8 : ∀ t, Steps p.tables e below (T3.setTop (mkF m 33 #[.val (.int p1), .val (.int (((p1 &&& (2147483647 : Int32)) - ((p1 &&& (2147483647 : Int32)) / (2201 : Int32)) * (2201 : Int32)) - (1100 : Int32))), .val (.int (F1 (((p1 &&& (2147483647 : Int32)) - ((p1 &&& (2147483647 : Int32)) / (2201 : Int32)) * (2201 : Int32)) - (1100 : Int32)))), .unset, .unset, .unset, .unset, .unset, .unset] [(.int (0 : Int32))])) t → Steps p.tables e below (s₁.setTop (entryFrame m #[(.int p1)] maxLocals)) t := by
      intro t k
      refine pre7 _ ?_
      show Steps p.tables e below (T3.setTop (mkF m 32 #[.val (.int p1), .val (.int (((p1 &&& (2147483647 : Int32)) - ((p1 &&& (2147483647 : Int32)) / (2201 : Int32)) * (2201 : Int32)) - (1100 : Int32))), .val (.int (F1 (((p1 &&& (2147483647 : Int32)) - ((p1 &&& (2147483647 : Int32)) / (2201 : Int32)) * (2201 : Int32)) - (1100 : Int32)))), .unset, .unset, .unset, .unset, .unset, .unset] [])) _
      refine XS.iconst X3.here hx rfl (hb hby at_32) ?_
      exact k
    obtain ⟨fs, hr, hrun, hended, hW, hsame⟩ := X3.leave (v := some (.int (0 : Int32))) (fun h => by rw [Bd.returns] at h; cases h) (hlocks := Bd.notSynchronized)
    refine ⟨_, _, pre8 _ ?_, hrun, hended, _, _, rfl, ?_, ⟨_, rfl⟩, hW, hsame.mono (by decide) (by decide)⟩
    · show Steps p.tables e below (T3.setTop (mkF m 33 #[.val (.int p1), .val (.int (((p1 &&& (2147483647 : Int32)) - ((p1 &&& (2147483647 : Int32)) / (2201 : Int32)) * (2201 : Int32)) - (1100 : Int32))), .val (.int (F1 (((p1 &&& (2147483647 : Int32)) - ((p1 &&& (2147483647 : Int32)) / (2201 : Int32)) * (2201 : Int32)) - (1100 : Int32)))), .unset, .unset, .unset, .unset, .unset, .unset] [(.int (0 : Int32))])) _
      exact retN X3 hx (t := .boolean) Bd.returns (by simp) (hb hby at_33) hr
    · show Q0 Z p1 h0 n0 _ T3.heap _
      rw [e3]
      exact ⟨(by rw [F0, if_pos hc6]), N3, rfl⟩
  · have pre9 : ∀ t, Steps p.tables e below (T3.setTop (mkF m 25 #[.val (.int p1), .val (.int (((p1 &&& (2147483647 : Int32)) - ((p1 &&& (2147483647 : Int32)) / (2201 : Int32)) * (2201 : Int32)) - (1100 : Int32))), .val (.int (F1 (((p1 &&& (2147483647 : Int32)) - ((p1 &&& (2147483647 : Int32)) / (2201 : Int32)) * (2201 : Int32)) - (1100 : Int32)))), .unset, .unset, .unset, .unset, .unset, .unset] [])) t → Steps p.tables e below (s₁.setTop (entryFrame m #[(.int p1)] maxLocals)) t := by
      intro t k
      refine pre5 _ ?_
      show Steps p.tables e below (T3.setTop (mkF m 22 #[.val (.int p1), .val (.int (((p1 &&& (2147483647 : Int32)) - ((p1 &&& (2147483647 : Int32)) / (2201 : Int32)) * (2201 : Int32)) - (1100 : Int32))), .val (.int (F1 (((p1 &&& (2147483647 : Int32)) - ((p1 &&& (2147483647 : Int32)) / (2201 : Int32)) * (2201 : Int32)) - (1100 : Int32)))), .unset, .unset, .unset, .unset, .unset, .unset] [(.int (-1000 : Int32)), (.int (F1 (((p1 &&& (2147483647 : Int32)) - ((p1 &&& (2147483647 : Int32)) / (2201 : Int32)) * (2201 : Int32)) - (1100 : Int32))))])) _
      refine XS.icmpNo X3.here hx rfl (hb hby at_22) rfl (flt hc6).1 ?_
      exact k
    have pre10 : ∀ t, Steps p.tables e below (T3.setTop (mkF m 29 #[.val (.int p1), .val (.int (((p1 &&& (2147483647 : Int32)) - ((p1 &&& (2147483647 : Int32)) / (2201 : Int32)) * (2201 : Int32)) - (1100 : Int32))), .val (.int (F1 (((p1 &&& (2147483647 : Int32)) - ((p1 &&& (2147483647 : Int32)) / (2201 : Int32)) * (2201 : Int32)) - (1100 : Int32)))), .unset, .unset, .unset, .unset, .unset, .unset] [(.int (1000 : Int32)), (.int (F1 (((p1 &&& (2147483647 : Int32)) - ((p1 &&& (2147483647 : Int32)) / (2201 : Int32)) * (2201 : Int32)) - (1100 : Int32))))])) t → Steps p.tables e below (s₁.setTop (entryFrame m #[(.int p1)] maxLocals)) t := by
      intro t k
      refine pre9 _ ?_
      show Steps p.tables e below (T3.setTop (mkF m 25 #[.val (.int p1), .val (.int (((p1 &&& (2147483647 : Int32)) - ((p1 &&& (2147483647 : Int32)) / (2201 : Int32)) * (2201 : Int32)) - (1100 : Int32))), .val (.int (F1 (((p1 &&& (2147483647 : Int32)) - ((p1 &&& (2147483647 : Int32)) / (2201 : Int32)) * (2201 : Int32)) - (1100 : Int32)))), .unset, .unset, .unset, .unset, .unset, .unset] [])) _
      refine XS.iloadN X3.here hx rfl (hb hby at_25) rfl ?_
      show Steps p.tables e below (T3.setTop (mkF m 26 #[.val (.int p1), .val (.int (((p1 &&& (2147483647 : Int32)) - ((p1 &&& (2147483647 : Int32)) / (2201 : Int32)) * (2201 : Int32)) - (1100 : Int32))), .val (.int (F1 (((p1 &&& (2147483647 : Int32)) - ((p1 &&& (2147483647 : Int32)) / (2201 : Int32)) * (2201 : Int32)) - (1100 : Int32)))), .unset, .unset, .unset, .unset, .unset, .unset] [(.int (F1 (((p1 &&& (2147483647 : Int32)) - ((p1 &&& (2147483647 : Int32)) / (2201 : Int32)) * (2201 : Int32)) - (1100 : Int32))))])) _
      refine XS.sipush X3.here hx rfl (hb hby at_26) ?_
      exact k
    by_cases hc11 : (1000 : Int32) < (F1 (((p1 &&& (2147483647 : Int32)) - ((p1 &&& (2147483647 : Int32)) / (2201 : Int32)) * (2201 : Int32)) - (1100 : Int32)))
    · have pre12 : ∀ t, Steps p.tables e below (T3.setTop (mkF m 32 #[.val (.int p1), .val (.int (((p1 &&& (2147483647 : Int32)) - ((p1 &&& (2147483647 : Int32)) / (2201 : Int32)) * (2201 : Int32)) - (1100 : Int32))), .val (.int (F1 (((p1 &&& (2147483647 : Int32)) - ((p1 &&& (2147483647 : Int32)) / (2201 : Int32)) * (2201 : Int32)) - (1100 : Int32)))), .unset, .unset, .unset, .unset, .unset, .unset] [])) t → Steps p.tables e below (s₁.setTop (entryFrame m #[(.int p1)] maxLocals)) t := by
        intro t k
        refine pre10 _ ?_
        show Steps p.tables e below (T3.setTop (mkF m 29 #[.val (.int p1), .val (.int (((p1 &&& (2147483647 : Int32)) - ((p1 &&& (2147483647 : Int32)) / (2201 : Int32)) * (2201 : Int32)) - (1100 : Int32))), .val (.int (F1 (((p1 &&& (2147483647 : Int32)) - ((p1 &&& (2147483647 : Int32)) / (2201 : Int32)) * (2201 : Int32)) - (1100 : Int32)))), .unset, .unset, .unset, .unset, .unset, .unset] [(.int (1000 : Int32)), (.int (F1 (((p1 &&& (2147483647 : Int32)) - ((p1 &&& (2147483647 : Int32)) / (2201 : Int32)) * (2201 : Int32)) - (1100 : Int32))))])) _
        refine XS.icmpNo X3.here hx rfl (hb hby at_29) rfl (tlt hc11).2.2.2 ?_
        exact k
      have pre13 : ∀ t, Steps p.tables e below (T3.setTop (mkF m 33 #[.val (.int p1), .val (.int (((p1 &&& (2147483647 : Int32)) - ((p1 &&& (2147483647 : Int32)) / (2201 : Int32)) * (2201 : Int32)) - (1100 : Int32))), .val (.int (F1 (((p1 &&& (2147483647 : Int32)) - ((p1 &&& (2147483647 : Int32)) / (2201 : Int32)) * (2201 : Int32)) - (1100 : Int32)))), .unset, .unset, .unset, .unset, .unset, .unset] [(.int (0 : Int32))])) t → Steps p.tables e below (s₁.setTop (entryFrame m #[(.int p1)] maxLocals)) t := by
        intro t k
        refine pre12 _ ?_
        show Steps p.tables e below (T3.setTop (mkF m 32 #[.val (.int p1), .val (.int (((p1 &&& (2147483647 : Int32)) - ((p1 &&& (2147483647 : Int32)) / (2201 : Int32)) * (2201 : Int32)) - (1100 : Int32))), .val (.int (F1 (((p1 &&& (2147483647 : Int32)) - ((p1 &&& (2147483647 : Int32)) / (2201 : Int32)) * (2201 : Int32)) - (1100 : Int32)))), .unset, .unset, .unset, .unset, .unset, .unset] [])) _
        refine XS.iconst X3.here hx rfl (hb hby at_32) ?_
        exact k
      obtain ⟨fs, hr, hrun, hended, hW, hsame⟩ := X3.leave (v := some (.int (0 : Int32))) (fun h => by rw [Bd.returns] at h; cases h) (hlocks := Bd.notSynchronized)
      refine ⟨_, _, pre13 _ ?_, hrun, hended, _, _, rfl, ?_, ⟨_, rfl⟩, hW, hsame.mono (by decide) (by decide)⟩
      · show Steps p.tables e below (T3.setTop (mkF m 33 #[.val (.int p1), .val (.int (((p1 &&& (2147483647 : Int32)) - ((p1 &&& (2147483647 : Int32)) / (2201 : Int32)) * (2201 : Int32)) - (1100 : Int32))), .val (.int (F1 (((p1 &&& (2147483647 : Int32)) - ((p1 &&& (2147483647 : Int32)) / (2201 : Int32)) * (2201 : Int32)) - (1100 : Int32)))), .unset, .unset, .unset, .unset, .unset, .unset] [(.int (0 : Int32))])) _
        exact retN X3 hx (t := .boolean) Bd.returns (by simp) (hb hby at_33) hr
      · show Q0 Z p1 h0 n0 _ T3.heap _
        rw [e3]
        exact ⟨(by rw [F0, if_neg hc6, if_pos hc11]), N3, rfl⟩
    · have pre14 : ∀ t, Steps p.tables e below (T3.setTop (mkF m 34 #[.val (.int p1), .val (.int (((p1 &&& (2147483647 : Int32)) - ((p1 &&& (2147483647 : Int32)) / (2201 : Int32)) * (2201 : Int32)) - (1100 : Int32))), .val (.int (F1 (((p1 &&& (2147483647 : Int32)) - ((p1 &&& (2147483647 : Int32)) / (2201 : Int32)) * (2201 : Int32)) - (1100 : Int32)))), .unset, .unset, .unset, .unset, .unset, .unset] [])) t → Steps p.tables e below (s₁.setTop (entryFrame m #[(.int p1)] maxLocals)) t := by
        intro t k
        refine pre10 _ ?_
        show Steps p.tables e below (T3.setTop (mkF m 29 #[.val (.int p1), .val (.int (((p1 &&& (2147483647 : Int32)) - ((p1 &&& (2147483647 : Int32)) / (2201 : Int32)) * (2201 : Int32)) - (1100 : Int32))), .val (.int (F1 (((p1 &&& (2147483647 : Int32)) - ((p1 &&& (2147483647 : Int32)) / (2201 : Int32)) * (2201 : Int32)) - (1100 : Int32)))), .unset, .unset, .unset, .unset, .unset, .unset] [(.int (1000 : Int32)), (.int (F1 (((p1 &&& (2147483647 : Int32)) - ((p1 &&& (2147483647 : Int32)) / (2201 : Int32)) * (2201 : Int32)) - (1100 : Int32))))])) _
        refine XS.icmpYes X3.here hx rfl (pc0 := 29) (pc' := 34) rfl (hb hby at_29) rfl (flt hc11).2.2.2 (by decide) (by decide) ?_
        exact k
      have pre15 : ∀ t, Steps p.tables e below (T3.setTop (mkF m 65 #[.val (.int p1), .val (.int (((p1 &&& (2147483647 : Int32)) - ((p1 &&& (2147483647 : Int32)) / (2201 : Int32)) * (2201 : Int32)) - (1100 : Int32))), .val (.int (F1 (((p1 &&& (2147483647 : Int32)) - ((p1 &&& (2147483647 : Int32)) / (2201 : Int32)) * (2201 : Int32)) - (1100 : Int32)))), .val (.long (1000000000000000 : Int64)), .second, .val (.long ((((((p1 &&& (2147483647 : Int32)) - ((p1 &&& (2147483647 : Int32)) / (2201 : Int32)) * (2201 : Int32)) - (1100 : Int32)).toInt64) * (301029995663981 : Int64)) - (124938736608300 : Int64))), .second, .val (.long (1000 : Int64)), .second] [(.int (lcmpW (((F1 (((p1 &&& (2147483647 : Int32)) - ((p1 &&& (2147483647 : Int32)) / (2201 : Int32)) * (2201 : Int32)) - (1100 : Int32))).toInt64) * (1000000000000000 : Int64)) (((((((p1 &&& (2147483647 : Int32)) - ((p1 &&& (2147483647 : Int32)) / (2201 : Int32)) * (2201 : Int32)) - (1100 : Int32)).toInt64) * (301029995663981 : Int64)) - (124938736608300 : Int64)) + (1000 : Int64))))])) t → Steps p.tables e below (s₁.setTop (entryFrame m #[(.int p1)] maxLocals)) t := by
        intro t k
        refine pre14 _ ?_
        show Steps p.tables e below (T3.setTop (mkF m 34 #[.val (.int p1), .val (.int (((p1 &&& (2147483647 : Int32)) - ((p1 &&& (2147483647 : Int32)) / (2201 : Int32)) * (2201 : Int32)) - (1100 : Int32))), .val (.int (F1 (((p1 &&& (2147483647 : Int32)) - ((p1 &&& (2147483647 : Int32)) / (2201 : Int32)) * (2201 : Int32)) - (1100 : Int32)))), .unset, .unset, .unset, .unset, .unset, .unset] [])) _
        refine X3.ldc2Long hx hown (mvT hZ (hw _ (List.mem_of_getElem? (i := 7) rfl))) (g := (mkF m 34 #[.val (.int p1), .val (.int (((p1 &&& (2147483647 : Int32)) - ((p1 &&& (2147483647 : Int32)) / (2201 : Int32)) * (2201 : Int32)) - (1100 : Int32))), .val (.int (F1 (((p1 &&& (2147483647 : Int32)) - ((p1 &&& (2147483647 : Int32)) / (2201 : Int32)) * (2201 : Int32)) - (1100 : Int32)))), .unset, .unset, .unset, .unset, .unset, .unset] [])) rfl (hb hby at_34) _ ?_
        show Steps p.tables e below (T3.setTop (mkF m 37 #[.val (.int p1), .val (.int (((p1 &&& (2147483647 : Int32)) - ((p1 &&& (2147483647 : Int32)) / (2201 : Int32)) * (2201 : Int32)) - (1100 : Int32))), .val (.int (F1 (((p1 &&& (2147483647 : Int32)) - ((p1 &&& (2147483647 : Int32)) / (2201 : Int32)) * (2201 : Int32)) - (1100 : Int32)))), .unset, .unset, .unset, .unset, .unset, .unset] [(.long (1000000000000000 : Int64))])) _
        refine XS.lstoreN X3.here hx rfl (hb hby at_37) rfl (l' := #[.val (.int p1), .val (.int (((p1 &&& (2147483647 : Int32)) - ((p1 &&& (2147483647 : Int32)) / (2201 : Int32)) * (2201 : Int32)) - (1100 : Int32))), .val (.int (F1 (((p1 &&& (2147483647 : Int32)) - ((p1 &&& (2147483647 : Int32)) / (2201 : Int32)) * (2201 : Int32)) - (1100 : Int32)))), .val (.long (1000000000000000 : Int64)), .second, .unset, .unset, .unset, .unset]) rfl ?_
        show Steps p.tables e below (T3.setTop (mkF m 38 #[.val (.int p1), .val (.int (((p1 &&& (2147483647 : Int32)) - ((p1 &&& (2147483647 : Int32)) / (2201 : Int32)) * (2201 : Int32)) - (1100 : Int32))), .val (.int (F1 (((p1 &&& (2147483647 : Int32)) - ((p1 &&& (2147483647 : Int32)) / (2201 : Int32)) * (2201 : Int32)) - (1100 : Int32)))), .val (.long (1000000000000000 : Int64)), .second, .unset, .unset, .unset, .unset] [])) _
        refine XS.iloadN X3.here hx rfl (hb hby at_38) rfl ?_
        show Steps p.tables e below (T3.setTop (mkF m 39 #[.val (.int p1), .val (.int (((p1 &&& (2147483647 : Int32)) - ((p1 &&& (2147483647 : Int32)) / (2201 : Int32)) * (2201 : Int32)) - (1100 : Int32))), .val (.int (F1 (((p1 &&& (2147483647 : Int32)) - ((p1 &&& (2147483647 : Int32)) / (2201 : Int32)) * (2201 : Int32)) - (1100 : Int32)))), .val (.long (1000000000000000 : Int64)), .second, .unset, .unset, .unset, .unset] [(.int (((p1 &&& (2147483647 : Int32)) - ((p1 &&& (2147483647 : Int32)) / (2201 : Int32)) * (2201 : Int32)) - (1100 : Int32)))])) _
        refine XS.i2l X3.here hx rfl (hb hby at_39) rfl ?_
        show Steps p.tables e below (T3.setTop (mkF m 40 #[.val (.int p1), .val (.int (((p1 &&& (2147483647 : Int32)) - ((p1 &&& (2147483647 : Int32)) / (2201 : Int32)) * (2201 : Int32)) - (1100 : Int32))), .val (.int (F1 (((p1 &&& (2147483647 : Int32)) - ((p1 &&& (2147483647 : Int32)) / (2201 : Int32)) * (2201 : Int32)) - (1100 : Int32)))), .val (.long (1000000000000000 : Int64)), .second, .unset, .unset, .unset, .unset] [(.long ((((p1 &&& (2147483647 : Int32)) - ((p1 &&& (2147483647 : Int32)) / (2201 : Int32)) * (2201 : Int32)) - (1100 : Int32)).toInt64))])) _
        refine X3.ldc2Long hx hown (mvT hZ (hw _ (List.mem_of_getElem? (i := 8) rfl))) (g := (mkF m 40 #[.val (.int p1), .val (.int (((p1 &&& (2147483647 : Int32)) - ((p1 &&& (2147483647 : Int32)) / (2201 : Int32)) * (2201 : Int32)) - (1100 : Int32))), .val (.int (F1 (((p1 &&& (2147483647 : Int32)) - ((p1 &&& (2147483647 : Int32)) / (2201 : Int32)) * (2201 : Int32)) - (1100 : Int32)))), .val (.long (1000000000000000 : Int64)), .second, .unset, .unset, .unset, .unset] [(.long ((((p1 &&& (2147483647 : Int32)) - ((p1 &&& (2147483647 : Int32)) / (2201 : Int32)) * (2201 : Int32)) - (1100 : Int32)).toInt64))])) rfl (hb hby at_40) _ ?_
        show Steps p.tables e below (T3.setTop (mkF m 43 #[.val (.int p1), .val (.int (((p1 &&& (2147483647 : Int32)) - ((p1 &&& (2147483647 : Int32)) / (2201 : Int32)) * (2201 : Int32)) - (1100 : Int32))), .val (.int (F1 (((p1 &&& (2147483647 : Int32)) - ((p1 &&& (2147483647 : Int32)) / (2201 : Int32)) * (2201 : Int32)) - (1100 : Int32)))), .val (.long (1000000000000000 : Int64)), .second, .unset, .unset, .unset, .unset] [(.long (301029995663981 : Int64)), (.long ((((p1 &&& (2147483647 : Int32)) - ((p1 &&& (2147483647 : Int32)) / (2201 : Int32)) * (2201 : Int32)) - (1100 : Int32)).toInt64))])) _
        refine XS.lmul X3.here hx rfl (hb hby at_43) rfl ?_
        show Steps p.tables e below (T3.setTop (mkF m 44 #[.val (.int p1), .val (.int (((p1 &&& (2147483647 : Int32)) - ((p1 &&& (2147483647 : Int32)) / (2201 : Int32)) * (2201 : Int32)) - (1100 : Int32))), .val (.int (F1 (((p1 &&& (2147483647 : Int32)) - ((p1 &&& (2147483647 : Int32)) / (2201 : Int32)) * (2201 : Int32)) - (1100 : Int32)))), .val (.long (1000000000000000 : Int64)), .second, .unset, .unset, .unset, .unset] [(.long (((((p1 &&& (2147483647 : Int32)) - ((p1 &&& (2147483647 : Int32)) / (2201 : Int32)) * (2201 : Int32)) - (1100 : Int32)).toInt64) * (301029995663981 : Int64)))])) _
        refine X3.ldc2Long hx hown (mvT hZ (hw _ (List.mem_of_getElem? (i := 9) rfl))) (g := (mkF m 44 #[.val (.int p1), .val (.int (((p1 &&& (2147483647 : Int32)) - ((p1 &&& (2147483647 : Int32)) / (2201 : Int32)) * (2201 : Int32)) - (1100 : Int32))), .val (.int (F1 (((p1 &&& (2147483647 : Int32)) - ((p1 &&& (2147483647 : Int32)) / (2201 : Int32)) * (2201 : Int32)) - (1100 : Int32)))), .val (.long (1000000000000000 : Int64)), .second, .unset, .unset, .unset, .unset] [(.long (((((p1 &&& (2147483647 : Int32)) - ((p1 &&& (2147483647 : Int32)) / (2201 : Int32)) * (2201 : Int32)) - (1100 : Int32)).toInt64) * (301029995663981 : Int64)))])) rfl (hb hby at_44) _ ?_
        show Steps p.tables e below (T3.setTop (mkF m 47 #[.val (.int p1), .val (.int (((p1 &&& (2147483647 : Int32)) - ((p1 &&& (2147483647 : Int32)) / (2201 : Int32)) * (2201 : Int32)) - (1100 : Int32))), .val (.int (F1 (((p1 &&& (2147483647 : Int32)) - ((p1 &&& (2147483647 : Int32)) / (2201 : Int32)) * (2201 : Int32)) - (1100 : Int32)))), .val (.long (1000000000000000 : Int64)), .second, .unset, .unset, .unset, .unset] [(.long (124938736608300 : Int64)), (.long (((((p1 &&& (2147483647 : Int32)) - ((p1 &&& (2147483647 : Int32)) / (2201 : Int32)) * (2201 : Int32)) - (1100 : Int32)).toInt64) * (301029995663981 : Int64)))])) _
        refine XS.lsub X3.here hx rfl (hb hby at_47) rfl ?_
        show Steps p.tables e below (T3.setTop (mkF m 48 #[.val (.int p1), .val (.int (((p1 &&& (2147483647 : Int32)) - ((p1 &&& (2147483647 : Int32)) / (2201 : Int32)) * (2201 : Int32)) - (1100 : Int32))), .val (.int (F1 (((p1 &&& (2147483647 : Int32)) - ((p1 &&& (2147483647 : Int32)) / (2201 : Int32)) * (2201 : Int32)) - (1100 : Int32)))), .val (.long (1000000000000000 : Int64)), .second, .unset, .unset, .unset, .unset] [(.long ((((((p1 &&& (2147483647 : Int32)) - ((p1 &&& (2147483647 : Int32)) / (2201 : Int32)) * (2201 : Int32)) - (1100 : Int32)).toInt64) * (301029995663981 : Int64)) - (124938736608300 : Int64)))])) _
        refine XS.lstore X3.here hx rfl (hb hby at_48) rfl (l' := #[.val (.int p1), .val (.int (((p1 &&& (2147483647 : Int32)) - ((p1 &&& (2147483647 : Int32)) / (2201 : Int32)) * (2201 : Int32)) - (1100 : Int32))), .val (.int (F1 (((p1 &&& (2147483647 : Int32)) - ((p1 &&& (2147483647 : Int32)) / (2201 : Int32)) * (2201 : Int32)) - (1100 : Int32)))), .val (.long (1000000000000000 : Int64)), .second, .val (.long ((((((p1 &&& (2147483647 : Int32)) - ((p1 &&& (2147483647 : Int32)) / (2201 : Int32)) * (2201 : Int32)) - (1100 : Int32)).toInt64) * (301029995663981 : Int64)) - (124938736608300 : Int64))), .second, .unset, .unset]) rfl ?_
        show Steps p.tables e below (T3.setTop (mkF m 50 #[.val (.int p1), .val (.int (((p1 &&& (2147483647 : Int32)) - ((p1 &&& (2147483647 : Int32)) / (2201 : Int32)) * (2201 : Int32)) - (1100 : Int32))), .val (.int (F1 (((p1 &&& (2147483647 : Int32)) - ((p1 &&& (2147483647 : Int32)) / (2201 : Int32)) * (2201 : Int32)) - (1100 : Int32)))), .val (.long (1000000000000000 : Int64)), .second, .val (.long ((((((p1 &&& (2147483647 : Int32)) - ((p1 &&& (2147483647 : Int32)) / (2201 : Int32)) * (2201 : Int32)) - (1100 : Int32)).toInt64) * (301029995663981 : Int64)) - (124938736608300 : Int64))), .second, .unset, .unset] [])) _
        refine X3.ldc2Long hx hown (mvT hZ (hw _ (List.mem_of_getElem? (i := 10) rfl))) (g := (mkF m 50 #[.val (.int p1), .val (.int (((p1 &&& (2147483647 : Int32)) - ((p1 &&& (2147483647 : Int32)) / (2201 : Int32)) * (2201 : Int32)) - (1100 : Int32))), .val (.int (F1 (((p1 &&& (2147483647 : Int32)) - ((p1 &&& (2147483647 : Int32)) / (2201 : Int32)) * (2201 : Int32)) - (1100 : Int32)))), .val (.long (1000000000000000 : Int64)), .second, .val (.long ((((((p1 &&& (2147483647 : Int32)) - ((p1 &&& (2147483647 : Int32)) / (2201 : Int32)) * (2201 : Int32)) - (1100 : Int32)).toInt64) * (301029995663981 : Int64)) - (124938736608300 : Int64))), .second, .unset, .unset] [])) rfl (hb hby at_50) _ ?_
        show Steps p.tables e below (T3.setTop (mkF m 53 #[.val (.int p1), .val (.int (((p1 &&& (2147483647 : Int32)) - ((p1 &&& (2147483647 : Int32)) / (2201 : Int32)) * (2201 : Int32)) - (1100 : Int32))), .val (.int (F1 (((p1 &&& (2147483647 : Int32)) - ((p1 &&& (2147483647 : Int32)) / (2201 : Int32)) * (2201 : Int32)) - (1100 : Int32)))), .val (.long (1000000000000000 : Int64)), .second, .val (.long ((((((p1 &&& (2147483647 : Int32)) - ((p1 &&& (2147483647 : Int32)) / (2201 : Int32)) * (2201 : Int32)) - (1100 : Int32)).toInt64) * (301029995663981 : Int64)) - (124938736608300 : Int64))), .second, .unset, .unset] [(.long (1000 : Int64))])) _
        refine XS.lstore X3.here hx rfl (hb hby at_53) rfl (l' := #[.val (.int p1), .val (.int (((p1 &&& (2147483647 : Int32)) - ((p1 &&& (2147483647 : Int32)) / (2201 : Int32)) * (2201 : Int32)) - (1100 : Int32))), .val (.int (F1 (((p1 &&& (2147483647 : Int32)) - ((p1 &&& (2147483647 : Int32)) / (2201 : Int32)) * (2201 : Int32)) - (1100 : Int32)))), .val (.long (1000000000000000 : Int64)), .second, .val (.long ((((((p1 &&& (2147483647 : Int32)) - ((p1 &&& (2147483647 : Int32)) / (2201 : Int32)) * (2201 : Int32)) - (1100 : Int32)).toInt64) * (301029995663981 : Int64)) - (124938736608300 : Int64))), .second, .val (.long (1000 : Int64)), .second]) rfl ?_
        show Steps p.tables e below (T3.setTop (mkF m 55 #[.val (.int p1), .val (.int (((p1 &&& (2147483647 : Int32)) - ((p1 &&& (2147483647 : Int32)) / (2201 : Int32)) * (2201 : Int32)) - (1100 : Int32))), .val (.int (F1 (((p1 &&& (2147483647 : Int32)) - ((p1 &&& (2147483647 : Int32)) / (2201 : Int32)) * (2201 : Int32)) - (1100 : Int32)))), .val (.long (1000000000000000 : Int64)), .second, .val (.long ((((((p1 &&& (2147483647 : Int32)) - ((p1 &&& (2147483647 : Int32)) / (2201 : Int32)) * (2201 : Int32)) - (1100 : Int32)).toInt64) * (301029995663981 : Int64)) - (124938736608300 : Int64))), .second, .val (.long (1000 : Int64)), .second] [])) _
        refine XS.iloadN X3.here hx rfl (hb hby at_55) rfl ?_
        show Steps p.tables e below (T3.setTop (mkF m 56 #[.val (.int p1), .val (.int (((p1 &&& (2147483647 : Int32)) - ((p1 &&& (2147483647 : Int32)) / (2201 : Int32)) * (2201 : Int32)) - (1100 : Int32))), .val (.int (F1 (((p1 &&& (2147483647 : Int32)) - ((p1 &&& (2147483647 : Int32)) / (2201 : Int32)) * (2201 : Int32)) - (1100 : Int32)))), .val (.long (1000000000000000 : Int64)), .second, .val (.long ((((((p1 &&& (2147483647 : Int32)) - ((p1 &&& (2147483647 : Int32)) / (2201 : Int32)) * (2201 : Int32)) - (1100 : Int32)).toInt64) * (301029995663981 : Int64)) - (124938736608300 : Int64))), .second, .val (.long (1000 : Int64)), .second] [(.int (F1 (((p1 &&& (2147483647 : Int32)) - ((p1 &&& (2147483647 : Int32)) / (2201 : Int32)) * (2201 : Int32)) - (1100 : Int32))))])) _
        refine XS.i2l X3.here hx rfl (hb hby at_56) rfl ?_
        show Steps p.tables e below (T3.setTop (mkF m 57 #[.val (.int p1), .val (.int (((p1 &&& (2147483647 : Int32)) - ((p1 &&& (2147483647 : Int32)) / (2201 : Int32)) * (2201 : Int32)) - (1100 : Int32))), .val (.int (F1 (((p1 &&& (2147483647 : Int32)) - ((p1 &&& (2147483647 : Int32)) / (2201 : Int32)) * (2201 : Int32)) - (1100 : Int32)))), .val (.long (1000000000000000 : Int64)), .second, .val (.long ((((((p1 &&& (2147483647 : Int32)) - ((p1 &&& (2147483647 : Int32)) / (2201 : Int32)) * (2201 : Int32)) - (1100 : Int32)).toInt64) * (301029995663981 : Int64)) - (124938736608300 : Int64))), .second, .val (.long (1000 : Int64)), .second] [(.long ((F1 (((p1 &&& (2147483647 : Int32)) - ((p1 &&& (2147483647 : Int32)) / (2201 : Int32)) * (2201 : Int32)) - (1100 : Int32))).toInt64))])) _
        refine XS.lloadN X3.here hx rfl (hb hby at_57) rfl ?_
        show Steps p.tables e below (T3.setTop (mkF m 58 #[.val (.int p1), .val (.int (((p1 &&& (2147483647 : Int32)) - ((p1 &&& (2147483647 : Int32)) / (2201 : Int32)) * (2201 : Int32)) - (1100 : Int32))), .val (.int (F1 (((p1 &&& (2147483647 : Int32)) - ((p1 &&& (2147483647 : Int32)) / (2201 : Int32)) * (2201 : Int32)) - (1100 : Int32)))), .val (.long (1000000000000000 : Int64)), .second, .val (.long ((((((p1 &&& (2147483647 : Int32)) - ((p1 &&& (2147483647 : Int32)) / (2201 : Int32)) * (2201 : Int32)) - (1100 : Int32)).toInt64) * (301029995663981 : Int64)) - (124938736608300 : Int64))), .second, .val (.long (1000 : Int64)), .second] [(.long (1000000000000000 : Int64)), (.long ((F1 (((p1 &&& (2147483647 : Int32)) - ((p1 &&& (2147483647 : Int32)) / (2201 : Int32)) * (2201 : Int32)) - (1100 : Int32))).toInt64))])) _
        refine XS.lmul X3.here hx rfl (hb hby at_58) rfl ?_
        show Steps p.tables e below (T3.setTop (mkF m 59 #[.val (.int p1), .val (.int (((p1 &&& (2147483647 : Int32)) - ((p1 &&& (2147483647 : Int32)) / (2201 : Int32)) * (2201 : Int32)) - (1100 : Int32))), .val (.int (F1 (((p1 &&& (2147483647 : Int32)) - ((p1 &&& (2147483647 : Int32)) / (2201 : Int32)) * (2201 : Int32)) - (1100 : Int32)))), .val (.long (1000000000000000 : Int64)), .second, .val (.long ((((((p1 &&& (2147483647 : Int32)) - ((p1 &&& (2147483647 : Int32)) / (2201 : Int32)) * (2201 : Int32)) - (1100 : Int32)).toInt64) * (301029995663981 : Int64)) - (124938736608300 : Int64))), .second, .val (.long (1000 : Int64)), .second] [(.long (((F1 (((p1 &&& (2147483647 : Int32)) - ((p1 &&& (2147483647 : Int32)) / (2201 : Int32)) * (2201 : Int32)) - (1100 : Int32))).toInt64) * (1000000000000000 : Int64)))])) _
        refine XS.lload X3.here hx rfl (hb hby at_59) rfl ?_
        show Steps p.tables e below (T3.setTop (mkF m 61 #[.val (.int p1), .val (.int (((p1 &&& (2147483647 : Int32)) - ((p1 &&& (2147483647 : Int32)) / (2201 : Int32)) * (2201 : Int32)) - (1100 : Int32))), .val (.int (F1 (((p1 &&& (2147483647 : Int32)) - ((p1 &&& (2147483647 : Int32)) / (2201 : Int32)) * (2201 : Int32)) - (1100 : Int32)))), .val (.long (1000000000000000 : Int64)), .second, .val (.long ((((((p1 &&& (2147483647 : Int32)) - ((p1 &&& (2147483647 : Int32)) / (2201 : Int32)) * (2201 : Int32)) - (1100 : Int32)).toInt64) * (301029995663981 : Int64)) - (124938736608300 : Int64))), .second, .val (.long (1000 : Int64)), .second] [(.long ((((((p1 &&& (2147483647 : Int32)) - ((p1 &&& (2147483647 : Int32)) / (2201 : Int32)) * (2201 : Int32)) - (1100 : Int32)).toInt64) * (301029995663981 : Int64)) - (124938736608300 : Int64))), (.long (((F1 (((p1 &&& (2147483647 : Int32)) - ((p1 &&& (2147483647 : Int32)) / (2201 : Int32)) * (2201 : Int32)) - (1100 : Int32))).toInt64) * (1000000000000000 : Int64)))])) _
        refine XS.lload X3.here hx rfl (hb hby at_61) rfl ?_
        show Steps p.tables e below (T3.setTop (mkF m 63 #[.val (.int p1), .val (.int (((p1 &&& (2147483647 : Int32)) - ((p1 &&& (2147483647 : Int32)) / (2201 : Int32)) * (2201 : Int32)) - (1100 : Int32))), .val (.int (F1 (((p1 &&& (2147483647 : Int32)) - ((p1 &&& (2147483647 : Int32)) / (2201 : Int32)) * (2201 : Int32)) - (1100 : Int32)))), .val (.long (1000000000000000 : Int64)), .second, .val (.long ((((((p1 &&& (2147483647 : Int32)) - ((p1 &&& (2147483647 : Int32)) / (2201 : Int32)) * (2201 : Int32)) - (1100 : Int32)).toInt64) * (301029995663981 : Int64)) - (124938736608300 : Int64))), .second, .val (.long (1000 : Int64)), .second] [(.long (1000 : Int64)), (.long ((((((p1 &&& (2147483647 : Int32)) - ((p1 &&& (2147483647 : Int32)) / (2201 : Int32)) * (2201 : Int32)) - (1100 : Int32)).toInt64) * (301029995663981 : Int64)) - (124938736608300 : Int64))), (.long (((F1 (((p1 &&& (2147483647 : Int32)) - ((p1 &&& (2147483647 : Int32)) / (2201 : Int32)) * (2201 : Int32)) - (1100 : Int32))).toInt64) * (1000000000000000 : Int64)))])) _
        refine XS.ladd X3.here hx rfl (hb hby at_63) rfl ?_
        show Steps p.tables e below (T3.setTop (mkF m 64 #[.val (.int p1), .val (.int (((p1 &&& (2147483647 : Int32)) - ((p1 &&& (2147483647 : Int32)) / (2201 : Int32)) * (2201 : Int32)) - (1100 : Int32))), .val (.int (F1 (((p1 &&& (2147483647 : Int32)) - ((p1 &&& (2147483647 : Int32)) / (2201 : Int32)) * (2201 : Int32)) - (1100 : Int32)))), .val (.long (1000000000000000 : Int64)), .second, .val (.long ((((((p1 &&& (2147483647 : Int32)) - ((p1 &&& (2147483647 : Int32)) / (2201 : Int32)) * (2201 : Int32)) - (1100 : Int32)).toInt64) * (301029995663981 : Int64)) - (124938736608300 : Int64))), .second, .val (.long (1000 : Int64)), .second] [(.long (((((((p1 &&& (2147483647 : Int32)) - ((p1 &&& (2147483647 : Int32)) / (2201 : Int32)) * (2201 : Int32)) - (1100 : Int32)).toInt64) * (301029995663981 : Int64)) - (124938736608300 : Int64)) + (1000 : Int64))), (.long (((F1 (((p1 &&& (2147483647 : Int32)) - ((p1 &&& (2147483647 : Int32)) / (2201 : Int32)) * (2201 : Int32)) - (1100 : Int32))).toInt64) * (1000000000000000 : Int64)))])) _
        refine XS.lcmp X3.here hx rfl (hb hby at_64) rfl ?_
        exact k
      by_cases hc16 : (0 : Int32) < (lcmpW (((F1 (((p1 &&& (2147483647 : Int32)) - ((p1 &&& (2147483647 : Int32)) / (2201 : Int32)) * (2201 : Int32)) - (1100 : Int32))).toInt64) * (1000000000000000 : Int64)) (((((((p1 &&& (2147483647 : Int32)) - ((p1 &&& (2147483647 : Int32)) / (2201 : Int32)) * (2201 : Int32)) - (1100 : Int32)).toInt64) * (301029995663981 : Int64)) - (124938736608300 : Int64)) + (1000 : Int64)))
      · have pre17 : ∀ t, Steps p.tables e below (T3.setTop (mkF m 87 #[.val (.int p1), .val (.int (((p1 &&& (2147483647 : Int32)) - ((p1 &&& (2147483647 : Int32)) / (2201 : Int32)) * (2201 : Int32)) - (1100 : Int32))), .val (.int (F1 (((p1 &&& (2147483647 : Int32)) - ((p1 &&& (2147483647 : Int32)) / (2201 : Int32)) * (2201 : Int32)) - (1100 : Int32)))), .val (.long (1000000000000000 : Int64)), .second, .val (.long ((((((p1 &&& (2147483647 : Int32)) - ((p1 &&& (2147483647 : Int32)) / (2201 : Int32)) * (2201 : Int32)) - (1100 : Int32)).toInt64) * (301029995663981 : Int64)) - (124938736608300 : Int64))), .second, .val (.long (1000 : Int64)), .second] [])) t → Steps p.tables e below (s₁.setTop (entryFrame m #[(.int p1)] maxLocals)) t := by
          intro t k
          refine pre15 _ ?_
          show Steps p.tables e below (T3.setTop (mkF m 65 #[.val (.int p1), .val (.int (((p1 &&& (2147483647 : Int32)) - ((p1 &&& (2147483647 : Int32)) / (2201 : Int32)) * (2201 : Int32)) - (1100 : Int32))), .val (.int (F1 (((p1 &&& (2147483647 : Int32)) - ((p1 &&& (2147483647 : Int32)) / (2201 : Int32)) * (2201 : Int32)) - (1100 : Int32)))), .val (.long (1000000000000000 : Int64)), .second, .val (.long ((((((p1 &&& (2147483647 : Int32)) - ((p1 &&& (2147483647 : Int32)) / (2201 : Int32)) * (2201 : Int32)) - (1100 : Int32)).toInt64) * (301029995663981 : Int64)) - (124938736608300 : Int64))), .second, .val (.long (1000 : Int64)), .second] [(.int (lcmpW (((F1 (((p1 &&& (2147483647 : Int32)) - ((p1 &&& (2147483647 : Int32)) / (2201 : Int32)) * (2201 : Int32)) - (1100 : Int32))).toInt64) * (1000000000000000 : Int64)) (((((((p1 &&& (2147483647 : Int32)) - ((p1 &&& (2147483647 : Int32)) / (2201 : Int32)) * (2201 : Int32)) - (1100 : Int32)).toInt64) * (301029995663981 : Int64)) - (124938736608300 : Int64)) + (1000 : Int64))))])) _
          refine XS.ifYes X3.here hx rfl (pc0 := 65) (pc' := 87) rfl (hb hby at_65) rfl ((if0 _ _).trans (tlt hc16).2.2.1) (by decide) (by decide) ?_
          exact k
        have pre18 : ∀ t, Steps p.tables e below (T3.setTop (mkF m 88 #[.val (.int p1), .val (.int (((p1 &&& (2147483647 : Int32)) - ((p1 &&& (2147483647 : Int32)) / (2201 : Int32)) * (2201 : Int32)) - (1100 : Int32))), .val (.int (F1 (((p1 &&& (2147483647 : Int32)) - ((p1 &&& (2147483647 : Int32)) / (2201 : Int32)) * (2201 : Int32)) - (1100 : Int32)))), .val (.long (1000000000000000 : Int64)), .second, .val (.long ((((((p1 &&& (2147483647 : Int32)) - ((p1 &&& (2147483647 : Int32)) / (2201 : Int32)) * (2201 : Int32)) - (1100 : Int32)).toInt64) * (301029995663981 : Int64)) - (124938736608300 : Int64))), .second, .val (.long (1000 : Int64)), .second] [(.int (0 : Int32))])) t → Steps p.tables e below (s₁.setTop (entryFrame m #[(.int p1)] maxLocals)) t := by
          intro t k
          refine pre17 _ ?_
          show Steps p.tables e below (T3.setTop (mkF m 87 #[.val (.int p1), .val (.int (((p1 &&& (2147483647 : Int32)) - ((p1 &&& (2147483647 : Int32)) / (2201 : Int32)) * (2201 : Int32)) - (1100 : Int32))), .val (.int (F1 (((p1 &&& (2147483647 : Int32)) - ((p1 &&& (2147483647 : Int32)) / (2201 : Int32)) * (2201 : Int32)) - (1100 : Int32)))), .val (.long (1000000000000000 : Int64)), .second, .val (.long ((((((p1 &&& (2147483647 : Int32)) - ((p1 &&& (2147483647 : Int32)) / (2201 : Int32)) * (2201 : Int32)) - (1100 : Int32)).toInt64) * (301029995663981 : Int64)) - (124938736608300 : Int64))), .second, .val (.long (1000 : Int64)), .second] [])) _
          refine XS.iconst X3.here hx rfl (hb hby at_87) ?_
          exact k
        obtain ⟨fs, hr, hrun, hended, hW, hsame⟩ := X3.leave (v := some (.int (0 : Int32))) (fun h => by rw [Bd.returns] at h; cases h) (hlocks := Bd.notSynchronized)
        refine ⟨_, _, pre18 _ ?_, hrun, hended, _, _, rfl, ?_, ⟨_, rfl⟩, hW, hsame.mono (by decide) (by decide)⟩
        · show Steps p.tables e below (T3.setTop (mkF m 88 #[.val (.int p1), .val (.int (((p1 &&& (2147483647 : Int32)) - ((p1 &&& (2147483647 : Int32)) / (2201 : Int32)) * (2201 : Int32)) - (1100 : Int32))), .val (.int (F1 (((p1 &&& (2147483647 : Int32)) - ((p1 &&& (2147483647 : Int32)) / (2201 : Int32)) * (2201 : Int32)) - (1100 : Int32)))), .val (.long (1000000000000000 : Int64)), .second, .val (.long ((((((p1 &&& (2147483647 : Int32)) - ((p1 &&& (2147483647 : Int32)) / (2201 : Int32)) * (2201 : Int32)) - (1100 : Int32)).toInt64) * (301029995663981 : Int64)) - (124938736608300 : Int64))), .second, .val (.long (1000 : Int64)), .second] [(.int (0 : Int32))])) _
          exact retN X3 hx (t := .boolean) Bd.returns (by simp) (hb hby at_88) hr
        · show Q0 Z p1 h0 n0 _ T3.heap _
          rw [e3]
          exact ⟨(by rw [F0, if_neg hc6, if_neg hc11, if_pos hc16]), N3, rfl⟩
      · have pre19 : ∀ t, Steps p.tables e below (T3.setTop (mkF m 68 #[.val (.int p1), .val (.int (((p1 &&& (2147483647 : Int32)) - ((p1 &&& (2147483647 : Int32)) / (2201 : Int32)) * (2201 : Int32)) - (1100 : Int32))), .val (.int (F1 (((p1 &&& (2147483647 : Int32)) - ((p1 &&& (2147483647 : Int32)) / (2201 : Int32)) * (2201 : Int32)) - (1100 : Int32)))), .val (.long (1000000000000000 : Int64)), .second, .val (.long ((((((p1 &&& (2147483647 : Int32)) - ((p1 &&& (2147483647 : Int32)) / (2201 : Int32)) * (2201 : Int32)) - (1100 : Int32)).toInt64) * (301029995663981 : Int64)) - (124938736608300 : Int64))), .second, .val (.long (1000 : Int64)), .second] [])) t → Steps p.tables e below (s₁.setTop (entryFrame m #[(.int p1)] maxLocals)) t := by
          intro t k
          refine pre15 _ ?_
          show Steps p.tables e below (T3.setTop (mkF m 65 #[.val (.int p1), .val (.int (((p1 &&& (2147483647 : Int32)) - ((p1 &&& (2147483647 : Int32)) / (2201 : Int32)) * (2201 : Int32)) - (1100 : Int32))), .val (.int (F1 (((p1 &&& (2147483647 : Int32)) - ((p1 &&& (2147483647 : Int32)) / (2201 : Int32)) * (2201 : Int32)) - (1100 : Int32)))), .val (.long (1000000000000000 : Int64)), .second, .val (.long ((((((p1 &&& (2147483647 : Int32)) - ((p1 &&& (2147483647 : Int32)) / (2201 : Int32)) * (2201 : Int32)) - (1100 : Int32)).toInt64) * (301029995663981 : Int64)) - (124938736608300 : Int64))), .second, .val (.long (1000 : Int64)), .second] [(.int (lcmpW (((F1 (((p1 &&& (2147483647 : Int32)) - ((p1 &&& (2147483647 : Int32)) / (2201 : Int32)) * (2201 : Int32)) - (1100 : Int32))).toInt64) * (1000000000000000 : Int64)) (((((((p1 &&& (2147483647 : Int32)) - ((p1 &&& (2147483647 : Int32)) / (2201 : Int32)) * (2201 : Int32)) - (1100 : Int32)).toInt64) * (301029995663981 : Int64)) - (124938736608300 : Int64)) + (1000 : Int64))))])) _
          refine XS.ifNo X3.here hx rfl (hb hby at_65) rfl ((if0 _ _).trans (flt hc16).2.2.1) ?_
          exact k
        have pre20 : ∀ t, Steps p.tables e below (T3.setTop (mkF m 80 #[.val (.int p1), .val (.int (((p1 &&& (2147483647 : Int32)) - ((p1 &&& (2147483647 : Int32)) / (2201 : Int32)) * (2201 : Int32)) - (1100 : Int32))), .val (.int (F1 (((p1 &&& (2147483647 : Int32)) - ((p1 &&& (2147483647 : Int32)) / (2201 : Int32)) * (2201 : Int32)) - (1100 : Int32)))), .val (.long (1000000000000000 : Int64)), .second, .val (.long ((((((p1 &&& (2147483647 : Int32)) - ((p1 &&& (2147483647 : Int32)) / (2201 : Int32)) * (2201 : Int32)) - (1100 : Int32)).toInt64) * (301029995663981 : Int64)) - (124938736608300 : Int64))), .second, .val (.long (1000 : Int64)), .second] [(.int (lcmpW (((((((p1 &&& (2147483647 : Int32)) - ((p1 &&& (2147483647 : Int32)) / (2201 : Int32)) * (2201 : Int32)) - (1100 : Int32)).toInt64) * (301029995663981 : Int64)) - (124938736608300 : Int64)) - (1000 : Int64)) ((((F1 (((p1 &&& (2147483647 : Int32)) - ((p1 &&& (2147483647 : Int32)) / (2201 : Int32)) * (2201 : Int32)) - (1100 : Int32))) + (1 : Int32)).toInt64) * (1000000000000000 : Int64))))])) t → Steps p.tables e below (s₁.setTop (entryFrame m #[(.int p1)] maxLocals)) t := by
          intro t k
          refine pre19 _ ?_
          show Steps p.tables e below (T3.setTop (mkF m 68 #[.val (.int p1), .val (.int (((p1 &&& (2147483647 : Int32)) - ((p1 &&& (2147483647 : Int32)) / (2201 : Int32)) * (2201 : Int32)) - (1100 : Int32))), .val (.int (F1 (((p1 &&& (2147483647 : Int32)) - ((p1 &&& (2147483647 : Int32)) / (2201 : Int32)) * (2201 : Int32)) - (1100 : Int32)))), .val (.long (1000000000000000 : Int64)), .second, .val (.long ((((((p1 &&& (2147483647 : Int32)) - ((p1 &&& (2147483647 : Int32)) / (2201 : Int32)) * (2201 : Int32)) - (1100 : Int32)).toInt64) * (301029995663981 : Int64)) - (124938736608300 : Int64))), .second, .val (.long (1000 : Int64)), .second] [])) _
          refine XS.lload X3.here hx rfl (hb hby at_68) rfl ?_
          show Steps p.tables e below (T3.setTop (mkF m 70 #[.val (.int p1), .val (.int (((p1 &&& (2147483647 : Int32)) - ((p1 &&& (2147483647 : Int32)) / (2201 : Int32)) * (2201 : Int32)) - (1100 : Int32))), .val (.int (F1 (((p1 &&& (2147483647 : Int32)) - ((p1 &&& (2147483647 : Int32)) / (2201 : Int32)) * (2201 : Int32)) - (1100 : Int32)))), .val (.long (1000000000000000 : Int64)), .second, .val (.long ((((((p1 &&& (2147483647 : Int32)) - ((p1 &&& (2147483647 : Int32)) / (2201 : Int32)) * (2201 : Int32)) - (1100 : Int32)).toInt64) * (301029995663981 : Int64)) - (124938736608300 : Int64))), .second, .val (.long (1000 : Int64)), .second] [(.long ((((((p1 &&& (2147483647 : Int32)) - ((p1 &&& (2147483647 : Int32)) / (2201 : Int32)) * (2201 : Int32)) - (1100 : Int32)).toInt64) * (301029995663981 : Int64)) - (124938736608300 : Int64)))])) _
          refine XS.lload X3.here hx rfl (hb hby at_70) rfl ?_
          show Steps p.tables e below (T3.setTop (mkF m 72 #[.val (.int p1), .val (.int (((p1 &&& (2147483647 : Int32)) - ((p1 &&& (2147483647 : Int32)) / (2201 : Int32)) * (2201 : Int32)) - (1100 : Int32))), .val (.int (F1 (((p1 &&& (2147483647 : Int32)) - ((p1 &&& (2147483647 : Int32)) / (2201 : Int32)) * (2201 : Int32)) - (1100 : Int32)))), .val (.long (1000000000000000 : Int64)), .second, .val (.long ((((((p1 &&& (2147483647 : Int32)) - ((p1 &&& (2147483647 : Int32)) / (2201 : Int32)) * (2201 : Int32)) - (1100 : Int32)).toInt64) * (301029995663981 : Int64)) - (124938736608300 : Int64))), .second, .val (.long (1000 : Int64)), .second] [(.long (1000 : Int64)), (.long ((((((p1 &&& (2147483647 : Int32)) - ((p1 &&& (2147483647 : Int32)) / (2201 : Int32)) * (2201 : Int32)) - (1100 : Int32)).toInt64) * (301029995663981 : Int64)) - (124938736608300 : Int64)))])) _
          refine XS.lsub X3.here hx rfl (hb hby at_72) rfl ?_
          show Steps p.tables e below (T3.setTop (mkF m 73 #[.val (.int p1), .val (.int (((p1 &&& (2147483647 : Int32)) - ((p1 &&& (2147483647 : Int32)) / (2201 : Int32)) * (2201 : Int32)) - (1100 : Int32))), .val (.int (F1 (((p1 &&& (2147483647 : Int32)) - ((p1 &&& (2147483647 : Int32)) / (2201 : Int32)) * (2201 : Int32)) - (1100 : Int32)))), .val (.long (1000000000000000 : Int64)), .second, .val (.long ((((((p1 &&& (2147483647 : Int32)) - ((p1 &&& (2147483647 : Int32)) / (2201 : Int32)) * (2201 : Int32)) - (1100 : Int32)).toInt64) * (301029995663981 : Int64)) - (124938736608300 : Int64))), .second, .val (.long (1000 : Int64)), .second] [(.long (((((((p1 &&& (2147483647 : Int32)) - ((p1 &&& (2147483647 : Int32)) / (2201 : Int32)) * (2201 : Int32)) - (1100 : Int32)).toInt64) * (301029995663981 : Int64)) - (124938736608300 : Int64)) - (1000 : Int64)))])) _
          refine XS.iloadN X3.here hx rfl (hb hby at_73) rfl ?_
          show Steps p.tables e below (T3.setTop (mkF m 74 #[.val (.int p1), .val (.int (((p1 &&& (2147483647 : Int32)) - ((p1 &&& (2147483647 : Int32)) / (2201 : Int32)) * (2201 : Int32)) - (1100 : Int32))), .val (.int (F1 (((p1 &&& (2147483647 : Int32)) - ((p1 &&& (2147483647 : Int32)) / (2201 : Int32)) * (2201 : Int32)) - (1100 : Int32)))), .val (.long (1000000000000000 : Int64)), .second, .val (.long ((((((p1 &&& (2147483647 : Int32)) - ((p1 &&& (2147483647 : Int32)) / (2201 : Int32)) * (2201 : Int32)) - (1100 : Int32)).toInt64) * (301029995663981 : Int64)) - (124938736608300 : Int64))), .second, .val (.long (1000 : Int64)), .second] [(.int (F1 (((p1 &&& (2147483647 : Int32)) - ((p1 &&& (2147483647 : Int32)) / (2201 : Int32)) * (2201 : Int32)) - (1100 : Int32)))), (.long (((((((p1 &&& (2147483647 : Int32)) - ((p1 &&& (2147483647 : Int32)) / (2201 : Int32)) * (2201 : Int32)) - (1100 : Int32)).toInt64) * (301029995663981 : Int64)) - (124938736608300 : Int64)) - (1000 : Int64)))])) _
          refine XS.iconst X3.here hx rfl (hb hby at_74) ?_
          show Steps p.tables e below (T3.setTop (mkF m 75 #[.val (.int p1), .val (.int (((p1 &&& (2147483647 : Int32)) - ((p1 &&& (2147483647 : Int32)) / (2201 : Int32)) * (2201 : Int32)) - (1100 : Int32))), .val (.int (F1 (((p1 &&& (2147483647 : Int32)) - ((p1 &&& (2147483647 : Int32)) / (2201 : Int32)) * (2201 : Int32)) - (1100 : Int32)))), .val (.long (1000000000000000 : Int64)), .second, .val (.long ((((((p1 &&& (2147483647 : Int32)) - ((p1 &&& (2147483647 : Int32)) / (2201 : Int32)) * (2201 : Int32)) - (1100 : Int32)).toInt64) * (301029995663981 : Int64)) - (124938736608300 : Int64))), .second, .val (.long (1000 : Int64)), .second] [(.int (1 : Int32)), (.int (F1 (((p1 &&& (2147483647 : Int32)) - ((p1 &&& (2147483647 : Int32)) / (2201 : Int32)) * (2201 : Int32)) - (1100 : Int32)))), (.long (((((((p1 &&& (2147483647 : Int32)) - ((p1 &&& (2147483647 : Int32)) / (2201 : Int32)) * (2201 : Int32)) - (1100 : Int32)).toInt64) * (301029995663981 : Int64)) - (124938736608300 : Int64)) - (1000 : Int64)))])) _
          refine XS.iadd X3.here hx rfl (hb hby at_75) rfl ?_
          show Steps p.tables e below (T3.setTop (mkF m 76 #[.val (.int p1), .val (.int (((p1 &&& (2147483647 : Int32)) - ((p1 &&& (2147483647 : Int32)) / (2201 : Int32)) * (2201 : Int32)) - (1100 : Int32))), .val (.int (F1 (((p1 &&& (2147483647 : Int32)) - ((p1 &&& (2147483647 : Int32)) / (2201 : Int32)) * (2201 : Int32)) - (1100 : Int32)))), .val (.long (1000000000000000 : Int64)), .second, .val (.long ((((((p1 &&& (2147483647 : Int32)) - ((p1 &&& (2147483647 : Int32)) / (2201 : Int32)) * (2201 : Int32)) - (1100 : Int32)).toInt64) * (301029995663981 : Int64)) - (124938736608300 : Int64))), .second, .val (.long (1000 : Int64)), .second] [(.int ((F1 (((p1 &&& (2147483647 : Int32)) - ((p1 &&& (2147483647 : Int32)) / (2201 : Int32)) * (2201 : Int32)) - (1100 : Int32))) + (1 : Int32))), (.long (((((((p1 &&& (2147483647 : Int32)) - ((p1 &&& (2147483647 : Int32)) / (2201 : Int32)) * (2201 : Int32)) - (1100 : Int32)).toInt64) * (301029995663981 : Int64)) - (124938736608300 : Int64)) - (1000 : Int64)))])) _
          refine XS.i2l X3.here hx rfl (hb hby at_76) rfl ?_
          show Steps p.tables e below (T3.setTop (mkF m 77 #[.val (.int p1), .val (.int (((p1 &&& (2147483647 : Int32)) - ((p1 &&& (2147483647 : Int32)) / (2201 : Int32)) * (2201 : Int32)) - (1100 : Int32))), .val (.int (F1 (((p1 &&& (2147483647 : Int32)) - ((p1 &&& (2147483647 : Int32)) / (2201 : Int32)) * (2201 : Int32)) - (1100 : Int32)))), .val (.long (1000000000000000 : Int64)), .second, .val (.long ((((((p1 &&& (2147483647 : Int32)) - ((p1 &&& (2147483647 : Int32)) / (2201 : Int32)) * (2201 : Int32)) - (1100 : Int32)).toInt64) * (301029995663981 : Int64)) - (124938736608300 : Int64))), .second, .val (.long (1000 : Int64)), .second] [(.long (((F1 (((p1 &&& (2147483647 : Int32)) - ((p1 &&& (2147483647 : Int32)) / (2201 : Int32)) * (2201 : Int32)) - (1100 : Int32))) + (1 : Int32)).toInt64)), (.long (((((((p1 &&& (2147483647 : Int32)) - ((p1 &&& (2147483647 : Int32)) / (2201 : Int32)) * (2201 : Int32)) - (1100 : Int32)).toInt64) * (301029995663981 : Int64)) - (124938736608300 : Int64)) - (1000 : Int64)))])) _
          refine XS.lloadN X3.here hx rfl (hb hby at_77) rfl ?_
          show Steps p.tables e below (T3.setTop (mkF m 78 #[.val (.int p1), .val (.int (((p1 &&& (2147483647 : Int32)) - ((p1 &&& (2147483647 : Int32)) / (2201 : Int32)) * (2201 : Int32)) - (1100 : Int32))), .val (.int (F1 (((p1 &&& (2147483647 : Int32)) - ((p1 &&& (2147483647 : Int32)) / (2201 : Int32)) * (2201 : Int32)) - (1100 : Int32)))), .val (.long (1000000000000000 : Int64)), .second, .val (.long ((((((p1 &&& (2147483647 : Int32)) - ((p1 &&& (2147483647 : Int32)) / (2201 : Int32)) * (2201 : Int32)) - (1100 : Int32)).toInt64) * (301029995663981 : Int64)) - (124938736608300 : Int64))), .second, .val (.long (1000 : Int64)), .second] [(.long (1000000000000000 : Int64)), (.long (((F1 (((p1 &&& (2147483647 : Int32)) - ((p1 &&& (2147483647 : Int32)) / (2201 : Int32)) * (2201 : Int32)) - (1100 : Int32))) + (1 : Int32)).toInt64)), (.long (((((((p1 &&& (2147483647 : Int32)) - ((p1 &&& (2147483647 : Int32)) / (2201 : Int32)) * (2201 : Int32)) - (1100 : Int32)).toInt64) * (301029995663981 : Int64)) - (124938736608300 : Int64)) - (1000 : Int64)))])) _
          refine XS.lmul X3.here hx rfl (hb hby at_78) rfl ?_
          show Steps p.tables e below (T3.setTop (mkF m 79 #[.val (.int p1), .val (.int (((p1 &&& (2147483647 : Int32)) - ((p1 &&& (2147483647 : Int32)) / (2201 : Int32)) * (2201 : Int32)) - (1100 : Int32))), .val (.int (F1 (((p1 &&& (2147483647 : Int32)) - ((p1 &&& (2147483647 : Int32)) / (2201 : Int32)) * (2201 : Int32)) - (1100 : Int32)))), .val (.long (1000000000000000 : Int64)), .second, .val (.long ((((((p1 &&& (2147483647 : Int32)) - ((p1 &&& (2147483647 : Int32)) / (2201 : Int32)) * (2201 : Int32)) - (1100 : Int32)).toInt64) * (301029995663981 : Int64)) - (124938736608300 : Int64))), .second, .val (.long (1000 : Int64)), .second] [(.long ((((F1 (((p1 &&& (2147483647 : Int32)) - ((p1 &&& (2147483647 : Int32)) / (2201 : Int32)) * (2201 : Int32)) - (1100 : Int32))) + (1 : Int32)).toInt64) * (1000000000000000 : Int64))), (.long (((((((p1 &&& (2147483647 : Int32)) - ((p1 &&& (2147483647 : Int32)) / (2201 : Int32)) * (2201 : Int32)) - (1100 : Int32)).toInt64) * (301029995663981 : Int64)) - (124938736608300 : Int64)) - (1000 : Int64)))])) _
          refine XS.lcmp X3.here hx rfl (hb hby at_79) rfl ?_
          exact k
        by_cases hc21 : (lcmpW (((((((p1 &&& (2147483647 : Int32)) - ((p1 &&& (2147483647 : Int32)) / (2201 : Int32)) * (2201 : Int32)) - (1100 : Int32)).toInt64) * (301029995663981 : Int64)) - (124938736608300 : Int64)) - (1000 : Int64)) ((((F1 (((p1 &&& (2147483647 : Int32)) - ((p1 &&& (2147483647 : Int32)) / (2201 : Int32)) * (2201 : Int32)) - (1100 : Int32))) + (1 : Int32)).toInt64) * (1000000000000000 : Int64))) < (0 : Int32)
        · have pre22 : ∀ t, Steps p.tables e below (T3.setTop (mkF m 83 #[.val (.int p1), .val (.int (((p1 &&& (2147483647 : Int32)) - ((p1 &&& (2147483647 : Int32)) / (2201 : Int32)) * (2201 : Int32)) - (1100 : Int32))), .val (.int (F1 (((p1 &&& (2147483647 : Int32)) - ((p1 &&& (2147483647 : Int32)) / (2201 : Int32)) * (2201 : Int32)) - (1100 : Int32)))), .val (.long (1000000000000000 : Int64)), .second, .val (.long ((((((p1 &&& (2147483647 : Int32)) - ((p1 &&& (2147483647 : Int32)) / (2201 : Int32)) * (2201 : Int32)) - (1100 : Int32)).toInt64) * (301029995663981 : Int64)) - (124938736608300 : Int64))), .second, .val (.long (1000 : Int64)), .second] [])) t → Steps p.tables e below (s₁.setTop (entryFrame m #[(.int p1)] maxLocals)) t := by
            intro t k
            refine pre20 _ ?_
            show Steps p.tables e below (T3.setTop (mkF m 80 #[.val (.int p1), .val (.int (((p1 &&& (2147483647 : Int32)) - ((p1 &&& (2147483647 : Int32)) / (2201 : Int32)) * (2201 : Int32)) - (1100 : Int32))), .val (.int (F1 (((p1 &&& (2147483647 : Int32)) - ((p1 &&& (2147483647 : Int32)) / (2201 : Int32)) * (2201 : Int32)) - (1100 : Int32)))), .val (.long (1000000000000000 : Int64)), .second, .val (.long ((((((p1 &&& (2147483647 : Int32)) - ((p1 &&& (2147483647 : Int32)) / (2201 : Int32)) * (2201 : Int32)) - (1100 : Int32)).toInt64) * (301029995663981 : Int64)) - (124938736608300 : Int64))), .second, .val (.long (1000 : Int64)), .second] [(.int (lcmpW (((((((p1 &&& (2147483647 : Int32)) - ((p1 &&& (2147483647 : Int32)) / (2201 : Int32)) * (2201 : Int32)) - (1100 : Int32)).toInt64) * (301029995663981 : Int64)) - (124938736608300 : Int64)) - (1000 : Int64)) ((((F1 (((p1 &&& (2147483647 : Int32)) - ((p1 &&& (2147483647 : Int32)) / (2201 : Int32)) * (2201 : Int32)) - (1100 : Int32))) + (1 : Int32)).toInt64) * (1000000000000000 : Int64))))])) _
            refine XS.ifNo X3.here hx rfl (hb hby at_80) rfl ((if0 _ _).trans (tlt hc21).2.1) ?_
            exact k
          have pre23 : ∀ t, Steps p.tables e below (T3.setTop (mkF m 88 #[.val (.int p1), .val (.int (((p1 &&& (2147483647 : Int32)) - ((p1 &&& (2147483647 : Int32)) / (2201 : Int32)) * (2201 : Int32)) - (1100 : Int32))), .val (.int (F1 (((p1 &&& (2147483647 : Int32)) - ((p1 &&& (2147483647 : Int32)) / (2201 : Int32)) * (2201 : Int32)) - (1100 : Int32)))), .val (.long (1000000000000000 : Int64)), .second, .val (.long ((((((p1 &&& (2147483647 : Int32)) - ((p1 &&& (2147483647 : Int32)) / (2201 : Int32)) * (2201 : Int32)) - (1100 : Int32)).toInt64) * (301029995663981 : Int64)) - (124938736608300 : Int64))), .second, .val (.long (1000 : Int64)), .second] [(.int (1 : Int32))])) t → Steps p.tables e below (s₁.setTop (entryFrame m #[(.int p1)] maxLocals)) t := by
            intro t k
            refine pre22 _ ?_
            show Steps p.tables e below (T3.setTop (mkF m 83 #[.val (.int p1), .val (.int (((p1 &&& (2147483647 : Int32)) - ((p1 &&& (2147483647 : Int32)) / (2201 : Int32)) * (2201 : Int32)) - (1100 : Int32))), .val (.int (F1 (((p1 &&& (2147483647 : Int32)) - ((p1 &&& (2147483647 : Int32)) / (2201 : Int32)) * (2201 : Int32)) - (1100 : Int32)))), .val (.long (1000000000000000 : Int64)), .second, .val (.long ((((((p1 &&& (2147483647 : Int32)) - ((p1 &&& (2147483647 : Int32)) / (2201 : Int32)) * (2201 : Int32)) - (1100 : Int32)).toInt64) * (301029995663981 : Int64)) - (124938736608300 : Int64))), .second, .val (.long (1000 : Int64)), .second] [])) _
            refine XS.iconst X3.here hx rfl (hb hby at_83) ?_
            show Steps p.tables e below (T3.setTop (mkF m 84 #[.val (.int p1), .val (.int (((p1 &&& (2147483647 : Int32)) - ((p1 &&& (2147483647 : Int32)) / (2201 : Int32)) * (2201 : Int32)) - (1100 : Int32))), .val (.int (F1 (((p1 &&& (2147483647 : Int32)) - ((p1 &&& (2147483647 : Int32)) / (2201 : Int32)) * (2201 : Int32)) - (1100 : Int32)))), .val (.long (1000000000000000 : Int64)), .second, .val (.long ((((((p1 &&& (2147483647 : Int32)) - ((p1 &&& (2147483647 : Int32)) / (2201 : Int32)) * (2201 : Int32)) - (1100 : Int32)).toInt64) * (301029995663981 : Int64)) - (124938736608300 : Int64))), .second, .val (.long (1000 : Int64)), .second] [(.int (1 : Int32))])) _
            refine XS.goto X3.here hx rfl (pc0 := 84) (pc' := 88) rfl (hb hby at_84) (by decide) (by decide) ?_
            exact k
          obtain ⟨fs, hr, hrun, hended, hW, hsame⟩ := X3.leave (v := some (.int (1 : Int32))) (fun h => by rw [Bd.returns] at h; cases h) (hlocks := Bd.notSynchronized)
          refine ⟨_, _, pre23 _ ?_, hrun, hended, _, _, rfl, ?_, ⟨_, rfl⟩, hW, hsame.mono (by decide) (by decide)⟩
          · show Steps p.tables e below (T3.setTop (mkF m 88 #[.val (.int p1), .val (.int (((p1 &&& (2147483647 : Int32)) - ((p1 &&& (2147483647 : Int32)) / (2201 : Int32)) * (2201 : Int32)) - (1100 : Int32))), .val (.int (F1 (((p1 &&& (2147483647 : Int32)) - ((p1 &&& (2147483647 : Int32)) / (2201 : Int32)) * (2201 : Int32)) - (1100 : Int32)))), .val (.long (1000000000000000 : Int64)), .second, .val (.long ((((((p1 &&& (2147483647 : Int32)) - ((p1 &&& (2147483647 : Int32)) / (2201 : Int32)) * (2201 : Int32)) - (1100 : Int32)).toInt64) * (301029995663981 : Int64)) - (124938736608300 : Int64))), .second, .val (.long (1000 : Int64)), .second] [(.int (1 : Int32))])) _
            exact retN X3 hx (t := .boolean) Bd.returns (by simp) (hb hby at_88) hr
          · show Q0 Z p1 h0 n0 _ T3.heap _
            rw [e3]
            exact ⟨(by rw [F0, if_neg hc6, if_neg hc11, if_neg hc16, if_pos hc21]), N3, rfl⟩
        · have pre24 : ∀ t, Steps p.tables e below (T3.setTop (mkF m 87 #[.val (.int p1), .val (.int (((p1 &&& (2147483647 : Int32)) - ((p1 &&& (2147483647 : Int32)) / (2201 : Int32)) * (2201 : Int32)) - (1100 : Int32))), .val (.int (F1 (((p1 &&& (2147483647 : Int32)) - ((p1 &&& (2147483647 : Int32)) / (2201 : Int32)) * (2201 : Int32)) - (1100 : Int32)))), .val (.long (1000000000000000 : Int64)), .second, .val (.long ((((((p1 &&& (2147483647 : Int32)) - ((p1 &&& (2147483647 : Int32)) / (2201 : Int32)) * (2201 : Int32)) - (1100 : Int32)).toInt64) * (301029995663981 : Int64)) - (124938736608300 : Int64))), .second, .val (.long (1000 : Int64)), .second] [])) t → Steps p.tables e below (s₁.setTop (entryFrame m #[(.int p1)] maxLocals)) t := by
            intro t k
            refine pre20 _ ?_
            show Steps p.tables e below (T3.setTop (mkF m 80 #[.val (.int p1), .val (.int (((p1 &&& (2147483647 : Int32)) - ((p1 &&& (2147483647 : Int32)) / (2201 : Int32)) * (2201 : Int32)) - (1100 : Int32))), .val (.int (F1 (((p1 &&& (2147483647 : Int32)) - ((p1 &&& (2147483647 : Int32)) / (2201 : Int32)) * (2201 : Int32)) - (1100 : Int32)))), .val (.long (1000000000000000 : Int64)), .second, .val (.long ((((((p1 &&& (2147483647 : Int32)) - ((p1 &&& (2147483647 : Int32)) / (2201 : Int32)) * (2201 : Int32)) - (1100 : Int32)).toInt64) * (301029995663981 : Int64)) - (124938736608300 : Int64))), .second, .val (.long (1000 : Int64)), .second] [(.int (lcmpW (((((((p1 &&& (2147483647 : Int32)) - ((p1 &&& (2147483647 : Int32)) / (2201 : Int32)) * (2201 : Int32)) - (1100 : Int32)).toInt64) * (301029995663981 : Int64)) - (124938736608300 : Int64)) - (1000 : Int64)) ((((F1 (((p1 &&& (2147483647 : Int32)) - ((p1 &&& (2147483647 : Int32)) / (2201 : Int32)) * (2201 : Int32)) - (1100 : Int32))) + (1 : Int32)).toInt64) * (1000000000000000 : Int64))))])) _
            refine XS.ifYes X3.here hx rfl (pc0 := 80) (pc' := 87) rfl (hb hby at_80) rfl ((if0 _ _).trans (flt hc21).2.1) (by decide) (by decide) ?_
            exact k
          have pre25 : ∀ t, Steps p.tables e below (T3.setTop (mkF m 88 #[.val (.int p1), .val (.int (((p1 &&& (2147483647 : Int32)) - ((p1 &&& (2147483647 : Int32)) / (2201 : Int32)) * (2201 : Int32)) - (1100 : Int32))), .val (.int (F1 (((p1 &&& (2147483647 : Int32)) - ((p1 &&& (2147483647 : Int32)) / (2201 : Int32)) * (2201 : Int32)) - (1100 : Int32)))), .val (.long (1000000000000000 : Int64)), .second, .val (.long ((((((p1 &&& (2147483647 : Int32)) - ((p1 &&& (2147483647 : Int32)) / (2201 : Int32)) * (2201 : Int32)) - (1100 : Int32)).toInt64) * (301029995663981 : Int64)) - (124938736608300 : Int64))), .second, .val (.long (1000 : Int64)), .second] [(.int (0 : Int32))])) t → Steps p.tables e below (s₁.setTop (entryFrame m #[(.int p1)] maxLocals)) t := by
            intro t k
            refine pre24 _ ?_
            show Steps p.tables e below (T3.setTop (mkF m 87 #[.val (.int p1), .val (.int (((p1 &&& (2147483647 : Int32)) - ((p1 &&& (2147483647 : Int32)) / (2201 : Int32)) * (2201 : Int32)) - (1100 : Int32))), .val (.int (F1 (((p1 &&& (2147483647 : Int32)) - ((p1 &&& (2147483647 : Int32)) / (2201 : Int32)) * (2201 : Int32)) - (1100 : Int32)))), .val (.long (1000000000000000 : Int64)), .second, .val (.long ((((((p1 &&& (2147483647 : Int32)) - ((p1 &&& (2147483647 : Int32)) / (2201 : Int32)) * (2201 : Int32)) - (1100 : Int32)).toInt64) * (301029995663981 : Int64)) - (124938736608300 : Int64))), .second, .val (.long (1000 : Int64)), .second] [])) _
            refine XS.iconst X3.here hx rfl (hb hby at_87) ?_
            exact k
          obtain ⟨fs, hr, hrun, hended, hW, hsame⟩ := X3.leave (v := some (.int (0 : Int32))) (fun h => by rw [Bd.returns] at h; cases h) (hlocks := Bd.notSynchronized)
          refine ⟨_, _, pre25 _ ?_, hrun, hended, _, _, rfl, ?_, ⟨_, rfl⟩, hW, hsame.mono (by decide) (by decide)⟩
          · show Steps p.tables e below (T3.setTop (mkF m 88 #[.val (.int p1), .val (.int (((p1 &&& (2147483647 : Int32)) - ((p1 &&& (2147483647 : Int32)) / (2201 : Int32)) * (2201 : Int32)) - (1100 : Int32))), .val (.int (F1 (((p1 &&& (2147483647 : Int32)) - ((p1 &&& (2147483647 : Int32)) / (2201 : Int32)) * (2201 : Int32)) - (1100 : Int32)))), .val (.long (1000000000000000 : Int64)), .second, .val (.long ((((((p1 &&& (2147483647 : Int32)) - ((p1 &&& (2147483647 : Int32)) / (2201 : Int32)) * (2201 : Int32)) - (1100 : Int32)).toInt64) * (301029995663981 : Int64)) - (124938736608300 : Int64))), .second, .val (.long (1000 : Int64)), .second] [(.int (0 : Int32))])) _
            exact retN X3 hx (t := .boolean) Bd.returns (by simp) (hb hby at_88) hr
          · show Q0 Z p1 h0 n0 _ T3.heap _
            rw [e3]
            exact ⟨(by rw [F0, if_neg hc6, if_neg hc11, if_neg hc16, if_neg hc21]), N3, rfl⟩
def own_G (z : Int32) : Int32 :=

  if (F1 z) < (-1000 : Int32) then (  (0 : Int32))
  else (  if (1000 : Int32) < (F1 z) then (  (0 : Int32))
  else (  if (0 : Int32) < (lcmpW (((F1 z).toInt64) * (1000000000000000 : Int64)) ((((z.toInt64) * (301029995663981 : Int64)) - (124938736608300 : Int64)) + (1000 : Int64))) then (  (0 : Int32))
  else (  if (lcmpW ((((z.toInt64) * (301029995663981 : Int64)) - (124938736608300 : Int64)) - (1000 : Int64)) ((((F1 z) + (1 : Int32)).toInt64) * (1000000000000000 : Int64))) < (0 : Int32) then (  (1 : Int32))
  else (  (0 : Int32)))))
theorem own_all : (List.range 2201).all (fun k => own_G (Int32.ofNat k - 1100) == 1) = true := by decide +kernel
theorem plain0 (p1 : Int32) : F0 p1 = 1 := by
  show own_G (((p1 &&& (2147483647 : Int32)) - ((p1 &&& (2147483647 : Int32)) / (2201 : Int32)) * (2201 : Int32)) - (1100 : Int32)) = 1
  have em : (p1 &&& 2147483647).toInt = p1.toInt % ((2 ^ 31 : Nat) : Int) := c_mask p1 2147483647 31 (by decide) (by decide)
  generalize p1 &&& (2147483647 : Int32) = z at *
  have p31 : ((2 ^ 31 : Nat) : Int) = 2147483648 := by decide
  rw [p31] at em
  have em' : z - z / 2201 * 2201 = z % 2201 := by
    apply Int32.toInt_inj.mp
    have d1 := (c_idiv z 2201 2201 rfl (by decide)).1 (by omega)
    have d2 := (c_irem z 2201 2201 rfl).1 (by omega)
    have d3 := c_imul (z / 2201) 2201
    have d4 := c_isub z (z / 2201 * 2201)
    have n1 : (2201 : Int32).toInt = 2201 := rfl
    have r1 := rng32 (z - z / 2201 * 2201)
    rw [n1] at d3
    omega
  rw [em']
  have d2 := (c_irem z 2201 2201 rfl).1 (by omega)
  generalize z % 2201 = y at *
  have e : y = Int32.ofNat y.toInt.toNat := by
    apply Int32.toInt_inj.mp
    rw [Int32.toInt_ofNat_of_lt (by omega)]; omega
  have q := List.all_eq_true.mp own_all y.toInt.toNat (List.mem_range.mpr (by omega))
  rw [← e] at q
  exact eq_of_beq q
set_option maxRecDepth 65536 in
set_option maxHeartbeats 40000000 in
theorem comes_1 {Post : Tables → Env → Array Value → State → Outcome → State → Prop} (hpost : ∀ tb e args s v u, (limb_1_1.after args s (.returned v) u = true ∧ limb_1_2.after args s (.returned v) u = true ∧ True) → FrameEnd s (.returned v) u (Jvm.fieldLocs frame_1_writes args s ++ Jvm.arrayLocs frame_1_arrays args s ++ Jvm.staticLocs frame_1_statics s) 0 0 → Post tb e args s (.returned v) u) :
    ArmFor flags0 classFile x code maxLocals ret World_1 tables_1 room_1 Calls_1 rest_1 Pre_1 Post := by
  intro l hfl _ _ p e ha hc hk s m args below hf hA hF happ hP
  obtain ⟨hcalls, hrest, hpre⟩ := hP
  obtain ⟨-, -, -, hnamed, -, -, -, hat⟩ := (Spec.applies_iff hf).mp happ
  obtain ⟨hg, hn⟩ := and_e (Cond.before_iff.mp (show (Jvm.Cond.and given_1 narrow_1).before args s = true from hpre))
  obtain ⟨g26, g27⟩ := and_e hg
  obtain ⟨w0, rfl⟩ : ∃ w0 : Value, args = #[w0] := by
    have hs : args.size = 1 := by simpa [Cond.value, given_1] using g26
    obtain ⟨L⟩ := args
    match L, hs with
    | [w0], _ => exact ⟨w0, rfl⟩
  have hw := fun d (hd : d ∈ tables_1) => atoms_spec (ws := Jvm.Cond.code x code maxLocals ret :: tables_1) hat d (List.mem_cons_of_mem _ hd)
  have hfit : Fit s := fun {y c} hc i hi => by
    obtain ⟨ha, rfl⟩ := Array.getElem?_eq_some_iff.mp hc
    have q := List.all_eq_true.mp ((Array.all_eq_true_iff_forall_mem.mp hF) _ (Array.getElem_mem ha)) i (List.mem_range.mpr hi)
    simpa [Array.getElem?_eq_getElem hi] using q
  obtain ⟨i0, ei0⟩ := is_v g27
  obtain rfl : w0 = (.int i0) := Option.some.inj ei0
  obtain ⟨n, o, h1, h2, h3, v, L, rfl, ⟨hv, N, -⟩, hq⟩ := rm0 l s _ hw tables_1 i0  s.heap s.heap.size (Nat.le_refl _)  p e ha hc hk s m _ below hf ((Spec.applies_iff_loose hf).mp happ).1 ⟨rfl, State.Warmed39.refl s, rfl⟩ trivial
  rw [plain0] at hv
  subst hv
  refine ⟨n, _, h1, h2, h3, hpost _ _ _ _ _ _ ⟨Cond.after_iff.mpr rfl, Cond.after_iff.mpr (eq_i res_at (Term.int_eval (1)) rfl), trivial⟩ ⟨hq.1, hq.2.1, (hq.2.2.sift fun y hy => Or.inr (N y hy)).mono (by decide) (by decide)⟩⟩
theorem main_1_1 : Claimed_1_1 := comes_1 fun _ _ _ _ _ _ h hF => ⟨h.1, hF⟩
theorem main_1_2 : Claimed_1_2 := comes_1 fun _ _ _ _ _ _ h hF => ⟨h.2.1, hF⟩
end Jvm.Pilot.@@N@@
namespace Jvm.Pilot.@@N@@
open Jvm Jvm.ClassFile Sem Op Lib Jvm.Free Jvm.Stand Jvm.Pilot.@@N@@.Jvm.D
/-! MADE BY PROGRAM (witnessworld.py) out of the Statement's table words and the real class files: 9 classes; the members and pool entries that the words name. The judged class is class 1, her method 1. -/
namespace start1
open Jvm.ClassFile
def u (s : String) : CpInfo := .utf8 (stringToUtf16 s)
/-- a pool by its gaps: so many unusable entries, then the entry; so many at the end -/
def gap : Nat → List CpInfo → List CpInfo
  | 0, r => r
  | n + 1, r => .unusable :: gap n r
def poolList (es : List (Nat × CpInfo)) (last : Nat) : List CpInfo := es.foldr (fun e r => gap e.1 (e.2 :: r)) (gap last [])
def pool (es : List (Nat × CpInfo)) (last : Nat) : Array CpInfo := ⟨poolList es last⟩
def fileOf (pool : Array CpInfo) (this : Nat) (attrs : Array Attribute := #[]) (ms : Array MethodInfo := #[]) (fl : Nat := 33) (sup : Nat := 0) (ifs : Array Nat := #[]) (fds : Array FieldInfo := #[]) : ClassFile where
  minorVersion := 0
  majorVersion := 65
  constantPool := pool
  accessFlags := fl
  thisClass := this
  superClass := sup
  interfaces := ifs
  fields := fds
  methods := ms
  attributes := attrs
def plain (name : String) (sup : Option ClassId) : Class where
  name := name
  kind := .ordinary
  loader := none
  accessFlags := 33
  super := sup
  interfaces := #[]
  cf := none
  fields := #[]
  methods := #[]
  instanceTypes := #[]
  staticTypes := #[]
  resolved := #[]
  callSites := []
  init := .initialized
  statics := none
  mirror := none

def pool0 : Array CpInfo := pool [(5, u "<init>"), (0, u "()V"), (1, .class_ 10), (1, u "java/lang/Object")] 113

def k0m0 : Method := { name := "<init>", desc := "()V", sig := { parameters := [], returnType := none }, accessFlags := 1, code := none }
/-- java/lang/Object -/
def k0 : Class := { plain "java/lang/Object" none with
  accessFlags := 33
  interfaces := #[]
  cf := some (fileOf pool0 8 #[] #[{ accessFlags := 1, nameIndex := 5, descriptorIndex := 6, attributes := #[] }] 33 0 #[] #[])
  fields := #[]
  methods := #[k0m0]
  instanceTypes := #[]
  staticTypes := #[]
  resolved := Array.replicate 124 none
  statics := none }

def pool1 : Array CpInfo := pool [(2, .class_ 4), (1, u "java/lang/Object"), (0, u "<init>"), (0, u "()V"), (0, .integer 2147483647), (0, .methodref 9 10), (0, .class_ 11), (0, .nameAndType 12 13), (0, u "spillway/NumberText"), (0, u "floorLog10ThreeQuartersPow2"), (0, u "(I)I"), (0, .long 1000000000000000), (1, .long 301029995663981), (1, .long 124938736608300), (1, .long 1000), (1, .class_ 23), (0, u "spillway/NumberTextFloorLog10ThreeQuartersPow2PinLaw"), (2, u "law"), (0, u "(I)Z")] 3

def k1m0 : Method := { name := "<init>", desc := "()V", sig := { parameters := [], returnType := none }, accessFlags := 1, code := none }
def k1c1 : Code := { maxStack := 6, maxLocals := 9, code := code, exceptionTable := #[], attributes := #[] }
def k1m1 : Method := { name := "law", desc := "(I)Z", sig := { parameters := [.int], returnType := some .boolean }, accessFlags := 9, code := some k1c1 }
/-- spillway/NumberTextFloorLog10ThreeQuartersPow2PinLaw -/
def k1 : Class := { plain "spillway/NumberTextFloorLog10ThreeQuartersPow2PinLaw" (some 0) with
  accessFlags := 49
  interfaces := #[]
  cf := some (fileOf pool1 22 #[] #[{ accessFlags := 1, nameIndex := 5, descriptorIndex := 6, attributes := #[] }, { accessFlags := 9, nameIndex := 26, descriptorIndex := 27, attributes := #[] }] 49 2 #[] #[])
  fields := #[]
  methods := #[k1m0, k1m1]
  instanceTypes := #[]
  staticTypes := #[]
  resolved := Array.replicate 31 none
  statics := none }

def pool2 : Array CpInfo := pool [(2, .class_ 4), (1, u "java/lang/Object"), (0, u "<init>"), (0, u "()V"), (1, .class_ 10), (1, u "spillway/NumberText"), (30, u "EXACT_SIGNIFICANDS"), (0, u "[J"), (2, u "POWERS_OF_FIVE"), (42, u "floorLog10ThreeQuartersPow2"), (0, u "(I)I"), (5, u "POWERS"), (36, u "DIGIT_PAIRS"), (0, u "[C"), (2, u "POWERS_OF_TEN"), (0, .long 661971961083), (1, .long 274743187321), (44, u "OVERRUN"), (0, u "I"), (2, u "MAX_LONG_LENGTH"), (1, u "MAX_FLOATING_POINT_LENGTH"), (1, u "K_MIN"), (1, u "K_MAX"), (1, u "EXACT_FRACTION_BITS")] 13

def k2m0 : Method := { name := "<init>", desc := "()V", sig := { parameters := [], returnType := none }, accessFlags := 2, code := none }
def k2c1 : Code := { maxStack := 4, maxLocals := 1, code := prog_6_method_13_code, exceptionTable := #[], attributes := #[] }
def k2m1 : Method := { name := "floorLog10ThreeQuartersPow2", desc := "(I)I", sig := { parameters := [.int], returnType := some .int }, accessFlags := 8, code := some k2c1 }
/-- spillway/NumberText -/
def k2 : Class := { plain "spillway/NumberText" (some 0) with
  accessFlags := 48
  interfaces := #[]
  cf := some (fileOf pool2 8 #[] #[{ accessFlags := 2, nameIndex := 5, descriptorIndex := 6, attributes := #[] }, { accessFlags := 8, nameIndex := 88, descriptorIndex := 89, attributes := #[] }] 48 2 #[] #[{ accessFlags := 24, nameIndex := 184, descriptorIndex := 185, attributes := #[] }, { accessFlags := 24, nameIndex := 188, descriptorIndex := 185, attributes := #[] }, { accessFlags := 24, nameIndex := 190, descriptorIndex := 185, attributes := #[] }, { accessFlags := 26, nameIndex := 192, descriptorIndex := 185, attributes := #[] }, { accessFlags := 26, nameIndex := 194, descriptorIndex := 185, attributes := #[] }, { accessFlags := 26, nameIndex := 95, descriptorIndex := 42, attributes := #[] }, { accessFlags := 26, nameIndex := 136, descriptorIndex := 42, attributes := #[] }, { accessFlags := 26, nameIndex := 132, descriptorIndex := 133, attributes := #[] }, { accessFlags := 26, nameIndex := 196, descriptorIndex := 185, attributes := #[] }, { accessFlags := 26, nameIndex := 45, descriptorIndex := 42, attributes := #[] }, { accessFlags := 26, nameIndex := 41, descriptorIndex := 42, attributes := #[] }])
  fields := #[{ name := "OVERRUN", type := .int, accessFlags := 24, slot := 0, constantValue := 0 }, { name := "MAX_LONG_LENGTH", type := .int, accessFlags := 24, slot := 1, constantValue := 0 }, { name := "MAX_FLOATING_POINT_LENGTH", type := .int, accessFlags := 24, slot := 2, constantValue := 0 }, { name := "K_MIN", type := .int, accessFlags := 26, slot := 3, constantValue := 0 }, { name := "K_MAX", type := .int, accessFlags := 26, slot := 4, constantValue := 0 }, { name := "POWERS", type := (.array .long), accessFlags := 26, slot := 5, constantValue := 0 }, { name := "POWERS_OF_TEN", type := (.array .long), accessFlags := 26, slot := 6, constantValue := 0 }, { name := "DIGIT_PAIRS", type := (.array .char), accessFlags := 26, slot := 7, constantValue := 0 }, { name := "EXACT_FRACTION_BITS", type := .int, accessFlags := 26, slot := 8, constantValue := 0 }, { name := "POWERS_OF_FIVE", type := (.array .long), accessFlags := 26, slot := 9, constantValue := 0 }, { name := "EXACT_SIGNIFICANDS", type := (.array .long), accessFlags := 26, slot := 10, constantValue := 0 }]
  methods := #[k2m0, k2m1]
  instanceTypes := #[]
  staticTypes := #[.int, .int, .int, .int, .int, (.array .long), (.array .long), (.array .char), .int, (.array .long), (.array .long)]
  resolved := Array.replicate 210 none
  statics := none }

def pool3 : Array CpInfo := pool [(1, u "java/lang/Cloneable"), (0, .class_ 1), (0, u "java/lang/Object"), (0, .class_ 3)] 3

/-- java/lang/Cloneable -/
def k3 : Class := { plain "java/lang/Cloneable" (some 0) with
  accessFlags := 1537
  interfaces := #[]
  cf := some (fileOf pool3 2 #[] #[] 1537 4 #[] #[])
  fields := #[]
  methods := #[]
  instanceTypes := #[]
  staticTypes := #[]
  resolved := Array.replicate 8 none
  statics := none }

def pool4 : Array CpInfo := pool [(1, u "java/io/Serializable"), (0, .class_ 1), (0, u "java/lang/Object"), (0, .class_ 3)] 3

/-- java/io/Serializable -/
def k4 : Class := { plain "java/io/Serializable" (some 0) with
  accessFlags := 1537
  interfaces := #[]
  cf := some (fileOf pool4 2 #[] #[] 1537 4 #[] #[])
  fields := #[]
  methods := #[]
  instanceTypes := #[]
  staticTypes := #[]
  resolved := Array.replicate 8 none
  statics := none }

/-- the primitive byte -/
def k5 : Class := { plain "byte" none with kind := .primitive 'B', accessFlags := 0x411 }
/-- [B -/
def k6 : Class := { plain "[B" (some 0) with kind := .array 5 .byte, interfaces := #[3, 4], accessFlags := 1041 }

/-- the primitive int -/
def k7 : Class := { plain "int" none with kind := .primitive 'I', accessFlags := 0x411 }
/-- [I -/
def k8 : Class := { plain "[I" (some 0) with kind := .array 7 .int, interfaces := #[3, 4], accessFlags := 1041 }

def heap : Heap := #[]
def classes : Array Class := #[k0, k1, k2, k3, k4, k5, k6, k7, k8]
def interned : List (Array UInt16 × Addr) := []
def slotsUsed : Nat := 0
def theMethod : MethodId := ⟨1, 1⟩
def args0 : Array Value := #[.int 5]
def aboutOver (below : List Frame) : State where
  vm := { classes := classes, interned := interned.toArray }
  heap := heap
  slotsUsed := slotsUsed
  threads := #[{ frames := .invoking theMethod args0 :: below }]
def below0 : List Frame := [.native { method := ⟨0, 0⟩, args := #[] }]
def about1 : State := aboutOver below0
def p0 : Program := .bare "" "" ""
def e0 : Env := launch0.env 0 0 0
theorem w_frames : about1.frames = Frame.invoking theMethod args0 :: below0 := rfl
set_option maxRecDepth 65536 in
theorem w_args : argsFit about1.vm theMethod args0 = true := by decide +kernel
set_option maxRecDepth 65536 in
theorem w_heap : heapFits about1 = true := by decide +kernel
set_option maxRecDepth 65536 in
theorem w_runnable : about1.curStatus? = some .runnable := by decide +kernel
set_option maxRecDepth 65536 in
theorem w_alone : about1.alone = true := by decide +kernel
set_option maxRecDepth 65536 in
theorem w_named : about1.methodNamed? x = some theMethod := by decide +kernel
set_option maxRecDepth 65536 in
theorem w_hears : about1.hears theMethod below0 = true := by decide +kernel
set_option maxRecDepth 65536 in
theorem w_ripe : about1.ripe theMethod args0 below0 = true := by decide +kernel
theorem w_running : about1.status = .running := rfl
set_option maxRecDepth 65536 in
theorem w_room : about1.hasRoom e0.platform room_1 = true :=
  launch0.hasRoom_least _ room_1 (by decide +kernel) (by decide +kernel) (by decide +kernel) (by decide +kernel) (by decide +kernel) (by decide +kernel)
theorem allAtoms_all (ts : List Jvm.Cond) (a : Array Jvm.Value) (st : Jvm.State) : (allAtoms ts).before a st = ts.all (fun c => c.before a st) := by
  induction ts with
  | nil => rfl
  | cons c t ih =>
    show (Jvm.Cond.and c (allAtoms t)).before a st = _
    rw [Jvm.Cond.before_and, ih, List.all_cons]
def words1 : List Jvm.Cond := Jvm.Cond.code x code maxLocals ret :: tables_1
/-- a 'code' word, met by the world's own term for the bytes: nothing is compared byte by byte -/
theorem code_word {y : MethodName} {bytes : ByteArray} {mx : Nat} {rt : Option FieldType} {a : Array Value} {s : State} {m : MethodId} {meth : Method} {c : Code} (h1 : s.methodNamed? y = some m) (h2 : s.vm.method? m = some meth) (h3 : meth.code = some c) (h4 : c.code = bytes)
    (h5 : (c.maxLocals == mx && c.exceptionTable.isEmpty && decide (c.maxStack ≤ mostOperands) && decide (meth.sig.returnType = rt) && !meth.locks && decide (parseMethodDescriptor y.desc = some meth.sig)) = true) : (Jvm.Cond.code y bytes mx rt).before a s = true := by
  simp only [Bool.and_eq_true, beq_iff_eq, Bool.not_eq_true', decide_eq_true_eq] at h5
  obtain ⟨⟨⟨⟨⟨g1, g2⟩, g3⟩, g4⟩, g5⟩, g6⟩ := h5
  simp [Cond.before, Cond.holds, Cond.value, h1, h2, h3, h4, g1, g2, g3, g4, g5, g6]
def isCode : Jvm.Cond → Bool
  | .code _ _ _ _ => true
  | _ => false
theorem all_split {L : List Jvm.Cond} {P : Jvm.Cond → Bool} (h1 : L.all (fun c => isCode c || P c) = true) (h2 : ∀ c ∈ L.filter isCode, P c = true) : L.all P = true := by
  refine List.all_eq_true.mpr fun c hc => ?_
  have h := List.all_eq_true.mp h1 c hc
  rcases Bool.eq_false_or_eq_true (isCode c) with hi | hi
  · exact h2 c (List.mem_filter.mpr ⟨hc, hi⟩)
  · simpa [hi] using h
set_option maxRecDepth 65536 in
theorem w_c0 : (Jvm.Cond.code x code maxLocals ret).before args0 about1 = true := code_word (m := ⟨1, 1⟩) (meth := k1m1) (c := k1c1) (by decide +kernel) rfl rfl rfl (by decide +kernel)
set_option maxRecDepth 65536 in
theorem w_c1 : (Jvm.Cond.code ({ cls := "spillway/NumberText", name := "floorLog10ThreeQuartersPow2", desc := "(I)I" } : Jvm.MethodName) prog_6_method_13_code (1 : Nat) (Option.some Jvm.ClassFile.FieldType.int)).before args0 about1 = true := code_word (m := ⟨2, 1⟩) (meth := k2m1) (c := k2c1) (by decide +kernel) rfl rfl rfl (by decide +kernel)
def codes1 : List Jvm.Cond := [Jvm.Cond.code x code maxLocals ret, Jvm.Cond.code ({ cls := "spillway/NumberText", name := "floorLog10ThreeQuartersPow2", desc := "(I)I" } : Jvm.MethodName) prog_6_method_13_code (1 : Nat) (Option.some Jvm.ClassFile.FieldType.int)]
set_option maxRecDepth 65536 in
theorem codes_eq : words1.filter isCode = codes1 := rfl
theorem w_codes : ∀ c ∈ words1.filter isCode, c.before args0 about1 = true := by
  rw [codes_eq]
  intro c hc
  simp only [codes1, List.mem_cons, List.not_mem_nil, or_false] at hc
  rcases hc with rfl | rfl
  · exact w_c0
  · exact w_c1
set_option maxRecDepth 65536 in
theorem w_t1 : words1.all (fun c => isCode c || c.before args0 about1) = true := by decide +kernel
theorem w_tables : (allAtoms (Jvm.Cond.code x code maxLocals ret :: tables_1)).before args0 about1 = true := by
  rw [allAtoms_all]
  show words1.all (fun c => c.before args0 about1) = true
  refine all_split ?_ w_codes
  rw [w_t1]
set_option maxRecDepth 65536 in
theorem w_case : (Jvm.Cond.and given_1 narrow_1).before args0 about1 = true := by decide +kernel
theorem w_applies : (headSpec (Jvm.Cond.code x code maxLocals ret :: tables_1) room_1).applies x e0.platform about1 = true :=
  (Spec.applies_iff w_frames).mpr ⟨w_running, w_runnable, w_alone, w_named, w_hears, w_ripe, w_room, w_tables⟩
theorem atStart : AtStart classFile x code maxLocals ret World_1 tables_1 room_1 Calls_1 rest_1 Pre_1 launch0 p0 e0 about1 theMethod args0 below0 :=
  ⟨lists_1, trivial, launch0.admits_env _ _ _, launch0.least_env, fairChoices_fair.cas, fairChoices_fair.clock, w_frames, w_args, w_heap, w_applies, trivial, trivial, w_case⟩
end start1
theorem witness_1 : WitnessClaimed_1 := ⟨start1.p0, start1.e0, start1.about1, start1.theMethod, start1.args0, start1.below0, start1.atStart⟩
end Jvm.Pilot.@@N@@
