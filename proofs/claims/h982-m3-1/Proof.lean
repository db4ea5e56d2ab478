import JvmDerived
import JvmDerived.Pilot.@@N@@Statement
import JvmDerived.Pilot.@@N@@Code
set_option linter.unusedVariables false
set_option linter.unusedSimpArgs false
namespace Jvm.RoadKit
open Sem ClassFile Op Lib Jvm.Stand Jvm.Free Jvm.LawKit
section New
variable {p : Program} {l : Launch} {e : Env} {R : Room} {s : State} {m : MethodId} {args : Array Value} {below : List Frame} {meth : Method} {c : Code} {T : State} {locs : List Loc} {cells slots : Nat}
theorem retI (X : Stand p l e R s m args below meth c T locs cells slots) (hx : p.tables.exec = Jvm.exec) {pc : Nat} {Ls : Array Slot} {z : Int32} {rest : List Value} (hret : meth.sig.returnType = some .int) (hd : decode c.code pc = .ok (.ireturn, 1)) {fs : List Frame}
    (hl : ∀ (f : JFrame) (acts : List Action), f.method = m → f.locked = none → f.entered = [] → (doReturn e (T.setTop f) acts (some (.int z))).1 = T.setFrames fs) : Steps p.tables e below (T.setTop (mkF m pc Ls (.int z :: rest))) (T.setFrames fs) := by
  have hm' : T.vm.method? m = some meth := X.method'
  have hn : narrow .int (.int z) = .int z := rfl
  show Steps p.tables e below (T.setTop { method := m, pc := pc, locals := Ls, stack := _ :: rest, locked := none }) _
  jvm_step X.here [X.here.top, hx, hd, hm', hret, hn]
  first | (intro acts; rw [hl _ acts rfl rfl rfl]) | rw [hl _ _ rfl rfl rfl]
  exact Steps.refl _
end New
end Jvm.RoadKit
namespace Jvm.Pilot.@@N@@
open Jvm Jvm.ClassFile Sem Op Lib Jvm.Free Jvm.Stand Jvm.LawKit Jvm.RoadKit Bundle Jvm.Pilot.@@N@@.Jvm.D
theorem own_wS {Z : State} {a0 : Array Value} (hw : ∀ d ∈ tables_1, d.before a0 Z = true) : ∀ a ∈ Bundle.stringAtoms, a.before a0 Z = true := by
  intro d hd
  simp only [Bundle.stringAtoms, Bundle.sN, List.mem_cons, List.not_mem_nil, or_false] at hd
  rcases hd with rfl | rfl | rfl | rfl | rfl | rfl | rfl
  · exact (hw _ (List.mem_of_getElem? (i := 7) rfl))
  · exact (hw _ (List.mem_of_getElem? (i := 8) rfl))
  · exact (hw _ (List.mem_of_getElem? (i := 1) rfl))
  · exact (hw _ (List.mem_of_getElem? (i := 9) rfl))
  · exact (hw _ (List.mem_of_getElem? (i := 10) rfl))
  · exact (hw _ (List.mem_of_getElem? (i := 11) rfl))
  · exact (hw _ (List.mem_of_getElem? (i := 12) rfl))
theorem own_rg (q : Int64) : ¬ ((lcmpW (q &&& (4294967295 : Int64)) (0 : Int64)) < (0 : Int32)) ∧ ¬ ((0 : Int32) < (lcmpW (q &&& (4294967295 : Int64)) (4294967295 : Int64))) := by
  have e := c_maskL q 4294967295 32 (by decide) (by decide)
  have p : ((2 ^ 32 : Nat) : Int) = 4294967296 := by decide
  have k : (4294967295 : Int64).toInt = 4294967295 := by decide
  have n0 : (0 : Int64).toInt = 0 := by decide
  rw [p] at e
  rw [lw_lt, lw_gt, Int64.lt_iff_toInt_lt, Int64.lt_iff_toInt_lt, n0, k]
  omega
theorem d2_0 : decode jdk_31_method_11_code 0 = .ok (.aload_n 0, 1) := by decide +kernel
theorem d2_1 : decode jdk_31_method_11_code 1 = .ok (.ifnonnull 12, 3) := by decide +kernel
theorem d2_13 : decode jdk_31_method_11_code 13 = .ok (.aload_n 0, 1) := by decide +kernel
theorem d2_14 : decode jdk_31_method_11_code 14 = .ok (.areturn, 1) := by decide +kernel
theorem pn_2 : plainName "java/util/Objects" = true := by first | (simp [plainName, overriddenIn]; done) | decide +kernel
theorem ef_2 (m : MethodId) (x0 : Addr) (x1 : Addr) : entryFrame m #[(.ref x0), (.ref x1)] 2 = mkF m 0 #[.val (.ref x0), .val (.ref x1)] [] := by first | (simp [entryFrame, mkF, argsToLocals, Value.category]; done) | rfl
def F2 (a1 : Addr) : Addr :=
  a1
def Q2 (Z : State) (a1 : Addr) (a2 : Addr) (h0 : Heap) (n0 : Nat) (v : Option Value) (h : Heap) (L : List Loc) : Prop := v = some (.ref (F2 a1)) ∧ Fr n0 L ∧ h = h0
set_option maxRecDepth 65536 in
set_option maxHeartbeats 40000000 in
theorem rm2 (l : Launch) (Z : State) (a0 : Array Value) (hw : ∀ d ∈ tables_1, d.before a0 Z = true) (ws : List Jvm.Cond) (a1 : Addr) (a2 : Addr) (h0 : Heap) (n0 : Nat) (Z0 : n0 ≤ h0.size)  :
    MetFree l (⟨"java/util/Objects", "requireNonNull", "(Ljava/lang/Object;Ljava/lang/String;)Ljava/lang/Object;"⟩ : MethodName) (head1 (Jvm.Cond.code (⟨"java/util/Objects", "requireNonNull", "(Ljava/lang/Object;Ljava/lang/String;)Ljava/lang/Object;"⟩ : MethodName) jdk_31_method_11_code 2 (some (.object "java/lang/Object")) :: ws) ({ frames := 0, cells := 0, slots := 0, locals := 0 } : Room)) (fun a U => a = #[(.ref a1), (.ref a2)] ∧ Z.Warmed39 U.vm ∧ U.heap = h0) (fun _ _ _ _ _ => True) (fun _ U o U' => ∃ v L, o = .returned v ∧ Q2 Z a1 a2 h0 n0 v U'.heap L ∧ FrameEnd U o U' L ({ frames := 0, cells := 0, slots := 0, locals := 0 } : Room).cells ({ frames := 0, cells := 0, slots := 0, locals := 0 } : Room).slots) := by
  refine MetFree.of_bodySF (plainFor_of_name pn_2) hisR ?_
  intro p e s m args below meth c s₁ Bd hml0 hP hK
  obtain ⟨rfl, hZ, hh⟩ := hP
  have hx := Bd.exec
  have hby := Bd.bytes
  have hml : c.maxLocals = 2 := hml0
  have hown : s.vm.findClass "java/util/Objects" = some m.cls := findClass_of_methodNamed Bd.named
  have hnm := (name_of_methodNamed Bd.named Bd.method).1
  have hret := Bd.returns
  have hlocks : meth.locks = false := Bd.notSynchronized
  have X0 : Stand p l e ({ frames := 0, cells := 0, slots := 0, locals := 0 } : Room) s m #[(.ref a1), (.ref a2)] below meth c s₁ [] 0 0 := Stand.of_body Bd
  have e0 : s₁.heap = h0 := by rw [← hh, Bd.state]; rfl
  have N0 := Fr.nil n0
  have pre0 : ∀ t, Steps p.tables e below (s₁.setTop (mkF m 0 #[.val (.ref a1), .val (.ref a2)] [])) t → Steps p.tables e below (s₁.setTop (entryFrame m #[(.ref a1), (.ref a2)] 2)) t := fun t k => castTop (ef_2 m a1 a2) k
  have pre1 : ∀ t, Steps p.tables e below (s₁.setTop (mkF m 14 #[.val (.ref a1), .val (.ref a2)] [(.ref a1)])) t → Steps p.tables e below (s₁.setTop (entryFrame m #[(.ref a1), (.ref a2)] 2)) t := by
    intro t k
    refine pre0 _ ?_
    show Steps p.tables e below (s₁.setTop (mkF m 0 #[.val (.ref a1), .val (.ref a2)] [])) _
    refine XS.aloadN X0.here hx rfl (hb hby d2_0) rfl rfl ?_
    show Steps p.tables e below (s₁.setTop (mkF m 1 #[.val (.ref a1), .val (.ref a2)] [(.ref a1)])) _
    refine XS.ifnonnullYes X0.here hx rfl (pc0 := 1) (pc' := 13) rfl (hb hby d2_1) rfl (by decide) (by decide) ?_
    show Steps p.tables e below (s₁.setTop (mkF m 13 #[.val (.ref a1), .val (.ref a2)] [])) _
    refine XS.aloadN X0.here hx rfl (hb hby d2_13) rfl rfl ?_
    exact k
  obtain ⟨fs, hr, hrun, hended, hW, hsame⟩ := X0.leave (v := some (.ref a1)) (fun h => by rw [hret] at h; cases h) (hlocks := hlocks)
  refine ⟨_, _, pre1 _ ?_, hrun, hended, _, _, rfl, ?_, ⟨_, rfl⟩, hW, hsame.mono (by decide) (by decide)⟩
  · show Steps p.tables e below (s₁.setTop (mkF m 14 #[.val (.ref a1), .val (.ref a2)] [(.ref a1)])) _
    exact Jvm.RoadKit.retOut X0 hx hret rfl (Or.inr (Or.inr (Or.inr (Or.inr ⟨rfl, rfl, rfl⟩)))) (hb hby d2_14) hr
  · show Q2 Z a1 a2 h0 n0 _ s₁.heap _
    exact ⟨(by rw [F2]), N0, e0⟩
theorem d3_0 : decode prog_14_method_7_code 0 = .ok (.lload_n 0, 1) := by decide +kernel
theorem d3_1 : decode prog_14_method_7_code 1 = .ok (.lconst 0, 1) := by decide +kernel
theorem d3_2 : decode prog_14_method_7_code 2 = .ok (.lcmp, 1) := by decide +kernel
theorem d3_3 : decode prog_14_method_7_code 3 = .ok (.ifCond .lt 11, 3) := by decide +kernel
theorem d3_6 : decode prog_14_method_7_code 6 = .ok (.lload_n 0, 1) := by decide +kernel
theorem d3_7 : decode prog_14_method_7_code 7 = .ok (.ldc2_w 62, 3) := by decide +kernel
theorem d3_10 : decode prog_14_method_7_code 10 = .ok (.lcmp, 1) := by decide +kernel
theorem d3_11 : decode prog_14_method_7_code 11 = .ok (.ifCond .le 17, 3) := by decide +kernel
theorem d3_28 : decode prog_14_method_7_code 28 = .ok (.lload_n 0, 1) := by decide +kernel
theorem d3_29 : decode prog_14_method_7_code 29 = .ok (.l2i, 1) := by decide +kernel
theorem d3_30 : decode prog_14_method_7_code 30 = .ok (.ireturn, 1) := by decide +kernel
theorem pn_3 : plainName "com/example/message_buffer/messagebuffer/model/Message" = true := by first | (simp [plainName, overriddenIn]; done) | decide +kernel
theorem ef_3 (m : MethodId) (x0 : Int64) : entryFrame m #[(.long x0)] 2 = mkF m 0 #[.val (.long x0), .second] [] := by first | (simp [entryFrame, mkF, argsToLocals, Value.category]; done) | rfl
def F3 (q1 : Int64) : Int32 :=
  (q1.toInt32)
def Q3 (Z : State) (q1 : Int64) (h0 : Heap) (n0 : Nat) (v : Option Value) (h : Heap) (L : List Loc) : Prop := v = some (.int (F3 q1)) ∧ Fr n0 L ∧ h = h0
set_option maxRecDepth 65536 in
set_option maxHeartbeats 40000000 in
theorem rm3 (l : Launch) (Z : State) (a0 : Array Value) (hw : ∀ d ∈ tables_1, d.before a0 Z = true) (ws : List Jvm.Cond) (q1 : Int64) (h0 : Heap) (n0 : Nat) (Z0 : n0 ≤ h0.size) (hc0 : ¬ ((lcmpW q1 (0 : Int64)) < (0 : Int32))) (hc1 : ¬ ((0 : Int32) < (lcmpW q1 (4294967295 : Int64)))) :
    MetFree l (⟨"com/example/message_buffer/messagebuffer/model/Message", "checked", "(J)I"⟩ : MethodName) (head1 (Jvm.Cond.code (⟨"com/example/message_buffer/messagebuffer/model/Message", "checked", "(J)I"⟩ : MethodName) prog_14_method_7_code 2 (some .int) :: ws) ({ frames := 0, cells := 0, slots := 0, locals := 0 } : Room)) (fun a U => a = #[(.long q1)] ∧ Z.Warmed39 U.vm ∧ U.heap = h0) (fun _ _ _ _ _ => True) (fun _ U o U' => ∃ v L, o = .returned v ∧ Q3 Z q1 h0 n0 v U'.heap L ∧ FrameEnd U o U' L ({ frames := 0, cells := 0, slots := 0, locals := 0 } : Room).cells ({ frames := 0, cells := 0, slots := 0, locals := 0 } : Room).slots) := by
  refine MetFree.of_bodySF (plainFor_of_name pn_3) hisR ?_
  intro p e s m args below meth c s₁ Bd hml0 hP hK
  obtain ⟨rfl, hZ, hh⟩ := hP
  have hx := Bd.exec
  have hby := Bd.bytes
  have hml : c.maxLocals = 2 := hml0
  have hown : s.vm.findClass "com/example/message_buffer/messagebuffer/model/Message" = some m.cls := findClass_of_methodNamed Bd.named
  have hnm := (name_of_methodNamed Bd.named Bd.method).1
  have hret := Bd.returns
  have hlocks : meth.locks = false := Bd.notSynchronized
  have X0 : Stand p l e ({ frames := 0, cells := 0, slots := 0, locals := 0 } : Room) s m #[(.long q1)] below meth c s₁ [] 0 0 := Stand.of_body Bd
  have e0 : s₁.heap = h0 := by rw [← hh, Bd.state]; rfl
  have N0 := Fr.nil n0
  have pre0 : ∀ t, Steps p.tables e below (s₁.setTop (mkF m 0 #[.val (.long q1), .second] [])) t → Steps p.tables e below (s₁.setTop (entryFrame m #[(.long q1)] 2)) t := fun t k => castTop (ef_3 m q1) k
  have pre2 : ∀ t, Steps p.tables e below (s₁.setTop (mkF m 3 #[.val (.long q1), .second] [(.int (lcmpW q1 (0 : Int64)))])) t → Steps p.tables e below (s₁.setTop (entryFrame m #[(.long q1)] 2)) t := by
    intro t k
    refine pre0 _ ?_
    show Steps p.tables e below (s₁.setTop (mkF m 0 #[.val (.long q1), .second] [])) _
    refine XS.lloadN X0.here hx rfl (hb hby d3_0) rfl ?_
    show Steps p.tables e below (s₁.setTop (mkF m 1 #[.val (.long q1), .second] [(.long q1)])) _
    refine XS.lconst X0.here hx rfl (hb hby d3_1) ?_
    show Steps p.tables e below (s₁.setTop (mkF m 2 #[.val (.long q1), .second] [(.long (0 : Int64)), (.long q1)])) _
    refine XS.lcmp X0.here hx rfl (hb hby d3_2) rfl ?_
    exact k
  have pre4 : ∀ t, Steps p.tables e below (s₁.setTop (mkF m 6 #[.val (.long q1), .second] [])) t → Steps p.tables e below (s₁.setTop (entryFrame m #[(.long q1)] 2)) t := by
    intro t k
    refine pre2 _ ?_
    show Steps p.tables e below (s₁.setTop (mkF m 3 #[.val (.long q1), .second] [(.int (lcmpW q1 (0 : Int64)))])) _
    refine XS.ifNo X0.here hx rfl (hb hby d3_3) rfl ((if0 _ _).trans (flt hc0).1) ?_
    exact k
  have pre5 : ∀ t, Steps p.tables e below (s₁.setTop (mkF m 11 #[.val (.long q1), .second] [(.int (lcmpW q1 (4294967295 : Int64)))])) t → Steps p.tables e below (s₁.setTop (entryFrame m #[(.long q1)] 2)) t := by
    intro t k
    refine pre4 _ ?_
    show Steps p.tables e below (s₁.setTop (mkF m 6 #[.val (.long q1), .second] [])) _
    refine XS.lloadN X0.here hx rfl (hb hby d3_6) rfl ?_
    show Steps p.tables e below (s₁.setTop (mkF m 7 #[.val (.long q1), .second] [(.long q1)])) _
    refine X0.ldc2Long hx hown (mvT hZ (hw _ (List.mem_of_getElem? (i := 22) rfl))) (g := (mkF m 7 #[.val (.long q1), .second] [(.long q1)])) rfl (hb hby d3_7) _ ?_
    show Steps p.tables e below (s₁.setTop (mkF m 10 #[.val (.long q1), .second] [(.long (4294967295 : Int64)), (.long q1)])) _
    refine XS.lcmp X0.here hx rfl (hb hby d3_10) rfl ?_
    exact k
  have pre7 : ∀ t, Steps p.tables e below (s₁.setTop (mkF m 28 #[.val (.long q1), .second] [])) t → Steps p.tables e below (s₁.setTop (entryFrame m #[(.long q1)] 2)) t := by
    intro t k
    refine pre5 _ ?_
    show Steps p.tables e below (s₁.setTop (mkF m 11 #[.val (.long q1), .second] [(.int (lcmpW q1 (4294967295 : Int64)))])) _
    refine XS.ifYes X0.here hx rfl (pc0 := 11) (pc' := 28) rfl (hb hby d3_11) rfl ((if0 _ _).trans (flt hc1).2.2.2) (by decide) (by decide) ?_
    exact k
  have pre8 : ∀ t, Steps p.tables e below (s₁.setTop (mkF m 30 #[.val (.long q1), .second] [(.int (q1.toInt32))])) t → Steps p.tables e below (s₁.setTop (entryFrame m #[(.long q1)] 2)) t := by
    intro t k
    refine pre7 _ ?_
    show Steps p.tables e below (s₁.setTop (mkF m 28 #[.val (.long q1), .second] [])) _
    refine XS.lloadN X0.here hx rfl (hb hby d3_28) rfl ?_
    show Steps p.tables e below (s₁.setTop (mkF m 29 #[.val (.long q1), .second] [(.long q1)])) _
    refine XS.l2i X0.here hx rfl (hb hby d3_29) rfl ?_
    exact k
  obtain ⟨fs, hr, hrun, hended, hW, hsame⟩ := X0.leave (v := some (.int (q1.toInt32))) (fun h => by rw [hret] at h; cases h) (hlocks := hlocks)
  refine ⟨_, _, pre8 _ ?_, hrun, hended, _, _, rfl, ?_, ⟨_, rfl⟩, hW, hsame.mono (by decide) (by decide)⟩
  · show Steps p.tables e below (s₁.setTop (mkF m 30 #[.val (.long q1), .second] [(.int (q1.toInt32))])) _
    exact retI X0 hx hret (hb hby d3_30) hr
  · show Q3 Z q1 h0 n0 _ s₁.heap _
    exact ⟨(by rw [F3]), N0, e0⟩
theorem d8_0 : decode jdk_33_method_42_code 0 = .ok (.iload_n 0, 1) := by decide +kernel
theorem d8_1 : decode jdk_33_method_42_code 1 = .ok (.i2l, 1) := by decide +kernel
theorem d8_2 : decode jdk_33_method_42_code 2 = .ok (.ldc2_w 262, 3) := by decide +kernel
theorem d8_5 : decode jdk_33_method_42_code 5 = .ok (.land, 1) := by decide +kernel
theorem d8_6 : decode jdk_33_method_42_code 6 = .ok (.lreturn, 1) := by decide +kernel
theorem pn_8 : plainName "java/lang/Integer" = true := by first | (simp [plainName, overriddenIn]; done) | decide +kernel
theorem ef_8 (m : MethodId) (x0 : Int32) : entryFrame m #[(.int x0)] 1 = mkF m 0 #[.val (.int x0)] [] := by first | (simp [entryFrame, mkF, argsToLocals, Value.category]; done) | rfl
def F8 (p1 : Int32) : Int64 :=
  ((p1.toInt64) &&& (4294967295 : Int64))
def Q8 (Z : State) (p1 : Int32) (h0 : Heap) (n0 : Nat) (v : Option Value) (h : Heap) (L : List Loc) : Prop := v = some (.long (F8 p1)) ∧ Fr n0 L ∧ h = h0
set_option maxRecDepth 65536 in
set_option maxHeartbeats 40000000 in
theorem rm8 (l : Launch) (Z : State) (a0 : Array Value) (hw : ∀ d ∈ tables_1, d.before a0 Z = true) (ws : List Jvm.Cond) (p1 : Int32) (h0 : Heap) (n0 : Nat) (Z0 : n0 ≤ h0.size)  :
    MetFree l (⟨"java/lang/Integer", "toUnsignedLong", "(I)J"⟩ : MethodName) (head1 (Jvm.Cond.code (⟨"java/lang/Integer", "toUnsignedLong", "(I)J"⟩ : MethodName) jdk_33_method_42_code 1 (some .long) :: ws) ({ frames := 0, cells := 0, slots := 0, locals := 0 } : Room)) (fun a U => a = #[(.int p1)] ∧ Z.Warmed39 U.vm ∧ U.heap = h0) (fun _ _ _ _ _ => True) (fun _ U o U' => ∃ v L, o = .returned v ∧ Q8 Z p1 h0 n0 v U'.heap L ∧ FrameEnd U o U' L ({ frames := 0, cells := 0, slots := 0, locals := 0 } : Room).cells ({ frames := 0, cells := 0, slots := 0, locals := 0 } : Room).slots) := by
  refine MetFree.of_bodySF (plainFor_of_name pn_8) hisR ?_
  intro p e s m args below meth c s₁ Bd hml0 hP hK
  obtain ⟨rfl, hZ, hh⟩ := hP
  have hx := Bd.exec
  have hby := Bd.bytes
  have hml : c.maxLocals = 1 := hml0
  have hown : s.vm.findClass "java/lang/Integer" = some m.cls := findClass_of_methodNamed Bd.named
  have hnm := (name_of_methodNamed Bd.named Bd.method).1
  have hret := Bd.returns
  have hlocks : meth.locks = false := Bd.notSynchronized
  have X0 : Stand p l e ({ frames := 0, cells := 0, slots := 0, locals := 0 } : Room) s m #[(.int p1)] below meth c s₁ [] 0 0 := Stand.of_body Bd
  have e0 : s₁.heap = h0 := by rw [← hh, Bd.state]; rfl
  have N0 := Fr.nil n0
  have pre0 : ∀ t, Steps p.tables e below (s₁.setTop (mkF m 0 #[.val (.int p1)] [])) t → Steps p.tables e below (s₁.setTop (entryFrame m #[(.int p1)] 1)) t := fun t k => castTop (ef_8 m p1) k
  have pre9 : ∀ t, Steps p.tables e below (s₁.setTop (mkF m 6 #[.val (.int p1)] [(.long ((p1.toInt64) &&& (4294967295 : Int64)))])) t → Steps p.tables e below (s₁.setTop (entryFrame m #[(.int p1)] 1)) t := by
    intro t k
    refine pre0 _ ?_
    show Steps p.tables e below (s₁.setTop (mkF m 0 #[.val (.int p1)] [])) _
    refine XS.iloadN X0.here hx rfl (hb hby d8_0) rfl ?_
    show Steps p.tables e below (s₁.setTop (mkF m 1 #[.val (.int p1)] [(.int p1)])) _
    refine XS.i2l X0.here hx rfl (hb hby d8_1) rfl ?_
    show Steps p.tables e below (s₁.setTop (mkF m 2 #[.val (.int p1)] [(.long (p1.toInt64))])) _
    refine X0.ldc2Long hx hown (mvT hZ (hw _ (List.mem_of_getElem? (i := 58) rfl))) (g := (mkF m 2 #[.val (.int p1)] [(.long (p1.toInt64))])) rfl (hb hby d8_2) _ ?_
    show Steps p.tables e below (s₁.setTop (mkF m 5 #[.val (.int p1)] [(.long (4294967295 : Int64)), (.long (p1.toInt64))])) _
    refine XS.land X0.here hx rfl (hb hby d8_5) rfl ?_
    exact k
  obtain ⟨fs, hr, hrun, hended, hW, hsame⟩ := X0.leave (v := some (.long ((p1.toInt64) &&& (4294967295 : Int64)))) (fun h => by rw [hret] at h; cases h) (hlocks := hlocks)
  refine ⟨_, _, pre9 _ ?_, hrun, hended, _, _, rfl, ?_, ⟨_, rfl⟩, hW, hsame.mono (by decide) (by decide)⟩
  · show Steps p.tables e below (s₁.setTop (mkF m 6 #[.val (.int p1)] [(.long ((p1.toInt64) &&& (4294967295 : Int64)))])) _
    exact Jvm.RoadKit.retOut X0 hx hret rfl (Or.inr (Or.inl ⟨rfl, rfl, _, rfl⟩)) (hb hby d8_6) hr
  · show Q8 Z p1 h0 n0 _ s₁.heap _
    exact ⟨(by rw [F8]), N0, e0⟩
theorem d12_0 : decode prog_14_method_12_code 0 = .ok (.iload_n 0, 1) := by decide +kernel
theorem d12_1 : decode prog_14_method_12_code 1 = .ok (.bipush 80, 2) := by decide +kernel
theorem d12_3 : decode prog_14_method_12_code 3 = .ok (.iadd, 1) := by decide +kernel
theorem d12_4 : decode prog_14_method_12_code 4 = .ok (.i2l, 1) := by decide +kernel
theorem d12_5 : decode prog_14_method_12_code 5 = .ok (.lreturn, 1) := by decide +kernel
theorem ef_12 (m : MethodId) (x0 : Int32) : entryFrame m #[(.int x0)] 1 = mkF m 0 #[.val (.int x0)] [] := by first | (simp [entryFrame, mkF, argsToLocals, Value.category]; done) | rfl
def F12 (p1 : Int32) : Int64 :=
  ((p1 + (80 : Int32)).toInt64)
def Q12 (Z : State) (p1 : Int32) (h0 : Heap) (n0 : Nat) (v : Option Value) (h : Heap) (L : List Loc) : Prop := v = some (.long (F12 p1)) ∧ Fr n0 L ∧ h = h0
set_option maxRecDepth 65536 in
set_option maxHeartbeats 40000000 in
theorem rm12 (l : Launch) (Z : State) (a0 : Array Value) (hw : ∀ d ∈ tables_1, d.before a0 Z = true) (ws : List Jvm.Cond) (p1 : Int32) (h0 : Heap) (n0 : Nat) (Z0 : n0 ≤ h0.size)  :
    MetFree l (⟨"com/example/message_buffer/messagebuffer/model/Message", "footprint", "(I)J"⟩ : MethodName) (head1 (Jvm.Cond.code (⟨"com/example/message_buffer/messagebuffer/model/Message", "footprint", "(I)J"⟩ : MethodName) prog_14_method_12_code 1 (some .long) :: ws) ({ frames := 0, cells := 0, slots := 0, locals := 0 } : Room)) (fun a U => a = #[(.int p1)] ∧ Z.Warmed39 U.vm ∧ U.heap = h0) (fun _ _ _ _ _ => True) (fun _ U o U' => ∃ v L, o = .returned v ∧ Q12 Z p1 h0 n0 v U'.heap L ∧ FrameEnd U o U' L ({ frames := 0, cells := 0, slots := 0, locals := 0 } : Room).cells ({ frames := 0, cells := 0, slots := 0, locals := 0 } : Room).slots) := by
  refine MetFree.of_bodySF (plainFor_of_name pn_3) hisR ?_
  intro p e s m args below meth c s₁ Bd hml0 hP hK
  obtain ⟨rfl, hZ, hh⟩ := hP
  have hx := Bd.exec
  have hby := Bd.bytes
  have hml : c.maxLocals = 1 := hml0
  have hown : s.vm.findClass "com/example/message_buffer/messagebuffer/model/Message" = some m.cls := findClass_of_methodNamed Bd.named
  have hnm := (name_of_methodNamed Bd.named Bd.method).1
  have hret := Bd.returns
  have hlocks : meth.locks = false := Bd.notSynchronized
  have X0 : Stand p l e ({ frames := 0, cells := 0, slots := 0, locals := 0 } : Room) s m #[(.int p1)] below meth c s₁ [] 0 0 := Stand.of_body Bd
  have e0 : s₁.heap = h0 := by rw [← hh, Bd.state]; rfl
  have N0 := Fr.nil n0
  have pre0 : ∀ t, Steps p.tables e below (s₁.setTop (mkF m 0 #[.val (.int p1)] [])) t → Steps p.tables e below (s₁.setTop (entryFrame m #[(.int p1)] 1)) t := fun t k => castTop (ef_12 m p1) k
  have pre10 : ∀ t, Steps p.tables e below (s₁.setTop (mkF m 5 #[.val (.int p1)] [(.long ((p1 + (80 : Int32)).toInt64))])) t → Steps p.tables e below (s₁.setTop (entryFrame m #[(.int p1)] 1)) t := by
    intro t k
    refine pre0 _ ?_
    show Steps p.tables e below (s₁.setTop (mkF m 0 #[.val (.int p1)] [])) _
    refine XS.iloadN X0.here hx rfl (hb hby d12_0) rfl ?_
    show Steps p.tables e below (s₁.setTop (mkF m 1 #[.val (.int p1)] [(.int p1)])) _
    refine XS.bipush X0.here hx rfl (hb hby d12_1) ?_
    show Steps p.tables e below (s₁.setTop (mkF m 3 #[.val (.int p1)] [(.int (80 : Int32)), (.int p1)])) _
    refine XS.iadd X0.here hx rfl (hb hby d12_3) rfl ?_
    show Steps p.tables e below (s₁.setTop (mkF m 4 #[.val (.int p1)] [(.int (p1 + (80 : Int32)))])) _
    refine XS.i2l X0.here hx rfl (hb hby d12_4) rfl ?_
    exact k
  obtain ⟨fs, hr, hrun, hended, hW, hsame⟩ := X0.leave (v := some (.long ((p1 + (80 : Int32)).toInt64))) (fun h => by rw [hret] at h; cases h) (hlocks := hlocks)
  refine ⟨_, _, pre10 _ ?_, hrun, hended, _, _, rfl, ?_, ⟨_, rfl⟩, hW, hsame.mono (by decide) (by decide)⟩
  · show Steps p.tables e below (s₁.setTop (mkF m 5 #[.val (.int p1)] [(.long ((p1 + (80 : Int32)).toInt64))])) _
    exact Jvm.RoadKit.retOut X0 hx hret rfl (Or.inr (Or.inl ⟨rfl, rfl, _, rfl⟩)) (hb hby d12_5) hr
  · show Q12 Z p1 h0 n0 _ s₁.heap _
    exact ⟨(by rw [F12]), N0, e0⟩
theorem d7_0 : decode prog_14_method_8_code 0 = .ok (.aload_n 0, 1) := by decide +kernel
theorem d7_1 : decode prog_14_method_8_code 1 = .ok (.getfield 7, 3) := by decide +kernel
theorem d7_4 : decode prog_14_method_8_code 4 = .ok (.invokestatic 67, 3) := by decide +kernel
theorem pd__I_J : parseMethodDescriptor "(I)J" = some ⟨[.int], some .long⟩ := by decide +kernel
theorem d7_7 : decode prog_14_method_8_code 7 = .ok (.lreturn, 1) := by decide +kernel
theorem ef_7 (m : MethodId) (x0 : Addr) : entryFrame m #[(.ref x0)] 1 = mkF m 0 #[.val (.ref x0)] [] := by first | (simp [entryFrame, mkF, argsToLocals, Value.category]; done) | rfl
def F7 (f_flags_a1 : Int32) : Int64 :=
  (F8 f_flags_a1)
def Q7 (Z : State) (a1 : Addr) (f_flags_a1 : Int32) (h0 : Heap) (n0 : Nat) (v : Option Value) (h : Heap) (L : List Loc) : Prop := v = some (.long (F7 f_flags_a1)) ∧ Fr n0 L ∧ h = h0
set_option maxRecDepth 65536 in
set_option maxHeartbeats 40000000 in
theorem rm7 (l : Launch) (Z : State) (a0 : Array Value) (hw : ∀ d ∈ tables_1, d.before a0 Z = true) (ws : List Jvm.Cond) (a1 : Addr) (f_flags_a1 : Int32) (h0 : Heap) (n0 : Nat) (Z0 : n0 ≤ h0.size) (F_f_flags_a1 : Fld Z h0 a1 "com/example/message_buffer/messagebuffer/model/Message" "flags" "I" (.int f_flags_a1)) :
    MetFree l (⟨"com/example/message_buffer/messagebuffer/model/Message", "flags", "()J"⟩ : MethodName) (head1 (Jvm.Cond.code (⟨"com/example/message_buffer/messagebuffer/model/Message", "flags", "()J"⟩ : MethodName) prog_14_method_8_code 1 (some .long) :: ws) ({ frames := 1, cells := 0, slots := 0, locals := 12 } : Room)) (fun a U => a = #[(.ref a1)] ∧ Z.Warmed39 U.vm ∧ U.heap = h0) (fun _ _ _ _ _ => True) (fun _ U o U' => ∃ v L, o = .returned v ∧ Q7 Z a1 f_flags_a1 h0 n0 v U'.heap L ∧ FrameEnd U o U' L ({ frames := 1, cells := 0, slots := 0, locals := 12 } : Room).cells ({ frames := 1, cells := 0, slots := 0, locals := 12 } : Room).slots) := by
  refine MetFree.of_bodySF (plainFor_of_name pn_3) hisR ?_
  intro p e s m args below meth c s₁ Bd hml0 hP hK
  obtain ⟨rfl, hZ, hh⟩ := hP
  have hx := Bd.exec
  have hby := Bd.bytes
  have hml : c.maxLocals = 1 := hml0
  have hown : s.vm.findClass "com/example/message_buffer/messagebuffer/model/Message" = some m.cls := findClass_of_methodNamed Bd.named
  have hnm := (name_of_methodNamed Bd.named Bd.method).1
  have hret := Bd.returns
  have hlocks : meth.locks = false := Bd.notSynchronized
  have X0 : Stand p l e ({ frames := 1, cells := 0, slots := 0, locals := 12 } : Room) s m #[(.ref a1)] below meth c s₁ [] 0 0 := Stand.of_body Bd
  have e0 : s₁.heap = h0 := by rw [← hh, Bd.state]; rfl
  have N0 := Fr.nil n0
  have pre0 : ∀ t, Steps p.tables e below (s₁.setTop (mkF m 0 #[.val (.ref a1)] [])) t → Steps p.tables e below (s₁.setTop (entryFrame m #[(.ref a1)] 1)) t := fun t k => castTop (ef_7 m a1) k
  have pre11 : ∀ t, Steps p.tables e below (s₁.setTop (mkF m 1 #[.val (.ref a1)] [(.ref a1)])) t → Steps p.tables e below (s₁.setTop (entryFrame m #[(.ref a1)] 1)) t := by
    intro t k
    refine pre0 _ ?_
    show Steps p.tables e below (s₁.setTop (mkF m 0 #[.val (.ref a1)] [])) _
    refine XS.aloadN X0.here hx rfl (hb hby d7_0) rfl rfl ?_
    exact k
  obtain ⟨T12, X12, e12, st12⟩ := getF X0 hx hZ hown (host := "") (Or.inl (hw _ (List.mem_of_getElem? (i := 29) rfl))) Via.refl e0 F_f_flags_a1 (g := (mkF m 1 #[.val (.ref a1)] [(.ref a1)])) rfl rfl (hb hby d7_1)
  have pre13 : ∀ t, Steps p.tables e below (T12.setTop (mkF m 4 #[.val (.ref a1)] [(.int f_flags_a1)])) t → Steps p.tables e below (s₁.setTop (entryFrame m #[(.ref a1)] 1)) t := by
    intro t k
    refine pre11 _ ?_
    show Steps p.tables e below (s₁.setTop (mkF m 1 #[.val (.ref a1)] [(.ref a1)])) _
    refine st12 _ ?_
    exact k
  obtain ⟨_, _, ⟨T14, L14, k14, n14⟩, -, X14, ⟨Lc14, hQ14, l14, y14, z14⟩, st14⟩ := Jvm.LawKit.callS X12 hx (y := (⟨"java/lang/Integer", "toUnsignedLong", "(I)J"⟩ : MethodName)) hown (mvT hZ (hw _ (List.mem_of_getElem? (i := 54) rfl))) (mvT hZ (hw _ (List.mem_of_getElem? (i := 55) rfl))) (mvT hZ (hw _ (List.mem_of_getElem? (i := 56) rfl))) (mvT hZ (hw _ (List.mem_of_getElem? (i := 57) rfl))) (by decide) (backOf (W := 0) (rm8 l Z a0 hw [] f_flags_a1 h0 n0 Z0 ) hZ (hw _ (List.mem_of_getElem? (i := 57) rfl)) (hw _ (List.mem_of_getElem? (i := 56) rfl)) (by decide) (by decide)) (g := (mkF m 4 #[.val (.ref a1)] [(.int f_flags_a1)])) rfl (by rw [hml]; rfl) (argsL := [(.int f_flags_a1)]) (rest := []) (lenOf pd__I_J rfl) rfl (by show 2 * 0 + _ ≤ _; exact Nat.le_of_eq rfl) (hb hby d7_4) (fun _ _ => ⟨rfl, e12, (by decide : 0 + 0 ≤ _), (by decide : 0 + 0 ≤ _)⟩)
  dsimp only [Pt.U, Pt.locs, Pt.cells, Pt.slots] at X14 l14 y14 z14 st14 hQ14
  subst l14 y14 z14
  obtain ⟨rfl, N14q, e14⟩ := hQ14
  have N14 := Fr.app N0 N14q
  have pre15 : ∀ t, Steps p.tables e below (T14.setTop (mkF m 7 #[.val (.ref a1)] [(.long (F8 f_flags_a1))])) t → Steps p.tables e below (s₁.setTop (entryFrame m #[(.ref a1)] 1)) t := by
    intro t k
    refine pre13 _ ?_
    show Steps p.tables e below (T12.setTop (mkF m 4 #[.val (.ref a1)] [(.int f_flags_a1)])) _
    refine st14 _ ?_
    exact k
  obtain ⟨fs, hr, hrun, hended, hW, hsame⟩ := X14.leave (v := some (.long (F8 f_flags_a1))) (fun h => by rw [hret] at h; cases h) (hlocks := hlocks)
  refine ⟨_, _, pre15 _ ?_, hrun, hended, _, _, rfl, ?_, ⟨_, rfl⟩, hW, hsame.mono (by decide) (by decide)⟩
  · show Steps p.tables e below (T14.setTop (mkF m 7 #[.val (.ref a1)] [(.long (F8 f_flags_a1))])) _
    exact Jvm.RoadKit.retOut X14 hx hret rfl (Or.inr (Or.inl ⟨rfl, rfl, _, rfl⟩)) (hb hby d7_7) hr
  · show Q7 Z a1 f_flags_a1 h0 n0 _ T14.heap _
    exact ⟨(by rw [F7]), N14, e14⟩
theorem d9_0 : decode prog_14_method_9_code 0 = .ok (.aload_n 0, 1) := by decide +kernel
theorem d9_1 : decode prog_14_method_9_code 1 = .ok (.getfield 21, 3) := by decide +kernel
theorem d9_4 : decode prog_14_method_9_code 4 = .ok (.ireturn, 1) := by decide +kernel
theorem ef_9 (m : MethodId) (x0 : Addr) : entryFrame m #[(.ref x0)] 1 = mkF m 0 #[.val (.ref x0)] [] := by first | (simp [entryFrame, mkF, argsToLocals, Value.category]; done) | rfl
def F9 (f_size_a1 : Int32) : Int32 :=
  f_size_a1
def Q9 (Z : State) (a1 : Addr) (f_size_a1 : Int32) (h0 : Heap) (n0 : Nat) (v : Option Value) (h : Heap) (L : List Loc) : Prop := v = some (.int (F9 f_size_a1)) ∧ Fr n0 L ∧ h = h0
set_option maxRecDepth 65536 in
set_option maxHeartbeats 40000000 in
theorem rm9 (l : Launch) (Z : State) (a0 : Array Value) (hw : ∀ d ∈ tables_1, d.before a0 Z = true) (ws : List Jvm.Cond) (a1 : Addr) (f_size_a1 : Int32) (h0 : Heap) (n0 : Nat) (Z0 : n0 ≤ h0.size) (F_f_size_a1 : Fld Z h0 a1 "com/example/message_buffer/messagebuffer/model/Message" "size" "I" (.int f_size_a1)) :
    MetFree l (⟨"com/example/message_buffer/messagebuffer/model/Message", "size", "()I"⟩ : MethodName) (head1 (Jvm.Cond.code (⟨"com/example/message_buffer/messagebuffer/model/Message", "size", "()I"⟩ : MethodName) prog_14_method_9_code 1 (some .int) :: ws) ({ frames := 0, cells := 0, slots := 0, locals := 0 } : Room)) (fun a U => a = #[(.ref a1)] ∧ Z.Warmed39 U.vm ∧ U.heap = h0) (fun _ _ _ _ _ => True) (fun _ U o U' => ∃ v L, o = .returned v ∧ Q9 Z a1 f_size_a1 h0 n0 v U'.heap L ∧ FrameEnd U o U' L ({ frames := 0, cells := 0, slots := 0, locals := 0 } : Room).cells ({ frames := 0, cells := 0, slots := 0, locals := 0 } : Room).slots) := by
  refine MetFree.of_bodySF (plainFor_of_name pn_3) hisR ?_
  intro p e s m args below meth c s₁ Bd hml0 hP hK
  obtain ⟨rfl, hZ, hh⟩ := hP
  have hx := Bd.exec
  have hby := Bd.bytes
  have hml : c.maxLocals = 1 := hml0
  have hown : s.vm.findClass "com/example/message_buffer/messagebuffer/model/Message" = some m.cls := findClass_of_methodNamed Bd.named
  have hnm := (name_of_methodNamed Bd.named Bd.method).1
  have hret := Bd.returns
  have hlocks : meth.locks = false := Bd.notSynchronized
  have X0 : Stand p l e ({ frames := 0, cells := 0, slots := 0, locals := 0 } : Room) s m #[(.ref a1)] below meth c s₁ [] 0 0 := Stand.of_body Bd
  have e0 : s₁.heap = h0 := by rw [← hh, Bd.state]; rfl
  have N0 := Fr.nil n0
  have pre0 : ∀ t, Steps p.tables e below (s₁.setTop (mkF m 0 #[.val (.ref a1)] [])) t → Steps p.tables e below (s₁.setTop (entryFrame m #[(.ref a1)] 1)) t := fun t k => castTop (ef_9 m a1) k
  have pre16 : ∀ t, Steps p.tables e below (s₁.setTop (mkF m 1 #[.val (.ref a1)] [(.ref a1)])) t → Steps p.tables e below (s₁.setTop (entryFrame m #[(.ref a1)] 1)) t := by
    intro t k
    refine pre0 _ ?_
    show Steps p.tables e below (s₁.setTop (mkF m 0 #[.val (.ref a1)] [])) _
    refine XS.aloadN X0.here hx rfl (hb hby d9_0) rfl rfl ?_
    exact k
  obtain ⟨T17, X17, e17, st17⟩ := getF X0 hx hZ hown (host := "") (Or.inl (hw _ (List.mem_of_getElem? (i := 35) rfl))) Via.refl e0 F_f_size_a1 (g := (mkF m 1 #[.val (.ref a1)] [(.ref a1)])) rfl rfl (hb hby d9_1)
  have pre18 : ∀ t, Steps p.tables e below (T17.setTop (mkF m 4 #[.val (.ref a1)] [(.int f_size_a1)])) t → Steps p.tables e below (s₁.setTop (entryFrame m #[(.ref a1)] 1)) t := by
    intro t k
    refine pre16 _ ?_
    show Steps p.tables e below (s₁.setTop (mkF m 1 #[.val (.ref a1)] [(.ref a1)])) _
    refine st17 _ ?_
    exact k
  obtain ⟨fs, hr, hrun, hended, hW, hsame⟩ := X17.leave (v := some (.int f_size_a1)) (fun h => by rw [hret] at h; cases h) (hlocks := hlocks)
  refine ⟨_, _, pre18 _ ?_, hrun, hended, _, _, rfl, ?_, ⟨_, rfl⟩, hW, hsame.mono (by decide) (by decide)⟩
  · show Steps p.tables e below (T17.setTop (mkF m 4 #[.val (.ref a1)] [(.int f_size_a1)])) _
    exact retI X17 hx hret (hb hby d9_4) hr
  · show Q9 Z a1 f_size_a1 h0 n0 _ T17.heap _
    exact ⟨(by rw [F9]), N0, e17⟩
theorem d11_0 : decode prog_14_method_13_code 0 = .ok (.aload_n 0, 1) := by decide +kernel
theorem d11_1 : decode prog_14_method_13_code 1 = .ok (.getfield 21, 3) := by decide +kernel
theorem d11_4 : decode prog_14_method_13_code 4 = .ok (.invokestatic 79, 3) := by decide +kernel
theorem d11_7 : decode prog_14_method_13_code 7 = .ok (.lreturn, 1) := by decide +kernel
theorem ef_11 (m : MethodId) (x0 : Addr) : entryFrame m #[(.ref x0)] 1 = mkF m 0 #[.val (.ref x0)] [] := by first | (simp [entryFrame, mkF, argsToLocals, Value.category]; done) | rfl
def F11 (f_size_a1 : Int32) : Int64 :=
  (F12 f_size_a1)
def Q11 (Z : State) (a1 : Addr) (f_size_a1 : Int32) (h0 : Heap) (n0 : Nat) (v : Option Value) (h : Heap) (L : List Loc) : Prop := v = some (.long (F11 f_size_a1)) ∧ Fr n0 L ∧ h = h0
set_option maxRecDepth 65536 in
set_option maxHeartbeats 40000000 in
theorem rm11 (l : Launch) (Z : State) (a0 : Array Value) (hw : ∀ d ∈ tables_1, d.before a0 Z = true) (ws : List Jvm.Cond) (a1 : Addr) (f_size_a1 : Int32) (h0 : Heap) (n0 : Nat) (Z0 : n0 ≤ h0.size) (F_f_size_a1 : Fld Z h0 a1 "com/example/message_buffer/messagebuffer/model/Message" "size" "I" (.int f_size_a1)) :
    MetFree l (⟨"com/example/message_buffer/messagebuffer/model/Message", "footprint", "()J"⟩ : MethodName) (head1 (Jvm.Cond.code (⟨"com/example/message_buffer/messagebuffer/model/Message", "footprint", "()J"⟩ : MethodName) prog_14_method_13_code 1 (some .long) :: ws) ({ frames := 1, cells := 0, slots := 0, locals := 12 } : Room)) (fun a U => a = #[(.ref a1)] ∧ Z.Warmed39 U.vm ∧ U.heap = h0) (fun _ _ _ _ _ => True) (fun _ U o U' => ∃ v L, o = .returned v ∧ Q11 Z a1 f_size_a1 h0 n0 v U'.heap L ∧ FrameEnd U o U' L ({ frames := 1, cells := 0, slots := 0, locals := 12 } : Room).cells ({ frames := 1, cells := 0, slots := 0, locals := 12 } : Room).slots) := by
  refine MetFree.of_bodySF (plainFor_of_name pn_3) hisR ?_
  intro p e s m args below meth c s₁ Bd hml0 hP hK
  obtain ⟨rfl, hZ, hh⟩ := hP
  have hx := Bd.exec
  have hby := Bd.bytes
  have hml : c.maxLocals = 1 := hml0
  have hown : s.vm.findClass "com/example/message_buffer/messagebuffer/model/Message" = some m.cls := findClass_of_methodNamed Bd.named
  have hnm := (name_of_methodNamed Bd.named Bd.method).1
  have hret := Bd.returns
  have hlocks : meth.locks = false := Bd.notSynchronized
  have X0 : Stand p l e ({ frames := 1, cells := 0, slots := 0, locals := 12 } : Room) s m #[(.ref a1)] below meth c s₁ [] 0 0 := Stand.of_body Bd
  have e0 : s₁.heap = h0 := by rw [← hh, Bd.state]; rfl
  have N0 := Fr.nil n0
  have pre0 : ∀ t, Steps p.tables e below (s₁.setTop (mkF m 0 #[.val (.ref a1)] [])) t → Steps p.tables e below (s₁.setTop (entryFrame m #[(.ref a1)] 1)) t := fun t k => castTop (ef_11 m a1) k
  have pre19 : ∀ t, Steps p.tables e below (s₁.setTop (mkF m 1 #[.val (.ref a1)] [(.ref a1)])) t → Steps p.tables e below (s₁.setTop (entryFrame m #[(.ref a1)] 1)) t := by
    intro t k
    refine pre0 _ ?_
    show Steps p.tables e below (s₁.setTop (mkF m 0 #[.val (.ref a1)] [])) _
    refine XS.aloadN X0.here hx rfl (hb hby d11_0) rfl rfl ?_
    exact k
  obtain ⟨T20, X20, e20, st20⟩ := getF X0 hx hZ hown (host := "") (Or.inl (hw _ (List.mem_of_getElem? (i := 35) rfl))) Via.refl e0 F_f_size_a1 (g := (mkF m 1 #[.val (.ref a1)] [(.ref a1)])) rfl rfl (hb hby d11_1)
  have pre21 : ∀ t, Steps p.tables e below (T20.setTop (mkF m 4 #[.val (.ref a1)] [(.int f_size_a1)])) t → Steps p.tables e below (s₁.setTop (entryFrame m #[(.ref a1)] 1)) t := by
    intro t k
    refine pre19 _ ?_
    show Steps p.tables e below (s₁.setTop (mkF m 1 #[.val (.ref a1)] [(.ref a1)])) _
    refine st20 _ ?_
    exact k
  obtain ⟨_, _, ⟨T22, L22, k22, n22⟩, -, X22, ⟨Lc22, hQ22, l22, y22, z22⟩, st22⟩ := Jvm.LawKit.callS X20 hx (y := (⟨"com/example/message_buffer/messagebuffer/model/Message", "footprint", "(I)J"⟩ : MethodName)) hown (mvT hZ (hw _ (List.mem_of_getElem? (i := 74) rfl))) (mvT hZ (hw _ (List.mem_of_getElem? (i := 75) rfl))) (mvT hZ (hw _ (List.mem_of_getElem? (i := 4) rfl))) (mvT hZ (hw _ (List.mem_of_getElem? (i := 76) rfl))) (by decide) (backOf (W := 0) (rm12 l Z a0 hw [] f_size_a1 h0 n0 Z0 ) hZ (hw _ (List.mem_of_getElem? (i := 76) rfl)) (hw _ (List.mem_of_getElem? (i := 4) rfl)) (by decide) (by decide)) (g := (mkF m 4 #[.val (.ref a1)] [(.int f_size_a1)])) rfl (by rw [hml]; rfl) (argsL := [(.int f_size_a1)]) (rest := []) (lenOf pd__I_J rfl) rfl (by show 2 * 0 + _ ≤ _; exact Nat.le_of_eq rfl) (hb hby d11_4) (fun _ _ => ⟨rfl, e20, (by decide : 0 + 0 ≤ _), (by decide : 0 + 0 ≤ _)⟩)
  dsimp only [Pt.U, Pt.locs, Pt.cells, Pt.slots] at X22 l22 y22 z22 st22 hQ22
  subst l22 y22 z22
  obtain ⟨rfl, N22q, e22⟩ := hQ22
  have N22 := Fr.app N0 N22q
  have pre23 : ∀ t, Steps p.tables e below (T22.setTop (mkF m 7 #[.val (.ref a1)] [(.long (F12 f_size_a1))])) t → Steps p.tables e below (s₁.setTop (entryFrame m #[(.ref a1)] 1)) t := by
    intro t k
    refine pre21 _ ?_
    show Steps p.tables e below (T20.setTop (mkF m 4 #[.val (.ref a1)] [(.int f_size_a1)])) _
    refine st22 _ ?_
    exact k
  obtain ⟨fs, hr, hrun, hended, hW, hsame⟩ := X22.leave (v := some (.long (F12 f_size_a1))) (fun h => by rw [hret] at h; cases h) (hlocks := hlocks)
  refine ⟨_, _, pre23 _ ?_, hrun, hended, _, _, rfl, ?_, ⟨_, rfl⟩, hW, hsame.mono (by decide) (by decide)⟩
  · show Steps p.tables e below (T22.setTop (mkF m 7 #[.val (.ref a1)] [(.long (F12 f_size_a1))])) _
    exact Jvm.RoadKit.retOut X22 hx hret rfl (Or.inr (Or.inl ⟨rfl, rfl, _, rfl⟩)) (hb hby d11_7) hr
  · show Q11 Z a1 f_size_a1 h0 n0 _ T22.heap _
    exact ⟨(by rw [F11]), N22, e22⟩
theorem d10_0 : decode prog_14_method_10_code 0 = .ok (.aload_n 0, 1) := by decide +kernel
theorem d10_1 : decode prog_14_method_10_code 1 = .ok (.getfield 17, 3) := by decide +kernel
theorem d10_4 : decode prog_14_method_10_code 4 = .ok (.areturn, 1) := by decide +kernel
theorem ef_10 (m : MethodId) (x0 : Addr) : entryFrame m #[(.ref x0)] 1 = mkF m 0 #[.val (.ref x0)] [] := by first | (simp [entryFrame, mkF, argsToLocals, Value.category]; done) | rfl
def Q10 (Z : State) (a1 : Addr) (h0 : Heap) (n0 : Nat) (v : Option Value) (h : Heap) (L : List Loc) : Prop := v = some .null ∧ Fr n0 L ∧ h = h0
set_option maxRecDepth 65536 in
set_option maxHeartbeats 40000000 in
theorem rm10 (l : Launch) (Z : State) (a0 : Array Value) (hw : ∀ d ∈ tables_1, d.before a0 Z = true) (ws : List Jvm.Cond) (a1 : Addr) (h0 : Heap) (n0 : Nat) (Z0 : n0 ≤ h0.size) (F1 : Fld Z h0 a1 "com/example/message_buffer/messagebuffer/model/Message" "source" "Lcom/example/message_buffer/messagebuffer/model/Message$Source;" .null) :
    MetFree l (⟨"com/example/message_buffer/messagebuffer/model/Message", "source", "()Lcom/example/message_buffer/messagebuffer/model/Message$Source;"⟩ : MethodName) (head1 (Jvm.Cond.code (⟨"com/example/message_buffer/messagebuffer/model/Message", "source", "()Lcom/example/message_buffer/messagebuffer/model/Message$Source;"⟩ : MethodName) prog_14_method_10_code 1 (some (.object "com/example/message_buffer/messagebuffer/model/Message$Source")) :: ws) ({ frames := 0, cells := 0, slots := 0, locals := 0 } : Room)) (fun a U => a = #[(.ref a1)] ∧ Z.Warmed39 U.vm ∧ U.heap = h0) (fun _ _ _ _ _ => True) (fun _ U o U' => ∃ v L, o = .returned v ∧ Q10 Z a1 h0 n0 v U'.heap L ∧ FrameEnd U o U' L ({ frames := 0, cells := 0, slots := 0, locals := 0 } : Room).cells ({ frames := 0, cells := 0, slots := 0, locals := 0 } : Room).slots) := by
  refine MetFree.of_bodySF (plainFor_of_name pn_3) hisR ?_
  intro p e s m args below meth c s₁ Bd hml0 hP hK
  obtain ⟨rfl, hZ, hh⟩ := hP
  have hx := Bd.exec
  have hby := Bd.bytes
  have hml : c.maxLocals = 1 := hml0
  have hown : s.vm.findClass "com/example/message_buffer/messagebuffer/model/Message" = some m.cls := findClass_of_methodNamed Bd.named
  have hnm := (name_of_methodNamed Bd.named Bd.method).1
  have hret := Bd.returns
  have hlocks : meth.locks = false := Bd.notSynchronized
  have X0 : Stand p l e ({ frames := 0, cells := 0, slots := 0, locals := 0 } : Room) s m #[(.ref a1)] below meth c s₁ [] 0 0 := Stand.of_body Bd
  have e0 : s₁.heap = h0 := by rw [← hh, Bd.state]; rfl
  have N0 := Fr.nil n0
  have pre0 : ∀ t, Steps p.tables e below (s₁.setTop (mkF m 0 #[.val (.ref a1)] [])) t → Steps p.tables e below (s₁.setTop (entryFrame m #[(.ref a1)] 1)) t := fun t k => castTop (ef_10 m a1) k
  have pre24 : ∀ t, Steps p.tables e below (s₁.setTop (mkF m 1 #[.val (.ref a1)] [(.ref a1)])) t → Steps p.tables e below (s₁.setTop (entryFrame m #[(.ref a1)] 1)) t := by
    intro t k
    refine pre0 _ ?_
    show Steps p.tables e below (s₁.setTop (mkF m 0 #[.val (.ref a1)] [])) _
    refine XS.aloadN X0.here hx rfl (hb hby d10_0) rfl rfl ?_
    exact k
  obtain ⟨T25, X25, e25, st25⟩ := getF X0 hx hZ hown (host := "") (Or.inl (hw _ (List.mem_of_getElem? (i := 33) rfl))) Via.refl e0 F1 (g := (mkF m 1 #[.val (.ref a1)] [(.ref a1)])) rfl rfl (hb hby d10_1)
  have pre26 : ∀ t, Steps p.tables e below (T25.setTop (mkF m 4 #[.val (.ref a1)] [.null])) t → Steps p.tables e below (s₁.setTop (entryFrame m #[(.ref a1)] 1)) t := by
    intro t k
    refine pre24 _ ?_
    show Steps p.tables e below (s₁.setTop (mkF m 1 #[.val (.ref a1)] [(.ref a1)])) _
    refine st25 _ ?_
    exact k
  obtain ⟨fs, hr, hrun, hended, hW, hsame⟩ := X25.leave (v := some .null) (fun h => by rw [hret] at h; cases h) (hlocks := hlocks)
  refine ⟨_, _, pre26 _ ?_, hrun, hended, _, _, rfl, ?_, ⟨_, rfl⟩, hW, hsame.mono (by decide) (by decide)⟩
  · show Steps p.tables e below (T25.setTop (mkF m 4 #[.val (.ref a1)] [.null])) _
    exact Jvm.RoadKit.retOut X25 hx hret rfl (Or.inr (Or.inr (Or.inr (Or.inr ⟨rfl, rfl, rfl⟩)))) (hb hby d10_4) hr
  · show Q10 Z a1 h0 n0 _ T25.heap _
    rw [e25]
    exact ⟨rfl, N0, rfl⟩
theorem d4_0 : decode prog_14_method_1_code 0 = .ok (.aload_n 0, 1) := by decide +kernel
theorem d4_1 : decode prog_14_method_1_code 1 = .ok (.invokespecial 1, 3) := by decide +kernel
theorem d4_4 : decode prog_14_method_1_code 4 = .ok (.aload_n 0, 1) := by decide +kernel
theorem d4_5 : decode prog_14_method_1_code 5 = .ok (.iload_n 1, 1) := by decide +kernel
theorem d4_6 : decode prog_14_method_1_code 6 = .ok (.putfield 7, 3) := by decide +kernel
theorem d4_9 : decode prog_14_method_1_code 9 = .ok (.aload_n 0, 1) := by decide +kernel
theorem d4_10 : decode prog_14_method_1_code 10 = .ok (.aload_n 2, 1) := by decide +kernel
theorem d4_11 : decode prog_14_method_1_code 11 = .ok (.putfield 13, 3) := by decide +kernel
theorem d4_14 : decode prog_14_method_1_code 14 = .ok (.aload_n 0, 1) := by decide +kernel
theorem d4_15 : decode prog_14_method_1_code 15 = .ok (.aconst_null, 1) := by decide +kernel
theorem d4_16 : decode prog_14_method_1_code 16 = .ok (.putfield 17, 3) := by decide +kernel
theorem d4_19 : decode prog_14_method_1_code 19 = .ok (.aload_n 0, 1) := by decide +kernel
theorem d4_20 : decode prog_14_method_1_code 20 = .ok (.aload_n 2, 1) := by decide +kernel
theorem d4_21 : decode prog_14_method_1_code 21 = .ok (.arraylength, 1) := by decide +kernel
theorem d4_22 : decode prog_14_method_1_code 22 = .ok (.putfield 21, 3) := by decide +kernel
theorem d4_25 : decode prog_14_method_1_code 25 = .ok (.return_, 1) := by decide +kernel
theorem ef_4 (m : MethodId) (x0 : Addr) (x1 : Int32) (x2 : Addr) : entryFrame m #[(.ref x0), (.int x1), (.ref x2)] 3 = mkF m 0 #[.val (.ref x0), .val (.int x1), .val (.ref x2)] [] := by first | (simp [entryFrame, mkF, argsToLocals, Value.category]; done) | rfl
def Q4 (Z : State) (a1 : Addr) (p2 : Int32) (a3 : Addr) (u1 : Value) (u2 : Value) (u3 : Value) (u4 : Value) (k : ClassId) (z : Int32) (vs : List Value) (dv : Value) (h0 : Heap) (n0 : Nat) (v : Option Value) (h : Heap) (L : List Loc) : Prop := v = none ∧ Fr n0 L ∧ Keep h0 h [a1] ∧ Exa Z h a1 "com/example/message_buffer/messagebuffer/model/Message" ∧ Fld Z h a1 "com/example/message_buffer/messagebuffer/model/Message" "flags" "I" (.int p2) ∧ Fld Z h a1 "com/example/message_buffer/messagebuffer/model/Message" "data" "[B" (.ref a3) ∧ Fld Z h a1 "com/example/message_buffer/messagebuffer/model/Message" "source" "Lcom/example/message_buffer/messagebuffer/model/Message$Source;" .null ∧ Fld Z h a1 "com/example/message_buffer/messagebuffer/model/Message" "size" "I" (.int z)
set_option maxRecDepth 65536 in
set_option maxHeartbeats 40000000 in
theorem rm4 (l : Launch) (Z : State) (a0 : Array Value) (hw : ∀ d ∈ tables_1, d.before a0 Z = true) (ws : List Jvm.Cond) (a1 : Addr) (p2 : Int32) (a3 : Addr) (u1 : Value) (u2 : Value) (u3 : Value) (u4 : Value) (k : ClassId) (z : Int32) (vs : List Value) (dv : Value) (h0 : Heap) (n0 : Nat) (Z0 : n0 ≤ h0.size) (E_a1 : Exa Z h0 a1 "com/example/message_buffer/messagebuffer/model/Message") (F_flags : Fld Z h0 a1 "com/example/message_buffer/messagebuffer/model/Message" "flags" "I" u1) (F_data : Fld Z h0 a1 "com/example/message_buffer/messagebuffer/model/Message" "data" "[B" u2) (F_source : Fld Z h0 a1 "com/example/message_buffer/messagebuffer/model/Message" "source" "Lcom/example/message_buffer/messagebuffer/model/Message$Source;" u3) (F_size : Fld Z h0 a1 "com/example/message_buffer/messagebuffer/model/Message" "size" "I" u4) (g_a1 : n0 ≤ a1) (A3 : Arv Z h0 a3 k .byte z vs dv) (hne : a3 ≠ a1) :
    MetFree l (⟨"com/example/message_buffer/messagebuffer/model/Message", "<init>", "(I[B)V"⟩ : MethodName) (head1 (Jvm.Cond.code (⟨"com/example/message_buffer/messagebuffer/model/Message", "<init>", "(I[B)V"⟩ : MethodName) prog_14_method_1_code 3 none :: ws) ({ frames := 1, cells := 0, slots := 0, locals := 12 } : Room)) (fun a U => a = #[(.ref a1), (.int p2), (.ref a3)] ∧ Z.Warmed39 U.vm ∧ U.heap = h0) (fun _ _ _ _ _ => True) (fun _ U o U' => ∃ v L, o = .returned v ∧ Q4 Z a1 p2 a3 u1 u2 u3 u4 k z vs dv h0 n0 v U'.heap L ∧ FrameEnd U o U' L ({ frames := 1, cells := 0, slots := 0, locals := 12 } : Room).cells ({ frames := 1, cells := 0, slots := 0, locals := 12 } : Room).slots) := by
  refine MetFree.of_bodySF (plainFor_of_name pn_3) hisR ?_
  intro p e s m args below meth c s₁ Bd hml0 hP hK
  obtain ⟨rfl, hZ, hh⟩ := hP
  have hx := Bd.exec
  have hby := Bd.bytes
  have hml : c.maxLocals = 3 := hml0
  have hown : s.vm.findClass "com/example/message_buffer/messagebuffer/model/Message" = some m.cls := findClass_of_methodNamed Bd.named
  have hnm := (name_of_methodNamed Bd.named Bd.method).1
  have hret := Bd.returns
  have hlocks : meth.locks = false := Bd.notSynchronized
  have X0 : Stand p l e ({ frames := 1, cells := 0, slots := 0, locals := 12 } : Room) s m #[(.ref a1), (.int p2), (.ref a3)] below meth c s₁ [] 0 0 := Stand.of_body Bd
  have e0 : s₁.heap = h0 := by rw [← hh, Bd.state]; rfl
  have N0 := Fr.nil n0
  have pre0 : ∀ t, Steps p.tables e below (s₁.setTop (mkF m 0 #[.val (.ref a1), .val (.int p2), .val (.ref a3)] [])) t → Steps p.tables e below (s₁.setTop (entryFrame m #[(.ref a1), (.int p2), (.ref a3)] 3)) t := fun t k => castTop (ef_4 m a1 p2 a3) k
  have pre27 : ∀ t, Steps p.tables e below (s₁.setTop (mkF m 1 #[.val (.ref a1), .val (.int p2), .val (.ref a3)] [(.ref a1)])) t → Steps p.tables e below (s₁.setTop (entryFrame m #[(.ref a1), (.int p2), (.ref a3)] 3)) t := by
    intro t k
    refine pre0 _ ?_
    show Steps p.tables e below (s₁.setTop (mkF m 0 #[.val (.ref a1), .val (.int p2), .val (.ref a3)] [])) _
    refine XS.aloadN X0.here hx rfl (hb hby d4_0) rfl rfl ?_
    exact k
  obtain ⟨T28, X28, e28, st28⟩ := initO X0 hx hZ hown (hw _ (List.mem_of_getElem? (i := 26) rfl)) (hw _ (List.mem_of_getElem? (i := 27) rfl)) (hw _ (List.mem_of_getElem? (i := 28) rfl)) e0 (g := (mkF m 1 #[.val (.ref a1), .val (.int p2), .val (.ref a3)] [(.ref a1)])) rfl (by rw [hml]; rfl) rfl (hb hby d4_1) (by decide) (W := 0) (by show 2 * 0 + _ ≤ _; exact Nat.le_of_eq rfl) (by decide)
  have pre29 : ∀ t, Steps p.tables e below (T28.setTop (mkF m 4 #[.val (.ref a1), .val (.int p2), .val (.ref a3)] [])) t → Steps p.tables e below (s₁.setTop (entryFrame m #[(.ref a1), (.int p2), (.ref a3)] 3)) t := by
    intro t k
    refine pre27 _ ?_
    show Steps p.tables e below (s₁.setTop (mkF m 1 #[.val (.ref a1), .val (.int p2), .val (.ref a3)] [(.ref a1)])) _
    refine st28 _ ?_
    exact k
  have pre30 : ∀ t, Steps p.tables e below (T28.setTop (mkF m 6 #[.val (.ref a1), .val (.int p2), .val (.ref a3)] [(.int p2), (.ref a1)])) t → Steps p.tables e below (s₁.setTop (entryFrame m #[(.ref a1), (.int p2), (.ref a3)] 3)) t := by
    intro t k
    refine pre29 _ ?_
    show Steps p.tables e below (T28.setTop (mkF m 4 #[.val (.ref a1), .val (.int p2), .val (.ref a3)] [])) _
    refine XS.aloadN X28.here hx rfl (hb hby d4_4) rfl rfl ?_
    show Steps p.tables e below (T28.setTop (mkF m 5 #[.val (.ref a1), .val (.int p2), .val (.ref a3)] [(.ref a1)])) _
    refine XS.iloadN X28.here hx rfl (hb hby d4_5) rfl ?_
    exact k
  obtain ⟨T31, h31, X31, e31, W31, st31⟩ := putF X28 hx hZ hown (host := "") (Or.inl (hw _ (List.mem_of_getElem? (i := 29) rfl))) Via.refl e28 F_flags E_a1 (Or.inr ⟨(hw _ (List.mem_of_getElem? (i := 30) rfl)), rfl, hnm⟩) (hw _ (List.mem_of_getElem? (i := 18) rfl)) (ty := .int) (by decide) rfl rfl (g := (mkF m 6 #[.val (.ref a1), .val (.int p2), .val (.ref a3)] [(.int p2), (.ref a1)])) rfl rfl (hb hby d4_6)
  have Fw31 := F_flags.same W31
  have Z32 : n0 ≤ h31.size := Nat.le_trans Z0 (Keep.of_wr W31).1
  have KP33 := (Keep.refl h0 [a1]).wr W31 (Or.inl (List.mem_of_getElem? (i := 0) rfl))
  have NN31 := Fr.snoc X31 N0 g_a1
  have pre34 : ∀ t, Steps p.tables e below (T31.setTop (mkF m 9 #[.val (.ref a1), .val (.int p2), .val (.ref a3)] [])) t → Steps p.tables e below (s₁.setTop (entryFrame m #[(.ref a1), (.int p2), (.ref a3)] 3)) t := by
    intro t k
    refine pre30 _ ?_
    show Steps p.tables e below (T28.setTop (mkF m 6 #[.val (.ref a1), .val (.int p2), .val (.ref a3)] [(.int p2), (.ref a1)])) _
    refine st31 _ ?_
    exact k
  have pre35 : ∀ t, Steps p.tables e below (T31.setTop (mkF m 11 #[.val (.ref a1), .val (.int p2), .val (.ref a3)] [(.ref a3), (.ref a1)])) t → Steps p.tables e below (s₁.setTop (entryFrame m #[(.ref a1), (.int p2), (.ref a3)] 3)) t := by
    intro t k
    refine pre34 _ ?_
    show Steps p.tables e below (T31.setTop (mkF m 9 #[.val (.ref a1), .val (.int p2), .val (.ref a3)] [])) _
    refine XS.aloadN X31.here hx rfl (hb hby d4_9) rfl rfl ?_
    show Steps p.tables e below (T31.setTop (mkF m 10 #[.val (.ref a1), .val (.int p2), .val (.ref a3)] [(.ref a1)])) _
    refine XS.aloadN X31.here hx rfl (hb hby d4_10) rfl rfl ?_
    exact k
  obtain ⟨T36, h36, X36, e36, W36, st36⟩ := putF X31 hx hZ hown (host := "") (Or.inl (hw _ (List.mem_of_getElem? (i := 31) rfl))) Via.refl e31 (F_data.other W31 (Or.inr (slot_ne (Or.inr (hw _ (List.mem_of_getElem? (i := 32) rfl))) (Or.inr (hw _ (List.mem_of_getElem? (i := 30) rfl))) (by decide) (t := (.array .byte)) (t' := .int) (by decide) (by decide)))) (E_a1.wr W31) (Or.inr ⟨(hw _ (List.mem_of_getElem? (i := 32) rfl)), rfl, hnm⟩) (hw _ (List.mem_of_getElem? (i := 18) rfl)) (ty := (.array .byte)) (by decide) rfl rfl (g := (mkF m 11 #[.val (.ref a1), .val (.int p2), .val (.ref a3)] [(.ref a3), (.ref a1)])) rfl rfl (hb hby d4_11)
  have Fw36 := (F_data.other W31 (Or.inr (slot_ne (Or.inr (hw _ (List.mem_of_getElem? (i := 32) rfl))) (Or.inr (hw _ (List.mem_of_getElem? (i := 30) rfl))) (by decide) (t := (.array .byte)) (t' := .int) (by decide) (by decide)))).same W36
  have Z37 : n0 ≤ h36.size := Nat.le_trans Z32 (Keep.of_wr W36).1
  have KP38 := KP33.wr W36 (Or.inl (List.mem_of_getElem? (i := 0) rfl))
  have NN36 := Fr.snoc X36 NN31 g_a1
  have pre39 : ∀ t, Steps p.tables e below (T36.setTop (mkF m 14 #[.val (.ref a1), .val (.int p2), .val (.ref a3)] [])) t → Steps p.tables e below (s₁.setTop (entryFrame m #[(.ref a1), (.int p2), (.ref a3)] 3)) t := by
    intro t k
    refine pre35 _ ?_
    show Steps p.tables e below (T31.setTop (mkF m 11 #[.val (.ref a1), .val (.int p2), .val (.ref a3)] [(.ref a3), (.ref a1)])) _
    refine st36 _ ?_
    exact k
  have pre40 : ∀ t, Steps p.tables e below (T36.setTop (mkF m 16 #[.val (.ref a1), .val (.int p2), .val (.ref a3)] [.null, (.ref a1)])) t → Steps p.tables e below (s₁.setTop (entryFrame m #[(.ref a1), (.int p2), (.ref a3)] 3)) t := by
    intro t k
    refine pre39 _ ?_
    show Steps p.tables e below (T36.setTop (mkF m 14 #[.val (.ref a1), .val (.int p2), .val (.ref a3)] [])) _
    refine XS.aloadN X36.here hx rfl (hb hby d4_14) rfl rfl ?_
    show Steps p.tables e below (T36.setTop (mkF m 15 #[.val (.ref a1), .val (.int p2), .val (.ref a3)] [(.ref a1)])) _
    refine XS.aconstNull X36.here hx rfl (hb hby d4_15) ?_
    exact k
  obtain ⟨T41, h41, X41, e41, W41, st41⟩ := putF X36 hx hZ hown (host := "") (Or.inl (hw _ (List.mem_of_getElem? (i := 33) rfl))) Via.refl e36 ((F_source.other W31 (Or.inr (slot_ne (Or.inr (hw _ (List.mem_of_getElem? (i := 34) rfl))) (Or.inr (hw _ (List.mem_of_getElem? (i := 30) rfl))) (by decide) (t := (.object "com/example/message_buffer/messagebuffer/model/Message$Source")) (t' := .int) (by decide) (by decide)))).other W36 (Or.inr (slot_ne (Or.inr (hw _ (List.mem_of_getElem? (i := 34) rfl))) (Or.inr (hw _ (List.mem_of_getElem? (i := 32) rfl))) (by decide) (t := (.object "com/example/message_buffer/messagebuffer/model/Message$Source")) (t' := (.array .byte)) (by decide) (by decide)))) ((E_a1.wr W31).wr W36) (Or.inr ⟨(hw _ (List.mem_of_getElem? (i := 34) rfl)), rfl, hnm⟩) (hw _ (List.mem_of_getElem? (i := 18) rfl)) (ty := (.object "com/example/message_buffer/messagebuffer/model/Message$Source")) (by decide) rfl rfl (g := (mkF m 16 #[.val (.ref a1), .val (.int p2), .val (.ref a3)] [.null, (.ref a1)])) rfl rfl (hb hby d4_16)
  have Fw41 := ((F_source.other W31 (Or.inr (slot_ne (Or.inr (hw _ (List.mem_of_getElem? (i := 34) rfl))) (Or.inr (hw _ (List.mem_of_getElem? (i := 30) rfl))) (by decide) (t := (.object "com/example/message_buffer/messagebuffer/model/Message$Source")) (t' := .int) (by decide) (by decide)))).other W36 (Or.inr (slot_ne (Or.inr (hw _ (List.mem_of_getElem? (i := 34) rfl))) (Or.inr (hw _ (List.mem_of_getElem? (i := 32) rfl))) (by decide) (t := (.object "com/example/message_buffer/messagebuffer/model/Message$Source")) (t' := (.array .byte)) (by decide) (by decide)))).same W41
  have Z42 : n0 ≤ h41.size := Nat.le_trans Z37 (Keep.of_wr W41).1
  have KP43 := KP38.wr W41 (Or.inl (List.mem_of_getElem? (i := 0) rfl))
  have NN41 := Fr.snoc X41 NN36 g_a1
  have pre44 : ∀ t, Steps p.tables e below (T41.setTop (mkF m 19 #[.val (.ref a1), .val (.int p2), .val (.ref a3)] [])) t → Steps p.tables e below (s₁.setTop (entryFrame m #[(.ref a1), (.int p2), (.ref a3)] 3)) t := by
    intro t k
    refine pre40 _ ?_
    show Steps p.tables e below (T36.setTop (mkF m 16 #[.val (.ref a1), .val (.int p2), .val (.ref a3)] [.null, (.ref a1)])) _
    refine st41 _ ?_
    exact k
  have pre45 : ∀ t, Steps p.tables e below (T41.setTop (mkF m 21 #[.val (.ref a1), .val (.int p2), .val (.ref a3)] [(.ref a3), (.ref a1)])) t → Steps p.tables e below (s₁.setTop (entryFrame m #[(.ref a1), (.int p2), (.ref a3)] 3)) t := by
    intro t k
    refine pre44 _ ?_
    show Steps p.tables e below (T41.setTop (mkF m 19 #[.val (.ref a1), .val (.int p2), .val (.ref a3)] [])) _
    refine XS.aloadN X41.here hx rfl (hb hby d4_19) rfl rfl ?_
    show Steps p.tables e below (T41.setTop (mkF m 20 #[.val (.ref a1), .val (.int p2), .val (.ref a3)] [(.ref a1)])) _
    refine XS.aloadN X41.here hx rfl (hb hby d4_20) rfl rfl ?_
    exact k
  obtain ⟨cl46, Ar46, -, S46, N_46, -, -⟩ := (((A3.other W31 hne).other W36 hne).other W41 hne)
  have pre47 : ∀ t, Steps p.tables e below (T41.setTop (mkF m 22 #[.val (.ref a1), .val (.int p2), .val (.ref a3)] [(.int z), (.ref a1)])) t → Steps p.tables e below (s₁.setTop (entryFrame m #[(.ref a1), (.int p2), (.ref a3)] 3)) t := by
    intro t k
    refine pre45 _ ?_
    show Steps p.tables e below (T41.setTop (mkF m 21 #[.val (.ref a1), .val (.int p2), .val (.ref a3)] [(.ref a3), (.ref a1)])) _
    refine X41.arraylength hx (by rw [e41]; exact Ar46.1) (State.isArrayOf_alike hZ.alike Ar46.2.1) (g := (mkF m 21 #[.val (.ref a1), .val (.int p2), .val (.ref a3)] [(.ref a3), (.ref a1)])) rfl rfl (hb hby d4_21) _ ?_
    rw [len_of S46 N_46]
    exact k
  obtain ⟨T48, h48, X48, e48, W48, st48⟩ := putF X41 hx hZ hown (host := "") (Or.inl (hw _ (List.mem_of_getElem? (i := 35) rfl))) Via.refl e41 (((F_size.other W31 (Or.inr (slot_ne (Or.inr (hw _ (List.mem_of_getElem? (i := 36) rfl))) (Or.inr (hw _ (List.mem_of_getElem? (i := 30) rfl))) (by decide) (t := .int) (t' := .int) (by decide) (by decide)))).other W36 (Or.inr (slot_ne (Or.inr (hw _ (List.mem_of_getElem? (i := 36) rfl))) (Or.inr (hw _ (List.mem_of_getElem? (i := 32) rfl))) (by decide) (t := .int) (t' := (.array .byte)) (by decide) (by decide)))).other W41 (Or.inr (slot_ne (Or.inr (hw _ (List.mem_of_getElem? (i := 36) rfl))) (Or.inr (hw _ (List.mem_of_getElem? (i := 34) rfl))) (by decide) (t := .int) (t' := (.object "com/example/message_buffer/messagebuffer/model/Message$Source")) (by decide) (by decide)))) (((E_a1.wr W31).wr W36).wr W41) (Or.inr ⟨(hw _ (List.mem_of_getElem? (i := 36) rfl)), rfl, hnm⟩) (hw _ (List.mem_of_getElem? (i := 18) rfl)) (ty := .int) (by decide) rfl rfl (g := (mkF m 22 #[.val (.ref a1), .val (.int p2), .val (.ref a3)] [(.int z), (.ref a1)])) rfl rfl (hb hby d4_22)
  have Fw48 := (((F_size.other W31 (Or.inr (slot_ne (Or.inr (hw _ (List.mem_of_getElem? (i := 36) rfl))) (Or.inr (hw _ (List.mem_of_getElem? (i := 30) rfl))) (by decide) (t := .int) (t' := .int) (by decide) (by decide)))).other W36 (Or.inr (slot_ne (Or.inr (hw _ (List.mem_of_getElem? (i := 36) rfl))) (Or.inr (hw _ (List.mem_of_getElem? (i := 32) rfl))) (by decide) (t := .int) (t' := (.array .byte)) (by decide) (by decide)))).other W41 (Or.inr (slot_ne (Or.inr (hw _ (List.mem_of_getElem? (i := 36) rfl))) (Or.inr (hw _ (List.mem_of_getElem? (i := 34) rfl))) (by decide) (t := .int) (t' := (.object "com/example/message_buffer/messagebuffer/model/Message$Source")) (by decide) (by decide)))).same W48
  have Z49 : n0 ≤ h48.size := Nat.le_trans Z42 (Keep.of_wr W48).1
  have KP50 := KP43.wr W48 (Or.inl (List.mem_of_getElem? (i := 0) rfl))
  have NN48 := Fr.snoc X48 NN41 g_a1
  have pre51 : ∀ t, Steps p.tables e below (T48.setTop (mkF m 25 #[.val (.ref a1), .val (.int p2), .val (.ref a3)] [])) t → Steps p.tables e below (s₁.setTop (entryFrame m #[(.ref a1), (.int p2), (.ref a3)] 3)) t := by
    intro t k
    refine pre47 _ ?_
    show Steps p.tables e below (T41.setTop (mkF m 22 #[.val (.ref a1), .val (.int p2), .val (.ref a3)] [(.int z), (.ref a1)])) _
    refine st48 _ ?_
    exact k
  obtain ⟨fs, hr, hrun, hended, hW, hsame⟩ := X48.leave (v := none) (fun _ => rfl) (hlocks := hlocks)
  refine ⟨_, _, pre51 _ ?_, hrun, hended, _, _, rfl, ?_, ⟨_, rfl⟩, hW, hsame.mono (by decide) (by decide)⟩
  · show Steps p.tables e below (T48.setTop (mkF m 25 #[.val (.ref a1), .val (.int p2), .val (.ref a3)] [])) _
    exact X48.returnOut hx hret (hb hby d4_25) hr
  · show Q4 Z a1 p2 a3 u1 u2 u3 u4 k z vs dv h0 n0 _ T48.heap _
    rw [e48]
    exact ⟨rfl, NN48, KP50, ((((E_a1.wr W31).wr W36).wr W41).wr W48), (((Fw31.other W36 (Or.inr (slot_ne (Or.inr (hw _ (List.mem_of_getElem? (i := 30) rfl))) (Or.inr (hw _ (List.mem_of_getElem? (i := 32) rfl))) (by decide) (t := .int) (t' := (.array .byte)) (by decide) (by decide)))).other W41 (Or.inr (slot_ne (Or.inr (hw _ (List.mem_of_getElem? (i := 30) rfl))) (Or.inr (hw _ (List.mem_of_getElem? (i := 34) rfl))) (by decide) (t := .int) (t' := (.object "com/example/message_buffer/messagebuffer/model/Message$Source")) (by decide) (by decide)))).other W48 (Or.inr (slot_ne (Or.inr (hw _ (List.mem_of_getElem? (i := 30) rfl))) (Or.inr (hw _ (List.mem_of_getElem? (i := 36) rfl))) (by decide) (t := .int) (t' := .int) (by decide) (by decide)))), ((Fw36.other W41 (Or.inr (slot_ne (Or.inr (hw _ (List.mem_of_getElem? (i := 32) rfl))) (Or.inr (hw _ (List.mem_of_getElem? (i := 34) rfl))) (by decide) (t := (.array .byte)) (t' := (.object "com/example/message_buffer/messagebuffer/model/Message$Source")) (by decide) (by decide)))).other W48 (Or.inr (slot_ne (Or.inr (hw _ (List.mem_of_getElem? (i := 32) rfl))) (Or.inr (hw _ (List.mem_of_getElem? (i := 36) rfl))) (by decide) (t := (.array .byte)) (t' := .int) (by decide) (by decide)))), (Fw41.other W48 (Or.inr (slot_ne (Or.inr (hw _ (List.mem_of_getElem? (i := 34) rfl))) (Or.inr (hw _ (List.mem_of_getElem? (i := 36) rfl))) (by decide) (t := (.object "com/example/message_buffer/messagebuffer/model/Message$Source")) (t' := .int) (by decide) (by decide)))), Fw48⟩
theorem d15_0 : decode jdk_48_method_13_code 0 = .ok (.iconst 0, 1) := by decide +kernel
theorem d15_1 : decode jdk_48_method_13_code 1 = .ok (.istore_n 3, 1) := by decide +kernel
theorem d15_2 : decode jdk_48_method_13_code 2 = .ok (.iload_n 2, 1) := by decide +kernel
theorem d15_3 : decode jdk_48_method_13_code 3 = .ok (.bipush 7, 2) := by decide +kernel
theorem d15_5 : decode jdk_48_method_13_code 5 = .ok (.if_icmp .le 44, 3) := by decide +kernel
theorem d15_49 : decode jdk_48_method_13_code 49 = .ok (.iload_n 3, 1) := by decide +kernel
theorem d15_50 : decode jdk_48_method_13_code 50 = .ok (.iload_n 2, 1) := by decide +kernel
theorem d15_51 : decode jdk_48_method_13_code 51 = .ok (.if_icmp .ge 20, 3) := by decide +kernel
theorem d15_71 : decode jdk_48_method_13_code 71 = .ok (.iconst (-1), 1) := by decide +kernel
theorem d15_72 : decode jdk_48_method_13_code 72 = .ok (.ireturn, 1) := by decide +kernel
theorem pn_15 : plainName "jdk/internal/util/ArraysSupport" = true := by first | (simp [plainName, overriddenIn]; done) | decide +kernel
theorem ef_150 (m : MethodId) (x0 : Addr) (x1 : Addr) : entryFrame m #[(.ref x0), (.ref x1), (.int (0 : Int32))] 4 = mkF m 0 #[.val (.ref x0), .val (.ref x1), .val (.int (0 : Int32)), .unset] [] := by first | (simp [entryFrame, mkF, argsToLocals, Value.category]; done) | rfl
def Q150 (Z : State) (a1 : Addr) (a2 : Addr) (k1 : ClassId) (k2 : ClassId) (h0 : Heap) (n0 : Nat) (v : Option Value) (h : Heap) (L : List Loc) : Prop := v = some (.int (-1 : Int32)) ∧ Fr n0 L ∧ h = h0
set_option maxRecDepth 65536 in
set_option maxHeartbeats 40000000 in
theorem rm150 (l : Launch) (Z : State) (a0 : Array Value) (hw : ∀ d ∈ tables_1, d.before a0 Z = true) (ws : List Jvm.Cond) (a1 : Addr) (a2 : Addr) (k1 : ClassId) (k2 : ClassId) (h0 : Heap) (n0 : Nat) (Z0 : n0 ≤ h0.size) (A1 : Arv Z h0 a1 k1 .byte (0 : Int32) [] (.int (0 : Int32))) (A2 : Arv Z h0 a2 k2 .byte (0 : Int32) [] (.int (0 : Int32))) :
    MetFree l (⟨"jdk/internal/util/ArraysSupport", "mismatch", "([B[BI)I"⟩ : MethodName) (head1 (Jvm.Cond.code (⟨"jdk/internal/util/ArraysSupport", "mismatch", "([B[BI)I"⟩ : MethodName) jdk_48_method_13_code 4 (some .int) :: ws) ({ frames := 0, cells := 0, slots := 0, locals := 0 } : Room)) (fun a U => a = #[(.ref a1), (.ref a2), (.int (0 : Int32))] ∧ Z.Warmed39 U.vm ∧ U.heap = h0) (fun _ _ _ _ _ => True) (fun _ U o U' => ∃ v L, o = .returned v ∧ Q150 Z a1 a2 k1 k2 h0 n0 v U'.heap L ∧ FrameEnd U o U' L ({ frames := 0, cells := 0, slots := 0, locals := 0 } : Room).cells ({ frames := 0, cells := 0, slots := 0, locals := 0 } : Room).slots) := by
  refine MetFree.of_bodySF (plainFor_of_name pn_15) hisR ?_
  intro p e s m args below meth c s₁ Bd hml0 hP hK
  obtain ⟨rfl, hZ, hh⟩ := hP
  have hx := Bd.exec
  have hby := Bd.bytes
  have hml : c.maxLocals = 4 := hml0
  have hown : s.vm.findClass "jdk/internal/util/ArraysSupport" = some m.cls := findClass_of_methodNamed Bd.named
  have hnm := (name_of_methodNamed Bd.named Bd.method).1
  have hret := Bd.returns
  have hlocks : meth.locks = false := Bd.notSynchronized
  have X0 : Stand p l e ({ frames := 0, cells := 0, slots := 0, locals := 0 } : Room) s m #[(.ref a1), (.ref a2), (.int (0 : Int32))] below meth c s₁ [] 0 0 := Stand.of_body Bd
  have e0 : s₁.heap = h0 := by rw [← hh, Bd.state]; rfl
  have N0 := Fr.nil n0
  obtain ⟨cl1, Ar1, _, S1, N_1, H1, _⟩ := A1
  obtain ⟨cl2, Ar2, _, S2, N_2, H2, _⟩ := A2
  have pre0 : ∀ t, Steps p.tables e below (s₁.setTop (mkF m 0 #[.val (.ref a1), .val (.ref a2), .val (.int (0 : Int32)), .unset] [])) t → Steps p.tables e below (s₁.setTop (entryFrame m #[(.ref a1), (.ref a2), (.int (0 : Int32))] 4)) t := fun t k => castTop (ef_150 m a1 a2) k
  have pre52 : ∀ t, Steps p.tables e below (s₁.setTop (mkF m 5 #[.val (.ref a1), .val (.ref a2), .val (.int (0 : Int32)), .val (.int (0 : Int32))] [(.int (7 : Int32)), (.int (0 : Int32))])) t → Steps p.tables e below (s₁.setTop (entryFrame m #[(.ref a1), (.ref a2), (.int (0 : Int32))] 4)) t := by
    intro t k
    refine pre0 _ ?_
    show Steps p.tables e below (s₁.setTop (mkF m 0 #[.val (.ref a1), .val (.ref a2), .val (.int (0 : Int32)), .unset] [])) _
    refine XS.iconst X0.here hx rfl (hb hby d15_0) ?_
    show Steps p.tables e below (s₁.setTop (mkF m 1 #[.val (.ref a1), .val (.ref a2), .val (.int (0 : Int32)), .unset] [(.int (0 : Int32))])) _
    refine XS.istoreN X0.here hx rfl (hb hby d15_1) rfl (l' := #[.val (.ref a1), .val (.ref a2), .val (.int (0 : Int32)), .val (.int (0 : Int32))]) rfl ?_
    show Steps p.tables e below (s₁.setTop (mkF m 2 #[.val (.ref a1), .val (.ref a2), .val (.int (0 : Int32)), .val (.int (0 : Int32))] [])) _
    refine XS.iloadN X0.here hx rfl (hb hby d15_2) rfl ?_
    show Steps p.tables e below (s₁.setTop (mkF m 3 #[.val (.ref a1), .val (.ref a2), .val (.int (0 : Int32)), .val (.int (0 : Int32))] [(.int (0 : Int32))])) _
    refine XS.bipush X0.here hx rfl (hb hby d15_3) ?_
    exact k
  have pre54 : ∀ t, Steps p.tables e below (s₁.setTop (mkF m 49 #[.val (.ref a1), .val (.ref a2), .val (.int (0 : Int32)), .val (.int (0 : Int32))] [])) t → Steps p.tables e below (s₁.setTop (entryFrame m #[(.ref a1), (.ref a2), (.int (0 : Int32))] 4)) t := by
    intro t k
    refine pre52 _ ?_
    show Steps p.tables e below (s₁.setTop (mkF m 5 #[.val (.ref a1), .val (.ref a2), .val (.int (0 : Int32)), .val (.int (0 : Int32))] [(.int (7 : Int32)), (.int (0 : Int32))])) _
    refine XS.icmpYes X0.here hx rfl (pc0 := 5) (pc' := 49) rfl (hb hby d15_5) rfl (flt (by decide : ¬ ((7 : Int32) < (0 : Int32)))).2.2.2 (by decide) (by decide) ?_
    exact k
  have pre55 : ∀ t, Steps p.tables e below (s₁.setTop (mkF m 51 #[.val (.ref a1), .val (.ref a2), .val (.int (0 : Int32)), .val (.int (0 : Int32))] [(.int (0 : Int32)), (.int (0 : Int32))])) t → Steps p.tables e below (s₁.setTop (entryFrame m #[(.ref a1), (.ref a2), (.int (0 : Int32))] 4)) t := by
    intro t k
    refine pre54 _ ?_
    show Steps p.tables e below (s₁.setTop (mkF m 49 #[.val (.ref a1), .val (.ref a2), .val (.int (0 : Int32)), .val (.int (0 : Int32))] [])) _
    refine XS.iloadN X0.here hx rfl (hb hby d15_49) rfl ?_
    show Steps p.tables e below (s₁.setTop (mkF m 50 #[.val (.ref a1), .val (.ref a2), .val (.int (0 : Int32)), .val (.int (0 : Int32))] [(.int (0 : Int32))])) _
    refine XS.iloadN X0.here hx rfl (hb hby d15_50) rfl ?_
    exact k
  have pre57 : ∀ t, Steps p.tables e below (s₁.setTop (mkF m 71 #[.val (.ref a1), .val (.ref a2), .val (.int (0 : Int32)), .val (.int (0 : Int32))] [])) t → Steps p.tables e below (s₁.setTop (entryFrame m #[(.ref a1), (.ref a2), (.int (0 : Int32))] 4)) t := by
    intro t k
    refine pre55 _ ?_
    show Steps p.tables e below (s₁.setTop (mkF m 51 #[.val (.ref a1), .val (.ref a2), .val (.int (0 : Int32)), .val (.int (0 : Int32))] [(.int (0 : Int32)), (.int (0 : Int32))])) _
    refine XS.icmpYes X0.here hx rfl (pc0 := 51) (pc' := 71) rfl (hb hby d15_51) rfl (flt (by decide : ¬ ((0 : Int32) < (0 : Int32)))).2.1 (by decide) (by decide) ?_
    exact k
  have pre58 : ∀ t, Steps p.tables e below (s₁.setTop (mkF m 72 #[.val (.ref a1), .val (.ref a2), .val (.int (0 : Int32)), .val (.int (0 : Int32))] [(.int (-1 : Int32))])) t → Steps p.tables e below (s₁.setTop (entryFrame m #[(.ref a1), (.ref a2), (.int (0 : Int32))] 4)) t := by
    intro t k
    refine pre57 _ ?_
    show Steps p.tables e below (s₁.setTop (mkF m 71 #[.val (.ref a1), .val (.ref a2), .val (.int (0 : Int32)), .val (.int (0 : Int32))] [])) _
    refine Jvm.Free.XT.iconstV X0.here hx rfl (-1 : Int32) (hb hby d15_71) (by decide) ?_
    exact k
  obtain ⟨fs, hr, hrun, hended, hW, hsame⟩ := X0.leave (v := some (.int (-1 : Int32))) (fun h => by rw [hret] at h; cases h) (hlocks := hlocks)
  refine ⟨_, _, pre58 _ ?_, hrun, hended, _, _, rfl, ?_, ⟨_, rfl⟩, hW, hsame.mono (by decide) (by decide)⟩
  · show Steps p.tables e below (s₁.setTop (mkF m 72 #[.val (.ref a1), .val (.ref a2), .val (.int (0 : Int32)), .val (.int (0 : Int32))] [(.int (-1 : Int32))])) _
    exact retI X0 hx hret (hb hby d15_72) hr
  · show Q150 Z a1 a2 k1 k2 h0 n0 _ s₁.heap _
    rw [e0]
    exact ⟨rfl, N0, rfl⟩
theorem d14_0 : decode jdk_65_method_89_code 0 = .ok (.aload_n 0, 1) := by decide +kernel
theorem d14_1 : decode jdk_65_method_89_code 1 = .ok (.aload_n 1, 1) := by decide +kernel
theorem d14_2 : decode jdk_65_method_89_code 2 = .ok (.if_acmp .ne 5, 3) := by decide +kernel
theorem d14_5 : decode jdk_65_method_89_code 5 = .ok (.iconst 1, 1) := by decide +kernel
theorem d14_6 : decode jdk_65_method_89_code 6 = .ok (.ireturn, 1) := by decide +kernel
theorem d14_7 : decode jdk_65_method_89_code 7 = .ok (.aload_n 0, 1) := by decide +kernel
theorem d14_8 : decode jdk_65_method_89_code 8 = .ok (.ifnull 7, 3) := by decide +kernel
theorem d14_11 : decode jdk_65_method_89_code 11 = .ok (.aload_n 1, 1) := by decide +kernel
theorem d14_12 : decode jdk_65_method_89_code 12 = .ok (.ifnonnull 5, 3) := by decide +kernel
theorem d14_17 : decode jdk_65_method_89_code 17 = .ok (.aload_n 0, 1) := by decide +kernel
theorem d14_18 : decode jdk_65_method_89_code 18 = .ok (.arraylength, 1) := by decide +kernel
theorem d14_19 : decode jdk_65_method_89_code 19 = .ok (.istore_n 2, 1) := by decide +kernel
theorem d14_20 : decode jdk_65_method_89_code 20 = .ok (.aload_n 1, 1) := by decide +kernel
theorem d14_21 : decode jdk_65_method_89_code 21 = .ok (.arraylength, 1) := by decide +kernel
theorem d14_22 : decode jdk_65_method_89_code 22 = .ok (.iload_n 2, 1) := by decide +kernel
theorem d14_23 : decode jdk_65_method_89_code 23 = .ok (.if_icmp .eq 5, 3) := by decide +kernel
theorem d14_28 : decode jdk_65_method_89_code 28 = .ok (.aload_n 0, 1) := by decide +kernel
theorem d14_29 : decode jdk_65_method_89_code 29 = .ok (.aload_n 1, 1) := by decide +kernel
theorem d14_30 : decode jdk_65_method_89_code 30 = .ok (.iload_n 2, 1) := by decide +kernel
theorem d14_31 : decode jdk_65_method_89_code 31 = .ok (.invokestatic 272, 3) := by decide +kernel
theorem pd___B_BI_I : parseMethodDescriptor "([B[BI)I" = some ⟨[(.array .byte), (.array .byte), .int], some .int⟩ := by decide +kernel
theorem d14_34 : decode jdk_65_method_89_code 34 = .ok (.ifCond .ge 7, 3) := by decide +kernel
theorem d14_37 : decode jdk_65_method_89_code 37 = .ok (.iconst 1, 1) := by decide +kernel
theorem d14_38 : decode jdk_65_method_89_code 38 = .ok (.goto 4, 3) := by decide +kernel
theorem d14_42 : decode jdk_65_method_89_code 42 = .ok (.ireturn, 1) := by decide +kernel
theorem pn_14 : plainName "java/util/Arrays" = true := by first | (simp [plainName, overriddenIn]; done) | decide +kernel
theorem ef_140 (m : MethodId) (x0 : Addr) (x1 : Addr) : entryFrame m #[(.ref x0), (.ref x1)] 3 = mkF m 0 #[.val (.ref x0), .val (.ref x1), .unset] [] := by first | (simp [entryFrame, mkF, argsToLocals, Value.category]; done) | rfl
def Q140 (Z : State) (a1 : Addr) (a2 : Addr) (k1 : ClassId) (k2 : ClassId) (h0 : Heap) (n0 : Nat) (v : Option Value) (h : Heap) (L : List Loc) : Prop := v = some (.int (1 : Int32)) ∧ Fr n0 L ∧ h = h0
set_option maxRecDepth 65536 in
set_option maxHeartbeats 40000000 in
theorem rm140 (l : Launch) (Z : State) (a0 : Array Value) (hw : ∀ d ∈ tables_1, d.before a0 Z = true) (ws : List Jvm.Cond) (a1 : Addr) (a2 : Addr) (k1 : ClassId) (k2 : ClassId) (h0 : Heap) (n0 : Nat) (Z0 : n0 ≤ h0.size) (A1 : Arv Z h0 a1 k1 .byte (0 : Int32) [] (.int (0 : Int32))) (A2 : Arv Z h0 a2 k2 .byte (0 : Int32) [] (.int (0 : Int32))) :
    MetFree l (⟨"java/util/Arrays", "equals", "([B[B)Z"⟩ : MethodName) (head1 (Jvm.Cond.code (⟨"java/util/Arrays", "equals", "([B[B)Z"⟩ : MethodName) jdk_65_method_89_code 3 (some .boolean) :: ws) ({ frames := 1, cells := 0, slots := 0, locals := 15 } : Room)) (fun a U => a = #[(.ref a1), (.ref a2)] ∧ Z.Warmed39 U.vm ∧ U.heap = h0) (fun _ _ _ _ _ => True) (fun _ U o U' => ∃ v L, o = .returned v ∧ Q140 Z a1 a2 k1 k2 h0 n0 v U'.heap L ∧ FrameEnd U o U' L ({ frames := 1, cells := 0, slots := 0, locals := 15 } : Room).cells ({ frames := 1, cells := 0, slots := 0, locals := 15 } : Room).slots) := by
  refine MetFree.of_bodySF (plainFor_of_name pn_14) hisR ?_
  intro p e s m args below meth c s₁ Bd hml0 hP hK
  obtain ⟨rfl, hZ, hh⟩ := hP
  have hx := Bd.exec
  have hby := Bd.bytes
  have hml : c.maxLocals = 3 := hml0
  have hown : s.vm.findClass "java/util/Arrays" = some m.cls := findClass_of_methodNamed Bd.named
  have hnm := (name_of_methodNamed Bd.named Bd.method).1
  have hret := Bd.returns
  have hlocks : meth.locks = false := Bd.notSynchronized
  have X0 : Stand p l e ({ frames := 1, cells := 0, slots := 0, locals := 15 } : Room) s m #[(.ref a1), (.ref a2)] below meth c s₁ [] 0 0 := Stand.of_body Bd
  have e0 : s₁.heap = h0 := by rw [← hh, Bd.state]; rfl
  have N0 := Fr.nil n0
  obtain ⟨cl1, Ar1, _, S1, N_1, H1, _⟩ := id A1
  obtain ⟨cl2, Ar2, _, S2, N_2, H2, _⟩ := id A2
  have pre0 : ∀ t, Steps p.tables e below (s₁.setTop (mkF m 0 #[.val (.ref a1), .val (.ref a2), .unset] [])) t → Steps p.tables e below (s₁.setTop (entryFrame m #[(.ref a1), (.ref a2)] 3)) t := fun t k => castTop (ef_140 m a1 a2) k
  have pre59 : ∀ t, Steps p.tables e below (s₁.setTop (mkF m 2 #[.val (.ref a1), .val (.ref a2), .unset] [(.ref a2), (.ref a1)])) t → Steps p.tables e below (s₁.setTop (entryFrame m #[(.ref a1), (.ref a2)] 3)) t := by
    intro t k
    refine pre0 _ ?_
    show Steps p.tables e below (s₁.setTop (mkF m 0 #[.val (.ref a1), .val (.ref a2), .unset] [])) _
    refine XS.aloadN X0.here hx rfl (hb hby d14_0) rfl rfl ?_
    show Steps p.tables e below (s₁.setTop (mkF m 1 #[.val (.ref a1), .val (.ref a2), .unset] [(.ref a1)])) _
    refine XS.aloadN X0.here hx rfl (hb hby d14_1) rfl rfl ?_
    exact k
  by_cases ha60 : a1 = a2
  · have pre61 : ∀ t, Steps p.tables e below (s₁.setTop (mkF m 5 #[.val (.ref a1), .val (.ref a2), .unset] [])) t → Steps p.tables e below (s₁.setTop (entryFrame m #[(.ref a1), (.ref a2)] 3)) t := by
      intro t k
      refine pre59 _ ?_
      show Steps p.tables e below (s₁.setTop (mkF m 2 #[.val (.ref a1), .val (.ref a2), .unset] [(.ref a2), (.ref a1)])) _
      refine Jvm.RoadKit.acmp (g := (mkF m 2 #[.val (.ref a1), .val (.ref a2), .unset] [(.ref a2), (.ref a1)])) X0 hx rfl rfl rfl (pc0 := 2) (pc' := 5) (same := true) rfl (hb hby d14_2) rfl (decide_eq_true (congrArg Value.ref ha60)) (by decide) (by decide) ?_
      exact k
    have pre62 : ∀ t, Steps p.tables e below (s₁.setTop (mkF m 6 #[.val (.ref a1), .val (.ref a2), .unset] [(.int (1 : Int32))])) t → Steps p.tables e below (s₁.setTop (entryFrame m #[(.ref a1), (.ref a2)] 3)) t := by
      intro t k
      refine pre61 _ ?_
      show Steps p.tables e below (s₁.setTop (mkF m 5 #[.val (.ref a1), .val (.ref a2), .unset] [])) _
      refine XS.iconst X0.here hx rfl (hb hby d14_5) ?_
      exact k
    obtain ⟨fs, hr, hrun, hended, hW, hsame⟩ := X0.leave (v := some (.int (1 : Int32))) (fun h => by rw [hret] at h; cases h) (hlocks := hlocks)
    refine ⟨_, _, pre62 _ ?_, hrun, hended, _, _, rfl, ?_, ⟨_, rfl⟩, hW, hsame.mono (by decide) (by decide)⟩
    · show Steps p.tables e below (s₁.setTop (mkF m 6 #[.val (.ref a1), .val (.ref a2), .unset] [(.int (1 : Int32))])) _
      exact retN X0 hx (t := .boolean) hret (by simp) (hb hby d14_6) hr
    · show Q140 Z a1 a2 k1 k2 h0 n0 _ s₁.heap _
      rw [e0]
      exact ⟨rfl, N0, rfl⟩
  · have pre63 : ∀ t, Steps p.tables e below (s₁.setTop (mkF m 7 #[.val (.ref a1), .val (.ref a2), .unset] [])) t → Steps p.tables e below (s₁.setTop (entryFrame m #[(.ref a1), (.ref a2)] 3)) t := by
      intro t k
      refine pre59 _ ?_
      show Steps p.tables e below (s₁.setTop (mkF m 2 #[.val (.ref a1), .val (.ref a2), .unset] [(.ref a2), (.ref a1)])) _
      refine Jvm.RoadKit.acmp (g := (mkF m 2 #[.val (.ref a1), .val (.ref a2), .unset] [(.ref a2), (.ref a1)])) X0 hx rfl rfl rfl (pc0 := 2) (pc' := 7) (same := false) rfl (hb hby d14_2) rfl (decide_eq_false fun q => ha60 (Value.ref.inj q)) (by decide) (by decide) ?_
      exact k
    have pre64 : ∀ t, Steps p.tables e below (s₁.setTop (mkF m 23 #[.val (.ref a1), .val (.ref a2), .val (.int (0 : Int32))] [(.int (0 : Int32)), (.int (0 : Int32))])) t → Steps p.tables e below (s₁.setTop (entryFrame m #[(.ref a1), (.ref a2)] 3)) t := by
      intro t k
      refine pre63 _ ?_
      show Steps p.tables e below (s₁.setTop (mkF m 7 #[.val (.ref a1), .val (.ref a2), .unset] [])) _
      refine XS.aloadN X0.here hx rfl (hb hby d14_7) rfl rfl ?_
      show Steps p.tables e below (s₁.setTop (mkF m 8 #[.val (.ref a1), .val (.ref a2), .unset] [(.ref a1)])) _
      refine XS.ifnullNo X0.here hx rfl (hb hby d14_8) rfl ?_
      show Steps p.tables e below (s₁.setTop (mkF m 11 #[.val (.ref a1), .val (.ref a2), .unset] [])) _
      refine XS.aloadN X0.here hx rfl (hb hby d14_11) rfl rfl ?_
      show Steps p.tables e below (s₁.setTop (mkF m 12 #[.val (.ref a1), .val (.ref a2), .unset] [(.ref a2)])) _
      refine XS.ifnonnullYes X0.here hx rfl (pc0 := 12) (pc' := 17) rfl (hb hby d14_12) rfl (by decide) (by decide) ?_
      show Steps p.tables e below (s₁.setTop (mkF m 17 #[.val (.ref a1), .val (.ref a2), .unset] [])) _
      refine XS.aloadN X0.here hx rfl (hb hby d14_17) rfl rfl ?_
      show Steps p.tables e below (s₁.setTop (mkF m 18 #[.val (.ref a1), .val (.ref a2), .unset] [(.ref a1)])) _
      refine X0.arraylength hx (by rw [e0]; exact Ar1.1) (State.isArrayOf_alike hZ.alike Ar1.2.1) (g := (mkF m 18 #[.val (.ref a1), .val (.ref a2), .unset] [(.ref a1)])) rfl rfl (hb hby d14_18) _ ?_
      rw [len_of S1 N_1]
      show Steps p.tables e below (s₁.setTop (mkF m 19 #[.val (.ref a1), .val (.ref a2), .unset] [(.int (0 : Int32))])) _
      refine XS.istoreN X0.here hx rfl (hb hby d14_19) rfl (l' := #[.val (.ref a1), .val (.ref a2), .val (.int (0 : Int32))]) rfl ?_
      show Steps p.tables e below (s₁.setTop (mkF m 20 #[.val (.ref a1), .val (.ref a2), .val (.int (0 : Int32))] [])) _
      refine XS.aloadN X0.here hx rfl (hb hby d14_20) rfl rfl ?_
      show Steps p.tables e below (s₁.setTop (mkF m 21 #[.val (.ref a1), .val (.ref a2), .val (.int (0 : Int32))] [(.ref a2)])) _
      refine X0.arraylength hx (by rw [e0]; exact Ar2.1) (State.isArrayOf_alike hZ.alike Ar2.2.1) (g := (mkF m 21 #[.val (.ref a1), .val (.ref a2), .val (.int (0 : Int32))] [(.ref a2)])) rfl rfl (hb hby d14_21) _ ?_
      rw [len_of S2 N_2]
      show Steps p.tables e below (s₁.setTop (mkF m 22 #[.val (.ref a1), .val (.ref a2), .val (.int (0 : Int32))] [(.int (0 : Int32))])) _
      refine XS.iloadN X0.here hx rfl (hb hby d14_22) rfl ?_
      exact k
    have pre66 : ∀ t, Steps p.tables e below (s₁.setTop (mkF m 28 #[.val (.ref a1), .val (.ref a2), .val (.int (0 : Int32))] [])) t → Steps p.tables e below (s₁.setTop (entryFrame m #[(.ref a1), (.ref a2)] 3)) t := by
      intro t k
      refine pre64 _ ?_
      show Steps p.tables e below (s₁.setTop (mkF m 23 #[.val (.ref a1), .val (.ref a2), .val (.int (0 : Int32))] [(.int (0 : Int32)), (.int (0 : Int32))])) _
      refine XS.icmpYes X0.here hx rfl (pc0 := 23) (pc' := 28) rfl (hb hby d14_23) rfl (teq (rfl : (0 : Int32) = (0 : Int32))).1 (by decide) (by decide) ?_
      exact k
    have pre67 : ∀ t, Steps p.tables e below (s₁.setTop (mkF m 31 #[.val (.ref a1), .val (.ref a2), .val (.int (0 : Int32))] [(.int (0 : Int32)), (.ref a2), (.ref a1)])) t → Steps p.tables e below (s₁.setTop (entryFrame m #[(.ref a1), (.ref a2)] 3)) t := by
      intro t k
      refine pre66 _ ?_
      show Steps p.tables e below (s₁.setTop (mkF m 28 #[.val (.ref a1), .val (.ref a2), .val (.int (0 : Int32))] [])) _
      refine XS.aloadN X0.here hx rfl (hb hby d14_28) rfl rfl ?_
      show Steps p.tables e below (s₁.setTop (mkF m 29 #[.val (.ref a1), .val (.ref a2), .val (.int (0 : Int32))] [(.ref a1)])) _
      refine XS.aloadN X0.here hx rfl (hb hby d14_29) rfl rfl ?_
      show Steps p.tables e below (s₁.setTop (mkF m 30 #[.val (.ref a1), .val (.ref a2), .val (.int (0 : Int32))] [(.ref a2), (.ref a1)])) _
      refine XS.iloadN X0.here hx rfl (hb hby d14_30) rfl ?_
      exact k
    obtain ⟨_, _, ⟨T68, L68, k68, n68⟩, -, X68, ⟨Lc68, hQ68, l68, y68, z68⟩, st68⟩ := Jvm.LawKit.callS X0 hx (y := (⟨"jdk/internal/util/ArraysSupport", "mismatch", "([B[BI)I"⟩ : MethodName)) hown (mvT hZ (hw _ (List.mem_of_getElem? (i := 88) rfl))) (mvT hZ (hw _ (List.mem_of_getElem? (i := 89) rfl))) (mvT hZ (hw _ (List.mem_of_getElem? (i := 90) rfl))) (mvT hZ (hw _ (List.mem_of_getElem? (i := 91) rfl))) (by decide) (backOf (W := 0) (rm150 l Z a0 hw [] a1 a2 k1 k2 h0 n0 Z0 A1 A2) hZ (hw _ (List.mem_of_getElem? (i := 91) rfl)) (hw _ (List.mem_of_getElem? (i := 90) rfl)) (by decide) (by decide)) (g := (mkF m 31 #[.val (.ref a1), .val (.ref a2), .val (.int (0 : Int32))] [(.int (0 : Int32)), (.ref a2), (.ref a1)])) rfl (by rw [hml]; rfl) (argsL := [(.ref a1), (.ref a2), (.int (0 : Int32))]) (rest := []) (lenOf pd___B_BI_I rfl) rfl (by show 2 * 0 + _ ≤ _; exact Nat.le_of_eq rfl) (hb hby d14_31) (fun _ _ => ⟨rfl, e0, (by decide : 0 + 0 ≤ _), (by decide : 0 + 0 ≤ _)⟩)
    dsimp only [Pt.U, Pt.locs, Pt.cells, Pt.slots] at X68 l68 y68 z68 st68 hQ68
    subst l68 y68 z68
    obtain ⟨rfl, N68q, e68⟩ := hQ68
    have N68 := Fr.app N0 N68q
    have pre69 : ∀ t, Steps p.tables e below (T68.setTop (mkF m 34 #[.val (.ref a1), .val (.ref a2), .val (.int (0 : Int32))] [(.int (-1 : Int32))])) t → Steps p.tables e below (s₁.setTop (entryFrame m #[(.ref a1), (.ref a2)] 3)) t := by
      intro t k
      refine pre67 _ ?_
      show Steps p.tables e below (s₁.setTop (mkF m 31 #[.val (.ref a1), .val (.ref a2), .val (.int (0 : Int32))] [(.int (0 : Int32)), (.ref a2), (.ref a1)])) _
      refine st68 _ ?_
      exact k
    have pre71 : ∀ t, Steps p.tables e below (T68.setTop (mkF m 37 #[.val (.ref a1), .val (.ref a2), .val (.int (0 : Int32))] [])) t → Steps p.tables e below (s₁.setTop (entryFrame m #[(.ref a1), (.ref a2)] 3)) t := by
      intro t k
      refine pre69 _ ?_
      show Steps p.tables e below (T68.setTop (mkF m 34 #[.val (.ref a1), .val (.ref a2), .val (.int (0 : Int32))] [(.int (-1 : Int32))])) _
      refine XS.ifNo X68.here hx rfl (hb hby d14_34) rfl ((if0 _ _).trans (tlt (by decide : (-1 : Int32) < (0 : Int32))).2.1) ?_
      exact k
    have pre72 : ∀ t, Steps p.tables e below (T68.setTop (mkF m 42 #[.val (.ref a1), .val (.ref a2), .val (.int (0 : Int32))] [(.int (1 : Int32))])) t → Steps p.tables e below (s₁.setTop (entryFrame m #[(.ref a1), (.ref a2)] 3)) t := by
      intro t k
      refine pre71 _ ?_
      show Steps p.tables e below (T68.setTop (mkF m 37 #[.val (.ref a1), .val (.ref a2), .val (.int (0 : Int32))] [])) _
      refine XS.iconst X68.here hx rfl (hb hby d14_37) ?_
      show Steps p.tables e below (T68.setTop (mkF m 38 #[.val (.ref a1), .val (.ref a2), .val (.int (0 : Int32))] [(.int (1 : Int32))])) _
      refine XS.goto X68.here hx rfl (pc0 := 38) (pc' := 42) rfl (hb hby d14_38) (by decide) (by decide) ?_
      exact k
    obtain ⟨fs, hr, hrun, hended, hW, hsame⟩ := X68.leave (v := some (.int (1 : Int32))) (fun h => by rw [hret] at h; cases h) (hlocks := hlocks)
    refine ⟨_, _, pre72 _ ?_, hrun, hended, _, _, rfl, ?_, ⟨_, rfl⟩, hW, hsame.mono (by decide) (by decide)⟩
    · show Steps p.tables e below (T68.setTop (mkF m 42 #[.val (.ref a1), .val (.ref a2), .val (.int (0 : Int32))] [(.int (1 : Int32))])) _
      exact retN X68 hx (t := .boolean) hret (by simp) (hb hby d14_42) hr
    · show Q140 Z a1 a2 k1 k2 h0 n0 _ T68.heap _
      rw [e68]
      exact ⟨rfl, N68, rfl⟩
theorem d13_0 : decode prog_14_method_17_code 0 = .ok (.aload_n 0, 1) := by decide +kernel
theorem d13_1 : decode prog_14_method_17_code 1 = .ok (.getfield 17, 3) := by decide +kernel
theorem d13_4 : decode prog_14_method_17_code 4 = .ok (.ifnull 14, 3) := by decide +kernel
theorem d13_18 : decode prog_14_method_17_code 18 = .ok (.aload_n 1, 1) := by decide +kernel
theorem d13_19 : decode prog_14_method_17_code 19 = .ok (.instanceof 8, 3) := by decide +kernel
theorem d13_22 : decode prog_14_method_17_code 22 = .ok (.ifCond .eq 37, 3) := by decide +kernel
theorem d13_25 : decode prog_14_method_17_code 25 = .ok (.aload_n 1, 1) := by decide +kernel
theorem d13_26 : decode prog_14_method_17_code 26 = .ok (.checkcast 8, 3) := by decide +kernel
theorem d13_29 : decode prog_14_method_17_code 29 = .ok (.astore_n 2, 1) := by decide +kernel
theorem d13_30 : decode prog_14_method_17_code 30 = .ok (.aload_n 0, 1) := by decide +kernel
theorem d13_31 : decode prog_14_method_17_code 31 = .ok (.getfield 7, 3) := by decide +kernel
theorem d13_34 : decode prog_14_method_17_code 34 = .ok (.aload_n 2, 1) := by decide +kernel
theorem d13_35 : decode prog_14_method_17_code 35 = .ok (.getfield 7, 3) := by decide +kernel
theorem d13_38 : decode prog_14_method_17_code 38 = .ok (.if_icmp .ne 21, 3) := by decide +kernel
theorem d13_41 : decode prog_14_method_17_code 41 = .ok (.aload_n 0, 1) := by decide +kernel
theorem d13_42 : decode prog_14_method_17_code 42 = .ok (.getfield 13, 3) := by decide +kernel
theorem d13_45 : decode prog_14_method_17_code 45 = .ok (.aload_n 2, 1) := by decide +kernel
theorem d13_46 : decode prog_14_method_17_code 46 = .ok (.getfield 13, 3) := by decide +kernel
theorem d13_49 : decode prog_14_method_17_code 49 = .ok (.invokestatic 102, 3) := by decide +kernel
theorem pd___B_B_Z : parseMethodDescriptor "([B[B)Z" = some ⟨[(.array .byte), (.array .byte)], some .boolean⟩ := by decide +kernel
theorem d13_52 : decode prog_14_method_17_code 52 = .ok (.ifCond .eq 7, 3) := by decide +kernel
theorem d13_55 : decode prog_14_method_17_code 55 = .ok (.iconst 1, 1) := by decide +kernel
theorem d13_56 : decode prog_14_method_17_code 56 = .ok (.goto 4, 3) := by decide +kernel
theorem d13_60 : decode prog_14_method_17_code 60 = .ok (.ireturn, 1) := by decide +kernel
theorem ef_130 (m : MethodId) (x0 : Addr) (x1 : Addr) : entryFrame m #[(.ref x0), (.ref x1)] 3 = mkF m 0 #[.val (.ref x0), .val (.ref x1), .unset] [] := by first | (simp [entryFrame, mkF, argsToLocals, Value.category]; done) | rfl
def Q130 (Z : State) (a1 : Addr) (a2 : Addr) (f1 : Int32) (d1 : Addr) (d2 : Addr) (k1 : ClassId) (k2 : ClassId) (h0 : Heap) (n0 : Nat) (v : Option Value) (h : Heap) (L : List Loc) : Prop := v = some (.int (1 : Int32)) ∧ Fr n0 L ∧ h = h0
set_option maxRecDepth 65536 in
set_option maxHeartbeats 40000000 in
theorem rm130 (l : Launch) (Z : State) (a0 : Array Value) (hw : ∀ d ∈ tables_1, d.before a0 Z = true) (ws : List Jvm.Cond) (a1 : Addr) (a2 : Addr) (f1 : Int32) (d1 : Addr) (d2 : Addr) (k1 : ClassId) (k2 : ClassId) (h0 : Heap) (n0 : Nat) (Z0 : n0 ≤ h0.size) (E_a2 : Exa Z h0 a2 "com/example/message_buffer/messagebuffer/model/Message") (S1 : Fld Z h0 a1 "com/example/message_buffer/messagebuffer/model/Message" "source" "Lcom/example/message_buffer/messagebuffer/model/Message$Source;" .null) (G1 : Fld Z h0 a1 "com/example/message_buffer/messagebuffer/model/Message" "flags" "I" (.int f1)) (G2 : Fld Z h0 a2 "com/example/message_buffer/messagebuffer/model/Message" "flags" "I" (.int f1)) (D1 : Fld Z h0 a1 "com/example/message_buffer/messagebuffer/model/Message" "data" "[B" (.ref d1)) (D2 : Fld Z h0 a2 "com/example/message_buffer/messagebuffer/model/Message" "data" "[B" (.ref d2)) (A1 : Arv Z h0 d1 k1 .byte (0 : Int32) [] (.int (0 : Int32))) (A2 : Arv Z h0 d2 k2 .byte (0 : Int32) [] (.int (0 : Int32))) :
    MetFree l (⟨"com/example/message_buffer/messagebuffer/model/Message", "equals", "(Ljava/lang/Object;)Z"⟩ : MethodName) (head1 (Jvm.Cond.code (⟨"com/example/message_buffer/messagebuffer/model/Message", "equals", "(Ljava/lang/Object;)Z"⟩ : MethodName) prog_14_method_17_code 3 (some .boolean) :: ws) ({ frames := 2, cells := 0, slots := 0, locals := 29 } : Room)) (fun a U => a = #[(.ref a1), (.ref a2)] ∧ Z.Warmed39 U.vm ∧ U.heap = h0) (fun _ _ _ _ _ => True) (fun _ U o U' => ∃ v L, o = .returned v ∧ Q130 Z a1 a2 f1 d1 d2 k1 k2 h0 n0 v U'.heap L ∧ FrameEnd U o U' L ({ frames := 2, cells := 0, slots := 0, locals := 29 } : Room).cells ({ frames := 2, cells := 0, slots := 0, locals := 29 } : Room).slots) := by
  refine MetFree.of_bodySF (plainFor_of_name pn_3) hisR ?_
  intro p e s m args below meth c s₁ Bd hml0 hP hK
  obtain ⟨rfl, hZ, hh⟩ := hP
  have hx := Bd.exec
  have hby := Bd.bytes
  have hml : c.maxLocals = 3 := hml0
  have hown : s.vm.findClass "com/example/message_buffer/messagebuffer/model/Message" = some m.cls := findClass_of_methodNamed Bd.named
  have hnm := (name_of_methodNamed Bd.named Bd.method).1
  have hret := Bd.returns
  have hlocks : meth.locks = false := Bd.notSynchronized
  have X0 : Stand p l e ({ frames := 2, cells := 0, slots := 0, locals := 29 } : Room) s m #[(.ref a1), (.ref a2)] below meth c s₁ [] 0 0 := Stand.of_body Bd
  have e0 : s₁.heap = h0 := by rw [← hh, Bd.state]; rfl
  have N0 := Fr.nil n0
  have pre0 : ∀ t, Steps p.tables e below (s₁.setTop (mkF m 0 #[.val (.ref a1), .val (.ref a2), .unset] [])) t → Steps p.tables e below (s₁.setTop (entryFrame m #[(.ref a1), (.ref a2)] 3)) t := fun t k => castTop (ef_130 m a1 a2) k
  have pre73 : ∀ t, Steps p.tables e below (s₁.setTop (mkF m 1 #[.val (.ref a1), .val (.ref a2), .unset] [(.ref a1)])) t → Steps p.tables e below (s₁.setTop (entryFrame m #[(.ref a1), (.ref a2)] 3)) t := by
    intro t k
    refine pre0 _ ?_
    show Steps p.tables e below (s₁.setTop (mkF m 0 #[.val (.ref a1), .val (.ref a2), .unset] [])) _
    refine XS.aloadN X0.here hx rfl (hb hby d13_0) rfl rfl ?_
    exact k
  obtain ⟨T74, X74, e74, st74⟩ := getF X0 hx hZ hown (host := "") (Or.inl (hw _ (List.mem_of_getElem? (i := 33) rfl))) Via.refl e0 S1 (g := (mkF m 1 #[.val (.ref a1), .val (.ref a2), .unset] [(.ref a1)])) rfl rfl (hb hby d13_1)
  have pre75 : ∀ t, Steps p.tables e below (T74.setTop (mkF m 4 #[.val (.ref a1), .val (.ref a2), .unset] [.null])) t → Steps p.tables e below (s₁.setTop (entryFrame m #[(.ref a1), (.ref a2)] 3)) t := by
    intro t k
    refine pre73 _ ?_
    show Steps p.tables e below (s₁.setTop (mkF m 1 #[.val (.ref a1), .val (.ref a2), .unset] [(.ref a1)])) _
    refine st74 _ ?_
    exact k
  have pre76 : ∀ t, Steps p.tables e below (T74.setTop (mkF m 19 #[.val (.ref a1), .val (.ref a2), .unset] [(.ref a2)])) t → Steps p.tables e below (s₁.setTop (entryFrame m #[(.ref a1), (.ref a2)] 3)) t := by
    intro t k
    refine pre75 _ ?_
    show Steps p.tables e below (T74.setTop (mkF m 4 #[.val (.ref a1), .val (.ref a2), .unset] [.null])) _
    refine XS.ifnullYes X74.here hx rfl (pc0 := 4) (pc' := 18) rfl (hb hby d13_4) rfl (by decide) (by decide) ?_
    show Steps p.tables e below (T74.setTop (mkF m 18 #[.val (.ref a1), .val (.ref a2), .unset] [])) _
    refine XS.aloadN X74.here hx rfl (hb hby d13_18) rfl rfl ?_
    exact k
  obtain ⟨T77, X77, e77, st77⟩ := instY X74 hx hZ hown (hw _ (List.mem_of_getElem? (i := 17) rfl)) e74 (Ins.self E_a2) (g := (mkF m 19 #[.val (.ref a1), .val (.ref a2), .unset] [(.ref a2)])) rfl rfl (hb hby d13_19)
  have pre78 : ∀ t, Steps p.tables e below (T77.setTop (mkF m 22 #[.val (.ref a1), .val (.ref a2), .unset] [(.int (1 : Int32))])) t → Steps p.tables e below (s₁.setTop (entryFrame m #[(.ref a1), (.ref a2)] 3)) t := by
    intro t k
    refine pre76 _ ?_
    show Steps p.tables e below (T74.setTop (mkF m 19 #[.val (.ref a1), .val (.ref a2), .unset] [(.ref a2)])) _
    refine st77 _ ?_
    exact k
  have pre80 : ∀ t, Steps p.tables e below (T77.setTop (mkF m 25 #[.val (.ref a1), .val (.ref a2), .unset] [])) t → Steps p.tables e below (s₁.setTop (entryFrame m #[(.ref a1), (.ref a2)] 3)) t := by
    intro t k
    refine pre78 _ ?_
    show Steps p.tables e below (T77.setTop (mkF m 22 #[.val (.ref a1), .val (.ref a2), .unset] [(.int (1 : Int32))])) _
    refine XS.ifNo X77.here hx rfl (hb hby d13_22) rfl ((if0 _ _).trans (feq (by decide : ¬ ((1 : Int32) = (0 : Int32)))).1) ?_
    exact k
  have pre81 : ∀ t, Steps p.tables e below (T77.setTop (mkF m 26 #[.val (.ref a1), .val (.ref a2), .unset] [(.ref a2)])) t → Steps p.tables e below (s₁.setTop (entryFrame m #[(.ref a1), (.ref a2)] 3)) t := by
    intro t k
    refine pre80 _ ?_
    show Steps p.tables e below (T77.setTop (mkF m 25 #[.val (.ref a1), .val (.ref a2), .unset] [])) _
    refine XS.aloadN X77.here hx rfl (hb hby d13_25) rfl rfl ?_
    exact k
  obtain ⟨T82, X82, e82, st82⟩ := castY X77 hx hZ hown (hw _ (List.mem_of_getElem? (i := 17) rfl)) e77 (Ins.self E_a2) (g := (mkF m 26 #[.val (.ref a1), .val (.ref a2), .unset] [(.ref a2)])) rfl rfl (hb hby d13_26)
  have pre83 : ∀ t, Steps p.tables e below (T82.setTop (mkF m 29 #[.val (.ref a1), .val (.ref a2), .unset] [(.ref a2)])) t → Steps p.tables e below (s₁.setTop (entryFrame m #[(.ref a1), (.ref a2)] 3)) t := by
    intro t k
    refine pre81 _ ?_
    show Steps p.tables e below (T77.setTop (mkF m 26 #[.val (.ref a1), .val (.ref a2), .unset] [(.ref a2)])) _
    refine st82 _ ?_
    exact k
  have pre84 : ∀ t, Steps p.tables e below (T82.setTop (mkF m 31 #[.val (.ref a1), .val (.ref a2), .val (.ref a2)] [(.ref a1)])) t → Steps p.tables e below (s₁.setTop (entryFrame m #[(.ref a1), (.ref a2)] 3)) t := by
    intro t k
    refine pre83 _ ?_
    show Steps p.tables e below (T82.setTop (mkF m 29 #[.val (.ref a1), .val (.ref a2), .unset] [(.ref a2)])) _
    refine XS.astoreN X82.here hx rfl (hb hby d13_29) rfl rfl (l' := #[.val (.ref a1), .val (.ref a2), .val (.ref a2)]) rfl ?_
    show Steps p.tables e below (T82.setTop (mkF m 30 #[.val (.ref a1), .val (.ref a2), .val (.ref a2)] [])) _
    refine XS.aloadN X82.here hx rfl (hb hby d13_30) rfl rfl ?_
    exact k
  obtain ⟨T85, X85, e85, st85⟩ := getF X82 hx hZ hown (host := "") (Or.inl (hw _ (List.mem_of_getElem? (i := 29) rfl))) Via.refl e82 G1 (g := (mkF m 31 #[.val (.ref a1), .val (.ref a2), .val (.ref a2)] [(.ref a1)])) rfl rfl (hb hby d13_31)
  have pre86 : ∀ t, Steps p.tables e below (T85.setTop (mkF m 34 #[.val (.ref a1), .val (.ref a2), .val (.ref a2)] [(.int f1)])) t → Steps p.tables e below (s₁.setTop (entryFrame m #[(.ref a1), (.ref a2)] 3)) t := by
    intro t k
    refine pre84 _ ?_
    show Steps p.tables e below (T82.setTop (mkF m 31 #[.val (.ref a1), .val (.ref a2), .val (.ref a2)] [(.ref a1)])) _
    refine st85 _ ?_
    exact k
  have pre87 : ∀ t, Steps p.tables e below (T85.setTop (mkF m 35 #[.val (.ref a1), .val (.ref a2), .val (.ref a2)] [(.ref a2), (.int f1)])) t → Steps p.tables e below (s₁.setTop (entryFrame m #[(.ref a1), (.ref a2)] 3)) t := by
    intro t k
    refine pre86 _ ?_
    show Steps p.tables e below (T85.setTop (mkF m 34 #[.val (.ref a1), .val (.ref a2), .val (.ref a2)] [(.int f1)])) _
    refine XS.aloadN X85.here hx rfl (hb hby d13_34) rfl rfl ?_
    exact k
  obtain ⟨T88, X88, e88, st88⟩ := getF X85 hx hZ hown (host := "") (Or.inl (hw _ (List.mem_of_getElem? (i := 29) rfl))) Via.refl e85 G2 (g := (mkF m 35 #[.val (.ref a1), .val (.ref a2), .val (.ref a2)] [(.ref a2), (.int f1)])) rfl rfl (hb hby d13_35)
  have pre89 : ∀ t, Steps p.tables e below (T88.setTop (mkF m 38 #[.val (.ref a1), .val (.ref a2), .val (.ref a2)] [(.int f1), (.int f1)])) t → Steps p.tables e below (s₁.setTop (entryFrame m #[(.ref a1), (.ref a2)] 3)) t := by
    intro t k
    refine pre87 _ ?_
    show Steps p.tables e below (T85.setTop (mkF m 35 #[.val (.ref a1), .val (.ref a2), .val (.ref a2)] [(.ref a2), (.int f1)])) _
    refine st88 _ ?_
    exact k
  have pre91 : ∀ t, Steps p.tables e below (T88.setTop (mkF m 41 #[.val (.ref a1), .val (.ref a2), .val (.ref a2)] [])) t → Steps p.tables e below (s₁.setTop (entryFrame m #[(.ref a1), (.ref a2)] 3)) t := by
    intro t k
    refine pre89 _ ?_
    show Steps p.tables e below (T88.setTop (mkF m 38 #[.val (.ref a1), .val (.ref a2), .val (.ref a2)] [(.int f1), (.int f1)])) _
    refine XS.icmpNo X88.here hx rfl (hb hby d13_38) rfl (teq (rfl : f1 = f1)).2 ?_
    exact k
  have pre92 : ∀ t, Steps p.tables e below (T88.setTop (mkF m 42 #[.val (.ref a1), .val (.ref a2), .val (.ref a2)] [(.ref a1)])) t → Steps p.tables e below (s₁.setTop (entryFrame m #[(.ref a1), (.ref a2)] 3)) t := by
    intro t k
    refine pre91 _ ?_
    show Steps p.tables e below (T88.setTop (mkF m 41 #[.val (.ref a1), .val (.ref a2), .val (.ref a2)] [])) _
    refine XS.aloadN X88.here hx rfl (hb hby d13_41) rfl rfl ?_
    exact k
  obtain ⟨T93, X93, e93, st93⟩ := getF X88 hx hZ hown (host := "") (Or.inl (hw _ (List.mem_of_getElem? (i := 31) rfl))) Via.refl e88 D1 (g := (mkF m 42 #[.val (.ref a1), .val (.ref a2), .val (.ref a2)] [(.ref a1)])) rfl rfl (hb hby d13_42)
  have pre94 : ∀ t, Steps p.tables e below (T93.setTop (mkF m 45 #[.val (.ref a1), .val (.ref a2), .val (.ref a2)] [(.ref d1)])) t → Steps p.tables e below (s₁.setTop (entryFrame m #[(.ref a1), (.ref a2)] 3)) t := by
    intro t k
    refine pre92 _ ?_
    show Steps p.tables e below (T88.setTop (mkF m 42 #[.val (.ref a1), .val (.ref a2), .val (.ref a2)] [(.ref a1)])) _
    refine st93 _ ?_
    exact k
  have pre95 : ∀ t, Steps p.tables e below (T93.setTop (mkF m 46 #[.val (.ref a1), .val (.ref a2), .val (.ref a2)] [(.ref a2), (.ref d1)])) t → Steps p.tables e below (s₁.setTop (entryFrame m #[(.ref a1), (.ref a2)] 3)) t := by
    intro t k
    refine pre94 _ ?_
    show Steps p.tables e below (T93.setTop (mkF m 45 #[.val (.ref a1), .val (.ref a2), .val (.ref a2)] [(.ref d1)])) _
    refine XS.aloadN X93.here hx rfl (hb hby d13_45) rfl rfl ?_
    exact k
  obtain ⟨T96, X96, e96, st96⟩ := getF X93 hx hZ hown (host := "") (Or.inl (hw _ (List.mem_of_getElem? (i := 31) rfl))) Via.refl e93 D2 (g := (mkF m 46 #[.val (.ref a1), .val (.ref a2), .val (.ref a2)] [(.ref a2), (.ref d1)])) rfl rfl (hb hby d13_46)
  have pre97 : ∀ t, Steps p.tables e below (T96.setTop (mkF m 49 #[.val (.ref a1), .val (.ref a2), .val (.ref a2)] [(.ref d2), (.ref d1)])) t → Steps p.tables e below (s₁.setTop (entryFrame m #[(.ref a1), (.ref a2)] 3)) t := by
    intro t k
    refine pre95 _ ?_
    show Steps p.tables e below (T93.setTop (mkF m 46 #[.val (.ref a1), .val (.ref a2), .val (.ref a2)] [(.ref a2), (.ref d1)])) _
    refine st96 _ ?_
    exact k
  obtain ⟨_, _, ⟨T98, L98, k98, n98⟩, -, X98, ⟨Lc98, hQ98, l98, y98, z98⟩, st98⟩ := Jvm.LawKit.callS X96 hx (y := (⟨"java/util/Arrays", "equals", "([B[B)Z"⟩ : MethodName)) hown (mvT hZ (hw _ (List.mem_of_getElem? (i := 84) rfl))) (mvT hZ (hw _ (List.mem_of_getElem? (i := 85) rfl))) (mvT hZ (hw _ (List.mem_of_getElem? (i := 86) rfl))) (mvT hZ (hw _ (List.mem_of_getElem? (i := 87) rfl))) (by decide) (backOf (W := 0) (rm140 l Z a0 hw [] d1 d2 k1 k2 h0 n0 Z0 A1 A2) hZ (hw _ (List.mem_of_getElem? (i := 87) rfl)) (hw _ (List.mem_of_getElem? (i := 86) rfl)) (by decide) (by decide)) (g := (mkF m 49 #[.val (.ref a1), .val (.ref a2), .val (.ref a2)] [(.ref d2), (.ref d1)])) rfl (by rw [hml]; rfl) (argsL := [(.ref d1), (.ref d2)]) (rest := []) (lenOf pd___B_B_Z rfl) rfl (by show 2 * 0 + _ ≤ _; exact Nat.le_of_eq rfl) (hb hby d13_49) (fun _ _ => ⟨rfl, e96, (by decide : 0 + 0 ≤ _), (by decide : 0 + 0 ≤ _)⟩)
  dsimp only [Pt.U, Pt.locs, Pt.cells, Pt.slots] at X98 l98 y98 z98 st98 hQ98
  subst l98 y98 z98
  obtain ⟨rfl, N98q, e98⟩ := hQ98
  have N98 := Fr.app N0 N98q
  have pre99 : ∀ t, Steps p.tables e below (T98.setTop (mkF m 52 #[.val (.ref a1), .val (.ref a2), .val (.ref a2)] [(.int (1 : Int32))])) t → Steps p.tables e below (s₁.setTop (entryFrame m #[(.ref a1), (.ref a2)] 3)) t := by
    intro t k
    refine pre97 _ ?_
    show Steps p.tables e below (T96.setTop (mkF m 49 #[.val (.ref a1), .val (.ref a2), .val (.ref a2)] [(.ref d2), (.ref d1)])) _
    refine st98 _ ?_
    exact k
  have pre101 : ∀ t, Steps p.tables e below (T98.setTop (mkF m 55 #[.val (.ref a1), .val (.ref a2), .val (.ref a2)] [])) t → Steps p.tables e below (s₁.setTop (entryFrame m #[(.ref a1), (.ref a2)] 3)) t := by
    intro t k
    refine pre99 _ ?_
    show Steps p.tables e below (T98.setTop (mkF m 52 #[.val (.ref a1), .val (.ref a2), .val (.ref a2)] [(.int (1 : Int32))])) _
    refine XS.ifNo X98.here hx rfl (hb hby d13_52) rfl ((if0 _ _).trans (feq (by decide : ¬ ((1 : Int32) = (0 : Int32)))).1) ?_
    exact k
  have pre102 : ∀ t, Steps p.tables e below (T98.setTop (mkF m 60 #[.val (.ref a1), .val (.ref a2), .val (.ref a2)] [(.int (1 : Int32))])) t → Steps p.tables e below (s₁.setTop (entryFrame m #[(.ref a1), (.ref a2)] 3)) t := by
    intro t k
    refine pre101 _ ?_
    show Steps p.tables e below (T98.setTop (mkF m 55 #[.val (.ref a1), .val (.ref a2), .val (.ref a2)] [])) _
    refine XS.iconst X98.here hx rfl (hb hby d13_55) ?_
    show Steps p.tables e below (T98.setTop (mkF m 56 #[.val (.ref a1), .val (.ref a2), .val (.ref a2)] [(.int (1 : Int32))])) _
    refine XS.goto X98.here hx rfl (pc0 := 56) (pc' := 60) rfl (hb hby d13_56) (by decide) (by decide) ?_
    exact k
  obtain ⟨fs, hr, hrun, hended, hW, hsame⟩ := X98.leave (v := some (.int (1 : Int32))) (fun h => by rw [hret] at h; cases h) (hlocks := hlocks)
  refine ⟨_, _, pre102 _ ?_, hrun, hended, _, _, rfl, ?_, ⟨_, rfl⟩, hW, hsame.mono (by decide) (by decide)⟩
  · show Steps p.tables e below (T98.setTop (mkF m 60 #[.val (.ref a1), .val (.ref a2), .val (.ref a2)] [(.int (1 : Int32))])) _
    exact retN X98 hx (t := .boolean) hret (by simp) (hb hby d13_60) hr
  · show Q130 Z a1 a2 f1 d1 d2 k1 k2 h0 n0 _ T98.heap _
    rw [e98]
    exact ⟨rfl, N98, rfl⟩
theorem d15_54 : decode jdk_48_method_13_code 54 = .ok (.aload_n 0, 1) := by decide +kernel
theorem d15_55 : decode jdk_48_method_13_code 55 = .ok (.iload_n 3, 1) := by decide +kernel
theorem d15_56 : decode jdk_48_method_13_code 56 = .ok (.baload, 1) := by decide +kernel
theorem d15_57 : decode jdk_48_method_13_code 57 = .ok (.aload_n 1, 1) := by decide +kernel
theorem d15_58 : decode jdk_48_method_13_code 58 = .ok (.iload_n 3, 1) := by decide +kernel
theorem d15_59 : decode jdk_48_method_13_code 59 = .ok (.baload, 1) := by decide +kernel
theorem d15_60 : decode jdk_48_method_13_code 60 = .ok (.if_icmp .eq 5, 3) := by decide +kernel
theorem d15_65 : decode jdk_48_method_13_code 65 = .ok (.iinc 3 1, 3) := by decide +kernel
theorem d15_68 : decode jdk_48_method_13_code 68 = .ok (.goto (-19), 3) := by decide +kernel
theorem ef_151 (m : MethodId) (x0 : Addr) (x1 : Addr) : entryFrame m #[(.ref x0), (.ref x1), (.int (1 : Int32))] 4 = mkF m 0 #[.val (.ref x0), .val (.ref x1), .val (.int (1 : Int32)), .unset] [] := by first | (simp [entryFrame, mkF, argsToLocals, Value.category]; done) | rfl
def Q151 (Z : State) (a1 : Addr) (a2 : Addr) (k1 : ClassId) (k2 : ClassId) (x0 : Int32) (h0 : Heap) (n0 : Nat) (v : Option Value) (h : Heap) (L : List Loc) : Prop := v = some (.int (-1 : Int32)) ∧ Fr n0 L ∧ h = h0
set_option maxRecDepth 65536 in
set_option maxHeartbeats 40000000 in
theorem rm151 (l : Launch) (Z : State) (a0 : Array Value) (hw : ∀ d ∈ tables_1, d.before a0 Z = true) (ws : List Jvm.Cond) (a1 : Addr) (a2 : Addr) (k1 : ClassId) (k2 : ClassId) (x0 : Int32) (h0 : Heap) (n0 : Nat) (Z0 : n0 ≤ h0.size) (A1 : Arv Z h0 a1 k1 .byte (1 : Int32) [(.int x0)] (.int (0 : Int32))) (A2 : Arv Z h0 a2 k2 .byte (1 : Int32) [(.int x0)] (.int (0 : Int32))) :
    MetFree l (⟨"jdk/internal/util/ArraysSupport", "mismatch", "([B[BI)I"⟩ : MethodName) (head1 (Jvm.Cond.code (⟨"jdk/internal/util/ArraysSupport", "mismatch", "([B[BI)I"⟩ : MethodName) jdk_48_method_13_code 4 (some .int) :: ws) ({ frames := 0, cells := 0, slots := 0, locals := 0 } : Room)) (fun a U => a = #[(.ref a1), (.ref a2), (.int (1 : Int32))] ∧ Z.Warmed39 U.vm ∧ U.heap = h0) (fun _ _ _ _ _ => True) (fun _ U o U' => ∃ v L, o = .returned v ∧ Q151 Z a1 a2 k1 k2 x0 h0 n0 v U'.heap L ∧ FrameEnd U o U' L ({ frames := 0, cells := 0, slots := 0, locals := 0 } : Room).cells ({ frames := 0, cells := 0, slots := 0, locals := 0 } : Room).slots) := by
  refine MetFree.of_bodySF (plainFor_of_name pn_15) hisR ?_
  intro p e s m args below meth c s₁ Bd hml0 hP hK
  obtain ⟨rfl, hZ, hh⟩ := hP
  have hx := Bd.exec
  have hby := Bd.bytes
  have hml : c.maxLocals = 4 := hml0
  have hown : s.vm.findClass "jdk/internal/util/ArraysSupport" = some m.cls := findClass_of_methodNamed Bd.named
  have hnm := (name_of_methodNamed Bd.named Bd.method).1
  have hret := Bd.returns
  have hlocks : meth.locks = false := Bd.notSynchronized
  have X0 : Stand p l e ({ frames := 0, cells := 0, slots := 0, locals := 0 } : Room) s m #[(.ref a1), (.ref a2), (.int (1 : Int32))] below meth c s₁ [] 0 0 := Stand.of_body Bd
  have e0 : s₁.heap = h0 := by rw [← hh, Bd.state]; rfl
  have N0 := Fr.nil n0
  obtain ⟨cl1, Ar1, _, S1, N_1, H1, _⟩ := A1
  obtain ⟨cl2, Ar2, _, S2, N_2, H2, _⟩ := A2
  have pre0 : ∀ t, Steps p.tables e below (s₁.setTop (mkF m 0 #[.val (.ref a1), .val (.ref a2), .val (.int (1 : Int32)), .unset] [])) t → Steps p.tables e below (s₁.setTop (entryFrame m #[(.ref a1), (.ref a2), (.int (1 : Int32))] 4)) t := fun t k => castTop (ef_151 m a1 a2) k
  have pre103 : ∀ t, Steps p.tables e below (s₁.setTop (mkF m 5 #[.val (.ref a1), .val (.ref a2), .val (.int (1 : Int32)), .val (.int (0 : Int32))] [(.int (7 : Int32)), (.int (1 : Int32))])) t → Steps p.tables e below (s₁.setTop (entryFrame m #[(.ref a1), (.ref a2), (.int (1 : Int32))] 4)) t := by
    intro t k
    refine pre0 _ ?_
    show Steps p.tables e below (s₁.setTop (mkF m 0 #[.val (.ref a1), .val (.ref a2), .val (.int (1 : Int32)), .unset] [])) _
    refine XS.iconst X0.here hx rfl (hb hby d15_0) ?_
    show Steps p.tables e below (s₁.setTop (mkF m 1 #[.val (.ref a1), .val (.ref a2), .val (.int (1 : Int32)), .unset] [(.int (0 : Int32))])) _
    refine XS.istoreN X0.here hx rfl (hb hby d15_1) rfl (l' := #[.val (.ref a1), .val (.ref a2), .val (.int (1 : Int32)), .val (.int (0 : Int32))]) rfl ?_
    show Steps p.tables e below (s₁.setTop (mkF m 2 #[.val (.ref a1), .val (.ref a2), .val (.int (1 : Int32)), .val (.int (0 : Int32))] [])) _
    refine XS.iloadN X0.here hx rfl (hb hby d15_2) rfl ?_
    show Steps p.tables e below (s₁.setTop (mkF m 3 #[.val (.ref a1), .val (.ref a2), .val (.int (1 : Int32)), .val (.int (0 : Int32))] [(.int (1 : Int32))])) _
    refine XS.bipush X0.here hx rfl (hb hby d15_3) ?_
    exact k
  have pre105 : ∀ t, Steps p.tables e below (s₁.setTop (mkF m 49 #[.val (.ref a1), .val (.ref a2), .val (.int (1 : Int32)), .val (.int (0 : Int32))] [])) t → Steps p.tables e below (s₁.setTop (entryFrame m #[(.ref a1), (.ref a2), (.int (1 : Int32))] 4)) t := by
    intro t k
    refine pre103 _ ?_
    show Steps p.tables e below (s₁.setTop (mkF m 5 #[.val (.ref a1), .val (.ref a2), .val (.int (1 : Int32)), .val (.int (0 : Int32))] [(.int (7 : Int32)), (.int (1 : Int32))])) _
    refine XS.icmpYes X0.here hx rfl (pc0 := 5) (pc' := 49) rfl (hb hby d15_5) rfl (flt (by decide : ¬ ((7 : Int32) < (1 : Int32)))).2.2.2 (by decide) (by decide) ?_
    exact k
  have pre106 : ∀ t, Steps p.tables e below (s₁.setTop (mkF m 51 #[.val (.ref a1), .val (.ref a2), .val (.int (1 : Int32)), .val (.int (0 : Int32))] [(.int (1 : Int32)), (.int (0 : Int32))])) t → Steps p.tables e below (s₁.setTop (entryFrame m #[(.ref a1), (.ref a2), (.int (1 : Int32))] 4)) t := by
    intro t k
    refine pre105 _ ?_
    show Steps p.tables e below (s₁.setTop (mkF m 49 #[.val (.ref a1), .val (.ref a2), .val (.int (1 : Int32)), .val (.int (0 : Int32))] [])) _
    refine XS.iloadN X0.here hx rfl (hb hby d15_49) rfl ?_
    show Steps p.tables e below (s₁.setTop (mkF m 50 #[.val (.ref a1), .val (.ref a2), .val (.int (1 : Int32)), .val (.int (0 : Int32))] [(.int (0 : Int32))])) _
    refine XS.iloadN X0.here hx rfl (hb hby d15_50) rfl ?_
    exact k
  have pre108 : ∀ t, Steps p.tables e below (s₁.setTop (mkF m 54 #[.val (.ref a1), .val (.ref a2), .val (.int (1 : Int32)), .val (.int (0 : Int32))] [])) t → Steps p.tables e below (s₁.setTop (entryFrame m #[(.ref a1), (.ref a2), (.int (1 : Int32))] 4)) t := by
    intro t k
    refine pre106 _ ?_
    show Steps p.tables e below (s₁.setTop (mkF m 51 #[.val (.ref a1), .val (.ref a2), .val (.int (1 : Int32)), .val (.int (0 : Int32))] [(.int (1 : Int32)), (.int (0 : Int32))])) _
    refine XS.icmpNo X0.here hx rfl (hb hby d15_51) rfl (tlt (by decide : (0 : Int32) < (1 : Int32))).2.1 ?_
    exact k
  have pre109 : ∀ t, Steps p.tables e below (s₁.setTop (mkF m 60 #[.val (.ref a1), .val (.ref a2), .val (.int (1 : Int32)), .val (.int (0 : Int32))] [(.int x0), (.int x0)])) t → Steps p.tables e below (s₁.setTop (entryFrame m #[(.ref a1), (.ref a2), (.int (1 : Int32))] 4)) t := by
    intro t k
    refine pre108 _ ?_
    show Steps p.tables e below (s₁.setTop (mkF m 54 #[.val (.ref a1), .val (.ref a2), .val (.int (1 : Int32)), .val (.int (0 : Int32))] [])) _
    refine XS.aloadN X0.here hx rfl (hb hby d15_54) rfl rfl ?_
    show Steps p.tables e below (s₁.setTop (mkF m 55 #[.val (.ref a1), .val (.ref a2), .val (.int (1 : Int32)), .val (.int (0 : Int32))] [(.ref a1)])) _
    refine XS.iloadN X0.here hx rfl (hb hby d15_55) rfl ?_
    show Steps p.tables e below (s₁.setTop (mkF m 56 #[.val (.ref a1), .val (.ref a2), .val (.int (1 : Int32)), .val (.int (0 : Int32))] [(.int (0 : Int32)), (.ref a1)])) _
    refine X0.baloadBytes hx (j := (0 : Int32)) (v := (.int x0)) (by rw [e0]; exact Ar1.1) (State.isArrayOf_alike hZ.alike Ar1.2.1) Ar1.2.2 (inb_of S1 ⟨by decide, by decide⟩) (Has.at (v := (.int x0)) H1 (inb_of S1 ⟨by decide, by decide⟩) rfl) (g := (mkF m 56 #[.val (.ref a1), .val (.ref a2), .val (.int (1 : Int32)), .val (.int (0 : Int32))] [(.int (0 : Int32)), (.ref a1)])) rfl rfl (hb hby d15_56) _ ?_
    show Steps p.tables e below (s₁.setTop (mkF m 57 #[.val (.ref a1), .val (.ref a2), .val (.int (1 : Int32)), .val (.int (0 : Int32))] [(.int x0)])) _
    refine XS.aloadN X0.here hx rfl (hb hby d15_57) rfl rfl ?_
    show Steps p.tables e below (s₁.setTop (mkF m 58 #[.val (.ref a1), .val (.ref a2), .val (.int (1 : Int32)), .val (.int (0 : Int32))] [(.ref a2), (.int x0)])) _
    refine XS.iloadN X0.here hx rfl (hb hby d15_58) rfl ?_
    show Steps p.tables e below (s₁.setTop (mkF m 59 #[.val (.ref a1), .val (.ref a2), .val (.int (1 : Int32)), .val (.int (0 : Int32))] [(.int (0 : Int32)), (.ref a2), (.int x0)])) _
    refine X0.baloadBytes hx (j := (0 : Int32)) (v := (.int x0)) (by rw [e0]; exact Ar2.1) (State.isArrayOf_alike hZ.alike Ar2.2.1) Ar2.2.2 (inb_of S2 ⟨by decide, by decide⟩) (Has.at (v := (.int x0)) H2 (inb_of S2 ⟨by decide, by decide⟩) rfl) (g := (mkF m 59 #[.val (.ref a1), .val (.ref a2), .val (.int (1 : Int32)), .val (.int (0 : Int32))] [(.int (0 : Int32)), (.ref a2), (.int x0)])) rfl rfl (hb hby d15_59) _ ?_
    exact k
  have pre111 : ∀ t, Steps p.tables e below (s₁.setTop (mkF m 65 #[.val (.ref a1), .val (.ref a2), .val (.int (1 : Int32)), .val (.int (0 : Int32))] [])) t → Steps p.tables e below (s₁.setTop (entryFrame m #[(.ref a1), (.ref a2), (.int (1 : Int32))] 4)) t := by
    intro t k
    refine pre109 _ ?_
    show Steps p.tables e below (s₁.setTop (mkF m 60 #[.val (.ref a1), .val (.ref a2), .val (.int (1 : Int32)), .val (.int (0 : Int32))] [(.int x0), (.int x0)])) _
    refine XS.icmpYes X0.here hx rfl (pc0 := 60) (pc' := 65) rfl (hb hby d15_60) rfl (teq (rfl : x0 = x0)).1 (by decide) (by decide) ?_
    exact k
  have pre112 : ∀ t, Steps p.tables e below (s₁.setTop (mkF m 51 #[.val (.ref a1), .val (.ref a2), .val (.int (1 : Int32)), .val (.int (1 : Int32))] [(.int (1 : Int32)), (.int (1 : Int32))])) t → Steps p.tables e below (s₁.setTop (entryFrame m #[(.ref a1), (.ref a2), (.int (1 : Int32))] 4)) t := by
    intro t k
    refine pre111 _ ?_
    show Steps p.tables e below (s₁.setTop (mkF m 65 #[.val (.ref a1), .val (.ref a2), .val (.int (1 : Int32)), .val (.int (0 : Int32))] [])) _
    refine XS.iinc X0.here hx rfl (hb hby d15_65) rfl (l' := #[.val (.ref a1), .val (.ref a2), .val (.int (1 : Int32)), .val (.int (1 : Int32))]) rfl ?_
    show Steps p.tables e below (s₁.setTop (mkF m 68 #[.val (.ref a1), .val (.ref a2), .val (.int (1 : Int32)), .val (.int (1 : Int32))] [])) _
    refine XS.goto X0.here hx rfl (pc0 := 68) (pc' := 49) rfl (hb hby d15_68) (by decide) (by decide) ?_
    show Steps p.tables e below (s₁.setTop (mkF m 49 #[.val (.ref a1), .val (.ref a2), .val (.int (1 : Int32)), .val (.int (1 : Int32))] [])) _
    refine XS.iloadN X0.here hx rfl (hb hby d15_49) rfl ?_
    show Steps p.tables e below (s₁.setTop (mkF m 50 #[.val (.ref a1), .val (.ref a2), .val (.int (1 : Int32)), .val (.int (1 : Int32))] [(.int (1 : Int32))])) _
    refine XS.iloadN X0.here hx rfl (hb hby d15_50) rfl ?_
    exact k
  have pre114 : ∀ t, Steps p.tables e below (s₁.setTop (mkF m 71 #[.val (.ref a1), .val (.ref a2), .val (.int (1 : Int32)), .val (.int (1 : Int32))] [])) t → Steps p.tables e below (s₁.setTop (entryFrame m #[(.ref a1), (.ref a2), (.int (1 : Int32))] 4)) t := by
    intro t k
    refine pre112 _ ?_
    show Steps p.tables e below (s₁.setTop (mkF m 51 #[.val (.ref a1), .val (.ref a2), .val (.int (1 : Int32)), .val (.int (1 : Int32))] [(.int (1 : Int32)), (.int (1 : Int32))])) _
    refine XS.icmpYes X0.here hx rfl (pc0 := 51) (pc' := 71) rfl (hb hby d15_51) rfl (flt (by decide : ¬ ((1 : Int32) < (1 : Int32)))).2.1 (by decide) (by decide) ?_
    exact k
  have pre115 : ∀ t, Steps p.tables e below (s₁.setTop (mkF m 72 #[.val (.ref a1), .val (.ref a2), .val (.int (1 : Int32)), .val (.int (1 : Int32))] [(.int (-1 : Int32))])) t → Steps p.tables e below (s₁.setTop (entryFrame m #[(.ref a1), (.ref a2), (.int (1 : Int32))] 4)) t := by
    intro t k
    refine pre114 _ ?_
    show Steps p.tables e below (s₁.setTop (mkF m 71 #[.val (.ref a1), .val (.ref a2), .val (.int (1 : Int32)), .val (.int (1 : Int32))] [])) _
    refine Jvm.Free.XT.iconstV X0.here hx rfl (-1 : Int32) (hb hby d15_71) (by decide) ?_
    exact k
  obtain ⟨fs, hr, hrun, hended, hW, hsame⟩ := X0.leave (v := some (.int (-1 : Int32))) (fun h => by rw [hret] at h; cases h) (hlocks := hlocks)
  refine ⟨_, _, pre115 _ ?_, hrun, hended, _, _, rfl, ?_, ⟨_, rfl⟩, hW, hsame.mono (by decide) (by decide)⟩
  · show Steps p.tables e below (s₁.setTop (mkF m 72 #[.val (.ref a1), .val (.ref a2), .val (.int (1 : Int32)), .val (.int (1 : Int32))] [(.int (-1 : Int32))])) _
    exact retI X0 hx hret (hb hby d15_72) hr
  · show Q151 Z a1 a2 k1 k2 x0 h0 n0 _ s₁.heap _
    rw [e0]
    exact ⟨rfl, N0, rfl⟩
theorem ef_141 (m : MethodId) (x0 : Addr) (x1 : Addr) : entryFrame m #[(.ref x0), (.ref x1)] 3 = mkF m 0 #[.val (.ref x0), .val (.ref x1), .unset] [] := by first | (simp [entryFrame, mkF, argsToLocals, Value.category]; done) | rfl
def Q141 (Z : State) (a1 : Addr) (a2 : Addr) (k1 : ClassId) (k2 : ClassId) (x0 : Int32) (h0 : Heap) (n0 : Nat) (v : Option Value) (h : Heap) (L : List Loc) : Prop := v = some (.int (1 : Int32)) ∧ Fr n0 L ∧ h = h0
set_option maxRecDepth 65536 in
set_option maxHeartbeats 40000000 in
theorem rm141 (l : Launch) (Z : State) (a0 : Array Value) (hw : ∀ d ∈ tables_1, d.before a0 Z = true) (ws : List Jvm.Cond) (a1 : Addr) (a2 : Addr) (k1 : ClassId) (k2 : ClassId) (x0 : Int32) (h0 : Heap) (n0 : Nat) (Z0 : n0 ≤ h0.size) (A1 : Arv Z h0 a1 k1 .byte (1 : Int32) [(.int x0)] (.int (0 : Int32))) (A2 : Arv Z h0 a2 k2 .byte (1 : Int32) [(.int x0)] (.int (0 : Int32))) :
    MetFree l (⟨"java/util/Arrays", "equals", "([B[B)Z"⟩ : MethodName) (head1 (Jvm.Cond.code (⟨"java/util/Arrays", "equals", "([B[B)Z"⟩ : MethodName) jdk_65_method_89_code 3 (some .boolean) :: ws) ({ frames := 1, cells := 0, slots := 0, locals := 15 } : Room)) (fun a U => a = #[(.ref a1), (.ref a2)] ∧ Z.Warmed39 U.vm ∧ U.heap = h0) (fun _ _ _ _ _ => True) (fun _ U o U' => ∃ v L, o = .returned v ∧ Q141 Z a1 a2 k1 k2 x0 h0 n0 v U'.heap L ∧ FrameEnd U o U' L ({ frames := 1, cells := 0, slots := 0, locals := 15 } : Room).cells ({ frames := 1, cells := 0, slots := 0, locals := 15 } : Room).slots) := by
  refine MetFree.of_bodySF (plainFor_of_name pn_14) hisR ?_
  intro p e s m args below meth c s₁ Bd hml0 hP hK
  obtain ⟨rfl, hZ, hh⟩ := hP
  have hx := Bd.exec
  have hby := Bd.bytes
  have hml : c.maxLocals = 3 := hml0
  have hown : s.vm.findClass "java/util/Arrays" = some m.cls := findClass_of_methodNamed Bd.named
  have hnm := (name_of_methodNamed Bd.named Bd.method).1
  have hret := Bd.returns
  have hlocks : meth.locks = false := Bd.notSynchronized
  have X0 : Stand p l e ({ frames := 1, cells := 0, slots := 0, locals := 15 } : Room) s m #[(.ref a1), (.ref a2)] below meth c s₁ [] 0 0 := Stand.of_body Bd
  have e0 : s₁.heap = h0 := by rw [← hh, Bd.state]; rfl
  have N0 := Fr.nil n0
  obtain ⟨cl1, Ar1, _, S1, N_1, H1, _⟩ := id A1
  obtain ⟨cl2, Ar2, _, S2, N_2, H2, _⟩ := id A2
  have pre0 : ∀ t, Steps p.tables e below (s₁.setTop (mkF m 0 #[.val (.ref a1), .val (.ref a2), .unset] [])) t → Steps p.tables e below (s₁.setTop (entryFrame m #[(.ref a1), (.ref a2)] 3)) t := fun t k => castTop (ef_141 m a1 a2) k
  have pre116 : ∀ t, Steps p.tables e below (s₁.setTop (mkF m 2 #[.val (.ref a1), .val (.ref a2), .unset] [(.ref a2), (.ref a1)])) t → Steps p.tables e below (s₁.setTop (entryFrame m #[(.ref a1), (.ref a2)] 3)) t := by
    intro t k
    refine pre0 _ ?_
    show Steps p.tables e below (s₁.setTop (mkF m 0 #[.val (.ref a1), .val (.ref a2), .unset] [])) _
    refine XS.aloadN X0.here hx rfl (hb hby d14_0) rfl rfl ?_
    show Steps p.tables e below (s₁.setTop (mkF m 1 #[.val (.ref a1), .val (.ref a2), .unset] [(.ref a1)])) _
    refine XS.aloadN X0.here hx rfl (hb hby d14_1) rfl rfl ?_
    exact k
  by_cases ha117 : a1 = a2
  · have pre118 : ∀ t, Steps p.tables e below (s₁.setTop (mkF m 5 #[.val (.ref a1), .val (.ref a2), .unset] [])) t → Steps p.tables e below (s₁.setTop (entryFrame m #[(.ref a1), (.ref a2)] 3)) t := by
      intro t k
      refine pre116 _ ?_
      show Steps p.tables e below (s₁.setTop (mkF m 2 #[.val (.ref a1), .val (.ref a2), .unset] [(.ref a2), (.ref a1)])) _
      refine Jvm.RoadKit.acmp (g := (mkF m 2 #[.val (.ref a1), .val (.ref a2), .unset] [(.ref a2), (.ref a1)])) X0 hx rfl rfl rfl (pc0 := 2) (pc' := 5) (same := true) rfl (hb hby d14_2) rfl (decide_eq_true (congrArg Value.ref ha117)) (by decide) (by decide) ?_
      exact k
    have pre119 : ∀ t, Steps p.tables e below (s₁.setTop (mkF m 6 #[.val (.ref a1), .val (.ref a2), .unset] [(.int (1 : Int32))])) t → Steps p.tables e below (s₁.setTop (entryFrame m #[(.ref a1), (.ref a2)] 3)) t := by
      intro t k
      refine pre118 _ ?_
      show Steps p.tables e below (s₁.setTop (mkF m 5 #[.val (.ref a1), .val (.ref a2), .unset] [])) _
      refine XS.iconst X0.here hx rfl (hb hby d14_5) ?_
      exact k
    obtain ⟨fs, hr, hrun, hended, hW, hsame⟩ := X0.leave (v := some (.int (1 : Int32))) (fun h => by rw [hret] at h; cases h) (hlocks := hlocks)
    refine ⟨_, _, pre119 _ ?_, hrun, hended, _, _, rfl, ?_, ⟨_, rfl⟩, hW, hsame.mono (by decide) (by decide)⟩
    · show Steps p.tables e below (s₁.setTop (mkF m 6 #[.val (.ref a1), .val (.ref a2), .unset] [(.int (1 : Int32))])) _
      exact retN X0 hx (t := .boolean) hret (by simp) (hb hby d14_6) hr
    · show Q141 Z a1 a2 k1 k2 x0 h0 n0 _ s₁.heap _
      rw [e0]
      exact ⟨rfl, N0, rfl⟩
  · have pre120 : ∀ t, Steps p.tables e below (s₁.setTop (mkF m 7 #[.val (.ref a1), .val (.ref a2), .unset] [])) t → Steps p.tables e below (s₁.setTop (entryFrame m #[(.ref a1), (.ref a2)] 3)) t := by
      intro t k
      refine pre116 _ ?_
      show Steps p.tables e below (s₁.setTop (mkF m 2 #[.val (.ref a1), .val (.ref a2), .unset] [(.ref a2), (.ref a1)])) _
      refine Jvm.RoadKit.acmp (g := (mkF m 2 #[.val (.ref a1), .val (.ref a2), .unset] [(.ref a2), (.ref a1)])) X0 hx rfl rfl rfl (pc0 := 2) (pc' := 7) (same := false) rfl (hb hby d14_2) rfl (decide_eq_false fun q => ha117 (Value.ref.inj q)) (by decide) (by decide) ?_
      exact k
    have pre121 : ∀ t, Steps p.tables e below (s₁.setTop (mkF m 23 #[.val (.ref a1), .val (.ref a2), .val (.int (1 : Int32))] [(.int (1 : Int32)), (.int (1 : Int32))])) t → Steps p.tables e below (s₁.setTop (entryFrame m #[(.ref a1), (.ref a2)] 3)) t := by
      intro t k
      refine pre120 _ ?_
      show Steps p.tables e below (s₁.setTop (mkF m 7 #[.val (.ref a1), .val (.ref a2), .unset] [])) _
      refine XS.aloadN X0.here hx rfl (hb hby d14_7) rfl rfl ?_
      show Steps p.tables e below (s₁.setTop (mkF m 8 #[.val (.ref a1), .val (.ref a2), .unset] [(.ref a1)])) _
      refine XS.ifnullNo X0.here hx rfl (hb hby d14_8) rfl ?_
      show Steps p.tables e below (s₁.setTop (mkF m 11 #[.val (.ref a1), .val (.ref a2), .unset] [])) _
      refine XS.aloadN X0.here hx rfl (hb hby d14_11) rfl rfl ?_
      show Steps p.tables e below (s₁.setTop (mkF m 12 #[.val (.ref a1), .val (.ref a2), .unset] [(.ref a2)])) _
      refine XS.ifnonnullYes X0.here hx rfl (pc0 := 12) (pc' := 17) rfl (hb hby d14_12) rfl (by decide) (by decide) ?_
      show Steps p.tables e below (s₁.setTop (mkF m 17 #[.val (.ref a1), .val (.ref a2), .unset] [])) _
      refine XS.aloadN X0.here hx rfl (hb hby d14_17) rfl rfl ?_
      show Steps p.tables e below (s₁.setTop (mkF m 18 #[.val (.ref a1), .val (.ref a2), .unset] [(.ref a1)])) _
      refine X0.arraylength hx (by rw [e0]; exact Ar1.1) (State.isArrayOf_alike hZ.alike Ar1.2.1) (g := (mkF m 18 #[.val (.ref a1), .val (.ref a2), .unset] [(.ref a1)])) rfl rfl (hb hby d14_18) _ ?_
      rw [len_of S1 N_1]
      show Steps p.tables e below (s₁.setTop (mkF m 19 #[.val (.ref a1), .val (.ref a2), .unset] [(.int (1 : Int32))])) _
      refine XS.istoreN X0.here hx rfl (hb hby d14_19) rfl (l' := #[.val (.ref a1), .val (.ref a2), .val (.int (1 : Int32))]) rfl ?_
      show Steps p.tables e below (s₁.setTop (mkF m 20 #[.val (.ref a1), .val (.ref a2), .val (.int (1 : Int32))] [])) _
      refine XS.aloadN X0.here hx rfl (hb hby d14_20) rfl rfl ?_
      show Steps p.tables e below (s₁.setTop (mkF m 21 #[.val (.ref a1), .val (.ref a2), .val (.int (1 : Int32))] [(.ref a2)])) _
      refine X0.arraylength hx (by rw [e0]; exact Ar2.1) (State.isArrayOf_alike hZ.alike Ar2.2.1) (g := (mkF m 21 #[.val (.ref a1), .val (.ref a2), .val (.int (1 : Int32))] [(.ref a2)])) rfl rfl (hb hby d14_21) _ ?_
      rw [len_of S2 N_2]
      show Steps p.tables e below (s₁.setTop (mkF m 22 #[.val (.ref a1), .val (.ref a2), .val (.int (1 : Int32))] [(.int (1 : Int32))])) _
      refine XS.iloadN X0.here hx rfl (hb hby d14_22) rfl ?_
      exact k
    have pre123 : ∀ t, Steps p.tables e below (s₁.setTop (mkF m 28 #[.val (.ref a1), .val (.ref a2), .val (.int (1 : Int32))] [])) t → Steps p.tables e below (s₁.setTop (entryFrame m #[(.ref a1), (.ref a2)] 3)) t := by
      intro t k
      refine pre121 _ ?_
      show Steps p.tables e below (s₁.setTop (mkF m 23 #[.val (.ref a1), .val (.ref a2), .val (.int (1 : Int32))] [(.int (1 : Int32)), (.int (1 : Int32))])) _
      refine XS.icmpYes X0.here hx rfl (pc0 := 23) (pc' := 28) rfl (hb hby d14_23) rfl (teq (rfl : (1 : Int32) = (1 : Int32))).1 (by decide) (by decide) ?_
      exact k
    have pre124 : ∀ t, Steps p.tables e below (s₁.setTop (mkF m 31 #[.val (.ref a1), .val (.ref a2), .val (.int (1 : Int32))] [(.int (1 : Int32)), (.ref a2), (.ref a1)])) t → Steps p.tables e below (s₁.setTop (entryFrame m #[(.ref a1), (.ref a2)] 3)) t := by
      intro t k
      refine pre123 _ ?_
      show Steps p.tables e below (s₁.setTop (mkF m 28 #[.val (.ref a1), .val (.ref a2), .val (.int (1 : Int32))] [])) _
      refine XS.aloadN X0.here hx rfl (hb hby d14_28) rfl rfl ?_
      show Steps p.tables e below (s₁.setTop (mkF m 29 #[.val (.ref a1), .val (.ref a2), .val (.int (1 : Int32))] [(.ref a1)])) _
      refine XS.aloadN X0.here hx rfl (hb hby d14_29) rfl rfl ?_
      show Steps p.tables e below (s₁.setTop (mkF m 30 #[.val (.ref a1), .val (.ref a2), .val (.int (1 : Int32))] [(.ref a2), (.ref a1)])) _
      refine XS.iloadN X0.here hx rfl (hb hby d14_30) rfl ?_
      exact k
    obtain ⟨_, _, ⟨T125, L125, k125, n125⟩, -, X125, ⟨Lc125, hQ125, l125, y125, z125⟩, st125⟩ := Jvm.LawKit.callS X0 hx (y := (⟨"jdk/internal/util/ArraysSupport", "mismatch", "([B[BI)I"⟩ : MethodName)) hown (mvT hZ (hw _ (List.mem_of_getElem? (i := 88) rfl))) (mvT hZ (hw _ (List.mem_of_getElem? (i := 89) rfl))) (mvT hZ (hw _ (List.mem_of_getElem? (i := 90) rfl))) (mvT hZ (hw _ (List.mem_of_getElem? (i := 91) rfl))) (by decide) (backOf (W := 0) (rm151 l Z a0 hw [] a1 a2 k1 k2 x0 h0 n0 Z0 A1 A2) hZ (hw _ (List.mem_of_getElem? (i := 91) rfl)) (hw _ (List.mem_of_getElem? (i := 90) rfl)) (by decide) (by decide)) (g := (mkF m 31 #[.val (.ref a1), .val (.ref a2), .val (.int (1 : Int32))] [(.int (1 : Int32)), (.ref a2), (.ref a1)])) rfl (by rw [hml]; rfl) (argsL := [(.ref a1), (.ref a2), (.int (1 : Int32))]) (rest := []) (lenOf pd___B_BI_I rfl) rfl (by show 2 * 0 + _ ≤ _; exact Nat.le_of_eq rfl) (hb hby d14_31) (fun _ _ => ⟨rfl, e0, (by decide : 0 + 0 ≤ _), (by decide : 0 + 0 ≤ _)⟩)
    dsimp only [Pt.U, Pt.locs, Pt.cells, Pt.slots] at X125 l125 y125 z125 st125 hQ125
    subst l125 y125 z125
    obtain ⟨rfl, N125q, e125⟩ := hQ125
    have N125 := Fr.app N0 N125q
    have pre126 : ∀ t, Steps p.tables e below (T125.setTop (mkF m 34 #[.val (.ref a1), .val (.ref a2), .val (.int (1 : Int32))] [(.int (-1 : Int32))])) t → Steps p.tables e below (s₁.setTop (entryFrame m #[(.ref a1), (.ref a2)] 3)) t := by
      intro t k
      refine pre124 _ ?_
      show Steps p.tables e below (s₁.setTop (mkF m 31 #[.val (.ref a1), .val (.ref a2), .val (.int (1 : Int32))] [(.int (1 : Int32)), (.ref a2), (.ref a1)])) _
      refine st125 _ ?_
      exact k
    have pre128 : ∀ t, Steps p.tables e below (T125.setTop (mkF m 37 #[.val (.ref a1), .val (.ref a2), .val (.int (1 : Int32))] [])) t → Steps p.tables e below (s₁.setTop (entryFrame m #[(.ref a1), (.ref a2)] 3)) t := by
      intro t k
      refine pre126 _ ?_
      show Steps p.tables e below (T125.setTop (mkF m 34 #[.val (.ref a1), .val (.ref a2), .val (.int (1 : Int32))] [(.int (-1 : Int32))])) _
      refine XS.ifNo X125.here hx rfl (hb hby d14_34) rfl ((if0 _ _).trans (tlt (by decide : (-1 : Int32) < (0 : Int32))).2.1) ?_
      exact k
    have pre129 : ∀ t, Steps p.tables e below (T125.setTop (mkF m 42 #[.val (.ref a1), .val (.ref a2), .val (.int (1 : Int32))] [(.int (1 : Int32))])) t → Steps p.tables e below (s₁.setTop (entryFrame m #[(.ref a1), (.ref a2)] 3)) t := by
      intro t k
      refine pre128 _ ?_
      show Steps p.tables e below (T125.setTop (mkF m 37 #[.val (.ref a1), .val (.ref a2), .val (.int (1 : Int32))] [])) _
      refine XS.iconst X125.here hx rfl (hb hby d14_37) ?_
      show Steps p.tables e below (T125.setTop (mkF m 38 #[.val (.ref a1), .val (.ref a2), .val (.int (1 : Int32))] [(.int (1 : Int32))])) _
      refine XS.goto X125.here hx rfl (pc0 := 38) (pc' := 42) rfl (hb hby d14_38) (by decide) (by decide) ?_
      exact k
    obtain ⟨fs, hr, hrun, hended, hW, hsame⟩ := X125.leave (v := some (.int (1 : Int32))) (fun h => by rw [hret] at h; cases h) (hlocks := hlocks)
    refine ⟨_, _, pre129 _ ?_, hrun, hended, _, _, rfl, ?_, ⟨_, rfl⟩, hW, hsame.mono (by decide) (by decide)⟩
    · show Steps p.tables e below (T125.setTop (mkF m 42 #[.val (.ref a1), .val (.ref a2), .val (.int (1 : Int32))] [(.int (1 : Int32))])) _
      exact retN X125 hx (t := .boolean) hret (by simp) (hb hby d14_42) hr
    · show Q141 Z a1 a2 k1 k2 x0 h0 n0 _ T125.heap _
      rw [e125]
      exact ⟨rfl, N125, rfl⟩
theorem ef_131 (m : MethodId) (x0 : Addr) (x1 : Addr) : entryFrame m #[(.ref x0), (.ref x1)] 3 = mkF m 0 #[.val (.ref x0), .val (.ref x1), .unset] [] := by first | (simp [entryFrame, mkF, argsToLocals, Value.category]; done) | rfl
def Q131 (Z : State) (a1 : Addr) (a2 : Addr) (f1 : Int32) (d1 : Addr) (d2 : Addr) (k1 : ClassId) (k2 : ClassId) (x0 : Int32) (h0 : Heap) (n0 : Nat) (v : Option Value) (h : Heap) (L : List Loc) : Prop := v = some (.int (1 : Int32)) ∧ Fr n0 L ∧ h = h0
set_option maxRecDepth 65536 in
set_option maxHeartbeats 40000000 in
theorem rm131 (l : Launch) (Z : State) (a0 : Array Value) (hw : ∀ d ∈ tables_1, d.before a0 Z = true) (ws : List Jvm.Cond) (a1 : Addr) (a2 : Addr) (f1 : Int32) (d1 : Addr) (d2 : Addr) (k1 : ClassId) (k2 : ClassId) (x0 : Int32) (h0 : Heap) (n0 : Nat) (Z0 : n0 ≤ h0.size) (E_a2 : Exa Z h0 a2 "com/example/message_buffer/messagebuffer/model/Message") (S1 : Fld Z h0 a1 "com/example/message_buffer/messagebuffer/model/Message" "source" "Lcom/example/message_buffer/messagebuffer/model/Message$Source;" .null) (G1 : Fld Z h0 a1 "com/example/message_buffer/messagebuffer/model/Message" "flags" "I" (.int f1)) (G2 : Fld Z h0 a2 "com/example/message_buffer/messagebuffer/model/Message" "flags" "I" (.int f1)) (D1 : Fld Z h0 a1 "com/example/message_buffer/messagebuffer/model/Message" "data" "[B" (.ref d1)) (D2 : Fld Z h0 a2 "com/example/message_buffer/messagebuffer/model/Message" "data" "[B" (.ref d2)) (A1 : Arv Z h0 d1 k1 .byte (1 : Int32) [(.int x0)] (.int (0 : Int32))) (A2 : Arv Z h0 d2 k2 .byte (1 : Int32) [(.int x0)] (.int (0 : Int32))) :
    MetFree l (⟨"com/example/message_buffer/messagebuffer/model/Message", "equals", "(Ljava/lang/Object;)Z"⟩ : MethodName) (head1 (Jvm.Cond.code (⟨"com/example/message_buffer/messagebuffer/model/Message", "equals", "(Ljava/lang/Object;)Z"⟩ : MethodName) prog_14_method_17_code 3 (some .boolean) :: ws) ({ frames := 2, cells := 0, slots := 0, locals := 29 } : Room)) (fun a U => a = #[(.ref a1), (.ref a2)] ∧ Z.Warmed39 U.vm ∧ U.heap = h0) (fun _ _ _ _ _ => True) (fun _ U o U' => ∃ v L, o = .returned v ∧ Q131 Z a1 a2 f1 d1 d2 k1 k2 x0 h0 n0 v U'.heap L ∧ FrameEnd U o U' L ({ frames := 2, cells := 0, slots := 0, locals := 29 } : Room).cells ({ frames := 2, cells := 0, slots := 0, locals := 29 } : Room).slots) := by
  refine MetFree.of_bodySF (plainFor_of_name pn_3) hisR ?_
  intro p e s m args below meth c s₁ Bd hml0 hP hK
  obtain ⟨rfl, hZ, hh⟩ := hP
  have hx := Bd.exec
  have hby := Bd.bytes
  have hml : c.maxLocals = 3 := hml0
  have hown : s.vm.findClass "com/example/message_buffer/messagebuffer/model/Message" = some m.cls := findClass_of_methodNamed Bd.named
  have hnm := (name_of_methodNamed Bd.named Bd.method).1
  have hret := Bd.returns
  have hlocks : meth.locks = false := Bd.notSynchronized
  have X0 : Stand p l e ({ frames := 2, cells := 0, slots := 0, locals := 29 } : Room) s m #[(.ref a1), (.ref a2)] below meth c s₁ [] 0 0 := Stand.of_body Bd
  have e0 : s₁.heap = h0 := by rw [← hh, Bd.state]; rfl
  have N0 := Fr.nil n0
  have pre0 : ∀ t, Steps p.tables e below (s₁.setTop (mkF m 0 #[.val (.ref a1), .val (.ref a2), .unset] [])) t → Steps p.tables e below (s₁.setTop (entryFrame m #[(.ref a1), (.ref a2)] 3)) t := fun t k => castTop (ef_131 m a1 a2) k
  have pre130 : ∀ t, Steps p.tables e below (s₁.setTop (mkF m 1 #[.val (.ref a1), .val (.ref a2), .unset] [(.ref a1)])) t → Steps p.tables e below (s₁.setTop (entryFrame m #[(.ref a1), (.ref a2)] 3)) t := by
    intro t k
    refine pre0 _ ?_
    show Steps p.tables e below (s₁.setTop (mkF m 0 #[.val (.ref a1), .val (.ref a2), .unset] [])) _
    refine XS.aloadN X0.here hx rfl (hb hby d13_0) rfl rfl ?_
    exact k
  obtain ⟨T131, X131, e131, st131⟩ := getF X0 hx hZ hown (host := "") (Or.inl (hw _ (List.mem_of_getElem? (i := 33) rfl))) Via.refl e0 S1 (g := (mkF m 1 #[.val (.ref a1), .val (.ref a2), .unset] [(.ref a1)])) rfl rfl (hb hby d13_1)
  have pre132 : ∀ t, Steps p.tables e below (T131.setTop (mkF m 4 #[.val (.ref a1), .val (.ref a2), .unset] [.null])) t → Steps p.tables e below (s₁.setTop (entryFrame m #[(.ref a1), (.ref a2)] 3)) t := by
    intro t k
    refine pre130 _ ?_
    show Steps p.tables e below (s₁.setTop (mkF m 1 #[.val (.ref a1), .val (.ref a2), .unset] [(.ref a1)])) _
    refine st131 _ ?_
    exact k
  have pre133 : ∀ t, Steps p.tables e below (T131.setTop (mkF m 19 #[.val (.ref a1), .val (.ref a2), .unset] [(.ref a2)])) t → Steps p.tables e below (s₁.setTop (entryFrame m #[(.ref a1), (.ref a2)] 3)) t := by
    intro t k
    refine pre132 _ ?_
    show Steps p.tables e below (T131.setTop (mkF m 4 #[.val (.ref a1), .val (.ref a2), .unset] [.null])) _
    refine XS.ifnullYes X131.here hx rfl (pc0 := 4) (pc' := 18) rfl (hb hby d13_4) rfl (by decide) (by decide) ?_
    show Steps p.tables e below (T131.setTop (mkF m 18 #[.val (.ref a1), .val (.ref a2), .unset] [])) _
    refine XS.aloadN X131.here hx rfl (hb hby d13_18) rfl rfl ?_
    exact k
  obtain ⟨T134, X134, e134, st134⟩ := instY X131 hx hZ hown (hw _ (List.mem_of_getElem? (i := 17) rfl)) e131 (Ins.self E_a2) (g := (mkF m 19 #[.val (.ref a1), .val (.ref a2), .unset] [(.ref a2)])) rfl rfl (hb hby d13_19)
  have pre135 : ∀ t, Steps p.tables e below (T134.setTop (mkF m 22 #[.val (.ref a1), .val (.ref a2), .unset] [(.int (1 : Int32))])) t → Steps p.tables e below (s₁.setTop (entryFrame m #[(.ref a1), (.ref a2)] 3)) t := by
    intro t k
    refine pre133 _ ?_
    show Steps p.tables e below (T131.setTop (mkF m 19 #[.val (.ref a1), .val (.ref a2), .unset] [(.ref a2)])) _
    refine st134 _ ?_
    exact k
  have pre137 : ∀ t, Steps p.tables e below (T134.setTop (mkF m 25 #[.val (.ref a1), .val (.ref a2), .unset] [])) t → Steps p.tables e below (s₁.setTop (entryFrame m #[(.ref a1), (.ref a2)] 3)) t := by
    intro t k
    refine pre135 _ ?_
    show Steps p.tables e below (T134.setTop (mkF m 22 #[.val (.ref a1), .val (.ref a2), .unset] [(.int (1 : Int32))])) _
    refine XS.ifNo X134.here hx rfl (hb hby d13_22) rfl ((if0 _ _).trans (feq (by decide : ¬ ((1 : Int32) = (0 : Int32)))).1) ?_
    exact k
  have pre138 : ∀ t, Steps p.tables e below (T134.setTop (mkF m 26 #[.val (.ref a1), .val (.ref a2), .unset] [(.ref a2)])) t → Steps p.tables e below (s₁.setTop (entryFrame m #[(.ref a1), (.ref a2)] 3)) t := by
    intro t k
    refine pre137 _ ?_
    show Steps p.tables e below (T134.setTop (mkF m 25 #[.val (.ref a1), .val (.ref a2), .unset] [])) _
    refine XS.aloadN X134.here hx rfl (hb hby d13_25) rfl rfl ?_
    exact k
  obtain ⟨T139, X139, e139, st139⟩ := castY X134 hx hZ hown (hw _ (List.mem_of_getElem? (i := 17) rfl)) e134 (Ins.self E_a2) (g := (mkF m 26 #[.val (.ref a1), .val (.ref a2), .unset] [(.ref a2)])) rfl rfl (hb hby d13_26)
  have pre140 : ∀ t, Steps p.tables e below (T139.setTop (mkF m 29 #[.val (.ref a1), .val (.ref a2), .unset] [(.ref a2)])) t → Steps p.tables e below (s₁.setTop (entryFrame m #[(.ref a1), (.ref a2)] 3)) t := by
    intro t k
    refine pre138 _ ?_
    show Steps p.tables e below (T134.setTop (mkF m 26 #[.val (.ref a1), .val (.ref a2), .unset] [(.ref a2)])) _
    refine st139 _ ?_
    exact k
  have pre141 : ∀ t, Steps p.tables e below (T139.setTop (mkF m 31 #[.val (.ref a1), .val (.ref a2), .val (.ref a2)] [(.ref a1)])) t → Steps p.tables e below (s₁.setTop (entryFrame m #[(.ref a1), (.ref a2)] 3)) t := by
    intro t k
    refine pre140 _ ?_
    show Steps p.tables e below (T139.setTop (mkF m 29 #[.val (.ref a1), .val (.ref a2), .unset] [(.ref a2)])) _
    refine XS.astoreN X139.here hx rfl (hb hby d13_29) rfl rfl (l' := #[.val (.ref a1), .val (.ref a2), .val (.ref a2)]) rfl ?_
    show Steps p.tables e below (T139.setTop (mkF m 30 #[.val (.ref a1), .val (.ref a2), .val (.ref a2)] [])) _
    refine XS.aloadN X139.here hx rfl (hb hby d13_30) rfl rfl ?_
    exact k
  obtain ⟨T142, X142, e142, st142⟩ := getF X139 hx hZ hown (host := "") (Or.inl (hw _ (List.mem_of_getElem? (i := 29) rfl))) Via.refl e139 G1 (g := (mkF m 31 #[.val (.ref a1), .val (.ref a2), .val (.ref a2)] [(.ref a1)])) rfl rfl (hb hby d13_31)
  have pre143 : ∀ t, Steps p.tables e below (T142.setTop (mkF m 34 #[.val (.ref a1), .val (.ref a2), .val (.ref a2)] [(.int f1)])) t → Steps p.tables e below (s₁.setTop (entryFrame m #[(.ref a1), (.ref a2)] 3)) t := by
    intro t k
    refine pre141 _ ?_
    show Steps p.tables e below (T139.setTop (mkF m 31 #[.val (.ref a1), .val (.ref a2), .val (.ref a2)] [(.ref a1)])) _
    refine st142 _ ?_
    exact k
  have pre144 : ∀ t, Steps p.tables e below (T142.setTop (mkF m 35 #[.val (.ref a1), .val (.ref a2), .val (.ref a2)] [(.ref a2), (.int f1)])) t → Steps p.tables e below (s₁.setTop (entryFrame m #[(.ref a1), (.ref a2)] 3)) t := by
    intro t k
    refine pre143 _ ?_
    show Steps p.tables e below (T142.setTop (mkF m 34 #[.val (.ref a1), .val (.ref a2), .val (.ref a2)] [(.int f1)])) _
    refine XS.aloadN X142.here hx rfl (hb hby d13_34) rfl rfl ?_
    exact k
  obtain ⟨T145, X145, e145, st145⟩ := getF X142 hx hZ hown (host := "") (Or.inl (hw _ (List.mem_of_getElem? (i := 29) rfl))) Via.refl e142 G2 (g := (mkF m 35 #[.val (.ref a1), .val (.ref a2), .val (.ref a2)] [(.ref a2), (.int f1)])) rfl rfl (hb hby d13_35)
  have pre146 : ∀ t, Steps p.tables e below (T145.setTop (mkF m 38 #[.val (.ref a1), .val (.ref a2), .val (.ref a2)] [(.int f1), (.int f1)])) t → Steps p.tables e below (s₁.setTop (entryFrame m #[(.ref a1), (.ref a2)] 3)) t := by
    intro t k
    refine pre144 _ ?_
    show Steps p.tables e below (T142.setTop (mkF m 35 #[.val (.ref a1), .val (.ref a2), .val (.ref a2)] [(.ref a2), (.int f1)])) _
    refine st145 _ ?_
    exact k
  have pre148 : ∀ t, Steps p.tables e below (T145.setTop (mkF m 41 #[.val (.ref a1), .val (.ref a2), .val (.ref a2)] [])) t → Steps p.tables e below (s₁.setTop (entryFrame m #[(.ref a1), (.ref a2)] 3)) t := by
    intro t k
    refine pre146 _ ?_
    show Steps p.tables e below (T145.setTop (mkF m 38 #[.val (.ref a1), .val (.ref a2), .val (.ref a2)] [(.int f1), (.int f1)])) _
    refine XS.icmpNo X145.here hx rfl (hb hby d13_38) rfl (teq (rfl : f1 = f1)).2 ?_
    exact k
  have pre149 : ∀ t, Steps p.tables e below (T145.setTop (mkF m 42 #[.val (.ref a1), .val (.ref a2), .val (.ref a2)] [(.ref a1)])) t → Steps p.tables e below (s₁.setTop (entryFrame m #[(.ref a1), (.ref a2)] 3)) t := by
    intro t k
    refine pre148 _ ?_
    show Steps p.tables e below (T145.setTop (mkF m 41 #[.val (.ref a1), .val (.ref a2), .val (.ref a2)] [])) _
    refine XS.aloadN X145.here hx rfl (hb hby d13_41) rfl rfl ?_
    exact k
  obtain ⟨T150, X150, e150, st150⟩ := getF X145 hx hZ hown (host := "") (Or.inl (hw _ (List.mem_of_getElem? (i := 31) rfl))) Via.refl e145 D1 (g := (mkF m 42 #[.val (.ref a1), .val (.ref a2), .val (.ref a2)] [(.ref a1)])) rfl rfl (hb hby d13_42)
  have pre151 : ∀ t, Steps p.tables e below (T150.setTop (mkF m 45 #[.val (.ref a1), .val (.ref a2), .val (.ref a2)] [(.ref d1)])) t → Steps p.tables e below (s₁.setTop (entryFrame m #[(.ref a1), (.ref a2)] 3)) t := by
    intro t k
    refine pre149 _ ?_
    show Steps p.tables e below (T145.setTop (mkF m 42 #[.val (.ref a1), .val (.ref a2), .val (.ref a2)] [(.ref a1)])) _
    refine st150 _ ?_
    exact k
  have pre152 : ∀ t, Steps p.tables e below (T150.setTop (mkF m 46 #[.val (.ref a1), .val (.ref a2), .val (.ref a2)] [(.ref a2), (.ref d1)])) t → Steps p.tables e below (s₁.setTop (entryFrame m #[(.ref a1), (.ref a2)] 3)) t := by
    intro t k
    refine pre151 _ ?_
    show Steps p.tables e below (T150.setTop (mkF m 45 #[.val (.ref a1), .val (.ref a2), .val (.ref a2)] [(.ref d1)])) _
    refine XS.aloadN X150.here hx rfl (hb hby d13_45) rfl rfl ?_
    exact k
  obtain ⟨T153, X153, e153, st153⟩ := getF X150 hx hZ hown (host := "") (Or.inl (hw _ (List.mem_of_getElem? (i := 31) rfl))) Via.refl e150 D2 (g := (mkF m 46 #[.val (.ref a1), .val (.ref a2), .val (.ref a2)] [(.ref a2), (.ref d1)])) rfl rfl (hb hby d13_46)
  have pre154 : ∀ t, Steps p.tables e below (T153.setTop (mkF m 49 #[.val (.ref a1), .val (.ref a2), .val (.ref a2)] [(.ref d2), (.ref d1)])) t → Steps p.tables e below (s₁.setTop (entryFrame m #[(.ref a1), (.ref a2)] 3)) t := by
    intro t k
    refine pre152 _ ?_
    show Steps p.tables e below (T150.setTop (mkF m 46 #[.val (.ref a1), .val (.ref a2), .val (.ref a2)] [(.ref a2), (.ref d1)])) _
    refine st153 _ ?_
    exact k
  obtain ⟨_, _, ⟨T155, L155, k155, n155⟩, -, X155, ⟨Lc155, hQ155, l155, y155, z155⟩, st155⟩ := Jvm.LawKit.callS X153 hx (y := (⟨"java/util/Arrays", "equals", "([B[B)Z"⟩ : MethodName)) hown (mvT hZ (hw _ (List.mem_of_getElem? (i := 84) rfl))) (mvT hZ (hw _ (List.mem_of_getElem? (i := 85) rfl))) (mvT hZ (hw _ (List.mem_of_getElem? (i := 86) rfl))) (mvT hZ (hw _ (List.mem_of_getElem? (i := 87) rfl))) (by decide) (backOf (W := 0) (rm141 l Z a0 hw [] d1 d2 k1 k2 x0 h0 n0 Z0 A1 A2) hZ (hw _ (List.mem_of_getElem? (i := 87) rfl)) (hw _ (List.mem_of_getElem? (i := 86) rfl)) (by decide) (by decide)) (g := (mkF m 49 #[.val (.ref a1), .val (.ref a2), .val (.ref a2)] [(.ref d2), (.ref d1)])) rfl (by rw [hml]; rfl) (argsL := [(.ref d1), (.ref d2)]) (rest := []) (lenOf pd___B_B_Z rfl) rfl (by show 2 * 0 + _ ≤ _; exact Nat.le_of_eq rfl) (hb hby d13_49) (fun _ _ => ⟨rfl, e153, (by decide : 0 + 0 ≤ _), (by decide : 0 + 0 ≤ _)⟩)
  dsimp only [Pt.U, Pt.locs, Pt.cells, Pt.slots] at X155 l155 y155 z155 st155 hQ155
  subst l155 y155 z155
  obtain ⟨rfl, N155q, e155⟩ := hQ155
  have N155 := Fr.app N0 N155q
  have pre156 : ∀ t, Steps p.tables e below (T155.setTop (mkF m 52 #[.val (.ref a1), .val (.ref a2), .val (.ref a2)] [(.int (1 : Int32))])) t → Steps p.tables e below (s₁.setTop (entryFrame m #[(.ref a1), (.ref a2)] 3)) t := by
    intro t k
    refine pre154 _ ?_
    show Steps p.tables e below (T153.setTop (mkF m 49 #[.val (.ref a1), .val (.ref a2), .val (.ref a2)] [(.ref d2), (.ref d1)])) _
    refine st155 _ ?_
    exact k
  have pre158 : ∀ t, Steps p.tables e below (T155.setTop (mkF m 55 #[.val (.ref a1), .val (.ref a2), .val (.ref a2)] [])) t → Steps p.tables e below (s₁.setTop (entryFrame m #[(.ref a1), (.ref a2)] 3)) t := by
    intro t k
    refine pre156 _ ?_
    show Steps p.tables e below (T155.setTop (mkF m 52 #[.val (.ref a1), .val (.ref a2), .val (.ref a2)] [(.int (1 : Int32))])) _
    refine XS.ifNo X155.here hx rfl (hb hby d13_52) rfl ((if0 _ _).trans (feq (by decide : ¬ ((1 : Int32) = (0 : Int32)))).1) ?_
    exact k
  have pre159 : ∀ t, Steps p.tables e below (T155.setTop (mkF m 60 #[.val (.ref a1), .val (.ref a2), .val (.ref a2)] [(.int (1 : Int32))])) t → Steps p.tables e below (s₁.setTop (entryFrame m #[(.ref a1), (.ref a2)] 3)) t := by
    intro t k
    refine pre158 _ ?_
    show Steps p.tables e below (T155.setTop (mkF m 55 #[.val (.ref a1), .val (.ref a2), .val (.ref a2)] [])) _
    refine XS.iconst X155.here hx rfl (hb hby d13_55) ?_
    show Steps p.tables e below (T155.setTop (mkF m 56 #[.val (.ref a1), .val (.ref a2), .val (.ref a2)] [(.int (1 : Int32))])) _
    refine XS.goto X155.here hx rfl (pc0 := 56) (pc' := 60) rfl (hb hby d13_56) (by decide) (by decide) ?_
    exact k
  obtain ⟨fs, hr, hrun, hended, hW, hsame⟩ := X155.leave (v := some (.int (1 : Int32))) (fun h => by rw [hret] at h; cases h) (hlocks := hlocks)
  refine ⟨_, _, pre159 _ ?_, hrun, hended, _, _, rfl, ?_, ⟨_, rfl⟩, hW, hsame.mono (by decide) (by decide)⟩
  · show Steps p.tables e below (T155.setTop (mkF m 60 #[.val (.ref a1), .val (.ref a2), .val (.ref a2)] [(.int (1 : Int32))])) _
    exact retN X155 hx (t := .boolean) hret (by simp) (hb hby d13_60) hr
  · show Q131 Z a1 a2 f1 d1 d2 k1 k2 x0 h0 n0 _ T155.heap _
    rw [e155]
    exact ⟨rfl, N155, rfl⟩
theorem ef_152 (m : MethodId) (x0 : Addr) (x1 : Addr) : entryFrame m #[(.ref x0), (.ref x1), (.int (2 : Int32))] 4 = mkF m 0 #[.val (.ref x0), .val (.ref x1), .val (.int (2 : Int32)), .unset] [] := by first | (simp [entryFrame, mkF, argsToLocals, Value.category]; done) | rfl
def Q152 (Z : State) (a1 : Addr) (a2 : Addr) (k1 : ClassId) (k2 : ClassId) (x0 : Int32) (x1 : Int32) (h0 : Heap) (n0 : Nat) (v : Option Value) (h : Heap) (L : List Loc) : Prop := v = some (.int (-1 : Int32)) ∧ Fr n0 L ∧ h = h0
set_option maxRecDepth 65536 in
set_option maxHeartbeats 40000000 in
theorem rm152 (l : Launch) (Z : State) (a0 : Array Value) (hw : ∀ d ∈ tables_1, d.before a0 Z = true) (ws : List Jvm.Cond) (a1 : Addr) (a2 : Addr) (k1 : ClassId) (k2 : ClassId) (x0 : Int32) (x1 : Int32) (h0 : Heap) (n0 : Nat) (Z0 : n0 ≤ h0.size) (A1 : Arv Z h0 a1 k1 .byte (2 : Int32) [(.int x0), (.int x1)] (.int (0 : Int32))) (A2 : Arv Z h0 a2 k2 .byte (2 : Int32) [(.int x0), (.int x1)] (.int (0 : Int32))) :
    MetFree l (⟨"jdk/internal/util/ArraysSupport", "mismatch", "([B[BI)I"⟩ : MethodName) (head1 (Jvm.Cond.code (⟨"jdk/internal/util/ArraysSupport", "mismatch", "([B[BI)I"⟩ : MethodName) jdk_48_method_13_code 4 (some .int) :: ws) ({ frames := 0, cells := 0, slots := 0, locals := 0 } : Room)) (fun a U => a = #[(.ref a1), (.ref a2), (.int (2 : Int32))] ∧ Z.Warmed39 U.vm ∧ U.heap = h0) (fun _ _ _ _ _ => True) (fun _ U o U' => ∃ v L, o = .returned v ∧ Q152 Z a1 a2 k1 k2 x0 x1 h0 n0 v U'.heap L ∧ FrameEnd U o U' L ({ frames := 0, cells := 0, slots := 0, locals := 0 } : Room).cells ({ frames := 0, cells := 0, slots := 0, locals := 0 } : Room).slots) := by
  refine MetFree.of_bodySF (plainFor_of_name pn_15) hisR ?_
  intro p e s m args below meth c s₁ Bd hml0 hP hK
  obtain ⟨rfl, hZ, hh⟩ := hP
  have hx := Bd.exec
  have hby := Bd.bytes
  have hml : c.maxLocals = 4 := hml0
  have hown : s.vm.findClass "jdk/internal/util/ArraysSupport" = some m.cls := findClass_of_methodNamed Bd.named
  have hnm := (name_of_methodNamed Bd.named Bd.method).1
  have hret := Bd.returns
  have hlocks : meth.locks = false := Bd.notSynchronized
  have X0 : Stand p l e ({ frames := 0, cells := 0, slots := 0, locals := 0 } : Room) s m #[(.ref a1), (.ref a2), (.int (2 : Int32))] below meth c s₁ [] 0 0 := Stand.of_body Bd
  have e0 : s₁.heap = h0 := by rw [← hh, Bd.state]; rfl
  have N0 := Fr.nil n0
  obtain ⟨cl1, Ar1, _, S1, N_1, H1, _⟩ := A1
  obtain ⟨cl2, Ar2, _, S2, N_2, H2, _⟩ := A2
  have pre0 : ∀ t, Steps p.tables e below (s₁.setTop (mkF m 0 #[.val (.ref a1), .val (.ref a2), .val (.int (2 : Int32)), .unset] [])) t → Steps p.tables e below (s₁.setTop (entryFrame m #[(.ref a1), (.ref a2), (.int (2 : Int32))] 4)) t := fun t k => castTop (ef_152 m a1 a2) k
  have pre160 : ∀ t, Steps p.tables e below (s₁.setTop (mkF m 5 #[.val (.ref a1), .val (.ref a2), .val (.int (2 : Int32)), .val (.int (0 : Int32))] [(.int (7 : Int32)), (.int (2 : Int32))])) t → Steps p.tables e below (s₁.setTop (entryFrame m #[(.ref a1), (.ref a2), (.int (2 : Int32))] 4)) t := by
    intro t k
    refine pre0 _ ?_
    show Steps p.tables e below (s₁.setTop (mkF m 0 #[.val (.ref a1), .val (.ref a2), .val (.int (2 : Int32)), .unset] [])) _
    refine XS.iconst X0.here hx rfl (hb hby d15_0) ?_
    show Steps p.tables e below (s₁.setTop (mkF m 1 #[.val (.ref a1), .val (.ref a2), .val (.int (2 : Int32)), .unset] [(.int (0 : Int32))])) _
    refine XS.istoreN X0.here hx rfl (hb hby d15_1) rfl (l' := #[.val (.ref a1), .val (.ref a2), .val (.int (2 : Int32)), .val (.int (0 : Int32))]) rfl ?_
    show Steps p.tables e below (s₁.setTop (mkF m 2 #[.val (.ref a1), .val (.ref a2), .val (.int (2 : Int32)), .val (.int (0 : Int32))] [])) _
    refine XS.iloadN X0.here hx rfl (hb hby d15_2) rfl ?_
    show Steps p.tables e below (s₁.setTop (mkF m 3 #[.val (.ref a1), .val (.ref a2), .val (.int (2 : Int32)), .val (.int (0 : Int32))] [(.int (2 : Int32))])) _
    refine XS.bipush X0.here hx rfl (hb hby d15_3) ?_
    exact k
  have pre162 : ∀ t, Steps p.tables e below (s₁.setTop (mkF m 49 #[.val (.ref a1), .val (.ref a2), .val (.int (2 : Int32)), .val (.int (0 : Int32))] [])) t → Steps p.tables e below (s₁.setTop (entryFrame m #[(.ref a1), (.ref a2), (.int (2 : Int32))] 4)) t := by
    intro t k
    refine pre160 _ ?_
    show Steps p.tables e below (s₁.setTop (mkF m 5 #[.val (.ref a1), .val (.ref a2), .val (.int (2 : Int32)), .val (.int (0 : Int32))] [(.int (7 : Int32)), (.int (2 : Int32))])) _
    refine XS.icmpYes X0.here hx rfl (pc0 := 5) (pc' := 49) rfl (hb hby d15_5) rfl (flt (by decide : ¬ ((7 : Int32) < (2 : Int32)))).2.2.2 (by decide) (by decide) ?_
    exact k
  have pre163 : ∀ t, Steps p.tables e below (s₁.setTop (mkF m 51 #[.val (.ref a1), .val (.ref a2), .val (.int (2 : Int32)), .val (.int (0 : Int32))] [(.int (2 : Int32)), (.int (0 : Int32))])) t → Steps p.tables e below (s₁.setTop (entryFrame m #[(.ref a1), (.ref a2), (.int (2 : Int32))] 4)) t := by
    intro t k
    refine pre162 _ ?_
    show Steps p.tables e below (s₁.setTop (mkF m 49 #[.val (.ref a1), .val (.ref a2), .val (.int (2 : Int32)), .val (.int (0 : Int32))] [])) _
    refine XS.iloadN X0.here hx rfl (hb hby d15_49) rfl ?_
    show Steps p.tables e below (s₁.setTop (mkF m 50 #[.val (.ref a1), .val (.ref a2), .val (.int (2 : Int32)), .val (.int (0 : Int32))] [(.int (0 : Int32))])) _
    refine XS.iloadN X0.here hx rfl (hb hby d15_50) rfl ?_
    exact k
  have pre165 : ∀ t, Steps p.tables e below (s₁.setTop (mkF m 54 #[.val (.ref a1), .val (.ref a2), .val (.int (2 : Int32)), .val (.int (0 : Int32))] [])) t → Steps p.tables e below (s₁.setTop (entryFrame m #[(.ref a1), (.ref a2), (.int (2 : Int32))] 4)) t := by
    intro t k
    refine pre163 _ ?_
    show Steps p.tables e below (s₁.setTop (mkF m 51 #[.val (.ref a1), .val (.ref a2), .val (.int (2 : Int32)), .val (.int (0 : Int32))] [(.int (2 : Int32)), (.int (0 : Int32))])) _
    refine XS.icmpNo X0.here hx rfl (hb hby d15_51) rfl (tlt (by decide : (0 : Int32) < (2 : Int32))).2.1 ?_
    exact k
  have pre166 : ∀ t, Steps p.tables e below (s₁.setTop (mkF m 60 #[.val (.ref a1), .val (.ref a2), .val (.int (2 : Int32)), .val (.int (0 : Int32))] [(.int x0), (.int x0)])) t → Steps p.tables e below (s₁.setTop (entryFrame m #[(.ref a1), (.ref a2), (.int (2 : Int32))] 4)) t := by
    intro t k
    refine pre165 _ ?_
    show Steps p.tables e below (s₁.setTop (mkF m 54 #[.val (.ref a1), .val (.ref a2), .val (.int (2 : Int32)), .val (.int (0 : Int32))] [])) _
    refine XS.aloadN X0.here hx rfl (hb hby d15_54) rfl rfl ?_
    show Steps p.tables e below (s₁.setTop (mkF m 55 #[.val (.ref a1), .val (.ref a2), .val (.int (2 : Int32)), .val (.int (0 : Int32))] [(.ref a1)])) _
    refine XS.iloadN X0.here hx rfl (hb hby d15_55) rfl ?_
    show Steps p.tables e below (s₁.setTop (mkF m 56 #[.val (.ref a1), .val (.ref a2), .val (.int (2 : Int32)), .val (.int (0 : Int32))] [(.int (0 : Int32)), (.ref a1)])) _
    refine X0.baloadBytes hx (j := (0 : Int32)) (v := (.int x0)) (by rw [e0]; exact Ar1.1) (State.isArrayOf_alike hZ.alike Ar1.2.1) Ar1.2.2 (inb_of S1 ⟨by decide, by decide⟩) (Has.at (v := (.int x0)) H1 (inb_of S1 ⟨by decide, by decide⟩) rfl) (g := (mkF m 56 #[.val (.ref a1), .val (.ref a2), .val (.int (2 : Int32)), .val (.int (0 : Int32))] [(.int (0 : Int32)), (.ref a1)])) rfl rfl (hb hby d15_56) _ ?_
    show Steps p.tables e below (s₁.setTop (mkF m 57 #[.val (.ref a1), .val (.ref a2), .val (.int (2 : Int32)), .val (.int (0 : Int32))] [(.int x0)])) _
    refine XS.aloadN X0.here hx rfl (hb hby d15_57) rfl rfl ?_
    show Steps p.tables e below (s₁.setTop (mkF m 58 #[.val (.ref a1), .val (.ref a2), .val (.int (2 : Int32)), .val (.int (0 : Int32))] [(.ref a2), (.int x0)])) _
    refine XS.iloadN X0.here hx rfl (hb hby d15_58) rfl ?_
    show Steps p.tables e below (s₁.setTop (mkF m 59 #[.val (.ref a1), .val (.ref a2), .val (.int (2 : Int32)), .val (.int (0 : Int32))] [(.int (0 : Int32)), (.ref a2), (.int x0)])) _
    refine X0.baloadBytes hx (j := (0 : Int32)) (v := (.int x0)) (by rw [e0]; exact Ar2.1) (State.isArrayOf_alike hZ.alike Ar2.2.1) Ar2.2.2 (inb_of S2 ⟨by decide, by decide⟩) (Has.at (v := (.int x0)) H2 (inb_of S2 ⟨by decide, by decide⟩) rfl) (g := (mkF m 59 #[.val (.ref a1), .val (.ref a2), .val (.int (2 : Int32)), .val (.int (0 : Int32))] [(.int (0 : Int32)), (.ref a2), (.int x0)])) rfl rfl (hb hby d15_59) _ ?_
    exact k
  have pre168 : ∀ t, Steps p.tables e below (s₁.setTop (mkF m 65 #[.val (.ref a1), .val (.ref a2), .val (.int (2 : Int32)), .val (.int (0 : Int32))] [])) t → Steps p.tables e below (s₁.setTop (entryFrame m #[(.ref a1), (.ref a2), (.int (2 : Int32))] 4)) t := by
    intro t k
    refine pre166 _ ?_
    show Steps p.tables e below (s₁.setTop (mkF m 60 #[.val (.ref a1), .val (.ref a2), .val (.int (2 : Int32)), .val (.int (0 : Int32))] [(.int x0), (.int x0)])) _
    refine XS.icmpYes X0.here hx rfl (pc0 := 60) (pc' := 65) rfl (hb hby d15_60) rfl (teq (rfl : x0 = x0)).1 (by decide) (by decide) ?_
    exact k
  have pre169 : ∀ t, Steps p.tables e below (s₁.setTop (mkF m 51 #[.val (.ref a1), .val (.ref a2), .val (.int (2 : Int32)), .val (.int (1 : Int32))] [(.int (2 : Int32)), (.int (1 : Int32))])) t → Steps p.tables e below (s₁.setTop (entryFrame m #[(.ref a1), (.ref a2), (.int (2 : Int32))] 4)) t := by
    intro t k
    refine pre168 _ ?_
    show Steps p.tables e below (s₁.setTop (mkF m 65 #[.val (.ref a1), .val (.ref a2), .val (.int (2 : Int32)), .val (.int (0 : Int32))] [])) _
    refine XS.iinc X0.here hx rfl (hb hby d15_65) rfl (l' := #[.val (.ref a1), .val (.ref a2), .val (.int (2 : Int32)), .val (.int (1 : Int32))]) rfl ?_
    show Steps p.tables e below (s₁.setTop (mkF m 68 #[.val (.ref a1), .val (.ref a2), .val (.int (2 : Int32)), .val (.int (1 : Int32))] [])) _
    refine XS.goto X0.here hx rfl (pc0 := 68) (pc' := 49) rfl (hb hby d15_68) (by decide) (by decide) ?_
    show Steps p.tables e below (s₁.setTop (mkF m 49 #[.val (.ref a1), .val (.ref a2), .val (.int (2 : Int32)), .val (.int (1 : Int32))] [])) _
    refine XS.iloadN X0.here hx rfl (hb hby d15_49) rfl ?_
    show Steps p.tables e below (s₁.setTop (mkF m 50 #[.val (.ref a1), .val (.ref a2), .val (.int (2 : Int32)), .val (.int (1 : Int32))] [(.int (1 : Int32))])) _
    refine XS.iloadN X0.here hx rfl (hb hby d15_50) rfl ?_
    exact k
  have pre171 : ∀ t, Steps p.tables e below (s₁.setTop (mkF m 54 #[.val (.ref a1), .val (.ref a2), .val (.int (2 : Int32)), .val (.int (1 : Int32))] [])) t → Steps p.tables e below (s₁.setTop (entryFrame m #[(.ref a1), (.ref a2), (.int (2 : Int32))] 4)) t := by
    intro t k
    refine pre169 _ ?_
    show Steps p.tables e below (s₁.setTop (mkF m 51 #[.val (.ref a1), .val (.ref a2), .val (.int (2 : Int32)), .val (.int (1 : Int32))] [(.int (2 : Int32)), (.int (1 : Int32))])) _
    refine XS.icmpNo X0.here hx rfl (hb hby d15_51) rfl (tlt (by decide : (1 : Int32) < (2 : Int32))).2.1 ?_
    exact k
  have pre172 : ∀ t, Steps p.tables e below (s₁.setTop (mkF m 60 #[.val (.ref a1), .val (.ref a2), .val (.int (2 : Int32)), .val (.int (1 : Int32))] [(.int x1), (.int x1)])) t → Steps p.tables e below (s₁.setTop (entryFrame m #[(.ref a1), (.ref a2), (.int (2 : Int32))] 4)) t := by
    intro t k
    refine pre171 _ ?_
    show Steps p.tables e below (s₁.setTop (mkF m 54 #[.val (.ref a1), .val (.ref a2), .val (.int (2 : Int32)), .val (.int (1 : Int32))] [])) _
    refine XS.aloadN X0.here hx rfl (hb hby d15_54) rfl rfl ?_
    show Steps p.tables e below (s₁.setTop (mkF m 55 #[.val (.ref a1), .val (.ref a2), .val (.int (2 : Int32)), .val (.int (1 : Int32))] [(.ref a1)])) _
    refine XS.iloadN X0.here hx rfl (hb hby d15_55) rfl ?_
    show Steps p.tables e below (s₁.setTop (mkF m 56 #[.val (.ref a1), .val (.ref a2), .val (.int (2 : Int32)), .val (.int (1 : Int32))] [(.int (1 : Int32)), (.ref a1)])) _
    refine X0.baloadBytes hx (j := (1 : Int32)) (v := (.int x1)) (by rw [e0]; exact Ar1.1) (State.isArrayOf_alike hZ.alike Ar1.2.1) Ar1.2.2 (inb_of S1 ⟨by decide, by decide⟩) (Has.at (v := (.int x1)) H1 (inb_of S1 ⟨by decide, by decide⟩) rfl) (g := (mkF m 56 #[.val (.ref a1), .val (.ref a2), .val (.int (2 : Int32)), .val (.int (1 : Int32))] [(.int (1 : Int32)), (.ref a1)])) rfl rfl (hb hby d15_56) _ ?_
    show Steps p.tables e below (s₁.setTop (mkF m 57 #[.val (.ref a1), .val (.ref a2), .val (.int (2 : Int32)), .val (.int (1 : Int32))] [(.int x1)])) _
    refine XS.aloadN X0.here hx rfl (hb hby d15_57) rfl rfl ?_
    show Steps p.tables e below (s₁.setTop (mkF m 58 #[.val (.ref a1), .val (.ref a2), .val (.int (2 : Int32)), .val (.int (1 : Int32))] [(.ref a2), (.int x1)])) _
    refine XS.iloadN X0.here hx rfl (hb hby d15_58) rfl ?_
    show Steps p.tables e below (s₁.setTop (mkF m 59 #[.val (.ref a1), .val (.ref a2), .val (.int (2 : Int32)), .val (.int (1 : Int32))] [(.int (1 : Int32)), (.ref a2), (.int x1)])) _
    refine X0.baloadBytes hx (j := (1 : Int32)) (v := (.int x1)) (by rw [e0]; exact Ar2.1) (State.isArrayOf_alike hZ.alike Ar2.2.1) Ar2.2.2 (inb_of S2 ⟨by decide, by decide⟩) (Has.at (v := (.int x1)) H2 (inb_of S2 ⟨by decide, by decide⟩) rfl) (g := (mkF m 59 #[.val (.ref a1), .val (.ref a2), .val (.int (2 : Int32)), .val (.int (1 : Int32))] [(.int (1 : Int32)), (.ref a2), (.int x1)])) rfl rfl (hb hby d15_59) _ ?_
    exact k
  have pre174 : ∀ t, Steps p.tables e below (s₁.setTop (mkF m 65 #[.val (.ref a1), .val (.ref a2), .val (.int (2 : Int32)), .val (.int (1 : Int32))] [])) t → Steps p.tables e below (s₁.setTop (entryFrame m #[(.ref a1), (.ref a2), (.int (2 : Int32))] 4)) t := by
    intro t k
    refine pre172 _ ?_
    show Steps p.tables e below (s₁.setTop (mkF m 60 #[.val (.ref a1), .val (.ref a2), .val (.int (2 : Int32)), .val (.int (1 : Int32))] [(.int x1), (.int x1)])) _
    refine XS.icmpYes X0.here hx rfl (pc0 := 60) (pc' := 65) rfl (hb hby d15_60) rfl (teq (rfl : x1 = x1)).1 (by decide) (by decide) ?_
    exact k
  have pre175 : ∀ t, Steps p.tables e below (s₁.setTop (mkF m 51 #[.val (.ref a1), .val (.ref a2), .val (.int (2 : Int32)), .val (.int (2 : Int32))] [(.int (2 : Int32)), (.int (2 : Int32))])) t → Steps p.tables e below (s₁.setTop (entryFrame m #[(.ref a1), (.ref a2), (.int (2 : Int32))] 4)) t := by
    intro t k
    refine pre174 _ ?_
    show Steps p.tables e below (s₁.setTop (mkF m 65 #[.val (.ref a1), .val (.ref a2), .val (.int (2 : Int32)), .val (.int (1 : Int32))] [])) _
    refine XS.iinc X0.here hx rfl (hb hby d15_65) rfl (l' := #[.val (.ref a1), .val (.ref a2), .val (.int (2 : Int32)), .val (.int (2 : Int32))]) rfl ?_
    show Steps p.tables e below (s₁.setTop (mkF m 68 #[.val (.ref a1), .val (.ref a2), .val (.int (2 : Int32)), .val (.int (2 : Int32))] [])) _
    refine XS.goto X0.here hx rfl (pc0 := 68) (pc' := 49) rfl (hb hby d15_68) (by decide) (by decide) ?_
    show Steps p.tables e below (s₁.setTop (mkF m 49 #[.val (.ref a1), .val (.ref a2), .val (.int (2 : Int32)), .val (.int (2 : Int32))] [])) _
    refine XS.iloadN X0.here hx rfl (hb hby d15_49) rfl ?_
    show Steps p.tables e below (s₁.setTop (mkF m 50 #[.val (.ref a1), .val (.ref a2), .val (.int (2 : Int32)), .val (.int (2 : Int32))] [(.int (2 : Int32))])) _
    refine XS.iloadN X0.here hx rfl (hb hby d15_50) rfl ?_
    exact k
  have pre177 : ∀ t, Steps p.tables e below (s₁.setTop (mkF m 71 #[.val (.ref a1), .val (.ref a2), .val (.int (2 : Int32)), .val (.int (2 : Int32))] [])) t → Steps p.tables e below (s₁.setTop (entryFrame m #[(.ref a1), (.ref a2), (.int (2 : Int32))] 4)) t := by
    intro t k
    refine pre175 _ ?_
    show Steps p.tables e below (s₁.setTop (mkF m 51 #[.val (.ref a1), .val (.ref a2), .val (.int (2 : Int32)), .val (.int (2 : Int32))] [(.int (2 : Int32)), (.int (2 : Int32))])) _
    refine XS.icmpYes X0.here hx rfl (pc0 := 51) (pc' := 71) rfl (hb hby d15_51) rfl (flt (by decide : ¬ ((2 : Int32) < (2 : Int32)))).2.1 (by decide) (by decide) ?_
    exact k
  have pre178 : ∀ t, Steps p.tables e below (s₁.setTop (mkF m 72 #[.val (.ref a1), .val (.ref a2), .val (.int (2 : Int32)), .val (.int (2 : Int32))] [(.int (-1 : Int32))])) t → Steps p.tables e below (s₁.setTop (entryFrame m #[(.ref a1), (.ref a2), (.int (2 : Int32))] 4)) t := by
    intro t k
    refine pre177 _ ?_
    show Steps p.tables e below (s₁.setTop (mkF m 71 #[.val (.ref a1), .val (.ref a2), .val (.int (2 : Int32)), .val (.int (2 : Int32))] [])) _
    refine Jvm.Free.XT.iconstV X0.here hx rfl (-1 : Int32) (hb hby d15_71) (by decide) ?_
    exact k
  obtain ⟨fs, hr, hrun, hended, hW, hsame⟩ := X0.leave (v := some (.int (-1 : Int32))) (fun h => by rw [hret] at h; cases h) (hlocks := hlocks)
  refine ⟨_, _, pre178 _ ?_, hrun, hended, _, _, rfl, ?_, ⟨_, rfl⟩, hW, hsame.mono (by decide) (by decide)⟩
  · show Steps p.tables e below (s₁.setTop (mkF m 72 #[.val (.ref a1), .val (.ref a2), .val (.int (2 : Int32)), .val (.int (2 : Int32))] [(.int (-1 : Int32))])) _
    exact retI X0 hx hret (hb hby d15_72) hr
  · show Q152 Z a1 a2 k1 k2 x0 x1 h0 n0 _ s₁.heap _
    rw [e0]
    exact ⟨rfl, N0, rfl⟩
theorem ef_142 (m : MethodId) (x0 : Addr) (x1 : Addr) : entryFrame m #[(.ref x0), (.ref x1)] 3 = mkF m 0 #[.val (.ref x0), .val (.ref x1), .unset] [] := by first | (simp [entryFrame, mkF, argsToLocals, Value.category]; done) | rfl
def Q142 (Z : State) (a1 : Addr) (a2 : Addr) (k1 : ClassId) (k2 : ClassId) (x0 : Int32) (x1 : Int32) (h0 : Heap) (n0 : Nat) (v : Option Value) (h : Heap) (L : List Loc) : Prop := v = some (.int (1 : Int32)) ∧ Fr n0 L ∧ h = h0
set_option maxRecDepth 65536 in
set_option maxHeartbeats 40000000 in
theorem rm142 (l : Launch) (Z : State) (a0 : Array Value) (hw : ∀ d ∈ tables_1, d.before a0 Z = true) (ws : List Jvm.Cond) (a1 : Addr) (a2 : Addr) (k1 : ClassId) (k2 : ClassId) (x0 : Int32) (x1 : Int32) (h0 : Heap) (n0 : Nat) (Z0 : n0 ≤ h0.size) (A1 : Arv Z h0 a1 k1 .byte (2 : Int32) [(.int x0), (.int x1)] (.int (0 : Int32))) (A2 : Arv Z h0 a2 k2 .byte (2 : Int32) [(.int x0), (.int x1)] (.int (0 : Int32))) :
    MetFree l (⟨"java/util/Arrays", "equals", "([B[B)Z"⟩ : MethodName) (head1 (Jvm.Cond.code (⟨"java/util/Arrays", "equals", "([B[B)Z"⟩ : MethodName) jdk_65_method_89_code 3 (some .boolean) :: ws) ({ frames := 1, cells := 0, slots := 0, locals := 15 } : Room)) (fun a U => a = #[(.ref a1), (.ref a2)] ∧ Z.Warmed39 U.vm ∧ U.heap = h0) (fun _ _ _ _ _ => True) (fun _ U o U' => ∃ v L, o = .returned v ∧ Q142 Z a1 a2 k1 k2 x0 x1 h0 n0 v U'.heap L ∧ FrameEnd U o U' L ({ frames := 1, cells := 0, slots := 0, locals := 15 } : Room).cells ({ frames := 1, cells := 0, slots := 0, locals := 15 } : Room).slots) := by
  refine MetFree.of_bodySF (plainFor_of_name pn_14) hisR ?_
  intro p e s m args below meth c s₁ Bd hml0 hP hK
  obtain ⟨rfl, hZ, hh⟩ := hP
  have hx := Bd.exec
  have hby := Bd.bytes
  have hml : c.maxLocals = 3 := hml0
  have hown : s.vm.findClass "java/util/Arrays" = some m.cls := findClass_of_methodNamed Bd.named
  have hnm := (name_of_methodNamed Bd.named Bd.method).1
  have hret := Bd.returns
  have hlocks : meth.locks = false := Bd.notSynchronized
  have X0 : Stand p l e ({ frames := 1, cells := 0, slots := 0, locals := 15 } : Room) s m #[(.ref a1), (.ref a2)] below meth c s₁ [] 0 0 := Stand.of_body Bd
  have e0 : s₁.heap = h0 := by rw [← hh, Bd.state]; rfl
  have N0 := Fr.nil n0
  obtain ⟨cl1, Ar1, _, S1, N_1, H1, _⟩ := id A1
  obtain ⟨cl2, Ar2, _, S2, N_2, H2, _⟩ := id A2
  have pre0 : ∀ t, Steps p.tables e below (s₁.setTop (mkF m 0 #[.val (.ref a1), .val (.ref a2), .unset] [])) t → Steps p.tables e below (s₁.setTop (entryFrame m #[(.ref a1), (.ref a2)] 3)) t := fun t k => castTop (ef_142 m a1 a2) k
  have pre179 : ∀ t, Steps p.tables e below (s₁.setTop (mkF m 2 #[.val (.ref a1), .val (.ref a2), .unset] [(.ref a2), (.ref a1)])) t → Steps p.tables e below (s₁.setTop (entryFrame m #[(.ref a1), (.ref a2)] 3)) t := by
    intro t k
    refine pre0 _ ?_
    show Steps p.tables e below (s₁.setTop (mkF m 0 #[.val (.ref a1), .val (.ref a2), .unset] [])) _
    refine XS.aloadN X0.here hx rfl (hb hby d14_0) rfl rfl ?_
    show Steps p.tables e below (s₁.setTop (mkF m 1 #[.val (.ref a1), .val (.ref a2), .unset] [(.ref a1)])) _
    refine XS.aloadN X0.here hx rfl (hb hby d14_1) rfl rfl ?_
    exact k
  by_cases ha180 : a1 = a2
  · have pre181 : ∀ t, Steps p.tables e below (s₁.setTop (mkF m 5 #[.val (.ref a1), .val (.ref a2), .unset] [])) t → Steps p.tables e below (s₁.setTop (entryFrame m #[(.ref a1), (.ref a2)] 3)) t := by
      intro t k
      refine pre179 _ ?_
      show Steps p.tables e below (s₁.setTop (mkF m 2 #[.val (.ref a1), .val (.ref a2), .unset] [(.ref a2), (.ref a1)])) _
      refine Jvm.RoadKit.acmp (g := (mkF m 2 #[.val (.ref a1), .val (.ref a2), .unset] [(.ref a2), (.ref a1)])) X0 hx rfl rfl rfl (pc0 := 2) (pc' := 5) (same := true) rfl (hb hby d14_2) rfl (decide_eq_true (congrArg Value.ref ha180)) (by decide) (by decide) ?_
      exact k
    have pre182 : ∀ t, Steps p.tables e below (s₁.setTop (mkF m 6 #[.val (.ref a1), .val (.ref a2), .unset] [(.int (1 : Int32))])) t → Steps p.tables e below (s₁.setTop (entryFrame m #[(.ref a1), (.ref a2)] 3)) t := by
      intro t k
      refine pre181 _ ?_
      show Steps p.tables e below (s₁.setTop (mkF m 5 #[.val (.ref a1), .val (.ref a2), .unset] [])) _
      refine XS.iconst X0.here hx rfl (hb hby d14_5) ?_
      exact k
    obtain ⟨fs, hr, hrun, hended, hW, hsame⟩ := X0.leave (v := some (.int (1 : Int32))) (fun h => by rw [hret] at h; cases h) (hlocks := hlocks)
    refine ⟨_, _, pre182 _ ?_, hrun, hended, _, _, rfl, ?_, ⟨_, rfl⟩, hW, hsame.mono (by decide) (by decide)⟩
    · show Steps p.tables e below (s₁.setTop (mkF m 6 #[.val (.ref a1), .val (.ref a2), .unset] [(.int (1 : Int32))])) _
      exact retN X0 hx (t := .boolean) hret (by simp) (hb hby d14_6) hr
    · show Q142 Z a1 a2 k1 k2 x0 x1 h0 n0 _ s₁.heap _
      rw [e0]
      exact ⟨rfl, N0, rfl⟩
  · have pre183 : ∀ t, Steps p.tables e below (s₁.setTop (mkF m 7 #[.val (.ref a1), .val (.ref a2), .unset] [])) t → Steps p.tables e below (s₁.setTop (entryFrame m #[(.ref a1), (.ref a2)] 3)) t := by
      intro t k
      refine pre179 _ ?_
      show Steps p.tables e below (s₁.setTop (mkF m 2 #[.val (.ref a1), .val (.ref a2), .unset] [(.ref a2), (.ref a1)])) _
      refine Jvm.RoadKit.acmp (g := (mkF m 2 #[.val (.ref a1), .val (.ref a2), .unset] [(.ref a2), (.ref a1)])) X0 hx rfl rfl rfl (pc0 := 2) (pc' := 7) (same := false) rfl (hb hby d14_2) rfl (decide_eq_false fun q => ha180 (Value.ref.inj q)) (by decide) (by decide) ?_
      exact k
    have pre184 : ∀ t, Steps p.tables e below (s₁.setTop (mkF m 23 #[.val (.ref a1), .val (.ref a2), .val (.int (2 : Int32))] [(.int (2 : Int32)), (.int (2 : Int32))])) t → Steps p.tables e below (s₁.setTop (entryFrame m #[(.ref a1), (.ref a2)] 3)) t := by
      intro t k
      refine pre183 _ ?_
      show Steps p.tables e below (s₁.setTop (mkF m 7 #[.val (.ref a1), .val (.ref a2), .unset] [])) _
      refine XS.aloadN X0.here hx rfl (hb hby d14_7) rfl rfl ?_
      show Steps p.tables e below (s₁.setTop (mkF m 8 #[.val (.ref a1), .val (.ref a2), .unset] [(.ref a1)])) _
      refine XS.ifnullNo X0.here hx rfl (hb hby d14_8) rfl ?_
      show Steps p.tables e below (s₁.setTop (mkF m 11 #[.val (.ref a1), .val (.ref a2), .unset] [])) _
      refine XS.aloadN X0.here hx rfl (hb hby d14_11) rfl rfl ?_
      show Steps p.tables e below (s₁.setTop (mkF m 12 #[.val (.ref a1), .val (.ref a2), .unset] [(.ref a2)])) _
      refine XS.ifnonnullYes X0.here hx rfl (pc0 := 12) (pc' := 17) rfl (hb hby d14_12) rfl (by decide) (by decide) ?_
      show Steps p.tables e below (s₁.setTop (mkF m 17 #[.val (.ref a1), .val (.ref a2), .unset] [])) _
      refine XS.aloadN X0.here hx rfl (hb hby d14_17) rfl rfl ?_
      show Steps p.tables e below (s₁.setTop (mkF m 18 #[.val (.ref a1), .val (.ref a2), .unset] [(.ref a1)])) _
      refine X0.arraylength hx (by rw [e0]; exact Ar1.1) (State.isArrayOf_alike hZ.alike Ar1.2.1) (g := (mkF m 18 #[.val (.ref a1), .val (.ref a2), .unset] [(.ref a1)])) rfl rfl (hb hby d14_18) _ ?_
      rw [len_of S1 N_1]
      show Steps p.tables e below (s₁.setTop (mkF m 19 #[.val (.ref a1), .val (.ref a2), .unset] [(.int (2 : Int32))])) _
      refine XS.istoreN X0.here hx rfl (hb hby d14_19) rfl (l' := #[.val (.ref a1), .val (.ref a2), .val (.int (2 : Int32))]) rfl ?_
      show Steps p.tables e below (s₁.setTop (mkF m 20 #[.val (.ref a1), .val (.ref a2), .val (.int (2 : Int32))] [])) _
      refine XS.aloadN X0.here hx rfl (hb hby d14_20) rfl rfl ?_
      show Steps p.tables e below (s₁.setTop (mkF m 21 #[.val (.ref a1), .val (.ref a2), .val (.int (2 : Int32))] [(.ref a2)])) _
      refine X0.arraylength hx (by rw [e0]; exact Ar2.1) (State.isArrayOf_alike hZ.alike Ar2.2.1) (g := (mkF m 21 #[.val (.ref a1), .val (.ref a2), .val (.int (2 : Int32))] [(.ref a2)])) rfl rfl (hb hby d14_21) _ ?_
      rw [len_of S2 N_2]
      show Steps p.tables e below (s₁.setTop (mkF m 22 #[.val (.ref a1), .val (.ref a2), .val (.int (2 : Int32))] [(.int (2 : Int32))])) _
      refine XS.iloadN X0.here hx rfl (hb hby d14_22) rfl ?_
      exact k
    have pre186 : ∀ t, Steps p.tables e below (s₁.setTop (mkF m 28 #[.val (.ref a1), .val (.ref a2), .val (.int (2 : Int32))] [])) t → Steps p.tables e below (s₁.setTop (entryFrame m #[(.ref a1), (.ref a2)] 3)) t := by
      intro t k
      refine pre184 _ ?_
      show Steps p.tables e below (s₁.setTop (mkF m 23 #[.val (.ref a1), .val (.ref a2), .val (.int (2 : Int32))] [(.int (2 : Int32)), (.int (2 : Int32))])) _
      refine XS.icmpYes X0.here hx rfl (pc0 := 23) (pc' := 28) rfl (hb hby d14_23) rfl (teq (rfl : (2 : Int32) = (2 : Int32))).1 (by decide) (by decide) ?_
      exact k
    have pre187 : ∀ t, Steps p.tables e below (s₁.setTop (mkF m 31 #[.val (.ref a1), .val (.ref a2), .val (.int (2 : Int32))] [(.int (2 : Int32)), (.ref a2), (.ref a1)])) t → Steps p.tables e below (s₁.setTop (entryFrame m #[(.ref a1), (.ref a2)] 3)) t := by
      intro t k
      refine pre186 _ ?_
      show Steps p.tables e below (s₁.setTop (mkF m 28 #[.val (.ref a1), .val (.ref a2), .val (.int (2 : Int32))] [])) _
      refine XS.aloadN X0.here hx rfl (hb hby d14_28) rfl rfl ?_
      show Steps p.tables e below (s₁.setTop (mkF m 29 #[.val (.ref a1), .val (.ref a2), .val (.int (2 : Int32))] [(.ref a1)])) _
      refine XS.aloadN X0.here hx rfl (hb hby d14_29) rfl rfl ?_
      show Steps p.tables e below (s₁.setTop (mkF m 30 #[.val (.ref a1), .val (.ref a2), .val (.int (2 : Int32))] [(.ref a2), (.ref a1)])) _
      refine XS.iloadN X0.here hx rfl (hb hby d14_30) rfl ?_
      exact k
    obtain ⟨_, _, ⟨T188, L188, k188, n188⟩, -, X188, ⟨Lc188, hQ188, l188, y188, z188⟩, st188⟩ := Jvm.LawKit.callS X0 hx (y := (⟨"jdk/internal/util/ArraysSupport", "mismatch", "([B[BI)I"⟩ : MethodName)) hown (mvT hZ (hw _ (List.mem_of_getElem? (i := 88) rfl))) (mvT hZ (hw _ (List.mem_of_getElem? (i := 89) rfl))) (mvT hZ (hw _ (List.mem_of_getElem? (i := 90) rfl))) (mvT hZ (hw _ (List.mem_of_getElem? (i := 91) rfl))) (by decide) (backOf (W := 0) (rm152 l Z a0 hw [] a1 a2 k1 k2 x0 x1 h0 n0 Z0 A1 A2) hZ (hw _ (List.mem_of_getElem? (i := 91) rfl)) (hw _ (List.mem_of_getElem? (i := 90) rfl)) (by decide) (by decide)) (g := (mkF m 31 #[.val (.ref a1), .val (.ref a2), .val (.int (2 : Int32))] [(.int (2 : Int32)), (.ref a2), (.ref a1)])) rfl (by rw [hml]; rfl) (argsL := [(.ref a1), (.ref a2), (.int (2 : Int32))]) (rest := []) (lenOf pd___B_BI_I rfl) rfl (by show 2 * 0 + _ ≤ _; exact Nat.le_of_eq rfl) (hb hby d14_31) (fun _ _ => ⟨rfl, e0, (by decide : 0 + 0 ≤ _), (by decide : 0 + 0 ≤ _)⟩)
    dsimp only [Pt.U, Pt.locs, Pt.cells, Pt.slots] at X188 l188 y188 z188 st188 hQ188
    subst l188 y188 z188
    obtain ⟨rfl, N188q, e188⟩ := hQ188
    have N188 := Fr.app N0 N188q
    have pre189 : ∀ t, Steps p.tables e below (T188.setTop (mkF m 34 #[.val (.ref a1), .val (.ref a2), .val (.int (2 : Int32))] [(.int (-1 : Int32))])) t → Steps p.tables e below (s₁.setTop (entryFrame m #[(.ref a1), (.ref a2)] 3)) t := by
      intro t k
      refine pre187 _ ?_
      show Steps p.tables e below (s₁.setTop (mkF m 31 #[.val (.ref a1), .val (.ref a2), .val (.int (2 : Int32))] [(.int (2 : Int32)), (.ref a2), (.ref a1)])) _
      refine st188 _ ?_
      exact k
    have pre191 : ∀ t, Steps p.tables e below (T188.setTop (mkF m 37 #[.val (.ref a1), .val (.ref a2), .val (.int (2 : Int32))] [])) t → Steps p.tables e below (s₁.setTop (entryFrame m #[(.ref a1), (.ref a2)] 3)) t := by
      intro t k
      refine pre189 _ ?_
      show Steps p.tables e below (T188.setTop (mkF m 34 #[.val (.ref a1), .val (.ref a2), .val (.int (2 : Int32))] [(.int (-1 : Int32))])) _
      refine XS.ifNo X188.here hx rfl (hb hby d14_34) rfl ((if0 _ _).trans (tlt (by decide : (-1 : Int32) < (0 : Int32))).2.1) ?_
      exact k
    have pre192 : ∀ t, Steps p.tables e below (T188.setTop (mkF m 42 #[.val (.ref a1), .val (.ref a2), .val (.int (2 : Int32))] [(.int (1 : Int32))])) t → Steps p.tables e below (s₁.setTop (entryFrame m #[(.ref a1), (.ref a2)] 3)) t := by
      intro t k
      refine pre191 _ ?_
      show Steps p.tables e below (T188.setTop (mkF m 37 #[.val (.ref a1), .val (.ref a2), .val (.int (2 : Int32))] [])) _
      refine XS.iconst X188.here hx rfl (hb hby d14_37) ?_
      show Steps p.tables e below (T188.setTop (mkF m 38 #[.val (.ref a1), .val (.ref a2), .val (.int (2 : Int32))] [(.int (1 : Int32))])) _
      refine XS.goto X188.here hx rfl (pc0 := 38) (pc' := 42) rfl (hb hby d14_38) (by decide) (by decide) ?_
      exact k
    obtain ⟨fs, hr, hrun, hended, hW, hsame⟩ := X188.leave (v := some (.int (1 : Int32))) (fun h => by rw [hret] at h; cases h) (hlocks := hlocks)
    refine ⟨_, _, pre192 _ ?_, hrun, hended, _, _, rfl, ?_, ⟨_, rfl⟩, hW, hsame.mono (by decide) (by decide)⟩
    · show Steps p.tables e below (T188.setTop (mkF m 42 #[.val (.ref a1), .val (.ref a2), .val (.int (2 : Int32))] [(.int (1 : Int32))])) _
      exact retN X188 hx (t := .boolean) hret (by simp) (hb hby d14_42) hr
    · show Q142 Z a1 a2 k1 k2 x0 x1 h0 n0 _ T188.heap _
      rw [e188]
      exact ⟨rfl, N188, rfl⟩
theorem ef_132 (m : MethodId) (x0 : Addr) (x1 : Addr) : entryFrame m #[(.ref x0), (.ref x1)] 3 = mkF m 0 #[.val (.ref x0), .val (.ref x1), .unset] [] := by first | (simp [entryFrame, mkF, argsToLocals, Value.category]; done) | rfl
def Q132 (Z : State) (a1 : Addr) (a2 : Addr) (f1 : Int32) (d1 : Addr) (d2 : Addr) (k1 : ClassId) (k2 : ClassId) (x0 : Int32) (x1 : Int32) (h0 : Heap) (n0 : Nat) (v : Option Value) (h : Heap) (L : List Loc) : Prop := v = some (.int (1 : Int32)) ∧ Fr n0 L ∧ h = h0
set_option maxRecDepth 65536 in
set_option maxHeartbeats 40000000 in
theorem rm132 (l : Launch) (Z : State) (a0 : Array Value) (hw : ∀ d ∈ tables_1, d.before a0 Z = true) (ws : List Jvm.Cond) (a1 : Addr) (a2 : Addr) (f1 : Int32) (d1 : Addr) (d2 : Addr) (k1 : ClassId) (k2 : ClassId) (x0 : Int32) (x1 : Int32) (h0 : Heap) (n0 : Nat) (Z0 : n0 ≤ h0.size) (E_a2 : Exa Z h0 a2 "com/example/message_buffer/messagebuffer/model/Message") (S1 : Fld Z h0 a1 "com/example/message_buffer/messagebuffer/model/Message" "source" "Lcom/example/message_buffer/messagebuffer/model/Message$Source;" .null) (G1 : Fld Z h0 a1 "com/example/message_buffer/messagebuffer/model/Message" "flags" "I" (.int f1)) (G2 : Fld Z h0 a2 "com/example/message_buffer/messagebuffer/model/Message" "flags" "I" (.int f1)) (D1 : Fld Z h0 a1 "com/example/message_buffer/messagebuffer/model/Message" "data" "[B" (.ref d1)) (D2 : Fld Z h0 a2 "com/example/message_buffer/messagebuffer/model/Message" "data" "[B" (.ref d2)) (A1 : Arv Z h0 d1 k1 .byte (2 : Int32) [(.int x0), (.int x1)] (.int (0 : Int32))) (A2 : Arv Z h0 d2 k2 .byte (2 : Int32) [(.int x0), (.int x1)] (.int (0 : Int32))) :
    MetFree l (⟨"com/example/message_buffer/messagebuffer/model/Message", "equals", "(Ljava/lang/Object;)Z"⟩ : MethodName) (head1 (Jvm.Cond.code (⟨"com/example/message_buffer/messagebuffer/model/Message", "equals", "(Ljava/lang/Object;)Z"⟩ : MethodName) prog_14_method_17_code 3 (some .boolean) :: ws) ({ frames := 2, cells := 0, slots := 0, locals := 29 } : Room)) (fun a U => a = #[(.ref a1), (.ref a2)] ∧ Z.Warmed39 U.vm ∧ U.heap = h0) (fun _ _ _ _ _ => True) (fun _ U o U' => ∃ v L, o = .returned v ∧ Q132 Z a1 a2 f1 d1 d2 k1 k2 x0 x1 h0 n0 v U'.heap L ∧ FrameEnd U o U' L ({ frames := 2, cells := 0, slots := 0, locals := 29 } : Room).cells ({ frames := 2, cells := 0, slots := 0, locals := 29 } : Room).slots) := by
  refine MetFree.of_bodySF (plainFor_of_name pn_3) hisR ?_
  intro p e s m args below meth c s₁ Bd hml0 hP hK
  obtain ⟨rfl, hZ, hh⟩ := hP
  have hx := Bd.exec
  have hby := Bd.bytes
  have hml : c.maxLocals = 3 := hml0
  have hown : s.vm.findClass "com/example/message_buffer/messagebuffer/model/Message" = some m.cls := findClass_of_methodNamed Bd.named
  have hnm := (name_of_methodNamed Bd.named Bd.method).1
  have hret := Bd.returns
  have hlocks : meth.locks = false := Bd.notSynchronized
  have X0 : Stand p l e ({ frames := 2, cells := 0, slots := 0, locals := 29 } : Room) s m #[(.ref a1), (.ref a2)] below meth c s₁ [] 0 0 := Stand.of_body Bd
  have e0 : s₁.heap = h0 := by rw [← hh, Bd.state]; rfl
  have N0 := Fr.nil n0
  have pre0 : ∀ t, Steps p.tables e below (s₁.setTop (mkF m 0 #[.val (.ref a1), .val (.ref a2), .unset] [])) t → Steps p.tables e below (s₁.setTop (entryFrame m #[(.ref a1), (.ref a2)] 3)) t := fun t k => castTop (ef_132 m a1 a2) k
  have pre193 : ∀ t, Steps p.tables e below (s₁.setTop (mkF m 1 #[.val (.ref a1), .val (.ref a2), .unset] [(.ref a1)])) t → Steps p.tables e below (s₁.setTop (entryFrame m #[(.ref a1), (.ref a2)] 3)) t := by
    intro t k
    refine pre0 _ ?_
    show Steps p.tables e below (s₁.setTop (mkF m 0 #[.val (.ref a1), .val (.ref a2), .unset] [])) _
    refine XS.aloadN X0.here hx rfl (hb hby d13_0) rfl rfl ?_
    exact k
  obtain ⟨T194, X194, e194, st194⟩ := getF X0 hx hZ hown (host := "") (Or.inl (hw _ (List.mem_of_getElem? (i := 33) rfl))) Via.refl e0 S1 (g := (mkF m 1 #[.val (.ref a1), .val (.ref a2), .unset] [(.ref a1)])) rfl rfl (hb hby d13_1)
  have pre195 : ∀ t, Steps p.tables e below (T194.setTop (mkF m 4 #[.val (.ref a1), .val (.ref a2), .unset] [.null])) t → Steps p.tables e below (s₁.setTop (entryFrame m #[(.ref a1), (.ref a2)] 3)) t := by
    intro t k
    refine pre193 _ ?_
    show Steps p.tables e below (s₁.setTop (mkF m 1 #[.val (.ref a1), .val (.ref a2), .unset] [(.ref a1)])) _
    refine st194 _ ?_
    exact k
  have pre196 : ∀ t, Steps p.tables e below (T194.setTop (mkF m 19 #[.val (.ref a1), .val (.ref a2), .unset] [(.ref a2)])) t → Steps p.tables e below (s₁.setTop (entryFrame m #[(.ref a1), (.ref a2)] 3)) t := by
    intro t k
    refine pre195 _ ?_
    show Steps p.tables e below (T194.setTop (mkF m 4 #[.val (.ref a1), .val (.ref a2), .unset] [.null])) _
    refine XS.ifnullYes X194.here hx rfl (pc0 := 4) (pc' := 18) rfl (hb hby d13_4) rfl (by decide) (by decide) ?_
    show Steps p.tables e below (T194.setTop (mkF m 18 #[.val (.ref a1), .val (.ref a2), .unset] [])) _
    refine XS.aloadN X194.here hx rfl (hb hby d13_18) rfl rfl ?_
    exact k
  obtain ⟨T197, X197, e197, st197⟩ := instY X194 hx hZ hown (hw _ (List.mem_of_getElem? (i := 17) rfl)) e194 (Ins.self E_a2) (g := (mkF m 19 #[.val (.ref a1), .val (.ref a2), .unset] [(.ref a2)])) rfl rfl (hb hby d13_19)
  have pre198 : ∀ t, Steps p.tables e below (T197.setTop (mkF m 22 #[.val (.ref a1), .val (.ref a2), .unset] [(.int (1 : Int32))])) t → Steps p.tables e below (s₁.setTop (entryFrame m #[(.ref a1), (.ref a2)] 3)) t := by
    intro t k
    refine pre196 _ ?_
    show Steps p.tables e below (T194.setTop (mkF m 19 #[.val (.ref a1), .val (.ref a2), .unset] [(.ref a2)])) _
    refine st197 _ ?_
    exact k
  have pre200 : ∀ t, Steps p.tables e below (T197.setTop (mkF m 25 #[.val (.ref a1), .val (.ref a2), .unset] [])) t → Steps p.tables e below (s₁.setTop (entryFrame m #[(.ref a1), (.ref a2)] 3)) t := by
    intro t k
    refine pre198 _ ?_
    show Steps p.tables e below (T197.setTop (mkF m 22 #[.val (.ref a1), .val (.ref a2), .unset] [(.int (1 : Int32))])) _
    refine XS.ifNo X197.here hx rfl (hb hby d13_22) rfl ((if0 _ _).trans (feq (by decide : ¬ ((1 : Int32) = (0 : Int32)))).1) ?_
    exact k
  have pre201 : ∀ t, Steps p.tables e below (T197.setTop (mkF m 26 #[.val (.ref a1), .val (.ref a2), .unset] [(.ref a2)])) t → Steps p.tables e below (s₁.setTop (entryFrame m #[(.ref a1), (.ref a2)] 3)) t := by
    intro t k
    refine pre200 _ ?_
    show Steps p.tables e below (T197.setTop (mkF m 25 #[.val (.ref a1), .val (.ref a2), .unset] [])) _
    refine XS.aloadN X197.here hx rfl (hb hby d13_25) rfl rfl ?_
    exact k
  obtain ⟨T202, X202, e202, st202⟩ := castY X197 hx hZ hown (hw _ (List.mem_of_getElem? (i := 17) rfl)) e197 (Ins.self E_a2) (g := (mkF m 26 #[.val (.ref a1), .val (.ref a2), .unset] [(.ref a2)])) rfl rfl (hb hby d13_26)
  have pre203 : ∀ t, Steps p.tables e below (T202.setTop (mkF m 29 #[.val (.ref a1), .val (.ref a2), .unset] [(.ref a2)])) t → Steps p.tables e below (s₁.setTop (entryFrame m #[(.ref a1), (.ref a2)] 3)) t := by
    intro t k
    refine pre201 _ ?_
    show Steps p.tables e below (T197.setTop (mkF m 26 #[.val (.ref a1), .val (.ref a2), .unset] [(.ref a2)])) _
    refine st202 _ ?_
    exact k
  have pre204 : ∀ t, Steps p.tables e below (T202.setTop (mkF m 31 #[.val (.ref a1), .val (.ref a2), .val (.ref a2)] [(.ref a1)])) t → Steps p.tables e below (s₁.setTop (entryFrame m #[(.ref a1), (.ref a2)] 3)) t := by
    intro t k
    refine pre203 _ ?_
    show Steps p.tables e below (T202.setTop (mkF m 29 #[.val (.ref a1), .val (.ref a2), .unset] [(.ref a2)])) _
    refine XS.astoreN X202.here hx rfl (hb hby d13_29) rfl rfl (l' := #[.val (.ref a1), .val (.ref a2), .val (.ref a2)]) rfl ?_
    show Steps p.tables e below (T202.setTop (mkF m 30 #[.val (.ref a1), .val (.ref a2), .val (.ref a2)] [])) _
    refine XS.aloadN X202.here hx rfl (hb hby d13_30) rfl rfl ?_
    exact k
  obtain ⟨T205, X205, e205, st205⟩ := getF X202 hx hZ hown (host := "") (Or.inl (hw _ (List.mem_of_getElem? (i := 29) rfl))) Via.refl e202 G1 (g := (mkF m 31 #[.val (.ref a1), .val (.ref a2), .val (.ref a2)] [(.ref a1)])) rfl rfl (hb hby d13_31)
  have pre206 : ∀ t, Steps p.tables e below (T205.setTop (mkF m 34 #[.val (.ref a1), .val (.ref a2), .val (.ref a2)] [(.int f1)])) t → Steps p.tables e below (s₁.setTop (entryFrame m #[(.ref a1), (.ref a2)] 3)) t := by
    intro t k
    refine pre204 _ ?_
    show Steps p.tables e below (T202.setTop (mkF m 31 #[.val (.ref a1), .val (.ref a2), .val (.ref a2)] [(.ref a1)])) _
    refine st205 _ ?_
    exact k
  have pre207 : ∀ t, Steps p.tables e below (T205.setTop (mkF m 35 #[.val (.ref a1), .val (.ref a2), .val (.ref a2)] [(.ref a2), (.int f1)])) t → Steps p.tables e below (s₁.setTop (entryFrame m #[(.ref a1), (.ref a2)] 3)) t := by
    intro t k
    refine pre206 _ ?_
    show Steps p.tables e below (T205.setTop (mkF m 34 #[.val (.ref a1), .val (.ref a2), .val (.ref a2)] [(.int f1)])) _
    refine XS.aloadN X205.here hx rfl (hb hby d13_34) rfl rfl ?_
    exact k
  obtain ⟨T208, X208, e208, st208⟩ := getF X205 hx hZ hown (host := "") (Or.inl (hw _ (List.mem_of_getElem? (i := 29) rfl))) Via.refl e205 G2 (g := (mkF m 35 #[.val (.ref a1), .val (.ref a2), .val (.ref a2)] [(.ref a2), (.int f1)])) rfl rfl (hb hby d13_35)
  have pre209 : ∀ t, Steps p.tables e below (T208.setTop (mkF m 38 #[.val (.ref a1), .val (.ref a2), .val (.ref a2)] [(.int f1), (.int f1)])) t → Steps p.tables e below (s₁.setTop (entryFrame m #[(.ref a1), (.ref a2)] 3)) t := by
    intro t k
    refine pre207 _ ?_
    show Steps p.tables e below (T205.setTop (mkF m 35 #[.val (.ref a1), .val (.ref a2), .val (.ref a2)] [(.ref a2), (.int f1)])) _
    refine st208 _ ?_
    exact k
  have pre211 : ∀ t, Steps p.tables e below (T208.setTop (mkF m 41 #[.val (.ref a1), .val (.ref a2), .val (.ref a2)] [])) t → Steps p.tables e below (s₁.setTop (entryFrame m #[(.ref a1), (.ref a2)] 3)) t := by
    intro t k
    refine pre209 _ ?_
    show Steps p.tables e below (T208.setTop (mkF m 38 #[.val (.ref a1), .val (.ref a2), .val (.ref a2)] [(.int f1), (.int f1)])) _
    refine XS.icmpNo X208.here hx rfl (hb hby d13_38) rfl (teq (rfl : f1 = f1)).2 ?_
    exact k
  have pre212 : ∀ t, Steps p.tables e below (T208.setTop (mkF m 42 #[.val (.ref a1), .val (.ref a2), .val (.ref a2)] [(.ref a1)])) t → Steps p.tables e below (s₁.setTop (entryFrame m #[(.ref a1), (.ref a2)] 3)) t := by
    intro t k
    refine pre211 _ ?_
    show Steps p.tables e below (T208.setTop (mkF m 41 #[.val (.ref a1), .val (.ref a2), .val (.ref a2)] [])) _
    refine XS.aloadN X208.here hx rfl (hb hby d13_41) rfl rfl ?_
    exact k
  obtain ⟨T213, X213, e213, st213⟩ := getF X208 hx hZ hown (host := "") (Or.inl (hw _ (List.mem_of_getElem? (i := 31) rfl))) Via.refl e208 D1 (g := (mkF m 42 #[.val (.ref a1), .val (.ref a2), .val (.ref a2)] [(.ref a1)])) rfl rfl (hb hby d13_42)
  have pre214 : ∀ t, Steps p.tables e below (T213.setTop (mkF m 45 #[.val (.ref a1), .val (.ref a2), .val (.ref a2)] [(.ref d1)])) t → Steps p.tables e below (s₁.setTop (entryFrame m #[(.ref a1), (.ref a2)] 3)) t := by
    intro t k
    refine pre212 _ ?_
    show Steps p.tables e below (T208.setTop (mkF m 42 #[.val (.ref a1), .val (.ref a2), .val (.ref a2)] [(.ref a1)])) _
    refine st213 _ ?_
    exact k
  have pre215 : ∀ t, Steps p.tables e below (T213.setTop (mkF m 46 #[.val (.ref a1), .val (.ref a2), .val (.ref a2)] [(.ref a2), (.ref d1)])) t → Steps p.tables e below (s₁.setTop (entryFrame m #[(.ref a1), (.ref a2)] 3)) t := by
    intro t k
    refine pre214 _ ?_
    show Steps p.tables e below (T213.setTop (mkF m 45 #[.val (.ref a1), .val (.ref a2), .val (.ref a2)] [(.ref d1)])) _
    refine XS.aloadN X213.here hx rfl (hb hby d13_45) rfl rfl ?_
    exact k
  obtain ⟨T216, X216, e216, st216⟩ := getF X213 hx hZ hown (host := "") (Or.inl (hw _ (List.mem_of_getElem? (i := 31) rfl))) Via.refl e213 D2 (g := (mkF m 46 #[.val (.ref a1), .val (.ref a2), .val (.ref a2)] [(.ref a2), (.ref d1)])) rfl rfl (hb hby d13_46)
  have pre217 : ∀ t, Steps p.tables e below (T216.setTop (mkF m 49 #[.val (.ref a1), .val (.ref a2), .val (.ref a2)] [(.ref d2), (.ref d1)])) t → Steps p.tables e below (s₁.setTop (entryFrame m #[(.ref a1), (.ref a2)] 3)) t := by
    intro t k
    refine pre215 _ ?_
    show Steps p.tables e below (T213.setTop (mkF m 46 #[.val (.ref a1), .val (.ref a2), .val (.ref a2)] [(.ref a2), (.ref d1)])) _
    refine st216 _ ?_
    exact k
  obtain ⟨_, _, ⟨T218, L218, k218, n218⟩, -, X218, ⟨Lc218, hQ218, l218, y218, z218⟩, st218⟩ := Jvm.LawKit.callS X216 hx (y := (⟨"java/util/Arrays", "equals", "([B[B)Z"⟩ : MethodName)) hown (mvT hZ (hw _ (List.mem_of_getElem? (i := 84) rfl))) (mvT hZ (hw _ (List.mem_of_getElem? (i := 85) rfl))) (mvT hZ (hw _ (List.mem_of_getElem? (i := 86) rfl))) (mvT hZ (hw _ (List.mem_of_getElem? (i := 87) rfl))) (by decide) (backOf (W := 0) (rm142 l Z a0 hw [] d1 d2 k1 k2 x0 x1 h0 n0 Z0 A1 A2) hZ (hw _ (List.mem_of_getElem? (i := 87) rfl)) (hw _ (List.mem_of_getElem? (i := 86) rfl)) (by decide) (by decide)) (g := (mkF m 49 #[.val (.ref a1), .val (.ref a2), .val (.ref a2)] [(.ref d2), (.ref d1)])) rfl (by rw [hml]; rfl) (argsL := [(.ref d1), (.ref d2)]) (rest := []) (lenOf pd___B_B_Z rfl) rfl (by show 2 * 0 + _ ≤ _; exact Nat.le_of_eq rfl) (hb hby d13_49) (fun _ _ => ⟨rfl, e216, (by decide : 0 + 0 ≤ _), (by decide : 0 + 0 ≤ _)⟩)
  dsimp only [Pt.U, Pt.locs, Pt.cells, Pt.slots] at X218 l218 y218 z218 st218 hQ218
  subst l218 y218 z218
  obtain ⟨rfl, N218q, e218⟩ := hQ218
  have N218 := Fr.app N0 N218q
  have pre219 : ∀ t, Steps p.tables e below (T218.setTop (mkF m 52 #[.val (.ref a1), .val (.ref a2), .val (.ref a2)] [(.int (1 : Int32))])) t → Steps p.tables e below (s₁.setTop (entryFrame m #[(.ref a1), (.ref a2)] 3)) t := by
    intro t k
    refine pre217 _ ?_
    show Steps p.tables e below (T216.setTop (mkF m 49 #[.val (.ref a1), .val (.ref a2), .val (.ref a2)] [(.ref d2), (.ref d1)])) _
    refine st218 _ ?_
    exact k
  have pre221 : ∀ t, Steps p.tables e below (T218.setTop (mkF m 55 #[.val (.ref a1), .val (.ref a2), .val (.ref a2)] [])) t → Steps p.tables e below (s₁.setTop (entryFrame m #[(.ref a1), (.ref a2)] 3)) t := by
    intro t k
    refine pre219 _ ?_
    show Steps p.tables e below (T218.setTop (mkF m 52 #[.val (.ref a1), .val (.ref a2), .val (.ref a2)] [(.int (1 : Int32))])) _
    refine XS.ifNo X218.here hx rfl (hb hby d13_52) rfl ((if0 _ _).trans (feq (by decide : ¬ ((1 : Int32) = (0 : Int32)))).1) ?_
    exact k
  have pre222 : ∀ t, Steps p.tables e below (T218.setTop (mkF m 60 #[.val (.ref a1), .val (.ref a2), .val (.ref a2)] [(.int (1 : Int32))])) t → Steps p.tables e below (s₁.setTop (entryFrame m #[(.ref a1), (.ref a2)] 3)) t := by
    intro t k
    refine pre221 _ ?_
    show Steps p.tables e below (T218.setTop (mkF m 55 #[.val (.ref a1), .val (.ref a2), .val (.ref a2)] [])) _
    refine XS.iconst X218.here hx rfl (hb hby d13_55) ?_
    show Steps p.tables e below (T218.setTop (mkF m 56 #[.val (.ref a1), .val (.ref a2), .val (.ref a2)] [(.int (1 : Int32))])) _
    refine XS.goto X218.here hx rfl (pc0 := 56) (pc' := 60) rfl (hb hby d13_56) (by decide) (by decide) ?_
    exact k
  obtain ⟨fs, hr, hrun, hended, hW, hsame⟩ := X218.leave (v := some (.int (1 : Int32))) (fun h => by rw [hret] at h; cases h) (hlocks := hlocks)
  refine ⟨_, _, pre222 _ ?_, hrun, hended, _, _, rfl, ?_, ⟨_, rfl⟩, hW, hsame.mono (by decide) (by decide)⟩
  · show Steps p.tables e below (T218.setTop (mkF m 60 #[.val (.ref a1), .val (.ref a2), .val (.ref a2)] [(.int (1 : Int32))])) _
    exact retN X218 hx (t := .boolean) hret (by simp) (hb hby d13_60) hr
  · show Q132 Z a1 a2 f1 d1 d2 k1 k2 x0 x1 h0 n0 _ T218.heap _
    rw [e218]
    exact ⟨rfl, N218, rfl⟩
theorem ef_153 (m : MethodId) (x0 : Addr) (x1 : Addr) : entryFrame m #[(.ref x0), (.ref x1), (.int (3 : Int32))] 4 = mkF m 0 #[.val (.ref x0), .val (.ref x1), .val (.int (3 : Int32)), .unset] [] := by first | (simp [entryFrame, mkF, argsToLocals, Value.category]; done) | rfl
def Q153 (Z : State) (a1 : Addr) (a2 : Addr) (k1 : ClassId) (k2 : ClassId) (x0 : Int32) (x1 : Int32) (x2 : Int32) (h0 : Heap) (n0 : Nat) (v : Option Value) (h : Heap) (L : List Loc) : Prop := v = some (.int (-1 : Int32)) ∧ Fr n0 L ∧ h = h0
set_option maxRecDepth 65536 in
set_option maxHeartbeats 40000000 in
theorem rm153 (l : Launch) (Z : State) (a0 : Array Value) (hw : ∀ d ∈ tables_1, d.before a0 Z = true) (ws : List Jvm.Cond) (a1 : Addr) (a2 : Addr) (k1 : ClassId) (k2 : ClassId) (x0 : Int32) (x1 : Int32) (x2 : Int32) (h0 : Heap) (n0 : Nat) (Z0 : n0 ≤ h0.size) (A1 : Arv Z h0 a1 k1 .byte (3 : Int32) [(.int x0), (.int x1), (.int x2)] (.int (0 : Int32))) (A2 : Arv Z h0 a2 k2 .byte (3 : Int32) [(.int x0), (.int x1), (.int x2)] (.int (0 : Int32))) :
    MetFree l (⟨"jdk/internal/util/ArraysSupport", "mismatch", "([B[BI)I"⟩ : MethodName) (head1 (Jvm.Cond.code (⟨"jdk/internal/util/ArraysSupport", "mismatch", "([B[BI)I"⟩ : MethodName) jdk_48_method_13_code 4 (some .int) :: ws) ({ frames := 0, cells := 0, slots := 0, locals := 0 } : Room)) (fun a U => a = #[(.ref a1), (.ref a2), (.int (3 : Int32))] ∧ Z.Warmed39 U.vm ∧ U.heap = h0) (fun _ _ _ _ _ => True) (fun _ U o U' => ∃ v L, o = .returned v ∧ Q153 Z a1 a2 k1 k2 x0 x1 x2 h0 n0 v U'.heap L ∧ FrameEnd U o U' L ({ frames := 0, cells := 0, slots := 0, locals := 0 } : Room).cells ({ frames := 0, cells := 0, slots := 0, locals := 0 } : Room).slots) := by
  refine MetFree.of_bodySF (plainFor_of_name pn_15) hisR ?_
  intro p e s m args below meth c s₁ Bd hml0 hP hK
  obtain ⟨rfl, hZ, hh⟩ := hP
  have hx := Bd.exec
  have hby := Bd.bytes
  have hml : c.maxLocals = 4 := hml0
  have hown : s.vm.findClass "jdk/internal/util/ArraysSupport" = some m.cls := findClass_of_methodNamed Bd.named
  have hnm := (name_of_methodNamed Bd.named Bd.method).1
  have hret := Bd.returns
  have hlocks : meth.locks = false := Bd.notSynchronized
  have X0 : Stand p l e ({ frames := 0, cells := 0, slots := 0, locals := 0 } : Room) s m #[(.ref a1), (.ref a2), (.int (3 : Int32))] below meth c s₁ [] 0 0 := Stand.of_body Bd
  have e0 : s₁.heap = h0 := by rw [← hh, Bd.state]; rfl
  have N0 := Fr.nil n0
  obtain ⟨cl1, Ar1, _, S1, N_1, H1, _⟩ := A1
  obtain ⟨cl2, Ar2, _, S2, N_2, H2, _⟩ := A2
  have pre0 : ∀ t, Steps p.tables e below (s₁.setTop (mkF m 0 #[.val (.ref a1), .val (.ref a2), .val (.int (3 : Int32)), .unset] [])) t → Steps p.tables e below (s₁.setTop (entryFrame m #[(.ref a1), (.ref a2), (.int (3 : Int32))] 4)) t := fun t k => castTop (ef_153 m a1 a2) k
  have pre223 : ∀ t, Steps p.tables e below (s₁.setTop (mkF m 5 #[.val (.ref a1), .val (.ref a2), .val (.int (3 : Int32)), .val (.int (0 : Int32))] [(.int (7 : Int32)), (.int (3 : Int32))])) t → Steps p.tables e below (s₁.setTop (entryFrame m #[(.ref a1), (.ref a2), (.int (3 : Int32))] 4)) t := by
    intro t k
    refine pre0 _ ?_
    show Steps p.tables e below (s₁.setTop (mkF m 0 #[.val (.ref a1), .val (.ref a2), .val (.int (3 : Int32)), .unset] [])) _
    refine XS.iconst X0.here hx rfl (hb hby d15_0) ?_
    show Steps p.tables e below (s₁.setTop (mkF m 1 #[.val (.ref a1), .val (.ref a2), .val (.int (3 : Int32)), .unset] [(.int (0 : Int32))])) _
    refine XS.istoreN X0.here hx rfl (hb hby d15_1) rfl (l' := #[.val (.ref a1), .val (.ref a2), .val (.int (3 : Int32)), .val (.int (0 : Int32))]) rfl ?_
    show Steps p.tables e below (s₁.setTop (mkF m 2 #[.val (.ref a1), .val (.ref a2), .val (.int (3 : Int32)), .val (.int (0 : Int32))] [])) _
    refine XS.iloadN X0.here hx rfl (hb hby d15_2) rfl ?_
    show Steps p.tables e below (s₁.setTop (mkF m 3 #[.val (.ref a1), .val (.ref a2), .val (.int (3 : Int32)), .val (.int (0 : Int32))] [(.int (3 : Int32))])) _
    refine XS.bipush X0.here hx rfl (hb hby d15_3) ?_
    exact k
  have pre225 : ∀ t, Steps p.tables e below (s₁.setTop (mkF m 49 #[.val (.ref a1), .val (.ref a2), .val (.int (3 : Int32)), .val (.int (0 : Int32))] [])) t → Steps p.tables e below (s₁.setTop (entryFrame m #[(.ref a1), (.ref a2), (.int (3 : Int32))] 4)) t := by
    intro t k
    refine pre223 _ ?_
    show Steps p.tables e below (s₁.setTop (mkF m 5 #[.val (.ref a1), .val (.ref a2), .val (.int (3 : Int32)), .val (.int (0 : Int32))] [(.int (7 : Int32)), (.int (3 : Int32))])) _
    refine XS.icmpYes X0.here hx rfl (pc0 := 5) (pc' := 49) rfl (hb hby d15_5) rfl (flt (by decide : ¬ ((7 : Int32) < (3 : Int32)))).2.2.2 (by decide) (by decide) ?_
    exact k
  have pre226 : ∀ t, Steps p.tables e below (s₁.setTop (mkF m 51 #[.val (.ref a1), .val (.ref a2), .val (.int (3 : Int32)), .val (.int (0 : Int32))] [(.int (3 : Int32)), (.int (0 : Int32))])) t → Steps p.tables e below (s₁.setTop (entryFrame m #[(.ref a1), (.ref a2), (.int (3 : Int32))] 4)) t := by
    intro t k
    refine pre225 _ ?_
    show Steps p.tables e below (s₁.setTop (mkF m 49 #[.val (.ref a1), .val (.ref a2), .val (.int (3 : Int32)), .val (.int (0 : Int32))] [])) _
    refine XS.iloadN X0.here hx rfl (hb hby d15_49) rfl ?_
    show Steps p.tables e below (s₁.setTop (mkF m 50 #[.val (.ref a1), .val (.ref a2), .val (.int (3 : Int32)), .val (.int (0 : Int32))] [(.int (0 : Int32))])) _
    refine XS.iloadN X0.here hx rfl (hb hby d15_50) rfl ?_
    exact k
  have pre228 : ∀ t, Steps p.tables e below (s₁.setTop (mkF m 54 #[.val (.ref a1), .val (.ref a2), .val (.int (3 : Int32)), .val (.int (0 : Int32))] [])) t → Steps p.tables e below (s₁.setTop (entryFrame m #[(.ref a1), (.ref a2), (.int (3 : Int32))] 4)) t := by
    intro t k
    refine pre226 _ ?_
    show Steps p.tables e below (s₁.setTop (mkF m 51 #[.val (.ref a1), .val (.ref a2), .val (.int (3 : Int32)), .val (.int (0 : Int32))] [(.int (3 : Int32)), (.int (0 : Int32))])) _
    refine XS.icmpNo X0.here hx rfl (hb hby d15_51) rfl (tlt (by decide : (0 : Int32) < (3 : Int32))).2.1 ?_
    exact k
  have pre229 : ∀ t, Steps p.tables e below (s₁.setTop (mkF m 60 #[.val (.ref a1), .val (.ref a2), .val (.int (3 : Int32)), .val (.int (0 : Int32))] [(.int x0), (.int x0)])) t → Steps p.tables e below (s₁.setTop (entryFrame m #[(.ref a1), (.ref a2), (.int (3 : Int32))] 4)) t := by
    intro t k
    refine pre228 _ ?_
    show Steps p.tables e below (s₁.setTop (mkF m 54 #[.val (.ref a1), .val (.ref a2), .val (.int (3 : Int32)), .val (.int (0 : Int32))] [])) _
    refine XS.aloadN X0.here hx rfl (hb hby d15_54) rfl rfl ?_
    show Steps p.tables e below (s₁.setTop (mkF m 55 #[.val (.ref a1), .val (.ref a2), .val (.int (3 : Int32)), .val (.int (0 : Int32))] [(.ref a1)])) _
    refine XS.iloadN X0.here hx rfl (hb hby d15_55) rfl ?_
    show Steps p.tables e below (s₁.setTop (mkF m 56 #[.val (.ref a1), .val (.ref a2), .val (.int (3 : Int32)), .val (.int (0 : Int32))] [(.int (0 : Int32)), (.ref a1)])) _
    refine X0.baloadBytes hx (j := (0 : Int32)) (v := (.int x0)) (by rw [e0]; exact Ar1.1) (State.isArrayOf_alike hZ.alike Ar1.2.1) Ar1.2.2 (inb_of S1 ⟨by decide, by decide⟩) (Has.at (v := (.int x0)) H1 (inb_of S1 ⟨by decide, by decide⟩) rfl) (g := (mkF m 56 #[.val (.ref a1), .val (.ref a2), .val (.int (3 : Int32)), .val (.int (0 : Int32))] [(.int (0 : Int32)), (.ref a1)])) rfl rfl (hb hby d15_56) _ ?_
    show Steps p.tables e below (s₁.setTop (mkF m 57 #[.val (.ref a1), .val (.ref a2), .val (.int (3 : Int32)), .val (.int (0 : Int32))] [(.int x0)])) _
    refine XS.aloadN X0.here hx rfl (hb hby d15_57) rfl rfl ?_
    show Steps p.tables e below (s₁.setTop (mkF m 58 #[.val (.ref a1), .val (.ref a2), .val (.int (3 : Int32)), .val (.int (0 : Int32))] [(.ref a2), (.int x0)])) _
    refine XS.iloadN X0.here hx rfl (hb hby d15_58) rfl ?_
    show Steps p.tables e below (s₁.setTop (mkF m 59 #[.val (.ref a1), .val (.ref a2), .val (.int (3 : Int32)), .val (.int (0 : Int32))] [(.int (0 : Int32)), (.ref a2), (.int x0)])) _
    refine X0.baloadBytes hx (j := (0 : Int32)) (v := (.int x0)) (by rw [e0]; exact Ar2.1) (State.isArrayOf_alike hZ.alike Ar2.2.1) Ar2.2.2 (inb_of S2 ⟨by decide, by decide⟩) (Has.at (v := (.int x0)) H2 (inb_of S2 ⟨by decide, by decide⟩) rfl) (g := (mkF m 59 #[.val (.ref a1), .val (.ref a2), .val (.int (3 : Int32)), .val (.int (0 : Int32))] [(.int (0 : Int32)), (.ref a2), (.int x0)])) rfl rfl (hb hby d15_59) _ ?_
    exact k
  have pre231 : ∀ t, Steps p.tables e below (s₁.setTop (mkF m 65 #[.val (.ref a1), .val (.ref a2), .val (.int (3 : Int32)), .val (.int (0 : Int32))] [])) t → Steps p.tables e below (s₁.setTop (entryFrame m #[(.ref a1), (.ref a2), (.int (3 : Int32))] 4)) t := by
    intro t k
    refine pre229 _ ?_
    show Steps p.tables e below (s₁.setTop (mkF m 60 #[.val (.ref a1), .val (.ref a2), .val (.int (3 : Int32)), .val (.int (0 : Int32))] [(.int x0), (.int x0)])) _
    refine XS.icmpYes X0.here hx rfl (pc0 := 60) (pc' := 65) rfl (hb hby d15_60) rfl (teq (rfl : x0 = x0)).1 (by decide) (by decide) ?_
    exact k
  have pre232 : ∀ t, Steps p.tables e below (s₁.setTop (mkF m 51 #[.val (.ref a1), .val (.ref a2), .val (.int (3 : Int32)), .val (.int (1 : Int32))] [(.int (3 : Int32)), (.int (1 : Int32))])) t → Steps p.tables e below (s₁.setTop (entryFrame m #[(.ref a1), (.ref a2), (.int (3 : Int32))] 4)) t := by
    intro t k
    refine pre231 _ ?_
    show Steps p.tables e below (s₁.setTop (mkF m 65 #[.val (.ref a1), .val (.ref a2), .val (.int (3 : Int32)), .val (.int (0 : Int32))] [])) _
    refine XS.iinc X0.here hx rfl (hb hby d15_65) rfl (l' := #[.val (.ref a1), .val (.ref a2), .val (.int (3 : Int32)), .val (.int (1 : Int32))]) rfl ?_
    show Steps p.tables e below (s₁.setTop (mkF m 68 #[.val (.ref a1), .val (.ref a2), .val (.int (3 : Int32)), .val (.int (1 : Int32))] [])) _
    refine XS.goto X0.here hx rfl (pc0 := 68) (pc' := 49) rfl (hb hby d15_68) (by decide) (by decide) ?_
    show Steps p.tables e below (s₁.setTop (mkF m 49 #[.val (.ref a1), .val (.ref a2), .val (.int (3 : Int32)), .val (.int (1 : Int32))] [])) _
    refine XS.iloadN X0.here hx rfl (hb hby d15_49) rfl ?_
    show Steps p.tables e below (s₁.setTop (mkF m 50 #[.val (.ref a1), .val (.ref a2), .val (.int (3 : Int32)), .val (.int (1 : Int32))] [(.int (1 : Int32))])) _
    refine XS.iloadN X0.here hx rfl (hb hby d15_50) rfl ?_
    exact k
  have pre234 : ∀ t, Steps p.tables e below (s₁.setTop (mkF m 54 #[.val (.ref a1), .val (.ref a2), .val (.int (3 : Int32)), .val (.int (1 : Int32))] [])) t → Steps p.tables e below (s₁.setTop (entryFrame m #[(.ref a1), (.ref a2), (.int (3 : Int32))] 4)) t := by
    intro t k
    refine pre232 _ ?_
    show Steps p.tables e below (s₁.setTop (mkF m 51 #[.val (.ref a1), .val (.ref a2), .val (.int (3 : Int32)), .val (.int (1 : Int32))] [(.int (3 : Int32)), (.int (1 : Int32))])) _
    refine XS.icmpNo X0.here hx rfl (hb hby d15_51) rfl (tlt (by decide : (1 : Int32) < (3 : Int32))).2.1 ?_
    exact k
  have pre235 : ∀ t, Steps p.tables e below (s₁.setTop (mkF m 60 #[.val (.ref a1), .val (.ref a2), .val (.int (3 : Int32)), .val (.int (1 : Int32))] [(.int x1), (.int x1)])) t → Steps p.tables e below (s₁.setTop (entryFrame m #[(.ref a1), (.ref a2), (.int (3 : Int32))] 4)) t := by
    intro t k
    refine pre234 _ ?_
    show Steps p.tables e below (s₁.setTop (mkF m 54 #[.val (.ref a1), .val (.ref a2), .val (.int (3 : Int32)), .val (.int (1 : Int32))] [])) _
    refine XS.aloadN X0.here hx rfl (hb hby d15_54) rfl rfl ?_
    show Steps p.tables e below (s₁.setTop (mkF m 55 #[.val (.ref a1), .val (.ref a2), .val (.int (3 : Int32)), .val (.int (1 : Int32))] [(.ref a1)])) _
    refine XS.iloadN X0.here hx rfl (hb hby d15_55) rfl ?_
    show Steps p.tables e below (s₁.setTop (mkF m 56 #[.val (.ref a1), .val (.ref a2), .val (.int (3 : Int32)), .val (.int (1 : Int32))] [(.int (1 : Int32)), (.ref a1)])) _
    refine X0.baloadBytes hx (j := (1 : Int32)) (v := (.int x1)) (by rw [e0]; exact Ar1.1) (State.isArrayOf_alike hZ.alike Ar1.2.1) Ar1.2.2 (inb_of S1 ⟨by decide, by decide⟩) (Has.at (v := (.int x1)) H1 (inb_of S1 ⟨by decide, by decide⟩) rfl) (g := (mkF m 56 #[.val (.ref a1), .val (.ref a2), .val (.int (3 : Int32)), .val (.int (1 : Int32))] [(.int (1 : Int32)), (.ref a1)])) rfl rfl (hb hby d15_56) _ ?_
    show Steps p.tables e below (s₁.setTop (mkF m 57 #[.val (.ref a1), .val (.ref a2), .val (.int (3 : Int32)), .val (.int (1 : Int32))] [(.int x1)])) _
    refine XS.aloadN X0.here hx rfl (hb hby d15_57) rfl rfl ?_
    show Steps p.tables e below (s₁.setTop (mkF m 58 #[.val (.ref a1), .val (.ref a2), .val (.int (3 : Int32)), .val (.int (1 : Int32))] [(.ref a2), (.int x1)])) _
    refine XS.iloadN X0.here hx rfl (hb hby d15_58) rfl ?_
    show Steps p.tables e below (s₁.setTop (mkF m 59 #[.val (.ref a1), .val (.ref a2), .val (.int (3 : Int32)), .val (.int (1 : Int32))] [(.int (1 : Int32)), (.ref a2), (.int x1)])) _
    refine X0.baloadBytes hx (j := (1 : Int32)) (v := (.int x1)) (by rw [e0]; exact Ar2.1) (State.isArrayOf_alike hZ.alike Ar2.2.1) Ar2.2.2 (inb_of S2 ⟨by decide, by decide⟩) (Has.at (v := (.int x1)) H2 (inb_of S2 ⟨by decide, by decide⟩) rfl) (g := (mkF m 59 #[.val (.ref a1), .val (.ref a2), .val (.int (3 : Int32)), .val (.int (1 : Int32))] [(.int (1 : Int32)), (.ref a2), (.int x1)])) rfl rfl (hb hby d15_59) _ ?_
    exact k
  have pre237 : ∀ t, Steps p.tables e below (s₁.setTop (mkF m 65 #[.val (.ref a1), .val (.ref a2), .val (.int (3 : Int32)), .val (.int (1 : Int32))] [])) t → Steps p.tables e below (s₁.setTop (entryFrame m #[(.ref a1), (.ref a2), (.int (3 : Int32))] 4)) t := by
    intro t k
    refine pre235 _ ?_
    show Steps p.tables e below (s₁.setTop (mkF m 60 #[.val (.ref a1), .val (.ref a2), .val (.int (3 : Int32)), .val (.int (1 : Int32))] [(.int x1), (.int x1)])) _
    refine XS.icmpYes X0.here hx rfl (pc0 := 60) (pc' := 65) rfl (hb hby d15_60) rfl (teq (rfl : x1 = x1)).1 (by decide) (by decide) ?_
    exact k
  have pre238 : ∀ t, Steps p.tables e below (s₁.setTop (mkF m 51 #[.val (.ref a1), .val (.ref a2), .val (.int (3 : Int32)), .val (.int (2 : Int32))] [(.int (3 : Int32)), (.int (2 : Int32))])) t → Steps p.tables e below (s₁.setTop (entryFrame m #[(.ref a1), (.ref a2), (.int (3 : Int32))] 4)) t := by
    intro t k
    refine pre237 _ ?_
    show Steps p.tables e below (s₁.setTop (mkF m 65 #[.val (.ref a1), .val (.ref a2), .val (.int (3 : Int32)), .val (.int (1 : Int32))] [])) _
    refine XS.iinc X0.here hx rfl (hb hby d15_65) rfl (l' := #[.val (.ref a1), .val (.ref a2), .val (.int (3 : Int32)), .val (.int (2 : Int32))]) rfl ?_
    show Steps p.tables e below (s₁.setTop (mkF m 68 #[.val (.ref a1), .val (.ref a2), .val (.int (3 : Int32)), .val (.int (2 : Int32))] [])) _
    refine XS.goto X0.here hx rfl (pc0 := 68) (pc' := 49) rfl (hb hby d15_68) (by decide) (by decide) ?_
    show Steps p.tables e below (s₁.setTop (mkF m 49 #[.val (.ref a1), .val (.ref a2), .val (.int (3 : Int32)), .val (.int (2 : Int32))] [])) _
    refine XS.iloadN X0.here hx rfl (hb hby d15_49) rfl ?_
    show Steps p.tables e below (s₁.setTop (mkF m 50 #[.val (.ref a1), .val (.ref a2), .val (.int (3 : Int32)), .val (.int (2 : Int32))] [(.int (2 : Int32))])) _
    refine XS.iloadN X0.here hx rfl (hb hby d15_50) rfl ?_
    exact k
  have pre240 : ∀ t, Steps p.tables e below (s₁.setTop (mkF m 54 #[.val (.ref a1), .val (.ref a2), .val (.int (3 : Int32)), .val (.int (2 : Int32))] [])) t → Steps p.tables e below (s₁.setTop (entryFrame m #[(.ref a1), (.ref a2), (.int (3 : Int32))] 4)) t := by
    intro t k
    refine pre238 _ ?_
    show Steps p.tables e below (s₁.setTop (mkF m 51 #[.val (.ref a1), .val (.ref a2), .val (.int (3 : Int32)), .val (.int (2 : Int32))] [(.int (3 : Int32)), (.int (2 : Int32))])) _
    refine XS.icmpNo X0.here hx rfl (hb hby d15_51) rfl (tlt (by decide : (2 : Int32) < (3 : Int32))).2.1 ?_
    exact k
  have pre241 : ∀ t, Steps p.tables e below (s₁.setTop (mkF m 60 #[.val (.ref a1), .val (.ref a2), .val (.int (3 : Int32)), .val (.int (2 : Int32))] [(.int x2), (.int x2)])) t → Steps p.tables e below (s₁.setTop (entryFrame m #[(.ref a1), (.ref a2), (.int (3 : Int32))] 4)) t := by
    intro t k
    refine pre240 _ ?_
    show Steps p.tables e below (s₁.setTop (mkF m 54 #[.val (.ref a1), .val (.ref a2), .val (.int (3 : Int32)), .val (.int (2 : Int32))] [])) _
    refine XS.aloadN X0.here hx rfl (hb hby d15_54) rfl rfl ?_
    show Steps p.tables e below (s₁.setTop (mkF m 55 #[.val (.ref a1), .val (.ref a2), .val (.int (3 : Int32)), .val (.int (2 : Int32))] [(.ref a1)])) _
    refine XS.iloadN X0.here hx rfl (hb hby d15_55) rfl ?_
    show Steps p.tables e below (s₁.setTop (mkF m 56 #[.val (.ref a1), .val (.ref a2), .val (.int (3 : Int32)), .val (.int (2 : Int32))] [(.int (2 : Int32)), (.ref a1)])) _
    refine X0.baloadBytes hx (j := (2 : Int32)) (v := (.int x2)) (by rw [e0]; exact Ar1.1) (State.isArrayOf_alike hZ.alike Ar1.2.1) Ar1.2.2 (inb_of S1 ⟨by decide, by decide⟩) (Has.at (v := (.int x2)) H1 (inb_of S1 ⟨by decide, by decide⟩) rfl) (g := (mkF m 56 #[.val (.ref a1), .val (.ref a2), .val (.int (3 : Int32)), .val (.int (2 : Int32))] [(.int (2 : Int32)), (.ref a1)])) rfl rfl (hb hby d15_56) _ ?_
    show Steps p.tables e below (s₁.setTop (mkF m 57 #[.val (.ref a1), .val (.ref a2), .val (.int (3 : Int32)), .val (.int (2 : Int32))] [(.int x2)])) _
    refine XS.aloadN X0.here hx rfl (hb hby d15_57) rfl rfl ?_
    show Steps p.tables e below (s₁.setTop (mkF m 58 #[.val (.ref a1), .val (.ref a2), .val (.int (3 : Int32)), .val (.int (2 : Int32))] [(.ref a2), (.int x2)])) _
    refine XS.iloadN X0.here hx rfl (hb hby d15_58) rfl ?_
    show Steps p.tables e below (s₁.setTop (mkF m 59 #[.val (.ref a1), .val (.ref a2), .val (.int (3 : Int32)), .val (.int (2 : Int32))] [(.int (2 : Int32)), (.ref a2), (.int x2)])) _
    refine X0.baloadBytes hx (j := (2 : Int32)) (v := (.int x2)) (by rw [e0]; exact Ar2.1) (State.isArrayOf_alike hZ.alike Ar2.2.1) Ar2.2.2 (inb_of S2 ⟨by decide, by decide⟩) (Has.at (v := (.int x2)) H2 (inb_of S2 ⟨by decide, by decide⟩) rfl) (g := (mkF m 59 #[.val (.ref a1), .val (.ref a2), .val (.int (3 : Int32)), .val (.int (2 : Int32))] [(.int (2 : Int32)), (.ref a2), (.int x2)])) rfl rfl (hb hby d15_59) _ ?_
    exact k
  have pre243 : ∀ t, Steps p.tables e below (s₁.setTop (mkF m 65 #[.val (.ref a1), .val (.ref a2), .val (.int (3 : Int32)), .val (.int (2 : Int32))] [])) t → Steps p.tables e below (s₁.setTop (entryFrame m #[(.ref a1), (.ref a2), (.int (3 : Int32))] 4)) t := by
    intro t k
    refine pre241 _ ?_
    show Steps p.tables e below (s₁.setTop (mkF m 60 #[.val (.ref a1), .val (.ref a2), .val (.int (3 : Int32)), .val (.int (2 : Int32))] [(.int x2), (.int x2)])) _
    refine XS.icmpYes X0.here hx rfl (pc0 := 60) (pc' := 65) rfl (hb hby d15_60) rfl (teq (rfl : x2 = x2)).1 (by decide) (by decide) ?_
    exact k
  have pre244 : ∀ t, Steps p.tables e below (s₁.setTop (mkF m 51 #[.val (.ref a1), .val (.ref a2), .val (.int (3 : Int32)), .val (.int (3 : Int32))] [(.int (3 : Int32)), (.int (3 : Int32))])) t → Steps p.tables e below (s₁.setTop (entryFrame m #[(.ref a1), (.ref a2), (.int (3 : Int32))] 4)) t := by
    intro t k
    refine pre243 _ ?_
    show Steps p.tables e below (s₁.setTop (mkF m 65 #[.val (.ref a1), .val (.ref a2), .val (.int (3 : Int32)), .val (.int (2 : Int32))] [])) _
    refine XS.iinc X0.here hx rfl (hb hby d15_65) rfl (l' := #[.val (.ref a1), .val (.ref a2), .val (.int (3 : Int32)), .val (.int (3 : Int32))]) rfl ?_
    show Steps p.tables e below (s₁.setTop (mkF m 68 #[.val (.ref a1), .val (.ref a2), .val (.int (3 : Int32)), .val (.int (3 : Int32))] [])) _
    refine XS.goto X0.here hx rfl (pc0 := 68) (pc' := 49) rfl (hb hby d15_68) (by decide) (by decide) ?_
    show Steps p.tables e below (s₁.setTop (mkF m 49 #[.val (.ref a1), .val (.ref a2), .val (.int (3 : Int32)), .val (.int (3 : Int32))] [])) _
    refine XS.iloadN X0.here hx rfl (hb hby d15_49) rfl ?_
    show Steps p.tables e below (s₁.setTop (mkF m 50 #[.val (.ref a1), .val (.ref a2), .val (.int (3 : Int32)), .val (.int (3 : Int32))] [(.int (3 : Int32))])) _
    refine XS.iloadN X0.here hx rfl (hb hby d15_50) rfl ?_
    exact k
  have pre246 : ∀ t, Steps p.tables e below (s₁.setTop (mkF m 71 #[.val (.ref a1), .val (.ref a2), .val (.int (3 : Int32)), .val (.int (3 : Int32))] [])) t → Steps p.tables e below (s₁.setTop (entryFrame m #[(.ref a1), (.ref a2), (.int (3 : Int32))] 4)) t := by
    intro t k
    refine pre244 _ ?_
    show Steps p.tables e below (s₁.setTop (mkF m 51 #[.val (.ref a1), .val (.ref a2), .val (.int (3 : Int32)), .val (.int (3 : Int32))] [(.int (3 : Int32)), (.int (3 : Int32))])) _
    refine XS.icmpYes X0.here hx rfl (pc0 := 51) (pc' := 71) rfl (hb hby d15_51) rfl (flt (by decide : ¬ ((3 : Int32) < (3 : Int32)))).2.1 (by decide) (by decide) ?_
    exact k
  have pre247 : ∀ t, Steps p.tables e below (s₁.setTop (mkF m 72 #[.val (.ref a1), .val (.ref a2), .val (.int (3 : Int32)), .val (.int (3 : Int32))] [(.int (-1 : Int32))])) t → Steps p.tables e below (s₁.setTop (entryFrame m #[(.ref a1), (.ref a2), (.int (3 : Int32))] 4)) t := by
    intro t k
    refine pre246 _ ?_
    show Steps p.tables e below (s₁.setTop (mkF m 71 #[.val (.ref a1), .val (.ref a2), .val (.int (3 : Int32)), .val (.int (3 : Int32))] [])) _
    refine Jvm.Free.XT.iconstV X0.here hx rfl (-1 : Int32) (hb hby d15_71) (by decide) ?_
    exact k
  obtain ⟨fs, hr, hrun, hended, hW, hsame⟩ := X0.leave (v := some (.int (-1 : Int32))) (fun h => by rw [hret] at h; cases h) (hlocks := hlocks)
  refine ⟨_, _, pre247 _ ?_, hrun, hended, _, _, rfl, ?_, ⟨_, rfl⟩, hW, hsame.mono (by decide) (by decide)⟩
  · show Steps p.tables e below (s₁.setTop (mkF m 72 #[.val (.ref a1), .val (.ref a2), .val (.int (3 : Int32)), .val (.int (3 : Int32))] [(.int (-1 : Int32))])) _
    exact retI X0 hx hret (hb hby d15_72) hr
  · show Q153 Z a1 a2 k1 k2 x0 x1 x2 h0 n0 _ s₁.heap _
    rw [e0]
    exact ⟨rfl, N0, rfl⟩
theorem ef_143 (m : MethodId) (x0 : Addr) (x1 : Addr) : entryFrame m #[(.ref x0), (.ref x1)] 3 = mkF m 0 #[.val (.ref x0), .val (.ref x1), .unset] [] := by first | (simp [entryFrame, mkF, argsToLocals, Value.category]; done) | rfl
def Q143 (Z : State) (a1 : Addr) (a2 : Addr) (k1 : ClassId) (k2 : ClassId) (x0 : Int32) (x1 : Int32) (x2 : Int32) (h0 : Heap) (n0 : Nat) (v : Option Value) (h : Heap) (L : List Loc) : Prop := v = some (.int (1 : Int32)) ∧ Fr n0 L ∧ h = h0
set_option maxRecDepth 65536 in
set_option maxHeartbeats 40000000 in
theorem rm143 (l : Launch) (Z : State) (a0 : Array Value) (hw : ∀ d ∈ tables_1, d.before a0 Z = true) (ws : List Jvm.Cond) (a1 : Addr) (a2 : Addr) (k1 : ClassId) (k2 : ClassId) (x0 : Int32) (x1 : Int32) (x2 : Int32) (h0 : Heap) (n0 : Nat) (Z0 : n0 ≤ h0.size) (A1 : Arv Z h0 a1 k1 .byte (3 : Int32) [(.int x0), (.int x1), (.int x2)] (.int (0 : Int32))) (A2 : Arv Z h0 a2 k2 .byte (3 : Int32) [(.int x0), (.int x1), (.int x2)] (.int (0 : Int32))) :
    MetFree l (⟨"java/util/Arrays", "equals", "([B[B)Z"⟩ : MethodName) (head1 (Jvm.Cond.code (⟨"java/util/Arrays", "equals", "([B[B)Z"⟩ : MethodName) jdk_65_method_89_code 3 (some .boolean) :: ws) ({ frames := 1, cells := 0, slots := 0, locals := 15 } : Room)) (fun a U => a = #[(.ref a1), (.ref a2)] ∧ Z.Warmed39 U.vm ∧ U.heap = h0) (fun _ _ _ _ _ => True) (fun _ U o U' => ∃ v L, o = .returned v ∧ Q143 Z a1 a2 k1 k2 x0 x1 x2 h0 n0 v U'.heap L ∧ FrameEnd U o U' L ({ frames := 1, cells := 0, slots := 0, locals := 15 } : Room).cells ({ frames := 1, cells := 0, slots := 0, locals := 15 } : Room).slots) := by
  refine MetFree.of_bodySF (plainFor_of_name pn_14) hisR ?_
  intro p e s m args below meth c s₁ Bd hml0 hP hK
  obtain ⟨rfl, hZ, hh⟩ := hP
  have hx := Bd.exec
  have hby := Bd.bytes
  have hml : c.maxLocals = 3 := hml0
  have hown : s.vm.findClass "java/util/Arrays" = some m.cls := findClass_of_methodNamed Bd.named
  have hnm := (name_of_methodNamed Bd.named Bd.method).1
  have hret := Bd.returns
  have hlocks : meth.locks = false := Bd.notSynchronized
  have X0 : Stand p l e ({ frames := 1, cells := 0, slots := 0, locals := 15 } : Room) s m #[(.ref a1), (.ref a2)] below meth c s₁ [] 0 0 := Stand.of_body Bd
  have e0 : s₁.heap = h0 := by rw [← hh, Bd.state]; rfl
  have N0 := Fr.nil n0
  obtain ⟨cl1, Ar1, _, S1, N_1, H1, _⟩ := id A1
  obtain ⟨cl2, Ar2, _, S2, N_2, H2, _⟩ := id A2
  have pre0 : ∀ t, Steps p.tables e below (s₁.setTop (mkF m 0 #[.val (.ref a1), .val (.ref a2), .unset] [])) t → Steps p.tables e below (s₁.setTop (entryFrame m #[(.ref a1), (.ref a2)] 3)) t := fun t k => castTop (ef_143 m a1 a2) k
  have pre248 : ∀ t, Steps p.tables e below (s₁.setTop (mkF m 2 #[.val (.ref a1), .val (.ref a2), .unset] [(.ref a2), (.ref a1)])) t → Steps p.tables e below (s₁.setTop (entryFrame m #[(.ref a1), (.ref a2)] 3)) t := by
    intro t k
    refine pre0 _ ?_
    show Steps p.tables e below (s₁.setTop (mkF m 0 #[.val (.ref a1), .val (.ref a2), .unset] [])) _
    refine XS.aloadN X0.here hx rfl (hb hby d14_0) rfl rfl ?_
    show Steps p.tables e below (s₁.setTop (mkF m 1 #[.val (.ref a1), .val (.ref a2), .unset] [(.ref a1)])) _
    refine XS.aloadN X0.here hx rfl (hb hby d14_1) rfl rfl ?_
    exact k
  by_cases ha249 : a1 = a2
  · have pre250 : ∀ t, Steps p.tables e below (s₁.setTop (mkF m 5 #[.val (.ref a1), .val (.ref a2), .unset] [])) t → Steps p.tables e below (s₁.setTop (entryFrame m #[(.ref a1), (.ref a2)] 3)) t := by
      intro t k
      refine pre248 _ ?_
      show Steps p.tables e below (s₁.setTop (mkF m 2 #[.val (.ref a1), .val (.ref a2), .unset] [(.ref a2), (.ref a1)])) _
      refine Jvm.RoadKit.acmp (g := (mkF m 2 #[.val (.ref a1), .val (.ref a2), .unset] [(.ref a2), (.ref a1)])) X0 hx rfl rfl rfl (pc0 := 2) (pc' := 5) (same := true) rfl (hb hby d14_2) rfl (decide_eq_true (congrArg Value.ref ha249)) (by decide) (by decide) ?_
      exact k
    have pre251 : ∀ t, Steps p.tables e below (s₁.setTop (mkF m 6 #[.val (.ref a1), .val (.ref a2), .unset] [(.int (1 : Int32))])) t → Steps p.tables e below (s₁.setTop (entryFrame m #[(.ref a1), (.ref a2)] 3)) t := by
      intro t k
      refine pre250 _ ?_
      show Steps p.tables e below (s₁.setTop (mkF m 5 #[.val (.ref a1), .val (.ref a2), .unset] [])) _
      refine XS.iconst X0.here hx rfl (hb hby d14_5) ?_
      exact k
    obtain ⟨fs, hr, hrun, hended, hW, hsame⟩ := X0.leave (v := some (.int (1 : Int32))) (fun h => by rw [hret] at h; cases h) (hlocks := hlocks)
    refine ⟨_, _, pre251 _ ?_, hrun, hended, _, _, rfl, ?_, ⟨_, rfl⟩, hW, hsame.mono (by decide) (by decide)⟩
    · show Steps p.tables e below (s₁.setTop (mkF m 6 #[.val (.ref a1), .val (.ref a2), .unset] [(.int (1 : Int32))])) _
      exact retN X0 hx (t := .boolean) hret (by simp) (hb hby d14_6) hr
    · show Q143 Z a1 a2 k1 k2 x0 x1 x2 h0 n0 _ s₁.heap _
      rw [e0]
      exact ⟨rfl, N0, rfl⟩
  · have pre252 : ∀ t, Steps p.tables e below (s₁.setTop (mkF m 7 #[.val (.ref a1), .val (.ref a2), .unset] [])) t → Steps p.tables e below (s₁.setTop (entryFrame m #[(.ref a1), (.ref a2)] 3)) t := by
      intro t k
      refine pre248 _ ?_
      show Steps p.tables e below (s₁.setTop (mkF m 2 #[.val (.ref a1), .val (.ref a2), .unset] [(.ref a2), (.ref a1)])) _
      refine Jvm.RoadKit.acmp (g := (mkF m 2 #[.val (.ref a1), .val (.ref a2), .unset] [(.ref a2), (.ref a1)])) X0 hx rfl rfl rfl (pc0 := 2) (pc' := 7) (same := false) rfl (hb hby d14_2) rfl (decide_eq_false fun q => ha249 (Value.ref.inj q)) (by decide) (by decide) ?_
      exact k
    have pre253 : ∀ t, Steps p.tables e below (s₁.setTop (mkF m 23 #[.val (.ref a1), .val (.ref a2), .val (.int (3 : Int32))] [(.int (3 : Int32)), (.int (3 : Int32))])) t → Steps p.tables e below (s₁.setTop (entryFrame m #[(.ref a1), (.ref a2)] 3)) t := by
      intro t k
      refine pre252 _ ?_
      show Steps p.tables e below (s₁.setTop (mkF m 7 #[.val (.ref a1), .val (.ref a2), .unset] [])) _
      refine XS.aloadN X0.here hx rfl (hb hby d14_7) rfl rfl ?_
      show Steps p.tables e below (s₁.setTop (mkF m 8 #[.val (.ref a1), .val (.ref a2), .unset] [(.ref a1)])) _
      refine XS.ifnullNo X0.here hx rfl (hb hby d14_8) rfl ?_
      show Steps p.tables e below (s₁.setTop (mkF m 11 #[.val (.ref a1), .val (.ref a2), .unset] [])) _
      refine XS.aloadN X0.here hx rfl (hb hby d14_11) rfl rfl ?_
      show Steps p.tables e below (s₁.setTop (mkF m 12 #[.val (.ref a1), .val (.ref a2), .unset] [(.ref a2)])) _
      refine XS.ifnonnullYes X0.here hx rfl (pc0 := 12) (pc' := 17) rfl (hb hby d14_12) rfl (by decide) (by decide) ?_
      show Steps p.tables e below (s₁.setTop (mkF m 17 #[.val (.ref a1), .val (.ref a2), .unset] [])) _
      refine XS.aloadN X0.here hx rfl (hb hby d14_17) rfl rfl ?_
      show Steps p.tables e below (s₁.setTop (mkF m 18 #[.val (.ref a1), .val (.ref a2), .unset] [(.ref a1)])) _
      refine X0.arraylength hx (by rw [e0]; exact Ar1.1) (State.isArrayOf_alike hZ.alike Ar1.2.1) (g := (mkF m 18 #[.val (.ref a1), .val (.ref a2), .unset] [(.ref a1)])) rfl rfl (hb hby d14_18) _ ?_
      rw [len_of S1 N_1]
      show Steps p.tables e below (s₁.setTop (mkF m 19 #[.val (.ref a1), .val (.ref a2), .unset] [(.int (3 : Int32))])) _
      refine XS.istoreN X0.here hx rfl (hb hby d14_19) rfl (l' := #[.val (.ref a1), .val (.ref a2), .val (.int (3 : Int32))]) rfl ?_
      show Steps p.tables e below (s₁.setTop (mkF m 20 #[.val (.ref a1), .val (.ref a2), .val (.int (3 : Int32))] [])) _
      refine XS.aloadN X0.here hx rfl (hb hby d14_20) rfl rfl ?_
      show Steps p.tables e below (s₁.setTop (mkF m 21 #[.val (.ref a1), .val (.ref a2), .val (.int (3 : Int32))] [(.ref a2)])) _
      refine X0.arraylength hx (by rw [e0]; exact Ar2.1) (State.isArrayOf_alike hZ.alike Ar2.2.1) (g := (mkF m 21 #[.val (.ref a1), .val (.ref a2), .val (.int (3 : Int32))] [(.ref a2)])) rfl rfl (hb hby d14_21) _ ?_
      rw [len_of S2 N_2]
      show Steps p.tables e below (s₁.setTop (mkF m 22 #[.val (.ref a1), .val (.ref a2), .val (.int (3 : Int32))] [(.int (3 : Int32))])) _
      refine XS.iloadN X0.here hx rfl (hb hby d14_22) rfl ?_
      exact k
    have pre255 : ∀ t, Steps p.tables e below (s₁.setTop (mkF m 28 #[.val (.ref a1), .val (.ref a2), .val (.int (3 : Int32))] [])) t → Steps p.tables e below (s₁.setTop (entryFrame m #[(.ref a1), (.ref a2)] 3)) t := by
      intro t k
      refine pre253 _ ?_
      show Steps p.tables e below (s₁.setTop (mkF m 23 #[.val (.ref a1), .val (.ref a2), .val (.int (3 : Int32))] [(.int (3 : Int32)), (.int (3 : Int32))])) _
      refine XS.icmpYes X0.here hx rfl (pc0 := 23) (pc' := 28) rfl (hb hby d14_23) rfl (teq (rfl : (3 : Int32) = (3 : Int32))).1 (by decide) (by decide) ?_
      exact k
    have pre256 : ∀ t, Steps p.tables e below (s₁.setTop (mkF m 31 #[.val (.ref a1), .val (.ref a2), .val (.int (3 : Int32))] [(.int (3 : Int32)), (.ref a2), (.ref a1)])) t → Steps p.tables e below (s₁.setTop (entryFrame m #[(.ref a1), (.ref a2)] 3)) t := by
      intro t k
      refine pre255 _ ?_
      show Steps p.tables e below (s₁.setTop (mkF m 28 #[.val (.ref a1), .val (.ref a2), .val (.int (3 : Int32))] [])) _
      refine XS.aloadN X0.here hx rfl (hb hby d14_28) rfl rfl ?_
      show Steps p.tables e below (s₁.setTop (mkF m 29 #[.val (.ref a1), .val (.ref a2), .val (.int (3 : Int32))] [(.ref a1)])) _
      refine XS.aloadN X0.here hx rfl (hb hby d14_29) rfl rfl ?_
      show Steps p.tables e below (s₁.setTop (mkF m 30 #[.val (.ref a1), .val (.ref a2), .val (.int (3 : Int32))] [(.ref a2), (.ref a1)])) _
      refine XS.iloadN X0.here hx rfl (hb hby d14_30) rfl ?_
      exact k
    obtain ⟨_, _, ⟨T257, L257, k257, n257⟩, -, X257, ⟨Lc257, hQ257, l257, y257, z257⟩, st257⟩ := Jvm.LawKit.callS X0 hx (y := (⟨"jdk/internal/util/ArraysSupport", "mismatch", "([B[BI)I"⟩ : MethodName)) hown (mvT hZ (hw _ (List.mem_of_getElem? (i := 88) rfl))) (mvT hZ (hw _ (List.mem_of_getElem? (i := 89) rfl))) (mvT hZ (hw _ (List.mem_of_getElem? (i := 90) rfl))) (mvT hZ (hw _ (List.mem_of_getElem? (i := 91) rfl))) (by decide) (backOf (W := 0) (rm153 l Z a0 hw [] a1 a2 k1 k2 x0 x1 x2 h0 n0 Z0 A1 A2) hZ (hw _ (List.mem_of_getElem? (i := 91) rfl)) (hw _ (List.mem_of_getElem? (i := 90) rfl)) (by decide) (by decide)) (g := (mkF m 31 #[.val (.ref a1), .val (.ref a2), .val (.int (3 : Int32))] [(.int (3 : Int32)), (.ref a2), (.ref a1)])) rfl (by rw [hml]; rfl) (argsL := [(.ref a1), (.ref a2), (.int (3 : Int32))]) (rest := []) (lenOf pd___B_BI_I rfl) rfl (by show 2 * 0 + _ ≤ _; exact Nat.le_of_eq rfl) (hb hby d14_31) (fun _ _ => ⟨rfl, e0, (by decide : 0 + 0 ≤ _), (by decide : 0 + 0 ≤ _)⟩)
    dsimp only [Pt.U, Pt.locs, Pt.cells, Pt.slots] at X257 l257 y257 z257 st257 hQ257
    subst l257 y257 z257
    obtain ⟨rfl, N257q, e257⟩ := hQ257
    have N257 := Fr.app N0 N257q
    have pre258 : ∀ t, Steps p.tables e below (T257.setTop (mkF m 34 #[.val (.ref a1), .val (.ref a2), .val (.int (3 : Int32))] [(.int (-1 : Int32))])) t → Steps p.tables e below (s₁.setTop (entryFrame m #[(.ref a1), (.ref a2)] 3)) t := by
      intro t k
      refine pre256 _ ?_
      show Steps p.tables e below (s₁.setTop (mkF m 31 #[.val (.ref a1), .val (.ref a2), .val (.int (3 : Int32))] [(.int (3 : Int32)), (.ref a2), (.ref a1)])) _
      refine st257 _ ?_
      exact k
    have pre260 : ∀ t, Steps p.tables e below (T257.setTop (mkF m 37 #[.val (.ref a1), .val (.ref a2), .val (.int (3 : Int32))] [])) t → Steps p.tables e below (s₁.setTop (entryFrame m #[(.ref a1), (.ref a2)] 3)) t := by
      intro t k
      refine pre258 _ ?_
      show Steps p.tables e below (T257.setTop (mkF m 34 #[.val (.ref a1), .val (.ref a2), .val (.int (3 : Int32))] [(.int (-1 : Int32))])) _
      refine XS.ifNo X257.here hx rfl (hb hby d14_34) rfl ((if0 _ _).trans (tlt (by decide : (-1 : Int32) < (0 : Int32))).2.1) ?_
      exact k
    have pre261 : ∀ t, Steps p.tables e below (T257.setTop (mkF m 42 #[.val (.ref a1), .val (.ref a2), .val (.int (3 : Int32))] [(.int (1 : Int32))])) t → Steps p.tables e below (s₁.setTop (entryFrame m #[(.ref a1), (.ref a2)] 3)) t := by
      intro t k
      refine pre260 _ ?_
      show Steps p.tables e below (T257.setTop (mkF m 37 #[.val (.ref a1), .val (.ref a2), .val (.int (3 : Int32))] [])) _
      refine XS.iconst X257.here hx rfl (hb hby d14_37) ?_
      show Steps p.tables e below (T257.setTop (mkF m 38 #[.val (.ref a1), .val (.ref a2), .val (.int (3 : Int32))] [(.int (1 : Int32))])) _
      refine XS.goto X257.here hx rfl (pc0 := 38) (pc' := 42) rfl (hb hby d14_38) (by decide) (by decide) ?_
      exact k
    obtain ⟨fs, hr, hrun, hended, hW, hsame⟩ := X257.leave (v := some (.int (1 : Int32))) (fun h => by rw [hret] at h; cases h) (hlocks := hlocks)
    refine ⟨_, _, pre261 _ ?_, hrun, hended, _, _, rfl, ?_, ⟨_, rfl⟩, hW, hsame.mono (by decide) (by decide)⟩
    · show Steps p.tables e below (T257.setTop (mkF m 42 #[.val (.ref a1), .val (.ref a2), .val (.int (3 : Int32))] [(.int (1 : Int32))])) _
      exact retN X257 hx (t := .boolean) hret (by simp) (hb hby d14_42) hr
    · show Q143 Z a1 a2 k1 k2 x0 x1 x2 h0 n0 _ T257.heap _
      rw [e257]
      exact ⟨rfl, N257, rfl⟩
theorem ef_133 (m : MethodId) (x0 : Addr) (x1 : Addr) : entryFrame m #[(.ref x0), (.ref x1)] 3 = mkF m 0 #[.val (.ref x0), .val (.ref x1), .unset] [] := by first | (simp [entryFrame, mkF, argsToLocals, Value.category]; done) | rfl
def Q133 (Z : State) (a1 : Addr) (a2 : Addr) (f1 : Int32) (d1 : Addr) (d2 : Addr) (k1 : ClassId) (k2 : ClassId) (x0 : Int32) (x1 : Int32) (x2 : Int32) (h0 : Heap) (n0 : Nat) (v : Option Value) (h : Heap) (L : List Loc) : Prop := v = some (.int (1 : Int32)) ∧ Fr n0 L ∧ h = h0
set_option maxRecDepth 65536 in
set_option maxHeartbeats 40000000 in
theorem rm133 (l : Launch) (Z : State) (a0 : Array Value) (hw : ∀ d ∈ tables_1, d.before a0 Z = true) (ws : List Jvm.Cond) (a1 : Addr) (a2 : Addr) (f1 : Int32) (d1 : Addr) (d2 : Addr) (k1 : ClassId) (k2 : ClassId) (x0 : Int32) (x1 : Int32) (x2 : Int32) (h0 : Heap) (n0 : Nat) (Z0 : n0 ≤ h0.size) (E_a2 : Exa Z h0 a2 "com/example/message_buffer/messagebuffer/model/Message") (S1 : Fld Z h0 a1 "com/example/message_buffer/messagebuffer/model/Message" "source" "Lcom/example/message_buffer/messagebuffer/model/Message$Source;" .null) (G1 : Fld Z h0 a1 "com/example/message_buffer/messagebuffer/model/Message" "flags" "I" (.int f1)) (G2 : Fld Z h0 a2 "com/example/message_buffer/messagebuffer/model/Message" "flags" "I" (.int f1)) (D1 : Fld Z h0 a1 "com/example/message_buffer/messagebuffer/model/Message" "data" "[B" (.ref d1)) (D2 : Fld Z h0 a2 "com/example/message_buffer/messagebuffer/model/Message" "data" "[B" (.ref d2)) (A1 : Arv Z h0 d1 k1 .byte (3 : Int32) [(.int x0), (.int x1), (.int x2)] (.int (0 : Int32))) (A2 : Arv Z h0 d2 k2 .byte (3 : Int32) [(.int x0), (.int x1), (.int x2)] (.int (0 : Int32))) :
    MetFree l (⟨"com/example/message_buffer/messagebuffer/model/Message", "equals", "(Ljava/lang/Object;)Z"⟩ : MethodName) (head1 (Jvm.Cond.code (⟨"com/example/message_buffer/messagebuffer/model/Message", "equals", "(Ljava/lang/Object;)Z"⟩ : MethodName) prog_14_method_17_code 3 (some .boolean) :: ws) ({ frames := 2, cells := 0, slots := 0, locals := 29 } : Room)) (fun a U => a = #[(.ref a1), (.ref a2)] ∧ Z.Warmed39 U.vm ∧ U.heap = h0) (fun _ _ _ _ _ => True) (fun _ U o U' => ∃ v L, o = .returned v ∧ Q133 Z a1 a2 f1 d1 d2 k1 k2 x0 x1 x2 h0 n0 v U'.heap L ∧ FrameEnd U o U' L ({ frames := 2, cells := 0, slots := 0, locals := 29 } : Room).cells ({ frames := 2, cells := 0, slots := 0, locals := 29 } : Room).slots) := by
  refine MetFree.of_bodySF (plainFor_of_name pn_3) hisR ?_
  intro p e s m args below meth c s₁ Bd hml0 hP hK
  obtain ⟨rfl, hZ, hh⟩ := hP
  have hx := Bd.exec
  have hby := Bd.bytes
  have hml : c.maxLocals = 3 := hml0
  have hown : s.vm.findClass "com/example/message_buffer/messagebuffer/model/Message" = some m.cls := findClass_of_methodNamed Bd.named
  have hnm := (name_of_methodNamed Bd.named Bd.method).1
  have hret := Bd.returns
  have hlocks : meth.locks = false := Bd.notSynchronized
  have X0 : Stand p l e ({ frames := 2, cells := 0, slots := 0, locals := 29 } : Room) s m #[(.ref a1), (.ref a2)] below meth c s₁ [] 0 0 := Stand.of_body Bd
  have e0 : s₁.heap = h0 := by rw [← hh, Bd.state]; rfl
  have N0 := Fr.nil n0
  have pre0 : ∀ t, Steps p.tables e below (s₁.setTop (mkF m 0 #[.val (.ref a1), .val (.ref a2), .unset] [])) t → Steps p.tables e below (s₁.setTop (entryFrame m #[(.ref a1), (.ref a2)] 3)) t := fun t k => castTop (ef_133 m a1 a2) k
  have pre262 : ∀ t, Steps p.tables e below (s₁.setTop (mkF m 1 #[.val (.ref a1), .val (.ref a2), .unset] [(.ref a1)])) t → Steps p.tables e below (s₁.setTop (entryFrame m #[(.ref a1), (.ref a2)] 3)) t := by
    intro t k
    refine pre0 _ ?_
    show Steps p.tables e below (s₁.setTop (mkF m 0 #[.val (.ref a1), .val (.ref a2), .unset] [])) _
    refine XS.aloadN X0.here hx rfl (hb hby d13_0) rfl rfl ?_
    exact k
  obtain ⟨T263, X263, e263, st263⟩ := getF X0 hx hZ hown (host := "") (Or.inl (hw _ (List.mem_of_getElem? (i := 33) rfl))) Via.refl e0 S1 (g := (mkF m 1 #[.val (.ref a1), .val (.ref a2), .unset] [(.ref a1)])) rfl rfl (hb hby d13_1)
  have pre264 : ∀ t, Steps p.tables e below (T263.setTop (mkF m 4 #[.val (.ref a1), .val (.ref a2), .unset] [.null])) t → Steps p.tables e below (s₁.setTop (entryFrame m #[(.ref a1), (.ref a2)] 3)) t := by
    intro t k
    refine pre262 _ ?_
    show Steps p.tables e below (s₁.setTop (mkF m 1 #[.val (.ref a1), .val (.ref a2), .unset] [(.ref a1)])) _
    refine st263 _ ?_
    exact k
  have pre265 : ∀ t, Steps p.tables e below (T263.setTop (mkF m 19 #[.val (.ref a1), .val (.ref a2), .unset] [(.ref a2)])) t → Steps p.tables e below (s₁.setTop (entryFrame m #[(.ref a1), (.ref a2)] 3)) t := by
    intro t k
    refine pre264 _ ?_
    show Steps p.tables e below (T263.setTop (mkF m 4 #[.val (.ref a1), .val (.ref a2), .unset] [.null])) _
    refine XS.ifnullYes X263.here hx rfl (pc0 := 4) (pc' := 18) rfl (hb hby d13_4) rfl (by decide) (by decide) ?_
    show Steps p.tables e below (T263.setTop (mkF m 18 #[.val (.ref a1), .val (.ref a2), .unset] [])) _
    refine XS.aloadN X263.here hx rfl (hb hby d13_18) rfl rfl ?_
    exact k
  obtain ⟨T266, X266, e266, st266⟩ := instY X263 hx hZ hown (hw _ (List.mem_of_getElem? (i := 17) rfl)) e263 (Ins.self E_a2) (g := (mkF m 19 #[.val (.ref a1), .val (.ref a2), .unset] [(.ref a2)])) rfl rfl (hb hby d13_19)
  have pre267 : ∀ t, Steps p.tables e below (T266.setTop (mkF m 22 #[.val (.ref a1), .val (.ref a2), .unset] [(.int (1 : Int32))])) t → Steps p.tables e below (s₁.setTop (entryFrame m #[(.ref a1), (.ref a2)] 3)) t := by
    intro t k
    refine pre265 _ ?_
    show Steps p.tables e below (T263.setTop (mkF m 19 #[.val (.ref a1), .val (.ref a2), .unset] [(.ref a2)])) _
    refine st266 _ ?_
    exact k
  have pre269 : ∀ t, Steps p.tables e below (T266.setTop (mkF m 25 #[.val (.ref a1), .val (.ref a2), .unset] [])) t → Steps p.tables e below (s₁.setTop (entryFrame m #[(.ref a1), (.ref a2)] 3)) t := by
    intro t k
    refine pre267 _ ?_
    show Steps p.tables e below (T266.setTop (mkF m 22 #[.val (.ref a1), .val (.ref a2), .unset] [(.int (1 : Int32))])) _
    refine XS.ifNo X266.here hx rfl (hb hby d13_22) rfl ((if0 _ _).trans (feq (by decide : ¬ ((1 : Int32) = (0 : Int32)))).1) ?_
    exact k
  have pre270 : ∀ t, Steps p.tables e below (T266.setTop (mkF m 26 #[.val (.ref a1), .val (.ref a2), .unset] [(.ref a2)])) t → Steps p.tables e below (s₁.setTop (entryFrame m #[(.ref a1), (.ref a2)] 3)) t := by
    intro t k
    refine pre269 _ ?_
    show Steps p.tables e below (T266.setTop (mkF m 25 #[.val (.ref a1), .val (.ref a2), .unset] [])) _
    refine XS.aloadN X266.here hx rfl (hb hby d13_25) rfl rfl ?_
    exact k
  obtain ⟨T271, X271, e271, st271⟩ := castY X266 hx hZ hown (hw _ (List.mem_of_getElem? (i := 17) rfl)) e266 (Ins.self E_a2) (g := (mkF m 26 #[.val (.ref a1), .val (.ref a2), .unset] [(.ref a2)])) rfl rfl (hb hby d13_26)
  have pre272 : ∀ t, Steps p.tables e below (T271.setTop (mkF m 29 #[.val (.ref a1), .val (.ref a2), .unset] [(.ref a2)])) t → Steps p.tables e below (s₁.setTop (entryFrame m #[(.ref a1), (.ref a2)] 3)) t := by
    intro t k
    refine pre270 _ ?_
    show Steps p.tables e below (T266.setTop (mkF m 26 #[.val (.ref a1), .val (.ref a2), .unset] [(.ref a2)])) _
    refine st271 _ ?_
    exact k
  have pre273 : ∀ t, Steps p.tables e below (T271.setTop (mkF m 31 #[.val (.ref a1), .val (.ref a2), .val (.ref a2)] [(.ref a1)])) t → Steps p.tables e below (s₁.setTop (entryFrame m #[(.ref a1), (.ref a2)] 3)) t := by
    intro t k
    refine pre272 _ ?_
    show Steps p.tables e below (T271.setTop (mkF m 29 #[.val (.ref a1), .val (.ref a2), .unset] [(.ref a2)])) _
    refine XS.astoreN X271.here hx rfl (hb hby d13_29) rfl rfl (l' := #[.val (.ref a1), .val (.ref a2), .val (.ref a2)]) rfl ?_
    show Steps p.tables e below (T271.setTop (mkF m 30 #[.val (.ref a1), .val (.ref a2), .val (.ref a2)] [])) _
    refine XS.aloadN X271.here hx rfl (hb hby d13_30) rfl rfl ?_
    exact k
  obtain ⟨T274, X274, e274, st274⟩ := getF X271 hx hZ hown (host := "") (Or.inl (hw _ (List.mem_of_getElem? (i := 29) rfl))) Via.refl e271 G1 (g := (mkF m 31 #[.val (.ref a1), .val (.ref a2), .val (.ref a2)] [(.ref a1)])) rfl rfl (hb hby d13_31)
  have pre275 : ∀ t, Steps p.tables e below (T274.setTop (mkF m 34 #[.val (.ref a1), .val (.ref a2), .val (.ref a2)] [(.int f1)])) t → Steps p.tables e below (s₁.setTop (entryFrame m #[(.ref a1), (.ref a2)] 3)) t := by
    intro t k
    refine pre273 _ ?_
    show Steps p.tables e below (T271.setTop (mkF m 31 #[.val (.ref a1), .val (.ref a2), .val (.ref a2)] [(.ref a1)])) _
    refine st274 _ ?_
    exact k
  have pre276 : ∀ t, Steps p.tables e below (T274.setTop (mkF m 35 #[.val (.ref a1), .val (.ref a2), .val (.ref a2)] [(.ref a2), (.int f1)])) t → Steps p.tables e below (s₁.setTop (entryFrame m #[(.ref a1), (.ref a2)] 3)) t := by
    intro t k
    refine pre275 _ ?_
    show Steps p.tables e below (T274.setTop (mkF m 34 #[.val (.ref a1), .val (.ref a2), .val (.ref a2)] [(.int f1)])) _
    refine XS.aloadN X274.here hx rfl (hb hby d13_34) rfl rfl ?_
    exact k
  obtain ⟨T277, X277, e277, st277⟩ := getF X274 hx hZ hown (host := "") (Or.inl (hw _ (List.mem_of_getElem? (i := 29) rfl))) Via.refl e274 G2 (g := (mkF m 35 #[.val (.ref a1), .val (.ref a2), .val (.ref a2)] [(.ref a2), (.int f1)])) rfl rfl (hb hby d13_35)
  have pre278 : ∀ t, Steps p.tables e below (T277.setTop (mkF m 38 #[.val (.ref a1), .val (.ref a2), .val (.ref a2)] [(.int f1), (.int f1)])) t → Steps p.tables e below (s₁.setTop (entryFrame m #[(.ref a1), (.ref a2)] 3)) t := by
    intro t k
    refine pre276 _ ?_
    show Steps p.tables e below (T274.setTop (mkF m 35 #[.val (.ref a1), .val (.ref a2), .val (.ref a2)] [(.ref a2), (.int f1)])) _
    refine st277 _ ?_
    exact k
  have pre280 : ∀ t, Steps p.tables e below (T277.setTop (mkF m 41 #[.val (.ref a1), .val (.ref a2), .val (.ref a2)] [])) t → Steps p.tables e below (s₁.setTop (entryFrame m #[(.ref a1), (.ref a2)] 3)) t := by
    intro t k
    refine pre278 _ ?_
    show Steps p.tables e below (T277.setTop (mkF m 38 #[.val (.ref a1), .val (.ref a2), .val (.ref a2)] [(.int f1), (.int f1)])) _
    refine XS.icmpNo X277.here hx rfl (hb hby d13_38) rfl (teq (rfl : f1 = f1)).2 ?_
    exact k
  have pre281 : ∀ t, Steps p.tables e below (T277.setTop (mkF m 42 #[.val (.ref a1), .val (.ref a2), .val (.ref a2)] [(.ref a1)])) t → Steps p.tables e below (s₁.setTop (entryFrame m #[(.ref a1), (.ref a2)] 3)) t := by
    intro t k
    refine pre280 _ ?_
    show Steps p.tables e below (T277.setTop (mkF m 41 #[.val (.ref a1), .val (.ref a2), .val (.ref a2)] [])) _
    refine XS.aloadN X277.here hx rfl (hb hby d13_41) rfl rfl ?_
    exact k
  obtain ⟨T282, X282, e282, st282⟩ := getF X277 hx hZ hown (host := "") (Or.inl (hw _ (List.mem_of_getElem? (i := 31) rfl))) Via.refl e277 D1 (g := (mkF m 42 #[.val (.ref a1), .val (.ref a2), .val (.ref a2)] [(.ref a1)])) rfl rfl (hb hby d13_42)
  have pre283 : ∀ t, Steps p.tables e below (T282.setTop (mkF m 45 #[.val (.ref a1), .val (.ref a2), .val (.ref a2)] [(.ref d1)])) t → Steps p.tables e below (s₁.setTop (entryFrame m #[(.ref a1), (.ref a2)] 3)) t := by
    intro t k
    refine pre281 _ ?_
    show Steps p.tables e below (T277.setTop (mkF m 42 #[.val (.ref a1), .val (.ref a2), .val (.ref a2)] [(.ref a1)])) _
    refine st282 _ ?_
    exact k
  have pre284 : ∀ t, Steps p.tables e below (T282.setTop (mkF m 46 #[.val (.ref a1), .val (.ref a2), .val (.ref a2)] [(.ref a2), (.ref d1)])) t → Steps p.tables e below (s₁.setTop (entryFrame m #[(.ref a1), (.ref a2)] 3)) t := by
    intro t k
    refine pre283 _ ?_
    show Steps p.tables e below (T282.setTop (mkF m 45 #[.val (.ref a1), .val (.ref a2), .val (.ref a2)] [(.ref d1)])) _
    refine XS.aloadN X282.here hx rfl (hb hby d13_45) rfl rfl ?_
    exact k
  obtain ⟨T285, X285, e285, st285⟩ := getF X282 hx hZ hown (host := "") (Or.inl (hw _ (List.mem_of_getElem? (i := 31) rfl))) Via.refl e282 D2 (g := (mkF m 46 #[.val (.ref a1), .val (.ref a2), .val (.ref a2)] [(.ref a2), (.ref d1)])) rfl rfl (hb hby d13_46)
  have pre286 : ∀ t, Steps p.tables e below (T285.setTop (mkF m 49 #[.val (.ref a1), .val (.ref a2), .val (.ref a2)] [(.ref d2), (.ref d1)])) t → Steps p.tables e below (s₁.setTop (entryFrame m #[(.ref a1), (.ref a2)] 3)) t := by
    intro t k
    refine pre284 _ ?_
    show Steps p.tables e below (T282.setTop (mkF m 46 #[.val (.ref a1), .val (.ref a2), .val (.ref a2)] [(.ref a2), (.ref d1)])) _
    refine st285 _ ?_
    exact k
  obtain ⟨_, _, ⟨T287, L287, k287, n287⟩, -, X287, ⟨Lc287, hQ287, l287, y287, z287⟩, st287⟩ := Jvm.LawKit.callS X285 hx (y := (⟨"java/util/Arrays", "equals", "([B[B)Z"⟩ : MethodName)) hown (mvT hZ (hw _ (List.mem_of_getElem? (i := 84) rfl))) (mvT hZ (hw _ (List.mem_of_getElem? (i := 85) rfl))) (mvT hZ (hw _ (List.mem_of_getElem? (i := 86) rfl))) (mvT hZ (hw _ (List.mem_of_getElem? (i := 87) rfl))) (by decide) (backOf (W := 0) (rm143 l Z a0 hw [] d1 d2 k1 k2 x0 x1 x2 h0 n0 Z0 A1 A2) hZ (hw _ (List.mem_of_getElem? (i := 87) rfl)) (hw _ (List.mem_of_getElem? (i := 86) rfl)) (by decide) (by decide)) (g := (mkF m 49 #[.val (.ref a1), .val (.ref a2), .val (.ref a2)] [(.ref d2), (.ref d1)])) rfl (by rw [hml]; rfl) (argsL := [(.ref d1), (.ref d2)]) (rest := []) (lenOf pd___B_B_Z rfl) rfl (by show 2 * 0 + _ ≤ _; exact Nat.le_of_eq rfl) (hb hby d13_49) (fun _ _ => ⟨rfl, e285, (by decide : 0 + 0 ≤ _), (by decide : 0 + 0 ≤ _)⟩)
  dsimp only [Pt.U, Pt.locs, Pt.cells, Pt.slots] at X287 l287 y287 z287 st287 hQ287
  subst l287 y287 z287
  obtain ⟨rfl, N287q, e287⟩ := hQ287
  have N287 := Fr.app N0 N287q
  have pre288 : ∀ t, Steps p.tables e below (T287.setTop (mkF m 52 #[.val (.ref a1), .val (.ref a2), .val (.ref a2)] [(.int (1 : Int32))])) t → Steps p.tables e below (s₁.setTop (entryFrame m #[(.ref a1), (.ref a2)] 3)) t := by
    intro t k
    refine pre286 _ ?_
    show Steps p.tables e below (T285.setTop (mkF m 49 #[.val (.ref a1), .val (.ref a2), .val (.ref a2)] [(.ref d2), (.ref d1)])) _
    refine st287 _ ?_
    exact k
  have pre290 : ∀ t, Steps p.tables e below (T287.setTop (mkF m 55 #[.val (.ref a1), .val (.ref a2), .val (.ref a2)] [])) t → Steps p.tables e below (s₁.setTop (entryFrame m #[(.ref a1), (.ref a2)] 3)) t := by
    intro t k
    refine pre288 _ ?_
    show Steps p.tables e below (T287.setTop (mkF m 52 #[.val (.ref a1), .val (.ref a2), .val (.ref a2)] [(.int (1 : Int32))])) _
    refine XS.ifNo X287.here hx rfl (hb hby d13_52) rfl ((if0 _ _).trans (feq (by decide : ¬ ((1 : Int32) = (0 : Int32)))).1) ?_
    exact k
  have pre291 : ∀ t, Steps p.tables e below (T287.setTop (mkF m 60 #[.val (.ref a1), .val (.ref a2), .val (.ref a2)] [(.int (1 : Int32))])) t → Steps p.tables e below (s₁.setTop (entryFrame m #[(.ref a1), (.ref a2)] 3)) t := by
    intro t k
    refine pre290 _ ?_
    show Steps p.tables e below (T287.setTop (mkF m 55 #[.val (.ref a1), .val (.ref a2), .val (.ref a2)] [])) _
    refine XS.iconst X287.here hx rfl (hb hby d13_55) ?_
    show Steps p.tables e below (T287.setTop (mkF m 56 #[.val (.ref a1), .val (.ref a2), .val (.ref a2)] [(.int (1 : Int32))])) _
    refine XS.goto X287.here hx rfl (pc0 := 56) (pc' := 60) rfl (hb hby d13_56) (by decide) (by decide) ?_
    exact k
  obtain ⟨fs, hr, hrun, hended, hW, hsame⟩ := X287.leave (v := some (.int (1 : Int32))) (fun h => by rw [hret] at h; cases h) (hlocks := hlocks)
  refine ⟨_, _, pre291 _ ?_, hrun, hended, _, _, rfl, ?_, ⟨_, rfl⟩, hW, hsame.mono (by decide) (by decide)⟩
  · show Steps p.tables e below (T287.setTop (mkF m 60 #[.val (.ref a1), .val (.ref a2), .val (.ref a2)] [(.int (1 : Int32))])) _
    exact retN X287 hx (t := .boolean) hret (by simp) (hb hby d13_60) hr
  · show Q133 Z a1 a2 f1 d1 d2 k1 k2 x0 x1 x2 h0 n0 _ T287.heap _
    rw [e287]
    exact ⟨rfl, N287, rfl⟩
theorem d1_0 : decode prog_14_method_5_code 0 = .ok (.aload_n 2, 1) := by decide +kernel
theorem d1_1 : decode prog_14_method_5_code 1 = .ok (.ldc 24, 2) := by decide +kernel
theorem d1_3 : decode prog_14_method_5_code 3 = .ok (.invokestatic 25, 3) := by decide +kernel
theorem pd__Ljava_lang_Object_Ljava_lang_String__Ljava_lang_Object_ : parseMethodDescriptor "(Ljava/lang/Object;Ljava/lang/String;)Ljava/lang/Object;" = some ⟨[(.object "java/lang/Object"), (.object "java/lang/String")], some (.object "java/lang/Object")⟩ := by decide +kernel
theorem d1_6 : decode prog_14_method_5_code 6 = .ok (.pop, 1) := by decide +kernel
theorem d1_7 : decode prog_14_method_5_code 7 = .ok (.new 8, 3) := by decide +kernel
theorem d1_10 : decode prog_14_method_5_code 10 = .ok (.dup, 1) := by decide +kernel
theorem d1_11 : decode prog_14_method_5_code 11 = .ok (.lload_n 0, 1) := by decide +kernel
theorem d1_12 : decode prog_14_method_5_code 12 = .ok (.invokestatic 31, 3) := by decide +kernel
theorem pd__J_I : parseMethodDescriptor "(J)I" = some ⟨[.long], some .int⟩ := by decide +kernel
theorem d1_15 : decode prog_14_method_5_code 15 = .ok (.aload_n 2, 1) := by decide +kernel
theorem d1_16 : decode prog_14_method_5_code 16 = .ok (.invokespecial 40, 3) := by decide +kernel
theorem pd__I_B_V : parseMethodDescriptor "(I[B)V" = some ⟨[.int, (.array .byte)], none⟩ := by decide +kernel
theorem d1_19 : decode prog_14_method_5_code 19 = .ok (.areturn, 1) := by decide +kernel
theorem ef_1 (m : MethodId) (x0 : Int64) (x1 : Addr) : entryFrame m #[(.long x0), (.ref x1)] 3 = mkF m 0 #[.val (.long x0), .second, .val (.ref x1)] [] := by first | (simp [entryFrame, mkF, argsToLocals, Value.category]; done) | rfl
def Q1 (Z : State) (q1 : Int64) (a2 : Addr) (k : ClassId) (z : Int32) (vs : List Value) (dv : Value) (h0 : Heap) (n0 : Nat) (v : Option Value) (h : Heap) (L : List Loc) : Prop := ∃ r : Addr, v = some (.ref r) ∧ Fr n0 L ∧ Keep h0 h [] ∧ h0.size ≤ r ∧ Exa Z h r "com/example/message_buffer/messagebuffer/model/Message" ∧ Fld Z h r "com/example/message_buffer/messagebuffer/model/Message" "flags" "I" (.int (q1.toInt32)) ∧ Fld Z h r "com/example/message_buffer/messagebuffer/model/Message" "data" "[B" (.ref a2) ∧ Fld Z h r "com/example/message_buffer/messagebuffer/model/Message" "source" "Lcom/example/message_buffer/messagebuffer/model/Message$Source;" .null ∧ Fld Z h r "com/example/message_buffer/messagebuffer/model/Message" "size" "I" (.int z)
set_option maxRecDepth 65536 in
set_option maxHeartbeats 40000000 in
theorem rm1 (l : Launch) (Z : State) (a0 : Array Value) (hw : ∀ d ∈ tables_1, d.before a0 Z = true) (ws : List Jvm.Cond) (q1 : Int64) (a2 : Addr) (k : ClassId) (z : Int32) (vs : List Value) (dv : Value) (h0 : Heap) (n0 : Nat) (Z0 : n0 ≤ h0.size) (hc0 : ¬ ((lcmpW q1 (0 : Int64)) < (0 : Int32))) (hc1 : ¬ ((0 : Int32) < (lcmpW q1 (4294967295 : Int64)))) (A2 : Arv Z h0 a2 k .byte z vs dv) :
    MetFree l (⟨"com/example/message_buffer/messagebuffer/model/Message", "adopt", "(J[B)Lcom/example/message_buffer/messagebuffer/model/Message;"⟩ : MethodName) (head1 (Jvm.Cond.code (⟨"com/example/message_buffer/messagebuffer/model/Message", "adopt", "(J[B)Lcom/example/message_buffer/messagebuffer/model/Message;"⟩ : MethodName) prog_14_method_5_code 3 (some (.object "com/example/message_buffer/messagebuffer/model/Message")) :: ws) ({ frames := 2, cells := 3, slots := 24, locals := 27 } : Room)) (fun a U => a = #[(.long q1), (.ref a2)] ∧ Z.Warmed39 U.vm ∧ U.heap = h0) (fun _ _ _ _ _ => True) (fun _ U o U' => ∃ v L, o = .returned v ∧ Q1 Z q1 a2 k z vs dv h0 n0 v U'.heap L ∧ ReturnedEndW U o U' L ({ frames := 2, cells := 3, slots := 24, locals := 27 } : Room).cells ({ frames := 2, cells := 3, slots := 24, locals := 27 } : Room).slots) := by
  refine MetFree.of_bodySF (plainFor_of_name pn_3) hisR ?_
  intro p e s m args below meth c s₁ Bd hml0 hP hK
  obtain ⟨rfl, hZ, hh⟩ := hP
  have hx := Bd.exec
  have hby := Bd.bytes
  have hml : c.maxLocals = 3 := hml0
  have hown : s.vm.findClass "com/example/message_buffer/messagebuffer/model/Message" = some m.cls := findClass_of_methodNamed Bd.named
  have hnm := (name_of_methodNamed Bd.named Bd.method).1
  have hret := Bd.returns
  have hlocks : meth.locks = false := Bd.notSynchronized
  have X0 : Stand p l e ({ frames := 2, cells := 3, slots := 24, locals := 27 } : Room) s m #[(.long q1), (.ref a2)] below meth c s₁ [] 0 0 := Stand.of_body Bd
  have e0 : s₁.heap = h0 := by rw [← hh, Bd.state]; rfl
  have N0 := Fr.nil n0
  have hS0 : s.Since s.vm h0.size := (State.WarmedH.refl s).since _
  have SK0 : h0.size ≤ h0.size := Nat.le_refl _
  have pre0 : ∀ t, Steps p.tables e below (s₁.setTop (mkF m 0 #[.val (.long q1), .second, .val (.ref a2)] [])) t → Steps p.tables e below (s₁.setTop (entryFrame m #[(.long q1), (.ref a2)] 3)) t := fun t k => castTop (ef_1 m q1 a2) k
  have pre292 : ∀ t, Steps p.tables e below (s₁.setTop (mkF m 1 #[.val (.long q1), .second, .val (.ref a2)] [(.ref a2)])) t → Steps p.tables e below (s₁.setTop (entryFrame m #[(.long q1), (.ref a2)] 3)) t := by
    intro t k
    refine pre0 _ ?_
    show Steps p.tables e below (s₁.setTop (mkF m 0 #[.val (.long q1), .second, .val (.ref a2)] [])) _
    refine XS.aloadN X0.here hx rfl (hb hby d1_0) rfl rfl ?_
    exact k
  obtain ⟨l293, T293, h293, kk293, X293, e293, E293, hS293, sk293, hZ293, hown293, st293⟩ := ldcS (s := s) (vm0 := s.vm) X0 hx hZ hown (hw _ (List.mem_of_getElem? (i := 6) rfl)) (own_wS hw) e0 hS0 SK0 (g := (mkF m 1 #[.val (.long q1), .second, .val (.ref a2)] [(.ref a2)])) rfl (hb hby d1_1) (n := 16) (by decide) (by decide) (by decide) (by decide)
  have Z294 : n0 ≤ h293.size := Nat.le_trans Z0 E293.1
  have KP295 := (Keep.refl h0 []).ext E293
  have pre296 : ∀ t, Steps p.tables e below (T293.setTop (mkF m 3 #[.val (.long q1), .second, .val (.ref a2)] [(.ref l293), (.ref a2)])) t → Steps p.tables e below (s₁.setTop (entryFrame m #[(.long q1), (.ref a2)] 3)) t := by
    intro t k
    refine pre292 _ ?_
    show Steps p.tables e below (s₁.setTop (mkF m 1 #[.val (.long q1), .second, .val (.ref a2)] [(.ref a2)])) _
    refine st293 _ ?_
    exact k
  obtain ⟨_, _, ⟨T297, L297, k297, n297⟩, -, X297, ⟨Lc297, hQ297, l297, y297, z297⟩, st297⟩ := Jvm.LawKit.callS X293 hx (y := (⟨"java/util/Objects", "requireNonNull", "(Ljava/lang/Object;Ljava/lang/String;)Ljava/lang/Object;"⟩ : MethodName)) hown293 (mvT hZ293 (hw _ (List.mem_of_getElem? (i := 13) rfl))) (mvT hZ293 (hw _ (List.mem_of_getElem? (i := 14) rfl))) (mvT hZ293 (hw _ (List.mem_of_getElem? (i := 15) rfl))) (mvT hZ293 (hw _ (List.mem_of_getElem? (i := 16) rfl))) (by decide) (backOf (W := 0) (rm2 l Z a0 hw [] a2 l293 h293 n0 Z294 ) hZ293 (hw _ (List.mem_of_getElem? (i := 16) rfl)) (hw _ (List.mem_of_getElem? (i := 15) rfl)) (by decide) (by decide)) (g := (mkF m 3 #[.val (.long q1), .second, .val (.ref a2)] [(.ref l293), (.ref a2)])) rfl (by rw [hml]; rfl) (argsL := [(.ref a2), (.ref l293)]) (rest := []) (lenOf pd__Ljava_lang_Object_Ljava_lang_String__Ljava_lang_Object_ rfl) rfl (by show 2 * 0 + _ ≤ _; exact Nat.le_of_eq rfl) (hb hby d1_3) (fun _ _ => ⟨rfl, e293, (by decide : 2 + 0 ≤ _), (by decide : 20 + 0 ≤ _)⟩)
  dsimp only [Pt.U, Pt.locs, Pt.cells, Pt.slots] at X297 l297 y297 z297 st297 hQ297
  subst l297 y297 z297
  obtain ⟨rfl, N297q, e297⟩ := hQ297
  have N297 := Fr.app N0 N297q
  have pre298 : ∀ t, Steps p.tables e below (T297.setTop (mkF m 6 #[.val (.long q1), .second, .val (.ref a2)] [(.ref a2)])) t → Steps p.tables e below (s₁.setTop (entryFrame m #[(.long q1), (.ref a2)] 3)) t := by
    intro t k
    refine pre296 _ ?_
    show Steps p.tables e below (T293.setTop (mkF m 3 #[.val (.long q1), .second, .val (.ref a2)] [(.ref l293), (.ref a2)])) _
    refine st297 _ ?_
    exact k
  have pre299 : ∀ t, Steps p.tables e below (T297.setTop (mkF m 7 #[.val (.long q1), .second, .val (.ref a2)] [])) t → Steps p.tables e below (s₁.setTop (entryFrame m #[(.long q1), (.ref a2)] 3)) t := by
    intro t k
    refine pre298 _ ?_
    show Steps p.tables e below (T297.setTop (mkF m 6 #[.val (.long q1), .second, .val (.ref a2)] [(.ref a2)])) _
    refine XS.pop X297.here hx rfl (hb hby d1_6) rfl rfl ?_
    exact k
  obtain ⟨T300, h300, X300, e300, E300, A300, D300, -, st300⟩ := newO X297 hx hZ293 hown293 (hw _ (List.mem_of_getElem? (i := 17) rfl)) (hw _ (List.mem_of_getElem? (i := 18) rfl)) (hw _ (List.mem_of_getElem? (i := 4) rfl)) e297 (g := (mkF m 7 #[.val (.long q1), .second, .val (.ref a2)] [])) rfl (hb hby d1_7) (by decide) (by decide)
  obtain ⟨b300, g300⟩ : ∃ z, z = h293.size := ⟨_, rfl⟩
  rw [← g300] at A300 D300 st300
  have g_b300 : n0 ≤ b300 := Nat.le_trans Z294 (Nat.le_of_eq g300.symm)
  have sz_b300 : h0.size ≤ b300 := Nat.le_trans KP295.1 (Nat.le_of_eq g300.symm)
  have ne_a2_b300 : a2 ≠ b300 := Nat.ne_of_lt (Nat.lt_of_lt_of_le (A2.ext E293).lt (Nat.le_of_eq g300.symm))
  have Z301 : n0 ≤ h300.size := Nat.le_trans Z294 E300.1
  have K302 := Nat.le_trans sk293 E300.1
  have KP303 := KP295.ext E300
  have F_flags_b300 : Fld Z h300 b300 "com/example/message_buffer/messagebuffer/model/Message" "flags" "I" (.int (0 : Int32)) := D300 (Or.inr (hw _ (List.mem_of_getElem? (i := 30) rfl))) (ty := .int) (by decide)
  have F_data_b300 : Fld Z h300 b300 "com/example/message_buffer/messagebuffer/model/Message" "data" "[B" .null := D300 (Or.inr (hw _ (List.mem_of_getElem? (i := 32) rfl))) (ty := (.array .byte)) (by decide)
  have F_source_b300 : Fld Z h300 b300 "com/example/message_buffer/messagebuffer/model/Message" "source" "Lcom/example/message_buffer/messagebuffer/model/Message$Source;" .null := D300 (Or.inr (hw _ (List.mem_of_getElem? (i := 34) rfl))) (ty := (.object "com/example/message_buffer/messagebuffer/model/Message$Source")) (by decide)
  have F_size_b300 : Fld Z h300 b300 "com/example/message_buffer/messagebuffer/model/Message" "size" "I" (.int (0 : Int32)) := D300 (Or.inr (hw _ (List.mem_of_getElem? (i := 36) rfl))) (ty := .int) (by decide)
  have pre304 : ∀ t, Steps p.tables e below (T300.setTop (mkF m 10 #[.val (.long q1), .second, .val (.ref a2)] [(.ref b300)])) t → Steps p.tables e below (s₁.setTop (entryFrame m #[(.long q1), (.ref a2)] 3)) t := by
    intro t k
    refine pre299 _ ?_
    show Steps p.tables e below (T297.setTop (mkF m 7 #[.val (.long q1), .second, .val (.ref a2)] [])) _
    refine st300 _ ?_
    exact k
  have pre305 : ∀ t, Steps p.tables e below (T300.setTop (mkF m 12 #[.val (.long q1), .second, .val (.ref a2)] [(.long q1), (.ref b300), (.ref b300)])) t → Steps p.tables e below (s₁.setTop (entryFrame m #[(.long q1), (.ref a2)] 3)) t := by
    intro t k
    refine pre304 _ ?_
    show Steps p.tables e below (T300.setTop (mkF m 10 #[.val (.long q1), .second, .val (.ref a2)] [(.ref b300)])) _
    refine XS.dup X300.here hx rfl (hb hby d1_10) rfl rfl ?_
    show Steps p.tables e below (T300.setTop (mkF m 11 #[.val (.long q1), .second, .val (.ref a2)] [(.ref b300), (.ref b300)])) _
    refine XS.lloadN X300.here hx rfl (hb hby d1_11) rfl ?_
    exact k
  obtain ⟨_, _, ⟨T306, L306, k306, n306⟩, -, X306, ⟨Lc306, hQ306, l306, y306, z306⟩, st306⟩ := Jvm.LawKit.callS X300 hx (y := (⟨"com/example/message_buffer/messagebuffer/model/Message", "checked", "(J)I"⟩ : MethodName)) hown293 (mvT hZ293 (hw _ (List.mem_of_getElem? (i := 19) rfl))) (mvT hZ293 (hw _ (List.mem_of_getElem? (i := 20) rfl))) (mvT hZ293 (hw _ (List.mem_of_getElem? (i := 4) rfl))) (mvT hZ293 (hw _ (List.mem_of_getElem? (i := 21) rfl))) (by decide) (backOf (W := 2) (rm3 l Z a0 hw [] q1 h300 n0 Z301 hc0 hc1) hZ293 (hw _ (List.mem_of_getElem? (i := 21) rfl)) (hw _ (List.mem_of_getElem? (i := 4) rfl)) (by decide) (by decide)) (g := (mkF m 12 #[.val (.long q1), .second, .val (.ref a2)] [(.long q1), (.ref b300), (.ref b300)])) rfl (by rw [hml]; rfl) (argsL := [(.long q1)]) (rest := [(.ref b300), (.ref b300)]) (lenOf pd__J_I rfl) rfl (by show 2 * 0 + _ ≤ _; exact Nat.le_of_eq rfl) (hb hby d1_12) (fun _ _ => ⟨rfl, e300, (by decide : 3 + 0 ≤ _), (by decide : 24 + 0 ≤ _)⟩)
  dsimp only [Pt.U, Pt.locs, Pt.cells, Pt.slots] at X306 l306 y306 z306 st306 hQ306
  subst l306 y306 z306
  obtain ⟨rfl, N306q, e306⟩ := hQ306
  have N306 := Fr.app N297 N306q
  have pre307 : ∀ t, Steps p.tables e below (T306.setTop (mkF m 15 #[.val (.long q1), .second, .val (.ref a2)] [(.int (F3 q1)), (.ref b300), (.ref b300)])) t → Steps p.tables e below (s₁.setTop (entryFrame m #[(.long q1), (.ref a2)] 3)) t := by
    intro t k
    refine pre305 _ ?_
    show Steps p.tables e below (T300.setTop (mkF m 12 #[.val (.long q1), .second, .val (.ref a2)] [(.long q1), (.ref b300), (.ref b300)])) _
    refine st306 _ ?_
    exact k
  have pre308 : ∀ t, Steps p.tables e below (T306.setTop (mkF m 16 #[.val (.long q1), .second, .val (.ref a2)] [(.ref a2), (.int (F3 q1)), (.ref b300), (.ref b300)])) t → Steps p.tables e below (s₁.setTop (entryFrame m #[(.long q1), (.ref a2)] 3)) t := by
    intro t k
    refine pre307 _ ?_
    show Steps p.tables e below (T306.setTop (mkF m 15 #[.val (.long q1), .second, .val (.ref a2)] [(.int (F3 q1)), (.ref b300), (.ref b300)])) _
    refine XS.aloadN X306.here hx rfl (hb hby d1_15) rfl rfl ?_
    exact k
  obtain ⟨_, _, ⟨T309, L309, k309, n309⟩, -, X309, ⟨Lc309, hQ309, l309, y309, z309⟩, st309⟩ := X306.specialBack hx (y := (⟨"com/example/message_buffer/messagebuffer/model/Message", "<init>", "(I[B)V"⟩ : MethodName)) rfl hown293 (mvT hZ293 (hw _ (List.mem_of_getElem? (i := 23) rfl))) (mvT hZ293 (hw _ (List.mem_of_getElem? (i := 24) rfl))) (mvT hZ293 (hw _ (List.mem_of_getElem? (i := 25) rfl))) (by decide) (backOf (W := 1) (rm4 l Z a0 hw [] b300 (F3 q1) a2 (.int (0 : Int32)) .null .null (.int (0 : Int32)) k z vs dv h300 n0 Z301 A300 F_flags_b300 F_data_b300 F_source_b300 F_size_b300 g_b300 ((A2.ext E293).ext E300) ne_a2_b300) hZ293 (hw _ (List.mem_of_getElem? (i := 25) rfl)) (hw _ (List.mem_of_getElem? (i := 4) rfl)) (by decide) (by decide)) (g := (mkF m 16 #[.val (.long q1), .second, .val (.ref a2)] [(.ref a2), (.int (F3 q1)), (.ref b300), (.ref b300)])) rfl (by rw [hml]; rfl) (Steps.refl _) (a := b300) (argsL := [(.int (F3 q1)), (.ref a2)]) (rest := [(.ref b300)]) (lenOf pd__I_B_V rfl) rfl (by show 2 * 0 + _ ≤ _; exact Nat.le_of_eq rfl) (hb hby d1_16) (fun _ _ => ⟨rfl, e306, (by decide : 3 + 0 ≤ _), (by decide : 24 + 0 ≤ _)⟩)
  dsimp only [Pt.U, Pt.locs, Pt.cells, Pt.slots] at X309 l309 y309 z309 st309 hQ309
  subst l309 y309 z309
  obtain ⟨rfl, N309q, K309, E309, F309a, F309b, F309c, F309d⟩ := hQ309
  have N309 := Fr.app N306 N309q
  have Z310 : n0 ≤ T309.heap.size := Nat.le_trans Z301 K309.1
  have K311 := Nat.le_trans K302 K309.1
  have KP312 := KP303.trans K309 (allS (Or.inr sz_b300) all0)
  have pre313 : ∀ t, Steps p.tables e below (T309.setTop (mkF m 19 #[.val (.long q1), .second, .val (.ref a2)] [(.ref b300)])) t → Steps p.tables e below (s₁.setTop (entryFrame m #[(.long q1), (.ref a2)] 3)) t := by
    intro t k
    refine pre308 _ ?_
    show Steps p.tables e below (T306.setTop (mkF m 16 #[.val (.long q1), .second, .val (.ref a2)] [(.ref a2), (.int (F3 q1)), (.ref b300), (.ref b300)])) _
    refine st309.trans ?_
    exact k
  obtain ⟨fs, hr, hrun, hended, hsame⟩ := Stand.leaveW (s := s) (vm₁ := T293.vm) X309 hS293 K311 (v := some (.ref b300)) (fun h => by rw [hret] at h; cases h) (hlocks := hlocks)
  refine ⟨_, _, pre313 _ ?_, hrun, hended, _, _, rfl, ?_, ⟨hsame.1, hsame.2.1, hsame.2.2.1, hsame.2.2.2.mono (by decide) (by decide)⟩⟩
  · show Steps p.tables e below (T309.setTop (mkF m 19 #[.val (.long q1), .second, .val (.ref a2)] [(.ref b300)])) _
    exact Jvm.RoadKit.retOut X309 hx hret rfl (Or.inr (Or.inr (Or.inr (Or.inr ⟨rfl, rfl, rfl⟩)))) (hb hby d1_19) hr
  · show Q1 Z q1 a2 k z vs dv h0 n0 _ T309.heap _
    skip
    exact ⟨_, rfl, N309, KP312, sz_b300, E309, F309a, F309b, F309c, F309d⟩
theorem d6_0 : decode prog_14_method_3_code 0 = .ok (.aload_n 2, 1) := by decide +kernel
theorem d6_1 : decode prog_14_method_3_code 1 = .ok (.ldc 24, 2) := by decide +kernel
theorem d6_3 : decode prog_14_method_3_code 3 = .ok (.invokestatic 25, 3) := by decide +kernel
theorem d6_6 : decode prog_14_method_3_code 6 = .ok (.pop, 1) := by decide +kernel
theorem d6_7 : decode prog_14_method_3_code 7 = .ok (.new 8, 3) := by decide +kernel
theorem d6_10 : decode prog_14_method_3_code 10 = .ok (.dup, 1) := by decide +kernel
theorem d6_11 : decode prog_14_method_3_code 11 = .ok (.lload_n 0, 1) := by decide +kernel
theorem d6_12 : decode prog_14_method_3_code 12 = .ok (.invokestatic 31, 3) := by decide +kernel
theorem d6_15 : decode prog_14_method_3_code 15 = .ok (.aload_n 2, 1) := by decide +kernel
theorem d6_16 : decode prog_14_method_3_code 16 = .ok (.invokevirtual 35, 3) := by decide +kernel
theorem d6_19 : decode prog_14_method_3_code 19 = .ok (.checkcast 36, 3) := by decide +kernel
theorem d6_22 : decode prog_14_method_3_code 22 = .ok (.invokespecial 40, 3) := by decide +kernel
theorem d6_25 : decode prog_14_method_3_code 25 = .ok (.areturn, 1) := by decide +kernel
theorem ef_6 (m : MethodId) (x0 : Int64) (x1 : Addr) : entryFrame m #[(.long x0), (.ref x1)] 3 = mkF m 0 #[.val (.long x0), .second, .val (.ref x1)] [] := by first | (simp [entryFrame, mkF, argsToLocals, Value.category]; done) | rfl
def Q6 (Z : State) (q1 : Int64) (a2 : Addr) (k : ClassId) (z : Int32) (vs : List Value) (dv : Value) (h0 : Heap) (n0 : Nat) (v : Option Value) (h : Heap) (L : List Loc) : Prop := ∃ r d : Addr, v = some (.ref r) ∧ Fr n0 L ∧ Keep h0 h [] ∧ h0.size ≤ r ∧ h0.size ≤ d ∧ Exa Z h r "com/example/message_buffer/messagebuffer/model/Message" ∧ Fld Z h r "com/example/message_buffer/messagebuffer/model/Message" "flags" "I" (.int (q1.toInt32)) ∧ Fld Z h r "com/example/message_buffer/messagebuffer/model/Message" "data" "[B" (.ref d) ∧ Fld Z h r "com/example/message_buffer/messagebuffer/model/Message" "source" "Lcom/example/message_buffer/messagebuffer/model/Message$Source;" .null ∧ Fld Z h r "com/example/message_buffer/messagebuffer/model/Message" "size" "I" (.int z) ∧ Arv Z h d k .byte z vs dv
set_option maxRecDepth 65536 in
set_option maxHeartbeats 40000000 in
theorem rm6 (l : Launch) (Z : State) (a0 : Array Value) (hw : ∀ d ∈ tables_1, d.before a0 Z = true) (ws : List Jvm.Cond) (q1 : Int64) (a2 : Addr) (k : ClassId) (z : Int32) (vs : List Value) (dv : Value) (h0 : Heap) (n0 : Nat) (Z0 : n0 ≤ h0.size) (hc0 : ¬ ((lcmpW q1 (0 : Int64)) < (0 : Int32))) (hc1 : ¬ ((0 : Int32) < (lcmpW q1 (4294967295 : Int64)))) (A2 : Arv Z h0 a2 k .byte z vs dv) (E_a2 : Exa Z h0 a2 "[B") (hz3 : z.toNatClampNeg ≤ 3) :
    MetFree l (⟨"com/example/message_buffer/messagebuffer/model/Message", "of", "(J[B)Lcom/example/message_buffer/messagebuffer/model/Message;"⟩ : MethodName) (head1 (Jvm.Cond.code (⟨"com/example/message_buffer/messagebuffer/model/Message", "of", "(J[B)Lcom/example/message_buffer/messagebuffer/model/Message;"⟩ : MethodName) prog_14_method_3_code 3 (some (.object "com/example/message_buffer/messagebuffer/model/Message")) :: ws) ({ frames := 2, cells := 4, slots := 27, locals := 27 } : Room)) (fun a U => a = #[(.long q1), (.ref a2)] ∧ Z.Warmed39 U.vm ∧ U.heap = h0) (fun _ _ _ _ _ => True) (fun _ U o U' => ∃ v L, o = .returned v ∧ Q6 Z q1 a2 k z vs dv h0 n0 v U'.heap L ∧ ReturnedEndW U o U' L ({ frames := 2, cells := 4, slots := 27, locals := 27 } : Room).cells ({ frames := 2, cells := 4, slots := 27, locals := 27 } : Room).slots) := by
  refine MetFree.of_bodySF (plainFor_of_name pn_3) hisR ?_
  intro p e s m args below meth c s₁ Bd hml0 hP hK
  obtain ⟨rfl, hZ, hh⟩ := hP
  have hx := Bd.exec
  have hby := Bd.bytes
  have hml : c.maxLocals = 3 := hml0
  have hown : s.vm.findClass "com/example/message_buffer/messagebuffer/model/Message" = some m.cls := findClass_of_methodNamed Bd.named
  have hnm := (name_of_methodNamed Bd.named Bd.method).1
  have hret := Bd.returns
  have hlocks : meth.locks = false := Bd.notSynchronized
  have X0 : Stand p l e ({ frames := 2, cells := 4, slots := 27, locals := 27 } : Room) s m #[(.long q1), (.ref a2)] below meth c s₁ [] 0 0 := Stand.of_body Bd
  have e0 : s₁.heap = h0 := by rw [← hh, Bd.state]; rfl
  have N0 := Fr.nil n0
  have hS0 : s.Since s.vm h0.size := (State.WarmedH.refl s).since _
  have SK0 : h0.size ≤ h0.size := Nat.le_refl _
  have pre0 : ∀ t, Steps p.tables e below (s₁.setTop (mkF m 0 #[.val (.long q1), .second, .val (.ref a2)] [])) t → Steps p.tables e below (s₁.setTop (entryFrame m #[(.long q1), (.ref a2)] 3)) t := fun t k => castTop (ef_6 m q1 a2) k
  have pre314 : ∀ t, Steps p.tables e below (s₁.setTop (mkF m 1 #[.val (.long q1), .second, .val (.ref a2)] [(.ref a2)])) t → Steps p.tables e below (s₁.setTop (entryFrame m #[(.long q1), (.ref a2)] 3)) t := by
    intro t k
    refine pre0 _ ?_
    show Steps p.tables e below (s₁.setTop (mkF m 0 #[.val (.long q1), .second, .val (.ref a2)] [])) _
    refine XS.aloadN X0.here hx rfl (hb hby d6_0) rfl rfl ?_
    exact k
  obtain ⟨l315, T315, h315, kk315, X315, e315, E315, hS315, sk315, hZ315, hown315, st315⟩ := ldcS (s := s) (vm0 := s.vm) X0 hx hZ hown (hw _ (List.mem_of_getElem? (i := 6) rfl)) (own_wS hw) e0 hS0 SK0 (g := (mkF m 1 #[.val (.long q1), .second, .val (.ref a2)] [(.ref a2)])) rfl (hb hby d6_1) (n := 16) (by decide) (by decide) (by decide) (by decide)
  have Z316 : n0 ≤ h315.size := Nat.le_trans Z0 E315.1
  have KP317 := (Keep.refl h0 []).ext E315
  have pre318 : ∀ t, Steps p.tables e below (T315.setTop (mkF m 3 #[.val (.long q1), .second, .val (.ref a2)] [(.ref l315), (.ref a2)])) t → Steps p.tables e below (s₁.setTop (entryFrame m #[(.long q1), (.ref a2)] 3)) t := by
    intro t k
    refine pre314 _ ?_
    show Steps p.tables e below (s₁.setTop (mkF m 1 #[.val (.long q1), .second, .val (.ref a2)] [(.ref a2)])) _
    refine st315 _ ?_
    exact k
  obtain ⟨_, _, ⟨T319, L319, k319, n319⟩, -, X319, ⟨Lc319, hQ319, l319, y319, z319⟩, st319⟩ := Jvm.LawKit.callS X315 hx (y := (⟨"java/util/Objects", "requireNonNull", "(Ljava/lang/Object;Ljava/lang/String;)Ljava/lang/Object;"⟩ : MethodName)) hown315 (mvT hZ315 (hw _ (List.mem_of_getElem? (i := 13) rfl))) (mvT hZ315 (hw _ (List.mem_of_getElem? (i := 14) rfl))) (mvT hZ315 (hw _ (List.mem_of_getElem? (i := 15) rfl))) (mvT hZ315 (hw _ (List.mem_of_getElem? (i := 16) rfl))) (by decide) (backOf (W := 0) (rm2 l Z a0 hw [] a2 l315 h315 n0 Z316 ) hZ315 (hw _ (List.mem_of_getElem? (i := 16) rfl)) (hw _ (List.mem_of_getElem? (i := 15) rfl)) (by decide) (by decide)) (g := (mkF m 3 #[.val (.long q1), .second, .val (.ref a2)] [(.ref l315), (.ref a2)])) rfl (by rw [hml]; rfl) (argsL := [(.ref a2), (.ref l315)]) (rest := []) (lenOf pd__Ljava_lang_Object_Ljava_lang_String__Ljava_lang_Object_ rfl) rfl (by show 2 * 0 + _ ≤ _; exact Nat.le_of_eq rfl) (hb hby d6_3) (fun _ _ => ⟨rfl, e315, (by decide : 2 + 0 ≤ _), (by decide : 20 + 0 ≤ _)⟩)
  dsimp only [Pt.U, Pt.locs, Pt.cells, Pt.slots] at X319 l319 y319 z319 st319 hQ319
  subst l319 y319 z319
  obtain ⟨rfl, N319q, e319⟩ := hQ319
  have N319 := Fr.app N0 N319q
  have pre320 : ∀ t, Steps p.tables e below (T319.setTop (mkF m 6 #[.val (.long q1), .second, .val (.ref a2)] [(.ref a2)])) t → Steps p.tables e below (s₁.setTop (entryFrame m #[(.long q1), (.ref a2)] 3)) t := by
    intro t k
    refine pre318 _ ?_
    show Steps p.tables e below (T315.setTop (mkF m 3 #[.val (.long q1), .second, .val (.ref a2)] [(.ref l315), (.ref a2)])) _
    refine st319 _ ?_
    exact k
  have pre321 : ∀ t, Steps p.tables e below (T319.setTop (mkF m 7 #[.val (.long q1), .second, .val (.ref a2)] [])) t → Steps p.tables e below (s₁.setTop (entryFrame m #[(.long q1), (.ref a2)] 3)) t := by
    intro t k
    refine pre320 _ ?_
    show Steps p.tables e below (T319.setTop (mkF m 6 #[.val (.long q1), .second, .val (.ref a2)] [(.ref a2)])) _
    refine XS.pop X319.here hx rfl (hb hby d6_6) rfl rfl ?_
    exact k
  obtain ⟨T322, h322, X322, e322, E322, A322, D322, -, st322⟩ := newO X319 hx hZ315 hown315 (hw _ (List.mem_of_getElem? (i := 17) rfl)) (hw _ (List.mem_of_getElem? (i := 18) rfl)) (hw _ (List.mem_of_getElem? (i := 4) rfl)) e319 (g := (mkF m 7 #[.val (.long q1), .second, .val (.ref a2)] [])) rfl (hb hby d6_7) (by decide) (by decide)
  obtain ⟨b322, g322⟩ : ∃ z, z = h315.size := ⟨_, rfl⟩
  rw [← g322] at A322 D322 st322
  have g_b322 : n0 ≤ b322 := Nat.le_trans Z316 (Nat.le_of_eq g322.symm)
  have sz_b322 : h0.size ≤ b322 := Nat.le_trans KP317.1 (Nat.le_of_eq g322.symm)
  have ne_a2_b322 : a2 ≠ b322 := Nat.ne_of_lt (Nat.lt_of_lt_of_le (A2.ext E315).lt (Nat.le_of_eq g322.symm))
  have Z323 : n0 ≤ h322.size := Nat.le_trans Z316 E322.1
  have K324 := Nat.le_trans sk315 E322.1
  have KP325 := KP317.ext E322
  have F_flags_b322 : Fld Z h322 b322 "com/example/message_buffer/messagebuffer/model/Message" "flags" "I" (.int (0 : Int32)) := D322 (Or.inr (hw _ (List.mem_of_getElem? (i := 30) rfl))) (ty := .int) (by decide)
  have F_data_b322 : Fld Z h322 b322 "com/example/message_buffer/messagebuffer/model/Message" "data" "[B" .null := D322 (Or.inr (hw _ (List.mem_of_getElem? (i := 32) rfl))) (ty := (.array .byte)) (by decide)
  have F_source_b322 : Fld Z h322 b322 "com/example/message_buffer/messagebuffer/model/Message" "source" "Lcom/example/message_buffer/messagebuffer/model/Message$Source;" .null := D322 (Or.inr (hw _ (List.mem_of_getElem? (i := 34) rfl))) (ty := (.object "com/example/message_buffer/messagebuffer/model/Message$Source")) (by decide)
  have F_size_b322 : Fld Z h322 b322 "com/example/message_buffer/messagebuffer/model/Message" "size" "I" (.int (0 : Int32)) := D322 (Or.inr (hw _ (List.mem_of_getElem? (i := 36) rfl))) (ty := .int) (by decide)
  have pre326 : ∀ t, Steps p.tables e below (T322.setTop (mkF m 10 #[.val (.long q1), .second, .val (.ref a2)] [(.ref b322)])) t → Steps p.tables e below (s₁.setTop (entryFrame m #[(.long q1), (.ref a2)] 3)) t := by
    intro t k
    refine pre321 _ ?_
    show Steps p.tables e below (T319.setTop (mkF m 7 #[.val (.long q1), .second, .val (.ref a2)] [])) _
    refine st322 _ ?_
    exact k
  have pre327 : ∀ t, Steps p.tables e below (T322.setTop (mkF m 12 #[.val (.long q1), .second, .val (.ref a2)] [(.long q1), (.ref b322), (.ref b322)])) t → Steps p.tables e below (s₁.setTop (entryFrame m #[(.long q1), (.ref a2)] 3)) t := by
    intro t k
    refine pre326 _ ?_
    show Steps p.tables e below (T322.setTop (mkF m 10 #[.val (.long q1), .second, .val (.ref a2)] [(.ref b322)])) _
    refine XS.dup X322.here hx rfl (hb hby d6_10) rfl rfl ?_
    show Steps p.tables e below (T322.setTop (mkF m 11 #[.val (.long q1), .second, .val (.ref a2)] [(.ref b322), (.ref b322)])) _
    refine XS.lloadN X322.here hx rfl (hb hby d6_11) rfl ?_
    exact k
  obtain ⟨_, _, ⟨T328, L328, k328, n328⟩, -, X328, ⟨Lc328, hQ328, l328, y328, z328⟩, st328⟩ := Jvm.LawKit.callS X322 hx (y := (⟨"com/example/message_buffer/messagebuffer/model/Message", "checked", "(J)I"⟩ : MethodName)) hown315 (mvT hZ315 (hw _ (List.mem_of_getElem? (i := 19) rfl))) (mvT hZ315 (hw _ (List.mem_of_getElem? (i := 20) rfl))) (mvT hZ315 (hw _ (List.mem_of_getElem? (i := 4) rfl))) (mvT hZ315 (hw _ (List.mem_of_getElem? (i := 21) rfl))) (by decide) (backOf (W := 2) (rm3 l Z a0 hw [] q1 h322 n0 Z323 hc0 hc1) hZ315 (hw _ (List.mem_of_getElem? (i := 21) rfl)) (hw _ (List.mem_of_getElem? (i := 4) rfl)) (by decide) (by decide)) (g := (mkF m 12 #[.val (.long q1), .second, .val (.ref a2)] [(.long q1), (.ref b322), (.ref b322)])) rfl (by rw [hml]; rfl) (argsL := [(.long q1)]) (rest := [(.ref b322), (.ref b322)]) (lenOf pd__J_I rfl) rfl (by show 2 * 0 + _ ≤ _; exact Nat.le_of_eq rfl) (hb hby d6_12) (fun _ _ => ⟨rfl, e322, (by decide : 3 + 0 ≤ _), (by decide : 24 + 0 ≤ _)⟩)
  dsimp only [Pt.U, Pt.locs, Pt.cells, Pt.slots] at X328 l328 y328 z328 st328 hQ328
  subst l328 y328 z328
  obtain ⟨rfl, N328q, e328⟩ := hQ328
  have N328 := Fr.app N319 N328q
  have pre329 : ∀ t, Steps p.tables e below (T328.setTop (mkF m 15 #[.val (.long q1), .second, .val (.ref a2)] [(.int (F3 q1)), (.ref b322), (.ref b322)])) t → Steps p.tables e below (s₁.setTop (entryFrame m #[(.long q1), (.ref a2)] 3)) t := by
    intro t k
    refine pre327 _ ?_
    show Steps p.tables e below (T322.setTop (mkF m 12 #[.val (.long q1), .second, .val (.ref a2)] [(.long q1), (.ref b322), (.ref b322)])) _
    refine st328 _ ?_
    exact k
  have pre330 : ∀ t, Steps p.tables e below (T328.setTop (mkF m 16 #[.val (.long q1), .second, .val (.ref a2)] [(.ref a2), (.int (F3 q1)), (.ref b322), (.ref b322)])) t → Steps p.tables e below (s₁.setTop (entryFrame m #[(.long q1), (.ref a2)] 3)) t := by
    intro t k
    refine pre329 _ ?_
    show Steps p.tables e below (T328.setTop (mkF m 15 #[.val (.long q1), .second, .val (.ref a2)] [(.int (F3 q1)), (.ref b322), (.ref b322)])) _
    refine XS.aloadN X328.here hx rfl (hb hby d6_15) rfl rfl ?_
    exact k
  obtain ⟨T331, h331, X331, e331, E331, V331, Ex331, st331⟩ := cloneH X328 hx hZ315 (ad := "[B") hown315 (hw _ (List.mem_of_getElem? (i := 40) rfl)) (hw _ (List.mem_of_getElem? (i := 41) rfl)) (hw _ (List.mem_of_getElem? (i := 45) rfl)) (hw _ (List.mem_of_getElem? (i := 43) rfl)) (hw _ (List.mem_of_getElem? (i := 44) rfl)) (hw _ (List.mem_of_getElem? (i := 46) rfl)) e328 (Arv.arh ((A2.ext E315).ext E322)) ((E_a2.ext E315).ext E322) (g := (mkF m 16 #[.val (.long q1), .second, .val (.ref a2)] [(.ref a2), (.int (F3 q1)), (.ref b322), (.ref b322)])) rfl (by rw [hml]; rfl) rfl (hb hby d6_16) (by decide) (W := 3) (cap := 3) (by show 2 * 0 + _ ≤ _; exact Nat.le_of_eq rfl) (by decide) hz3 (by decide) (by decide)
  obtain ⟨c331, g331⟩ : ∃ z, z = h322.size := ⟨_, rfl⟩
  rw [← g331] at V331 Ex331 st331
  have g_c331 : n0 ≤ c331 := Nat.le_trans Z323 (Nat.le_of_eq g331.symm)
  have sz_c331 : h0.size ≤ c331 := Nat.le_trans KP325.1 (Nat.le_of_eq g331.symm)
  have ne_a2_c331 : a2 ≠ c331 := Nat.ne_of_lt (Nat.lt_of_lt_of_le ((A2.ext E315).ext E322).lt (Nat.le_of_eq g331.symm))
  have ne_b322_c331 : b322 ≠ c331 := Nat.ne_of_lt (Nat.lt_of_lt_of_le A322.lt (Nat.le_of_eq g331.symm))
  have Z332 : n0 ≤ h331.size := Nat.le_trans Z323 E331.1
  have K333 := Nat.le_trans K324 E331.1
  have KP334 := KP325.ext E331
  have VV331 : Arv Z h331 c331 k .byte z vs dv := V331
  have pre335 : ∀ t, Steps p.tables e below (T331.setTop (mkF m 19 #[.val (.long q1), .second, .val (.ref a2)] [(.ref c331), (.int (F3 q1)), (.ref b322), (.ref b322)])) t → Steps p.tables e below (s₁.setTop (entryFrame m #[(.long q1), (.ref a2)] 3)) t := by
    intro t k
    refine pre330 _ ?_
    show Steps p.tables e below (T328.setTop (mkF m 16 #[.val (.long q1), .second, .val (.ref a2)] [(.ref a2), (.int (F3 q1)), (.ref b322), (.ref b322)])) _
    refine st331 _ ?_
    exact k
  obtain ⟨T336, X336, e336, st336⟩ := castY X331 hx hZ315 hown315 (hw _ (List.mem_of_getElem? (i := 47) rfl)) e331 (Ins.self Ex331) (g := (mkF m 19 #[.val (.long q1), .second, .val (.ref a2)] [(.ref c331), (.int (F3 q1)), (.ref b322), (.ref b322)])) rfl rfl (hb hby d6_19)
  have pre337 : ∀ t, Steps p.tables e below (T336.setTop (mkF m 22 #[.val (.long q1), .second, .val (.ref a2)] [(.ref c331), (.int (F3 q1)), (.ref b322), (.ref b322)])) t → Steps p.tables e below (s₁.setTop (entryFrame m #[(.long q1), (.ref a2)] 3)) t := by
    intro t k
    refine pre335 _ ?_
    show Steps p.tables e below (T331.setTop (mkF m 19 #[.val (.long q1), .second, .val (.ref a2)] [(.ref c331), (.int (F3 q1)), (.ref b322), (.ref b322)])) _
    refine st336 _ ?_
    exact k
  obtain ⟨_, _, ⟨T338, L338, k338, n338⟩, -, X338, ⟨Lc338, hQ338, l338, y338, z338⟩, st338⟩ := X336.specialBack hx (y := (⟨"com/example/message_buffer/messagebuffer/model/Message", "<init>", "(I[B)V"⟩ : MethodName)) rfl hown315 (mvT hZ315 (hw _ (List.mem_of_getElem? (i := 23) rfl))) (mvT hZ315 (hw _ (List.mem_of_getElem? (i := 24) rfl))) (mvT hZ315 (hw _ (List.mem_of_getElem? (i := 25) rfl))) (by decide) (backOf (W := 1) (rm4 l Z a0 hw [] b322 (F3 q1) c331 (.int (0 : Int32)) .null .null (.int (0 : Int32)) k z vs dv h331 n0 Z332 (A322.ext E331) (F_flags_b322.ext E331) (F_data_b322.ext E331) (F_source_b322.ext E331) (F_size_b322.ext E331) g_b322 VV331 (Ne.symm ne_b322_c331)) hZ315 (hw _ (List.mem_of_getElem? (i := 25) rfl)) (hw _ (List.mem_of_getElem? (i := 4) rfl)) (by decide) (by decide)) (g := (mkF m 22 #[.val (.long q1), .second, .val (.ref a2)] [(.ref c331), (.int (F3 q1)), (.ref b322), (.ref b322)])) rfl (by rw [hml]; rfl) (Steps.refl _) (a := b322) (argsL := [(.int (F3 q1)), (.ref c331)]) (rest := [(.ref b322)]) (lenOf pd__I_B_V rfl) rfl (by show 2 * 0 + _ ≤ _; exact Nat.le_of_eq rfl) (hb hby d6_22) (fun _ _ => ⟨rfl, e336, (by decide : 4 + 0 ≤ _), (by decide : 27 + 0 ≤ _)⟩)
  dsimp only [Pt.U, Pt.locs, Pt.cells, Pt.slots] at X338 l338 y338 z338 st338 hQ338
  subst l338 y338 z338
  obtain ⟨rfl, N338q, K338, E338, F338a, F338b, F338c, F338d⟩ := hQ338
  have N338 := Fr.app N328 N338q
  have Z339 : n0 ≤ T338.heap.size := Nat.le_trans Z332 K338.1
  have K340 := Nat.le_trans K333 K338.1
  have KP341 := KP334.trans K338 (allS (Or.inr sz_b322) all0)
  have pre342 : ∀ t, Steps p.tables e below (T338.setTop (mkF m 25 #[.val (.long q1), .second, .val (.ref a2)] [(.ref b322)])) t → Steps p.tables e below (s₁.setTop (entryFrame m #[(.long q1), (.ref a2)] 3)) t := by
    intro t k
    refine pre337 _ ?_
    show Steps p.tables e below (T336.setTop (mkF m 22 #[.val (.long q1), .second, .val (.ref a2)] [(.ref c331), (.int (F3 q1)), (.ref b322), (.ref b322)])) _
    refine st338.trans ?_
    exact k
  obtain ⟨fs, hr, hrun, hended, hsame⟩ := Stand.leaveW (s := s) (vm₁ := T315.vm) X338 hS315 K340 (v := some (.ref b322)) (fun h => by rw [hret] at h; cases h) (hlocks := hlocks)
  refine ⟨_, _, pre342 _ ?_, hrun, hended, _, _, rfl, ?_, ⟨hsame.1, hsame.2.1, hsame.2.2.1, hsame.2.2.2.mono (by decide) (by decide)⟩⟩
  · show Steps p.tables e below (T338.setTop (mkF m 25 #[.val (.long q1), .second, .val (.ref a2)] [(.ref b322)])) _
    exact Jvm.RoadKit.retOut X338 hx hret rfl (Or.inr (Or.inr (Or.inr (Or.inr ⟨rfl, rfl, rfl⟩)))) (hb hby d6_25) hr
  · show Q6 Z q1 a2 k z vs dv h0 n0 _ T338.heap _
    skip
    exact ⟨_, _, rfl, N338, KP341, sz_b322, sz_c331, E338, F338a, F338b, F338c, F338d, (VV331.keep K338 (ninS (Ne.symm ne_b322_c331) nin0))⟩
theorem pd__J_B_Lcom_example_message_buffer_messagebuffer_model_Message_ : parseMethodDescriptor "(J[B)Lcom/example/message_buffer/messagebuffer/model/Message;" = some ⟨[.long, (.array .byte)], some (.object "com/example/message_buffer/messagebuffer/model/Message")⟩ := by decide +kernel
theorem pd___J : parseMethodDescriptor "()J" = some ⟨[], some .long⟩ := by decide +kernel
theorem pd___I : parseMethodDescriptor "()I" = some ⟨[], some .int⟩ := by decide +kernel
theorem pd___Lcom_example_message_buffer_messagebuffer_model_Message_Source_ : parseMethodDescriptor "()Lcom/example/message_buffer/messagebuffer/model/Message$Source;" = some ⟨[], some (.object "com/example/message_buffer/messagebuffer/model/Message$Source")⟩ := by decide +kernel
theorem pd__Ljava_lang_Object__Z : parseMethodDescriptor "(Ljava/lang/Object;)Z" = some ⟨[(.object "java/lang/Object")], some .boolean⟩ := by decide +kernel
theorem pn_0 : plainName "com/example/message_buffer/messagebuffer/model/MessageOfPinLaw" = true := by first | (simp [plainName, overriddenIn]; done) | decide +kernel
theorem ef_0k0 (m : MethodId) (x0 : Int64) (x1 : Int32) (x2 : Int32) : entryFrame m #[(.long x0), (.int x1), (.int x2)] maxLocals = mkF m 0 #[.val (.long x0), .second, .val (.int x1), .val (.int x2), .unset, .unset, .unset, .unset, .unset, .unset, .unset] [] := by first | (simp [entryFrame, mkF, argsToLocals, Value.category, maxLocals]; done) | rfl
def F0k0 (q1 : Int64) : Int32 :=
  if (lcmpW (F7 ((q1 &&& (4294967295 : Int64)).toInt32)) (q1 &&& (4294967295 : Int64))) = (0 : Int32) then (  if (lcmpW (F11 (0 : Int32)) (((0 : Int32).toInt64) + (80 : Int64))) = (0 : Int32) then (  (1 : Int32))
  else (  (0 : Int32)))
  else (  (0 : Int32))
def Q0k0 (Z : State) (q1 : Int64) (p2 : Int32) (p3 : Int32) (h0 : Heap) (n0 : Nat) (v : Option Value) (h : Heap) (L : List Loc) : Prop := v = some (.int (F0k0 q1)) ∧ Fr n0 L
set_option maxRecDepth 65536 in
set_option maxHeartbeats 40000000 in
theorem rm0k0 (l : Launch) (Z : State) (a0 : Array Value) (hw : ∀ d ∈ tables_1, d.before a0 Z = true) (ws : List Jvm.Cond) (q1 : Int64) (p2 : Int32) (p3 : Int32) (h0 : Heap) (n0 : Nat) (Z0 : n0 ≤ h0.size) (O0 : Old Z n0 h0) (hL : (p2 &&& (3 : Int32)) = (0 : Int32)) :
    MetFree l x (head1 (Jvm.Cond.code x code maxLocals ret :: ws) room_1) (fun a U => a = #[(.long q1), (.int p2), (.int p3)] ∧ Z.Warmed39 U.vm ∧ U.heap = h0) (fun _ _ _ _ _ => True) (fun _ U o U' => ∃ v L, o = .returned v ∧ Q0k0 Z q1 p2 p3 h0 n0 v U'.heap L ∧ ReturnedEndW U o U' L room_1.cells room_1.slots) := by
  refine MetFree.of_bodySF (plainFor_of_name pn_0) hisR ?_
  intro p e s m args below meth c s₁ Bd hml0 hP hK
  obtain ⟨rfl, hZ, hh⟩ := hP
  have hx := Bd.exec
  have hby := Bd.bytes
  have hml : c.maxLocals = 11 := hml0
  have hown : s.vm.findClass "com/example/message_buffer/messagebuffer/model/MessageOfPinLaw" = some m.cls := findClass_of_methodNamed Bd.named
  have hnm := (name_of_methodNamed Bd.named Bd.method).1
  have hret := Bd.returns
  have hlocks : meth.locks = false := Bd.notSynchronized
  have X0 : Stand p l e room_1 s m #[(.long q1), (.int p2), (.int p3)] below meth c s₁ [] 0 0 := Stand.of_body Bd
  have e0 : s₁.heap = h0 := by rw [← hh, Bd.state]; rfl
  have N0 := Fr.nil n0
  have hS0 : s.Since s.vm h0.size := (State.WarmedH.refl s).since _
  have SK0 : h0.size ≤ h0.size := Nat.le_refl _
  have pre0 : ∀ t, Steps p.tables e below (s₁.setTop (mkF m 0 #[.val (.long q1), .second, .val (.int p2), .val (.int p3), .unset, .unset, .unset, .unset, .unset, .unset, .unset] [])) t → Steps p.tables e below (s₁.setTop (entryFrame m #[(.long q1), (.int p2), (.int p3)] maxLocals)) t := fun t k => castTop (ef_0k0 m q1 p2 p3) k
  have pre343 : ∀ t, Steps p.tables e below (s₁.setTop (mkF m 9 #[.val (.long q1), .second, .val (.int p2), .val (.int p3), .val (.long (q1 &&& (4294967295 : Int64))), .second, .unset, .unset, .unset, .unset, .unset] [(.int (3 : Int32)), (.int p2)])) t → Steps p.tables e below (s₁.setTop (entryFrame m #[(.long q1), (.int p2), (.int p3)] maxLocals)) t := by
    intro t k
    refine pre0 _ ?_
    show Steps p.tables e below (s₁.setTop (mkF m 0 #[.val (.long q1), .second, .val (.int p2), .val (.int p3), .unset, .unset, .unset, .unset, .unset, .unset, .unset] [])) _
    refine XS.lloadN X0.here hx rfl (hb hby at_0) rfl ?_
    show Steps p.tables e below (s₁.setTop (mkF m 1 #[.val (.long q1), .second, .val (.int p2), .val (.int p3), .unset, .unset, .unset, .unset, .unset, .unset, .unset] [(.long q1)])) _
    refine X0.ldc2Long hx hown (mvT hZ (hw _ (List.mem_of_getElem? (i := 0) rfl))) (g := (mkF m 1 #[.val (.long q1), .second, .val (.int p2), .val (.int p3), .unset, .unset, .unset, .unset, .unset, .unset, .unset] [(.long q1)])) rfl (hb hby at_1) _ ?_
    show Steps p.tables e below (s₁.setTop (mkF m 4 #[.val (.long q1), .second, .val (.int p2), .val (.int p3), .unset, .unset, .unset, .unset, .unset, .unset, .unset] [(.long (4294967295 : Int64)), (.long q1)])) _
    refine XS.land X0.here hx rfl (hb hby at_4) rfl ?_
    show Steps p.tables e below (s₁.setTop (mkF m 5 #[.val (.long q1), .second, .val (.int p2), .val (.int p3), .unset, .unset, .unset, .unset, .unset, .unset, .unset] [(.long (q1 &&& (4294967295 : Int64)))])) _
    refine XS.lstore X0.here hx rfl (hb hby at_5) rfl (l' := #[.val (.long q1), .second, .val (.int p2), .val (.int p3), .val (.long (q1 &&& (4294967295 : Int64))), .second, .unset, .unset, .unset, .unset, .unset]) rfl ?_
    show Steps p.tables e below (s₁.setTop (mkF m 7 #[.val (.long q1), .second, .val (.int p2), .val (.int p3), .val (.long (q1 &&& (4294967295 : Int64))), .second, .unset, .unset, .unset, .unset, .unset] [])) _
    refine XS.iloadN X0.here hx rfl (hb hby at_7) rfl ?_
    show Steps p.tables e below (s₁.setTop (mkF m 8 #[.val (.long q1), .second, .val (.int p2), .val (.int p3), .val (.long (q1 &&& (4294967295 : Int64))), .second, .unset, .unset, .unset, .unset, .unset] [(.int p2)])) _
    refine XS.iconst X0.here hx rfl (hb hby at_8) ?_
    exact k
  have pre344 : ∀ t, Steps p.tables e below (s₁.setTop (mkF m 10 #[.val (.long q1), .second, .val (.int p2), .val (.int p3), .val (.long (q1 &&& (4294967295 : Int64))), .second, .unset, .unset, .unset, .unset, .unset] [(.int (0 : Int32))])) t → Steps p.tables e below (s₁.setTop (entryFrame m #[(.long q1), (.int p2), (.int p3)] maxLocals)) t := by
    intro t k
    refine pre343 _ ?_
    show Steps p.tables e below (s₁.setTop (mkF m 9 #[.val (.long q1), .second, .val (.int p2), .val (.int p3), .val (.long (q1 &&& (4294967295 : Int64))), .second, .unset, .unset, .unset, .unset, .unset] [(.int (3 : Int32)), (.int p2)])) _
    refine XS.iand X0.here hx rfl (hb hby at_9) rfl ?_
    show Steps p.tables e below (s₁.setTop (mkF m 10 #[.val (.long q1), .second, .val (.int p2), .val (.int p3), .val (.long (q1 &&& (4294967295 : Int64))), .second, .unset, .unset, .unset, .unset, .unset] [(.int (p2 &&& (3 : Int32)))])) _
    rw [hL]
    exact k
  have pre345 : ∀ t, Steps p.tables e below (s₁.setTop (mkF m 14 #[.val (.long q1), .second, .val (.int p2), .val (.int p3), .val (.long (q1 &&& (4294967295 : Int64))), .second, .val (.int (0 : Int32)), .unset, .unset, .unset, .unset] [(.int (0 : Int32))])) t → Steps p.tables e below (s₁.setTop (entryFrame m #[(.long q1), (.int p2), (.int p3)] maxLocals)) t := by
    intro t k
    refine pre344 _ ?_
    show Steps p.tables e below (s₁.setTop (mkF m 10 #[.val (.long q1), .second, .val (.int p2), .val (.int p3), .val (.long (q1 &&& (4294967295 : Int64))), .second, .unset, .unset, .unset, .unset, .unset] [(.int (0 : Int32))])) _
    refine XS.istore X0.here hx rfl (hb hby at_10) rfl (l' := #[.val (.long q1), .second, .val (.int p2), .val (.int p3), .val (.long (q1 &&& (4294967295 : Int64))), .second, .val (.int (0 : Int32)), .unset, .unset, .unset, .unset]) rfl ?_
    show Steps p.tables e below (s₁.setTop (mkF m 12 #[.val (.long q1), .second, .val (.int p2), .val (.int p3), .val (.long (q1 &&& (4294967295 : Int64))), .second, .val (.int (0 : Int32)), .unset, .unset, .unset, .unset] [])) _
    refine XS.iload X0.here hx rfl (hb hby at_12) rfl ?_
    exact k
  obtain ⟨T346, h346, k346, X346, e346, E346, A346, Ex346, st346⟩ := newPE X0 hx hZ (hw _ (List.mem_of_getElem? (i := 1) rfl)) e0 (g := (mkF m 14 #[.val (.long q1), .second, .val (.int p2), .val (.int p3), .val (.long (q1 &&& (4294967295 : Int64))), .second, .val (.int (0 : Int32)), .unset, .unset, .unset, .unset] [(.int (0 : Int32))])) rfl (hb hby at_14) rfl (by decide) (cap := 0) (by decide) (by decide) (by decide) (by decide) (ad := "[B") (by decide)
  obtain ⟨b346, g346⟩ : ∃ z, z = h0.size := ⟨_, rfl⟩
  rw [← g346] at A346 Ex346 st346
  have g_b346 : n0 ≤ b346 := Nat.le_trans Z0 (Nat.le_of_eq g346.symm)
  have O347 := O0.ext E346
  have Z348 : n0 ≤ h346.size := Nat.le_trans Z0 E346.1
  have K349 := Nat.le_trans SK0 E346.1
  have V346 : Arv Z h346 b346 k346 .byte (0 : Int32) [] (.int (0 : Int32)) := Arv.new A346 (by decide)
  have pre350 : ∀ t, Steps p.tables e below (T346.setTop (mkF m 16 #[.val (.long q1), .second, .val (.int p2), .val (.int p3), .val (.long (q1 &&& (4294967295 : Int64))), .second, .val (.int (0 : Int32)), .unset, .unset, .unset, .unset] [(.ref b346)])) t → Steps p.tables e below (s₁.setTop (entryFrame m #[(.long q1), (.int p2), (.int p3)] maxLocals)) t := by
    intro t k
    refine pre345 _ ?_
    show Steps p.tables e below (s₁.setTop (mkF m 14 #[.val (.long q1), .second, .val (.int p2), .val (.int p3), .val (.long (q1 &&& (4294967295 : Int64))), .second, .val (.int (0 : Int32)), .unset, .unset, .unset, .unset] [(.int (0 : Int32))])) _
    refine st346 _ ?_
    exact k
  have pre351 : ∀ t, Steps p.tables e below (T346.setTop (mkF m 20 #[.val (.long q1), .second, .val (.int p2), .val (.int p3), .val (.long (q1 &&& (4294967295 : Int64))), .second, .val (.int (0 : Int32)), .val (.ref b346), .unset, .unset, .unset] [(.int (0 : Int32))])) t → Steps p.tables e below (s₁.setTop (entryFrame m #[(.long q1), (.int p2), (.int p3)] maxLocals)) t := by
    intro t k
    refine pre350 _ ?_
    show Steps p.tables e below (T346.setTop (mkF m 16 #[.val (.long q1), .second, .val (.int p2), .val (.int p3), .val (.long (q1 &&& (4294967295 : Int64))), .second, .val (.int (0 : Int32)), .unset, .unset, .unset, .unset] [(.ref b346)])) _
    refine XS.astore X346.here hx rfl (hb hby at_16) rfl rfl (l' := #[.val (.long q1), .second, .val (.int p2), .val (.int p3), .val (.long (q1 &&& (4294967295 : Int64))), .second, .val (.int (0 : Int32)), .val (.ref b346), .unset, .unset, .unset]) rfl ?_
    show Steps p.tables e below (T346.setTop (mkF m 18 #[.val (.long q1), .second, .val (.int p2), .val (.int p3), .val (.long (q1 &&& (4294967295 : Int64))), .second, .val (.int (0 : Int32)), .val (.ref b346), .unset, .unset, .unset] [])) _
    refine XS.iload X346.here hx rfl (hb hby at_18) rfl ?_
    exact k
  obtain ⟨T352, h352, k352, X352, e352, E352, A352, Ex352, st352⟩ := newPE X346 hx hZ (hw _ (List.mem_of_getElem? (i := 1) rfl)) e346 (g := (mkF m 20 #[.val (.long q1), .second, .val (.int p2), .val (.int p3), .val (.long (q1 &&& (4294967295 : Int64))), .second, .val (.int (0 : Int32)), .val (.ref b346), .unset, .unset, .unset] [(.int (0 : Int32))])) rfl (hb hby at_20) rfl (by decide) (cap := 0) (by decide) (by decide) (by decide) (by decide) (ad := "[B") (by decide)
  obtain ⟨b352, g352⟩ : ∃ z, z = h346.size := ⟨_, rfl⟩
  rw [← g352] at A352 Ex352 st352
  have g_b352 : n0 ≤ b352 := Nat.le_trans Z348 (Nat.le_of_eq g352.symm)
  have ne_b346_b352 : b346 ≠ b352 := Nat.ne_of_lt (Nat.lt_of_lt_of_le V346.lt (Nat.le_of_eq g352.symm))
  have O353 := O347.ext E352
  have Z354 : n0 ≤ h352.size := Nat.le_trans Z348 E352.1
  have K355 := Nat.le_trans K349 E352.1
  have V352 : Arv Z h352 b352 k352 .byte (0 : Int32) [] (.int (0 : Int32)) := Arv.new A352 (by decide)
  have pre356 : ∀ t, Steps p.tables e below (T352.setTop (mkF m 22 #[.val (.long q1), .second, .val (.int p2), .val (.int p3), .val (.long (q1 &&& (4294967295 : Int64))), .second, .val (.int (0 : Int32)), .val (.ref b346), .unset, .unset, .unset] [(.ref b352)])) t → Steps p.tables e below (s₁.setTop (entryFrame m #[(.long q1), (.int p2), (.int p3)] maxLocals)) t := by
    intro t k
    refine pre351 _ ?_
    show Steps p.tables e below (T346.setTop (mkF m 20 #[.val (.long q1), .second, .val (.int p2), .val (.int p3), .val (.long (q1 &&& (4294967295 : Int64))), .second, .val (.int (0 : Int32)), .val (.ref b346), .unset, .unset, .unset] [(.int (0 : Int32))])) _
    refine st352 _ ?_
    exact k
  have pre357 : ∀ t, Steps p.tables e below (T352.setTop (mkF m 26 #[.val (.long q1), .second, .val (.int p2), .val (.int p3), .val (.long (q1 &&& (4294967295 : Int64))), .second, .val (.int (0 : Int32)), .val (.ref b346), .val (.ref b352), .unset, .unset] [(.int (0 : Int32))])) t → Steps p.tables e below (s₁.setTop (entryFrame m #[(.long q1), (.int p2), (.int p3)] maxLocals)) t := by
    intro t k
    refine pre356 _ ?_
    show Steps p.tables e below (T352.setTop (mkF m 22 #[.val (.long q1), .second, .val (.int p2), .val (.int p3), .val (.long (q1 &&& (4294967295 : Int64))), .second, .val (.int (0 : Int32)), .val (.ref b346), .unset, .unset, .unset] [(.ref b352)])) _
    refine XS.astore X352.here hx rfl (hb hby at_22) rfl rfl (l' := #[.val (.long q1), .second, .val (.int p2), .val (.int p3), .val (.long (q1 &&& (4294967295 : Int64))), .second, .val (.int (0 : Int32)), .val (.ref b346), .val (.ref b352), .unset, .unset]) rfl ?_
    show Steps p.tables e below (T352.setTop (mkF m 24 #[.val (.long q1), .second, .val (.int p2), .val (.int p3), .val (.long (q1 &&& (4294967295 : Int64))), .second, .val (.int (0 : Int32)), .val (.ref b346), .val (.ref b352), .unset, .unset] [])) _
    refine XS.iload X352.here hx rfl (hb hby at_24) rfl ?_
    exact k
  have pre359 : ∀ t, Steps p.tables e below (T352.setTop (mkF m 41 #[.val (.long q1), .second, .val (.int p2), .val (.int p3), .val (.long (q1 &&& (4294967295 : Int64))), .second, .val (.int (0 : Int32)), .val (.ref b346), .val (.ref b352), .unset, .unset] [])) t → Steps p.tables e below (s₁.setTop (entryFrame m #[(.long q1), (.int p2), (.int p3)] maxLocals)) t := by
    intro t k
    refine pre357 _ ?_
    show Steps p.tables e below (T352.setTop (mkF m 26 #[.val (.long q1), .second, .val (.int p2), .val (.int p3), .val (.long (q1 &&& (4294967295 : Int64))), .second, .val (.int (0 : Int32)), .val (.ref b346), .val (.ref b352), .unset, .unset] [(.int (0 : Int32))])) _
    refine XS.ifYes X352.here hx rfl (pc0 := 26) (pc' := 41) rfl (hb hby at_26) rfl ((if0 _ _).trans (flt (by decide : ¬ ((0 : Int32) < (0 : Int32)))).2.2.2) (by decide) (by decide) ?_
    exact k
  have pre360 : ∀ t, Steps p.tables e below (T352.setTop (mkF m 44 #[.val (.long q1), .second, .val (.int p2), .val (.int p3), .val (.long (q1 &&& (4294967295 : Int64))), .second, .val (.int (0 : Int32)), .val (.ref b346), .val (.ref b352), .unset, .unset] [(.int (1 : Int32)), (.int (0 : Int32))])) t → Steps p.tables e below (s₁.setTop (entryFrame m #[(.long q1), (.int p2), (.int p3)] maxLocals)) t := by
    intro t k
    refine pre359 _ ?_
    show Steps p.tables e below (T352.setTop (mkF m 41 #[.val (.long q1), .second, .val (.int p2), .val (.int p3), .val (.long (q1 &&& (4294967295 : Int64))), .second, .val (.int (0 : Int32)), .val (.ref b346), .val (.ref b352), .unset, .unset] [])) _
    refine XS.iload X352.here hx rfl (hb hby at_41) rfl ?_
    show Steps p.tables e below (T352.setTop (mkF m 43 #[.val (.long q1), .second, .val (.int p2), .val (.int p3), .val (.long (q1 &&& (4294967295 : Int64))), .second, .val (.int (0 : Int32)), .val (.ref b346), .val (.ref b352), .unset, .unset] [(.int (0 : Int32))])) _
    refine XS.iconst X352.here hx rfl (hb hby at_43) ?_
    exact k
  have pre362 : ∀ t, Steps p.tables e below (T352.setTop (mkF m 65 #[.val (.long q1), .second, .val (.int p2), .val (.int p3), .val (.long (q1 &&& (4294967295 : Int64))), .second, .val (.int (0 : Int32)), .val (.ref b346), .val (.ref b352), .unset, .unset] [])) t → Steps p.tables e below (s₁.setTop (entryFrame m #[(.long q1), (.int p2), (.int p3)] maxLocals)) t := by
    intro t k
    refine pre360 _ ?_
    show Steps p.tables e below (T352.setTop (mkF m 44 #[.val (.long q1), .second, .val (.int p2), .val (.int p3), .val (.long (q1 &&& (4294967295 : Int64))), .second, .val (.int (0 : Int32)), .val (.ref b346), .val (.ref b352), .unset, .unset] [(.int (1 : Int32)), (.int (0 : Int32))])) _
    refine XS.icmpYes X352.here hx rfl (pc0 := 44) (pc' := 65) rfl (hb hby at_44) rfl (flt (by decide : ¬ ((1 : Int32) < (0 : Int32)))).2.2.2 (by decide) (by decide) ?_
    exact k
  have pre363 : ∀ t, Steps p.tables e below (T352.setTop (mkF m 68 #[.val (.long q1), .second, .val (.int p2), .val (.int p3), .val (.long (q1 &&& (4294967295 : Int64))), .second, .val (.int (0 : Int32)), .val (.ref b346), .val (.ref b352), .unset, .unset] [(.int (2 : Int32)), (.int (0 : Int32))])) t → Steps p.tables e below (s₁.setTop (entryFrame m #[(.long q1), (.int p2), (.int p3)] maxLocals)) t := by
    intro t k
    refine pre362 _ ?_
    show Steps p.tables e below (T352.setTop (mkF m 65 #[.val (.long q1), .second, .val (.int p2), .val (.int p3), .val (.long (q1 &&& (4294967295 : Int64))), .second, .val (.int (0 : Int32)), .val (.ref b346), .val (.ref b352), .unset, .unset] [])) _
    refine XS.iload X352.here hx rfl (hb hby at_65) rfl ?_
    show Steps p.tables e below (T352.setTop (mkF m 67 #[.val (.long q1), .second, .val (.int p2), .val (.int p3), .val (.long (q1 &&& (4294967295 : Int64))), .second, .val (.int (0 : Int32)), .val (.ref b346), .val (.ref b352), .unset, .unset] [(.int (0 : Int32))])) _
    refine XS.iconst X352.here hx rfl (hb hby at_67) ?_
    exact k
  have pre365 : ∀ t, Steps p.tables e below (T352.setTop (mkF m 89 #[.val (.long q1), .second, .val (.int p2), .val (.int p3), .val (.long (q1 &&& (4294967295 : Int64))), .second, .val (.int (0 : Int32)), .val (.ref b346), .val (.ref b352), .unset, .unset] [])) t → Steps p.tables e below (s₁.setTop (entryFrame m #[(.long q1), (.int p2), (.int p3)] maxLocals)) t := by
    intro t k
    refine pre363 _ ?_
    show Steps p.tables e below (T352.setTop (mkF m 68 #[.val (.long q1), .second, .val (.int p2), .val (.int p3), .val (.long (q1 &&& (4294967295 : Int64))), .second, .val (.int (0 : Int32)), .val (.ref b346), .val (.ref b352), .unset, .unset] [(.int (2 : Int32)), (.int (0 : Int32))])) _
    refine XS.icmpYes X352.here hx rfl (pc0 := 68) (pc' := 89) rfl (hb hby at_68) rfl (flt (by decide : ¬ ((2 : Int32) < (0 : Int32)))).2.2.2 (by decide) (by decide) ?_
    exact k
  have pre366 : ∀ t, Steps p.tables e below (T352.setTop (mkF m 93 #[.val (.long q1), .second, .val (.int p2), .val (.int p3), .val (.long (q1 &&& (4294967295 : Int64))), .second, .val (.int (0 : Int32)), .val (.ref b346), .val (.ref b352), .unset, .unset] [(.ref b352), (.long (q1 &&& (4294967295 : Int64)))])) t → Steps p.tables e below (s₁.setTop (entryFrame m #[(.long q1), (.int p2), (.int p3)] maxLocals)) t := by
    intro t k
    refine pre365 _ ?_
    show Steps p.tables e below (T352.setTop (mkF m 89 #[.val (.long q1), .second, .val (.int p2), .val (.int p3), .val (.long (q1 &&& (4294967295 : Int64))), .second, .val (.int (0 : Int32)), .val (.ref b346), .val (.ref b352), .unset, .unset] [])) _
    refine XS.lload X352.here hx rfl (hb hby at_89) rfl ?_
    show Steps p.tables e below (T352.setTop (mkF m 91 #[.val (.long q1), .second, .val (.int p2), .val (.int p3), .val (.long (q1 &&& (4294967295 : Int64))), .second, .val (.int (0 : Int32)), .val (.ref b346), .val (.ref b352), .unset, .unset] [(.long (q1 &&& (4294967295 : Int64)))])) _
    refine XS.aload X352.here hx rfl (hb hby at_91) rfl rfl ?_
    exact k
  obtain ⟨_, _, ⟨T367, L367, k367, n367⟩, -, X367, sS367, gr367, ⟨Lc367, hQ367, l367, y367, z367⟩, st367⟩ := Jvm.RoadKit.callSS X352 hx (y := (⟨"com/example/message_buffer/messagebuffer/model/Message", "adopt", "(J[B)Lcom/example/message_buffer/messagebuffer/model/Message;"⟩ : MethodName)) hown (mvT hZ (hw _ (List.mem_of_getElem? (i := 2) rfl))) (mvT hZ (hw _ (List.mem_of_getElem? (i := 3) rfl))) (mvT hZ (hw _ (List.mem_of_getElem? (i := 4) rfl))) (mvT hZ (hw _ (List.mem_of_getElem? (i := 5) rfl))) (by decide) (backOfS (W := 0) (rm1 l Z a0 hw [] (q1 &&& (4294967295 : Int64)) b352 k352 (0 : Int32) [] (.int (0 : Int32)) h352 n0 Z354 (own_rg q1).1 (own_rg q1).2 V352) hZ (hw _ (List.mem_of_getElem? (i := 5) rfl)) (hw _ (List.mem_of_getElem? (i := 4) rfl)) (by decide) (by decide)) (g := (mkF m 93 #[.val (.long q1), .second, .val (.int p2), .val (.int p3), .val (.long (q1 &&& (4294967295 : Int64))), .second, .val (.int (0 : Int32)), .val (.ref b346), .val (.ref b352), .unset, .unset] [(.ref b352), (.long (q1 &&& (4294967295 : Int64)))])) rfl (by rw [hml]; rfl) (argsL := [(.long (q1 &&& (4294967295 : Int64))), (.ref b352)]) (rest := []) (lenOf pd__J_B_Lcom_example_message_buffer_messagebuffer_model_Message_ rfl) rfl (by show 2 * 0 + _ ≤ _; exact Nat.le_of_eq rfl) (hb hby at_93) (fun _ _ => ⟨rfl, e352, (by decide : 2 + 3 ≤ _), (by decide : 0 + 24 ≤ _)⟩)
  dsimp only [Pt.U, Pt.locs, Pt.cells, Pt.slots] at X367 l367 y367 z367 st367 hQ367 sS367 gr367
  subst l367 y367 z367
  obtain ⟨r367, rfl, N367q, K367, lr367, E367, F367a, F367b, F367c, F367d⟩ := hQ367
  have N367 := Fr.app N0 N367q
  have ne_b346_r367 : b346 ≠ r367 := Nat.ne_of_lt (Nat.lt_of_lt_of_le (V346.ext E352).lt lr367)
  have ne_b352_r367 : b352 ≠ r367 := Nat.ne_of_lt (Nat.lt_of_lt_of_le V352.lt lr367)
  have O368 := O353.keep K367 all0
  have Z369 : n0 ≤ T367.heap.size := Nat.le_trans Z354 K367.1
  have K370 := Nat.le_trans K355 K367.1
  have hS367 := foldS (s := s) (vm0 := s.vm) hS0 (by rw [e352]; exact K355) sS367 gr367
  have hZ367 : Z.Warmed39 (s.setVm T367.vm).vm := State.Warmed39.trans (t := s.setVm s.vm) hZ sS367.1
  have hown367 : (s.setVm T367.vm).vm.findClass "com/example/message_buffer/messagebuffer/model/MessageOfPinLaw" = some m.cls := by rw [show (s.setVm T367.vm).vm = T367.vm from rfl, sS367.1.alike.findClass]; exact hown
  have X367 : Stand p l e room_1 (s.setVm T367.vm) m _ below meth c T367 _ _ _ := X367
  have pre371 : ∀ t, Steps p.tables e below (T367.setTop (mkF m 96 #[.val (.long q1), .second, .val (.int p2), .val (.int p3), .val (.long (q1 &&& (4294967295 : Int64))), .second, .val (.int (0 : Int32)), .val (.ref b346), .val (.ref b352), .unset, .unset] [(.ref r367)])) t → Steps p.tables e below (s₁.setTop (entryFrame m #[(.long q1), (.int p2), (.int p3)] maxLocals)) t := by
    intro t k
    refine pre366 _ ?_
    show Steps p.tables e below (T352.setTop (mkF m 93 #[.val (.long q1), .second, .val (.int p2), .val (.int p3), .val (.long (q1 &&& (4294967295 : Int64))), .second, .val (.int (0 : Int32)), .val (.ref b346), .val (.ref b352), .unset, .unset] [(.ref b352), (.long (q1 &&& (4294967295 : Int64)))])) _
    refine st367.trans ?_
    exact k
  have pre372 : ∀ t, Steps p.tables e below (T367.setTop (mkF m 102 #[.val (.long q1), .second, .val (.int p2), .val (.int p3), .val (.long (q1 &&& (4294967295 : Int64))), .second, .val (.int (0 : Int32)), .val (.ref b346), .val (.ref b352), .val (.ref r367), .unset] [(.ref b346), (.long (q1 &&& (4294967295 : Int64)))])) t → Steps p.tables e below (s₁.setTop (entryFrame m #[(.long q1), (.int p2), (.int p3)] maxLocals)) t := by
    intro t k
    refine pre371 _ ?_
    show Steps p.tables e below (T367.setTop (mkF m 96 #[.val (.long q1), .second, .val (.int p2), .val (.int p3), .val (.long (q1 &&& (4294967295 : Int64))), .second, .val (.int (0 : Int32)), .val (.ref b346), .val (.ref b352), .unset, .unset] [(.ref r367)])) _
    refine XS.astore X367.here hx rfl (hb hby at_96) rfl rfl (l' := #[.val (.long q1), .second, .val (.int p2), .val (.int p3), .val (.long (q1 &&& (4294967295 : Int64))), .second, .val (.int (0 : Int32)), .val (.ref b346), .val (.ref b352), .val (.ref r367), .unset]) rfl ?_
    show Steps p.tables e below (T367.setTop (mkF m 98 #[.val (.long q1), .second, .val (.int p2), .val (.int p3), .val (.long (q1 &&& (4294967295 : Int64))), .second, .val (.int (0 : Int32)), .val (.ref b346), .val (.ref b352), .val (.ref r367), .unset] [])) _
    refine XS.lload X367.here hx rfl (hb hby at_98) rfl ?_
    show Steps p.tables e below (T367.setTop (mkF m 100 #[.val (.long q1), .second, .val (.int p2), .val (.int p3), .val (.long (q1 &&& (4294967295 : Int64))), .second, .val (.int (0 : Int32)), .val (.ref b346), .val (.ref b352), .val (.ref r367), .unset] [(.long (q1 &&& (4294967295 : Int64)))])) _
    refine XS.aload X367.here hx rfl (hb hby at_100) rfl rfl ?_
    exact k
  obtain ⟨_, _, ⟨T373, L373, k373, n373⟩, -, X373, sS373, gr373, ⟨Lc373, hQ373, l373, y373, z373⟩, st373⟩ := Jvm.RoadKit.callSS X367 hx (y := (⟨"com/example/message_buffer/messagebuffer/model/Message", "of", "(J[B)Lcom/example/message_buffer/messagebuffer/model/Message;"⟩ : MethodName)) hown367 (mvT hZ367 (hw _ (List.mem_of_getElem? (i := 37) rfl))) (mvT hZ367 (hw _ (List.mem_of_getElem? (i := 38) rfl))) (mvT hZ367 (hw _ (List.mem_of_getElem? (i := 4) rfl))) (mvT hZ367 (hw _ (List.mem_of_getElem? (i := 39) rfl))) (by decide) (backOfS (W := 0) (rm6 l Z a0 hw [] (q1 &&& (4294967295 : Int64)) b346 k346 (0 : Int32) [] (.int (0 : Int32)) T367.heap n0 Z369 (own_rg q1).1 (own_rg q1).2 ((V346.ext E352).keep K367 nin0) ((Ex346.ext E352).keep K367) (by decide)) hZ367 (hw _ (List.mem_of_getElem? (i := 39) rfl)) (hw _ (List.mem_of_getElem? (i := 4) rfl)) (by decide) (by decide)) (g := (mkF m 102 #[.val (.long q1), .second, .val (.int p2), .val (.int p3), .val (.long (q1 &&& (4294967295 : Int64))), .second, .val (.int (0 : Int32)), .val (.ref b346), .val (.ref b352), .val (.ref r367), .unset] [(.ref b346), (.long (q1 &&& (4294967295 : Int64)))])) rfl (by rw [hml]; rfl) (argsL := [(.long (q1 &&& (4294967295 : Int64))), (.ref b346)]) (rest := []) (lenOf pd__J_B_Lcom_example_message_buffer_messagebuffer_model_Message_ rfl) rfl (by show 2 * 0 + _ ≤ _; exact Nat.le_of_eq rfl) (hb hby at_102) (fun _ _ => ⟨rfl, rfl, (by decide : 5 + 4 ≤ _), (by decide : 24 + 27 ≤ _)⟩)
  dsimp only [Pt.U, Pt.locs, Pt.cells, Pt.slots] at X373 l373 y373 z373 st373 hQ373 sS373 gr373
  subst l373 y373 z373
  obtain ⟨r373, d373, rfl, N373q, K373, lr373, ld373, E373, F373a, F373b, F373c, F373d, Vd373⟩ := hQ373
  have N373 := Fr.app N367 N373q
  have ne_b346_r373 : b346 ≠ r373 := Nat.ne_of_lt (Nat.lt_of_lt_of_le ((V346.ext E352).keep K367 nin0).lt lr373)
  have ne_b352_r373 : b352 ≠ r373 := Nat.ne_of_lt (Nat.lt_of_lt_of_le (V352.keep K367 nin0).lt lr373)
  have ne_r367_r373 : r367 ≠ r373 := Nat.ne_of_lt (Nat.lt_of_lt_of_le E367.lt lr373)
  have ne_b346_d373 : b346 ≠ d373 := Nat.ne_of_lt (Nat.lt_of_lt_of_le ((V346.ext E352).keep K367 nin0).lt ld373)
  have ne_b352_d373 : b352 ≠ d373 := Nat.ne_of_lt (Nat.lt_of_lt_of_le (V352.keep K367 nin0).lt ld373)
  have ne_r367_d373 : r367 ≠ d373 := Nat.ne_of_lt (Nat.lt_of_lt_of_le E367.lt ld373)
  have O374 := O368.keep K373 all0
  have Z375 : n0 ≤ T373.heap.size := Nat.le_trans Z369 K373.1
  have K376 := Nat.le_trans (Nat.le_refl _) K373.1
  have hS373 := foldS (s := s) (vm0 := T367.vm) hS367 (Nat.le_refl _) sS373 gr373
  have hZ373 : Z.Warmed39 (s.setVm T373.vm).vm := State.Warmed39.trans (t := s.setVm T367.vm) hZ367 sS373.1
  have hown373 : (s.setVm T373.vm).vm.findClass "com/example/message_buffer/messagebuffer/model/MessageOfPinLaw" = some m.cls := by rw [show (s.setVm T373.vm).vm = T373.vm from rfl, sS373.1.alike.findClass]; exact hown367
  have X373 : Stand p l e room_1 (s.setVm T373.vm) m _ below meth c T373 _ _ _ := X373
  have pre377 : ∀ t, Steps p.tables e below (T373.setTop (mkF m 105 #[.val (.long q1), .second, .val (.int p2), .val (.int p3), .val (.long (q1 &&& (4294967295 : Int64))), .second, .val (.int (0 : Int32)), .val (.ref b346), .val (.ref b352), .val (.ref r367), .unset] [(.ref r373)])) t → Steps p.tables e below (s₁.setTop (entryFrame m #[(.long q1), (.int p2), (.int p3)] maxLocals)) t := by
    intro t k
    refine pre372 _ ?_
    show Steps p.tables e below (T367.setTop (mkF m 102 #[.val (.long q1), .second, .val (.int p2), .val (.int p3), .val (.long (q1 &&& (4294967295 : Int64))), .second, .val (.int (0 : Int32)), .val (.ref b346), .val (.ref b352), .val (.ref r367), .unset] [(.ref b346), (.long (q1 &&& (4294967295 : Int64)))])) _
    refine st373.trans ?_
    exact k
  have pre378 : ∀ t, Steps p.tables e below (T373.setTop (mkF m 109 #[.val (.long q1), .second, .val (.int p2), .val (.int p3), .val (.long (q1 &&& (4294967295 : Int64))), .second, .val (.int (0 : Int32)), .val (.ref b346), .val (.ref b352), .val (.ref r367), .val (.ref r373)] [(.int (0 : Int32))])) t → Steps p.tables e below (s₁.setTop (entryFrame m #[(.long q1), (.int p2), (.int p3)] maxLocals)) t := by
    intro t k
    refine pre377 _ ?_
    show Steps p.tables e below (T373.setTop (mkF m 105 #[.val (.long q1), .second, .val (.int p2), .val (.int p3), .val (.long (q1 &&& (4294967295 : Int64))), .second, .val (.int (0 : Int32)), .val (.ref b346), .val (.ref b352), .val (.ref r367), .unset] [(.ref r373)])) _
    refine XS.astore X373.here hx rfl (hb hby at_105) rfl rfl (l' := #[.val (.long q1), .second, .val (.int p2), .val (.int p3), .val (.long (q1 &&& (4294967295 : Int64))), .second, .val (.int (0 : Int32)), .val (.ref b346), .val (.ref b352), .val (.ref r367), .val (.ref r373)]) rfl ?_
    show Steps p.tables e below (T373.setTop (mkF m 107 #[.val (.long q1), .second, .val (.int p2), .val (.int p3), .val (.long (q1 &&& (4294967295 : Int64))), .second, .val (.int (0 : Int32)), .val (.ref b346), .val (.ref b352), .val (.ref r367), .val (.ref r373)] [])) _
    refine XS.iload X373.here hx rfl (hb hby at_107) rfl ?_
    exact k
  have pre380 : ∀ t, Steps p.tables e below (T373.setTop (mkF m 123 #[.val (.long q1), .second, .val (.int p2), .val (.int p3), .val (.long (q1 &&& (4294967295 : Int64))), .second, .val (.int (0 : Int32)), .val (.ref b346), .val (.ref b352), .val (.ref r367), .val (.ref r373)] [])) t → Steps p.tables e below (s₁.setTop (entryFrame m #[(.long q1), (.int p2), (.int p3)] maxLocals)) t := by
    intro t k
    refine pre378 _ ?_
    show Steps p.tables e below (T373.setTop (mkF m 109 #[.val (.long q1), .second, .val (.int p2), .val (.int p3), .val (.long (q1 &&& (4294967295 : Int64))), .second, .val (.int (0 : Int32)), .val (.ref b346), .val (.ref b352), .val (.ref r367), .val (.ref r373)] [(.int (0 : Int32))])) _
    refine XS.ifYes X373.here hx rfl (pc0 := 109) (pc' := 123) rfl (hb hby at_109) rfl ((if0 _ _).trans (flt (by decide : ¬ ((0 : Int32) < (0 : Int32)))).2.2.2) (by decide) (by decide) ?_
    exact k
  have pre381 : ∀ t, Steps p.tables e below (T373.setTop (mkF m 125 #[.val (.long q1), .second, .val (.int p2), .val (.int p3), .val (.long (q1 &&& (4294967295 : Int64))), .second, .val (.int (0 : Int32)), .val (.ref b346), .val (.ref b352), .val (.ref r367), .val (.ref r373)] [(.ref r373)])) t → Steps p.tables e below (s₁.setTop (entryFrame m #[(.long q1), (.int p2), (.int p3)] maxLocals)) t := by
    intro t k
    refine pre380 _ ?_
    show Steps p.tables e below (T373.setTop (mkF m 123 #[.val (.long q1), .second, .val (.int p2), .val (.int p3), .val (.long (q1 &&& (4294967295 : Int64))), .second, .val (.int (0 : Int32)), .val (.ref b346), .val (.ref b352), .val (.ref r367), .val (.ref r373)] [])) _
    refine XS.aload X373.here hx rfl (hb hby at_123) rfl rfl ?_
    exact k
  obtain ⟨cq382, kq382, q382a, q382b, q382c⟩ := isOf hZ373 rfl E373
  obtain ⟨_, _, ⟨T382, L382, k382, n382⟩, -, X382, ⟨Lc382, hQ382, l382, y382, z382⟩, st382⟩ := X373.virtualBack hx (y := (⟨"com/example/message_buffer/messagebuffer/model/Message", "flags", "()J"⟩ : MethodName)) (z := (⟨"com/example/message_buffer/messagebuffer/model/Message", "flags", "()J"⟩ : MethodName)) hown373 (mvT hZ373 (hw _ (List.mem_of_getElem? (i := 49) rfl))) (mvT hZ373 (hw _ (List.mem_of_getElem? (i := 50) rfl))) (notFace_of_selects (args := #[]) (mvT hZ373 (hw _ (List.mem_of_getElem? (i := 52) rfl)))) (mvT hZ373 (hw _ (List.mem_of_getElem? (i := 52) rfl))) (mvT hZ373 (hw _ (List.mem_of_getElem? (i := 51) rfl))) (by decide) (backOf (W := 0) (rm7 l Z a0 hw [] r373 ((q1 &&& (4294967295 : Int64)).toInt32) T373.heap n0 Z375 F373a) hZ373 (hw _ (List.mem_of_getElem? (i := 53) rfl)) (hw _ (List.mem_of_getElem? (i := 4) rfl)) (by decide) (by decide)) q382a q382c (g := (mkF m 125 #[.val (.long q1), .second, .val (.int p2), .val (.int p3), .val (.long (q1 &&& (4294967295 : Int64))), .second, .val (.int (0 : Int32)), .val (.ref b346), .val (.ref b352), .val (.ref r367), .val (.ref r373)] [(.ref r373)])) rfl (by rw [hml]; rfl) (Steps.refl _) (argsL := []) (rest := []) (lenOf pd___J rfl) rfl (by show 2 * 0 + _ ≤ _; exact Nat.le_of_eq rfl) (hb hby at_125) (fun _ _ => ⟨rfl, rfl, (by decide : 9 + 0 ≤ _), (by decide : 51 + 0 ≤ _)⟩)
  dsimp only [Pt.U, Pt.locs, Pt.cells, Pt.slots] at X382 l382 y382 z382 st382 hQ382
  subst l382 y382 z382
  obtain ⟨rfl, N382q, e382⟩ := hQ382
  have N382 := Fr.app N373 N382q
  have pre383 : ∀ t, Steps p.tables e below (T382.setTop (mkF m 128 #[.val (.long q1), .second, .val (.int p2), .val (.int p3), .val (.long (q1 &&& (4294967295 : Int64))), .second, .val (.int (0 : Int32)), .val (.ref b346), .val (.ref b352), .val (.ref r367), .val (.ref r373)] [(.long (F7 ((q1 &&& (4294967295 : Int64)).toInt32)))])) t → Steps p.tables e below (s₁.setTop (entryFrame m #[(.long q1), (.int p2), (.int p3)] maxLocals)) t := by
    intro t k
    refine pre381 _ ?_
    show Steps p.tables e below (T373.setTop (mkF m 125 #[.val (.long q1), .second, .val (.int p2), .val (.int p3), .val (.long (q1 &&& (4294967295 : Int64))), .second, .val (.int (0 : Int32)), .val (.ref b346), .val (.ref b352), .val (.ref r367), .val (.ref r373)] [(.ref r373)])) _
    refine st382.trans ?_
    exact k
  have pre384 : ∀ t, Steps p.tables e below (T382.setTop (mkF m 131 #[.val (.long q1), .second, .val (.int p2), .val (.int p3), .val (.long (q1 &&& (4294967295 : Int64))), .second, .val (.int (0 : Int32)), .val (.ref b346), .val (.ref b352), .val (.ref r367), .val (.ref r373)] [(.int (lcmpW (F7 ((q1 &&& (4294967295 : Int64)).toInt32)) (q1 &&& (4294967295 : Int64))))])) t → Steps p.tables e below (s₁.setTop (entryFrame m #[(.long q1), (.int p2), (.int p3)] maxLocals)) t := by
    intro t k
    refine pre383 _ ?_
    show Steps p.tables e below (T382.setTop (mkF m 128 #[.val (.long q1), .second, .val (.int p2), .val (.int p3), .val (.long (q1 &&& (4294967295 : Int64))), .second, .val (.int (0 : Int32)), .val (.ref b346), .val (.ref b352), .val (.ref r367), .val (.ref r373)] [(.long (F7 ((q1 &&& (4294967295 : Int64)).toInt32)))])) _
    refine XS.lload X382.here hx rfl (hb hby at_128) rfl ?_
    show Steps p.tables e below (T382.setTop (mkF m 130 #[.val (.long q1), .second, .val (.int p2), .val (.int p3), .val (.long (q1 &&& (4294967295 : Int64))), .second, .val (.int (0 : Int32)), .val (.ref b346), .val (.ref b352), .val (.ref r367), .val (.ref r373)] [(.long (q1 &&& (4294967295 : Int64))), (.long (F7 ((q1 &&& (4294967295 : Int64)).toInt32)))])) _
    refine XS.lcmp X382.here hx rfl (hb hby at_130) rfl ?_
    exact k
  by_cases hc385 : (lcmpW (F7 ((q1 &&& (4294967295 : Int64)).toInt32)) (q1 &&& (4294967295 : Int64))) = (0 : Int32)
  · have pre386 : ∀ t, Steps p.tables e below (T382.setTop (mkF m 134 #[.val (.long q1), .second, .val (.int p2), .val (.int p3), .val (.long (q1 &&& (4294967295 : Int64))), .second, .val (.int (0 : Int32)), .val (.ref b346), .val (.ref b352), .val (.ref r367), .val (.ref r373)] [])) t → Steps p.tables e below (s₁.setTop (entryFrame m #[(.long q1), (.int p2), (.int p3)] maxLocals)) t := by
      intro t k
      refine pre384 _ ?_
      show Steps p.tables e below (T382.setTop (mkF m 131 #[.val (.long q1), .second, .val (.int p2), .val (.int p3), .val (.long (q1 &&& (4294967295 : Int64))), .second, .val (.int (0 : Int32)), .val (.ref b346), .val (.ref b352), .val (.ref r367), .val (.ref r373)] [(.int (lcmpW (F7 ((q1 &&& (4294967295 : Int64)).toInt32)) (q1 &&& (4294967295 : Int64))))])) _
      refine XS.ifNo X382.here hx rfl (hb hby at_131) rfl ((if0 _ _).trans (teq hc385).2) ?_
      exact k
    have pre387 : ∀ t, Steps p.tables e below (T382.setTop (mkF m 136 #[.val (.long q1), .second, .val (.int p2), .val (.int p3), .val (.long (q1 &&& (4294967295 : Int64))), .second, .val (.int (0 : Int32)), .val (.ref b346), .val (.ref b352), .val (.ref r367), .val (.ref r373)] [(.ref r373)])) t → Steps p.tables e below (s₁.setTop (entryFrame m #[(.long q1), (.int p2), (.int p3)] maxLocals)) t := by
      intro t k
      refine pre386 _ ?_
      show Steps p.tables e below (T382.setTop (mkF m 134 #[.val (.long q1), .second, .val (.int p2), .val (.int p3), .val (.long (q1 &&& (4294967295 : Int64))), .second, .val (.int (0 : Int32)), .val (.ref b346), .val (.ref b352), .val (.ref r367), .val (.ref r373)] [])) _
      refine XS.aload X382.here hx rfl (hb hby at_134) rfl rfl ?_
      exact k
    obtain ⟨cq388, kq388, q388a, q388b, q388c⟩ := isOf hZ373 e382 E373
    obtain ⟨_, _, ⟨T388, L388, k388, n388⟩, -, X388, ⟨Lc388, hQ388, l388, y388, z388⟩, st388⟩ := X382.virtualBack hx (y := (⟨"com/example/message_buffer/messagebuffer/model/Message", "size", "()I"⟩ : MethodName)) (z := (⟨"com/example/message_buffer/messagebuffer/model/Message", "size", "()I"⟩ : MethodName)) hown373 (mvT hZ373 (hw _ (List.mem_of_getElem? (i := 59) rfl))) (mvT hZ373 (hw _ (List.mem_of_getElem? (i := 60) rfl))) (notFace_of_selects (args := #[]) (mvT hZ373 (hw _ (List.mem_of_getElem? (i := 62) rfl)))) (mvT hZ373 (hw _ (List.mem_of_getElem? (i := 62) rfl))) (mvT hZ373 (hw _ (List.mem_of_getElem? (i := 61) rfl))) (by decide) (backOf (W := 0) (rm9 l Z a0 hw [] r373 (0 : Int32) T373.heap n0 Z375 F373d) hZ373 (hw _ (List.mem_of_getElem? (i := 63) rfl)) (hw _ (List.mem_of_getElem? (i := 4) rfl)) (by decide) (by decide)) q388a q388c (g := (mkF m 136 #[.val (.long q1), .second, .val (.int p2), .val (.int p3), .val (.long (q1 &&& (4294967295 : Int64))), .second, .val (.int (0 : Int32)), .val (.ref b346), .val (.ref b352), .val (.ref r367), .val (.ref r373)] [(.ref r373)])) rfl (by rw [hml]; rfl) (Steps.refl _) (argsL := []) (rest := []) (lenOf pd___I rfl) rfl (by show 2 * 0 + _ ≤ _; exact Nat.le_of_eq rfl) (hb hby at_136) (fun _ _ => ⟨rfl, e382, (by decide : 9 + 0 ≤ _), (by decide : 51 + 0 ≤ _)⟩)
    dsimp only [Pt.U, Pt.locs, Pt.cells, Pt.slots] at X388 l388 y388 z388 st388 hQ388
    subst l388 y388 z388
    obtain ⟨rfl, N388q, e388⟩ := hQ388
    have N388 := Fr.app N382 N388q
    have pre389 : ∀ t, Steps p.tables e below (T388.setTop (mkF m 139 #[.val (.long q1), .second, .val (.int p2), .val (.int p3), .val (.long (q1 &&& (4294967295 : Int64))), .second, .val (.int (0 : Int32)), .val (.ref b346), .val (.ref b352), .val (.ref r367), .val (.ref r373)] [(.int (0 : Int32))])) t → Steps p.tables e below (s₁.setTop (entryFrame m #[(.long q1), (.int p2), (.int p3)] maxLocals)) t := by
      intro t k
      refine pre387 _ ?_
      show Steps p.tables e below (T382.setTop (mkF m 136 #[.val (.long q1), .second, .val (.int p2), .val (.int p3), .val (.long (q1 &&& (4294967295 : Int64))), .second, .val (.int (0 : Int32)), .val (.ref b346), .val (.ref b352), .val (.ref r367), .val (.ref r373)] [(.ref r373)])) _
      refine st388.trans ?_
      exact k
    have pre390 : ∀ t, Steps p.tables e below (T388.setTop (mkF m 141 #[.val (.long q1), .second, .val (.int p2), .val (.int p3), .val (.long (q1 &&& (4294967295 : Int64))), .second, .val (.int (0 : Int32)), .val (.ref b346), .val (.ref b352), .val (.ref r367), .val (.ref r373)] [(.int (0 : Int32)), (.int (0 : Int32))])) t → Steps p.tables e below (s₁.setTop (entryFrame m #[(.long q1), (.int p2), (.int p3)] maxLocals)) t := by
      intro t k
      refine pre389 _ ?_
      show Steps p.tables e below (T388.setTop (mkF m 139 #[.val (.long q1), .second, .val (.int p2), .val (.int p3), .val (.long (q1 &&& (4294967295 : Int64))), .second, .val (.int (0 : Int32)), .val (.ref b346), .val (.ref b352), .val (.ref r367), .val (.ref r373)] [(.int (0 : Int32))])) _
      refine XS.iload X388.here hx rfl (hb hby at_139) rfl ?_
      exact k
    have pre392 : ∀ t, Steps p.tables e below (T388.setTop (mkF m 144 #[.val (.long q1), .second, .val (.int p2), .val (.int p3), .val (.long (q1 &&& (4294967295 : Int64))), .second, .val (.int (0 : Int32)), .val (.ref b346), .val (.ref b352), .val (.ref r367), .val (.ref r373)] [])) t → Steps p.tables e below (s₁.setTop (entryFrame m #[(.long q1), (.int p2), (.int p3)] maxLocals)) t := by
      intro t k
      refine pre390 _ ?_
      show Steps p.tables e below (T388.setTop (mkF m 141 #[.val (.long q1), .second, .val (.int p2), .val (.int p3), .val (.long (q1 &&& (4294967295 : Int64))), .second, .val (.int (0 : Int32)), .val (.ref b346), .val (.ref b352), .val (.ref r367), .val (.ref r373)] [(.int (0 : Int32)), (.int (0 : Int32))])) _
      refine XS.icmpNo X388.here hx rfl (hb hby at_141) rfl (teq (rfl : (0 : Int32) = (0 : Int32))).2 ?_
      exact k
    have pre393 : ∀ t, Steps p.tables e below (T388.setTop (mkF m 146 #[.val (.long q1), .second, .val (.int p2), .val (.int p3), .val (.long (q1 &&& (4294967295 : Int64))), .second, .val (.int (0 : Int32)), .val (.ref b346), .val (.ref b352), .val (.ref r367), .val (.ref r373)] [(.ref r373)])) t → Steps p.tables e below (s₁.setTop (entryFrame m #[(.long q1), (.int p2), (.int p3)] maxLocals)) t := by
      intro t k
      refine pre392 _ ?_
      show Steps p.tables e below (T388.setTop (mkF m 144 #[.val (.long q1), .second, .val (.int p2), .val (.int p3), .val (.long (q1 &&& (4294967295 : Int64))), .second, .val (.int (0 : Int32)), .val (.ref b346), .val (.ref b352), .val (.ref r367), .val (.ref r373)] [])) _
      refine XS.aload X388.here hx rfl (hb hby at_144) rfl rfl ?_
      exact k
    obtain ⟨cq394, kq394, q394a, q394b, q394c⟩ := isOf hZ373 e388 E373
    obtain ⟨_, _, ⟨T394, L394, k394, n394⟩, -, X394, ⟨Lc394, hQ394, l394, y394, z394⟩, st394⟩ := X388.virtualBack hx (y := (⟨"com/example/message_buffer/messagebuffer/model/Message", "source", "()Lcom/example/message_buffer/messagebuffer/model/Message$Source;"⟩ : MethodName)) (z := (⟨"com/example/message_buffer/messagebuffer/model/Message", "source", "()Lcom/example/message_buffer/messagebuffer/model/Message$Source;"⟩ : MethodName)) hown373 (mvT hZ373 (hw _ (List.mem_of_getElem? (i := 64) rfl))) (mvT hZ373 (hw _ (List.mem_of_getElem? (i := 65) rfl))) (notFace_of_selects (args := #[]) (mvT hZ373 (hw _ (List.mem_of_getElem? (i := 67) rfl)))) (mvT hZ373 (hw _ (List.mem_of_getElem? (i := 67) rfl))) (mvT hZ373 (hw _ (List.mem_of_getElem? (i := 66) rfl))) (by decide) (backOf (W := 0) (rm10 l Z a0 hw [] r373 T373.heap n0 Z375 F373c) hZ373 (hw _ (List.mem_of_getElem? (i := 68) rfl)) (hw _ (List.mem_of_getElem? (i := 4) rfl)) (by decide) (by decide)) q394a q394c (g := (mkF m 146 #[.val (.long q1), .second, .val (.int p2), .val (.int p3), .val (.long (q1 &&& (4294967295 : Int64))), .second, .val (.int (0 : Int32)), .val (.ref b346), .val (.ref b352), .val (.ref r367), .val (.ref r373)] [(.ref r373)])) rfl (by rw [hml]; rfl) (Steps.refl _) (argsL := []) (rest := []) (lenOf pd___Lcom_example_message_buffer_messagebuffer_model_Message_Source_ rfl) rfl (by show 2 * 0 + _ ≤ _; exact Nat.le_of_eq rfl) (hb hby at_146) (fun _ _ => ⟨rfl, e388, (by decide : 9 + 0 ≤ _), (by decide : 51 + 0 ≤ _)⟩)
    dsimp only [Pt.U, Pt.locs, Pt.cells, Pt.slots] at X394 l394 y394 z394 st394 hQ394
    subst l394 y394 z394
    obtain ⟨rfl, N394q, e394⟩ := hQ394
    have N394 := Fr.app N388 N394q
    have pre395 : ∀ t, Steps p.tables e below (T394.setTop (mkF m 149 #[.val (.long q1), .second, .val (.int p2), .val (.int p3), .val (.long (q1 &&& (4294967295 : Int64))), .second, .val (.int (0 : Int32)), .val (.ref b346), .val (.ref b352), .val (.ref r367), .val (.ref r373)] [.null])) t → Steps p.tables e below (s₁.setTop (entryFrame m #[(.long q1), (.int p2), (.int p3)] maxLocals)) t := by
      intro t k
      refine pre393 _ ?_
      show Steps p.tables e below (T388.setTop (mkF m 146 #[.val (.long q1), .second, .val (.int p2), .val (.int p3), .val (.long (q1 &&& (4294967295 : Int64))), .second, .val (.int (0 : Int32)), .val (.ref b346), .val (.ref b352), .val (.ref r367), .val (.ref r373)] [(.ref r373)])) _
      refine st394.trans ?_
      exact k
    have pre396 : ∀ t, Steps p.tables e below (T394.setTop (mkF m 154 #[.val (.long q1), .second, .val (.int p2), .val (.int p3), .val (.long (q1 &&& (4294967295 : Int64))), .second, .val (.int (0 : Int32)), .val (.ref b346), .val (.ref b352), .val (.ref r367), .val (.ref r373)] [(.ref r373)])) t → Steps p.tables e below (s₁.setTop (entryFrame m #[(.long q1), (.int p2), (.int p3)] maxLocals)) t := by
      intro t k
      refine pre395 _ ?_
      show Steps p.tables e below (T394.setTop (mkF m 149 #[.val (.long q1), .second, .val (.int p2), .val (.int p3), .val (.long (q1 &&& (4294967295 : Int64))), .second, .val (.int (0 : Int32)), .val (.ref b346), .val (.ref b352), .val (.ref r367), .val (.ref r373)] [.null])) _
      refine XS.ifnonnullNo X394.here hx rfl (hb hby at_149) rfl ?_
      show Steps p.tables e below (T394.setTop (mkF m 152 #[.val (.long q1), .second, .val (.int p2), .val (.int p3), .val (.long (q1 &&& (4294967295 : Int64))), .second, .val (.int (0 : Int32)), .val (.ref b346), .val (.ref b352), .val (.ref r367), .val (.ref r373)] [])) _
      refine XS.aload X394.here hx rfl (hb hby at_152) rfl rfl ?_
      exact k
    obtain ⟨cq397, kq397, q397a, q397b, q397c⟩ := isOf hZ373 e394 E373
    obtain ⟨_, _, ⟨T397, L397, k397, n397⟩, -, X397, ⟨Lc397, hQ397, l397, y397, z397⟩, st397⟩ := X394.virtualBack hx (y := (⟨"com/example/message_buffer/messagebuffer/model/Message", "footprint", "()J"⟩ : MethodName)) (z := (⟨"com/example/message_buffer/messagebuffer/model/Message", "footprint", "()J"⟩ : MethodName)) hown373 (mvT hZ373 (hw _ (List.mem_of_getElem? (i := 69) rfl))) (mvT hZ373 (hw _ (List.mem_of_getElem? (i := 70) rfl))) (notFace_of_selects (args := #[]) (mvT hZ373 (hw _ (List.mem_of_getElem? (i := 72) rfl)))) (mvT hZ373 (hw _ (List.mem_of_getElem? (i := 72) rfl))) (mvT hZ373 (hw _ (List.mem_of_getElem? (i := 71) rfl))) (by decide) (backOf (W := 0) (rm11 l Z a0 hw [] r373 (0 : Int32) T373.heap n0 Z375 F373d) hZ373 (hw _ (List.mem_of_getElem? (i := 73) rfl)) (hw _ (List.mem_of_getElem? (i := 4) rfl)) (by decide) (by decide)) q397a q397c (g := (mkF m 154 #[.val (.long q1), .second, .val (.int p2), .val (.int p3), .val (.long (q1 &&& (4294967295 : Int64))), .second, .val (.int (0 : Int32)), .val (.ref b346), .val (.ref b352), .val (.ref r367), .val (.ref r373)] [(.ref r373)])) rfl (by rw [hml]; rfl) (Steps.refl _) (argsL := []) (rest := []) (lenOf pd___J rfl) rfl (by show 2 * 0 + _ ≤ _; exact Nat.le_of_eq rfl) (hb hby at_154) (fun _ _ => ⟨rfl, e394, (by decide : 9 + 0 ≤ _), (by decide : 51 + 0 ≤ _)⟩)
    dsimp only [Pt.U, Pt.locs, Pt.cells, Pt.slots] at X397 l397 y397 z397 st397 hQ397
    subst l397 y397 z397
    obtain ⟨rfl, N397q, e397⟩ := hQ397
    have N397 := Fr.app N394 N397q
    have pre398 : ∀ t, Steps p.tables e below (T397.setTop (mkF m 157 #[.val (.long q1), .second, .val (.int p2), .val (.int p3), .val (.long (q1 &&& (4294967295 : Int64))), .second, .val (.int (0 : Int32)), .val (.ref b346), .val (.ref b352), .val (.ref r367), .val (.ref r373)] [(.long (F11 (0 : Int32)))])) t → Steps p.tables e below (s₁.setTop (entryFrame m #[(.long q1), (.int p2), (.int p3)] maxLocals)) t := by
      intro t k
      refine pre396 _ ?_
      show Steps p.tables e below (T394.setTop (mkF m 154 #[.val (.long q1), .second, .val (.int p2), .val (.int p3), .val (.long (q1 &&& (4294967295 : Int64))), .second, .val (.int (0 : Int32)), .val (.ref b346), .val (.ref b352), .val (.ref r367), .val (.ref r373)] [(.ref r373)])) _
      refine st397.trans ?_
      exact k
    have pre399 : ∀ t, Steps p.tables e below (T397.setTop (mkF m 165 #[.val (.long q1), .second, .val (.int p2), .val (.int p3), .val (.long (q1 &&& (4294967295 : Int64))), .second, .val (.int (0 : Int32)), .val (.ref b346), .val (.ref b352), .val (.ref r367), .val (.ref r373)] [(.int (lcmpW (F11 (0 : Int32)) (((0 : Int32).toInt64) + (80 : Int64))))])) t → Steps p.tables e below (s₁.setTop (entryFrame m #[(.long q1), (.int p2), (.int p3)] maxLocals)) t := by
      intro t k
      refine pre398 _ ?_
      show Steps p.tables e below (T397.setTop (mkF m 157 #[.val (.long q1), .second, .val (.int p2), .val (.int p3), .val (.long (q1 &&& (4294967295 : Int64))), .second, .val (.int (0 : Int32)), .val (.ref b346), .val (.ref b352), .val (.ref r367), .val (.ref r373)] [(.long (F11 (0 : Int32)))])) _
      refine XS.iload X397.here hx rfl (hb hby at_157) rfl ?_
      show Steps p.tables e below (T397.setTop (mkF m 159 #[.val (.long q1), .second, .val (.int p2), .val (.int p3), .val (.long (q1 &&& (4294967295 : Int64))), .second, .val (.int (0 : Int32)), .val (.ref b346), .val (.ref b352), .val (.ref r367), .val (.ref r373)] [(.int (0 : Int32)), (.long (F11 (0 : Int32)))])) _
      refine XS.i2l X397.here hx rfl (hb hby at_159) rfl ?_
      show Steps p.tables e below (T397.setTop (mkF m 160 #[.val (.long q1), .second, .val (.int p2), .val (.int p3), .val (.long (q1 &&& (4294967295 : Int64))), .second, .val (.int (0 : Int32)), .val (.ref b346), .val (.ref b352), .val (.ref r367), .val (.ref r373)] [(.long ((0 : Int32).toInt64)), (.long (F11 (0 : Int32)))])) _
      refine X397.ldc2Long hx hown373 (mvT hZ373 (hw _ (List.mem_of_getElem? (i := 77) rfl))) (g := (mkF m 160 #[.val (.long q1), .second, .val (.int p2), .val (.int p3), .val (.long (q1 &&& (4294967295 : Int64))), .second, .val (.int (0 : Int32)), .val (.ref b346), .val (.ref b352), .val (.ref r367), .val (.ref r373)] [(.long ((0 : Int32).toInt64)), (.long (F11 (0 : Int32)))])) rfl (hb hby at_160) _ ?_
      show Steps p.tables e below (T397.setTop (mkF m 163 #[.val (.long q1), .second, .val (.int p2), .val (.int p3), .val (.long (q1 &&& (4294967295 : Int64))), .second, .val (.int (0 : Int32)), .val (.ref b346), .val (.ref b352), .val (.ref r367), .val (.ref r373)] [(.long (80 : Int64)), (.long ((0 : Int32).toInt64)), (.long (F11 (0 : Int32)))])) _
      refine XS.ladd X397.here hx rfl (hb hby at_163) rfl ?_
      show Steps p.tables e below (T397.setTop (mkF m 164 #[.val (.long q1), .second, .val (.int p2), .val (.int p3), .val (.long (q1 &&& (4294967295 : Int64))), .second, .val (.int (0 : Int32)), .val (.ref b346), .val (.ref b352), .val (.ref r367), .val (.ref r373)] [(.long (((0 : Int32).toInt64) + (80 : Int64))), (.long (F11 (0 : Int32)))])) _
      refine XS.lcmp X397.here hx rfl (hb hby at_164) rfl ?_
      exact k
    by_cases hc400 : (lcmpW (F11 (0 : Int32)) (((0 : Int32).toInt64) + (80 : Int64))) = (0 : Int32)
    · have pre401 : ∀ t, Steps p.tables e below (T397.setTop (mkF m 168 #[.val (.long q1), .second, .val (.int p2), .val (.int p3), .val (.long (q1 &&& (4294967295 : Int64))), .second, .val (.int (0 : Int32)), .val (.ref b346), .val (.ref b352), .val (.ref r367), .val (.ref r373)] [])) t → Steps p.tables e below (s₁.setTop (entryFrame m #[(.long q1), (.int p2), (.int p3)] maxLocals)) t := by
        intro t k
        refine pre399 _ ?_
        show Steps p.tables e below (T397.setTop (mkF m 165 #[.val (.long q1), .second, .val (.int p2), .val (.int p3), .val (.long (q1 &&& (4294967295 : Int64))), .second, .val (.int (0 : Int32)), .val (.ref b346), .val (.ref b352), .val (.ref r367), .val (.ref r373)] [(.int (lcmpW (F11 (0 : Int32)) (((0 : Int32).toInt64) + (80 : Int64))))])) _
        refine XS.ifNo X397.here hx rfl (hb hby at_165) rfl ((if0 _ _).trans (teq hc400).2) ?_
        exact k
      have pre402 : ∀ t, Steps p.tables e below (T397.setTop (mkF m 172 #[.val (.long q1), .second, .val (.int p2), .val (.int p3), .val (.long (q1 &&& (4294967295 : Int64))), .second, .val (.int (0 : Int32)), .val (.ref b346), .val (.ref b352), .val (.ref r367), .val (.ref r373)] [(.ref r367), (.ref r373)])) t → Steps p.tables e below (s₁.setTop (entryFrame m #[(.long q1), (.int p2), (.int p3)] maxLocals)) t := by
        intro t k
        refine pre401 _ ?_
        show Steps p.tables e below (T397.setTop (mkF m 168 #[.val (.long q1), .second, .val (.int p2), .val (.int p3), .val (.long (q1 &&& (4294967295 : Int64))), .second, .val (.int (0 : Int32)), .val (.ref b346), .val (.ref b352), .val (.ref r367), .val (.ref r373)] [])) _
        refine XS.aload X397.here hx rfl (hb hby at_168) rfl rfl ?_
        show Steps p.tables e below (T397.setTop (mkF m 170 #[.val (.long q1), .second, .val (.int p2), .val (.int p3), .val (.long (q1 &&& (4294967295 : Int64))), .second, .val (.int (0 : Int32)), .val (.ref b346), .val (.ref b352), .val (.ref r367), .val (.ref r373)] [(.ref r373)])) _
        refine XS.aload X397.here hx rfl (hb hby at_170) rfl rfl ?_
        exact k
      obtain ⟨cq403, kq403, q403a, q403b, q403c⟩ := isOf hZ373 e397 E373
      obtain ⟨_, _, ⟨T403, L403, k403, n403⟩, -, X403, ⟨Lc403, hQ403, l403, y403, z403⟩, st403⟩ := X397.virtualBack hx (y := (⟨"com/example/message_buffer/messagebuffer/model/Message", "equals", "(Ljava/lang/Object;)Z"⟩ : MethodName)) (z := (⟨"com/example/message_buffer/messagebuffer/model/Message", "equals", "(Ljava/lang/Object;)Z"⟩ : MethodName)) hown373 (mvT hZ373 (hw _ (List.mem_of_getElem? (i := 78) rfl))) (mvT hZ373 (hw _ (List.mem_of_getElem? (i := 79) rfl))) (notFace_of_selects (args := #[]) (mvT hZ373 (hw _ (List.mem_of_getElem? (i := 81) rfl)))) (mvT hZ373 (hw _ (List.mem_of_getElem? (i := 81) rfl))) (mvT hZ373 (hw _ (List.mem_of_getElem? (i := 80) rfl))) (by decide) (backOf (W := 0) (rm130 l Z a0 hw [] r373 r367 ((q1 &&& (4294967295 : Int64)).toInt32) d373 b352 k346 k352 T373.heap n0 Z375 (E367.keep K373) F373c F373a (F367a.keep K373 nin0) F373b (F367b.keep K373 nin0) Vd373 ((V352.keep K367 nin0).keep K373 nin0)) hZ373 (hw _ (List.mem_of_getElem? (i := 82) rfl)) (hw _ (List.mem_of_getElem? (i := 4) rfl)) (by decide) (by decide)) q403a q403c (g := (mkF m 172 #[.val (.long q1), .second, .val (.int p2), .val (.int p3), .val (.long (q1 &&& (4294967295 : Int64))), .second, .val (.int (0 : Int32)), .val (.ref b346), .val (.ref b352), .val (.ref r367), .val (.ref r373)] [(.ref r367), (.ref r373)])) rfl (by rw [hml]; rfl) (Steps.refl _) (argsL := [(.ref r367)]) (rest := []) (lenOf pd__Ljava_lang_Object__Z rfl) rfl (by show 2 * 0 + _ ≤ _; exact Nat.le_of_eq rfl) (hb hby at_172) (fun _ _ => ⟨rfl, e397, (by decide : 9 + 0 ≤ _), (by decide : 51 + 0 ≤ _)⟩)
      dsimp only [Pt.U, Pt.locs, Pt.cells, Pt.slots] at X403 l403 y403 z403 st403 hQ403
      subst l403 y403 z403
      obtain ⟨rfl, N403q, e403⟩ := hQ403
      have N403 := Fr.app N397 N403q
      have pre404 : ∀ t, Steps p.tables e below (T403.setTop (mkF m 175 #[.val (.long q1), .second, .val (.int p2), .val (.int p3), .val (.long (q1 &&& (4294967295 : Int64))), .second, .val (.int (0 : Int32)), .val (.ref b346), .val (.ref b352), .val (.ref r367), .val (.ref r373)] [(.int (1 : Int32))])) t → Steps p.tables e below (s₁.setTop (entryFrame m #[(.long q1), (.int p2), (.int p3)] maxLocals)) t := by
        intro t k
        refine pre402 _ ?_
        show Steps p.tables e below (T397.setTop (mkF m 172 #[.val (.long q1), .second, .val (.int p2), .val (.int p3), .val (.long (q1 &&& (4294967295 : Int64))), .second, .val (.int (0 : Int32)), .val (.ref b346), .val (.ref b352), .val (.ref r367), .val (.ref r373)] [(.ref r367), (.ref r373)])) _
        refine st403.trans ?_
        exact k
      have pre406 : ∀ t, Steps p.tables e below (T403.setTop (mkF m 178 #[.val (.long q1), .second, .val (.int p2), .val (.int p3), .val (.long (q1 &&& (4294967295 : Int64))), .second, .val (.int (0 : Int32)), .val (.ref b346), .val (.ref b352), .val (.ref r367), .val (.ref r373)] [])) t → Steps p.tables e below (s₁.setTop (entryFrame m #[(.long q1), (.int p2), (.int p3)] maxLocals)) t := by
        intro t k
        refine pre404 _ ?_
        show Steps p.tables e below (T403.setTop (mkF m 175 #[.val (.long q1), .second, .val (.int p2), .val (.int p3), .val (.long (q1 &&& (4294967295 : Int64))), .second, .val (.int (0 : Int32)), .val (.ref b346), .val (.ref b352), .val (.ref r367), .val (.ref r373)] [(.int (1 : Int32))])) _
        refine XS.ifNo X403.here hx rfl (hb hby at_175) rfl ((if0 _ _).trans (feq (by decide : ¬ ((1 : Int32) = (0 : Int32)))).1) ?_
        exact k
      have pre407 : ∀ t, Steps p.tables e below (T403.setTop (mkF m 183 #[.val (.long q1), .second, .val (.int p2), .val (.int p3), .val (.long (q1 &&& (4294967295 : Int64))), .second, .val (.int (0 : Int32)), .val (.ref b346), .val (.ref b352), .val (.ref r367), .val (.ref r373)] [(.int (1 : Int32))])) t → Steps p.tables e below (s₁.setTop (entryFrame m #[(.long q1), (.int p2), (.int p3)] maxLocals)) t := by
        intro t k
        refine pre406 _ ?_
        show Steps p.tables e below (T403.setTop (mkF m 178 #[.val (.long q1), .second, .val (.int p2), .val (.int p3), .val (.long (q1 &&& (4294967295 : Int64))), .second, .val (.int (0 : Int32)), .val (.ref b346), .val (.ref b352), .val (.ref r367), .val (.ref r373)] [])) _
        refine XS.iconst X403.here hx rfl (hb hby at_178) ?_
        show Steps p.tables e below (T403.setTop (mkF m 179 #[.val (.long q1), .second, .val (.int p2), .val (.int p3), .val (.long (q1 &&& (4294967295 : Int64))), .second, .val (.int (0 : Int32)), .val (.ref b346), .val (.ref b352), .val (.ref r367), .val (.ref r373)] [(.int (1 : Int32))])) _
        refine XS.goto X403.here hx rfl (pc0 := 179) (pc' := 183) rfl (hb hby at_179) (by decide) (by decide) ?_
        exact k
      obtain ⟨fs, hr, hrun, hended, hsame⟩ := Stand.leaveW (s := s) (vm₁ := T373.vm) X403 hS373 (by rw [e403]; exact (Nat.le_refl _)) (v := some (.int (1 : Int32))) (fun h => by rw [hret] at h; cases h) (hlocks := hlocks)
      refine ⟨_, _, pre407 _ ?_, hrun, hended, _, _, rfl, ?_, ⟨hsame.1, hsame.2.1, hsame.2.2.1, hsame.2.2.2.mono (by decide) (by decide)⟩⟩
      · show Steps p.tables e below (T403.setTop (mkF m 183 #[.val (.long q1), .second, .val (.int p2), .val (.int p3), .val (.long (q1 &&& (4294967295 : Int64))), .second, .val (.int (0 : Int32)), .val (.ref b346), .val (.ref b352), .val (.ref r367), .val (.ref r373)] [(.int (1 : Int32))])) _
        exact retN X403 hx (t := .boolean) hret (by simp) (hb hby at_183) hr
      · show Q0k0 Z q1 p2 p3 h0 n0 _ T403.heap _
        exact ⟨(by rw [F0k0, if_pos hc385, if_pos hc400]), N403⟩
    · have pre408 : ∀ t, Steps p.tables e below (T397.setTop (mkF m 182 #[.val (.long q1), .second, .val (.int p2), .val (.int p3), .val (.long (q1 &&& (4294967295 : Int64))), .second, .val (.int (0 : Int32)), .val (.ref b346), .val (.ref b352), .val (.ref r367), .val (.ref r373)] [])) t → Steps p.tables e below (s₁.setTop (entryFrame m #[(.long q1), (.int p2), (.int p3)] maxLocals)) t := by
        intro t k
        refine pre399 _ ?_
        show Steps p.tables e below (T397.setTop (mkF m 165 #[.val (.long q1), .second, .val (.int p2), .val (.int p3), .val (.long (q1 &&& (4294967295 : Int64))), .second, .val (.int (0 : Int32)), .val (.ref b346), .val (.ref b352), .val (.ref r367), .val (.ref r373)] [(.int (lcmpW (F11 (0 : Int32)) (((0 : Int32).toInt64) + (80 : Int64))))])) _
        refine XS.ifYes X397.here hx rfl (pc0 := 165) (pc' := 182) rfl (hb hby at_165) rfl ((if0 _ _).trans (feq hc400).2) (by decide) (by decide) ?_
        exact k
      have pre409 : ∀ t, Steps p.tables e below (T397.setTop (mkF m 183 #[.val (.long q1), .second, .val (.int p2), .val (.int p3), .val (.long (q1 &&& (4294967295 : Int64))), .second, .val (.int (0 : Int32)), .val (.ref b346), .val (.ref b352), .val (.ref r367), .val (.ref r373)] [(.int (0 : Int32))])) t → Steps p.tables e below (s₁.setTop (entryFrame m #[(.long q1), (.int p2), (.int p3)] maxLocals)) t := by
        intro t k
        refine pre408 _ ?_
        show Steps p.tables e below (T397.setTop (mkF m 182 #[.val (.long q1), .second, .val (.int p2), .val (.int p3), .val (.long (q1 &&& (4294967295 : Int64))), .second, .val (.int (0 : Int32)), .val (.ref b346), .val (.ref b352), .val (.ref r367), .val (.ref r373)] [])) _
        refine XS.iconst X397.here hx rfl (hb hby at_182) ?_
        exact k
      obtain ⟨fs, hr, hrun, hended, hsame⟩ := Stand.leaveW (s := s) (vm₁ := T373.vm) X397 hS373 (by rw [e397]; exact (Nat.le_refl _)) (v := some (.int (0 : Int32))) (fun h => by rw [hret] at h; cases h) (hlocks := hlocks)
      refine ⟨_, _, pre409 _ ?_, hrun, hended, _, _, rfl, ?_, ⟨hsame.1, hsame.2.1, hsame.2.2.1, hsame.2.2.2.mono (by decide) (by decide)⟩⟩
      · show Steps p.tables e below (T397.setTop (mkF m 183 #[.val (.long q1), .second, .val (.int p2), .val (.int p3), .val (.long (q1 &&& (4294967295 : Int64))), .second, .val (.int (0 : Int32)), .val (.ref b346), .val (.ref b352), .val (.ref r367), .val (.ref r373)] [(.int (0 : Int32))])) _
        exact retN X397 hx (t := .boolean) hret (by simp) (hb hby at_183) hr
      · show Q0k0 Z q1 p2 p3 h0 n0 _ T397.heap _
        exact ⟨(by rw [F0k0, if_pos hc385, if_neg hc400]), N397⟩
  · have pre410 : ∀ t, Steps p.tables e below (T382.setTop (mkF m 182 #[.val (.long q1), .second, .val (.int p2), .val (.int p3), .val (.long (q1 &&& (4294967295 : Int64))), .second, .val (.int (0 : Int32)), .val (.ref b346), .val (.ref b352), .val (.ref r367), .val (.ref r373)] [])) t → Steps p.tables e below (s₁.setTop (entryFrame m #[(.long q1), (.int p2), (.int p3)] maxLocals)) t := by
      intro t k
      refine pre384 _ ?_
      show Steps p.tables e below (T382.setTop (mkF m 131 #[.val (.long q1), .second, .val (.int p2), .val (.int p3), .val (.long (q1 &&& (4294967295 : Int64))), .second, .val (.int (0 : Int32)), .val (.ref b346), .val (.ref b352), .val (.ref r367), .val (.ref r373)] [(.int (lcmpW (F7 ((q1 &&& (4294967295 : Int64)).toInt32)) (q1 &&& (4294967295 : Int64))))])) _
      refine XS.ifYes X382.here hx rfl (pc0 := 131) (pc' := 182) rfl (hb hby at_131) rfl ((if0 _ _).trans (feq hc385).2) (by decide) (by decide) ?_
      exact k
    have pre411 : ∀ t, Steps p.tables e below (T382.setTop (mkF m 183 #[.val (.long q1), .second, .val (.int p2), .val (.int p3), .val (.long (q1 &&& (4294967295 : Int64))), .second, .val (.int (0 : Int32)), .val (.ref b346), .val (.ref b352), .val (.ref r367), .val (.ref r373)] [(.int (0 : Int32))])) t → Steps p.tables e below (s₁.setTop (entryFrame m #[(.long q1), (.int p2), (.int p3)] maxLocals)) t := by
      intro t k
      refine pre410 _ ?_
      show Steps p.tables e below (T382.setTop (mkF m 182 #[.val (.long q1), .second, .val (.int p2), .val (.int p3), .val (.long (q1 &&& (4294967295 : Int64))), .second, .val (.int (0 : Int32)), .val (.ref b346), .val (.ref b352), .val (.ref r367), .val (.ref r373)] [])) _
      refine XS.iconst X382.here hx rfl (hb hby at_182) ?_
      exact k
    obtain ⟨fs, hr, hrun, hended, hsame⟩ := Stand.leaveW (s := s) (vm₁ := T373.vm) X382 hS373 (by rw [e382]; exact (Nat.le_refl _)) (v := some (.int (0 : Int32))) (fun h => by rw [hret] at h; cases h) (hlocks := hlocks)
    refine ⟨_, _, pre411 _ ?_, hrun, hended, _, _, rfl, ?_, ⟨hsame.1, hsame.2.1, hsame.2.2.1, hsame.2.2.2.mono (by decide) (by decide)⟩⟩
    · show Steps p.tables e below (T382.setTop (mkF m 183 #[.val (.long q1), .second, .val (.int p2), .val (.int p3), .val (.long (q1 &&& (4294967295 : Int64))), .second, .val (.int (0 : Int32)), .val (.ref b346), .val (.ref b352), .val (.ref r367), .val (.ref r373)] [(.int (0 : Int32))])) _
      exact retN X382 hx (t := .boolean) hret (by simp) (hb hby at_183) hr
    · show Q0k0 Z q1 p2 p3 h0 n0 _ T382.heap _
      exact ⟨(by rw [F0k0, if_neg hc385]), N382⟩
theorem ef_0k1 (m : MethodId) (x0 : Int64) (x1 : Int32) (x2 : Int32) : entryFrame m #[(.long x0), (.int x1), (.int x2)] maxLocals = mkF m 0 #[.val (.long x0), .second, .val (.int x1), .val (.int x2), .unset, .unset, .unset, .unset, .unset, .unset, .unset] [] := by first | (simp [entryFrame, mkF, argsToLocals, Value.category, maxLocals]; done) | rfl
def F0k1 (q1 : Int64) : Int32 :=
  if (lcmpW (F7 ((q1 &&& (4294967295 : Int64)).toInt32)) (q1 &&& (4294967295 : Int64))) = (0 : Int32) then (  if (lcmpW (F11 (1 : Int32)) (((1 : Int32).toInt64) + (80 : Int64))) = (0 : Int32) then (  (1 : Int32))
  else (  (0 : Int32)))
  else (  (0 : Int32))
def Q0k1 (Z : State) (q1 : Int64) (p2 : Int32) (p3 : Int32) (h0 : Heap) (n0 : Nat) (v : Option Value) (h : Heap) (L : List Loc) : Prop := v = some (.int (F0k1 q1)) ∧ Fr n0 L
set_option maxRecDepth 65536 in
set_option maxHeartbeats 40000000 in
theorem rm0k1 (l : Launch) (Z : State) (a0 : Array Value) (hw : ∀ d ∈ tables_1, d.before a0 Z = true) (ws : List Jvm.Cond) (q1 : Int64) (p2 : Int32) (p3 : Int32) (h0 : Heap) (n0 : Nat) (Z0 : n0 ≤ h0.size) (O0 : Old Z n0 h0) (hL : (p2 &&& (3 : Int32)) = (1 : Int32)) :
    MetFree l x (head1 (Jvm.Cond.code x code maxLocals ret :: ws) room_1) (fun a U => a = #[(.long q1), (.int p2), (.int p3)] ∧ Z.Warmed39 U.vm ∧ U.heap = h0) (fun _ _ _ _ _ => True) (fun _ U o U' => ∃ v L, o = .returned v ∧ Q0k1 Z q1 p2 p3 h0 n0 v U'.heap L ∧ ReturnedEndW U o U' L room_1.cells room_1.slots) := by
  refine MetFree.of_bodySF (plainFor_of_name pn_0) hisR ?_
  intro p e s m args below meth c s₁ Bd hml0 hP hK
  obtain ⟨rfl, hZ, hh⟩ := hP
  have hx := Bd.exec
  have hby := Bd.bytes
  have hml : c.maxLocals = 11 := hml0
  have hown : s.vm.findClass "com/example/message_buffer/messagebuffer/model/MessageOfPinLaw" = some m.cls := findClass_of_methodNamed Bd.named
  have hnm := (name_of_methodNamed Bd.named Bd.method).1
  have hret := Bd.returns
  have hlocks : meth.locks = false := Bd.notSynchronized
  have X0 : Stand p l e room_1 s m #[(.long q1), (.int p2), (.int p3)] below meth c s₁ [] 0 0 := Stand.of_body Bd
  have e0 : s₁.heap = h0 := by rw [← hh, Bd.state]; rfl
  have N0 := Fr.nil n0
  have hS0 : s.Since s.vm h0.size := (State.WarmedH.refl s).since _
  have SK0 : h0.size ≤ h0.size := Nat.le_refl _
  have pre0 : ∀ t, Steps p.tables e below (s₁.setTop (mkF m 0 #[.val (.long q1), .second, .val (.int p2), .val (.int p3), .unset, .unset, .unset, .unset, .unset, .unset, .unset] [])) t → Steps p.tables e below (s₁.setTop (entryFrame m #[(.long q1), (.int p2), (.int p3)] maxLocals)) t := fun t k => castTop (ef_0k1 m q1 p2 p3) k
  have pre412 : ∀ t, Steps p.tables e below (s₁.setTop (mkF m 9 #[.val (.long q1), .second, .val (.int p2), .val (.int p3), .val (.long (q1 &&& (4294967295 : Int64))), .second, .unset, .unset, .unset, .unset, .unset] [(.int (3 : Int32)), (.int p2)])) t → Steps p.tables e below (s₁.setTop (entryFrame m #[(.long q1), (.int p2), (.int p3)] maxLocals)) t := by
    intro t k
    refine pre0 _ ?_
    show Steps p.tables e below (s₁.setTop (mkF m 0 #[.val (.long q1), .second, .val (.int p2), .val (.int p3), .unset, .unset, .unset, .unset, .unset, .unset, .unset] [])) _
    refine XS.lloadN X0.here hx rfl (hb hby at_0) rfl ?_
    show Steps p.tables e below (s₁.setTop (mkF m 1 #[.val (.long q1), .second, .val (.int p2), .val (.int p3), .unset, .unset, .unset, .unset, .unset, .unset, .unset] [(.long q1)])) _
    refine X0.ldc2Long hx hown (mvT hZ (hw _ (List.mem_of_getElem? (i := 0) rfl))) (g := (mkF m 1 #[.val (.long q1), .second, .val (.int p2), .val (.int p3), .unset, .unset, .unset, .unset, .unset, .unset, .unset] [(.long q1)])) rfl (hb hby at_1) _ ?_
    show Steps p.tables e below (s₁.setTop (mkF m 4 #[.val (.long q1), .second, .val (.int p2), .val (.int p3), .unset, .unset, .unset, .unset, .unset, .unset, .unset] [(.long (4294967295 : Int64)), (.long q1)])) _
    refine XS.land X0.here hx rfl (hb hby at_4) rfl ?_
    show Steps p.tables e below (s₁.setTop (mkF m 5 #[.val (.long q1), .second, .val (.int p2), .val (.int p3), .unset, .unset, .unset, .unset, .unset, .unset, .unset] [(.long (q1 &&& (4294967295 : Int64)))])) _
    refine XS.lstore X0.here hx rfl (hb hby at_5) rfl (l' := #[.val (.long q1), .second, .val (.int p2), .val (.int p3), .val (.long (q1 &&& (4294967295 : Int64))), .second, .unset, .unset, .unset, .unset, .unset]) rfl ?_
    show Steps p.tables e below (s₁.setTop (mkF m 7 #[.val (.long q1), .second, .val (.int p2), .val (.int p3), .val (.long (q1 &&& (4294967295 : Int64))), .second, .unset, .unset, .unset, .unset, .unset] [])) _
    refine XS.iloadN X0.here hx rfl (hb hby at_7) rfl ?_
    show Steps p.tables e below (s₁.setTop (mkF m 8 #[.val (.long q1), .second, .val (.int p2), .val (.int p3), .val (.long (q1 &&& (4294967295 : Int64))), .second, .unset, .unset, .unset, .unset, .unset] [(.int p2)])) _
    refine XS.iconst X0.here hx rfl (hb hby at_8) ?_
    exact k
  have pre413 : ∀ t, Steps p.tables e below (s₁.setTop (mkF m 10 #[.val (.long q1), .second, .val (.int p2), .val (.int p3), .val (.long (q1 &&& (4294967295 : Int64))), .second, .unset, .unset, .unset, .unset, .unset] [(.int (1 : Int32))])) t → Steps p.tables e below (s₁.setTop (entryFrame m #[(.long q1), (.int p2), (.int p3)] maxLocals)) t := by
    intro t k
    refine pre412 _ ?_
    show Steps p.tables e below (s₁.setTop (mkF m 9 #[.val (.long q1), .second, .val (.int p2), .val (.int p3), .val (.long (q1 &&& (4294967295 : Int64))), .second, .unset, .unset, .unset, .unset, .unset] [(.int (3 : Int32)), (.int p2)])) _
    refine XS.iand X0.here hx rfl (hb hby at_9) rfl ?_
    show Steps p.tables e below (s₁.setTop (mkF m 10 #[.val (.long q1), .second, .val (.int p2), .val (.int p3), .val (.long (q1 &&& (4294967295 : Int64))), .second, .unset, .unset, .unset, .unset, .unset] [(.int (p2 &&& (3 : Int32)))])) _
    rw [hL]
    exact k
  have pre414 : ∀ t, Steps p.tables e below (s₁.setTop (mkF m 14 #[.val (.long q1), .second, .val (.int p2), .val (.int p3), .val (.long (q1 &&& (4294967295 : Int64))), .second, .val (.int (1 : Int32)), .unset, .unset, .unset, .unset] [(.int (1 : Int32))])) t → Steps p.tables e below (s₁.setTop (entryFrame m #[(.long q1), (.int p2), (.int p3)] maxLocals)) t := by
    intro t k
    refine pre413 _ ?_
    show Steps p.tables e below (s₁.setTop (mkF m 10 #[.val (.long q1), .second, .val (.int p2), .val (.int p3), .val (.long (q1 &&& (4294967295 : Int64))), .second, .unset, .unset, .unset, .unset, .unset] [(.int (1 : Int32))])) _
    refine XS.istore X0.here hx rfl (hb hby at_10) rfl (l' := #[.val (.long q1), .second, .val (.int p2), .val (.int p3), .val (.long (q1 &&& (4294967295 : Int64))), .second, .val (.int (1 : Int32)), .unset, .unset, .unset, .unset]) rfl ?_
    show Steps p.tables e below (s₁.setTop (mkF m 12 #[.val (.long q1), .second, .val (.int p2), .val (.int p3), .val (.long (q1 &&& (4294967295 : Int64))), .second, .val (.int (1 : Int32)), .unset, .unset, .unset, .unset] [])) _
    refine XS.iload X0.here hx rfl (hb hby at_12) rfl ?_
    exact k
  obtain ⟨T415, h415, k415, X415, e415, E415, A415, Ex415, st415⟩ := newPE X0 hx hZ (hw _ (List.mem_of_getElem? (i := 1) rfl)) e0 (g := (mkF m 14 #[.val (.long q1), .second, .val (.int p2), .val (.int p3), .val (.long (q1 &&& (4294967295 : Int64))), .second, .val (.int (1 : Int32)), .unset, .unset, .unset, .unset] [(.int (1 : Int32))])) rfl (hb hby at_14) rfl (by decide) (cap := 1) (by decide) (by decide) (by decide) (by decide) (ad := "[B") (by decide)
  obtain ⟨b415, g415⟩ : ∃ z, z = h0.size := ⟨_, rfl⟩
  rw [← g415] at A415 Ex415 st415
  have g_b415 : n0 ≤ b415 := Nat.le_trans Z0 (Nat.le_of_eq g415.symm)
  have O416 := O0.ext E415
  have Z417 : n0 ≤ h415.size := Nat.le_trans Z0 E415.1
  have K418 := Nat.le_trans SK0 E415.1
  have V415 : Arv Z h415 b415 k415 .byte (1 : Int32) [(.int (0 : Int32))] (.int (0 : Int32)) := (Arv.new A415 (by decide)).pad (pad_rep [] (.int (0 : Int32)) 1)
  have pre419 : ∀ t, Steps p.tables e below (T415.setTop (mkF m 16 #[.val (.long q1), .second, .val (.int p2), .val (.int p3), .val (.long (q1 &&& (4294967295 : Int64))), .second, .val (.int (1 : Int32)), .unset, .unset, .unset, .unset] [(.ref b415)])) t → Steps p.tables e below (s₁.setTop (entryFrame m #[(.long q1), (.int p2), (.int p3)] maxLocals)) t := by
    intro t k
    refine pre414 _ ?_
    show Steps p.tables e below (s₁.setTop (mkF m 14 #[.val (.long q1), .second, .val (.int p2), .val (.int p3), .val (.long (q1 &&& (4294967295 : Int64))), .second, .val (.int (1 : Int32)), .unset, .unset, .unset, .unset] [(.int (1 : Int32))])) _
    refine st415 _ ?_
    exact k
  have pre420 : ∀ t, Steps p.tables e below (T415.setTop (mkF m 20 #[.val (.long q1), .second, .val (.int p2), .val (.int p3), .val (.long (q1 &&& (4294967295 : Int64))), .second, .val (.int (1 : Int32)), .val (.ref b415), .unset, .unset, .unset] [(.int (1 : Int32))])) t → Steps p.tables e below (s₁.setTop (entryFrame m #[(.long q1), (.int p2), (.int p3)] maxLocals)) t := by
    intro t k
    refine pre419 _ ?_
    show Steps p.tables e below (T415.setTop (mkF m 16 #[.val (.long q1), .second, .val (.int p2), .val (.int p3), .val (.long (q1 &&& (4294967295 : Int64))), .second, .val (.int (1 : Int32)), .unset, .unset, .unset, .unset] [(.ref b415)])) _
    refine XS.astore X415.here hx rfl (hb hby at_16) rfl rfl (l' := #[.val (.long q1), .second, .val (.int p2), .val (.int p3), .val (.long (q1 &&& (4294967295 : Int64))), .second, .val (.int (1 : Int32)), .val (.ref b415), .unset, .unset, .unset]) rfl ?_
    show Steps p.tables e below (T415.setTop (mkF m 18 #[.val (.long q1), .second, .val (.int p2), .val (.int p3), .val (.long (q1 &&& (4294967295 : Int64))), .second, .val (.int (1 : Int32)), .val (.ref b415), .unset, .unset, .unset] [])) _
    refine XS.iload X415.here hx rfl (hb hby at_18) rfl ?_
    exact k
  obtain ⟨T421, h421, k421, X421, e421, E421, A421, Ex421, st421⟩ := newPE X415 hx hZ (hw _ (List.mem_of_getElem? (i := 1) rfl)) e415 (g := (mkF m 20 #[.val (.long q1), .second, .val (.int p2), .val (.int p3), .val (.long (q1 &&& (4294967295 : Int64))), .second, .val (.int (1 : Int32)), .val (.ref b415), .unset, .unset, .unset] [(.int (1 : Int32))])) rfl (hb hby at_20) rfl (by decide) (cap := 1) (by decide) (by decide) (by decide) (by decide) (ad := "[B") (by decide)
  obtain ⟨b421, g421⟩ : ∃ z, z = h415.size := ⟨_, rfl⟩
  rw [← g421] at A421 Ex421 st421
  have g_b421 : n0 ≤ b421 := Nat.le_trans Z417 (Nat.le_of_eq g421.symm)
  have ne_b415_b421 : b415 ≠ b421 := Nat.ne_of_lt (Nat.lt_of_lt_of_le V415.lt (Nat.le_of_eq g421.symm))
  have O422 := O416.ext E421
  have Z423 : n0 ≤ h421.size := Nat.le_trans Z417 E421.1
  have K424 := Nat.le_trans K418 E421.1
  have V421 : Arv Z h421 b421 k421 .byte (1 : Int32) [(.int (0 : Int32))] (.int (0 : Int32)) := (Arv.new A421 (by decide)).pad (pad_rep [] (.int (0 : Int32)) 1)
  have pre425 : ∀ t, Steps p.tables e below (T421.setTop (mkF m 22 #[.val (.long q1), .second, .val (.int p2), .val (.int p3), .val (.long (q1 &&& (4294967295 : Int64))), .second, .val (.int (1 : Int32)), .val (.ref b415), .unset, .unset, .unset] [(.ref b421)])) t → Steps p.tables e below (s₁.setTop (entryFrame m #[(.long q1), (.int p2), (.int p3)] maxLocals)) t := by
    intro t k
    refine pre420 _ ?_
    show Steps p.tables e below (T415.setTop (mkF m 20 #[.val (.long q1), .second, .val (.int p2), .val (.int p3), .val (.long (q1 &&& (4294967295 : Int64))), .second, .val (.int (1 : Int32)), .val (.ref b415), .unset, .unset, .unset] [(.int (1 : Int32))])) _
    refine st421 _ ?_
    exact k
  have pre426 : ∀ t, Steps p.tables e below (T421.setTop (mkF m 26 #[.val (.long q1), .second, .val (.int p2), .val (.int p3), .val (.long (q1 &&& (4294967295 : Int64))), .second, .val (.int (1 : Int32)), .val (.ref b415), .val (.ref b421), .unset, .unset] [(.int (1 : Int32))])) t → Steps p.tables e below (s₁.setTop (entryFrame m #[(.long q1), (.int p2), (.int p3)] maxLocals)) t := by
    intro t k
    refine pre425 _ ?_
    show Steps p.tables e below (T421.setTop (mkF m 22 #[.val (.long q1), .second, .val (.int p2), .val (.int p3), .val (.long (q1 &&& (4294967295 : Int64))), .second, .val (.int (1 : Int32)), .val (.ref b415), .unset, .unset, .unset] [(.ref b421)])) _
    refine XS.astore X421.here hx rfl (hb hby at_22) rfl rfl (l' := #[.val (.long q1), .second, .val (.int p2), .val (.int p3), .val (.long (q1 &&& (4294967295 : Int64))), .second, .val (.int (1 : Int32)), .val (.ref b415), .val (.ref b421), .unset, .unset]) rfl ?_
    show Steps p.tables e below (T421.setTop (mkF m 24 #[.val (.long q1), .second, .val (.int p2), .val (.int p3), .val (.long (q1 &&& (4294967295 : Int64))), .second, .val (.int (1 : Int32)), .val (.ref b415), .val (.ref b421), .unset, .unset] [])) _
    refine XS.iload X421.here hx rfl (hb hby at_24) rfl ?_
    exact k
  have pre428 : ∀ t, Steps p.tables e below (T421.setTop (mkF m 29 #[.val (.long q1), .second, .val (.int p2), .val (.int p3), .val (.long (q1 &&& (4294967295 : Int64))), .second, .val (.int (1 : Int32)), .val (.ref b415), .val (.ref b421), .unset, .unset] [])) t → Steps p.tables e below (s₁.setTop (entryFrame m #[(.long q1), (.int p2), (.int p3)] maxLocals)) t := by
    intro t k
    refine pre426 _ ?_
    show Steps p.tables e below (T421.setTop (mkF m 26 #[.val (.long q1), .second, .val (.int p2), .val (.int p3), .val (.long (q1 &&& (4294967295 : Int64))), .second, .val (.int (1 : Int32)), .val (.ref b415), .val (.ref b421), .unset, .unset] [(.int (1 : Int32))])) _
    refine XS.ifNo X421.here hx rfl (hb hby at_26) rfl ((if0 _ _).trans (tlt (by decide : (0 : Int32) < (1 : Int32))).2.2.2) ?_
    exact k
  have pre429 : ∀ t, Steps p.tables e below (T421.setTop (mkF m 34 #[.val (.long q1), .second, .val (.int p2), .val (.int p3), .val (.long (q1 &&& (4294967295 : Int64))), .second, .val (.int (1 : Int32)), .val (.ref b415), .val (.ref b421), .unset, .unset] [(.int (p3.toInt8.toInt32)), (.int (0 : Int32)), (.ref b415)])) t → Steps p.tables e below (s₁.setTop (entryFrame m #[(.long q1), (.int p2), (.int p3)] maxLocals)) t := by
    intro t k
    refine pre428 _ ?_
    show Steps p.tables e below (T421.setTop (mkF m 29 #[.val (.long q1), .second, .val (.int p2), .val (.int p3), .val (.long (q1 &&& (4294967295 : Int64))), .second, .val (.int (1 : Int32)), .val (.ref b415), .val (.ref b421), .unset, .unset] [])) _
    refine XS.aload X421.here hx rfl (hb hby at_29) rfl rfl ?_
    show Steps p.tables e below (T421.setTop (mkF m 31 #[.val (.long q1), .second, .val (.int p2), .val (.int p3), .val (.long (q1 &&& (4294967295 : Int64))), .second, .val (.int (1 : Int32)), .val (.ref b415), .val (.ref b421), .unset, .unset] [(.ref b415)])) _
    refine XS.iconst X421.here hx rfl (hb hby at_31) ?_
    show Steps p.tables e below (T421.setTop (mkF m 32 #[.val (.long q1), .second, .val (.int p2), .val (.int p3), .val (.long (q1 &&& (4294967295 : Int64))), .second, .val (.int (1 : Int32)), .val (.ref b415), .val (.ref b421), .unset, .unset] [(.int (0 : Int32)), (.ref b415)])) _
    refine XS.iloadN X421.here hx rfl (hb hby at_32) rfl ?_
    show Steps p.tables e below (T421.setTop (mkF m 33 #[.val (.long q1), .second, .val (.int p2), .val (.int p3), .val (.long (q1 &&& (4294967295 : Int64))), .second, .val (.int (1 : Int32)), .val (.ref b415), .val (.ref b421), .unset, .unset] [(.int p3), (.int (0 : Int32)), (.ref b415)])) _
    refine XS.i2b X421.here hx rfl (hb hby at_33) rfl ?_
    exact k
  obtain ⟨cl430, Ar430, q430, S430, N_430, H430, G430⟩ := (V415.ext E421)
  obtain ⟨T430, h430, X430, e430, W430, st430⟩ := stB X421 hx hZ e421 Ar430 (j := (0 : Int32)) (inb_of S430 ⟨by decide, by decide⟩) (g := (mkF m 34 #[.val (.long q1), .second, .val (.int p2), .val (.int p3), .val (.long (q1 &&& (4294967295 : Int64))), .second, .val (.int (1 : Int32)), .val (.ref b415), .val (.ref b421), .unset, .unset] [(.int (p3.toInt8.toInt32)), (.int (0 : Int32)), (.ref b415)])) rfl rfl (hb hby at_34)
  have V430 : Arv Z h430 b415 k415 .byte (1 : Int32) [(.int (nar .byte (p3.toInt8.toInt32)))] (.int (0 : Int32)) := Arv.set Ar430 q430 S430 N_430 H430 G430 (fits_nar_byte _) W430 0 rfl (Nat.le_of_ble_eq_true rfl)
  have O431 := O422.wr W430 g_b415
  have Z432 : n0 ≤ h430.size := Nat.le_trans Z423 (Keep.of_wr W430).1
  have K433 := Nat.le_trans K424 (Keep.of_wr W430).1
  have NN430 := Fr.snoc X430 N0 g_b415
  have pre434 : ∀ t, Steps p.tables e below (T430.setTop (mkF m 35 #[.val (.long q1), .second, .val (.int p2), .val (.int p3), .val (.long (q1 &&& (4294967295 : Int64))), .second, .val (.int (1 : Int32)), .val (.ref b415), .val (.ref b421), .unset, .unset] [])) t → Steps p.tables e below (s₁.setTop (entryFrame m #[(.long q1), (.int p2), (.int p3)] maxLocals)) t := by
    intro t k
    refine pre429 _ ?_
    show Steps p.tables e below (T421.setTop (mkF m 34 #[.val (.long q1), .second, .val (.int p2), .val (.int p3), .val (.long (q1 &&& (4294967295 : Int64))), .second, .val (.int (1 : Int32)), .val (.ref b415), .val (.ref b421), .unset, .unset] [(.int (p3.toInt8.toInt32)), (.int (0 : Int32)), (.ref b415)])) _
    refine st430 _ ?_
    exact k
  have pre435 : ∀ t, Steps p.tables e below (T430.setTop (mkF m 40 #[.val (.long q1), .second, .val (.int p2), .val (.int p3), .val (.long (q1 &&& (4294967295 : Int64))), .second, .val (.int (1 : Int32)), .val (.ref b415), .val (.ref b421), .unset, .unset] [(.int (p3.toInt8.toInt32)), (.int (0 : Int32)), (.ref b421)])) t → Steps p.tables e below (s₁.setTop (entryFrame m #[(.long q1), (.int p2), (.int p3)] maxLocals)) t := by
    intro t k
    refine pre434 _ ?_
    show Steps p.tables e below (T430.setTop (mkF m 35 #[.val (.long q1), .second, .val (.int p2), .val (.int p3), .val (.long (q1 &&& (4294967295 : Int64))), .second, .val (.int (1 : Int32)), .val (.ref b415), .val (.ref b421), .unset, .unset] [])) _
    refine XS.aload X430.here hx rfl (hb hby at_35) rfl rfl ?_
    show Steps p.tables e below (T430.setTop (mkF m 37 #[.val (.long q1), .second, .val (.int p2), .val (.int p3), .val (.long (q1 &&& (4294967295 : Int64))), .second, .val (.int (1 : Int32)), .val (.ref b415), .val (.ref b421), .unset, .unset] [(.ref b421)])) _
    refine XS.iconst X430.here hx rfl (hb hby at_37) ?_
    show Steps p.tables e below (T430.setTop (mkF m 38 #[.val (.long q1), .second, .val (.int p2), .val (.int p3), .val (.long (q1 &&& (4294967295 : Int64))), .second, .val (.int (1 : Int32)), .val (.ref b415), .val (.ref b421), .unset, .unset] [(.int (0 : Int32)), (.ref b421)])) _
    refine XS.iloadN X430.here hx rfl (hb hby at_38) rfl ?_
    show Steps p.tables e below (T430.setTop (mkF m 39 #[.val (.long q1), .second, .val (.int p2), .val (.int p3), .val (.long (q1 &&& (4294967295 : Int64))), .second, .val (.int (1 : Int32)), .val (.ref b415), .val (.ref b421), .unset, .unset] [(.int p3), (.int (0 : Int32)), (.ref b421)])) _
    refine XS.i2b X430.here hx rfl (hb hby at_39) rfl ?_
    exact k
  obtain ⟨cl436, Ar436, q436, S436, N_436, H436, G436⟩ := (V421.other W430 (Ne.symm ne_b415_b421))
  obtain ⟨T436, h436, X436, e436, W436, st436⟩ := stB X430 hx hZ e430 Ar436 (j := (0 : Int32)) (inb_of S436 ⟨by decide, by decide⟩) (g := (mkF m 40 #[.val (.long q1), .second, .val (.int p2), .val (.int p3), .val (.long (q1 &&& (4294967295 : Int64))), .second, .val (.int (1 : Int32)), .val (.ref b415), .val (.ref b421), .unset, .unset] [(.int (p3.toInt8.toInt32)), (.int (0 : Int32)), (.ref b421)])) rfl rfl (hb hby at_40)
  have V436 : Arv Z h436 b421 k421 .byte (1 : Int32) [(.int (nar .byte (p3.toInt8.toInt32)))] (.int (0 : Int32)) := Arv.set Ar436 q436 S436 N_436 H436 G436 (fits_nar_byte _) W436 0 rfl (Nat.le_of_ble_eq_true rfl)
  have O437 := O431.wr W436 g_b421
  have Z438 : n0 ≤ h436.size := Nat.le_trans Z432 (Keep.of_wr W436).1
  have K439 := Nat.le_trans K433 (Keep.of_wr W436).1
  have NN436 := Fr.snoc X436 NN430 g_b421
  have pre440 : ∀ t, Steps p.tables e below (T436.setTop (mkF m 41 #[.val (.long q1), .second, .val (.int p2), .val (.int p3), .val (.long (q1 &&& (4294967295 : Int64))), .second, .val (.int (1 : Int32)), .val (.ref b415), .val (.ref b421), .unset, .unset] [])) t → Steps p.tables e below (s₁.setTop (entryFrame m #[(.long q1), (.int p2), (.int p3)] maxLocals)) t := by
    intro t k
    refine pre435 _ ?_
    show Steps p.tables e below (T430.setTop (mkF m 40 #[.val (.long q1), .second, .val (.int p2), .val (.int p3), .val (.long (q1 &&& (4294967295 : Int64))), .second, .val (.int (1 : Int32)), .val (.ref b415), .val (.ref b421), .unset, .unset] [(.int (p3.toInt8.toInt32)), (.int (0 : Int32)), (.ref b421)])) _
    refine st436 _ ?_
    exact k
  have pre441 : ∀ t, Steps p.tables e below (T436.setTop (mkF m 44 #[.val (.long q1), .second, .val (.int p2), .val (.int p3), .val (.long (q1 &&& (4294967295 : Int64))), .second, .val (.int (1 : Int32)), .val (.ref b415), .val (.ref b421), .unset, .unset] [(.int (1 : Int32)), (.int (1 : Int32))])) t → Steps p.tables e below (s₁.setTop (entryFrame m #[(.long q1), (.int p2), (.int p3)] maxLocals)) t := by
    intro t k
    refine pre440 _ ?_
    show Steps p.tables e below (T436.setTop (mkF m 41 #[.val (.long q1), .second, .val (.int p2), .val (.int p3), .val (.long (q1 &&& (4294967295 : Int64))), .second, .val (.int (1 : Int32)), .val (.ref b415), .val (.ref b421), .unset, .unset] [])) _
    refine XS.iload X436.here hx rfl (hb hby at_41) rfl ?_
    show Steps p.tables e below (T436.setTop (mkF m 43 #[.val (.long q1), .second, .val (.int p2), .val (.int p3), .val (.long (q1 &&& (4294967295 : Int64))), .second, .val (.int (1 : Int32)), .val (.ref b415), .val (.ref b421), .unset, .unset] [(.int (1 : Int32))])) _
    refine XS.iconst X436.here hx rfl (hb hby at_43) ?_
    exact k
  have pre443 : ∀ t, Steps p.tables e below (T436.setTop (mkF m 65 #[.val (.long q1), .second, .val (.int p2), .val (.int p3), .val (.long (q1 &&& (4294967295 : Int64))), .second, .val (.int (1 : Int32)), .val (.ref b415), .val (.ref b421), .unset, .unset] [])) t → Steps p.tables e below (s₁.setTop (entryFrame m #[(.long q1), (.int p2), (.int p3)] maxLocals)) t := by
    intro t k
    refine pre441 _ ?_
    show Steps p.tables e below (T436.setTop (mkF m 44 #[.val (.long q1), .second, .val (.int p2), .val (.int p3), .val (.long (q1 &&& (4294967295 : Int64))), .second, .val (.int (1 : Int32)), .val (.ref b415), .val (.ref b421), .unset, .unset] [(.int (1 : Int32)), (.int (1 : Int32))])) _
    refine XS.icmpYes X436.here hx rfl (pc0 := 44) (pc' := 65) rfl (hb hby at_44) rfl (flt (by decide : ¬ ((1 : Int32) < (1 : Int32)))).2.2.2 (by decide) (by decide) ?_
    exact k
  have pre444 : ∀ t, Steps p.tables e below (T436.setTop (mkF m 68 #[.val (.long q1), .second, .val (.int p2), .val (.int p3), .val (.long (q1 &&& (4294967295 : Int64))), .second, .val (.int (1 : Int32)), .val (.ref b415), .val (.ref b421), .unset, .unset] [(.int (2 : Int32)), (.int (1 : Int32))])) t → Steps p.tables e below (s₁.setTop (entryFrame m #[(.long q1), (.int p2), (.int p3)] maxLocals)) t := by
    intro t k
    refine pre443 _ ?_
    show Steps p.tables e below (T436.setTop (mkF m 65 #[.val (.long q1), .second, .val (.int p2), .val (.int p3), .val (.long (q1 &&& (4294967295 : Int64))), .second, .val (.int (1 : Int32)), .val (.ref b415), .val (.ref b421), .unset, .unset] [])) _
    refine XS.iload X436.here hx rfl (hb hby at_65) rfl ?_
    show Steps p.tables e below (T436.setTop (mkF m 67 #[.val (.long q1), .second, .val (.int p2), .val (.int p3), .val (.long (q1 &&& (4294967295 : Int64))), .second, .val (.int (1 : Int32)), .val (.ref b415), .val (.ref b421), .unset, .unset] [(.int (1 : Int32))])) _
    refine XS.iconst X436.here hx rfl (hb hby at_67) ?_
    exact k
  have pre446 : ∀ t, Steps p.tables e below (T436.setTop (mkF m 89 #[.val (.long q1), .second, .val (.int p2), .val (.int p3), .val (.long (q1 &&& (4294967295 : Int64))), .second, .val (.int (1 : Int32)), .val (.ref b415), .val (.ref b421), .unset, .unset] [])) t → Steps p.tables e below (s₁.setTop (entryFrame m #[(.long q1), (.int p2), (.int p3)] maxLocals)) t := by
    intro t k
    refine pre444 _ ?_
    show Steps p.tables e below (T436.setTop (mkF m 68 #[.val (.long q1), .second, .val (.int p2), .val (.int p3), .val (.long (q1 &&& (4294967295 : Int64))), .second, .val (.int (1 : Int32)), .val (.ref b415), .val (.ref b421), .unset, .unset] [(.int (2 : Int32)), (.int (1 : Int32))])) _
    refine XS.icmpYes X436.here hx rfl (pc0 := 68) (pc' := 89) rfl (hb hby at_68) rfl (flt (by decide : ¬ ((2 : Int32) < (1 : Int32)))).2.2.2 (by decide) (by decide) ?_
    exact k
  have pre447 : ∀ t, Steps p.tables e below (T436.setTop (mkF m 93 #[.val (.long q1), .second, .val (.int p2), .val (.int p3), .val (.long (q1 &&& (4294967295 : Int64))), .second, .val (.int (1 : Int32)), .val (.ref b415), .val (.ref b421), .unset, .unset] [(.ref b421), (.long (q1 &&& (4294967295 : Int64)))])) t → Steps p.tables e below (s₁.setTop (entryFrame m #[(.long q1), (.int p2), (.int p3)] maxLocals)) t := by
    intro t k
    refine pre446 _ ?_
    show Steps p.tables e below (T436.setTop (mkF m 89 #[.val (.long q1), .second, .val (.int p2), .val (.int p3), .val (.long (q1 &&& (4294967295 : Int64))), .second, .val (.int (1 : Int32)), .val (.ref b415), .val (.ref b421), .unset, .unset] [])) _
    refine XS.lload X436.here hx rfl (hb hby at_89) rfl ?_
    show Steps p.tables e below (T436.setTop (mkF m 91 #[.val (.long q1), .second, .val (.int p2), .val (.int p3), .val (.long (q1 &&& (4294967295 : Int64))), .second, .val (.int (1 : Int32)), .val (.ref b415), .val (.ref b421), .unset, .unset] [(.long (q1 &&& (4294967295 : Int64)))])) _
    refine XS.aload X436.here hx rfl (hb hby at_91) rfl rfl ?_
    exact k
  obtain ⟨_, _, ⟨T448, L448, k448, n448⟩, -, X448, sS448, gr448, ⟨Lc448, hQ448, l448, y448, z448⟩, st448⟩ := Jvm.RoadKit.callSS X436 hx (y := (⟨"com/example/message_buffer/messagebuffer/model/Message", "adopt", "(J[B)Lcom/example/message_buffer/messagebuffer/model/Message;"⟩ : MethodName)) hown (mvT hZ (hw _ (List.mem_of_getElem? (i := 2) rfl))) (mvT hZ (hw _ (List.mem_of_getElem? (i := 3) rfl))) (mvT hZ (hw _ (List.mem_of_getElem? (i := 4) rfl))) (mvT hZ (hw _ (List.mem_of_getElem? (i := 5) rfl))) (by decide) (backOfS (W := 0) (rm1 l Z a0 hw [] (q1 &&& (4294967295 : Int64)) b421 k421 (1 : Int32) [(.int (nar .byte (p3.toInt8.toInt32)))] (.int (0 : Int32)) h436 n0 Z438 (own_rg q1).1 (own_rg q1).2 V436) hZ (hw _ (List.mem_of_getElem? (i := 5) rfl)) (hw _ (List.mem_of_getElem? (i := 4) rfl)) (by decide) (by decide)) (g := (mkF m 93 #[.val (.long q1), .second, .val (.int p2), .val (.int p3), .val (.long (q1 &&& (4294967295 : Int64))), .second, .val (.int (1 : Int32)), .val (.ref b415), .val (.ref b421), .unset, .unset] [(.ref b421), (.long (q1 &&& (4294967295 : Int64)))])) rfl (by rw [hml]; rfl) (argsL := [(.long (q1 &&& (4294967295 : Int64))), (.ref b421)]) (rest := []) (lenOf pd__J_B_Lcom_example_message_buffer_messagebuffer_model_Message_ rfl) rfl (by show 2 * 0 + _ ≤ _; exact Nat.le_of_eq rfl) (hb hby at_93) (fun _ _ => ⟨rfl, e436, (by decide : 2 + 3 ≤ _), (by decide : 2 + 24 ≤ _)⟩)
  dsimp only [Pt.U, Pt.locs, Pt.cells, Pt.slots] at X448 l448 y448 z448 st448 hQ448 sS448 gr448
  subst l448 y448 z448
  obtain ⟨r448, rfl, N448q, K448, lr448, E448, F448a, F448b, F448c, F448d⟩ := hQ448
  have N448 := Fr.app NN436 N448q
  have ne_b415_r448 : b415 ≠ r448 := Nat.ne_of_lt (Nat.lt_of_lt_of_le (V430.other W436 ne_b415_b421).lt lr448)
  have ne_b421_r448 : b421 ≠ r448 := Nat.ne_of_lt (Nat.lt_of_lt_of_le V436.lt lr448)
  have O449 := O437.keep K448 all0
  have Z450 : n0 ≤ T448.heap.size := Nat.le_trans Z438 K448.1
  have K451 := Nat.le_trans K439 K448.1
  have hS448 := foldS (s := s) (vm0 := s.vm) hS0 (by rw [e436]; exact K439) sS448 gr448
  have hZ448 : Z.Warmed39 (s.setVm T448.vm).vm := State.Warmed39.trans (t := s.setVm s.vm) hZ sS448.1
  have hown448 : (s.setVm T448.vm).vm.findClass "com/example/message_buffer/messagebuffer/model/MessageOfPinLaw" = some m.cls := by rw [show (s.setVm T448.vm).vm = T448.vm from rfl, sS448.1.alike.findClass]; exact hown
  have X448 : Stand p l e room_1 (s.setVm T448.vm) m _ below meth c T448 _ _ _ := X448
  have pre452 : ∀ t, Steps p.tables e below (T448.setTop (mkF m 96 #[.val (.long q1), .second, .val (.int p2), .val (.int p3), .val (.long (q1 &&& (4294967295 : Int64))), .second, .val (.int (1 : Int32)), .val (.ref b415), .val (.ref b421), .unset, .unset] [(.ref r448)])) t → Steps p.tables e below (s₁.setTop (entryFrame m #[(.long q1), (.int p2), (.int p3)] maxLocals)) t := by
    intro t k
    refine pre447 _ ?_
    show Steps p.tables e below (T436.setTop (mkF m 93 #[.val (.long q1), .second, .val (.int p2), .val (.int p3), .val (.long (q1 &&& (4294967295 : Int64))), .second, .val (.int (1 : Int32)), .val (.ref b415), .val (.ref b421), .unset, .unset] [(.ref b421), (.long (q1 &&& (4294967295 : Int64)))])) _
    refine st448.trans ?_
    exact k
  have pre453 : ∀ t, Steps p.tables e below (T448.setTop (mkF m 102 #[.val (.long q1), .second, .val (.int p2), .val (.int p3), .val (.long (q1 &&& (4294967295 : Int64))), .second, .val (.int (1 : Int32)), .val (.ref b415), .val (.ref b421), .val (.ref r448), .unset] [(.ref b415), (.long (q1 &&& (4294967295 : Int64)))])) t → Steps p.tables e below (s₁.setTop (entryFrame m #[(.long q1), (.int p2), (.int p3)] maxLocals)) t := by
    intro t k
    refine pre452 _ ?_
    show Steps p.tables e below (T448.setTop (mkF m 96 #[.val (.long q1), .second, .val (.int p2), .val (.int p3), .val (.long (q1 &&& (4294967295 : Int64))), .second, .val (.int (1 : Int32)), .val (.ref b415), .val (.ref b421), .unset, .unset] [(.ref r448)])) _
    refine XS.astore X448.here hx rfl (hb hby at_96) rfl rfl (l' := #[.val (.long q1), .second, .val (.int p2), .val (.int p3), .val (.long (q1 &&& (4294967295 : Int64))), .second, .val (.int (1 : Int32)), .val (.ref b415), .val (.ref b421), .val (.ref r448), .unset]) rfl ?_
    show Steps p.tables e below (T448.setTop (mkF m 98 #[.val (.long q1), .second, .val (.int p2), .val (.int p3), .val (.long (q1 &&& (4294967295 : Int64))), .second, .val (.int (1 : Int32)), .val (.ref b415), .val (.ref b421), .val (.ref r448), .unset] [])) _
    refine XS.lload X448.here hx rfl (hb hby at_98) rfl ?_
    show Steps p.tables e below (T448.setTop (mkF m 100 #[.val (.long q1), .second, .val (.int p2), .val (.int p3), .val (.long (q1 &&& (4294967295 : Int64))), .second, .val (.int (1 : Int32)), .val (.ref b415), .val (.ref b421), .val (.ref r448), .unset] [(.long (q1 &&& (4294967295 : Int64)))])) _
    refine XS.aload X448.here hx rfl (hb hby at_100) rfl rfl ?_
    exact k
  obtain ⟨_, _, ⟨T454, L454, k454, n454⟩, -, X454, sS454, gr454, ⟨Lc454, hQ454, l454, y454, z454⟩, st454⟩ := Jvm.RoadKit.callSS X448 hx (y := (⟨"com/example/message_buffer/messagebuffer/model/Message", "of", "(J[B)Lcom/example/message_buffer/messagebuffer/model/Message;"⟩ : MethodName)) hown448 (mvT hZ448 (hw _ (List.mem_of_getElem? (i := 37) rfl))) (mvT hZ448 (hw _ (List.mem_of_getElem? (i := 38) rfl))) (mvT hZ448 (hw _ (List.mem_of_getElem? (i := 4) rfl))) (mvT hZ448 (hw _ (List.mem_of_getElem? (i := 39) rfl))) (by decide) (backOfS (W := 0) (rm6 l Z a0 hw [] (q1 &&& (4294967295 : Int64)) b415 k415 (1 : Int32) [(.int (nar .byte (p3.toInt8.toInt32)))] (.int (0 : Int32)) T448.heap n0 Z450 (own_rg q1).1 (own_rg q1).2 ((V430.other W436 ne_b415_b421).keep K448 nin0) ((((Ex415.ext E421).wr W430).wr W436).keep K448) (by decide)) hZ448 (hw _ (List.mem_of_getElem? (i := 39) rfl)) (hw _ (List.mem_of_getElem? (i := 4) rfl)) (by decide) (by decide)) (g := (mkF m 102 #[.val (.long q1), .second, .val (.int p2), .val (.int p3), .val (.long (q1 &&& (4294967295 : Int64))), .second, .val (.int (1 : Int32)), .val (.ref b415), .val (.ref b421), .val (.ref r448), .unset] [(.ref b415), (.long (q1 &&& (4294967295 : Int64)))])) rfl (by rw [hml]; rfl) (argsL := [(.long (q1 &&& (4294967295 : Int64))), (.ref b415)]) (rest := []) (lenOf pd__J_B_Lcom_example_message_buffer_messagebuffer_model_Message_ rfl) rfl (by show 2 * 0 + _ ≤ _; exact Nat.le_of_eq rfl) (hb hby at_102) (fun _ _ => ⟨rfl, rfl, (by decide : 5 + 4 ≤ _), (by decide : 26 + 27 ≤ _)⟩)
  dsimp only [Pt.U, Pt.locs, Pt.cells, Pt.slots] at X454 l454 y454 z454 st454 hQ454 sS454 gr454
  subst l454 y454 z454
  obtain ⟨r454, d454, rfl, N454q, K454, lr454, ld454, E454, F454a, F454b, F454c, F454d, Vd454⟩ := hQ454
  have N454 := Fr.app N448 N454q
  have ne_b415_r454 : b415 ≠ r454 := Nat.ne_of_lt (Nat.lt_of_lt_of_le ((V430.other W436 ne_b415_b421).keep K448 nin0).lt lr454)
  have ne_b421_r454 : b421 ≠ r454 := Nat.ne_of_lt (Nat.lt_of_lt_of_le (V436.keep K448 nin0).lt lr454)
  have ne_r448_r454 : r448 ≠ r454 := Nat.ne_of_lt (Nat.lt_of_lt_of_le E448.lt lr454)
  have ne_b415_d454 : b415 ≠ d454 := Nat.ne_of_lt (Nat.lt_of_lt_of_le ((V430.other W436 ne_b415_b421).keep K448 nin0).lt ld454)
  have ne_b421_d454 : b421 ≠ d454 := Nat.ne_of_lt (Nat.lt_of_lt_of_le (V436.keep K448 nin0).lt ld454)
  have ne_r448_d454 : r448 ≠ d454 := Nat.ne_of_lt (Nat.lt_of_lt_of_le E448.lt ld454)
  have O455 := O449.keep K454 all0
  have Z456 : n0 ≤ T454.heap.size := Nat.le_trans Z450 K454.1
  have K457 := Nat.le_trans (Nat.le_refl _) K454.1
  have hS454 := foldS (s := s) (vm0 := T448.vm) hS448 (Nat.le_refl _) sS454 gr454
  have hZ454 : Z.Warmed39 (s.setVm T454.vm).vm := State.Warmed39.trans (t := s.setVm T448.vm) hZ448 sS454.1
  have hown454 : (s.setVm T454.vm).vm.findClass "com/example/message_buffer/messagebuffer/model/MessageOfPinLaw" = some m.cls := by rw [show (s.setVm T454.vm).vm = T454.vm from rfl, sS454.1.alike.findClass]; exact hown448
  have X454 : Stand p l e room_1 (s.setVm T454.vm) m _ below meth c T454 _ _ _ := X454
  have pre458 : ∀ t, Steps p.tables e below (T454.setTop (mkF m 105 #[.val (.long q1), .second, .val (.int p2), .val (.int p3), .val (.long (q1 &&& (4294967295 : Int64))), .second, .val (.int (1 : Int32)), .val (.ref b415), .val (.ref b421), .val (.ref r448), .unset] [(.ref r454)])) t → Steps p.tables e below (s₁.setTop (entryFrame m #[(.long q1), (.int p2), (.int p3)] maxLocals)) t := by
    intro t k
    refine pre453 _ ?_
    show Steps p.tables e below (T448.setTop (mkF m 102 #[.val (.long q1), .second, .val (.int p2), .val (.int p3), .val (.long (q1 &&& (4294967295 : Int64))), .second, .val (.int (1 : Int32)), .val (.ref b415), .val (.ref b421), .val (.ref r448), .unset] [(.ref b415), (.long (q1 &&& (4294967295 : Int64)))])) _
    refine st454.trans ?_
    exact k
  have pre459 : ∀ t, Steps p.tables e below (T454.setTop (mkF m 109 #[.val (.long q1), .second, .val (.int p2), .val (.int p3), .val (.long (q1 &&& (4294967295 : Int64))), .second, .val (.int (1 : Int32)), .val (.ref b415), .val (.ref b421), .val (.ref r448), .val (.ref r454)] [(.int (1 : Int32))])) t → Steps p.tables e below (s₁.setTop (entryFrame m #[(.long q1), (.int p2), (.int p3)] maxLocals)) t := by
    intro t k
    refine pre458 _ ?_
    show Steps p.tables e below (T454.setTop (mkF m 105 #[.val (.long q1), .second, .val (.int p2), .val (.int p3), .val (.long (q1 &&& (4294967295 : Int64))), .second, .val (.int (1 : Int32)), .val (.ref b415), .val (.ref b421), .val (.ref r448), .unset] [(.ref r454)])) _
    refine XS.astore X454.here hx rfl (hb hby at_105) rfl rfl (l' := #[.val (.long q1), .second, .val (.int p2), .val (.int p3), .val (.long (q1 &&& (4294967295 : Int64))), .second, .val (.int (1 : Int32)), .val (.ref b415), .val (.ref b421), .val (.ref r448), .val (.ref r454)]) rfl ?_
    show Steps p.tables e below (T454.setTop (mkF m 107 #[.val (.long q1), .second, .val (.int p2), .val (.int p3), .val (.long (q1 &&& (4294967295 : Int64))), .second, .val (.int (1 : Int32)), .val (.ref b415), .val (.ref b421), .val (.ref r448), .val (.ref r454)] [])) _
    refine XS.iload X454.here hx rfl (hb hby at_107) rfl ?_
    exact k
  have pre461 : ∀ t, Steps p.tables e below (T454.setTop (mkF m 112 #[.val (.long q1), .second, .val (.int p2), .val (.int p3), .val (.long (q1 &&& (4294967295 : Int64))), .second, .val (.int (1 : Int32)), .val (.ref b415), .val (.ref b421), .val (.ref r448), .val (.ref r454)] [])) t → Steps p.tables e below (s₁.setTop (entryFrame m #[(.long q1), (.int p2), (.int p3)] maxLocals)) t := by
    intro t k
    refine pre459 _ ?_
    show Steps p.tables e below (T454.setTop (mkF m 109 #[.val (.long q1), .second, .val (.int p2), .val (.int p3), .val (.long (q1 &&& (4294967295 : Int64))), .second, .val (.int (1 : Int32)), .val (.ref b415), .val (.ref b421), .val (.ref r448), .val (.ref r454)] [(.int (1 : Int32))])) _
    refine XS.ifNo X454.here hx rfl (hb hby at_109) rfl ((if0 _ _).trans (tlt (by decide : (0 : Int32) < (1 : Int32))).2.2.2) ?_
    exact k
  have pre462 : ∀ t, Steps p.tables e below (T454.setTop (mkF m 118 #[.val (.long q1), .second, .val (.int p2), .val (.int p3), .val (.long (q1 &&& (4294967295 : Int64))), .second, .val (.int (1 : Int32)), .val (.ref b415), .val (.ref b421), .val (.ref r448), .val (.ref r454)] [(.int (0 : Int32)), (.ref b415), (.int (0 : Int32)), (.ref b415)])) t → Steps p.tables e below (s₁.setTop (entryFrame m #[(.long q1), (.int p2), (.int p3)] maxLocals)) t := by
    intro t k
    refine pre461 _ ?_
    show Steps p.tables e below (T454.setTop (mkF m 112 #[.val (.long q1), .second, .val (.int p2), .val (.int p3), .val (.long (q1 &&& (4294967295 : Int64))), .second, .val (.int (1 : Int32)), .val (.ref b415), .val (.ref b421), .val (.ref r448), .val (.ref r454)] [])) _
    refine XS.aload X454.here hx rfl (hb hby at_112) rfl rfl ?_
    show Steps p.tables e below (T454.setTop (mkF m 114 #[.val (.long q1), .second, .val (.int p2), .val (.int p3), .val (.long (q1 &&& (4294967295 : Int64))), .second, .val (.int (1 : Int32)), .val (.ref b415), .val (.ref b421), .val (.ref r448), .val (.ref r454)] [(.ref b415)])) _
    refine XS.iconst X454.here hx rfl (hb hby at_114) ?_
    show Steps p.tables e below (T454.setTop (mkF m 115 #[.val (.long q1), .second, .val (.int p2), .val (.int p3), .val (.long (q1 &&& (4294967295 : Int64))), .second, .val (.int (1 : Int32)), .val (.ref b415), .val (.ref b421), .val (.ref r448), .val (.ref r454)] [(.int (0 : Int32)), (.ref b415)])) _
    refine XS.aload X454.here hx rfl (hb hby at_115) rfl rfl ?_
    show Steps p.tables e below (T454.setTop (mkF m 117 #[.val (.long q1), .second, .val (.int p2), .val (.int p3), .val (.long (q1 &&& (4294967295 : Int64))), .second, .val (.int (1 : Int32)), .val (.ref b415), .val (.ref b421), .val (.ref r448), .val (.ref r454)] [(.ref b415), (.int (0 : Int32)), (.ref b415)])) _
    refine XS.iconst X454.here hx rfl (hb hby at_117) ?_
    exact k
  obtain ⟨cl463, Ar463, q463, S463, N_463, H463, G463⟩ := (((V430.other W436 ne_b415_b421).keep K448 nin0).keep K454 nin0)
  have pre464 : ∀ t, Steps p.tables e below (T454.setTop (mkF m 119 #[.val (.long q1), .second, .val (.int p2), .val (.int p3), .val (.long (q1 &&& (4294967295 : Int64))), .second, .val (.int (1 : Int32)), .val (.ref b415), .val (.ref b421), .val (.ref r448), .val (.ref r454)] [(.int (nar .byte (p3.toInt8.toInt32))), (.int (0 : Int32)), (.ref b415)])) t → Steps p.tables e below (s₁.setTop (entryFrame m #[(.long q1), (.int p2), (.int p3)] maxLocals)) t := by
    intro t k
    refine pre462 _ ?_
    show Steps p.tables e below (T454.setTop (mkF m 118 #[.val (.long q1), .second, .val (.int p2), .val (.int p3), .val (.long (q1 &&& (4294967295 : Int64))), .second, .val (.int (1 : Int32)), .val (.ref b415), .val (.ref b421), .val (.ref r448), .val (.ref r454)] [(.int (0 : Int32)), (.ref b415), (.int (0 : Int32)), (.ref b415)])) _
    refine X454.baloadBytes hx (j := (0 : Int32)) (v := (.int (nar .byte (p3.toInt8.toInt32)))) Ar463.1 (State.isArrayOf_alike hZ454.alike Ar463.2.1) Ar463.2.2 (inb_of S463 ⟨by decide, by decide⟩) (Has.at H463 (inb_of S463 ⟨by decide, by decide⟩) rfl) (g := (mkF m 118 #[.val (.long q1), .second, .val (.int p2), .val (.int p3), .val (.long (q1 &&& (4294967295 : Int64))), .second, .val (.int (1 : Int32)), .val (.ref b415), .val (.ref b421), .val (.ref r448), .val (.ref r454)] [(.int (0 : Int32)), (.ref b415), (.int (0 : Int32)), (.ref b415)])) rfl rfl (hb hby at_118) _ ?_
    exact k
  have pre465 : ∀ t, Steps p.tables e below (T454.setTop (mkF m 122 #[.val (.long q1), .second, .val (.int p2), .val (.int p3), .val (.long (q1 &&& (4294967295 : Int64))), .second, .val (.int (1 : Int32)), .val (.ref b415), .val (.ref b421), .val (.ref r448), .val (.ref r454)] [(.int (((nar .byte (p3.toInt8.toInt32)) + (1 : Int32)).toInt8.toInt32)), (.int (0 : Int32)), (.ref b415)])) t → Steps p.tables e below (s₁.setTop (entryFrame m #[(.long q1), (.int p2), (.int p3)] maxLocals)) t := by
    intro t k
    refine pre464 _ ?_
    show Steps p.tables e below (T454.setTop (mkF m 119 #[.val (.long q1), .second, .val (.int p2), .val (.int p3), .val (.long (q1 &&& (4294967295 : Int64))), .second, .val (.int (1 : Int32)), .val (.ref b415), .val (.ref b421), .val (.ref r448), .val (.ref r454)] [(.int (nar .byte (p3.toInt8.toInt32))), (.int (0 : Int32)), (.ref b415)])) _
    refine XS.iconst X454.here hx rfl (hb hby at_119) ?_
    show Steps p.tables e below (T454.setTop (mkF m 120 #[.val (.long q1), .second, .val (.int p2), .val (.int p3), .val (.long (q1 &&& (4294967295 : Int64))), .second, .val (.int (1 : Int32)), .val (.ref b415), .val (.ref b421), .val (.ref r448), .val (.ref r454)] [(.int (1 : Int32)), (.int (nar .byte (p3.toInt8.toInt32))), (.int (0 : Int32)), (.ref b415)])) _
    refine XS.iadd X454.here hx rfl (hb hby at_120) rfl ?_
    show Steps p.tables e below (T454.setTop (mkF m 121 #[.val (.long q1), .second, .val (.int p2), .val (.int p3), .val (.long (q1 &&& (4294967295 : Int64))), .second, .val (.int (1 : Int32)), .val (.ref b415), .val (.ref b421), .val (.ref r448), .val (.ref r454)] [(.int ((nar .byte (p3.toInt8.toInt32)) + (1 : Int32))), (.int (0 : Int32)), (.ref b415)])) _
    refine XS.i2b X454.here hx rfl (hb hby at_121) rfl ?_
    exact k
  obtain ⟨cl466, Ar466, q466, S466, N_466, H466, G466⟩ := (((V430.other W436 ne_b415_b421).keep K448 nin0).keep K454 nin0)
  obtain ⟨T466, h466, X466, e466, W466, st466⟩ := stB X454 hx hZ454 rfl Ar466 (j := (0 : Int32)) (inb_of S466 ⟨by decide, by decide⟩) (g := (mkF m 122 #[.val (.long q1), .second, .val (.int p2), .val (.int p3), .val (.long (q1 &&& (4294967295 : Int64))), .second, .val (.int (1 : Int32)), .val (.ref b415), .val (.ref b421), .val (.ref r448), .val (.ref r454)] [(.int (((nar .byte (p3.toInt8.toInt32)) + (1 : Int32)).toInt8.toInt32)), (.int (0 : Int32)), (.ref b415)])) rfl rfl (hb hby at_122)
  have V466 : Arv Z h466 b415 k415 .byte (1 : Int32) [(.int (nar .byte (((nar .byte (p3.toInt8.toInt32)) + (1 : Int32)).toInt8.toInt32)))] (.int (0 : Int32)) := Arv.set Ar466 q466 S466 N_466 H466 G466 (fits_nar_byte _) W466 0 rfl (Nat.le_of_ble_eq_true rfl)
  have O467 := O455.wr W466 g_b415
  have Z468 : n0 ≤ h466.size := Nat.le_trans Z456 (Keep.of_wr W466).1
  have K469 := Nat.le_trans (Nat.le_refl _) (Keep.of_wr W466).1
  have NN466 := Fr.snoc X466 N454 g_b415
  have pre470 : ∀ t, Steps p.tables e below (T466.setTop (mkF m 123 #[.val (.long q1), .second, .val (.int p2), .val (.int p3), .val (.long (q1 &&& (4294967295 : Int64))), .second, .val (.int (1 : Int32)), .val (.ref b415), .val (.ref b421), .val (.ref r448), .val (.ref r454)] [])) t → Steps p.tables e below (s₁.setTop (entryFrame m #[(.long q1), (.int p2), (.int p3)] maxLocals)) t := by
    intro t k
    refine pre465 _ ?_
    show Steps p.tables e below (T454.setTop (mkF m 122 #[.val (.long q1), .second, .val (.int p2), .val (.int p3), .val (.long (q1 &&& (4294967295 : Int64))), .second, .val (.int (1 : Int32)), .val (.ref b415), .val (.ref b421), .val (.ref r448), .val (.ref r454)] [(.int (((nar .byte (p3.toInt8.toInt32)) + (1 : Int32)).toInt8.toInt32)), (.int (0 : Int32)), (.ref b415)])) _
    refine st466 _ ?_
    exact k
  have pre471 : ∀ t, Steps p.tables e below (T466.setTop (mkF m 125 #[.val (.long q1), .second, .val (.int p2), .val (.int p3), .val (.long (q1 &&& (4294967295 : Int64))), .second, .val (.int (1 : Int32)), .val (.ref b415), .val (.ref b421), .val (.ref r448), .val (.ref r454)] [(.ref r454)])) t → Steps p.tables e below (s₁.setTop (entryFrame m #[(.long q1), (.int p2), (.int p3)] maxLocals)) t := by
    intro t k
    refine pre470 _ ?_
    show Steps p.tables e below (T466.setTop (mkF m 123 #[.val (.long q1), .second, .val (.int p2), .val (.int p3), .val (.long (q1 &&& (4294967295 : Int64))), .second, .val (.int (1 : Int32)), .val (.ref b415), .val (.ref b421), .val (.ref r448), .val (.ref r454)] [])) _
    refine XS.aload X466.here hx rfl (hb hby at_123) rfl rfl ?_
    exact k
  obtain ⟨cq472, kq472, q472a, q472b, q472c⟩ := isOf hZ454 e466 (E454.wr W466)
  obtain ⟨_, _, ⟨T472, L472, k472, n472⟩, -, X472, ⟨Lc472, hQ472, l472, y472, z472⟩, st472⟩ := X466.virtualBack hx (y := (⟨"com/example/message_buffer/messagebuffer/model/Message", "flags", "()J"⟩ : MethodName)) (z := (⟨"com/example/message_buffer/messagebuffer/model/Message", "flags", "()J"⟩ : MethodName)) hown454 (mvT hZ454 (hw _ (List.mem_of_getElem? (i := 49) rfl))) (mvT hZ454 (hw _ (List.mem_of_getElem? (i := 50) rfl))) (notFace_of_selects (args := #[]) (mvT hZ454 (hw _ (List.mem_of_getElem? (i := 52) rfl)))) (mvT hZ454 (hw _ (List.mem_of_getElem? (i := 52) rfl))) (mvT hZ454 (hw _ (List.mem_of_getElem? (i := 51) rfl))) (by decide) (backOf (W := 0) (rm7 l Z a0 hw [] r454 ((q1 &&& (4294967295 : Int64)).toInt32) h466 n0 Z468 (F454a.other W466 (Or.inl (Ne.symm ne_b415_r454)))) hZ454 (hw _ (List.mem_of_getElem? (i := 53) rfl)) (hw _ (List.mem_of_getElem? (i := 4) rfl)) (by decide) (by decide)) q472a q472c (g := (mkF m 125 #[.val (.long q1), .second, .val (.int p2), .val (.int p3), .val (.long (q1 &&& (4294967295 : Int64))), .second, .val (.int (1 : Int32)), .val (.ref b415), .val (.ref b421), .val (.ref r448), .val (.ref r454)] [(.ref r454)])) rfl (by rw [hml]; rfl) (Steps.refl _) (argsL := []) (rest := []) (lenOf pd___J rfl) rfl (by show 2 * 0 + _ ≤ _; exact Nat.le_of_eq rfl) (hb hby at_125) (fun _ _ => ⟨rfl, e466, (by decide : 9 + 0 ≤ _), (by decide : 53 + 0 ≤ _)⟩)
  dsimp only [Pt.U, Pt.locs, Pt.cells, Pt.slots] at X472 l472 y472 z472 st472 hQ472
  subst l472 y472 z472
  obtain ⟨rfl, N472q, e472⟩ := hQ472
  have N472 := Fr.app NN466 N472q
  have pre473 : ∀ t, Steps p.tables e below (T472.setTop (mkF m 128 #[.val (.long q1), .second, .val (.int p2), .val (.int p3), .val (.long (q1 &&& (4294967295 : Int64))), .second, .val (.int (1 : Int32)), .val (.ref b415), .val (.ref b421), .val (.ref r448), .val (.ref r454)] [(.long (F7 ((q1 &&& (4294967295 : Int64)).toInt32)))])) t → Steps p.tables e below (s₁.setTop (entryFrame m #[(.long q1), (.int p2), (.int p3)] maxLocals)) t := by
    intro t k
    refine pre471 _ ?_
    show Steps p.tables e below (T466.setTop (mkF m 125 #[.val (.long q1), .second, .val (.int p2), .val (.int p3), .val (.long (q1 &&& (4294967295 : Int64))), .second, .val (.int (1 : Int32)), .val (.ref b415), .val (.ref b421), .val (.ref r448), .val (.ref r454)] [(.ref r454)])) _
    refine st472.trans ?_
    exact k
  have pre474 : ∀ t, Steps p.tables e below (T472.setTop (mkF m 131 #[.val (.long q1), .second, .val (.int p2), .val (.int p3), .val (.long (q1 &&& (4294967295 : Int64))), .second, .val (.int (1 : Int32)), .val (.ref b415), .val (.ref b421), .val (.ref r448), .val (.ref r454)] [(.int (lcmpW (F7 ((q1 &&& (4294967295 : Int64)).toInt32)) (q1 &&& (4294967295 : Int64))))])) t → Steps p.tables e below (s₁.setTop (entryFrame m #[(.long q1), (.int p2), (.int p3)] maxLocals)) t := by
    intro t k
    refine pre473 _ ?_
    show Steps p.tables e below (T472.setTop (mkF m 128 #[.val (.long q1), .second, .val (.int p2), .val (.int p3), .val (.long (q1 &&& (4294967295 : Int64))), .second, .val (.int (1 : Int32)), .val (.ref b415), .val (.ref b421), .val (.ref r448), .val (.ref r454)] [(.long (F7 ((q1 &&& (4294967295 : Int64)).toInt32)))])) _
    refine XS.lload X472.here hx rfl (hb hby at_128) rfl ?_
    show Steps p.tables e below (T472.setTop (mkF m 130 #[.val (.long q1), .second, .val (.int p2), .val (.int p3), .val (.long (q1 &&& (4294967295 : Int64))), .second, .val (.int (1 : Int32)), .val (.ref b415), .val (.ref b421), .val (.ref r448), .val (.ref r454)] [(.long (q1 &&& (4294967295 : Int64))), (.long (F7 ((q1 &&& (4294967295 : Int64)).toInt32)))])) _
    refine XS.lcmp X472.here hx rfl (hb hby at_130) rfl ?_
    exact k
  by_cases hc475 : (lcmpW (F7 ((q1 &&& (4294967295 : Int64)).toInt32)) (q1 &&& (4294967295 : Int64))) = (0 : Int32)
  · have pre476 : ∀ t, Steps p.tables e below (T472.setTop (mkF m 134 #[.val (.long q1), .second, .val (.int p2), .val (.int p3), .val (.long (q1 &&& (4294967295 : Int64))), .second, .val (.int (1 : Int32)), .val (.ref b415), .val (.ref b421), .val (.ref r448), .val (.ref r454)] [])) t → Steps p.tables e below (s₁.setTop (entryFrame m #[(.long q1), (.int p2), (.int p3)] maxLocals)) t := by
      intro t k
      refine pre474 _ ?_
      show Steps p.tables e below (T472.setTop (mkF m 131 #[.val (.long q1), .second, .val (.int p2), .val (.int p3), .val (.long (q1 &&& (4294967295 : Int64))), .second, .val (.int (1 : Int32)), .val (.ref b415), .val (.ref b421), .val (.ref r448), .val (.ref r454)] [(.int (lcmpW (F7 ((q1 &&& (4294967295 : Int64)).toInt32)) (q1 &&& (4294967295 : Int64))))])) _
      refine XS.ifNo X472.here hx rfl (hb hby at_131) rfl ((if0 _ _).trans (teq hc475).2) ?_
      exact k
    have pre477 : ∀ t, Steps p.tables e below (T472.setTop (mkF m 136 #[.val (.long q1), .second, .val (.int p2), .val (.int p3), .val (.long (q1 &&& (4294967295 : Int64))), .second, .val (.int (1 : Int32)), .val (.ref b415), .val (.ref b421), .val (.ref r448), .val (.ref r454)] [(.ref r454)])) t → Steps p.tables e below (s₁.setTop (entryFrame m #[(.long q1), (.int p2), (.int p3)] maxLocals)) t := by
      intro t k
      refine pre476 _ ?_
      show Steps p.tables e below (T472.setTop (mkF m 134 #[.val (.long q1), .second, .val (.int p2), .val (.int p3), .val (.long (q1 &&& (4294967295 : Int64))), .second, .val (.int (1 : Int32)), .val (.ref b415), .val (.ref b421), .val (.ref r448), .val (.ref r454)] [])) _
      refine XS.aload X472.here hx rfl (hb hby at_134) rfl rfl ?_
      exact k
    obtain ⟨cq478, kq478, q478a, q478b, q478c⟩ := isOf hZ454 e472 (E454.wr W466)
    obtain ⟨_, _, ⟨T478, L478, k478, n478⟩, -, X478, ⟨Lc478, hQ478, l478, y478, z478⟩, st478⟩ := X472.virtualBack hx (y := (⟨"com/example/message_buffer/messagebuffer/model/Message", "size", "()I"⟩ : MethodName)) (z := (⟨"com/example/message_buffer/messagebuffer/model/Message", "size", "()I"⟩ : MethodName)) hown454 (mvT hZ454 (hw _ (List.mem_of_getElem? (i := 59) rfl))) (mvT hZ454 (hw _ (List.mem_of_getElem? (i := 60) rfl))) (notFace_of_selects (args := #[]) (mvT hZ454 (hw _ (List.mem_of_getElem? (i := 62) rfl)))) (mvT hZ454 (hw _ (List.mem_of_getElem? (i := 62) rfl))) (mvT hZ454 (hw _ (List.mem_of_getElem? (i := 61) rfl))) (by decide) (backOf (W := 0) (rm9 l Z a0 hw [] r454 (1 : Int32) h466 n0 Z468 (F454d.other W466 (Or.inl (Ne.symm ne_b415_r454)))) hZ454 (hw _ (List.mem_of_getElem? (i := 63) rfl)) (hw _ (List.mem_of_getElem? (i := 4) rfl)) (by decide) (by decide)) q478a q478c (g := (mkF m 136 #[.val (.long q1), .second, .val (.int p2), .val (.int p3), .val (.long (q1 &&& (4294967295 : Int64))), .second, .val (.int (1 : Int32)), .val (.ref b415), .val (.ref b421), .val (.ref r448), .val (.ref r454)] [(.ref r454)])) rfl (by rw [hml]; rfl) (Steps.refl _) (argsL := []) (rest := []) (lenOf pd___I rfl) rfl (by show 2 * 0 + _ ≤ _; exact Nat.le_of_eq rfl) (hb hby at_136) (fun _ _ => ⟨rfl, e472, (by decide : 9 + 0 ≤ _), (by decide : 53 + 0 ≤ _)⟩)
    dsimp only [Pt.U, Pt.locs, Pt.cells, Pt.slots] at X478 l478 y478 z478 st478 hQ478
    subst l478 y478 z478
    obtain ⟨rfl, N478q, e478⟩ := hQ478
    have N478 := Fr.app N472 N478q
    have pre479 : ∀ t, Steps p.tables e below (T478.setTop (mkF m 139 #[.val (.long q1), .second, .val (.int p2), .val (.int p3), .val (.long (q1 &&& (4294967295 : Int64))), .second, .val (.int (1 : Int32)), .val (.ref b415), .val (.ref b421), .val (.ref r448), .val (.ref r454)] [(.int (1 : Int32))])) t → Steps p.tables e below (s₁.setTop (entryFrame m #[(.long q1), (.int p2), (.int p3)] maxLocals)) t := by
      intro t k
      refine pre477 _ ?_
      show Steps p.tables e below (T472.setTop (mkF m 136 #[.val (.long q1), .second, .val (.int p2), .val (.int p3), .val (.long (q1 &&& (4294967295 : Int64))), .second, .val (.int (1 : Int32)), .val (.ref b415), .val (.ref b421), .val (.ref r448), .val (.ref r454)] [(.ref r454)])) _
      refine st478.trans ?_
      exact k
    have pre480 : ∀ t, Steps p.tables e below (T478.setTop (mkF m 141 #[.val (.long q1), .second, .val (.int p2), .val (.int p3), .val (.long (q1 &&& (4294967295 : Int64))), .second, .val (.int (1 : Int32)), .val (.ref b415), .val (.ref b421), .val (.ref r448), .val (.ref r454)] [(.int (1 : Int32)), (.int (1 : Int32))])) t → Steps p.tables e below (s₁.setTop (entryFrame m #[(.long q1), (.int p2), (.int p3)] maxLocals)) t := by
      intro t k
      refine pre479 _ ?_
      show Steps p.tables e below (T478.setTop (mkF m 139 #[.val (.long q1), .second, .val (.int p2), .val (.int p3), .val (.long (q1 &&& (4294967295 : Int64))), .second, .val (.int (1 : Int32)), .val (.ref b415), .val (.ref b421), .val (.ref r448), .val (.ref r454)] [(.int (1 : Int32))])) _
      refine XS.iload X478.here hx rfl (hb hby at_139) rfl ?_
      exact k
    have pre482 : ∀ t, Steps p.tables e below (T478.setTop (mkF m 144 #[.val (.long q1), .second, .val (.int p2), .val (.int p3), .val (.long (q1 &&& (4294967295 : Int64))), .second, .val (.int (1 : Int32)), .val (.ref b415), .val (.ref b421), .val (.ref r448), .val (.ref r454)] [])) t → Steps p.tables e below (s₁.setTop (entryFrame m #[(.long q1), (.int p2), (.int p3)] maxLocals)) t := by
      intro t k
      refine pre480 _ ?_
      show Steps p.tables e below (T478.setTop (mkF m 141 #[.val (.long q1), .second, .val (.int p2), .val (.int p3), .val (.long (q1 &&& (4294967295 : Int64))), .second, .val (.int (1 : Int32)), .val (.ref b415), .val (.ref b421), .val (.ref r448), .val (.ref r454)] [(.int (1 : Int32)), (.int (1 : Int32))])) _
      refine XS.icmpNo X478.here hx rfl (hb hby at_141) rfl (teq (rfl : (1 : Int32) = (1 : Int32))).2 ?_
      exact k
    have pre483 : ∀ t, Steps p.tables e below (T478.setTop (mkF m 146 #[.val (.long q1), .second, .val (.int p2), .val (.int p3), .val (.long (q1 &&& (4294967295 : Int64))), .second, .val (.int (1 : Int32)), .val (.ref b415), .val (.ref b421), .val (.ref r448), .val (.ref r454)] [(.ref r454)])) t → Steps p.tables e below (s₁.setTop (entryFrame m #[(.long q1), (.int p2), (.int p3)] maxLocals)) t := by
      intro t k
      refine pre482 _ ?_
      show Steps p.tables e below (T478.setTop (mkF m 144 #[.val (.long q1), .second, .val (.int p2), .val (.int p3), .val (.long (q1 &&& (4294967295 : Int64))), .second, .val (.int (1 : Int32)), .val (.ref b415), .val (.ref b421), .val (.ref r448), .val (.ref r454)] [])) _
      refine XS.aload X478.here hx rfl (hb hby at_144) rfl rfl ?_
      exact k
    obtain ⟨cq484, kq484, q484a, q484b, q484c⟩ := isOf hZ454 e478 (E454.wr W466)
    obtain ⟨_, _, ⟨T484, L484, k484, n484⟩, -, X484, ⟨Lc484, hQ484, l484, y484, z484⟩, st484⟩ := X478.virtualBack hx (y := (⟨"com/example/message_buffer/messagebuffer/model/Message", "source", "()Lcom/example/message_buffer/messagebuffer/model/Message$Source;"⟩ : MethodName)) (z := (⟨"com/example/message_buffer/messagebuffer/model/Message", "source", "()Lcom/example/message_buffer/messagebuffer/model/Message$Source;"⟩ : MethodName)) hown454 (mvT hZ454 (hw _ (List.mem_of_getElem? (i := 64) rfl))) (mvT hZ454 (hw _ (List.mem_of_getElem? (i := 65) rfl))) (notFace_of_selects (args := #[]) (mvT hZ454 (hw _ (List.mem_of_getElem? (i := 67) rfl)))) (mvT hZ454 (hw _ (List.mem_of_getElem? (i := 67) rfl))) (mvT hZ454 (hw _ (List.mem_of_getElem? (i := 66) rfl))) (by decide) (backOf (W := 0) (rm10 l Z a0 hw [] r454 h466 n0 Z468 (F454c.other W466 (Or.inl (Ne.symm ne_b415_r454)))) hZ454 (hw _ (List.mem_of_getElem? (i := 68) rfl)) (hw _ (List.mem_of_getElem? (i := 4) rfl)) (by decide) (by decide)) q484a q484c (g := (mkF m 146 #[.val (.long q1), .second, .val (.int p2), .val (.int p3), .val (.long (q1 &&& (4294967295 : Int64))), .second, .val (.int (1 : Int32)), .val (.ref b415), .val (.ref b421), .val (.ref r448), .val (.ref r454)] [(.ref r454)])) rfl (by rw [hml]; rfl) (Steps.refl _) (argsL := []) (rest := []) (lenOf pd___Lcom_example_message_buffer_messagebuffer_model_Message_Source_ rfl) rfl (by show 2 * 0 + _ ≤ _; exact Nat.le_of_eq rfl) (hb hby at_146) (fun _ _ => ⟨rfl, e478, (by decide : 9 + 0 ≤ _), (by decide : 53 + 0 ≤ _)⟩)
    dsimp only [Pt.U, Pt.locs, Pt.cells, Pt.slots] at X484 l484 y484 z484 st484 hQ484
    subst l484 y484 z484
    obtain ⟨rfl, N484q, e484⟩ := hQ484
    have N484 := Fr.app N478 N484q
    have pre485 : ∀ t, Steps p.tables e below (T484.setTop (mkF m 149 #[.val (.long q1), .second, .val (.int p2), .val (.int p3), .val (.long (q1 &&& (4294967295 : Int64))), .second, .val (.int (1 : Int32)), .val (.ref b415), .val (.ref b421), .val (.ref r448), .val (.ref r454)] [.null])) t → Steps p.tables e below (s₁.setTop (entryFrame m #[(.long q1), (.int p2), (.int p3)] maxLocals)) t := by
      intro t k
      refine pre483 _ ?_
      show Steps p.tables e below (T478.setTop (mkF m 146 #[.val (.long q1), .second, .val (.int p2), .val (.int p3), .val (.long (q1 &&& (4294967295 : Int64))), .second, .val (.int (1 : Int32)), .val (.ref b415), .val (.ref b421), .val (.ref r448), .val (.ref r454)] [(.ref r454)])) _
      refine st484.trans ?_
      exact k
    have pre486 : ∀ t, Steps p.tables e below (T484.setTop (mkF m 154 #[.val (.long q1), .second, .val (.int p2), .val (.int p3), .val (.long (q1 &&& (4294967295 : Int64))), .second, .val (.int (1 : Int32)), .val (.ref b415), .val (.ref b421), .val (.ref r448), .val (.ref r454)] [(.ref r454)])) t → Steps p.tables e below (s₁.setTop (entryFrame m #[(.long q1), (.int p2), (.int p3)] maxLocals)) t := by
      intro t k
      refine pre485 _ ?_
      show Steps p.tables e below (T484.setTop (mkF m 149 #[.val (.long q1), .second, .val (.int p2), .val (.int p3), .val (.long (q1 &&& (4294967295 : Int64))), .second, .val (.int (1 : Int32)), .val (.ref b415), .val (.ref b421), .val (.ref r448), .val (.ref r454)] [.null])) _
      refine XS.ifnonnullNo X484.here hx rfl (hb hby at_149) rfl ?_
      show Steps p.tables e below (T484.setTop (mkF m 152 #[.val (.long q1), .second, .val (.int p2), .val (.int p3), .val (.long (q1 &&& (4294967295 : Int64))), .second, .val (.int (1 : Int32)), .val (.ref b415), .val (.ref b421), .val (.ref r448), .val (.ref r454)] [])) _
      refine XS.aload X484.here hx rfl (hb hby at_152) rfl rfl ?_
      exact k
    obtain ⟨cq487, kq487, q487a, q487b, q487c⟩ := isOf hZ454 e484 (E454.wr W466)
    obtain ⟨_, _, ⟨T487, L487, k487, n487⟩, -, X487, ⟨Lc487, hQ487, l487, y487, z487⟩, st487⟩ := X484.virtualBack hx (y := (⟨"com/example/message_buffer/messagebuffer/model/Message", "footprint", "()J"⟩ : MethodName)) (z := (⟨"com/example/message_buffer/messagebuffer/model/Message", "footprint", "()J"⟩ : MethodName)) hown454 (mvT hZ454 (hw _ (List.mem_of_getElem? (i := 69) rfl))) (mvT hZ454 (hw _ (List.mem_of_getElem? (i := 70) rfl))) (notFace_of_selects (args := #[]) (mvT hZ454 (hw _ (List.mem_of_getElem? (i := 72) rfl)))) (mvT hZ454 (hw _ (List.mem_of_getElem? (i := 72) rfl))) (mvT hZ454 (hw _ (List.mem_of_getElem? (i := 71) rfl))) (by decide) (backOf (W := 0) (rm11 l Z a0 hw [] r454 (1 : Int32) h466 n0 Z468 (F454d.other W466 (Or.inl (Ne.symm ne_b415_r454)))) hZ454 (hw _ (List.mem_of_getElem? (i := 73) rfl)) (hw _ (List.mem_of_getElem? (i := 4) rfl)) (by decide) (by decide)) q487a q487c (g := (mkF m 154 #[.val (.long q1), .second, .val (.int p2), .val (.int p3), .val (.long (q1 &&& (4294967295 : Int64))), .second, .val (.int (1 : Int32)), .val (.ref b415), .val (.ref b421), .val (.ref r448), .val (.ref r454)] [(.ref r454)])) rfl (by rw [hml]; rfl) (Steps.refl _) (argsL := []) (rest := []) (lenOf pd___J rfl) rfl (by show 2 * 0 + _ ≤ _; exact Nat.le_of_eq rfl) (hb hby at_154) (fun _ _ => ⟨rfl, e484, (by decide : 9 + 0 ≤ _), (by decide : 53 + 0 ≤ _)⟩)
    dsimp only [Pt.U, Pt.locs, Pt.cells, Pt.slots] at X487 l487 y487 z487 st487 hQ487
    subst l487 y487 z487
    obtain ⟨rfl, N487q, e487⟩ := hQ487
    have N487 := Fr.app N484 N487q
    have pre488 : ∀ t, Steps p.tables e below (T487.setTop (mkF m 157 #[.val (.long q1), .second, .val (.int p2), .val (.int p3), .val (.long (q1 &&& (4294967295 : Int64))), .second, .val (.int (1 : Int32)), .val (.ref b415), .val (.ref b421), .val (.ref r448), .val (.ref r454)] [(.long (F11 (1 : Int32)))])) t → Steps p.tables e below (s₁.setTop (entryFrame m #[(.long q1), (.int p2), (.int p3)] maxLocals)) t := by
      intro t k
      refine pre486 _ ?_
      show Steps p.tables e below (T484.setTop (mkF m 154 #[.val (.long q1), .second, .val (.int p2), .val (.int p3), .val (.long (q1 &&& (4294967295 : Int64))), .second, .val (.int (1 : Int32)), .val (.ref b415), .val (.ref b421), .val (.ref r448), .val (.ref r454)] [(.ref r454)])) _
      refine st487.trans ?_
      exact k
    have pre489 : ∀ t, Steps p.tables e below (T487.setTop (mkF m 165 #[.val (.long q1), .second, .val (.int p2), .val (.int p3), .val (.long (q1 &&& (4294967295 : Int64))), .second, .val (.int (1 : Int32)), .val (.ref b415), .val (.ref b421), .val (.ref r448), .val (.ref r454)] [(.int (lcmpW (F11 (1 : Int32)) (((1 : Int32).toInt64) + (80 : Int64))))])) t → Steps p.tables e below (s₁.setTop (entryFrame m #[(.long q1), (.int p2), (.int p3)] maxLocals)) t := by
      intro t k
      refine pre488 _ ?_
      show Steps p.tables e below (T487.setTop (mkF m 157 #[.val (.long q1), .second, .val (.int p2), .val (.int p3), .val (.long (q1 &&& (4294967295 : Int64))), .second, .val (.int (1 : Int32)), .val (.ref b415), .val (.ref b421), .val (.ref r448), .val (.ref r454)] [(.long (F11 (1 : Int32)))])) _
      refine XS.iload X487.here hx rfl (hb hby at_157) rfl ?_
      show Steps p.tables e below (T487.setTop (mkF m 159 #[.val (.long q1), .second, .val (.int p2), .val (.int p3), .val (.long (q1 &&& (4294967295 : Int64))), .second, .val (.int (1 : Int32)), .val (.ref b415), .val (.ref b421), .val (.ref r448), .val (.ref r454)] [(.int (1 : Int32)), (.long (F11 (1 : Int32)))])) _
      refine XS.i2l X487.here hx rfl (hb hby at_159) rfl ?_
      show Steps p.tables e below (T487.setTop (mkF m 160 #[.val (.long q1), .second, .val (.int p2), .val (.int p3), .val (.long (q1 &&& (4294967295 : Int64))), .second, .val (.int (1 : Int32)), .val (.ref b415), .val (.ref b421), .val (.ref r448), .val (.ref r454)] [(.long ((1 : Int32).toInt64)), (.long (F11 (1 : Int32)))])) _
      refine X487.ldc2Long hx hown454 (mvT hZ454 (hw _ (List.mem_of_getElem? (i := 77) rfl))) (g := (mkF m 160 #[.val (.long q1), .second, .val (.int p2), .val (.int p3), .val (.long (q1 &&& (4294967295 : Int64))), .second, .val (.int (1 : Int32)), .val (.ref b415), .val (.ref b421), .val (.ref r448), .val (.ref r454)] [(.long ((1 : Int32).toInt64)), (.long (F11 (1 : Int32)))])) rfl (hb hby at_160) _ ?_
      show Steps p.tables e below (T487.setTop (mkF m 163 #[.val (.long q1), .second, .val (.int p2), .val (.int p3), .val (.long (q1 &&& (4294967295 : Int64))), .second, .val (.int (1 : Int32)), .val (.ref b415), .val (.ref b421), .val (.ref r448), .val (.ref r454)] [(.long (80 : Int64)), (.long ((1 : Int32).toInt64)), (.long (F11 (1 : Int32)))])) _
      refine XS.ladd X487.here hx rfl (hb hby at_163) rfl ?_
      show Steps p.tables e below (T487.setTop (mkF m 164 #[.val (.long q1), .second, .val (.int p2), .val (.int p3), .val (.long (q1 &&& (4294967295 : Int64))), .second, .val (.int (1 : Int32)), .val (.ref b415), .val (.ref b421), .val (.ref r448), .val (.ref r454)] [(.long (((1 : Int32).toInt64) + (80 : Int64))), (.long (F11 (1 : Int32)))])) _
      refine XS.lcmp X487.here hx rfl (hb hby at_164) rfl ?_
      exact k
    by_cases hc490 : (lcmpW (F11 (1 : Int32)) (((1 : Int32).toInt64) + (80 : Int64))) = (0 : Int32)
    · have pre491 : ∀ t, Steps p.tables e below (T487.setTop (mkF m 168 #[.val (.long q1), .second, .val (.int p2), .val (.int p3), .val (.long (q1 &&& (4294967295 : Int64))), .second, .val (.int (1 : Int32)), .val (.ref b415), .val (.ref b421), .val (.ref r448), .val (.ref r454)] [])) t → Steps p.tables e below (s₁.setTop (entryFrame m #[(.long q1), (.int p2), (.int p3)] maxLocals)) t := by
        intro t k
        refine pre489 _ ?_
        show Steps p.tables e below (T487.setTop (mkF m 165 #[.val (.long q1), .second, .val (.int p2), .val (.int p3), .val (.long (q1 &&& (4294967295 : Int64))), .second, .val (.int (1 : Int32)), .val (.ref b415), .val (.ref b421), .val (.ref r448), .val (.ref r454)] [(.int (lcmpW (F11 (1 : Int32)) (((1 : Int32).toInt64) + (80 : Int64))))])) _
        refine XS.ifNo X487.here hx rfl (hb hby at_165) rfl ((if0 _ _).trans (teq hc490).2) ?_
        exact k
      have pre492 : ∀ t, Steps p.tables e below (T487.setTop (mkF m 172 #[.val (.long q1), .second, .val (.int p2), .val (.int p3), .val (.long (q1 &&& (4294967295 : Int64))), .second, .val (.int (1 : Int32)), .val (.ref b415), .val (.ref b421), .val (.ref r448), .val (.ref r454)] [(.ref r448), (.ref r454)])) t → Steps p.tables e below (s₁.setTop (entryFrame m #[(.long q1), (.int p2), (.int p3)] maxLocals)) t := by
        intro t k
        refine pre491 _ ?_
        show Steps p.tables e below (T487.setTop (mkF m 168 #[.val (.long q1), .second, .val (.int p2), .val (.int p3), .val (.long (q1 &&& (4294967295 : Int64))), .second, .val (.int (1 : Int32)), .val (.ref b415), .val (.ref b421), .val (.ref r448), .val (.ref r454)] [])) _
        refine XS.aload X487.here hx rfl (hb hby at_168) rfl rfl ?_
        show Steps p.tables e below (T487.setTop (mkF m 170 #[.val (.long q1), .second, .val (.int p2), .val (.int p3), .val (.long (q1 &&& (4294967295 : Int64))), .second, .val (.int (1 : Int32)), .val (.ref b415), .val (.ref b421), .val (.ref r448), .val (.ref r454)] [(.ref r454)])) _
        refine XS.aload X487.here hx rfl (hb hby at_170) rfl rfl ?_
        exact k
      obtain ⟨cq493, kq493, q493a, q493b, q493c⟩ := isOf hZ454 e487 (E454.wr W466)
      obtain ⟨_, _, ⟨T493, L493, k493, n493⟩, -, X493, ⟨Lc493, hQ493, l493, y493, z493⟩, st493⟩ := X487.virtualBack hx (y := (⟨"com/example/message_buffer/messagebuffer/model/Message", "equals", "(Ljava/lang/Object;)Z"⟩ : MethodName)) (z := (⟨"com/example/message_buffer/messagebuffer/model/Message", "equals", "(Ljava/lang/Object;)Z"⟩ : MethodName)) hown454 (mvT hZ454 (hw _ (List.mem_of_getElem? (i := 78) rfl))) (mvT hZ454 (hw _ (List.mem_of_getElem? (i := 79) rfl))) (notFace_of_selects (args := #[]) (mvT hZ454 (hw _ (List.mem_of_getElem? (i := 81) rfl)))) (mvT hZ454 (hw _ (List.mem_of_getElem? (i := 81) rfl))) (mvT hZ454 (hw _ (List.mem_of_getElem? (i := 80) rfl))) (by decide) (backOf (W := 0) (rm131 l Z a0 hw [] r454 r448 ((q1 &&& (4294967295 : Int64)).toInt32) d454 b421 k415 k421 (nar .byte (p3.toInt8.toInt32)) h466 n0 Z468 ((E448.keep K454).wr W466) (F454c.other W466 (Or.inl (Ne.symm ne_b415_r454))) (F454a.other W466 (Or.inl (Ne.symm ne_b415_r454))) ((F448a.keep K454 nin0).other W466 (Or.inl (Ne.symm ne_b415_r448))) (F454b.other W466 (Or.inl (Ne.symm ne_b415_r454))) ((F448b.keep K454 nin0).other W466 (Or.inl (Ne.symm ne_b415_r448))) (Vd454.other W466 (Ne.symm ne_b415_d454)) (((V436.keep K448 nin0).keep K454 nin0).other W466 (Ne.symm ne_b415_b421))) hZ454 (hw _ (List.mem_of_getElem? (i := 82) rfl)) (hw _ (List.mem_of_getElem? (i := 4) rfl)) (by decide) (by decide)) q493a q493c (g := (mkF m 172 #[.val (.long q1), .second, .val (.int p2), .val (.int p3), .val (.long (q1 &&& (4294967295 : Int64))), .second, .val (.int (1 : Int32)), .val (.ref b415), .val (.ref b421), .val (.ref r448), .val (.ref r454)] [(.ref r448), (.ref r454)])) rfl (by rw [hml]; rfl) (Steps.refl _) (argsL := [(.ref r448)]) (rest := []) (lenOf pd__Ljava_lang_Object__Z rfl) rfl (by show 2 * 0 + _ ≤ _; exact Nat.le_of_eq rfl) (hb hby at_172) (fun _ _ => ⟨rfl, e487, (by decide : 9 + 0 ≤ _), (by decide : 53 + 0 ≤ _)⟩)
      dsimp only [Pt.U, Pt.locs, Pt.cells, Pt.slots] at X493 l493 y493 z493 st493 hQ493
      subst l493 y493 z493
      obtain ⟨rfl, N493q, e493⟩ := hQ493
      have N493 := Fr.app N487 N493q
      have pre494 : ∀ t, Steps p.tables e below (T493.setTop (mkF m 175 #[.val (.long q1), .second, .val (.int p2), .val (.int p3), .val (.long (q1 &&& (4294967295 : Int64))), .second, .val (.int (1 : Int32)), .val (.ref b415), .val (.ref b421), .val (.ref r448), .val (.ref r454)] [(.int (1 : Int32))])) t → Steps p.tables e below (s₁.setTop (entryFrame m #[(.long q1), (.int p2), (.int p3)] maxLocals)) t := by
        intro t k
        refine pre492 _ ?_
        show Steps p.tables e below (T487.setTop (mkF m 172 #[.val (.long q1), .second, .val (.int p2), .val (.int p3), .val (.long (q1 &&& (4294967295 : Int64))), .second, .val (.int (1 : Int32)), .val (.ref b415), .val (.ref b421), .val (.ref r448), .val (.ref r454)] [(.ref r448), (.ref r454)])) _
        refine st493.trans ?_
        exact k
      have pre496 : ∀ t, Steps p.tables e below (T493.setTop (mkF m 178 #[.val (.long q1), .second, .val (.int p2), .val (.int p3), .val (.long (q1 &&& (4294967295 : Int64))), .second, .val (.int (1 : Int32)), .val (.ref b415), .val (.ref b421), .val (.ref r448), .val (.ref r454)] [])) t → Steps p.tables e below (s₁.setTop (entryFrame m #[(.long q1), (.int p2), (.int p3)] maxLocals)) t := by
        intro t k
        refine pre494 _ ?_
        show Steps p.tables e below (T493.setTop (mkF m 175 #[.val (.long q1), .second, .val (.int p2), .val (.int p3), .val (.long (q1 &&& (4294967295 : Int64))), .second, .val (.int (1 : Int32)), .val (.ref b415), .val (.ref b421), .val (.ref r448), .val (.ref r454)] [(.int (1 : Int32))])) _
        refine XS.ifNo X493.here hx rfl (hb hby at_175) rfl ((if0 _ _).trans (feq (by decide : ¬ ((1 : Int32) = (0 : Int32)))).1) ?_
        exact k
      have pre497 : ∀ t, Steps p.tables e below (T493.setTop (mkF m 183 #[.val (.long q1), .second, .val (.int p2), .val (.int p3), .val (.long (q1 &&& (4294967295 : Int64))), .second, .val (.int (1 : Int32)), .val (.ref b415), .val (.ref b421), .val (.ref r448), .val (.ref r454)] [(.int (1 : Int32))])) t → Steps p.tables e below (s₁.setTop (entryFrame m #[(.long q1), (.int p2), (.int p3)] maxLocals)) t := by
        intro t k
        refine pre496 _ ?_
        show Steps p.tables e below (T493.setTop (mkF m 178 #[.val (.long q1), .second, .val (.int p2), .val (.int p3), .val (.long (q1 &&& (4294967295 : Int64))), .second, .val (.int (1 : Int32)), .val (.ref b415), .val (.ref b421), .val (.ref r448), .val (.ref r454)] [])) _
        refine XS.iconst X493.here hx rfl (hb hby at_178) ?_
        show Steps p.tables e below (T493.setTop (mkF m 179 #[.val (.long q1), .second, .val (.int p2), .val (.int p3), .val (.long (q1 &&& (4294967295 : Int64))), .second, .val (.int (1 : Int32)), .val (.ref b415), .val (.ref b421), .val (.ref r448), .val (.ref r454)] [(.int (1 : Int32))])) _
        refine XS.goto X493.here hx rfl (pc0 := 179) (pc' := 183) rfl (hb hby at_179) (by decide) (by decide) ?_
        exact k
      obtain ⟨fs, hr, hrun, hended, hsame⟩ := Stand.leaveW (s := s) (vm₁ := T454.vm) X493 hS454 (by rw [e493]; exact K469) (v := some (.int (1 : Int32))) (fun h => by rw [hret] at h; cases h) (hlocks := hlocks)
      refine ⟨_, _, pre497 _ ?_, hrun, hended, _, _, rfl, ?_, ⟨hsame.1, hsame.2.1, hsame.2.2.1, hsame.2.2.2.mono (by decide) (by decide)⟩⟩
      · show Steps p.tables e below (T493.setTop (mkF m 183 #[.val (.long q1), .second, .val (.int p2), .val (.int p3), .val (.long (q1 &&& (4294967295 : Int64))), .second, .val (.int (1 : Int32)), .val (.ref b415), .val (.ref b421), .val (.ref r448), .val (.ref r454)] [(.int (1 : Int32))])) _
        exact retN X493 hx (t := .boolean) hret (by simp) (hb hby at_183) hr
      · show Q0k1 Z q1 p2 p3 h0 n0 _ T493.heap _
        exact ⟨(by rw [F0k1, if_pos hc475, if_pos hc490]), N493⟩
    · have pre498 : ∀ t, Steps p.tables e below (T487.setTop (mkF m 182 #[.val (.long q1), .second, .val (.int p2), .val (.int p3), .val (.long (q1 &&& (4294967295 : Int64))), .second, .val (.int (1 : Int32)), .val (.ref b415), .val (.ref b421), .val (.ref r448), .val (.ref r454)] [])) t → Steps p.tables e below (s₁.setTop (entryFrame m #[(.long q1), (.int p2), (.int p3)] maxLocals)) t := by
        intro t k
        refine pre489 _ ?_
        show Steps p.tables e below (T487.setTop (mkF m 165 #[.val (.long q1), .second, .val (.int p2), .val (.int p3), .val (.long (q1 &&& (4294967295 : Int64))), .second, .val (.int (1 : Int32)), .val (.ref b415), .val (.ref b421), .val (.ref r448), .val (.ref r454)] [(.int (lcmpW (F11 (1 : Int32)) (((1 : Int32).toInt64) + (80 : Int64))))])) _
        refine XS.ifYes X487.here hx rfl (pc0 := 165) (pc' := 182) rfl (hb hby at_165) rfl ((if0 _ _).trans (feq hc490).2) (by decide) (by decide) ?_
        exact k
      have pre499 : ∀ t, Steps p.tables e below (T487.setTop (mkF m 183 #[.val (.long q1), .second, .val (.int p2), .val (.int p3), .val (.long (q1 &&& (4294967295 : Int64))), .second, .val (.int (1 : Int32)), .val (.ref b415), .val (.ref b421), .val (.ref r448), .val (.ref r454)] [(.int (0 : Int32))])) t → Steps p.tables e below (s₁.setTop (entryFrame m #[(.long q1), (.int p2), (.int p3)] maxLocals)) t := by
        intro t k
        refine pre498 _ ?_
        show Steps p.tables e below (T487.setTop (mkF m 182 #[.val (.long q1), .second, .val (.int p2), .val (.int p3), .val (.long (q1 &&& (4294967295 : Int64))), .second, .val (.int (1 : Int32)), .val (.ref b415), .val (.ref b421), .val (.ref r448), .val (.ref r454)] [])) _
        refine XS.iconst X487.here hx rfl (hb hby at_182) ?_
        exact k
      obtain ⟨fs, hr, hrun, hended, hsame⟩ := Stand.leaveW (s := s) (vm₁ := T454.vm) X487 hS454 (by rw [e487]; exact K469) (v := some (.int (0 : Int32))) (fun h => by rw [hret] at h; cases h) (hlocks := hlocks)
      refine ⟨_, _, pre499 _ ?_, hrun, hended, _, _, rfl, ?_, ⟨hsame.1, hsame.2.1, hsame.2.2.1, hsame.2.2.2.mono (by decide) (by decide)⟩⟩
      · show Steps p.tables e below (T487.setTop (mkF m 183 #[.val (.long q1), .second, .val (.int p2), .val (.int p3), .val (.long (q1 &&& (4294967295 : Int64))), .second, .val (.int (1 : Int32)), .val (.ref b415), .val (.ref b421), .val (.ref r448), .val (.ref r454)] [(.int (0 : Int32))])) _
        exact retN X487 hx (t := .boolean) hret (by simp) (hb hby at_183) hr
      · show Q0k1 Z q1 p2 p3 h0 n0 _ T487.heap _
        exact ⟨(by rw [F0k1, if_pos hc475, if_neg hc490]), N487⟩
  · have pre500 : ∀ t, Steps p.tables e below (T472.setTop (mkF m 182 #[.val (.long q1), .second, .val (.int p2), .val (.int p3), .val (.long (q1 &&& (4294967295 : Int64))), .second, .val (.int (1 : Int32)), .val (.ref b415), .val (.ref b421), .val (.ref r448), .val (.ref r454)] [])) t → Steps p.tables e below (s₁.setTop (entryFrame m #[(.long q1), (.int p2), (.int p3)] maxLocals)) t := by
      intro t k
      refine pre474 _ ?_
      show Steps p.tables e below (T472.setTop (mkF m 131 #[.val (.long q1), .second, .val (.int p2), .val (.int p3), .val (.long (q1 &&& (4294967295 : Int64))), .second, .val (.int (1 : Int32)), .val (.ref b415), .val (.ref b421), .val (.ref r448), .val (.ref r454)] [(.int (lcmpW (F7 ((q1 &&& (4294967295 : Int64)).toInt32)) (q1 &&& (4294967295 : Int64))))])) _
      refine XS.ifYes X472.here hx rfl (pc0 := 131) (pc' := 182) rfl (hb hby at_131) rfl ((if0 _ _).trans (feq hc475).2) (by decide) (by decide) ?_
      exact k
    have pre501 : ∀ t, Steps p.tables e below (T472.setTop (mkF m 183 #[.val (.long q1), .second, .val (.int p2), .val (.int p3), .val (.long (q1 &&& (4294967295 : Int64))), .second, .val (.int (1 : Int32)), .val (.ref b415), .val (.ref b421), .val (.ref r448), .val (.ref r454)] [(.int (0 : Int32))])) t → Steps p.tables e below (s₁.setTop (entryFrame m #[(.long q1), (.int p2), (.int p3)] maxLocals)) t := by
      intro t k
      refine pre500 _ ?_
      show Steps p.tables e below (T472.setTop (mkF m 182 #[.val (.long q1), .second, .val (.int p2), .val (.int p3), .val (.long (q1 &&& (4294967295 : Int64))), .second, .val (.int (1 : Int32)), .val (.ref b415), .val (.ref b421), .val (.ref r448), .val (.ref r454)] [])) _
      refine XS.iconst X472.here hx rfl (hb hby at_182) ?_
      exact k
    obtain ⟨fs, hr, hrun, hended, hsame⟩ := Stand.leaveW (s := s) (vm₁ := T454.vm) X472 hS454 (by rw [e472]; exact K469) (v := some (.int (0 : Int32))) (fun h => by rw [hret] at h; cases h) (hlocks := hlocks)
    refine ⟨_, _, pre501 _ ?_, hrun, hended, _, _, rfl, ?_, ⟨hsame.1, hsame.2.1, hsame.2.2.1, hsame.2.2.2.mono (by decide) (by decide)⟩⟩
    · show Steps p.tables e below (T472.setTop (mkF m 183 #[.val (.long q1), .second, .val (.int p2), .val (.int p3), .val (.long (q1 &&& (4294967295 : Int64))), .second, .val (.int (1 : Int32)), .val (.ref b415), .val (.ref b421), .val (.ref r448), .val (.ref r454)] [(.int (0 : Int32))])) _
      exact retN X472 hx (t := .boolean) hret (by simp) (hb hby at_183) hr
    · show Q0k1 Z q1 p2 p3 h0 n0 _ T472.heap _
      exact ⟨(by rw [F0k1, if_neg hc475]), N472⟩
theorem ef_0k2 (m : MethodId) (x0 : Int64) (x1 : Int32) (x2 : Int32) : entryFrame m #[(.long x0), (.int x1), (.int x2)] maxLocals = mkF m 0 #[.val (.long x0), .second, .val (.int x1), .val (.int x2), .unset, .unset, .unset, .unset, .unset, .unset, .unset] [] := by first | (simp [entryFrame, mkF, argsToLocals, Value.category, maxLocals]; done) | rfl
def F0k2 (q1 : Int64) : Int32 :=
  if (lcmpW (F7 ((q1 &&& (4294967295 : Int64)).toInt32)) (q1 &&& (4294967295 : Int64))) = (0 : Int32) then (  if (lcmpW (F11 (2 : Int32)) (((2 : Int32).toInt64) + (80 : Int64))) = (0 : Int32) then (  (1 : Int32))
  else (  (0 : Int32)))
  else (  (0 : Int32))
def Q0k2 (Z : State) (q1 : Int64) (p2 : Int32) (p3 : Int32) (h0 : Heap) (n0 : Nat) (v : Option Value) (h : Heap) (L : List Loc) : Prop := v = some (.int (F0k2 q1)) ∧ Fr n0 L
set_option maxRecDepth 65536 in
set_option maxHeartbeats 40000000 in
theorem rm0k2 (l : Launch) (Z : State) (a0 : Array Value) (hw : ∀ d ∈ tables_1, d.before a0 Z = true) (ws : List Jvm.Cond) (q1 : Int64) (p2 : Int32) (p3 : Int32) (h0 : Heap) (n0 : Nat) (Z0 : n0 ≤ h0.size) (O0 : Old Z n0 h0) (hL : (p2 &&& (3 : Int32)) = (2 : Int32)) :
    MetFree l x (head1 (Jvm.Cond.code x code maxLocals ret :: ws) room_1) (fun a U => a = #[(.long q1), (.int p2), (.int p3)] ∧ Z.Warmed39 U.vm ∧ U.heap = h0) (fun _ _ _ _ _ => True) (fun _ U o U' => ∃ v L, o = .returned v ∧ Q0k2 Z q1 p2 p3 h0 n0 v U'.heap L ∧ ReturnedEndW U o U' L room_1.cells room_1.slots) := by
  refine MetFree.of_bodySF (plainFor_of_name pn_0) hisR ?_
  intro p e s m args below meth c s₁ Bd hml0 hP hK
  obtain ⟨rfl, hZ, hh⟩ := hP
  have hx := Bd.exec
  have hby := Bd.bytes
  have hml : c.maxLocals = 11 := hml0
  have hown : s.vm.findClass "com/example/message_buffer/messagebuffer/model/MessageOfPinLaw" = some m.cls := findClass_of_methodNamed Bd.named
  have hnm := (name_of_methodNamed Bd.named Bd.method).1
  have hret := Bd.returns
  have hlocks : meth.locks = false := Bd.notSynchronized
  have X0 : Stand p l e room_1 s m #[(.long q1), (.int p2), (.int p3)] below meth c s₁ [] 0 0 := Stand.of_body Bd
  have e0 : s₁.heap = h0 := by rw [← hh, Bd.state]; rfl
  have N0 := Fr.nil n0
  have hS0 : s.Since s.vm h0.size := (State.WarmedH.refl s).since _
  have SK0 : h0.size ≤ h0.size := Nat.le_refl _
  have pre0 : ∀ t, Steps p.tables e below (s₁.setTop (mkF m 0 #[.val (.long q1), .second, .val (.int p2), .val (.int p3), .unset, .unset, .unset, .unset, .unset, .unset, .unset] [])) t → Steps p.tables e below (s₁.setTop (entryFrame m #[(.long q1), (.int p2), (.int p3)] maxLocals)) t := fun t k => castTop (ef_0k2 m q1 p2 p3) k
  have pre502 : ∀ t, Steps p.tables e below (s₁.setTop (mkF m 9 #[.val (.long q1), .second, .val (.int p2), .val (.int p3), .val (.long (q1 &&& (4294967295 : Int64))), .second, .unset, .unset, .unset, .unset, .unset] [(.int (3 : Int32)), (.int p2)])) t → Steps p.tables e below (s₁.setTop (entryFrame m #[(.long q1), (.int p2), (.int p3)] maxLocals)) t := by
    intro t k
    refine pre0 _ ?_
    show Steps p.tables e below (s₁.setTop (mkF m 0 #[.val (.long q1), .second, .val (.int p2), .val (.int p3), .unset, .unset, .unset, .unset, .unset, .unset, .unset] [])) _
    refine XS.lloadN X0.here hx rfl (hb hby at_0) rfl ?_
    show Steps p.tables e below (s₁.setTop (mkF m 1 #[.val (.long q1), .second, .val (.int p2), .val (.int p3), .unset, .unset, .unset, .unset, .unset, .unset, .unset] [(.long q1)])) _
    refine X0.ldc2Long hx hown (mvT hZ (hw _ (List.mem_of_getElem? (i := 0) rfl))) (g := (mkF m 1 #[.val (.long q1), .second, .val (.int p2), .val (.int p3), .unset, .unset, .unset, .unset, .unset, .unset, .unset] [(.long q1)])) rfl (hb hby at_1) _ ?_
    show Steps p.tables e below (s₁.setTop (mkF m 4 #[.val (.long q1), .second, .val (.int p2), .val (.int p3), .unset, .unset, .unset, .unset, .unset, .unset, .unset] [(.long (4294967295 : Int64)), (.long q1)])) _
    refine XS.land X0.here hx rfl (hb hby at_4) rfl ?_
    show Steps p.tables e below (s₁.setTop (mkF m 5 #[.val (.long q1), .second, .val (.int p2), .val (.int p3), .unset, .unset, .unset, .unset, .unset, .unset, .unset] [(.long (q1 &&& (4294967295 : Int64)))])) _
    refine XS.lstore X0.here hx rfl (hb hby at_5) rfl (l' := #[.val (.long q1), .second, .val (.int p2), .val (.int p3), .val (.long (q1 &&& (4294967295 : Int64))), .second, .unset, .unset, .unset, .unset, .unset]) rfl ?_
    show Steps p.tables e below (s₁.setTop (mkF m 7 #[.val (.long q1), .second, .val (.int p2), .val (.int p3), .val (.long (q1 &&& (4294967295 : Int64))), .second, .unset, .unset, .unset, .unset, .unset] [])) _
    refine XS.iloadN X0.here hx rfl (hb hby at_7) rfl ?_
    show Steps p.tables e below (s₁.setTop (mkF m 8 #[.val (.long q1), .second, .val (.int p2), .val (.int p3), .val (.long (q1 &&& (4294967295 : Int64))), .second, .unset, .unset, .unset, .unset, .unset] [(.int p2)])) _
    refine XS.iconst X0.here hx rfl (hb hby at_8) ?_
    exact k
  have pre503 : ∀ t, Steps p.tables e below (s₁.setTop (mkF m 10 #[.val (.long q1), .second, .val (.int p2), .val (.int p3), .val (.long (q1 &&& (4294967295 : Int64))), .second, .unset, .unset, .unset, .unset, .unset] [(.int (2 : Int32))])) t → Steps p.tables e below (s₁.setTop (entryFrame m #[(.long q1), (.int p2), (.int p3)] maxLocals)) t := by
    intro t k
    refine pre502 _ ?_
    show Steps p.tables e below (s₁.setTop (mkF m 9 #[.val (.long q1), .second, .val (.int p2), .val (.int p3), .val (.long (q1 &&& (4294967295 : Int64))), .second, .unset, .unset, .unset, .unset, .unset] [(.int (3 : Int32)), (.int p2)])) _
    refine XS.iand X0.here hx rfl (hb hby at_9) rfl ?_
    show Steps p.tables e below (s₁.setTop (mkF m 10 #[.val (.long q1), .second, .val (.int p2), .val (.int p3), .val (.long (q1 &&& (4294967295 : Int64))), .second, .unset, .unset, .unset, .unset, .unset] [(.int (p2 &&& (3 : Int32)))])) _
    rw [hL]
    exact k
  have pre504 : ∀ t, Steps p.tables e below (s₁.setTop (mkF m 14 #[.val (.long q1), .second, .val (.int p2), .val (.int p3), .val (.long (q1 &&& (4294967295 : Int64))), .second, .val (.int (2 : Int32)), .unset, .unset, .unset, .unset] [(.int (2 : Int32))])) t → Steps p.tables e below (s₁.setTop (entryFrame m #[(.long q1), (.int p2), (.int p3)] maxLocals)) t := by
    intro t k
    refine pre503 _ ?_
    show Steps p.tables e below (s₁.setTop (mkF m 10 #[.val (.long q1), .second, .val (.int p2), .val (.int p3), .val (.long (q1 &&& (4294967295 : Int64))), .second, .unset, .unset, .unset, .unset, .unset] [(.int (2 : Int32))])) _
    refine XS.istore X0.here hx rfl (hb hby at_10) rfl (l' := #[.val (.long q1), .second, .val (.int p2), .val (.int p3), .val (.long (q1 &&& (4294967295 : Int64))), .second, .val (.int (2 : Int32)), .unset, .unset, .unset, .unset]) rfl ?_
    show Steps p.tables e below (s₁.setTop (mkF m 12 #[.val (.long q1), .second, .val (.int p2), .val (.int p3), .val (.long (q1 &&& (4294967295 : Int64))), .second, .val (.int (2 : Int32)), .unset, .unset, .unset, .unset] [])) _
    refine XS.iload X0.here hx rfl (hb hby at_12) rfl ?_
    exact k
  obtain ⟨T505, h505, k505, X505, e505, E505, A505, Ex505, st505⟩ := newPE X0 hx hZ (hw _ (List.mem_of_getElem? (i := 1) rfl)) e0 (g := (mkF m 14 #[.val (.long q1), .second, .val (.int p2), .val (.int p3), .val (.long (q1 &&& (4294967295 : Int64))), .second, .val (.int (2 : Int32)), .unset, .unset, .unset, .unset] [(.int (2 : Int32))])) rfl (hb hby at_14) rfl (by decide) (cap := 2) (by decide) (by decide) (by decide) (by decide) (ad := "[B") (by decide)
  obtain ⟨b505, g505⟩ : ∃ z, z = h0.size := ⟨_, rfl⟩
  rw [← g505] at A505 Ex505 st505
  have g_b505 : n0 ≤ b505 := Nat.le_trans Z0 (Nat.le_of_eq g505.symm)
  have O506 := O0.ext E505
  have Z507 : n0 ≤ h505.size := Nat.le_trans Z0 E505.1
  have K508 := Nat.le_trans SK0 E505.1
  have V505 : Arv Z h505 b505 k505 .byte (2 : Int32) [(.int (0 : Int32)), (.int (0 : Int32))] (.int (0 : Int32)) := (Arv.new A505 (by decide)).pad (pad_rep [] (.int (0 : Int32)) 2)
  have pre509 : ∀ t, Steps p.tables e below (T505.setTop (mkF m 16 #[.val (.long q1), .second, .val (.int p2), .val (.int p3), .val (.long (q1 &&& (4294967295 : Int64))), .second, .val (.int (2 : Int32)), .unset, .unset, .unset, .unset] [(.ref b505)])) t → Steps p.tables e below (s₁.setTop (entryFrame m #[(.long q1), (.int p2), (.int p3)] maxLocals)) t := by
    intro t k
    refine pre504 _ ?_
    show Steps p.tables e below (s₁.setTop (mkF m 14 #[.val (.long q1), .second, .val (.int p2), .val (.int p3), .val (.long (q1 &&& (4294967295 : Int64))), .second, .val (.int (2 : Int32)), .unset, .unset, .unset, .unset] [(.int (2 : Int32))])) _
    refine st505 _ ?_
    exact k
  have pre510 : ∀ t, Steps p.tables e below (T505.setTop (mkF m 20 #[.val (.long q1), .second, .val (.int p2), .val (.int p3), .val (.long (q1 &&& (4294967295 : Int64))), .second, .val (.int (2 : Int32)), .val (.ref b505), .unset, .unset, .unset] [(.int (2 : Int32))])) t → Steps p.tables e below (s₁.setTop (entryFrame m #[(.long q1), (.int p2), (.int p3)] maxLocals)) t := by
    intro t k
    refine pre509 _ ?_
    show Steps p.tables e below (T505.setTop (mkF m 16 #[.val (.long q1), .second, .val (.int p2), .val (.int p3), .val (.long (q1 &&& (4294967295 : Int64))), .second, .val (.int (2 : Int32)), .unset, .unset, .unset, .unset] [(.ref b505)])) _
    refine XS.astore X505.here hx rfl (hb hby at_16) rfl rfl (l' := #[.val (.long q1), .second, .val (.int p2), .val (.int p3), .val (.long (q1 &&& (4294967295 : Int64))), .second, .val (.int (2 : Int32)), .val (.ref b505), .unset, .unset, .unset]) rfl ?_
    show Steps p.tables e below (T505.setTop (mkF m 18 #[.val (.long q1), .second, .val (.int p2), .val (.int p3), .val (.long (q1 &&& (4294967295 : Int64))), .second, .val (.int (2 : Int32)), .val (.ref b505), .unset, .unset, .unset] [])) _
    refine XS.iload X505.here hx rfl (hb hby at_18) rfl ?_
    exact k
  obtain ⟨T511, h511, k511, X511, e511, E511, A511, Ex511, st511⟩ := newPE X505 hx hZ (hw _ (List.mem_of_getElem? (i := 1) rfl)) e505 (g := (mkF m 20 #[.val (.long q1), .second, .val (.int p2), .val (.int p3), .val (.long (q1 &&& (4294967295 : Int64))), .second, .val (.int (2 : Int32)), .val (.ref b505), .unset, .unset, .unset] [(.int (2 : Int32))])) rfl (hb hby at_20) rfl (by decide) (cap := 2) (by decide) (by decide) (by decide) (by decide) (ad := "[B") (by decide)
  obtain ⟨b511, g511⟩ : ∃ z, z = h505.size := ⟨_, rfl⟩
  rw [← g511] at A511 Ex511 st511
  have g_b511 : n0 ≤ b511 := Nat.le_trans Z507 (Nat.le_of_eq g511.symm)
  have ne_b505_b511 : b505 ≠ b511 := Nat.ne_of_lt (Nat.lt_of_lt_of_le V505.lt (Nat.le_of_eq g511.symm))
  have O512 := O506.ext E511
  have Z513 : n0 ≤ h511.size := Nat.le_trans Z507 E511.1
  have K514 := Nat.le_trans K508 E511.1
  have V511 : Arv Z h511 b511 k511 .byte (2 : Int32) [(.int (0 : Int32)), (.int (0 : Int32))] (.int (0 : Int32)) := (Arv.new A511 (by decide)).pad (pad_rep [] (.int (0 : Int32)) 2)
  have pre515 : ∀ t, Steps p.tables e below (T511.setTop (mkF m 22 #[.val (.long q1), .second, .val (.int p2), .val (.int p3), .val (.long (q1 &&& (4294967295 : Int64))), .second, .val (.int (2 : Int32)), .val (.ref b505), .unset, .unset, .unset] [(.ref b511)])) t → Steps p.tables e below (s₁.setTop (entryFrame m #[(.long q1), (.int p2), (.int p3)] maxLocals)) t := by
    intro t k
    refine pre510 _ ?_
    show Steps p.tables e below (T505.setTop (mkF m 20 #[.val (.long q1), .second, .val (.int p2), .val (.int p3), .val (.long (q1 &&& (4294967295 : Int64))), .second, .val (.int (2 : Int32)), .val (.ref b505), .unset, .unset, .unset] [(.int (2 : Int32))])) _
    refine st511 _ ?_
    exact k
  have pre516 : ∀ t, Steps p.tables e below (T511.setTop (mkF m 26 #[.val (.long q1), .second, .val (.int p2), .val (.int p3), .val (.long (q1 &&& (4294967295 : Int64))), .second, .val (.int (2 : Int32)), .val (.ref b505), .val (.ref b511), .unset, .unset] [(.int (2 : Int32))])) t → Steps p.tables e below (s₁.setTop (entryFrame m #[(.long q1), (.int p2), (.int p3)] maxLocals)) t := by
    intro t k
    refine pre515 _ ?_
    show Steps p.tables e below (T511.setTop (mkF m 22 #[.val (.long q1), .second, .val (.int p2), .val (.int p3), .val (.long (q1 &&& (4294967295 : Int64))), .second, .val (.int (2 : Int32)), .val (.ref b505), .unset, .unset, .unset] [(.ref b511)])) _
    refine XS.astore X511.here hx rfl (hb hby at_22) rfl rfl (l' := #[.val (.long q1), .second, .val (.int p2), .val (.int p3), .val (.long (q1 &&& (4294967295 : Int64))), .second, .val (.int (2 : Int32)), .val (.ref b505), .val (.ref b511), .unset, .unset]) rfl ?_
    show Steps p.tables e below (T511.setTop (mkF m 24 #[.val (.long q1), .second, .val (.int p2), .val (.int p3), .val (.long (q1 &&& (4294967295 : Int64))), .second, .val (.int (2 : Int32)), .val (.ref b505), .val (.ref b511), .unset, .unset] [])) _
    refine XS.iload X511.here hx rfl (hb hby at_24) rfl ?_
    exact k
  have pre518 : ∀ t, Steps p.tables e below (T511.setTop (mkF m 29 #[.val (.long q1), .second, .val (.int p2), .val (.int p3), .val (.long (q1 &&& (4294967295 : Int64))), .second, .val (.int (2 : Int32)), .val (.ref b505), .val (.ref b511), .unset, .unset] [])) t → Steps p.tables e below (s₁.setTop (entryFrame m #[(.long q1), (.int p2), (.int p3)] maxLocals)) t := by
    intro t k
    refine pre516 _ ?_
    show Steps p.tables e below (T511.setTop (mkF m 26 #[.val (.long q1), .second, .val (.int p2), .val (.int p3), .val (.long (q1 &&& (4294967295 : Int64))), .second, .val (.int (2 : Int32)), .val (.ref b505), .val (.ref b511), .unset, .unset] [(.int (2 : Int32))])) _
    refine XS.ifNo X511.here hx rfl (hb hby at_26) rfl ((if0 _ _).trans (tlt (by decide : (0 : Int32) < (2 : Int32))).2.2.2) ?_
    exact k
  have pre519 : ∀ t, Steps p.tables e below (T511.setTop (mkF m 34 #[.val (.long q1), .second, .val (.int p2), .val (.int p3), .val (.long (q1 &&& (4294967295 : Int64))), .second, .val (.int (2 : Int32)), .val (.ref b505), .val (.ref b511), .unset, .unset] [(.int (p3.toInt8.toInt32)), (.int (0 : Int32)), (.ref b505)])) t → Steps p.tables e below (s₁.setTop (entryFrame m #[(.long q1), (.int p2), (.int p3)] maxLocals)) t := by
    intro t k
    refine pre518 _ ?_
    show Steps p.tables e below (T511.setTop (mkF m 29 #[.val (.long q1), .second, .val (.int p2), .val (.int p3), .val (.long (q1 &&& (4294967295 : Int64))), .second, .val (.int (2 : Int32)), .val (.ref b505), .val (.ref b511), .unset, .unset] [])) _
    refine XS.aload X511.here hx rfl (hb hby at_29) rfl rfl ?_
    show Steps p.tables e below (T511.setTop (mkF m 31 #[.val (.long q1), .second, .val (.int p2), .val (.int p3), .val (.long (q1 &&& (4294967295 : Int64))), .second, .val (.int (2 : Int32)), .val (.ref b505), .val (.ref b511), .unset, .unset] [(.ref b505)])) _
    refine XS.iconst X511.here hx rfl (hb hby at_31) ?_
    show Steps p.tables e below (T511.setTop (mkF m 32 #[.val (.long q1), .second, .val (.int p2), .val (.int p3), .val (.long (q1 &&& (4294967295 : Int64))), .second, .val (.int (2 : Int32)), .val (.ref b505), .val (.ref b511), .unset, .unset] [(.int (0 : Int32)), (.ref b505)])) _
    refine XS.iloadN X511.here hx rfl (hb hby at_32) rfl ?_
    show Steps p.tables e below (T511.setTop (mkF m 33 #[.val (.long q1), .second, .val (.int p2), .val (.int p3), .val (.long (q1 &&& (4294967295 : Int64))), .second, .val (.int (2 : Int32)), .val (.ref b505), .val (.ref b511), .unset, .unset] [(.int p3), (.int (0 : Int32)), (.ref b505)])) _
    refine XS.i2b X511.here hx rfl (hb hby at_33) rfl ?_
    exact k
  obtain ⟨cl520, Ar520, q520, S520, N_520, H520, G520⟩ := (V505.ext E511)
  obtain ⟨T520, h520, X520, e520, W520, st520⟩ := stB X511 hx hZ e511 Ar520 (j := (0 : Int32)) (inb_of S520 ⟨by decide, by decide⟩) (g := (mkF m 34 #[.val (.long q1), .second, .val (.int p2), .val (.int p3), .val (.long (q1 &&& (4294967295 : Int64))), .second, .val (.int (2 : Int32)), .val (.ref b505), .val (.ref b511), .unset, .unset] [(.int (p3.toInt8.toInt32)), (.int (0 : Int32)), (.ref b505)])) rfl rfl (hb hby at_34)
  have V520 : Arv Z h520 b505 k505 .byte (2 : Int32) [(.int (nar .byte (p3.toInt8.toInt32))), (.int (0 : Int32))] (.int (0 : Int32)) := Arv.set Ar520 q520 S520 N_520 H520 G520 (fits_nar_byte _) W520 0 rfl (Nat.le_of_ble_eq_true rfl)
  have O521 := O512.wr W520 g_b505
  have Z522 : n0 ≤ h520.size := Nat.le_trans Z513 (Keep.of_wr W520).1
  have K523 := Nat.le_trans K514 (Keep.of_wr W520).1
  have NN520 := Fr.snoc X520 N0 g_b505
  have pre524 : ∀ t, Steps p.tables e below (T520.setTop (mkF m 35 #[.val (.long q1), .second, .val (.int p2), .val (.int p3), .val (.long (q1 &&& (4294967295 : Int64))), .second, .val (.int (2 : Int32)), .val (.ref b505), .val (.ref b511), .unset, .unset] [])) t → Steps p.tables e below (s₁.setTop (entryFrame m #[(.long q1), (.int p2), (.int p3)] maxLocals)) t := by
    intro t k
    refine pre519 _ ?_
    show Steps p.tables e below (T511.setTop (mkF m 34 #[.val (.long q1), .second, .val (.int p2), .val (.int p3), .val (.long (q1 &&& (4294967295 : Int64))), .second, .val (.int (2 : Int32)), .val (.ref b505), .val (.ref b511), .unset, .unset] [(.int (p3.toInt8.toInt32)), (.int (0 : Int32)), (.ref b505)])) _
    refine st520 _ ?_
    exact k
  have pre525 : ∀ t, Steps p.tables e below (T520.setTop (mkF m 40 #[.val (.long q1), .second, .val (.int p2), .val (.int p3), .val (.long (q1 &&& (4294967295 : Int64))), .second, .val (.int (2 : Int32)), .val (.ref b505), .val (.ref b511), .unset, .unset] [(.int (p3.toInt8.toInt32)), (.int (0 : Int32)), (.ref b511)])) t → Steps p.tables e below (s₁.setTop (entryFrame m #[(.long q1), (.int p2), (.int p3)] maxLocals)) t := by
    intro t k
    refine pre524 _ ?_
    show Steps p.tables e below (T520.setTop (mkF m 35 #[.val (.long q1), .second, .val (.int p2), .val (.int p3), .val (.long (q1 &&& (4294967295 : Int64))), .second, .val (.int (2 : Int32)), .val (.ref b505), .val (.ref b511), .unset, .unset] [])) _
    refine XS.aload X520.here hx rfl (hb hby at_35) rfl rfl ?_
    show Steps p.tables e below (T520.setTop (mkF m 37 #[.val (.long q1), .second, .val (.int p2), .val (.int p3), .val (.long (q1 &&& (4294967295 : Int64))), .second, .val (.int (2 : Int32)), .val (.ref b505), .val (.ref b511), .unset, .unset] [(.ref b511)])) _
    refine XS.iconst X520.here hx rfl (hb hby at_37) ?_
    show Steps p.tables e below (T520.setTop (mkF m 38 #[.val (.long q1), .second, .val (.int p2), .val (.int p3), .val (.long (q1 &&& (4294967295 : Int64))), .second, .val (.int (2 : Int32)), .val (.ref b505), .val (.ref b511), .unset, .unset] [(.int (0 : Int32)), (.ref b511)])) _
    refine XS.iloadN X520.here hx rfl (hb hby at_38) rfl ?_
    show Steps p.tables e below (T520.setTop (mkF m 39 #[.val (.long q1), .second, .val (.int p2), .val (.int p3), .val (.long (q1 &&& (4294967295 : Int64))), .second, .val (.int (2 : Int32)), .val (.ref b505), .val (.ref b511), .unset, .unset] [(.int p3), (.int (0 : Int32)), (.ref b511)])) _
    refine XS.i2b X520.here hx rfl (hb hby at_39) rfl ?_
    exact k
  obtain ⟨cl526, Ar526, q526, S526, N_526, H526, G526⟩ := (V511.other W520 (Ne.symm ne_b505_b511))
  obtain ⟨T526, h526, X526, e526, W526, st526⟩ := stB X520 hx hZ e520 Ar526 (j := (0 : Int32)) (inb_of S526 ⟨by decide, by decide⟩) (g := (mkF m 40 #[.val (.long q1), .second, .val (.int p2), .val (.int p3), .val (.long (q1 &&& (4294967295 : Int64))), .second, .val (.int (2 : Int32)), .val (.ref b505), .val (.ref b511), .unset, .unset] [(.int (p3.toInt8.toInt32)), (.int (0 : Int32)), (.ref b511)])) rfl rfl (hb hby at_40)
  have V526 : Arv Z h526 b511 k511 .byte (2 : Int32) [(.int (nar .byte (p3.toInt8.toInt32))), (.int (0 : Int32))] (.int (0 : Int32)) := Arv.set Ar526 q526 S526 N_526 H526 G526 (fits_nar_byte _) W526 0 rfl (Nat.le_of_ble_eq_true rfl)
  have O527 := O521.wr W526 g_b511
  have Z528 : n0 ≤ h526.size := Nat.le_trans Z522 (Keep.of_wr W526).1
  have K529 := Nat.le_trans K523 (Keep.of_wr W526).1
  have NN526 := Fr.snoc X526 NN520 g_b511
  have pre530 : ∀ t, Steps p.tables e below (T526.setTop (mkF m 41 #[.val (.long q1), .second, .val (.int p2), .val (.int p3), .val (.long (q1 &&& (4294967295 : Int64))), .second, .val (.int (2 : Int32)), .val (.ref b505), .val (.ref b511), .unset, .unset] [])) t → Steps p.tables e below (s₁.setTop (entryFrame m #[(.long q1), (.int p2), (.int p3)] maxLocals)) t := by
    intro t k
    refine pre525 _ ?_
    show Steps p.tables e below (T520.setTop (mkF m 40 #[.val (.long q1), .second, .val (.int p2), .val (.int p3), .val (.long (q1 &&& (4294967295 : Int64))), .second, .val (.int (2 : Int32)), .val (.ref b505), .val (.ref b511), .unset, .unset] [(.int (p3.toInt8.toInt32)), (.int (0 : Int32)), (.ref b511)])) _
    refine st526 _ ?_
    exact k
  have pre531 : ∀ t, Steps p.tables e below (T526.setTop (mkF m 44 #[.val (.long q1), .second, .val (.int p2), .val (.int p3), .val (.long (q1 &&& (4294967295 : Int64))), .second, .val (.int (2 : Int32)), .val (.ref b505), .val (.ref b511), .unset, .unset] [(.int (1 : Int32)), (.int (2 : Int32))])) t → Steps p.tables e below (s₁.setTop (entryFrame m #[(.long q1), (.int p2), (.int p3)] maxLocals)) t := by
    intro t k
    refine pre530 _ ?_
    show Steps p.tables e below (T526.setTop (mkF m 41 #[.val (.long q1), .second, .val (.int p2), .val (.int p3), .val (.long (q1 &&& (4294967295 : Int64))), .second, .val (.int (2 : Int32)), .val (.ref b505), .val (.ref b511), .unset, .unset] [])) _
    refine XS.iload X526.here hx rfl (hb hby at_41) rfl ?_
    show Steps p.tables e below (T526.setTop (mkF m 43 #[.val (.long q1), .second, .val (.int p2), .val (.int p3), .val (.long (q1 &&& (4294967295 : Int64))), .second, .val (.int (2 : Int32)), .val (.ref b505), .val (.ref b511), .unset, .unset] [(.int (2 : Int32))])) _
    refine XS.iconst X526.here hx rfl (hb hby at_43) ?_
    exact k
  have pre533 : ∀ t, Steps p.tables e below (T526.setTop (mkF m 47 #[.val (.long q1), .second, .val (.int p2), .val (.int p3), .val (.long (q1 &&& (4294967295 : Int64))), .second, .val (.int (2 : Int32)), .val (.ref b505), .val (.ref b511), .unset, .unset] [])) t → Steps p.tables e below (s₁.setTop (entryFrame m #[(.long q1), (.int p2), (.int p3)] maxLocals)) t := by
    intro t k
    refine pre531 _ ?_
    show Steps p.tables e below (T526.setTop (mkF m 44 #[.val (.long q1), .second, .val (.int p2), .val (.int p3), .val (.long (q1 &&& (4294967295 : Int64))), .second, .val (.int (2 : Int32)), .val (.ref b505), .val (.ref b511), .unset, .unset] [(.int (1 : Int32)), (.int (2 : Int32))])) _
    refine XS.icmpNo X526.here hx rfl (hb hby at_44) rfl (tlt (by decide : (1 : Int32) < (2 : Int32))).2.2.2 ?_
    exact k
  have pre534 : ∀ t, Steps p.tables e below (T526.setTop (mkF m 55 #[.val (.long q1), .second, .val (.int p2), .val (.int p3), .val (.long (q1 &&& (4294967295 : Int64))), .second, .val (.int (2 : Int32)), .val (.ref b505), .val (.ref b511), .unset, .unset] [(.int ((p3 >>> ((8 : Int32) &&& 31)).toInt8.toInt32)), (.int (1 : Int32)), (.ref b505)])) t → Steps p.tables e below (s₁.setTop (entryFrame m #[(.long q1), (.int p2), (.int p3)] maxLocals)) t := by
    intro t k
    refine pre533 _ ?_
    show Steps p.tables e below (T526.setTop (mkF m 47 #[.val (.long q1), .second, .val (.int p2), .val (.int p3), .val (.long (q1 &&& (4294967295 : Int64))), .second, .val (.int (2 : Int32)), .val (.ref b505), .val (.ref b511), .unset, .unset] [])) _
    refine XS.aload X526.here hx rfl (hb hby at_47) rfl rfl ?_
    show Steps p.tables e below (T526.setTop (mkF m 49 #[.val (.long q1), .second, .val (.int p2), .val (.int p3), .val (.long (q1 &&& (4294967295 : Int64))), .second, .val (.int (2 : Int32)), .val (.ref b505), .val (.ref b511), .unset, .unset] [(.ref b505)])) _
    refine XS.iconst X526.here hx rfl (hb hby at_49) ?_
    show Steps p.tables e below (T526.setTop (mkF m 50 #[.val (.long q1), .second, .val (.int p2), .val (.int p3), .val (.long (q1 &&& (4294967295 : Int64))), .second, .val (.int (2 : Int32)), .val (.ref b505), .val (.ref b511), .unset, .unset] [(.int (1 : Int32)), (.ref b505)])) _
    refine XS.iloadN X526.here hx rfl (hb hby at_50) rfl ?_
    show Steps p.tables e below (T526.setTop (mkF m 51 #[.val (.long q1), .second, .val (.int p2), .val (.int p3), .val (.long (q1 &&& (4294967295 : Int64))), .second, .val (.int (2 : Int32)), .val (.ref b505), .val (.ref b511), .unset, .unset] [(.int p3), (.int (1 : Int32)), (.ref b505)])) _
    refine XS.bipush X526.here hx rfl (hb hby at_51) ?_
    show Steps p.tables e below (T526.setTop (mkF m 53 #[.val (.long q1), .second, .val (.int p2), .val (.int p3), .val (.long (q1 &&& (4294967295 : Int64))), .second, .val (.int (2 : Int32)), .val (.ref b505), .val (.ref b511), .unset, .unset] [(.int (8 : Int32)), (.int p3), (.int (1 : Int32)), (.ref b505)])) _
    refine XS.ishr X526.here hx rfl (hb hby at_53) rfl ?_
    show Steps p.tables e below (T526.setTop (mkF m 54 #[.val (.long q1), .second, .val (.int p2), .val (.int p3), .val (.long (q1 &&& (4294967295 : Int64))), .second, .val (.int (2 : Int32)), .val (.ref b505), .val (.ref b511), .unset, .unset] [(.int (p3 >>> ((8 : Int32) &&& 31))), (.int (1 : Int32)), (.ref b505)])) _
    refine XS.i2b X526.here hx rfl (hb hby at_54) rfl ?_
    exact k
  obtain ⟨cl535, Ar535, q535, S535, N_535, H535, G535⟩ := (V520.other W526 ne_b505_b511)
  obtain ⟨T535, h535, X535, e535, W535, st535⟩ := stB X526 hx hZ e526 Ar535 (j := (1 : Int32)) (inb_of S535 ⟨by decide, by decide⟩) (g := (mkF m 55 #[.val (.long q1), .second, .val (.int p2), .val (.int p3), .val (.long (q1 &&& (4294967295 : Int64))), .second, .val (.int (2 : Int32)), .val (.ref b505), .val (.ref b511), .unset, .unset] [(.int ((p3 >>> ((8 : Int32) &&& 31)).toInt8.toInt32)), (.int (1 : Int32)), (.ref b505)])) rfl rfl (hb hby at_55)
  have V535 : Arv Z h535 b505 k505 .byte (2 : Int32) [(.int (nar .byte (p3.toInt8.toInt32))), (.int (nar .byte ((p3 >>> ((8 : Int32) &&& 31)).toInt8.toInt32)))] (.int (0 : Int32)) := Arv.set Ar535 q535 S535 N_535 H535 G535 (fits_nar_byte _) W535 1 rfl (Nat.le_of_ble_eq_true rfl)
  have O536 := O527.wr W535 g_b505
  have Z537 : n0 ≤ h535.size := Nat.le_trans Z528 (Keep.of_wr W535).1
  have K538 := Nat.le_trans K529 (Keep.of_wr W535).1
  have NN535 := Fr.snoc X535 NN526 g_b505
  have pre539 : ∀ t, Steps p.tables e below (T535.setTop (mkF m 56 #[.val (.long q1), .second, .val (.int p2), .val (.int p3), .val (.long (q1 &&& (4294967295 : Int64))), .second, .val (.int (2 : Int32)), .val (.ref b505), .val (.ref b511), .unset, .unset] [])) t → Steps p.tables e below (s₁.setTop (entryFrame m #[(.long q1), (.int p2), (.int p3)] maxLocals)) t := by
    intro t k
    refine pre534 _ ?_
    show Steps p.tables e below (T526.setTop (mkF m 55 #[.val (.long q1), .second, .val (.int p2), .val (.int p3), .val (.long (q1 &&& (4294967295 : Int64))), .second, .val (.int (2 : Int32)), .val (.ref b505), .val (.ref b511), .unset, .unset] [(.int ((p3 >>> ((8 : Int32) &&& 31)).toInt8.toInt32)), (.int (1 : Int32)), (.ref b505)])) _
    refine st535 _ ?_
    exact k
  have pre540 : ∀ t, Steps p.tables e below (T535.setTop (mkF m 64 #[.val (.long q1), .second, .val (.int p2), .val (.int p3), .val (.long (q1 &&& (4294967295 : Int64))), .second, .val (.int (2 : Int32)), .val (.ref b505), .val (.ref b511), .unset, .unset] [(.int ((p3 >>> ((8 : Int32) &&& 31)).toInt8.toInt32)), (.int (1 : Int32)), (.ref b511)])) t → Steps p.tables e below (s₁.setTop (entryFrame m #[(.long q1), (.int p2), (.int p3)] maxLocals)) t := by
    intro t k
    refine pre539 _ ?_
    show Steps p.tables e below (T535.setTop (mkF m 56 #[.val (.long q1), .second, .val (.int p2), .val (.int p3), .val (.long (q1 &&& (4294967295 : Int64))), .second, .val (.int (2 : Int32)), .val (.ref b505), .val (.ref b511), .unset, .unset] [])) _
    refine XS.aload X535.here hx rfl (hb hby at_56) rfl rfl ?_
    show Steps p.tables e below (T535.setTop (mkF m 58 #[.val (.long q1), .second, .val (.int p2), .val (.int p3), .val (.long (q1 &&& (4294967295 : Int64))), .second, .val (.int (2 : Int32)), .val (.ref b505), .val (.ref b511), .unset, .unset] [(.ref b511)])) _
    refine XS.iconst X535.here hx rfl (hb hby at_58) ?_
    show Steps p.tables e below (T535.setTop (mkF m 59 #[.val (.long q1), .second, .val (.int p2), .val (.int p3), .val (.long (q1 &&& (4294967295 : Int64))), .second, .val (.int (2 : Int32)), .val (.ref b505), .val (.ref b511), .unset, .unset] [(.int (1 : Int32)), (.ref b511)])) _
    refine XS.iloadN X535.here hx rfl (hb hby at_59) rfl ?_
    show Steps p.tables e below (T535.setTop (mkF m 60 #[.val (.long q1), .second, .val (.int p2), .val (.int p3), .val (.long (q1 &&& (4294967295 : Int64))), .second, .val (.int (2 : Int32)), .val (.ref b505), .val (.ref b511), .unset, .unset] [(.int p3), (.int (1 : Int32)), (.ref b511)])) _
    refine XS.bipush X535.here hx rfl (hb hby at_60) ?_
    show Steps p.tables e below (T535.setTop (mkF m 62 #[.val (.long q1), .second, .val (.int p2), .val (.int p3), .val (.long (q1 &&& (4294967295 : Int64))), .second, .val (.int (2 : Int32)), .val (.ref b505), .val (.ref b511), .unset, .unset] [(.int (8 : Int32)), (.int p3), (.int (1 : Int32)), (.ref b511)])) _
    refine XS.ishr X535.here hx rfl (hb hby at_62) rfl ?_
    show Steps p.tables e below (T535.setTop (mkF m 63 #[.val (.long q1), .second, .val (.int p2), .val (.int p3), .val (.long (q1 &&& (4294967295 : Int64))), .second, .val (.int (2 : Int32)), .val (.ref b505), .val (.ref b511), .unset, .unset] [(.int (p3 >>> ((8 : Int32) &&& 31))), (.int (1 : Int32)), (.ref b511)])) _
    refine XS.i2b X535.here hx rfl (hb hby at_63) rfl ?_
    exact k
  obtain ⟨cl541, Ar541, q541, S541, N_541, H541, G541⟩ := (V526.other W535 (Ne.symm ne_b505_b511))
  obtain ⟨T541, h541, X541, e541, W541, st541⟩ := stB X535 hx hZ e535 Ar541 (j := (1 : Int32)) (inb_of S541 ⟨by decide, by decide⟩) (g := (mkF m 64 #[.val (.long q1), .second, .val (.int p2), .val (.int p3), .val (.long (q1 &&& (4294967295 : Int64))), .second, .val (.int (2 : Int32)), .val (.ref b505), .val (.ref b511), .unset, .unset] [(.int ((p3 >>> ((8 : Int32) &&& 31)).toInt8.toInt32)), (.int (1 : Int32)), (.ref b511)])) rfl rfl (hb hby at_64)
  have V541 : Arv Z h541 b511 k511 .byte (2 : Int32) [(.int (nar .byte (p3.toInt8.toInt32))), (.int (nar .byte ((p3 >>> ((8 : Int32) &&& 31)).toInt8.toInt32)))] (.int (0 : Int32)) := Arv.set Ar541 q541 S541 N_541 H541 G541 (fits_nar_byte _) W541 1 rfl (Nat.le_of_ble_eq_true rfl)
  have O542 := O536.wr W541 g_b511
  have Z543 : n0 ≤ h541.size := Nat.le_trans Z537 (Keep.of_wr W541).1
  have K544 := Nat.le_trans K538 (Keep.of_wr W541).1
  have NN541 := Fr.snoc X541 NN535 g_b511
  have pre545 : ∀ t, Steps p.tables e below (T541.setTop (mkF m 65 #[.val (.long q1), .second, .val (.int p2), .val (.int p3), .val (.long (q1 &&& (4294967295 : Int64))), .second, .val (.int (2 : Int32)), .val (.ref b505), .val (.ref b511), .unset, .unset] [])) t → Steps p.tables e below (s₁.setTop (entryFrame m #[(.long q1), (.int p2), (.int p3)] maxLocals)) t := by
    intro t k
    refine pre540 _ ?_
    show Steps p.tables e below (T535.setTop (mkF m 64 #[.val (.long q1), .second, .val (.int p2), .val (.int p3), .val (.long (q1 &&& (4294967295 : Int64))), .second, .val (.int (2 : Int32)), .val (.ref b505), .val (.ref b511), .unset, .unset] [(.int ((p3 >>> ((8 : Int32) &&& 31)).toInt8.toInt32)), (.int (1 : Int32)), (.ref b511)])) _
    refine st541 _ ?_
    exact k
  have pre546 : ∀ t, Steps p.tables e below (T541.setTop (mkF m 68 #[.val (.long q1), .second, .val (.int p2), .val (.int p3), .val (.long (q1 &&& (4294967295 : Int64))), .second, .val (.int (2 : Int32)), .val (.ref b505), .val (.ref b511), .unset, .unset] [(.int (2 : Int32)), (.int (2 : Int32))])) t → Steps p.tables e below (s₁.setTop (entryFrame m #[(.long q1), (.int p2), (.int p3)] maxLocals)) t := by
    intro t k
    refine pre545 _ ?_
    show Steps p.tables e below (T541.setTop (mkF m 65 #[.val (.long q1), .second, .val (.int p2), .val (.int p3), .val (.long (q1 &&& (4294967295 : Int64))), .second, .val (.int (2 : Int32)), .val (.ref b505), .val (.ref b511), .unset, .unset] [])) _
    refine XS.iload X541.here hx rfl (hb hby at_65) rfl ?_
    show Steps p.tables e below (T541.setTop (mkF m 67 #[.val (.long q1), .second, .val (.int p2), .val (.int p3), .val (.long (q1 &&& (4294967295 : Int64))), .second, .val (.int (2 : Int32)), .val (.ref b505), .val (.ref b511), .unset, .unset] [(.int (2 : Int32))])) _
    refine XS.iconst X541.here hx rfl (hb hby at_67) ?_
    exact k
  have pre548 : ∀ t, Steps p.tables e below (T541.setTop (mkF m 89 #[.val (.long q1), .second, .val (.int p2), .val (.int p3), .val (.long (q1 &&& (4294967295 : Int64))), .second, .val (.int (2 : Int32)), .val (.ref b505), .val (.ref b511), .unset, .unset] [])) t → Steps p.tables e below (s₁.setTop (entryFrame m #[(.long q1), (.int p2), (.int p3)] maxLocals)) t := by
    intro t k
    refine pre546 _ ?_
    show Steps p.tables e below (T541.setTop (mkF m 68 #[.val (.long q1), .second, .val (.int p2), .val (.int p3), .val (.long (q1 &&& (4294967295 : Int64))), .second, .val (.int (2 : Int32)), .val (.ref b505), .val (.ref b511), .unset, .unset] [(.int (2 : Int32)), (.int (2 : Int32))])) _
    refine XS.icmpYes X541.here hx rfl (pc0 := 68) (pc' := 89) rfl (hb hby at_68) rfl (flt (by decide : ¬ ((2 : Int32) < (2 : Int32)))).2.2.2 (by decide) (by decide) ?_
    exact k
  have pre549 : ∀ t, Steps p.tables e below (T541.setTop (mkF m 93 #[.val (.long q1), .second, .val (.int p2), .val (.int p3), .val (.long (q1 &&& (4294967295 : Int64))), .second, .val (.int (2 : Int32)), .val (.ref b505), .val (.ref b511), .unset, .unset] [(.ref b511), (.long (q1 &&& (4294967295 : Int64)))])) t → Steps p.tables e below (s₁.setTop (entryFrame m #[(.long q1), (.int p2), (.int p3)] maxLocals)) t := by
    intro t k
    refine pre548 _ ?_
    show Steps p.tables e below (T541.setTop (mkF m 89 #[.val (.long q1), .second, .val (.int p2), .val (.int p3), .val (.long (q1 &&& (4294967295 : Int64))), .second, .val (.int (2 : Int32)), .val (.ref b505), .val (.ref b511), .unset, .unset] [])) _
    refine XS.lload X541.here hx rfl (hb hby at_89) rfl ?_
    show Steps p.tables e below (T541.setTop (mkF m 91 #[.val (.long q1), .second, .val (.int p2), .val (.int p3), .val (.long (q1 &&& (4294967295 : Int64))), .second, .val (.int (2 : Int32)), .val (.ref b505), .val (.ref b511), .unset, .unset] [(.long (q1 &&& (4294967295 : Int64)))])) _
    refine XS.aload X541.here hx rfl (hb hby at_91) rfl rfl ?_
    exact k
  obtain ⟨_, _, ⟨T550, L550, k550, n550⟩, -, X550, sS550, gr550, ⟨Lc550, hQ550, l550, y550, z550⟩, st550⟩ := Jvm.RoadKit.callSS X541 hx (y := (⟨"com/example/message_buffer/messagebuffer/model/Message", "adopt", "(J[B)Lcom/example/message_buffer/messagebuffer/model/Message;"⟩ : MethodName)) hown (mvT hZ (hw _ (List.mem_of_getElem? (i := 2) rfl))) (mvT hZ (hw _ (List.mem_of_getElem? (i := 3) rfl))) (mvT hZ (hw _ (List.mem_of_getElem? (i := 4) rfl))) (mvT hZ (hw _ (List.mem_of_getElem? (i := 5) rfl))) (by decide) (backOfS (W := 0) (rm1 l Z a0 hw [] (q1 &&& (4294967295 : Int64)) b511 k511 (2 : Int32) [(.int (nar .byte (p3.toInt8.toInt32))), (.int (nar .byte ((p3 >>> ((8 : Int32) &&& 31)).toInt8.toInt32)))] (.int (0 : Int32)) h541 n0 Z543 (own_rg q1).1 (own_rg q1).2 V541) hZ (hw _ (List.mem_of_getElem? (i := 5) rfl)) (hw _ (List.mem_of_getElem? (i := 4) rfl)) (by decide) (by decide)) (g := (mkF m 93 #[.val (.long q1), .second, .val (.int p2), .val (.int p3), .val (.long (q1 &&& (4294967295 : Int64))), .second, .val (.int (2 : Int32)), .val (.ref b505), .val (.ref b511), .unset, .unset] [(.ref b511), (.long (q1 &&& (4294967295 : Int64)))])) rfl (by rw [hml]; rfl) (argsL := [(.long (q1 &&& (4294967295 : Int64))), (.ref b511)]) (rest := []) (lenOf pd__J_B_Lcom_example_message_buffer_messagebuffer_model_Message_ rfl) rfl (by show 2 * 0 + _ ≤ _; exact Nat.le_of_eq rfl) (hb hby at_93) (fun _ _ => ⟨rfl, e541, (by decide : 2 + 3 ≤ _), (by decide : 4 + 24 ≤ _)⟩)
  dsimp only [Pt.U, Pt.locs, Pt.cells, Pt.slots] at X550 l550 y550 z550 st550 hQ550 sS550 gr550
  subst l550 y550 z550
  obtain ⟨r550, rfl, N550q, K550, lr550, E550, F550a, F550b, F550c, F550d⟩ := hQ550
  have N550 := Fr.app NN541 N550q
  have ne_b505_r550 : b505 ≠ r550 := Nat.ne_of_lt (Nat.lt_of_lt_of_le (V535.other W541 ne_b505_b511).lt lr550)
  have ne_b511_r550 : b511 ≠ r550 := Nat.ne_of_lt (Nat.lt_of_lt_of_le V541.lt lr550)
  have O551 := O542.keep K550 all0
  have Z552 : n0 ≤ T550.heap.size := Nat.le_trans Z543 K550.1
  have K553 := Nat.le_trans K544 K550.1
  have hS550 := foldS (s := s) (vm0 := s.vm) hS0 (by rw [e541]; exact K544) sS550 gr550
  have hZ550 : Z.Warmed39 (s.setVm T550.vm).vm := State.Warmed39.trans (t := s.setVm s.vm) hZ sS550.1
  have hown550 : (s.setVm T550.vm).vm.findClass "com/example/message_buffer/messagebuffer/model/MessageOfPinLaw" = some m.cls := by rw [show (s.setVm T550.vm).vm = T550.vm from rfl, sS550.1.alike.findClass]; exact hown
  have X550 : Stand p l e room_1 (s.setVm T550.vm) m _ below meth c T550 _ _ _ := X550
  have pre554 : ∀ t, Steps p.tables e below (T550.setTop (mkF m 96 #[.val (.long q1), .second, .val (.int p2), .val (.int p3), .val (.long (q1 &&& (4294967295 : Int64))), .second, .val (.int (2 : Int32)), .val (.ref b505), .val (.ref b511), .unset, .unset] [(.ref r550)])) t → Steps p.tables e below (s₁.setTop (entryFrame m #[(.long q1), (.int p2), (.int p3)] maxLocals)) t := by
    intro t k
    refine pre549 _ ?_
    show Steps p.tables e below (T541.setTop (mkF m 93 #[.val (.long q1), .second, .val (.int p2), .val (.int p3), .val (.long (q1 &&& (4294967295 : Int64))), .second, .val (.int (2 : Int32)), .val (.ref b505), .val (.ref b511), .unset, .unset] [(.ref b511), (.long (q1 &&& (4294967295 : Int64)))])) _
    refine st550.trans ?_
    exact k
  have pre555 : ∀ t, Steps p.tables e below (T550.setTop (mkF m 102 #[.val (.long q1), .second, .val (.int p2), .val (.int p3), .val (.long (q1 &&& (4294967295 : Int64))), .second, .val (.int (2 : Int32)), .val (.ref b505), .val (.ref b511), .val (.ref r550), .unset] [(.ref b505), (.long (q1 &&& (4294967295 : Int64)))])) t → Steps p.tables e below (s₁.setTop (entryFrame m #[(.long q1), (.int p2), (.int p3)] maxLocals)) t := by
    intro t k
    refine pre554 _ ?_
    show Steps p.tables e below (T550.setTop (mkF m 96 #[.val (.long q1), .second, .val (.int p2), .val (.int p3), .val (.long (q1 &&& (4294967295 : Int64))), .second, .val (.int (2 : Int32)), .val (.ref b505), .val (.ref b511), .unset, .unset] [(.ref r550)])) _
    refine XS.astore X550.here hx rfl (hb hby at_96) rfl rfl (l' := #[.val (.long q1), .second, .val (.int p2), .val (.int p3), .val (.long (q1 &&& (4294967295 : Int64))), .second, .val (.int (2 : Int32)), .val (.ref b505), .val (.ref b511), .val (.ref r550), .unset]) rfl ?_
    show Steps p.tables e below (T550.setTop (mkF m 98 #[.val (.long q1), .second, .val (.int p2), .val (.int p3), .val (.long (q1 &&& (4294967295 : Int64))), .second, .val (.int (2 : Int32)), .val (.ref b505), .val (.ref b511), .val (.ref r550), .unset] [])) _
    refine XS.lload X550.here hx rfl (hb hby at_98) rfl ?_
    show Steps p.tables e below (T550.setTop (mkF m 100 #[.val (.long q1), .second, .val (.int p2), .val (.int p3), .val (.long (q1 &&& (4294967295 : Int64))), .second, .val (.int (2 : Int32)), .val (.ref b505), .val (.ref b511), .val (.ref r550), .unset] [(.long (q1 &&& (4294967295 : Int64)))])) _
    refine XS.aload X550.here hx rfl (hb hby at_100) rfl rfl ?_
    exact k
  obtain ⟨_, _, ⟨T556, L556, k556, n556⟩, -, X556, sS556, gr556, ⟨Lc556, hQ556, l556, y556, z556⟩, st556⟩ := Jvm.RoadKit.callSS X550 hx (y := (⟨"com/example/message_buffer/messagebuffer/model/Message", "of", "(J[B)Lcom/example/message_buffer/messagebuffer/model/Message;"⟩ : MethodName)) hown550 (mvT hZ550 (hw _ (List.mem_of_getElem? (i := 37) rfl))) (mvT hZ550 (hw _ (List.mem_of_getElem? (i := 38) rfl))) (mvT hZ550 (hw _ (List.mem_of_getElem? (i := 4) rfl))) (mvT hZ550 (hw _ (List.mem_of_getElem? (i := 39) rfl))) (by decide) (backOfS (W := 0) (rm6 l Z a0 hw [] (q1 &&& (4294967295 : Int64)) b505 k505 (2 : Int32) [(.int (nar .byte (p3.toInt8.toInt32))), (.int (nar .byte ((p3 >>> ((8 : Int32) &&& 31)).toInt8.toInt32)))] (.int (0 : Int32)) T550.heap n0 Z552 (own_rg q1).1 (own_rg q1).2 ((V535.other W541 ne_b505_b511).keep K550 nin0) ((((((Ex505.ext E511).wr W520).wr W526).wr W535).wr W541).keep K550) (by decide)) hZ550 (hw _ (List.mem_of_getElem? (i := 39) rfl)) (hw _ (List.mem_of_getElem? (i := 4) rfl)) (by decide) (by decide)) (g := (mkF m 102 #[.val (.long q1), .second, .val (.int p2), .val (.int p3), .val (.long (q1 &&& (4294967295 : Int64))), .second, .val (.int (2 : Int32)), .val (.ref b505), .val (.ref b511), .val (.ref r550), .unset] [(.ref b505), (.long (q1 &&& (4294967295 : Int64)))])) rfl (by rw [hml]; rfl) (argsL := [(.long (q1 &&& (4294967295 : Int64))), (.ref b505)]) (rest := []) (lenOf pd__J_B_Lcom_example_message_buffer_messagebuffer_model_Message_ rfl) rfl (by show 2 * 0 + _ ≤ _; exact Nat.le_of_eq rfl) (hb hby at_102) (fun _ _ => ⟨rfl, rfl, (by decide : 5 + 4 ≤ _), (by decide : 28 + 27 ≤ _)⟩)
  dsimp only [Pt.U, Pt.locs, Pt.cells, Pt.slots] at X556 l556 y556 z556 st556 hQ556 sS556 gr556
  subst l556 y556 z556
  obtain ⟨r556, d556, rfl, N556q, K556, lr556, ld556, E556, F556a, F556b, F556c, F556d, Vd556⟩ := hQ556
  have N556 := Fr.app N550 N556q
  have ne_b505_r556 : b505 ≠ r556 := Nat.ne_of_lt (Nat.lt_of_lt_of_le ((V535.other W541 ne_b505_b511).keep K550 nin0).lt lr556)
  have ne_b511_r556 : b511 ≠ r556 := Nat.ne_of_lt (Nat.lt_of_lt_of_le (V541.keep K550 nin0).lt lr556)
  have ne_r550_r556 : r550 ≠ r556 := Nat.ne_of_lt (Nat.lt_of_lt_of_le E550.lt lr556)
  have ne_b505_d556 : b505 ≠ d556 := Nat.ne_of_lt (Nat.lt_of_lt_of_le ((V535.other W541 ne_b505_b511).keep K550 nin0).lt ld556)
  have ne_b511_d556 : b511 ≠ d556 := Nat.ne_of_lt (Nat.lt_of_lt_of_le (V541.keep K550 nin0).lt ld556)
  have ne_r550_d556 : r550 ≠ d556 := Nat.ne_of_lt (Nat.lt_of_lt_of_le E550.lt ld556)
  have O557 := O551.keep K556 all0
  have Z558 : n0 ≤ T556.heap.size := Nat.le_trans Z552 K556.1
  have K559 := Nat.le_trans (Nat.le_refl _) K556.1
  have hS556 := foldS (s := s) (vm0 := T550.vm) hS550 (Nat.le_refl _) sS556 gr556
  have hZ556 : Z.Warmed39 (s.setVm T556.vm).vm := State.Warmed39.trans (t := s.setVm T550.vm) hZ550 sS556.1
  have hown556 : (s.setVm T556.vm).vm.findClass "com/example/message_buffer/messagebuffer/model/MessageOfPinLaw" = some m.cls := by rw [show (s.setVm T556.vm).vm = T556.vm from rfl, sS556.1.alike.findClass]; exact hown550
  have X556 : Stand p l e room_1 (s.setVm T556.vm) m _ below meth c T556 _ _ _ := X556
  have pre560 : ∀ t, Steps p.tables e below (T556.setTop (mkF m 105 #[.val (.long q1), .second, .val (.int p2), .val (.int p3), .val (.long (q1 &&& (4294967295 : Int64))), .second, .val (.int (2 : Int32)), .val (.ref b505), .val (.ref b511), .val (.ref r550), .unset] [(.ref r556)])) t → Steps p.tables e below (s₁.setTop (entryFrame m #[(.long q1), (.int p2), (.int p3)] maxLocals)) t := by
    intro t k
    refine pre555 _ ?_
    show Steps p.tables e below (T550.setTop (mkF m 102 #[.val (.long q1), .second, .val (.int p2), .val (.int p3), .val (.long (q1 &&& (4294967295 : Int64))), .second, .val (.int (2 : Int32)), .val (.ref b505), .val (.ref b511), .val (.ref r550), .unset] [(.ref b505), (.long (q1 &&& (4294967295 : Int64)))])) _
    refine st556.trans ?_
    exact k
  have pre561 : ∀ t, Steps p.tables e below (T556.setTop (mkF m 109 #[.val (.long q1), .second, .val (.int p2), .val (.int p3), .val (.long (q1 &&& (4294967295 : Int64))), .second, .val (.int (2 : Int32)), .val (.ref b505), .val (.ref b511), .val (.ref r550), .val (.ref r556)] [(.int (2 : Int32))])) t → Steps p.tables e below (s₁.setTop (entryFrame m #[(.long q1), (.int p2), (.int p3)] maxLocals)) t := by
    intro t k
    refine pre560 _ ?_
    show Steps p.tables e below (T556.setTop (mkF m 105 #[.val (.long q1), .second, .val (.int p2), .val (.int p3), .val (.long (q1 &&& (4294967295 : Int64))), .second, .val (.int (2 : Int32)), .val (.ref b505), .val (.ref b511), .val (.ref r550), .unset] [(.ref r556)])) _
    refine XS.astore X556.here hx rfl (hb hby at_105) rfl rfl (l' := #[.val (.long q1), .second, .val (.int p2), .val (.int p3), .val (.long (q1 &&& (4294967295 : Int64))), .second, .val (.int (2 : Int32)), .val (.ref b505), .val (.ref b511), .val (.ref r550), .val (.ref r556)]) rfl ?_
    show Steps p.tables e below (T556.setTop (mkF m 107 #[.val (.long q1), .second, .val (.int p2), .val (.int p3), .val (.long (q1 &&& (4294967295 : Int64))), .second, .val (.int (2 : Int32)), .val (.ref b505), .val (.ref b511), .val (.ref r550), .val (.ref r556)] [])) _
    refine XS.iload X556.here hx rfl (hb hby at_107) rfl ?_
    exact k
  have pre563 : ∀ t, Steps p.tables e below (T556.setTop (mkF m 112 #[.val (.long q1), .second, .val (.int p2), .val (.int p3), .val (.long (q1 &&& (4294967295 : Int64))), .second, .val (.int (2 : Int32)), .val (.ref b505), .val (.ref b511), .val (.ref r550), .val (.ref r556)] [])) t → Steps p.tables e below (s₁.setTop (entryFrame m #[(.long q1), (.int p2), (.int p3)] maxLocals)) t := by
    intro t k
    refine pre561 _ ?_
    show Steps p.tables e below (T556.setTop (mkF m 109 #[.val (.long q1), .second, .val (.int p2), .val (.int p3), .val (.long (q1 &&& (4294967295 : Int64))), .second, .val (.int (2 : Int32)), .val (.ref b505), .val (.ref b511), .val (.ref r550), .val (.ref r556)] [(.int (2 : Int32))])) _
    refine XS.ifNo X556.here hx rfl (hb hby at_109) rfl ((if0 _ _).trans (tlt (by decide : (0 : Int32) < (2 : Int32))).2.2.2) ?_
    exact k
  have pre564 : ∀ t, Steps p.tables e below (T556.setTop (mkF m 118 #[.val (.long q1), .second, .val (.int p2), .val (.int p3), .val (.long (q1 &&& (4294967295 : Int64))), .second, .val (.int (2 : Int32)), .val (.ref b505), .val (.ref b511), .val (.ref r550), .val (.ref r556)] [(.int (0 : Int32)), (.ref b505), (.int (0 : Int32)), (.ref b505)])) t → Steps p.tables e below (s₁.setTop (entryFrame m #[(.long q1), (.int p2), (.int p3)] maxLocals)) t := by
    intro t k
    refine pre563 _ ?_
    show Steps p.tables e below (T556.setTop (mkF m 112 #[.val (.long q1), .second, .val (.int p2), .val (.int p3), .val (.long (q1 &&& (4294967295 : Int64))), .second, .val (.int (2 : Int32)), .val (.ref b505), .val (.ref b511), .val (.ref r550), .val (.ref r556)] [])) _
    refine XS.aload X556.here hx rfl (hb hby at_112) rfl rfl ?_
    show Steps p.tables e below (T556.setTop (mkF m 114 #[.val (.long q1), .second, .val (.int p2), .val (.int p3), .val (.long (q1 &&& (4294967295 : Int64))), .second, .val (.int (2 : Int32)), .val (.ref b505), .val (.ref b511), .val (.ref r550), .val (.ref r556)] [(.ref b505)])) _
    refine XS.iconst X556.here hx rfl (hb hby at_114) ?_
    show Steps p.tables e below (T556.setTop (mkF m 115 #[.val (.long q1), .second, .val (.int p2), .val (.int p3), .val (.long (q1 &&& (4294967295 : Int64))), .second, .val (.int (2 : Int32)), .val (.ref b505), .val (.ref b511), .val (.ref r550), .val (.ref r556)] [(.int (0 : Int32)), (.ref b505)])) _
    refine XS.aload X556.here hx rfl (hb hby at_115) rfl rfl ?_
    show Steps p.tables e below (T556.setTop (mkF m 117 #[.val (.long q1), .second, .val (.int p2), .val (.int p3), .val (.long (q1 &&& (4294967295 : Int64))), .second, .val (.int (2 : Int32)), .val (.ref b505), .val (.ref b511), .val (.ref r550), .val (.ref r556)] [(.ref b505), (.int (0 : Int32)), (.ref b505)])) _
    refine XS.iconst X556.here hx rfl (hb hby at_117) ?_
    exact k
  obtain ⟨cl565, Ar565, q565, S565, N_565, H565, G565⟩ := (((V535.other W541 ne_b505_b511).keep K550 nin0).keep K556 nin0)
  have pre566 : ∀ t, Steps p.tables e below (T556.setTop (mkF m 119 #[.val (.long q1), .second, .val (.int p2), .val (.int p3), .val (.long (q1 &&& (4294967295 : Int64))), .second, .val (.int (2 : Int32)), .val (.ref b505), .val (.ref b511), .val (.ref r550), .val (.ref r556)] [(.int (nar .byte (p3.toInt8.toInt32))), (.int (0 : Int32)), (.ref b505)])) t → Steps p.tables e below (s₁.setTop (entryFrame m #[(.long q1), (.int p2), (.int p3)] maxLocals)) t := by
    intro t k
    refine pre564 _ ?_
    show Steps p.tables e below (T556.setTop (mkF m 118 #[.val (.long q1), .second, .val (.int p2), .val (.int p3), .val (.long (q1 &&& (4294967295 : Int64))), .second, .val (.int (2 : Int32)), .val (.ref b505), .val (.ref b511), .val (.ref r550), .val (.ref r556)] [(.int (0 : Int32)), (.ref b505), (.int (0 : Int32)), (.ref b505)])) _
    refine X556.baloadBytes hx (j := (0 : Int32)) (v := (.int (nar .byte (p3.toInt8.toInt32)))) Ar565.1 (State.isArrayOf_alike hZ556.alike Ar565.2.1) Ar565.2.2 (inb_of S565 ⟨by decide, by decide⟩) (Has.at H565 (inb_of S565 ⟨by decide, by decide⟩) rfl) (g := (mkF m 118 #[.val (.long q1), .second, .val (.int p2), .val (.int p3), .val (.long (q1 &&& (4294967295 : Int64))), .second, .val (.int (2 : Int32)), .val (.ref b505), .val (.ref b511), .val (.ref r550), .val (.ref r556)] [(.int (0 : Int32)), (.ref b505), (.int (0 : Int32)), (.ref b505)])) rfl rfl (hb hby at_118) _ ?_
    exact k
  have pre567 : ∀ t, Steps p.tables e below (T556.setTop (mkF m 122 #[.val (.long q1), .second, .val (.int p2), .val (.int p3), .val (.long (q1 &&& (4294967295 : Int64))), .second, .val (.int (2 : Int32)), .val (.ref b505), .val (.ref b511), .val (.ref r550), .val (.ref r556)] [(.int (((nar .byte (p3.toInt8.toInt32)) + (1 : Int32)).toInt8.toInt32)), (.int (0 : Int32)), (.ref b505)])) t → Steps p.tables e below (s₁.setTop (entryFrame m #[(.long q1), (.int p2), (.int p3)] maxLocals)) t := by
    intro t k
    refine pre566 _ ?_
    show Steps p.tables e below (T556.setTop (mkF m 119 #[.val (.long q1), .second, .val (.int p2), .val (.int p3), .val (.long (q1 &&& (4294967295 : Int64))), .second, .val (.int (2 : Int32)), .val (.ref b505), .val (.ref b511), .val (.ref r550), .val (.ref r556)] [(.int (nar .byte (p3.toInt8.toInt32))), (.int (0 : Int32)), (.ref b505)])) _
    refine XS.iconst X556.here hx rfl (hb hby at_119) ?_
    show Steps p.tables e below (T556.setTop (mkF m 120 #[.val (.long q1), .second, .val (.int p2), .val (.int p3), .val (.long (q1 &&& (4294967295 : Int64))), .second, .val (.int (2 : Int32)), .val (.ref b505), .val (.ref b511), .val (.ref r550), .val (.ref r556)] [(.int (1 : Int32)), (.int (nar .byte (p3.toInt8.toInt32))), (.int (0 : Int32)), (.ref b505)])) _
    refine XS.iadd X556.here hx rfl (hb hby at_120) rfl ?_
    show Steps p.tables e below (T556.setTop (mkF m 121 #[.val (.long q1), .second, .val (.int p2), .val (.int p3), .val (.long (q1 &&& (4294967295 : Int64))), .second, .val (.int (2 : Int32)), .val (.ref b505), .val (.ref b511), .val (.ref r550), .val (.ref r556)] [(.int ((nar .byte (p3.toInt8.toInt32)) + (1 : Int32))), (.int (0 : Int32)), (.ref b505)])) _
    refine XS.i2b X556.here hx rfl (hb hby at_121) rfl ?_
    exact k
  obtain ⟨cl568, Ar568, q568, S568, N_568, H568, G568⟩ := (((V535.other W541 ne_b505_b511).keep K550 nin0).keep K556 nin0)
  obtain ⟨T568, h568, X568, e568, W568, st568⟩ := stB X556 hx hZ556 rfl Ar568 (j := (0 : Int32)) (inb_of S568 ⟨by decide, by decide⟩) (g := (mkF m 122 #[.val (.long q1), .second, .val (.int p2), .val (.int p3), .val (.long (q1 &&& (4294967295 : Int64))), .second, .val (.int (2 : Int32)), .val (.ref b505), .val (.ref b511), .val (.ref r550), .val (.ref r556)] [(.int (((nar .byte (p3.toInt8.toInt32)) + (1 : Int32)).toInt8.toInt32)), (.int (0 : Int32)), (.ref b505)])) rfl rfl (hb hby at_122)
  have V568 : Arv Z h568 b505 k505 .byte (2 : Int32) [(.int (nar .byte (((nar .byte (p3.toInt8.toInt32)) + (1 : Int32)).toInt8.toInt32))), (.int (nar .byte ((p3 >>> ((8 : Int32) &&& 31)).toInt8.toInt32)))] (.int (0 : Int32)) := Arv.set Ar568 q568 S568 N_568 H568 G568 (fits_nar_byte _) W568 0 rfl (Nat.le_of_ble_eq_true rfl)
  have O569 := O557.wr W568 g_b505
  have Z570 : n0 ≤ h568.size := Nat.le_trans Z558 (Keep.of_wr W568).1
  have K571 := Nat.le_trans (Nat.le_refl _) (Keep.of_wr W568).1
  have NN568 := Fr.snoc X568 N556 g_b505
  have pre572 : ∀ t, Steps p.tables e below (T568.setTop (mkF m 123 #[.val (.long q1), .second, .val (.int p2), .val (.int p3), .val (.long (q1 &&& (4294967295 : Int64))), .second, .val (.int (2 : Int32)), .val (.ref b505), .val (.ref b511), .val (.ref r550), .val (.ref r556)] [])) t → Steps p.tables e below (s₁.setTop (entryFrame m #[(.long q1), (.int p2), (.int p3)] maxLocals)) t := by
    intro t k
    refine pre567 _ ?_
    show Steps p.tables e below (T556.setTop (mkF m 122 #[.val (.long q1), .second, .val (.int p2), .val (.int p3), .val (.long (q1 &&& (4294967295 : Int64))), .second, .val (.int (2 : Int32)), .val (.ref b505), .val (.ref b511), .val (.ref r550), .val (.ref r556)] [(.int (((nar .byte (p3.toInt8.toInt32)) + (1 : Int32)).toInt8.toInt32)), (.int (0 : Int32)), (.ref b505)])) _
    refine st568 _ ?_
    exact k
  have pre573 : ∀ t, Steps p.tables e below (T568.setTop (mkF m 125 #[.val (.long q1), .second, .val (.int p2), .val (.int p3), .val (.long (q1 &&& (4294967295 : Int64))), .second, .val (.int (2 : Int32)), .val (.ref b505), .val (.ref b511), .val (.ref r550), .val (.ref r556)] [(.ref r556)])) t → Steps p.tables e below (s₁.setTop (entryFrame m #[(.long q1), (.int p2), (.int p3)] maxLocals)) t := by
    intro t k
    refine pre572 _ ?_
    show Steps p.tables e below (T568.setTop (mkF m 123 #[.val (.long q1), .second, .val (.int p2), .val (.int p3), .val (.long (q1 &&& (4294967295 : Int64))), .second, .val (.int (2 : Int32)), .val (.ref b505), .val (.ref b511), .val (.ref r550), .val (.ref r556)] [])) _
    refine XS.aload X568.here hx rfl (hb hby at_123) rfl rfl ?_
    exact k
  obtain ⟨cq574, kq574, q574a, q574b, q574c⟩ := isOf hZ556 e568 (E556.wr W568)
  obtain ⟨_, _, ⟨T574, L574, k574, n574⟩, -, X574, ⟨Lc574, hQ574, l574, y574, z574⟩, st574⟩ := X568.virtualBack hx (y := (⟨"com/example/message_buffer/messagebuffer/model/Message", "flags", "()J"⟩ : MethodName)) (z := (⟨"com/example/message_buffer/messagebuffer/model/Message", "flags", "()J"⟩ : MethodName)) hown556 (mvT hZ556 (hw _ (List.mem_of_getElem? (i := 49) rfl))) (mvT hZ556 (hw _ (List.mem_of_getElem? (i := 50) rfl))) (notFace_of_selects (args := #[]) (mvT hZ556 (hw _ (List.mem_of_getElem? (i := 52) rfl)))) (mvT hZ556 (hw _ (List.mem_of_getElem? (i := 52) rfl))) (mvT hZ556 (hw _ (List.mem_of_getElem? (i := 51) rfl))) (by decide) (backOf (W := 0) (rm7 l Z a0 hw [] r556 ((q1 &&& (4294967295 : Int64)).toInt32) h568 n0 Z570 (F556a.other W568 (Or.inl (Ne.symm ne_b505_r556)))) hZ556 (hw _ (List.mem_of_getElem? (i := 53) rfl)) (hw _ (List.mem_of_getElem? (i := 4) rfl)) (by decide) (by decide)) q574a q574c (g := (mkF m 125 #[.val (.long q1), .second, .val (.int p2), .val (.int p3), .val (.long (q1 &&& (4294967295 : Int64))), .second, .val (.int (2 : Int32)), .val (.ref b505), .val (.ref b511), .val (.ref r550), .val (.ref r556)] [(.ref r556)])) rfl (by rw [hml]; rfl) (Steps.refl _) (argsL := []) (rest := []) (lenOf pd___J rfl) rfl (by show 2 * 0 + _ ≤ _; exact Nat.le_of_eq rfl) (hb hby at_125) (fun _ _ => ⟨rfl, e568, (by decide : 9 + 0 ≤ _), (by decide : 55 + 0 ≤ _)⟩)
  dsimp only [Pt.U, Pt.locs, Pt.cells, Pt.slots] at X574 l574 y574 z574 st574 hQ574
  subst l574 y574 z574
  obtain ⟨rfl, N574q, e574⟩ := hQ574
  have N574 := Fr.app NN568 N574q
  have pre575 : ∀ t, Steps p.tables e below (T574.setTop (mkF m 128 #[.val (.long q1), .second, .val (.int p2), .val (.int p3), .val (.long (q1 &&& (4294967295 : Int64))), .second, .val (.int (2 : Int32)), .val (.ref b505), .val (.ref b511), .val (.ref r550), .val (.ref r556)] [(.long (F7 ((q1 &&& (4294967295 : Int64)).toInt32)))])) t → Steps p.tables e below (s₁.setTop (entryFrame m #[(.long q1), (.int p2), (.int p3)] maxLocals)) t := by
    intro t k
    refine pre573 _ ?_
    show Steps p.tables e below (T568.setTop (mkF m 125 #[.val (.long q1), .second, .val (.int p2), .val (.int p3), .val (.long (q1 &&& (4294967295 : Int64))), .second, .val (.int (2 : Int32)), .val (.ref b505), .val (.ref b511), .val (.ref r550), .val (.ref r556)] [(.ref r556)])) _
    refine st574.trans ?_
    exact k
  have pre576 : ∀ t, Steps p.tables e below (T574.setTop (mkF m 131 #[.val (.long q1), .second, .val (.int p2), .val (.int p3), .val (.long (q1 &&& (4294967295 : Int64))), .second, .val (.int (2 : Int32)), .val (.ref b505), .val (.ref b511), .val (.ref r550), .val (.ref r556)] [(.int (lcmpW (F7 ((q1 &&& (4294967295 : Int64)).toInt32)) (q1 &&& (4294967295 : Int64))))])) t → Steps p.tables e below (s₁.setTop (entryFrame m #[(.long q1), (.int p2), (.int p3)] maxLocals)) t := by
    intro t k
    refine pre575 _ ?_
    show Steps p.tables e below (T574.setTop (mkF m 128 #[.val (.long q1), .second, .val (.int p2), .val (.int p3), .val (.long (q1 &&& (4294967295 : Int64))), .second, .val (.int (2 : Int32)), .val (.ref b505), .val (.ref b511), .val (.ref r550), .val (.ref r556)] [(.long (F7 ((q1 &&& (4294967295 : Int64)).toInt32)))])) _
    refine XS.lload X574.here hx rfl (hb hby at_128) rfl ?_
    show Steps p.tables e below (T574.setTop (mkF m 130 #[.val (.long q1), .second, .val (.int p2), .val (.int p3), .val (.long (q1 &&& (4294967295 : Int64))), .second, .val (.int (2 : Int32)), .val (.ref b505), .val (.ref b511), .val (.ref r550), .val (.ref r556)] [(.long (q1 &&& (4294967295 : Int64))), (.long (F7 ((q1 &&& (4294967295 : Int64)).toInt32)))])) _
    refine XS.lcmp X574.here hx rfl (hb hby at_130) rfl ?_
    exact k
  by_cases hc577 : (lcmpW (F7 ((q1 &&& (4294967295 : Int64)).toInt32)) (q1 &&& (4294967295 : Int64))) = (0 : Int32)
  · have pre578 : ∀ t, Steps p.tables e below (T574.setTop (mkF m 134 #[.val (.long q1), .second, .val (.int p2), .val (.int p3), .val (.long (q1 &&& (4294967295 : Int64))), .second, .val (.int (2 : Int32)), .val (.ref b505), .val (.ref b511), .val (.ref r550), .val (.ref r556)] [])) t → Steps p.tables e below (s₁.setTop (entryFrame m #[(.long q1), (.int p2), (.int p3)] maxLocals)) t := by
      intro t k
      refine pre576 _ ?_
      show Steps p.tables e below (T574.setTop (mkF m 131 #[.val (.long q1), .second, .val (.int p2), .val (.int p3), .val (.long (q1 &&& (4294967295 : Int64))), .second, .val (.int (2 : Int32)), .val (.ref b505), .val (.ref b511), .val (.ref r550), .val (.ref r556)] [(.int (lcmpW (F7 ((q1 &&& (4294967295 : Int64)).toInt32)) (q1 &&& (4294967295 : Int64))))])) _
      refine XS.ifNo X574.here hx rfl (hb hby at_131) rfl ((if0 _ _).trans (teq hc577).2) ?_
      exact k
    have pre579 : ∀ t, Steps p.tables e below (T574.setTop (mkF m 136 #[.val (.long q1), .second, .val (.int p2), .val (.int p3), .val (.long (q1 &&& (4294967295 : Int64))), .second, .val (.int (2 : Int32)), .val (.ref b505), .val (.ref b511), .val (.ref r550), .val (.ref r556)] [(.ref r556)])) t → Steps p.tables e below (s₁.setTop (entryFrame m #[(.long q1), (.int p2), (.int p3)] maxLocals)) t := by
      intro t k
      refine pre578 _ ?_
      show Steps p.tables e below (T574.setTop (mkF m 134 #[.val (.long q1), .second, .val (.int p2), .val (.int p3), .val (.long (q1 &&& (4294967295 : Int64))), .second, .val (.int (2 : Int32)), .val (.ref b505), .val (.ref b511), .val (.ref r550), .val (.ref r556)] [])) _
      refine XS.aload X574.here hx rfl (hb hby at_134) rfl rfl ?_
      exact k
    obtain ⟨cq580, kq580, q580a, q580b, q580c⟩ := isOf hZ556 e574 (E556.wr W568)
    obtain ⟨_, _, ⟨T580, L580, k580, n580⟩, -, X580, ⟨Lc580, hQ580, l580, y580, z580⟩, st580⟩ := X574.virtualBack hx (y := (⟨"com/example/message_buffer/messagebuffer/model/Message", "size", "()I"⟩ : MethodName)) (z := (⟨"com/example/message_buffer/messagebuffer/model/Message", "size", "()I"⟩ : MethodName)) hown556 (mvT hZ556 (hw _ (List.mem_of_getElem? (i := 59) rfl))) (mvT hZ556 (hw _ (List.mem_of_getElem? (i := 60) rfl))) (notFace_of_selects (args := #[]) (mvT hZ556 (hw _ (List.mem_of_getElem? (i := 62) rfl)))) (mvT hZ556 (hw _ (List.mem_of_getElem? (i := 62) rfl))) (mvT hZ556 (hw _ (List.mem_of_getElem? (i := 61) rfl))) (by decide) (backOf (W := 0) (rm9 l Z a0 hw [] r556 (2 : Int32) h568 n0 Z570 (F556d.other W568 (Or.inl (Ne.symm ne_b505_r556)))) hZ556 (hw _ (List.mem_of_getElem? (i := 63) rfl)) (hw _ (List.mem_of_getElem? (i := 4) rfl)) (by decide) (by decide)) q580a q580c (g := (mkF m 136 #[.val (.long q1), .second, .val (.int p2), .val (.int p3), .val (.long (q1 &&& (4294967295 : Int64))), .second, .val (.int (2 : Int32)), .val (.ref b505), .val (.ref b511), .val (.ref r550), .val (.ref r556)] [(.ref r556)])) rfl (by rw [hml]; rfl) (Steps.refl _) (argsL := []) (rest := []) (lenOf pd___I rfl) rfl (by show 2 * 0 + _ ≤ _; exact Nat.le_of_eq rfl) (hb hby at_136) (fun _ _ => ⟨rfl, e574, (by decide : 9 + 0 ≤ _), (by decide : 55 + 0 ≤ _)⟩)
    dsimp only [Pt.U, Pt.locs, Pt.cells, Pt.slots] at X580 l580 y580 z580 st580 hQ580
    subst l580 y580 z580
    obtain ⟨rfl, N580q, e580⟩ := hQ580
    have N580 := Fr.app N574 N580q
    have pre581 : ∀ t, Steps p.tables e below (T580.setTop (mkF m 139 #[.val (.long q1), .second, .val (.int p2), .val (.int p3), .val (.long (q1 &&& (4294967295 : Int64))), .second, .val (.int (2 : Int32)), .val (.ref b505), .val (.ref b511), .val (.ref r550), .val (.ref r556)] [(.int (2 : Int32))])) t → Steps p.tables e below (s₁.setTop (entryFrame m #[(.long q1), (.int p2), (.int p3)] maxLocals)) t := by
      intro t k
      refine pre579 _ ?_
      show Steps p.tables e below (T574.setTop (mkF m 136 #[.val (.long q1), .second, .val (.int p2), .val (.int p3), .val (.long (q1 &&& (4294967295 : Int64))), .second, .val (.int (2 : Int32)), .val (.ref b505), .val (.ref b511), .val (.ref r550), .val (.ref r556)] [(.ref r556)])) _
      refine st580.trans ?_
      exact k
    have pre582 : ∀ t, Steps p.tables e below (T580.setTop (mkF m 141 #[.val (.long q1), .second, .val (.int p2), .val (.int p3), .val (.long (q1 &&& (4294967295 : Int64))), .second, .val (.int (2 : Int32)), .val (.ref b505), .val (.ref b511), .val (.ref r550), .val (.ref r556)] [(.int (2 : Int32)), (.int (2 : Int32))])) t → Steps p.tables e below (s₁.setTop (entryFrame m #[(.long q1), (.int p2), (.int p3)] maxLocals)) t := by
      intro t k
      refine pre581 _ ?_
      show Steps p.tables e below (T580.setTop (mkF m 139 #[.val (.long q1), .second, .val (.int p2), .val (.int p3), .val (.long (q1 &&& (4294967295 : Int64))), .second, .val (.int (2 : Int32)), .val (.ref b505), .val (.ref b511), .val (.ref r550), .val (.ref r556)] [(.int (2 : Int32))])) _
      refine XS.iload X580.here hx rfl (hb hby at_139) rfl ?_
      exact k
    have pre584 : ∀ t, Steps p.tables e below (T580.setTop (mkF m 144 #[.val (.long q1), .second, .val (.int p2), .val (.int p3), .val (.long (q1 &&& (4294967295 : Int64))), .second, .val (.int (2 : Int32)), .val (.ref b505), .val (.ref b511), .val (.ref r550), .val (.ref r556)] [])) t → Steps p.tables e below (s₁.setTop (entryFrame m #[(.long q1), (.int p2), (.int p3)] maxLocals)) t := by
      intro t k
      refine pre582 _ ?_
      show Steps p.tables e below (T580.setTop (mkF m 141 #[.val (.long q1), .second, .val (.int p2), .val (.int p3), .val (.long (q1 &&& (4294967295 : Int64))), .second, .val (.int (2 : Int32)), .val (.ref b505), .val (.ref b511), .val (.ref r550), .val (.ref r556)] [(.int (2 : Int32)), (.int (2 : Int32))])) _
      refine XS.icmpNo X580.here hx rfl (hb hby at_141) rfl (teq (rfl : (2 : Int32) = (2 : Int32))).2 ?_
      exact k
    have pre585 : ∀ t, Steps p.tables e below (T580.setTop (mkF m 146 #[.val (.long q1), .second, .val (.int p2), .val (.int p3), .val (.long (q1 &&& (4294967295 : Int64))), .second, .val (.int (2 : Int32)), .val (.ref b505), .val (.ref b511), .val (.ref r550), .val (.ref r556)] [(.ref r556)])) t → Steps p.tables e below (s₁.setTop (entryFrame m #[(.long q1), (.int p2), (.int p3)] maxLocals)) t := by
      intro t k
      refine pre584 _ ?_
      show Steps p.tables e below (T580.setTop (mkF m 144 #[.val (.long q1), .second, .val (.int p2), .val (.int p3), .val (.long (q1 &&& (4294967295 : Int64))), .second, .val (.int (2 : Int32)), .val (.ref b505), .val (.ref b511), .val (.ref r550), .val (.ref r556)] [])) _
      refine XS.aload X580.here hx rfl (hb hby at_144) rfl rfl ?_
      exact k
    obtain ⟨cq586, kq586, q586a, q586b, q586c⟩ := isOf hZ556 e580 (E556.wr W568)
    obtain ⟨_, _, ⟨T586, L586, k586, n586⟩, -, X586, ⟨Lc586, hQ586, l586, y586, z586⟩, st586⟩ := X580.virtualBack hx (y := (⟨"com/example/message_buffer/messagebuffer/model/Message", "source", "()Lcom/example/message_buffer/messagebuffer/model/Message$Source;"⟩ : MethodName)) (z := (⟨"com/example/message_buffer/messagebuffer/model/Message", "source", "()Lcom/example/message_buffer/messagebuffer/model/Message$Source;"⟩ : MethodName)) hown556 (mvT hZ556 (hw _ (List.mem_of_getElem? (i := 64) rfl))) (mvT hZ556 (hw _ (List.mem_of_getElem? (i := 65) rfl))) (notFace_of_selects (args := #[]) (mvT hZ556 (hw _ (List.mem_of_getElem? (i := 67) rfl)))) (mvT hZ556 (hw _ (List.mem_of_getElem? (i := 67) rfl))) (mvT hZ556 (hw _ (List.mem_of_getElem? (i := 66) rfl))) (by decide) (backOf (W := 0) (rm10 l Z a0 hw [] r556 h568 n0 Z570 (F556c.other W568 (Or.inl (Ne.symm ne_b505_r556)))) hZ556 (hw _ (List.mem_of_getElem? (i := 68) rfl)) (hw _ (List.mem_of_getElem? (i := 4) rfl)) (by decide) (by decide)) q586a q586c (g := (mkF m 146 #[.val (.long q1), .second, .val (.int p2), .val (.int p3), .val (.long (q1 &&& (4294967295 : Int64))), .second, .val (.int (2 : Int32)), .val (.ref b505), .val (.ref b511), .val (.ref r550), .val (.ref r556)] [(.ref r556)])) rfl (by rw [hml]; rfl) (Steps.refl _) (argsL := []) (rest := []) (lenOf pd___Lcom_example_message_buffer_messagebuffer_model_Message_Source_ rfl) rfl (by show 2 * 0 + _ ≤ _; exact Nat.le_of_eq rfl) (hb hby at_146) (fun _ _ => ⟨rfl, e580, (by decide : 9 + 0 ≤ _), (by decide : 55 + 0 ≤ _)⟩)
    dsimp only [Pt.U, Pt.locs, Pt.cells, Pt.slots] at X586 l586 y586 z586 st586 hQ586
    subst l586 y586 z586
    obtain ⟨rfl, N586q, e586⟩ := hQ586
    have N586 := Fr.app N580 N586q
    have pre587 : ∀ t, Steps p.tables e below (T586.setTop (mkF m 149 #[.val (.long q1), .second, .val (.int p2), .val (.int p3), .val (.long (q1 &&& (4294967295 : Int64))), .second, .val (.int (2 : Int32)), .val (.ref b505), .val (.ref b511), .val (.ref r550), .val (.ref r556)] [.null])) t → Steps p.tables e below (s₁.setTop (entryFrame m #[(.long q1), (.int p2), (.int p3)] maxLocals)) t := by
      intro t k
      refine pre585 _ ?_
      show Steps p.tables e below (T580.setTop (mkF m 146 #[.val (.long q1), .second, .val (.int p2), .val (.int p3), .val (.long (q1 &&& (4294967295 : Int64))), .second, .val (.int (2 : Int32)), .val (.ref b505), .val (.ref b511), .val (.ref r550), .val (.ref r556)] [(.ref r556)])) _
      refine st586.trans ?_
      exact k
    have pre588 : ∀ t, Steps p.tables e below (T586.setTop (mkF m 154 #[.val (.long q1), .second, .val (.int p2), .val (.int p3), .val (.long (q1 &&& (4294967295 : Int64))), .second, .val (.int (2 : Int32)), .val (.ref b505), .val (.ref b511), .val (.ref r550), .val (.ref r556)] [(.ref r556)])) t → Steps p.tables e below (s₁.setTop (entryFrame m #[(.long q1), (.int p2), (.int p3)] maxLocals)) t := by
      intro t k
      refine pre587 _ ?_
      show Steps p.tables e below (T586.setTop (mkF m 149 #[.val (.long q1), .second, .val (.int p2), .val (.int p3), .val (.long (q1 &&& (4294967295 : Int64))), .second, .val (.int (2 : Int32)), .val (.ref b505), .val (.ref b511), .val (.ref r550), .val (.ref r556)] [.null])) _
      refine XS.ifnonnullNo X586.here hx rfl (hb hby at_149) rfl ?_
      show Steps p.tables e below (T586.setTop (mkF m 152 #[.val (.long q1), .second, .val (.int p2), .val (.int p3), .val (.long (q1 &&& (4294967295 : Int64))), .second, .val (.int (2 : Int32)), .val (.ref b505), .val (.ref b511), .val (.ref r550), .val (.ref r556)] [])) _
      refine XS.aload X586.here hx rfl (hb hby at_152) rfl rfl ?_
      exact k
    obtain ⟨cq589, kq589, q589a, q589b, q589c⟩ := isOf hZ556 e586 (E556.wr W568)
    obtain ⟨_, _, ⟨T589, L589, k589, n589⟩, -, X589, ⟨Lc589, hQ589, l589, y589, z589⟩, st589⟩ := X586.virtualBack hx (y := (⟨"com/example/message_buffer/messagebuffer/model/Message", "footprint", "()J"⟩ : MethodName)) (z := (⟨"com/example/message_buffer/messagebuffer/model/Message", "footprint", "()J"⟩ : MethodName)) hown556 (mvT hZ556 (hw _ (List.mem_of_getElem? (i := 69) rfl))) (mvT hZ556 (hw _ (List.mem_of_getElem? (i := 70) rfl))) (notFace_of_selects (args := #[]) (mvT hZ556 (hw _ (List.mem_of_getElem? (i := 72) rfl)))) (mvT hZ556 (hw _ (List.mem_of_getElem? (i := 72) rfl))) (mvT hZ556 (hw _ (List.mem_of_getElem? (i := 71) rfl))) (by decide) (backOf (W := 0) (rm11 l Z a0 hw [] r556 (2 : Int32) h568 n0 Z570 (F556d.other W568 (Or.inl (Ne.symm ne_b505_r556)))) hZ556 (hw _ (List.mem_of_getElem? (i := 73) rfl)) (hw _ (List.mem_of_getElem? (i := 4) rfl)) (by decide) (by decide)) q589a q589c (g := (mkF m 154 #[.val (.long q1), .second, .val (.int p2), .val (.int p3), .val (.long (q1 &&& (4294967295 : Int64))), .second, .val (.int (2 : Int32)), .val (.ref b505), .val (.ref b511), .val (.ref r550), .val (.ref r556)] [(.ref r556)])) rfl (by rw [hml]; rfl) (Steps.refl _) (argsL := []) (rest := []) (lenOf pd___J rfl) rfl (by show 2 * 0 + _ ≤ _; exact Nat.le_of_eq rfl) (hb hby at_154) (fun _ _ => ⟨rfl, e586, (by decide : 9 + 0 ≤ _), (by decide : 55 + 0 ≤ _)⟩)
    dsimp only [Pt.U, Pt.locs, Pt.cells, Pt.slots] at X589 l589 y589 z589 st589 hQ589
    subst l589 y589 z589
    obtain ⟨rfl, N589q, e589⟩ := hQ589
    have N589 := Fr.app N586 N589q
    have pre590 : ∀ t, Steps p.tables e below (T589.setTop (mkF m 157 #[.val (.long q1), .second, .val (.int p2), .val (.int p3), .val (.long (q1 &&& (4294967295 : Int64))), .second, .val (.int (2 : Int32)), .val (.ref b505), .val (.ref b511), .val (.ref r550), .val (.ref r556)] [(.long (F11 (2 : Int32)))])) t → Steps p.tables e below (s₁.setTop (entryFrame m #[(.long q1), (.int p2), (.int p3)] maxLocals)) t := by
      intro t k
      refine pre588 _ ?_
      show Steps p.tables e below (T586.setTop (mkF m 154 #[.val (.long q1), .second, .val (.int p2), .val (.int p3), .val (.long (q1 &&& (4294967295 : Int64))), .second, .val (.int (2 : Int32)), .val (.ref b505), .val (.ref b511), .val (.ref r550), .val (.ref r556)] [(.ref r556)])) _
      refine st589.trans ?_
      exact k
    have pre591 : ∀ t, Steps p.tables e below (T589.setTop (mkF m 165 #[.val (.long q1), .second, .val (.int p2), .val (.int p3), .val (.long (q1 &&& (4294967295 : Int64))), .second, .val (.int (2 : Int32)), .val (.ref b505), .val (.ref b511), .val (.ref r550), .val (.ref r556)] [(.int (lcmpW (F11 (2 : Int32)) (((2 : Int32).toInt64) + (80 : Int64))))])) t → Steps p.tables e below (s₁.setTop (entryFrame m #[(.long q1), (.int p2), (.int p3)] maxLocals)) t := by
      intro t k
      refine pre590 _ ?_
      show Steps p.tables e below (T589.setTop (mkF m 157 #[.val (.long q1), .second, .val (.int p2), .val (.int p3), .val (.long (q1 &&& (4294967295 : Int64))), .second, .val (.int (2 : Int32)), .val (.ref b505), .val (.ref b511), .val (.ref r550), .val (.ref r556)] [(.long (F11 (2 : Int32)))])) _
      refine XS.iload X589.here hx rfl (hb hby at_157) rfl ?_
      show Steps p.tables e below (T589.setTop (mkF m 159 #[.val (.long q1), .second, .val (.int p2), .val (.int p3), .val (.long (q1 &&& (4294967295 : Int64))), .second, .val (.int (2 : Int32)), .val (.ref b505), .val (.ref b511), .val (.ref r550), .val (.ref r556)] [(.int (2 : Int32)), (.long (F11 (2 : Int32)))])) _
      refine XS.i2l X589.here hx rfl (hb hby at_159) rfl ?_
      show Steps p.tables e below (T589.setTop (mkF m 160 #[.val (.long q1), .second, .val (.int p2), .val (.int p3), .val (.long (q1 &&& (4294967295 : Int64))), .second, .val (.int (2 : Int32)), .val (.ref b505), .val (.ref b511), .val (.ref r550), .val (.ref r556)] [(.long ((2 : Int32).toInt64)), (.long (F11 (2 : Int32)))])) _
      refine X589.ldc2Long hx hown556 (mvT hZ556 (hw _ (List.mem_of_getElem? (i := 77) rfl))) (g := (mkF m 160 #[.val (.long q1), .second, .val (.int p2), .val (.int p3), .val (.long (q1 &&& (4294967295 : Int64))), .second, .val (.int (2 : Int32)), .val (.ref b505), .val (.ref b511), .val (.ref r550), .val (.ref r556)] [(.long ((2 : Int32).toInt64)), (.long (F11 (2 : Int32)))])) rfl (hb hby at_160) _ ?_
      show Steps p.tables e below (T589.setTop (mkF m 163 #[.val (.long q1), .second, .val (.int p2), .val (.int p3), .val (.long (q1 &&& (4294967295 : Int64))), .second, .val (.int (2 : Int32)), .val (.ref b505), .val (.ref b511), .val (.ref r550), .val (.ref r556)] [(.long (80 : Int64)), (.long ((2 : Int32).toInt64)), (.long (F11 (2 : Int32)))])) _
      refine XS.ladd X589.here hx rfl (hb hby at_163) rfl ?_
      show Steps p.tables e below (T589.setTop (mkF m 164 #[.val (.long q1), .second, .val (.int p2), .val (.int p3), .val (.long (q1 &&& (4294967295 : Int64))), .second, .val (.int (2 : Int32)), .val (.ref b505), .val (.ref b511), .val (.ref r550), .val (.ref r556)] [(.long (((2 : Int32).toInt64) + (80 : Int64))), (.long (F11 (2 : Int32)))])) _
      refine XS.lcmp X589.here hx rfl (hb hby at_164) rfl ?_
      exact k
    by_cases hc592 : (lcmpW (F11 (2 : Int32)) (((2 : Int32).toInt64) + (80 : Int64))) = (0 : Int32)
    · have pre593 : ∀ t, Steps p.tables e below (T589.setTop (mkF m 168 #[.val (.long q1), .second, .val (.int p2), .val (.int p3), .val (.long (q1 &&& (4294967295 : Int64))), .second, .val (.int (2 : Int32)), .val (.ref b505), .val (.ref b511), .val (.ref r550), .val (.ref r556)] [])) t → Steps p.tables e below (s₁.setTop (entryFrame m #[(.long q1), (.int p2), (.int p3)] maxLocals)) t := by
        intro t k
        refine pre591 _ ?_
        show Steps p.tables e below (T589.setTop (mkF m 165 #[.val (.long q1), .second, .val (.int p2), .val (.int p3), .val (.long (q1 &&& (4294967295 : Int64))), .second, .val (.int (2 : Int32)), .val (.ref b505), .val (.ref b511), .val (.ref r550), .val (.ref r556)] [(.int (lcmpW (F11 (2 : Int32)) (((2 : Int32).toInt64) + (80 : Int64))))])) _
        refine XS.ifNo X589.here hx rfl (hb hby at_165) rfl ((if0 _ _).trans (teq hc592).2) ?_
        exact k
      have pre594 : ∀ t, Steps p.tables e below (T589.setTop (mkF m 172 #[.val (.long q1), .second, .val (.int p2), .val (.int p3), .val (.long (q1 &&& (4294967295 : Int64))), .second, .val (.int (2 : Int32)), .val (.ref b505), .val (.ref b511), .val (.ref r550), .val (.ref r556)] [(.ref r550), (.ref r556)])) t → Steps p.tables e below (s₁.setTop (entryFrame m #[(.long q1), (.int p2), (.int p3)] maxLocals)) t := by
        intro t k
        refine pre593 _ ?_
        show Steps p.tables e below (T589.setTop (mkF m 168 #[.val (.long q1), .second, .val (.int p2), .val (.int p3), .val (.long (q1 &&& (4294967295 : Int64))), .second, .val (.int (2 : Int32)), .val (.ref b505), .val (.ref b511), .val (.ref r550), .val (.ref r556)] [])) _
        refine XS.aload X589.here hx rfl (hb hby at_168) rfl rfl ?_
        show Steps p.tables e below (T589.setTop (mkF m 170 #[.val (.long q1), .second, .val (.int p2), .val (.int p3), .val (.long (q1 &&& (4294967295 : Int64))), .second, .val (.int (2 : Int32)), .val (.ref b505), .val (.ref b511), .val (.ref r550), .val (.ref r556)] [(.ref r556)])) _
        refine XS.aload X589.here hx rfl (hb hby at_170) rfl rfl ?_
        exact k
      obtain ⟨cq595, kq595, q595a, q595b, q595c⟩ := isOf hZ556 e589 (E556.wr W568)
      obtain ⟨_, _, ⟨T595, L595, k595, n595⟩, -, X595, ⟨Lc595, hQ595, l595, y595, z595⟩, st595⟩ := X589.virtualBack hx (y := (⟨"com/example/message_buffer/messagebuffer/model/Message", "equals", "(Ljava/lang/Object;)Z"⟩ : MethodName)) (z := (⟨"com/example/message_buffer/messagebuffer/model/Message", "equals", "(Ljava/lang/Object;)Z"⟩ : MethodName)) hown556 (mvT hZ556 (hw _ (List.mem_of_getElem? (i := 78) rfl))) (mvT hZ556 (hw _ (List.mem_of_getElem? (i := 79) rfl))) (notFace_of_selects (args := #[]) (mvT hZ556 (hw _ (List.mem_of_getElem? (i := 81) rfl)))) (mvT hZ556 (hw _ (List.mem_of_getElem? (i := 81) rfl))) (mvT hZ556 (hw _ (List.mem_of_getElem? (i := 80) rfl))) (by decide) (backOf (W := 0) (rm132 l Z a0 hw [] r556 r550 ((q1 &&& (4294967295 : Int64)).toInt32) d556 b511 k505 k511 (nar .byte (p3.toInt8.toInt32)) (nar .byte ((p3 >>> ((8 : Int32) &&& 31)).toInt8.toInt32)) h568 n0 Z570 ((E550.keep K556).wr W568) (F556c.other W568 (Or.inl (Ne.symm ne_b505_r556))) (F556a.other W568 (Or.inl (Ne.symm ne_b505_r556))) ((F550a.keep K556 nin0).other W568 (Or.inl (Ne.symm ne_b505_r550))) (F556b.other W568 (Or.inl (Ne.symm ne_b505_r556))) ((F550b.keep K556 nin0).other W568 (Or.inl (Ne.symm ne_b505_r550))) (Vd556.other W568 (Ne.symm ne_b505_d556)) (((V541.keep K550 nin0).keep K556 nin0).other W568 (Ne.symm ne_b505_b511))) hZ556 (hw _ (List.mem_of_getElem? (i := 82) rfl)) (hw _ (List.mem_of_getElem? (i := 4) rfl)) (by decide) (by decide)) q595a q595c (g := (mkF m 172 #[.val (.long q1), .second, .val (.int p2), .val (.int p3), .val (.long (q1 &&& (4294967295 : Int64))), .second, .val (.int (2 : Int32)), .val (.ref b505), .val (.ref b511), .val (.ref r550), .val (.ref r556)] [(.ref r550), (.ref r556)])) rfl (by rw [hml]; rfl) (Steps.refl _) (argsL := [(.ref r550)]) (rest := []) (lenOf pd__Ljava_lang_Object__Z rfl) rfl (by show 2 * 0 + _ ≤ _; exact Nat.le_of_eq rfl) (hb hby at_172) (fun _ _ => ⟨rfl, e589, (by decide : 9 + 0 ≤ _), (by decide : 55 + 0 ≤ _)⟩)
      dsimp only [Pt.U, Pt.locs, Pt.cells, Pt.slots] at X595 l595 y595 z595 st595 hQ595
      subst l595 y595 z595
      obtain ⟨rfl, N595q, e595⟩ := hQ595
      have N595 := Fr.app N589 N595q
      have pre596 : ∀ t, Steps p.tables e below (T595.setTop (mkF m 175 #[.val (.long q1), .second, .val (.int p2), .val (.int p3), .val (.long (q1 &&& (4294967295 : Int64))), .second, .val (.int (2 : Int32)), .val (.ref b505), .val (.ref b511), .val (.ref r550), .val (.ref r556)] [(.int (1 : Int32))])) t → Steps p.tables e below (s₁.setTop (entryFrame m #[(.long q1), (.int p2), (.int p3)] maxLocals)) t := by
        intro t k
        refine pre594 _ ?_
        show Steps p.tables e below (T589.setTop (mkF m 172 #[.val (.long q1), .second, .val (.int p2), .val (.int p3), .val (.long (q1 &&& (4294967295 : Int64))), .second, .val (.int (2 : Int32)), .val (.ref b505), .val (.ref b511), .val (.ref r550), .val (.ref r556)] [(.ref r550), (.ref r556)])) _
        refine st595.trans ?_
        exact k
      have pre598 : ∀ t, Steps p.tables e below (T595.setTop (mkF m 178 #[.val (.long q1), .second, .val (.int p2), .val (.int p3), .val (.long (q1 &&& (4294967295 : Int64))), .second, .val (.int (2 : Int32)), .val (.ref b505), .val (.ref b511), .val (.ref r550), .val (.ref r556)] [])) t → Steps p.tables e below (s₁.setTop (entryFrame m #[(.long q1), (.int p2), (.int p3)] maxLocals)) t := by
        intro t k
        refine pre596 _ ?_
        show Steps p.tables e below (T595.setTop (mkF m 175 #[.val (.long q1), .second, .val (.int p2), .val (.int p3), .val (.long (q1 &&& (4294967295 : Int64))), .second, .val (.int (2 : Int32)), .val (.ref b505), .val (.ref b511), .val (.ref r550), .val (.ref r556)] [(.int (1 : Int32))])) _
        refine XS.ifNo X595.here hx rfl (hb hby at_175) rfl ((if0 _ _).trans (feq (by decide : ¬ ((1 : Int32) = (0 : Int32)))).1) ?_
        exact k
      have pre599 : ∀ t, Steps p.tables e below (T595.setTop (mkF m 183 #[.val (.long q1), .second, .val (.int p2), .val (.int p3), .val (.long (q1 &&& (4294967295 : Int64))), .second, .val (.int (2 : Int32)), .val (.ref b505), .val (.ref b511), .val (.ref r550), .val (.ref r556)] [(.int (1 : Int32))])) t → Steps p.tables e below (s₁.setTop (entryFrame m #[(.long q1), (.int p2), (.int p3)] maxLocals)) t := by
        intro t k
        refine pre598 _ ?_
        show Steps p.tables e below (T595.setTop (mkF m 178 #[.val (.long q1), .second, .val (.int p2), .val (.int p3), .val (.long (q1 &&& (4294967295 : Int64))), .second, .val (.int (2 : Int32)), .val (.ref b505), .val (.ref b511), .val (.ref r550), .val (.ref r556)] [])) _
        refine XS.iconst X595.here hx rfl (hb hby at_178) ?_
        show Steps p.tables e below (T595.setTop (mkF m 179 #[.val (.long q1), .second, .val (.int p2), .val (.int p3), .val (.long (q1 &&& (4294967295 : Int64))), .second, .val (.int (2 : Int32)), .val (.ref b505), .val (.ref b511), .val (.ref r550), .val (.ref r556)] [(.int (1 : Int32))])) _
        refine XS.goto X595.here hx rfl (pc0 := 179) (pc' := 183) rfl (hb hby at_179) (by decide) (by decide) ?_
        exact k
      obtain ⟨fs, hr, hrun, hended, hsame⟩ := Stand.leaveW (s := s) (vm₁ := T556.vm) X595 hS556 (by rw [e595]; exact K571) (v := some (.int (1 : Int32))) (fun h => by rw [hret] at h; cases h) (hlocks := hlocks)
      refine ⟨_, _, pre599 _ ?_, hrun, hended, _, _, rfl, ?_, ⟨hsame.1, hsame.2.1, hsame.2.2.1, hsame.2.2.2.mono (by decide) (by decide)⟩⟩
      · show Steps p.tables e below (T595.setTop (mkF m 183 #[.val (.long q1), .second, .val (.int p2), .val (.int p3), .val (.long (q1 &&& (4294967295 : Int64))), .second, .val (.int (2 : Int32)), .val (.ref b505), .val (.ref b511), .val (.ref r550), .val (.ref r556)] [(.int (1 : Int32))])) _
        exact retN X595 hx (t := .boolean) hret (by simp) (hb hby at_183) hr
      · show Q0k2 Z q1 p2 p3 h0 n0 _ T595.heap _
        exact ⟨(by rw [F0k2, if_pos hc577, if_pos hc592]), N595⟩
    · have pre600 : ∀ t, Steps p.tables e below (T589.setTop (mkF m 182 #[.val (.long q1), .second, .val (.int p2), .val (.int p3), .val (.long (q1 &&& (4294967295 : Int64))), .second, .val (.int (2 : Int32)), .val (.ref b505), .val (.ref b511), .val (.ref r550), .val (.ref r556)] [])) t → Steps p.tables e below (s₁.setTop (entryFrame m #[(.long q1), (.int p2), (.int p3)] maxLocals)) t := by
        intro t k
        refine pre591 _ ?_
        show Steps p.tables e below (T589.setTop (mkF m 165 #[.val (.long q1), .second, .val (.int p2), .val (.int p3), .val (.long (q1 &&& (4294967295 : Int64))), .second, .val (.int (2 : Int32)), .val (.ref b505), .val (.ref b511), .val (.ref r550), .val (.ref r556)] [(.int (lcmpW (F11 (2 : Int32)) (((2 : Int32).toInt64) + (80 : Int64))))])) _
        refine XS.ifYes X589.here hx rfl (pc0 := 165) (pc' := 182) rfl (hb hby at_165) rfl ((if0 _ _).trans (feq hc592).2) (by decide) (by decide) ?_
        exact k
      have pre601 : ∀ t, Steps p.tables e below (T589.setTop (mkF m 183 #[.val (.long q1), .second, .val (.int p2), .val (.int p3), .val (.long (q1 &&& (4294967295 : Int64))), .second, .val (.int (2 : Int32)), .val (.ref b505), .val (.ref b511), .val (.ref r550), .val (.ref r556)] [(.int (0 : Int32))])) t → Steps p.tables e below (s₁.setTop (entryFrame m #[(.long q1), (.int p2), (.int p3)] maxLocals)) t := by
        intro t k
        refine pre600 _ ?_
        show Steps p.tables e below (T589.setTop (mkF m 182 #[.val (.long q1), .second, .val (.int p2), .val (.int p3), .val (.long (q1 &&& (4294967295 : Int64))), .second, .val (.int (2 : Int32)), .val (.ref b505), .val (.ref b511), .val (.ref r550), .val (.ref r556)] [])) _
        refine XS.iconst X589.here hx rfl (hb hby at_182) ?_
        exact k
      obtain ⟨fs, hr, hrun, hended, hsame⟩ := Stand.leaveW (s := s) (vm₁ := T556.vm) X589 hS556 (by rw [e589]; exact K571) (v := some (.int (0 : Int32))) (fun h => by rw [hret] at h; cases h) (hlocks := hlocks)
      refine ⟨_, _, pre601 _ ?_, hrun, hended, _, _, rfl, ?_, ⟨hsame.1, hsame.2.1, hsame.2.2.1, hsame.2.2.2.mono (by decide) (by decide)⟩⟩
      · show Steps p.tables e below (T589.setTop (mkF m 183 #[.val (.long q1), .second, .val (.int p2), .val (.int p3), .val (.long (q1 &&& (4294967295 : Int64))), .second, .val (.int (2 : Int32)), .val (.ref b505), .val (.ref b511), .val (.ref r550), .val (.ref r556)] [(.int (0 : Int32))])) _
        exact retN X589 hx (t := .boolean) hret (by simp) (hb hby at_183) hr
      · show Q0k2 Z q1 p2 p3 h0 n0 _ T589.heap _
        exact ⟨(by rw [F0k2, if_pos hc577, if_neg hc592]), N589⟩
  · have pre602 : ∀ t, Steps p.tables e below (T574.setTop (mkF m 182 #[.val (.long q1), .second, .val (.int p2), .val (.int p3), .val (.long (q1 &&& (4294967295 : Int64))), .second, .val (.int (2 : Int32)), .val (.ref b505), .val (.ref b511), .val (.ref r550), .val (.ref r556)] [])) t → Steps p.tables e below (s₁.setTop (entryFrame m #[(.long q1), (.int p2), (.int p3)] maxLocals)) t := by
      intro t k
      refine pre576 _ ?_
      show Steps p.tables e below (T574.setTop (mkF m 131 #[.val (.long q1), .second, .val (.int p2), .val (.int p3), .val (.long (q1 &&& (4294967295 : Int64))), .second, .val (.int (2 : Int32)), .val (.ref b505), .val (.ref b511), .val (.ref r550), .val (.ref r556)] [(.int (lcmpW (F7 ((q1 &&& (4294967295 : Int64)).toInt32)) (q1 &&& (4294967295 : Int64))))])) _
      refine XS.ifYes X574.here hx rfl (pc0 := 131) (pc' := 182) rfl (hb hby at_131) rfl ((if0 _ _).trans (feq hc577).2) (by decide) (by decide) ?_
      exact k
    have pre603 : ∀ t, Steps p.tables e below (T574.setTop (mkF m 183 #[.val (.long q1), .second, .val (.int p2), .val (.int p3), .val (.long (q1 &&& (4294967295 : Int64))), .second, .val (.int (2 : Int32)), .val (.ref b505), .val (.ref b511), .val (.ref r550), .val (.ref r556)] [(.int (0 : Int32))])) t → Steps p.tables e below (s₁.setTop (entryFrame m #[(.long q1), (.int p2), (.int p3)] maxLocals)) t := by
      intro t k
      refine pre602 _ ?_
      show Steps p.tables e below (T574.setTop (mkF m 182 #[.val (.long q1), .second, .val (.int p2), .val (.int p3), .val (.long (q1 &&& (4294967295 : Int64))), .second, .val (.int (2 : Int32)), .val (.ref b505), .val (.ref b511), .val (.ref r550), .val (.ref r556)] [])) _
      refine XS.iconst X574.here hx rfl (hb hby at_182) ?_
      exact k
    obtain ⟨fs, hr, hrun, hended, hsame⟩ := Stand.leaveW (s := s) (vm₁ := T556.vm) X574 hS556 (by rw [e574]; exact K571) (v := some (.int (0 : Int32))) (fun h => by rw [hret] at h; cases h) (hlocks := hlocks)
    refine ⟨_, _, pre603 _ ?_, hrun, hended, _, _, rfl, ?_, ⟨hsame.1, hsame.2.1, hsame.2.2.1, hsame.2.2.2.mono (by decide) (by decide)⟩⟩
    · show Steps p.tables e below (T574.setTop (mkF m 183 #[.val (.long q1), .second, .val (.int p2), .val (.int p3), .val (.long (q1 &&& (4294967295 : Int64))), .second, .val (.int (2 : Int32)), .val (.ref b505), .val (.ref b511), .val (.ref r550), .val (.ref r556)] [(.int (0 : Int32))])) _
      exact retN X574 hx (t := .boolean) hret (by simp) (hb hby at_183) hr
    · show Q0k2 Z q1 p2 p3 h0 n0 _ T574.heap _
      exact ⟨(by rw [F0k2, if_neg hc577]), N574⟩
theorem ef_0k3 (m : MethodId) (x0 : Int64) (x1 : Int32) (x2 : Int32) : entryFrame m #[(.long x0), (.int x1), (.int x2)] maxLocals = mkF m 0 #[.val (.long x0), .second, .val (.int x1), .val (.int x2), .unset, .unset, .unset, .unset, .unset, .unset, .unset] [] := by first | (simp [entryFrame, mkF, argsToLocals, Value.category, maxLocals]; done) | rfl
def F0k3 (q1 : Int64) : Int32 :=
  if (lcmpW (F7 ((q1 &&& (4294967295 : Int64)).toInt32)) (q1 &&& (4294967295 : Int64))) = (0 : Int32) then (  if (lcmpW (F11 (3 : Int32)) (((3 : Int32).toInt64) + (80 : Int64))) = (0 : Int32) then (  (1 : Int32))
  else (  (0 : Int32)))
  else (  (0 : Int32))
def Q0k3 (Z : State) (q1 : Int64) (p2 : Int32) (p3 : Int32) (h0 : Heap) (n0 : Nat) (v : Option Value) (h : Heap) (L : List Loc) : Prop := v = some (.int (F0k3 q1)) ∧ Fr n0 L
set_option maxRecDepth 65536 in
set_option maxHeartbeats 40000000 in
theorem rm0k3 (l : Launch) (Z : State) (a0 : Array Value) (hw : ∀ d ∈ tables_1, d.before a0 Z = true) (ws : List Jvm.Cond) (q1 : Int64) (p2 : Int32) (p3 : Int32) (h0 : Heap) (n0 : Nat) (Z0 : n0 ≤ h0.size) (O0 : Old Z n0 h0) (hL : (p2 &&& (3 : Int32)) = (3 : Int32)) :
    MetFree l x (head1 (Jvm.Cond.code x code maxLocals ret :: ws) room_1) (fun a U => a = #[(.long q1), (.int p2), (.int p3)] ∧ Z.Warmed39 U.vm ∧ U.heap = h0) (fun _ _ _ _ _ => True) (fun _ U o U' => ∃ v L, o = .returned v ∧ Q0k3 Z q1 p2 p3 h0 n0 v U'.heap L ∧ ReturnedEndW U o U' L room_1.cells room_1.slots) := by
  refine MetFree.of_bodySF (plainFor_of_name pn_0) hisR ?_
  intro p e s m args below meth c s₁ Bd hml0 hP hK
  obtain ⟨rfl, hZ, hh⟩ := hP
  have hx := Bd.exec
  have hby := Bd.bytes
  have hml : c.maxLocals = 11 := hml0
  have hown : s.vm.findClass "com/example/message_buffer/messagebuffer/model/MessageOfPinLaw" = some m.cls := findClass_of_methodNamed Bd.named
  have hnm := (name_of_methodNamed Bd.named Bd.method).1
  have hret := Bd.returns
  have hlocks : meth.locks = false := Bd.notSynchronized
  have X0 : Stand p l e room_1 s m #[(.long q1), (.int p2), (.int p3)] below meth c s₁ [] 0 0 := Stand.of_body Bd
  have e0 : s₁.heap = h0 := by rw [← hh, Bd.state]; rfl
  have N0 := Fr.nil n0
  have hS0 : s.Since s.vm h0.size := (State.WarmedH.refl s).since _
  have SK0 : h0.size ≤ h0.size := Nat.le_refl _
  have pre0 : ∀ t, Steps p.tables e below (s₁.setTop (mkF m 0 #[.val (.long q1), .second, .val (.int p2), .val (.int p3), .unset, .unset, .unset, .unset, .unset, .unset, .unset] [])) t → Steps p.tables e below (s₁.setTop (entryFrame m #[(.long q1), (.int p2), (.int p3)] maxLocals)) t := fun t k => castTop (ef_0k3 m q1 p2 p3) k
  have pre604 : ∀ t, Steps p.tables e below (s₁.setTop (mkF m 9 #[.val (.long q1), .second, .val (.int p2), .val (.int p3), .val (.long (q1 &&& (4294967295 : Int64))), .second, .unset, .unset, .unset, .unset, .unset] [(.int (3 : Int32)), (.int p2)])) t → Steps p.tables e below (s₁.setTop (entryFrame m #[(.long q1), (.int p2), (.int p3)] maxLocals)) t := by
    intro t k
    refine pre0 _ ?_
    show Steps p.tables e below (s₁.setTop (mkF m 0 #[.val (.long q1), .second, .val (.int p2), .val (.int p3), .unset, .unset, .unset, .unset, .unset, .unset, .unset] [])) _
    refine XS.lloadN X0.here hx rfl (hb hby at_0) rfl ?_
    show Steps p.tables e below (s₁.setTop (mkF m 1 #[.val (.long q1), .second, .val (.int p2), .val (.int p3), .unset, .unset, .unset, .unset, .unset, .unset, .unset] [(.long q1)])) _
    refine X0.ldc2Long hx hown (mvT hZ (hw _ (List.mem_of_getElem? (i := 0) rfl))) (g := (mkF m 1 #[.val (.long q1), .second, .val (.int p2), .val (.int p3), .unset, .unset, .unset, .unset, .unset, .unset, .unset] [(.long q1)])) rfl (hb hby at_1) _ ?_
    show Steps p.tables e below (s₁.setTop (mkF m 4 #[.val (.long q1), .second, .val (.int p2), .val (.int p3), .unset, .unset, .unset, .unset, .unset, .unset, .unset] [(.long (4294967295 : Int64)), (.long q1)])) _
    refine XS.land X0.here hx rfl (hb hby at_4) rfl ?_
    show Steps p.tables e below (s₁.setTop (mkF m 5 #[.val (.long q1), .second, .val (.int p2), .val (.int p3), .unset, .unset, .unset, .unset, .unset, .unset, .unset] [(.long (q1 &&& (4294967295 : Int64)))])) _
    refine XS.lstore X0.here hx rfl (hb hby at_5) rfl (l' := #[.val (.long q1), .second, .val (.int p2), .val (.int p3), .val (.long (q1 &&& (4294967295 : Int64))), .second, .unset, .unset, .unset, .unset, .unset]) rfl ?_
    show Steps p.tables e below (s₁.setTop (mkF m 7 #[.val (.long q1), .second, .val (.int p2), .val (.int p3), .val (.long (q1 &&& (4294967295 : Int64))), .second, .unset, .unset, .unset, .unset, .unset] [])) _
    refine XS.iloadN X0.here hx rfl (hb hby at_7) rfl ?_
    show Steps p.tables e below (s₁.setTop (mkF m 8 #[.val (.long q1), .second, .val (.int p2), .val (.int p3), .val (.long (q1 &&& (4294967295 : Int64))), .second, .unset, .unset, .unset, .unset, .unset] [(.int p2)])) _
    refine XS.iconst X0.here hx rfl (hb hby at_8) ?_
    exact k
  have pre605 : ∀ t, Steps p.tables e below (s₁.setTop (mkF m 10 #[.val (.long q1), .second, .val (.int p2), .val (.int p3), .val (.long (q1 &&& (4294967295 : Int64))), .second, .unset, .unset, .unset, .unset, .unset] [(.int (3 : Int32))])) t → Steps p.tables e below (s₁.setTop (entryFrame m #[(.long q1), (.int p2), (.int p3)] maxLocals)) t := by
    intro t k
    refine pre604 _ ?_
    show Steps p.tables e below (s₁.setTop (mkF m 9 #[.val (.long q1), .second, .val (.int p2), .val (.int p3), .val (.long (q1 &&& (4294967295 : Int64))), .second, .unset, .unset, .unset, .unset, .unset] [(.int (3 : Int32)), (.int p2)])) _
    refine XS.iand X0.here hx rfl (hb hby at_9) rfl ?_
    show Steps p.tables e below (s₁.setTop (mkF m 10 #[.val (.long q1), .second, .val (.int p2), .val (.int p3), .val (.long (q1 &&& (4294967295 : Int64))), .second, .unset, .unset, .unset, .unset, .unset] [(.int (p2 &&& (3 : Int32)))])) _
    rw [hL]
    exact k
  have pre606 : ∀ t, Steps p.tables e below (s₁.setTop (mkF m 14 #[.val (.long q1), .second, .val (.int p2), .val (.int p3), .val (.long (q1 &&& (4294967295 : Int64))), .second, .val (.int (3 : Int32)), .unset, .unset, .unset, .unset] [(.int (3 : Int32))])) t → Steps p.tables e below (s₁.setTop (entryFrame m #[(.long q1), (.int p2), (.int p3)] maxLocals)) t := by
    intro t k
    refine pre605 _ ?_
    show Steps p.tables e below (s₁.setTop (mkF m 10 #[.val (.long q1), .second, .val (.int p2), .val (.int p3), .val (.long (q1 &&& (4294967295 : Int64))), .second, .unset, .unset, .unset, .unset, .unset] [(.int (3 : Int32))])) _
    refine XS.istore X0.here hx rfl (hb hby at_10) rfl (l' := #[.val (.long q1), .second, .val (.int p2), .val (.int p3), .val (.long (q1 &&& (4294967295 : Int64))), .second, .val (.int (3 : Int32)), .unset, .unset, .unset, .unset]) rfl ?_
    show Steps p.tables e below (s₁.setTop (mkF m 12 #[.val (.long q1), .second, .val (.int p2), .val (.int p3), .val (.long (q1 &&& (4294967295 : Int64))), .second, .val (.int (3 : Int32)), .unset, .unset, .unset, .unset] [])) _
    refine XS.iload X0.here hx rfl (hb hby at_12) rfl ?_
    exact k
  obtain ⟨T607, h607, k607, X607, e607, E607, A607, Ex607, st607⟩ := newPE X0 hx hZ (hw _ (List.mem_of_getElem? (i := 1) rfl)) e0 (g := (mkF m 14 #[.val (.long q1), .second, .val (.int p2), .val (.int p3), .val (.long (q1 &&& (4294967295 : Int64))), .second, .val (.int (3 : Int32)), .unset, .unset, .unset, .unset] [(.int (3 : Int32))])) rfl (hb hby at_14) rfl (by decide) (cap := 3) (by decide) (by decide) (by decide) (by decide) (ad := "[B") (by decide)
  obtain ⟨b607, g607⟩ : ∃ z, z = h0.size := ⟨_, rfl⟩
  rw [← g607] at A607 Ex607 st607
  have g_b607 : n0 ≤ b607 := Nat.le_trans Z0 (Nat.le_of_eq g607.symm)
  have O608 := O0.ext E607
  have Z609 : n0 ≤ h607.size := Nat.le_trans Z0 E607.1
  have K610 := Nat.le_trans SK0 E607.1
  have V607 : Arv Z h607 b607 k607 .byte (3 : Int32) [(.int (0 : Int32)), (.int (0 : Int32)), (.int (0 : Int32))] (.int (0 : Int32)) := (Arv.new A607 (by decide)).pad (pad_rep [] (.int (0 : Int32)) 3)
  have pre611 : ∀ t, Steps p.tables e below (T607.setTop (mkF m 16 #[.val (.long q1), .second, .val (.int p2), .val (.int p3), .val (.long (q1 &&& (4294967295 : Int64))), .second, .val (.int (3 : Int32)), .unset, .unset, .unset, .unset] [(.ref b607)])) t → Steps p.tables e below (s₁.setTop (entryFrame m #[(.long q1), (.int p2), (.int p3)] maxLocals)) t := by
    intro t k
    refine pre606 _ ?_
    show Steps p.tables e below (s₁.setTop (mkF m 14 #[.val (.long q1), .second, .val (.int p2), .val (.int p3), .val (.long (q1 &&& (4294967295 : Int64))), .second, .val (.int (3 : Int32)), .unset, .unset, .unset, .unset] [(.int (3 : Int32))])) _
    refine st607 _ ?_
    exact k
  have pre612 : ∀ t, Steps p.tables e below (T607.setTop (mkF m 20 #[.val (.long q1), .second, .val (.int p2), .val (.int p3), .val (.long (q1 &&& (4294967295 : Int64))), .second, .val (.int (3 : Int32)), .val (.ref b607), .unset, .unset, .unset] [(.int (3 : Int32))])) t → Steps p.tables e below (s₁.setTop (entryFrame m #[(.long q1), (.int p2), (.int p3)] maxLocals)) t := by
    intro t k
    refine pre611 _ ?_
    show Steps p.tables e below (T607.setTop (mkF m 16 #[.val (.long q1), .second, .val (.int p2), .val (.int p3), .val (.long (q1 &&& (4294967295 : Int64))), .second, .val (.int (3 : Int32)), .unset, .unset, .unset, .unset] [(.ref b607)])) _
    refine XS.astore X607.here hx rfl (hb hby at_16) rfl rfl (l' := #[.val (.long q1), .second, .val (.int p2), .val (.int p3), .val (.long (q1 &&& (4294967295 : Int64))), .second, .val (.int (3 : Int32)), .val (.ref b607), .unset, .unset, .unset]) rfl ?_
    show Steps p.tables e below (T607.setTop (mkF m 18 #[.val (.long q1), .second, .val (.int p2), .val (.int p3), .val (.long (q1 &&& (4294967295 : Int64))), .second, .val (.int (3 : Int32)), .val (.ref b607), .unset, .unset, .unset] [])) _
    refine XS.iload X607.here hx rfl (hb hby at_18) rfl ?_
    exact k
  obtain ⟨T613, h613, k613, X613, e613, E613, A613, Ex613, st613⟩ := newPE X607 hx hZ (hw _ (List.mem_of_getElem? (i := 1) rfl)) e607 (g := (mkF m 20 #[.val (.long q1), .second, .val (.int p2), .val (.int p3), .val (.long (q1 &&& (4294967295 : Int64))), .second, .val (.int (3 : Int32)), .val (.ref b607), .unset, .unset, .unset] [(.int (3 : Int32))])) rfl (hb hby at_20) rfl (by decide) (cap := 3) (by decide) (by decide) (by decide) (by decide) (ad := "[B") (by decide)
  obtain ⟨b613, g613⟩ : ∃ z, z = h607.size := ⟨_, rfl⟩
  rw [← g613] at A613 Ex613 st613
  have g_b613 : n0 ≤ b613 := Nat.le_trans Z609 (Nat.le_of_eq g613.symm)
  have ne_b607_b613 : b607 ≠ b613 := Nat.ne_of_lt (Nat.lt_of_lt_of_le V607.lt (Nat.le_of_eq g613.symm))
  have O614 := O608.ext E613
  have Z615 : n0 ≤ h613.size := Nat.le_trans Z609 E613.1
  have K616 := Nat.le_trans K610 E613.1
  have V613 : Arv Z h613 b613 k613 .byte (3 : Int32) [(.int (0 : Int32)), (.int (0 : Int32)), (.int (0 : Int32))] (.int (0 : Int32)) := (Arv.new A613 (by decide)).pad (pad_rep [] (.int (0 : Int32)) 3)
  have pre617 : ∀ t, Steps p.tables e below (T613.setTop (mkF m 22 #[.val (.long q1), .second, .val (.int p2), .val (.int p3), .val (.long (q1 &&& (4294967295 : Int64))), .second, .val (.int (3 : Int32)), .val (.ref b607), .unset, .unset, .unset] [(.ref b613)])) t → Steps p.tables e below (s₁.setTop (entryFrame m #[(.long q1), (.int p2), (.int p3)] maxLocals)) t := by
    intro t k
    refine pre612 _ ?_
    show Steps p.tables e below (T607.setTop (mkF m 20 #[.val (.long q1), .second, .val (.int p2), .val (.int p3), .val (.long (q1 &&& (4294967295 : Int64))), .second, .val (.int (3 : Int32)), .val (.ref b607), .unset, .unset, .unset] [(.int (3 : Int32))])) _
    refine st613 _ ?_
    exact k
  have pre618 : ∀ t, Steps p.tables e below (T613.setTop (mkF m 26 #[.val (.long q1), .second, .val (.int p2), .val (.int p3), .val (.long (q1 &&& (4294967295 : Int64))), .second, .val (.int (3 : Int32)), .val (.ref b607), .val (.ref b613), .unset, .unset] [(.int (3 : Int32))])) t → Steps p.tables e below (s₁.setTop (entryFrame m #[(.long q1), (.int p2), (.int p3)] maxLocals)) t := by
    intro t k
    refine pre617 _ ?_
    show Steps p.tables e below (T613.setTop (mkF m 22 #[.val (.long q1), .second, .val (.int p2), .val (.int p3), .val (.long (q1 &&& (4294967295 : Int64))), .second, .val (.int (3 : Int32)), .val (.ref b607), .unset, .unset, .unset] [(.ref b613)])) _
    refine XS.astore X613.here hx rfl (hb hby at_22) rfl rfl (l' := #[.val (.long q1), .second, .val (.int p2), .val (.int p3), .val (.long (q1 &&& (4294967295 : Int64))), .second, .val (.int (3 : Int32)), .val (.ref b607), .val (.ref b613), .unset, .unset]) rfl ?_
    show Steps p.tables e below (T613.setTop (mkF m 24 #[.val (.long q1), .second, .val (.int p2), .val (.int p3), .val (.long (q1 &&& (4294967295 : Int64))), .second, .val (.int (3 : Int32)), .val (.ref b607), .val (.ref b613), .unset, .unset] [])) _
    refine XS.iload X613.here hx rfl (hb hby at_24) rfl ?_
    exact k
  have pre620 : ∀ t, Steps p.tables e below (T613.setTop (mkF m 29 #[.val (.long q1), .second, .val (.int p2), .val (.int p3), .val (.long (q1 &&& (4294967295 : Int64))), .second, .val (.int (3 : Int32)), .val (.ref b607), .val (.ref b613), .unset, .unset] [])) t → Steps p.tables e below (s₁.setTop (entryFrame m #[(.long q1), (.int p2), (.int p3)] maxLocals)) t := by
    intro t k
    refine pre618 _ ?_
    show Steps p.tables e below (T613.setTop (mkF m 26 #[.val (.long q1), .second, .val (.int p2), .val (.int p3), .val (.long (q1 &&& (4294967295 : Int64))), .second, .val (.int (3 : Int32)), .val (.ref b607), .val (.ref b613), .unset, .unset] [(.int (3 : Int32))])) _
    refine XS.ifNo X613.here hx rfl (hb hby at_26) rfl ((if0 _ _).trans (tlt (by decide : (0 : Int32) < (3 : Int32))).2.2.2) ?_
    exact k
  have pre621 : ∀ t, Steps p.tables e below (T613.setTop (mkF m 34 #[.val (.long q1), .second, .val (.int p2), .val (.int p3), .val (.long (q1 &&& (4294967295 : Int64))), .second, .val (.int (3 : Int32)), .val (.ref b607), .val (.ref b613), .unset, .unset] [(.int (p3.toInt8.toInt32)), (.int (0 : Int32)), (.ref b607)])) t → Steps p.tables e below (s₁.setTop (entryFrame m #[(.long q1), (.int p2), (.int p3)] maxLocals)) t := by
    intro t k
    refine pre620 _ ?_
    show Steps p.tables e below (T613.setTop (mkF m 29 #[.val (.long q1), .second, .val (.int p2), .val (.int p3), .val (.long (q1 &&& (4294967295 : Int64))), .second, .val (.int (3 : Int32)), .val (.ref b607), .val (.ref b613), .unset, .unset] [])) _
    refine XS.aload X613.here hx rfl (hb hby at_29) rfl rfl ?_
    show Steps p.tables e below (T613.setTop (mkF m 31 #[.val (.long q1), .second, .val (.int p2), .val (.int p3), .val (.long (q1 &&& (4294967295 : Int64))), .second, .val (.int (3 : Int32)), .val (.ref b607), .val (.ref b613), .unset, .unset] [(.ref b607)])) _
    refine XS.iconst X613.here hx rfl (hb hby at_31) ?_
    show Steps p.tables e below (T613.setTop (mkF m 32 #[.val (.long q1), .second, .val (.int p2), .val (.int p3), .val (.long (q1 &&& (4294967295 : Int64))), .second, .val (.int (3 : Int32)), .val (.ref b607), .val (.ref b613), .unset, .unset] [(.int (0 : Int32)), (.ref b607)])) _
    refine XS.iloadN X613.here hx rfl (hb hby at_32) rfl ?_
    show Steps p.tables e below (T613.setTop (mkF m 33 #[.val (.long q1), .second, .val (.int p2), .val (.int p3), .val (.long (q1 &&& (4294967295 : Int64))), .second, .val (.int (3 : Int32)), .val (.ref b607), .val (.ref b613), .unset, .unset] [(.int p3), (.int (0 : Int32)), (.ref b607)])) _
    refine XS.i2b X613.here hx rfl (hb hby at_33) rfl ?_
    exact k
  obtain ⟨cl622, Ar622, q622, S622, N_622, H622, G622⟩ := (V607.ext E613)
  obtain ⟨T622, h622, X622, e622, W622, st622⟩ := stB X613 hx hZ e613 Ar622 (j := (0 : Int32)) (inb_of S622 ⟨by decide, by decide⟩) (g := (mkF m 34 #[.val (.long q1), .second, .val (.int p2), .val (.int p3), .val (.long (q1 &&& (4294967295 : Int64))), .second, .val (.int (3 : Int32)), .val (.ref b607), .val (.ref b613), .unset, .unset] [(.int (p3.toInt8.toInt32)), (.int (0 : Int32)), (.ref b607)])) rfl rfl (hb hby at_34)
  have V622 : Arv Z h622 b607 k607 .byte (3 : Int32) [(.int (nar .byte (p3.toInt8.toInt32))), (.int (0 : Int32)), (.int (0 : Int32))] (.int (0 : Int32)) := Arv.set Ar622 q622 S622 N_622 H622 G622 (fits_nar_byte _) W622 0 rfl (Nat.le_of_ble_eq_true rfl)
  have O623 := O614.wr W622 g_b607
  have Z624 : n0 ≤ h622.size := Nat.le_trans Z615 (Keep.of_wr W622).1
  have K625 := Nat.le_trans K616 (Keep.of_wr W622).1
  have NN622 := Fr.snoc X622 N0 g_b607
  have pre626 : ∀ t, Steps p.tables e below (T622.setTop (mkF m 35 #[.val (.long q1), .second, .val (.int p2), .val (.int p3), .val (.long (q1 &&& (4294967295 : Int64))), .second, .val (.int (3 : Int32)), .val (.ref b607), .val (.ref b613), .unset, .unset] [])) t → Steps p.tables e below (s₁.setTop (entryFrame m #[(.long q1), (.int p2), (.int p3)] maxLocals)) t := by
    intro t k
    refine pre621 _ ?_
    show Steps p.tables e below (T613.setTop (mkF m 34 #[.val (.long q1), .second, .val (.int p2), .val (.int p3), .val (.long (q1 &&& (4294967295 : Int64))), .second, .val (.int (3 : Int32)), .val (.ref b607), .val (.ref b613), .unset, .unset] [(.int (p3.toInt8.toInt32)), (.int (0 : Int32)), (.ref b607)])) _
    refine st622 _ ?_
    exact k
  have pre627 : ∀ t, Steps p.tables e below (T622.setTop (mkF m 40 #[.val (.long q1), .second, .val (.int p2), .val (.int p3), .val (.long (q1 &&& (4294967295 : Int64))), .second, .val (.int (3 : Int32)), .val (.ref b607), .val (.ref b613), .unset, .unset] [(.int (p3.toInt8.toInt32)), (.int (0 : Int32)), (.ref b613)])) t → Steps p.tables e below (s₁.setTop (entryFrame m #[(.long q1), (.int p2), (.int p3)] maxLocals)) t := by
    intro t k
    refine pre626 _ ?_
    show Steps p.tables e below (T622.setTop (mkF m 35 #[.val (.long q1), .second, .val (.int p2), .val (.int p3), .val (.long (q1 &&& (4294967295 : Int64))), .second, .val (.int (3 : Int32)), .val (.ref b607), .val (.ref b613), .unset, .unset] [])) _
    refine XS.aload X622.here hx rfl (hb hby at_35) rfl rfl ?_
    show Steps p.tables e below (T622.setTop (mkF m 37 #[.val (.long q1), .second, .val (.int p2), .val (.int p3), .val (.long (q1 &&& (4294967295 : Int64))), .second, .val (.int (3 : Int32)), .val (.ref b607), .val (.ref b613), .unset, .unset] [(.ref b613)])) _
    refine XS.iconst X622.here hx rfl (hb hby at_37) ?_
    show Steps p.tables e below (T622.setTop (mkF m 38 #[.val (.long q1), .second, .val (.int p2), .val (.int p3), .val (.long (q1 &&& (4294967295 : Int64))), .second, .val (.int (3 : Int32)), .val (.ref b607), .val (.ref b613), .unset, .unset] [(.int (0 : Int32)), (.ref b613)])) _
    refine XS.iloadN X622.here hx rfl (hb hby at_38) rfl ?_
    show Steps p.tables e below (T622.setTop (mkF m 39 #[.val (.long q1), .second, .val (.int p2), .val (.int p3), .val (.long (q1 &&& (4294967295 : Int64))), .second, .val (.int (3 : Int32)), .val (.ref b607), .val (.ref b613), .unset, .unset] [(.int p3), (.int (0 : Int32)), (.ref b613)])) _
    refine XS.i2b X622.here hx rfl (hb hby at_39) rfl ?_
    exact k
  obtain ⟨cl628, Ar628, q628, S628, N_628, H628, G628⟩ := (V613.other W622 (Ne.symm ne_b607_b613))
  obtain ⟨T628, h628, X628, e628, W628, st628⟩ := stB X622 hx hZ e622 Ar628 (j := (0 : Int32)) (inb_of S628 ⟨by decide, by decide⟩) (g := (mkF m 40 #[.val (.long q1), .second, .val (.int p2), .val (.int p3), .val (.long (q1 &&& (4294967295 : Int64))), .second, .val (.int (3 : Int32)), .val (.ref b607), .val (.ref b613), .unset, .unset] [(.int (p3.toInt8.toInt32)), (.int (0 : Int32)), (.ref b613)])) rfl rfl (hb hby at_40)
  have V628 : Arv Z h628 b613 k613 .byte (3 : Int32) [(.int (nar .byte (p3.toInt8.toInt32))), (.int (0 : Int32)), (.int (0 : Int32))] (.int (0 : Int32)) := Arv.set Ar628 q628 S628 N_628 H628 G628 (fits_nar_byte _) W628 0 rfl (Nat.le_of_ble_eq_true rfl)
  have O629 := O623.wr W628 g_b613
  have Z630 : n0 ≤ h628.size := Nat.le_trans Z624 (Keep.of_wr W628).1
  have K631 := Nat.le_trans K625 (Keep.of_wr W628).1
  have NN628 := Fr.snoc X628 NN622 g_b613
  have pre632 : ∀ t, Steps p.tables e below (T628.setTop (mkF m 41 #[.val (.long q1), .second, .val (.int p2), .val (.int p3), .val (.long (q1 &&& (4294967295 : Int64))), .second, .val (.int (3 : Int32)), .val (.ref b607), .val (.ref b613), .unset, .unset] [])) t → Steps p.tables e below (s₁.setTop (entryFrame m #[(.long q1), (.int p2), (.int p3)] maxLocals)) t := by
    intro t k
    refine pre627 _ ?_
    show Steps p.tables e below (T622.setTop (mkF m 40 #[.val (.long q1), .second, .val (.int p2), .val (.int p3), .val (.long (q1 &&& (4294967295 : Int64))), .second, .val (.int (3 : Int32)), .val (.ref b607), .val (.ref b613), .unset, .unset] [(.int (p3.toInt8.toInt32)), (.int (0 : Int32)), (.ref b613)])) _
    refine st628 _ ?_
    exact k
  have pre633 : ∀ t, Steps p.tables e below (T628.setTop (mkF m 44 #[.val (.long q1), .second, .val (.int p2), .val (.int p3), .val (.long (q1 &&& (4294967295 : Int64))), .second, .val (.int (3 : Int32)), .val (.ref b607), .val (.ref b613), .unset, .unset] [(.int (1 : Int32)), (.int (3 : Int32))])) t → Steps p.tables e below (s₁.setTop (entryFrame m #[(.long q1), (.int p2), (.int p3)] maxLocals)) t := by
    intro t k
    refine pre632 _ ?_
    show Steps p.tables e below (T628.setTop (mkF m 41 #[.val (.long q1), .second, .val (.int p2), .val (.int p3), .val (.long (q1 &&& (4294967295 : Int64))), .second, .val (.int (3 : Int32)), .val (.ref b607), .val (.ref b613), .unset, .unset] [])) _
    refine XS.iload X628.here hx rfl (hb hby at_41) rfl ?_
    show Steps p.tables e below (T628.setTop (mkF m 43 #[.val (.long q1), .second, .val (.int p2), .val (.int p3), .val (.long (q1 &&& (4294967295 : Int64))), .second, .val (.int (3 : Int32)), .val (.ref b607), .val (.ref b613), .unset, .unset] [(.int (3 : Int32))])) _
    refine XS.iconst X628.here hx rfl (hb hby at_43) ?_
    exact k
  have pre635 : ∀ t, Steps p.tables e below (T628.setTop (mkF m 47 #[.val (.long q1), .second, .val (.int p2), .val (.int p3), .val (.long (q1 &&& (4294967295 : Int64))), .second, .val (.int (3 : Int32)), .val (.ref b607), .val (.ref b613), .unset, .unset] [])) t → Steps p.tables e below (s₁.setTop (entryFrame m #[(.long q1), (.int p2), (.int p3)] maxLocals)) t := by
    intro t k
    refine pre633 _ ?_
    show Steps p.tables e below (T628.setTop (mkF m 44 #[.val (.long q1), .second, .val (.int p2), .val (.int p3), .val (.long (q1 &&& (4294967295 : Int64))), .second, .val (.int (3 : Int32)), .val (.ref b607), .val (.ref b613), .unset, .unset] [(.int (1 : Int32)), (.int (3 : Int32))])) _
    refine XS.icmpNo X628.here hx rfl (hb hby at_44) rfl (tlt (by decide : (1 : Int32) < (3 : Int32))).2.2.2 ?_
    exact k
  have pre636 : ∀ t, Steps p.tables e below (T628.setTop (mkF m 55 #[.val (.long q1), .second, .val (.int p2), .val (.int p3), .val (.long (q1 &&& (4294967295 : Int64))), .second, .val (.int (3 : Int32)), .val (.ref b607), .val (.ref b613), .unset, .unset] [(.int ((p3 >>> ((8 : Int32) &&& 31)).toInt8.toInt32)), (.int (1 : Int32)), (.ref b607)])) t → Steps p.tables e below (s₁.setTop (entryFrame m #[(.long q1), (.int p2), (.int p3)] maxLocals)) t := by
    intro t k
    refine pre635 _ ?_
    show Steps p.tables e below (T628.setTop (mkF m 47 #[.val (.long q1), .second, .val (.int p2), .val (.int p3), .val (.long (q1 &&& (4294967295 : Int64))), .second, .val (.int (3 : Int32)), .val (.ref b607), .val (.ref b613), .unset, .unset] [])) _
    refine XS.aload X628.here hx rfl (hb hby at_47) rfl rfl ?_
    show Steps p.tables e below (T628.setTop (mkF m 49 #[.val (.long q1), .second, .val (.int p2), .val (.int p3), .val (.long (q1 &&& (4294967295 : Int64))), .second, .val (.int (3 : Int32)), .val (.ref b607), .val (.ref b613), .unset, .unset] [(.ref b607)])) _
    refine XS.iconst X628.here hx rfl (hb hby at_49) ?_
    show Steps p.tables e below (T628.setTop (mkF m 50 #[.val (.long q1), .second, .val (.int p2), .val (.int p3), .val (.long (q1 &&& (4294967295 : Int64))), .second, .val (.int (3 : Int32)), .val (.ref b607), .val (.ref b613), .unset, .unset] [(.int (1 : Int32)), (.ref b607)])) _
    refine XS.iloadN X628.here hx rfl (hb hby at_50) rfl ?_
    show Steps p.tables e below (T628.setTop (mkF m 51 #[.val (.long q1), .second, .val (.int p2), .val (.int p3), .val (.long (q1 &&& (4294967295 : Int64))), .second, .val (.int (3 : Int32)), .val (.ref b607), .val (.ref b613), .unset, .unset] [(.int p3), (.int (1 : Int32)), (.ref b607)])) _
    refine XS.bipush X628.here hx rfl (hb hby at_51) ?_
    show Steps p.tables e below (T628.setTop (mkF m 53 #[.val (.long q1), .second, .val (.int p2), .val (.int p3), .val (.long (q1 &&& (4294967295 : Int64))), .second, .val (.int (3 : Int32)), .val (.ref b607), .val (.ref b613), .unset, .unset] [(.int (8 : Int32)), (.int p3), (.int (1 : Int32)), (.ref b607)])) _
    refine XS.ishr X628.here hx rfl (hb hby at_53) rfl ?_
    show Steps p.tables e below (T628.setTop (mkF m 54 #[.val (.long q1), .second, .val (.int p2), .val (.int p3), .val (.long (q1 &&& (4294967295 : Int64))), .second, .val (.int (3 : Int32)), .val (.ref b607), .val (.ref b613), .unset, .unset] [(.int (p3 >>> ((8 : Int32) &&& 31))), (.int (1 : Int32)), (.ref b607)])) _
    refine XS.i2b X628.here hx rfl (hb hby at_54) rfl ?_
    exact k
  obtain ⟨cl637, Ar637, q637, S637, N_637, H637, G637⟩ := (V622.other W628 ne_b607_b613)
  obtain ⟨T637, h637, X637, e637, W637, st637⟩ := stB X628 hx hZ e628 Ar637 (j := (1 : Int32)) (inb_of S637 ⟨by decide, by decide⟩) (g := (mkF m 55 #[.val (.long q1), .second, .val (.int p2), .val (.int p3), .val (.long (q1 &&& (4294967295 : Int64))), .second, .val (.int (3 : Int32)), .val (.ref b607), .val (.ref b613), .unset, .unset] [(.int ((p3 >>> ((8 : Int32) &&& 31)).toInt8.toInt32)), (.int (1 : Int32)), (.ref b607)])) rfl rfl (hb hby at_55)
  have V637 : Arv Z h637 b607 k607 .byte (3 : Int32) [(.int (nar .byte (p3.toInt8.toInt32))), (.int (nar .byte ((p3 >>> ((8 : Int32) &&& 31)).toInt8.toInt32))), (.int (0 : Int32))] (.int (0 : Int32)) := Arv.set Ar637 q637 S637 N_637 H637 G637 (fits_nar_byte _) W637 1 rfl (Nat.le_of_ble_eq_true rfl)
  have O638 := O629.wr W637 g_b607
  have Z639 : n0 ≤ h637.size := Nat.le_trans Z630 (Keep.of_wr W637).1
  have K640 := Nat.le_trans K631 (Keep.of_wr W637).1
  have NN637 := Fr.snoc X637 NN628 g_b607
  have pre641 : ∀ t, Steps p.tables e below (T637.setTop (mkF m 56 #[.val (.long q1), .second, .val (.int p2), .val (.int p3), .val (.long (q1 &&& (4294967295 : Int64))), .second, .val (.int (3 : Int32)), .val (.ref b607), .val (.ref b613), .unset, .unset] [])) t → Steps p.tables e below (s₁.setTop (entryFrame m #[(.long q1), (.int p2), (.int p3)] maxLocals)) t := by
    intro t k
    refine pre636 _ ?_
    show Steps p.tables e below (T628.setTop (mkF m 55 #[.val (.long q1), .second, .val (.int p2), .val (.int p3), .val (.long (q1 &&& (4294967295 : Int64))), .second, .val (.int (3 : Int32)), .val (.ref b607), .val (.ref b613), .unset, .unset] [(.int ((p3 >>> ((8 : Int32) &&& 31)).toInt8.toInt32)), (.int (1 : Int32)), (.ref b607)])) _
    refine st637 _ ?_
    exact k
  have pre642 : ∀ t, Steps p.tables e below (T637.setTop (mkF m 64 #[.val (.long q1), .second, .val (.int p2), .val (.int p3), .val (.long (q1 &&& (4294967295 : Int64))), .second, .val (.int (3 : Int32)), .val (.ref b607), .val (.ref b613), .unset, .unset] [(.int ((p3 >>> ((8 : Int32) &&& 31)).toInt8.toInt32)), (.int (1 : Int32)), (.ref b613)])) t → Steps p.tables e below (s₁.setTop (entryFrame m #[(.long q1), (.int p2), (.int p3)] maxLocals)) t := by
    intro t k
    refine pre641 _ ?_
    show Steps p.tables e below (T637.setTop (mkF m 56 #[.val (.long q1), .second, .val (.int p2), .val (.int p3), .val (.long (q1 &&& (4294967295 : Int64))), .second, .val (.int (3 : Int32)), .val (.ref b607), .val (.ref b613), .unset, .unset] [])) _
    refine XS.aload X637.here hx rfl (hb hby at_56) rfl rfl ?_
    show Steps p.tables e below (T637.setTop (mkF m 58 #[.val (.long q1), .second, .val (.int p2), .val (.int p3), .val (.long (q1 &&& (4294967295 : Int64))), .second, .val (.int (3 : Int32)), .val (.ref b607), .val (.ref b613), .unset, .unset] [(.ref b613)])) _
    refine XS.iconst X637.here hx rfl (hb hby at_58) ?_
    show Steps p.tables e below (T637.setTop (mkF m 59 #[.val (.long q1), .second, .val (.int p2), .val (.int p3), .val (.long (q1 &&& (4294967295 : Int64))), .second, .val (.int (3 : Int32)), .val (.ref b607), .val (.ref b613), .unset, .unset] [(.int (1 : Int32)), (.ref b613)])) _
    refine XS.iloadN X637.here hx rfl (hb hby at_59) rfl ?_
    show Steps p.tables e below (T637.setTop (mkF m 60 #[.val (.long q1), .second, .val (.int p2), .val (.int p3), .val (.long (q1 &&& (4294967295 : Int64))), .second, .val (.int (3 : Int32)), .val (.ref b607), .val (.ref b613), .unset, .unset] [(.int p3), (.int (1 : Int32)), (.ref b613)])) _
    refine XS.bipush X637.here hx rfl (hb hby at_60) ?_
    show Steps p.tables e below (T637.setTop (mkF m 62 #[.val (.long q1), .second, .val (.int p2), .val (.int p3), .val (.long (q1 &&& (4294967295 : Int64))), .second, .val (.int (3 : Int32)), .val (.ref b607), .val (.ref b613), .unset, .unset] [(.int (8 : Int32)), (.int p3), (.int (1 : Int32)), (.ref b613)])) _
    refine XS.ishr X637.here hx rfl (hb hby at_62) rfl ?_
    show Steps p.tables e below (T637.setTop (mkF m 63 #[.val (.long q1), .second, .val (.int p2), .val (.int p3), .val (.long (q1 &&& (4294967295 : Int64))), .second, .val (.int (3 : Int32)), .val (.ref b607), .val (.ref b613), .unset, .unset] [(.int (p3 >>> ((8 : Int32) &&& 31))), (.int (1 : Int32)), (.ref b613)])) _
    refine XS.i2b X637.here hx rfl (hb hby at_63) rfl ?_
    exact k
  obtain ⟨cl643, Ar643, q643, S643, N_643, H643, G643⟩ := (V628.other W637 (Ne.symm ne_b607_b613))
  obtain ⟨T643, h643, X643, e643, W643, st643⟩ := stB X637 hx hZ e637 Ar643 (j := (1 : Int32)) (inb_of S643 ⟨by decide, by decide⟩) (g := (mkF m 64 #[.val (.long q1), .second, .val (.int p2), .val (.int p3), .val (.long (q1 &&& (4294967295 : Int64))), .second, .val (.int (3 : Int32)), .val (.ref b607), .val (.ref b613), .unset, .unset] [(.int ((p3 >>> ((8 : Int32) &&& 31)).toInt8.toInt32)), (.int (1 : Int32)), (.ref b613)])) rfl rfl (hb hby at_64)
  have V643 : Arv Z h643 b613 k613 .byte (3 : Int32) [(.int (nar .byte (p3.toInt8.toInt32))), (.int (nar .byte ((p3 >>> ((8 : Int32) &&& 31)).toInt8.toInt32))), (.int (0 : Int32))] (.int (0 : Int32)) := Arv.set Ar643 q643 S643 N_643 H643 G643 (fits_nar_byte _) W643 1 rfl (Nat.le_of_ble_eq_true rfl)
  have O644 := O638.wr W643 g_b613
  have Z645 : n0 ≤ h643.size := Nat.le_trans Z639 (Keep.of_wr W643).1
  have K646 := Nat.le_trans K640 (Keep.of_wr W643).1
  have NN643 := Fr.snoc X643 NN637 g_b613
  have pre647 : ∀ t, Steps p.tables e below (T643.setTop (mkF m 65 #[.val (.long q1), .second, .val (.int p2), .val (.int p3), .val (.long (q1 &&& (4294967295 : Int64))), .second, .val (.int (3 : Int32)), .val (.ref b607), .val (.ref b613), .unset, .unset] [])) t → Steps p.tables e below (s₁.setTop (entryFrame m #[(.long q1), (.int p2), (.int p3)] maxLocals)) t := by
    intro t k
    refine pre642 _ ?_
    show Steps p.tables e below (T637.setTop (mkF m 64 #[.val (.long q1), .second, .val (.int p2), .val (.int p3), .val (.long (q1 &&& (4294967295 : Int64))), .second, .val (.int (3 : Int32)), .val (.ref b607), .val (.ref b613), .unset, .unset] [(.int ((p3 >>> ((8 : Int32) &&& 31)).toInt8.toInt32)), (.int (1 : Int32)), (.ref b613)])) _
    refine st643 _ ?_
    exact k
  have pre648 : ∀ t, Steps p.tables e below (T643.setTop (mkF m 68 #[.val (.long q1), .second, .val (.int p2), .val (.int p3), .val (.long (q1 &&& (4294967295 : Int64))), .second, .val (.int (3 : Int32)), .val (.ref b607), .val (.ref b613), .unset, .unset] [(.int (2 : Int32)), (.int (3 : Int32))])) t → Steps p.tables e below (s₁.setTop (entryFrame m #[(.long q1), (.int p2), (.int p3)] maxLocals)) t := by
    intro t k
    refine pre647 _ ?_
    show Steps p.tables e below (T643.setTop (mkF m 65 #[.val (.long q1), .second, .val (.int p2), .val (.int p3), .val (.long (q1 &&& (4294967295 : Int64))), .second, .val (.int (3 : Int32)), .val (.ref b607), .val (.ref b613), .unset, .unset] [])) _
    refine XS.iload X643.here hx rfl (hb hby at_65) rfl ?_
    show Steps p.tables e below (T643.setTop (mkF m 67 #[.val (.long q1), .second, .val (.int p2), .val (.int p3), .val (.long (q1 &&& (4294967295 : Int64))), .second, .val (.int (3 : Int32)), .val (.ref b607), .val (.ref b613), .unset, .unset] [(.int (3 : Int32))])) _
    refine XS.iconst X643.here hx rfl (hb hby at_67) ?_
    exact k
  have pre650 : ∀ t, Steps p.tables e below (T643.setTop (mkF m 71 #[.val (.long q1), .second, .val (.int p2), .val (.int p3), .val (.long (q1 &&& (4294967295 : Int64))), .second, .val (.int (3 : Int32)), .val (.ref b607), .val (.ref b613), .unset, .unset] [])) t → Steps p.tables e below (s₁.setTop (entryFrame m #[(.long q1), (.int p2), (.int p3)] maxLocals)) t := by
    intro t k
    refine pre648 _ ?_
    show Steps p.tables e below (T643.setTop (mkF m 68 #[.val (.long q1), .second, .val (.int p2), .val (.int p3), .val (.long (q1 &&& (4294967295 : Int64))), .second, .val (.int (3 : Int32)), .val (.ref b607), .val (.ref b613), .unset, .unset] [(.int (2 : Int32)), (.int (3 : Int32))])) _
    refine XS.icmpNo X643.here hx rfl (hb hby at_68) rfl (tlt (by decide : (2 : Int32) < (3 : Int32))).2.2.2 ?_
    exact k
  have pre651 : ∀ t, Steps p.tables e below (T643.setTop (mkF m 79 #[.val (.long q1), .second, .val (.int p2), .val (.int p3), .val (.long (q1 &&& (4294967295 : Int64))), .second, .val (.int (3 : Int32)), .val (.ref b607), .val (.ref b613), .unset, .unset] [(.int ((p3 >>> ((16 : Int32) &&& 31)).toInt8.toInt32)), (.int (2 : Int32)), (.ref b607)])) t → Steps p.tables e below (s₁.setTop (entryFrame m #[(.long q1), (.int p2), (.int p3)] maxLocals)) t := by
    intro t k
    refine pre650 _ ?_
    show Steps p.tables e below (T643.setTop (mkF m 71 #[.val (.long q1), .second, .val (.int p2), .val (.int p3), .val (.long (q1 &&& (4294967295 : Int64))), .second, .val (.int (3 : Int32)), .val (.ref b607), .val (.ref b613), .unset, .unset] [])) _
    refine XS.aload X643.here hx rfl (hb hby at_71) rfl rfl ?_
    show Steps p.tables e below (T643.setTop (mkF m 73 #[.val (.long q1), .second, .val (.int p2), .val (.int p3), .val (.long (q1 &&& (4294967295 : Int64))), .second, .val (.int (3 : Int32)), .val (.ref b607), .val (.ref b613), .unset, .unset] [(.ref b607)])) _
    refine XS.iconst X643.here hx rfl (hb hby at_73) ?_
    show Steps p.tables e below (T643.setTop (mkF m 74 #[.val (.long q1), .second, .val (.int p2), .val (.int p3), .val (.long (q1 &&& (4294967295 : Int64))), .second, .val (.int (3 : Int32)), .val (.ref b607), .val (.ref b613), .unset, .unset] [(.int (2 : Int32)), (.ref b607)])) _
    refine XS.iloadN X643.here hx rfl (hb hby at_74) rfl ?_
    show Steps p.tables e below (T643.setTop (mkF m 75 #[.val (.long q1), .second, .val (.int p2), .val (.int p3), .val (.long (q1 &&& (4294967295 : Int64))), .second, .val (.int (3 : Int32)), .val (.ref b607), .val (.ref b613), .unset, .unset] [(.int p3), (.int (2 : Int32)), (.ref b607)])) _
    refine XS.bipush X643.here hx rfl (hb hby at_75) ?_
    show Steps p.tables e below (T643.setTop (mkF m 77 #[.val (.long q1), .second, .val (.int p2), .val (.int p3), .val (.long (q1 &&& (4294967295 : Int64))), .second, .val (.int (3 : Int32)), .val (.ref b607), .val (.ref b613), .unset, .unset] [(.int (16 : Int32)), (.int p3), (.int (2 : Int32)), (.ref b607)])) _
    refine XS.ishr X643.here hx rfl (hb hby at_77) rfl ?_
    show Steps p.tables e below (T643.setTop (mkF m 78 #[.val (.long q1), .second, .val (.int p2), .val (.int p3), .val (.long (q1 &&& (4294967295 : Int64))), .second, .val (.int (3 : Int32)), .val (.ref b607), .val (.ref b613), .unset, .unset] [(.int (p3 >>> ((16 : Int32) &&& 31))), (.int (2 : Int32)), (.ref b607)])) _
    refine XS.i2b X643.here hx rfl (hb hby at_78) rfl ?_
    exact k
  obtain ⟨cl652, Ar652, q652, S652, N_652, H652, G652⟩ := (V637.other W643 ne_b607_b613)
  obtain ⟨T652, h652, X652, e652, W652, st652⟩ := stB X643 hx hZ e643 Ar652 (j := (2 : Int32)) (inb_of S652 ⟨by decide, by decide⟩) (g := (mkF m 79 #[.val (.long q1), .second, .val (.int p2), .val (.int p3), .val (.long (q1 &&& (4294967295 : Int64))), .second, .val (.int (3 : Int32)), .val (.ref b607), .val (.ref b613), .unset, .unset] [(.int ((p3 >>> ((16 : Int32) &&& 31)).toInt8.toInt32)), (.int (2 : Int32)), (.ref b607)])) rfl rfl (hb hby at_79)
  have V652 : Arv Z h652 b607 k607 .byte (3 : Int32) [(.int (nar .byte (p3.toInt8.toInt32))), (.int (nar .byte ((p3 >>> ((8 : Int32) &&& 31)).toInt8.toInt32))), (.int (nar .byte ((p3 >>> ((16 : Int32) &&& 31)).toInt8.toInt32)))] (.int (0 : Int32)) := Arv.set Ar652 q652 S652 N_652 H652 G652 (fits_nar_byte _) W652 2 rfl (Nat.le_of_ble_eq_true rfl)
  have O653 := O644.wr W652 g_b607
  have Z654 : n0 ≤ h652.size := Nat.le_trans Z645 (Keep.of_wr W652).1
  have K655 := Nat.le_trans K646 (Keep.of_wr W652).1
  have NN652 := Fr.snoc X652 NN643 g_b607
  have pre656 : ∀ t, Steps p.tables e below (T652.setTop (mkF m 80 #[.val (.long q1), .second, .val (.int p2), .val (.int p3), .val (.long (q1 &&& (4294967295 : Int64))), .second, .val (.int (3 : Int32)), .val (.ref b607), .val (.ref b613), .unset, .unset] [])) t → Steps p.tables e below (s₁.setTop (entryFrame m #[(.long q1), (.int p2), (.int p3)] maxLocals)) t := by
    intro t k
    refine pre651 _ ?_
    show Steps p.tables e below (T643.setTop (mkF m 79 #[.val (.long q1), .second, .val (.int p2), .val (.int p3), .val (.long (q1 &&& (4294967295 : Int64))), .second, .val (.int (3 : Int32)), .val (.ref b607), .val (.ref b613), .unset, .unset] [(.int ((p3 >>> ((16 : Int32) &&& 31)).toInt8.toInt32)), (.int (2 : Int32)), (.ref b607)])) _
    refine st652 _ ?_
    exact k
  have pre657 : ∀ t, Steps p.tables e below (T652.setTop (mkF m 88 #[.val (.long q1), .second, .val (.int p2), .val (.int p3), .val (.long (q1 &&& (4294967295 : Int64))), .second, .val (.int (3 : Int32)), .val (.ref b607), .val (.ref b613), .unset, .unset] [(.int ((p3 >>> ((16 : Int32) &&& 31)).toInt8.toInt32)), (.int (2 : Int32)), (.ref b613)])) t → Steps p.tables e below (s₁.setTop (entryFrame m #[(.long q1), (.int p2), (.int p3)] maxLocals)) t := by
    intro t k
    refine pre656 _ ?_
    show Steps p.tables e below (T652.setTop (mkF m 80 #[.val (.long q1), .second, .val (.int p2), .val (.int p3), .val (.long (q1 &&& (4294967295 : Int64))), .second, .val (.int (3 : Int32)), .val (.ref b607), .val (.ref b613), .unset, .unset] [])) _
    refine XS.aload X652.here hx rfl (hb hby at_80) rfl rfl ?_
    show Steps p.tables e below (T652.setTop (mkF m 82 #[.val (.long q1), .second, .val (.int p2), .val (.int p3), .val (.long (q1 &&& (4294967295 : Int64))), .second, .val (.int (3 : Int32)), .val (.ref b607), .val (.ref b613), .unset, .unset] [(.ref b613)])) _
    refine XS.iconst X652.here hx rfl (hb hby at_82) ?_
    show Steps p.tables e below (T652.setTop (mkF m 83 #[.val (.long q1), .second, .val (.int p2), .val (.int p3), .val (.long (q1 &&& (4294967295 : Int64))), .second, .val (.int (3 : Int32)), .val (.ref b607), .val (.ref b613), .unset, .unset] [(.int (2 : Int32)), (.ref b613)])) _
    refine XS.iloadN X652.here hx rfl (hb hby at_83) rfl ?_
    show Steps p.tables e below (T652.setTop (mkF m 84 #[.val (.long q1), .second, .val (.int p2), .val (.int p3), .val (.long (q1 &&& (4294967295 : Int64))), .second, .val (.int (3 : Int32)), .val (.ref b607), .val (.ref b613), .unset, .unset] [(.int p3), (.int (2 : Int32)), (.ref b613)])) _
    refine XS.bipush X652.here hx rfl (hb hby at_84) ?_
    show Steps p.tables e below (T652.setTop (mkF m 86 #[.val (.long q1), .second, .val (.int p2), .val (.int p3), .val (.long (q1 &&& (4294967295 : Int64))), .second, .val (.int (3 : Int32)), .val (.ref b607), .val (.ref b613), .unset, .unset] [(.int (16 : Int32)), (.int p3), (.int (2 : Int32)), (.ref b613)])) _
    refine XS.ishr X652.here hx rfl (hb hby at_86) rfl ?_
    show Steps p.tables e below (T652.setTop (mkF m 87 #[.val (.long q1), .second, .val (.int p2), .val (.int p3), .val (.long (q1 &&& (4294967295 : Int64))), .second, .val (.int (3 : Int32)), .val (.ref b607), .val (.ref b613), .unset, .unset] [(.int (p3 >>> ((16 : Int32) &&& 31))), (.int (2 : Int32)), (.ref b613)])) _
    refine XS.i2b X652.here hx rfl (hb hby at_87) rfl ?_
    exact k
  obtain ⟨cl658, Ar658, q658, S658, N_658, H658, G658⟩ := (V643.other W652 (Ne.symm ne_b607_b613))
  obtain ⟨T658, h658, X658, e658, W658, st658⟩ := stB X652 hx hZ e652 Ar658 (j := (2 : Int32)) (inb_of S658 ⟨by decide, by decide⟩) (g := (mkF m 88 #[.val (.long q1), .second, .val (.int p2), .val (.int p3), .val (.long (q1 &&& (4294967295 : Int64))), .second, .val (.int (3 : Int32)), .val (.ref b607), .val (.ref b613), .unset, .unset] [(.int ((p3 >>> ((16 : Int32) &&& 31)).toInt8.toInt32)), (.int (2 : Int32)), (.ref b613)])) rfl rfl (hb hby at_88)
  have V658 : Arv Z h658 b613 k613 .byte (3 : Int32) [(.int (nar .byte (p3.toInt8.toInt32))), (.int (nar .byte ((p3 >>> ((8 : Int32) &&& 31)).toInt8.toInt32))), (.int (nar .byte ((p3 >>> ((16 : Int32) &&& 31)).toInt8.toInt32)))] (.int (0 : Int32)) := Arv.set Ar658 q658 S658 N_658 H658 G658 (fits_nar_byte _) W658 2 rfl (Nat.le_of_ble_eq_true rfl)
  have O659 := O653.wr W658 g_b613
  have Z660 : n0 ≤ h658.size := Nat.le_trans Z654 (Keep.of_wr W658).1
  have K661 := Nat.le_trans K655 (Keep.of_wr W658).1
  have NN658 := Fr.snoc X658 NN652 g_b613
  have pre662 : ∀ t, Steps p.tables e below (T658.setTop (mkF m 89 #[.val (.long q1), .second, .val (.int p2), .val (.int p3), .val (.long (q1 &&& (4294967295 : Int64))), .second, .val (.int (3 : Int32)), .val (.ref b607), .val (.ref b613), .unset, .unset] [])) t → Steps p.tables e below (s₁.setTop (entryFrame m #[(.long q1), (.int p2), (.int p3)] maxLocals)) t := by
    intro t k
    refine pre657 _ ?_
    show Steps p.tables e below (T652.setTop (mkF m 88 #[.val (.long q1), .second, .val (.int p2), .val (.int p3), .val (.long (q1 &&& (4294967295 : Int64))), .second, .val (.int (3 : Int32)), .val (.ref b607), .val (.ref b613), .unset, .unset] [(.int ((p3 >>> ((16 : Int32) &&& 31)).toInt8.toInt32)), (.int (2 : Int32)), (.ref b613)])) _
    refine st658 _ ?_
    exact k
  have pre663 : ∀ t, Steps p.tables e below (T658.setTop (mkF m 93 #[.val (.long q1), .second, .val (.int p2), .val (.int p3), .val (.long (q1 &&& (4294967295 : Int64))), .second, .val (.int (3 : Int32)), .val (.ref b607), .val (.ref b613), .unset, .unset] [(.ref b613), (.long (q1 &&& (4294967295 : Int64)))])) t → Steps p.tables e below (s₁.setTop (entryFrame m #[(.long q1), (.int p2), (.int p3)] maxLocals)) t := by
    intro t k
    refine pre662 _ ?_
    show Steps p.tables e below (T658.setTop (mkF m 89 #[.val (.long q1), .second, .val (.int p2), .val (.int p3), .val (.long (q1 &&& (4294967295 : Int64))), .second, .val (.int (3 : Int32)), .val (.ref b607), .val (.ref b613), .unset, .unset] [])) _
    refine XS.lload X658.here hx rfl (hb hby at_89) rfl ?_
    show Steps p.tables e below (T658.setTop (mkF m 91 #[.val (.long q1), .second, .val (.int p2), .val (.int p3), .val (.long (q1 &&& (4294967295 : Int64))), .second, .val (.int (3 : Int32)), .val (.ref b607), .val (.ref b613), .unset, .unset] [(.long (q1 &&& (4294967295 : Int64)))])) _
    refine XS.aload X658.here hx rfl (hb hby at_91) rfl rfl ?_
    exact k
  obtain ⟨_, _, ⟨T664, L664, k664, n664⟩, -, X664, sS664, gr664, ⟨Lc664, hQ664, l664, y664, z664⟩, st664⟩ := Jvm.RoadKit.callSS X658 hx (y := (⟨"com/example/message_buffer/messagebuffer/model/Message", "adopt", "(J[B)Lcom/example/message_buffer/messagebuffer/model/Message;"⟩ : MethodName)) hown (mvT hZ (hw _ (List.mem_of_getElem? (i := 2) rfl))) (mvT hZ (hw _ (List.mem_of_getElem? (i := 3) rfl))) (mvT hZ (hw _ (List.mem_of_getElem? (i := 4) rfl))) (mvT hZ (hw _ (List.mem_of_getElem? (i := 5) rfl))) (by decide) (backOfS (W := 0) (rm1 l Z a0 hw [] (q1 &&& (4294967295 : Int64)) b613 k613 (3 : Int32) [(.int (nar .byte (p3.toInt8.toInt32))), (.int (nar .byte ((p3 >>> ((8 : Int32) &&& 31)).toInt8.toInt32))), (.int (nar .byte ((p3 >>> ((16 : Int32) &&& 31)).toInt8.toInt32)))] (.int (0 : Int32)) h658 n0 Z660 (own_rg q1).1 (own_rg q1).2 V658) hZ (hw _ (List.mem_of_getElem? (i := 5) rfl)) (hw _ (List.mem_of_getElem? (i := 4) rfl)) (by decide) (by decide)) (g := (mkF m 93 #[.val (.long q1), .second, .val (.int p2), .val (.int p3), .val (.long (q1 &&& (4294967295 : Int64))), .second, .val (.int (3 : Int32)), .val (.ref b607), .val (.ref b613), .unset, .unset] [(.ref b613), (.long (q1 &&& (4294967295 : Int64)))])) rfl (by rw [hml]; rfl) (argsL := [(.long (q1 &&& (4294967295 : Int64))), (.ref b613)]) (rest := []) (lenOf pd__J_B_Lcom_example_message_buffer_messagebuffer_model_Message_ rfl) rfl (by show 2 * 0 + _ ≤ _; exact Nat.le_of_eq rfl) (hb hby at_93) (fun _ _ => ⟨rfl, e658, (by decide : 2 + 3 ≤ _), (by decide : 6 + 24 ≤ _)⟩)
  dsimp only [Pt.U, Pt.locs, Pt.cells, Pt.slots] at X664 l664 y664 z664 st664 hQ664 sS664 gr664
  subst l664 y664 z664
  obtain ⟨r664, rfl, N664q, K664, lr664, E664, F664a, F664b, F664c, F664d⟩ := hQ664
  have N664 := Fr.app NN658 N664q
  have ne_b607_r664 : b607 ≠ r664 := Nat.ne_of_lt (Nat.lt_of_lt_of_le (V652.other W658 ne_b607_b613).lt lr664)
  have ne_b613_r664 : b613 ≠ r664 := Nat.ne_of_lt (Nat.lt_of_lt_of_le V658.lt lr664)
  have O665 := O659.keep K664 all0
  have Z666 : n0 ≤ T664.heap.size := Nat.le_trans Z660 K664.1
  have K667 := Nat.le_trans K661 K664.1
  have hS664 := foldS (s := s) (vm0 := s.vm) hS0 (by rw [e658]; exact K661) sS664 gr664
  have hZ664 : Z.Warmed39 (s.setVm T664.vm).vm := State.Warmed39.trans (t := s.setVm s.vm) hZ sS664.1
  have hown664 : (s.setVm T664.vm).vm.findClass "com/example/message_buffer/messagebuffer/model/MessageOfPinLaw" = some m.cls := by rw [show (s.setVm T664.vm).vm = T664.vm from rfl, sS664.1.alike.findClass]; exact hown
  have X664 : Stand p l e room_1 (s.setVm T664.vm) m _ below meth c T664 _ _ _ := X664
  have pre668 : ∀ t, Steps p.tables e below (T664.setTop (mkF m 96 #[.val (.long q1), .second, .val (.int p2), .val (.int p3), .val (.long (q1 &&& (4294967295 : Int64))), .second, .val (.int (3 : Int32)), .val (.ref b607), .val (.ref b613), .unset, .unset] [(.ref r664)])) t → Steps p.tables e below (s₁.setTop (entryFrame m #[(.long q1), (.int p2), (.int p3)] maxLocals)) t := by
    intro t k
    refine pre663 _ ?_
    show Steps p.tables e below (T658.setTop (mkF m 93 #[.val (.long q1), .second, .val (.int p2), .val (.int p3), .val (.long (q1 &&& (4294967295 : Int64))), .second, .val (.int (3 : Int32)), .val (.ref b607), .val (.ref b613), .unset, .unset] [(.ref b613), (.long (q1 &&& (4294967295 : Int64)))])) _
    refine st664.trans ?_
    exact k
  have pre669 : ∀ t, Steps p.tables e below (T664.setTop (mkF m 102 #[.val (.long q1), .second, .val (.int p2), .val (.int p3), .val (.long (q1 &&& (4294967295 : Int64))), .second, .val (.int (3 : Int32)), .val (.ref b607), .val (.ref b613), .val (.ref r664), .unset] [(.ref b607), (.long (q1 &&& (4294967295 : Int64)))])) t → Steps p.tables e below (s₁.setTop (entryFrame m #[(.long q1), (.int p2), (.int p3)] maxLocals)) t := by
    intro t k
    refine pre668 _ ?_
    show Steps p.tables e below (T664.setTop (mkF m 96 #[.val (.long q1), .second, .val (.int p2), .val (.int p3), .val (.long (q1 &&& (4294967295 : Int64))), .second, .val (.int (3 : Int32)), .val (.ref b607), .val (.ref b613), .unset, .unset] [(.ref r664)])) _
    refine XS.astore X664.here hx rfl (hb hby at_96) rfl rfl (l' := #[.val (.long q1), .second, .val (.int p2), .val (.int p3), .val (.long (q1 &&& (4294967295 : Int64))), .second, .val (.int (3 : Int32)), .val (.ref b607), .val (.ref b613), .val (.ref r664), .unset]) rfl ?_
    show Steps p.tables e below (T664.setTop (mkF m 98 #[.val (.long q1), .second, .val (.int p2), .val (.int p3), .val (.long (q1 &&& (4294967295 : Int64))), .second, .val (.int (3 : Int32)), .val (.ref b607), .val (.ref b613), .val (.ref r664), .unset] [])) _
    refine XS.lload X664.here hx rfl (hb hby at_98) rfl ?_
    show Steps p.tables e below (T664.setTop (mkF m 100 #[.val (.long q1), .second, .val (.int p2), .val (.int p3), .val (.long (q1 &&& (4294967295 : Int64))), .second, .val (.int (3 : Int32)), .val (.ref b607), .val (.ref b613), .val (.ref r664), .unset] [(.long (q1 &&& (4294967295 : Int64)))])) _
    refine XS.aload X664.here hx rfl (hb hby at_100) rfl rfl ?_
    exact k
  obtain ⟨_, _, ⟨T670, L670, k670, n670⟩, -, X670, sS670, gr670, ⟨Lc670, hQ670, l670, y670, z670⟩, st670⟩ := Jvm.RoadKit.callSS X664 hx (y := (⟨"com/example/message_buffer/messagebuffer/model/Message", "of", "(J[B)Lcom/example/message_buffer/messagebuffer/model/Message;"⟩ : MethodName)) hown664 (mvT hZ664 (hw _ (List.mem_of_getElem? (i := 37) rfl))) (mvT hZ664 (hw _ (List.mem_of_getElem? (i := 38) rfl))) (mvT hZ664 (hw _ (List.mem_of_getElem? (i := 4) rfl))) (mvT hZ664 (hw _ (List.mem_of_getElem? (i := 39) rfl))) (by decide) (backOfS (W := 0) (rm6 l Z a0 hw [] (q1 &&& (4294967295 : Int64)) b607 k607 (3 : Int32) [(.int (nar .byte (p3.toInt8.toInt32))), (.int (nar .byte ((p3 >>> ((8 : Int32) &&& 31)).toInt8.toInt32))), (.int (nar .byte ((p3 >>> ((16 : Int32) &&& 31)).toInt8.toInt32)))] (.int (0 : Int32)) T664.heap n0 Z666 (own_rg q1).1 (own_rg q1).2 ((V652.other W658 ne_b607_b613).keep K664 nin0) ((((((((Ex607.ext E613).wr W622).wr W628).wr W637).wr W643).wr W652).wr W658).keep K664) (by decide)) hZ664 (hw _ (List.mem_of_getElem? (i := 39) rfl)) (hw _ (List.mem_of_getElem? (i := 4) rfl)) (by decide) (by decide)) (g := (mkF m 102 #[.val (.long q1), .second, .val (.int p2), .val (.int p3), .val (.long (q1 &&& (4294967295 : Int64))), .second, .val (.int (3 : Int32)), .val (.ref b607), .val (.ref b613), .val (.ref r664), .unset] [(.ref b607), (.long (q1 &&& (4294967295 : Int64)))])) rfl (by rw [hml]; rfl) (argsL := [(.long (q1 &&& (4294967295 : Int64))), (.ref b607)]) (rest := []) (lenOf pd__J_B_Lcom_example_message_buffer_messagebuffer_model_Message_ rfl) rfl (by show 2 * 0 + _ ≤ _; exact Nat.le_of_eq rfl) (hb hby at_102) (fun _ _ => ⟨rfl, rfl, (by decide : 5 + 4 ≤ _), (by decide : 30 + 27 ≤ _)⟩)
  dsimp only [Pt.U, Pt.locs, Pt.cells, Pt.slots] at X670 l670 y670 z670 st670 hQ670 sS670 gr670
  subst l670 y670 z670
  obtain ⟨r670, d670, rfl, N670q, K670, lr670, ld670, E670, F670a, F670b, F670c, F670d, Vd670⟩ := hQ670
  have N670 := Fr.app N664 N670q
  have ne_b607_r670 : b607 ≠ r670 := Nat.ne_of_lt (Nat.lt_of_lt_of_le ((V652.other W658 ne_b607_b613).keep K664 nin0).lt lr670)
  have ne_b613_r670 : b613 ≠ r670 := Nat.ne_of_lt (Nat.lt_of_lt_of_le (V658.keep K664 nin0).lt lr670)
  have ne_r664_r670 : r664 ≠ r670 := Nat.ne_of_lt (Nat.lt_of_lt_of_le E664.lt lr670)
  have ne_b607_d670 : b607 ≠ d670 := Nat.ne_of_lt (Nat.lt_of_lt_of_le ((V652.other W658 ne_b607_b613).keep K664 nin0).lt ld670)
  have ne_b613_d670 : b613 ≠ d670 := Nat.ne_of_lt (Nat.lt_of_lt_of_le (V658.keep K664 nin0).lt ld670)
  have ne_r664_d670 : r664 ≠ d670 := Nat.ne_of_lt (Nat.lt_of_lt_of_le E664.lt ld670)
  have O671 := O665.keep K670 all0
  have Z672 : n0 ≤ T670.heap.size := Nat.le_trans Z666 K670.1
  have K673 := Nat.le_trans (Nat.le_refl _) K670.1
  have hS670 := foldS (s := s) (vm0 := T664.vm) hS664 (Nat.le_refl _) sS670 gr670
  have hZ670 : Z.Warmed39 (s.setVm T670.vm).vm := State.Warmed39.trans (t := s.setVm T664.vm) hZ664 sS670.1
  have hown670 : (s.setVm T670.vm).vm.findClass "com/example/message_buffer/messagebuffer/model/MessageOfPinLaw" = some m.cls := by rw [show (s.setVm T670.vm).vm = T670.vm from rfl, sS670.1.alike.findClass]; exact hown664
  have X670 : Stand p l e room_1 (s.setVm T670.vm) m _ below meth c T670 _ _ _ := X670
  have pre674 : ∀ t, Steps p.tables e below (T670.setTop (mkF m 105 #[.val (.long q1), .second, .val (.int p2), .val (.int p3), .val (.long (q1 &&& (4294967295 : Int64))), .second, .val (.int (3 : Int32)), .val (.ref b607), .val (.ref b613), .val (.ref r664), .unset] [(.ref r670)])) t → Steps p.tables e below (s₁.setTop (entryFrame m #[(.long q1), (.int p2), (.int p3)] maxLocals)) t := by
    intro t k
    refine pre669 _ ?_
    show Steps p.tables e below (T664.setTop (mkF m 102 #[.val (.long q1), .second, .val (.int p2), .val (.int p3), .val (.long (q1 &&& (4294967295 : Int64))), .second, .val (.int (3 : Int32)), .val (.ref b607), .val (.ref b613), .val (.ref r664), .unset] [(.ref b607), (.long (q1 &&& (4294967295 : Int64)))])) _
    refine st670.trans ?_
    exact k
  have pre675 : ∀ t, Steps p.tables e below (T670.setTop (mkF m 109 #[.val (.long q1), .second, .val (.int p2), .val (.int p3), .val (.long (q1 &&& (4294967295 : Int64))), .second, .val (.int (3 : Int32)), .val (.ref b607), .val (.ref b613), .val (.ref r664), .val (.ref r670)] [(.int (3 : Int32))])) t → Steps p.tables e below (s₁.setTop (entryFrame m #[(.long q1), (.int p2), (.int p3)] maxLocals)) t := by
    intro t k
    refine pre674 _ ?_
    show Steps p.tables e below (T670.setTop (mkF m 105 #[.val (.long q1), .second, .val (.int p2), .val (.int p3), .val (.long (q1 &&& (4294967295 : Int64))), .second, .val (.int (3 : Int32)), .val (.ref b607), .val (.ref b613), .val (.ref r664), .unset] [(.ref r670)])) _
    refine XS.astore X670.here hx rfl (hb hby at_105) rfl rfl (l' := #[.val (.long q1), .second, .val (.int p2), .val (.int p3), .val (.long (q1 &&& (4294967295 : Int64))), .second, .val (.int (3 : Int32)), .val (.ref b607), .val (.ref b613), .val (.ref r664), .val (.ref r670)]) rfl ?_
    show Steps p.tables e below (T670.setTop (mkF m 107 #[.val (.long q1), .second, .val (.int p2), .val (.int p3), .val (.long (q1 &&& (4294967295 : Int64))), .second, .val (.int (3 : Int32)), .val (.ref b607), .val (.ref b613), .val (.ref r664), .val (.ref r670)] [])) _
    refine XS.iload X670.here hx rfl (hb hby at_107) rfl ?_
    exact k
  have pre677 : ∀ t, Steps p.tables e below (T670.setTop (mkF m 112 #[.val (.long q1), .second, .val (.int p2), .val (.int p3), .val (.long (q1 &&& (4294967295 : Int64))), .second, .val (.int (3 : Int32)), .val (.ref b607), .val (.ref b613), .val (.ref r664), .val (.ref r670)] [])) t → Steps p.tables e below (s₁.setTop (entryFrame m #[(.long q1), (.int p2), (.int p3)] maxLocals)) t := by
    intro t k
    refine pre675 _ ?_
    show Steps p.tables e below (T670.setTop (mkF m 109 #[.val (.long q1), .second, .val (.int p2), .val (.int p3), .val (.long (q1 &&& (4294967295 : Int64))), .second, .val (.int (3 : Int32)), .val (.ref b607), .val (.ref b613), .val (.ref r664), .val (.ref r670)] [(.int (3 : Int32))])) _
    refine XS.ifNo X670.here hx rfl (hb hby at_109) rfl ((if0 _ _).trans (tlt (by decide : (0 : Int32) < (3 : Int32))).2.2.2) ?_
    exact k
  have pre678 : ∀ t, Steps p.tables e below (T670.setTop (mkF m 118 #[.val (.long q1), .second, .val (.int p2), .val (.int p3), .val (.long (q1 &&& (4294967295 : Int64))), .second, .val (.int (3 : Int32)), .val (.ref b607), .val (.ref b613), .val (.ref r664), .val (.ref r670)] [(.int (0 : Int32)), (.ref b607), (.int (0 : Int32)), (.ref b607)])) t → Steps p.tables e below (s₁.setTop (entryFrame m #[(.long q1), (.int p2), (.int p3)] maxLocals)) t := by
    intro t k
    refine pre677 _ ?_
    show Steps p.tables e below (T670.setTop (mkF m 112 #[.val (.long q1), .second, .val (.int p2), .val (.int p3), .val (.long (q1 &&& (4294967295 : Int64))), .second, .val (.int (3 : Int32)), .val (.ref b607), .val (.ref b613), .val (.ref r664), .val (.ref r670)] [])) _
    refine XS.aload X670.here hx rfl (hb hby at_112) rfl rfl ?_
    show Steps p.tables e below (T670.setTop (mkF m 114 #[.val (.long q1), .second, .val (.int p2), .val (.int p3), .val (.long (q1 &&& (4294967295 : Int64))), .second, .val (.int (3 : Int32)), .val (.ref b607), .val (.ref b613), .val (.ref r664), .val (.ref r670)] [(.ref b607)])) _
    refine XS.iconst X670.here hx rfl (hb hby at_114) ?_
    show Steps p.tables e below (T670.setTop (mkF m 115 #[.val (.long q1), .second, .val (.int p2), .val (.int p3), .val (.long (q1 &&& (4294967295 : Int64))), .second, .val (.int (3 : Int32)), .val (.ref b607), .val (.ref b613), .val (.ref r664), .val (.ref r670)] [(.int (0 : Int32)), (.ref b607)])) _
    refine XS.aload X670.here hx rfl (hb hby at_115) rfl rfl ?_
    show Steps p.tables e below (T670.setTop (mkF m 117 #[.val (.long q1), .second, .val (.int p2), .val (.int p3), .val (.long (q1 &&& (4294967295 : Int64))), .second, .val (.int (3 : Int32)), .val (.ref b607), .val (.ref b613), .val (.ref r664), .val (.ref r670)] [(.ref b607), (.int (0 : Int32)), (.ref b607)])) _
    refine XS.iconst X670.here hx rfl (hb hby at_117) ?_
    exact k
  obtain ⟨cl679, Ar679, q679, S679, N_679, H679, G679⟩ := (((V652.other W658 ne_b607_b613).keep K664 nin0).keep K670 nin0)
  have pre680 : ∀ t, Steps p.tables e below (T670.setTop (mkF m 119 #[.val (.long q1), .second, .val (.int p2), .val (.int p3), .val (.long (q1 &&& (4294967295 : Int64))), .second, .val (.int (3 : Int32)), .val (.ref b607), .val (.ref b613), .val (.ref r664), .val (.ref r670)] [(.int (nar .byte (p3.toInt8.toInt32))), (.int (0 : Int32)), (.ref b607)])) t → Steps p.tables e below (s₁.setTop (entryFrame m #[(.long q1), (.int p2), (.int p3)] maxLocals)) t := by
    intro t k
    refine pre678 _ ?_
    show Steps p.tables e below (T670.setTop (mkF m 118 #[.val (.long q1), .second, .val (.int p2), .val (.int p3), .val (.long (q1 &&& (4294967295 : Int64))), .second, .val (.int (3 : Int32)), .val (.ref b607), .val (.ref b613), .val (.ref r664), .val (.ref r670)] [(.int (0 : Int32)), (.ref b607), (.int (0 : Int32)), (.ref b607)])) _
    refine X670.baloadBytes hx (j := (0 : Int32)) (v := (.int (nar .byte (p3.toInt8.toInt32)))) Ar679.1 (State.isArrayOf_alike hZ670.alike Ar679.2.1) Ar679.2.2 (inb_of S679 ⟨by decide, by decide⟩) (Has.at H679 (inb_of S679 ⟨by decide, by decide⟩) rfl) (g := (mkF m 118 #[.val (.long q1), .second, .val (.int p2), .val (.int p3), .val (.long (q1 &&& (4294967295 : Int64))), .second, .val (.int (3 : Int32)), .val (.ref b607), .val (.ref b613), .val (.ref r664), .val (.ref r670)] [(.int (0 : Int32)), (.ref b607), (.int (0 : Int32)), (.ref b607)])) rfl rfl (hb hby at_118) _ ?_
    exact k
  have pre681 : ∀ t, Steps p.tables e below (T670.setTop (mkF m 122 #[.val (.long q1), .second, .val (.int p2), .val (.int p3), .val (.long (q1 &&& (4294967295 : Int64))), .second, .val (.int (3 : Int32)), .val (.ref b607), .val (.ref b613), .val (.ref r664), .val (.ref r670)] [(.int (((nar .byte (p3.toInt8.toInt32)) + (1 : Int32)).toInt8.toInt32)), (.int (0 : Int32)), (.ref b607)])) t → Steps p.tables e below (s₁.setTop (entryFrame m #[(.long q1), (.int p2), (.int p3)] maxLocals)) t := by
    intro t k
    refine pre680 _ ?_
    show Steps p.tables e below (T670.setTop (mkF m 119 #[.val (.long q1), .second, .val (.int p2), .val (.int p3), .val (.long (q1 &&& (4294967295 : Int64))), .second, .val (.int (3 : Int32)), .val (.ref b607), .val (.ref b613), .val (.ref r664), .val (.ref r670)] [(.int (nar .byte (p3.toInt8.toInt32))), (.int (0 : Int32)), (.ref b607)])) _
    refine XS.iconst X670.here hx rfl (hb hby at_119) ?_
    show Steps p.tables e below (T670.setTop (mkF m 120 #[.val (.long q1), .second, .val (.int p2), .val (.int p3), .val (.long (q1 &&& (4294967295 : Int64))), .second, .val (.int (3 : Int32)), .val (.ref b607), .val (.ref b613), .val (.ref r664), .val (.ref r670)] [(.int (1 : Int32)), (.int (nar .byte (p3.toInt8.toInt32))), (.int (0 : Int32)), (.ref b607)])) _
    refine XS.iadd X670.here hx rfl (hb hby at_120) rfl ?_
    show Steps p.tables e below (T670.setTop (mkF m 121 #[.val (.long q1), .second, .val (.int p2), .val (.int p3), .val (.long (q1 &&& (4294967295 : Int64))), .second, .val (.int (3 : Int32)), .val (.ref b607), .val (.ref b613), .val (.ref r664), .val (.ref r670)] [(.int ((nar .byte (p3.toInt8.toInt32)) + (1 : Int32))), (.int (0 : Int32)), (.ref b607)])) _
    refine XS.i2b X670.here hx rfl (hb hby at_121) rfl ?_
    exact k
  obtain ⟨cl682, Ar682, q682, S682, N_682, H682, G682⟩ := (((V652.other W658 ne_b607_b613).keep K664 nin0).keep K670 nin0)
  obtain ⟨T682, h682, X682, e682, W682, st682⟩ := stB X670 hx hZ670 rfl Ar682 (j := (0 : Int32)) (inb_of S682 ⟨by decide, by decide⟩) (g := (mkF m 122 #[.val (.long q1), .second, .val (.int p2), .val (.int p3), .val (.long (q1 &&& (4294967295 : Int64))), .second, .val (.int (3 : Int32)), .val (.ref b607), .val (.ref b613), .val (.ref r664), .val (.ref r670)] [(.int (((nar .byte (p3.toInt8.toInt32)) + (1 : Int32)).toInt8.toInt32)), (.int (0 : Int32)), (.ref b607)])) rfl rfl (hb hby at_122)
  have V682 : Arv Z h682 b607 k607 .byte (3 : Int32) [(.int (nar .byte (((nar .byte (p3.toInt8.toInt32)) + (1 : Int32)).toInt8.toInt32))), (.int (nar .byte ((p3 >>> ((8 : Int32) &&& 31)).toInt8.toInt32))), (.int (nar .byte ((p3 >>> ((16 : Int32) &&& 31)).toInt8.toInt32)))] (.int (0 : Int32)) := Arv.set Ar682 q682 S682 N_682 H682 G682 (fits_nar_byte _) W682 0 rfl (Nat.le_of_ble_eq_true rfl)
  have O683 := O671.wr W682 g_b607
  have Z684 : n0 ≤ h682.size := Nat.le_trans Z672 (Keep.of_wr W682).1
  have K685 := Nat.le_trans (Nat.le_refl _) (Keep.of_wr W682).1
  have NN682 := Fr.snoc X682 N670 g_b607
  have pre686 : ∀ t, Steps p.tables e below (T682.setTop (mkF m 123 #[.val (.long q1), .second, .val (.int p2), .val (.int p3), .val (.long (q1 &&& (4294967295 : Int64))), .second, .val (.int (3 : Int32)), .val (.ref b607), .val (.ref b613), .val (.ref r664), .val (.ref r670)] [])) t → Steps p.tables e below (s₁.setTop (entryFrame m #[(.long q1), (.int p2), (.int p3)] maxLocals)) t := by
    intro t k
    refine pre681 _ ?_
    show Steps p.tables e below (T670.setTop (mkF m 122 #[.val (.long q1), .second, .val (.int p2), .val (.int p3), .val (.long (q1 &&& (4294967295 : Int64))), .second, .val (.int (3 : Int32)), .val (.ref b607), .val (.ref b613), .val (.ref r664), .val (.ref r670)] [(.int (((nar .byte (p3.toInt8.toInt32)) + (1 : Int32)).toInt8.toInt32)), (.int (0 : Int32)), (.ref b607)])) _
    refine st682 _ ?_
    exact k
  have pre687 : ∀ t, Steps p.tables e below (T682.setTop (mkF m 125 #[.val (.long q1), .second, .val (.int p2), .val (.int p3), .val (.long (q1 &&& (4294967295 : Int64))), .second, .val (.int (3 : Int32)), .val (.ref b607), .val (.ref b613), .val (.ref r664), .val (.ref r670)] [(.ref r670)])) t → Steps p.tables e below (s₁.setTop (entryFrame m #[(.long q1), (.int p2), (.int p3)] maxLocals)) t := by
    intro t k
    refine pre686 _ ?_
    show Steps p.tables e below (T682.setTop (mkF m 123 #[.val (.long q1), .second, .val (.int p2), .val (.int p3), .val (.long (q1 &&& (4294967295 : Int64))), .second, .val (.int (3 : Int32)), .val (.ref b607), .val (.ref b613), .val (.ref r664), .val (.ref r670)] [])) _
    refine XS.aload X682.here hx rfl (hb hby at_123) rfl rfl ?_
    exact k
  obtain ⟨cq688, kq688, q688a, q688b, q688c⟩ := isOf hZ670 e682 (E670.wr W682)
  obtain ⟨_, _, ⟨T688, L688, k688, n688⟩, -, X688, ⟨Lc688, hQ688, l688, y688, z688⟩, st688⟩ := X682.virtualBack hx (y := (⟨"com/example/message_buffer/messagebuffer/model/Message", "flags", "()J"⟩ : MethodName)) (z := (⟨"com/example/message_buffer/messagebuffer/model/Message", "flags", "()J"⟩ : MethodName)) hown670 (mvT hZ670 (hw _ (List.mem_of_getElem? (i := 49) rfl))) (mvT hZ670 (hw _ (List.mem_of_getElem? (i := 50) rfl))) (notFace_of_selects (args := #[]) (mvT hZ670 (hw _ (List.mem_of_getElem? (i := 52) rfl)))) (mvT hZ670 (hw _ (List.mem_of_getElem? (i := 52) rfl))) (mvT hZ670 (hw _ (List.mem_of_getElem? (i := 51) rfl))) (by decide) (backOf (W := 0) (rm7 l Z a0 hw [] r670 ((q1 &&& (4294967295 : Int64)).toInt32) h682 n0 Z684 (F670a.other W682 (Or.inl (Ne.symm ne_b607_r670)))) hZ670 (hw _ (List.mem_of_getElem? (i := 53) rfl)) (hw _ (List.mem_of_getElem? (i := 4) rfl)) (by decide) (by decide)) q688a q688c (g := (mkF m 125 #[.val (.long q1), .second, .val (.int p2), .val (.int p3), .val (.long (q1 &&& (4294967295 : Int64))), .second, .val (.int (3 : Int32)), .val (.ref b607), .val (.ref b613), .val (.ref r664), .val (.ref r670)] [(.ref r670)])) rfl (by rw [hml]; rfl) (Steps.refl _) (argsL := []) (rest := []) (lenOf pd___J rfl) rfl (by show 2 * 0 + _ ≤ _; exact Nat.le_of_eq rfl) (hb hby at_125) (fun _ _ => ⟨rfl, e682, (by decide : 9 + 0 ≤ _), (by decide : 57 + 0 ≤ _)⟩)
  dsimp only [Pt.U, Pt.locs, Pt.cells, Pt.slots] at X688 l688 y688 z688 st688 hQ688
  subst l688 y688 z688
  obtain ⟨rfl, N688q, e688⟩ := hQ688
  have N688 := Fr.app NN682 N688q
  have pre689 : ∀ t, Steps p.tables e below (T688.setTop (mkF m 128 #[.val (.long q1), .second, .val (.int p2), .val (.int p3), .val (.long (q1 &&& (4294967295 : Int64))), .second, .val (.int (3 : Int32)), .val (.ref b607), .val (.ref b613), .val (.ref r664), .val (.ref r670)] [(.long (F7 ((q1 &&& (4294967295 : Int64)).toInt32)))])) t → Steps p.tables e below (s₁.setTop (entryFrame m #[(.long q1), (.int p2), (.int p3)] maxLocals)) t := by
    intro t k
    refine pre687 _ ?_
    show Steps p.tables e below (T682.setTop (mkF m 125 #[.val (.long q1), .second, .val (.int p2), .val (.int p3), .val (.long (q1 &&& (4294967295 : Int64))), .second, .val (.int (3 : Int32)), .val (.ref b607), .val (.ref b613), .val (.ref r664), .val (.ref r670)] [(.ref r670)])) _
    refine st688.trans ?_
    exact k
  have pre690 : ∀ t, Steps p.tables e below (T688.setTop (mkF m 131 #[.val (.long q1), .second, .val (.int p2), .val (.int p3), .val (.long (q1 &&& (4294967295 : Int64))), .second, .val (.int (3 : Int32)), .val (.ref b607), .val (.ref b613), .val (.ref r664), .val (.ref r670)] [(.int (lcmpW (F7 ((q1 &&& (4294967295 : Int64)).toInt32)) (q1 &&& (4294967295 : Int64))))])) t → Steps p.tables e below (s₁.setTop (entryFrame m #[(.long q1), (.int p2), (.int p3)] maxLocals)) t := by
    intro t k
    refine pre689 _ ?_
    show Steps p.tables e below (T688.setTop (mkF m 128 #[.val (.long q1), .second, .val (.int p2), .val (.int p3), .val (.long (q1 &&& (4294967295 : Int64))), .second, .val (.int (3 : Int32)), .val (.ref b607), .val (.ref b613), .val (.ref r664), .val (.ref r670)] [(.long (F7 ((q1 &&& (4294967295 : Int64)).toInt32)))])) _
    refine XS.lload X688.here hx rfl (hb hby at_128) rfl ?_
    show Steps p.tables e below (T688.setTop (mkF m 130 #[.val (.long q1), .second, .val (.int p2), .val (.int p3), .val (.long (q1 &&& (4294967295 : Int64))), .second, .val (.int (3 : Int32)), .val (.ref b607), .val (.ref b613), .val (.ref r664), .val (.ref r670)] [(.long (q1 &&& (4294967295 : Int64))), (.long (F7 ((q1 &&& (4294967295 : Int64)).toInt32)))])) _
    refine XS.lcmp X688.here hx rfl (hb hby at_130) rfl ?_
    exact k
  by_cases hc691 : (lcmpW (F7 ((q1 &&& (4294967295 : Int64)).toInt32)) (q1 &&& (4294967295 : Int64))) = (0 : Int32)
  · have pre692 : ∀ t, Steps p.tables e below (T688.setTop (mkF m 134 #[.val (.long q1), .second, .val (.int p2), .val (.int p3), .val (.long (q1 &&& (4294967295 : Int64))), .second, .val (.int (3 : Int32)), .val (.ref b607), .val (.ref b613), .val (.ref r664), .val (.ref r670)] [])) t → Steps p.tables e below (s₁.setTop (entryFrame m #[(.long q1), (.int p2), (.int p3)] maxLocals)) t := by
      intro t k
      refine pre690 _ ?_
      show Steps p.tables e below (T688.setTop (mkF m 131 #[.val (.long q1), .second, .val (.int p2), .val (.int p3), .val (.long (q1 &&& (4294967295 : Int64))), .second, .val (.int (3 : Int32)), .val (.ref b607), .val (.ref b613), .val (.ref r664), .val (.ref r670)] [(.int (lcmpW (F7 ((q1 &&& (4294967295 : Int64)).toInt32)) (q1 &&& (4294967295 : Int64))))])) _
      refine XS.ifNo X688.here hx rfl (hb hby at_131) rfl ((if0 _ _).trans (teq hc691).2) ?_
      exact k
    have pre693 : ∀ t, Steps p.tables e below (T688.setTop (mkF m 136 #[.val (.long q1), .second, .val (.int p2), .val (.int p3), .val (.long (q1 &&& (4294967295 : Int64))), .second, .val (.int (3 : Int32)), .val (.ref b607), .val (.ref b613), .val (.ref r664), .val (.ref r670)] [(.ref r670)])) t → Steps p.tables e below (s₁.setTop (entryFrame m #[(.long q1), (.int p2), (.int p3)] maxLocals)) t := by
      intro t k
      refine pre692 _ ?_
      show Steps p.tables e below (T688.setTop (mkF m 134 #[.val (.long q1), .second, .val (.int p2), .val (.int p3), .val (.long (q1 &&& (4294967295 : Int64))), .second, .val (.int (3 : Int32)), .val (.ref b607), .val (.ref b613), .val (.ref r664), .val (.ref r670)] [])) _
      refine XS.aload X688.here hx rfl (hb hby at_134) rfl rfl ?_
      exact k
    obtain ⟨cq694, kq694, q694a, q694b, q694c⟩ := isOf hZ670 e688 (E670.wr W682)
    obtain ⟨_, _, ⟨T694, L694, k694, n694⟩, -, X694, ⟨Lc694, hQ694, l694, y694, z694⟩, st694⟩ := X688.virtualBack hx (y := (⟨"com/example/message_buffer/messagebuffer/model/Message", "size", "()I"⟩ : MethodName)) (z := (⟨"com/example/message_buffer/messagebuffer/model/Message", "size", "()I"⟩ : MethodName)) hown670 (mvT hZ670 (hw _ (List.mem_of_getElem? (i := 59) rfl))) (mvT hZ670 (hw _ (List.mem_of_getElem? (i := 60) rfl))) (notFace_of_selects (args := #[]) (mvT hZ670 (hw _ (List.mem_of_getElem? (i := 62) rfl)))) (mvT hZ670 (hw _ (List.mem_of_getElem? (i := 62) rfl))) (mvT hZ670 (hw _ (List.mem_of_getElem? (i := 61) rfl))) (by decide) (backOf (W := 0) (rm9 l Z a0 hw [] r670 (3 : Int32) h682 n0 Z684 (F670d.other W682 (Or.inl (Ne.symm ne_b607_r670)))) hZ670 (hw _ (List.mem_of_getElem? (i := 63) rfl)) (hw _ (List.mem_of_getElem? (i := 4) rfl)) (by decide) (by decide)) q694a q694c (g := (mkF m 136 #[.val (.long q1), .second, .val (.int p2), .val (.int p3), .val (.long (q1 &&& (4294967295 : Int64))), .second, .val (.int (3 : Int32)), .val (.ref b607), .val (.ref b613), .val (.ref r664), .val (.ref r670)] [(.ref r670)])) rfl (by rw [hml]; rfl) (Steps.refl _) (argsL := []) (rest := []) (lenOf pd___I rfl) rfl (by show 2 * 0 + _ ≤ _; exact Nat.le_of_eq rfl) (hb hby at_136) (fun _ _ => ⟨rfl, e688, (by decide : 9 + 0 ≤ _), (by decide : 57 + 0 ≤ _)⟩)
    dsimp only [Pt.U, Pt.locs, Pt.cells, Pt.slots] at X694 l694 y694 z694 st694 hQ694
    subst l694 y694 z694
    obtain ⟨rfl, N694q, e694⟩ := hQ694
    have N694 := Fr.app N688 N694q
    have pre695 : ∀ t, Steps p.tables e below (T694.setTop (mkF m 139 #[.val (.long q1), .second, .val (.int p2), .val (.int p3), .val (.long (q1 &&& (4294967295 : Int64))), .second, .val (.int (3 : Int32)), .val (.ref b607), .val (.ref b613), .val (.ref r664), .val (.ref r670)] [(.int (3 : Int32))])) t → Steps p.tables e below (s₁.setTop (entryFrame m #[(.long q1), (.int p2), (.int p3)] maxLocals)) t := by
      intro t k
      refine pre693 _ ?_
      show Steps p.tables e below (T688.setTop (mkF m 136 #[.val (.long q1), .second, .val (.int p2), .val (.int p3), .val (.long (q1 &&& (4294967295 : Int64))), .second, .val (.int (3 : Int32)), .val (.ref b607), .val (.ref b613), .val (.ref r664), .val (.ref r670)] [(.ref r670)])) _
      refine st694.trans ?_
      exact k
    have pre696 : ∀ t, Steps p.tables e below (T694.setTop (mkF m 141 #[.val (.long q1), .second, .val (.int p2), .val (.int p3), .val (.long (q1 &&& (4294967295 : Int64))), .second, .val (.int (3 : Int32)), .val (.ref b607), .val (.ref b613), .val (.ref r664), .val (.ref r670)] [(.int (3 : Int32)), (.int (3 : Int32))])) t → Steps p.tables e below (s₁.setTop (entryFrame m #[(.long q1), (.int p2), (.int p3)] maxLocals)) t := by
      intro t k
      refine pre695 _ ?_
      show Steps p.tables e below (T694.setTop (mkF m 139 #[.val (.long q1), .second, .val (.int p2), .val (.int p3), .val (.long (q1 &&& (4294967295 : Int64))), .second, .val (.int (3 : Int32)), .val (.ref b607), .val (.ref b613), .val (.ref r664), .val (.ref r670)] [(.int (3 : Int32))])) _
      refine XS.iload X694.here hx rfl (hb hby at_139) rfl ?_
      exact k
    have pre698 : ∀ t, Steps p.tables e below (T694.setTop (mkF m 144 #[.val (.long q1), .second, .val (.int p2), .val (.int p3), .val (.long (q1 &&& (4294967295 : Int64))), .second, .val (.int (3 : Int32)), .val (.ref b607), .val (.ref b613), .val (.ref r664), .val (.ref r670)] [])) t → Steps p.tables e below (s₁.setTop (entryFrame m #[(.long q1), (.int p2), (.int p3)] maxLocals)) t := by
      intro t k
      refine pre696 _ ?_
      show Steps p.tables e below (T694.setTop (mkF m 141 #[.val (.long q1), .second, .val (.int p2), .val (.int p3), .val (.long (q1 &&& (4294967295 : Int64))), .second, .val (.int (3 : Int32)), .val (.ref b607), .val (.ref b613), .val (.ref r664), .val (.ref r670)] [(.int (3 : Int32)), (.int (3 : Int32))])) _
      refine XS.icmpNo X694.here hx rfl (hb hby at_141) rfl (teq (rfl : (3 : Int32) = (3 : Int32))).2 ?_
      exact k
    have pre699 : ∀ t, Steps p.tables e below (T694.setTop (mkF m 146 #[.val (.long q1), .second, .val (.int p2), .val (.int p3), .val (.long (q1 &&& (4294967295 : Int64))), .second, .val (.int (3 : Int32)), .val (.ref b607), .val (.ref b613), .val (.ref r664), .val (.ref r670)] [(.ref r670)])) t → Steps p.tables e below (s₁.setTop (entryFrame m #[(.long q1), (.int p2), (.int p3)] maxLocals)) t := by
      intro t k
      refine pre698 _ ?_
      show Steps p.tables e below (T694.setTop (mkF m 144 #[.val (.long q1), .second, .val (.int p2), .val (.int p3), .val (.long (q1 &&& (4294967295 : Int64))), .second, .val (.int (3 : Int32)), .val (.ref b607), .val (.ref b613), .val (.ref r664), .val (.ref r670)] [])) _
      refine XS.aload X694.here hx rfl (hb hby at_144) rfl rfl ?_
      exact k
    obtain ⟨cq700, kq700, q700a, q700b, q700c⟩ := isOf hZ670 e694 (E670.wr W682)
    obtain ⟨_, _, ⟨T700, L700, k700, n700⟩, -, X700, ⟨Lc700, hQ700, l700, y700, z700⟩, st700⟩ := X694.virtualBack hx (y := (⟨"com/example/message_buffer/messagebuffer/model/Message", "source", "()Lcom/example/message_buffer/messagebuffer/model/Message$Source;"⟩ : MethodName)) (z := (⟨"com/example/message_buffer/messagebuffer/model/Message", "source", "()Lcom/example/message_buffer/messagebuffer/model/Message$Source;"⟩ : MethodName)) hown670 (mvT hZ670 (hw _ (List.mem_of_getElem? (i := 64) rfl))) (mvT hZ670 (hw _ (List.mem_of_getElem? (i := 65) rfl))) (notFace_of_selects (args := #[]) (mvT hZ670 (hw _ (List.mem_of_getElem? (i := 67) rfl)))) (mvT hZ670 (hw _ (List.mem_of_getElem? (i := 67) rfl))) (mvT hZ670 (hw _ (List.mem_of_getElem? (i := 66) rfl))) (by decide) (backOf (W := 0) (rm10 l Z a0 hw [] r670 h682 n0 Z684 (F670c.other W682 (Or.inl (Ne.symm ne_b607_r670)))) hZ670 (hw _ (List.mem_of_getElem? (i := 68) rfl)) (hw _ (List.mem_of_getElem? (i := 4) rfl)) (by decide) (by decide)) q700a q700c (g := (mkF m 146 #[.val (.long q1), .second, .val (.int p2), .val (.int p3), .val (.long (q1 &&& (4294967295 : Int64))), .second, .val (.int (3 : Int32)), .val (.ref b607), .val (.ref b613), .val (.ref r664), .val (.ref r670)] [(.ref r670)])) rfl (by rw [hml]; rfl) (Steps.refl _) (argsL := []) (rest := []) (lenOf pd___Lcom_example_message_buffer_messagebuffer_model_Message_Source_ rfl) rfl (by show 2 * 0 + _ ≤ _; exact Nat.le_of_eq rfl) (hb hby at_146) (fun _ _ => ⟨rfl, e694, (by decide : 9 + 0 ≤ _), (by decide : 57 + 0 ≤ _)⟩)
    dsimp only [Pt.U, Pt.locs, Pt.cells, Pt.slots] at X700 l700 y700 z700 st700 hQ700
    subst l700 y700 z700
    obtain ⟨rfl, N700q, e700⟩ := hQ700
    have N700 := Fr.app N694 N700q
    have pre701 : ∀ t, Steps p.tables e below (T700.setTop (mkF m 149 #[.val (.long q1), .second, .val (.int p2), .val (.int p3), .val (.long (q1 &&& (4294967295 : Int64))), .second, .val (.int (3 : Int32)), .val (.ref b607), .val (.ref b613), .val (.ref r664), .val (.ref r670)] [.null])) t → Steps p.tables e below (s₁.setTop (entryFrame m #[(.long q1), (.int p2), (.int p3)] maxLocals)) t := by
      intro t k
      refine pre699 _ ?_
      show Steps p.tables e below (T694.setTop (mkF m 146 #[.val (.long q1), .second, .val (.int p2), .val (.int p3), .val (.long (q1 &&& (4294967295 : Int64))), .second, .val (.int (3 : Int32)), .val (.ref b607), .val (.ref b613), .val (.ref r664), .val (.ref r670)] [(.ref r670)])) _
      refine st700.trans ?_
      exact k
    have pre702 : ∀ t, Steps p.tables e below (T700.setTop (mkF m 154 #[.val (.long q1), .second, .val (.int p2), .val (.int p3), .val (.long (q1 &&& (4294967295 : Int64))), .second, .val (.int (3 : Int32)), .val (.ref b607), .val (.ref b613), .val (.ref r664), .val (.ref r670)] [(.ref r670)])) t → Steps p.tables e below (s₁.setTop (entryFrame m #[(.long q1), (.int p2), (.int p3)] maxLocals)) t := by
      intro t k
      refine pre701 _ ?_
      show Steps p.tables e below (T700.setTop (mkF m 149 #[.val (.long q1), .second, .val (.int p2), .val (.int p3), .val (.long (q1 &&& (4294967295 : Int64))), .second, .val (.int (3 : Int32)), .val (.ref b607), .val (.ref b613), .val (.ref r664), .val (.ref r670)] [.null])) _
      refine XS.ifnonnullNo X700.here hx rfl (hb hby at_149) rfl ?_
      show Steps p.tables e below (T700.setTop (mkF m 152 #[.val (.long q1), .second, .val (.int p2), .val (.int p3), .val (.long (q1 &&& (4294967295 : Int64))), .second, .val (.int (3 : Int32)), .val (.ref b607), .val (.ref b613), .val (.ref r664), .val (.ref r670)] [])) _
      refine XS.aload X700.here hx rfl (hb hby at_152) rfl rfl ?_
      exact k
    obtain ⟨cq703, kq703, q703a, q703b, q703c⟩ := isOf hZ670 e700 (E670.wr W682)
    obtain ⟨_, _, ⟨T703, L703, k703, n703⟩, -, X703, ⟨Lc703, hQ703, l703, y703, z703⟩, st703⟩ := X700.virtualBack hx (y := (⟨"com/example/message_buffer/messagebuffer/model/Message", "footprint", "()J"⟩ : MethodName)) (z := (⟨"com/example/message_buffer/messagebuffer/model/Message", "footprint", "()J"⟩ : MethodName)) hown670 (mvT hZ670 (hw _ (List.mem_of_getElem? (i := 69) rfl))) (mvT hZ670 (hw _ (List.mem_of_getElem? (i := 70) rfl))) (notFace_of_selects (args := #[]) (mvT hZ670 (hw _ (List.mem_of_getElem? (i := 72) rfl)))) (mvT hZ670 (hw _ (List.mem_of_getElem? (i := 72) rfl))) (mvT hZ670 (hw _ (List.mem_of_getElem? (i := 71) rfl))) (by decide) (backOf (W := 0) (rm11 l Z a0 hw [] r670 (3 : Int32) h682 n0 Z684 (F670d.other W682 (Or.inl (Ne.symm ne_b607_r670)))) hZ670 (hw _ (List.mem_of_getElem? (i := 73) rfl)) (hw _ (List.mem_of_getElem? (i := 4) rfl)) (by decide) (by decide)) q703a q703c (g := (mkF m 154 #[.val (.long q1), .second, .val (.int p2), .val (.int p3), .val (.long (q1 &&& (4294967295 : Int64))), .second, .val (.int (3 : Int32)), .val (.ref b607), .val (.ref b613), .val (.ref r664), .val (.ref r670)] [(.ref r670)])) rfl (by rw [hml]; rfl) (Steps.refl _) (argsL := []) (rest := []) (lenOf pd___J rfl) rfl (by show 2 * 0 + _ ≤ _; exact Nat.le_of_eq rfl) (hb hby at_154) (fun _ _ => ⟨rfl, e700, (by decide : 9 + 0 ≤ _), (by decide : 57 + 0 ≤ _)⟩)
    dsimp only [Pt.U, Pt.locs, Pt.cells, Pt.slots] at X703 l703 y703 z703 st703 hQ703
    subst l703 y703 z703
    obtain ⟨rfl, N703q, e703⟩ := hQ703
    have N703 := Fr.app N700 N703q
    have pre704 : ∀ t, Steps p.tables e below (T703.setTop (mkF m 157 #[.val (.long q1), .second, .val (.int p2), .val (.int p3), .val (.long (q1 &&& (4294967295 : Int64))), .second, .val (.int (3 : Int32)), .val (.ref b607), .val (.ref b613), .val (.ref r664), .val (.ref r670)] [(.long (F11 (3 : Int32)))])) t → Steps p.tables e below (s₁.setTop (entryFrame m #[(.long q1), (.int p2), (.int p3)] maxLocals)) t := by
      intro t k
      refine pre702 _ ?_
      show Steps p.tables e below (T700.setTop (mkF m 154 #[.val (.long q1), .second, .val (.int p2), .val (.int p3), .val (.long (q1 &&& (4294967295 : Int64))), .second, .val (.int (3 : Int32)), .val (.ref b607), .val (.ref b613), .val (.ref r664), .val (.ref r670)] [(.ref r670)])) _
      refine st703.trans ?_
      exact k
    have pre705 : ∀ t, Steps p.tables e below (T703.setTop (mkF m 165 #[.val (.long q1), .second, .val (.int p2), .val (.int p3), .val (.long (q1 &&& (4294967295 : Int64))), .second, .val (.int (3 : Int32)), .val (.ref b607), .val (.ref b613), .val (.ref r664), .val (.ref r670)] [(.int (lcmpW (F11 (3 : Int32)) (((3 : Int32).toInt64) + (80 : Int64))))])) t → Steps p.tables e below (s₁.setTop (entryFrame m #[(.long q1), (.int p2), (.int p3)] maxLocals)) t := by
      intro t k
      refine pre704 _ ?_
      show Steps p.tables e below (T703.setTop (mkF m 157 #[.val (.long q1), .second, .val (.int p2), .val (.int p3), .val (.long (q1 &&& (4294967295 : Int64))), .second, .val (.int (3 : Int32)), .val (.ref b607), .val (.ref b613), .val (.ref r664), .val (.ref r670)] [(.long (F11 (3 : Int32)))])) _
      refine XS.iload X703.here hx rfl (hb hby at_157) rfl ?_
      show Steps p.tables e below (T703.setTop (mkF m 159 #[.val (.long q1), .second, .val (.int p2), .val (.int p3), .val (.long (q1 &&& (4294967295 : Int64))), .second, .val (.int (3 : Int32)), .val (.ref b607), .val (.ref b613), .val (.ref r664), .val (.ref r670)] [(.int (3 : Int32)), (.long (F11 (3 : Int32)))])) _
      refine XS.i2l X703.here hx rfl (hb hby at_159) rfl ?_
      show Steps p.tables e below (T703.setTop (mkF m 160 #[.val (.long q1), .second, .val (.int p2), .val (.int p3), .val (.long (q1 &&& (4294967295 : Int64))), .second, .val (.int (3 : Int32)), .val (.ref b607), .val (.ref b613), .val (.ref r664), .val (.ref r670)] [(.long ((3 : Int32).toInt64)), (.long (F11 (3 : Int32)))])) _
      refine X703.ldc2Long hx hown670 (mvT hZ670 (hw _ (List.mem_of_getElem? (i := 77) rfl))) (g := (mkF m 160 #[.val (.long q1), .second, .val (.int p2), .val (.int p3), .val (.long (q1 &&& (4294967295 : Int64))), .second, .val (.int (3 : Int32)), .val (.ref b607), .val (.ref b613), .val (.ref r664), .val (.ref r670)] [(.long ((3 : Int32).toInt64)), (.long (F11 (3 : Int32)))])) rfl (hb hby at_160) _ ?_
      show Steps p.tables e below (T703.setTop (mkF m 163 #[.val (.long q1), .second, .val (.int p2), .val (.int p3), .val (.long (q1 &&& (4294967295 : Int64))), .second, .val (.int (3 : Int32)), .val (.ref b607), .val (.ref b613), .val (.ref r664), .val (.ref r670)] [(.long (80 : Int64)), (.long ((3 : Int32).toInt64)), (.long (F11 (3 : Int32)))])) _
      refine XS.ladd X703.here hx rfl (hb hby at_163) rfl ?_
      show Steps p.tables e below (T703.setTop (mkF m 164 #[.val (.long q1), .second, .val (.int p2), .val (.int p3), .val (.long (q1 &&& (4294967295 : Int64))), .second, .val (.int (3 : Int32)), .val (.ref b607), .val (.ref b613), .val (.ref r664), .val (.ref r670)] [(.long (((3 : Int32).toInt64) + (80 : Int64))), (.long (F11 (3 : Int32)))])) _
      refine XS.lcmp X703.here hx rfl (hb hby at_164) rfl ?_
      exact k
    by_cases hc706 : (lcmpW (F11 (3 : Int32)) (((3 : Int32).toInt64) + (80 : Int64))) = (0 : Int32)
    · have pre707 : ∀ t, Steps p.tables e below (T703.setTop (mkF m 168 #[.val (.long q1), .second, .val (.int p2), .val (.int p3), .val (.long (q1 &&& (4294967295 : Int64))), .second, .val (.int (3 : Int32)), .val (.ref b607), .val (.ref b613), .val (.ref r664), .val (.ref r670)] [])) t → Steps p.tables e below (s₁.setTop (entryFrame m #[(.long q1), (.int p2), (.int p3)] maxLocals)) t := by
        intro t k
        refine pre705 _ ?_
        show Steps p.tables e below (T703.setTop (mkF m 165 #[.val (.long q1), .second, .val (.int p2), .val (.int p3), .val (.long (q1 &&& (4294967295 : Int64))), .second, .val (.int (3 : Int32)), .val (.ref b607), .val (.ref b613), .val (.ref r664), .val (.ref r670)] [(.int (lcmpW (F11 (3 : Int32)) (((3 : Int32).toInt64) + (80 : Int64))))])) _
        refine XS.ifNo X703.here hx rfl (hb hby at_165) rfl ((if0 _ _).trans (teq hc706).2) ?_
        exact k
      have pre708 : ∀ t, Steps p.tables e below (T703.setTop (mkF m 172 #[.val (.long q1), .second, .val (.int p2), .val (.int p3), .val (.long (q1 &&& (4294967295 : Int64))), .second, .val (.int (3 : Int32)), .val (.ref b607), .val (.ref b613), .val (.ref r664), .val (.ref r670)] [(.ref r664), (.ref r670)])) t → Steps p.tables e below (s₁.setTop (entryFrame m #[(.long q1), (.int p2), (.int p3)] maxLocals)) t := by
        intro t k
        refine pre707 _ ?_
        show Steps p.tables e below (T703.setTop (mkF m 168 #[.val (.long q1), .second, .val (.int p2), .val (.int p3), .val (.long (q1 &&& (4294967295 : Int64))), .second, .val (.int (3 : Int32)), .val (.ref b607), .val (.ref b613), .val (.ref r664), .val (.ref r670)] [])) _
        refine XS.aload X703.here hx rfl (hb hby at_168) rfl rfl ?_
        show Steps p.tables e below (T703.setTop (mkF m 170 #[.val (.long q1), .second, .val (.int p2), .val (.int p3), .val (.long (q1 &&& (4294967295 : Int64))), .second, .val (.int (3 : Int32)), .val (.ref b607), .val (.ref b613), .val (.ref r664), .val (.ref r670)] [(.ref r670)])) _
        refine XS.aload X703.here hx rfl (hb hby at_170) rfl rfl ?_
        exact k
      obtain ⟨cq709, kq709, q709a, q709b, q709c⟩ := isOf hZ670 e703 (E670.wr W682)
      obtain ⟨_, _, ⟨T709, L709, k709, n709⟩, -, X709, ⟨Lc709, hQ709, l709, y709, z709⟩, st709⟩ := X703.virtualBack hx (y := (⟨"com/example/message_buffer/messagebuffer/model/Message", "equals", "(Ljava/lang/Object;)Z"⟩ : MethodName)) (z := (⟨"com/example/message_buffer/messagebuffer/model/Message", "equals", "(Ljava/lang/Object;)Z"⟩ : MethodName)) hown670 (mvT hZ670 (hw _ (List.mem_of_getElem? (i := 78) rfl))) (mvT hZ670 (hw _ (List.mem_of_getElem? (i := 79) rfl))) (notFace_of_selects (args := #[]) (mvT hZ670 (hw _ (List.mem_of_getElem? (i := 81) rfl)))) (mvT hZ670 (hw _ (List.mem_of_getElem? (i := 81) rfl))) (mvT hZ670 (hw _ (List.mem_of_getElem? (i := 80) rfl))) (by decide) (backOf (W := 0) (rm133 l Z a0 hw [] r670 r664 ((q1 &&& (4294967295 : Int64)).toInt32) d670 b613 k607 k613 (nar .byte (p3.toInt8.toInt32)) (nar .byte ((p3 >>> ((8 : Int32) &&& 31)).toInt8.toInt32)) (nar .byte ((p3 >>> ((16 : Int32) &&& 31)).toInt8.toInt32)) h682 n0 Z684 ((E664.keep K670).wr W682) (F670c.other W682 (Or.inl (Ne.symm ne_b607_r670))) (F670a.other W682 (Or.inl (Ne.symm ne_b607_r670))) ((F664a.keep K670 nin0).other W682 (Or.inl (Ne.symm ne_b607_r664))) (F670b.other W682 (Or.inl (Ne.symm ne_b607_r670))) ((F664b.keep K670 nin0).other W682 (Or.inl (Ne.symm ne_b607_r664))) (Vd670.other W682 (Ne.symm ne_b607_d670)) (((V658.keep K664 nin0).keep K670 nin0).other W682 (Ne.symm ne_b607_b613))) hZ670 (hw _ (List.mem_of_getElem? (i := 82) rfl)) (hw _ (List.mem_of_getElem? (i := 4) rfl)) (by decide) (by decide)) q709a q709c (g := (mkF m 172 #[.val (.long q1), .second, .val (.int p2), .val (.int p3), .val (.long (q1 &&& (4294967295 : Int64))), .second, .val (.int (3 : Int32)), .val (.ref b607), .val (.ref b613), .val (.ref r664), .val (.ref r670)] [(.ref r664), (.ref r670)])) rfl (by rw [hml]; rfl) (Steps.refl _) (argsL := [(.ref r664)]) (rest := []) (lenOf pd__Ljava_lang_Object__Z rfl) rfl (by show 2 * 0 + _ ≤ _; exact Nat.le_of_eq rfl) (hb hby at_172) (fun _ _ => ⟨rfl, e703, (by decide : 9 + 0 ≤ _), (by decide : 57 + 0 ≤ _)⟩)
      dsimp only [Pt.U, Pt.locs, Pt.cells, Pt.slots] at X709 l709 y709 z709 st709 hQ709
      subst l709 y709 z709
      obtain ⟨rfl, N709q, e709⟩ := hQ709
      have N709 := Fr.app N703 N709q
      have pre710 : ∀ t, Steps p.tables e below (T709.setTop (mkF m 175 #[.val (.long q1), .second, .val (.int p2), .val (.int p3), .val (.long (q1 &&& (4294967295 : Int64))), .second, .val (.int (3 : Int32)), .val (.ref b607), .val (.ref b613), .val (.ref r664), .val (.ref r670)] [(.int (1 : Int32))])) t → Steps p.tables e below (s₁.setTop (entryFrame m #[(.long q1), (.int p2), (.int p3)] maxLocals)) t := by
        intro t k
        refine pre708 _ ?_
        show Steps p.tables e below (T703.setTop (mkF m 172 #[.val (.long q1), .second, .val (.int p2), .val (.int p3), .val (.long (q1 &&& (4294967295 : Int64))), .second, .val (.int (3 : Int32)), .val (.ref b607), .val (.ref b613), .val (.ref r664), .val (.ref r670)] [(.ref r664), (.ref r670)])) _
        refine st709.trans ?_
        exact k
      have pre712 : ∀ t, Steps p.tables e below (T709.setTop (mkF m 178 #[.val (.long q1), .second, .val (.int p2), .val (.int p3), .val (.long (q1 &&& (4294967295 : Int64))), .second, .val (.int (3 : Int32)), .val (.ref b607), .val (.ref b613), .val (.ref r664), .val (.ref r670)] [])) t → Steps p.tables e below (s₁.setTop (entryFrame m #[(.long q1), (.int p2), (.int p3)] maxLocals)) t := by
        intro t k
        refine pre710 _ ?_
        show Steps p.tables e below (T709.setTop (mkF m 175 #[.val (.long q1), .second, .val (.int p2), .val (.int p3), .val (.long (q1 &&& (4294967295 : Int64))), .second, .val (.int (3 : Int32)), .val (.ref b607), .val (.ref b613), .val (.ref r664), .val (.ref r670)] [(.int (1 : Int32))])) _
        refine XS.ifNo X709.here hx rfl (hb hby at_175) rfl ((if0 _ _).trans (feq (by decide : ¬ ((1 : Int32) = (0 : Int32)))).1) ?_
        exact k
      have pre713 : ∀ t, Steps p.tables e below (T709.setTop (mkF m 183 #[.val (.long q1), .second, .val (.int p2), .val (.int p3), .val (.long (q1 &&& (4294967295 : Int64))), .second, .val (.int (3 : Int32)), .val (.ref b607), .val (.ref b613), .val (.ref r664), .val (.ref r670)] [(.int (1 : Int32))])) t → Steps p.tables e below (s₁.setTop (entryFrame m #[(.long q1), (.int p2), (.int p3)] maxLocals)) t := by
        intro t k
        refine pre712 _ ?_
        show Steps p.tables e below (T709.setTop (mkF m 178 #[.val (.long q1), .second, .val (.int p2), .val (.int p3), .val (.long (q1 &&& (4294967295 : Int64))), .second, .val (.int (3 : Int32)), .val (.ref b607), .val (.ref b613), .val (.ref r664), .val (.ref r670)] [])) _
        refine XS.iconst X709.here hx rfl (hb hby at_178) ?_
        show Steps p.tables e below (T709.setTop (mkF m 179 #[.val (.long q1), .second, .val (.int p2), .val (.int p3), .val (.long (q1 &&& (4294967295 : Int64))), .second, .val (.int (3 : Int32)), .val (.ref b607), .val (.ref b613), .val (.ref r664), .val (.ref r670)] [(.int (1 : Int32))])) _
        refine XS.goto X709.here hx rfl (pc0 := 179) (pc' := 183) rfl (hb hby at_179) (by decide) (by decide) ?_
        exact k
      obtain ⟨fs, hr, hrun, hended, hsame⟩ := Stand.leaveW (s := s) (vm₁ := T670.vm) X709 hS670 (by rw [e709]; exact K685) (v := some (.int (1 : Int32))) (fun h => by rw [hret] at h; cases h) (hlocks := hlocks)
      refine ⟨_, _, pre713 _ ?_, hrun, hended, _, _, rfl, ?_, ⟨hsame.1, hsame.2.1, hsame.2.2.1, hsame.2.2.2.mono (by decide) (by decide)⟩⟩
      · show Steps p.tables e below (T709.setTop (mkF m 183 #[.val (.long q1), .second, .val (.int p2), .val (.int p3), .val (.long (q1 &&& (4294967295 : Int64))), .second, .val (.int (3 : Int32)), .val (.ref b607), .val (.ref b613), .val (.ref r664), .val (.ref r670)] [(.int (1 : Int32))])) _
        exact retN X709 hx (t := .boolean) hret (by simp) (hb hby at_183) hr
      · show Q0k3 Z q1 p2 p3 h0 n0 _ T709.heap _
        exact ⟨(by rw [F0k3, if_pos hc691, if_pos hc706]), N709⟩
    · have pre714 : ∀ t, Steps p.tables e below (T703.setTop (mkF m 182 #[.val (.long q1), .second, .val (.int p2), .val (.int p3), .val (.long (q1 &&& (4294967295 : Int64))), .second, .val (.int (3 : Int32)), .val (.ref b607), .val (.ref b613), .val (.ref r664), .val (.ref r670)] [])) t → Steps p.tables e below (s₁.setTop (entryFrame m #[(.long q1), (.int p2), (.int p3)] maxLocals)) t := by
        intro t k
        refine pre705 _ ?_
        show Steps p.tables e below (T703.setTop (mkF m 165 #[.val (.long q1), .second, .val (.int p2), .val (.int p3), .val (.long (q1 &&& (4294967295 : Int64))), .second, .val (.int (3 : Int32)), .val (.ref b607), .val (.ref b613), .val (.ref r664), .val (.ref r670)] [(.int (lcmpW (F11 (3 : Int32)) (((3 : Int32).toInt64) + (80 : Int64))))])) _
        refine XS.ifYes X703.here hx rfl (pc0 := 165) (pc' := 182) rfl (hb hby at_165) rfl ((if0 _ _).trans (feq hc706).2) (by decide) (by decide) ?_
        exact k
      have pre715 : ∀ t, Steps p.tables e below (T703.setTop (mkF m 183 #[.val (.long q1), .second, .val (.int p2), .val (.int p3), .val (.long (q1 &&& (4294967295 : Int64))), .second, .val (.int (3 : Int32)), .val (.ref b607), .val (.ref b613), .val (.ref r664), .val (.ref r670)] [(.int (0 : Int32))])) t → Steps p.tables e below (s₁.setTop (entryFrame m #[(.long q1), (.int p2), (.int p3)] maxLocals)) t := by
        intro t k
        refine pre714 _ ?_
        show Steps p.tables e below (T703.setTop (mkF m 182 #[.val (.long q1), .second, .val (.int p2), .val (.int p3), .val (.long (q1 &&& (4294967295 : Int64))), .second, .val (.int (3 : Int32)), .val (.ref b607), .val (.ref b613), .val (.ref r664), .val (.ref r670)] [])) _
        refine XS.iconst X703.here hx rfl (hb hby at_182) ?_
        exact k
      obtain ⟨fs, hr, hrun, hended, hsame⟩ := Stand.leaveW (s := s) (vm₁ := T670.vm) X703 hS670 (by rw [e703]; exact K685) (v := some (.int (0 : Int32))) (fun h => by rw [hret] at h; cases h) (hlocks := hlocks)
      refine ⟨_, _, pre715 _ ?_, hrun, hended, _, _, rfl, ?_, ⟨hsame.1, hsame.2.1, hsame.2.2.1, hsame.2.2.2.mono (by decide) (by decide)⟩⟩
      · show Steps p.tables e below (T703.setTop (mkF m 183 #[.val (.long q1), .second, .val (.int p2), .val (.int p3), .val (.long (q1 &&& (4294967295 : Int64))), .second, .val (.int (3 : Int32)), .val (.ref b607), .val (.ref b613), .val (.ref r664), .val (.ref r670)] [(.int (0 : Int32))])) _
        exact retN X703 hx (t := .boolean) hret (by simp) (hb hby at_183) hr
      · show Q0k3 Z q1 p2 p3 h0 n0 _ T703.heap _
        exact ⟨(by rw [F0k3, if_pos hc691, if_neg hc706]), N703⟩
  · have pre716 : ∀ t, Steps p.tables e below (T688.setTop (mkF m 182 #[.val (.long q1), .second, .val (.int p2), .val (.int p3), .val (.long (q1 &&& (4294967295 : Int64))), .second, .val (.int (3 : Int32)), .val (.ref b607), .val (.ref b613), .val (.ref r664), .val (.ref r670)] [])) t → Steps p.tables e below (s₁.setTop (entryFrame m #[(.long q1), (.int p2), (.int p3)] maxLocals)) t := by
      intro t k
      refine pre690 _ ?_
      show Steps p.tables e below (T688.setTop (mkF m 131 #[.val (.long q1), .second, .val (.int p2), .val (.int p3), .val (.long (q1 &&& (4294967295 : Int64))), .second, .val (.int (3 : Int32)), .val (.ref b607), .val (.ref b613), .val (.ref r664), .val (.ref r670)] [(.int (lcmpW (F7 ((q1 &&& (4294967295 : Int64)).toInt32)) (q1 &&& (4294967295 : Int64))))])) _
      refine XS.ifYes X688.here hx rfl (pc0 := 131) (pc' := 182) rfl (hb hby at_131) rfl ((if0 _ _).trans (feq hc691).2) (by decide) (by decide) ?_
      exact k
    have pre717 : ∀ t, Steps p.tables e below (T688.setTop (mkF m 183 #[.val (.long q1), .second, .val (.int p2), .val (.int p3), .val (.long (q1 &&& (4294967295 : Int64))), .second, .val (.int (3 : Int32)), .val (.ref b607), .val (.ref b613), .val (.ref r664), .val (.ref r670)] [(.int (0 : Int32))])) t → Steps p.tables e below (s₁.setTop (entryFrame m #[(.long q1), (.int p2), (.int p3)] maxLocals)) t := by
      intro t k
      refine pre716 _ ?_
      show Steps p.tables e below (T688.setTop (mkF m 182 #[.val (.long q1), .second, .val (.int p2), .val (.int p3), .val (.long (q1 &&& (4294967295 : Int64))), .second, .val (.int (3 : Int32)), .val (.ref b607), .val (.ref b613), .val (.ref r664), .val (.ref r670)] [])) _
      refine XS.iconst X688.here hx rfl (hb hby at_182) ?_
      exact k
    obtain ⟨fs, hr, hrun, hended, hsame⟩ := Stand.leaveW (s := s) (vm₁ := T670.vm) X688 hS670 (by rw [e688]; exact K685) (v := some (.int (0 : Int32))) (fun h => by rw [hret] at h; cases h) (hlocks := hlocks)
    refine ⟨_, _, pre717 _ ?_, hrun, hended, _, _, rfl, ?_, ⟨hsame.1, hsame.2.1, hsame.2.2.1, hsame.2.2.2.mono (by decide) (by decide)⟩⟩
    · show Steps p.tables e below (T688.setTop (mkF m 183 #[.val (.long q1), .second, .val (.int p2), .val (.int p3), .val (.long (q1 &&& (4294967295 : Int64))), .second, .val (.int (3 : Int32)), .val (.ref b607), .val (.ref b613), .val (.ref r664), .val (.ref r670)] [(.int (0 : Int32))])) _
      exact retN X688 hx (t := .boolean) hret (by simp) (hb hby at_183) hr
    · show Q0k3 Z q1 p2 p3 h0 n0 _ T688.heap _
      exact ⟨(by rw [F0k3, if_neg hc691]), N688⟩
theorem own_fl (q : Int64) : F7 ((q &&& (4294967295 : Int64)).toInt32) = q &&& (4294967295 : Int64) := by
  unfold F7 F8
  have e := c_maskL q 4294967295 32 (by decide) (by decide)
  have p : ((2 ^ 32 : Nat) : Int) = 4294967296 := by decide
  rw [p] at e
  generalize q &&& (4294967295 : Int64) = x at *
  have a := c_l2i x
  have b := rng32 x.toInt32
  have d := c_maskL (x.toInt32.toInt64) 4294967295 32 (by decide) (by decide)
  rw [p, c_i2l] at d
  apply Int64.toInt_inj.mp
  rw [d]
  omega
theorem own_four (p : Int32) : p &&& (3 : Int32) = 0 ∨ p &&& (3 : Int32) = 1 ∨ p &&& (3 : Int32) = 2 ∨ p &&& (3 : Int32) = 3 := by
  have e : (p &&& 3).toInt = p.toInt % ((2 ^ 2 : Nat) : Int) := c_mask p 3 2 (by decide) (by decide)
  have q : ((2 ^ 2 : Nat) : Int) = 4 := by decide
  rw [q] at e
  generalize p &&& (3 : Int32) = x at *
  simp only [← Int32.toInt_inj]
  have k0 : (0 : Int32).toInt = 0 := rfl
  have k1 : (1 : Int32).toInt = 1 := rfl
  have k2 : (2 : Int32).toInt = 2 := rfl
  have k3 : (3 : Int32).toInt = 3 := rfl
  omega
theorem plain0k0 (q1 : Int64) : F0k0 q1 = 1 := by
  unfold F0k0
  rw [own_fl, if_pos ((lw_eq _ _).mpr rfl), if_pos (by decide)]
theorem plain0k1 (q1 : Int64) : F0k1 q1 = 1 := by
  unfold F0k1
  rw [own_fl, if_pos ((lw_eq _ _).mpr rfl), if_pos (by decide)]
theorem plain0k2 (q1 : Int64) : F0k2 q1 = 1 := by
  unfold F0k2
  rw [own_fl, if_pos ((lw_eq _ _).mpr rfl), if_pos (by decide)]
theorem plain0k3 (q1 : Int64) : F0k3 q1 = 1 := by
  unfold F0k3
  rw [own_fl, if_pos ((lw_eq _ _).mpr rfl), if_pos (by decide)]
theorem own_rm0 (l : Launch) (Z : State) (a0 : Array Value) (hw : ∀ d ∈ tables_1, d.before a0 Z = true) (ws : List Jvm.Cond) (q1 : Int64) (p2 p3 : Int32) (h0 : Heap) (n0 : Nat) (Z0 : n0 ≤ h0.size) (O0 : Old Z n0 h0) :
    MetFree l x (head1 (Jvm.Cond.code x code maxLocals ret :: ws) room_1) (fun a U => a = #[(.long q1), (.int p2), (.int p3)] ∧ Z.Warmed39 U.vm ∧ U.heap = h0) (fun _ _ _ _ _ => True) (fun _ U o U' => ∃ v L, o = .returned v ∧ (v = some (.int (1 : Int32)) ∧ Fr n0 L) ∧ ReturnedEndW U o U' L room_1.cells room_1.slots) := by
  rcases own_four p2 with h | h | h | h
  · refine MetFree.mono (rm0k0 l Z a0 hw ws q1 p2 p3 h0 n0 Z0 O0 h) (fun _ _ q => q) (fun _ _ _ _ _ q => q) (fun a s o s' _ q => ?_)
    obtain ⟨v, L, ho, ⟨hv, hN⟩, he⟩ := q
    exact ⟨v, L, ho, ⟨by rw [← plain0k0 q1]; exact hv, hN⟩, he⟩
  · refine MetFree.mono (rm0k1 l Z a0 hw ws q1 p2 p3 h0 n0 Z0 O0 h) (fun _ _ q => q) (fun _ _ _ _ _ q => q) (fun a s o s' _ q => ?_)
    obtain ⟨v, L, ho, ⟨hv, hN⟩, he⟩ := q
    exact ⟨v, L, ho, ⟨by rw [← plain0k1 q1]; exact hv, hN⟩, he⟩
  · refine MetFree.mono (rm0k2 l Z a0 hw ws q1 p2 p3 h0 n0 Z0 O0 h) (fun _ _ q => q) (fun _ _ _ _ _ q => q) (fun a s o s' _ q => ?_)
    obtain ⟨v, L, ho, ⟨hv, hN⟩, he⟩ := q
    exact ⟨v, L, ho, ⟨by rw [← plain0k2 q1]; exact hv, hN⟩, he⟩
  · refine MetFree.mono (rm0k3 l Z a0 hw ws q1 p2 p3 h0 n0 Z0 O0 h) (fun _ _ q => q) (fun _ _ _ _ _ q => q) (fun a s o s' _ q => ?_)
    obtain ⟨v, L, ho, ⟨hv, hN⟩, he⟩ := q
    exact ⟨v, L, ho, ⟨by rw [← plain0k3 q1]; exact hv, hN⟩, he⟩
set_option maxRecDepth 65536 in
set_option maxHeartbeats 40000000 in
theorem comes_1 {Post : Tables → Env → Array Value → State → Outcome → State → Prop} (hpost : ∀ tb e args s v u, (limb_1_1.after args s (.returned v) u = true ∧ limb_1_2.after args s (.returned v) u = true ∧ True) → ReturnedEndW s (.returned v) u (Jvm.fieldLocs frame_1_writes args s ++ Jvm.arrayLocs frame_1_arrays args s ++ Jvm.staticLocs frame_1_statics s) 24 1152 → Post tb e args s (.returned v) u) :
    ArmFor flags0 classFile x code maxLocals ret World_1 tables_1 room_1 Calls_1 rest_1 Pre_1 Post := by
  intro l hfl _ _ p e ha hc hk s m args below hf hA hF happ hP
  obtain ⟨hcalls, hrest, hpre⟩ := hP
  obtain ⟨-, -, -, hnamed, -, -, -, hat⟩ := (Spec.applies_iff hf).mp happ
  obtain ⟨hg, hn⟩ := and_e (Cond.before_iff.mp (show (Jvm.Cond.and given_1 narrow_1).before args s = true from hpre))
  obtain ⟨g718, g719⟩ := and_e hg
  obtain ⟨g720, g721⟩ := and_e g719
  obtain ⟨g722, g723⟩ := and_e g721
  obtain ⟨w0, w1, w2, rfl⟩ : ∃ w0 w1 w2 : Value, args = #[w0, w1, w2] := by
    have hs : args.size = 3 := by simpa [Cond.value, given_1] using g718
    obtain ⟨L⟩ := args
    match L, hs with
    | [w0, w1, w2], _ => exact ⟨w0, w1, w2, rfl⟩
  have hw := fun d (hd : d ∈ tables_1) => atoms_spec (ws := Jvm.Cond.code x code maxLocals ret :: tables_1) hat d (List.mem_cons_of_mem _ hd)
  have hfit : Fit s := fun {y c} hc i hi => by
    obtain ⟨ha, rfl⟩ := Array.getElem?_eq_some_iff.mp hc
    have q := List.all_eq_true.mp ((Array.all_eq_true_iff_forall_mem.mp hF) _ (Array.getElem_mem ha)) i (List.mem_range.mpr hi)
    simpa [Array.getElem?_eq_getElem hi] using q
  obtain ⟨i0, ei0⟩ := isL_v g720
  obtain rfl : w0 = (.long i0) := Option.some.inj ei0
  obtain ⟨i1, ei1⟩ := is_v g722
  obtain rfl : w1 = (.int i1) := Option.some.inj ei1
  obtain ⟨i2, ei2⟩ := is_v g723
  obtain rfl : w2 = (.int i2) := Option.some.inj ei2
  obtain ⟨n, o, h1, h2, h3, v, L, rfl, ⟨hv, N⟩, hq⟩ := own_rm0 l s _ hw tables_1 i0 i1 i2  s.heap s.heap.size (Nat.le_refl _) (Old.start s)  p e ha hc hk s m _ below hf ((Spec.applies_iff_loose hf).mp happ).1 ⟨rfl, State.Warmed39.refl s, rfl⟩ trivial
  subst hv
  refine ⟨n, _, h1, h2, h3, hpost _ _ _ _ _ _ ⟨Cond.after_iff.mpr rfl, Cond.after_iff.mpr (eq_i res_at (Term.int_eval (1)) rfl), trivial⟩ ⟨hq.1, hq.2.1, hq.2.2.1, (hq.2.2.2.sift fun y hy => Or.inr (N y hy)).mono (by decide) (by decide)⟩⟩
theorem main_1_1 : Claimed_1_1 := comes_1 fun _ _ _ _ _ _ h hF => ⟨h.1, hF⟩
theorem main_1_2 : Claimed_1_2 := comes_1 fun _ _ _ _ _ _ h hF => ⟨h.2.1, hF⟩
end Jvm.Pilot.@@N@@
namespace Jvm.Pilot.@@N@@
open Jvm Jvm.ClassFile Sem Op Lib Jvm.Free Jvm.Stand Jvm.Pilot.@@N@@.Jvm.D
/-! MADE BY PROGRAM (witnessworld.py) out of the Statement's table words and the real class files: 19 classes; the members and pool entries that the words name. The judged class is class 1, her method 1. -/
namespace start1
open Jvm.ClassFile
def u (s : String) : CpInfo := .utf8 (stringToUtf16 s)
/-- a pool by its gaps: so many unusable entries, then the entry; so many at the end -/
def gap : Nat → List CpInfo → List CpInfo
  | 0, r => r
  | n + 1, r => .unusable :: gap n r
def poolList (es : List (Nat × CpInfo)) (last : Nat) : List CpInfo := es.foldr (fun e r => gap e.1 (e.2 :: r)) (gap last [])
def pool (es : List (Nat × CpInfo)) (last : Nat) : Array CpInfo := ⟨poolList es last⟩
def fileOf (pool : Array CpInfo) (this : Nat) (attrs : Array Attribute := #[]) (ms : Array MethodInfo := #[]) (fl : Nat := 33) (sup : Nat := 0) (ifs : Array Nat := #[]) (fds : Array FieldInfo := #[]) : ClassFile where
  minorVersion := 0
  majorVersion := 65
  constantPool := pool
  accessFlags := fl
  thisClass := this
  superClass := sup
  interfaces := ifs
  fields := fds
  methods := ms
  attributes := attrs
def plain (name : String) (sup : Option ClassId) : Class where
  name := name
  kind := .ordinary
  loader := none
  accessFlags := 33
  super := sup
  interfaces := #[]
  cf := none
  fields := #[]
  methods := #[]
  instanceTypes := #[]
  staticTypes := #[]
  resolved := #[]
  callSites := []
  init := .initialized
  statics := none
  mirror := none

def pool0 : Array CpInfo := pool [(5, u "<init>"), (0, u "()V"), (1, .class_ 10), (1, u "java/lang/Object"), (85, u "clone"), (0, u "()Ljava/lang/Object;")] 26

def k0c0 : Code := { maxStack := 0, maxLocals := 1, code := object_method_1_code, exceptionTable := #[], attributes := #[] }
def k0m0 : Method := { name := "<init>", desc := "()V", sig := { parameters := [], returnType := none }, accessFlags := 1, code := some k0c0 }
def k0m1 : Method := { name := "clone", desc := "()Ljava/lang/Object;", sig := { parameters := [], returnType := some (.object "java/lang/Object") }, accessFlags := 260, code := none }
/-- java/lang/Object -/
def k0 : Class := { plain "java/lang/Object" none with
  accessFlags := 33
  interfaces := #[]
  cf := some (fileOf pool0 8 #[] #[{ accessFlags := 1, nameIndex := 5, descriptorIndex := 6, attributes := #[] }, { accessFlags := 260, nameIndex := 96, descriptorIndex := 97, attributes := #[] }] 33 0 #[] #[])
  fields := #[]
  methods := #[k0m0, k0m1]
  instanceTypes := #[]
  staticTypes := #[]
  resolved := Array.replicate 124 none
  statics := none }

def pool1 : Array CpInfo := pool [(2, .class_ 4), (1, u "java/lang/Object"), (0, u "<init>"), (0, u "()V"), (0, .long 4294967295), (1, .methodref 10 11), (0, .class_ 12), (0, .nameAndType 13 14), (0, u "com/example/message_buffer/messagebuffer/model/Message"), (0, u "adopt"), (0, u "(J[B)Lcom/example/message_buffer/messagebuffer/model/Message;"), (0, .methodref 10 16), (0, .nameAndType 17 14), (0, u "of"), (0, .methodref 10 19), (0, .nameAndType 20 21), (0, u "flags"), (0, u "()J"), (0, .methodref 10 23), (0, .nameAndType 24 25), (0, u "size"), (0, u "()I"), (0, .methodref 10 27), (0, .nameAndType 28 29), (0, u "source"), (0, u "()Lcom/example/message_buffer/messagebuffer/model/Message$Source;"), (0, .methodref 10 31), (0, .nameAndType 32 21), (0, u "footprint"), (0, .long 80), (1, .methodref 10 36), (0, .nameAndType 37 38), (0, u "equals"), (0, u "(Ljava/lang/Object;)Z"), (0, .class_ 40), (0, u "com/example/message_buffer/messagebuffer/model/MessageOfPinLaw"), (2, u "law"), (0, u "(JII)Z")] 9

def k1m0 : Method := { name := "<init>", desc := "()V", sig := { parameters := [], returnType := none }, accessFlags := 1, code := none }
def k1c1 : Code := { maxStack := 6, maxLocals := 11, code := code, exceptionTable := #[], attributes := #[] }
def k1m1 : Method := { name := "law", desc := "(JII)Z", sig := { parameters := [.long, .int, .int], returnType := some .boolean }, accessFlags := 9, code := some k1c1 }
/-- com/example/message_buffer/messagebuffer/model/MessageOfPinLaw -/
def k1 : Class := { plain "com/example/message_buffer/messagebuffer/model/MessageOfPinLaw" (some 0) with
  accessFlags := 49
  interfaces := #[]
  cf := some (fileOf pool1 39 #[] #[{ accessFlags := 1, nameIndex := 5, descriptorIndex := 6, attributes := #[] }, { accessFlags := 9, nameIndex := 43, descriptorIndex := 44, attributes := #[] }] 49 2 #[] #[])
  fields := #[]
  methods := #[k1m0, k1m1]
  instanceTypes := #[]
  staticTypes := #[]
  resolved := Array.replicate 54 none
  statics := none }

def pool2 : Array CpInfo := pool [(1, .methodref 2 3), (0, .class_ 4), (0, .nameAndType 5 6), (0, u "java/lang/Object"), (0, u "<init>"), (0, u "()V"), (0, .fieldref 8 9), (0, .class_ 10), (0, .nameAndType 11 12), (0, u "com/example/message_buffer/messagebuffer/model/Message"), (0, u "flags"), (0, u "I"), (0, .fieldref 8 14), (0, .nameAndType 15 16), (0, u "data"), (0, u "[B"), (0, .fieldref 8 18), (0, .nameAndType 19 20), (0, u "source"), (0, u "Lcom/example/message_buffer/messagebuffer/model/Message$Source;"), (0, .fieldref 8 22), (0, .nameAndType 23 12), (0, u "size"), (0, .string 15), (0, .methodref 26 27), (0, .class_ 28), (0, .nameAndType 29 30), (0, u "java/util/Objects"), (0, u "requireNonNull"), (0, u "(Ljava/lang/Object;Ljava/lang/String;)Ljava/lang/Object;"), (0, .methodref 8 32), (0, .nameAndType 33 34), (0, u "checked"), (0, u "(J)I"), (0, .methodref 36 37), (0, .class_ 16), (0, .nameAndType 38 39), (0, u "clone"), (0, u "()Ljava/lang/Object;"), (0, .methodref 8 41), (0, .nameAndType 5 42), (0, u "(I[B)V"), (19, .long 4294967295), (4, .methodref 68 69), (0, .class_ 70), (0, .nameAndType 71 72), (0, u "java/lang/Integer"), (0, u "toUnsignedLong"), (0, u "(I)J"), (1, .class_ 76), (1, u "com/example/message_buffer/messagebuffer/model/Message$Source"), (2, .methodref 8 80), (0, .nameAndType 81 72), (0, u "footprint"), (20, .methodref 103 104), (0, .class_ 105), (0, .nameAndType 106 107), (0, u "java/util/Arrays"), (0, u "equals"), (0, u "([B[B)Z"), (12, u "()J"), (19, u "MAX_FLAGS"), (0, u "J"), (1, u "HOLDING_BYTES"), (3, u "of"), (0, u "(J[B)Lcom/example/message_buffer/messagebuffer/model/Message;"), (1, u "adopt"), (3, u "()I"), (0, u "()Lcom/example/message_buffer/messagebuffer/model/Message$Source;"), (8, u "(Ljava/lang/Object;)Z")] 27

def k2c0 : Code := { maxStack := 2, maxLocals := 3, code := prog_14_method_1_code, exceptionTable := #[], attributes := #[] }
def k2m0 : Method := { name := "<init>", desc := "(I[B)V", sig := { parameters := [.int, (.array .byte)], returnType := none }, accessFlags := 2, code := some k2c0 }
def k2c1 : Code := { maxStack := 4, maxLocals := 3, code := prog_14_method_3_code, exceptionTable := #[], attributes := #[] }
def k2m1 : Method := { name := "of", desc := "(J[B)Lcom/example/message_buffer/messagebuffer/model/Message;", sig := { parameters := [.long, (.array .byte)], returnType := some (.object "com/example/message_buffer/messagebuffer/model/Message") }, accessFlags := 9, code := some k2c1 }
def k2c2 : Code := { maxStack := 4, maxLocals := 3, code := prog_14_method_5_code, exceptionTable := #[], attributes := #[] }
def k2m2 : Method := { name := "adopt", desc := "(J[B)Lcom/example/message_buffer/messagebuffer/model/Message;", sig := { parameters := [.long, (.array .byte)], returnType := some (.object "com/example/message_buffer/messagebuffer/model/Message") }, accessFlags := 9, code := some k2c2 }
def k2c3 : Code := { maxStack := 4, maxLocals := 2, code := prog_14_method_7_code, exceptionTable := #[], attributes := #[] }
def k2m3 : Method := { name := "checked", desc := "(J)I", sig := { parameters := [.long], returnType := some .int }, accessFlags := 10, code := some k2c3 }
def k2c4 : Code := { maxStack := 2, maxLocals := 1, code := prog_14_method_8_code, exceptionTable := #[], attributes := #[] }
def k2m4 : Method := { name := "flags", desc := "()J", sig := { parameters := [], returnType := some .long }, accessFlags := 1, code := some k2c4 }
def k2c5 : Code := { maxStack := 1, maxLocals := 1, code := prog_14_method_9_code, exceptionTable := #[], attributes := #[] }
def k2m5 : Method := { name := "size", desc := "()I", sig := { parameters := [], returnType := some .int }, accessFlags := 1, code := some k2c5 }
def k2c6 : Code := { maxStack := 1, maxLocals := 1, code := prog_14_method_10_code, exceptionTable := #[], attributes := #[] }
def k2m6 : Method := { name := "source", desc := "()Lcom/example/message_buffer/messagebuffer/model/Message$Source;", sig := { parameters := [], returnType := some (.object "com/example/message_buffer/messagebuffer/model/Message$Source") }, accessFlags := 1, code := some k2c6 }
def k2c7 : Code := { maxStack := 2, maxLocals := 1, code := prog_14_method_12_code, exceptionTable := #[], attributes := #[] }
def k2m7 : Method := { name := "footprint", desc := "(I)J", sig := { parameters := [.int], returnType := some .long }, accessFlags := 9, code := some k2c7 }
def k2c8 : Code := { maxStack := 2, maxLocals := 1, code := prog_14_method_13_code, exceptionTable := #[], attributes := #[] }
def k2m8 : Method := { name := "footprint", desc := "()J", sig := { parameters := [], returnType := some .long }, accessFlags := 1, code := some k2c8 }
def k2c9 : Code := { maxStack := 2, maxLocals := 3, code := prog_14_method_17_code, exceptionTable := #[], attributes := #[] }
def k2m9 : Method := { name := "equals", desc := "(Ljava/lang/Object;)Z", sig := { parameters := [(.object "java/lang/Object")], returnType := some .boolean }, accessFlags := 1, code := some k2c9 }
/-- com/example/message_buffer/messagebuffer/model/Message -/
def k2 : Class := { plain "com/example/message_buffer/messagebuffer/model/Message" (some 0) with
  accessFlags := 49
  interfaces := #[]
  cf := some (fileOf pool2 8 #[.nestMembers #[74]] #[{ accessFlags := 2, nameIndex := 5, descriptorIndex := 42, attributes := #[] }, { accessFlags := 9, nameIndex := 147, descriptorIndex := 148, attributes := #[] }, { accessFlags := 9, nameIndex := 150, descriptorIndex := 148, attributes := #[] }, { accessFlags := 10, nameIndex := 33, descriptorIndex := 34, attributes := #[] }, { accessFlags := 1, nameIndex := 11, descriptorIndex := 120, attributes := #[] }, { accessFlags := 1, nameIndex := 23, descriptorIndex := 154, attributes := #[] }, { accessFlags := 1, nameIndex := 19, descriptorIndex := 155, attributes := #[] }, { accessFlags := 9, nameIndex := 81, descriptorIndex := 72, attributes := #[] }, { accessFlags := 1, nameIndex := 81, descriptorIndex := 120, attributes := #[] }, { accessFlags := 1, nameIndex := 106, descriptorIndex := 164, attributes := #[] }] 49 2 #[] #[{ accessFlags := 25, nameIndex := 140, descriptorIndex := 141, attributes := #[] }, { accessFlags := 26, nameIndex := 143, descriptorIndex := 12, attributes := #[] }, { accessFlags := 18, nameIndex := 11, descriptorIndex := 12, attributes := #[] }, { accessFlags := 18, nameIndex := 15, descriptorIndex := 16, attributes := #[] }, { accessFlags := 18, nameIndex := 19, descriptorIndex := 20, attributes := #[] }, { accessFlags := 18, nameIndex := 23, descriptorIndex := 12, attributes := #[] }])
  fields := #[{ name := "MAX_FLAGS", type := .long, accessFlags := 25, slot := 0, constantValue := 0 }, { name := "HOLDING_BYTES", type := .int, accessFlags := 26, slot := 1, constantValue := 0 }, { name := "flags", type := .int, accessFlags := 18, slot := 0, constantValue := 0 }, { name := "data", type := (.array .byte), accessFlags := 18, slot := 1, constantValue := 0 }, { name := "source", type := (.object "com/example/message_buffer/messagebuffer/model/Message$Source"), accessFlags := 18, slot := 2, constantValue := 0 }, { name := "size", type := .int, accessFlags := 18, slot := 3, constantValue := 0 }]
  methods := #[k2m0, k2m1, k2m2, k2m3, k2m4, k2m5, k2m6, k2m7, k2m8, k2m9]
  instanceTypes := #[.int, (.array .byte), (.object "com/example/message_buffer/messagebuffer/model/Message$Source"), .int]
  staticTypes := #[.long, .int]
  resolved := Array.replicate 192 none
  statics := none }

def pool3 : Array CpInfo := pool [(1, .class_ 2), (0, u "java/io/Serializable"), (0, .class_ 4), (0, u "java/lang/Object")] 2

/-- java/io/Serializable -/
def k3 : Class := { plain "java/io/Serializable" (some 0) with
  accessFlags := 1537
  interfaces := #[]
  cf := some (fileOf pool3 1 #[] #[] 1537 3 #[] #[])
  fields := #[]
  methods := #[]
  instanceTypes := #[]
  staticTypes := #[]
  resolved := Array.replicate 7 none
  statics := none }

def pool4 : Array CpInfo := pool [(1, .class_ 2), (0, u "java/lang/Comparable"), (0, .class_ 4), (0, u "java/lang/Object")] 7

/-- java/lang/Comparable -/
def k4 : Class := { plain "java/lang/Comparable" (some 0) with
  accessFlags := 1537
  interfaces := #[]
  cf := some (fileOf pool4 1 #[] #[] 1537 3 #[] #[])
  fields := #[]
  methods := #[]
  instanceTypes := #[]
  staticTypes := #[]
  resolved := Array.replicate 12 none
  statics := none }

def pool5 : Array CpInfo := pool [(2, .class_ 4), (1, u "java/lang/CharSequence"), (42, .class_ 48), (0, u "java/lang/CharSequence$1CodePointIterator"), (10, .class_ 60), (0, u "java/lang/CharSequence$1CharIterator"), (5, .class_ 67), (0, u "java/lang/Object")] 63

/-- java/lang/CharSequence -/
def k5 : Class := { plain "java/lang/CharSequence" (some 0) with
  accessFlags := 1537
  interfaces := #[]
  cf := some (fileOf pool5 2 #[.nestMembers #[47, 59]] #[] 1537 66 #[] #[])
  fields := #[]
  methods := #[]
  instanceTypes := #[]
  staticTypes := #[]
  resolved := Array.replicate 131 none
  statics := none }

def pool6 : Array CpInfo := pool [(1, .class_ 2), (0, u "java/lang/constant/Constable"), (0, .class_ 4), (0, u "java/lang/Object")] 6

/-- java/lang/constant/Constable -/
def k6 : Class := { plain "java/lang/constant/Constable" (some 0) with
  accessFlags := 1537
  interfaces := #[]
  cf := some (fileOf pool6 1 #[] #[] 1537 3 #[] #[])
  fields := #[]
  methods := #[]
  instanceTypes := #[]
  staticTypes := #[]
  resolved := Array.replicate 11 none
  statics := none }

def pool7 : Array CpInfo := pool [(1, .class_ 2), (0, u "java/lang/constant/ConstantDesc"), (0, .class_ 4), (0, u "java/lang/Object")] 32

/-- java/lang/constant/ConstantDesc -/
def k7 : Class := { plain "java/lang/constant/ConstantDesc" (some 0) with
  accessFlags := 1537
  interfaces := #[]
  cf := some (fileOf pool7 1 #[] #[] 1537 3 #[] #[])
  fields := #[]
  methods := #[]
  instanceTypes := #[]
  staticTypes := #[]
  resolved := Array.replicate 37 none
  statics := none }

def pool8 : Array CpInfo := pool [(2, .class_ 4), (1, u "java/lang/Object"), (0, u "<init>"), (0, u "()V"), (3, .class_ 12), (1, u "java/lang/String"), (0, u "value"), (0, u "[B"), (2, u "coder"), (0, u "B"), (2, u "hash"), (0, u "I"), (2, u "hashIsZero"), (0, u "Z"), (13, u "COMPACT_STRINGS"), (534, .class_ 576), (0, u "java/lang/CharSequence"), (22, u "CASE_INSENSITIVE_ORDER"), (0, u "Ljava/util/Comparator;"), (500, u "serialPersistentFields"), (0, u "[Ljava/io/ObjectStreamField;"), (0, .class_ 1104), (0, u "java/lang/String$CaseInsensitiveComparator"), (1, .class_ 1107), (0, u "java/io/Serializable"), (0, .class_ 1109), (0, u "java/lang/Comparable"), (0, .class_ 1111), (0, u "java/lang/constant/Constable"), (0, .class_ 1113), (0, u "java/lang/constant/ConstantDesc"), (2, u "serialVersionUID"), (0, u "J"), (3, u "REPL"), (0, u "C"), (2, u "LATIN1"), (1, u "UTF16")] 323

def k8m0 : Method := { name := "<init>", desc := "()V", sig := { parameters := [], returnType := none }, accessFlags := 1, code := none }
/-- java/lang/String -/
def k8 : Class := { plain "java/lang/String" (some 0) with
  accessFlags := 49
  interfaces := #[3, 4, 5, 6, 7]
  cf := some (fileOf pool8 10 #[.nestMembers #[1103]] #[{ accessFlags := 1, nameIndex := 5, descriptorIndex := 6, attributes := #[] }] 49 2 #[1106, 1108, 575, 1110, 1112] #[{ accessFlags := 18, nameIndex := 13, descriptorIndex := 14, attributes := #[] }, { accessFlags := 18, nameIndex := 17, descriptorIndex := 18, attributes := #[] }, { accessFlags := 2, nameIndex := 21, descriptorIndex := 22, attributes := #[] }, { accessFlags := 2, nameIndex := 25, descriptorIndex := 26, attributes := #[] }, { accessFlags := 26, nameIndex := 1116, descriptorIndex := 1117, attributes := #[] }, { accessFlags := 24, nameIndex := 40, descriptorIndex := 26, attributes := #[] }, { accessFlags := 26, nameIndex := 1101, descriptorIndex := 1102, attributes := #[] }, { accessFlags := 26, nameIndex := 1121, descriptorIndex := 1122, attributes := #[] }, { accessFlags := 25, nameIndex := 599, descriptorIndex := 600, attributes := #[] }, { accessFlags := 24, nameIndex := 1125, descriptorIndex := 18, attributes := #[] }, { accessFlags := 24, nameIndex := 1127, descriptorIndex := 18, attributes := #[] }])
  fields := #[{ name := "value", type := (.array .byte), accessFlags := 18, slot := 0, constantValue := 0 }, { name := "coder", type := .byte, accessFlags := 18, slot := 1, constantValue := 0 }, { name := "hash", type := .int, accessFlags := 2, slot := 2, constantValue := 0 }, { name := "hashIsZero", type := .boolean, accessFlags := 2, slot := 3, constantValue := 0 }, { name := "serialVersionUID", type := .long, accessFlags := 26, slot := 0, constantValue := 0 }, { name := "COMPACT_STRINGS", type := .boolean, accessFlags := 24, slot := 1, constantValue := 0 }, { name := "serialPersistentFields", type := (.array (.object "java/io/ObjectStreamField")), accessFlags := 26, slot := 2, constantValue := 0 }, { name := "REPL", type := .char, accessFlags := 26, slot := 3, constantValue := 0 }, { name := "CASE_INSENSITIVE_ORDER", type := (.object "java/util/Comparator"), accessFlags := 25, slot := 4, constantValue := 0 }, { name := "LATIN1", type := .byte, accessFlags := 24, slot := 5, constantValue := 0 }, { name := "UTF16", type := .byte, accessFlags := 24, slot := 6, constantValue := 0 }]
  methods := #[k8m0]
  instanceTypes := #[(.array .byte), .byte, .int, .boolean]
  staticTypes := #[.long, .boolean, (.array (.object "java/io/ObjectStreamField")), .char, (.object "java/util/Comparator"), .byte, .byte]
  resolved := Array.replicate 1451 none
  statics := none }

def pool9 : Array CpInfo := pool [(2, .class_ 4), (1, u "java/lang/Object"), (0, u "<init>"), (0, u "()V"), (35, .class_ 44), (1, u "java/util/Objects"), (0, u "requireNonNull"), (48, u "(Ljava/lang/Object;Ljava/lang/String;)Ljava/lang/Object;")] 89

def k9m0 : Method := { name := "<init>", desc := "()V", sig := { parameters := [], returnType := none }, accessFlags := 2, code := none }
def k9c1 : Code := { maxStack := 3, maxLocals := 2, code := jdk_31_method_11_code, exceptionTable := #[], attributes := #[] }
def k9m1 : Method := { name := "requireNonNull", desc := "(Ljava/lang/Object;Ljava/lang/String;)Ljava/lang/Object;", sig := { parameters := [(.object "java/lang/Object"), (.object "java/lang/String")], returnType := some (.object "java/lang/Object") }, accessFlags := 9, code := some k9c1 }
/-- java/util/Objects -/
def k9 : Class := { plain "java/util/Objects" (some 0) with
  accessFlags := 49
  interfaces := #[]
  cf := some (fileOf pool9 42 #[] #[{ accessFlags := 2, nameIndex := 5, descriptorIndex := 6, attributes := #[] }, { accessFlags := 9, nameIndex := 45, descriptorIndex := 94, attributes := #[] }] 49 2 #[] #[])
  fields := #[]
  methods := #[k9m0, k9m1]
  instanceTypes := #[]
  staticTypes := #[]
  resolved := Array.replicate 184 none
  statics := none }

def pool10 : Array CpInfo := pool [(1, .class_ 2), (0, u "java/lang/Cloneable"), (0, .class_ 4), (0, u "java/lang/Object")] 2

/-- java/lang/Cloneable -/
def k10 : Class := { plain "java/lang/Cloneable" (some 0) with
  accessFlags := 1537
  interfaces := #[]
  cf := some (fileOf pool10 1 #[] #[] 1537 3 #[] #[])
  fields := #[]
  methods := #[]
  instanceTypes := #[]
  staticTypes := #[]
  resolved := Array.replicate 7 none
  statics := none }

def pool11 : Array CpInfo := pool [(2, .class_ 4), (1, u "java/lang/Object"), (0, u "<init>"), (0, u "()V"), (1, .class_ 10), (1, u "java/lang/Number"), (2, .class_ 14), (0, u "java/io/Serializable"), (0, u "serialVersionUID"), (0, u "J")] 20

def k11m0 : Method := { name := "<init>", desc := "()V", sig := { parameters := [], returnType := none }, accessFlags := 1, code := none }
/-- java/lang/Number -/
def k11 : Class := { plain "java/lang/Number" (some 0) with
  accessFlags := 1057
  interfaces := #[3]
  cf := some (fileOf pool11 8 #[] #[{ accessFlags := 1, nameIndex := 5, descriptorIndex := 6, attributes := #[] }] 1057 2 #[13] #[{ accessFlags := 26, nameIndex := 15, descriptorIndex := 16, attributes := #[] }])
  fields := #[{ name := "serialVersionUID", type := .long, accessFlags := 26, slot := 0, constantValue := 0 }]
  methods := #[k11m0]
  instanceTypes := #[]
  staticTypes := #[.long]
  resolved := Array.replicate 37 none
  statics := none }

def pool12 : Array CpInfo := pool [(1, .class_ 2), (0, u "java/lang/Integer"), (16, u "digits"), (0, u "[C"), (19, u "toUnsignedLong"), (0, u "(I)J"), (43, u "DigitOnes"), (0, u "[B"), (2, u "DigitTens"), (99, .class_ 190), (0, u "java/lang/Integer$IntegerCache"), (3, u "I"), (8, .class_ 204), (0, u "java/lang/Number"), (2, u "value"), (54, .long 4294967295), (39, u "TYPE"), (0, u "Ljava/lang/Class;"), (0, .class_ 305), (0, u "java/lang/Comparable"), (0, .class_ 307), (0, u "java/lang/constant/Constable"), (0, .class_ 309), (0, u "java/lang/constant/ConstantDesc"), (0, u "MIN_VALUE"), (1, u "MAX_VALUE"), (3, u "SIZE"), (1, u "BYTES"), (1, u "serialVersionUID"), (0, u "J")] 131

def k12c0 : Code := { maxStack := 4, maxLocals := 1, code := jdk_33_method_42_code, exceptionTable := #[], attributes := #[] }
def k12m0 : Method := { name := "toUnsignedLong", desc := "(I)J", sig := { parameters := [.int], returnType := some .long }, accessFlags := 9, code := some k12c0 }
/-- java/lang/Integer -/
def k12 : Class := { plain "java/lang/Integer" (some 11) with
  accessFlags := 49
  interfaces := #[4, 6, 7]
  cf := some (fileOf pool12 1 #[.nestMembers #[189]] #[{ accessFlags := 9, nameIndex := 40, descriptorIndex := 41, attributes := #[] }] 49 203 #[304, 306, 308] #[{ accessFlags := 25, nameIndex := 310, descriptorIndex := 194, attributes := #[] }, { accessFlags := 25, nameIndex := 312, descriptorIndex := 194, attributes := #[] }, { accessFlags := 25, nameIndex := 302, descriptorIndex := 303, attributes := #[] }, { accessFlags := 24, nameIndex := 19, descriptorIndex := 20, attributes := #[] }, { accessFlags := 24, nameIndex := 89, descriptorIndex := 86, attributes := #[] }, { accessFlags := 24, nameIndex := 85, descriptorIndex := 86, attributes := #[] }, { accessFlags := 18, nameIndex := 207, descriptorIndex := 194, attributes := #[] }, { accessFlags := 25, nameIndex := 316, descriptorIndex := 194, attributes := #[] }, { accessFlags := 25, nameIndex := 318, descriptorIndex := 194, attributes := #[] }, { accessFlags := 26, nameIndex := 320, descriptorIndex := 321, attributes := #[] }])
  fields := #[{ name := "MIN_VALUE", type := .int, accessFlags := 25, slot := 0, constantValue := 0 }, { name := "MAX_VALUE", type := .int, accessFlags := 25, slot := 1, constantValue := 0 }, { name := "TYPE", type := (.object "java/lang/Class"), accessFlags := 25, slot := 2, constantValue := 0 }, { name := "digits", type := (.array .char), accessFlags := 24, slot := 3, constantValue := 0 }, { name := "DigitTens", type := (.array .byte), accessFlags := 24, slot := 4, constantValue := 0 }, { name := "DigitOnes", type := (.array .byte), accessFlags := 24, slot := 5, constantValue := 0 }, { name := "value", type := .int, accessFlags := 18, slot := 0, constantValue := 0 }, { name := "SIZE", type := .int, accessFlags := 25, slot := 6, constantValue := 0 }, { name := "BYTES", type := .int, accessFlags := 25, slot := 7, constantValue := 0 }, { name := "serialVersionUID", type := .long, accessFlags := 26, slot := 8, constantValue := 0 }]
  methods := #[k12m0]
  instanceTypes := #[.int]
  staticTypes := #[.int, .int, (.object "java/lang/Class"), (.array .char), (.array .byte), (.array .byte), .int, .int, .long]
  resolved := Array.replicate 453 none
  statics := none }

def pool13 : Array CpInfo := pool [(2, .class_ 4), (1, u "java/lang/Object"), (0, u "<init>"), (0, u "()V"), (7, .class_ 16), (1, u "java/util/Arrays"), (57, .class_ 76), (1, u "java/util/Arrays$NaturalOrder"), (36, .class_ 115), (1, u "java/util/Arrays$LegacyMergeSort"), (1, u "Z"), (128, .class_ 248), (1, u "jdk/internal/util/ArraysSupport"), (0, u "mismatch"), (22, .methodref 246 273), (0, .nameAndType 249 274), (0, u "([B[BI)I"), (23, u "equals"), (76, .class_ 376), (0, u "java/util/Arrays$ArrayList"), (68, u "$assertionsDisabled"), (9, u "([B[B)Z"), (259, u "MIN_ARRAY_SORT_GRAN"), (0, u "I"), (2, u "INSERTIONSORT_THRESHOLD"), (255, .class_ 976), (0, u "java/util/Arrays$ArrayItr")] 52

def k13m0 : Method := { name := "<init>", desc := "()V", sig := { parameters := [], returnType := none }, accessFlags := 2, code := none }
def k13c1 : Code := { maxStack := 3, maxLocals := 3, code := jdk_65_method_89_code, exceptionTable := #[], attributes := #[] }
def k13m1 : Method := { name := "equals", desc := "([B[B)Z", sig := { parameters := [(.array .byte), (.array .byte)], returnType := some .boolean }, accessFlags := 9, code := some k13c1 }
/-- java/util/Arrays -/
def k13 : Class := { plain "java/util/Arrays" (some 0) with
  accessFlags := 49
  interfaces := #[]
  cf := some (fileOf pool13 14 #[.nestMembers #[975, 375, 113, 74]] #[{ accessFlags := 2, nameIndex := 5, descriptorIndex := 6, attributes := #[] }, { accessFlags := 9, nameIndex := 298, descriptorIndex := 455, attributes := #[] }] 49 2 #[] #[{ accessFlags := 26, nameIndex := 715, descriptorIndex := 716, attributes := #[] }, { accessFlags := 26, nameIndex := 719, descriptorIndex := 716, attributes := #[] }, { accessFlags := 4120, nameIndex := 445, descriptorIndex := 117, attributes := #[] }])
  fields := #[{ name := "MIN_ARRAY_SORT_GRAN", type := .int, accessFlags := 26, slot := 0, constantValue := 0 }, { name := "INSERTIONSORT_THRESHOLD", type := .int, accessFlags := 26, slot := 1, constantValue := 0 }, { name := "$assertionsDisabled", type := .boolean, accessFlags := 4120, slot := 2, constantValue := 0 }]
  methods := #[k13m0, k13m1]
  instanceTypes := #[]
  staticTypes := #[.int, .int, .boolean]
  resolved := Array.replicate 1029 none
  statics := none }

def pool14 : Array CpInfo := pool [(9, u "<init>"), (6, .class_ 18), (1, u "java/lang/Object"), (0, u "()V"), (1, .class_ 23), (1, u "jdk/internal/util/ArraysSupport"), (0, u "LOG2_ARRAY_LONG_INDEX_SCALE"), (0, u "I"), (2, u "U"), (0, u "Ljdk/internal/misc/Unsafe;"), (8, u "BIG_ENDIAN"), (0, u "Z"), (8, u "LOG2_BYTE_BIT_SIZE"), (4, u "LOG2_ARRAY_INT_INDEX_SCALE"), (54, u "JLA"), (0, u "Ljdk/internal/access/JavaLangAccess;"), (11, u "LOG2_ARRAY_BOOLEAN_INDEX_SCALE"), (9, u "LOG2_ARRAY_BYTE_INDEX_SCALE"), (5, u "LOG2_ARRAY_CHAR_INDEX_SCALE"), (5, u "LOG2_ARRAY_SHORT_INDEX_SCALE"), (5, u "mismatch"), (12, u "LOG2_ARRAY_FLOAT_INDEX_SCALE"), (24, u "LOG2_ARRAY_DOUBLE_INDEX_SCALE"), (89, u "T_BOOLEAN"), (2, u "T_CHAR"), (1, u "T_FLOAT"), (1, u "T_DOUBLE"), (1, u "T_BYTE"), (1, u "T_SHORT"), (1, u "T_INT"), (1, u "T_LONG"), (1, u "SOFT_MAX_ARRAY_LENGTH"), (41, u "([B[BI)I")] 41

def k14m0 : Method := { name := "<init>", desc := "()V", sig := { parameters := [], returnType := none }, accessFlags := 2, code := none }
def k14c1 : Code := { maxStack := 8, maxLocals := 4, code := jdk_48_method_13_code, exceptionTable := #[], attributes := #[] }
def k14m1 : Method := { name := "mismatch", desc := "([B[BI)I", sig := { parameters := [(.array .byte), (.array .byte), .int], returnType := some .int }, accessFlags := 9, code := some k14c1 }
/-- jdk/internal/util/ArraysSupport -/
def k14 : Class := { plain "jdk/internal/util/ArraysSupport" (some 0) with
  accessFlags := 33
  interfaces := #[]
  cf := some (fileOf pool14 21 #[] #[{ accessFlags := 2, nameIndex := 9, descriptorIndex := 19, attributes := #[] }, { accessFlags := 9, nameIndex := 149, descriptorIndex := 336, attributes := #[] }] 33 16 #[] #[{ accessFlags := 24, nameIndex := 28, descriptorIndex := 29, attributes := #[] }, { accessFlags := 26, nameIndex := 38, descriptorIndex := 39, attributes := #[] }, { accessFlags := 25, nameIndex := 121, descriptorIndex := 25, attributes := #[] }, { accessFlags := 25, nameIndex := 131, descriptorIndex := 25, attributes := #[] }, { accessFlags := 25, nameIndex := 137, descriptorIndex := 25, attributes := #[] }, { accessFlags := 25, nameIndex := 143, descriptorIndex := 25, attributes := #[] }, { accessFlags := 25, nameIndex := 53, descriptorIndex := 25, attributes := #[] }, { accessFlags := 25, nameIndex := 24, descriptorIndex := 25, attributes := #[] }, { accessFlags := 25, nameIndex := 162, descriptorIndex := 25, attributes := #[] }, { accessFlags := 25, nameIndex := 187, descriptorIndex := 25, attributes := #[] }, { accessFlags := 26, nameIndex := 48, descriptorIndex := 25, attributes := #[] }, { accessFlags := 25, nameIndex := 277, descriptorIndex := 25, attributes := #[] }, { accessFlags := 25, nameIndex := 280, descriptorIndex := 25, attributes := #[] }, { accessFlags := 25, nameIndex := 282, descriptorIndex := 25, attributes := #[] }, { accessFlags := 25, nameIndex := 284, descriptorIndex := 25, attributes := #[] }, { accessFlags := 25, nameIndex := 286, descriptorIndex := 25, attributes := #[] }, { accessFlags := 25, nameIndex := 288, descriptorIndex := 25, attributes := #[] }, { accessFlags := 25, nameIndex := 290, descriptorIndex := 25, attributes := #[] }, { accessFlags := 25, nameIndex := 292, descriptorIndex := 25, attributes := #[] }, { accessFlags := 26, nameIndex := 108, descriptorIndex := 109, attributes := #[] }, { accessFlags := 25, nameIndex := 294, descriptorIndex := 25, attributes := #[] }])
  fields := #[{ name := "U", type := (.object "jdk/internal/misc/Unsafe"), accessFlags := 24, slot := 0, constantValue := 0 }, { name := "BIG_ENDIAN", type := .boolean, accessFlags := 26, slot := 1, constantValue := 0 }, { name := "LOG2_ARRAY_BOOLEAN_INDEX_SCALE", type := .int, accessFlags := 25, slot := 2, constantValue := 0 }, { name := "LOG2_ARRAY_BYTE_INDEX_SCALE", type := .int, accessFlags := 25, slot := 3, constantValue := 0 }, { name := "LOG2_ARRAY_CHAR_INDEX_SCALE", type := .int, accessFlags := 25, slot := 4, constantValue := 0 }, { name := "LOG2_ARRAY_SHORT_INDEX_SCALE", type := .int, accessFlags := 25, slot := 5, constantValue := 0 }, { name := "LOG2_ARRAY_INT_INDEX_SCALE", type := .int, accessFlags := 25, slot := 6, constantValue := 0 }, { name := "LOG2_ARRAY_LONG_INDEX_SCALE", type := .int, accessFlags := 25, slot := 7, constantValue := 0 }, { name := "LOG2_ARRAY_FLOAT_INDEX_SCALE", type := .int, accessFlags := 25, slot := 8, constantValue := 0 }, { name := "LOG2_ARRAY_DOUBLE_INDEX_SCALE", type := .int, accessFlags := 25, slot := 9, constantValue := 0 }, { name := "LOG2_BYTE_BIT_SIZE", type := .int, accessFlags := 26, slot := 10, constantValue := 0 }, { name := "T_BOOLEAN", type := .int, accessFlags := 25, slot := 11, constantValue := 0 }, { name := "T_CHAR", type := .int, accessFlags := 25, slot := 12, constantValue := 0 }, { name := "T_FLOAT", type := .int, accessFlags := 25, slot := 13, constantValue := 0 }, { name := "T_DOUBLE", type := .int, accessFlags := 25, slot := 14, constantValue := 0 }, { name := "T_BYTE", type := .int, accessFlags := 25, slot := 15, constantValue := 0 }, { name := "T_SHORT", type := .int, accessFlags := 25, slot := 16, constantValue := 0 }, { name := "T_INT", type := .int, accessFlags := 25, slot := 17, constantValue := 0 }, { name := "T_LONG", type := .int, accessFlags := 25, slot := 18, constantValue := 0 }, { name := "JLA", type := (.object "jdk/internal/access/JavaLangAccess"), accessFlags := 26, slot := 19, constantValue := 0 }, { name := "SOFT_MAX_ARRAY_LENGTH", type := .int, accessFlags := 25, slot := 20, constantValue := 0 }]
  methods := #[k14m0, k14m1]
  instanceTypes := #[]
  staticTypes := #[(.object "jdk/internal/misc/Unsafe"), .boolean, .int, .int, .int, .int, .int, .int, .int, .int, .int, .int, .int, .int, .int, .int, .int, .int, .int, (.object "jdk/internal/access/JavaLangAccess"), .int]
  resolved := Array.replicate 378 none
  statics := none }

/-- the primitive byte -/
def k15 : Class := { plain "byte" none with kind := .primitive 'B', accessFlags := 0x411 }
/-- [B -/
def k16 : Class := { plain "[B" (some 0) with kind := .array 15 .byte, interfaces := #[10, 3], accessFlags := 1041 }

/-- the primitive int -/
def k17 : Class := { plain "int" none with kind := .primitive 'I', accessFlags := 0x411 }
/-- [I -/
def k18 : Class := { plain "[I" (some 0) with kind := .array 17 .int, interfaces := #[10, 3], accessFlags := 1041 }

def heap : Heap := #[]
def classes : Array Class := #[k0, k1, k2, k3, k4, k5, k6, k7, k8, k9, k10, k11, k12, k13, k14, k15, k16, k17, k18]
def interned : List (Array UInt16 × Addr) := []
def slotsUsed : Nat := 0
def theMethod : MethodId := ⟨1, 1⟩
def args0 : Array Value := #[.long 5, .int 2, .int 7]
def aboutOver (below : List Frame) : State where
  vm := { classes := classes, interned := interned.toArray }
  heap := heap
  slotsUsed := slotsUsed
  threads := #[{ frames := .invoking theMethod args0 :: below }]
def below0 : List Frame := [.native { method := ⟨0, 0⟩, args := #[] }]
def about1 : State := aboutOver below0
def p0 : Program := .bare "" "" ""
def e0 : Env := launch0.env 0 0 0
theorem w_frames : about1.frames = Frame.invoking theMethod args0 :: below0 := rfl
set_option maxRecDepth 65536 in
theorem w_args : argsFit about1.vm theMethod args0 = true := by decide +kernel
set_option maxRecDepth 65536 in
theorem w_heap : heapFits about1 = true := by decide +kernel
set_option maxRecDepth 65536 in
theorem w_runnable : about1.curStatus? = some .runnable := by decide +kernel
set_option maxRecDepth 65536 in
theorem w_alone : about1.alone = true := by decide +kernel
set_option maxRecDepth 65536 in
theorem w_named : about1.methodNamed? x = some theMethod := by decide +kernel
set_option maxRecDepth 65536 in
theorem w_hears : about1.hears theMethod below0 = true := by decide +kernel
set_option maxRecDepth 65536 in
theorem w_ripe : about1.ripe theMethod args0 below0 = true := by decide +kernel
theorem w_running : about1.status = .running := rfl
set_option maxRecDepth 65536 in
theorem w_room : about1.hasRoom e0.platform room_1 = true :=
  launch0.hasRoom_least _ room_1 (by decide +kernel) (by decide +kernel) (by decide +kernel) (by decide +kernel) (by decide +kernel) (by decide +kernel)
theorem allAtoms_all (ts : List Jvm.Cond) (a : Array Jvm.Value) (st : Jvm.State) : (allAtoms ts).before a st = ts.all (fun c => c.before a st) := by
  induction ts with
  | nil => rfl
  | cons c t ih =>
    show (Jvm.Cond.and c (allAtoms t)).before a st = _
    rw [Jvm.Cond.before_and, ih, List.all_cons]
def words1 : List Jvm.Cond := Jvm.Cond.code x code maxLocals ret :: tables_1
/-- a 'code' word, met by the world's own term for the bytes: nothing is compared byte by byte -/
theorem code_word {y : MethodName} {bytes : ByteArray} {mx : Nat} {rt : Option FieldType} {a : Array Value} {s : State} {m : MethodId} {meth : Method} {c : Code} (h1 : s.methodNamed? y = some m) (h2 : s.vm.method? m = some meth) (h3 : meth.code = some c) (h4 : c.code = bytes)
    (h5 : (c.maxLocals == mx && c.exceptionTable.isEmpty && decide (c.maxStack ≤ mostOperands) && decide (meth.sig.returnType = rt) && !meth.locks && decide (parseMethodDescriptor y.desc = some meth.sig)) = true) : (Jvm.Cond.code y bytes mx rt).before a s = true := by
  simp only [Bool.and_eq_true, beq_iff_eq, Bool.not_eq_true', decide_eq_true_eq] at h5
  obtain ⟨⟨⟨⟨⟨g1, g2⟩, g3⟩, g4⟩, g5⟩, g6⟩ := h5
  simp [Cond.before, Cond.holds, Cond.value, h1, h2, h3, h4, g1, g2, g3, g4, g5, g6]
def isCode : Jvm.Cond → Bool
  | .code _ _ _ _ => true
  | _ => false
theorem all_split {L : List Jvm.Cond} {P : Jvm.Cond → Bool} (h1 : L.all (fun c => isCode c || P c) = true) (h2 : ∀ c ∈ L.filter isCode, P c = true) : L.all P = true := by
  refine List.all_eq_true.mpr fun c hc => ?_
  have h := List.all_eq_true.mp h1 c hc
  rcases Bool.eq_false_or_eq_true (isCode c) with hi | hi
  · exact h2 c (List.mem_filter.mpr ⟨hc, hi⟩)
  · simpa [hi] using h
set_option maxRecDepth 65536 in
theorem w_c0 : (Jvm.Cond.code x code maxLocals ret).before args0 about1 = true := code_word (m := ⟨1, 1⟩) (meth := k1m1) (c := k1c1) (by decide +kernel) rfl rfl rfl (by decide +kernel)
set_option maxRecDepth 65536 in
theorem w_c1 : (Jvm.Cond.code ({ cls := "com/example/message_buffer/messagebuffer/model/Message", name := "adopt", desc := "(J[B)Lcom/example/message_buffer/messagebuffer/model/Message;" } : Jvm.MethodName) prog_14_method_5_code (3 : Nat) (Option.some (Jvm.ClassFile.FieldType.object "com/example/message_buffer/messagebuffer/model/Message"))).before args0 about1 = true := code_word (m := ⟨2, 2⟩) (meth := k2m2) (c := k2c2) (by decide +kernel) rfl rfl rfl (by decide +kernel)
set_option maxRecDepth 65536 in
theorem w_c2 : (Jvm.Cond.code ({ cls := "java/util/Objects", name := "requireNonNull", desc := "(Ljava/lang/Object;Ljava/lang/String;)Ljava/lang/Object;" } : Jvm.MethodName) jdk_31_method_11_code (2 : Nat) (Option.some (Jvm.ClassFile.FieldType.object "java/lang/Object"))).before args0 about1 = true := code_word (m := ⟨9, 1⟩) (meth := k9m1) (c := k9c1) (by decide +kernel) rfl rfl rfl (by decide +kernel)
set_option maxRecDepth 65536 in
theorem w_c3 : (Jvm.Cond.code ({ cls := "com/example/message_buffer/messagebuffer/model/Message", name := "checked", desc := "(J)I" } : Jvm.MethodName) prog_14_method_7_code (2 : Nat) (Option.some Jvm.ClassFile.FieldType.int)).before args0 about1 = true := code_word (m := ⟨2, 3⟩) (meth := k2m3) (c := k2c3) (by decide +kernel) rfl rfl rfl (by decide +kernel)
set_option maxRecDepth 65536 in
theorem w_c4 : (Jvm.Cond.code ({ cls := "com/example/message_buffer/messagebuffer/model/Message", name := "<init>", desc := "(I[B)V" } : Jvm.MethodName) prog_14_method_1_code (3 : Nat) (Option.none : Option Jvm.ClassFile.FieldType)).before args0 about1 = true := code_word (m := ⟨2, 0⟩) (meth := k2m0) (c := k2c0) (by decide +kernel) rfl rfl rfl (by decide +kernel)
set_option maxRecDepth 65536 in
theorem w_c5 : (Jvm.Cond.code ({ cls := "java/lang/Object", name := "<init>", desc := "()V" } : Jvm.MethodName) object_method_1_code (1 : Nat) (Option.none : Option Jvm.ClassFile.FieldType)).before args0 about1 = true := code_word (m := ⟨0, 0⟩) (meth := k0m0) (c := k0c0) (by decide +kernel) rfl rfl rfl (by decide +kernel)
set_option maxRecDepth 65536 in
theorem w_c6 : (Jvm.Cond.code ({ cls := "com/example/message_buffer/messagebuffer/model/Message", name := "of", desc := "(J[B)Lcom/example/message_buffer/messagebuffer/model/Message;" } : Jvm.MethodName) prog_14_method_3_code (3 : Nat) (Option.some (Jvm.ClassFile.FieldType.object "com/example/message_buffer/messagebuffer/model/Message"))).before args0 about1 = true := code_word (m := ⟨2, 1⟩) (meth := k2m1) (c := k2c1) (by decide +kernel) rfl rfl rfl (by decide +kernel)
set_option maxRecDepth 65536 in
theorem w_c7 : (Jvm.Cond.code ({ cls := "com/example/message_buffer/messagebuffer/model/Message", name := "flags", desc := "()J" } : Jvm.MethodName) prog_14_method_8_code (1 : Nat) (Option.some Jvm.ClassFile.FieldType.long)).before args0 about1 = true := code_word (m := ⟨2, 4⟩) (meth := k2m4) (c := k2c4) (by decide +kernel) rfl rfl rfl (by decide +kernel)
set_option maxRecDepth 65536 in
theorem w_c8 : (Jvm.Cond.code ({ cls := "java/lang/Integer", name := "toUnsignedLong", desc := "(I)J" } : Jvm.MethodName) jdk_33_method_42_code (1 : Nat) (Option.some Jvm.ClassFile.FieldType.long)).before args0 about1 = true := code_word (m := ⟨12, 0⟩) (meth := k12m0) (c := k12c0) (by decide +kernel) rfl rfl rfl (by decide +kernel)
set_option maxRecDepth 65536 in
theorem w_c9 : (Jvm.Cond.code ({ cls := "com/example/message_buffer/messagebuffer/model/Message", name := "size", desc := "()I" } : Jvm.MethodName) prog_14_method_9_code (1 : Nat) (Option.some Jvm.ClassFile.FieldType.int)).before args0 about1 = true := code_word (m := ⟨2, 5⟩) (meth := k2m5) (c := k2c5) (by decide +kernel) rfl rfl rfl (by decide +kernel)
set_option maxRecDepth 65536 in
theorem w_c10 : (Jvm.Cond.code ({ cls := "com/example/message_buffer/messagebuffer/model/Message", name := "source", desc := "()Lcom/example/message_buffer/messagebuffer/model/Message$Source;" } : Jvm.MethodName) prog_14_method_10_code (1 : Nat) (Option.some (Jvm.ClassFile.FieldType.object "com/example/message_buffer/messagebuffer/model/Message$Source"))).before args0 about1 = true := code_word (m := ⟨2, 6⟩) (meth := k2m6) (c := k2c6) (by decide +kernel) rfl rfl rfl (by decide +kernel)
set_option maxRecDepth 65536 in
theorem w_c11 : (Jvm.Cond.code ({ cls := "com/example/message_buffer/messagebuffer/model/Message", name := "footprint", desc := "()J" } : Jvm.MethodName) prog_14_method_13_code (1 : Nat) (Option.some Jvm.ClassFile.FieldType.long)).before args0 about1 = true := code_word (m := ⟨2, 8⟩) (meth := k2m8) (c := k2c8) (by decide +kernel) rfl rfl rfl (by decide +kernel)
set_option maxRecDepth 65536 in
theorem w_c12 : (Jvm.Cond.code ({ cls := "com/example/message_buffer/messagebuffer/model/Message", name := "footprint", desc := "(I)J" } : Jvm.MethodName) prog_14_method_12_code (1 : Nat) (Option.some Jvm.ClassFile.FieldType.long)).before args0 about1 = true := code_word (m := ⟨2, 7⟩) (meth := k2m7) (c := k2c7) (by decide +kernel) rfl rfl rfl (by decide +kernel)
set_option maxRecDepth 65536 in
theorem w_c13 : (Jvm.Cond.code ({ cls := "com/example/message_buffer/messagebuffer/model/Message", name := "equals", desc := "(Ljava/lang/Object;)Z" } : Jvm.MethodName) prog_14_method_17_code (3 : Nat) (Option.some Jvm.ClassFile.FieldType.boolean)).before args0 about1 = true := code_word (m := ⟨2, 9⟩) (meth := k2m9) (c := k2c9) (by decide +kernel) rfl rfl rfl (by decide +kernel)
set_option maxRecDepth 65536 in
theorem w_c14 : (Jvm.Cond.code ({ cls := "java/util/Arrays", name := "equals", desc := "([B[B)Z" } : Jvm.MethodName) jdk_65_method_89_code (3 : Nat) (Option.some Jvm.ClassFile.FieldType.boolean)).before args0 about1 = true := code_word (m := ⟨13, 1⟩) (meth := k13m1) (c := k13c1) (by decide +kernel) rfl rfl rfl (by decide +kernel)
set_option maxRecDepth 65536 in
theorem w_c15 : (Jvm.Cond.code ({ cls := "jdk/internal/util/ArraysSupport", name := "mismatch", desc := "([B[BI)I" } : Jvm.MethodName) jdk_48_method_13_code (4 : Nat) (Option.some Jvm.ClassFile.FieldType.int)).before args0 about1 = true := code_word (m := ⟨14, 1⟩) (meth := k14m1) (c := k14c1) (by decide +kernel) rfl rfl rfl (by decide +kernel)
def codes1 : List Jvm.Cond := [Jvm.Cond.code x code maxLocals ret, Jvm.Cond.code ({ cls := "com/example/message_buffer/messagebuffer/model/Message", name := "adopt", desc := "(J[B)Lcom/example/message_buffer/messagebuffer/model/Message;" } : Jvm.MethodName) prog_14_method_5_code (3 : Nat) (Option.some (Jvm.ClassFile.FieldType.object "com/example/message_buffer/messagebuffer/model/Message")), Jvm.Cond.code ({ cls := "java/util/Objects", name := "requireNonNull", desc := "(Ljava/lang/Object;Ljava/lang/String;)Ljava/lang/Object;" } : Jvm.MethodName) jdk_31_method_11_code (2 : Nat) (Option.some (Jvm.ClassFile.FieldType.object "java/lang/Object")), Jvm.Cond.code ({ cls := "com/example/message_buffer/messagebuffer/model/Message", name := "checked", desc := "(J)I" } : Jvm.MethodName) prog_14_method_7_code (2 : Nat) (Option.some Jvm.ClassFile.FieldType.int), Jvm.Cond.code ({ cls := "com/example/message_buffer/messagebuffer/model/Message", name := "<init>", desc := "(I[B)V" } : Jvm.MethodName) prog_14_method_1_code (3 : Nat) (Option.none : Option Jvm.ClassFile.FieldType), Jvm.Cond.code ({ cls := "java/lang/Object", name := "<init>", desc := "()V" } : Jvm.MethodName) object_method_1_code (1 : Nat) (Option.none : Option Jvm.ClassFile.FieldType), Jvm.Cond.code ({ cls := "com/example/message_buffer/messagebuffer/model/Message", name := "of", desc := "(J[B)Lcom/example/message_buffer/messagebuffer/model/Message;" } : Jvm.MethodName) prog_14_method_3_code (3 : Nat) (Option.some (Jvm.ClassFile.FieldType.object "com/example/message_buffer/messagebuffer/model/Message")), Jvm.Cond.code ({ cls := "com/example/message_buffer/messagebuffer/model/Message", name := "flags", desc := "()J" } : Jvm.MethodName) prog_14_method_8_code (1 : Nat) (Option.some Jvm.ClassFile.FieldType.long), Jvm.Cond.code ({ cls := "java/lang/Integer", name := "toUnsignedLong", desc := "(I)J" } : Jvm.MethodName) jdk_33_method_42_code (1 : Nat) (Option.some Jvm.ClassFile.FieldType.long), Jvm.Cond.code ({ cls := "com/example/message_buffer/messagebuffer/model/Message", name := "size", desc := "()I" } : Jvm.MethodName) prog_14_method_9_code (1 : Nat) (Option.some Jvm.ClassFile.FieldType.int), Jvm.Cond.code ({ cls := "com/example/message_buffer/messagebuffer/model/Message", name := "source", desc := "()Lcom/example/message_buffer/messagebuffer/model/Message$Source;" } : Jvm.MethodName) prog_14_method_10_code (1 : Nat) (Option.some (Jvm.ClassFile.FieldType.object "com/example/message_buffer/messagebuffer/model/Message$Source")), Jvm.Cond.code ({ cls := "com/example/message_buffer/messagebuffer/model/Message", name := "footprint", desc := "()J" } : Jvm.MethodName) prog_14_method_13_code (1 : Nat) (Option.some Jvm.ClassFile.FieldType.long), Jvm.Cond.code ({ cls := "com/example/message_buffer/messagebuffer/model/Message", name := "footprint", desc := "(I)J" } : Jvm.MethodName) prog_14_method_12_code (1 : Nat) (Option.some Jvm.ClassFile.FieldType.long), Jvm.Cond.code ({ cls := "com/example/message_buffer/messagebuffer/model/Message", name := "equals", desc := "(Ljava/lang/Object;)Z" } : Jvm.MethodName) prog_14_method_17_code (3 : Nat) (Option.some Jvm.ClassFile.FieldType.boolean), Jvm.Cond.code ({ cls := "java/util/Arrays", name := "equals", desc := "([B[B)Z" } : Jvm.MethodName) jdk_65_method_89_code (3 : Nat) (Option.some Jvm.ClassFile.FieldType.boolean), Jvm.Cond.code ({ cls := "jdk/internal/util/ArraysSupport", name := "mismatch", desc := "([B[BI)I" } : Jvm.MethodName) jdk_48_method_13_code (4 : Nat) (Option.some Jvm.ClassFile.FieldType.int)]
set_option maxRecDepth 65536 in
theorem codes_eq : words1.filter isCode = codes1 := rfl
theorem w_codes : ∀ c ∈ words1.filter isCode, c.before args0 about1 = true := by
  rw [codes_eq]
  intro c hc
  simp only [codes1, List.mem_cons, List.not_mem_nil, or_false] at hc
  rcases hc with rfl | rfl | rfl | rfl | rfl | rfl | rfl | rfl | rfl | rfl | rfl | rfl | rfl | rfl | rfl | rfl
  · exact w_c0
  · exact w_c1
  · exact w_c2
  · exact w_c3
  · exact w_c4
  · exact w_c5
  · exact w_c6
  · exact w_c7
  · exact w_c8
  · exact w_c9
  · exact w_c10
  · exact w_c11
  · exact w_c12
  · exact w_c13
  · exact w_c14
  · exact w_c15
set_option maxRecDepth 65536 in
theorem w_t1 : (words1.take 24).all (fun c => isCode c || c.before args0 about1) = true := by decide +kernel
set_option maxRecDepth 65536 in
theorem w_t2 : ((words1.drop 24).take 24).all (fun c => isCode c || c.before args0 about1) = true := by decide +kernel
set_option maxRecDepth 65536 in
theorem w_t3 : (((words1.drop 24).drop 24).take 24).all (fun c => isCode c || c.before args0 about1) = true := by decide +kernel
set_option maxRecDepth 65536 in
theorem w_t4 : (((words1.drop 24).drop 24).drop 24).all (fun c => isCode c || c.before args0 about1) = true := by decide +kernel
theorem w_tables : (allAtoms (Jvm.Cond.code x code maxLocals ret :: tables_1)).before args0 about1 = true := by
  rw [allAtoms_all]
  show words1.all (fun c => c.before args0 about1) = true
  refine all_split ?_ w_codes
  rw [← List.take_append_drop 24 words1, List.all_append, w_t1, ← List.take_append_drop 24 (words1.drop 24), List.all_append, w_t2, ← List.take_append_drop 24 ((words1.drop 24).drop 24), List.all_append, w_t3, w_t4]
  rfl
set_option maxRecDepth 65536 in
theorem w_case : (Jvm.Cond.and given_1 narrow_1).before args0 about1 = true := by decide +kernel
theorem w_applies : (headSpec (Jvm.Cond.code x code maxLocals ret :: tables_1) room_1).applies x e0.platform about1 = true :=
  (Spec.applies_iff w_frames).mpr ⟨w_running, w_runnable, w_alone, w_named, w_hears, w_ripe, w_room, w_tables⟩
theorem atStart : AtStart classFile x code maxLocals ret World_1 tables_1 room_1 Calls_1 rest_1 Pre_1 launch0 p0 e0 about1 theMethod args0 below0 :=
  ⟨lists_1, trivial, launch0.admits_env _ _ _, launch0.least_env, fairChoices_fair.cas, fairChoices_fair.clock, w_frames, w_args, w_heap, w_applies, trivial, trivial, w_case⟩
end start1
theorem witness_1 : WitnessClaimed_1 := ⟨start1.p0, start1.e0, start1.about1, start1.theMethod, start1.args0, start1.below0, start1.atStart⟩
end Jvm.Pilot.@@N@@
