import JvmDerived
import JvmDerived.Pilot.@@N@@Statement
import JvmDerived.Pilot.@@N@@Code
set_option linter.unusedVariables false
set_option linter.unusedSimpArgs false
namespace Jvm.RoadKit
open Sem ClassFile Op Lib Jvm.Stand Jvm.Free Jvm.LawKit
section New
variable {p : Program} {l : Launch} {e : Env} {R : Room} {s : State} {m : MethodId} {args : Array Value} {below : List Frame} {meth : Method} {c : Code} {T : State} {locs : List Loc} {cells slots : Nat}
theorem retI (X : Stand p l e R s m args below meth c T locs cells slots) (hx : p.tables.exec = Jvm.exec) {pc : Nat} {Ls : Array Slot} {z : Int32} {rest : List Value} (hret : meth.sig.returnType = some .int) (hd : decode c.code pc = .ok (.ireturn, 1)) {fs : List Frame}
    (hl : ∀ (f : JFrame) (acts : List Action), f.method = m → f.locked = none → f.entered = [] → (doReturn e (T.setTop f) acts (some (.int z))).1 = T.setFrames fs) : Steps p.tables e below (T.setTop (mkF m pc Ls (.int z :: rest))) (T.setFrames fs) := by
  have hm' : T.vm.method? m = some meth := X.method'
  have hn : narrow .int (.int z) = .int z := rfl
  show Steps p.tables e below (T.setTop { method := m, pc := pc, locals := Ls, stack := _ :: rest, locked := none }) _
  jvm_step X.here [X.here.top, hx, hd, hm', hret, hn]
  first | (intro acts; rw [hl _ acts rfl rfl rfl]) | rw [hl _ _ rfl rfl rfl]
  exact Steps.refl _
end New
end Jvm.RoadKit
namespace Jvm.Pilot.@@N@@
open Jvm Jvm.ClassFile Sem Op Lib Jvm.Free Jvm.Stand Jvm.LawKit Jvm.RoadKit Bundle Jvm.Pilot.@@N@@.Jvm.D
theorem own_eqI {args : Array Value} {first s : State} {o : Option Outcome} {idx : List Nat} {t : Term} {k : Int32} (h : (Jvm.Cond.eq t (Term.int k)).value args first o s idx = some true) : t.eval args first o idx s = some (.int k) := by
  simp only [Cond.value, Term.eval] at h
  cases ht : t.eval args first o idx s with
  | none => simp [ht] at h
  | some x => cases x <;> simp [ht] at h ⊢; exact h
theorem own_eqR {args : Array Value} {first s : State} {o : Option Outcome} {idx : List Nat} {t u : Term} {x : Addr} (h : (Jvm.Cond.eq t u).value args first o s idx = some true) (hu : u.eval args first o idx s = some (.ref x)) : t.eval args first o idx s = some (.ref x) := by
  simp only [Cond.value, hu] at h
  cases ht : t.eval args first o idx s with
  | none => simp [ht] at h
  | some y => cases y <;> simp [ht] at h ⊢; exact h

theorem own_root {Z : State} {a0 : Array Value} {O K : String} {n : Nat} (w : (Jvm.Cond.noSuperclass O).before a0 Z = true) (wk : (Jvm.Cond.instantiable K n).before a0 Z = true) (hn : O ≠ K) : NS Z O K := by
  obtain ⟨c, k, h1, h2, h3, -, -⟩ := Cond.noSuperclass_spec w
  obtain ⟨t, kt, g1, -⟩ := Cond.instantiable_spec wk
  have ne := ids_ne h1 g1 hn
  refine ⟨c, t, h1, g1, fun fuel => ?_⟩
  cases fuel with
  | zero => rfl
  | succ f => simp [Vm.isSubclassAux, ne, h2, h3]
theorem own_no {Z : State} {a0 : Array Value} {C S K : String} {n : Nat} (w : (Jvm.Cond.superclass C S).before a0 Z = true) (wk : (Jvm.Cond.instantiable K n).before a0 Z = true) (q : NS Z C K) (hn : C ≠ K) : ∃ c t, Z.vm.findClass C = some c ∧ Z.vm.findClass K = some t ∧ Z.vm.assignable c t = false := by
  obtain ⟨c, t, h0, g0, n3⟩ := q
  obtain ⟨p, k, kp, h1, h2, h3, h4, h5, -, h7⟩ := Cond.superclass_spec h0 w
  obtain ⟨t', kt, g1, g2, g3, g4, -⟩ := Cond.instantiable_spec wk
  cases g0.symm.trans g1
  have ne := ids_ne h0 g0 hn
  have g5 : kt.isInterface = false := by
    cases hi : kt.isInterface with
    | false => rfl
    | true => rw [hi] at g4; cases g4
  refine ⟨c, t, h0, g0, ?_⟩
  show Z.vm.assignableAux (255 + 1) c t = false
  simp [Vm.assignableAux, ne, h2, g2, h5, g3, g5, Vm.isSubclass, n3]

theorem own_no_col {Z : State} {a0 : Array Value} (hw : ∀ d ∈ tables_1, d.before a0 Z = true) : ∃ c t, Z.vm.findClass "com/example/tabuleiro/tabuleiro/game/Colour" = some c ∧ Z.vm.findClass "com/example/tabuleiro/tabuleiro/othello/OthelloPosition" = some t ∧ Z.vm.assignable c t = false :=
  own_no (hw _ (List.mem_of_getElem? (i := 45) rfl)) (hw _ (List.mem_of_getElem? (i := 5) rfl)) (NS.step (hw _ (List.mem_of_getElem? (i := 45) rfl)) (NS.step (hw _ (List.mem_of_getElem? (i := 46) rfl)) (own_root (hw _ (List.mem_of_getElem? (i := 47) rfl)) (hw _ (List.mem_of_getElem? (i := 5) rfl)) (by decide)) (by decide)) (by decide)) (by decide)
theorem own_wS {Z : State} {a0 : Array Value} (hw : ∀ d ∈ tables_1, d.before a0 Z = true) : ∀ a ∈ Bundle.stringAtoms, a.before a0 Z = true := by
  intro d hd
  simp only [Bundle.stringAtoms, Bundle.sN, List.mem_cons, List.not_mem_nil, or_false] at hd
  rcases hd with rfl | rfl | rfl | rfl | rfl | rfl | rfl
  · exact (hw _ (List.mem_of_getElem? (i := 19) rfl))
  · exact (hw _ (List.mem_of_getElem? (i := 20) rfl))
  · exact (hw _ (List.mem_of_getElem? (i := 21) rfl))
  · exact (hw _ (List.mem_of_getElem? (i := 22) rfl))
  · exact (hw _ (List.mem_of_getElem? (i := 23) rfl))
  · exact (hw _ (List.mem_of_getElem? (i := 24) rfl))
  · exact (hw _ (List.mem_of_getElem? (i := 25) rfl))
theorem own_disj (b w : Int64) : (lcmpW (b &&& (w &&& (b ^^^ (-1 : Int64)))) (0 : Int64)) = (0 : Int32) := by
  rw [lw_eq]
  apply Int64.toBitVec_inj.mp
  show b.toBitVec &&& (w.toBitVec &&& (b.toBitVec ^^^ (BitVec.allOnes 64))) = 0#64
  apply BitVec.eq_of_getLsbD_eq
  intro i hi
  rw [BitVec.getLsbD_and, BitVec.getLsbD_and, BitVec.getLsbD_xor, BitVec.getLsbD_allOnes]
  simp [hi]
  intro a _; exact a
theorem d2_0 : decode jdk_30_method_1_code 0 = .ok (.aload_n 0, 1) := by decide +kernel
theorem d2_1 : decode jdk_30_method_1_code 1 = .ok (.invokespecial 1, 3) := by decide +kernel
theorem d2_4 : decode jdk_30_method_1_code 4 = .ok (.return_, 1) := by decide +kernel
theorem pn_2 : plainName "java/lang/Record" = true := by first | (simp [plainName, overriddenIn]; done) | decide +kernel
theorem ef_2 (m : MethodId) (x0 : Addr) : entryFrame m #[(.ref x0)] 1 = mkF m 0 #[.val (.ref x0)] [] := by first | (simp [entryFrame, mkF, argsToLocals, Value.category]; done) | rfl
def Q2 (Z : State) (a1 : Addr) (h0 : Heap) (n0 : Nat) (v : Option Value) (h : Heap) (L : List Loc) : Prop := v = none ∧ Fr n0 L ∧ h = h0
set_option maxRecDepth 65536 in
set_option maxHeartbeats 40000000 in
theorem rm2 (l : Launch) (Z : State) (a0 : Array Value) (hw : ∀ d ∈ tables_1, d.before a0 Z = true) (ws : List Jvm.Cond) (a1 : Addr) (h0 : Heap) (n0 : Nat) (Z0 : n0 ≤ h0.size)  :
    MetFree l (⟨"java/lang/Record", "<init>", "()V"⟩ : MethodName) (head1 (Jvm.Cond.code (⟨"java/lang/Record", "<init>", "()V"⟩ : MethodName) jdk_30_method_1_code 1 none :: ws) ({ frames := 1, cells := 0, slots := 0, locals := 12 } : Room)) (fun a U => a = #[(.ref a1)] ∧ Z.Warmed39 U.vm ∧ U.heap = h0) (fun _ _ _ _ _ => True) (fun _ U o U' => ∃ v L, o = .returned v ∧ Q2 Z a1 h0 n0 v U'.heap L ∧ FrameEnd U o U' L ({ frames := 1, cells := 0, slots := 0, locals := 12 } : Room).cells ({ frames := 1, cells := 0, slots := 0, locals := 12 } : Room).slots) := by
  refine MetFree.of_bodySF (plainFor_of_name pn_2) hisR ?_
  intro p e s m args below meth c s₁ Bd hml0 hP hK
  obtain ⟨rfl, hZ, hh⟩ := hP
  have hx := Bd.exec
  have hby := Bd.bytes
  have hml : c.maxLocals = 1 := hml0
  have hown : s.vm.findClass "java/lang/Record" = some m.cls := findClass_of_methodNamed Bd.named
  have hnm := (name_of_methodNamed Bd.named Bd.method).1
  have hret := Bd.returns
  have hlocks : meth.locks = false := Bd.notSynchronized
  have X0 : Stand p l e ({ frames := 1, cells := 0, slots := 0, locals := 12 } : Room) s m #[(.ref a1)] below meth c s₁ [] 0 0 := Stand.of_body Bd
  have e0 : s₁.heap = h0 := by rw [← hh, Bd.state]; rfl
  have N0 := Fr.nil n0
  have pre0 : ∀ t, Steps p.tables e below (s₁.setTop (mkF m 0 #[.val (.ref a1)] [])) t → Steps p.tables e below (s₁.setTop (entryFrame m #[(.ref a1)] 1)) t := fun t k => castTop (ef_2 m a1) k
  have pre1 : ∀ t, Steps p.tables e below (s₁.setTop (mkF m 1 #[.val (.ref a1)] [(.ref a1)])) t → Steps p.tables e below (s₁.setTop (entryFrame m #[(.ref a1)] 1)) t := by
    intro t k
    refine pre0 _ ?_
    show Steps p.tables e below (s₁.setTop (mkF m 0 #[.val (.ref a1)] [])) _
    refine XS.aloadN X0.here hx rfl (hb hby d2_0) rfl rfl ?_
    exact k
  obtain ⟨T2, X2, e2, st2⟩ := initO X0 hx hZ hown (hw _ (List.mem_of_getElem? (i := 15) rfl)) (hw _ (List.mem_of_getElem? (i := 16) rfl)) (hw _ (List.mem_of_getElem? (i := 17) rfl)) e0 (g := (mkF m 1 #[.val (.ref a1)] [(.ref a1)])) rfl (by rw [hml]; rfl) rfl (hb hby d2_1) (by decide) (W := 0) (by show 2 * 0 + _ ≤ _; exact Nat.le_of_eq rfl) (by decide)
  have pre3 : ∀ t, Steps p.tables e below (T2.setTop (mkF m 4 #[.val (.ref a1)] [])) t → Steps p.tables e below (s₁.setTop (entryFrame m #[(.ref a1)] 1)) t := by
    intro t k
    refine pre1 _ ?_
    show Steps p.tables e below (s₁.setTop (mkF m 1 #[.val (.ref a1)] [(.ref a1)])) _
    refine st2 _ ?_
    exact k
  obtain ⟨fs, hr, hrun, hended, hW, hsame⟩ := X2.leave (v := none) (fun _ => rfl)
  refine ⟨_, _, pre3 _ ?_, hrun, hended, _, _, rfl, ?_, ⟨_, rfl⟩, hW, hsame.mono (by decide) (by decide)⟩
  · show Steps p.tables e below (T2.setTop (mkF m 4 #[.val (.ref a1)] [])) _
    exact X2.returnOut hx hret (hb hby d2_4) hr
  · show Q2 Z a1 h0 n0 _ T2.heap _
    rw [e2]
    exact ⟨rfl, N0, rfl⟩
theorem d4_0 : decode jdk_31_method_11_code 0 = .ok (.aload_n 0, 1) := by decide +kernel
theorem d4_1 : decode jdk_31_method_11_code 1 = .ok (.ifnonnull 12, 3) := by decide +kernel
theorem d4_13 : decode jdk_31_method_11_code 13 = .ok (.aload_n 0, 1) := by decide +kernel
theorem d4_14 : decode jdk_31_method_11_code 14 = .ok (.areturn, 1) := by decide +kernel
theorem pn_4 : plainName "java/util/Objects" = true := by first | (simp [plainName, overriddenIn]; done) | decide +kernel
theorem ef_4 (m : MethodId) (x0 : Addr) (x1 : Addr) : entryFrame m #[(.ref x0), (.ref x1)] 2 = mkF m 0 #[.val (.ref x0), .val (.ref x1)] [] := by first | (simp [entryFrame, mkF, argsToLocals, Value.category]; done) | rfl
def F4 (a1 : Addr) : Addr :=
  a1
def Q4 (Z : State) (a1 : Addr) (a2 : Addr) (h0 : Heap) (n0 : Nat) (v : Option Value) (h : Heap) (L : List Loc) : Prop := v = some (.ref (F4 a1)) ∧ Fr n0 L ∧ h = h0
set_option maxRecDepth 65536 in
set_option maxHeartbeats 40000000 in
theorem rm4 (l : Launch) (Z : State) (a0 : Array Value) (hw : ∀ d ∈ tables_1, d.before a0 Z = true) (ws : List Jvm.Cond) (a1 : Addr) (a2 : Addr) (h0 : Heap) (n0 : Nat) (Z0 : n0 ≤ h0.size)  :
    MetFree l (⟨"java/util/Objects", "requireNonNull", "(Ljava/lang/Object;Ljava/lang/String;)Ljava/lang/Object;"⟩ : MethodName) (head1 (Jvm.Cond.code (⟨"java/util/Objects", "requireNonNull", "(Ljava/lang/Object;Ljava/lang/String;)Ljava/lang/Object;"⟩ : MethodName) jdk_31_method_11_code 2 (some (.object "java/lang/Object")) :: ws) ({ frames := 0, cells := 0, slots := 0, locals := 0 } : Room)) (fun a U => a = #[(.ref a1), (.ref a2)] ∧ Z.Warmed39 U.vm ∧ U.heap = h0) (fun _ _ _ _ _ => True) (fun _ U o U' => ∃ v L, o = .returned v ∧ Q4 Z a1 a2 h0 n0 v U'.heap L ∧ FrameEnd U o U' L ({ frames := 0, cells := 0, slots := 0, locals := 0 } : Room).cells ({ frames := 0, cells := 0, slots := 0, locals := 0 } : Room).slots) := by
  refine MetFree.of_bodySF (plainFor_of_name pn_4) hisR ?_
  intro p e s m args below meth c s₁ Bd hml0 hP hK
  obtain ⟨rfl, hZ, hh⟩ := hP
  have hx := Bd.exec
  have hby := Bd.bytes
  have hml : c.maxLocals = 2 := hml0
  have hown : s.vm.findClass "java/util/Objects" = some m.cls := findClass_of_methodNamed Bd.named
  have hnm := (name_of_methodNamed Bd.named Bd.method).1
  have hret := Bd.returns
  have hlocks : meth.locks = false := Bd.notSynchronized
  have X0 : Stand p l e ({ frames := 0, cells := 0, slots := 0, locals := 0 } : Room) s m #[(.ref a1), (.ref a2)] below meth c s₁ [] 0 0 := Stand.of_body Bd
  have e0 : s₁.heap = h0 := by rw [← hh, Bd.state]; rfl
  have N0 := Fr.nil n0
  have pre0 : ∀ t, Steps p.tables e below (s₁.setTop (mkF m 0 #[.val (.ref a1), .val (.ref a2)] [])) t → Steps p.tables e below (s₁.setTop (entryFrame m #[(.ref a1), (.ref a2)] 2)) t := fun t k => castTop (ef_4 m a1 a2) k
  have pre4 : ∀ t, Steps p.tables e below (s₁.setTop (mkF m 14 #[.val (.ref a1), .val (.ref a2)] [(.ref a1)])) t → Steps p.tables e below (s₁.setTop (entryFrame m #[(.ref a1), (.ref a2)] 2)) t := by
    intro t k
    refine pre0 _ ?_
    show Steps p.tables e below (s₁.setTop (mkF m 0 #[.val (.ref a1), .val (.ref a2)] [])) _
    refine XS.aloadN X0.here hx rfl (hb hby d4_0) rfl rfl ?_
    show Steps p.tables e below (s₁.setTop (mkF m 1 #[.val (.ref a1), .val (.ref a2)] [(.ref a1)])) _
    refine XS.ifnonnullYes X0.here hx rfl (pc0 := 1) (pc' := 13) rfl (hb hby d4_1) rfl (by decide) (by decide) ?_
    show Steps p.tables e below (s₁.setTop (mkF m 13 #[.val (.ref a1), .val (.ref a2)] [])) _
    refine XS.aloadN X0.here hx rfl (hb hby d4_13) rfl rfl ?_
    exact k
  obtain ⟨fs, hr, hrun, hended, hW, hsame⟩ := X0.leave (v := some (.ref a1)) (fun h => by rw [hret] at h; cases h)
  refine ⟨_, _, pre4 _ ?_, hrun, hended, _, _, rfl, ?_, ⟨_, rfl⟩, hW, hsame.mono (by decide) (by decide)⟩
  · show Steps p.tables e below (s₁.setTop (mkF m 14 #[.val (.ref a1), .val (.ref a2)] [(.ref a1)])) _
    exact Jvm.RoadKit.retOut X0 hx hret rfl (Or.inr (Or.inr (Or.inr (Or.inr ⟨rfl, rfl, rfl⟩)))) (hb hby d4_14) hr
  · show Q4 Z a1 a2 h0 n0 _ s₁.heap _
    exact ⟨(by rw [F4]), N0, e0⟩
theorem d5_0 : decode prog_36_method_15_code 0 = .ok (.aload_n 1, 1) := by decide +kernel
theorem d5_1 : decode prog_36_method_15_code 1 = .ok (.instanceof 1, 3) := by decide +kernel
theorem d5_4 : decode prog_36_method_15_code 4 = .ok (.ifCond .eq 47, 3) := by decide +kernel
theorem d5_51 : decode prog_36_method_15_code 51 = .ok (.iconst 0, 1) := by decide +kernel
theorem d5_52 : decode prog_36_method_15_code 52 = .ok (.ireturn, 1) := by decide +kernel
theorem pn_5 : plainName "com/example/tabuleiro/tabuleiro/othello/OthelloPosition" = true := by first | (simp [plainName, overriddenIn]; done) | decide +kernel
theorem ef_5n (m : MethodId) (x0 : Addr) : entryFrame m #[(.ref x0), .null] 3 = mkF m 0 #[.val (.ref x0), .val .null, .unset] [] := by first | (simp [entryFrame, mkF, argsToLocals, Value.category]; done) | rfl
def F5n  : Int32 :=
  (0 : Int32)
def Q5n (Z : State) (a1 : Addr) (h0 : Heap) (n0 : Nat) (v : Option Value) (h : Heap) (L : List Loc) : Prop := v = some (.int (F5n)) ∧ Fr n0 L ∧ h = h0
set_option maxRecDepth 65536 in
set_option maxHeartbeats 40000000 in
theorem rm5n (l : Launch) (Z : State) (a0 : Array Value) (hw : ∀ d ∈ tables_1, d.before a0 Z = true) (ws : List Jvm.Cond) (a1 : Addr) (h0 : Heap) (n0 : Nat) (Z0 : n0 ≤ h0.size)  :
    MetFree l (⟨"com/example/tabuleiro/tabuleiro/othello/OthelloPosition", "equals", "(Ljava/lang/Object;)Z"⟩ : MethodName) (head1 (Jvm.Cond.code (⟨"com/example/tabuleiro/tabuleiro/othello/OthelloPosition", "equals", "(Ljava/lang/Object;)Z"⟩ : MethodName) prog_36_method_15_code 3 (some .boolean) :: ws) ({ frames := 0, cells := 0, slots := 0, locals := 0 } : Room)) (fun a U => a = #[(.ref a1), .null] ∧ Z.Warmed39 U.vm ∧ U.heap = h0) (fun _ _ _ _ _ => True) (fun _ U o U' => ∃ v L, o = .returned v ∧ Q5n Z a1 h0 n0 v U'.heap L ∧ FrameEnd U o U' L ({ frames := 0, cells := 0, slots := 0, locals := 0 } : Room).cells ({ frames := 0, cells := 0, slots := 0, locals := 0 } : Room).slots) := by
  refine MetFree.of_bodySF (plainFor_of_name pn_5) hisR ?_
  intro p e s m args below meth c s₁ Bd hml0 hP hK
  obtain ⟨rfl, hZ, hh⟩ := hP
  have hx := Bd.exec
  have hby := Bd.bytes
  have hml : c.maxLocals = 3 := hml0
  have hown : s.vm.findClass "com/example/tabuleiro/tabuleiro/othello/OthelloPosition" = some m.cls := findClass_of_methodNamed Bd.named
  have hnm := (name_of_methodNamed Bd.named Bd.method).1
  have hret := Bd.returns
  have hlocks : meth.locks = false := Bd.notSynchronized
  have X0 : Stand p l e ({ frames := 0, cells := 0, slots := 0, locals := 0 } : Room) s m #[(.ref a1), .null] below meth c s₁ [] 0 0 := Stand.of_body Bd
  have e0 : s₁.heap = h0 := by rw [← hh, Bd.state]; rfl
  have N0 := Fr.nil n0
  have pre0 : ∀ t, Steps p.tables e below (s₁.setTop (mkF m 0 #[.val (.ref a1), .val .null, .unset] [])) t → Steps p.tables e below (s₁.setTop (entryFrame m #[(.ref a1), .null] 3)) t := fun t k => castTop (ef_5n m a1) k
  have pre5 : ∀ t, Steps p.tables e below (s₁.setTop (mkF m 4 #[.val (.ref a1), .val .null, .unset] [(.int (0 : Int32))])) t → Steps p.tables e below (s₁.setTop (entryFrame m #[(.ref a1), .null] 3)) t := by
    intro t k
    refine pre0 _ ?_
    show Steps p.tables e below (s₁.setTop (mkF m 0 #[.val (.ref a1), .val .null, .unset] [])) _
    refine XS.aloadN X0.here hx rfl (hb hby d5_0) rfl rfl ?_
    show Steps p.tables e below (s₁.setTop (mkF m 1 #[.val (.ref a1), .val .null, .unset] [.null])) _
    refine X0.instanceofNull hx (g := (mkF m 1 #[.val (.ref a1), .val .null, .unset] [.null])) rfl rfl (hb hby d5_1) _ ?_
    exact k
  have pre7 : ∀ t, Steps p.tables e below (s₁.setTop (mkF m 51 #[.val (.ref a1), .val .null, .unset] [])) t → Steps p.tables e below (s₁.setTop (entryFrame m #[(.ref a1), .null] 3)) t := by
    intro t k
    refine pre5 _ ?_
    show Steps p.tables e below (s₁.setTop (mkF m 4 #[.val (.ref a1), .val .null, .unset] [(.int (0 : Int32))])) _
    refine XS.ifYes X0.here hx rfl (pc0 := 4) (pc' := 51) rfl (hb hby d5_4) rfl ((if0 _ _).trans (teq (rfl : (0 : Int32) = (0 : Int32))).1) (by decide) (by decide) ?_
    exact k
  have pre8 : ∀ t, Steps p.tables e below (s₁.setTop (mkF m 52 #[.val (.ref a1), .val .null, .unset] [(.int (0 : Int32))])) t → Steps p.tables e below (s₁.setTop (entryFrame m #[(.ref a1), .null] 3)) t := by
    intro t k
    refine pre7 _ ?_
    show Steps p.tables e below (s₁.setTop (mkF m 51 #[.val (.ref a1), .val .null, .unset] [])) _
    refine XS.iconst X0.here hx rfl (hb hby d5_51) ?_
    exact k
  obtain ⟨fs, hr, hrun, hended, hW, hsame⟩ := X0.leave (v := some (.int (0 : Int32))) (fun h => by rw [hret] at h; cases h)
  refine ⟨_, _, pre8 _ ?_, hrun, hended, _, _, rfl, ?_, ⟨_, rfl⟩, hW, hsame.mono (by decide) (by decide)⟩
  · show Steps p.tables e below (s₁.setTop (mkF m 52 #[.val (.ref a1), .val .null, .unset] [(.int (0 : Int32))])) _
    exact retN X0 hx (t := .boolean) hret (by simp) (hb hby d5_52) hr
  · show Q5n Z a1 h0 n0 _ s₁.heap _
    exact ⟨(by rw [F5n]), N0, e0⟩
theorem ef_5o (m : MethodId) (x0 : Addr) (x1 : Addr) : entryFrame m #[(.ref x0), (.ref x1)] 3 = mkF m 0 #[.val (.ref x0), .val (.ref x1), .unset] [] := by first | (simp [entryFrame, mkF, argsToLocals, Value.category]; done) | rfl
def F5o  : Int32 :=
  (0 : Int32)
def Q5o (Z : State) (a1 : Addr) (a2 : Addr) (h0 : Heap) (n0 : Nat) (v : Option Value) (h : Heap) (L : List Loc) : Prop := v = some (.int (F5o)) ∧ Fr n0 L ∧ h = h0
set_option maxRecDepth 65536 in
set_option maxHeartbeats 40000000 in
theorem rm5o (l : Launch) (Z : State) (a0 : Array Value) (hw : ∀ d ∈ tables_1, d.before a0 Z = true) (ws : List Jvm.Cond) (a1 : Addr) (a2 : Addr) (h0 : Heap) (n0 : Nat) (Z0 : n0 ≤ h0.size) (E_a2 : Exa Z h0 a2 "com/example/tabuleiro/tabuleiro/game/Colour") (hno : ∃ c t, Z.vm.findClass "com/example/tabuleiro/tabuleiro/game/Colour" = some c ∧ Z.vm.findClass "com/example/tabuleiro/tabuleiro/othello/OthelloPosition" = some t ∧ Z.vm.assignable c t = false) :
    MetFree l (⟨"com/example/tabuleiro/tabuleiro/othello/OthelloPosition", "equals", "(Ljava/lang/Object;)Z"⟩ : MethodName) (head1 (Jvm.Cond.code (⟨"com/example/tabuleiro/tabuleiro/othello/OthelloPosition", "equals", "(Ljava/lang/Object;)Z"⟩ : MethodName) prog_36_method_15_code 3 (some .boolean) :: ws) ({ frames := 0, cells := 0, slots := 0, locals := 0 } : Room)) (fun a U => a = #[(.ref a1), (.ref a2)] ∧ Z.Warmed39 U.vm ∧ U.heap = h0) (fun _ _ _ _ _ => True) (fun _ U o U' => ∃ v L, o = .returned v ∧ Q5o Z a1 a2 h0 n0 v U'.heap L ∧ FrameEnd U o U' L ({ frames := 0, cells := 0, slots := 0, locals := 0 } : Room).cells ({ frames := 0, cells := 0, slots := 0, locals := 0 } : Room).slots) := by
  refine MetFree.of_bodySF (plainFor_of_name pn_5) hisR ?_
  intro p e s m args below meth c s₁ Bd hml0 hP hK
  obtain ⟨rfl, hZ, hh⟩ := hP
  have hx := Bd.exec
  have hby := Bd.bytes
  have hml : c.maxLocals = 3 := hml0
  have hown : s.vm.findClass "com/example/tabuleiro/tabuleiro/othello/OthelloPosition" = some m.cls := findClass_of_methodNamed Bd.named
  have hnm := (name_of_methodNamed Bd.named Bd.method).1
  have hret := Bd.returns
  have hlocks : meth.locks = false := Bd.notSynchronized
  have X0 : Stand p l e ({ frames := 0, cells := 0, slots := 0, locals := 0 } : Room) s m #[(.ref a1), (.ref a2)] below meth c s₁ [] 0 0 := Stand.of_body Bd
  have e0 : s₁.heap = h0 := by rw [← hh, Bd.state]; rfl
  have N0 := Fr.nil n0
  have pre0 : ∀ t, Steps p.tables e below (s₁.setTop (mkF m 0 #[.val (.ref a1), .val (.ref a2), .unset] [])) t → Steps p.tables e below (s₁.setTop (entryFrame m #[(.ref a1), (.ref a2)] 3)) t := fun t k => castTop (ef_5o m a1 a2) k
  have pre9 : ∀ t, Steps p.tables e below (s₁.setTop (mkF m 1 #[.val (.ref a1), .val (.ref a2), .unset] [(.ref a2)])) t → Steps p.tables e below (s₁.setTop (entryFrame m #[(.ref a1), (.ref a2)] 3)) t := by
    intro t k
    refine pre0 _ ?_
    show Steps p.tables e below (s₁.setTop (mkF m 0 #[.val (.ref a1), .val (.ref a2), .unset] [])) _
    refine XS.aloadN X0.here hx rfl (hb hby d5_0) rfl rfl ?_
    exact k
  obtain ⟨T10, X10, e10, st10⟩ := instNo X0 hx hZ hown (hw _ (List.mem_of_getElem? (i := 41) rfl)) e0 E_a2 hno (g := (mkF m 1 #[.val (.ref a1), .val (.ref a2), .unset] [(.ref a2)])) rfl rfl (hb hby d5_1)
  have pre11 : ∀ t, Steps p.tables e below (T10.setTop (mkF m 4 #[.val (.ref a1), .val (.ref a2), .unset] [(.int (0 : Int32))])) t → Steps p.tables e below (s₁.setTop (entryFrame m #[(.ref a1), (.ref a2)] 3)) t := by
    intro t k
    refine pre9 _ ?_
    show Steps p.tables e below (s₁.setTop (mkF m 1 #[.val (.ref a1), .val (.ref a2), .unset] [(.ref a2)])) _
    refine st10 _ ?_
    exact k
  have pre13 : ∀ t, Steps p.tables e below (T10.setTop (mkF m 51 #[.val (.ref a1), .val (.ref a2), .unset] [])) t → Steps p.tables e below (s₁.setTop (entryFrame m #[(.ref a1), (.ref a2)] 3)) t := by
    intro t k
    refine pre11 _ ?_
    show Steps p.tables e below (T10.setTop (mkF m 4 #[.val (.ref a1), .val (.ref a2), .unset] [(.int (0 : Int32))])) _
    refine XS.ifYes X10.here hx rfl (pc0 := 4) (pc' := 51) rfl (hb hby d5_4) rfl ((if0 _ _).trans (teq (rfl : (0 : Int32) = (0 : Int32))).1) (by decide) (by decide) ?_
    exact k
  have pre14 : ∀ t, Steps p.tables e below (T10.setTop (mkF m 52 #[.val (.ref a1), .val (.ref a2), .unset] [(.int (0 : Int32))])) t → Steps p.tables e below (s₁.setTop (entryFrame m #[(.ref a1), (.ref a2)] 3)) t := by
    intro t k
    refine pre13 _ ?_
    show Steps p.tables e below (T10.setTop (mkF m 51 #[.val (.ref a1), .val (.ref a2), .unset] [])) _
    refine XS.iconst X10.here hx rfl (hb hby d5_51) ?_
    exact k
  obtain ⟨fs, hr, hrun, hended, hW, hsame⟩ := X10.leave (v := some (.int (0 : Int32))) (fun h => by rw [hret] at h; cases h)
  refine ⟨_, _, pre14 _ ?_, hrun, hended, _, _, rfl, ?_, ⟨_, rfl⟩, hW, hsame.mono (by decide) (by decide)⟩
  · show Steps p.tables e below (T10.setTop (mkF m 52 #[.val (.ref a1), .val (.ref a2), .unset] [(.int (0 : Int32))])) _
    exact retN X10 hx (t := .boolean) hret (by simp) (hb hby d5_52) hr
  · show Q5o Z a1 a2 h0 n0 _ T10.heap _
    exact ⟨(by rw [F5o]), N0, e10⟩
theorem d5_7 : decode prog_36_method_15_code 7 = .ok (.aload_n 1, 1) := by decide +kernel
theorem d5_8 : decode prog_36_method_15_code 8 = .ok (.checkcast 1, 3) := by decide +kernel
theorem d5_11 : decode prog_36_method_15_code 11 = .ok (.astore_n 2, 1) := by decide +kernel
theorem d5_12 : decode prog_36_method_15_code 12 = .ok (.aload_n 0, 1) := by decide +kernel
theorem d5_13 : decode prog_36_method_15_code 13 = .ok (.getfield 24, 3) := by decide +kernel
theorem d5_16 : decode prog_36_method_15_code 16 = .ok (.aload_n 2, 1) := by decide +kernel
theorem d5_17 : decode prog_36_method_15_code 17 = .ok (.getfield 24, 3) := by decide +kernel
theorem d5_20 : decode prog_36_method_15_code 20 = .ok (.lcmp, 1) := by decide +kernel
theorem d5_21 : decode prog_36_method_15_code 21 = .ok (.ifCond .ne 30, 3) := by decide +kernel
theorem d5_24 : decode prog_36_method_15_code 24 = .ok (.aload_n 0, 1) := by decide +kernel
theorem d5_25 : decode prog_36_method_15_code 25 = .ok (.getfield 28, 3) := by decide +kernel
theorem d5_28 : decode prog_36_method_15_code 28 = .ok (.aload_n 2, 1) := by decide +kernel
theorem d5_29 : decode prog_36_method_15_code 29 = .ok (.getfield 28, 3) := by decide +kernel
theorem d5_32 : decode prog_36_method_15_code 32 = .ok (.lcmp, 1) := by decide +kernel
theorem d5_33 : decode prog_36_method_15_code 33 = .ok (.ifCond .ne 18, 3) := by decide +kernel
theorem d5_36 : decode prog_36_method_15_code 36 = .ok (.aload_n 0, 1) := by decide +kernel
theorem d5_37 : decode prog_36_method_15_code 37 = .ok (.getfield 31, 3) := by decide +kernel
theorem d5_40 : decode prog_36_method_15_code 40 = .ok (.aload_n 2, 1) := by decide +kernel
theorem d5_41 : decode prog_36_method_15_code 41 = .ok (.getfield 31, 3) := by decide +kernel
theorem d5_44 : decode prog_36_method_15_code 44 = .ok (.if_acmp .ne 7, 3) := by decide +kernel
theorem d5_47 : decode prog_36_method_15_code 47 = .ok (.iconst 1, 1) := by decide +kernel
theorem d5_48 : decode prog_36_method_15_code 48 = .ok (.goto 4, 3) := by decide +kernel
theorem ef_5s (m : MethodId) (x0 : Addr) (x1 : Addr) : entryFrame m #[(.ref x0), (.ref x1)] 3 = mkF m 0 #[.val (.ref x0), .val (.ref x1), .unset] [] := by first | (simp [entryFrame, mkF, argsToLocals, Value.category]; done) | rfl
def F5s (f_black_a1 : Int64) (f_black_a2 : Int64) (f_white_a1 : Int64) (f_white_a2 : Int64) (f_toMove_a1 : Addr) (f_toMove_a2 : Addr) : Int32 :=
  if (lcmpW f_black_a1 f_black_a2) = (0 : Int32) then (  if (lcmpW f_white_a1 f_white_a2) = (0 : Int32) then (  if f_toMove_a1 = f_toMove_a2 then (  (1 : Int32))
  else (  (0 : Int32)))
  else (  (0 : Int32)))
  else (  (0 : Int32))
def Q5s (Z : State) (a1 : Addr) (a2 : Addr) (f_black_a1 : Int64) (f_black_a2 : Int64) (f_white_a1 : Int64) (f_white_a2 : Int64) (f_toMove_a1 : Addr) (f_toMove_a2 : Addr) (h0 : Heap) (n0 : Nat) (v : Option Value) (h : Heap) (L : List Loc) : Prop := v = some (.int (F5s f_black_a1 f_black_a2 f_white_a1 f_white_a2 f_toMove_a1 f_toMove_a2)) ∧ Fr n0 L ∧ h = h0
set_option maxRecDepth 65536 in
set_option maxHeartbeats 40000000 in
theorem rm5s (l : Launch) (Z : State) (a0 : Array Value) (hw : ∀ d ∈ tables_1, d.before a0 Z = true) (ws : List Jvm.Cond) (a1 : Addr) (a2 : Addr) (f_black_a1 : Int64) (f_black_a2 : Int64) (f_white_a1 : Int64) (f_white_a2 : Int64) (f_toMove_a1 : Addr) (f_toMove_a2 : Addr) (h0 : Heap) (n0 : Nat) (Z0 : n0 ≤ h0.size) (E_a2 : Exa Z h0 a2 "com/example/tabuleiro/tabuleiro/othello/OthelloPosition") (F_f_black_a1 : Fld Z h0 a1 "com/example/tabuleiro/tabuleiro/othello/OthelloPosition" "black" "J" (.long f_black_a1)) (F_f_black_a2 : Fld Z h0 a2 "com/example/tabuleiro/tabuleiro/othello/OthelloPosition" "black" "J" (.long f_black_a2)) (F_f_white_a1 : Fld Z h0 a1 "com/example/tabuleiro/tabuleiro/othello/OthelloPosition" "white" "J" (.long f_white_a1)) (F_f_white_a2 : Fld Z h0 a2 "com/example/tabuleiro/tabuleiro/othello/OthelloPosition" "white" "J" (.long f_white_a2)) (F_f_toMove_a1 : Fld Z h0 a1 "com/example/tabuleiro/tabuleiro/othello/OthelloPosition" "toMove" "Lcom/example/tabuleiro/tabuleiro/game/Colour;" (.ref f_toMove_a1)) (F_f_toMove_a2 : Fld Z h0 a2 "com/example/tabuleiro/tabuleiro/othello/OthelloPosition" "toMove" "Lcom/example/tabuleiro/tabuleiro/game/Colour;" (.ref f_toMove_a2)) :
    MetFree l (⟨"com/example/tabuleiro/tabuleiro/othello/OthelloPosition", "equals", "(Ljava/lang/Object;)Z"⟩ : MethodName) (head1 (Jvm.Cond.code (⟨"com/example/tabuleiro/tabuleiro/othello/OthelloPosition", "equals", "(Ljava/lang/Object;)Z"⟩ : MethodName) prog_36_method_15_code 3 (some .boolean) :: ws) ({ frames := 0, cells := 0, slots := 0, locals := 0 } : Room)) (fun a U => a = #[(.ref a1), (.ref a2)] ∧ Z.Warmed39 U.vm ∧ U.heap = h0) (fun _ _ _ _ _ => True) (fun _ U o U' => ∃ v L, o = .returned v ∧ Q5s Z a1 a2 f_black_a1 f_black_a2 f_white_a1 f_white_a2 f_toMove_a1 f_toMove_a2 h0 n0 v U'.heap L ∧ FrameEnd U o U' L ({ frames := 0, cells := 0, slots := 0, locals := 0 } : Room).cells ({ frames := 0, cells := 0, slots := 0, locals := 0 } : Room).slots) := by
  refine MetFree.of_bodySF (plainFor_of_name pn_5) hisR ?_
  intro p e s m args below meth c s₁ Bd hml0 hP hK
  obtain ⟨rfl, hZ, hh⟩ := hP
  have hx := Bd.exec
  have hby := Bd.bytes
  have hml : c.maxLocals = 3 := hml0
  have hown : s.vm.findClass "com/example/tabuleiro/tabuleiro/othello/OthelloPosition" = some m.cls := findClass_of_methodNamed Bd.named
  have hnm := (name_of_methodNamed Bd.named Bd.method).1
  have hret := Bd.returns
  have hlocks : meth.locks = false := Bd.notSynchronized
  have X0 : Stand p l e ({ frames := 0, cells := 0, slots := 0, locals := 0 } : Room) s m #[(.ref a1), (.ref a2)] below meth c s₁ [] 0 0 := Stand.of_body Bd
  have e0 : s₁.heap = h0 := by rw [← hh, Bd.state]; rfl
  have N0 := Fr.nil n0
  have pre0 : ∀ t, Steps p.tables e below (s₁.setTop (mkF m 0 #[.val (.ref a1), .val (.ref a2), .unset] [])) t → Steps p.tables e below (s₁.setTop (entryFrame m #[(.ref a1), (.ref a2)] 3)) t := fun t k => castTop (ef_5s m a1 a2) k
  have pre15 : ∀ t, Steps p.tables e below (s₁.setTop (mkF m 1 #[.val (.ref a1), .val (.ref a2), .unset] [(.ref a2)])) t → Steps p.tables e below (s₁.setTop (entryFrame m #[(.ref a1), (.ref a2)] 3)) t := by
    intro t k
    refine pre0 _ ?_
    show Steps p.tables e below (s₁.setTop (mkF m 0 #[.val (.ref a1), .val (.ref a2), .unset] [])) _
    refine XS.aloadN X0.here hx rfl (hb hby d5_0) rfl rfl ?_
    exact k
  obtain ⟨T16, X16, e16, st16⟩ := instY X0 hx hZ hown (hw _ (List.mem_of_getElem? (i := 41) rfl)) e0 (Ins.self E_a2) (g := (mkF m 1 #[.val (.ref a1), .val (.ref a2), .unset] [(.ref a2)])) rfl rfl (hb hby d5_1)
  have pre17 : ∀ t, Steps p.tables e below (T16.setTop (mkF m 4 #[.val (.ref a1), .val (.ref a2), .unset] [(.int (1 : Int32))])) t → Steps p.tables e below (s₁.setTop (entryFrame m #[(.ref a1), (.ref a2)] 3)) t := by
    intro t k
    refine pre15 _ ?_
    show Steps p.tables e below (s₁.setTop (mkF m 1 #[.val (.ref a1), .val (.ref a2), .unset] [(.ref a2)])) _
    refine st16 _ ?_
    exact k
  have pre19 : ∀ t, Steps p.tables e below (T16.setTop (mkF m 7 #[.val (.ref a1), .val (.ref a2), .unset] [])) t → Steps p.tables e below (s₁.setTop (entryFrame m #[(.ref a1), (.ref a2)] 3)) t := by
    intro t k
    refine pre17 _ ?_
    show Steps p.tables e below (T16.setTop (mkF m 4 #[.val (.ref a1), .val (.ref a2), .unset] [(.int (1 : Int32))])) _
    refine XS.ifNo X16.here hx rfl (hb hby d5_4) rfl ((if0 _ _).trans (feq (by decide : ¬ ((1 : Int32) = (0 : Int32)))).1) ?_
    exact k
  have pre20 : ∀ t, Steps p.tables e below (T16.setTop (mkF m 8 #[.val (.ref a1), .val (.ref a2), .unset] [(.ref a2)])) t → Steps p.tables e below (s₁.setTop (entryFrame m #[(.ref a1), (.ref a2)] 3)) t := by
    intro t k
    refine pre19 _ ?_
    show Steps p.tables e below (T16.setTop (mkF m 7 #[.val (.ref a1), .val (.ref a2), .unset] [])) _
    refine XS.aloadN X16.here hx rfl (hb hby d5_7) rfl rfl ?_
    exact k
  obtain ⟨T21, X21, e21, st21⟩ := castY X16 hx hZ hown (hw _ (List.mem_of_getElem? (i := 41) rfl)) e16 (Ins.self E_a2) (g := (mkF m 8 #[.val (.ref a1), .val (.ref a2), .unset] [(.ref a2)])) rfl rfl (hb hby d5_8)
  have pre22 : ∀ t, Steps p.tables e below (T21.setTop (mkF m 11 #[.val (.ref a1), .val (.ref a2), .unset] [(.ref a2)])) t → Steps p.tables e below (s₁.setTop (entryFrame m #[(.ref a1), (.ref a2)] 3)) t := by
    intro t k
    refine pre20 _ ?_
    show Steps p.tables e below (T16.setTop (mkF m 8 #[.val (.ref a1), .val (.ref a2), .unset] [(.ref a2)])) _
    refine st21 _ ?_
    exact k
  have pre23 : ∀ t, Steps p.tables e below (T21.setTop (mkF m 13 #[.val (.ref a1), .val (.ref a2), .val (.ref a2)] [(.ref a1)])) t → Steps p.tables e below (s₁.setTop (entryFrame m #[(.ref a1), (.ref a2)] 3)) t := by
    intro t k
    refine pre22 _ ?_
    show Steps p.tables e below (T21.setTop (mkF m 11 #[.val (.ref a1), .val (.ref a2), .unset] [(.ref a2)])) _
    refine XS.astoreN X21.here hx rfl (hb hby d5_11) rfl rfl (l' := #[.val (.ref a1), .val (.ref a2), .val (.ref a2)]) rfl ?_
    show Steps p.tables e below (T21.setTop (mkF m 12 #[.val (.ref a1), .val (.ref a2), .val (.ref a2)] [])) _
    refine XS.aloadN X21.here hx rfl (hb hby d5_12) rfl rfl ?_
    exact k
  obtain ⟨T24, X24, e24, st24⟩ := getF X21 hx hZ hown (host := "") (Or.inl (hw _ (List.mem_of_getElem? (i := 30) rfl))) Via.refl e21 F_f_black_a1 (g := (mkF m 13 #[.val (.ref a1), .val (.ref a2), .val (.ref a2)] [(.ref a1)])) rfl rfl (hb hby d5_13)
  have pre25 : ∀ t, Steps p.tables e below (T24.setTop (mkF m 16 #[.val (.ref a1), .val (.ref a2), .val (.ref a2)] [(.long f_black_a1)])) t → Steps p.tables e below (s₁.setTop (entryFrame m #[(.ref a1), (.ref a2)] 3)) t := by
    intro t k
    refine pre23 _ ?_
    show Steps p.tables e below (T21.setTop (mkF m 13 #[.val (.ref a1), .val (.ref a2), .val (.ref a2)] [(.ref a1)])) _
    refine st24 _ ?_
    exact k
  have pre26 : ∀ t, Steps p.tables e below (T24.setTop (mkF m 17 #[.val (.ref a1), .val (.ref a2), .val (.ref a2)] [(.ref a2), (.long f_black_a1)])) t → Steps p.tables e below (s₁.setTop (entryFrame m #[(.ref a1), (.ref a2)] 3)) t := by
    intro t k
    refine pre25 _ ?_
    show Steps p.tables e below (T24.setTop (mkF m 16 #[.val (.ref a1), .val (.ref a2), .val (.ref a2)] [(.long f_black_a1)])) _
    refine XS.aloadN X24.here hx rfl (hb hby d5_16) rfl rfl ?_
    exact k
  obtain ⟨T27, X27, e27, st27⟩ := getF X24 hx hZ hown (host := "") (Or.inl (hw _ (List.mem_of_getElem? (i := 30) rfl))) Via.refl e24 F_f_black_a2 (g := (mkF m 17 #[.val (.ref a1), .val (.ref a2), .val (.ref a2)] [(.ref a2), (.long f_black_a1)])) rfl rfl (hb hby d5_17)
  have pre28 : ∀ t, Steps p.tables e below (T27.setTop (mkF m 20 #[.val (.ref a1), .val (.ref a2), .val (.ref a2)] [(.long f_black_a2), (.long f_black_a1)])) t → Steps p.tables e below (s₁.setTop (entryFrame m #[(.ref a1), (.ref a2)] 3)) t := by
    intro t k
    refine pre26 _ ?_
    show Steps p.tables e below (T24.setTop (mkF m 17 #[.val (.ref a1), .val (.ref a2), .val (.ref a2)] [(.ref a2), (.long f_black_a1)])) _
    refine st27 _ ?_
    exact k
  have pre29 : ∀ t, Steps p.tables e below (T27.setTop (mkF m 21 #[.val (.ref a1), .val (.ref a2), .val (.ref a2)] [(.int (lcmpW f_black_a1 f_black_a2))])) t → Steps p.tables e below (s₁.setTop (entryFrame m #[(.ref a1), (.ref a2)] 3)) t := by
    intro t k
    refine pre28 _ ?_
    show Steps p.tables e below (T27.setTop (mkF m 20 #[.val (.ref a1), .val (.ref a2), .val (.ref a2)] [(.long f_black_a2), (.long f_black_a1)])) _
    refine XS.lcmp X27.here hx rfl (hb hby d5_20) rfl ?_
    exact k
  by_cases hc30 : (lcmpW f_black_a1 f_black_a2) = (0 : Int32)
  · have pre31 : ∀ t, Steps p.tables e below (T27.setTop (mkF m 24 #[.val (.ref a1), .val (.ref a2), .val (.ref a2)] [])) t → Steps p.tables e below (s₁.setTop (entryFrame m #[(.ref a1), (.ref a2)] 3)) t := by
      intro t k
      refine pre29 _ ?_
      show Steps p.tables e below (T27.setTop (mkF m 21 #[.val (.ref a1), .val (.ref a2), .val (.ref a2)] [(.int (lcmpW f_black_a1 f_black_a2))])) _
      refine XS.ifNo X27.here hx rfl (hb hby d5_21) rfl ((if0 _ _).trans (teq hc30).2) ?_
      exact k
    have pre32 : ∀ t, Steps p.tables e below (T27.setTop (mkF m 25 #[.val (.ref a1), .val (.ref a2), .val (.ref a2)] [(.ref a1)])) t → Steps p.tables e below (s₁.setTop (entryFrame m #[(.ref a1), (.ref a2)] 3)) t := by
      intro t k
      refine pre31 _ ?_
      show Steps p.tables e below (T27.setTop (mkF m 24 #[.val (.ref a1), .val (.ref a2), .val (.ref a2)] [])) _
      refine XS.aloadN X27.here hx rfl (hb hby d5_24) rfl rfl ?_
      exact k
    obtain ⟨T33, X33, e33, st33⟩ := getF X27 hx hZ hown (host := "") (Or.inl (hw _ (List.mem_of_getElem? (i := 32) rfl))) Via.refl e27 F_f_white_a1 (g := (mkF m 25 #[.val (.ref a1), .val (.ref a2), .val (.ref a2)] [(.ref a1)])) rfl rfl (hb hby d5_25)
    have pre34 : ∀ t, Steps p.tables e below (T33.setTop (mkF m 28 #[.val (.ref a1), .val (.ref a2), .val (.ref a2)] [(.long f_white_a1)])) t → Steps p.tables e below (s₁.setTop (entryFrame m #[(.ref a1), (.ref a2)] 3)) t := by
      intro t k
      refine pre32 _ ?_
      show Steps p.tables e below (T27.setTop (mkF m 25 #[.val (.ref a1), .val (.ref a2), .val (.ref a2)] [(.ref a1)])) _
      refine st33 _ ?_
      exact k
    have pre35 : ∀ t, Steps p.tables e below (T33.setTop (mkF m 29 #[.val (.ref a1), .val (.ref a2), .val (.ref a2)] [(.ref a2), (.long f_white_a1)])) t → Steps p.tables e below (s₁.setTop (entryFrame m #[(.ref a1), (.ref a2)] 3)) t := by
      intro t k
      refine pre34 _ ?_
      show Steps p.tables e below (T33.setTop (mkF m 28 #[.val (.ref a1), .val (.ref a2), .val (.ref a2)] [(.long f_white_a1)])) _
      refine XS.aloadN X33.here hx rfl (hb hby d5_28) rfl rfl ?_
      exact k
    obtain ⟨T36, X36, e36, st36⟩ := getF X33 hx hZ hown (host := "") (Or.inl (hw _ (List.mem_of_getElem? (i := 32) rfl))) Via.refl e33 F_f_white_a2 (g := (mkF m 29 #[.val (.ref a1), .val (.ref a2), .val (.ref a2)] [(.ref a2), (.long f_white_a1)])) rfl rfl (hb hby d5_29)
    have pre37 : ∀ t, Steps p.tables e below (T36.setTop (mkF m 32 #[.val (.ref a1), .val (.ref a2), .val (.ref a2)] [(.long f_white_a2), (.long f_white_a1)])) t → Steps p.tables e below (s₁.setTop (entryFrame m #[(.ref a1), (.ref a2)] 3)) t := by
      intro t k
      refine pre35 _ ?_
      show Steps p.tables e below (T33.setTop (mkF m 29 #[.val (.ref a1), .val (.ref a2), .val (.ref a2)] [(.ref a2), (.long f_white_a1)])) _
      refine st36 _ ?_
      exact k
    have pre38 : ∀ t, Steps p.tables e below (T36.setTop (mkF m 33 #[.val (.ref a1), .val (.ref a2), .val (.ref a2)] [(.int (lcmpW f_white_a1 f_white_a2))])) t → Steps p.tables e below (s₁.setTop (entryFrame m #[(.ref a1), (.ref a2)] 3)) t := by
      intro t k
      refine pre37 _ ?_
      show Steps p.tables e below (T36.setTop (mkF m 32 #[.val (.ref a1), .val (.ref a2), .val (.ref a2)] [(.long f_white_a2), (.long f_white_a1)])) _
      refine XS.lcmp X36.here hx rfl (hb hby d5_32) rfl ?_
      exact k
    by_cases hc39 : (lcmpW f_white_a1 f_white_a2) = (0 : Int32)
    · have pre40 : ∀ t, Steps p.tables e below (T36.setTop (mkF m 36 #[.val (.ref a1), .val (.ref a2), .val (.ref a2)] [])) t → Steps p.tables e below (s₁.setTop (entryFrame m #[(.ref a1), (.ref a2)] 3)) t := by
        intro t k
        refine pre38 _ ?_
        show Steps p.tables e below (T36.setTop (mkF m 33 #[.val (.ref a1), .val (.ref a2), .val (.ref a2)] [(.int (lcmpW f_white_a1 f_white_a2))])) _
        refine XS.ifNo X36.here hx rfl (hb hby d5_33) rfl ((if0 _ _).trans (teq hc39).2) ?_
        exact k
      have pre41 : ∀ t, Steps p.tables e below (T36.setTop (mkF m 37 #[.val (.ref a1), .val (.ref a2), .val (.ref a2)] [(.ref a1)])) t → Steps p.tables e below (s₁.setTop (entryFrame m #[(.ref a1), (.ref a2)] 3)) t := by
        intro t k
        refine pre40 _ ?_
        show Steps p.tables e below (T36.setTop (mkF m 36 #[.val (.ref a1), .val (.ref a2), .val (.ref a2)] [])) _
        refine XS.aloadN X36.here hx rfl (hb hby d5_36) rfl rfl ?_
        exact k
      obtain ⟨T42, X42, e42, st42⟩ := getF X36 hx hZ hown (host := "") (Or.inl (hw _ (List.mem_of_getElem? (i := 34) rfl))) Via.refl e36 F_f_toMove_a1 (g := (mkF m 37 #[.val (.ref a1), .val (.ref a2), .val (.ref a2)] [(.ref a1)])) rfl rfl (hb hby d5_37)
      have pre43 : ∀ t, Steps p.tables e below (T42.setTop (mkF m 40 #[.val (.ref a1), .val (.ref a2), .val (.ref a2)] [(.ref f_toMove_a1)])) t → Steps p.tables e below (s₁.setTop (entryFrame m #[(.ref a1), (.ref a2)] 3)) t := by
        intro t k
        refine pre41 _ ?_
        show Steps p.tables e below (T36.setTop (mkF m 37 #[.val (.ref a1), .val (.ref a2), .val (.ref a2)] [(.ref a1)])) _
        refine st42 _ ?_
        exact k
      have pre44 : ∀ t, Steps p.tables e below (T42.setTop (mkF m 41 #[.val (.ref a1), .val (.ref a2), .val (.ref a2)] [(.ref a2), (.ref f_toMove_a1)])) t → Steps p.tables e below (s₁.setTop (entryFrame m #[(.ref a1), (.ref a2)] 3)) t := by
        intro t k
        refine pre43 _ ?_
        show Steps p.tables e below (T42.setTop (mkF m 40 #[.val (.ref a1), .val (.ref a2), .val (.ref a2)] [(.ref f_toMove_a1)])) _
        refine XS.aloadN X42.here hx rfl (hb hby d5_40) rfl rfl ?_
        exact k
      obtain ⟨T45, X45, e45, st45⟩ := getF X42 hx hZ hown (host := "") (Or.inl (hw _ (List.mem_of_getElem? (i := 34) rfl))) Via.refl e42 F_f_toMove_a2 (g := (mkF m 41 #[.val (.ref a1), .val (.ref a2), .val (.ref a2)] [(.ref a2), (.ref f_toMove_a1)])) rfl rfl (hb hby d5_41)
      have pre46 : ∀ t, Steps p.tables e below (T45.setTop (mkF m 44 #[.val (.ref a1), .val (.ref a2), .val (.ref a2)] [(.ref f_toMove_a2), (.ref f_toMove_a1)])) t → Steps p.tables e below (s₁.setTop (entryFrame m #[(.ref a1), (.ref a2)] 3)) t := by
        intro t k
        refine pre44 _ ?_
        show Steps p.tables e below (T42.setTop (mkF m 41 #[.val (.ref a1), .val (.ref a2), .val (.ref a2)] [(.ref a2), (.ref f_toMove_a1)])) _
        refine st45 _ ?_
        exact k
      by_cases ha47 : f_toMove_a1 = f_toMove_a2
      · have pre48 : ∀ t, Steps p.tables e below (T45.setTop (mkF m 47 #[.val (.ref a1), .val (.ref a2), .val (.ref a2)] [])) t → Steps p.tables e below (s₁.setTop (entryFrame m #[(.ref a1), (.ref a2)] 3)) t := by
          intro t k
          refine pre46 _ ?_
          show Steps p.tables e below (T45.setTop (mkF m 44 #[.val (.ref a1), .val (.ref a2), .val (.ref a2)] [(.ref f_toMove_a2), (.ref f_toMove_a1)])) _
          refine Jvm.RoadKit.acmp (g := (mkF m 44 #[.val (.ref a1), .val (.ref a2), .val (.ref a2)] [(.ref f_toMove_a2), (.ref f_toMove_a1)])) X45 hx rfl rfl rfl (pc0 := 44) (pc' := 47) (same := true) rfl (hb hby d5_44) rfl (decide_eq_true (congrArg Value.ref ha47)) (by decide) (by decide) ?_
          exact k
        have pre49 : ∀ t, Steps p.tables e below (T45.setTop (mkF m 52 #[.val (.ref a1), .val (.ref a2), .val (.ref a2)] [(.int (1 : Int32))])) t → Steps p.tables e below (s₁.setTop (entryFrame m #[(.ref a1), (.ref a2)] 3)) t := by
          intro t k
          refine pre48 _ ?_
          show Steps p.tables e below (T45.setTop (mkF m 47 #[.val (.ref a1), .val (.ref a2), .val (.ref a2)] [])) _
          refine XS.iconst X45.here hx rfl (hb hby d5_47) ?_
          show Steps p.tables e below (T45.setTop (mkF m 48 #[.val (.ref a1), .val (.ref a2), .val (.ref a2)] [(.int (1 : Int32))])) _
          refine XS.goto X45.here hx rfl (pc0 := 48) (pc' := 52) rfl (hb hby d5_48) (by decide) (by decide) ?_
          exact k
        obtain ⟨fs, hr, hrun, hended, hW, hsame⟩ := X45.leave (v := some (.int (1 : Int32))) (fun h => by rw [hret] at h; cases h)
        refine ⟨_, _, pre49 _ ?_, hrun, hended, _, _, rfl, ?_, ⟨_, rfl⟩, hW, hsame.mono (by decide) (by decide)⟩
        · show Steps p.tables e below (T45.setTop (mkF m 52 #[.val (.ref a1), .val (.ref a2), .val (.ref a2)] [(.int (1 : Int32))])) _
          exact retN X45 hx (t := .boolean) hret (by simp) (hb hby d5_52) hr
        · show Q5s Z a1 a2 f_black_a1 f_black_a2 f_white_a1 f_white_a2 f_toMove_a1 f_toMove_a2 h0 n0 _ T45.heap _
          exact ⟨(by rw [F5s, if_pos hc30, if_pos hc39, if_pos ha47]), N0, e45⟩
      · have pre50 : ∀ t, Steps p.tables e below (T45.setTop (mkF m 51 #[.val (.ref a1), .val (.ref a2), .val (.ref a2)] [])) t → Steps p.tables e below (s₁.setTop (entryFrame m #[(.ref a1), (.ref a2)] 3)) t := by
          intro t k
          refine pre46 _ ?_
          show Steps p.tables e below (T45.setTop (mkF m 44 #[.val (.ref a1), .val (.ref a2), .val (.ref a2)] [(.ref f_toMove_a2), (.ref f_toMove_a1)])) _
          refine Jvm.RoadKit.acmp (g := (mkF m 44 #[.val (.ref a1), .val (.ref a2), .val (.ref a2)] [(.ref f_toMove_a2), (.ref f_toMove_a1)])) X45 hx rfl rfl rfl (pc0 := 44) (pc' := 51) (same := false) rfl (hb hby d5_44) rfl (decide_eq_false fun q => ha47 (Value.ref.inj q)) (by decide) (by decide) ?_
          exact k
        have pre51 : ∀ t, Steps p.tables e below (T45.setTop (mkF m 52 #[.val (.ref a1), .val (.ref a2), .val (.ref a2)] [(.int (0 : Int32))])) t → Steps p.tables e below (s₁.setTop (entryFrame m #[(.ref a1), (.ref a2)] 3)) t := by
          intro t k
          refine pre50 _ ?_
          show Steps p.tables e below (T45.setTop (mkF m 51 #[.val (.ref a1), .val (.ref a2), .val (.ref a2)] [])) _
          refine XS.iconst X45.here hx rfl (hb hby d5_51) ?_
          exact k
        obtain ⟨fs, hr, hrun, hended, hW, hsame⟩ := X45.leave (v := some (.int (0 : Int32))) (fun h => by rw [hret] at h; cases h)
        refine ⟨_, _, pre51 _ ?_, hrun, hended, _, _, rfl, ?_, ⟨_, rfl⟩, hW, hsame.mono (by decide) (by decide)⟩
        · show Steps p.tables e below (T45.setTop (mkF m 52 #[.val (.ref a1), .val (.ref a2), .val (.ref a2)] [(.int (0 : Int32))])) _
          exact retN X45 hx (t := .boolean) hret (by simp) (hb hby d5_52) hr
        · show Q5s Z a1 a2 f_black_a1 f_black_a2 f_white_a1 f_white_a2 f_toMove_a1 f_toMove_a2 h0 n0 _ T45.heap _
          exact ⟨(by rw [F5s, if_pos hc30, if_pos hc39, if_neg ha47]), N0, e45⟩
    · have pre52 : ∀ t, Steps p.tables e below (T36.setTop (mkF m 51 #[.val (.ref a1), .val (.ref a2), .val (.ref a2)] [])) t → Steps p.tables e below (s₁.setTop (entryFrame m #[(.ref a1), (.ref a2)] 3)) t := by
        intro t k
        refine pre38 _ ?_
        show Steps p.tables e below (T36.setTop (mkF m 33 #[.val (.ref a1), .val (.ref a2), .val (.ref a2)] [(.int (lcmpW f_white_a1 f_white_a2))])) _
        refine XS.ifYes X36.here hx rfl (pc0 := 33) (pc' := 51) rfl (hb hby d5_33) rfl ((if0 _ _).trans (feq hc39).2) (by decide) (by decide) ?_
        exact k
      have pre53 : ∀ t, Steps p.tables e below (T36.setTop (mkF m 52 #[.val (.ref a1), .val (.ref a2), .val (.ref a2)] [(.int (0 : Int32))])) t → Steps p.tables e below (s₁.setTop (entryFrame m #[(.ref a1), (.ref a2)] 3)) t := by
        intro t k
        refine pre52 _ ?_
        show Steps p.tables e below (T36.setTop (mkF m 51 #[.val (.ref a1), .val (.ref a2), .val (.ref a2)] [])) _
        refine XS.iconst X36.here hx rfl (hb hby d5_51) ?_
        exact k
      obtain ⟨fs, hr, hrun, hended, hW, hsame⟩ := X36.leave (v := some (.int (0 : Int32))) (fun h => by rw [hret] at h; cases h)
      refine ⟨_, _, pre53 _ ?_, hrun, hended, _, _, rfl, ?_, ⟨_, rfl⟩, hW, hsame.mono (by decide) (by decide)⟩
      · show Steps p.tables e below (T36.setTop (mkF m 52 #[.val (.ref a1), .val (.ref a2), .val (.ref a2)] [(.int (0 : Int32))])) _
        exact retN X36 hx (t := .boolean) hret (by simp) (hb hby d5_52) hr
      · show Q5s Z a1 a2 f_black_a1 f_black_a2 f_white_a1 f_white_a2 f_toMove_a1 f_toMove_a2 h0 n0 _ T36.heap _
        exact ⟨(by rw [F5s, if_pos hc30, if_neg hc39]), N0, e36⟩
  · have pre54 : ∀ t, Steps p.tables e below (T27.setTop (mkF m 51 #[.val (.ref a1), .val (.ref a2), .val (.ref a2)] [])) t → Steps p.tables e below (s₁.setTop (entryFrame m #[(.ref a1), (.ref a2)] 3)) t := by
      intro t k
      refine pre29 _ ?_
      show Steps p.tables e below (T27.setTop (mkF m 21 #[.val (.ref a1), .val (.ref a2), .val (.ref a2)] [(.int (lcmpW f_black_a1 f_black_a2))])) _
      refine XS.ifYes X27.here hx rfl (pc0 := 21) (pc' := 51) rfl (hb hby d5_21) rfl ((if0 _ _).trans (feq hc30).2) (by decide) (by decide) ?_
      exact k
    have pre55 : ∀ t, Steps p.tables e below (T27.setTop (mkF m 52 #[.val (.ref a1), .val (.ref a2), .val (.ref a2)] [(.int (0 : Int32))])) t → Steps p.tables e below (s₁.setTop (entryFrame m #[(.ref a1), (.ref a2)] 3)) t := by
      intro t k
      refine pre54 _ ?_
      show Steps p.tables e below (T27.setTop (mkF m 51 #[.val (.ref a1), .val (.ref a2), .val (.ref a2)] [])) _
      refine XS.iconst X27.here hx rfl (hb hby d5_51) ?_
      exact k
    obtain ⟨fs, hr, hrun, hended, hW, hsame⟩ := X27.leave (v := some (.int (0 : Int32))) (fun h => by rw [hret] at h; cases h)
    refine ⟨_, _, pre55 _ ?_, hrun, hended, _, _, rfl, ?_, ⟨_, rfl⟩, hW, hsame.mono (by decide) (by decide)⟩
    · show Steps p.tables e below (T27.setTop (mkF m 52 #[.val (.ref a1), .val (.ref a2), .val (.ref a2)] [(.int (0 : Int32))])) _
      exact retN X27 hx (t := .boolean) hret (by simp) (hb hby d5_52) hr
    · show Q5s Z a1 a2 f_black_a1 f_black_a2 f_white_a1 f_white_a2 f_toMove_a1 f_toMove_a2 h0 n0 _ T27.heap _
      exact ⟨(by rw [F5s, if_neg hc30]), N0, e27⟩
theorem d1_0 : decode prog_36_method_1_code 0 = .ok (.aload_n 0, 1) := by decide +kernel
theorem d1_1 : decode prog_36_method_1_code 1 = .ok (.invokespecial 3, 3) := by decide +kernel
theorem pd___V : parseMethodDescriptor "()V" = some ⟨[], none⟩ := by decide +kernel
theorem d1_4 : decode prog_36_method_1_code 4 = .ok (.aload 5, 2) := by decide +kernel
theorem d1_6 : decode prog_36_method_1_code 6 = .ok (.ldc 9, 2) := by decide +kernel
theorem d1_8 : decode prog_36_method_1_code 8 = .ok (.invokestatic 11, 3) := by decide +kernel
theorem pd__Ljava_lang_Object_Ljava_lang_String__Ljava_lang_Object_ : parseMethodDescriptor "(Ljava/lang/Object;Ljava/lang/String;)Ljava/lang/Object;" = some ⟨[(.object "java/lang/Object"), (.object "java/lang/String")], some (.object "java/lang/Object")⟩ := by decide +kernel
theorem d1_11 : decode prog_36_method_1_code 11 = .ok (.pop, 1) := by decide +kernel
theorem d1_12 : decode prog_36_method_1_code 12 = .ok (.lload_n 1, 1) := by decide +kernel
theorem d1_13 : decode prog_36_method_1_code 13 = .ok (.lload_n 3, 1) := by decide +kernel
theorem d1_14 : decode prog_36_method_1_code 14 = .ok (.land, 1) := by decide +kernel
theorem d1_15 : decode prog_36_method_1_code 15 = .ok (.lconst 0, 1) := by decide +kernel
theorem d1_16 : decode prog_36_method_1_code 16 = .ok (.lcmp, 1) := by decide +kernel
theorem d1_17 : decode prog_36_method_1_code 17 = .ok (.ifCond .eq 13, 3) := by decide +kernel
theorem d1_30 : decode prog_36_method_1_code 30 = .ok (.aload_n 0, 1) := by decide +kernel
theorem d1_31 : decode prog_36_method_1_code 31 = .ok (.lload_n 1, 1) := by decide +kernel
theorem d1_32 : decode prog_36_method_1_code 32 = .ok (.putfield 24, 3) := by decide +kernel
theorem d1_35 : decode prog_36_method_1_code 35 = .ok (.aload_n 0, 1) := by decide +kernel
theorem d1_36 : decode prog_36_method_1_code 36 = .ok (.lload_n 3, 1) := by decide +kernel
theorem d1_37 : decode prog_36_method_1_code 37 = .ok (.putfield 28, 3) := by decide +kernel
theorem d1_40 : decode prog_36_method_1_code 40 = .ok (.aload_n 0, 1) := by decide +kernel
theorem d1_41 : decode prog_36_method_1_code 41 = .ok (.aload 5, 2) := by decide +kernel
theorem d1_43 : decode prog_36_method_1_code 43 = .ok (.putfield 31, 3) := by decide +kernel
theorem d1_46 : decode prog_36_method_1_code 46 = .ok (.return_, 1) := by decide +kernel
theorem ef_1 (m : MethodId) (x0 : Addr) (x1 : Int64) (x2 : Int64) (x3 : Addr) : entryFrame m #[(.ref x0), (.long x1), (.long x2), (.ref x3)] 6 = mkF m 0 #[.val (.ref x0), .val (.long x1), .second, .val (.long x2), .second, .val (.ref x3)] [] := by first | (simp [entryFrame, mkF, argsToLocals, Value.category]; done) | rfl
def Q1 (Z : State) (a1 : Addr) (q2 : Int64) (q3 : Int64) (a4 : Addr) (u1 : Value) (u2 : Value) (u3 : Value) (h0 : Heap) (n0 : Nat) (v : Option Value) (h : Heap) (L : List Loc) : Prop := v = none ∧ Fr n0 L ∧ Keep h0 h [a1] ∧ Exa Z h a1 "com/example/tabuleiro/tabuleiro/othello/OthelloPosition" ∧ Fld Z h a1 "com/example/tabuleiro/tabuleiro/othello/OthelloPosition" "black" "J" (.long q2) ∧ Fld Z h a1 "com/example/tabuleiro/tabuleiro/othello/OthelloPosition" "white" "J" (.long q3) ∧ Fld Z h a1 "com/example/tabuleiro/tabuleiro/othello/OthelloPosition" "toMove" "Lcom/example/tabuleiro/tabuleiro/game/Colour;" (.ref a4)
set_option maxRecDepth 65536 in
set_option maxHeartbeats 40000000 in
theorem rm1 (l : Launch) (Z : State) (a0 : Array Value) (hw : ∀ d ∈ tables_1, d.before a0 Z = true) (ws : List Jvm.Cond) (a1 : Addr) (q2 : Int64) (q3 : Int64) (a4 : Addr) (u1 : Value) (u2 : Value) (u3 : Value) (h0 : Heap) (n0 : Nat) (Z0 : n0 ≤ h0.size) (E_a1 : Exa Z h0 a1 "com/example/tabuleiro/tabuleiro/othello/OthelloPosition") (F_black : Fld Z h0 a1 "com/example/tabuleiro/tabuleiro/othello/OthelloPosition" "black" "J" u1) (F_white : Fld Z h0 a1 "com/example/tabuleiro/tabuleiro/othello/OthelloPosition" "white" "J" u2) (F_toMove : Fld Z h0 a1 "com/example/tabuleiro/tabuleiro/othello/OthelloPosition" "toMove" "Lcom/example/tabuleiro/tabuleiro/game/Colour;" u3) (g_a1 : n0 ≤ a1) (hbw : (lcmpW (q2 &&& q3) (0 : Int64)) = (0 : Int32)) :
    MetFree l (⟨"com/example/tabuleiro/tabuleiro/othello/OthelloPosition", "<init>", "(JJLcom/example/tabuleiro/tabuleiro/game/Colour;)V"⟩ : MethodName) (head1 (Jvm.Cond.code (⟨"com/example/tabuleiro/tabuleiro/othello/OthelloPosition", "<init>", "(JJLcom/example/tabuleiro/tabuleiro/game/Colour;)V"⟩ : MethodName) prog_36_method_1_code 6 none :: ws) ({ frames := 2, cells := 2, slots := 28, locals := 24 } : Room)) (fun a U => a = #[(.ref a1), (.long q2), (.long q3), (.ref a4)] ∧ Z.Warmed39 U.vm ∧ U.heap = h0) (fun _ _ _ _ _ => True) (fun _ U o U' => ∃ v L, o = .returned v ∧ Q1 Z a1 q2 q3 a4 u1 u2 u3 h0 n0 v U'.heap L ∧ ReturnedEndW U o U' L ({ frames := 2, cells := 2, slots := 28, locals := 24 } : Room).cells ({ frames := 2, cells := 2, slots := 28, locals := 24 } : Room).slots) := by
  refine MetFree.of_bodySF (plainFor_of_name pn_5) hisR ?_
  intro p e s m args below meth c s₁ Bd hml0 hP hK
  obtain ⟨rfl, hZ, hh⟩ := hP
  have hx := Bd.exec
  have hby := Bd.bytes
  have hml : c.maxLocals = 6 := hml0
  have hown : s.vm.findClass "com/example/tabuleiro/tabuleiro/othello/OthelloPosition" = some m.cls := findClass_of_methodNamed Bd.named
  have hnm := (name_of_methodNamed Bd.named Bd.method).1
  have hret := Bd.returns
  have hlocks : meth.locks = false := Bd.notSynchronized
  have X0 : Stand p l e ({ frames := 2, cells := 2, slots := 28, locals := 24 } : Room) s m #[(.ref a1), (.long q2), (.long q3), (.ref a4)] below meth c s₁ [] 0 0 := Stand.of_body Bd
  have e0 : s₁.heap = h0 := by rw [← hh, Bd.state]; rfl
  have N0 := Fr.nil n0
  have hS0 : s.Since s.vm h0.size := (State.WarmedH.refl s).since _
  have SK0 : h0.size ≤ h0.size := Nat.le_refl _
  have pre0 : ∀ t, Steps p.tables e below (s₁.setTop (mkF m 0 #[.val (.ref a1), .val (.long q2), .second, .val (.long q3), .second, .val (.ref a4)] [])) t → Steps p.tables e below (s₁.setTop (entryFrame m #[(.ref a1), (.long q2), (.long q3), (.ref a4)] 6)) t := fun t k => castTop (ef_1 m a1 q2 q3 a4) k
  have pre56 : ∀ t, Steps p.tables e below (s₁.setTop (mkF m 1 #[.val (.ref a1), .val (.long q2), .second, .val (.long q3), .second, .val (.ref a4)] [(.ref a1)])) t → Steps p.tables e below (s₁.setTop (entryFrame m #[(.ref a1), (.long q2), (.long q3), (.ref a4)] 6)) t := by
    intro t k
    refine pre0 _ ?_
    show Steps p.tables e below (s₁.setTop (mkF m 0 #[.val (.ref a1), .val (.long q2), .second, .val (.long q3), .second, .val (.ref a4)] [])) _
    refine XS.aloadN X0.here hx rfl (hb hby d1_0) rfl rfl ?_
    exact k
  obtain ⟨_, _, ⟨T57, L57, k57, n57⟩, -, X57, ⟨Lc57, hQ57, l57, y57, z57⟩, st57⟩ := X0.specialBack hx (y := (⟨"java/lang/Record", "<init>", "()V"⟩ : MethodName)) rfl hown (mvT hZ (hw _ (List.mem_of_getElem? (i := 10) rfl))) (mvT hZ (hw _ (List.mem_of_getElem? (i := 11) rfl))) (mvT hZ (hw _ (List.mem_of_getElem? (i := 14) rfl))) (by decide) (backOf (W := 0) (rm2 l Z a0 hw [] a1 h0 n0 Z0 ) hZ (hw _ (List.mem_of_getElem? (i := 14) rfl)) (hw _ (List.mem_of_getElem? (i := 13) rfl)) (by decide) (by decide)) (g := (mkF m 1 #[.val (.ref a1), .val (.long q2), .second, .val (.long q3), .second, .val (.ref a4)] [(.ref a1)])) rfl (by rw [hml]; rfl) (Steps.refl _) (a := a1) (argsL := []) (rest := []) (lenOf pd___V rfl) rfl (by show 2 * 0 + _ ≤ _; exact Nat.le_of_eq rfl) (hb hby d1_1) (fun _ _ => ⟨rfl, e0, (by decide : 0 + 0 ≤ _), (by decide : 0 + 0 ≤ _)⟩)
  dsimp only [Pt.U, Pt.locs, Pt.cells, Pt.slots] at X57 l57 y57 z57 st57 hQ57
  subst l57 y57 z57
  obtain ⟨rfl, N57q, e57⟩ := hQ57
  have N57 := Fr.app N0 N57q
  have pre58 : ∀ t, Steps p.tables e below (T57.setTop (mkF m 4 #[.val (.ref a1), .val (.long q2), .second, .val (.long q3), .second, .val (.ref a4)] [])) t → Steps p.tables e below (s₁.setTop (entryFrame m #[(.ref a1), (.long q2), (.long q3), (.ref a4)] 6)) t := by
    intro t k
    refine pre56 _ ?_
    show Steps p.tables e below (s₁.setTop (mkF m 1 #[.val (.ref a1), .val (.long q2), .second, .val (.long q3), .second, .val (.ref a4)] [(.ref a1)])) _
    refine st57.trans ?_
    exact k
  have pre59 : ∀ t, Steps p.tables e below (T57.setTop (mkF m 6 #[.val (.ref a1), .val (.long q2), .second, .val (.long q3), .second, .val (.ref a4)] [(.ref a4)])) t → Steps p.tables e below (s₁.setTop (entryFrame m #[(.ref a1), (.long q2), (.long q3), (.ref a4)] 6)) t := by
    intro t k
    refine pre58 _ ?_
    show Steps p.tables e below (T57.setTop (mkF m 4 #[.val (.ref a1), .val (.long q2), .second, .val (.long q3), .second, .val (.ref a4)] [])) _
    refine XS.aload X57.here hx rfl (hb hby d1_4) rfl rfl ?_
    exact k
  obtain ⟨l60, T60, h60, kk60, X60, e60, E60, hS60, sk60, hZ60, hown60, st60⟩ := ldcS (s := s) (vm0 := s.vm) X57 hx hZ hown (hw _ (List.mem_of_getElem? (i := 18) rfl)) (own_wS hw) e57 hS0 SK0 (g := (mkF m 6 #[.val (.ref a1), .val (.long q2), .second, .val (.long q3), .second, .val (.ref a4)] [(.ref a4)])) rfl (hb hby d1_6) (n := 24) (by decide) (by decide) (by decide) (by decide)
  have Z61 : n0 ≤ h60.size := Nat.le_trans Z0 E60.1
  have KP62 := (Keep.refl h0 [a1]).ext E60
  have pre63 : ∀ t, Steps p.tables e below (T60.setTop (mkF m 8 #[.val (.ref a1), .val (.long q2), .second, .val (.long q3), .second, .val (.ref a4)] [(.ref l60), (.ref a4)])) t → Steps p.tables e below (s₁.setTop (entryFrame m #[(.ref a1), (.long q2), (.long q3), (.ref a4)] 6)) t := by
    intro t k
    refine pre59 _ ?_
    show Steps p.tables e below (T57.setTop (mkF m 6 #[.val (.ref a1), .val (.long q2), .second, .val (.long q3), .second, .val (.ref a4)] [(.ref a4)])) _
    refine st60 _ ?_
    exact k
  obtain ⟨_, _, ⟨T64, L64, k64, n64⟩, -, X64, ⟨Lc64, hQ64, l64, y64, z64⟩, st64⟩ := Jvm.LawKit.callS X60 hx (y := (⟨"java/util/Objects", "requireNonNull", "(Ljava/lang/Object;Ljava/lang/String;)Ljava/lang/Object;"⟩ : MethodName)) hown60 (mvT hZ60 (hw _ (List.mem_of_getElem? (i := 26) rfl))) (mvT hZ60 (hw _ (List.mem_of_getElem? (i := 27) rfl))) (mvT hZ60 (hw _ (List.mem_of_getElem? (i := 28) rfl))) (mvT hZ60 (hw _ (List.mem_of_getElem? (i := 29) rfl))) (by decide) (backOf (W := 0) (rm4 l Z a0 hw [] a4 l60 h60 n0 Z61 ) hZ60 (hw _ (List.mem_of_getElem? (i := 29) rfl)) (hw _ (List.mem_of_getElem? (i := 28) rfl)) (by decide) (by decide)) (g := (mkF m 8 #[.val (.ref a1), .val (.long q2), .second, .val (.long q3), .second, .val (.ref a4)] [(.ref l60), (.ref a4)])) rfl (by rw [hml]; rfl) (argsL := [(.ref a4), (.ref l60)]) (rest := []) (lenOf pd__Ljava_lang_Object_Ljava_lang_String__Ljava_lang_Object_ rfl) rfl (by show 2 * 0 + _ ≤ _; exact Nat.le_of_eq rfl) (hb hby d1_8) (fun _ _ => ⟨rfl, e60, (by decide : 2 + 0 ≤ _), (by decide : 28 + 0 ≤ _)⟩)
  dsimp only [Pt.U, Pt.locs, Pt.cells, Pt.slots] at X64 l64 y64 z64 st64 hQ64
  subst l64 y64 z64
  obtain ⟨rfl, N64q, e64⟩ := hQ64
  have N64 := Fr.app N57 N64q
  have pre65 : ∀ t, Steps p.tables e below (T64.setTop (mkF m 11 #[.val (.ref a1), .val (.long q2), .second, .val (.long q3), .second, .val (.ref a4)] [(.ref (F4 a4))])) t → Steps p.tables e below (s₁.setTop (entryFrame m #[(.ref a1), (.long q2), (.long q3), (.ref a4)] 6)) t := by
    intro t k
    refine pre63 _ ?_
    show Steps p.tables e below (T60.setTop (mkF m 8 #[.val (.ref a1), .val (.long q2), .second, .val (.long q3), .second, .val (.ref a4)] [(.ref l60), (.ref a4)])) _
    refine st64 _ ?_
    exact k
  have pre66 : ∀ t, Steps p.tables e below (T64.setTop (mkF m 17 #[.val (.ref a1), .val (.long q2), .second, .val (.long q3), .second, .val (.ref a4)] [(.int (lcmpW (q2 &&& q3) (0 : Int64)))])) t → Steps p.tables e below (s₁.setTop (entryFrame m #[(.ref a1), (.long q2), (.long q3), (.ref a4)] 6)) t := by
    intro t k
    refine pre65 _ ?_
    show Steps p.tables e below (T64.setTop (mkF m 11 #[.val (.ref a1), .val (.long q2), .second, .val (.long q3), .second, .val (.ref a4)] [(.ref (F4 a4))])) _
    refine XS.pop X64.here hx rfl (hb hby d1_11) rfl rfl ?_
    show Steps p.tables e below (T64.setTop (mkF m 12 #[.val (.ref a1), .val (.long q2), .second, .val (.long q3), .second, .val (.ref a4)] [])) _
    refine XS.lloadN X64.here hx rfl (hb hby d1_12) rfl ?_
    show Steps p.tables e below (T64.setTop (mkF m 13 #[.val (.ref a1), .val (.long q2), .second, .val (.long q3), .second, .val (.ref a4)] [(.long q2)])) _
    refine XS.lloadN X64.here hx rfl (hb hby d1_13) rfl ?_
    show Steps p.tables e below (T64.setTop (mkF m 14 #[.val (.ref a1), .val (.long q2), .second, .val (.long q3), .second, .val (.ref a4)] [(.long q3), (.long q2)])) _
    refine XS.land X64.here hx rfl (hb hby d1_14) rfl ?_
    show Steps p.tables e below (T64.setTop (mkF m 15 #[.val (.ref a1), .val (.long q2), .second, .val (.long q3), .second, .val (.ref a4)] [(.long (q2 &&& q3))])) _
    refine XS.lconst X64.here hx rfl (hb hby d1_15) ?_
    show Steps p.tables e below (T64.setTop (mkF m 16 #[.val (.ref a1), .val (.long q2), .second, .val (.long q3), .second, .val (.ref a4)] [(.long (0 : Int64)), (.long (q2 &&& q3))])) _
    refine XS.lcmp X64.here hx rfl (hb hby d1_16) rfl ?_
    exact k
  have pre68 : ∀ t, Steps p.tables e below (T64.setTop (mkF m 30 #[.val (.ref a1), .val (.long q2), .second, .val (.long q3), .second, .val (.ref a4)] [])) t → Steps p.tables e below (s₁.setTop (entryFrame m #[(.ref a1), (.long q2), (.long q3), (.ref a4)] 6)) t := by
    intro t k
    refine pre66 _ ?_
    show Steps p.tables e below (T64.setTop (mkF m 17 #[.val (.ref a1), .val (.long q2), .second, .val (.long q3), .second, .val (.ref a4)] [(.int (lcmpW (q2 &&& q3) (0 : Int64)))])) _
    refine XS.ifYes X64.here hx rfl (pc0 := 17) (pc' := 30) rfl (hb hby d1_17) rfl ((if0 _ _).trans (teq hbw).1) (by decide) (by decide) ?_
    exact k
  have pre69 : ∀ t, Steps p.tables e below (T64.setTop (mkF m 32 #[.val (.ref a1), .val (.long q2), .second, .val (.long q3), .second, .val (.ref a4)] [(.long q2), (.ref a1)])) t → Steps p.tables e below (s₁.setTop (entryFrame m #[(.ref a1), (.long q2), (.long q3), (.ref a4)] 6)) t := by
    intro t k
    refine pre68 _ ?_
    show Steps p.tables e below (T64.setTop (mkF m 30 #[.val (.ref a1), .val (.long q2), .second, .val (.long q3), .second, .val (.ref a4)] [])) _
    refine XS.aloadN X64.here hx rfl (hb hby d1_30) rfl rfl ?_
    show Steps p.tables e below (T64.setTop (mkF m 31 #[.val (.ref a1), .val (.long q2), .second, .val (.long q3), .second, .val (.ref a4)] [(.ref a1)])) _
    refine XS.lloadN X64.here hx rfl (hb hby d1_31) rfl ?_
    exact k
  obtain ⟨T70, h70, X70, e70, W70, st70⟩ := putF X64 hx hZ60 hown60 (host := "") (Or.inl (hw _ (List.mem_of_getElem? (i := 30) rfl))) Via.refl e64 (F_black.ext E60) (E_a1.ext E60) (Or.inr ⟨(hw _ (List.mem_of_getElem? (i := 31) rfl)), rfl, hnm⟩) (hw _ (List.mem_of_getElem? (i := 5) rfl)) (ty := .long) (by decide) rfl rfl (g := (mkF m 32 #[.val (.ref a1), .val (.long q2), .second, .val (.long q3), .second, .val (.ref a4)] [(.long q2), (.ref a1)])) rfl rfl (hb hby d1_32)
  have Fw70 := (F_black.ext E60).same W70
  have Z71 : n0 ≤ h70.size := Nat.le_trans Z61 (Keep.of_wr W70).1
  have K72 := Nat.le_trans sk60 (Keep.of_wr W70).1
  have KP73 := KP62.wr W70 (Or.inl (List.mem_of_getElem? (i := 0) rfl))
  have NN70 := Fr.snoc X70 N64 g_a1
  have pre74 : ∀ t, Steps p.tables e below (T70.setTop (mkF m 35 #[.val (.ref a1), .val (.long q2), .second, .val (.long q3), .second, .val (.ref a4)] [])) t → Steps p.tables e below (s₁.setTop (entryFrame m #[(.ref a1), (.long q2), (.long q3), (.ref a4)] 6)) t := by
    intro t k
    refine pre69 _ ?_
    show Steps p.tables e below (T64.setTop (mkF m 32 #[.val (.ref a1), .val (.long q2), .second, .val (.long q3), .second, .val (.ref a4)] [(.long q2), (.ref a1)])) _
    refine st70 _ ?_
    exact k
  have pre75 : ∀ t, Steps p.tables e below (T70.setTop (mkF m 37 #[.val (.ref a1), .val (.long q2), .second, .val (.long q3), .second, .val (.ref a4)] [(.long q3), (.ref a1)])) t → Steps p.tables e below (s₁.setTop (entryFrame m #[(.ref a1), (.long q2), (.long q3), (.ref a4)] 6)) t := by
    intro t k
    refine pre74 _ ?_
    show Steps p.tables e below (T70.setTop (mkF m 35 #[.val (.ref a1), .val (.long q2), .second, .val (.long q3), .second, .val (.ref a4)] [])) _
    refine XS.aloadN X70.here hx rfl (hb hby d1_35) rfl rfl ?_
    show Steps p.tables e below (T70.setTop (mkF m 36 #[.val (.ref a1), .val (.long q2), .second, .val (.long q3), .second, .val (.ref a4)] [(.ref a1)])) _
    refine XS.lloadN X70.here hx rfl (hb hby d1_36) rfl ?_
    exact k
  obtain ⟨T76, h76, X76, e76, W76, st76⟩ := putF X70 hx hZ60 hown60 (host := "") (Or.inl (hw _ (List.mem_of_getElem? (i := 32) rfl))) Via.refl e70 ((F_white.ext E60).other W70 (Or.inr (slot_ne (Or.inr (hw _ (List.mem_of_getElem? (i := 33) rfl))) (Or.inr (hw _ (List.mem_of_getElem? (i := 31) rfl))) (by decide) (t := .long) (t' := .long) (by decide) (by decide)))) ((E_a1.ext E60).wr W70) (Or.inr ⟨(hw _ (List.mem_of_getElem? (i := 33) rfl)), rfl, hnm⟩) (hw _ (List.mem_of_getElem? (i := 5) rfl)) (ty := .long) (by decide) rfl rfl (g := (mkF m 37 #[.val (.ref a1), .val (.long q2), .second, .val (.long q3), .second, .val (.ref a4)] [(.long q3), (.ref a1)])) rfl rfl (hb hby d1_37)
  have Fw76 := ((F_white.ext E60).other W70 (Or.inr (slot_ne (Or.inr (hw _ (List.mem_of_getElem? (i := 33) rfl))) (Or.inr (hw _ (List.mem_of_getElem? (i := 31) rfl))) (by decide) (t := .long) (t' := .long) (by decide) (by decide)))).same W76
  have Z77 : n0 ≤ h76.size := Nat.le_trans Z71 (Keep.of_wr W76).1
  have K78 := Nat.le_trans K72 (Keep.of_wr W76).1
  have KP79 := KP73.wr W76 (Or.inl (List.mem_of_getElem? (i := 0) rfl))
  have NN76 := Fr.snoc X76 NN70 g_a1
  have pre80 : ∀ t, Steps p.tables e below (T76.setTop (mkF m 40 #[.val (.ref a1), .val (.long q2), .second, .val (.long q3), .second, .val (.ref a4)] [])) t → Steps p.tables e below (s₁.setTop (entryFrame m #[(.ref a1), (.long q2), (.long q3), (.ref a4)] 6)) t := by
    intro t k
    refine pre75 _ ?_
    show Steps p.tables e below (T70.setTop (mkF m 37 #[.val (.ref a1), .val (.long q2), .second, .val (.long q3), .second, .val (.ref a4)] [(.long q3), (.ref a1)])) _
    refine st76 _ ?_
    exact k
  have pre81 : ∀ t, Steps p.tables e below (T76.setTop (mkF m 43 #[.val (.ref a1), .val (.long q2), .second, .val (.long q3), .second, .val (.ref a4)] [(.ref a4), (.ref a1)])) t → Steps p.tables e below (s₁.setTop (entryFrame m #[(.ref a1), (.long q2), (.long q3), (.ref a4)] 6)) t := by
    intro t k
    refine pre80 _ ?_
    show Steps p.tables e below (T76.setTop (mkF m 40 #[.val (.ref a1), .val (.long q2), .second, .val (.long q3), .second, .val (.ref a4)] [])) _
    refine XS.aloadN X76.here hx rfl (hb hby d1_40) rfl rfl ?_
    show Steps p.tables e below (T76.setTop (mkF m 41 #[.val (.ref a1), .val (.long q2), .second, .val (.long q3), .second, .val (.ref a4)] [(.ref a1)])) _
    refine XS.aload X76.here hx rfl (hb hby d1_41) rfl rfl ?_
    exact k
  obtain ⟨T82, h82, X82, e82, W82, st82⟩ := putF X76 hx hZ60 hown60 (host := "") (Or.inl (hw _ (List.mem_of_getElem? (i := 34) rfl))) Via.refl e76 (((F_toMove.ext E60).other W70 (Or.inr (slot_ne (Or.inr (hw _ (List.mem_of_getElem? (i := 35) rfl))) (Or.inr (hw _ (List.mem_of_getElem? (i := 31) rfl))) (by decide) (t := (.object "com/example/tabuleiro/tabuleiro/game/Colour")) (t' := .long) (by decide) (by decide)))).other W76 (Or.inr (slot_ne (Or.inr (hw _ (List.mem_of_getElem? (i := 35) rfl))) (Or.inr (hw _ (List.mem_of_getElem? (i := 33) rfl))) (by decide) (t := (.object "com/example/tabuleiro/tabuleiro/game/Colour")) (t' := .long) (by decide) (by decide)))) (((E_a1.ext E60).wr W70).wr W76) (Or.inr ⟨(hw _ (List.mem_of_getElem? (i := 35) rfl)), rfl, hnm⟩) (hw _ (List.mem_of_getElem? (i := 5) rfl)) (ty := (.object "com/example/tabuleiro/tabuleiro/game/Colour")) (by decide) rfl rfl (g := (mkF m 43 #[.val (.ref a1), .val (.long q2), .second, .val (.long q3), .second, .val (.ref a4)] [(.ref a4), (.ref a1)])) rfl rfl (hb hby d1_43)
  have Fw82 := (((F_toMove.ext E60).other W70 (Or.inr (slot_ne (Or.inr (hw _ (List.mem_of_getElem? (i := 35) rfl))) (Or.inr (hw _ (List.mem_of_getElem? (i := 31) rfl))) (by decide) (t := (.object "com/example/tabuleiro/tabuleiro/game/Colour")) (t' := .long) (by decide) (by decide)))).other W76 (Or.inr (slot_ne (Or.inr (hw _ (List.mem_of_getElem? (i := 35) rfl))) (Or.inr (hw _ (List.mem_of_getElem? (i := 33) rfl))) (by decide) (t := (.object "com/example/tabuleiro/tabuleiro/game/Colour")) (t' := .long) (by decide) (by decide)))).same W82
  have Z83 : n0 ≤ h82.size := Nat.le_trans Z77 (Keep.of_wr W82).1
  have K84 := Nat.le_trans K78 (Keep.of_wr W82).1
  have KP85 := KP79.wr W82 (Or.inl (List.mem_of_getElem? (i := 0) rfl))
  have NN82 := Fr.snoc X82 NN76 g_a1
  have pre86 : ∀ t, Steps p.tables e below (T82.setTop (mkF m 46 #[.val (.ref a1), .val (.long q2), .second, .val (.long q3), .second, .val (.ref a4)] [])) t → Steps p.tables e below (s₁.setTop (entryFrame m #[(.ref a1), (.long q2), (.long q3), (.ref a4)] 6)) t := by
    intro t k
    refine pre81 _ ?_
    show Steps p.tables e below (T76.setTop (mkF m 43 #[.val (.ref a1), .val (.long q2), .second, .val (.long q3), .second, .val (.ref a4)] [(.ref a4), (.ref a1)])) _
    refine st82 _ ?_
    exact k
  obtain ⟨fs, hr, hrun, hended, hsame⟩ := Stand.leaveW (s := s) (vm₁ := T60.vm) X82 hS60 (by rw [e82]; exact K84) (v := none) (fun _ => rfl)
  refine ⟨_, _, pre86 _ ?_, hrun, hended, _, _, rfl, ?_, ⟨hsame.1, hsame.2.1, hsame.2.2.1, hsame.2.2.2.mono (by decide) (by decide)⟩⟩
  · show Steps p.tables e below (T82.setTop (mkF m 46 #[.val (.ref a1), .val (.long q2), .second, .val (.long q3), .second, .val (.ref a4)] [])) _
    exact X82.returnOut hx hret (hb hby d1_46) hr
  · show Q1 Z a1 q2 q3 a4 u1 u2 u3 h0 n0 _ T82.heap _
    rw [e82]
    exact ⟨rfl, NN82, KP85, ((((E_a1.ext E60).wr W70).wr W76).wr W82), ((Fw70.other W76 (Or.inr (slot_ne (Or.inr (hw _ (List.mem_of_getElem? (i := 31) rfl))) (Or.inr (hw _ (List.mem_of_getElem? (i := 33) rfl))) (by decide) (t := .long) (t' := .long) (by decide) (by decide)))).other W82 (Or.inr (slot_ne (Or.inr (hw _ (List.mem_of_getElem? (i := 31) rfl))) (Or.inr (hw _ (List.mem_of_getElem? (i := 35) rfl))) (by decide) (t := .long) (t' := (.object "com/example/tabuleiro/tabuleiro/game/Colour")) (by decide) (by decide)))), (Fw76.other W82 (Or.inr (slot_ne (Or.inr (hw _ (List.mem_of_getElem? (i := 33) rfl))) (Or.inr (hw _ (List.mem_of_getElem? (i := 35) rfl))) (by decide) (t := .long) (t' := (.object "com/example/tabuleiro/tabuleiro/game/Colour")) (by decide) (by decide)))), Fw82⟩
theorem pd__JJLcom_example_tabuleiro_tabuleiro_game_Colour__V : parseMethodDescriptor "(JJLcom/example/tabuleiro/tabuleiro/game/Colour;)V" = some ⟨[.long, .long, (.object "com/example/tabuleiro/tabuleiro/game/Colour")], none⟩ := by decide +kernel
theorem pd__Ljava_lang_Object__Z : parseMethodDescriptor "(Ljava/lang/Object;)Z" = some ⟨[(.object "java/lang/Object")], some .boolean⟩ := by decide +kernel
def F0_96_0 (i8 : Int32) (o9 : Addr) (o10 : Addr) (j11 : Int64) (j13 : Int64) (j15 : Int64) (j17 : Int64) : Int32 :=
  if (((i8.toUInt32 >>> ((2 : Int32) &&& 31).toUInt32).toInt32) &&& (3 : Int32)) = (1 : Int32) then (  if (F5n) = (0 : Int32) then (  (1 : Int32))
  else (  (0 : Int32)))
  else (  if (((i8.toUInt32 >>> ((2 : Int32) &&& 31).toUInt32).toInt32) &&& (3 : Int32)) = (2 : Int32) then (  if (F5o) = (0 : Int32) then (  (1 : Int32))
  else (  (0 : Int32)))
  else (  if (((i8.toUInt32 >>> ((2 : Int32) &&& 31).toUInt32).toInt32) &&& (3 : Int32)) = (3 : Int32) then (  (nar .boolean (F5s j11 j11 j13 j13 o9 o9)))
  else (  if (lcmpW j11 j15) = (0 : Int32) then (  if (lcmpW j13 j17) = (0 : Int32) then (  if o9 = o10 then (  if (F5s j11 j15 j13 j17 o9 o10) = (1 : Int32) then (  if (F5s j15 j11 j17 j13 o10 o9) = (1 : Int32) then (  (1 : Int32))
  else (  (0 : Int32)))
  else (  (0 : Int32)))
  else (  if (F5s j11 j15 j13 j17 o9 o10) = (0 : Int32) then (  if (F5s j15 j11 j17 j13 o10 o9) = (0 : Int32) then (  (1 : Int32))
  else (  (0 : Int32)))
  else (  (0 : Int32))))
  else (  if (F5s j11 j15 j13 j17 o9 o10) = (0 : Int32) then (  if (F5s j15 j11 j17 j13 o10 o9) = (0 : Int32) then (  (1 : Int32))
  else (  (0 : Int32)))
  else (  (0 : Int32))))
  else (  if (F5s j11 j15 j13 j17 o9 o10) = (0 : Int32) then (  if (F5s j15 j11 j17 j13 o10 o9) = (0 : Int32) then (  (1 : Int32))
  else (  (0 : Int32)))
  else (  (0 : Int32))))))
set_option maxRecDepth 65536 in
set_option maxHeartbeats 40000000 in
theorem pc0_96_0 {p : Program} {l : Launch} {e : Env} {s : State} {m : MethodId} {args : Array Value} {below : List Frame} {meth : Method} {c : Code} {T0 : State} {locs : List Loc} {Z : State} {a0 : Array Value} {h0 : Heap} {n0 : Nat} (j0 : Int64) (j2 : Int64) (j4 : Int64) (j6 : Int64) (i8 : Int32) (o9 : Addr) (o10 : Addr) (j11 : Int64) (j13 : Int64) (j15 : Int64) (j17 : Int64) (wB : Addr) (wW : Addr)
    (X0 : Stand p l e room_1 s m args below meth c T0 locs 0 0) (hx : p.tables.exec = Jvm.exec) (hZ : Z.Warmed39 s.vm) (hw : ∀ d ∈ tables_1, d.before a0 Z = true) (hby : c.code = code) (hml : c.maxLocals = 23) (hown : s.vm.findClass "com/example/tabuleiro/tabuleiro/othello/OthelloPositionEqualsPinLaw" = some m.cls) (hret : meth.sig.returnType = (some .boolean)) (hlocks : meth.locks = false) (e0 : T0.heap = h0) (N0 : Fr n0 locs) (Z0 : n0 ≤ h0.size) (O0 : Old Z n0 h0) (hS0 : s.Since s.vm h0.size) (hp1 : (lcmpW (j11 &&& j13) (0 : Int64)) = (0 : Int32)) (hp2 : (lcmpW (j15 &&& j17) (0 : Int64)) = (0 : Int32)) (E_o9 : Exa Z Z.heap o9 "com/example/tabuleiro/tabuleiro/game/Colour") (E_o10 : Exa Z Z.heap o10 "com/example/tabuleiro/tabuleiro/game/Colour") (S_wB : Sta Z Z.heap "com/example/tabuleiro/tabuleiro/game/Colour" "BLACK" "Lcom/example/tabuleiro/tabuleiro/game/Colour;" (.ref wB)) (S_wW : Sta Z Z.heap "com/example/tabuleiro/tabuleiro/game/Colour" "WHITE" "Lcom/example/tabuleiro/tabuleiro/game/Colour;" (.ref wW)) :
    ∃ s₂ o, Steps p.tables e below (T0.setTop (mkF m 96 #[.val (.long j0), .second, .val (.long j2), .second, .val (.long j4), .second, .val (.long j6), .second, .val (.int i8), .val (.ref o9), .val (.ref o10), .val (.long j11), .second, .val (.long j13), .second, .val (.long j15), .second, .val (.long j17), .second, .unset, .unset, .unset, .unset] [])) s₂ ∧ s₂.status = .running ∧ Ended s₂ below o ∧ ∃ v L, o = .returned v ∧ (v = some (.int (F0_96_0 i8 o9 o10 j11 j13 j15 j17)) ∧ Fr n0 L) ∧ ReturnedEndW s o s₂ L room_1.cells room_1.slots := by
  have SK0 : h0.size ≤ h0.size := Nat.le_refl _
  have pre0 : ∀ t, Steps p.tables e below (T0.setTop (mkF m 96 #[.val (.long j0), .second, .val (.long j2), .second, .val (.long j4), .second, .val (.long j6), .second, .val (.int i8), .val (.ref o9), .val (.ref o10), .val (.long j11), .second, .val (.long j13), .second, .val (.long j15), .second, .val (.long j17), .second, .unset, .unset, .unset, .unset] [])) t → Steps p.tables e below (T0.setTop (mkF m 96 #[.val (.long j0), .second, .val (.long j2), .second, .val (.long j4), .second, .val (.long j6), .second, .val (.int i8), .val (.ref o9), .val (.ref o10), .val (.long j11), .second, .val (.long j13), .second, .val (.long j15), .second, .val (.long j17), .second, .unset, .unset, .unset, .unset] [])) t := fun _ k => k
  obtain ⟨T104, h104, X104, e104, E104, A104, D104, -, st104⟩ := newO X0 hx hZ hown (hw _ (List.mem_of_getElem? (i := 4) rfl)) (hw _ (List.mem_of_getElem? (i := 5) rfl)) (hw _ (List.mem_of_getElem? (i := 6) rfl)) e0 (g := (mkF m 96 #[.val (.long j0), .second, .val (.long j2), .second, .val (.long j4), .second, .val (.long j6), .second, .val (.int i8), .val (.ref o9), .val (.ref o10), .val (.long j11), .second, .val (.long j13), .second, .val (.long j15), .second, .val (.long j17), .second, .unset, .unset, .unset, .unset] [])) rfl (hb hby at_96) (by decide) (by decide)
  obtain ⟨b104, g104⟩ : ∃ z, z = h0.size := ⟨_, rfl⟩
  rw [← g104] at A104 D104 st104
  have g_b104 : n0 ≤ b104 := Nat.le_trans Z0 (Nat.le_of_eq g104.symm)
  have O105 := O0.ext E104
  have Z106 : n0 ≤ h104.size := Nat.le_trans Z0 E104.1
  have K107 := Nat.le_trans SK0 E104.1
  have F_black_b104 : Fld Z h104 b104 "com/example/tabuleiro/tabuleiro/othello/OthelloPosition" "black" "J" (.long (0 : Int64)) := D104 (Or.inr (hw _ (List.mem_of_getElem? (i := 31) rfl))) (ty := .long) (by decide)
  have F_white_b104 : Fld Z h104 b104 "com/example/tabuleiro/tabuleiro/othello/OthelloPosition" "white" "J" (.long (0 : Int64)) := D104 (Or.inr (hw _ (List.mem_of_getElem? (i := 33) rfl))) (ty := .long) (by decide)
  have F_toMove_b104 : Fld Z h104 b104 "com/example/tabuleiro/tabuleiro/othello/OthelloPosition" "toMove" "Lcom/example/tabuleiro/tabuleiro/game/Colour;" .null := D104 (Or.inr (hw _ (List.mem_of_getElem? (i := 35) rfl))) (ty := (.object "com/example/tabuleiro/tabuleiro/game/Colour")) (by decide)
  have pre108 : ∀ t, Steps p.tables e below (T104.setTop (mkF m 99 #[.val (.long j0), .second, .val (.long j2), .second, .val (.long j4), .second, .val (.long j6), .second, .val (.int i8), .val (.ref o9), .val (.ref o10), .val (.long j11), .second, .val (.long j13), .second, .val (.long j15), .second, .val (.long j17), .second, .unset, .unset, .unset, .unset] [(.ref b104)])) t → Steps p.tables e below (T0.setTop (mkF m 96 #[.val (.long j0), .second, .val (.long j2), .second, .val (.long j4), .second, .val (.long j6), .second, .val (.int i8), .val (.ref o9), .val (.ref o10), .val (.long j11), .second, .val (.long j13), .second, .val (.long j15), .second, .val (.long j17), .second, .unset, .unset, .unset, .unset] [])) t := by
    intro t k
    refine pre0 _ ?_
    show Steps p.tables e below (T0.setTop (mkF m 96 #[.val (.long j0), .second, .val (.long j2), .second, .val (.long j4), .second, .val (.long j6), .second, .val (.int i8), .val (.ref o9), .val (.ref o10), .val (.long j11), .second, .val (.long j13), .second, .val (.long j15), .second, .val (.long j17), .second, .unset, .unset, .unset, .unset] [])) _
    refine st104 _ ?_
    exact k
  have pre109 : ∀ t, Steps p.tables e below (T104.setTop (mkF m 106 #[.val (.long j0), .second, .val (.long j2), .second, .val (.long j4), .second, .val (.long j6), .second, .val (.int i8), .val (.ref o9), .val (.ref o10), .val (.long j11), .second, .val (.long j13), .second, .val (.long j15), .second, .val (.long j17), .second, .unset, .unset, .unset, .unset] [(.ref o9), (.long j13), (.long j11), (.ref b104), (.ref b104)])) t → Steps p.tables e below (T0.setTop (mkF m 96 #[.val (.long j0), .second, .val (.long j2), .second, .val (.long j4), .second, .val (.long j6), .second, .val (.int i8), .val (.ref o9), .val (.ref o10), .val (.long j11), .second, .val (.long j13), .second, .val (.long j15), .second, .val (.long j17), .second, .unset, .unset, .unset, .unset] [])) t := by
    intro t k
    refine pre108 _ ?_
    show Steps p.tables e below (T104.setTop (mkF m 99 #[.val (.long j0), .second, .val (.long j2), .second, .val (.long j4), .second, .val (.long j6), .second, .val (.int i8), .val (.ref o9), .val (.ref o10), .val (.long j11), .second, .val (.long j13), .second, .val (.long j15), .second, .val (.long j17), .second, .unset, .unset, .unset, .unset] [(.ref b104)])) _
    refine XS.dup X104.here hx rfl (hb hby at_99) rfl rfl ?_
    show Steps p.tables e below (T104.setTop (mkF m 100 #[.val (.long j0), .second, .val (.long j2), .second, .val (.long j4), .second, .val (.long j6), .second, .val (.int i8), .val (.ref o9), .val (.ref o10), .val (.long j11), .second, .val (.long j13), .second, .val (.long j15), .second, .val (.long j17), .second, .unset, .unset, .unset, .unset] [(.ref b104), (.ref b104)])) _
    refine XS.lload X104.here hx rfl (hb hby at_100) rfl ?_
    show Steps p.tables e below (T104.setTop (mkF m 102 #[.val (.long j0), .second, .val (.long j2), .second, .val (.long j4), .second, .val (.long j6), .second, .val (.int i8), .val (.ref o9), .val (.ref o10), .val (.long j11), .second, .val (.long j13), .second, .val (.long j15), .second, .val (.long j17), .second, .unset, .unset, .unset, .unset] [(.long j11), (.ref b104), (.ref b104)])) _
    refine XS.lload X104.here hx rfl (hb hby at_102) rfl ?_
    show Steps p.tables e below (T104.setTop (mkF m 104 #[.val (.long j0), .second, .val (.long j2), .second, .val (.long j4), .second, .val (.long j6), .second, .val (.int i8), .val (.ref o9), .val (.ref o10), .val (.long j11), .second, .val (.long j13), .second, .val (.long j15), .second, .val (.long j17), .second, .unset, .unset, .unset, .unset] [(.long j13), (.long j11), (.ref b104), (.ref b104)])) _
    refine XS.aload X104.here hx rfl (hb hby at_104) rfl rfl ?_
    exact k
  obtain ⟨_, _, ⟨T110, L110, k110, n110⟩, -, X110, sS110, gr110, ⟨Lc110, hQ110, l110, y110, z110⟩, st110⟩ := X104.specialBackS hx (y := (⟨"com/example/tabuleiro/tabuleiro/othello/OthelloPosition", "<init>", "(JJLcom/example/tabuleiro/tabuleiro/game/Colour;)V"⟩ : MethodName)) rfl hown (mvT hZ (hw _ (List.mem_of_getElem? (i := 7) rfl))) (mvT hZ (hw _ (List.mem_of_getElem? (i := 8) rfl))) (mvT hZ (hw _ (List.mem_of_getElem? (i := 9) rfl))) (by decide) (backOfS (W := 1) (rm1 l Z a0 hw [] b104 j11 j13 o9 (.long (0 : Int64)) (.long (0 : Int64)) .null h104 n0 Z106 A104 F_black_b104 F_white_b104 F_toMove_b104 g_b104 hp1) hZ (hw _ (List.mem_of_getElem? (i := 9) rfl)) (hw _ (List.mem_of_getElem? (i := 6) rfl)) (by decide) (by decide)) (g := (mkF m 106 #[.val (.long j0), .second, .val (.long j2), .second, .val (.long j4), .second, .val (.long j6), .second, .val (.int i8), .val (.ref o9), .val (.ref o10), .val (.long j11), .second, .val (.long j13), .second, .val (.long j15), .second, .val (.long j17), .second, .unset, .unset, .unset, .unset] [(.ref o9), (.long j13), (.long j11), (.ref b104), (.ref b104)])) rfl (by rw [hml]; rfl) (Steps.refl _) (a := b104) (argsL := [(.long j11), (.long j13), (.ref o9)]) (rest := [(.ref b104)]) (lenOf pd__JJLcom_example_tabuleiro_tabuleiro_game_Colour__V rfl) rfl (by show 2 * 0 + _ ≤ _; exact Nat.le_of_eq rfl) (hb hby at_106) (fun _ _ => ⟨rfl, e104, (by decide : 1 + 2 ≤ _), (by decide : 3 + 28 ≤ _)⟩)
  dsimp only [Pt.U, Pt.locs, Pt.cells, Pt.slots] at X110 l110 y110 z110 st110 hQ110 sS110 gr110
  subst l110 y110 z110
  obtain ⟨rfl, N110q, K110, E110, F110a, F110b, F110c⟩ := hQ110
  have N110 := Fr.app N0 N110q
  have O111 := O105.keep K110 (allS g_b104 all0)
  have Z112 : n0 ≤ T110.heap.size := Nat.le_trans Z106 K110.1
  have K113 := Nat.le_trans K107 K110.1
  have hS110 := foldS (s := s) (vm0 := s.vm) hS0 (by rw [e104]; exact K107) sS110 gr110
  have hZ110 : Z.Warmed39 (s.setVm T110.vm).vm := State.Warmed39.trans (t := s.setVm s.vm) hZ sS110.1
  have hown110 : (s.setVm T110.vm).vm.findClass "com/example/tabuleiro/tabuleiro/othello/OthelloPositionEqualsPinLaw" = some m.cls := by rw [show (s.setVm T110.vm).vm = T110.vm from rfl, sS110.1.alike.findClass]; exact hown
  have X110 : Stand p l e room_1 (s.setVm T110.vm) m _ below meth c T110 _ _ _ := X110
  have pre114 : ∀ t, Steps p.tables e below (T110.setTop (mkF m 109 #[.val (.long j0), .second, .val (.long j2), .second, .val (.long j4), .second, .val (.long j6), .second, .val (.int i8), .val (.ref o9), .val (.ref o10), .val (.long j11), .second, .val (.long j13), .second, .val (.long j15), .second, .val (.long j17), .second, .unset, .unset, .unset, .unset] [(.ref b104)])) t → Steps p.tables e below (T0.setTop (mkF m 96 #[.val (.long j0), .second, .val (.long j2), .second, .val (.long j4), .second, .val (.long j6), .second, .val (.int i8), .val (.ref o9), .val (.ref o10), .val (.long j11), .second, .val (.long j13), .second, .val (.long j15), .second, .val (.long j17), .second, .unset, .unset, .unset, .unset] [])) t := by
    intro t k
    refine pre109 _ ?_
    show Steps p.tables e below (T104.setTop (mkF m 106 #[.val (.long j0), .second, .val (.long j2), .second, .val (.long j4), .second, .val (.long j6), .second, .val (.int i8), .val (.ref o9), .val (.ref o10), .val (.long j11), .second, .val (.long j13), .second, .val (.long j15), .second, .val (.long j17), .second, .unset, .unset, .unset, .unset] [(.ref o9), (.long j13), (.long j11), (.ref b104), (.ref b104)])) _
    refine st110.trans ?_
    exact k
  have pre115 : ∀ t, Steps p.tables e below (T110.setTop (mkF m 111 #[.val (.long j0), .second, .val (.long j2), .second, .val (.long j4), .second, .val (.long j6), .second, .val (.int i8), .val (.ref o9), .val (.ref o10), .val (.long j11), .second, .val (.long j13), .second, .val (.long j15), .second, .val (.long j17), .second, .val (.ref b104), .unset, .unset, .unset] [])) t → Steps p.tables e below (T0.setTop (mkF m 96 #[.val (.long j0), .second, .val (.long j2), .second, .val (.long j4), .second, .val (.long j6), .second, .val (.int i8), .val (.ref o9), .val (.ref o10), .val (.long j11), .second, .val (.long j13), .second, .val (.long j15), .second, .val (.long j17), .second, .unset, .unset, .unset, .unset] [])) t := by
    intro t k
    refine pre114 _ ?_
    show Steps p.tables e below (T110.setTop (mkF m 109 #[.val (.long j0), .second, .val (.long j2), .second, .val (.long j4), .second, .val (.long j6), .second, .val (.int i8), .val (.ref o9), .val (.ref o10), .val (.long j11), .second, .val (.long j13), .second, .val (.long j15), .second, .val (.long j17), .second, .unset, .unset, .unset, .unset] [(.ref b104)])) _
    refine XS.astore X110.here hx rfl (hb hby at_109) rfl rfl (l' := #[.val (.long j0), .second, .val (.long j2), .second, .val (.long j4), .second, .val (.long j6), .second, .val (.int i8), .val (.ref o9), .val (.ref o10), .val (.long j11), .second, .val (.long j13), .second, .val (.long j15), .second, .val (.long j17), .second, .val (.ref b104), .unset, .unset, .unset]) rfl ?_
    exact k
  obtain ⟨T116, h116, X116, e116, E116, A116, D116, -, st116⟩ := newO X110 hx hZ110 hown110 (hw _ (List.mem_of_getElem? (i := 4) rfl)) (hw _ (List.mem_of_getElem? (i := 5) rfl)) (hw _ (List.mem_of_getElem? (i := 6) rfl)) rfl (g := (mkF m 111 #[.val (.long j0), .second, .val (.long j2), .second, .val (.long j4), .second, .val (.long j6), .second, .val (.int i8), .val (.ref o9), .val (.ref o10), .val (.long j11), .second, .val (.long j13), .second, .val (.long j15), .second, .val (.long j17), .second, .val (.ref b104), .unset, .unset, .unset] [])) rfl (hb hby at_111) (by decide) (by decide)
  obtain ⟨b116, g116⟩ : ∃ z, z = T110.heap.size := ⟨_, rfl⟩
  rw [← g116] at A116 D116 st116
  have g_b116 : n0 ≤ b116 := Nat.le_trans Z112 (Nat.le_of_eq g116.symm)
  have ne_b104_b116 : b104 ≠ b116 := Nat.ne_of_lt (Nat.lt_of_lt_of_le E110.lt (Nat.le_of_eq g116.symm))
  have O117 := O111.ext E116
  have Z118 : n0 ≤ h116.size := Nat.le_trans Z112 E116.1
  have K119 := Nat.le_trans (Nat.le_refl _) E116.1
  have F_black_b116 : Fld Z h116 b116 "com/example/tabuleiro/tabuleiro/othello/OthelloPosition" "black" "J" (.long (0 : Int64)) := D116 (Or.inr (hw _ (List.mem_of_getElem? (i := 31) rfl))) (ty := .long) (by decide)
  have F_white_b116 : Fld Z h116 b116 "com/example/tabuleiro/tabuleiro/othello/OthelloPosition" "white" "J" (.long (0 : Int64)) := D116 (Or.inr (hw _ (List.mem_of_getElem? (i := 33) rfl))) (ty := .long) (by decide)
  have F_toMove_b116 : Fld Z h116 b116 "com/example/tabuleiro/tabuleiro/othello/OthelloPosition" "toMove" "Lcom/example/tabuleiro/tabuleiro/game/Colour;" .null := D116 (Or.inr (hw _ (List.mem_of_getElem? (i := 35) rfl))) (ty := (.object "com/example/tabuleiro/tabuleiro/game/Colour")) (by decide)
  have pre120 : ∀ t, Steps p.tables e below (T116.setTop (mkF m 114 #[.val (.long j0), .second, .val (.long j2), .second, .val (.long j4), .second, .val (.long j6), .second, .val (.int i8), .val (.ref o9), .val (.ref o10), .val (.long j11), .second, .val (.long j13), .second, .val (.long j15), .second, .val (.long j17), .second, .val (.ref b104), .unset, .unset, .unset] [(.ref b116)])) t → Steps p.tables e below (T0.setTop (mkF m 96 #[.val (.long j0), .second, .val (.long j2), .second, .val (.long j4), .second, .val (.long j6), .second, .val (.int i8), .val (.ref o9), .val (.ref o10), .val (.long j11), .second, .val (.long j13), .second, .val (.long j15), .second, .val (.long j17), .second, .unset, .unset, .unset, .unset] [])) t := by
    intro t k
    refine pre115 _ ?_
    show Steps p.tables e below (T110.setTop (mkF m 111 #[.val (.long j0), .second, .val (.long j2), .second, .val (.long j4), .second, .val (.long j6), .second, .val (.int i8), .val (.ref o9), .val (.ref o10), .val (.long j11), .second, .val (.long j13), .second, .val (.long j15), .second, .val (.long j17), .second, .val (.ref b104), .unset, .unset, .unset] [])) _
    refine st116 _ ?_
    exact k
  have pre121 : ∀ t, Steps p.tables e below (T116.setTop (mkF m 121 #[.val (.long j0), .second, .val (.long j2), .second, .val (.long j4), .second, .val (.long j6), .second, .val (.int i8), .val (.ref o9), .val (.ref o10), .val (.long j11), .second, .val (.long j13), .second, .val (.long j15), .second, .val (.long j17), .second, .val (.ref b104), .unset, .unset, .unset] [(.ref o10), (.long j17), (.long j15), (.ref b116), (.ref b116)])) t → Steps p.tables e below (T0.setTop (mkF m 96 #[.val (.long j0), .second, .val (.long j2), .second, .val (.long j4), .second, .val (.long j6), .second, .val (.int i8), .val (.ref o9), .val (.ref o10), .val (.long j11), .second, .val (.long j13), .second, .val (.long j15), .second, .val (.long j17), .second, .unset, .unset, .unset, .unset] [])) t := by
    intro t k
    refine pre120 _ ?_
    show Steps p.tables e below (T116.setTop (mkF m 114 #[.val (.long j0), .second, .val (.long j2), .second, .val (.long j4), .second, .val (.long j6), .second, .val (.int i8), .val (.ref o9), .val (.ref o10), .val (.long j11), .second, .val (.long j13), .second, .val (.long j15), .second, .val (.long j17), .second, .val (.ref b104), .unset, .unset, .unset] [(.ref b116)])) _
    refine XS.dup X116.here hx rfl (hb hby at_114) rfl rfl ?_
    show Steps p.tables e below (T116.setTop (mkF m 115 #[.val (.long j0), .second, .val (.long j2), .second, .val (.long j4), .second, .val (.long j6), .second, .val (.int i8), .val (.ref o9), .val (.ref o10), .val (.long j11), .second, .val (.long j13), .second, .val (.long j15), .second, .val (.long j17), .second, .val (.ref b104), .unset, .unset, .unset] [(.ref b116), (.ref b116)])) _
    refine XS.lload X116.here hx rfl (hb hby at_115) rfl ?_
    show Steps p.tables e below (T116.setTop (mkF m 117 #[.val (.long j0), .second, .val (.long j2), .second, .val (.long j4), .second, .val (.long j6), .second, .val (.int i8), .val (.ref o9), .val (.ref o10), .val (.long j11), .second, .val (.long j13), .second, .val (.long j15), .second, .val (.long j17), .second, .val (.ref b104), .unset, .unset, .unset] [(.long j15), (.ref b116), (.ref b116)])) _
    refine XS.lload X116.here hx rfl (hb hby at_117) rfl ?_
    show Steps p.tables e below (T116.setTop (mkF m 119 #[.val (.long j0), .second, .val (.long j2), .second, .val (.long j4), .second, .val (.long j6), .second, .val (.int i8), .val (.ref o9), .val (.ref o10), .val (.long j11), .second, .val (.long j13), .second, .val (.long j15), .second, .val (.long j17), .second, .val (.ref b104), .unset, .unset, .unset] [(.long j17), (.long j15), (.ref b116), (.ref b116)])) _
    refine XS.aload X116.here hx rfl (hb hby at_119) rfl rfl ?_
    exact k
  obtain ⟨_, _, ⟨T122, L122, k122, n122⟩, -, X122, sS122, gr122, ⟨Lc122, hQ122, l122, y122, z122⟩, st122⟩ := X116.specialBackS hx (y := (⟨"com/example/tabuleiro/tabuleiro/othello/OthelloPosition", "<init>", "(JJLcom/example/tabuleiro/tabuleiro/game/Colour;)V"⟩ : MethodName)) rfl hown110 (mvT hZ110 (hw _ (List.mem_of_getElem? (i := 7) rfl))) (mvT hZ110 (hw _ (List.mem_of_getElem? (i := 8) rfl))) (mvT hZ110 (hw _ (List.mem_of_getElem? (i := 9) rfl))) (by decide) (backOfS (W := 1) (rm1 l Z a0 hw [] b116 j15 j17 o10 (.long (0 : Int64)) (.long (0 : Int64)) .null h116 n0 Z118 A116 F_black_b116 F_white_b116 F_toMove_b116 g_b116 hp2) hZ110 (hw _ (List.mem_of_getElem? (i := 9) rfl)) (hw _ (List.mem_of_getElem? (i := 6) rfl)) (by decide) (by decide)) (g := (mkF m 121 #[.val (.long j0), .second, .val (.long j2), .second, .val (.long j4), .second, .val (.long j6), .second, .val (.int i8), .val (.ref o9), .val (.ref o10), .val (.long j11), .second, .val (.long j13), .second, .val (.long j15), .second, .val (.long j17), .second, .val (.ref b104), .unset, .unset, .unset] [(.ref o10), (.long j17), (.long j15), (.ref b116), (.ref b116)])) rfl (by rw [hml]; rfl) (Steps.refl _) (a := b116) (argsL := [(.long j15), (.long j17), (.ref o10)]) (rest := [(.ref b116)]) (lenOf pd__JJLcom_example_tabuleiro_tabuleiro_game_Colour__V rfl) rfl (by show 2 * 0 + _ ≤ _; exact Nat.le_of_eq rfl) (hb hby at_121) (fun _ _ => ⟨rfl, e116, (by decide : 4 + 2 ≤ _), (by decide : 34 + 28 ≤ _)⟩)
  dsimp only [Pt.U, Pt.locs, Pt.cells, Pt.slots] at X122 l122 y122 z122 st122 hQ122 sS122 gr122
  subst l122 y122 z122
  obtain ⟨rfl, N122q, K122, E122, F122a, F122b, F122c⟩ := hQ122
  have N122 := Fr.app N110 N122q
  have O123 := O117.keep K122 (allS g_b116 all0)
  have Z124 : n0 ≤ T122.heap.size := Nat.le_trans Z118 K122.1
  have K125 := Nat.le_trans K119 K122.1
  have hS122 := foldS (s := s) (vm0 := T110.vm) hS110 (by rw [e116]; exact K119) sS122 gr122
  have hZ122 : Z.Warmed39 (s.setVm T122.vm).vm := State.Warmed39.trans (t := s.setVm T110.vm) hZ110 sS122.1
  have hown122 : (s.setVm T122.vm).vm.findClass "com/example/tabuleiro/tabuleiro/othello/OthelloPositionEqualsPinLaw" = some m.cls := by rw [show (s.setVm T122.vm).vm = T122.vm from rfl, sS122.1.alike.findClass]; exact hown110
  have X122 : Stand p l e room_1 (s.setVm T122.vm) m _ below meth c T122 _ _ _ := X122
  have pre126 : ∀ t, Steps p.tables e below (T122.setTop (mkF m 124 #[.val (.long j0), .second, .val (.long j2), .second, .val (.long j4), .second, .val (.long j6), .second, .val (.int i8), .val (.ref o9), .val (.ref o10), .val (.long j11), .second, .val (.long j13), .second, .val (.long j15), .second, .val (.long j17), .second, .val (.ref b104), .unset, .unset, .unset] [(.ref b116)])) t → Steps p.tables e below (T0.setTop (mkF m 96 #[.val (.long j0), .second, .val (.long j2), .second, .val (.long j4), .second, .val (.long j6), .second, .val (.int i8), .val (.ref o9), .val (.ref o10), .val (.long j11), .second, .val (.long j13), .second, .val (.long j15), .second, .val (.long j17), .second, .unset, .unset, .unset, .unset] [])) t := by
    intro t k
    refine pre121 _ ?_
    show Steps p.tables e below (T116.setTop (mkF m 121 #[.val (.long j0), .second, .val (.long j2), .second, .val (.long j4), .second, .val (.long j6), .second, .val (.int i8), .val (.ref o9), .val (.ref o10), .val (.long j11), .second, .val (.long j13), .second, .val (.long j15), .second, .val (.long j17), .second, .val (.ref b104), .unset, .unset, .unset] [(.ref o10), (.long j17), (.long j15), (.ref b116), (.ref b116)])) _
    refine st122.trans ?_
    exact k
  have pre127 : ∀ t, Steps p.tables e below (T122.setTop (mkF m 137 #[.val (.long j0), .second, .val (.long j2), .second, .val (.long j4), .second, .val (.long j6), .second, .val (.int i8), .val (.ref o9), .val (.ref o10), .val (.long j11), .second, .val (.long j13), .second, .val (.long j15), .second, .val (.long j17), .second, .val (.ref b104), .val (.ref b116), .val (.int (((i8.toUInt32 >>> ((2 : Int32) &&& 31).toUInt32).toInt32) &&& (3 : Int32))), .unset] [(.int (1 : Int32)), (.int (((i8.toUInt32 >>> ((2 : Int32) &&& 31).toUInt32).toInt32) &&& (3 : Int32)))])) t → Steps p.tables e below (T0.setTop (mkF m 96 #[.val (.long j0), .second, .val (.long j2), .second, .val (.long j4), .second, .val (.long j6), .second, .val (.int i8), .val (.ref o9), .val (.ref o10), .val (.long j11), .second, .val (.long j13), .second, .val (.long j15), .second, .val (.long j17), .second, .unset, .unset, .unset, .unset] [])) t := by
    intro t k
    refine pre126 _ ?_
    show Steps p.tables e below (T122.setTop (mkF m 124 #[.val (.long j0), .second, .val (.long j2), .second, .val (.long j4), .second, .val (.long j6), .second, .val (.int i8), .val (.ref o9), .val (.ref o10), .val (.long j11), .second, .val (.long j13), .second, .val (.long j15), .second, .val (.long j17), .second, .val (.ref b104), .unset, .unset, .unset] [(.ref b116)])) _
    refine XS.astore X122.here hx rfl (hb hby at_124) rfl rfl (l' := #[.val (.long j0), .second, .val (.long j2), .second, .val (.long j4), .second, .val (.long j6), .second, .val (.int i8), .val (.ref o9), .val (.ref o10), .val (.long j11), .second, .val (.long j13), .second, .val (.long j15), .second, .val (.long j17), .second, .val (.ref b104), .val (.ref b116), .unset, .unset]) rfl ?_
    show Steps p.tables e below (T122.setTop (mkF m 126 #[.val (.long j0), .second, .val (.long j2), .second, .val (.long j4), .second, .val (.long j6), .second, .val (.int i8), .val (.ref o9), .val (.ref o10), .val (.long j11), .second, .val (.long j13), .second, .val (.long j15), .second, .val (.long j17), .second, .val (.ref b104), .val (.ref b116), .unset, .unset] [])) _
    refine XS.iload X122.here hx rfl (hb hby at_126) rfl ?_
    show Steps p.tables e below (T122.setTop (mkF m 128 #[.val (.long j0), .second, .val (.long j2), .second, .val (.long j4), .second, .val (.long j6), .second, .val (.int i8), .val (.ref o9), .val (.ref o10), .val (.long j11), .second, .val (.long j13), .second, .val (.long j15), .second, .val (.long j17), .second, .val (.ref b104), .val (.ref b116), .unset, .unset] [(.int i8)])) _
    refine XS.iconst X122.here hx rfl (hb hby at_128) ?_
    show Steps p.tables e below (T122.setTop (mkF m 129 #[.val (.long j0), .second, .val (.long j2), .second, .val (.long j4), .second, .val (.long j6), .second, .val (.int i8), .val (.ref o9), .val (.ref o10), .val (.long j11), .second, .val (.long j13), .second, .val (.long j15), .second, .val (.long j17), .second, .val (.ref b104), .val (.ref b116), .unset, .unset] [(.int (2 : Int32)), (.int i8)])) _
    refine XS.iushr X122.here hx rfl (hb hby at_129) rfl ?_
    show Steps p.tables e below (T122.setTop (mkF m 130 #[.val (.long j0), .second, .val (.long j2), .second, .val (.long j4), .second, .val (.long j6), .second, .val (.int i8), .val (.ref o9), .val (.ref o10), .val (.long j11), .second, .val (.long j13), .second, .val (.long j15), .second, .val (.long j17), .second, .val (.ref b104), .val (.ref b116), .unset, .unset] [(.int ((i8.toUInt32 >>> ((2 : Int32) &&& 31).toUInt32).toInt32))])) _
    refine XS.iconst X122.here hx rfl (hb hby at_130) ?_
    show Steps p.tables e below (T122.setTop (mkF m 131 #[.val (.long j0), .second, .val (.long j2), .second, .val (.long j4), .second, .val (.long j6), .second, .val (.int i8), .val (.ref o9), .val (.ref o10), .val (.long j11), .second, .val (.long j13), .second, .val (.long j15), .second, .val (.long j17), .second, .val (.ref b104), .val (.ref b116), .unset, .unset] [(.int (3 : Int32)), (.int ((i8.toUInt32 >>> ((2 : Int32) &&& 31).toUInt32).toInt32))])) _
    refine XS.iand X122.here hx rfl (hb hby at_131) rfl ?_
    show Steps p.tables e below (T122.setTop (mkF m 132 #[.val (.long j0), .second, .val (.long j2), .second, .val (.long j4), .second, .val (.long j6), .second, .val (.int i8), .val (.ref o9), .val (.ref o10), .val (.long j11), .second, .val (.long j13), .second, .val (.long j15), .second, .val (.long j17), .second, .val (.ref b104), .val (.ref b116), .unset, .unset] [(.int (((i8.toUInt32 >>> ((2 : Int32) &&& 31).toUInt32).toInt32) &&& (3 : Int32)))])) _
    refine XS.istore X122.here hx rfl (hb hby at_132) rfl (l' := #[.val (.long j0), .second, .val (.long j2), .second, .val (.long j4), .second, .val (.long j6), .second, .val (.int i8), .val (.ref o9), .val (.ref o10), .val (.long j11), .second, .val (.long j13), .second, .val (.long j15), .second, .val (.long j17), .second, .val (.ref b104), .val (.ref b116), .val (.int (((i8.toUInt32 >>> ((2 : Int32) &&& 31).toUInt32).toInt32) &&& (3 : Int32))), .unset]) rfl ?_
    show Steps p.tables e below (T122.setTop (mkF m 134 #[.val (.long j0), .second, .val (.long j2), .second, .val (.long j4), .second, .val (.long j6), .second, .val (.int i8), .val (.ref o9), .val (.ref o10), .val (.long j11), .second, .val (.long j13), .second, .val (.long j15), .second, .val (.long j17), .second, .val (.ref b104), .val (.ref b116), .val (.int (((i8.toUInt32 >>> ((2 : Int32) &&& 31).toUInt32).toInt32) &&& (3 : Int32))), .unset] [])) _
    refine XS.iload X122.here hx rfl (hb hby at_134) rfl ?_
    show Steps p.tables e below (T122.setTop (mkF m 136 #[.val (.long j0), .second, .val (.long j2), .second, .val (.long j4), .second, .val (.long j6), .second, .val (.int i8), .val (.ref o9), .val (.ref o10), .val (.long j11), .second, .val (.long j13), .second, .val (.long j15), .second, .val (.long j17), .second, .val (.ref b104), .val (.ref b116), .val (.int (((i8.toUInt32 >>> ((2 : Int32) &&& 31).toUInt32).toInt32) &&& (3 : Int32))), .unset] [(.int (((i8.toUInt32 >>> ((2 : Int32) &&& 31).toUInt32).toInt32) &&& (3 : Int32)))])) _
    refine XS.iconst X122.here hx rfl (hb hby at_136) ?_
    exact k
  by_cases hc128 : (((i8.toUInt32 >>> ((2 : Int32) &&& 31).toUInt32).toInt32) &&& (3 : Int32)) = (1 : Int32)
  · have pre129 : ∀ t, Steps p.tables e below (T122.setTop (mkF m 140 #[.val (.long j0), .second, .val (.long j2), .second, .val (.long j4), .second, .val (.long j6), .second, .val (.int i8), .val (.ref o9), .val (.ref o10), .val (.long j11), .second, .val (.long j13), .second, .val (.long j15), .second, .val (.long j17), .second, .val (.ref b104), .val (.ref b116), .val (.int (((i8.toUInt32 >>> ((2 : Int32) &&& 31).toUInt32).toInt32) &&& (3 : Int32))), .unset] [])) t → Steps p.tables e below (T0.setTop (mkF m 96 #[.val (.long j0), .second, .val (.long j2), .second, .val (.long j4), .second, .val (.long j6), .second, .val (.int i8), .val (.ref o9), .val (.ref o10), .val (.long j11), .second, .val (.long j13), .second, .val (.long j15), .second, .val (.long j17), .second, .unset, .unset, .unset, .unset] [])) t := by
      intro t k
      refine pre127 _ ?_
      show Steps p.tables e below (T122.setTop (mkF m 137 #[.val (.long j0), .second, .val (.long j2), .second, .val (.long j4), .second, .val (.long j6), .second, .val (.int i8), .val (.ref o9), .val (.ref o10), .val (.long j11), .second, .val (.long j13), .second, .val (.long j15), .second, .val (.long j17), .second, .val (.ref b104), .val (.ref b116), .val (.int (((i8.toUInt32 >>> ((2 : Int32) &&& 31).toUInt32).toInt32) &&& (3 : Int32))), .unset] [(.int (1 : Int32)), (.int (((i8.toUInt32 >>> ((2 : Int32) &&& 31).toUInt32).toInt32) &&& (3 : Int32)))])) _
      refine XS.icmpNo X122.here hx rfl (hb hby at_137) rfl (teq hc128).2 ?_
      exact k
    have pre130 : ∀ t, Steps p.tables e below (T122.setTop (mkF m 143 #[.val (.long j0), .second, .val (.long j2), .second, .val (.long j4), .second, .val (.long j6), .second, .val (.int i8), .val (.ref o9), .val (.ref o10), .val (.long j11), .second, .val (.long j13), .second, .val (.long j15), .second, .val (.long j17), .second, .val (.ref b104), .val (.ref b116), .val (.int (((i8.toUInt32 >>> ((2 : Int32) &&& 31).toUInt32).toInt32) &&& (3 : Int32))), .unset] [.null, (.ref b104)])) t → Steps p.tables e below (T0.setTop (mkF m 96 #[.val (.long j0), .second, .val (.long j2), .second, .val (.long j4), .second, .val (.long j6), .second, .val (.int i8), .val (.ref o9), .val (.ref o10), .val (.long j11), .second, .val (.long j13), .second, .val (.long j15), .second, .val (.long j17), .second, .unset, .unset, .unset, .unset] [])) t := by
      intro t k
      refine pre129 _ ?_
      show Steps p.tables e below (T122.setTop (mkF m 140 #[.val (.long j0), .second, .val (.long j2), .second, .val (.long j4), .second, .val (.long j6), .second, .val (.int i8), .val (.ref o9), .val (.ref o10), .val (.long j11), .second, .val (.long j13), .second, .val (.long j15), .second, .val (.long j17), .second, .val (.ref b104), .val (.ref b116), .val (.int (((i8.toUInt32 >>> ((2 : Int32) &&& 31).toUInt32).toInt32) &&& (3 : Int32))), .unset] [])) _
      refine XS.aload X122.here hx rfl (hb hby at_140) rfl rfl ?_
      show Steps p.tables e below (T122.setTop (mkF m 142 #[.val (.long j0), .second, .val (.long j2), .second, .val (.long j4), .second, .val (.long j6), .second, .val (.int i8), .val (.ref o9), .val (.ref o10), .val (.long j11), .second, .val (.long j13), .second, .val (.long j15), .second, .val (.long j17), .second, .val (.ref b104), .val (.ref b116), .val (.int (((i8.toUInt32 >>> ((2 : Int32) &&& 31).toUInt32).toInt32) &&& (3 : Int32))), .unset] [(.ref b104)])) _
      refine XS.aconstNull X122.here hx rfl (hb hby at_142) ?_
      exact k
    obtain ⟨cq131, kq131, q131a, q131b, q131c⟩ := isOf hZ122 rfl ((E110.ext E116).keep K122)
    obtain ⟨_, _, ⟨T131, L131, k131, n131⟩, -, X131, ⟨Lc131, hQ131, l131, y131, z131⟩, st131⟩ := X122.virtualBack hx (y := (⟨"com/example/tabuleiro/tabuleiro/othello/OthelloPosition", "equals", "(Ljava/lang/Object;)Z"⟩ : MethodName)) (z := (⟨"com/example/tabuleiro/tabuleiro/othello/OthelloPosition", "equals", "(Ljava/lang/Object;)Z"⟩ : MethodName)) hown122 (mvT hZ122 (hw _ (List.mem_of_getElem? (i := 36) rfl))) (mvT hZ122 (hw _ (List.mem_of_getElem? (i := 37) rfl))) (notFace_of_selects (args := #[]) (mvT hZ122 (hw _ (List.mem_of_getElem? (i := 39) rfl)))) (mvT hZ122 (hw _ (List.mem_of_getElem? (i := 39) rfl))) (mvT hZ122 (hw _ (List.mem_of_getElem? (i := 38) rfl))) (by decide) (backOf (W := 0) (rm5n l Z a0 hw [] b104 T122.heap n0 Z124 ) hZ122 (hw _ (List.mem_of_getElem? (i := 40) rfl)) (hw _ (List.mem_of_getElem? (i := 6) rfl)) (by decide) (by decide)) q131a q131c (g := (mkF m 143 #[.val (.long j0), .second, .val (.long j2), .second, .val (.long j4), .second, .val (.long j6), .second, .val (.int i8), .val (.ref o9), .val (.ref o10), .val (.long j11), .second, .val (.long j13), .second, .val (.long j15), .second, .val (.long j17), .second, .val (.ref b104), .val (.ref b116), .val (.int (((i8.toUInt32 >>> ((2 : Int32) &&& 31).toUInt32).toInt32) &&& (3 : Int32))), .unset] [.null, (.ref b104)])) rfl (by rw [hml]; rfl) (Steps.refl _) (argsL := [.null]) (rest := []) (lenOf pd__Ljava_lang_Object__Z rfl) rfl (by show 2 * 0 + _ ≤ _; exact Nat.le_of_eq rfl) (hb hby at_143) (fun _ _ => ⟨rfl, rfl, (by decide : 6 + 0 ≤ _), (by decide : 62 + 0 ≤ _)⟩)
    dsimp only [Pt.U, Pt.locs, Pt.cells, Pt.slots] at X131 l131 y131 z131 st131 hQ131
    subst l131 y131 z131
    obtain ⟨rfl, N131q, e131⟩ := hQ131
    have N131 := Fr.app N122 N131q
    have pre132 : ∀ t, Steps p.tables e below (T131.setTop (mkF m 146 #[.val (.long j0), .second, .val (.long j2), .second, .val (.long j4), .second, .val (.long j6), .second, .val (.int i8), .val (.ref o9), .val (.ref o10), .val (.long j11), .second, .val (.long j13), .second, .val (.long j15), .second, .val (.long j17), .second, .val (.ref b104), .val (.ref b116), .val (.int (((i8.toUInt32 >>> ((2 : Int32) &&& 31).toUInt32).toInt32) &&& (3 : Int32))), .unset] [(.int (F5n))])) t → Steps p.tables e below (T0.setTop (mkF m 96 #[.val (.long j0), .second, .val (.long j2), .second, .val (.long j4), .second, .val (.long j6), .second, .val (.int i8), .val (.ref o9), .val (.ref o10), .val (.long j11), .second, .val (.long j13), .second, .val (.long j15), .second, .val (.long j17), .second, .unset, .unset, .unset, .unset] [])) t := by
      intro t k
      refine pre130 _ ?_
      show Steps p.tables e below (T122.setTop (mkF m 143 #[.val (.long j0), .second, .val (.long j2), .second, .val (.long j4), .second, .val (.long j6), .second, .val (.int i8), .val (.ref o9), .val (.ref o10), .val (.long j11), .second, .val (.long j13), .second, .val (.long j15), .second, .val (.long j17), .second, .val (.ref b104), .val (.ref b116), .val (.int (((i8.toUInt32 >>> ((2 : Int32) &&& 31).toUInt32).toInt32) &&& (3 : Int32))), .unset] [.null, (.ref b104)])) _
      refine st131.trans ?_
      exact k
    by_cases hc133 : (F5n) = (0 : Int32)
    · have pre134 : ∀ t, Steps p.tables e below (T131.setTop (mkF m 149 #[.val (.long j0), .second, .val (.long j2), .second, .val (.long j4), .second, .val (.long j6), .second, .val (.int i8), .val (.ref o9), .val (.ref o10), .val (.long j11), .second, .val (.long j13), .second, .val (.long j15), .second, .val (.long j17), .second, .val (.ref b104), .val (.ref b116), .val (.int (((i8.toUInt32 >>> ((2 : Int32) &&& 31).toUInt32).toInt32) &&& (3 : Int32))), .unset] [])) t → Steps p.tables e below (T0.setTop (mkF m 96 #[.val (.long j0), .second, .val (.long j2), .second, .val (.long j4), .second, .val (.long j6), .second, .val (.int i8), .val (.ref o9), .val (.ref o10), .val (.long j11), .second, .val (.long j13), .second, .val (.long j15), .second, .val (.long j17), .second, .unset, .unset, .unset, .unset] [])) t := by
        intro t k
        refine pre132 _ ?_
        show Steps p.tables e below (T131.setTop (mkF m 146 #[.val (.long j0), .second, .val (.long j2), .second, .val (.long j4), .second, .val (.long j6), .second, .val (.int i8), .val (.ref o9), .val (.ref o10), .val (.long j11), .second, .val (.long j13), .second, .val (.long j15), .second, .val (.long j17), .second, .val (.ref b104), .val (.ref b116), .val (.int (((i8.toUInt32 >>> ((2 : Int32) &&& 31).toUInt32).toInt32) &&& (3 : Int32))), .unset] [(.int (F5n))])) _
        refine XS.ifNo X131.here hx rfl (hb hby at_146) rfl ((if0 _ _).trans (teq hc133).2) ?_
        exact k
      have pre135 : ∀ t, Steps p.tables e below (T131.setTop (mkF m 154 #[.val (.long j0), .second, .val (.long j2), .second, .val (.long j4), .second, .val (.long j6), .second, .val (.int i8), .val (.ref o9), .val (.ref o10), .val (.long j11), .second, .val (.long j13), .second, .val (.long j15), .second, .val (.long j17), .second, .val (.ref b104), .val (.ref b116), .val (.int (((i8.toUInt32 >>> ((2 : Int32) &&& 31).toUInt32).toInt32) &&& (3 : Int32))), .unset] [(.int (1 : Int32))])) t → Steps p.tables e below (T0.setTop (mkF m 96 #[.val (.long j0), .second, .val (.long j2), .second, .val (.long j4), .second, .val (.long j6), .second, .val (.int i8), .val (.ref o9), .val (.ref o10), .val (.long j11), .second, .val (.long j13), .second, .val (.long j15), .second, .val (.long j17), .second, .unset, .unset, .unset, .unset] [])) t := by
        intro t k
        refine pre134 _ ?_
        show Steps p.tables e below (T131.setTop (mkF m 149 #[.val (.long j0), .second, .val (.long j2), .second, .val (.long j4), .second, .val (.long j6), .second, .val (.int i8), .val (.ref o9), .val (.ref o10), .val (.long j11), .second, .val (.long j13), .second, .val (.long j15), .second, .val (.long j17), .second, .val (.ref b104), .val (.ref b116), .val (.int (((i8.toUInt32 >>> ((2 : Int32) &&& 31).toUInt32).toInt32) &&& (3 : Int32))), .unset] [])) _
        refine XS.iconst X131.here hx rfl (hb hby at_149) ?_
        show Steps p.tables e below (T131.setTop (mkF m 150 #[.val (.long j0), .second, .val (.long j2), .second, .val (.long j4), .second, .val (.long j6), .second, .val (.int i8), .val (.ref o9), .val (.ref o10), .val (.long j11), .second, .val (.long j13), .second, .val (.long j15), .second, .val (.long j17), .second, .val (.ref b104), .val (.ref b116), .val (.int (((i8.toUInt32 >>> ((2 : Int32) &&& 31).toUInt32).toInt32) &&& (3 : Int32))), .unset] [(.int (1 : Int32))])) _
        refine XS.goto X131.here hx rfl (pc0 := 150) (pc' := 154) rfl (hb hby at_150) (by decide) (by decide) ?_
        exact k
      obtain ⟨fs, hr, hrun, hended, hsame⟩ := Stand.leaveW (s := s) (vm₁ := T122.vm) X131 hS122 (by rw [e131]; exact (Nat.le_refl _)) (v := some (.int (1 : Int32))) (fun h => by rw [hret] at h; cases h)
      refine ⟨_, _, pre135 _ ?_, hrun, hended, _, _, rfl, ?_, ⟨hsame.1, hsame.2.1, hsame.2.2.1, hsame.2.2.2.mono (by decide) (by decide)⟩⟩
      · show Steps p.tables e below (T131.setTop (mkF m 154 #[.val (.long j0), .second, .val (.long j2), .second, .val (.long j4), .second, .val (.long j6), .second, .val (.int i8), .val (.ref o9), .val (.ref o10), .val (.long j11), .second, .val (.long j13), .second, .val (.long j15), .second, .val (.long j17), .second, .val (.ref b104), .val (.ref b116), .val (.int (((i8.toUInt32 >>> ((2 : Int32) &&& 31).toUInt32).toInt32) &&& (3 : Int32))), .unset] [(.int (1 : Int32))])) _
        exact retN X131 hx (t := .boolean) hret (by simp) (hb hby at_154) hr
      · exact ⟨(by rw [F0_96_0, if_pos hc128, if_pos hc133]), N131⟩
    · have pre136 : ∀ t, Steps p.tables e below (T131.setTop (mkF m 153 #[.val (.long j0), .second, .val (.long j2), .second, .val (.long j4), .second, .val (.long j6), .second, .val (.int i8), .val (.ref o9), .val (.ref o10), .val (.long j11), .second, .val (.long j13), .second, .val (.long j15), .second, .val (.long j17), .second, .val (.ref b104), .val (.ref b116), .val (.int (((i8.toUInt32 >>> ((2 : Int32) &&& 31).toUInt32).toInt32) &&& (3 : Int32))), .unset] [])) t → Steps p.tables e below (T0.setTop (mkF m 96 #[.val (.long j0), .second, .val (.long j2), .second, .val (.long j4), .second, .val (.long j6), .second, .val (.int i8), .val (.ref o9), .val (.ref o10), .val (.long j11), .second, .val (.long j13), .second, .val (.long j15), .second, .val (.long j17), .second, .unset, .unset, .unset, .unset] [])) t := by
        intro t k
        refine pre132 _ ?_
        show Steps p.tables e below (T131.setTop (mkF m 146 #[.val (.long j0), .second, .val (.long j2), .second, .val (.long j4), .second, .val (.long j6), .second, .val (.int i8), .val (.ref o9), .val (.ref o10), .val (.long j11), .second, .val (.long j13), .second, .val (.long j15), .second, .val (.long j17), .second, .val (.ref b104), .val (.ref b116), .val (.int (((i8.toUInt32 >>> ((2 : Int32) &&& 31).toUInt32).toInt32) &&& (3 : Int32))), .unset] [(.int (F5n))])) _
        refine XS.ifYes X131.here hx rfl (pc0 := 146) (pc' := 153) rfl (hb hby at_146) rfl ((if0 _ _).trans (feq hc133).2) (by decide) (by decide) ?_
        exact k
      have pre137 : ∀ t, Steps p.tables e below (T131.setTop (mkF m 154 #[.val (.long j0), .second, .val (.long j2), .second, .val (.long j4), .second, .val (.long j6), .second, .val (.int i8), .val (.ref o9), .val (.ref o10), .val (.long j11), .second, .val (.long j13), .second, .val (.long j15), .second, .val (.long j17), .second, .val (.ref b104), .val (.ref b116), .val (.int (((i8.toUInt32 >>> ((2 : Int32) &&& 31).toUInt32).toInt32) &&& (3 : Int32))), .unset] [(.int (0 : Int32))])) t → Steps p.tables e below (T0.setTop (mkF m 96 #[.val (.long j0), .second, .val (.long j2), .second, .val (.long j4), .second, .val (.long j6), .second, .val (.int i8), .val (.ref o9), .val (.ref o10), .val (.long j11), .second, .val (.long j13), .second, .val (.long j15), .second, .val (.long j17), .second, .unset, .unset, .unset, .unset] [])) t := by
        intro t k
        refine pre136 _ ?_
        show Steps p.tables e below (T131.setTop (mkF m 153 #[.val (.long j0), .second, .val (.long j2), .second, .val (.long j4), .second, .val (.long j6), .second, .val (.int i8), .val (.ref o9), .val (.ref o10), .val (.long j11), .second, .val (.long j13), .second, .val (.long j15), .second, .val (.long j17), .second, .val (.ref b104), .val (.ref b116), .val (.int (((i8.toUInt32 >>> ((2 : Int32) &&& 31).toUInt32).toInt32) &&& (3 : Int32))), .unset] [])) _
        refine XS.iconst X131.here hx rfl (hb hby at_153) ?_
        exact k
      obtain ⟨fs, hr, hrun, hended, hsame⟩ := Stand.leaveW (s := s) (vm₁ := T122.vm) X131 hS122 (by rw [e131]; exact (Nat.le_refl _)) (v := some (.int (0 : Int32))) (fun h => by rw [hret] at h; cases h)
      refine ⟨_, _, pre137 _ ?_, hrun, hended, _, _, rfl, ?_, ⟨hsame.1, hsame.2.1, hsame.2.2.1, hsame.2.2.2.mono (by decide) (by decide)⟩⟩
      · show Steps p.tables e below (T131.setTop (mkF m 154 #[.val (.long j0), .second, .val (.long j2), .second, .val (.long j4), .second, .val (.long j6), .second, .val (.int i8), .val (.ref o9), .val (.ref o10), .val (.long j11), .second, .val (.long j13), .second, .val (.long j15), .second, .val (.long j17), .second, .val (.ref b104), .val (.ref b116), .val (.int (((i8.toUInt32 >>> ((2 : Int32) &&& 31).toUInt32).toInt32) &&& (3 : Int32))), .unset] [(.int (0 : Int32))])) _
        exact retN X131 hx (t := .boolean) hret (by simp) (hb hby at_154) hr
      · exact ⟨(by rw [F0_96_0, if_pos hc128, if_neg hc133]), N131⟩
  · have pre138 : ∀ t, Steps p.tables e below (T122.setTop (mkF m 155 #[.val (.long j0), .second, .val (.long j2), .second, .val (.long j4), .second, .val (.long j6), .second, .val (.int i8), .val (.ref o9), .val (.ref o10), .val (.long j11), .second, .val (.long j13), .second, .val (.long j15), .second, .val (.long j17), .second, .val (.ref b104), .val (.ref b116), .val (.int (((i8.toUInt32 >>> ((2 : Int32) &&& 31).toUInt32).toInt32) &&& (3 : Int32))), .unset] [])) t → Steps p.tables e below (T0.setTop (mkF m 96 #[.val (.long j0), .second, .val (.long j2), .second, .val (.long j4), .second, .val (.long j6), .second, .val (.int i8), .val (.ref o9), .val (.ref o10), .val (.long j11), .second, .val (.long j13), .second, .val (.long j15), .second, .val (.long j17), .second, .unset, .unset, .unset, .unset] [])) t := by
      intro t k
      refine pre127 _ ?_
      show Steps p.tables e below (T122.setTop (mkF m 137 #[.val (.long j0), .second, .val (.long j2), .second, .val (.long j4), .second, .val (.long j6), .second, .val (.int i8), .val (.ref o9), .val (.ref o10), .val (.long j11), .second, .val (.long j13), .second, .val (.long j15), .second, .val (.long j17), .second, .val (.ref b104), .val (.ref b116), .val (.int (((i8.toUInt32 >>> ((2 : Int32) &&& 31).toUInt32).toInt32) &&& (3 : Int32))), .unset] [(.int (1 : Int32)), (.int (((i8.toUInt32 >>> ((2 : Int32) &&& 31).toUInt32).toInt32) &&& (3 : Int32)))])) _
      refine XS.icmpYes X122.here hx rfl (pc0 := 137) (pc' := 155) rfl (hb hby at_137) rfl (feq hc128).2 (by decide) (by decide) ?_
      exact k
    have pre139 : ∀ t, Steps p.tables e below (T122.setTop (mkF m 158 #[.val (.long j0), .second, .val (.long j2), .second, .val (.long j4), .second, .val (.long j6), .second, .val (.int i8), .val (.ref o9), .val (.ref o10), .val (.long j11), .second, .val (.long j13), .second, .val (.long j15), .second, .val (.long j17), .second, .val (.ref b104), .val (.ref b116), .val (.int (((i8.toUInt32 >>> ((2 : Int32) &&& 31).toUInt32).toInt32) &&& (3 : Int32))), .unset] [(.int (2 : Int32)), (.int (((i8.toUInt32 >>> ((2 : Int32) &&& 31).toUInt32).toInt32) &&& (3 : Int32)))])) t → Steps p.tables e below (T0.setTop (mkF m 96 #[.val (.long j0), .second, .val (.long j2), .second, .val (.long j4), .second, .val (.long j6), .second, .val (.int i8), .val (.ref o9), .val (.ref o10), .val (.long j11), .second, .val (.long j13), .second, .val (.long j15), .second, .val (.long j17), .second, .unset, .unset, .unset, .unset] [])) t := by
      intro t k
      refine pre138 _ ?_
      show Steps p.tables e below (T122.setTop (mkF m 155 #[.val (.long j0), .second, .val (.long j2), .second, .val (.long j4), .second, .val (.long j6), .second, .val (.int i8), .val (.ref o9), .val (.ref o10), .val (.long j11), .second, .val (.long j13), .second, .val (.long j15), .second, .val (.long j17), .second, .val (.ref b104), .val (.ref b116), .val (.int (((i8.toUInt32 >>> ((2 : Int32) &&& 31).toUInt32).toInt32) &&& (3 : Int32))), .unset] [])) _
      refine XS.iload X122.here hx rfl (hb hby at_155) rfl ?_
      show Steps p.tables e below (T122.setTop (mkF m 157 #[.val (.long j0), .second, .val (.long j2), .second, .val (.long j4), .second, .val (.long j6), .second, .val (.int i8), .val (.ref o9), .val (.ref o10), .val (.long j11), .second, .val (.long j13), .second, .val (.long j15), .second, .val (.long j17), .second, .val (.ref b104), .val (.ref b116), .val (.int (((i8.toUInt32 >>> ((2 : Int32) &&& 31).toUInt32).toInt32) &&& (3 : Int32))), .unset] [(.int (((i8.toUInt32 >>> ((2 : Int32) &&& 31).toUInt32).toInt32) &&& (3 : Int32)))])) _
      refine XS.iconst X122.here hx rfl (hb hby at_157) ?_
      exact k
    by_cases hc140 : (((i8.toUInt32 >>> ((2 : Int32) &&& 31).toUInt32).toInt32) &&& (3 : Int32)) = (2 : Int32)
    · have pre141 : ∀ t, Steps p.tables e below (T122.setTop (mkF m 161 #[.val (.long j0), .second, .val (.long j2), .second, .val (.long j4), .second, .val (.long j6), .second, .val (.int i8), .val (.ref o9), .val (.ref o10), .val (.long j11), .second, .val (.long j13), .second, .val (.long j15), .second, .val (.long j17), .second, .val (.ref b104), .val (.ref b116), .val (.int (((i8.toUInt32 >>> ((2 : Int32) &&& 31).toUInt32).toInt32) &&& (3 : Int32))), .unset] [])) t → Steps p.tables e below (T0.setTop (mkF m 96 #[.val (.long j0), .second, .val (.long j2), .second, .val (.long j4), .second, .val (.long j6), .second, .val (.int i8), .val (.ref o9), .val (.ref o10), .val (.long j11), .second, .val (.long j13), .second, .val (.long j15), .second, .val (.long j17), .second, .unset, .unset, .unset, .unset] [])) t := by
        intro t k
        refine pre139 _ ?_
        show Steps p.tables e below (T122.setTop (mkF m 158 #[.val (.long j0), .second, .val (.long j2), .second, .val (.long j4), .second, .val (.long j6), .second, .val (.int i8), .val (.ref o9), .val (.ref o10), .val (.long j11), .second, .val (.long j13), .second, .val (.long j15), .second, .val (.long j17), .second, .val (.ref b104), .val (.ref b116), .val (.int (((i8.toUInt32 >>> ((2 : Int32) &&& 31).toUInt32).toInt32) &&& (3 : Int32))), .unset] [(.int (2 : Int32)), (.int (((i8.toUInt32 >>> ((2 : Int32) &&& 31).toUInt32).toInt32) &&& (3 : Int32)))])) _
        refine XS.icmpNo X122.here hx rfl (hb hby at_158) rfl (teq hc140).2 ?_
        exact k
      have pre142 : ∀ t, Steps p.tables e below (T122.setTop (mkF m 165 #[.val (.long j0), .second, .val (.long j2), .second, .val (.long j4), .second, .val (.long j6), .second, .val (.int i8), .val (.ref o9), .val (.ref o10), .val (.long j11), .second, .val (.long j13), .second, .val (.long j15), .second, .val (.long j17), .second, .val (.ref b104), .val (.ref b116), .val (.int (((i8.toUInt32 >>> ((2 : Int32) &&& 31).toUInt32).toInt32) &&& (3 : Int32))), .unset] [(.ref o9), (.ref b104)])) t → Steps p.tables e below (T0.setTop (mkF m 96 #[.val (.long j0), .second, .val (.long j2), .second, .val (.long j4), .second, .val (.long j6), .second, .val (.int i8), .val (.ref o9), .val (.ref o10), .val (.long j11), .second, .val (.long j13), .second, .val (.long j15), .second, .val (.long j17), .second, .unset, .unset, .unset, .unset] [])) t := by
        intro t k
        refine pre141 _ ?_
        show Steps p.tables e below (T122.setTop (mkF m 161 #[.val (.long j0), .second, .val (.long j2), .second, .val (.long j4), .second, .val (.long j6), .second, .val (.int i8), .val (.ref o9), .val (.ref o10), .val (.long j11), .second, .val (.long j13), .second, .val (.long j15), .second, .val (.long j17), .second, .val (.ref b104), .val (.ref b116), .val (.int (((i8.toUInt32 >>> ((2 : Int32) &&& 31).toUInt32).toInt32) &&& (3 : Int32))), .unset] [])) _
        refine XS.aload X122.here hx rfl (hb hby at_161) rfl rfl ?_
        show Steps p.tables e below (T122.setTop (mkF m 163 #[.val (.long j0), .second, .val (.long j2), .second, .val (.long j4), .second, .val (.long j6), .second, .val (.int i8), .val (.ref o9), .val (.ref o10), .val (.long j11), .second, .val (.long j13), .second, .val (.long j15), .second, .val (.long j17), .second, .val (.ref b104), .val (.ref b116), .val (.int (((i8.toUInt32 >>> ((2 : Int32) &&& 31).toUInt32).toInt32) &&& (3 : Int32))), .unset] [(.ref b104)])) _
        refine XS.aload X122.here hx rfl (hb hby at_163) rfl rfl ?_
        exact k
      obtain ⟨cq143, kq143, q143a, q143b, q143c⟩ := isOf hZ122 rfl ((E110.ext E116).keep K122)
      obtain ⟨_, _, ⟨T143, L143, k143, n143⟩, -, X143, ⟨Lc143, hQ143, l143, y143, z143⟩, st143⟩ := X122.virtualBack hx (y := (⟨"com/example/tabuleiro/tabuleiro/othello/OthelloPosition", "equals", "(Ljava/lang/Object;)Z"⟩ : MethodName)) (z := (⟨"com/example/tabuleiro/tabuleiro/othello/OthelloPosition", "equals", "(Ljava/lang/Object;)Z"⟩ : MethodName)) hown122 (mvT hZ122 (hw _ (List.mem_of_getElem? (i := 36) rfl))) (mvT hZ122 (hw _ (List.mem_of_getElem? (i := 37) rfl))) (notFace_of_selects (args := #[]) (mvT hZ122 (hw _ (List.mem_of_getElem? (i := 39) rfl)))) (mvT hZ122 (hw _ (List.mem_of_getElem? (i := 39) rfl))) (mvT hZ122 (hw _ (List.mem_of_getElem? (i := 38) rfl))) (by decide) (backOf (W := 0) (rm5o l Z a0 hw [] b104 o9 T122.heap n0 Z124 (E_o9.ext O123.2) (own_no_col hw)) hZ122 (hw _ (List.mem_of_getElem? (i := 40) rfl)) (hw _ (List.mem_of_getElem? (i := 6) rfl)) (by decide) (by decide)) q143a q143c (g := (mkF m 165 #[.val (.long j0), .second, .val (.long j2), .second, .val (.long j4), .second, .val (.long j6), .second, .val (.int i8), .val (.ref o9), .val (.ref o10), .val (.long j11), .second, .val (.long j13), .second, .val (.long j15), .second, .val (.long j17), .second, .val (.ref b104), .val (.ref b116), .val (.int (((i8.toUInt32 >>> ((2 : Int32) &&& 31).toUInt32).toInt32) &&& (3 : Int32))), .unset] [(.ref o9), (.ref b104)])) rfl (by rw [hml]; rfl) (Steps.refl _) (argsL := [(.ref o9)]) (rest := []) (lenOf pd__Ljava_lang_Object__Z rfl) rfl (by show 2 * 0 + _ ≤ _; exact Nat.le_of_eq rfl) (hb hby at_165) (fun _ _ => ⟨rfl, rfl, (by decide : 6 + 0 ≤ _), (by decide : 62 + 0 ≤ _)⟩)
      dsimp only [Pt.U, Pt.locs, Pt.cells, Pt.slots] at X143 l143 y143 z143 st143 hQ143
      subst l143 y143 z143
      obtain ⟨rfl, N143q, e143⟩ := hQ143
      have N143 := Fr.app N122 N143q
      have pre144 : ∀ t, Steps p.tables e below (T143.setTop (mkF m 168 #[.val (.long j0), .second, .val (.long j2), .second, .val (.long j4), .second, .val (.long j6), .second, .val (.int i8), .val (.ref o9), .val (.ref o10), .val (.long j11), .second, .val (.long j13), .second, .val (.long j15), .second, .val (.long j17), .second, .val (.ref b104), .val (.ref b116), .val (.int (((i8.toUInt32 >>> ((2 : Int32) &&& 31).toUInt32).toInt32) &&& (3 : Int32))), .unset] [(.int (F5o))])) t → Steps p.tables e below (T0.setTop (mkF m 96 #[.val (.long j0), .second, .val (.long j2), .second, .val (.long j4), .second, .val (.long j6), .second, .val (.int i8), .val (.ref o9), .val (.ref o10), .val (.long j11), .second, .val (.long j13), .second, .val (.long j15), .second, .val (.long j17), .second, .unset, .unset, .unset, .unset] [])) t := by
        intro t k
        refine pre142 _ ?_
        show Steps p.tables e below (T122.setTop (mkF m 165 #[.val (.long j0), .second, .val (.long j2), .second, .val (.long j4), .second, .val (.long j6), .second, .val (.int i8), .val (.ref o9), .val (.ref o10), .val (.long j11), .second, .val (.long j13), .second, .val (.long j15), .second, .val (.long j17), .second, .val (.ref b104), .val (.ref b116), .val (.int (((i8.toUInt32 >>> ((2 : Int32) &&& 31).toUInt32).toInt32) &&& (3 : Int32))), .unset] [(.ref o9), (.ref b104)])) _
        refine st143.trans ?_
        exact k
      by_cases hc145 : (F5o) = (0 : Int32)
      · have pre146 : ∀ t, Steps p.tables e below (T143.setTop (mkF m 171 #[.val (.long j0), .second, .val (.long j2), .second, .val (.long j4), .second, .val (.long j6), .second, .val (.int i8), .val (.ref o9), .val (.ref o10), .val (.long j11), .second, .val (.long j13), .second, .val (.long j15), .second, .val (.long j17), .second, .val (.ref b104), .val (.ref b116), .val (.int (((i8.toUInt32 >>> ((2 : Int32) &&& 31).toUInt32).toInt32) &&& (3 : Int32))), .unset] [])) t → Steps p.tables e below (T0.setTop (mkF m 96 #[.val (.long j0), .second, .val (.long j2), .second, .val (.long j4), .second, .val (.long j6), .second, .val (.int i8), .val (.ref o9), .val (.ref o10), .val (.long j11), .second, .val (.long j13), .second, .val (.long j15), .second, .val (.long j17), .second, .unset, .unset, .unset, .unset] [])) t := by
          intro t k
          refine pre144 _ ?_
          show Steps p.tables e below (T143.setTop (mkF m 168 #[.val (.long j0), .second, .val (.long j2), .second, .val (.long j4), .second, .val (.long j6), .second, .val (.int i8), .val (.ref o9), .val (.ref o10), .val (.long j11), .second, .val (.long j13), .second, .val (.long j15), .second, .val (.long j17), .second, .val (.ref b104), .val (.ref b116), .val (.int (((i8.toUInt32 >>> ((2 : Int32) &&& 31).toUInt32).toInt32) &&& (3 : Int32))), .unset] [(.int (F5o))])) _
          refine XS.ifNo X143.here hx rfl (hb hby at_168) rfl ((if0 _ _).trans (teq hc145).2) ?_
          exact k
        have pre147 : ∀ t, Steps p.tables e below (T143.setTop (mkF m 176 #[.val (.long j0), .second, .val (.long j2), .second, .val (.long j4), .second, .val (.long j6), .second, .val (.int i8), .val (.ref o9), .val (.ref o10), .val (.long j11), .second, .val (.long j13), .second, .val (.long j15), .second, .val (.long j17), .second, .val (.ref b104), .val (.ref b116), .val (.int (((i8.toUInt32 >>> ((2 : Int32) &&& 31).toUInt32).toInt32) &&& (3 : Int32))), .unset] [(.int (1 : Int32))])) t → Steps p.tables e below (T0.setTop (mkF m 96 #[.val (.long j0), .second, .val (.long j2), .second, .val (.long j4), .second, .val (.long j6), .second, .val (.int i8), .val (.ref o9), .val (.ref o10), .val (.long j11), .second, .val (.long j13), .second, .val (.long j15), .second, .val (.long j17), .second, .unset, .unset, .unset, .unset] [])) t := by
          intro t k
          refine pre146 _ ?_
          show Steps p.tables e below (T143.setTop (mkF m 171 #[.val (.long j0), .second, .val (.long j2), .second, .val (.long j4), .second, .val (.long j6), .second, .val (.int i8), .val (.ref o9), .val (.ref o10), .val (.long j11), .second, .val (.long j13), .second, .val (.long j15), .second, .val (.long j17), .second, .val (.ref b104), .val (.ref b116), .val (.int (((i8.toUInt32 >>> ((2 : Int32) &&& 31).toUInt32).toInt32) &&& (3 : Int32))), .unset] [])) _
          refine XS.iconst X143.here hx rfl (hb hby at_171) ?_
          show Steps p.tables e below (T143.setTop (mkF m 172 #[.val (.long j0), .second, .val (.long j2), .second, .val (.long j4), .second, .val (.long j6), .second, .val (.int i8), .val (.ref o9), .val (.ref o10), .val (.long j11), .second, .val (.long j13), .second, .val (.long j15), .second, .val (.long j17), .second, .val (.ref b104), .val (.ref b116), .val (.int (((i8.toUInt32 >>> ((2 : Int32) &&& 31).toUInt32).toInt32) &&& (3 : Int32))), .unset] [(.int (1 : Int32))])) _
          refine XS.goto X143.here hx rfl (pc0 := 172) (pc' := 176) rfl (hb hby at_172) (by decide) (by decide) ?_
          exact k
        obtain ⟨fs, hr, hrun, hended, hsame⟩ := Stand.leaveW (s := s) (vm₁ := T122.vm) X143 hS122 (by rw [e143]; exact (Nat.le_refl _)) (v := some (.int (1 : Int32))) (fun h => by rw [hret] at h; cases h)
        refine ⟨_, _, pre147 _ ?_, hrun, hended, _, _, rfl, ?_, ⟨hsame.1, hsame.2.1, hsame.2.2.1, hsame.2.2.2.mono (by decide) (by decide)⟩⟩
        · show Steps p.tables e below (T143.setTop (mkF m 176 #[.val (.long j0), .second, .val (.long j2), .second, .val (.long j4), .second, .val (.long j6), .second, .val (.int i8), .val (.ref o9), .val (.ref o10), .val (.long j11), .second, .val (.long j13), .second, .val (.long j15), .second, .val (.long j17), .second, .val (.ref b104), .val (.ref b116), .val (.int (((i8.toUInt32 >>> ((2 : Int32) &&& 31).toUInt32).toInt32) &&& (3 : Int32))), .unset] [(.int (1 : Int32))])) _
          exact retN X143 hx (t := .boolean) hret (by simp) (hb hby at_176) hr
        · exact ⟨(by rw [F0_96_0, if_neg hc128, if_pos hc140, if_pos hc145]), N143⟩
      · have pre148 : ∀ t, Steps p.tables e below (T143.setTop (mkF m 175 #[.val (.long j0), .second, .val (.long j2), .second, .val (.long j4), .second, .val (.long j6), .second, .val (.int i8), .val (.ref o9), .val (.ref o10), .val (.long j11), .second, .val (.long j13), .second, .val (.long j15), .second, .val (.long j17), .second, .val (.ref b104), .val (.ref b116), .val (.int (((i8.toUInt32 >>> ((2 : Int32) &&& 31).toUInt32).toInt32) &&& (3 : Int32))), .unset] [])) t → Steps p.tables e below (T0.setTop (mkF m 96 #[.val (.long j0), .second, .val (.long j2), .second, .val (.long j4), .second, .val (.long j6), .second, .val (.int i8), .val (.ref o9), .val (.ref o10), .val (.long j11), .second, .val (.long j13), .second, .val (.long j15), .second, .val (.long j17), .second, .unset, .unset, .unset, .unset] [])) t := by
          intro t k
          refine pre144 _ ?_
          show Steps p.tables e below (T143.setTop (mkF m 168 #[.val (.long j0), .second, .val (.long j2), .second, .val (.long j4), .second, .val (.long j6), .second, .val (.int i8), .val (.ref o9), .val (.ref o10), .val (.long j11), .second, .val (.long j13), .second, .val (.long j15), .second, .val (.long j17), .second, .val (.ref b104), .val (.ref b116), .val (.int (((i8.toUInt32 >>> ((2 : Int32) &&& 31).toUInt32).toInt32) &&& (3 : Int32))), .unset] [(.int (F5o))])) _
          refine XS.ifYes X143.here hx rfl (pc0 := 168) (pc' := 175) rfl (hb hby at_168) rfl ((if0 _ _).trans (feq hc145).2) (by decide) (by decide) ?_
          exact k
        have pre149 : ∀ t, Steps p.tables e below (T143.setTop (mkF m 176 #[.val (.long j0), .second, .val (.long j2), .second, .val (.long j4), .second, .val (.long j6), .second, .val (.int i8), .val (.ref o9), .val (.ref o10), .val (.long j11), .second, .val (.long j13), .second, .val (.long j15), .second, .val (.long j17), .second, .val (.ref b104), .val (.ref b116), .val (.int (((i8.toUInt32 >>> ((2 : Int32) &&& 31).toUInt32).toInt32) &&& (3 : Int32))), .unset] [(.int (0 : Int32))])) t → Steps p.tables e below (T0.setTop (mkF m 96 #[.val (.long j0), .second, .val (.long j2), .second, .val (.long j4), .second, .val (.long j6), .second, .val (.int i8), .val (.ref o9), .val (.ref o10), .val (.long j11), .second, .val (.long j13), .second, .val (.long j15), .second, .val (.long j17), .second, .unset, .unset, .unset, .unset] [])) t := by
          intro t k
          refine pre148 _ ?_
          show Steps p.tables e below (T143.setTop (mkF m 175 #[.val (.long j0), .second, .val (.long j2), .second, .val (.long j4), .second, .val (.long j6), .second, .val (.int i8), .val (.ref o9), .val (.ref o10), .val (.long j11), .second, .val (.long j13), .second, .val (.long j15), .second, .val (.long j17), .second, .val (.ref b104), .val (.ref b116), .val (.int (((i8.toUInt32 >>> ((2 : Int32) &&& 31).toUInt32).toInt32) &&& (3 : Int32))), .unset] [])) _
          refine XS.iconst X143.here hx rfl (hb hby at_175) ?_
          exact k
        obtain ⟨fs, hr, hrun, hended, hsame⟩ := Stand.leaveW (s := s) (vm₁ := T122.vm) X143 hS122 (by rw [e143]; exact (Nat.le_refl _)) (v := some (.int (0 : Int32))) (fun h => by rw [hret] at h; cases h)
        refine ⟨_, _, pre149 _ ?_, hrun, hended, _, _, rfl, ?_, ⟨hsame.1, hsame.2.1, hsame.2.2.1, hsame.2.2.2.mono (by decide) (by decide)⟩⟩
        · show Steps p.tables e below (T143.setTop (mkF m 176 #[.val (.long j0), .second, .val (.long j2), .second, .val (.long j4), .second, .val (.long j6), .second, .val (.int i8), .val (.ref o9), .val (.ref o10), .val (.long j11), .second, .val (.long j13), .second, .val (.long j15), .second, .val (.long j17), .second, .val (.ref b104), .val (.ref b116), .val (.int (((i8.toUInt32 >>> ((2 : Int32) &&& 31).toUInt32).toInt32) &&& (3 : Int32))), .unset] [(.int (0 : Int32))])) _
          exact retN X143 hx (t := .boolean) hret (by simp) (hb hby at_176) hr
        · exact ⟨(by rw [F0_96_0, if_neg hc128, if_pos hc140, if_neg hc145]), N143⟩
    · have pre150 : ∀ t, Steps p.tables e below (T122.setTop (mkF m 177 #[.val (.long j0), .second, .val (.long j2), .second, .val (.long j4), .second, .val (.long j6), .second, .val (.int i8), .val (.ref o9), .val (.ref o10), .val (.long j11), .second, .val (.long j13), .second, .val (.long j15), .second, .val (.long j17), .second, .val (.ref b104), .val (.ref b116), .val (.int (((i8.toUInt32 >>> ((2 : Int32) &&& 31).toUInt32).toInt32) &&& (3 : Int32))), .unset] [])) t → Steps p.tables e below (T0.setTop (mkF m 96 #[.val (.long j0), .second, .val (.long j2), .second, .val (.long j4), .second, .val (.long j6), .second, .val (.int i8), .val (.ref o9), .val (.ref o10), .val (.long j11), .second, .val (.long j13), .second, .val (.long j15), .second, .val (.long j17), .second, .unset, .unset, .unset, .unset] [])) t := by
        intro t k
        refine pre139 _ ?_
        show Steps p.tables e below (T122.setTop (mkF m 158 #[.val (.long j0), .second, .val (.long j2), .second, .val (.long j4), .second, .val (.long j6), .second, .val (.int i8), .val (.ref o9), .val (.ref o10), .val (.long j11), .second, .val (.long j13), .second, .val (.long j15), .second, .val (.long j17), .second, .val (.ref b104), .val (.ref b116), .val (.int (((i8.toUInt32 >>> ((2 : Int32) &&& 31).toUInt32).toInt32) &&& (3 : Int32))), .unset] [(.int (2 : Int32)), (.int (((i8.toUInt32 >>> ((2 : Int32) &&& 31).toUInt32).toInt32) &&& (3 : Int32)))])) _
        refine XS.icmpYes X122.here hx rfl (pc0 := 158) (pc' := 177) rfl (hb hby at_158) rfl (feq hc140).2 (by decide) (by decide) ?_
        exact k
      have pre151 : ∀ t, Steps p.tables e below (T122.setTop (mkF m 180 #[.val (.long j0), .second, .val (.long j2), .second, .val (.long j4), .second, .val (.long j6), .second, .val (.int i8), .val (.ref o9), .val (.ref o10), .val (.long j11), .second, .val (.long j13), .second, .val (.long j15), .second, .val (.long j17), .second, .val (.ref b104), .val (.ref b116), .val (.int (((i8.toUInt32 >>> ((2 : Int32) &&& 31).toUInt32).toInt32) &&& (3 : Int32))), .unset] [(.int (3 : Int32)), (.int (((i8.toUInt32 >>> ((2 : Int32) &&& 31).toUInt32).toInt32) &&& (3 : Int32)))])) t → Steps p.tables e below (T0.setTop (mkF m 96 #[.val (.long j0), .second, .val (.long j2), .second, .val (.long j4), .second, .val (.long j6), .second, .val (.int i8), .val (.ref o9), .val (.ref o10), .val (.long j11), .second, .val (.long j13), .second, .val (.long j15), .second, .val (.long j17), .second, .unset, .unset, .unset, .unset] [])) t := by
        intro t k
        refine pre150 _ ?_
        show Steps p.tables e below (T122.setTop (mkF m 177 #[.val (.long j0), .second, .val (.long j2), .second, .val (.long j4), .second, .val (.long j6), .second, .val (.int i8), .val (.ref o9), .val (.ref o10), .val (.long j11), .second, .val (.long j13), .second, .val (.long j15), .second, .val (.long j17), .second, .val (.ref b104), .val (.ref b116), .val (.int (((i8.toUInt32 >>> ((2 : Int32) &&& 31).toUInt32).toInt32) &&& (3 : Int32))), .unset] [])) _
        refine XS.iload X122.here hx rfl (hb hby at_177) rfl ?_
        show Steps p.tables e below (T122.setTop (mkF m 179 #[.val (.long j0), .second, .val (.long j2), .second, .val (.long j4), .second, .val (.long j6), .second, .val (.int i8), .val (.ref o9), .val (.ref o10), .val (.long j11), .second, .val (.long j13), .second, .val (.long j15), .second, .val (.long j17), .second, .val (.ref b104), .val (.ref b116), .val (.int (((i8.toUInt32 >>> ((2 : Int32) &&& 31).toUInt32).toInt32) &&& (3 : Int32))), .unset] [(.int (((i8.toUInt32 >>> ((2 : Int32) &&& 31).toUInt32).toInt32) &&& (3 : Int32)))])) _
        refine XS.iconst X122.here hx rfl (hb hby at_179) ?_
        exact k
      by_cases hc152 : (((i8.toUInt32 >>> ((2 : Int32) &&& 31).toUInt32).toInt32) &&& (3 : Int32)) = (3 : Int32)
      · have pre153 : ∀ t, Steps p.tables e below (T122.setTop (mkF m 183 #[.val (.long j0), .second, .val (.long j2), .second, .val (.long j4), .second, .val (.long j6), .second, .val (.int i8), .val (.ref o9), .val (.ref o10), .val (.long j11), .second, .val (.long j13), .second, .val (.long j15), .second, .val (.long j17), .second, .val (.ref b104), .val (.ref b116), .val (.int (((i8.toUInt32 >>> ((2 : Int32) &&& 31).toUInt32).toInt32) &&& (3 : Int32))), .unset] [])) t → Steps p.tables e below (T0.setTop (mkF m 96 #[.val (.long j0), .second, .val (.long j2), .second, .val (.long j4), .second, .val (.long j6), .second, .val (.int i8), .val (.ref o9), .val (.ref o10), .val (.long j11), .second, .val (.long j13), .second, .val (.long j15), .second, .val (.long j17), .second, .unset, .unset, .unset, .unset] [])) t := by
          intro t k
          refine pre151 _ ?_
          show Steps p.tables e below (T122.setTop (mkF m 180 #[.val (.long j0), .second, .val (.long j2), .second, .val (.long j4), .second, .val (.long j6), .second, .val (.int i8), .val (.ref o9), .val (.ref o10), .val (.long j11), .second, .val (.long j13), .second, .val (.long j15), .second, .val (.long j17), .second, .val (.ref b104), .val (.ref b116), .val (.int (((i8.toUInt32 >>> ((2 : Int32) &&& 31).toUInt32).toInt32) &&& (3 : Int32))), .unset] [(.int (3 : Int32)), (.int (((i8.toUInt32 >>> ((2 : Int32) &&& 31).toUInt32).toInt32) &&& (3 : Int32)))])) _
          refine XS.icmpNo X122.here hx rfl (hb hby at_180) rfl (teq hc152).2 ?_
          exact k
        have pre154 : ∀ t, Steps p.tables e below (T122.setTop (mkF m 187 #[.val (.long j0), .second, .val (.long j2), .second, .val (.long j4), .second, .val (.long j6), .second, .val (.int i8), .val (.ref o9), .val (.ref o10), .val (.long j11), .second, .val (.long j13), .second, .val (.long j15), .second, .val (.long j17), .second, .val (.ref b104), .val (.ref b116), .val (.int (((i8.toUInt32 >>> ((2 : Int32) &&& 31).toUInt32).toInt32) &&& (3 : Int32))), .unset] [(.ref b104), (.ref b104)])) t → Steps p.tables e below (T0.setTop (mkF m 96 #[.val (.long j0), .second, .val (.long j2), .second, .val (.long j4), .second, .val (.long j6), .second, .val (.int i8), .val (.ref o9), .val (.ref o10), .val (.long j11), .second, .val (.long j13), .second, .val (.long j15), .second, .val (.long j17), .second, .unset, .unset, .unset, .unset] [])) t := by
          intro t k
          refine pre153 _ ?_
          show Steps p.tables e below (T122.setTop (mkF m 183 #[.val (.long j0), .second, .val (.long j2), .second, .val (.long j4), .second, .val (.long j6), .second, .val (.int i8), .val (.ref o9), .val (.ref o10), .val (.long j11), .second, .val (.long j13), .second, .val (.long j15), .second, .val (.long j17), .second, .val (.ref b104), .val (.ref b116), .val (.int (((i8.toUInt32 >>> ((2 : Int32) &&& 31).toUInt32).toInt32) &&& (3 : Int32))), .unset] [])) _
          refine XS.aload X122.here hx rfl (hb hby at_183) rfl rfl ?_
          show Steps p.tables e below (T122.setTop (mkF m 185 #[.val (.long j0), .second, .val (.long j2), .second, .val (.long j4), .second, .val (.long j6), .second, .val (.int i8), .val (.ref o9), .val (.ref o10), .val (.long j11), .second, .val (.long j13), .second, .val (.long j15), .second, .val (.long j17), .second, .val (.ref b104), .val (.ref b116), .val (.int (((i8.toUInt32 >>> ((2 : Int32) &&& 31).toUInt32).toInt32) &&& (3 : Int32))), .unset] [(.ref b104)])) _
          refine XS.aload X122.here hx rfl (hb hby at_185) rfl rfl ?_
          exact k
        obtain ⟨cq155, kq155, q155a, q155b, q155c⟩ := isOf hZ122 rfl ((E110.ext E116).keep K122)
        obtain ⟨_, _, ⟨T155, L155, k155, n155⟩, -, X155, ⟨Lc155, hQ155, l155, y155, z155⟩, st155⟩ := X122.virtualBack hx (y := (⟨"com/example/tabuleiro/tabuleiro/othello/OthelloPosition", "equals", "(Ljava/lang/Object;)Z"⟩ : MethodName)) (z := (⟨"com/example/tabuleiro/tabuleiro/othello/OthelloPosition", "equals", "(Ljava/lang/Object;)Z"⟩ : MethodName)) hown122 (mvT hZ122 (hw _ (List.mem_of_getElem? (i := 36) rfl))) (mvT hZ122 (hw _ (List.mem_of_getElem? (i := 37) rfl))) (notFace_of_selects (args := #[]) (mvT hZ122 (hw _ (List.mem_of_getElem? (i := 39) rfl)))) (mvT hZ122 (hw _ (List.mem_of_getElem? (i := 39) rfl))) (mvT hZ122 (hw _ (List.mem_of_getElem? (i := 38) rfl))) (by decide) (backOf (W := 0) (rm5s l Z a0 hw [] b104 b104 j11 j11 j13 j13 o9 o9 T122.heap n0 Z124 ((E110.ext E116).keep K122) ((F110a.ext E116).keep K122 (ninS ne_b104_b116 nin0)) ((F110a.ext E116).keep K122 (ninS ne_b104_b116 nin0)) ((F110b.ext E116).keep K122 (ninS ne_b104_b116 nin0)) ((F110b.ext E116).keep K122 (ninS ne_b104_b116 nin0)) ((F110c.ext E116).keep K122 (ninS ne_b104_b116 nin0)) ((F110c.ext E116).keep K122 (ninS ne_b104_b116 nin0))) hZ122 (hw _ (List.mem_of_getElem? (i := 40) rfl)) (hw _ (List.mem_of_getElem? (i := 6) rfl)) (by decide) (by decide)) q155a q155c (g := (mkF m 187 #[.val (.long j0), .second, .val (.long j2), .second, .val (.long j4), .second, .val (.long j6), .second, .val (.int i8), .val (.ref o9), .val (.ref o10), .val (.long j11), .second, .val (.long j13), .second, .val (.long j15), .second, .val (.long j17), .second, .val (.ref b104), .val (.ref b116), .val (.int (((i8.toUInt32 >>> ((2 : Int32) &&& 31).toUInt32).toInt32) &&& (3 : Int32))), .unset] [(.ref b104), (.ref b104)])) rfl (by rw [hml]; rfl) (Steps.refl _) (argsL := [(.ref b104)]) (rest := []) (lenOf pd__Ljava_lang_Object__Z rfl) rfl (by show 2 * 0 + _ ≤ _; exact Nat.le_of_eq rfl) (hb hby at_187) (fun _ _ => ⟨rfl, rfl, (by decide : 6 + 0 ≤ _), (by decide : 62 + 0 ≤ _)⟩)
        dsimp only [Pt.U, Pt.locs, Pt.cells, Pt.slots] at X155 l155 y155 z155 st155 hQ155
        subst l155 y155 z155
        obtain ⟨rfl, N155q, e155⟩ := hQ155
        have N155 := Fr.app N122 N155q
        have pre156 : ∀ t, Steps p.tables e below (T155.setTop (mkF m 190 #[.val (.long j0), .second, .val (.long j2), .second, .val (.long j4), .second, .val (.long j6), .second, .val (.int i8), .val (.ref o9), .val (.ref o10), .val (.long j11), .second, .val (.long j13), .second, .val (.long j15), .second, .val (.long j17), .second, .val (.ref b104), .val (.ref b116), .val (.int (((i8.toUInt32 >>> ((2 : Int32) &&& 31).toUInt32).toInt32) &&& (3 : Int32))), .unset] [(.int (F5s j11 j11 j13 j13 o9 o9))])) t → Steps p.tables e below (T0.setTop (mkF m 96 #[.val (.long j0), .second, .val (.long j2), .second, .val (.long j4), .second, .val (.long j6), .second, .val (.int i8), .val (.ref o9), .val (.ref o10), .val (.long j11), .second, .val (.long j13), .second, .val (.long j15), .second, .val (.long j17), .second, .unset, .unset, .unset, .unset] [])) t := by
          intro t k
          refine pre154 _ ?_
          show Steps p.tables e below (T122.setTop (mkF m 187 #[.val (.long j0), .second, .val (.long j2), .second, .val (.long j4), .second, .val (.long j6), .second, .val (.int i8), .val (.ref o9), .val (.ref o10), .val (.long j11), .second, .val (.long j13), .second, .val (.long j15), .second, .val (.long j17), .second, .val (.ref b104), .val (.ref b116), .val (.int (((i8.toUInt32 >>> ((2 : Int32) &&& 31).toUInt32).toInt32) &&& (3 : Int32))), .unset] [(.ref b104), (.ref b104)])) _
          refine st155.trans ?_
          exact k
        obtain ⟨fs, hr, hrun, hended, hsame⟩ := Stand.leaveW (s := s) (vm₁ := T122.vm) X155 hS122 (by rw [e155]; exact (Nat.le_refl _)) (v := some (.int (nar .boolean (F5s j11 j11 j13 j13 o9 o9)))) (fun h => by rw [hret] at h; cases h)
        refine ⟨_, _, pre156 _ ?_, hrun, hended, _, _, rfl, ?_, ⟨hsame.1, hsame.2.1, hsame.2.2.1, hsame.2.2.2.mono (by decide) (by decide)⟩⟩
        · show Steps p.tables e below (T155.setTop (mkF m 190 #[.val (.long j0), .second, .val (.long j2), .second, .val (.long j4), .second, .val (.long j6), .second, .val (.int i8), .val (.ref o9), .val (.ref o10), .val (.long j11), .second, .val (.long j13), .second, .val (.long j15), .second, .val (.long j17), .second, .val (.ref b104), .val (.ref b116), .val (.int (((i8.toUInt32 >>> ((2 : Int32) &&& 31).toUInt32).toInt32) &&& (3 : Int32))), .unset] [(.int (F5s j11 j11 j13 j13 o9 o9))])) _
          exact retN X155 hx (t := .boolean) hret (by simp) (hb hby at_190) hr
        · exact ⟨(by rw [F0_96_0, if_neg hc128, if_neg hc140, if_pos hc152]), N155⟩
      · have pre157 : ∀ t, Steps p.tables e below (T122.setTop (mkF m 191 #[.val (.long j0), .second, .val (.long j2), .second, .val (.long j4), .second, .val (.long j6), .second, .val (.int i8), .val (.ref o9), .val (.ref o10), .val (.long j11), .second, .val (.long j13), .second, .val (.long j15), .second, .val (.long j17), .second, .val (.ref b104), .val (.ref b116), .val (.int (((i8.toUInt32 >>> ((2 : Int32) &&& 31).toUInt32).toInt32) &&& (3 : Int32))), .unset] [])) t → Steps p.tables e below (T0.setTop (mkF m 96 #[.val (.long j0), .second, .val (.long j2), .second, .val (.long j4), .second, .val (.long j6), .second, .val (.int i8), .val (.ref o9), .val (.ref o10), .val (.long j11), .second, .val (.long j13), .second, .val (.long j15), .second, .val (.long j17), .second, .unset, .unset, .unset, .unset] [])) t := by
          intro t k
          refine pre151 _ ?_
          show Steps p.tables e below (T122.setTop (mkF m 180 #[.val (.long j0), .second, .val (.long j2), .second, .val (.long j4), .second, .val (.long j6), .second, .val (.int i8), .val (.ref o9), .val (.ref o10), .val (.long j11), .second, .val (.long j13), .second, .val (.long j15), .second, .val (.long j17), .second, .val (.ref b104), .val (.ref b116), .val (.int (((i8.toUInt32 >>> ((2 : Int32) &&& 31).toUInt32).toInt32) &&& (3 : Int32))), .unset] [(.int (3 : Int32)), (.int (((i8.toUInt32 >>> ((2 : Int32) &&& 31).toUInt32).toInt32) &&& (3 : Int32)))])) _
          refine XS.icmpYes X122.here hx rfl (pc0 := 180) (pc' := 191) rfl (hb hby at_180) rfl (feq hc152).2 (by decide) (by decide) ?_
          exact k
        have pre158 : ∀ t, Steps p.tables e below (T122.setTop (mkF m 196 #[.val (.long j0), .second, .val (.long j2), .second, .val (.long j4), .second, .val (.long j6), .second, .val (.int i8), .val (.ref o9), .val (.ref o10), .val (.long j11), .second, .val (.long j13), .second, .val (.long j15), .second, .val (.long j17), .second, .val (.ref b104), .val (.ref b116), .val (.int (((i8.toUInt32 >>> ((2 : Int32) &&& 31).toUInt32).toInt32) &&& (3 : Int32))), .unset] [(.int (lcmpW j11 j15))])) t → Steps p.tables e below (T0.setTop (mkF m 96 #[.val (.long j0), .second, .val (.long j2), .second, .val (.long j4), .second, .val (.long j6), .second, .val (.int i8), .val (.ref o9), .val (.ref o10), .val (.long j11), .second, .val (.long j13), .second, .val (.long j15), .second, .val (.long j17), .second, .unset, .unset, .unset, .unset] [])) t := by
          intro t k
          refine pre157 _ ?_
          show Steps p.tables e below (T122.setTop (mkF m 191 #[.val (.long j0), .second, .val (.long j2), .second, .val (.long j4), .second, .val (.long j6), .second, .val (.int i8), .val (.ref o9), .val (.ref o10), .val (.long j11), .second, .val (.long j13), .second, .val (.long j15), .second, .val (.long j17), .second, .val (.ref b104), .val (.ref b116), .val (.int (((i8.toUInt32 >>> ((2 : Int32) &&& 31).toUInt32).toInt32) &&& (3 : Int32))), .unset] [])) _
          refine XS.lload X122.here hx rfl (hb hby at_191) rfl ?_
          show Steps p.tables e below (T122.setTop (mkF m 193 #[.val (.long j0), .second, .val (.long j2), .second, .val (.long j4), .second, .val (.long j6), .second, .val (.int i8), .val (.ref o9), .val (.ref o10), .val (.long j11), .second, .val (.long j13), .second, .val (.long j15), .second, .val (.long j17), .second, .val (.ref b104), .val (.ref b116), .val (.int (((i8.toUInt32 >>> ((2 : Int32) &&& 31).toUInt32).toInt32) &&& (3 : Int32))), .unset] [(.long j11)])) _
          refine XS.lload X122.here hx rfl (hb hby at_193) rfl ?_
          show Steps p.tables e below (T122.setTop (mkF m 195 #[.val (.long j0), .second, .val (.long j2), .second, .val (.long j4), .second, .val (.long j6), .second, .val (.int i8), .val (.ref o9), .val (.ref o10), .val (.long j11), .second, .val (.long j13), .second, .val (.long j15), .second, .val (.long j17), .second, .val (.ref b104), .val (.ref b116), .val (.int (((i8.toUInt32 >>> ((2 : Int32) &&& 31).toUInt32).toInt32) &&& (3 : Int32))), .unset] [(.long j15), (.long j11)])) _
          refine XS.lcmp X122.here hx rfl (hb hby at_195) rfl ?_
          exact k
        by_cases hc159 : (lcmpW j11 j15) = (0 : Int32)
        · have pre160 : ∀ t, Steps p.tables e below (T122.setTop (mkF m 199 #[.val (.long j0), .second, .val (.long j2), .second, .val (.long j4), .second, .val (.long j6), .second, .val (.int i8), .val (.ref o9), .val (.ref o10), .val (.long j11), .second, .val (.long j13), .second, .val (.long j15), .second, .val (.long j17), .second, .val (.ref b104), .val (.ref b116), .val (.int (((i8.toUInt32 >>> ((2 : Int32) &&& 31).toUInt32).toInt32) &&& (3 : Int32))), .unset] [])) t → Steps p.tables e below (T0.setTop (mkF m 96 #[.val (.long j0), .second, .val (.long j2), .second, .val (.long j4), .second, .val (.long j6), .second, .val (.int i8), .val (.ref o9), .val (.ref o10), .val (.long j11), .second, .val (.long j13), .second, .val (.long j15), .second, .val (.long j17), .second, .unset, .unset, .unset, .unset] [])) t := by
            intro t k
            refine pre158 _ ?_
            show Steps p.tables e below (T122.setTop (mkF m 196 #[.val (.long j0), .second, .val (.long j2), .second, .val (.long j4), .second, .val (.long j6), .second, .val (.int i8), .val (.ref o9), .val (.ref o10), .val (.long j11), .second, .val (.long j13), .second, .val (.long j15), .second, .val (.long j17), .second, .val (.ref b104), .val (.ref b116), .val (.int (((i8.toUInt32 >>> ((2 : Int32) &&& 31).toUInt32).toInt32) &&& (3 : Int32))), .unset] [(.int (lcmpW j11 j15))])) _
            refine XS.ifNo X122.here hx rfl (hb hby at_196) rfl ((if0 _ _).trans (teq hc159).2) ?_
            exact k
          have pre161 : ∀ t, Steps p.tables e below (T122.setTop (mkF m 204 #[.val (.long j0), .second, .val (.long j2), .second, .val (.long j4), .second, .val (.long j6), .second, .val (.int i8), .val (.ref o9), .val (.ref o10), .val (.long j11), .second, .val (.long j13), .second, .val (.long j15), .second, .val (.long j17), .second, .val (.ref b104), .val (.ref b116), .val (.int (((i8.toUInt32 >>> ((2 : Int32) &&& 31).toUInt32).toInt32) &&& (3 : Int32))), .unset] [(.int (lcmpW j13 j17))])) t → Steps p.tables e below (T0.setTop (mkF m 96 #[.val (.long j0), .second, .val (.long j2), .second, .val (.long j4), .second, .val (.long j6), .second, .val (.int i8), .val (.ref o9), .val (.ref o10), .val (.long j11), .second, .val (.long j13), .second, .val (.long j15), .second, .val (.long j17), .second, .unset, .unset, .unset, .unset] [])) t := by
            intro t k
            refine pre160 _ ?_
            show Steps p.tables e below (T122.setTop (mkF m 199 #[.val (.long j0), .second, .val (.long j2), .second, .val (.long j4), .second, .val (.long j6), .second, .val (.int i8), .val (.ref o9), .val (.ref o10), .val (.long j11), .second, .val (.long j13), .second, .val (.long j15), .second, .val (.long j17), .second, .val (.ref b104), .val (.ref b116), .val (.int (((i8.toUInt32 >>> ((2 : Int32) &&& 31).toUInt32).toInt32) &&& (3 : Int32))), .unset] [])) _
            refine XS.lload X122.here hx rfl (hb hby at_199) rfl ?_
            show Steps p.tables e below (T122.setTop (mkF m 201 #[.val (.long j0), .second, .val (.long j2), .second, .val (.long j4), .second, .val (.long j6), .second, .val (.int i8), .val (.ref o9), .val (.ref o10), .val (.long j11), .second, .val (.long j13), .second, .val (.long j15), .second, .val (.long j17), .second, .val (.ref b104), .val (.ref b116), .val (.int (((i8.toUInt32 >>> ((2 : Int32) &&& 31).toUInt32).toInt32) &&& (3 : Int32))), .unset] [(.long j13)])) _
            refine XS.lload X122.here hx rfl (hb hby at_201) rfl ?_
            show Steps p.tables e below (T122.setTop (mkF m 203 #[.val (.long j0), .second, .val (.long j2), .second, .val (.long j4), .second, .val (.long j6), .second, .val (.int i8), .val (.ref o9), .val (.ref o10), .val (.long j11), .second, .val (.long j13), .second, .val (.long j15), .second, .val (.long j17), .second, .val (.ref b104), .val (.ref b116), .val (.int (((i8.toUInt32 >>> ((2 : Int32) &&& 31).toUInt32).toInt32) &&& (3 : Int32))), .unset] [(.long j17), (.long j13)])) _
            refine XS.lcmp X122.here hx rfl (hb hby at_203) rfl ?_
            exact k
          by_cases hc162 : (lcmpW j13 j17) = (0 : Int32)
          · have pre163 : ∀ t, Steps p.tables e below (T122.setTop (mkF m 207 #[.val (.long j0), .second, .val (.long j2), .second, .val (.long j4), .second, .val (.long j6), .second, .val (.int i8), .val (.ref o9), .val (.ref o10), .val (.long j11), .second, .val (.long j13), .second, .val (.long j15), .second, .val (.long j17), .second, .val (.ref b104), .val (.ref b116), .val (.int (((i8.toUInt32 >>> ((2 : Int32) &&& 31).toUInt32).toInt32) &&& (3 : Int32))), .unset] [])) t → Steps p.tables e below (T0.setTop (mkF m 96 #[.val (.long j0), .second, .val (.long j2), .second, .val (.long j4), .second, .val (.long j6), .second, .val (.int i8), .val (.ref o9), .val (.ref o10), .val (.long j11), .second, .val (.long j13), .second, .val (.long j15), .second, .val (.long j17), .second, .unset, .unset, .unset, .unset] [])) t := by
              intro t k
              refine pre161 _ ?_
              show Steps p.tables e below (T122.setTop (mkF m 204 #[.val (.long j0), .second, .val (.long j2), .second, .val (.long j4), .second, .val (.long j6), .second, .val (.int i8), .val (.ref o9), .val (.ref o10), .val (.long j11), .second, .val (.long j13), .second, .val (.long j15), .second, .val (.long j17), .second, .val (.ref b104), .val (.ref b116), .val (.int (((i8.toUInt32 >>> ((2 : Int32) &&& 31).toUInt32).toInt32) &&& (3 : Int32))), .unset] [(.int (lcmpW j13 j17))])) _
              refine XS.ifNo X122.here hx rfl (hb hby at_204) rfl ((if0 _ _).trans (teq hc162).2) ?_
              exact k
            have pre164 : ∀ t, Steps p.tables e below (T122.setTop (mkF m 211 #[.val (.long j0), .second, .val (.long j2), .second, .val (.long j4), .second, .val (.long j6), .second, .val (.int i8), .val (.ref o9), .val (.ref o10), .val (.long j11), .second, .val (.long j13), .second, .val (.long j15), .second, .val (.long j17), .second, .val (.ref b104), .val (.ref b116), .val (.int (((i8.toUInt32 >>> ((2 : Int32) &&& 31).toUInt32).toInt32) &&& (3 : Int32))), .unset] [(.ref o10), (.ref o9)])) t → Steps p.tables e below (T0.setTop (mkF m 96 #[.val (.long j0), .second, .val (.long j2), .second, .val (.long j4), .second, .val (.long j6), .second, .val (.int i8), .val (.ref o9), .val (.ref o10), .val (.long j11), .second, .val (.long j13), .second, .val (.long j15), .second, .val (.long j17), .second, .unset, .unset, .unset, .unset] [])) t := by
              intro t k
              refine pre163 _ ?_
              show Steps p.tables e below (T122.setTop (mkF m 207 #[.val (.long j0), .second, .val (.long j2), .second, .val (.long j4), .second, .val (.long j6), .second, .val (.int i8), .val (.ref o9), .val (.ref o10), .val (.long j11), .second, .val (.long j13), .second, .val (.long j15), .second, .val (.long j17), .second, .val (.ref b104), .val (.ref b116), .val (.int (((i8.toUInt32 >>> ((2 : Int32) &&& 31).toUInt32).toInt32) &&& (3 : Int32))), .unset] [])) _
              refine XS.aload X122.here hx rfl (hb hby at_207) rfl rfl ?_
              show Steps p.tables e below (T122.setTop (mkF m 209 #[.val (.long j0), .second, .val (.long j2), .second, .val (.long j4), .second, .val (.long j6), .second, .val (.int i8), .val (.ref o9), .val (.ref o10), .val (.long j11), .second, .val (.long j13), .second, .val (.long j15), .second, .val (.long j17), .second, .val (.ref b104), .val (.ref b116), .val (.int (((i8.toUInt32 >>> ((2 : Int32) &&& 31).toUInt32).toInt32) &&& (3 : Int32))), .unset] [(.ref o9)])) _
              refine XS.aload X122.here hx rfl (hb hby at_209) rfl rfl ?_
              exact k
            by_cases ha165 : o9 = o10
            · have pre166 : ∀ t, Steps p.tables e below (T122.setTop (mkF m 214 #[.val (.long j0), .second, .val (.long j2), .second, .val (.long j4), .second, .val (.long j6), .second, .val (.int i8), .val (.ref o9), .val (.ref o10), .val (.long j11), .second, .val (.long j13), .second, .val (.long j15), .second, .val (.long j17), .second, .val (.ref b104), .val (.ref b116), .val (.int (((i8.toUInt32 >>> ((2 : Int32) &&& 31).toUInt32).toInt32) &&& (3 : Int32))), .unset] [])) t → Steps p.tables e below (T0.setTop (mkF m 96 #[.val (.long j0), .second, .val (.long j2), .second, .val (.long j4), .second, .val (.long j6), .second, .val (.int i8), .val (.ref o9), .val (.ref o10), .val (.long j11), .second, .val (.long j13), .second, .val (.long j15), .second, .val (.long j17), .second, .unset, .unset, .unset, .unset] [])) t := by
                intro t k
                refine pre164 _ ?_
                show Steps p.tables e below (T122.setTop (mkF m 211 #[.val (.long j0), .second, .val (.long j2), .second, .val (.long j4), .second, .val (.long j6), .second, .val (.int i8), .val (.ref o9), .val (.ref o10), .val (.long j11), .second, .val (.long j13), .second, .val (.long j15), .second, .val (.long j17), .second, .val (.ref b104), .val (.ref b116), .val (.int (((i8.toUInt32 >>> ((2 : Int32) &&& 31).toUInt32).toInt32) &&& (3 : Int32))), .unset] [(.ref o10), (.ref o9)])) _
                refine Jvm.RoadKit.acmp (g := (mkF m 211 #[.val (.long j0), .second, .val (.long j2), .second, .val (.long j4), .second, .val (.long j6), .second, .val (.int i8), .val (.ref o9), .val (.ref o10), .val (.long j11), .second, .val (.long j13), .second, .val (.long j15), .second, .val (.long j17), .second, .val (.ref b104), .val (.ref b116), .val (.int (((i8.toUInt32 >>> ((2 : Int32) &&& 31).toUInt32).toInt32) &&& (3 : Int32))), .unset] [(.ref o10), (.ref o9)])) X122 hx rfl rfl rfl (pc0 := 211) (pc' := 214) (same := true) rfl (hb hby at_211) rfl (decide_eq_true (congrArg Value.ref ha165)) (by decide) (by decide) ?_
                exact k
              have pre167 : ∀ t, Steps p.tables e below (T122.setTop (mkF m 225 #[.val (.long j0), .second, .val (.long j2), .second, .val (.long j4), .second, .val (.long j6), .second, .val (.int i8), .val (.ref o9), .val (.ref o10), .val (.long j11), .second, .val (.long j13), .second, .val (.long j15), .second, .val (.long j17), .second, .val (.ref b104), .val (.ref b116), .val (.int (((i8.toUInt32 >>> ((2 : Int32) &&& 31).toUInt32).toInt32) &&& (3 : Int32))), .val (.int (1 : Int32))] [(.ref b116), (.ref b104)])) t → Steps p.tables e below (T0.setTop (mkF m 96 #[.val (.long j0), .second, .val (.long j2), .second, .val (.long j4), .second, .val (.long j6), .second, .val (.int i8), .val (.ref o9), .val (.ref o10), .val (.long j11), .second, .val (.long j13), .second, .val (.long j15), .second, .val (.long j17), .second, .unset, .unset, .unset, .unset] [])) t := by
                intro t k
                refine pre166 _ ?_
                show Steps p.tables e below (T122.setTop (mkF m 214 #[.val (.long j0), .second, .val (.long j2), .second, .val (.long j4), .second, .val (.long j6), .second, .val (.int i8), .val (.ref o9), .val (.ref o10), .val (.long j11), .second, .val (.long j13), .second, .val (.long j15), .second, .val (.long j17), .second, .val (.ref b104), .val (.ref b116), .val (.int (((i8.toUInt32 >>> ((2 : Int32) &&& 31).toUInt32).toInt32) &&& (3 : Int32))), .unset] [])) _
                refine XS.iconst X122.here hx rfl (hb hby at_214) ?_
                show Steps p.tables e below (T122.setTop (mkF m 215 #[.val (.long j0), .second, .val (.long j2), .second, .val (.long j4), .second, .val (.long j6), .second, .val (.int i8), .val (.ref o9), .val (.ref o10), .val (.long j11), .second, .val (.long j13), .second, .val (.long j15), .second, .val (.long j17), .second, .val (.ref b104), .val (.ref b116), .val (.int (((i8.toUInt32 >>> ((2 : Int32) &&& 31).toUInt32).toInt32) &&& (3 : Int32))), .unset] [(.int (1 : Int32))])) _
                refine XS.goto X122.here hx rfl (pc0 := 215) (pc' := 219) rfl (hb hby at_215) (by decide) (by decide) ?_
                show Steps p.tables e below (T122.setTop (mkF m 219 #[.val (.long j0), .second, .val (.long j2), .second, .val (.long j4), .second, .val (.long j6), .second, .val (.int i8), .val (.ref o9), .val (.ref o10), .val (.long j11), .second, .val (.long j13), .second, .val (.long j15), .second, .val (.long j17), .second, .val (.ref b104), .val (.ref b116), .val (.int (((i8.toUInt32 >>> ((2 : Int32) &&& 31).toUInt32).toInt32) &&& (3 : Int32))), .unset] [(.int (1 : Int32))])) _
                refine XS.istore X122.here hx rfl (hb hby at_219) rfl (l' := #[.val (.long j0), .second, .val (.long j2), .second, .val (.long j4), .second, .val (.long j6), .second, .val (.int i8), .val (.ref o9), .val (.ref o10), .val (.long j11), .second, .val (.long j13), .second, .val (.long j15), .second, .val (.long j17), .second, .val (.ref b104), .val (.ref b116), .val (.int (((i8.toUInt32 >>> ((2 : Int32) &&& 31).toUInt32).toInt32) &&& (3 : Int32))), .val (.int (1 : Int32))]) rfl ?_
                show Steps p.tables e below (T122.setTop (mkF m 221 #[.val (.long j0), .second, .val (.long j2), .second, .val (.long j4), .second, .val (.long j6), .second, .val (.int i8), .val (.ref o9), .val (.ref o10), .val (.long j11), .second, .val (.long j13), .second, .val (.long j15), .second, .val (.long j17), .second, .val (.ref b104), .val (.ref b116), .val (.int (((i8.toUInt32 >>> ((2 : Int32) &&& 31).toUInt32).toInt32) &&& (3 : Int32))), .val (.int (1 : Int32))] [])) _
                refine XS.aload X122.here hx rfl (hb hby at_221) rfl rfl ?_
                show Steps p.tables e below (T122.setTop (mkF m 223 #[.val (.long j0), .second, .val (.long j2), .second, .val (.long j4), .second, .val (.long j6), .second, .val (.int i8), .val (.ref o9), .val (.ref o10), .val (.long j11), .second, .val (.long j13), .second, .val (.long j15), .second, .val (.long j17), .second, .val (.ref b104), .val (.ref b116), .val (.int (((i8.toUInt32 >>> ((2 : Int32) &&& 31).toUInt32).toInt32) &&& (3 : Int32))), .val (.int (1 : Int32))] [(.ref b104)])) _
                refine XS.aload X122.here hx rfl (hb hby at_223) rfl rfl ?_
                exact k
              obtain ⟨cq168, kq168, q168a, q168b, q168c⟩ := isOf hZ122 rfl ((E110.ext E116).keep K122)
              obtain ⟨_, _, ⟨T168, L168, k168, n168⟩, -, X168, ⟨Lc168, hQ168, l168, y168, z168⟩, st168⟩ := X122.virtualBack hx (y := (⟨"com/example/tabuleiro/tabuleiro/othello/OthelloPosition", "equals", "(Ljava/lang/Object;)Z"⟩ : MethodName)) (z := (⟨"com/example/tabuleiro/tabuleiro/othello/OthelloPosition", "equals", "(Ljava/lang/Object;)Z"⟩ : MethodName)) hown122 (mvT hZ122 (hw _ (List.mem_of_getElem? (i := 36) rfl))) (mvT hZ122 (hw _ (List.mem_of_getElem? (i := 37) rfl))) (notFace_of_selects (args := #[]) (mvT hZ122 (hw _ (List.mem_of_getElem? (i := 39) rfl)))) (mvT hZ122 (hw _ (List.mem_of_getElem? (i := 39) rfl))) (mvT hZ122 (hw _ (List.mem_of_getElem? (i := 38) rfl))) (by decide) (backOf (W := 0) (rm5s l Z a0 hw [] b104 b116 j11 j15 j13 j17 o9 o10 T122.heap n0 Z124 E122 ((F110a.ext E116).keep K122 (ninS ne_b104_b116 nin0)) F122a ((F110b.ext E116).keep K122 (ninS ne_b104_b116 nin0)) F122b ((F110c.ext E116).keep K122 (ninS ne_b104_b116 nin0)) F122c) hZ122 (hw _ (List.mem_of_getElem? (i := 40) rfl)) (hw _ (List.mem_of_getElem? (i := 6) rfl)) (by decide) (by decide)) q168a q168c (g := (mkF m 225 #[.val (.long j0), .second, .val (.long j2), .second, .val (.long j4), .second, .val (.long j6), .second, .val (.int i8), .val (.ref o9), .val (.ref o10), .val (.long j11), .second, .val (.long j13), .second, .val (.long j15), .second, .val (.long j17), .second, .val (.ref b104), .val (.ref b116), .val (.int (((i8.toUInt32 >>> ((2 : Int32) &&& 31).toUInt32).toInt32) &&& (3 : Int32))), .val (.int (1 : Int32))] [(.ref b116), (.ref b104)])) rfl (by rw [hml]; rfl) (Steps.refl _) (argsL := [(.ref b116)]) (rest := []) (lenOf pd__Ljava_lang_Object__Z rfl) rfl (by show 2 * 0 + _ ≤ _; exact Nat.le_of_eq rfl) (hb hby at_225) (fun _ _ => ⟨rfl, rfl, (by decide : 6 + 0 ≤ _), (by decide : 62 + 0 ≤ _)⟩)
              dsimp only [Pt.U, Pt.locs, Pt.cells, Pt.slots] at X168 l168 y168 z168 st168 hQ168
              subst l168 y168 z168
              obtain ⟨rfl, N168q, e168⟩ := hQ168
              have N168 := Fr.app N122 N168q
              have pre169 : ∀ t, Steps p.tables e below (T168.setTop (mkF m 228 #[.val (.long j0), .second, .val (.long j2), .second, .val (.long j4), .second, .val (.long j6), .second, .val (.int i8), .val (.ref o9), .val (.ref o10), .val (.long j11), .second, .val (.long j13), .second, .val (.long j15), .second, .val (.long j17), .second, .val (.ref b104), .val (.ref b116), .val (.int (((i8.toUInt32 >>> ((2 : Int32) &&& 31).toUInt32).toInt32) &&& (3 : Int32))), .val (.int (1 : Int32))] [(.int (F5s j11 j15 j13 j17 o9 o10))])) t → Steps p.tables e below (T0.setTop (mkF m 96 #[.val (.long j0), .second, .val (.long j2), .second, .val (.long j4), .second, .val (.long j6), .second, .val (.int i8), .val (.ref o9), .val (.ref o10), .val (.long j11), .second, .val (.long j13), .second, .val (.long j15), .second, .val (.long j17), .second, .unset, .unset, .unset, .unset] [])) t := by
                intro t k
                refine pre167 _ ?_
                show Steps p.tables e below (T122.setTop (mkF m 225 #[.val (.long j0), .second, .val (.long j2), .second, .val (.long j4), .second, .val (.long j6), .second, .val (.int i8), .val (.ref o9), .val (.ref o10), .val (.long j11), .second, .val (.long j13), .second, .val (.long j15), .second, .val (.long j17), .second, .val (.ref b104), .val (.ref b116), .val (.int (((i8.toUInt32 >>> ((2 : Int32) &&& 31).toUInt32).toInt32) &&& (3 : Int32))), .val (.int (1 : Int32))] [(.ref b116), (.ref b104)])) _
                refine st168.trans ?_
                exact k
              have pre170 : ∀ t, Steps p.tables e below (T168.setTop (mkF m 230 #[.val (.long j0), .second, .val (.long j2), .second, .val (.long j4), .second, .val (.long j6), .second, .val (.int i8), .val (.ref o9), .val (.ref o10), .val (.long j11), .second, .val (.long j13), .second, .val (.long j15), .second, .val (.long j17), .second, .val (.ref b104), .val (.ref b116), .val (.int (((i8.toUInt32 >>> ((2 : Int32) &&& 31).toUInt32).toInt32) &&& (3 : Int32))), .val (.int (1 : Int32))] [(.int (1 : Int32)), (.int (F5s j11 j15 j13 j17 o9 o10))])) t → Steps p.tables e below (T0.setTop (mkF m 96 #[.val (.long j0), .second, .val (.long j2), .second, .val (.long j4), .second, .val (.long j6), .second, .val (.int i8), .val (.ref o9), .val (.ref o10), .val (.long j11), .second, .val (.long j13), .second, .val (.long j15), .second, .val (.long j17), .second, .unset, .unset, .unset, .unset] [])) t := by
                intro t k
                refine pre169 _ ?_
                show Steps p.tables e below (T168.setTop (mkF m 228 #[.val (.long j0), .second, .val (.long j2), .second, .val (.long j4), .second, .val (.long j6), .second, .val (.int i8), .val (.ref o9), .val (.ref o10), .val (.long j11), .second, .val (.long j13), .second, .val (.long j15), .second, .val (.long j17), .second, .val (.ref b104), .val (.ref b116), .val (.int (((i8.toUInt32 >>> ((2 : Int32) &&& 31).toUInt32).toInt32) &&& (3 : Int32))), .val (.int (1 : Int32))] [(.int (F5s j11 j15 j13 j17 o9 o10))])) _
                refine XS.iload X168.here hx rfl (hb hby at_228) rfl ?_
                exact k
              by_cases hc171 : (F5s j11 j15 j13 j17 o9 o10) = (1 : Int32)
              · have pre172 : ∀ t, Steps p.tables e below (T168.setTop (mkF m 233 #[.val (.long j0), .second, .val (.long j2), .second, .val (.long j4), .second, .val (.long j6), .second, .val (.int i8), .val (.ref o9), .val (.ref o10), .val (.long j11), .second, .val (.long j13), .second, .val (.long j15), .second, .val (.long j17), .second, .val (.ref b104), .val (.ref b116), .val (.int (((i8.toUInt32 >>> ((2 : Int32) &&& 31).toUInt32).toInt32) &&& (3 : Int32))), .val (.int (1 : Int32))] [])) t → Steps p.tables e below (T0.setTop (mkF m 96 #[.val (.long j0), .second, .val (.long j2), .second, .val (.long j4), .second, .val (.long j6), .second, .val (.int i8), .val (.ref o9), .val (.ref o10), .val (.long j11), .second, .val (.long j13), .second, .val (.long j15), .second, .val (.long j17), .second, .unset, .unset, .unset, .unset] [])) t := by
                  intro t k
                  refine pre170 _ ?_
                  show Steps p.tables e below (T168.setTop (mkF m 230 #[.val (.long j0), .second, .val (.long j2), .second, .val (.long j4), .second, .val (.long j6), .second, .val (.int i8), .val (.ref o9), .val (.ref o10), .val (.long j11), .second, .val (.long j13), .second, .val (.long j15), .second, .val (.long j17), .second, .val (.ref b104), .val (.ref b116), .val (.int (((i8.toUInt32 >>> ((2 : Int32) &&& 31).toUInt32).toInt32) &&& (3 : Int32))), .val (.int (1 : Int32))] [(.int (1 : Int32)), (.int (F5s j11 j15 j13 j17 o9 o10))])) _
                  refine XS.icmpNo X168.here hx rfl (hb hby at_230) rfl (teq hc171).2 ?_
                  exact k
                have pre173 : ∀ t, Steps p.tables e below (T168.setTop (mkF m 237 #[.val (.long j0), .second, .val (.long j2), .second, .val (.long j4), .second, .val (.long j6), .second, .val (.int i8), .val (.ref o9), .val (.ref o10), .val (.long j11), .second, .val (.long j13), .second, .val (.long j15), .second, .val (.long j17), .second, .val (.ref b104), .val (.ref b116), .val (.int (((i8.toUInt32 >>> ((2 : Int32) &&& 31).toUInt32).toInt32) &&& (3 : Int32))), .val (.int (1 : Int32))] [(.ref b104), (.ref b116)])) t → Steps p.tables e below (T0.setTop (mkF m 96 #[.val (.long j0), .second, .val (.long j2), .second, .val (.long j4), .second, .val (.long j6), .second, .val (.int i8), .val (.ref o9), .val (.ref o10), .val (.long j11), .second, .val (.long j13), .second, .val (.long j15), .second, .val (.long j17), .second, .unset, .unset, .unset, .unset] [])) t := by
                  intro t k
                  refine pre172 _ ?_
                  show Steps p.tables e below (T168.setTop (mkF m 233 #[.val (.long j0), .second, .val (.long j2), .second, .val (.long j4), .second, .val (.long j6), .second, .val (.int i8), .val (.ref o9), .val (.ref o10), .val (.long j11), .second, .val (.long j13), .second, .val (.long j15), .second, .val (.long j17), .second, .val (.ref b104), .val (.ref b116), .val (.int (((i8.toUInt32 >>> ((2 : Int32) &&& 31).toUInt32).toInt32) &&& (3 : Int32))), .val (.int (1 : Int32))] [])) _
                  refine XS.aload X168.here hx rfl (hb hby at_233) rfl rfl ?_
                  show Steps p.tables e below (T168.setTop (mkF m 235 #[.val (.long j0), .second, .val (.long j2), .second, .val (.long j4), .second, .val (.long j6), .second, .val (.int i8), .val (.ref o9), .val (.ref o10), .val (.long j11), .second, .val (.long j13), .second, .val (.long j15), .second, .val (.long j17), .second, .val (.ref b104), .val (.ref b116), .val (.int (((i8.toUInt32 >>> ((2 : Int32) &&& 31).toUInt32).toInt32) &&& (3 : Int32))), .val (.int (1 : Int32))] [(.ref b116)])) _
                  refine XS.aload X168.here hx rfl (hb hby at_235) rfl rfl ?_
                  exact k
                obtain ⟨cq174, kq174, q174a, q174b, q174c⟩ := isOf hZ122 e168 E122
                obtain ⟨_, _, ⟨T174, L174, k174, n174⟩, -, X174, ⟨Lc174, hQ174, l174, y174, z174⟩, st174⟩ := X168.virtualBack hx (y := (⟨"com/example/tabuleiro/tabuleiro/othello/OthelloPosition", "equals", "(Ljava/lang/Object;)Z"⟩ : MethodName)) (z := (⟨"com/example/tabuleiro/tabuleiro/othello/OthelloPosition", "equals", "(Ljava/lang/Object;)Z"⟩ : MethodName)) hown122 (mvT hZ122 (hw _ (List.mem_of_getElem? (i := 36) rfl))) (mvT hZ122 (hw _ (List.mem_of_getElem? (i := 37) rfl))) (notFace_of_selects (args := #[]) (mvT hZ122 (hw _ (List.mem_of_getElem? (i := 39) rfl)))) (mvT hZ122 (hw _ (List.mem_of_getElem? (i := 39) rfl))) (mvT hZ122 (hw _ (List.mem_of_getElem? (i := 38) rfl))) (by decide) (backOf (W := 0) (rm5s l Z a0 hw [] b116 b104 j15 j11 j17 j13 o10 o9 T122.heap n0 Z124 ((E110.ext E116).keep K122) F122a ((F110a.ext E116).keep K122 (ninS ne_b104_b116 nin0)) F122b ((F110b.ext E116).keep K122 (ninS ne_b104_b116 nin0)) F122c ((F110c.ext E116).keep K122 (ninS ne_b104_b116 nin0))) hZ122 (hw _ (List.mem_of_getElem? (i := 40) rfl)) (hw _ (List.mem_of_getElem? (i := 6) rfl)) (by decide) (by decide)) q174a q174c (g := (mkF m 237 #[.val (.long j0), .second, .val (.long j2), .second, .val (.long j4), .second, .val (.long j6), .second, .val (.int i8), .val (.ref o9), .val (.ref o10), .val (.long j11), .second, .val (.long j13), .second, .val (.long j15), .second, .val (.long j17), .second, .val (.ref b104), .val (.ref b116), .val (.int (((i8.toUInt32 >>> ((2 : Int32) &&& 31).toUInt32).toInt32) &&& (3 : Int32))), .val (.int (1 : Int32))] [(.ref b104), (.ref b116)])) rfl (by rw [hml]; rfl) (Steps.refl _) (argsL := [(.ref b104)]) (rest := []) (lenOf pd__Ljava_lang_Object__Z rfl) rfl (by show 2 * 0 + _ ≤ _; exact Nat.le_of_eq rfl) (hb hby at_237) (fun _ _ => ⟨rfl, e168, (by decide : 6 + 0 ≤ _), (by decide : 62 + 0 ≤ _)⟩)
                dsimp only [Pt.U, Pt.locs, Pt.cells, Pt.slots] at X174 l174 y174 z174 st174 hQ174
                subst l174 y174 z174
                obtain ⟨rfl, N174q, e174⟩ := hQ174
                have N174 := Fr.app N168 N174q
                have pre175 : ∀ t, Steps p.tables e below (T174.setTop (mkF m 240 #[.val (.long j0), .second, .val (.long j2), .second, .val (.long j4), .second, .val (.long j6), .second, .val (.int i8), .val (.ref o9), .val (.ref o10), .val (.long j11), .second, .val (.long j13), .second, .val (.long j15), .second, .val (.long j17), .second, .val (.ref b104), .val (.ref b116), .val (.int (((i8.toUInt32 >>> ((2 : Int32) &&& 31).toUInt32).toInt32) &&& (3 : Int32))), .val (.int (1 : Int32))] [(.int (F5s j15 j11 j17 j13 o10 o9))])) t → Steps p.tables e below (T0.setTop (mkF m 96 #[.val (.long j0), .second, .val (.long j2), .second, .val (.long j4), .second, .val (.long j6), .second, .val (.int i8), .val (.ref o9), .val (.ref o10), .val (.long j11), .second, .val (.long j13), .second, .val (.long j15), .second, .val (.long j17), .second, .unset, .unset, .unset, .unset] [])) t := by
                  intro t k
                  refine pre173 _ ?_
                  show Steps p.tables e below (T168.setTop (mkF m 237 #[.val (.long j0), .second, .val (.long j2), .second, .val (.long j4), .second, .val (.long j6), .second, .val (.int i8), .val (.ref o9), .val (.ref o10), .val (.long j11), .second, .val (.long j13), .second, .val (.long j15), .second, .val (.long j17), .second, .val (.ref b104), .val (.ref b116), .val (.int (((i8.toUInt32 >>> ((2 : Int32) &&& 31).toUInt32).toInt32) &&& (3 : Int32))), .val (.int (1 : Int32))] [(.ref b104), (.ref b116)])) _
                  refine st174.trans ?_
                  exact k
                have pre176 : ∀ t, Steps p.tables e below (T174.setTop (mkF m 242 #[.val (.long j0), .second, .val (.long j2), .second, .val (.long j4), .second, .val (.long j6), .second, .val (.int i8), .val (.ref o9), .val (.ref o10), .val (.long j11), .second, .val (.long j13), .second, .val (.long j15), .second, .val (.long j17), .second, .val (.ref b104), .val (.ref b116), .val (.int (((i8.toUInt32 >>> ((2 : Int32) &&& 31).toUInt32).toInt32) &&& (3 : Int32))), .val (.int (1 : Int32))] [(.int (1 : Int32)), (.int (F5s j15 j11 j17 j13 o10 o9))])) t → Steps p.tables e below (T0.setTop (mkF m 96 #[.val (.long j0), .second, .val (.long j2), .second, .val (.long j4), .second, .val (.long j6), .second, .val (.int i8), .val (.ref o9), .val (.ref o10), .val (.long j11), .second, .val (.long j13), .second, .val (.long j15), .second, .val (.long j17), .second, .unset, .unset, .unset, .unset] [])) t := by
                  intro t k
                  refine pre175 _ ?_
                  show Steps p.tables e below (T174.setTop (mkF m 240 #[.val (.long j0), .second, .val (.long j2), .second, .val (.long j4), .second, .val (.long j6), .second, .val (.int i8), .val (.ref o9), .val (.ref o10), .val (.long j11), .second, .val (.long j13), .second, .val (.long j15), .second, .val (.long j17), .second, .val (.ref b104), .val (.ref b116), .val (.int (((i8.toUInt32 >>> ((2 : Int32) &&& 31).toUInt32).toInt32) &&& (3 : Int32))), .val (.int (1 : Int32))] [(.int (F5s j15 j11 j17 j13 o10 o9))])) _
                  refine XS.iload X174.here hx rfl (hb hby at_240) rfl ?_
                  exact k
                by_cases hc177 : (F5s j15 j11 j17 j13 o10 o9) = (1 : Int32)
                · have pre178 : ∀ t, Steps p.tables e below (T174.setTop (mkF m 245 #[.val (.long j0), .second, .val (.long j2), .second, .val (.long j4), .second, .val (.long j6), .second, .val (.int i8), .val (.ref o9), .val (.ref o10), .val (.long j11), .second, .val (.long j13), .second, .val (.long j15), .second, .val (.long j17), .second, .val (.ref b104), .val (.ref b116), .val (.int (((i8.toUInt32 >>> ((2 : Int32) &&& 31).toUInt32).toInt32) &&& (3 : Int32))), .val (.int (1 : Int32))] [])) t → Steps p.tables e below (T0.setTop (mkF m 96 #[.val (.long j0), .second, .val (.long j2), .second, .val (.long j4), .second, .val (.long j6), .second, .val (.int i8), .val (.ref o9), .val (.ref o10), .val (.long j11), .second, .val (.long j13), .second, .val (.long j15), .second, .val (.long j17), .second, .unset, .unset, .unset, .unset] [])) t := by
                    intro t k
                    refine pre176 _ ?_
                    show Steps p.tables e below (T174.setTop (mkF m 242 #[.val (.long j0), .second, .val (.long j2), .second, .val (.long j4), .second, .val (.long j6), .second, .val (.int i8), .val (.ref o9), .val (.ref o10), .val (.long j11), .second, .val (.long j13), .second, .val (.long j15), .second, .val (.long j17), .second, .val (.ref b104), .val (.ref b116), .val (.int (((i8.toUInt32 >>> ((2 : Int32) &&& 31).toUInt32).toInt32) &&& (3 : Int32))), .val (.int (1 : Int32))] [(.int (1 : Int32)), (.int (F5s j15 j11 j17 j13 o10 o9))])) _
                    refine XS.icmpNo X174.here hx rfl (hb hby at_242) rfl (teq hc177).2 ?_
                    exact k
                  have pre179 : ∀ t, Steps p.tables e below (T174.setTop (mkF m 250 #[.val (.long j0), .second, .val (.long j2), .second, .val (.long j4), .second, .val (.long j6), .second, .val (.int i8), .val (.ref o9), .val (.ref o10), .val (.long j11), .second, .val (.long j13), .second, .val (.long j15), .second, .val (.long j17), .second, .val (.ref b104), .val (.ref b116), .val (.int (((i8.toUInt32 >>> ((2 : Int32) &&& 31).toUInt32).toInt32) &&& (3 : Int32))), .val (.int (1 : Int32))] [(.int (1 : Int32))])) t → Steps p.tables e below (T0.setTop (mkF m 96 #[.val (.long j0), .second, .val (.long j2), .second, .val (.long j4), .second, .val (.long j6), .second, .val (.int i8), .val (.ref o9), .val (.ref o10), .val (.long j11), .second, .val (.long j13), .second, .val (.long j15), .second, .val (.long j17), .second, .unset, .unset, .unset, .unset] [])) t := by
                    intro t k
                    refine pre178 _ ?_
                    show Steps p.tables e below (T174.setTop (mkF m 245 #[.val (.long j0), .second, .val (.long j2), .second, .val (.long j4), .second, .val (.long j6), .second, .val (.int i8), .val (.ref o9), .val (.ref o10), .val (.long j11), .second, .val (.long j13), .second, .val (.long j15), .second, .val (.long j17), .second, .val (.ref b104), .val (.ref b116), .val (.int (((i8.toUInt32 >>> ((2 : Int32) &&& 31).toUInt32).toInt32) &&& (3 : Int32))), .val (.int (1 : Int32))] [])) _
                    refine XS.iconst X174.here hx rfl (hb hby at_245) ?_
                    show Steps p.tables e below (T174.setTop (mkF m 246 #[.val (.long j0), .second, .val (.long j2), .second, .val (.long j4), .second, .val (.long j6), .second, .val (.int i8), .val (.ref o9), .val (.ref o10), .val (.long j11), .second, .val (.long j13), .second, .val (.long j15), .second, .val (.long j17), .second, .val (.ref b104), .val (.ref b116), .val (.int (((i8.toUInt32 >>> ((2 : Int32) &&& 31).toUInt32).toInt32) &&& (3 : Int32))), .val (.int (1 : Int32))] [(.int (1 : Int32))])) _
                    refine XS.goto X174.here hx rfl (pc0 := 246) (pc' := 250) rfl (hb hby at_246) (by decide) (by decide) ?_
                    exact k
                  obtain ⟨fs, hr, hrun, hended, hsame⟩ := Stand.leaveW (s := s) (vm₁ := T122.vm) X174 hS122 (by rw [e174]; exact (Nat.le_refl _)) (v := some (.int (1 : Int32))) (fun h => by rw [hret] at h; cases h)
                  refine ⟨_, _, pre179 _ ?_, hrun, hended, _, _, rfl, ?_, ⟨hsame.1, hsame.2.1, hsame.2.2.1, hsame.2.2.2.mono (by decide) (by decide)⟩⟩
                  · show Steps p.tables e below (T174.setTop (mkF m 250 #[.val (.long j0), .second, .val (.long j2), .second, .val (.long j4), .second, .val (.long j6), .second, .val (.int i8), .val (.ref o9), .val (.ref o10), .val (.long j11), .second, .val (.long j13), .second, .val (.long j15), .second, .val (.long j17), .second, .val (.ref b104), .val (.ref b116), .val (.int (((i8.toUInt32 >>> ((2 : Int32) &&& 31).toUInt32).toInt32) &&& (3 : Int32))), .val (.int (1 : Int32))] [(.int (1 : Int32))])) _
                    exact retN X174 hx (t := .boolean) hret (by simp) (hb hby at_250) hr
                  · exact ⟨(by rw [F0_96_0, if_neg hc128, if_neg hc140, if_neg hc152, if_pos hc159, if_pos hc162, if_pos ha165, if_pos hc171, if_pos hc177]), N174⟩
                · have pre180 : ∀ t, Steps p.tables e below (T174.setTop (mkF m 249 #[.val (.long j0), .second, .val (.long j2), .second, .val (.long j4), .second, .val (.long j6), .second, .val (.int i8), .val (.ref o9), .val (.ref o10), .val (.long j11), .second, .val (.long j13), .second, .val (.long j15), .second, .val (.long j17), .second, .val (.ref b104), .val (.ref b116), .val (.int (((i8.toUInt32 >>> ((2 : Int32) &&& 31).toUInt32).toInt32) &&& (3 : Int32))), .val (.int (1 : Int32))] [])) t → Steps p.tables e below (T0.setTop (mkF m 96 #[.val (.long j0), .second, .val (.long j2), .second, .val (.long j4), .second, .val (.long j6), .second, .val (.int i8), .val (.ref o9), .val (.ref o10), .val (.long j11), .second, .val (.long j13), .second, .val (.long j15), .second, .val (.long j17), .second, .unset, .unset, .unset, .unset] [])) t := by
                    intro t k
                    refine pre176 _ ?_
                    show Steps p.tables e below (T174.setTop (mkF m 242 #[.val (.long j0), .second, .val (.long j2), .second, .val (.long j4), .second, .val (.long j6), .second, .val (.int i8), .val (.ref o9), .val (.ref o10), .val (.long j11), .second, .val (.long j13), .second, .val (.long j15), .second, .val (.long j17), .second, .val (.ref b104), .val (.ref b116), .val (.int (((i8.toUInt32 >>> ((2 : Int32) &&& 31).toUInt32).toInt32) &&& (3 : Int32))), .val (.int (1 : Int32))] [(.int (1 : Int32)), (.int (F5s j15 j11 j17 j13 o10 o9))])) _
                    refine XS.icmpYes X174.here hx rfl (pc0 := 242) (pc' := 249) rfl (hb hby at_242) rfl (feq hc177).2 (by decide) (by decide) ?_
                    exact k
                  have pre181 : ∀ t, Steps p.tables e below (T174.setTop (mkF m 250 #[.val (.long j0), .second, .val (.long j2), .second, .val (.long j4), .second, .val (.long j6), .second, .val (.int i8), .val (.ref o9), .val (.ref o10), .val (.long j11), .second, .val (.long j13), .second, .val (.long j15), .second, .val (.long j17), .second, .val (.ref b104), .val (.ref b116), .val (.int (((i8.toUInt32 >>> ((2 : Int32) &&& 31).toUInt32).toInt32) &&& (3 : Int32))), .val (.int (1 : Int32))] [(.int (0 : Int32))])) t → Steps p.tables e below (T0.setTop (mkF m 96 #[.val (.long j0), .second, .val (.long j2), .second, .val (.long j4), .second, .val (.long j6), .second, .val (.int i8), .val (.ref o9), .val (.ref o10), .val (.long j11), .second, .val (.long j13), .second, .val (.long j15), .second, .val (.long j17), .second, .unset, .unset, .unset, .unset] [])) t := by
                    intro t k
                    refine pre180 _ ?_
                    show Steps p.tables e below (T174.setTop (mkF m 249 #[.val (.long j0), .second, .val (.long j2), .second, .val (.long j4), .second, .val (.long j6), .second, .val (.int i8), .val (.ref o9), .val (.ref o10), .val (.long j11), .second, .val (.long j13), .second, .val (.long j15), .second, .val (.long j17), .second, .val (.ref b104), .val (.ref b116), .val (.int (((i8.toUInt32 >>> ((2 : Int32) &&& 31).toUInt32).toInt32) &&& (3 : Int32))), .val (.int (1 : Int32))] [])) _
                    refine XS.iconst X174.here hx rfl (hb hby at_249) ?_
                    exact k
                  obtain ⟨fs, hr, hrun, hended, hsame⟩ := Stand.leaveW (s := s) (vm₁ := T122.vm) X174 hS122 (by rw [e174]; exact (Nat.le_refl _)) (v := some (.int (0 : Int32))) (fun h => by rw [hret] at h; cases h)
                  refine ⟨_, _, pre181 _ ?_, hrun, hended, _, _, rfl, ?_, ⟨hsame.1, hsame.2.1, hsame.2.2.1, hsame.2.2.2.mono (by decide) (by decide)⟩⟩
                  · show Steps p.tables e below (T174.setTop (mkF m 250 #[.val (.long j0), .second, .val (.long j2), .second, .val (.long j4), .second, .val (.long j6), .second, .val (.int i8), .val (.ref o9), .val (.ref o10), .val (.long j11), .second, .val (.long j13), .second, .val (.long j15), .second, .val (.long j17), .second, .val (.ref b104), .val (.ref b116), .val (.int (((i8.toUInt32 >>> ((2 : Int32) &&& 31).toUInt32).toInt32) &&& (3 : Int32))), .val (.int (1 : Int32))] [(.int (0 : Int32))])) _
                    exact retN X174 hx (t := .boolean) hret (by simp) (hb hby at_250) hr
                  · exact ⟨(by rw [F0_96_0, if_neg hc128, if_neg hc140, if_neg hc152, if_pos hc159, if_pos hc162, if_pos ha165, if_pos hc171, if_neg hc177]), N174⟩
              · have pre182 : ∀ t, Steps p.tables e below (T168.setTop (mkF m 249 #[.val (.long j0), .second, .val (.long j2), .second, .val (.long j4), .second, .val (.long j6), .second, .val (.int i8), .val (.ref o9), .val (.ref o10), .val (.long j11), .second, .val (.long j13), .second, .val (.long j15), .second, .val (.long j17), .second, .val (.ref b104), .val (.ref b116), .val (.int (((i8.toUInt32 >>> ((2 : Int32) &&& 31).toUInt32).toInt32) &&& (3 : Int32))), .val (.int (1 : Int32))] [])) t → Steps p.tables e below (T0.setTop (mkF m 96 #[.val (.long j0), .second, .val (.long j2), .second, .val (.long j4), .second, .val (.long j6), .second, .val (.int i8), .val (.ref o9), .val (.ref o10), .val (.long j11), .second, .val (.long j13), .second, .val (.long j15), .second, .val (.long j17), .second, .unset, .unset, .unset, .unset] [])) t := by
                  intro t k
                  refine pre170 _ ?_
                  show Steps p.tables e below (T168.setTop (mkF m 230 #[.val (.long j0), .second, .val (.long j2), .second, .val (.long j4), .second, .val (.long j6), .second, .val (.int i8), .val (.ref o9), .val (.ref o10), .val (.long j11), .second, .val (.long j13), .second, .val (.long j15), .second, .val (.long j17), .second, .val (.ref b104), .val (.ref b116), .val (.int (((i8.toUInt32 >>> ((2 : Int32) &&& 31).toUInt32).toInt32) &&& (3 : Int32))), .val (.int (1 : Int32))] [(.int (1 : Int32)), (.int (F5s j11 j15 j13 j17 o9 o10))])) _
                  refine XS.icmpYes X168.here hx rfl (pc0 := 230) (pc' := 249) rfl (hb hby at_230) rfl (feq hc171).2 (by decide) (by decide) ?_
                  exact k
                have pre183 : ∀ t, Steps p.tables e below (T168.setTop (mkF m 250 #[.val (.long j0), .second, .val (.long j2), .second, .val (.long j4), .second, .val (.long j6), .second, .val (.int i8), .val (.ref o9), .val (.ref o10), .val (.long j11), .second, .val (.long j13), .second, .val (.long j15), .second, .val (.long j17), .second, .val (.ref b104), .val (.ref b116), .val (.int (((i8.toUInt32 >>> ((2 : Int32) &&& 31).toUInt32).toInt32) &&& (3 : Int32))), .val (.int (1 : Int32))] [(.int (0 : Int32))])) t → Steps p.tables e below (T0.setTop (mkF m 96 #[.val (.long j0), .second, .val (.long j2), .second, .val (.long j4), .second, .val (.long j6), .second, .val (.int i8), .val (.ref o9), .val (.ref o10), .val (.long j11), .second, .val (.long j13), .second, .val (.long j15), .second, .val (.long j17), .second, .unset, .unset, .unset, .unset] [])) t := by
                  intro t k
                  refine pre182 _ ?_
                  show Steps p.tables e below (T168.setTop (mkF m 249 #[.val (.long j0), .second, .val (.long j2), .second, .val (.long j4), .second, .val (.long j6), .second, .val (.int i8), .val (.ref o9), .val (.ref o10), .val (.long j11), .second, .val (.long j13), .second, .val (.long j15), .second, .val (.long j17), .second, .val (.ref b104), .val (.ref b116), .val (.int (((i8.toUInt32 >>> ((2 : Int32) &&& 31).toUInt32).toInt32) &&& (3 : Int32))), .val (.int (1 : Int32))] [])) _
                  refine XS.iconst X168.here hx rfl (hb hby at_249) ?_
                  exact k
                obtain ⟨fs, hr, hrun, hended, hsame⟩ := Stand.leaveW (s := s) (vm₁ := T122.vm) X168 hS122 (by rw [e168]; exact (Nat.le_refl _)) (v := some (.int (0 : Int32))) (fun h => by rw [hret] at h; cases h)
                refine ⟨_, _, pre183 _ ?_, hrun, hended, _, _, rfl, ?_, ⟨hsame.1, hsame.2.1, hsame.2.2.1, hsame.2.2.2.mono (by decide) (by decide)⟩⟩
                · show Steps p.tables e below (T168.setTop (mkF m 250 #[.val (.long j0), .second, .val (.long j2), .second, .val (.long j4), .second, .val (.long j6), .second, .val (.int i8), .val (.ref o9), .val (.ref o10), .val (.long j11), .second, .val (.long j13), .second, .val (.long j15), .second, .val (.long j17), .second, .val (.ref b104), .val (.ref b116), .val (.int (((i8.toUInt32 >>> ((2 : Int32) &&& 31).toUInt32).toInt32) &&& (3 : Int32))), .val (.int (1 : Int32))] [(.int (0 : Int32))])) _
                  exact retN X168 hx (t := .boolean) hret (by simp) (hb hby at_250) hr
                · exact ⟨(by rw [F0_96_0, if_neg hc128, if_neg hc140, if_neg hc152, if_pos hc159, if_pos hc162, if_pos ha165, if_neg hc171]), N168⟩
            · have pre184 : ∀ t, Steps p.tables e below (T122.setTop (mkF m 218 #[.val (.long j0), .second, .val (.long j2), .second, .val (.long j4), .second, .val (.long j6), .second, .val (.int i8), .val (.ref o9), .val (.ref o10), .val (.long j11), .second, .val (.long j13), .second, .val (.long j15), .second, .val (.long j17), .second, .val (.ref b104), .val (.ref b116), .val (.int (((i8.toUInt32 >>> ((2 : Int32) &&& 31).toUInt32).toInt32) &&& (3 : Int32))), .unset] [])) t → Steps p.tables e below (T0.setTop (mkF m 96 #[.val (.long j0), .second, .val (.long j2), .second, .val (.long j4), .second, .val (.long j6), .second, .val (.int i8), .val (.ref o9), .val (.ref o10), .val (.long j11), .second, .val (.long j13), .second, .val (.long j15), .second, .val (.long j17), .second, .unset, .unset, .unset, .unset] [])) t := by
                intro t k
                refine pre164 _ ?_
                show Steps p.tables e below (T122.setTop (mkF m 211 #[.val (.long j0), .second, .val (.long j2), .second, .val (.long j4), .second, .val (.long j6), .second, .val (.int i8), .val (.ref o9), .val (.ref o10), .val (.long j11), .second, .val (.long j13), .second, .val (.long j15), .second, .val (.long j17), .second, .val (.ref b104), .val (.ref b116), .val (.int (((i8.toUInt32 >>> ((2 : Int32) &&& 31).toUInt32).toInt32) &&& (3 : Int32))), .unset] [(.ref o10), (.ref o9)])) _
                refine Jvm.RoadKit.acmp (g := (mkF m 211 #[.val (.long j0), .second, .val (.long j2), .second, .val (.long j4), .second, .val (.long j6), .second, .val (.int i8), .val (.ref o9), .val (.ref o10), .val (.long j11), .second, .val (.long j13), .second, .val (.long j15), .second, .val (.long j17), .second, .val (.ref b104), .val (.ref b116), .val (.int (((i8.toUInt32 >>> ((2 : Int32) &&& 31).toUInt32).toInt32) &&& (3 : Int32))), .unset] [(.ref o10), (.ref o9)])) X122 hx rfl rfl rfl (pc0 := 211) (pc' := 218) (same := false) rfl (hb hby at_211) rfl (decide_eq_false fun q => ha165 (Value.ref.inj q)) (by decide) (by decide) ?_
                exact k
              have pre185 : ∀ t, Steps p.tables e below (T122.setTop (mkF m 225 #[.val (.long j0), .second, .val (.long j2), .second, .val (.long j4), .second, .val (.long j6), .second, .val (.int i8), .val (.ref o9), .val (.ref o10), .val (.long j11), .second, .val (.long j13), .second, .val (.long j15), .second, .val (.long j17), .second, .val (.ref b104), .val (.ref b116), .val (.int (((i8.toUInt32 >>> ((2 : Int32) &&& 31).toUInt32).toInt32) &&& (3 : Int32))), .val (.int (0 : Int32))] [(.ref b116), (.ref b104)])) t → Steps p.tables e below (T0.setTop (mkF m 96 #[.val (.long j0), .second, .val (.long j2), .second, .val (.long j4), .second, .val (.long j6), .second, .val (.int i8), .val (.ref o9), .val (.ref o10), .val (.long j11), .second, .val (.long j13), .second, .val (.long j15), .second, .val (.long j17), .second, .unset, .unset, .unset, .unset] [])) t := by
                intro t k
                refine pre184 _ ?_
                show Steps p.tables e below (T122.setTop (mkF m 218 #[.val (.long j0), .second, .val (.long j2), .second, .val (.long j4), .second, .val (.long j6), .second, .val (.int i8), .val (.ref o9), .val (.ref o10), .val (.long j11), .second, .val (.long j13), .second, .val (.long j15), .second, .val (.long j17), .second, .val (.ref b104), .val (.ref b116), .val (.int (((i8.toUInt32 >>> ((2 : Int32) &&& 31).toUInt32).toInt32) &&& (3 : Int32))), .unset] [])) _
                refine XS.iconst X122.here hx rfl (hb hby at_218) ?_
                show Steps p.tables e below (T122.setTop (mkF m 219 #[.val (.long j0), .second, .val (.long j2), .second, .val (.long j4), .second, .val (.long j6), .second, .val (.int i8), .val (.ref o9), .val (.ref o10), .val (.long j11), .second, .val (.long j13), .second, .val (.long j15), .second, .val (.long j17), .second, .val (.ref b104), .val (.ref b116), .val (.int (((i8.toUInt32 >>> ((2 : Int32) &&& 31).toUInt32).toInt32) &&& (3 : Int32))), .unset] [(.int (0 : Int32))])) _
                refine XS.istore X122.here hx rfl (hb hby at_219) rfl (l' := #[.val (.long j0), .second, .val (.long j2), .second, .val (.long j4), .second, .val (.long j6), .second, .val (.int i8), .val (.ref o9), .val (.ref o10), .val (.long j11), .second, .val (.long j13), .second, .val (.long j15), .second, .val (.long j17), .second, .val (.ref b104), .val (.ref b116), .val (.int (((i8.toUInt32 >>> ((2 : Int32) &&& 31).toUInt32).toInt32) &&& (3 : Int32))), .val (.int (0 : Int32))]) rfl ?_
                show Steps p.tables e below (T122.setTop (mkF m 221 #[.val (.long j0), .second, .val (.long j2), .second, .val (.long j4), .second, .val (.long j6), .second, .val (.int i8), .val (.ref o9), .val (.ref o10), .val (.long j11), .second, .val (.long j13), .second, .val (.long j15), .second, .val (.long j17), .second, .val (.ref b104), .val (.ref b116), .val (.int (((i8.toUInt32 >>> ((2 : Int32) &&& 31).toUInt32).toInt32) &&& (3 : Int32))), .val (.int (0 : Int32))] [])) _
                refine XS.aload X122.here hx rfl (hb hby at_221) rfl rfl ?_
                show Steps p.tables e below (T122.setTop (mkF m 223 #[.val (.long j0), .second, .val (.long j2), .second, .val (.long j4), .second, .val (.long j6), .second, .val (.int i8), .val (.ref o9), .val (.ref o10), .val (.long j11), .second, .val (.long j13), .second, .val (.long j15), .second, .val (.long j17), .second, .val (.ref b104), .val (.ref b116), .val (.int (((i8.toUInt32 >>> ((2 : Int32) &&& 31).toUInt32).toInt32) &&& (3 : Int32))), .val (.int (0 : Int32))] [(.ref b104)])) _
                refine XS.aload X122.here hx rfl (hb hby at_223) rfl rfl ?_
                exact k
              obtain ⟨cq186, kq186, q186a, q186b, q186c⟩ := isOf hZ122 rfl ((E110.ext E116).keep K122)
              obtain ⟨_, _, ⟨T186, L186, k186, n186⟩, -, X186, ⟨Lc186, hQ186, l186, y186, z186⟩, st186⟩ := X122.virtualBack hx (y := (⟨"com/example/tabuleiro/tabuleiro/othello/OthelloPosition", "equals", "(Ljava/lang/Object;)Z"⟩ : MethodName)) (z := (⟨"com/example/tabuleiro/tabuleiro/othello/OthelloPosition", "equals", "(Ljava/lang/Object;)Z"⟩ : MethodName)) hown122 (mvT hZ122 (hw _ (List.mem_of_getElem? (i := 36) rfl))) (mvT hZ122 (hw _ (List.mem_of_getElem? (i := 37) rfl))) (notFace_of_selects (args := #[]) (mvT hZ122 (hw _ (List.mem_of_getElem? (i := 39) rfl)))) (mvT hZ122 (hw _ (List.mem_of_getElem? (i := 39) rfl))) (mvT hZ122 (hw _ (List.mem_of_getElem? (i := 38) rfl))) (by decide) (backOf (W := 0) (rm5s l Z a0 hw [] b104 b116 j11 j15 j13 j17 o9 o10 T122.heap n0 Z124 E122 ((F110a.ext E116).keep K122 (ninS ne_b104_b116 nin0)) F122a ((F110b.ext E116).keep K122 (ninS ne_b104_b116 nin0)) F122b ((F110c.ext E116).keep K122 (ninS ne_b104_b116 nin0)) F122c) hZ122 (hw _ (List.mem_of_getElem? (i := 40) rfl)) (hw _ (List.mem_of_getElem? (i := 6) rfl)) (by decide) (by decide)) q186a q186c (g := (mkF m 225 #[.val (.long j0), .second, .val (.long j2), .second, .val (.long j4), .second, .val (.long j6), .second, .val (.int i8), .val (.ref o9), .val (.ref o10), .val (.long j11), .second, .val (.long j13), .second, .val (.long j15), .second, .val (.long j17), .second, .val (.ref b104), .val (.ref b116), .val (.int (((i8.toUInt32 >>> ((2 : Int32) &&& 31).toUInt32).toInt32) &&& (3 : Int32))), .val (.int (0 : Int32))] [(.ref b116), (.ref b104)])) rfl (by rw [hml]; rfl) (Steps.refl _) (argsL := [(.ref b116)]) (rest := []) (lenOf pd__Ljava_lang_Object__Z rfl) rfl (by show 2 * 0 + _ ≤ _; exact Nat.le_of_eq rfl) (hb hby at_225) (fun _ _ => ⟨rfl, rfl, (by decide : 6 + 0 ≤ _), (by decide : 62 + 0 ≤ _)⟩)
              dsimp only [Pt.U, Pt.locs, Pt.cells, Pt.slots] at X186 l186 y186 z186 st186 hQ186
              subst l186 y186 z186
              obtain ⟨rfl, N186q, e186⟩ := hQ186
              have N186 := Fr.app N122 N186q
              have pre187 : ∀ t, Steps p.tables e below (T186.setTop (mkF m 228 #[.val (.long j0), .second, .val (.long j2), .second, .val (.long j4), .second, .val (.long j6), .second, .val (.int i8), .val (.ref o9), .val (.ref o10), .val (.long j11), .second, .val (.long j13), .second, .val (.long j15), .second, .val (.long j17), .second, .val (.ref b104), .val (.ref b116), .val (.int (((i8.toUInt32 >>> ((2 : Int32) &&& 31).toUInt32).toInt32) &&& (3 : Int32))), .val (.int (0 : Int32))] [(.int (F5s j11 j15 j13 j17 o9 o10))])) t → Steps p.tables e below (T0.setTop (mkF m 96 #[.val (.long j0), .second, .val (.long j2), .second, .val (.long j4), .second, .val (.long j6), .second, .val (.int i8), .val (.ref o9), .val (.ref o10), .val (.long j11), .second, .val (.long j13), .second, .val (.long j15), .second, .val (.long j17), .second, .unset, .unset, .unset, .unset] [])) t := by
                intro t k
                refine pre185 _ ?_
                show Steps p.tables e below (T122.setTop (mkF m 225 #[.val (.long j0), .second, .val (.long j2), .second, .val (.long j4), .second, .val (.long j6), .second, .val (.int i8), .val (.ref o9), .val (.ref o10), .val (.long j11), .second, .val (.long j13), .second, .val (.long j15), .second, .val (.long j17), .second, .val (.ref b104), .val (.ref b116), .val (.int (((i8.toUInt32 >>> ((2 : Int32) &&& 31).toUInt32).toInt32) &&& (3 : Int32))), .val (.int (0 : Int32))] [(.ref b116), (.ref b104)])) _
                refine st186.trans ?_
                exact k
              have pre188 : ∀ t, Steps p.tables e below (T186.setTop (mkF m 230 #[.val (.long j0), .second, .val (.long j2), .second, .val (.long j4), .second, .val (.long j6), .second, .val (.int i8), .val (.ref o9), .val (.ref o10), .val (.long j11), .second, .val (.long j13), .second, .val (.long j15), .second, .val (.long j17), .second, .val (.ref b104), .val (.ref b116), .val (.int (((i8.toUInt32 >>> ((2 : Int32) &&& 31).toUInt32).toInt32) &&& (3 : Int32))), .val (.int (0 : Int32))] [(.int (0 : Int32)), (.int (F5s j11 j15 j13 j17 o9 o10))])) t → Steps p.tables e below (T0.setTop (mkF m 96 #[.val (.long j0), .second, .val (.long j2), .second, .val (.long j4), .second, .val (.long j6), .second, .val (.int i8), .val (.ref o9), .val (.ref o10), .val (.long j11), .second, .val (.long j13), .second, .val (.long j15), .second, .val (.long j17), .second, .unset, .unset, .unset, .unset] [])) t := by
                intro t k
                refine pre187 _ ?_
                show Steps p.tables e below (T186.setTop (mkF m 228 #[.val (.long j0), .second, .val (.long j2), .second, .val (.long j4), .second, .val (.long j6), .second, .val (.int i8), .val (.ref o9), .val (.ref o10), .val (.long j11), .second, .val (.long j13), .second, .val (.long j15), .second, .val (.long j17), .second, .val (.ref b104), .val (.ref b116), .val (.int (((i8.toUInt32 >>> ((2 : Int32) &&& 31).toUInt32).toInt32) &&& (3 : Int32))), .val (.int (0 : Int32))] [(.int (F5s j11 j15 j13 j17 o9 o10))])) _
                refine XS.iload X186.here hx rfl (hb hby at_228) rfl ?_
                exact k
              by_cases hc189 : (F5s j11 j15 j13 j17 o9 o10) = (0 : Int32)
              · have pre190 : ∀ t, Steps p.tables e below (T186.setTop (mkF m 233 #[.val (.long j0), .second, .val (.long j2), .second, .val (.long j4), .second, .val (.long j6), .second, .val (.int i8), .val (.ref o9), .val (.ref o10), .val (.long j11), .second, .val (.long j13), .second, .val (.long j15), .second, .val (.long j17), .second, .val (.ref b104), .val (.ref b116), .val (.int (((i8.toUInt32 >>> ((2 : Int32) &&& 31).toUInt32).toInt32) &&& (3 : Int32))), .val (.int (0 : Int32))] [])) t → Steps p.tables e below (T0.setTop (mkF m 96 #[.val (.long j0), .second, .val (.long j2), .second, .val (.long j4), .second, .val (.long j6), .second, .val (.int i8), .val (.ref o9), .val (.ref o10), .val (.long j11), .second, .val (.long j13), .second, .val (.long j15), .second, .val (.long j17), .second, .unset, .unset, .unset, .unset] [])) t := by
                  intro t k
                  refine pre188 _ ?_
                  show Steps p.tables e below (T186.setTop (mkF m 230 #[.val (.long j0), .second, .val (.long j2), .second, .val (.long j4), .second, .val (.long j6), .second, .val (.int i8), .val (.ref o9), .val (.ref o10), .val (.long j11), .second, .val (.long j13), .second, .val (.long j15), .second, .val (.long j17), .second, .val (.ref b104), .val (.ref b116), .val (.int (((i8.toUInt32 >>> ((2 : Int32) &&& 31).toUInt32).toInt32) &&& (3 : Int32))), .val (.int (0 : Int32))] [(.int (0 : Int32)), (.int (F5s j11 j15 j13 j17 o9 o10))])) _
                  refine XS.icmpNo X186.here hx rfl (hb hby at_230) rfl (teq hc189).2 ?_
                  exact k
                have pre191 : ∀ t, Steps p.tables e below (T186.setTop (mkF m 237 #[.val (.long j0), .second, .val (.long j2), .second, .val (.long j4), .second, .val (.long j6), .second, .val (.int i8), .val (.ref o9), .val (.ref o10), .val (.long j11), .second, .val (.long j13), .second, .val (.long j15), .second, .val (.long j17), .second, .val (.ref b104), .val (.ref b116), .val (.int (((i8.toUInt32 >>> ((2 : Int32) &&& 31).toUInt32).toInt32) &&& (3 : Int32))), .val (.int (0 : Int32))] [(.ref b104), (.ref b116)])) t → Steps p.tables e below (T0.setTop (mkF m 96 #[.val (.long j0), .second, .val (.long j2), .second, .val (.long j4), .second, .val (.long j6), .second, .val (.int i8), .val (.ref o9), .val (.ref o10), .val (.long j11), .second, .val (.long j13), .second, .val (.long j15), .second, .val (.long j17), .second, .unset, .unset, .unset, .unset] [])) t := by
                  intro t k
                  refine pre190 _ ?_
                  show Steps p.tables e below (T186.setTop (mkF m 233 #[.val (.long j0), .second, .val (.long j2), .second, .val (.long j4), .second, .val (.long j6), .second, .val (.int i8), .val (.ref o9), .val (.ref o10), .val (.long j11), .second, .val (.long j13), .second, .val (.long j15), .second, .val (.long j17), .second, .val (.ref b104), .val (.ref b116), .val (.int (((i8.toUInt32 >>> ((2 : Int32) &&& 31).toUInt32).toInt32) &&& (3 : Int32))), .val (.int (0 : Int32))] [])) _
                  refine XS.aload X186.here hx rfl (hb hby at_233) rfl rfl ?_
                  show Steps p.tables e below (T186.setTop (mkF m 235 #[.val (.long j0), .second, .val (.long j2), .second, .val (.long j4), .second, .val (.long j6), .second, .val (.int i8), .val (.ref o9), .val (.ref o10), .val (.long j11), .second, .val (.long j13), .second, .val (.long j15), .second, .val (.long j17), .second, .val (.ref b104), .val (.ref b116), .val (.int (((i8.toUInt32 >>> ((2 : Int32) &&& 31).toUInt32).toInt32) &&& (3 : Int32))), .val (.int (0 : Int32))] [(.ref b116)])) _
                  refine XS.aload X186.here hx rfl (hb hby at_235) rfl rfl ?_
                  exact k
                obtain ⟨cq192, kq192, q192a, q192b, q192c⟩ := isOf hZ122 e186 E122
                obtain ⟨_, _, ⟨T192, L192, k192, n192⟩, -, X192, ⟨Lc192, hQ192, l192, y192, z192⟩, st192⟩ := X186.virtualBack hx (y := (⟨"com/example/tabuleiro/tabuleiro/othello/OthelloPosition", "equals", "(Ljava/lang/Object;)Z"⟩ : MethodName)) (z := (⟨"com/example/tabuleiro/tabuleiro/othello/OthelloPosition", "equals", "(Ljava/lang/Object;)Z"⟩ : MethodName)) hown122 (mvT hZ122 (hw _ (List.mem_of_getElem? (i := 36) rfl))) (mvT hZ122 (hw _ (List.mem_of_getElem? (i := 37) rfl))) (notFace_of_selects (args := #[]) (mvT hZ122 (hw _ (List.mem_of_getElem? (i := 39) rfl)))) (mvT hZ122 (hw _ (List.mem_of_getElem? (i := 39) rfl))) (mvT hZ122 (hw _ (List.mem_of_getElem? (i := 38) rfl))) (by decide) (backOf (W := 0) (rm5s l Z a0 hw [] b116 b104 j15 j11 j17 j13 o10 o9 T122.heap n0 Z124 ((E110.ext E116).keep K122) F122a ((F110a.ext E116).keep K122 (ninS ne_b104_b116 nin0)) F122b ((F110b.ext E116).keep K122 (ninS ne_b104_b116 nin0)) F122c ((F110c.ext E116).keep K122 (ninS ne_b104_b116 nin0))) hZ122 (hw _ (List.mem_of_getElem? (i := 40) rfl)) (hw _ (List.mem_of_getElem? (i := 6) rfl)) (by decide) (by decide)) q192a q192c (g := (mkF m 237 #[.val (.long j0), .second, .val (.long j2), .second, .val (.long j4), .second, .val (.long j6), .second, .val (.int i8), .val (.ref o9), .val (.ref o10), .val (.long j11), .second, .val (.long j13), .second, .val (.long j15), .second, .val (.long j17), .second, .val (.ref b104), .val (.ref b116), .val (.int (((i8.toUInt32 >>> ((2 : Int32) &&& 31).toUInt32).toInt32) &&& (3 : Int32))), .val (.int (0 : Int32))] [(.ref b104), (.ref b116)])) rfl (by rw [hml]; rfl) (Steps.refl _) (argsL := [(.ref b104)]) (rest := []) (lenOf pd__Ljava_lang_Object__Z rfl) rfl (by show 2 * 0 + _ ≤ _; exact Nat.le_of_eq rfl) (hb hby at_237) (fun _ _ => ⟨rfl, e186, (by decide : 6 + 0 ≤ _), (by decide : 62 + 0 ≤ _)⟩)
                dsimp only [Pt.U, Pt.locs, Pt.cells, Pt.slots] at X192 l192 y192 z192 st192 hQ192
                subst l192 y192 z192
                obtain ⟨rfl, N192q, e192⟩ := hQ192
                have N192 := Fr.app N186 N192q
                have pre193 : ∀ t, Steps p.tables e below (T192.setTop (mkF m 240 #[.val (.long j0), .second, .val (.long j2), .second, .val (.long j4), .second, .val (.long j6), .second, .val (.int i8), .val (.ref o9), .val (.ref o10), .val (.long j11), .second, .val (.long j13), .second, .val (.long j15), .second, .val (.long j17), .second, .val (.ref b104), .val (.ref b116), .val (.int (((i8.toUInt32 >>> ((2 : Int32) &&& 31).toUInt32).toInt32) &&& (3 : Int32))), .val (.int (0 : Int32))] [(.int (F5s j15 j11 j17 j13 o10 o9))])) t → Steps p.tables e below (T0.setTop (mkF m 96 #[.val (.long j0), .second, .val (.long j2), .second, .val (.long j4), .second, .val (.long j6), .second, .val (.int i8), .val (.ref o9), .val (.ref o10), .val (.long j11), .second, .val (.long j13), .second, .val (.long j15), .second, .val (.long j17), .second, .unset, .unset, .unset, .unset] [])) t := by
                  intro t k
                  refine pre191 _ ?_
                  show Steps p.tables e below (T186.setTop (mkF m 237 #[.val (.long j0), .second, .val (.long j2), .second, .val (.long j4), .second, .val (.long j6), .second, .val (.int i8), .val (.ref o9), .val (.ref o10), .val (.long j11), .second, .val (.long j13), .second, .val (.long j15), .second, .val (.long j17), .second, .val (.ref b104), .val (.ref b116), .val (.int (((i8.toUInt32 >>> ((2 : Int32) &&& 31).toUInt32).toInt32) &&& (3 : Int32))), .val (.int (0 : Int32))] [(.ref b104), (.ref b116)])) _
                  refine st192.trans ?_
                  exact k
                have pre194 : ∀ t, Steps p.tables e below (T192.setTop (mkF m 242 #[.val (.long j0), .second, .val (.long j2), .second, .val (.long j4), .second, .val (.long j6), .second, .val (.int i8), .val (.ref o9), .val (.ref o10), .val (.long j11), .second, .val (.long j13), .second, .val (.long j15), .second, .val (.long j17), .second, .val (.ref b104), .val (.ref b116), .val (.int (((i8.toUInt32 >>> ((2 : Int32) &&& 31).toUInt32).toInt32) &&& (3 : Int32))), .val (.int (0 : Int32))] [(.int (0 : Int32)), (.int (F5s j15 j11 j17 j13 o10 o9))])) t → Steps p.tables e below (T0.setTop (mkF m 96 #[.val (.long j0), .second, .val (.long j2), .second, .val (.long j4), .second, .val (.long j6), .second, .val (.int i8), .val (.ref o9), .val (.ref o10), .val (.long j11), .second, .val (.long j13), .second, .val (.long j15), .second, .val (.long j17), .second, .unset, .unset, .unset, .unset] [])) t := by
                  intro t k
                  refine pre193 _ ?_
                  show Steps p.tables e below (T192.setTop (mkF m 240 #[.val (.long j0), .second, .val (.long j2), .second, .val (.long j4), .second, .val (.long j6), .second, .val (.int i8), .val (.ref o9), .val (.ref o10), .val (.long j11), .second, .val (.long j13), .second, .val (.long j15), .second, .val (.long j17), .second, .val (.ref b104), .val (.ref b116), .val (.int (((i8.toUInt32 >>> ((2 : Int32) &&& 31).toUInt32).toInt32) &&& (3 : Int32))), .val (.int (0 : Int32))] [(.int (F5s j15 j11 j17 j13 o10 o9))])) _
                  refine XS.iload X192.here hx rfl (hb hby at_240) rfl ?_
                  exact k
                by_cases hc195 : (F5s j15 j11 j17 j13 o10 o9) = (0 : Int32)
                · have pre196 : ∀ t, Steps p.tables e below (T192.setTop (mkF m 245 #[.val (.long j0), .second, .val (.long j2), .second, .val (.long j4), .second, .val (.long j6), .second, .val (.int i8), .val (.ref o9), .val (.ref o10), .val (.long j11), .second, .val (.long j13), .second, .val (.long j15), .second, .val (.long j17), .second, .val (.ref b104), .val (.ref b116), .val (.int (((i8.toUInt32 >>> ((2 : Int32) &&& 31).toUInt32).toInt32) &&& (3 : Int32))), .val (.int (0 : Int32))] [])) t → Steps p.tables e below (T0.setTop (mkF m 96 #[.val (.long j0), .second, .val (.long j2), .second, .val (.long j4), .second, .val (.long j6), .second, .val (.int i8), .val (.ref o9), .val (.ref o10), .val (.long j11), .second, .val (.long j13), .second, .val (.long j15), .second, .val (.long j17), .second, .unset, .unset, .unset, .unset] [])) t := by
                    intro t k
                    refine pre194 _ ?_
                    show Steps p.tables e below (T192.setTop (mkF m 242 #[.val (.long j0), .second, .val (.long j2), .second, .val (.long j4), .second, .val (.long j6), .second, .val (.int i8), .val (.ref o9), .val (.ref o10), .val (.long j11), .second, .val (.long j13), .second, .val (.long j15), .second, .val (.long j17), .second, .val (.ref b104), .val (.ref b116), .val (.int (((i8.toUInt32 >>> ((2 : Int32) &&& 31).toUInt32).toInt32) &&& (3 : Int32))), .val (.int (0 : Int32))] [(.int (0 : Int32)), (.int (F5s j15 j11 j17 j13 o10 o9))])) _
                    refine XS.icmpNo X192.here hx rfl (hb hby at_242) rfl (teq hc195).2 ?_
                    exact k
                  have pre197 : ∀ t, Steps p.tables e below (T192.setTop (mkF m 250 #[.val (.long j0), .second, .val (.long j2), .second, .val (.long j4), .second, .val (.long j6), .second, .val (.int i8), .val (.ref o9), .val (.ref o10), .val (.long j11), .second, .val (.long j13), .second, .val (.long j15), .second, .val (.long j17), .second, .val (.ref b104), .val (.ref b116), .val (.int (((i8.toUInt32 >>> ((2 : Int32) &&& 31).toUInt32).toInt32) &&& (3 : Int32))), .val (.int (0 : Int32))] [(.int (1 : Int32))])) t → Steps p.tables e below (T0.setTop (mkF m 96 #[.val (.long j0), .second, .val (.long j2), .second, .val (.long j4), .second, .val (.long j6), .second, .val (.int i8), .val (.ref o9), .val (.ref o10), .val (.long j11), .second, .val (.long j13), .second, .val (.long j15), .second, .val (.long j17), .second, .unset, .unset, .unset, .unset] [])) t := by
                    intro t k
                    refine pre196 _ ?_
                    show Steps p.tables e below (T192.setTop (mkF m 245 #[.val (.long j0), .second, .val (.long j2), .second, .val (.long j4), .second, .val (.long j6), .second, .val (.int i8), .val (.ref o9), .val (.ref o10), .val (.long j11), .second, .val (.long j13), .second, .val (.long j15), .second, .val (.long j17), .second, .val (.ref b104), .val (.ref b116), .val (.int (((i8.toUInt32 >>> ((2 : Int32) &&& 31).toUInt32).toInt32) &&& (3 : Int32))), .val (.int (0 : Int32))] [])) _
                    refine XS.iconst X192.here hx rfl (hb hby at_245) ?_
                    show Steps p.tables e below (T192.setTop (mkF m 246 #[.val (.long j0), .second, .val (.long j2), .second, .val (.long j4), .second, .val (.long j6), .second, .val (.int i8), .val (.ref o9), .val (.ref o10), .val (.long j11), .second, .val (.long j13), .second, .val (.long j15), .second, .val (.long j17), .second, .val (.ref b104), .val (.ref b116), .val (.int (((i8.toUInt32 >>> ((2 : Int32) &&& 31).toUInt32).toInt32) &&& (3 : Int32))), .val (.int (0 : Int32))] [(.int (1 : Int32))])) _
                    refine XS.goto X192.here hx rfl (pc0 := 246) (pc' := 250) rfl (hb hby at_246) (by decide) (by decide) ?_
                    exact k
                  obtain ⟨fs, hr, hrun, hended, hsame⟩ := Stand.leaveW (s := s) (vm₁ := T122.vm) X192 hS122 (by rw [e192]; exact (Nat.le_refl _)) (v := some (.int (1 : Int32))) (fun h => by rw [hret] at h; cases h)
                  refine ⟨_, _, pre197 _ ?_, hrun, hended, _, _, rfl, ?_, ⟨hsame.1, hsame.2.1, hsame.2.2.1, hsame.2.2.2.mono (by decide) (by decide)⟩⟩
                  · show Steps p.tables e below (T192.setTop (mkF m 250 #[.val (.long j0), .second, .val (.long j2), .second, .val (.long j4), .second, .val (.long j6), .second, .val (.int i8), .val (.ref o9), .val (.ref o10), .val (.long j11), .second, .val (.long j13), .second, .val (.long j15), .second, .val (.long j17), .second, .val (.ref b104), .val (.ref b116), .val (.int (((i8.toUInt32 >>> ((2 : Int32) &&& 31).toUInt32).toInt32) &&& (3 : Int32))), .val (.int (0 : Int32))] [(.int (1 : Int32))])) _
                    exact retN X192 hx (t := .boolean) hret (by simp) (hb hby at_250) hr
                  · exact ⟨(by rw [F0_96_0, if_neg hc128, if_neg hc140, if_neg hc152, if_pos hc159, if_pos hc162, if_neg ha165, if_pos hc189, if_pos hc195]), N192⟩
                · have pre198 : ∀ t, Steps p.tables e below (T192.setTop (mkF m 249 #[.val (.long j0), .second, .val (.long j2), .second, .val (.long j4), .second, .val (.long j6), .second, .val (.int i8), .val (.ref o9), .val (.ref o10), .val (.long j11), .second, .val (.long j13), .second, .val (.long j15), .second, .val (.long j17), .second, .val (.ref b104), .val (.ref b116), .val (.int (((i8.toUInt32 >>> ((2 : Int32) &&& 31).toUInt32).toInt32) &&& (3 : Int32))), .val (.int (0 : Int32))] [])) t → Steps p.tables e below (T0.setTop (mkF m 96 #[.val (.long j0), .second, .val (.long j2), .second, .val (.long j4), .second, .val (.long j6), .second, .val (.int i8), .val (.ref o9), .val (.ref o10), .val (.long j11), .second, .val (.long j13), .second, .val (.long j15), .second, .val (.long j17), .second, .unset, .unset, .unset, .unset] [])) t := by
                    intro t k
                    refine pre194 _ ?_
                    show Steps p.tables e below (T192.setTop (mkF m 242 #[.val (.long j0), .second, .val (.long j2), .second, .val (.long j4), .second, .val (.long j6), .second, .val (.int i8), .val (.ref o9), .val (.ref o10), .val (.long j11), .second, .val (.long j13), .second, .val (.long j15), .second, .val (.long j17), .second, .val (.ref b104), .val (.ref b116), .val (.int (((i8.toUInt32 >>> ((2 : Int32) &&& 31).toUInt32).toInt32) &&& (3 : Int32))), .val (.int (0 : Int32))] [(.int (0 : Int32)), (.int (F5s j15 j11 j17 j13 o10 o9))])) _
                    refine XS.icmpYes X192.here hx rfl (pc0 := 242) (pc' := 249) rfl (hb hby at_242) rfl (feq hc195).2 (by decide) (by decide) ?_
                    exact k
                  have pre199 : ∀ t, Steps p.tables e below (T192.setTop (mkF m 250 #[.val (.long j0), .second, .val (.long j2), .second, .val (.long j4), .second, .val (.long j6), .second, .val (.int i8), .val (.ref o9), .val (.ref o10), .val (.long j11), .second, .val (.long j13), .second, .val (.long j15), .second, .val (.long j17), .second, .val (.ref b104), .val (.ref b116), .val (.int (((i8.toUInt32 >>> ((2 : Int32) &&& 31).toUInt32).toInt32) &&& (3 : Int32))), .val (.int (0 : Int32))] [(.int (0 : Int32))])) t → Steps p.tables e below (T0.setTop (mkF m 96 #[.val (.long j0), .second, .val (.long j2), .second, .val (.long j4), .second, .val (.long j6), .second, .val (.int i8), .val (.ref o9), .val (.ref o10), .val (.long j11), .second, .val (.long j13), .second, .val (.long j15), .second, .val (.long j17), .second, .unset, .unset, .unset, .unset] [])) t := by
                    intro t k
                    refine pre198 _ ?_
                    show Steps p.tables e below (T192.setTop (mkF m 249 #[.val (.long j0), .second, .val (.long j2), .second, .val (.long j4), .second, .val (.long j6), .second, .val (.int i8), .val (.ref o9), .val (.ref o10), .val (.long j11), .second, .val (.long j13), .second, .val (.long j15), .second, .val (.long j17), .second, .val (.ref b104), .val (.ref b116), .val (.int (((i8.toUInt32 >>> ((2 : Int32) &&& 31).toUInt32).toInt32) &&& (3 : Int32))), .val (.int (0 : Int32))] [])) _
                    refine XS.iconst X192.here hx rfl (hb hby at_249) ?_
                    exact k
                  obtain ⟨fs, hr, hrun, hended, hsame⟩ := Stand.leaveW (s := s) (vm₁ := T122.vm) X192 hS122 (by rw [e192]; exact (Nat.le_refl _)) (v := some (.int (0 : Int32))) (fun h => by rw [hret] at h; cases h)
                  refine ⟨_, _, pre199 _ ?_, hrun, hended, _, _, rfl, ?_, ⟨hsame.1, hsame.2.1, hsame.2.2.1, hsame.2.2.2.mono (by decide) (by decide)⟩⟩
                  · show Steps p.tables e below (T192.setTop (mkF m 250 #[.val (.long j0), .second, .val (.long j2), .second, .val (.long j4), .second, .val (.long j6), .second, .val (.int i8), .val (.ref o9), .val (.ref o10), .val (.long j11), .second, .val (.long j13), .second, .val (.long j15), .second, .val (.long j17), .second, .val (.ref b104), .val (.ref b116), .val (.int (((i8.toUInt32 >>> ((2 : Int32) &&& 31).toUInt32).toInt32) &&& (3 : Int32))), .val (.int (0 : Int32))] [(.int (0 : Int32))])) _
                    exact retN X192 hx (t := .boolean) hret (by simp) (hb hby at_250) hr
                  · exact ⟨(by rw [F0_96_0, if_neg hc128, if_neg hc140, if_neg hc152, if_pos hc159, if_pos hc162, if_neg ha165, if_pos hc189, if_neg hc195]), N192⟩
              · have pre200 : ∀ t, Steps p.tables e below (T186.setTop (mkF m 249 #[.val (.long j0), .second, .val (.long j2), .second, .val (.long j4), .second, .val (.long j6), .second, .val (.int i8), .val (.ref o9), .val (.ref o10), .val (.long j11), .second, .val (.long j13), .second, .val (.long j15), .second, .val (.long j17), .second, .val (.ref b104), .val (.ref b116), .val (.int (((i8.toUInt32 >>> ((2 : Int32) &&& 31).toUInt32).toInt32) &&& (3 : Int32))), .val (.int (0 : Int32))] [])) t → Steps p.tables e below (T0.setTop (mkF m 96 #[.val (.long j0), .second, .val (.long j2), .second, .val (.long j4), .second, .val (.long j6), .second, .val (.int i8), .val (.ref o9), .val (.ref o10), .val (.long j11), .second, .val (.long j13), .second, .val (.long j15), .second, .val (.long j17), .second, .unset, .unset, .unset, .unset] [])) t := by
                  intro t k
                  refine pre188 _ ?_
                  show Steps p.tables e below (T186.setTop (mkF m 230 #[.val (.long j0), .second, .val (.long j2), .second, .val (.long j4), .second, .val (.long j6), .second, .val (.int i8), .val (.ref o9), .val (.ref o10), .val (.long j11), .second, .val (.long j13), .second, .val (.long j15), .second, .val (.long j17), .second, .val (.ref b104), .val (.ref b116), .val (.int (((i8.toUInt32 >>> ((2 : Int32) &&& 31).toUInt32).toInt32) &&& (3 : Int32))), .val (.int (0 : Int32))] [(.int (0 : Int32)), (.int (F5s j11 j15 j13 j17 o9 o10))])) _
                  refine XS.icmpYes X186.here hx rfl (pc0 := 230) (pc' := 249) rfl (hb hby at_230) rfl (feq hc189).2 (by decide) (by decide) ?_
                  exact k
                have pre201 : ∀ t, Steps p.tables e below (T186.setTop (mkF m 250 #[.val (.long j0), .second, .val (.long j2), .second, .val (.long j4), .second, .val (.long j6), .second, .val (.int i8), .val (.ref o9), .val (.ref o10), .val (.long j11), .second, .val (.long j13), .second, .val (.long j15), .second, .val (.long j17), .second, .val (.ref b104), .val (.ref b116), .val (.int (((i8.toUInt32 >>> ((2 : Int32) &&& 31).toUInt32).toInt32) &&& (3 : Int32))), .val (.int (0 : Int32))] [(.int (0 : Int32))])) t → Steps p.tables e below (T0.setTop (mkF m 96 #[.val (.long j0), .second, .val (.long j2), .second, .val (.long j4), .second, .val (.long j6), .second, .val (.int i8), .val (.ref o9), .val (.ref o10), .val (.long j11), .second, .val (.long j13), .second, .val (.long j15), .second, .val (.long j17), .second, .unset, .unset, .unset, .unset] [])) t := by
                  intro t k
                  refine pre200 _ ?_
                  show Steps p.tables e below (T186.setTop (mkF m 249 #[.val (.long j0), .second, .val (.long j2), .second, .val (.long j4), .second, .val (.long j6), .second, .val (.int i8), .val (.ref o9), .val (.ref o10), .val (.long j11), .second, .val (.long j13), .second, .val (.long j15), .second, .val (.long j17), .second, .val (.ref b104), .val (.ref b116), .val (.int (((i8.toUInt32 >>> ((2 : Int32) &&& 31).toUInt32).toInt32) &&& (3 : Int32))), .val (.int (0 : Int32))] [])) _
                  refine XS.iconst X186.here hx rfl (hb hby at_249) ?_
                  exact k
                obtain ⟨fs, hr, hrun, hended, hsame⟩ := Stand.leaveW (s := s) (vm₁ := T122.vm) X186 hS122 (by rw [e186]; exact (Nat.le_refl _)) (v := some (.int (0 : Int32))) (fun h => by rw [hret] at h; cases h)
                refine ⟨_, _, pre201 _ ?_, hrun, hended, _, _, rfl, ?_, ⟨hsame.1, hsame.2.1, hsame.2.2.1, hsame.2.2.2.mono (by decide) (by decide)⟩⟩
                · show Steps p.tables e below (T186.setTop (mkF m 250 #[.val (.long j0), .second, .val (.long j2), .second, .val (.long j4), .second, .val (.long j6), .second, .val (.int i8), .val (.ref o9), .val (.ref o10), .val (.long j11), .second, .val (.long j13), .second, .val (.long j15), .second, .val (.long j17), .second, .val (.ref b104), .val (.ref b116), .val (.int (((i8.toUInt32 >>> ((2 : Int32) &&& 31).toUInt32).toInt32) &&& (3 : Int32))), .val (.int (0 : Int32))] [(.int (0 : Int32))])) _
                  exact retN X186 hx (t := .boolean) hret (by simp) (hb hby at_250) hr
                · exact ⟨(by rw [F0_96_0, if_neg hc128, if_neg hc140, if_neg hc152, if_pos hc159, if_pos hc162, if_neg ha165, if_neg hc189]), N186⟩
          · have pre202 : ∀ t, Steps p.tables e below (T122.setTop (mkF m 218 #[.val (.long j0), .second, .val (.long j2), .second, .val (.long j4), .second, .val (.long j6), .second, .val (.int i8), .val (.ref o9), .val (.ref o10), .val (.long j11), .second, .val (.long j13), .second, .val (.long j15), .second, .val (.long j17), .second, .val (.ref b104), .val (.ref b116), .val (.int (((i8.toUInt32 >>> ((2 : Int32) &&& 31).toUInt32).toInt32) &&& (3 : Int32))), .unset] [])) t → Steps p.tables e below (T0.setTop (mkF m 96 #[.val (.long j0), .second, .val (.long j2), .second, .val (.long j4), .second, .val (.long j6), .second, .val (.int i8), .val (.ref o9), .val (.ref o10), .val (.long j11), .second, .val (.long j13), .second, .val (.long j15), .second, .val (.long j17), .second, .unset, .unset, .unset, .unset] [])) t := by
              intro t k
              refine pre161 _ ?_
              show Steps p.tables e below (T122.setTop (mkF m 204 #[.val (.long j0), .second, .val (.long j2), .second, .val (.long j4), .second, .val (.long j6), .second, .val (.int i8), .val (.ref o9), .val (.ref o10), .val (.long j11), .second, .val (.long j13), .second, .val (.long j15), .second, .val (.long j17), .second, .val (.ref b104), .val (.ref b116), .val (.int (((i8.toUInt32 >>> ((2 : Int32) &&& 31).toUInt32).toInt32) &&& (3 : Int32))), .unset] [(.int (lcmpW j13 j17))])) _
              refine XS.ifYes X122.here hx rfl (pc0 := 204) (pc' := 218) rfl (hb hby at_204) rfl ((if0 _ _).trans (feq hc162).2) (by decide) (by decide) ?_
              exact k
            have pre203 : ∀ t, Steps p.tables e below (T122.setTop (mkF m 225 #[.val (.long j0), .second, .val (.long j2), .second, .val (.long j4), .second, .val (.long j6), .second, .val (.int i8), .val (.ref o9), .val (.ref o10), .val (.long j11), .second, .val (.long j13), .second, .val (.long j15), .second, .val (.long j17), .second, .val (.ref b104), .val (.ref b116), .val (.int (((i8.toUInt32 >>> ((2 : Int32) &&& 31).toUInt32).toInt32) &&& (3 : Int32))), .val (.int (0 : Int32))] [(.ref b116), (.ref b104)])) t → Steps p.tables e below (T0.setTop (mkF m 96 #[.val (.long j0), .second, .val (.long j2), .second, .val (.long j4), .second, .val (.long j6), .second, .val (.int i8), .val (.ref o9), .val (.ref o10), .val (.long j11), .second, .val (.long j13), .second, .val (.long j15), .second, .val (.long j17), .second, .unset, .unset, .unset, .unset] [])) t := by
              intro t k
              refine pre202 _ ?_
              show Steps p.tables e below (T122.setTop (mkF m 218 #[.val (.long j0), .second, .val (.long j2), .second, .val (.long j4), .second, .val (.long j6), .second, .val (.int i8), .val (.ref o9), .val (.ref o10), .val (.long j11), .second, .val (.long j13), .second, .val (.long j15), .second, .val (.long j17), .second, .val (.ref b104), .val (.ref b116), .val (.int (((i8.toUInt32 >>> ((2 : Int32) &&& 31).toUInt32).toInt32) &&& (3 : Int32))), .unset] [])) _
              refine XS.iconst X122.here hx rfl (hb hby at_218) ?_
              show Steps p.tables e below (T122.setTop (mkF m 219 #[.val (.long j0), .second, .val (.long j2), .second, .val (.long j4), .second, .val (.long j6), .second, .val (.int i8), .val (.ref o9), .val (.ref o10), .val (.long j11), .second, .val (.long j13), .second, .val (.long j15), .second, .val (.long j17), .second, .val (.ref b104), .val (.ref b116), .val (.int (((i8.toUInt32 >>> ((2 : Int32) &&& 31).toUInt32).toInt32) &&& (3 : Int32))), .unset] [(.int (0 : Int32))])) _
              refine XS.istore X122.here hx rfl (hb hby at_219) rfl (l' := #[.val (.long j0), .second, .val (.long j2), .second, .val (.long j4), .second, .val (.long j6), .second, .val (.int i8), .val (.ref o9), .val (.ref o10), .val (.long j11), .second, .val (.long j13), .second, .val (.long j15), .second, .val (.long j17), .second, .val (.ref b104), .val (.ref b116), .val (.int (((i8.toUInt32 >>> ((2 : Int32) &&& 31).toUInt32).toInt32) &&& (3 : Int32))), .val (.int (0 : Int32))]) rfl ?_
              show Steps p.tables e below (T122.setTop (mkF m 221 #[.val (.long j0), .second, .val (.long j2), .second, .val (.long j4), .second, .val (.long j6), .second, .val (.int i8), .val (.ref o9), .val (.ref o10), .val (.long j11), .second, .val (.long j13), .second, .val (.long j15), .second, .val (.long j17), .second, .val (.ref b104), .val (.ref b116), .val (.int (((i8.toUInt32 >>> ((2 : Int32) &&& 31).toUInt32).toInt32) &&& (3 : Int32))), .val (.int (0 : Int32))] [])) _
              refine XS.aload X122.here hx rfl (hb hby at_221) rfl rfl ?_
              show Steps p.tables e below (T122.setTop (mkF m 223 #[.val (.long j0), .second, .val (.long j2), .second, .val (.long j4), .second, .val (.long j6), .second, .val (.int i8), .val (.ref o9), .val (.ref o10), .val (.long j11), .second, .val (.long j13), .second, .val (.long j15), .second, .val (.long j17), .second, .val (.ref b104), .val (.ref b116), .val (.int (((i8.toUInt32 >>> ((2 : Int32) &&& 31).toUInt32).toInt32) &&& (3 : Int32))), .val (.int (0 : Int32))] [(.ref b104)])) _
              refine XS.aload X122.here hx rfl (hb hby at_223) rfl rfl ?_
              exact k
            obtain ⟨cq204, kq204, q204a, q204b, q204c⟩ := isOf hZ122 rfl ((E110.ext E116).keep K122)
            obtain ⟨_, _, ⟨T204, L204, k204, n204⟩, -, X204, ⟨Lc204, hQ204, l204, y204, z204⟩, st204⟩ := X122.virtualBack hx (y := (⟨"com/example/tabuleiro/tabuleiro/othello/OthelloPosition", "equals", "(Ljava/lang/Object;)Z"⟩ : MethodName)) (z := (⟨"com/example/tabuleiro/tabuleiro/othello/OthelloPosition", "equals", "(Ljava/lang/Object;)Z"⟩ : MethodName)) hown122 (mvT hZ122 (hw _ (List.mem_of_getElem? (i := 36) rfl))) (mvT hZ122 (hw _ (List.mem_of_getElem? (i := 37) rfl))) (notFace_of_selects (args := #[]) (mvT hZ122 (hw _ (List.mem_of_getElem? (i := 39) rfl)))) (mvT hZ122 (hw _ (List.mem_of_getElem? (i := 39) rfl))) (mvT hZ122 (hw _ (List.mem_of_getElem? (i := 38) rfl))) (by decide) (backOf (W := 0) (rm5s l Z a0 hw [] b104 b116 j11 j15 j13 j17 o9 o10 T122.heap n0 Z124 E122 ((F110a.ext E116).keep K122 (ninS ne_b104_b116 nin0)) F122a ((F110b.ext E116).keep K122 (ninS ne_b104_b116 nin0)) F122b ((F110c.ext E116).keep K122 (ninS ne_b104_b116 nin0)) F122c) hZ122 (hw _ (List.mem_of_getElem? (i := 40) rfl)) (hw _ (List.mem_of_getElem? (i := 6) rfl)) (by decide) (by decide)) q204a q204c (g := (mkF m 225 #[.val (.long j0), .second, .val (.long j2), .second, .val (.long j4), .second, .val (.long j6), .second, .val (.int i8), .val (.ref o9), .val (.ref o10), .val (.long j11), .second, .val (.long j13), .second, .val (.long j15), .second, .val (.long j17), .second, .val (.ref b104), .val (.ref b116), .val (.int (((i8.toUInt32 >>> ((2 : Int32) &&& 31).toUInt32).toInt32) &&& (3 : Int32))), .val (.int (0 : Int32))] [(.ref b116), (.ref b104)])) rfl (by rw [hml]; rfl) (Steps.refl _) (argsL := [(.ref b116)]) (rest := []) (lenOf pd__Ljava_lang_Object__Z rfl) rfl (by show 2 * 0 + _ ≤ _; exact Nat.le_of_eq rfl) (hb hby at_225) (fun _ _ => ⟨rfl, rfl, (by decide : 6 + 0 ≤ _), (by decide : 62 + 0 ≤ _)⟩)
            dsimp only [Pt.U, Pt.locs, Pt.cells, Pt.slots] at X204 l204 y204 z204 st204 hQ204
            subst l204 y204 z204
            obtain ⟨rfl, N204q, e204⟩ := hQ204
            have N204 := Fr.app N122 N204q
            have pre205 : ∀ t, Steps p.tables e below (T204.setTop (mkF m 228 #[.val (.long j0), .second, .val (.long j2), .second, .val (.long j4), .second, .val (.long j6), .second, .val (.int i8), .val (.ref o9), .val (.ref o10), .val (.long j11), .second, .val (.long j13), .second, .val (.long j15), .second, .val (.long j17), .second, .val (.ref b104), .val (.ref b116), .val (.int (((i8.toUInt32 >>> ((2 : Int32) &&& 31).toUInt32).toInt32) &&& (3 : Int32))), .val (.int (0 : Int32))] [(.int (F5s j11 j15 j13 j17 o9 o10))])) t → Steps p.tables e below (T0.setTop (mkF m 96 #[.val (.long j0), .second, .val (.long j2), .second, .val (.long j4), .second, .val (.long j6), .second, .val (.int i8), .val (.ref o9), .val (.ref o10), .val (.long j11), .second, .val (.long j13), .second, .val (.long j15), .second, .val (.long j17), .second, .unset, .unset, .unset, .unset] [])) t := by
              intro t k
              refine pre203 _ ?_
              show Steps p.tables e below (T122.setTop (mkF m 225 #[.val (.long j0), .second, .val (.long j2), .second, .val (.long j4), .second, .val (.long j6), .second, .val (.int i8), .val (.ref o9), .val (.ref o10), .val (.long j11), .second, .val (.long j13), .second, .val (.long j15), .second, .val (.long j17), .second, .val (.ref b104), .val (.ref b116), .val (.int (((i8.toUInt32 >>> ((2 : Int32) &&& 31).toUInt32).toInt32) &&& (3 : Int32))), .val (.int (0 : Int32))] [(.ref b116), (.ref b104)])) _
              refine st204.trans ?_
              exact k
            have pre206 : ∀ t, Steps p.tables e below (T204.setTop (mkF m 230 #[.val (.long j0), .second, .val (.long j2), .second, .val (.long j4), .second, .val (.long j6), .second, .val (.int i8), .val (.ref o9), .val (.ref o10), .val (.long j11), .second, .val (.long j13), .second, .val (.long j15), .second, .val (.long j17), .second, .val (.ref b104), .val (.ref b116), .val (.int (((i8.toUInt32 >>> ((2 : Int32) &&& 31).toUInt32).toInt32) &&& (3 : Int32))), .val (.int (0 : Int32))] [(.int (0 : Int32)), (.int (F5s j11 j15 j13 j17 o9 o10))])) t → Steps p.tables e below (T0.setTop (mkF m 96 #[.val (.long j0), .second, .val (.long j2), .second, .val (.long j4), .second, .val (.long j6), .second, .val (.int i8), .val (.ref o9), .val (.ref o10), .val (.long j11), .second, .val (.long j13), .second, .val (.long j15), .second, .val (.long j17), .second, .unset, .unset, .unset, .unset] [])) t := by
              intro t k
              refine pre205 _ ?_
              show Steps p.tables e below (T204.setTop (mkF m 228 #[.val (.long j0), .second, .val (.long j2), .second, .val (.long j4), .second, .val (.long j6), .second, .val (.int i8), .val (.ref o9), .val (.ref o10), .val (.long j11), .second, .val (.long j13), .second, .val (.long j15), .second, .val (.long j17), .second, .val (.ref b104), .val (.ref b116), .val (.int (((i8.toUInt32 >>> ((2 : Int32) &&& 31).toUInt32).toInt32) &&& (3 : Int32))), .val (.int (0 : Int32))] [(.int (F5s j11 j15 j13 j17 o9 o10))])) _
              refine XS.iload X204.here hx rfl (hb hby at_228) rfl ?_
              exact k
            by_cases hc207 : (F5s j11 j15 j13 j17 o9 o10) = (0 : Int32)
            · have pre208 : ∀ t, Steps p.tables e below (T204.setTop (mkF m 233 #[.val (.long j0), .second, .val (.long j2), .second, .val (.long j4), .second, .val (.long j6), .second, .val (.int i8), .val (.ref o9), .val (.ref o10), .val (.long j11), .second, .val (.long j13), .second, .val (.long j15), .second, .val (.long j17), .second, .val (.ref b104), .val (.ref b116), .val (.int (((i8.toUInt32 >>> ((2 : Int32) &&& 31).toUInt32).toInt32) &&& (3 : Int32))), .val (.int (0 : Int32))] [])) t → Steps p.tables e below (T0.setTop (mkF m 96 #[.val (.long j0), .second, .val (.long j2), .second, .val (.long j4), .second, .val (.long j6), .second, .val (.int i8), .val (.ref o9), .val (.ref o10), .val (.long j11), .second, .val (.long j13), .second, .val (.long j15), .second, .val (.long j17), .second, .unset, .unset, .unset, .unset] [])) t := by
                intro t k
                refine pre206 _ ?_
                show Steps p.tables e below (T204.setTop (mkF m 230 #[.val (.long j0), .second, .val (.long j2), .second, .val (.long j4), .second, .val (.long j6), .second, .val (.int i8), .val (.ref o9), .val (.ref o10), .val (.long j11), .second, .val (.long j13), .second, .val (.long j15), .second, .val (.long j17), .second, .val (.ref b104), .val (.ref b116), .val (.int (((i8.toUInt32 >>> ((2 : Int32) &&& 31).toUInt32).toInt32) &&& (3 : Int32))), .val (.int (0 : Int32))] [(.int (0 : Int32)), (.int (F5s j11 j15 j13 j17 o9 o10))])) _
                refine XS.icmpNo X204.here hx rfl (hb hby at_230) rfl (teq hc207).2 ?_
                exact k
              have pre209 : ∀ t, Steps p.tables e below (T204.setTop (mkF m 237 #[.val (.long j0), .second, .val (.long j2), .second, .val (.long j4), .second, .val (.long j6), .second, .val (.int i8), .val (.ref o9), .val (.ref o10), .val (.long j11), .second, .val (.long j13), .second, .val (.long j15), .second, .val (.long j17), .second, .val (.ref b104), .val (.ref b116), .val (.int (((i8.toUInt32 >>> ((2 : Int32) &&& 31).toUInt32).toInt32) &&& (3 : Int32))), .val (.int (0 : Int32))] [(.ref b104), (.ref b116)])) t → Steps p.tables e below (T0.setTop (mkF m 96 #[.val (.long j0), .second, .val (.long j2), .second, .val (.long j4), .second, .val (.long j6), .second, .val (.int i8), .val (.ref o9), .val (.ref o10), .val (.long j11), .second, .val (.long j13), .second, .val (.long j15), .second, .val (.long j17), .second, .unset, .unset, .unset, .unset] [])) t := by
                intro t k
                refine pre208 _ ?_
                show Steps p.tables e below (T204.setTop (mkF m 233 #[.val (.long j0), .second, .val (.long j2), .second, .val (.long j4), .second, .val (.long j6), .second, .val (.int i8), .val (.ref o9), .val (.ref o10), .val (.long j11), .second, .val (.long j13), .second, .val (.long j15), .second, .val (.long j17), .second, .val (.ref b104), .val (.ref b116), .val (.int (((i8.toUInt32 >>> ((2 : Int32) &&& 31).toUInt32).toInt32) &&& (3 : Int32))), .val (.int (0 : Int32))] [])) _
                refine XS.aload X204.here hx rfl (hb hby at_233) rfl rfl ?_
                show Steps p.tables e below (T204.setTop (mkF m 235 #[.val (.long j0), .second, .val (.long j2), .second, .val (.long j4), .second, .val (.long j6), .second, .val (.int i8), .val (.ref o9), .val (.ref o10), .val (.long j11), .second, .val (.long j13), .second, .val (.long j15), .second, .val (.long j17), .second, .val (.ref b104), .val (.ref b116), .val (.int (((i8.toUInt32 >>> ((2 : Int32) &&& 31).toUInt32).toInt32) &&& (3 : Int32))), .val (.int (0 : Int32))] [(.ref b116)])) _
                refine XS.aload X204.here hx rfl (hb hby at_235) rfl rfl ?_
                exact k
              obtain ⟨cq210, kq210, q210a, q210b, q210c⟩ := isOf hZ122 e204 E122
              obtain ⟨_, _, ⟨T210, L210, k210, n210⟩, -, X210, ⟨Lc210, hQ210, l210, y210, z210⟩, st210⟩ := X204.virtualBack hx (y := (⟨"com/example/tabuleiro/tabuleiro/othello/OthelloPosition", "equals", "(Ljava/lang/Object;)Z"⟩ : MethodName)) (z := (⟨"com/example/tabuleiro/tabuleiro/othello/OthelloPosition", "equals", "(Ljava/lang/Object;)Z"⟩ : MethodName)) hown122 (mvT hZ122 (hw _ (List.mem_of_getElem? (i := 36) rfl))) (mvT hZ122 (hw _ (List.mem_of_getElem? (i := 37) rfl))) (notFace_of_selects (args := #[]) (mvT hZ122 (hw _ (List.mem_of_getElem? (i := 39) rfl)))) (mvT hZ122 (hw _ (List.mem_of_getElem? (i := 39) rfl))) (mvT hZ122 (hw _ (List.mem_of_getElem? (i := 38) rfl))) (by decide) (backOf (W := 0) (rm5s l Z a0 hw [] b116 b104 j15 j11 j17 j13 o10 o9 T122.heap n0 Z124 ((E110.ext E116).keep K122) F122a ((F110a.ext E116).keep K122 (ninS ne_b104_b116 nin0)) F122b ((F110b.ext E116).keep K122 (ninS ne_b104_b116 nin0)) F122c ((F110c.ext E116).keep K122 (ninS ne_b104_b116 nin0))) hZ122 (hw _ (List.mem_of_getElem? (i := 40) rfl)) (hw _ (List.mem_of_getElem? (i := 6) rfl)) (by decide) (by decide)) q210a q210c (g := (mkF m 237 #[.val (.long j0), .second, .val (.long j2), .second, .val (.long j4), .second, .val (.long j6), .second, .val (.int i8), .val (.ref o9), .val (.ref o10), .val (.long j11), .second, .val (.long j13), .second, .val (.long j15), .second, .val (.long j17), .second, .val (.ref b104), .val (.ref b116), .val (.int (((i8.toUInt32 >>> ((2 : Int32) &&& 31).toUInt32).toInt32) &&& (3 : Int32))), .val (.int (0 : Int32))] [(.ref b104), (.ref b116)])) rfl (by rw [hml]; rfl) (Steps.refl _) (argsL := [(.ref b104)]) (rest := []) (lenOf pd__Ljava_lang_Object__Z rfl) rfl (by show 2 * 0 + _ ≤ _; exact Nat.le_of_eq rfl) (hb hby at_237) (fun _ _ => ⟨rfl, e204, (by decide : 6 + 0 ≤ _), (by decide : 62 + 0 ≤ _)⟩)
              dsimp only [Pt.U, Pt.locs, Pt.cells, Pt.slots] at X210 l210 y210 z210 st210 hQ210
              subst l210 y210 z210
              obtain ⟨rfl, N210q, e210⟩ := hQ210
              have N210 := Fr.app N204 N210q
              have pre211 : ∀ t, Steps p.tables e below (T210.setTop (mkF m 240 #[.val (.long j0), .second, .val (.long j2), .second, .val (.long j4), .second, .val (.long j6), .second, .val (.int i8), .val (.ref o9), .val (.ref o10), .val (.long j11), .second, .val (.long j13), .second, .val (.long j15), .second, .val (.long j17), .second, .val (.ref b104), .val (.ref b116), .val (.int (((i8.toUInt32 >>> ((2 : Int32) &&& 31).toUInt32).toInt32) &&& (3 : Int32))), .val (.int (0 : Int32))] [(.int (F5s j15 j11 j17 j13 o10 o9))])) t → Steps p.tables e below (T0.setTop (mkF m 96 #[.val (.long j0), .second, .val (.long j2), .second, .val (.long j4), .second, .val (.long j6), .second, .val (.int i8), .val (.ref o9), .val (.ref o10), .val (.long j11), .second, .val (.long j13), .second, .val (.long j15), .second, .val (.long j17), .second, .unset, .unset, .unset, .unset] [])) t := by
                intro t k
                refine pre209 _ ?_
                show Steps p.tables e below (T204.setTop (mkF m 237 #[.val (.long j0), .second, .val (.long j2), .second, .val (.long j4), .second, .val (.long j6), .second, .val (.int i8), .val (.ref o9), .val (.ref o10), .val (.long j11), .second, .val (.long j13), .second, .val (.long j15), .second, .val (.long j17), .second, .val (.ref b104), .val (.ref b116), .val (.int (((i8.toUInt32 >>> ((2 : Int32) &&& 31).toUInt32).toInt32) &&& (3 : Int32))), .val (.int (0 : Int32))] [(.ref b104), (.ref b116)])) _
                refine st210.trans ?_
                exact k
              have pre212 : ∀ t, Steps p.tables e below (T210.setTop (mkF m 242 #[.val (.long j0), .second, .val (.long j2), .second, .val (.long j4), .second, .val (.long j6), .second, .val (.int i8), .val (.ref o9), .val (.ref o10), .val (.long j11), .second, .val (.long j13), .second, .val (.long j15), .second, .val (.long j17), .second, .val (.ref b104), .val (.ref b116), .val (.int (((i8.toUInt32 >>> ((2 : Int32) &&& 31).toUInt32).toInt32) &&& (3 : Int32))), .val (.int (0 : Int32))] [(.int (0 : Int32)), (.int (F5s j15 j11 j17 j13 o10 o9))])) t → Steps p.tables e below (T0.setTop (mkF m 96 #[.val (.long j0), .second, .val (.long j2), .second, .val (.long j4), .second, .val (.long j6), .second, .val (.int i8), .val (.ref o9), .val (.ref o10), .val (.long j11), .second, .val (.long j13), .second, .val (.long j15), .second, .val (.long j17), .second, .unset, .unset, .unset, .unset] [])) t := by
                intro t k
                refine pre211 _ ?_
                show Steps p.tables e below (T210.setTop (mkF m 240 #[.val (.long j0), .second, .val (.long j2), .second, .val (.long j4), .second, .val (.long j6), .second, .val (.int i8), .val (.ref o9), .val (.ref o10), .val (.long j11), .second, .val (.long j13), .second, .val (.long j15), .second, .val (.long j17), .second, .val (.ref b104), .val (.ref b116), .val (.int (((i8.toUInt32 >>> ((2 : Int32) &&& 31).toUInt32).toInt32) &&& (3 : Int32))), .val (.int (0 : Int32))] [(.int (F5s j15 j11 j17 j13 o10 o9))])) _
                refine XS.iload X210.here hx rfl (hb hby at_240) rfl ?_
                exact k
              by_cases hc213 : (F5s j15 j11 j17 j13 o10 o9) = (0 : Int32)
              · have pre214 : ∀ t, Steps p.tables e below (T210.setTop (mkF m 245 #[.val (.long j0), .second, .val (.long j2), .second, .val (.long j4), .second, .val (.long j6), .second, .val (.int i8), .val (.ref o9), .val (.ref o10), .val (.long j11), .second, .val (.long j13), .second, .val (.long j15), .second, .val (.long j17), .second, .val (.ref b104), .val (.ref b116), .val (.int (((i8.toUInt32 >>> ((2 : Int32) &&& 31).toUInt32).toInt32) &&& (3 : Int32))), .val (.int (0 : Int32))] [])) t → Steps p.tables e below (T0.setTop (mkF m 96 #[.val (.long j0), .second, .val (.long j2), .second, .val (.long j4), .second, .val (.long j6), .second, .val (.int i8), .val (.ref o9), .val (.ref o10), .val (.long j11), .second, .val (.long j13), .second, .val (.long j15), .second, .val (.long j17), .second, .unset, .unset, .unset, .unset] [])) t := by
                  intro t k
                  refine pre212 _ ?_
                  show Steps p.tables e below (T210.setTop (mkF m 242 #[.val (.long j0), .second, .val (.long j2), .second, .val (.long j4), .second, .val (.long j6), .second, .val (.int i8), .val (.ref o9), .val (.ref o10), .val (.long j11), .second, .val (.long j13), .second, .val (.long j15), .second, .val (.long j17), .second, .val (.ref b104), .val (.ref b116), .val (.int (((i8.toUInt32 >>> ((2 : Int32) &&& 31).toUInt32).toInt32) &&& (3 : Int32))), .val (.int (0 : Int32))] [(.int (0 : Int32)), (.int (F5s j15 j11 j17 j13 o10 o9))])) _
                  refine XS.icmpNo X210.here hx rfl (hb hby at_242) rfl (teq hc213).2 ?_
                  exact k
                have pre215 : ∀ t, Steps p.tables e below (T210.setTop (mkF m 250 #[.val (.long j0), .second, .val (.long j2), .second, .val (.long j4), .second, .val (.long j6), .second, .val (.int i8), .val (.ref o9), .val (.ref o10), .val (.long j11), .second, .val (.long j13), .second, .val (.long j15), .second, .val (.long j17), .second, .val (.ref b104), .val (.ref b116), .val (.int (((i8.toUInt32 >>> ((2 : Int32) &&& 31).toUInt32).toInt32) &&& (3 : Int32))), .val (.int (0 : Int32))] [(.int (1 : Int32))])) t → Steps p.tables e below (T0.setTop (mkF m 96 #[.val (.long j0), .second, .val (.long j2), .second, .val (.long j4), .second, .val (.long j6), .second, .val (.int i8), .val (.ref o9), .val (.ref o10), .val (.long j11), .second, .val (.long j13), .second, .val (.long j15), .second, .val (.long j17), .second, .unset, .unset, .unset, .unset] [])) t := by
                  intro t k
                  refine pre214 _ ?_
                  show Steps p.tables e below (T210.setTop (mkF m 245 #[.val (.long j0), .second, .val (.long j2), .second, .val (.long j4), .second, .val (.long j6), .second, .val (.int i8), .val (.ref o9), .val (.ref o10), .val (.long j11), .second, .val (.long j13), .second, .val (.long j15), .second, .val (.long j17), .second, .val (.ref b104), .val (.ref b116), .val (.int (((i8.toUInt32 >>> ((2 : Int32) &&& 31).toUInt32).toInt32) &&& (3 : Int32))), .val (.int (0 : Int32))] [])) _
                  refine XS.iconst X210.here hx rfl (hb hby at_245) ?_
                  show Steps p.tables e below (T210.setTop (mkF m 246 #[.val (.long j0), .second, .val (.long j2), .second, .val (.long j4), .second, .val (.long j6), .second, .val (.int i8), .val (.ref o9), .val (.ref o10), .val (.long j11), .second, .val (.long j13), .second, .val (.long j15), .second, .val (.long j17), .second, .val (.ref b104), .val (.ref b116), .val (.int (((i8.toUInt32 >>> ((2 : Int32) &&& 31).toUInt32).toInt32) &&& (3 : Int32))), .val (.int (0 : Int32))] [(.int (1 : Int32))])) _
                  refine XS.goto X210.here hx rfl (pc0 := 246) (pc' := 250) rfl (hb hby at_246) (by decide) (by decide) ?_
                  exact k
                obtain ⟨fs, hr, hrun, hended, hsame⟩ := Stand.leaveW (s := s) (vm₁ := T122.vm) X210 hS122 (by rw [e210]; exact (Nat.le_refl _)) (v := some (.int (1 : Int32))) (fun h => by rw [hret] at h; cases h)
                refine ⟨_, _, pre215 _ ?_, hrun, hended, _, _, rfl, ?_, ⟨hsame.1, hsame.2.1, hsame.2.2.1, hsame.2.2.2.mono (by decide) (by decide)⟩⟩
                · show Steps p.tables e below (T210.setTop (mkF m 250 #[.val (.long j0), .second, .val (.long j2), .second, .val (.long j4), .second, .val (.long j6), .second, .val (.int i8), .val (.ref o9), .val (.ref o10), .val (.long j11), .second, .val (.long j13), .second, .val (.long j15), .second, .val (.long j17), .second, .val (.ref b104), .val (.ref b116), .val (.int (((i8.toUInt32 >>> ((2 : Int32) &&& 31).toUInt32).toInt32) &&& (3 : Int32))), .val (.int (0 : Int32))] [(.int (1 : Int32))])) _
                  exact retN X210 hx (t := .boolean) hret (by simp) (hb hby at_250) hr
                · exact ⟨(by rw [F0_96_0, if_neg hc128, if_neg hc140, if_neg hc152, if_pos hc159, if_neg hc162, if_pos hc207, if_pos hc213]), N210⟩
              · have pre216 : ∀ t, Steps p.tables e below (T210.setTop (mkF m 249 #[.val (.long j0), .second, .val (.long j2), .second, .val (.long j4), .second, .val (.long j6), .second, .val (.int i8), .val (.ref o9), .val (.ref o10), .val (.long j11), .second, .val (.long j13), .second, .val (.long j15), .second, .val (.long j17), .second, .val (.ref b104), .val (.ref b116), .val (.int (((i8.toUInt32 >>> ((2 : Int32) &&& 31).toUInt32).toInt32) &&& (3 : Int32))), .val (.int (0 : Int32))] [])) t → Steps p.tables e below (T0.setTop (mkF m 96 #[.val (.long j0), .second, .val (.long j2), .second, .val (.long j4), .second, .val (.long j6), .second, .val (.int i8), .val (.ref o9), .val (.ref o10), .val (.long j11), .second, .val (.long j13), .second, .val (.long j15), .second, .val (.long j17), .second, .unset, .unset, .unset, .unset] [])) t := by
                  intro t k
                  refine pre212 _ ?_
                  show Steps p.tables e below (T210.setTop (mkF m 242 #[.val (.long j0), .second, .val (.long j2), .second, .val (.long j4), .second, .val (.long j6), .second, .val (.int i8), .val (.ref o9), .val (.ref o10), .val (.long j11), .second, .val (.long j13), .second, .val (.long j15), .second, .val (.long j17), .second, .val (.ref b104), .val (.ref b116), .val (.int (((i8.toUInt32 >>> ((2 : Int32) &&& 31).toUInt32).toInt32) &&& (3 : Int32))), .val (.int (0 : Int32))] [(.int (0 : Int32)), (.int (F5s j15 j11 j17 j13 o10 o9))])) _
                  refine XS.icmpYes X210.here hx rfl (pc0 := 242) (pc' := 249) rfl (hb hby at_242) rfl (feq hc213).2 (by decide) (by decide) ?_
                  exact k
                have pre217 : ∀ t, Steps p.tables e below (T210.setTop (mkF m 250 #[.val (.long j0), .second, .val (.long j2), .second, .val (.long j4), .second, .val (.long j6), .second, .val (.int i8), .val (.ref o9), .val (.ref o10), .val (.long j11), .second, .val (.long j13), .second, .val (.long j15), .second, .val (.long j17), .second, .val (.ref b104), .val (.ref b116), .val (.int (((i8.toUInt32 >>> ((2 : Int32) &&& 31).toUInt32).toInt32) &&& (3 : Int32))), .val (.int (0 : Int32))] [(.int (0 : Int32))])) t → Steps p.tables e below (T0.setTop (mkF m 96 #[.val (.long j0), .second, .val (.long j2), .second, .val (.long j4), .second, .val (.long j6), .second, .val (.int i8), .val (.ref o9), .val (.ref o10), .val (.long j11), .second, .val (.long j13), .second, .val (.long j15), .second, .val (.long j17), .second, .unset, .unset, .unset, .unset] [])) t := by
                  intro t k
                  refine pre216 _ ?_
                  show Steps p.tables e below (T210.setTop (mkF m 249 #[.val (.long j0), .second, .val (.long j2), .second, .val (.long j4), .second, .val (.long j6), .second, .val (.int i8), .val (.ref o9), .val (.ref o10), .val (.long j11), .second, .val (.long j13), .second, .val (.long j15), .second, .val (.long j17), .second, .val (.ref b104), .val (.ref b116), .val (.int (((i8.toUInt32 >>> ((2 : Int32) &&& 31).toUInt32).toInt32) &&& (3 : Int32))), .val (.int (0 : Int32))] [])) _
                  refine XS.iconst X210.here hx rfl (hb hby at_249) ?_
                  exact k
                obtain ⟨fs, hr, hrun, hended, hsame⟩ := Stand.leaveW (s := s) (vm₁ := T122.vm) X210 hS122 (by rw [e210]; exact (Nat.le_refl _)) (v := some (.int (0 : Int32))) (fun h => by rw [hret] at h; cases h)
                refine ⟨_, _, pre217 _ ?_, hrun, hended, _, _, rfl, ?_, ⟨hsame.1, hsame.2.1, hsame.2.2.1, hsame.2.2.2.mono (by decide) (by decide)⟩⟩
                · show Steps p.tables e below (T210.setTop (mkF m 250 #[.val (.long j0), .second, .val (.long j2), .second, .val (.long j4), .second, .val (.long j6), .second, .val (.int i8), .val (.ref o9), .val (.ref o10), .val (.long j11), .second, .val (.long j13), .second, .val (.long j15), .second, .val (.long j17), .second, .val (.ref b104), .val (.ref b116), .val (.int (((i8.toUInt32 >>> ((2 : Int32) &&& 31).toUInt32).toInt32) &&& (3 : Int32))), .val (.int (0 : Int32))] [(.int (0 : Int32))])) _
                  exact retN X210 hx (t := .boolean) hret (by simp) (hb hby at_250) hr
                · exact ⟨(by rw [F0_96_0, if_neg hc128, if_neg hc140, if_neg hc152, if_pos hc159, if_neg hc162, if_pos hc207, if_neg hc213]), N210⟩
            · have pre218 : ∀ t, Steps p.tables e below (T204.setTop (mkF m 249 #[.val (.long j0), .second, .val (.long j2), .second, .val (.long j4), .second, .val (.long j6), .second, .val (.int i8), .val (.ref o9), .val (.ref o10), .val (.long j11), .second, .val (.long j13), .second, .val (.long j15), .second, .val (.long j17), .second, .val (.ref b104), .val (.ref b116), .val (.int (((i8.toUInt32 >>> ((2 : Int32) &&& 31).toUInt32).toInt32) &&& (3 : Int32))), .val (.int (0 : Int32))] [])) t → Steps p.tables e below (T0.setTop (mkF m 96 #[.val (.long j0), .second, .val (.long j2), .second, .val (.long j4), .second, .val (.long j6), .second, .val (.int i8), .val (.ref o9), .val (.ref o10), .val (.long j11), .second, .val (.long j13), .second, .val (.long j15), .second, .val (.long j17), .second, .unset, .unset, .unset, .unset] [])) t := by
                intro t k
                refine pre206 _ ?_
                show Steps p.tables e below (T204.setTop (mkF m 230 #[.val (.long j0), .second, .val (.long j2), .second, .val (.long j4), .second, .val (.long j6), .second, .val (.int i8), .val (.ref o9), .val (.ref o10), .val (.long j11), .second, .val (.long j13), .second, .val (.long j15), .second, .val (.long j17), .second, .val (.ref b104), .val (.ref b116), .val (.int (((i8.toUInt32 >>> ((2 : Int32) &&& 31).toUInt32).toInt32) &&& (3 : Int32))), .val (.int (0 : Int32))] [(.int (0 : Int32)), (.int (F5s j11 j15 j13 j17 o9 o10))])) _
                refine XS.icmpYes X204.here hx rfl (pc0 := 230) (pc' := 249) rfl (hb hby at_230) rfl (feq hc207).2 (by decide) (by decide) ?_
                exact k
              have pre219 : ∀ t, Steps p.tables e below (T204.setTop (mkF m 250 #[.val (.long j0), .second, .val (.long j2), .second, .val (.long j4), .second, .val (.long j6), .second, .val (.int i8), .val (.ref o9), .val (.ref o10), .val (.long j11), .second, .val (.long j13), .second, .val (.long j15), .second, .val (.long j17), .second, .val (.ref b104), .val (.ref b116), .val (.int (((i8.toUInt32 >>> ((2 : Int32) &&& 31).toUInt32).toInt32) &&& (3 : Int32))), .val (.int (0 : Int32))] [(.int (0 : Int32))])) t → Steps p.tables e below (T0.setTop (mkF m 96 #[.val (.long j0), .second, .val (.long j2), .second, .val (.long j4), .second, .val (.long j6), .second, .val (.int i8), .val (.ref o9), .val (.ref o10), .val (.long j11), .second, .val (.long j13), .second, .val (.long j15), .second, .val (.long j17), .second, .unset, .unset, .unset, .unset] [])) t := by
                intro t k
                refine pre218 _ ?_
                show Steps p.tables e below (T204.setTop (mkF m 249 #[.val (.long j0), .second, .val (.long j2), .second, .val (.long j4), .second, .val (.long j6), .second, .val (.int i8), .val (.ref o9), .val (.ref o10), .val (.long j11), .second, .val (.long j13), .second, .val (.long j15), .second, .val (.long j17), .second, .val (.ref b104), .val (.ref b116), .val (.int (((i8.toUInt32 >>> ((2 : Int32) &&& 31).toUInt32).toInt32) &&& (3 : Int32))), .val (.int (0 : Int32))] [])) _
                refine XS.iconst X204.here hx rfl (hb hby at_249) ?_
                exact k
              obtain ⟨fs, hr, hrun, hended, hsame⟩ := Stand.leaveW (s := s) (vm₁ := T122.vm) X204 hS122 (by rw [e204]; exact (Nat.le_refl _)) (v := some (.int (0 : Int32))) (fun h => by rw [hret] at h; cases h)
              refine ⟨_, _, pre219 _ ?_, hrun, hended, _, _, rfl, ?_, ⟨hsame.1, hsame.2.1, hsame.2.2.1, hsame.2.2.2.mono (by decide) (by decide)⟩⟩
              · show Steps p.tables e below (T204.setTop (mkF m 250 #[.val (.long j0), .second, .val (.long j2), .second, .val (.long j4), .second, .val (.long j6), .second, .val (.int i8), .val (.ref o9), .val (.ref o10), .val (.long j11), .second, .val (.long j13), .second, .val (.long j15), .second, .val (.long j17), .second, .val (.ref b104), .val (.ref b116), .val (.int (((i8.toUInt32 >>> ((2 : Int32) &&& 31).toUInt32).toInt32) &&& (3 : Int32))), .val (.int (0 : Int32))] [(.int (0 : Int32))])) _
                exact retN X204 hx (t := .boolean) hret (by simp) (hb hby at_250) hr
              · exact ⟨(by rw [F0_96_0, if_neg hc128, if_neg hc140, if_neg hc152, if_pos hc159, if_neg hc162, if_neg hc207]), N204⟩
        · have pre220 : ∀ t, Steps p.tables e below (T122.setTop (mkF m 218 #[.val (.long j0), .second, .val (.long j2), .second, .val (.long j4), .second, .val (.long j6), .second, .val (.int i8), .val (.ref o9), .val (.ref o10), .val (.long j11), .second, .val (.long j13), .second, .val (.long j15), .second, .val (.long j17), .second, .val (.ref b104), .val (.ref b116), .val (.int (((i8.toUInt32 >>> ((2 : Int32) &&& 31).toUInt32).toInt32) &&& (3 : Int32))), .unset] [])) t → Steps p.tables e below (T0.setTop (mkF m 96 #[.val (.long j0), .second, .val (.long j2), .second, .val (.long j4), .second, .val (.long j6), .second, .val (.int i8), .val (.ref o9), .val (.ref o10), .val (.long j11), .second, .val (.long j13), .second, .val (.long j15), .second, .val (.long j17), .second, .unset, .unset, .unset, .unset] [])) t := by
            intro t k
            refine pre158 _ ?_
            show Steps p.tables e below (T122.setTop (mkF m 196 #[.val (.long j0), .second, .val (.long j2), .second, .val (.long j4), .second, .val (.long j6), .second, .val (.int i8), .val (.ref o9), .val (.ref o10), .val (.long j11), .second, .val (.long j13), .second, .val (.long j15), .second, .val (.long j17), .second, .val (.ref b104), .val (.ref b116), .val (.int (((i8.toUInt32 >>> ((2 : Int32) &&& 31).toUInt32).toInt32) &&& (3 : Int32))), .unset] [(.int (lcmpW j11 j15))])) _
            refine XS.ifYes X122.here hx rfl (pc0 := 196) (pc' := 218) rfl (hb hby at_196) rfl ((if0 _ _).trans (feq hc159).2) (by decide) (by decide) ?_
            exact k
          have pre221 : ∀ t, Steps p.tables e below (T122.setTop (mkF m 225 #[.val (.long j0), .second, .val (.long j2), .second, .val (.long j4), .second, .val (.long j6), .second, .val (.int i8), .val (.ref o9), .val (.ref o10), .val (.long j11), .second, .val (.long j13), .second, .val (.long j15), .second, .val (.long j17), .second, .val (.ref b104), .val (.ref b116), .val (.int (((i8.toUInt32 >>> ((2 : Int32) &&& 31).toUInt32).toInt32) &&& (3 : Int32))), .val (.int (0 : Int32))] [(.ref b116), (.ref b104)])) t → Steps p.tables e below (T0.setTop (mkF m 96 #[.val (.long j0), .second, .val (.long j2), .second, .val (.long j4), .second, .val (.long j6), .second, .val (.int i8), .val (.ref o9), .val (.ref o10), .val (.long j11), .second, .val (.long j13), .second, .val (.long j15), .second, .val (.long j17), .second, .unset, .unset, .unset, .unset] [])) t := by
            intro t k
            refine pre220 _ ?_
            show Steps p.tables e below (T122.setTop (mkF m 218 #[.val (.long j0), .second, .val (.long j2), .second, .val (.long j4), .second, .val (.long j6), .second, .val (.int i8), .val (.ref o9), .val (.ref o10), .val (.long j11), .second, .val (.long j13), .second, .val (.long j15), .second, .val (.long j17), .second, .val (.ref b104), .val (.ref b116), .val (.int (((i8.toUInt32 >>> ((2 : Int32) &&& 31).toUInt32).toInt32) &&& (3 : Int32))), .unset] [])) _
            refine XS.iconst X122.here hx rfl (hb hby at_218) ?_
            show Steps p.tables e below (T122.setTop (mkF m 219 #[.val (.long j0), .second, .val (.long j2), .second, .val (.long j4), .second, .val (.long j6), .second, .val (.int i8), .val (.ref o9), .val (.ref o10), .val (.long j11), .second, .val (.long j13), .second, .val (.long j15), .second, .val (.long j17), .second, .val (.ref b104), .val (.ref b116), .val (.int (((i8.toUInt32 >>> ((2 : Int32) &&& 31).toUInt32).toInt32) &&& (3 : Int32))), .unset] [(.int (0 : Int32))])) _
            refine XS.istore X122.here hx rfl (hb hby at_219) rfl (l' := #[.val (.long j0), .second, .val (.long j2), .second, .val (.long j4), .second, .val (.long j6), .second, .val (.int i8), .val (.ref o9), .val (.ref o10), .val (.long j11), .second, .val (.long j13), .second, .val (.long j15), .second, .val (.long j17), .second, .val (.ref b104), .val (.ref b116), .val (.int (((i8.toUInt32 >>> ((2 : Int32) &&& 31).toUInt32).toInt32) &&& (3 : Int32))), .val (.int (0 : Int32))]) rfl ?_
            show Steps p.tables e below (T122.setTop (mkF m 221 #[.val (.long j0), .second, .val (.long j2), .second, .val (.long j4), .second, .val (.long j6), .second, .val (.int i8), .val (.ref o9), .val (.ref o10), .val (.long j11), .second, .val (.long j13), .second, .val (.long j15), .second, .val (.long j17), .second, .val (.ref b104), .val (.ref b116), .val (.int (((i8.toUInt32 >>> ((2 : Int32) &&& 31).toUInt32).toInt32) &&& (3 : Int32))), .val (.int (0 : Int32))] [])) _
            refine XS.aload X122.here hx rfl (hb hby at_221) rfl rfl ?_
            show Steps p.tables e below (T122.setTop (mkF m 223 #[.val (.long j0), .second, .val (.long j2), .second, .val (.long j4), .second, .val (.long j6), .second, .val (.int i8), .val (.ref o9), .val (.ref o10), .val (.long j11), .second, .val (.long j13), .second, .val (.long j15), .second, .val (.long j17), .second, .val (.ref b104), .val (.ref b116), .val (.int (((i8.toUInt32 >>> ((2 : Int32) &&& 31).toUInt32).toInt32) &&& (3 : Int32))), .val (.int (0 : Int32))] [(.ref b104)])) _
            refine XS.aload X122.here hx rfl (hb hby at_223) rfl rfl ?_
            exact k
          obtain ⟨cq222, kq222, q222a, q222b, q222c⟩ := isOf hZ122 rfl ((E110.ext E116).keep K122)
          obtain ⟨_, _, ⟨T222, L222, k222, n222⟩, -, X222, ⟨Lc222, hQ222, l222, y222, z222⟩, st222⟩ := X122.virtualBack hx (y := (⟨"com/example/tabuleiro/tabuleiro/othello/OthelloPosition", "equals", "(Ljava/lang/Object;)Z"⟩ : MethodName)) (z := (⟨"com/example/tabuleiro/tabuleiro/othello/OthelloPosition", "equals", "(Ljava/lang/Object;)Z"⟩ : MethodName)) hown122 (mvT hZ122 (hw _ (List.mem_of_getElem? (i := 36) rfl))) (mvT hZ122 (hw _ (List.mem_of_getElem? (i := 37) rfl))) (notFace_of_selects (args := #[]) (mvT hZ122 (hw _ (List.mem_of_getElem? (i := 39) rfl)))) (mvT hZ122 (hw _ (List.mem_of_getElem? (i := 39) rfl))) (mvT hZ122 (hw _ (List.mem_of_getElem? (i := 38) rfl))) (by decide) (backOf (W := 0) (rm5s l Z a0 hw [] b104 b116 j11 j15 j13 j17 o9 o10 T122.heap n0 Z124 E122 ((F110a.ext E116).keep K122 (ninS ne_b104_b116 nin0)) F122a ((F110b.ext E116).keep K122 (ninS ne_b104_b116 nin0)) F122b ((F110c.ext E116).keep K122 (ninS ne_b104_b116 nin0)) F122c) hZ122 (hw _ (List.mem_of_getElem? (i := 40) rfl)) (hw _ (List.mem_of_getElem? (i := 6) rfl)) (by decide) (by decide)) q222a q222c (g := (mkF m 225 #[.val (.long j0), .second, .val (.long j2), .second, .val (.long j4), .second, .val (.long j6), .second, .val (.int i8), .val (.ref o9), .val (.ref o10), .val (.long j11), .second, .val (.long j13), .second, .val (.long j15), .second, .val (.long j17), .second, .val (.ref b104), .val (.ref b116), .val (.int (((i8.toUInt32 >>> ((2 : Int32) &&& 31).toUInt32).toInt32) &&& (3 : Int32))), .val (.int (0 : Int32))] [(.ref b116), (.ref b104)])) rfl (by rw [hml]; rfl) (Steps.refl _) (argsL := [(.ref b116)]) (rest := []) (lenOf pd__Ljava_lang_Object__Z rfl) rfl (by show 2 * 0 + _ ≤ _; exact Nat.le_of_eq rfl) (hb hby at_225) (fun _ _ => ⟨rfl, rfl, (by decide : 6 + 0 ≤ _), (by decide : 62 + 0 ≤ _)⟩)
          dsimp only [Pt.U, Pt.locs, Pt.cells, Pt.slots] at X222 l222 y222 z222 st222 hQ222
          subst l222 y222 z222
          obtain ⟨rfl, N222q, e222⟩ := hQ222
          have N222 := Fr.app N122 N222q
          have pre223 : ∀ t, Steps p.tables e below (T222.setTop (mkF m 228 #[.val (.long j0), .second, .val (.long j2), .second, .val (.long j4), .second, .val (.long j6), .second, .val (.int i8), .val (.ref o9), .val (.ref o10), .val (.long j11), .second, .val (.long j13), .second, .val (.long j15), .second, .val (.long j17), .second, .val (.ref b104), .val (.ref b116), .val (.int (((i8.toUInt32 >>> ((2 : Int32) &&& 31).toUInt32).toInt32) &&& (3 : Int32))), .val (.int (0 : Int32))] [(.int (F5s j11 j15 j13 j17 o9 o10))])) t → Steps p.tables e below (T0.setTop (mkF m 96 #[.val (.long j0), .second, .val (.long j2), .second, .val (.long j4), .second, .val (.long j6), .second, .val (.int i8), .val (.ref o9), .val (.ref o10), .val (.long j11), .second, .val (.long j13), .second, .val (.long j15), .second, .val (.long j17), .second, .unset, .unset, .unset, .unset] [])) t := by
            intro t k
            refine pre221 _ ?_
            show Steps p.tables e below (T122.setTop (mkF m 225 #[.val (.long j0), .second, .val (.long j2), .second, .val (.long j4), .second, .val (.long j6), .second, .val (.int i8), .val (.ref o9), .val (.ref o10), .val (.long j11), .second, .val (.long j13), .second, .val (.long j15), .second, .val (.long j17), .second, .val (.ref b104), .val (.ref b116), .val (.int (((i8.toUInt32 >>> ((2 : Int32) &&& 31).toUInt32).toInt32) &&& (3 : Int32))), .val (.int (0 : Int32))] [(.ref b116), (.ref b104)])) _
            refine st222.trans ?_
            exact k
          have pre224 : ∀ t, Steps p.tables e below (T222.setTop (mkF m 230 #[.val (.long j0), .second, .val (.long j2), .second, .val (.long j4), .second, .val (.long j6), .second, .val (.int i8), .val (.ref o9), .val (.ref o10), .val (.long j11), .second, .val (.long j13), .second, .val (.long j15), .second, .val (.long j17), .second, .val (.ref b104), .val (.ref b116), .val (.int (((i8.toUInt32 >>> ((2 : Int32) &&& 31).toUInt32).toInt32) &&& (3 : Int32))), .val (.int (0 : Int32))] [(.int (0 : Int32)), (.int (F5s j11 j15 j13 j17 o9 o10))])) t → Steps p.tables e below (T0.setTop (mkF m 96 #[.val (.long j0), .second, .val (.long j2), .second, .val (.long j4), .second, .val (.long j6), .second, .val (.int i8), .val (.ref o9), .val (.ref o10), .val (.long j11), .second, .val (.long j13), .second, .val (.long j15), .second, .val (.long j17), .second, .unset, .unset, .unset, .unset] [])) t := by
            intro t k
            refine pre223 _ ?_
            show Steps p.tables e below (T222.setTop (mkF m 228 #[.val (.long j0), .second, .val (.long j2), .second, .val (.long j4), .second, .val (.long j6), .second, .val (.int i8), .val (.ref o9), .val (.ref o10), .val (.long j11), .second, .val (.long j13), .second, .val (.long j15), .second, .val (.long j17), .second, .val (.ref b104), .val (.ref b116), .val (.int (((i8.toUInt32 >>> ((2 : Int32) &&& 31).toUInt32).toInt32) &&& (3 : Int32))), .val (.int (0 : Int32))] [(.int (F5s j11 j15 j13 j17 o9 o10))])) _
            refine XS.iload X222.here hx rfl (hb hby at_228) rfl ?_
            exact k
          by_cases hc225 : (F5s j11 j15 j13 j17 o9 o10) = (0 : Int32)
          · have pre226 : ∀ t, Steps p.tables e below (T222.setTop (mkF m 233 #[.val (.long j0), .second, .val (.long j2), .second, .val (.long j4), .second, .val (.long j6), .second, .val (.int i8), .val (.ref o9), .val (.ref o10), .val (.long j11), .second, .val (.long j13), .second, .val (.long j15), .second, .val (.long j17), .second, .val (.ref b104), .val (.ref b116), .val (.int (((i8.toUInt32 >>> ((2 : Int32) &&& 31).toUInt32).toInt32) &&& (3 : Int32))), .val (.int (0 : Int32))] [])) t → Steps p.tables e below (T0.setTop (mkF m 96 #[.val (.long j0), .second, .val (.long j2), .second, .val (.long j4), .second, .val (.long j6), .second, .val (.int i8), .val (.ref o9), .val (.ref o10), .val (.long j11), .second, .val (.long j13), .second, .val (.long j15), .second, .val (.long j17), .second, .unset, .unset, .unset, .unset] [])) t := by
              intro t k
              refine pre224 _ ?_
              show Steps p.tables e below (T222.setTop (mkF m 230 #[.val (.long j0), .second, .val (.long j2), .second, .val (.long j4), .second, .val (.long j6), .second, .val (.int i8), .val (.ref o9), .val (.ref o10), .val (.long j11), .second, .val (.long j13), .second, .val (.long j15), .second, .val (.long j17), .second, .val (.ref b104), .val (.ref b116), .val (.int (((i8.toUInt32 >>> ((2 : Int32) &&& 31).toUInt32).toInt32) &&& (3 : Int32))), .val (.int (0 : Int32))] [(.int (0 : Int32)), (.int (F5s j11 j15 j13 j17 o9 o10))])) _
              refine XS.icmpNo X222.here hx rfl (hb hby at_230) rfl (teq hc225).2 ?_
              exact k
            have pre227 : ∀ t, Steps p.tables e below (T222.setTop (mkF m 237 #[.val (.long j0), .second, .val (.long j2), .second, .val (.long j4), .second, .val (.long j6), .second, .val (.int i8), .val (.ref o9), .val (.ref o10), .val (.long j11), .second, .val (.long j13), .second, .val (.long j15), .second, .val (.long j17), .second, .val (.ref b104), .val (.ref b116), .val (.int (((i8.toUInt32 >>> ((2 : Int32) &&& 31).toUInt32).toInt32) &&& (3 : Int32))), .val (.int (0 : Int32))] [(.ref b104), (.ref b116)])) t → Steps p.tables e below (T0.setTop (mkF m 96 #[.val (.long j0), .second, .val (.long j2), .second, .val (.long j4), .second, .val (.long j6), .second, .val (.int i8), .val (.ref o9), .val (.ref o10), .val (.long j11), .second, .val (.long j13), .second, .val (.long j15), .second, .val (.long j17), .second, .unset, .unset, .unset, .unset] [])) t := by
              intro t k
              refine pre226 _ ?_
              show Steps p.tables e below (T222.setTop (mkF m 233 #[.val (.long j0), .second, .val (.long j2), .second, .val (.long j4), .second, .val (.long j6), .second, .val (.int i8), .val (.ref o9), .val (.ref o10), .val (.long j11), .second, .val (.long j13), .second, .val (.long j15), .second, .val (.long j17), .second, .val (.ref b104), .val (.ref b116), .val (.int (((i8.toUInt32 >>> ((2 : Int32) &&& 31).toUInt32).toInt32) &&& (3 : Int32))), .val (.int (0 : Int32))] [])) _
              refine XS.aload X222.here hx rfl (hb hby at_233) rfl rfl ?_
              show Steps p.tables e below (T222.setTop (mkF m 235 #[.val (.long j0), .second, .val (.long j2), .second, .val (.long j4), .second, .val (.long j6), .second, .val (.int i8), .val (.ref o9), .val (.ref o10), .val (.long j11), .second, .val (.long j13), .second, .val (.long j15), .second, .val (.long j17), .second, .val (.ref b104), .val (.ref b116), .val (.int (((i8.toUInt32 >>> ((2 : Int32) &&& 31).toUInt32).toInt32) &&& (3 : Int32))), .val (.int (0 : Int32))] [(.ref b116)])) _
              refine XS.aload X222.here hx rfl (hb hby at_235) rfl rfl ?_
              exact k
            obtain ⟨cq228, kq228, q228a, q228b, q228c⟩ := isOf hZ122 e222 E122
            obtain ⟨_, _, ⟨T228, L228, k228, n228⟩, -, X228, ⟨Lc228, hQ228, l228, y228, z228⟩, st228⟩ := X222.virtualBack hx (y := (⟨"com/example/tabuleiro/tabuleiro/othello/OthelloPosition", "equals", "(Ljava/lang/Object;)Z"⟩ : MethodName)) (z := (⟨"com/example/tabuleiro/tabuleiro/othello/OthelloPosition", "equals", "(Ljava/lang/Object;)Z"⟩ : MethodName)) hown122 (mvT hZ122 (hw _ (List.mem_of_getElem? (i := 36) rfl))) (mvT hZ122 (hw _ (List.mem_of_getElem? (i := 37) rfl))) (notFace_of_selects (args := #[]) (mvT hZ122 (hw _ (List.mem_of_getElem? (i := 39) rfl)))) (mvT hZ122 (hw _ (List.mem_of_getElem? (i := 39) rfl))) (mvT hZ122 (hw _ (List.mem_of_getElem? (i := 38) rfl))) (by decide) (backOf (W := 0) (rm5s l Z a0 hw [] b116 b104 j15 j11 j17 j13 o10 o9 T122.heap n0 Z124 ((E110.ext E116).keep K122) F122a ((F110a.ext E116).keep K122 (ninS ne_b104_b116 nin0)) F122b ((F110b.ext E116).keep K122 (ninS ne_b104_b116 nin0)) F122c ((F110c.ext E116).keep K122 (ninS ne_b104_b116 nin0))) hZ122 (hw _ (List.mem_of_getElem? (i := 40) rfl)) (hw _ (List.mem_of_getElem? (i := 6) rfl)) (by decide) (by decide)) q228a q228c (g := (mkF m 237 #[.val (.long j0), .second, .val (.long j2), .second, .val (.long j4), .second, .val (.long j6), .second, .val (.int i8), .val (.ref o9), .val (.ref o10), .val (.long j11), .second, .val (.long j13), .second, .val (.long j15), .second, .val (.long j17), .second, .val (.ref b104), .val (.ref b116), .val (.int (((i8.toUInt32 >>> ((2 : Int32) &&& 31).toUInt32).toInt32) &&& (3 : Int32))), .val (.int (0 : Int32))] [(.ref b104), (.ref b116)])) rfl (by rw [hml]; rfl) (Steps.refl _) (argsL := [(.ref b104)]) (rest := []) (lenOf pd__Ljava_lang_Object__Z rfl) rfl (by show 2 * 0 + _ ≤ _; exact Nat.le_of_eq rfl) (hb hby at_237) (fun _ _ => ⟨rfl, e222, (by decide : 6 + 0 ≤ _), (by decide : 62 + 0 ≤ _)⟩)
            dsimp only [Pt.U, Pt.locs, Pt.cells, Pt.slots] at X228 l228 y228 z228 st228 hQ228
            subst l228 y228 z228
            obtain ⟨rfl, N228q, e228⟩ := hQ228
            have N228 := Fr.app N222 N228q
            have pre229 : ∀ t, Steps p.tables e below (T228.setTop (mkF m 240 #[.val (.long j0), .second, .val (.long j2), .second, .val (.long j4), .second, .val (.long j6), .second, .val (.int i8), .val (.ref o9), .val (.ref o10), .val (.long j11), .second, .val (.long j13), .second, .val (.long j15), .second, .val (.long j17), .second, .val (.ref b104), .val (.ref b116), .val (.int (((i8.toUInt32 >>> ((2 : Int32) &&& 31).toUInt32).toInt32) &&& (3 : Int32))), .val (.int (0 : Int32))] [(.int (F5s j15 j11 j17 j13 o10 o9))])) t → Steps p.tables e below (T0.setTop (mkF m 96 #[.val (.long j0), .second, .val (.long j2), .second, .val (.long j4), .second, .val (.long j6), .second, .val (.int i8), .val (.ref o9), .val (.ref o10), .val (.long j11), .second, .val (.long j13), .second, .val (.long j15), .second, .val (.long j17), .second, .unset, .unset, .unset, .unset] [])) t := by
              intro t k
              refine pre227 _ ?_
              show Steps p.tables e below (T222.setTop (mkF m 237 #[.val (.long j0), .second, .val (.long j2), .second, .val (.long j4), .second, .val (.long j6), .second, .val (.int i8), .val (.ref o9), .val (.ref o10), .val (.long j11), .second, .val (.long j13), .second, .val (.long j15), .second, .val (.long j17), .second, .val (.ref b104), .val (.ref b116), .val (.int (((i8.toUInt32 >>> ((2 : Int32) &&& 31).toUInt32).toInt32) &&& (3 : Int32))), .val (.int (0 : Int32))] [(.ref b104), (.ref b116)])) _
              refine st228.trans ?_
              exact k
            have pre230 : ∀ t, Steps p.tables e below (T228.setTop (mkF m 242 #[.val (.long j0), .second, .val (.long j2), .second, .val (.long j4), .second, .val (.long j6), .second, .val (.int i8), .val (.ref o9), .val (.ref o10), .val (.long j11), .second, .val (.long j13), .second, .val (.long j15), .second, .val (.long j17), .second, .val (.ref b104), .val (.ref b116), .val (.int (((i8.toUInt32 >>> ((2 : Int32) &&& 31).toUInt32).toInt32) &&& (3 : Int32))), .val (.int (0 : Int32))] [(.int (0 : Int32)), (.int (F5s j15 j11 j17 j13 o10 o9))])) t → Steps p.tables e below (T0.setTop (mkF m 96 #[.val (.long j0), .second, .val (.long j2), .second, .val (.long j4), .second, .val (.long j6), .second, .val (.int i8), .val (.ref o9), .val (.ref o10), .val (.long j11), .second, .val (.long j13), .second, .val (.long j15), .second, .val (.long j17), .second, .unset, .unset, .unset, .unset] [])) t := by
              intro t k
              refine pre229 _ ?_
              show Steps p.tables e below (T228.setTop (mkF m 240 #[.val (.long j0), .second, .val (.long j2), .second, .val (.long j4), .second, .val (.long j6), .second, .val (.int i8), .val (.ref o9), .val (.ref o10), .val (.long j11), .second, .val (.long j13), .second, .val (.long j15), .second, .val (.long j17), .second, .val (.ref b104), .val (.ref b116), .val (.int (((i8.toUInt32 >>> ((2 : Int32) &&& 31).toUInt32).toInt32) &&& (3 : Int32))), .val (.int (0 : Int32))] [(.int (F5s j15 j11 j17 j13 o10 o9))])) _
              refine XS.iload X228.here hx rfl (hb hby at_240) rfl ?_
              exact k
            by_cases hc231 : (F5s j15 j11 j17 j13 o10 o9) = (0 : Int32)
            · have pre232 : ∀ t, Steps p.tables e below (T228.setTop (mkF m 245 #[.val (.long j0), .second, .val (.long j2), .second, .val (.long j4), .second, .val (.long j6), .second, .val (.int i8), .val (.ref o9), .val (.ref o10), .val (.long j11), .second, .val (.long j13), .second, .val (.long j15), .second, .val (.long j17), .second, .val (.ref b104), .val (.ref b116), .val (.int (((i8.toUInt32 >>> ((2 : Int32) &&& 31).toUInt32).toInt32) &&& (3 : Int32))), .val (.int (0 : Int32))] [])) t → Steps p.tables e below (T0.setTop (mkF m 96 #[.val (.long j0), .second, .val (.long j2), .second, .val (.long j4), .second, .val (.long j6), .second, .val (.int i8), .val (.ref o9), .val (.ref o10), .val (.long j11), .second, .val (.long j13), .second, .val (.long j15), .second, .val (.long j17), .second, .unset, .unset, .unset, .unset] [])) t := by
                intro t k
                refine pre230 _ ?_
                show Steps p.tables e below (T228.setTop (mkF m 242 #[.val (.long j0), .second, .val (.long j2), .second, .val (.long j4), .second, .val (.long j6), .second, .val (.int i8), .val (.ref o9), .val (.ref o10), .val (.long j11), .second, .val (.long j13), .second, .val (.long j15), .second, .val (.long j17), .second, .val (.ref b104), .val (.ref b116), .val (.int (((i8.toUInt32 >>> ((2 : Int32) &&& 31).toUInt32).toInt32) &&& (3 : Int32))), .val (.int (0 : Int32))] [(.int (0 : Int32)), (.int (F5s j15 j11 j17 j13 o10 o9))])) _
                refine XS.icmpNo X228.here hx rfl (hb hby at_242) rfl (teq hc231).2 ?_
                exact k
              have pre233 : ∀ t, Steps p.tables e below (T228.setTop (mkF m 250 #[.val (.long j0), .second, .val (.long j2), .second, .val (.long j4), .second, .val (.long j6), .second, .val (.int i8), .val (.ref o9), .val (.ref o10), .val (.long j11), .second, .val (.long j13), .second, .val (.long j15), .second, .val (.long j17), .second, .val (.ref b104), .val (.ref b116), .val (.int (((i8.toUInt32 >>> ((2 : Int32) &&& 31).toUInt32).toInt32) &&& (3 : Int32))), .val (.int (0 : Int32))] [(.int (1 : Int32))])) t → Steps p.tables e below (T0.setTop (mkF m 96 #[.val (.long j0), .second, .val (.long j2), .second, .val (.long j4), .second, .val (.long j6), .second, .val (.int i8), .val (.ref o9), .val (.ref o10), .val (.long j11), .second, .val (.long j13), .second, .val (.long j15), .second, .val (.long j17), .second, .unset, .unset, .unset, .unset] [])) t := by
                intro t k
                refine pre232 _ ?_
                show Steps p.tables e below (T228.setTop (mkF m 245 #[.val (.long j0), .second, .val (.long j2), .second, .val (.long j4), .second, .val (.long j6), .second, .val (.int i8), .val (.ref o9), .val (.ref o10), .val (.long j11), .second, .val (.long j13), .second, .val (.long j15), .second, .val (.long j17), .second, .val (.ref b104), .val (.ref b116), .val (.int (((i8.toUInt32 >>> ((2 : Int32) &&& 31).toUInt32).toInt32) &&& (3 : Int32))), .val (.int (0 : Int32))] [])) _
                refine XS.iconst X228.here hx rfl (hb hby at_245) ?_
                show Steps p.tables e below (T228.setTop (mkF m 246 #[.val (.long j0), .second, .val (.long j2), .second, .val (.long j4), .second, .val (.long j6), .second, .val (.int i8), .val (.ref o9), .val (.ref o10), .val (.long j11), .second, .val (.long j13), .second, .val (.long j15), .second, .val (.long j17), .second, .val (.ref b104), .val (.ref b116), .val (.int (((i8.toUInt32 >>> ((2 : Int32) &&& 31).toUInt32).toInt32) &&& (3 : Int32))), .val (.int (0 : Int32))] [(.int (1 : Int32))])) _
                refine XS.goto X228.here hx rfl (pc0 := 246) (pc' := 250) rfl (hb hby at_246) (by decide) (by decide) ?_
                exact k
              obtain ⟨fs, hr, hrun, hended, hsame⟩ := Stand.leaveW (s := s) (vm₁ := T122.vm) X228 hS122 (by rw [e228]; exact (Nat.le_refl _)) (v := some (.int (1 : Int32))) (fun h => by rw [hret] at h; cases h)
              refine ⟨_, _, pre233 _ ?_, hrun, hended, _, _, rfl, ?_, ⟨hsame.1, hsame.2.1, hsame.2.2.1, hsame.2.2.2.mono (by decide) (by decide)⟩⟩
              · show Steps p.tables e below (T228.setTop (mkF m 250 #[.val (.long j0), .second, .val (.long j2), .second, .val (.long j4), .second, .val (.long j6), .second, .val (.int i8), .val (.ref o9), .val (.ref o10), .val (.long j11), .second, .val (.long j13), .second, .val (.long j15), .second, .val (.long j17), .second, .val (.ref b104), .val (.ref b116), .val (.int (((i8.toUInt32 >>> ((2 : Int32) &&& 31).toUInt32).toInt32) &&& (3 : Int32))), .val (.int (0 : Int32))] [(.int (1 : Int32))])) _
                exact retN X228 hx (t := .boolean) hret (by simp) (hb hby at_250) hr
              · exact ⟨(by rw [F0_96_0, if_neg hc128, if_neg hc140, if_neg hc152, if_neg hc159, if_pos hc225, if_pos hc231]), N228⟩
            · have pre234 : ∀ t, Steps p.tables e below (T228.setTop (mkF m 249 #[.val (.long j0), .second, .val (.long j2), .second, .val (.long j4), .second, .val (.long j6), .second, .val (.int i8), .val (.ref o9), .val (.ref o10), .val (.long j11), .second, .val (.long j13), .second, .val (.long j15), .second, .val (.long j17), .second, .val (.ref b104), .val (.ref b116), .val (.int (((i8.toUInt32 >>> ((2 : Int32) &&& 31).toUInt32).toInt32) &&& (3 : Int32))), .val (.int (0 : Int32))] [])) t → Steps p.tables e below (T0.setTop (mkF m 96 #[.val (.long j0), .second, .val (.long j2), .second, .val (.long j4), .second, .val (.long j6), .second, .val (.int i8), .val (.ref o9), .val (.ref o10), .val (.long j11), .second, .val (.long j13), .second, .val (.long j15), .second, .val (.long j17), .second, .unset, .unset, .unset, .unset] [])) t := by
                intro t k
                refine pre230 _ ?_
                show Steps p.tables e below (T228.setTop (mkF m 242 #[.val (.long j0), .second, .val (.long j2), .second, .val (.long j4), .second, .val (.long j6), .second, .val (.int i8), .val (.ref o9), .val (.ref o10), .val (.long j11), .second, .val (.long j13), .second, .val (.long j15), .second, .val (.long j17), .second, .val (.ref b104), .val (.ref b116), .val (.int (((i8.toUInt32 >>> ((2 : Int32) &&& 31).toUInt32).toInt32) &&& (3 : Int32))), .val (.int (0 : Int32))] [(.int (0 : Int32)), (.int (F5s j15 j11 j17 j13 o10 o9))])) _
                refine XS.icmpYes X228.here hx rfl (pc0 := 242) (pc' := 249) rfl (hb hby at_242) rfl (feq hc231).2 (by decide) (by decide) ?_
                exact k
              have pre235 : ∀ t, Steps p.tables e below (T228.setTop (mkF m 250 #[.val (.long j0), .second, .val (.long j2), .second, .val (.long j4), .second, .val (.long j6), .second, .val (.int i8), .val (.ref o9), .val (.ref o10), .val (.long j11), .second, .val (.long j13), .second, .val (.long j15), .second, .val (.long j17), .second, .val (.ref b104), .val (.ref b116), .val (.int (((i8.toUInt32 >>> ((2 : Int32) &&& 31).toUInt32).toInt32) &&& (3 : Int32))), .val (.int (0 : Int32))] [(.int (0 : Int32))])) t → Steps p.tables e below (T0.setTop (mkF m 96 #[.val (.long j0), .second, .val (.long j2), .second, .val (.long j4), .second, .val (.long j6), .second, .val (.int i8), .val (.ref o9), .val (.ref o10), .val (.long j11), .second, .val (.long j13), .second, .val (.long j15), .second, .val (.long j17), .second, .unset, .unset, .unset, .unset] [])) t := by
                intro t k
                refine pre234 _ ?_
                show Steps p.tables e below (T228.setTop (mkF m 249 #[.val (.long j0), .second, .val (.long j2), .second, .val (.long j4), .second, .val (.long j6), .second, .val (.int i8), .val (.ref o9), .val (.ref o10), .val (.long j11), .second, .val (.long j13), .second, .val (.long j15), .second, .val (.long j17), .second, .val (.ref b104), .val (.ref b116), .val (.int (((i8.toUInt32 >>> ((2 : Int32) &&& 31).toUInt32).toInt32) &&& (3 : Int32))), .val (.int (0 : Int32))] [])) _
                refine XS.iconst X228.here hx rfl (hb hby at_249) ?_
                exact k
              obtain ⟨fs, hr, hrun, hended, hsame⟩ := Stand.leaveW (s := s) (vm₁ := T122.vm) X228 hS122 (by rw [e228]; exact (Nat.le_refl _)) (v := some (.int (0 : Int32))) (fun h => by rw [hret] at h; cases h)
              refine ⟨_, _, pre235 _ ?_, hrun, hended, _, _, rfl, ?_, ⟨hsame.1, hsame.2.1, hsame.2.2.1, hsame.2.2.2.mono (by decide) (by decide)⟩⟩
              · show Steps p.tables e below (T228.setTop (mkF m 250 #[.val (.long j0), .second, .val (.long j2), .second, .val (.long j4), .second, .val (.long j6), .second, .val (.int i8), .val (.ref o9), .val (.ref o10), .val (.long j11), .second, .val (.long j13), .second, .val (.long j15), .second, .val (.long j17), .second, .val (.ref b104), .val (.ref b116), .val (.int (((i8.toUInt32 >>> ((2 : Int32) &&& 31).toUInt32).toInt32) &&& (3 : Int32))), .val (.int (0 : Int32))] [(.int (0 : Int32))])) _
                exact retN X228 hx (t := .boolean) hret (by simp) (hb hby at_250) hr
              · exact ⟨(by rw [F0_96_0, if_neg hc128, if_neg hc140, if_neg hc152, if_neg hc159, if_pos hc225, if_neg hc231]), N228⟩
          · have pre236 : ∀ t, Steps p.tables e below (T222.setTop (mkF m 249 #[.val (.long j0), .second, .val (.long j2), .second, .val (.long j4), .second, .val (.long j6), .second, .val (.int i8), .val (.ref o9), .val (.ref o10), .val (.long j11), .second, .val (.long j13), .second, .val (.long j15), .second, .val (.long j17), .second, .val (.ref b104), .val (.ref b116), .val (.int (((i8.toUInt32 >>> ((2 : Int32) &&& 31).toUInt32).toInt32) &&& (3 : Int32))), .val (.int (0 : Int32))] [])) t → Steps p.tables e below (T0.setTop (mkF m 96 #[.val (.long j0), .second, .val (.long j2), .second, .val (.long j4), .second, .val (.long j6), .second, .val (.int i8), .val (.ref o9), .val (.ref o10), .val (.long j11), .second, .val (.long j13), .second, .val (.long j15), .second, .val (.long j17), .second, .unset, .unset, .unset, .unset] [])) t := by
              intro t k
              refine pre224 _ ?_
              show Steps p.tables e below (T222.setTop (mkF m 230 #[.val (.long j0), .second, .val (.long j2), .second, .val (.long j4), .second, .val (.long j6), .second, .val (.int i8), .val (.ref o9), .val (.ref o10), .val (.long j11), .second, .val (.long j13), .second, .val (.long j15), .second, .val (.long j17), .second, .val (.ref b104), .val (.ref b116), .val (.int (((i8.toUInt32 >>> ((2 : Int32) &&& 31).toUInt32).toInt32) &&& (3 : Int32))), .val (.int (0 : Int32))] [(.int (0 : Int32)), (.int (F5s j11 j15 j13 j17 o9 o10))])) _
              refine XS.icmpYes X222.here hx rfl (pc0 := 230) (pc' := 249) rfl (hb hby at_230) rfl (feq hc225).2 (by decide) (by decide) ?_
              exact k
            have pre237 : ∀ t, Steps p.tables e below (T222.setTop (mkF m 250 #[.val (.long j0), .second, .val (.long j2), .second, .val (.long j4), .second, .val (.long j6), .second, .val (.int i8), .val (.ref o9), .val (.ref o10), .val (.long j11), .second, .val (.long j13), .second, .val (.long j15), .second, .val (.long j17), .second, .val (.ref b104), .val (.ref b116), .val (.int (((i8.toUInt32 >>> ((2 : Int32) &&& 31).toUInt32).toInt32) &&& (3 : Int32))), .val (.int (0 : Int32))] [(.int (0 : Int32))])) t → Steps p.tables e below (T0.setTop (mkF m 96 #[.val (.long j0), .second, .val (.long j2), .second, .val (.long j4), .second, .val (.long j6), .second, .val (.int i8), .val (.ref o9), .val (.ref o10), .val (.long j11), .second, .val (.long j13), .second, .val (.long j15), .second, .val (.long j17), .second, .unset, .unset, .unset, .unset] [])) t := by
              intro t k
              refine pre236 _ ?_
              show Steps p.tables e below (T222.setTop (mkF m 249 #[.val (.long j0), .second, .val (.long j2), .second, .val (.long j4), .second, .val (.long j6), .second, .val (.int i8), .val (.ref o9), .val (.ref o10), .val (.long j11), .second, .val (.long j13), .second, .val (.long j15), .second, .val (.long j17), .second, .val (.ref b104), .val (.ref b116), .val (.int (((i8.toUInt32 >>> ((2 : Int32) &&& 31).toUInt32).toInt32) &&& (3 : Int32))), .val (.int (0 : Int32))] [])) _
              refine XS.iconst X222.here hx rfl (hb hby at_249) ?_
              exact k
            obtain ⟨fs, hr, hrun, hended, hsame⟩ := Stand.leaveW (s := s) (vm₁ := T122.vm) X222 hS122 (by rw [e222]; exact (Nat.le_refl _)) (v := some (.int (0 : Int32))) (fun h => by rw [hret] at h; cases h)
            refine ⟨_, _, pre237 _ ?_, hrun, hended, _, _, rfl, ?_, ⟨hsame.1, hsame.2.1, hsame.2.2.1, hsame.2.2.2.mono (by decide) (by decide)⟩⟩
            · show Steps p.tables e below (T222.setTop (mkF m 250 #[.val (.long j0), .second, .val (.long j2), .second, .val (.long j4), .second, .val (.long j6), .second, .val (.int i8), .val (.ref o9), .val (.ref o10), .val (.long j11), .second, .val (.long j13), .second, .val (.long j15), .second, .val (.long j17), .second, .val (.ref b104), .val (.ref b116), .val (.int (((i8.toUInt32 >>> ((2 : Int32) &&& 31).toUInt32).toInt32) &&& (3 : Int32))), .val (.int (0 : Int32))] [(.int (0 : Int32))])) _
              exact retN X222 hx (t := .boolean) hret (by simp) (hb hby at_250) hr
            · exact ⟨(by rw [F0_96_0, if_neg hc128, if_neg hc140, if_neg hc152, if_neg hc159, if_neg hc225]), N222⟩
theorem pn_0 : plainName "com/example/tabuleiro/tabuleiro/othello/OthelloPositionEqualsPinLaw" = true := by first | (simp [plainName, overriddenIn]; done) | decide +kernel
theorem ef_0 (m : MethodId) (x0 : Int64) (x1 : Int64) (x2 : Int64) (x3 : Int64) (x4 : Int32) : entryFrame m #[(.long x0), (.long x1), (.long x2), (.long x3), (.int x4)] maxLocals = mkF m 0 #[.val (.long x0), .second, .val (.long x1), .second, .val (.long x2), .second, .val (.long x3), .second, .val (.int x4), .unset, .unset, .unset, .unset, .unset, .unset, .unset, .unset, .unset, .unset, .unset, .unset, .unset, .unset] [] := by first | (simp [entryFrame, mkF, argsToLocals, Value.category, maxLocals]; done) | rfl
def F0 (q1 : Int64) (q2 : Int64) (q3 : Int64) (q4 : Int64) (p5 : Int32) (wB : Addr) (wW : Addr) : Int32 :=
  if (p5 &&& (1 : Int32)) = (0 : Int32) then (  if (p5 &&& (2 : Int32)) = (0 : Int32) then (  if (p5 &&& (16 : Int32)) = (0 : Int32) then (  if (p5 &&& (32 : Int32)) = (0 : Int32) then (  (F0_96_0 p5 wW wW q1 (q2 &&& (q1 ^^^ (-1 : Int64))) (q1 ^^^ q3) (((q2 &&& (q1 ^^^ (-1 : Int64))) ^^^ q4) &&& ((q1 ^^^ q3) ^^^ (-1 : Int64)))))
  else (  (F0_96_0 p5 wW wW q1 (q2 &&& (q1 ^^^ (-1 : Int64))) (q1 ^^^ q3) ((q2 &&& (q1 ^^^ (-1 : Int64))) &&& ((q1 ^^^ q3) ^^^ (-1 : Int64))))))
  else (  if (p5 &&& (32 : Int32)) = (0 : Int32) then (  (F0_96_0 p5 wW wW q1 (q2 &&& (q1 ^^^ (-1 : Int64))) q1 (((q2 &&& (q1 ^^^ (-1 : Int64))) ^^^ q4) &&& (q1 ^^^ (-1 : Int64)))))
  else (  (F0_96_0 p5 wW wW q1 (q2 &&& (q1 ^^^ (-1 : Int64))) q1 ((q2 &&& (q1 ^^^ (-1 : Int64))) &&& (q1 ^^^ (-1 : Int64)))))))
  else (  if (p5 &&& (16 : Int32)) = (0 : Int32) then (  if (p5 &&& (32 : Int32)) = (0 : Int32) then (  (F0_96_0 p5 wW wB q1 (q2 &&& (q1 ^^^ (-1 : Int64))) (q1 ^^^ q3) (((q2 &&& (q1 ^^^ (-1 : Int64))) ^^^ q4) &&& ((q1 ^^^ q3) ^^^ (-1 : Int64)))))
  else (  (F0_96_0 p5 wW wB q1 (q2 &&& (q1 ^^^ (-1 : Int64))) (q1 ^^^ q3) ((q2 &&& (q1 ^^^ (-1 : Int64))) &&& ((q1 ^^^ q3) ^^^ (-1 : Int64))))))
  else (  if (p5 &&& (32 : Int32)) = (0 : Int32) then (  (F0_96_0 p5 wW wB q1 (q2 &&& (q1 ^^^ (-1 : Int64))) q1 (((q2 &&& (q1 ^^^ (-1 : Int64))) ^^^ q4) &&& (q1 ^^^ (-1 : Int64)))))
  else (  (F0_96_0 p5 wW wB q1 (q2 &&& (q1 ^^^ (-1 : Int64))) q1 ((q2 &&& (q1 ^^^ (-1 : Int64))) &&& (q1 ^^^ (-1 : Int64))))))))
  else (  if (p5 &&& (2 : Int32)) = (0 : Int32) then (  if (p5 &&& (16 : Int32)) = (0 : Int32) then (  if (p5 &&& (32 : Int32)) = (0 : Int32) then (  (F0_96_0 p5 wB wW q1 (q2 &&& (q1 ^^^ (-1 : Int64))) (q1 ^^^ q3) (((q2 &&& (q1 ^^^ (-1 : Int64))) ^^^ q4) &&& ((q1 ^^^ q3) ^^^ (-1 : Int64)))))
  else (  (F0_96_0 p5 wB wW q1 (q2 &&& (q1 ^^^ (-1 : Int64))) (q1 ^^^ q3) ((q2 &&& (q1 ^^^ (-1 : Int64))) &&& ((q1 ^^^ q3) ^^^ (-1 : Int64))))))
  else (  if (p5 &&& (32 : Int32)) = (0 : Int32) then (  (F0_96_0 p5 wB wW q1 (q2 &&& (q1 ^^^ (-1 : Int64))) q1 (((q2 &&& (q1 ^^^ (-1 : Int64))) ^^^ q4) &&& (q1 ^^^ (-1 : Int64)))))
  else (  (F0_96_0 p5 wB wW q1 (q2 &&& (q1 ^^^ (-1 : Int64))) q1 ((q2 &&& (q1 ^^^ (-1 : Int64))) &&& (q1 ^^^ (-1 : Int64)))))))
  else (  if (p5 &&& (16 : Int32)) = (0 : Int32) then (  if (p5 &&& (32 : Int32)) = (0 : Int32) then (  (F0_96_0 p5 wB wB q1 (q2 &&& (q1 ^^^ (-1 : Int64))) (q1 ^^^ q3) (((q2 &&& (q1 ^^^ (-1 : Int64))) ^^^ q4) &&& ((q1 ^^^ q3) ^^^ (-1 : Int64)))))
  else (  (F0_96_0 p5 wB wB q1 (q2 &&& (q1 ^^^ (-1 : Int64))) (q1 ^^^ q3) ((q2 &&& (q1 ^^^ (-1 : Int64))) &&& ((q1 ^^^ q3) ^^^ (-1 : Int64))))))
  else (  if (p5 &&& (32 : Int32)) = (0 : Int32) then (  (F0_96_0 p5 wB wB q1 (q2 &&& (q1 ^^^ (-1 : Int64))) q1 (((q2 &&& (q1 ^^^ (-1 : Int64))) ^^^ q4) &&& (q1 ^^^ (-1 : Int64)))))
  else (  (F0_96_0 p5 wB wB q1 (q2 &&& (q1 ^^^ (-1 : Int64))) q1 ((q2 &&& (q1 ^^^ (-1 : Int64))) &&& (q1 ^^^ (-1 : Int64))))))))
def Q0 (Z : State) (q1 : Int64) (q2 : Int64) (q3 : Int64) (q4 : Int64) (p5 : Int32) (wB : Addr) (wW : Addr) (h0 : Heap) (n0 : Nat) (v : Option Value) (h : Heap) (L : List Loc) : Prop := v = some (.int (F0 q1 q2 q3 q4 p5 wB wW)) ∧ Fr n0 L
set_option maxRecDepth 65536 in
set_option maxHeartbeats 40000000 in
theorem rm0 (l : Launch) (Z : State) (a0 : Array Value) (hw : ∀ d ∈ tables_1, d.before a0 Z = true) (ws : List Jvm.Cond) (q1 : Int64) (q2 : Int64) (q3 : Int64) (q4 : Int64) (p5 : Int32) (wB : Addr) (wW : Addr) (h0 : Heap) (n0 : Nat) (Z0 : n0 ≤ h0.size) (O0 : Old Z n0 h0) (E_wB : Exa Z Z.heap wB "com/example/tabuleiro/tabuleiro/game/Colour") (E_wW : Exa Z Z.heap wW "com/example/tabuleiro/tabuleiro/game/Colour") (S_wB : Sta Z Z.heap "com/example/tabuleiro/tabuleiro/game/Colour" "BLACK" "Lcom/example/tabuleiro/tabuleiro/game/Colour;" (.ref wB)) (S_wW : Sta Z Z.heap "com/example/tabuleiro/tabuleiro/game/Colour" "WHITE" "Lcom/example/tabuleiro/tabuleiro/game/Colour;" (.ref wW)) :
    MetFree l x (head1 (Jvm.Cond.code x code maxLocals ret :: ws) room_1) (fun a U => a = #[(.long q1), (.long q2), (.long q3), (.long q4), (.int p5)] ∧ Z.Warmed39 U.vm ∧ U.heap = h0) (fun _ _ _ _ _ => True) (fun _ U o U' => ∃ v L, o = .returned v ∧ Q0 Z q1 q2 q3 q4 p5 wB wW h0 n0 v U'.heap L ∧ ReturnedEndW U o U' L room_1.cells room_1.slots) := by
  refine MetFree.of_bodySF (plainFor_of_name pn_0) hisR ?_
  intro p e s m args below meth c s₁ Bd hml0 hP hK
  obtain ⟨rfl, hZ, hh⟩ := hP
  have hx := Bd.exec
  have hby := Bd.bytes
  have hml : c.maxLocals = 23 := hml0
  have hown : s.vm.findClass "com/example/tabuleiro/tabuleiro/othello/OthelloPositionEqualsPinLaw" = some m.cls := findClass_of_methodNamed Bd.named
  have hnm := (name_of_methodNamed Bd.named Bd.method).1
  have hret := Bd.returns
  have hlocks : meth.locks = false := Bd.notSynchronized
  have X0 : Stand p l e room_1 s m #[(.long q1), (.long q2), (.long q3), (.long q4), (.int p5)] below meth c s₁ [] 0 0 := Stand.of_body Bd
  have e0 : s₁.heap = h0 := by rw [← hh, Bd.state]; rfl
  have N0 := Fr.nil n0
  have hS0 : s.Since s.vm h0.size := (State.WarmedH.refl s).since _
  have SK0 : h0.size ≤ h0.size := Nat.le_refl _
  have pre0 : ∀ t, Steps p.tables e below (s₁.setTop (mkF m 0 #[.val (.long q1), .second, .val (.long q2), .second, .val (.long q3), .second, .val (.long q4), .second, .val (.int p5), .unset, .unset, .unset, .unset, .unset, .unset, .unset, .unset, .unset, .unset, .unset, .unset, .unset, .unset] [])) t → Steps p.tables e below (s₁.setTop (entryFrame m #[(.long q1), (.long q2), (.long q3), (.long q4), (.int p5)] maxLocals)) t := fun t k => castTop (ef_0 m q1 q2 q3 q4 p5) k
  have pre87 : ∀ t, Steps p.tables e below (s₁.setTop (mkF m 4 #[.val (.long q1), .second, .val (.long q2), .second, .val (.long q3), .second, .val (.long q4), .second, .val (.int p5), .unset, .unset, .unset, .unset, .unset, .unset, .unset, .unset, .unset, .unset, .unset, .unset, .unset, .unset] [(.int (p5 &&& (1 : Int32)))])) t → Steps p.tables e below (s₁.setTop (entryFrame m #[(.long q1), (.long q2), (.long q3), (.long q4), (.int p5)] maxLocals)) t := by
    intro t k
    refine pre0 _ ?_
    show Steps p.tables e below (s₁.setTop (mkF m 0 #[.val (.long q1), .second, .val (.long q2), .second, .val (.long q3), .second, .val (.long q4), .second, .val (.int p5), .unset, .unset, .unset, .unset, .unset, .unset, .unset, .unset, .unset, .unset, .unset, .unset, .unset, .unset] [])) _
    refine XS.iload X0.here hx rfl (hb hby at_0) rfl ?_
    show Steps p.tables e below (s₁.setTop (mkF m 2 #[.val (.long q1), .second, .val (.long q2), .second, .val (.long q3), .second, .val (.long q4), .second, .val (.int p5), .unset, .unset, .unset, .unset, .unset, .unset, .unset, .unset, .unset, .unset, .unset, .unset, .unset, .unset] [(.int p5)])) _
    refine XS.iconst X0.here hx rfl (hb hby at_2) ?_
    show Steps p.tables e below (s₁.setTop (mkF m 3 #[.val (.long q1), .second, .val (.long q2), .second, .val (.long q3), .second, .val (.long q4), .second, .val (.int p5), .unset, .unset, .unset, .unset, .unset, .unset, .unset, .unset, .unset, .unset, .unset, .unset, .unset, .unset] [(.int (1 : Int32)), (.int p5)])) _
    refine XS.iand X0.here hx rfl (hb hby at_3) rfl ?_
    exact k
  by_cases hc88 : (p5 &&& (1 : Int32)) = (0 : Int32)
  · have pre89 : ∀ t, Steps p.tables e below (s₁.setTop (mkF m 13 #[.val (.long q1), .second, .val (.long q2), .second, .val (.long q3), .second, .val (.long q4), .second, .val (.int p5), .unset, .unset, .unset, .unset, .unset, .unset, .unset, .unset, .unset, .unset, .unset, .unset, .unset, .unset] [])) t → Steps p.tables e below (s₁.setTop (entryFrame m #[(.long q1), (.long q2), (.long q3), (.long q4), (.int p5)] maxLocals)) t := by
      intro t k
      refine pre87 _ ?_
      show Steps p.tables e below (s₁.setTop (mkF m 4 #[.val (.long q1), .second, .val (.long q2), .second, .val (.long q3), .second, .val (.long q4), .second, .val (.int p5), .unset, .unset, .unset, .unset, .unset, .unset, .unset, .unset, .unset, .unset, .unset, .unset, .unset, .unset] [(.int (p5 &&& (1 : Int32)))])) _
      refine XS.ifYes X0.here hx rfl (pc0 := 4) (pc' := 13) rfl (hb hby at_4) rfl ((if0 _ _).trans (teq hc88).1) (by decide) (by decide) ?_
      exact k
    obtain ⟨T90, X90, e90, st90⟩ := getS2 X0 hx hZ hown (host := "") (Or.inl (hw _ (List.mem_of_getElem? (i := 43) rfl))) Via.refl e0 (S_wW.ext O0.2) (g := (mkF m 13 #[.val (.long q1), .second, .val (.long q2), .second, .val (.long q3), .second, .val (.long q4), .second, .val (.int p5), .unset, .unset, .unset, .unset, .unset, .unset, .unset, .unset, .unset, .unset, .unset, .unset, .unset, .unset] [])) rfl (hb hby at_13)
    have pre91 : ∀ t, Steps p.tables e below (T90.setTop (mkF m 16 #[.val (.long q1), .second, .val (.long q2), .second, .val (.long q3), .second, .val (.long q4), .second, .val (.int p5), .unset, .unset, .unset, .unset, .unset, .unset, .unset, .unset, .unset, .unset, .unset, .unset, .unset, .unset] [(.ref wW)])) t → Steps p.tables e below (s₁.setTop (entryFrame m #[(.long q1), (.long q2), (.long q3), (.long q4), (.int p5)] maxLocals)) t := by
      intro t k
      refine pre89 _ ?_
      show Steps p.tables e below (s₁.setTop (mkF m 13 #[.val (.long q1), .second, .val (.long q2), .second, .val (.long q3), .second, .val (.long q4), .second, .val (.int p5), .unset, .unset, .unset, .unset, .unset, .unset, .unset, .unset, .unset, .unset, .unset, .unset, .unset, .unset] [])) _
      refine st90 _ ?_
      exact k
    have pre92 : ∀ t, Steps p.tables e below (T90.setTop (mkF m 22 #[.val (.long q1), .second, .val (.long q2), .second, .val (.long q3), .second, .val (.long q4), .second, .val (.int p5), .val (.ref wW), .unset, .unset, .unset, .unset, .unset, .unset, .unset, .unset, .unset, .unset, .unset, .unset, .unset] [(.int (p5 &&& (2 : Int32)))])) t → Steps p.tables e below (s₁.setTop (entryFrame m #[(.long q1), (.long q2), (.long q3), (.long q4), (.int p5)] maxLocals)) t := by
      intro t k
      refine pre91 _ ?_
      show Steps p.tables e below (T90.setTop (mkF m 16 #[.val (.long q1), .second, .val (.long q2), .second, .val (.long q3), .second, .val (.long q4), .second, .val (.int p5), .unset, .unset, .unset, .unset, .unset, .unset, .unset, .unset, .unset, .unset, .unset, .unset, .unset, .unset] [(.ref wW)])) _
      refine XS.astore X90.here hx rfl (hb hby at_16) rfl rfl (l' := #[.val (.long q1), .second, .val (.long q2), .second, .val (.long q3), .second, .val (.long q4), .second, .val (.int p5), .val (.ref wW), .unset, .unset, .unset, .unset, .unset, .unset, .unset, .unset, .unset, .unset, .unset, .unset, .unset]) rfl ?_
      show Steps p.tables e below (T90.setTop (mkF m 18 #[.val (.long q1), .second, .val (.long q2), .second, .val (.long q3), .second, .val (.long q4), .second, .val (.int p5), .val (.ref wW), .unset, .unset, .unset, .unset, .unset, .unset, .unset, .unset, .unset, .unset, .unset, .unset, .unset] [])) _
      refine XS.iload X90.here hx rfl (hb hby at_18) rfl ?_
      show Steps p.tables e below (T90.setTop (mkF m 20 #[.val (.long q1), .second, .val (.long q2), .second, .val (.long q3), .second, .val (.long q4), .second, .val (.int p5), .val (.ref wW), .unset, .unset, .unset, .unset, .unset, .unset, .unset, .unset, .unset, .unset, .unset, .unset, .unset] [(.int p5)])) _
      refine XS.iconst X90.here hx rfl (hb hby at_20) ?_
      show Steps p.tables e below (T90.setTop (mkF m 21 #[.val (.long q1), .second, .val (.long q2), .second, .val (.long q3), .second, .val (.long q4), .second, .val (.int p5), .val (.ref wW), .unset, .unset, .unset, .unset, .unset, .unset, .unset, .unset, .unset, .unset, .unset, .unset, .unset] [(.int (2 : Int32)), (.int p5)])) _
      refine XS.iand X90.here hx rfl (hb hby at_21) rfl ?_
      exact k
    by_cases hc93 : (p5 &&& (2 : Int32)) = (0 : Int32)
    · have pre94 : ∀ t, Steps p.tables e below (T90.setTop (mkF m 31 #[.val (.long q1), .second, .val (.long q2), .second, .val (.long q3), .second, .val (.long q4), .second, .val (.int p5), .val (.ref wW), .unset, .unset, .unset, .unset, .unset, .unset, .unset, .unset, .unset, .unset, .unset, .unset, .unset] [])) t → Steps p.tables e below (s₁.setTop (entryFrame m #[(.long q1), (.long q2), (.long q3), (.long q4), (.int p5)] maxLocals)) t := by
        intro t k
        refine pre92 _ ?_
        show Steps p.tables e below (T90.setTop (mkF m 22 #[.val (.long q1), .second, .val (.long q2), .second, .val (.long q3), .second, .val (.long q4), .second, .val (.int p5), .val (.ref wW), .unset, .unset, .unset, .unset, .unset, .unset, .unset, .unset, .unset, .unset, .unset, .unset, .unset] [(.int (p5 &&& (2 : Int32)))])) _
        refine XS.ifYes X90.here hx rfl (pc0 := 22) (pc' := 31) rfl (hb hby at_22) rfl ((if0 _ _).trans (teq hc93).1) (by decide) (by decide) ?_
        exact k
      obtain ⟨T95, X95, e95, st95⟩ := getS2 X90 hx hZ hown (host := "") (Or.inl (hw _ (List.mem_of_getElem? (i := 43) rfl))) Via.refl e90 (S_wW.ext O0.2) (g := (mkF m 31 #[.val (.long q1), .second, .val (.long q2), .second, .val (.long q3), .second, .val (.long q4), .second, .val (.int p5), .val (.ref wW), .unset, .unset, .unset, .unset, .unset, .unset, .unset, .unset, .unset, .unset, .unset, .unset, .unset] [])) rfl (hb hby at_31)
      have pre96 : ∀ t, Steps p.tables e below (T95.setTop (mkF m 34 #[.val (.long q1), .second, .val (.long q2), .second, .val (.long q3), .second, .val (.long q4), .second, .val (.int p5), .val (.ref wW), .unset, .unset, .unset, .unset, .unset, .unset, .unset, .unset, .unset, .unset, .unset, .unset, .unset] [(.ref wW)])) t → Steps p.tables e below (s₁.setTop (entryFrame m #[(.long q1), (.long q2), (.long q3), (.long q4), (.int p5)] maxLocals)) t := by
        intro t k
        refine pre94 _ ?_
        show Steps p.tables e below (T90.setTop (mkF m 31 #[.val (.long q1), .second, .val (.long q2), .second, .val (.long q3), .second, .val (.long q4), .second, .val (.int p5), .val (.ref wW), .unset, .unset, .unset, .unset, .unset, .unset, .unset, .unset, .unset, .unset, .unset, .unset, .unset] [])) _
        refine st95 _ ?_
        exact k
      have pre97 : ∀ t, Steps p.tables e below (T95.setTop (mkF m 54 #[.val (.long q1), .second, .val (.long q2), .second, .val (.long q3), .second, .val (.long q4), .second, .val (.int p5), .val (.ref wW), .val (.ref wW), .val (.long q1), .second, .val (.long (q2 &&& (q1 ^^^ (-1 : Int64)))), .second, .unset, .unset, .unset, .unset, .unset, .unset, .unset, .unset] [(.int (p5 &&& (16 : Int32)))])) t → Steps p.tables e below (s₁.setTop (entryFrame m #[(.long q1), (.long q2), (.long q3), (.long q4), (.int p5)] maxLocals)) t := by
        intro t k
        refine pre96 _ ?_
        show Steps p.tables e below (T95.setTop (mkF m 34 #[.val (.long q1), .second, .val (.long q2), .second, .val (.long q3), .second, .val (.long q4), .second, .val (.int p5), .val (.ref wW), .unset, .unset, .unset, .unset, .unset, .unset, .unset, .unset, .unset, .unset, .unset, .unset, .unset] [(.ref wW)])) _
        refine XS.astore X95.here hx rfl (hb hby at_34) rfl rfl (l' := #[.val (.long q1), .second, .val (.long q2), .second, .val (.long q3), .second, .val (.long q4), .second, .val (.int p5), .val (.ref wW), .val (.ref wW), .unset, .unset, .unset, .unset, .unset, .unset, .unset, .unset, .unset, .unset, .unset, .unset]) rfl ?_
        show Steps p.tables e below (T95.setTop (mkF m 36 #[.val (.long q1), .second, .val (.long q2), .second, .val (.long q3), .second, .val (.long q4), .second, .val (.int p5), .val (.ref wW), .val (.ref wW), .unset, .unset, .unset, .unset, .unset, .unset, .unset, .unset, .unset, .unset, .unset, .unset] [])) _
        refine XS.lloadN X95.here hx rfl (hb hby at_36) rfl ?_
        show Steps p.tables e below (T95.setTop (mkF m 37 #[.val (.long q1), .second, .val (.long q2), .second, .val (.long q3), .second, .val (.long q4), .second, .val (.int p5), .val (.ref wW), .val (.ref wW), .unset, .unset, .unset, .unset, .unset, .unset, .unset, .unset, .unset, .unset, .unset, .unset] [(.long q1)])) _
        refine XS.lstore X95.here hx rfl (hb hby at_37) rfl (l' := #[.val (.long q1), .second, .val (.long q2), .second, .val (.long q3), .second, .val (.long q4), .second, .val (.int p5), .val (.ref wW), .val (.ref wW), .val (.long q1), .second, .unset, .unset, .unset, .unset, .unset, .unset, .unset, .unset, .unset, .unset]) rfl ?_
        show Steps p.tables e below (T95.setTop (mkF m 39 #[.val (.long q1), .second, .val (.long q2), .second, .val (.long q3), .second, .val (.long q4), .second, .val (.int p5), .val (.ref wW), .val (.ref wW), .val (.long q1), .second, .unset, .unset, .unset, .unset, .unset, .unset, .unset, .unset, .unset, .unset] [])) _
        refine XS.lloadN X95.here hx rfl (hb hby at_39) rfl ?_
        show Steps p.tables e below (T95.setTop (mkF m 40 #[.val (.long q1), .second, .val (.long q2), .second, .val (.long q3), .second, .val (.long q4), .second, .val (.int p5), .val (.ref wW), .val (.ref wW), .val (.long q1), .second, .unset, .unset, .unset, .unset, .unset, .unset, .unset, .unset, .unset, .unset] [(.long q2)])) _
        refine XS.lload X95.here hx rfl (hb hby at_40) rfl ?_
        show Steps p.tables e below (T95.setTop (mkF m 42 #[.val (.long q1), .second, .val (.long q2), .second, .val (.long q3), .second, .val (.long q4), .second, .val (.int p5), .val (.ref wW), .val (.ref wW), .val (.long q1), .second, .unset, .unset, .unset, .unset, .unset, .unset, .unset, .unset, .unset, .unset] [(.long q1), (.long q2)])) _
        refine X95.ldc2Long hx hown (mvT hZ (hw _ (List.mem_of_getElem? (i := 3) rfl))) (g := (mkF m 42 #[.val (.long q1), .second, .val (.long q2), .second, .val (.long q3), .second, .val (.long q4), .second, .val (.int p5), .val (.ref wW), .val (.ref wW), .val (.long q1), .second, .unset, .unset, .unset, .unset, .unset, .unset, .unset, .unset, .unset, .unset] [(.long q1), (.long q2)])) rfl (hb hby at_42) _ ?_
        show Steps p.tables e below (T95.setTop (mkF m 45 #[.val (.long q1), .second, .val (.long q2), .second, .val (.long q3), .second, .val (.long q4), .second, .val (.int p5), .val (.ref wW), .val (.ref wW), .val (.long q1), .second, .unset, .unset, .unset, .unset, .unset, .unset, .unset, .unset, .unset, .unset] [(.long (-1 : Int64)), (.long q1), (.long q2)])) _
        refine XS.lxor X95.here hx rfl (hb hby at_45) rfl ?_
        show Steps p.tables e below (T95.setTop (mkF m 46 #[.val (.long q1), .second, .val (.long q2), .second, .val (.long q3), .second, .val (.long q4), .second, .val (.int p5), .val (.ref wW), .val (.ref wW), .val (.long q1), .second, .unset, .unset, .unset, .unset, .unset, .unset, .unset, .unset, .unset, .unset] [(.long (q1 ^^^ (-1 : Int64))), (.long q2)])) _
        refine XS.land X95.here hx rfl (hb hby at_46) rfl ?_
        show Steps p.tables e below (T95.setTop (mkF m 47 #[.val (.long q1), .second, .val (.long q2), .second, .val (.long q3), .second, .val (.long q4), .second, .val (.int p5), .val (.ref wW), .val (.ref wW), .val (.long q1), .second, .unset, .unset, .unset, .unset, .unset, .unset, .unset, .unset, .unset, .unset] [(.long (q2 &&& (q1 ^^^ (-1 : Int64))))])) _
        refine XS.lstore X95.here hx rfl (hb hby at_47) rfl (l' := #[.val (.long q1), .second, .val (.long q2), .second, .val (.long q3), .second, .val (.long q4), .second, .val (.int p5), .val (.ref wW), .val (.ref wW), .val (.long q1), .second, .val (.long (q2 &&& (q1 ^^^ (-1 : Int64)))), .second, .unset, .unset, .unset, .unset, .unset, .unset, .unset, .unset]) rfl ?_
        show Steps p.tables e below (T95.setTop (mkF m 49 #[.val (.long q1), .second, .val (.long q2), .second, .val (.long q3), .second, .val (.long q4), .second, .val (.int p5), .val (.ref wW), .val (.ref wW), .val (.long q1), .second, .val (.long (q2 &&& (q1 ^^^ (-1 : Int64)))), .second, .unset, .unset, .unset, .unset, .unset, .unset, .unset, .unset] [])) _
        refine XS.iload X95.here hx rfl (hb hby at_49) rfl ?_
        show Steps p.tables e below (T95.setTop (mkF m 51 #[.val (.long q1), .second, .val (.long q2), .second, .val (.long q3), .second, .val (.long q4), .second, .val (.int p5), .val (.ref wW), .val (.ref wW), .val (.long q1), .second, .val (.long (q2 &&& (q1 ^^^ (-1 : Int64)))), .second, .unset, .unset, .unset, .unset, .unset, .unset, .unset, .unset] [(.int p5)])) _
        refine XS.bipush X95.here hx rfl (hb hby at_51) ?_
        show Steps p.tables e below (T95.setTop (mkF m 53 #[.val (.long q1), .second, .val (.long q2), .second, .val (.long q3), .second, .val (.long q4), .second, .val (.int p5), .val (.ref wW), .val (.ref wW), .val (.long q1), .second, .val (.long (q2 &&& (q1 ^^^ (-1 : Int64)))), .second, .unset, .unset, .unset, .unset, .unset, .unset, .unset, .unset] [(.int (16 : Int32)), (.int p5)])) _
        refine XS.iand X95.here hx rfl (hb hby at_53) rfl ?_
        exact k
      by_cases hc98 : (p5 &&& (16 : Int32)) = (0 : Int32)
      · have pre99 : ∀ t, Steps p.tables e below (T95.setTop (mkF m 62 #[.val (.long q1), .second, .val (.long q2), .second, .val (.long q3), .second, .val (.long q4), .second, .val (.int p5), .val (.ref wW), .val (.ref wW), .val (.long q1), .second, .val (.long (q2 &&& (q1 ^^^ (-1 : Int64)))), .second, .unset, .unset, .unset, .unset, .unset, .unset, .unset, .unset] [])) t → Steps p.tables e below (s₁.setTop (entryFrame m #[(.long q1), (.long q2), (.long q3), (.long q4), (.int p5)] maxLocals)) t := by
          intro t k
          refine pre97 _ ?_
          show Steps p.tables e below (T95.setTop (mkF m 54 #[.val (.long q1), .second, .val (.long q2), .second, .val (.long q3), .second, .val (.long q4), .second, .val (.int p5), .val (.ref wW), .val (.ref wW), .val (.long q1), .second, .val (.long (q2 &&& (q1 ^^^ (-1 : Int64)))), .second, .unset, .unset, .unset, .unset, .unset, .unset, .unset, .unset] [(.int (p5 &&& (16 : Int32)))])) _
          refine XS.ifYes X95.here hx rfl (pc0 := 54) (pc' := 62) rfl (hb hby at_54) rfl ((if0 _ _).trans (teq hc98).1) (by decide) (by decide) ?_
          exact k
        have pre100 : ∀ t, Steps p.tables e below (T95.setTop (mkF m 74 #[.val (.long q1), .second, .val (.long q2), .second, .val (.long q3), .second, .val (.long q4), .second, .val (.int p5), .val (.ref wW), .val (.ref wW), .val (.long q1), .second, .val (.long (q2 &&& (q1 ^^^ (-1 : Int64)))), .second, .val (.long (q1 ^^^ q3)), .second, .unset, .unset, .unset, .unset, .unset, .unset] [(.int (p5 &&& (32 : Int32)))])) t → Steps p.tables e below (s₁.setTop (entryFrame m #[(.long q1), (.long q2), (.long q3), (.long q4), (.int p5)] maxLocals)) t := by
          intro t k
          refine pre99 _ ?_
          show Steps p.tables e below (T95.setTop (mkF m 62 #[.val (.long q1), .second, .val (.long q2), .second, .val (.long q3), .second, .val (.long q4), .second, .val (.int p5), .val (.ref wW), .val (.ref wW), .val (.long q1), .second, .val (.long (q2 &&& (q1 ^^^ (-1 : Int64)))), .second, .unset, .unset, .unset, .unset, .unset, .unset, .unset, .unset] [])) _
          refine XS.lload X95.here hx rfl (hb hby at_62) rfl ?_
          show Steps p.tables e below (T95.setTop (mkF m 64 #[.val (.long q1), .second, .val (.long q2), .second, .val (.long q3), .second, .val (.long q4), .second, .val (.int p5), .val (.ref wW), .val (.ref wW), .val (.long q1), .second, .val (.long (q2 &&& (q1 ^^^ (-1 : Int64)))), .second, .unset, .unset, .unset, .unset, .unset, .unset, .unset, .unset] [(.long q1)])) _
          refine XS.lload X95.here hx rfl (hb hby at_64) rfl ?_
          show Steps p.tables e below (T95.setTop (mkF m 66 #[.val (.long q1), .second, .val (.long q2), .second, .val (.long q3), .second, .val (.long q4), .second, .val (.int p5), .val (.ref wW), .val (.ref wW), .val (.long q1), .second, .val (.long (q2 &&& (q1 ^^^ (-1 : Int64)))), .second, .unset, .unset, .unset, .unset, .unset, .unset, .unset, .unset] [(.long q3), (.long q1)])) _
          refine XS.lxor X95.here hx rfl (hb hby at_66) rfl ?_
          show Steps p.tables e below (T95.setTop (mkF m 67 #[.val (.long q1), .second, .val (.long q2), .second, .val (.long q3), .second, .val (.long q4), .second, .val (.int p5), .val (.ref wW), .val (.ref wW), .val (.long q1), .second, .val (.long (q2 &&& (q1 ^^^ (-1 : Int64)))), .second, .unset, .unset, .unset, .unset, .unset, .unset, .unset, .unset] [(.long (q1 ^^^ q3))])) _
          refine XS.lstore X95.here hx rfl (hb hby at_67) rfl (l' := #[.val (.long q1), .second, .val (.long q2), .second, .val (.long q3), .second, .val (.long q4), .second, .val (.int p5), .val (.ref wW), .val (.ref wW), .val (.long q1), .second, .val (.long (q2 &&& (q1 ^^^ (-1 : Int64)))), .second, .val (.long (q1 ^^^ q3)), .second, .unset, .unset, .unset, .unset, .unset, .unset]) rfl ?_
          show Steps p.tables e below (T95.setTop (mkF m 69 #[.val (.long q1), .second, .val (.long q2), .second, .val (.long q3), .second, .val (.long q4), .second, .val (.int p5), .val (.ref wW), .val (.ref wW), .val (.long q1), .second, .val (.long (q2 &&& (q1 ^^^ (-1 : Int64)))), .second, .val (.long (q1 ^^^ q3)), .second, .unset, .unset, .unset, .unset, .unset, .unset] [])) _
          refine XS.iload X95.here hx rfl (hb hby at_69) rfl ?_
          show Steps p.tables e below (T95.setTop (mkF m 71 #[.val (.long q1), .second, .val (.long q2), .second, .val (.long q3), .second, .val (.long q4), .second, .val (.int p5), .val (.ref wW), .val (.ref wW), .val (.long q1), .second, .val (.long (q2 &&& (q1 ^^^ (-1 : Int64)))), .second, .val (.long (q1 ^^^ q3)), .second, .unset, .unset, .unset, .unset, .unset, .unset] [(.int p5)])) _
          refine XS.bipush X95.here hx rfl (hb hby at_71) ?_
          show Steps p.tables e below (T95.setTop (mkF m 73 #[.val (.long q1), .second, .val (.long q2), .second, .val (.long q3), .second, .val (.long q4), .second, .val (.int p5), .val (.ref wW), .val (.ref wW), .val (.long q1), .second, .val (.long (q2 &&& (q1 ^^^ (-1 : Int64)))), .second, .val (.long (q1 ^^^ q3)), .second, .unset, .unset, .unset, .unset, .unset, .unset] [(.int (32 : Int32)), (.int p5)])) _
          refine XS.iand X95.here hx rfl (hb hby at_73) rfl ?_
          exact k
        by_cases hc101 : (p5 &&& (32 : Int32)) = (0 : Int32)
        · have pre102 : ∀ t, Steps p.tables e below (T95.setTop (mkF m 82 #[.val (.long q1), .second, .val (.long q2), .second, .val (.long q3), .second, .val (.long q4), .second, .val (.int p5), .val (.ref wW), .val (.ref wW), .val (.long q1), .second, .val (.long (q2 &&& (q1 ^^^ (-1 : Int64)))), .second, .val (.long (q1 ^^^ q3)), .second, .unset, .unset, .unset, .unset, .unset, .unset] [])) t → Steps p.tables e below (s₁.setTop (entryFrame m #[(.long q1), (.long q2), (.long q3), (.long q4), (.int p5)] maxLocals)) t := by
            intro t k
            refine pre100 _ ?_
            show Steps p.tables e below (T95.setTop (mkF m 74 #[.val (.long q1), .second, .val (.long q2), .second, .val (.long q3), .second, .val (.long q4), .second, .val (.int p5), .val (.ref wW), .val (.ref wW), .val (.long q1), .second, .val (.long (q2 &&& (q1 ^^^ (-1 : Int64)))), .second, .val (.long (q1 ^^^ q3)), .second, .unset, .unset, .unset, .unset, .unset, .unset] [(.int (p5 &&& (32 : Int32)))])) _
            refine XS.ifYes X95.here hx rfl (pc0 := 74) (pc' := 82) rfl (hb hby at_74) rfl ((if0 _ _).trans (teq hc101).1) (by decide) (by decide) ?_
            exact k
          have pre103 : ∀ t, Steps p.tables e below (T95.setTop (mkF m 96 #[.val (.long q1), .second, .val (.long q2), .second, .val (.long q3), .second, .val (.long q4), .second, .val (.int p5), .val (.ref wW), .val (.ref wW), .val (.long q1), .second, .val (.long (q2 &&& (q1 ^^^ (-1 : Int64)))), .second, .val (.long (q1 ^^^ q3)), .second, .val (.long (((q2 &&& (q1 ^^^ (-1 : Int64))) ^^^ q4) &&& ((q1 ^^^ q3) ^^^ (-1 : Int64)))), .second, .unset, .unset, .unset, .unset] [])) t → Steps p.tables e below (s₁.setTop (entryFrame m #[(.long q1), (.long q2), (.long q3), (.long q4), (.int p5)] maxLocals)) t := by
            intro t k
            refine pre102 _ ?_
            show Steps p.tables e below (T95.setTop (mkF m 82 #[.val (.long q1), .second, .val (.long q2), .second, .val (.long q3), .second, .val (.long q4), .second, .val (.int p5), .val (.ref wW), .val (.ref wW), .val (.long q1), .second, .val (.long (q2 &&& (q1 ^^^ (-1 : Int64)))), .second, .val (.long (q1 ^^^ q3)), .second, .unset, .unset, .unset, .unset, .unset, .unset] [])) _
            refine XS.lload X95.here hx rfl (hb hby at_82) rfl ?_
            show Steps p.tables e below (T95.setTop (mkF m 84 #[.val (.long q1), .second, .val (.long q2), .second, .val (.long q3), .second, .val (.long q4), .second, .val (.int p5), .val (.ref wW), .val (.ref wW), .val (.long q1), .second, .val (.long (q2 &&& (q1 ^^^ (-1 : Int64)))), .second, .val (.long (q1 ^^^ q3)), .second, .unset, .unset, .unset, .unset, .unset, .unset] [(.long (q2 &&& (q1 ^^^ (-1 : Int64))))])) _
            refine XS.lload X95.here hx rfl (hb hby at_84) rfl ?_
            show Steps p.tables e below (T95.setTop (mkF m 86 #[.val (.long q1), .second, .val (.long q2), .second, .val (.long q3), .second, .val (.long q4), .second, .val (.int p5), .val (.ref wW), .val (.ref wW), .val (.long q1), .second, .val (.long (q2 &&& (q1 ^^^ (-1 : Int64)))), .second, .val (.long (q1 ^^^ q3)), .second, .unset, .unset, .unset, .unset, .unset, .unset] [(.long q4), (.long (q2 &&& (q1 ^^^ (-1 : Int64))))])) _
            refine XS.lxor X95.here hx rfl (hb hby at_86) rfl ?_
            show Steps p.tables e below (T95.setTop (mkF m 87 #[.val (.long q1), .second, .val (.long q2), .second, .val (.long q3), .second, .val (.long q4), .second, .val (.int p5), .val (.ref wW), .val (.ref wW), .val (.long q1), .second, .val (.long (q2 &&& (q1 ^^^ (-1 : Int64)))), .second, .val (.long (q1 ^^^ q3)), .second, .unset, .unset, .unset, .unset, .unset, .unset] [(.long ((q2 &&& (q1 ^^^ (-1 : Int64))) ^^^ q4))])) _
            refine XS.lload X95.here hx rfl (hb hby at_87) rfl ?_
            show Steps p.tables e below (T95.setTop (mkF m 89 #[.val (.long q1), .second, .val (.long q2), .second, .val (.long q3), .second, .val (.long q4), .second, .val (.int p5), .val (.ref wW), .val (.ref wW), .val (.long q1), .second, .val (.long (q2 &&& (q1 ^^^ (-1 : Int64)))), .second, .val (.long (q1 ^^^ q3)), .second, .unset, .unset, .unset, .unset, .unset, .unset] [(.long (q1 ^^^ q3)), (.long ((q2 &&& (q1 ^^^ (-1 : Int64))) ^^^ q4))])) _
            refine X95.ldc2Long hx hown (mvT hZ (hw _ (List.mem_of_getElem? (i := 3) rfl))) (g := (mkF m 89 #[.val (.long q1), .second, .val (.long q2), .second, .val (.long q3), .second, .val (.long q4), .second, .val (.int p5), .val (.ref wW), .val (.ref wW), .val (.long q1), .second, .val (.long (q2 &&& (q1 ^^^ (-1 : Int64)))), .second, .val (.long (q1 ^^^ q3)), .second, .unset, .unset, .unset, .unset, .unset, .unset] [(.long (q1 ^^^ q3)), (.long ((q2 &&& (q1 ^^^ (-1 : Int64))) ^^^ q4))])) rfl (hb hby at_89) _ ?_
            show Steps p.tables e below (T95.setTop (mkF m 92 #[.val (.long q1), .second, .val (.long q2), .second, .val (.long q3), .second, .val (.long q4), .second, .val (.int p5), .val (.ref wW), .val (.ref wW), .val (.long q1), .second, .val (.long (q2 &&& (q1 ^^^ (-1 : Int64)))), .second, .val (.long (q1 ^^^ q3)), .second, .unset, .unset, .unset, .unset, .unset, .unset] [(.long (-1 : Int64)), (.long (q1 ^^^ q3)), (.long ((q2 &&& (q1 ^^^ (-1 : Int64))) ^^^ q4))])) _
            refine XS.lxor X95.here hx rfl (hb hby at_92) rfl ?_
            show Steps p.tables e below (T95.setTop (mkF m 93 #[.val (.long q1), .second, .val (.long q2), .second, .val (.long q3), .second, .val (.long q4), .second, .val (.int p5), .val (.ref wW), .val (.ref wW), .val (.long q1), .second, .val (.long (q2 &&& (q1 ^^^ (-1 : Int64)))), .second, .val (.long (q1 ^^^ q3)), .second, .unset, .unset, .unset, .unset, .unset, .unset] [(.long ((q1 ^^^ q3) ^^^ (-1 : Int64))), (.long ((q2 &&& (q1 ^^^ (-1 : Int64))) ^^^ q4))])) _
            refine XS.land X95.here hx rfl (hb hby at_93) rfl ?_
            show Steps p.tables e below (T95.setTop (mkF m 94 #[.val (.long q1), .second, .val (.long q2), .second, .val (.long q3), .second, .val (.long q4), .second, .val (.int p5), .val (.ref wW), .val (.ref wW), .val (.long q1), .second, .val (.long (q2 &&& (q1 ^^^ (-1 : Int64)))), .second, .val (.long (q1 ^^^ q3)), .second, .unset, .unset, .unset, .unset, .unset, .unset] [(.long (((q2 &&& (q1 ^^^ (-1 : Int64))) ^^^ q4) &&& ((q1 ^^^ q3) ^^^ (-1 : Int64))))])) _
            refine XS.lstore X95.here hx rfl (hb hby at_94) rfl (l' := #[.val (.long q1), .second, .val (.long q2), .second, .val (.long q3), .second, .val (.long q4), .second, .val (.int p5), .val (.ref wW), .val (.ref wW), .val (.long q1), .second, .val (.long (q2 &&& (q1 ^^^ (-1 : Int64)))), .second, .val (.long (q1 ^^^ q3)), .second, .val (.long (((q2 &&& (q1 ^^^ (-1 : Int64))) ^^^ q4) &&& ((q1 ^^^ q3) ^^^ (-1 : Int64)))), .second, .unset, .unset, .unset, .unset]) rfl ?_
            exact k
          obtain ⟨s₂, o, st238, g1, g2, v, L, ho, ⟨hv, hN⟩, hfe⟩ := pc0_96_0 q1 q2 q3 q4 p5 wW wW q1 (q2 &&& (q1 ^^^ (-1 : Int64))) (q1 ^^^ q3) (((q2 &&& (q1 ^^^ (-1 : Int64))) ^^^ q4) &&& ((q1 ^^^ q3) ^^^ (-1 : Int64))) wB wW X95 hx hZ hw hby hml hown hret hlocks e95 N0 Z0 O0 hS0 (own_disj _ _) (own_disj _ _) E_wW E_wW S_wB S_wW
          exact ⟨s₂, o, pre103 _ st238, g1, g2, v, L, ho, ⟨(by rw [F0, if_pos hc88, if_pos hc93, if_pos hc98, if_pos hc101]; exact hv), hN⟩, hfe⟩
        · have pre239 : ∀ t, Steps p.tables e below (T95.setTop (mkF m 77 #[.val (.long q1), .second, .val (.long q2), .second, .val (.long q3), .second, .val (.long q4), .second, .val (.int p5), .val (.ref wW), .val (.ref wW), .val (.long q1), .second, .val (.long (q2 &&& (q1 ^^^ (-1 : Int64)))), .second, .val (.long (q1 ^^^ q3)), .second, .unset, .unset, .unset, .unset, .unset, .unset] [])) t → Steps p.tables e below (s₁.setTop (entryFrame m #[(.long q1), (.long q2), (.long q3), (.long q4), (.int p5)] maxLocals)) t := by
            intro t k
            refine pre100 _ ?_
            show Steps p.tables e below (T95.setTop (mkF m 74 #[.val (.long q1), .second, .val (.long q2), .second, .val (.long q3), .second, .val (.long q4), .second, .val (.int p5), .val (.ref wW), .val (.ref wW), .val (.long q1), .second, .val (.long (q2 &&& (q1 ^^^ (-1 : Int64)))), .second, .val (.long (q1 ^^^ q3)), .second, .unset, .unset, .unset, .unset, .unset, .unset] [(.int (p5 &&& (32 : Int32)))])) _
            refine XS.ifNo X95.here hx rfl (hb hby at_74) rfl ((if0 _ _).trans (feq hc101).1) ?_
            exact k
          have pre240 : ∀ t, Steps p.tables e below (T95.setTop (mkF m 96 #[.val (.long q1), .second, .val (.long q2), .second, .val (.long q3), .second, .val (.long q4), .second, .val (.int p5), .val (.ref wW), .val (.ref wW), .val (.long q1), .second, .val (.long (q2 &&& (q1 ^^^ (-1 : Int64)))), .second, .val (.long (q1 ^^^ q3)), .second, .val (.long ((q2 &&& (q1 ^^^ (-1 : Int64))) &&& ((q1 ^^^ q3) ^^^ (-1 : Int64)))), .second, .unset, .unset, .unset, .unset] [])) t → Steps p.tables e below (s₁.setTop (entryFrame m #[(.long q1), (.long q2), (.long q3), (.long q4), (.int p5)] maxLocals)) t := by
            intro t k
            refine pre239 _ ?_
            show Steps p.tables e below (T95.setTop (mkF m 77 #[.val (.long q1), .second, .val (.long q2), .second, .val (.long q3), .second, .val (.long q4), .second, .val (.int p5), .val (.ref wW), .val (.ref wW), .val (.long q1), .second, .val (.long (q2 &&& (q1 ^^^ (-1 : Int64)))), .second, .val (.long (q1 ^^^ q3)), .second, .unset, .unset, .unset, .unset, .unset, .unset] [])) _
            refine XS.lload X95.here hx rfl (hb hby at_77) rfl ?_
            show Steps p.tables e below (T95.setTop (mkF m 79 #[.val (.long q1), .second, .val (.long q2), .second, .val (.long q3), .second, .val (.long q4), .second, .val (.int p5), .val (.ref wW), .val (.ref wW), .val (.long q1), .second, .val (.long (q2 &&& (q1 ^^^ (-1 : Int64)))), .second, .val (.long (q1 ^^^ q3)), .second, .unset, .unset, .unset, .unset, .unset, .unset] [(.long (q2 &&& (q1 ^^^ (-1 : Int64))))])) _
            refine XS.goto X95.here hx rfl (pc0 := 79) (pc' := 87) rfl (hb hby at_79) (by decide) (by decide) ?_
            show Steps p.tables e below (T95.setTop (mkF m 87 #[.val (.long q1), .second, .val (.long q2), .second, .val (.long q3), .second, .val (.long q4), .second, .val (.int p5), .val (.ref wW), .val (.ref wW), .val (.long q1), .second, .val (.long (q2 &&& (q1 ^^^ (-1 : Int64)))), .second, .val (.long (q1 ^^^ q3)), .second, .unset, .unset, .unset, .unset, .unset, .unset] [(.long (q2 &&& (q1 ^^^ (-1 : Int64))))])) _
            refine XS.lload X95.here hx rfl (hb hby at_87) rfl ?_
            show Steps p.tables e below (T95.setTop (mkF m 89 #[.val (.long q1), .second, .val (.long q2), .second, .val (.long q3), .second, .val (.long q4), .second, .val (.int p5), .val (.ref wW), .val (.ref wW), .val (.long q1), .second, .val (.long (q2 &&& (q1 ^^^ (-1 : Int64)))), .second, .val (.long (q1 ^^^ q3)), .second, .unset, .unset, .unset, .unset, .unset, .unset] [(.long (q1 ^^^ q3)), (.long (q2 &&& (q1 ^^^ (-1 : Int64))))])) _
            refine X95.ldc2Long hx hown (mvT hZ (hw _ (List.mem_of_getElem? (i := 3) rfl))) (g := (mkF m 89 #[.val (.long q1), .second, .val (.long q2), .second, .val (.long q3), .second, .val (.long q4), .second, .val (.int p5), .val (.ref wW), .val (.ref wW), .val (.long q1), .second, .val (.long (q2 &&& (q1 ^^^ (-1 : Int64)))), .second, .val (.long (q1 ^^^ q3)), .second, .unset, .unset, .unset, .unset, .unset, .unset] [(.long (q1 ^^^ q3)), (.long (q2 &&& (q1 ^^^ (-1 : Int64))))])) rfl (hb hby at_89) _ ?_
            show Steps p.tables e below (T95.setTop (mkF m 92 #[.val (.long q1), .second, .val (.long q2), .second, .val (.long q3), .second, .val (.long q4), .second, .val (.int p5), .val (.ref wW), .val (.ref wW), .val (.long q1), .second, .val (.long (q2 &&& (q1 ^^^ (-1 : Int64)))), .second, .val (.long (q1 ^^^ q3)), .second, .unset, .unset, .unset, .unset, .unset, .unset] [(.long (-1 : Int64)), (.long (q1 ^^^ q3)), (.long (q2 &&& (q1 ^^^ (-1 : Int64))))])) _
            refine XS.lxor X95.here hx rfl (hb hby at_92) rfl ?_
            show Steps p.tables e below (T95.setTop (mkF m 93 #[.val (.long q1), .second, .val (.long q2), .second, .val (.long q3), .second, .val (.long q4), .second, .val (.int p5), .val (.ref wW), .val (.ref wW), .val (.long q1), .second, .val (.long (q2 &&& (q1 ^^^ (-1 : Int64)))), .second, .val (.long (q1 ^^^ q3)), .second, .unset, .unset, .unset, .unset, .unset, .unset] [(.long ((q1 ^^^ q3) ^^^ (-1 : Int64))), (.long (q2 &&& (q1 ^^^ (-1 : Int64))))])) _
            refine XS.land X95.here hx rfl (hb hby at_93) rfl ?_
            show Steps p.tables e below (T95.setTop (mkF m 94 #[.val (.long q1), .second, .val (.long q2), .second, .val (.long q3), .second, .val (.long q4), .second, .val (.int p5), .val (.ref wW), .val (.ref wW), .val (.long q1), .second, .val (.long (q2 &&& (q1 ^^^ (-1 : Int64)))), .second, .val (.long (q1 ^^^ q3)), .second, .unset, .unset, .unset, .unset, .unset, .unset] [(.long ((q2 &&& (q1 ^^^ (-1 : Int64))) &&& ((q1 ^^^ q3) ^^^ (-1 : Int64))))])) _
            refine XS.lstore X95.here hx rfl (hb hby at_94) rfl (l' := #[.val (.long q1), .second, .val (.long q2), .second, .val (.long q3), .second, .val (.long q4), .second, .val (.int p5), .val (.ref wW), .val (.ref wW), .val (.long q1), .second, .val (.long (q2 &&& (q1 ^^^ (-1 : Int64)))), .second, .val (.long (q1 ^^^ q3)), .second, .val (.long ((q2 &&& (q1 ^^^ (-1 : Int64))) &&& ((q1 ^^^ q3) ^^^ (-1 : Int64)))), .second, .unset, .unset, .unset, .unset]) rfl ?_
            exact k
          obtain ⟨s₂, o, st241, g1, g2, v, L, ho, ⟨hv, hN⟩, hfe⟩ := pc0_96_0 q1 q2 q3 q4 p5 wW wW q1 (q2 &&& (q1 ^^^ (-1 : Int64))) (q1 ^^^ q3) ((q2 &&& (q1 ^^^ (-1 : Int64))) &&& ((q1 ^^^ q3) ^^^ (-1 : Int64))) wB wW X95 hx hZ hw hby hml hown hret hlocks e95 N0 Z0 O0 hS0 (own_disj _ _) (own_disj _ _) E_wW E_wW S_wB S_wW
          exact ⟨s₂, o, pre240 _ st241, g1, g2, v, L, ho, ⟨(by rw [F0, if_pos hc88, if_pos hc93, if_pos hc98, if_neg hc101]; exact hv), hN⟩, hfe⟩
      · have pre242 : ∀ t, Steps p.tables e below (T95.setTop (mkF m 57 #[.val (.long q1), .second, .val (.long q2), .second, .val (.long q3), .second, .val (.long q4), .second, .val (.int p5), .val (.ref wW), .val (.ref wW), .val (.long q1), .second, .val (.long (q2 &&& (q1 ^^^ (-1 : Int64)))), .second, .unset, .unset, .unset, .unset, .unset, .unset, .unset, .unset] [])) t → Steps p.tables e below (s₁.setTop (entryFrame m #[(.long q1), (.long q2), (.long q3), (.long q4), (.int p5)] maxLocals)) t := by
          intro t k
          refine pre97 _ ?_
          show Steps p.tables e below (T95.setTop (mkF m 54 #[.val (.long q1), .second, .val (.long q2), .second, .val (.long q3), .second, .val (.long q4), .second, .val (.int p5), .val (.ref wW), .val (.ref wW), .val (.long q1), .second, .val (.long (q2 &&& (q1 ^^^ (-1 : Int64)))), .second, .unset, .unset, .unset, .unset, .unset, .unset, .unset, .unset] [(.int (p5 &&& (16 : Int32)))])) _
          refine XS.ifNo X95.here hx rfl (hb hby at_54) rfl ((if0 _ _).trans (feq hc98).1) ?_
          exact k
        have pre243 : ∀ t, Steps p.tables e below (T95.setTop (mkF m 74 #[.val (.long q1), .second, .val (.long q2), .second, .val (.long q3), .second, .val (.long q4), .second, .val (.int p5), .val (.ref wW), .val (.ref wW), .val (.long q1), .second, .val (.long (q2 &&& (q1 ^^^ (-1 : Int64)))), .second, .val (.long q1), .second, .unset, .unset, .unset, .unset, .unset, .unset] [(.int (p5 &&& (32 : Int32)))])) t → Steps p.tables e below (s₁.setTop (entryFrame m #[(.long q1), (.long q2), (.long q3), (.long q4), (.int p5)] maxLocals)) t := by
          intro t k
          refine pre242 _ ?_
          show Steps p.tables e below (T95.setTop (mkF m 57 #[.val (.long q1), .second, .val (.long q2), .second, .val (.long q3), .second, .val (.long q4), .second, .val (.int p5), .val (.ref wW), .val (.ref wW), .val (.long q1), .second, .val (.long (q2 &&& (q1 ^^^ (-1 : Int64)))), .second, .unset, .unset, .unset, .unset, .unset, .unset, .unset, .unset] [])) _
          refine XS.lload X95.here hx rfl (hb hby at_57) rfl ?_
          show Steps p.tables e below (T95.setTop (mkF m 59 #[.val (.long q1), .second, .val (.long q2), .second, .val (.long q3), .second, .val (.long q4), .second, .val (.int p5), .val (.ref wW), .val (.ref wW), .val (.long q1), .second, .val (.long (q2 &&& (q1 ^^^ (-1 : Int64)))), .second, .unset, .unset, .unset, .unset, .unset, .unset, .unset, .unset] [(.long q1)])) _
          refine XS.goto X95.here hx rfl (pc0 := 59) (pc' := 67) rfl (hb hby at_59) (by decide) (by decide) ?_
          show Steps p.tables e below (T95.setTop (mkF m 67 #[.val (.long q1), .second, .val (.long q2), .second, .val (.long q3), .second, .val (.long q4), .second, .val (.int p5), .val (.ref wW), .val (.ref wW), .val (.long q1), .second, .val (.long (q2 &&& (q1 ^^^ (-1 : Int64)))), .second, .unset, .unset, .unset, .unset, .unset, .unset, .unset, .unset] [(.long q1)])) _
          refine XS.lstore X95.here hx rfl (hb hby at_67) rfl (l' := #[.val (.long q1), .second, .val (.long q2), .second, .val (.long q3), .second, .val (.long q4), .second, .val (.int p5), .val (.ref wW), .val (.ref wW), .val (.long q1), .second, .val (.long (q2 &&& (q1 ^^^ (-1 : Int64)))), .second, .val (.long q1), .second, .unset, .unset, .unset, .unset, .unset, .unset]) rfl ?_
          show Steps p.tables e below (T95.setTop (mkF m 69 #[.val (.long q1), .second, .val (.long q2), .second, .val (.long q3), .second, .val (.long q4), .second, .val (.int p5), .val (.ref wW), .val (.ref wW), .val (.long q1), .second, .val (.long (q2 &&& (q1 ^^^ (-1 : Int64)))), .second, .val (.long q1), .second, .unset, .unset, .unset, .unset, .unset, .unset] [])) _
          refine XS.iload X95.here hx rfl (hb hby at_69) rfl ?_
          show Steps p.tables e below (T95.setTop (mkF m 71 #[.val (.long q1), .second, .val (.long q2), .second, .val (.long q3), .second, .val (.long q4), .second, .val (.int p5), .val (.ref wW), .val (.ref wW), .val (.long q1), .second, .val (.long (q2 &&& (q1 ^^^ (-1 : Int64)))), .second, .val (.long q1), .second, .unset, .unset, .unset, .unset, .unset, .unset] [(.int p5)])) _
          refine XS.bipush X95.here hx rfl (hb hby at_71) ?_
          show Steps p.tables e below (T95.setTop (mkF m 73 #[.val (.long q1), .second, .val (.long q2), .second, .val (.long q3), .second, .val (.long q4), .second, .val (.int p5), .val (.ref wW), .val (.ref wW), .val (.long q1), .second, .val (.long (q2 &&& (q1 ^^^ (-1 : Int64)))), .second, .val (.long q1), .second, .unset, .unset, .unset, .unset, .unset, .unset] [(.int (32 : Int32)), (.int p5)])) _
          refine XS.iand X95.here hx rfl (hb hby at_73) rfl ?_
          exact k
        by_cases hc244 : (p5 &&& (32 : Int32)) = (0 : Int32)
        · have pre245 : ∀ t, Steps p.tables e below (T95.setTop (mkF m 82 #[.val (.long q1), .second, .val (.long q2), .second, .val (.long q3), .second, .val (.long q4), .second, .val (.int p5), .val (.ref wW), .val (.ref wW), .val (.long q1), .second, .val (.long (q2 &&& (q1 ^^^ (-1 : Int64)))), .second, .val (.long q1), .second, .unset, .unset, .unset, .unset, .unset, .unset] [])) t → Steps p.tables e below (s₁.setTop (entryFrame m #[(.long q1), (.long q2), (.long q3), (.long q4), (.int p5)] maxLocals)) t := by
            intro t k
            refine pre243 _ ?_
            show Steps p.tables e below (T95.setTop (mkF m 74 #[.val (.long q1), .second, .val (.long q2), .second, .val (.long q3), .second, .val (.long q4), .second, .val (.int p5), .val (.ref wW), .val (.ref wW), .val (.long q1), .second, .val (.long (q2 &&& (q1 ^^^ (-1 : Int64)))), .second, .val (.long q1), .second, .unset, .unset, .unset, .unset, .unset, .unset] [(.int (p5 &&& (32 : Int32)))])) _
            refine XS.ifYes X95.here hx rfl (pc0 := 74) (pc' := 82) rfl (hb hby at_74) rfl ((if0 _ _).trans (teq hc244).1) (by decide) (by decide) ?_
            exact k
          have pre246 : ∀ t, Steps p.tables e below (T95.setTop (mkF m 96 #[.val (.long q1), .second, .val (.long q2), .second, .val (.long q3), .second, .val (.long q4), .second, .val (.int p5), .val (.ref wW), .val (.ref wW), .val (.long q1), .second, .val (.long (q2 &&& (q1 ^^^ (-1 : Int64)))), .second, .val (.long q1), .second, .val (.long (((q2 &&& (q1 ^^^ (-1 : Int64))) ^^^ q4) &&& (q1 ^^^ (-1 : Int64)))), .second, .unset, .unset, .unset, .unset] [])) t → Steps p.tables e below (s₁.setTop (entryFrame m #[(.long q1), (.long q2), (.long q3), (.long q4), (.int p5)] maxLocals)) t := by
            intro t k
            refine pre245 _ ?_
            show Steps p.tables e below (T95.setTop (mkF m 82 #[.val (.long q1), .second, .val (.long q2), .second, .val (.long q3), .second, .val (.long q4), .second, .val (.int p5), .val (.ref wW), .val (.ref wW), .val (.long q1), .second, .val (.long (q2 &&& (q1 ^^^ (-1 : Int64)))), .second, .val (.long q1), .second, .unset, .unset, .unset, .unset, .unset, .unset] [])) _
            refine XS.lload X95.here hx rfl (hb hby at_82) rfl ?_
            show Steps p.tables e below (T95.setTop (mkF m 84 #[.val (.long q1), .second, .val (.long q2), .second, .val (.long q3), .second, .val (.long q4), .second, .val (.int p5), .val (.ref wW), .val (.ref wW), .val (.long q1), .second, .val (.long (q2 &&& (q1 ^^^ (-1 : Int64)))), .second, .val (.long q1), .second, .unset, .unset, .unset, .unset, .unset, .unset] [(.long (q2 &&& (q1 ^^^ (-1 : Int64))))])) _
            refine XS.lload X95.here hx rfl (hb hby at_84) rfl ?_
            show Steps p.tables e below (T95.setTop (mkF m 86 #[.val (.long q1), .second, .val (.long q2), .second, .val (.long q3), .second, .val (.long q4), .second, .val (.int p5), .val (.ref wW), .val (.ref wW), .val (.long q1), .second, .val (.long (q2 &&& (q1 ^^^ (-1 : Int64)))), .second, .val (.long q1), .second, .unset, .unset, .unset, .unset, .unset, .unset] [(.long q4), (.long (q2 &&& (q1 ^^^ (-1 : Int64))))])) _
            refine XS.lxor X95.here hx rfl (hb hby at_86) rfl ?_
            show Steps p.tables e below (T95.setTop (mkF m 87 #[.val (.long q1), .second, .val (.long q2), .second, .val (.long q3), .second, .val (.long q4), .second, .val (.int p5), .val (.ref wW), .val (.ref wW), .val (.long q1), .second, .val (.long (q2 &&& (q1 ^^^ (-1 : Int64)))), .second, .val (.long q1), .second, .unset, .unset, .unset, .unset, .unset, .unset] [(.long ((q2 &&& (q1 ^^^ (-1 : Int64))) ^^^ q4))])) _
            refine XS.lload X95.here hx rfl (hb hby at_87) rfl ?_
            show Steps p.tables e below (T95.setTop (mkF m 89 #[.val (.long q1), .second, .val (.long q2), .second, .val (.long q3), .second, .val (.long q4), .second, .val (.int p5), .val (.ref wW), .val (.ref wW), .val (.long q1), .second, .val (.long (q2 &&& (q1 ^^^ (-1 : Int64)))), .second, .val (.long q1), .second, .unset, .unset, .unset, .unset, .unset, .unset] [(.long q1), (.long ((q2 &&& (q1 ^^^ (-1 : Int64))) ^^^ q4))])) _
            refine X95.ldc2Long hx hown (mvT hZ (hw _ (List.mem_of_getElem? (i := 3) rfl))) (g := (mkF m 89 #[.val (.long q1), .second, .val (.long q2), .second, .val (.long q3), .second, .val (.long q4), .second, .val (.int p5), .val (.ref wW), .val (.ref wW), .val (.long q1), .second, .val (.long (q2 &&& (q1 ^^^ (-1 : Int64)))), .second, .val (.long q1), .second, .unset, .unset, .unset, .unset, .unset, .unset] [(.long q1), (.long ((q2 &&& (q1 ^^^ (-1 : Int64))) ^^^ q4))])) rfl (hb hby at_89) _ ?_
            show Steps p.tables e below (T95.setTop (mkF m 92 #[.val (.long q1), .second, .val (.long q2), .second, .val (.long q3), .second, .val (.long q4), .second, .val (.int p5), .val (.ref wW), .val (.ref wW), .val (.long q1), .second, .val (.long (q2 &&& (q1 ^^^ (-1 : Int64)))), .second, .val (.long q1), .second, .unset, .unset, .unset, .unset, .unset, .unset] [(.long (-1 : Int64)), (.long q1), (.long ((q2 &&& (q1 ^^^ (-1 : Int64))) ^^^ q4))])) _
            refine XS.lxor X95.here hx rfl (hb hby at_92) rfl ?_
            show Steps p.tables e below (T95.setTop (mkF m 93 #[.val (.long q1), .second, .val (.long q2), .second, .val (.long q3), .second, .val (.long q4), .second, .val (.int p5), .val (.ref wW), .val (.ref wW), .val (.long q1), .second, .val (.long (q2 &&& (q1 ^^^ (-1 : Int64)))), .second, .val (.long q1), .second, .unset, .unset, .unset, .unset, .unset, .unset] [(.long (q1 ^^^ (-1 : Int64))), (.long ((q2 &&& (q1 ^^^ (-1 : Int64))) ^^^ q4))])) _
            refine XS.land X95.here hx rfl (hb hby at_93) rfl ?_
            show Steps p.tables e below (T95.setTop (mkF m 94 #[.val (.long q1), .second, .val (.long q2), .second, .val (.long q3), .second, .val (.long q4), .second, .val (.int p5), .val (.ref wW), .val (.ref wW), .val (.long q1), .second, .val (.long (q2 &&& (q1 ^^^ (-1 : Int64)))), .second, .val (.long q1), .second, .unset, .unset, .unset, .unset, .unset, .unset] [(.long (((q2 &&& (q1 ^^^ (-1 : Int64))) ^^^ q4) &&& (q1 ^^^ (-1 : Int64))))])) _
            refine XS.lstore X95.here hx rfl (hb hby at_94) rfl (l' := #[.val (.long q1), .second, .val (.long q2), .second, .val (.long q3), .second, .val (.long q4), .second, .val (.int p5), .val (.ref wW), .val (.ref wW), .val (.long q1), .second, .val (.long (q2 &&& (q1 ^^^ (-1 : Int64)))), .second, .val (.long q1), .second, .val (.long (((q2 &&& (q1 ^^^ (-1 : Int64))) ^^^ q4) &&& (q1 ^^^ (-1 : Int64)))), .second, .unset, .unset, .unset, .unset]) rfl ?_
            exact k
          obtain ⟨s₂, o, st247, g1, g2, v, L, ho, ⟨hv, hN⟩, hfe⟩ := pc0_96_0 q1 q2 q3 q4 p5 wW wW q1 (q2 &&& (q1 ^^^ (-1 : Int64))) q1 (((q2 &&& (q1 ^^^ (-1 : Int64))) ^^^ q4) &&& (q1 ^^^ (-1 : Int64))) wB wW X95 hx hZ hw hby hml hown hret hlocks e95 N0 Z0 O0 hS0 (own_disj _ _) (own_disj _ _) E_wW E_wW S_wB S_wW
          exact ⟨s₂, o, pre246 _ st247, g1, g2, v, L, ho, ⟨(by rw [F0, if_pos hc88, if_pos hc93, if_neg hc98, if_pos hc244]; exact hv), hN⟩, hfe⟩
        · have pre248 : ∀ t, Steps p.tables e below (T95.setTop (mkF m 77 #[.val (.long q1), .second, .val (.long q2), .second, .val (.long q3), .second, .val (.long q4), .second, .val (.int p5), .val (.ref wW), .val (.ref wW), .val (.long q1), .second, .val (.long (q2 &&& (q1 ^^^ (-1 : Int64)))), .second, .val (.long q1), .second, .unset, .unset, .unset, .unset, .unset, .unset] [])) t → Steps p.tables e below (s₁.setTop (entryFrame m #[(.long q1), (.long q2), (.long q3), (.long q4), (.int p5)] maxLocals)) t := by
            intro t k
            refine pre243 _ ?_
            show Steps p.tables e below (T95.setTop (mkF m 74 #[.val (.long q1), .second, .val (.long q2), .second, .val (.long q3), .second, .val (.long q4), .second, .val (.int p5), .val (.ref wW), .val (.ref wW), .val (.long q1), .second, .val (.long (q2 &&& (q1 ^^^ (-1 : Int64)))), .second, .val (.long q1), .second, .unset, .unset, .unset, .unset, .unset, .unset] [(.int (p5 &&& (32 : Int32)))])) _
            refine XS.ifNo X95.here hx rfl (hb hby at_74) rfl ((if0 _ _).trans (feq hc244).1) ?_
            exact k
          have pre249 : ∀ t, Steps p.tables e below (T95.setTop (mkF m 96 #[.val (.long q1), .second, .val (.long q2), .second, .val (.long q3), .second, .val (.long q4), .second, .val (.int p5), .val (.ref wW), .val (.ref wW), .val (.long q1), .second, .val (.long (q2 &&& (q1 ^^^ (-1 : Int64)))), .second, .val (.long q1), .second, .val (.long ((q2 &&& (q1 ^^^ (-1 : Int64))) &&& (q1 ^^^ (-1 : Int64)))), .second, .unset, .unset, .unset, .unset] [])) t → Steps p.tables e below (s₁.setTop (entryFrame m #[(.long q1), (.long q2), (.long q3), (.long q4), (.int p5)] maxLocals)) t := by
            intro t k
            refine pre248 _ ?_
            show Steps p.tables e below (T95.setTop (mkF m 77 #[.val (.long q1), .second, .val (.long q2), .second, .val (.long q3), .second, .val (.long q4), .second, .val (.int p5), .val (.ref wW), .val (.ref wW), .val (.long q1), .second, .val (.long (q2 &&& (q1 ^^^ (-1 : Int64)))), .second, .val (.long q1), .second, .unset, .unset, .unset, .unset, .unset, .unset] [])) _
            refine XS.lload X95.here hx rfl (hb hby at_77) rfl ?_
            show Steps p.tables e below (T95.setTop (mkF m 79 #[.val (.long q1), .second, .val (.long q2), .second, .val (.long q3), .second, .val (.long q4), .second, .val (.int p5), .val (.ref wW), .val (.ref wW), .val (.long q1), .second, .val (.long (q2 &&& (q1 ^^^ (-1 : Int64)))), .second, .val (.long q1), .second, .unset, .unset, .unset, .unset, .unset, .unset] [(.long (q2 &&& (q1 ^^^ (-1 : Int64))))])) _
            refine XS.goto X95.here hx rfl (pc0 := 79) (pc' := 87) rfl (hb hby at_79) (by decide) (by decide) ?_
            show Steps p.tables e below (T95.setTop (mkF m 87 #[.val (.long q1), .second, .val (.long q2), .second, .val (.long q3), .second, .val (.long q4), .second, .val (.int p5), .val (.ref wW), .val (.ref wW), .val (.long q1), .second, .val (.long (q2 &&& (q1 ^^^ (-1 : Int64)))), .second, .val (.long q1), .second, .unset, .unset, .unset, .unset, .unset, .unset] [(.long (q2 &&& (q1 ^^^ (-1 : Int64))))])) _
            refine XS.lload X95.here hx rfl (hb hby at_87) rfl ?_
            show Steps p.tables e below (T95.setTop (mkF m 89 #[.val (.long q1), .second, .val (.long q2), .second, .val (.long q3), .second, .val (.long q4), .second, .val (.int p5), .val (.ref wW), .val (.ref wW), .val (.long q1), .second, .val (.long (q2 &&& (q1 ^^^ (-1 : Int64)))), .second, .val (.long q1), .second, .unset, .unset, .unset, .unset, .unset, .unset] [(.long q1), (.long (q2 &&& (q1 ^^^ (-1 : Int64))))])) _
            refine X95.ldc2Long hx hown (mvT hZ (hw _ (List.mem_of_getElem? (i := 3) rfl))) (g := (mkF m 89 #[.val (.long q1), .second, .val (.long q2), .second, .val (.long q3), .second, .val (.long q4), .second, .val (.int p5), .val (.ref wW), .val (.ref wW), .val (.long q1), .second, .val (.long (q2 &&& (q1 ^^^ (-1 : Int64)))), .second, .val (.long q1), .second, .unset, .unset, .unset, .unset, .unset, .unset] [(.long q1), (.long (q2 &&& (q1 ^^^ (-1 : Int64))))])) rfl (hb hby at_89) _ ?_
            show Steps p.tables e below (T95.setTop (mkF m 92 #[.val (.long q1), .second, .val (.long q2), .second, .val (.long q3), .second, .val (.long q4), .second, .val (.int p5), .val (.ref wW), .val (.ref wW), .val (.long q1), .second, .val (.long (q2 &&& (q1 ^^^ (-1 : Int64)))), .second, .val (.long q1), .second, .unset, .unset, .unset, .unset, .unset, .unset] [(.long (-1 : Int64)), (.long q1), (.long (q2 &&& (q1 ^^^ (-1 : Int64))))])) _
            refine XS.lxor X95.here hx rfl (hb hby at_92) rfl ?_
            show Steps p.tables e below (T95.setTop (mkF m 93 #[.val (.long q1), .second, .val (.long q2), .second, .val (.long q3), .second, .val (.long q4), .second, .val (.int p5), .val (.ref wW), .val (.ref wW), .val (.long q1), .second, .val (.long (q2 &&& (q1 ^^^ (-1 : Int64)))), .second, .val (.long q1), .second, .unset, .unset, .unset, .unset, .unset, .unset] [(.long (q1 ^^^ (-1 : Int64))), (.long (q2 &&& (q1 ^^^ (-1 : Int64))))])) _
            refine XS.land X95.here hx rfl (hb hby at_93) rfl ?_
            show Steps p.tables e below (T95.setTop (mkF m 94 #[.val (.long q1), .second, .val (.long q2), .second, .val (.long q3), .second, .val (.long q4), .second, .val (.int p5), .val (.ref wW), .val (.ref wW), .val (.long q1), .second, .val (.long (q2 &&& (q1 ^^^ (-1 : Int64)))), .second, .val (.long q1), .second, .unset, .unset, .unset, .unset, .unset, .unset] [(.long ((q2 &&& (q1 ^^^ (-1 : Int64))) &&& (q1 ^^^ (-1 : Int64))))])) _
            refine XS.lstore X95.here hx rfl (hb hby at_94) rfl (l' := #[.val (.long q1), .second, .val (.long q2), .second, .val (.long q3), .second, .val (.long q4), .second, .val (.int p5), .val (.ref wW), .val (.ref wW), .val (.long q1), .second, .val (.long (q2 &&& (q1 ^^^ (-1 : Int64)))), .second, .val (.long q1), .second, .val (.long ((q2 &&& (q1 ^^^ (-1 : Int64))) &&& (q1 ^^^ (-1 : Int64)))), .second, .unset, .unset, .unset, .unset]) rfl ?_
            exact k
          obtain ⟨s₂, o, st250, g1, g2, v, L, ho, ⟨hv, hN⟩, hfe⟩ := pc0_96_0 q1 q2 q3 q4 p5 wW wW q1 (q2 &&& (q1 ^^^ (-1 : Int64))) q1 ((q2 &&& (q1 ^^^ (-1 : Int64))) &&& (q1 ^^^ (-1 : Int64))) wB wW X95 hx hZ hw hby hml hown hret hlocks e95 N0 Z0 O0 hS0 (own_disj _ _) (own_disj _ _) E_wW E_wW S_wB S_wW
          exact ⟨s₂, o, pre249 _ st250, g1, g2, v, L, ho, ⟨(by rw [F0, if_pos hc88, if_pos hc93, if_neg hc98, if_neg hc244]; exact hv), hN⟩, hfe⟩
    · have pre251 : ∀ t, Steps p.tables e below (T90.setTop (mkF m 25 #[.val (.long q1), .second, .val (.long q2), .second, .val (.long q3), .second, .val (.long q4), .second, .val (.int p5), .val (.ref wW), .unset, .unset, .unset, .unset, .unset, .unset, .unset, .unset, .unset, .unset, .unset, .unset, .unset] [])) t → Steps p.tables e below (s₁.setTop (entryFrame m #[(.long q1), (.long q2), (.long q3), (.long q4), (.int p5)] maxLocals)) t := by
        intro t k
        refine pre92 _ ?_
        show Steps p.tables e below (T90.setTop (mkF m 22 #[.val (.long q1), .second, .val (.long q2), .second, .val (.long q3), .second, .val (.long q4), .second, .val (.int p5), .val (.ref wW), .unset, .unset, .unset, .unset, .unset, .unset, .unset, .unset, .unset, .unset, .unset, .unset, .unset] [(.int (p5 &&& (2 : Int32)))])) _
        refine XS.ifNo X90.here hx rfl (hb hby at_22) rfl ((if0 _ _).trans (feq hc93).1) ?_
        exact k
      obtain ⟨T252, X252, e252, st252⟩ := getS2 X90 hx hZ hown (host := "") (Or.inl (hw _ (List.mem_of_getElem? (i := 0) rfl))) Via.refl e90 (S_wB.ext O0.2) (g := (mkF m 25 #[.val (.long q1), .second, .val (.long q2), .second, .val (.long q3), .second, .val (.long q4), .second, .val (.int p5), .val (.ref wW), .unset, .unset, .unset, .unset, .unset, .unset, .unset, .unset, .unset, .unset, .unset, .unset, .unset] [])) rfl (hb hby at_25)
      have pre253 : ∀ t, Steps p.tables e below (T252.setTop (mkF m 28 #[.val (.long q1), .second, .val (.long q2), .second, .val (.long q3), .second, .val (.long q4), .second, .val (.int p5), .val (.ref wW), .unset, .unset, .unset, .unset, .unset, .unset, .unset, .unset, .unset, .unset, .unset, .unset, .unset] [(.ref wB)])) t → Steps p.tables e below (s₁.setTop (entryFrame m #[(.long q1), (.long q2), (.long q3), (.long q4), (.int p5)] maxLocals)) t := by
        intro t k
        refine pre251 _ ?_
        show Steps p.tables e below (T90.setTop (mkF m 25 #[.val (.long q1), .second, .val (.long q2), .second, .val (.long q3), .second, .val (.long q4), .second, .val (.int p5), .val (.ref wW), .unset, .unset, .unset, .unset, .unset, .unset, .unset, .unset, .unset, .unset, .unset, .unset, .unset] [])) _
        refine st252 _ ?_
        exact k
      have pre254 : ∀ t, Steps p.tables e below (T252.setTop (mkF m 54 #[.val (.long q1), .second, .val (.long q2), .second, .val (.long q3), .second, .val (.long q4), .second, .val (.int p5), .val (.ref wW), .val (.ref wB), .val (.long q1), .second, .val (.long (q2 &&& (q1 ^^^ (-1 : Int64)))), .second, .unset, .unset, .unset, .unset, .unset, .unset, .unset, .unset] [(.int (p5 &&& (16 : Int32)))])) t → Steps p.tables e below (s₁.setTop (entryFrame m #[(.long q1), (.long q2), (.long q3), (.long q4), (.int p5)] maxLocals)) t := by
        intro t k
        refine pre253 _ ?_
        show Steps p.tables e below (T252.setTop (mkF m 28 #[.val (.long q1), .second, .val (.long q2), .second, .val (.long q3), .second, .val (.long q4), .second, .val (.int p5), .val (.ref wW), .unset, .unset, .unset, .unset, .unset, .unset, .unset, .unset, .unset, .unset, .unset, .unset, .unset] [(.ref wB)])) _
        refine XS.goto X252.here hx rfl (pc0 := 28) (pc' := 34) rfl (hb hby at_28) (by decide) (by decide) ?_
        show Steps p.tables e below (T252.setTop (mkF m 34 #[.val (.long q1), .second, .val (.long q2), .second, .val (.long q3), .second, .val (.long q4), .second, .val (.int p5), .val (.ref wW), .unset, .unset, .unset, .unset, .unset, .unset, .unset, .unset, .unset, .unset, .unset, .unset, .unset] [(.ref wB)])) _
        refine XS.astore X252.here hx rfl (hb hby at_34) rfl rfl (l' := #[.val (.long q1), .second, .val (.long q2), .second, .val (.long q3), .second, .val (.long q4), .second, .val (.int p5), .val (.ref wW), .val (.ref wB), .unset, .unset, .unset, .unset, .unset, .unset, .unset, .unset, .unset, .unset, .unset, .unset]) rfl ?_
        show Steps p.tables e below (T252.setTop (mkF m 36 #[.val (.long q1), .second, .val (.long q2), .second, .val (.long q3), .second, .val (.long q4), .second, .val (.int p5), .val (.ref wW), .val (.ref wB), .unset, .unset, .unset, .unset, .unset, .unset, .unset, .unset, .unset, .unset, .unset, .unset] [])) _
        refine XS.lloadN X252.here hx rfl (hb hby at_36) rfl ?_
        show Steps p.tables e below (T252.setTop (mkF m 37 #[.val (.long q1), .second, .val (.long q2), .second, .val (.long q3), .second, .val (.long q4), .second, .val (.int p5), .val (.ref wW), .val (.ref wB), .unset, .unset, .unset, .unset, .unset, .unset, .unset, .unset, .unset, .unset, .unset, .unset] [(.long q1)])) _
        refine XS.lstore X252.here hx rfl (hb hby at_37) rfl (l' := #[.val (.long q1), .second, .val (.long q2), .second, .val (.long q3), .second, .val (.long q4), .second, .val (.int p5), .val (.ref wW), .val (.ref wB), .val (.long q1), .second, .unset, .unset, .unset, .unset, .unset, .unset, .unset, .unset, .unset, .unset]) rfl ?_
        show Steps p.tables e below (T252.setTop (mkF m 39 #[.val (.long q1), .second, .val (.long q2), .second, .val (.long q3), .second, .val (.long q4), .second, .val (.int p5), .val (.ref wW), .val (.ref wB), .val (.long q1), .second, .unset, .unset, .unset, .unset, .unset, .unset, .unset, .unset, .unset, .unset] [])) _
        refine XS.lloadN X252.here hx rfl (hb hby at_39) rfl ?_
        show Steps p.tables e below (T252.setTop (mkF m 40 #[.val (.long q1), .second, .val (.long q2), .second, .val (.long q3), .second, .val (.long q4), .second, .val (.int p5), .val (.ref wW), .val (.ref wB), .val (.long q1), .second, .unset, .unset, .unset, .unset, .unset, .unset, .unset, .unset, .unset, .unset] [(.long q2)])) _
        refine XS.lload X252.here hx rfl (hb hby at_40) rfl ?_
        show Steps p.tables e below (T252.setTop (mkF m 42 #[.val (.long q1), .second, .val (.long q2), .second, .val (.long q3), .second, .val (.long q4), .second, .val (.int p5), .val (.ref wW), .val (.ref wB), .val (.long q1), .second, .unset, .unset, .unset, .unset, .unset, .unset, .unset, .unset, .unset, .unset] [(.long q1), (.long q2)])) _
        refine X252.ldc2Long hx hown (mvT hZ (hw _ (List.mem_of_getElem? (i := 3) rfl))) (g := (mkF m 42 #[.val (.long q1), .second, .val (.long q2), .second, .val (.long q3), .second, .val (.long q4), .second, .val (.int p5), .val (.ref wW), .val (.ref wB), .val (.long q1), .second, .unset, .unset, .unset, .unset, .unset, .unset, .unset, .unset, .unset, .unset] [(.long q1), (.long q2)])) rfl (hb hby at_42) _ ?_
        show Steps p.tables e below (T252.setTop (mkF m 45 #[.val (.long q1), .second, .val (.long q2), .second, .val (.long q3), .second, .val (.long q4), .second, .val (.int p5), .val (.ref wW), .val (.ref wB), .val (.long q1), .second, .unset, .unset, .unset, .unset, .unset, .unset, .unset, .unset, .unset, .unset] [(.long (-1 : Int64)), (.long q1), (.long q2)])) _
        refine XS.lxor X252.here hx rfl (hb hby at_45) rfl ?_
        show Steps p.tables e below (T252.setTop (mkF m 46 #[.val (.long q1), .second, .val (.long q2), .second, .val (.long q3), .second, .val (.long q4), .second, .val (.int p5), .val (.ref wW), .val (.ref wB), .val (.long q1), .second, .unset, .unset, .unset, .unset, .unset, .unset, .unset, .unset, .unset, .unset] [(.long (q1 ^^^ (-1 : Int64))), (.long q2)])) _
        refine XS.land X252.here hx rfl (hb hby at_46) rfl ?_
        show Steps p.tables e below (T252.setTop (mkF m 47 #[.val (.long q1), .second, .val (.long q2), .second, .val (.long q3), .second, .val (.long q4), .second, .val (.int p5), .val (.ref wW), .val (.ref wB), .val (.long q1), .second, .unset, .unset, .unset, .unset, .unset, .unset, .unset, .unset, .unset, .unset] [(.long (q2 &&& (q1 ^^^ (-1 : Int64))))])) _
        refine XS.lstore X252.here hx rfl (hb hby at_47) rfl (l' := #[.val (.long q1), .second, .val (.long q2), .second, .val (.long q3), .second, .val (.long q4), .second, .val (.int p5), .val (.ref wW), .val (.ref wB), .val (.long q1), .second, .val (.long (q2 &&& (q1 ^^^ (-1 : Int64)))), .second, .unset, .unset, .unset, .unset, .unset, .unset, .unset, .unset]) rfl ?_
        show Steps p.tables e below (T252.setTop (mkF m 49 #[.val (.long q1), .second, .val (.long q2), .second, .val (.long q3), .second, .val (.long q4), .second, .val (.int p5), .val (.ref wW), .val (.ref wB), .val (.long q1), .second, .val (.long (q2 &&& (q1 ^^^ (-1 : Int64)))), .second, .unset, .unset, .unset, .unset, .unset, .unset, .unset, .unset] [])) _
        refine XS.iload X252.here hx rfl (hb hby at_49) rfl ?_
        show Steps p.tables e below (T252.setTop (mkF m 51 #[.val (.long q1), .second, .val (.long q2), .second, .val (.long q3), .second, .val (.long q4), .second, .val (.int p5), .val (.ref wW), .val (.ref wB), .val (.long q1), .second, .val (.long (q2 &&& (q1 ^^^ (-1 : Int64)))), .second, .unset, .unset, .unset, .unset, .unset, .unset, .unset, .unset] [(.int p5)])) _
        refine XS.bipush X252.here hx rfl (hb hby at_51) ?_
        show Steps p.tables e below (T252.setTop (mkF m 53 #[.val (.long q1), .second, .val (.long q2), .second, .val (.long q3), .second, .val (.long q4), .second, .val (.int p5), .val (.ref wW), .val (.ref wB), .val (.long q1), .second, .val (.long (q2 &&& (q1 ^^^ (-1 : Int64)))), .second, .unset, .unset, .unset, .unset, .unset, .unset, .unset, .unset] [(.int (16 : Int32)), (.int p5)])) _
        refine XS.iand X252.here hx rfl (hb hby at_53) rfl ?_
        exact k
      by_cases hc255 : (p5 &&& (16 : Int32)) = (0 : Int32)
      · have pre256 : ∀ t, Steps p.tables e below (T252.setTop (mkF m 62 #[.val (.long q1), .second, .val (.long q2), .second, .val (.long q3), .second, .val (.long q4), .second, .val (.int p5), .val (.ref wW), .val (.ref wB), .val (.long q1), .second, .val (.long (q2 &&& (q1 ^^^ (-1 : Int64)))), .second, .unset, .unset, .unset, .unset, .unset, .unset, .unset, .unset] [])) t → Steps p.tables e below (s₁.setTop (entryFrame m #[(.long q1), (.long q2), (.long q3), (.long q4), (.int p5)] maxLocals)) t := by
          intro t k
          refine pre254 _ ?_
          show Steps p.tables e below (T252.setTop (mkF m 54 #[.val (.long q1), .second, .val (.long q2), .second, .val (.long q3), .second, .val (.long q4), .second, .val (.int p5), .val (.ref wW), .val (.ref wB), .val (.long q1), .second, .val (.long (q2 &&& (q1 ^^^ (-1 : Int64)))), .second, .unset, .unset, .unset, .unset, .unset, .unset, .unset, .unset] [(.int (p5 &&& (16 : Int32)))])) _
          refine XS.ifYes X252.here hx rfl (pc0 := 54) (pc' := 62) rfl (hb hby at_54) rfl ((if0 _ _).trans (teq hc255).1) (by decide) (by decide) ?_
          exact k
        have pre257 : ∀ t, Steps p.tables e below (T252.setTop (mkF m 74 #[.val (.long q1), .second, .val (.long q2), .second, .val (.long q3), .second, .val (.long q4), .second, .val (.int p5), .val (.ref wW), .val (.ref wB), .val (.long q1), .second, .val (.long (q2 &&& (q1 ^^^ (-1 : Int64)))), .second, .val (.long (q1 ^^^ q3)), .second, .unset, .unset, .unset, .unset, .unset, .unset] [(.int (p5 &&& (32 : Int32)))])) t → Steps p.tables e below (s₁.setTop (entryFrame m #[(.long q1), (.long q2), (.long q3), (.long q4), (.int p5)] maxLocals)) t := by
          intro t k
          refine pre256 _ ?_
          show Steps p.tables e below (T252.setTop (mkF m 62 #[.val (.long q1), .second, .val (.long q2), .second, .val (.long q3), .second, .val (.long q4), .second, .val (.int p5), .val (.ref wW), .val (.ref wB), .val (.long q1), .second, .val (.long (q2 &&& (q1 ^^^ (-1 : Int64)))), .second, .unset, .unset, .unset, .unset, .unset, .unset, .unset, .unset] [])) _
          refine XS.lload X252.here hx rfl (hb hby at_62) rfl ?_
          show Steps p.tables e below (T252.setTop (mkF m 64 #[.val (.long q1), .second, .val (.long q2), .second, .val (.long q3), .second, .val (.long q4), .second, .val (.int p5), .val (.ref wW), .val (.ref wB), .val (.long q1), .second, .val (.long (q2 &&& (q1 ^^^ (-1 : Int64)))), .second, .unset, .unset, .unset, .unset, .unset, .unset, .unset, .unset] [(.long q1)])) _
          refine XS.lload X252.here hx rfl (hb hby at_64) rfl ?_
          show Steps p.tables e below (T252.setTop (mkF m 66 #[.val (.long q1), .second, .val (.long q2), .second, .val (.long q3), .second, .val (.long q4), .second, .val (.int p5), .val (.ref wW), .val (.ref wB), .val (.long q1), .second, .val (.long (q2 &&& (q1 ^^^ (-1 : Int64)))), .second, .unset, .unset, .unset, .unset, .unset, .unset, .unset, .unset] [(.long q3), (.long q1)])) _
          refine XS.lxor X252.here hx rfl (hb hby at_66) rfl ?_
          show Steps p.tables e below (T252.setTop (mkF m 67 #[.val (.long q1), .second, .val (.long q2), .second, .val (.long q3), .second, .val (.long q4), .second, .val (.int p5), .val (.ref wW), .val (.ref wB), .val (.long q1), .second, .val (.long (q2 &&& (q1 ^^^ (-1 : Int64)))), .second, .unset, .unset, .unset, .unset, .unset, .unset, .unset, .unset] [(.long (q1 ^^^ q3))])) _
          refine XS.lstore X252.here hx rfl (hb hby at_67) rfl (l' := #[.val (.long q1), .second, .val (.long q2), .second, .val (.long q3), .second, .val (.long q4), .second, .val (.int p5), .val (.ref wW), .val (.ref wB), .val (.long q1), .second, .val (.long (q2 &&& (q1 ^^^ (-1 : Int64)))), .second, .val (.long (q1 ^^^ q3)), .second, .unset, .unset, .unset, .unset, .unset, .unset]) rfl ?_
          show Steps p.tables e below (T252.setTop (mkF m 69 #[.val (.long q1), .second, .val (.long q2), .second, .val (.long q3), .second, .val (.long q4), .second, .val (.int p5), .val (.ref wW), .val (.ref wB), .val (.long q1), .second, .val (.long (q2 &&& (q1 ^^^ (-1 : Int64)))), .second, .val (.long (q1 ^^^ q3)), .second, .unset, .unset, .unset, .unset, .unset, .unset] [])) _
          refine XS.iload X252.here hx rfl (hb hby at_69) rfl ?_
          show Steps p.tables e below (T252.setTop (mkF m 71 #[.val (.long q1), .second, .val (.long q2), .second, .val (.long q3), .second, .val (.long q4), .second, .val (.int p5), .val (.ref wW), .val (.ref wB), .val (.long q1), .second, .val (.long (q2 &&& (q1 ^^^ (-1 : Int64)))), .second, .val (.long (q1 ^^^ q3)), .second, .unset, .unset, .unset, .unset, .unset, .unset] [(.int p5)])) _
          refine XS.bipush X252.here hx rfl (hb hby at_71) ?_
          show Steps p.tables e below (T252.setTop (mkF m 73 #[.val (.long q1), .second, .val (.long q2), .second, .val (.long q3), .second, .val (.long q4), .second, .val (.int p5), .val (.ref wW), .val (.ref wB), .val (.long q1), .second, .val (.long (q2 &&& (q1 ^^^ (-1 : Int64)))), .second, .val (.long (q1 ^^^ q3)), .second, .unset, .unset, .unset, .unset, .unset, .unset] [(.int (32 : Int32)), (.int p5)])) _
          refine XS.iand X252.here hx rfl (hb hby at_73) rfl ?_
          exact k
        by_cases hc258 : (p5 &&& (32 : Int32)) = (0 : Int32)
        · have pre259 : ∀ t, Steps p.tables e below (T252.setTop (mkF m 82 #[.val (.long q1), .second, .val (.long q2), .second, .val (.long q3), .second, .val (.long q4), .second, .val (.int p5), .val (.ref wW), .val (.ref wB), .val (.long q1), .second, .val (.long (q2 &&& (q1 ^^^ (-1 : Int64)))), .second, .val (.long (q1 ^^^ q3)), .second, .unset, .unset, .unset, .unset, .unset, .unset] [])) t → Steps p.tables e below (s₁.setTop (entryFrame m #[(.long q1), (.long q2), (.long q3), (.long q4), (.int p5)] maxLocals)) t := by
            intro t k
            refine pre257 _ ?_
            show Steps p.tables e below (T252.setTop (mkF m 74 #[.val (.long q1), .second, .val (.long q2), .second, .val (.long q3), .second, .val (.long q4), .second, .val (.int p5), .val (.ref wW), .val (.ref wB), .val (.long q1), .second, .val (.long (q2 &&& (q1 ^^^ (-1 : Int64)))), .second, .val (.long (q1 ^^^ q3)), .second, .unset, .unset, .unset, .unset, .unset, .unset] [(.int (p5 &&& (32 : Int32)))])) _
            refine XS.ifYes X252.here hx rfl (pc0 := 74) (pc' := 82) rfl (hb hby at_74) rfl ((if0 _ _).trans (teq hc258).1) (by decide) (by decide) ?_
            exact k
          have pre260 : ∀ t, Steps p.tables e below (T252.setTop (mkF m 96 #[.val (.long q1), .second, .val (.long q2), .second, .val (.long q3), .second, .val (.long q4), .second, .val (.int p5), .val (.ref wW), .val (.ref wB), .val (.long q1), .second, .val (.long (q2 &&& (q1 ^^^ (-1 : Int64)))), .second, .val (.long (q1 ^^^ q3)), .second, .val (.long (((q2 &&& (q1 ^^^ (-1 : Int64))) ^^^ q4) &&& ((q1 ^^^ q3) ^^^ (-1 : Int64)))), .second, .unset, .unset, .unset, .unset] [])) t → Steps p.tables e below (s₁.setTop (entryFrame m #[(.long q1), (.long q2), (.long q3), (.long q4), (.int p5)] maxLocals)) t := by
            intro t k
            refine pre259 _ ?_
            show Steps p.tables e below (T252.setTop (mkF m 82 #[.val (.long q1), .second, .val (.long q2), .second, .val (.long q3), .second, .val (.long q4), .second, .val (.int p5), .val (.ref wW), .val (.ref wB), .val (.long q1), .second, .val (.long (q2 &&& (q1 ^^^ (-1 : Int64)))), .second, .val (.long (q1 ^^^ q3)), .second, .unset, .unset, .unset, .unset, .unset, .unset] [])) _
            refine XS.lload X252.here hx rfl (hb hby at_82) rfl ?_
            show Steps p.tables e below (T252.setTop (mkF m 84 #[.val (.long q1), .second, .val (.long q2), .second, .val (.long q3), .second, .val (.long q4), .second, .val (.int p5), .val (.ref wW), .val (.ref wB), .val (.long q1), .second, .val (.long (q2 &&& (q1 ^^^ (-1 : Int64)))), .second, .val (.long (q1 ^^^ q3)), .second, .unset, .unset, .unset, .unset, .unset, .unset] [(.long (q2 &&& (q1 ^^^ (-1 : Int64))))])) _
            refine XS.lload X252.here hx rfl (hb hby at_84) rfl ?_
            show Steps p.tables e below (T252.setTop (mkF m 86 #[.val (.long q1), .second, .val (.long q2), .second, .val (.long q3), .second, .val (.long q4), .second, .val (.int p5), .val (.ref wW), .val (.ref wB), .val (.long q1), .second, .val (.long (q2 &&& (q1 ^^^ (-1 : Int64)))), .second, .val (.long (q1 ^^^ q3)), .second, .unset, .unset, .unset, .unset, .unset, .unset] [(.long q4), (.long (q2 &&& (q1 ^^^ (-1 : Int64))))])) _
            refine XS.lxor X252.here hx rfl (hb hby at_86) rfl ?_
            show Steps p.tables e below (T252.setTop (mkF m 87 #[.val (.long q1), .second, .val (.long q2), .second, .val (.long q3), .second, .val (.long q4), .second, .val (.int p5), .val (.ref wW), .val (.ref wB), .val (.long q1), .second, .val (.long (q2 &&& (q1 ^^^ (-1 : Int64)))), .second, .val (.long (q1 ^^^ q3)), .second, .unset, .unset, .unset, .unset, .unset, .unset] [(.long ((q2 &&& (q1 ^^^ (-1 : Int64))) ^^^ q4))])) _
            refine XS.lload X252.here hx rfl (hb hby at_87) rfl ?_
            show Steps p.tables e below (T252.setTop (mkF m 89 #[.val (.long q1), .second, .val (.long q2), .second, .val (.long q3), .second, .val (.long q4), .second, .val (.int p5), .val (.ref wW), .val (.ref wB), .val (.long q1), .second, .val (.long (q2 &&& (q1 ^^^ (-1 : Int64)))), .second, .val (.long (q1 ^^^ q3)), .second, .unset, .unset, .unset, .unset, .unset, .unset] [(.long (q1 ^^^ q3)), (.long ((q2 &&& (q1 ^^^ (-1 : Int64))) ^^^ q4))])) _
            refine X252.ldc2Long hx hown (mvT hZ (hw _ (List.mem_of_getElem? (i := 3) rfl))) (g := (mkF m 89 #[.val (.long q1), .second, .val (.long q2), .second, .val (.long q3), .second, .val (.long q4), .second, .val (.int p5), .val (.ref wW), .val (.ref wB), .val (.long q1), .second, .val (.long (q2 &&& (q1 ^^^ (-1 : Int64)))), .second, .val (.long (q1 ^^^ q3)), .second, .unset, .unset, .unset, .unset, .unset, .unset] [(.long (q1 ^^^ q3)), (.long ((q2 &&& (q1 ^^^ (-1 : Int64))) ^^^ q4))])) rfl (hb hby at_89) _ ?_
            show Steps p.tables e below (T252.setTop (mkF m 92 #[.val (.long q1), .second, .val (.long q2), .second, .val (.long q3), .second, .val (.long q4), .second, .val (.int p5), .val (.ref wW), .val (.ref wB), .val (.long q1), .second, .val (.long (q2 &&& (q1 ^^^ (-1 : Int64)))), .second, .val (.long (q1 ^^^ q3)), .second, .unset, .unset, .unset, .unset, .unset, .unset] [(.long (-1 : Int64)), (.long (q1 ^^^ q3)), (.long ((q2 &&& (q1 ^^^ (-1 : Int64))) ^^^ q4))])) _
            refine XS.lxor X252.here hx rfl (hb hby at_92) rfl ?_
            show Steps p.tables e below (T252.setTop (mkF m 93 #[.val (.long q1), .second, .val (.long q2), .second, .val (.long q3), .second, .val (.long q4), .second, .val (.int p5), .val (.ref wW), .val (.ref wB), .val (.long q1), .second, .val (.long (q2 &&& (q1 ^^^ (-1 : Int64)))), .second, .val (.long (q1 ^^^ q3)), .second, .unset, .unset, .unset, .unset, .unset, .unset] [(.long ((q1 ^^^ q3) ^^^ (-1 : Int64))), (.long ((q2 &&& (q1 ^^^ (-1 : Int64))) ^^^ q4))])) _
            refine XS.land X252.here hx rfl (hb hby at_93) rfl ?_
            show Steps p.tables e below (T252.setTop (mkF m 94 #[.val (.long q1), .second, .val (.long q2), .second, .val (.long q3), .second, .val (.long q4), .second, .val (.int p5), .val (.ref wW), .val (.ref wB), .val (.long q1), .second, .val (.long (q2 &&& (q1 ^^^ (-1 : Int64)))), .second, .val (.long (q1 ^^^ q3)), .second, .unset, .unset, .unset, .unset, .unset, .unset] [(.long (((q2 &&& (q1 ^^^ (-1 : Int64))) ^^^ q4) &&& ((q1 ^^^ q3) ^^^ (-1 : Int64))))])) _
            refine XS.lstore X252.here hx rfl (hb hby at_94) rfl (l' := #[.val (.long q1), .second, .val (.long q2), .second, .val (.long q3), .second, .val (.long q4), .second, .val (.int p5), .val (.ref wW), .val (.ref wB), .val (.long q1), .second, .val (.long (q2 &&& (q1 ^^^ (-1 : Int64)))), .second, .val (.long (q1 ^^^ q3)), .second, .val (.long (((q2 &&& (q1 ^^^ (-1 : Int64))) ^^^ q4) &&& ((q1 ^^^ q3) ^^^ (-1 : Int64)))), .second, .unset, .unset, .unset, .unset]) rfl ?_
            exact k
          obtain ⟨s₂, o, st261, g1, g2, v, L, ho, ⟨hv, hN⟩, hfe⟩ := pc0_96_0 q1 q2 q3 q4 p5 wW wB q1 (q2 &&& (q1 ^^^ (-1 : Int64))) (q1 ^^^ q3) (((q2 &&& (q1 ^^^ (-1 : Int64))) ^^^ q4) &&& ((q1 ^^^ q3) ^^^ (-1 : Int64))) wB wW X252 hx hZ hw hby hml hown hret hlocks e252 N0 Z0 O0 hS0 (own_disj _ _) (own_disj _ _) E_wW E_wB S_wB S_wW
          exact ⟨s₂, o, pre260 _ st261, g1, g2, v, L, ho, ⟨(by rw [F0, if_pos hc88, if_neg hc93, if_pos hc255, if_pos hc258]; exact hv), hN⟩, hfe⟩
        · have pre262 : ∀ t, Steps p.tables e below (T252.setTop (mkF m 77 #[.val (.long q1), .second, .val (.long q2), .second, .val (.long q3), .second, .val (.long q4), .second, .val (.int p5), .val (.ref wW), .val (.ref wB), .val (.long q1), .second, .val (.long (q2 &&& (q1 ^^^ (-1 : Int64)))), .second, .val (.long (q1 ^^^ q3)), .second, .unset, .unset, .unset, .unset, .unset, .unset] [])) t → Steps p.tables e below (s₁.setTop (entryFrame m #[(.long q1), (.long q2), (.long q3), (.long q4), (.int p5)] maxLocals)) t := by
            intro t k
            refine pre257 _ ?_
            show Steps p.tables e below (T252.setTop (mkF m 74 #[.val (.long q1), .second, .val (.long q2), .second, .val (.long q3), .second, .val (.long q4), .second, .val (.int p5), .val (.ref wW), .val (.ref wB), .val (.long q1), .second, .val (.long (q2 &&& (q1 ^^^ (-1 : Int64)))), .second, .val (.long (q1 ^^^ q3)), .second, .unset, .unset, .unset, .unset, .unset, .unset] [(.int (p5 &&& (32 : Int32)))])) _
            refine XS.ifNo X252.here hx rfl (hb hby at_74) rfl ((if0 _ _).trans (feq hc258).1) ?_
            exact k
          have pre263 : ∀ t, Steps p.tables e below (T252.setTop (mkF m 96 #[.val (.long q1), .second, .val (.long q2), .second, .val (.long q3), .second, .val (.long q4), .second, .val (.int p5), .val (.ref wW), .val (.ref wB), .val (.long q1), .second, .val (.long (q2 &&& (q1 ^^^ (-1 : Int64)))), .second, .val (.long (q1 ^^^ q3)), .second, .val (.long ((q2 &&& (q1 ^^^ (-1 : Int64))) &&& ((q1 ^^^ q3) ^^^ (-1 : Int64)))), .second, .unset, .unset, .unset, .unset] [])) t → Steps p.tables e below (s₁.setTop (entryFrame m #[(.long q1), (.long q2), (.long q3), (.long q4), (.int p5)] maxLocals)) t := by
            intro t k
            refine pre262 _ ?_
            show Steps p.tables e below (T252.setTop (mkF m 77 #[.val (.long q1), .second, .val (.long q2), .second, .val (.long q3), .second, .val (.long q4), .second, .val (.int p5), .val (.ref wW), .val (.ref wB), .val (.long q1), .second, .val (.long (q2 &&& (q1 ^^^ (-1 : Int64)))), .second, .val (.long (q1 ^^^ q3)), .second, .unset, .unset, .unset, .unset, .unset, .unset] [])) _
            refine XS.lload X252.here hx rfl (hb hby at_77) rfl ?_
            show Steps p.tables e below (T252.setTop (mkF m 79 #[.val (.long q1), .second, .val (.long q2), .second, .val (.long q3), .second, .val (.long q4), .second, .val (.int p5), .val (.ref wW), .val (.ref wB), .val (.long q1), .second, .val (.long (q2 &&& (q1 ^^^ (-1 : Int64)))), .second, .val (.long (q1 ^^^ q3)), .second, .unset, .unset, .unset, .unset, .unset, .unset] [(.long (q2 &&& (q1 ^^^ (-1 : Int64))))])) _
            refine XS.goto X252.here hx rfl (pc0 := 79) (pc' := 87) rfl (hb hby at_79) (by decide) (by decide) ?_
            show Steps p.tables e below (T252.setTop (mkF m 87 #[.val (.long q1), .second, .val (.long q2), .second, .val (.long q3), .second, .val (.long q4), .second, .val (.int p5), .val (.ref wW), .val (.ref wB), .val (.long q1), .second, .val (.long (q2 &&& (q1 ^^^ (-1 : Int64)))), .second, .val (.long (q1 ^^^ q3)), .second, .unset, .unset, .unset, .unset, .unset, .unset] [(.long (q2 &&& (q1 ^^^ (-1 : Int64))))])) _
            refine XS.lload X252.here hx rfl (hb hby at_87) rfl ?_
            show Steps p.tables e below (T252.setTop (mkF m 89 #[.val (.long q1), .second, .val (.long q2), .second, .val (.long q3), .second, .val (.long q4), .second, .val (.int p5), .val (.ref wW), .val (.ref wB), .val (.long q1), .second, .val (.long (q2 &&& (q1 ^^^ (-1 : Int64)))), .second, .val (.long (q1 ^^^ q3)), .second, .unset, .unset, .unset, .unset, .unset, .unset] [(.long (q1 ^^^ q3)), (.long (q2 &&& (q1 ^^^ (-1 : Int64))))])) _
            refine X252.ldc2Long hx hown (mvT hZ (hw _ (List.mem_of_getElem? (i := 3) rfl))) (g := (mkF m 89 #[.val (.long q1), .second, .val (.long q2), .second, .val (.long q3), .second, .val (.long q4), .second, .val (.int p5), .val (.ref wW), .val (.ref wB), .val (.long q1), .second, .val (.long (q2 &&& (q1 ^^^ (-1 : Int64)))), .second, .val (.long (q1 ^^^ q3)), .second, .unset, .unset, .unset, .unset, .unset, .unset] [(.long (q1 ^^^ q3)), (.long (q2 &&& (q1 ^^^ (-1 : Int64))))])) rfl (hb hby at_89) _ ?_
            show Steps p.tables e below (T252.setTop (mkF m 92 #[.val (.long q1), .second, .val (.long q2), .second, .val (.long q3), .second, .val (.long q4), .second, .val (.int p5), .val (.ref wW), .val (.ref wB), .val (.long q1), .second, .val (.long (q2 &&& (q1 ^^^ (-1 : Int64)))), .second, .val (.long (q1 ^^^ q3)), .second, .unset, .unset, .unset, .unset, .unset, .unset] [(.long (-1 : Int64)), (.long (q1 ^^^ q3)), (.long (q2 &&& (q1 ^^^ (-1 : Int64))))])) _
            refine XS.lxor X252.here hx rfl (hb hby at_92) rfl ?_
            show Steps p.tables e below (T252.setTop (mkF m 93 #[.val (.long q1), .second, .val (.long q2), .second, .val (.long q3), .second, .val (.long q4), .second, .val (.int p5), .val (.ref wW), .val (.ref wB), .val (.long q1), .second, .val (.long (q2 &&& (q1 ^^^ (-1 : Int64)))), .second, .val (.long (q1 ^^^ q3)), .second, .unset, .unset, .unset, .unset, .unset, .unset] [(.long ((q1 ^^^ q3) ^^^ (-1 : Int64))), (.long (q2 &&& (q1 ^^^ (-1 : Int64))))])) _
            refine XS.land X252.here hx rfl (hb hby at_93) rfl ?_
            show Steps p.tables e below (T252.setTop (mkF m 94 #[.val (.long q1), .second, .val (.long q2), .second, .val (.long q3), .second, .val (.long q4), .second, .val (.int p5), .val (.ref wW), .val (.ref wB), .val (.long q1), .second, .val (.long (q2 &&& (q1 ^^^ (-1 : Int64)))), .second, .val (.long (q1 ^^^ q3)), .second, .unset, .unset, .unset, .unset, .unset, .unset] [(.long ((q2 &&& (q1 ^^^ (-1 : Int64))) &&& ((q1 ^^^ q3) ^^^ (-1 : Int64))))])) _
            refine XS.lstore X252.here hx rfl (hb hby at_94) rfl (l' := #[.val (.long q1), .second, .val (.long q2), .second, .val (.long q3), .second, .val (.long q4), .second, .val (.int p5), .val (.ref wW), .val (.ref wB), .val (.long q1), .second, .val (.long (q2 &&& (q1 ^^^ (-1 : Int64)))), .second, .val (.long (q1 ^^^ q3)), .second, .val (.long ((q2 &&& (q1 ^^^ (-1 : Int64))) &&& ((q1 ^^^ q3) ^^^ (-1 : Int64)))), .second, .unset, .unset, .unset, .unset]) rfl ?_
            exact k
          obtain ⟨s₂, o, st264, g1, g2, v, L, ho, ⟨hv, hN⟩, hfe⟩ := pc0_96_0 q1 q2 q3 q4 p5 wW wB q1 (q2 &&& (q1 ^^^ (-1 : Int64))) (q1 ^^^ q3) ((q2 &&& (q1 ^^^ (-1 : Int64))) &&& ((q1 ^^^ q3) ^^^ (-1 : Int64))) wB wW X252 hx hZ hw hby hml hown hret hlocks e252 N0 Z0 O0 hS0 (own_disj _ _) (own_disj _ _) E_wW E_wB S_wB S_wW
          exact ⟨s₂, o, pre263 _ st264, g1, g2, v, L, ho, ⟨(by rw [F0, if_pos hc88, if_neg hc93, if_pos hc255, if_neg hc258]; exact hv), hN⟩, hfe⟩
      · have pre265 : ∀ t, Steps p.tables e below (T252.setTop (mkF m 57 #[.val (.long q1), .second, .val (.long q2), .second, .val (.long q3), .second, .val (.long q4), .second, .val (.int p5), .val (.ref wW), .val (.ref wB), .val (.long q1), .second, .val (.long (q2 &&& (q1 ^^^ (-1 : Int64)))), .second, .unset, .unset, .unset, .unset, .unset, .unset, .unset, .unset] [])) t → Steps p.tables e below (s₁.setTop (entryFrame m #[(.long q1), (.long q2), (.long q3), (.long q4), (.int p5)] maxLocals)) t := by
          intro t k
          refine pre254 _ ?_
          show Steps p.tables e below (T252.setTop (mkF m 54 #[.val (.long q1), .second, .val (.long q2), .second, .val (.long q3), .second, .val (.long q4), .second, .val (.int p5), .val (.ref wW), .val (.ref wB), .val (.long q1), .second, .val (.long (q2 &&& (q1 ^^^ (-1 : Int64)))), .second, .unset, .unset, .unset, .unset, .unset, .unset, .unset, .unset] [(.int (p5 &&& (16 : Int32)))])) _
          refine XS.ifNo X252.here hx rfl (hb hby at_54) rfl ((if0 _ _).trans (feq hc255).1) ?_
          exact k
        have pre266 : ∀ t, Steps p.tables e below (T252.setTop (mkF m 74 #[.val (.long q1), .second, .val (.long q2), .second, .val (.long q3), .second, .val (.long q4), .second, .val (.int p5), .val (.ref wW), .val (.ref wB), .val (.long q1), .second, .val (.long (q2 &&& (q1 ^^^ (-1 : Int64)))), .second, .val (.long q1), .second, .unset, .unset, .unset, .unset, .unset, .unset] [(.int (p5 &&& (32 : Int32)))])) t → Steps p.tables e below (s₁.setTop (entryFrame m #[(.long q1), (.long q2), (.long q3), (.long q4), (.int p5)] maxLocals)) t := by
          intro t k
          refine pre265 _ ?_
          show Steps p.tables e below (T252.setTop (mkF m 57 #[.val (.long q1), .second, .val (.long q2), .second, .val (.long q3), .second, .val (.long q4), .second, .val (.int p5), .val (.ref wW), .val (.ref wB), .val (.long q1), .second, .val (.long (q2 &&& (q1 ^^^ (-1 : Int64)))), .second, .unset, .unset, .unset, .unset, .unset, .unset, .unset, .unset] [])) _
          refine XS.lload X252.here hx rfl (hb hby at_57) rfl ?_
          show Steps p.tables e below (T252.setTop (mkF m 59 #[.val (.long q1), .second, .val (.long q2), .second, .val (.long q3), .second, .val (.long q4), .second, .val (.int p5), .val (.ref wW), .val (.ref wB), .val (.long q1), .second, .val (.long (q2 &&& (q1 ^^^ (-1 : Int64)))), .second, .unset, .unset, .unset, .unset, .unset, .unset, .unset, .unset] [(.long q1)])) _
          refine XS.goto X252.here hx rfl (pc0 := 59) (pc' := 67) rfl (hb hby at_59) (by decide) (by decide) ?_
          show Steps p.tables e below (T252.setTop (mkF m 67 #[.val (.long q1), .second, .val (.long q2), .second, .val (.long q3), .second, .val (.long q4), .second, .val (.int p5), .val (.ref wW), .val (.ref wB), .val (.long q1), .second, .val (.long (q2 &&& (q1 ^^^ (-1 : Int64)))), .second, .unset, .unset, .unset, .unset, .unset, .unset, .unset, .unset] [(.long q1)])) _
          refine XS.lstore X252.here hx rfl (hb hby at_67) rfl (l' := #[.val (.long q1), .second, .val (.long q2), .second, .val (.long q3), .second, .val (.long q4), .second, .val (.int p5), .val (.ref wW), .val (.ref wB), .val (.long q1), .second, .val (.long (q2 &&& (q1 ^^^ (-1 : Int64)))), .second, .val (.long q1), .second, .unset, .unset, .unset, .unset, .unset, .unset]) rfl ?_
          show Steps p.tables e below (T252.setTop (mkF m 69 #[.val (.long q1), .second, .val (.long q2), .second, .val (.long q3), .second, .val (.long q4), .second, .val (.int p5), .val (.ref wW), .val (.ref wB), .val (.long q1), .second, .val (.long (q2 &&& (q1 ^^^ (-1 : Int64)))), .second, .val (.long q1), .second, .unset, .unset, .unset, .unset, .unset, .unset] [])) _
          refine XS.iload X252.here hx rfl (hb hby at_69) rfl ?_
          show Steps p.tables e below (T252.setTop (mkF m 71 #[.val (.long q1), .second, .val (.long q2), .second, .val (.long q3), .second, .val (.long q4), .second, .val (.int p5), .val (.ref wW), .val (.ref wB), .val (.long q1), .second, .val (.long (q2 &&& (q1 ^^^ (-1 : Int64)))), .second, .val (.long q1), .second, .unset, .unset, .unset, .unset, .unset, .unset] [(.int p5)])) _
          refine XS.bipush X252.here hx rfl (hb hby at_71) ?_
          show Steps p.tables e below (T252.setTop (mkF m 73 #[.val (.long q1), .second, .val (.long q2), .second, .val (.long q3), .second, .val (.long q4), .second, .val (.int p5), .val (.ref wW), .val (.ref wB), .val (.long q1), .second, .val (.long (q2 &&& (q1 ^^^ (-1 : Int64)))), .second, .val (.long q1), .second, .unset, .unset, .unset, .unset, .unset, .unset] [(.int (32 : Int32)), (.int p5)])) _
          refine XS.iand X252.here hx rfl (hb hby at_73) rfl ?_
          exact k
        by_cases hc267 : (p5 &&& (32 : Int32)) = (0 : Int32)
        · have pre268 : ∀ t, Steps p.tables e below (T252.setTop (mkF m 82 #[.val (.long q1), .second, .val (.long q2), .second, .val (.long q3), .second, .val (.long q4), .second, .val (.int p5), .val (.ref wW), .val (.ref wB), .val (.long q1), .second, .val (.long (q2 &&& (q1 ^^^ (-1 : Int64)))), .second, .val (.long q1), .second, .unset, .unset, .unset, .unset, .unset, .unset] [])) t → Steps p.tables e below (s₁.setTop (entryFrame m #[(.long q1), (.long q2), (.long q3), (.long q4), (.int p5)] maxLocals)) t := by
            intro t k
            refine pre266 _ ?_
            show Steps p.tables e below (T252.setTop (mkF m 74 #[.val (.long q1), .second, .val (.long q2), .second, .val (.long q3), .second, .val (.long q4), .second, .val (.int p5), .val (.ref wW), .val (.ref wB), .val (.long q1), .second, .val (.long (q2 &&& (q1 ^^^ (-1 : Int64)))), .second, .val (.long q1), .second, .unset, .unset, .unset, .unset, .unset, .unset] [(.int (p5 &&& (32 : Int32)))])) _
            refine XS.ifYes X252.here hx rfl (pc0 := 74) (pc' := 82) rfl (hb hby at_74) rfl ((if0 _ _).trans (teq hc267).1) (by decide) (by decide) ?_
            exact k
          have pre269 : ∀ t, Steps p.tables e below (T252.setTop (mkF m 96 #[.val (.long q1), .second, .val (.long q2), .second, .val (.long q3), .second, .val (.long q4), .second, .val (.int p5), .val (.ref wW), .val (.ref wB), .val (.long q1), .second, .val (.long (q2 &&& (q1 ^^^ (-1 : Int64)))), .second, .val (.long q1), .second, .val (.long (((q2 &&& (q1 ^^^ (-1 : Int64))) ^^^ q4) &&& (q1 ^^^ (-1 : Int64)))), .second, .unset, .unset, .unset, .unset] [])) t → Steps p.tables e below (s₁.setTop (entryFrame m #[(.long q1), (.long q2), (.long q3), (.long q4), (.int p5)] maxLocals)) t := by
            intro t k
            refine pre268 _ ?_
            show Steps p.tables e below (T252.setTop (mkF m 82 #[.val (.long q1), .second, .val (.long q2), .second, .val (.long q3), .second, .val (.long q4), .second, .val (.int p5), .val (.ref wW), .val (.ref wB), .val (.long q1), .second, .val (.long (q2 &&& (q1 ^^^ (-1 : Int64)))), .second, .val (.long q1), .second, .unset, .unset, .unset, .unset, .unset, .unset] [])) _
            refine XS.lload X252.here hx rfl (hb hby at_82) rfl ?_
            show Steps p.tables e below (T252.setTop (mkF m 84 #[.val (.long q1), .second, .val (.long q2), .second, .val (.long q3), .second, .val (.long q4), .second, .val (.int p5), .val (.ref wW), .val (.ref wB), .val (.long q1), .second, .val (.long (q2 &&& (q1 ^^^ (-1 : Int64)))), .second, .val (.long q1), .second, .unset, .unset, .unset, .unset, .unset, .unset] [(.long (q2 &&& (q1 ^^^ (-1 : Int64))))])) _
            refine XS.lload X252.here hx rfl (hb hby at_84) rfl ?_
            show Steps p.tables e below (T252.setTop (mkF m 86 #[.val (.long q1), .second, .val (.long q2), .second, .val (.long q3), .second, .val (.long q4), .second, .val (.int p5), .val (.ref wW), .val (.ref wB), .val (.long q1), .second, .val (.long (q2 &&& (q1 ^^^ (-1 : Int64)))), .second, .val (.long q1), .second, .unset, .unset, .unset, .unset, .unset, .unset] [(.long q4), (.long (q2 &&& (q1 ^^^ (-1 : Int64))))])) _
            refine XS.lxor X252.here hx rfl (hb hby at_86) rfl ?_
            show Steps p.tables e below (T252.setTop (mkF m 87 #[.val (.long q1), .second, .val (.long q2), .second, .val (.long q3), .second, .val (.long q4), .second, .val (.int p5), .val (.ref wW), .val (.ref wB), .val (.long q1), .second, .val (.long (q2 &&& (q1 ^^^ (-1 : Int64)))), .second, .val (.long q1), .second, .unset, .unset, .unset, .unset, .unset, .unset] [(.long ((q2 &&& (q1 ^^^ (-1 : Int64))) ^^^ q4))])) _
            refine XS.lload X252.here hx rfl (hb hby at_87) rfl ?_
            show Steps p.tables e below (T252.setTop (mkF m 89 #[.val (.long q1), .second, .val (.long q2), .second, .val (.long q3), .second, .val (.long q4), .second, .val (.int p5), .val (.ref wW), .val (.ref wB), .val (.long q1), .second, .val (.long (q2 &&& (q1 ^^^ (-1 : Int64)))), .second, .val (.long q1), .second, .unset, .unset, .unset, .unset, .unset, .unset] [(.long q1), (.long ((q2 &&& (q1 ^^^ (-1 : Int64))) ^^^ q4))])) _
            refine X252.ldc2Long hx hown (mvT hZ (hw _ (List.mem_of_getElem? (i := 3) rfl))) (g := (mkF m 89 #[.val (.long q1), .second, .val (.long q2), .second, .val (.long q3), .second, .val (.long q4), .second, .val (.int p5), .val (.ref wW), .val (.ref wB), .val (.long q1), .second, .val (.long (q2 &&& (q1 ^^^ (-1 : Int64)))), .second, .val (.long q1), .second, .unset, .unset, .unset, .unset, .unset, .unset] [(.long q1), (.long ((q2 &&& (q1 ^^^ (-1 : Int64))) ^^^ q4))])) rfl (hb hby at_89) _ ?_
            show Steps p.tables e below (T252.setTop (mkF m 92 #[.val (.long q1), .second, .val (.long q2), .second, .val (.long q3), .second, .val (.long q4), .second, .val (.int p5), .val (.ref wW), .val (.ref wB), .val (.long q1), .second, .val (.long (q2 &&& (q1 ^^^ (-1 : Int64)))), .second, .val (.long q1), .second, .unset, .unset, .unset, .unset, .unset, .unset] [(.long (-1 : Int64)), (.long q1), (.long ((q2 &&& (q1 ^^^ (-1 : Int64))) ^^^ q4))])) _
            refine XS.lxor X252.here hx rfl (hb hby at_92) rfl ?_
            show Steps p.tables e below (T252.setTop (mkF m 93 #[.val (.long q1), .second, .val (.long q2), .second, .val (.long q3), .second, .val (.long q4), .second, .val (.int p5), .val (.ref wW), .val (.ref wB), .val (.long q1), .second, .val (.long (q2 &&& (q1 ^^^ (-1 : Int64)))), .second, .val (.long q1), .second, .unset, .unset, .unset, .unset, .unset, .unset] [(.long (q1 ^^^ (-1 : Int64))), (.long ((q2 &&& (q1 ^^^ (-1 : Int64))) ^^^ q4))])) _
            refine XS.land X252.here hx rfl (hb hby at_93) rfl ?_
            show Steps p.tables e below (T252.setTop (mkF m 94 #[.val (.long q1), .second, .val (.long q2), .second, .val (.long q3), .second, .val (.long q4), .second, .val (.int p5), .val (.ref wW), .val (.ref wB), .val (.long q1), .second, .val (.long (q2 &&& (q1 ^^^ (-1 : Int64)))), .second, .val (.long q1), .second, .unset, .unset, .unset, .unset, .unset, .unset] [(.long (((q2 &&& (q1 ^^^ (-1 : Int64))) ^^^ q4) &&& (q1 ^^^ (-1 : Int64))))])) _
            refine XS.lstore X252.here hx rfl (hb hby at_94) rfl (l' := #[.val (.long q1), .second, .val (.long q2), .second, .val (.long q3), .second, .val (.long q4), .second, .val (.int p5), .val (.ref wW), .val (.ref wB), .val (.long q1), .second, .val (.long (q2 &&& (q1 ^^^ (-1 : Int64)))), .second, .val (.long q1), .second, .val (.long (((q2 &&& (q1 ^^^ (-1 : Int64))) ^^^ q4) &&& (q1 ^^^ (-1 : Int64)))), .second, .unset, .unset, .unset, .unset]) rfl ?_
            exact k
          obtain ⟨s₂, o, st270, g1, g2, v, L, ho, ⟨hv, hN⟩, hfe⟩ := pc0_96_0 q1 q2 q3 q4 p5 wW wB q1 (q2 &&& (q1 ^^^ (-1 : Int64))) q1 (((q2 &&& (q1 ^^^ (-1 : Int64))) ^^^ q4) &&& (q1 ^^^ (-1 : Int64))) wB wW X252 hx hZ hw hby hml hown hret hlocks e252 N0 Z0 O0 hS0 (own_disj _ _) (own_disj _ _) E_wW E_wB S_wB S_wW
          exact ⟨s₂, o, pre269 _ st270, g1, g2, v, L, ho, ⟨(by rw [F0, if_pos hc88, if_neg hc93, if_neg hc255, if_pos hc267]; exact hv), hN⟩, hfe⟩
        · have pre271 : ∀ t, Steps p.tables e below (T252.setTop (mkF m 77 #[.val (.long q1), .second, .val (.long q2), .second, .val (.long q3), .second, .val (.long q4), .second, .val (.int p5), .val (.ref wW), .val (.ref wB), .val (.long q1), .second, .val (.long (q2 &&& (q1 ^^^ (-1 : Int64)))), .second, .val (.long q1), .second, .unset, .unset, .unset, .unset, .unset, .unset] [])) t → Steps p.tables e below (s₁.setTop (entryFrame m #[(.long q1), (.long q2), (.long q3), (.long q4), (.int p5)] maxLocals)) t := by
            intro t k
            refine pre266 _ ?_
            show Steps p.tables e below (T252.setTop (mkF m 74 #[.val (.long q1), .second, .val (.long q2), .second, .val (.long q3), .second, .val (.long q4), .second, .val (.int p5), .val (.ref wW), .val (.ref wB), .val (.long q1), .second, .val (.long (q2 &&& (q1 ^^^ (-1 : Int64)))), .second, .val (.long q1), .second, .unset, .unset, .unset, .unset, .unset, .unset] [(.int (p5 &&& (32 : Int32)))])) _
            refine XS.ifNo X252.here hx rfl (hb hby at_74) rfl ((if0 _ _).trans (feq hc267).1) ?_
            exact k
          have pre272 : ∀ t, Steps p.tables e below (T252.setTop (mkF m 96 #[.val (.long q1), .second, .val (.long q2), .second, .val (.long q3), .second, .val (.long q4), .second, .val (.int p5), .val (.ref wW), .val (.ref wB), .val (.long q1), .second, .val (.long (q2 &&& (q1 ^^^ (-1 : Int64)))), .second, .val (.long q1), .second, .val (.long ((q2 &&& (q1 ^^^ (-1 : Int64))) &&& (q1 ^^^ (-1 : Int64)))), .second, .unset, .unset, .unset, .unset] [])) t → Steps p.tables e below (s₁.setTop (entryFrame m #[(.long q1), (.long q2), (.long q3), (.long q4), (.int p5)] maxLocals)) t := by
            intro t k
            refine pre271 _ ?_
            show Steps p.tables e below (T252.setTop (mkF m 77 #[.val (.long q1), .second, .val (.long q2), .second, .val (.long q3), .second, .val (.long q4), .second, .val (.int p5), .val (.ref wW), .val (.ref wB), .val (.long q1), .second, .val (.long (q2 &&& (q1 ^^^ (-1 : Int64)))), .second, .val (.long q1), .second, .unset, .unset, .unset, .unset, .unset, .unset] [])) _
            refine XS.lload X252.here hx rfl (hb hby at_77) rfl ?_
            show Steps p.tables e below (T252.setTop (mkF m 79 #[.val (.long q1), .second, .val (.long q2), .second, .val (.long q3), .second, .val (.long q4), .second, .val (.int p5), .val (.ref wW), .val (.ref wB), .val (.long q1), .second, .val (.long (q2 &&& (q1 ^^^ (-1 : Int64)))), .second, .val (.long q1), .second, .unset, .unset, .unset, .unset, .unset, .unset] [(.long (q2 &&& (q1 ^^^ (-1 : Int64))))])) _
            refine XS.goto X252.here hx rfl (pc0 := 79) (pc' := 87) rfl (hb hby at_79) (by decide) (by decide) ?_
            show Steps p.tables e below (T252.setTop (mkF m 87 #[.val (.long q1), .second, .val (.long q2), .second, .val (.long q3), .second, .val (.long q4), .second, .val (.int p5), .val (.ref wW), .val (.ref wB), .val (.long q1), .second, .val (.long (q2 &&& (q1 ^^^ (-1 : Int64)))), .second, .val (.long q1), .second, .unset, .unset, .unset, .unset, .unset, .unset] [(.long (q2 &&& (q1 ^^^ (-1 : Int64))))])) _
            refine XS.lload X252.here hx rfl (hb hby at_87) rfl ?_
            show Steps p.tables e below (T252.setTop (mkF m 89 #[.val (.long q1), .second, .val (.long q2), .second, .val (.long q3), .second, .val (.long q4), .second, .val (.int p5), .val (.ref wW), .val (.ref wB), .val (.long q1), .second, .val (.long (q2 &&& (q1 ^^^ (-1 : Int64)))), .second, .val (.long q1), .second, .unset, .unset, .unset, .unset, .unset, .unset] [(.long q1), (.long (q2 &&& (q1 ^^^ (-1 : Int64))))])) _
            refine X252.ldc2Long hx hown (mvT hZ (hw _ (List.mem_of_getElem? (i := 3) rfl))) (g := (mkF m 89 #[.val (.long q1), .second, .val (.long q2), .second, .val (.long q3), .second, .val (.long q4), .second, .val (.int p5), .val (.ref wW), .val (.ref wB), .val (.long q1), .second, .val (.long (q2 &&& (q1 ^^^ (-1 : Int64)))), .second, .val (.long q1), .second, .unset, .unset, .unset, .unset, .unset, .unset] [(.long q1), (.long (q2 &&& (q1 ^^^ (-1 : Int64))))])) rfl (hb hby at_89) _ ?_
            show Steps p.tables e below (T252.setTop (mkF m 92 #[.val (.long q1), .second, .val (.long q2), .second, .val (.long q3), .second, .val (.long q4), .second, .val (.int p5), .val (.ref wW), .val (.ref wB), .val (.long q1), .second, .val (.long (q2 &&& (q1 ^^^ (-1 : Int64)))), .second, .val (.long q1), .second, .unset, .unset, .unset, .unset, .unset, .unset] [(.long (-1 : Int64)), (.long q1), (.long (q2 &&& (q1 ^^^ (-1 : Int64))))])) _
            refine XS.lxor X252.here hx rfl (hb hby at_92) rfl ?_
            show Steps p.tables e below (T252.setTop (mkF m 93 #[.val (.long q1), .second, .val (.long q2), .second, .val (.long q3), .second, .val (.long q4), .second, .val (.int p5), .val (.ref wW), .val (.ref wB), .val (.long q1), .second, .val (.long (q2 &&& (q1 ^^^ (-1 : Int64)))), .second, .val (.long q1), .second, .unset, .unset, .unset, .unset, .unset, .unset] [(.long (q1 ^^^ (-1 : Int64))), (.long (q2 &&& (q1 ^^^ (-1 : Int64))))])) _
            refine XS.land X252.here hx rfl (hb hby at_93) rfl ?_
            show Steps p.tables e below (T252.setTop (mkF m 94 #[.val (.long q1), .second, .val (.long q2), .second, .val (.long q3), .second, .val (.long q4), .second, .val (.int p5), .val (.ref wW), .val (.ref wB), .val (.long q1), .second, .val (.long (q2 &&& (q1 ^^^ (-1 : Int64)))), .second, .val (.long q1), .second, .unset, .unset, .unset, .unset, .unset, .unset] [(.long ((q2 &&& (q1 ^^^ (-1 : Int64))) &&& (q1 ^^^ (-1 : Int64))))])) _
            refine XS.lstore X252.here hx rfl (hb hby at_94) rfl (l' := #[.val (.long q1), .second, .val (.long q2), .second, .val (.long q3), .second, .val (.long q4), .second, .val (.int p5), .val (.ref wW), .val (.ref wB), .val (.long q1), .second, .val (.long (q2 &&& (q1 ^^^ (-1 : Int64)))), .second, .val (.long q1), .second, .val (.long ((q2 &&& (q1 ^^^ (-1 : Int64))) &&& (q1 ^^^ (-1 : Int64)))), .second, .unset, .unset, .unset, .unset]) rfl ?_
            exact k
          obtain ⟨s₂, o, st273, g1, g2, v, L, ho, ⟨hv, hN⟩, hfe⟩ := pc0_96_0 q1 q2 q3 q4 p5 wW wB q1 (q2 &&& (q1 ^^^ (-1 : Int64))) q1 ((q2 &&& (q1 ^^^ (-1 : Int64))) &&& (q1 ^^^ (-1 : Int64))) wB wW X252 hx hZ hw hby hml hown hret hlocks e252 N0 Z0 O0 hS0 (own_disj _ _) (own_disj _ _) E_wW E_wB S_wB S_wW
          exact ⟨s₂, o, pre272 _ st273, g1, g2, v, L, ho, ⟨(by rw [F0, if_pos hc88, if_neg hc93, if_neg hc255, if_neg hc267]; exact hv), hN⟩, hfe⟩
  · have pre274 : ∀ t, Steps p.tables e below (s₁.setTop (mkF m 7 #[.val (.long q1), .second, .val (.long q2), .second, .val (.long q3), .second, .val (.long q4), .second, .val (.int p5), .unset, .unset, .unset, .unset, .unset, .unset, .unset, .unset, .unset, .unset, .unset, .unset, .unset, .unset] [])) t → Steps p.tables e below (s₁.setTop (entryFrame m #[(.long q1), (.long q2), (.long q3), (.long q4), (.int p5)] maxLocals)) t := by
      intro t k
      refine pre87 _ ?_
      show Steps p.tables e below (s₁.setTop (mkF m 4 #[.val (.long q1), .second, .val (.long q2), .second, .val (.long q3), .second, .val (.long q4), .second, .val (.int p5), .unset, .unset, .unset, .unset, .unset, .unset, .unset, .unset, .unset, .unset, .unset, .unset, .unset, .unset] [(.int (p5 &&& (1 : Int32)))])) _
      refine XS.ifNo X0.here hx rfl (hb hby at_4) rfl ((if0 _ _).trans (feq hc88).1) ?_
      exact k
    obtain ⟨T275, X275, e275, st275⟩ := getS2 X0 hx hZ hown (host := "") (Or.inl (hw _ (List.mem_of_getElem? (i := 0) rfl))) Via.refl e0 (S_wB.ext O0.2) (g := (mkF m 7 #[.val (.long q1), .second, .val (.long q2), .second, .val (.long q3), .second, .val (.long q4), .second, .val (.int p5), .unset, .unset, .unset, .unset, .unset, .unset, .unset, .unset, .unset, .unset, .unset, .unset, .unset, .unset] [])) rfl (hb hby at_7)
    have pre276 : ∀ t, Steps p.tables e below (T275.setTop (mkF m 10 #[.val (.long q1), .second, .val (.long q2), .second, .val (.long q3), .second, .val (.long q4), .second, .val (.int p5), .unset, .unset, .unset, .unset, .unset, .unset, .unset, .unset, .unset, .unset, .unset, .unset, .unset, .unset] [(.ref wB)])) t → Steps p.tables e below (s₁.setTop (entryFrame m #[(.long q1), (.long q2), (.long q3), (.long q4), (.int p5)] maxLocals)) t := by
      intro t k
      refine pre274 _ ?_
      show Steps p.tables e below (s₁.setTop (mkF m 7 #[.val (.long q1), .second, .val (.long q2), .second, .val (.long q3), .second, .val (.long q4), .second, .val (.int p5), .unset, .unset, .unset, .unset, .unset, .unset, .unset, .unset, .unset, .unset, .unset, .unset, .unset, .unset] [])) _
      refine st275 _ ?_
      exact k
    have pre277 : ∀ t, Steps p.tables e below (T275.setTop (mkF m 22 #[.val (.long q1), .second, .val (.long q2), .second, .val (.long q3), .second, .val (.long q4), .second, .val (.int p5), .val (.ref wB), .unset, .unset, .unset, .unset, .unset, .unset, .unset, .unset, .unset, .unset, .unset, .unset, .unset] [(.int (p5 &&& (2 : Int32)))])) t → Steps p.tables e below (s₁.setTop (entryFrame m #[(.long q1), (.long q2), (.long q3), (.long q4), (.int p5)] maxLocals)) t := by
      intro t k
      refine pre276 _ ?_
      show Steps p.tables e below (T275.setTop (mkF m 10 #[.val (.long q1), .second, .val (.long q2), .second, .val (.long q3), .second, .val (.long q4), .second, .val (.int p5), .unset, .unset, .unset, .unset, .unset, .unset, .unset, .unset, .unset, .unset, .unset, .unset, .unset, .unset] [(.ref wB)])) _
      refine XS.goto X275.here hx rfl (pc0 := 10) (pc' := 16) rfl (hb hby at_10) (by decide) (by decide) ?_
      show Steps p.tables e below (T275.setTop (mkF m 16 #[.val (.long q1), .second, .val (.long q2), .second, .val (.long q3), .second, .val (.long q4), .second, .val (.int p5), .unset, .unset, .unset, .unset, .unset, .unset, .unset, .unset, .unset, .unset, .unset, .unset, .unset, .unset] [(.ref wB)])) _
      refine XS.astore X275.here hx rfl (hb hby at_16) rfl rfl (l' := #[.val (.long q1), .second, .val (.long q2), .second, .val (.long q3), .second, .val (.long q4), .second, .val (.int p5), .val (.ref wB), .unset, .unset, .unset, .unset, .unset, .unset, .unset, .unset, .unset, .unset, .unset, .unset, .unset]) rfl ?_
      show Steps p.tables e below (T275.setTop (mkF m 18 #[.val (.long q1), .second, .val (.long q2), .second, .val (.long q3), .second, .val (.long q4), .second, .val (.int p5), .val (.ref wB), .unset, .unset, .unset, .unset, .unset, .unset, .unset, .unset, .unset, .unset, .unset, .unset, .unset] [])) _
      refine XS.iload X275.here hx rfl (hb hby at_18) rfl ?_
      show Steps p.tables e below (T275.setTop (mkF m 20 #[.val (.long q1), .second, .val (.long q2), .second, .val (.long q3), .second, .val (.long q4), .second, .val (.int p5), .val (.ref wB), .unset, .unset, .unset, .unset, .unset, .unset, .unset, .unset, .unset, .unset, .unset, .unset, .unset] [(.int p5)])) _
      refine XS.iconst X275.here hx rfl (hb hby at_20) ?_
      show Steps p.tables e below (T275.setTop (mkF m 21 #[.val (.long q1), .second, .val (.long q2), .second, .val (.long q3), .second, .val (.long q4), .second, .val (.int p5), .val (.ref wB), .unset, .unset, .unset, .unset, .unset, .unset, .unset, .unset, .unset, .unset, .unset, .unset, .unset] [(.int (2 : Int32)), (.int p5)])) _
      refine XS.iand X275.here hx rfl (hb hby at_21) rfl ?_
      exact k
    by_cases hc278 : (p5 &&& (2 : Int32)) = (0 : Int32)
    · have pre279 : ∀ t, Steps p.tables e below (T275.setTop (mkF m 31 #[.val (.long q1), .second, .val (.long q2), .second, .val (.long q3), .second, .val (.long q4), .second, .val (.int p5), .val (.ref wB), .unset, .unset, .unset, .unset, .unset, .unset, .unset, .unset, .unset, .unset, .unset, .unset, .unset] [])) t → Steps p.tables e below (s₁.setTop (entryFrame m #[(.long q1), (.long q2), (.long q3), (.long q4), (.int p5)] maxLocals)) t := by
        intro t k
        refine pre277 _ ?_
        show Steps p.tables e below (T275.setTop (mkF m 22 #[.val (.long q1), .second, .val (.long q2), .second, .val (.long q3), .second, .val (.long q4), .second, .val (.int p5), .val (.ref wB), .unset, .unset, .unset, .unset, .unset, .unset, .unset, .unset, .unset, .unset, .unset, .unset, .unset] [(.int (p5 &&& (2 : Int32)))])) _
        refine XS.ifYes X275.here hx rfl (pc0 := 22) (pc' := 31) rfl (hb hby at_22) rfl ((if0 _ _).trans (teq hc278).1) (by decide) (by decide) ?_
        exact k
      obtain ⟨T280, X280, e280, st280⟩ := getS2 X275 hx hZ hown (host := "") (Or.inl (hw _ (List.mem_of_getElem? (i := 43) rfl))) Via.refl e275 (S_wW.ext O0.2) (g := (mkF m 31 #[.val (.long q1), .second, .val (.long q2), .second, .val (.long q3), .second, .val (.long q4), .second, .val (.int p5), .val (.ref wB), .unset, .unset, .unset, .unset, .unset, .unset, .unset, .unset, .unset, .unset, .unset, .unset, .unset] [])) rfl (hb hby at_31)
      have pre281 : ∀ t, Steps p.tables e below (T280.setTop (mkF m 34 #[.val (.long q1), .second, .val (.long q2), .second, .val (.long q3), .second, .val (.long q4), .second, .val (.int p5), .val (.ref wB), .unset, .unset, .unset, .unset, .unset, .unset, .unset, .unset, .unset, .unset, .unset, .unset, .unset] [(.ref wW)])) t → Steps p.tables e below (s₁.setTop (entryFrame m #[(.long q1), (.long q2), (.long q3), (.long q4), (.int p5)] maxLocals)) t := by
        intro t k
        refine pre279 _ ?_
        show Steps p.tables e below (T275.setTop (mkF m 31 #[.val (.long q1), .second, .val (.long q2), .second, .val (.long q3), .second, .val (.long q4), .second, .val (.int p5), .val (.ref wB), .unset, .unset, .unset, .unset, .unset, .unset, .unset, .unset, .unset, .unset, .unset, .unset, .unset] [])) _
        refine st280 _ ?_
        exact k
      have pre282 : ∀ t, Steps p.tables e below (T280.setTop (mkF m 54 #[.val (.long q1), .second, .val (.long q2), .second, .val (.long q3), .second, .val (.long q4), .second, .val (.int p5), .val (.ref wB), .val (.ref wW), .val (.long q1), .second, .val (.long (q2 &&& (q1 ^^^ (-1 : Int64)))), .second, .unset, .unset, .unset, .unset, .unset, .unset, .unset, .unset] [(.int (p5 &&& (16 : Int32)))])) t → Steps p.tables e below (s₁.setTop (entryFrame m #[(.long q1), (.long q2), (.long q3), (.long q4), (.int p5)] maxLocals)) t := by
        intro t k
        refine pre281 _ ?_
        show Steps p.tables e below (T280.setTop (mkF m 34 #[.val (.long q1), .second, .val (.long q2), .second, .val (.long q3), .second, .val (.long q4), .second, .val (.int p5), .val (.ref wB), .unset, .unset, .unset, .unset, .unset, .unset, .unset, .unset, .unset, .unset, .unset, .unset, .unset] [(.ref wW)])) _
        refine XS.astore X280.here hx rfl (hb hby at_34) rfl rfl (l' := #[.val (.long q1), .second, .val (.long q2), .second, .val (.long q3), .second, .val (.long q4), .second, .val (.int p5), .val (.ref wB), .val (.ref wW), .unset, .unset, .unset, .unset, .unset, .unset, .unset, .unset, .unset, .unset, .unset, .unset]) rfl ?_
        show Steps p.tables e below (T280.setTop (mkF m 36 #[.val (.long q1), .second, .val (.long q2), .second, .val (.long q3), .second, .val (.long q4), .second, .val (.int p5), .val (.ref wB), .val (.ref wW), .unset, .unset, .unset, .unset, .unset, .unset, .unset, .unset, .unset, .unset, .unset, .unset] [])) _
        refine XS.lloadN X280.here hx rfl (hb hby at_36) rfl ?_
        show Steps p.tables e below (T280.setTop (mkF m 37 #[.val (.long q1), .second, .val (.long q2), .second, .val (.long q3), .second, .val (.long q4), .second, .val (.int p5), .val (.ref wB), .val (.ref wW), .unset, .unset, .unset, .unset, .unset, .unset, .unset, .unset, .unset, .unset, .unset, .unset] [(.long q1)])) _
        refine XS.lstore X280.here hx rfl (hb hby at_37) rfl (l' := #[.val (.long q1), .second, .val (.long q2), .second, .val (.long q3), .second, .val (.long q4), .second, .val (.int p5), .val (.ref wB), .val (.ref wW), .val (.long q1), .second, .unset, .unset, .unset, .unset, .unset, .unset, .unset, .unset, .unset, .unset]) rfl ?_
        show Steps p.tables e below (T280.setTop (mkF m 39 #[.val (.long q1), .second, .val (.long q2), .second, .val (.long q3), .second, .val (.long q4), .second, .val (.int p5), .val (.ref wB), .val (.ref wW), .val (.long q1), .second, .unset, .unset, .unset, .unset, .unset, .unset, .unset, .unset, .unset, .unset] [])) _
        refine XS.lloadN X280.here hx rfl (hb hby at_39) rfl ?_
        show Steps p.tables e below (T280.setTop (mkF m 40 #[.val (.long q1), .second, .val (.long q2), .second, .val (.long q3), .second, .val (.long q4), .second, .val (.int p5), .val (.ref wB), .val (.ref wW), .val (.long q1), .second, .unset, .unset, .unset, .unset, .unset, .unset, .unset, .unset, .unset, .unset] [(.long q2)])) _
        refine XS.lload X280.here hx rfl (hb hby at_40) rfl ?_
        show Steps p.tables e below (T280.setTop (mkF m 42 #[.val (.long q1), .second, .val (.long q2), .second, .val (.long q3), .second, .val (.long q4), .second, .val (.int p5), .val (.ref wB), .val (.ref wW), .val (.long q1), .second, .unset, .unset, .unset, .unset, .unset, .unset, .unset, .unset, .unset, .unset] [(.long q1), (.long q2)])) _
        refine X280.ldc2Long hx hown (mvT hZ (hw _ (List.mem_of_getElem? (i := 3) rfl))) (g := (mkF m 42 #[.val (.long q1), .second, .val (.long q2), .second, .val (.long q3), .second, .val (.long q4), .second, .val (.int p5), .val (.ref wB), .val (.ref wW), .val (.long q1), .second, .unset, .unset, .unset, .unset, .unset, .unset, .unset, .unset, .unset, .unset] [(.long q1), (.long q2)])) rfl (hb hby at_42) _ ?_
        show Steps p.tables e below (T280.setTop (mkF m 45 #[.val (.long q1), .second, .val (.long q2), .second, .val (.long q3), .second, .val (.long q4), .second, .val (.int p5), .val (.ref wB), .val (.ref wW), .val (.long q1), .second, .unset, .unset, .unset, .unset, .unset, .unset, .unset, .unset, .unset, .unset] [(.long (-1 : Int64)), (.long q1), (.long q2)])) _
        refine XS.lxor X280.here hx rfl (hb hby at_45) rfl ?_
        show Steps p.tables e below (T280.setTop (mkF m 46 #[.val (.long q1), .second, .val (.long q2), .second, .val (.long q3), .second, .val (.long q4), .second, .val (.int p5), .val (.ref wB), .val (.ref wW), .val (.long q1), .second, .unset, .unset, .unset, .unset, .unset, .unset, .unset, .unset, .unset, .unset] [(.long (q1 ^^^ (-1 : Int64))), (.long q2)])) _
        refine XS.land X280.here hx rfl (hb hby at_46) rfl ?_
        show Steps p.tables e below (T280.setTop (mkF m 47 #[.val (.long q1), .second, .val (.long q2), .second, .val (.long q3), .second, .val (.long q4), .second, .val (.int p5), .val (.ref wB), .val (.ref wW), .val (.long q1), .second, .unset, .unset, .unset, .unset, .unset, .unset, .unset, .unset, .unset, .unset] [(.long (q2 &&& (q1 ^^^ (-1 : Int64))))])) _
        refine XS.lstore X280.here hx rfl (hb hby at_47) rfl (l' := #[.val (.long q1), .second, .val (.long q2), .second, .val (.long q3), .second, .val (.long q4), .second, .val (.int p5), .val (.ref wB), .val (.ref wW), .val (.long q1), .second, .val (.long (q2 &&& (q1 ^^^ (-1 : Int64)))), .second, .unset, .unset, .unset, .unset, .unset, .unset, .unset, .unset]) rfl ?_
        show Steps p.tables e below (T280.setTop (mkF m 49 #[.val (.long q1), .second, .val (.long q2), .second, .val (.long q3), .second, .val (.long q4), .second, .val (.int p5), .val (.ref wB), .val (.ref wW), .val (.long q1), .second, .val (.long (q2 &&& (q1 ^^^ (-1 : Int64)))), .second, .unset, .unset, .unset, .unset, .unset, .unset, .unset, .unset] [])) _
        refine XS.iload X280.here hx rfl (hb hby at_49) rfl ?_
        show Steps p.tables e below (T280.setTop (mkF m 51 #[.val (.long q1), .second, .val (.long q2), .second, .val (.long q3), .second, .val (.long q4), .second, .val (.int p5), .val (.ref wB), .val (.ref wW), .val (.long q1), .second, .val (.long (q2 &&& (q1 ^^^ (-1 : Int64)))), .second, .unset, .unset, .unset, .unset, .unset, .unset, .unset, .unset] [(.int p5)])) _
        refine XS.bipush X280.here hx rfl (hb hby at_51) ?_
        show Steps p.tables e below (T280.setTop (mkF m 53 #[.val (.long q1), .second, .val (.long q2), .second, .val (.long q3), .second, .val (.long q4), .second, .val (.int p5), .val (.ref wB), .val (.ref wW), .val (.long q1), .second, .val (.long (q2 &&& (q1 ^^^ (-1 : Int64)))), .second, .unset, .unset, .unset, .unset, .unset, .unset, .unset, .unset] [(.int (16 : Int32)), (.int p5)])) _
        refine XS.iand X280.here hx rfl (hb hby at_53) rfl ?_
        exact k
      by_cases hc283 : (p5 &&& (16 : Int32)) = (0 : Int32)
      · have pre284 : ∀ t, Steps p.tables e below (T280.setTop (mkF m 62 #[.val (.long q1), .second, .val (.long q2), .second, .val (.long q3), .second, .val (.long q4), .second, .val (.int p5), .val (.ref wB), .val (.ref wW), .val (.long q1), .second, .val (.long (q2 &&& (q1 ^^^ (-1 : Int64)))), .second, .unset, .unset, .unset, .unset, .unset, .unset, .unset, .unset] [])) t → Steps p.tables e below (s₁.setTop (entryFrame m #[(.long q1), (.long q2), (.long q3), (.long q4), (.int p5)] maxLocals)) t := by
          intro t k
          refine pre282 _ ?_
          show Steps p.tables e below (T280.setTop (mkF m 54 #[.val (.long q1), .second, .val (.long q2), .second, .val (.long q3), .second, .val (.long q4), .second, .val (.int p5), .val (.ref wB), .val (.ref wW), .val (.long q1), .second, .val (.long (q2 &&& (q1 ^^^ (-1 : Int64)))), .second, .unset, .unset, .unset, .unset, .unset, .unset, .unset, .unset] [(.int (p5 &&& (16 : Int32)))])) _
          refine XS.ifYes X280.here hx rfl (pc0 := 54) (pc' := 62) rfl (hb hby at_54) rfl ((if0 _ _).trans (teq hc283).1) (by decide) (by decide) ?_
          exact k
        have pre285 : ∀ t, Steps p.tables e below (T280.setTop (mkF m 74 #[.val (.long q1), .second, .val (.long q2), .second, .val (.long q3), .second, .val (.long q4), .second, .val (.int p5), .val (.ref wB), .val (.ref wW), .val (.long q1), .second, .val (.long (q2 &&& (q1 ^^^ (-1 : Int64)))), .second, .val (.long (q1 ^^^ q3)), .second, .unset, .unset, .unset, .unset, .unset, .unset] [(.int (p5 &&& (32 : Int32)))])) t → Steps p.tables e below (s₁.setTop (entryFrame m #[(.long q1), (.long q2), (.long q3), (.long q4), (.int p5)] maxLocals)) t := by
          intro t k
          refine pre284 _ ?_
          show Steps p.tables e below (T280.setTop (mkF m 62 #[.val (.long q1), .second, .val (.long q2), .second, .val (.long q3), .second, .val (.long q4), .second, .val (.int p5), .val (.ref wB), .val (.ref wW), .val (.long q1), .second, .val (.long (q2 &&& (q1 ^^^ (-1 : Int64)))), .second, .unset, .unset, .unset, .unset, .unset, .unset, .unset, .unset] [])) _
          refine XS.lload X280.here hx rfl (hb hby at_62) rfl ?_
          show Steps p.tables e below (T280.setTop (mkF m 64 #[.val (.long q1), .second, .val (.long q2), .second, .val (.long q3), .second, .val (.long q4), .second, .val (.int p5), .val (.ref wB), .val (.ref wW), .val (.long q1), .second, .val (.long (q2 &&& (q1 ^^^ (-1 : Int64)))), .second, .unset, .unset, .unset, .unset, .unset, .unset, .unset, .unset] [(.long q1)])) _
          refine XS.lload X280.here hx rfl (hb hby at_64) rfl ?_
          show Steps p.tables e below (T280.setTop (mkF m 66 #[.val (.long q1), .second, .val (.long q2), .second, .val (.long q3), .second, .val (.long q4), .second, .val (.int p5), .val (.ref wB), .val (.ref wW), .val (.long q1), .second, .val (.long (q2 &&& (q1 ^^^ (-1 : Int64)))), .second, .unset, .unset, .unset, .unset, .unset, .unset, .unset, .unset] [(.long q3), (.long q1)])) _
          refine XS.lxor X280.here hx rfl (hb hby at_66) rfl ?_
          show Steps p.tables e below (T280.setTop (mkF m 67 #[.val (.long q1), .second, .val (.long q2), .second, .val (.long q3), .second, .val (.long q4), .second, .val (.int p5), .val (.ref wB), .val (.ref wW), .val (.long q1), .second, .val (.long (q2 &&& (q1 ^^^ (-1 : Int64)))), .second, .unset, .unset, .unset, .unset, .unset, .unset, .unset, .unset] [(.long (q1 ^^^ q3))])) _
          refine XS.lstore X280.here hx rfl (hb hby at_67) rfl (l' := #[.val (.long q1), .second, .val (.long q2), .second, .val (.long q3), .second, .val (.long q4), .second, .val (.int p5), .val (.ref wB), .val (.ref wW), .val (.long q1), .second, .val (.long (q2 &&& (q1 ^^^ (-1 : Int64)))), .second, .val (.long (q1 ^^^ q3)), .second, .unset, .unset, .unset, .unset, .unset, .unset]) rfl ?_
          show Steps p.tables e below (T280.setTop (mkF m 69 #[.val (.long q1), .second, .val (.long q2), .second, .val (.long q3), .second, .val (.long q4), .second, .val (.int p5), .val (.ref wB), .val (.ref wW), .val (.long q1), .second, .val (.long (q2 &&& (q1 ^^^ (-1 : Int64)))), .second, .val (.long (q1 ^^^ q3)), .second, .unset, .unset, .unset, .unset, .unset, .unset] [])) _
          refine XS.iload X280.here hx rfl (hb hby at_69) rfl ?_
          show Steps p.tables e below (T280.setTop (mkF m 71 #[.val (.long q1), .second, .val (.long q2), .second, .val (.long q3), .second, .val (.long q4), .second, .val (.int p5), .val (.ref wB), .val (.ref wW), .val (.long q1), .second, .val (.long (q2 &&& (q1 ^^^ (-1 : Int64)))), .second, .val (.long (q1 ^^^ q3)), .second, .unset, .unset, .unset, .unset, .unset, .unset] [(.int p5)])) _
          refine XS.bipush X280.here hx rfl (hb hby at_71) ?_
          show Steps p.tables e below (T280.setTop (mkF m 73 #[.val (.long q1), .second, .val (.long q2), .second, .val (.long q3), .second, .val (.long q4), .second, .val (.int p5), .val (.ref wB), .val (.ref wW), .val (.long q1), .second, .val (.long (q2 &&& (q1 ^^^ (-1 : Int64)))), .second, .val (.long (q1 ^^^ q3)), .second, .unset, .unset, .unset, .unset, .unset, .unset] [(.int (32 : Int32)), (.int p5)])) _
          refine XS.iand X280.here hx rfl (hb hby at_73) rfl ?_
          exact k
        by_cases hc286 : (p5 &&& (32 : Int32)) = (0 : Int32)
        · have pre287 : ∀ t, Steps p.tables e below (T280.setTop (mkF m 82 #[.val (.long q1), .second, .val (.long q2), .second, .val (.long q3), .second, .val (.long q4), .second, .val (.int p5), .val (.ref wB), .val (.ref wW), .val (.long q1), .second, .val (.long (q2 &&& (q1 ^^^ (-1 : Int64)))), .second, .val (.long (q1 ^^^ q3)), .second, .unset, .unset, .unset, .unset, .unset, .unset] [])) t → Steps p.tables e below (s₁.setTop (entryFrame m #[(.long q1), (.long q2), (.long q3), (.long q4), (.int p5)] maxLocals)) t := by
            intro t k
            refine pre285 _ ?_
            show Steps p.tables e below (T280.setTop (mkF m 74 #[.val (.long q1), .second, .val (.long q2), .second, .val (.long q3), .second, .val (.long q4), .second, .val (.int p5), .val (.ref wB), .val (.ref wW), .val (.long q1), .second, .val (.long (q2 &&& (q1 ^^^ (-1 : Int64)))), .second, .val (.long (q1 ^^^ q3)), .second, .unset, .unset, .unset, .unset, .unset, .unset] [(.int (p5 &&& (32 : Int32)))])) _
            refine XS.ifYes X280.here hx rfl (pc0 := 74) (pc' := 82) rfl (hb hby at_74) rfl ((if0 _ _).trans (teq hc286).1) (by decide) (by decide) ?_
            exact k
          have pre288 : ∀ t, Steps p.tables e below (T280.setTop (mkF m 96 #[.val (.long q1), .second, .val (.long q2), .second, .val (.long q3), .second, .val (.long q4), .second, .val (.int p5), .val (.ref wB), .val (.ref wW), .val (.long q1), .second, .val (.long (q2 &&& (q1 ^^^ (-1 : Int64)))), .second, .val (.long (q1 ^^^ q3)), .second, .val (.long (((q2 &&& (q1 ^^^ (-1 : Int64))) ^^^ q4) &&& ((q1 ^^^ q3) ^^^ (-1 : Int64)))), .second, .unset, .unset, .unset, .unset] [])) t → Steps p.tables e below (s₁.setTop (entryFrame m #[(.long q1), (.long q2), (.long q3), (.long q4), (.int p5)] maxLocals)) t := by
            intro t k
            refine pre287 _ ?_
            show Steps p.tables e below (T280.setTop (mkF m 82 #[.val (.long q1), .second, .val (.long q2), .second, .val (.long q3), .second, .val (.long q4), .second, .val (.int p5), .val (.ref wB), .val (.ref wW), .val (.long q1), .second, .val (.long (q2 &&& (q1 ^^^ (-1 : Int64)))), .second, .val (.long (q1 ^^^ q3)), .second, .unset, .unset, .unset, .unset, .unset, .unset] [])) _
            refine XS.lload X280.here hx rfl (hb hby at_82) rfl ?_
            show Steps p.tables e below (T280.setTop (mkF m 84 #[.val (.long q1), .second, .val (.long q2), .second, .val (.long q3), .second, .val (.long q4), .second, .val (.int p5), .val (.ref wB), .val (.ref wW), .val (.long q1), .second, .val (.long (q2 &&& (q1 ^^^ (-1 : Int64)))), .second, .val (.long (q1 ^^^ q3)), .second, .unset, .unset, .unset, .unset, .unset, .unset] [(.long (q2 &&& (q1 ^^^ (-1 : Int64))))])) _
            refine XS.lload X280.here hx rfl (hb hby at_84) rfl ?_
            show Steps p.tables e below (T280.setTop (mkF m 86 #[.val (.long q1), .second, .val (.long q2), .second, .val (.long q3), .second, .val (.long q4), .second, .val (.int p5), .val (.ref wB), .val (.ref wW), .val (.long q1), .second, .val (.long (q2 &&& (q1 ^^^ (-1 : Int64)))), .second, .val (.long (q1 ^^^ q3)), .second, .unset, .unset, .unset, .unset, .unset, .unset] [(.long q4), (.long (q2 &&& (q1 ^^^ (-1 : Int64))))])) _
            refine XS.lxor X280.here hx rfl (hb hby at_86) rfl ?_
            show Steps p.tables e below (T280.setTop (mkF m 87 #[.val (.long q1), .second, .val (.long q2), .second, .val (.long q3), .second, .val (.long q4), .second, .val (.int p5), .val (.ref wB), .val (.ref wW), .val (.long q1), .second, .val (.long (q2 &&& (q1 ^^^ (-1 : Int64)))), .second, .val (.long (q1 ^^^ q3)), .second, .unset, .unset, .unset, .unset, .unset, .unset] [(.long ((q2 &&& (q1 ^^^ (-1 : Int64))) ^^^ q4))])) _
            refine XS.lload X280.here hx rfl (hb hby at_87) rfl ?_
            show Steps p.tables e below (T280.setTop (mkF m 89 #[.val (.long q1), .second, .val (.long q2), .second, .val (.long q3), .second, .val (.long q4), .second, .val (.int p5), .val (.ref wB), .val (.ref wW), .val (.long q1), .second, .val (.long (q2 &&& (q1 ^^^ (-1 : Int64)))), .second, .val (.long (q1 ^^^ q3)), .second, .unset, .unset, .unset, .unset, .unset, .unset] [(.long (q1 ^^^ q3)), (.long ((q2 &&& (q1 ^^^ (-1 : Int64))) ^^^ q4))])) _
            refine X280.ldc2Long hx hown (mvT hZ (hw _ (List.mem_of_getElem? (i := 3) rfl))) (g := (mkF m 89 #[.val (.long q1), .second, .val (.long q2), .second, .val (.long q3), .second, .val (.long q4), .second, .val (.int p5), .val (.ref wB), .val (.ref wW), .val (.long q1), .second, .val (.long (q2 &&& (q1 ^^^ (-1 : Int64)))), .second, .val (.long (q1 ^^^ q3)), .second, .unset, .unset, .unset, .unset, .unset, .unset] [(.long (q1 ^^^ q3)), (.long ((q2 &&& (q1 ^^^ (-1 : Int64))) ^^^ q4))])) rfl (hb hby at_89) _ ?_
            show Steps p.tables e below (T280.setTop (mkF m 92 #[.val (.long q1), .second, .val (.long q2), .second, .val (.long q3), .second, .val (.long q4), .second, .val (.int p5), .val (.ref wB), .val (.ref wW), .val (.long q1), .second, .val (.long (q2 &&& (q1 ^^^ (-1 : Int64)))), .second, .val (.long (q1 ^^^ q3)), .second, .unset, .unset, .unset, .unset, .unset, .unset] [(.long (-1 : Int64)), (.long (q1 ^^^ q3)), (.long ((q2 &&& (q1 ^^^ (-1 : Int64))) ^^^ q4))])) _
            refine XS.lxor X280.here hx rfl (hb hby at_92) rfl ?_
            show Steps p.tables e below (T280.setTop (mkF m 93 #[.val (.long q1), .second, .val (.long q2), .second, .val (.long q3), .second, .val (.long q4), .second, .val (.int p5), .val (.ref wB), .val (.ref wW), .val (.long q1), .second, .val (.long (q2 &&& (q1 ^^^ (-1 : Int64)))), .second, .val (.long (q1 ^^^ q3)), .second, .unset, .unset, .unset, .unset, .unset, .unset] [(.long ((q1 ^^^ q3) ^^^ (-1 : Int64))), (.long ((q2 &&& (q1 ^^^ (-1 : Int64))) ^^^ q4))])) _
            refine XS.land X280.here hx rfl (hb hby at_93) rfl ?_
            show Steps p.tables e below (T280.setTop (mkF m 94 #[.val (.long q1), .second, .val (.long q2), .second, .val (.long q3), .second, .val (.long q4), .second, .val (.int p5), .val (.ref wB), .val (.ref wW), .val (.long q1), .second, .val (.long (q2 &&& (q1 ^^^ (-1 : Int64)))), .second, .val (.long (q1 ^^^ q3)), .second, .unset, .unset, .unset, .unset, .unset, .unset] [(.long (((q2 &&& (q1 ^^^ (-1 : Int64))) ^^^ q4) &&& ((q1 ^^^ q3) ^^^ (-1 : Int64))))])) _
            refine XS.lstore X280.here hx rfl (hb hby at_94) rfl (l' := #[.val (.long q1), .second, .val (.long q2), .second, .val (.long q3), .second, .val (.long q4), .second, .val (.int p5), .val (.ref wB), .val (.ref wW), .val (.long q1), .second, .val (.long (q2 &&& (q1 ^^^ (-1 : Int64)))), .second, .val (.long (q1 ^^^ q3)), .second, .val (.long (((q2 &&& (q1 ^^^ (-1 : Int64))) ^^^ q4) &&& ((q1 ^^^ q3) ^^^ (-1 : Int64)))), .second, .unset, .unset, .unset, .unset]) rfl ?_
            exact k
          obtain ⟨s₂, o, st289, g1, g2, v, L, ho, ⟨hv, hN⟩, hfe⟩ := pc0_96_0 q1 q2 q3 q4 p5 wB wW q1 (q2 &&& (q1 ^^^ (-1 : Int64))) (q1 ^^^ q3) (((q2 &&& (q1 ^^^ (-1 : Int64))) ^^^ q4) &&& ((q1 ^^^ q3) ^^^ (-1 : Int64))) wB wW X280 hx hZ hw hby hml hown hret hlocks e280 N0 Z0 O0 hS0 (own_disj _ _) (own_disj _ _) E_wB E_wW S_wB S_wW
          exact ⟨s₂, o, pre288 _ st289, g1, g2, v, L, ho, ⟨(by rw [F0, if_neg hc88, if_pos hc278, if_pos hc283, if_pos hc286]; exact hv), hN⟩, hfe⟩
        · have pre290 : ∀ t, Steps p.tables e below (T280.setTop (mkF m 77 #[.val (.long q1), .second, .val (.long q2), .second, .val (.long q3), .second, .val (.long q4), .second, .val (.int p5), .val (.ref wB), .val (.ref wW), .val (.long q1), .second, .val (.long (q2 &&& (q1 ^^^ (-1 : Int64)))), .second, .val (.long (q1 ^^^ q3)), .second, .unset, .unset, .unset, .unset, .unset, .unset] [])) t → Steps p.tables e below (s₁.setTop (entryFrame m #[(.long q1), (.long q2), (.long q3), (.long q4), (.int p5)] maxLocals)) t := by
            intro t k
            refine pre285 _ ?_
            show Steps p.tables e below (T280.setTop (mkF m 74 #[.val (.long q1), .second, .val (.long q2), .second, .val (.long q3), .second, .val (.long q4), .second, .val (.int p5), .val (.ref wB), .val (.ref wW), .val (.long q1), .second, .val (.long (q2 &&& (q1 ^^^ (-1 : Int64)))), .second, .val (.long (q1 ^^^ q3)), .second, .unset, .unset, .unset, .unset, .unset, .unset] [(.int (p5 &&& (32 : Int32)))])) _
            refine XS.ifNo X280.here hx rfl (hb hby at_74) rfl ((if0 _ _).trans (feq hc286).1) ?_
            exact k
          have pre291 : ∀ t, Steps p.tables e below (T280.setTop (mkF m 96 #[.val (.long q1), .second, .val (.long q2), .second, .val (.long q3), .second, .val (.long q4), .second, .val (.int p5), .val (.ref wB), .val (.ref wW), .val (.long q1), .second, .val (.long (q2 &&& (q1 ^^^ (-1 : Int64)))), .second, .val (.long (q1 ^^^ q3)), .second, .val (.long ((q2 &&& (q1 ^^^ (-1 : Int64))) &&& ((q1 ^^^ q3) ^^^ (-1 : Int64)))), .second, .unset, .unset, .unset, .unset] [])) t → Steps p.tables e below (s₁.setTop (entryFrame m #[(.long q1), (.long q2), (.long q3), (.long q4), (.int p5)] maxLocals)) t := by
            intro t k
            refine pre290 _ ?_
            show Steps p.tables e below (T280.setTop (mkF m 77 #[.val (.long q1), .second, .val (.long q2), .second, .val (.long q3), .second, .val (.long q4), .second, .val (.int p5), .val (.ref wB), .val (.ref wW), .val (.long q1), .second, .val (.long (q2 &&& (q1 ^^^ (-1 : Int64)))), .second, .val (.long (q1 ^^^ q3)), .second, .unset, .unset, .unset, .unset, .unset, .unset] [])) _
            refine XS.lload X280.here hx rfl (hb hby at_77) rfl ?_
            show Steps p.tables e below (T280.setTop (mkF m 79 #[.val (.long q1), .second, .val (.long q2), .second, .val (.long q3), .second, .val (.long q4), .second, .val (.int p5), .val (.ref wB), .val (.ref wW), .val (.long q1), .second, .val (.long (q2 &&& (q1 ^^^ (-1 : Int64)))), .second, .val (.long (q1 ^^^ q3)), .second, .unset, .unset, .unset, .unset, .unset, .unset] [(.long (q2 &&& (q1 ^^^ (-1 : Int64))))])) _
            refine XS.goto X280.here hx rfl (pc0 := 79) (pc' := 87) rfl (hb hby at_79) (by decide) (by decide) ?_
            show Steps p.tables e below (T280.setTop (mkF m 87 #[.val (.long q1), .second, .val (.long q2), .second, .val (.long q3), .second, .val (.long q4), .second, .val (.int p5), .val (.ref wB), .val (.ref wW), .val (.long q1), .second, .val (.long (q2 &&& (q1 ^^^ (-1 : Int64)))), .second, .val (.long (q1 ^^^ q3)), .second, .unset, .unset, .unset, .unset, .unset, .unset] [(.long (q2 &&& (q1 ^^^ (-1 : Int64))))])) _
            refine XS.lload X280.here hx rfl (hb hby at_87) rfl ?_
            show Steps p.tables e below (T280.setTop (mkF m 89 #[.val (.long q1), .second, .val (.long q2), .second, .val (.long q3), .second, .val (.long q4), .second, .val (.int p5), .val (.ref wB), .val (.ref wW), .val (.long q1), .second, .val (.long (q2 &&& (q1 ^^^ (-1 : Int64)))), .second, .val (.long (q1 ^^^ q3)), .second, .unset, .unset, .unset, .unset, .unset, .unset] [(.long (q1 ^^^ q3)), (.long (q2 &&& (q1 ^^^ (-1 : Int64))))])) _
            refine X280.ldc2Long hx hown (mvT hZ (hw _ (List.mem_of_getElem? (i := 3) rfl))) (g := (mkF m 89 #[.val (.long q1), .second, .val (.long q2), .second, .val (.long q3), .second, .val (.long q4), .second, .val (.int p5), .val (.ref wB), .val (.ref wW), .val (.long q1), .second, .val (.long (q2 &&& (q1 ^^^ (-1 : Int64)))), .second, .val (.long (q1 ^^^ q3)), .second, .unset, .unset, .unset, .unset, .unset, .unset] [(.long (q1 ^^^ q3)), (.long (q2 &&& (q1 ^^^ (-1 : Int64))))])) rfl (hb hby at_89) _ ?_
            show Steps p.tables e below (T280.setTop (mkF m 92 #[.val (.long q1), .second, .val (.long q2), .second, .val (.long q3), .second, .val (.long q4), .second, .val (.int p5), .val (.ref wB), .val (.ref wW), .val (.long q1), .second, .val (.long (q2 &&& (q1 ^^^ (-1 : Int64)))), .second, .val (.long (q1 ^^^ q3)), .second, .unset, .unset, .unset, .unset, .unset, .unset] [(.long (-1 : Int64)), (.long (q1 ^^^ q3)), (.long (q2 &&& (q1 ^^^ (-1 : Int64))))])) _
            refine XS.lxor X280.here hx rfl (hb hby at_92) rfl ?_
            show Steps p.tables e below (T280.setTop (mkF m 93 #[.val (.long q1), .second, .val (.long q2), .second, .val (.long q3), .second, .val (.long q4), .second, .val (.int p5), .val (.ref wB), .val (.ref wW), .val (.long q1), .second, .val (.long (q2 &&& (q1 ^^^ (-1 : Int64)))), .second, .val (.long (q1 ^^^ q3)), .second, .unset, .unset, .unset, .unset, .unset, .unset] [(.long ((q1 ^^^ q3) ^^^ (-1 : Int64))), (.long (q2 &&& (q1 ^^^ (-1 : Int64))))])) _
            refine XS.land X280.here hx rfl (hb hby at_93) rfl ?_
            show Steps p.tables e below (T280.setTop (mkF m 94 #[.val (.long q1), .second, .val (.long q2), .second, .val (.long q3), .second, .val (.long q4), .second, .val (.int p5), .val (.ref wB), .val (.ref wW), .val (.long q1), .second, .val (.long (q2 &&& (q1 ^^^ (-1 : Int64)))), .second, .val (.long (q1 ^^^ q3)), .second, .unset, .unset, .unset, .unset, .unset, .unset] [(.long ((q2 &&& (q1 ^^^ (-1 : Int64))) &&& ((q1 ^^^ q3) ^^^ (-1 : Int64))))])) _
            refine XS.lstore X280.here hx rfl (hb hby at_94) rfl (l' := #[.val (.long q1), .second, .val (.long q2), .second, .val (.long q3), .second, .val (.long q4), .second, .val (.int p5), .val (.ref wB), .val (.ref wW), .val (.long q1), .second, .val (.long (q2 &&& (q1 ^^^ (-1 : Int64)))), .second, .val (.long (q1 ^^^ q3)), .second, .val (.long ((q2 &&& (q1 ^^^ (-1 : Int64))) &&& ((q1 ^^^ q3) ^^^ (-1 : Int64)))), .second, .unset, .unset, .unset, .unset]) rfl ?_
            exact k
          obtain ⟨s₂, o, st292, g1, g2, v, L, ho, ⟨hv, hN⟩, hfe⟩ := pc0_96_0 q1 q2 q3 q4 p5 wB wW q1 (q2 &&& (q1 ^^^ (-1 : Int64))) (q1 ^^^ q3) ((q2 &&& (q1 ^^^ (-1 : Int64))) &&& ((q1 ^^^ q3) ^^^ (-1 : Int64))) wB wW X280 hx hZ hw hby hml hown hret hlocks e280 N0 Z0 O0 hS0 (own_disj _ _) (own_disj _ _) E_wB E_wW S_wB S_wW
          exact ⟨s₂, o, pre291 _ st292, g1, g2, v, L, ho, ⟨(by rw [F0, if_neg hc88, if_pos hc278, if_pos hc283, if_neg hc286]; exact hv), hN⟩, hfe⟩
      · have pre293 : ∀ t, Steps p.tables e below (T280.setTop (mkF m 57 #[.val (.long q1), .second, .val (.long q2), .second, .val (.long q3), .second, .val (.long q4), .second, .val (.int p5), .val (.ref wB), .val (.ref wW), .val (.long q1), .second, .val (.long (q2 &&& (q1 ^^^ (-1 : Int64)))), .second, .unset, .unset, .unset, .unset, .unset, .unset, .unset, .unset] [])) t → Steps p.tables e below (s₁.setTop (entryFrame m #[(.long q1), (.long q2), (.long q3), (.long q4), (.int p5)] maxLocals)) t := by
          intro t k
          refine pre282 _ ?_
          show Steps p.tables e below (T280.setTop (mkF m 54 #[.val (.long q1), .second, .val (.long q2), .second, .val (.long q3), .second, .val (.long q4), .second, .val (.int p5), .val (.ref wB), .val (.ref wW), .val (.long q1), .second, .val (.long (q2 &&& (q1 ^^^ (-1 : Int64)))), .second, .unset, .unset, .unset, .unset, .unset, .unset, .unset, .unset] [(.int (p5 &&& (16 : Int32)))])) _
          refine XS.ifNo X280.here hx rfl (hb hby at_54) rfl ((if0 _ _).trans (feq hc283).1) ?_
          exact k
        have pre294 : ∀ t, Steps p.tables e below (T280.setTop (mkF m 74 #[.val (.long q1), .second, .val (.long q2), .second, .val (.long q3), .second, .val (.long q4), .second, .val (.int p5), .val (.ref wB), .val (.ref wW), .val (.long q1), .second, .val (.long (q2 &&& (q1 ^^^ (-1 : Int64)))), .second, .val (.long q1), .second, .unset, .unset, .unset, .unset, .unset, .unset] [(.int (p5 &&& (32 : Int32)))])) t → Steps p.tables e below (s₁.setTop (entryFrame m #[(.long q1), (.long q2), (.long q3), (.long q4), (.int p5)] maxLocals)) t := by
          intro t k
          refine pre293 _ ?_
          show Steps p.tables e below (T280.setTop (mkF m 57 #[.val (.long q1), .second, .val (.long q2), .second, .val (.long q3), .second, .val (.long q4), .second, .val (.int p5), .val (.ref wB), .val (.ref wW), .val (.long q1), .second, .val (.long (q2 &&& (q1 ^^^ (-1 : Int64)))), .second, .unset, .unset, .unset, .unset, .unset, .unset, .unset, .unset] [])) _
          refine XS.lload X280.here hx rfl (hb hby at_57) rfl ?_
          show Steps p.tables e below (T280.setTop (mkF m 59 #[.val (.long q1), .second, .val (.long q2), .second, .val (.long q3), .second, .val (.long q4), .second, .val (.int p5), .val (.ref wB), .val (.ref wW), .val (.long q1), .second, .val (.long (q2 &&& (q1 ^^^ (-1 : Int64)))), .second, .unset, .unset, .unset, .unset, .unset, .unset, .unset, .unset] [(.long q1)])) _
          refine XS.goto X280.here hx rfl (pc0 := 59) (pc' := 67) rfl (hb hby at_59) (by decide) (by decide) ?_
          show Steps p.tables e below (T280.setTop (mkF m 67 #[.val (.long q1), .second, .val (.long q2), .second, .val (.long q3), .second, .val (.long q4), .second, .val (.int p5), .val (.ref wB), .val (.ref wW), .val (.long q1), .second, .val (.long (q2 &&& (q1 ^^^ (-1 : Int64)))), .second, .unset, .unset, .unset, .unset, .unset, .unset, .unset, .unset] [(.long q1)])) _
          refine XS.lstore X280.here hx rfl (hb hby at_67) rfl (l' := #[.val (.long q1), .second, .val (.long q2), .second, .val (.long q3), .second, .val (.long q4), .second, .val (.int p5), .val (.ref wB), .val (.ref wW), .val (.long q1), .second, .val (.long (q2 &&& (q1 ^^^ (-1 : Int64)))), .second, .val (.long q1), .second, .unset, .unset, .unset, .unset, .unset, .unset]) rfl ?_
          show Steps p.tables e below (T280.setTop (mkF m 69 #[.val (.long q1), .second, .val (.long q2), .second, .val (.long q3), .second, .val (.long q4), .second, .val (.int p5), .val (.ref wB), .val (.ref wW), .val (.long q1), .second, .val (.long (q2 &&& (q1 ^^^ (-1 : Int64)))), .second, .val (.long q1), .second, .unset, .unset, .unset, .unset, .unset, .unset] [])) _
          refine XS.iload X280.here hx rfl (hb hby at_69) rfl ?_
          show Steps p.tables e below (T280.setTop (mkF m 71 #[.val (.long q1), .second, .val (.long q2), .second, .val (.long q3), .second, .val (.long q4), .second, .val (.int p5), .val (.ref wB), .val (.ref wW), .val (.long q1), .second, .val (.long (q2 &&& (q1 ^^^ (-1 : Int64)))), .second, .val (.long q1), .second, .unset, .unset, .unset, .unset, .unset, .unset] [(.int p5)])) _
          refine XS.bipush X280.here hx rfl (hb hby at_71) ?_
          show Steps p.tables e below (T280.setTop (mkF m 73 #[.val (.long q1), .second, .val (.long q2), .second, .val (.long q3), .second, .val (.long q4), .second, .val (.int p5), .val (.ref wB), .val (.ref wW), .val (.long q1), .second, .val (.long (q2 &&& (q1 ^^^ (-1 : Int64)))), .second, .val (.long q1), .second, .unset, .unset, .unset, .unset, .unset, .unset] [(.int (32 : Int32)), (.int p5)])) _
          refine XS.iand X280.here hx rfl (hb hby at_73) rfl ?_
          exact k
        by_cases hc295 : (p5 &&& (32 : Int32)) = (0 : Int32)
        · have pre296 : ∀ t, Steps p.tables e below (T280.setTop (mkF m 82 #[.val (.long q1), .second, .val (.long q2), .second, .val (.long q3), .second, .val (.long q4), .second, .val (.int p5), .val (.ref wB), .val (.ref wW), .val (.long q1), .second, .val (.long (q2 &&& (q1 ^^^ (-1 : Int64)))), .second, .val (.long q1), .second, .unset, .unset, .unset, .unset, .unset, .unset] [])) t → Steps p.tables e below (s₁.setTop (entryFrame m #[(.long q1), (.long q2), (.long q3), (.long q4), (.int p5)] maxLocals)) t := by
            intro t k
            refine pre294 _ ?_
            show Steps p.tables e below (T280.setTop (mkF m 74 #[.val (.long q1), .second, .val (.long q2), .second, .val (.long q3), .second, .val (.long q4), .second, .val (.int p5), .val (.ref wB), .val (.ref wW), .val (.long q1), .second, .val (.long (q2 &&& (q1 ^^^ (-1 : Int64)))), .second, .val (.long q1), .second, .unset, .unset, .unset, .unset, .unset, .unset] [(.int (p5 &&& (32 : Int32)))])) _
            refine XS.ifYes X280.here hx rfl (pc0 := 74) (pc' := 82) rfl (hb hby at_74) rfl ((if0 _ _).trans (teq hc295).1) (by decide) (by decide) ?_
            exact k
          have pre297 : ∀ t, Steps p.tables e below (T280.setTop (mkF m 96 #[.val (.long q1), .second, .val (.long q2), .second, .val (.long q3), .second, .val (.long q4), .second, .val (.int p5), .val (.ref wB), .val (.ref wW), .val (.long q1), .second, .val (.long (q2 &&& (q1 ^^^ (-1 : Int64)))), .second, .val (.long q1), .second, .val (.long (((q2 &&& (q1 ^^^ (-1 : Int64))) ^^^ q4) &&& (q1 ^^^ (-1 : Int64)))), .second, .unset, .unset, .unset, .unset] [])) t → Steps p.tables e below (s₁.setTop (entryFrame m #[(.long q1), (.long q2), (.long q3), (.long q4), (.int p5)] maxLocals)) t := by
            intro t k
            refine pre296 _ ?_
            show Steps p.tables e below (T280.setTop (mkF m 82 #[.val (.long q1), .second, .val (.long q2), .second, .val (.long q3), .second, .val (.long q4), .second, .val (.int p5), .val (.ref wB), .val (.ref wW), .val (.long q1), .second, .val (.long (q2 &&& (q1 ^^^ (-1 : Int64)))), .second, .val (.long q1), .second, .unset, .unset, .unset, .unset, .unset, .unset] [])) _
            refine XS.lload X280.here hx rfl (hb hby at_82) rfl ?_
            show Steps p.tables e below (T280.setTop (mkF m 84 #[.val (.long q1), .second, .val (.long q2), .second, .val (.long q3), .second, .val (.long q4), .second, .val (.int p5), .val (.ref wB), .val (.ref wW), .val (.long q1), .second, .val (.long (q2 &&& (q1 ^^^ (-1 : Int64)))), .second, .val (.long q1), .second, .unset, .unset, .unset, .unset, .unset, .unset] [(.long (q2 &&& (q1 ^^^ (-1 : Int64))))])) _
            refine XS.lload X280.here hx rfl (hb hby at_84) rfl ?_
            show Steps p.tables e below (T280.setTop (mkF m 86 #[.val (.long q1), .second, .val (.long q2), .second, .val (.long q3), .second, .val (.long q4), .second, .val (.int p5), .val (.ref wB), .val (.ref wW), .val (.long q1), .second, .val (.long (q2 &&& (q1 ^^^ (-1 : Int64)))), .second, .val (.long q1), .second, .unset, .unset, .unset, .unset, .unset, .unset] [(.long q4), (.long (q2 &&& (q1 ^^^ (-1 : Int64))))])) _
            refine XS.lxor X280.here hx rfl (hb hby at_86) rfl ?_
            show Steps p.tables e below (T280.setTop (mkF m 87 #[.val (.long q1), .second, .val (.long q2), .second, .val (.long q3), .second, .val (.long q4), .second, .val (.int p5), .val (.ref wB), .val (.ref wW), .val (.long q1), .second, .val (.long (q2 &&& (q1 ^^^ (-1 : Int64)))), .second, .val (.long q1), .second, .unset, .unset, .unset, .unset, .unset, .unset] [(.long ((q2 &&& (q1 ^^^ (-1 : Int64))) ^^^ q4))])) _
            refine XS.lload X280.here hx rfl (hb hby at_87) rfl ?_
            show Steps p.tables e below (T280.setTop (mkF m 89 #[.val (.long q1), .second, .val (.long q2), .second, .val (.long q3), .second, .val (.long q4), .second, .val (.int p5), .val (.ref wB), .val (.ref wW), .val (.long q1), .second, .val (.long (q2 &&& (q1 ^^^ (-1 : Int64)))), .second, .val (.long q1), .second, .unset, .unset, .unset, .unset, .unset, .unset] [(.long q1), (.long ((q2 &&& (q1 ^^^ (-1 : Int64))) ^^^ q4))])) _
            refine X280.ldc2Long hx hown (mvT hZ (hw _ (List.mem_of_getElem? (i := 3) rfl))) (g := (mkF m 89 #[.val (.long q1), .second, .val (.long q2), .second, .val (.long q3), .second, .val (.long q4), .second, .val (.int p5), .val (.ref wB), .val (.ref wW), .val (.long q1), .second, .val (.long (q2 &&& (q1 ^^^ (-1 : Int64)))), .second, .val (.long q1), .second, .unset, .unset, .unset, .unset, .unset, .unset] [(.long q1), (.long ((q2 &&& (q1 ^^^ (-1 : Int64))) ^^^ q4))])) rfl (hb hby at_89) _ ?_
            show Steps p.tables e below (T280.setTop (mkF m 92 #[.val (.long q1), .second, .val (.long q2), .second, .val (.long q3), .second, .val (.long q4), .second, .val (.int p5), .val (.ref wB), .val (.ref wW), .val (.long q1), .second, .val (.long (q2 &&& (q1 ^^^ (-1 : Int64)))), .second, .val (.long q1), .second, .unset, .unset, .unset, .unset, .unset, .unset] [(.long (-1 : Int64)), (.long q1), (.long ((q2 &&& (q1 ^^^ (-1 : Int64))) ^^^ q4))])) _
            refine XS.lxor X280.here hx rfl (hb hby at_92) rfl ?_
            show Steps p.tables e below (T280.setTop (mkF m 93 #[.val (.long q1), .second, .val (.long q2), .second, .val (.long q3), .second, .val (.long q4), .second, .val (.int p5), .val (.ref wB), .val (.ref wW), .val (.long q1), .second, .val (.long (q2 &&& (q1 ^^^ (-1 : Int64)))), .second, .val (.long q1), .second, .unset, .unset, .unset, .unset, .unset, .unset] [(.long (q1 ^^^ (-1 : Int64))), (.long ((q2 &&& (q1 ^^^ (-1 : Int64))) ^^^ q4))])) _
            refine XS.land X280.here hx rfl (hb hby at_93) rfl ?_
            show Steps p.tables e below (T280.setTop (mkF m 94 #[.val (.long q1), .second, .val (.long q2), .second, .val (.long q3), .second, .val (.long q4), .second, .val (.int p5), .val (.ref wB), .val (.ref wW), .val (.long q1), .second, .val (.long (q2 &&& (q1 ^^^ (-1 : Int64)))), .second, .val (.long q1), .second, .unset, .unset, .unset, .unset, .unset, .unset] [(.long (((q2 &&& (q1 ^^^ (-1 : Int64))) ^^^ q4) &&& (q1 ^^^ (-1 : Int64))))])) _
            refine XS.lstore X280.here hx rfl (hb hby at_94) rfl (l' := #[.val (.long q1), .second, .val (.long q2), .second, .val (.long q3), .second, .val (.long q4), .second, .val (.int p5), .val (.ref wB), .val (.ref wW), .val (.long q1), .second, .val (.long (q2 &&& (q1 ^^^ (-1 : Int64)))), .second, .val (.long q1), .second, .val (.long (((q2 &&& (q1 ^^^ (-1 : Int64))) ^^^ q4) &&& (q1 ^^^ (-1 : Int64)))), .second, .unset, .unset, .unset, .unset]) rfl ?_
            exact k
          obtain ⟨s₂, o, st298, g1, g2, v, L, ho, ⟨hv, hN⟩, hfe⟩ := pc0_96_0 q1 q2 q3 q4 p5 wB wW q1 (q2 &&& (q1 ^^^ (-1 : Int64))) q1 (((q2 &&& (q1 ^^^ (-1 : Int64))) ^^^ q4) &&& (q1 ^^^ (-1 : Int64))) wB wW X280 hx hZ hw hby hml hown hret hlocks e280 N0 Z0 O0 hS0 (own_disj _ _) (own_disj _ _) E_wB E_wW S_wB S_wW
          exact ⟨s₂, o, pre297 _ st298, g1, g2, v, L, ho, ⟨(by rw [F0, if_neg hc88, if_pos hc278, if_neg hc283, if_pos hc295]; exact hv), hN⟩, hfe⟩
        · have pre299 : ∀ t, Steps p.tables e below (T280.setTop (mkF m 77 #[.val (.long q1), .second, .val (.long q2), .second, .val (.long q3), .second, .val (.long q4), .second, .val (.int p5), .val (.ref wB), .val (.ref wW), .val (.long q1), .second, .val (.long (q2 &&& (q1 ^^^ (-1 : Int64)))), .second, .val (.long q1), .second, .unset, .unset, .unset, .unset, .unset, .unset] [])) t → Steps p.tables e below (s₁.setTop (entryFrame m #[(.long q1), (.long q2), (.long q3), (.long q4), (.int p5)] maxLocals)) t := by
            intro t k
            refine pre294 _ ?_
            show Steps p.tables e below (T280.setTop (mkF m 74 #[.val (.long q1), .second, .val (.long q2), .second, .val (.long q3), .second, .val (.long q4), .second, .val (.int p5), .val (.ref wB), .val (.ref wW), .val (.long q1), .second, .val (.long (q2 &&& (q1 ^^^ (-1 : Int64)))), .second, .val (.long q1), .second, .unset, .unset, .unset, .unset, .unset, .unset] [(.int (p5 &&& (32 : Int32)))])) _
            refine XS.ifNo X280.here hx rfl (hb hby at_74) rfl ((if0 _ _).trans (feq hc295).1) ?_
            exact k
          have pre300 : ∀ t, Steps p.tables e below (T280.setTop (mkF m 96 #[.val (.long q1), .second, .val (.long q2), .second, .val (.long q3), .second, .val (.long q4), .second, .val (.int p5), .val (.ref wB), .val (.ref wW), .val (.long q1), .second, .val (.long (q2 &&& (q1 ^^^ (-1 : Int64)))), .second, .val (.long q1), .second, .val (.long ((q2 &&& (q1 ^^^ (-1 : Int64))) &&& (q1 ^^^ (-1 : Int64)))), .second, .unset, .unset, .unset, .unset] [])) t → Steps p.tables e below (s₁.setTop (entryFrame m #[(.long q1), (.long q2), (.long q3), (.long q4), (.int p5)] maxLocals)) t := by
            intro t k
            refine pre299 _ ?_
            show Steps p.tables e below (T280.setTop (mkF m 77 #[.val (.long q1), .second, .val (.long q2), .second, .val (.long q3), .second, .val (.long q4), .second, .val (.int p5), .val (.ref wB), .val (.ref wW), .val (.long q1), .second, .val (.long (q2 &&& (q1 ^^^ (-1 : Int64)))), .second, .val (.long q1), .second, .unset, .unset, .unset, .unset, .unset, .unset] [])) _
            refine XS.lload X280.here hx rfl (hb hby at_77) rfl ?_
            show Steps p.tables e below (T280.setTop (mkF m 79 #[.val (.long q1), .second, .val (.long q2), .second, .val (.long q3), .second, .val (.long q4), .second, .val (.int p5), .val (.ref wB), .val (.ref wW), .val (.long q1), .second, .val (.long (q2 &&& (q1 ^^^ (-1 : Int64)))), .second, .val (.long q1), .second, .unset, .unset, .unset, .unset, .unset, .unset] [(.long (q2 &&& (q1 ^^^ (-1 : Int64))))])) _
            refine XS.goto X280.here hx rfl (pc0 := 79) (pc' := 87) rfl (hb hby at_79) (by decide) (by decide) ?_
            show Steps p.tables e below (T280.setTop (mkF m 87 #[.val (.long q1), .second, .val (.long q2), .second, .val (.long q3), .second, .val (.long q4), .second, .val (.int p5), .val (.ref wB), .val (.ref wW), .val (.long q1), .second, .val (.long (q2 &&& (q1 ^^^ (-1 : Int64)))), .second, .val (.long q1), .second, .unset, .unset, .unset, .unset, .unset, .unset] [(.long (q2 &&& (q1 ^^^ (-1 : Int64))))])) _
            refine XS.lload X280.here hx rfl (hb hby at_87) rfl ?_
            show Steps p.tables e below (T280.setTop (mkF m 89 #[.val (.long q1), .second, .val (.long q2), .second, .val (.long q3), .second, .val (.long q4), .second, .val (.int p5), .val (.ref wB), .val (.ref wW), .val (.long q1), .second, .val (.long (q2 &&& (q1 ^^^ (-1 : Int64)))), .second, .val (.long q1), .second, .unset, .unset, .unset, .unset, .unset, .unset] [(.long q1), (.long (q2 &&& (q1 ^^^ (-1 : Int64))))])) _
            refine X280.ldc2Long hx hown (mvT hZ (hw _ (List.mem_of_getElem? (i := 3) rfl))) (g := (mkF m 89 #[.val (.long q1), .second, .val (.long q2), .second, .val (.long q3), .second, .val (.long q4), .second, .val (.int p5), .val (.ref wB), .val (.ref wW), .val (.long q1), .second, .val (.long (q2 &&& (q1 ^^^ (-1 : Int64)))), .second, .val (.long q1), .second, .unset, .unset, .unset, .unset, .unset, .unset] [(.long q1), (.long (q2 &&& (q1 ^^^ (-1 : Int64))))])) rfl (hb hby at_89) _ ?_
            show Steps p.tables e below (T280.setTop (mkF m 92 #[.val (.long q1), .second, .val (.long q2), .second, .val (.long q3), .second, .val (.long q4), .second, .val (.int p5), .val (.ref wB), .val (.ref wW), .val (.long q1), .second, .val (.long (q2 &&& (q1 ^^^ (-1 : Int64)))), .second, .val (.long q1), .second, .unset, .unset, .unset, .unset, .unset, .unset] [(.long (-1 : Int64)), (.long q1), (.long (q2 &&& (q1 ^^^ (-1 : Int64))))])) _
            refine XS.lxor X280.here hx rfl (hb hby at_92) rfl ?_
            show Steps p.tables e below (T280.setTop (mkF m 93 #[.val (.long q1), .second, .val (.long q2), .second, .val (.long q3), .second, .val (.long q4), .second, .val (.int p5), .val (.ref wB), .val (.ref wW), .val (.long q1), .second, .val (.long (q2 &&& (q1 ^^^ (-1 : Int64)))), .second, .val (.long q1), .second, .unset, .unset, .unset, .unset, .unset, .unset] [(.long (q1 ^^^ (-1 : Int64))), (.long (q2 &&& (q1 ^^^ (-1 : Int64))))])) _
            refine XS.land X280.here hx rfl (hb hby at_93) rfl ?_
            show Steps p.tables e below (T280.setTop (mkF m 94 #[.val (.long q1), .second, .val (.long q2), .second, .val (.long q3), .second, .val (.long q4), .second, .val (.int p5), .val (.ref wB), .val (.ref wW), .val (.long q1), .second, .val (.long (q2 &&& (q1 ^^^ (-1 : Int64)))), .second, .val (.long q1), .second, .unset, .unset, .unset, .unset, .unset, .unset] [(.long ((q2 &&& (q1 ^^^ (-1 : Int64))) &&& (q1 ^^^ (-1 : Int64))))])) _
            refine XS.lstore X280.here hx rfl (hb hby at_94) rfl (l' := #[.val (.long q1), .second, .val (.long q2), .second, .val (.long q3), .second, .val (.long q4), .second, .val (.int p5), .val (.ref wB), .val (.ref wW), .val (.long q1), .second, .val (.long (q2 &&& (q1 ^^^ (-1 : Int64)))), .second, .val (.long q1), .second, .val (.long ((q2 &&& (q1 ^^^ (-1 : Int64))) &&& (q1 ^^^ (-1 : Int64)))), .second, .unset, .unset, .unset, .unset]) rfl ?_
            exact k
          obtain ⟨s₂, o, st301, g1, g2, v, L, ho, ⟨hv, hN⟩, hfe⟩ := pc0_96_0 q1 q2 q3 q4 p5 wB wW q1 (q2 &&& (q1 ^^^ (-1 : Int64))) q1 ((q2 &&& (q1 ^^^ (-1 : Int64))) &&& (q1 ^^^ (-1 : Int64))) wB wW X280 hx hZ hw hby hml hown hret hlocks e280 N0 Z0 O0 hS0 (own_disj _ _) (own_disj _ _) E_wB E_wW S_wB S_wW
          exact ⟨s₂, o, pre300 _ st301, g1, g2, v, L, ho, ⟨(by rw [F0, if_neg hc88, if_pos hc278, if_neg hc283, if_neg hc295]; exact hv), hN⟩, hfe⟩
    · have pre302 : ∀ t, Steps p.tables e below (T275.setTop (mkF m 25 #[.val (.long q1), .second, .val (.long q2), .second, .val (.long q3), .second, .val (.long q4), .second, .val (.int p5), .val (.ref wB), .unset, .unset, .unset, .unset, .unset, .unset, .unset, .unset, .unset, .unset, .unset, .unset, .unset] [])) t → Steps p.tables e below (s₁.setTop (entryFrame m #[(.long q1), (.long q2), (.long q3), (.long q4), (.int p5)] maxLocals)) t := by
        intro t k
        refine pre277 _ ?_
        show Steps p.tables e below (T275.setTop (mkF m 22 #[.val (.long q1), .second, .val (.long q2), .second, .val (.long q3), .second, .val (.long q4), .second, .val (.int p5), .val (.ref wB), .unset, .unset, .unset, .unset, .unset, .unset, .unset, .unset, .unset, .unset, .unset, .unset, .unset] [(.int (p5 &&& (2 : Int32)))])) _
        refine XS.ifNo X275.here hx rfl (hb hby at_22) rfl ((if0 _ _).trans (feq hc278).1) ?_
        exact k
      obtain ⟨T303, X303, e303, st303⟩ := getS2 X275 hx hZ hown (host := "") (Or.inl (hw _ (List.mem_of_getElem? (i := 0) rfl))) Via.refl e275 (S_wB.ext O0.2) (g := (mkF m 25 #[.val (.long q1), .second, .val (.long q2), .second, .val (.long q3), .second, .val (.long q4), .second, .val (.int p5), .val (.ref wB), .unset, .unset, .unset, .unset, .unset, .unset, .unset, .unset, .unset, .unset, .unset, .unset, .unset] [])) rfl (hb hby at_25)
      have pre304 : ∀ t, Steps p.tables e below (T303.setTop (mkF m 28 #[.val (.long q1), .second, .val (.long q2), .second, .val (.long q3), .second, .val (.long q4), .second, .val (.int p5), .val (.ref wB), .unset, .unset, .unset, .unset, .unset, .unset, .unset, .unset, .unset, .unset, .unset, .unset, .unset] [(.ref wB)])) t → Steps p.tables e below (s₁.setTop (entryFrame m #[(.long q1), (.long q2), (.long q3), (.long q4), (.int p5)] maxLocals)) t := by
        intro t k
        refine pre302 _ ?_
        show Steps p.tables e below (T275.setTop (mkF m 25 #[.val (.long q1), .second, .val (.long q2), .second, .val (.long q3), .second, .val (.long q4), .second, .val (.int p5), .val (.ref wB), .unset, .unset, .unset, .unset, .unset, .unset, .unset, .unset, .unset, .unset, .unset, .unset, .unset] [])) _
        refine st303 _ ?_
        exact k
      have pre305 : ∀ t, Steps p.tables e below (T303.setTop (mkF m 54 #[.val (.long q1), .second, .val (.long q2), .second, .val (.long q3), .second, .val (.long q4), .second, .val (.int p5), .val (.ref wB), .val (.ref wB), .val (.long q1), .second, .val (.long (q2 &&& (q1 ^^^ (-1 : Int64)))), .second, .unset, .unset, .unset, .unset, .unset, .unset, .unset, .unset] [(.int (p5 &&& (16 : Int32)))])) t → Steps p.tables e below (s₁.setTop (entryFrame m #[(.long q1), (.long q2), (.long q3), (.long q4), (.int p5)] maxLocals)) t := by
        intro t k
        refine pre304 _ ?_
        show Steps p.tables e below (T303.setTop (mkF m 28 #[.val (.long q1), .second, .val (.long q2), .second, .val (.long q3), .second, .val (.long q4), .second, .val (.int p5), .val (.ref wB), .unset, .unset, .unset, .unset, .unset, .unset, .unset, .unset, .unset, .unset, .unset, .unset, .unset] [(.ref wB)])) _
        refine XS.goto X303.here hx rfl (pc0 := 28) (pc' := 34) rfl (hb hby at_28) (by decide) (by decide) ?_
        show Steps p.tables e below (T303.setTop (mkF m 34 #[.val (.long q1), .second, .val (.long q2), .second, .val (.long q3), .second, .val (.long q4), .second, .val (.int p5), .val (.ref wB), .unset, .unset, .unset, .unset, .unset, .unset, .unset, .unset, .unset, .unset, .unset, .unset, .unset] [(.ref wB)])) _
        refine XS.astore X303.here hx rfl (hb hby at_34) rfl rfl (l' := #[.val (.long q1), .second, .val (.long q2), .second, .val (.long q3), .second, .val (.long q4), .second, .val (.int p5), .val (.ref wB), .val (.ref wB), .unset, .unset, .unset, .unset, .unset, .unset, .unset, .unset, .unset, .unset, .unset, .unset]) rfl ?_
        show Steps p.tables e below (T303.setTop (mkF m 36 #[.val (.long q1), .second, .val (.long q2), .second, .val (.long q3), .second, .val (.long q4), .second, .val (.int p5), .val (.ref wB), .val (.ref wB), .unset, .unset, .unset, .unset, .unset, .unset, .unset, .unset, .unset, .unset, .unset, .unset] [])) _
        refine XS.lloadN X303.here hx rfl (hb hby at_36) rfl ?_
        show Steps p.tables e below (T303.setTop (mkF m 37 #[.val (.long q1), .second, .val (.long q2), .second, .val (.long q3), .second, .val (.long q4), .second, .val (.int p5), .val (.ref wB), .val (.ref wB), .unset, .unset, .unset, .unset, .unset, .unset, .unset, .unset, .unset, .unset, .unset, .unset] [(.long q1)])) _
        refine XS.lstore X303.here hx rfl (hb hby at_37) rfl (l' := #[.val (.long q1), .second, .val (.long q2), .second, .val (.long q3), .second, .val (.long q4), .second, .val (.int p5), .val (.ref wB), .val (.ref wB), .val (.long q1), .second, .unset, .unset, .unset, .unset, .unset, .unset, .unset, .unset, .unset, .unset]) rfl ?_
        show Steps p.tables e below (T303.setTop (mkF m 39 #[.val (.long q1), .second, .val (.long q2), .second, .val (.long q3), .second, .val (.long q4), .second, .val (.int p5), .val (.ref wB), .val (.ref wB), .val (.long q1), .second, .unset, .unset, .unset, .unset, .unset, .unset, .unset, .unset, .unset, .unset] [])) _
        refine XS.lloadN X303.here hx rfl (hb hby at_39) rfl ?_
        show Steps p.tables e below (T303.setTop (mkF m 40 #[.val (.long q1), .second, .val (.long q2), .second, .val (.long q3), .second, .val (.long q4), .second, .val (.int p5), .val (.ref wB), .val (.ref wB), .val (.long q1), .second, .unset, .unset, .unset, .unset, .unset, .unset, .unset, .unset, .unset, .unset] [(.long q2)])) _
        refine XS.lload X303.here hx rfl (hb hby at_40) rfl ?_
        show Steps p.tables e below (T303.setTop (mkF m 42 #[.val (.long q1), .second, .val (.long q2), .second, .val (.long q3), .second, .val (.long q4), .second, .val (.int p5), .val (.ref wB), .val (.ref wB), .val (.long q1), .second, .unset, .unset, .unset, .unset, .unset, .unset, .unset, .unset, .unset, .unset] [(.long q1), (.long q2)])) _
        refine X303.ldc2Long hx hown (mvT hZ (hw _ (List.mem_of_getElem? (i := 3) rfl))) (g := (mkF m 42 #[.val (.long q1), .second, .val (.long q2), .second, .val (.long q3), .second, .val (.long q4), .second, .val (.int p5), .val (.ref wB), .val (.ref wB), .val (.long q1), .second, .unset, .unset, .unset, .unset, .unset, .unset, .unset, .unset, .unset, .unset] [(.long q1), (.long q2)])) rfl (hb hby at_42) _ ?_
        show Steps p.tables e below (T303.setTop (mkF m 45 #[.val (.long q1), .second, .val (.long q2), .second, .val (.long q3), .second, .val (.long q4), .second, .val (.int p5), .val (.ref wB), .val (.ref wB), .val (.long q1), .second, .unset, .unset, .unset, .unset, .unset, .unset, .unset, .unset, .unset, .unset] [(.long (-1 : Int64)), (.long q1), (.long q2)])) _
        refine XS.lxor X303.here hx rfl (hb hby at_45) rfl ?_
        show Steps p.tables e below (T303.setTop (mkF m 46 #[.val (.long q1), .second, .val (.long q2), .second, .val (.long q3), .second, .val (.long q4), .second, .val (.int p5), .val (.ref wB), .val (.ref wB), .val (.long q1), .second, .unset, .unset, .unset, .unset, .unset, .unset, .unset, .unset, .unset, .unset] [(.long (q1 ^^^ (-1 : Int64))), (.long q2)])) _
        refine XS.land X303.here hx rfl (hb hby at_46) rfl ?_
        show Steps p.tables e below (T303.setTop (mkF m 47 #[.val (.long q1), .second, .val (.long q2), .second, .val (.long q3), .second, .val (.long q4), .second, .val (.int p5), .val (.ref wB), .val (.ref wB), .val (.long q1), .second, .unset, .unset, .unset, .unset, .unset, .unset, .unset, .unset, .unset, .unset] [(.long (q2 &&& (q1 ^^^ (-1 : Int64))))])) _
        refine XS.lstore X303.here hx rfl (hb hby at_47) rfl (l' := #[.val (.long q1), .second, .val (.long q2), .second, .val (.long q3), .second, .val (.long q4), .second, .val (.int p5), .val (.ref wB), .val (.ref wB), .val (.long q1), .second, .val (.long (q2 &&& (q1 ^^^ (-1 : Int64)))), .second, .unset, .unset, .unset, .unset, .unset, .unset, .unset, .unset]) rfl ?_
        show Steps p.tables e below (T303.setTop (mkF m 49 #[.val (.long q1), .second, .val (.long q2), .second, .val (.long q3), .second, .val (.long q4), .second, .val (.int p5), .val (.ref wB), .val (.ref wB), .val (.long q1), .second, .val (.long (q2 &&& (q1 ^^^ (-1 : Int64)))), .second, .unset, .unset, .unset, .unset, .unset, .unset, .unset, .unset] [])) _
        refine XS.iload X303.here hx rfl (hb hby at_49) rfl ?_
        show Steps p.tables e below (T303.setTop (mkF m 51 #[.val (.long q1), .second, .val (.long q2), .second, .val (.long q3), .second, .val (.long q4), .second, .val (.int p5), .val (.ref wB), .val (.ref wB), .val (.long q1), .second, .val (.long (q2 &&& (q1 ^^^ (-1 : Int64)))), .second, .unset, .unset, .unset, .unset, .unset, .unset, .unset, .unset] [(.int p5)])) _
        refine XS.bipush X303.here hx rfl (hb hby at_51) ?_
        show Steps p.tables e below (T303.setTop (mkF m 53 #[.val (.long q1), .second, .val (.long q2), .second, .val (.long q3), .second, .val (.long q4), .second, .val (.int p5), .val (.ref wB), .val (.ref wB), .val (.long q1), .second, .val (.long (q2 &&& (q1 ^^^ (-1 : Int64)))), .second, .unset, .unset, .unset, .unset, .unset, .unset, .unset, .unset] [(.int (16 : Int32)), (.int p5)])) _
        refine XS.iand X303.here hx rfl (hb hby at_53) rfl ?_
        exact k
      by_cases hc306 : (p5 &&& (16 : Int32)) = (0 : Int32)
      · have pre307 : ∀ t, Steps p.tables e below (T303.setTop (mkF m 62 #[.val (.long q1), .second, .val (.long q2), .second, .val (.long q3), .second, .val (.long q4), .second, .val (.int p5), .val (.ref wB), .val (.ref wB), .val (.long q1), .second, .val (.long (q2 &&& (q1 ^^^ (-1 : Int64)))), .second, .unset, .unset, .unset, .unset, .unset, .unset, .unset, .unset] [])) t → Steps p.tables e below (s₁.setTop (entryFrame m #[(.long q1), (.long q2), (.long q3), (.long q4), (.int p5)] maxLocals)) t := by
          intro t k
          refine pre305 _ ?_
          show Steps p.tables e below (T303.setTop (mkF m 54 #[.val (.long q1), .second, .val (.long q2), .second, .val (.long q3), .second, .val (.long q4), .second, .val (.int p5), .val (.ref wB), .val (.ref wB), .val (.long q1), .second, .val (.long (q2 &&& (q1 ^^^ (-1 : Int64)))), .second, .unset, .unset, .unset, .unset, .unset, .unset, .unset, .unset] [(.int (p5 &&& (16 : Int32)))])) _
          refine XS.ifYes X303.here hx rfl (pc0 := 54) (pc' := 62) rfl (hb hby at_54) rfl ((if0 _ _).trans (teq hc306).1) (by decide) (by decide) ?_
          exact k
        have pre308 : ∀ t, Steps p.tables e below (T303.setTop (mkF m 74 #[.val (.long q1), .second, .val (.long q2), .second, .val (.long q3), .second, .val (.long q4), .second, .val (.int p5), .val (.ref wB), .val (.ref wB), .val (.long q1), .second, .val (.long (q2 &&& (q1 ^^^ (-1 : Int64)))), .second, .val (.long (q1 ^^^ q3)), .second, .unset, .unset, .unset, .unset, .unset, .unset] [(.int (p5 &&& (32 : Int32)))])) t → Steps p.tables e below (s₁.setTop (entryFrame m #[(.long q1), (.long q2), (.long q3), (.long q4), (.int p5)] maxLocals)) t := by
          intro t k
          refine pre307 _ ?_
          show Steps p.tables e below (T303.setTop (mkF m 62 #[.val (.long q1), .second, .val (.long q2), .second, .val (.long q3), .second, .val (.long q4), .second, .val (.int p5), .val (.ref wB), .val (.ref wB), .val (.long q1), .second, .val (.long (q2 &&& (q1 ^^^ (-1 : Int64)))), .second, .unset, .unset, .unset, .unset, .unset, .unset, .unset, .unset] [])) _
          refine XS.lload X303.here hx rfl (hb hby at_62) rfl ?_
          show Steps p.tables e below (T303.setTop (mkF m 64 #[.val (.long q1), .second, .val (.long q2), .second, .val (.long q3), .second, .val (.long q4), .second, .val (.int p5), .val (.ref wB), .val (.ref wB), .val (.long q1), .second, .val (.long (q2 &&& (q1 ^^^ (-1 : Int64)))), .second, .unset, .unset, .unset, .unset, .unset, .unset, .unset, .unset] [(.long q1)])) _
          refine XS.lload X303.here hx rfl (hb hby at_64) rfl ?_
          show Steps p.tables e below (T303.setTop (mkF m 66 #[.val (.long q1), .second, .val (.long q2), .second, .val (.long q3), .second, .val (.long q4), .second, .val (.int p5), .val (.ref wB), .val (.ref wB), .val (.long q1), .second, .val (.long (q2 &&& (q1 ^^^ (-1 : Int64)))), .second, .unset, .unset, .unset, .unset, .unset, .unset, .unset, .unset] [(.long q3), (.long q1)])) _
          refine XS.lxor X303.here hx rfl (hb hby at_66) rfl ?_
          show Steps p.tables e below (T303.setTop (mkF m 67 #[.val (.long q1), .second, .val (.long q2), .second, .val (.long q3), .second, .val (.long q4), .second, .val (.int p5), .val (.ref wB), .val (.ref wB), .val (.long q1), .second, .val (.long (q2 &&& (q1 ^^^ (-1 : Int64)))), .second, .unset, .unset, .unset, .unset, .unset, .unset, .unset, .unset] [(.long (q1 ^^^ q3))])) _
          refine XS.lstore X303.here hx rfl (hb hby at_67) rfl (l' := #[.val (.long q1), .second, .val (.long q2), .second, .val (.long q3), .second, .val (.long q4), .second, .val (.int p5), .val (.ref wB), .val (.ref wB), .val (.long q1), .second, .val (.long (q2 &&& (q1 ^^^ (-1 : Int64)))), .second, .val (.long (q1 ^^^ q3)), .second, .unset, .unset, .unset, .unset, .unset, .unset]) rfl ?_
          show Steps p.tables e below (T303.setTop (mkF m 69 #[.val (.long q1), .second, .val (.long q2), .second, .val (.long q3), .second, .val (.long q4), .second, .val (.int p5), .val (.ref wB), .val (.ref wB), .val (.long q1), .second, .val (.long (q2 &&& (q1 ^^^ (-1 : Int64)))), .second, .val (.long (q1 ^^^ q3)), .second, .unset, .unset, .unset, .unset, .unset, .unset] [])) _
          refine XS.iload X303.here hx rfl (hb hby at_69) rfl ?_
          show Steps p.tables e below (T303.setTop (mkF m 71 #[.val (.long q1), .second, .val (.long q2), .second, .val (.long q3), .second, .val (.long q4), .second, .val (.int p5), .val (.ref wB), .val (.ref wB), .val (.long q1), .second, .val (.long (q2 &&& (q1 ^^^ (-1 : Int64)))), .second, .val (.long (q1 ^^^ q3)), .second, .unset, .unset, .unset, .unset, .unset, .unset] [(.int p5)])) _
          refine XS.bipush X303.here hx rfl (hb hby at_71) ?_
          show Steps p.tables e below (T303.setTop (mkF m 73 #[.val (.long q1), .second, .val (.long q2), .second, .val (.long q3), .second, .val (.long q4), .second, .val (.int p5), .val (.ref wB), .val (.ref wB), .val (.long q1), .second, .val (.long (q2 &&& (q1 ^^^ (-1 : Int64)))), .second, .val (.long (q1 ^^^ q3)), .second, .unset, .unset, .unset, .unset, .unset, .unset] [(.int (32 : Int32)), (.int p5)])) _
          refine XS.iand X303.here hx rfl (hb hby at_73) rfl ?_
          exact k
        by_cases hc309 : (p5 &&& (32 : Int32)) = (0 : Int32)
        · have pre310 : ∀ t, Steps p.tables e below (T303.setTop (mkF m 82 #[.val (.long q1), .second, .val (.long q2), .second, .val (.long q3), .second, .val (.long q4), .second, .val (.int p5), .val (.ref wB), .val (.ref wB), .val (.long q1), .second, .val (.long (q2 &&& (q1 ^^^ (-1 : Int64)))), .second, .val (.long (q1 ^^^ q3)), .second, .unset, .unset, .unset, .unset, .unset, .unset] [])) t → Steps p.tables e below (s₁.setTop (entryFrame m #[(.long q1), (.long q2), (.long q3), (.long q4), (.int p5)] maxLocals)) t := by
            intro t k
            refine pre308 _ ?_
            show Steps p.tables e below (T303.setTop (mkF m 74 #[.val (.long q1), .second, .val (.long q2), .second, .val (.long q3), .second, .val (.long q4), .second, .val (.int p5), .val (.ref wB), .val (.ref wB), .val (.long q1), .second, .val (.long (q2 &&& (q1 ^^^ (-1 : Int64)))), .second, .val (.long (q1 ^^^ q3)), .second, .unset, .unset, .unset, .unset, .unset, .unset] [(.int (p5 &&& (32 : Int32)))])) _
            refine XS.ifYes X303.here hx rfl (pc0 := 74) (pc' := 82) rfl (hb hby at_74) rfl ((if0 _ _).trans (teq hc309).1) (by decide) (by decide) ?_
            exact k
          have pre311 : ∀ t, Steps p.tables e below (T303.setTop (mkF m 96 #[.val (.long q1), .second, .val (.long q2), .second, .val (.long q3), .second, .val (.long q4), .second, .val (.int p5), .val (.ref wB), .val (.ref wB), .val (.long q1), .second, .val (.long (q2 &&& (q1 ^^^ (-1 : Int64)))), .second, .val (.long (q1 ^^^ q3)), .second, .val (.long (((q2 &&& (q1 ^^^ (-1 : Int64))) ^^^ q4) &&& ((q1 ^^^ q3) ^^^ (-1 : Int64)))), .second, .unset, .unset, .unset, .unset] [])) t → Steps p.tables e below (s₁.setTop (entryFrame m #[(.long q1), (.long q2), (.long q3), (.long q4), (.int p5)] maxLocals)) t := by
            intro t k
            refine pre310 _ ?_
            show Steps p.tables e below (T303.setTop (mkF m 82 #[.val (.long q1), .second, .val (.long q2), .second, .val (.long q3), .second, .val (.long q4), .second, .val (.int p5), .val (.ref wB), .val (.ref wB), .val (.long q1), .second, .val (.long (q2 &&& (q1 ^^^ (-1 : Int64)))), .second, .val (.long (q1 ^^^ q3)), .second, .unset, .unset, .unset, .unset, .unset, .unset] [])) _
            refine XS.lload X303.here hx rfl (hb hby at_82) rfl ?_
            show Steps p.tables e below (T303.setTop (mkF m 84 #[.val (.long q1), .second, .val (.long q2), .second, .val (.long q3), .second, .val (.long q4), .second, .val (.int p5), .val (.ref wB), .val (.ref wB), .val (.long q1), .second, .val (.long (q2 &&& (q1 ^^^ (-1 : Int64)))), .second, .val (.long (q1 ^^^ q3)), .second, .unset, .unset, .unset, .unset, .unset, .unset] [(.long (q2 &&& (q1 ^^^ (-1 : Int64))))])) _
            refine XS.lload X303.here hx rfl (hb hby at_84) rfl ?_
            show Steps p.tables e below (T303.setTop (mkF m 86 #[.val (.long q1), .second, .val (.long q2), .second, .val (.long q3), .second, .val (.long q4), .second, .val (.int p5), .val (.ref wB), .val (.ref wB), .val (.long q1), .second, .val (.long (q2 &&& (q1 ^^^ (-1 : Int64)))), .second, .val (.long (q1 ^^^ q3)), .second, .unset, .unset, .unset, .unset, .unset, .unset] [(.long q4), (.long (q2 &&& (q1 ^^^ (-1 : Int64))))])) _
            refine XS.lxor X303.here hx rfl (hb hby at_86) rfl ?_
            show Steps p.tables e below (T303.setTop (mkF m 87 #[.val (.long q1), .second, .val (.long q2), .second, .val (.long q3), .second, .val (.long q4), .second, .val (.int p5), .val (.ref wB), .val (.ref wB), .val (.long q1), .second, .val (.long (q2 &&& (q1 ^^^ (-1 : Int64)))), .second, .val (.long (q1 ^^^ q3)), .second, .unset, .unset, .unset, .unset, .unset, .unset] [(.long ((q2 &&& (q1 ^^^ (-1 : Int64))) ^^^ q4))])) _
            refine XS.lload X303.here hx rfl (hb hby at_87) rfl ?_
            show Steps p.tables e below (T303.setTop (mkF m 89 #[.val (.long q1), .second, .val (.long q2), .second, .val (.long q3), .second, .val (.long q4), .second, .val (.int p5), .val (.ref wB), .val (.ref wB), .val (.long q1), .second, .val (.long (q2 &&& (q1 ^^^ (-1 : Int64)))), .second, .val (.long (q1 ^^^ q3)), .second, .unset, .unset, .unset, .unset, .unset, .unset] [(.long (q1 ^^^ q3)), (.long ((q2 &&& (q1 ^^^ (-1 : Int64))) ^^^ q4))])) _
            refine X303.ldc2Long hx hown (mvT hZ (hw _ (List.mem_of_getElem? (i := 3) rfl))) (g := (mkF m 89 #[.val (.long q1), .second, .val (.long q2), .second, .val (.long q3), .second, .val (.long q4), .second, .val (.int p5), .val (.ref wB), .val (.ref wB), .val (.long q1), .second, .val (.long (q2 &&& (q1 ^^^ (-1 : Int64)))), .second, .val (.long (q1 ^^^ q3)), .second, .unset, .unset, .unset, .unset, .unset, .unset] [(.long (q1 ^^^ q3)), (.long ((q2 &&& (q1 ^^^ (-1 : Int64))) ^^^ q4))])) rfl (hb hby at_89) _ ?_
            show Steps p.tables e below (T303.setTop (mkF m 92 #[.val (.long q1), .second, .val (.long q2), .second, .val (.long q3), .second, .val (.long q4), .second, .val (.int p5), .val (.ref wB), .val (.ref wB), .val (.long q1), .second, .val (.long (q2 &&& (q1 ^^^ (-1 : Int64)))), .second, .val (.long (q1 ^^^ q3)), .second, .unset, .unset, .unset, .unset, .unset, .unset] [(.long (-1 : Int64)), (.long (q1 ^^^ q3)), (.long ((q2 &&& (q1 ^^^ (-1 : Int64))) ^^^ q4))])) _
            refine XS.lxor X303.here hx rfl (hb hby at_92) rfl ?_
            show Steps p.tables e below (T303.setTop (mkF m 93 #[.val (.long q1), .second, .val (.long q2), .second, .val (.long q3), .second, .val (.long q4), .second, .val (.int p5), .val (.ref wB), .val (.ref wB), .val (.long q1), .second, .val (.long (q2 &&& (q1 ^^^ (-1 : Int64)))), .second, .val (.long (q1 ^^^ q3)), .second, .unset, .unset, .unset, .unset, .unset, .unset] [(.long ((q1 ^^^ q3) ^^^ (-1 : Int64))), (.long ((q2 &&& (q1 ^^^ (-1 : Int64))) ^^^ q4))])) _
            refine XS.land X303.here hx rfl (hb hby at_93) rfl ?_
            show Steps p.tables e below (T303.setTop (mkF m 94 #[.val (.long q1), .second, .val (.long q2), .second, .val (.long q3), .second, .val (.long q4), .second, .val (.int p5), .val (.ref wB), .val (.ref wB), .val (.long q1), .second, .val (.long (q2 &&& (q1 ^^^ (-1 : Int64)))), .second, .val (.long (q1 ^^^ q3)), .second, .unset, .unset, .unset, .unset, .unset, .unset] [(.long (((q2 &&& (q1 ^^^ (-1 : Int64))) ^^^ q4) &&& ((q1 ^^^ q3) ^^^ (-1 : Int64))))])) _
            refine XS.lstore X303.here hx rfl (hb hby at_94) rfl (l' := #[.val (.long q1), .second, .val (.long q2), .second, .val (.long q3), .second, .val (.long q4), .second, .val (.int p5), .val (.ref wB), .val (.ref wB), .val (.long q1), .second, .val (.long (q2 &&& (q1 ^^^ (-1 : Int64)))), .second, .val (.long (q1 ^^^ q3)), .second, .val (.long (((q2 &&& (q1 ^^^ (-1 : Int64))) ^^^ q4) &&& ((q1 ^^^ q3) ^^^ (-1 : Int64)))), .second, .unset, .unset, .unset, .unset]) rfl ?_
            exact k
          obtain ⟨s₂, o, st312, g1, g2, v, L, ho, ⟨hv, hN⟩, hfe⟩ := pc0_96_0 q1 q2 q3 q4 p5 wB wB q1 (q2 &&& (q1 ^^^ (-1 : Int64))) (q1 ^^^ q3) (((q2 &&& (q1 ^^^ (-1 : Int64))) ^^^ q4) &&& ((q1 ^^^ q3) ^^^ (-1 : Int64))) wB wW X303 hx hZ hw hby hml hown hret hlocks e303 N0 Z0 O0 hS0 (own_disj _ _) (own_disj _ _) E_wB E_wB S_wB S_wW
          exact ⟨s₂, o, pre311 _ st312, g1, g2, v, L, ho, ⟨(by rw [F0, if_neg hc88, if_neg hc278, if_pos hc306, if_pos hc309]; exact hv), hN⟩, hfe⟩
        · have pre313 : ∀ t, Steps p.tables e below (T303.setTop (mkF m 77 #[.val (.long q1), .second, .val (.long q2), .second, .val (.long q3), .second, .val (.long q4), .second, .val (.int p5), .val (.ref wB), .val (.ref wB), .val (.long q1), .second, .val (.long (q2 &&& (q1 ^^^ (-1 : Int64)))), .second, .val (.long (q1 ^^^ q3)), .second, .unset, .unset, .unset, .unset, .unset, .unset] [])) t → Steps p.tables e below (s₁.setTop (entryFrame m #[(.long q1), (.long q2), (.long q3), (.long q4), (.int p5)] maxLocals)) t := by
            intro t k
            refine pre308 _ ?_
            show Steps p.tables e below (T303.setTop (mkF m 74 #[.val (.long q1), .second, .val (.long q2), .second, .val (.long q3), .second, .val (.long q4), .second, .val (.int p5), .val (.ref wB), .val (.ref wB), .val (.long q1), .second, .val (.long (q2 &&& (q1 ^^^ (-1 : Int64)))), .second, .val (.long (q1 ^^^ q3)), .second, .unset, .unset, .unset, .unset, .unset, .unset] [(.int (p5 &&& (32 : Int32)))])) _
            refine XS.ifNo X303.here hx rfl (hb hby at_74) rfl ((if0 _ _).trans (feq hc309).1) ?_
            exact k
          have pre314 : ∀ t, Steps p.tables e below (T303.setTop (mkF m 96 #[.val (.long q1), .second, .val (.long q2), .second, .val (.long q3), .second, .val (.long q4), .second, .val (.int p5), .val (.ref wB), .val (.ref wB), .val (.long q1), .second, .val (.long (q2 &&& (q1 ^^^ (-1 : Int64)))), .second, .val (.long (q1 ^^^ q3)), .second, .val (.long ((q2 &&& (q1 ^^^ (-1 : Int64))) &&& ((q1 ^^^ q3) ^^^ (-1 : Int64)))), .second, .unset, .unset, .unset, .unset] [])) t → Steps p.tables e below (s₁.setTop (entryFrame m #[(.long q1), (.long q2), (.long q3), (.long q4), (.int p5)] maxLocals)) t := by
            intro t k
            refine pre313 _ ?_
            show Steps p.tables e below (T303.setTop (mkF m 77 #[.val (.long q1), .second, .val (.long q2), .second, .val (.long q3), .second, .val (.long q4), .second, .val (.int p5), .val (.ref wB), .val (.ref wB), .val (.long q1), .second, .val (.long (q2 &&& (q1 ^^^ (-1 : Int64)))), .second, .val (.long (q1 ^^^ q3)), .second, .unset, .unset, .unset, .unset, .unset, .unset] [])) _
            refine XS.lload X303.here hx rfl (hb hby at_77) rfl ?_
            show Steps p.tables e below (T303.setTop (mkF m 79 #[.val (.long q1), .second, .val (.long q2), .second, .val (.long q3), .second, .val (.long q4), .second, .val (.int p5), .val (.ref wB), .val (.ref wB), .val (.long q1), .second, .val (.long (q2 &&& (q1 ^^^ (-1 : Int64)))), .second, .val (.long (q1 ^^^ q3)), .second, .unset, .unset, .unset, .unset, .unset, .unset] [(.long (q2 &&& (q1 ^^^ (-1 : Int64))))])) _
            refine XS.goto X303.here hx rfl (pc0 := 79) (pc' := 87) rfl (hb hby at_79) (by decide) (by decide) ?_
            show Steps p.tables e below (T303.setTop (mkF m 87 #[.val (.long q1), .second, .val (.long q2), .second, .val (.long q3), .second, .val (.long q4), .second, .val (.int p5), .val (.ref wB), .val (.ref wB), .val (.long q1), .second, .val (.long (q2 &&& (q1 ^^^ (-1 : Int64)))), .second, .val (.long (q1 ^^^ q3)), .second, .unset, .unset, .unset, .unset, .unset, .unset] [(.long (q2 &&& (q1 ^^^ (-1 : Int64))))])) _
            refine XS.lload X303.here hx rfl (hb hby at_87) rfl ?_
            show Steps p.tables e below (T303.setTop (mkF m 89 #[.val (.long q1), .second, .val (.long q2), .second, .val (.long q3), .second, .val (.long q4), .second, .val (.int p5), .val (.ref wB), .val (.ref wB), .val (.long q1), .second, .val (.long (q2 &&& (q1 ^^^ (-1 : Int64)))), .second, .val (.long (q1 ^^^ q3)), .second, .unset, .unset, .unset, .unset, .unset, .unset] [(.long (q1 ^^^ q3)), (.long (q2 &&& (q1 ^^^ (-1 : Int64))))])) _
            refine X303.ldc2Long hx hown (mvT hZ (hw _ (List.mem_of_getElem? (i := 3) rfl))) (g := (mkF m 89 #[.val (.long q1), .second, .val (.long q2), .second, .val (.long q3), .second, .val (.long q4), .second, .val (.int p5), .val (.ref wB), .val (.ref wB), .val (.long q1), .second, .val (.long (q2 &&& (q1 ^^^ (-1 : Int64)))), .second, .val (.long (q1 ^^^ q3)), .second, .unset, .unset, .unset, .unset, .unset, .unset] [(.long (q1 ^^^ q3)), (.long (q2 &&& (q1 ^^^ (-1 : Int64))))])) rfl (hb hby at_89) _ ?_
            show Steps p.tables e below (T303.setTop (mkF m 92 #[.val (.long q1), .second, .val (.long q2), .second, .val (.long q3), .second, .val (.long q4), .second, .val (.int p5), .val (.ref wB), .val (.ref wB), .val (.long q1), .second, .val (.long (q2 &&& (q1 ^^^ (-1 : Int64)))), .second, .val (.long (q1 ^^^ q3)), .second, .unset, .unset, .unset, .unset, .unset, .unset] [(.long (-1 : Int64)), (.long (q1 ^^^ q3)), (.long (q2 &&& (q1 ^^^ (-1 : Int64))))])) _
            refine XS.lxor X303.here hx rfl (hb hby at_92) rfl ?_
            show Steps p.tables e below (T303.setTop (mkF m 93 #[.val (.long q1), .second, .val (.long q2), .second, .val (.long q3), .second, .val (.long q4), .second, .val (.int p5), .val (.ref wB), .val (.ref wB), .val (.long q1), .second, .val (.long (q2 &&& (q1 ^^^ (-1 : Int64)))), .second, .val (.long (q1 ^^^ q3)), .second, .unset, .unset, .unset, .unset, .unset, .unset] [(.long ((q1 ^^^ q3) ^^^ (-1 : Int64))), (.long (q2 &&& (q1 ^^^ (-1 : Int64))))])) _
            refine XS.land X303.here hx rfl (hb hby at_93) rfl ?_
            show Steps p.tables e below (T303.setTop (mkF m 94 #[.val (.long q1), .second, .val (.long q2), .second, .val (.long q3), .second, .val (.long q4), .second, .val (.int p5), .val (.ref wB), .val (.ref wB), .val (.long q1), .second, .val (.long (q2 &&& (q1 ^^^ (-1 : Int64)))), .second, .val (.long (q1 ^^^ q3)), .second, .unset, .unset, .unset, .unset, .unset, .unset] [(.long ((q2 &&& (q1 ^^^ (-1 : Int64))) &&& ((q1 ^^^ q3) ^^^ (-1 : Int64))))])) _
            refine XS.lstore X303.here hx rfl (hb hby at_94) rfl (l' := #[.val (.long q1), .second, .val (.long q2), .second, .val (.long q3), .second, .val (.long q4), .second, .val (.int p5), .val (.ref wB), .val (.ref wB), .val (.long q1), .second, .val (.long (q2 &&& (q1 ^^^ (-1 : Int64)))), .second, .val (.long (q1 ^^^ q3)), .second, .val (.long ((q2 &&& (q1 ^^^ (-1 : Int64))) &&& ((q1 ^^^ q3) ^^^ (-1 : Int64)))), .second, .unset, .unset, .unset, .unset]) rfl ?_
            exact k
          obtain ⟨s₂, o, st315, g1, g2, v, L, ho, ⟨hv, hN⟩, hfe⟩ := pc0_96_0 q1 q2 q3 q4 p5 wB wB q1 (q2 &&& (q1 ^^^ (-1 : Int64))) (q1 ^^^ q3) ((q2 &&& (q1 ^^^ (-1 : Int64))) &&& ((q1 ^^^ q3) ^^^ (-1 : Int64))) wB wW X303 hx hZ hw hby hml hown hret hlocks e303 N0 Z0 O0 hS0 (own_disj _ _) (own_disj _ _) E_wB E_wB S_wB S_wW
          exact ⟨s₂, o, pre314 _ st315, g1, g2, v, L, ho, ⟨(by rw [F0, if_neg hc88, if_neg hc278, if_pos hc306, if_neg hc309]; exact hv), hN⟩, hfe⟩
      · have pre316 : ∀ t, Steps p.tables e below (T303.setTop (mkF m 57 #[.val (.long q1), .second, .val (.long q2), .second, .val (.long q3), .second, .val (.long q4), .second, .val (.int p5), .val (.ref wB), .val (.ref wB), .val (.long q1), .second, .val (.long (q2 &&& (q1 ^^^ (-1 : Int64)))), .second, .unset, .unset, .unset, .unset, .unset, .unset, .unset, .unset] [])) t → Steps p.tables e below (s₁.setTop (entryFrame m #[(.long q1), (.long q2), (.long q3), (.long q4), (.int p5)] maxLocals)) t := by
          intro t k
          refine pre305 _ ?_
          show Steps p.tables e below (T303.setTop (mkF m 54 #[.val (.long q1), .second, .val (.long q2), .second, .val (.long q3), .second, .val (.long q4), .second, .val (.int p5), .val (.ref wB), .val (.ref wB), .val (.long q1), .second, .val (.long (q2 &&& (q1 ^^^ (-1 : Int64)))), .second, .unset, .unset, .unset, .unset, .unset, .unset, .unset, .unset] [(.int (p5 &&& (16 : Int32)))])) _
          refine XS.ifNo X303.here hx rfl (hb hby at_54) rfl ((if0 _ _).trans (feq hc306).1) ?_
          exact k
        have pre317 : ∀ t, Steps p.tables e below (T303.setTop (mkF m 74 #[.val (.long q1), .second, .val (.long q2), .second, .val (.long q3), .second, .val (.long q4), .second, .val (.int p5), .val (.ref wB), .val (.ref wB), .val (.long q1), .second, .val (.long (q2 &&& (q1 ^^^ (-1 : Int64)))), .second, .val (.long q1), .second, .unset, .unset, .unset, .unset, .unset, .unset] [(.int (p5 &&& (32 : Int32)))])) t → Steps p.tables e below (s₁.setTop (entryFrame m #[(.long q1), (.long q2), (.long q3), (.long q4), (.int p5)] maxLocals)) t := by
          intro t k
          refine pre316 _ ?_
          show Steps p.tables e below (T303.setTop (mkF m 57 #[.val (.long q1), .second, .val (.long q2), .second, .val (.long q3), .second, .val (.long q4), .second, .val (.int p5), .val (.ref wB), .val (.ref wB), .val (.long q1), .second, .val (.long (q2 &&& (q1 ^^^ (-1 : Int64)))), .second, .unset, .unset, .unset, .unset, .unset, .unset, .unset, .unset] [])) _
          refine XS.lload X303.here hx rfl (hb hby at_57) rfl ?_
          show Steps p.tables e below (T303.setTop (mkF m 59 #[.val (.long q1), .second, .val (.long q2), .second, .val (.long q3), .second, .val (.long q4), .second, .val (.int p5), .val (.ref wB), .val (.ref wB), .val (.long q1), .second, .val (.long (q2 &&& (q1 ^^^ (-1 : Int64)))), .second, .unset, .unset, .unset, .unset, .unset, .unset, .unset, .unset] [(.long q1)])) _
          refine XS.goto X303.here hx rfl (pc0 := 59) (pc' := 67) rfl (hb hby at_59) (by decide) (by decide) ?_
          show Steps p.tables e below (T303.setTop (mkF m 67 #[.val (.long q1), .second, .val (.long q2), .second, .val (.long q3), .second, .val (.long q4), .second, .val (.int p5), .val (.ref wB), .val (.ref wB), .val (.long q1), .second, .val (.long (q2 &&& (q1 ^^^ (-1 : Int64)))), .second, .unset, .unset, .unset, .unset, .unset, .unset, .unset, .unset] [(.long q1)])) _
          refine XS.lstore X303.here hx rfl (hb hby at_67) rfl (l' := #[.val (.long q1), .second, .val (.long q2), .second, .val (.long q3), .second, .val (.long q4), .second, .val (.int p5), .val (.ref wB), .val (.ref wB), .val (.long q1), .second, .val (.long (q2 &&& (q1 ^^^ (-1 : Int64)))), .second, .val (.long q1), .second, .unset, .unset, .unset, .unset, .unset, .unset]) rfl ?_
          show Steps p.tables e below (T303.setTop (mkF m 69 #[.val (.long q1), .second, .val (.long q2), .second, .val (.long q3), .second, .val (.long q4), .second, .val (.int p5), .val (.ref wB), .val (.ref wB), .val (.long q1), .second, .val (.long (q2 &&& (q1 ^^^ (-1 : Int64)))), .second, .val (.long q1), .second, .unset, .unset, .unset, .unset, .unset, .unset] [])) _
          refine XS.iload X303.here hx rfl (hb hby at_69) rfl ?_
          show Steps p.tables e below (T303.setTop (mkF m 71 #[.val (.long q1), .second, .val (.long q2), .second, .val (.long q3), .second, .val (.long q4), .second, .val (.int p5), .val (.ref wB), .val (.ref wB), .val (.long q1), .second, .val (.long (q2 &&& (q1 ^^^ (-1 : Int64)))), .second, .val (.long q1), .second, .unset, .unset, .unset, .unset, .unset, .unset] [(.int p5)])) _
          refine XS.bipush X303.here hx rfl (hb hby at_71) ?_
          show Steps p.tables e below (T303.setTop (mkF m 73 #[.val (.long q1), .second, .val (.long q2), .second, .val (.long q3), .second, .val (.long q4), .second, .val (.int p5), .val (.ref wB), .val (.ref wB), .val (.long q1), .second, .val (.long (q2 &&& (q1 ^^^ (-1 : Int64)))), .second, .val (.long q1), .second, .unset, .unset, .unset, .unset, .unset, .unset] [(.int (32 : Int32)), (.int p5)])) _
          refine XS.iand X303.here hx rfl (hb hby at_73) rfl ?_
          exact k
        by_cases hc318 : (p5 &&& (32 : Int32)) = (0 : Int32)
        · have pre319 : ∀ t, Steps p.tables e below (T303.setTop (mkF m 82 #[.val (.long q1), .second, .val (.long q2), .second, .val (.long q3), .second, .val (.long q4), .second, .val (.int p5), .val (.ref wB), .val (.ref wB), .val (.long q1), .second, .val (.long (q2 &&& (q1 ^^^ (-1 : Int64)))), .second, .val (.long q1), .second, .unset, .unset, .unset, .unset, .unset, .unset] [])) t → Steps p.tables e below (s₁.setTop (entryFrame m #[(.long q1), (.long q2), (.long q3), (.long q4), (.int p5)] maxLocals)) t := by
            intro t k
            refine pre317 _ ?_
            show Steps p.tables e below (T303.setTop (mkF m 74 #[.val (.long q1), .second, .val (.long q2), .second, .val (.long q3), .second, .val (.long q4), .second, .val (.int p5), .val (.ref wB), .val (.ref wB), .val (.long q1), .second, .val (.long (q2 &&& (q1 ^^^ (-1 : Int64)))), .second, .val (.long q1), .second, .unset, .unset, .unset, .unset, .unset, .unset] [(.int (p5 &&& (32 : Int32)))])) _
            refine XS.ifYes X303.here hx rfl (pc0 := 74) (pc' := 82) rfl (hb hby at_74) rfl ((if0 _ _).trans (teq hc318).1) (by decide) (by decide) ?_
            exact k
          have pre320 : ∀ t, Steps p.tables e below (T303.setTop (mkF m 96 #[.val (.long q1), .second, .val (.long q2), .second, .val (.long q3), .second, .val (.long q4), .second, .val (.int p5), .val (.ref wB), .val (.ref wB), .val (.long q1), .second, .val (.long (q2 &&& (q1 ^^^ (-1 : Int64)))), .second, .val (.long q1), .second, .val (.long (((q2 &&& (q1 ^^^ (-1 : Int64))) ^^^ q4) &&& (q1 ^^^ (-1 : Int64)))), .second, .unset, .unset, .unset, .unset] [])) t → Steps p.tables e below (s₁.setTop (entryFrame m #[(.long q1), (.long q2), (.long q3), (.long q4), (.int p5)] maxLocals)) t := by
            intro t k
            refine pre319 _ ?_
            show Steps p.tables e below (T303.setTop (mkF m 82 #[.val (.long q1), .second, .val (.long q2), .second, .val (.long q3), .second, .val (.long q4), .second, .val (.int p5), .val (.ref wB), .val (.ref wB), .val (.long q1), .second, .val (.long (q2 &&& (q1 ^^^ (-1 : Int64)))), .second, .val (.long q1), .second, .unset, .unset, .unset, .unset, .unset, .unset] [])) _
            refine XS.lload X303.here hx rfl (hb hby at_82) rfl ?_
            show Steps p.tables e below (T303.setTop (mkF m 84 #[.val (.long q1), .second, .val (.long q2), .second, .val (.long q3), .second, .val (.long q4), .second, .val (.int p5), .val (.ref wB), .val (.ref wB), .val (.long q1), .second, .val (.long (q2 &&& (q1 ^^^ (-1 : Int64)))), .second, .val (.long q1), .second, .unset, .unset, .unset, .unset, .unset, .unset] [(.long (q2 &&& (q1 ^^^ (-1 : Int64))))])) _
            refine XS.lload X303.here hx rfl (hb hby at_84) rfl ?_
            show Steps p.tables e below (T303.setTop (mkF m 86 #[.val (.long q1), .second, .val (.long q2), .second, .val (.long q3), .second, .val (.long q4), .second, .val (.int p5), .val (.ref wB), .val (.ref wB), .val (.long q1), .second, .val (.long (q2 &&& (q1 ^^^ (-1 : Int64)))), .second, .val (.long q1), .second, .unset, .unset, .unset, .unset, .unset, .unset] [(.long q4), (.long (q2 &&& (q1 ^^^ (-1 : Int64))))])) _
            refine XS.lxor X303.here hx rfl (hb hby at_86) rfl ?_
            show Steps p.tables e below (T303.setTop (mkF m 87 #[.val (.long q1), .second, .val (.long q2), .second, .val (.long q3), .second, .val (.long q4), .second, .val (.int p5), .val (.ref wB), .val (.ref wB), .val (.long q1), .second, .val (.long (q2 &&& (q1 ^^^ (-1 : Int64)))), .second, .val (.long q1), .second, .unset, .unset, .unset, .unset, .unset, .unset] [(.long ((q2 &&& (q1 ^^^ (-1 : Int64))) ^^^ q4))])) _
            refine XS.lload X303.here hx rfl (hb hby at_87) rfl ?_
            show Steps p.tables e below (T303.setTop (mkF m 89 #[.val (.long q1), .second, .val (.long q2), .second, .val (.long q3), .second, .val (.long q4), .second, .val (.int p5), .val (.ref wB), .val (.ref wB), .val (.long q1), .second, .val (.long (q2 &&& (q1 ^^^ (-1 : Int64)))), .second, .val (.long q1), .second, .unset, .unset, .unset, .unset, .unset, .unset] [(.long q1), (.long ((q2 &&& (q1 ^^^ (-1 : Int64))) ^^^ q4))])) _
            refine X303.ldc2Long hx hown (mvT hZ (hw _ (List.mem_of_getElem? (i := 3) rfl))) (g := (mkF m 89 #[.val (.long q1), .second, .val (.long q2), .second, .val (.long q3), .second, .val (.long q4), .second, .val (.int p5), .val (.ref wB), .val (.ref wB), .val (.long q1), .second, .val (.long (q2 &&& (q1 ^^^ (-1 : Int64)))), .second, .val (.long q1), .second, .unset, .unset, .unset, .unset, .unset, .unset] [(.long q1), (.long ((q2 &&& (q1 ^^^ (-1 : Int64))) ^^^ q4))])) rfl (hb hby at_89) _ ?_
            show Steps p.tables e below (T303.setTop (mkF m 92 #[.val (.long q1), .second, .val (.long q2), .second, .val (.long q3), .second, .val (.long q4), .second, .val (.int p5), .val (.ref wB), .val (.ref wB), .val (.long q1), .second, .val (.long (q2 &&& (q1 ^^^ (-1 : Int64)))), .second, .val (.long q1), .second, .unset, .unset, .unset, .unset, .unset, .unset] [(.long (-1 : Int64)), (.long q1), (.long ((q2 &&& (q1 ^^^ (-1 : Int64))) ^^^ q4))])) _
            refine XS.lxor X303.here hx rfl (hb hby at_92) rfl ?_
            show Steps p.tables e below (T303.setTop (mkF m 93 #[.val (.long q1), .second, .val (.long q2), .second, .val (.long q3), .second, .val (.long q4), .second, .val (.int p5), .val (.ref wB), .val (.ref wB), .val (.long q1), .second, .val (.long (q2 &&& (q1 ^^^ (-1 : Int64)))), .second, .val (.long q1), .second, .unset, .unset, .unset, .unset, .unset, .unset] [(.long (q1 ^^^ (-1 : Int64))), (.long ((q2 &&& (q1 ^^^ (-1 : Int64))) ^^^ q4))])) _
            refine XS.land X303.here hx rfl (hb hby at_93) rfl ?_
            show Steps p.tables e below (T303.setTop (mkF m 94 #[.val (.long q1), .second, .val (.long q2), .second, .val (.long q3), .second, .val (.long q4), .second, .val (.int p5), .val (.ref wB), .val (.ref wB), .val (.long q1), .second, .val (.long (q2 &&& (q1 ^^^ (-1 : Int64)))), .second, .val (.long q1), .second, .unset, .unset, .unset, .unset, .unset, .unset] [(.long (((q2 &&& (q1 ^^^ (-1 : Int64))) ^^^ q4) &&& (q1 ^^^ (-1 : Int64))))])) _
            refine XS.lstore X303.here hx rfl (hb hby at_94) rfl (l' := #[.val (.long q1), .second, .val (.long q2), .second, .val (.long q3), .second, .val (.long q4), .second, .val (.int p5), .val (.ref wB), .val (.ref wB), .val (.long q1), .second, .val (.long (q2 &&& (q1 ^^^ (-1 : Int64)))), .second, .val (.long q1), .second, .val (.long (((q2 &&& (q1 ^^^ (-1 : Int64))) ^^^ q4) &&& (q1 ^^^ (-1 : Int64)))), .second, .unset, .unset, .unset, .unset]) rfl ?_
            exact k
          obtain ⟨s₂, o, st321, g1, g2, v, L, ho, ⟨hv, hN⟩, hfe⟩ := pc0_96_0 q1 q2 q3 q4 p5 wB wB q1 (q2 &&& (q1 ^^^ (-1 : Int64))) q1 (((q2 &&& (q1 ^^^ (-1 : Int64))) ^^^ q4) &&& (q1 ^^^ (-1 : Int64))) wB wW X303 hx hZ hw hby hml hown hret hlocks e303 N0 Z0 O0 hS0 (own_disj _ _) (own_disj _ _) E_wB E_wB S_wB S_wW
          exact ⟨s₂, o, pre320 _ st321, g1, g2, v, L, ho, ⟨(by rw [F0, if_neg hc88, if_neg hc278, if_neg hc306, if_pos hc318]; exact hv), hN⟩, hfe⟩
        · have pre322 : ∀ t, Steps p.tables e below (T303.setTop (mkF m 77 #[.val (.long q1), .second, .val (.long q2), .second, .val (.long q3), .second, .val (.long q4), .second, .val (.int p5), .val (.ref wB), .val (.ref wB), .val (.long q1), .second, .val (.long (q2 &&& (q1 ^^^ (-1 : Int64)))), .second, .val (.long q1), .second, .unset, .unset, .unset, .unset, .unset, .unset] [])) t → Steps p.tables e below (s₁.setTop (entryFrame m #[(.long q1), (.long q2), (.long q3), (.long q4), (.int p5)] maxLocals)) t := by
            intro t k
            refine pre317 _ ?_
            show Steps p.tables e below (T303.setTop (mkF m 74 #[.val (.long q1), .second, .val (.long q2), .second, .val (.long q3), .second, .val (.long q4), .second, .val (.int p5), .val (.ref wB), .val (.ref wB), .val (.long q1), .second, .val (.long (q2 &&& (q1 ^^^ (-1 : Int64)))), .second, .val (.long q1), .second, .unset, .unset, .unset, .unset, .unset, .unset] [(.int (p5 &&& (32 : Int32)))])) _
            refine XS.ifNo X303.here hx rfl (hb hby at_74) rfl ((if0 _ _).trans (feq hc318).1) ?_
            exact k
          have pre323 : ∀ t, Steps p.tables e below (T303.setTop (mkF m 96 #[.val (.long q1), .second, .val (.long q2), .second, .val (.long q3), .second, .val (.long q4), .second, .val (.int p5), .val (.ref wB), .val (.ref wB), .val (.long q1), .second, .val (.long (q2 &&& (q1 ^^^ (-1 : Int64)))), .second, .val (.long q1), .second, .val (.long ((q2 &&& (q1 ^^^ (-1 : Int64))) &&& (q1 ^^^ (-1 : Int64)))), .second, .unset, .unset, .unset, .unset] [])) t → Steps p.tables e below (s₁.setTop (entryFrame m #[(.long q1), (.long q2), (.long q3), (.long q4), (.int p5)] maxLocals)) t := by
            intro t k
            refine pre322 _ ?_
            show Steps p.tables e below (T303.setTop (mkF m 77 #[.val (.long q1), .second, .val (.long q2), .second, .val (.long q3), .second, .val (.long q4), .second, .val (.int p5), .val (.ref wB), .val (.ref wB), .val (.long q1), .second, .val (.long (q2 &&& (q1 ^^^ (-1 : Int64)))), .second, .val (.long q1), .second, .unset, .unset, .unset, .unset, .unset, .unset] [])) _
            refine XS.lload X303.here hx rfl (hb hby at_77) rfl ?_
            show Steps p.tables e below (T303.setTop (mkF m 79 #[.val (.long q1), .second, .val (.long q2), .second, .val (.long q3), .second, .val (.long q4), .second, .val (.int p5), .val (.ref wB), .val (.ref wB), .val (.long q1), .second, .val (.long (q2 &&& (q1 ^^^ (-1 : Int64)))), .second, .val (.long q1), .second, .unset, .unset, .unset, .unset, .unset, .unset] [(.long (q2 &&& (q1 ^^^ (-1 : Int64))))])) _
            refine XS.goto X303.here hx rfl (pc0 := 79) (pc' := 87) rfl (hb hby at_79) (by decide) (by decide) ?_
            show Steps p.tables e below (T303.setTop (mkF m 87 #[.val (.long q1), .second, .val (.long q2), .second, .val (.long q3), .second, .val (.long q4), .second, .val (.int p5), .val (.ref wB), .val (.ref wB), .val (.long q1), .second, .val (.long (q2 &&& (q1 ^^^ (-1 : Int64)))), .second, .val (.long q1), .second, .unset, .unset, .unset, .unset, .unset, .unset] [(.long (q2 &&& (q1 ^^^ (-1 : Int64))))])) _
            refine XS.lload X303.here hx rfl (hb hby at_87) rfl ?_
            show Steps p.tables e below (T303.setTop (mkF m 89 #[.val (.long q1), .second, .val (.long q2), .second, .val (.long q3), .second, .val (.long q4), .second, .val (.int p5), .val (.ref wB), .val (.ref wB), .val (.long q1), .second, .val (.long (q2 &&& (q1 ^^^ (-1 : Int64)))), .second, .val (.long q1), .second, .unset, .unset, .unset, .unset, .unset, .unset] [(.long q1), (.long (q2 &&& (q1 ^^^ (-1 : Int64))))])) _
            refine X303.ldc2Long hx hown (mvT hZ (hw _ (List.mem_of_getElem? (i := 3) rfl))) (g := (mkF m 89 #[.val (.long q1), .second, .val (.long q2), .second, .val (.long q3), .second, .val (.long q4), .second, .val (.int p5), .val (.ref wB), .val (.ref wB), .val (.long q1), .second, .val (.long (q2 &&& (q1 ^^^ (-1 : Int64)))), .second, .val (.long q1), .second, .unset, .unset, .unset, .unset, .unset, .unset] [(.long q1), (.long (q2 &&& (q1 ^^^ (-1 : Int64))))])) rfl (hb hby at_89) _ ?_
            show Steps p.tables e below (T303.setTop (mkF m 92 #[.val (.long q1), .second, .val (.long q2), .second, .val (.long q3), .second, .val (.long q4), .second, .val (.int p5), .val (.ref wB), .val (.ref wB), .val (.long q1), .second, .val (.long (q2 &&& (q1 ^^^ (-1 : Int64)))), .second, .val (.long q1), .second, .unset, .unset, .unset, .unset, .unset, .unset] [(.long (-1 : Int64)), (.long q1), (.long (q2 &&& (q1 ^^^ (-1 : Int64))))])) _
            refine XS.lxor X303.here hx rfl (hb hby at_92) rfl ?_
            show Steps p.tables e below (T303.setTop (mkF m 93 #[.val (.long q1), .second, .val (.long q2), .second, .val (.long q3), .second, .val (.long q4), .second, .val (.int p5), .val (.ref wB), .val (.ref wB), .val (.long q1), .second, .val (.long (q2 &&& (q1 ^^^ (-1 : Int64)))), .second, .val (.long q1), .second, .unset, .unset, .unset, .unset, .unset, .unset] [(.long (q1 ^^^ (-1 : Int64))), (.long (q2 &&& (q1 ^^^ (-1 : Int64))))])) _
            refine XS.land X303.here hx rfl (hb hby at_93) rfl ?_
            show Steps p.tables e below (T303.setTop (mkF m 94 #[.val (.long q1), .second, .val (.long q2), .second, .val (.long q3), .second, .val (.long q4), .second, .val (.int p5), .val (.ref wB), .val (.ref wB), .val (.long q1), .second, .val (.long (q2 &&& (q1 ^^^ (-1 : Int64)))), .second, .val (.long q1), .second, .unset, .unset, .unset, .unset, .unset, .unset] [(.long ((q2 &&& (q1 ^^^ (-1 : Int64))) &&& (q1 ^^^ (-1 : Int64))))])) _
            refine XS.lstore X303.here hx rfl (hb hby at_94) rfl (l' := #[.val (.long q1), .second, .val (.long q2), .second, .val (.long q3), .second, .val (.long q4), .second, .val (.int p5), .val (.ref wB), .val (.ref wB), .val (.long q1), .second, .val (.long (q2 &&& (q1 ^^^ (-1 : Int64)))), .second, .val (.long q1), .second, .val (.long ((q2 &&& (q1 ^^^ (-1 : Int64))) &&& (q1 ^^^ (-1 : Int64)))), .second, .unset, .unset, .unset, .unset]) rfl ?_
            exact k
          obtain ⟨s₂, o, st324, g1, g2, v, L, ho, ⟨hv, hN⟩, hfe⟩ := pc0_96_0 q1 q2 q3 q4 p5 wB wB q1 (q2 &&& (q1 ^^^ (-1 : Int64))) q1 ((q2 &&& (q1 ^^^ (-1 : Int64))) &&& (q1 ^^^ (-1 : Int64))) wB wW X303 hx hZ hw hby hml hown hret hlocks e303 N0 Z0 O0 hS0 (own_disj _ _) (own_disj _ _) E_wB E_wB S_wB S_wW
          exact ⟨s₂, o, pre323 _ st324, g1, g2, v, L, ho, ⟨(by rw [F0, if_neg hc88, if_neg hc278, if_neg hc306, if_neg hc318]; exact hv), hN⟩, hfe⟩
theorem own_p (i8 : Int32) (o9 o10 : Addr) (j11 j13 j15 j17 : Int64) : F0_96_0 i8 o9 o10 j11 j13 j15 j17 = 1 := by
  unfold F0_96_0 F5n F5o F5s
  simp only [lw_eq]
  generalize ((i8.toUInt32 >>> ((2 : Int32) &&& 31).toUInt32).toInt32) &&& (3 : Int32) = k
  have nb : nar .boolean (1 : Int32) = 1 := by decide
  by_cases k1 : k = 1
  · rw [if_pos k1]; rfl
  rw [if_neg k1]
  by_cases k2 : k = 2
  · rw [if_pos k2]; rfl
  rw [if_neg k2]
  by_cases k3 : k = 3
  · rw [if_pos k3]; simp [nb]
  rw [if_neg k3]
  have e1 : (j15 = j11) = (j11 = j15) := propext eq_comm
  have e2 : (j17 = j13) = (j13 = j17) := propext eq_comm
  have e3 : (o10 = o9) = (o9 = o10) := propext eq_comm
  simp only [e1, e2, e3]
  by_cases a : j11 = j15 <;> by_cases b : j13 = j17 <;> by_cases d : o9 = o10 <;> simp [a, b, d]
theorem plain0 (q1 q2 q3 q4 : Int64) (p5 : Int32) (wB wW : Addr) : F0 q1 q2 q3 q4 p5 wB wW = 1 := by
  unfold F0
  simp only [own_p]
  repeat' split
  all_goals rfl
set_option maxRecDepth 65536 in
set_option maxHeartbeats 40000000 in
theorem comes_1 {Post : Tables → Env → Array Value → State → Outcome → State → Prop} (hpost : ∀ tb e args s v u, (limb_1_1.after args s (.returned v) u = true ∧ limb_1_2.after args s (.returned v) u = true ∧ True) → ReturnedEndW s (.returned v) u (Jvm.fieldLocs frame_1_writes args s ++ Jvm.arrayLocs frame_1_arrays args s ++ Jvm.staticLocs frame_1_statics s) 16 1152 → Post tb e args s (.returned v) u) :
    ArmFor flags0 classFile x code maxLocals ret World_1 tables_1 room_1 Calls_1 rest_1 Pre_1 Post := by
  intro l hfl _ _ p e ha hc hk s m args below hf hA hF happ hP
  obtain ⟨hcalls, hrest, hpre⟩ := hP
  obtain ⟨-, -, -, hnamed, -, -, -, hat⟩ := (Spec.applies_iff hf).mp happ
  obtain ⟨hg, hn⟩ := and_e (Cond.before_iff.mp (show (Jvm.Cond.and given_1 narrow_1).before args s = true from hpre))
  obtain ⟨g325, g326⟩ := and_e hg
  obtain ⟨g327, g328⟩ := and_e g326
  obtain ⟨g329, g330⟩ := and_e g328
  obtain ⟨g331, g332⟩ := and_e g330
  obtain ⟨g333, g334⟩ := and_e g332
  obtain ⟨w0, w1, w2, w3, w4, rfl⟩ : ∃ w0 w1 w2 w3 w4 : Value, args = #[w0, w1, w2, w3, w4] := by
    have hs : args.size = 5 := by simpa [Cond.value, given_1] using g325
    obtain ⟨L⟩ := args
    match L, hs with
    | [w0, w1, w2, w3, w4], _ => exact ⟨w0, w1, w2, w3, w4, rfl⟩
  have hw := fun d (hd : d ∈ tables_1) => atoms_spec (ws := Jvm.Cond.code x code maxLocals ret :: tables_1) hat d (List.mem_cons_of_mem _ hd)
  have hfit : Fit s := fun {y c} hc i hi => by
    obtain ⟨ha, rfl⟩ := Array.getElem?_eq_some_iff.mp hc
    have q := List.all_eq_true.mp ((Array.all_eq_true_iff_forall_mem.mp hF) _ (Array.getElem_mem ha)) i (List.mem_range.mpr hi)
    simpa [Array.getElem?_eq_getElem hi] using q
  obtain ⟨i0, ei0⟩ := isL_v g327
  obtain rfl : w0 = (.long i0) := Option.some.inj ei0
  obtain ⟨i1, ei1⟩ := isL_v g329
  obtain rfl : w1 = (.long i1) := Option.some.inj ei1
  obtain ⟨i2, ei2⟩ := isL_v g331
  obtain rfl : w2 = (.long i2) := Option.some.inj ei2
  obtain ⟨i3, ei3⟩ := isL_v g333
  obtain rfl : w3 = (.long i3) := Option.some.inj ei3
  obtain ⟨i4, ei4⟩ := is_v g334
  obtain rfl : w4 = (.int i4) := Option.some.inj ei4
  obtain ⟨n1, n2⟩ := and_e hn
  obtain ⟨wB, ev_wB⟩ := exa_v n1
  have S_wB := Sta.start ev_wB (Or.inr ⟨(hw _ (List.mem_of_getElem? (i := 1) rfl)), (hw _ (List.mem_of_getElem? (i := 2) rfl))⟩)
  have E_wB := Exa.start ev_wB n1
  obtain ⟨n3, n4⟩ := and_e n2
  obtain ⟨wW, ev_wW⟩ := exa_v n3
  have S_wW := Sta.start ev_wW (Or.inr ⟨(hw _ (List.mem_of_getElem? (i := 1) rfl)), (hw _ (List.mem_of_getElem? (i := 44) rfl))⟩)
  have E_wW := Exa.start ev_wW n3
  obtain ⟨n5, n6⟩ := and_e n4
  have F_wB_ordinal := Fld.start ((fld_at ev_wB).symm.trans (own_eqI n5))
  have F_wW_ordinal := Fld.start ((fld_at ev_wW).symm.trans (own_eqI n6))
  obtain ⟨n, o, h1, h2, h3, v, L, rfl, ⟨hv, N⟩, hq⟩ := rm0 l s _ hw tables_1 i0 i1 i2 i3 i4 wB wW s.heap s.heap.size (Nat.le_refl _) (Old.start s) E_wB E_wW S_wB S_wW p e ha hc hk s m _ below hf ((Spec.applies_iff_loose hf).mp happ).1 ⟨rfl, State.Warmed39.refl s, rfl⟩ trivial
  rw [plain0] at hv
  subst hv
  refine ⟨n, _, h1, h2, h3, hpost _ _ _ _ _ _ ⟨Cond.after_iff.mpr rfl, Cond.after_iff.mpr (eq_i res_at (Term.int_eval (1)) rfl), trivial⟩ ⟨hq.1, hq.2.1, hq.2.2.1, (hq.2.2.2.sift fun y hy => Or.inr (N y hy)).mono (by decide) (by decide)⟩⟩
theorem main_1_1 : Claimed_1_1 := comes_1 fun _ _ _ _ _ _ h hF => ⟨h.1, hF⟩
theorem main_1_2 : Claimed_1_2 := comes_1 fun _ _ _ _ _ _ h hF => ⟨h.2.1, hF⟩
end Jvm.Pilot.@@N@@
namespace Jvm.Pilot.@@N@@
open Jvm Jvm.ClassFile Sem Op Lib Jvm.Free Jvm.Stand Jvm.Pilot.@@N@@.Jvm.D
/-! MADE BY PROGRAM (witnessworld.py) out of the Statement's table words and the real class files: 19 classes; the members and pool entries that the words name. The judged class is class 1, her method 1. -/
namespace start1
open Jvm.ClassFile
def u (s : String) : CpInfo := .utf8 (stringToUtf16 s)
/-- a pool by its gaps: so many unusable entries, then the entry; so many at the end -/
def gap : Nat → List CpInfo → List CpInfo
  | 0, r => r
  | n + 1, r => .unusable :: gap n r
def poolList (es : List (Nat × CpInfo)) (last : Nat) : List CpInfo := es.foldr (fun e r => gap e.1 (e.2 :: r)) (gap last [])
def pool (es : List (Nat × CpInfo)) (last : Nat) : Array CpInfo := ⟨poolList es last⟩
def fileOf (pool : Array CpInfo) (this : Nat) (attrs : Array Attribute := #[]) (ms : Array MethodInfo := #[]) (fl : Nat := 33) (sup : Nat := 0) (ifs : Array Nat := #[]) (fds : Array FieldInfo := #[]) : ClassFile where
  minorVersion := 0
  majorVersion := 65
  constantPool := pool
  accessFlags := fl
  thisClass := this
  superClass := sup
  interfaces := ifs
  fields := fds
  methods := ms
  attributes := attrs
def plain (name : String) (sup : Option ClassId) : Class where
  name := name
  kind := .ordinary
  loader := none
  accessFlags := 33
  super := sup
  interfaces := #[]
  cf := none
  fields := #[]
  methods := #[]
  instanceTypes := #[]
  staticTypes := #[]
  resolved := #[]
  callSites := []
  init := .initialized
  statics := none
  mirror := none

def pool0 : Array CpInfo := pool [(5, u "<init>"), (0, u "()V"), (1, .class_ 10), (1, u "java/lang/Object")] 113

def k0c0 : Code := { maxStack := 0, maxLocals := 1, code := object_method_1_code, exceptionTable := #[], attributes := #[] }
def k0m0 : Method := { name := "<init>", desc := "()V", sig := { parameters := [], returnType := none }, accessFlags := 1, code := some k0c0 }
/-- java/lang/Object -/
def k0 : Class := { plain "java/lang/Object" none with
  accessFlags := 33
  interfaces := #[]
  cf := some (fileOf pool0 8 #[] #[{ accessFlags := 1, nameIndex := 5, descriptorIndex := 6, attributes := #[] }] 33 0 #[] #[])
  fields := #[]
  methods := #[k0m0]
  instanceTypes := #[]
  staticTypes := #[]
  resolved := Array.replicate 124 none
  statics := none }

def pool1 : Array CpInfo := pool [(2, .class_ 4), (1, u "java/lang/Object"), (0, u "<init>"), (0, u "()V"), (0, .fieldref 8 9), (0, .class_ 10), (0, .nameAndType 11 12), (0, u "com/example/tabuleiro/tabuleiro/game/Colour"), (0, u "BLACK"), (0, u "Lcom/example/tabuleiro/tabuleiro/game/Colour;"), (0, .fieldref 8 14), (0, .nameAndType 15 12), (0, u "WHITE"), (0, .long 18446744073709551615), (1, .class_ 19), (0, u "com/example/tabuleiro/tabuleiro/othello/OthelloPosition"), (0, .methodref 18 21), (0, .nameAndType 5 22), (0, u "(JJLcom/example/tabuleiro/tabuleiro/game/Colour;)V"), (0, .methodref 18 24), (0, .nameAndType 25 26), (0, u "equals"), (0, u "(Ljava/lang/Object;)Z"), (0, .class_ 28), (0, u "com/example/tabuleiro/tabuleiro/othello/OthelloPositionEqualsPinLaw"), (2, u "law"), (0, u "(JJJJI)Z")] 3

def k1m0 : Method := { name := "<init>", desc := "()V", sig := { parameters := [], returnType := none }, accessFlags := 1, code := none }
def k1c1 : Code := { maxStack := 7, maxLocals := 23, code := code, exceptionTable := #[], attributes := #[] }
def k1m1 : Method := { name := "law", desc := "(JJJJI)Z", sig := { parameters := [.long, .long, .long, .long, .int], returnType := some .boolean }, accessFlags := 9, code := some k1c1 }
/-- com/example/tabuleiro/tabuleiro/othello/OthelloPositionEqualsPinLaw -/
def k1 : Class := { plain "com/example/tabuleiro/tabuleiro/othello/OthelloPositionEqualsPinLaw" (some 0) with
  accessFlags := 49
  interfaces := #[]
  cf := some (fileOf pool1 27 #[] #[{ accessFlags := 1, nameIndex := 5, descriptorIndex := 6, attributes := #[] }, { accessFlags := 9, nameIndex := 31, descriptorIndex := 32, attributes := #[] }] 49 2 #[] #[])
  fields := #[]
  methods := #[k1m0, k1m1]
  instanceTypes := #[]
  staticTypes := #[]
  resolved := Array.replicate 36 none
  statics := none }

def pool2 : Array CpInfo := pool [(1, .class_ 2), (0, u "java/lang/constant/Constable"), (0, .class_ 4), (0, u "java/lang/Object")] 6

/-- java/lang/constant/Constable -/
def k2 : Class := { plain "java/lang/constant/Constable" (some 0) with
  accessFlags := 1537
  interfaces := #[]
  cf := some (fileOf pool2 1 #[] #[] 1537 3 #[] #[])
  fields := #[]
  methods := #[]
  instanceTypes := #[]
  staticTypes := #[]
  resolved := Array.replicate 11 none
  statics := none }

def pool3 : Array CpInfo := pool [(1, .class_ 2), (0, u "java/lang/Comparable"), (0, .class_ 4), (0, u "java/lang/Object")] 7

/-- java/lang/Comparable -/
def k3 : Class := { plain "java/lang/Comparable" (some 0) with
  accessFlags := 1537
  interfaces := #[]
  cf := some (fileOf pool3 1 #[] #[] 1537 3 #[] #[])
  fields := #[]
  methods := #[]
  instanceTypes := #[]
  staticTypes := #[]
  resolved := Array.replicate 12 none
  statics := none }

def pool4 : Array CpInfo := pool [(1, .class_ 2), (0, u "java/io/Serializable"), (0, .class_ 4), (0, u "java/lang/Object")] 2

/-- java/io/Serializable -/
def k4 : Class := { plain "java/io/Serializable" (some 0) with
  accessFlags := 1537
  interfaces := #[]
  cf := some (fileOf pool4 1 #[] #[] 1537 3 #[] #[])
  fields := #[]
  methods := #[]
  instanceTypes := #[]
  staticTypes := #[]
  resolved := Array.replicate 7 none
  statics := none }

def pool5 : Array CpInfo := pool [(2, .class_ 4), (1, u "java/lang/Enum"), (0, u "name"), (0, u "Ljava/lang/String;"), (2, u "ordinal"), (0, u "I"), (1, .class_ 14), (1, u "java/lang/Object"), (4, u "hash"), (86, .class_ 108), (1, u "java/lang/Enum$EnumDesc"), (2, .class_ 112), (0, u "java/lang/constant/Constable"), (0, .class_ 114), (0, u "java/lang/Comparable"), (0, .class_ 116), (0, u "java/io/Serializable")] 87

/-- java/lang/Enum -/
def k5 : Class := { plain "java/lang/Enum" (some 0) with
  accessFlags := 1057
  interfaces := #[2, 3, 4]
  cf := some (fileOf pool5 2 #[.nestMembers #[106]] #[] 1057 12 #[111, 113, 115] #[{ accessFlags := 18, nameIndex := 5, descriptorIndex := 6, attributes := #[] }, { accessFlags := 18, nameIndex := 9, descriptorIndex := 10, attributes := #[] }, { accessFlags := 2, nameIndex := 19, descriptorIndex := 10, attributes := #[] }])
  fields := #[{ name := "name", type := (.object "java/lang/String"), accessFlags := 18, slot := 0, constantValue := 0 }, { name := "ordinal", type := .int, accessFlags := 18, slot := 1, constantValue := 0 }, { name := "hash", type := .int, accessFlags := 2, slot := 2, constantValue := 0 }]
  methods := #[]
  instanceTypes := #[(.object "java/lang/String"), .int, .int]
  staticTypes := #[]
  resolved := Array.replicate 204 none
  statics := none }

def pool6 : Array CpInfo := pool [(1, .class_ 2), (0, u "com/example/tabuleiro/tabuleiro/game/Colour"), (2, u "BLACK"), (0, u "Lcom/example/tabuleiro/tabuleiro/game/Colour;"), (2, u "WHITE"), (2, u "$VALUES"), (0, u "[Lcom/example/tabuleiro/tabuleiro/game/Colour;"), (6, .class_ 22), (1, u "java/lang/Enum")] 44

/-- com/example/tabuleiro/tabuleiro/game/Colour -/
def k6 : Class := { plain "com/example/tabuleiro/tabuleiro/game/Colour" (some 5) with
  accessFlags := 16433
  interfaces := #[]
  cf := some (fileOf pool6 1 #[] #[] 16433 20 #[] #[{ accessFlags := 16409, nameIndex := 5, descriptorIndex := 6, attributes := #[] }, { accessFlags := 16409, nameIndex := 9, descriptorIndex := 6, attributes := #[] }, { accessFlags := 4122, nameIndex := 12, descriptorIndex := 13, attributes := #[] }])
  fields := #[{ name := "BLACK", type := (.object "com/example/tabuleiro/tabuleiro/game/Colour"), accessFlags := 16409, slot := 0, constantValue := 0 }, { name := "WHITE", type := (.object "com/example/tabuleiro/tabuleiro/game/Colour"), accessFlags := 16409, slot := 1, constantValue := 0 }, { name := "$VALUES", type := (.array (.object "com/example/tabuleiro/tabuleiro/game/Colour")), accessFlags := 4122, slot := 2, constantValue := 0 }]
  methods := #[]
  instanceTypes := #[(.object "java/lang/String"), .int, .int]
  staticTypes := #[(.object "com/example/tabuleiro/tabuleiro/game/Colour"), (.object "com/example/tabuleiro/tabuleiro/game/Colour"), (.array (.object "com/example/tabuleiro/tabuleiro/game/Colour"))]
  resolved := Array.replicate 67 none
  statics := some 0 }

def pool7 : Array CpInfo := pool [(1, .methodref 2 3), (0, .class_ 4), (0, .nameAndType 5 6), (0, u "java/lang/Object"), (0, u "<init>"), (0, u "()V"), (0, .class_ 8), (0, u "java/lang/Record")] 13

def k7c0 : Code := { maxStack := 1, maxLocals := 1, code := jdk_30_method_1_code, exceptionTable := #[], attributes := #[] }
def k7m0 : Method := { name := "<init>", desc := "()V", sig := { parameters := [], returnType := none }, accessFlags := 4, code := some k7c0 }
/-- java/lang/Record -/
def k7 : Class := { plain "java/lang/Record" (some 0) with
  accessFlags := 1057
  interfaces := #[]
  cf := some (fileOf pool7 7 #[] #[{ accessFlags := 4, nameIndex := 5, descriptorIndex := 6, attributes := #[] }] 1057 2 #[] #[])
  fields := #[]
  methods := #[k7m0]
  instanceTypes := #[]
  staticTypes := #[]
  resolved := Array.replicate 22 none
  statics := none }

def pool8 : Array CpInfo := pool [(4, .class_ 6), (1, u "com/example/tabuleiro/tabuleiro/game/Position"), (12, .class_ 20), (0, u "java/lang/Object"), (0, u "UNFORCED"), (0, u "I")] 21

/-- com/example/tabuleiro/tabuleiro/game/Position -/
def k8 : Class := { plain "com/example/tabuleiro/tabuleiro/game/Position" (some 0) with
  accessFlags := 1537
  interfaces := #[]
  cf := some (fileOf pool8 4 #[] #[] 1537 19 #[] #[{ accessFlags := 25, nameIndex := 21, descriptorIndex := 22, attributes := #[] }])
  fields := #[{ name := "UNFORCED", type := .int, accessFlags := 25, slot := 0, constantValue := 0 }]
  methods := #[]
  instanceTypes := #[]
  staticTypes := #[.int]
  resolved := Array.replicate 44 none
  statics := none }

def pool9 : Array CpInfo := pool [(1, .class_ 2), (0, u "com/example/tabuleiro/tabuleiro/othello/OthelloPosition"), (0, .methodref 4 5), (0, .class_ 6), (0, .nameAndType 7 8), (0, u "java/lang/Record"), (0, u "<init>"), (0, u "()V"), (0, .string 10), (0, u "toMove"), (0, .methodref 12 13), (0, .class_ 14), (0, .nameAndType 15 16), (0, u "java/util/Objects"), (0, u "requireNonNull"), (0, u "(Ljava/lang/Object;Ljava/lang/String;)Ljava/lang/Object;"), (7, .fieldref 1 25), (0, .nameAndType 26 27), (0, u "black"), (0, u "J"), (0, .fieldref 1 29), (0, .nameAndType 30 27), (0, u "white"), (0, .fieldref 1 32), (0, .nameAndType 10 33), (0, u "Lcom/example/tabuleiro/tabuleiro/game/Colour;"), (2, u "START"), (0, u "Lcom/example/tabuleiro/tabuleiro/othello/OthelloPosition;"), (27, u "(JJLcom/example/tabuleiro/tabuleiro/game/Colour;)V"), (73, .class_ 140), (0, u "com/example/tabuleiro/tabuleiro/game/Position"), (50, u "RAYS"), (0, u "[J"), (13, u "COLUMN_STEPS"), (0, u "[I"), (2, u "ROW_STEPS"), (17, u "PASS"), (0, u "I"), (2, u "SQUARES"), (0, u "COLUMNS"), (0, u "Ljava/lang/String;"), (0, u "NOT_A"), (0, u "NOT_H"), (0, u "INNER_COLUMNS"), (0, u "RAISING"), (16, u "equals"), (0, u "(Ljava/lang/Object;)Z")] 59

def k9c0 : Code := { maxStack := 4, maxLocals := 6, code := prog_36_method_1_code, exceptionTable := #[], attributes := #[] }
def k9m0 : Method := { name := "<init>", desc := "(JJLcom/example/tabuleiro/tabuleiro/game/Colour;)V", sig := { parameters := [.long, .long, (.object "com/example/tabuleiro/tabuleiro/game/Colour")], returnType := none }, accessFlags := 1, code := some k9c0 }
def k9c1 : Code := { maxStack := 4, maxLocals := 3, code := prog_36_method_15_code, exceptionTable := #[], attributes := #[] }
def k9m1 : Method := { name := "equals", desc := "(Ljava/lang/Object;)Z", sig := { parameters := [(.object "java/lang/Object")], returnType := some .boolean }, accessFlags := 1, code := some k9c1 }
/-- com/example/tabuleiro/tabuleiro/othello/OthelloPosition -/
def k9 : Class := { plain "com/example/tabuleiro/tabuleiro/othello/OthelloPosition" (some 7) with
  accessFlags := 49
  interfaces := #[8]
  cf := some (fileOf pool9 1 #[] #[{ accessFlags := 1, nameIndex := 7, descriptorIndex := 65, attributes := #[] }, { accessFlags := 1, nameIndex := 255, descriptorIndex := 256, attributes := #[] }] 49 4 #[139] #[{ accessFlags := 18, nameIndex := 26, descriptorIndex := 27, attributes := #[] }, { accessFlags := 18, nameIndex := 30, descriptorIndex := 27, attributes := #[] }, { accessFlags := 18, nameIndex := 10, descriptorIndex := 33, attributes := #[] }, { accessFlags := 25, nameIndex := 228, descriptorIndex := 229, attributes := #[] }, { accessFlags := 25, nameIndex := 232, descriptorIndex := 229, attributes := #[] }, { accessFlags := 26, nameIndex := 233, descriptorIndex := 234, attributes := #[] }, { accessFlags := 26, nameIndex := 235, descriptorIndex := 27, attributes := #[] }, { accessFlags := 26, nameIndex := 236, descriptorIndex := 27, attributes := #[] }, { accessFlags := 26, nameIndex := 237, descriptorIndex := 27, attributes := #[] }, { accessFlags := 26, nameIndex := 206, descriptorIndex := 207, attributes := #[] }, { accessFlags := 26, nameIndex := 210, descriptorIndex := 207, attributes := #[] }, { accessFlags := 26, nameIndex := 238, descriptorIndex := 229, attributes := #[] }, { accessFlags := 26, nameIndex := 191, descriptorIndex := 192, attributes := #[] }, { accessFlags := 26, nameIndex := 36, descriptorIndex := 37, attributes := #[] }])
  fields := #[{ name := "black", type := .long, accessFlags := 18, slot := 0, constantValue := 0 }, { name := "white", type := .long, accessFlags := 18, slot := 1, constantValue := 0 }, { name := "toMove", type := (.object "com/example/tabuleiro/tabuleiro/game/Colour"), accessFlags := 18, slot := 2, constantValue := 0 }, { name := "PASS", type := .int, accessFlags := 25, slot := 0, constantValue := 0 }, { name := "SQUARES", type := .int, accessFlags := 25, slot := 1, constantValue := 0 }, { name := "COLUMNS", type := (.object "java/lang/String"), accessFlags := 26, slot := 2, constantValue := 0 }, { name := "NOT_A", type := .long, accessFlags := 26, slot := 3, constantValue := 0 }, { name := "NOT_H", type := .long, accessFlags := 26, slot := 4, constantValue := 0 }, { name := "INNER_COLUMNS", type := .long, accessFlags := 26, slot := 5, constantValue := 0 }, { name := "COLUMN_STEPS", type := (.array .int), accessFlags := 26, slot := 6, constantValue := 0 }, { name := "ROW_STEPS", type := (.array .int), accessFlags := 26, slot := 7, constantValue := 0 }, { name := "RAISING", type := .int, accessFlags := 26, slot := 8, constantValue := 0 }, { name := "RAYS", type := (.array .long), accessFlags := 26, slot := 9, constantValue := 0 }, { name := "START", type := (.object "com/example/tabuleiro/tabuleiro/othello/OthelloPosition"), accessFlags := 26, slot := 10, constantValue := 0 }]
  methods := #[k9m0, k9m1]
  instanceTypes := #[.long, .long, (.object "com/example/tabuleiro/tabuleiro/game/Colour")]
  staticTypes := #[.int, .int, (.object "java/lang/String"), .long, .long, .long, (.array .int), (.array .int), .int, (.array .long), (.object "com/example/tabuleiro/tabuleiro/othello/OthelloPosition")]
  resolved := Array.replicate 316 none
  statics := none }

def pool10 : Array CpInfo := pool [(2, .class_ 4), (1, u "java/lang/CharSequence"), (42, .class_ 48), (0, u "java/lang/CharSequence$1CodePointIterator"), (10, .class_ 60), (0, u "java/lang/CharSequence$1CharIterator"), (5, .class_ 67), (0, u "java/lang/Object")] 63

/-- java/lang/CharSequence -/
def k10 : Class := { plain "java/lang/CharSequence" (some 0) with
  accessFlags := 1537
  interfaces := #[]
  cf := some (fileOf pool10 2 #[.nestMembers #[47, 59]] #[] 1537 66 #[] #[])
  fields := #[]
  methods := #[]
  instanceTypes := #[]
  staticTypes := #[]
  resolved := Array.replicate 131 none
  statics := none }

def pool11 : Array CpInfo := pool [(1, .class_ 2), (0, u "java/lang/constant/ConstantDesc"), (0, .class_ 4), (0, u "java/lang/Object")] 32

/-- java/lang/constant/ConstantDesc -/
def k11 : Class := { plain "java/lang/constant/ConstantDesc" (some 0) with
  accessFlags := 1537
  interfaces := #[]
  cf := some (fileOf pool11 1 #[] #[] 1537 3 #[] #[])
  fields := #[]
  methods := #[]
  instanceTypes := #[]
  staticTypes := #[]
  resolved := Array.replicate 37 none
  statics := none }

def pool12 : Array CpInfo := pool [(2, .class_ 4), (1, u "java/lang/Object"), (0, u "<init>"), (0, u "()V"), (3, .class_ 12), (1, u "java/lang/String"), (0, u "value"), (0, u "[B"), (2, u "coder"), (0, u "B"), (2, u "hash"), (0, u "I"), (2, u "hashIsZero"), (0, u "Z"), (13, u "COMPACT_STRINGS"), (534, .class_ 576), (0, u "java/lang/CharSequence"), (22, u "CASE_INSENSITIVE_ORDER"), (0, u "Ljava/util/Comparator;"), (500, u "serialPersistentFields"), (0, u "[Ljava/io/ObjectStreamField;"), (0, .class_ 1104), (0, u "java/lang/String$CaseInsensitiveComparator"), (1, .class_ 1107), (0, u "java/io/Serializable"), (0, .class_ 1109), (0, u "java/lang/Comparable"), (0, .class_ 1111), (0, u "java/lang/constant/Constable"), (0, .class_ 1113), (0, u "java/lang/constant/ConstantDesc"), (2, u "serialVersionUID"), (0, u "J"), (3, u "REPL"), (0, u "C"), (2, u "LATIN1"), (1, u "UTF16")] 323

def k12m0 : Method := { name := "<init>", desc := "()V", sig := { parameters := [], returnType := none }, accessFlags := 1, code := none }
/-- java/lang/String -/
def k12 : Class := { plain "java/lang/String" (some 0) with
  accessFlags := 49
  interfaces := #[4, 3, 10, 2, 11]
  cf := some (fileOf pool12 10 #[.nestMembers #[1103]] #[{ accessFlags := 1, nameIndex := 5, descriptorIndex := 6, attributes := #[] }] 49 2 #[1106, 1108, 575, 1110, 1112] #[{ accessFlags := 18, nameIndex := 13, descriptorIndex := 14, attributes := #[] }, { accessFlags := 18, nameIndex := 17, descriptorIndex := 18, attributes := #[] }, { accessFlags := 2, nameIndex := 21, descriptorIndex := 22, attributes := #[] }, { accessFlags := 2, nameIndex := 25, descriptorIndex := 26, attributes := #[] }, { accessFlags := 26, nameIndex := 1116, descriptorIndex := 1117, attributes := #[] }, { accessFlags := 24, nameIndex := 40, descriptorIndex := 26, attributes := #[] }, { accessFlags := 26, nameIndex := 1101, descriptorIndex := 1102, attributes := #[] }, { accessFlags := 26, nameIndex := 1121, descriptorIndex := 1122, attributes := #[] }, { accessFlags := 25, nameIndex := 599, descriptorIndex := 600, attributes := #[] }, { accessFlags := 24, nameIndex := 1125, descriptorIndex := 18, attributes := #[] }, { accessFlags := 24, nameIndex := 1127, descriptorIndex := 18, attributes := #[] }])
  fields := #[{ name := "value", type := (.array .byte), accessFlags := 18, slot := 0, constantValue := 0 }, { name := "coder", type := .byte, accessFlags := 18, slot := 1, constantValue := 0 }, { name := "hash", type := .int, accessFlags := 2, slot := 2, constantValue := 0 }, { name := "hashIsZero", type := .boolean, accessFlags := 2, slot := 3, constantValue := 0 }, { name := "serialVersionUID", type := .long, accessFlags := 26, slot := 0, constantValue := 0 }, { name := "COMPACT_STRINGS", type := .boolean, accessFlags := 24, slot := 1, constantValue := 0 }, { name := "serialPersistentFields", type := (.array (.object "java/io/ObjectStreamField")), accessFlags := 26, slot := 2, constantValue := 0 }, { name := "REPL", type := .char, accessFlags := 26, slot := 3, constantValue := 0 }, { name := "CASE_INSENSITIVE_ORDER", type := (.object "java/util/Comparator"), accessFlags := 25, slot := 4, constantValue := 0 }, { name := "LATIN1", type := .byte, accessFlags := 24, slot := 5, constantValue := 0 }, { name := "UTF16", type := .byte, accessFlags := 24, slot := 6, constantValue := 0 }]
  methods := #[k12m0]
  instanceTypes := #[(.array .byte), .byte, .int, .boolean]
  staticTypes := #[.long, .boolean, (.array (.object "java/io/ObjectStreamField")), .char, (.object "java/util/Comparator"), .byte, .byte]
  resolved := Array.replicate 1451 none
  statics := none }

def pool13 : Array CpInfo := pool [(2, .class_ 4), (1, u "java/lang/Object"), (0, u "<init>"), (0, u "()V"), (35, .class_ 44), (1, u "java/util/Objects"), (0, u "requireNonNull"), (48, u "(Ljava/lang/Object;Ljava/lang/String;)Ljava/lang/Object;")] 89

def k13m0 : Method := { name := "<init>", desc := "()V", sig := { parameters := [], returnType := none }, accessFlags := 2, code := none }
def k13c1 : Code := { maxStack := 3, maxLocals := 2, code := jdk_31_method_11_code, exceptionTable := #[], attributes := #[] }
def k13m1 : Method := { name := "requireNonNull", desc := "(Ljava/lang/Object;Ljava/lang/String;)Ljava/lang/Object;", sig := { parameters := [(.object "java/lang/Object"), (.object "java/lang/String")], returnType := some (.object "java/lang/Object") }, accessFlags := 9, code := some k13c1 }
/-- java/util/Objects -/
def k13 : Class := { plain "java/util/Objects" (some 0) with
  accessFlags := 49
  interfaces := #[]
  cf := some (fileOf pool13 42 #[] #[{ accessFlags := 2, nameIndex := 5, descriptorIndex := 6, attributes := #[] }, { accessFlags := 9, nameIndex := 45, descriptorIndex := 94, attributes := #[] }] 49 2 #[] #[])
  fields := #[]
  methods := #[k13m0, k13m1]
  instanceTypes := #[]
  staticTypes := #[]
  resolved := Array.replicate 184 none
  statics := none }

def pool14 : Array CpInfo := pool [(1, u "java/lang/Cloneable"), (0, .class_ 1), (0, u "java/lang/Object"), (0, .class_ 3)] 3

/-- java/lang/Cloneable -/
def k14 : Class := { plain "java/lang/Cloneable" (some 0) with
  accessFlags := 1537
  interfaces := #[]
  cf := some (fileOf pool14 2 #[] #[] 1537 4 #[] #[])
  fields := #[]
  methods := #[]
  instanceTypes := #[]
  staticTypes := #[]
  resolved := Array.replicate 8 none
  statics := none }

/-- the primitive byte -/
def k15 : Class := { plain "byte" none with kind := .primitive 'B', accessFlags := 0x411 }
/-- [B -/
def k16 : Class := { plain "[B" (some 0) with kind := .array 15 .byte, interfaces := #[14, 4], accessFlags := 1041 }

/-- the primitive int -/
def k17 : Class := { plain "int" none with kind := .primitive 'I', accessFlags := 0x411 }
/-- [I -/
def k18 : Class := { plain "[I" (some 0) with kind := .array 17 .int, interfaces := #[14, 4], accessFlags := 1041 }

def heap : Heap := #[{ cls := 6, slots := #[.ref 1, .ref 2, .null], vm := .statics 6 },
  { cls := 6, slots := #[.null, .int 0, .int 0], vm := .none },
  { cls := 6, slots := #[.null, .int 1, .int 0], vm := .none }]
def classes : Array Class := #[k0, k1, k2, k3, k4, k5, k6, k7, k8, k9, k10, k11, k12, k13, k14, k15, k16, k17, k18]
def interned : List (Array UInt16 × Addr) := []
def slotsUsed : Nat := 9
def theMethod : MethodId := ⟨1, 1⟩
def args0 : Array Value := #[.long 5, .long 7, .long 5, .long 8, .int 9]
def aboutOver (below : List Frame) : State where
  vm := { classes := classes, interned := interned.toArray }
  heap := heap
  slotsUsed := slotsUsed
  threads := #[{ frames := .invoking theMethod args0 :: below }]
def below0 : List Frame := [.native { method := ⟨0, 0⟩, args := #[] }]
def about1 : State := aboutOver below0
def p0 : Program := .bare "" "" ""
def e0 : Env := launch0.env 0 0 0
theorem w_frames : about1.frames = Frame.invoking theMethod args0 :: below0 := rfl
set_option maxRecDepth 65536 in
theorem w_args : argsFit about1.vm theMethod args0 = true := by decide +kernel
set_option maxRecDepth 65536 in
theorem w_heap : heapFits about1 = true := by decide +kernel
set_option maxRecDepth 65536 in
theorem w_runnable : about1.curStatus? = some .runnable := by decide +kernel
set_option maxRecDepth 65536 in
theorem w_alone : about1.alone = true := by decide +kernel
set_option maxRecDepth 65536 in
theorem w_named : about1.methodNamed? x = some theMethod := by decide +kernel
set_option maxRecDepth 65536 in
theorem w_hears : about1.hears theMethod below0 = true := by decide +kernel
set_option maxRecDepth 65536 in
theorem w_ripe : about1.ripe theMethod args0 below0 = true := by decide +kernel
theorem w_running : about1.status = .running := rfl
set_option maxRecDepth 65536 in
theorem w_room : about1.hasRoom e0.platform room_1 = true :=
  launch0.hasRoom_least _ room_1 (by decide +kernel) (by decide +kernel) (by decide +kernel) (by decide +kernel) (by decide +kernel) (by decide +kernel)
theorem allAtoms_all (ts : List Jvm.Cond) (a : Array Jvm.Value) (st : Jvm.State) : (allAtoms ts).before a st = ts.all (fun c => c.before a st) := by
  induction ts with
  | nil => rfl
  | cons c t ih =>
    show (Jvm.Cond.and c (allAtoms t)).before a st = _
    rw [Jvm.Cond.before_and, ih, List.all_cons]
def words1 : List Jvm.Cond := Jvm.Cond.code x code maxLocals ret :: tables_1
/-- a 'code' word, met by the world's own term for the bytes: nothing is compared byte by byte -/
theorem code_word {y : MethodName} {bytes : ByteArray} {mx : Nat} {rt : Option FieldType} {a : Array Value} {s : State} {m : MethodId} {meth : Method} {c : Code} (h1 : s.methodNamed? y = some m) (h2 : s.vm.method? m = some meth) (h3 : meth.code = some c) (h4 : c.code = bytes)
    (h5 : (c.maxLocals == mx && c.exceptionTable.isEmpty && decide (c.maxStack ≤ mostOperands) && decide (meth.sig.returnType = rt) && !meth.locks && decide (parseMethodDescriptor y.desc = some meth.sig)) = true) : (Jvm.Cond.code y bytes mx rt).before a s = true := by
  simp only [Bool.and_eq_true, beq_iff_eq, Bool.not_eq_true', decide_eq_true_eq] at h5
  obtain ⟨⟨⟨⟨⟨g1, g2⟩, g3⟩, g4⟩, g5⟩, g6⟩ := h5
  simp [Cond.before, Cond.holds, Cond.value, h1, h2, h3, h4, g1, g2, g3, g4, g5, g6]
def isCode : Jvm.Cond → Bool
  | .code _ _ _ _ => true
  | _ => false
theorem all_split {L : List Jvm.Cond} {P : Jvm.Cond → Bool} (h1 : L.all (fun c => isCode c || P c) = true) (h2 : ∀ c ∈ L.filter isCode, P c = true) : L.all P = true := by
  refine List.all_eq_true.mpr fun c hc => ?_
  have h := List.all_eq_true.mp h1 c hc
  rcases Bool.eq_false_or_eq_true (isCode c) with hi | hi
  · exact h2 c (List.mem_filter.mpr ⟨hc, hi⟩)
  · simpa [hi] using h
set_option maxRecDepth 65536 in
theorem w_c0 : (Jvm.Cond.code x code maxLocals ret).before args0 about1 = true := code_word (m := ⟨1, 1⟩) (meth := k1m1) (c := k1c1) (by decide +kernel) rfl rfl rfl (by decide +kernel)
set_option maxRecDepth 65536 in
theorem w_c1 : (Jvm.Cond.code ({ cls := "com/example/tabuleiro/tabuleiro/othello/OthelloPosition", name := "<init>", desc := "(JJLcom/example/tabuleiro/tabuleiro/game/Colour;)V" } : Jvm.MethodName) prog_36_method_1_code (6 : Nat) (Option.none : Option Jvm.ClassFile.FieldType)).before args0 about1 = true := code_word (m := ⟨9, 0⟩) (meth := k9m0) (c := k9c0) (by decide +kernel) rfl rfl rfl (by decide +kernel)
set_option maxRecDepth 65536 in
theorem w_c2 : (Jvm.Cond.code ({ cls := "java/lang/Record", name := "<init>", desc := "()V" } : Jvm.MethodName) jdk_30_method_1_code (1 : Nat) (Option.none : Option Jvm.ClassFile.FieldType)).before args0 about1 = true := code_word (m := ⟨7, 0⟩) (meth := k7m0) (c := k7c0) (by decide +kernel) rfl rfl rfl (by decide +kernel)
set_option maxRecDepth 65536 in
theorem w_c3 : (Jvm.Cond.code ({ cls := "java/lang/Object", name := "<init>", desc := "()V" } : Jvm.MethodName) object_method_1_code (1 : Nat) (Option.none : Option Jvm.ClassFile.FieldType)).before args0 about1 = true := code_word (m := ⟨0, 0⟩) (meth := k0m0) (c := k0c0) (by decide +kernel) rfl rfl rfl (by decide +kernel)
set_option maxRecDepth 65536 in
theorem w_c4 : (Jvm.Cond.code ({ cls := "java/util/Objects", name := "requireNonNull", desc := "(Ljava/lang/Object;Ljava/lang/String;)Ljava/lang/Object;" } : Jvm.MethodName) jdk_31_method_11_code (2 : Nat) (Option.some (Jvm.ClassFile.FieldType.object "java/lang/Object"))).before args0 about1 = true := code_word (m := ⟨13, 1⟩) (meth := k13m1) (c := k13c1) (by decide +kernel) rfl rfl rfl (by decide +kernel)
set_option maxRecDepth 65536 in
theorem w_c5 : (Jvm.Cond.code ({ cls := "com/example/tabuleiro/tabuleiro/othello/OthelloPosition", name := "equals", desc := "(Ljava/lang/Object;)Z" } : Jvm.MethodName) prog_36_method_15_code (3 : Nat) (Option.some Jvm.ClassFile.FieldType.boolean)).before args0 about1 = true := code_word (m := ⟨9, 1⟩) (meth := k9m1) (c := k9c1) (by decide +kernel) rfl rfl rfl (by decide +kernel)
def codes1 : List Jvm.Cond := [Jvm.Cond.code x code maxLocals ret, Jvm.Cond.code ({ cls := "com/example/tabuleiro/tabuleiro/othello/OthelloPosition", name := "<init>", desc := "(JJLcom/example/tabuleiro/tabuleiro/game/Colour;)V" } : Jvm.MethodName) prog_36_method_1_code (6 : Nat) (Option.none : Option Jvm.ClassFile.FieldType), Jvm.Cond.code ({ cls := "java/lang/Record", name := "<init>", desc := "()V" } : Jvm.MethodName) jdk_30_method_1_code (1 : Nat) (Option.none : Option Jvm.ClassFile.FieldType), Jvm.Cond.code ({ cls := "java/lang/Object", name := "<init>", desc := "()V" } : Jvm.MethodName) object_method_1_code (1 : Nat) (Option.none : Option Jvm.ClassFile.FieldType), Jvm.Cond.code ({ cls := "java/util/Objects", name := "requireNonNull", desc := "(Ljava/lang/Object;Ljava/lang/String;)Ljava/lang/Object;" } : Jvm.MethodName) jdk_31_method_11_code (2 : Nat) (Option.some (Jvm.ClassFile.FieldType.object "java/lang/Object")), Jvm.Cond.code ({ cls := "com/example/tabuleiro/tabuleiro/othello/OthelloPosition", name := "equals", desc := "(Ljava/lang/Object;)Z" } : Jvm.MethodName) prog_36_method_15_code (3 : Nat) (Option.some Jvm.ClassFile.FieldType.boolean)]
set_option maxRecDepth 65536 in
theorem codes_eq : words1.filter isCode = codes1 := rfl
theorem w_codes : ∀ c ∈ words1.filter isCode, c.before args0 about1 = true := by
  rw [codes_eq]
  intro c hc
  simp only [codes1, List.mem_cons, List.not_mem_nil, or_false] at hc
  rcases hc with rfl | rfl | rfl | rfl | rfl | rfl
  · exact w_c0
  · exact w_c1
  · exact w_c2
  · exact w_c3
  · exact w_c4
  · exact w_c5
set_option maxRecDepth 65536 in
theorem w_t1 : (words1.take 24).all (fun c => isCode c || c.before args0 about1) = true := by decide +kernel
set_option maxRecDepth 65536 in
theorem w_t2 : ((words1.drop 24).take 24).all (fun c => isCode c || c.before args0 about1) = true := by decide +kernel
set_option maxRecDepth 65536 in
theorem w_t3 : ((words1.drop 24).drop 24).all (fun c => isCode c || c.before args0 about1) = true := by decide +kernel
theorem w_tables : (allAtoms (Jvm.Cond.code x code maxLocals ret :: tables_1)).before args0 about1 = true := by
  rw [allAtoms_all]
  show words1.all (fun c => c.before args0 about1) = true
  refine all_split ?_ w_codes
  rw [← List.take_append_drop 24 words1, List.all_append, w_t1, ← List.take_append_drop 24 (words1.drop 24), List.all_append, w_t2, w_t3]
  rfl
set_option maxRecDepth 65536 in
theorem w_case : (Jvm.Cond.and given_1 narrow_1).before args0 about1 = true := by decide +kernel
theorem w_applies : (headSpec (Jvm.Cond.code x code maxLocals ret :: tables_1) room_1).applies x e0.platform about1 = true :=
  (Spec.applies_iff w_frames).mpr ⟨w_running, w_runnable, w_alone, w_named, w_hears, w_ripe, w_room, w_tables⟩
theorem atStart : AtStart classFile x code maxLocals ret World_1 tables_1 room_1 Calls_1 rest_1 Pre_1 launch0 p0 e0 about1 theMethod args0 below0 :=
  ⟨lists_1, trivial, launch0.admits_env _ _ _, launch0.least_env, fairChoices_fair.cas, fairChoices_fair.clock, w_frames, w_args, w_heap, w_applies, trivial, trivial, w_case⟩
end start1
theorem witness_1 : WitnessClaimed_1 := ⟨start1.p0, start1.e0, start1.about1, start1.theMethod, start1.args0, start1.below0, start1.atStart⟩
end Jvm.Pilot.@@N@@
