import JvmDerived
import JvmDerived.Pilot.@@N@@Statement
import JvmDerived.Pilot.@@N@@Code
set_option linter.unusedVariables false
set_option linter.unusedSimpArgs false
namespace Jvm.RoadKit
open Sem ClassFile Op Lib Jvm.Stand Jvm.Free Jvm.LawKit
section New
variable {p : Program} {l : Launch} {e : Env} {R : Room} {s : State} {m : MethodId} {args : Array Value} {below : List Frame} {meth : Method} {c : Code} {T : State} {locs : List Loc} {cells slots : Nat}
theorem retI (X : Stand p l e R s m args below meth c T locs cells slots) (hx : p.tables.exec = Jvm.exec) {pc : Nat} {Ls : Array Slot} {z : Int32} {rest : List Value} (hret : meth.sig.returnType = some .int) (hd : decode c.code pc = .ok (.ireturn, 1)) {fs : List Frame}
    (hl : ∀ (f : JFrame) (acts : List Action), f.method = m → f.locked = none → f.entered = [] → (doReturn e (T.setTop f) acts (some (.int z))).1 = T.setFrames fs) : Steps p.tables e below (T.setTop (mkF m pc Ls (.int z :: rest))) (T.setFrames fs) := by
  have hm' : T.vm.method? m = some meth := X.method'
  have hn : narrow .int (.int z) = .int z := rfl
  show Steps p.tables e below (T.setTop { method := m, pc := pc, locals := Ls, stack := _ :: rest, locked := none }) _
  jvm_step X.here [X.here.top, hx, hd, hm', hret, hn]
  first | (intro acts; rw [hl _ acts rfl rfl rfl]) | rw [hl _ _ rfl rfl rfl]
  exact Steps.refl _
end New
end Jvm.RoadKit
namespace Jvm.Pilot.@@N@@
open Jvm Jvm.ClassFile Sem Op Lib Jvm.Free Jvm.Stand Jvm.LawKit Jvm.RoadKit Bundle Jvm.Pilot.@@N@@.Jvm.D
theorem own_eqI {args : Array Value} {first s : State} {o : Option Outcome} {idx : List Nat} {t : Term} {k : Int32} (h : (Jvm.Cond.eq t (Term.int k)).value args first o s idx = some true) : t.eval args first o idx s = some (.int k) := by
  simp only [Cond.value, Term.eval] at h
  cases ht : t.eval args first o idx s with
  | none => simp [ht] at h
  | some x => cases x <;> simp [ht] at h ⊢; exact h
theorem own_eqR {args : Array Value} {first s : State} {o : Option Outcome} {idx : List Nat} {t u : Term} {x : Addr} (h : (Jvm.Cond.eq t u).value args first o s idx = some true) (hu : u.eval args first o idx s = some (.ref x)) : t.eval args first o idx s = some (.ref x) := by
  simp only [Cond.value, hu] at h
  cases ht : t.eval args first o idx s with
  | none => simp [ht] at h
  | some y => cases y <;> simp [ht] at h ⊢; exact h
theorem own_lenI {args : Array Value} {s : State} {t : Term} {x : Addr} {cl : Cell} {ty : FieldType} {n : Int32} (ev : t.eval args s none [] s = some (.ref x)) (A : Arr s s.heap x cl ty) (ln : (Term.length t).eval args s none [] s = some (.int n)) : cl.slots.size < 2 ^ 31 ∧ cl.slots.size.toInt32 = n := by
  have harr : s.arrayAt? x = some cl := Arr.fin (Vm.Alike.refl _) A
  by_cases h : cl.slots.size < 2 ^ 31
  · have e := len_f ev harr h
    exact ⟨h, Value.int.inj (Option.some.inj (e.symm.trans ln))⟩
  · exfalso
    simp [Term.eval, ev, harr, h] at ln
theorem own_neI {args : Array Value} {first s : State} {o : Option Outcome} {idx : List Nat} {t : Term} {k x : Int32} (h : (Jvm.Cond.not (Jvm.Cond.eq t (Term.int k))).value args first o s idx = some true) (e : t.eval args first o idx s = some (.int x)) : ¬ (x = k) := by
  have q := not_v h
  simp only [Cond.value, Term.eval, e] at q
  simpa using q

theorem own_root {Z : State} {a0 : Array Value} {O K : String} {n : Nat} (w : (Jvm.Cond.noSuperclass O).before a0 Z = true) (wk : (Jvm.Cond.instantiable K n).before a0 Z = true) (hn : O ≠ K) : NS Z O K := by
  obtain ⟨c, k, h1, h2, h3, -, -⟩ := Cond.noSuperclass_spec w
  obtain ⟨t, kt, g1, -⟩ := Cond.instantiable_spec wk
  have ne := ids_ne h1 g1 hn
  refine ⟨c, t, h1, g1, fun fuel => ?_⟩
  cases fuel with
  | zero => rfl
  | succ f => simp [Vm.isSubclassAux, ne, h2, h3]
theorem own_no {Z : State} {a0 : Array Value} {C S K : String} {n : Nat} (w : (Jvm.Cond.superclass C S).before a0 Z = true) (wk : (Jvm.Cond.instantiable K n).before a0 Z = true) (q : NS Z C K) (hn : C ≠ K) : ∃ c t, Z.vm.findClass C = some c ∧ Z.vm.findClass K = some t ∧ Z.vm.assignable c t = false := by
  obtain ⟨c, t, h0, g0, n3⟩ := q
  obtain ⟨p, k, kp, h1, h2, h3, h4, h5, -, h7⟩ := Cond.superclass_spec h0 w
  obtain ⟨t', kt, g1, g2, g3, g4, -⟩ := Cond.instantiable_spec wk
  cases g0.symm.trans g1
  have ne := ids_ne h0 g0 hn
  have g5 : kt.isInterface = false := by
    cases hi : kt.isInterface with
    | false => rfl
    | true => rw [hi] at g4; cases g4
  refine ⟨c, t, h0, g0, ?_⟩
  show Z.vm.assignableAux (255 + 1) c t = false
  simp [Vm.assignableAux, ne, h2, g2, h5, g3, g5, Vm.isSubclass, n3]

theorem own_no_long {Z : State} {a0 : Array Value} (hw : ∀ d ∈ tables_1, d.before a0 Z = true) : ∃ c t, Z.vm.findClass "java/lang/Long" = some c ∧ Z.vm.findClass "com/example/coracle/coracle/ServiceID" = some t ∧ Z.vm.assignable c t = false :=
  own_no (hw _ (List.mem_of_getElem? (i := 40) rfl)) (hw _ (List.mem_of_getElem? (i := 1) rfl)) (NS.step (hw _ (List.mem_of_getElem? (i := 40) rfl)) (NS.step (hw _ (List.mem_of_getElem? (i := 41) rfl)) (own_root (hw _ (List.mem_of_getElem? (i := 42) rfl)) (hw _ (List.mem_of_getElem? (i := 1) rfl)) (by decide)) (by decide)) (by decide)) (by decide)
theorem d1_0 : decode prog_109_method_1_code 0 = .ok (.aload_n 0, 1) := by decide +kernel
theorem d1_1 : decode prog_109_method_1_code 1 = .ok (.invokespecial 1, 3) := by decide +kernel
theorem d1_4 : decode prog_109_method_1_code 4 = .ok (.aload_n 0, 1) := by decide +kernel
theorem d1_5 : decode prog_109_method_1_code 5 = .ok (.lload_n 1, 1) := by decide +kernel
theorem d1_6 : decode prog_109_method_1_code 6 = .ok (.putfield 7, 3) := by decide +kernel
theorem d1_9 : decode prog_109_method_1_code 9 = .ok (.aload_n 0, 1) := by decide +kernel
theorem d1_10 : decode prog_109_method_1_code 10 = .ok (.lload_n 3, 1) := by decide +kernel
theorem d1_11 : decode prog_109_method_1_code 11 = .ok (.putfield 13, 3) := by decide +kernel
theorem d1_14 : decode prog_109_method_1_code 14 = .ok (.return_, 1) := by decide +kernel
theorem pn_1 : plainName "com/example/coracle/coracle/ServiceID" = true := by first | (simp [plainName, overriddenIn]; done) | decide +kernel
theorem ef_1 (m : MethodId) (x0 : Addr) (x1 : Int64) (x2 : Int64) : entryFrame m #[(.ref x0), (.long x1), (.long x2)] 5 = mkF m 0 #[.val (.ref x0), .val (.long x1), .second, .val (.long x2), .second] [] := by first | (simp [entryFrame, mkF, argsToLocals, Value.category]; done) | rfl
def Q1 (Z : State) (a1 : Addr) (q2 : Int64) (q3 : Int64) (u_mostSignificantBits_a1 : Value) (u_leastSignificantBits_a1 : Value) (h0 : Heap) (n0 : Nat) (v : Option Value) (h : Heap) (L : List Loc) : Prop := v = none ∧ Fr n0 L ∧ Keep h0 h [a1] ∧ Exa Z h a1 "com/example/coracle/coracle/ServiceID" ∧ Fld Z h a1 "com/example/coracle/coracle/ServiceID" "mostSignificantBits" "J" (.long q2) ∧ Fld Z h a1 "com/example/coracle/coracle/ServiceID" "leastSignificantBits" "J" (.long q3)
set_option maxRecDepth 65536 in
set_option maxHeartbeats 40000000 in
theorem rm1 (l : Launch) (Z : State) (a0 : Array Value) (hw : ∀ d ∈ tables_1, d.before a0 Z = true) (ws : List Jvm.Cond) (a1 : Addr) (q2 : Int64) (q3 : Int64) (u_mostSignificantBits_a1 : Value) (u_leastSignificantBits_a1 : Value) (h0 : Heap) (n0 : Nat) (Z0 : n0 ≤ h0.size) (E_a1 : Exa Z h0 a1 "com/example/coracle/coracle/ServiceID") (F_mostSignificantBits_a1 : Fld Z h0 a1 "com/example/coracle/coracle/ServiceID" "mostSignificantBits" "J" u_mostSignificantBits_a1) (g_a1 : n0 ≤ a1) (F_leastSignificantBits_a1 : Fld Z h0 a1 "com/example/coracle/coracle/ServiceID" "leastSignificantBits" "J" u_leastSignificantBits_a1) :
    MetFree l (⟨"com/example/coracle/coracle/ServiceID", "<init>", "(JJ)V"⟩ : MethodName) (head1 (Jvm.Cond.code (⟨"com/example/coracle/coracle/ServiceID", "<init>", "(JJ)V"⟩ : MethodName) prog_109_method_1_code 5 none :: ws) ({ frames := 1, cells := 0, slots := 0, locals := 12 } : Room)) (fun a U => a = #[(.ref a1), (.long q2), (.long q3)] ∧ Z.Warmed39 U.vm ∧ U.heap = h0) (fun _ _ _ _ _ => True) (fun _ U o U' => ∃ v L, o = .returned v ∧ Q1 Z a1 q2 q3 u_mostSignificantBits_a1 u_leastSignificantBits_a1 h0 n0 v U'.heap L ∧ FrameEnd U o U' L ({ frames := 1, cells := 0, slots := 0, locals := 12 } : Room).cells ({ frames := 1, cells := 0, slots := 0, locals := 12 } : Room).slots) := by
  refine MetFree.of_bodySF (plainFor_of_name pn_1) hisR ?_
  intro p e s m args below meth c s₁ Bd hml0 hP hK
  obtain ⟨rfl, hZ, hh⟩ := hP
  have hx := Bd.exec
  have hby := Bd.bytes
  have hml : c.maxLocals = 5 := hml0
  have hown : s.vm.findClass "com/example/coracle/coracle/ServiceID" = some m.cls := findClass_of_methodNamed Bd.named
  have hnm := (name_of_methodNamed Bd.named Bd.method).1
  have X0 : Stand p l e ({ frames := 1, cells := 0, slots := 0, locals := 12 } : Room) s m #[(.ref a1), (.long q2), (.long q3)] below meth c s₁ [] 0 0 := Stand.of_body Bd
  have e0 : s₁.heap = h0 := by rw [← hh, Bd.state]; rfl
  have N0 := Fr.nil n0
  have pre0 : ∀ t, Steps p.tables e below (s₁.setTop (mkF m 0 #[.val (.ref a1), .val (.long q2), .second, .val (.long q3), .second] [])) t → Steps p.tables e below (s₁.setTop (entryFrame m #[(.ref a1), (.long q2), (.long q3)] 5)) t := fun t k => castTop (ef_1 m a1 q2 q3) k
  -- 3. LAWS
  obtain ⟨T4, X4, e4, st4⟩ := initO X0 hx hZ hown (hw _ (List.mem_of_getElem? (i := 6) rfl)) (hw _ (List.mem_of_getElem? (i := 7) rfl)) (hw _ (List.mem_of_getElem? (i := 8) rfl)) e0 (g := (mkF m 1 #[.val (.ref a1), .val (.long q2), .second, .val (.long q3), .second] [(.ref a1)])) rfl (by rw [hml]; rfl) rfl (hb hby d1_1) (by decide) (W := 0) (by show 2 * 0 + _ ≤ _; exact Nat.le_of_eq rfl) (by decide)
  obtain ⟨T5, h5, X5, e5, W5, st5⟩ := putF X4 hx hZ hown (host := "") (Or.inl (hw _ (List.mem_of_getElem? (i := 9) rfl))) Via.refl e4 F_mostSignificantBits_a1 E_a1 (Or.inr ⟨(hw _ (List.mem_of_getElem? (i := 10) rfl)), rfl, hnm⟩) (hw _ (List.mem_of_getElem? (i := 1) rfl)) (ty := .long) (by decide) rfl rfl (g := (mkF m 6 #[.val (.ref a1), .val (.long q2), .second, .val (.long q3), .second] [(.long q2), (.ref a1)])) rfl rfl (hb hby d1_6)
  have Fw5 := F_mostSignificantBits_a1.same W5      -- the field now holds (.long q2)
  have K5 : Keep h0 h5 [a1] := (Keep.refl h0 [a1]).wr W5 (Or.inl (List.mem_of_getElem? (i := 0) rfl))
  have N5 := Fr.snoc X5 N0 g_a1
  obtain ⟨T6, h6, X6, e6, W6, st6⟩ := putF X5 hx hZ hown (host := "") (Or.inl (hw _ (List.mem_of_getElem? (i := 11) rfl))) Via.refl e5 (F_leastSignificantBits_a1.other W5 (Or.inr (slot_ne (Or.inr (hw _ (List.mem_of_getElem? (i := 12) rfl))) (Or.inr (hw _ (List.mem_of_getElem? (i := 10) rfl))) (by decide) (t := .long) (t' := .long) (by decide) (by decide)))) (E_a1.wr W5) (Or.inr ⟨(hw _ (List.mem_of_getElem? (i := 12) rfl)), rfl, hnm⟩) (hw _ (List.mem_of_getElem? (i := 1) rfl)) (ty := .long) (by decide) rfl rfl (g := (mkF m 11 #[.val (.ref a1), .val (.long q2), .second, .val (.long q3), .second] [(.long q3), (.ref a1)])) rfl rfl (hb hby d1_11)
  have Fw6 := (F_leastSignificantBits_a1.other W5 (Or.inr (slot_ne (Or.inr (hw _ (List.mem_of_getElem? (i := 12) rfl))) (Or.inr (hw _ (List.mem_of_getElem? (i := 10) rfl))) (by decide) (t := .long) (t' := .long) (by decide) (by decide)))).same W6      -- the field now holds (.long q3)
  have K6 : Keep h0 h6 [a1] := K5.wr W6 (Or.inl (List.mem_of_getElem? (i := 0) rfl))
  have N6 := Fr.snoc X6 N5 g_a1
  obtain ⟨fs, hr, hrun, hended, hW, hsame⟩ := X6.leave (v := none) (fun _ => rfl)
  refine ⟨_, _, pre0 _ ?_, hrun, hended, _, _, rfl, ?_, ⟨_, rfl⟩, hW, hsame.mono (by decide) (by decide)⟩
  -- 4. STEPS
  · show Steps p.tables e below (s₁.setTop (mkF m 0 #[.val (.ref a1), .val (.long q2), .second, .val (.long q3), .second] [])) _
    refine XS.aloadN X0.here hx rfl (hb hby d1_0) rfl rfl ?_
    show Steps p.tables e below (s₁.setTop (mkF m 1 #[.val (.ref a1), .val (.long q2), .second, .val (.long q3), .second] [(.ref a1)])) _
    refine st4 _ ?_
    show Steps p.tables e below (T4.setTop (mkF m 4 #[.val (.ref a1), .val (.long q2), .second, .val (.long q3), .second] [])) _
    refine XS.aloadN X4.here hx rfl (hb hby d1_4) rfl rfl ?_
    show Steps p.tables e below (T4.setTop (mkF m 5 #[.val (.ref a1), .val (.long q2), .second, .val (.long q3), .second] [(.ref a1)])) _
    refine XS.lloadN X4.here hx rfl (hb hby d1_5) rfl ?_
    show Steps p.tables e below (T4.setTop (mkF m 6 #[.val (.ref a1), .val (.long q2), .second, .val (.long q3), .second] [(.long q2), (.ref a1)])) _
    refine st5 _ ?_
    show Steps p.tables e below (T5.setTop (mkF m 9 #[.val (.ref a1), .val (.long q2), .second, .val (.long q3), .second] [])) _
    refine XS.aloadN X5.here hx rfl (hb hby d1_9) rfl rfl ?_
    show Steps p.tables e below (T5.setTop (mkF m 10 #[.val (.ref a1), .val (.long q2), .second, .val (.long q3), .second] [(.ref a1)])) _
    refine XS.lloadN X5.here hx rfl (hb hby d1_10) rfl ?_
    show Steps p.tables e below (T5.setTop (mkF m 11 #[.val (.ref a1), .val (.long q2), .second, .val (.long q3), .second] [(.long q3), (.ref a1)])) _
    refine st6 _ ?_
    show Steps p.tables e below (T6.setTop (mkF m 14 #[.val (.ref a1), .val (.long q2), .second, .val (.long q3), .second] [])) _
    exact X6.returnOut hx Bd.returns (hb hby d1_14) hr
  · show Q1 Z a1 q2 q3 u_mostSignificantBits_a1 u_leastSignificantBits_a1 h0 n0 _ T6.heap _
    rw [e6]
    exact ⟨rfl, N6, K6, ((E_a1.wr W5).wr W6), (Fw5.other W6 (Or.inr (slot_ne (Or.inr (hw _ (List.mem_of_getElem? (i := 10) rfl))) (Or.inr (hw _ (List.mem_of_getElem? (i := 12) rfl))) (by decide) (t := .long) (t' := .long) (by decide) (by decide)))), Fw6⟩

theorem d3_0 : decode prog_109_method_7_code 0 = .ok (.aload_n 1, 1) := by decide +kernel
theorem d3_1 : decode prog_109_method_7_code 1 = .ok (.instanceof 8, 3) := by decide +kernel
theorem d3_4 : decode prog_109_method_7_code 4 = .ok (.ifCond .eq 36, 3) := by decide +kernel
theorem d3_40 : decode prog_109_method_7_code 40 = .ok (.iconst 0, 1) := by decide +kernel
theorem d3_41 : decode prog_109_method_7_code 41 = .ok (.ireturn, 1) := by decide +kernel
theorem ef_3n (m : MethodId) (x0 : Addr) : entryFrame m #[(.ref x0), .null] 3 = mkF m 0 #[.val (.ref x0), .val .null, .unset] [] := by first | (simp [entryFrame, mkF, argsToLocals, Value.category]; done) | rfl
def F3n  : Int32 :=
  (0 : Int32)
def Q3n (Z : State) (a1 : Addr) (h0 : Heap) (n0 : Nat) (v : Option Value) (h : Heap) (L : List Loc) : Prop := v = some (.int (F3n)) ∧ Fr n0 L ∧ h = h0
set_option maxRecDepth 65536 in
set_option maxHeartbeats 40000000 in
theorem rm3n (l : Launch) (Z : State) (a0 : Array Value) (hw : ∀ d ∈ tables_1, d.before a0 Z = true) (ws : List Jvm.Cond) (a1 : Addr) (h0 : Heap) (n0 : Nat) (Z0 : n0 ≤ h0.size)  :
    MetFree l (⟨"com/example/coracle/coracle/ServiceID", "equals", "(Ljava/lang/Object;)Z"⟩ : MethodName) (head1 (Jvm.Cond.code (⟨"com/example/coracle/coracle/ServiceID", "equals", "(Ljava/lang/Object;)Z"⟩ : MethodName) prog_109_method_7_code 3 (some .boolean) :: ws) ({ frames := 0, cells := 0, slots := 0, locals := 0 } : Room)) (fun a U => a = #[(.ref a1), .null] ∧ Z.Warmed39 U.vm ∧ U.heap = h0) (fun _ _ _ _ _ => True) (fun _ U o U' => ∃ v L, o = .returned v ∧ Q3n Z a1 h0 n0 v U'.heap L ∧ FrameEnd U o U' L ({ frames := 0, cells := 0, slots := 0, locals := 0 } : Room).cells ({ frames := 0, cells := 0, slots := 0, locals := 0 } : Room).slots) := by
  refine MetFree.of_bodySF (plainFor_of_name pn_1) hisR ?_
  intro p e s m args below meth c s₁ Bd hml0 hP hK
  obtain ⟨rfl, hZ, hh⟩ := hP
  have hx := Bd.exec
  have hby := Bd.bytes
  have hml : c.maxLocals = 3 := hml0
  have hown : s.vm.findClass "com/example/coracle/coracle/ServiceID" = some m.cls := findClass_of_methodNamed Bd.named
  have hnm := (name_of_methodNamed Bd.named Bd.method).1
  have hret := Bd.returns
  have hlocks : meth.locks = false := Bd.notSynchronized
  have X0 : Stand p l e ({ frames := 0, cells := 0, slots := 0, locals := 0 } : Room) s m #[(.ref a1), .null] below meth c s₁ [] 0 0 := Stand.of_body Bd
  have e0 : s₁.heap = h0 := by rw [← hh, Bd.state]; rfl
  have N0 := Fr.nil n0
  have pre0 : ∀ t, Steps p.tables e below (s₁.setTop (mkF m 0 #[.val (.ref a1), .val .null, .unset] [])) t → Steps p.tables e below (s₁.setTop (entryFrame m #[(.ref a1), .null] 3)) t := fun t k => castTop (ef_3n m a1) k
  have pre1 : ∀ t, Steps p.tables e below (s₁.setTop (mkF m 4 #[.val (.ref a1), .val .null, .unset] [(.int (0 : Int32))])) t → Steps p.tables e below (s₁.setTop (entryFrame m #[(.ref a1), .null] 3)) t := by
    intro t k
    refine pre0 _ ?_
    show Steps p.tables e below (s₁.setTop (mkF m 0 #[.val (.ref a1), .val .null, .unset] [])) _
    refine XS.aloadN X0.here hx rfl (hb hby d3_0) rfl rfl ?_
    show Steps p.tables e below (s₁.setTop (mkF m 1 #[.val (.ref a1), .val .null, .unset] [.null])) _
    refine X0.instanceofNull hx (g := (mkF m 1 #[.val (.ref a1), .val .null, .unset] [.null])) rfl rfl (hb hby d3_1) _ ?_
    exact k
  have pre3 : ∀ t, Steps p.tables e below (s₁.setTop (mkF m 40 #[.val (.ref a1), .val .null, .unset] [])) t → Steps p.tables e below (s₁.setTop (entryFrame m #[(.ref a1), .null] 3)) t := by
    intro t k
    refine pre1 _ ?_
    show Steps p.tables e below (s₁.setTop (mkF m 4 #[.val (.ref a1), .val .null, .unset] [(.int (0 : Int32))])) _
    refine XS.ifYes X0.here hx rfl (pc0 := 4) (pc' := 40) rfl (hb hby d3_4) rfl ((if0 _ _).trans (teq (rfl : (0 : Int32) = (0 : Int32))).1) (by decide) (by decide) ?_
    exact k
  have pre4 : ∀ t, Steps p.tables e below (s₁.setTop (mkF m 41 #[.val (.ref a1), .val .null, .unset] [(.int (0 : Int32))])) t → Steps p.tables e below (s₁.setTop (entryFrame m #[(.ref a1), .null] 3)) t := by
    intro t k
    refine pre3 _ ?_
    show Steps p.tables e below (s₁.setTop (mkF m 40 #[.val (.ref a1), .val .null, .unset] [])) _
    refine XS.iconst X0.here hx rfl (hb hby d3_40) ?_
    exact k
  obtain ⟨fs, hr, hrun, hended, hW, hsame⟩ := X0.leave (v := some (.int (0 : Int32))) (fun h => by rw [hret] at h; cases h)
  refine ⟨_, _, pre4 _ ?_, hrun, hended, _, _, rfl, ?_, ⟨_, rfl⟩, hW, hsame.mono (by decide) (by decide)⟩
  · show Steps p.tables e below (s₁.setTop (mkF m 41 #[.val (.ref a1), .val .null, .unset] [(.int (0 : Int32))])) _
    exact retN X0 hx (t := .boolean) hret (by simp) (hb hby d3_41) hr
  · show Q3n Z a1 h0 n0 _ s₁.heap _
    exact ⟨(by rw [F3n]), N0, e0⟩
theorem ef_3o (m : MethodId) (x0 : Addr) (x1 : Addr) : entryFrame m #[(.ref x0), (.ref x1)] 3 = mkF m 0 #[.val (.ref x0), .val (.ref x1), .unset] [] := by first | (simp [entryFrame, mkF, argsToLocals, Value.category]; done) | rfl
def F3o  : Int32 :=
  (0 : Int32)
def Q3o (Z : State) (a1 : Addr) (a2 : Addr) (h0 : Heap) (n0 : Nat) (v : Option Value) (h : Heap) (L : List Loc) : Prop := v = some (.int (F3o)) ∧ Fr n0 L ∧ h = h0
set_option maxRecDepth 65536 in
set_option maxHeartbeats 40000000 in
theorem rm3o (l : Launch) (Z : State) (a0 : Array Value) (hw : ∀ d ∈ tables_1, d.before a0 Z = true) (ws : List Jvm.Cond) (a1 : Addr) (a2 : Addr) (h0 : Heap) (n0 : Nat) (Z0 : n0 ≤ h0.size) (E_a2 : Exa Z h0 a2 "java/lang/Long") (hno : ∃ c t, Z.vm.findClass "java/lang/Long" = some c ∧ Z.vm.findClass "com/example/coracle/coracle/ServiceID" = some t ∧ Z.vm.assignable c t = false) :
    MetFree l (⟨"com/example/coracle/coracle/ServiceID", "equals", "(Ljava/lang/Object;)Z"⟩ : MethodName) (head1 (Jvm.Cond.code (⟨"com/example/coracle/coracle/ServiceID", "equals", "(Ljava/lang/Object;)Z"⟩ : MethodName) prog_109_method_7_code 3 (some .boolean) :: ws) ({ frames := 0, cells := 0, slots := 0, locals := 0 } : Room)) (fun a U => a = #[(.ref a1), (.ref a2)] ∧ Z.Warmed39 U.vm ∧ U.heap = h0) (fun _ _ _ _ _ => True) (fun _ U o U' => ∃ v L, o = .returned v ∧ Q3o Z a1 a2 h0 n0 v U'.heap L ∧ FrameEnd U o U' L ({ frames := 0, cells := 0, slots := 0, locals := 0 } : Room).cells ({ frames := 0, cells := 0, slots := 0, locals := 0 } : Room).slots) := by
  refine MetFree.of_bodySF (plainFor_of_name pn_1) hisR ?_
  intro p e s m args below meth c s₁ Bd hml0 hP hK
  obtain ⟨rfl, hZ, hh⟩ := hP
  have hx := Bd.exec
  have hby := Bd.bytes
  have hml : c.maxLocals = 3 := hml0
  have hown : s.vm.findClass "com/example/coracle/coracle/ServiceID" = some m.cls := findClass_of_methodNamed Bd.named
  have hnm := (name_of_methodNamed Bd.named Bd.method).1
  have hret := Bd.returns
  have hlocks : meth.locks = false := Bd.notSynchronized
  have X0 : Stand p l e ({ frames := 0, cells := 0, slots := 0, locals := 0 } : Room) s m #[(.ref a1), (.ref a2)] below meth c s₁ [] 0 0 := Stand.of_body Bd
  have e0 : s₁.heap = h0 := by rw [← hh, Bd.state]; rfl
  have N0 := Fr.nil n0
  have pre0 : ∀ t, Steps p.tables e below (s₁.setTop (mkF m 0 #[.val (.ref a1), .val (.ref a2), .unset] [])) t → Steps p.tables e below (s₁.setTop (entryFrame m #[(.ref a1), (.ref a2)] 3)) t := fun t k => castTop (ef_3o m a1 a2) k
  have pre5 : ∀ t, Steps p.tables e below (s₁.setTop (mkF m 1 #[.val (.ref a1), .val (.ref a2), .unset] [(.ref a2)])) t → Steps p.tables e below (s₁.setTop (entryFrame m #[(.ref a1), (.ref a2)] 3)) t := by
    intro t k
    refine pre0 _ ?_
    show Steps p.tables e below (s₁.setTop (mkF m 0 #[.val (.ref a1), .val (.ref a2), .unset] [])) _
    refine XS.aloadN X0.here hx rfl (hb hby d3_0) rfl rfl ?_
    exact k
  obtain ⟨T6, X6, e6, st6⟩ := instNo X0 hx hZ hown (hw _ (List.mem_of_getElem? (i := 18) rfl)) e0 E_a2 hno (g := (mkF m 1 #[.val (.ref a1), .val (.ref a2), .unset] [(.ref a2)])) rfl rfl (hb hby d3_1)
  have pre7 : ∀ t, Steps p.tables e below (T6.setTop (mkF m 4 #[.val (.ref a1), .val (.ref a2), .unset] [(.int (0 : Int32))])) t → Steps p.tables e below (s₁.setTop (entryFrame m #[(.ref a1), (.ref a2)] 3)) t := by
    intro t k
    refine pre5 _ ?_
    show Steps p.tables e below (s₁.setTop (mkF m 1 #[.val (.ref a1), .val (.ref a2), .unset] [(.ref a2)])) _
    refine st6 _ ?_
    exact k
  have pre9 : ∀ t, Steps p.tables e below (T6.setTop (mkF m 40 #[.val (.ref a1), .val (.ref a2), .unset] [])) t → Steps p.tables e below (s₁.setTop (entryFrame m #[(.ref a1), (.ref a2)] 3)) t := by
    intro t k
    refine pre7 _ ?_
    show Steps p.tables e below (T6.setTop (mkF m 4 #[.val (.ref a1), .val (.ref a2), .unset] [(.int (0 : Int32))])) _
    refine XS.ifYes X6.here hx rfl (pc0 := 4) (pc' := 40) rfl (hb hby d3_4) rfl ((if0 _ _).trans (teq (rfl : (0 : Int32) = (0 : Int32))).1) (by decide) (by decide) ?_
    exact k
  have pre10 : ∀ t, Steps p.tables e below (T6.setTop (mkF m 41 #[.val (.ref a1), .val (.ref a2), .unset] [(.int (0 : Int32))])) t → Steps p.tables e below (s₁.setTop (entryFrame m #[(.ref a1), (.ref a2)] 3)) t := by
    intro t k
    refine pre9 _ ?_
    show Steps p.tables e below (T6.setTop (mkF m 40 #[.val (.ref a1), .val (.ref a2), .unset] [])) _
    refine XS.iconst X6.here hx rfl (hb hby d3_40) ?_
    exact k
  obtain ⟨fs, hr, hrun, hended, hW, hsame⟩ := X6.leave (v := some (.int (0 : Int32))) (fun h => by rw [hret] at h; cases h)
  refine ⟨_, _, pre10 _ ?_, hrun, hended, _, _, rfl, ?_, ⟨_, rfl⟩, hW, hsame.mono (by decide) (by decide)⟩
  · show Steps p.tables e below (T6.setTop (mkF m 41 #[.val (.ref a1), .val (.ref a2), .unset] [(.int (0 : Int32))])) _
    exact retN X6 hx (t := .boolean) hret (by simp) (hb hby d3_41) hr
  · show Q3o Z a1 a2 h0 n0 _ T6.heap _
    exact ⟨(by rw [F3o]), N0, e6⟩
theorem d3_7 : decode prog_109_method_7_code 7 = .ok (.aload_n 1, 1) := by decide +kernel
theorem d3_8 : decode prog_109_method_7_code 8 = .ok (.checkcast 8, 3) := by decide +kernel
theorem d3_11 : decode prog_109_method_7_code 11 = .ok (.astore_n 2, 1) := by decide +kernel
theorem d3_12 : decode prog_109_method_7_code 12 = .ok (.aload_n 2, 1) := by decide +kernel
theorem d3_13 : decode prog_109_method_7_code 13 = .ok (.getfield 7, 3) := by decide +kernel
theorem d3_16 : decode prog_109_method_7_code 16 = .ok (.aload_n 0, 1) := by decide +kernel
theorem d3_17 : decode prog_109_method_7_code 17 = .ok (.getfield 7, 3) := by decide +kernel
theorem d3_20 : decode prog_109_method_7_code 20 = .ok (.lcmp, 1) := by decide +kernel
theorem d3_21 : decode prog_109_method_7_code 21 = .ok (.ifCond .ne 19, 3) := by decide +kernel
theorem d3_24 : decode prog_109_method_7_code 24 = .ok (.aload_n 2, 1) := by decide +kernel
theorem d3_25 : decode prog_109_method_7_code 25 = .ok (.getfield 13, 3) := by decide +kernel
theorem d3_28 : decode prog_109_method_7_code 28 = .ok (.aload_n 0, 1) := by decide +kernel
theorem d3_29 : decode prog_109_method_7_code 29 = .ok (.getfield 13, 3) := by decide +kernel
theorem d3_32 : decode prog_109_method_7_code 32 = .ok (.lcmp, 1) := by decide +kernel
theorem d3_33 : decode prog_109_method_7_code 33 = .ok (.ifCond .ne 7, 3) := by decide +kernel
theorem d3_36 : decode prog_109_method_7_code 36 = .ok (.iconst 1, 1) := by decide +kernel
theorem d3_37 : decode prog_109_method_7_code 37 = .ok (.goto 4, 3) := by decide +kernel
theorem ef_3s (m : MethodId) (x0 : Addr) (x1 : Addr) : entryFrame m #[(.ref x0), (.ref x1)] 3 = mkF m 0 #[.val (.ref x0), .val (.ref x1), .unset] [] := by first | (simp [entryFrame, mkF, argsToLocals, Value.category]; done) | rfl
def F3s (f_mostSignificantBits_a2 : Int64) (f_mostSignificantBits_a1 : Int64) (f_leastSignificantBits_a2 : Int64) (f_leastSignificantBits_a1 : Int64) : Int32 :=
  if (lcmpW f_mostSignificantBits_a2 f_mostSignificantBits_a1) = (0 : Int32) then (  if (lcmpW f_leastSignificantBits_a2 f_leastSignificantBits_a1) = (0 : Int32) then (  (1 : Int32))
  else (  (0 : Int32)))
  else (  (0 : Int32))
def Q3s (Z : State) (a1 : Addr) (a2 : Addr) (f_mostSignificantBits_a2 : Int64) (f_mostSignificantBits_a1 : Int64) (f_leastSignificantBits_a2 : Int64) (f_leastSignificantBits_a1 : Int64) (h0 : Heap) (n0 : Nat) (v : Option Value) (h : Heap) (L : List Loc) : Prop := v = some (.int (F3s f_mostSignificantBits_a2 f_mostSignificantBits_a1 f_leastSignificantBits_a2 f_leastSignificantBits_a1)) ∧ Fr n0 L ∧ h = h0
set_option maxRecDepth 65536 in
set_option maxHeartbeats 40000000 in
theorem rm3s (l : Launch) (Z : State) (a0 : Array Value) (hw : ∀ d ∈ tables_1, d.before a0 Z = true) (ws : List Jvm.Cond) (a1 : Addr) (a2 : Addr) (f_mostSignificantBits_a2 : Int64) (f_mostSignificantBits_a1 : Int64) (f_leastSignificantBits_a2 : Int64) (f_leastSignificantBits_a1 : Int64) (h0 : Heap) (n0 : Nat) (Z0 : n0 ≤ h0.size) (E_a2 : Exa Z h0 a2 "com/example/coracle/coracle/ServiceID") (F_f_mostSignificantBits_a2 : Fld Z h0 a2 "com/example/coracle/coracle/ServiceID" "mostSignificantBits" "J" (.long f_mostSignificantBits_a2)) (F_f_mostSignificantBits_a1 : Fld Z h0 a1 "com/example/coracle/coracle/ServiceID" "mostSignificantBits" "J" (.long f_mostSignificantBits_a1)) (F_f_leastSignificantBits_a2 : Fld Z h0 a2 "com/example/coracle/coracle/ServiceID" "leastSignificantBits" "J" (.long f_leastSignificantBits_a2)) (F_f_leastSignificantBits_a1 : Fld Z h0 a1 "com/example/coracle/coracle/ServiceID" "leastSignificantBits" "J" (.long f_leastSignificantBits_a1)) :
    MetFree l (⟨"com/example/coracle/coracle/ServiceID", "equals", "(Ljava/lang/Object;)Z"⟩ : MethodName) (head1 (Jvm.Cond.code (⟨"com/example/coracle/coracle/ServiceID", "equals", "(Ljava/lang/Object;)Z"⟩ : MethodName) prog_109_method_7_code 3 (some .boolean) :: ws) ({ frames := 0, cells := 0, slots := 0, locals := 0 } : Room)) (fun a U => a = #[(.ref a1), (.ref a2)] ∧ Z.Warmed39 U.vm ∧ U.heap = h0) (fun _ _ _ _ _ => True) (fun _ U o U' => ∃ v L, o = .returned v ∧ Q3s Z a1 a2 f_mostSignificantBits_a2 f_mostSignificantBits_a1 f_leastSignificantBits_a2 f_leastSignificantBits_a1 h0 n0 v U'.heap L ∧ FrameEnd U o U' L ({ frames := 0, cells := 0, slots := 0, locals := 0 } : Room).cells ({ frames := 0, cells := 0, slots := 0, locals := 0 } : Room).slots) := by
  refine MetFree.of_bodySF (plainFor_of_name pn_1) hisR ?_
  intro p e s m args below meth c s₁ Bd hml0 hP hK
  obtain ⟨rfl, hZ, hh⟩ := hP
  have hx := Bd.exec
  have hby := Bd.bytes
  have hml : c.maxLocals = 3 := hml0
  have hown : s.vm.findClass "com/example/coracle/coracle/ServiceID" = some m.cls := findClass_of_methodNamed Bd.named
  have hnm := (name_of_methodNamed Bd.named Bd.method).1
  have hret := Bd.returns
  have hlocks : meth.locks = false := Bd.notSynchronized
  have X0 : Stand p l e ({ frames := 0, cells := 0, slots := 0, locals := 0 } : Room) s m #[(.ref a1), (.ref a2)] below meth c s₁ [] 0 0 := Stand.of_body Bd
  have e0 : s₁.heap = h0 := by rw [← hh, Bd.state]; rfl
  have N0 := Fr.nil n0
  have pre0 : ∀ t, Steps p.tables e below (s₁.setTop (mkF m 0 #[.val (.ref a1), .val (.ref a2), .unset] [])) t → Steps p.tables e below (s₁.setTop (entryFrame m #[(.ref a1), (.ref a2)] 3)) t := fun t k => castTop (ef_3s m a1 a2) k
  have pre11 : ∀ t, Steps p.tables e below (s₁.setTop (mkF m 1 #[.val (.ref a1), .val (.ref a2), .unset] [(.ref a2)])) t → Steps p.tables e below (s₁.setTop (entryFrame m #[(.ref a1), (.ref a2)] 3)) t := by
    intro t k
    refine pre0 _ ?_
    show Steps p.tables e below (s₁.setTop (mkF m 0 #[.val (.ref a1), .val (.ref a2), .unset] [])) _
    refine XS.aloadN X0.here hx rfl (hb hby d3_0) rfl rfl ?_
    exact k
  obtain ⟨T12, X12, e12, st12⟩ := instY X0 hx hZ hown (hw _ (List.mem_of_getElem? (i := 18) rfl)) e0 (Ins.self E_a2) (g := (mkF m 1 #[.val (.ref a1), .val (.ref a2), .unset] [(.ref a2)])) rfl rfl (hb hby d3_1)
  have pre13 : ∀ t, Steps p.tables e below (T12.setTop (mkF m 4 #[.val (.ref a1), .val (.ref a2), .unset] [(.int (1 : Int32))])) t → Steps p.tables e below (s₁.setTop (entryFrame m #[(.ref a1), (.ref a2)] 3)) t := by
    intro t k
    refine pre11 _ ?_
    show Steps p.tables e below (s₁.setTop (mkF m 1 #[.val (.ref a1), .val (.ref a2), .unset] [(.ref a2)])) _
    refine st12 _ ?_
    exact k
  have pre15 : ∀ t, Steps p.tables e below (T12.setTop (mkF m 7 #[.val (.ref a1), .val (.ref a2), .unset] [])) t → Steps p.tables e below (s₁.setTop (entryFrame m #[(.ref a1), (.ref a2)] 3)) t := by
    intro t k
    refine pre13 _ ?_
    show Steps p.tables e below (T12.setTop (mkF m 4 #[.val (.ref a1), .val (.ref a2), .unset] [(.int (1 : Int32))])) _
    refine XS.ifNo X12.here hx rfl (hb hby d3_4) rfl ((if0 _ _).trans (feq (by decide : ¬ ((1 : Int32) = (0 : Int32)))).1) ?_
    exact k
  have pre16 : ∀ t, Steps p.tables e below (T12.setTop (mkF m 8 #[.val (.ref a1), .val (.ref a2), .unset] [(.ref a2)])) t → Steps p.tables e below (s₁.setTop (entryFrame m #[(.ref a1), (.ref a2)] 3)) t := by
    intro t k
    refine pre15 _ ?_
    show Steps p.tables e below (T12.setTop (mkF m 7 #[.val (.ref a1), .val (.ref a2), .unset] [])) _
    refine XS.aloadN X12.here hx rfl (hb hby d3_7) rfl rfl ?_
    exact k
  obtain ⟨T17, X17, e17, st17⟩ := castY X12 hx hZ hown (hw _ (List.mem_of_getElem? (i := 18) rfl)) e12 (Ins.self E_a2) (g := (mkF m 8 #[.val (.ref a1), .val (.ref a2), .unset] [(.ref a2)])) rfl rfl (hb hby d3_8)
  have pre18 : ∀ t, Steps p.tables e below (T17.setTop (mkF m 11 #[.val (.ref a1), .val (.ref a2), .unset] [(.ref a2)])) t → Steps p.tables e below (s₁.setTop (entryFrame m #[(.ref a1), (.ref a2)] 3)) t := by
    intro t k
    refine pre16 _ ?_
    show Steps p.tables e below (T12.setTop (mkF m 8 #[.val (.ref a1), .val (.ref a2), .unset] [(.ref a2)])) _
    refine st17 _ ?_
    exact k
  have pre19 : ∀ t, Steps p.tables e below (T17.setTop (mkF m 13 #[.val (.ref a1), .val (.ref a2), .val (.ref a2)] [(.ref a2)])) t → Steps p.tables e below (s₁.setTop (entryFrame m #[(.ref a1), (.ref a2)] 3)) t := by
    intro t k
    refine pre18 _ ?_
    show Steps p.tables e below (T17.setTop (mkF m 11 #[.val (.ref a1), .val (.ref a2), .unset] [(.ref a2)])) _
    refine XS.astoreN X17.here hx rfl (hb hby d3_11) rfl rfl (l' := #[.val (.ref a1), .val (.ref a2), .val (.ref a2)]) rfl ?_
    show Steps p.tables e below (T17.setTop (mkF m 12 #[.val (.ref a1), .val (.ref a2), .val (.ref a2)] [])) _
    refine XS.aloadN X17.here hx rfl (hb hby d3_12) rfl rfl ?_
    exact k
  obtain ⟨T20, X20, e20, st20⟩ := getF X17 hx hZ hown (host := "") (Or.inl (hw _ (List.mem_of_getElem? (i := 9) rfl))) Via.refl e17 F_f_mostSignificantBits_a2 (g := (mkF m 13 #[.val (.ref a1), .val (.ref a2), .val (.ref a2)] [(.ref a2)])) rfl rfl (hb hby d3_13)
  have pre21 : ∀ t, Steps p.tables e below (T20.setTop (mkF m 16 #[.val (.ref a1), .val (.ref a2), .val (.ref a2)] [(.long f_mostSignificantBits_a2)])) t → Steps p.tables e below (s₁.setTop (entryFrame m #[(.ref a1), (.ref a2)] 3)) t := by
    intro t k
    refine pre19 _ ?_
    show Steps p.tables e below (T17.setTop (mkF m 13 #[.val (.ref a1), .val (.ref a2), .val (.ref a2)] [(.ref a2)])) _
    refine st20 _ ?_
    exact k
  have pre22 : ∀ t, Steps p.tables e below (T20.setTop (mkF m 17 #[.val (.ref a1), .val (.ref a2), .val (.ref a2)] [(.ref a1), (.long f_mostSignificantBits_a2)])) t → Steps p.tables e below (s₁.setTop (entryFrame m #[(.ref a1), (.ref a2)] 3)) t := by
    intro t k
    refine pre21 _ ?_
    show Steps p.tables e below (T20.setTop (mkF m 16 #[.val (.ref a1), .val (.ref a2), .val (.ref a2)] [(.long f_mostSignificantBits_a2)])) _
    refine XS.aloadN X20.here hx rfl (hb hby d3_16) rfl rfl ?_
    exact k
  obtain ⟨T23, X23, e23, st23⟩ := getF X20 hx hZ hown (host := "") (Or.inl (hw _ (List.mem_of_getElem? (i := 9) rfl))) Via.refl e20 F_f_mostSignificantBits_a1 (g := (mkF m 17 #[.val (.ref a1), .val (.ref a2), .val (.ref a2)] [(.ref a1), (.long f_mostSignificantBits_a2)])) rfl rfl (hb hby d3_17)
  have pre24 : ∀ t, Steps p.tables e below (T23.setTop (mkF m 20 #[.val (.ref a1), .val (.ref a2), .val (.ref a2)] [(.long f_mostSignificantBits_a1), (.long f_mostSignificantBits_a2)])) t → Steps p.tables e below (s₁.setTop (entryFrame m #[(.ref a1), (.ref a2)] 3)) t := by
    intro t k
    refine pre22 _ ?_
    show Steps p.tables e below (T20.setTop (mkF m 17 #[.val (.ref a1), .val (.ref a2), .val (.ref a2)] [(.ref a1), (.long f_mostSignificantBits_a2)])) _
    refine st23 _ ?_
    exact k
  have pre25 : ∀ t, Steps p.tables e below (T23.setTop (mkF m 21 #[.val (.ref a1), .val (.ref a2), .val (.ref a2)] [(.int (lcmpW f_mostSignificantBits_a2 f_mostSignificantBits_a1))])) t → Steps p.tables e below (s₁.setTop (entryFrame m #[(.ref a1), (.ref a2)] 3)) t := by
    intro t k
    refine pre24 _ ?_
    show Steps p.tables e below (T23.setTop (mkF m 20 #[.val (.ref a1), .val (.ref a2), .val (.ref a2)] [(.long f_mostSignificantBits_a1), (.long f_mostSignificantBits_a2)])) _
    refine XS.lcmp X23.here hx rfl (hb hby d3_20) rfl ?_
    exact k
  by_cases hc26 : (lcmpW f_mostSignificantBits_a2 f_mostSignificantBits_a1) = (0 : Int32)
  · have pre27 : ∀ t, Steps p.tables e below (T23.setTop (mkF m 24 #[.val (.ref a1), .val (.ref a2), .val (.ref a2)] [])) t → Steps p.tables e below (s₁.setTop (entryFrame m #[(.ref a1), (.ref a2)] 3)) t := by
      intro t k
      refine pre25 _ ?_
      show Steps p.tables e below (T23.setTop (mkF m 21 #[.val (.ref a1), .val (.ref a2), .val (.ref a2)] [(.int (lcmpW f_mostSignificantBits_a2 f_mostSignificantBits_a1))])) _
      refine XS.ifNo X23.here hx rfl (hb hby d3_21) rfl ((if0 _ _).trans (teq hc26).2) ?_
      exact k
    have pre28 : ∀ t, Steps p.tables e below (T23.setTop (mkF m 25 #[.val (.ref a1), .val (.ref a2), .val (.ref a2)] [(.ref a2)])) t → Steps p.tables e below (s₁.setTop (entryFrame m #[(.ref a1), (.ref a2)] 3)) t := by
      intro t k
      refine pre27 _ ?_
      show Steps p.tables e below (T23.setTop (mkF m 24 #[.val (.ref a1), .val (.ref a2), .val (.ref a2)] [])) _
      refine XS.aloadN X23.here hx rfl (hb hby d3_24) rfl rfl ?_
      exact k
    obtain ⟨T29, X29, e29, st29⟩ := getF X23 hx hZ hown (host := "") (Or.inl (hw _ (List.mem_of_getElem? (i := 11) rfl))) Via.refl e23 F_f_leastSignificantBits_a2 (g := (mkF m 25 #[.val (.ref a1), .val (.ref a2), .val (.ref a2)] [(.ref a2)])) rfl rfl (hb hby d3_25)
    have pre30 : ∀ t, Steps p.tables e below (T29.setTop (mkF m 28 #[.val (.ref a1), .val (.ref a2), .val (.ref a2)] [(.long f_leastSignificantBits_a2)])) t → Steps p.tables e below (s₁.setTop (entryFrame m #[(.ref a1), (.ref a2)] 3)) t := by
      intro t k
      refine pre28 _ ?_
      show Steps p.tables e below (T23.setTop (mkF m 25 #[.val (.ref a1), .val (.ref a2), .val (.ref a2)] [(.ref a2)])) _
      refine st29 _ ?_
      exact k
    have pre31 : ∀ t, Steps p.tables e below (T29.setTop (mkF m 29 #[.val (.ref a1), .val (.ref a2), .val (.ref a2)] [(.ref a1), (.long f_leastSignificantBits_a2)])) t → Steps p.tables e below (s₁.setTop (entryFrame m #[(.ref a1), (.ref a2)] 3)) t := by
      intro t k
      refine pre30 _ ?_
      show Steps p.tables e below (T29.setTop (mkF m 28 #[.val (.ref a1), .val (.ref a2), .val (.ref a2)] [(.long f_leastSignificantBits_a2)])) _
      refine XS.aloadN X29.here hx rfl (hb hby d3_28) rfl rfl ?_
      exact k
    obtain ⟨T32, X32, e32, st32⟩ := getF X29 hx hZ hown (host := "") (Or.inl (hw _ (List.mem_of_getElem? (i := 11) rfl))) Via.refl e29 F_f_leastSignificantBits_a1 (g := (mkF m 29 #[.val (.ref a1), .val (.ref a2), .val (.ref a2)] [(.ref a1), (.long f_leastSignificantBits_a2)])) rfl rfl (hb hby d3_29)
    have pre33 : ∀ t, Steps p.tables e below (T32.setTop (mkF m 32 #[.val (.ref a1), .val (.ref a2), .val (.ref a2)] [(.long f_leastSignificantBits_a1), (.long f_leastSignificantBits_a2)])) t → Steps p.tables e below (s₁.setTop (entryFrame m #[(.ref a1), (.ref a2)] 3)) t := by
      intro t k
      refine pre31 _ ?_
      show Steps p.tables e below (T29.setTop (mkF m 29 #[.val (.ref a1), .val (.ref a2), .val (.ref a2)] [(.ref a1), (.long f_leastSignificantBits_a2)])) _
      refine st32 _ ?_
      exact k
    have pre34 : ∀ t, Steps p.tables e below (T32.setTop (mkF m 33 #[.val (.ref a1), .val (.ref a2), .val (.ref a2)] [(.int (lcmpW f_leastSignificantBits_a2 f_leastSignificantBits_a1))])) t → Steps p.tables e below (s₁.setTop (entryFrame m #[(.ref a1), (.ref a2)] 3)) t := by
      intro t k
      refine pre33 _ ?_
      show Steps p.tables e below (T32.setTop (mkF m 32 #[.val (.ref a1), .val (.ref a2), .val (.ref a2)] [(.long f_leastSignificantBits_a1), (.long f_leastSignificantBits_a2)])) _
      refine XS.lcmp X32.here hx rfl (hb hby d3_32) rfl ?_
      exact k
    by_cases hc35 : (lcmpW f_leastSignificantBits_a2 f_leastSignificantBits_a1) = (0 : Int32)
    · have pre36 : ∀ t, Steps p.tables e below (T32.setTop (mkF m 36 #[.val (.ref a1), .val (.ref a2), .val (.ref a2)] [])) t → Steps p.tables e below (s₁.setTop (entryFrame m #[(.ref a1), (.ref a2)] 3)) t := by
        intro t k
        refine pre34 _ ?_
        show Steps p.tables e below (T32.setTop (mkF m 33 #[.val (.ref a1), .val (.ref a2), .val (.ref a2)] [(.int (lcmpW f_leastSignificantBits_a2 f_leastSignificantBits_a1))])) _
        refine XS.ifNo X32.here hx rfl (hb hby d3_33) rfl ((if0 _ _).trans (teq hc35).2) ?_
        exact k
      have pre37 : ∀ t, Steps p.tables e below (T32.setTop (mkF m 41 #[.val (.ref a1), .val (.ref a2), .val (.ref a2)] [(.int (1 : Int32))])) t → Steps p.tables e below (s₁.setTop (entryFrame m #[(.ref a1), (.ref a2)] 3)) t := by
        intro t k
        refine pre36 _ ?_
        show Steps p.tables e below (T32.setTop (mkF m 36 #[.val (.ref a1), .val (.ref a2), .val (.ref a2)] [])) _
        refine XS.iconst X32.here hx rfl (hb hby d3_36) ?_
        show Steps p.tables e below (T32.setTop (mkF m 37 #[.val (.ref a1), .val (.ref a2), .val (.ref a2)] [(.int (1 : Int32))])) _
        refine XS.goto X32.here hx rfl (pc0 := 37) (pc' := 41) rfl (hb hby d3_37) (by decide) (by decide) ?_
        exact k
      obtain ⟨fs, hr, hrun, hended, hW, hsame⟩ := X32.leave (v := some (.int (1 : Int32))) (fun h => by rw [hret] at h; cases h)
      refine ⟨_, _, pre37 _ ?_, hrun, hended, _, _, rfl, ?_, ⟨_, rfl⟩, hW, hsame.mono (by decide) (by decide)⟩
      · show Steps p.tables e below (T32.setTop (mkF m 41 #[.val (.ref a1), .val (.ref a2), .val (.ref a2)] [(.int (1 : Int32))])) _
        exact retN X32 hx (t := .boolean) hret (by simp) (hb hby d3_41) hr
      · show Q3s Z a1 a2 f_mostSignificantBits_a2 f_mostSignificantBits_a1 f_leastSignificantBits_a2 f_leastSignificantBits_a1 h0 n0 _ T32.heap _
        exact ⟨(by rw [F3s, if_pos hc26, if_pos hc35]), N0, e32⟩
    · have pre38 : ∀ t, Steps p.tables e below (T32.setTop (mkF m 40 #[.val (.ref a1), .val (.ref a2), .val (.ref a2)] [])) t → Steps p.tables e below (s₁.setTop (entryFrame m #[(.ref a1), (.ref a2)] 3)) t := by
        intro t k
        refine pre34 _ ?_
        show Steps p.tables e below (T32.setTop (mkF m 33 #[.val (.ref a1), .val (.ref a2), .val (.ref a2)] [(.int (lcmpW f_leastSignificantBits_a2 f_leastSignificantBits_a1))])) _
        refine XS.ifYes X32.here hx rfl (pc0 := 33) (pc' := 40) rfl (hb hby d3_33) rfl ((if0 _ _).trans (feq hc35).2) (by decide) (by decide) ?_
        exact k
      have pre39 : ∀ t, Steps p.tables e below (T32.setTop (mkF m 41 #[.val (.ref a1), .val (.ref a2), .val (.ref a2)] [(.int (0 : Int32))])) t → Steps p.tables e below (s₁.setTop (entryFrame m #[(.ref a1), (.ref a2)] 3)) t := by
        intro t k
        refine pre38 _ ?_
        show Steps p.tables e below (T32.setTop (mkF m 40 #[.val (.ref a1), .val (.ref a2), .val (.ref a2)] [])) _
        refine XS.iconst X32.here hx rfl (hb hby d3_40) ?_
        exact k
      obtain ⟨fs, hr, hrun, hended, hW, hsame⟩ := X32.leave (v := some (.int (0 : Int32))) (fun h => by rw [hret] at h; cases h)
      refine ⟨_, _, pre39 _ ?_, hrun, hended, _, _, rfl, ?_, ⟨_, rfl⟩, hW, hsame.mono (by decide) (by decide)⟩
      · show Steps p.tables e below (T32.setTop (mkF m 41 #[.val (.ref a1), .val (.ref a2), .val (.ref a2)] [(.int (0 : Int32))])) _
        exact retN X32 hx (t := .boolean) hret (by simp) (hb hby d3_41) hr
      · show Q3s Z a1 a2 f_mostSignificantBits_a2 f_mostSignificantBits_a1 f_leastSignificantBits_a2 f_leastSignificantBits_a1 h0 n0 _ T32.heap _
        exact ⟨(by rw [F3s, if_pos hc26, if_neg hc35]), N0, e32⟩
  · have pre40 : ∀ t, Steps p.tables e below (T23.setTop (mkF m 40 #[.val (.ref a1), .val (.ref a2), .val (.ref a2)] [])) t → Steps p.tables e below (s₁.setTop (entryFrame m #[(.ref a1), (.ref a2)] 3)) t := by
      intro t k
      refine pre25 _ ?_
      show Steps p.tables e below (T23.setTop (mkF m 21 #[.val (.ref a1), .val (.ref a2), .val (.ref a2)] [(.int (lcmpW f_mostSignificantBits_a2 f_mostSignificantBits_a1))])) _
      refine XS.ifYes X23.here hx rfl (pc0 := 21) (pc' := 40) rfl (hb hby d3_21) rfl ((if0 _ _).trans (feq hc26).2) (by decide) (by decide) ?_
      exact k
    have pre41 : ∀ t, Steps p.tables e below (T23.setTop (mkF m 41 #[.val (.ref a1), .val (.ref a2), .val (.ref a2)] [(.int (0 : Int32))])) t → Steps p.tables e below (s₁.setTop (entryFrame m #[(.ref a1), (.ref a2)] 3)) t := by
      intro t k
      refine pre40 _ ?_
      show Steps p.tables e below (T23.setTop (mkF m 40 #[.val (.ref a1), .val (.ref a2), .val (.ref a2)] [])) _
      refine XS.iconst X23.here hx rfl (hb hby d3_40) ?_
      exact k
    obtain ⟨fs, hr, hrun, hended, hW, hsame⟩ := X23.leave (v := some (.int (0 : Int32))) (fun h => by rw [hret] at h; cases h)
    refine ⟨_, _, pre41 _ ?_, hrun, hended, _, _, rfl, ?_, ⟨_, rfl⟩, hW, hsame.mono (by decide) (by decide)⟩
    · show Steps p.tables e below (T23.setTop (mkF m 41 #[.val (.ref a1), .val (.ref a2), .val (.ref a2)] [(.int (0 : Int32))])) _
      exact retN X23 hx (t := .boolean) hret (by simp) (hb hby d3_41) hr
    · show Q3s Z a1 a2 f_mostSignificantBits_a2 f_mostSignificantBits_a1 f_leastSignificantBits_a2 f_leastSignificantBits_a1 h0 n0 _ T23.heap _
      exact ⟨(by rw [F3s, if_neg hc26]), N0, e23⟩
theorem d6_0 : decode jdk_18_method_1_code 0 = .ok (.aload_n 0, 1) := by decide +kernel
theorem d6_1 : decode jdk_18_method_1_code 1 = .ok (.invokespecial 1, 3) := by decide +kernel
theorem d6_4 : decode jdk_18_method_1_code 4 = .ok (.return_, 1) := by decide +kernel
theorem pn_6 : plainName "java/lang/Number" = true := by first | (simp [plainName, overriddenIn]; done) | decide +kernel
theorem ef_6 (m : MethodId) (x0 : Addr) : entryFrame m #[(.ref x0)] 1 = mkF m 0 #[.val (.ref x0)] [] := by first | (simp [entryFrame, mkF, argsToLocals, Value.category]; done) | rfl
def Q6 (Z : State) (a1 : Addr) (h0 : Heap) (n0 : Nat) (v : Option Value) (h : Heap) (L : List Loc) : Prop := v = none ∧ Fr n0 L ∧ h = h0
set_option maxRecDepth 65536 in
set_option maxHeartbeats 40000000 in
theorem rm6 (l : Launch) (Z : State) (a0 : Array Value) (hw : ∀ d ∈ tables_1, d.before a0 Z = true) (ws : List Jvm.Cond) (a1 : Addr) (h0 : Heap) (n0 : Nat) (Z0 : n0 ≤ h0.size)  :
    MetFree l (⟨"java/lang/Number", "<init>", "()V"⟩ : MethodName) (head1 (Jvm.Cond.code (⟨"java/lang/Number", "<init>", "()V"⟩ : MethodName) jdk_18_method_1_code 1 none :: ws) ({ frames := 1, cells := 0, slots := 0, locals := 12 } : Room)) (fun a U => a = #[(.ref a1)] ∧ Z.Warmed39 U.vm ∧ U.heap = h0) (fun _ _ _ _ _ => True) (fun _ U o U' => ∃ v L, o = .returned v ∧ Q6 Z a1 h0 n0 v U'.heap L ∧ FrameEnd U o U' L ({ frames := 1, cells := 0, slots := 0, locals := 12 } : Room).cells ({ frames := 1, cells := 0, slots := 0, locals := 12 } : Room).slots) := by
  refine MetFree.of_bodySF (plainFor_of_name pn_6) hisR ?_
  intro p e s m args below meth c s₁ Bd hml0 hP hK
  obtain ⟨rfl, hZ, hh⟩ := hP
  have hx := Bd.exec
  have hby := Bd.bytes
  have hml : c.maxLocals = 1 := hml0
  have hown : s.vm.findClass "java/lang/Number" = some m.cls := findClass_of_methodNamed Bd.named
  have hnm := (name_of_methodNamed Bd.named Bd.method).1
  have hret := Bd.returns
  have hlocks : meth.locks = false := Bd.notSynchronized
  have X0 : Stand p l e ({ frames := 1, cells := 0, slots := 0, locals := 12 } : Room) s m #[(.ref a1)] below meth c s₁ [] 0 0 := Stand.of_body Bd
  have e0 : s₁.heap = h0 := by rw [← hh, Bd.state]; rfl
  have N0 := Fr.nil n0
  have pre0 : ∀ t, Steps p.tables e below (s₁.setTop (mkF m 0 #[.val (.ref a1)] [])) t → Steps p.tables e below (s₁.setTop (entryFrame m #[(.ref a1)] 1)) t := fun t k => castTop (ef_6 m a1) k
  have pre42 : ∀ t, Steps p.tables e below (s₁.setTop (mkF m 1 #[.val (.ref a1)] [(.ref a1)])) t → Steps p.tables e below (s₁.setTop (entryFrame m #[(.ref a1)] 1)) t := by
    intro t k
    refine pre0 _ ?_
    show Steps p.tables e below (s₁.setTop (mkF m 0 #[.val (.ref a1)] [])) _
    refine XS.aloadN X0.here hx rfl (hb hby d6_0) rfl rfl ?_
    exact k
  obtain ⟨T43, X43, e43, st43⟩ := initO X0 hx hZ hown (hw _ (List.mem_of_getElem? (i := 37) rfl)) (hw _ (List.mem_of_getElem? (i := 7) rfl)) (hw _ (List.mem_of_getElem? (i := 8) rfl)) e0 (g := (mkF m 1 #[.val (.ref a1)] [(.ref a1)])) rfl (by rw [hml]; rfl) rfl (hb hby d6_1) (by decide) (W := 0) (by show 2 * 0 + _ ≤ _; exact Nat.le_of_eq rfl) (by decide)
  have pre44 : ∀ t, Steps p.tables e below (T43.setTop (mkF m 4 #[.val (.ref a1)] [])) t → Steps p.tables e below (s₁.setTop (entryFrame m #[(.ref a1)] 1)) t := by
    intro t k
    refine pre42 _ ?_
    show Steps p.tables e below (s₁.setTop (mkF m 1 #[.val (.ref a1)] [(.ref a1)])) _
    refine st43 _ ?_
    exact k
  obtain ⟨fs, hr, hrun, hended, hW, hsame⟩ := X43.leave (v := none) (fun _ => rfl)
  refine ⟨_, _, pre44 _ ?_, hrun, hended, _, _, rfl, ?_, ⟨_, rfl⟩, hW, hsame.mono (by decide) (by decide)⟩
  · show Steps p.tables e below (T43.setTop (mkF m 4 #[.val (.ref a1)] [])) _
    exact X43.returnOut hx hret (hb hby d6_4) hr
  · show Q6 Z a1 h0 n0 _ T43.heap _
    rw [e43]
    exact ⟨rfl, N0, rfl⟩
theorem d5_0 : decode jdk_35_method_26_code 0 = .ok (.aload_n 0, 1) := by decide +kernel
theorem d5_1 : decode jdk_35_method_26_code 1 = .ok (.invokespecial 270, 3) := by decide +kernel
theorem pd___V : parseMethodDescriptor "()V" = some ⟨[], none⟩ := by decide +kernel
theorem d5_4 : decode jdk_35_method_26_code 4 = .ok (.aload_n 0, 1) := by decide +kernel
theorem d5_5 : decode jdk_35_method_26_code 5 = .ok (.lload_n 1, 1) := by decide +kernel
theorem d5_6 : decode jdk_35_method_26_code 6 = .ok (.putfield 273, 3) := by decide +kernel
theorem d5_9 : decode jdk_35_method_26_code 9 = .ok (.return_, 1) := by decide +kernel
theorem pn_5 : plainName "java/lang/Long" = true := by first | (simp [plainName, overriddenIn]; done) | decide +kernel
theorem ef_5 (m : MethodId) (x0 : Addr) (x1 : Int64) : entryFrame m #[(.ref x0), (.long x1)] 3 = mkF m 0 #[.val (.ref x0), .val (.long x1), .second] [] := by first | (simp [entryFrame, mkF, argsToLocals, Value.category]; done) | rfl
def Q5 (Z : State) (a1 : Addr) (q2 : Int64) (u : Value) (h0 : Heap) (n0 : Nat) (v : Option Value) (h : Heap) (L : List Loc) : Prop := v = none ∧ Fr n0 L ∧ Keep h0 h [a1] ∧ Exa Z h a1 "java/lang/Long"
set_option maxRecDepth 65536 in
set_option maxHeartbeats 40000000 in
theorem rm5 (l : Launch) (Z : State) (a0 : Array Value) (hw : ∀ d ∈ tables_1, d.before a0 Z = true) (ws : List Jvm.Cond) (a1 : Addr) (q2 : Int64) (u : Value) (h0 : Heap) (n0 : Nat) (Z0 : n0 ≤ h0.size) (E_a1 : Exa Z h0 a1 "java/lang/Long") (F_a1 : Fld Z h0 a1 "java/lang/Long" "value" "J" u) (g_a1 : n0 ≤ a1) :
    MetFree l (⟨"java/lang/Long", "<init>", "(J)V"⟩ : MethodName) (head1 (Jvm.Cond.code (⟨"java/lang/Long", "<init>", "(J)V"⟩ : MethodName) jdk_35_method_26_code 3 none :: ws) ({ frames := 2, cells := 0, slots := 0, locals := 24 } : Room)) (fun a U => a = #[(.ref a1), (.long q2)] ∧ Z.Warmed39 U.vm ∧ U.heap = h0) (fun _ _ _ _ _ => True) (fun _ U o U' => ∃ v L, o = .returned v ∧ Q5 Z a1 q2 u h0 n0 v U'.heap L ∧ FrameEnd U o U' L ({ frames := 2, cells := 0, slots := 0, locals := 24 } : Room).cells ({ frames := 2, cells := 0, slots := 0, locals := 24 } : Room).slots) := by
  refine MetFree.of_bodySF (plainFor_of_name pn_5) hisR ?_
  intro p e s m args below meth c s₁ Bd hml0 hP hK
  obtain ⟨rfl, hZ, hh⟩ := hP
  have hx := Bd.exec
  have hby := Bd.bytes
  have hml : c.maxLocals = 3 := hml0
  have hown : s.vm.findClass "java/lang/Long" = some m.cls := findClass_of_methodNamed Bd.named
  have hnm := (name_of_methodNamed Bd.named Bd.method).1
  have hret := Bd.returns
  have hlocks : meth.locks = false := Bd.notSynchronized
  have X0 : Stand p l e ({ frames := 2, cells := 0, slots := 0, locals := 24 } : Room) s m #[(.ref a1), (.long q2)] below meth c s₁ [] 0 0 := Stand.of_body Bd
  have e0 : s₁.heap = h0 := by rw [← hh, Bd.state]; rfl
  have N0 := Fr.nil n0
  have pre0 : ∀ t, Steps p.tables e below (s₁.setTop (mkF m 0 #[.val (.ref a1), .val (.long q2), .second] [])) t → Steps p.tables e below (s₁.setTop (entryFrame m #[(.ref a1), (.long q2)] 3)) t := fun t k => castTop (ef_5 m a1 q2) k
  have pre45 : ∀ t, Steps p.tables e below (s₁.setTop (mkF m 1 #[.val (.ref a1), .val (.long q2), .second] [(.ref a1)])) t → Steps p.tables e below (s₁.setTop (entryFrame m #[(.ref a1), (.long q2)] 3)) t := by
    intro t k
    refine pre0 _ ?_
    show Steps p.tables e below (s₁.setTop (mkF m 0 #[.val (.ref a1), .val (.long q2), .second] [])) _
    refine XS.aloadN X0.here hx rfl (hb hby d5_0) rfl rfl ?_
    exact k
  obtain ⟨_, _, ⟨T46, L46, k46, n46⟩, -, X46, ⟨Lc46, hQ46, l46, y46, z46⟩, st46⟩ := X0.specialBack hx (y := (⟨"java/lang/Number", "<init>", "()V"⟩ : MethodName)) rfl hown (mvT hZ (hw _ (List.mem_of_getElem? (i := 31) rfl))) (mvT hZ (hw _ (List.mem_of_getElem? (i := 32) rfl))) (mvT hZ (hw _ (List.mem_of_getElem? (i := 36) rfl))) (by decide) (backOf (W := 0) (rm6 l Z a0 hw [] a1 h0 n0 Z0 ) hZ (hw _ (List.mem_of_getElem? (i := 36) rfl)) (hw _ (List.mem_of_getElem? (i := 35) rfl)) (by decide) (by decide)) (g := (mkF m 1 #[.val (.ref a1), .val (.long q2), .second] [(.ref a1)])) rfl (by rw [hml]; rfl) (Steps.refl _) (a := a1) (argsL := []) (rest := []) (lenOf pd___V rfl) rfl (by show 2 * 0 + _ ≤ _; exact Nat.le_of_eq rfl) (hb hby d5_1) (fun _ _ => ⟨rfl, e0, (by decide : 0 + 0 ≤ _), (by decide : 0 + 0 ≤ _)⟩)
  dsimp only [Pt.U, Pt.locs, Pt.cells, Pt.slots] at X46 l46 y46 z46 st46 hQ46
  subst l46 y46 z46
  obtain ⟨rfl, N46q, e46⟩ := hQ46
  have N46 := Fr.app N0 N46q
  have pre47 : ∀ t, Steps p.tables e below (T46.setTop (mkF m 4 #[.val (.ref a1), .val (.long q2), .second] [])) t → Steps p.tables e below (s₁.setTop (entryFrame m #[(.ref a1), (.long q2)] 3)) t := by
    intro t k
    refine pre45 _ ?_
    show Steps p.tables e below (s₁.setTop (mkF m 1 #[.val (.ref a1), .val (.long q2), .second] [(.ref a1)])) _
    refine st46.trans ?_
    exact k
  have pre48 : ∀ t, Steps p.tables e below (T46.setTop (mkF m 6 #[.val (.ref a1), .val (.long q2), .second] [(.long q2), (.ref a1)])) t → Steps p.tables e below (s₁.setTop (entryFrame m #[(.ref a1), (.long q2)] 3)) t := by
    intro t k
    refine pre47 _ ?_
    show Steps p.tables e below (T46.setTop (mkF m 4 #[.val (.ref a1), .val (.long q2), .second] [])) _
    refine XS.aloadN X46.here hx rfl (hb hby d5_4) rfl rfl ?_
    show Steps p.tables e below (T46.setTop (mkF m 5 #[.val (.ref a1), .val (.long q2), .second] [(.ref a1)])) _
    refine XS.lloadN X46.here hx rfl (hb hby d5_5) rfl ?_
    exact k
  obtain ⟨T49, h49, X49, e49, W49, st49⟩ := putF X46 hx hZ hown (host := "") (Or.inl (hw _ (List.mem_of_getElem? (i := 38) rfl))) Via.refl e46 F_a1 E_a1 (Or.inr ⟨(hw _ (List.mem_of_getElem? (i := 39) rfl)), rfl, hnm⟩) (hw _ (List.mem_of_getElem? (i := 26) rfl)) (ty := .long) (by decide) rfl rfl (g := (mkF m 6 #[.val (.ref a1), .val (.long q2), .second] [(.long q2), (.ref a1)])) rfl rfl (hb hby d5_6)
  have Fw49 := F_a1.same W49
  have Z50 : n0 ≤ h49.size := Nat.le_trans Z0 (Keep.of_wr W49).1
  have KP51 := (Keep.refl h0 [a1]).wr W49 (Or.inl (List.mem_of_getElem? (i := 0) rfl))
  have NN49 := Fr.snoc X49 N46 g_a1
  have pre52 : ∀ t, Steps p.tables e below (T49.setTop (mkF m 9 #[.val (.ref a1), .val (.long q2), .second] [])) t → Steps p.tables e below (s₁.setTop (entryFrame m #[(.ref a1), (.long q2)] 3)) t := by
    intro t k
    refine pre48 _ ?_
    show Steps p.tables e below (T46.setTop (mkF m 6 #[.val (.ref a1), .val (.long q2), .second] [(.long q2), (.ref a1)])) _
    refine st49 _ ?_
    exact k
  obtain ⟨fs, hr, hrun, hended, hW, hsame⟩ := X49.leave (v := none) (fun _ => rfl)
  refine ⟨_, _, pre52 _ ?_, hrun, hended, _, _, rfl, ?_, ⟨_, rfl⟩, hW, hsame.mono (by decide) (by decide)⟩
  · show Steps p.tables e below (T49.setTop (mkF m 9 #[.val (.ref a1), .val (.long q2), .second] [])) _
    exact X49.returnOut hx hret (hb hby d5_9) hr
  · show Q5 Z a1 q2 u h0 n0 _ T49.heap _
    rw [e49]
    exact ⟨rfl, NN49, KP51, (E_a1.wr W49)⟩
theorem d4_0 : decode jdk_35_method_24_code 0 = .ok (.sipush 128, 3) := by decide +kernel
theorem d4_3 : decode jdk_35_method_24_code 3 = .ok (.istore_n 2, 1) := by decide +kernel
theorem d4_4 : decode jdk_35_method_24_code 4 = .ok (.lload_n 0, 1) := by decide +kernel
theorem d4_5 : decode jdk_35_method_24_code 5 = .ok (.ldc2_w 230, 3) := by decide +kernel
theorem d4_8 : decode jdk_35_method_24_code 8 = .ok (.lcmp, 1) := by decide +kernel
theorem d4_9 : decode jdk_35_method_24_code 9 = .ok (.ifCond .lt 22, 3) := by decide +kernel
theorem d4_31 : decode jdk_35_method_24_code 31 = .ok (.new 1, 3) := by decide +kernel
theorem d4_34 : decode jdk_35_method_24_code 34 = .ok (.dup, 1) := by decide +kernel
theorem d4_35 : decode jdk_35_method_24_code 35 = .ok (.lload_n 0, 1) := by decide +kernel
theorem d4_36 : decode jdk_35_method_24_code 36 = .ok (.invokespecial 240, 3) := by decide +kernel
theorem pd__J_V : parseMethodDescriptor "(J)V" = some ⟨[.long], none⟩ := by decide +kernel
theorem d4_39 : decode jdk_35_method_24_code 39 = .ok (.areturn, 1) := by decide +kernel
theorem d4_12 : decode jdk_35_method_24_code 12 = .ok (.lload_n 0, 1) := by decide +kernel
theorem d4_13 : decode jdk_35_method_24_code 13 = .ok (.ldc2_w 232, 3) := by decide +kernel
theorem d4_16 : decode jdk_35_method_24_code 16 = .ok (.lcmp, 1) := by decide +kernel
theorem d4_17 : decode jdk_35_method_24_code 17 = .ok (.ifCond .gt 14, 3) := by decide +kernel
theorem d4_20 : decode jdk_35_method_24_code 20 = .ok (.getstatic 234, 3) := by decide +kernel
theorem d4_23 : decode jdk_35_method_24_code 23 = .ok (.lload_n 0, 1) := by decide +kernel
theorem d4_24 : decode jdk_35_method_24_code 24 = .ok (.l2i, 1) := by decide +kernel
theorem d4_25 : decode jdk_35_method_24_code 25 = .ok (.sipush 128, 3) := by decide +kernel
theorem d4_28 : decode jdk_35_method_24_code 28 = .ok (.iadd, 1) := by decide +kernel
theorem d4_29 : decode jdk_35_method_24_code 29 = .ok (.aaload, 1) := by decide +kernel
theorem d4_30 : decode jdk_35_method_24_code 30 = .ok (.areturn, 1) := by decide +kernel
theorem ef_4 (m : MethodId) (x0 : Int64) : entryFrame m #[(.long x0)] 3 = mkF m 0 #[.val (.long x0), .second, .unset] [] := by first | (simp [entryFrame, mkF, argsToLocals, Value.category]; done) | rfl
def Q4 (Z : State) (q1 : Int64) (cl_wC : Cell) (wC : Addr) (h0 : Heap) (n0 : Nat) (v : Option Value) (h : Heap) (L : List Loc) : Prop := ∃ r : Addr, v = some (.ref r) ∧ Fr n0 L ∧ Keep h0 h [] ∧ Exa Z h r "java/lang/Long"
set_option maxRecDepth 65536 in
set_option maxHeartbeats 40000000 in
theorem rm4 (l : Launch) (Z : State) (a0 : Array Value) (hw : ∀ d ∈ tables_1, d.before a0 Z = true) (ws : List Jvm.Cond) (q1 : Int64) (cl_wC : Cell) (wC : Addr) (h0 : Heap) (n0 : Nat) (Z0 : n0 ≤ h0.size) (O0 : Old Z n0 h0) (Ar_wC : Arr Z Z.heap wC cl_wC (.object "java/lang/Long")) (hC : ∀ q : Int64, ¬ (lcmpW q (-128 : Int64)) < (0 : Int32) → ¬ (0 : Int32) < (lcmpW q (127 : Int64)) → ∃ y : Addr, ¬ ((q.toInt32 + (128 : Int32)) < 0 ∨ cl_wC.slots.size ≤ (q.toInt32 + (128 : Int32)).toNatClampNeg) ∧ cl_wC.slots[(q.toInt32 + (128 : Int32)).toNatClampNeg]? = some (.ref y) ∧ Exa Z Z.heap y "java/lang/Long") (S_wC : Sta Z Z.heap "java/lang/Long$LongCache" "cache" "[Ljava/lang/Long;" (.ref wC)) :
    MetFree l (⟨"java/lang/Long", "valueOf", "(J)Ljava/lang/Long;"⟩ : MethodName) (head1 (Jvm.Cond.code (⟨"java/lang/Long", "valueOf", "(J)Ljava/lang/Long;"⟩ : MethodName) jdk_35_method_24_code 3 (some (.object "java/lang/Long")) :: ws) ({ frames := 3, cells := 1, slots := 1, locals := 39 } : Room)) (fun a U => a = #[(.long q1)] ∧ Z.Warmed39 U.vm ∧ U.heap = h0) (fun _ _ _ _ _ => True) (fun _ U o U' => ∃ v L, o = .returned v ∧ Q4 Z q1 cl_wC wC h0 n0 v U'.heap L ∧ FrameEnd U o U' L ({ frames := 3, cells := 1, slots := 1, locals := 39 } : Room).cells ({ frames := 3, cells := 1, slots := 1, locals := 39 } : Room).slots) := by
  refine MetFree.of_bodySF (plainFor_of_name pn_5) hisR ?_
  intro p e s m args below meth c s₁ Bd hml0 hP hK
  obtain ⟨rfl, hZ, hh⟩ := hP
  have hx := Bd.exec
  have hby := Bd.bytes
  have hml : c.maxLocals = 3 := hml0
  have hown : s.vm.findClass "java/lang/Long" = some m.cls := findClass_of_methodNamed Bd.named
  have hnm := (name_of_methodNamed Bd.named Bd.method).1
  have hret := Bd.returns
  have hlocks : meth.locks = false := Bd.notSynchronized
  have X0 : Stand p l e ({ frames := 3, cells := 1, slots := 1, locals := 39 } : Room) s m #[(.long q1)] below meth c s₁ [] 0 0 := Stand.of_body Bd
  have e0 : s₁.heap = h0 := by rw [← hh, Bd.state]; rfl
  have N0 := Fr.nil n0
  have pre0 : ∀ t, Steps p.tables e below (s₁.setTop (mkF m 0 #[.val (.long q1), .second, .unset] [])) t → Steps p.tables e below (s₁.setTop (entryFrame m #[(.long q1)] 3)) t := fun t k => castTop (ef_4 m q1) k
  have pre53 : ∀ t, Steps p.tables e below (s₁.setTop (mkF m 9 #[.val (.long q1), .second, .val (.int (128 : Int32))] [(.int (lcmpW q1 (-128 : Int64)))])) t → Steps p.tables e below (s₁.setTop (entryFrame m #[(.long q1)] 3)) t := by
    intro t k
    refine pre0 _ ?_
    show Steps p.tables e below (s₁.setTop (mkF m 0 #[.val (.long q1), .second, .unset] [])) _
    refine XS.sipush X0.here hx rfl (hb hby d4_0) ?_
    show Steps p.tables e below (s₁.setTop (mkF m 3 #[.val (.long q1), .second, .unset] [(.int (128 : Int32))])) _
    refine XS.istoreN X0.here hx rfl (hb hby d4_3) rfl (l' := #[.val (.long q1), .second, .val (.int (128 : Int32))]) rfl ?_
    show Steps p.tables e below (s₁.setTop (mkF m 4 #[.val (.long q1), .second, .val (.int (128 : Int32))] [])) _
    refine XS.lloadN X0.here hx rfl (hb hby d4_4) rfl ?_
    show Steps p.tables e below (s₁.setTop (mkF m 5 #[.val (.long q1), .second, .val (.int (128 : Int32))] [(.long q1)])) _
    refine X0.ldc2Long hx hown (mvT hZ (hw _ (List.mem_of_getElem? (i := 24) rfl))) (g := (mkF m 5 #[.val (.long q1), .second, .val (.int (128 : Int32))] [(.long q1)])) rfl (hb hby d4_5) _ ?_
    show Steps p.tables e below (s₁.setTop (mkF m 8 #[.val (.long q1), .second, .val (.int (128 : Int32))] [(.long (-128 : Int64)), (.long q1)])) _
    refine XS.lcmp X0.here hx rfl (hb hby d4_8) rfl ?_
    exact k
  by_cases hc54 : (lcmpW q1 (-128 : Int64)) < (0 : Int32)
  · have pre55 : ∀ t, Steps p.tables e below (s₁.setTop (mkF m 31 #[.val (.long q1), .second, .val (.int (128 : Int32))] [])) t → Steps p.tables e below (s₁.setTop (entryFrame m #[(.long q1)] 3)) t := by
      intro t k
      refine pre53 _ ?_
      show Steps p.tables e below (s₁.setTop (mkF m 9 #[.val (.long q1), .second, .val (.int (128 : Int32))] [(.int (lcmpW q1 (-128 : Int64)))])) _
      refine XS.ifYes X0.here hx rfl (pc0 := 9) (pc' := 31) rfl (hb hby d4_9) rfl ((if0 _ _).trans (tlt hc54).1) (by decide) (by decide) ?_
      exact k
    obtain ⟨T56, h56, X56, e56, E56, A56, D56, -, st56⟩ := newO X0 hx hZ hown (hw _ (List.mem_of_getElem? (i := 25) rfl)) (hw _ (List.mem_of_getElem? (i := 26) rfl)) (hw _ (List.mem_of_getElem? (i := 22) rfl)) e0 (g := (mkF m 31 #[.val (.long q1), .second, .val (.int (128 : Int32))] [])) rfl (hb hby d4_31) (by decide) (by decide)
    obtain ⟨b56, g56⟩ : ∃ z, z = h0.size := ⟨_, rfl⟩
    rw [← g56] at A56 D56 st56
    have g_b56 : n0 ≤ b56 := Nat.le_trans Z0 (Nat.le_of_eq g56.symm)
    have sz_b56 : h0.size ≤ b56 := Nat.le_trans (Keep.refl h0 []).1 (Nat.le_of_eq g56.symm)
    have O57 := O0.ext E56
    have Z58 : n0 ≤ h56.size := Nat.le_trans Z0 E56.1
    have KP59 := (Keep.refl h0 []).ext E56
    have F_value_b56 : Fld Z h56 b56 "java/lang/Long" "value" "J" (.long (0 : Int64)) := D56 (Or.inr (hw _ (List.mem_of_getElem? (i := 39) rfl))) (ty := .long) (by decide)
    have pre60 : ∀ t, Steps p.tables e below (T56.setTop (mkF m 34 #[.val (.long q1), .second, .val (.int (128 : Int32))] [(.ref b56)])) t → Steps p.tables e below (s₁.setTop (entryFrame m #[(.long q1)] 3)) t := by
      intro t k
      refine pre55 _ ?_
      show Steps p.tables e below (s₁.setTop (mkF m 31 #[.val (.long q1), .second, .val (.int (128 : Int32))] [])) _
      refine st56 _ ?_
      exact k
    have pre61 : ∀ t, Steps p.tables e below (T56.setTop (mkF m 36 #[.val (.long q1), .second, .val (.int (128 : Int32))] [(.long q1), (.ref b56), (.ref b56)])) t → Steps p.tables e below (s₁.setTop (entryFrame m #[(.long q1)] 3)) t := by
      intro t k
      refine pre60 _ ?_
      show Steps p.tables e below (T56.setTop (mkF m 34 #[.val (.long q1), .second, .val (.int (128 : Int32))] [(.ref b56)])) _
      refine XS.dup X56.here hx rfl (hb hby d4_34) rfl rfl ?_
      show Steps p.tables e below (T56.setTop (mkF m 35 #[.val (.long q1), .second, .val (.int (128 : Int32))] [(.ref b56), (.ref b56)])) _
      refine XS.lloadN X56.here hx rfl (hb hby d4_35) rfl ?_
      exact k
    obtain ⟨_, _, ⟨T62, L62, k62, n62⟩, -, X62, ⟨Lc62, hQ62, l62, y62, z62⟩, st62⟩ := X56.specialBack hx (y := (⟨"java/lang/Long", "<init>", "(J)V"⟩ : MethodName)) rfl hown (mvT hZ (hw _ (List.mem_of_getElem? (i := 27) rfl))) (mvT hZ (hw _ (List.mem_of_getElem? (i := 28) rfl))) (mvT hZ (hw _ (List.mem_of_getElem? (i := 30) rfl))) (by decide) (backOf (W := 1) (rm5 l Z a0 hw [] b56 q1 (.long (0 : Int64)) h56 n0 Z58 A56 F_value_b56 g_b56) hZ (hw _ (List.mem_of_getElem? (i := 30) rfl)) (hw _ (List.mem_of_getElem? (i := 22) rfl)) (by decide) (by decide)) (g := (mkF m 36 #[.val (.long q1), .second, .val (.int (128 : Int32))] [(.long q1), (.ref b56), (.ref b56)])) rfl (by rw [hml]; rfl) (Steps.refl _) (a := b56) (argsL := [(.long q1)]) (rest := [(.ref b56)]) (lenOf pd__J_V rfl) rfl (by show 2 * 0 + _ ≤ _; exact Nat.le_of_eq rfl) (hb hby d4_36) (fun _ _ => ⟨rfl, e56, (by decide : 1 + 0 ≤ _), (by decide : 1 + 0 ≤ _)⟩)
    dsimp only [Pt.U, Pt.locs, Pt.cells, Pt.slots] at X62 l62 y62 z62 st62 hQ62
    subst l62 y62 z62
    obtain ⟨rfl, N62q, K62, E62⟩ := hQ62
    have N62 := Fr.app N0 N62q
    have O63 := O57.keep K62 (allS g_b56 all0)
    have Z64 : n0 ≤ T62.heap.size := Nat.le_trans Z58 K62.1
    have KP65 := KP59.trans K62 (allS (Or.inr sz_b56) all0)
    have pre66 : ∀ t, Steps p.tables e below (T62.setTop (mkF m 39 #[.val (.long q1), .second, .val (.int (128 : Int32))] [(.ref b56)])) t → Steps p.tables e below (s₁.setTop (entryFrame m #[(.long q1)] 3)) t := by
      intro t k
      refine pre61 _ ?_
      show Steps p.tables e below (T56.setTop (mkF m 36 #[.val (.long q1), .second, .val (.int (128 : Int32))] [(.long q1), (.ref b56), (.ref b56)])) _
      refine st62.trans ?_
      exact k
    obtain ⟨fs, hr, hrun, hended, hW, hsame⟩ := X62.leave (v := some (.ref b56)) (fun h => by rw [hret] at h; cases h)
    refine ⟨_, _, pre66 _ ?_, hrun, hended, _, _, rfl, ?_, ⟨_, rfl⟩, hW, hsame.mono (by decide) (by decide)⟩
    · show Steps p.tables e below (T62.setTop (mkF m 39 #[.val (.long q1), .second, .val (.int (128 : Int32))] [(.ref b56)])) _
      jvm_step X62.here [X62.here.top, hx, (hb hby d4_39), X62.method', hret, Value.isRef, FieldType.isReference]
      first | (intro acts; rw [hr _ acts rfl rfl rfl]) | rw [hr _ _ rfl rfl rfl]
      exact Steps.refl _
    · show Q4 Z q1 cl_wC wC h0 n0 _ T62.heap _
      skip
      exact ⟨_, rfl, N62, KP65, E62⟩
  · have pre67 : ∀ t, Steps p.tables e below (s₁.setTop (mkF m 12 #[.val (.long q1), .second, .val (.int (128 : Int32))] [])) t → Steps p.tables e below (s₁.setTop (entryFrame m #[(.long q1)] 3)) t := by
      intro t k
      refine pre53 _ ?_
      show Steps p.tables e below (s₁.setTop (mkF m 9 #[.val (.long q1), .second, .val (.int (128 : Int32))] [(.int (lcmpW q1 (-128 : Int64)))])) _
      refine XS.ifNo X0.here hx rfl (hb hby d4_9) rfl ((if0 _ _).trans (flt hc54).1) ?_
      exact k
    have pre68 : ∀ t, Steps p.tables e below (s₁.setTop (mkF m 17 #[.val (.long q1), .second, .val (.int (128 : Int32))] [(.int (lcmpW q1 (127 : Int64)))])) t → Steps p.tables e below (s₁.setTop (entryFrame m #[(.long q1)] 3)) t := by
      intro t k
      refine pre67 _ ?_
      show Steps p.tables e below (s₁.setTop (mkF m 12 #[.val (.long q1), .second, .val (.int (128 : Int32))] [])) _
      refine XS.lloadN X0.here hx rfl (hb hby d4_12) rfl ?_
      show Steps p.tables e below (s₁.setTop (mkF m 13 #[.val (.long q1), .second, .val (.int (128 : Int32))] [(.long q1)])) _
      refine X0.ldc2Long hx hown (mvT hZ (hw _ (List.mem_of_getElem? (i := 43) rfl))) (g := (mkF m 13 #[.val (.long q1), .second, .val (.int (128 : Int32))] [(.long q1)])) rfl (hb hby d4_13) _ ?_
      show Steps p.tables e below (s₁.setTop (mkF m 16 #[.val (.long q1), .second, .val (.int (128 : Int32))] [(.long (127 : Int64)), (.long q1)])) _
      refine XS.lcmp X0.here hx rfl (hb hby d4_16) rfl ?_
      exact k
    by_cases hc69 : (0 : Int32) < (lcmpW q1 (127 : Int64))
    · have pre70 : ∀ t, Steps p.tables e below (s₁.setTop (mkF m 31 #[.val (.long q1), .second, .val (.int (128 : Int32))] [])) t → Steps p.tables e below (s₁.setTop (entryFrame m #[(.long q1)] 3)) t := by
        intro t k
        refine pre68 _ ?_
        show Steps p.tables e below (s₁.setTop (mkF m 17 #[.val (.long q1), .second, .val (.int (128 : Int32))] [(.int (lcmpW q1 (127 : Int64)))])) _
        refine XS.ifYes X0.here hx rfl (pc0 := 17) (pc' := 31) rfl (hb hby d4_17) rfl ((if0 _ _).trans (tlt hc69).2.2.1) (by decide) (by decide) ?_
        exact k
      obtain ⟨T71, h71, X71, e71, E71, A71, D71, -, st71⟩ := newO X0 hx hZ hown (hw _ (List.mem_of_getElem? (i := 25) rfl)) (hw _ (List.mem_of_getElem? (i := 26) rfl)) (hw _ (List.mem_of_getElem? (i := 22) rfl)) e0 (g := (mkF m 31 #[.val (.long q1), .second, .val (.int (128 : Int32))] [])) rfl (hb hby d4_31) (by decide) (by decide)
      obtain ⟨b71, g71⟩ : ∃ z, z = h0.size := ⟨_, rfl⟩
      rw [← g71] at A71 D71 st71
      have g_b71 : n0 ≤ b71 := Nat.le_trans Z0 (Nat.le_of_eq g71.symm)
      have sz_b71 : h0.size ≤ b71 := Nat.le_trans (Keep.refl h0 []).1 (Nat.le_of_eq g71.symm)
      have O72 := O0.ext E71
      have Z73 : n0 ≤ h71.size := Nat.le_trans Z0 E71.1
      have KP74 := (Keep.refl h0 []).ext E71
      have F_value_b71 : Fld Z h71 b71 "java/lang/Long" "value" "J" (.long (0 : Int64)) := D71 (Or.inr (hw _ (List.mem_of_getElem? (i := 39) rfl))) (ty := .long) (by decide)
      have pre75 : ∀ t, Steps p.tables e below (T71.setTop (mkF m 34 #[.val (.long q1), .second, .val (.int (128 : Int32))] [(.ref b71)])) t → Steps p.tables e below (s₁.setTop (entryFrame m #[(.long q1)] 3)) t := by
        intro t k
        refine pre70 _ ?_
        show Steps p.tables e below (s₁.setTop (mkF m 31 #[.val (.long q1), .second, .val (.int (128 : Int32))] [])) _
        refine st71 _ ?_
        exact k
      have pre76 : ∀ t, Steps p.tables e below (T71.setTop (mkF m 36 #[.val (.long q1), .second, .val (.int (128 : Int32))] [(.long q1), (.ref b71), (.ref b71)])) t → Steps p.tables e below (s₁.setTop (entryFrame m #[(.long q1)] 3)) t := by
        intro t k
        refine pre75 _ ?_
        show Steps p.tables e below (T71.setTop (mkF m 34 #[.val (.long q1), .second, .val (.int (128 : Int32))] [(.ref b71)])) _
        refine XS.dup X71.here hx rfl (hb hby d4_34) rfl rfl ?_
        show Steps p.tables e below (T71.setTop (mkF m 35 #[.val (.long q1), .second, .val (.int (128 : Int32))] [(.ref b71), (.ref b71)])) _
        refine XS.lloadN X71.here hx rfl (hb hby d4_35) rfl ?_
        exact k
      obtain ⟨_, _, ⟨T77, L77, k77, n77⟩, -, X77, ⟨Lc77, hQ77, l77, y77, z77⟩, st77⟩ := X71.specialBack hx (y := (⟨"java/lang/Long", "<init>", "(J)V"⟩ : MethodName)) rfl hown (mvT hZ (hw _ (List.mem_of_getElem? (i := 27) rfl))) (mvT hZ (hw _ (List.mem_of_getElem? (i := 28) rfl))) (mvT hZ (hw _ (List.mem_of_getElem? (i := 30) rfl))) (by decide) (backOf (W := 1) (rm5 l Z a0 hw [] b71 q1 (.long (0 : Int64)) h71 n0 Z73 A71 F_value_b71 g_b71) hZ (hw _ (List.mem_of_getElem? (i := 30) rfl)) (hw _ (List.mem_of_getElem? (i := 22) rfl)) (by decide) (by decide)) (g := (mkF m 36 #[.val (.long q1), .second, .val (.int (128 : Int32))] [(.long q1), (.ref b71), (.ref b71)])) rfl (by rw [hml]; rfl) (Steps.refl _) (a := b71) (argsL := [(.long q1)]) (rest := [(.ref b71)]) (lenOf pd__J_V rfl) rfl (by show 2 * 0 + _ ≤ _; exact Nat.le_of_eq rfl) (hb hby d4_36) (fun _ _ => ⟨rfl, e71, (by decide : 1 + 0 ≤ _), (by decide : 1 + 0 ≤ _)⟩)
      dsimp only [Pt.U, Pt.locs, Pt.cells, Pt.slots] at X77 l77 y77 z77 st77 hQ77
      subst l77 y77 z77
      obtain ⟨rfl, N77q, K77, E77⟩ := hQ77
      have N77 := Fr.app N0 N77q
      have O78 := O72.keep K77 (allS g_b71 all0)
      have Z79 : n0 ≤ T77.heap.size := Nat.le_trans Z73 K77.1
      have KP80 := KP74.trans K77 (allS (Or.inr sz_b71) all0)
      have pre81 : ∀ t, Steps p.tables e below (T77.setTop (mkF m 39 #[.val (.long q1), .second, .val (.int (128 : Int32))] [(.ref b71)])) t → Steps p.tables e below (s₁.setTop (entryFrame m #[(.long q1)] 3)) t := by
        intro t k
        refine pre76 _ ?_
        show Steps p.tables e below (T71.setTop (mkF m 36 #[.val (.long q1), .second, .val (.int (128 : Int32))] [(.long q1), (.ref b71), (.ref b71)])) _
        refine st77.trans ?_
        exact k
      obtain ⟨fs, hr, hrun, hended, hW, hsame⟩ := X77.leave (v := some (.ref b71)) (fun h => by rw [hret] at h; cases h)
      refine ⟨_, _, pre81 _ ?_, hrun, hended, _, _, rfl, ?_, ⟨_, rfl⟩, hW, hsame.mono (by decide) (by decide)⟩
      · show Steps p.tables e below (T77.setTop (mkF m 39 #[.val (.long q1), .second, .val (.int (128 : Int32))] [(.ref b71)])) _
        jvm_step X77.here [X77.here.top, hx, (hb hby d4_39), X77.method', hret, Value.isRef, FieldType.isReference]
        first | (intro acts; rw [hr _ acts rfl rfl rfl]) | rw [hr _ _ rfl rfl rfl]
        exact Steps.refl _
      · show Q4 Z q1 cl_wC wC h0 n0 _ T77.heap _
        skip
        exact ⟨_, rfl, N77, KP80, E77⟩
    · have pre82 : ∀ t, Steps p.tables e below (s₁.setTop (mkF m 20 #[.val (.long q1), .second, .val (.int (128 : Int32))] [])) t → Steps p.tables e below (s₁.setTop (entryFrame m #[(.long q1)] 3)) t := by
        intro t k
        refine pre68 _ ?_
        show Steps p.tables e below (s₁.setTop (mkF m 17 #[.val (.long q1), .second, .val (.int (128 : Int32))] [(.int (lcmpW q1 (127 : Int64)))])) _
        refine XS.ifNo X0.here hx rfl (hb hby d4_17) rfl ((if0 _ _).trans (flt hc69).2.2.1) ?_
        exact k
      obtain ⟨T83, X83, e83, st83⟩ := getS2 X0 hx hZ hown (host := "") (Or.inl (hw _ (List.mem_of_getElem? (i := 44) rfl))) Via.refl e0 (S_wC.ext O0.2) (g := (mkF m 20 #[.val (.long q1), .second, .val (.int (128 : Int32))] [])) rfl (hb hby d4_20)
      have pre84 : ∀ t, Steps p.tables e below (T83.setTop (mkF m 23 #[.val (.long q1), .second, .val (.int (128 : Int32))] [(.ref wC)])) t → Steps p.tables e below (s₁.setTop (entryFrame m #[(.long q1)] 3)) t := by
        intro t k
        refine pre82 _ ?_
        show Steps p.tables e below (s₁.setTop (mkF m 20 #[.val (.long q1), .second, .val (.int (128 : Int32))] [])) _
        refine st83 _ ?_
        exact k
      have pre85 : ∀ t, Steps p.tables e below (T83.setTop (mkF m 29 #[.val (.long q1), .second, .val (.int (128 : Int32))] [(.int ((q1.toInt32) + (128 : Int32))), (.ref wC)])) t → Steps p.tables e below (s₁.setTop (entryFrame m #[(.long q1)] 3)) t := by
        intro t k
        refine pre84 _ ?_
        show Steps p.tables e below (T83.setTop (mkF m 23 #[.val (.long q1), .second, .val (.int (128 : Int32))] [(.ref wC)])) _
        refine XS.lloadN X83.here hx rfl (hb hby d4_23) rfl ?_
        show Steps p.tables e below (T83.setTop (mkF m 24 #[.val (.long q1), .second, .val (.int (128 : Int32))] [(.long q1), (.ref wC)])) _
        refine XS.l2i X83.here hx rfl (hb hby d4_24) rfl ?_
        show Steps p.tables e below (T83.setTop (mkF m 25 #[.val (.long q1), .second, .val (.int (128 : Int32))] [(.int (q1.toInt32)), (.ref wC)])) _
        refine XS.sipush X83.here hx rfl (hb hby d4_25) ?_
        show Steps p.tables e below (T83.setTop (mkF m 28 #[.val (.long q1), .second, .val (.int (128 : Int32))] [(.int (128 : Int32)), (.int (q1.toInt32)), (.ref wC)])) _
        refine XS.iadd X83.here hx rfl (hb hby d4_28) rfl ?_
        exact k
      obtain ⟨y86, hin86, hat86, Ey86⟩ := hC q1 hc54 hc69
      have Ar86 := (Ar_wC.ext O0.2)
      have EE86 := (Ey86.ext O0.2)
      have pre87 : ∀ t, Steps p.tables e below (T83.setTop (mkF m 30 #[.val (.long q1), .second, .val (.int (128 : Int32))] [(.ref y86)])) t → Steps p.tables e below (s₁.setTop (entryFrame m #[(.long q1)] 3)) t := by
        intro t k
        refine pre85 _ ?_
        show Steps p.tables e below (T83.setTop (mkF m 29 #[.val (.long q1), .second, .val (.int (128 : Int32))] [(.int ((q1.toInt32) + (128 : Int32))), (.ref wC)])) _
        refine X83.aaload hx (j := ((q1.toInt32) + (128 : Int32))) (v := (.ref y86)) (by rw [e83]; exact Ar86.1) (State.isArrayOf_alike hZ.alike Ar86.2.1) rfl Ar86.2.2 hin86 hat86 (g := (mkF m 29 #[.val (.long q1), .second, .val (.int (128 : Int32))] [(.int ((q1.toInt32) + (128 : Int32))), (.ref wC)])) rfl rfl (hb hby d4_29) _ ?_
        exact k
      obtain ⟨fs, hr, hrun, hended, hW, hsame⟩ := X83.leave (v := some (.ref y86)) (fun h => by rw [hret] at h; cases h)
      refine ⟨_, _, pre87 _ ?_, hrun, hended, _, _, rfl, ?_, ⟨_, rfl⟩, hW, hsame.mono (by decide) (by decide)⟩
      · show Steps p.tables e below (T83.setTop (mkF m 30 #[.val (.long q1), .second, .val (.int (128 : Int32))] [(.ref y86)])) _
        jvm_step X83.here [X83.here.top, hx, (hb hby d4_30), X83.method', hret, Value.isRef, FieldType.isReference]
        first | (intro acts; rw [hr _ acts rfl rfl rfl]) | rw [hr _ _ rfl rfl rfl]
        exact Steps.refl _
      · show Q4 Z q1 cl_wC wC h0 n0 _ T83.heap _
        rw [e83]
        exact ⟨_, rfl, N0, (Keep.refl h0 []), EE86⟩
theorem pd__JJ_V : parseMethodDescriptor "(JJ)V" = some ⟨[.long, .long], none⟩ := by decide +kernel
theorem pd__Ljava_lang_Object__Z : parseMethodDescriptor "(Ljava/lang/Object;)Z" = some ⟨[(.object "java/lang/Object")], some .boolean⟩ := by decide +kernel
theorem pd__J_Ljava_lang_Long_ : parseMethodDescriptor "(J)Ljava/lang/Long;" = some ⟨[.long], some (.object "java/lang/Long")⟩ := by decide +kernel
def F0_54_0 (j0 : Int64) (j2 : Int64) (i8 : Int32) (j11 : Int64) (j13 : Int64) : Int32 :=
  if (((i8.toUInt32 >>> ((2 : Int32) &&& 31).toUInt32).toInt32) &&& (3 : Int32)) = (1 : Int32) then (  if (F3n) = (0 : Int32) then (  (1 : Int32))
  else (  (0 : Int32)))
  else (  if (((i8.toUInt32 >>> ((2 : Int32) &&& 31).toUInt32).toInt32) &&& (3 : Int32)) = (2 : Int32) then (  if (F3o) = (0 : Int32) then (  (1 : Int32))
  else (  (0 : Int32)))
  else (  if (((i8.toUInt32 >>> ((2 : Int32) &&& 31).toUInt32).toInt32) &&& (3 : Int32)) = (3 : Int32) then (  (nar .boolean (F3s j0 j0 j2 j2)))
  else (  if (lcmpW j11 j0) = (0 : Int32) then (  if (lcmpW j13 j2) = (0 : Int32) then (  if (F3s j11 j0 j13 j2) = (1 : Int32) then (  if (F3s j0 j11 j2 j13) = (1 : Int32) then (  (1 : Int32))
  else (  (0 : Int32)))
  else (  (0 : Int32)))
  else (  if (F3s j11 j0 j13 j2) = (0 : Int32) then (  if (F3s j0 j11 j2 j13) = (0 : Int32) then (  (1 : Int32))
  else (  (0 : Int32)))
  else (  (0 : Int32))))
  else (  if (F3s j11 j0 j13 j2) = (0 : Int32) then (  if (F3s j0 j11 j2 j13) = (0 : Int32) then (  (1 : Int32))
  else (  (0 : Int32)))
  else (  (0 : Int32))))))
set_option maxRecDepth 65536 in
set_option maxHeartbeats 40000000 in
theorem pc0_54_0 {p : Program} {l : Launch} {e : Env} {s : State} {m : MethodId} {args : Array Value} {below : List Frame} {meth : Method} {c : Code} {T0 : State} {locs : List Loc} {Z : State} {a0 : Array Value} {h0 : Heap} {n0 : Nat} (j0 : Int64) (j2 : Int64) (j4 : Int64) (j6 : Int64) (i8 : Int32) (i9 : Int32) (i10 : Int32) (j11 : Int64) (j13 : Int64) (cl_wC : Cell) (wC : Addr)
    (X0 : Stand p l e room_1 s m args below meth c T0 locs 0 0) (hx : p.tables.exec = Jvm.exec) (hZ : Z.Warmed39 s.vm) (hw : ∀ d ∈ tables_1, d.before a0 Z = true) (hby : c.code = code) (hml : c.maxLocals = 19) (hown : s.vm.findClass "com/example/coracle/coracle/ServiceIDEqualsPinLaw" = some m.cls) (hret : meth.sig.returnType = (some .boolean)) (hlocks : meth.locks = false) (e0 : T0.heap = h0) (N0 : Fr n0 locs) (Z0 : n0 ≤ h0.size) (O0 : Old Z n0 h0) (Ar_wC : Arr Z Z.heap wC cl_wC (.object "java/lang/Long")) (hC : ∀ q : Int64, ¬ (lcmpW q (-128 : Int64)) < (0 : Int32) → ¬ (0 : Int32) < (lcmpW q (127 : Int64)) → ∃ y : Addr, ¬ ((q.toInt32 + (128 : Int32)) < 0 ∨ cl_wC.slots.size ≤ (q.toInt32 + (128 : Int32)).toNatClampNeg) ∧ cl_wC.slots[(q.toInt32 + (128 : Int32)).toNatClampNeg]? = some (.ref y) ∧ Exa Z Z.heap y "java/lang/Long") (S_wC : Sta Z Z.heap "java/lang/Long$LongCache" "cache" "[Ljava/lang/Long;" (.ref wC)) :
    ∃ s₂ o, Steps p.tables e below (T0.setTop (mkF m 54 #[.val (.long j0), .second, .val (.long j2), .second, .val (.long j4), .second, .val (.long j6), .second, .val (.int i8), .val (.int i9), .val (.int i10), .val (.long j11), .second, .val (.long j13), .second, .unset, .unset, .unset, .unset] [])) s₂ ∧ s₂.status = .running ∧ Ended s₂ below o ∧ ∃ v L, o = .returned v ∧ (v = some (.int (F0_54_0 j0 j2 i8 j11 j13)) ∧ Fr n0 L) ∧ FrameEnd s o s₂ L room_1.cells room_1.slots := by
  have pre0 : ∀ t, Steps p.tables e below (T0.setTop (mkF m 54 #[.val (.long j0), .second, .val (.long j2), .second, .val (.long j4), .second, .val (.long j6), .second, .val (.int i8), .val (.int i9), .val (.int i10), .val (.long j11), .second, .val (.long j13), .second, .unset, .unset, .unset, .unset] [])) t → Steps p.tables e below (T0.setTop (mkF m 54 #[.val (.long j0), .second, .val (.long j2), .second, .val (.long j4), .second, .val (.long j6), .second, .val (.int i8), .val (.int i9), .val (.int i10), .val (.long j11), .second, .val (.long j13), .second, .unset, .unset, .unset, .unset] [])) t := fun _ k => k
  obtain ⟨T101, h101, X101, e101, E101, A101, D101, -, st101⟩ := newO X0 hx hZ hown (hw _ (List.mem_of_getElem? (i := 0) rfl)) (hw _ (List.mem_of_getElem? (i := 1) rfl)) (hw _ (List.mem_of_getElem? (i := 2) rfl)) e0 (g := (mkF m 54 #[.val (.long j0), .second, .val (.long j2), .second, .val (.long j4), .second, .val (.long j6), .second, .val (.int i8), .val (.int i9), .val (.int i10), .val (.long j11), .second, .val (.long j13), .second, .unset, .unset, .unset, .unset] [])) rfl (hb hby at_54) (by decide) (by decide)
  obtain ⟨b101, g101⟩ : ∃ z, z = h0.size := ⟨_, rfl⟩
  rw [← g101] at A101 D101 st101
  have g_b101 : n0 ≤ b101 := Nat.le_trans Z0 (Nat.le_of_eq g101.symm)
  have O102 := O0.ext E101
  have Z103 : n0 ≤ h101.size := Nat.le_trans Z0 E101.1
  have F_mostSignificantBits_b101 : Fld Z h101 b101 "com/example/coracle/coracle/ServiceID" "mostSignificantBits" "J" (.long (0 : Int64)) := D101 (Or.inr (hw _ (List.mem_of_getElem? (i := 10) rfl))) (ty := .long) (by decide)
  have F_leastSignificantBits_b101 : Fld Z h101 b101 "com/example/coracle/coracle/ServiceID" "leastSignificantBits" "J" (.long (0 : Int64)) := D101 (Or.inr (hw _ (List.mem_of_getElem? (i := 12) rfl))) (ty := .long) (by decide)
  have pre104 : ∀ t, Steps p.tables e below (T101.setTop (mkF m 57 #[.val (.long j0), .second, .val (.long j2), .second, .val (.long j4), .second, .val (.long j6), .second, .val (.int i8), .val (.int i9), .val (.int i10), .val (.long j11), .second, .val (.long j13), .second, .unset, .unset, .unset, .unset] [(.ref b101)])) t → Steps p.tables e below (T0.setTop (mkF m 54 #[.val (.long j0), .second, .val (.long j2), .second, .val (.long j4), .second, .val (.long j6), .second, .val (.int i8), .val (.int i9), .val (.int i10), .val (.long j11), .second, .val (.long j13), .second, .unset, .unset, .unset, .unset] [])) t := by
    intro t k
    refine pre0 _ ?_
    show Steps p.tables e below (T0.setTop (mkF m 54 #[.val (.long j0), .second, .val (.long j2), .second, .val (.long j4), .second, .val (.long j6), .second, .val (.int i8), .val (.int i9), .val (.int i10), .val (.long j11), .second, .val (.long j13), .second, .unset, .unset, .unset, .unset] [])) _
    refine st101 _ ?_
    exact k
  have pre105 : ∀ t, Steps p.tables e below (T101.setTop (mkF m 60 #[.val (.long j0), .second, .val (.long j2), .second, .val (.long j4), .second, .val (.long j6), .second, .val (.int i8), .val (.int i9), .val (.int i10), .val (.long j11), .second, .val (.long j13), .second, .unset, .unset, .unset, .unset] [(.long j2), (.long j0), (.ref b101), (.ref b101)])) t → Steps p.tables e below (T0.setTop (mkF m 54 #[.val (.long j0), .second, .val (.long j2), .second, .val (.long j4), .second, .val (.long j6), .second, .val (.int i8), .val (.int i9), .val (.int i10), .val (.long j11), .second, .val (.long j13), .second, .unset, .unset, .unset, .unset] [])) t := by
    intro t k
    refine pre104 _ ?_
    show Steps p.tables e below (T101.setTop (mkF m 57 #[.val (.long j0), .second, .val (.long j2), .second, .val (.long j4), .second, .val (.long j6), .second, .val (.int i8), .val (.int i9), .val (.int i10), .val (.long j11), .second, .val (.long j13), .second, .unset, .unset, .unset, .unset] [(.ref b101)])) _
    refine XS.dup X101.here hx rfl (hb hby at_57) rfl rfl ?_
    show Steps p.tables e below (T101.setTop (mkF m 58 #[.val (.long j0), .second, .val (.long j2), .second, .val (.long j4), .second, .val (.long j6), .second, .val (.int i8), .val (.int i9), .val (.int i10), .val (.long j11), .second, .val (.long j13), .second, .unset, .unset, .unset, .unset] [(.ref b101), (.ref b101)])) _
    refine XS.lloadN X101.here hx rfl (hb hby at_58) rfl ?_
    show Steps p.tables e below (T101.setTop (mkF m 59 #[.val (.long j0), .second, .val (.long j2), .second, .val (.long j4), .second, .val (.long j6), .second, .val (.int i8), .val (.int i9), .val (.int i10), .val (.long j11), .second, .val (.long j13), .second, .unset, .unset, .unset, .unset] [(.long j0), (.ref b101), (.ref b101)])) _
    refine XS.lloadN X101.here hx rfl (hb hby at_59) rfl ?_
    exact k
  obtain ⟨_, _, ⟨T106, L106, k106, n106⟩, -, X106, ⟨Lc106, hQ106, l106, y106, z106⟩, st106⟩ := X101.specialBack hx (y := (⟨"com/example/coracle/coracle/ServiceID", "<init>", "(JJ)V"⟩ : MethodName)) rfl hown (mvT hZ (hw _ (List.mem_of_getElem? (i := 3) rfl))) (mvT hZ (hw _ (List.mem_of_getElem? (i := 4) rfl))) (mvT hZ (hw _ (List.mem_of_getElem? (i := 5) rfl))) (by decide) (backOf (W := 1) (rm1 l Z a0 hw [] b101 j0 j2 (.long (0 : Int64)) (.long (0 : Int64)) h101 n0 Z103 A101 F_mostSignificantBits_b101 g_b101 F_leastSignificantBits_b101) hZ (hw _ (List.mem_of_getElem? (i := 5) rfl)) (hw _ (List.mem_of_getElem? (i := 2) rfl)) (by decide) (by decide)) (g := (mkF m 60 #[.val (.long j0), .second, .val (.long j2), .second, .val (.long j4), .second, .val (.long j6), .second, .val (.int i8), .val (.int i9), .val (.int i10), .val (.long j11), .second, .val (.long j13), .second, .unset, .unset, .unset, .unset] [(.long j2), (.long j0), (.ref b101), (.ref b101)])) rfl (by rw [hml]; rfl) (Steps.refl _) (a := b101) (argsL := [(.long j0), (.long j2)]) (rest := [(.ref b101)]) (lenOf pd__JJ_V rfl) rfl (by show 2 * 0 + _ ≤ _; exact Nat.le_of_eq rfl) (hb hby at_60) (fun _ _ => ⟨rfl, e101, (by decide : 1 + 0 ≤ _), (by decide : 2 + 0 ≤ _)⟩)
  dsimp only [Pt.U, Pt.locs, Pt.cells, Pt.slots] at X106 l106 y106 z106 st106 hQ106
  subst l106 y106 z106
  obtain ⟨rfl, N106q, K106, E106, F106a, F106b⟩ := hQ106
  have N106 := Fr.app N0 N106q
  have O107 := O102.keep K106 (allS g_b101 all0)
  have Z108 : n0 ≤ T106.heap.size := Nat.le_trans Z103 K106.1
  have pre109 : ∀ t, Steps p.tables e below (T106.setTop (mkF m 63 #[.val (.long j0), .second, .val (.long j2), .second, .val (.long j4), .second, .val (.long j6), .second, .val (.int i8), .val (.int i9), .val (.int i10), .val (.long j11), .second, .val (.long j13), .second, .unset, .unset, .unset, .unset] [(.ref b101)])) t → Steps p.tables e below (T0.setTop (mkF m 54 #[.val (.long j0), .second, .val (.long j2), .second, .val (.long j4), .second, .val (.long j6), .second, .val (.int i8), .val (.int i9), .val (.int i10), .val (.long j11), .second, .val (.long j13), .second, .unset, .unset, .unset, .unset] [])) t := by
    intro t k
    refine pre105 _ ?_
    show Steps p.tables e below (T101.setTop (mkF m 60 #[.val (.long j0), .second, .val (.long j2), .second, .val (.long j4), .second, .val (.long j6), .second, .val (.int i8), .val (.int i9), .val (.int i10), .val (.long j11), .second, .val (.long j13), .second, .unset, .unset, .unset, .unset] [(.long j2), (.long j0), (.ref b101), (.ref b101)])) _
    refine st106.trans ?_
    exact k
  have pre110 : ∀ t, Steps p.tables e below (T106.setTop (mkF m 65 #[.val (.long j0), .second, .val (.long j2), .second, .val (.long j4), .second, .val (.long j6), .second, .val (.int i8), .val (.int i9), .val (.int i10), .val (.long j11), .second, .val (.long j13), .second, .val (.ref b101), .unset, .unset, .unset] [])) t → Steps p.tables e below (T0.setTop (mkF m 54 #[.val (.long j0), .second, .val (.long j2), .second, .val (.long j4), .second, .val (.long j6), .second, .val (.int i8), .val (.int i9), .val (.int i10), .val (.long j11), .second, .val (.long j13), .second, .unset, .unset, .unset, .unset] [])) t := by
    intro t k
    refine pre109 _ ?_
    show Steps p.tables e below (T106.setTop (mkF m 63 #[.val (.long j0), .second, .val (.long j2), .second, .val (.long j4), .second, .val (.long j6), .second, .val (.int i8), .val (.int i9), .val (.int i10), .val (.long j11), .second, .val (.long j13), .second, .unset, .unset, .unset, .unset] [(.ref b101)])) _
    refine XS.astore X106.here hx rfl (hb hby at_63) rfl rfl (l' := #[.val (.long j0), .second, .val (.long j2), .second, .val (.long j4), .second, .val (.long j6), .second, .val (.int i8), .val (.int i9), .val (.int i10), .val (.long j11), .second, .val (.long j13), .second, .val (.ref b101), .unset, .unset, .unset]) rfl ?_
    exact k
  obtain ⟨T111, h111, X111, e111, E111, A111, D111, -, st111⟩ := newO X106 hx hZ hown (hw _ (List.mem_of_getElem? (i := 0) rfl)) (hw _ (List.mem_of_getElem? (i := 1) rfl)) (hw _ (List.mem_of_getElem? (i := 2) rfl)) rfl (g := (mkF m 65 #[.val (.long j0), .second, .val (.long j2), .second, .val (.long j4), .second, .val (.long j6), .second, .val (.int i8), .val (.int i9), .val (.int i10), .val (.long j11), .second, .val (.long j13), .second, .val (.ref b101), .unset, .unset, .unset] [])) rfl (hb hby at_65) (by decide) (by decide)
  obtain ⟨b111, g111⟩ : ∃ z, z = T106.heap.size := ⟨_, rfl⟩
  rw [← g111] at A111 D111 st111
  have g_b111 : n0 ≤ b111 := Nat.le_trans Z108 (Nat.le_of_eq g111.symm)
  have ne_b101_b111 : b101 ≠ b111 := Nat.ne_of_lt (Nat.lt_of_lt_of_le E106.lt (Nat.le_of_eq g111.symm))
  have O112 := O107.ext E111
  have Z113 : n0 ≤ h111.size := Nat.le_trans Z108 E111.1
  have F_mostSignificantBits_b111 : Fld Z h111 b111 "com/example/coracle/coracle/ServiceID" "mostSignificantBits" "J" (.long (0 : Int64)) := D111 (Or.inr (hw _ (List.mem_of_getElem? (i := 10) rfl))) (ty := .long) (by decide)
  have F_leastSignificantBits_b111 : Fld Z h111 b111 "com/example/coracle/coracle/ServiceID" "leastSignificantBits" "J" (.long (0 : Int64)) := D111 (Or.inr (hw _ (List.mem_of_getElem? (i := 12) rfl))) (ty := .long) (by decide)
  have pre114 : ∀ t, Steps p.tables e below (T111.setTop (mkF m 68 #[.val (.long j0), .second, .val (.long j2), .second, .val (.long j4), .second, .val (.long j6), .second, .val (.int i8), .val (.int i9), .val (.int i10), .val (.long j11), .second, .val (.long j13), .second, .val (.ref b101), .unset, .unset, .unset] [(.ref b111)])) t → Steps p.tables e below (T0.setTop (mkF m 54 #[.val (.long j0), .second, .val (.long j2), .second, .val (.long j4), .second, .val (.long j6), .second, .val (.int i8), .val (.int i9), .val (.int i10), .val (.long j11), .second, .val (.long j13), .second, .unset, .unset, .unset, .unset] [])) t := by
    intro t k
    refine pre110 _ ?_
    show Steps p.tables e below (T106.setTop (mkF m 65 #[.val (.long j0), .second, .val (.long j2), .second, .val (.long j4), .second, .val (.long j6), .second, .val (.int i8), .val (.int i9), .val (.int i10), .val (.long j11), .second, .val (.long j13), .second, .val (.ref b101), .unset, .unset, .unset] [])) _
    refine st111 _ ?_
    exact k
  have pre115 : ∀ t, Steps p.tables e below (T111.setTop (mkF m 73 #[.val (.long j0), .second, .val (.long j2), .second, .val (.long j4), .second, .val (.long j6), .second, .val (.int i8), .val (.int i9), .val (.int i10), .val (.long j11), .second, .val (.long j13), .second, .val (.ref b101), .unset, .unset, .unset] [(.long j13), (.long j11), (.ref b111), (.ref b111)])) t → Steps p.tables e below (T0.setTop (mkF m 54 #[.val (.long j0), .second, .val (.long j2), .second, .val (.long j4), .second, .val (.long j6), .second, .val (.int i8), .val (.int i9), .val (.int i10), .val (.long j11), .second, .val (.long j13), .second, .unset, .unset, .unset, .unset] [])) t := by
    intro t k
    refine pre114 _ ?_
    show Steps p.tables e below (T111.setTop (mkF m 68 #[.val (.long j0), .second, .val (.long j2), .second, .val (.long j4), .second, .val (.long j6), .second, .val (.int i8), .val (.int i9), .val (.int i10), .val (.long j11), .second, .val (.long j13), .second, .val (.ref b101), .unset, .unset, .unset] [(.ref b111)])) _
    refine XS.dup X111.here hx rfl (hb hby at_68) rfl rfl ?_
    show Steps p.tables e below (T111.setTop (mkF m 69 #[.val (.long j0), .second, .val (.long j2), .second, .val (.long j4), .second, .val (.long j6), .second, .val (.int i8), .val (.int i9), .val (.int i10), .val (.long j11), .second, .val (.long j13), .second, .val (.ref b101), .unset, .unset, .unset] [(.ref b111), (.ref b111)])) _
    refine XS.lload X111.here hx rfl (hb hby at_69) rfl ?_
    show Steps p.tables e below (T111.setTop (mkF m 71 #[.val (.long j0), .second, .val (.long j2), .second, .val (.long j4), .second, .val (.long j6), .second, .val (.int i8), .val (.int i9), .val (.int i10), .val (.long j11), .second, .val (.long j13), .second, .val (.ref b101), .unset, .unset, .unset] [(.long j11), (.ref b111), (.ref b111)])) _
    refine XS.lload X111.here hx rfl (hb hby at_71) rfl ?_
    exact k
  obtain ⟨_, _, ⟨T116, L116, k116, n116⟩, -, X116, ⟨Lc116, hQ116, l116, y116, z116⟩, st116⟩ := X111.specialBack hx (y := (⟨"com/example/coracle/coracle/ServiceID", "<init>", "(JJ)V"⟩ : MethodName)) rfl hown (mvT hZ (hw _ (List.mem_of_getElem? (i := 3) rfl))) (mvT hZ (hw _ (List.mem_of_getElem? (i := 4) rfl))) (mvT hZ (hw _ (List.mem_of_getElem? (i := 5) rfl))) (by decide) (backOf (W := 1) (rm1 l Z a0 hw [] b111 j11 j13 (.long (0 : Int64)) (.long (0 : Int64)) h111 n0 Z113 A111 F_mostSignificantBits_b111 g_b111 F_leastSignificantBits_b111) hZ (hw _ (List.mem_of_getElem? (i := 5) rfl)) (hw _ (List.mem_of_getElem? (i := 2) rfl)) (by decide) (by decide)) (g := (mkF m 73 #[.val (.long j0), .second, .val (.long j2), .second, .val (.long j4), .second, .val (.long j6), .second, .val (.int i8), .val (.int i9), .val (.int i10), .val (.long j11), .second, .val (.long j13), .second, .val (.ref b101), .unset, .unset, .unset] [(.long j13), (.long j11), (.ref b111), (.ref b111)])) rfl (by rw [hml]; rfl) (Steps.refl _) (a := b111) (argsL := [(.long j11), (.long j13)]) (rest := [(.ref b111)]) (lenOf pd__JJ_V rfl) rfl (by show 2 * 0 + _ ≤ _; exact Nat.le_of_eq rfl) (hb hby at_73) (fun _ _ => ⟨rfl, e111, (by decide : 2 + 0 ≤ _), (by decide : 4 + 0 ≤ _)⟩)
  dsimp only [Pt.U, Pt.locs, Pt.cells, Pt.slots] at X116 l116 y116 z116 st116 hQ116
  subst l116 y116 z116
  obtain ⟨rfl, N116q, K116, E116, F116a, F116b⟩ := hQ116
  have N116 := Fr.app N106 N116q
  have O117 := O112.keep K116 (allS g_b111 all0)
  have Z118 : n0 ≤ T116.heap.size := Nat.le_trans Z113 K116.1
  have pre119 : ∀ t, Steps p.tables e below (T116.setTop (mkF m 76 #[.val (.long j0), .second, .val (.long j2), .second, .val (.long j4), .second, .val (.long j6), .second, .val (.int i8), .val (.int i9), .val (.int i10), .val (.long j11), .second, .val (.long j13), .second, .val (.ref b101), .unset, .unset, .unset] [(.ref b111)])) t → Steps p.tables e below (T0.setTop (mkF m 54 #[.val (.long j0), .second, .val (.long j2), .second, .val (.long j4), .second, .val (.long j6), .second, .val (.int i8), .val (.int i9), .val (.int i10), .val (.long j11), .second, .val (.long j13), .second, .unset, .unset, .unset, .unset] [])) t := by
    intro t k
    refine pre115 _ ?_
    show Steps p.tables e below (T111.setTop (mkF m 73 #[.val (.long j0), .second, .val (.long j2), .second, .val (.long j4), .second, .val (.long j6), .second, .val (.int i8), .val (.int i9), .val (.int i10), .val (.long j11), .second, .val (.long j13), .second, .val (.ref b101), .unset, .unset, .unset] [(.long j13), (.long j11), (.ref b111), (.ref b111)])) _
    refine st116.trans ?_
    exact k
  have pre120 : ∀ t, Steps p.tables e below (T116.setTop (mkF m 89 #[.val (.long j0), .second, .val (.long j2), .second, .val (.long j4), .second, .val (.long j6), .second, .val (.int i8), .val (.int i9), .val (.int i10), .val (.long j11), .second, .val (.long j13), .second, .val (.ref b101), .val (.ref b111), .val (.int (((i8.toUInt32 >>> ((2 : Int32) &&& 31).toUInt32).toInt32) &&& (3 : Int32))), .unset] [(.int (1 : Int32)), (.int (((i8.toUInt32 >>> ((2 : Int32) &&& 31).toUInt32).toInt32) &&& (3 : Int32)))])) t → Steps p.tables e below (T0.setTop (mkF m 54 #[.val (.long j0), .second, .val (.long j2), .second, .val (.long j4), .second, .val (.long j6), .second, .val (.int i8), .val (.int i9), .val (.int i10), .val (.long j11), .second, .val (.long j13), .second, .unset, .unset, .unset, .unset] [])) t := by
    intro t k
    refine pre119 _ ?_
    show Steps p.tables e below (T116.setTop (mkF m 76 #[.val (.long j0), .second, .val (.long j2), .second, .val (.long j4), .second, .val (.long j6), .second, .val (.int i8), .val (.int i9), .val (.int i10), .val (.long j11), .second, .val (.long j13), .second, .val (.ref b101), .unset, .unset, .unset] [(.ref b111)])) _
    refine XS.astore X116.here hx rfl (hb hby at_76) rfl rfl (l' := #[.val (.long j0), .second, .val (.long j2), .second, .val (.long j4), .second, .val (.long j6), .second, .val (.int i8), .val (.int i9), .val (.int i10), .val (.long j11), .second, .val (.long j13), .second, .val (.ref b101), .val (.ref b111), .unset, .unset]) rfl ?_
    show Steps p.tables e below (T116.setTop (mkF m 78 #[.val (.long j0), .second, .val (.long j2), .second, .val (.long j4), .second, .val (.long j6), .second, .val (.int i8), .val (.int i9), .val (.int i10), .val (.long j11), .second, .val (.long j13), .second, .val (.ref b101), .val (.ref b111), .unset, .unset] [])) _
    refine XS.iload X116.here hx rfl (hb hby at_78) rfl ?_
    show Steps p.tables e below (T116.setTop (mkF m 80 #[.val (.long j0), .second, .val (.long j2), .second, .val (.long j4), .second, .val (.long j6), .second, .val (.int i8), .val (.int i9), .val (.int i10), .val (.long j11), .second, .val (.long j13), .second, .val (.ref b101), .val (.ref b111), .unset, .unset] [(.int i8)])) _
    refine XS.iconst X116.here hx rfl (hb hby at_80) ?_
    show Steps p.tables e below (T116.setTop (mkF m 81 #[.val (.long j0), .second, .val (.long j2), .second, .val (.long j4), .second, .val (.long j6), .second, .val (.int i8), .val (.int i9), .val (.int i10), .val (.long j11), .second, .val (.long j13), .second, .val (.ref b101), .val (.ref b111), .unset, .unset] [(.int (2 : Int32)), (.int i8)])) _
    refine XS.iushr X116.here hx rfl (hb hby at_81) rfl ?_
    show Steps p.tables e below (T116.setTop (mkF m 82 #[.val (.long j0), .second, .val (.long j2), .second, .val (.long j4), .second, .val (.long j6), .second, .val (.int i8), .val (.int i9), .val (.int i10), .val (.long j11), .second, .val (.long j13), .second, .val (.ref b101), .val (.ref b111), .unset, .unset] [(.int ((i8.toUInt32 >>> ((2 : Int32) &&& 31).toUInt32).toInt32))])) _
    refine XS.iconst X116.here hx rfl (hb hby at_82) ?_
    show Steps p.tables e below (T116.setTop (mkF m 83 #[.val (.long j0), .second, .val (.long j2), .second, .val (.long j4), .second, .val (.long j6), .second, .val (.int i8), .val (.int i9), .val (.int i10), .val (.long j11), .second, .val (.long j13), .second, .val (.ref b101), .val (.ref b111), .unset, .unset] [(.int (3 : Int32)), (.int ((i8.toUInt32 >>> ((2 : Int32) &&& 31).toUInt32).toInt32))])) _
    refine XS.iand X116.here hx rfl (hb hby at_83) rfl ?_
    show Steps p.tables e below (T116.setTop (mkF m 84 #[.val (.long j0), .second, .val (.long j2), .second, .val (.long j4), .second, .val (.long j6), .second, .val (.int i8), .val (.int i9), .val (.int i10), .val (.long j11), .second, .val (.long j13), .second, .val (.ref b101), .val (.ref b111), .unset, .unset] [(.int (((i8.toUInt32 >>> ((2 : Int32) &&& 31).toUInt32).toInt32) &&& (3 : Int32)))])) _
    refine XS.istore X116.here hx rfl (hb hby at_84) rfl (l' := #[.val (.long j0), .second, .val (.long j2), .second, .val (.long j4), .second, .val (.long j6), .second, .val (.int i8), .val (.int i9), .val (.int i10), .val (.long j11), .second, .val (.long j13), .second, .val (.ref b101), .val (.ref b111), .val (.int (((i8.toUInt32 >>> ((2 : Int32) &&& 31).toUInt32).toInt32) &&& (3 : Int32))), .unset]) rfl ?_
    show Steps p.tables e below (T116.setTop (mkF m 86 #[.val (.long j0), .second, .val (.long j2), .second, .val (.long j4), .second, .val (.long j6), .second, .val (.int i8), .val (.int i9), .val (.int i10), .val (.long j11), .second, .val (.long j13), .second, .val (.ref b101), .val (.ref b111), .val (.int (((i8.toUInt32 >>> ((2 : Int32) &&& 31).toUInt32).toInt32) &&& (3 : Int32))), .unset] [])) _
    refine XS.iload X116.here hx rfl (hb hby at_86) rfl ?_
    show Steps p.tables e below (T116.setTop (mkF m 88 #[.val (.long j0), .second, .val (.long j2), .second, .val (.long j4), .second, .val (.long j6), .second, .val (.int i8), .val (.int i9), .val (.int i10), .val (.long j11), .second, .val (.long j13), .second, .val (.ref b101), .val (.ref b111), .val (.int (((i8.toUInt32 >>> ((2 : Int32) &&& 31).toUInt32).toInt32) &&& (3 : Int32))), .unset] [(.int (((i8.toUInt32 >>> ((2 : Int32) &&& 31).toUInt32).toInt32) &&& (3 : Int32)))])) _
    refine XS.iconst X116.here hx rfl (hb hby at_88) ?_
    exact k
  by_cases hc121 : (((i8.toUInt32 >>> ((2 : Int32) &&& 31).toUInt32).toInt32) &&& (3 : Int32)) = (1 : Int32)
  · have pre122 : ∀ t, Steps p.tables e below (T116.setTop (mkF m 92 #[.val (.long j0), .second, .val (.long j2), .second, .val (.long j4), .second, .val (.long j6), .second, .val (.int i8), .val (.int i9), .val (.int i10), .val (.long j11), .second, .val (.long j13), .second, .val (.ref b101), .val (.ref b111), .val (.int (((i8.toUInt32 >>> ((2 : Int32) &&& 31).toUInt32).toInt32) &&& (3 : Int32))), .unset] [])) t → Steps p.tables e below (T0.setTop (mkF m 54 #[.val (.long j0), .second, .val (.long j2), .second, .val (.long j4), .second, .val (.long j6), .second, .val (.int i8), .val (.int i9), .val (.int i10), .val (.long j11), .second, .val (.long j13), .second, .unset, .unset, .unset, .unset] [])) t := by
      intro t k
      refine pre120 _ ?_
      show Steps p.tables e below (T116.setTop (mkF m 89 #[.val (.long j0), .second, .val (.long j2), .second, .val (.long j4), .second, .val (.long j6), .second, .val (.int i8), .val (.int i9), .val (.int i10), .val (.long j11), .second, .val (.long j13), .second, .val (.ref b101), .val (.ref b111), .val (.int (((i8.toUInt32 >>> ((2 : Int32) &&& 31).toUInt32).toInt32) &&& (3 : Int32))), .unset] [(.int (1 : Int32)), (.int (((i8.toUInt32 >>> ((2 : Int32) &&& 31).toUInt32).toInt32) &&& (3 : Int32)))])) _
      refine XS.icmpNo X116.here hx rfl (hb hby at_89) rfl (teq hc121).2 ?_
      exact k
    have pre123 : ∀ t, Steps p.tables e below (T116.setTop (mkF m 95 #[.val (.long j0), .second, .val (.long j2), .second, .val (.long j4), .second, .val (.long j6), .second, .val (.int i8), .val (.int i9), .val (.int i10), .val (.long j11), .second, .val (.long j13), .second, .val (.ref b101), .val (.ref b111), .val (.int (((i8.toUInt32 >>> ((2 : Int32) &&& 31).toUInt32).toInt32) &&& (3 : Int32))), .unset] [.null, (.ref b101)])) t → Steps p.tables e below (T0.setTop (mkF m 54 #[.val (.long j0), .second, .val (.long j2), .second, .val (.long j4), .second, .val (.long j6), .second, .val (.int i8), .val (.int i9), .val (.int i10), .val (.long j11), .second, .val (.long j13), .second, .unset, .unset, .unset, .unset] [])) t := by
      intro t k
      refine pre122 _ ?_
      show Steps p.tables e below (T116.setTop (mkF m 92 #[.val (.long j0), .second, .val (.long j2), .second, .val (.long j4), .second, .val (.long j6), .second, .val (.int i8), .val (.int i9), .val (.int i10), .val (.long j11), .second, .val (.long j13), .second, .val (.ref b101), .val (.ref b111), .val (.int (((i8.toUInt32 >>> ((2 : Int32) &&& 31).toUInt32).toInt32) &&& (3 : Int32))), .unset] [])) _
      refine XS.aload X116.here hx rfl (hb hby at_92) rfl rfl ?_
      show Steps p.tables e below (T116.setTop (mkF m 94 #[.val (.long j0), .second, .val (.long j2), .second, .val (.long j4), .second, .val (.long j6), .second, .val (.int i8), .val (.int i9), .val (.int i10), .val (.long j11), .second, .val (.long j13), .second, .val (.ref b101), .val (.ref b111), .val (.int (((i8.toUInt32 >>> ((2 : Int32) &&& 31).toUInt32).toInt32) &&& (3 : Int32))), .unset] [(.ref b101)])) _
      refine XS.aconstNull X116.here hx rfl (hb hby at_94) ?_
      exact k
    obtain ⟨cq124, kq124, q124a, q124b, q124c⟩ := isOf hZ rfl ((E106.ext E111).keep K116)
    obtain ⟨_, _, ⟨T124, L124, k124, n124⟩, -, X124, ⟨Lc124, hQ124, l124, y124, z124⟩, st124⟩ := X116.virtualBack hx (y := (⟨"com/example/coracle/coracle/ServiceID", "equals", "(Ljava/lang/Object;)Z"⟩ : MethodName)) (z := (⟨"com/example/coracle/coracle/ServiceID", "equals", "(Ljava/lang/Object;)Z"⟩ : MethodName)) hown (mvT hZ (hw _ (List.mem_of_getElem? (i := 13) rfl))) (mvT hZ (hw _ (List.mem_of_getElem? (i := 14) rfl))) (notFace_of_selects (args := #[]) (mvT hZ (hw _ (List.mem_of_getElem? (i := 16) rfl)))) (mvT hZ (hw _ (List.mem_of_getElem? (i := 16) rfl))) (mvT hZ (hw _ (List.mem_of_getElem? (i := 15) rfl))) (by decide) (backOf (W := 0) (rm3n l Z a0 hw [] b101 T116.heap n0 Z118 ) hZ (hw _ (List.mem_of_getElem? (i := 17) rfl)) (hw _ (List.mem_of_getElem? (i := 2) rfl)) (by decide) (by decide)) q124a q124c (g := (mkF m 95 #[.val (.long j0), .second, .val (.long j2), .second, .val (.long j4), .second, .val (.long j6), .second, .val (.int i8), .val (.int i9), .val (.int i10), .val (.long j11), .second, .val (.long j13), .second, .val (.ref b101), .val (.ref b111), .val (.int (((i8.toUInt32 >>> ((2 : Int32) &&& 31).toUInt32).toInt32) &&& (3 : Int32))), .unset] [.null, (.ref b101)])) rfl (by rw [hml]; rfl) (Steps.refl _) (argsL := [.null]) (rest := []) (lenOf pd__Ljava_lang_Object__Z rfl) rfl (by show 2 * 0 + _ ≤ _; exact Nat.le_of_eq rfl) (hb hby at_95) (fun _ _ => ⟨rfl, rfl, (by decide : 2 + 0 ≤ _), (by decide : 4 + 0 ≤ _)⟩)
    dsimp only [Pt.U, Pt.locs, Pt.cells, Pt.slots] at X124 l124 y124 z124 st124 hQ124
    subst l124 y124 z124
    obtain ⟨rfl, N124q, e124⟩ := hQ124
    have N124 := Fr.app N116 N124q
    have pre125 : ∀ t, Steps p.tables e below (T124.setTop (mkF m 98 #[.val (.long j0), .second, .val (.long j2), .second, .val (.long j4), .second, .val (.long j6), .second, .val (.int i8), .val (.int i9), .val (.int i10), .val (.long j11), .second, .val (.long j13), .second, .val (.ref b101), .val (.ref b111), .val (.int (((i8.toUInt32 >>> ((2 : Int32) &&& 31).toUInt32).toInt32) &&& (3 : Int32))), .unset] [(.int (F3n))])) t → Steps p.tables e below (T0.setTop (mkF m 54 #[.val (.long j0), .second, .val (.long j2), .second, .val (.long j4), .second, .val (.long j6), .second, .val (.int i8), .val (.int i9), .val (.int i10), .val (.long j11), .second, .val (.long j13), .second, .unset, .unset, .unset, .unset] [])) t := by
      intro t k
      refine pre123 _ ?_
      show Steps p.tables e below (T116.setTop (mkF m 95 #[.val (.long j0), .second, .val (.long j2), .second, .val (.long j4), .second, .val (.long j6), .second, .val (.int i8), .val (.int i9), .val (.int i10), .val (.long j11), .second, .val (.long j13), .second, .val (.ref b101), .val (.ref b111), .val (.int (((i8.toUInt32 >>> ((2 : Int32) &&& 31).toUInt32).toInt32) &&& (3 : Int32))), .unset] [.null, (.ref b101)])) _
      refine st124.trans ?_
      exact k
    by_cases hc126 : (F3n) = (0 : Int32)
    · have pre127 : ∀ t, Steps p.tables e below (T124.setTop (mkF m 101 #[.val (.long j0), .second, .val (.long j2), .second, .val (.long j4), .second, .val (.long j6), .second, .val (.int i8), .val (.int i9), .val (.int i10), .val (.long j11), .second, .val (.long j13), .second, .val (.ref b101), .val (.ref b111), .val (.int (((i8.toUInt32 >>> ((2 : Int32) &&& 31).toUInt32).toInt32) &&& (3 : Int32))), .unset] [])) t → Steps p.tables e below (T0.setTop (mkF m 54 #[.val (.long j0), .second, .val (.long j2), .second, .val (.long j4), .second, .val (.long j6), .second, .val (.int i8), .val (.int i9), .val (.int i10), .val (.long j11), .second, .val (.long j13), .second, .unset, .unset, .unset, .unset] [])) t := by
        intro t k
        refine pre125 _ ?_
        show Steps p.tables e below (T124.setTop (mkF m 98 #[.val (.long j0), .second, .val (.long j2), .second, .val (.long j4), .second, .val (.long j6), .second, .val (.int i8), .val (.int i9), .val (.int i10), .val (.long j11), .second, .val (.long j13), .second, .val (.ref b101), .val (.ref b111), .val (.int (((i8.toUInt32 >>> ((2 : Int32) &&& 31).toUInt32).toInt32) &&& (3 : Int32))), .unset] [(.int (F3n))])) _
        refine XS.ifNo X124.here hx rfl (hb hby at_98) rfl ((if0 _ _).trans (teq hc126).2) ?_
        exact k
      have pre128 : ∀ t, Steps p.tables e below (T124.setTop (mkF m 106 #[.val (.long j0), .second, .val (.long j2), .second, .val (.long j4), .second, .val (.long j6), .second, .val (.int i8), .val (.int i9), .val (.int i10), .val (.long j11), .second, .val (.long j13), .second, .val (.ref b101), .val (.ref b111), .val (.int (((i8.toUInt32 >>> ((2 : Int32) &&& 31).toUInt32).toInt32) &&& (3 : Int32))), .unset] [(.int (1 : Int32))])) t → Steps p.tables e below (T0.setTop (mkF m 54 #[.val (.long j0), .second, .val (.long j2), .second, .val (.long j4), .second, .val (.long j6), .second, .val (.int i8), .val (.int i9), .val (.int i10), .val (.long j11), .second, .val (.long j13), .second, .unset, .unset, .unset, .unset] [])) t := by
        intro t k
        refine pre127 _ ?_
        show Steps p.tables e below (T124.setTop (mkF m 101 #[.val (.long j0), .second, .val (.long j2), .second, .val (.long j4), .second, .val (.long j6), .second, .val (.int i8), .val (.int i9), .val (.int i10), .val (.long j11), .second, .val (.long j13), .second, .val (.ref b101), .val (.ref b111), .val (.int (((i8.toUInt32 >>> ((2 : Int32) &&& 31).toUInt32).toInt32) &&& (3 : Int32))), .unset] [])) _
        refine XS.iconst X124.here hx rfl (hb hby at_101) ?_
        show Steps p.tables e below (T124.setTop (mkF m 102 #[.val (.long j0), .second, .val (.long j2), .second, .val (.long j4), .second, .val (.long j6), .second, .val (.int i8), .val (.int i9), .val (.int i10), .val (.long j11), .second, .val (.long j13), .second, .val (.ref b101), .val (.ref b111), .val (.int (((i8.toUInt32 >>> ((2 : Int32) &&& 31).toUInt32).toInt32) &&& (3 : Int32))), .unset] [(.int (1 : Int32))])) _
        refine XS.goto X124.here hx rfl (pc0 := 102) (pc' := 106) rfl (hb hby at_102) (by decide) (by decide) ?_
        exact k
      obtain ⟨fs, hr, hrun, hended, hW, hsame⟩ := X124.leave (v := some (.int (1 : Int32))) (fun h => by rw [hret] at h; cases h)
      refine ⟨_, _, pre128 _ ?_, hrun, hended, _, _, rfl, ?_, ⟨_, rfl⟩, hW, hsame.mono (by decide) (by decide)⟩
      · show Steps p.tables e below (T124.setTop (mkF m 106 #[.val (.long j0), .second, .val (.long j2), .second, .val (.long j4), .second, .val (.long j6), .second, .val (.int i8), .val (.int i9), .val (.int i10), .val (.long j11), .second, .val (.long j13), .second, .val (.ref b101), .val (.ref b111), .val (.int (((i8.toUInt32 >>> ((2 : Int32) &&& 31).toUInt32).toInt32) &&& (3 : Int32))), .unset] [(.int (1 : Int32))])) _
        exact retN X124 hx (t := .boolean) hret (by simp) (hb hby at_106) hr
      · exact ⟨(by rw [F0_54_0, if_pos hc121, if_pos hc126]), N124⟩
    · have pre129 : ∀ t, Steps p.tables e below (T124.setTop (mkF m 105 #[.val (.long j0), .second, .val (.long j2), .second, .val (.long j4), .second, .val (.long j6), .second, .val (.int i8), .val (.int i9), .val (.int i10), .val (.long j11), .second, .val (.long j13), .second, .val (.ref b101), .val (.ref b111), .val (.int (((i8.toUInt32 >>> ((2 : Int32) &&& 31).toUInt32).toInt32) &&& (3 : Int32))), .unset] [])) t → Steps p.tables e below (T0.setTop (mkF m 54 #[.val (.long j0), .second, .val (.long j2), .second, .val (.long j4), .second, .val (.long j6), .second, .val (.int i8), .val (.int i9), .val (.int i10), .val (.long j11), .second, .val (.long j13), .second, .unset, .unset, .unset, .unset] [])) t := by
        intro t k
        refine pre125 _ ?_
        show Steps p.tables e below (T124.setTop (mkF m 98 #[.val (.long j0), .second, .val (.long j2), .second, .val (.long j4), .second, .val (.long j6), .second, .val (.int i8), .val (.int i9), .val (.int i10), .val (.long j11), .second, .val (.long j13), .second, .val (.ref b101), .val (.ref b111), .val (.int (((i8.toUInt32 >>> ((2 : Int32) &&& 31).toUInt32).toInt32) &&& (3 : Int32))), .unset] [(.int (F3n))])) _
        refine XS.ifYes X124.here hx rfl (pc0 := 98) (pc' := 105) rfl (hb hby at_98) rfl ((if0 _ _).trans (feq hc126).2) (by decide) (by decide) ?_
        exact k
      have pre130 : ∀ t, Steps p.tables e below (T124.setTop (mkF m 106 #[.val (.long j0), .second, .val (.long j2), .second, .val (.long j4), .second, .val (.long j6), .second, .val (.int i8), .val (.int i9), .val (.int i10), .val (.long j11), .second, .val (.long j13), .second, .val (.ref b101), .val (.ref b111), .val (.int (((i8.toUInt32 >>> ((2 : Int32) &&& 31).toUInt32).toInt32) &&& (3 : Int32))), .unset] [(.int (0 : Int32))])) t → Steps p.tables e below (T0.setTop (mkF m 54 #[.val (.long j0), .second, .val (.long j2), .second, .val (.long j4), .second, .val (.long j6), .second, .val (.int i8), .val (.int i9), .val (.int i10), .val (.long j11), .second, .val (.long j13), .second, .unset, .unset, .unset, .unset] [])) t := by
        intro t k
        refine pre129 _ ?_
        show Steps p.tables e below (T124.setTop (mkF m 105 #[.val (.long j0), .second, .val (.long j2), .second, .val (.long j4), .second, .val (.long j6), .second, .val (.int i8), .val (.int i9), .val (.int i10), .val (.long j11), .second, .val (.long j13), .second, .val (.ref b101), .val (.ref b111), .val (.int (((i8.toUInt32 >>> ((2 : Int32) &&& 31).toUInt32).toInt32) &&& (3 : Int32))), .unset] [])) _
        refine XS.iconst X124.here hx rfl (hb hby at_105) ?_
        exact k
      obtain ⟨fs, hr, hrun, hended, hW, hsame⟩ := X124.leave (v := some (.int (0 : Int32))) (fun h => by rw [hret] at h; cases h)
      refine ⟨_, _, pre130 _ ?_, hrun, hended, _, _, rfl, ?_, ⟨_, rfl⟩, hW, hsame.mono (by decide) (by decide)⟩
      · show Steps p.tables e below (T124.setTop (mkF m 106 #[.val (.long j0), .second, .val (.long j2), .second, .val (.long j4), .second, .val (.long j6), .second, .val (.int i8), .val (.int i9), .val (.int i10), .val (.long j11), .second, .val (.long j13), .second, .val (.ref b101), .val (.ref b111), .val (.int (((i8.toUInt32 >>> ((2 : Int32) &&& 31).toUInt32).toInt32) &&& (3 : Int32))), .unset] [(.int (0 : Int32))])) _
        exact retN X124 hx (t := .boolean) hret (by simp) (hb hby at_106) hr
      · exact ⟨(by rw [F0_54_0, if_pos hc121, if_neg hc126]), N124⟩
  · have pre131 : ∀ t, Steps p.tables e below (T116.setTop (mkF m 107 #[.val (.long j0), .second, .val (.long j2), .second, .val (.long j4), .second, .val (.long j6), .second, .val (.int i8), .val (.int i9), .val (.int i10), .val (.long j11), .second, .val (.long j13), .second, .val (.ref b101), .val (.ref b111), .val (.int (((i8.toUInt32 >>> ((2 : Int32) &&& 31).toUInt32).toInt32) &&& (3 : Int32))), .unset] [])) t → Steps p.tables e below (T0.setTop (mkF m 54 #[.val (.long j0), .second, .val (.long j2), .second, .val (.long j4), .second, .val (.long j6), .second, .val (.int i8), .val (.int i9), .val (.int i10), .val (.long j11), .second, .val (.long j13), .second, .unset, .unset, .unset, .unset] [])) t := by
      intro t k
      refine pre120 _ ?_
      show Steps p.tables e below (T116.setTop (mkF m 89 #[.val (.long j0), .second, .val (.long j2), .second, .val (.long j4), .second, .val (.long j6), .second, .val (.int i8), .val (.int i9), .val (.int i10), .val (.long j11), .second, .val (.long j13), .second, .val (.ref b101), .val (.ref b111), .val (.int (((i8.toUInt32 >>> ((2 : Int32) &&& 31).toUInt32).toInt32) &&& (3 : Int32))), .unset] [(.int (1 : Int32)), (.int (((i8.toUInt32 >>> ((2 : Int32) &&& 31).toUInt32).toInt32) &&& (3 : Int32)))])) _
      refine XS.icmpYes X116.here hx rfl (pc0 := 89) (pc' := 107) rfl (hb hby at_89) rfl (feq hc121).2 (by decide) (by decide) ?_
      exact k
    have pre132 : ∀ t, Steps p.tables e below (T116.setTop (mkF m 110 #[.val (.long j0), .second, .val (.long j2), .second, .val (.long j4), .second, .val (.long j6), .second, .val (.int i8), .val (.int i9), .val (.int i10), .val (.long j11), .second, .val (.long j13), .second, .val (.ref b101), .val (.ref b111), .val (.int (((i8.toUInt32 >>> ((2 : Int32) &&& 31).toUInt32).toInt32) &&& (3 : Int32))), .unset] [(.int (2 : Int32)), (.int (((i8.toUInt32 >>> ((2 : Int32) &&& 31).toUInt32).toInt32) &&& (3 : Int32)))])) t → Steps p.tables e below (T0.setTop (mkF m 54 #[.val (.long j0), .second, .val (.long j2), .second, .val (.long j4), .second, .val (.long j6), .second, .val (.int i8), .val (.int i9), .val (.int i10), .val (.long j11), .second, .val (.long j13), .second, .unset, .unset, .unset, .unset] [])) t := by
      intro t k
      refine pre131 _ ?_
      show Steps p.tables e below (T116.setTop (mkF m 107 #[.val (.long j0), .second, .val (.long j2), .second, .val (.long j4), .second, .val (.long j6), .second, .val (.int i8), .val (.int i9), .val (.int i10), .val (.long j11), .second, .val (.long j13), .second, .val (.ref b101), .val (.ref b111), .val (.int (((i8.toUInt32 >>> ((2 : Int32) &&& 31).toUInt32).toInt32) &&& (3 : Int32))), .unset] [])) _
      refine XS.iload X116.here hx rfl (hb hby at_107) rfl ?_
      show Steps p.tables e below (T116.setTop (mkF m 109 #[.val (.long j0), .second, .val (.long j2), .second, .val (.long j4), .second, .val (.long j6), .second, .val (.int i8), .val (.int i9), .val (.int i10), .val (.long j11), .second, .val (.long j13), .second, .val (.ref b101), .val (.ref b111), .val (.int (((i8.toUInt32 >>> ((2 : Int32) &&& 31).toUInt32).toInt32) &&& (3 : Int32))), .unset] [(.int (((i8.toUInt32 >>> ((2 : Int32) &&& 31).toUInt32).toInt32) &&& (3 : Int32)))])) _
      refine XS.iconst X116.here hx rfl (hb hby at_109) ?_
      exact k
    by_cases hc133 : (((i8.toUInt32 >>> ((2 : Int32) &&& 31).toUInt32).toInt32) &&& (3 : Int32)) = (2 : Int32)
    · have pre134 : ∀ t, Steps p.tables e below (T116.setTop (mkF m 113 #[.val (.long j0), .second, .val (.long j2), .second, .val (.long j4), .second, .val (.long j6), .second, .val (.int i8), .val (.int i9), .val (.int i10), .val (.long j11), .second, .val (.long j13), .second, .val (.ref b101), .val (.ref b111), .val (.int (((i8.toUInt32 >>> ((2 : Int32) &&& 31).toUInt32).toInt32) &&& (3 : Int32))), .unset] [])) t → Steps p.tables e below (T0.setTop (mkF m 54 #[.val (.long j0), .second, .val (.long j2), .second, .val (.long j4), .second, .val (.long j6), .second, .val (.int i8), .val (.int i9), .val (.int i10), .val (.long j11), .second, .val (.long j13), .second, .unset, .unset, .unset, .unset] [])) t := by
        intro t k
        refine pre132 _ ?_
        show Steps p.tables e below (T116.setTop (mkF m 110 #[.val (.long j0), .second, .val (.long j2), .second, .val (.long j4), .second, .val (.long j6), .second, .val (.int i8), .val (.int i9), .val (.int i10), .val (.long j11), .second, .val (.long j13), .second, .val (.ref b101), .val (.ref b111), .val (.int (((i8.toUInt32 >>> ((2 : Int32) &&& 31).toUInt32).toInt32) &&& (3 : Int32))), .unset] [(.int (2 : Int32)), (.int (((i8.toUInt32 >>> ((2 : Int32) &&& 31).toUInt32).toInt32) &&& (3 : Int32)))])) _
        refine XS.icmpNo X116.here hx rfl (hb hby at_110) rfl (teq hc133).2 ?_
        exact k
      have pre135 : ∀ t, Steps p.tables e below (T116.setTop (mkF m 114 #[.val (.long j0), .second, .val (.long j2), .second, .val (.long j4), .second, .val (.long j6), .second, .val (.int i8), .val (.int i9), .val (.int i10), .val (.long j11), .second, .val (.long j13), .second, .val (.ref b101), .val (.ref b111), .val (.int (((i8.toUInt32 >>> ((2 : Int32) &&& 31).toUInt32).toInt32) &&& (3 : Int32))), .unset] [(.long j0)])) t → Steps p.tables e below (T0.setTop (mkF m 54 #[.val (.long j0), .second, .val (.long j2), .second, .val (.long j4), .second, .val (.long j6), .second, .val (.int i8), .val (.int i9), .val (.int i10), .val (.long j11), .second, .val (.long j13), .second, .unset, .unset, .unset, .unset] [])) t := by
        intro t k
        refine pre134 _ ?_
        show Steps p.tables e below (T116.setTop (mkF m 113 #[.val (.long j0), .second, .val (.long j2), .second, .val (.long j4), .second, .val (.long j6), .second, .val (.int i8), .val (.int i9), .val (.int i10), .val (.long j11), .second, .val (.long j13), .second, .val (.ref b101), .val (.ref b111), .val (.int (((i8.toUInt32 >>> ((2 : Int32) &&& 31).toUInt32).toInt32) &&& (3 : Int32))), .unset] [])) _
        refine XS.lloadN X116.here hx rfl (hb hby at_113) rfl ?_
        exact k
      obtain ⟨_, _, ⟨T136, L136, k136, n136⟩, -, X136, ⟨Lc136, hQ136, l136, y136, z136⟩, st136⟩ := Jvm.LawKit.callS X116 hx (y := (⟨"java/lang/Long", "valueOf", "(J)Ljava/lang/Long;"⟩ : MethodName)) hown (mvT hZ (hw _ (List.mem_of_getElem? (i := 20) rfl))) (mvT hZ (hw _ (List.mem_of_getElem? (i := 21) rfl))) (mvT hZ (hw _ (List.mem_of_getElem? (i := 22) rfl))) (mvT hZ (hw _ (List.mem_of_getElem? (i := 23) rfl))) (by decide) (backOf (W := 0) (rm4 l Z a0 hw [] j0 cl_wC wC T116.heap n0 Z118 O117 Ar_wC hC S_wC) hZ (hw _ (List.mem_of_getElem? (i := 23) rfl)) (hw _ (List.mem_of_getElem? (i := 22) rfl)) (by decide) (by decide)) (g := (mkF m 114 #[.val (.long j0), .second, .val (.long j2), .second, .val (.long j4), .second, .val (.long j6), .second, .val (.int i8), .val (.int i9), .val (.int i10), .val (.long j11), .second, .val (.long j13), .second, .val (.ref b101), .val (.ref b111), .val (.int (((i8.toUInt32 >>> ((2 : Int32) &&& 31).toUInt32).toInt32) &&& (3 : Int32))), .unset] [(.long j0)])) rfl (by rw [hml]; rfl) (argsL := [(.long j0)]) (rest := []) (lenOf pd__J_Ljava_lang_Long_ rfl) rfl (by show 2 * 0 + _ ≤ _; exact Nat.le_of_eq rfl) (hb hby at_114) (fun _ _ => ⟨rfl, rfl, (by decide : 2 + 1 ≤ _), (by decide : 4 + 1 ≤ _)⟩)
      dsimp only [Pt.U, Pt.locs, Pt.cells, Pt.slots] at X136 l136 y136 z136 st136 hQ136
      subst l136 y136 z136
      obtain ⟨r136, rfl, N136q, K136, E136⟩ := hQ136
      have N136 := Fr.app N116 N136q
      have O137 := O117.keep K136 all0
      have Z138 : n0 ≤ T136.heap.size := Nat.le_trans Z118 K136.1
      have pre139 : ∀ t, Steps p.tables e below (T136.setTop (mkF m 117 #[.val (.long j0), .second, .val (.long j2), .second, .val (.long j4), .second, .val (.long j6), .second, .val (.int i8), .val (.int i9), .val (.int i10), .val (.long j11), .second, .val (.long j13), .second, .val (.ref b101), .val (.ref b111), .val (.int (((i8.toUInt32 >>> ((2 : Int32) &&& 31).toUInt32).toInt32) &&& (3 : Int32))), .unset] [(.ref r136)])) t → Steps p.tables e below (T0.setTop (mkF m 54 #[.val (.long j0), .second, .val (.long j2), .second, .val (.long j4), .second, .val (.long j6), .second, .val (.int i8), .val (.int i9), .val (.int i10), .val (.long j11), .second, .val (.long j13), .second, .unset, .unset, .unset, .unset] [])) t := by
        intro t k
        refine pre135 _ ?_
        show Steps p.tables e below (T116.setTop (mkF m 114 #[.val (.long j0), .second, .val (.long j2), .second, .val (.long j4), .second, .val (.long j6), .second, .val (.int i8), .val (.int i9), .val (.int i10), .val (.long j11), .second, .val (.long j13), .second, .val (.ref b101), .val (.ref b111), .val (.int (((i8.toUInt32 >>> ((2 : Int32) &&& 31).toUInt32).toInt32) &&& (3 : Int32))), .unset] [(.long j0)])) _
        refine st136 _ ?_
        exact k
      have pre140 : ∀ t, Steps p.tables e below (T136.setTop (mkF m 123 #[.val (.long j0), .second, .val (.long j2), .second, .val (.long j4), .second, .val (.long j6), .second, .val (.int i8), .val (.int i9), .val (.int i10), .val (.long j11), .second, .val (.long j13), .second, .val (.ref b101), .val (.ref b111), .val (.int (((i8.toUInt32 >>> ((2 : Int32) &&& 31).toUInt32).toInt32) &&& (3 : Int32))), .val (.ref r136)] [(.ref r136), (.ref b101)])) t → Steps p.tables e below (T0.setTop (mkF m 54 #[.val (.long j0), .second, .val (.long j2), .second, .val (.long j4), .second, .val (.long j6), .second, .val (.int i8), .val (.int i9), .val (.int i10), .val (.long j11), .second, .val (.long j13), .second, .unset, .unset, .unset, .unset] [])) t := by
        intro t k
        refine pre139 _ ?_
        show Steps p.tables e below (T136.setTop (mkF m 117 #[.val (.long j0), .second, .val (.long j2), .second, .val (.long j4), .second, .val (.long j6), .second, .val (.int i8), .val (.int i9), .val (.int i10), .val (.long j11), .second, .val (.long j13), .second, .val (.ref b101), .val (.ref b111), .val (.int (((i8.toUInt32 >>> ((2 : Int32) &&& 31).toUInt32).toInt32) &&& (3 : Int32))), .unset] [(.ref r136)])) _
        refine XS.astore X136.here hx rfl (hb hby at_117) rfl rfl (l' := #[.val (.long j0), .second, .val (.long j2), .second, .val (.long j4), .second, .val (.long j6), .second, .val (.int i8), .val (.int i9), .val (.int i10), .val (.long j11), .second, .val (.long j13), .second, .val (.ref b101), .val (.ref b111), .val (.int (((i8.toUInt32 >>> ((2 : Int32) &&& 31).toUInt32).toInt32) &&& (3 : Int32))), .val (.ref r136)]) rfl ?_
        show Steps p.tables e below (T136.setTop (mkF m 119 #[.val (.long j0), .second, .val (.long j2), .second, .val (.long j4), .second, .val (.long j6), .second, .val (.int i8), .val (.int i9), .val (.int i10), .val (.long j11), .second, .val (.long j13), .second, .val (.ref b101), .val (.ref b111), .val (.int (((i8.toUInt32 >>> ((2 : Int32) &&& 31).toUInt32).toInt32) &&& (3 : Int32))), .val (.ref r136)] [])) _
        refine XS.aload X136.here hx rfl (hb hby at_119) rfl rfl ?_
        show Steps p.tables e below (T136.setTop (mkF m 121 #[.val (.long j0), .second, .val (.long j2), .second, .val (.long j4), .second, .val (.long j6), .second, .val (.int i8), .val (.int i9), .val (.int i10), .val (.long j11), .second, .val (.long j13), .second, .val (.ref b101), .val (.ref b111), .val (.int (((i8.toUInt32 >>> ((2 : Int32) &&& 31).toUInt32).toInt32) &&& (3 : Int32))), .val (.ref r136)] [(.ref b101)])) _
        refine XS.aload X136.here hx rfl (hb hby at_121) rfl rfl ?_
        exact k
      obtain ⟨cq141, kq141, q141a, q141b, q141c⟩ := isOf hZ rfl (((E106.ext E111).keep K116).keep K136)
      obtain ⟨_, _, ⟨T141, L141, k141, n141⟩, -, X141, ⟨Lc141, hQ141, l141, y141, z141⟩, st141⟩ := X136.virtualBack hx (y := (⟨"com/example/coracle/coracle/ServiceID", "equals", "(Ljava/lang/Object;)Z"⟩ : MethodName)) (z := (⟨"com/example/coracle/coracle/ServiceID", "equals", "(Ljava/lang/Object;)Z"⟩ : MethodName)) hown (mvT hZ (hw _ (List.mem_of_getElem? (i := 13) rfl))) (mvT hZ (hw _ (List.mem_of_getElem? (i := 14) rfl))) (notFace_of_selects (args := #[]) (mvT hZ (hw _ (List.mem_of_getElem? (i := 16) rfl)))) (mvT hZ (hw _ (List.mem_of_getElem? (i := 16) rfl))) (mvT hZ (hw _ (List.mem_of_getElem? (i := 15) rfl))) (by decide) (backOf (W := 0) (rm3o l Z a0 hw [] b101 r136 T136.heap n0 Z138 E136 (own_no_long hw)) hZ (hw _ (List.mem_of_getElem? (i := 17) rfl)) (hw _ (List.mem_of_getElem? (i := 2) rfl)) (by decide) (by decide)) q141a q141c (g := (mkF m 123 #[.val (.long j0), .second, .val (.long j2), .second, .val (.long j4), .second, .val (.long j6), .second, .val (.int i8), .val (.int i9), .val (.int i10), .val (.long j11), .second, .val (.long j13), .second, .val (.ref b101), .val (.ref b111), .val (.int (((i8.toUInt32 >>> ((2 : Int32) &&& 31).toUInt32).toInt32) &&& (3 : Int32))), .val (.ref r136)] [(.ref r136), (.ref b101)])) rfl (by rw [hml]; rfl) (Steps.refl _) (argsL := [(.ref r136)]) (rest := []) (lenOf pd__Ljava_lang_Object__Z rfl) rfl (by show 2 * 0 + _ ≤ _; exact Nat.le_of_eq rfl) (hb hby at_123) (fun _ _ => ⟨rfl, rfl, (by decide : 3 + 0 ≤ _), (by decide : 5 + 0 ≤ _)⟩)
      dsimp only [Pt.U, Pt.locs, Pt.cells, Pt.slots] at X141 l141 y141 z141 st141 hQ141
      subst l141 y141 z141
      obtain ⟨rfl, N141q, e141⟩ := hQ141
      have N141 := Fr.app N136 N141q
      have pre142 : ∀ t, Steps p.tables e below (T141.setTop (mkF m 126 #[.val (.long j0), .second, .val (.long j2), .second, .val (.long j4), .second, .val (.long j6), .second, .val (.int i8), .val (.int i9), .val (.int i10), .val (.long j11), .second, .val (.long j13), .second, .val (.ref b101), .val (.ref b111), .val (.int (((i8.toUInt32 >>> ((2 : Int32) &&& 31).toUInt32).toInt32) &&& (3 : Int32))), .val (.ref r136)] [(.int (F3o))])) t → Steps p.tables e below (T0.setTop (mkF m 54 #[.val (.long j0), .second, .val (.long j2), .second, .val (.long j4), .second, .val (.long j6), .second, .val (.int i8), .val (.int i9), .val (.int i10), .val (.long j11), .second, .val (.long j13), .second, .unset, .unset, .unset, .unset] [])) t := by
        intro t k
        refine pre140 _ ?_
        show Steps p.tables e below (T136.setTop (mkF m 123 #[.val (.long j0), .second, .val (.long j2), .second, .val (.long j4), .second, .val (.long j6), .second, .val (.int i8), .val (.int i9), .val (.int i10), .val (.long j11), .second, .val (.long j13), .second, .val (.ref b101), .val (.ref b111), .val (.int (((i8.toUInt32 >>> ((2 : Int32) &&& 31).toUInt32).toInt32) &&& (3 : Int32))), .val (.ref r136)] [(.ref r136), (.ref b101)])) _
        refine st141.trans ?_
        exact k
      by_cases hc143 : (F3o) = (0 : Int32)
      · have pre144 : ∀ t, Steps p.tables e below (T141.setTop (mkF m 129 #[.val (.long j0), .second, .val (.long j2), .second, .val (.long j4), .second, .val (.long j6), .second, .val (.int i8), .val (.int i9), .val (.int i10), .val (.long j11), .second, .val (.long j13), .second, .val (.ref b101), .val (.ref b111), .val (.int (((i8.toUInt32 >>> ((2 : Int32) &&& 31).toUInt32).toInt32) &&& (3 : Int32))), .val (.ref r136)] [])) t → Steps p.tables e below (T0.setTop (mkF m 54 #[.val (.long j0), .second, .val (.long j2), .second, .val (.long j4), .second, .val (.long j6), .second, .val (.int i8), .val (.int i9), .val (.int i10), .val (.long j11), .second, .val (.long j13), .second, .unset, .unset, .unset, .unset] [])) t := by
          intro t k
          refine pre142 _ ?_
          show Steps p.tables e below (T141.setTop (mkF m 126 #[.val (.long j0), .second, .val (.long j2), .second, .val (.long j4), .second, .val (.long j6), .second, .val (.int i8), .val (.int i9), .val (.int i10), .val (.long j11), .second, .val (.long j13), .second, .val (.ref b101), .val (.ref b111), .val (.int (((i8.toUInt32 >>> ((2 : Int32) &&& 31).toUInt32).toInt32) &&& (3 : Int32))), .val (.ref r136)] [(.int (F3o))])) _
          refine XS.ifNo X141.here hx rfl (hb hby at_126) rfl ((if0 _ _).trans (teq hc143).2) ?_
          exact k
        have pre145 : ∀ t, Steps p.tables e below (T141.setTop (mkF m 134 #[.val (.long j0), .second, .val (.long j2), .second, .val (.long j4), .second, .val (.long j6), .second, .val (.int i8), .val (.int i9), .val (.int i10), .val (.long j11), .second, .val (.long j13), .second, .val (.ref b101), .val (.ref b111), .val (.int (((i8.toUInt32 >>> ((2 : Int32) &&& 31).toUInt32).toInt32) &&& (3 : Int32))), .val (.ref r136)] [(.int (1 : Int32))])) t → Steps p.tables e below (T0.setTop (mkF m 54 #[.val (.long j0), .second, .val (.long j2), .second, .val (.long j4), .second, .val (.long j6), .second, .val (.int i8), .val (.int i9), .val (.int i10), .val (.long j11), .second, .val (.long j13), .second, .unset, .unset, .unset, .unset] [])) t := by
          intro t k
          refine pre144 _ ?_
          show Steps p.tables e below (T141.setTop (mkF m 129 #[.val (.long j0), .second, .val (.long j2), .second, .val (.long j4), .second, .val (.long j6), .second, .val (.int i8), .val (.int i9), .val (.int i10), .val (.long j11), .second, .val (.long j13), .second, .val (.ref b101), .val (.ref b111), .val (.int (((i8.toUInt32 >>> ((2 : Int32) &&& 31).toUInt32).toInt32) &&& (3 : Int32))), .val (.ref r136)] [])) _
          refine XS.iconst X141.here hx rfl (hb hby at_129) ?_
          show Steps p.tables e below (T141.setTop (mkF m 130 #[.val (.long j0), .second, .val (.long j2), .second, .val (.long j4), .second, .val (.long j6), .second, .val (.int i8), .val (.int i9), .val (.int i10), .val (.long j11), .second, .val (.long j13), .second, .val (.ref b101), .val (.ref b111), .val (.int (((i8.toUInt32 >>> ((2 : Int32) &&& 31).toUInt32).toInt32) &&& (3 : Int32))), .val (.ref r136)] [(.int (1 : Int32))])) _
          refine XS.goto X141.here hx rfl (pc0 := 130) (pc' := 134) rfl (hb hby at_130) (by decide) (by decide) ?_
          exact k
        obtain ⟨fs, hr, hrun, hended, hW, hsame⟩ := X141.leave (v := some (.int (1 : Int32))) (fun h => by rw [hret] at h; cases h)
        refine ⟨_, _, pre145 _ ?_, hrun, hended, _, _, rfl, ?_, ⟨_, rfl⟩, hW, hsame.mono (by decide) (by decide)⟩
        · show Steps p.tables e below (T141.setTop (mkF m 134 #[.val (.long j0), .second, .val (.long j2), .second, .val (.long j4), .second, .val (.long j6), .second, .val (.int i8), .val (.int i9), .val (.int i10), .val (.long j11), .second, .val (.long j13), .second, .val (.ref b101), .val (.ref b111), .val (.int (((i8.toUInt32 >>> ((2 : Int32) &&& 31).toUInt32).toInt32) &&& (3 : Int32))), .val (.ref r136)] [(.int (1 : Int32))])) _
          exact retN X141 hx (t := .boolean) hret (by simp) (hb hby at_134) hr
        · exact ⟨(by rw [F0_54_0, if_neg hc121, if_pos hc133, if_pos hc143]), N141⟩
      · have pre146 : ∀ t, Steps p.tables e below (T141.setTop (mkF m 133 #[.val (.long j0), .second, .val (.long j2), .second, .val (.long j4), .second, .val (.long j6), .second, .val (.int i8), .val (.int i9), .val (.int i10), .val (.long j11), .second, .val (.long j13), .second, .val (.ref b101), .val (.ref b111), .val (.int (((i8.toUInt32 >>> ((2 : Int32) &&& 31).toUInt32).toInt32) &&& (3 : Int32))), .val (.ref r136)] [])) t → Steps p.tables e below (T0.setTop (mkF m 54 #[.val (.long j0), .second, .val (.long j2), .second, .val (.long j4), .second, .val (.long j6), .second, .val (.int i8), .val (.int i9), .val (.int i10), .val (.long j11), .second, .val (.long j13), .second, .unset, .unset, .unset, .unset] [])) t := by
          intro t k
          refine pre142 _ ?_
          show Steps p.tables e below (T141.setTop (mkF m 126 #[.val (.long j0), .second, .val (.long j2), .second, .val (.long j4), .second, .val (.long j6), .second, .val (.int i8), .val (.int i9), .val (.int i10), .val (.long j11), .second, .val (.long j13), .second, .val (.ref b101), .val (.ref b111), .val (.int (((i8.toUInt32 >>> ((2 : Int32) &&& 31).toUInt32).toInt32) &&& (3 : Int32))), .val (.ref r136)] [(.int (F3o))])) _
          refine XS.ifYes X141.here hx rfl (pc0 := 126) (pc' := 133) rfl (hb hby at_126) rfl ((if0 _ _).trans (feq hc143).2) (by decide) (by decide) ?_
          exact k
        have pre147 : ∀ t, Steps p.tables e below (T141.setTop (mkF m 134 #[.val (.long j0), .second, .val (.long j2), .second, .val (.long j4), .second, .val (.long j6), .second, .val (.int i8), .val (.int i9), .val (.int i10), .val (.long j11), .second, .val (.long j13), .second, .val (.ref b101), .val (.ref b111), .val (.int (((i8.toUInt32 >>> ((2 : Int32) &&& 31).toUInt32).toInt32) &&& (3 : Int32))), .val (.ref r136)] [(.int (0 : Int32))])) t → Steps p.tables e below (T0.setTop (mkF m 54 #[.val (.long j0), .second, .val (.long j2), .second, .val (.long j4), .second, .val (.long j6), .second, .val (.int i8), .val (.int i9), .val (.int i10), .val (.long j11), .second, .val (.long j13), .second, .unset, .unset, .unset, .unset] [])) t := by
          intro t k
          refine pre146 _ ?_
          show Steps p.tables e below (T141.setTop (mkF m 133 #[.val (.long j0), .second, .val (.long j2), .second, .val (.long j4), .second, .val (.long j6), .second, .val (.int i8), .val (.int i9), .val (.int i10), .val (.long j11), .second, .val (.long j13), .second, .val (.ref b101), .val (.ref b111), .val (.int (((i8.toUInt32 >>> ((2 : Int32) &&& 31).toUInt32).toInt32) &&& (3 : Int32))), .val (.ref r136)] [])) _
          refine XS.iconst X141.here hx rfl (hb hby at_133) ?_
          exact k
        obtain ⟨fs, hr, hrun, hended, hW, hsame⟩ := X141.leave (v := some (.int (0 : Int32))) (fun h => by rw [hret] at h; cases h)
        refine ⟨_, _, pre147 _ ?_, hrun, hended, _, _, rfl, ?_, ⟨_, rfl⟩, hW, hsame.mono (by decide) (by decide)⟩
        · show Steps p.tables e below (T141.setTop (mkF m 134 #[.val (.long j0), .second, .val (.long j2), .second, .val (.long j4), .second, .val (.long j6), .second, .val (.int i8), .val (.int i9), .val (.int i10), .val (.long j11), .second, .val (.long j13), .second, .val (.ref b101), .val (.ref b111), .val (.int (((i8.toUInt32 >>> ((2 : Int32) &&& 31).toUInt32).toInt32) &&& (3 : Int32))), .val (.ref r136)] [(.int (0 : Int32))])) _
          exact retN X141 hx (t := .boolean) hret (by simp) (hb hby at_134) hr
        · exact ⟨(by rw [F0_54_0, if_neg hc121, if_pos hc133, if_neg hc143]), N141⟩
    · have pre148 : ∀ t, Steps p.tables e below (T116.setTop (mkF m 135 #[.val (.long j0), .second, .val (.long j2), .second, .val (.long j4), .second, .val (.long j6), .second, .val (.int i8), .val (.int i9), .val (.int i10), .val (.long j11), .second, .val (.long j13), .second, .val (.ref b101), .val (.ref b111), .val (.int (((i8.toUInt32 >>> ((2 : Int32) &&& 31).toUInt32).toInt32) &&& (3 : Int32))), .unset] [])) t → Steps p.tables e below (T0.setTop (mkF m 54 #[.val (.long j0), .second, .val (.long j2), .second, .val (.long j4), .second, .val (.long j6), .second, .val (.int i8), .val (.int i9), .val (.int i10), .val (.long j11), .second, .val (.long j13), .second, .unset, .unset, .unset, .unset] [])) t := by
        intro t k
        refine pre132 _ ?_
        show Steps p.tables e below (T116.setTop (mkF m 110 #[.val (.long j0), .second, .val (.long j2), .second, .val (.long j4), .second, .val (.long j6), .second, .val (.int i8), .val (.int i9), .val (.int i10), .val (.long j11), .second, .val (.long j13), .second, .val (.ref b101), .val (.ref b111), .val (.int (((i8.toUInt32 >>> ((2 : Int32) &&& 31).toUInt32).toInt32) &&& (3 : Int32))), .unset] [(.int (2 : Int32)), (.int (((i8.toUInt32 >>> ((2 : Int32) &&& 31).toUInt32).toInt32) &&& (3 : Int32)))])) _
        refine XS.icmpYes X116.here hx rfl (pc0 := 110) (pc' := 135) rfl (hb hby at_110) rfl (feq hc133).2 (by decide) (by decide) ?_
        exact k
      have pre149 : ∀ t, Steps p.tables e below (T116.setTop (mkF m 138 #[.val (.long j0), .second, .val (.long j2), .second, .val (.long j4), .second, .val (.long j6), .second, .val (.int i8), .val (.int i9), .val (.int i10), .val (.long j11), .second, .val (.long j13), .second, .val (.ref b101), .val (.ref b111), .val (.int (((i8.toUInt32 >>> ((2 : Int32) &&& 31).toUInt32).toInt32) &&& (3 : Int32))), .unset] [(.int (3 : Int32)), (.int (((i8.toUInt32 >>> ((2 : Int32) &&& 31).toUInt32).toInt32) &&& (3 : Int32)))])) t → Steps p.tables e below (T0.setTop (mkF m 54 #[.val (.long j0), .second, .val (.long j2), .second, .val (.long j4), .second, .val (.long j6), .second, .val (.int i8), .val (.int i9), .val (.int i10), .val (.long j11), .second, .val (.long j13), .second, .unset, .unset, .unset, .unset] [])) t := by
        intro t k
        refine pre148 _ ?_
        show Steps p.tables e below (T116.setTop (mkF m 135 #[.val (.long j0), .second, .val (.long j2), .second, .val (.long j4), .second, .val (.long j6), .second, .val (.int i8), .val (.int i9), .val (.int i10), .val (.long j11), .second, .val (.long j13), .second, .val (.ref b101), .val (.ref b111), .val (.int (((i8.toUInt32 >>> ((2 : Int32) &&& 31).toUInt32).toInt32) &&& (3 : Int32))), .unset] [])) _
        refine XS.iload X116.here hx rfl (hb hby at_135) rfl ?_
        show Steps p.tables e below (T116.setTop (mkF m 137 #[.val (.long j0), .second, .val (.long j2), .second, .val (.long j4), .second, .val (.long j6), .second, .val (.int i8), .val (.int i9), .val (.int i10), .val (.long j11), .second, .val (.long j13), .second, .val (.ref b101), .val (.ref b111), .val (.int (((i8.toUInt32 >>> ((2 : Int32) &&& 31).toUInt32).toInt32) &&& (3 : Int32))), .unset] [(.int (((i8.toUInt32 >>> ((2 : Int32) &&& 31).toUInt32).toInt32) &&& (3 : Int32)))])) _
        refine XS.iconst X116.here hx rfl (hb hby at_137) ?_
        exact k
      by_cases hc150 : (((i8.toUInt32 >>> ((2 : Int32) &&& 31).toUInt32).toInt32) &&& (3 : Int32)) = (3 : Int32)
      · have pre151 : ∀ t, Steps p.tables e below (T116.setTop (mkF m 141 #[.val (.long j0), .second, .val (.long j2), .second, .val (.long j4), .second, .val (.long j6), .second, .val (.int i8), .val (.int i9), .val (.int i10), .val (.long j11), .second, .val (.long j13), .second, .val (.ref b101), .val (.ref b111), .val (.int (((i8.toUInt32 >>> ((2 : Int32) &&& 31).toUInt32).toInt32) &&& (3 : Int32))), .unset] [])) t → Steps p.tables e below (T0.setTop (mkF m 54 #[.val (.long j0), .second, .val (.long j2), .second, .val (.long j4), .second, .val (.long j6), .second, .val (.int i8), .val (.int i9), .val (.int i10), .val (.long j11), .second, .val (.long j13), .second, .unset, .unset, .unset, .unset] [])) t := by
          intro t k
          refine pre149 _ ?_
          show Steps p.tables e below (T116.setTop (mkF m 138 #[.val (.long j0), .second, .val (.long j2), .second, .val (.long j4), .second, .val (.long j6), .second, .val (.int i8), .val (.int i9), .val (.int i10), .val (.long j11), .second, .val (.long j13), .second, .val (.ref b101), .val (.ref b111), .val (.int (((i8.toUInt32 >>> ((2 : Int32) &&& 31).toUInt32).toInt32) &&& (3 : Int32))), .unset] [(.int (3 : Int32)), (.int (((i8.toUInt32 >>> ((2 : Int32) &&& 31).toUInt32).toInt32) &&& (3 : Int32)))])) _
          refine XS.icmpNo X116.here hx rfl (hb hby at_138) rfl (teq hc150).2 ?_
          exact k
        have pre152 : ∀ t, Steps p.tables e below (T116.setTop (mkF m 145 #[.val (.long j0), .second, .val (.long j2), .second, .val (.long j4), .second, .val (.long j6), .second, .val (.int i8), .val (.int i9), .val (.int i10), .val (.long j11), .second, .val (.long j13), .second, .val (.ref b101), .val (.ref b111), .val (.int (((i8.toUInt32 >>> ((2 : Int32) &&& 31).toUInt32).toInt32) &&& (3 : Int32))), .unset] [(.ref b101), (.ref b101)])) t → Steps p.tables e below (T0.setTop (mkF m 54 #[.val (.long j0), .second, .val (.long j2), .second, .val (.long j4), .second, .val (.long j6), .second, .val (.int i8), .val (.int i9), .val (.int i10), .val (.long j11), .second, .val (.long j13), .second, .unset, .unset, .unset, .unset] [])) t := by
          intro t k
          refine pre151 _ ?_
          show Steps p.tables e below (T116.setTop (mkF m 141 #[.val (.long j0), .second, .val (.long j2), .second, .val (.long j4), .second, .val (.long j6), .second, .val (.int i8), .val (.int i9), .val (.int i10), .val (.long j11), .second, .val (.long j13), .second, .val (.ref b101), .val (.ref b111), .val (.int (((i8.toUInt32 >>> ((2 : Int32) &&& 31).toUInt32).toInt32) &&& (3 : Int32))), .unset] [])) _
          refine XS.aload X116.here hx rfl (hb hby at_141) rfl rfl ?_
          show Steps p.tables e below (T116.setTop (mkF m 143 #[.val (.long j0), .second, .val (.long j2), .second, .val (.long j4), .second, .val (.long j6), .second, .val (.int i8), .val (.int i9), .val (.int i10), .val (.long j11), .second, .val (.long j13), .second, .val (.ref b101), .val (.ref b111), .val (.int (((i8.toUInt32 >>> ((2 : Int32) &&& 31).toUInt32).toInt32) &&& (3 : Int32))), .unset] [(.ref b101)])) _
          refine XS.aload X116.here hx rfl (hb hby at_143) rfl rfl ?_
          exact k
        obtain ⟨cq153, kq153, q153a, q153b, q153c⟩ := isOf hZ rfl ((E106.ext E111).keep K116)
        obtain ⟨_, _, ⟨T153, L153, k153, n153⟩, -, X153, ⟨Lc153, hQ153, l153, y153, z153⟩, st153⟩ := X116.virtualBack hx (y := (⟨"com/example/coracle/coracle/ServiceID", "equals", "(Ljava/lang/Object;)Z"⟩ : MethodName)) (z := (⟨"com/example/coracle/coracle/ServiceID", "equals", "(Ljava/lang/Object;)Z"⟩ : MethodName)) hown (mvT hZ (hw _ (List.mem_of_getElem? (i := 13) rfl))) (mvT hZ (hw _ (List.mem_of_getElem? (i := 14) rfl))) (notFace_of_selects (args := #[]) (mvT hZ (hw _ (List.mem_of_getElem? (i := 16) rfl)))) (mvT hZ (hw _ (List.mem_of_getElem? (i := 16) rfl))) (mvT hZ (hw _ (List.mem_of_getElem? (i := 15) rfl))) (by decide) (backOf (W := 0) (rm3s l Z a0 hw [] b101 b101 j0 j0 j2 j2 T116.heap n0 Z118 ((E106.ext E111).keep K116) ((F106a.ext E111).keep K116 (ninS ne_b101_b111 nin0)) ((F106a.ext E111).keep K116 (ninS ne_b101_b111 nin0)) ((F106b.ext E111).keep K116 (ninS ne_b101_b111 nin0)) ((F106b.ext E111).keep K116 (ninS ne_b101_b111 nin0))) hZ (hw _ (List.mem_of_getElem? (i := 17) rfl)) (hw _ (List.mem_of_getElem? (i := 2) rfl)) (by decide) (by decide)) q153a q153c (g := (mkF m 145 #[.val (.long j0), .second, .val (.long j2), .second, .val (.long j4), .second, .val (.long j6), .second, .val (.int i8), .val (.int i9), .val (.int i10), .val (.long j11), .second, .val (.long j13), .second, .val (.ref b101), .val (.ref b111), .val (.int (((i8.toUInt32 >>> ((2 : Int32) &&& 31).toUInt32).toInt32) &&& (3 : Int32))), .unset] [(.ref b101), (.ref b101)])) rfl (by rw [hml]; rfl) (Steps.refl _) (argsL := [(.ref b101)]) (rest := []) (lenOf pd__Ljava_lang_Object__Z rfl) rfl (by show 2 * 0 + _ ≤ _; exact Nat.le_of_eq rfl) (hb hby at_145) (fun _ _ => ⟨rfl, rfl, (by decide : 2 + 0 ≤ _), (by decide : 4 + 0 ≤ _)⟩)
        dsimp only [Pt.U, Pt.locs, Pt.cells, Pt.slots] at X153 l153 y153 z153 st153 hQ153
        subst l153 y153 z153
        obtain ⟨rfl, N153q, e153⟩ := hQ153
        have N153 := Fr.app N116 N153q
        have pre154 : ∀ t, Steps p.tables e below (T153.setTop (mkF m 148 #[.val (.long j0), .second, .val (.long j2), .second, .val (.long j4), .second, .val (.long j6), .second, .val (.int i8), .val (.int i9), .val (.int i10), .val (.long j11), .second, .val (.long j13), .second, .val (.ref b101), .val (.ref b111), .val (.int (((i8.toUInt32 >>> ((2 : Int32) &&& 31).toUInt32).toInt32) &&& (3 : Int32))), .unset] [(.int (F3s j0 j0 j2 j2))])) t → Steps p.tables e below (T0.setTop (mkF m 54 #[.val (.long j0), .second, .val (.long j2), .second, .val (.long j4), .second, .val (.long j6), .second, .val (.int i8), .val (.int i9), .val (.int i10), .val (.long j11), .second, .val (.long j13), .second, .unset, .unset, .unset, .unset] [])) t := by
          intro t k
          refine pre152 _ ?_
          show Steps p.tables e below (T116.setTop (mkF m 145 #[.val (.long j0), .second, .val (.long j2), .second, .val (.long j4), .second, .val (.long j6), .second, .val (.int i8), .val (.int i9), .val (.int i10), .val (.long j11), .second, .val (.long j13), .second, .val (.ref b101), .val (.ref b111), .val (.int (((i8.toUInt32 >>> ((2 : Int32) &&& 31).toUInt32).toInt32) &&& (3 : Int32))), .unset] [(.ref b101), (.ref b101)])) _
          refine st153.trans ?_
          exact k
        obtain ⟨fs, hr, hrun, hended, hW, hsame⟩ := X153.leave (v := some (.int (nar .boolean (F3s j0 j0 j2 j2)))) (fun h => by rw [hret] at h; cases h)
        refine ⟨_, _, pre154 _ ?_, hrun, hended, _, _, rfl, ?_, ⟨_, rfl⟩, hW, hsame.mono (by decide) (by decide)⟩
        · show Steps p.tables e below (T153.setTop (mkF m 148 #[.val (.long j0), .second, .val (.long j2), .second, .val (.long j4), .second, .val (.long j6), .second, .val (.int i8), .val (.int i9), .val (.int i10), .val (.long j11), .second, .val (.long j13), .second, .val (.ref b101), .val (.ref b111), .val (.int (((i8.toUInt32 >>> ((2 : Int32) &&& 31).toUInt32).toInt32) &&& (3 : Int32))), .unset] [(.int (F3s j0 j0 j2 j2))])) _
          exact retN X153 hx (t := .boolean) hret (by simp) (hb hby at_148) hr
        · exact ⟨(by rw [F0_54_0, if_neg hc121, if_neg hc133, if_pos hc150]), N153⟩
      · have pre155 : ∀ t, Steps p.tables e below (T116.setTop (mkF m 149 #[.val (.long j0), .second, .val (.long j2), .second, .val (.long j4), .second, .val (.long j6), .second, .val (.int i8), .val (.int i9), .val (.int i10), .val (.long j11), .second, .val (.long j13), .second, .val (.ref b101), .val (.ref b111), .val (.int (((i8.toUInt32 >>> ((2 : Int32) &&& 31).toUInt32).toInt32) &&& (3 : Int32))), .unset] [])) t → Steps p.tables e below (T0.setTop (mkF m 54 #[.val (.long j0), .second, .val (.long j2), .second, .val (.long j4), .second, .val (.long j6), .second, .val (.int i8), .val (.int i9), .val (.int i10), .val (.long j11), .second, .val (.long j13), .second, .unset, .unset, .unset, .unset] [])) t := by
          intro t k
          refine pre149 _ ?_
          show Steps p.tables e below (T116.setTop (mkF m 138 #[.val (.long j0), .second, .val (.long j2), .second, .val (.long j4), .second, .val (.long j6), .second, .val (.int i8), .val (.int i9), .val (.int i10), .val (.long j11), .second, .val (.long j13), .second, .val (.ref b101), .val (.ref b111), .val (.int (((i8.toUInt32 >>> ((2 : Int32) &&& 31).toUInt32).toInt32) &&& (3 : Int32))), .unset] [(.int (3 : Int32)), (.int (((i8.toUInt32 >>> ((2 : Int32) &&& 31).toUInt32).toInt32) &&& (3 : Int32)))])) _
          refine XS.icmpYes X116.here hx rfl (pc0 := 138) (pc' := 149) rfl (hb hby at_138) rfl (feq hc150).2 (by decide) (by decide) ?_
          exact k
        have pre156 : ∀ t, Steps p.tables e below (T116.setTop (mkF m 153 #[.val (.long j0), .second, .val (.long j2), .second, .val (.long j4), .second, .val (.long j6), .second, .val (.int i8), .val (.int i9), .val (.int i10), .val (.long j11), .second, .val (.long j13), .second, .val (.ref b101), .val (.ref b111), .val (.int (((i8.toUInt32 >>> ((2 : Int32) &&& 31).toUInt32).toInt32) &&& (3 : Int32))), .unset] [(.int (lcmpW j11 j0))])) t → Steps p.tables e below (T0.setTop (mkF m 54 #[.val (.long j0), .second, .val (.long j2), .second, .val (.long j4), .second, .val (.long j6), .second, .val (.int i8), .val (.int i9), .val (.int i10), .val (.long j11), .second, .val (.long j13), .second, .unset, .unset, .unset, .unset] [])) t := by
          intro t k
          refine pre155 _ ?_
          show Steps p.tables e below (T116.setTop (mkF m 149 #[.val (.long j0), .second, .val (.long j2), .second, .val (.long j4), .second, .val (.long j6), .second, .val (.int i8), .val (.int i9), .val (.int i10), .val (.long j11), .second, .val (.long j13), .second, .val (.ref b101), .val (.ref b111), .val (.int (((i8.toUInt32 >>> ((2 : Int32) &&& 31).toUInt32).toInt32) &&& (3 : Int32))), .unset] [])) _
          refine XS.lload X116.here hx rfl (hb hby at_149) rfl ?_
          show Steps p.tables e below (T116.setTop (mkF m 151 #[.val (.long j0), .second, .val (.long j2), .second, .val (.long j4), .second, .val (.long j6), .second, .val (.int i8), .val (.int i9), .val (.int i10), .val (.long j11), .second, .val (.long j13), .second, .val (.ref b101), .val (.ref b111), .val (.int (((i8.toUInt32 >>> ((2 : Int32) &&& 31).toUInt32).toInt32) &&& (3 : Int32))), .unset] [(.long j11)])) _
          refine XS.lloadN X116.here hx rfl (hb hby at_151) rfl ?_
          show Steps p.tables e below (T116.setTop (mkF m 152 #[.val (.long j0), .second, .val (.long j2), .second, .val (.long j4), .second, .val (.long j6), .second, .val (.int i8), .val (.int i9), .val (.int i10), .val (.long j11), .second, .val (.long j13), .second, .val (.ref b101), .val (.ref b111), .val (.int (((i8.toUInt32 >>> ((2 : Int32) &&& 31).toUInt32).toInt32) &&& (3 : Int32))), .unset] [(.long j0), (.long j11)])) _
          refine XS.lcmp X116.here hx rfl (hb hby at_152) rfl ?_
          exact k
        by_cases hc157 : (lcmpW j11 j0) = (0 : Int32)
        · have pre158 : ∀ t, Steps p.tables e below (T116.setTop (mkF m 156 #[.val (.long j0), .second, .val (.long j2), .second, .val (.long j4), .second, .val (.long j6), .second, .val (.int i8), .val (.int i9), .val (.int i10), .val (.long j11), .second, .val (.long j13), .second, .val (.ref b101), .val (.ref b111), .val (.int (((i8.toUInt32 >>> ((2 : Int32) &&& 31).toUInt32).toInt32) &&& (3 : Int32))), .unset] [])) t → Steps p.tables e below (T0.setTop (mkF m 54 #[.val (.long j0), .second, .val (.long j2), .second, .val (.long j4), .second, .val (.long j6), .second, .val (.int i8), .val (.int i9), .val (.int i10), .val (.long j11), .second, .val (.long j13), .second, .unset, .unset, .unset, .unset] [])) t := by
            intro t k
            refine pre156 _ ?_
            show Steps p.tables e below (T116.setTop (mkF m 153 #[.val (.long j0), .second, .val (.long j2), .second, .val (.long j4), .second, .val (.long j6), .second, .val (.int i8), .val (.int i9), .val (.int i10), .val (.long j11), .second, .val (.long j13), .second, .val (.ref b101), .val (.ref b111), .val (.int (((i8.toUInt32 >>> ((2 : Int32) &&& 31).toUInt32).toInt32) &&& (3 : Int32))), .unset] [(.int (lcmpW j11 j0))])) _
            refine XS.ifNo X116.here hx rfl (hb hby at_153) rfl ((if0 _ _).trans (teq hc157).2) ?_
            exact k
          have pre159 : ∀ t, Steps p.tables e below (T116.setTop (mkF m 160 #[.val (.long j0), .second, .val (.long j2), .second, .val (.long j4), .second, .val (.long j6), .second, .val (.int i8), .val (.int i9), .val (.int i10), .val (.long j11), .second, .val (.long j13), .second, .val (.ref b101), .val (.ref b111), .val (.int (((i8.toUInt32 >>> ((2 : Int32) &&& 31).toUInt32).toInt32) &&& (3 : Int32))), .unset] [(.int (lcmpW j13 j2))])) t → Steps p.tables e below (T0.setTop (mkF m 54 #[.val (.long j0), .second, .val (.long j2), .second, .val (.long j4), .second, .val (.long j6), .second, .val (.int i8), .val (.int i9), .val (.int i10), .val (.long j11), .second, .val (.long j13), .second, .unset, .unset, .unset, .unset] [])) t := by
            intro t k
            refine pre158 _ ?_
            show Steps p.tables e below (T116.setTop (mkF m 156 #[.val (.long j0), .second, .val (.long j2), .second, .val (.long j4), .second, .val (.long j6), .second, .val (.int i8), .val (.int i9), .val (.int i10), .val (.long j11), .second, .val (.long j13), .second, .val (.ref b101), .val (.ref b111), .val (.int (((i8.toUInt32 >>> ((2 : Int32) &&& 31).toUInt32).toInt32) &&& (3 : Int32))), .unset] [])) _
            refine XS.lload X116.here hx rfl (hb hby at_156) rfl ?_
            show Steps p.tables e below (T116.setTop (mkF m 158 #[.val (.long j0), .second, .val (.long j2), .second, .val (.long j4), .second, .val (.long j6), .second, .val (.int i8), .val (.int i9), .val (.int i10), .val (.long j11), .second, .val (.long j13), .second, .val (.ref b101), .val (.ref b111), .val (.int (((i8.toUInt32 >>> ((2 : Int32) &&& 31).toUInt32).toInt32) &&& (3 : Int32))), .unset] [(.long j13)])) _
            refine XS.lloadN X116.here hx rfl (hb hby at_158) rfl ?_
            show Steps p.tables e below (T116.setTop (mkF m 159 #[.val (.long j0), .second, .val (.long j2), .second, .val (.long j4), .second, .val (.long j6), .second, .val (.int i8), .val (.int i9), .val (.int i10), .val (.long j11), .second, .val (.long j13), .second, .val (.ref b101), .val (.ref b111), .val (.int (((i8.toUInt32 >>> ((2 : Int32) &&& 31).toUInt32).toInt32) &&& (3 : Int32))), .unset] [(.long j2), (.long j13)])) _
            refine XS.lcmp X116.here hx rfl (hb hby at_159) rfl ?_
            exact k
          by_cases hc160 : (lcmpW j13 j2) = (0 : Int32)
          · have pre161 : ∀ t, Steps p.tables e below (T116.setTop (mkF m 163 #[.val (.long j0), .second, .val (.long j2), .second, .val (.long j4), .second, .val (.long j6), .second, .val (.int i8), .val (.int i9), .val (.int i10), .val (.long j11), .second, .val (.long j13), .second, .val (.ref b101), .val (.ref b111), .val (.int (((i8.toUInt32 >>> ((2 : Int32) &&& 31).toUInt32).toInt32) &&& (3 : Int32))), .unset] [])) t → Steps p.tables e below (T0.setTop (mkF m 54 #[.val (.long j0), .second, .val (.long j2), .second, .val (.long j4), .second, .val (.long j6), .second, .val (.int i8), .val (.int i9), .val (.int i10), .val (.long j11), .second, .val (.long j13), .second, .unset, .unset, .unset, .unset] [])) t := by
              intro t k
              refine pre159 _ ?_
              show Steps p.tables e below (T116.setTop (mkF m 160 #[.val (.long j0), .second, .val (.long j2), .second, .val (.long j4), .second, .val (.long j6), .second, .val (.int i8), .val (.int i9), .val (.int i10), .val (.long j11), .second, .val (.long j13), .second, .val (.ref b101), .val (.ref b111), .val (.int (((i8.toUInt32 >>> ((2 : Int32) &&& 31).toUInt32).toInt32) &&& (3 : Int32))), .unset] [(.int (lcmpW j13 j2))])) _
              refine XS.ifNo X116.here hx rfl (hb hby at_160) rfl ((if0 _ _).trans (teq hc160).2) ?_
              exact k
            have pre162 : ∀ t, Steps p.tables e below (T116.setTop (mkF m 174 #[.val (.long j0), .second, .val (.long j2), .second, .val (.long j4), .second, .val (.long j6), .second, .val (.int i8), .val (.int i9), .val (.int i10), .val (.long j11), .second, .val (.long j13), .second, .val (.ref b101), .val (.ref b111), .val (.int (((i8.toUInt32 >>> ((2 : Int32) &&& 31).toUInt32).toInt32) &&& (3 : Int32))), .val (.int (1 : Int32))] [(.ref b111), (.ref b101)])) t → Steps p.tables e below (T0.setTop (mkF m 54 #[.val (.long j0), .second, .val (.long j2), .second, .val (.long j4), .second, .val (.long j6), .second, .val (.int i8), .val (.int i9), .val (.int i10), .val (.long j11), .second, .val (.long j13), .second, .unset, .unset, .unset, .unset] [])) t := by
              intro t k
              refine pre161 _ ?_
              show Steps p.tables e below (T116.setTop (mkF m 163 #[.val (.long j0), .second, .val (.long j2), .second, .val (.long j4), .second, .val (.long j6), .second, .val (.int i8), .val (.int i9), .val (.int i10), .val (.long j11), .second, .val (.long j13), .second, .val (.ref b101), .val (.ref b111), .val (.int (((i8.toUInt32 >>> ((2 : Int32) &&& 31).toUInt32).toInt32) &&& (3 : Int32))), .unset] [])) _
              refine XS.iconst X116.here hx rfl (hb hby at_163) ?_
              show Steps p.tables e below (T116.setTop (mkF m 164 #[.val (.long j0), .second, .val (.long j2), .second, .val (.long j4), .second, .val (.long j6), .second, .val (.int i8), .val (.int i9), .val (.int i10), .val (.long j11), .second, .val (.long j13), .second, .val (.ref b101), .val (.ref b111), .val (.int (((i8.toUInt32 >>> ((2 : Int32) &&& 31).toUInt32).toInt32) &&& (3 : Int32))), .unset] [(.int (1 : Int32))])) _
              refine XS.goto X116.here hx rfl (pc0 := 164) (pc' := 168) rfl (hb hby at_164) (by decide) (by decide) ?_
              show Steps p.tables e below (T116.setTop (mkF m 168 #[.val (.long j0), .second, .val (.long j2), .second, .val (.long j4), .second, .val (.long j6), .second, .val (.int i8), .val (.int i9), .val (.int i10), .val (.long j11), .second, .val (.long j13), .second, .val (.ref b101), .val (.ref b111), .val (.int (((i8.toUInt32 >>> ((2 : Int32) &&& 31).toUInt32).toInt32) &&& (3 : Int32))), .unset] [(.int (1 : Int32))])) _
              refine XS.istore X116.here hx rfl (hb hby at_168) rfl (l' := #[.val (.long j0), .second, .val (.long j2), .second, .val (.long j4), .second, .val (.long j6), .second, .val (.int i8), .val (.int i9), .val (.int i10), .val (.long j11), .second, .val (.long j13), .second, .val (.ref b101), .val (.ref b111), .val (.int (((i8.toUInt32 >>> ((2 : Int32) &&& 31).toUInt32).toInt32) &&& (3 : Int32))), .val (.int (1 : Int32))]) rfl ?_
              show Steps p.tables e below (T116.setTop (mkF m 170 #[.val (.long j0), .second, .val (.long j2), .second, .val (.long j4), .second, .val (.long j6), .second, .val (.int i8), .val (.int i9), .val (.int i10), .val (.long j11), .second, .val (.long j13), .second, .val (.ref b101), .val (.ref b111), .val (.int (((i8.toUInt32 >>> ((2 : Int32) &&& 31).toUInt32).toInt32) &&& (3 : Int32))), .val (.int (1 : Int32))] [])) _
              refine XS.aload X116.here hx rfl (hb hby at_170) rfl rfl ?_
              show Steps p.tables e below (T116.setTop (mkF m 172 #[.val (.long j0), .second, .val (.long j2), .second, .val (.long j4), .second, .val (.long j6), .second, .val (.int i8), .val (.int i9), .val (.int i10), .val (.long j11), .second, .val (.long j13), .second, .val (.ref b101), .val (.ref b111), .val (.int (((i8.toUInt32 >>> ((2 : Int32) &&& 31).toUInt32).toInt32) &&& (3 : Int32))), .val (.int (1 : Int32))] [(.ref b101)])) _
              refine XS.aload X116.here hx rfl (hb hby at_172) rfl rfl ?_
              exact k
            obtain ⟨cq163, kq163, q163a, q163b, q163c⟩ := isOf hZ rfl ((E106.ext E111).keep K116)
            obtain ⟨_, _, ⟨T163, L163, k163, n163⟩, -, X163, ⟨Lc163, hQ163, l163, y163, z163⟩, st163⟩ := X116.virtualBack hx (y := (⟨"com/example/coracle/coracle/ServiceID", "equals", "(Ljava/lang/Object;)Z"⟩ : MethodName)) (z := (⟨"com/example/coracle/coracle/ServiceID", "equals", "(Ljava/lang/Object;)Z"⟩ : MethodName)) hown (mvT hZ (hw _ (List.mem_of_getElem? (i := 13) rfl))) (mvT hZ (hw _ (List.mem_of_getElem? (i := 14) rfl))) (notFace_of_selects (args := #[]) (mvT hZ (hw _ (List.mem_of_getElem? (i := 16) rfl)))) (mvT hZ (hw _ (List.mem_of_getElem? (i := 16) rfl))) (mvT hZ (hw _ (List.mem_of_getElem? (i := 15) rfl))) (by decide) (backOf (W := 0) (rm3s l Z a0 hw [] b101 b111 j11 j0 j13 j2 T116.heap n0 Z118 E116 F116a ((F106a.ext E111).keep K116 (ninS ne_b101_b111 nin0)) F116b ((F106b.ext E111).keep K116 (ninS ne_b101_b111 nin0))) hZ (hw _ (List.mem_of_getElem? (i := 17) rfl)) (hw _ (List.mem_of_getElem? (i := 2) rfl)) (by decide) (by decide)) q163a q163c (g := (mkF m 174 #[.val (.long j0), .second, .val (.long j2), .second, .val (.long j4), .second, .val (.long j6), .second, .val (.int i8), .val (.int i9), .val (.int i10), .val (.long j11), .second, .val (.long j13), .second, .val (.ref b101), .val (.ref b111), .val (.int (((i8.toUInt32 >>> ((2 : Int32) &&& 31).toUInt32).toInt32) &&& (3 : Int32))), .val (.int (1 : Int32))] [(.ref b111), (.ref b101)])) rfl (by rw [hml]; rfl) (Steps.refl _) (argsL := [(.ref b111)]) (rest := []) (lenOf pd__Ljava_lang_Object__Z rfl) rfl (by show 2 * 0 + _ ≤ _; exact Nat.le_of_eq rfl) (hb hby at_174) (fun _ _ => ⟨rfl, rfl, (by decide : 2 + 0 ≤ _), (by decide : 4 + 0 ≤ _)⟩)
            dsimp only [Pt.U, Pt.locs, Pt.cells, Pt.slots] at X163 l163 y163 z163 st163 hQ163
            subst l163 y163 z163
            obtain ⟨rfl, N163q, e163⟩ := hQ163
            have N163 := Fr.app N116 N163q
            have pre164 : ∀ t, Steps p.tables e below (T163.setTop (mkF m 177 #[.val (.long j0), .second, .val (.long j2), .second, .val (.long j4), .second, .val (.long j6), .second, .val (.int i8), .val (.int i9), .val (.int i10), .val (.long j11), .second, .val (.long j13), .second, .val (.ref b101), .val (.ref b111), .val (.int (((i8.toUInt32 >>> ((2 : Int32) &&& 31).toUInt32).toInt32) &&& (3 : Int32))), .val (.int (1 : Int32))] [(.int (F3s j11 j0 j13 j2))])) t → Steps p.tables e below (T0.setTop (mkF m 54 #[.val (.long j0), .second, .val (.long j2), .second, .val (.long j4), .second, .val (.long j6), .second, .val (.int i8), .val (.int i9), .val (.int i10), .val (.long j11), .second, .val (.long j13), .second, .unset, .unset, .unset, .unset] [])) t := by
              intro t k
              refine pre162 _ ?_
              show Steps p.tables e below (T116.setTop (mkF m 174 #[.val (.long j0), .second, .val (.long j2), .second, .val (.long j4), .second, .val (.long j6), .second, .val (.int i8), .val (.int i9), .val (.int i10), .val (.long j11), .second, .val (.long j13), .second, .val (.ref b101), .val (.ref b111), .val (.int (((i8.toUInt32 >>> ((2 : Int32) &&& 31).toUInt32).toInt32) &&& (3 : Int32))), .val (.int (1 : Int32))] [(.ref b111), (.ref b101)])) _
              refine st163.trans ?_
              exact k
            have pre165 : ∀ t, Steps p.tables e below (T163.setTop (mkF m 179 #[.val (.long j0), .second, .val (.long j2), .second, .val (.long j4), .second, .val (.long j6), .second, .val (.int i8), .val (.int i9), .val (.int i10), .val (.long j11), .second, .val (.long j13), .second, .val (.ref b101), .val (.ref b111), .val (.int (((i8.toUInt32 >>> ((2 : Int32) &&& 31).toUInt32).toInt32) &&& (3 : Int32))), .val (.int (1 : Int32))] [(.int (1 : Int32)), (.int (F3s j11 j0 j13 j2))])) t → Steps p.tables e below (T0.setTop (mkF m 54 #[.val (.long j0), .second, .val (.long j2), .second, .val (.long j4), .second, .val (.long j6), .second, .val (.int i8), .val (.int i9), .val (.int i10), .val (.long j11), .second, .val (.long j13), .second, .unset, .unset, .unset, .unset] [])) t := by
              intro t k
              refine pre164 _ ?_
              show Steps p.tables e below (T163.setTop (mkF m 177 #[.val (.long j0), .second, .val (.long j2), .second, .val (.long j4), .second, .val (.long j6), .second, .val (.int i8), .val (.int i9), .val (.int i10), .val (.long j11), .second, .val (.long j13), .second, .val (.ref b101), .val (.ref b111), .val (.int (((i8.toUInt32 >>> ((2 : Int32) &&& 31).toUInt32).toInt32) &&& (3 : Int32))), .val (.int (1 : Int32))] [(.int (F3s j11 j0 j13 j2))])) _
              refine XS.iload X163.here hx rfl (hb hby at_177) rfl ?_
              exact k
            by_cases hc166 : (F3s j11 j0 j13 j2) = (1 : Int32)
            · have pre167 : ∀ t, Steps p.tables e below (T163.setTop (mkF m 182 #[.val (.long j0), .second, .val (.long j2), .second, .val (.long j4), .second, .val (.long j6), .second, .val (.int i8), .val (.int i9), .val (.int i10), .val (.long j11), .second, .val (.long j13), .second, .val (.ref b101), .val (.ref b111), .val (.int (((i8.toUInt32 >>> ((2 : Int32) &&& 31).toUInt32).toInt32) &&& (3 : Int32))), .val (.int (1 : Int32))] [])) t → Steps p.tables e below (T0.setTop (mkF m 54 #[.val (.long j0), .second, .val (.long j2), .second, .val (.long j4), .second, .val (.long j6), .second, .val (.int i8), .val (.int i9), .val (.int i10), .val (.long j11), .second, .val (.long j13), .second, .unset, .unset, .unset, .unset] [])) t := by
                intro t k
                refine pre165 _ ?_
                show Steps p.tables e below (T163.setTop (mkF m 179 #[.val (.long j0), .second, .val (.long j2), .second, .val (.long j4), .second, .val (.long j6), .second, .val (.int i8), .val (.int i9), .val (.int i10), .val (.long j11), .second, .val (.long j13), .second, .val (.ref b101), .val (.ref b111), .val (.int (((i8.toUInt32 >>> ((2 : Int32) &&& 31).toUInt32).toInt32) &&& (3 : Int32))), .val (.int (1 : Int32))] [(.int (1 : Int32)), (.int (F3s j11 j0 j13 j2))])) _
                refine XS.icmpNo X163.here hx rfl (hb hby at_179) rfl (teq hc166).2 ?_
                exact k
              have pre168 : ∀ t, Steps p.tables e below (T163.setTop (mkF m 186 #[.val (.long j0), .second, .val (.long j2), .second, .val (.long j4), .second, .val (.long j6), .second, .val (.int i8), .val (.int i9), .val (.int i10), .val (.long j11), .second, .val (.long j13), .second, .val (.ref b101), .val (.ref b111), .val (.int (((i8.toUInt32 >>> ((2 : Int32) &&& 31).toUInt32).toInt32) &&& (3 : Int32))), .val (.int (1 : Int32))] [(.ref b101), (.ref b111)])) t → Steps p.tables e below (T0.setTop (mkF m 54 #[.val (.long j0), .second, .val (.long j2), .second, .val (.long j4), .second, .val (.long j6), .second, .val (.int i8), .val (.int i9), .val (.int i10), .val (.long j11), .second, .val (.long j13), .second, .unset, .unset, .unset, .unset] [])) t := by
                intro t k
                refine pre167 _ ?_
                show Steps p.tables e below (T163.setTop (mkF m 182 #[.val (.long j0), .second, .val (.long j2), .second, .val (.long j4), .second, .val (.long j6), .second, .val (.int i8), .val (.int i9), .val (.int i10), .val (.long j11), .second, .val (.long j13), .second, .val (.ref b101), .val (.ref b111), .val (.int (((i8.toUInt32 >>> ((2 : Int32) &&& 31).toUInt32).toInt32) &&& (3 : Int32))), .val (.int (1 : Int32))] [])) _
                refine XS.aload X163.here hx rfl (hb hby at_182) rfl rfl ?_
                show Steps p.tables e below (T163.setTop (mkF m 184 #[.val (.long j0), .second, .val (.long j2), .second, .val (.long j4), .second, .val (.long j6), .second, .val (.int i8), .val (.int i9), .val (.int i10), .val (.long j11), .second, .val (.long j13), .second, .val (.ref b101), .val (.ref b111), .val (.int (((i8.toUInt32 >>> ((2 : Int32) &&& 31).toUInt32).toInt32) &&& (3 : Int32))), .val (.int (1 : Int32))] [(.ref b111)])) _
                refine XS.aload X163.here hx rfl (hb hby at_184) rfl rfl ?_
                exact k
              obtain ⟨cq169, kq169, q169a, q169b, q169c⟩ := isOf hZ e163 E116
              obtain ⟨_, _, ⟨T169, L169, k169, n169⟩, -, X169, ⟨Lc169, hQ169, l169, y169, z169⟩, st169⟩ := X163.virtualBack hx (y := (⟨"com/example/coracle/coracle/ServiceID", "equals", "(Ljava/lang/Object;)Z"⟩ : MethodName)) (z := (⟨"com/example/coracle/coracle/ServiceID", "equals", "(Ljava/lang/Object;)Z"⟩ : MethodName)) hown (mvT hZ (hw _ (List.mem_of_getElem? (i := 13) rfl))) (mvT hZ (hw _ (List.mem_of_getElem? (i := 14) rfl))) (notFace_of_selects (args := #[]) (mvT hZ (hw _ (List.mem_of_getElem? (i := 16) rfl)))) (mvT hZ (hw _ (List.mem_of_getElem? (i := 16) rfl))) (mvT hZ (hw _ (List.mem_of_getElem? (i := 15) rfl))) (by decide) (backOf (W := 0) (rm3s l Z a0 hw [] b111 b101 j0 j11 j2 j13 T116.heap n0 Z118 ((E106.ext E111).keep K116) ((F106a.ext E111).keep K116 (ninS ne_b101_b111 nin0)) F116a ((F106b.ext E111).keep K116 (ninS ne_b101_b111 nin0)) F116b) hZ (hw _ (List.mem_of_getElem? (i := 17) rfl)) (hw _ (List.mem_of_getElem? (i := 2) rfl)) (by decide) (by decide)) q169a q169c (g := (mkF m 186 #[.val (.long j0), .second, .val (.long j2), .second, .val (.long j4), .second, .val (.long j6), .second, .val (.int i8), .val (.int i9), .val (.int i10), .val (.long j11), .second, .val (.long j13), .second, .val (.ref b101), .val (.ref b111), .val (.int (((i8.toUInt32 >>> ((2 : Int32) &&& 31).toUInt32).toInt32) &&& (3 : Int32))), .val (.int (1 : Int32))] [(.ref b101), (.ref b111)])) rfl (by rw [hml]; rfl) (Steps.refl _) (argsL := [(.ref b101)]) (rest := []) (lenOf pd__Ljava_lang_Object__Z rfl) rfl (by show 2 * 0 + _ ≤ _; exact Nat.le_of_eq rfl) (hb hby at_186) (fun _ _ => ⟨rfl, e163, (by decide : 2 + 0 ≤ _), (by decide : 4 + 0 ≤ _)⟩)
              dsimp only [Pt.U, Pt.locs, Pt.cells, Pt.slots] at X169 l169 y169 z169 st169 hQ169
              subst l169 y169 z169
              obtain ⟨rfl, N169q, e169⟩ := hQ169
              have N169 := Fr.app N163 N169q
              have pre170 : ∀ t, Steps p.tables e below (T169.setTop (mkF m 189 #[.val (.long j0), .second, .val (.long j2), .second, .val (.long j4), .second, .val (.long j6), .second, .val (.int i8), .val (.int i9), .val (.int i10), .val (.long j11), .second, .val (.long j13), .second, .val (.ref b101), .val (.ref b111), .val (.int (((i8.toUInt32 >>> ((2 : Int32) &&& 31).toUInt32).toInt32) &&& (3 : Int32))), .val (.int (1 : Int32))] [(.int (F3s j0 j11 j2 j13))])) t → Steps p.tables e below (T0.setTop (mkF m 54 #[.val (.long j0), .second, .val (.long j2), .second, .val (.long j4), .second, .val (.long j6), .second, .val (.int i8), .val (.int i9), .val (.int i10), .val (.long j11), .second, .val (.long j13), .second, .unset, .unset, .unset, .unset] [])) t := by
                intro t k
                refine pre168 _ ?_
                show Steps p.tables e below (T163.setTop (mkF m 186 #[.val (.long j0), .second, .val (.long j2), .second, .val (.long j4), .second, .val (.long j6), .second, .val (.int i8), .val (.int i9), .val (.int i10), .val (.long j11), .second, .val (.long j13), .second, .val (.ref b101), .val (.ref b111), .val (.int (((i8.toUInt32 >>> ((2 : Int32) &&& 31).toUInt32).toInt32) &&& (3 : Int32))), .val (.int (1 : Int32))] [(.ref b101), (.ref b111)])) _
                refine st169.trans ?_
                exact k
              have pre171 : ∀ t, Steps p.tables e below (T169.setTop (mkF m 191 #[.val (.long j0), .second, .val (.long j2), .second, .val (.long j4), .second, .val (.long j6), .second, .val (.int i8), .val (.int i9), .val (.int i10), .val (.long j11), .second, .val (.long j13), .second, .val (.ref b101), .val (.ref b111), .val (.int (((i8.toUInt32 >>> ((2 : Int32) &&& 31).toUInt32).toInt32) &&& (3 : Int32))), .val (.int (1 : Int32))] [(.int (1 : Int32)), (.int (F3s j0 j11 j2 j13))])) t → Steps p.tables e below (T0.setTop (mkF m 54 #[.val (.long j0), .second, .val (.long j2), .second, .val (.long j4), .second, .val (.long j6), .second, .val (.int i8), .val (.int i9), .val (.int i10), .val (.long j11), .second, .val (.long j13), .second, .unset, .unset, .unset, .unset] [])) t := by
                intro t k
                refine pre170 _ ?_
                show Steps p.tables e below (T169.setTop (mkF m 189 #[.val (.long j0), .second, .val (.long j2), .second, .val (.long j4), .second, .val (.long j6), .second, .val (.int i8), .val (.int i9), .val (.int i10), .val (.long j11), .second, .val (.long j13), .second, .val (.ref b101), .val (.ref b111), .val (.int (((i8.toUInt32 >>> ((2 : Int32) &&& 31).toUInt32).toInt32) &&& (3 : Int32))), .val (.int (1 : Int32))] [(.int (F3s j0 j11 j2 j13))])) _
                refine XS.iload X169.here hx rfl (hb hby at_189) rfl ?_
                exact k
              by_cases hc172 : (F3s j0 j11 j2 j13) = (1 : Int32)
              · have pre173 : ∀ t, Steps p.tables e below (T169.setTop (mkF m 194 #[.val (.long j0), .second, .val (.long j2), .second, .val (.long j4), .second, .val (.long j6), .second, .val (.int i8), .val (.int i9), .val (.int i10), .val (.long j11), .second, .val (.long j13), .second, .val (.ref b101), .val (.ref b111), .val (.int (((i8.toUInt32 >>> ((2 : Int32) &&& 31).toUInt32).toInt32) &&& (3 : Int32))), .val (.int (1 : Int32))] [])) t → Steps p.tables e below (T0.setTop (mkF m 54 #[.val (.long j0), .second, .val (.long j2), .second, .val (.long j4), .second, .val (.long j6), .second, .val (.int i8), .val (.int i9), .val (.int i10), .val (.long j11), .second, .val (.long j13), .second, .unset, .unset, .unset, .unset] [])) t := by
                  intro t k
                  refine pre171 _ ?_
                  show Steps p.tables e below (T169.setTop (mkF m 191 #[.val (.long j0), .second, .val (.long j2), .second, .val (.long j4), .second, .val (.long j6), .second, .val (.int i8), .val (.int i9), .val (.int i10), .val (.long j11), .second, .val (.long j13), .second, .val (.ref b101), .val (.ref b111), .val (.int (((i8.toUInt32 >>> ((2 : Int32) &&& 31).toUInt32).toInt32) &&& (3 : Int32))), .val (.int (1 : Int32))] [(.int (1 : Int32)), (.int (F3s j0 j11 j2 j13))])) _
                  refine XS.icmpNo X169.here hx rfl (hb hby at_191) rfl (teq hc172).2 ?_
                  exact k
                have pre174 : ∀ t, Steps p.tables e below (T169.setTop (mkF m 199 #[.val (.long j0), .second, .val (.long j2), .second, .val (.long j4), .second, .val (.long j6), .second, .val (.int i8), .val (.int i9), .val (.int i10), .val (.long j11), .second, .val (.long j13), .second, .val (.ref b101), .val (.ref b111), .val (.int (((i8.toUInt32 >>> ((2 : Int32) &&& 31).toUInt32).toInt32) &&& (3 : Int32))), .val (.int (1 : Int32))] [(.int (1 : Int32))])) t → Steps p.tables e below (T0.setTop (mkF m 54 #[.val (.long j0), .second, .val (.long j2), .second, .val (.long j4), .second, .val (.long j6), .second, .val (.int i8), .val (.int i9), .val (.int i10), .val (.long j11), .second, .val (.long j13), .second, .unset, .unset, .unset, .unset] [])) t := by
                  intro t k
                  refine pre173 _ ?_
                  show Steps p.tables e below (T169.setTop (mkF m 194 #[.val (.long j0), .second, .val (.long j2), .second, .val (.long j4), .second, .val (.long j6), .second, .val (.int i8), .val (.int i9), .val (.int i10), .val (.long j11), .second, .val (.long j13), .second, .val (.ref b101), .val (.ref b111), .val (.int (((i8.toUInt32 >>> ((2 : Int32) &&& 31).toUInt32).toInt32) &&& (3 : Int32))), .val (.int (1 : Int32))] [])) _
                  refine XS.iconst X169.here hx rfl (hb hby at_194) ?_
                  show Steps p.tables e below (T169.setTop (mkF m 195 #[.val (.long j0), .second, .val (.long j2), .second, .val (.long j4), .second, .val (.long j6), .second, .val (.int i8), .val (.int i9), .val (.int i10), .val (.long j11), .second, .val (.long j13), .second, .val (.ref b101), .val (.ref b111), .val (.int (((i8.toUInt32 >>> ((2 : Int32) &&& 31).toUInt32).toInt32) &&& (3 : Int32))), .val (.int (1 : Int32))] [(.int (1 : Int32))])) _
                  refine XS.goto X169.here hx rfl (pc0 := 195) (pc' := 199) rfl (hb hby at_195) (by decide) (by decide) ?_
                  exact k
                obtain ⟨fs, hr, hrun, hended, hW, hsame⟩ := X169.leave (v := some (.int (1 : Int32))) (fun h => by rw [hret] at h; cases h)
                refine ⟨_, _, pre174 _ ?_, hrun, hended, _, _, rfl, ?_, ⟨_, rfl⟩, hW, hsame.mono (by decide) (by decide)⟩
                · show Steps p.tables e below (T169.setTop (mkF m 199 #[.val (.long j0), .second, .val (.long j2), .second, .val (.long j4), .second, .val (.long j6), .second, .val (.int i8), .val (.int i9), .val (.int i10), .val (.long j11), .second, .val (.long j13), .second, .val (.ref b101), .val (.ref b111), .val (.int (((i8.toUInt32 >>> ((2 : Int32) &&& 31).toUInt32).toInt32) &&& (3 : Int32))), .val (.int (1 : Int32))] [(.int (1 : Int32))])) _
                  exact retN X169 hx (t := .boolean) hret (by simp) (hb hby at_199) hr
                · exact ⟨(by rw [F0_54_0, if_neg hc121, if_neg hc133, if_neg hc150, if_pos hc157, if_pos hc160, if_pos hc166, if_pos hc172]), N169⟩
              · have pre175 : ∀ t, Steps p.tables e below (T169.setTop (mkF m 198 #[.val (.long j0), .second, .val (.long j2), .second, .val (.long j4), .second, .val (.long j6), .second, .val (.int i8), .val (.int i9), .val (.int i10), .val (.long j11), .second, .val (.long j13), .second, .val (.ref b101), .val (.ref b111), .val (.int (((i8.toUInt32 >>> ((2 : Int32) &&& 31).toUInt32).toInt32) &&& (3 : Int32))), .val (.int (1 : Int32))] [])) t → Steps p.tables e below (T0.setTop (mkF m 54 #[.val (.long j0), .second, .val (.long j2), .second, .val (.long j4), .second, .val (.long j6), .second, .val (.int i8), .val (.int i9), .val (.int i10), .val (.long j11), .second, .val (.long j13), .second, .unset, .unset, .unset, .unset] [])) t := by
                  intro t k
                  refine pre171 _ ?_
                  show Steps p.tables e below (T169.setTop (mkF m 191 #[.val (.long j0), .second, .val (.long j2), .second, .val (.long j4), .second, .val (.long j6), .second, .val (.int i8), .val (.int i9), .val (.int i10), .val (.long j11), .second, .val (.long j13), .second, .val (.ref b101), .val (.ref b111), .val (.int (((i8.toUInt32 >>> ((2 : Int32) &&& 31).toUInt32).toInt32) &&& (3 : Int32))), .val (.int (1 : Int32))] [(.int (1 : Int32)), (.int (F3s j0 j11 j2 j13))])) _
                  refine XS.icmpYes X169.here hx rfl (pc0 := 191) (pc' := 198) rfl (hb hby at_191) rfl (feq hc172).2 (by decide) (by decide) ?_
                  exact k
                have pre176 : ∀ t, Steps p.tables e below (T169.setTop (mkF m 199 #[.val (.long j0), .second, .val (.long j2), .second, .val (.long j4), .second, .val (.long j6), .second, .val (.int i8), .val (.int i9), .val (.int i10), .val (.long j11), .second, .val (.long j13), .second, .val (.ref b101), .val (.ref b111), .val (.int (((i8.toUInt32 >>> ((2 : Int32) &&& 31).toUInt32).toInt32) &&& (3 : Int32))), .val (.int (1 : Int32))] [(.int (0 : Int32))])) t → Steps p.tables e below (T0.setTop (mkF m 54 #[.val (.long j0), .second, .val (.long j2), .second, .val (.long j4), .second, .val (.long j6), .second, .val (.int i8), .val (.int i9), .val (.int i10), .val (.long j11), .second, .val (.long j13), .second, .unset, .unset, .unset, .unset] [])) t := by
                  intro t k
                  refine pre175 _ ?_
                  show Steps p.tables e below (T169.setTop (mkF m 198 #[.val (.long j0), .second, .val (.long j2), .second, .val (.long j4), .second, .val (.long j6), .second, .val (.int i8), .val (.int i9), .val (.int i10), .val (.long j11), .second, .val (.long j13), .second, .val (.ref b101), .val (.ref b111), .val (.int (((i8.toUInt32 >>> ((2 : Int32) &&& 31).toUInt32).toInt32) &&& (3 : Int32))), .val (.int (1 : Int32))] [])) _
                  refine XS.iconst X169.here hx rfl (hb hby at_198) ?_
                  exact k
                obtain ⟨fs, hr, hrun, hended, hW, hsame⟩ := X169.leave (v := some (.int (0 : Int32))) (fun h => by rw [hret] at h; cases h)
                refine ⟨_, _, pre176 _ ?_, hrun, hended, _, _, rfl, ?_, ⟨_, rfl⟩, hW, hsame.mono (by decide) (by decide)⟩
                · show Steps p.tables e below (T169.setTop (mkF m 199 #[.val (.long j0), .second, .val (.long j2), .second, .val (.long j4), .second, .val (.long j6), .second, .val (.int i8), .val (.int i9), .val (.int i10), .val (.long j11), .second, .val (.long j13), .second, .val (.ref b101), .val (.ref b111), .val (.int (((i8.toUInt32 >>> ((2 : Int32) &&& 31).toUInt32).toInt32) &&& (3 : Int32))), .val (.int (1 : Int32))] [(.int (0 : Int32))])) _
                  exact retN X169 hx (t := .boolean) hret (by simp) (hb hby at_199) hr
                · exact ⟨(by rw [F0_54_0, if_neg hc121, if_neg hc133, if_neg hc150, if_pos hc157, if_pos hc160, if_pos hc166, if_neg hc172]), N169⟩
            · have pre177 : ∀ t, Steps p.tables e below (T163.setTop (mkF m 198 #[.val (.long j0), .second, .val (.long j2), .second, .val (.long j4), .second, .val (.long j6), .second, .val (.int i8), .val (.int i9), .val (.int i10), .val (.long j11), .second, .val (.long j13), .second, .val (.ref b101), .val (.ref b111), .val (.int (((i8.toUInt32 >>> ((2 : Int32) &&& 31).toUInt32).toInt32) &&& (3 : Int32))), .val (.int (1 : Int32))] [])) t → Steps p.tables e below (T0.setTop (mkF m 54 #[.val (.long j0), .second, .val (.long j2), .second, .val (.long j4), .second, .val (.long j6), .second, .val (.int i8), .val (.int i9), .val (.int i10), .val (.long j11), .second, .val (.long j13), .second, .unset, .unset, .unset, .unset] [])) t := by
                intro t k
                refine pre165 _ ?_
                show Steps p.tables e below (T163.setTop (mkF m 179 #[.val (.long j0), .second, .val (.long j2), .second, .val (.long j4), .second, .val (.long j6), .second, .val (.int i8), .val (.int i9), .val (.int i10), .val (.long j11), .second, .val (.long j13), .second, .val (.ref b101), .val (.ref b111), .val (.int (((i8.toUInt32 >>> ((2 : Int32) &&& 31).toUInt32).toInt32) &&& (3 : Int32))), .val (.int (1 : Int32))] [(.int (1 : Int32)), (.int (F3s j11 j0 j13 j2))])) _
                refine XS.icmpYes X163.here hx rfl (pc0 := 179) (pc' := 198) rfl (hb hby at_179) rfl (feq hc166).2 (by decide) (by decide) ?_
                exact k
              have pre178 : ∀ t, Steps p.tables e below (T163.setTop (mkF m 199 #[.val (.long j0), .second, .val (.long j2), .second, .val (.long j4), .second, .val (.long j6), .second, .val (.int i8), .val (.int i9), .val (.int i10), .val (.long j11), .second, .val (.long j13), .second, .val (.ref b101), .val (.ref b111), .val (.int (((i8.toUInt32 >>> ((2 : Int32) &&& 31).toUInt32).toInt32) &&& (3 : Int32))), .val (.int (1 : Int32))] [(.int (0 : Int32))])) t → Steps p.tables e below (T0.setTop (mkF m 54 #[.val (.long j0), .second, .val (.long j2), .second, .val (.long j4), .second, .val (.long j6), .second, .val (.int i8), .val (.int i9), .val (.int i10), .val (.long j11), .second, .val (.long j13), .second, .unset, .unset, .unset, .unset] [])) t := by
                intro t k
                refine pre177 _ ?_
                show Steps p.tables e below (T163.setTop (mkF m 198 #[.val (.long j0), .second, .val (.long j2), .second, .val (.long j4), .second, .val (.long j6), .second, .val (.int i8), .val (.int i9), .val (.int i10), .val (.long j11), .second, .val (.long j13), .second, .val (.ref b101), .val (.ref b111), .val (.int (((i8.toUInt32 >>> ((2 : Int32) &&& 31).toUInt32).toInt32) &&& (3 : Int32))), .val (.int (1 : Int32))] [])) _
                refine XS.iconst X163.here hx rfl (hb hby at_198) ?_
                exact k
              obtain ⟨fs, hr, hrun, hended, hW, hsame⟩ := X163.leave (v := some (.int (0 : Int32))) (fun h => by rw [hret] at h; cases h)
              refine ⟨_, _, pre178 _ ?_, hrun, hended, _, _, rfl, ?_, ⟨_, rfl⟩, hW, hsame.mono (by decide) (by decide)⟩
              · show Steps p.tables e below (T163.setTop (mkF m 199 #[.val (.long j0), .second, .val (.long j2), .second, .val (.long j4), .second, .val (.long j6), .second, .val (.int i8), .val (.int i9), .val (.int i10), .val (.long j11), .second, .val (.long j13), .second, .val (.ref b101), .val (.ref b111), .val (.int (((i8.toUInt32 >>> ((2 : Int32) &&& 31).toUInt32).toInt32) &&& (3 : Int32))), .val (.int (1 : Int32))] [(.int (0 : Int32))])) _
                exact retN X163 hx (t := .boolean) hret (by simp) (hb hby at_199) hr
              · exact ⟨(by rw [F0_54_0, if_neg hc121, if_neg hc133, if_neg hc150, if_pos hc157, if_pos hc160, if_neg hc166]), N163⟩
          · have pre179 : ∀ t, Steps p.tables e below (T116.setTop (mkF m 167 #[.val (.long j0), .second, .val (.long j2), .second, .val (.long j4), .second, .val (.long j6), .second, .val (.int i8), .val (.int i9), .val (.int i10), .val (.long j11), .second, .val (.long j13), .second, .val (.ref b101), .val (.ref b111), .val (.int (((i8.toUInt32 >>> ((2 : Int32) &&& 31).toUInt32).toInt32) &&& (3 : Int32))), .unset] [])) t → Steps p.tables e below (T0.setTop (mkF m 54 #[.val (.long j0), .second, .val (.long j2), .second, .val (.long j4), .second, .val (.long j6), .second, .val (.int i8), .val (.int i9), .val (.int i10), .val (.long j11), .second, .val (.long j13), .second, .unset, .unset, .unset, .unset] [])) t := by
              intro t k
              refine pre159 _ ?_
              show Steps p.tables e below (T116.setTop (mkF m 160 #[.val (.long j0), .second, .val (.long j2), .second, .val (.long j4), .second, .val (.long j6), .second, .val (.int i8), .val (.int i9), .val (.int i10), .val (.long j11), .second, .val (.long j13), .second, .val (.ref b101), .val (.ref b111), .val (.int (((i8.toUInt32 >>> ((2 : Int32) &&& 31).toUInt32).toInt32) &&& (3 : Int32))), .unset] [(.int (lcmpW j13 j2))])) _
              refine XS.ifYes X116.here hx rfl (pc0 := 160) (pc' := 167) rfl (hb hby at_160) rfl ((if0 _ _).trans (feq hc160).2) (by decide) (by decide) ?_
              exact k
            have pre180 : ∀ t, Steps p.tables e below (T116.setTop (mkF m 174 #[.val (.long j0), .second, .val (.long j2), .second, .val (.long j4), .second, .val (.long j6), .second, .val (.int i8), .val (.int i9), .val (.int i10), .val (.long j11), .second, .val (.long j13), .second, .val (.ref b101), .val (.ref b111), .val (.int (((i8.toUInt32 >>> ((2 : Int32) &&& 31).toUInt32).toInt32) &&& (3 : Int32))), .val (.int (0 : Int32))] [(.ref b111), (.ref b101)])) t → Steps p.tables e below (T0.setTop (mkF m 54 #[.val (.long j0), .second, .val (.long j2), .second, .val (.long j4), .second, .val (.long j6), .second, .val (.int i8), .val (.int i9), .val (.int i10), .val (.long j11), .second, .val (.long j13), .second, .unset, .unset, .unset, .unset] [])) t := by
              intro t k
              refine pre179 _ ?_
              show Steps p.tables e below (T116.setTop (mkF m 167 #[.val (.long j0), .second, .val (.long j2), .second, .val (.long j4), .second, .val (.long j6), .second, .val (.int i8), .val (.int i9), .val (.int i10), .val (.long j11), .second, .val (.long j13), .second, .val (.ref b101), .val (.ref b111), .val (.int (((i8.toUInt32 >>> ((2 : Int32) &&& 31).toUInt32).toInt32) &&& (3 : Int32))), .unset] [])) _
              refine XS.iconst X116.here hx rfl (hb hby at_167) ?_
              show Steps p.tables e below (T116.setTop (mkF m 168 #[.val (.long j0), .second, .val (.long j2), .second, .val (.long j4), .second, .val (.long j6), .second, .val (.int i8), .val (.int i9), .val (.int i10), .val (.long j11), .second, .val (.long j13), .second, .val (.ref b101), .val (.ref b111), .val (.int (((i8.toUInt32 >>> ((2 : Int32) &&& 31).toUInt32).toInt32) &&& (3 : Int32))), .unset] [(.int (0 : Int32))])) _
              refine XS.istore X116.here hx rfl (hb hby at_168) rfl (l' := #[.val (.long j0), .second, .val (.long j2), .second, .val (.long j4), .second, .val (.long j6), .second, .val (.int i8), .val (.int i9), .val (.int i10), .val (.long j11), .second, .val (.long j13), .second, .val (.ref b101), .val (.ref b111), .val (.int (((i8.toUInt32 >>> ((2 : Int32) &&& 31).toUInt32).toInt32) &&& (3 : Int32))), .val (.int (0 : Int32))]) rfl ?_
              show Steps p.tables e below (T116.setTop (mkF m 170 #[.val (.long j0), .second, .val (.long j2), .second, .val (.long j4), .second, .val (.long j6), .second, .val (.int i8), .val (.int i9), .val (.int i10), .val (.long j11), .second, .val (.long j13), .second, .val (.ref b101), .val (.ref b111), .val (.int (((i8.toUInt32 >>> ((2 : Int32) &&& 31).toUInt32).toInt32) &&& (3 : Int32))), .val (.int (0 : Int32))] [])) _
              refine XS.aload X116.here hx rfl (hb hby at_170) rfl rfl ?_
              show Steps p.tables e below (T116.setTop (mkF m 172 #[.val (.long j0), .second, .val (.long j2), .second, .val (.long j4), .second, .val (.long j6), .second, .val (.int i8), .val (.int i9), .val (.int i10), .val (.long j11), .second, .val (.long j13), .second, .val (.ref b101), .val (.ref b111), .val (.int (((i8.toUInt32 >>> ((2 : Int32) &&& 31).toUInt32).toInt32) &&& (3 : Int32))), .val (.int (0 : Int32))] [(.ref b101)])) _
              refine XS.aload X116.here hx rfl (hb hby at_172) rfl rfl ?_
              exact k
            obtain ⟨cq181, kq181, q181a, q181b, q181c⟩ := isOf hZ rfl ((E106.ext E111).keep K116)
            obtain ⟨_, _, ⟨T181, L181, k181, n181⟩, -, X181, ⟨Lc181, hQ181, l181, y181, z181⟩, st181⟩ := X116.virtualBack hx (y := (⟨"com/example/coracle/coracle/ServiceID", "equals", "(Ljava/lang/Object;)Z"⟩ : MethodName)) (z := (⟨"com/example/coracle/coracle/ServiceID", "equals", "(Ljava/lang/Object;)Z"⟩ : MethodName)) hown (mvT hZ (hw _ (List.mem_of_getElem? (i := 13) rfl))) (mvT hZ (hw _ (List.mem_of_getElem? (i := 14) rfl))) (notFace_of_selects (args := #[]) (mvT hZ (hw _ (List.mem_of_getElem? (i := 16) rfl)))) (mvT hZ (hw _ (List.mem_of_getElem? (i := 16) rfl))) (mvT hZ (hw _ (List.mem_of_getElem? (i := 15) rfl))) (by decide) (backOf (W := 0) (rm3s l Z a0 hw [] b101 b111 j11 j0 j13 j2 T116.heap n0 Z118 E116 F116a ((F106a.ext E111).keep K116 (ninS ne_b101_b111 nin0)) F116b ((F106b.ext E111).keep K116 (ninS ne_b101_b111 nin0))) hZ (hw _ (List.mem_of_getElem? (i := 17) rfl)) (hw _ (List.mem_of_getElem? (i := 2) rfl)) (by decide) (by decide)) q181a q181c (g := (mkF m 174 #[.val (.long j0), .second, .val (.long j2), .second, .val (.long j4), .second, .val (.long j6), .second, .val (.int i8), .val (.int i9), .val (.int i10), .val (.long j11), .second, .val (.long j13), .second, .val (.ref b101), .val (.ref b111), .val (.int (((i8.toUInt32 >>> ((2 : Int32) &&& 31).toUInt32).toInt32) &&& (3 : Int32))), .val (.int (0 : Int32))] [(.ref b111), (.ref b101)])) rfl (by rw [hml]; rfl) (Steps.refl _) (argsL := [(.ref b111)]) (rest := []) (lenOf pd__Ljava_lang_Object__Z rfl) rfl (by show 2 * 0 + _ ≤ _; exact Nat.le_of_eq rfl) (hb hby at_174) (fun _ _ => ⟨rfl, rfl, (by decide : 2 + 0 ≤ _), (by decide : 4 + 0 ≤ _)⟩)
            dsimp only [Pt.U, Pt.locs, Pt.cells, Pt.slots] at X181 l181 y181 z181 st181 hQ181
            subst l181 y181 z181
            obtain ⟨rfl, N181q, e181⟩ := hQ181
            have N181 := Fr.app N116 N181q
            have pre182 : ∀ t, Steps p.tables e below (T181.setTop (mkF m 177 #[.val (.long j0), .second, .val (.long j2), .second, .val (.long j4), .second, .val (.long j6), .second, .val (.int i8), .val (.int i9), .val (.int i10), .val (.long j11), .second, .val (.long j13), .second, .val (.ref b101), .val (.ref b111), .val (.int (((i8.toUInt32 >>> ((2 : Int32) &&& 31).toUInt32).toInt32) &&& (3 : Int32))), .val (.int (0 : Int32))] [(.int (F3s j11 j0 j13 j2))])) t → Steps p.tables e below (T0.setTop (mkF m 54 #[.val (.long j0), .second, .val (.long j2), .second, .val (.long j4), .second, .val (.long j6), .second, .val (.int i8), .val (.int i9), .val (.int i10), .val (.long j11), .second, .val (.long j13), .second, .unset, .unset, .unset, .unset] [])) t := by
              intro t k
              refine pre180 _ ?_
              show Steps p.tables e below (T116.setTop (mkF m 174 #[.val (.long j0), .second, .val (.long j2), .second, .val (.long j4), .second, .val (.long j6), .second, .val (.int i8), .val (.int i9), .val (.int i10), .val (.long j11), .second, .val (.long j13), .second, .val (.ref b101), .val (.ref b111), .val (.int (((i8.toUInt32 >>> ((2 : Int32) &&& 31).toUInt32).toInt32) &&& (3 : Int32))), .val (.int (0 : Int32))] [(.ref b111), (.ref b101)])) _
              refine st181.trans ?_
              exact k
            have pre183 : ∀ t, Steps p.tables e below (T181.setTop (mkF m 179 #[.val (.long j0), .second, .val (.long j2), .second, .val (.long j4), .second, .val (.long j6), .second, .val (.int i8), .val (.int i9), .val (.int i10), .val (.long j11), .second, .val (.long j13), .second, .val (.ref b101), .val (.ref b111), .val (.int (((i8.toUInt32 >>> ((2 : Int32) &&& 31).toUInt32).toInt32) &&& (3 : Int32))), .val (.int (0 : Int32))] [(.int (0 : Int32)), (.int (F3s j11 j0 j13 j2))])) t → Steps p.tables e below (T0.setTop (mkF m 54 #[.val (.long j0), .second, .val (.long j2), .second, .val (.long j4), .second, .val (.long j6), .second, .val (.int i8), .val (.int i9), .val (.int i10), .val (.long j11), .second, .val (.long j13), .second, .unset, .unset, .unset, .unset] [])) t := by
              intro t k
              refine pre182 _ ?_
              show Steps p.tables e below (T181.setTop (mkF m 177 #[.val (.long j0), .second, .val (.long j2), .second, .val (.long j4), .second, .val (.long j6), .second, .val (.int i8), .val (.int i9), .val (.int i10), .val (.long j11), .second, .val (.long j13), .second, .val (.ref b101), .val (.ref b111), .val (.int (((i8.toUInt32 >>> ((2 : Int32) &&& 31).toUInt32).toInt32) &&& (3 : Int32))), .val (.int (0 : Int32))] [(.int (F3s j11 j0 j13 j2))])) _
              refine XS.iload X181.here hx rfl (hb hby at_177) rfl ?_
              exact k
            by_cases hc184 : (F3s j11 j0 j13 j2) = (0 : Int32)
            · have pre185 : ∀ t, Steps p.tables e below (T181.setTop (mkF m 182 #[.val (.long j0), .second, .val (.long j2), .second, .val (.long j4), .second, .val (.long j6), .second, .val (.int i8), .val (.int i9), .val (.int i10), .val (.long j11), .second, .val (.long j13), .second, .val (.ref b101), .val (.ref b111), .val (.int (((i8.toUInt32 >>> ((2 : Int32) &&& 31).toUInt32).toInt32) &&& (3 : Int32))), .val (.int (0 : Int32))] [])) t → Steps p.tables e below (T0.setTop (mkF m 54 #[.val (.long j0), .second, .val (.long j2), .second, .val (.long j4), .second, .val (.long j6), .second, .val (.int i8), .val (.int i9), .val (.int i10), .val (.long j11), .second, .val (.long j13), .second, .unset, .unset, .unset, .unset] [])) t := by
                intro t k
                refine pre183 _ ?_
                show Steps p.tables e below (T181.setTop (mkF m 179 #[.val (.long j0), .second, .val (.long j2), .second, .val (.long j4), .second, .val (.long j6), .second, .val (.int i8), .val (.int i9), .val (.int i10), .val (.long j11), .second, .val (.long j13), .second, .val (.ref b101), .val (.ref b111), .val (.int (((i8.toUInt32 >>> ((2 : Int32) &&& 31).toUInt32).toInt32) &&& (3 : Int32))), .val (.int (0 : Int32))] [(.int (0 : Int32)), (.int (F3s j11 j0 j13 j2))])) _
                refine XS.icmpNo X181.here hx rfl (hb hby at_179) rfl (teq hc184).2 ?_
                exact k
              have pre186 : ∀ t, Steps p.tables e below (T181.setTop (mkF m 186 #[.val (.long j0), .second, .val (.long j2), .second, .val (.long j4), .second, .val (.long j6), .second, .val (.int i8), .val (.int i9), .val (.int i10), .val (.long j11), .second, .val (.long j13), .second, .val (.ref b101), .val (.ref b111), .val (.int (((i8.toUInt32 >>> ((2 : Int32) &&& 31).toUInt32).toInt32) &&& (3 : Int32))), .val (.int (0 : Int32))] [(.ref b101), (.ref b111)])) t → Steps p.tables e below (T0.setTop (mkF m 54 #[.val (.long j0), .second, .val (.long j2), .second, .val (.long j4), .second, .val (.long j6), .second, .val (.int i8), .val (.int i9), .val (.int i10), .val (.long j11), .second, .val (.long j13), .second, .unset, .unset, .unset, .unset] [])) t := by
                intro t k
                refine pre185 _ ?_
                show Steps p.tables e below (T181.setTop (mkF m 182 #[.val (.long j0), .second, .val (.long j2), .second, .val (.long j4), .second, .val (.long j6), .second, .val (.int i8), .val (.int i9), .val (.int i10), .val (.long j11), .second, .val (.long j13), .second, .val (.ref b101), .val (.ref b111), .val (.int (((i8.toUInt32 >>> ((2 : Int32) &&& 31).toUInt32).toInt32) &&& (3 : Int32))), .val (.int (0 : Int32))] [])) _
                refine XS.aload X181.here hx rfl (hb hby at_182) rfl rfl ?_
                show Steps p.tables e below (T181.setTop (mkF m 184 #[.val (.long j0), .second, .val (.long j2), .second, .val (.long j4), .second, .val (.long j6), .second, .val (.int i8), .val (.int i9), .val (.int i10), .val (.long j11), .second, .val (.long j13), .second, .val (.ref b101), .val (.ref b111), .val (.int (((i8.toUInt32 >>> ((2 : Int32) &&& 31).toUInt32).toInt32) &&& (3 : Int32))), .val (.int (0 : Int32))] [(.ref b111)])) _
                refine XS.aload X181.here hx rfl (hb hby at_184) rfl rfl ?_
                exact k
              obtain ⟨cq187, kq187, q187a, q187b, q187c⟩ := isOf hZ e181 E116
              obtain ⟨_, _, ⟨T187, L187, k187, n187⟩, -, X187, ⟨Lc187, hQ187, l187, y187, z187⟩, st187⟩ := X181.virtualBack hx (y := (⟨"com/example/coracle/coracle/ServiceID", "equals", "(Ljava/lang/Object;)Z"⟩ : MethodName)) (z := (⟨"com/example/coracle/coracle/ServiceID", "equals", "(Ljava/lang/Object;)Z"⟩ : MethodName)) hown (mvT hZ (hw _ (List.mem_of_getElem? (i := 13) rfl))) (mvT hZ (hw _ (List.mem_of_getElem? (i := 14) rfl))) (notFace_of_selects (args := #[]) (mvT hZ (hw _ (List.mem_of_getElem? (i := 16) rfl)))) (mvT hZ (hw _ (List.mem_of_getElem? (i := 16) rfl))) (mvT hZ (hw _ (List.mem_of_getElem? (i := 15) rfl))) (by decide) (backOf (W := 0) (rm3s l Z a0 hw [] b111 b101 j0 j11 j2 j13 T116.heap n0 Z118 ((E106.ext E111).keep K116) ((F106a.ext E111).keep K116 (ninS ne_b101_b111 nin0)) F116a ((F106b.ext E111).keep K116 (ninS ne_b101_b111 nin0)) F116b) hZ (hw _ (List.mem_of_getElem? (i := 17) rfl)) (hw _ (List.mem_of_getElem? (i := 2) rfl)) (by decide) (by decide)) q187a q187c (g := (mkF m 186 #[.val (.long j0), .second, .val (.long j2), .second, .val (.long j4), .second, .val (.long j6), .second, .val (.int i8), .val (.int i9), .val (.int i10), .val (.long j11), .second, .val (.long j13), .second, .val (.ref b101), .val (.ref b111), .val (.int (((i8.toUInt32 >>> ((2 : Int32) &&& 31).toUInt32).toInt32) &&& (3 : Int32))), .val (.int (0 : Int32))] [(.ref b101), (.ref b111)])) rfl (by rw [hml]; rfl) (Steps.refl _) (argsL := [(.ref b101)]) (rest := []) (lenOf pd__Ljava_lang_Object__Z rfl) rfl (by show 2 * 0 + _ ≤ _; exact Nat.le_of_eq rfl) (hb hby at_186) (fun _ _ => ⟨rfl, e181, (by decide : 2 + 0 ≤ _), (by decide : 4 + 0 ≤ _)⟩)
              dsimp only [Pt.U, Pt.locs, Pt.cells, Pt.slots] at X187 l187 y187 z187 st187 hQ187
              subst l187 y187 z187
              obtain ⟨rfl, N187q, e187⟩ := hQ187
              have N187 := Fr.app N181 N187q
              have pre188 : ∀ t, Steps p.tables e below (T187.setTop (mkF m 189 #[.val (.long j0), .second, .val (.long j2), .second, .val (.long j4), .second, .val (.long j6), .second, .val (.int i8), .val (.int i9), .val (.int i10), .val (.long j11), .second, .val (.long j13), .second, .val (.ref b101), .val (.ref b111), .val (.int (((i8.toUInt32 >>> ((2 : Int32) &&& 31).toUInt32).toInt32) &&& (3 : Int32))), .val (.int (0 : Int32))] [(.int (F3s j0 j11 j2 j13))])) t → Steps p.tables e below (T0.setTop (mkF m 54 #[.val (.long j0), .second, .val (.long j2), .second, .val (.long j4), .second, .val (.long j6), .second, .val (.int i8), .val (.int i9), .val (.int i10), .val (.long j11), .second, .val (.long j13), .second, .unset, .unset, .unset, .unset] [])) t := by
                intro t k
                refine pre186 _ ?_
                show Steps p.tables e below (T181.setTop (mkF m 186 #[.val (.long j0), .second, .val (.long j2), .second, .val (.long j4), .second, .val (.long j6), .second, .val (.int i8), .val (.int i9), .val (.int i10), .val (.long j11), .second, .val (.long j13), .second, .val (.ref b101), .val (.ref b111), .val (.int (((i8.toUInt32 >>> ((2 : Int32) &&& 31).toUInt32).toInt32) &&& (3 : Int32))), .val (.int (0 : Int32))] [(.ref b101), (.ref b111)])) _
                refine st187.trans ?_
                exact k
              have pre189 : ∀ t, Steps p.tables e below (T187.setTop (mkF m 191 #[.val (.long j0), .second, .val (.long j2), .second, .val (.long j4), .second, .val (.long j6), .second, .val (.int i8), .val (.int i9), .val (.int i10), .val (.long j11), .second, .val (.long j13), .second, .val (.ref b101), .val (.ref b111), .val (.int (((i8.toUInt32 >>> ((2 : Int32) &&& 31).toUInt32).toInt32) &&& (3 : Int32))), .val (.int (0 : Int32))] [(.int (0 : Int32)), (.int (F3s j0 j11 j2 j13))])) t → Steps p.tables e below (T0.setTop (mkF m 54 #[.val (.long j0), .second, .val (.long j2), .second, .val (.long j4), .second, .val (.long j6), .second, .val (.int i8), .val (.int i9), .val (.int i10), .val (.long j11), .second, .val (.long j13), .second, .unset, .unset, .unset, .unset] [])) t := by
                intro t k
                refine pre188 _ ?_
                show Steps p.tables e below (T187.setTop (mkF m 189 #[.val (.long j0), .second, .val (.long j2), .second, .val (.long j4), .second, .val (.long j6), .second, .val (.int i8), .val (.int i9), .val (.int i10), .val (.long j11), .second, .val (.long j13), .second, .val (.ref b101), .val (.ref b111), .val (.int (((i8.toUInt32 >>> ((2 : Int32) &&& 31).toUInt32).toInt32) &&& (3 : Int32))), .val (.int (0 : Int32))] [(.int (F3s j0 j11 j2 j13))])) _
                refine XS.iload X187.here hx rfl (hb hby at_189) rfl ?_
                exact k
              by_cases hc190 : (F3s j0 j11 j2 j13) = (0 : Int32)
              · have pre191 : ∀ t, Steps p.tables e below (T187.setTop (mkF m 194 #[.val (.long j0), .second, .val (.long j2), .second, .val (.long j4), .second, .val (.long j6), .second, .val (.int i8), .val (.int i9), .val (.int i10), .val (.long j11), .second, .val (.long j13), .second, .val (.ref b101), .val (.ref b111), .val (.int (((i8.toUInt32 >>> ((2 : Int32) &&& 31).toUInt32).toInt32) &&& (3 : Int32))), .val (.int (0 : Int32))] [])) t → Steps p.tables e below (T0.setTop (mkF m 54 #[.val (.long j0), .second, .val (.long j2), .second, .val (.long j4), .second, .val (.long j6), .second, .val (.int i8), .val (.int i9), .val (.int i10), .val (.long j11), .second, .val (.long j13), .second, .unset, .unset, .unset, .unset] [])) t := by
                  intro t k
                  refine pre189 _ ?_
                  show Steps p.tables e below (T187.setTop (mkF m 191 #[.val (.long j0), .second, .val (.long j2), .second, .val (.long j4), .second, .val (.long j6), .second, .val (.int i8), .val (.int i9), .val (.int i10), .val (.long j11), .second, .val (.long j13), .second, .val (.ref b101), .val (.ref b111), .val (.int (((i8.toUInt32 >>> ((2 : Int32) &&& 31).toUInt32).toInt32) &&& (3 : Int32))), .val (.int (0 : Int32))] [(.int (0 : Int32)), (.int (F3s j0 j11 j2 j13))])) _
                  refine XS.icmpNo X187.here hx rfl (hb hby at_191) rfl (teq hc190).2 ?_
                  exact k
                have pre192 : ∀ t, Steps p.tables e below (T187.setTop (mkF m 199 #[.val (.long j0), .second, .val (.long j2), .second, .val (.long j4), .second, .val (.long j6), .second, .val (.int i8), .val (.int i9), .val (.int i10), .val (.long j11), .second, .val (.long j13), .second, .val (.ref b101), .val (.ref b111), .val (.int (((i8.toUInt32 >>> ((2 : Int32) &&& 31).toUInt32).toInt32) &&& (3 : Int32))), .val (.int (0 : Int32))] [(.int (1 : Int32))])) t → Steps p.tables e below (T0.setTop (mkF m 54 #[.val (.long j0), .second, .val (.long j2), .second, .val (.long j4), .second, .val (.long j6), .second, .val (.int i8), .val (.int i9), .val (.int i10), .val (.long j11), .second, .val (.long j13), .second, .unset, .unset, .unset, .unset] [])) t := by
                  intro t k
                  refine pre191 _ ?_
                  show Steps p.tables e below (T187.setTop (mkF m 194 #[.val (.long j0), .second, .val (.long j2), .second, .val (.long j4), .second, .val (.long j6), .second, .val (.int i8), .val (.int i9), .val (.int i10), .val (.long j11), .second, .val (.long j13), .second, .val (.ref b101), .val (.ref b111), .val (.int (((i8.toUInt32 >>> ((2 : Int32) &&& 31).toUInt32).toInt32) &&& (3 : Int32))), .val (.int (0 : Int32))] [])) _
                  refine XS.iconst X187.here hx rfl (hb hby at_194) ?_
                  show Steps p.tables e below (T187.setTop (mkF m 195 #[.val (.long j0), .second, .val (.long j2), .second, .val (.long j4), .second, .val (.long j6), .second, .val (.int i8), .val (.int i9), .val (.int i10), .val (.long j11), .second, .val (.long j13), .second, .val (.ref b101), .val (.ref b111), .val (.int (((i8.toUInt32 >>> ((2 : Int32) &&& 31).toUInt32).toInt32) &&& (3 : Int32))), .val (.int (0 : Int32))] [(.int (1 : Int32))])) _
                  refine XS.goto X187.here hx rfl (pc0 := 195) (pc' := 199) rfl (hb hby at_195) (by decide) (by decide) ?_
                  exact k
                obtain ⟨fs, hr, hrun, hended, hW, hsame⟩ := X187.leave (v := some (.int (1 : Int32))) (fun h => by rw [hret] at h; cases h)
                refine ⟨_, _, pre192 _ ?_, hrun, hended, _, _, rfl, ?_, ⟨_, rfl⟩, hW, hsame.mono (by decide) (by decide)⟩
                · show Steps p.tables e below (T187.setTop (mkF m 199 #[.val (.long j0), .second, .val (.long j2), .second, .val (.long j4), .second, .val (.long j6), .second, .val (.int i8), .val (.int i9), .val (.int i10), .val (.long j11), .second, .val (.long j13), .second, .val (.ref b101), .val (.ref b111), .val (.int (((i8.toUInt32 >>> ((2 : Int32) &&& 31).toUInt32).toInt32) &&& (3 : Int32))), .val (.int (0 : Int32))] [(.int (1 : Int32))])) _
                  exact retN X187 hx (t := .boolean) hret (by simp) (hb hby at_199) hr
                · exact ⟨(by rw [F0_54_0, if_neg hc121, if_neg hc133, if_neg hc150, if_pos hc157, if_neg hc160, if_pos hc184, if_pos hc190]), N187⟩
              · have pre193 : ∀ t, Steps p.tables e below (T187.setTop (mkF m 198 #[.val (.long j0), .second, .val (.long j2), .second, .val (.long j4), .second, .val (.long j6), .second, .val (.int i8), .val (.int i9), .val (.int i10), .val (.long j11), .second, .val (.long j13), .second, .val (.ref b101), .val (.ref b111), .val (.int (((i8.toUInt32 >>> ((2 : Int32) &&& 31).toUInt32).toInt32) &&& (3 : Int32))), .val (.int (0 : Int32))] [])) t → Steps p.tables e below (T0.setTop (mkF m 54 #[.val (.long j0), .second, .val (.long j2), .second, .val (.long j4), .second, .val (.long j6), .second, .val (.int i8), .val (.int i9), .val (.int i10), .val (.long j11), .second, .val (.long j13), .second, .unset, .unset, .unset, .unset] [])) t := by
                  intro t k
                  refine pre189 _ ?_
                  show Steps p.tables e below (T187.setTop (mkF m 191 #[.val (.long j0), .second, .val (.long j2), .second, .val (.long j4), .second, .val (.long j6), .second, .val (.int i8), .val (.int i9), .val (.int i10), .val (.long j11), .second, .val (.long j13), .second, .val (.ref b101), .val (.ref b111), .val (.int (((i8.toUInt32 >>> ((2 : Int32) &&& 31).toUInt32).toInt32) &&& (3 : Int32))), .val (.int (0 : Int32))] [(.int (0 : Int32)), (.int (F3s j0 j11 j2 j13))])) _
                  refine XS.icmpYes X187.here hx rfl (pc0 := 191) (pc' := 198) rfl (hb hby at_191) rfl (feq hc190).2 (by decide) (by decide) ?_
                  exact k
                have pre194 : ∀ t, Steps p.tables e below (T187.setTop (mkF m 199 #[.val (.long j0), .second, .val (.long j2), .second, .val (.long j4), .second, .val (.long j6), .second, .val (.int i8), .val (.int i9), .val (.int i10), .val (.long j11), .second, .val (.long j13), .second, .val (.ref b101), .val (.ref b111), .val (.int (((i8.toUInt32 >>> ((2 : Int32) &&& 31).toUInt32).toInt32) &&& (3 : Int32))), .val (.int (0 : Int32))] [(.int (0 : Int32))])) t → Steps p.tables e below (T0.setTop (mkF m 54 #[.val (.long j0), .second, .val (.long j2), .second, .val (.long j4), .second, .val (.long j6), .second, .val (.int i8), .val (.int i9), .val (.int i10), .val (.long j11), .second, .val (.long j13), .second, .unset, .unset, .unset, .unset] [])) t := by
                  intro t k
                  refine pre193 _ ?_
                  show Steps p.tables e below (T187.setTop (mkF m 198 #[.val (.long j0), .second, .val (.long j2), .second, .val (.long j4), .second, .val (.long j6), .second, .val (.int i8), .val (.int i9), .val (.int i10), .val (.long j11), .second, .val (.long j13), .second, .val (.ref b101), .val (.ref b111), .val (.int (((i8.toUInt32 >>> ((2 : Int32) &&& 31).toUInt32).toInt32) &&& (3 : Int32))), .val (.int (0 : Int32))] [])) _
                  refine XS.iconst X187.here hx rfl (hb hby at_198) ?_
                  exact k
                obtain ⟨fs, hr, hrun, hended, hW, hsame⟩ := X187.leave (v := some (.int (0 : Int32))) (fun h => by rw [hret] at h; cases h)
                refine ⟨_, _, pre194 _ ?_, hrun, hended, _, _, rfl, ?_, ⟨_, rfl⟩, hW, hsame.mono (by decide) (by decide)⟩
                · show Steps p.tables e below (T187.setTop (mkF m 199 #[.val (.long j0), .second, .val (.long j2), .second, .val (.long j4), .second, .val (.long j6), .second, .val (.int i8), .val (.int i9), .val (.int i10), .val (.long j11), .second, .val (.long j13), .second, .val (.ref b101), .val (.ref b111), .val (.int (((i8.toUInt32 >>> ((2 : Int32) &&& 31).toUInt32).toInt32) &&& (3 : Int32))), .val (.int (0 : Int32))] [(.int (0 : Int32))])) _
                  exact retN X187 hx (t := .boolean) hret (by simp) (hb hby at_199) hr
                · exact ⟨(by rw [F0_54_0, if_neg hc121, if_neg hc133, if_neg hc150, if_pos hc157, if_neg hc160, if_pos hc184, if_neg hc190]), N187⟩
            · have pre195 : ∀ t, Steps p.tables e below (T181.setTop (mkF m 198 #[.val (.long j0), .second, .val (.long j2), .second, .val (.long j4), .second, .val (.long j6), .second, .val (.int i8), .val (.int i9), .val (.int i10), .val (.long j11), .second, .val (.long j13), .second, .val (.ref b101), .val (.ref b111), .val (.int (((i8.toUInt32 >>> ((2 : Int32) &&& 31).toUInt32).toInt32) &&& (3 : Int32))), .val (.int (0 : Int32))] [])) t → Steps p.tables e below (T0.setTop (mkF m 54 #[.val (.long j0), .second, .val (.long j2), .second, .val (.long j4), .second, .val (.long j6), .second, .val (.int i8), .val (.int i9), .val (.int i10), .val (.long j11), .second, .val (.long j13), .second, .unset, .unset, .unset, .unset] [])) t := by
                intro t k
                refine pre183 _ ?_
                show Steps p.tables e below (T181.setTop (mkF m 179 #[.val (.long j0), .second, .val (.long j2), .second, .val (.long j4), .second, .val (.long j6), .second, .val (.int i8), .val (.int i9), .val (.int i10), .val (.long j11), .second, .val (.long j13), .second, .val (.ref b101), .val (.ref b111), .val (.int (((i8.toUInt32 >>> ((2 : Int32) &&& 31).toUInt32).toInt32) &&& (3 : Int32))), .val (.int (0 : Int32))] [(.int (0 : Int32)), (.int (F3s j11 j0 j13 j2))])) _
                refine XS.icmpYes X181.here hx rfl (pc0 := 179) (pc' := 198) rfl (hb hby at_179) rfl (feq hc184).2 (by decide) (by decide) ?_
                exact k
              have pre196 : ∀ t, Steps p.tables e below (T181.setTop (mkF m 199 #[.val (.long j0), .second, .val (.long j2), .second, .val (.long j4), .second, .val (.long j6), .second, .val (.int i8), .val (.int i9), .val (.int i10), .val (.long j11), .second, .val (.long j13), .second, .val (.ref b101), .val (.ref b111), .val (.int (((i8.toUInt32 >>> ((2 : Int32) &&& 31).toUInt32).toInt32) &&& (3 : Int32))), .val (.int (0 : Int32))] [(.int (0 : Int32))])) t → Steps p.tables e below (T0.setTop (mkF m 54 #[.val (.long j0), .second, .val (.long j2), .second, .val (.long j4), .second, .val (.long j6), .second, .val (.int i8), .val (.int i9), .val (.int i10), .val (.long j11), .second, .val (.long j13), .second, .unset, .unset, .unset, .unset] [])) t := by
                intro t k
                refine pre195 _ ?_
                show Steps p.tables e below (T181.setTop (mkF m 198 #[.val (.long j0), .second, .val (.long j2), .second, .val (.long j4), .second, .val (.long j6), .second, .val (.int i8), .val (.int i9), .val (.int i10), .val (.long j11), .second, .val (.long j13), .second, .val (.ref b101), .val (.ref b111), .val (.int (((i8.toUInt32 >>> ((2 : Int32) &&& 31).toUInt32).toInt32) &&& (3 : Int32))), .val (.int (0 : Int32))] [])) _
                refine XS.iconst X181.here hx rfl (hb hby at_198) ?_
                exact k
              obtain ⟨fs, hr, hrun, hended, hW, hsame⟩ := X181.leave (v := some (.int (0 : Int32))) (fun h => by rw [hret] at h; cases h)
              refine ⟨_, _, pre196 _ ?_, hrun, hended, _, _, rfl, ?_, ⟨_, rfl⟩, hW, hsame.mono (by decide) (by decide)⟩
              · show Steps p.tables e below (T181.setTop (mkF m 199 #[.val (.long j0), .second, .val (.long j2), .second, .val (.long j4), .second, .val (.long j6), .second, .val (.int i8), .val (.int i9), .val (.int i10), .val (.long j11), .second, .val (.long j13), .second, .val (.ref b101), .val (.ref b111), .val (.int (((i8.toUInt32 >>> ((2 : Int32) &&& 31).toUInt32).toInt32) &&& (3 : Int32))), .val (.int (0 : Int32))] [(.int (0 : Int32))])) _
                exact retN X181 hx (t := .boolean) hret (by simp) (hb hby at_199) hr
              · exact ⟨(by rw [F0_54_0, if_neg hc121, if_neg hc133, if_neg hc150, if_pos hc157, if_neg hc160, if_neg hc184]), N181⟩
        · have pre197 : ∀ t, Steps p.tables e below (T116.setTop (mkF m 167 #[.val (.long j0), .second, .val (.long j2), .second, .val (.long j4), .second, .val (.long j6), .second, .val (.int i8), .val (.int i9), .val (.int i10), .val (.long j11), .second, .val (.long j13), .second, .val (.ref b101), .val (.ref b111), .val (.int (((i8.toUInt32 >>> ((2 : Int32) &&& 31).toUInt32).toInt32) &&& (3 : Int32))), .unset] [])) t → Steps p.tables e below (T0.setTop (mkF m 54 #[.val (.long j0), .second, .val (.long j2), .second, .val (.long j4), .second, .val (.long j6), .second, .val (.int i8), .val (.int i9), .val (.int i10), .val (.long j11), .second, .val (.long j13), .second, .unset, .unset, .unset, .unset] [])) t := by
            intro t k
            refine pre156 _ ?_
            show Steps p.tables e below (T116.setTop (mkF m 153 #[.val (.long j0), .second, .val (.long j2), .second, .val (.long j4), .second, .val (.long j6), .second, .val (.int i8), .val (.int i9), .val (.int i10), .val (.long j11), .second, .val (.long j13), .second, .val (.ref b101), .val (.ref b111), .val (.int (((i8.toUInt32 >>> ((2 : Int32) &&& 31).toUInt32).toInt32) &&& (3 : Int32))), .unset] [(.int (lcmpW j11 j0))])) _
            refine XS.ifYes X116.here hx rfl (pc0 := 153) (pc' := 167) rfl (hb hby at_153) rfl ((if0 _ _).trans (feq hc157).2) (by decide) (by decide) ?_
            exact k
          have pre198 : ∀ t, Steps p.tables e below (T116.setTop (mkF m 174 #[.val (.long j0), .second, .val (.long j2), .second, .val (.long j4), .second, .val (.long j6), .second, .val (.int i8), .val (.int i9), .val (.int i10), .val (.long j11), .second, .val (.long j13), .second, .val (.ref b101), .val (.ref b111), .val (.int (((i8.toUInt32 >>> ((2 : Int32) &&& 31).toUInt32).toInt32) &&& (3 : Int32))), .val (.int (0 : Int32))] [(.ref b111), (.ref b101)])) t → Steps p.tables e below (T0.setTop (mkF m 54 #[.val (.long j0), .second, .val (.long j2), .second, .val (.long j4), .second, .val (.long j6), .second, .val (.int i8), .val (.int i9), .val (.int i10), .val (.long j11), .second, .val (.long j13), .second, .unset, .unset, .unset, .unset] [])) t := by
            intro t k
            refine pre197 _ ?_
            show Steps p.tables e below (T116.setTop (mkF m 167 #[.val (.long j0), .second, .val (.long j2), .second, .val (.long j4), .second, .val (.long j6), .second, .val (.int i8), .val (.int i9), .val (.int i10), .val (.long j11), .second, .val (.long j13), .second, .val (.ref b101), .val (.ref b111), .val (.int (((i8.toUInt32 >>> ((2 : Int32) &&& 31).toUInt32).toInt32) &&& (3 : Int32))), .unset] [])) _
            refine XS.iconst X116.here hx rfl (hb hby at_167) ?_
            show Steps p.tables e below (T116.setTop (mkF m 168 #[.val (.long j0), .second, .val (.long j2), .second, .val (.long j4), .second, .val (.long j6), .second, .val (.int i8), .val (.int i9), .val (.int i10), .val (.long j11), .second, .val (.long j13), .second, .val (.ref b101), .val (.ref b111), .val (.int (((i8.toUInt32 >>> ((2 : Int32) &&& 31).toUInt32).toInt32) &&& (3 : Int32))), .unset] [(.int (0 : Int32))])) _
            refine XS.istore X116.here hx rfl (hb hby at_168) rfl (l' := #[.val (.long j0), .second, .val (.long j2), .second, .val (.long j4), .second, .val (.long j6), .second, .val (.int i8), .val (.int i9), .val (.int i10), .val (.long j11), .second, .val (.long j13), .second, .val (.ref b101), .val (.ref b111), .val (.int (((i8.toUInt32 >>> ((2 : Int32) &&& 31).toUInt32).toInt32) &&& (3 : Int32))), .val (.int (0 : Int32))]) rfl ?_
            show Steps p.tables e below (T116.setTop (mkF m 170 #[.val (.long j0), .second, .val (.long j2), .second, .val (.long j4), .second, .val (.long j6), .second, .val (.int i8), .val (.int i9), .val (.int i10), .val (.long j11), .second, .val (.long j13), .second, .val (.ref b101), .val (.ref b111), .val (.int (((i8.toUInt32 >>> ((2 : Int32) &&& 31).toUInt32).toInt32) &&& (3 : Int32))), .val (.int (0 : Int32))] [])) _
            refine XS.aload X116.here hx rfl (hb hby at_170) rfl rfl ?_
            show Steps p.tables e below (T116.setTop (mkF m 172 #[.val (.long j0), .second, .val (.long j2), .second, .val (.long j4), .second, .val (.long j6), .second, .val (.int i8), .val (.int i9), .val (.int i10), .val (.long j11), .second, .val (.long j13), .second, .val (.ref b101), .val (.ref b111), .val (.int (((i8.toUInt32 >>> ((2 : Int32) &&& 31).toUInt32).toInt32) &&& (3 : Int32))), .val (.int (0 : Int32))] [(.ref b101)])) _
            refine XS.aload X116.here hx rfl (hb hby at_172) rfl rfl ?_
            exact k
          obtain ⟨cq199, kq199, q199a, q199b, q199c⟩ := isOf hZ rfl ((E106.ext E111).keep K116)
          obtain ⟨_, _, ⟨T199, L199, k199, n199⟩, -, X199, ⟨Lc199, hQ199, l199, y199, z199⟩, st199⟩ := X116.virtualBack hx (y := (⟨"com/example/coracle/coracle/ServiceID", "equals", "(Ljava/lang/Object;)Z"⟩ : MethodName)) (z := (⟨"com/example/coracle/coracle/ServiceID", "equals", "(Ljava/lang/Object;)Z"⟩ : MethodName)) hown (mvT hZ (hw _ (List.mem_of_getElem? (i := 13) rfl))) (mvT hZ (hw _ (List.mem_of_getElem? (i := 14) rfl))) (notFace_of_selects (args := #[]) (mvT hZ (hw _ (List.mem_of_getElem? (i := 16) rfl)))) (mvT hZ (hw _ (List.mem_of_getElem? (i := 16) rfl))) (mvT hZ (hw _ (List.mem_of_getElem? (i := 15) rfl))) (by decide) (backOf (W := 0) (rm3s l Z a0 hw [] b101 b111 j11 j0 j13 j2 T116.heap n0 Z118 E116 F116a ((F106a.ext E111).keep K116 (ninS ne_b101_b111 nin0)) F116b ((F106b.ext E111).keep K116 (ninS ne_b101_b111 nin0))) hZ (hw _ (List.mem_of_getElem? (i := 17) rfl)) (hw _ (List.mem_of_getElem? (i := 2) rfl)) (by decide) (by decide)) q199a q199c (g := (mkF m 174 #[.val (.long j0), .second, .val (.long j2), .second, .val (.long j4), .second, .val (.long j6), .second, .val (.int i8), .val (.int i9), .val (.int i10), .val (.long j11), .second, .val (.long j13), .second, .val (.ref b101), .val (.ref b111), .val (.int (((i8.toUInt32 >>> ((2 : Int32) &&& 31).toUInt32).toInt32) &&& (3 : Int32))), .val (.int (0 : Int32))] [(.ref b111), (.ref b101)])) rfl (by rw [hml]; rfl) (Steps.refl _) (argsL := [(.ref b111)]) (rest := []) (lenOf pd__Ljava_lang_Object__Z rfl) rfl (by show 2 * 0 + _ ≤ _; exact Nat.le_of_eq rfl) (hb hby at_174) (fun _ _ => ⟨rfl, rfl, (by decide : 2 + 0 ≤ _), (by decide : 4 + 0 ≤ _)⟩)
          dsimp only [Pt.U, Pt.locs, Pt.cells, Pt.slots] at X199 l199 y199 z199 st199 hQ199
          subst l199 y199 z199
          obtain ⟨rfl, N199q, e199⟩ := hQ199
          have N199 := Fr.app N116 N199q
          have pre200 : ∀ t, Steps p.tables e below (T199.setTop (mkF m 177 #[.val (.long j0), .second, .val (.long j2), .second, .val (.long j4), .second, .val (.long j6), .second, .val (.int i8), .val (.int i9), .val (.int i10), .val (.long j11), .second, .val (.long j13), .second, .val (.ref b101), .val (.ref b111), .val (.int (((i8.toUInt32 >>> ((2 : Int32) &&& 31).toUInt32).toInt32) &&& (3 : Int32))), .val (.int (0 : Int32))] [(.int (F3s j11 j0 j13 j2))])) t → Steps p.tables e below (T0.setTop (mkF m 54 #[.val (.long j0), .second, .val (.long j2), .second, .val (.long j4), .second, .val (.long j6), .second, .val (.int i8), .val (.int i9), .val (.int i10), .val (.long j11), .second, .val (.long j13), .second, .unset, .unset, .unset, .unset] [])) t := by
            intro t k
            refine pre198 _ ?_
            show Steps p.tables e below (T116.setTop (mkF m 174 #[.val (.long j0), .second, .val (.long j2), .second, .val (.long j4), .second, .val (.long j6), .second, .val (.int i8), .val (.int i9), .val (.int i10), .val (.long j11), .second, .val (.long j13), .second, .val (.ref b101), .val (.ref b111), .val (.int (((i8.toUInt32 >>> ((2 : Int32) &&& 31).toUInt32).toInt32) &&& (3 : Int32))), .val (.int (0 : Int32))] [(.ref b111), (.ref b101)])) _
            refine st199.trans ?_
            exact k
          have pre201 : ∀ t, Steps p.tables e below (T199.setTop (mkF m 179 #[.val (.long j0), .second, .val (.long j2), .second, .val (.long j4), .second, .val (.long j6), .second, .val (.int i8), .val (.int i9), .val (.int i10), .val (.long j11), .second, .val (.long j13), .second, .val (.ref b101), .val (.ref b111), .val (.int (((i8.toUInt32 >>> ((2 : Int32) &&& 31).toUInt32).toInt32) &&& (3 : Int32))), .val (.int (0 : Int32))] [(.int (0 : Int32)), (.int (F3s j11 j0 j13 j2))])) t → Steps p.tables e below (T0.setTop (mkF m 54 #[.val (.long j0), .second, .val (.long j2), .second, .val (.long j4), .second, .val (.long j6), .second, .val (.int i8), .val (.int i9), .val (.int i10), .val (.long j11), .second, .val (.long j13), .second, .unset, .unset, .unset, .unset] [])) t := by
            intro t k
            refine pre200 _ ?_
            show Steps p.tables e below (T199.setTop (mkF m 177 #[.val (.long j0), .second, .val (.long j2), .second, .val (.long j4), .second, .val (.long j6), .second, .val (.int i8), .val (.int i9), .val (.int i10), .val (.long j11), .second, .val (.long j13), .second, .val (.ref b101), .val (.ref b111), .val (.int (((i8.toUInt32 >>> ((2 : Int32) &&& 31).toUInt32).toInt32) &&& (3 : Int32))), .val (.int (0 : Int32))] [(.int (F3s j11 j0 j13 j2))])) _
            refine XS.iload X199.here hx rfl (hb hby at_177) rfl ?_
            exact k
          by_cases hc202 : (F3s j11 j0 j13 j2) = (0 : Int32)
          · have pre203 : ∀ t, Steps p.tables e below (T199.setTop (mkF m 182 #[.val (.long j0), .second, .val (.long j2), .second, .val (.long j4), .second, .val (.long j6), .second, .val (.int i8), .val (.int i9), .val (.int i10), .val (.long j11), .second, .val (.long j13), .second, .val (.ref b101), .val (.ref b111), .val (.int (((i8.toUInt32 >>> ((2 : Int32) &&& 31).toUInt32).toInt32) &&& (3 : Int32))), .val (.int (0 : Int32))] [])) t → Steps p.tables e below (T0.setTop (mkF m 54 #[.val (.long j0), .second, .val (.long j2), .second, .val (.long j4), .second, .val (.long j6), .second, .val (.int i8), .val (.int i9), .val (.int i10), .val (.long j11), .second, .val (.long j13), .second, .unset, .unset, .unset, .unset] [])) t := by
              intro t k
              refine pre201 _ ?_
              show Steps p.tables e below (T199.setTop (mkF m 179 #[.val (.long j0), .second, .val (.long j2), .second, .val (.long j4), .second, .val (.long j6), .second, .val (.int i8), .val (.int i9), .val (.int i10), .val (.long j11), .second, .val (.long j13), .second, .val (.ref b101), .val (.ref b111), .val (.int (((i8.toUInt32 >>> ((2 : Int32) &&& 31).toUInt32).toInt32) &&& (3 : Int32))), .val (.int (0 : Int32))] [(.int (0 : Int32)), (.int (F3s j11 j0 j13 j2))])) _
              refine XS.icmpNo X199.here hx rfl (hb hby at_179) rfl (teq hc202).2 ?_
              exact k
            have pre204 : ∀ t, Steps p.tables e below (T199.setTop (mkF m 186 #[.val (.long j0), .second, .val (.long j2), .second, .val (.long j4), .second, .val (.long j6), .second, .val (.int i8), .val (.int i9), .val (.int i10), .val (.long j11), .second, .val (.long j13), .second, .val (.ref b101), .val (.ref b111), .val (.int (((i8.toUInt32 >>> ((2 : Int32) &&& 31).toUInt32).toInt32) &&& (3 : Int32))), .val (.int (0 : Int32))] [(.ref b101), (.ref b111)])) t → Steps p.tables e below (T0.setTop (mkF m 54 #[.val (.long j0), .second, .val (.long j2), .second, .val (.long j4), .second, .val (.long j6), .second, .val (.int i8), .val (.int i9), .val (.int i10), .val (.long j11), .second, .val (.long j13), .second, .unset, .unset, .unset, .unset] [])) t := by
              intro t k
              refine pre203 _ ?_
              show Steps p.tables e below (T199.setTop (mkF m 182 #[.val (.long j0), .second, .val (.long j2), .second, .val (.long j4), .second, .val (.long j6), .second, .val (.int i8), .val (.int i9), .val (.int i10), .val (.long j11), .second, .val (.long j13), .second, .val (.ref b101), .val (.ref b111), .val (.int (((i8.toUInt32 >>> ((2 : Int32) &&& 31).toUInt32).toInt32) &&& (3 : Int32))), .val (.int (0 : Int32))] [])) _
              refine XS.aload X199.here hx rfl (hb hby at_182) rfl rfl ?_
              show Steps p.tables e below (T199.setTop (mkF m 184 #[.val (.long j0), .second, .val (.long j2), .second, .val (.long j4), .second, .val (.long j6), .second, .val (.int i8), .val (.int i9), .val (.int i10), .val (.long j11), .second, .val (.long j13), .second, .val (.ref b101), .val (.ref b111), .val (.int (((i8.toUInt32 >>> ((2 : Int32) &&& 31).toUInt32).toInt32) &&& (3 : Int32))), .val (.int (0 : Int32))] [(.ref b111)])) _
              refine XS.aload X199.here hx rfl (hb hby at_184) rfl rfl ?_
              exact k
            obtain ⟨cq205, kq205, q205a, q205b, q205c⟩ := isOf hZ e199 E116
            obtain ⟨_, _, ⟨T205, L205, k205, n205⟩, -, X205, ⟨Lc205, hQ205, l205, y205, z205⟩, st205⟩ := X199.virtualBack hx (y := (⟨"com/example/coracle/coracle/ServiceID", "equals", "(Ljava/lang/Object;)Z"⟩ : MethodName)) (z := (⟨"com/example/coracle/coracle/ServiceID", "equals", "(Ljava/lang/Object;)Z"⟩ : MethodName)) hown (mvT hZ (hw _ (List.mem_of_getElem? (i := 13) rfl))) (mvT hZ (hw _ (List.mem_of_getElem? (i := 14) rfl))) (notFace_of_selects (args := #[]) (mvT hZ (hw _ (List.mem_of_getElem? (i := 16) rfl)))) (mvT hZ (hw _ (List.mem_of_getElem? (i := 16) rfl))) (mvT hZ (hw _ (List.mem_of_getElem? (i := 15) rfl))) (by decide) (backOf (W := 0) (rm3s l Z a0 hw [] b111 b101 j0 j11 j2 j13 T116.heap n0 Z118 ((E106.ext E111).keep K116) ((F106a.ext E111).keep K116 (ninS ne_b101_b111 nin0)) F116a ((F106b.ext E111).keep K116 (ninS ne_b101_b111 nin0)) F116b) hZ (hw _ (List.mem_of_getElem? (i := 17) rfl)) (hw _ (List.mem_of_getElem? (i := 2) rfl)) (by decide) (by decide)) q205a q205c (g := (mkF m 186 #[.val (.long j0), .second, .val (.long j2), .second, .val (.long j4), .second, .val (.long j6), .second, .val (.int i8), .val (.int i9), .val (.int i10), .val (.long j11), .second, .val (.long j13), .second, .val (.ref b101), .val (.ref b111), .val (.int (((i8.toUInt32 >>> ((2 : Int32) &&& 31).toUInt32).toInt32) &&& (3 : Int32))), .val (.int (0 : Int32))] [(.ref b101), (.ref b111)])) rfl (by rw [hml]; rfl) (Steps.refl _) (argsL := [(.ref b101)]) (rest := []) (lenOf pd__Ljava_lang_Object__Z rfl) rfl (by show 2 * 0 + _ ≤ _; exact Nat.le_of_eq rfl) (hb hby at_186) (fun _ _ => ⟨rfl, e199, (by decide : 2 + 0 ≤ _), (by decide : 4 + 0 ≤ _)⟩)
            dsimp only [Pt.U, Pt.locs, Pt.cells, Pt.slots] at X205 l205 y205 z205 st205 hQ205
            subst l205 y205 z205
            obtain ⟨rfl, N205q, e205⟩ := hQ205
            have N205 := Fr.app N199 N205q
            have pre206 : ∀ t, Steps p.tables e below (T205.setTop (mkF m 189 #[.val (.long j0), .second, .val (.long j2), .second, .val (.long j4), .second, .val (.long j6), .second, .val (.int i8), .val (.int i9), .val (.int i10), .val (.long j11), .second, .val (.long j13), .second, .val (.ref b101), .val (.ref b111), .val (.int (((i8.toUInt32 >>> ((2 : Int32) &&& 31).toUInt32).toInt32) &&& (3 : Int32))), .val (.int (0 : Int32))] [(.int (F3s j0 j11 j2 j13))])) t → Steps p.tables e below (T0.setTop (mkF m 54 #[.val (.long j0), .second, .val (.long j2), .second, .val (.long j4), .second, .val (.long j6), .second, .val (.int i8), .val (.int i9), .val (.int i10), .val (.long j11), .second, .val (.long j13), .second, .unset, .unset, .unset, .unset] [])) t := by
              intro t k
              refine pre204 _ ?_
              show Steps p.tables e below (T199.setTop (mkF m 186 #[.val (.long j0), .second, .val (.long j2), .second, .val (.long j4), .second, .val (.long j6), .second, .val (.int i8), .val (.int i9), .val (.int i10), .val (.long j11), .second, .val (.long j13), .second, .val (.ref b101), .val (.ref b111), .val (.int (((i8.toUInt32 >>> ((2 : Int32) &&& 31).toUInt32).toInt32) &&& (3 : Int32))), .val (.int (0 : Int32))] [(.ref b101), (.ref b111)])) _
              refine st205.trans ?_
              exact k
            have pre207 : ∀ t, Steps p.tables e below (T205.setTop (mkF m 191 #[.val (.long j0), .second, .val (.long j2), .second, .val (.long j4), .second, .val (.long j6), .second, .val (.int i8), .val (.int i9), .val (.int i10), .val (.long j11), .second, .val (.long j13), .second, .val (.ref b101), .val (.ref b111), .val (.int (((i8.toUInt32 >>> ((2 : Int32) &&& 31).toUInt32).toInt32) &&& (3 : Int32))), .val (.int (0 : Int32))] [(.int (0 : Int32)), (.int (F3s j0 j11 j2 j13))])) t → Steps p.tables e below (T0.setTop (mkF m 54 #[.val (.long j0), .second, .val (.long j2), .second, .val (.long j4), .second, .val (.long j6), .second, .val (.int i8), .val (.int i9), .val (.int i10), .val (.long j11), .second, .val (.long j13), .second, .unset, .unset, .unset, .unset] [])) t := by
              intro t k
              refine pre206 _ ?_
              show Steps p.tables e below (T205.setTop (mkF m 189 #[.val (.long j0), .second, .val (.long j2), .second, .val (.long j4), .second, .val (.long j6), .second, .val (.int i8), .val (.int i9), .val (.int i10), .val (.long j11), .second, .val (.long j13), .second, .val (.ref b101), .val (.ref b111), .val (.int (((i8.toUInt32 >>> ((2 : Int32) &&& 31).toUInt32).toInt32) &&& (3 : Int32))), .val (.int (0 : Int32))] [(.int (F3s j0 j11 j2 j13))])) _
              refine XS.iload X205.here hx rfl (hb hby at_189) rfl ?_
              exact k
            by_cases hc208 : (F3s j0 j11 j2 j13) = (0 : Int32)
            · have pre209 : ∀ t, Steps p.tables e below (T205.setTop (mkF m 194 #[.val (.long j0), .second, .val (.long j2), .second, .val (.long j4), .second, .val (.long j6), .second, .val (.int i8), .val (.int i9), .val (.int i10), .val (.long j11), .second, .val (.long j13), .second, .val (.ref b101), .val (.ref b111), .val (.int (((i8.toUInt32 >>> ((2 : Int32) &&& 31).toUInt32).toInt32) &&& (3 : Int32))), .val (.int (0 : Int32))] [])) t → Steps p.tables e below (T0.setTop (mkF m 54 #[.val (.long j0), .second, .val (.long j2), .second, .val (.long j4), .second, .val (.long j6), .second, .val (.int i8), .val (.int i9), .val (.int i10), .val (.long j11), .second, .val (.long j13), .second, .unset, .unset, .unset, .unset] [])) t := by
                intro t k
                refine pre207 _ ?_
                show Steps p.tables e below (T205.setTop (mkF m 191 #[.val (.long j0), .second, .val (.long j2), .second, .val (.long j4), .second, .val (.long j6), .second, .val (.int i8), .val (.int i9), .val (.int i10), .val (.long j11), .second, .val (.long j13), .second, .val (.ref b101), .val (.ref b111), .val (.int (((i8.toUInt32 >>> ((2 : Int32) &&& 31).toUInt32).toInt32) &&& (3 : Int32))), .val (.int (0 : Int32))] [(.int (0 : Int32)), (.int (F3s j0 j11 j2 j13))])) _
                refine XS.icmpNo X205.here hx rfl (hb hby at_191) rfl (teq hc208).2 ?_
                exact k
              have pre210 : ∀ t, Steps p.tables e below (T205.setTop (mkF m 199 #[.val (.long j0), .second, .val (.long j2), .second, .val (.long j4), .second, .val (.long j6), .second, .val (.int i8), .val (.int i9), .val (.int i10), .val (.long j11), .second, .val (.long j13), .second, .val (.ref b101), .val (.ref b111), .val (.int (((i8.toUInt32 >>> ((2 : Int32) &&& 31).toUInt32).toInt32) &&& (3 : Int32))), .val (.int (0 : Int32))] [(.int (1 : Int32))])) t → Steps p.tables e below (T0.setTop (mkF m 54 #[.val (.long j0), .second, .val (.long j2), .second, .val (.long j4), .second, .val (.long j6), .second, .val (.int i8), .val (.int i9), .val (.int i10), .val (.long j11), .second, .val (.long j13), .second, .unset, .unset, .unset, .unset] [])) t := by
                intro t k
                refine pre209 _ ?_
                show Steps p.tables e below (T205.setTop (mkF m 194 #[.val (.long j0), .second, .val (.long j2), .second, .val (.long j4), .second, .val (.long j6), .second, .val (.int i8), .val (.int i9), .val (.int i10), .val (.long j11), .second, .val (.long j13), .second, .val (.ref b101), .val (.ref b111), .val (.int (((i8.toUInt32 >>> ((2 : Int32) &&& 31).toUInt32).toInt32) &&& (3 : Int32))), .val (.int (0 : Int32))] [])) _
                refine XS.iconst X205.here hx rfl (hb hby at_194) ?_
                show Steps p.tables e below (T205.setTop (mkF m 195 #[.val (.long j0), .second, .val (.long j2), .second, .val (.long j4), .second, .val (.long j6), .second, .val (.int i8), .val (.int i9), .val (.int i10), .val (.long j11), .second, .val (.long j13), .second, .val (.ref b101), .val (.ref b111), .val (.int (((i8.toUInt32 >>> ((2 : Int32) &&& 31).toUInt32).toInt32) &&& (3 : Int32))), .val (.int (0 : Int32))] [(.int (1 : Int32))])) _
                refine XS.goto X205.here hx rfl (pc0 := 195) (pc' := 199) rfl (hb hby at_195) (by decide) (by decide) ?_
                exact k
              obtain ⟨fs, hr, hrun, hended, hW, hsame⟩ := X205.leave (v := some (.int (1 : Int32))) (fun h => by rw [hret] at h; cases h)
              refine ⟨_, _, pre210 _ ?_, hrun, hended, _, _, rfl, ?_, ⟨_, rfl⟩, hW, hsame.mono (by decide) (by decide)⟩
              · show Steps p.tables e below (T205.setTop (mkF m 199 #[.val (.long j0), .second, .val (.long j2), .second, .val (.long j4), .second, .val (.long j6), .second, .val (.int i8), .val (.int i9), .val (.int i10), .val (.long j11), .second, .val (.long j13), .second, .val (.ref b101), .val (.ref b111), .val (.int (((i8.toUInt32 >>> ((2 : Int32) &&& 31).toUInt32).toInt32) &&& (3 : Int32))), .val (.int (0 : Int32))] [(.int (1 : Int32))])) _
                exact retN X205 hx (t := .boolean) hret (by simp) (hb hby at_199) hr
              · exact ⟨(by rw [F0_54_0, if_neg hc121, if_neg hc133, if_neg hc150, if_neg hc157, if_pos hc202, if_pos hc208]), N205⟩
            · have pre211 : ∀ t, Steps p.tables e below (T205.setTop (mkF m 198 #[.val (.long j0), .second, .val (.long j2), .second, .val (.long j4), .second, .val (.long j6), .second, .val (.int i8), .val (.int i9), .val (.int i10), .val (.long j11), .second, .val (.long j13), .second, .val (.ref b101), .val (.ref b111), .val (.int (((i8.toUInt32 >>> ((2 : Int32) &&& 31).toUInt32).toInt32) &&& (3 : Int32))), .val (.int (0 : Int32))] [])) t → Steps p.tables e below (T0.setTop (mkF m 54 #[.val (.long j0), .second, .val (.long j2), .second, .val (.long j4), .second, .val (.long j6), .second, .val (.int i8), .val (.int i9), .val (.int i10), .val (.long j11), .second, .val (.long j13), .second, .unset, .unset, .unset, .unset] [])) t := by
                intro t k
                refine pre207 _ ?_
                show Steps p.tables e below (T205.setTop (mkF m 191 #[.val (.long j0), .second, .val (.long j2), .second, .val (.long j4), .second, .val (.long j6), .second, .val (.int i8), .val (.int i9), .val (.int i10), .val (.long j11), .second, .val (.long j13), .second, .val (.ref b101), .val (.ref b111), .val (.int (((i8.toUInt32 >>> ((2 : Int32) &&& 31).toUInt32).toInt32) &&& (3 : Int32))), .val (.int (0 : Int32))] [(.int (0 : Int32)), (.int (F3s j0 j11 j2 j13))])) _
                refine XS.icmpYes X205.here hx rfl (pc0 := 191) (pc' := 198) rfl (hb hby at_191) rfl (feq hc208).2 (by decide) (by decide) ?_
                exact k
              have pre212 : ∀ t, Steps p.tables e below (T205.setTop (mkF m 199 #[.val (.long j0), .second, .val (.long j2), .second, .val (.long j4), .second, .val (.long j6), .second, .val (.int i8), .val (.int i9), .val (.int i10), .val (.long j11), .second, .val (.long j13), .second, .val (.ref b101), .val (.ref b111), .val (.int (((i8.toUInt32 >>> ((2 : Int32) &&& 31).toUInt32).toInt32) &&& (3 : Int32))), .val (.int (0 : Int32))] [(.int (0 : Int32))])) t → Steps p.tables e below (T0.setTop (mkF m 54 #[.val (.long j0), .second, .val (.long j2), .second, .val (.long j4), .second, .val (.long j6), .second, .val (.int i8), .val (.int i9), .val (.int i10), .val (.long j11), .second, .val (.long j13), .second, .unset, .unset, .unset, .unset] [])) t := by
                intro t k
                refine pre211 _ ?_
                show Steps p.tables e below (T205.setTop (mkF m 198 #[.val (.long j0), .second, .val (.long j2), .second, .val (.long j4), .second, .val (.long j6), .second, .val (.int i8), .val (.int i9), .val (.int i10), .val (.long j11), .second, .val (.long j13), .second, .val (.ref b101), .val (.ref b111), .val (.int (((i8.toUInt32 >>> ((2 : Int32) &&& 31).toUInt32).toInt32) &&& (3 : Int32))), .val (.int (0 : Int32))] [])) _
                refine XS.iconst X205.here hx rfl (hb hby at_198) ?_
                exact k
              obtain ⟨fs, hr, hrun, hended, hW, hsame⟩ := X205.leave (v := some (.int (0 : Int32))) (fun h => by rw [hret] at h; cases h)
              refine ⟨_, _, pre212 _ ?_, hrun, hended, _, _, rfl, ?_, ⟨_, rfl⟩, hW, hsame.mono (by decide) (by decide)⟩
              · show Steps p.tables e below (T205.setTop (mkF m 199 #[.val (.long j0), .second, .val (.long j2), .second, .val (.long j4), .second, .val (.long j6), .second, .val (.int i8), .val (.int i9), .val (.int i10), .val (.long j11), .second, .val (.long j13), .second, .val (.ref b101), .val (.ref b111), .val (.int (((i8.toUInt32 >>> ((2 : Int32) &&& 31).toUInt32).toInt32) &&& (3 : Int32))), .val (.int (0 : Int32))] [(.int (0 : Int32))])) _
                exact retN X205 hx (t := .boolean) hret (by simp) (hb hby at_199) hr
              · exact ⟨(by rw [F0_54_0, if_neg hc121, if_neg hc133, if_neg hc150, if_neg hc157, if_pos hc202, if_neg hc208]), N205⟩
          · have pre213 : ∀ t, Steps p.tables e below (T199.setTop (mkF m 198 #[.val (.long j0), .second, .val (.long j2), .second, .val (.long j4), .second, .val (.long j6), .second, .val (.int i8), .val (.int i9), .val (.int i10), .val (.long j11), .second, .val (.long j13), .second, .val (.ref b101), .val (.ref b111), .val (.int (((i8.toUInt32 >>> ((2 : Int32) &&& 31).toUInt32).toInt32) &&& (3 : Int32))), .val (.int (0 : Int32))] [])) t → Steps p.tables e below (T0.setTop (mkF m 54 #[.val (.long j0), .second, .val (.long j2), .second, .val (.long j4), .second, .val (.long j6), .second, .val (.int i8), .val (.int i9), .val (.int i10), .val (.long j11), .second, .val (.long j13), .second, .unset, .unset, .unset, .unset] [])) t := by
              intro t k
              refine pre201 _ ?_
              show Steps p.tables e below (T199.setTop (mkF m 179 #[.val (.long j0), .second, .val (.long j2), .second, .val (.long j4), .second, .val (.long j6), .second, .val (.int i8), .val (.int i9), .val (.int i10), .val (.long j11), .second, .val (.long j13), .second, .val (.ref b101), .val (.ref b111), .val (.int (((i8.toUInt32 >>> ((2 : Int32) &&& 31).toUInt32).toInt32) &&& (3 : Int32))), .val (.int (0 : Int32))] [(.int (0 : Int32)), (.int (F3s j11 j0 j13 j2))])) _
              refine XS.icmpYes X199.here hx rfl (pc0 := 179) (pc' := 198) rfl (hb hby at_179) rfl (feq hc202).2 (by decide) (by decide) ?_
              exact k
            have pre214 : ∀ t, Steps p.tables e below (T199.setTop (mkF m 199 #[.val (.long j0), .second, .val (.long j2), .second, .val (.long j4), .second, .val (.long j6), .second, .val (.int i8), .val (.int i9), .val (.int i10), .val (.long j11), .second, .val (.long j13), .second, .val (.ref b101), .val (.ref b111), .val (.int (((i8.toUInt32 >>> ((2 : Int32) &&& 31).toUInt32).toInt32) &&& (3 : Int32))), .val (.int (0 : Int32))] [(.int (0 : Int32))])) t → Steps p.tables e below (T0.setTop (mkF m 54 #[.val (.long j0), .second, .val (.long j2), .second, .val (.long j4), .second, .val (.long j6), .second, .val (.int i8), .val (.int i9), .val (.int i10), .val (.long j11), .second, .val (.long j13), .second, .unset, .unset, .unset, .unset] [])) t := by
              intro t k
              refine pre213 _ ?_
              show Steps p.tables e below (T199.setTop (mkF m 198 #[.val (.long j0), .second, .val (.long j2), .second, .val (.long j4), .second, .val (.long j6), .second, .val (.int i8), .val (.int i9), .val (.int i10), .val (.long j11), .second, .val (.long j13), .second, .val (.ref b101), .val (.ref b111), .val (.int (((i8.toUInt32 >>> ((2 : Int32) &&& 31).toUInt32).toInt32) &&& (3 : Int32))), .val (.int (0 : Int32))] [])) _
              refine XS.iconst X199.here hx rfl (hb hby at_198) ?_
              exact k
            obtain ⟨fs, hr, hrun, hended, hW, hsame⟩ := X199.leave (v := some (.int (0 : Int32))) (fun h => by rw [hret] at h; cases h)
            refine ⟨_, _, pre214 _ ?_, hrun, hended, _, _, rfl, ?_, ⟨_, rfl⟩, hW, hsame.mono (by decide) (by decide)⟩
            · show Steps p.tables e below (T199.setTop (mkF m 199 #[.val (.long j0), .second, .val (.long j2), .second, .val (.long j4), .second, .val (.long j6), .second, .val (.int i8), .val (.int i9), .val (.int i10), .val (.long j11), .second, .val (.long j13), .second, .val (.ref b101), .val (.ref b111), .val (.int (((i8.toUInt32 >>> ((2 : Int32) &&& 31).toUInt32).toInt32) &&& (3 : Int32))), .val (.int (0 : Int32))] [(.int (0 : Int32))])) _
              exact retN X199 hx (t := .boolean) hret (by simp) (hb hby at_199) hr
            · exact ⟨(by rw [F0_54_0, if_neg hc121, if_neg hc133, if_neg hc150, if_neg hc157, if_neg hc202]), N199⟩
theorem pn_0 : plainName "com/example/coracle/coracle/ServiceIDEqualsPinLaw" = true := by first | (simp [plainName, overriddenIn]; done) | decide +kernel
theorem ef_0 (m : MethodId) (x0 : Int64) (x1 : Int64) (x2 : Int64) (x3 : Int64) (x4 : Int32) : entryFrame m #[(.long x0), (.long x1), (.long x2), (.long x3), (.int x4)] maxLocals = mkF m 0 #[.val (.long x0), .second, .val (.long x1), .second, .val (.long x2), .second, .val (.long x3), .second, .val (.int x4), .unset, .unset, .unset, .unset, .unset, .unset, .unset, .unset, .unset, .unset] [] := by first | (simp [entryFrame, mkF, argsToLocals, Value.category, maxLocals]; done) | rfl
def F0 (q1 : Int64) (q2 : Int64) (q3 : Int64) (q4 : Int64) (p5 : Int32) : Int32 :=
  if (p5 &&& (1 : Int32)) = (0 : Int32) then (  if (p5 &&& (2 : Int32)) = (0 : Int32) then (  (F0_54_0 q1 q2 p5 q3 q4))
  else (  (F0_54_0 q1 q2 p5 q3 q2)))
  else (  if (p5 &&& (2 : Int32)) = (0 : Int32) then (  (F0_54_0 q1 q2 p5 q1 q4))
  else (  (F0_54_0 q1 q2 p5 q1 q2)))
def Q0 (Z : State) (q1 : Int64) (q2 : Int64) (q3 : Int64) (q4 : Int64) (p5 : Int32) (cl_wC : Cell) (wC : Addr) (h0 : Heap) (n0 : Nat) (v : Option Value) (h : Heap) (L : List Loc) : Prop := v = some (.int (F0 q1 q2 q3 q4 p5)) ∧ Fr n0 L
set_option maxRecDepth 65536 in
set_option maxHeartbeats 40000000 in
theorem rm0 (l : Launch) (Z : State) (a0 : Array Value) (hw : ∀ d ∈ tables_1, d.before a0 Z = true) (ws : List Jvm.Cond) (q1 : Int64) (q2 : Int64) (q3 : Int64) (q4 : Int64) (p5 : Int32) (cl_wC : Cell) (wC : Addr) (h0 : Heap) (n0 : Nat) (Z0 : n0 ≤ h0.size) (O0 : Old Z n0 h0) (Ar_wC : Arr Z Z.heap wC cl_wC (.object "java/lang/Long")) (hC : ∀ q : Int64, ¬ (lcmpW q (-128 : Int64)) < (0 : Int32) → ¬ (0 : Int32) < (lcmpW q (127 : Int64)) → ∃ y : Addr, ¬ ((q.toInt32 + (128 : Int32)) < 0 ∨ cl_wC.slots.size ≤ (q.toInt32 + (128 : Int32)).toNatClampNeg) ∧ cl_wC.slots[(q.toInt32 + (128 : Int32)).toNatClampNeg]? = some (.ref y) ∧ Exa Z Z.heap y "java/lang/Long") (S_wC : Sta Z Z.heap "java/lang/Long$LongCache" "cache" "[Ljava/lang/Long;" (.ref wC)) :
    MetFree l x (head1 (Jvm.Cond.code x code maxLocals ret :: ws) room_1) (fun a U => a = #[(.long q1), (.long q2), (.long q3), (.long q4), (.int p5)] ∧ Z.Warmed39 U.vm ∧ U.heap = h0) (fun _ _ _ _ _ => True) (fun _ U o U' => ∃ v L, o = .returned v ∧ Q0 Z q1 q2 q3 q4 p5 cl_wC wC h0 n0 v U'.heap L ∧ FrameEnd U o U' L room_1.cells room_1.slots) := by
  refine MetFree.of_bodySF (plainFor_of_name pn_0) hisR ?_
  intro p e s m args below meth c s₁ Bd hml0 hP hK
  obtain ⟨rfl, hZ, hh⟩ := hP
  have hx := Bd.exec
  have hby := Bd.bytes
  have hml : c.maxLocals = 19 := hml0
  have hown : s.vm.findClass "com/example/coracle/coracle/ServiceIDEqualsPinLaw" = some m.cls := findClass_of_methodNamed Bd.named
  have hnm := (name_of_methodNamed Bd.named Bd.method).1
  have hret := Bd.returns
  have hlocks : meth.locks = false := Bd.notSynchronized
  have X0 : Stand p l e room_1 s m #[(.long q1), (.long q2), (.long q3), (.long q4), (.int p5)] below meth c s₁ [] 0 0 := Stand.of_body Bd
  have e0 : s₁.heap = h0 := by rw [← hh, Bd.state]; rfl
  have N0 := Fr.nil n0
  have pre0 : ∀ t, Steps p.tables e below (s₁.setTop (mkF m 0 #[.val (.long q1), .second, .val (.long q2), .second, .val (.long q3), .second, .val (.long q4), .second, .val (.int p5), .unset, .unset, .unset, .unset, .unset, .unset, .unset, .unset, .unset, .unset] [])) t → Steps p.tables e below (s₁.setTop (entryFrame m #[(.long q1), (.long q2), (.long q3), (.long q4), (.int p5)] maxLocals)) t := fun t k => castTop (ef_0 m q1 q2 q3 q4 p5) k
  have pre88 : ∀ t, Steps p.tables e below (s₁.setTop (mkF m 4 #[.val (.long q1), .second, .val (.long q2), .second, .val (.long q3), .second, .val (.long q4), .second, .val (.int p5), .unset, .unset, .unset, .unset, .unset, .unset, .unset, .unset, .unset, .unset] [(.int (p5 &&& (1 : Int32)))])) t → Steps p.tables e below (s₁.setTop (entryFrame m #[(.long q1), (.long q2), (.long q3), (.long q4), (.int p5)] maxLocals)) t := by
    intro t k
    refine pre0 _ ?_
    show Steps p.tables e below (s₁.setTop (mkF m 0 #[.val (.long q1), .second, .val (.long q2), .second, .val (.long q3), .second, .val (.long q4), .second, .val (.int p5), .unset, .unset, .unset, .unset, .unset, .unset, .unset, .unset, .unset, .unset] [])) _
    refine XS.iload X0.here hx rfl (hb hby at_0) rfl ?_
    show Steps p.tables e below (s₁.setTop (mkF m 2 #[.val (.long q1), .second, .val (.long q2), .second, .val (.long q3), .second, .val (.long q4), .second, .val (.int p5), .unset, .unset, .unset, .unset, .unset, .unset, .unset, .unset, .unset, .unset] [(.int p5)])) _
    refine XS.iconst X0.here hx rfl (hb hby at_2) ?_
    show Steps p.tables e below (s₁.setTop (mkF m 3 #[.val (.long q1), .second, .val (.long q2), .second, .val (.long q3), .second, .val (.long q4), .second, .val (.int p5), .unset, .unset, .unset, .unset, .unset, .unset, .unset, .unset, .unset, .unset] [(.int (1 : Int32)), (.int p5)])) _
    refine XS.iand X0.here hx rfl (hb hby at_3) rfl ?_
    exact k
  by_cases hc89 : (p5 &&& (1 : Int32)) = (0 : Int32)
  · have pre90 : ∀ t, Steps p.tables e below (s₁.setTop (mkF m 11 #[.val (.long q1), .second, .val (.long q2), .second, .val (.long q3), .second, .val (.long q4), .second, .val (.int p5), .unset, .unset, .unset, .unset, .unset, .unset, .unset, .unset, .unset, .unset] [])) t → Steps p.tables e below (s₁.setTop (entryFrame m #[(.long q1), (.long q2), (.long q3), (.long q4), (.int p5)] maxLocals)) t := by
      intro t k
      refine pre88 _ ?_
      show Steps p.tables e below (s₁.setTop (mkF m 4 #[.val (.long q1), .second, .val (.long q2), .second, .val (.long q3), .second, .val (.long q4), .second, .val (.int p5), .unset, .unset, .unset, .unset, .unset, .unset, .unset, .unset, .unset, .unset] [(.int (p5 &&& (1 : Int32)))])) _
      refine XS.ifYes X0.here hx rfl (pc0 := 4) (pc' := 11) rfl (hb hby at_4) rfl ((if0 _ _).trans (teq hc89).1) (by decide) (by decide) ?_
      exact k
    have pre91 : ∀ t, Steps p.tables e below (s₁.setTop (mkF m 18 #[.val (.long q1), .second, .val (.long q2), .second, .val (.long q3), .second, .val (.long q4), .second, .val (.int p5), .val (.int (0 : Int32)), .unset, .unset, .unset, .unset, .unset, .unset, .unset, .unset, .unset] [(.int (p5 &&& (2 : Int32)))])) t → Steps p.tables e below (s₁.setTop (entryFrame m #[(.long q1), (.long q2), (.long q3), (.long q4), (.int p5)] maxLocals)) t := by
      intro t k
      refine pre90 _ ?_
      show Steps p.tables e below (s₁.setTop (mkF m 11 #[.val (.long q1), .second, .val (.long q2), .second, .val (.long q3), .second, .val (.long q4), .second, .val (.int p5), .unset, .unset, .unset, .unset, .unset, .unset, .unset, .unset, .unset, .unset] [])) _
      refine XS.iconst X0.here hx rfl (hb hby at_11) ?_
      show Steps p.tables e below (s₁.setTop (mkF m 12 #[.val (.long q1), .second, .val (.long q2), .second, .val (.long q3), .second, .val (.long q4), .second, .val (.int p5), .unset, .unset, .unset, .unset, .unset, .unset, .unset, .unset, .unset, .unset] [(.int (0 : Int32))])) _
      refine XS.istore X0.here hx rfl (hb hby at_12) rfl (l' := #[.val (.long q1), .second, .val (.long q2), .second, .val (.long q3), .second, .val (.long q4), .second, .val (.int p5), .val (.int (0 : Int32)), .unset, .unset, .unset, .unset, .unset, .unset, .unset, .unset, .unset]) rfl ?_
      show Steps p.tables e below (s₁.setTop (mkF m 14 #[.val (.long q1), .second, .val (.long q2), .second, .val (.long q3), .second, .val (.long q4), .second, .val (.int p5), .val (.int (0 : Int32)), .unset, .unset, .unset, .unset, .unset, .unset, .unset, .unset, .unset] [])) _
      refine XS.iload X0.here hx rfl (hb hby at_14) rfl ?_
      show Steps p.tables e below (s₁.setTop (mkF m 16 #[.val (.long q1), .second, .val (.long q2), .second, .val (.long q3), .second, .val (.long q4), .second, .val (.int p5), .val (.int (0 : Int32)), .unset, .unset, .unset, .unset, .unset, .unset, .unset, .unset, .unset] [(.int p5)])) _
      refine XS.iconst X0.here hx rfl (hb hby at_16) ?_
      show Steps p.tables e below (s₁.setTop (mkF m 17 #[.val (.long q1), .second, .val (.long q2), .second, .val (.long q3), .second, .val (.long q4), .second, .val (.int p5), .val (.int (0 : Int32)), .unset, .unset, .unset, .unset, .unset, .unset, .unset, .unset, .unset] [(.int (2 : Int32)), (.int p5)])) _
      refine XS.iand X0.here hx rfl (hb hby at_17) rfl ?_
      exact k
    by_cases hc92 : (p5 &&& (2 : Int32)) = (0 : Int32)
    · have pre93 : ∀ t, Steps p.tables e below (s₁.setTop (mkF m 25 #[.val (.long q1), .second, .val (.long q2), .second, .val (.long q3), .second, .val (.long q4), .second, .val (.int p5), .val (.int (0 : Int32)), .unset, .unset, .unset, .unset, .unset, .unset, .unset, .unset, .unset] [])) t → Steps p.tables e below (s₁.setTop (entryFrame m #[(.long q1), (.long q2), (.long q3), (.long q4), (.int p5)] maxLocals)) t := by
        intro t k
        refine pre91 _ ?_
        show Steps p.tables e below (s₁.setTop (mkF m 18 #[.val (.long q1), .second, .val (.long q2), .second, .val (.long q3), .second, .val (.long q4), .second, .val (.int p5), .val (.int (0 : Int32)), .unset, .unset, .unset, .unset, .unset, .unset, .unset, .unset, .unset] [(.int (p5 &&& (2 : Int32)))])) _
        refine XS.ifYes X0.here hx rfl (pc0 := 18) (pc' := 25) rfl (hb hby at_18) rfl ((if0 _ _).trans (teq hc92).1) (by decide) (by decide) ?_
        exact k
      have pre94 : ∀ t, Steps p.tables e below (s₁.setTop (mkF m 30 #[.val (.long q1), .second, .val (.long q2), .second, .val (.long q3), .second, .val (.long q4), .second, .val (.int p5), .val (.int (0 : Int32)), .val (.int (0 : Int32)), .unset, .unset, .unset, .unset, .unset, .unset, .unset, .unset] [(.int (0 : Int32))])) t → Steps p.tables e below (s₁.setTop (entryFrame m #[(.long q1), (.long q2), (.long q3), (.long q4), (.int p5)] maxLocals)) t := by
        intro t k
        refine pre93 _ ?_
        show Steps p.tables e below (s₁.setTop (mkF m 25 #[.val (.long q1), .second, .val (.long q2), .second, .val (.long q3), .second, .val (.long q4), .second, .val (.int p5), .val (.int (0 : Int32)), .unset, .unset, .unset, .unset, .unset, .unset, .unset, .unset, .unset] [])) _
        refine XS.iconst X0.here hx rfl (hb hby at_25) ?_
        show Steps p.tables e below (s₁.setTop (mkF m 26 #[.val (.long q1), .second, .val (.long q2), .second, .val (.long q3), .second, .val (.long q4), .second, .val (.int p5), .val (.int (0 : Int32)), .unset, .unset, .unset, .unset, .unset, .unset, .unset, .unset, .unset] [(.int (0 : Int32))])) _
        refine XS.istore X0.here hx rfl (hb hby at_26) rfl (l' := #[.val (.long q1), .second, .val (.long q2), .second, .val (.long q3), .second, .val (.long q4), .second, .val (.int p5), .val (.int (0 : Int32)), .val (.int (0 : Int32)), .unset, .unset, .unset, .unset, .unset, .unset, .unset, .unset]) rfl ?_
        show Steps p.tables e below (s₁.setTop (mkF m 28 #[.val (.long q1), .second, .val (.long q2), .second, .val (.long q3), .second, .val (.long q4), .second, .val (.int p5), .val (.int (0 : Int32)), .val (.int (0 : Int32)), .unset, .unset, .unset, .unset, .unset, .unset, .unset, .unset] [])) _
        refine XS.iload X0.here hx rfl (hb hby at_28) rfl ?_
        exact k
      have pre96 : ∀ t, Steps p.tables e below (s₁.setTop (mkF m 37 #[.val (.long q1), .second, .val (.long q2), .second, .val (.long q3), .second, .val (.long q4), .second, .val (.int p5), .val (.int (0 : Int32)), .val (.int (0 : Int32)), .unset, .unset, .unset, .unset, .unset, .unset, .unset, .unset] [])) t → Steps p.tables e below (s₁.setTop (entryFrame m #[(.long q1), (.long q2), (.long q3), (.long q4), (.int p5)] maxLocals)) t := by
        intro t k
        refine pre94 _ ?_
        show Steps p.tables e below (s₁.setTop (mkF m 30 #[.val (.long q1), .second, .val (.long q2), .second, .val (.long q3), .second, .val (.long q4), .second, .val (.int p5), .val (.int (0 : Int32)), .val (.int (0 : Int32)), .unset, .unset, .unset, .unset, .unset, .unset, .unset, .unset] [(.int (0 : Int32))])) _
        refine XS.ifYes X0.here hx rfl (pc0 := 30) (pc' := 37) rfl (hb hby at_30) rfl ((if0 _ _).trans (teq (rfl : (0 : Int32) = (0 : Int32))).1) (by decide) (by decide) ?_
        exact k
      have pre97 : ∀ t, Steps p.tables e below (s₁.setTop (mkF m 43 #[.val (.long q1), .second, .val (.long q2), .second, .val (.long q3), .second, .val (.long q4), .second, .val (.int p5), .val (.int (0 : Int32)), .val (.int (0 : Int32)), .val (.long q3), .second, .unset, .unset, .unset, .unset, .unset, .unset] [(.int (0 : Int32))])) t → Steps p.tables e below (s₁.setTop (entryFrame m #[(.long q1), (.long q2), (.long q3), (.long q4), (.int p5)] maxLocals)) t := by
        intro t k
        refine pre96 _ ?_
        show Steps p.tables e below (s₁.setTop (mkF m 37 #[.val (.long q1), .second, .val (.long q2), .second, .val (.long q3), .second, .val (.long q4), .second, .val (.int p5), .val (.int (0 : Int32)), .val (.int (0 : Int32)), .unset, .unset, .unset, .unset, .unset, .unset, .unset, .unset] [])) _
        refine XS.lload X0.here hx rfl (hb hby at_37) rfl ?_
        show Steps p.tables e below (s₁.setTop (mkF m 39 #[.val (.long q1), .second, .val (.long q2), .second, .val (.long q3), .second, .val (.long q4), .second, .val (.int p5), .val (.int (0 : Int32)), .val (.int (0 : Int32)), .unset, .unset, .unset, .unset, .unset, .unset, .unset, .unset] [(.long q3)])) _
        refine XS.lstore X0.here hx rfl (hb hby at_39) rfl (l' := #[.val (.long q1), .second, .val (.long q2), .second, .val (.long q3), .second, .val (.long q4), .second, .val (.int p5), .val (.int (0 : Int32)), .val (.int (0 : Int32)), .val (.long q3), .second, .unset, .unset, .unset, .unset, .unset, .unset]) rfl ?_
        show Steps p.tables e below (s₁.setTop (mkF m 41 #[.val (.long q1), .second, .val (.long q2), .second, .val (.long q3), .second, .val (.long q4), .second, .val (.int p5), .val (.int (0 : Int32)), .val (.int (0 : Int32)), .val (.long q3), .second, .unset, .unset, .unset, .unset, .unset, .unset] [])) _
        refine XS.iload X0.here hx rfl (hb hby at_41) rfl ?_
        exact k
      have pre99 : ∀ t, Steps p.tables e below (s₁.setTop (mkF m 50 #[.val (.long q1), .second, .val (.long q2), .second, .val (.long q3), .second, .val (.long q4), .second, .val (.int p5), .val (.int (0 : Int32)), .val (.int (0 : Int32)), .val (.long q3), .second, .unset, .unset, .unset, .unset, .unset, .unset] [])) t → Steps p.tables e below (s₁.setTop (entryFrame m #[(.long q1), (.long q2), (.long q3), (.long q4), (.int p5)] maxLocals)) t := by
        intro t k
        refine pre97 _ ?_
        show Steps p.tables e below (s₁.setTop (mkF m 43 #[.val (.long q1), .second, .val (.long q2), .second, .val (.long q3), .second, .val (.long q4), .second, .val (.int p5), .val (.int (0 : Int32)), .val (.int (0 : Int32)), .val (.long q3), .second, .unset, .unset, .unset, .unset, .unset, .unset] [(.int (0 : Int32))])) _
        refine XS.ifYes X0.here hx rfl (pc0 := 43) (pc' := 50) rfl (hb hby at_43) rfl ((if0 _ _).trans (teq (rfl : (0 : Int32) = (0 : Int32))).1) (by decide) (by decide) ?_
        exact k
      have pre100 : ∀ t, Steps p.tables e below (s₁.setTop (mkF m 54 #[.val (.long q1), .second, .val (.long q2), .second, .val (.long q3), .second, .val (.long q4), .second, .val (.int p5), .val (.int (0 : Int32)), .val (.int (0 : Int32)), .val (.long q3), .second, .val (.long q4), .second, .unset, .unset, .unset, .unset] [])) t → Steps p.tables e below (s₁.setTop (entryFrame m #[(.long q1), (.long q2), (.long q3), (.long q4), (.int p5)] maxLocals)) t := by
        intro t k
        refine pre99 _ ?_
        show Steps p.tables e below (s₁.setTop (mkF m 50 #[.val (.long q1), .second, .val (.long q2), .second, .val (.long q3), .second, .val (.long q4), .second, .val (.int p5), .val (.int (0 : Int32)), .val (.int (0 : Int32)), .val (.long q3), .second, .unset, .unset, .unset, .unset, .unset, .unset] [])) _
        refine XS.lload X0.here hx rfl (hb hby at_50) rfl ?_
        show Steps p.tables e below (s₁.setTop (mkF m 52 #[.val (.long q1), .second, .val (.long q2), .second, .val (.long q3), .second, .val (.long q4), .second, .val (.int p5), .val (.int (0 : Int32)), .val (.int (0 : Int32)), .val (.long q3), .second, .unset, .unset, .unset, .unset, .unset, .unset] [(.long q4)])) _
        refine XS.lstore X0.here hx rfl (hb hby at_52) rfl (l' := #[.val (.long q1), .second, .val (.long q2), .second, .val (.long q3), .second, .val (.long q4), .second, .val (.int p5), .val (.int (0 : Int32)), .val (.int (0 : Int32)), .val (.long q3), .second, .val (.long q4), .second, .unset, .unset, .unset, .unset]) rfl ?_
        exact k
      obtain ⟨s₂, o, st215, g1, g2, v, L, ho, ⟨hv, hN⟩, hfe⟩ := pc0_54_0 q1 q2 q3 q4 p5 (0 : Int32) (0 : Int32) q3 q4 cl_wC wC X0 hx hZ hw hby hml hown hret hlocks e0 N0 Z0 O0 Ar_wC hC S_wC
      exact ⟨s₂, o, pre100 _ st215, g1, g2, v, L, ho, ⟨(by rw [F0, if_pos hc89, if_pos hc92]; exact hv), hN⟩, hfe⟩
    · have pre216 : ∀ t, Steps p.tables e below (s₁.setTop (mkF m 21 #[.val (.long q1), .second, .val (.long q2), .second, .val (.long q3), .second, .val (.long q4), .second, .val (.int p5), .val (.int (0 : Int32)), .unset, .unset, .unset, .unset, .unset, .unset, .unset, .unset, .unset] [])) t → Steps p.tables e below (s₁.setTop (entryFrame m #[(.long q1), (.long q2), (.long q3), (.long q4), (.int p5)] maxLocals)) t := by
        intro t k
        refine pre91 _ ?_
        show Steps p.tables e below (s₁.setTop (mkF m 18 #[.val (.long q1), .second, .val (.long q2), .second, .val (.long q3), .second, .val (.long q4), .second, .val (.int p5), .val (.int (0 : Int32)), .unset, .unset, .unset, .unset, .unset, .unset, .unset, .unset, .unset] [(.int (p5 &&& (2 : Int32)))])) _
        refine XS.ifNo X0.here hx rfl (hb hby at_18) rfl ((if0 _ _).trans (feq hc92).1) ?_
        exact k
      have pre217 : ∀ t, Steps p.tables e below (s₁.setTop (mkF m 30 #[.val (.long q1), .second, .val (.long q2), .second, .val (.long q3), .second, .val (.long q4), .second, .val (.int p5), .val (.int (0 : Int32)), .val (.int (1 : Int32)), .unset, .unset, .unset, .unset, .unset, .unset, .unset, .unset] [(.int (0 : Int32))])) t → Steps p.tables e below (s₁.setTop (entryFrame m #[(.long q1), (.long q2), (.long q3), (.long q4), (.int p5)] maxLocals)) t := by
        intro t k
        refine pre216 _ ?_
        show Steps p.tables e below (s₁.setTop (mkF m 21 #[.val (.long q1), .second, .val (.long q2), .second, .val (.long q3), .second, .val (.long q4), .second, .val (.int p5), .val (.int (0 : Int32)), .unset, .unset, .unset, .unset, .unset, .unset, .unset, .unset, .unset] [])) _
        refine XS.iconst X0.here hx rfl (hb hby at_21) ?_
        show Steps p.tables e below (s₁.setTop (mkF m 22 #[.val (.long q1), .second, .val (.long q2), .second, .val (.long q3), .second, .val (.long q4), .second, .val (.int p5), .val (.int (0 : Int32)), .unset, .unset, .unset, .unset, .unset, .unset, .unset, .unset, .unset] [(.int (1 : Int32))])) _
        refine XS.goto X0.here hx rfl (pc0 := 22) (pc' := 26) rfl (hb hby at_22) (by decide) (by decide) ?_
        show Steps p.tables e below (s₁.setTop (mkF m 26 #[.val (.long q1), .second, .val (.long q2), .second, .val (.long q3), .second, .val (.long q4), .second, .val (.int p5), .val (.int (0 : Int32)), .unset, .unset, .unset, .unset, .unset, .unset, .unset, .unset, .unset] [(.int (1 : Int32))])) _
        refine XS.istore X0.here hx rfl (hb hby at_26) rfl (l' := #[.val (.long q1), .second, .val (.long q2), .second, .val (.long q3), .second, .val (.long q4), .second, .val (.int p5), .val (.int (0 : Int32)), .val (.int (1 : Int32)), .unset, .unset, .unset, .unset, .unset, .unset, .unset, .unset]) rfl ?_
        show Steps p.tables e below (s₁.setTop (mkF m 28 #[.val (.long q1), .second, .val (.long q2), .second, .val (.long q3), .second, .val (.long q4), .second, .val (.int p5), .val (.int (0 : Int32)), .val (.int (1 : Int32)), .unset, .unset, .unset, .unset, .unset, .unset, .unset, .unset] [])) _
        refine XS.iload X0.here hx rfl (hb hby at_28) rfl ?_
        exact k
      have pre219 : ∀ t, Steps p.tables e below (s₁.setTop (mkF m 37 #[.val (.long q1), .second, .val (.long q2), .second, .val (.long q3), .second, .val (.long q4), .second, .val (.int p5), .val (.int (0 : Int32)), .val (.int (1 : Int32)), .unset, .unset, .unset, .unset, .unset, .unset, .unset, .unset] [])) t → Steps p.tables e below (s₁.setTop (entryFrame m #[(.long q1), (.long q2), (.long q3), (.long q4), (.int p5)] maxLocals)) t := by
        intro t k
        refine pre217 _ ?_
        show Steps p.tables e below (s₁.setTop (mkF m 30 #[.val (.long q1), .second, .val (.long q2), .second, .val (.long q3), .second, .val (.long q4), .second, .val (.int p5), .val (.int (0 : Int32)), .val (.int (1 : Int32)), .unset, .unset, .unset, .unset, .unset, .unset, .unset, .unset] [(.int (0 : Int32))])) _
        refine XS.ifYes X0.here hx rfl (pc0 := 30) (pc' := 37) rfl (hb hby at_30) rfl ((if0 _ _).trans (teq (rfl : (0 : Int32) = (0 : Int32))).1) (by decide) (by decide) ?_
        exact k
      have pre220 : ∀ t, Steps p.tables e below (s₁.setTop (mkF m 43 #[.val (.long q1), .second, .val (.long q2), .second, .val (.long q3), .second, .val (.long q4), .second, .val (.int p5), .val (.int (0 : Int32)), .val (.int (1 : Int32)), .val (.long q3), .second, .unset, .unset, .unset, .unset, .unset, .unset] [(.int (1 : Int32))])) t → Steps p.tables e below (s₁.setTop (entryFrame m #[(.long q1), (.long q2), (.long q3), (.long q4), (.int p5)] maxLocals)) t := by
        intro t k
        refine pre219 _ ?_
        show Steps p.tables e below (s₁.setTop (mkF m 37 #[.val (.long q1), .second, .val (.long q2), .second, .val (.long q3), .second, .val (.long q4), .second, .val (.int p5), .val (.int (0 : Int32)), .val (.int (1 : Int32)), .unset, .unset, .unset, .unset, .unset, .unset, .unset, .unset] [])) _
        refine XS.lload X0.here hx rfl (hb hby at_37) rfl ?_
        show Steps p.tables e below (s₁.setTop (mkF m 39 #[.val (.long q1), .second, .val (.long q2), .second, .val (.long q3), .second, .val (.long q4), .second, .val (.int p5), .val (.int (0 : Int32)), .val (.int (1 : Int32)), .unset, .unset, .unset, .unset, .unset, .unset, .unset, .unset] [(.long q3)])) _
        refine XS.lstore X0.here hx rfl (hb hby at_39) rfl (l' := #[.val (.long q1), .second, .val (.long q2), .second, .val (.long q3), .second, .val (.long q4), .second, .val (.int p5), .val (.int (0 : Int32)), .val (.int (1 : Int32)), .val (.long q3), .second, .unset, .unset, .unset, .unset, .unset, .unset]) rfl ?_
        show Steps p.tables e below (s₁.setTop (mkF m 41 #[.val (.long q1), .second, .val (.long q2), .second, .val (.long q3), .second, .val (.long q4), .second, .val (.int p5), .val (.int (0 : Int32)), .val (.int (1 : Int32)), .val (.long q3), .second, .unset, .unset, .unset, .unset, .unset, .unset] [])) _
        refine XS.iload X0.here hx rfl (hb hby at_41) rfl ?_
        exact k
      have pre222 : ∀ t, Steps p.tables e below (s₁.setTop (mkF m 46 #[.val (.long q1), .second, .val (.long q2), .second, .val (.long q3), .second, .val (.long q4), .second, .val (.int p5), .val (.int (0 : Int32)), .val (.int (1 : Int32)), .val (.long q3), .second, .unset, .unset, .unset, .unset, .unset, .unset] [])) t → Steps p.tables e below (s₁.setTop (entryFrame m #[(.long q1), (.long q2), (.long q3), (.long q4), (.int p5)] maxLocals)) t := by
        intro t k
        refine pre220 _ ?_
        show Steps p.tables e below (s₁.setTop (mkF m 43 #[.val (.long q1), .second, .val (.long q2), .second, .val (.long q3), .second, .val (.long q4), .second, .val (.int p5), .val (.int (0 : Int32)), .val (.int (1 : Int32)), .val (.long q3), .second, .unset, .unset, .unset, .unset, .unset, .unset] [(.int (1 : Int32))])) _
        refine XS.ifNo X0.here hx rfl (hb hby at_43) rfl ((if0 _ _).trans (feq (by decide : ¬ ((1 : Int32) = (0 : Int32)))).1) ?_
        exact k
      have pre223 : ∀ t, Steps p.tables e below (s₁.setTop (mkF m 54 #[.val (.long q1), .second, .val (.long q2), .second, .val (.long q3), .second, .val (.long q4), .second, .val (.int p5), .val (.int (0 : Int32)), .val (.int (1 : Int32)), .val (.long q3), .second, .val (.long q2), .second, .unset, .unset, .unset, .unset] [])) t → Steps p.tables e below (s₁.setTop (entryFrame m #[(.long q1), (.long q2), (.long q3), (.long q4), (.int p5)] maxLocals)) t := by
        intro t k
        refine pre222 _ ?_
        show Steps p.tables e below (s₁.setTop (mkF m 46 #[.val (.long q1), .second, .val (.long q2), .second, .val (.long q3), .second, .val (.long q4), .second, .val (.int p5), .val (.int (0 : Int32)), .val (.int (1 : Int32)), .val (.long q3), .second, .unset, .unset, .unset, .unset, .unset, .unset] [])) _
        refine XS.lloadN X0.here hx rfl (hb hby at_46) rfl ?_
        show Steps p.tables e below (s₁.setTop (mkF m 47 #[.val (.long q1), .second, .val (.long q2), .second, .val (.long q3), .second, .val (.long q4), .second, .val (.int p5), .val (.int (0 : Int32)), .val (.int (1 : Int32)), .val (.long q3), .second, .unset, .unset, .unset, .unset, .unset, .unset] [(.long q2)])) _
        refine XS.goto X0.here hx rfl (pc0 := 47) (pc' := 52) rfl (hb hby at_47) (by decide) (by decide) ?_
        show Steps p.tables e below (s₁.setTop (mkF m 52 #[.val (.long q1), .second, .val (.long q2), .second, .val (.long q3), .second, .val (.long q4), .second, .val (.int p5), .val (.int (0 : Int32)), .val (.int (1 : Int32)), .val (.long q3), .second, .unset, .unset, .unset, .unset, .unset, .unset] [(.long q2)])) _
        refine XS.lstore X0.here hx rfl (hb hby at_52) rfl (l' := #[.val (.long q1), .second, .val (.long q2), .second, .val (.long q3), .second, .val (.long q4), .second, .val (.int p5), .val (.int (0 : Int32)), .val (.int (1 : Int32)), .val (.long q3), .second, .val (.long q2), .second, .unset, .unset, .unset, .unset]) rfl ?_
        exact k
      obtain ⟨s₂, o, st224, g1, g2, v, L, ho, ⟨hv, hN⟩, hfe⟩ := pc0_54_0 q1 q2 q3 q4 p5 (0 : Int32) (1 : Int32) q3 q2 cl_wC wC X0 hx hZ hw hby hml hown hret hlocks e0 N0 Z0 O0 Ar_wC hC S_wC
      exact ⟨s₂, o, pre223 _ st224, g1, g2, v, L, ho, ⟨(by rw [F0, if_pos hc89, if_neg hc92]; exact hv), hN⟩, hfe⟩
  · have pre225 : ∀ t, Steps p.tables e below (s₁.setTop (mkF m 7 #[.val (.long q1), .second, .val (.long q2), .second, .val (.long q3), .second, .val (.long q4), .second, .val (.int p5), .unset, .unset, .unset, .unset, .unset, .unset, .unset, .unset, .unset, .unset] [])) t → Steps p.tables e below (s₁.setTop (entryFrame m #[(.long q1), (.long q2), (.long q3), (.long q4), (.int p5)] maxLocals)) t := by
      intro t k
      refine pre88 _ ?_
      show Steps p.tables e below (s₁.setTop (mkF m 4 #[.val (.long q1), .second, .val (.long q2), .second, .val (.long q3), .second, .val (.long q4), .second, .val (.int p5), .unset, .unset, .unset, .unset, .unset, .unset, .unset, .unset, .unset, .unset] [(.int (p5 &&& (1 : Int32)))])) _
      refine XS.ifNo X0.here hx rfl (hb hby at_4) rfl ((if0 _ _).trans (feq hc89).1) ?_
      exact k
    have pre226 : ∀ t, Steps p.tables e below (s₁.setTop (mkF m 18 #[.val (.long q1), .second, .val (.long q2), .second, .val (.long q3), .second, .val (.long q4), .second, .val (.int p5), .val (.int (1 : Int32)), .unset, .unset, .unset, .unset, .unset, .unset, .unset, .unset, .unset] [(.int (p5 &&& (2 : Int32)))])) t → Steps p.tables e below (s₁.setTop (entryFrame m #[(.long q1), (.long q2), (.long q3), (.long q4), (.int p5)] maxLocals)) t := by
      intro t k
      refine pre225 _ ?_
      show Steps p.tables e below (s₁.setTop (mkF m 7 #[.val (.long q1), .second, .val (.long q2), .second, .val (.long q3), .second, .val (.long q4), .second, .val (.int p5), .unset, .unset, .unset, .unset, .unset, .unset, .unset, .unset, .unset, .unset] [])) _
      refine XS.iconst X0.here hx rfl (hb hby at_7) ?_
      show Steps p.tables e below (s₁.setTop (mkF m 8 #[.val (.long q1), .second, .val (.long q2), .second, .val (.long q3), .second, .val (.long q4), .second, .val (.int p5), .unset, .unset, .unset, .unset, .unset, .unset, .unset, .unset, .unset, .unset] [(.int (1 : Int32))])) _
      refine XS.goto X0.here hx rfl (pc0 := 8) (pc' := 12) rfl (hb hby at_8) (by decide) (by decide) ?_
      show Steps p.tables e below (s₁.setTop (mkF m 12 #[.val (.long q1), .second, .val (.long q2), .second, .val (.long q3), .second, .val (.long q4), .second, .val (.int p5), .unset, .unset, .unset, .unset, .unset, .unset, .unset, .unset, .unset, .unset] [(.int (1 : Int32))])) _
      refine XS.istore X0.here hx rfl (hb hby at_12) rfl (l' := #[.val (.long q1), .second, .val (.long q2), .second, .val (.long q3), .second, .val (.long q4), .second, .val (.int p5), .val (.int (1 : Int32)), .unset, .unset, .unset, .unset, .unset, .unset, .unset, .unset, .unset]) rfl ?_
      show Steps p.tables e below (s₁.setTop (mkF m 14 #[.val (.long q1), .second, .val (.long q2), .second, .val (.long q3), .second, .val (.long q4), .second, .val (.int p5), .val (.int (1 : Int32)), .unset, .unset, .unset, .unset, .unset, .unset, .unset, .unset, .unset] [])) _
      refine XS.iload X0.here hx rfl (hb hby at_14) rfl ?_
      show Steps p.tables e below (s₁.setTop (mkF m 16 #[.val (.long q1), .second, .val (.long q2), .second, .val (.long q3), .second, .val (.long q4), .second, .val (.int p5), .val (.int (1 : Int32)), .unset, .unset, .unset, .unset, .unset, .unset, .unset, .unset, .unset] [(.int p5)])) _
      refine XS.iconst X0.here hx rfl (hb hby at_16) ?_
      show Steps p.tables e below (s₁.setTop (mkF m 17 #[.val (.long q1), .second, .val (.long q2), .second, .val (.long q3), .second, .val (.long q4), .second, .val (.int p5), .val (.int (1 : Int32)), .unset, .unset, .unset, .unset, .unset, .unset, .unset, .unset, .unset] [(.int (2 : Int32)), (.int p5)])) _
      refine XS.iand X0.here hx rfl (hb hby at_17) rfl ?_
      exact k
    by_cases hc227 : (p5 &&& (2 : Int32)) = (0 : Int32)
    · have pre228 : ∀ t, Steps p.tables e below (s₁.setTop (mkF m 25 #[.val (.long q1), .second, .val (.long q2), .second, .val (.long q3), .second, .val (.long q4), .second, .val (.int p5), .val (.int (1 : Int32)), .unset, .unset, .unset, .unset, .unset, .unset, .unset, .unset, .unset] [])) t → Steps p.tables e below (s₁.setTop (entryFrame m #[(.long q1), (.long q2), (.long q3), (.long q4), (.int p5)] maxLocals)) t := by
        intro t k
        refine pre226 _ ?_
        show Steps p.tables e below (s₁.setTop (mkF m 18 #[.val (.long q1), .second, .val (.long q2), .second, .val (.long q3), .second, .val (.long q4), .second, .val (.int p5), .val (.int (1 : Int32)), .unset, .unset, .unset, .unset, .unset, .unset, .unset, .unset, .unset] [(.int (p5 &&& (2 : Int32)))])) _
        refine XS.ifYes X0.here hx rfl (pc0 := 18) (pc' := 25) rfl (hb hby at_18) rfl ((if0 _ _).trans (teq hc227).1) (by decide) (by decide) ?_
        exact k
      have pre229 : ∀ t, Steps p.tables e below (s₁.setTop (mkF m 30 #[.val (.long q1), .second, .val (.long q2), .second, .val (.long q3), .second, .val (.long q4), .second, .val (.int p5), .val (.int (1 : Int32)), .val (.int (0 : Int32)), .unset, .unset, .unset, .unset, .unset, .unset, .unset, .unset] [(.int (1 : Int32))])) t → Steps p.tables e below (s₁.setTop (entryFrame m #[(.long q1), (.long q2), (.long q3), (.long q4), (.int p5)] maxLocals)) t := by
        intro t k
        refine pre228 _ ?_
        show Steps p.tables e below (s₁.setTop (mkF m 25 #[.val (.long q1), .second, .val (.long q2), .second, .val (.long q3), .second, .val (.long q4), .second, .val (.int p5), .val (.int (1 : Int32)), .unset, .unset, .unset, .unset, .unset, .unset, .unset, .unset, .unset] [])) _
        refine XS.iconst X0.here hx rfl (hb hby at_25) ?_
        show Steps p.tables e below (s₁.setTop (mkF m 26 #[.val (.long q1), .second, .val (.long q2), .second, .val (.long q3), .second, .val (.long q4), .second, .val (.int p5), .val (.int (1 : Int32)), .unset, .unset, .unset, .unset, .unset, .unset, .unset, .unset, .unset] [(.int (0 : Int32))])) _
        refine XS.istore X0.here hx rfl (hb hby at_26) rfl (l' := #[.val (.long q1), .second, .val (.long q2), .second, .val (.long q3), .second, .val (.long q4), .second, .val (.int p5), .val (.int (1 : Int32)), .val (.int (0 : Int32)), .unset, .unset, .unset, .unset, .unset, .unset, .unset, .unset]) rfl ?_
        show Steps p.tables e below (s₁.setTop (mkF m 28 #[.val (.long q1), .second, .val (.long q2), .second, .val (.long q3), .second, .val (.long q4), .second, .val (.int p5), .val (.int (1 : Int32)), .val (.int (0 : Int32)), .unset, .unset, .unset, .unset, .unset, .unset, .unset, .unset] [])) _
        refine XS.iload X0.here hx rfl (hb hby at_28) rfl ?_
        exact k
      have pre231 : ∀ t, Steps p.tables e below (s₁.setTop (mkF m 33 #[.val (.long q1), .second, .val (.long q2), .second, .val (.long q3), .second, .val (.long q4), .second, .val (.int p5), .val (.int (1 : Int32)), .val (.int (0 : Int32)), .unset, .unset, .unset, .unset, .unset, .unset, .unset, .unset] [])) t → Steps p.tables e below (s₁.setTop (entryFrame m #[(.long q1), (.long q2), (.long q3), (.long q4), (.int p5)] maxLocals)) t := by
        intro t k
        refine pre229 _ ?_
        show Steps p.tables e below (s₁.setTop (mkF m 30 #[.val (.long q1), .second, .val (.long q2), .second, .val (.long q3), .second, .val (.long q4), .second, .val (.int p5), .val (.int (1 : Int32)), .val (.int (0 : Int32)), .unset, .unset, .unset, .unset, .unset, .unset, .unset, .unset] [(.int (1 : Int32))])) _
        refine XS.ifNo X0.here hx rfl (hb hby at_30) rfl ((if0 _ _).trans (feq (by decide : ¬ ((1 : Int32) = (0 : Int32)))).1) ?_
        exact k
      have pre232 : ∀ t, Steps p.tables e below (s₁.setTop (mkF m 43 #[.val (.long q1), .second, .val (.long q2), .second, .val (.long q3), .second, .val (.long q4), .second, .val (.int p5), .val (.int (1 : Int32)), .val (.int (0 : Int32)), .val (.long q1), .second, .unset, .unset, .unset, .unset, .unset, .unset] [(.int (0 : Int32))])) t → Steps p.tables e below (s₁.setTop (entryFrame m #[(.long q1), (.long q2), (.long q3), (.long q4), (.int p5)] maxLocals)) t := by
        intro t k
        refine pre231 _ ?_
        show Steps p.tables e below (s₁.setTop (mkF m 33 #[.val (.long q1), .second, .val (.long q2), .second, .val (.long q3), .second, .val (.long q4), .second, .val (.int p5), .val (.int (1 : Int32)), .val (.int (0 : Int32)), .unset, .unset, .unset, .unset, .unset, .unset, .unset, .unset] [])) _
        refine XS.lloadN X0.here hx rfl (hb hby at_33) rfl ?_
        show Steps p.tables e below (s₁.setTop (mkF m 34 #[.val (.long q1), .second, .val (.long q2), .second, .val (.long q3), .second, .val (.long q4), .second, .val (.int p5), .val (.int (1 : Int32)), .val (.int (0 : Int32)), .unset, .unset, .unset, .unset, .unset, .unset, .unset, .unset] [(.long q1)])) _
        refine XS.goto X0.here hx rfl (pc0 := 34) (pc' := 39) rfl (hb hby at_34) (by decide) (by decide) ?_
        show Steps p.tables e below (s₁.setTop (mkF m 39 #[.val (.long q1), .second, .val (.long q2), .second, .val (.long q3), .second, .val (.long q4), .second, .val (.int p5), .val (.int (1 : Int32)), .val (.int (0 : Int32)), .unset, .unset, .unset, .unset, .unset, .unset, .unset, .unset] [(.long q1)])) _
        refine XS.lstore X0.here hx rfl (hb hby at_39) rfl (l' := #[.val (.long q1), .second, .val (.long q2), .second, .val (.long q3), .second, .val (.long q4), .second, .val (.int p5), .val (.int (1 : Int32)), .val (.int (0 : Int32)), .val (.long q1), .second, .unset, .unset, .unset, .unset, .unset, .unset]) rfl ?_
        show Steps p.tables e below (s₁.setTop (mkF m 41 #[.val (.long q1), .second, .val (.long q2), .second, .val (.long q3), .second, .val (.long q4), .second, .val (.int p5), .val (.int (1 : Int32)), .val (.int (0 : Int32)), .val (.long q1), .second, .unset, .unset, .unset, .unset, .unset, .unset] [])) _
        refine XS.iload X0.here hx rfl (hb hby at_41) rfl ?_
        exact k
      have pre234 : ∀ t, Steps p.tables e below (s₁.setTop (mkF m 50 #[.val (.long q1), .second, .val (.long q2), .second, .val (.long q3), .second, .val (.long q4), .second, .val (.int p5), .val (.int (1 : Int32)), .val (.int (0 : Int32)), .val (.long q1), .second, .unset, .unset, .unset, .unset, .unset, .unset] [])) t → Steps p.tables e below (s₁.setTop (entryFrame m #[(.long q1), (.long q2), (.long q3), (.long q4), (.int p5)] maxLocals)) t := by
        intro t k
        refine pre232 _ ?_
        show Steps p.tables e below (s₁.setTop (mkF m 43 #[.val (.long q1), .second, .val (.long q2), .second, .val (.long q3), .second, .val (.long q4), .second, .val (.int p5), .val (.int (1 : Int32)), .val (.int (0 : Int32)), .val (.long q1), .second, .unset, .unset, .unset, .unset, .unset, .unset] [(.int (0 : Int32))])) _
        refine XS.ifYes X0.here hx rfl (pc0 := 43) (pc' := 50) rfl (hb hby at_43) rfl ((if0 _ _).trans (teq (rfl : (0 : Int32) = (0 : Int32))).1) (by decide) (by decide) ?_
        exact k
      have pre235 : ∀ t, Steps p.tables e below (s₁.setTop (mkF m 54 #[.val (.long q1), .second, .val (.long q2), .second, .val (.long q3), .second, .val (.long q4), .second, .val (.int p5), .val (.int (1 : Int32)), .val (.int (0 : Int32)), .val (.long q1), .second, .val (.long q4), .second, .unset, .unset, .unset, .unset] [])) t → Steps p.tables e below (s₁.setTop (entryFrame m #[(.long q1), (.long q2), (.long q3), (.long q4), (.int p5)] maxLocals)) t := by
        intro t k
        refine pre234 _ ?_
        show Steps p.tables e below (s₁.setTop (mkF m 50 #[.val (.long q1), .second, .val (.long q2), .second, .val (.long q3), .second, .val (.long q4), .second, .val (.int p5), .val (.int (1 : Int32)), .val (.int (0 : Int32)), .val (.long q1), .second, .unset, .unset, .unset, .unset, .unset, .unset] [])) _
        refine XS.lload X0.here hx rfl (hb hby at_50) rfl ?_
        show Steps p.tables e below (s₁.setTop (mkF m 52 #[.val (.long q1), .second, .val (.long q2), .second, .val (.long q3), .second, .val (.long q4), .second, .val (.int p5), .val (.int (1 : Int32)), .val (.int (0 : Int32)), .val (.long q1), .second, .unset, .unset, .unset, .unset, .unset, .unset] [(.long q4)])) _
        refine XS.lstore X0.here hx rfl (hb hby at_52) rfl (l' := #[.val (.long q1), .second, .val (.long q2), .second, .val (.long q3), .second, .val (.long q4), .second, .val (.int p5), .val (.int (1 : Int32)), .val (.int (0 : Int32)), .val (.long q1), .second, .val (.long q4), .second, .unset, .unset, .unset, .unset]) rfl ?_
        exact k
      obtain ⟨s₂, o, st236, g1, g2, v, L, ho, ⟨hv, hN⟩, hfe⟩ := pc0_54_0 q1 q2 q3 q4 p5 (1 : Int32) (0 : Int32) q1 q4 cl_wC wC X0 hx hZ hw hby hml hown hret hlocks e0 N0 Z0 O0 Ar_wC hC S_wC
      exact ⟨s₂, o, pre235 _ st236, g1, g2, v, L, ho, ⟨(by rw [F0, if_neg hc89, if_pos hc227]; exact hv), hN⟩, hfe⟩
    · have pre237 : ∀ t, Steps p.tables e below (s₁.setTop (mkF m 21 #[.val (.long q1), .second, .val (.long q2), .second, .val (.long q3), .second, .val (.long q4), .second, .val (.int p5), .val (.int (1 : Int32)), .unset, .unset, .unset, .unset, .unset, .unset, .unset, .unset, .unset] [])) t → Steps p.tables e below (s₁.setTop (entryFrame m #[(.long q1), (.long q2), (.long q3), (.long q4), (.int p5)] maxLocals)) t := by
        intro t k
        refine pre226 _ ?_
        show Steps p.tables e below (s₁.setTop (mkF m 18 #[.val (.long q1), .second, .val (.long q2), .second, .val (.long q3), .second, .val (.long q4), .second, .val (.int p5), .val (.int (1 : Int32)), .unset, .unset, .unset, .unset, .unset, .unset, .unset, .unset, .unset] [(.int (p5 &&& (2 : Int32)))])) _
        refine XS.ifNo X0.here hx rfl (hb hby at_18) rfl ((if0 _ _).trans (feq hc227).1) ?_
        exact k
      have pre238 : ∀ t, Steps p.tables e below (s₁.setTop (mkF m 30 #[.val (.long q1), .second, .val (.long q2), .second, .val (.long q3), .second, .val (.long q4), .second, .val (.int p5), .val (.int (1 : Int32)), .val (.int (1 : Int32)), .unset, .unset, .unset, .unset, .unset, .unset, .unset, .unset] [(.int (1 : Int32))])) t → Steps p.tables e below (s₁.setTop (entryFrame m #[(.long q1), (.long q2), (.long q3), (.long q4), (.int p5)] maxLocals)) t := by
        intro t k
        refine pre237 _ ?_
        show Steps p.tables e below (s₁.setTop (mkF m 21 #[.val (.long q1), .second, .val (.long q2), .second, .val (.long q3), .second, .val (.long q4), .second, .val (.int p5), .val (.int (1 : Int32)), .unset, .unset, .unset, .unset, .unset, .unset, .unset, .unset, .unset] [])) _
        refine XS.iconst X0.here hx rfl (hb hby at_21) ?_
        show Steps p.tables e below (s₁.setTop (mkF m 22 #[.val (.long q1), .second, .val (.long q2), .second, .val (.long q3), .second, .val (.long q4), .second, .val (.int p5), .val (.int (1 : Int32)), .unset, .unset, .unset, .unset, .unset, .unset, .unset, .unset, .unset] [(.int (1 : Int32))])) _
        refine XS.goto X0.here hx rfl (pc0 := 22) (pc' := 26) rfl (hb hby at_22) (by decide) (by decide) ?_
        show Steps p.tables e below (s₁.setTop (mkF m 26 #[.val (.long q1), .second, .val (.long q2), .second, .val (.long q3), .second, .val (.long q4), .second, .val (.int p5), .val (.int (1 : Int32)), .unset, .unset, .unset, .unset, .unset, .unset, .unset, .unset, .unset] [(.int (1 : Int32))])) _
        refine XS.istore X0.here hx rfl (hb hby at_26) rfl (l' := #[.val (.long q1), .second, .val (.long q2), .second, .val (.long q3), .second, .val (.long q4), .second, .val (.int p5), .val (.int (1 : Int32)), .val (.int (1 : Int32)), .unset, .unset, .unset, .unset, .unset, .unset, .unset, .unset]) rfl ?_
        show Steps p.tables e below (s₁.setTop (mkF m 28 #[.val (.long q1), .second, .val (.long q2), .second, .val (.long q3), .second, .val (.long q4), .second, .val (.int p5), .val (.int (1 : Int32)), .val (.int (1 : Int32)), .unset, .unset, .unset, .unset, .unset, .unset, .unset, .unset] [])) _
        refine XS.iload X0.here hx rfl (hb hby at_28) rfl ?_
        exact k
      have pre240 : ∀ t, Steps p.tables e below (s₁.setTop (mkF m 33 #[.val (.long q1), .second, .val (.long q2), .second, .val (.long q3), .second, .val (.long q4), .second, .val (.int p5), .val (.int (1 : Int32)), .val (.int (1 : Int32)), .unset, .unset, .unset, .unset, .unset, .unset, .unset, .unset] [])) t → Steps p.tables e below (s₁.setTop (entryFrame m #[(.long q1), (.long q2), (.long q3), (.long q4), (.int p5)] maxLocals)) t := by
        intro t k
        refine pre238 _ ?_
        show Steps p.tables e below (s₁.setTop (mkF m 30 #[.val (.long q1), .second, .val (.long q2), .second, .val (.long q3), .second, .val (.long q4), .second, .val (.int p5), .val (.int (1 : Int32)), .val (.int (1 : Int32)), .unset, .unset, .unset, .unset, .unset, .unset, .unset, .unset] [(.int (1 : Int32))])) _
        refine XS.ifNo X0.here hx rfl (hb hby at_30) rfl ((if0 _ _).trans (feq (by decide : ¬ ((1 : Int32) = (0 : Int32)))).1) ?_
        exact k
      have pre241 : ∀ t, Steps p.tables e below (s₁.setTop (mkF m 43 #[.val (.long q1), .second, .val (.long q2), .second, .val (.long q3), .second, .val (.long q4), .second, .val (.int p5), .val (.int (1 : Int32)), .val (.int (1 : Int32)), .val (.long q1), .second, .unset, .unset, .unset, .unset, .unset, .unset] [(.int (1 : Int32))])) t → Steps p.tables e below (s₁.setTop (entryFrame m #[(.long q1), (.long q2), (.long q3), (.long q4), (.int p5)] maxLocals)) t := by
        intro t k
        refine pre240 _ ?_
        show Steps p.tables e below (s₁.setTop (mkF m 33 #[.val (.long q1), .second, .val (.long q2), .second, .val (.long q3), .second, .val (.long q4), .second, .val (.int p5), .val (.int (1 : Int32)), .val (.int (1 : Int32)), .unset, .unset, .unset, .unset, .unset, .unset, .unset, .unset] [])) _
        refine XS.lloadN X0.here hx rfl (hb hby at_33) rfl ?_
        show Steps p.tables e below (s₁.setTop (mkF m 34 #[.val (.long q1), .second, .val (.long q2), .second, .val (.long q3), .second, .val (.long q4), .second, .val (.int p5), .val (.int (1 : Int32)), .val (.int (1 : Int32)), .unset, .unset, .unset, .unset, .unset, .unset, .unset, .unset] [(.long q1)])) _
        refine XS.goto X0.here hx rfl (pc0 := 34) (pc' := 39) rfl (hb hby at_34) (by decide) (by decide) ?_
        show Steps p.tables e below (s₁.setTop (mkF m 39 #[.val (.long q1), .second, .val (.long q2), .second, .val (.long q3), .second, .val (.long q4), .second, .val (.int p5), .val (.int (1 : Int32)), .val (.int (1 : Int32)), .unset, .unset, .unset, .unset, .unset, .unset, .unset, .unset] [(.long q1)])) _
        refine XS.lstore X0.here hx rfl (hb hby at_39) rfl (l' := #[.val (.long q1), .second, .val (.long q2), .second, .val (.long q3), .second, .val (.long q4), .second, .val (.int p5), .val (.int (1 : Int32)), .val (.int (1 : Int32)), .val (.long q1), .second, .unset, .unset, .unset, .unset, .unset, .unset]) rfl ?_
        show Steps p.tables e below (s₁.setTop (mkF m 41 #[.val (.long q1), .second, .val (.long q2), .second, .val (.long q3), .second, .val (.long q4), .second, .val (.int p5), .val (.int (1 : Int32)), .val (.int (1 : Int32)), .val (.long q1), .second, .unset, .unset, .unset, .unset, .unset, .unset] [])) _
        refine XS.iload X0.here hx rfl (hb hby at_41) rfl ?_
        exact k
      have pre243 : ∀ t, Steps p.tables e below (s₁.setTop (mkF m 46 #[.val (.long q1), .second, .val (.long q2), .second, .val (.long q3), .second, .val (.long q4), .second, .val (.int p5), .val (.int (1 : Int32)), .val (.int (1 : Int32)), .val (.long q1), .second, .unset, .unset, .unset, .unset, .unset, .unset] [])) t → Steps p.tables e below (s₁.setTop (entryFrame m #[(.long q1), (.long q2), (.long q3), (.long q4), (.int p5)] maxLocals)) t := by
        intro t k
        refine pre241 _ ?_
        show Steps p.tables e below (s₁.setTop (mkF m 43 #[.val (.long q1), .second, .val (.long q2), .second, .val (.long q3), .second, .val (.long q4), .second, .val (.int p5), .val (.int (1 : Int32)), .val (.int (1 : Int32)), .val (.long q1), .second, .unset, .unset, .unset, .unset, .unset, .unset] [(.int (1 : Int32))])) _
        refine XS.ifNo X0.here hx rfl (hb hby at_43) rfl ((if0 _ _).trans (feq (by decide : ¬ ((1 : Int32) = (0 : Int32)))).1) ?_
        exact k
      have pre244 : ∀ t, Steps p.tables e below (s₁.setTop (mkF m 54 #[.val (.long q1), .second, .val (.long q2), .second, .val (.long q3), .second, .val (.long q4), .second, .val (.int p5), .val (.int (1 : Int32)), .val (.int (1 : Int32)), .val (.long q1), .second, .val (.long q2), .second, .unset, .unset, .unset, .unset] [])) t → Steps p.tables e below (s₁.setTop (entryFrame m #[(.long q1), (.long q2), (.long q3), (.long q4), (.int p5)] maxLocals)) t := by
        intro t k
        refine pre243 _ ?_
        show Steps p.tables e below (s₁.setTop (mkF m 46 #[.val (.long q1), .second, .val (.long q2), .second, .val (.long q3), .second, .val (.long q4), .second, .val (.int p5), .val (.int (1 : Int32)), .val (.int (1 : Int32)), .val (.long q1), .second, .unset, .unset, .unset, .unset, .unset, .unset] [])) _
        refine XS.lloadN X0.here hx rfl (hb hby at_46) rfl ?_
        show Steps p.tables e below (s₁.setTop (mkF m 47 #[.val (.long q1), .second, .val (.long q2), .second, .val (.long q3), .second, .val (.long q4), .second, .val (.int p5), .val (.int (1 : Int32)), .val (.int (1 : Int32)), .val (.long q1), .second, .unset, .unset, .unset, .unset, .unset, .unset] [(.long q2)])) _
        refine XS.goto X0.here hx rfl (pc0 := 47) (pc' := 52) rfl (hb hby at_47) (by decide) (by decide) ?_
        show Steps p.tables e below (s₁.setTop (mkF m 52 #[.val (.long q1), .second, .val (.long q2), .second, .val (.long q3), .second, .val (.long q4), .second, .val (.int p5), .val (.int (1 : Int32)), .val (.int (1 : Int32)), .val (.long q1), .second, .unset, .unset, .unset, .unset, .unset, .unset] [(.long q2)])) _
        refine XS.lstore X0.here hx rfl (hb hby at_52) rfl (l' := #[.val (.long q1), .second, .val (.long q2), .second, .val (.long q3), .second, .val (.long q4), .second, .val (.int p5), .val (.int (1 : Int32)), .val (.int (1 : Int32)), .val (.long q1), .second, .val (.long q2), .second, .unset, .unset, .unset, .unset]) rfl ?_
        exact k
      obtain ⟨s₂, o, st245, g1, g2, v, L, ho, ⟨hv, hN⟩, hfe⟩ := pc0_54_0 q1 q2 q3 q4 p5 (1 : Int32) (1 : Int32) q1 q2 cl_wC wC X0 hx hZ hw hby hml hown hret hlocks e0 N0 Z0 O0 Ar_wC hC S_wC
      exact ⟨s₂, o, pre244 _ st245, g1, g2, v, L, ho, ⟨(by rw [F0, if_neg hc89, if_neg hc227]; exact hv), hN⟩, hfe⟩
theorem own_p (j0 j2 : Int64) (i8 : Int32) (j11 j13 : Int64) : F0_54_0 j0 j2 i8 j11 j13 = 1 := by
  unfold F0_54_0 F3n F3o F3s
  simp only [lw_eq]
  generalize ((i8.toUInt32 >>> ((2 : Int32) &&& 31).toUInt32).toInt32) &&& (3 : Int32) = k
  have nb : nar .boolean (1 : Int32) = 1 := by decide
  by_cases k1 : k = 1
  · rw [if_pos k1]; rfl
  rw [if_neg k1]
  by_cases k2 : k = 2
  · rw [if_pos k2]; rfl
  rw [if_neg k2]
  by_cases k3 : k = 3
  · rw [if_pos k3]; simp [nb]
  rw [if_neg k3]
  have e1 : (j0 = j11) = (j11 = j0) := propext eq_comm
  have e2 : (j2 = j13) = (j13 = j2) := propext eq_comm
  simp only [e1, e2]
  by_cases a : j11 = j0 <;> by_cases b : j13 = j2 <;> simp [a, b]
theorem plain0 (q1 q2 q3 q4 : Int64) (p5 : Int32) : F0 q1 q2 q3 q4 p5 = 1 := by
  unfold F0
  simp only [own_p]
  repeat' split
  all_goals rfl
theorem own_cache {args : Array Value} {s : State} {wC : Addr} {cl : Cell} {X : Jvm.Cond} (ev : (Term.static "java/lang/Long$LongCache" "cache" "[Ljava/lang/Long;").eval args s none [] s = some (.ref wC)) (Ar : Arr s s.heap wC cl (.object "java/lang/Long")) (ln : (Term.length (Term.static "java/lang/Long$LongCache" "cache" "[Ljava/lang/Long;")).eval args s none [] s = some (.int (256 : Int32)))
    (hall : (Jvm.Cond.all (Term.static "java/lang/Long$LongCache" "cache" "[Ljava/lang/Long;") (Jvm.Cond.and (Jvm.Cond.exactly (Term.elem (Term.static "java/lang/Long$LongCache" "cache" "[Ljava/lang/Long;") (Term.index 0)) "java/lang/Long") X)).before args s = true) (q : Int64) (h1 : ¬ (lcmpW q (-128 : Int64)) < (0 : Int32)) (h2 : ¬ (0 : Int32) < (lcmpW q (127 : Int64))) :
    ∃ y : Addr, ¬ ((q.toInt32 + (128 : Int32)) < 0 ∨ cl.slots.size ≤ (q.toInt32 + (128 : Int32)).toNatClampNeg) ∧ cl.slots[(q.toInt32 + (128 : Int32)).toNatClampNeg]? = some (.ref y) ∧ Exa s s.heap y "java/lang/Long" := by
  rw [lw_lt, Int64.lt_iff_toInt_lt] at h1
  rw [lw_gt, Int64.lt_iff_toInt_lt] at h2
  have ka : (-128 : Int64).toInt = -128 := by decide
  have kb : (127 : Int64).toInt = 127 := by decide
  rw [ka] at h1
  rw [kb] at h2
  have harr : s.arrayAt? wC = some cl := Arr.fin (Vm.Alike.refl _) Ar
  obtain ⟨l31, lz⟩ := own_lenI ev Ar ln
  have hsz : cl.slots.size = 256 := by
    have a := congrArg Int32.toInt lz
    rw [len_toInt l31] at a
    have k : (256 : Int32).toInt = 256 := rfl
    omega
  have l1 := c_l2i q
  have l2 := c_iadd q.toInt32 128
  have r1 := rng32 q.toInt32
  have r2 := rng32 (q.toInt32 + 128)
  have k128 : (128 : Int32).toInt = 128 := rfl
  rw [k128] at l2
  have ej : (q.toInt32 + 128).toInt = q.toInt + 128 := by omega
  have n0 : (0 : Int32).toInt = 0 := rfl
  have hj : ¬ (q.toInt32 + 128) < 0 := by rw [Int32.lt_iff_toInt_lt, n0]; omega
  have en := nat_of hj
  obtain ⟨x1, x2⟩ := and_e (Cond.all_elim ev harr (Cond.before_iff.mp hall) (q.toInt32 + 128).toNatClampNeg (by omega))
  obtain ⟨y, c1, cellB, k1, y1, y2, y3, y4, y5, y6, y7⟩ := Cond.exactly_spec (beq_iff_eq.mpr x1 : (Jvm.Cond.exactly (Term.elem (Term.static "java/lang/Long$LongCache" "cache" "[Ljava/lang/Long;") (Term.index 0)) "java/lang/Long").holds args s none s [(q.toInt32 + 128).toNatClampNeg] = true)
  have ev' : (Term.static "java/lang/Long$LongCache" "cache" "[Ljava/lang/Long;").eval args s none [(q.toInt32 + 128).toNatClampNeg] s = some (.ref wC) := ev
  have hj' : (Term.index 0).eval args s none [(q.toInt32 + 128).toNatClampNeg] s = some (.int (q.toInt32 + 128)) := by
    show some (Value.int (q.toInt32 + 128).toNatClampNeg.toInt32) = _
    rw [(back32 hj).1]
  obtain ⟨i1, i2⟩ := elem_in y1 ev' hj' Ar.1
  exact ⟨y, i1, i2, cellB, k1, y3, by rw [y6]; exact y2, by rw [y6]; exact y4, y5, y7⟩
set_option maxRecDepth 65536 in
set_option maxHeartbeats 40000000 in
theorem comes_1 {Post : Tables → Env → Array Value → State → Outcome → State → Prop} (hpost : ∀ tb e args s v u, (limb_1_1.after args s (.returned v) u = true ∧ limb_1_2.after args s (.returned v) u = true ∧ True) → FrameEnd s (.returned v) u (Jvm.fieldLocs frame_1_writes args s ++ Jvm.arrayLocs frame_1_arrays args s ++ Jvm.staticLocs frame_1_statics s) 16 128 → Post tb e args s (.returned v) u) :
    ArmFor flags0 classFile x code maxLocals ret World_1 tables_1 room_1 Calls_1 rest_1 Pre_1 Post := by
  intro l hfl _ _ p e ha hc hk s m args below hf hA hF happ hP
  obtain ⟨hcalls, hrest, hpre⟩ := hP
  obtain ⟨-, -, -, hnamed, -, -, -, hat⟩ := (Spec.applies_iff hf).mp happ
  obtain ⟨hg, hn⟩ := and_e (Cond.before_iff.mp (show (Jvm.Cond.and given_1 narrow_1).before args s = true from hpre))
  obtain ⟨g246, g247⟩ := and_e hg
  obtain ⟨g248, g249⟩ := and_e g247
  obtain ⟨g250, g251⟩ := and_e g249
  obtain ⟨g252, g253⟩ := and_e g251
  obtain ⟨g254, g255⟩ := and_e g253
  obtain ⟨w0, w1, w2, w3, w4, rfl⟩ : ∃ w0 w1 w2 w3 w4 : Value, args = #[w0, w1, w2, w3, w4] := by
    have hs : args.size = 5 := by simpa [Cond.value, given_1] using g246
    obtain ⟨L⟩ := args
    match L, hs with
    | [w0, w1, w2, w3, w4], _ => exact ⟨w0, w1, w2, w3, w4, rfl⟩
  have hw := fun d (hd : d ∈ tables_1) => atoms_spec (ws := Jvm.Cond.code x code maxLocals ret :: tables_1) hat d (List.mem_cons_of_mem _ hd)
  have hfit : Fit s := fun {y c} hc i hi => by
    obtain ⟨ha, rfl⟩ := Array.getElem?_eq_some_iff.mp hc
    have q := List.all_eq_true.mp ((Array.all_eq_true_iff_forall_mem.mp hF) _ (Array.getElem_mem ha)) i (List.mem_range.mpr hi)
    simpa [Array.getElem?_eq_getElem hi] using q
  obtain ⟨hsets, hown0⟩ := atoms_of _ (rest_1_c_eq ▸ (show rest_1_c.before _ s = true from hrest))
  obtain ⟨i0, ei0⟩ := isL_v g248
  obtain rfl : w0 = (.long i0) := Option.some.inj ei0
  obtain ⟨i1, ei1⟩ := isL_v g250
  obtain rfl : w1 = (.long i1) := Option.some.inj ei1
  obtain ⟨i2, ei2⟩ := isL_v g252
  obtain rfl : w2 = (.long i2) := Option.some.inj ei2
  obtain ⟨i3, ei3⟩ := isL_v g254
  obtain rfl : w3 = (.long i3) := Option.some.inj ei3
  obtain ⟨i4, ei4⟩ := is_v g255
  obtain rfl : w4 = (.int i4) := Option.some.inj ei4
  have hA := Cond.before_iff.mp (hsets _ (List.mem_of_getElem? (i := 2) rfl))
  obtain ⟨wC, ev_wC⟩ := arr_v hA
  have S_wC := Sta.start ev_wC (Or.inl (hsets _ (List.mem_of_getElem? (i := 1) rfl)))
  obtain ⟨cl_wC, Ar_wC⟩ := Arr.start ev_wC hA
  have ln_wC := own_eqI (Cond.before_iff.mp (hsets _ (List.mem_of_getElem? (i := 4) rfl)))
  have hC := own_cache ev_wC Ar_wC ln_wC (hsets _ (List.mem_of_getElem? (i := 5) rfl))
  obtain ⟨n, o, h1, h2, h3, v, L, rfl, ⟨hv, N⟩, hq⟩ := rm0 l s _ hw tables_1 i0 i1 i2 i3 i4 cl_wC wC s.heap s.heap.size (Nat.le_refl _) (Old.start s) Ar_wC hC S_wC p e ha hc hk s m _ below hf ((Spec.applies_iff_loose hf).mp happ).1 ⟨rfl, State.Warmed39.refl s, rfl⟩ trivial
  rw [plain0] at hv
  subst hv
  refine ⟨n, _, h1, h2, h3, hpost _ _ _ _ _ _ ⟨Cond.after_iff.mpr rfl, Cond.after_iff.mpr (eq_i res_at (Term.int_eval (1)) rfl), trivial⟩ ⟨hq.1, hq.2.1, (hq.2.2.sift fun y hy => Or.inr (N y hy)).mono (by decide) (by decide)⟩⟩
theorem main_1_1 : Claimed_1_1 := comes_1 fun _ _ _ _ _ _ h hF => ⟨h.1, hF⟩
theorem main_1_2 : Claimed_1_2 := comes_1 fun _ _ _ _ _ _ h hF => ⟨h.2.1, hF⟩
end Jvm.Pilot.@@N@@
namespace Jvm.Pilot.@@N@@
open Jvm Jvm.ClassFile Sem Op Lib Jvm.Free Jvm.Stand Jvm.Pilot.@@N@@.Jvm.D
/-! MADE BY PROGRAM (witnessworld.py) out of the Statement's table words and the real class files: 16 classes; the members and pool entries that the words name. The judged class is class 1, her method 1. -/
namespace start1
open Jvm.ClassFile
def u (s : String) : CpInfo := .utf8 (stringToUtf16 s)
/-- a pool by its gaps: so many unusable entries, then the entry; so many at the end -/
def gap : Nat → List CpInfo → List CpInfo
  | 0, r => r
  | n + 1, r => .unusable :: gap n r
def poolList (es : List (Nat × CpInfo)) (last : Nat) : List CpInfo := es.foldr (fun e r => gap e.1 (e.2 :: r)) (gap last [])
def pool (es : List (Nat × CpInfo)) (last : Nat) : Array CpInfo := ⟨poolList es last⟩
def fileOf (pool : Array CpInfo) (this : Nat) (attrs : Array Attribute := #[]) (ms : Array MethodInfo := #[]) (fl : Nat := 33) (sup : Nat := 0) (ifs : Array Nat := #[]) (fds : Array FieldInfo := #[]) : ClassFile where
  minorVersion := 0
  majorVersion := 65
  constantPool := pool
  accessFlags := fl
  thisClass := this
  superClass := sup
  interfaces := ifs
  fields := fds
  methods := ms
  attributes := attrs
def plain (name : String) (sup : Option ClassId) : Class where
  name := name
  kind := .ordinary
  loader := none
  accessFlags := 33
  super := sup
  interfaces := #[]
  cf := none
  fields := #[]
  methods := #[]
  instanceTypes := #[]
  staticTypes := #[]
  resolved := #[]
  callSites := []
  init := .initialized
  statics := none
  mirror := none

def pool0 : Array CpInfo := pool [(5, u "<init>"), (0, u "()V"), (1, .class_ 10), (1, u "java/lang/Object")] 113

def k0c0 : Code := { maxStack := 0, maxLocals := 1, code := object_method_1_code, exceptionTable := #[], attributes := #[] }
def k0m0 : Method := { name := "<init>", desc := "()V", sig := { parameters := [], returnType := none }, accessFlags := 1, code := some k0c0 }
/-- java/lang/Object -/
def k0 : Class := { plain "java/lang/Object" none with
  accessFlags := 33
  interfaces := #[]
  cf := some (fileOf pool0 8 #[] #[{ accessFlags := 1, nameIndex := 5, descriptorIndex := 6, attributes := #[] }] 33 0 #[] #[])
  fields := #[]
  methods := #[k0m0]
  instanceTypes := #[]
  staticTypes := #[]
  resolved := Array.replicate 124 none
  statics := none }

def pool1 : Array CpInfo := pool [(2, .class_ 4), (1, u "java/lang/Object"), (0, u "<init>"), (0, u "()V"), (0, .class_ 8), (0, u "com/example/coracle/coracle/ServiceID"), (0, .methodref 7 10), (0, .nameAndType 5 11), (0, u "(JJ)V"), (0, .methodref 7 13), (0, .nameAndType 14 15), (0, u "equals"), (0, u "(Ljava/lang/Object;)Z"), (0, .methodref 17 18), (0, .class_ 19), (0, .nameAndType 20 21), (0, u "java/lang/Long"), (0, u "valueOf"), (0, u "(J)Ljava/lang/Long;"), (0, .class_ 23), (0, u "com/example/coracle/coracle/ServiceIDEqualsPinLaw"), (2, u "law"), (0, u "(JJJJI)Z")] 3

def k1m0 : Method := { name := "<init>", desc := "()V", sig := { parameters := [], returnType := none }, accessFlags := 1, code := none }
def k1c1 : Code := { maxStack := 6, maxLocals := 19, code := code, exceptionTable := #[], attributes := #[] }
def k1m1 : Method := { name := "law", desc := "(JJJJI)Z", sig := { parameters := [.long, .long, .long, .long, .int], returnType := some .boolean }, accessFlags := 9, code := some k1c1 }
/-- com/example/coracle/coracle/ServiceIDEqualsPinLaw -/
def k1 : Class := { plain "com/example/coracle/coracle/ServiceIDEqualsPinLaw" (some 0) with
  accessFlags := 49
  interfaces := #[]
  cf := some (fileOf pool1 22 #[] #[{ accessFlags := 1, nameIndex := 5, descriptorIndex := 6, attributes := #[] }, { accessFlags := 9, nameIndex := 26, descriptorIndex := 27, attributes := #[] }] 49 2 #[] #[])
  fields := #[]
  methods := #[k1m0, k1m1]
  instanceTypes := #[]
  staticTypes := #[]
  resolved := Array.replicate 31 none
  statics := none }

def pool2 : Array CpInfo := pool [(1, .class_ 2), (0, u "java/lang/Comparable"), (0, .class_ 4), (0, u "java/lang/Object")] 7

/-- java/lang/Comparable -/
def k2 : Class := { plain "java/lang/Comparable" (some 0) with
  accessFlags := 1537
  interfaces := #[]
  cf := some (fileOf pool2 1 #[] #[] 1537 3 #[] #[])
  fields := #[]
  methods := #[]
  instanceTypes := #[]
  staticTypes := #[]
  resolved := Array.replicate 12 none
  statics := none }

def pool3 : Array CpInfo := pool [(1, .methodref 2 3), (0, .class_ 4), (0, .nameAndType 5 6), (0, u "java/lang/Object"), (0, u "<init>"), (0, u "()V"), (0, .fieldref 8 9), (0, .class_ 10), (0, .nameAndType 11 12), (0, u "com/example/coracle/coracle/ServiceID"), (0, u "mostSignificantBits"), (0, u "J"), (0, .fieldref 8 14), (0, .nameAndType 15 12), (0, u "leastSignificantBits"), (2, u "TEXT"), (0, u "Ljava/util/regex/Pattern;"), (36, u "(JJ)V"), (29, .class_ 87), (0, u "java/lang/Comparable"), (6, u "equals"), (0, u "(Ljava/lang/Object;)Z")] 23

def k3c0 : Code := { maxStack := 3, maxLocals := 5, code := prog_109_method_1_code, exceptionTable := #[], attributes := #[] }
def k3m0 : Method := { name := "<init>", desc := "(JJ)V", sig := { parameters := [.long, .long], returnType := none }, accessFlags := 1, code := some k3c0 }
def k3c1 : Code := { maxStack := 4, maxLocals := 3, code := prog_109_method_7_code, exceptionTable := #[], attributes := #[] }
def k3m1 : Method := { name := "equals", desc := "(Ljava/lang/Object;)Z", sig := { parameters := [(.object "java/lang/Object")], returnType := some .boolean }, accessFlags := 1, code := some k3c1 }
/-- com/example/coracle/coracle/ServiceID -/
def k3 : Class := { plain "com/example/coracle/coracle/ServiceID" (some 0) with
  accessFlags := 49
  interfaces := #[2]
  cf := some (fileOf pool3 8 #[] #[{ accessFlags := 1, nameIndex := 5, descriptorIndex := 56, attributes := #[] }, { accessFlags := 1, nameIndex := 94, descriptorIndex := 95, attributes := #[] }] 49 2 #[86] #[{ accessFlags := 26, nameIndex := 18, descriptorIndex := 19, attributes := #[] }, { accessFlags := 18, nameIndex := 11, descriptorIndex := 12, attributes := #[] }, { accessFlags := 18, nameIndex := 15, descriptorIndex := 12, attributes := #[] }])
  fields := #[{ name := "TEXT", type := (.object "java/util/regex/Pattern"), accessFlags := 26, slot := 0, constantValue := 0 }, { name := "mostSignificantBits", type := .long, accessFlags := 18, slot := 0, constantValue := 0 }, { name := "leastSignificantBits", type := .long, accessFlags := 18, slot := 1, constantValue := 0 }]
  methods := #[k3m0, k3m1]
  instanceTypes := #[.long, .long]
  staticTypes := #[(.object "java/util/regex/Pattern")]
  resolved := Array.replicate 119 none
  statics := none }

def pool4 : Array CpInfo := pool [(1, .class_ 2), (0, u "java/io/Serializable"), (0, .class_ 4), (0, u "java/lang/Object")] 2

/-- java/io/Serializable -/
def k4 : Class := { plain "java/io/Serializable" (some 0) with
  accessFlags := 1537
  interfaces := #[]
  cf := some (fileOf pool4 1 #[] #[] 1537 3 #[] #[])
  fields := #[]
  methods := #[]
  instanceTypes := #[]
  staticTypes := #[]
  resolved := Array.replicate 7 none
  statics := none }

def pool5 : Array CpInfo := pool [(1, .methodref 2 3), (0, .class_ 4), (0, .nameAndType 5 6), (0, u "java/lang/Object"), (0, u "<init>"), (0, u "()V"), (1, .class_ 10), (1, u "java/lang/Number"), (2, .class_ 14), (0, u "java/io/Serializable"), (0, u "serialVersionUID"), (0, u "J")] 20

def k5c0 : Code := { maxStack := 1, maxLocals := 1, code := jdk_18_method_1_code, exceptionTable := #[], attributes := #[] }
def k5m0 : Method := { name := "<init>", desc := "()V", sig := { parameters := [], returnType := none }, accessFlags := 1, code := some k5c0 }
/-- java/lang/Number -/
def k5 : Class := { plain "java/lang/Number" (some 0) with
  accessFlags := 1057
  interfaces := #[4]
  cf := some (fileOf pool5 8 #[] #[{ accessFlags := 1, nameIndex := 5, descriptorIndex := 6, attributes := #[] }] 1057 2 #[13] #[{ accessFlags := 26, nameIndex := 15, descriptorIndex := 16, attributes := #[] }])
  fields := #[{ name := "serialVersionUID", type := .long, accessFlags := 26, slot := 0, constantValue := 0 }]
  methods := #[k5m0]
  instanceTypes := #[]
  staticTypes := #[.long]
  resolved := Array.replicate 37 none
  statics := none }

def pool6 : Array CpInfo := pool [(1, .class_ 2), (0, u "java/lang/constant/Constable"), (0, .class_ 4), (0, u "java/lang/Object")] 6

/-- java/lang/constant/Constable -/
def k6 : Class := { plain "java/lang/constant/Constable" (some 0) with
  accessFlags := 1537
  interfaces := #[]
  cf := some (fileOf pool6 1 #[] #[] 1537 3 #[] #[])
  fields := #[]
  methods := #[]
  instanceTypes := #[]
  staticTypes := #[]
  resolved := Array.replicate 11 none
  statics := none }

def pool7 : Array CpInfo := pool [(1, .class_ 2), (0, u "java/lang/constant/ConstantDesc"), (0, .class_ 4), (0, u "java/lang/Object")] 32

/-- java/lang/constant/ConstantDesc -/
def k7 : Class := { plain "java/lang/constant/ConstantDesc" (some 0) with
  accessFlags := 1537
  interfaces := #[]
  cf := some (fileOf pool7 1 #[] #[] 1537 3 #[] #[])
  fields := #[]
  methods := #[]
  instanceTypes := #[]
  staticTypes := #[]
  resolved := Array.replicate 37 none
  statics := none }

def pool8 : Array CpInfo := pool [(1, .class_ 2), (0, u "java/lang/Long"), (55, .nameAndType 59 60), (0, u "<init>"), (0, u "()V"), (24, u "valueOf"), (143, u "(J)Ljava/lang/Long;"), (0, .long 18446744073709551488), (1, .long 127), (1, .fieldref 235 236), (0, .class_ 237), (0, .nameAndType 238 239), (0, u "java/lang/Long$LongCache"), (0, u "cache"), (0, u "[Ljava/lang/Long;"), (0, .methodref 1 241), (0, .nameAndType 59 242), (0, u "(J)V"), (27, .methodref 271 58), (0, .class_ 272), (0, u "java/lang/Number"), (0, .fieldref 1 274), (0, .nameAndType 275 276), (0, u "value"), (0, u "J"), (84, u "TYPE"), (0, u "Ljava/lang/Class;"), (0, .class_ 364), (0, u "java/lang/Comparable"), (0, .class_ 366), (0, u "java/lang/constant/Constable"), (0, .class_ 368), (0, u "java/lang/constant/ConstantDesc"), (0, u "MIN_VALUE"), (1, u "MAX_VALUE"), (4, u "SIZE"), (0, u "I"), (1, u "BYTES"), (1, u "serialVersionUID")] 142

def k8c0 : Code := { maxStack := 4, maxLocals := 3, code := jdk_35_method_24_code, exceptionTable := #[], attributes := #[] }
def k8m0 : Method := { name := "valueOf", desc := "(J)Ljava/lang/Long;", sig := { parameters := [.long], returnType := some (.object "java/lang/Long") }, accessFlags := 9, code := some k8c0 }
def k8c1 : Code := { maxStack := 3, maxLocals := 3, code := jdk_35_method_26_code, exceptionTable := #[], attributes := #[] }
def k8m1 : Method := { name := "<init>", desc := "(J)V", sig := { parameters := [.long], returnType := none }, accessFlags := 1, code := some k8c1 }
/-- java/lang/Long -/
def k8 : Class := { plain "java/lang/Long" (some 5) with
  accessFlags := 49
  interfaces := #[2, 6, 7]
  cf := some (fileOf pool8 1 #[.nestMembers #[235]] #[{ accessFlags := 9, nameIndex := 85, descriptorIndex := 229, attributes := #[] }, { accessFlags := 1, nameIndex := 59, descriptorIndex := 242, attributes := #[] }] 49 271 #[363, 365, 367] #[{ accessFlags := 25, nameIndex := 369, descriptorIndex := 276, attributes := #[] }, { accessFlags := 25, nameIndex := 371, descriptorIndex := 276, attributes := #[] }, { accessFlags := 25, nameIndex := 361, descriptorIndex := 362, attributes := #[] }, { accessFlags := 18, nameIndex := 275, descriptorIndex := 276, attributes := #[] }, { accessFlags := 25, nameIndex := 376, descriptorIndex := 377, attributes := #[] }, { accessFlags := 25, nameIndex := 379, descriptorIndex := 377, attributes := #[] }, { accessFlags := 26, nameIndex := 381, descriptorIndex := 276, attributes := #[] }])
  fields := #[{ name := "MIN_VALUE", type := .long, accessFlags := 25, slot := 0, constantValue := 0 }, { name := "MAX_VALUE", type := .long, accessFlags := 25, slot := 1, constantValue := 0 }, { name := "TYPE", type := (.object "java/lang/Class"), accessFlags := 25, slot := 2, constantValue := 0 }, { name := "value", type := .long, accessFlags := 18, slot := 0, constantValue := 0 }, { name := "SIZE", type := .int, accessFlags := 25, slot := 3, constantValue := 0 }, { name := "BYTES", type := .int, accessFlags := 25, slot := 4, constantValue := 0 }, { name := "serialVersionUID", type := .long, accessFlags := 26, slot := 5, constantValue := 0 }]
  methods := #[k8m0, k8m1]
  instanceTypes := #[.long]
  staticTypes := #[.long, .long, (.object "java/lang/Class"), .int, .int, .long]
  resolved := Array.replicate 524 none
  statics := none }

def pool9 : Array CpInfo := pool [(2, .class_ 4), (1, u "java/lang/Object"), (0, u "<init>"), (0, u "()V"), (0, .class_ 8), (0, u "java/lang/Long"), (7, .class_ 18), (1, u "java/lang/Long$LongCache"), (0, u "$assertionsDisabled"), (0, u "Z"), (8, u "archivedCache"), (0, u "[Ljava/lang/Long;"), (7, u "cache")] 24

def k9m0 : Method := { name := "<init>", desc := "()V", sig := { parameters := [], returnType := none }, accessFlags := 2, code := none }
/-- java/lang/Long$LongCache -/
def k9 : Class := { plain "java/lang/Long$LongCache" (some 0) with
  accessFlags := 48
  interfaces := #[]
  cf := some (fileOf pool9 16 #[.nestHost 7] #[{ accessFlags := 2, nameIndex := 5, descriptorIndex := 6, attributes := #[] }] 48 2 #[] #[{ accessFlags := 24, nameIndex := 38, descriptorIndex := 30, attributes := #[] }, { accessFlags := 8, nameIndex := 29, descriptorIndex := 30, attributes := #[] }, { accessFlags := 4120, nameIndex := 19, descriptorIndex := 20, attributes := #[] }])
  fields := #[{ name := "cache", type := (.array (.object "java/lang/Long")), accessFlags := 24, slot := 0, constantValue := 0 }, { name := "archivedCache", type := (.array (.object "java/lang/Long")), accessFlags := 8, slot := 1, constantValue := 0 }, { name := "$assertionsDisabled", type := .boolean, accessFlags := 4120, slot := 2, constantValue := 0 }]
  methods := #[k9m0]
  instanceTypes := #[]
  staticTypes := #[(.array (.object "java/lang/Long")), (.array (.object "java/lang/Long")), .boolean]
  resolved := Array.replicate 63 none
  statics := some 0 }

def pool10 : Array CpInfo := pool [(1, u "java/lang/Cloneable"), (0, .class_ 1), (0, u "java/lang/Object"), (0, .class_ 3)] 3

/-- java/lang/Cloneable -/
def k10 : Class := { plain "java/lang/Cloneable" (some 0) with
  accessFlags := 1537
  interfaces := #[]
  cf := some (fileOf pool10 2 #[] #[] 1537 4 #[] #[])
  fields := #[]
  methods := #[]
  instanceTypes := #[]
  staticTypes := #[]
  resolved := Array.replicate 8 none
  statics := none }

/-- the primitive byte -/
def k11 : Class := { plain "byte" none with kind := .primitive 'B', accessFlags := 0x411 }
/-- [B -/
def k12 : Class := { plain "[B" (some 0) with kind := .array 11 .byte, interfaces := #[10, 4], accessFlags := 1041 }

/-- the primitive int -/
def k13 : Class := { plain "int" none with kind := .primitive 'I', accessFlags := 0x411 }
/-- [I -/
def k14 : Class := { plain "[I" (some 0) with kind := .array 13 .int, interfaces := #[10, 4], accessFlags := 1041 }

/-- [Ljava/lang/Long; -/
def k15 : Class := { plain "[Ljava/lang/Long;" (some 0) with kind := .array 8 (.object "java/lang/Long"), interfaces := #[10, 4], accessFlags := 1041 }

def heap : Heap := #[{ cls := 9, slots := #[.ref 1, .null, .int 0], vm := .statics 9 },
  { cls := 15, slots := #[.ref 2, .ref 3, .ref 4, .ref 5, .ref 6, .ref 7, .ref 8, .ref 9, .ref 10, .ref 11, .ref 12, .ref 13, .ref 14, .ref 15, .ref 16, .ref 17, .ref 18, .ref 19, .ref 20, .ref 21, .ref 22, .ref 23, .ref 24, .ref 25, .ref 26, .ref 27, .ref 28, .ref 29, .ref 30, .ref 31, .ref 32, .ref 33, .ref 34, .ref 35, .ref 36, .ref 37, .ref 38, .ref 39, .ref 40, .ref 41, .ref 42, .ref 43, .ref 44, .ref 45, .ref 46, .ref 47, .ref 48, .ref 49, .ref 50, .ref 51, .ref 52, .ref 53, .ref 54, .ref 55, .ref 56, .ref 57, .ref 58, .ref 59, .ref 60, .ref 61, .ref 62, .ref 63, .ref 64, .ref 65, .ref 66, .ref 67, .ref 68, .ref 69, .ref 70, .ref 71, .ref 72, .ref 73, .ref 74, .ref 75, .ref 76, .ref 77, .ref 78, .ref 79, .ref 80, .ref 81, .ref 82, .ref 83, .ref 84, .ref 85, .ref 86, .ref 87, .ref 88, .ref 89, .ref 90, .ref 91, .ref 92, .ref 93, .ref 94, .ref 95, .ref 96, .ref 97, .ref 98, .ref 99, .ref 100, .ref 101, .ref 102, .ref 103, .ref 104, .ref 105, .ref 106, .ref 107, .ref 108, .ref 109, .ref 110, .ref 111, .ref 112, .ref 113, .ref 114, .ref 115, .ref 116, .ref 117, .ref 118, .ref 119, .ref 120, .ref 121, .ref 122, .ref 123, .ref 124, .ref 125, .ref 126, .ref 127, .ref 128, .ref 129, .ref 130, .ref 131, .ref 132, .ref 133, .ref 134, .ref 135, .ref 136, .ref 137, .ref 138, .ref 139, .ref 140, .ref 141, .ref 142, .ref 143, .ref 144, .ref 145, .ref 146, .ref 147, .ref 148, .ref 149, .ref 150, .ref 151, .ref 152, .ref 153, .ref 154, .ref 155, .ref 156, .ref 157, .ref 158, .ref 159, .ref 160, .ref 161, .ref 162, .ref 163, .ref 164, .ref 165, .ref 166, .ref 167, .ref 168, .ref 169, .ref 170, .ref 171, .ref 172, .ref 173, .ref 174, .ref 175, .ref 176, .ref 177, .ref 178, .ref 179, .ref 180, .ref 181, .ref 182, .ref 183, .ref 184, .ref 185, .ref 186, .ref 187, .ref 188, .ref 189, .ref 190, .ref 191, .ref 192, .ref 193, .ref 194, .ref 195, .ref 196, .ref 197, .ref 198, .ref 199, .ref 200, .ref 201, .ref 202, .ref 203, .ref 204, .ref 205, .ref 206, .ref 207, .ref 208, .ref 209, .ref 210, .ref 211, .ref 212, .ref 213, .ref 214, .ref 215, .ref 216, .ref 217, .ref 218, .ref 219, .ref 220, .ref 221, .ref 222, .ref 223, .ref 224, .ref 225, .ref 226, .ref 227, .ref 228, .ref 229, .ref 230, .ref 231, .ref 232, .ref 233, .ref 234, .ref 235, .ref 236, .ref 237, .ref 238, .ref 239, .ref 240, .ref 241, .ref 242, .ref 243, .ref 244, .ref 245, .ref 246, .ref 247, .ref 248, .ref 249, .ref 250, .ref 251, .ref 252, .ref 253, .ref 254, .ref 255, .ref 256, .ref 257], vm := .none },
  { cls := 8, slots := #[.long (-128)], vm := .none },
  { cls := 8, slots := #[.long (-127)], vm := .none },
  { cls := 8, slots := #[.long (-126)], vm := .none },
  { cls := 8, slots := #[.long (-125)], vm := .none },
  { cls := 8, slots := #[.long (-124)], vm := .none },
  { cls := 8, slots := #[.long (-123)], vm := .none },
  { cls := 8, slots := #[.long (-122)], vm := .none },
  { cls := 8, slots := #[.long (-121)], vm := .none },
  { cls := 8, slots := #[.long (-120)], vm := .none },
  { cls := 8, slots := #[.long (-119)], vm := .none },
  { cls := 8, slots := #[.long (-118)], vm := .none },
  { cls := 8, slots := #[.long (-117)], vm := .none },
  { cls := 8, slots := #[.long (-116)], vm := .none },
  { cls := 8, slots := #[.long (-115)], vm := .none },
  { cls := 8, slots := #[.long (-114)], vm := .none },
  { cls := 8, slots := #[.long (-113)], vm := .none },
  { cls := 8, slots := #[.long (-112)], vm := .none },
  { cls := 8, slots := #[.long (-111)], vm := .none },
  { cls := 8, slots := #[.long (-110)], vm := .none },
  { cls := 8, slots := #[.long (-109)], vm := .none },
  { cls := 8, slots := #[.long (-108)], vm := .none },
  { cls := 8, slots := #[.long (-107)], vm := .none },
  { cls := 8, slots := #[.long (-106)], vm := .none },
  { cls := 8, slots := #[.long (-105)], vm := .none },
  { cls := 8, slots := #[.long (-104)], vm := .none },
  { cls := 8, slots := #[.long (-103)], vm := .none },
  { cls := 8, slots := #[.long (-102)], vm := .none },
  { cls := 8, slots := #[.long (-101)], vm := .none },
  { cls := 8, slots := #[.long (-100)], vm := .none },
  { cls := 8, slots := #[.long (-99)], vm := .none },
  { cls := 8, slots := #[.long (-98)], vm := .none },
  { cls := 8, slots := #[.long (-97)], vm := .none },
  { cls := 8, slots := #[.long (-96)], vm := .none },
  { cls := 8, slots := #[.long (-95)], vm := .none },
  { cls := 8, slots := #[.long (-94)], vm := .none },
  { cls := 8, slots := #[.long (-93)], vm := .none },
  { cls := 8, slots := #[.long (-92)], vm := .none },
  { cls := 8, slots := #[.long (-91)], vm := .none },
  { cls := 8, slots := #[.long (-90)], vm := .none },
  { cls := 8, slots := #[.long (-89)], vm := .none },
  { cls := 8, slots := #[.long (-88)], vm := .none },
  { cls := 8, slots := #[.long (-87)], vm := .none },
  { cls := 8, slots := #[.long (-86)], vm := .none },
  { cls := 8, slots := #[.long (-85)], vm := .none },
  { cls := 8, slots := #[.long (-84)], vm := .none },
  { cls := 8, slots := #[.long (-83)], vm := .none },
  { cls := 8, slots := #[.long (-82)], vm := .none },
  { cls := 8, slots := #[.long (-81)], vm := .none },
  { cls := 8, slots := #[.long (-80)], vm := .none },
  { cls := 8, slots := #[.long (-79)], vm := .none },
  { cls := 8, slots := #[.long (-78)], vm := .none },
  { cls := 8, slots := #[.long (-77)], vm := .none },
  { cls := 8, slots := #[.long (-76)], vm := .none },
  { cls := 8, slots := #[.long (-75)], vm := .none },
  { cls := 8, slots := #[.long (-74)], vm := .none },
  { cls := 8, slots := #[.long (-73)], vm := .none },
  { cls := 8, slots := #[.long (-72)], vm := .none },
  { cls := 8, slots := #[.long (-71)], vm := .none },
  { cls := 8, slots := #[.long (-70)], vm := .none },
  { cls := 8, slots := #[.long (-69)], vm := .none },
  { cls := 8, slots := #[.long (-68)], vm := .none },
  { cls := 8, slots := #[.long (-67)], vm := .none },
  { cls := 8, slots := #[.long (-66)], vm := .none },
  { cls := 8, slots := #[.long (-65)], vm := .none },
  { cls := 8, slots := #[.long (-64)], vm := .none },
  { cls := 8, slots := #[.long (-63)], vm := .none },
  { cls := 8, slots := #[.long (-62)], vm := .none },
  { cls := 8, slots := #[.long (-61)], vm := .none },
  { cls := 8, slots := #[.long (-60)], vm := .none },
  { cls := 8, slots := #[.long (-59)], vm := .none },
  { cls := 8, slots := #[.long (-58)], vm := .none },
  { cls := 8, slots := #[.long (-57)], vm := .none },
  { cls := 8, slots := #[.long (-56)], vm := .none },
  { cls := 8, slots := #[.long (-55)], vm := .none },
  { cls := 8, slots := #[.long (-54)], vm := .none },
  { cls := 8, slots := #[.long (-53)], vm := .none },
  { cls := 8, slots := #[.long (-52)], vm := .none },
  { cls := 8, slots := #[.long (-51)], vm := .none },
  { cls := 8, slots := #[.long (-50)], vm := .none },
  { cls := 8, slots := #[.long (-49)], vm := .none },
  { cls := 8, slots := #[.long (-48)], vm := .none },
  { cls := 8, slots := #[.long (-47)], vm := .none },
  { cls := 8, slots := #[.long (-46)], vm := .none },
  { cls := 8, slots := #[.long (-45)], vm := .none },
  { cls := 8, slots := #[.long (-44)], vm := .none },
  { cls := 8, slots := #[.long (-43)], vm := .none },
  { cls := 8, slots := #[.long (-42)], vm := .none },
  { cls := 8, slots := #[.long (-41)], vm := .none },
  { cls := 8, slots := #[.long (-40)], vm := .none },
  { cls := 8, slots := #[.long (-39)], vm := .none },
  { cls := 8, slots := #[.long (-38)], vm := .none },
  { cls := 8, slots := #[.long (-37)], vm := .none },
  { cls := 8, slots := #[.long (-36)], vm := .none },
  { cls := 8, slots := #[.long (-35)], vm := .none },
  { cls := 8, slots := #[.long (-34)], vm := .none },
  { cls := 8, slots := #[.long (-33)], vm := .none },
  { cls := 8, slots := #[.long (-32)], vm := .none },
  { cls := 8, slots := #[.long (-31)], vm := .none },
  { cls := 8, slots := #[.long (-30)], vm := .none },
  { cls := 8, slots := #[.long (-29)], vm := .none },
  { cls := 8, slots := #[.long (-28)], vm := .none },
  { cls := 8, slots := #[.long (-27)], vm := .none },
  { cls := 8, slots := #[.long (-26)], vm := .none },
  { cls := 8, slots := #[.long (-25)], vm := .none },
  { cls := 8, slots := #[.long (-24)], vm := .none },
  { cls := 8, slots := #[.long (-23)], vm := .none },
  { cls := 8, slots := #[.long (-22)], vm := .none },
  { cls := 8, slots := #[.long (-21)], vm := .none },
  { cls := 8, slots := #[.long (-20)], vm := .none },
  { cls := 8, slots := #[.long (-19)], vm := .none },
  { cls := 8, slots := #[.long (-18)], vm := .none },
  { cls := 8, slots := #[.long (-17)], vm := .none },
  { cls := 8, slots := #[.long (-16)], vm := .none },
  { cls := 8, slots := #[.long (-15)], vm := .none },
  { cls := 8, slots := #[.long (-14)], vm := .none },
  { cls := 8, slots := #[.long (-13)], vm := .none },
  { cls := 8, slots := #[.long (-12)], vm := .none },
  { cls := 8, slots := #[.long (-11)], vm := .none },
  { cls := 8, slots := #[.long (-10)], vm := .none },
  { cls := 8, slots := #[.long (-9)], vm := .none },
  { cls := 8, slots := #[.long (-8)], vm := .none },
  { cls := 8, slots := #[.long (-7)], vm := .none },
  { cls := 8, slots := #[.long (-6)], vm := .none },
  { cls := 8, slots := #[.long (-5)], vm := .none },
  { cls := 8, slots := #[.long (-4)], vm := .none },
  { cls := 8, slots := #[.long (-3)], vm := .none },
  { cls := 8, slots := #[.long (-2)], vm := .none },
  { cls := 8, slots := #[.long (-1)], vm := .none },
  { cls := 8, slots := #[.long 0], vm := .none },
  { cls := 8, slots := #[.long 1], vm := .none },
  { cls := 8, slots := #[.long 2], vm := .none },
  { cls := 8, slots := #[.long 3], vm := .none },
  { cls := 8, slots := #[.long 4], vm := .none },
  { cls := 8, slots := #[.long 5], vm := .none },
  { cls := 8, slots := #[.long 6], vm := .none },
  { cls := 8, slots := #[.long 7], vm := .none },
  { cls := 8, slots := #[.long 8], vm := .none },
  { cls := 8, slots := #[.long 9], vm := .none },
  { cls := 8, slots := #[.long 10], vm := .none },
  { cls := 8, slots := #[.long 11], vm := .none },
  { cls := 8, slots := #[.long 12], vm := .none },
  { cls := 8, slots := #[.long 13], vm := .none },
  { cls := 8, slots := #[.long 14], vm := .none },
  { cls := 8, slots := #[.long 15], vm := .none },
  { cls := 8, slots := #[.long 16], vm := .none },
  { cls := 8, slots := #[.long 17], vm := .none },
  { cls := 8, slots := #[.long 18], vm := .none },
  { cls := 8, slots := #[.long 19], vm := .none },
  { cls := 8, slots := #[.long 20], vm := .none },
  { cls := 8, slots := #[.long 21], vm := .none },
  { cls := 8, slots := #[.long 22], vm := .none },
  { cls := 8, slots := #[.long 23], vm := .none },
  { cls := 8, slots := #[.long 24], vm := .none },
  { cls := 8, slots := #[.long 25], vm := .none },
  { cls := 8, slots := #[.long 26], vm := .none },
  { cls := 8, slots := #[.long 27], vm := .none },
  { cls := 8, slots := #[.long 28], vm := .none },
  { cls := 8, slots := #[.long 29], vm := .none },
  { cls := 8, slots := #[.long 30], vm := .none },
  { cls := 8, slots := #[.long 31], vm := .none },
  { cls := 8, slots := #[.long 32], vm := .none },
  { cls := 8, slots := #[.long 33], vm := .none },
  { cls := 8, slots := #[.long 34], vm := .none },
  { cls := 8, slots := #[.long 35], vm := .none },
  { cls := 8, slots := #[.long 36], vm := .none },
  { cls := 8, slots := #[.long 37], vm := .none },
  { cls := 8, slots := #[.long 38], vm := .none },
  { cls := 8, slots := #[.long 39], vm := .none },
  { cls := 8, slots := #[.long 40], vm := .none },
  { cls := 8, slots := #[.long 41], vm := .none },
  { cls := 8, slots := #[.long 42], vm := .none },
  { cls := 8, slots := #[.long 43], vm := .none },
  { cls := 8, slots := #[.long 44], vm := .none },
  { cls := 8, slots := #[.long 45], vm := .none },
  { cls := 8, slots := #[.long 46], vm := .none },
  { cls := 8, slots := #[.long 47], vm := .none },
  { cls := 8, slots := #[.long 48], vm := .none },
  { cls := 8, slots := #[.long 49], vm := .none },
  { cls := 8, slots := #[.long 50], vm := .none },
  { cls := 8, slots := #[.long 51], vm := .none },
  { cls := 8, slots := #[.long 52], vm := .none },
  { cls := 8, slots := #[.long 53], vm := .none },
  { cls := 8, slots := #[.long 54], vm := .none },
  { cls := 8, slots := #[.long 55], vm := .none },
  { cls := 8, slots := #[.long 56], vm := .none },
  { cls := 8, slots := #[.long 57], vm := .none },
  { cls := 8, slots := #[.long 58], vm := .none },
  { cls := 8, slots := #[.long 59], vm := .none },
  { cls := 8, slots := #[.long 60], vm := .none },
  { cls := 8, slots := #[.long 61], vm := .none },
  { cls := 8, slots := #[.long 62], vm := .none },
  { cls := 8, slots := #[.long 63], vm := .none },
  { cls := 8, slots := #[.long 64], vm := .none },
  { cls := 8, slots := #[.long 65], vm := .none },
  { cls := 8, slots := #[.long 66], vm := .none },
  { cls := 8, slots := #[.long 67], vm := .none },
  { cls := 8, slots := #[.long 68], vm := .none },
  { cls := 8, slots := #[.long 69], vm := .none },
  { cls := 8, slots := #[.long 70], vm := .none },
  { cls := 8, slots := #[.long 71], vm := .none },
  { cls := 8, slots := #[.long 72], vm := .none },
  { cls := 8, slots := #[.long 73], vm := .none },
  { cls := 8, slots := #[.long 74], vm := .none },
  { cls := 8, slots := #[.long 75], vm := .none },
  { cls := 8, slots := #[.long 76], vm := .none },
  { cls := 8, slots := #[.long 77], vm := .none },
  { cls := 8, slots := #[.long 78], vm := .none },
  { cls := 8, slots := #[.long 79], vm := .none },
  { cls := 8, slots := #[.long 80], vm := .none },
  { cls := 8, slots := #[.long 81], vm := .none },
  { cls := 8, slots := #[.long 82], vm := .none },
  { cls := 8, slots := #[.long 83], vm := .none },
  { cls := 8, slots := #[.long 84], vm := .none },
  { cls := 8, slots := #[.long 85], vm := .none },
  { cls := 8, slots := #[.long 86], vm := .none },
  { cls := 8, slots := #[.long 87], vm := .none },
  { cls := 8, slots := #[.long 88], vm := .none },
  { cls := 8, slots := #[.long 89], vm := .none },
  { cls := 8, slots := #[.long 90], vm := .none },
  { cls := 8, slots := #[.long 91], vm := .none },
  { cls := 8, slots := #[.long 92], vm := .none },
  { cls := 8, slots := #[.long 93], vm := .none },
  { cls := 8, slots := #[.long 94], vm := .none },
  { cls := 8, slots := #[.long 95], vm := .none },
  { cls := 8, slots := #[.long 96], vm := .none },
  { cls := 8, slots := #[.long 97], vm := .none },
  { cls := 8, slots := #[.long 98], vm := .none },
  { cls := 8, slots := #[.long 99], vm := .none },
  { cls := 8, slots := #[.long 100], vm := .none },
  { cls := 8, slots := #[.long 101], vm := .none },
  { cls := 8, slots := #[.long 102], vm := .none },
  { cls := 8, slots := #[.long 103], vm := .none },
  { cls := 8, slots := #[.long 104], vm := .none },
  { cls := 8, slots := #[.long 105], vm := .none },
  { cls := 8, slots := #[.long 106], vm := .none },
  { cls := 8, slots := #[.long 107], vm := .none },
  { cls := 8, slots := #[.long 108], vm := .none },
  { cls := 8, slots := #[.long 109], vm := .none },
  { cls := 8, slots := #[.long 110], vm := .none },
  { cls := 8, slots := #[.long 111], vm := .none },
  { cls := 8, slots := #[.long 112], vm := .none },
  { cls := 8, slots := #[.long 113], vm := .none },
  { cls := 8, slots := #[.long 114], vm := .none },
  { cls := 8, slots := #[.long 115], vm := .none },
  { cls := 8, slots := #[.long 116], vm := .none },
  { cls := 8, slots := #[.long 117], vm := .none },
  { cls := 8, slots := #[.long 118], vm := .none },
  { cls := 8, slots := #[.long 119], vm := .none },
  { cls := 8, slots := #[.long 120], vm := .none },
  { cls := 8, slots := #[.long 121], vm := .none },
  { cls := 8, slots := #[.long 122], vm := .none },
  { cls := 8, slots := #[.long 123], vm := .none },
  { cls := 8, slots := #[.long 124], vm := .none },
  { cls := 8, slots := #[.long 125], vm := .none },
  { cls := 8, slots := #[.long 126], vm := .none },
  { cls := 8, slots := #[.long 127], vm := .none }]
def classes : Array Class := #[k0, k1, k2, k3, k4, k5, k6, k7, k8, k9, k10, k11, k12, k13, k14, k15]
def interned : List (Array UInt16 × Addr) := []
def slotsUsed : Nat := 515
def theMethod : MethodId := ⟨1, 1⟩
def args0 : Array Value := #[.long 5, .long 7, .long 5, .long 8, .int 9]
def aboutOver (below : List Frame) : State where
  vm := { classes := classes, interned := interned.toArray }
  heap := heap
  slotsUsed := slotsUsed
  threads := #[{ frames := .invoking theMethod args0 :: below }]
def below0 : List Frame := [.native { method := ⟨0, 0⟩, args := #[] }]
def about1 : State := aboutOver below0
def p0 : Program := .bare "" "" ""
def e0 : Env := launch0.env 0 0 0
theorem w_frames : about1.frames = Frame.invoking theMethod args0 :: below0 := rfl
set_option maxRecDepth 65536 in
theorem w_args : argsFit about1.vm theMethod args0 = true := by decide +kernel
set_option maxRecDepth 65536 in
theorem w_heap : heapFits about1 = true := by decide +kernel
set_option maxRecDepth 65536 in
theorem w_runnable : about1.curStatus? = some .runnable := by decide +kernel
set_option maxRecDepth 65536 in
theorem w_alone : about1.alone = true := by decide +kernel
set_option maxRecDepth 65536 in
theorem w_named : about1.methodNamed? x = some theMethod := by decide +kernel
set_option maxRecDepth 65536 in
theorem w_hears : about1.hears theMethod below0 = true := by decide +kernel
set_option maxRecDepth 65536 in
theorem w_ripe : about1.ripe theMethod args0 below0 = true := by decide +kernel
theorem w_running : about1.status = .running := rfl
set_option maxRecDepth 65536 in
theorem w_room : about1.hasRoom e0.platform room_1 = true :=
  launch0.hasRoom_least _ room_1 (by decide +kernel) (by decide +kernel) (by decide +kernel) (by decide +kernel) (by decide +kernel) (by decide +kernel)
theorem allAtoms_all (ts : List Jvm.Cond) (a : Array Jvm.Value) (st : Jvm.State) : (allAtoms ts).before a st = ts.all (fun c => c.before a st) := by
  induction ts with
  | nil => rfl
  | cons c t ih =>
    show (Jvm.Cond.and c (allAtoms t)).before a st = _
    rw [Jvm.Cond.before_and, ih, List.all_cons]
def words1 : List Jvm.Cond := Jvm.Cond.code x code maxLocals ret :: tables_1
/-- a 'code' word, met by the world's own term for the bytes: nothing is compared byte by byte -/
theorem code_word {y : MethodName} {bytes : ByteArray} {mx : Nat} {rt : Option FieldType} {a : Array Value} {s : State} {m : MethodId} {meth : Method} {c : Code} (h1 : s.methodNamed? y = some m) (h2 : s.vm.method? m = some meth) (h3 : meth.code = some c) (h4 : c.code = bytes)
    (h5 : (c.maxLocals == mx && c.exceptionTable.isEmpty && decide (c.maxStack ≤ mostOperands) && decide (meth.sig.returnType = rt) && !meth.locks && decide (parseMethodDescriptor y.desc = some meth.sig)) = true) : (Jvm.Cond.code y bytes mx rt).before a s = true := by
  simp only [Bool.and_eq_true, beq_iff_eq, Bool.not_eq_true', decide_eq_true_eq] at h5
  obtain ⟨⟨⟨⟨⟨g1, g2⟩, g3⟩, g4⟩, g5⟩, g6⟩ := h5
  simp [Cond.before, Cond.holds, Cond.value, h1, h2, h3, h4, g1, g2, g3, g4, g5, g6]
def isCode : Jvm.Cond → Bool
  | .code _ _ _ _ => true
  | _ => false
theorem all_split {L : List Jvm.Cond} {P : Jvm.Cond → Bool} (h1 : L.all (fun c => isCode c || P c) = true) (h2 : ∀ c ∈ L.filter isCode, P c = true) : L.all P = true := by
  refine List.all_eq_true.mpr fun c hc => ?_
  have h := List.all_eq_true.mp h1 c hc
  rcases Bool.eq_false_or_eq_true (isCode c) with hi | hi
  · exact h2 c (List.mem_filter.mpr ⟨hc, hi⟩)
  · simpa [hi] using h
set_option maxRecDepth 65536 in
theorem w_c0 : (Jvm.Cond.code x code maxLocals ret).before args0 about1 = true := code_word (m := ⟨1, 1⟩) (meth := k1m1) (c := k1c1) (by decide +kernel) rfl rfl rfl (by decide +kernel)
set_option maxRecDepth 65536 in
theorem w_c1 : (Jvm.Cond.code ({ cls := "com/example/coracle/coracle/ServiceID", name := "<init>", desc := "(JJ)V" } : Jvm.MethodName) prog_109_method_1_code (5 : Nat) (Option.none : Option Jvm.ClassFile.FieldType)).before args0 about1 = true := code_word (m := ⟨3, 0⟩) (meth := k3m0) (c := k3c0) (by decide +kernel) rfl rfl rfl (by decide +kernel)
set_option maxRecDepth 65536 in
theorem w_c2 : (Jvm.Cond.code ({ cls := "java/lang/Object", name := "<init>", desc := "()V" } : Jvm.MethodName) object_method_1_code (1 : Nat) (Option.none : Option Jvm.ClassFile.FieldType)).before args0 about1 = true := code_word (m := ⟨0, 0⟩) (meth := k0m0) (c := k0c0) (by decide +kernel) rfl rfl rfl (by decide +kernel)
set_option maxRecDepth 65536 in
theorem w_c3 : (Jvm.Cond.code ({ cls := "com/example/coracle/coracle/ServiceID", name := "equals", desc := "(Ljava/lang/Object;)Z" } : Jvm.MethodName) prog_109_method_7_code (3 : Nat) (Option.some Jvm.ClassFile.FieldType.boolean)).before args0 about1 = true := code_word (m := ⟨3, 1⟩) (meth := k3m1) (c := k3c1) (by decide +kernel) rfl rfl rfl (by decide +kernel)
set_option maxRecDepth 65536 in
theorem w_c4 : (Jvm.Cond.code ({ cls := "java/lang/Long", name := "valueOf", desc := "(J)Ljava/lang/Long;" } : Jvm.MethodName) jdk_35_method_24_code (3 : Nat) (Option.some (Jvm.ClassFile.FieldType.object "java/lang/Long"))).before args0 about1 = true := code_word (m := ⟨8, 0⟩) (meth := k8m0) (c := k8c0) (by decide +kernel) rfl rfl rfl (by decide +kernel)
set_option maxRecDepth 65536 in
theorem w_c5 : (Jvm.Cond.code ({ cls := "java/lang/Long", name := "<init>", desc := "(J)V" } : Jvm.MethodName) jdk_35_method_26_code (3 : Nat) (Option.none : Option Jvm.ClassFile.FieldType)).before args0 about1 = true := code_word (m := ⟨8, 1⟩) (meth := k8m1) (c := k8c1) (by decide +kernel) rfl rfl rfl (by decide +kernel)
set_option maxRecDepth 65536 in
theorem w_c6 : (Jvm.Cond.code ({ cls := "java/lang/Number", name := "<init>", desc := "()V" } : Jvm.MethodName) jdk_18_method_1_code (1 : Nat) (Option.none : Option Jvm.ClassFile.FieldType)).before args0 about1 = true := code_word (m := ⟨5, 0⟩) (meth := k5m0) (c := k5c0) (by decide +kernel) rfl rfl rfl (by decide +kernel)
def codes1 : List Jvm.Cond := [Jvm.Cond.code x code maxLocals ret, Jvm.Cond.code ({ cls := "com/example/coracle/coracle/ServiceID", name := "<init>", desc := "(JJ)V" } : Jvm.MethodName) prog_109_method_1_code (5 : Nat) (Option.none : Option Jvm.ClassFile.FieldType), Jvm.Cond.code ({ cls := "java/lang/Object", name := "<init>", desc := "()V" } : Jvm.MethodName) object_method_1_code (1 : Nat) (Option.none : Option Jvm.ClassFile.FieldType), Jvm.Cond.code ({ cls := "com/example/coracle/coracle/ServiceID", name := "equals", desc := "(Ljava/lang/Object;)Z" } : Jvm.MethodName) prog_109_method_7_code (3 : Nat) (Option.some Jvm.ClassFile.FieldType.boolean), Jvm.Cond.code ({ cls := "java/lang/Long", name := "valueOf", desc := "(J)Ljava/lang/Long;" } : Jvm.MethodName) jdk_35_method_24_code (3 : Nat) (Option.some (Jvm.ClassFile.FieldType.object "java/lang/Long")), Jvm.Cond.code ({ cls := "java/lang/Long", name := "<init>", desc := "(J)V" } : Jvm.MethodName) jdk_35_method_26_code (3 : Nat) (Option.none : Option Jvm.ClassFile.FieldType), Jvm.Cond.code ({ cls := "java/lang/Number", name := "<init>", desc := "()V" } : Jvm.MethodName) jdk_18_method_1_code (1 : Nat) (Option.none : Option Jvm.ClassFile.FieldType)]
set_option maxRecDepth 65536 in
theorem codes_eq : words1.filter isCode = codes1 := rfl
theorem w_codes : ∀ c ∈ words1.filter isCode, c.before args0 about1 = true := by
  rw [codes_eq]
  intro c hc
  simp only [codes1, List.mem_cons, List.not_mem_nil, or_false] at hc
  rcases hc with rfl | rfl | rfl | rfl | rfl | rfl | rfl
  · exact w_c0
  · exact w_c1
  · exact w_c2
  · exact w_c3
  · exact w_c4
  · exact w_c5
  · exact w_c6
set_option maxRecDepth 65536 in
theorem w_t1 : (words1.take 24).all (fun c => isCode c || c.before args0 about1) = true := by decide +kernel
set_option maxRecDepth 65536 in
theorem w_t2 : (words1.drop 24).all (fun c => isCode c || c.before args0 about1) = true := by decide +kernel
theorem w_tables : (allAtoms (Jvm.Cond.code x code maxLocals ret :: tables_1)).before args0 about1 = true := by
  rw [allAtoms_all]
  show words1.all (fun c => c.before args0 about1) = true
  refine all_split ?_ w_codes
  rw [← List.take_append_drop 24 words1, List.all_append, w_t1, w_t2]
  rfl
set_option maxRecDepth 65536 in
theorem w_rest : rest_1_c.before args0 about1 = true := by decide +kernel
set_option maxRecDepth 65536 in
theorem w_case : (Jvm.Cond.and given_1 narrow_1).before args0 about1 = true := by decide +kernel
theorem w_applies : (headSpec (Jvm.Cond.code x code maxLocals ret :: tables_1) room_1).applies x e0.platform about1 = true :=
  (Spec.applies_iff w_frames).mpr ⟨w_running, w_runnable, w_alone, w_named, w_hears, w_ripe, w_room, w_tables⟩
theorem atStart : AtStart classFile x code maxLocals ret World_1 tables_1 room_1 Calls_1 rest_1 Pre_1 launch0 p0 e0 about1 theMethod args0 below0 :=
  ⟨lists_1, trivial, launch0.admits_env _ _ _, launch0.least_env, fairChoices_fair.cas, fairChoices_fair.clock, w_frames, w_args, w_heap, w_applies, trivial, w_rest, w_case⟩
end start1
theorem witness_1 : WitnessClaimed_1 := ⟨start1.p0, start1.e0, start1.about1, start1.theMethod, start1.args0, start1.below0, start1.atStart⟩
end Jvm.Pilot.@@N@@
